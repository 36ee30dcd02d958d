import JvmDerived
import JvmDerived.Pilot.@@N@@Statement
import JvmDerived.Pilot.@@N@@Code
set_option linter.unusedVariables false
set_option linter.unusedSimpArgs false
namespace Jvm.RoadKit
open Sem ClassFile Op Lib Jvm.Stand Jvm.Free Jvm.LawKit
section Own
variable {p : Program} {l : Launch} {e : Env} {R : Room} {s : State} {m : MethodId} {args : Array Value} {below : List Frame} {meth : Method} {c : Code} {T : State} {locs : List Loc} {cells slots : Nat}
theorem retI (X : Stand p l e R s m args below meth c T locs cells slots) (hx : p.tables.exec = Jvm.exec) {pc : Nat} {Ls : Array Slot} {z : Int32} {rest : List Value} (hret : meth.sig.returnType = some .int) (hd : decode c.code pc = .ok (.ireturn, 1)) {fs : List Frame}
    (hl : ∀ (f : JFrame) (acts : List Action), f.method = m → f.locked = none → f.entered = [] → (doReturn e (T.setTop f) acts (some (.int z))).1 = T.setFrames fs) : Steps p.tables e below (T.setTop (mkF m pc Ls (.int z :: rest))) (T.setFrames fs) := by
  have hm' : T.vm.method? m = some meth := X.method'
  have hn : narrow .int (.int z) = .int z := rfl
  show Steps p.tables e below (T.setTop { method := m, pc := pc, locals := Ls, stack := _ :: rest, locked := none }) _
  jvm_step X.here [X.here.top, hx, hd, hm', hret, hn]
  first | (intro acts; rw [hl _ acts rfl rfl rfl]) | rw [hl _ _ rfl rfl rfl]
  exact Steps.refl _
/-- the walk comes to an end, with what Φ says there -/
def Goes (p : Program) (e : Env) (below : List Frame) (Φ : State → Outcome → Prop) (S : State) : Prop := ∃ s₂ o, Steps p.tables e below S s₂ ∧ s₂.status = .running ∧ Ended s₂ below o ∧ Φ s₂ o
theorem Goes.via {Φ : State → Outcome → Prop} {S S' : State} (k : ∀ t, Steps p.tables e below S' t → Steps p.tables e below S t) (h : Goes p e below Φ S') : Goes p e below Φ S := by
  obtain ⟨s₂, o, h1, h2, h3, h4⟩ := h
  exact ⟨s₂, o, k _ h1, h2, h3, h4⟩
/-- what a contract's end says -/
def Fin (s : State) (Q : Option Value → Heap → List Loc → Prop) (C S : Nat) : State → Outcome → Prop := fun s₂ o => ∃ v L, o = .returned v ∧ Q v s₂.heap L ∧ FrameEnd s o s₂ L C S
theorem Goes.retN (X : Stand p l e R s m args below meth c T locs cells slots) (hx : p.tables.exec = Jvm.exec) (hlocks : meth.locks = false) {pc : Nat} {Ls : Array Slot} {z : Int32} {t : FieldType} {rest : List Value} (hret : meth.sig.returnType = some t) (ht : t = .boolean ∨ t = .byte ∨ t = .char ∨ t = .short)
    (hd : decode c.code pc = .ok (.ireturn, 1)) {Q : Option Value → Heap → List Loc → Prop} {C S : Nat} (hc : cells ≤ C) (hs : slots ≤ S) (hQ : Q (some (.int (nar t z))) T.heap locs) : Goes p e below (Fin s Q C S) (T.setTop (mkF m pc Ls (.int z :: rest))) := by
  obtain ⟨fs, hr, hrun, hended, hW, hsame⟩ := X.leave (v := some (.int (nar t z))) (fun h => by rw [hret] at h; cases h) hlocks
  exact ⟨_, _, Jvm.RoadKit.retN X hx hret ht hd hr, hrun, hended, _, _, rfl, hQ, ⟨_, rfl⟩, hW, hsame.mono hc hs⟩
theorem Goes.retI (X : Stand p l e R s m args below meth c T locs cells slots) (hx : p.tables.exec = Jvm.exec) (hlocks : meth.locks = false) {pc : Nat} {Ls : Array Slot} {z : Int32} {rest : List Value} (hret : meth.sig.returnType = some .int)
    (hd : decode c.code pc = .ok (.ireturn, 1)) {Q : Option Value → Heap → List Loc → Prop} {C S : Nat} (hc : cells ≤ C) (hs : slots ≤ S) (hQ : Q (some (.int z)) T.heap locs) : Goes p e below (Fin s Q C S) (T.setTop (mkF m pc Ls (.int z :: rest))) := by
  obtain ⟨fs, hr, hrun, hended, hW, hsame⟩ := X.leave (v := some (.int z)) (fun h => by rw [hret] at h; cases h) hlocks
  exact ⟨_, _, Jvm.RoadKit.retI X hx hret hd hr, hrun, hended, _, _, rfl, hQ, ⟨_, rfl⟩, hW, hsame.mono hc hs⟩
theorem Goes.retO (X : Stand p l e R s m args below meth c T locs cells slots) (hx : p.tables.exec = Jvm.exec) (hlocks : meth.locks = false) {pc : Nat} {Ls : Array Slot} {w : Value} {t : FieldType} {i : Instr} {rest : List Value} (hret : meth.sig.returnType = some t) (hn : narrow t w = w)
    (hi : (i = .ireturn ∧ (t = .int ∨ t = .boolean ∨ t = .byte ∨ t = .char ∨ t = .short) ∧ ∃ z, w = .int z) ∨ (i = .lreturn ∧ t = .long ∧ ∃ z, w = .long z) ∨ (i = .dreturn ∧ t = .double ∧ ∃ z, w = .double z) ∨ (i = .freturn ∧ t = .float ∧ ∃ z, w = .float z) ∨ (i = .areturn ∧ t.isReference = true ∧ w.isRef = true))
    (hd : decode c.code pc = .ok (i, 1)) {Q : Option Value → Heap → List Loc → Prop} {C S : Nat} (hc : cells ≤ C) (hs : slots ≤ S) (hQ : Q (some w) T.heap locs) : Goes p e below (Fin s Q C S) (T.setTop (mkF m pc Ls (w :: rest))) := by
  obtain ⟨fs, hr, hrun, hended, hW, hsame⟩ := X.leave (v := some w) (fun h => by rw [hret] at h; cases h) hlocks
  exact ⟨_, _, Jvm.RoadKit.retOut X hx hret hn hi hd hr, hrun, hended, _, _, rfl, hQ, ⟨_, rfl⟩, hW, hsame.mono hc hs⟩
theorem Goes.retV (X : Stand p l e R s m args below meth c T locs cells slots) (hx : p.tables.exec = Jvm.exec) (hlocks : meth.locks = false) {pc : Nat} {Ls : Array Slot} (hret : meth.sig.returnType = none)
    (hd : decode c.code pc = .ok (.return_, 1)) {Q : Option Value → Heap → List Loc → Prop} {C S : Nat} (hc : cells ≤ C) (hs : slots ≤ S) (hQ : Q none T.heap locs) : Goes p e below (Fin s Q C S) (T.setTop (mkF m pc Ls [])) := by
  obtain ⟨fs, hr, hrun, hended, hW, hsame⟩ := X.leave (v := none) (fun _ => rfl) hlocks
  exact ⟨_, _, X.returnOut hx hret hd hr, hrun, hended, _, _, rfl, hQ, ⟨_, rfl⟩, hW, hsame.mono hc hs⟩
/-- room counted generously -/
theorem moreRoom (X : Stand p l e R s m args below meth c T locs cells slots) {k n : Nat} (h1 : cells ≤ k) (h2 : slots ≤ n) : Stand p l e R s m args below meth c T locs k n := { X with same := X.same.mono h1 h2 }
theorem exa_static {args : Array Value} {s : State} {C n d K : String} (h : (Jvm.Cond.exactly (Jvm.Term.static C n d) K).value args s none s [] = some true) : ∃ b, (Jvm.Term.static C n d).eval args s none [] s = some (.ref b) ∧ Exa s s.heap b K := by
  obtain ⟨b, e1⟩ := exa_v h
  exact ⟨b, e1, Exa.start e1 h⟩
theorem fld_static {args : Array Value} {s : State} {t : Jvm.Term} {b : Addr} {C n d : String} {k : Int32} (ev : t.eval args s none [] s = some (.ref b)) (h : (Jvm.Cond.eq (Jvm.Term.field t C n d) (Jvm.Term.int k)).value args s none s [] = some true) : Fld s s.heap b C n d (.int k) := by
  exact Fld.start ((fld_at ev).symm.trans (eqv_i (Term.int_eval k) h))
theorem cat_ref {v : Value} (h : v.isRef = true) : v.category = 1 := by rcases ref_cases h with rfl | ⟨_, rfl⟩ <;> rfl
theorem narrow_ref {v : Value} {t : FieldType} (h : v.isRef = true) : narrow t v = v := by rcases ref_cases h with rfl | ⟨_, rfl⟩ <;> cases t <;> rfl
theorem fits_refO {v : Value} {C : String} (h : v.isRef = true) : fits (.object C) v = true := by rcases ref_cases h with rfl | ⟨_, rfl⟩ <;> rfl
theorem fld_null {args : Array Value} {s : State} {t : Jvm.Term} {b : Addr} {C n d : String} (ev : t.eval args s none [] s = some (.ref b)) (h : (Jvm.Cond.eq (Jvm.Term.field t C n d) Jvm.Term.null).value args s none s [] = some true) : Fld s s.heap b C n d .null := Fld.start ((fld_at ev).symm.trans (null_v h))
theorem ret1 {z : Int32} (h : z = 1) : some (Value.int (nar .boolean z)) = some (.int 1) := by subst h; rfl
end Own
end Jvm.RoadKit
namespace Jvm.Pilot.@@N@@
open Jvm Jvm.ClassFile Sem Op Lib Jvm.Free Jvm.Stand Jvm.LawKit Jvm.RoadKit Bundle Jvm.Pilot.@@N@@.Jvm.D
theorem pd_0 : parseMethodDescriptor "(I)Lcom/example/embercast/embercast/node/CopyRule;" = some ⟨[.int], some (.object "com/example/embercast/embercast/node/CopyRule")⟩ := by decide +kernel
theorem pd_1 : parseMethodDescriptor "(II)Z" = some ⟨[.int, .int], some .boolean⟩ := by decide +kernel
theorem d1_0 : decode method_2_code 0 = .ok (.iload_n 0, 1) := by decide +kernel
theorem d1_1 : decode method_2_code 1 = .ok (.ifCond .ne 7, 3) := by decide +kernel
theorem d1_4 : decode method_2_code 4 = .ok (.getstatic 7, 3) := by decide +kernel
theorem d1_7 : decode method_2_code 7 = .ok (.areturn, 1) := by decide +kernel
theorem d1_8 : decode method_2_code 8 = .ok (.iload_n 0, 1) := by decide +kernel
theorem d1_9 : decode method_2_code 9 = .ok (.iconst 1, 1) := by decide +kernel
theorem d1_10 : decode method_2_code 10 = .ok (.if_icmp .ne 7, 3) := by decide +kernel
theorem d1_13 : decode method_2_code 13 = .ok (.getstatic 13, 3) := by decide +kernel
theorem d1_16 : decode method_2_code 16 = .ok (.areturn, 1) := by decide +kernel
theorem d1_17 : decode method_2_code 17 = .ok (.getstatic 16, 3) := by decide +kernel
theorem d1_20 : decode method_2_code 20 = .ok (.areturn, 1) := by decide +kernel
theorem pn_1 : plainName "com/example/embercast/embercast/node/CopyRuleKeepsAtPinLaw" = true := by first | (simp [plainName, overriddenIn]; done) | decide +kernel
theorem ef_1 (m : MethodId) (x0 : Int32) : entryFrame m #[(.int x0)] 1 = mkF m 0 #[.val (.int x0)] [] := by first | (simp [entryFrame, mkF, argsToLocals, Value.category]; done) | rfl
def Q_rm1 (Z : State) (p1 : Int32) (bA : Addr) (bE : Addr) (bP : Addr) (h0 : Heap) (n0 : Nat) : Option Value → Heap → List Loc → Prop := fun v h L => v = some (.ref (if p1 = (0 : Int32) then bA else if p1 = (1 : Int32) then bE else bP)) ∧ Fr n0 L ∧ h = h0
set_option maxRecDepth 65536 in
set_option maxHeartbeats 40000000 in
theorem rm1 (l : Launch) (Z : State) (a0 : Array Value) (hw : ∀ d ∈ tables_1, d.before a0 Z = true) (ws : List Jvm.Cond) (p1 : Int32) (bA : Addr) (bE : Addr) (bP : Addr) (h0 : Heap) (n0 : Nat) (Z0 : n0 ≤ h0.size) (S_ALONE : Sta Z h0 "com/example/embercast/embercast/node/CopyRule" "ALONE" "Lcom/example/embercast/embercast/node/CopyRule;" (.ref bA)) (S_EGO : Sta Z h0 "com/example/embercast/embercast/node/CopyRule" "EGO" "Lcom/example/embercast/embercast/node/CopyRule;" (.ref bE)) (S_POOLED : Sta Z h0 "com/example/embercast/embercast/node/CopyRule" "POOLED" "Lcom/example/embercast/embercast/node/CopyRule;" (.ref bP)) :
    MetFree l (⟨"com/example/embercast/embercast/node/CopyRuleKeepsAtPinLaw", "pick", "(I)Lcom/example/embercast/embercast/node/CopyRule;"⟩ : MethodName) (head1 (Jvm.Cond.code (⟨"com/example/embercast/embercast/node/CopyRuleKeepsAtPinLaw", "pick", "(I)Lcom/example/embercast/embercast/node/CopyRule;"⟩ : MethodName) method_2_code 1 (some (.object "com/example/embercast/embercast/node/CopyRule")) :: ws) ({ frames := 0, cells := 0, slots := 0, locals := 0 } : Room)) (fun a U => a = #[(.int p1)] ∧ Z.Warmed39 U.vm ∧ U.heap = h0) (fun _ _ _ _ _ => True) (fun _ U o U' => ∃ v L, o = .returned v ∧ (Q_rm1 Z p1 bA bE bP h0 n0) v U'.heap L ∧ FrameEnd U o U' L ({ frames := 0, cells := 0, slots := 0, locals := 0 } : Room).cells ({ frames := 0, cells := 0, slots := 0, locals := 0 } : Room).slots) := by
  refine MetFree.of_bodySF (plainFor_of_name pn_1) hisR ?_
  intro p e s m args below meth c s₁ Bd hml0 hP hK
  obtain ⟨rfl, hZ, hh⟩ := hP
  have hx := Bd.exec
  have hby := Bd.bytes
  have hml : c.maxLocals = 1 := hml0
  have hown : s.vm.findClass "com/example/embercast/embercast/node/CopyRuleKeepsAtPinLaw" = some m.cls := findClass_of_methodNamed Bd.named
  have hnm := (name_of_methodNamed Bd.named Bd.method).1
  have X0 : Stand p l e ({ frames := 0, cells := 0, slots := 0, locals := 0 } : Room) s m #[(.int p1)] below meth c s₁ [] 0 0 := Stand.of_body Bd
  have e0 : s₁.heap = h0 := by rw [← hh, Bd.state]; rfl
  have N0 := Fr.nil n0
  show Goes p e below (Fin s (Q_rm1 Z p1 bA bE bP h0 n0) ({ frames := 0, cells := 0, slots := 0, locals := 0 } : Room).cells ({ frames := 0, cells := 0, slots := 0, locals := 0 } : Room).slots) _
  refine Goes.via (S' := s₁.setTop (mkF m 0 #[.val (.int p1)] [])) (fun tz kz => castTop (ef_1 m p1 ) kz) ?_
  refine Goes.via (S' := s₁.setTop (mkF m 1 #[.val (.int p1)] [(.int p1)])) (fun tz kz => ?_) ?_
  · show Steps p.tables e below (s₁.setTop (mkF m 0 #[.val (.int p1)] [])) _
    refine XS.iloadN X0.here hx rfl (hb hby d1_0) rfl ?_
    exact kz
  by_cases hc1_1 : p1 = (0 : Int32)
  · refine Goes.via (S' := s₁.setTop (mkF m 4 #[.val (.int p1)] [])) (fun tz kz => ?_) ?_
    · show Steps p.tables e below (s₁.setTop (mkF m 1 #[.val (.int p1)] [(.int p1)])) _
      refine XS.ifNo X0.here hx rfl (hb hby d1_1) rfl ((if0 _ _).trans (teq hc1_1).2) ?_
      exact kz
    obtain ⟨T2, X2, e2, st2⟩ := getS2 X0 hx hZ hown (host := "") (Or.inl (hw _ (List.mem_of_getElem? (i := 5) rfl))) Via.refl e0 S_ALONE (g := (mkF m 4 #[.val (.int p1)] [])) rfl (hb hby d1_4)
    refine Goes.via (S' := T2.setTop (mkF m 7 #[.val (.int p1)] [(.ref bA)])) st2 ?_
    exact Goes.retO X2 hx Bd.notSynchronized Bd.returns rfl (Or.inr (Or.inr (Or.inr (Or.inr ⟨rfl, rfl, rfl⟩)))) (hb hby d1_7) (Nat.le_of_ble_eq_true rfl) (Nat.le_of_ble_eq_true rfl) ⟨(congrArg (fun z => some (Value.ref z)) (by rw [if_pos hc1_1] <;> rfl)).symm, N0, e2⟩
  · refine Goes.via (S' := s₁.setTop (mkF m 10 #[.val (.int p1)] [(.int (1 : Int32)), (.int p1)])) (fun tz kz => ?_) ?_
    · show Steps p.tables e below (s₁.setTop (mkF m 1 #[.val (.int p1)] [(.int p1)])) _
      refine XS.ifYes X0.here hx rfl (pc0 := 1) (pc' := 8) rfl (hb hby d1_1) rfl ((if0 _ _).trans (feq hc1_1).2) (by decide) (by decide) ?_
      show Steps p.tables e below (s₁.setTop (mkF m 8 #[.val (.int p1)] [])) _
      refine XS.iloadN X0.here hx rfl (hb hby d1_8) rfl ?_
      show Steps p.tables e below (s₁.setTop (mkF m 9 #[.val (.int p1)] [(.int p1)])) _
      refine XS.iconst X0.here hx rfl (hb hby d1_9) ?_
      exact kz
    by_cases hc10_3 : p1 = (1 : Int32)
    · refine Goes.via (S' := s₁.setTop (mkF m 13 #[.val (.int p1)] [])) (fun tz kz => ?_) ?_
      · show Steps p.tables e below (s₁.setTop (mkF m 10 #[.val (.int p1)] [(.int (1 : Int32)), (.int p1)])) _
        refine XS.icmpNo X0.here hx rfl (hb hby d1_10) rfl (teq hc10_3).2 ?_
        exact kz
      obtain ⟨T4, X4, e4, st4⟩ := getS2 X0 hx hZ hown (host := "") (Or.inl (hw _ (List.mem_of_getElem? (i := 15) rfl))) Via.refl e0 S_EGO (g := (mkF m 13 #[.val (.int p1)] [])) rfl (hb hby d1_13)
      refine Goes.via (S' := T4.setTop (mkF m 16 #[.val (.int p1)] [(.ref bE)])) st4 ?_
      exact Goes.retO X4 hx Bd.notSynchronized Bd.returns rfl (Or.inr (Or.inr (Or.inr (Or.inr ⟨rfl, rfl, rfl⟩)))) (hb hby d1_16) (Nat.le_of_ble_eq_true rfl) (Nat.le_of_ble_eq_true rfl) ⟨(congrArg (fun z => some (Value.ref z)) (by rw [if_neg hc1_1, if_pos hc10_3] <;> rfl)).symm, N0, e4⟩
    · refine Goes.via (S' := s₁.setTop (mkF m 17 #[.val (.int p1)] [])) (fun tz kz => ?_) ?_
      · show Steps p.tables e below (s₁.setTop (mkF m 10 #[.val (.int p1)] [(.int (1 : Int32)), (.int p1)])) _
        refine XS.icmpYes X0.here hx rfl (pc0 := 10) (pc' := 17) rfl (hb hby d1_10) rfl (feq hc10_3).2 (by decide) (by decide) ?_
        exact kz
      obtain ⟨T5, X5, e5, st5⟩ := getS2 X0 hx hZ hown (host := "") (Or.inl (hw _ (List.mem_of_getElem? (i := 17) rfl))) Via.refl e0 S_POOLED (g := (mkF m 17 #[.val (.int p1)] [])) rfl (hb hby d1_17)
      refine Goes.via (S' := T5.setTop (mkF m 20 #[.val (.int p1)] [(.ref bP)])) st5 ?_
      exact Goes.retO X5 hx Bd.notSynchronized Bd.returns rfl (Or.inr (Or.inr (Or.inr (Or.inr ⟨rfl, rfl, rfl⟩)))) (hb hby d1_20) (Nat.le_of_ble_eq_true rfl) (Nat.le_of_ble_eq_true rfl) ⟨(congrArg (fun z => some (Value.ref z)) (by rw [if_neg hc1_1, if_neg hc10_3] <;> rfl)).symm, N0, e5⟩
theorem d2_0 : decode prog_60_method_5_code 0 = .ok (.aload_n 0, 1) := by decide +kernel
theorem d2_1 : decode prog_60_method_5_code 1 = .ok (.getstatic 10, 3) := by decide +kernel
theorem d2_4 : decode prog_60_method_5_code 4 = .ok (.if_acmp .ne 8, 3) := by decide +kernel
theorem d2_7 : decode prog_60_method_5_code 7 = .ok (.iload_n 1, 1) := by decide +kernel
theorem d2_8 : decode prog_60_method_5_code 8 = .ok (.iload_n 2, 1) := by decide +kernel
theorem d2_9 : decode prog_60_method_5_code 9 = .ok (.if_icmp .ne 7, 3) := by decide +kernel
theorem d2_12 : decode prog_60_method_5_code 12 = .ok (.iconst 1, 1) := by decide +kernel
theorem d2_13 : decode prog_60_method_5_code 13 = .ok (.goto 4, 3) := by decide +kernel
theorem d2_16 : decode prog_60_method_5_code 16 = .ok (.iconst 0, 1) := by decide +kernel
theorem d2_17 : decode prog_60_method_5_code 17 = .ok (.ireturn, 1) := by decide +kernel
theorem pn_2 : plainName "com/example/embercast/embercast/node/CopyRule" = true := by first | (simp [plainName, overriddenIn]; done) | decide +kernel
theorem ef_2 (m : MethodId) (x0 : Addr) (x1 : Int32) (x2 : Int32) : entryFrame m #[(.ref x0), (.int x1), (.int x2)] 3 = mkF m 0 #[.val (.ref x0), .val (.int x1), .val (.int x2)] [] := by first | (simp [entryFrame, mkF, argsToLocals, Value.category]; done) | rfl
def Q_rm2 (Z : State) (a1 : Addr) (p2 : Int32) (p3 : Int32) (bP : Addr) (h0 : Heap) (n0 : Nat) : Option Value → Heap → List Loc → Prop := fun v h L => v = some (.int (if a1 = bP then (if p2 = p3 then (1 : Int32) else 0) else 1)) ∧ Fr n0 L ∧ h = h0
set_option maxRecDepth 65536 in
set_option maxHeartbeats 40000000 in
theorem rm2 (l : Launch) (Z : State) (a0 : Array Value) (hw : ∀ d ∈ tables_1, d.before a0 Z = true) (ws : List Jvm.Cond) (a1 : Addr) (p2 : Int32) (p3 : Int32) (bP : Addr) (h0 : Heap) (n0 : Nat) (Z0 : n0 ≤ h0.size) (S_POOLED : Sta Z h0 "com/example/embercast/embercast/node/CopyRule" "POOLED" "Lcom/example/embercast/embercast/node/CopyRule;" (.ref bP)) :
    MetFree l (⟨"com/example/embercast/embercast/node/CopyRule", "keepsAt", "(II)Z"⟩ : MethodName) (head1 (Jvm.Cond.code (⟨"com/example/embercast/embercast/node/CopyRule", "keepsAt", "(II)Z"⟩ : MethodName) prog_60_method_5_code 3 (some .boolean) :: ws) ({ frames := 0, cells := 0, slots := 0, locals := 0 } : Room)) (fun a U => a = #[(.ref a1), (.int p2), (.int p3)] ∧ Z.Warmed39 U.vm ∧ U.heap = h0) (fun _ _ _ _ _ => True) (fun _ U o U' => ∃ v L, o = .returned v ∧ (Q_rm2 Z a1 p2 p3 bP h0 n0) v U'.heap L ∧ FrameEnd U o U' L ({ frames := 0, cells := 0, slots := 0, locals := 0 } : Room).cells ({ frames := 0, cells := 0, slots := 0, locals := 0 } : Room).slots) := by
  refine MetFree.of_bodySF (plainFor_of_name pn_2) hisR ?_
  intro p e s m args below meth c s₁ Bd hml0 hP hK
  obtain ⟨rfl, hZ, hh⟩ := hP
  have hx := Bd.exec
  have hby := Bd.bytes
  have hml : c.maxLocals = 3 := hml0
  have hown : s.vm.findClass "com/example/embercast/embercast/node/CopyRule" = some m.cls := findClass_of_methodNamed Bd.named
  have hnm := (name_of_methodNamed Bd.named Bd.method).1
  have X0 : Stand p l e ({ frames := 0, cells := 0, slots := 0, locals := 0 } : Room) s m #[(.ref a1), (.int p2), (.int p3)] below meth c s₁ [] 0 0 := Stand.of_body Bd
  have e0 : s₁.heap = h0 := by rw [← hh, Bd.state]; rfl
  have N0 := Fr.nil n0
  show Goes p e below (Fin s (Q_rm2 Z a1 p2 p3 bP h0 n0) ({ frames := 0, cells := 0, slots := 0, locals := 0 } : Room).cells ({ frames := 0, cells := 0, slots := 0, locals := 0 } : Room).slots) _
  refine Goes.via (S' := s₁.setTop (mkF m 0 #[.val (.ref a1), .val (.int p2), .val (.int p3)] [])) (fun tz kz => castTop (ef_2 m a1 p2 p3 ) kz) ?_
  refine Goes.via (S' := s₁.setTop (mkF m 1 #[.val (.ref a1), .val (.int p2), .val (.int p3)] [(.ref a1)])) (fun tz kz => ?_) ?_
  · show Steps p.tables e below (s₁.setTop (mkF m 0 #[.val (.ref a1), .val (.int p2), .val (.int p3)] [])) _
    refine XS.aloadN X0.here hx rfl (hb hby d2_0) rfl rfl ?_
    exact kz
  obtain ⟨T1, X1, e1, st1⟩ := getS2 X0 hx hZ hown (host := "") (Or.inl (hw _ (List.mem_of_getElem? (i := 13) rfl))) Via.refl e0 S_POOLED (g := (mkF m 1 #[.val (.ref a1), .val (.int p2), .val (.int p3)] [(.ref a1)])) rfl (hb hby d2_1)
  refine Goes.via (S' := T1.setTop (mkF m 4 #[.val (.ref a1), .val (.int p2), .val (.int p3)] [(.ref bP), (.ref a1)])) st1 ?_
  by_cases hc4_2 : a1 = bP
  · refine Goes.via (S' := T1.setTop (mkF m 9 #[.val (.ref a1), .val (.int p2), .val (.int p3)] [(.int p3), (.int p2)])) (fun tz kz => ?_) ?_
    · show Steps p.tables e below (T1.setTop (mkF m 4 #[.val (.ref a1), .val (.int p2), .val (.int p3)] [(.ref bP), (.ref a1)])) _
      refine Jvm.RoadKit.acmp (g := (mkF m 4 #[.val (.ref a1), .val (.int p2), .val (.int p3)] [(.ref bP), (.ref a1)])) X1 hx rfl rfl rfl (pc0 := 4) (pc' := 7) (same := true) rfl (hb hby d2_4) rfl (decide_eq_true (congrArg Value.ref hc4_2)) (by decide) (by decide) ?_
      show Steps p.tables e below (T1.setTop (mkF m 7 #[.val (.ref a1), .val (.int p2), .val (.int p3)] [])) _
      refine XS.iloadN X1.here hx rfl (hb hby d2_7) rfl ?_
      show Steps p.tables e below (T1.setTop (mkF m 8 #[.val (.ref a1), .val (.int p2), .val (.int p3)] [(.int p2)])) _
      refine XS.iloadN X1.here hx rfl (hb hby d2_8) rfl ?_
      exact kz
    by_cases hc9_3 : p2 = p3
    · refine Goes.via (S' := T1.setTop (mkF m 17 #[.val (.ref a1), .val (.int p2), .val (.int p3)] [(.int (1 : Int32))])) (fun tz kz => ?_) ?_
      · show Steps p.tables e below (T1.setTop (mkF m 9 #[.val (.ref a1), .val (.int p2), .val (.int p3)] [(.int p3), (.int p2)])) _
        refine XS.icmpNo X1.here hx rfl (hb hby d2_9) rfl (teq hc9_3).2 ?_
        show Steps p.tables e below (T1.setTop (mkF m 12 #[.val (.ref a1), .val (.int p2), .val (.int p3)] [])) _
        refine XS.iconst X1.here hx rfl (hb hby d2_12) ?_
        show Steps p.tables e below (T1.setTop (mkF m 13 #[.val (.ref a1), .val (.int p2), .val (.int p3)] [(.int (1 : Int32))])) _
        refine XS.goto X1.here hx rfl (pc0 := 13) (pc' := 17) rfl (hb hby d2_13) (by decide) (by decide) ?_
        exact kz
      exact Goes.retN X1 hx Bd.notSynchronized (t := .boolean) Bd.returns (by simp) (hb hby d2_17) (Nat.le_of_ble_eq_true rfl) (Nat.le_of_ble_eq_true rfl) ⟨(congrArg (fun z => some (Value.int z)) (by rw [if_pos hc4_2, if_pos hc9_3] <;> rfl)).symm, N0, e1⟩
    · refine Goes.via (S' := T1.setTop (mkF m 17 #[.val (.ref a1), .val (.int p2), .val (.int p3)] [(.int (0 : Int32))])) (fun tz kz => ?_) ?_
      · show Steps p.tables e below (T1.setTop (mkF m 9 #[.val (.ref a1), .val (.int p2), .val (.int p3)] [(.int p3), (.int p2)])) _
        refine XS.icmpYes X1.here hx rfl (pc0 := 9) (pc' := 16) rfl (hb hby d2_9) rfl (feq hc9_3).2 (by decide) (by decide) ?_
        show Steps p.tables e below (T1.setTop (mkF m 16 #[.val (.ref a1), .val (.int p2), .val (.int p3)] [])) _
        refine XS.iconst X1.here hx rfl (hb hby d2_16) ?_
        exact kz
      exact Goes.retN X1 hx Bd.notSynchronized (t := .boolean) Bd.returns (by simp) (hb hby d2_17) (Nat.le_of_ble_eq_true rfl) (Nat.le_of_ble_eq_true rfl) ⟨(congrArg (fun z => some (Value.int z)) (by rw [if_pos hc4_2, if_neg hc9_3] <;> rfl)).symm, N0, e1⟩
  · refine Goes.via (S' := T1.setTop (mkF m 17 #[.val (.ref a1), .val (.int p2), .val (.int p3)] [(.int (1 : Int32))])) (fun tz kz => ?_) ?_
    · show Steps p.tables e below (T1.setTop (mkF m 4 #[.val (.ref a1), .val (.int p2), .val (.int p3)] [(.ref bP), (.ref a1)])) _
      refine Jvm.RoadKit.acmp (g := (mkF m 4 #[.val (.ref a1), .val (.int p2), .val (.int p3)] [(.ref bP), (.ref a1)])) X1 hx rfl rfl rfl (pc0 := 4) (pc' := 12) (same := false) rfl (hb hby d2_4) rfl (decide_eq_false fun q => hc4_2 (Value.ref.inj q)) (by decide) (by decide) ?_
      show Steps p.tables e below (T1.setTop (mkF m 12 #[.val (.ref a1), .val (.int p2), .val (.int p3)] [])) _
      refine XS.iconst X1.here hx rfl (hb hby d2_12) ?_
      show Steps p.tables e below (T1.setTop (mkF m 13 #[.val (.ref a1), .val (.int p2), .val (.int p3)] [(.int (1 : Int32))])) _
      refine XS.goto X1.here hx rfl (pc0 := 13) (pc' := 17) rfl (hb hby d2_13) (by decide) (by decide) ?_
      exact kz
    exact Goes.retN X1 hx Bd.notSynchronized (t := .boolean) Bd.returns (by simp) (hb hby d2_17) (Nat.le_of_ble_eq_true rfl) (Nat.le_of_ble_eq_true rfl) ⟨(congrArg (fun z => some (Value.int z)) (by rw [if_neg hc4_2] <;> rfl)).symm, N0, e1⟩
theorem own_sel (k : Int32) : (k &&& (2147483647 : Int32)) % (3 : Int32) = 0 ∨ (k &&& (2147483647 : Int32)) % (3 : Int32) = 1 ∨ (k &&& (2147483647 : Int32)) % (3 : Int32) = 2 := by
  have h1 := c_and k 2147483647 (by decide)
  have h2 := (c_irem (k &&& (2147483647 : Int32)) 3 3 (by decide)).1 h1.1
  have h3 : ((k &&& (2147483647 : Int32)) % (3 : Int32)).toInt = 0 ∨ ((k &&& (2147483647 : Int32)) % (3 : Int32)).toInt = 1 ∨ ((k &&& (2147483647 : Int32)) % (3 : Int32)).toInt = 2 := by omega
  rcases h3 with h | h | h
  · exact Or.inl (Int32.toInt_inj.mp h)
  · exact Or.inr (Or.inl (Int32.toInt_inj.mp h))
  · exact Or.inr (Or.inr (Int32.toInt_inj.mp h))
theorem own_law {sel node home r : Int32} {bA bE bP : Addr} (hs : sel = 0 ∨ sel = 1 ∨ sel = 2) (hA : bA ≠ bP) (hE : bE ≠ bP) (hr : r = (if sel = 2 then (if node = home then 1 else 0) else 1)) : (if (if sel = 0 then bA else if sel = 1 then bE else bP) = bP then (if node = home then (1 : Int32) else 0) else 1) = r := by
  subst hr
  rcases hs with rfl | rfl | rfl <;> simp [hA, hE]
theorem own_exa {Z : State} {h : Heap} {C : String} {P Q : Prop} [Decidable P] [Decidable Q] {a b c : Addr} (h1 : Exa Z h a C) (h2 : Exa Z h b C) (h3 : Exa Z h c C) : Exa Z h (if P then a else if Q then b else c) C := by split <;> (try split) <;> assumption
theorem pn_0 : plainName "com/example/embercast/embercast/node/CopyRuleKeepsAtPinLaw" = true := by first | (simp [plainName, overriddenIn]; done) | decide +kernel
theorem ef_0 (m : MethodId) (x0 : Int32) (x1 : Int32) (x2 : Int32) (x3 : Int32) : entryFrame m #[(.int x0), (.int x1), (.int x2), (.int x3)] maxLocals = mkF m 0 #[.val (.int x0), .val (.int x1), .val (.int x2), .val (.int x3), .unset, .unset, .unset, .unset] [] := by first | (simp [entryFrame, mkF, argsToLocals, Value.category, maxLocals]; done) | rfl
def Q_rm0 (Z : State) (p1 : Int32) (p2 : Int32) (p3 : Int32) (p4 : Int32) (bA : Addr) (bE : Addr) (bP : Addr) (h0 : Heap) (n0 : Nat) : Option Value → Heap → List Loc → Prop := fun v h L => v = some (.int 1) ∧ Fr n0 L
set_option maxRecDepth 65536 in
set_option maxHeartbeats 40000000 in
theorem rm0 (l : Launch) (Z : State) (a0 : Array Value) (hw : ∀ d ∈ tables_1, d.before a0 Z = true) (ws : List Jvm.Cond) (p1 : Int32) (p2 : Int32) (p3 : Int32) (p4 : Int32) (bA : Addr) (bE : Addr) (bP : Addr) (h0 : Heap) (n0 : Nat) (Z0 : n0 ≤ h0.size) (S_ALONE : Sta Z h0 "com/example/embercast/embercast/node/CopyRule" "ALONE" "Lcom/example/embercast/embercast/node/CopyRule;" (.ref bA)) (E0 : Exa Z h0 bA "com/example/embercast/embercast/node/CopyRule") (S_EGO : Sta Z h0 "com/example/embercast/embercast/node/CopyRule" "EGO" "Lcom/example/embercast/embercast/node/CopyRule;" (.ref bE)) (E1 : Exa Z h0 bE "com/example/embercast/embercast/node/CopyRule") (S_POOLED : Sta Z h0 "com/example/embercast/embercast/node/CopyRule" "POOLED" "Lcom/example/embercast/embercast/node/CopyRule;" (.ref bP)) (E2 : Exa Z h0 bP "com/example/embercast/embercast/node/CopyRule") (hA : bA ≠ bP) (hE : bE ≠ bP) :
    MetFree l x (head1 (Jvm.Cond.code x code maxLocals ret :: ws) room_1) (fun a U => a = #[(.int p1), (.int p2), (.int p3), (.int p4)] ∧ Z.Warmed39 U.vm ∧ U.heap = h0) (fun _ _ _ _ _ => True) (fun _ U o U' => ∃ v L, o = .returned v ∧ (Q_rm0 Z p1 p2 p3 p4 bA bE bP h0 n0) v U'.heap L ∧ FrameEnd U o U' L room_1.cells room_1.slots) := by
  refine MetFree.of_bodySF (plainFor_of_name pn_0) hisR ?_
  intro p e s m args below meth c s₁ Bd hml0 hP hK
  obtain ⟨rfl, hZ, hh⟩ := hP
  have hx := Bd.exec
  have hby := Bd.bytes
  have hml : c.maxLocals = 8 := hml0
  have hown : s.vm.findClass "com/example/embercast/embercast/node/CopyRuleKeepsAtPinLaw" = some m.cls := findClass_of_methodNamed Bd.named
  have hnm := (name_of_methodNamed Bd.named Bd.method).1
  have X0 : Stand p l e room_1 s m #[(.int p1), (.int p2), (.int p3), (.int p4)] below meth c s₁ [] 0 0 := Stand.of_body Bd
  have e0 : s₁.heap = h0 := by rw [← hh, Bd.state]; rfl
  have N0 := Fr.nil n0
  show Goes p e below (Fin s (Q_rm0 Z p1 p2 p3 p4 bA bE bP h0 n0) room_1.cells room_1.slots) _
  refine Goes.via (S' := s₁.setTop (mkF m 0 #[.val (.int p1), .val (.int p2), .val (.int p3), .val (.int p4), .unset, .unset, .unset, .unset] [])) (fun tz kz => castTop (ef_0 m p1 p2 p3 p4 ) kz) ?_
  refine Goes.via (S' := s₁.setTop (mkF m 10 #[.val (.int p1), .val (.int p2), .val (.int p3), .val (.int p4), .val (.int ((p1 &&& (2147483647 : Int32)) % (3 : Int32))), .unset, .unset, .unset] [(.int ((p1 &&& (2147483647 : Int32)) % (3 : Int32)))])) (fun tz kz => ?_) ?_
  · show Steps p.tables e below (s₁.setTop (mkF m 0 #[.val (.int p1), .val (.int p2), .val (.int p3), .val (.int p4), .unset, .unset, .unset, .unset] [])) _
    refine XS.iloadN X0.here hx rfl (hb hby at_0) rfl ?_
    show Steps p.tables e below (s₁.setTop (mkF m 1 #[.val (.int p1), .val (.int p2), .val (.int p3), .val (.int p4), .unset, .unset, .unset, .unset] [(.int p1)])) _
    refine X0.ldcInt hx hown (mvT hZ (hw _ (List.mem_of_getElem? (i := 0) rfl))) (g := (mkF m 1 #[.val (.int p1), .val (.int p2), .val (.int p3), .val (.int p4), .unset, .unset, .unset, .unset] [(.int p1)])) rfl (hb hby at_1) _ ?_
    show Steps p.tables e below (s₁.setTop (mkF m 3 #[.val (.int p1), .val (.int p2), .val (.int p3), .val (.int p4), .unset, .unset, .unset, .unset] [(.int (2147483647 : Int32)), (.int p1)])) _
    refine XS.iand X0.here hx rfl (hb hby at_3) rfl ?_
    show Steps p.tables e below (s₁.setTop (mkF m 4 #[.val (.int p1), .val (.int p2), .val (.int p3), .val (.int p4), .unset, .unset, .unset, .unset] [(.int (p1 &&& (2147483647 : Int32)))])) _
    refine XS.iconst X0.here hx rfl (hb hby at_4) ?_
    show Steps p.tables e below (s₁.setTop (mkF m 5 #[.val (.int p1), .val (.int p2), .val (.int p3), .val (.int p4), .unset, .unset, .unset, .unset] [(.int (3 : Int32)), (.int (p1 &&& (2147483647 : Int32)))])) _
    refine iremM (g := (mkF m 5 #[.val (.int p1), .val (.int p2), .val (.int p3), .val (.int p4), .unset, .unset, .unset, .unset] [(.int (3 : Int32)), (.int (p1 &&& (2147483647 : Int32)))])) X0 hx rfl (hb hby at_5) rfl (by decide) ?_
    show Steps p.tables e below (s₁.setTop (mkF m 6 #[.val (.int p1), .val (.int p2), .val (.int p3), .val (.int p4), .unset, .unset, .unset, .unset] [(.int ((p1 &&& (2147483647 : Int32)) % (3 : Int32)))])) _
    refine XS.istore X0.here hx rfl (hb hby at_6) rfl (l' := #[.val (.int p1), .val (.int p2), .val (.int p3), .val (.int p4), .val (.int ((p1 &&& (2147483647 : Int32)) % (3 : Int32))), .unset, .unset, .unset]) rfl ?_
    show Steps p.tables e below (s₁.setTop (mkF m 8 #[.val (.int p1), .val (.int p2), .val (.int p3), .val (.int p4), .val (.int ((p1 &&& (2147483647 : Int32)) % (3 : Int32))), .unset, .unset, .unset] [])) _
    refine XS.iload X0.here hx rfl (hb hby at_8) rfl ?_
    exact kz
  obtain ⟨_, _, ⟨T1, L1, k1, n1⟩, -, X1, ⟨Lc1, hQ1, l1, y1, z1⟩, st1⟩ := Jvm.LawKit.callS X0 hx (y := (⟨"com/example/embercast/embercast/node/CopyRuleKeepsAtPinLaw", "pick", "(I)Lcom/example/embercast/embercast/node/CopyRule;"⟩ : MethodName)) hown (mvT hZ (hw _ (List.mem_of_getElem? (i := 1) rfl))) (mvT hZ (hw _ (List.mem_of_getElem? (i := 2) rfl))) (mvT hZ (hw _ (List.mem_of_getElem? (i := 3) rfl))) (mvT hZ (hw _ (List.mem_of_getElem? (i := 4) rfl))) (by decide) (backOf (W := 0) (rm1 l Z a0 hw [] ((p1 &&& (2147483647 : Int32)) % (3 : Int32)) bA bE bP h0 n0 Z0 S_ALONE S_EGO S_POOLED) hZ (hw _ (List.mem_of_getElem? (i := 4) rfl)) (hw _ (List.mem_of_getElem? (i := 3) rfl)) (by decide) (by decide)) (g := (mkF m 10 #[.val (.int p1), .val (.int p2), .val (.int p3), .val (.int p4), .val (.int ((p1 &&& (2147483647 : Int32)) % (3 : Int32))), .unset, .unset, .unset] [(.int ((p1 &&& (2147483647 : Int32)) % (3 : Int32)))])) rfl (by rw [hml]; rfl) (argsL := [(.int ((p1 &&& (2147483647 : Int32)) % (3 : Int32)))]) (rest := []) (lenOf pd_0 rfl) rfl (by show 2 * 0 + _ ≤ _; exact Nat.le_of_eq rfl) (hb hby at_10) (fun _ _ => ⟨rfl, e0, (by decide : 0 + 0 ≤ _), (by decide : 0 + 0 ≤ _)⟩)
  dsimp only [Pt.U, Pt.locs, Pt.cells, Pt.slots] at X1 l1 y1 z1 st1 hQ1
  subst l1 y1 z1
  obtain ⟨rfl, N1, e1⟩ := hQ1
  have Nf1 := Fr.app N0 N1
  refine Goes.via (S' := T1.setTop (mkF m 13 #[.val (.int p1), .val (.int p2), .val (.int p3), .val (.int p4), .val (.int ((p1 &&& (2147483647 : Int32)) % (3 : Int32))), .unset, .unset, .unset] [(.ref (if ((p1 &&& (2147483647 : Int32)) % (3 : Int32)) = (0 : Int32) then bA else if ((p1 &&& (2147483647 : Int32)) % (3 : Int32)) = (1 : Int32) then bE else bP))])) (st1) ?_
  refine Goes.via (S' := T1.setTop (mkF m 18 #[.val (.int p1), .val (.int p2), .val (.int p3), .val (.int p4), .val (.int ((p1 &&& (2147483647 : Int32)) % (3 : Int32))), .val (.ref (if ((p1 &&& (2147483647 : Int32)) % (3 : Int32)) = (0 : Int32) then bA else if ((p1 &&& (2147483647 : Int32)) % (3 : Int32)) = (1 : Int32) then bE else bP)), .unset, .unset] [(.int (p4 &&& (1 : Int32)))])) (fun tz kz => ?_) ?_
  · show Steps p.tables e below (T1.setTop (mkF m 13 #[.val (.int p1), .val (.int p2), .val (.int p3), .val (.int p4), .val (.int ((p1 &&& (2147483647 : Int32)) % (3 : Int32))), .unset, .unset, .unset] [(.ref (if ((p1 &&& (2147483647 : Int32)) % (3 : Int32)) = (0 : Int32) then bA else if ((p1 &&& (2147483647 : Int32)) % (3 : Int32)) = (1 : Int32) then bE else bP))])) _
    refine XS.astore X1.here hx rfl (hb hby at_13) rfl rfl (l' := #[.val (.int p1), .val (.int p2), .val (.int p3), .val (.int p4), .val (.int ((p1 &&& (2147483647 : Int32)) % (3 : Int32))), .val (.ref (if ((p1 &&& (2147483647 : Int32)) % (3 : Int32)) = (0 : Int32) then bA else if ((p1 &&& (2147483647 : Int32)) % (3 : Int32)) = (1 : Int32) then bE else bP)), .unset, .unset]) rfl ?_
    show Steps p.tables e below (T1.setTop (mkF m 15 #[.val (.int p1), .val (.int p2), .val (.int p3), .val (.int p4), .val (.int ((p1 &&& (2147483647 : Int32)) % (3 : Int32))), .val (.ref (if ((p1 &&& (2147483647 : Int32)) % (3 : Int32)) = (0 : Int32) then bA else if ((p1 &&& (2147483647 : Int32)) % (3 : Int32)) = (1 : Int32) then bE else bP)), .unset, .unset] [])) _
    refine XS.iloadN X1.here hx rfl (hb hby at_15) rfl ?_
    show Steps p.tables e below (T1.setTop (mkF m 16 #[.val (.int p1), .val (.int p2), .val (.int p3), .val (.int p4), .val (.int ((p1 &&& (2147483647 : Int32)) % (3 : Int32))), .val (.ref (if ((p1 &&& (2147483647 : Int32)) % (3 : Int32)) = (0 : Int32) then bA else if ((p1 &&& (2147483647 : Int32)) % (3 : Int32)) = (1 : Int32) then bE else bP)), .unset, .unset] [(.int p4)])) _
    refine XS.iconst X1.here hx rfl (hb hby at_16) ?_
    show Steps p.tables e below (T1.setTop (mkF m 17 #[.val (.int p1), .val (.int p2), .val (.int p3), .val (.int p4), .val (.int ((p1 &&& (2147483647 : Int32)) % (3 : Int32))), .val (.ref (if ((p1 &&& (2147483647 : Int32)) % (3 : Int32)) = (0 : Int32) then bA else if ((p1 &&& (2147483647 : Int32)) % (3 : Int32)) = (1 : Int32) then bE else bP)), .unset, .unset] [(.int (1 : Int32)), (.int p4)])) _
    refine XS.iand X1.here hx rfl (hb hby at_17) rfl ?_
    exact kz
  obtain ⟨r3, hr3⟩ : ∃ z : Int32, z = (if (p4 &&& (1 : Int32)) = (0 : Int32) then p3 else p2) := ⟨_, rfl⟩
  have j18_4 : ∀ t, Steps p.tables e below (T1.setTop (mkF m 26 #[.val (.int p1), .val (.int p2), .val (.int p3), .val (.int p4), .val (.int ((p1 &&& (2147483647 : Int32)) % (3 : Int32))), .val (.ref (if ((p1 &&& (2147483647 : Int32)) % (3 : Int32)) = (0 : Int32) then bA else if ((p1 &&& (2147483647 : Int32)) % (3 : Int32)) = (1 : Int32) then bE else bP)), .unset, .unset] [(.int r3)])) t → Steps p.tables e below (T1.setTop (mkF m 18 #[.val (.int p1), .val (.int p2), .val (.int p3), .val (.int p4), .val (.int ((p1 &&& (2147483647 : Int32)) % (3 : Int32))), .val (.ref (if ((p1 &&& (2147483647 : Int32)) % (3 : Int32)) = (0 : Int32) then bA else if ((p1 &&& (2147483647 : Int32)) % (3 : Int32)) = (1 : Int32) then bE else bP)), .unset, .unset] [(.int (p4 &&& (1 : Int32)))])) t := by
    intro tz kz
    by_cases hc18_2 : (p4 &&& (1 : Int32)) = (0 : Int32)
    · rw [if_pos hc18_2] at hr3
      show Steps p.tables e below (T1.setTop (mkF m 18 #[.val (.int p1), .val (.int p2), .val (.int p3), .val (.int p4), .val (.int ((p1 &&& (2147483647 : Int32)) % (3 : Int32))), .val (.ref (if ((p1 &&& (2147483647 : Int32)) % (3 : Int32)) = (0 : Int32) then bA else if ((p1 &&& (2147483647 : Int32)) % (3 : Int32)) = (1 : Int32) then bE else bP)), .unset, .unset] [(.int (p4 &&& (1 : Int32)))])) _
      refine XS.ifYes X1.here hx rfl (pc0 := 18) (pc' := 25) rfl (hb hby at_18) rfl ((if0 _ _).trans (teq hc18_2).1) (by decide) (by decide) ?_
      show Steps p.tables e below (T1.setTop (mkF m 25 #[.val (.int p1), .val (.int p2), .val (.int p3), .val (.int p4), .val (.int ((p1 &&& (2147483647 : Int32)) % (3 : Int32))), .val (.ref (if ((p1 &&& (2147483647 : Int32)) % (3 : Int32)) = (0 : Int32) then bA else if ((p1 &&& (2147483647 : Int32)) % (3 : Int32)) = (1 : Int32) then bE else bP)), .unset, .unset] [])) _
      refine XS.iloadN X1.here hx rfl (hb hby at_25) rfl ?_
      subst hr3
      exact kz
    · rw [if_neg hc18_2] at hr3
      show Steps p.tables e below (T1.setTop (mkF m 18 #[.val (.int p1), .val (.int p2), .val (.int p3), .val (.int p4), .val (.int ((p1 &&& (2147483647 : Int32)) % (3 : Int32))), .val (.ref (if ((p1 &&& (2147483647 : Int32)) % (3 : Int32)) = (0 : Int32) then bA else if ((p1 &&& (2147483647 : Int32)) % (3 : Int32)) = (1 : Int32) then bE else bP)), .unset, .unset] [(.int (p4 &&& (1 : Int32)))])) _
      refine XS.ifNo X1.here hx rfl (hb hby at_18) rfl ((if0 _ _).trans (feq hc18_2).1) ?_
      show Steps p.tables e below (T1.setTop (mkF m 21 #[.val (.int p1), .val (.int p2), .val (.int p3), .val (.int p4), .val (.int ((p1 &&& (2147483647 : Int32)) % (3 : Int32))), .val (.ref (if ((p1 &&& (2147483647 : Int32)) % (3 : Int32)) = (0 : Int32) then bA else if ((p1 &&& (2147483647 : Int32)) % (3 : Int32)) = (1 : Int32) then bE else bP)), .unset, .unset] [])) _
      refine XS.iloadN X1.here hx rfl (hb hby at_21) rfl ?_
      show Steps p.tables e below (T1.setTop (mkF m 22 #[.val (.int p1), .val (.int p2), .val (.int p3), .val (.int p4), .val (.int ((p1 &&& (2147483647 : Int32)) % (3 : Int32))), .val (.ref (if ((p1 &&& (2147483647 : Int32)) % (3 : Int32)) = (0 : Int32) then bA else if ((p1 &&& (2147483647 : Int32)) % (3 : Int32)) = (1 : Int32) then bE else bP)), .unset, .unset] [(.int p2)])) _
      refine XS.goto X1.here hx rfl (pc0 := 22) (pc' := 26) rfl (hb hby at_22) (by decide) (by decide) ?_
      subst hr3
      exact kz
  refine Goes.via j18_4 ?_
  refine Goes.via (S' := T1.setTop (mkF m 31 #[.val (.int p1), .val (.int p2), .val (.int p3), .val (.int p4), .val (.int ((p1 &&& (2147483647 : Int32)) % (3 : Int32))), .val (.ref (if ((p1 &&& (2147483647 : Int32)) % (3 : Int32)) = (0 : Int32) then bA else if ((p1 &&& (2147483647 : Int32)) % (3 : Int32)) = (1 : Int32) then bE else bP)), .val (.int r3), .unset] [(.int (2 : Int32)), (.int ((p1 &&& (2147483647 : Int32)) % (3 : Int32)))])) (fun tz kz => ?_) ?_
  · show Steps p.tables e below (T1.setTop (mkF m 26 #[.val (.int p1), .val (.int p2), .val (.int p3), .val (.int p4), .val (.int ((p1 &&& (2147483647 : Int32)) % (3 : Int32))), .val (.ref (if ((p1 &&& (2147483647 : Int32)) % (3 : Int32)) = (0 : Int32) then bA else if ((p1 &&& (2147483647 : Int32)) % (3 : Int32)) = (1 : Int32) then bE else bP)), .unset, .unset] [(.int r3)])) _
    refine XS.istore X1.here hx rfl (hb hby at_26) rfl (l' := #[.val (.int p1), .val (.int p2), .val (.int p3), .val (.int p4), .val (.int ((p1 &&& (2147483647 : Int32)) % (3 : Int32))), .val (.ref (if ((p1 &&& (2147483647 : Int32)) % (3 : Int32)) = (0 : Int32) then bA else if ((p1 &&& (2147483647 : Int32)) % (3 : Int32)) = (1 : Int32) then bE else bP)), .val (.int r3), .unset]) rfl ?_
    show Steps p.tables e below (T1.setTop (mkF m 28 #[.val (.int p1), .val (.int p2), .val (.int p3), .val (.int p4), .val (.int ((p1 &&& (2147483647 : Int32)) % (3 : Int32))), .val (.ref (if ((p1 &&& (2147483647 : Int32)) % (3 : Int32)) = (0 : Int32) then bA else if ((p1 &&& (2147483647 : Int32)) % (3 : Int32)) = (1 : Int32) then bE else bP)), .val (.int r3), .unset] [])) _
    refine XS.iload X1.here hx rfl (hb hby at_28) rfl ?_
    show Steps p.tables e below (T1.setTop (mkF m 30 #[.val (.int p1), .val (.int p2), .val (.int p3), .val (.int p4), .val (.int ((p1 &&& (2147483647 : Int32)) % (3 : Int32))), .val (.ref (if ((p1 &&& (2147483647 : Int32)) % (3 : Int32)) = (0 : Int32) then bA else if ((p1 &&& (2147483647 : Int32)) % (3 : Int32)) = (1 : Int32) then bE else bP)), .val (.int r3), .unset] [(.int ((p1 &&& (2147483647 : Int32)) % (3 : Int32)))])) _
    refine XS.iconst X1.here hx rfl (hb hby at_30) ?_
    exact kz
  obtain ⟨r7, hr7⟩ : ∃ z : Int32, z = (if ((p1 &&& (2147483647 : Int32)) % (3 : Int32)) = (2 : Int32) then (if p2 = r3 then (1 : Int32) else (0 : Int32)) else (1 : Int32)) := ⟨_, rfl⟩
  have j31_8 : ∀ t, Steps p.tables e below (T1.setTop (mkF m 53 #[.val (.int p1), .val (.int p2), .val (.int p3), .val (.int p4), .val (.int ((p1 &&& (2147483647 : Int32)) % (3 : Int32))), .val (.ref (if ((p1 &&& (2147483647 : Int32)) % (3 : Int32)) = (0 : Int32) then bA else if ((p1 &&& (2147483647 : Int32)) % (3 : Int32)) = (1 : Int32) then bE else bP)), .val (.int r3), .val (.int r7)] [])) t → Steps p.tables e below (T1.setTop (mkF m 31 #[.val (.int p1), .val (.int p2), .val (.int p3), .val (.int p4), .val (.int ((p1 &&& (2147483647 : Int32)) % (3 : Int32))), .val (.ref (if ((p1 &&& (2147483647 : Int32)) % (3 : Int32)) = (0 : Int32) then bA else if ((p1 &&& (2147483647 : Int32)) % (3 : Int32)) = (1 : Int32) then bE else bP)), .val (.int r3), .unset] [(.int (2 : Int32)), (.int ((p1 &&& (2147483647 : Int32)) % (3 : Int32)))])) t := by
    intro tz kz
    by_cases hc31_5 : ((p1 &&& (2147483647 : Int32)) % (3 : Int32)) = (2 : Int32)
    · rw [if_pos hc31_5] at hr7
      show Steps p.tables e below (T1.setTop (mkF m 31 #[.val (.int p1), .val (.int p2), .val (.int p3), .val (.int p4), .val (.int ((p1 &&& (2147483647 : Int32)) % (3 : Int32))), .val (.ref (if ((p1 &&& (2147483647 : Int32)) % (3 : Int32)) = (0 : Int32) then bA else if ((p1 &&& (2147483647 : Int32)) % (3 : Int32)) = (1 : Int32) then bE else bP)), .val (.int r3), .unset] [(.int (2 : Int32)), (.int ((p1 &&& (2147483647 : Int32)) % (3 : Int32)))])) _
      refine XS.icmpNo X1.here hx rfl (hb hby at_31) rfl (teq hc31_5).2 ?_
      show Steps p.tables e below (T1.setTop (mkF m 34 #[.val (.int p1), .val (.int p2), .val (.int p3), .val (.int p4), .val (.int ((p1 &&& (2147483647 : Int32)) % (3 : Int32))), .val (.ref (if ((p1 &&& (2147483647 : Int32)) % (3 : Int32)) = (0 : Int32) then bA else if ((p1 &&& (2147483647 : Int32)) % (3 : Int32)) = (1 : Int32) then bE else bP)), .val (.int r3), .unset] [])) _
      refine XS.iloadN X1.here hx rfl (hb hby at_34) rfl ?_
      show Steps p.tables e below (T1.setTop (mkF m 35 #[.val (.int p1), .val (.int p2), .val (.int p3), .val (.int p4), .val (.int ((p1 &&& (2147483647 : Int32)) % (3 : Int32))), .val (.ref (if ((p1 &&& (2147483647 : Int32)) % (3 : Int32)) = (0 : Int32) then bA else if ((p1 &&& (2147483647 : Int32)) % (3 : Int32)) = (1 : Int32) then bE else bP)), .val (.int r3), .unset] [(.int p2)])) _
      refine XS.iload X1.here hx rfl (hb hby at_35) rfl ?_
      by_cases hc37_6 : p2 = r3
      · rw [if_pos hc37_6] at hr7
        show Steps p.tables e below (T1.setTop (mkF m 37 #[.val (.int p1), .val (.int p2), .val (.int p3), .val (.int p4), .val (.int ((p1 &&& (2147483647 : Int32)) % (3 : Int32))), .val (.ref (if ((p1 &&& (2147483647 : Int32)) % (3 : Int32)) = (0 : Int32) then bA else if ((p1 &&& (2147483647 : Int32)) % (3 : Int32)) = (1 : Int32) then bE else bP)), .val (.int r3), .unset] [(.int r3), (.int p2)])) _
        refine XS.icmpNo X1.here hx rfl (hb hby at_37) rfl (teq hc37_6).2 ?_
        show Steps p.tables e below (T1.setTop (mkF m 40 #[.val (.int p1), .val (.int p2), .val (.int p3), .val (.int p4), .val (.int ((p1 &&& (2147483647 : Int32)) % (3 : Int32))), .val (.ref (if ((p1 &&& (2147483647 : Int32)) % (3 : Int32)) = (0 : Int32) then bA else if ((p1 &&& (2147483647 : Int32)) % (3 : Int32)) = (1 : Int32) then bE else bP)), .val (.int r3), .unset] [])) _
        refine XS.iconst X1.here hx rfl (hb hby at_40) ?_
        show Steps p.tables e below (T1.setTop (mkF m 41 #[.val (.int p1), .val (.int p2), .val (.int p3), .val (.int p4), .val (.int ((p1 &&& (2147483647 : Int32)) % (3 : Int32))), .val (.ref (if ((p1 &&& (2147483647 : Int32)) % (3 : Int32)) = (0 : Int32) then bA else if ((p1 &&& (2147483647 : Int32)) % (3 : Int32)) = (1 : Int32) then bE else bP)), .val (.int r3), .unset] [(.int (1 : Int32))])) _
        refine XS.goto X1.here hx rfl (pc0 := 41) (pc' := 45) rfl (hb hby at_41) (by decide) (by decide) ?_
        show Steps p.tables e below (T1.setTop (mkF m 45 #[.val (.int p1), .val (.int p2), .val (.int p3), .val (.int p4), .val (.int ((p1 &&& (2147483647 : Int32)) % (3 : Int32))), .val (.ref (if ((p1 &&& (2147483647 : Int32)) % (3 : Int32)) = (0 : Int32) then bA else if ((p1 &&& (2147483647 : Int32)) % (3 : Int32)) = (1 : Int32) then bE else bP)), .val (.int r3), .unset] [(.int (1 : Int32))])) _
        refine XS.istore X1.here hx rfl (hb hby at_45) rfl (l' := #[.val (.int p1), .val (.int p2), .val (.int p3), .val (.int p4), .val (.int ((p1 &&& (2147483647 : Int32)) % (3 : Int32))), .val (.ref (if ((p1 &&& (2147483647 : Int32)) % (3 : Int32)) = (0 : Int32) then bA else if ((p1 &&& (2147483647 : Int32)) % (3 : Int32)) = (1 : Int32) then bE else bP)), .val (.int r3), .val (.int (1 : Int32))]) rfl ?_
        show Steps p.tables e below (T1.setTop (mkF m 47 #[.val (.int p1), .val (.int p2), .val (.int p3), .val (.int p4), .val (.int ((p1 &&& (2147483647 : Int32)) % (3 : Int32))), .val (.ref (if ((p1 &&& (2147483647 : Int32)) % (3 : Int32)) = (0 : Int32) then bA else if ((p1 &&& (2147483647 : Int32)) % (3 : Int32)) = (1 : Int32) then bE else bP)), .val (.int r3), .val (.int (1 : Int32))] [])) _
        refine XS.goto X1.here hx rfl (pc0 := 47) (pc' := 53) rfl (hb hby at_47) (by decide) (by decide) ?_
        subst hr7
        exact kz
      · rw [if_neg hc37_6] at hr7
        show Steps p.tables e below (T1.setTop (mkF m 37 #[.val (.int p1), .val (.int p2), .val (.int p3), .val (.int p4), .val (.int ((p1 &&& (2147483647 : Int32)) % (3 : Int32))), .val (.ref (if ((p1 &&& (2147483647 : Int32)) % (3 : Int32)) = (0 : Int32) then bA else if ((p1 &&& (2147483647 : Int32)) % (3 : Int32)) = (1 : Int32) then bE else bP)), .val (.int r3), .unset] [(.int r3), (.int p2)])) _
        refine XS.icmpYes X1.here hx rfl (pc0 := 37) (pc' := 44) rfl (hb hby at_37) rfl (feq hc37_6).2 (by decide) (by decide) ?_
        show Steps p.tables e below (T1.setTop (mkF m 44 #[.val (.int p1), .val (.int p2), .val (.int p3), .val (.int p4), .val (.int ((p1 &&& (2147483647 : Int32)) % (3 : Int32))), .val (.ref (if ((p1 &&& (2147483647 : Int32)) % (3 : Int32)) = (0 : Int32) then bA else if ((p1 &&& (2147483647 : Int32)) % (3 : Int32)) = (1 : Int32) then bE else bP)), .val (.int r3), .unset] [])) _
        refine XS.iconst X1.here hx rfl (hb hby at_44) ?_
        show Steps p.tables e below (T1.setTop (mkF m 45 #[.val (.int p1), .val (.int p2), .val (.int p3), .val (.int p4), .val (.int ((p1 &&& (2147483647 : Int32)) % (3 : Int32))), .val (.ref (if ((p1 &&& (2147483647 : Int32)) % (3 : Int32)) = (0 : Int32) then bA else if ((p1 &&& (2147483647 : Int32)) % (3 : Int32)) = (1 : Int32) then bE else bP)), .val (.int r3), .unset] [(.int (0 : Int32))])) _
        refine XS.istore X1.here hx rfl (hb hby at_45) rfl (l' := #[.val (.int p1), .val (.int p2), .val (.int p3), .val (.int p4), .val (.int ((p1 &&& (2147483647 : Int32)) % (3 : Int32))), .val (.ref (if ((p1 &&& (2147483647 : Int32)) % (3 : Int32)) = (0 : Int32) then bA else if ((p1 &&& (2147483647 : Int32)) % (3 : Int32)) = (1 : Int32) then bE else bP)), .val (.int r3), .val (.int (0 : Int32))]) rfl ?_
        show Steps p.tables e below (T1.setTop (mkF m 47 #[.val (.int p1), .val (.int p2), .val (.int p3), .val (.int p4), .val (.int ((p1 &&& (2147483647 : Int32)) % (3 : Int32))), .val (.ref (if ((p1 &&& (2147483647 : Int32)) % (3 : Int32)) = (0 : Int32) then bA else if ((p1 &&& (2147483647 : Int32)) % (3 : Int32)) = (1 : Int32) then bE else bP)), .val (.int r3), .val (.int (0 : Int32))] [])) _
        refine XS.goto X1.here hx rfl (pc0 := 47) (pc' := 53) rfl (hb hby at_47) (by decide) (by decide) ?_
        subst hr7
        exact kz
    · rw [if_neg hc31_5] at hr7
      show Steps p.tables e below (T1.setTop (mkF m 31 #[.val (.int p1), .val (.int p2), .val (.int p3), .val (.int p4), .val (.int ((p1 &&& (2147483647 : Int32)) % (3 : Int32))), .val (.ref (if ((p1 &&& (2147483647 : Int32)) % (3 : Int32)) = (0 : Int32) then bA else if ((p1 &&& (2147483647 : Int32)) % (3 : Int32)) = (1 : Int32) then bE else bP)), .val (.int r3), .unset] [(.int (2 : Int32)), (.int ((p1 &&& (2147483647 : Int32)) % (3 : Int32)))])) _
      refine XS.icmpYes X1.here hx rfl (pc0 := 31) (pc' := 50) rfl (hb hby at_31) rfl (feq hc31_5).2 (by decide) (by decide) ?_
      show Steps p.tables e below (T1.setTop (mkF m 50 #[.val (.int p1), .val (.int p2), .val (.int p3), .val (.int p4), .val (.int ((p1 &&& (2147483647 : Int32)) % (3 : Int32))), .val (.ref (if ((p1 &&& (2147483647 : Int32)) % (3 : Int32)) = (0 : Int32) then bA else if ((p1 &&& (2147483647 : Int32)) % (3 : Int32)) = (1 : Int32) then bE else bP)), .val (.int r3), .unset] [])) _
      refine XS.iconst X1.here hx rfl (hb hby at_50) ?_
      show Steps p.tables e below (T1.setTop (mkF m 51 #[.val (.int p1), .val (.int p2), .val (.int p3), .val (.int p4), .val (.int ((p1 &&& (2147483647 : Int32)) % (3 : Int32))), .val (.ref (if ((p1 &&& (2147483647 : Int32)) % (3 : Int32)) = (0 : Int32) then bA else if ((p1 &&& (2147483647 : Int32)) % (3 : Int32)) = (1 : Int32) then bE else bP)), .val (.int r3), .unset] [(.int (1 : Int32))])) _
      refine XS.istore X1.here hx rfl (hb hby at_51) rfl (l' := #[.val (.int p1), .val (.int p2), .val (.int p3), .val (.int p4), .val (.int ((p1 &&& (2147483647 : Int32)) % (3 : Int32))), .val (.ref (if ((p1 &&& (2147483647 : Int32)) % (3 : Int32)) = (0 : Int32) then bA else if ((p1 &&& (2147483647 : Int32)) % (3 : Int32)) = (1 : Int32) then bE else bP)), .val (.int r3), .val (.int (1 : Int32))]) rfl ?_
      subst hr7
      exact kz
  refine Goes.via j31_8 ?_
  refine Goes.via (S' := T1.setTop (mkF m 58 #[.val (.int p1), .val (.int p2), .val (.int p3), .val (.int p4), .val (.int ((p1 &&& (2147483647 : Int32)) % (3 : Int32))), .val (.ref (if ((p1 &&& (2147483647 : Int32)) % (3 : Int32)) = (0 : Int32) then bA else if ((p1 &&& (2147483647 : Int32)) % (3 : Int32)) = (1 : Int32) then bE else bP)), .val (.int r3), .val (.int r7)] [(.int r3), (.int p2), (.ref (if ((p1 &&& (2147483647 : Int32)) % (3 : Int32)) = (0 : Int32) then bA else if ((p1 &&& (2147483647 : Int32)) % (3 : Int32)) = (1 : Int32) then bE else bP))])) (fun tz kz => ?_) ?_
  · show Steps p.tables e below (T1.setTop (mkF m 53 #[.val (.int p1), .val (.int p2), .val (.int p3), .val (.int p4), .val (.int ((p1 &&& (2147483647 : Int32)) % (3 : Int32))), .val (.ref (if ((p1 &&& (2147483647 : Int32)) % (3 : Int32)) = (0 : Int32) then bA else if ((p1 &&& (2147483647 : Int32)) % (3 : Int32)) = (1 : Int32) then bE else bP)), .val (.int r3), .val (.int r7)] [])) _
    refine XS.aload X1.here hx rfl (hb hby at_53) rfl rfl ?_
    show Steps p.tables e below (T1.setTop (mkF m 55 #[.val (.int p1), .val (.int p2), .val (.int p3), .val (.int p4), .val (.int ((p1 &&& (2147483647 : Int32)) % (3 : Int32))), .val (.ref (if ((p1 &&& (2147483647 : Int32)) % (3 : Int32)) = (0 : Int32) then bA else if ((p1 &&& (2147483647 : Int32)) % (3 : Int32)) = (1 : Int32) then bE else bP)), .val (.int r3), .val (.int r7)] [(.ref (if ((p1 &&& (2147483647 : Int32)) % (3 : Int32)) = (0 : Int32) then bA else if ((p1 &&& (2147483647 : Int32)) % (3 : Int32)) = (1 : Int32) then bE else bP))])) _
    refine XS.iloadN X1.here hx rfl (hb hby at_55) rfl ?_
    show Steps p.tables e below (T1.setTop (mkF m 56 #[.val (.int p1), .val (.int p2), .val (.int p3), .val (.int p4), .val (.int ((p1 &&& (2147483647 : Int32)) % (3 : Int32))), .val (.ref (if ((p1 &&& (2147483647 : Int32)) % (3 : Int32)) = (0 : Int32) then bA else if ((p1 &&& (2147483647 : Int32)) % (3 : Int32)) = (1 : Int32) then bE else bP)), .val (.int r3), .val (.int r7)] [(.int p2), (.ref (if ((p1 &&& (2147483647 : Int32)) % (3 : Int32)) = (0 : Int32) then bA else if ((p1 &&& (2147483647 : Int32)) % (3 : Int32)) = (1 : Int32) then bE else bP))])) _
    refine XS.iload X1.here hx rfl (hb hby at_56) rfl ?_
    exact kz
  have Er : Exa Z h0 (if ((p1 &&& (2147483647 : Int32)) % (3 : Int32)) = (0 : Int32) then bA else if ((p1 &&& (2147483647 : Int32)) % (3 : Int32)) = (1 : Int32) then bE else bP) "com/example/embercast/embercast/node/CopyRule" := own_exa E0 E1 E2
  obtain ⟨cq9, kq9, q9a, q9b, q9c⟩ := isOf hZ e1 Er
  obtain ⟨_, _, ⟨T9, L9, k9, n9⟩, -, X9, ⟨Lc9, hQ9, l9, y9, z9⟩, st9⟩ := X1.virtualBack hx (y := (⟨"com/example/embercast/embercast/node/CopyRule", "keepsAt", "(II)Z"⟩ : MethodName)) (z := (⟨"com/example/embercast/embercast/node/CopyRule", "keepsAt", "(II)Z"⟩ : MethodName)) hown (mvT hZ (hw _ (List.mem_of_getElem? (i := 8) rfl))) (mvT hZ (hw _ (List.mem_of_getElem? (i := 9) rfl))) (notFace_of_selects (args := #[]) (mvT hZ (hw _ (List.mem_of_getElem? (i := 11) rfl)))) (mvT hZ (hw _ (List.mem_of_getElem? (i := 11) rfl))) (mvT hZ (hw _ (List.mem_of_getElem? (i := 10) rfl))) (by decide) (backOf (W := 0) (rm2 l Z a0 hw [] (if ((p1 &&& (2147483647 : Int32)) % (3 : Int32)) = (0 : Int32) then bA else if ((p1 &&& (2147483647 : Int32)) % (3 : Int32)) = (1 : Int32) then bE else bP) p2 r3 bP h0 n0 Z0 S_POOLED) hZ (hw _ (List.mem_of_getElem? (i := 12) rfl)) (hw _ (List.mem_of_getElem? (i := 6) rfl)) (by decide) (by decide)) q9a q9c (g := (mkF m 58 #[.val (.int p1), .val (.int p2), .val (.int p3), .val (.int p4), .val (.int ((p1 &&& (2147483647 : Int32)) % (3 : Int32))), .val (.ref (if ((p1 &&& (2147483647 : Int32)) % (3 : Int32)) = (0 : Int32) then bA else if ((p1 &&& (2147483647 : Int32)) % (3 : Int32)) = (1 : Int32) then bE else bP)), .val (.int r3), .val (.int r7)] [(.int r3), (.int p2), (.ref (if ((p1 &&& (2147483647 : Int32)) % (3 : Int32)) = (0 : Int32) then bA else if ((p1 &&& (2147483647 : Int32)) % (3 : Int32)) = (1 : Int32) then bE else bP))])) rfl (by rw [hml]; rfl) (Steps.refl _) (argsL := [(.int p2), (.int r3)]) (rest := []) (lenOf pd_1 rfl) rfl (by show 2 * 0 + _ ≤ _; exact Nat.le_of_eq rfl) (hb hby at_58) (fun _ _ => ⟨rfl, e1, (by decide : 0 + 0 ≤ _), (by decide : 0 + 0 ≤ _)⟩)
  dsimp only [Pt.U, Pt.locs, Pt.cells, Pt.slots] at X9 l9 y9 z9 st9 hQ9
  subst l9 y9 z9
  obtain ⟨rfl, N9, e9⟩ := hQ9
  have Nf9 := Fr.app Nf1 N9
  refine Goes.via (S' := T9.setTop (mkF m 61 #[.val (.int p1), .val (.int p2), .val (.int p3), .val (.int p4), .val (.int ((p1 &&& (2147483647 : Int32)) % (3 : Int32))), .val (.ref (if ((p1 &&& (2147483647 : Int32)) % (3 : Int32)) = (0 : Int32) then bA else if ((p1 &&& (2147483647 : Int32)) % (3 : Int32)) = (1 : Int32) then bE else bP)), .val (.int r3), .val (.int r7)] [(.int (if (if ((p1 &&& (2147483647 : Int32)) % (3 : Int32)) = (0 : Int32) then bA else if ((p1 &&& (2147483647 : Int32)) % (3 : Int32)) = (1 : Int32) then bE else bP) = bP then (if p2 = r3 then (1 : Int32) else 0) else 1))])) (fun _ kz => st9.trans kz) ?_
  refine Goes.via (S' := T9.setTop (mkF m 71 #[.val (.int p1), .val (.int p2), .val (.int p3), .val (.int p4), .val (.int ((p1 &&& (2147483647 : Int32)) % (3 : Int32))), .val (.ref (if ((p1 &&& (2147483647 : Int32)) % (3 : Int32)) = (0 : Int32) then bA else if ((p1 &&& (2147483647 : Int32)) % (3 : Int32)) = (1 : Int32) then bE else bP)), .val (.int r3), .val (.int r7)] [(.int (1 : Int32))])) (fun tz kz => ?_) ?_
  · show Steps p.tables e below (T9.setTop (mkF m 61 #[.val (.int p1), .val (.int p2), .val (.int p3), .val (.int p4), .val (.int ((p1 &&& (2147483647 : Int32)) % (3 : Int32))), .val (.ref (if ((p1 &&& (2147483647 : Int32)) % (3 : Int32)) = (0 : Int32) then bA else if ((p1 &&& (2147483647 : Int32)) % (3 : Int32)) = (1 : Int32) then bE else bP)), .val (.int r3), .val (.int r7)] [(.int (if (if ((p1 &&& (2147483647 : Int32)) % (3 : Int32)) = (0 : Int32) then bA else if ((p1 &&& (2147483647 : Int32)) % (3 : Int32)) = (1 : Int32) then bE else bP) = bP then (if p2 = r3 then (1 : Int32) else 0) else 1))])) _
    refine XS.iload X9.here hx rfl (hb hby at_61) rfl ?_
    show Steps p.tables e below (T9.setTop (mkF m 63 #[.val (.int p1), .val (.int p2), .val (.int p3), .val (.int p4), .val (.int ((p1 &&& (2147483647 : Int32)) % (3 : Int32))), .val (.ref (if ((p1 &&& (2147483647 : Int32)) % (3 : Int32)) = (0 : Int32) then bA else if ((p1 &&& (2147483647 : Int32)) % (3 : Int32)) = (1 : Int32) then bE else bP)), .val (.int r3), .val (.int r7)] [(.int r7), (.int (if (if ((p1 &&& (2147483647 : Int32)) % (3 : Int32)) = (0 : Int32) then bA else if ((p1 &&& (2147483647 : Int32)) % (3 : Int32)) = (1 : Int32) then bE else bP) = bP then (if p2 = r3 then (1 : Int32) else 0) else 1))])) _
    refine XS.icmpNo X9.here hx rfl (hb hby at_63) rfl (teq (own_law (own_sel p1) hA hE hr7)).2 ?_
    show Steps p.tables e below (T9.setTop (mkF m 66 #[.val (.int p1), .val (.int p2), .val (.int p3), .val (.int p4), .val (.int ((p1 &&& (2147483647 : Int32)) % (3 : Int32))), .val (.ref (if ((p1 &&& (2147483647 : Int32)) % (3 : Int32)) = (0 : Int32) then bA else if ((p1 &&& (2147483647 : Int32)) % (3 : Int32)) = (1 : Int32) then bE else bP)), .val (.int r3), .val (.int r7)] [])) _
    refine XS.iconst X9.here hx rfl (hb hby at_66) ?_
    show Steps p.tables e below (T9.setTop (mkF m 67 #[.val (.int p1), .val (.int p2), .val (.int p3), .val (.int p4), .val (.int ((p1 &&& (2147483647 : Int32)) % (3 : Int32))), .val (.ref (if ((p1 &&& (2147483647 : Int32)) % (3 : Int32)) = (0 : Int32) then bA else if ((p1 &&& (2147483647 : Int32)) % (3 : Int32)) = (1 : Int32) then bE else bP)), .val (.int r3), .val (.int r7)] [(.int (1 : Int32))])) _
    refine XS.goto X9.here hx rfl (pc0 := 67) (pc' := 71) rfl (hb hby at_67) (by decide) (by decide) ?_
    exact kz
  exact Goes.retN X9 hx Bd.notSynchronized (t := .boolean) Bd.returns (by simp) (hb hby at_71) (Nat.le_of_ble_eq_true rfl) (Nat.le_of_ble_eq_true rfl) ⟨rfl, Nf9⟩
set_option maxRecDepth 65536 in
set_option maxHeartbeats 40000000 in
theorem comes_1 {Post : Tables → Env → Array Value → State → Outcome → State → Prop} (hpost : ∀ tb e args s v u, (limb_1_1.after args s (.returned v) u = true ∧ limb_1_2.after args s (.returned v) u = true ∧ True) → FrameEnd s (.returned v) u (Jvm.fieldLocs frame_1_writes args s ++ Jvm.arrayLocs frame_1_arrays args s ++ Jvm.staticLocs frame_1_statics s) 0 0 → Post tb e args s (.returned v) u) :
    ArmFor flags0 classFile x code maxLocals ret World_1 tables_1 room_1 Calls_1 rest_1 Pre_1 Post := by
  intro l hfl _ _ p e ha hc hk s m args below hf hA hF happ hP
  obtain ⟨hcalls, hrest, hpre⟩ := hP
  obtain ⟨-, -, -, hnamed, -, -, -, hat⟩ := (Spec.applies_iff hf).mp happ
  obtain ⟨hg, hn⟩ := and_e (Cond.before_iff.mp (show (Jvm.Cond.and given_1 narrow_1).before args s = true from hpre))
  obtain ⟨hcnt, gg0⟩ := and_e hg
  obtain ⟨ga0, gg1⟩ := and_e gg0
  obtain ⟨ga1, gg2⟩ := and_e gg1
  obtain ⟨ga2, gg3⟩ := and_e gg2
  obtain ⟨w0, w1, w2, w3, rfl⟩ : ∃ w0 w1 w2 w3 : Value, args = #[w0, w1, w2, w3] := by
    have hs : args.size = 4 := by simpa [Cond.value, given_1] using hcnt
    obtain ⟨L⟩ := args
    match L, hs with
    | [w0, w1, w2, w3], _ => exact ⟨w0, w1, w2, w3, rfl⟩
  have hw := fun d (hd : d ∈ tables_1) => atoms_spec (ws := Jvm.Cond.code x code maxLocals ret :: tables_1) hat d (List.mem_cons_of_mem _ hd)
  have hfit : Fit s := fun {y c} hc i hi => by
    obtain ⟨ha, rfl⟩ := Array.getElem?_eq_some_iff.mp hc
    have q := List.all_eq_true.mp ((Array.all_eq_true_iff_forall_mem.mp hF) _ (Array.getElem_mem ha)) i (List.mem_range.mpr hi)
    simpa [Array.getElem?_eq_getElem hi] using q
  obtain ⟨i0, ei0⟩ := is_v ga0
  obtain rfl : w0 = (.int i0) := Option.some.inj ei0
  obtain ⟨i1, ei1⟩ := is_v ga1
  obtain rfl : w1 = (.int i1) := Option.some.inj ei1
  obtain ⟨i2, ei2⟩ := is_v ga2
  obtain rfl : w2 = (.int i2) := Option.some.inj ei2
  obtain ⟨i3, ei3⟩ := is_v gg3
  obtain rfl : w3 = (.int i3) := Option.some.inj ei3
  obtain ⟨xe0, hn0⟩ := and_e hn
  obtain ⟨xe2, hn1⟩ := and_e hn0
  obtain ⟨xf0, hn2⟩ := and_e hn1
  obtain ⟨xf2, hn3⟩ := and_e hn2
  obtain ⟨xe1, hn4⟩ := and_e hn3
  have xf1 := hn4
  obtain ⟨bA, ev0, E0⟩ := exa_static xe0
  have S0 := Sta.start ev0 (Or.inr ⟨(hw _ (List.mem_of_getElem? (i := 6) rfl)), (hw _ (List.mem_of_getElem? (i := 7) rfl))⟩)
  have F0 := fld_static ev0 xf0
  obtain ⟨bE, ev1, E1⟩ := exa_static xe1
  have S1 := Sta.start ev1 (Or.inr ⟨(hw _ (List.mem_of_getElem? (i := 6) rfl)), (hw _ (List.mem_of_getElem? (i := 16) rfl))⟩)
  have F1 := fld_static ev1 xf1
  obtain ⟨bP, ev2, E2⟩ := exa_static xe2
  have S2 := Sta.start ev2 (Or.inr ⟨(hw _ (List.mem_of_getElem? (i := 6) rfl)), (hw _ (List.mem_of_getElem? (i := 14) rfl))⟩)
  have F2 := fld_static ev2 xf2
  obtain ⟨n, o, h1, h2, h3, _, L, rfl, ⟨rfl, N⟩, hq⟩ := rm0 l s _ hw tables_1 i0 i1 i2 i3 bA bE bP s.heap s.heap.size (Nat.le_refl _) S0 E0 S1 E1 S2 E2 (F0.ne F2 (by decide)) (F1.ne F2 (by decide)) p e ha hc hk s m _ below hf ((Spec.applies_iff_loose hf).mp happ).1 ⟨rfl, State.Warmed39.refl s, rfl⟩ trivial
  refine ⟨n, _, h1, h2, h3, hpost _ _ _ _ _ _ ⟨Cond.after_iff.mpr rfl, Cond.after_iff.mpr (eq_i res_at (Term.int_eval (1)) rfl), trivial⟩ ⟨hq.1, hq.2.1, (hq.2.2.sift fun y hy => Or.inr (N y hy)).mono (by decide) (by decide)⟩⟩
theorem main_1_1 : Claimed_1_1 := comes_1 fun _ _ _ _ _ _ h hF => ⟨h.1, hF⟩
theorem main_1_2 : Claimed_1_2 := comes_1 fun _ _ _ _ _ _ h hF => ⟨h.2.1, hF⟩
end Jvm.Pilot.@@N@@
namespace Jvm.Pilot.@@N@@
open Jvm Jvm.ClassFile Sem Op Lib Jvm.Free Jvm.Stand Jvm.Pilot.@@N@@.Jvm.D
/-! MADE BY PROGRAM (witnessworld.py) out of the Statement's table words and the real class files: 12 classes; the members and pool entries that the words name. The judged class is class 1, her method 2. -/
namespace start1
open Jvm.ClassFile
def u (s : String) : CpInfo := .utf8 (stringToUtf16 s)
/-- a pool by its gaps: so many unusable entries, then the entry; so many at the end -/
def gap : Nat → List CpInfo → List CpInfo
  | 0, r => r
  | n + 1, r => .unusable :: gap n r
def poolList (es : List (Nat × CpInfo)) (last : Nat) : List CpInfo := es.foldr (fun e r => gap e.1 (e.2 :: r)) (gap last [])
def pool (es : List (Nat × CpInfo)) (last : Nat) : Array CpInfo := ⟨poolList es last⟩
def fileOf (pool : Array CpInfo) (this : Nat) (attrs : Array Attribute := #[]) (ms : Array MethodInfo := #[]) (fl : Nat := 33) (sup : Nat := 0) (ifs : Array Nat := #[]) (fds : Array FieldInfo := #[]) : ClassFile where
  minorVersion := 0
  majorVersion := 65
  constantPool := pool
  accessFlags := fl
  thisClass := this
  superClass := sup
  interfaces := ifs
  fields := fds
  methods := ms
  attributes := attrs
def plain (name : String) (sup : Option ClassId) : Class where
  name := name
  kind := .ordinary
  loader := none
  accessFlags := 33
  super := sup
  interfaces := #[]
  cf := none
  fields := #[]
  methods := #[]
  instanceTypes := #[]
  staticTypes := #[]
  resolved := #[]
  callSites := []
  init := .initialized
  statics := none
  mirror := none

def pool0 : Array CpInfo := pool [(5, u "<init>"), (0, u "()V"), (1, .class_ 10), (1, u "java/lang/Object")] 113

def k0m0 : Method := { name := "<init>", desc := "()V", sig := { parameters := [], returnType := none }, accessFlags := 1, code := none }
/-- java/lang/Object -/
def k0 : Class := { plain "java/lang/Object" none with
  accessFlags := 33
  interfaces := #[]
  cf := some (fileOf pool0 8 #[] #[{ accessFlags := 1, nameIndex := 5, descriptorIndex := 6, attributes := #[] }] 33 0 #[] #[])
  fields := #[]
  methods := #[k0m0]
  instanceTypes := #[]
  staticTypes := #[]
  resolved := Array.replicate 124 none
  statics := none }

def pool1 : Array CpInfo := pool [(2, .class_ 4), (1, u "java/lang/Object"), (0, u "<init>"), (0, u "()V"), (0, .fieldref 8 9), (0, .class_ 10), (0, .nameAndType 11 12), (0, u "com/example/embercast/embercast/node/CopyRule"), (0, u "ALONE"), (0, u "Lcom/example/embercast/embercast/node/CopyRule;"), (0, .fieldref 8 14), (0, .nameAndType 15 12), (0, u "EGO"), (0, .fieldref 8 17), (0, .nameAndType 18 12), (0, u "POOLED"), (0, .integer 2147483647), (0, .methodref 21 22), (0, .class_ 23), (0, .nameAndType 24 25), (0, u "com/example/embercast/embercast/node/CopyRuleKeepsAtPinLaw"), (0, u "pick"), (0, u "(I)Lcom/example/embercast/embercast/node/CopyRule;"), (0, .methodref 8 27), (0, .nameAndType 28 29), (0, u "keepsAt"), (0, u "(II)Z"), (3, u "law"), (0, u "(IIII)Z")] 2

def k1m0 : Method := { name := "<init>", desc := "()V", sig := { parameters := [], returnType := none }, accessFlags := 1, code := none }
def k1c1 : Code := { maxStack := 2, maxLocals := 1, code := method_2_code, exceptionTable := #[], attributes := #[] }
def k1m1 : Method := { name := "pick", desc := "(I)Lcom/example/embercast/embercast/node/CopyRule;", sig := { parameters := [.int], returnType := some (.object "com/example/embercast/embercast/node/CopyRule") }, accessFlags := 10, code := some k1c1 }
def k1c2 : Code := { maxStack := 3, maxLocals := 8, code := code, exceptionTable := #[], attributes := #[] }
def k1m2 : Method := { name := "law", desc := "(IIII)Z", sig := { parameters := [.int, .int, .int, .int], returnType := some .boolean }, accessFlags := 9, code := some k1c2 }
/-- com/example/embercast/embercast/node/CopyRuleKeepsAtPinLaw -/
def k1 : Class := { plain "com/example/embercast/embercast/node/CopyRuleKeepsAtPinLaw" (some 0) with
  accessFlags := 49
  interfaces := #[]
  cf := some (fileOf pool1 21 #[] #[{ accessFlags := 1, nameIndex := 5, descriptorIndex := 6, attributes := #[] }, { accessFlags := 10, nameIndex := 24, descriptorIndex := 25, attributes := #[] }, { accessFlags := 9, nameIndex := 33, descriptorIndex := 34, attributes := #[] }] 49 2 #[] #[])
  fields := #[]
  methods := #[k1m0, k1m1, k1m2]
  instanceTypes := #[]
  staticTypes := #[]
  resolved := Array.replicate 37 none
  statics := none }

def pool2 : Array CpInfo := pool [(1, .class_ 2), (0, u "java/lang/constant/Constable"), (0, .class_ 4), (0, u "java/lang/Object")] 6

/-- java/lang/constant/Constable -/
def k2 : Class := { plain "java/lang/constant/Constable" (some 0) with
  accessFlags := 1537
  interfaces := #[]
  cf := some (fileOf pool2 1 #[] #[] 1537 3 #[] #[])
  fields := #[]
  methods := #[]
  instanceTypes := #[]
  staticTypes := #[]
  resolved := Array.replicate 11 none
  statics := none }

def pool3 : Array CpInfo := pool [(1, .class_ 2), (0, u "java/lang/Comparable"), (0, .class_ 4), (0, u "java/lang/Object")] 7

/-- java/lang/Comparable -/
def k3 : Class := { plain "java/lang/Comparable" (some 0) with
  accessFlags := 1537
  interfaces := #[]
  cf := some (fileOf pool3 1 #[] #[] 1537 3 #[] #[])
  fields := #[]
  methods := #[]
  instanceTypes := #[]
  staticTypes := #[]
  resolved := Array.replicate 12 none
  statics := none }

def pool4 : Array CpInfo := pool [(1, .class_ 2), (0, u "java/io/Serializable"), (0, .class_ 4), (0, u "java/lang/Object")] 2

/-- java/io/Serializable -/
def k4 : Class := { plain "java/io/Serializable" (some 0) with
  accessFlags := 1537
  interfaces := #[]
  cf := some (fileOf pool4 1 #[] #[] 1537 3 #[] #[])
  fields := #[]
  methods := #[]
  instanceTypes := #[]
  staticTypes := #[]
  resolved := Array.replicate 7 none
  statics := none }

def pool5 : Array CpInfo := pool [(2, .class_ 4), (1, u "java/lang/Enum"), (0, u "name"), (0, u "Ljava/lang/String;"), (2, u "ordinal"), (0, u "I"), (1, .class_ 14), (1, u "java/lang/Object"), (4, u "hash"), (86, .class_ 108), (1, u "java/lang/Enum$EnumDesc"), (2, .class_ 112), (0, u "java/lang/constant/Constable"), (0, .class_ 114), (0, u "java/lang/Comparable"), (0, .class_ 116), (0, u "java/io/Serializable")] 87

/-- java/lang/Enum -/
def k5 : Class := { plain "java/lang/Enum" (some 0) with
  accessFlags := 1057
  interfaces := #[2, 3, 4]
  cf := some (fileOf pool5 2 #[.nestMembers #[106]] #[] 1057 12 #[111, 113, 115] #[{ accessFlags := 18, nameIndex := 5, descriptorIndex := 6, attributes := #[] }, { accessFlags := 18, nameIndex := 9, descriptorIndex := 10, attributes := #[] }, { accessFlags := 2, nameIndex := 19, descriptorIndex := 10, attributes := #[] }])
  fields := #[{ name := "name", type := (.object "java/lang/String"), accessFlags := 18, slot := 0, constantValue := 0 }, { name := "ordinal", type := .int, accessFlags := 18, slot := 1, constantValue := 0 }, { name := "hash", type := .int, accessFlags := 2, slot := 2, constantValue := 0 }]
  methods := #[]
  instanceTypes := #[(.object "java/lang/String"), .int, .int]
  staticTypes := #[]
  resolved := Array.replicate 204 none
  statics := none }

def pool6 : Array CpInfo := pool [(1, .class_ 2), (0, u "com/example/embercast/embercast/node/CopyRule"), (2, u "ALONE"), (0, u "Lcom/example/embercast/embercast/node/CopyRule;"), (2, u "EGO"), (0, .fieldref 1 11), (0, .nameAndType 12 6), (0, u "POOLED"), (2, u "$VALUES"), (0, u "[Lcom/example/embercast/embercast/node/CopyRule;"), (6, .class_ 25), (1, u "java/lang/Enum"), (24, u "keepsAt"), (0, u "(II)Z")] 4

def k6c0 : Code := { maxStack := 2, maxLocals := 3, code := prog_60_method_5_code, exceptionTable := #[], attributes := #[] }
def k6m0 : Method := { name := "keepsAt", desc := "(II)Z", sig := { parameters := [.int, .int], returnType := some .boolean }, accessFlags := 0, code := some k6c0 }
/-- com/example/embercast/embercast/node/CopyRule -/
def k6 : Class := { plain "com/example/embercast/embercast/node/CopyRule" (some 5) with
  accessFlags := 16433
  interfaces := #[]
  cf := some (fileOf pool6 1 #[] #[{ accessFlags := 0, nameIndex := 50, descriptorIndex := 51, attributes := #[] }] 16433 23 #[] #[{ accessFlags := 16409, nameIndex := 5, descriptorIndex := 6, attributes := #[] }, { accessFlags := 16409, nameIndex := 9, descriptorIndex := 6, attributes := #[] }, { accessFlags := 16409, nameIndex := 12, descriptorIndex := 6, attributes := #[] }, { accessFlags := 4122, nameIndex := 15, descriptorIndex := 16, attributes := #[] }])
  fields := #[{ name := "ALONE", type := (.object "com/example/embercast/embercast/node/CopyRule"), accessFlags := 16409, slot := 0, constantValue := 0 }, { name := "EGO", type := (.object "com/example/embercast/embercast/node/CopyRule"), accessFlags := 16409, slot := 1, constantValue := 0 }, { name := "POOLED", type := (.object "com/example/embercast/embercast/node/CopyRule"), accessFlags := 16409, slot := 2, constantValue := 0 }, { name := "$VALUES", type := (.array (.object "com/example/embercast/embercast/node/CopyRule")), accessFlags := 4122, slot := 3, constantValue := 0 }]
  methods := #[k6m0]
  instanceTypes := #[(.object "java/lang/String"), .int, .int]
  staticTypes := #[(.object "com/example/embercast/embercast/node/CopyRule"), (.object "com/example/embercast/embercast/node/CopyRule"), (.object "com/example/embercast/embercast/node/CopyRule"), (.array (.object "com/example/embercast/embercast/node/CopyRule"))]
  resolved := Array.replicate 56 none
  statics := some 0 }

def pool7 : Array CpInfo := pool [(1, u "java/lang/Cloneable"), (0, .class_ 1), (0, u "java/lang/Object"), (0, .class_ 3)] 3

/-- java/lang/Cloneable -/
def k7 : Class := { plain "java/lang/Cloneable" (some 0) with
  accessFlags := 1537
  interfaces := #[]
  cf := some (fileOf pool7 2 #[] #[] 1537 4 #[] #[])
  fields := #[]
  methods := #[]
  instanceTypes := #[]
  staticTypes := #[]
  resolved := Array.replicate 8 none
  statics := none }

/-- the primitive byte -/
def k8 : Class := { plain "byte" none with kind := .primitive 'B', accessFlags := 0x411 }
/-- [B -/
def k9 : Class := { plain "[B" (some 0) with kind := .array 8 .byte, interfaces := #[7, 4], accessFlags := 1041 }

/-- the primitive int -/
def k10 : Class := { plain "int" none with kind := .primitive 'I', accessFlags := 0x411 }
/-- [I -/
def k11 : Class := { plain "[I" (some 0) with kind := .array 10 .int, interfaces := #[7, 4], accessFlags := 1041 }

def heap : Heap := #[{ cls := 6, slots := #[.ref 1, .ref 2, .ref 3, .null], vm := .statics 6 },
  { cls := 6, slots := #[.null, .int 0, .int 0], vm := .none },
  { cls := 6, slots := #[.null, .int 1, .int 0], vm := .none },
  { cls := 6, slots := #[.null, .int 2, .int 0], vm := .none }]
def classes : Array Class := #[k0, k1, k2, k3, k4, k5, k6, k7, k8, k9, k10, k11]
def interned : List (Array UInt16 × Addr) := []
def slotsUsed : Nat := 13
def theMethod : MethodId := ⟨1, 2⟩
def args0 : Array Value := #[.int 5, .int 6, .int 7, .int 8]
def aboutOver (below : List Frame) : State where
  vm := { classes := classes, interned := interned.toArray }
  heap := heap
  slotsUsed := slotsUsed
  threads := #[{ frames := .invoking theMethod args0 :: below }]
def below0 : List Frame := [.native { method := ⟨0, 0⟩, args := #[] }]
def about1 : State := aboutOver below0
def p0 : Program := .bare "" "" ""
def e0 : Env := launch0.env 0 0 0
theorem w_frames : about1.frames = Frame.invoking theMethod args0 :: below0 := rfl
set_option maxRecDepth 65536 in
theorem w_args : argsFit about1.vm theMethod args0 = true := by decide +kernel
set_option maxRecDepth 65536 in
theorem w_heap : heapFits about1 = true := by decide +kernel
set_option maxRecDepth 65536 in
theorem w_runnable : about1.curStatus? = some .runnable := by decide +kernel
set_option maxRecDepth 65536 in
theorem w_alone : about1.alone = true := by decide +kernel
set_option maxRecDepth 65536 in
theorem w_named : about1.methodNamed? x = some theMethod := by decide +kernel
set_option maxRecDepth 65536 in
theorem w_hears : about1.hears theMethod below0 = true := by decide +kernel
set_option maxRecDepth 65536 in
theorem w_ripe : about1.ripe theMethod args0 below0 = true := by decide +kernel
theorem w_running : about1.status = .running := rfl
set_option maxRecDepth 65536 in
theorem w_room : about1.hasRoom e0.platform room_1 = true :=
  launch0.hasRoom_least _ room_1 (by decide +kernel) (by decide +kernel) (by decide +kernel) (by decide +kernel) (by decide +kernel) (by decide +kernel)
theorem allAtoms_all (ts : List Jvm.Cond) (a : Array Jvm.Value) (st : Jvm.State) : (allAtoms ts).before a st = ts.all (fun c => c.before a st) := by
  induction ts with
  | nil => rfl
  | cons c t ih =>
    show (Jvm.Cond.and c (allAtoms t)).before a st = _
    rw [Jvm.Cond.before_and, ih, List.all_cons]
def words1 : List Jvm.Cond := Jvm.Cond.code x code maxLocals ret :: tables_1
/-- a 'code' word, met by the world's own term for the bytes: nothing is compared byte by byte -/
theorem code_word {y : MethodName} {bytes : ByteArray} {mx : Nat} {rt : Option FieldType} {a : Array Value} {s : State} {m : MethodId} {meth : Method} {c : Code} (h1 : s.methodNamed? y = some m) (h2 : s.vm.method? m = some meth) (h3 : meth.code = some c) (h4 : c.code = bytes)
    (h5 : (c.maxLocals == mx && c.exceptionTable.isEmpty && decide (c.maxStack ≤ mostOperands) && decide (meth.sig.returnType = rt) && !meth.locks && decide (parseMethodDescriptor y.desc = some meth.sig)) = true) : (Jvm.Cond.code y bytes mx rt).before a s = true := by
  simp only [Bool.and_eq_true, beq_iff_eq, Bool.not_eq_true', decide_eq_true_eq] at h5
  obtain ⟨⟨⟨⟨⟨g1, g2⟩, g3⟩, g4⟩, g5⟩, g6⟩ := h5
  simp [Cond.before, Cond.holds, Cond.value, h1, h2, h3, h4, g1, g2, g3, g4, g5, g6]
def isCode : Jvm.Cond → Bool
  | .code _ _ _ _ => true
  | _ => false
theorem all_split {L : List Jvm.Cond} {P : Jvm.Cond → Bool} (h1 : L.all (fun c => isCode c || P c) = true) (h2 : ∀ c ∈ L.filter isCode, P c = true) : L.all P = true := by
  refine List.all_eq_true.mpr fun c hc => ?_
  have h := List.all_eq_true.mp h1 c hc
  rcases Bool.eq_false_or_eq_true (isCode c) with hi | hi
  · exact h2 c (List.mem_filter.mpr ⟨hc, hi⟩)
  · simpa [hi] using h
set_option maxRecDepth 65536 in
theorem w_c0 : (Jvm.Cond.code x code maxLocals ret).before args0 about1 = true := code_word (m := ⟨1, 2⟩) (meth := k1m2) (c := k1c2) (by decide +kernel) rfl rfl rfl (by decide +kernel)
set_option maxRecDepth 65536 in
theorem w_c1 : (Jvm.Cond.code ({ cls := "com/example/embercast/embercast/node/CopyRuleKeepsAtPinLaw", name := "pick", desc := "(I)Lcom/example/embercast/embercast/node/CopyRule;" } : Jvm.MethodName) method_2_code (1 : Nat) (Option.some (Jvm.ClassFile.FieldType.object "com/example/embercast/embercast/node/CopyRule"))).before args0 about1 = true := code_word (m := ⟨1, 1⟩) (meth := k1m1) (c := k1c1) (by decide +kernel) rfl rfl rfl (by decide +kernel)
set_option maxRecDepth 65536 in
theorem w_c2 : (Jvm.Cond.code ({ cls := "com/example/embercast/embercast/node/CopyRule", name := "keepsAt", desc := "(II)Z" } : Jvm.MethodName) prog_60_method_5_code (3 : Nat) (Option.some Jvm.ClassFile.FieldType.boolean)).before args0 about1 = true := code_word (m := ⟨6, 0⟩) (meth := k6m0) (c := k6c0) (by decide +kernel) rfl rfl rfl (by decide +kernel)
def codes1 : List Jvm.Cond := [Jvm.Cond.code x code maxLocals ret, Jvm.Cond.code ({ cls := "com/example/embercast/embercast/node/CopyRuleKeepsAtPinLaw", name := "pick", desc := "(I)Lcom/example/embercast/embercast/node/CopyRule;" } : Jvm.MethodName) method_2_code (1 : Nat) (Option.some (Jvm.ClassFile.FieldType.object "com/example/embercast/embercast/node/CopyRule")), Jvm.Cond.code ({ cls := "com/example/embercast/embercast/node/CopyRule", name := "keepsAt", desc := "(II)Z" } : Jvm.MethodName) prog_60_method_5_code (3 : Nat) (Option.some Jvm.ClassFile.FieldType.boolean)]
set_option maxRecDepth 65536 in
theorem codes_eq : words1.filter isCode = codes1 := rfl
theorem w_codes : ∀ c ∈ words1.filter isCode, c.before args0 about1 = true := by
  rw [codes_eq]
  intro c hc
  simp only [codes1, List.mem_cons, List.not_mem_nil, or_false] at hc
  rcases hc with rfl | rfl | rfl
  · exact w_c0
  · exact w_c1
  · exact w_c2
set_option maxRecDepth 65536 in
theorem w_t1 : words1.all (fun c => isCode c || c.before args0 about1) = true := by decide +kernel
theorem w_tables : (allAtoms (Jvm.Cond.code x code maxLocals ret :: tables_1)).before args0 about1 = true := by
  rw [allAtoms_all]
  show words1.all (fun c => c.before args0 about1) = true
  refine all_split ?_ w_codes
  rw [w_t1]
set_option maxRecDepth 65536 in
theorem w_case : (Jvm.Cond.and given_1 narrow_1).before args0 about1 = true := by decide +kernel
theorem w_applies : (headSpec (Jvm.Cond.code x code maxLocals ret :: tables_1) room_1).applies x e0.platform about1 = true :=
  (Spec.applies_iff w_frames).mpr ⟨w_running, w_runnable, w_alone, w_named, w_hears, w_ripe, w_room, w_tables⟩
theorem atStart : AtStart classFile x code maxLocals ret World_1 tables_1 room_1 Calls_1 rest_1 Pre_1 launch0 p0 e0 about1 theMethod args0 below0 :=
  ⟨lists_1, trivial, launch0.admits_env _ _ _, launch0.least_env, fairChoices_fair.cas, fairChoices_fair.clock, w_frames, w_args, w_heap, w_applies, trivial, trivial, w_case⟩
end start1
theorem witness_1 : WitnessClaimed_1 := ⟨start1.p0, start1.e0, start1.about1, start1.theMethod, start1.args0, start1.below0, start1.atStart⟩
end Jvm.Pilot.@@N@@
