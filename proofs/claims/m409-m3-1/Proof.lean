import JvmDerived
import JvmDerived.Pilot.@@N@@Statement
import JvmDerived.Pilot.@@N@@Code
set_option linter.unusedVariables false
set_option linter.unusedSimpArgs false
namespace Jvm.RoadKit
open Sem ClassFile Op Lib Jvm.Stand Jvm.Free Jvm.LawKit
section Own
variable {p : Program} {l : Launch} {e : Env} {R : Room} {s : State} {m : MethodId} {args : Array Value} {below : List Frame} {meth : Method} {c : Code} {T : State} {locs : List Loc} {cells slots : Nat}
theorem retI (X : Stand p l e R s m args below meth c T locs cells slots) (hx : p.tables.exec = Jvm.exec) {pc : Nat} {Ls : Array Slot} {z : Int32} {rest : List Value} (hret : meth.sig.returnType = some .int) (hd : decode c.code pc = .ok (.ireturn, 1)) {fs : List Frame}
    (hl : ∀ (f : JFrame) (acts : List Action), f.method = m → f.locked = none → f.entered = [] → (doReturn e (T.setTop f) acts (some (.int z))).1 = T.setFrames fs) : Steps p.tables e below (T.setTop (mkF m pc Ls (.int z :: rest))) (T.setFrames fs) := by
  have hm' : T.vm.method? m = some meth := X.method'
  have hn : narrow .int (.int z) = .int z := rfl
  show Steps p.tables e below (T.setTop { method := m, pc := pc, locals := Ls, stack := _ :: rest, locked := none }) _
  jvm_step X.here [X.here.top, hx, hd, hm', hret, hn]
  first | (intro acts; rw [hl _ acts rfl rfl rfl]) | rw [hl _ _ rfl rfl rfl]
  exact Steps.refl _
/-- the walk comes to an end, with what Φ says there -/
def Goes (p : Program) (e : Env) (below : List Frame) (Φ : State → Outcome → Prop) (S : State) : Prop := ∃ s₂ o, Steps p.tables e below S s₂ ∧ s₂.status = .running ∧ Ended s₂ below o ∧ Φ s₂ o
theorem Goes.via {Φ : State → Outcome → Prop} {S S' : State} (k : ∀ t, Steps p.tables e below S' t → Steps p.tables e below S t) (h : Goes p e below Φ S') : Goes p e below Φ S := by
  obtain ⟨s₂, o, h1, h2, h3, h4⟩ := h
  exact ⟨s₂, o, k _ h1, h2, h3, h4⟩
/-- what a contract's end says -/
def Fin (s : State) (Q : Option Value → Heap → List Loc → Prop) (C S : Nat) : State → Outcome → Prop := fun s₂ o => ∃ v L, o = .returned v ∧ Q v s₂.heap L ∧ FrameEnd s o s₂ L C S
theorem Goes.retN (X : Stand p l e R s m args below meth c T locs cells slots) (hx : p.tables.exec = Jvm.exec) (hlocks : meth.locks = false) {pc : Nat} {Ls : Array Slot} {z : Int32} {t : FieldType} {rest : List Value} (hret : meth.sig.returnType = some t) (ht : t = .boolean ∨ t = .byte ∨ t = .char ∨ t = .short)
    (hd : decode c.code pc = .ok (.ireturn, 1)) {Q : Option Value → Heap → List Loc → Prop} {C S : Nat} (hc : cells ≤ C) (hs : slots ≤ S) (hQ : Q (some (.int (nar t z))) T.heap locs) : Goes p e below (Fin s Q C S) (T.setTop (mkF m pc Ls (.int z :: rest))) := by
  obtain ⟨fs, hr, hrun, hended, hW, hsame⟩ := X.leave (v := some (.int (nar t z))) (fun h => by rw [hret] at h; cases h) hlocks
  exact ⟨_, _, Jvm.RoadKit.retN X hx hret ht hd hr, hrun, hended, _, _, rfl, hQ, ⟨_, rfl⟩, hW, hsame.mono hc hs⟩
theorem Goes.retI (X : Stand p l e R s m args below meth c T locs cells slots) (hx : p.tables.exec = Jvm.exec) (hlocks : meth.locks = false) {pc : Nat} {Ls : Array Slot} {z : Int32} {rest : List Value} (hret : meth.sig.returnType = some .int)
    (hd : decode c.code pc = .ok (.ireturn, 1)) {Q : Option Value → Heap → List Loc → Prop} {C S : Nat} (hc : cells ≤ C) (hs : slots ≤ S) (hQ : Q (some (.int z)) T.heap locs) : Goes p e below (Fin s Q C S) (T.setTop (mkF m pc Ls (.int z :: rest))) := by
  obtain ⟨fs, hr, hrun, hended, hW, hsame⟩ := X.leave (v := some (.int z)) (fun h => by rw [hret] at h; cases h) hlocks
  exact ⟨_, _, Jvm.RoadKit.retI X hx hret hd hr, hrun, hended, _, _, rfl, hQ, ⟨_, rfl⟩, hW, hsame.mono hc hs⟩
theorem Goes.retO (X : Stand p l e R s m args below meth c T locs cells slots) (hx : p.tables.exec = Jvm.exec) (hlocks : meth.locks = false) {pc : Nat} {Ls : Array Slot} {w : Value} {t : FieldType} {i : Instr} {rest : List Value} (hret : meth.sig.returnType = some t) (hn : narrow t w = w)
    (hi : (i = .ireturn ∧ (t = .int ∨ t = .boolean ∨ t = .byte ∨ t = .char ∨ t = .short) ∧ ∃ z, w = .int z) ∨ (i = .lreturn ∧ t = .long ∧ ∃ z, w = .long z) ∨ (i = .dreturn ∧ t = .double ∧ ∃ z, w = .double z) ∨ (i = .freturn ∧ t = .float ∧ ∃ z, w = .float z) ∨ (i = .areturn ∧ t.isReference = true ∧ w.isRef = true))
    (hd : decode c.code pc = .ok (i, 1)) {Q : Option Value → Heap → List Loc → Prop} {C S : Nat} (hc : cells ≤ C) (hs : slots ≤ S) (hQ : Q (some w) T.heap locs) : Goes p e below (Fin s Q C S) (T.setTop (mkF m pc Ls (w :: rest))) := by
  obtain ⟨fs, hr, hrun, hended, hW, hsame⟩ := X.leave (v := some w) (fun h => by rw [hret] at h; cases h) hlocks
  exact ⟨_, _, Jvm.RoadKit.retOut X hx hret hn hi hd hr, hrun, hended, _, _, rfl, hQ, ⟨_, rfl⟩, hW, hsame.mono hc hs⟩
theorem Goes.retV (X : Stand p l e R s m args below meth c T locs cells slots) (hx : p.tables.exec = Jvm.exec) (hlocks : meth.locks = false) {pc : Nat} {Ls : Array Slot} (hret : meth.sig.returnType = none)
    (hd : decode c.code pc = .ok (.return_, 1)) {Q : Option Value → Heap → List Loc → Prop} {C S : Nat} (hc : cells ≤ C) (hs : slots ≤ S) (hQ : Q none T.heap locs) : Goes p e below (Fin s Q C S) (T.setTop (mkF m pc Ls [])) := by
  obtain ⟨fs, hr, hrun, hended, hW, hsame⟩ := X.leave (v := none) (fun _ => rfl) hlocks
  exact ⟨_, _, X.returnOut hx hret hd hr, hrun, hended, _, _, rfl, hQ, ⟨_, rfl⟩, hW, hsame.mono hc hs⟩
/-- room counted generously -/
theorem moreRoom (X : Stand p l e R s m args below meth c T locs cells slots) {k n : Nat} (h1 : cells ≤ k) (h2 : slots ≤ n) : Stand p l e R s m args below meth c T locs k n := { X with same := X.same.mono h1 h2 }
theorem exa_static {args : Array Value} {s : State} {C n d K : String} (h : (Jvm.Cond.exactly (Jvm.Term.static C n d) K).value args s none s [] = some true) : ∃ b, (Jvm.Term.static C n d).eval args s none [] s = some (.ref b) ∧ Exa s s.heap b K := by
  obtain ⟨b, e1⟩ := exa_v h
  exact ⟨b, e1, Exa.start e1 h⟩
theorem fld_static {args : Array Value} {s : State} {t : Jvm.Term} {b : Addr} {C n d : String} {k : Int32} (ev : t.eval args s none [] s = some (.ref b)) (h : (Jvm.Cond.eq (Jvm.Term.field t C n d) (Jvm.Term.int k)).value args s none s [] = some true) : Fld s s.heap b C n d (.int k) := by
  exact Fld.start ((fld_at ev).symm.trans (eqv_i (Term.int_eval k) h))
theorem cat_ref {v : Value} (h : v.isRef = true) : v.category = 1 := by rcases ref_cases h with rfl | ⟨_, rfl⟩ <;> rfl
theorem narrow_ref {v : Value} {t : FieldType} (h : v.isRef = true) : narrow t v = v := by rcases ref_cases h with rfl | ⟨_, rfl⟩ <;> cases t <;> rfl
theorem fits_refO {v : Value} {C : String} (h : v.isRef = true) : fits (.object C) v = true := by rcases ref_cases h with rfl | ⟨_, rfl⟩ <;> rfl
theorem fld_null {args : Array Value} {s : State} {t : Jvm.Term} {b : Addr} {C n d : String} (ev : t.eval args s none [] s = some (.ref b)) (h : (Jvm.Cond.eq (Jvm.Term.field t C n d) Jvm.Term.null).value args s none s [] = some true) : Fld s s.heap b C n d .null := Fld.start ((fld_at ev).symm.trans (null_v h))
theorem ret1 {z : Int32} (h : z = 1) : some (Value.int (nar .boolean z)) = some (.int 1) := by subst h; rfl
end Own
end Jvm.RoadKit
namespace Jvm.Pilot.@@N@@
open Jvm Jvm.ClassFile Sem Op Lib Jvm.Free Jvm.Stand Jvm.LawKit Jvm.RoadKit Bundle Jvm.Pilot.@@N@@.Jvm.D
theorem pd_0 : parseMethodDescriptor "(I)Z" = some ⟨[.int], some .boolean⟩ := by decide +kernel
theorem d1_0 : decode prog_31_method_4_code 0 = .ok (.iload_n 1, 1) := by decide +kernel
theorem d1_1 : decode prog_31_method_4_code 1 = .ok (.aload_n 0, 1) := by decide +kernel
theorem d1_2 : decode prog_31_method_4_code 2 = .ok (.getfield 35, 3) := by decide +kernel
theorem d1_5 : decode prog_31_method_4_code 5 = .ok (.if_icmp .lt 7, 3) := by decide +kernel
theorem d1_8 : decode prog_31_method_4_code 8 = .ok (.iconst 1, 1) := by decide +kernel
theorem d1_9 : decode prog_31_method_4_code 9 = .ok (.goto 4, 3) := by decide +kernel
theorem d1_12 : decode prog_31_method_4_code 12 = .ok (.iconst 0, 1) := by decide +kernel
theorem d1_13 : decode prog_31_method_4_code 13 = .ok (.ireturn, 1) := by decide +kernel
theorem pn_1 : plainName "com/example/fewbits/fewbits/store/FilePart" = true := by first | (simp [plainName, overriddenIn]; done) | decide +kernel
theorem ef_1 (m : MethodId) (x0 : Addr) (x1 : Int32) : entryFrame m #[(.ref x0), (.int x1)] 2 = mkF m 0 #[.val (.ref x0), .val (.int x1)] [] := by first | (simp [entryFrame, mkF, argsToLocals, Value.category]; done) | rfl
def Q_rm1 (Z : State) (a1 : Addr) (p2 : Int32) (w3 : Int32) (h0 : Heap) (n0 : Nat) : Option Value → Heap → List Loc → Prop := fun v h L => v = some (.int (if p2 < w3 then (0 : Int32) else 1)) ∧ Fr n0 L ∧ h = h0
set_option maxRecDepth 65536 in
set_option maxHeartbeats 40000000 in
theorem rm1 (l : Launch) (Z : State) (a0 : Array Value) (hw : ∀ d ∈ tables_1, d.before a0 Z = true) (ws : List Jvm.Cond) (a1 : Addr) (p2 : Int32) (w3 : Int32) (h0 : Heap) (n0 : Nat) (Z0 : n0 ≤ h0.size) (F : Fld Z h0 a1 "com/example/fewbits/fewbits/store/FilePart" "since" "I" (.int w3)) :
    MetFree l (⟨"com/example/fewbits/fewbits/store/FilePart", "isIn", "(I)Z"⟩ : MethodName) (head1 (Jvm.Cond.code (⟨"com/example/fewbits/fewbits/store/FilePart", "isIn", "(I)Z"⟩ : MethodName) prog_31_method_4_code 2 (some .boolean) :: ws) ({ frames := 0, cells := 0, slots := 0, locals := 0 } : Room)) (fun a U => a = #[(.ref a1), (.int p2)] ∧ Z.Warmed39 U.vm ∧ U.heap = h0) (fun _ _ _ _ _ => True) (fun _ U o U' => ∃ v L, o = .returned v ∧ (Q_rm1 Z a1 p2 w3 h0 n0) v U'.heap L ∧ FrameEnd U o U' L ({ frames := 0, cells := 0, slots := 0, locals := 0 } : Room).cells ({ frames := 0, cells := 0, slots := 0, locals := 0 } : Room).slots) := by
  refine MetFree.of_bodySF (plainFor_of_name pn_1) hisR ?_
  intro p e s m args below meth c s₁ Bd hml0 hP hK
  obtain ⟨rfl, hZ, hh⟩ := hP
  have hx := Bd.exec
  have hby := Bd.bytes
  have hml : c.maxLocals = 2 := hml0
  have hown : s.vm.findClass "com/example/fewbits/fewbits/store/FilePart" = some m.cls := findClass_of_methodNamed Bd.named
  have hnm := (name_of_methodNamed Bd.named Bd.method).1
  have X0 : Stand p l e ({ frames := 0, cells := 0, slots := 0, locals := 0 } : Room) s m #[(.ref a1), (.int p2)] below meth c s₁ [] 0 0 := Stand.of_body Bd
  have e0 : s₁.heap = h0 := by rw [← hh, Bd.state]; rfl
  have N0 := Fr.nil n0
  show Goes p e below (Fin s (Q_rm1 Z a1 p2 w3 h0 n0) ({ frames := 0, cells := 0, slots := 0, locals := 0 } : Room).cells ({ frames := 0, cells := 0, slots := 0, locals := 0 } : Room).slots) _
  refine Goes.via (S' := s₁.setTop (mkF m 0 #[.val (.ref a1), .val (.int p2)] [])) (fun tz kz => castTop (ef_1 m a1 p2 ) kz) ?_
  refine Goes.via (S' := s₁.setTop (mkF m 2 #[.val (.ref a1), .val (.int p2)] [(.ref a1), (.int p2)])) (fun tz kz => ?_) ?_
  · show Steps p.tables e below (s₁.setTop (mkF m 0 #[.val (.ref a1), .val (.int p2)] [])) _
    refine XS.iloadN X0.here hx rfl (hb hby d1_0) rfl ?_
    show Steps p.tables e below (s₁.setTop (mkF m 1 #[.val (.ref a1), .val (.int p2)] [(.int p2)])) _
    refine XS.aloadN X0.here hx rfl (hb hby d1_1) rfl rfl ?_
    exact kz
  obtain ⟨T1, X1, e1, st1⟩ := getF X0 hx hZ hown (host := "") (Or.inl (hw _ (List.mem_of_getElem? (i := 8) rfl))) Via.refl e0 F (g := (mkF m 2 #[.val (.ref a1), .val (.int p2)] [(.ref a1), (.int p2)])) rfl rfl (hb hby d1_2)
  refine Goes.via (S' := T1.setTop (mkF m 5 #[.val (.ref a1), .val (.int p2)] [(.int w3), (.int p2)])) st1 ?_
  by_cases hc5_2 : p2 < w3
  · refine Goes.via (S' := T1.setTop (mkF m 13 #[.val (.ref a1), .val (.int p2)] [(.int (0 : Int32))])) (fun tz kz => ?_) ?_
    · show Steps p.tables e below (T1.setTop (mkF m 5 #[.val (.ref a1), .val (.int p2)] [(.int w3), (.int p2)])) _
      refine XS.icmpYes X1.here hx rfl (pc0 := 5) (pc' := 12) rfl (hb hby d1_5) rfl (tlt hc5_2).1 (by decide) (by decide) ?_
      show Steps p.tables e below (T1.setTop (mkF m 12 #[.val (.ref a1), .val (.int p2)] [])) _
      refine XS.iconst X1.here hx rfl (hb hby d1_12) ?_
      exact kz
    exact Goes.retN X1 hx Bd.notSynchronized (t := .boolean) Bd.returns (by simp) (hb hby d1_13) (Nat.le_of_ble_eq_true rfl) (Nat.le_of_ble_eq_true rfl) ⟨(congrArg (fun z => some (Value.int z)) (if_pos hc5_2)).symm, N0, e1⟩
  · refine Goes.via (S' := T1.setTop (mkF m 13 #[.val (.ref a1), .val (.int p2)] [(.int (1 : Int32))])) (fun tz kz => ?_) ?_
    · show Steps p.tables e below (T1.setTop (mkF m 5 #[.val (.ref a1), .val (.int p2)] [(.int w3), (.int p2)])) _
      refine XS.icmpNo X1.here hx rfl (hb hby d1_5) rfl (flt hc5_2).1 ?_
      show Steps p.tables e below (T1.setTop (mkF m 8 #[.val (.ref a1), .val (.int p2)] [])) _
      refine XS.iconst X1.here hx rfl (hb hby d1_8) ?_
      show Steps p.tables e below (T1.setTop (mkF m 9 #[.val (.ref a1), .val (.int p2)] [(.int (1 : Int32))])) _
      refine XS.goto X1.here hx rfl (pc0 := 9) (pc' := 13) rfl (hb hby d1_9) (by decide) (by decide) ?_
      exact kz
    exact Goes.retN X1 hx Bd.notSynchronized (t := .boolean) Bd.returns (by simp) (hb hby d1_13) (Nat.le_of_ble_eq_true rfl) (Nat.le_of_ble_eq_true rfl) ⟨(congrArg (fun z => some (Value.int z)) (if_neg hc5_2)).symm, N0, e1⟩
theorem pn_0 : plainName "com/example/fewbits/fewbits/store/FilePartIsInPinLaw" = true := by first | (simp [plainName, overriddenIn]; done) | decide +kernel
theorem ef_0 (m : MethodId) (x0 : Int32) (x1 : Int32) : entryFrame m #[(.int x0), (.int x1)] maxLocals = mkF m 0 #[.val (.int x0), .val (.int x1), .unset, .unset, .unset, .unset] [] := by first | (simp [entryFrame, mkF, argsToLocals, Value.category, maxLocals]; done) | rfl
def Q_rm0 (Z : State) (p1 : Int32) (p2 : Int32) (b2 : Addr) (b3 : Addr) (b4 : Addr) (b5 : Addr) (h0 : Heap) (n0 : Nat) : Option Value → Heap → List Loc → Prop := fun v h L => v = some (.int 1) ∧ Fr n0 L
set_option maxRecDepth 65536 in
set_option maxHeartbeats 40000000 in
theorem rm0 (l : Launch) (Z : State) (a0 : Array Value) (hw : ∀ d ∈ tables_1, d.before a0 Z = true) (ws : List Jvm.Cond) (p1 : Int32) (p2 : Int32) (b2 : Addr) (b3 : Addr) (b4 : Addr) (b5 : Addr) (h0 : Heap) (n0 : Nat) (Z0 : n0 ≤ h0.size) (S_TIMESTAMP_FORM : Sta Z h0 "com/example/fewbits/fewbits/store/FilePart" "TIMESTAMP_FORM" "Lcom/example/fewbits/fewbits/store/FilePart;" (.ref b2)) (E2 : Exa Z h0 b2 "com/example/fewbits/fewbits/store/FilePart") (F2 : Fld Z h0 b2 "com/example/fewbits/fewbits/store/FilePart" "since" "I" (.int 2)) (S_BLOCKS : Sta Z h0 "com/example/fewbits/fewbits/store/FilePart" "BLOCKS" "Lcom/example/fewbits/fewbits/store/FilePart;" (.ref b3)) (E3 : Exa Z h0 b3 "com/example/fewbits/fewbits/store/FilePart") (F3 : Fld Z h0 b3 "com/example/fewbits/fewbits/store/FilePart" "since" "I" (.int 3)) (S_LOSSY_FIGURES : Sta Z h0 "com/example/fewbits/fewbits/store/FilePart" "LOSSY_FIGURES" "Lcom/example/fewbits/fewbits/store/FilePart;" (.ref b4)) (E4 : Exa Z h0 b4 "com/example/fewbits/fewbits/store/FilePart") (F4 : Fld Z h0 b4 "com/example/fewbits/fewbits/store/FilePart" "since" "I" (.int 4)) (S_CHECKSUMS : Sta Z h0 "com/example/fewbits/fewbits/store/FilePart" "CHECKSUMS" "Lcom/example/fewbits/fewbits/store/FilePart;" (.ref b5)) (E5 : Exa Z h0 b5 "com/example/fewbits/fewbits/store/FilePart") (F5 : Fld Z h0 b5 "com/example/fewbits/fewbits/store/FilePart" "since" "I" (.int 5)) :
    MetFree l x (head1 (Jvm.Cond.code x code maxLocals ret :: ws) room_1) (fun a U => a = #[(.int p1), (.int p2)] ∧ Z.Warmed39 U.vm ∧ U.heap = h0) (fun _ _ _ _ _ => True) (fun _ U o U' => ∃ v L, o = .returned v ∧ (Q_rm0 Z p1 p2 b2 b3 b4 b5 h0 n0) v U'.heap L ∧ FrameEnd U o U' L room_1.cells room_1.slots) := by
  refine MetFree.of_bodySF (plainFor_of_name pn_0) hisR ?_
  intro p e s m args below meth c s₁ Bd hml0 hP hK
  obtain ⟨rfl, hZ, hh⟩ := hP
  have hx := Bd.exec
  have hby := Bd.bytes
  have hml : c.maxLocals = 6 := hml0
  have hown : s.vm.findClass "com/example/fewbits/fewbits/store/FilePartIsInPinLaw" = some m.cls := findClass_of_methodNamed Bd.named
  have hnm := (name_of_methodNamed Bd.named Bd.method).1
  have X0 : Stand p l e room_1 s m #[(.int p1), (.int p2)] below meth c s₁ [] 0 0 := Stand.of_body Bd
  have e0 : s₁.heap = h0 := by rw [← hh, Bd.state]; rfl
  have N0 := Fr.nil n0
  have seg55 : ∀ (Tq : State) (b : Addr) (k : Int32), (Stand p l e room_1 s m #[(.int p1), (.int p2)] below meth c Tq [] 0 0) → (Tq.heap = h0) → (Exa Z h0 b "com/example/fewbits/fewbits/store/FilePart") → (Fld Z h0 b "com/example/fewbits/fewbits/store/FilePart" "since" "I" (.int k)) → (k = 2 ∨ k = 3 ∨ k = 4 ∨ k = 5) → Goes p e below (Fin s (Q_rm0 Z p1 p2 b2 b3 b4 b5 h0 n0) room_1.cells room_1.slots) (Tq.setTop (mkF m 55 #[.val (.int p1), .val (.int p2), .val (.int (p1 &&& (3 : Int32))), .val (.ref b), .val (.int k), .unset] [])) := by
    intro Tq b k XTq eTq Ek Fk hk
    refine Goes.via (S' := Tq.setTop (mkF m 58 #[.val (.int p1), .val (.int p2), .val (.int (p1 &&& (3 : Int32))), .val (.ref b), .val (.int k), .unset] [(.int k), (.int p2)])) (fun tz kz => ?_) ?_
    · show Steps p.tables e below (Tq.setTop (mkF m 55 #[.val (.int p1), .val (.int p2), .val (.int (p1 &&& (3 : Int32))), .val (.ref b), .val (.int k), .unset] [])) _
      refine XS.iloadN XTq.here hx rfl (hb hby at_55) rfl ?_
      show Steps p.tables e below (Tq.setTop (mkF m 56 #[.val (.int p1), .val (.int p2), .val (.int (p1 &&& (3 : Int32))), .val (.ref b), .val (.int k), .unset] [(.int p2)])) _
      refine XS.iload XTq.here hx rfl (hb hby at_56) rfl ?_
      exact kz
    obtain ⟨r2, hr2⟩ : ∃ z : Int32, z = (if p2 < k then (0 : Int32) else (1 : Int32)) := ⟨_, rfl⟩
    have j58_3 : ∀ t, Steps p.tables e below (Tq.setTop (mkF m 66 #[.val (.int p1), .val (.int p2), .val (.int (p1 &&& (3 : Int32))), .val (.ref b), .val (.int k), .unset] [(.int r2)])) t → Steps p.tables e below (Tq.setTop (mkF m 58 #[.val (.int p1), .val (.int p2), .val (.int (p1 &&& (3 : Int32))), .val (.ref b), .val (.int k), .unset] [(.int k), (.int p2)])) t := by
      intro tz kz
      by_cases hc58_1 : p2 < k
      · rw [if_pos hc58_1] at hr2
        show Steps p.tables e below (Tq.setTop (mkF m 58 #[.val (.int p1), .val (.int p2), .val (.int (p1 &&& (3 : Int32))), .val (.ref b), .val (.int k), .unset] [(.int k), (.int p2)])) _
        refine XS.icmpYes XTq.here hx rfl (pc0 := 58) (pc' := 65) rfl (hb hby at_58) rfl (tlt hc58_1).1 (by decide) (by decide) ?_
        show Steps p.tables e below (Tq.setTop (mkF m 65 #[.val (.int p1), .val (.int p2), .val (.int (p1 &&& (3 : Int32))), .val (.ref b), .val (.int k), .unset] [])) _
        refine XS.iconst XTq.here hx rfl (hb hby at_65) ?_
        subst hr2
        exact kz
      · rw [if_neg hc58_1] at hr2
        show Steps p.tables e below (Tq.setTop (mkF m 58 #[.val (.int p1), .val (.int p2), .val (.int (p1 &&& (3 : Int32))), .val (.ref b), .val (.int k), .unset] [(.int k), (.int p2)])) _
        refine XS.icmpNo XTq.here hx rfl (hb hby at_58) rfl (flt hc58_1).1 ?_
        show Steps p.tables e below (Tq.setTop (mkF m 61 #[.val (.int p1), .val (.int p2), .val (.int (p1 &&& (3 : Int32))), .val (.ref b), .val (.int k), .unset] [])) _
        refine XS.iconst XTq.here hx rfl (hb hby at_61) ?_
        show Steps p.tables e below (Tq.setTop (mkF m 62 #[.val (.int p1), .val (.int p2), .val (.int (p1 &&& (3 : Int32))), .val (.ref b), .val (.int k), .unset] [(.int (1 : Int32))])) _
        refine XS.goto XTq.here hx rfl (pc0 := 62) (pc' := 66) rfl (hb hby at_62) (by decide) (by decide) ?_
        subst hr2
        exact kz
    refine Goes.via j58_3 ?_
    refine Goes.via (S' := Tq.setTop (mkF m 70 #[.val (.int p1), .val (.int p2), .val (.int (p1 &&& (3 : Int32))), .val (.ref b), .val (.int k), .val (.int r2)] [(.int p2), (.ref b)])) (fun tz kz => ?_) ?_
    · show Steps p.tables e below (Tq.setTop (mkF m 66 #[.val (.int p1), .val (.int p2), .val (.int (p1 &&& (3 : Int32))), .val (.ref b), .val (.int k), .unset] [(.int r2)])) _
      refine XS.istore XTq.here hx rfl (hb hby at_66) rfl (l' := #[.val (.int p1), .val (.int p2), .val (.int (p1 &&& (3 : Int32))), .val (.ref b), .val (.int k), .val (.int r2)]) rfl ?_
      show Steps p.tables e below (Tq.setTop (mkF m 68 #[.val (.int p1), .val (.int p2), .val (.int (p1 &&& (3 : Int32))), .val (.ref b), .val (.int k), .val (.int r2)] [])) _
      refine XS.aloadN XTq.here hx rfl (hb hby at_68) rfl rfl ?_
      show Steps p.tables e below (Tq.setTop (mkF m 69 #[.val (.int p1), .val (.int p2), .val (.int (p1 &&& (3 : Int32))), .val (.ref b), .val (.int k), .val (.int r2)] [(.ref b)])) _
      refine XS.iloadN XTq.here hx rfl (hb hby at_69) rfl ?_
      exact kz
    obtain ⟨cq4, kq4, q4a, q4b, q4c⟩ := isOf hZ eTq Ek
    obtain ⟨_, _, ⟨T4, L4, k4, n4⟩, -, X4, ⟨Lc4, hQ4, l4, y4, z4⟩, st4⟩ := XTq.virtualBack hx (y := (⟨"com/example/fewbits/fewbits/store/FilePart", "isIn", "(I)Z"⟩ : MethodName)) (z := (⟨"com/example/fewbits/fewbits/store/FilePart", "isIn", "(I)Z"⟩ : MethodName)) hown (mvT hZ (hw _ (List.mem_of_getElem? (i := 3) rfl))) (mvT hZ (hw _ (List.mem_of_getElem? (i := 4) rfl))) (notFace_of_selects (args := #[]) (mvT hZ (hw _ (List.mem_of_getElem? (i := 6) rfl)))) (mvT hZ (hw _ (List.mem_of_getElem? (i := 6) rfl))) (mvT hZ (hw _ (List.mem_of_getElem? (i := 5) rfl))) (by decide) (backOf (W := 0) (rm1 l Z a0 hw [] b p2 k h0 n0 Z0 Fk) hZ (hw _ (List.mem_of_getElem? (i := 7) rfl)) (hw _ (List.mem_of_getElem? (i := 1) rfl)) (by decide) (by decide)) q4a q4c (g := (mkF m 70 #[.val (.int p1), .val (.int p2), .val (.int (p1 &&& (3 : Int32))), .val (.ref b), .val (.int k), .val (.int r2)] [(.int p2), (.ref b)])) rfl (by rw [hml]; rfl) (Steps.refl _) (argsL := [(.int p2)]) (rest := []) (lenOf pd_0 rfl) rfl (by show 2 * 0 + _ ≤ _; exact Nat.le_of_eq rfl) (hb hby at_70) (fun _ _ => ⟨rfl, eTq, (by decide : 0 + 0 ≤ _), (by decide : 0 + 0 ≤ _)⟩)
    dsimp only [Pt.U, Pt.locs, Pt.cells, Pt.slots] at X4 l4 y4 z4 st4 hQ4
    subst l4 y4 z4
    obtain ⟨rfl, N4, e4⟩ := hQ4
    have Nf4 := Fr.app N0 N4
    refine Goes.via (S' := T4.setTop (mkF m 73 #[.val (.int p1), .val (.int p2), .val (.int (p1 &&& (3 : Int32))), .val (.ref b), .val (.int k), .val (.int r2)] [(.int (if p2 < k then (0 : Int32) else 1))])) (fun _ kz => st4.trans kz) ?_
    refine Goes.via (S' := T4.setTop (mkF m 83 #[.val (.int p1), .val (.int p2), .val (.int (p1 &&& (3 : Int32))), .val (.ref b), .val (.int k), .val (.int r2)] [(.int k), (.ref b)])) (fun tz kz => ?_) ?_
    · show Steps p.tables e below (T4.setTop (mkF m 73 #[.val (.int p1), .val (.int p2), .val (.int (p1 &&& (3 : Int32))), .val (.ref b), .val (.int k), .val (.int r2)] [(.int (if p2 < k then (0 : Int32) else 1))])) _
      refine XS.iload X4.here hx rfl (hb hby at_73) rfl ?_
      show Steps p.tables e below (T4.setTop (mkF m 75 #[.val (.int p1), .val (.int p2), .val (.int (p1 &&& (3 : Int32))), .val (.ref b), .val (.int k), .val (.int r2)] [(.int r2), (.int (if p2 < k then (0 : Int32) else 1))])) _
      refine XS.icmpYes X4.here hx rfl (pc0 := 75) (pc' := 80) rfl (hb hby at_75) rfl (teq hr2.symm).1 (by decide) (by decide) ?_
      show Steps p.tables e below (T4.setTop (mkF m 80 #[.val (.int p1), .val (.int p2), .val (.int (p1 &&& (3 : Int32))), .val (.ref b), .val (.int k), .val (.int r2)] [])) _
      refine XS.aloadN X4.here hx rfl (hb hby at_80) rfl rfl ?_
      show Steps p.tables e below (T4.setTop (mkF m 81 #[.val (.int p1), .val (.int p2), .val (.int (p1 &&& (3 : Int32))), .val (.ref b), .val (.int k), .val (.int r2)] [(.ref b)])) _
      refine XS.iload X4.here hx rfl (hb hby at_81) rfl ?_
      exact kz
    obtain ⟨cq5, kq5, q5a, q5b, q5c⟩ := isOf hZ e4 Ek
    obtain ⟨_, _, ⟨T5, L5, k5, n5⟩, -, X5, ⟨Lc5, hQ5, l5, y5, z5⟩, st5⟩ := X4.virtualBack hx (y := (⟨"com/example/fewbits/fewbits/store/FilePart", "isIn", "(I)Z"⟩ : MethodName)) (z := (⟨"com/example/fewbits/fewbits/store/FilePart", "isIn", "(I)Z"⟩ : MethodName)) hown (mvT hZ (hw _ (List.mem_of_getElem? (i := 3) rfl))) (mvT hZ (hw _ (List.mem_of_getElem? (i := 4) rfl))) (notFace_of_selects (args := #[]) (mvT hZ (hw _ (List.mem_of_getElem? (i := 6) rfl)))) (mvT hZ (hw _ (List.mem_of_getElem? (i := 6) rfl))) (mvT hZ (hw _ (List.mem_of_getElem? (i := 5) rfl))) (by decide) (backOf (W := 0) (rm1 l Z a0 hw [] b k k h0 n0 Z0 Fk) hZ (hw _ (List.mem_of_getElem? (i := 7) rfl)) (hw _ (List.mem_of_getElem? (i := 1) rfl)) (by decide) (by decide)) q5a q5c (g := (mkF m 83 #[.val (.int p1), .val (.int p2), .val (.int (p1 &&& (3 : Int32))), .val (.ref b), .val (.int k), .val (.int r2)] [(.int k), (.ref b)])) rfl (by rw [hml]; rfl) (Steps.refl _) (argsL := [(.int k)]) (rest := []) (lenOf pd_0 rfl) rfl (by show 2 * 0 + _ ≤ _; exact Nat.le_of_eq rfl) (hb hby at_83) (fun _ _ => ⟨rfl, e4, (by decide : 0 + 0 ≤ _), (by decide : 0 + 0 ≤ _)⟩)
    dsimp only [Pt.U, Pt.locs, Pt.cells, Pt.slots] at X5 l5 y5 z5 st5 hQ5
    subst l5 y5 z5
    obtain ⟨rfl, N5, e5⟩ := hQ5
    have Nf5 := Fr.app Nf4 N5
    refine Goes.via (S' := T5.setTop (mkF m 86 #[.val (.int p1), .val (.int p2), .val (.int (p1 &&& (3 : Int32))), .val (.ref b), .val (.int k), .val (.int r2)] [(.int (if k < k then (0 : Int32) else 1))])) (fun _ kz => st5.trans kz) ?_
    refine Goes.via (S' := T5.setTop (mkF m 96 #[.val (.int p1), .val (.int p2), .val (.int (p1 &&& (3 : Int32))), .val (.ref b), .val (.int k), .val (.int r2)] [(.int (k - (1 : Int32))), (.ref b)])) (fun tz kz => ?_) ?_
    · show Steps p.tables e below (T5.setTop (mkF m 86 #[.val (.int p1), .val (.int p2), .val (.int (p1 &&& (3 : Int32))), .val (.ref b), .val (.int k), .val (.int r2)] [(.int (if k < k then (0 : Int32) else 1))])) _
      refine XS.ifYes X5.here hx rfl (pc0 := 86) (pc' := 91) rfl (hb hby at_86) rfl ((if0 _ _).trans (feq (by simp)).2) (by decide) (by decide) ?_
      show Steps p.tables e below (T5.setTop (mkF m 91 #[.val (.int p1), .val (.int p2), .val (.int (p1 &&& (3 : Int32))), .val (.ref b), .val (.int k), .val (.int r2)] [])) _
      refine XS.aloadN X5.here hx rfl (hb hby at_91) rfl rfl ?_
      show Steps p.tables e below (T5.setTop (mkF m 92 #[.val (.int p1), .val (.int p2), .val (.int (p1 &&& (3 : Int32))), .val (.ref b), .val (.int k), .val (.int r2)] [(.ref b)])) _
      refine XS.iload X5.here hx rfl (hb hby at_92) rfl ?_
      show Steps p.tables e below (T5.setTop (mkF m 94 #[.val (.int p1), .val (.int p2), .val (.int (p1 &&& (3 : Int32))), .val (.ref b), .val (.int k), .val (.int r2)] [(.int k), (.ref b)])) _
      refine XS.iconst X5.here hx rfl (hb hby at_94) ?_
      show Steps p.tables e below (T5.setTop (mkF m 95 #[.val (.int p1), .val (.int p2), .val (.int (p1 &&& (3 : Int32))), .val (.ref b), .val (.int k), .val (.int r2)] [(.int (1 : Int32)), (.int k), (.ref b)])) _
      refine XS.isub X5.here hx rfl (hb hby at_95) rfl ?_
      exact kz
    obtain ⟨cq6, kq6, q6a, q6b, q6c⟩ := isOf hZ e5 Ek
    obtain ⟨_, _, ⟨T6, L6, k6, n6⟩, -, X6, ⟨Lc6, hQ6, l6, y6, z6⟩, st6⟩ := X5.virtualBack hx (y := (⟨"com/example/fewbits/fewbits/store/FilePart", "isIn", "(I)Z"⟩ : MethodName)) (z := (⟨"com/example/fewbits/fewbits/store/FilePart", "isIn", "(I)Z"⟩ : MethodName)) hown (mvT hZ (hw _ (List.mem_of_getElem? (i := 3) rfl))) (mvT hZ (hw _ (List.mem_of_getElem? (i := 4) rfl))) (notFace_of_selects (args := #[]) (mvT hZ (hw _ (List.mem_of_getElem? (i := 6) rfl)))) (mvT hZ (hw _ (List.mem_of_getElem? (i := 6) rfl))) (mvT hZ (hw _ (List.mem_of_getElem? (i := 5) rfl))) (by decide) (backOf (W := 0) (rm1 l Z a0 hw [] b (k - (1 : Int32)) k h0 n0 Z0 Fk) hZ (hw _ (List.mem_of_getElem? (i := 7) rfl)) (hw _ (List.mem_of_getElem? (i := 1) rfl)) (by decide) (by decide)) q6a q6c (g := (mkF m 96 #[.val (.int p1), .val (.int p2), .val (.int (p1 &&& (3 : Int32))), .val (.ref b), .val (.int k), .val (.int r2)] [(.int (k - (1 : Int32))), (.ref b)])) rfl (by rw [hml]; rfl) (Steps.refl _) (argsL := [(.int (k - (1 : Int32)))]) (rest := []) (lenOf pd_0 rfl) rfl (by show 2 * 0 + _ ≤ _; exact Nat.le_of_eq rfl) (hb hby at_96) (fun _ _ => ⟨rfl, e5, (by decide : 0 + 0 ≤ _), (by decide : 0 + 0 ≤ _)⟩)
    dsimp only [Pt.U, Pt.locs, Pt.cells, Pt.slots] at X6 l6 y6 z6 st6 hQ6
    subst l6 y6 z6
    obtain ⟨rfl, N6, e6⟩ := hQ6
    have Nf6 := Fr.app Nf5 N6
    refine Goes.via (S' := T6.setTop (mkF m 99 #[.val (.int p1), .val (.int p2), .val (.int (p1 &&& (3 : Int32))), .val (.ref b), .val (.int k), .val (.int r2)] [(.int (if (k - (1 : Int32)) < k then (0 : Int32) else 1))])) (fun _ kz => st6.trans kz) ?_
    refine Goes.via (S' := T6.setTop (mkF m 105 #[.val (.int p1), .val (.int p2), .val (.int (p1 &&& (3 : Int32))), .val (.ref b), .val (.int k), .val (.int r2)] [(.int (1 : Int32))])) (fun tz kz => ?_) ?_
    · show Steps p.tables e below (T6.setTop (mkF m 99 #[.val (.int p1), .val (.int p2), .val (.int (p1 &&& (3 : Int32))), .val (.ref b), .val (.int k), .val (.int r2)] [(.int (if (k - (1 : Int32)) < k then (0 : Int32) else 1))])) _
      refine XS.ifYes X6.here hx rfl (pc0 := 99) (pc' := 104) rfl (hb hby at_99) rfl ((if0 _ _).trans (teq (by rcases hk with rfl | rfl | rfl | rfl <;> decide)).1) (by decide) (by decide) ?_
      show Steps p.tables e below (T6.setTop (mkF m 104 #[.val (.int p1), .val (.int p2), .val (.int (p1 &&& (3 : Int32))), .val (.ref b), .val (.int k), .val (.int r2)] [])) _
      refine XS.iconst X6.here hx rfl (hb hby at_104) ?_
      exact kz
    exact Goes.retN X6 hx Bd.notSynchronized (t := .boolean) Bd.returns (by simp) (hb hby at_105) (Nat.le_of_ble_eq_true rfl) (Nat.le_of_ble_eq_true rfl) ⟨rfl, Nf6⟩
  show Goes p e below (Fin s (Q_rm0 Z p1 p2 b2 b3 b4 b5 h0 n0) room_1.cells room_1.slots) _
  refine Goes.via (S' := s₁.setTop (mkF m 0 #[.val (.int p1), .val (.int p2), .unset, .unset, .unset, .unset] [])) (fun tz kz => castTop (ef_0 m p1 p2 ) kz) ?_
  refine Goes.via (S' := s₁.setTop (mkF m 5 #[.val (.int p1), .val (.int p2), .val (.int (p1 &&& (3 : Int32))), .unset, .unset, .unset] [(.int (p1 &&& (3 : Int32)))])) (fun tz kz => ?_) ?_
  · show Steps p.tables e below (s₁.setTop (mkF m 0 #[.val (.int p1), .val (.int p2), .unset, .unset, .unset, .unset] [])) _
    refine XS.iloadN X0.here hx rfl (hb hby at_0) rfl ?_
    show Steps p.tables e below (s₁.setTop (mkF m 1 #[.val (.int p1), .val (.int p2), .unset, .unset, .unset, .unset] [(.int p1)])) _
    refine XS.iconst X0.here hx rfl (hb hby at_1) ?_
    show Steps p.tables e below (s₁.setTop (mkF m 2 #[.val (.int p1), .val (.int p2), .unset, .unset, .unset, .unset] [(.int (3 : Int32)), (.int p1)])) _
    refine XS.iand X0.here hx rfl (hb hby at_2) rfl ?_
    show Steps p.tables e below (s₁.setTop (mkF m 3 #[.val (.int p1), .val (.int p2), .unset, .unset, .unset, .unset] [(.int (p1 &&& (3 : Int32)))])) _
    refine XS.istoreN X0.here hx rfl (hb hby at_3) rfl (l' := #[.val (.int p1), .val (.int p2), .val (.int (p1 &&& (3 : Int32))), .unset, .unset, .unset]) rfl ?_
    show Steps p.tables e below (s₁.setTop (mkF m 4 #[.val (.int p1), .val (.int p2), .val (.int (p1 &&& (3 : Int32))), .unset, .unset, .unset] [])) _
    refine XS.iloadN X0.here hx rfl (hb hby at_4) rfl ?_
    exact kz
  by_cases hc5_7 : (p1 &&& (3 : Int32)) = (0 : Int32)
  · refine Goes.via (S' := s₁.setTop (mkF m 8 #[.val (.int p1), .val (.int p2), .val (.int (p1 &&& (3 : Int32))), .unset, .unset, .unset] [])) (fun tz kz => ?_) ?_
    · show Steps p.tables e below (s₁.setTop (mkF m 5 #[.val (.int p1), .val (.int p2), .val (.int (p1 &&& (3 : Int32))), .unset, .unset, .unset] [(.int (p1 &&& (3 : Int32)))])) _
      refine XS.ifNo X0.here hx rfl (hb hby at_5) rfl ((if0 _ _).trans (teq hc5_7).2) ?_
      exact kz
    obtain ⟨T8, X8, e8, st8⟩ := getS2 X0 hx hZ hown (host := "") (Or.inl (hw _ (List.mem_of_getElem? (i := 0) rfl))) Via.refl e0 S_TIMESTAMP_FORM (g := (mkF m 8 #[.val (.int p1), .val (.int p2), .val (.int (p1 &&& (3 : Int32))), .unset, .unset, .unset] [])) rfl (hb hby at_8)
    refine Goes.via (S' := T8.setTop (mkF m 11 #[.val (.int p1), .val (.int p2), .val (.int (p1 &&& (3 : Int32))), .unset, .unset, .unset] [(.ref b2)])) st8 ?_
    refine Goes.via (S' := T8.setTop (mkF m 55 #[.val (.int p1), .val (.int p2), .val (.int (p1 &&& (3 : Int32))), .val (.ref b2), .val (.int (2 : Int32)), .unset] [])) (fun tz kz => ?_) ?_
    · show Steps p.tables e below (T8.setTop (mkF m 11 #[.val (.int p1), .val (.int p2), .val (.int (p1 &&& (3 : Int32))), .unset, .unset, .unset] [(.ref b2)])) _
      refine XS.astoreN X8.here hx rfl (hb hby at_11) rfl rfl (l' := #[.val (.int p1), .val (.int p2), .val (.int (p1 &&& (3 : Int32))), .val (.ref b2), .unset, .unset]) rfl ?_
      show Steps p.tables e below (T8.setTop (mkF m 12 #[.val (.int p1), .val (.int p2), .val (.int (p1 &&& (3 : Int32))), .val (.ref b2), .unset, .unset] [])) _
      refine XS.iconst X8.here hx rfl (hb hby at_12) ?_
      show Steps p.tables e below (T8.setTop (mkF m 13 #[.val (.int p1), .val (.int p2), .val (.int (p1 &&& (3 : Int32))), .val (.ref b2), .unset, .unset] [(.int (2 : Int32))])) _
      refine XS.istore X8.here hx rfl (hb hby at_13) rfl (l' := #[.val (.int p1), .val (.int p2), .val (.int (p1 &&& (3 : Int32))), .val (.ref b2), .val (.int (2 : Int32)), .unset]) rfl ?_
      show Steps p.tables e below (T8.setTop (mkF m 15 #[.val (.int p1), .val (.int p2), .val (.int (p1 &&& (3 : Int32))), .val (.ref b2), .val (.int (2 : Int32)), .unset] [])) _
      refine XS.goto X8.here hx rfl (pc0 := 15) (pc' := 55) rfl (hb hby at_15) (by decide) (by decide) ?_
      exact kz
    exact seg55 _ _ _ X8 e8 E2 F2 (by decide)
  · refine Goes.via (S' := s₁.setTop (mkF m 20 #[.val (.int p1), .val (.int p2), .val (.int (p1 &&& (3 : Int32))), .unset, .unset, .unset] [(.int (1 : Int32)), (.int (p1 &&& (3 : Int32)))])) (fun tz kz => ?_) ?_
    · show Steps p.tables e below (s₁.setTop (mkF m 5 #[.val (.int p1), .val (.int p2), .val (.int (p1 &&& (3 : Int32))), .unset, .unset, .unset] [(.int (p1 &&& (3 : Int32)))])) _
      refine XS.ifYes X0.here hx rfl (pc0 := 5) (pc' := 18) rfl (hb hby at_5) rfl ((if0 _ _).trans (feq hc5_7).2) (by decide) (by decide) ?_
      show Steps p.tables e below (s₁.setTop (mkF m 18 #[.val (.int p1), .val (.int p2), .val (.int (p1 &&& (3 : Int32))), .unset, .unset, .unset] [])) _
      refine XS.iloadN X0.here hx rfl (hb hby at_18) rfl ?_
      show Steps p.tables e below (s₁.setTop (mkF m 19 #[.val (.int p1), .val (.int p2), .val (.int (p1 &&& (3 : Int32))), .unset, .unset, .unset] [(.int (p1 &&& (3 : Int32)))])) _
      refine XS.iconst X0.here hx rfl (hb hby at_19) ?_
      exact kz
    by_cases hc20_9 : (p1 &&& (3 : Int32)) = (1 : Int32)
    · refine Goes.via (S' := s₁.setTop (mkF m 23 #[.val (.int p1), .val (.int p2), .val (.int (p1 &&& (3 : Int32))), .unset, .unset, .unset] [])) (fun tz kz => ?_) ?_
      · show Steps p.tables e below (s₁.setTop (mkF m 20 #[.val (.int p1), .val (.int p2), .val (.int (p1 &&& (3 : Int32))), .unset, .unset, .unset] [(.int (1 : Int32)), (.int (p1 &&& (3 : Int32)))])) _
        refine XS.icmpNo X0.here hx rfl (hb hby at_20) rfl (teq hc20_9).2 ?_
        exact kz
      obtain ⟨T10, X10, e10, st10⟩ := getS2 X0 hx hZ hown (host := "") (Or.inl (hw _ (List.mem_of_getElem? (i := 12) rfl))) Via.refl e0 S_BLOCKS (g := (mkF m 23 #[.val (.int p1), .val (.int p2), .val (.int (p1 &&& (3 : Int32))), .unset, .unset, .unset] [])) rfl (hb hby at_23)
      refine Goes.via (S' := T10.setTop (mkF m 26 #[.val (.int p1), .val (.int p2), .val (.int (p1 &&& (3 : Int32))), .unset, .unset, .unset] [(.ref b3)])) st10 ?_
      refine Goes.via (S' := T10.setTop (mkF m 55 #[.val (.int p1), .val (.int p2), .val (.int (p1 &&& (3 : Int32))), .val (.ref b3), .val (.int (3 : Int32)), .unset] [])) (fun tz kz => ?_) ?_
      · show Steps p.tables e below (T10.setTop (mkF m 26 #[.val (.int p1), .val (.int p2), .val (.int (p1 &&& (3 : Int32))), .unset, .unset, .unset] [(.ref b3)])) _
        refine XS.astoreN X10.here hx rfl (hb hby at_26) rfl rfl (l' := #[.val (.int p1), .val (.int p2), .val (.int (p1 &&& (3 : Int32))), .val (.ref b3), .unset, .unset]) rfl ?_
        show Steps p.tables e below (T10.setTop (mkF m 27 #[.val (.int p1), .val (.int p2), .val (.int (p1 &&& (3 : Int32))), .val (.ref b3), .unset, .unset] [])) _
        refine XS.iconst X10.here hx rfl (hb hby at_27) ?_
        show Steps p.tables e below (T10.setTop (mkF m 28 #[.val (.int p1), .val (.int p2), .val (.int (p1 &&& (3 : Int32))), .val (.ref b3), .unset, .unset] [(.int (3 : Int32))])) _
        refine XS.istore X10.here hx rfl (hb hby at_28) rfl (l' := #[.val (.int p1), .val (.int p2), .val (.int (p1 &&& (3 : Int32))), .val (.ref b3), .val (.int (3 : Int32)), .unset]) rfl ?_
        show Steps p.tables e below (T10.setTop (mkF m 30 #[.val (.int p1), .val (.int p2), .val (.int (p1 &&& (3 : Int32))), .val (.ref b3), .val (.int (3 : Int32)), .unset] [])) _
        refine XS.goto X10.here hx rfl (pc0 := 30) (pc' := 55) rfl (hb hby at_30) (by decide) (by decide) ?_
        exact kz
      exact seg55 _ _ _ X10 e10 E3 F3 (by decide)
    · refine Goes.via (S' := s₁.setTop (mkF m 35 #[.val (.int p1), .val (.int p2), .val (.int (p1 &&& (3 : Int32))), .unset, .unset, .unset] [(.int (2 : Int32)), (.int (p1 &&& (3 : Int32)))])) (fun tz kz => ?_) ?_
      · show Steps p.tables e below (s₁.setTop (mkF m 20 #[.val (.int p1), .val (.int p2), .val (.int (p1 &&& (3 : Int32))), .unset, .unset, .unset] [(.int (1 : Int32)), (.int (p1 &&& (3 : Int32)))])) _
        refine XS.icmpYes X0.here hx rfl (pc0 := 20) (pc' := 33) rfl (hb hby at_20) rfl (feq hc20_9).2 (by decide) (by decide) ?_
        show Steps p.tables e below (s₁.setTop (mkF m 33 #[.val (.int p1), .val (.int p2), .val (.int (p1 &&& (3 : Int32))), .unset, .unset, .unset] [])) _
        refine XS.iloadN X0.here hx rfl (hb hby at_33) rfl ?_
        show Steps p.tables e below (s₁.setTop (mkF m 34 #[.val (.int p1), .val (.int p2), .val (.int (p1 &&& (3 : Int32))), .unset, .unset, .unset] [(.int (p1 &&& (3 : Int32)))])) _
        refine XS.iconst X0.here hx rfl (hb hby at_34) ?_
        exact kz
      by_cases hc35_11 : (p1 &&& (3 : Int32)) = (2 : Int32)
      · refine Goes.via (S' := s₁.setTop (mkF m 38 #[.val (.int p1), .val (.int p2), .val (.int (p1 &&& (3 : Int32))), .unset, .unset, .unset] [])) (fun tz kz => ?_) ?_
        · show Steps p.tables e below (s₁.setTop (mkF m 35 #[.val (.int p1), .val (.int p2), .val (.int (p1 &&& (3 : Int32))), .unset, .unset, .unset] [(.int (2 : Int32)), (.int (p1 &&& (3 : Int32)))])) _
          refine XS.icmpNo X0.here hx rfl (hb hby at_35) rfl (teq hc35_11).2 ?_
          exact kz
        obtain ⟨T12, X12, e12, st12⟩ := getS2 X0 hx hZ hown (host := "") (Or.inl (hw _ (List.mem_of_getElem? (i := 10) rfl))) Via.refl e0 S_LOSSY_FIGURES (g := (mkF m 38 #[.val (.int p1), .val (.int p2), .val (.int (p1 &&& (3 : Int32))), .unset, .unset, .unset] [])) rfl (hb hby at_38)
        refine Goes.via (S' := T12.setTop (mkF m 41 #[.val (.int p1), .val (.int p2), .val (.int (p1 &&& (3 : Int32))), .unset, .unset, .unset] [(.ref b4)])) st12 ?_
        refine Goes.via (S' := T12.setTop (mkF m 55 #[.val (.int p1), .val (.int p2), .val (.int (p1 &&& (3 : Int32))), .val (.ref b4), .val (.int (4 : Int32)), .unset] [])) (fun tz kz => ?_) ?_
        · show Steps p.tables e below (T12.setTop (mkF m 41 #[.val (.int p1), .val (.int p2), .val (.int (p1 &&& (3 : Int32))), .unset, .unset, .unset] [(.ref b4)])) _
          refine XS.astoreN X12.here hx rfl (hb hby at_41) rfl rfl (l' := #[.val (.int p1), .val (.int p2), .val (.int (p1 &&& (3 : Int32))), .val (.ref b4), .unset, .unset]) rfl ?_
          show Steps p.tables e below (T12.setTop (mkF m 42 #[.val (.int p1), .val (.int p2), .val (.int (p1 &&& (3 : Int32))), .val (.ref b4), .unset, .unset] [])) _
          refine XS.iconst X12.here hx rfl (hb hby at_42) ?_
          show Steps p.tables e below (T12.setTop (mkF m 43 #[.val (.int p1), .val (.int p2), .val (.int (p1 &&& (3 : Int32))), .val (.ref b4), .unset, .unset] [(.int (4 : Int32))])) _
          refine XS.istore X12.here hx rfl (hb hby at_43) rfl (l' := #[.val (.int p1), .val (.int p2), .val (.int (p1 &&& (3 : Int32))), .val (.ref b4), .val (.int (4 : Int32)), .unset]) rfl ?_
          show Steps p.tables e below (T12.setTop (mkF m 45 #[.val (.int p1), .val (.int p2), .val (.int (p1 &&& (3 : Int32))), .val (.ref b4), .val (.int (4 : Int32)), .unset] [])) _
          refine XS.goto X12.here hx rfl (pc0 := 45) (pc' := 55) rfl (hb hby at_45) (by decide) (by decide) ?_
          exact kz
        exact seg55 _ _ _ X12 e12 E4 F4 (by decide)
      · refine Goes.via (S' := s₁.setTop (mkF m 48 #[.val (.int p1), .val (.int p2), .val (.int (p1 &&& (3 : Int32))), .unset, .unset, .unset] [])) (fun tz kz => ?_) ?_
        · show Steps p.tables e below (s₁.setTop (mkF m 35 #[.val (.int p1), .val (.int p2), .val (.int (p1 &&& (3 : Int32))), .unset, .unset, .unset] [(.int (2 : Int32)), (.int (p1 &&& (3 : Int32)))])) _
          refine XS.icmpYes X0.here hx rfl (pc0 := 35) (pc' := 48) rfl (hb hby at_35) rfl (feq hc35_11).2 (by decide) (by decide) ?_
          exact kz
        obtain ⟨T13, X13, e13, st13⟩ := getS2 X0 hx hZ hown (host := "") (Or.inl (hw _ (List.mem_of_getElem? (i := 14) rfl))) Via.refl e0 S_CHECKSUMS (g := (mkF m 48 #[.val (.int p1), .val (.int p2), .val (.int (p1 &&& (3 : Int32))), .unset, .unset, .unset] [])) rfl (hb hby at_48)
        refine Goes.via (S' := T13.setTop (mkF m 51 #[.val (.int p1), .val (.int p2), .val (.int (p1 &&& (3 : Int32))), .unset, .unset, .unset] [(.ref b5)])) st13 ?_
        refine Goes.via (S' := T13.setTop (mkF m 55 #[.val (.int p1), .val (.int p2), .val (.int (p1 &&& (3 : Int32))), .val (.ref b5), .val (.int (5 : Int32)), .unset] [])) (fun tz kz => ?_) ?_
        · show Steps p.tables e below (T13.setTop (mkF m 51 #[.val (.int p1), .val (.int p2), .val (.int (p1 &&& (3 : Int32))), .unset, .unset, .unset] [(.ref b5)])) _
          refine XS.astoreN X13.here hx rfl (hb hby at_51) rfl rfl (l' := #[.val (.int p1), .val (.int p2), .val (.int (p1 &&& (3 : Int32))), .val (.ref b5), .unset, .unset]) rfl ?_
          show Steps p.tables e below (T13.setTop (mkF m 52 #[.val (.int p1), .val (.int p2), .val (.int (p1 &&& (3 : Int32))), .val (.ref b5), .unset, .unset] [])) _
          refine XS.iconst X13.here hx rfl (hb hby at_52) ?_
          show Steps p.tables e below (T13.setTop (mkF m 53 #[.val (.int p1), .val (.int p2), .val (.int (p1 &&& (3 : Int32))), .val (.ref b5), .unset, .unset] [(.int (5 : Int32))])) _
          refine XS.istore X13.here hx rfl (hb hby at_53) rfl (l' := #[.val (.int p1), .val (.int p2), .val (.int (p1 &&& (3 : Int32))), .val (.ref b5), .val (.int (5 : Int32)), .unset]) rfl ?_
          exact kz
        exact seg55 _ _ _ X13 e13 E5 F5 (by decide)
set_option maxRecDepth 65536 in
set_option maxHeartbeats 40000000 in
theorem comes_1 {Post : Tables → Env → Array Value → State → Outcome → State → Prop} (hpost : ∀ tb e args s v u, (limb_1_1.after args s (.returned v) u = true ∧ limb_1_2.after args s (.returned v) u = true ∧ True) → FrameEnd s (.returned v) u (Jvm.fieldLocs frame_1_writes args s ++ Jvm.arrayLocs frame_1_arrays args s ++ Jvm.staticLocs frame_1_statics s) 0 0 → Post tb e args s (.returned v) u) :
    ArmFor flags0 classFile x code maxLocals ret World_1 tables_1 room_1 Calls_1 rest_1 Pre_1 Post := by
  intro l hfl _ _ p e ha hc hk s m args below hf hA hF happ hP
  obtain ⟨hcalls, hrest, hpre⟩ := hP
  obtain ⟨-, -, -, hnamed, -, -, -, hat⟩ := (Spec.applies_iff hf).mp happ
  obtain ⟨hg, hn⟩ := and_e (Cond.before_iff.mp (show (Jvm.Cond.and given_1 narrow_1).before args s = true from hpre))
  obtain ⟨hcnt, gg0⟩ := and_e hg
  obtain ⟨ga0, gg1⟩ := and_e gg0
  obtain ⟨w0, w1, rfl⟩ : ∃ w0 w1 : Value, args = #[w0, w1] := by
    have hs : args.size = 2 := by simpa [Cond.value, given_1] using hcnt
    obtain ⟨L⟩ := args
    match L, hs with
    | [w0, w1], _ => exact ⟨w0, w1, rfl⟩
  have hw := fun d (hd : d ∈ tables_1) => atoms_spec (ws := Jvm.Cond.code x code maxLocals ret :: tables_1) hat d (List.mem_cons_of_mem _ hd)
  have hfit : Fit s := fun {y c} hc i hi => by
    obtain ⟨ha, rfl⟩ := Array.getElem?_eq_some_iff.mp hc
    have q := List.all_eq_true.mp ((Array.all_eq_true_iff_forall_mem.mp hF) _ (Array.getElem_mem ha)) i (List.mem_range.mpr hi)
    simpa [Array.getElem?_eq_getElem hi] using q
  obtain ⟨i0, ei0⟩ := is_v ga0
  obtain rfl : w0 = (.int i0) := Option.some.inj ei0
  obtain ⟨i1, ei1⟩ := is_v gg1
  obtain rfl : w1 = (.int i1) := Option.some.inj ei1
  obtain ⟨xe2, hn0⟩ := and_e hn
  obtain ⟨xf2, hn1⟩ := and_e hn0
  obtain ⟨b2, ev2, E2⟩ := exa_static xe2
  have S2 := Sta.start ev2 (Or.inr ⟨(hw _ (List.mem_of_getElem? (i := 1) rfl)), (hw _ (List.mem_of_getElem? (i := 2) rfl))⟩)
  have F2 := fld_static ev2 xf2
  obtain ⟨xe4, hn2⟩ := and_e hn1
  obtain ⟨xf4, hn3⟩ := and_e hn2
  obtain ⟨b4, ev4, E4⟩ := exa_static xe4
  have S4 := Sta.start ev4 (Or.inr ⟨(hw _ (List.mem_of_getElem? (i := 1) rfl)), (hw _ (List.mem_of_getElem? (i := 11) rfl))⟩)
  have F4 := fld_static ev4 xf4
  obtain ⟨xe3, hn4⟩ := and_e hn3
  obtain ⟨xf3, hn5⟩ := and_e hn4
  obtain ⟨b3, ev3, E3⟩ := exa_static xe3
  have S3 := Sta.start ev3 (Or.inr ⟨(hw _ (List.mem_of_getElem? (i := 1) rfl)), (hw _ (List.mem_of_getElem? (i := 13) rfl))⟩)
  have F3 := fld_static ev3 xf3
  obtain ⟨xe5, hn6⟩ := and_e hn5
  have xf5 := hn6
  obtain ⟨b5, ev5, E5⟩ := exa_static xe5
  have S5 := Sta.start ev5 (Or.inr ⟨(hw _ (List.mem_of_getElem? (i := 1) rfl)), (hw _ (List.mem_of_getElem? (i := 15) rfl))⟩)
  have F5 := fld_static ev5 xf5
  obtain ⟨n, o, h1, h2, h3, _, L, rfl, ⟨rfl, N⟩, hq⟩ := rm0 l s _ hw tables_1 i0 i1 b2 b3 b4 b5 s.heap s.heap.size (Nat.le_refl _) S2 E2 F2 S3 E3 F3 S4 E4 F4 S5 E5 F5 p e ha hc hk s m _ below hf ((Spec.applies_iff_loose hf).mp happ).1 ⟨rfl, State.Warmed39.refl s, rfl⟩ trivial
  refine ⟨n, _, h1, h2, h3, hpost _ _ _ _ _ _ ⟨Cond.after_iff.mpr rfl, Cond.after_iff.mpr (eq_i res_at (Term.int_eval (1)) rfl), trivial⟩ ⟨hq.1, hq.2.1, (hq.2.2.sift fun y hy => Or.inr (N y hy)).mono (by decide) (by decide)⟩⟩
theorem main_1_1 : Claimed_1_1 := comes_1 fun _ _ _ _ _ _ h hF => ⟨h.1, hF⟩
theorem main_1_2 : Claimed_1_2 := comes_1 fun _ _ _ _ _ _ h hF => ⟨h.2.1, hF⟩
end Jvm.Pilot.@@N@@
namespace Jvm.Pilot.@@N@@
open Jvm Jvm.ClassFile Sem Op Lib Jvm.Free Jvm.Stand Jvm.Pilot.@@N@@.Jvm.D
/-! MADE BY PROGRAM (witnessworld.py) out of the Statement's table words and the real class files: 12 classes; the members and pool entries that the words name. The judged class is class 1, her method 1. -/
namespace start1
open Jvm.ClassFile
def u (s : String) : CpInfo := .utf8 (stringToUtf16 s)
/-- a pool by its gaps: so many unusable entries, then the entry; so many at the end -/
def gap : Nat → List CpInfo → List CpInfo
  | 0, r => r
  | n + 1, r => .unusable :: gap n r
def poolList (es : List (Nat × CpInfo)) (last : Nat) : List CpInfo := es.foldr (fun e r => gap e.1 (e.2 :: r)) (gap last [])
def pool (es : List (Nat × CpInfo)) (last : Nat) : Array CpInfo := ⟨poolList es last⟩
def fileOf (pool : Array CpInfo) (this : Nat) (attrs : Array Attribute := #[]) (ms : Array MethodInfo := #[]) (fl : Nat := 33) (sup : Nat := 0) (ifs : Array Nat := #[]) (fds : Array FieldInfo := #[]) : ClassFile where
  minorVersion := 0
  majorVersion := 65
  constantPool := pool
  accessFlags := fl
  thisClass := this
  superClass := sup
  interfaces := ifs
  fields := fds
  methods := ms
  attributes := attrs
def plain (name : String) (sup : Option ClassId) : Class where
  name := name
  kind := .ordinary
  loader := none
  accessFlags := 33
  super := sup
  interfaces := #[]
  cf := none
  fields := #[]
  methods := #[]
  instanceTypes := #[]
  staticTypes := #[]
  resolved := #[]
  callSites := []
  init := .initialized
  statics := none
  mirror := none

def pool0 : Array CpInfo := pool [(5, u "<init>"), (0, u "()V"), (1, .class_ 10), (1, u "java/lang/Object")] 113

def k0m0 : Method := { name := "<init>", desc := "()V", sig := { parameters := [], returnType := none }, accessFlags := 1, code := none }
/-- java/lang/Object -/
def k0 : Class := { plain "java/lang/Object" none with
  accessFlags := 33
  interfaces := #[]
  cf := some (fileOf pool0 8 #[] #[{ accessFlags := 1, nameIndex := 5, descriptorIndex := 6, attributes := #[] }] 33 0 #[] #[])
  fields := #[]
  methods := #[k0m0]
  instanceTypes := #[]
  staticTypes := #[]
  resolved := Array.replicate 124 none
  statics := none }

def pool1 : Array CpInfo := pool [(2, .class_ 4), (1, u "java/lang/Object"), (0, u "<init>"), (0, u "()V"), (0, .fieldref 8 9), (0, .class_ 10), (0, .nameAndType 11 12), (0, u "com/example/fewbits/fewbits/store/FilePart"), (0, u "TIMESTAMP_FORM"), (0, u "Lcom/example/fewbits/fewbits/store/FilePart;"), (0, .fieldref 8 14), (0, .nameAndType 15 12), (0, u "BLOCKS"), (0, .fieldref 8 17), (0, .nameAndType 18 12), (0, u "LOSSY_FIGURES"), (0, .fieldref 8 20), (0, .nameAndType 21 12), (0, u "CHECKSUMS"), (0, .methodref 8 23), (0, .nameAndType 24 25), (0, u "isIn"), (0, u "(I)Z"), (0, .class_ 27), (0, u "com/example/fewbits/fewbits/store/FilePartIsInPinLaw"), (2, u "law"), (0, u "(II)Z")] 3

def k1m0 : Method := { name := "<init>", desc := "()V", sig := { parameters := [], returnType := none }, accessFlags := 1, code := none }
def k1c1 : Code := { maxStack := 3, maxLocals := 6, code := code, exceptionTable := #[], attributes := #[] }
def k1m1 : Method := { name := "law", desc := "(II)Z", sig := { parameters := [.int, .int], returnType := some .boolean }, accessFlags := 9, code := some k1c1 }
/-- com/example/fewbits/fewbits/store/FilePartIsInPinLaw -/
def k1 : Class := { plain "com/example/fewbits/fewbits/store/FilePartIsInPinLaw" (some 0) with
  accessFlags := 49
  interfaces := #[]
  cf := some (fileOf pool1 26 #[] #[{ accessFlags := 1, nameIndex := 5, descriptorIndex := 6, attributes := #[] }, { accessFlags := 9, nameIndex := 30, descriptorIndex := 31, attributes := #[] }] 49 2 #[] #[])
  fields := #[]
  methods := #[k1m0, k1m1]
  instanceTypes := #[]
  staticTypes := #[]
  resolved := Array.replicate 35 none
  statics := none }

def pool2 : Array CpInfo := pool [(1, .class_ 2), (0, u "java/lang/constant/Constable"), (0, .class_ 4), (0, u "java/lang/Object")] 6

/-- java/lang/constant/Constable -/
def k2 : Class := { plain "java/lang/constant/Constable" (some 0) with
  accessFlags := 1537
  interfaces := #[]
  cf := some (fileOf pool2 1 #[] #[] 1537 3 #[] #[])
  fields := #[]
  methods := #[]
  instanceTypes := #[]
  staticTypes := #[]
  resolved := Array.replicate 11 none
  statics := none }

def pool3 : Array CpInfo := pool [(1, .class_ 2), (0, u "java/lang/Comparable"), (0, .class_ 4), (0, u "java/lang/Object")] 7

/-- java/lang/Comparable -/
def k3 : Class := { plain "java/lang/Comparable" (some 0) with
  accessFlags := 1537
  interfaces := #[]
  cf := some (fileOf pool3 1 #[] #[] 1537 3 #[] #[])
  fields := #[]
  methods := #[]
  instanceTypes := #[]
  staticTypes := #[]
  resolved := Array.replicate 12 none
  statics := none }

def pool4 : Array CpInfo := pool [(1, .class_ 2), (0, u "java/io/Serializable"), (0, .class_ 4), (0, u "java/lang/Object")] 2

/-- java/io/Serializable -/
def k4 : Class := { plain "java/io/Serializable" (some 0) with
  accessFlags := 1537
  interfaces := #[]
  cf := some (fileOf pool4 1 #[] #[] 1537 3 #[] #[])
  fields := #[]
  methods := #[]
  instanceTypes := #[]
  staticTypes := #[]
  resolved := Array.replicate 7 none
  statics := none }

def pool5 : Array CpInfo := pool [(2, .class_ 4), (1, u "java/lang/Enum"), (0, u "name"), (0, u "Ljava/lang/String;"), (2, u "ordinal"), (0, u "I"), (1, .class_ 14), (1, u "java/lang/Object"), (4, u "hash"), (86, .class_ 108), (1, u "java/lang/Enum$EnumDesc"), (2, .class_ 112), (0, u "java/lang/constant/Constable"), (0, .class_ 114), (0, u "java/lang/Comparable"), (0, .class_ 116), (0, u "java/io/Serializable")] 87

/-- java/lang/Enum -/
def k5 : Class := { plain "java/lang/Enum" (some 0) with
  accessFlags := 1057
  interfaces := #[2, 3, 4]
  cf := some (fileOf pool5 2 #[.nestMembers #[106]] #[] 1057 12 #[111, 113, 115] #[{ accessFlags := 18, nameIndex := 5, descriptorIndex := 6, attributes := #[] }, { accessFlags := 18, nameIndex := 9, descriptorIndex := 10, attributes := #[] }, { accessFlags := 2, nameIndex := 19, descriptorIndex := 10, attributes := #[] }])
  fields := #[{ name := "name", type := (.object "java/lang/String"), accessFlags := 18, slot := 0, constantValue := 0 }, { name := "ordinal", type := .int, accessFlags := 18, slot := 1, constantValue := 0 }, { name := "hash", type := .int, accessFlags := 2, slot := 2, constantValue := 0 }]
  methods := #[]
  instanceTypes := #[(.object "java/lang/String"), .int, .int]
  staticTypes := #[]
  resolved := Array.replicate 204 none
  statics := none }

def pool6 : Array CpInfo := pool [(1, .class_ 2), (0, u "com/example/fewbits/fewbits/store/FilePart"), (2, u "TIMESTAMP_FORM"), (0, u "Lcom/example/fewbits/fewbits/store/FilePart;"), (2, u "BLOCKS"), (2, u "LOSSY_FIGURES"), (2, u "CHECKSUMS"), (2, u "$VALUES"), (0, u "[Lcom/example/fewbits/fewbits/store/FilePart;"), (6, .class_ 28), (1, u "java/lang/Enum"), (6, .fieldref 1 36), (0, .nameAndType 37 38), (0, u "since"), (0, u "I"), (18, u "isIn"), (0, u "(I)Z")] 6

def k6c0 : Code := { maxStack := 2, maxLocals := 2, code := prog_31_method_4_code, exceptionTable := #[], attributes := #[] }
def k6m0 : Method := { name := "isIn", desc := "(I)Z", sig := { parameters := [.int], returnType := some .boolean }, accessFlags := 0, code := some k6c0 }
/-- com/example/fewbits/fewbits/store/FilePart -/
def k6 : Class := { plain "com/example/fewbits/fewbits/store/FilePart" (some 5) with
  accessFlags := 16432
  interfaces := #[]
  cf := some (fileOf pool6 1 #[] #[{ accessFlags := 0, nameIndex := 57, descriptorIndex := 58, attributes := #[] }] 16432 26 #[] #[{ accessFlags := 16409, nameIndex := 5, descriptorIndex := 6, attributes := #[] }, { accessFlags := 16409, nameIndex := 9, descriptorIndex := 6, attributes := #[] }, { accessFlags := 16409, nameIndex := 12, descriptorIndex := 6, attributes := #[] }, { accessFlags := 16409, nameIndex := 15, descriptorIndex := 6, attributes := #[] }, { accessFlags := 18, nameIndex := 37, descriptorIndex := 38, attributes := #[] }, { accessFlags := 4122, nameIndex := 18, descriptorIndex := 19, attributes := #[] }])
  fields := #[{ name := "TIMESTAMP_FORM", type := (.object "com/example/fewbits/fewbits/store/FilePart"), accessFlags := 16409, slot := 0, constantValue := 0 }, { name := "BLOCKS", type := (.object "com/example/fewbits/fewbits/store/FilePart"), accessFlags := 16409, slot := 1, constantValue := 0 }, { name := "LOSSY_FIGURES", type := (.object "com/example/fewbits/fewbits/store/FilePart"), accessFlags := 16409, slot := 2, constantValue := 0 }, { name := "CHECKSUMS", type := (.object "com/example/fewbits/fewbits/store/FilePart"), accessFlags := 16409, slot := 3, constantValue := 0 }, { name := "since", type := .int, accessFlags := 18, slot := 3, constantValue := 0 }, { name := "$VALUES", type := (.array (.object "com/example/fewbits/fewbits/store/FilePart")), accessFlags := 4122, slot := 4, constantValue := 0 }]
  methods := #[k6m0]
  instanceTypes := #[(.object "java/lang/String"), .int, .int, .int]
  staticTypes := #[(.object "com/example/fewbits/fewbits/store/FilePart"), (.object "com/example/fewbits/fewbits/store/FilePart"), (.object "com/example/fewbits/fewbits/store/FilePart"), (.object "com/example/fewbits/fewbits/store/FilePart"), (.array (.object "com/example/fewbits/fewbits/store/FilePart"))]
  resolved := Array.replicate 65 none
  statics := some 0 }

def pool7 : Array CpInfo := pool [(1, u "java/lang/Cloneable"), (0, .class_ 1), (0, u "java/lang/Object"), (0, .class_ 3)] 3

/-- java/lang/Cloneable -/
def k7 : Class := { plain "java/lang/Cloneable" (some 0) with
  accessFlags := 1537
  interfaces := #[]
  cf := some (fileOf pool7 2 #[] #[] 1537 4 #[] #[])
  fields := #[]
  methods := #[]
  instanceTypes := #[]
  staticTypes := #[]
  resolved := Array.replicate 8 none
  statics := none }

/-- the primitive byte -/
def k8 : Class := { plain "byte" none with kind := .primitive 'B', accessFlags := 0x411 }
/-- [B -/
def k9 : Class := { plain "[B" (some 0) with kind := .array 8 .byte, interfaces := #[7, 4], accessFlags := 1041 }

/-- the primitive int -/
def k10 : Class := { plain "int" none with kind := .primitive 'I', accessFlags := 0x411 }
/-- [I -/
def k11 : Class := { plain "[I" (some 0) with kind := .array 10 .int, interfaces := #[7, 4], accessFlags := 1041 }

def heap : Heap := #[{ cls := 6, slots := #[.ref 1, .ref 2, .ref 3, .ref 4, .null], vm := .statics 6 },
  { cls := 6, slots := #[.null, .int 0, .int 0, .int 2], vm := .none },
  { cls := 6, slots := #[.null, .int 1, .int 0, .int 3], vm := .none },
  { cls := 6, slots := #[.null, .int 2, .int 0, .int 4], vm := .none },
  { cls := 6, slots := #[.null, .int 3, .int 0, .int 5], vm := .none }]
def classes : Array Class := #[k0, k1, k2, k3, k4, k5, k6, k7, k8, k9, k10, k11]
def interned : List (Array UInt16 × Addr) := []
def slotsUsed : Nat := 21
def theMethod : MethodId := ⟨1, 1⟩
def args0 : Array Value := #[.int 5, .int 7]
def aboutOver (below : List Frame) : State where
  vm := { classes := classes, interned := interned.toArray }
  heap := heap
  slotsUsed := slotsUsed
  threads := #[{ frames := .invoking theMethod args0 :: below }]
def below0 : List Frame := [.native { method := ⟨0, 0⟩, args := #[] }]
def about1 : State := aboutOver below0
def p0 : Program := .bare "" "" ""
def e0 : Env := launch0.env 0 0 0
theorem w_frames : about1.frames = Frame.invoking theMethod args0 :: below0 := rfl
set_option maxRecDepth 65536 in
theorem w_args : argsFit about1.vm theMethod args0 = true := by decide +kernel
set_option maxRecDepth 65536 in
theorem w_heap : heapFits about1 = true := by decide +kernel
set_option maxRecDepth 65536 in
theorem w_runnable : about1.curStatus? = some .runnable := by decide +kernel
set_option maxRecDepth 65536 in
theorem w_alone : about1.alone = true := by decide +kernel
set_option maxRecDepth 65536 in
theorem w_named : about1.methodNamed? x = some theMethod := by decide +kernel
set_option maxRecDepth 65536 in
theorem w_hears : about1.hears theMethod below0 = true := by decide +kernel
set_option maxRecDepth 65536 in
theorem w_ripe : about1.ripe theMethod args0 below0 = true := by decide +kernel
theorem w_running : about1.status = .running := rfl
set_option maxRecDepth 65536 in
theorem w_room : about1.hasRoom e0.platform room_1 = true :=
  launch0.hasRoom_least _ room_1 (by decide +kernel) (by decide +kernel) (by decide +kernel) (by decide +kernel) (by decide +kernel) (by decide +kernel)
theorem allAtoms_all (ts : List Jvm.Cond) (a : Array Jvm.Value) (st : Jvm.State) : (allAtoms ts).before a st = ts.all (fun c => c.before a st) := by
  induction ts with
  | nil => rfl
  | cons c t ih =>
    show (Jvm.Cond.and c (allAtoms t)).before a st = _
    rw [Jvm.Cond.before_and, ih, List.all_cons]
def words1 : List Jvm.Cond := Jvm.Cond.code x code maxLocals ret :: tables_1
/-- a 'code' word, met by the world's own term for the bytes: nothing is compared byte by byte -/
theorem code_word {y : MethodName} {bytes : ByteArray} {mx : Nat} {rt : Option FieldType} {a : Array Value} {s : State} {m : MethodId} {meth : Method} {c : Code} (h1 : s.methodNamed? y = some m) (h2 : s.vm.method? m = some meth) (h3 : meth.code = some c) (h4 : c.code = bytes)
    (h5 : (c.maxLocals == mx && c.exceptionTable.isEmpty && decide (c.maxStack ≤ mostOperands) && decide (meth.sig.returnType = rt) && !meth.locks && decide (parseMethodDescriptor y.desc = some meth.sig)) = true) : (Jvm.Cond.code y bytes mx rt).before a s = true := by
  simp only [Bool.and_eq_true, beq_iff_eq, Bool.not_eq_true', decide_eq_true_eq] at h5
  obtain ⟨⟨⟨⟨⟨g1, g2⟩, g3⟩, g4⟩, g5⟩, g6⟩ := h5
  simp [Cond.before, Cond.holds, Cond.value, h1, h2, h3, h4, g1, g2, g3, g4, g5, g6]
def isCode : Jvm.Cond → Bool
  | .code _ _ _ _ => true
  | _ => false
theorem all_split {L : List Jvm.Cond} {P : Jvm.Cond → Bool} (h1 : L.all (fun c => isCode c || P c) = true) (h2 : ∀ c ∈ L.filter isCode, P c = true) : L.all P = true := by
  refine List.all_eq_true.mpr fun c hc => ?_
  have h := List.all_eq_true.mp h1 c hc
  rcases Bool.eq_false_or_eq_true (isCode c) with hi | hi
  · exact h2 c (List.mem_filter.mpr ⟨hc, hi⟩)
  · simpa [hi] using h
set_option maxRecDepth 65536 in
theorem w_c0 : (Jvm.Cond.code x code maxLocals ret).before args0 about1 = true := code_word (m := ⟨1, 1⟩) (meth := k1m1) (c := k1c1) (by decide +kernel) rfl rfl rfl (by decide +kernel)
set_option maxRecDepth 65536 in
theorem w_c1 : (Jvm.Cond.code ({ cls := "com/example/fewbits/fewbits/store/FilePart", name := "isIn", desc := "(I)Z" } : Jvm.MethodName) prog_31_method_4_code (2 : Nat) (Option.some Jvm.ClassFile.FieldType.boolean)).before args0 about1 = true := code_word (m := ⟨6, 0⟩) (meth := k6m0) (c := k6c0) (by decide +kernel) rfl rfl rfl (by decide +kernel)
def codes1 : List Jvm.Cond := [Jvm.Cond.code x code maxLocals ret, Jvm.Cond.code ({ cls := "com/example/fewbits/fewbits/store/FilePart", name := "isIn", desc := "(I)Z" } : Jvm.MethodName) prog_31_method_4_code (2 : Nat) (Option.some Jvm.ClassFile.FieldType.boolean)]
set_option maxRecDepth 65536 in
theorem codes_eq : words1.filter isCode = codes1 := rfl
theorem w_codes : ∀ c ∈ words1.filter isCode, c.before args0 about1 = true := by
  rw [codes_eq]
  intro c hc
  simp only [codes1, List.mem_cons, List.not_mem_nil, or_false] at hc
  rcases hc with rfl | rfl
  · exact w_c0
  · exact w_c1
set_option maxRecDepth 65536 in
theorem w_t1 : words1.all (fun c => isCode c || c.before args0 about1) = true := by decide +kernel
theorem w_tables : (allAtoms (Jvm.Cond.code x code maxLocals ret :: tables_1)).before args0 about1 = true := by
  rw [allAtoms_all]
  show words1.all (fun c => c.before args0 about1) = true
  refine all_split ?_ w_codes
  rw [w_t1]
set_option maxRecDepth 65536 in
theorem w_case : (Jvm.Cond.and given_1 narrow_1).before args0 about1 = true := by decide +kernel
theorem w_applies : (headSpec (Jvm.Cond.code x code maxLocals ret :: tables_1) room_1).applies x e0.platform about1 = true :=
  (Spec.applies_iff w_frames).mpr ⟨w_running, w_runnable, w_alone, w_named, w_hears, w_ripe, w_room, w_tables⟩
theorem atStart : AtStart classFile x code maxLocals ret World_1 tables_1 room_1 Calls_1 rest_1 Pre_1 launch0 p0 e0 about1 theMethod args0 below0 :=
  ⟨lists_1, trivial, launch0.admits_env _ _ _, launch0.least_env, fairChoices_fair.cas, fairChoices_fair.clock, w_frames, w_args, w_heap, w_applies, trivial, trivial, w_case⟩
end start1
theorem witness_1 : WitnessClaimed_1 := ⟨start1.p0, start1.e0, start1.about1, start1.theMethod, start1.args0, start1.below0, start1.atStart⟩
end Jvm.Pilot.@@N@@
