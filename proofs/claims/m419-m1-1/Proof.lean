import JvmDerived
import JvmDerived.Pilot.@@N@@Statement
import JvmDerived.Pilot.@@N@@Code
set_option linter.unusedVariables false
set_option linter.unusedSimpArgs false
namespace Jvm.RoadKit
open Sem ClassFile Op Lib Jvm.Stand Jvm.Free Jvm.LawKit
section Own
variable {p : Program} {l : Launch} {e : Env} {R : Room} {s : State} {m : MethodId} {args : Array Value} {below : List Frame} {meth : Method} {c : Code} {T : State} {locs : List Loc} {cells slots : Nat}
theorem retI (X : Stand p l e R s m args below meth c T locs cells slots) (hx : p.tables.exec = Jvm.exec) {pc : Nat} {Ls : Array Slot} {z : Int32} {rest : List Value} (hret : meth.sig.returnType = some .int) (hd : decode c.code pc = .ok (.ireturn, 1)) {fs : List Frame}
    (hl : ∀ (f : JFrame) (acts : List Action), f.method = m → f.locked = none → f.entered = [] → (doReturn e (T.setTop f) acts (some (.int z))).1 = T.setFrames fs) : Steps p.tables e below (T.setTop (mkF m pc Ls (.int z :: rest))) (T.setFrames fs) := by
  have hm' : T.vm.method? m = some meth := X.method'
  have hn : narrow .int (.int z) = .int z := rfl
  show Steps p.tables e below (T.setTop { method := m, pc := pc, locals := Ls, stack := _ :: rest, locked := none }) _
  jvm_step X.here [X.here.top, hx, hd, hm', hret, hn]
  first | (intro acts; rw [hl _ acts rfl rfl rfl]) | rw [hl _ _ rfl rfl rfl]
  exact Steps.refl _
/-- the walk comes to an end, with what Φ says there -/
def Goes (p : Program) (e : Env) (below : List Frame) (Φ : State → Outcome → Prop) (S : State) : Prop := ∃ s₂ o, Steps p.tables e below S s₂ ∧ s₂.status = .running ∧ Ended s₂ below o ∧ Φ s₂ o
theorem Goes.via {Φ : State → Outcome → Prop} {S S' : State} (k : ∀ t, Steps p.tables e below S' t → Steps p.tables e below S t) (h : Goes p e below Φ S') : Goes p e below Φ S := by
  obtain ⟨s₂, o, h1, h2, h3, h4⟩ := h
  exact ⟨s₂, o, k _ h1, h2, h3, h4⟩
/-- what a contract's end says -/
def Fin (s : State) (Q : Option Value → Heap → List Loc → Prop) (C S : Nat) : State → Outcome → Prop := fun s₂ o => ∃ v L, o = .returned v ∧ Q v s₂.heap L ∧ FrameEnd s o s₂ L C S
theorem Goes.retN (X : Stand p l e R s m args below meth c T locs cells slots) (hx : p.tables.exec = Jvm.exec) (hlocks : meth.locks = false) {pc : Nat} {Ls : Array Slot} {z : Int32} {t : FieldType} {rest : List Value} (hret : meth.sig.returnType = some t) (ht : t = .boolean ∨ t = .byte ∨ t = .char ∨ t = .short)
    (hd : decode c.code pc = .ok (.ireturn, 1)) {Q : Option Value → Heap → List Loc → Prop} {C S : Nat} (hc : cells ≤ C) (hs : slots ≤ S) (hQ : Q (some (.int (nar t z))) T.heap locs) : Goes p e below (Fin s Q C S) (T.setTop (mkF m pc Ls (.int z :: rest))) := by
  obtain ⟨fs, hr, hrun, hended, hW, hsame⟩ := X.leave (v := some (.int (nar t z))) (fun h => by rw [hret] at h; cases h) hlocks
  exact ⟨_, _, Jvm.RoadKit.retN X hx hret ht hd hr, hrun, hended, _, _, rfl, hQ, ⟨_, rfl⟩, hW, hsame.mono hc hs⟩
theorem Goes.retI (X : Stand p l e R s m args below meth c T locs cells slots) (hx : p.tables.exec = Jvm.exec) (hlocks : meth.locks = false) {pc : Nat} {Ls : Array Slot} {z : Int32} {rest : List Value} (hret : meth.sig.returnType = some .int)
    (hd : decode c.code pc = .ok (.ireturn, 1)) {Q : Option Value → Heap → List Loc → Prop} {C S : Nat} (hc : cells ≤ C) (hs : slots ≤ S) (hQ : Q (some (.int z)) T.heap locs) : Goes p e below (Fin s Q C S) (T.setTop (mkF m pc Ls (.int z :: rest))) := by
  obtain ⟨fs, hr, hrun, hended, hW, hsame⟩ := X.leave (v := some (.int z)) (fun h => by rw [hret] at h; cases h) hlocks
  exact ⟨_, _, Jvm.RoadKit.retI X hx hret hd hr, hrun, hended, _, _, rfl, hQ, ⟨_, rfl⟩, hW, hsame.mono hc hs⟩
theorem Goes.retO (X : Stand p l e R s m args below meth c T locs cells slots) (hx : p.tables.exec = Jvm.exec) (hlocks : meth.locks = false) {pc : Nat} {Ls : Array Slot} {w : Value} {t : FieldType} {i : Instr} {rest : List Value} (hret : meth.sig.returnType = some t) (hn : narrow t w = w)
    (hi : (i = .ireturn ∧ (t = .int ∨ t = .boolean ∨ t = .byte ∨ t = .char ∨ t = .short) ∧ ∃ z, w = .int z) ∨ (i = .lreturn ∧ t = .long ∧ ∃ z, w = .long z) ∨ (i = .dreturn ∧ t = .double ∧ ∃ z, w = .double z) ∨ (i = .freturn ∧ t = .float ∧ ∃ z, w = .float z) ∨ (i = .areturn ∧ t.isReference = true ∧ w.isRef = true))
    (hd : decode c.code pc = .ok (i, 1)) {Q : Option Value → Heap → List Loc → Prop} {C S : Nat} (hc : cells ≤ C) (hs : slots ≤ S) (hQ : Q (some w) T.heap locs) : Goes p e below (Fin s Q C S) (T.setTop (mkF m pc Ls (w :: rest))) := by
  obtain ⟨fs, hr, hrun, hended, hW, hsame⟩ := X.leave (v := some w) (fun h => by rw [hret] at h; cases h) hlocks
  exact ⟨_, _, Jvm.RoadKit.retOut X hx hret hn hi hd hr, hrun, hended, _, _, rfl, hQ, ⟨_, rfl⟩, hW, hsame.mono hc hs⟩
theorem Goes.retV (X : Stand p l e R s m args below meth c T locs cells slots) (hx : p.tables.exec = Jvm.exec) (hlocks : meth.locks = false) {pc : Nat} {Ls : Array Slot} (hret : meth.sig.returnType = none)
    (hd : decode c.code pc = .ok (.return_, 1)) {Q : Option Value → Heap → List Loc → Prop} {C S : Nat} (hc : cells ≤ C) (hs : slots ≤ S) (hQ : Q none T.heap locs) : Goes p e below (Fin s Q C S) (T.setTop (mkF m pc Ls [])) := by
  obtain ⟨fs, hr, hrun, hended, hW, hsame⟩ := X.leave (v := none) (fun _ => rfl) hlocks
  exact ⟨_, _, X.returnOut hx hret hd hr, hrun, hended, _, _, rfl, hQ, ⟨_, rfl⟩, hW, hsame.mono hc hs⟩
/-- room counted generously -/
theorem moreRoom (X : Stand p l e R s m args below meth c T locs cells slots) {k n : Nat} (h1 : cells ≤ k) (h2 : slots ≤ n) : Stand p l e R s m args below meth c T locs k n := { X with same := X.same.mono h1 h2 }
theorem exa_static {args : Array Value} {s : State} {C n d K : String} (h : (Jvm.Cond.exactly (Jvm.Term.static C n d) K).value args s none s [] = some true) : ∃ b, (Jvm.Term.static C n d).eval args s none [] s = some (.ref b) ∧ Exa s s.heap b K := by
  obtain ⟨b, e1⟩ := exa_v h
  exact ⟨b, e1, Exa.start e1 h⟩
theorem fld_static {args : Array Value} {s : State} {t : Jvm.Term} {b : Addr} {C n d : String} {k : Int32} (ev : t.eval args s none [] s = some (.ref b)) (h : (Jvm.Cond.eq (Jvm.Term.field t C n d) (Jvm.Term.int k)).value args s none s [] = some true) : Fld s s.heap b C n d (.int k) := by
  exact Fld.start ((fld_at ev).symm.trans (eqv_i (Term.int_eval k) h))
theorem cat_ref {v : Value} (h : v.isRef = true) : v.category = 1 := by rcases ref_cases h with rfl | ⟨_, rfl⟩ <;> rfl
theorem narrow_ref {v : Value} {t : FieldType} (h : v.isRef = true) : narrow t v = v := by rcases ref_cases h with rfl | ⟨_, rfl⟩ <;> cases t <;> rfl
theorem fits_refO {v : Value} {C : String} (h : v.isRef = true) : fits (.object C) v = true := by rcases ref_cases h with rfl | ⟨_, rfl⟩ <;> rfl
theorem fld_null {args : Array Value} {s : State} {t : Jvm.Term} {b : Addr} {C n d : String} (ev : t.eval args s none [] s = some (.ref b)) (h : (Jvm.Cond.eq (Jvm.Term.field t C n d) Jvm.Term.null).value args s none s [] = some true) : Fld s s.heap b C n d .null := Fld.start ((fld_at ev).symm.trans (null_v h))
theorem ret1 {z : Int32} (h : z = 1) : some (Value.int (nar .boolean z)) = some (.int 1) := by subst h; rfl
end Own
end Jvm.RoadKit
namespace Jvm.Pilot.@@N@@
open Jvm Jvm.ClassFile Sem Op Lib Jvm.Free Jvm.Stand Jvm.LawKit Jvm.RoadKit Bundle Jvm.Pilot.@@N@@.Jvm.D
theorem pd_0 : parseMethodDescriptor "()I" = some ⟨[], some .int⟩ := by decide +kernel
theorem pd_1 : parseMethodDescriptor "(I)Z" = some ⟨[.int], some .boolean⟩ := by decide +kernel
theorem d2_0 : decode jdk_37_method_2_code 0 = .ok (.aload_n 0, 1) := by decide +kernel
theorem d2_1 : decode jdk_37_method_2_code 1 = .ok (.getfield 7, 3) := by decide +kernel
theorem d2_4 : decode jdk_37_method_2_code 4 = .ok (.ireturn, 1) := by decide +kernel
theorem pn_2 : plainName "java/lang/Enum" = true := by first | (simp [plainName, overriddenIn]; done) | decide +kernel
theorem ef_2 (m : MethodId) (x0 : Addr) : entryFrame m #[(.ref x0)] 1 = mkF m 0 #[.val (.ref x0)] [] := by first | (simp [entryFrame, mkF, argsToLocals, Value.category]; done) | rfl
def Q_rm2 (Z : State) (a1 : Addr) (w3 : Int32) (h0 : Heap) (n0 : Nat) : Option Value → Heap → List Loc → Prop := fun v h L => v = some (.int w3) ∧ Fr n0 L ∧ h = h0
set_option maxRecDepth 65536 in
set_option maxHeartbeats 40000000 in
theorem rm2 (l : Launch) (Z : State) (a0 : Array Value) (hw : ∀ d ∈ tables_1, d.before a0 Z = true) (ws : List Jvm.Cond) (a1 : Addr) (w3 : Int32) (h0 : Heap) (n0 : Nat) (Z0 : n0 ≤ h0.size) (F : Fld Z h0 a1 "java/lang/Enum" "ordinal" "I" (.int w3)) :
    MetFree l (⟨"java/lang/Enum", "ordinal", "()I"⟩ : MethodName) (head1 (Jvm.Cond.code (⟨"java/lang/Enum", "ordinal", "()I"⟩ : MethodName) jdk_37_method_2_code 1 (some .int) :: ws) ({ frames := 0, cells := 0, slots := 0, locals := 0 } : Room)) (fun a U => a = #[(.ref a1)] ∧ Z.Warmed39 U.vm ∧ U.heap = h0) (fun _ _ _ _ _ => True) (fun _ U o U' => ∃ v L, o = .returned v ∧ (Q_rm2 Z a1 w3 h0 n0) v U'.heap L ∧ FrameEnd U o U' L ({ frames := 0, cells := 0, slots := 0, locals := 0 } : Room).cells ({ frames := 0, cells := 0, slots := 0, locals := 0 } : Room).slots) := by
  refine MetFree.of_bodySF (plainFor_of_name pn_2) hisR ?_
  intro p e s m args below meth c s₁ Bd hml0 hP hK
  obtain ⟨rfl, hZ, hh⟩ := hP
  have hx := Bd.exec
  have hby := Bd.bytes
  have hml : c.maxLocals = 1 := hml0
  have hown : s.vm.findClass "java/lang/Enum" = some m.cls := findClass_of_methodNamed Bd.named
  have hnm := (name_of_methodNamed Bd.named Bd.method).1
  have X0 : Stand p l e ({ frames := 0, cells := 0, slots := 0, locals := 0 } : Room) s m #[(.ref a1)] below meth c s₁ [] 0 0 := Stand.of_body Bd
  have e0 : s₁.heap = h0 := by rw [← hh, Bd.state]; rfl
  have N0 := Fr.nil n0
  show Goes p e below (Fin s (Q_rm2 Z a1 w3 h0 n0) ({ frames := 0, cells := 0, slots := 0, locals := 0 } : Room).cells ({ frames := 0, cells := 0, slots := 0, locals := 0 } : Room).slots) _
  refine Goes.via (S' := s₁.setTop (mkF m 0 #[.val (.ref a1)] [])) (fun tz kz => castTop (ef_2 m a1 ) kz) ?_
  refine Goes.via (S' := s₁.setTop (mkF m 1 #[.val (.ref a1)] [(.ref a1)])) (fun tz kz => ?_) ?_
  · show Steps p.tables e below (s₁.setTop (mkF m 0 #[.val (.ref a1)] [])) _
    refine XS.aloadN X0.here hx rfl (hb hby d2_0) rfl rfl ?_
    exact kz
  obtain ⟨T1, X1, e1, st1⟩ := getF X0 hx hZ hown (host := "") (Or.inl (hw _ (List.mem_of_getElem? (i := 15) rfl))) Via.refl e0 F (g := (mkF m 1 #[.val (.ref a1)] [(.ref a1)])) rfl rfl (hb hby d2_1)
  refine Goes.via (S' := T1.setTop (mkF m 4 #[.val (.ref a1)] [(.int w3)])) st1 ?_
  exact Goes.retI X1 hx Bd.notSynchronized Bd.returns (hb hby d2_4) (Nat.le_of_ble_eq_true rfl) (Nat.le_of_ble_eq_true rfl) ⟨rfl, N0, e1⟩
theorem d1_0 : decode prog_24_method_4_code 0 = .ok (.aload_n 0, 1) := by decide +kernel
theorem d1_1 : decode prog_24_method_4_code 1 = .ok (.invokevirtual 38, 3) := by decide +kernel
theorem d1_4 : decode prog_24_method_4_code 4 = .ok (.tableswitch 36 0 4 #[46, 58, 70, 82, 94], 36) := by decide +kernel
theorem d1_40 : decode prog_24_method_4_code 40 = .ok (.new 42, 3) := by decide +kernel
theorem d1_43 : decode prog_24_method_4_code 43 = .ok (.dup, 1) := by decide +kernel
theorem d1_44 : decode prog_24_method_4_code 44 = .ok (.aconst_null, 1) := by decide +kernel
theorem d1_45 : decode prog_24_method_4_code 45 = .ok (.aconst_null, 1) := by decide +kernel
theorem d1_46 : decode prog_24_method_4_code 46 = .ok (.invokespecial 44, 3) := by decide +kernel
theorem d1_49 : decode prog_24_method_4_code 49 = .ok (.athrow, 1) := by decide +kernel
theorem d1_50 : decode prog_24_method_4_code 50 = .ok (.iload_n 1, 1) := by decide +kernel
theorem d1_51 : decode prog_24_method_4_code 51 = .ok (.ifCond .ne 7, 3) := by decide +kernel
theorem d1_54 : decode prog_24_method_4_code 54 = .ok (.iconst 1, 1) := by decide +kernel
theorem d1_55 : decode prog_24_method_4_code 55 = .ok (.goto 52, 3) := by decide +kernel
theorem d1_58 : decode prog_24_method_4_code 58 = .ok (.iconst 0, 1) := by decide +kernel
theorem d1_59 : decode prog_24_method_4_code 59 = .ok (.goto 48, 3) := by decide +kernel
theorem d1_62 : decode prog_24_method_4_code 62 = .ok (.iload_n 1, 1) := by decide +kernel
theorem d1_63 : decode prog_24_method_4_code 63 = .ok (.ifCond .le 7, 3) := by decide +kernel
theorem d1_66 : decode prog_24_method_4_code 66 = .ok (.iconst 1, 1) := by decide +kernel
theorem d1_67 : decode prog_24_method_4_code 67 = .ok (.goto 40, 3) := by decide +kernel
theorem d1_70 : decode prog_24_method_4_code 70 = .ok (.iconst 0, 1) := by decide +kernel
theorem d1_71 : decode prog_24_method_4_code 71 = .ok (.goto 36, 3) := by decide +kernel
theorem d1_74 : decode prog_24_method_4_code 74 = .ok (.iload_n 1, 1) := by decide +kernel
theorem d1_75 : decode prog_24_method_4_code 75 = .ok (.ifCond .lt 7, 3) := by decide +kernel
theorem d1_78 : decode prog_24_method_4_code 78 = .ok (.iconst 1, 1) := by decide +kernel
theorem d1_79 : decode prog_24_method_4_code 79 = .ok (.goto 28, 3) := by decide +kernel
theorem d1_82 : decode prog_24_method_4_code 82 = .ok (.iconst 0, 1) := by decide +kernel
theorem d1_83 : decode prog_24_method_4_code 83 = .ok (.goto 24, 3) := by decide +kernel
theorem d1_86 : decode prog_24_method_4_code 86 = .ok (.iload_n 1, 1) := by decide +kernel
theorem d1_87 : decode prog_24_method_4_code 87 = .ok (.ifCond .ge 7, 3) := by decide +kernel
theorem d1_90 : decode prog_24_method_4_code 90 = .ok (.iconst 1, 1) := by decide +kernel
theorem d1_91 : decode prog_24_method_4_code 91 = .ok (.goto 16, 3) := by decide +kernel
theorem d1_94 : decode prog_24_method_4_code 94 = .ok (.iconst 0, 1) := by decide +kernel
theorem d1_95 : decode prog_24_method_4_code 95 = .ok (.goto 12, 3) := by decide +kernel
theorem d1_98 : decode prog_24_method_4_code 98 = .ok (.iload_n 1, 1) := by decide +kernel
theorem d1_99 : decode prog_24_method_4_code 99 = .ok (.ifCond .gt 7, 3) := by decide +kernel
theorem d1_102 : decode prog_24_method_4_code 102 = .ok (.iconst 1, 1) := by decide +kernel
theorem d1_103 : decode prog_24_method_4_code 103 = .ok (.goto 4, 3) := by decide +kernel
theorem d1_106 : decode prog_24_method_4_code 106 = .ok (.iconst 0, 1) := by decide +kernel
theorem d1_107 : decode prog_24_method_4_code 107 = .ok (.ireturn, 1) := by decide +kernel
theorem pn_1 : plainName "com/example/vestline/vestline/payout/Comparison" = true := by first | (simp [plainName, overriddenIn]; done) | decide +kernel
theorem ef_1 (m : MethodId) (x0 : Addr) (x1 : Int32) : entryFrame m #[(.ref x0), (.int x1)] 2 = mkF m 0 #[.val (.ref x0), .val (.int x1)] [] := by first | (simp [entryFrame, mkF, argsToLocals, Value.category]; done) | rfl
def Q_rm1_0 (Z : State) (a1 : Addr) (p2 : Int32)  (h0 : Heap) (n0 : Nat) : Option Value → Heap → List Loc → Prop := fun v h L => v = some (.int (if p2 = (0 : Int32) then (1 : Int32) else 0)) ∧ Fr n0 L ∧ h = h0
set_option maxRecDepth 65536 in
set_option maxHeartbeats 40000000 in
theorem rm1_0 (l : Launch) (Z : State) (a0 : Array Value) (hw : ∀ d ∈ tables_1, d.before a0 Z = true) (ws : List Jvm.Cond) (a1 : Addr) (p2 : Int32)  (h0 : Heap) (n0 : Nat) (Z0 : n0 ≤ h0.size) (E : Exa Z h0 a1 "com/example/vestline/vestline/payout/Comparison") (F : Fld Z h0 a1 "java/lang/Enum" "ordinal" "I" (.int (0 : Int32))) :
    MetFree l (⟨"com/example/vestline/vestline/payout/Comparison", "holds", "(I)Z"⟩ : MethodName) (head1 (Jvm.Cond.code (⟨"com/example/vestline/vestline/payout/Comparison", "holds", "(I)Z"⟩ : MethodName) prog_24_method_4_code 2 (some .boolean) :: ws) ({ frames := 1, cells := 0, slots := 0, locals := 12 } : Room)) (fun a U => a = #[(.ref a1), (.int p2)] ∧ Z.Warmed39 U.vm ∧ U.heap = h0) (fun _ _ _ _ _ => True) (fun _ U o U' => ∃ v L, o = .returned v ∧ (Q_rm1_0 Z a1 p2 h0 n0) v U'.heap L ∧ FrameEnd U o U' L ({ frames := 1, cells := 0, slots := 0, locals := 12 } : Room).cells ({ frames := 1, cells := 0, slots := 0, locals := 12 } : Room).slots) := by
  refine MetFree.of_bodySF (plainFor_of_name pn_1) hisR ?_
  intro p e s m args below meth c s₁ Bd hml0 hP hK
  obtain ⟨rfl, hZ, hh⟩ := hP
  have hx := Bd.exec
  have hby := Bd.bytes
  have hml : c.maxLocals = 2 := hml0
  have hown : s.vm.findClass "com/example/vestline/vestline/payout/Comparison" = some m.cls := findClass_of_methodNamed Bd.named
  have hnm := (name_of_methodNamed Bd.named Bd.method).1
  have X0 : Stand p l e ({ frames := 1, cells := 0, slots := 0, locals := 12 } : Room) s m #[(.ref a1), (.int p2)] below meth c s₁ [] 0 0 := Stand.of_body Bd
  have e0 : s₁.heap = h0 := by rw [← hh, Bd.state]; rfl
  have N0 := Fr.nil n0
  show Goes p e below (Fin s (Q_rm1_0 Z a1 p2 h0 n0) ({ frames := 1, cells := 0, slots := 0, locals := 12 } : Room).cells ({ frames := 1, cells := 0, slots := 0, locals := 12 } : Room).slots) _
  refine Goes.via (S' := s₁.setTop (mkF m 0 #[.val (.ref a1), .val (.int p2)] [])) (fun tz kz => castTop (ef_1 m a1 p2 ) kz) ?_
  refine Goes.via (S' := s₁.setTop (mkF m 1 #[.val (.ref a1), .val (.int p2)] [(.ref a1)])) (fun tz kz => ?_) ?_
  · show Steps p.tables e below (s₁.setTop (mkF m 0 #[.val (.ref a1), .val (.int p2)] [])) _
    refine XS.aloadN X0.here hx rfl (hb hby d1_0) rfl rfl ?_
    exact kz
  obtain ⟨cq1, kq1, q1a, q1b, q1c⟩ := isOf hZ e0 E
  obtain ⟨_, _, ⟨T1, L1, k1, n1⟩, -, X1, ⟨Lc1, hQ1, l1, y1, z1⟩, st1⟩ := X0.virtualBackUp hx (owner := "java/lang/Enum") (x := (⟨"com/example/vestline/vestline/payout/Comparison", "ordinal", "()I"⟩ : MethodName)) (y := (⟨"java/lang/Enum", "ordinal", "()I"⟩ : MethodName)) hown (mvT hZ (hw _ (List.mem_of_getElem? (i := 8) rfl))) (mvT hZ (hw _ (List.mem_of_getElem? (i := 9) rfl))) (mvT hZ (hw _ (List.mem_of_getElem? (i := 10) rfl))) (by decide) (mvT hZ (hw _ (List.mem_of_getElem? (i := 12) rfl))) (mvT hZ (hw _ (List.mem_of_getElem? (i := 11) rfl))) (backOf (W := 0) (rm2 l Z a0 hw [] a1 (0 : Int32) h0 n0 Z0 F) hZ (hw _ (List.mem_of_getElem? (i := 14) rfl)) (hw _ (List.mem_of_getElem? (i := 13) rfl)) (by decide) (by decide)) q1a q1c (g := (mkF m 1 #[.val (.ref a1), .val (.int p2)] [(.ref a1)])) rfl (by rw [hml]; rfl) (Steps.refl _) (argsL := []) (rest := []) (lenOf pd_0 rfl) rfl (by show 2 * 0 + _ ≤ _; exact Nat.le_of_eq rfl) (hb hby d1_1) (fun _ _ => ⟨rfl, e0, (by decide : 0 + 0 ≤ _), (by decide : 0 + 0 ≤ _)⟩)
  dsimp only [Pt.U, Pt.locs, Pt.cells, Pt.slots] at X1 l1 y1 z1 st1 hQ1
  subst l1 y1 z1
  obtain ⟨rfl, N1, e1⟩ := hQ1
  have Nf1 := Fr.app N0 N1
  refine Goes.via (S' := T1.setTop (mkF m 4 #[.val (.ref a1), .val (.int p2)] [(.int (0 : Int32))])) (fun _ kz => st1.trans kz) ?_
  refine Goes.via (S' := T1.setTop (mkF m 51 #[.val (.ref a1), .val (.int p2)] [(.int p2)])) (fun tz kz => ?_) ?_
  · show Steps p.tables e below (T1.setTop (mkF m 4 #[.val (.ref a1), .val (.int p2)] [(.int (0 : Int32))])) _
    refine XS.tswIn X1.here hx rfl (pc0 := 4) (pc' := 50) rfl (hb hby d1_4) rfl (by decide) rfl (by decide) (by decide) ?_
    show Steps p.tables e below (T1.setTop (mkF m 50 #[.val (.ref a1), .val (.int p2)] [])) _
    refine XS.iloadN X1.here hx rfl (hb hby d1_50) rfl ?_
    exact kz
  by_cases hc51_2 : p2 = (0 : Int32)
  · refine Goes.via (S' := T1.setTop (mkF m 107 #[.val (.ref a1), .val (.int p2)] [(.int (1 : Int32))])) (fun tz kz => ?_) ?_
    · show Steps p.tables e below (T1.setTop (mkF m 51 #[.val (.ref a1), .val (.int p2)] [(.int p2)])) _
      refine XS.ifNo X1.here hx rfl (hb hby d1_51) rfl ((if0 _ _).trans (teq hc51_2).2) ?_
      show Steps p.tables e below (T1.setTop (mkF m 54 #[.val (.ref a1), .val (.int p2)] [])) _
      refine XS.iconst X1.here hx rfl (hb hby d1_54) ?_
      show Steps p.tables e below (T1.setTop (mkF m 55 #[.val (.ref a1), .val (.int p2)] [(.int (1 : Int32))])) _
      refine XS.goto X1.here hx rfl (pc0 := 55) (pc' := 107) rfl (hb hby d1_55) (by decide) (by decide) ?_
      exact kz
    exact Goes.retN X1 hx Bd.notSynchronized (t := .boolean) Bd.returns (by simp) (hb hby d1_107) (Nat.le_of_ble_eq_true rfl) (Nat.le_of_ble_eq_true rfl) ⟨(congrArg (fun z => some (Value.int z)) (if_pos hc51_2)).symm, Nf1, e1⟩
  · refine Goes.via (S' := T1.setTop (mkF m 107 #[.val (.ref a1), .val (.int p2)] [(.int (0 : Int32))])) (fun tz kz => ?_) ?_
    · show Steps p.tables e below (T1.setTop (mkF m 51 #[.val (.ref a1), .val (.int p2)] [(.int p2)])) _
      refine XS.ifYes X1.here hx rfl (pc0 := 51) (pc' := 58) rfl (hb hby d1_51) rfl ((if0 _ _).trans (feq hc51_2).2) (by decide) (by decide) ?_
      show Steps p.tables e below (T1.setTop (mkF m 58 #[.val (.ref a1), .val (.int p2)] [])) _
      refine XS.iconst X1.here hx rfl (hb hby d1_58) ?_
      show Steps p.tables e below (T1.setTop (mkF m 59 #[.val (.ref a1), .val (.int p2)] [(.int (0 : Int32))])) _
      refine XS.goto X1.here hx rfl (pc0 := 59) (pc' := 107) rfl (hb hby d1_59) (by decide) (by decide) ?_
      exact kz
    exact Goes.retN X1 hx Bd.notSynchronized (t := .boolean) Bd.returns (by simp) (hb hby d1_107) (Nat.le_of_ble_eq_true rfl) (Nat.le_of_ble_eq_true rfl) ⟨(congrArg (fun z => some (Value.int z)) (if_neg hc51_2)).symm, Nf1, e1⟩
def Q_rm1_1 (Z : State) (a1 : Addr) (p2 : Int32)  (h0 : Heap) (n0 : Nat) : Option Value → Heap → List Loc → Prop := fun v h L => v = some (.int (if (0 : Int32) < p2 then (1 : Int32) else 0)) ∧ Fr n0 L ∧ h = h0
set_option maxRecDepth 65536 in
set_option maxHeartbeats 40000000 in
theorem rm1_1 (l : Launch) (Z : State) (a0 : Array Value) (hw : ∀ d ∈ tables_1, d.before a0 Z = true) (ws : List Jvm.Cond) (a1 : Addr) (p2 : Int32)  (h0 : Heap) (n0 : Nat) (Z0 : n0 ≤ h0.size) (E : Exa Z h0 a1 "com/example/vestline/vestline/payout/Comparison") (F : Fld Z h0 a1 "java/lang/Enum" "ordinal" "I" (.int (1 : Int32))) :
    MetFree l (⟨"com/example/vestline/vestline/payout/Comparison", "holds", "(I)Z"⟩ : MethodName) (head1 (Jvm.Cond.code (⟨"com/example/vestline/vestline/payout/Comparison", "holds", "(I)Z"⟩ : MethodName) prog_24_method_4_code 2 (some .boolean) :: ws) ({ frames := 1, cells := 0, slots := 0, locals := 12 } : Room)) (fun a U => a = #[(.ref a1), (.int p2)] ∧ Z.Warmed39 U.vm ∧ U.heap = h0) (fun _ _ _ _ _ => True) (fun _ U o U' => ∃ v L, o = .returned v ∧ (Q_rm1_1 Z a1 p2 h0 n0) v U'.heap L ∧ FrameEnd U o U' L ({ frames := 1, cells := 0, slots := 0, locals := 12 } : Room).cells ({ frames := 1, cells := 0, slots := 0, locals := 12 } : Room).slots) := by
  refine MetFree.of_bodySF (plainFor_of_name pn_1) hisR ?_
  intro p e s m args below meth c s₁ Bd hml0 hP hK
  obtain ⟨rfl, hZ, hh⟩ := hP
  have hx := Bd.exec
  have hby := Bd.bytes
  have hml : c.maxLocals = 2 := hml0
  have hown : s.vm.findClass "com/example/vestline/vestline/payout/Comparison" = some m.cls := findClass_of_methodNamed Bd.named
  have hnm := (name_of_methodNamed Bd.named Bd.method).1
  have X0 : Stand p l e ({ frames := 1, cells := 0, slots := 0, locals := 12 } : Room) s m #[(.ref a1), (.int p2)] below meth c s₁ [] 0 0 := Stand.of_body Bd
  have e0 : s₁.heap = h0 := by rw [← hh, Bd.state]; rfl
  have N0 := Fr.nil n0
  show Goes p e below (Fin s (Q_rm1_1 Z a1 p2 h0 n0) ({ frames := 1, cells := 0, slots := 0, locals := 12 } : Room).cells ({ frames := 1, cells := 0, slots := 0, locals := 12 } : Room).slots) _
  refine Goes.via (S' := s₁.setTop (mkF m 0 #[.val (.ref a1), .val (.int p2)] [])) (fun tz kz => castTop (ef_1 m a1 p2 ) kz) ?_
  refine Goes.via (S' := s₁.setTop (mkF m 1 #[.val (.ref a1), .val (.int p2)] [(.ref a1)])) (fun tz kz => ?_) ?_
  · show Steps p.tables e below (s₁.setTop (mkF m 0 #[.val (.ref a1), .val (.int p2)] [])) _
    refine XS.aloadN X0.here hx rfl (hb hby d1_0) rfl rfl ?_
    exact kz
  obtain ⟨cq1, kq1, q1a, q1b, q1c⟩ := isOf hZ e0 E
  obtain ⟨_, _, ⟨T1, L1, k1, n1⟩, -, X1, ⟨Lc1, hQ1, l1, y1, z1⟩, st1⟩ := X0.virtualBackUp hx (owner := "java/lang/Enum") (x := (⟨"com/example/vestline/vestline/payout/Comparison", "ordinal", "()I"⟩ : MethodName)) (y := (⟨"java/lang/Enum", "ordinal", "()I"⟩ : MethodName)) hown (mvT hZ (hw _ (List.mem_of_getElem? (i := 8) rfl))) (mvT hZ (hw _ (List.mem_of_getElem? (i := 9) rfl))) (mvT hZ (hw _ (List.mem_of_getElem? (i := 10) rfl))) (by decide) (mvT hZ (hw _ (List.mem_of_getElem? (i := 12) rfl))) (mvT hZ (hw _ (List.mem_of_getElem? (i := 11) rfl))) (backOf (W := 0) (rm2 l Z a0 hw [] a1 (1 : Int32) h0 n0 Z0 F) hZ (hw _ (List.mem_of_getElem? (i := 14) rfl)) (hw _ (List.mem_of_getElem? (i := 13) rfl)) (by decide) (by decide)) q1a q1c (g := (mkF m 1 #[.val (.ref a1), .val (.int p2)] [(.ref a1)])) rfl (by rw [hml]; rfl) (Steps.refl _) (argsL := []) (rest := []) (lenOf pd_0 rfl) rfl (by show 2 * 0 + _ ≤ _; exact Nat.le_of_eq rfl) (hb hby d1_1) (fun _ _ => ⟨rfl, e0, (by decide : 0 + 0 ≤ _), (by decide : 0 + 0 ≤ _)⟩)
  dsimp only [Pt.U, Pt.locs, Pt.cells, Pt.slots] at X1 l1 y1 z1 st1 hQ1
  subst l1 y1 z1
  obtain ⟨rfl, N1, e1⟩ := hQ1
  have Nf1 := Fr.app N0 N1
  refine Goes.via (S' := T1.setTop (mkF m 4 #[.val (.ref a1), .val (.int p2)] [(.int (1 : Int32))])) (fun _ kz => st1.trans kz) ?_
  refine Goes.via (S' := T1.setTop (mkF m 63 #[.val (.ref a1), .val (.int p2)] [(.int p2)])) (fun tz kz => ?_) ?_
  · show Steps p.tables e below (T1.setTop (mkF m 4 #[.val (.ref a1), .val (.int p2)] [(.int (1 : Int32))])) _
    refine XS.tswIn X1.here hx rfl (pc0 := 4) (pc' := 62) rfl (hb hby d1_4) rfl (by decide) rfl (by decide) (by decide) ?_
    show Steps p.tables e below (T1.setTop (mkF m 62 #[.val (.ref a1), .val (.int p2)] [])) _
    refine XS.iloadN X1.here hx rfl (hb hby d1_62) rfl ?_
    exact kz
  by_cases hc63_2 : (0 : Int32) < p2
  · refine Goes.via (S' := T1.setTop (mkF m 107 #[.val (.ref a1), .val (.int p2)] [(.int (1 : Int32))])) (fun tz kz => ?_) ?_
    · show Steps p.tables e below (T1.setTop (mkF m 63 #[.val (.ref a1), .val (.int p2)] [(.int p2)])) _
      refine XS.ifNo X1.here hx rfl (hb hby d1_63) rfl ((if0 _ _).trans (tlt hc63_2).2.2.2) ?_
      show Steps p.tables e below (T1.setTop (mkF m 66 #[.val (.ref a1), .val (.int p2)] [])) _
      refine XS.iconst X1.here hx rfl (hb hby d1_66) ?_
      show Steps p.tables e below (T1.setTop (mkF m 67 #[.val (.ref a1), .val (.int p2)] [(.int (1 : Int32))])) _
      refine XS.goto X1.here hx rfl (pc0 := 67) (pc' := 107) rfl (hb hby d1_67) (by decide) (by decide) ?_
      exact kz
    exact Goes.retN X1 hx Bd.notSynchronized (t := .boolean) Bd.returns (by simp) (hb hby d1_107) (Nat.le_of_ble_eq_true rfl) (Nat.le_of_ble_eq_true rfl) ⟨(congrArg (fun z => some (Value.int z)) (if_pos hc63_2)).symm, Nf1, e1⟩
  · refine Goes.via (S' := T1.setTop (mkF m 107 #[.val (.ref a1), .val (.int p2)] [(.int (0 : Int32))])) (fun tz kz => ?_) ?_
    · show Steps p.tables e below (T1.setTop (mkF m 63 #[.val (.ref a1), .val (.int p2)] [(.int p2)])) _
      refine XS.ifYes X1.here hx rfl (pc0 := 63) (pc' := 70) rfl (hb hby d1_63) rfl ((if0 _ _).trans (flt hc63_2).2.2.2) (by decide) (by decide) ?_
      show Steps p.tables e below (T1.setTop (mkF m 70 #[.val (.ref a1), .val (.int p2)] [])) _
      refine XS.iconst X1.here hx rfl (hb hby d1_70) ?_
      show Steps p.tables e below (T1.setTop (mkF m 71 #[.val (.ref a1), .val (.int p2)] [(.int (0 : Int32))])) _
      refine XS.goto X1.here hx rfl (pc0 := 71) (pc' := 107) rfl (hb hby d1_71) (by decide) (by decide) ?_
      exact kz
    exact Goes.retN X1 hx Bd.notSynchronized (t := .boolean) Bd.returns (by simp) (hb hby d1_107) (Nat.le_of_ble_eq_true rfl) (Nat.le_of_ble_eq_true rfl) ⟨(congrArg (fun z => some (Value.int z)) (if_neg hc63_2)).symm, Nf1, e1⟩
def Q_rm1_2 (Z : State) (a1 : Addr) (p2 : Int32)  (h0 : Heap) (n0 : Nat) : Option Value → Heap → List Loc → Prop := fun v h L => v = some (.int (if p2 < (0 : Int32) then (0 : Int32) else 1)) ∧ Fr n0 L ∧ h = h0
set_option maxRecDepth 65536 in
set_option maxHeartbeats 40000000 in
theorem rm1_2 (l : Launch) (Z : State) (a0 : Array Value) (hw : ∀ d ∈ tables_1, d.before a0 Z = true) (ws : List Jvm.Cond) (a1 : Addr) (p2 : Int32)  (h0 : Heap) (n0 : Nat) (Z0 : n0 ≤ h0.size) (E : Exa Z h0 a1 "com/example/vestline/vestline/payout/Comparison") (F : Fld Z h0 a1 "java/lang/Enum" "ordinal" "I" (.int (2 : Int32))) :
    MetFree l (⟨"com/example/vestline/vestline/payout/Comparison", "holds", "(I)Z"⟩ : MethodName) (head1 (Jvm.Cond.code (⟨"com/example/vestline/vestline/payout/Comparison", "holds", "(I)Z"⟩ : MethodName) prog_24_method_4_code 2 (some .boolean) :: ws) ({ frames := 1, cells := 0, slots := 0, locals := 12 } : Room)) (fun a U => a = #[(.ref a1), (.int p2)] ∧ Z.Warmed39 U.vm ∧ U.heap = h0) (fun _ _ _ _ _ => True) (fun _ U o U' => ∃ v L, o = .returned v ∧ (Q_rm1_2 Z a1 p2 h0 n0) v U'.heap L ∧ FrameEnd U o U' L ({ frames := 1, cells := 0, slots := 0, locals := 12 } : Room).cells ({ frames := 1, cells := 0, slots := 0, locals := 12 } : Room).slots) := by
  refine MetFree.of_bodySF (plainFor_of_name pn_1) hisR ?_
  intro p e s m args below meth c s₁ Bd hml0 hP hK
  obtain ⟨rfl, hZ, hh⟩ := hP
  have hx := Bd.exec
  have hby := Bd.bytes
  have hml : c.maxLocals = 2 := hml0
  have hown : s.vm.findClass "com/example/vestline/vestline/payout/Comparison" = some m.cls := findClass_of_methodNamed Bd.named
  have hnm := (name_of_methodNamed Bd.named Bd.method).1
  have X0 : Stand p l e ({ frames := 1, cells := 0, slots := 0, locals := 12 } : Room) s m #[(.ref a1), (.int p2)] below meth c s₁ [] 0 0 := Stand.of_body Bd
  have e0 : s₁.heap = h0 := by rw [← hh, Bd.state]; rfl
  have N0 := Fr.nil n0
  show Goes p e below (Fin s (Q_rm1_2 Z a1 p2 h0 n0) ({ frames := 1, cells := 0, slots := 0, locals := 12 } : Room).cells ({ frames := 1, cells := 0, slots := 0, locals := 12 } : Room).slots) _
  refine Goes.via (S' := s₁.setTop (mkF m 0 #[.val (.ref a1), .val (.int p2)] [])) (fun tz kz => castTop (ef_1 m a1 p2 ) kz) ?_
  refine Goes.via (S' := s₁.setTop (mkF m 1 #[.val (.ref a1), .val (.int p2)] [(.ref a1)])) (fun tz kz => ?_) ?_
  · show Steps p.tables e below (s₁.setTop (mkF m 0 #[.val (.ref a1), .val (.int p2)] [])) _
    refine XS.aloadN X0.here hx rfl (hb hby d1_0) rfl rfl ?_
    exact kz
  obtain ⟨cq1, kq1, q1a, q1b, q1c⟩ := isOf hZ e0 E
  obtain ⟨_, _, ⟨T1, L1, k1, n1⟩, -, X1, ⟨Lc1, hQ1, l1, y1, z1⟩, st1⟩ := X0.virtualBackUp hx (owner := "java/lang/Enum") (x := (⟨"com/example/vestline/vestline/payout/Comparison", "ordinal", "()I"⟩ : MethodName)) (y := (⟨"java/lang/Enum", "ordinal", "()I"⟩ : MethodName)) hown (mvT hZ (hw _ (List.mem_of_getElem? (i := 8) rfl))) (mvT hZ (hw _ (List.mem_of_getElem? (i := 9) rfl))) (mvT hZ (hw _ (List.mem_of_getElem? (i := 10) rfl))) (by decide) (mvT hZ (hw _ (List.mem_of_getElem? (i := 12) rfl))) (mvT hZ (hw _ (List.mem_of_getElem? (i := 11) rfl))) (backOf (W := 0) (rm2 l Z a0 hw [] a1 (2 : Int32) h0 n0 Z0 F) hZ (hw _ (List.mem_of_getElem? (i := 14) rfl)) (hw _ (List.mem_of_getElem? (i := 13) rfl)) (by decide) (by decide)) q1a q1c (g := (mkF m 1 #[.val (.ref a1), .val (.int p2)] [(.ref a1)])) rfl (by rw [hml]; rfl) (Steps.refl _) (argsL := []) (rest := []) (lenOf pd_0 rfl) rfl (by show 2 * 0 + _ ≤ _; exact Nat.le_of_eq rfl) (hb hby d1_1) (fun _ _ => ⟨rfl, e0, (by decide : 0 + 0 ≤ _), (by decide : 0 + 0 ≤ _)⟩)
  dsimp only [Pt.U, Pt.locs, Pt.cells, Pt.slots] at X1 l1 y1 z1 st1 hQ1
  subst l1 y1 z1
  obtain ⟨rfl, N1, e1⟩ := hQ1
  have Nf1 := Fr.app N0 N1
  refine Goes.via (S' := T1.setTop (mkF m 4 #[.val (.ref a1), .val (.int p2)] [(.int (2 : Int32))])) (fun _ kz => st1.trans kz) ?_
  refine Goes.via (S' := T1.setTop (mkF m 75 #[.val (.ref a1), .val (.int p2)] [(.int p2)])) (fun tz kz => ?_) ?_
  · show Steps p.tables e below (T1.setTop (mkF m 4 #[.val (.ref a1), .val (.int p2)] [(.int (2 : Int32))])) _
    refine XS.tswIn X1.here hx rfl (pc0 := 4) (pc' := 74) rfl (hb hby d1_4) rfl (by decide) rfl (by decide) (by decide) ?_
    show Steps p.tables e below (T1.setTop (mkF m 74 #[.val (.ref a1), .val (.int p2)] [])) _
    refine XS.iloadN X1.here hx rfl (hb hby d1_74) rfl ?_
    exact kz
  by_cases hc75_2 : p2 < (0 : Int32)
  · refine Goes.via (S' := T1.setTop (mkF m 107 #[.val (.ref a1), .val (.int p2)] [(.int (0 : Int32))])) (fun tz kz => ?_) ?_
    · show Steps p.tables e below (T1.setTop (mkF m 75 #[.val (.ref a1), .val (.int p2)] [(.int p2)])) _
      refine XS.ifYes X1.here hx rfl (pc0 := 75) (pc' := 82) rfl (hb hby d1_75) rfl ((if0 _ _).trans (tlt hc75_2).1) (by decide) (by decide) ?_
      show Steps p.tables e below (T1.setTop (mkF m 82 #[.val (.ref a1), .val (.int p2)] [])) _
      refine XS.iconst X1.here hx rfl (hb hby d1_82) ?_
      show Steps p.tables e below (T1.setTop (mkF m 83 #[.val (.ref a1), .val (.int p2)] [(.int (0 : Int32))])) _
      refine XS.goto X1.here hx rfl (pc0 := 83) (pc' := 107) rfl (hb hby d1_83) (by decide) (by decide) ?_
      exact kz
    exact Goes.retN X1 hx Bd.notSynchronized (t := .boolean) Bd.returns (by simp) (hb hby d1_107) (Nat.le_of_ble_eq_true rfl) (Nat.le_of_ble_eq_true rfl) ⟨(congrArg (fun z => some (Value.int z)) (if_pos hc75_2)).symm, Nf1, e1⟩
  · refine Goes.via (S' := T1.setTop (mkF m 107 #[.val (.ref a1), .val (.int p2)] [(.int (1 : Int32))])) (fun tz kz => ?_) ?_
    · show Steps p.tables e below (T1.setTop (mkF m 75 #[.val (.ref a1), .val (.int p2)] [(.int p2)])) _
      refine XS.ifNo X1.here hx rfl (hb hby d1_75) rfl ((if0 _ _).trans (flt hc75_2).1) ?_
      show Steps p.tables e below (T1.setTop (mkF m 78 #[.val (.ref a1), .val (.int p2)] [])) _
      refine XS.iconst X1.here hx rfl (hb hby d1_78) ?_
      show Steps p.tables e below (T1.setTop (mkF m 79 #[.val (.ref a1), .val (.int p2)] [(.int (1 : Int32))])) _
      refine XS.goto X1.here hx rfl (pc0 := 79) (pc' := 107) rfl (hb hby d1_79) (by decide) (by decide) ?_
      exact kz
    exact Goes.retN X1 hx Bd.notSynchronized (t := .boolean) Bd.returns (by simp) (hb hby d1_107) (Nat.le_of_ble_eq_true rfl) (Nat.le_of_ble_eq_true rfl) ⟨(congrArg (fun z => some (Value.int z)) (if_neg hc75_2)).symm, Nf1, e1⟩
def Q_rm1_3 (Z : State) (a1 : Addr) (p2 : Int32)  (h0 : Heap) (n0 : Nat) : Option Value → Heap → List Loc → Prop := fun v h L => v = some (.int (if p2 < (0 : Int32) then (1 : Int32) else 0)) ∧ Fr n0 L ∧ h = h0
set_option maxRecDepth 65536 in
set_option maxHeartbeats 40000000 in
theorem rm1_3 (l : Launch) (Z : State) (a0 : Array Value) (hw : ∀ d ∈ tables_1, d.before a0 Z = true) (ws : List Jvm.Cond) (a1 : Addr) (p2 : Int32)  (h0 : Heap) (n0 : Nat) (Z0 : n0 ≤ h0.size) (E : Exa Z h0 a1 "com/example/vestline/vestline/payout/Comparison") (F : Fld Z h0 a1 "java/lang/Enum" "ordinal" "I" (.int (3 : Int32))) :
    MetFree l (⟨"com/example/vestline/vestline/payout/Comparison", "holds", "(I)Z"⟩ : MethodName) (head1 (Jvm.Cond.code (⟨"com/example/vestline/vestline/payout/Comparison", "holds", "(I)Z"⟩ : MethodName) prog_24_method_4_code 2 (some .boolean) :: ws) ({ frames := 1, cells := 0, slots := 0, locals := 12 } : Room)) (fun a U => a = #[(.ref a1), (.int p2)] ∧ Z.Warmed39 U.vm ∧ U.heap = h0) (fun _ _ _ _ _ => True) (fun _ U o U' => ∃ v L, o = .returned v ∧ (Q_rm1_3 Z a1 p2 h0 n0) v U'.heap L ∧ FrameEnd U o U' L ({ frames := 1, cells := 0, slots := 0, locals := 12 } : Room).cells ({ frames := 1, cells := 0, slots := 0, locals := 12 } : Room).slots) := by
  refine MetFree.of_bodySF (plainFor_of_name pn_1) hisR ?_
  intro p e s m args below meth c s₁ Bd hml0 hP hK
  obtain ⟨rfl, hZ, hh⟩ := hP
  have hx := Bd.exec
  have hby := Bd.bytes
  have hml : c.maxLocals = 2 := hml0
  have hown : s.vm.findClass "com/example/vestline/vestline/payout/Comparison" = some m.cls := findClass_of_methodNamed Bd.named
  have hnm := (name_of_methodNamed Bd.named Bd.method).1
  have X0 : Stand p l e ({ frames := 1, cells := 0, slots := 0, locals := 12 } : Room) s m #[(.ref a1), (.int p2)] below meth c s₁ [] 0 0 := Stand.of_body Bd
  have e0 : s₁.heap = h0 := by rw [← hh, Bd.state]; rfl
  have N0 := Fr.nil n0
  show Goes p e below (Fin s (Q_rm1_3 Z a1 p2 h0 n0) ({ frames := 1, cells := 0, slots := 0, locals := 12 } : Room).cells ({ frames := 1, cells := 0, slots := 0, locals := 12 } : Room).slots) _
  refine Goes.via (S' := s₁.setTop (mkF m 0 #[.val (.ref a1), .val (.int p2)] [])) (fun tz kz => castTop (ef_1 m a1 p2 ) kz) ?_
  refine Goes.via (S' := s₁.setTop (mkF m 1 #[.val (.ref a1), .val (.int p2)] [(.ref a1)])) (fun tz kz => ?_) ?_
  · show Steps p.tables e below (s₁.setTop (mkF m 0 #[.val (.ref a1), .val (.int p2)] [])) _
    refine XS.aloadN X0.here hx rfl (hb hby d1_0) rfl rfl ?_
    exact kz
  obtain ⟨cq1, kq1, q1a, q1b, q1c⟩ := isOf hZ e0 E
  obtain ⟨_, _, ⟨T1, L1, k1, n1⟩, -, X1, ⟨Lc1, hQ1, l1, y1, z1⟩, st1⟩ := X0.virtualBackUp hx (owner := "java/lang/Enum") (x := (⟨"com/example/vestline/vestline/payout/Comparison", "ordinal", "()I"⟩ : MethodName)) (y := (⟨"java/lang/Enum", "ordinal", "()I"⟩ : MethodName)) hown (mvT hZ (hw _ (List.mem_of_getElem? (i := 8) rfl))) (mvT hZ (hw _ (List.mem_of_getElem? (i := 9) rfl))) (mvT hZ (hw _ (List.mem_of_getElem? (i := 10) rfl))) (by decide) (mvT hZ (hw _ (List.mem_of_getElem? (i := 12) rfl))) (mvT hZ (hw _ (List.mem_of_getElem? (i := 11) rfl))) (backOf (W := 0) (rm2 l Z a0 hw [] a1 (3 : Int32) h0 n0 Z0 F) hZ (hw _ (List.mem_of_getElem? (i := 14) rfl)) (hw _ (List.mem_of_getElem? (i := 13) rfl)) (by decide) (by decide)) q1a q1c (g := (mkF m 1 #[.val (.ref a1), .val (.int p2)] [(.ref a1)])) rfl (by rw [hml]; rfl) (Steps.refl _) (argsL := []) (rest := []) (lenOf pd_0 rfl) rfl (by show 2 * 0 + _ ≤ _; exact Nat.le_of_eq rfl) (hb hby d1_1) (fun _ _ => ⟨rfl, e0, (by decide : 0 + 0 ≤ _), (by decide : 0 + 0 ≤ _)⟩)
  dsimp only [Pt.U, Pt.locs, Pt.cells, Pt.slots] at X1 l1 y1 z1 st1 hQ1
  subst l1 y1 z1
  obtain ⟨rfl, N1, e1⟩ := hQ1
  have Nf1 := Fr.app N0 N1
  refine Goes.via (S' := T1.setTop (mkF m 4 #[.val (.ref a1), .val (.int p2)] [(.int (3 : Int32))])) (fun _ kz => st1.trans kz) ?_
  refine Goes.via (S' := T1.setTop (mkF m 87 #[.val (.ref a1), .val (.int p2)] [(.int p2)])) (fun tz kz => ?_) ?_
  · show Steps p.tables e below (T1.setTop (mkF m 4 #[.val (.ref a1), .val (.int p2)] [(.int (3 : Int32))])) _
    refine XS.tswIn X1.here hx rfl (pc0 := 4) (pc' := 86) rfl (hb hby d1_4) rfl (by decide) rfl (by decide) (by decide) ?_
    show Steps p.tables e below (T1.setTop (mkF m 86 #[.val (.ref a1), .val (.int p2)] [])) _
    refine XS.iloadN X1.here hx rfl (hb hby d1_86) rfl ?_
    exact kz
  by_cases hc87_2 : p2 < (0 : Int32)
  · refine Goes.via (S' := T1.setTop (mkF m 107 #[.val (.ref a1), .val (.int p2)] [(.int (1 : Int32))])) (fun tz kz => ?_) ?_
    · show Steps p.tables e below (T1.setTop (mkF m 87 #[.val (.ref a1), .val (.int p2)] [(.int p2)])) _
      refine XS.ifNo X1.here hx rfl (hb hby d1_87) rfl ((if0 _ _).trans (tlt hc87_2).2.1) ?_
      show Steps p.tables e below (T1.setTop (mkF m 90 #[.val (.ref a1), .val (.int p2)] [])) _
      refine XS.iconst X1.here hx rfl (hb hby d1_90) ?_
      show Steps p.tables e below (T1.setTop (mkF m 91 #[.val (.ref a1), .val (.int p2)] [(.int (1 : Int32))])) _
      refine XS.goto X1.here hx rfl (pc0 := 91) (pc' := 107) rfl (hb hby d1_91) (by decide) (by decide) ?_
      exact kz
    exact Goes.retN X1 hx Bd.notSynchronized (t := .boolean) Bd.returns (by simp) (hb hby d1_107) (Nat.le_of_ble_eq_true rfl) (Nat.le_of_ble_eq_true rfl) ⟨(congrArg (fun z => some (Value.int z)) (if_pos hc87_2)).symm, Nf1, e1⟩
  · refine Goes.via (S' := T1.setTop (mkF m 107 #[.val (.ref a1), .val (.int p2)] [(.int (0 : Int32))])) (fun tz kz => ?_) ?_
    · show Steps p.tables e below (T1.setTop (mkF m 87 #[.val (.ref a1), .val (.int p2)] [(.int p2)])) _
      refine XS.ifYes X1.here hx rfl (pc0 := 87) (pc' := 94) rfl (hb hby d1_87) rfl ((if0 _ _).trans (flt hc87_2).2.1) (by decide) (by decide) ?_
      show Steps p.tables e below (T1.setTop (mkF m 94 #[.val (.ref a1), .val (.int p2)] [])) _
      refine XS.iconst X1.here hx rfl (hb hby d1_94) ?_
      show Steps p.tables e below (T1.setTop (mkF m 95 #[.val (.ref a1), .val (.int p2)] [(.int (0 : Int32))])) _
      refine XS.goto X1.here hx rfl (pc0 := 95) (pc' := 107) rfl (hb hby d1_95) (by decide) (by decide) ?_
      exact kz
    exact Goes.retN X1 hx Bd.notSynchronized (t := .boolean) Bd.returns (by simp) (hb hby d1_107) (Nat.le_of_ble_eq_true rfl) (Nat.le_of_ble_eq_true rfl) ⟨(congrArg (fun z => some (Value.int z)) (if_neg hc87_2)).symm, Nf1, e1⟩
def Q_rm1_4 (Z : State) (a1 : Addr) (p2 : Int32)  (h0 : Heap) (n0 : Nat) : Option Value → Heap → List Loc → Prop := fun v h L => v = some (.int (if (0 : Int32) < p2 then (0 : Int32) else 1)) ∧ Fr n0 L ∧ h = h0
set_option maxRecDepth 65536 in
set_option maxHeartbeats 40000000 in
theorem rm1_4 (l : Launch) (Z : State) (a0 : Array Value) (hw : ∀ d ∈ tables_1, d.before a0 Z = true) (ws : List Jvm.Cond) (a1 : Addr) (p2 : Int32)  (h0 : Heap) (n0 : Nat) (Z0 : n0 ≤ h0.size) (E : Exa Z h0 a1 "com/example/vestline/vestline/payout/Comparison") (F : Fld Z h0 a1 "java/lang/Enum" "ordinal" "I" (.int (4 : Int32))) :
    MetFree l (⟨"com/example/vestline/vestline/payout/Comparison", "holds", "(I)Z"⟩ : MethodName) (head1 (Jvm.Cond.code (⟨"com/example/vestline/vestline/payout/Comparison", "holds", "(I)Z"⟩ : MethodName) prog_24_method_4_code 2 (some .boolean) :: ws) ({ frames := 1, cells := 0, slots := 0, locals := 12 } : Room)) (fun a U => a = #[(.ref a1), (.int p2)] ∧ Z.Warmed39 U.vm ∧ U.heap = h0) (fun _ _ _ _ _ => True) (fun _ U o U' => ∃ v L, o = .returned v ∧ (Q_rm1_4 Z a1 p2 h0 n0) v U'.heap L ∧ FrameEnd U o U' L ({ frames := 1, cells := 0, slots := 0, locals := 12 } : Room).cells ({ frames := 1, cells := 0, slots := 0, locals := 12 } : Room).slots) := by
  refine MetFree.of_bodySF (plainFor_of_name pn_1) hisR ?_
  intro p e s m args below meth c s₁ Bd hml0 hP hK
  obtain ⟨rfl, hZ, hh⟩ := hP
  have hx := Bd.exec
  have hby := Bd.bytes
  have hml : c.maxLocals = 2 := hml0
  have hown : s.vm.findClass "com/example/vestline/vestline/payout/Comparison" = some m.cls := findClass_of_methodNamed Bd.named
  have hnm := (name_of_methodNamed Bd.named Bd.method).1
  have X0 : Stand p l e ({ frames := 1, cells := 0, slots := 0, locals := 12 } : Room) s m #[(.ref a1), (.int p2)] below meth c s₁ [] 0 0 := Stand.of_body Bd
  have e0 : s₁.heap = h0 := by rw [← hh, Bd.state]; rfl
  have N0 := Fr.nil n0
  show Goes p e below (Fin s (Q_rm1_4 Z a1 p2 h0 n0) ({ frames := 1, cells := 0, slots := 0, locals := 12 } : Room).cells ({ frames := 1, cells := 0, slots := 0, locals := 12 } : Room).slots) _
  refine Goes.via (S' := s₁.setTop (mkF m 0 #[.val (.ref a1), .val (.int p2)] [])) (fun tz kz => castTop (ef_1 m a1 p2 ) kz) ?_
  refine Goes.via (S' := s₁.setTop (mkF m 1 #[.val (.ref a1), .val (.int p2)] [(.ref a1)])) (fun tz kz => ?_) ?_
  · show Steps p.tables e below (s₁.setTop (mkF m 0 #[.val (.ref a1), .val (.int p2)] [])) _
    refine XS.aloadN X0.here hx rfl (hb hby d1_0) rfl rfl ?_
    exact kz
  obtain ⟨cq1, kq1, q1a, q1b, q1c⟩ := isOf hZ e0 E
  obtain ⟨_, _, ⟨T1, L1, k1, n1⟩, -, X1, ⟨Lc1, hQ1, l1, y1, z1⟩, st1⟩ := X0.virtualBackUp hx (owner := "java/lang/Enum") (x := (⟨"com/example/vestline/vestline/payout/Comparison", "ordinal", "()I"⟩ : MethodName)) (y := (⟨"java/lang/Enum", "ordinal", "()I"⟩ : MethodName)) hown (mvT hZ (hw _ (List.mem_of_getElem? (i := 8) rfl))) (mvT hZ (hw _ (List.mem_of_getElem? (i := 9) rfl))) (mvT hZ (hw _ (List.mem_of_getElem? (i := 10) rfl))) (by decide) (mvT hZ (hw _ (List.mem_of_getElem? (i := 12) rfl))) (mvT hZ (hw _ (List.mem_of_getElem? (i := 11) rfl))) (backOf (W := 0) (rm2 l Z a0 hw [] a1 (4 : Int32) h0 n0 Z0 F) hZ (hw _ (List.mem_of_getElem? (i := 14) rfl)) (hw _ (List.mem_of_getElem? (i := 13) rfl)) (by decide) (by decide)) q1a q1c (g := (mkF m 1 #[.val (.ref a1), .val (.int p2)] [(.ref a1)])) rfl (by rw [hml]; rfl) (Steps.refl _) (argsL := []) (rest := []) (lenOf pd_0 rfl) rfl (by show 2 * 0 + _ ≤ _; exact Nat.le_of_eq rfl) (hb hby d1_1) (fun _ _ => ⟨rfl, e0, (by decide : 0 + 0 ≤ _), (by decide : 0 + 0 ≤ _)⟩)
  dsimp only [Pt.U, Pt.locs, Pt.cells, Pt.slots] at X1 l1 y1 z1 st1 hQ1
  subst l1 y1 z1
  obtain ⟨rfl, N1, e1⟩ := hQ1
  have Nf1 := Fr.app N0 N1
  refine Goes.via (S' := T1.setTop (mkF m 4 #[.val (.ref a1), .val (.int p2)] [(.int (4 : Int32))])) (fun _ kz => st1.trans kz) ?_
  refine Goes.via (S' := T1.setTop (mkF m 99 #[.val (.ref a1), .val (.int p2)] [(.int p2)])) (fun tz kz => ?_) ?_
  · show Steps p.tables e below (T1.setTop (mkF m 4 #[.val (.ref a1), .val (.int p2)] [(.int (4 : Int32))])) _
    refine XS.tswIn X1.here hx rfl (pc0 := 4) (pc' := 98) rfl (hb hby d1_4) rfl (by decide) rfl (by decide) (by decide) ?_
    show Steps p.tables e below (T1.setTop (mkF m 98 #[.val (.ref a1), .val (.int p2)] [])) _
    refine XS.iloadN X1.here hx rfl (hb hby d1_98) rfl ?_
    exact kz
  by_cases hc99_2 : (0 : Int32) < p2
  · refine Goes.via (S' := T1.setTop (mkF m 107 #[.val (.ref a1), .val (.int p2)] [(.int (0 : Int32))])) (fun tz kz => ?_) ?_
    · show Steps p.tables e below (T1.setTop (mkF m 99 #[.val (.ref a1), .val (.int p2)] [(.int p2)])) _
      refine XS.ifYes X1.here hx rfl (pc0 := 99) (pc' := 106) rfl (hb hby d1_99) rfl ((if0 _ _).trans (tlt hc99_2).2.2.1) (by decide) (by decide) ?_
      show Steps p.tables e below (T1.setTop (mkF m 106 #[.val (.ref a1), .val (.int p2)] [])) _
      refine XS.iconst X1.here hx rfl (hb hby d1_106) ?_
      exact kz
    exact Goes.retN X1 hx Bd.notSynchronized (t := .boolean) Bd.returns (by simp) (hb hby d1_107) (Nat.le_of_ble_eq_true rfl) (Nat.le_of_ble_eq_true rfl) ⟨(congrArg (fun z => some (Value.int z)) (if_pos hc99_2)).symm, Nf1, e1⟩
  · refine Goes.via (S' := T1.setTop (mkF m 107 #[.val (.ref a1), .val (.int p2)] [(.int (1 : Int32))])) (fun tz kz => ?_) ?_
    · show Steps p.tables e below (T1.setTop (mkF m 99 #[.val (.ref a1), .val (.int p2)] [(.int p2)])) _
      refine XS.ifNo X1.here hx rfl (hb hby d1_99) rfl ((if0 _ _).trans (flt hc99_2).2.2.1) ?_
      show Steps p.tables e below (T1.setTop (mkF m 102 #[.val (.ref a1), .val (.int p2)] [])) _
      refine XS.iconst X1.here hx rfl (hb hby d1_102) ?_
      show Steps p.tables e below (T1.setTop (mkF m 103 #[.val (.ref a1), .val (.int p2)] [(.int (1 : Int32))])) _
      refine XS.goto X1.here hx rfl (pc0 := 103) (pc' := 107) rfl (hb hby d1_103) (by decide) (by decide) ?_
      exact kz
    exact Goes.retN X1 hx Bd.notSynchronized (t := .boolean) Bd.returns (by simp) (hb hby d1_107) (Nat.le_of_ble_eq_true rfl) (Nat.le_of_ble_eq_true rfl) ⟨(congrArg (fun z => some (Value.int z)) (if_neg hc99_2)).symm, Nf1, e1⟩
theorem own_tri (p : Int32) : (p < 0 ∧ ¬ (p = 0) ∧ ¬ (0 < p)) ∨ (¬ (p < 0) ∧ p = 0 ∧ ¬ (0 < p)) ∨ (¬ (p < 0) ∧ ¬ (p = 0) ∧ 0 < p) := by
  simp only [Int32.lt_iff_toInt_lt, ← Int32.toInt_inj]
  have : (0 : Int32).toInt = 0 := by decide
  omega
theorem pn_0 : plainName "com/example/vestline/vestline/payout/ComparisonHoldsPinLaw" = true := by first | (simp [plainName, overriddenIn]; done) | decide +kernel
theorem ef_0 (m : MethodId) (x0 : Int32) : entryFrame m #[(.int x0)] maxLocals = mkF m 0 #[.val (.int x0), .unset, .unset, .unset, .unset, .unset, .unset, .unset, .unset, .unset, .unset] [] := by first | (simp [entryFrame, mkF, argsToLocals, Value.category, maxLocals]; done) | rfl
def Q_rm0 (Z : State) (p1 : Int32) (b0 : Addr) (b1 : Addr) (b2 : Addr) (b3 : Addr) (b4 : Addr) (h0 : Heap) (n0 : Nat) : Option Value → Heap → List Loc → Prop := fun v h L => v = some (.int 1) ∧ Fr n0 L
set_option maxRecDepth 65536 in
set_option maxHeartbeats 40000000 in
theorem rm0 (l : Launch) (Z : State) (a0 : Array Value) (hw : ∀ d ∈ tables_1, d.before a0 Z = true) (ws : List Jvm.Cond) (p1 : Int32) (b0 : Addr) (b1 : Addr) (b2 : Addr) (b3 : Addr) (b4 : Addr) (h0 : Heap) (n0 : Nat) (Z0 : n0 ≤ h0.size) (S0 : Sta Z h0 "com/example/vestline/vestline/payout/Comparison" "MUST_EQUAL" "Lcom/example/vestline/vestline/payout/Comparison;" (.ref b0)) (E0 : Exa Z h0 b0 "com/example/vestline/vestline/payout/Comparison") (F0 : Fld Z h0 b0 "java/lang/Enum" "ordinal" "I" (.int (0 : Int32))) (S1 : Sta Z h0 "com/example/vestline/vestline/payout/Comparison" "MORE_THAN" "Lcom/example/vestline/vestline/payout/Comparison;" (.ref b1)) (E1 : Exa Z h0 b1 "com/example/vestline/vestline/payout/Comparison") (F1 : Fld Z h0 b1 "java/lang/Enum" "ordinal" "I" (.int (1 : Int32))) (S2 : Sta Z h0 "com/example/vestline/vestline/payout/Comparison" "AT_LEAST" "Lcom/example/vestline/vestline/payout/Comparison;" (.ref b2)) (E2 : Exa Z h0 b2 "com/example/vestline/vestline/payout/Comparison") (F2 : Fld Z h0 b2 "java/lang/Enum" "ordinal" "I" (.int (2 : Int32))) (S3 : Sta Z h0 "com/example/vestline/vestline/payout/Comparison" "LESS_THAN" "Lcom/example/vestline/vestline/payout/Comparison;" (.ref b3)) (E3 : Exa Z h0 b3 "com/example/vestline/vestline/payout/Comparison") (F3 : Fld Z h0 b3 "java/lang/Enum" "ordinal" "I" (.int (3 : Int32))) (S4 : Sta Z h0 "com/example/vestline/vestline/payout/Comparison" "AT_MOST" "Lcom/example/vestline/vestline/payout/Comparison;" (.ref b4)) (E4 : Exa Z h0 b4 "com/example/vestline/vestline/payout/Comparison") (F4 : Fld Z h0 b4 "java/lang/Enum" "ordinal" "I" (.int (4 : Int32))) :
    MetFree l x (head1 (Jvm.Cond.code x code maxLocals ret :: ws) room_1) (fun a U => a = #[(.int p1)] ∧ Z.Warmed39 U.vm ∧ U.heap = h0) (fun _ _ _ _ _ => True) (fun _ U o U' => ∃ v L, o = .returned v ∧ (Q_rm0 Z p1 b0 b1 b2 b3 b4 h0 n0) v U'.heap L ∧ FrameEnd U o U' L room_1.cells room_1.slots) := by
  refine MetFree.of_bodySF (plainFor_of_name pn_0) hisR ?_
  intro p e s m args below meth c s₁ Bd hml0 hP hK
  obtain ⟨rfl, hZ, hh⟩ := hP
  have hx := Bd.exec
  have hby := Bd.bytes
  have hml : c.maxLocals = 11 := hml0
  have hown : s.vm.findClass "com/example/vestline/vestline/payout/ComparisonHoldsPinLaw" = some m.cls := findClass_of_methodNamed Bd.named
  have hnm := (name_of_methodNamed Bd.named Bd.method).1
  have X0 : Stand p l e room_1 s m #[(.int p1)] below meth c s₁ [] 0 0 := Stand.of_body Bd
  have e0 : s₁.heap = h0 := by rw [← hh, Bd.state]; rfl
  have N0 := Fr.nil n0
  show Goes p e below (Fin s (Q_rm0 Z p1 b0 b1 b2 b3 b4 h0 n0) room_1.cells room_1.slots) _
  refine Goes.via (S' := s₁.setTop (mkF m 0 #[.val (.int p1), .unset, .unset, .unset, .unset, .unset, .unset, .unset, .unset, .unset, .unset] [])) (fun tz kz => castTop (ef_0 m p1 ) kz) ?_
  refine Goes.via (S' := s₁.setTop (mkF m 1 #[.val (.int p1), .unset, .unset, .unset, .unset, .unset, .unset, .unset, .unset, .unset, .unset] [(.int p1)])) (fun tz kz => ?_) ?_
  · show Steps p.tables e below (s₁.setTop (mkF m 0 #[.val (.int p1), .unset, .unset, .unset, .unset, .unset, .unset, .unset, .unset, .unset, .unset] [])) _
    refine XS.iloadN X0.here hx rfl (hb hby at_0) rfl ?_
    exact kz
  obtain ⟨r2, hr2⟩ : ∃ z : Int32, z = (if p1 < (0 : Int32) then (1 : Int32) else (0 : Int32)) := ⟨_, rfl⟩
  have j1_3 : ∀ t, Steps p.tables e below (s₁.setTop (mkF m 9 #[.val (.int p1), .unset, .unset, .unset, .unset, .unset, .unset, .unset, .unset, .unset, .unset] [(.int r2)])) t → Steps p.tables e below (s₁.setTop (mkF m 1 #[.val (.int p1), .unset, .unset, .unset, .unset, .unset, .unset, .unset, .unset, .unset, .unset] [(.int p1)])) t := by
    intro tz kz
    by_cases hc1_1 : p1 < (0 : Int32)
    · rw [if_pos hc1_1] at hr2
      show Steps p.tables e below (s₁.setTop (mkF m 1 #[.val (.int p1), .unset, .unset, .unset, .unset, .unset, .unset, .unset, .unset, .unset, .unset] [(.int p1)])) _
      refine XS.ifNo X0.here hx rfl (hb hby at_1) rfl ((if0 _ _).trans (tlt hc1_1).2.1) ?_
      show Steps p.tables e below (s₁.setTop (mkF m 4 #[.val (.int p1), .unset, .unset, .unset, .unset, .unset, .unset, .unset, .unset, .unset, .unset] [])) _
      refine XS.iconst X0.here hx rfl (hb hby at_4) ?_
      show Steps p.tables e below (s₁.setTop (mkF m 5 #[.val (.int p1), .unset, .unset, .unset, .unset, .unset, .unset, .unset, .unset, .unset, .unset] [(.int (1 : Int32))])) _
      refine XS.goto X0.here hx rfl (pc0 := 5) (pc' := 9) rfl (hb hby at_5) (by decide) (by decide) ?_
      subst hr2
      exact kz
    · rw [if_neg hc1_1] at hr2
      show Steps p.tables e below (s₁.setTop (mkF m 1 #[.val (.int p1), .unset, .unset, .unset, .unset, .unset, .unset, .unset, .unset, .unset, .unset] [(.int p1)])) _
      refine XS.ifYes X0.here hx rfl (pc0 := 1) (pc' := 8) rfl (hb hby at_1) rfl ((if0 _ _).trans (flt hc1_1).2.1) (by decide) (by decide) ?_
      show Steps p.tables e below (s₁.setTop (mkF m 8 #[.val (.int p1), .unset, .unset, .unset, .unset, .unset, .unset, .unset, .unset, .unset, .unset] [])) _
      refine XS.iconst X0.here hx rfl (hb hby at_8) ?_
      subst hr2
      exact kz
  refine Goes.via j1_3 ?_
  refine Goes.via (S' := s₁.setTop (mkF m 11 #[.val (.int p1), .val (.int r2), .unset, .unset, .unset, .unset, .unset, .unset, .unset, .unset, .unset] [(.int p1)])) (fun tz kz => ?_) ?_
  · show Steps p.tables e below (s₁.setTop (mkF m 9 #[.val (.int p1), .unset, .unset, .unset, .unset, .unset, .unset, .unset, .unset, .unset, .unset] [(.int r2)])) _
    refine XS.istoreN X0.here hx rfl (hb hby at_9) rfl (l' := #[.val (.int p1), .val (.int r2), .unset, .unset, .unset, .unset, .unset, .unset, .unset, .unset, .unset]) rfl ?_
    show Steps p.tables e below (s₁.setTop (mkF m 10 #[.val (.int p1), .val (.int r2), .unset, .unset, .unset, .unset, .unset, .unset, .unset, .unset, .unset] [])) _
    refine XS.iloadN X0.here hx rfl (hb hby at_10) rfl ?_
    exact kz
  obtain ⟨r5, hr5⟩ : ∃ z : Int32, z = (if p1 = (0 : Int32) then (1 : Int32) else (0 : Int32)) := ⟨_, rfl⟩
  have j11_6 : ∀ t, Steps p.tables e below (s₁.setTop (mkF m 19 #[.val (.int p1), .val (.int r2), .unset, .unset, .unset, .unset, .unset, .unset, .unset, .unset, .unset] [(.int r5)])) t → Steps p.tables e below (s₁.setTop (mkF m 11 #[.val (.int p1), .val (.int r2), .unset, .unset, .unset, .unset, .unset, .unset, .unset, .unset, .unset] [(.int p1)])) t := by
    intro tz kz
    by_cases hc11_4 : p1 = (0 : Int32)
    · rw [if_pos hc11_4] at hr5
      show Steps p.tables e below (s₁.setTop (mkF m 11 #[.val (.int p1), .val (.int r2), .unset, .unset, .unset, .unset, .unset, .unset, .unset, .unset, .unset] [(.int p1)])) _
      refine XS.ifNo X0.here hx rfl (hb hby at_11) rfl ((if0 _ _).trans (teq hc11_4).2) ?_
      show Steps p.tables e below (s₁.setTop (mkF m 14 #[.val (.int p1), .val (.int r2), .unset, .unset, .unset, .unset, .unset, .unset, .unset, .unset, .unset] [])) _
      refine XS.iconst X0.here hx rfl (hb hby at_14) ?_
      show Steps p.tables e below (s₁.setTop (mkF m 15 #[.val (.int p1), .val (.int r2), .unset, .unset, .unset, .unset, .unset, .unset, .unset, .unset, .unset] [(.int (1 : Int32))])) _
      refine XS.goto X0.here hx rfl (pc0 := 15) (pc' := 19) rfl (hb hby at_15) (by decide) (by decide) ?_
      subst hr5
      exact kz
    · rw [if_neg hc11_4] at hr5
      show Steps p.tables e below (s₁.setTop (mkF m 11 #[.val (.int p1), .val (.int r2), .unset, .unset, .unset, .unset, .unset, .unset, .unset, .unset, .unset] [(.int p1)])) _
      refine XS.ifYes X0.here hx rfl (pc0 := 11) (pc' := 18) rfl (hb hby at_11) rfl ((if0 _ _).trans (feq hc11_4).2) (by decide) (by decide) ?_
      show Steps p.tables e below (s₁.setTop (mkF m 18 #[.val (.int p1), .val (.int r2), .unset, .unset, .unset, .unset, .unset, .unset, .unset, .unset, .unset] [])) _
      refine XS.iconst X0.here hx rfl (hb hby at_18) ?_
      subst hr5
      exact kz
  refine Goes.via j11_6 ?_
  refine Goes.via (S' := s₁.setTop (mkF m 21 #[.val (.int p1), .val (.int r2), .val (.int r5), .unset, .unset, .unset, .unset, .unset, .unset, .unset, .unset] [(.int r2)])) (fun tz kz => ?_) ?_
  · show Steps p.tables e below (s₁.setTop (mkF m 19 #[.val (.int p1), .val (.int r2), .unset, .unset, .unset, .unset, .unset, .unset, .unset, .unset, .unset] [(.int r5)])) _
    refine XS.istoreN X0.here hx rfl (hb hby at_19) rfl (l' := #[.val (.int p1), .val (.int r2), .val (.int r5), .unset, .unset, .unset, .unset, .unset, .unset, .unset, .unset]) rfl ?_
    show Steps p.tables e below (s₁.setTop (mkF m 20 #[.val (.int p1), .val (.int r2), .val (.int r5), .unset, .unset, .unset, .unset, .unset, .unset, .unset, .unset] [])) _
    refine XS.iloadN X0.here hx rfl (hb hby at_20) rfl ?_
    exact kz
  obtain ⟨r9, hr9⟩ : ∃ z : Int32, z = (if r2 = (0 : Int32) then (if r5 = (0 : Int32) then (1 : Int32) else (0 : Int32)) else (0 : Int32)) := ⟨_, rfl⟩
  have j21_10 : ∀ t, Steps p.tables e below (s₁.setTop (mkF m 33 #[.val (.int p1), .val (.int r2), .val (.int r5), .unset, .unset, .unset, .unset, .unset, .unset, .unset, .unset] [(.int r9)])) t → Steps p.tables e below (s₁.setTop (mkF m 21 #[.val (.int p1), .val (.int r2), .val (.int r5), .unset, .unset, .unset, .unset, .unset, .unset, .unset, .unset] [(.int r2)])) t := by
    intro tz kz
    by_cases hc21_7 : r2 = (0 : Int32)
    · rw [if_pos hc21_7] at hr9
      show Steps p.tables e below (s₁.setTop (mkF m 21 #[.val (.int p1), .val (.int r2), .val (.int r5), .unset, .unset, .unset, .unset, .unset, .unset, .unset, .unset] [(.int r2)])) _
      refine XS.ifNo X0.here hx rfl (hb hby at_21) rfl ((if0 _ _).trans (teq hc21_7).2) ?_
      show Steps p.tables e below (s₁.setTop (mkF m 24 #[.val (.int p1), .val (.int r2), .val (.int r5), .unset, .unset, .unset, .unset, .unset, .unset, .unset, .unset] [])) _
      refine XS.iloadN X0.here hx rfl (hb hby at_24) rfl ?_
      by_cases hc25_8 : r5 = (0 : Int32)
      · rw [if_pos hc25_8] at hr9
        show Steps p.tables e below (s₁.setTop (mkF m 25 #[.val (.int p1), .val (.int r2), .val (.int r5), .unset, .unset, .unset, .unset, .unset, .unset, .unset, .unset] [(.int r5)])) _
        refine XS.ifNo X0.here hx rfl (hb hby at_25) rfl ((if0 _ _).trans (teq hc25_8).2) ?_
        show Steps p.tables e below (s₁.setTop (mkF m 28 #[.val (.int p1), .val (.int r2), .val (.int r5), .unset, .unset, .unset, .unset, .unset, .unset, .unset, .unset] [])) _
        refine XS.iconst X0.here hx rfl (hb hby at_28) ?_
        show Steps p.tables e below (s₁.setTop (mkF m 29 #[.val (.int p1), .val (.int r2), .val (.int r5), .unset, .unset, .unset, .unset, .unset, .unset, .unset, .unset] [(.int (1 : Int32))])) _
        refine XS.goto X0.here hx rfl (pc0 := 29) (pc' := 33) rfl (hb hby at_29) (by decide) (by decide) ?_
        subst hr9
        exact kz
      · rw [if_neg hc25_8] at hr9
        show Steps p.tables e below (s₁.setTop (mkF m 25 #[.val (.int p1), .val (.int r2), .val (.int r5), .unset, .unset, .unset, .unset, .unset, .unset, .unset, .unset] [(.int r5)])) _
        refine XS.ifYes X0.here hx rfl (pc0 := 25) (pc' := 32) rfl (hb hby at_25) rfl ((if0 _ _).trans (feq hc25_8).2) (by decide) (by decide) ?_
        show Steps p.tables e below (s₁.setTop (mkF m 32 #[.val (.int p1), .val (.int r2), .val (.int r5), .unset, .unset, .unset, .unset, .unset, .unset, .unset, .unset] [])) _
        refine XS.iconst X0.here hx rfl (hb hby at_32) ?_
        subst hr9
        exact kz
    · rw [if_neg hc21_7] at hr9
      show Steps p.tables e below (s₁.setTop (mkF m 21 #[.val (.int p1), .val (.int r2), .val (.int r5), .unset, .unset, .unset, .unset, .unset, .unset, .unset, .unset] [(.int r2)])) _
      refine XS.ifYes X0.here hx rfl (pc0 := 21) (pc' := 32) rfl (hb hby at_21) rfl ((if0 _ _).trans (feq hc21_7).2) (by decide) (by decide) ?_
      show Steps p.tables e below (s₁.setTop (mkF m 32 #[.val (.int p1), .val (.int r2), .val (.int r5), .unset, .unset, .unset, .unset, .unset, .unset, .unset, .unset] [])) _
      refine XS.iconst X0.here hx rfl (hb hby at_32) ?_
      subst hr9
      exact kz
  refine Goes.via j21_10 ?_
  refine Goes.via (S' := s₁.setTop (mkF m 34 #[.val (.int p1), .val (.int r2), .val (.int r5), .val (.int r9), .unset, .unset, .unset, .unset, .unset, .unset, .unset] [])) (fun tz kz => ?_) ?_
  · show Steps p.tables e below (s₁.setTop (mkF m 33 #[.val (.int p1), .val (.int r2), .val (.int r5), .unset, .unset, .unset, .unset, .unset, .unset, .unset, .unset] [(.int r9)])) _
    refine XS.istoreN X0.here hx rfl (hb hby at_33) rfl (l' := #[.val (.int p1), .val (.int r2), .val (.int r5), .val (.int r9), .unset, .unset, .unset, .unset, .unset, .unset, .unset]) rfl ?_
    exact kz
  obtain ⟨T11, X11, e11, st11⟩ := getS2 X0 hx hZ hown (host := "") (Or.inl (hw _ (List.mem_of_getElem? (i := 0) rfl))) Via.refl e0 S0 (g := (mkF m 34 #[.val (.int p1), .val (.int r2), .val (.int r5), .val (.int r9), .unset, .unset, .unset, .unset, .unset, .unset, .unset] [])) rfl (hb hby at_34)
  refine Goes.via (S' := T11.setTop (mkF m 37 #[.val (.int p1), .val (.int r2), .val (.int r5), .val (.int r9), .unset, .unset, .unset, .unset, .unset, .unset, .unset] [(.ref b0)])) st11 ?_
  refine Goes.via (S' := T11.setTop (mkF m 38 #[.val (.int p1), .val (.int r2), .val (.int r5), .val (.int r9), .unset, .unset, .unset, .unset, .unset, .unset, .unset] [(.int p1), (.ref b0)])) (fun tz kz => ?_) ?_
  · show Steps p.tables e below (T11.setTop (mkF m 37 #[.val (.int p1), .val (.int r2), .val (.int r5), .val (.int r9), .unset, .unset, .unset, .unset, .unset, .unset, .unset] [(.ref b0)])) _
    refine XS.iloadN X11.here hx rfl (hb hby at_37) rfl ?_
    exact kz
  obtain ⟨cq12, kq12, q12a, q12b, q12c⟩ := isOf hZ e11 E0
  obtain ⟨_, _, ⟨T12, L12, k12, n12⟩, -, X12, ⟨Lc12, hQ12, l12, y12, z12⟩, st12⟩ := X11.virtualBack hx (y := (⟨"com/example/vestline/vestline/payout/Comparison", "holds", "(I)Z"⟩ : MethodName)) (z := (⟨"com/example/vestline/vestline/payout/Comparison", "holds", "(I)Z"⟩ : MethodName)) hown (mvT hZ (hw _ (List.mem_of_getElem? (i := 3) rfl))) (mvT hZ (hw _ (List.mem_of_getElem? (i := 4) rfl))) (notFace_of_selects (args := #[]) (mvT hZ (hw _ (List.mem_of_getElem? (i := 6) rfl)))) (mvT hZ (hw _ (List.mem_of_getElem? (i := 6) rfl))) (mvT hZ (hw _ (List.mem_of_getElem? (i := 5) rfl))) (by decide) (backOf (W := 0) (rm1_0 l Z a0 hw [] b0 p1 h0 n0 Z0 E0 F0) hZ (hw _ (List.mem_of_getElem? (i := 7) rfl)) (hw _ (List.mem_of_getElem? (i := 1) rfl)) (by decide) (by decide)) q12a q12c (g := (mkF m 38 #[.val (.int p1), .val (.int r2), .val (.int r5), .val (.int r9), .unset, .unset, .unset, .unset, .unset, .unset, .unset] [(.int p1), (.ref b0)])) rfl (by rw [hml]; rfl) (Steps.refl _) (argsL := [(.int p1)]) (rest := []) (lenOf pd_1 rfl) rfl (by show 2 * 0 + _ ≤ _; exact Nat.le_of_eq rfl) (hb hby at_38) (fun _ _ => ⟨rfl, e11, (by decide : 0 + 0 ≤ _), (by decide : 0 + 0 ≤ _)⟩)
  dsimp only [Pt.U, Pt.locs, Pt.cells, Pt.slots] at X12 l12 y12 z12 st12 hQ12
  subst l12 y12 z12
  obtain ⟨rfl, N12, e12⟩ := hQ12
  have Nf12 := Fr.app N0 N12
  refine Goes.via (S' := T12.setTop (mkF m 41 #[.val (.int p1), .val (.int r2), .val (.int r5), .val (.int r9), .unset, .unset, .unset, .unset, .unset, .unset, .unset] [(.int (if p1 = (0 : Int32) then (1 : Int32) else 0))])) (fun _ kz => st12.trans kz) ?_
  refine Goes.via (S' := T12.setTop (mkF m 43 #[.val (.int p1), .val (.int r2), .val (.int r5), .val (.int r9), .val (.int (if p1 = (0 : Int32) then (1 : Int32) else 0)), .unset, .unset, .unset, .unset, .unset, .unset] [])) (fun tz kz => ?_) ?_
  · show Steps p.tables e below (T12.setTop (mkF m 41 #[.val (.int p1), .val (.int r2), .val (.int r5), .val (.int r9), .unset, .unset, .unset, .unset, .unset, .unset, .unset] [(.int (if p1 = (0 : Int32) then (1 : Int32) else 0))])) _
    refine XS.istore X12.here hx rfl (hb hby at_41) rfl (l' := #[.val (.int p1), .val (.int r2), .val (.int r5), .val (.int r9), .val (.int (if p1 = (0 : Int32) then (1 : Int32) else 0)), .unset, .unset, .unset, .unset, .unset, .unset]) rfl ?_
    exact kz
  obtain ⟨T13, X13, e13, st13⟩ := getS2 X12 hx hZ hown (host := "") (Or.inl (hw _ (List.mem_of_getElem? (i := 17) rfl))) Via.refl e12 S1 (g := (mkF m 43 #[.val (.int p1), .val (.int r2), .val (.int r5), .val (.int r9), .val (.int (if p1 = (0 : Int32) then (1 : Int32) else 0)), .unset, .unset, .unset, .unset, .unset, .unset] [])) rfl (hb hby at_43)
  refine Goes.via (S' := T13.setTop (mkF m 46 #[.val (.int p1), .val (.int r2), .val (.int r5), .val (.int r9), .val (.int (if p1 = (0 : Int32) then (1 : Int32) else 0)), .unset, .unset, .unset, .unset, .unset, .unset] [(.ref b1)])) st13 ?_
  refine Goes.via (S' := T13.setTop (mkF m 47 #[.val (.int p1), .val (.int r2), .val (.int r5), .val (.int r9), .val (.int (if p1 = (0 : Int32) then (1 : Int32) else 0)), .unset, .unset, .unset, .unset, .unset, .unset] [(.int p1), (.ref b1)])) (fun tz kz => ?_) ?_
  · show Steps p.tables e below (T13.setTop (mkF m 46 #[.val (.int p1), .val (.int r2), .val (.int r5), .val (.int r9), .val (.int (if p1 = (0 : Int32) then (1 : Int32) else 0)), .unset, .unset, .unset, .unset, .unset, .unset] [(.ref b1)])) _
    refine XS.iloadN X13.here hx rfl (hb hby at_46) rfl ?_
    exact kz
  obtain ⟨cq14, kq14, q14a, q14b, q14c⟩ := isOf hZ e13 E1
  obtain ⟨_, _, ⟨T14, L14, k14, n14⟩, -, X14, ⟨Lc14, hQ14, l14, y14, z14⟩, st14⟩ := X13.virtualBack hx (y := (⟨"com/example/vestline/vestline/payout/Comparison", "holds", "(I)Z"⟩ : MethodName)) (z := (⟨"com/example/vestline/vestline/payout/Comparison", "holds", "(I)Z"⟩ : MethodName)) hown (mvT hZ (hw _ (List.mem_of_getElem? (i := 3) rfl))) (mvT hZ (hw _ (List.mem_of_getElem? (i := 4) rfl))) (notFace_of_selects (args := #[]) (mvT hZ (hw _ (List.mem_of_getElem? (i := 6) rfl)))) (mvT hZ (hw _ (List.mem_of_getElem? (i := 6) rfl))) (mvT hZ (hw _ (List.mem_of_getElem? (i := 5) rfl))) (by decide) (backOf (W := 0) (rm1_1 l Z a0 hw [] b1 p1 h0 n0 Z0 E1 F1) hZ (hw _ (List.mem_of_getElem? (i := 7) rfl)) (hw _ (List.mem_of_getElem? (i := 1) rfl)) (by decide) (by decide)) q14a q14c (g := (mkF m 47 #[.val (.int p1), .val (.int r2), .val (.int r5), .val (.int r9), .val (.int (if p1 = (0 : Int32) then (1 : Int32) else 0)), .unset, .unset, .unset, .unset, .unset, .unset] [(.int p1), (.ref b1)])) rfl (by rw [hml]; rfl) (Steps.refl _) (argsL := [(.int p1)]) (rest := []) (lenOf pd_1 rfl) rfl (by show 2 * 0 + _ ≤ _; exact Nat.le_of_eq rfl) (hb hby at_47) (fun _ _ => ⟨rfl, e13, (by decide : 0 + 0 ≤ _), (by decide : 0 + 0 ≤ _)⟩)
  dsimp only [Pt.U, Pt.locs, Pt.cells, Pt.slots] at X14 l14 y14 z14 st14 hQ14
  subst l14 y14 z14
  obtain ⟨rfl, N14, e14⟩ := hQ14
  have Nf14 := Fr.app Nf12 N14
  refine Goes.via (S' := T14.setTop (mkF m 50 #[.val (.int p1), .val (.int r2), .val (.int r5), .val (.int r9), .val (.int (if p1 = (0 : Int32) then (1 : Int32) else 0)), .unset, .unset, .unset, .unset, .unset, .unset] [(.int (if (0 : Int32) < p1 then (1 : Int32) else 0))])) (fun _ kz => st14.trans kz) ?_
  refine Goes.via (S' := T14.setTop (mkF m 52 #[.val (.int p1), .val (.int r2), .val (.int r5), .val (.int r9), .val (.int (if p1 = (0 : Int32) then (1 : Int32) else 0)), .val (.int (if (0 : Int32) < p1 then (1 : Int32) else 0)), .unset, .unset, .unset, .unset, .unset] [])) (fun tz kz => ?_) ?_
  · show Steps p.tables e below (T14.setTop (mkF m 50 #[.val (.int p1), .val (.int r2), .val (.int r5), .val (.int r9), .val (.int (if p1 = (0 : Int32) then (1 : Int32) else 0)), .unset, .unset, .unset, .unset, .unset, .unset] [(.int (if (0 : Int32) < p1 then (1 : Int32) else 0))])) _
    refine XS.istore X14.here hx rfl (hb hby at_50) rfl (l' := #[.val (.int p1), .val (.int r2), .val (.int r5), .val (.int r9), .val (.int (if p1 = (0 : Int32) then (1 : Int32) else 0)), .val (.int (if (0 : Int32) < p1 then (1 : Int32) else 0)), .unset, .unset, .unset, .unset, .unset]) rfl ?_
    exact kz
  obtain ⟨T15, X15, e15, st15⟩ := getS2 X14 hx hZ hown (host := "") (Or.inl (hw _ (List.mem_of_getElem? (i := 19) rfl))) Via.refl e14 S2 (g := (mkF m 52 #[.val (.int p1), .val (.int r2), .val (.int r5), .val (.int r9), .val (.int (if p1 = (0 : Int32) then (1 : Int32) else 0)), .val (.int (if (0 : Int32) < p1 then (1 : Int32) else 0)), .unset, .unset, .unset, .unset, .unset] [])) rfl (hb hby at_52)
  refine Goes.via (S' := T15.setTop (mkF m 55 #[.val (.int p1), .val (.int r2), .val (.int r5), .val (.int r9), .val (.int (if p1 = (0 : Int32) then (1 : Int32) else 0)), .val (.int (if (0 : Int32) < p1 then (1 : Int32) else 0)), .unset, .unset, .unset, .unset, .unset] [(.ref b2)])) st15 ?_
  refine Goes.via (S' := T15.setTop (mkF m 56 #[.val (.int p1), .val (.int r2), .val (.int r5), .val (.int r9), .val (.int (if p1 = (0 : Int32) then (1 : Int32) else 0)), .val (.int (if (0 : Int32) < p1 then (1 : Int32) else 0)), .unset, .unset, .unset, .unset, .unset] [(.int p1), (.ref b2)])) (fun tz kz => ?_) ?_
  · show Steps p.tables e below (T15.setTop (mkF m 55 #[.val (.int p1), .val (.int r2), .val (.int r5), .val (.int r9), .val (.int (if p1 = (0 : Int32) then (1 : Int32) else 0)), .val (.int (if (0 : Int32) < p1 then (1 : Int32) else 0)), .unset, .unset, .unset, .unset, .unset] [(.ref b2)])) _
    refine XS.iloadN X15.here hx rfl (hb hby at_55) rfl ?_
    exact kz
  obtain ⟨cq16, kq16, q16a, q16b, q16c⟩ := isOf hZ e15 E2
  obtain ⟨_, _, ⟨T16, L16, k16, n16⟩, -, X16, ⟨Lc16, hQ16, l16, y16, z16⟩, st16⟩ := X15.virtualBack hx (y := (⟨"com/example/vestline/vestline/payout/Comparison", "holds", "(I)Z"⟩ : MethodName)) (z := (⟨"com/example/vestline/vestline/payout/Comparison", "holds", "(I)Z"⟩ : MethodName)) hown (mvT hZ (hw _ (List.mem_of_getElem? (i := 3) rfl))) (mvT hZ (hw _ (List.mem_of_getElem? (i := 4) rfl))) (notFace_of_selects (args := #[]) (mvT hZ (hw _ (List.mem_of_getElem? (i := 6) rfl)))) (mvT hZ (hw _ (List.mem_of_getElem? (i := 6) rfl))) (mvT hZ (hw _ (List.mem_of_getElem? (i := 5) rfl))) (by decide) (backOf (W := 0) (rm1_2 l Z a0 hw [] b2 p1 h0 n0 Z0 E2 F2) hZ (hw _ (List.mem_of_getElem? (i := 7) rfl)) (hw _ (List.mem_of_getElem? (i := 1) rfl)) (by decide) (by decide)) q16a q16c (g := (mkF m 56 #[.val (.int p1), .val (.int r2), .val (.int r5), .val (.int r9), .val (.int (if p1 = (0 : Int32) then (1 : Int32) else 0)), .val (.int (if (0 : Int32) < p1 then (1 : Int32) else 0)), .unset, .unset, .unset, .unset, .unset] [(.int p1), (.ref b2)])) rfl (by rw [hml]; rfl) (Steps.refl _) (argsL := [(.int p1)]) (rest := []) (lenOf pd_1 rfl) rfl (by show 2 * 0 + _ ≤ _; exact Nat.le_of_eq rfl) (hb hby at_56) (fun _ _ => ⟨rfl, e15, (by decide : 0 + 0 ≤ _), (by decide : 0 + 0 ≤ _)⟩)
  dsimp only [Pt.U, Pt.locs, Pt.cells, Pt.slots] at X16 l16 y16 z16 st16 hQ16
  subst l16 y16 z16
  obtain ⟨rfl, N16, e16⟩ := hQ16
  have Nf16 := Fr.app Nf14 N16
  refine Goes.via (S' := T16.setTop (mkF m 59 #[.val (.int p1), .val (.int r2), .val (.int r5), .val (.int r9), .val (.int (if p1 = (0 : Int32) then (1 : Int32) else 0)), .val (.int (if (0 : Int32) < p1 then (1 : Int32) else 0)), .unset, .unset, .unset, .unset, .unset] [(.int (if p1 < (0 : Int32) then (0 : Int32) else 1))])) (fun _ kz => st16.trans kz) ?_
  refine Goes.via (S' := T16.setTop (mkF m 61 #[.val (.int p1), .val (.int r2), .val (.int r5), .val (.int r9), .val (.int (if p1 = (0 : Int32) then (1 : Int32) else 0)), .val (.int (if (0 : Int32) < p1 then (1 : Int32) else 0)), .val (.int (if p1 < (0 : Int32) then (0 : Int32) else 1)), .unset, .unset, .unset, .unset] [])) (fun tz kz => ?_) ?_
  · show Steps p.tables e below (T16.setTop (mkF m 59 #[.val (.int p1), .val (.int r2), .val (.int r5), .val (.int r9), .val (.int (if p1 = (0 : Int32) then (1 : Int32) else 0)), .val (.int (if (0 : Int32) < p1 then (1 : Int32) else 0)), .unset, .unset, .unset, .unset, .unset] [(.int (if p1 < (0 : Int32) then (0 : Int32) else 1))])) _
    refine XS.istore X16.here hx rfl (hb hby at_59) rfl (l' := #[.val (.int p1), .val (.int r2), .val (.int r5), .val (.int r9), .val (.int (if p1 = (0 : Int32) then (1 : Int32) else 0)), .val (.int (if (0 : Int32) < p1 then (1 : Int32) else 0)), .val (.int (if p1 < (0 : Int32) then (0 : Int32) else 1)), .unset, .unset, .unset, .unset]) rfl ?_
    exact kz
  obtain ⟨T17, X17, e17, st17⟩ := getS2 X16 hx hZ hown (host := "") (Or.inl (hw _ (List.mem_of_getElem? (i := 21) rfl))) Via.refl e16 S3 (g := (mkF m 61 #[.val (.int p1), .val (.int r2), .val (.int r5), .val (.int r9), .val (.int (if p1 = (0 : Int32) then (1 : Int32) else 0)), .val (.int (if (0 : Int32) < p1 then (1 : Int32) else 0)), .val (.int (if p1 < (0 : Int32) then (0 : Int32) else 1)), .unset, .unset, .unset, .unset] [])) rfl (hb hby at_61)
  refine Goes.via (S' := T17.setTop (mkF m 64 #[.val (.int p1), .val (.int r2), .val (.int r5), .val (.int r9), .val (.int (if p1 = (0 : Int32) then (1 : Int32) else 0)), .val (.int (if (0 : Int32) < p1 then (1 : Int32) else 0)), .val (.int (if p1 < (0 : Int32) then (0 : Int32) else 1)), .unset, .unset, .unset, .unset] [(.ref b3)])) st17 ?_
  refine Goes.via (S' := T17.setTop (mkF m 65 #[.val (.int p1), .val (.int r2), .val (.int r5), .val (.int r9), .val (.int (if p1 = (0 : Int32) then (1 : Int32) else 0)), .val (.int (if (0 : Int32) < p1 then (1 : Int32) else 0)), .val (.int (if p1 < (0 : Int32) then (0 : Int32) else 1)), .unset, .unset, .unset, .unset] [(.int p1), (.ref b3)])) (fun tz kz => ?_) ?_
  · show Steps p.tables e below (T17.setTop (mkF m 64 #[.val (.int p1), .val (.int r2), .val (.int r5), .val (.int r9), .val (.int (if p1 = (0 : Int32) then (1 : Int32) else 0)), .val (.int (if (0 : Int32) < p1 then (1 : Int32) else 0)), .val (.int (if p1 < (0 : Int32) then (0 : Int32) else 1)), .unset, .unset, .unset, .unset] [(.ref b3)])) _
    refine XS.iloadN X17.here hx rfl (hb hby at_64) rfl ?_
    exact kz
  obtain ⟨cq18, kq18, q18a, q18b, q18c⟩ := isOf hZ e17 E3
  obtain ⟨_, _, ⟨T18, L18, k18, n18⟩, -, X18, ⟨Lc18, hQ18, l18, y18, z18⟩, st18⟩ := X17.virtualBack hx (y := (⟨"com/example/vestline/vestline/payout/Comparison", "holds", "(I)Z"⟩ : MethodName)) (z := (⟨"com/example/vestline/vestline/payout/Comparison", "holds", "(I)Z"⟩ : MethodName)) hown (mvT hZ (hw _ (List.mem_of_getElem? (i := 3) rfl))) (mvT hZ (hw _ (List.mem_of_getElem? (i := 4) rfl))) (notFace_of_selects (args := #[]) (mvT hZ (hw _ (List.mem_of_getElem? (i := 6) rfl)))) (mvT hZ (hw _ (List.mem_of_getElem? (i := 6) rfl))) (mvT hZ (hw _ (List.mem_of_getElem? (i := 5) rfl))) (by decide) (backOf (W := 0) (rm1_3 l Z a0 hw [] b3 p1 h0 n0 Z0 E3 F3) hZ (hw _ (List.mem_of_getElem? (i := 7) rfl)) (hw _ (List.mem_of_getElem? (i := 1) rfl)) (by decide) (by decide)) q18a q18c (g := (mkF m 65 #[.val (.int p1), .val (.int r2), .val (.int r5), .val (.int r9), .val (.int (if p1 = (0 : Int32) then (1 : Int32) else 0)), .val (.int (if (0 : Int32) < p1 then (1 : Int32) else 0)), .val (.int (if p1 < (0 : Int32) then (0 : Int32) else 1)), .unset, .unset, .unset, .unset] [(.int p1), (.ref b3)])) rfl (by rw [hml]; rfl) (Steps.refl _) (argsL := [(.int p1)]) (rest := []) (lenOf pd_1 rfl) rfl (by show 2 * 0 + _ ≤ _; exact Nat.le_of_eq rfl) (hb hby at_65) (fun _ _ => ⟨rfl, e17, (by decide : 0 + 0 ≤ _), (by decide : 0 + 0 ≤ _)⟩)
  dsimp only [Pt.U, Pt.locs, Pt.cells, Pt.slots] at X18 l18 y18 z18 st18 hQ18
  subst l18 y18 z18
  obtain ⟨rfl, N18, e18⟩ := hQ18
  have Nf18 := Fr.app Nf16 N18
  refine Goes.via (S' := T18.setTop (mkF m 68 #[.val (.int p1), .val (.int r2), .val (.int r5), .val (.int r9), .val (.int (if p1 = (0 : Int32) then (1 : Int32) else 0)), .val (.int (if (0 : Int32) < p1 then (1 : Int32) else 0)), .val (.int (if p1 < (0 : Int32) then (0 : Int32) else 1)), .unset, .unset, .unset, .unset] [(.int (if p1 < (0 : Int32) then (1 : Int32) else 0))])) (fun _ kz => st18.trans kz) ?_
  refine Goes.via (S' := T18.setTop (mkF m 70 #[.val (.int p1), .val (.int r2), .val (.int r5), .val (.int r9), .val (.int (if p1 = (0 : Int32) then (1 : Int32) else 0)), .val (.int (if (0 : Int32) < p1 then (1 : Int32) else 0)), .val (.int (if p1 < (0 : Int32) then (0 : Int32) else 1)), .val (.int (if p1 < (0 : Int32) then (1 : Int32) else 0)), .unset, .unset, .unset] [])) (fun tz kz => ?_) ?_
  · show Steps p.tables e below (T18.setTop (mkF m 68 #[.val (.int p1), .val (.int r2), .val (.int r5), .val (.int r9), .val (.int (if p1 = (0 : Int32) then (1 : Int32) else 0)), .val (.int (if (0 : Int32) < p1 then (1 : Int32) else 0)), .val (.int (if p1 < (0 : Int32) then (0 : Int32) else 1)), .unset, .unset, .unset, .unset] [(.int (if p1 < (0 : Int32) then (1 : Int32) else 0))])) _
    refine XS.istore X18.here hx rfl (hb hby at_68) rfl (l' := #[.val (.int p1), .val (.int r2), .val (.int r5), .val (.int r9), .val (.int (if p1 = (0 : Int32) then (1 : Int32) else 0)), .val (.int (if (0 : Int32) < p1 then (1 : Int32) else 0)), .val (.int (if p1 < (0 : Int32) then (0 : Int32) else 1)), .val (.int (if p1 < (0 : Int32) then (1 : Int32) else 0)), .unset, .unset, .unset]) rfl ?_
    exact kz
  obtain ⟨T19, X19, e19, st19⟩ := getS2 X18 hx hZ hown (host := "") (Or.inl (hw _ (List.mem_of_getElem? (i := 23) rfl))) Via.refl e18 S4 (g := (mkF m 70 #[.val (.int p1), .val (.int r2), .val (.int r5), .val (.int r9), .val (.int (if p1 = (0 : Int32) then (1 : Int32) else 0)), .val (.int (if (0 : Int32) < p1 then (1 : Int32) else 0)), .val (.int (if p1 < (0 : Int32) then (0 : Int32) else 1)), .val (.int (if p1 < (0 : Int32) then (1 : Int32) else 0)), .unset, .unset, .unset] [])) rfl (hb hby at_70)
  refine Goes.via (S' := T19.setTop (mkF m 73 #[.val (.int p1), .val (.int r2), .val (.int r5), .val (.int r9), .val (.int (if p1 = (0 : Int32) then (1 : Int32) else 0)), .val (.int (if (0 : Int32) < p1 then (1 : Int32) else 0)), .val (.int (if p1 < (0 : Int32) then (0 : Int32) else 1)), .val (.int (if p1 < (0 : Int32) then (1 : Int32) else 0)), .unset, .unset, .unset] [(.ref b4)])) st19 ?_
  refine Goes.via (S' := T19.setTop (mkF m 74 #[.val (.int p1), .val (.int r2), .val (.int r5), .val (.int r9), .val (.int (if p1 = (0 : Int32) then (1 : Int32) else 0)), .val (.int (if (0 : Int32) < p1 then (1 : Int32) else 0)), .val (.int (if p1 < (0 : Int32) then (0 : Int32) else 1)), .val (.int (if p1 < (0 : Int32) then (1 : Int32) else 0)), .unset, .unset, .unset] [(.int p1), (.ref b4)])) (fun tz kz => ?_) ?_
  · show Steps p.tables e below (T19.setTop (mkF m 73 #[.val (.int p1), .val (.int r2), .val (.int r5), .val (.int r9), .val (.int (if p1 = (0 : Int32) then (1 : Int32) else 0)), .val (.int (if (0 : Int32) < p1 then (1 : Int32) else 0)), .val (.int (if p1 < (0 : Int32) then (0 : Int32) else 1)), .val (.int (if p1 < (0 : Int32) then (1 : Int32) else 0)), .unset, .unset, .unset] [(.ref b4)])) _
    refine XS.iloadN X19.here hx rfl (hb hby at_73) rfl ?_
    exact kz
  obtain ⟨cq20, kq20, q20a, q20b, q20c⟩ := isOf hZ e19 E4
  obtain ⟨_, _, ⟨T20, L20, k20, n20⟩, -, X20, ⟨Lc20, hQ20, l20, y20, z20⟩, st20⟩ := X19.virtualBack hx (y := (⟨"com/example/vestline/vestline/payout/Comparison", "holds", "(I)Z"⟩ : MethodName)) (z := (⟨"com/example/vestline/vestline/payout/Comparison", "holds", "(I)Z"⟩ : MethodName)) hown (mvT hZ (hw _ (List.mem_of_getElem? (i := 3) rfl))) (mvT hZ (hw _ (List.mem_of_getElem? (i := 4) rfl))) (notFace_of_selects (args := #[]) (mvT hZ (hw _ (List.mem_of_getElem? (i := 6) rfl)))) (mvT hZ (hw _ (List.mem_of_getElem? (i := 6) rfl))) (mvT hZ (hw _ (List.mem_of_getElem? (i := 5) rfl))) (by decide) (backOf (W := 0) (rm1_4 l Z a0 hw [] b4 p1 h0 n0 Z0 E4 F4) hZ (hw _ (List.mem_of_getElem? (i := 7) rfl)) (hw _ (List.mem_of_getElem? (i := 1) rfl)) (by decide) (by decide)) q20a q20c (g := (mkF m 74 #[.val (.int p1), .val (.int r2), .val (.int r5), .val (.int r9), .val (.int (if p1 = (0 : Int32) then (1 : Int32) else 0)), .val (.int (if (0 : Int32) < p1 then (1 : Int32) else 0)), .val (.int (if p1 < (0 : Int32) then (0 : Int32) else 1)), .val (.int (if p1 < (0 : Int32) then (1 : Int32) else 0)), .unset, .unset, .unset] [(.int p1), (.ref b4)])) rfl (by rw [hml]; rfl) (Steps.refl _) (argsL := [(.int p1)]) (rest := []) (lenOf pd_1 rfl) rfl (by show 2 * 0 + _ ≤ _; exact Nat.le_of_eq rfl) (hb hby at_74) (fun _ _ => ⟨rfl, e19, (by decide : 0 + 0 ≤ _), (by decide : 0 + 0 ≤ _)⟩)
  dsimp only [Pt.U, Pt.locs, Pt.cells, Pt.slots] at X20 l20 y20 z20 st20 hQ20
  subst l20 y20 z20
  obtain ⟨rfl, N20, e20⟩ := hQ20
  have Nf20 := Fr.app Nf18 N20
  refine Goes.via (S' := T20.setTop (mkF m 77 #[.val (.int p1), .val (.int r2), .val (.int r5), .val (.int r9), .val (.int (if p1 = (0 : Int32) then (1 : Int32) else 0)), .val (.int (if (0 : Int32) < p1 then (1 : Int32) else 0)), .val (.int (if p1 < (0 : Int32) then (0 : Int32) else 1)), .val (.int (if p1 < (0 : Int32) then (1 : Int32) else 0)), .unset, .unset, .unset] [(.int (if (0 : Int32) < p1 then (0 : Int32) else 1))])) (fun _ kz => st20.trans kz) ?_
  refine Goes.via (S' := T20.setTop (mkF m 82 #[.val (.int p1), .val (.int r2), .val (.int r5), .val (.int r9), .val (.int (if p1 = (0 : Int32) then (1 : Int32) else 0)), .val (.int (if (0 : Int32) < p1 then (1 : Int32) else 0)), .val (.int (if p1 < (0 : Int32) then (0 : Int32) else 1)), .val (.int (if p1 < (0 : Int32) then (1 : Int32) else 0)), .val (.int (if (0 : Int32) < p1 then (0 : Int32) else 1)), .unset, .unset] [(.int r5), (.int (if p1 = (0 : Int32) then (1 : Int32) else 0))])) (fun tz kz => ?_) ?_
  · show Steps p.tables e below (T20.setTop (mkF m 77 #[.val (.int p1), .val (.int r2), .val (.int r5), .val (.int r9), .val (.int (if p1 = (0 : Int32) then (1 : Int32) else 0)), .val (.int (if (0 : Int32) < p1 then (1 : Int32) else 0)), .val (.int (if p1 < (0 : Int32) then (0 : Int32) else 1)), .val (.int (if p1 < (0 : Int32) then (1 : Int32) else 0)), .unset, .unset, .unset] [(.int (if (0 : Int32) < p1 then (0 : Int32) else 1))])) _
    refine XS.istore X20.here hx rfl (hb hby at_77) rfl (l' := #[.val (.int p1), .val (.int r2), .val (.int r5), .val (.int r9), .val (.int (if p1 = (0 : Int32) then (1 : Int32) else 0)), .val (.int (if (0 : Int32) < p1 then (1 : Int32) else 0)), .val (.int (if p1 < (0 : Int32) then (0 : Int32) else 1)), .val (.int (if p1 < (0 : Int32) then (1 : Int32) else 0)), .val (.int (if (0 : Int32) < p1 then (0 : Int32) else 1)), .unset, .unset]) rfl ?_
    show Steps p.tables e below (T20.setTop (mkF m 79 #[.val (.int p1), .val (.int r2), .val (.int r5), .val (.int r9), .val (.int (if p1 = (0 : Int32) then (1 : Int32) else 0)), .val (.int (if (0 : Int32) < p1 then (1 : Int32) else 0)), .val (.int (if p1 < (0 : Int32) then (0 : Int32) else 1)), .val (.int (if p1 < (0 : Int32) then (1 : Int32) else 0)), .val (.int (if (0 : Int32) < p1 then (0 : Int32) else 1)), .unset, .unset] [])) _
    refine XS.iload X20.here hx rfl (hb hby at_79) rfl ?_
    show Steps p.tables e below (T20.setTop (mkF m 81 #[.val (.int p1), .val (.int r2), .val (.int r5), .val (.int r9), .val (.int (if p1 = (0 : Int32) then (1 : Int32) else 0)), .val (.int (if (0 : Int32) < p1 then (1 : Int32) else 0)), .val (.int (if p1 < (0 : Int32) then (0 : Int32) else 1)), .val (.int (if p1 < (0 : Int32) then (1 : Int32) else 0)), .val (.int (if (0 : Int32) < p1 then (0 : Int32) else 1)), .unset, .unset] [(.int (if p1 = (0 : Int32) then (1 : Int32) else 0))])) _
    refine XS.iloadN X20.here hx rfl (hb hby at_81) rfl ?_
    exact kz
  obtain ⟨r22, hr22⟩ : ∃ z : Int32, z = (if (if p1 = (0 : Int32) then (1 : Int32) else 0) = r5 then (1 : Int32) else (0 : Int32)) := ⟨_, rfl⟩
  have j82_23 : ∀ t, Steps p.tables e below (T20.setTop (mkF m 90 #[.val (.int p1), .val (.int r2), .val (.int r5), .val (.int r9), .val (.int (if p1 = (0 : Int32) then (1 : Int32) else 0)), .val (.int (if (0 : Int32) < p1 then (1 : Int32) else 0)), .val (.int (if p1 < (0 : Int32) then (0 : Int32) else 1)), .val (.int (if p1 < (0 : Int32) then (1 : Int32) else 0)), .val (.int (if (0 : Int32) < p1 then (0 : Int32) else 1)), .unset, .unset] [(.int r22)])) t → Steps p.tables e below (T20.setTop (mkF m 82 #[.val (.int p1), .val (.int r2), .val (.int r5), .val (.int r9), .val (.int (if p1 = (0 : Int32) then (1 : Int32) else 0)), .val (.int (if (0 : Int32) < p1 then (1 : Int32) else 0)), .val (.int (if p1 < (0 : Int32) then (0 : Int32) else 1)), .val (.int (if p1 < (0 : Int32) then (1 : Int32) else 0)), .val (.int (if (0 : Int32) < p1 then (0 : Int32) else 1)), .unset, .unset] [(.int r5), (.int (if p1 = (0 : Int32) then (1 : Int32) else 0))])) t := by
    intro tz kz
    by_cases hc82_21 : (if p1 = (0 : Int32) then (1 : Int32) else 0) = r5
    · rw [if_pos hc82_21] at hr22
      show Steps p.tables e below (T20.setTop (mkF m 82 #[.val (.int p1), .val (.int r2), .val (.int r5), .val (.int r9), .val (.int (if p1 = (0 : Int32) then (1 : Int32) else 0)), .val (.int (if (0 : Int32) < p1 then (1 : Int32) else 0)), .val (.int (if p1 < (0 : Int32) then (0 : Int32) else 1)), .val (.int (if p1 < (0 : Int32) then (1 : Int32) else 0)), .val (.int (if (0 : Int32) < p1 then (0 : Int32) else 1)), .unset, .unset] [(.int r5), (.int (if p1 = (0 : Int32) then (1 : Int32) else 0))])) _
      refine XS.icmpNo X20.here hx rfl (hb hby at_82) rfl (teq hc82_21).2 ?_
      show Steps p.tables e below (T20.setTop (mkF m 85 #[.val (.int p1), .val (.int r2), .val (.int r5), .val (.int r9), .val (.int (if p1 = (0 : Int32) then (1 : Int32) else 0)), .val (.int (if (0 : Int32) < p1 then (1 : Int32) else 0)), .val (.int (if p1 < (0 : Int32) then (0 : Int32) else 1)), .val (.int (if p1 < (0 : Int32) then (1 : Int32) else 0)), .val (.int (if (0 : Int32) < p1 then (0 : Int32) else 1)), .unset, .unset] [])) _
      refine XS.iconst X20.here hx rfl (hb hby at_85) ?_
      show Steps p.tables e below (T20.setTop (mkF m 86 #[.val (.int p1), .val (.int r2), .val (.int r5), .val (.int r9), .val (.int (if p1 = (0 : Int32) then (1 : Int32) else 0)), .val (.int (if (0 : Int32) < p1 then (1 : Int32) else 0)), .val (.int (if p1 < (0 : Int32) then (0 : Int32) else 1)), .val (.int (if p1 < (0 : Int32) then (1 : Int32) else 0)), .val (.int (if (0 : Int32) < p1 then (0 : Int32) else 1)), .unset, .unset] [(.int (1 : Int32))])) _
      refine XS.goto X20.here hx rfl (pc0 := 86) (pc' := 90) rfl (hb hby at_86) (by decide) (by decide) ?_
      subst hr22
      exact kz
    · rw [if_neg hc82_21] at hr22
      show Steps p.tables e below (T20.setTop (mkF m 82 #[.val (.int p1), .val (.int r2), .val (.int r5), .val (.int r9), .val (.int (if p1 = (0 : Int32) then (1 : Int32) else 0)), .val (.int (if (0 : Int32) < p1 then (1 : Int32) else 0)), .val (.int (if p1 < (0 : Int32) then (0 : Int32) else 1)), .val (.int (if p1 < (0 : Int32) then (1 : Int32) else 0)), .val (.int (if (0 : Int32) < p1 then (0 : Int32) else 1)), .unset, .unset] [(.int r5), (.int (if p1 = (0 : Int32) then (1 : Int32) else 0))])) _
      refine XS.icmpYes X20.here hx rfl (pc0 := 82) (pc' := 89) rfl (hb hby at_82) rfl (feq hc82_21).2 (by decide) (by decide) ?_
      show Steps p.tables e below (T20.setTop (mkF m 89 #[.val (.int p1), .val (.int r2), .val (.int r5), .val (.int r9), .val (.int (if p1 = (0 : Int32) then (1 : Int32) else 0)), .val (.int (if (0 : Int32) < p1 then (1 : Int32) else 0)), .val (.int (if p1 < (0 : Int32) then (0 : Int32) else 1)), .val (.int (if p1 < (0 : Int32) then (1 : Int32) else 0)), .val (.int (if (0 : Int32) < p1 then (0 : Int32) else 1)), .unset, .unset] [])) _
      refine XS.iconst X20.here hx rfl (hb hby at_89) ?_
      subst hr22
      exact kz
  refine Goes.via j82_23 ?_
  refine Goes.via (S' := T20.setTop (mkF m 94 #[.val (.int p1), .val (.int r2), .val (.int r5), .val (.int r9), .val (.int (if p1 = (0 : Int32) then (1 : Int32) else 0)), .val (.int (if (0 : Int32) < p1 then (1 : Int32) else 0)), .val (.int (if p1 < (0 : Int32) then (0 : Int32) else 1)), .val (.int (if p1 < (0 : Int32) then (1 : Int32) else 0)), .val (.int (if (0 : Int32) < p1 then (0 : Int32) else 1)), .val (.int r22), .unset] [(.int r22)])) (fun tz kz => ?_) ?_
  · show Steps p.tables e below (T20.setTop (mkF m 90 #[.val (.int p1), .val (.int r2), .val (.int r5), .val (.int r9), .val (.int (if p1 = (0 : Int32) then (1 : Int32) else 0)), .val (.int (if (0 : Int32) < p1 then (1 : Int32) else 0)), .val (.int (if p1 < (0 : Int32) then (0 : Int32) else 1)), .val (.int (if p1 < (0 : Int32) then (1 : Int32) else 0)), .val (.int (if (0 : Int32) < p1 then (0 : Int32) else 1)), .unset, .unset] [(.int r22)])) _
    refine XS.istore X20.here hx rfl (hb hby at_90) rfl (l' := #[.val (.int p1), .val (.int r2), .val (.int r5), .val (.int r9), .val (.int (if p1 = (0 : Int32) then (1 : Int32) else 0)), .val (.int (if (0 : Int32) < p1 then (1 : Int32) else 0)), .val (.int (if p1 < (0 : Int32) then (0 : Int32) else 1)), .val (.int (if p1 < (0 : Int32) then (1 : Int32) else 0)), .val (.int (if (0 : Int32) < p1 then (0 : Int32) else 1)), .val (.int r22), .unset]) rfl ?_
    show Steps p.tables e below (T20.setTop (mkF m 92 #[.val (.int p1), .val (.int r2), .val (.int r5), .val (.int r9), .val (.int (if p1 = (0 : Int32) then (1 : Int32) else 0)), .val (.int (if (0 : Int32) < p1 then (1 : Int32) else 0)), .val (.int (if p1 < (0 : Int32) then (0 : Int32) else 1)), .val (.int (if p1 < (0 : Int32) then (1 : Int32) else 0)), .val (.int (if (0 : Int32) < p1 then (0 : Int32) else 1)), .val (.int r22), .unset] [])) _
    refine XS.iload X20.here hx rfl (hb hby at_92) rfl ?_
    exact kz
  obtain ⟨r26, hr26⟩ : ∃ z : Int32, z = (if r22 = (0 : Int32) then (0 : Int32) else (if (if (0 : Int32) < p1 then (1 : Int32) else 0) = r9 then (1 : Int32) else (0 : Int32))) := ⟨_, rfl⟩
  have j94_27 : ∀ t, Steps p.tables e below (T20.setTop (mkF m 108 #[.val (.int p1), .val (.int r2), .val (.int r5), .val (.int r9), .val (.int (if p1 = (0 : Int32) then (1 : Int32) else 0)), .val (.int (if (0 : Int32) < p1 then (1 : Int32) else 0)), .val (.int (if p1 < (0 : Int32) then (0 : Int32) else 1)), .val (.int (if p1 < (0 : Int32) then (1 : Int32) else 0)), .val (.int (if (0 : Int32) < p1 then (0 : Int32) else 1)), .val (.int r22), .unset] [(.int r26)])) t → Steps p.tables e below (T20.setTop (mkF m 94 #[.val (.int p1), .val (.int r2), .val (.int r5), .val (.int r9), .val (.int (if p1 = (0 : Int32) then (1 : Int32) else 0)), .val (.int (if (0 : Int32) < p1 then (1 : Int32) else 0)), .val (.int (if p1 < (0 : Int32) then (0 : Int32) else 1)), .val (.int (if p1 < (0 : Int32) then (1 : Int32) else 0)), .val (.int (if (0 : Int32) < p1 then (0 : Int32) else 1)), .val (.int r22), .unset] [(.int r22)])) t := by
    intro tz kz
    by_cases hc94_24 : r22 = (0 : Int32)
    · rw [if_pos hc94_24] at hr26
      show Steps p.tables e below (T20.setTop (mkF m 94 #[.val (.int p1), .val (.int r2), .val (.int r5), .val (.int r9), .val (.int (if p1 = (0 : Int32) then (1 : Int32) else 0)), .val (.int (if (0 : Int32) < p1 then (1 : Int32) else 0)), .val (.int (if p1 < (0 : Int32) then (0 : Int32) else 1)), .val (.int (if p1 < (0 : Int32) then (1 : Int32) else 0)), .val (.int (if (0 : Int32) < p1 then (0 : Int32) else 1)), .val (.int r22), .unset] [(.int r22)])) _
      refine XS.ifYes X20.here hx rfl (pc0 := 94) (pc' := 107) rfl (hb hby at_94) rfl ((if0 _ _).trans (teq hc94_24).1) (by decide) (by decide) ?_
      show Steps p.tables e below (T20.setTop (mkF m 107 #[.val (.int p1), .val (.int r2), .val (.int r5), .val (.int r9), .val (.int (if p1 = (0 : Int32) then (1 : Int32) else 0)), .val (.int (if (0 : Int32) < p1 then (1 : Int32) else 0)), .val (.int (if p1 < (0 : Int32) then (0 : Int32) else 1)), .val (.int (if p1 < (0 : Int32) then (1 : Int32) else 0)), .val (.int (if (0 : Int32) < p1 then (0 : Int32) else 1)), .val (.int r22), .unset] [])) _
      refine XS.iconst X20.here hx rfl (hb hby at_107) ?_
      subst hr26
      exact kz
    · rw [if_neg hc94_24] at hr26
      show Steps p.tables e below (T20.setTop (mkF m 94 #[.val (.int p1), .val (.int r2), .val (.int r5), .val (.int r9), .val (.int (if p1 = (0 : Int32) then (1 : Int32) else 0)), .val (.int (if (0 : Int32) < p1 then (1 : Int32) else 0)), .val (.int (if p1 < (0 : Int32) then (0 : Int32) else 1)), .val (.int (if p1 < (0 : Int32) then (1 : Int32) else 0)), .val (.int (if (0 : Int32) < p1 then (0 : Int32) else 1)), .val (.int r22), .unset] [(.int r22)])) _
      refine XS.ifNo X20.here hx rfl (hb hby at_94) rfl ((if0 _ _).trans (feq hc94_24).1) ?_
      show Steps p.tables e below (T20.setTop (mkF m 97 #[.val (.int p1), .val (.int r2), .val (.int r5), .val (.int r9), .val (.int (if p1 = (0 : Int32) then (1 : Int32) else 0)), .val (.int (if (0 : Int32) < p1 then (1 : Int32) else 0)), .val (.int (if p1 < (0 : Int32) then (0 : Int32) else 1)), .val (.int (if p1 < (0 : Int32) then (1 : Int32) else 0)), .val (.int (if (0 : Int32) < p1 then (0 : Int32) else 1)), .val (.int r22), .unset] [])) _
      refine XS.iload X20.here hx rfl (hb hby at_97) rfl ?_
      show Steps p.tables e below (T20.setTop (mkF m 99 #[.val (.int p1), .val (.int r2), .val (.int r5), .val (.int r9), .val (.int (if p1 = (0 : Int32) then (1 : Int32) else 0)), .val (.int (if (0 : Int32) < p1 then (1 : Int32) else 0)), .val (.int (if p1 < (0 : Int32) then (0 : Int32) else 1)), .val (.int (if p1 < (0 : Int32) then (1 : Int32) else 0)), .val (.int (if (0 : Int32) < p1 then (0 : Int32) else 1)), .val (.int r22), .unset] [(.int (if (0 : Int32) < p1 then (1 : Int32) else 0))])) _
      refine XS.iloadN X20.here hx rfl (hb hby at_99) rfl ?_
      by_cases hc100_25 : (if (0 : Int32) < p1 then (1 : Int32) else 0) = r9
      · rw [if_pos hc100_25] at hr26
        show Steps p.tables e below (T20.setTop (mkF m 100 #[.val (.int p1), .val (.int r2), .val (.int r5), .val (.int r9), .val (.int (if p1 = (0 : Int32) then (1 : Int32) else 0)), .val (.int (if (0 : Int32) < p1 then (1 : Int32) else 0)), .val (.int (if p1 < (0 : Int32) then (0 : Int32) else 1)), .val (.int (if p1 < (0 : Int32) then (1 : Int32) else 0)), .val (.int (if (0 : Int32) < p1 then (0 : Int32) else 1)), .val (.int r22), .unset] [(.int r9), (.int (if (0 : Int32) < p1 then (1 : Int32) else 0))])) _
        refine XS.icmpNo X20.here hx rfl (hb hby at_100) rfl (teq hc100_25).2 ?_
        show Steps p.tables e below (T20.setTop (mkF m 103 #[.val (.int p1), .val (.int r2), .val (.int r5), .val (.int r9), .val (.int (if p1 = (0 : Int32) then (1 : Int32) else 0)), .val (.int (if (0 : Int32) < p1 then (1 : Int32) else 0)), .val (.int (if p1 < (0 : Int32) then (0 : Int32) else 1)), .val (.int (if p1 < (0 : Int32) then (1 : Int32) else 0)), .val (.int (if (0 : Int32) < p1 then (0 : Int32) else 1)), .val (.int r22), .unset] [])) _
        refine XS.iconst X20.here hx rfl (hb hby at_103) ?_
        show Steps p.tables e below (T20.setTop (mkF m 104 #[.val (.int p1), .val (.int r2), .val (.int r5), .val (.int r9), .val (.int (if p1 = (0 : Int32) then (1 : Int32) else 0)), .val (.int (if (0 : Int32) < p1 then (1 : Int32) else 0)), .val (.int (if p1 < (0 : Int32) then (0 : Int32) else 1)), .val (.int (if p1 < (0 : Int32) then (1 : Int32) else 0)), .val (.int (if (0 : Int32) < p1 then (0 : Int32) else 1)), .val (.int r22), .unset] [(.int (1 : Int32))])) _
        refine XS.goto X20.here hx rfl (pc0 := 104) (pc' := 108) rfl (hb hby at_104) (by decide) (by decide) ?_
        subst hr26
        exact kz
      · rw [if_neg hc100_25] at hr26
        show Steps p.tables e below (T20.setTop (mkF m 100 #[.val (.int p1), .val (.int r2), .val (.int r5), .val (.int r9), .val (.int (if p1 = (0 : Int32) then (1 : Int32) else 0)), .val (.int (if (0 : Int32) < p1 then (1 : Int32) else 0)), .val (.int (if p1 < (0 : Int32) then (0 : Int32) else 1)), .val (.int (if p1 < (0 : Int32) then (1 : Int32) else 0)), .val (.int (if (0 : Int32) < p1 then (0 : Int32) else 1)), .val (.int r22), .unset] [(.int r9), (.int (if (0 : Int32) < p1 then (1 : Int32) else 0))])) _
        refine XS.icmpYes X20.here hx rfl (pc0 := 100) (pc' := 107) rfl (hb hby at_100) rfl (feq hc100_25).2 (by decide) (by decide) ?_
        show Steps p.tables e below (T20.setTop (mkF m 107 #[.val (.int p1), .val (.int r2), .val (.int r5), .val (.int r9), .val (.int (if p1 = (0 : Int32) then (1 : Int32) else 0)), .val (.int (if (0 : Int32) < p1 then (1 : Int32) else 0)), .val (.int (if p1 < (0 : Int32) then (0 : Int32) else 1)), .val (.int (if p1 < (0 : Int32) then (1 : Int32) else 0)), .val (.int (if (0 : Int32) < p1 then (0 : Int32) else 1)), .val (.int r22), .unset] [])) _
        refine XS.iconst X20.here hx rfl (hb hby at_107) ?_
        subst hr26
        exact kz
  refine Goes.via j94_27 ?_
  refine Goes.via (S' := T20.setTop (mkF m 112 #[.val (.int p1), .val (.int r2), .val (.int r5), .val (.int r9), .val (.int (if p1 = (0 : Int32) then (1 : Int32) else 0)), .val (.int (if (0 : Int32) < p1 then (1 : Int32) else 0)), .val (.int (if p1 < (0 : Int32) then (0 : Int32) else 1)), .val (.int (if p1 < (0 : Int32) then (1 : Int32) else 0)), .val (.int (if (0 : Int32) < p1 then (0 : Int32) else 1)), .val (.int r26), .unset] [(.int r26)])) (fun tz kz => ?_) ?_
  · show Steps p.tables e below (T20.setTop (mkF m 108 #[.val (.int p1), .val (.int r2), .val (.int r5), .val (.int r9), .val (.int (if p1 = (0 : Int32) then (1 : Int32) else 0)), .val (.int (if (0 : Int32) < p1 then (1 : Int32) else 0)), .val (.int (if p1 < (0 : Int32) then (0 : Int32) else 1)), .val (.int (if p1 < (0 : Int32) then (1 : Int32) else 0)), .val (.int (if (0 : Int32) < p1 then (0 : Int32) else 1)), .val (.int r22), .unset] [(.int r26)])) _
    refine XS.istore X20.here hx rfl (hb hby at_108) rfl (l' := #[.val (.int p1), .val (.int r2), .val (.int r5), .val (.int r9), .val (.int (if p1 = (0 : Int32) then (1 : Int32) else 0)), .val (.int (if (0 : Int32) < p1 then (1 : Int32) else 0)), .val (.int (if p1 < (0 : Int32) then (0 : Int32) else 1)), .val (.int (if p1 < (0 : Int32) then (1 : Int32) else 0)), .val (.int (if (0 : Int32) < p1 then (0 : Int32) else 1)), .val (.int r26), .unset]) rfl ?_
    show Steps p.tables e below (T20.setTop (mkF m 110 #[.val (.int p1), .val (.int r2), .val (.int r5), .val (.int r9), .val (.int (if p1 = (0 : Int32) then (1 : Int32) else 0)), .val (.int (if (0 : Int32) < p1 then (1 : Int32) else 0)), .val (.int (if p1 < (0 : Int32) then (0 : Int32) else 1)), .val (.int (if p1 < (0 : Int32) then (1 : Int32) else 0)), .val (.int (if (0 : Int32) < p1 then (0 : Int32) else 1)), .val (.int r26), .unset] [])) _
    refine XS.iload X20.here hx rfl (hb hby at_110) rfl ?_
    exact kz
  obtain ⟨r34, hr34⟩ : ∃ z : Int32, z = (if r26 = (0 : Int32) then (0 : Int32) else (if r9 = (0 : Int32) then (if r5 = (0 : Int32) then (if (if p1 < (0 : Int32) then (0 : Int32) else 1) = (0 : Int32) then (1 : Int32) else (0 : Int32)) else (if (if p1 < (0 : Int32) then (0 : Int32) else 1) = (1 : Int32) then (1 : Int32) else (0 : Int32))) else (if (if p1 < (0 : Int32) then (0 : Int32) else 1) = (1 : Int32) then (1 : Int32) else (0 : Int32)))) := ⟨_, rfl⟩
  have j112_35 : ∀ t, Steps p.tables e below (T20.setTop (mkF m 138 #[.val (.int p1), .val (.int r2), .val (.int r5), .val (.int r9), .val (.int (if p1 = (0 : Int32) then (1 : Int32) else 0)), .val (.int (if (0 : Int32) < p1 then (1 : Int32) else 0)), .val (.int (if p1 < (0 : Int32) then (0 : Int32) else 1)), .val (.int (if p1 < (0 : Int32) then (1 : Int32) else 0)), .val (.int (if (0 : Int32) < p1 then (0 : Int32) else 1)), .val (.int r26), .unset] [(.int r34)])) t → Steps p.tables e below (T20.setTop (mkF m 112 #[.val (.int p1), .val (.int r2), .val (.int r5), .val (.int r9), .val (.int (if p1 = (0 : Int32) then (1 : Int32) else 0)), .val (.int (if (0 : Int32) < p1 then (1 : Int32) else 0)), .val (.int (if p1 < (0 : Int32) then (0 : Int32) else 1)), .val (.int (if p1 < (0 : Int32) then (1 : Int32) else 0)), .val (.int (if (0 : Int32) < p1 then (0 : Int32) else 1)), .val (.int r26), .unset] [(.int r26)])) t := by
    intro tz kz
    by_cases hc112_28 : r26 = (0 : Int32)
    · rw [if_pos hc112_28] at hr34
      show Steps p.tables e below (T20.setTop (mkF m 112 #[.val (.int p1), .val (.int r2), .val (.int r5), .val (.int r9), .val (.int (if p1 = (0 : Int32) then (1 : Int32) else 0)), .val (.int (if (0 : Int32) < p1 then (1 : Int32) else 0)), .val (.int (if p1 < (0 : Int32) then (0 : Int32) else 1)), .val (.int (if p1 < (0 : Int32) then (1 : Int32) else 0)), .val (.int (if (0 : Int32) < p1 then (0 : Int32) else 1)), .val (.int r26), .unset] [(.int r26)])) _
      refine XS.ifYes X20.here hx rfl (pc0 := 112) (pc' := 137) rfl (hb hby at_112) rfl ((if0 _ _).trans (teq hc112_28).1) (by decide) (by decide) ?_
      show Steps p.tables e below (T20.setTop (mkF m 137 #[.val (.int p1), .val (.int r2), .val (.int r5), .val (.int r9), .val (.int (if p1 = (0 : Int32) then (1 : Int32) else 0)), .val (.int (if (0 : Int32) < p1 then (1 : Int32) else 0)), .val (.int (if p1 < (0 : Int32) then (0 : Int32) else 1)), .val (.int (if p1 < (0 : Int32) then (1 : Int32) else 0)), .val (.int (if (0 : Int32) < p1 then (0 : Int32) else 1)), .val (.int r26), .unset] [])) _
      refine XS.iconst X20.here hx rfl (hb hby at_137) ?_
      subst hr34
      exact kz
    · rw [if_neg hc112_28] at hr34
      show Steps p.tables e below (T20.setTop (mkF m 112 #[.val (.int p1), .val (.int r2), .val (.int r5), .val (.int r9), .val (.int (if p1 = (0 : Int32) then (1 : Int32) else 0)), .val (.int (if (0 : Int32) < p1 then (1 : Int32) else 0)), .val (.int (if p1 < (0 : Int32) then (0 : Int32) else 1)), .val (.int (if p1 < (0 : Int32) then (1 : Int32) else 0)), .val (.int (if (0 : Int32) < p1 then (0 : Int32) else 1)), .val (.int r26), .unset] [(.int r26)])) _
      refine XS.ifNo X20.here hx rfl (hb hby at_112) rfl ((if0 _ _).trans (feq hc112_28).1) ?_
      show Steps p.tables e below (T20.setTop (mkF m 115 #[.val (.int p1), .val (.int r2), .val (.int r5), .val (.int r9), .val (.int (if p1 = (0 : Int32) then (1 : Int32) else 0)), .val (.int (if (0 : Int32) < p1 then (1 : Int32) else 0)), .val (.int (if p1 < (0 : Int32) then (0 : Int32) else 1)), .val (.int (if p1 < (0 : Int32) then (1 : Int32) else 0)), .val (.int (if (0 : Int32) < p1 then (0 : Int32) else 1)), .val (.int r26), .unset] [])) _
      refine XS.iload X20.here hx rfl (hb hby at_115) rfl ?_
      show Steps p.tables e below (T20.setTop (mkF m 117 #[.val (.int p1), .val (.int r2), .val (.int r5), .val (.int r9), .val (.int (if p1 = (0 : Int32) then (1 : Int32) else 0)), .val (.int (if (0 : Int32) < p1 then (1 : Int32) else 0)), .val (.int (if p1 < (0 : Int32) then (0 : Int32) else 1)), .val (.int (if p1 < (0 : Int32) then (1 : Int32) else 0)), .val (.int (if (0 : Int32) < p1 then (0 : Int32) else 1)), .val (.int r26), .unset] [(.int (if p1 < (0 : Int32) then (0 : Int32) else 1))])) _
      refine XS.iloadN X20.here hx rfl (hb hby at_117) rfl ?_
      by_cases hc118_29 : r9 = (0 : Int32)
      · rw [if_pos hc118_29] at hr34
        show Steps p.tables e below (T20.setTop (mkF m 118 #[.val (.int p1), .val (.int r2), .val (.int r5), .val (.int r9), .val (.int (if p1 = (0 : Int32) then (1 : Int32) else 0)), .val (.int (if (0 : Int32) < p1 then (1 : Int32) else 0)), .val (.int (if p1 < (0 : Int32) then (0 : Int32) else 1)), .val (.int (if p1 < (0 : Int32) then (1 : Int32) else 0)), .val (.int (if (0 : Int32) < p1 then (0 : Int32) else 1)), .val (.int r26), .unset] [(.int r9), (.int (if p1 < (0 : Int32) then (0 : Int32) else 1))])) _
        refine XS.ifNo X20.here hx rfl (hb hby at_118) rfl ((if0 _ _).trans (teq hc118_29).2) ?_
        show Steps p.tables e below (T20.setTop (mkF m 121 #[.val (.int p1), .val (.int r2), .val (.int r5), .val (.int r9), .val (.int (if p1 = (0 : Int32) then (1 : Int32) else 0)), .val (.int (if (0 : Int32) < p1 then (1 : Int32) else 0)), .val (.int (if p1 < (0 : Int32) then (0 : Int32) else 1)), .val (.int (if p1 < (0 : Int32) then (1 : Int32) else 0)), .val (.int (if (0 : Int32) < p1 then (0 : Int32) else 1)), .val (.int r26), .unset] [(.int (if p1 < (0 : Int32) then (0 : Int32) else 1))])) _
        refine XS.iloadN X20.here hx rfl (hb hby at_121) rfl ?_
        by_cases hc122_30 : r5 = (0 : Int32)
        · rw [if_pos hc122_30] at hr34
          show Steps p.tables e below (T20.setTop (mkF m 122 #[.val (.int p1), .val (.int r2), .val (.int r5), .val (.int r9), .val (.int (if p1 = (0 : Int32) then (1 : Int32) else 0)), .val (.int (if (0 : Int32) < p1 then (1 : Int32) else 0)), .val (.int (if p1 < (0 : Int32) then (0 : Int32) else 1)), .val (.int (if p1 < (0 : Int32) then (1 : Int32) else 0)), .val (.int (if (0 : Int32) < p1 then (0 : Int32) else 1)), .val (.int r26), .unset] [(.int r5), (.int (if p1 < (0 : Int32) then (0 : Int32) else 1))])) _
          refine XS.ifYes X20.here hx rfl (pc0 := 122) (pc' := 129) rfl (hb hby at_122) rfl ((if0 _ _).trans (teq hc122_30).1) (by decide) (by decide) ?_
          show Steps p.tables e below (T20.setTop (mkF m 129 #[.val (.int p1), .val (.int r2), .val (.int r5), .val (.int r9), .val (.int (if p1 = (0 : Int32) then (1 : Int32) else 0)), .val (.int (if (0 : Int32) < p1 then (1 : Int32) else 0)), .val (.int (if p1 < (0 : Int32) then (0 : Int32) else 1)), .val (.int (if p1 < (0 : Int32) then (1 : Int32) else 0)), .val (.int (if (0 : Int32) < p1 then (0 : Int32) else 1)), .val (.int r26), .unset] [(.int (if p1 < (0 : Int32) then (0 : Int32) else 1))])) _
          refine XS.iconst X20.here hx rfl (hb hby at_129) ?_
          by_cases hc130_31 : (if p1 < (0 : Int32) then (0 : Int32) else 1) = (0 : Int32)
          · rw [if_pos hc130_31] at hr34
            show Steps p.tables e below (T20.setTop (mkF m 130 #[.val (.int p1), .val (.int r2), .val (.int r5), .val (.int r9), .val (.int (if p1 = (0 : Int32) then (1 : Int32) else 0)), .val (.int (if (0 : Int32) < p1 then (1 : Int32) else 0)), .val (.int (if p1 < (0 : Int32) then (0 : Int32) else 1)), .val (.int (if p1 < (0 : Int32) then (1 : Int32) else 0)), .val (.int (if (0 : Int32) < p1 then (0 : Int32) else 1)), .val (.int r26), .unset] [(.int (0 : Int32)), (.int (if p1 < (0 : Int32) then (0 : Int32) else 1))])) _
            refine XS.icmpNo X20.here hx rfl (hb hby at_130) rfl (teq hc130_31).2 ?_
            show Steps p.tables e below (T20.setTop (mkF m 133 #[.val (.int p1), .val (.int r2), .val (.int r5), .val (.int r9), .val (.int (if p1 = (0 : Int32) then (1 : Int32) else 0)), .val (.int (if (0 : Int32) < p1 then (1 : Int32) else 0)), .val (.int (if p1 < (0 : Int32) then (0 : Int32) else 1)), .val (.int (if p1 < (0 : Int32) then (1 : Int32) else 0)), .val (.int (if (0 : Int32) < p1 then (0 : Int32) else 1)), .val (.int r26), .unset] [])) _
            refine XS.iconst X20.here hx rfl (hb hby at_133) ?_
            show Steps p.tables e below (T20.setTop (mkF m 134 #[.val (.int p1), .val (.int r2), .val (.int r5), .val (.int r9), .val (.int (if p1 = (0 : Int32) then (1 : Int32) else 0)), .val (.int (if (0 : Int32) < p1 then (1 : Int32) else 0)), .val (.int (if p1 < (0 : Int32) then (0 : Int32) else 1)), .val (.int (if p1 < (0 : Int32) then (1 : Int32) else 0)), .val (.int (if (0 : Int32) < p1 then (0 : Int32) else 1)), .val (.int r26), .unset] [(.int (1 : Int32))])) _
            refine XS.goto X20.here hx rfl (pc0 := 134) (pc' := 138) rfl (hb hby at_134) (by decide) (by decide) ?_
            subst hr34
            exact kz
          · rw [if_neg hc130_31] at hr34
            show Steps p.tables e below (T20.setTop (mkF m 130 #[.val (.int p1), .val (.int r2), .val (.int r5), .val (.int r9), .val (.int (if p1 = (0 : Int32) then (1 : Int32) else 0)), .val (.int (if (0 : Int32) < p1 then (1 : Int32) else 0)), .val (.int (if p1 < (0 : Int32) then (0 : Int32) else 1)), .val (.int (if p1 < (0 : Int32) then (1 : Int32) else 0)), .val (.int (if (0 : Int32) < p1 then (0 : Int32) else 1)), .val (.int r26), .unset] [(.int (0 : Int32)), (.int (if p1 < (0 : Int32) then (0 : Int32) else 1))])) _
            refine XS.icmpYes X20.here hx rfl (pc0 := 130) (pc' := 137) rfl (hb hby at_130) rfl (feq hc130_31).2 (by decide) (by decide) ?_
            show Steps p.tables e below (T20.setTop (mkF m 137 #[.val (.int p1), .val (.int r2), .val (.int r5), .val (.int r9), .val (.int (if p1 = (0 : Int32) then (1 : Int32) else 0)), .val (.int (if (0 : Int32) < p1 then (1 : Int32) else 0)), .val (.int (if p1 < (0 : Int32) then (0 : Int32) else 1)), .val (.int (if p1 < (0 : Int32) then (1 : Int32) else 0)), .val (.int (if (0 : Int32) < p1 then (0 : Int32) else 1)), .val (.int r26), .unset] [])) _
            refine XS.iconst X20.here hx rfl (hb hby at_137) ?_
            subst hr34
            exact kz
        · rw [if_neg hc122_30] at hr34
          show Steps p.tables e below (T20.setTop (mkF m 122 #[.val (.int p1), .val (.int r2), .val (.int r5), .val (.int r9), .val (.int (if p1 = (0 : Int32) then (1 : Int32) else 0)), .val (.int (if (0 : Int32) < p1 then (1 : Int32) else 0)), .val (.int (if p1 < (0 : Int32) then (0 : Int32) else 1)), .val (.int (if p1 < (0 : Int32) then (1 : Int32) else 0)), .val (.int (if (0 : Int32) < p1 then (0 : Int32) else 1)), .val (.int r26), .unset] [(.int r5), (.int (if p1 < (0 : Int32) then (0 : Int32) else 1))])) _
          refine XS.ifNo X20.here hx rfl (hb hby at_122) rfl ((if0 _ _).trans (feq hc122_30).1) ?_
          show Steps p.tables e below (T20.setTop (mkF m 125 #[.val (.int p1), .val (.int r2), .val (.int r5), .val (.int r9), .val (.int (if p1 = (0 : Int32) then (1 : Int32) else 0)), .val (.int (if (0 : Int32) < p1 then (1 : Int32) else 0)), .val (.int (if p1 < (0 : Int32) then (0 : Int32) else 1)), .val (.int (if p1 < (0 : Int32) then (1 : Int32) else 0)), .val (.int (if (0 : Int32) < p1 then (0 : Int32) else 1)), .val (.int r26), .unset] [(.int (if p1 < (0 : Int32) then (0 : Int32) else 1))])) _
          refine XS.iconst X20.here hx rfl (hb hby at_125) ?_
          show Steps p.tables e below (T20.setTop (mkF m 126 #[.val (.int p1), .val (.int r2), .val (.int r5), .val (.int r9), .val (.int (if p1 = (0 : Int32) then (1 : Int32) else 0)), .val (.int (if (0 : Int32) < p1 then (1 : Int32) else 0)), .val (.int (if p1 < (0 : Int32) then (0 : Int32) else 1)), .val (.int (if p1 < (0 : Int32) then (1 : Int32) else 0)), .val (.int (if (0 : Int32) < p1 then (0 : Int32) else 1)), .val (.int r26), .unset] [(.int (1 : Int32)), (.int (if p1 < (0 : Int32) then (0 : Int32) else 1))])) _
          refine XS.goto X20.here hx rfl (pc0 := 126) (pc' := 130) rfl (hb hby at_126) (by decide) (by decide) ?_
          by_cases hc130_32 : (if p1 < (0 : Int32) then (0 : Int32) else 1) = (1 : Int32)
          · rw [if_pos hc130_32] at hr34
            show Steps p.tables e below (T20.setTop (mkF m 130 #[.val (.int p1), .val (.int r2), .val (.int r5), .val (.int r9), .val (.int (if p1 = (0 : Int32) then (1 : Int32) else 0)), .val (.int (if (0 : Int32) < p1 then (1 : Int32) else 0)), .val (.int (if p1 < (0 : Int32) then (0 : Int32) else 1)), .val (.int (if p1 < (0 : Int32) then (1 : Int32) else 0)), .val (.int (if (0 : Int32) < p1 then (0 : Int32) else 1)), .val (.int r26), .unset] [(.int (1 : Int32)), (.int (if p1 < (0 : Int32) then (0 : Int32) else 1))])) _
            refine XS.icmpNo X20.here hx rfl (hb hby at_130) rfl (teq hc130_32).2 ?_
            show Steps p.tables e below (T20.setTop (mkF m 133 #[.val (.int p1), .val (.int r2), .val (.int r5), .val (.int r9), .val (.int (if p1 = (0 : Int32) then (1 : Int32) else 0)), .val (.int (if (0 : Int32) < p1 then (1 : Int32) else 0)), .val (.int (if p1 < (0 : Int32) then (0 : Int32) else 1)), .val (.int (if p1 < (0 : Int32) then (1 : Int32) else 0)), .val (.int (if (0 : Int32) < p1 then (0 : Int32) else 1)), .val (.int r26), .unset] [])) _
            refine XS.iconst X20.here hx rfl (hb hby at_133) ?_
            show Steps p.tables e below (T20.setTop (mkF m 134 #[.val (.int p1), .val (.int r2), .val (.int r5), .val (.int r9), .val (.int (if p1 = (0 : Int32) then (1 : Int32) else 0)), .val (.int (if (0 : Int32) < p1 then (1 : Int32) else 0)), .val (.int (if p1 < (0 : Int32) then (0 : Int32) else 1)), .val (.int (if p1 < (0 : Int32) then (1 : Int32) else 0)), .val (.int (if (0 : Int32) < p1 then (0 : Int32) else 1)), .val (.int r26), .unset] [(.int (1 : Int32))])) _
            refine XS.goto X20.here hx rfl (pc0 := 134) (pc' := 138) rfl (hb hby at_134) (by decide) (by decide) ?_
            subst hr34
            exact kz
          · rw [if_neg hc130_32] at hr34
            show Steps p.tables e below (T20.setTop (mkF m 130 #[.val (.int p1), .val (.int r2), .val (.int r5), .val (.int r9), .val (.int (if p1 = (0 : Int32) then (1 : Int32) else 0)), .val (.int (if (0 : Int32) < p1 then (1 : Int32) else 0)), .val (.int (if p1 < (0 : Int32) then (0 : Int32) else 1)), .val (.int (if p1 < (0 : Int32) then (1 : Int32) else 0)), .val (.int (if (0 : Int32) < p1 then (0 : Int32) else 1)), .val (.int r26), .unset] [(.int (1 : Int32)), (.int (if p1 < (0 : Int32) then (0 : Int32) else 1))])) _
            refine XS.icmpYes X20.here hx rfl (pc0 := 130) (pc' := 137) rfl (hb hby at_130) rfl (feq hc130_32).2 (by decide) (by decide) ?_
            show Steps p.tables e below (T20.setTop (mkF m 137 #[.val (.int p1), .val (.int r2), .val (.int r5), .val (.int r9), .val (.int (if p1 = (0 : Int32) then (1 : Int32) else 0)), .val (.int (if (0 : Int32) < p1 then (1 : Int32) else 0)), .val (.int (if p1 < (0 : Int32) then (0 : Int32) else 1)), .val (.int (if p1 < (0 : Int32) then (1 : Int32) else 0)), .val (.int (if (0 : Int32) < p1 then (0 : Int32) else 1)), .val (.int r26), .unset] [])) _
            refine XS.iconst X20.here hx rfl (hb hby at_137) ?_
            subst hr34
            exact kz
      · rw [if_neg hc118_29] at hr34
        show Steps p.tables e below (T20.setTop (mkF m 118 #[.val (.int p1), .val (.int r2), .val (.int r5), .val (.int r9), .val (.int (if p1 = (0 : Int32) then (1 : Int32) else 0)), .val (.int (if (0 : Int32) < p1 then (1 : Int32) else 0)), .val (.int (if p1 < (0 : Int32) then (0 : Int32) else 1)), .val (.int (if p1 < (0 : Int32) then (1 : Int32) else 0)), .val (.int (if (0 : Int32) < p1 then (0 : Int32) else 1)), .val (.int r26), .unset] [(.int r9), (.int (if p1 < (0 : Int32) then (0 : Int32) else 1))])) _
        refine XS.ifYes X20.here hx rfl (pc0 := 118) (pc' := 125) rfl (hb hby at_118) rfl ((if0 _ _).trans (feq hc118_29).2) (by decide) (by decide) ?_
        show Steps p.tables e below (T20.setTop (mkF m 125 #[.val (.int p1), .val (.int r2), .val (.int r5), .val (.int r9), .val (.int (if p1 = (0 : Int32) then (1 : Int32) else 0)), .val (.int (if (0 : Int32) < p1 then (1 : Int32) else 0)), .val (.int (if p1 < (0 : Int32) then (0 : Int32) else 1)), .val (.int (if p1 < (0 : Int32) then (1 : Int32) else 0)), .val (.int (if (0 : Int32) < p1 then (0 : Int32) else 1)), .val (.int r26), .unset] [(.int (if p1 < (0 : Int32) then (0 : Int32) else 1))])) _
        refine XS.iconst X20.here hx rfl (hb hby at_125) ?_
        show Steps p.tables e below (T20.setTop (mkF m 126 #[.val (.int p1), .val (.int r2), .val (.int r5), .val (.int r9), .val (.int (if p1 = (0 : Int32) then (1 : Int32) else 0)), .val (.int (if (0 : Int32) < p1 then (1 : Int32) else 0)), .val (.int (if p1 < (0 : Int32) then (0 : Int32) else 1)), .val (.int (if p1 < (0 : Int32) then (1 : Int32) else 0)), .val (.int (if (0 : Int32) < p1 then (0 : Int32) else 1)), .val (.int r26), .unset] [(.int (1 : Int32)), (.int (if p1 < (0 : Int32) then (0 : Int32) else 1))])) _
        refine XS.goto X20.here hx rfl (pc0 := 126) (pc' := 130) rfl (hb hby at_126) (by decide) (by decide) ?_
        by_cases hc130_33 : (if p1 < (0 : Int32) then (0 : Int32) else 1) = (1 : Int32)
        · rw [if_pos hc130_33] at hr34
          show Steps p.tables e below (T20.setTop (mkF m 130 #[.val (.int p1), .val (.int r2), .val (.int r5), .val (.int r9), .val (.int (if p1 = (0 : Int32) then (1 : Int32) else 0)), .val (.int (if (0 : Int32) < p1 then (1 : Int32) else 0)), .val (.int (if p1 < (0 : Int32) then (0 : Int32) else 1)), .val (.int (if p1 < (0 : Int32) then (1 : Int32) else 0)), .val (.int (if (0 : Int32) < p1 then (0 : Int32) else 1)), .val (.int r26), .unset] [(.int (1 : Int32)), (.int (if p1 < (0 : Int32) then (0 : Int32) else 1))])) _
          refine XS.icmpNo X20.here hx rfl (hb hby at_130) rfl (teq hc130_33).2 ?_
          show Steps p.tables e below (T20.setTop (mkF m 133 #[.val (.int p1), .val (.int r2), .val (.int r5), .val (.int r9), .val (.int (if p1 = (0 : Int32) then (1 : Int32) else 0)), .val (.int (if (0 : Int32) < p1 then (1 : Int32) else 0)), .val (.int (if p1 < (0 : Int32) then (0 : Int32) else 1)), .val (.int (if p1 < (0 : Int32) then (1 : Int32) else 0)), .val (.int (if (0 : Int32) < p1 then (0 : Int32) else 1)), .val (.int r26), .unset] [])) _
          refine XS.iconst X20.here hx rfl (hb hby at_133) ?_
          show Steps p.tables e below (T20.setTop (mkF m 134 #[.val (.int p1), .val (.int r2), .val (.int r5), .val (.int r9), .val (.int (if p1 = (0 : Int32) then (1 : Int32) else 0)), .val (.int (if (0 : Int32) < p1 then (1 : Int32) else 0)), .val (.int (if p1 < (0 : Int32) then (0 : Int32) else 1)), .val (.int (if p1 < (0 : Int32) then (1 : Int32) else 0)), .val (.int (if (0 : Int32) < p1 then (0 : Int32) else 1)), .val (.int r26), .unset] [(.int (1 : Int32))])) _
          refine XS.goto X20.here hx rfl (pc0 := 134) (pc' := 138) rfl (hb hby at_134) (by decide) (by decide) ?_
          subst hr34
          exact kz
        · rw [if_neg hc130_33] at hr34
          show Steps p.tables e below (T20.setTop (mkF m 130 #[.val (.int p1), .val (.int r2), .val (.int r5), .val (.int r9), .val (.int (if p1 = (0 : Int32) then (1 : Int32) else 0)), .val (.int (if (0 : Int32) < p1 then (1 : Int32) else 0)), .val (.int (if p1 < (0 : Int32) then (0 : Int32) else 1)), .val (.int (if p1 < (0 : Int32) then (1 : Int32) else 0)), .val (.int (if (0 : Int32) < p1 then (0 : Int32) else 1)), .val (.int r26), .unset] [(.int (1 : Int32)), (.int (if p1 < (0 : Int32) then (0 : Int32) else 1))])) _
          refine XS.icmpYes X20.here hx rfl (pc0 := 130) (pc' := 137) rfl (hb hby at_130) rfl (feq hc130_33).2 (by decide) (by decide) ?_
          show Steps p.tables e below (T20.setTop (mkF m 137 #[.val (.int p1), .val (.int r2), .val (.int r5), .val (.int r9), .val (.int (if p1 = (0 : Int32) then (1 : Int32) else 0)), .val (.int (if (0 : Int32) < p1 then (1 : Int32) else 0)), .val (.int (if p1 < (0 : Int32) then (0 : Int32) else 1)), .val (.int (if p1 < (0 : Int32) then (1 : Int32) else 0)), .val (.int (if (0 : Int32) < p1 then (0 : Int32) else 1)), .val (.int r26), .unset] [])) _
          refine XS.iconst X20.here hx rfl (hb hby at_137) ?_
          subst hr34
          exact kz
  refine Goes.via j112_35 ?_
  refine Goes.via (S' := T20.setTop (mkF m 142 #[.val (.int p1), .val (.int r2), .val (.int r5), .val (.int r9), .val (.int (if p1 = (0 : Int32) then (1 : Int32) else 0)), .val (.int (if (0 : Int32) < p1 then (1 : Int32) else 0)), .val (.int (if p1 < (0 : Int32) then (0 : Int32) else 1)), .val (.int (if p1 < (0 : Int32) then (1 : Int32) else 0)), .val (.int (if (0 : Int32) < p1 then (0 : Int32) else 1)), .val (.int r34), .unset] [(.int r34)])) (fun tz kz => ?_) ?_
  · show Steps p.tables e below (T20.setTop (mkF m 138 #[.val (.int p1), .val (.int r2), .val (.int r5), .val (.int r9), .val (.int (if p1 = (0 : Int32) then (1 : Int32) else 0)), .val (.int (if (0 : Int32) < p1 then (1 : Int32) else 0)), .val (.int (if p1 < (0 : Int32) then (0 : Int32) else 1)), .val (.int (if p1 < (0 : Int32) then (1 : Int32) else 0)), .val (.int (if (0 : Int32) < p1 then (0 : Int32) else 1)), .val (.int r26), .unset] [(.int r34)])) _
    refine XS.istore X20.here hx rfl (hb hby at_138) rfl (l' := #[.val (.int p1), .val (.int r2), .val (.int r5), .val (.int r9), .val (.int (if p1 = (0 : Int32) then (1 : Int32) else 0)), .val (.int (if (0 : Int32) < p1 then (1 : Int32) else 0)), .val (.int (if p1 < (0 : Int32) then (0 : Int32) else 1)), .val (.int (if p1 < (0 : Int32) then (1 : Int32) else 0)), .val (.int (if (0 : Int32) < p1 then (0 : Int32) else 1)), .val (.int r34), .unset]) rfl ?_
    show Steps p.tables e below (T20.setTop (mkF m 140 #[.val (.int p1), .val (.int r2), .val (.int r5), .val (.int r9), .val (.int (if p1 = (0 : Int32) then (1 : Int32) else 0)), .val (.int (if (0 : Int32) < p1 then (1 : Int32) else 0)), .val (.int (if p1 < (0 : Int32) then (0 : Int32) else 1)), .val (.int (if p1 < (0 : Int32) then (1 : Int32) else 0)), .val (.int (if (0 : Int32) < p1 then (0 : Int32) else 1)), .val (.int r34), .unset] [])) _
    refine XS.iload X20.here hx rfl (hb hby at_140) rfl ?_
    exact kz
  obtain ⟨r38, hr38⟩ : ∃ z : Int32, z = (if r34 = (0 : Int32) then (0 : Int32) else (if (if p1 < (0 : Int32) then (1 : Int32) else 0) = r2 then (1 : Int32) else (0 : Int32))) := ⟨_, rfl⟩
  have j142_39 : ∀ t, Steps p.tables e below (T20.setTop (mkF m 156 #[.val (.int p1), .val (.int r2), .val (.int r5), .val (.int r9), .val (.int (if p1 = (0 : Int32) then (1 : Int32) else 0)), .val (.int (if (0 : Int32) < p1 then (1 : Int32) else 0)), .val (.int (if p1 < (0 : Int32) then (0 : Int32) else 1)), .val (.int (if p1 < (0 : Int32) then (1 : Int32) else 0)), .val (.int (if (0 : Int32) < p1 then (0 : Int32) else 1)), .val (.int r34), .unset] [(.int r38)])) t → Steps p.tables e below (T20.setTop (mkF m 142 #[.val (.int p1), .val (.int r2), .val (.int r5), .val (.int r9), .val (.int (if p1 = (0 : Int32) then (1 : Int32) else 0)), .val (.int (if (0 : Int32) < p1 then (1 : Int32) else 0)), .val (.int (if p1 < (0 : Int32) then (0 : Int32) else 1)), .val (.int (if p1 < (0 : Int32) then (1 : Int32) else 0)), .val (.int (if (0 : Int32) < p1 then (0 : Int32) else 1)), .val (.int r34), .unset] [(.int r34)])) t := by
    intro tz kz
    by_cases hc142_36 : r34 = (0 : Int32)
    · rw [if_pos hc142_36] at hr38
      show Steps p.tables e below (T20.setTop (mkF m 142 #[.val (.int p1), .val (.int r2), .val (.int r5), .val (.int r9), .val (.int (if p1 = (0 : Int32) then (1 : Int32) else 0)), .val (.int (if (0 : Int32) < p1 then (1 : Int32) else 0)), .val (.int (if p1 < (0 : Int32) then (0 : Int32) else 1)), .val (.int (if p1 < (0 : Int32) then (1 : Int32) else 0)), .val (.int (if (0 : Int32) < p1 then (0 : Int32) else 1)), .val (.int r34), .unset] [(.int r34)])) _
      refine XS.ifYes X20.here hx rfl (pc0 := 142) (pc' := 155) rfl (hb hby at_142) rfl ((if0 _ _).trans (teq hc142_36).1) (by decide) (by decide) ?_
      show Steps p.tables e below (T20.setTop (mkF m 155 #[.val (.int p1), .val (.int r2), .val (.int r5), .val (.int r9), .val (.int (if p1 = (0 : Int32) then (1 : Int32) else 0)), .val (.int (if (0 : Int32) < p1 then (1 : Int32) else 0)), .val (.int (if p1 < (0 : Int32) then (0 : Int32) else 1)), .val (.int (if p1 < (0 : Int32) then (1 : Int32) else 0)), .val (.int (if (0 : Int32) < p1 then (0 : Int32) else 1)), .val (.int r34), .unset] [])) _
      refine XS.iconst X20.here hx rfl (hb hby at_155) ?_
      subst hr38
      exact kz
    · rw [if_neg hc142_36] at hr38
      show Steps p.tables e below (T20.setTop (mkF m 142 #[.val (.int p1), .val (.int r2), .val (.int r5), .val (.int r9), .val (.int (if p1 = (0 : Int32) then (1 : Int32) else 0)), .val (.int (if (0 : Int32) < p1 then (1 : Int32) else 0)), .val (.int (if p1 < (0 : Int32) then (0 : Int32) else 1)), .val (.int (if p1 < (0 : Int32) then (1 : Int32) else 0)), .val (.int (if (0 : Int32) < p1 then (0 : Int32) else 1)), .val (.int r34), .unset] [(.int r34)])) _
      refine XS.ifNo X20.here hx rfl (hb hby at_142) rfl ((if0 _ _).trans (feq hc142_36).1) ?_
      show Steps p.tables e below (T20.setTop (mkF m 145 #[.val (.int p1), .val (.int r2), .val (.int r5), .val (.int r9), .val (.int (if p1 = (0 : Int32) then (1 : Int32) else 0)), .val (.int (if (0 : Int32) < p1 then (1 : Int32) else 0)), .val (.int (if p1 < (0 : Int32) then (0 : Int32) else 1)), .val (.int (if p1 < (0 : Int32) then (1 : Int32) else 0)), .val (.int (if (0 : Int32) < p1 then (0 : Int32) else 1)), .val (.int r34), .unset] [])) _
      refine XS.iload X20.here hx rfl (hb hby at_145) rfl ?_
      show Steps p.tables e below (T20.setTop (mkF m 147 #[.val (.int p1), .val (.int r2), .val (.int r5), .val (.int r9), .val (.int (if p1 = (0 : Int32) then (1 : Int32) else 0)), .val (.int (if (0 : Int32) < p1 then (1 : Int32) else 0)), .val (.int (if p1 < (0 : Int32) then (0 : Int32) else 1)), .val (.int (if p1 < (0 : Int32) then (1 : Int32) else 0)), .val (.int (if (0 : Int32) < p1 then (0 : Int32) else 1)), .val (.int r34), .unset] [(.int (if p1 < (0 : Int32) then (1 : Int32) else 0))])) _
      refine XS.iloadN X20.here hx rfl (hb hby at_147) rfl ?_
      by_cases hc148_37 : (if p1 < (0 : Int32) then (1 : Int32) else 0) = r2
      · rw [if_pos hc148_37] at hr38
        show Steps p.tables e below (T20.setTop (mkF m 148 #[.val (.int p1), .val (.int r2), .val (.int r5), .val (.int r9), .val (.int (if p1 = (0 : Int32) then (1 : Int32) else 0)), .val (.int (if (0 : Int32) < p1 then (1 : Int32) else 0)), .val (.int (if p1 < (0 : Int32) then (0 : Int32) else 1)), .val (.int (if p1 < (0 : Int32) then (1 : Int32) else 0)), .val (.int (if (0 : Int32) < p1 then (0 : Int32) else 1)), .val (.int r34), .unset] [(.int r2), (.int (if p1 < (0 : Int32) then (1 : Int32) else 0))])) _
        refine XS.icmpNo X20.here hx rfl (hb hby at_148) rfl (teq hc148_37).2 ?_
        show Steps p.tables e below (T20.setTop (mkF m 151 #[.val (.int p1), .val (.int r2), .val (.int r5), .val (.int r9), .val (.int (if p1 = (0 : Int32) then (1 : Int32) else 0)), .val (.int (if (0 : Int32) < p1 then (1 : Int32) else 0)), .val (.int (if p1 < (0 : Int32) then (0 : Int32) else 1)), .val (.int (if p1 < (0 : Int32) then (1 : Int32) else 0)), .val (.int (if (0 : Int32) < p1 then (0 : Int32) else 1)), .val (.int r34), .unset] [])) _
        refine XS.iconst X20.here hx rfl (hb hby at_151) ?_
        show Steps p.tables e below (T20.setTop (mkF m 152 #[.val (.int p1), .val (.int r2), .val (.int r5), .val (.int r9), .val (.int (if p1 = (0 : Int32) then (1 : Int32) else 0)), .val (.int (if (0 : Int32) < p1 then (1 : Int32) else 0)), .val (.int (if p1 < (0 : Int32) then (0 : Int32) else 1)), .val (.int (if p1 < (0 : Int32) then (1 : Int32) else 0)), .val (.int (if (0 : Int32) < p1 then (0 : Int32) else 1)), .val (.int r34), .unset] [(.int (1 : Int32))])) _
        refine XS.goto X20.here hx rfl (pc0 := 152) (pc' := 156) rfl (hb hby at_152) (by decide) (by decide) ?_
        subst hr38
        exact kz
      · rw [if_neg hc148_37] at hr38
        show Steps p.tables e below (T20.setTop (mkF m 148 #[.val (.int p1), .val (.int r2), .val (.int r5), .val (.int r9), .val (.int (if p1 = (0 : Int32) then (1 : Int32) else 0)), .val (.int (if (0 : Int32) < p1 then (1 : Int32) else 0)), .val (.int (if p1 < (0 : Int32) then (0 : Int32) else 1)), .val (.int (if p1 < (0 : Int32) then (1 : Int32) else 0)), .val (.int (if (0 : Int32) < p1 then (0 : Int32) else 1)), .val (.int r34), .unset] [(.int r2), (.int (if p1 < (0 : Int32) then (1 : Int32) else 0))])) _
        refine XS.icmpYes X20.here hx rfl (pc0 := 148) (pc' := 155) rfl (hb hby at_148) rfl (feq hc148_37).2 (by decide) (by decide) ?_
        show Steps p.tables e below (T20.setTop (mkF m 155 #[.val (.int p1), .val (.int r2), .val (.int r5), .val (.int r9), .val (.int (if p1 = (0 : Int32) then (1 : Int32) else 0)), .val (.int (if (0 : Int32) < p1 then (1 : Int32) else 0)), .val (.int (if p1 < (0 : Int32) then (0 : Int32) else 1)), .val (.int (if p1 < (0 : Int32) then (1 : Int32) else 0)), .val (.int (if (0 : Int32) < p1 then (0 : Int32) else 1)), .val (.int r34), .unset] [])) _
        refine XS.iconst X20.here hx rfl (hb hby at_155) ?_
        subst hr38
        exact kz
  refine Goes.via j142_39 ?_
  refine Goes.via (S' := T20.setTop (mkF m 160 #[.val (.int p1), .val (.int r2), .val (.int r5), .val (.int r9), .val (.int (if p1 = (0 : Int32) then (1 : Int32) else 0)), .val (.int (if (0 : Int32) < p1 then (1 : Int32) else 0)), .val (.int (if p1 < (0 : Int32) then (0 : Int32) else 1)), .val (.int (if p1 < (0 : Int32) then (1 : Int32) else 0)), .val (.int (if (0 : Int32) < p1 then (0 : Int32) else 1)), .val (.int r38), .unset] [(.int r38)])) (fun tz kz => ?_) ?_
  · show Steps p.tables e below (T20.setTop (mkF m 156 #[.val (.int p1), .val (.int r2), .val (.int r5), .val (.int r9), .val (.int (if p1 = (0 : Int32) then (1 : Int32) else 0)), .val (.int (if (0 : Int32) < p1 then (1 : Int32) else 0)), .val (.int (if p1 < (0 : Int32) then (0 : Int32) else 1)), .val (.int (if p1 < (0 : Int32) then (1 : Int32) else 0)), .val (.int (if (0 : Int32) < p1 then (0 : Int32) else 1)), .val (.int r34), .unset] [(.int r38)])) _
    refine XS.istore X20.here hx rfl (hb hby at_156) rfl (l' := #[.val (.int p1), .val (.int r2), .val (.int r5), .val (.int r9), .val (.int (if p1 = (0 : Int32) then (1 : Int32) else 0)), .val (.int (if (0 : Int32) < p1 then (1 : Int32) else 0)), .val (.int (if p1 < (0 : Int32) then (0 : Int32) else 1)), .val (.int (if p1 < (0 : Int32) then (1 : Int32) else 0)), .val (.int (if (0 : Int32) < p1 then (0 : Int32) else 1)), .val (.int r38), .unset]) rfl ?_
    show Steps p.tables e below (T20.setTop (mkF m 158 #[.val (.int p1), .val (.int r2), .val (.int r5), .val (.int r9), .val (.int (if p1 = (0 : Int32) then (1 : Int32) else 0)), .val (.int (if (0 : Int32) < p1 then (1 : Int32) else 0)), .val (.int (if p1 < (0 : Int32) then (0 : Int32) else 1)), .val (.int (if p1 < (0 : Int32) then (1 : Int32) else 0)), .val (.int (if (0 : Int32) < p1 then (0 : Int32) else 1)), .val (.int r38), .unset] [])) _
    refine XS.iload X20.here hx rfl (hb hby at_158) rfl ?_
    exact kz
  obtain ⟨r46, hr46⟩ : ∃ z : Int32, z = (if r38 = (0 : Int32) then (0 : Int32) else (if r2 = (0 : Int32) then (if r5 = (0 : Int32) then (if (if (0 : Int32) < p1 then (0 : Int32) else 1) = (0 : Int32) then (1 : Int32) else (0 : Int32)) else (if (if (0 : Int32) < p1 then (0 : Int32) else 1) = (1 : Int32) then (1 : Int32) else (0 : Int32))) else (if (if (0 : Int32) < p1 then (0 : Int32) else 1) = (1 : Int32) then (1 : Int32) else (0 : Int32)))) := ⟨_, rfl⟩
  have j160_47 : ∀ t, Steps p.tables e below (T20.setTop (mkF m 186 #[.val (.int p1), .val (.int r2), .val (.int r5), .val (.int r9), .val (.int (if p1 = (0 : Int32) then (1 : Int32) else 0)), .val (.int (if (0 : Int32) < p1 then (1 : Int32) else 0)), .val (.int (if p1 < (0 : Int32) then (0 : Int32) else 1)), .val (.int (if p1 < (0 : Int32) then (1 : Int32) else 0)), .val (.int (if (0 : Int32) < p1 then (0 : Int32) else 1)), .val (.int r38), .unset] [(.int r46)])) t → Steps p.tables e below (T20.setTop (mkF m 160 #[.val (.int p1), .val (.int r2), .val (.int r5), .val (.int r9), .val (.int (if p1 = (0 : Int32) then (1 : Int32) else 0)), .val (.int (if (0 : Int32) < p1 then (1 : Int32) else 0)), .val (.int (if p1 < (0 : Int32) then (0 : Int32) else 1)), .val (.int (if p1 < (0 : Int32) then (1 : Int32) else 0)), .val (.int (if (0 : Int32) < p1 then (0 : Int32) else 1)), .val (.int r38), .unset] [(.int r38)])) t := by
    intro tz kz
    by_cases hc160_40 : r38 = (0 : Int32)
    · rw [if_pos hc160_40] at hr46
      show Steps p.tables e below (T20.setTop (mkF m 160 #[.val (.int p1), .val (.int r2), .val (.int r5), .val (.int r9), .val (.int (if p1 = (0 : Int32) then (1 : Int32) else 0)), .val (.int (if (0 : Int32) < p1 then (1 : Int32) else 0)), .val (.int (if p1 < (0 : Int32) then (0 : Int32) else 1)), .val (.int (if p1 < (0 : Int32) then (1 : Int32) else 0)), .val (.int (if (0 : Int32) < p1 then (0 : Int32) else 1)), .val (.int r38), .unset] [(.int r38)])) _
      refine XS.ifYes X20.here hx rfl (pc0 := 160) (pc' := 185) rfl (hb hby at_160) rfl ((if0 _ _).trans (teq hc160_40).1) (by decide) (by decide) ?_
      show Steps p.tables e below (T20.setTop (mkF m 185 #[.val (.int p1), .val (.int r2), .val (.int r5), .val (.int r9), .val (.int (if p1 = (0 : Int32) then (1 : Int32) else 0)), .val (.int (if (0 : Int32) < p1 then (1 : Int32) else 0)), .val (.int (if p1 < (0 : Int32) then (0 : Int32) else 1)), .val (.int (if p1 < (0 : Int32) then (1 : Int32) else 0)), .val (.int (if (0 : Int32) < p1 then (0 : Int32) else 1)), .val (.int r38), .unset] [])) _
      refine XS.iconst X20.here hx rfl (hb hby at_185) ?_
      subst hr46
      exact kz
    · rw [if_neg hc160_40] at hr46
      show Steps p.tables e below (T20.setTop (mkF m 160 #[.val (.int p1), .val (.int r2), .val (.int r5), .val (.int r9), .val (.int (if p1 = (0 : Int32) then (1 : Int32) else 0)), .val (.int (if (0 : Int32) < p1 then (1 : Int32) else 0)), .val (.int (if p1 < (0 : Int32) then (0 : Int32) else 1)), .val (.int (if p1 < (0 : Int32) then (1 : Int32) else 0)), .val (.int (if (0 : Int32) < p1 then (0 : Int32) else 1)), .val (.int r38), .unset] [(.int r38)])) _
      refine XS.ifNo X20.here hx rfl (hb hby at_160) rfl ((if0 _ _).trans (feq hc160_40).1) ?_
      show Steps p.tables e below (T20.setTop (mkF m 163 #[.val (.int p1), .val (.int r2), .val (.int r5), .val (.int r9), .val (.int (if p1 = (0 : Int32) then (1 : Int32) else 0)), .val (.int (if (0 : Int32) < p1 then (1 : Int32) else 0)), .val (.int (if p1 < (0 : Int32) then (0 : Int32) else 1)), .val (.int (if p1 < (0 : Int32) then (1 : Int32) else 0)), .val (.int (if (0 : Int32) < p1 then (0 : Int32) else 1)), .val (.int r38), .unset] [])) _
      refine XS.iload X20.here hx rfl (hb hby at_163) rfl ?_
      show Steps p.tables e below (T20.setTop (mkF m 165 #[.val (.int p1), .val (.int r2), .val (.int r5), .val (.int r9), .val (.int (if p1 = (0 : Int32) then (1 : Int32) else 0)), .val (.int (if (0 : Int32) < p1 then (1 : Int32) else 0)), .val (.int (if p1 < (0 : Int32) then (0 : Int32) else 1)), .val (.int (if p1 < (0 : Int32) then (1 : Int32) else 0)), .val (.int (if (0 : Int32) < p1 then (0 : Int32) else 1)), .val (.int r38), .unset] [(.int (if (0 : Int32) < p1 then (0 : Int32) else 1))])) _
      refine XS.iloadN X20.here hx rfl (hb hby at_165) rfl ?_
      by_cases hc166_41 : r2 = (0 : Int32)
      · rw [if_pos hc166_41] at hr46
        show Steps p.tables e below (T20.setTop (mkF m 166 #[.val (.int p1), .val (.int r2), .val (.int r5), .val (.int r9), .val (.int (if p1 = (0 : Int32) then (1 : Int32) else 0)), .val (.int (if (0 : Int32) < p1 then (1 : Int32) else 0)), .val (.int (if p1 < (0 : Int32) then (0 : Int32) else 1)), .val (.int (if p1 < (0 : Int32) then (1 : Int32) else 0)), .val (.int (if (0 : Int32) < p1 then (0 : Int32) else 1)), .val (.int r38), .unset] [(.int r2), (.int (if (0 : Int32) < p1 then (0 : Int32) else 1))])) _
        refine XS.ifNo X20.here hx rfl (hb hby at_166) rfl ((if0 _ _).trans (teq hc166_41).2) ?_
        show Steps p.tables e below (T20.setTop (mkF m 169 #[.val (.int p1), .val (.int r2), .val (.int r5), .val (.int r9), .val (.int (if p1 = (0 : Int32) then (1 : Int32) else 0)), .val (.int (if (0 : Int32) < p1 then (1 : Int32) else 0)), .val (.int (if p1 < (0 : Int32) then (0 : Int32) else 1)), .val (.int (if p1 < (0 : Int32) then (1 : Int32) else 0)), .val (.int (if (0 : Int32) < p1 then (0 : Int32) else 1)), .val (.int r38), .unset] [(.int (if (0 : Int32) < p1 then (0 : Int32) else 1))])) _
        refine XS.iloadN X20.here hx rfl (hb hby at_169) rfl ?_
        by_cases hc170_42 : r5 = (0 : Int32)
        · rw [if_pos hc170_42] at hr46
          show Steps p.tables e below (T20.setTop (mkF m 170 #[.val (.int p1), .val (.int r2), .val (.int r5), .val (.int r9), .val (.int (if p1 = (0 : Int32) then (1 : Int32) else 0)), .val (.int (if (0 : Int32) < p1 then (1 : Int32) else 0)), .val (.int (if p1 < (0 : Int32) then (0 : Int32) else 1)), .val (.int (if p1 < (0 : Int32) then (1 : Int32) else 0)), .val (.int (if (0 : Int32) < p1 then (0 : Int32) else 1)), .val (.int r38), .unset] [(.int r5), (.int (if (0 : Int32) < p1 then (0 : Int32) else 1))])) _
          refine XS.ifYes X20.here hx rfl (pc0 := 170) (pc' := 177) rfl (hb hby at_170) rfl ((if0 _ _).trans (teq hc170_42).1) (by decide) (by decide) ?_
          show Steps p.tables e below (T20.setTop (mkF m 177 #[.val (.int p1), .val (.int r2), .val (.int r5), .val (.int r9), .val (.int (if p1 = (0 : Int32) then (1 : Int32) else 0)), .val (.int (if (0 : Int32) < p1 then (1 : Int32) else 0)), .val (.int (if p1 < (0 : Int32) then (0 : Int32) else 1)), .val (.int (if p1 < (0 : Int32) then (1 : Int32) else 0)), .val (.int (if (0 : Int32) < p1 then (0 : Int32) else 1)), .val (.int r38), .unset] [(.int (if (0 : Int32) < p1 then (0 : Int32) else 1))])) _
          refine XS.iconst X20.here hx rfl (hb hby at_177) ?_
          by_cases hc178_43 : (if (0 : Int32) < p1 then (0 : Int32) else 1) = (0 : Int32)
          · rw [if_pos hc178_43] at hr46
            show Steps p.tables e below (T20.setTop (mkF m 178 #[.val (.int p1), .val (.int r2), .val (.int r5), .val (.int r9), .val (.int (if p1 = (0 : Int32) then (1 : Int32) else 0)), .val (.int (if (0 : Int32) < p1 then (1 : Int32) else 0)), .val (.int (if p1 < (0 : Int32) then (0 : Int32) else 1)), .val (.int (if p1 < (0 : Int32) then (1 : Int32) else 0)), .val (.int (if (0 : Int32) < p1 then (0 : Int32) else 1)), .val (.int r38), .unset] [(.int (0 : Int32)), (.int (if (0 : Int32) < p1 then (0 : Int32) else 1))])) _
            refine XS.icmpNo X20.here hx rfl (hb hby at_178) rfl (teq hc178_43).2 ?_
            show Steps p.tables e below (T20.setTop (mkF m 181 #[.val (.int p1), .val (.int r2), .val (.int r5), .val (.int r9), .val (.int (if p1 = (0 : Int32) then (1 : Int32) else 0)), .val (.int (if (0 : Int32) < p1 then (1 : Int32) else 0)), .val (.int (if p1 < (0 : Int32) then (0 : Int32) else 1)), .val (.int (if p1 < (0 : Int32) then (1 : Int32) else 0)), .val (.int (if (0 : Int32) < p1 then (0 : Int32) else 1)), .val (.int r38), .unset] [])) _
            refine XS.iconst X20.here hx rfl (hb hby at_181) ?_
            show Steps p.tables e below (T20.setTop (mkF m 182 #[.val (.int p1), .val (.int r2), .val (.int r5), .val (.int r9), .val (.int (if p1 = (0 : Int32) then (1 : Int32) else 0)), .val (.int (if (0 : Int32) < p1 then (1 : Int32) else 0)), .val (.int (if p1 < (0 : Int32) then (0 : Int32) else 1)), .val (.int (if p1 < (0 : Int32) then (1 : Int32) else 0)), .val (.int (if (0 : Int32) < p1 then (0 : Int32) else 1)), .val (.int r38), .unset] [(.int (1 : Int32))])) _
            refine XS.goto X20.here hx rfl (pc0 := 182) (pc' := 186) rfl (hb hby at_182) (by decide) (by decide) ?_
            subst hr46
            exact kz
          · rw [if_neg hc178_43] at hr46
            show Steps p.tables e below (T20.setTop (mkF m 178 #[.val (.int p1), .val (.int r2), .val (.int r5), .val (.int r9), .val (.int (if p1 = (0 : Int32) then (1 : Int32) else 0)), .val (.int (if (0 : Int32) < p1 then (1 : Int32) else 0)), .val (.int (if p1 < (0 : Int32) then (0 : Int32) else 1)), .val (.int (if p1 < (0 : Int32) then (1 : Int32) else 0)), .val (.int (if (0 : Int32) < p1 then (0 : Int32) else 1)), .val (.int r38), .unset] [(.int (0 : Int32)), (.int (if (0 : Int32) < p1 then (0 : Int32) else 1))])) _
            refine XS.icmpYes X20.here hx rfl (pc0 := 178) (pc' := 185) rfl (hb hby at_178) rfl (feq hc178_43).2 (by decide) (by decide) ?_
            show Steps p.tables e below (T20.setTop (mkF m 185 #[.val (.int p1), .val (.int r2), .val (.int r5), .val (.int r9), .val (.int (if p1 = (0 : Int32) then (1 : Int32) else 0)), .val (.int (if (0 : Int32) < p1 then (1 : Int32) else 0)), .val (.int (if p1 < (0 : Int32) then (0 : Int32) else 1)), .val (.int (if p1 < (0 : Int32) then (1 : Int32) else 0)), .val (.int (if (0 : Int32) < p1 then (0 : Int32) else 1)), .val (.int r38), .unset] [])) _
            refine XS.iconst X20.here hx rfl (hb hby at_185) ?_
            subst hr46
            exact kz
        · rw [if_neg hc170_42] at hr46
          show Steps p.tables e below (T20.setTop (mkF m 170 #[.val (.int p1), .val (.int r2), .val (.int r5), .val (.int r9), .val (.int (if p1 = (0 : Int32) then (1 : Int32) else 0)), .val (.int (if (0 : Int32) < p1 then (1 : Int32) else 0)), .val (.int (if p1 < (0 : Int32) then (0 : Int32) else 1)), .val (.int (if p1 < (0 : Int32) then (1 : Int32) else 0)), .val (.int (if (0 : Int32) < p1 then (0 : Int32) else 1)), .val (.int r38), .unset] [(.int r5), (.int (if (0 : Int32) < p1 then (0 : Int32) else 1))])) _
          refine XS.ifNo X20.here hx rfl (hb hby at_170) rfl ((if0 _ _).trans (feq hc170_42).1) ?_
          show Steps p.tables e below (T20.setTop (mkF m 173 #[.val (.int p1), .val (.int r2), .val (.int r5), .val (.int r9), .val (.int (if p1 = (0 : Int32) then (1 : Int32) else 0)), .val (.int (if (0 : Int32) < p1 then (1 : Int32) else 0)), .val (.int (if p1 < (0 : Int32) then (0 : Int32) else 1)), .val (.int (if p1 < (0 : Int32) then (1 : Int32) else 0)), .val (.int (if (0 : Int32) < p1 then (0 : Int32) else 1)), .val (.int r38), .unset] [(.int (if (0 : Int32) < p1 then (0 : Int32) else 1))])) _
          refine XS.iconst X20.here hx rfl (hb hby at_173) ?_
          show Steps p.tables e below (T20.setTop (mkF m 174 #[.val (.int p1), .val (.int r2), .val (.int r5), .val (.int r9), .val (.int (if p1 = (0 : Int32) then (1 : Int32) else 0)), .val (.int (if (0 : Int32) < p1 then (1 : Int32) else 0)), .val (.int (if p1 < (0 : Int32) then (0 : Int32) else 1)), .val (.int (if p1 < (0 : Int32) then (1 : Int32) else 0)), .val (.int (if (0 : Int32) < p1 then (0 : Int32) else 1)), .val (.int r38), .unset] [(.int (1 : Int32)), (.int (if (0 : Int32) < p1 then (0 : Int32) else 1))])) _
          refine XS.goto X20.here hx rfl (pc0 := 174) (pc' := 178) rfl (hb hby at_174) (by decide) (by decide) ?_
          by_cases hc178_44 : (if (0 : Int32) < p1 then (0 : Int32) else 1) = (1 : Int32)
          · rw [if_pos hc178_44] at hr46
            show Steps p.tables e below (T20.setTop (mkF m 178 #[.val (.int p1), .val (.int r2), .val (.int r5), .val (.int r9), .val (.int (if p1 = (0 : Int32) then (1 : Int32) else 0)), .val (.int (if (0 : Int32) < p1 then (1 : Int32) else 0)), .val (.int (if p1 < (0 : Int32) then (0 : Int32) else 1)), .val (.int (if p1 < (0 : Int32) then (1 : Int32) else 0)), .val (.int (if (0 : Int32) < p1 then (0 : Int32) else 1)), .val (.int r38), .unset] [(.int (1 : Int32)), (.int (if (0 : Int32) < p1 then (0 : Int32) else 1))])) _
            refine XS.icmpNo X20.here hx rfl (hb hby at_178) rfl (teq hc178_44).2 ?_
            show Steps p.tables e below (T20.setTop (mkF m 181 #[.val (.int p1), .val (.int r2), .val (.int r5), .val (.int r9), .val (.int (if p1 = (0 : Int32) then (1 : Int32) else 0)), .val (.int (if (0 : Int32) < p1 then (1 : Int32) else 0)), .val (.int (if p1 < (0 : Int32) then (0 : Int32) else 1)), .val (.int (if p1 < (0 : Int32) then (1 : Int32) else 0)), .val (.int (if (0 : Int32) < p1 then (0 : Int32) else 1)), .val (.int r38), .unset] [])) _
            refine XS.iconst X20.here hx rfl (hb hby at_181) ?_
            show Steps p.tables e below (T20.setTop (mkF m 182 #[.val (.int p1), .val (.int r2), .val (.int r5), .val (.int r9), .val (.int (if p1 = (0 : Int32) then (1 : Int32) else 0)), .val (.int (if (0 : Int32) < p1 then (1 : Int32) else 0)), .val (.int (if p1 < (0 : Int32) then (0 : Int32) else 1)), .val (.int (if p1 < (0 : Int32) then (1 : Int32) else 0)), .val (.int (if (0 : Int32) < p1 then (0 : Int32) else 1)), .val (.int r38), .unset] [(.int (1 : Int32))])) _
            refine XS.goto X20.here hx rfl (pc0 := 182) (pc' := 186) rfl (hb hby at_182) (by decide) (by decide) ?_
            subst hr46
            exact kz
          · rw [if_neg hc178_44] at hr46
            show Steps p.tables e below (T20.setTop (mkF m 178 #[.val (.int p1), .val (.int r2), .val (.int r5), .val (.int r9), .val (.int (if p1 = (0 : Int32) then (1 : Int32) else 0)), .val (.int (if (0 : Int32) < p1 then (1 : Int32) else 0)), .val (.int (if p1 < (0 : Int32) then (0 : Int32) else 1)), .val (.int (if p1 < (0 : Int32) then (1 : Int32) else 0)), .val (.int (if (0 : Int32) < p1 then (0 : Int32) else 1)), .val (.int r38), .unset] [(.int (1 : Int32)), (.int (if (0 : Int32) < p1 then (0 : Int32) else 1))])) _
            refine XS.icmpYes X20.here hx rfl (pc0 := 178) (pc' := 185) rfl (hb hby at_178) rfl (feq hc178_44).2 (by decide) (by decide) ?_
            show Steps p.tables e below (T20.setTop (mkF m 185 #[.val (.int p1), .val (.int r2), .val (.int r5), .val (.int r9), .val (.int (if p1 = (0 : Int32) then (1 : Int32) else 0)), .val (.int (if (0 : Int32) < p1 then (1 : Int32) else 0)), .val (.int (if p1 < (0 : Int32) then (0 : Int32) else 1)), .val (.int (if p1 < (0 : Int32) then (1 : Int32) else 0)), .val (.int (if (0 : Int32) < p1 then (0 : Int32) else 1)), .val (.int r38), .unset] [])) _
            refine XS.iconst X20.here hx rfl (hb hby at_185) ?_
            subst hr46
            exact kz
      · rw [if_neg hc166_41] at hr46
        show Steps p.tables e below (T20.setTop (mkF m 166 #[.val (.int p1), .val (.int r2), .val (.int r5), .val (.int r9), .val (.int (if p1 = (0 : Int32) then (1 : Int32) else 0)), .val (.int (if (0 : Int32) < p1 then (1 : Int32) else 0)), .val (.int (if p1 < (0 : Int32) then (0 : Int32) else 1)), .val (.int (if p1 < (0 : Int32) then (1 : Int32) else 0)), .val (.int (if (0 : Int32) < p1 then (0 : Int32) else 1)), .val (.int r38), .unset] [(.int r2), (.int (if (0 : Int32) < p1 then (0 : Int32) else 1))])) _
        refine XS.ifYes X20.here hx rfl (pc0 := 166) (pc' := 173) rfl (hb hby at_166) rfl ((if0 _ _).trans (feq hc166_41).2) (by decide) (by decide) ?_
        show Steps p.tables e below (T20.setTop (mkF m 173 #[.val (.int p1), .val (.int r2), .val (.int r5), .val (.int r9), .val (.int (if p1 = (0 : Int32) then (1 : Int32) else 0)), .val (.int (if (0 : Int32) < p1 then (1 : Int32) else 0)), .val (.int (if p1 < (0 : Int32) then (0 : Int32) else 1)), .val (.int (if p1 < (0 : Int32) then (1 : Int32) else 0)), .val (.int (if (0 : Int32) < p1 then (0 : Int32) else 1)), .val (.int r38), .unset] [(.int (if (0 : Int32) < p1 then (0 : Int32) else 1))])) _
        refine XS.iconst X20.here hx rfl (hb hby at_173) ?_
        show Steps p.tables e below (T20.setTop (mkF m 174 #[.val (.int p1), .val (.int r2), .val (.int r5), .val (.int r9), .val (.int (if p1 = (0 : Int32) then (1 : Int32) else 0)), .val (.int (if (0 : Int32) < p1 then (1 : Int32) else 0)), .val (.int (if p1 < (0 : Int32) then (0 : Int32) else 1)), .val (.int (if p1 < (0 : Int32) then (1 : Int32) else 0)), .val (.int (if (0 : Int32) < p1 then (0 : Int32) else 1)), .val (.int r38), .unset] [(.int (1 : Int32)), (.int (if (0 : Int32) < p1 then (0 : Int32) else 1))])) _
        refine XS.goto X20.here hx rfl (pc0 := 174) (pc' := 178) rfl (hb hby at_174) (by decide) (by decide) ?_
        by_cases hc178_45 : (if (0 : Int32) < p1 then (0 : Int32) else 1) = (1 : Int32)
        · rw [if_pos hc178_45] at hr46
          show Steps p.tables e below (T20.setTop (mkF m 178 #[.val (.int p1), .val (.int r2), .val (.int r5), .val (.int r9), .val (.int (if p1 = (0 : Int32) then (1 : Int32) else 0)), .val (.int (if (0 : Int32) < p1 then (1 : Int32) else 0)), .val (.int (if p1 < (0 : Int32) then (0 : Int32) else 1)), .val (.int (if p1 < (0 : Int32) then (1 : Int32) else 0)), .val (.int (if (0 : Int32) < p1 then (0 : Int32) else 1)), .val (.int r38), .unset] [(.int (1 : Int32)), (.int (if (0 : Int32) < p1 then (0 : Int32) else 1))])) _
          refine XS.icmpNo X20.here hx rfl (hb hby at_178) rfl (teq hc178_45).2 ?_
          show Steps p.tables e below (T20.setTop (mkF m 181 #[.val (.int p1), .val (.int r2), .val (.int r5), .val (.int r9), .val (.int (if p1 = (0 : Int32) then (1 : Int32) else 0)), .val (.int (if (0 : Int32) < p1 then (1 : Int32) else 0)), .val (.int (if p1 < (0 : Int32) then (0 : Int32) else 1)), .val (.int (if p1 < (0 : Int32) then (1 : Int32) else 0)), .val (.int (if (0 : Int32) < p1 then (0 : Int32) else 1)), .val (.int r38), .unset] [])) _
          refine XS.iconst X20.here hx rfl (hb hby at_181) ?_
          show Steps p.tables e below (T20.setTop (mkF m 182 #[.val (.int p1), .val (.int r2), .val (.int r5), .val (.int r9), .val (.int (if p1 = (0 : Int32) then (1 : Int32) else 0)), .val (.int (if (0 : Int32) < p1 then (1 : Int32) else 0)), .val (.int (if p1 < (0 : Int32) then (0 : Int32) else 1)), .val (.int (if p1 < (0 : Int32) then (1 : Int32) else 0)), .val (.int (if (0 : Int32) < p1 then (0 : Int32) else 1)), .val (.int r38), .unset] [(.int (1 : Int32))])) _
          refine XS.goto X20.here hx rfl (pc0 := 182) (pc' := 186) rfl (hb hby at_182) (by decide) (by decide) ?_
          subst hr46
          exact kz
        · rw [if_neg hc178_45] at hr46
          show Steps p.tables e below (T20.setTop (mkF m 178 #[.val (.int p1), .val (.int r2), .val (.int r5), .val (.int r9), .val (.int (if p1 = (0 : Int32) then (1 : Int32) else 0)), .val (.int (if (0 : Int32) < p1 then (1 : Int32) else 0)), .val (.int (if p1 < (0 : Int32) then (0 : Int32) else 1)), .val (.int (if p1 < (0 : Int32) then (1 : Int32) else 0)), .val (.int (if (0 : Int32) < p1 then (0 : Int32) else 1)), .val (.int r38), .unset] [(.int (1 : Int32)), (.int (if (0 : Int32) < p1 then (0 : Int32) else 1))])) _
          refine XS.icmpYes X20.here hx rfl (pc0 := 178) (pc' := 185) rfl (hb hby at_178) rfl (feq hc178_45).2 (by decide) (by decide) ?_
          show Steps p.tables e below (T20.setTop (mkF m 185 #[.val (.int p1), .val (.int r2), .val (.int r5), .val (.int r9), .val (.int (if p1 = (0 : Int32) then (1 : Int32) else 0)), .val (.int (if (0 : Int32) < p1 then (1 : Int32) else 0)), .val (.int (if p1 < (0 : Int32) then (0 : Int32) else 1)), .val (.int (if p1 < (0 : Int32) then (1 : Int32) else 0)), .val (.int (if (0 : Int32) < p1 then (0 : Int32) else 1)), .val (.int r38), .unset] [])) _
          refine XS.iconst X20.here hx rfl (hb hby at_185) ?_
          subst hr46
          exact kz
  refine Goes.via j160_47 ?_
  refine Goes.via (S' := T20.setTop (mkF m 190 #[.val (.int p1), .val (.int r2), .val (.int r5), .val (.int r9), .val (.int (if p1 = (0 : Int32) then (1 : Int32) else 0)), .val (.int (if (0 : Int32) < p1 then (1 : Int32) else 0)), .val (.int (if p1 < (0 : Int32) then (0 : Int32) else 1)), .val (.int (if p1 < (0 : Int32) then (1 : Int32) else 0)), .val (.int (if (0 : Int32) < p1 then (0 : Int32) else 1)), .val (.int r46), .unset] [(.int (if p1 < (0 : Int32) then (1 : Int32) else 0))])) (fun tz kz => ?_) ?_
  · show Steps p.tables e below (T20.setTop (mkF m 186 #[.val (.int p1), .val (.int r2), .val (.int r5), .val (.int r9), .val (.int (if p1 = (0 : Int32) then (1 : Int32) else 0)), .val (.int (if (0 : Int32) < p1 then (1 : Int32) else 0)), .val (.int (if p1 < (0 : Int32) then (0 : Int32) else 1)), .val (.int (if p1 < (0 : Int32) then (1 : Int32) else 0)), .val (.int (if (0 : Int32) < p1 then (0 : Int32) else 1)), .val (.int r38), .unset] [(.int r46)])) _
    refine XS.istore X20.here hx rfl (hb hby at_186) rfl (l' := #[.val (.int p1), .val (.int r2), .val (.int r5), .val (.int r9), .val (.int (if p1 = (0 : Int32) then (1 : Int32) else 0)), .val (.int (if (0 : Int32) < p1 then (1 : Int32) else 0)), .val (.int (if p1 < (0 : Int32) then (0 : Int32) else 1)), .val (.int (if p1 < (0 : Int32) then (1 : Int32) else 0)), .val (.int (if (0 : Int32) < p1 then (0 : Int32) else 1)), .val (.int r46), .unset]) rfl ?_
    show Steps p.tables e below (T20.setTop (mkF m 188 #[.val (.int p1), .val (.int r2), .val (.int r5), .val (.int r9), .val (.int (if p1 = (0 : Int32) then (1 : Int32) else 0)), .val (.int (if (0 : Int32) < p1 then (1 : Int32) else 0)), .val (.int (if p1 < (0 : Int32) then (0 : Int32) else 1)), .val (.int (if p1 < (0 : Int32) then (1 : Int32) else 0)), .val (.int (if (0 : Int32) < p1 then (0 : Int32) else 1)), .val (.int r46), .unset] [])) _
    refine XS.iload X20.here hx rfl (hb hby at_188) rfl ?_
    exact kz
  obtain ⟨r49, hr49⟩ : ∃ z : Int32, z = (if (if p1 < (0 : Int32) then (1 : Int32) else 0) = (0 : Int32) then (0 : Int32) else (1 : Int32)) := ⟨_, rfl⟩
  have j190_50 : ∀ t, Steps p.tables e below (T20.setTop (mkF m 198 #[.val (.int p1), .val (.int r2), .val (.int r5), .val (.int r9), .val (.int (if p1 = (0 : Int32) then (1 : Int32) else 0)), .val (.int (if (0 : Int32) < p1 then (1 : Int32) else 0)), .val (.int (if p1 < (0 : Int32) then (0 : Int32) else 1)), .val (.int (if p1 < (0 : Int32) then (1 : Int32) else 0)), .val (.int (if (0 : Int32) < p1 then (0 : Int32) else 1)), .val (.int r46), .unset] [(.int r49)])) t → Steps p.tables e below (T20.setTop (mkF m 190 #[.val (.int p1), .val (.int r2), .val (.int r5), .val (.int r9), .val (.int (if p1 = (0 : Int32) then (1 : Int32) else 0)), .val (.int (if (0 : Int32) < p1 then (1 : Int32) else 0)), .val (.int (if p1 < (0 : Int32) then (0 : Int32) else 1)), .val (.int (if p1 < (0 : Int32) then (1 : Int32) else 0)), .val (.int (if (0 : Int32) < p1 then (0 : Int32) else 1)), .val (.int r46), .unset] [(.int (if p1 < (0 : Int32) then (1 : Int32) else 0))])) t := by
    intro tz kz
    by_cases hc190_48 : (if p1 < (0 : Int32) then (1 : Int32) else 0) = (0 : Int32)
    · rw [if_pos hc190_48] at hr49
      show Steps p.tables e below (T20.setTop (mkF m 190 #[.val (.int p1), .val (.int r2), .val (.int r5), .val (.int r9), .val (.int (if p1 = (0 : Int32) then (1 : Int32) else 0)), .val (.int (if (0 : Int32) < p1 then (1 : Int32) else 0)), .val (.int (if p1 < (0 : Int32) then (0 : Int32) else 1)), .val (.int (if p1 < (0 : Int32) then (1 : Int32) else 0)), .val (.int (if (0 : Int32) < p1 then (0 : Int32) else 1)), .val (.int r46), .unset] [(.int (if p1 < (0 : Int32) then (1 : Int32) else 0))])) _
      refine XS.ifYes X20.here hx rfl (pc0 := 190) (pc' := 197) rfl (hb hby at_190) rfl ((if0 _ _).trans (teq hc190_48).1) (by decide) (by decide) ?_
      show Steps p.tables e below (T20.setTop (mkF m 197 #[.val (.int p1), .val (.int r2), .val (.int r5), .val (.int r9), .val (.int (if p1 = (0 : Int32) then (1 : Int32) else 0)), .val (.int (if (0 : Int32) < p1 then (1 : Int32) else 0)), .val (.int (if p1 < (0 : Int32) then (0 : Int32) else 1)), .val (.int (if p1 < (0 : Int32) then (1 : Int32) else 0)), .val (.int (if (0 : Int32) < p1 then (0 : Int32) else 1)), .val (.int r46), .unset] [])) _
      refine XS.iconst X20.here hx rfl (hb hby at_197) ?_
      subst hr49
      exact kz
    · rw [if_neg hc190_48] at hr49
      show Steps p.tables e below (T20.setTop (mkF m 190 #[.val (.int p1), .val (.int r2), .val (.int r5), .val (.int r9), .val (.int (if p1 = (0 : Int32) then (1 : Int32) else 0)), .val (.int (if (0 : Int32) < p1 then (1 : Int32) else 0)), .val (.int (if p1 < (0 : Int32) then (0 : Int32) else 1)), .val (.int (if p1 < (0 : Int32) then (1 : Int32) else 0)), .val (.int (if (0 : Int32) < p1 then (0 : Int32) else 1)), .val (.int r46), .unset] [(.int (if p1 < (0 : Int32) then (1 : Int32) else 0))])) _
      refine XS.ifNo X20.here hx rfl (hb hby at_190) rfl ((if0 _ _).trans (feq hc190_48).1) ?_
      show Steps p.tables e below (T20.setTop (mkF m 193 #[.val (.int p1), .val (.int r2), .val (.int r5), .val (.int r9), .val (.int (if p1 = (0 : Int32) then (1 : Int32) else 0)), .val (.int (if (0 : Int32) < p1 then (1 : Int32) else 0)), .val (.int (if p1 < (0 : Int32) then (0 : Int32) else 1)), .val (.int (if p1 < (0 : Int32) then (1 : Int32) else 0)), .val (.int (if (0 : Int32) < p1 then (0 : Int32) else 1)), .val (.int r46), .unset] [])) _
      refine XS.iconst X20.here hx rfl (hb hby at_193) ?_
      show Steps p.tables e below (T20.setTop (mkF m 194 #[.val (.int p1), .val (.int r2), .val (.int r5), .val (.int r9), .val (.int (if p1 = (0 : Int32) then (1 : Int32) else 0)), .val (.int (if (0 : Int32) < p1 then (1 : Int32) else 0)), .val (.int (if p1 < (0 : Int32) then (0 : Int32) else 1)), .val (.int (if p1 < (0 : Int32) then (1 : Int32) else 0)), .val (.int (if (0 : Int32) < p1 then (0 : Int32) else 1)), .val (.int r46), .unset] [(.int (1 : Int32))])) _
      refine XS.goto X20.here hx rfl (pc0 := 194) (pc' := 198) rfl (hb hby at_194) (by decide) (by decide) ?_
      subst hr49
      exact kz
  refine Goes.via j190_50 ?_
  refine Goes.via (S' := T20.setTop (mkF m 200 #[.val (.int p1), .val (.int r2), .val (.int r5), .val (.int r9), .val (.int (if p1 = (0 : Int32) then (1 : Int32) else 0)), .val (.int (if (0 : Int32) < p1 then (1 : Int32) else 0)), .val (.int (if p1 < (0 : Int32) then (0 : Int32) else 1)), .val (.int (if p1 < (0 : Int32) then (1 : Int32) else 0)), .val (.int (if (0 : Int32) < p1 then (0 : Int32) else 1)), .val (.int r46), .unset] [(.int (if p1 = (0 : Int32) then (1 : Int32) else 0)), (.int r49)])) (fun tz kz => ?_) ?_
  · show Steps p.tables e below (T20.setTop (mkF m 198 #[.val (.int p1), .val (.int r2), .val (.int r5), .val (.int r9), .val (.int (if p1 = (0 : Int32) then (1 : Int32) else 0)), .val (.int (if (0 : Int32) < p1 then (1 : Int32) else 0)), .val (.int (if p1 < (0 : Int32) then (0 : Int32) else 1)), .val (.int (if p1 < (0 : Int32) then (1 : Int32) else 0)), .val (.int (if (0 : Int32) < p1 then (0 : Int32) else 1)), .val (.int r46), .unset] [(.int r49)])) _
    refine XS.iload X20.here hx rfl (hb hby at_198) rfl ?_
    exact kz
  obtain ⟨r52, hr52⟩ : ∃ z : Int32, z = (if (if p1 = (0 : Int32) then (1 : Int32) else 0) = (0 : Int32) then (0 : Int32) else (1 : Int32)) := ⟨_, rfl⟩
  have j200_53 : ∀ t, Steps p.tables e below (T20.setTop (mkF m 208 #[.val (.int p1), .val (.int r2), .val (.int r5), .val (.int r9), .val (.int (if p1 = (0 : Int32) then (1 : Int32) else 0)), .val (.int (if (0 : Int32) < p1 then (1 : Int32) else 0)), .val (.int (if p1 < (0 : Int32) then (0 : Int32) else 1)), .val (.int (if p1 < (0 : Int32) then (1 : Int32) else 0)), .val (.int (if (0 : Int32) < p1 then (0 : Int32) else 1)), .val (.int r46), .unset] [(.int r52), (.int r49)])) t → Steps p.tables e below (T20.setTop (mkF m 200 #[.val (.int p1), .val (.int r2), .val (.int r5), .val (.int r9), .val (.int (if p1 = (0 : Int32) then (1 : Int32) else 0)), .val (.int (if (0 : Int32) < p1 then (1 : Int32) else 0)), .val (.int (if p1 < (0 : Int32) then (0 : Int32) else 1)), .val (.int (if p1 < (0 : Int32) then (1 : Int32) else 0)), .val (.int (if (0 : Int32) < p1 then (0 : Int32) else 1)), .val (.int r46), .unset] [(.int (if p1 = (0 : Int32) then (1 : Int32) else 0)), (.int r49)])) t := by
    intro tz kz
    by_cases hc200_51 : (if p1 = (0 : Int32) then (1 : Int32) else 0) = (0 : Int32)
    · rw [if_pos hc200_51] at hr52
      show Steps p.tables e below (T20.setTop (mkF m 200 #[.val (.int p1), .val (.int r2), .val (.int r5), .val (.int r9), .val (.int (if p1 = (0 : Int32) then (1 : Int32) else 0)), .val (.int (if (0 : Int32) < p1 then (1 : Int32) else 0)), .val (.int (if p1 < (0 : Int32) then (0 : Int32) else 1)), .val (.int (if p1 < (0 : Int32) then (1 : Int32) else 0)), .val (.int (if (0 : Int32) < p1 then (0 : Int32) else 1)), .val (.int r46), .unset] [(.int (if p1 = (0 : Int32) then (1 : Int32) else 0)), (.int r49)])) _
      refine XS.ifYes X20.here hx rfl (pc0 := 200) (pc' := 207) rfl (hb hby at_200) rfl ((if0 _ _).trans (teq hc200_51).1) (by decide) (by decide) ?_
      show Steps p.tables e below (T20.setTop (mkF m 207 #[.val (.int p1), .val (.int r2), .val (.int r5), .val (.int r9), .val (.int (if p1 = (0 : Int32) then (1 : Int32) else 0)), .val (.int (if (0 : Int32) < p1 then (1 : Int32) else 0)), .val (.int (if p1 < (0 : Int32) then (0 : Int32) else 1)), .val (.int (if p1 < (0 : Int32) then (1 : Int32) else 0)), .val (.int (if (0 : Int32) < p1 then (0 : Int32) else 1)), .val (.int r46), .unset] [(.int r49)])) _
      refine XS.iconst X20.here hx rfl (hb hby at_207) ?_
      subst hr52
      exact kz
    · rw [if_neg hc200_51] at hr52
      show Steps p.tables e below (T20.setTop (mkF m 200 #[.val (.int p1), .val (.int r2), .val (.int r5), .val (.int r9), .val (.int (if p1 = (0 : Int32) then (1 : Int32) else 0)), .val (.int (if (0 : Int32) < p1 then (1 : Int32) else 0)), .val (.int (if p1 < (0 : Int32) then (0 : Int32) else 1)), .val (.int (if p1 < (0 : Int32) then (1 : Int32) else 0)), .val (.int (if (0 : Int32) < p1 then (0 : Int32) else 1)), .val (.int r46), .unset] [(.int (if p1 = (0 : Int32) then (1 : Int32) else 0)), (.int r49)])) _
      refine XS.ifNo X20.here hx rfl (hb hby at_200) rfl ((if0 _ _).trans (feq hc200_51).1) ?_
      show Steps p.tables e below (T20.setTop (mkF m 203 #[.val (.int p1), .val (.int r2), .val (.int r5), .val (.int r9), .val (.int (if p1 = (0 : Int32) then (1 : Int32) else 0)), .val (.int (if (0 : Int32) < p1 then (1 : Int32) else 0)), .val (.int (if p1 < (0 : Int32) then (0 : Int32) else 1)), .val (.int (if p1 < (0 : Int32) then (1 : Int32) else 0)), .val (.int (if (0 : Int32) < p1 then (0 : Int32) else 1)), .val (.int r46), .unset] [(.int r49)])) _
      refine XS.iconst X20.here hx rfl (hb hby at_203) ?_
      show Steps p.tables e below (T20.setTop (mkF m 204 #[.val (.int p1), .val (.int r2), .val (.int r5), .val (.int r9), .val (.int (if p1 = (0 : Int32) then (1 : Int32) else 0)), .val (.int (if (0 : Int32) < p1 then (1 : Int32) else 0)), .val (.int (if p1 < (0 : Int32) then (0 : Int32) else 1)), .val (.int (if p1 < (0 : Int32) then (1 : Int32) else 0)), .val (.int (if (0 : Int32) < p1 then (0 : Int32) else 1)), .val (.int r46), .unset] [(.int (1 : Int32)), (.int r49)])) _
      refine XS.goto X20.here hx rfl (pc0 := 204) (pc' := 208) rfl (hb hby at_204) (by decide) (by decide) ?_
      subst hr52
      exact kz
  refine Goes.via j200_53 ?_
  refine Goes.via (S' := T20.setTop (mkF m 211 #[.val (.int p1), .val (.int r2), .val (.int r5), .val (.int r9), .val (.int (if p1 = (0 : Int32) then (1 : Int32) else 0)), .val (.int (if (0 : Int32) < p1 then (1 : Int32) else 0)), .val (.int (if p1 < (0 : Int32) then (0 : Int32) else 1)), .val (.int (if p1 < (0 : Int32) then (1 : Int32) else 0)), .val (.int (if (0 : Int32) < p1 then (0 : Int32) else 1)), .val (.int r46), .unset] [(.int (if (0 : Int32) < p1 then (1 : Int32) else 0)), (.int (r49 + r52))])) (fun tz kz => ?_) ?_
  · show Steps p.tables e below (T20.setTop (mkF m 208 #[.val (.int p1), .val (.int r2), .val (.int r5), .val (.int r9), .val (.int (if p1 = (0 : Int32) then (1 : Int32) else 0)), .val (.int (if (0 : Int32) < p1 then (1 : Int32) else 0)), .val (.int (if p1 < (0 : Int32) then (0 : Int32) else 1)), .val (.int (if p1 < (0 : Int32) then (1 : Int32) else 0)), .val (.int (if (0 : Int32) < p1 then (0 : Int32) else 1)), .val (.int r46), .unset] [(.int r52), (.int r49)])) _
    refine XS.iadd X20.here hx rfl (hb hby at_208) rfl ?_
    show Steps p.tables e below (T20.setTop (mkF m 209 #[.val (.int p1), .val (.int r2), .val (.int r5), .val (.int r9), .val (.int (if p1 = (0 : Int32) then (1 : Int32) else 0)), .val (.int (if (0 : Int32) < p1 then (1 : Int32) else 0)), .val (.int (if p1 < (0 : Int32) then (0 : Int32) else 1)), .val (.int (if p1 < (0 : Int32) then (1 : Int32) else 0)), .val (.int (if (0 : Int32) < p1 then (0 : Int32) else 1)), .val (.int r46), .unset] [(.int (r49 + r52))])) _
    refine XS.iload X20.here hx rfl (hb hby at_209) rfl ?_
    exact kz
  obtain ⟨r55, hr55⟩ : ∃ z : Int32, z = (if (if (0 : Int32) < p1 then (1 : Int32) else 0) = (0 : Int32) then (0 : Int32) else (1 : Int32)) := ⟨_, rfl⟩
  have j211_56 : ∀ t, Steps p.tables e below (T20.setTop (mkF m 219 #[.val (.int p1), .val (.int r2), .val (.int r5), .val (.int r9), .val (.int (if p1 = (0 : Int32) then (1 : Int32) else 0)), .val (.int (if (0 : Int32) < p1 then (1 : Int32) else 0)), .val (.int (if p1 < (0 : Int32) then (0 : Int32) else 1)), .val (.int (if p1 < (0 : Int32) then (1 : Int32) else 0)), .val (.int (if (0 : Int32) < p1 then (0 : Int32) else 1)), .val (.int r46), .unset] [(.int r55), (.int (r49 + r52))])) t → Steps p.tables e below (T20.setTop (mkF m 211 #[.val (.int p1), .val (.int r2), .val (.int r5), .val (.int r9), .val (.int (if p1 = (0 : Int32) then (1 : Int32) else 0)), .val (.int (if (0 : Int32) < p1 then (1 : Int32) else 0)), .val (.int (if p1 < (0 : Int32) then (0 : Int32) else 1)), .val (.int (if p1 < (0 : Int32) then (1 : Int32) else 0)), .val (.int (if (0 : Int32) < p1 then (0 : Int32) else 1)), .val (.int r46), .unset] [(.int (if (0 : Int32) < p1 then (1 : Int32) else 0)), (.int (r49 + r52))])) t := by
    intro tz kz
    by_cases hc211_54 : (if (0 : Int32) < p1 then (1 : Int32) else 0) = (0 : Int32)
    · rw [if_pos hc211_54] at hr55
      show Steps p.tables e below (T20.setTop (mkF m 211 #[.val (.int p1), .val (.int r2), .val (.int r5), .val (.int r9), .val (.int (if p1 = (0 : Int32) then (1 : Int32) else 0)), .val (.int (if (0 : Int32) < p1 then (1 : Int32) else 0)), .val (.int (if p1 < (0 : Int32) then (0 : Int32) else 1)), .val (.int (if p1 < (0 : Int32) then (1 : Int32) else 0)), .val (.int (if (0 : Int32) < p1 then (0 : Int32) else 1)), .val (.int r46), .unset] [(.int (if (0 : Int32) < p1 then (1 : Int32) else 0)), (.int (r49 + r52))])) _
      refine XS.ifYes X20.here hx rfl (pc0 := 211) (pc' := 218) rfl (hb hby at_211) rfl ((if0 _ _).trans (teq hc211_54).1) (by decide) (by decide) ?_
      show Steps p.tables e below (T20.setTop (mkF m 218 #[.val (.int p1), .val (.int r2), .val (.int r5), .val (.int r9), .val (.int (if p1 = (0 : Int32) then (1 : Int32) else 0)), .val (.int (if (0 : Int32) < p1 then (1 : Int32) else 0)), .val (.int (if p1 < (0 : Int32) then (0 : Int32) else 1)), .val (.int (if p1 < (0 : Int32) then (1 : Int32) else 0)), .val (.int (if (0 : Int32) < p1 then (0 : Int32) else 1)), .val (.int r46), .unset] [(.int (r49 + r52))])) _
      refine XS.iconst X20.here hx rfl (hb hby at_218) ?_
      subst hr55
      exact kz
    · rw [if_neg hc211_54] at hr55
      show Steps p.tables e below (T20.setTop (mkF m 211 #[.val (.int p1), .val (.int r2), .val (.int r5), .val (.int r9), .val (.int (if p1 = (0 : Int32) then (1 : Int32) else 0)), .val (.int (if (0 : Int32) < p1 then (1 : Int32) else 0)), .val (.int (if p1 < (0 : Int32) then (0 : Int32) else 1)), .val (.int (if p1 < (0 : Int32) then (1 : Int32) else 0)), .val (.int (if (0 : Int32) < p1 then (0 : Int32) else 1)), .val (.int r46), .unset] [(.int (if (0 : Int32) < p1 then (1 : Int32) else 0)), (.int (r49 + r52))])) _
      refine XS.ifNo X20.here hx rfl (hb hby at_211) rfl ((if0 _ _).trans (feq hc211_54).1) ?_
      show Steps p.tables e below (T20.setTop (mkF m 214 #[.val (.int p1), .val (.int r2), .val (.int r5), .val (.int r9), .val (.int (if p1 = (0 : Int32) then (1 : Int32) else 0)), .val (.int (if (0 : Int32) < p1 then (1 : Int32) else 0)), .val (.int (if p1 < (0 : Int32) then (0 : Int32) else 1)), .val (.int (if p1 < (0 : Int32) then (1 : Int32) else 0)), .val (.int (if (0 : Int32) < p1 then (0 : Int32) else 1)), .val (.int r46), .unset] [(.int (r49 + r52))])) _
      refine XS.iconst X20.here hx rfl (hb hby at_214) ?_
      show Steps p.tables e below (T20.setTop (mkF m 215 #[.val (.int p1), .val (.int r2), .val (.int r5), .val (.int r9), .val (.int (if p1 = (0 : Int32) then (1 : Int32) else 0)), .val (.int (if (0 : Int32) < p1 then (1 : Int32) else 0)), .val (.int (if p1 < (0 : Int32) then (0 : Int32) else 1)), .val (.int (if p1 < (0 : Int32) then (1 : Int32) else 0)), .val (.int (if (0 : Int32) < p1 then (0 : Int32) else 1)), .val (.int r46), .unset] [(.int (1 : Int32)), (.int (r49 + r52))])) _
      refine XS.goto X20.here hx rfl (pc0 := 215) (pc' := 219) rfl (hb hby at_215) (by decide) (by decide) ?_
      subst hr55
      exact kz
  refine Goes.via j211_56 ?_
  refine Goes.via (S' := T20.setTop (mkF m 224 #[.val (.int p1), .val (.int r2), .val (.int r5), .val (.int r9), .val (.int (if p1 = (0 : Int32) then (1 : Int32) else 0)), .val (.int (if (0 : Int32) < p1 then (1 : Int32) else 0)), .val (.int (if p1 < (0 : Int32) then (0 : Int32) else 1)), .val (.int (if p1 < (0 : Int32) then (1 : Int32) else 0)), .val (.int (if (0 : Int32) < p1 then (0 : Int32) else 1)), .val (.int r46), .val (.int ((r49 + r52) + r55))] [(.int r46)])) (fun tz kz => ?_) ?_
  · show Steps p.tables e below (T20.setTop (mkF m 219 #[.val (.int p1), .val (.int r2), .val (.int r5), .val (.int r9), .val (.int (if p1 = (0 : Int32) then (1 : Int32) else 0)), .val (.int (if (0 : Int32) < p1 then (1 : Int32) else 0)), .val (.int (if p1 < (0 : Int32) then (0 : Int32) else 1)), .val (.int (if p1 < (0 : Int32) then (1 : Int32) else 0)), .val (.int (if (0 : Int32) < p1 then (0 : Int32) else 1)), .val (.int r46), .unset] [(.int r55), (.int (r49 + r52))])) _
    refine XS.iadd X20.here hx rfl (hb hby at_219) rfl ?_
    show Steps p.tables e below (T20.setTop (mkF m 220 #[.val (.int p1), .val (.int r2), .val (.int r5), .val (.int r9), .val (.int (if p1 = (0 : Int32) then (1 : Int32) else 0)), .val (.int (if (0 : Int32) < p1 then (1 : Int32) else 0)), .val (.int (if p1 < (0 : Int32) then (0 : Int32) else 1)), .val (.int (if p1 < (0 : Int32) then (1 : Int32) else 0)), .val (.int (if (0 : Int32) < p1 then (0 : Int32) else 1)), .val (.int r46), .unset] [(.int ((r49 + r52) + r55))])) _
    refine XS.istore X20.here hx rfl (hb hby at_220) rfl (l' := #[.val (.int p1), .val (.int r2), .val (.int r5), .val (.int r9), .val (.int (if p1 = (0 : Int32) then (1 : Int32) else 0)), .val (.int (if (0 : Int32) < p1 then (1 : Int32) else 0)), .val (.int (if p1 < (0 : Int32) then (0 : Int32) else 1)), .val (.int (if p1 < (0 : Int32) then (1 : Int32) else 0)), .val (.int (if (0 : Int32) < p1 then (0 : Int32) else 1)), .val (.int r46), .val (.int ((r49 + r52) + r55))]) rfl ?_
    show Steps p.tables e below (T20.setTop (mkF m 222 #[.val (.int p1), .val (.int r2), .val (.int r5), .val (.int r9), .val (.int (if p1 = (0 : Int32) then (1 : Int32) else 0)), .val (.int (if (0 : Int32) < p1 then (1 : Int32) else 0)), .val (.int (if p1 < (0 : Int32) then (0 : Int32) else 1)), .val (.int (if p1 < (0 : Int32) then (1 : Int32) else 0)), .val (.int (if (0 : Int32) < p1 then (0 : Int32) else 1)), .val (.int r46), .val (.int ((r49 + r52) + r55))] [])) _
    refine XS.iload X20.here hx rfl (hb hby at_222) rfl ?_
    exact kz
  obtain ⟨r59, hr59⟩ : ∃ z : Int32, z = (if r46 = (0 : Int32) then (0 : Int32) else (if ((r49 + r52) + r55) = (1 : Int32) then (1 : Int32) else (0 : Int32))) := ⟨_, rfl⟩
  have j224_60 : ∀ t, Steps p.tables e below (T20.setTop (mkF m 238 #[.val (.int p1), .val (.int r2), .val (.int r5), .val (.int r9), .val (.int (if p1 = (0 : Int32) then (1 : Int32) else 0)), .val (.int (if (0 : Int32) < p1 then (1 : Int32) else 0)), .val (.int (if p1 < (0 : Int32) then (0 : Int32) else 1)), .val (.int (if p1 < (0 : Int32) then (1 : Int32) else 0)), .val (.int (if (0 : Int32) < p1 then (0 : Int32) else 1)), .val (.int r46), .val (.int ((r49 + r52) + r55))] [(.int r59)])) t → Steps p.tables e below (T20.setTop (mkF m 224 #[.val (.int p1), .val (.int r2), .val (.int r5), .val (.int r9), .val (.int (if p1 = (0 : Int32) then (1 : Int32) else 0)), .val (.int (if (0 : Int32) < p1 then (1 : Int32) else 0)), .val (.int (if p1 < (0 : Int32) then (0 : Int32) else 1)), .val (.int (if p1 < (0 : Int32) then (1 : Int32) else 0)), .val (.int (if (0 : Int32) < p1 then (0 : Int32) else 1)), .val (.int r46), .val (.int ((r49 + r52) + r55))] [(.int r46)])) t := by
    intro tz kz
    by_cases hc224_57 : r46 = (0 : Int32)
    · rw [if_pos hc224_57] at hr59
      show Steps p.tables e below (T20.setTop (mkF m 224 #[.val (.int p1), .val (.int r2), .val (.int r5), .val (.int r9), .val (.int (if p1 = (0 : Int32) then (1 : Int32) else 0)), .val (.int (if (0 : Int32) < p1 then (1 : Int32) else 0)), .val (.int (if p1 < (0 : Int32) then (0 : Int32) else 1)), .val (.int (if p1 < (0 : Int32) then (1 : Int32) else 0)), .val (.int (if (0 : Int32) < p1 then (0 : Int32) else 1)), .val (.int r46), .val (.int ((r49 + r52) + r55))] [(.int r46)])) _
      refine XS.ifYes X20.here hx rfl (pc0 := 224) (pc' := 237) rfl (hb hby at_224) rfl ((if0 _ _).trans (teq hc224_57).1) (by decide) (by decide) ?_
      show Steps p.tables e below (T20.setTop (mkF m 237 #[.val (.int p1), .val (.int r2), .val (.int r5), .val (.int r9), .val (.int (if p1 = (0 : Int32) then (1 : Int32) else 0)), .val (.int (if (0 : Int32) < p1 then (1 : Int32) else 0)), .val (.int (if p1 < (0 : Int32) then (0 : Int32) else 1)), .val (.int (if p1 < (0 : Int32) then (1 : Int32) else 0)), .val (.int (if (0 : Int32) < p1 then (0 : Int32) else 1)), .val (.int r46), .val (.int ((r49 + r52) + r55))] [])) _
      refine XS.iconst X20.here hx rfl (hb hby at_237) ?_
      subst hr59
      exact kz
    · rw [if_neg hc224_57] at hr59
      show Steps p.tables e below (T20.setTop (mkF m 224 #[.val (.int p1), .val (.int r2), .val (.int r5), .val (.int r9), .val (.int (if p1 = (0 : Int32) then (1 : Int32) else 0)), .val (.int (if (0 : Int32) < p1 then (1 : Int32) else 0)), .val (.int (if p1 < (0 : Int32) then (0 : Int32) else 1)), .val (.int (if p1 < (0 : Int32) then (1 : Int32) else 0)), .val (.int (if (0 : Int32) < p1 then (0 : Int32) else 1)), .val (.int r46), .val (.int ((r49 + r52) + r55))] [(.int r46)])) _
      refine XS.ifNo X20.here hx rfl (hb hby at_224) rfl ((if0 _ _).trans (feq hc224_57).1) ?_
      show Steps p.tables e below (T20.setTop (mkF m 227 #[.val (.int p1), .val (.int r2), .val (.int r5), .val (.int r9), .val (.int (if p1 = (0 : Int32) then (1 : Int32) else 0)), .val (.int (if (0 : Int32) < p1 then (1 : Int32) else 0)), .val (.int (if p1 < (0 : Int32) then (0 : Int32) else 1)), .val (.int (if p1 < (0 : Int32) then (1 : Int32) else 0)), .val (.int (if (0 : Int32) < p1 then (0 : Int32) else 1)), .val (.int r46), .val (.int ((r49 + r52) + r55))] [])) _
      refine XS.iload X20.here hx rfl (hb hby at_227) rfl ?_
      show Steps p.tables e below (T20.setTop (mkF m 229 #[.val (.int p1), .val (.int r2), .val (.int r5), .val (.int r9), .val (.int (if p1 = (0 : Int32) then (1 : Int32) else 0)), .val (.int (if (0 : Int32) < p1 then (1 : Int32) else 0)), .val (.int (if p1 < (0 : Int32) then (0 : Int32) else 1)), .val (.int (if p1 < (0 : Int32) then (1 : Int32) else 0)), .val (.int (if (0 : Int32) < p1 then (0 : Int32) else 1)), .val (.int r46), .val (.int ((r49 + r52) + r55))] [(.int ((r49 + r52) + r55))])) _
      refine XS.iconst X20.here hx rfl (hb hby at_229) ?_
      by_cases hc230_58 : ((r49 + r52) + r55) = (1 : Int32)
      · rw [if_pos hc230_58] at hr59
        show Steps p.tables e below (T20.setTop (mkF m 230 #[.val (.int p1), .val (.int r2), .val (.int r5), .val (.int r9), .val (.int (if p1 = (0 : Int32) then (1 : Int32) else 0)), .val (.int (if (0 : Int32) < p1 then (1 : Int32) else 0)), .val (.int (if p1 < (0 : Int32) then (0 : Int32) else 1)), .val (.int (if p1 < (0 : Int32) then (1 : Int32) else 0)), .val (.int (if (0 : Int32) < p1 then (0 : Int32) else 1)), .val (.int r46), .val (.int ((r49 + r52) + r55))] [(.int (1 : Int32)), (.int ((r49 + r52) + r55))])) _
        refine XS.icmpNo X20.here hx rfl (hb hby at_230) rfl (teq hc230_58).2 ?_
        show Steps p.tables e below (T20.setTop (mkF m 233 #[.val (.int p1), .val (.int r2), .val (.int r5), .val (.int r9), .val (.int (if p1 = (0 : Int32) then (1 : Int32) else 0)), .val (.int (if (0 : Int32) < p1 then (1 : Int32) else 0)), .val (.int (if p1 < (0 : Int32) then (0 : Int32) else 1)), .val (.int (if p1 < (0 : Int32) then (1 : Int32) else 0)), .val (.int (if (0 : Int32) < p1 then (0 : Int32) else 1)), .val (.int r46), .val (.int ((r49 + r52) + r55))] [])) _
        refine XS.iconst X20.here hx rfl (hb hby at_233) ?_
        show Steps p.tables e below (T20.setTop (mkF m 234 #[.val (.int p1), .val (.int r2), .val (.int r5), .val (.int r9), .val (.int (if p1 = (0 : Int32) then (1 : Int32) else 0)), .val (.int (if (0 : Int32) < p1 then (1 : Int32) else 0)), .val (.int (if p1 < (0 : Int32) then (0 : Int32) else 1)), .val (.int (if p1 < (0 : Int32) then (1 : Int32) else 0)), .val (.int (if (0 : Int32) < p1 then (0 : Int32) else 1)), .val (.int r46), .val (.int ((r49 + r52) + r55))] [(.int (1 : Int32))])) _
        refine XS.goto X20.here hx rfl (pc0 := 234) (pc' := 238) rfl (hb hby at_234) (by decide) (by decide) ?_
        subst hr59
        exact kz
      · rw [if_neg hc230_58] at hr59
        show Steps p.tables e below (T20.setTop (mkF m 230 #[.val (.int p1), .val (.int r2), .val (.int r5), .val (.int r9), .val (.int (if p1 = (0 : Int32) then (1 : Int32) else 0)), .val (.int (if (0 : Int32) < p1 then (1 : Int32) else 0)), .val (.int (if p1 < (0 : Int32) then (0 : Int32) else 1)), .val (.int (if p1 < (0 : Int32) then (1 : Int32) else 0)), .val (.int (if (0 : Int32) < p1 then (0 : Int32) else 1)), .val (.int r46), .val (.int ((r49 + r52) + r55))] [(.int (1 : Int32)), (.int ((r49 + r52) + r55))])) _
        refine XS.icmpYes X20.here hx rfl (pc0 := 230) (pc' := 237) rfl (hb hby at_230) rfl (feq hc230_58).2 (by decide) (by decide) ?_
        show Steps p.tables e below (T20.setTop (mkF m 237 #[.val (.int p1), .val (.int r2), .val (.int r5), .val (.int r9), .val (.int (if p1 = (0 : Int32) then (1 : Int32) else 0)), .val (.int (if (0 : Int32) < p1 then (1 : Int32) else 0)), .val (.int (if p1 < (0 : Int32) then (0 : Int32) else 1)), .val (.int (if p1 < (0 : Int32) then (1 : Int32) else 0)), .val (.int (if (0 : Int32) < p1 then (0 : Int32) else 1)), .val (.int r46), .val (.int ((r49 + r52) + r55))] [])) _
        refine XS.iconst X20.here hx rfl (hb hby at_237) ?_
        subst hr59
        exact kz
  refine Goes.via j224_60 ?_
  refine Goes.via (S' := T20.setTop (mkF m 242 #[.val (.int p1), .val (.int r2), .val (.int r5), .val (.int r9), .val (.int (if p1 = (0 : Int32) then (1 : Int32) else 0)), .val (.int (if (0 : Int32) < p1 then (1 : Int32) else 0)), .val (.int (if p1 < (0 : Int32) then (0 : Int32) else 1)), .val (.int (if p1 < (0 : Int32) then (1 : Int32) else 0)), .val (.int (if (0 : Int32) < p1 then (0 : Int32) else 1)), .val (.int r59), .val (.int ((r49 + r52) + r55))] [(.int r59)])) (fun tz kz => ?_) ?_
  · show Steps p.tables e below (T20.setTop (mkF m 238 #[.val (.int p1), .val (.int r2), .val (.int r5), .val (.int r9), .val (.int (if p1 = (0 : Int32) then (1 : Int32) else 0)), .val (.int (if (0 : Int32) < p1 then (1 : Int32) else 0)), .val (.int (if p1 < (0 : Int32) then (0 : Int32) else 1)), .val (.int (if p1 < (0 : Int32) then (1 : Int32) else 0)), .val (.int (if (0 : Int32) < p1 then (0 : Int32) else 1)), .val (.int r46), .val (.int ((r49 + r52) + r55))] [(.int r59)])) _
    refine XS.istore X20.here hx rfl (hb hby at_238) rfl (l' := #[.val (.int p1), .val (.int r2), .val (.int r5), .val (.int r9), .val (.int (if p1 = (0 : Int32) then (1 : Int32) else 0)), .val (.int (if (0 : Int32) < p1 then (1 : Int32) else 0)), .val (.int (if p1 < (0 : Int32) then (0 : Int32) else 1)), .val (.int (if p1 < (0 : Int32) then (1 : Int32) else 0)), .val (.int (if (0 : Int32) < p1 then (0 : Int32) else 1)), .val (.int r59), .val (.int ((r49 + r52) + r55))]) rfl ?_
    show Steps p.tables e below (T20.setTop (mkF m 240 #[.val (.int p1), .val (.int r2), .val (.int r5), .val (.int r9), .val (.int (if p1 = (0 : Int32) then (1 : Int32) else 0)), .val (.int (if (0 : Int32) < p1 then (1 : Int32) else 0)), .val (.int (if p1 < (0 : Int32) then (0 : Int32) else 1)), .val (.int (if p1 < (0 : Int32) then (1 : Int32) else 0)), .val (.int (if (0 : Int32) < p1 then (0 : Int32) else 1)), .val (.int r59), .val (.int ((r49 + r52) + r55))] [])) _
    refine XS.iload X20.here hx rfl (hb hby at_240) rfl ?_
    exact kz
  obtain ⟨r65, hr65⟩ : ∃ z : Int32, z = (if r59 = (0 : Int32) then (0 : Int32) else (if (if p1 < (0 : Int32) then (1 : Int32) else 0) = (0 : Int32) then (if (if p1 < (0 : Int32) then (0 : Int32) else 1) = (1 : Int32) then (1 : Int32) else (0 : Int32)) else (if (if p1 < (0 : Int32) then (0 : Int32) else 1) = (0 : Int32) then (1 : Int32) else (0 : Int32)))) := ⟨_, rfl⟩
  have j242_66 : ∀ t, Steps p.tables e below (T20.setTop (mkF m 265 #[.val (.int p1), .val (.int r2), .val (.int r5), .val (.int r9), .val (.int (if p1 = (0 : Int32) then (1 : Int32) else 0)), .val (.int (if (0 : Int32) < p1 then (1 : Int32) else 0)), .val (.int (if p1 < (0 : Int32) then (0 : Int32) else 1)), .val (.int (if p1 < (0 : Int32) then (1 : Int32) else 0)), .val (.int (if (0 : Int32) < p1 then (0 : Int32) else 1)), .val (.int r59), .val (.int ((r49 + r52) + r55))] [(.int r65)])) t → Steps p.tables e below (T20.setTop (mkF m 242 #[.val (.int p1), .val (.int r2), .val (.int r5), .val (.int r9), .val (.int (if p1 = (0 : Int32) then (1 : Int32) else 0)), .val (.int (if (0 : Int32) < p1 then (1 : Int32) else 0)), .val (.int (if p1 < (0 : Int32) then (0 : Int32) else 1)), .val (.int (if p1 < (0 : Int32) then (1 : Int32) else 0)), .val (.int (if (0 : Int32) < p1 then (0 : Int32) else 1)), .val (.int r59), .val (.int ((r49 + r52) + r55))] [(.int r59)])) t := by
    intro tz kz
    by_cases hc242_61 : r59 = (0 : Int32)
    · rw [if_pos hc242_61] at hr65
      show Steps p.tables e below (T20.setTop (mkF m 242 #[.val (.int p1), .val (.int r2), .val (.int r5), .val (.int r9), .val (.int (if p1 = (0 : Int32) then (1 : Int32) else 0)), .val (.int (if (0 : Int32) < p1 then (1 : Int32) else 0)), .val (.int (if p1 < (0 : Int32) then (0 : Int32) else 1)), .val (.int (if p1 < (0 : Int32) then (1 : Int32) else 0)), .val (.int (if (0 : Int32) < p1 then (0 : Int32) else 1)), .val (.int r59), .val (.int ((r49 + r52) + r55))] [(.int r59)])) _
      refine XS.ifYes X20.here hx rfl (pc0 := 242) (pc' := 264) rfl (hb hby at_242) rfl ((if0 _ _).trans (teq hc242_61).1) (by decide) (by decide) ?_
      show Steps p.tables e below (T20.setTop (mkF m 264 #[.val (.int p1), .val (.int r2), .val (.int r5), .val (.int r9), .val (.int (if p1 = (0 : Int32) then (1 : Int32) else 0)), .val (.int (if (0 : Int32) < p1 then (1 : Int32) else 0)), .val (.int (if p1 < (0 : Int32) then (0 : Int32) else 1)), .val (.int (if p1 < (0 : Int32) then (1 : Int32) else 0)), .val (.int (if (0 : Int32) < p1 then (0 : Int32) else 1)), .val (.int r59), .val (.int ((r49 + r52) + r55))] [])) _
      refine XS.iconst X20.here hx rfl (hb hby at_264) ?_
      subst hr65
      exact kz
    · rw [if_neg hc242_61] at hr65
      show Steps p.tables e below (T20.setTop (mkF m 242 #[.val (.int p1), .val (.int r2), .val (.int r5), .val (.int r9), .val (.int (if p1 = (0 : Int32) then (1 : Int32) else 0)), .val (.int (if (0 : Int32) < p1 then (1 : Int32) else 0)), .val (.int (if p1 < (0 : Int32) then (0 : Int32) else 1)), .val (.int (if p1 < (0 : Int32) then (1 : Int32) else 0)), .val (.int (if (0 : Int32) < p1 then (0 : Int32) else 1)), .val (.int r59), .val (.int ((r49 + r52) + r55))] [(.int r59)])) _
      refine XS.ifNo X20.here hx rfl (hb hby at_242) rfl ((if0 _ _).trans (feq hc242_61).1) ?_
      show Steps p.tables e below (T20.setTop (mkF m 245 #[.val (.int p1), .val (.int r2), .val (.int r5), .val (.int r9), .val (.int (if p1 = (0 : Int32) then (1 : Int32) else 0)), .val (.int (if (0 : Int32) < p1 then (1 : Int32) else 0)), .val (.int (if p1 < (0 : Int32) then (0 : Int32) else 1)), .val (.int (if p1 < (0 : Int32) then (1 : Int32) else 0)), .val (.int (if (0 : Int32) < p1 then (0 : Int32) else 1)), .val (.int r59), .val (.int ((r49 + r52) + r55))] [])) _
      refine XS.iload X20.here hx rfl (hb hby at_245) rfl ?_
      show Steps p.tables e below (T20.setTop (mkF m 247 #[.val (.int p1), .val (.int r2), .val (.int r5), .val (.int r9), .val (.int (if p1 = (0 : Int32) then (1 : Int32) else 0)), .val (.int (if (0 : Int32) < p1 then (1 : Int32) else 0)), .val (.int (if p1 < (0 : Int32) then (0 : Int32) else 1)), .val (.int (if p1 < (0 : Int32) then (1 : Int32) else 0)), .val (.int (if (0 : Int32) < p1 then (0 : Int32) else 1)), .val (.int r59), .val (.int ((r49 + r52) + r55))] [(.int (if p1 < (0 : Int32) then (0 : Int32) else 1))])) _
      refine XS.iload X20.here hx rfl (hb hby at_247) rfl ?_
      by_cases hc249_62 : (if p1 < (0 : Int32) then (1 : Int32) else 0) = (0 : Int32)
      · rw [if_pos hc249_62] at hr65
        show Steps p.tables e below (T20.setTop (mkF m 249 #[.val (.int p1), .val (.int r2), .val (.int r5), .val (.int r9), .val (.int (if p1 = (0 : Int32) then (1 : Int32) else 0)), .val (.int (if (0 : Int32) < p1 then (1 : Int32) else 0)), .val (.int (if p1 < (0 : Int32) then (0 : Int32) else 1)), .val (.int (if p1 < (0 : Int32) then (1 : Int32) else 0)), .val (.int (if (0 : Int32) < p1 then (0 : Int32) else 1)), .val (.int r59), .val (.int ((r49 + r52) + r55))] [(.int (if p1 < (0 : Int32) then (1 : Int32) else 0)), (.int (if p1 < (0 : Int32) then (0 : Int32) else 1))])) _
        refine XS.ifNo X20.here hx rfl (hb hby at_249) rfl ((if0 _ _).trans (teq hc249_62).2) ?_
        show Steps p.tables e below (T20.setTop (mkF m 252 #[.val (.int p1), .val (.int r2), .val (.int r5), .val (.int r9), .val (.int (if p1 = (0 : Int32) then (1 : Int32) else 0)), .val (.int (if (0 : Int32) < p1 then (1 : Int32) else 0)), .val (.int (if p1 < (0 : Int32) then (0 : Int32) else 1)), .val (.int (if p1 < (0 : Int32) then (1 : Int32) else 0)), .val (.int (if (0 : Int32) < p1 then (0 : Int32) else 1)), .val (.int r59), .val (.int ((r49 + r52) + r55))] [(.int (if p1 < (0 : Int32) then (0 : Int32) else 1))])) _
        refine XS.iconst X20.here hx rfl (hb hby at_252) ?_
        show Steps p.tables e below (T20.setTop (mkF m 253 #[.val (.int p1), .val (.int r2), .val (.int r5), .val (.int r9), .val (.int (if p1 = (0 : Int32) then (1 : Int32) else 0)), .val (.int (if (0 : Int32) < p1 then (1 : Int32) else 0)), .val (.int (if p1 < (0 : Int32) then (0 : Int32) else 1)), .val (.int (if p1 < (0 : Int32) then (1 : Int32) else 0)), .val (.int (if (0 : Int32) < p1 then (0 : Int32) else 1)), .val (.int r59), .val (.int ((r49 + r52) + r55))] [(.int (1 : Int32)), (.int (if p1 < (0 : Int32) then (0 : Int32) else 1))])) _
        refine XS.goto X20.here hx rfl (pc0 := 253) (pc' := 257) rfl (hb hby at_253) (by decide) (by decide) ?_
        by_cases hc257_63 : (if p1 < (0 : Int32) then (0 : Int32) else 1) = (1 : Int32)
        · rw [if_pos hc257_63] at hr65
          show Steps p.tables e below (T20.setTop (mkF m 257 #[.val (.int p1), .val (.int r2), .val (.int r5), .val (.int r9), .val (.int (if p1 = (0 : Int32) then (1 : Int32) else 0)), .val (.int (if (0 : Int32) < p1 then (1 : Int32) else 0)), .val (.int (if p1 < (0 : Int32) then (0 : Int32) else 1)), .val (.int (if p1 < (0 : Int32) then (1 : Int32) else 0)), .val (.int (if (0 : Int32) < p1 then (0 : Int32) else 1)), .val (.int r59), .val (.int ((r49 + r52) + r55))] [(.int (1 : Int32)), (.int (if p1 < (0 : Int32) then (0 : Int32) else 1))])) _
          refine XS.icmpNo X20.here hx rfl (hb hby at_257) rfl (teq hc257_63).2 ?_
          show Steps p.tables e below (T20.setTop (mkF m 260 #[.val (.int p1), .val (.int r2), .val (.int r5), .val (.int r9), .val (.int (if p1 = (0 : Int32) then (1 : Int32) else 0)), .val (.int (if (0 : Int32) < p1 then (1 : Int32) else 0)), .val (.int (if p1 < (0 : Int32) then (0 : Int32) else 1)), .val (.int (if p1 < (0 : Int32) then (1 : Int32) else 0)), .val (.int (if (0 : Int32) < p1 then (0 : Int32) else 1)), .val (.int r59), .val (.int ((r49 + r52) + r55))] [])) _
          refine XS.iconst X20.here hx rfl (hb hby at_260) ?_
          show Steps p.tables e below (T20.setTop (mkF m 261 #[.val (.int p1), .val (.int r2), .val (.int r5), .val (.int r9), .val (.int (if p1 = (0 : Int32) then (1 : Int32) else 0)), .val (.int (if (0 : Int32) < p1 then (1 : Int32) else 0)), .val (.int (if p1 < (0 : Int32) then (0 : Int32) else 1)), .val (.int (if p1 < (0 : Int32) then (1 : Int32) else 0)), .val (.int (if (0 : Int32) < p1 then (0 : Int32) else 1)), .val (.int r59), .val (.int ((r49 + r52) + r55))] [(.int (1 : Int32))])) _
          refine XS.goto X20.here hx rfl (pc0 := 261) (pc' := 265) rfl (hb hby at_261) (by decide) (by decide) ?_
          subst hr65
          exact kz
        · rw [if_neg hc257_63] at hr65
          show Steps p.tables e below (T20.setTop (mkF m 257 #[.val (.int p1), .val (.int r2), .val (.int r5), .val (.int r9), .val (.int (if p1 = (0 : Int32) then (1 : Int32) else 0)), .val (.int (if (0 : Int32) < p1 then (1 : Int32) else 0)), .val (.int (if p1 < (0 : Int32) then (0 : Int32) else 1)), .val (.int (if p1 < (0 : Int32) then (1 : Int32) else 0)), .val (.int (if (0 : Int32) < p1 then (0 : Int32) else 1)), .val (.int r59), .val (.int ((r49 + r52) + r55))] [(.int (1 : Int32)), (.int (if p1 < (0 : Int32) then (0 : Int32) else 1))])) _
          refine XS.icmpYes X20.here hx rfl (pc0 := 257) (pc' := 264) rfl (hb hby at_257) rfl (feq hc257_63).2 (by decide) (by decide) ?_
          show Steps p.tables e below (T20.setTop (mkF m 264 #[.val (.int p1), .val (.int r2), .val (.int r5), .val (.int r9), .val (.int (if p1 = (0 : Int32) then (1 : Int32) else 0)), .val (.int (if (0 : Int32) < p1 then (1 : Int32) else 0)), .val (.int (if p1 < (0 : Int32) then (0 : Int32) else 1)), .val (.int (if p1 < (0 : Int32) then (1 : Int32) else 0)), .val (.int (if (0 : Int32) < p1 then (0 : Int32) else 1)), .val (.int r59), .val (.int ((r49 + r52) + r55))] [])) _
          refine XS.iconst X20.here hx rfl (hb hby at_264) ?_
          subst hr65
          exact kz
      · rw [if_neg hc249_62] at hr65
        show Steps p.tables e below (T20.setTop (mkF m 249 #[.val (.int p1), .val (.int r2), .val (.int r5), .val (.int r9), .val (.int (if p1 = (0 : Int32) then (1 : Int32) else 0)), .val (.int (if (0 : Int32) < p1 then (1 : Int32) else 0)), .val (.int (if p1 < (0 : Int32) then (0 : Int32) else 1)), .val (.int (if p1 < (0 : Int32) then (1 : Int32) else 0)), .val (.int (if (0 : Int32) < p1 then (0 : Int32) else 1)), .val (.int r59), .val (.int ((r49 + r52) + r55))] [(.int (if p1 < (0 : Int32) then (1 : Int32) else 0)), (.int (if p1 < (0 : Int32) then (0 : Int32) else 1))])) _
        refine XS.ifYes X20.here hx rfl (pc0 := 249) (pc' := 256) rfl (hb hby at_249) rfl ((if0 _ _).trans (feq hc249_62).2) (by decide) (by decide) ?_
        show Steps p.tables e below (T20.setTop (mkF m 256 #[.val (.int p1), .val (.int r2), .val (.int r5), .val (.int r9), .val (.int (if p1 = (0 : Int32) then (1 : Int32) else 0)), .val (.int (if (0 : Int32) < p1 then (1 : Int32) else 0)), .val (.int (if p1 < (0 : Int32) then (0 : Int32) else 1)), .val (.int (if p1 < (0 : Int32) then (1 : Int32) else 0)), .val (.int (if (0 : Int32) < p1 then (0 : Int32) else 1)), .val (.int r59), .val (.int ((r49 + r52) + r55))] [(.int (if p1 < (0 : Int32) then (0 : Int32) else 1))])) _
        refine XS.iconst X20.here hx rfl (hb hby at_256) ?_
        by_cases hc257_64 : (if p1 < (0 : Int32) then (0 : Int32) else 1) = (0 : Int32)
        · rw [if_pos hc257_64] at hr65
          show Steps p.tables e below (T20.setTop (mkF m 257 #[.val (.int p1), .val (.int r2), .val (.int r5), .val (.int r9), .val (.int (if p1 = (0 : Int32) then (1 : Int32) else 0)), .val (.int (if (0 : Int32) < p1 then (1 : Int32) else 0)), .val (.int (if p1 < (0 : Int32) then (0 : Int32) else 1)), .val (.int (if p1 < (0 : Int32) then (1 : Int32) else 0)), .val (.int (if (0 : Int32) < p1 then (0 : Int32) else 1)), .val (.int r59), .val (.int ((r49 + r52) + r55))] [(.int (0 : Int32)), (.int (if p1 < (0 : Int32) then (0 : Int32) else 1))])) _
          refine XS.icmpNo X20.here hx rfl (hb hby at_257) rfl (teq hc257_64).2 ?_
          show Steps p.tables e below (T20.setTop (mkF m 260 #[.val (.int p1), .val (.int r2), .val (.int r5), .val (.int r9), .val (.int (if p1 = (0 : Int32) then (1 : Int32) else 0)), .val (.int (if (0 : Int32) < p1 then (1 : Int32) else 0)), .val (.int (if p1 < (0 : Int32) then (0 : Int32) else 1)), .val (.int (if p1 < (0 : Int32) then (1 : Int32) else 0)), .val (.int (if (0 : Int32) < p1 then (0 : Int32) else 1)), .val (.int r59), .val (.int ((r49 + r52) + r55))] [])) _
          refine XS.iconst X20.here hx rfl (hb hby at_260) ?_
          show Steps p.tables e below (T20.setTop (mkF m 261 #[.val (.int p1), .val (.int r2), .val (.int r5), .val (.int r9), .val (.int (if p1 = (0 : Int32) then (1 : Int32) else 0)), .val (.int (if (0 : Int32) < p1 then (1 : Int32) else 0)), .val (.int (if p1 < (0 : Int32) then (0 : Int32) else 1)), .val (.int (if p1 < (0 : Int32) then (1 : Int32) else 0)), .val (.int (if (0 : Int32) < p1 then (0 : Int32) else 1)), .val (.int r59), .val (.int ((r49 + r52) + r55))] [(.int (1 : Int32))])) _
          refine XS.goto X20.here hx rfl (pc0 := 261) (pc' := 265) rfl (hb hby at_261) (by decide) (by decide) ?_
          subst hr65
          exact kz
        · rw [if_neg hc257_64] at hr65
          show Steps p.tables e below (T20.setTop (mkF m 257 #[.val (.int p1), .val (.int r2), .val (.int r5), .val (.int r9), .val (.int (if p1 = (0 : Int32) then (1 : Int32) else 0)), .val (.int (if (0 : Int32) < p1 then (1 : Int32) else 0)), .val (.int (if p1 < (0 : Int32) then (0 : Int32) else 1)), .val (.int (if p1 < (0 : Int32) then (1 : Int32) else 0)), .val (.int (if (0 : Int32) < p1 then (0 : Int32) else 1)), .val (.int r59), .val (.int ((r49 + r52) + r55))] [(.int (0 : Int32)), (.int (if p1 < (0 : Int32) then (0 : Int32) else 1))])) _
          refine XS.icmpYes X20.here hx rfl (pc0 := 257) (pc' := 264) rfl (hb hby at_257) rfl (feq hc257_64).2 (by decide) (by decide) ?_
          show Steps p.tables e below (T20.setTop (mkF m 264 #[.val (.int p1), .val (.int r2), .val (.int r5), .val (.int r9), .val (.int (if p1 = (0 : Int32) then (1 : Int32) else 0)), .val (.int (if (0 : Int32) < p1 then (1 : Int32) else 0)), .val (.int (if p1 < (0 : Int32) then (0 : Int32) else 1)), .val (.int (if p1 < (0 : Int32) then (1 : Int32) else 0)), .val (.int (if (0 : Int32) < p1 then (0 : Int32) else 1)), .val (.int r59), .val (.int ((r49 + r52) + r55))] [])) _
          refine XS.iconst X20.here hx rfl (hb hby at_264) ?_
          subst hr65
          exact kz
  refine Goes.via j242_66 ?_
  refine Goes.via (S' := T20.setTop (mkF m 269 #[.val (.int p1), .val (.int r2), .val (.int r5), .val (.int r9), .val (.int (if p1 = (0 : Int32) then (1 : Int32) else 0)), .val (.int (if (0 : Int32) < p1 then (1 : Int32) else 0)), .val (.int (if p1 < (0 : Int32) then (0 : Int32) else 1)), .val (.int (if p1 < (0 : Int32) then (1 : Int32) else 0)), .val (.int (if (0 : Int32) < p1 then (0 : Int32) else 1)), .val (.int r65), .val (.int ((r49 + r52) + r55))] [(.int r65)])) (fun tz kz => ?_) ?_
  · show Steps p.tables e below (T20.setTop (mkF m 265 #[.val (.int p1), .val (.int r2), .val (.int r5), .val (.int r9), .val (.int (if p1 = (0 : Int32) then (1 : Int32) else 0)), .val (.int (if (0 : Int32) < p1 then (1 : Int32) else 0)), .val (.int (if p1 < (0 : Int32) then (0 : Int32) else 1)), .val (.int (if p1 < (0 : Int32) then (1 : Int32) else 0)), .val (.int (if (0 : Int32) < p1 then (0 : Int32) else 1)), .val (.int r59), .val (.int ((r49 + r52) + r55))] [(.int r65)])) _
    refine XS.istore X20.here hx rfl (hb hby at_265) rfl (l' := #[.val (.int p1), .val (.int r2), .val (.int r5), .val (.int r9), .val (.int (if p1 = (0 : Int32) then (1 : Int32) else 0)), .val (.int (if (0 : Int32) < p1 then (1 : Int32) else 0)), .val (.int (if p1 < (0 : Int32) then (0 : Int32) else 1)), .val (.int (if p1 < (0 : Int32) then (1 : Int32) else 0)), .val (.int (if (0 : Int32) < p1 then (0 : Int32) else 1)), .val (.int r65), .val (.int ((r49 + r52) + r55))]) rfl ?_
    show Steps p.tables e below (T20.setTop (mkF m 267 #[.val (.int p1), .val (.int r2), .val (.int r5), .val (.int r9), .val (.int (if p1 = (0 : Int32) then (1 : Int32) else 0)), .val (.int (if (0 : Int32) < p1 then (1 : Int32) else 0)), .val (.int (if p1 < (0 : Int32) then (0 : Int32) else 1)), .val (.int (if p1 < (0 : Int32) then (1 : Int32) else 0)), .val (.int (if (0 : Int32) < p1 then (0 : Int32) else 1)), .val (.int r65), .val (.int ((r49 + r52) + r55))] [])) _
    refine XS.iload X20.here hx rfl (hb hby at_267) rfl ?_
    exact kz
  obtain ⟨r71, hr71⟩ : ∃ z : Int32, z = (if r65 = (0 : Int32) then (0 : Int32) else (if (if (0 : Int32) < p1 then (1 : Int32) else 0) = (0 : Int32) then (if (if (0 : Int32) < p1 then (0 : Int32) else 1) = (1 : Int32) then (1 : Int32) else (0 : Int32)) else (if (if (0 : Int32) < p1 then (0 : Int32) else 1) = (0 : Int32) then (1 : Int32) else (0 : Int32)))) := ⟨_, rfl⟩
  have j269_72 : ∀ t, Steps p.tables e below (T20.setTop (mkF m 292 #[.val (.int p1), .val (.int r2), .val (.int r5), .val (.int r9), .val (.int (if p1 = (0 : Int32) then (1 : Int32) else 0)), .val (.int (if (0 : Int32) < p1 then (1 : Int32) else 0)), .val (.int (if p1 < (0 : Int32) then (0 : Int32) else 1)), .val (.int (if p1 < (0 : Int32) then (1 : Int32) else 0)), .val (.int (if (0 : Int32) < p1 then (0 : Int32) else 1)), .val (.int r65), .val (.int ((r49 + r52) + r55))] [(.int r71)])) t → Steps p.tables e below (T20.setTop (mkF m 269 #[.val (.int p1), .val (.int r2), .val (.int r5), .val (.int r9), .val (.int (if p1 = (0 : Int32) then (1 : Int32) else 0)), .val (.int (if (0 : Int32) < p1 then (1 : Int32) else 0)), .val (.int (if p1 < (0 : Int32) then (0 : Int32) else 1)), .val (.int (if p1 < (0 : Int32) then (1 : Int32) else 0)), .val (.int (if (0 : Int32) < p1 then (0 : Int32) else 1)), .val (.int r65), .val (.int ((r49 + r52) + r55))] [(.int r65)])) t := by
    intro tz kz
    by_cases hc269_67 : r65 = (0 : Int32)
    · rw [if_pos hc269_67] at hr71
      show Steps p.tables e below (T20.setTop (mkF m 269 #[.val (.int p1), .val (.int r2), .val (.int r5), .val (.int r9), .val (.int (if p1 = (0 : Int32) then (1 : Int32) else 0)), .val (.int (if (0 : Int32) < p1 then (1 : Int32) else 0)), .val (.int (if p1 < (0 : Int32) then (0 : Int32) else 1)), .val (.int (if p1 < (0 : Int32) then (1 : Int32) else 0)), .val (.int (if (0 : Int32) < p1 then (0 : Int32) else 1)), .val (.int r65), .val (.int ((r49 + r52) + r55))] [(.int r65)])) _
      refine XS.ifYes X20.here hx rfl (pc0 := 269) (pc' := 291) rfl (hb hby at_269) rfl ((if0 _ _).trans (teq hc269_67).1) (by decide) (by decide) ?_
      show Steps p.tables e below (T20.setTop (mkF m 291 #[.val (.int p1), .val (.int r2), .val (.int r5), .val (.int r9), .val (.int (if p1 = (0 : Int32) then (1 : Int32) else 0)), .val (.int (if (0 : Int32) < p1 then (1 : Int32) else 0)), .val (.int (if p1 < (0 : Int32) then (0 : Int32) else 1)), .val (.int (if p1 < (0 : Int32) then (1 : Int32) else 0)), .val (.int (if (0 : Int32) < p1 then (0 : Int32) else 1)), .val (.int r65), .val (.int ((r49 + r52) + r55))] [])) _
      refine XS.iconst X20.here hx rfl (hb hby at_291) ?_
      subst hr71
      exact kz
    · rw [if_neg hc269_67] at hr71
      show Steps p.tables e below (T20.setTop (mkF m 269 #[.val (.int p1), .val (.int r2), .val (.int r5), .val (.int r9), .val (.int (if p1 = (0 : Int32) then (1 : Int32) else 0)), .val (.int (if (0 : Int32) < p1 then (1 : Int32) else 0)), .val (.int (if p1 < (0 : Int32) then (0 : Int32) else 1)), .val (.int (if p1 < (0 : Int32) then (1 : Int32) else 0)), .val (.int (if (0 : Int32) < p1 then (0 : Int32) else 1)), .val (.int r65), .val (.int ((r49 + r52) + r55))] [(.int r65)])) _
      refine XS.ifNo X20.here hx rfl (hb hby at_269) rfl ((if0 _ _).trans (feq hc269_67).1) ?_
      show Steps p.tables e below (T20.setTop (mkF m 272 #[.val (.int p1), .val (.int r2), .val (.int r5), .val (.int r9), .val (.int (if p1 = (0 : Int32) then (1 : Int32) else 0)), .val (.int (if (0 : Int32) < p1 then (1 : Int32) else 0)), .val (.int (if p1 < (0 : Int32) then (0 : Int32) else 1)), .val (.int (if p1 < (0 : Int32) then (1 : Int32) else 0)), .val (.int (if (0 : Int32) < p1 then (0 : Int32) else 1)), .val (.int r65), .val (.int ((r49 + r52) + r55))] [])) _
      refine XS.iload X20.here hx rfl (hb hby at_272) rfl ?_
      show Steps p.tables e below (T20.setTop (mkF m 274 #[.val (.int p1), .val (.int r2), .val (.int r5), .val (.int r9), .val (.int (if p1 = (0 : Int32) then (1 : Int32) else 0)), .val (.int (if (0 : Int32) < p1 then (1 : Int32) else 0)), .val (.int (if p1 < (0 : Int32) then (0 : Int32) else 1)), .val (.int (if p1 < (0 : Int32) then (1 : Int32) else 0)), .val (.int (if (0 : Int32) < p1 then (0 : Int32) else 1)), .val (.int r65), .val (.int ((r49 + r52) + r55))] [(.int (if (0 : Int32) < p1 then (0 : Int32) else 1))])) _
      refine XS.iload X20.here hx rfl (hb hby at_274) rfl ?_
      by_cases hc276_68 : (if (0 : Int32) < p1 then (1 : Int32) else 0) = (0 : Int32)
      · rw [if_pos hc276_68] at hr71
        show Steps p.tables e below (T20.setTop (mkF m 276 #[.val (.int p1), .val (.int r2), .val (.int r5), .val (.int r9), .val (.int (if p1 = (0 : Int32) then (1 : Int32) else 0)), .val (.int (if (0 : Int32) < p1 then (1 : Int32) else 0)), .val (.int (if p1 < (0 : Int32) then (0 : Int32) else 1)), .val (.int (if p1 < (0 : Int32) then (1 : Int32) else 0)), .val (.int (if (0 : Int32) < p1 then (0 : Int32) else 1)), .val (.int r65), .val (.int ((r49 + r52) + r55))] [(.int (if (0 : Int32) < p1 then (1 : Int32) else 0)), (.int (if (0 : Int32) < p1 then (0 : Int32) else 1))])) _
        refine XS.ifNo X20.here hx rfl (hb hby at_276) rfl ((if0 _ _).trans (teq hc276_68).2) ?_
        show Steps p.tables e below (T20.setTop (mkF m 279 #[.val (.int p1), .val (.int r2), .val (.int r5), .val (.int r9), .val (.int (if p1 = (0 : Int32) then (1 : Int32) else 0)), .val (.int (if (0 : Int32) < p1 then (1 : Int32) else 0)), .val (.int (if p1 < (0 : Int32) then (0 : Int32) else 1)), .val (.int (if p1 < (0 : Int32) then (1 : Int32) else 0)), .val (.int (if (0 : Int32) < p1 then (0 : Int32) else 1)), .val (.int r65), .val (.int ((r49 + r52) + r55))] [(.int (if (0 : Int32) < p1 then (0 : Int32) else 1))])) _
        refine XS.iconst X20.here hx rfl (hb hby at_279) ?_
        show Steps p.tables e below (T20.setTop (mkF m 280 #[.val (.int p1), .val (.int r2), .val (.int r5), .val (.int r9), .val (.int (if p1 = (0 : Int32) then (1 : Int32) else 0)), .val (.int (if (0 : Int32) < p1 then (1 : Int32) else 0)), .val (.int (if p1 < (0 : Int32) then (0 : Int32) else 1)), .val (.int (if p1 < (0 : Int32) then (1 : Int32) else 0)), .val (.int (if (0 : Int32) < p1 then (0 : Int32) else 1)), .val (.int r65), .val (.int ((r49 + r52) + r55))] [(.int (1 : Int32)), (.int (if (0 : Int32) < p1 then (0 : Int32) else 1))])) _
        refine XS.goto X20.here hx rfl (pc0 := 280) (pc' := 284) rfl (hb hby at_280) (by decide) (by decide) ?_
        by_cases hc284_69 : (if (0 : Int32) < p1 then (0 : Int32) else 1) = (1 : Int32)
        · rw [if_pos hc284_69] at hr71
          show Steps p.tables e below (T20.setTop (mkF m 284 #[.val (.int p1), .val (.int r2), .val (.int r5), .val (.int r9), .val (.int (if p1 = (0 : Int32) then (1 : Int32) else 0)), .val (.int (if (0 : Int32) < p1 then (1 : Int32) else 0)), .val (.int (if p1 < (0 : Int32) then (0 : Int32) else 1)), .val (.int (if p1 < (0 : Int32) then (1 : Int32) else 0)), .val (.int (if (0 : Int32) < p1 then (0 : Int32) else 1)), .val (.int r65), .val (.int ((r49 + r52) + r55))] [(.int (1 : Int32)), (.int (if (0 : Int32) < p1 then (0 : Int32) else 1))])) _
          refine XS.icmpNo X20.here hx rfl (hb hby at_284) rfl (teq hc284_69).2 ?_
          show Steps p.tables e below (T20.setTop (mkF m 287 #[.val (.int p1), .val (.int r2), .val (.int r5), .val (.int r9), .val (.int (if p1 = (0 : Int32) then (1 : Int32) else 0)), .val (.int (if (0 : Int32) < p1 then (1 : Int32) else 0)), .val (.int (if p1 < (0 : Int32) then (0 : Int32) else 1)), .val (.int (if p1 < (0 : Int32) then (1 : Int32) else 0)), .val (.int (if (0 : Int32) < p1 then (0 : Int32) else 1)), .val (.int r65), .val (.int ((r49 + r52) + r55))] [])) _
          refine XS.iconst X20.here hx rfl (hb hby at_287) ?_
          show Steps p.tables e below (T20.setTop (mkF m 288 #[.val (.int p1), .val (.int r2), .val (.int r5), .val (.int r9), .val (.int (if p1 = (0 : Int32) then (1 : Int32) else 0)), .val (.int (if (0 : Int32) < p1 then (1 : Int32) else 0)), .val (.int (if p1 < (0 : Int32) then (0 : Int32) else 1)), .val (.int (if p1 < (0 : Int32) then (1 : Int32) else 0)), .val (.int (if (0 : Int32) < p1 then (0 : Int32) else 1)), .val (.int r65), .val (.int ((r49 + r52) + r55))] [(.int (1 : Int32))])) _
          refine XS.goto X20.here hx rfl (pc0 := 288) (pc' := 292) rfl (hb hby at_288) (by decide) (by decide) ?_
          subst hr71
          exact kz
        · rw [if_neg hc284_69] at hr71
          show Steps p.tables e below (T20.setTop (mkF m 284 #[.val (.int p1), .val (.int r2), .val (.int r5), .val (.int r9), .val (.int (if p1 = (0 : Int32) then (1 : Int32) else 0)), .val (.int (if (0 : Int32) < p1 then (1 : Int32) else 0)), .val (.int (if p1 < (0 : Int32) then (0 : Int32) else 1)), .val (.int (if p1 < (0 : Int32) then (1 : Int32) else 0)), .val (.int (if (0 : Int32) < p1 then (0 : Int32) else 1)), .val (.int r65), .val (.int ((r49 + r52) + r55))] [(.int (1 : Int32)), (.int (if (0 : Int32) < p1 then (0 : Int32) else 1))])) _
          refine XS.icmpYes X20.here hx rfl (pc0 := 284) (pc' := 291) rfl (hb hby at_284) rfl (feq hc284_69).2 (by decide) (by decide) ?_
          show Steps p.tables e below (T20.setTop (mkF m 291 #[.val (.int p1), .val (.int r2), .val (.int r5), .val (.int r9), .val (.int (if p1 = (0 : Int32) then (1 : Int32) else 0)), .val (.int (if (0 : Int32) < p1 then (1 : Int32) else 0)), .val (.int (if p1 < (0 : Int32) then (0 : Int32) else 1)), .val (.int (if p1 < (0 : Int32) then (1 : Int32) else 0)), .val (.int (if (0 : Int32) < p1 then (0 : Int32) else 1)), .val (.int r65), .val (.int ((r49 + r52) + r55))] [])) _
          refine XS.iconst X20.here hx rfl (hb hby at_291) ?_
          subst hr71
          exact kz
      · rw [if_neg hc276_68] at hr71
        show Steps p.tables e below (T20.setTop (mkF m 276 #[.val (.int p1), .val (.int r2), .val (.int r5), .val (.int r9), .val (.int (if p1 = (0 : Int32) then (1 : Int32) else 0)), .val (.int (if (0 : Int32) < p1 then (1 : Int32) else 0)), .val (.int (if p1 < (0 : Int32) then (0 : Int32) else 1)), .val (.int (if p1 < (0 : Int32) then (1 : Int32) else 0)), .val (.int (if (0 : Int32) < p1 then (0 : Int32) else 1)), .val (.int r65), .val (.int ((r49 + r52) + r55))] [(.int (if (0 : Int32) < p1 then (1 : Int32) else 0)), (.int (if (0 : Int32) < p1 then (0 : Int32) else 1))])) _
        refine XS.ifYes X20.here hx rfl (pc0 := 276) (pc' := 283) rfl (hb hby at_276) rfl ((if0 _ _).trans (feq hc276_68).2) (by decide) (by decide) ?_
        show Steps p.tables e below (T20.setTop (mkF m 283 #[.val (.int p1), .val (.int r2), .val (.int r5), .val (.int r9), .val (.int (if p1 = (0 : Int32) then (1 : Int32) else 0)), .val (.int (if (0 : Int32) < p1 then (1 : Int32) else 0)), .val (.int (if p1 < (0 : Int32) then (0 : Int32) else 1)), .val (.int (if p1 < (0 : Int32) then (1 : Int32) else 0)), .val (.int (if (0 : Int32) < p1 then (0 : Int32) else 1)), .val (.int r65), .val (.int ((r49 + r52) + r55))] [(.int (if (0 : Int32) < p1 then (0 : Int32) else 1))])) _
        refine XS.iconst X20.here hx rfl (hb hby at_283) ?_
        by_cases hc284_70 : (if (0 : Int32) < p1 then (0 : Int32) else 1) = (0 : Int32)
        · rw [if_pos hc284_70] at hr71
          show Steps p.tables e below (T20.setTop (mkF m 284 #[.val (.int p1), .val (.int r2), .val (.int r5), .val (.int r9), .val (.int (if p1 = (0 : Int32) then (1 : Int32) else 0)), .val (.int (if (0 : Int32) < p1 then (1 : Int32) else 0)), .val (.int (if p1 < (0 : Int32) then (0 : Int32) else 1)), .val (.int (if p1 < (0 : Int32) then (1 : Int32) else 0)), .val (.int (if (0 : Int32) < p1 then (0 : Int32) else 1)), .val (.int r65), .val (.int ((r49 + r52) + r55))] [(.int (0 : Int32)), (.int (if (0 : Int32) < p1 then (0 : Int32) else 1))])) _
          refine XS.icmpNo X20.here hx rfl (hb hby at_284) rfl (teq hc284_70).2 ?_
          show Steps p.tables e below (T20.setTop (mkF m 287 #[.val (.int p1), .val (.int r2), .val (.int r5), .val (.int r9), .val (.int (if p1 = (0 : Int32) then (1 : Int32) else 0)), .val (.int (if (0 : Int32) < p1 then (1 : Int32) else 0)), .val (.int (if p1 < (0 : Int32) then (0 : Int32) else 1)), .val (.int (if p1 < (0 : Int32) then (1 : Int32) else 0)), .val (.int (if (0 : Int32) < p1 then (0 : Int32) else 1)), .val (.int r65), .val (.int ((r49 + r52) + r55))] [])) _
          refine XS.iconst X20.here hx rfl (hb hby at_287) ?_
          show Steps p.tables e below (T20.setTop (mkF m 288 #[.val (.int p1), .val (.int r2), .val (.int r5), .val (.int r9), .val (.int (if p1 = (0 : Int32) then (1 : Int32) else 0)), .val (.int (if (0 : Int32) < p1 then (1 : Int32) else 0)), .val (.int (if p1 < (0 : Int32) then (0 : Int32) else 1)), .val (.int (if p1 < (0 : Int32) then (1 : Int32) else 0)), .val (.int (if (0 : Int32) < p1 then (0 : Int32) else 1)), .val (.int r65), .val (.int ((r49 + r52) + r55))] [(.int (1 : Int32))])) _
          refine XS.goto X20.here hx rfl (pc0 := 288) (pc' := 292) rfl (hb hby at_288) (by decide) (by decide) ?_
          subst hr71
          exact kz
        · rw [if_neg hc284_70] at hr71
          show Steps p.tables e below (T20.setTop (mkF m 284 #[.val (.int p1), .val (.int r2), .val (.int r5), .val (.int r9), .val (.int (if p1 = (0 : Int32) then (1 : Int32) else 0)), .val (.int (if (0 : Int32) < p1 then (1 : Int32) else 0)), .val (.int (if p1 < (0 : Int32) then (0 : Int32) else 1)), .val (.int (if p1 < (0 : Int32) then (1 : Int32) else 0)), .val (.int (if (0 : Int32) < p1 then (0 : Int32) else 1)), .val (.int r65), .val (.int ((r49 + r52) + r55))] [(.int (0 : Int32)), (.int (if (0 : Int32) < p1 then (0 : Int32) else 1))])) _
          refine XS.icmpYes X20.here hx rfl (pc0 := 284) (pc' := 291) rfl (hb hby at_284) rfl (feq hc284_70).2 (by decide) (by decide) ?_
          show Steps p.tables e below (T20.setTop (mkF m 291 #[.val (.int p1), .val (.int r2), .val (.int r5), .val (.int r9), .val (.int (if p1 = (0 : Int32) then (1 : Int32) else 0)), .val (.int (if (0 : Int32) < p1 then (1 : Int32) else 0)), .val (.int (if p1 < (0 : Int32) then (0 : Int32) else 1)), .val (.int (if p1 < (0 : Int32) then (1 : Int32) else 0)), .val (.int (if (0 : Int32) < p1 then (0 : Int32) else 1)), .val (.int r65), .val (.int ((r49 + r52) + r55))] [])) _
          refine XS.iconst X20.here hx rfl (hb hby at_291) ?_
          subst hr71
          exact kz
  refine Goes.via j269_72 ?_
  refine Goes.via (S' := T20.setTop (mkF m 296 #[.val (.int p1), .val (.int r2), .val (.int r5), .val (.int r9), .val (.int (if p1 = (0 : Int32) then (1 : Int32) else 0)), .val (.int (if (0 : Int32) < p1 then (1 : Int32) else 0)), .val (.int (if p1 < (0 : Int32) then (0 : Int32) else 1)), .val (.int (if p1 < (0 : Int32) then (1 : Int32) else 0)), .val (.int (if (0 : Int32) < p1 then (0 : Int32) else 1)), .val (.int r71), .val (.int ((r49 + r52) + r55))] [(.int r71)])) (fun tz kz => ?_) ?_
  · show Steps p.tables e below (T20.setTop (mkF m 292 #[.val (.int p1), .val (.int r2), .val (.int r5), .val (.int r9), .val (.int (if p1 = (0 : Int32) then (1 : Int32) else 0)), .val (.int (if (0 : Int32) < p1 then (1 : Int32) else 0)), .val (.int (if p1 < (0 : Int32) then (0 : Int32) else 1)), .val (.int (if p1 < (0 : Int32) then (1 : Int32) else 0)), .val (.int (if (0 : Int32) < p1 then (0 : Int32) else 1)), .val (.int r65), .val (.int ((r49 + r52) + r55))] [(.int r71)])) _
    refine XS.istore X20.here hx rfl (hb hby at_292) rfl (l' := #[.val (.int p1), .val (.int r2), .val (.int r5), .val (.int r9), .val (.int (if p1 = (0 : Int32) then (1 : Int32) else 0)), .val (.int (if (0 : Int32) < p1 then (1 : Int32) else 0)), .val (.int (if p1 < (0 : Int32) then (0 : Int32) else 1)), .val (.int (if p1 < (0 : Int32) then (1 : Int32) else 0)), .val (.int (if (0 : Int32) < p1 then (0 : Int32) else 1)), .val (.int r71), .val (.int ((r49 + r52) + r55))]) rfl ?_
    show Steps p.tables e below (T20.setTop (mkF m 294 #[.val (.int p1), .val (.int r2), .val (.int r5), .val (.int r9), .val (.int (if p1 = (0 : Int32) then (1 : Int32) else 0)), .val (.int (if (0 : Int32) < p1 then (1 : Int32) else 0)), .val (.int (if p1 < (0 : Int32) then (0 : Int32) else 1)), .val (.int (if p1 < (0 : Int32) then (1 : Int32) else 0)), .val (.int (if (0 : Int32) < p1 then (0 : Int32) else 1)), .val (.int r71), .val (.int ((r49 + r52) + r55))] [])) _
    refine XS.iload X20.here hx rfl (hb hby at_294) rfl ?_
    exact kz
  have hfin : r71 = 1 := by
    rcases own_tri p1 with ⟨q1, q2, q3⟩ | ⟨q1, q2, q3⟩ | ⟨q1, q2, q3⟩
    all_goals
      simp [q1, q2, q3] at hr2; subst hr2
      simp [q1, q2, q3] at hr5; subst hr5
      simp [q1, q2, q3] at hr9; subst hr9
      simp [q1, q2, q3] at hr22; subst hr22
      simp [q1, q2, q3] at hr26; subst hr26
      simp [q1, q2, q3] at hr34; subst hr34
      simp [q1, q2, q3] at hr38; subst hr38
      simp [q1, q2, q3] at hr46; subst hr46
      simp [q1, q2, q3] at hr49; subst hr49
      simp [q1, q2, q3] at hr52; subst hr52
      simp [q1, q2, q3] at hr55; subst hr55
      simp [q1, q2, q3] at hr59; subst hr59
      simp [q1, q2, q3] at hr65; subst hr65
      simp [q1, q2, q3] at hr71; subst hr71
      rfl
  exact Goes.retN X20 hx Bd.notSynchronized (t := .boolean) Bd.returns (by simp) (hb hby at_296) (Nat.le_of_ble_eq_true rfl) (Nat.le_of_ble_eq_true rfl) ⟨ret1 hfin, Nf20⟩
set_option maxRecDepth 65536 in
set_option maxHeartbeats 40000000 in
theorem comes_1 {Post : Tables → Env → Array Value → State → Outcome → State → Prop} (hpost : ∀ tb e args s v u, (limb_1_1.after args s (.returned v) u = true ∧ limb_1_2.after args s (.returned v) u = true ∧ True) → FrameEnd s (.returned v) u (Jvm.fieldLocs frame_1_writes args s ++ Jvm.arrayLocs frame_1_arrays args s ++ Jvm.staticLocs frame_1_statics s) 0 0 → Post tb e args s (.returned v) u) :
    ArmFor flags0 classFile x code maxLocals ret World_1 tables_1 room_1 Calls_1 rest_1 Pre_1 Post := by
  intro l hfl _ _ p e ha hc hk s m args below hf hA hF happ hP
  obtain ⟨hcalls, hrest, hpre⟩ := hP
  obtain ⟨-, -, -, hnamed, -, -, -, hat⟩ := (Spec.applies_iff hf).mp happ
  obtain ⟨hg, hn⟩ := and_e (Cond.before_iff.mp (show (Jvm.Cond.and given_1 narrow_1).before args s = true from hpre))
  obtain ⟨hcnt, gg0⟩ := and_e hg
  obtain ⟨w0, rfl⟩ : ∃ w0 : Value, args = #[w0] := by
    have hs : args.size = 1 := by simpa [Cond.value, given_1] using hcnt
    obtain ⟨L⟩ := args
    match L, hs with
    | [w0], _ => exact ⟨w0, rfl⟩
  have hw := fun d (hd : d ∈ tables_1) => atoms_spec (ws := Jvm.Cond.code x code maxLocals ret :: tables_1) hat d (List.mem_cons_of_mem _ hd)
  have hfit : Fit s := fun {y c} hc i hi => by
    obtain ⟨ha, rfl⟩ := Array.getElem?_eq_some_iff.mp hc
    have q := List.all_eq_true.mp ((Array.all_eq_true_iff_forall_mem.mp hF) _ (Array.getElem_mem ha)) i (List.mem_range.mpr hi)
    simpa [Array.getElem?_eq_getElem hi] using q
  obtain ⟨i0, ei0⟩ := is_v gg0
  obtain rfl : w0 = (.int i0) := Option.some.inj ei0
  obtain ⟨xe0, hm0⟩ := and_e hn
  obtain ⟨xf0, hn0⟩ := and_e hm0
  obtain ⟨xe1, hm1⟩ := and_e hn0
  obtain ⟨xf1, hn1⟩ := and_e hm1
  obtain ⟨xe2, hm2⟩ := and_e hn1
  obtain ⟨xf2, hn2⟩ := and_e hm2
  obtain ⟨xe3, hm3⟩ := and_e hn2
  obtain ⟨xf3, hn3⟩ := and_e hm3
  obtain ⟨xe4, hm4⟩ := and_e hn3
  have xf4 := hm4
  obtain ⟨b0, ev0, E0⟩ := exa_static xe0
  have S0 := Sta.start ev0 (Or.inr ⟨(hw _ (List.mem_of_getElem? (i := 1) rfl)), (hw _ (List.mem_of_getElem? (i := 2) rfl))⟩)
  have F0 := fld_static ev0 xf0
  obtain ⟨b1, ev1, E1⟩ := exa_static xe1
  have S1 := Sta.start ev1 (Or.inr ⟨(hw _ (List.mem_of_getElem? (i := 1) rfl)), (hw _ (List.mem_of_getElem? (i := 18) rfl))⟩)
  have F1 := fld_static ev1 xf1
  obtain ⟨b2, ev2, E2⟩ := exa_static xe2
  have S2 := Sta.start ev2 (Or.inr ⟨(hw _ (List.mem_of_getElem? (i := 1) rfl)), (hw _ (List.mem_of_getElem? (i := 20) rfl))⟩)
  have F2 := fld_static ev2 xf2
  obtain ⟨b3, ev3, E3⟩ := exa_static xe3
  have S3 := Sta.start ev3 (Or.inr ⟨(hw _ (List.mem_of_getElem? (i := 1) rfl)), (hw _ (List.mem_of_getElem? (i := 22) rfl))⟩)
  have F3 := fld_static ev3 xf3
  obtain ⟨b4, ev4, E4⟩ := exa_static xe4
  have S4 := Sta.start ev4 (Or.inr ⟨(hw _ (List.mem_of_getElem? (i := 1) rfl)), (hw _ (List.mem_of_getElem? (i := 24) rfl))⟩)
  have F4 := fld_static ev4 xf4
  obtain ⟨n, o, h1, h2, h3, _, L, rfl, ⟨rfl, N⟩, hq⟩ := rm0 l s _ hw tables_1 i0 b0 b1 b2 b3 b4 s.heap s.heap.size (Nat.le_refl _) S0 E0 F0 S1 E1 F1 S2 E2 F2 S3 E3 F3 S4 E4 F4 p e ha hc hk s m _ below hf ((Spec.applies_iff_loose hf).mp happ).1 ⟨rfl, State.Warmed39.refl s, rfl⟩ trivial
  refine ⟨n, _, h1, h2, h3, hpost _ _ _ _ _ _ ⟨Cond.after_iff.mpr rfl, Cond.after_iff.mpr (eq_i res_at (Term.int_eval (1)) rfl), trivial⟩ ⟨hq.1, hq.2.1, (hq.2.2.sift fun y hy => Or.inr (N y hy)).mono (by decide) (by decide)⟩⟩
theorem main_1_1 : Claimed_1_1 := comes_1 fun _ _ _ _ _ _ h hF => ⟨h.1, hF⟩
theorem main_1_2 : Claimed_1_2 := comes_1 fun _ _ _ _ _ _ h hF => ⟨h.2.1, hF⟩
end Jvm.Pilot.@@N@@
namespace Jvm.Pilot.@@N@@
open Jvm Jvm.ClassFile Sem Op Lib Jvm.Free Jvm.Stand Jvm.Pilot.@@N@@.Jvm.D
/-! MADE BY PROGRAM (witnessworld.py) out of the Statement's table words and the real class files: 13 classes; the members and pool entries that the words name. The judged class is class 1, her method 1. -/
namespace start1
open Jvm.ClassFile
def u (s : String) : CpInfo := .utf8 (stringToUtf16 s)
/-- a pool by its gaps: so many unusable entries, then the entry; so many at the end -/
def gap : Nat → List CpInfo → List CpInfo
  | 0, r => r
  | n + 1, r => .unusable :: gap n r
def poolList (es : List (Nat × CpInfo)) (last : Nat) : List CpInfo := es.foldr (fun e r => gap e.1 (e.2 :: r)) (gap last [])
def pool (es : List (Nat × CpInfo)) (last : Nat) : Array CpInfo := ⟨poolList es last⟩
def fileOf (pool : Array CpInfo) (this : Nat) (attrs : Array Attribute := #[]) (ms : Array MethodInfo := #[]) (fl : Nat := 33) (sup : Nat := 0) (ifs : Array Nat := #[]) (fds : Array FieldInfo := #[]) : ClassFile where
  minorVersion := 0
  majorVersion := 65
  constantPool := pool
  accessFlags := fl
  thisClass := this
  superClass := sup
  interfaces := ifs
  fields := fds
  methods := ms
  attributes := attrs
def plain (name : String) (sup : Option ClassId) : Class where
  name := name
  kind := .ordinary
  loader := none
  accessFlags := 33
  super := sup
  interfaces := #[]
  cf := none
  fields := #[]
  methods := #[]
  instanceTypes := #[]
  staticTypes := #[]
  resolved := #[]
  callSites := []
  init := .initialized
  statics := none
  mirror := none

def pool0 : Array CpInfo := pool [(5, u "<init>"), (0, u "()V"), (1, .class_ 10), (1, u "java/lang/Object")] 113

def k0m0 : Method := { name := "<init>", desc := "()V", sig := { parameters := [], returnType := none }, accessFlags := 1, code := none }
/-- java/lang/Object -/
def k0 : Class := { plain "java/lang/Object" none with
  accessFlags := 33
  interfaces := #[]
  cf := some (fileOf pool0 8 #[] #[{ accessFlags := 1, nameIndex := 5, descriptorIndex := 6, attributes := #[] }] 33 0 #[] #[])
  fields := #[]
  methods := #[k0m0]
  instanceTypes := #[]
  staticTypes := #[]
  resolved := Array.replicate 124 none
  statics := none }

def pool1 : Array CpInfo := pool [(2, .class_ 4), (1, u "java/lang/Object"), (0, u "<init>"), (0, u "()V"), (0, .fieldref 8 9), (0, .class_ 10), (0, .nameAndType 11 12), (0, u "com/example/vestline/vestline/payout/Comparison"), (0, u "MUST_EQUAL"), (0, u "Lcom/example/vestline/vestline/payout/Comparison;"), (0, .methodref 8 14), (0, .nameAndType 15 16), (0, u "holds"), (0, u "(I)Z"), (0, .fieldref 8 18), (0, .nameAndType 19 12), (0, u "MORE_THAN"), (0, .fieldref 8 21), (0, .nameAndType 22 12), (0, u "AT_LEAST"), (0, .fieldref 8 24), (0, .nameAndType 25 12), (0, u "LESS_THAN"), (0, .fieldref 8 27), (0, .nameAndType 28 12), (0, u "AT_MOST"), (0, .class_ 30), (0, u "com/example/vestline/vestline/payout/ComparisonHoldsPinLaw"), (2, u "law")] 3

def k1m0 : Method := { name := "<init>", desc := "()V", sig := { parameters := [], returnType := none }, accessFlags := 1, code := none }
def k1c1 : Code := { maxStack := 2, maxLocals := 11, code := code, exceptionTable := #[], attributes := #[] }
def k1m1 : Method := { name := "law", desc := "(I)Z", sig := { parameters := [.int], returnType := some .boolean }, accessFlags := 9, code := some k1c1 }
/-- com/example/vestline/vestline/payout/ComparisonHoldsPinLaw -/
def k1 : Class := { plain "com/example/vestline/vestline/payout/ComparisonHoldsPinLaw" (some 0) with
  accessFlags := 49
  interfaces := #[]
  cf := some (fileOf pool1 29 #[] #[{ accessFlags := 1, nameIndex := 5, descriptorIndex := 6, attributes := #[] }, { accessFlags := 9, nameIndex := 33, descriptorIndex := 16, attributes := #[] }] 49 2 #[] #[])
  fields := #[]
  methods := #[k1m0, k1m1]
  instanceTypes := #[]
  staticTypes := #[]
  resolved := Array.replicate 37 none
  statics := none }

def pool2 : Array CpInfo := pool [(1, .class_ 2), (0, u "java/lang/constant/Constable"), (0, .class_ 4), (0, u "java/lang/Object")] 6

/-- java/lang/constant/Constable -/
def k2 : Class := { plain "java/lang/constant/Constable" (some 0) with
  accessFlags := 1537
  interfaces := #[]
  cf := some (fileOf pool2 1 #[] #[] 1537 3 #[] #[])
  fields := #[]
  methods := #[]
  instanceTypes := #[]
  staticTypes := #[]
  resolved := Array.replicate 11 none
  statics := none }

def pool3 : Array CpInfo := pool [(1, .class_ 2), (0, u "java/lang/Comparable"), (0, .class_ 4), (0, u "java/lang/Object")] 7

/-- java/lang/Comparable -/
def k3 : Class := { plain "java/lang/Comparable" (some 0) with
  accessFlags := 1537
  interfaces := #[]
  cf := some (fileOf pool3 1 #[] #[] 1537 3 #[] #[])
  fields := #[]
  methods := #[]
  instanceTypes := #[]
  staticTypes := #[]
  resolved := Array.replicate 12 none
  statics := none }

def pool4 : Array CpInfo := pool [(1, .class_ 2), (0, u "java/io/Serializable"), (0, .class_ 4), (0, u "java/lang/Object")] 2

/-- java/io/Serializable -/
def k4 : Class := { plain "java/io/Serializable" (some 0) with
  accessFlags := 1537
  interfaces := #[]
  cf := some (fileOf pool4 1 #[] #[] 1537 3 #[] #[])
  fields := #[]
  methods := #[]
  instanceTypes := #[]
  staticTypes := #[]
  resolved := Array.replicate 7 none
  statics := none }

def pool5 : Array CpInfo := pool [(2, .class_ 4), (1, u "java/lang/Enum"), (0, u "name"), (0, u "Ljava/lang/String;"), (0, .fieldref 2 8), (0, .nameAndType 9 10), (0, u "ordinal"), (0, u "I"), (1, .class_ 14), (1, u "java/lang/Object"), (4, u "hash"), (86, .class_ 108), (1, u "java/lang/Enum$EnumDesc"), (2, .class_ 112), (0, u "java/lang/constant/Constable"), (0, .class_ 114), (0, u "java/lang/Comparable"), (0, .class_ 116), (0, u "java/io/Serializable"), (9, u "()I")] 77

def k5c0 : Code := { maxStack := 1, maxLocals := 1, code := jdk_37_method_2_code, exceptionTable := #[], attributes := #[] }
def k5m0 : Method := { name := "ordinal", desc := "()I", sig := { parameters := [], returnType := some .int }, accessFlags := 17, code := some k5c0 }
/-- java/lang/Enum -/
def k5 : Class := { plain "java/lang/Enum" (some 0) with
  accessFlags := 1057
  interfaces := #[2, 3, 4]
  cf := some (fileOf pool5 2 #[.nestMembers #[106]] #[{ accessFlags := 17, nameIndex := 9, descriptorIndex := 126, attributes := #[] }] 1057 12 #[111, 113, 115] #[{ accessFlags := 18, nameIndex := 5, descriptorIndex := 6, attributes := #[] }, { accessFlags := 18, nameIndex := 9, descriptorIndex := 10, attributes := #[] }, { accessFlags := 2, nameIndex := 19, descriptorIndex := 10, attributes := #[] }])
  fields := #[{ name := "name", type := (.object "java/lang/String"), accessFlags := 18, slot := 0, constantValue := 0 }, { name := "ordinal", type := .int, accessFlags := 18, slot := 1, constantValue := 0 }, { name := "hash", type := .int, accessFlags := 2, slot := 2, constantValue := 0 }]
  methods := #[k5m0]
  instanceTypes := #[(.object "java/lang/String"), .int, .int]
  staticTypes := #[]
  resolved := Array.replicate 204 none
  statics := none }

def pool6 : Array CpInfo := pool [(2, .class_ 4), (1, u "com/example/vestline/vestline/format/Choice"), (14, .class_ 20), (0, u "java/lang/Object")] 5

/-- com/example/vestline/vestline/format/Choice -/
def k6 : Class := { plain "com/example/vestline/vestline/format/Choice" (some 0) with
  accessFlags := 1537
  interfaces := #[]
  cf := some (fileOf pool6 2 #[] #[] 1537 19 #[] #[])
  fields := #[]
  methods := #[]
  instanceTypes := #[]
  staticTypes := #[]
  resolved := Array.replicate 26 none
  statics := none }

def pool7 : Array CpInfo := pool [(1, .class_ 2), (0, u "com/example/vestline/vestline/payout/Comparison"), (2, u "MUST_EQUAL"), (0, u "Lcom/example/vestline/vestline/payout/Comparison;"), (2, u "MORE_THAN"), (2, u "AT_LEAST"), (2, u "LESS_THAN"), (2, u "AT_MOST"), (2, u "$VALUES"), (0, u "[Lcom/example/vestline/vestline/payout/Comparison;"), (6, .class_ 31), (1, u "java/lang/Enum"), (6, .methodref 1 39), (0, .nameAndType 40 41), (0, u "ordinal"), (0, u "()I"), (15, .class_ 58), (0, u "com/example/vestline/vestline/format/Choice"), (7, u "holds"), (0, u "(I)Z")] 5

def k7c0 : Code := { maxStack := 4, maxLocals := 2, code := prog_24_method_4_code, exceptionTable := #[], attributes := #[] }
def k7m0 : Method := { name := "holds", desc := "(I)Z", sig := { parameters := [.int], returnType := some .boolean }, accessFlags := 0, code := some k7c0 }
/-- com/example/vestline/vestline/payout/Comparison -/
def k7 : Class := { plain "com/example/vestline/vestline/payout/Comparison" (some 5) with
  accessFlags := 16433
  interfaces := #[6]
  cf := some (fileOf pool7 1 #[] #[{ accessFlags := 0, nameIndex := 66, descriptorIndex := 67, attributes := #[] }] 16433 29 #[57] #[{ accessFlags := 16409, nameIndex := 5, descriptorIndex := 6, attributes := #[] }, { accessFlags := 16409, nameIndex := 9, descriptorIndex := 6, attributes := #[] }, { accessFlags := 16409, nameIndex := 12, descriptorIndex := 6, attributes := #[] }, { accessFlags := 16409, nameIndex := 15, descriptorIndex := 6, attributes := #[] }, { accessFlags := 16409, nameIndex := 18, descriptorIndex := 6, attributes := #[] }, { accessFlags := 4122, nameIndex := 21, descriptorIndex := 22, attributes := #[] }])
  fields := #[{ name := "MUST_EQUAL", type := (.object "com/example/vestline/vestline/payout/Comparison"), accessFlags := 16409, slot := 0, constantValue := 0 }, { name := "MORE_THAN", type := (.object "com/example/vestline/vestline/payout/Comparison"), accessFlags := 16409, slot := 1, constantValue := 0 }, { name := "AT_LEAST", type := (.object "com/example/vestline/vestline/payout/Comparison"), accessFlags := 16409, slot := 2, constantValue := 0 }, { name := "LESS_THAN", type := (.object "com/example/vestline/vestline/payout/Comparison"), accessFlags := 16409, slot := 3, constantValue := 0 }, { name := "AT_MOST", type := (.object "com/example/vestline/vestline/payout/Comparison"), accessFlags := 16409, slot := 4, constantValue := 0 }, { name := "$VALUES", type := (.array (.object "com/example/vestline/vestline/payout/Comparison")), accessFlags := 4122, slot := 5, constantValue := 0 }]
  methods := #[k7m0]
  instanceTypes := #[(.object "java/lang/String"), .int, .int]
  staticTypes := #[(.object "com/example/vestline/vestline/payout/Comparison"), (.object "com/example/vestline/vestline/payout/Comparison"), (.object "com/example/vestline/vestline/payout/Comparison"), (.object "com/example/vestline/vestline/payout/Comparison"), (.object "com/example/vestline/vestline/payout/Comparison"), (.array (.object "com/example/vestline/vestline/payout/Comparison"))]
  resolved := Array.replicate 73 none
  statics := some 0 }

def pool8 : Array CpInfo := pool [(1, u "java/lang/Cloneable"), (0, .class_ 1), (0, u "java/lang/Object"), (0, .class_ 3)] 3

/-- java/lang/Cloneable -/
def k8 : Class := { plain "java/lang/Cloneable" (some 0) with
  accessFlags := 1537
  interfaces := #[]
  cf := some (fileOf pool8 2 #[] #[] 1537 4 #[] #[])
  fields := #[]
  methods := #[]
  instanceTypes := #[]
  staticTypes := #[]
  resolved := Array.replicate 8 none
  statics := none }

/-- the primitive byte -/
def k9 : Class := { plain "byte" none with kind := .primitive 'B', accessFlags := 0x411 }
/-- [B -/
def k10 : Class := { plain "[B" (some 0) with kind := .array 9 .byte, interfaces := #[8, 4], accessFlags := 1041 }

/-- the primitive int -/
def k11 : Class := { plain "int" none with kind := .primitive 'I', accessFlags := 0x411 }
/-- [I -/
def k12 : Class := { plain "[I" (some 0) with kind := .array 11 .int, interfaces := #[8, 4], accessFlags := 1041 }

def heap : Heap := #[{ cls := 7, slots := #[.ref 1, .ref 2, .ref 3, .ref 4, .ref 5, .null], vm := .statics 7 },
  { cls := 7, slots := #[.null, .int 0, .int 0], vm := .none },
  { cls := 7, slots := #[.null, .int 1, .int 0], vm := .none },
  { cls := 7, slots := #[.null, .int 2, .int 0], vm := .none },
  { cls := 7, slots := #[.null, .int 3, .int 0], vm := .none },
  { cls := 7, slots := #[.null, .int 4, .int 0], vm := .none }]
def classes : Array Class := #[k0, k1, k2, k3, k4, k5, k6, k7, k8, k9, k10, k11, k12]
def interned : List (Array UInt16 × Addr) := []
def slotsUsed : Nat := 21
def theMethod : MethodId := ⟨1, 1⟩
def args0 : Array Value := #[.int 5]
def aboutOver (below : List Frame) : State where
  vm := { classes := classes, interned := interned.toArray }
  heap := heap
  slotsUsed := slotsUsed
  threads := #[{ frames := .invoking theMethod args0 :: below }]
def below0 : List Frame := [.native { method := ⟨0, 0⟩, args := #[] }]
def about1 : State := aboutOver below0
def p0 : Program := .bare "" "" ""
def e0 : Env := launch0.env 0 0 0
theorem w_frames : about1.frames = Frame.invoking theMethod args0 :: below0 := rfl
set_option maxRecDepth 65536 in
theorem w_args : argsFit about1.vm theMethod args0 = true := by decide +kernel
set_option maxRecDepth 65536 in
theorem w_heap : heapFits about1 = true := by decide +kernel
set_option maxRecDepth 65536 in
theorem w_runnable : about1.curStatus? = some .runnable := by decide +kernel
set_option maxRecDepth 65536 in
theorem w_alone : about1.alone = true := by decide +kernel
set_option maxRecDepth 65536 in
theorem w_named : about1.methodNamed? x = some theMethod := by decide +kernel
set_option maxRecDepth 65536 in
theorem w_hears : about1.hears theMethod below0 = true := by decide +kernel
set_option maxRecDepth 65536 in
theorem w_ripe : about1.ripe theMethod args0 below0 = true := by decide +kernel
theorem w_running : about1.status = .running := rfl
set_option maxRecDepth 65536 in
theorem w_room : about1.hasRoom e0.platform room_1 = true :=
  launch0.hasRoom_least _ room_1 (by decide +kernel) (by decide +kernel) (by decide +kernel) (by decide +kernel) (by decide +kernel) (by decide +kernel)
theorem allAtoms_all (ts : List Jvm.Cond) (a : Array Jvm.Value) (st : Jvm.State) : (allAtoms ts).before a st = ts.all (fun c => c.before a st) := by
  induction ts with
  | nil => rfl
  | cons c t ih =>
    show (Jvm.Cond.and c (allAtoms t)).before a st = _
    rw [Jvm.Cond.before_and, ih, List.all_cons]
def words1 : List Jvm.Cond := Jvm.Cond.code x code maxLocals ret :: tables_1
/-- a 'code' word, met by the world's own term for the bytes: nothing is compared byte by byte -/
theorem code_word {y : MethodName} {bytes : ByteArray} {mx : Nat} {rt : Option FieldType} {a : Array Value} {s : State} {m : MethodId} {meth : Method} {c : Code} (h1 : s.methodNamed? y = some m) (h2 : s.vm.method? m = some meth) (h3 : meth.code = some c) (h4 : c.code = bytes)
    (h5 : (c.maxLocals == mx && c.exceptionTable.isEmpty && decide (c.maxStack ≤ mostOperands) && decide (meth.sig.returnType = rt) && !meth.locks && decide (parseMethodDescriptor y.desc = some meth.sig)) = true) : (Jvm.Cond.code y bytes mx rt).before a s = true := by
  simp only [Bool.and_eq_true, beq_iff_eq, Bool.not_eq_true', decide_eq_true_eq] at h5
  obtain ⟨⟨⟨⟨⟨g1, g2⟩, g3⟩, g4⟩, g5⟩, g6⟩ := h5
  simp [Cond.before, Cond.holds, Cond.value, h1, h2, h3, h4, g1, g2, g3, g4, g5, g6]
def isCode : Jvm.Cond → Bool
  | .code _ _ _ _ => true
  | _ => false
theorem all_split {L : List Jvm.Cond} {P : Jvm.Cond → Bool} (h1 : L.all (fun c => isCode c || P c) = true) (h2 : ∀ c ∈ L.filter isCode, P c = true) : L.all P = true := by
  refine List.all_eq_true.mpr fun c hc => ?_
  have h := List.all_eq_true.mp h1 c hc
  rcases Bool.eq_false_or_eq_true (isCode c) with hi | hi
  · exact h2 c (List.mem_filter.mpr ⟨hc, hi⟩)
  · simpa [hi] using h
set_option maxRecDepth 65536 in
theorem w_c0 : (Jvm.Cond.code x code maxLocals ret).before args0 about1 = true := code_word (m := ⟨1, 1⟩) (meth := k1m1) (c := k1c1) (by decide +kernel) rfl rfl rfl (by decide +kernel)
set_option maxRecDepth 65536 in
theorem w_c1 : (Jvm.Cond.code ({ cls := "com/example/vestline/vestline/payout/Comparison", name := "holds", desc := "(I)Z" } : Jvm.MethodName) prog_24_method_4_code (2 : Nat) (Option.some Jvm.ClassFile.FieldType.boolean)).before args0 about1 = true := code_word (m := ⟨7, 0⟩) (meth := k7m0) (c := k7c0) (by decide +kernel) rfl rfl rfl (by decide +kernel)
set_option maxRecDepth 65536 in
theorem w_c2 : (Jvm.Cond.code ({ cls := "java/lang/Enum", name := "ordinal", desc := "()I" } : Jvm.MethodName) jdk_37_method_2_code (1 : Nat) (Option.some Jvm.ClassFile.FieldType.int)).before args0 about1 = true := code_word (m := ⟨5, 0⟩) (meth := k5m0) (c := k5c0) (by decide +kernel) rfl rfl rfl (by decide +kernel)
def codes1 : List Jvm.Cond := [Jvm.Cond.code x code maxLocals ret, Jvm.Cond.code ({ cls := "com/example/vestline/vestline/payout/Comparison", name := "holds", desc := "(I)Z" } : Jvm.MethodName) prog_24_method_4_code (2 : Nat) (Option.some Jvm.ClassFile.FieldType.boolean), Jvm.Cond.code ({ cls := "java/lang/Enum", name := "ordinal", desc := "()I" } : Jvm.MethodName) jdk_37_method_2_code (1 : Nat) (Option.some Jvm.ClassFile.FieldType.int)]
set_option maxRecDepth 65536 in
theorem codes_eq : words1.filter isCode = codes1 := rfl
theorem w_codes : ∀ c ∈ words1.filter isCode, c.before args0 about1 = true := by
  rw [codes_eq]
  intro c hc
  simp only [codes1, List.mem_cons, List.not_mem_nil, or_false] at hc
  rcases hc with rfl | rfl | rfl
  · exact w_c0
  · exact w_c1
  · exact w_c2
set_option maxRecDepth 65536 in
theorem w_t1 : (words1.take 24).all (fun c => isCode c || c.before args0 about1) = true := by decide +kernel
set_option maxRecDepth 65536 in
theorem w_t2 : (words1.drop 24).all (fun c => isCode c || c.before args0 about1) = true := by decide +kernel
theorem w_tables : (allAtoms (Jvm.Cond.code x code maxLocals ret :: tables_1)).before args0 about1 = true := by
  rw [allAtoms_all]
  show words1.all (fun c => c.before args0 about1) = true
  refine all_split ?_ w_codes
  rw [← List.take_append_drop 24 words1, List.all_append, w_t1, w_t2]
  rfl
set_option maxRecDepth 65536 in
theorem w_case : (Jvm.Cond.and given_1 narrow_1).before args0 about1 = true := by decide +kernel
theorem w_applies : (headSpec (Jvm.Cond.code x code maxLocals ret :: tables_1) room_1).applies x e0.platform about1 = true :=
  (Spec.applies_iff w_frames).mpr ⟨w_running, w_runnable, w_alone, w_named, w_hears, w_ripe, w_room, w_tables⟩
theorem atStart : AtStart classFile x code maxLocals ret World_1 tables_1 room_1 Calls_1 rest_1 Pre_1 launch0 p0 e0 about1 theMethod args0 below0 :=
  ⟨lists_1, trivial, launch0.admits_env _ _ _, launch0.least_env, fairChoices_fair.cas, fairChoices_fair.clock, w_frames, w_args, w_heap, w_applies, trivial, trivial, w_case⟩
end start1
theorem witness_1 : WitnessClaimed_1 := ⟨start1.p0, start1.e0, start1.about1, start1.theMethod, start1.args0, start1.below0, start1.atStart⟩
end Jvm.Pilot.@@N@@
