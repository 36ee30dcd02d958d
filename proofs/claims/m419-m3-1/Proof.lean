import JvmDerived
import JvmDerived.Pilot.@@N@@Statement
import JvmDerived.Pilot.@@N@@Code
set_option linter.unusedVariables false
set_option linter.unusedSimpArgs false
namespace Jvm.RoadKit
open Sem ClassFile Op Lib Jvm.Stand Jvm.Free Jvm.LawKit
section Own
variable {p : Program} {l : Launch} {e : Env} {R : Room} {s : State} {m : MethodId} {args : Array Value} {below : List Frame} {meth : Method} {c : Code} {T : State} {locs : List Loc} {cells slots : Nat}
theorem retI (X : Stand p l e R s m args below meth c T locs cells slots) (hx : p.tables.exec = Jvm.exec) {pc : Nat} {Ls : Array Slot} {z : Int32} {rest : List Value} (hret : meth.sig.returnType = some .int) (hd : decode c.code pc = .ok (.ireturn, 1)) {fs : List Frame}
    (hl : ∀ (f : JFrame) (acts : List Action), f.method = m → f.locked = none → f.entered = [] → (doReturn e (T.setTop f) acts (some (.int z))).1 = T.setFrames fs) : Steps p.tables e below (T.setTop (mkF m pc Ls (.int z :: rest))) (T.setFrames fs) := by
  have hm' : T.vm.method? m = some meth := X.method'
  have hn : narrow .int (.int z) = .int z := rfl
  show Steps p.tables e below (T.setTop { method := m, pc := pc, locals := Ls, stack := _ :: rest, locked := none }) _
  jvm_step X.here [X.here.top, hx, hd, hm', hret, hn]
  first | (intro acts; rw [hl _ acts rfl rfl rfl]) | rw [hl _ _ rfl rfl rfl]
  exact Steps.refl _
/-- the walk comes to an end, with what Φ says there -/
def Goes (p : Program) (e : Env) (below : List Frame) (Φ : State → Outcome → Prop) (S : State) : Prop := ∃ s₂ o, Steps p.tables e below S s₂ ∧ s₂.status = .running ∧ Ended s₂ below o ∧ Φ s₂ o
theorem Goes.via {Φ : State → Outcome → Prop} {S S' : State} (k : ∀ t, Steps p.tables e below S' t → Steps p.tables e below S t) (h : Goes p e below Φ S') : Goes p e below Φ S := by
  obtain ⟨s₂, o, h1, h2, h3, h4⟩ := h
  exact ⟨s₂, o, k _ h1, h2, h3, h4⟩
/-- what a contract's end says -/
def Fin (s : State) (Q : Option Value → Heap → List Loc → Prop) (C S : Nat) : State → Outcome → Prop := fun s₂ o => ∃ v L, o = .returned v ∧ Q v s₂.heap L ∧ FrameEnd s o s₂ L C S
theorem Goes.retN (X : Stand p l e R s m args below meth c T locs cells slots) (hx : p.tables.exec = Jvm.exec) (hlocks : meth.locks = false) {pc : Nat} {Ls : Array Slot} {z : Int32} {t : FieldType} {rest : List Value} (hret : meth.sig.returnType = some t) (ht : t = .boolean ∨ t = .byte ∨ t = .char ∨ t = .short)
    (hd : decode c.code pc = .ok (.ireturn, 1)) {Q : Option Value → Heap → List Loc → Prop} {C S : Nat} (hc : cells ≤ C) (hs : slots ≤ S) (hQ : Q (some (.int (nar t z))) T.heap locs) : Goes p e below (Fin s Q C S) (T.setTop (mkF m pc Ls (.int z :: rest))) := by
  obtain ⟨fs, hr, hrun, hended, hW, hsame⟩ := X.leave (v := some (.int (nar t z))) (fun h => by rw [hret] at h; cases h) hlocks
  exact ⟨_, _, Jvm.RoadKit.retN X hx hret ht hd hr, hrun, hended, _, _, rfl, hQ, ⟨_, rfl⟩, hW, hsame.mono hc hs⟩
theorem Goes.retI (X : Stand p l e R s m args below meth c T locs cells slots) (hx : p.tables.exec = Jvm.exec) (hlocks : meth.locks = false) {pc : Nat} {Ls : Array Slot} {z : Int32} {rest : List Value} (hret : meth.sig.returnType = some .int)
    (hd : decode c.code pc = .ok (.ireturn, 1)) {Q : Option Value → Heap → List Loc → Prop} {C S : Nat} (hc : cells ≤ C) (hs : slots ≤ S) (hQ : Q (some (.int z)) T.heap locs) : Goes p e below (Fin s Q C S) (T.setTop (mkF m pc Ls (.int z :: rest))) := by
  obtain ⟨fs, hr, hrun, hended, hW, hsame⟩ := X.leave (v := some (.int z)) (fun h => by rw [hret] at h; cases h) hlocks
  exact ⟨_, _, Jvm.RoadKit.retI X hx hret hd hr, hrun, hended, _, _, rfl, hQ, ⟨_, rfl⟩, hW, hsame.mono hc hs⟩
theorem Goes.retO (X : Stand p l e R s m args below meth c T locs cells slots) (hx : p.tables.exec = Jvm.exec) (hlocks : meth.locks = false) {pc : Nat} {Ls : Array Slot} {w : Value} {t : FieldType} {i : Instr} {rest : List Value} (hret : meth.sig.returnType = some t) (hn : narrow t w = w)
    (hi : (i = .ireturn ∧ (t = .int ∨ t = .boolean ∨ t = .byte ∨ t = .char ∨ t = .short) ∧ ∃ z, w = .int z) ∨ (i = .lreturn ∧ t = .long ∧ ∃ z, w = .long z) ∨ (i = .dreturn ∧ t = .double ∧ ∃ z, w = .double z) ∨ (i = .freturn ∧ t = .float ∧ ∃ z, w = .float z) ∨ (i = .areturn ∧ t.isReference = true ∧ w.isRef = true))
    (hd : decode c.code pc = .ok (i, 1)) {Q : Option Value → Heap → List Loc → Prop} {C S : Nat} (hc : cells ≤ C) (hs : slots ≤ S) (hQ : Q (some w) T.heap locs) : Goes p e below (Fin s Q C S) (T.setTop (mkF m pc Ls (w :: rest))) := by
  obtain ⟨fs, hr, hrun, hended, hW, hsame⟩ := X.leave (v := some w) (fun h => by rw [hret] at h; cases h) hlocks
  exact ⟨_, _, Jvm.RoadKit.retOut X hx hret hn hi hd hr, hrun, hended, _, _, rfl, hQ, ⟨_, rfl⟩, hW, hsame.mono hc hs⟩
theorem Goes.retV (X : Stand p l e R s m args below meth c T locs cells slots) (hx : p.tables.exec = Jvm.exec) (hlocks : meth.locks = false) {pc : Nat} {Ls : Array Slot} (hret : meth.sig.returnType = none)
    (hd : decode c.code pc = .ok (.return_, 1)) {Q : Option Value → Heap → List Loc → Prop} {C S : Nat} (hc : cells ≤ C) (hs : slots ≤ S) (hQ : Q none T.heap locs) : Goes p e below (Fin s Q C S) (T.setTop (mkF m pc Ls [])) := by
  obtain ⟨fs, hr, hrun, hended, hW, hsame⟩ := X.leave (v := none) (fun _ => rfl) hlocks
  exact ⟨_, _, X.returnOut hx hret hd hr, hrun, hended, _, _, rfl, hQ, ⟨_, rfl⟩, hW, hsame.mono hc hs⟩
/-- room counted generously -/
theorem moreRoom (X : Stand p l e R s m args below meth c T locs cells slots) {k n : Nat} (h1 : cells ≤ k) (h2 : slots ≤ n) : Stand p l e R s m args below meth c T locs k n := { X with same := X.same.mono h1 h2 }
theorem exa_static {args : Array Value} {s : State} {C n d K : String} (h : (Jvm.Cond.exactly (Jvm.Term.static C n d) K).value args s none s [] = some true) : ∃ b, (Jvm.Term.static C n d).eval args s none [] s = some (.ref b) ∧ Exa s s.heap b K := by
  obtain ⟨b, e1⟩ := exa_v h
  exact ⟨b, e1, Exa.start e1 h⟩
theorem fld_static {args : Array Value} {s : State} {t : Jvm.Term} {b : Addr} {C n d : String} {k : Int32} (ev : t.eval args s none [] s = some (.ref b)) (h : (Jvm.Cond.eq (Jvm.Term.field t C n d) (Jvm.Term.int k)).value args s none s [] = some true) : Fld s s.heap b C n d (.int k) := by
  exact Fld.start ((fld_at ev).symm.trans (eqv_i (Term.int_eval k) h))
theorem adr_ne {a b k k' : Nat} (h : a < k) (g : b = k') (q : k ≤ k') : a ≠ b := by omega
theorem cat_ref {v : Value} (h : v.isRef = true) : v.category = 1 := by rcases ref_cases h with rfl | ⟨_, rfl⟩ <;> rfl
theorem narrow_ref {v : Value} {t : FieldType} (h : v.isRef = true) : narrow t v = v := by rcases ref_cases h with rfl | ⟨_, rfl⟩ <;> cases t <;> rfl
theorem fits_refO {v : Value} {C : String} (h : v.isRef = true) : fits (.object C) v = true := by rcases ref_cases h with rfl | ⟨_, rfl⟩ <;> rfl
theorem fld_null {args : Array Value} {s : State} {t : Jvm.Term} {b : Addr} {C n d : String} (ev : t.eval args s none [] s = some (.ref b)) (h : (Jvm.Cond.eq (Jvm.Term.field t C n d) Jvm.Term.null).value args s none s [] = some true) : Fld s s.heap b C n d .null := Fld.start ((fld_at ev).symm.trans (null_v h))
theorem ret1 {z : Int32} (h : z = 1) : some (Value.int (nar .boolean z)) = some (.int 1) := by subst h; rfl
end Own
end Jvm.RoadKit
namespace Jvm.RoadKit
open Sem ClassFile Op Lib Jvm.Stand Jvm.Free Jvm.LawKit
section OwnH
variable {p : Program} {l : Launch} {e : Env} {R : Room} {s : State} {m : MethodId} {args : Array Value} {below : List Frame} {meth : Method} {c : Code} {T : State} {locs : List Loc} {cells slots : Nat} {Z : State} {a0 : Array Value} {EL : List (String × Nat)} {h : Heap}
/-- what a contract's end says where held constants are used -/
def FinH (s Z : State) (EL : List (String × Nat)) (Q : Option Value → Heap → List Loc → Prop) (C S : Nat) : State → Outcome → Prop := fun s₂ o => ∃ v L, o = .returned v ∧ Q v s₂.heap L ∧ CHr Z EL s.vm s.heap s₂.vm s₂.heap ∧ ReturnedEndW s o s₂ L C S
theorem Goes.retOH {vm1 : Vm} (X : Stand p l e R (s.setVm vm1) m args below meth c T locs cells slots) (hx : p.tables.exec = Jvm.exec) (hlocks : meth.locks = false) {k : Nat} (hS : s.Since vm1 k) (hk : k ≤ h.size) (eT : T.heap = h) (hZ : Z.Warmed39 vm1) (hEL : EW Z a0 EL) (hC : CHr Z EL s.vm s.heap vm1 h) {pc : Nat} {Ls : Array Slot} {w : Value} {t : FieldType} {i : Instr} {rest : List Value} (hret : meth.sig.returnType = some t) (hn : narrow t w = w)
    (hi : (i = .ireturn ∧ (t = .int ∨ t = .boolean ∨ t = .byte ∨ t = .char ∨ t = .short) ∧ ∃ z, w = .int z) ∨ (i = .lreturn ∧ t = .long ∧ ∃ z, w = .long z) ∨ (i = .dreturn ∧ t = .double ∧ ∃ z, w = .double z) ∨ (i = .freturn ∧ t = .float ∧ ∃ z, w = .float z) ∨ (i = .areturn ∧ t.isReference = true ∧ w.isRef = true))
    (hd : decode c.code pc = .ok (i, 1)) {Q : Option Value → Heap → List Loc → Prop} {C S : Nat} (hc : cells ≤ C) (hs : slots ≤ S) (hQ : Q (some w) T.heap locs) : Goes p e below (FinH s Z EL Q C S) (T.setTop (mkF m pc Ls (w :: rest))) := by
  subst eT
  have hf : CHr Z EL s.vm s.heap T.vm T.heap := hC.trans (CHv.at X hZ hEL hC.1)
  obtain ⟨fs, hr, hrun, hended, h1, h2, h3, h4⟩ := X.leaveW hS hk (v := some w) (fun h => by rw [hret] at h; cases h) hlocks
  exact ⟨_, _, Jvm.RoadKit.retOut X hx hret hn hi hd hr, hrun, hended, _, _, rfl, hQ, hf, h1, h2, h3, h4.mono hc hs⟩
theorem Goes.retVH {vm1 : Vm} (X : Stand p l e R (s.setVm vm1) m args below meth c T locs cells slots) (hx : p.tables.exec = Jvm.exec) (hlocks : meth.locks = false) {k : Nat} (hS : s.Since vm1 k) (hk : k ≤ h.size) (eT : T.heap = h) (hZ : Z.Warmed39 vm1) (hEL : EW Z a0 EL) (hC : CHr Z EL s.vm s.heap vm1 h) {pc : Nat} {Ls : Array Slot} (hret : meth.sig.returnType = none)
    (hd : decode c.code pc = .ok (.return_, 1)) {Q : Option Value → Heap → List Loc → Prop} {C S : Nat} (hc : cells ≤ C) (hs : slots ≤ S) (hQ : Q none T.heap locs) : Goes p e below (FinH s Z EL Q C S) (T.setTop (mkF m pc Ls [])) := by
  subst eT
  have hf : CHr Z EL s.vm s.heap T.vm T.heap := hC.trans (CHv.at X hZ hEL hC.1)
  obtain ⟨fs, hr, hrun, hended, h1, h2, h3, h4⟩ := X.leaveW hS hk (v := none) (fun _ => rfl) hlocks
  exact ⟨_, _, X.returnOut hx hret hd hr, hrun, hended, _, _, rfl, hQ, hf, h1, h2, h3, h4.mono hc hs⟩
theorem Goes.retNH {vm1 : Vm} (X : Stand p l e R (s.setVm vm1) m args below meth c T locs cells slots) (hx : p.tables.exec = Jvm.exec) (hlocks : meth.locks = false) {k : Nat} (hS : s.Since vm1 k) (hk : k ≤ h.size) (eT : T.heap = h) (hZ : Z.Warmed39 vm1) (hEL : EW Z a0 EL) (hC : CHr Z EL s.vm s.heap vm1 h) {pc : Nat} {Ls : Array Slot} {z : Int32} {t : FieldType} {rest : List Value} (hret : meth.sig.returnType = some t) (ht : t = .boolean ∨ t = .byte ∨ t = .char ∨ t = .short)
    (hd : decode c.code pc = .ok (.ireturn, 1)) {Q : Option Value → Heap → List Loc → Prop} {C S : Nat} (hc : cells ≤ C) (hs : slots ≤ S) (hQ : Q (some (.int (nar t z))) T.heap locs) : Goes p e below (FinH s Z EL Q C S) (T.setTop (mkF m pc Ls (.int z :: rest))) := by
  subst eT
  have hf : CHr Z EL s.vm s.heap T.vm T.heap := hC.trans (CHv.at X hZ hEL hC.1)
  obtain ⟨fs, hr, hrun, hended, h1, h2, h3, h4⟩ := X.leaveW hS hk (v := some (.int (nar t z))) (fun h => by rw [hret] at h; cases h) hlocks
  exact ⟨_, _, Jvm.RoadKit.retN X hx hret ht hd hr, hrun, hended, _, _, rfl, hQ, hf, h1, h2, h3, h4.mono hc hs⟩
/-- two stretches that may intern, as one -/
theorem own_fold {vm0 : Vm} {k0 : Nat} {U : State} {h0 : Heap} (hS : s.Since vm0 k0) (hk : k0 ≤ h0.size) (h2 : (s.setVm vm0).Since U.vm U.heap.size) (g : h0.size ≤ U.heap.size) : s.Since U.vm U.heap.size := hS.trans h2 (Nat.le_trans hk g)
end OwnH
end Jvm.RoadKit
namespace Jvm.RoadKit
open Sem ClassFile Op Lib Bundle Jvm.Stand Jvm.Free Jvm.LawKit Jvm.Free.SB Jvm.Free.SBG
/-- a String whose value is still null is no booked one -/
theorem own_safe {Z : State} {EL : List (String × Nat)} {vm : Vm} {h : Heap} {x : Addr} (hal : Z.vm.Alike vm) (E : Exa Z h x "java/lang/String") (F : Fld Z h x "java/lang/String" "value" "[B" .null) : Safe Z EL vm h x := fun B => by
  obtain ⟨p, -, u, a, -, q, -, S, rfl | rfl⟩ := B
  · obtain ⟨cS, ⟨⟨s1, s2, s3, ⟨cv, kv, iv, s4, s4'⟩, s5, s6, s7, s8, r⟩, hfS, hcS⟩, -⟩ := S
    obtain ⟨cell, c0, k0, i0, f0, e1, e2, e3, e4, e5, e6, e7⟩ := F
    cases (show h[q.sa]? = some q.sC from s1).symm.trans e1
    obtain ⟨k', g1, -⟩ := State.fieldFound?_setVm (s := Z) hal e2
    have g2 : (Wst Z vm h).fieldFound? "java/lang/String" "value" "[B" = some (cv, kv, iv, q.fSV) := s4
    have g3 : (Wst Z vm h).fieldFound? "java/lang/String" "value" "[B" = some (c0, k', i0, f0) := g1
    cases g2.symm.trans g3
    cases s8.symm.trans e7
  · obtain ⟨cell, k, e1, e2, e3, -, -⟩ := E
    cases (show h[q.sd]? = some q.SA from S.hd).symm.trans e1
    obtain ⟨cS, -, -, f, -⟩ := S
    have f : vm.findClass "[B" = some q.SA.cls := f
    rw [hal.findClass] at f
    obtain ⟨k1, q1, q2⟩ := Vm.findClass_spec f
    obtain ⟨k2, q3, q4⟩ := Vm.findClass_spec e2
    cases q1.symm.trans q3
    exact absurd (q2.symm.trans q4) (by decide)
end Jvm.RoadKit
namespace Jvm.Pilot.@@N@@
open Jvm Jvm.ClassFile Sem Op Lib Jvm.Free Jvm.Stand Jvm.LawKit Jvm.RoadKit Bundle Jvm.Pilot.@@N@@.Jvm.D
theorem w_ {Z : State} {a0 : Array Value} {d : Jvm.Cond} (hw : ∀ d ∈ tables_1, d.before a0 Z = true) (i : Nat) (h : tables_1[i]? = some d) : d.before a0 Z = true := hw _ (List.mem_of_getElem? h)
abbrev own_M (l : Launch) (Z : State) (y : MethodName) (c : Jvm.Cond) (ws : List Jvm.Cond) (R : Room) (a : Array Value) (h0 : Heap) (Q : Option Value → Heap → List Loc → Prop) : Prop := MetFree l y (head1 (c :: ws) R) (fun a' U => a' = a ∧ Z.Warmed39 U.vm ∧ U.heap = h0) (fun _ _ _ _ _ => True) (fun _ U oo U' => ∃ vv LL, oo = .returned vv ∧ Q vv U'.heap LL ∧ FrameEnd U oo U' LL R.cells R.slots)
theorem nb_ {a b : Nat} (h : Nat.ble a b = true) : a ≤ b := Nat.le_of_ble_eq_true h
set_option maxRecDepth 65536
set_option maxHeartbeats 40000000
abbrev n_0 : MethodName := ⟨"java/lang/StringUTF16", "putChar", "([BII)V"⟩
abbrev n_1 : MethodName := ⟨"java/lang/StringUTF16", "getChar", "([BI)C"⟩
abbrev n_2 : MethodName := ⟨"java/lang/StringUTF16", "newBytesLength", "(I)I"⟩
abbrev n_3 : MethodName := ⟨"java/lang/StringUTF16", "newBytesFor", "(I)[B"⟩
abbrev n_4 : MethodName := ⟨"java/lang/StringUTF16", "toBytes", "([CII)[B"⟩
abbrev n_5 : MethodName := ⟨"java/lang/StringUTF16", "compress", "([CI[BII)I"⟩
abbrev n_6 : MethodName := ⟨"java/lang/StringUTF16", "compress", "([CII)[B"⟩
abbrev n_7 : MethodName := ⟨"java/lang/StringUTF16", "coderFromArrayLen", "([BI)B"⟩
abbrev n_8 : MethodName := ⟨"java/lang/String", "<init>", "([CIILjava/lang/Void;)V"⟩
abbrev n_9 : MethodName := ⟨"java/lang/String", "<init>", "([C)V"⟩
abbrev n_10 : MethodName := ⟨"java/lang/String", "isEmpty", "()Z"⟩
abbrev n_11 : MethodName := ⟨"java/lang/String", "coder", "()B"⟩
abbrev n_12 : MethodName := ⟨"java/lang/String", "isLatin1", "()Z"⟩
abbrev n_13 : MethodName := ⟨"java/lang/String", "length", "()I"⟩
abbrev n_14 : MethodName := ⟨"jdk/internal/util/Preconditions", "checkIndex", "(IILjava/util/function/BiFunction;)I"⟩
abbrev n_15 : MethodName := ⟨"java/lang/String", "checkIndex", "(II)V"⟩
abbrev n_16 : MethodName := ⟨"java/lang/StringLatin1", "charAt", "([BI)C"⟩
abbrev n_17 : MethodName := ⟨"java/lang/String", "charAt", "(I)C"⟩
abbrev n_18 : MethodName := ⟨"java/lang/StringUTF16", "length", "([B)I"⟩
abbrev n_19 : MethodName := ⟨"java/lang/StringUTF16", "checkIndex", "(I[B)V"⟩
abbrev n_20 : MethodName := ⟨"java/lang/StringUTF16", "charAt", "([BI)C"⟩
abbrev n_21 : MethodName := ⟨"java/lang/StringLatin1", "canEncode", "(I)Z"⟩
abbrev n_22 : MethodName := ⟨"java/lang/Math", "max", "(II)I"⟩
abbrev n_23 : MethodName := ⟨"java/lang/Math", "min", "(II)I"⟩
abbrev n_24 : MethodName := ⟨"java/lang/StringLatin1", "indexOfChar", "([BIII)I"⟩
abbrev n_25 : MethodName := ⟨"java/lang/StringLatin1", "indexOf", "([BIII)I"⟩
abbrev n_26 : MethodName := ⟨"java/lang/String", "indexOf", "(II)I"⟩
abbrev n_27 : MethodName := ⟨"java/lang/String", "indexOf", "(I)I"⟩
abbrev n_28 : MethodName := ⟨"java/lang/String", "equals", "(Ljava/lang/Object;)Z"⟩
abbrev n_29 : MethodName := ⟨"com/example/vestline/vestline/format/Csv", "printable", "(Ljava/lang/String;)Ljava/lang/String;"⟩
abbrev n_30 : MethodName := ⟨"java/lang/Character", "isISOControl", "(I)Z"⟩
abbrev n_31 : MethodName := ⟨"java/lang/Character", "isISOControl", "(C)Z"⟩
abbrev n_32 : MethodName := ⟨"com/example/vestline/vestline/format/Csv", "name", "(Ljava/lang/String;)Ljava/lang/String;"⟩
abbrev n_33 : MethodName := ⟨"com/example/vestline/vestline/format/CsvNamePinLaw", "formulaStart", "(C)Z"⟩
abbrev n_34 : MethodName := ⟨"com/example/vestline/vestline/format/CsvNamePinLaw", "control", "(C)Z"⟩
abbrev n_35 : MethodName := ⟨"com/example/vestline/vestline/format/CsvNamePinLaw", "make", "(ICCCC)Ljava/lang/String;"⟩
theorem pd_0 : parseMethodDescriptor "(I)I" = some ⟨[.int], some .int⟩ := by decide +kernel
theorem pd_1 : parseMethodDescriptor "(I)[B" = some ⟨[.int], some (.array .byte)⟩ := by decide +kernel
theorem pd_2 : parseMethodDescriptor "([BII)V" = some ⟨[(.array .byte), .int, .int], none⟩ := by decide +kernel
theorem pd_3 : parseMethodDescriptor "([CI[BII)I" = some ⟨[(.array .char), .int, (.array .byte), .int, .int], some .int⟩ := by decide +kernel
theorem pd_4 : parseMethodDescriptor "([CII)[B" = some ⟨[(.array .char), .int, .int], some (.array .byte)⟩ := by decide +kernel
theorem pd_5 : parseMethodDescriptor "([BI)C" = some ⟨[(.array .byte), .int], some .char⟩ := by decide +kernel
theorem pd_6 : parseMethodDescriptor "([BI)B" = some ⟨[(.array .byte), .int], some .byte⟩ := by decide +kernel
theorem pd_7 : parseMethodDescriptor "([CIILjava/lang/Void;)V" = some ⟨[(.array .char), .int, .int, (.object "java/lang/Void")], none⟩ := by decide +kernel
theorem pd_8 : parseMethodDescriptor "()B" = some ⟨[], some .byte⟩ := by decide +kernel
theorem pd_9 : parseMethodDescriptor "(IILjava/util/function/BiFunction;)I" = some ⟨[.int, .int, (.object "java/util/function/BiFunction")], some .int⟩ := by decide +kernel
theorem pd_10 : parseMethodDescriptor "(II)V" = some ⟨[.int, .int], none⟩ := by decide +kernel
theorem pd_11 : parseMethodDescriptor "()Z" = some ⟨[], some .boolean⟩ := by decide +kernel
theorem pd_12 : parseMethodDescriptor "([B)I" = some ⟨[(.array .byte)], some .int⟩ := by decide +kernel
theorem pd_13 : parseMethodDescriptor "(I[B)V" = some ⟨[.int, (.array .byte)], none⟩ := by decide +kernel
theorem pd_14 : parseMethodDescriptor "(I)Z" = some ⟨[.int], some .boolean⟩ := by decide +kernel
theorem pd_15 : parseMethodDescriptor "(II)I" = some ⟨[.int, .int], some .int⟩ := by decide +kernel
theorem pd_16 : parseMethodDescriptor "([BIII)I" = some ⟨[(.array .byte), .int, .int, .int], some .int⟩ := by decide +kernel
theorem pd_17 : parseMethodDescriptor "()I" = some ⟨[], some .int⟩ := by decide +kernel
theorem pd_18 : parseMethodDescriptor "(I)C" = some ⟨[.int], some .char⟩ := by decide +kernel
theorem pd_19 : parseMethodDescriptor "(Ljava/lang/String;)Ljava/lang/String;" = some ⟨[(.object "java/lang/String")], some (.object "java/lang/String")⟩ := by decide +kernel
theorem pd_20 : parseMethodDescriptor "(C)Z" = some ⟨[.char], some .boolean⟩ := by decide +kernel
theorem pd_21 : parseMethodDescriptor "([C)V" = some ⟨[(.array .char)], none⟩ := by decide +kernel
theorem pd_22 : parseMethodDescriptor "(ICCCC)Ljava/lang/String;" = some ⟨[.int, .char, .char, .char, .char], some (.object "java/lang/String")⟩ := by decide +kernel
theorem pd_23 : parseMethodDescriptor "(Ljava/lang/Object;)Z" = some ⟨[(.object "java/lang/Object")], some .boolean⟩ := by decide +kernel
/-- a Latin-1 String as it stands -/
def own_Str (Z : State) (h : Heap) (a b : Addr) (k : ClassId) (n : Int32) (vs : List Value) : Prop := Exa Z h a "java/lang/String" ∧ Fld Z h a "java/lang/String" "coder" "B" (.int 0) ∧ Fld Z h a "java/lang/String" "value" "[B" (.ref b) ∧ Arv Z h b k .byte n vs (.int 0)
theorem own_Str.ext {Z : State} {h h' : Heap} {a b : Addr} {k : ClassId} {n : Int32} {vs : List Value} (S : own_Str Z h a b k n vs) (E : Ext h h') : own_Str Z h' a b k n vs := ⟨S.1.ext E, S.2.1.ext E, S.2.2.1.ext E, S.2.2.2.ext E⟩
theorem own_Str.keep {Z : State} {h h' : Heap} {a b : Addr} {k : ClassId} {n : Int32} {vs : List Value} {ws : List Addr} (S : own_Str Z h a b k n vs) (K : Keep h h' ws) (q1 : a ∉ ws) (q2 : b ∉ ws) : own_Str Z h' a b k n vs := ⟨S.1.keep K, S.2.1.keep K q1, S.2.2.1.keep K q1, S.2.2.2.keep K q2⟩
theorem own_Str.lt {Z : State} {h : Heap} {a b : Addr} {k : ClassId} {n : Int32} {vs : List Value} (S : own_Str Z h a b k n vs) : a < h.size ∧ b < h.size := ⟨S.1.lt, S.2.2.2.lt⟩
def own_by (c : Int32) : Int32 := nar .byte c.toInt8.toInt32
/-- a UTF-16 String as it stands -/
def own_StU (Z : State) (h : Heap) (a b : Addr) (k : ClassId) (n : Int32) (vs : List Value) : Prop := Exa Z h a "java/lang/String" ∧ Fld Z h a "java/lang/String" "coder" "B" (.int 1) ∧ Fld Z h a "java/lang/String" "value" "[B" (.ref b) ∧ Arv Z h b k .byte n vs (.int 0)
theorem own_StU.ext {Z : State} {h h' : Heap} {a b : Addr} {k : ClassId} {n : Int32} {vs : List Value} (S : own_StU Z h a b k n vs) (E : Ext h h') : own_StU Z h' a b k n vs := ⟨S.1.ext E, S.2.1.ext E, S.2.2.1.ext E, S.2.2.2.ext E⟩
theorem own_StU.keep {Z : State} {h h' : Heap} {a b : Addr} {k : ClassId} {n : Int32} {vs : List Value} {ws : List Addr} (S : own_StU Z h a b k n vs) (K : Keep h h' ws) (q1 : a ∉ ws) (q2 : b ∉ ws) : own_StU Z h' a b k n vs := ⟨S.1.keep K, S.2.1.keep K q1, S.2.2.1.keep K q1, S.2.2.2.keep K q2⟩
def own_lo (c : Int32) : Int32 := nar .byte (c >>> ((0 : Int32) &&& 31)).toInt8.toInt32
def own_hi (c : Int32) : Int32 := nar .byte (c >>> ((8 : Int32) &&& 31)).toInt8.toInt32
theorem own_nb (x : Int32) : nar .byte x.toInt8.toInt32 = x.toInt8.toInt32 := by show x.toInt8.toInt32.toInt8.toInt32 = _; rw [Int8.toInt8_toInt32]
theorem own_ch {c : Int32} (hc : nar .char c = c) : 0 ≤ c.toInt ∧ c.toInt < 65536 := by
  have q := c_i2c c
  have e : c.toUInt32.toUInt16.toUInt32.toInt32 = c := hc
  rw [e] at q
  exact q.2
/-- a char out of its two bytes -/
theorem own_gc {c : Int32} (hc : nar .char c = c) : nar .char (((own_lo c &&& (255 : Int32)) <<< ((0 : Int32) &&& 31)) ||| ((own_hi c &&& (255 : Int32)) <<< ((8 : Int32) &&& 31))).toUInt32.toUInt16.toUInt32.toInt32 = c := by
  have hr := own_ch hc
  unfold own_lo own_hi
  rw [own_nb, own_nb]
  have a1 := c_ishr c 0 0 (by decide); have a2 := c_ishr c 8 8 (by decide)
  generalize c >>> ((0 : Int32) &&& 31) = u at *
  generalize c >>> ((8 : Int32) &&& 31) = w at *
  have b1 := c_i2b u; have b2 := c_i2b w
  generalize u.toInt8.toInt32 = u' at *
  generalize w.toInt8.toInt32 = w' at *
  have d1 := c_mask u' 255 8 (by decide) (by decide); have d2 := c_mask w' 255 8 (by decide) (by decide)
  generalize u' &&& (255 : Int32) = u2 at *
  generalize w' &&& (255 : Int32) = w2 at *
  have e1 := c_ishl u2 0 0 (by decide); have e2 := c_ishl w2 8 8 (by decide)
  generalize u2 <<< ((0 : Int32) &&& 31) = u3 at *
  generalize w2 <<< ((8 : Int32) &&& 31) = w3 at *
  have l1 := u3.le_toInt; have l2 := u3.toInt_lt; have l3 := w3.le_toInt; have l4 := w3.toInt_lt
  have f := c_or' u3 w3 8 (by decide) 256 (by decide) (by omega) (by omega) (by omega)
  generalize u3 ||| w3 = v at *
  have l5 := v.le_toInt; have l6 := v.toInt_lt
  have g := c_i2c v
  have g2 : nar .char v.toUInt32.toUInt16.toUInt32.toInt32 = v.toUInt32.toUInt16.toUInt32.toInt32 := by
    show (v.toUInt32.toUInt16.toUInt32.toInt32).toUInt32.toUInt16.toUInt32.toInt32 = _
    have e : (v.toUInt32.toUInt16.toUInt32.toInt32).toUInt32 = v.toUInt32.toUInt16.toUInt32 := rfl
    rw [e, UInt16.toUInt16_toUInt32]
  rw [g2]
  exact Int32.toInt_inj.mp (by omega)
/-- a char out of its byte -/
theorem own_lc {c : Int32} (hc : nar .char c = c) (hs : ¬ (255 : Int32) < c) : nar .char (own_by c &&& (255 : Int32)).toUInt32.toUInt16.toUInt32.toInt32 = c := by
  have hr := own_ch hc
  have z : (255 : Int32).toInt = 255 := by decide
  rw [Int32.lt_iff_toInt_lt] at hs
  unfold own_by
  rw [own_nb]
  have b1 := c_i2b c
  generalize c.toInt8.toInt32 = u' at *
  have d1 := c_mask u' 255 8 (by decide) (by decide)
  generalize u' &&& (255 : Int32) = v at *
  have g := c_i2c v
  have g2 : nar .char v.toUInt32.toUInt16.toUInt32.toInt32 = v.toUInt32.toUInt16.toUInt32.toInt32 := by
    show (v.toUInt32.toUInt16.toUInt32.toInt32).toUInt32.toUInt16.toUInt32.toInt32 = _
    have e : (v.toUInt32.toUInt16.toUInt32.toInt32).toUInt32 = v.toUInt32.toUInt16.toUInt32 := rfl
    rw [e, UInt16.toUInt16_toUInt32]
  rw [g2]
  exact Int32.toInt_inj.mp (by omega)
/-- the place of a sign above 255 -/
def own_big (n N : Int32) (us : List Value) (j : Int32) : Prop := ∃ j0 j1 x, ¬ j = n ∧ (j <<< ((1 : Int32) &&& 31)) = j0 ∧ (j0 + (1 : Int32)) = j1 ∧ (¬ j0 < 0 ∧ j0 < N) ∧ (¬ j1 < 0 ∧ j1 < N) ∧ us.getD j0.toNatClampNeg (.int 0) = .int (own_lo x) ∧ us.getD j1.toNatClampNeg (.int 0) = .int (own_hi x) ∧ nar .char x = x ∧ (255 : Int32) < x
theorem own_EW {Z : State} {a0 : Array Value} (hw : ∀ d ∈ tables_1, d.before a0 Z = true) : EW Z a0 consts_1 := by
  intro p hp
  simp only [consts_1, List.mem_cons, List.not_mem_nil, or_false] at hp
  rcases hp with rfl
  · exact ⟨"=+-@\t\r", (w_ hw 53 rfl), by decide⟩
theorem d33_0 : decode jdk_52_method_4_code 0 = .ok (.getstatic 44, 3) := by decide +kernel
theorem d33_3 : decode jdk_52_method_4_code 3 = .ok (.ifCond .ne 25, 3) := by decide +kernel
theorem d33_28 : decode jdk_52_method_4_code 28 = .ok (.iload_n 1, 1) := by decide +kernel
theorem d33_29 : decode jdk_52_method_4_code 29 = .ok (.iconst 1, 1) := by decide +kernel
theorem d33_30 : decode jdk_52_method_4_code 30 = .ok (.ishl, 1) := by decide +kernel
theorem d33_31 : decode jdk_52_method_4_code 31 = .ok (.istore_n 1, 1) := by decide +kernel
theorem d33_32 : decode jdk_52_method_4_code 32 = .ok (.aload_n 0, 1) := by decide +kernel
theorem d33_33 : decode jdk_52_method_4_code 33 = .ok (.iload_n 1, 1) := by decide +kernel
theorem d33_34 : decode jdk_52_method_4_code 34 = .ok (.iinc 1 1, 3) := by decide +kernel
theorem d33_37 : decode jdk_52_method_4_code 37 = .ok (.iload_n 2, 1) := by decide +kernel
theorem d33_38 : decode jdk_52_method_4_code 38 = .ok (.getstatic 59, 3) := by decide +kernel
theorem d33_41 : decode jdk_52_method_4_code 41 = .ok (.ishr, 1) := by decide +kernel
theorem d33_42 : decode jdk_52_method_4_code 42 = .ok (.i2b, 1) := by decide +kernel
theorem d33_43 : decode jdk_52_method_4_code 43 = .ok (.bastore, 1) := by decide +kernel
theorem d33_44 : decode jdk_52_method_4_code 44 = .ok (.aload_n 0, 1) := by decide +kernel
theorem d33_45 : decode jdk_52_method_4_code 45 = .ok (.iload_n 1, 1) := by decide +kernel
theorem d33_46 : decode jdk_52_method_4_code 46 = .ok (.iload_n 2, 1) := by decide +kernel
theorem d33_47 : decode jdk_52_method_4_code 47 = .ok (.getstatic 63, 3) := by decide +kernel
theorem d33_50 : decode jdk_52_method_4_code 50 = .ok (.ishr, 1) := by decide +kernel
theorem d33_51 : decode jdk_52_method_4_code 51 = .ok (.i2b, 1) := by decide +kernel
theorem d33_52 : decode jdk_52_method_4_code 52 = .ok (.bastore, 1) := by decide +kernel
theorem d33_53 : decode jdk_52_method_4_code 53 = .ok (.return_, 1) := by decide +kernel
theorem pn_33 : plainName "java/lang/StringUTF16" = true := by first | (simp [plainName, overriddenIn]; done) | decide +kernel
theorem ef_33 (m : MethodId) (x0 : Addr) (x1 : Int32) (x2 : Int32) : entryFrame m #[(.ref x0), (.int x1), (.int x2)] 3 = mkF m 0 #[.val (.ref x0), .val (.int x1), .val (.int x2)] [] := by first | (simp [entryFrame, mkF, argsToLocals, Value.category]; done) | rfl
def Q_rpc (Z : State) (bb : Addr) (i : Int32) (x : Int32) (kb : ClassId) (n2 j0 j1 : Int32) (k0 k1 : Nat) (vs : List Value) (h0 : Heap) (n0 : Nat) : Option Value → Heap → List Loc → Prop := fun v h L => v = none ∧ Fr n0 L ∧ Keep h0 h [bb] ∧ Arv Z h bb kb .byte n2 ((vs.set k0 (.int (own_lo x))).set k1 (.int (own_hi x))) (.int 0)
theorem rpc (l : Launch) (Z : State) (a0 : Array Value) (hw : ∀ d ∈ tables_1, d.before a0 Z = true) (ws : List Jvm.Cond) (bb : Addr) (i : Int32) (x : Int32) (kb : ClassId) (n2 j0 j1 : Int32) (k0 k1 : Nat) (vs : List Value) (h0 : Heap) (n0 : Nat) (Z0 : n0 ≤ h0.size) (SA : Sta Z Z.heap "java/lang/StringUTF16" "$assertionsDisabled" "Z" (.int (1 : Int32))) (SH : Sta Z Z.heap "java/lang/StringUTF16" "HI_BYTE_SHIFT" "I" (.int (0 : Int32))) (SL : Sta Z Z.heap "java/lang/StringUTF16" "LO_BYTE_SHIFT" "I" (.int (8 : Int32))) (O0 : Old Z n0 h0) (B0 : Arv Z h0 bb kb .byte n2 vs (.int 0)) (gb : n0 ≤ bb) (hj0 : (i <<< ((1 : Int32) &&& 31)) = j0) (hj1 : (j0 + (1 : Int32)) = j1) (q0 : ¬ j0 < 0 ∧ j0 < n2) (q1 : ¬ j1 < 0 ∧ j1 < n2) (m0 : j0.toNatClampNeg = k0) (m1 : j1.toNatClampNeg = k1) (l0 : k0 < vs.length) (l1 : k1 < vs.length) :
    own_M l Z n_0 (Jvm.Cond.code n_0 jdk_52_method_4_code 3 none) ws ({ frames := 0, cells := 0, slots := 0, locals := 0 } : Room) #[(.ref bb), (.int i), (.int x)] h0 (Q_rpc Z bb i x kb n2 j0 j1 k0 k1 vs h0 n0) := by
  refine MetFree.of_bodySF (plainFor_of_name pn_33) hisR ?_
  intro p e s m args below meth c s₁ Bd hml0 hP hK
  obtain ⟨rfl, hZ, hh⟩ := hP
  have hx := Bd.exec
  have hby := Bd.bytes
  have hml : c.maxLocals = 3 := hml0
  have hown : s.vm.findClass "java/lang/StringUTF16" = some m.cls := findClass_of_methodNamed Bd.named
  have hnm := (name_of_methodNamed Bd.named Bd.method).1
  have X0 : Stand p l e ({ frames := 0, cells := 0, slots := 0, locals := 0 } : Room) s m #[(.ref bb), (.int i), (.int x)] below meth c s₁ [] 0 0 := Stand.of_body Bd
  have e0 : s₁.heap = h0 := by rw [← hh, Bd.state]; rfl
  have N0 := Fr.nil n0
  show Goes p e below (Fin s (Q_rpc Z bb i x kb n2 j0 j1 k0 k1 vs h0 n0) ({ frames := 0, cells := 0, slots := 0, locals := 0 } : Room).cells ({ frames := 0, cells := 0, slots := 0, locals := 0 } : Room).slots) _
  refine Goes.via (S' := s₁.setTop (mkF m 0 #[.val (.ref bb), .val (.int i), .val (.int x)] [])) (fun tz kz => castTop (ef_33 m bb i x ) kz) ?_
  obtain ⟨T1, X1, e1, st1⟩ := getS2 X0 hx hZ hown (host := "") (Or.inl (w_ hw 141 rfl)) Via.refl e0 (SA.ext O0.2) (g := (mkF m 0 #[.val (.ref bb), .val (.int i), .val (.int x)] [])) rfl (hb hby d33_0)
  refine Goes.via st1 ?_
  refine Goes.via (S' := T1.setTop (mkF m 31 #[.val (.ref bb), .val (.int i), .val (.int x)] [(.int (i <<< ((1 : Int32) &&& 31)))])) (fun tz kz => ?_) ?_
  · show Steps p.tables e below (T1.setTop (mkF m 3 #[.val (.ref bb), .val (.int i), .val (.int x)] [(.int (1 : Int32))])) _
    refine XS.ifYes X1.here hx rfl (pc0 := 3) (pc' := 28) rfl (hb hby d33_3) rfl ((if0 _ _).trans (feq (by first | decide | rfl)).2) (by decide) (by decide) ?_
    refine XS.iloadN X1.here hx rfl (hb hby d33_28) rfl ?_
    refine XS.iconst X1.here hx rfl (hb hby d33_29) ?_
    refine XS.ishl X1.here hx rfl (hb hby d33_30) rfl ?_
    exact kz
  rw [hj0]
  refine Goes.via (S' := T1.setTop (mkF m 37 #[.val (.ref bb), .val (.int (j0 + (1 : Int32))), .val (.int x)] [(.int j0), (.ref bb)])) (fun tz kz => ?_) ?_
  · show Steps p.tables e below (T1.setTop (mkF m 31 #[.val (.ref bb), .val (.int i), .val (.int x)] [(.int j0)])) _
    refine XS.istoreN X1.here hx rfl (hb hby d33_31) rfl (l' := #[.val (.ref bb), .val (.int j0), .val (.int x)]) rfl ?_
    refine XS.aloadN X1.here hx rfl (hb hby d33_32) rfl rfl ?_
    refine XS.iloadN X1.here hx rfl (hb hby d33_33) rfl ?_
    refine XS.iinc X1.here hx rfl (hb hby d33_34) rfl (l' := #[.val (.ref bb), .val (.int (j0 + (1 : Int32))), .val (.int x)]) rfl ?_
    exact kz
  rw [hj1]
  refine Goes.via (S' := T1.setTop (mkF m 38 #[.val (.ref bb), .val (.int j1), .val (.int x)] [(.int x), (.int j0), (.ref bb)])) (fun tz kz => ?_) ?_
  · show Steps p.tables e below (T1.setTop (mkF m 37 #[.val (.ref bb), .val (.int j1), .val (.int x)] [(.int j0), (.ref bb)])) _
    refine XS.iloadN X1.here hx rfl (hb hby d33_37) rfl ?_
    exact kz
  obtain ⟨T2, X2, e2, st2⟩ := getS2 X1 hx hZ hown (host := "") (Or.inl (w_ hw 142 rfl)) Via.refl e1 (SH.ext O0.2) (g := (mkF m 38 #[.val (.ref bb), .val (.int j1), .val (.int x)] [(.int x), (.int j0), (.ref bb)])) rfl (hb hby d33_38)
  refine Goes.via st2 ?_
  refine Goes.via (S' := T2.setTop (mkF m 43 #[.val (.ref bb), .val (.int j1), .val (.int x)] [(.int ((x >>> ((0 : Int32) &&& 31)).toInt8.toInt32)), (.int j0), (.ref bb)])) (fun tz kz => ?_) ?_
  · show Steps p.tables e below (T2.setTop (mkF m 41 #[.val (.ref bb), .val (.int j1), .val (.int x)] [(.int (0 : Int32)), (.int x), (.int j0), (.ref bb)])) _
    refine XS.ishr X2.here hx rfl (hb hby d33_41) rfl ?_
    refine XS.i2b X2.here hx rfl (hb hby d33_42) rfl ?_
    exact kz
  obtain ⟨cl3, Ar3, q3, Sz3, Nn3, Hs3, G3⟩ := (id B0)
  obtain ⟨T4, h4, X4, e4, W4, st4⟩ := stB X2 hx hZ e2 Ar3 (j := j0) (inb_of Sz3 q0) (g := (mkF m 43 #[.val (.ref bb), .val (.int j1), .val (.int x)] [(.int ((x >>> ((0 : Int32) &&& 31)).toInt8.toInt32)), (.int j0), (.ref bb)])) rfl rfl (hb hby d33_43)
  refine Goes.via st4 ?_
  have N4 := Fr.snoc X4 N0 gb
  have A4 := Arv.set Ar3 q3 Sz3 Nn3 Hs3 G3 (fits_nar_byte _) W4 k0 m0 l0
  have K4 := (Keep.refl h0 [bb]).wr W4 (Or.inl (List.mem_singleton.mpr rfl))
  have O4 := O0.wr W4 gb
  refine Goes.via (S' := T4.setTop (mkF m 47 #[.val (.ref bb), .val (.int j1), .val (.int x)] [(.int x), (.int j1), (.ref bb)])) (fun tz kz => ?_) ?_
  · show Steps p.tables e below (T4.setTop (mkF m 44 #[.val (.ref bb), .val (.int j1), .val (.int x)] [])) _
    refine XS.aloadN X4.here hx rfl (hb hby d33_44) rfl rfl ?_
    refine XS.iloadN X4.here hx rfl (hb hby d33_45) rfl ?_
    refine XS.iloadN X4.here hx rfl (hb hby d33_46) rfl ?_
    exact kz
  obtain ⟨T5, X5, e5, st5⟩ := getS2 X4 hx hZ hown (host := "") (Or.inl (w_ hw 143 rfl)) Via.refl e4 (SL.ext O4.2) (g := (mkF m 47 #[.val (.ref bb), .val (.int j1), .val (.int x)] [(.int x), (.int j1), (.ref bb)])) rfl (hb hby d33_47)
  refine Goes.via st5 ?_
  refine Goes.via (S' := T5.setTop (mkF m 52 #[.val (.ref bb), .val (.int j1), .val (.int x)] [(.int ((x >>> ((8 : Int32) &&& 31)).toInt8.toInt32)), (.int j1), (.ref bb)])) (fun tz kz => ?_) ?_
  · show Steps p.tables e below (T5.setTop (mkF m 50 #[.val (.ref bb), .val (.int j1), .val (.int x)] [(.int (8 : Int32)), (.int x), (.int j1), (.ref bb)])) _
    refine XS.ishr X5.here hx rfl (hb hby d33_50) rfl ?_
    refine XS.i2b X5.here hx rfl (hb hby d33_51) rfl ?_
    exact kz
  obtain ⟨cl6, Ar6, q6, Sz6, Nn6, Hs6, G6⟩ := (id A4)
  obtain ⟨T7, h7, X7, e7, W7, st7⟩ := stB X5 hx hZ e5 Ar6 (j := j1) (inb_of Sz6 q1) (g := (mkF m 52 #[.val (.ref bb), .val (.int j1), .val (.int x)] [(.int ((x >>> ((8 : Int32) &&& 31)).toInt8.toInt32)), (.int j1), (.ref bb)])) rfl rfl (hb hby d33_52)
  refine Goes.via st7 ?_
  have N7 := Fr.snoc X7 N4 gb
  have A7 := Arv.set Ar6 q6 Sz6 Nn6 Hs6 G6 (fits_nar_byte _) W7 k1 m1 (by rw [List.length_set]; exact l1)
  have K7 := (K4).wr W7 (Or.inl (List.mem_singleton.mpr rfl))
  have O7 := O4.wr W7 gb
  exact Goes.retV X7 hx Bd.notSynchronized Bd.returns (hb hby d33_53) (nb_ rfl) (nb_ rfl) (by rw [e7]; exact ⟨rfl, N7, K7, A7⟩)
theorem d34_0 : decode jdk_52_method_5_code 0 = .ok (.getstatic 44, 3) := by decide +kernel
theorem d34_3 : decode jdk_52_method_5_code 3 = .ok (.ifCond .ne 25, 3) := by decide +kernel
theorem d34_28 : decode jdk_52_method_5_code 28 = .ok (.iload_n 1, 1) := by decide +kernel
theorem d34_29 : decode jdk_52_method_5_code 29 = .ok (.iconst 1, 1) := by decide +kernel
theorem d34_30 : decode jdk_52_method_5_code 30 = .ok (.ishl, 1) := by decide +kernel
theorem d34_31 : decode jdk_52_method_5_code 31 = .ok (.istore_n 1, 1) := by decide +kernel
theorem d34_32 : decode jdk_52_method_5_code 32 = .ok (.aload_n 0, 1) := by decide +kernel
theorem d34_33 : decode jdk_52_method_5_code 33 = .ok (.iload_n 1, 1) := by decide +kernel
theorem d34_34 : decode jdk_52_method_5_code 34 = .ok (.iinc 1 1, 3) := by decide +kernel
theorem d34_37 : decode jdk_52_method_5_code 37 = .ok (.baload, 1) := by decide +kernel
theorem d34_38 : decode jdk_52_method_5_code 38 = .ok (.sipush 255, 3) := by decide +kernel
theorem d34_41 : decode jdk_52_method_5_code 41 = .ok (.iand, 1) := by decide +kernel
theorem d34_42 : decode jdk_52_method_5_code 42 = .ok (.getstatic 59, 3) := by decide +kernel
theorem d34_45 : decode jdk_52_method_5_code 45 = .ok (.ishl, 1) := by decide +kernel
theorem d34_46 : decode jdk_52_method_5_code 46 = .ok (.aload_n 0, 1) := by decide +kernel
theorem d34_47 : decode jdk_52_method_5_code 47 = .ok (.iload_n 1, 1) := by decide +kernel
theorem d34_48 : decode jdk_52_method_5_code 48 = .ok (.baload, 1) := by decide +kernel
theorem d34_49 : decode jdk_52_method_5_code 49 = .ok (.sipush 255, 3) := by decide +kernel
theorem d34_52 : decode jdk_52_method_5_code 52 = .ok (.iand, 1) := by decide +kernel
theorem d34_53 : decode jdk_52_method_5_code 53 = .ok (.getstatic 63, 3) := by decide +kernel
theorem d34_56 : decode jdk_52_method_5_code 56 = .ok (.ishl, 1) := by decide +kernel
theorem d34_57 : decode jdk_52_method_5_code 57 = .ok (.ior, 1) := by decide +kernel
theorem d34_58 : decode jdk_52_method_5_code 58 = .ok (.i2c, 1) := by decide +kernel
theorem d34_59 : decode jdk_52_method_5_code 59 = .ok (.ireturn, 1) := by decide +kernel
theorem pn_34 : plainName "java/lang/StringUTF16" = true := by first | (simp [plainName, overriddenIn]; done) | decide +kernel
theorem ef_34 (m : MethodId) (x0 : Addr) (x1 : Int32) : entryFrame m #[(.ref x0), (.int x1)] 2 = mkF m 0 #[.val (.ref x0), .val (.int x1)] [] := by first | (simp [entryFrame, mkF, argsToLocals, Value.category]; done) | rfl
def Q_rgc (Z : State) (bb : Addr) (i : Int32) (kb : ClassId) (n2 j0 j1 x : Int32) (vs : List Value) (h0 : Heap) (n0 : Nat) : Option Value → Heap → List Loc → Prop := fun v h L => v = some (.int x) ∧ Fr n0 L ∧ h = h0
theorem rgc (l : Launch) (Z : State) (a0 : Array Value) (hw : ∀ d ∈ tables_1, d.before a0 Z = true) (ws : List Jvm.Cond) (bb : Addr) (i : Int32) (kb : ClassId) (n2 j0 j1 x : Int32) (vs : List Value) (h0 : Heap) (n0 : Nat) (Z0 : n0 ≤ h0.size) (SA : Sta Z Z.heap "java/lang/StringUTF16" "$assertionsDisabled" "Z" (.int (1 : Int32))) (SH : Sta Z Z.heap "java/lang/StringUTF16" "HI_BYTE_SHIFT" "I" (.int (0 : Int32))) (SL : Sta Z Z.heap "java/lang/StringUTF16" "LO_BYTE_SHIFT" "I" (.int (8 : Int32))) (O0 : Old Z n0 h0) (B0 : Arv Z h0 bb kb .byte n2 vs (.int 0)) (hj0 : (i <<< ((1 : Int32) &&& 31)) = j0) (hj1 : (j0 + (1 : Int32)) = j1) (q0 : ¬ j0 < 0 ∧ j0 < n2) (q1 : ¬ j1 < 0 ∧ j1 < n2) (g0 : vs.getD j0.toNatClampNeg (.int 0) = .int (own_lo x)) (g1 : vs.getD j1.toNatClampNeg (.int 0) = .int (own_hi x)) (zx : nar .char x = x) :
    own_M l Z n_1 (Jvm.Cond.code n_1 jdk_52_method_5_code 2 (some .char)) ws ({ frames := 0, cells := 0, slots := 0, locals := 0 } : Room) #[(.ref bb), (.int i)] h0 (Q_rgc Z bb i kb n2 j0 j1 x vs h0 n0) := by
  refine MetFree.of_bodySF (plainFor_of_name pn_34) hisR ?_
  intro p e s m args below meth c s₁ Bd hml0 hP hK
  obtain ⟨rfl, hZ, hh⟩ := hP
  have hx := Bd.exec
  have hby := Bd.bytes
  have hml : c.maxLocals = 2 := hml0
  have hown : s.vm.findClass "java/lang/StringUTF16" = some m.cls := findClass_of_methodNamed Bd.named
  have hnm := (name_of_methodNamed Bd.named Bd.method).1
  have X0 : Stand p l e ({ frames := 0, cells := 0, slots := 0, locals := 0 } : Room) s m #[(.ref bb), (.int i)] below meth c s₁ [] 0 0 := Stand.of_body Bd
  have e0 : s₁.heap = h0 := by rw [← hh, Bd.state]; rfl
  have N0 := Fr.nil n0
  show Goes p e below (Fin s (Q_rgc Z bb i kb n2 j0 j1 x vs h0 n0) ({ frames := 0, cells := 0, slots := 0, locals := 0 } : Room).cells ({ frames := 0, cells := 0, slots := 0, locals := 0 } : Room).slots) _
  refine Goes.via (S' := s₁.setTop (mkF m 0 #[.val (.ref bb), .val (.int i)] [])) (fun tz kz => castTop (ef_34 m bb i ) kz) ?_
  obtain ⟨T1, X1, e1, st1⟩ := getS2 X0 hx hZ hown (host := "") (Or.inl (w_ hw 141 rfl)) Via.refl e0 (SA.ext O0.2) (g := (mkF m 0 #[.val (.ref bb), .val (.int i)] [])) rfl (hb hby d34_0)
  refine Goes.via st1 ?_
  refine Goes.via (S' := T1.setTop (mkF m 31 #[.val (.ref bb), .val (.int i)] [(.int (i <<< ((1 : Int32) &&& 31)))])) (fun tz kz => ?_) ?_
  · show Steps p.tables e below (T1.setTop (mkF m 3 #[.val (.ref bb), .val (.int i)] [(.int (1 : Int32))])) _
    refine XS.ifYes X1.here hx rfl (pc0 := 3) (pc' := 28) rfl (hb hby d34_3) rfl ((if0 _ _).trans (feq (by first | decide | rfl)).2) (by decide) (by decide) ?_
    refine XS.iloadN X1.here hx rfl (hb hby d34_28) rfl ?_
    refine XS.iconst X1.here hx rfl (hb hby d34_29) ?_
    refine XS.ishl X1.here hx rfl (hb hby d34_30) rfl ?_
    exact kz
  rw [hj0]
  refine Goes.via (S' := T1.setTop (mkF m 37 #[.val (.ref bb), .val (.int (j0 + (1 : Int32)))] [(.int j0), (.ref bb)])) (fun tz kz => ?_) ?_
  · show Steps p.tables e below (T1.setTop (mkF m 31 #[.val (.ref bb), .val (.int i)] [(.int j0)])) _
    refine XS.istoreN X1.here hx rfl (hb hby d34_31) rfl (l' := #[.val (.ref bb), .val (.int j0)]) rfl ?_
    refine XS.aloadN X1.here hx rfl (hb hby d34_32) rfl rfl ?_
    refine XS.iloadN X1.here hx rfl (hb hby d34_33) rfl ?_
    refine XS.iinc X1.here hx rfl (hb hby d34_34) rfl (l' := #[.val (.ref bb), .val (.int (j0 + (1 : Int32)))]) rfl ?_
    exact kz
  rw [hj1]
  obtain ⟨cl2, Ar2, q2, Sz2, Nn2, Hs2, G2⟩ := (id B0)
  refine Goes.via (S' := T1.setTop (mkF m 42 #[.val (.ref bb), .val (.int j1)] [(.int ((own_lo x) &&& (255 : Int32)))])) (fun tz kz => ?_) ?_
  · show Steps p.tables e below (T1.setTop (mkF m 37 #[.val (.ref bb), .val (.int j1)] [(.int j0), (.ref bb)])) _
    refine X1.baloadBytes hx (j := j0) (v := (.int (own_lo x))) (by rw [e1]; exact Ar2.1) (State.isArrayOf_alike hZ.alike Ar2.2.1) Ar2.2.2 (inb_of Sz2 q0) (Has.at Hs2 (inb_of Sz2 q0) g0) (g := (mkF m 37 #[.val (.ref bb), .val (.int j1)] [(.int j0), (.ref bb)])) rfl rfl (hb hby d34_37) _ ?_
    refine XS.sipush X1.here hx rfl (hb hby d34_38) ?_
    refine XS.iand X1.here hx rfl (hb hby d34_41) rfl ?_
    exact kz
  obtain ⟨T3, X3, e3, st3⟩ := getS2 X1 hx hZ hown (host := "") (Or.inl (w_ hw 142 rfl)) Via.refl e1 (SH.ext O0.2) (g := (mkF m 42 #[.val (.ref bb), .val (.int j1)] [(.int ((own_lo x) &&& (255 : Int32)))])) rfl (hb hby d34_42)
  refine Goes.via st3 ?_
  refine Goes.via (S' := T3.setTop (mkF m 48 #[.val (.ref bb), .val (.int j1)] [(.int j1), (.ref bb), (.int (((own_lo x) &&& (255 : Int32)) <<< ((0 : Int32) &&& 31)))])) (fun tz kz => ?_) ?_
  · show Steps p.tables e below (T3.setTop (mkF m 45 #[.val (.ref bb), .val (.int j1)] [(.int (0 : Int32)), (.int ((own_lo x) &&& (255 : Int32)))])) _
    refine XS.ishl X3.here hx rfl (hb hby d34_45) rfl ?_
    refine XS.aloadN X3.here hx rfl (hb hby d34_46) rfl rfl ?_
    refine XS.iloadN X3.here hx rfl (hb hby d34_47) rfl ?_
    exact kz
  obtain ⟨cl4, Ar4, q4, Sz4, Nn4, Hs4, G4⟩ := (id B0)
  refine Goes.via (S' := T3.setTop (mkF m 53 #[.val (.ref bb), .val (.int j1)] [(.int ((own_hi x) &&& (255 : Int32))), (.int (((own_lo x) &&& (255 : Int32)) <<< ((0 : Int32) &&& 31)))])) (fun tz kz => ?_) ?_
  · show Steps p.tables e below (T3.setTop (mkF m 48 #[.val (.ref bb), .val (.int j1)] [(.int j1), (.ref bb), (.int (((own_lo x) &&& (255 : Int32)) <<< ((0 : Int32) &&& 31)))])) _
    refine X3.baloadBytes hx (j := j1) (v := (.int (own_hi x))) (by rw [e3]; exact Ar4.1) (State.isArrayOf_alike hZ.alike Ar4.2.1) Ar4.2.2 (inb_of Sz4 q1) (Has.at Hs4 (inb_of Sz4 q1) g1) (g := (mkF m 48 #[.val (.ref bb), .val (.int j1)] [(.int j1), (.ref bb), (.int (((own_lo x) &&& (255 : Int32)) <<< ((0 : Int32) &&& 31)))])) rfl rfl (hb hby d34_48) _ ?_
    refine XS.sipush X3.here hx rfl (hb hby d34_49) ?_
    refine XS.iand X3.here hx rfl (hb hby d34_52) rfl ?_
    exact kz
  obtain ⟨T5, X5, e5, st5⟩ := getS2 X3 hx hZ hown (host := "") (Or.inl (w_ hw 143 rfl)) Via.refl e3 (SL.ext O0.2) (g := (mkF m 53 #[.val (.ref bb), .val (.int j1)] [(.int ((own_hi x) &&& (255 : Int32))), (.int (((own_lo x) &&& (255 : Int32)) <<< ((0 : Int32) &&& 31)))])) rfl (hb hby d34_53)
  refine Goes.via st5 ?_
  refine Goes.via (S' := T5.setTop (mkF m 59 #[.val (.ref bb), .val (.int j1)] [(.int (((((own_lo x) &&& (255 : Int32)) <<< ((0 : Int32) &&& 31)) ||| (((own_hi x) &&& (255 : Int32)) <<< ((8 : Int32) &&& 31))).toUInt32.toUInt16.toUInt32.toInt32))])) (fun tz kz => ?_) ?_
  · show Steps p.tables e below (T5.setTop (mkF m 56 #[.val (.ref bb), .val (.int j1)] [(.int (8 : Int32)), (.int ((own_hi x) &&& (255 : Int32))), (.int (((own_lo x) &&& (255 : Int32)) <<< ((0 : Int32) &&& 31)))])) _
    refine XS.ishl X5.here hx rfl (hb hby d34_56) rfl ?_
    refine XS.ior X5.here hx rfl (hb hby d34_57) rfl ?_
    refine XS.i2c X5.here hx rfl (hb hby d34_58) rfl ?_
    exact kz
  exact Goes.retN X5 hx Bd.notSynchronized (t := .char) Bd.returns (by simp) (hb hby d34_59) (nb_ rfl) (nb_ rfl) ⟨congrArg (fun z => some (Value.int z)) (own_gc zx), N0, e5⟩
theorem d32_0 : decode jdk_52_method_3_code 0 = .ok (.iload_n 0, 1) := by decide +kernel
theorem d32_1 : decode jdk_52_method_3_code 1 = .ok (.ifCond .ge 11, 3) := by decide +kernel
theorem d32_12 : decode jdk_52_method_3_code 12 = .ok (.iload_n 0, 1) := by decide +kernel
theorem d32_13 : decode jdk_52_method_3_code 13 = .ok (.ldc 20, 2) := by decide +kernel
theorem d32_15 : decode jdk_52_method_3_code 15 = .ok (.if_icmp .lt 40, 3) := by decide +kernel
theorem d32_55 : decode jdk_52_method_3_code 55 = .ok (.iload_n 0, 1) := by decide +kernel
theorem d32_56 : decode jdk_52_method_3_code 56 = .ok (.iconst 1, 1) := by decide +kernel
theorem d32_57 : decode jdk_52_method_3_code 57 = .ok (.ishl, 1) := by decide +kernel
theorem d32_58 : decode jdk_52_method_3_code 58 = .ok (.ireturn, 1) := by decide +kernel
theorem pn_32 : plainName "java/lang/StringUTF16" = true := by first | (simp [plainName, overriddenIn]; done) | decide +kernel
theorem ef_32 (m : MethodId) (x0 : Int32) : entryFrame m #[(.int x0)] 1 = mkF m 0 #[.val (.int x0)] [] := by first | (simp [entryFrame, mkF, argsToLocals, Value.category]; done) | rfl
def Q_rnbl_1 (Z : State)   (h0 : Heap) (n0 : Nat) : Option Value → Heap → List Loc → Prop := fun v h L => v = some (.int (2 : Int32)) ∧ Fr n0 L ∧ h = h0
theorem rnbl_1 (l : Launch) (Z : State) (a0 : Array Value) (hw : ∀ d ∈ tables_1, d.before a0 Z = true) (ws : List Jvm.Cond)   (h0 : Heap) (n0 : Nat) (Z0 : n0 ≤ h0.size) :
    own_M l Z n_2 (Jvm.Cond.code n_2 jdk_52_method_3_code 1 (some .int)) ws ({ frames := 0, cells := 0, slots := 0, locals := 0 } : Room) #[(.int (1 : Int32))] h0 (Q_rnbl_1 Z  h0 n0) := by
  refine MetFree.of_bodySF (plainFor_of_name pn_32) hisR ?_
  intro p e s m args below meth c s₁ Bd hml0 hP hK
  obtain ⟨rfl, hZ, hh⟩ := hP
  have hx := Bd.exec
  have hby := Bd.bytes
  have hml : c.maxLocals = 1 := hml0
  have hown : s.vm.findClass "java/lang/StringUTF16" = some m.cls := findClass_of_methodNamed Bd.named
  have hnm := (name_of_methodNamed Bd.named Bd.method).1
  have X0 : Stand p l e ({ frames := 0, cells := 0, slots := 0, locals := 0 } : Room) s m #[(.int (1 : Int32))] below meth c s₁ [] 0 0 := Stand.of_body Bd
  have e0 : s₁.heap = h0 := by rw [← hh, Bd.state]; rfl
  have N0 := Fr.nil n0
  show Goes p e below (Fin s (Q_rnbl_1 Z  h0 n0) ({ frames := 0, cells := 0, slots := 0, locals := 0 } : Room).cells ({ frames := 0, cells := 0, slots := 0, locals := 0 } : Room).slots) _
  refine Goes.via (S' := s₁.setTop (mkF m 0 #[.val (.int (1 : Int32))] [])) (fun tz kz => castTop (ef_32 m (1 : Int32) ) kz) ?_
  refine Goes.via (S' := s₁.setTop (mkF m 58 #[.val (.int (1 : Int32))] [(.int (2 : Int32))])) (fun tz kz => ?_) ?_
  · show Steps p.tables e below (s₁.setTop (mkF m 0 #[.val (.int (1 : Int32))] [])) _
    refine XS.iloadN X0.here hx rfl (hb hby d32_0) rfl ?_
    refine XS.ifYes X0.here hx rfl (pc0 := 1) (pc' := 12) rfl (hb hby d32_1) rfl ((if0 _ _).trans (flt (by first | decide | rfl)).2.1) (by decide) (by decide) ?_
    refine XS.iloadN X0.here hx rfl (hb hby d32_12) rfl ?_
    refine X0.ldcInt hx hown (mvT hZ (w_ hw 137 rfl)) (g := (mkF m 13 #[.val (.int (1 : Int32))] [(.int (1 : Int32))])) rfl (hb hby d32_13) _ ?_
    refine XS.icmpYes X0.here hx rfl (pc0 := 15) (pc' := 55) rfl (hb hby d32_15) rfl (tlt (by first | decide | rfl)).1 (by decide) (by decide) ?_
    refine XS.iloadN X0.here hx rfl (hb hby d32_55) rfl ?_
    refine XS.iconst X0.here hx rfl (hb hby d32_56) ?_
    refine XS.ishl X0.here hx rfl (hb hby d32_57) rfl ?_
    exact kz
  exact Goes.retI X0 hx Bd.notSynchronized Bd.returns (hb hby d32_58) (nb_ rfl) (nb_ rfl) ⟨rfl, N0, e0⟩
theorem d31_0 : decode jdk_52_method_2_code 0 = .ok (.iload_n 0, 1) := by decide +kernel
theorem d31_1 : decode jdk_52_method_2_code 1 = .ok (.invokestatic 11, 3) := by decide +kernel
theorem d31_4 : decode jdk_52_method_2_code 4 = .ok (.newarray .byte, 2) := by decide +kernel
theorem d31_6 : decode jdk_52_method_2_code 6 = .ok (.areturn, 1) := by decide +kernel
theorem pn_31 : plainName "java/lang/StringUTF16" = true := by first | (simp [plainName, overriddenIn]; done) | decide +kernel
theorem ef_31 (m : MethodId) (x0 : Int32) : entryFrame m #[(.int x0)] 1 = mkF m 0 #[.val (.int x0)] [] := by first | (simp [entryFrame, mkF, argsToLocals, Value.category]; done) | rfl
def Q_rnbf_1 (Z : State)   (h0 : Heap) (n0 : Nat) : Option Value → Heap → List Loc → Prop := fun v h L => ∃ b k, v = some (.ref b) ∧ Fr n0 L ∧ Keep h0 h [] ∧ Arv Z h b k .byte (2 : Int32) [.int 0, .int 0] (.int 0) ∧ @LE.le Nat _ h0.size b
theorem rnbf_1 (l : Launch) (Z : State) (a0 : Array Value) (hw : ∀ d ∈ tables_1, d.before a0 Z = true) (ws : List Jvm.Cond)   (h0 : Heap) (n0 : Nat) (Z0 : n0 ≤ h0.size) :
    own_M l Z n_3 (Jvm.Cond.code n_3 jdk_52_method_2_code 1 (some (.array .byte))) ws ({ frames := 1, cells := 1, slots := 2, locals := 16 } : Room) #[(.int (1 : Int32))] h0 (Q_rnbf_1 Z  h0 n0) := by
  refine MetFree.of_bodySF (plainFor_of_name pn_31) hisR ?_
  intro p e s m args below meth c s₁ Bd hml0 hP hK
  obtain ⟨rfl, hZ, hh⟩ := hP
  have hx := Bd.exec
  have hby := Bd.bytes
  have hml : c.maxLocals = 1 := hml0
  have hown : s.vm.findClass "java/lang/StringUTF16" = some m.cls := findClass_of_methodNamed Bd.named
  have hnm := (name_of_methodNamed Bd.named Bd.method).1
  have X0 : Stand p l e ({ frames := 1, cells := 1, slots := 2, locals := 16 } : Room) s m #[(.int (1 : Int32))] below meth c s₁ [] 0 0 := Stand.of_body Bd
  have e0 : s₁.heap = h0 := by rw [← hh, Bd.state]; rfl
  have N0 := Fr.nil n0
  show Goes p e below (Fin s (Q_rnbf_1 Z  h0 n0) ({ frames := 1, cells := 1, slots := 2, locals := 16 } : Room).cells ({ frames := 1, cells := 1, slots := 2, locals := 16 } : Room).slots) _
  refine Goes.via (S' := s₁.setTop (mkF m 0 #[.val (.int (1 : Int32))] [])) (fun tz kz => castTop (ef_31 m (1 : Int32) ) kz) ?_
  refine Goes.via (S' := s₁.setTop (mkF m 1 #[.val (.int (1 : Int32))] [(.int (1 : Int32))])) (fun tz kz => ?_) ?_
  · show Steps p.tables e below (s₁.setTop (mkF m 0 #[.val (.int (1 : Int32))] [])) _
    refine XS.iloadN X0.here hx rfl (hb hby d31_0) rfl ?_
    exact kz
  obtain ⟨_, _, ⟨T1, L1, k1, n1⟩, -, X1, ⟨Lc1, hQ1, l1, y1, z1⟩, st1⟩ := Jvm.LawKit.callS X0 hx (y := n_2) hown (mvT hZ (w_ hw 134 rfl)) (mvT hZ (w_ hw 135 rfl)) (mvT hZ (w_ hw 28 rfl)) (mvT hZ (w_ hw 136 rfl)) (by decide) (backOf (W := 0) (rnbl_1 l Z a0 hw [] h0 n0 Z0) hZ (w_ hw 136 rfl) (w_ hw 28 rfl) (by decide) (by decide)) (g := (mkF m 1 #[.val (.int (1 : Int32))] [(.int (1 : Int32))])) rfl (by rw [hml]; rfl) (argsL := [(.int (1 : Int32))]) (rest := []) (lenOf pd_0 rfl) rfl (by show 2 * 0 + _ ≤ _; exact Nat.le_of_eq rfl) (hb hby d31_1) (fun _ _ => ⟨rfl, e0, (by decide : 0 + 0 ≤ _), (by decide : 0 + 0 ≤ _)⟩)
  dsimp only [Pt.U, Pt.locs, Pt.cells, Pt.slots] at X1 l1 y1 z1 st1 hQ1
  subst l1 y1 z1
  obtain ⟨rfl, N1, e1⟩ := hQ1
  have Nf1 := Fr.app N0 N1
  refine Goes.via (st1) ?_
  obtain ⟨T2, h2, k2, X2, e2, E2, A2, st2⟩ := newP X1 hx hZ (w_ hw 30 rfl) e1 (g := (mkF m 4 #[.val (.int (1 : Int32))] [(.int (2 : Int32))])) rfl (hb hby d31_4) rfl (by decide) (cap := 2) (by decide) (by decide) (by decide) (by decide)
  obtain ⟨b2, g2⟩ : ∃ z, z = h0.size := ⟨_, rfl⟩
  rw [← g2] at A2 st2
  refine Goes.via st2 ?_
  have B2 : Arv Z h2 b2 k2 .byte (2 : Int32) [.int 0, .int 0] (.int 0) := (Arv.new A2 (by decide)).pad (pad_rep [] (.int 0) 2)
  exact Goes.retO X2 hx Bd.notSynchronized Bd.returns rfl (Or.inr (Or.inr (Or.inr (Or.inr ⟨rfl, rfl, rfl⟩)))) (hb hby d31_6) (nb_ rfl) (nb_ rfl) (by rw [e2]; exact ⟨b2, k2, rfl, Nf1, (Keep.refl h0 []).ext E2, B2, Nat.le_of_eq g2.symm⟩)
theorem d30_0 : decode jdk_52_method_14_code 0 = .ok (.iload_n 2, 1) := by decide +kernel
theorem d30_1 : decode jdk_52_method_14_code 1 = .ok (.invokestatic 107, 3) := by decide +kernel
theorem d30_4 : decode jdk_52_method_14_code 4 = .ok (.astore_n 3, 1) := by decide +kernel
theorem d30_5 : decode jdk_52_method_14_code 5 = .ok (.iconst 0, 1) := by decide +kernel
theorem d30_6 : decode jdk_52_method_14_code 6 = .ok (.istore 4, 2) := by decide +kernel
theorem d30_8 : decode jdk_52_method_14_code 8 = .ok (.iload 4, 2) := by decide +kernel
theorem d30_10 : decode jdk_52_method_14_code 10 = .ok (.iload_n 2, 1) := by decide +kernel
theorem d30_11 : decode jdk_52_method_14_code 11 = .ok (.if_icmp .ge 21, 3) := by decide +kernel
theorem d30_14 : decode jdk_52_method_14_code 14 = .ok (.aload_n 3, 1) := by decide +kernel
theorem d30_15 : decode jdk_52_method_14_code 15 = .ok (.iload 4, 2) := by decide +kernel
theorem d30_17 : decode jdk_52_method_14_code 17 = .ok (.aload_n 0, 1) := by decide +kernel
theorem d30_18 : decode jdk_52_method_14_code 18 = .ok (.iload_n 1, 1) := by decide +kernel
theorem d30_19 : decode jdk_52_method_14_code 19 = .ok (.caload, 1) := by decide +kernel
theorem d30_20 : decode jdk_52_method_14_code 20 = .ok (.invokestatic 111, 3) := by decide +kernel
theorem d30_23 : decode jdk_52_method_14_code 23 = .ok (.iinc 1 1, 3) := by decide +kernel
theorem d30_26 : decode jdk_52_method_14_code 26 = .ok (.iinc 4 1, 3) := by decide +kernel
theorem d30_29 : decode jdk_52_method_14_code 29 = .ok (.goto (-21), 3) := by decide +kernel
theorem d30_32 : decode jdk_52_method_14_code 32 = .ok (.aload_n 3, 1) := by decide +kernel
theorem d30_33 : decode jdk_52_method_14_code 33 = .ok (.areturn, 1) := by decide +kernel
theorem pn_30 : plainName "java/lang/StringUTF16" = true := by first | (simp [plainName, overriddenIn]; done) | decide +kernel
theorem ef_30 (m : MethodId) (x0 : Addr) (x1 : Int32) (x2 : Int32) : entryFrame m #[(.ref x0), (.int x1), (.int x2)] 5 = mkF m 0 #[.val (.ref x0), .val (.int x1), .val (.int x2), .unset, .unset] [] := by first | (simp [entryFrame, mkF, argsToLocals, Value.category]; done) | rfl
def Q_rtb_1 (Z : State) (ca : Addr) (ka : ClassId) (c0 : Int32) (h0 : Heap) (n0 : Nat) : Option Value → Heap → List Loc → Prop := fun v h L => ∃ b k, v = some (.ref b) ∧ Fr n0 L ∧ Keep h0 h [] ∧ Arv Z h b k .byte (2 : Int32) [.int (own_lo c0), .int (own_hi c0)] (.int 0) ∧ @LE.le Nat _ h0.size b
theorem rtb_1 (l : Launch) (Z : State) (a0 : Array Value) (hw : ∀ d ∈ tables_1, d.before a0 Z = true) (ws : List Jvm.Cond) (ca : Addr) (ka : ClassId) (c0 : Int32) (h0 : Heap) (n0 : Nat) (Z0 : n0 ≤ h0.size) (SA : Sta Z Z.heap "java/lang/StringUTF16" "$assertionsDisabled" "Z" (.int (1 : Int32))) (SH : Sta Z Z.heap "java/lang/StringUTF16" "HI_BYTE_SHIFT" "I" (.int (0 : Int32))) (SL : Sta Z Z.heap "java/lang/StringUTF16" "LO_BYTE_SHIFT" "I" (.int (8 : Int32))) (O0 : Old Z n0 h0) (C0 : Arv Z h0 ca ka .char (1 : Int32) [.int c0] (.int 0)) :
    own_M l Z n_4 (Jvm.Cond.code n_4 jdk_52_method_14_code 5 (some (.array .byte))) ws ({ frames := 2, cells := 1, slots := 2, locals := 36 } : Room) #[(.ref ca), (.int (0 : Int32)), (.int (1 : Int32))] h0 (Q_rtb_1 Z ca ka c0 h0 n0) := by
  refine MetFree.of_bodySF (plainFor_of_name pn_30) hisR ?_
  intro p e s m args below meth c s₁ Bd hml0 hP hK
  obtain ⟨rfl, hZ, hh⟩ := hP
  have hx := Bd.exec
  have hby := Bd.bytes
  have hml : c.maxLocals = 5 := hml0
  have hown : s.vm.findClass "java/lang/StringUTF16" = some m.cls := findClass_of_methodNamed Bd.named
  have hnm := (name_of_methodNamed Bd.named Bd.method).1
  have X0 : Stand p l e ({ frames := 2, cells := 1, slots := 2, locals := 36 } : Room) s m #[(.ref ca), (.int (0 : Int32)), (.int (1 : Int32))] below meth c s₁ [] 0 0 := Stand.of_body Bd
  have e0 : s₁.heap = h0 := by rw [← hh, Bd.state]; rfl
  have N0 := Fr.nil n0
  show Goes p e below (Fin s (Q_rtb_1 Z ca ka c0 h0 n0) ({ frames := 2, cells := 1, slots := 2, locals := 36 } : Room).cells ({ frames := 2, cells := 1, slots := 2, locals := 36 } : Room).slots) _
  refine Goes.via (S' := s₁.setTop (mkF m 0 #[.val (.ref ca), .val (.int (0 : Int32)), .val (.int (1 : Int32)), .unset, .unset] [])) (fun tz kz => castTop (ef_30 m ca (0 : Int32) (1 : Int32) ) kz) ?_
  refine Goes.via (S' := s₁.setTop (mkF m 1 #[.val (.ref ca), .val (.int (0 : Int32)), .val (.int (1 : Int32)), .unset, .unset] [(.int (1 : Int32))])) (fun tz kz => ?_) ?_
  · show Steps p.tables e below (s₁.setTop (mkF m 0 #[.val (.ref ca), .val (.int (0 : Int32)), .val (.int (1 : Int32)), .unset, .unset] [])) _
    refine XS.iloadN X0.here hx rfl (hb hby d30_0) rfl ?_
    exact kz
  obtain ⟨_, _, ⟨T1, L1, k1, n1⟩, -, X1, ⟨Lc1, hQ1, l1, y1, z1⟩, st1⟩ := Jvm.LawKit.callS X0 hx (y := n_3) hown (mvT hZ (w_ hw 131 rfl)) (mvT hZ (w_ hw 132 rfl)) (mvT hZ (w_ hw 28 rfl)) (mvT hZ (w_ hw 133 rfl)) (by decide) (backOf (W := 0) (rnbf_1 l Z a0 hw []  h0 n0 Z0) hZ (w_ hw 133 rfl) (w_ hw 28 rfl) (by decide) (by decide)) (g := (mkF m 1 #[.val (.ref ca), .val (.int (0 : Int32)), .val (.int (1 : Int32)), .unset, .unset] [(.int (1 : Int32))])) rfl (by rw [hml]; rfl) (argsL := [(.int (1 : Int32))]) (rest := []) (lenOf pd_1 rfl) rfl (by show 2 * 0 + _ ≤ _; exact Nat.le_of_eq rfl) (hb hby d30_1) (fun _ _ => ⟨rfl, e0, (by decide : 0 + 1 ≤ _), (by decide : 0 + 2 ≤ _)⟩)
  dsimp only [Pt.U, Pt.locs, Pt.cells, Pt.slots] at X1 l1 y1 z1 st1 hQ1
  subst l1 y1 z1
  obtain ⟨nb, kn, rfl, N1, K1, B1, gv⟩ := hQ1
  have Nf1 := Fr.app N0 N1
  refine Goes.via (st1) ?_
  have C1 := C0.keep K1 nin0
  have O1 := O0.keep K1 all0
  have gb : n0 ≤ nb := Nat.le_trans Z0 gv
  have nab : ca ≠ nb := Nat.ne_of_lt (Nat.lt_of_lt_of_le C0.lt gv)
  have Z1 := Nat.le_trans Z0 K1.1
  refine Goes.via (S' := T1.setTop (mkF m 19 #[.val (.ref ca), .val (.int (0 : Int32)), .val (.int (1 : Int32)), .val (.ref nb), .val (.int (0 : Int32))] [(.int (0 : Int32)), (.ref ca), (.int (0 : Int32)), (.ref nb)])) (fun tz kz => ?_) ?_
  · show Steps p.tables e below (T1.setTop (mkF m 4 #[.val (.ref ca), .val (.int (0 : Int32)), .val (.int (1 : Int32)), .unset, .unset] [(.ref nb)])) _
    refine XS.astoreN X1.here hx rfl (hb hby d30_4) rfl rfl (l' := #[.val (.ref ca), .val (.int (0 : Int32)), .val (.int (1 : Int32)), .val (.ref nb), .unset]) rfl ?_
    refine XS.iconst X1.here hx rfl (hb hby d30_5) ?_
    refine XS.istore X1.here hx rfl (hb hby d30_6) rfl (l' := #[.val (.ref ca), .val (.int (0 : Int32)), .val (.int (1 : Int32)), .val (.ref nb), .val (.int (0 : Int32))]) rfl ?_
    refine XS.iload X1.here hx rfl (hb hby d30_8) rfl ?_
    refine XS.iloadN X1.here hx rfl (hb hby d30_10) rfl ?_
    refine XS.icmpNo X1.here hx rfl (hb hby d30_11) rfl (tlt (by first | decide | rfl)).2.1 ?_
    refine XS.aloadN X1.here hx rfl (hb hby d30_14) rfl rfl ?_
    refine XS.iload X1.here hx rfl (hb hby d30_15) rfl ?_
    refine XS.aloadN X1.here hx rfl (hb hby d30_17) rfl rfl ?_
    refine XS.iloadN X1.here hx rfl (hb hby d30_18) rfl ?_
    exact kz
  obtain ⟨cl2, Ar2, q2, Sz2, Nn2, Hs2, G2⟩ := (id C1)
  refine Goes.via (S' := T1.setTop (mkF m 20 #[.val (.ref ca), .val (.int (0 : Int32)), .val (.int (1 : Int32)), .val (.ref nb), .val (.int (0 : Int32))] [(.int c0), (.int (0 : Int32)), (.ref nb)])) (fun tz kz => ?_) ?_
  · show Steps p.tables e below (T1.setTop (mkF m 19 #[.val (.ref ca), .val (.int (0 : Int32)), .val (.int (1 : Int32)), .val (.ref nb), .val (.int (0 : Int32))] [(.int (0 : Int32)), (.ref ca), (.int (0 : Int32)), (.ref nb)])) _
    refine X1.caload hx (j := (0 : Int32)) (v := (.int c0)) (by exact Ar2.1) (State.isArrayOf_alike hZ.alike Ar2.2.1) Ar2.2.2 (inb_of Sz2 ⟨by decide, by decide⟩) (Has.at Hs2 (inb_of Sz2 ⟨by decide, by decide⟩) rfl) (g := (mkF m 19 #[.val (.ref ca), .val (.int (0 : Int32)), .val (.int (1 : Int32)), .val (.ref nb), .val (.int (0 : Int32))] [(.int (0 : Int32)), (.ref ca), (.int (0 : Int32)), (.ref nb)])) rfl rfl (hb hby d30_19) _ ?_
    exact kz
  obtain ⟨_, _, ⟨T3, L3, k3, n3⟩, -, X3, ⟨Lc3, hQ3, l3, y3, z3⟩, st3⟩ := Jvm.LawKit.callS X1 hx (y := n_0) hown (mvT hZ (w_ hw 138 rfl)) (mvT hZ (w_ hw 139 rfl)) (mvT hZ (w_ hw 28 rfl)) (mvT hZ (w_ hw 140 rfl)) (by decide) (backOf (W := 0) (rpc l Z a0 hw [] nb (0 : Int32) c0 kn (2 : Int32) (0 : Int32) (1 : Int32) 0 1 [.int 0, .int 0] T1.heap n0 Z1 SA SH SL O1 B1 gb rfl rfl ⟨by decide, by decide⟩ ⟨by decide, by decide⟩ rfl rfl (Nat.le_of_ble_eq_true rfl) (Nat.le_of_ble_eq_true rfl)) hZ (w_ hw 140 rfl) (w_ hw 28 rfl) (by decide) (by decide)) (g := (mkF m 20 #[.val (.ref ca), .val (.int (0 : Int32)), .val (.int (1 : Int32)), .val (.ref nb), .val (.int (0 : Int32))] [(.int c0), (.int (0 : Int32)), (.ref nb)])) rfl (by rw [hml]; rfl) (argsL := [(.ref nb), (.int (0 : Int32)), (.int c0)]) (rest := []) (lenOf pd_2 rfl) rfl (by show 2 * 0 + _ ≤ _; exact Nat.le_of_eq rfl) (hb hby d30_20) (fun _ _ => ⟨rfl, rfl, (by decide : 1 + 0 ≤ _), (by decide : 2 + 0 ≤ _)⟩)
  dsimp only [Pt.U, Pt.locs, Pt.cells, Pt.slots] at X3 l3 y3 z3 st3 hQ3
  subst l3 y3 z3
  obtain ⟨rfl, N3, K3, B3⟩ := hQ3
  have Nf3 := Fr.app Nf1 N3
  refine Goes.via (st3) ?_
  have B3 : Arv Z T3.heap nb kn .byte (2 : Int32) [.int (own_lo c0), .int (own_hi c0)] (.int 0) := B3
  have C3 := C1.keep K3 (fun q => nab (List.mem_singleton.mp q))
  have O3 := O1.keep K3 (allS gb all0)
  have J3 := K1.trans K3 (allS (Or.inr gv) all0)
  have Z3 := Nat.le_trans Z1 K3.1
  refine Goes.via (S' := T3.setTop (mkF m 33 #[.val (.ref ca), .val (.int (1 : Int32)), .val (.int (1 : Int32)), .val (.ref nb), .val (.int (1 : Int32))] [(.ref nb)])) (fun tz kz => ?_) ?_
  · show Steps p.tables e below (T3.setTop (mkF m 23 #[.val (.ref ca), .val (.int (0 : Int32)), .val (.int (1 : Int32)), .val (.ref nb), .val (.int (0 : Int32))] [])) _
    refine XS.iinc X3.here hx rfl (hb hby d30_23) rfl (l' := #[.val (.ref ca), .val (.int (1 : Int32)), .val (.int (1 : Int32)), .val (.ref nb), .val (.int (0 : Int32))]) rfl ?_
    refine XS.iinc X3.here hx rfl (hb hby d30_26) rfl (l' := #[.val (.ref ca), .val (.int (1 : Int32)), .val (.int (1 : Int32)), .val (.ref nb), .val (.int (1 : Int32))]) rfl ?_
    refine XS.goto X3.here hx rfl (pc0 := 29) (pc' := 8) rfl (hb hby d30_29) (by decide) (by decide) ?_
    refine XS.iload X3.here hx rfl (hb hby d30_8) rfl ?_
    refine XS.iloadN X3.here hx rfl (hb hby d30_10) rfl ?_
    refine XS.icmpYes X3.here hx rfl (pc0 := 11) (pc' := 32) rfl (hb hby d30_11) rfl (flt (by first | decide | rfl)).2.1 (by decide) (by decide) ?_
    refine XS.aloadN X3.here hx rfl (hb hby d30_32) rfl rfl ?_
    exact kz
  exact Goes.retO X3 hx Bd.notSynchronized Bd.returns rfl (Or.inr (Or.inr (Or.inr (Or.inr ⟨rfl, rfl, rfl⟩)))) (hb hby d30_33) (nb_ rfl) (nb_ rfl) ⟨nb, kn, rfl, Nf3, J3, B3, gv⟩
theorem d8_0 : decode jdk_52_method_21_code 0 = .ok (.iconst 0, 1) := by decide +kernel
theorem d8_1 : decode jdk_52_method_21_code 1 = .ok (.istore 5, 2) := by decide +kernel
theorem d8_3 : decode jdk_52_method_21_code 3 = .ok (.iload 5, 2) := by decide +kernel
theorem d8_5 : decode jdk_52_method_21_code 5 = .ok (.iload 4, 2) := by decide +kernel
theorem d8_7 : decode jdk_52_method_21_code 7 = .ok (.if_icmp .ge 37, 3) := by decide +kernel
theorem d8_10 : decode jdk_52_method_21_code 10 = .ok (.aload_n 0, 1) := by decide +kernel
theorem d8_11 : decode jdk_52_method_21_code 11 = .ok (.iload_n 1, 1) := by decide +kernel
theorem d8_12 : decode jdk_52_method_21_code 12 = .ok (.caload, 1) := by decide +kernel
theorem d8_13 : decode jdk_52_method_21_code 13 = .ok (.istore 6, 2) := by decide +kernel
theorem d8_15 : decode jdk_52_method_21_code 15 = .ok (.iload 6, 2) := by decide +kernel
theorem d8_17 : decode jdk_52_method_21_code 17 = .ok (.sipush 255, 3) := by decide +kernel
theorem d8_20 : decode jdk_52_method_21_code 20 = .ok (.if_icmp .le 6, 3) := by decide +kernel
theorem d8_23 : decode jdk_52_method_21_code 23 = .ok (.iload 5, 2) := by decide +kernel
theorem d8_25 : decode jdk_52_method_21_code 25 = .ok (.ireturn, 1) := by decide +kernel
theorem d8_26 : decode jdk_52_method_21_code 26 = .ok (.aload_n 2, 1) := by decide +kernel
theorem d8_27 : decode jdk_52_method_21_code 27 = .ok (.iload_n 3, 1) := by decide +kernel
theorem d8_28 : decode jdk_52_method_21_code 28 = .ok (.iload 6, 2) := by decide +kernel
theorem d8_30 : decode jdk_52_method_21_code 30 = .ok (.i2b, 1) := by decide +kernel
theorem d8_31 : decode jdk_52_method_21_code 31 = .ok (.bastore, 1) := by decide +kernel
theorem d8_32 : decode jdk_52_method_21_code 32 = .ok (.iinc 1 1, 3) := by decide +kernel
theorem d8_35 : decode jdk_52_method_21_code 35 = .ok (.iinc 3 1, 3) := by decide +kernel
theorem d8_38 : decode jdk_52_method_21_code 38 = .ok (.iinc 5 1, 3) := by decide +kernel
theorem d8_41 : decode jdk_52_method_21_code 41 = .ok (.goto (-38), 3) := by decide +kernel
theorem d8_44 : decode jdk_52_method_21_code 44 = .ok (.iload 4, 2) := by decide +kernel
theorem d8_46 : decode jdk_52_method_21_code 46 = .ok (.ireturn, 1) := by decide +kernel
theorem pn_8 : plainName "java/lang/StringUTF16" = true := by first | (simp [plainName, overriddenIn]; done) | decide +kernel
theorem ef_8 (m : MethodId) (x0 : Addr) (x1 : Int32) (x2 : Addr) (x3 : Int32) (x4 : Int32) : entryFrame m #[(.ref x0), (.int x1), (.ref x2), (.int x3), (.int x4)] 7 = mkF m 0 #[.val (.ref x0), .val (.int x1), .val (.ref x2), .val (.int x3), .val (.int x4), .unset, .unset] [] := by first | (simp [entryFrame, mkF, argsToLocals, Value.category]; done) | rfl
def Q_rc5_1 (Z : State) (ca : Addr) (bb : Addr) (ka kz : ClassId) (c0 : Int32) (h0 : Heap) (n0 : Nat) : Option Value → Heap → List Loc → Prop := fun v h L => ∃ j, v = some (.int j) ∧ Fr n0 L ∧ Keep h0 h [bb] ∧ ((j = (1 : Int32) ∧ (¬ (255 : Int32) < c0) ∧ Arv Z h bb kz .byte (1 : Int32) [.int (own_by c0)] (.int 0)) ∨ own_big (1 : Int32) (2 : Int32) [.int (own_lo c0), .int (own_hi c0)] j)
theorem rc5_1 (l : Launch) (Z : State) (a0 : Array Value) (hw : ∀ d ∈ tables_1, d.before a0 Z = true) (ws : List Jvm.Cond) (ca : Addr) (bb : Addr) (ka kz : ClassId) (c0 : Int32) (h0 : Heap) (n0 : Nat) (Z0 : n0 ≤ h0.size) (C0 : Arv Z h0 ca ka .char (1 : Int32) [.int c0] (.int 0)) (B0 : Arv Z h0 bb kz .byte (1 : Int32) [.int 0] (.int 0)) (gb : n0 ≤ bb) (nab : ca ≠ bb) (z0 : nar .char c0 = c0) :
    own_M l Z n_5 (Jvm.Cond.code n_5 jdk_52_method_21_code 7 (some .int)) ws ({ frames := 0, cells := 0, slots := 0, locals := 0 } : Room) #[(.ref ca), (.int (0 : Int32)), (.ref bb), (.int (0 : Int32)), (.int (1 : Int32))] h0 (Q_rc5_1 Z ca bb ka kz c0 h0 n0) := by
  refine MetFree.of_bodySF (plainFor_of_name pn_8) hisR ?_
  intro p e s m args below meth c s₁ Bd hml0 hP hK
  obtain ⟨rfl, hZ, hh⟩ := hP
  have hx := Bd.exec
  have hby := Bd.bytes
  have hml : c.maxLocals = 7 := hml0
  have hown : s.vm.findClass "java/lang/StringUTF16" = some m.cls := findClass_of_methodNamed Bd.named
  have hnm := (name_of_methodNamed Bd.named Bd.method).1
  have X0 : Stand p l e ({ frames := 0, cells := 0, slots := 0, locals := 0 } : Room) s m #[(.ref ca), (.int (0 : Int32)), (.ref bb), (.int (0 : Int32)), (.int (1 : Int32))] below meth c s₁ [] 0 0 := Stand.of_body Bd
  have e0 : s₁.heap = h0 := by rw [← hh, Bd.state]; rfl
  have N0 := Fr.nil n0
  show Goes p e below (Fin s (Q_rc5_1 Z ca bb ka kz c0 h0 n0) ({ frames := 0, cells := 0, slots := 0, locals := 0 } : Room).cells ({ frames := 0, cells := 0, slots := 0, locals := 0 } : Room).slots) _
  refine Goes.via (S' := s₁.setTop (mkF m 0 #[.val (.ref ca), .val (.int (0 : Int32)), .val (.ref bb), .val (.int (0 : Int32)), .val (.int (1 : Int32)), .unset, .unset] [])) (fun tz kz => castTop (ef_8 m ca (0 : Int32) bb (0 : Int32) (1 : Int32) ) kz) ?_
  refine Goes.via (S' := s₁.setTop (mkF m 12 #[.val (.ref ca), .val (.int (0 : Int32)), .val (.ref bb), .val (.int (0 : Int32)), .val (.int (1 : Int32)), .val (.int (0 : Int32)), .unset] [(.int (0 : Int32)), (.ref ca)])) (fun tz kz => ?_) ?_
  · show Steps p.tables e below (s₁.setTop (mkF m 0 #[.val (.ref ca), .val (.int (0 : Int32)), .val (.ref bb), .val (.int (0 : Int32)), .val (.int (1 : Int32)), .unset, .unset] [])) _
    refine XS.iconst X0.here hx rfl (hb hby d8_0) ?_
    refine XS.istore X0.here hx rfl (hb hby d8_1) rfl (l' := #[.val (.ref ca), .val (.int (0 : Int32)), .val (.ref bb), .val (.int (0 : Int32)), .val (.int (1 : Int32)), .val (.int (0 : Int32)), .unset]) rfl ?_
    refine XS.iload X0.here hx rfl (hb hby d8_3) rfl ?_
    refine XS.iload X0.here hx rfl (hb hby d8_5) rfl ?_
    refine XS.icmpNo X0.here hx rfl (hb hby d8_7) rfl (tlt (by first | decide | rfl)).2.1 ?_
    refine XS.aloadN X0.here hx rfl (hb hby d8_10) rfl rfl ?_
    refine XS.iloadN X0.here hx rfl (hb hby d8_11) rfl ?_
    exact kz
  obtain ⟨cl1, Ar1, q1, Sz1, Nn1, Hs1, G1⟩ := (id C0)
  refine Goes.via (S' := s₁.setTop (mkF m 20 #[.val (.ref ca), .val (.int (0 : Int32)), .val (.ref bb), .val (.int (0 : Int32)), .val (.int (1 : Int32)), .val (.int (0 : Int32)), .val (.int c0)] [(.int (255 : Int32)), (.int c0)])) (fun tz kz => ?_) ?_
  · show Steps p.tables e below (s₁.setTop (mkF m 12 #[.val (.ref ca), .val (.int (0 : Int32)), .val (.ref bb), .val (.int (0 : Int32)), .val (.int (1 : Int32)), .val (.int (0 : Int32)), .unset] [(.int (0 : Int32)), (.ref ca)])) _
    refine X0.caload hx (j := (0 : Int32)) (v := (.int c0)) (by rw [e0]; exact Ar1.1) (State.isArrayOf_alike hZ.alike Ar1.2.1) Ar1.2.2 (inb_of Sz1 ⟨by decide, by decide⟩) (Has.at Hs1 (inb_of Sz1 ⟨by decide, by decide⟩) rfl) (g := (mkF m 12 #[.val (.ref ca), .val (.int (0 : Int32)), .val (.ref bb), .val (.int (0 : Int32)), .val (.int (1 : Int32)), .val (.int (0 : Int32)), .unset] [(.int (0 : Int32)), (.ref ca)])) rfl rfl (hb hby d8_12) _ ?_
    refine XS.istore X0.here hx rfl (hb hby d8_13) rfl (l' := #[.val (.ref ca), .val (.int (0 : Int32)), .val (.ref bb), .val (.int (0 : Int32)), .val (.int (1 : Int32)), .val (.int (0 : Int32)), .val (.int c0)]) rfl ?_
    refine XS.iload X0.here hx rfl (hb hby d8_15) rfl ?_
    refine XS.sipush X0.here hx rfl (hb hby d8_17) ?_
    exact kz
  by_cases hc20_2 : (255 : Int32) < c0
  · refine Goes.via (S' := s₁.setTop (mkF m 25 #[.val (.ref ca), .val (.int (0 : Int32)), .val (.ref bb), .val (.int (0 : Int32)), .val (.int (1 : Int32)), .val (.int (0 : Int32)), .val (.int c0)] [(.int (0 : Int32))])) (fun tz kz => ?_) ?_
    · show Steps p.tables e below (s₁.setTop (mkF m 20 #[.val (.ref ca), .val (.int (0 : Int32)), .val (.ref bb), .val (.int (0 : Int32)), .val (.int (1 : Int32)), .val (.int (0 : Int32)), .val (.int c0)] [(.int (255 : Int32)), (.int c0)])) _
      refine XS.icmpNo X0.here hx rfl (hb hby d8_20) rfl (tlt hc20_2).2.2.2 ?_
      refine XS.iload X0.here hx rfl (hb hby d8_23) rfl ?_
      exact kz
    exact Goes.retI X0 hx Bd.notSynchronized Bd.returns (hb hby d8_25) (nb_ rfl) (nb_ rfl) (by rw [e0]; exact ⟨(0 : Int32), rfl, N0, Keep.refl h0 [bb], Or.inr ⟨(0 : Int32), (1 : Int32), c0, by decide, rfl, rfl, ⟨by decide, by decide⟩, ⟨by decide, by decide⟩, rfl, rfl, z0, hc20_2⟩⟩)
  · refine Goes.via (S' := s₁.setTop (mkF m 31 #[.val (.ref ca), .val (.int (0 : Int32)), .val (.ref bb), .val (.int (0 : Int32)), .val (.int (1 : Int32)), .val (.int (0 : Int32)), .val (.int c0)] [(.int (c0.toInt8.toInt32)), (.int (0 : Int32)), (.ref bb)])) (fun tz kz => ?_) ?_
    · show Steps p.tables e below (s₁.setTop (mkF m 20 #[.val (.ref ca), .val (.int (0 : Int32)), .val (.ref bb), .val (.int (0 : Int32)), .val (.int (1 : Int32)), .val (.int (0 : Int32)), .val (.int c0)] [(.int (255 : Int32)), (.int c0)])) _
      refine XS.icmpYes X0.here hx rfl (pc0 := 20) (pc' := 26) rfl (hb hby d8_20) rfl (flt hc20_2).2.2.2 (by decide) (by decide) ?_
      refine XS.aloadN X0.here hx rfl (hb hby d8_26) rfl rfl ?_
      refine XS.iloadN X0.here hx rfl (hb hby d8_27) rfl ?_
      refine XS.iload X0.here hx rfl (hb hby d8_28) rfl ?_
      refine XS.i2b X0.here hx rfl (hb hby d8_30) rfl ?_
      exact kz
    obtain ⟨cl3, Ar3, q3, Sz3, Nn3, Hs3, G3⟩ := (id B0)
    obtain ⟨T4, h4, X4, e4, W4, st4⟩ := stB X0 hx hZ e0 Ar3 (j := (0 : Int32)) (inb_of Sz3 ⟨by decide, by decide⟩) (g := (mkF m 31 #[.val (.ref ca), .val (.int (0 : Int32)), .val (.ref bb), .val (.int (0 : Int32)), .val (.int (1 : Int32)), .val (.int (0 : Int32)), .val (.int c0)] [(.int (c0.toInt8.toInt32)), (.int (0 : Int32)), (.ref bb)])) rfl rfl (hb hby d8_31)
    refine Goes.via st4 ?_
    have N4 := Fr.snoc X4 N0 gb
    have C4 := (C0).other W4 nab
    have A4 := Arv.set Ar3 q3 Sz3 Nn3 Hs3 G3 (fits_nar_byte _) W4 0 rfl (Nat.le_of_ble_eq_true rfl)
    have K4 := (Keep.refl h0 [bb]).wr W4 (Or.inl (List.mem_singleton.mpr rfl))
    refine Goes.via (S' := T4.setTop (mkF m 46 #[.val (.ref ca), .val (.int (1 : Int32)), .val (.ref bb), .val (.int (1 : Int32)), .val (.int (1 : Int32)), .val (.int (1 : Int32)), .val (.int c0)] [(.int (1 : Int32))])) (fun tz kz => ?_) ?_
    · show Steps p.tables e below (T4.setTop (mkF m 32 #[.val (.ref ca), .val (.int (0 : Int32)), .val (.ref bb), .val (.int (0 : Int32)), .val (.int (1 : Int32)), .val (.int (0 : Int32)), .val (.int c0)] [])) _
      refine XS.iinc X4.here hx rfl (hb hby d8_32) rfl (l' := #[.val (.ref ca), .val (.int (1 : Int32)), .val (.ref bb), .val (.int (0 : Int32)), .val (.int (1 : Int32)), .val (.int (0 : Int32)), .val (.int c0)]) rfl ?_
      refine XS.iinc X4.here hx rfl (hb hby d8_35) rfl (l' := #[.val (.ref ca), .val (.int (1 : Int32)), .val (.ref bb), .val (.int (1 : Int32)), .val (.int (1 : Int32)), .val (.int (0 : Int32)), .val (.int c0)]) rfl ?_
      refine XS.iinc X4.here hx rfl (hb hby d8_38) rfl (l' := #[.val (.ref ca), .val (.int (1 : Int32)), .val (.ref bb), .val (.int (1 : Int32)), .val (.int (1 : Int32)), .val (.int (1 : Int32)), .val (.int c0)]) rfl ?_
      refine XS.goto X4.here hx rfl (pc0 := 41) (pc' := 3) rfl (hb hby d8_41) (by decide) (by decide) ?_
      refine XS.iload X4.here hx rfl (hb hby d8_3) rfl ?_
      refine XS.iload X4.here hx rfl (hb hby d8_5) rfl ?_
      refine XS.icmpYes X4.here hx rfl (pc0 := 7) (pc' := 44) rfl (hb hby d8_7) rfl (flt (by first | decide | rfl)).2.1 (by decide) (by decide) ?_
      refine XS.iload X4.here hx rfl (hb hby d8_44) rfl ?_
      exact kz
    exact Goes.retI X4 hx Bd.notSynchronized Bd.returns (hb hby d8_46) (nb_ rfl) (nb_ rfl) (by rw [e4]; exact ⟨(1 : Int32), rfl, N4, K4, Or.inl ⟨rfl, hc20_2, A4⟩⟩)
theorem d7_0 : decode jdk_52_method_16_code 0 = .ok (.iload_n 2, 1) := by decide +kernel
theorem d7_1 : decode jdk_52_method_16_code 1 = .ok (.newarray .byte, 2) := by decide +kernel
theorem d7_3 : decode jdk_52_method_16_code 3 = .ok (.astore_n 3, 1) := by decide +kernel
theorem d7_4 : decode jdk_52_method_16_code 4 = .ok (.aload_n 0, 1) := by decide +kernel
theorem d7_5 : decode jdk_52_method_16_code 5 = .ok (.iload_n 1, 1) := by decide +kernel
theorem d7_6 : decode jdk_52_method_16_code 6 = .ok (.aload_n 3, 1) := by decide +kernel
theorem d7_7 : decode jdk_52_method_16_code 7 = .ok (.iconst 0, 1) := by decide +kernel
theorem d7_8 : decode jdk_52_method_16_code 8 = .ok (.iload_n 2, 1) := by decide +kernel
theorem d7_9 : decode jdk_52_method_16_code 9 = .ok (.invokestatic 115, 3) := by decide +kernel
theorem d7_12 : decode jdk_52_method_16_code 12 = .ok (.istore 4, 2) := by decide +kernel
theorem d7_14 : decode jdk_52_method_16_code 14 = .ok (.iload 4, 2) := by decide +kernel
theorem d7_16 : decode jdk_52_method_16_code 16 = .ok (.iload_n 2, 1) := by decide +kernel
theorem d7_17 : decode jdk_52_method_16_code 17 = .ok (.if_icmp .eq 40, 3) := by decide +kernel
theorem d7_20 : decode jdk_52_method_16_code 20 = .ok (.aload_n 0, 1) := by decide +kernel
theorem d7_21 : decode jdk_52_method_16_code 21 = .ok (.iload_n 1, 1) := by decide +kernel
theorem d7_22 : decode jdk_52_method_16_code 22 = .ok (.iload_n 2, 1) := by decide +kernel
theorem d7_23 : decode jdk_52_method_16_code 23 = .ok (.invokestatic 119, 3) := by decide +kernel
theorem d7_26 : decode jdk_52_method_16_code 26 = .ok (.astore 5, 2) := by decide +kernel
theorem d7_28 : decode jdk_52_method_16_code 28 = .ok (.aload 5, 2) := by decide +kernel
theorem d7_30 : decode jdk_52_method_16_code 30 = .ok (.iload 4, 2) := by decide +kernel
theorem d7_32 : decode jdk_52_method_16_code 32 = .ok (.invokestatic 71, 3) := by decide +kernel
theorem d7_35 : decode jdk_52_method_16_code 35 = .ok (.sipush 255, 3) := by decide +kernel
theorem d7_38 : decode jdk_52_method_16_code 38 = .ok (.if_icmp .gt 16, 3) := by decide +kernel
theorem d7_54 : decode jdk_52_method_16_code 54 = .ok (.aload 5, 2) := by decide +kernel
theorem d7_56 : decode jdk_52_method_16_code 56 = .ok (.areturn, 1) := by decide +kernel
theorem d7_57 : decode jdk_52_method_16_code 57 = .ok (.aload_n 3, 1) := by decide +kernel
theorem d7_58 : decode jdk_52_method_16_code 58 = .ok (.areturn, 1) := by decide +kernel
theorem pn_7 : plainName "java/lang/StringUTF16" = true := by first | (simp [plainName, overriddenIn]; done) | decide +kernel
theorem ef_7 (m : MethodId) (x0 : Addr) (x1 : Int32) (x2 : Int32) : entryFrame m #[(.ref x0), (.int x1), (.int x2)] 6 = mkF m 0 #[.val (.ref x0), .val (.int x1), .val (.int x2), .unset, .unset, .unset] [] := by first | (simp [entryFrame, mkF, argsToLocals, Value.category]; done) | rfl
def Q_rc3_1 (Z : State) (ca : Addr) (ka : ClassId) (c0 : Int32) (h0 : Heap) (n0 : Nat) : Option Value → Heap → List Loc → Prop := fun v h L => ∃ b k, v = some (.ref b) ∧ Fr n0 L ∧ Keep h0 h [] ∧ @LE.le Nat _ h0.size b ∧ (((¬ (255 : Int32) < c0) ∧ Arv Z h b k .byte (1 : Int32) [.int (own_by c0)] (.int 0)) ∨ Arv Z h b k .byte (2 : Int32) [.int (own_lo c0), .int (own_hi c0)] (.int 0))
theorem rc3_1 (l : Launch) (Z : State) (a0 : Array Value) (hw : ∀ d ∈ tables_1, d.before a0 Z = true) (ws : List Jvm.Cond) (ca : Addr) (ka : ClassId) (c0 : Int32) (h0 : Heap) (n0 : Nat) (Z0 : n0 ≤ h0.size) (SA : Sta Z Z.heap "java/lang/StringUTF16" "$assertionsDisabled" "Z" (.int (1 : Int32))) (SH : Sta Z Z.heap "java/lang/StringUTF16" "HI_BYTE_SHIFT" "I" (.int (0 : Int32))) (SL : Sta Z Z.heap "java/lang/StringUTF16" "LO_BYTE_SHIFT" "I" (.int (8 : Int32))) (O0 : Old Z n0 h0) (C0 : Arv Z h0 ca ka .char (1 : Int32) [.int c0] (.int 0)) (z0 : nar .char c0 = c0) :
    own_M l Z n_6 (Jvm.Cond.code n_6 jdk_52_method_16_code 6 (some (.array .byte))) ws ({ frames := 3, cells := 2, slots := 3, locals := 60 } : Room) #[(.ref ca), (.int (0 : Int32)), (.int (1 : Int32))] h0 (Q_rc3_1 Z ca ka c0 h0 n0) := by
  refine MetFree.of_bodySF (plainFor_of_name pn_7) hisR ?_
  intro p e s m args below meth c s₁ Bd hml0 hP hK
  obtain ⟨rfl, hZ, hh⟩ := hP
  have hx := Bd.exec
  have hby := Bd.bytes
  have hml : c.maxLocals = 6 := hml0
  have hown : s.vm.findClass "java/lang/StringUTF16" = some m.cls := findClass_of_methodNamed Bd.named
  have hnm := (name_of_methodNamed Bd.named Bd.method).1
  have X0 : Stand p l e ({ frames := 3, cells := 2, slots := 3, locals := 60 } : Room) s m #[(.ref ca), (.int (0 : Int32)), (.int (1 : Int32))] below meth c s₁ [] 0 0 := Stand.of_body Bd
  have e0 : s₁.heap = h0 := by rw [← hh, Bd.state]; rfl
  have N0 := Fr.nil n0
  show Goes p e below (Fin s (Q_rc3_1 Z ca ka c0 h0 n0) ({ frames := 3, cells := 2, slots := 3, locals := 60 } : Room).cells ({ frames := 3, cells := 2, slots := 3, locals := 60 } : Room).slots) _
  refine Goes.via (S' := s₁.setTop (mkF m 0 #[.val (.ref ca), .val (.int (0 : Int32)), .val (.int (1 : Int32)), .unset, .unset, .unset] [])) (fun tz kz => castTop (ef_7 m ca (0 : Int32) (1 : Int32) ) kz) ?_
  refine Goes.via (S' := s₁.setTop (mkF m 1 #[.val (.ref ca), .val (.int (0 : Int32)), .val (.int (1 : Int32)), .unset, .unset, .unset] [(.int (1 : Int32))])) (fun tz kz => ?_) ?_
  · show Steps p.tables e below (s₁.setTop (mkF m 0 #[.val (.ref ca), .val (.int (0 : Int32)), .val (.int (1 : Int32)), .unset, .unset, .unset] [])) _
    refine XS.iloadN X0.here hx rfl (hb hby d7_0) rfl ?_
    exact kz
  obtain ⟨T1, h1, k1, X1, e1, E1, A1, st1⟩ := newP X0 hx hZ (w_ hw 30 rfl) e0 (g := (mkF m 1 #[.val (.ref ca), .val (.int (0 : Int32)), .val (.int (1 : Int32)), .unset, .unset, .unset] [(.int (1 : Int32))])) rfl (hb hby d7_1) rfl (by decide) (cap := 1) (by decide) (by decide) (by decide) (by decide)
  obtain ⟨b1, g1⟩ : ∃ z, z = h0.size := ⟨_, rfl⟩
  rw [← g1] at A1 st1
  refine Goes.via st1 ?_
  have B1 : Arv Z h1 b1 k1 .byte (1 : Int32) [.int 0] (.int 0) := (Arv.new A1 (by decide)).pad (pad_rep [] (.int 0) 1)
  have nab : ca ≠ b1 := adr_ne C0.lt g1 (Nat.le_refl _)
  have gb : n0 ≤ b1 := Nat.le_trans Z0 (Nat.le_of_eq g1.symm)
  refine Goes.via (S' := T1.setTop (mkF m 9 #[.val (.ref ca), .val (.int (0 : Int32)), .val (.int (1 : Int32)), .val (.ref b1), .unset, .unset] [(.int (1 : Int32)), (.int (0 : Int32)), (.ref b1), (.int (0 : Int32)), (.ref ca)])) (fun tz kz => ?_) ?_
  · show Steps p.tables e below (T1.setTop (mkF m 3 #[.val (.ref ca), .val (.int (0 : Int32)), .val (.int (1 : Int32)), .unset, .unset, .unset] [(.ref b1)])) _
    refine XS.astoreN X1.here hx rfl (hb hby d7_3) rfl rfl (l' := #[.val (.ref ca), .val (.int (0 : Int32)), .val (.int (1 : Int32)), .val (.ref b1), .unset, .unset]) rfl ?_
    refine XS.aloadN X1.here hx rfl (hb hby d7_4) rfl rfl ?_
    refine XS.iloadN X1.here hx rfl (hb hby d7_5) rfl ?_
    refine XS.aloadN X1.here hx rfl (hb hby d7_6) rfl rfl ?_
    refine XS.iconst X1.here hx rfl (hb hby d7_7) ?_
    refine XS.iloadN X1.here hx rfl (hb hby d7_8) rfl ?_
    exact kz
  obtain ⟨_, _, ⟨T2, L2, k2, n2⟩, -, X2, ⟨Lc2, hQ2, l2, y2, z2⟩, st2⟩ := Jvm.LawKit.callS X1 hx (y := n_5) hown (mvT hZ (w_ hw 31 rfl)) (mvT hZ (w_ hw 32 rfl)) (mvT hZ (w_ hw 28 rfl)) (mvT hZ (w_ hw 33 rfl)) (by decide) (backOf (W := 0) (rc5_1 l Z a0 hw [] ca b1 ka k1 c0 h1 n0 (Nat.le_trans Z0 E1.1) (C0.ext E1) B1 gb nab z0) hZ (w_ hw 33 rfl) (w_ hw 28 rfl) (by decide) (by decide)) (g := (mkF m 9 #[.val (.ref ca), .val (.int (0 : Int32)), .val (.int (1 : Int32)), .val (.ref b1), .unset, .unset] [(.int (1 : Int32)), (.int (0 : Int32)), (.ref b1), (.int (0 : Int32)), (.ref ca)])) rfl (by rw [hml]; rfl) (argsL := [(.ref ca), (.int (0 : Int32)), (.ref b1), (.int (0 : Int32)), (.int (1 : Int32))]) (rest := []) (lenOf pd_3 rfl) rfl (by show 2 * 0 + _ ≤ _; exact Nat.le_of_eq rfl) (hb hby d7_9) (fun _ _ => ⟨rfl, e1, (by decide : 1 + 0 ≤ _), (by decide : 1 + 0 ≤ _)⟩)
  dsimp only [Pt.U, Pt.locs, Pt.cells, Pt.slots] at X2 l2 y2 z2 st2 hQ2
  subst l2 y2 z2
  obtain ⟨j5, rfl, N2, K2, Dj⟩ := hQ2
  have Nf2 := Fr.app N0 N2
  refine Goes.via (st2) ?_
  have Ka := ((Keep.refl h0 []).ext E1).trans K2 (allS (Or.inr (Nat.le_of_eq g1.symm)) all0)
  have Ca := (C0.ext E1).keep K2 (fun q => nab (List.mem_singleton.mp q))
  have Oa := O0.keep Ka all0
  have Za := Nat.le_trans Z0 Ka.1
  rcases Dj with ⟨hj, s0, BL⟩ | ⟨j0, j1, xx, hjn, hj0, hj1, q0, q1, g0, g1, zx, gx⟩
  · subst hj
    refine Goes.via (S' := T2.setTop (mkF m 58 #[.val (.ref ca), .val (.int (0 : Int32)), .val (.int (1 : Int32)), .val (.ref b1), .val (.int (1 : Int32)), .unset] [(.ref b1)])) (fun tz kz => ?_) ?_
    · show Steps p.tables e below (T2.setTop (mkF m 12 #[.val (.ref ca), .val (.int (0 : Int32)), .val (.int (1 : Int32)), .val (.ref b1), .unset, .unset] [(.int (1 : Int32))])) _
      refine XS.istore X2.here hx rfl (hb hby d7_12) rfl (l' := #[.val (.ref ca), .val (.int (0 : Int32)), .val (.int (1 : Int32)), .val (.ref b1), .val (.int (1 : Int32)), .unset]) rfl ?_
      refine XS.iload X2.here hx rfl (hb hby d7_14) rfl ?_
      refine XS.iloadN X2.here hx rfl (hb hby d7_16) rfl ?_
      refine XS.icmpYes X2.here hx rfl (pc0 := 17) (pc' := 57) rfl (hb hby d7_17) rfl (teq (by first | decide | rfl)).1 (by decide) (by decide) ?_
      refine XS.aloadN X2.here hx rfl (hb hby d7_57) rfl rfl ?_
      exact kz
    exact Goes.retO X2 hx Bd.notSynchronized Bd.returns rfl (Or.inr (Or.inr (Or.inr (Or.inr ⟨rfl, rfl, rfl⟩)))) (hb hby d7_58) (nb_ rfl) (nb_ rfl) ⟨b1, k1, rfl, Nf2, Ka, Nat.le_of_eq g1.symm, Or.inl ⟨s0, BL⟩⟩
  · skip
    refine Goes.via (S' := T2.setTop (mkF m 23 #[.val (.ref ca), .val (.int (0 : Int32)), .val (.int (1 : Int32)), .val (.ref b1), .val (.int j5), .unset] [(.int (1 : Int32)), (.int (0 : Int32)), (.ref ca)])) (fun tz kz => ?_) ?_
    · show Steps p.tables e below (T2.setTop (mkF m 12 #[.val (.ref ca), .val (.int (0 : Int32)), .val (.int (1 : Int32)), .val (.ref b1), .unset, .unset] [(.int j5)])) _
      refine XS.istore X2.here hx rfl (hb hby d7_12) rfl (l' := #[.val (.ref ca), .val (.int (0 : Int32)), .val (.int (1 : Int32)), .val (.ref b1), .val (.int j5), .unset]) rfl ?_
      refine XS.iload X2.here hx rfl (hb hby d7_14) rfl ?_
      refine XS.iloadN X2.here hx rfl (hb hby d7_16) rfl ?_
      refine XS.icmpNo X2.here hx rfl (hb hby d7_17) rfl (feq hjn).1 ?_
      refine XS.aloadN X2.here hx rfl (hb hby d7_20) rfl rfl ?_
      refine XS.iloadN X2.here hx rfl (hb hby d7_21) rfl ?_
      refine XS.iloadN X2.here hx rfl (hb hby d7_22) rfl ?_
      exact kz
    obtain ⟨_, _, ⟨T3, L3, k3, n3⟩, -, X3, ⟨Lc3, hQ3, l3, y3, z3⟩, st3⟩ := Jvm.LawKit.callS X2 hx (y := n_4) hown (mvT hZ (w_ hw 128 rfl)) (mvT hZ (w_ hw 129 rfl)) (mvT hZ (w_ hw 28 rfl)) (mvT hZ (w_ hw 130 rfl)) (by decide) (backOf (W := 0) (rtb_1 l Z a0 hw [] ca ka c0 T2.heap n0 Za SA SH SL Oa Ca) hZ (w_ hw 130 rfl) (w_ hw 28 rfl) (by decide) (by decide)) (g := (mkF m 23 #[.val (.ref ca), .val (.int (0 : Int32)), .val (.int (1 : Int32)), .val (.ref b1), .val (.int j5), .unset] [(.int (1 : Int32)), (.int (0 : Int32)), (.ref ca)])) rfl (by rw [hml]; rfl) (argsL := [(.ref ca), (.int (0 : Int32)), (.int (1 : Int32))]) (rest := []) (lenOf pd_4 rfl) rfl (by show 2 * 0 + _ ≤ _; exact Nat.le_of_eq rfl) (hb hby d7_23) (fun _ _ => ⟨rfl, rfl, (by decide : 1 + 1 ≤ _), (by decide : 1 + 2 ≤ _)⟩)
    dsimp only [Pt.U, Pt.locs, Pt.cells, Pt.slots] at X3 l3 y3 z3 st3 hQ3
    subst l3 y3 z3
    obtain ⟨ub, uk, rfl, N3, K3, B3, gu⟩ := hQ3
    have Nf3 := Fr.app Nf2 N3
    refine Goes.via (st3) ?_
    have Kb := Ka.trans K3 all0
    have Ob := O0.keep Kb all0
    have Zb := Nat.le_trans Z0 Kb.1
    have gh : @LE.le Nat _ h0.size ub := Nat.le_trans Ka.1 gu
    refine Goes.via (S' := T3.setTop (mkF m 32 #[.val (.ref ca), .val (.int (0 : Int32)), .val (.int (1 : Int32)), .val (.ref b1), .val (.int j5), .val (.ref ub)] [(.int j5), (.ref ub)])) (fun tz kz => ?_) ?_
    · show Steps p.tables e below (T3.setTop (mkF m 26 #[.val (.ref ca), .val (.int (0 : Int32)), .val (.int (1 : Int32)), .val (.ref b1), .val (.int j5), .unset] [(.ref ub)])) _
      refine XS.astore X3.here hx rfl (hb hby d7_26) rfl rfl (l' := #[.val (.ref ca), .val (.int (0 : Int32)), .val (.int (1 : Int32)), .val (.ref b1), .val (.int j5), .val (.ref ub)]) rfl ?_
      refine XS.aload X3.here hx rfl (hb hby d7_28) rfl rfl ?_
      refine XS.iload X3.here hx rfl (hb hby d7_30) rfl ?_
      exact kz
    obtain ⟨_, _, ⟨T4, L4, k4, n4⟩, -, X4, ⟨Lc4, hQ4, l4, y4, z4⟩, st4⟩ := Jvm.LawKit.callS X3 hx (y := n_1) hown (mvT hZ (w_ hw 144 rfl)) (mvT hZ (w_ hw 145 rfl)) (mvT hZ (w_ hw 28 rfl)) (mvT hZ (w_ hw 146 rfl)) (by decide) (backOf (W := 0) (rgc l Z a0 hw [] ub j5 uk (2 : Int32) j0 j1 xx _ T3.heap n0 Zb SA SH SL Ob B3 hj0 hj1 q0 q1 g0 g1 zx) hZ (w_ hw 146 rfl) (w_ hw 28 rfl) (by decide) (by decide)) (g := (mkF m 32 #[.val (.ref ca), .val (.int (0 : Int32)), .val (.int (1 : Int32)), .val (.ref b1), .val (.int j5), .val (.ref ub)] [(.int j5), (.ref ub)])) rfl (by rw [hml]; rfl) (argsL := [(.ref ub), (.int j5)]) (rest := []) (lenOf pd_5 rfl) rfl (by show 2 * 0 + _ ≤ _; exact Nat.le_of_eq rfl) (hb hby d7_32) (fun _ _ => ⟨rfl, rfl, (by decide : 2 + 0 ≤ _), (by decide : 3 + 0 ≤ _)⟩)
    dsimp only [Pt.U, Pt.locs, Pt.cells, Pt.slots] at X4 l4 y4 z4 st4 hQ4
    subst l4 y4 z4
    obtain ⟨rfl, N4, e4⟩ := hQ4
    have Nf4 := Fr.app Nf3 N4
    refine Goes.via (st4) ?_
    refine Goes.via (S' := T4.setTop (mkF m 56 #[.val (.ref ca), .val (.int (0 : Int32)), .val (.int (1 : Int32)), .val (.ref b1), .val (.int j5), .val (.ref ub)] [(.ref ub)])) (fun tz kz => ?_) ?_
    · show Steps p.tables e below (T4.setTop (mkF m 35 #[.val (.ref ca), .val (.int (0 : Int32)), .val (.int (1 : Int32)), .val (.ref b1), .val (.int j5), .val (.ref ub)] [(.int xx)])) _
      refine XS.sipush X4.here hx rfl (hb hby d7_35) ?_
      refine XS.icmpYes X4.here hx rfl (pc0 := 38) (pc' := 54) rfl (hb hby d7_38) rfl (tlt gx).2.2.1 (by decide) (by decide) ?_
      refine XS.aload X4.here hx rfl (hb hby d7_54) rfl rfl ?_
      exact kz
    exact Goes.retO X4 hx Bd.notSynchronized Bd.returns rfl (Or.inr (Or.inr (Or.inr (Or.inr ⟨rfl, rfl, rfl⟩)))) (hb hby d7_56) (nb_ rfl) (nb_ rfl) (by rw [e4]; exact ⟨ub, uk, rfl, Nf4, Kb, gh, Or.inr B3⟩)
theorem d9_0 : decode jdk_52_method_15_code 0 = .ok (.iload_n 1, 1) := by decide +kernel
theorem d9_1 : decode jdk_52_method_15_code 1 = .ok (.aload_n 0, 1) := by decide +kernel
theorem d9_2 : decode jdk_52_method_15_code 2 = .ok (.arraylength, 1) := by decide +kernel
theorem d9_3 : decode jdk_52_method_15_code 3 = .ok (.isub, 1) := by decide +kernel
theorem d9_4 : decode jdk_52_method_15_code 4 = .ok (.bipush 31, 2) := by decide +kernel
theorem d9_6 : decode jdk_52_method_15_code 6 = .ok (.iushr, 1) := by decide +kernel
theorem d9_7 : decode jdk_52_method_15_code 7 = .ok (.i2b, 1) := by decide +kernel
theorem d9_8 : decode jdk_52_method_15_code 8 = .ok (.ireturn, 1) := by decide +kernel
theorem pn_9 : plainName "java/lang/StringUTF16" = true := by first | (simp [plainName, overriddenIn]; done) | decide +kernel
theorem ef_9 (m : MethodId) (x0 : Addr) (x1 : Int32) : entryFrame m #[(.ref x0), (.int x1)] 2 = mkF m 0 #[.val (.ref x0), .val (.int x1)] [] := by first | (simp [entryFrame, mkF, argsToLocals, Value.category]; done) | rfl
def Q_rcc_11 (Z : State) (bb : Addr) (k : ClassId) (vs : List Value) (h0 : Heap) (n0 : Nat) : Option Value → Heap → List Loc → Prop := fun v h L => v = some (.int 0) ∧ Fr n0 L ∧ h = h0
theorem rcc_11 (l : Launch) (Z : State) (a0 : Array Value) (hw : ∀ d ∈ tables_1, d.before a0 Z = true) (ws : List Jvm.Cond) (bb : Addr) (k : ClassId) (vs : List Value) (h0 : Heap) (n0 : Nat) (Z0 : n0 ≤ h0.size) (B0 : Arv Z h0 bb k .byte (1 : Int32) vs (.int 0)) :
    own_M l Z n_7 (Jvm.Cond.code n_7 jdk_52_method_15_code 2 (some .byte)) ws ({ frames := 0, cells := 0, slots := 0, locals := 0 } : Room) #[(.ref bb), (.int (1 : Int32))] h0 (Q_rcc_11 Z bb k vs h0 n0) := by
  refine MetFree.of_bodySF (plainFor_of_name pn_9) hisR ?_
  intro p e s m args below meth c s₁ Bd hml0 hP hK
  obtain ⟨rfl, hZ, hh⟩ := hP
  have hx := Bd.exec
  have hby := Bd.bytes
  have hml : c.maxLocals = 2 := hml0
  have hown : s.vm.findClass "java/lang/StringUTF16" = some m.cls := findClass_of_methodNamed Bd.named
  have hnm := (name_of_methodNamed Bd.named Bd.method).1
  have X0 : Stand p l e ({ frames := 0, cells := 0, slots := 0, locals := 0 } : Room) s m #[(.ref bb), (.int (1 : Int32))] below meth c s₁ [] 0 0 := Stand.of_body Bd
  have e0 : s₁.heap = h0 := by rw [← hh, Bd.state]; rfl
  have N0 := Fr.nil n0
  show Goes p e below (Fin s (Q_rcc_11 Z bb k vs h0 n0) ({ frames := 0, cells := 0, slots := 0, locals := 0 } : Room).cells ({ frames := 0, cells := 0, slots := 0, locals := 0 } : Room).slots) _
  refine Goes.via (S' := s₁.setTop (mkF m 0 #[.val (.ref bb), .val (.int (1 : Int32))] [])) (fun tz kz => castTop (ef_9 m bb (1 : Int32) ) kz) ?_
  refine Goes.via (S' := s₁.setTop (mkF m 2 #[.val (.ref bb), .val (.int (1 : Int32))] [(.ref bb), (.int (1 : Int32))])) (fun tz kz => ?_) ?_
  · show Steps p.tables e below (s₁.setTop (mkF m 0 #[.val (.ref bb), .val (.int (1 : Int32))] [])) _
    refine XS.iloadN X0.here hx rfl (hb hby d9_0) rfl ?_
    refine XS.aloadN X0.here hx rfl (hb hby d9_1) rfl rfl ?_
    exact kz
  obtain ⟨cl1, Ar1, q1, Sz1, Nn1, Hs1, G1⟩ := (id B0)
  refine Goes.via (S' := s₁.setTop (mkF m 8 #[.val (.ref bb), .val (.int (1 : Int32))] [(.int ((((0 : Int32).toUInt32 >>> ((31 : Int32) &&& 31).toUInt32).toInt32).toInt8.toInt32))])) (fun tz kz => ?_) ?_
  · show Steps p.tables e below (s₁.setTop (mkF m 2 #[.val (.ref bb), .val (.int (1 : Int32))] [(.ref bb), (.int (1 : Int32))])) _
    refine X0.arraylength hx (by rw [e0]; exact Ar1.1) (State.isArrayOf_alike hZ.alike Ar1.2.1) (g := (mkF m 2 #[.val (.ref bb), .val (.int (1 : Int32))] [(.ref bb), (.int (1 : Int32))])) rfl rfl (hb hby d9_2) _ ?_
    rw [len_of Sz1 Nn1]
    refine XS.isub X0.here hx rfl (hb hby d9_3) rfl ?_
    refine XS.bipush X0.here hx rfl (hb hby d9_4) ?_
    refine XS.iushr X0.here hx rfl (hb hby d9_6) rfl ?_
    refine XS.i2b X0.here hx rfl (hb hby d9_7) rfl ?_
    exact kz
  exact Goes.retN X0 hx Bd.notSynchronized (t := .byte) Bd.returns (by simp) (hb hby d9_8) (nb_ rfl) (nb_ rfl) ⟨congrArg (fun z => some (Value.int z)) (by decide), N0, e0⟩
def Q_rcc_12 (Z : State) (bb : Addr) (k : ClassId) (vs : List Value) (h0 : Heap) (n0 : Nat) : Option Value → Heap → List Loc → Prop := fun v h L => v = some (.int 1) ∧ Fr n0 L ∧ h = h0
theorem rcc_12 (l : Launch) (Z : State) (a0 : Array Value) (hw : ∀ d ∈ tables_1, d.before a0 Z = true) (ws : List Jvm.Cond) (bb : Addr) (k : ClassId) (vs : List Value) (h0 : Heap) (n0 : Nat) (Z0 : n0 ≤ h0.size) (B0 : Arv Z h0 bb k .byte (2 : Int32) vs (.int 0)) :
    own_M l Z n_7 (Jvm.Cond.code n_7 jdk_52_method_15_code 2 (some .byte)) ws ({ frames := 0, cells := 0, slots := 0, locals := 0 } : Room) #[(.ref bb), (.int (1 : Int32))] h0 (Q_rcc_12 Z bb k vs h0 n0) := by
  refine MetFree.of_bodySF (plainFor_of_name pn_9) hisR ?_
  intro p e s m args below meth c s₁ Bd hml0 hP hK
  obtain ⟨rfl, hZ, hh⟩ := hP
  have hx := Bd.exec
  have hby := Bd.bytes
  have hml : c.maxLocals = 2 := hml0
  have hown : s.vm.findClass "java/lang/StringUTF16" = some m.cls := findClass_of_methodNamed Bd.named
  have hnm := (name_of_methodNamed Bd.named Bd.method).1
  have X0 : Stand p l e ({ frames := 0, cells := 0, slots := 0, locals := 0 } : Room) s m #[(.ref bb), (.int (1 : Int32))] below meth c s₁ [] 0 0 := Stand.of_body Bd
  have e0 : s₁.heap = h0 := by rw [← hh, Bd.state]; rfl
  have N0 := Fr.nil n0
  show Goes p e below (Fin s (Q_rcc_12 Z bb k vs h0 n0) ({ frames := 0, cells := 0, slots := 0, locals := 0 } : Room).cells ({ frames := 0, cells := 0, slots := 0, locals := 0 } : Room).slots) _
  refine Goes.via (S' := s₁.setTop (mkF m 0 #[.val (.ref bb), .val (.int (1 : Int32))] [])) (fun tz kz => castTop (ef_9 m bb (1 : Int32) ) kz) ?_
  refine Goes.via (S' := s₁.setTop (mkF m 2 #[.val (.ref bb), .val (.int (1 : Int32))] [(.ref bb), (.int (1 : Int32))])) (fun tz kz => ?_) ?_
  · show Steps p.tables e below (s₁.setTop (mkF m 0 #[.val (.ref bb), .val (.int (1 : Int32))] [])) _
    refine XS.iloadN X0.here hx rfl (hb hby d9_0) rfl ?_
    refine XS.aloadN X0.here hx rfl (hb hby d9_1) rfl rfl ?_
    exact kz
  obtain ⟨cl1, Ar1, q1, Sz1, Nn1, Hs1, G1⟩ := (id B0)
  refine Goes.via (S' := s₁.setTop (mkF m 8 #[.val (.ref bb), .val (.int (1 : Int32))] [(.int ((((-1 : Int32).toUInt32 >>> ((31 : Int32) &&& 31).toUInt32).toInt32).toInt8.toInt32))])) (fun tz kz => ?_) ?_
  · show Steps p.tables e below (s₁.setTop (mkF m 2 #[.val (.ref bb), .val (.int (1 : Int32))] [(.ref bb), (.int (1 : Int32))])) _
    refine X0.arraylength hx (by rw [e0]; exact Ar1.1) (State.isArrayOf_alike hZ.alike Ar1.2.1) (g := (mkF m 2 #[.val (.ref bb), .val (.int (1 : Int32))] [(.ref bb), (.int (1 : Int32))])) rfl rfl (hb hby d9_2) _ ?_
    rw [len_of Sz1 Nn1]
    refine XS.isub X0.here hx rfl (hb hby d9_3) rfl ?_
    refine XS.bipush X0.here hx rfl (hb hby d9_4) ?_
    refine XS.iushr X0.here hx rfl (hb hby d9_6) rfl ?_
    refine XS.i2b X0.here hx rfl (hb hby d9_7) rfl ?_
    exact kz
  exact Goes.retN X0 hx Bd.notSynchronized (t := .byte) Bd.returns (by simp) (hb hby d9_8) (nb_ rfl) (nb_ rfl) ⟨congrArg (fun z => some (Value.int z)) (by decide), N0, e0⟩
theorem d5_0 : decode jdk_42_method_149_code 0 = .ok (.aload_n 0, 1) := by decide +kernel
theorem d5_1 : decode jdk_42_method_149_code 1 = .ok (.invokespecial 1, 3) := by decide +kernel
theorem d5_4 : decode jdk_42_method_149_code 4 = .ok (.iload_n 3, 1) := by decide +kernel
theorem d5_5 : decode jdk_42_method_149_code 5 = .ok (.ifCond .ne 22, 3) := by decide +kernel
theorem d5_27 : decode jdk_42_method_149_code 27 = .ok (.getstatic 38, 3) := by decide +kernel
theorem d5_30 : decode jdk_42_method_149_code 30 = .ok (.ifCond .eq 28, 3) := by decide +kernel
theorem d5_33 : decode jdk_42_method_149_code 33 = .ok (.aload_n 1, 1) := by decide +kernel
theorem d5_34 : decode jdk_42_method_149_code 34 = .ok (.iload_n 2, 1) := by decide +kernel
theorem d5_35 : decode jdk_42_method_149_code 35 = .ok (.iload_n 3, 1) := by decide +kernel
theorem d5_36 : decode jdk_42_method_149_code 36 = .ok (.invokestatic 177, 3) := by decide +kernel
theorem d5_39 : decode jdk_42_method_149_code 39 = .ok (.astore 5, 2) := by decide +kernel
theorem d5_41 : decode jdk_42_method_149_code 41 = .ok (.aload_n 0, 1) := by decide +kernel
theorem d5_42 : decode jdk_42_method_149_code 42 = .ok (.aload 5, 2) := by decide +kernel
theorem d5_44 : decode jdk_42_method_149_code 44 = .ok (.iload_n 3, 1) := by decide +kernel
theorem d5_45 : decode jdk_42_method_149_code 45 = .ok (.invokestatic 47, 3) := by decide +kernel
theorem d5_48 : decode jdk_42_method_149_code 48 = .ok (.putfield 15, 3) := by decide +kernel
theorem d5_51 : decode jdk_42_method_149_code 51 = .ok (.aload_n 0, 1) := by decide +kernel
theorem d5_52 : decode jdk_42_method_149_code 52 = .ok (.aload 5, 2) := by decide +kernel
theorem d5_54 : decode jdk_42_method_149_code 54 = .ok (.putfield 9, 3) := by decide +kernel
theorem d5_57 : decode jdk_42_method_149_code 57 = .ok (.return_, 1) := by decide +kernel
theorem pn_5 : plainName "java/lang/String" = true := by first | (simp [plainName, overriddenIn]; done) | decide +kernel
theorem ef_5 (m : MethodId) (x0 : Addr) (x1 : Addr) (x2 : Int32) (x3 : Int32) : entryFrame m #[(.ref x0), (.ref x1), (.int x2), (.int x3), .null] 6 = mkF m 0 #[.val (.ref x0), .val (.ref x1), .val (.int x2), .val (.int x3), .val .null, .unset] [] := by first | (simp [entryFrame, mkF, argsToLocals, Value.category]; done) | rfl
def Q_rn4_1 (Z : State) (a1 : Addr) (ca : Addr) (cs : Int32) (ka : ClassId) (c0 : Int32) (h0 : Heap) (n0 : Nat) : Option Value → Heap → List Loc → Prop := fun v h L => v = none ∧ Fr n0 L ∧ Keep h0 h [a1] ∧ ∃ b k, (((¬ (255 : Int32) < c0) ∧ own_Str Z h a1 b k (1 : Int32) [.int (own_by c0)]) ∨ own_StU Z h a1 b k (2 : Int32) [.int (own_lo c0), .int (own_hi c0)])
theorem rn4_1 (l : Launch) (Z : State) (a0 : Array Value) (hw : ∀ d ∈ tables_1, d.before a0 Z = true) (ws : List Jvm.Cond) (a1 : Addr) (ca : Addr) (cs : Int32) (ka : ClassId) (c0 : Int32) (h0 : Heap) (n0 : Nat) (Z0 : n0 ≤ h0.size) (SC : Sta Z Z.heap "java/lang/String" "COMPACT_STRINGS" "Z" (.int cs)) (hcs : ¬ cs = (0 : Int32)) (O0 : Old Z n0 h0) (SA : Sta Z Z.heap "java/lang/StringUTF16" "$assertionsDisabled" "Z" (.int (1 : Int32))) (SH : Sta Z Z.heap "java/lang/StringUTF16" "HI_BYTE_SHIFT" "I" (.int (0 : Int32))) (SL : Sta Z Z.heap "java/lang/StringUTF16" "LO_BYTE_SHIFT" "I" (.int (8 : Int32))) (FV : Fld Z h0 a1 "java/lang/String" "value" "[B" .null) (FC : Fld Z h0 a1 "java/lang/String" "coder" "B" (.int (0 : Int32))) (E1 : Exa Z h0 a1 "java/lang/String") (g1 : n0 ≤ a1) (C0 : Arv Z h0 ca ka .char (1 : Int32) [.int c0] (.int 0)) (z0 : nar .char c0 = c0) :
    own_M l Z n_8 (Jvm.Cond.code n_8 jdk_42_method_149_code 6 none) ws ({ frames := 4, cells := 2, slots := 3, locals := 84 } : Room) #[(.ref a1), (.ref ca), (.int (0 : Int32)), (.int (1 : Int32)), .null] h0 (Q_rn4_1 Z a1 ca cs ka c0 h0 n0) := by
  refine MetFree.of_bodySF (plainFor_of_name pn_5) hisR ?_
  intro p e s m args below meth c s₁ Bd hml0 hP hK
  obtain ⟨rfl, hZ, hh⟩ := hP
  have hx := Bd.exec
  have hby := Bd.bytes
  have hml : c.maxLocals = 6 := hml0
  have hown : s.vm.findClass "java/lang/String" = some m.cls := findClass_of_methodNamed Bd.named
  have hnm := (name_of_methodNamed Bd.named Bd.method).1
  have X0 : Stand p l e ({ frames := 4, cells := 2, slots := 3, locals := 84 } : Room) s m #[(.ref a1), (.ref ca), (.int (0 : Int32)), (.int (1 : Int32)), .null] below meth c s₁ [] 0 0 := Stand.of_body Bd
  have e0 : s₁.heap = h0 := by rw [← hh, Bd.state]; rfl
  have N0 := Fr.nil n0
  show Goes p e below (Fin s (Q_rn4_1 Z a1 ca cs ka c0 h0 n0) ({ frames := 4, cells := 2, slots := 3, locals := 84 } : Room).cells ({ frames := 4, cells := 2, slots := 3, locals := 84 } : Room).slots) _
  refine Goes.via (S' := s₁.setTop (mkF m 0 #[.val (.ref a1), .val (.ref ca), .val (.int (0 : Int32)), .val (.int (1 : Int32)), .val .null, .unset] [])) (fun tz kz => castTop (ef_5 m a1 ca (0 : Int32) (1 : Int32) ) kz) ?_
  refine Goes.via (S' := s₁.setTop (mkF m 1 #[.val (.ref a1), .val (.ref ca), .val (.int (0 : Int32)), .val (.int (1 : Int32)), .val .null, .unset] [(.ref a1)])) (fun tz kz => ?_) ?_
  · show Steps p.tables e below (s₁.setTop (mkF m 0 #[.val (.ref a1), .val (.ref ca), .val (.int (0 : Int32)), .val (.int (1 : Int32)), .val .null, .unset] [])) _
    refine XS.aloadN X0.here hx rfl (hb hby d5_0) rfl rfl ?_
    exact kz
  obtain ⟨T1, X1, e1, st1⟩ := initO X0 hx hZ hown (w_ hw 22 rfl) (w_ hw 23 rfl) (w_ hw 24 rfl) e0 (g := (mkF m 1 #[.val (.ref a1), .val (.ref ca), .val (.int (0 : Int32)), .val (.int (1 : Int32)), .val .null, .unset] [(.ref a1)])) rfl (by rw [hml]; rfl) rfl (hb hby d5_1) (by decide) (W := 0) (by show 2 * 0 + _ ≤ _; exact Nat.le_of_eq rfl) (by decide)
  refine Goes.via st1 ?_
  refine Goes.via (S' := T1.setTop (mkF m 27 #[.val (.ref a1), .val (.ref ca), .val (.int (0 : Int32)), .val (.int (1 : Int32)), .val .null, .unset] [])) (fun tz kz => ?_) ?_
  · show Steps p.tables e below (T1.setTop (mkF m 4 #[.val (.ref a1), .val (.ref ca), .val (.int (0 : Int32)), .val (.int (1 : Int32)), .val .null, .unset] [])) _
    refine XS.iloadN X1.here hx rfl (hb hby d5_4) rfl ?_
    refine XS.ifYes X1.here hx rfl (pc0 := 5) (pc' := 27) rfl (hb hby d5_5) rfl ((if0 _ _).trans (feq (by first | decide | rfl)).2) (by decide) (by decide) ?_
    exact kz
  obtain ⟨T2, X2, e2, st2⟩ := getS2 X1 hx hZ hown (host := "") (Or.inl (w_ hw 25 rfl)) Via.refl e1 (SC.ext O0.2) (g := (mkF m 27 #[.val (.ref a1), .val (.ref ca), .val (.int (0 : Int32)), .val (.int (1 : Int32)), .val .null, .unset] [])) rfl (hb hby d5_27)
  refine Goes.via st2 ?_
  refine Goes.via (S' := T2.setTop (mkF m 36 #[.val (.ref a1), .val (.ref ca), .val (.int (0 : Int32)), .val (.int (1 : Int32)), .val .null, .unset] [(.int (1 : Int32)), (.int (0 : Int32)), (.ref ca)])) (fun tz kz => ?_) ?_
  · show Steps p.tables e below (T2.setTop (mkF m 30 #[.val (.ref a1), .val (.ref ca), .val (.int (0 : Int32)), .val (.int (1 : Int32)), .val .null, .unset] [(.int cs)])) _
    refine XS.ifNo X2.here hx rfl (hb hby d5_30) rfl ((if0 _ _).trans (feq hcs).1) ?_
    refine XS.aloadN X2.here hx rfl (hb hby d5_33) rfl rfl ?_
    refine XS.iloadN X2.here hx rfl (hb hby d5_34) rfl ?_
    refine XS.iloadN X2.here hx rfl (hb hby d5_35) rfl ?_
    exact kz
  obtain ⟨_, _, ⟨T3, L3, k3, n3⟩, -, X3, ⟨Lc3, hQ3, l3, y3, z3⟩, st3⟩ := Jvm.LawKit.callS X2 hx (y := n_6) hown (mvT hZ (w_ hw 26 rfl)) (mvT hZ (w_ hw 27 rfl)) (mvT hZ (w_ hw 28 rfl)) (mvT hZ (w_ hw 29 rfl)) (by decide) (backOf (W := 0) (rc3_1 l Z a0 hw [] ca ka c0 h0 n0 Z0 SA SH SL O0 C0 z0) hZ (w_ hw 29 rfl) (w_ hw 28 rfl) (by decide) (by decide)) (g := (mkF m 36 #[.val (.ref a1), .val (.ref ca), .val (.int (0 : Int32)), .val (.int (1 : Int32)), .val .null, .unset] [(.int (1 : Int32)), (.int (0 : Int32)), (.ref ca)])) rfl (by rw [hml]; rfl) (argsL := [(.ref ca), (.int (0 : Int32)), (.int (1 : Int32))]) (rest := []) (lenOf pd_4 rfl) rfl (by show 2 * 0 + _ ≤ _; exact Nat.le_of_eq rfl) (hb hby d5_36) (fun _ _ => ⟨rfl, e2, (by decide : 0 + 2 ≤ _), (by decide : 0 + 3 ≤ _)⟩)
  dsimp only [Pt.U, Pt.locs, Pt.cells, Pt.slots] at X3 l3 y3 z3 st3 hQ3
  subst l3 y3 z3
  obtain ⟨vb, kb, rfl, N3, K3, gv, Dk⟩ := hQ3
  have Nf3 := Fr.app N0 N3
  refine Goes.via (st3) ?_
  rcases Dk with ⟨s0, Bv⟩ | Bv
  · skip
    refine Goes.via (S' := T3.setTop (mkF m 45 #[.val (.ref a1), .val (.ref ca), .val (.int (0 : Int32)), .val (.int (1 : Int32)), .val .null, .val (.ref vb)] [(.int (1 : Int32)), (.ref vb), (.ref a1)])) (fun tz kz => ?_) ?_
    · show Steps p.tables e below (T3.setTop (mkF m 39 #[.val (.ref a1), .val (.ref ca), .val (.int (0 : Int32)), .val (.int (1 : Int32)), .val .null, .unset] [(.ref vb)])) _
      refine XS.astore X3.here hx rfl (hb hby d5_39) rfl rfl (l' := #[.val (.ref a1), .val (.ref ca), .val (.int (0 : Int32)), .val (.int (1 : Int32)), .val .null, .val (.ref vb)]) rfl ?_
      refine XS.aloadN X3.here hx rfl (hb hby d5_41) rfl rfl ?_
      refine XS.aload X3.here hx rfl (hb hby d5_42) rfl rfl ?_
      refine XS.iloadN X3.here hx rfl (hb hby d5_44) rfl ?_
      exact kz
    obtain ⟨_, _, ⟨T4, L4, k4, n4⟩, -, X4, ⟨Lc4, hQ4, l4, y4, z4⟩, st4⟩ := Jvm.LawKit.callS X3 hx (y := n_7) hown (mvT hZ (w_ hw 34 rfl)) (mvT hZ (w_ hw 35 rfl)) (mvT hZ (w_ hw 28 rfl)) (mvT hZ (w_ hw 36 rfl)) (by decide) (backOf (W := 1) (rcc_11 l Z a0 hw [] vb kb _ T3.heap n0 (Nat.le_trans Z0 K3.1) Bv) hZ (w_ hw 36 rfl) (w_ hw 28 rfl) (by decide) (by decide)) (g := (mkF m 45 #[.val (.ref a1), .val (.ref ca), .val (.int (0 : Int32)), .val (.int (1 : Int32)), .val .null, .val (.ref vb)] [(.int (1 : Int32)), (.ref vb), (.ref a1)])) rfl (by rw [hml]; rfl) (argsL := [(.ref vb), (.int (1 : Int32))]) (rest := [(.ref a1)]) (lenOf pd_6 rfl) rfl (by show 2 * 0 + _ ≤ _; exact Nat.le_of_eq rfl) (hb hby d5_45) (fun _ _ => ⟨rfl, rfl, (by decide : 2 + 0 ≤ _), (by decide : 3 + 0 ≤ _)⟩)
    dsimp only [Pt.U, Pt.locs, Pt.cells, Pt.slots] at X4 l4 y4 z4 st4 hQ4
    subst l4 y4 z4
    obtain ⟨rfl, N4, e4⟩ := hQ4
    have Nf4 := Fr.app Nf3 N4
    refine Goes.via (st4) ?_
    have Ea := E1.keep K3
    have GV := FV.keep K3 nin0
    have GC := FC.keep K3 nin0
    have nb : a1 ≠ vb := Nat.ne_of_lt (Nat.lt_of_lt_of_le E1.lt gv)
    obtain ⟨T5, h5, X5, e5, W5, st5⟩ := putFN X4 hx hZ hown (w_ hw 37 rfl) Via.refl e4 GC Ea (Or.inr ⟨(w_ hw 38 rfl), rfl, hnm⟩) (w_ hw 12 rfl) (ty := .byte) (v' := (.int (nar .byte (0 : Int32)))) (by decide) rfl (fits_nar_byte _) (g := (mkF m 48 #[.val (.ref a1), .val (.ref ca), .val (.int (0 : Int32)), .val (.int (1 : Int32)), .val .null, .val (.ref vb)] [(.int (0 : Int32)), (.ref a1)])) rfl rfl (hb hby d5_48)
    refine Goes.via st5 ?_
    have N5 := Fr.snoc X5 Nf4 g1
    have HC : Fld Z h5 a1 "java/lang/String" "coder" "B" (.int (0 : Int32)) := GC.same W5
    have HV := GV.other W5 (Or.inr (slot_ne (Or.inr (w_ hw 40 rfl)) (Or.inr (w_ hw 38 rfl)) (by decide) (t := (.array .byte)) (t' := .byte) (by decide) (by decide)))
    have Eb := Ea.wr W5
    have Bb := Bv.other W5 (Ne.symm nb)
    refine Goes.via (S' := T5.setTop (mkF m 54 #[.val (.ref a1), .val (.ref ca), .val (.int (0 : Int32)), .val (.int (1 : Int32)), .val .null, .val (.ref vb)] [(.ref vb), (.ref a1)])) (fun tz kz => ?_) ?_
    · show Steps p.tables e below (T5.setTop (mkF m 51 #[.val (.ref a1), .val (.ref ca), .val (.int (0 : Int32)), .val (.int (1 : Int32)), .val .null, .val (.ref vb)] [])) _
      refine XS.aloadN X5.here hx rfl (hb hby d5_51) rfl rfl ?_
      refine XS.aload X5.here hx rfl (hb hby d5_52) rfl rfl ?_
      exact kz
    obtain ⟨T6, h6, X6, e6, W6, st6⟩ := putF X5 hx hZ hown (host := "") (Or.inl (w_ hw 39 rfl)) Via.refl e5 HV Eb (Or.inr ⟨(w_ hw 40 rfl), rfl, hnm⟩) (w_ hw 12 rfl) (ty := (.array .byte)) (by decide) rfl rfl (g := (mkF m 54 #[.val (.ref a1), .val (.ref ca), .val (.int (0 : Int32)), .val (.int (1 : Int32)), .val .null, .val (.ref vb)] [(.ref vb), (.ref a1)])) rfl rfl (hb hby d5_54)
    refine Goes.via st6 ?_
    have N6 := Fr.snoc X6 N5 g1
    have JV := HV.same W6
    have JC := HC.other W6 (Or.inr (slot_ne (Or.inr (w_ hw 38 rfl)) (Or.inr (w_ hw 40 rfl)) (by decide) (t := .byte) (t' := (.array .byte)) (by decide) (by decide)))
    have Ec := Eb.wr W6
    have Bc := Bb.other W6 (Ne.symm nb)
    have Kq : Keep h0 h6 [a1] := (((Keep.refl h0 [a1]).trans K3 all0).wr W5 (Or.inl (List.mem_singleton.mpr rfl))).wr W6 (Or.inl (List.mem_singleton.mpr rfl))
    exact Goes.retV X6 hx Bd.notSynchronized Bd.returns (hb hby d5_57) (nb_ rfl) (nb_ rfl) (by rw [e6]; exact ⟨rfl, N6, Kq, vb, kb, Or.inl ⟨s0, Ec, JC, JV, Bc⟩⟩)
  · skip
    refine Goes.via (S' := T3.setTop (mkF m 45 #[.val (.ref a1), .val (.ref ca), .val (.int (0 : Int32)), .val (.int (1 : Int32)), .val .null, .val (.ref vb)] [(.int (1 : Int32)), (.ref vb), (.ref a1)])) (fun tz kz => ?_) ?_
    · show Steps p.tables e below (T3.setTop (mkF m 39 #[.val (.ref a1), .val (.ref ca), .val (.int (0 : Int32)), .val (.int (1 : Int32)), .val .null, .unset] [(.ref vb)])) _
      refine XS.astore X3.here hx rfl (hb hby d5_39) rfl rfl (l' := #[.val (.ref a1), .val (.ref ca), .val (.int (0 : Int32)), .val (.int (1 : Int32)), .val .null, .val (.ref vb)]) rfl ?_
      refine XS.aloadN X3.here hx rfl (hb hby d5_41) rfl rfl ?_
      refine XS.aload X3.here hx rfl (hb hby d5_42) rfl rfl ?_
      refine XS.iloadN X3.here hx rfl (hb hby d5_44) rfl ?_
      exact kz
    obtain ⟨_, _, ⟨T7, L7, k7, n7⟩, -, X7, ⟨Lc7, hQ7, l7, y7, z7⟩, st7⟩ := Jvm.LawKit.callS X3 hx (y := n_7) hown (mvT hZ (w_ hw 34 rfl)) (mvT hZ (w_ hw 35 rfl)) (mvT hZ (w_ hw 28 rfl)) (mvT hZ (w_ hw 36 rfl)) (by decide) (backOf (W := 1) (rcc_12 l Z a0 hw [] vb kb _ T3.heap n0 (Nat.le_trans Z0 K3.1) Bv) hZ (w_ hw 36 rfl) (w_ hw 28 rfl) (by decide) (by decide)) (g := (mkF m 45 #[.val (.ref a1), .val (.ref ca), .val (.int (0 : Int32)), .val (.int (1 : Int32)), .val .null, .val (.ref vb)] [(.int (1 : Int32)), (.ref vb), (.ref a1)])) rfl (by rw [hml]; rfl) (argsL := [(.ref vb), (.int (1 : Int32))]) (rest := [(.ref a1)]) (lenOf pd_6 rfl) rfl (by show 2 * 0 + _ ≤ _; exact Nat.le_of_eq rfl) (hb hby d5_45) (fun _ _ => ⟨rfl, rfl, (by decide : 2 + 0 ≤ _), (by decide : 3 + 0 ≤ _)⟩)
    dsimp only [Pt.U, Pt.locs, Pt.cells, Pt.slots] at X7 l7 y7 z7 st7 hQ7
    subst l7 y7 z7
    obtain ⟨rfl, N7, e7⟩ := hQ7
    have Nf7 := Fr.app Nf3 N7
    refine Goes.via (st7) ?_
    have Ea := E1.keep K3
    have GV := FV.keep K3 nin0
    have GC := FC.keep K3 nin0
    have nb : a1 ≠ vb := Nat.ne_of_lt (Nat.lt_of_lt_of_le E1.lt gv)
    obtain ⟨T8, h8, X8, e8, W8, st8⟩ := putFN X7 hx hZ hown (w_ hw 37 rfl) Via.refl e7 GC Ea (Or.inr ⟨(w_ hw 38 rfl), rfl, hnm⟩) (w_ hw 12 rfl) (ty := .byte) (v' := (.int (nar .byte (1 : Int32)))) (by decide) rfl (fits_nar_byte _) (g := (mkF m 48 #[.val (.ref a1), .val (.ref ca), .val (.int (0 : Int32)), .val (.int (1 : Int32)), .val .null, .val (.ref vb)] [(.int (1 : Int32)), (.ref a1)])) rfl rfl (hb hby d5_48)
    refine Goes.via st8 ?_
    have N8 := Fr.snoc X8 Nf7 g1
    have HC : Fld Z h8 a1 "java/lang/String" "coder" "B" (.int (1 : Int32)) := GC.same W8
    have HV := GV.other W8 (Or.inr (slot_ne (Or.inr (w_ hw 40 rfl)) (Or.inr (w_ hw 38 rfl)) (by decide) (t := (.array .byte)) (t' := .byte) (by decide) (by decide)))
    have Eb := Ea.wr W8
    have Bb := Bv.other W8 (Ne.symm nb)
    refine Goes.via (S' := T8.setTop (mkF m 54 #[.val (.ref a1), .val (.ref ca), .val (.int (0 : Int32)), .val (.int (1 : Int32)), .val .null, .val (.ref vb)] [(.ref vb), (.ref a1)])) (fun tz kz => ?_) ?_
    · show Steps p.tables e below (T8.setTop (mkF m 51 #[.val (.ref a1), .val (.ref ca), .val (.int (0 : Int32)), .val (.int (1 : Int32)), .val .null, .val (.ref vb)] [])) _
      refine XS.aloadN X8.here hx rfl (hb hby d5_51) rfl rfl ?_
      refine XS.aload X8.here hx rfl (hb hby d5_52) rfl rfl ?_
      exact kz
    obtain ⟨T9, h9, X9, e9, W9, st9⟩ := putF X8 hx hZ hown (host := "") (Or.inl (w_ hw 39 rfl)) Via.refl e8 HV Eb (Or.inr ⟨(w_ hw 40 rfl), rfl, hnm⟩) (w_ hw 12 rfl) (ty := (.array .byte)) (by decide) rfl rfl (g := (mkF m 54 #[.val (.ref a1), .val (.ref ca), .val (.int (0 : Int32)), .val (.int (1 : Int32)), .val .null, .val (.ref vb)] [(.ref vb), (.ref a1)])) rfl rfl (hb hby d5_54)
    refine Goes.via st9 ?_
    have N9 := Fr.snoc X9 N8 g1
    have JV := HV.same W9
    have JC := HC.other W9 (Or.inr (slot_ne (Or.inr (w_ hw 38 rfl)) (Or.inr (w_ hw 40 rfl)) (by decide) (t := .byte) (t' := (.array .byte)) (by decide) (by decide)))
    have Ec := Eb.wr W9
    have Bc := Bb.other W9 (Ne.symm nb)
    have Kq : Keep h0 h9 [a1] := (((Keep.refl h0 [a1]).trans K3 all0).wr W8 (Or.inl (List.mem_singleton.mpr rfl))).wr W9 (Or.inl (List.mem_singleton.mpr rfl))
    exact Goes.retV X9 hx Bd.notSynchronized Bd.returns (hb hby d5_57) (nb_ rfl) (nb_ rfl) (by rw [e9]; exact ⟨rfl, N9, Kq, vb, kb, Or.inr ⟨Ec, JC, JV, Bc⟩⟩)
theorem d4_0 : decode jdk_42_method_3_code 0 = .ok (.aload_n 0, 1) := by decide +kernel
theorem d4_1 : decode jdk_42_method_3_code 1 = .ok (.aload_n 1, 1) := by decide +kernel
theorem d4_2 : decode jdk_42_method_3_code 2 = .ok (.iconst 0, 1) := by decide +kernel
theorem d4_3 : decode jdk_42_method_3_code 3 = .ok (.aload_n 1, 1) := by decide +kernel
theorem d4_4 : decode jdk_42_method_3_code 4 = .ok (.arraylength, 1) := by decide +kernel
theorem d4_5 : decode jdk_42_method_3_code 5 = .ok (.aconst_null, 1) := by decide +kernel
theorem d4_6 : decode jdk_42_method_3_code 6 = .ok (.invokespecial 27, 3) := by decide +kernel
theorem d4_9 : decode jdk_42_method_3_code 9 = .ok (.return_, 1) := by decide +kernel
theorem pn_4 : plainName "java/lang/String" = true := by first | (simp [plainName, overriddenIn]; done) | decide +kernel
theorem ef_4 (m : MethodId) (x0 : Addr) (x1 : Addr) : entryFrame m #[(.ref x0), (.ref x1)] 2 = mkF m 0 #[.val (.ref x0), .val (.ref x1)] [] := by first | (simp [entryFrame, mkF, argsToLocals, Value.category]; done) | rfl
def Q_rn1_1 (Z : State) (a1 : Addr) (ca : Addr) (cs : Int32) (ka : ClassId) (c0 : Int32) (h0 : Heap) (n0 : Nat) : Option Value → Heap → List Loc → Prop := fun v h L => v = none ∧ Fr n0 L ∧ Keep h0 h [a1] ∧ ∃ b k, (((¬ (255 : Int32) < c0) ∧ own_Str Z h a1 b k (1 : Int32) [.int (own_by c0)]) ∨ own_StU Z h a1 b k (2 : Int32) [.int (own_lo c0), .int (own_hi c0)])
theorem rn1_1 (l : Launch) (Z : State) (a0 : Array Value) (hw : ∀ d ∈ tables_1, d.before a0 Z = true) (ws : List Jvm.Cond) (a1 : Addr) (ca : Addr) (cs : Int32) (ka : ClassId) (c0 : Int32) (h0 : Heap) (n0 : Nat) (Z0 : n0 ≤ h0.size) (SC : Sta Z Z.heap "java/lang/String" "COMPACT_STRINGS" "Z" (.int cs)) (hcs : ¬ cs = (0 : Int32)) (O0 : Old Z n0 h0) (SA : Sta Z Z.heap "java/lang/StringUTF16" "$assertionsDisabled" "Z" (.int (1 : Int32))) (SH : Sta Z Z.heap "java/lang/StringUTF16" "HI_BYTE_SHIFT" "I" (.int (0 : Int32))) (SL : Sta Z Z.heap "java/lang/StringUTF16" "LO_BYTE_SHIFT" "I" (.int (8 : Int32))) (FV : Fld Z h0 a1 "java/lang/String" "value" "[B" .null) (FC : Fld Z h0 a1 "java/lang/String" "coder" "B" (.int (0 : Int32))) (E1 : Exa Z h0 a1 "java/lang/String") (g1 : n0 ≤ a1) (C0 : Arv Z h0 ca ka .char (1 : Int32) [.int c0] (.int 0)) (z0 : nar .char c0 = c0) :
    own_M l Z n_9 (Jvm.Cond.code n_9 jdk_42_method_3_code 2 none) ws ({ frames := 5, cells := 2, slots := 3, locals := 106 } : Room) #[(.ref a1), (.ref ca)] h0 (Q_rn1_1 Z a1 ca cs ka c0 h0 n0) := by
  refine MetFree.of_bodySF (plainFor_of_name pn_4) hisR ?_
  intro p e s m args below meth c s₁ Bd hml0 hP hK
  obtain ⟨rfl, hZ, hh⟩ := hP
  have hx := Bd.exec
  have hby := Bd.bytes
  have hml : c.maxLocals = 2 := hml0
  have hown : s.vm.findClass "java/lang/String" = some m.cls := findClass_of_methodNamed Bd.named
  have hnm := (name_of_methodNamed Bd.named Bd.method).1
  have X0 : Stand p l e ({ frames := 5, cells := 2, slots := 3, locals := 106 } : Room) s m #[(.ref a1), (.ref ca)] below meth c s₁ [] 0 0 := Stand.of_body Bd
  have e0 : s₁.heap = h0 := by rw [← hh, Bd.state]; rfl
  have N0 := Fr.nil n0
  show Goes p e below (Fin s (Q_rn1_1 Z a1 ca cs ka c0 h0 n0) ({ frames := 5, cells := 2, slots := 3, locals := 106 } : Room).cells ({ frames := 5, cells := 2, slots := 3, locals := 106 } : Room).slots) _
  refine Goes.via (S' := s₁.setTop (mkF m 0 #[.val (.ref a1), .val (.ref ca)] [])) (fun tz kz => castTop (ef_4 m a1 ca ) kz) ?_
  refine Goes.via (S' := s₁.setTop (mkF m 4 #[.val (.ref a1), .val (.ref ca)] [(.ref ca), (.int (0 : Int32)), (.ref ca), (.ref a1)])) (fun tz kz => ?_) ?_
  · show Steps p.tables e below (s₁.setTop (mkF m 0 #[.val (.ref a1), .val (.ref ca)] [])) _
    refine XS.aloadN X0.here hx rfl (hb hby d4_0) rfl rfl ?_
    refine XS.aloadN X0.here hx rfl (hb hby d4_1) rfl rfl ?_
    refine XS.iconst X0.here hx rfl (hb hby d4_2) ?_
    refine XS.aloadN X0.here hx rfl (hb hby d4_3) rfl rfl ?_
    exact kz
  obtain ⟨cl1, Ar1, q1, Sz1, Nn1, Hs1, G1⟩ := (id C0)
  refine Goes.via (S' := s₁.setTop (mkF m 6 #[.val (.ref a1), .val (.ref ca)] [.null, (.int (1 : Int32)), (.int (0 : Int32)), (.ref ca), (.ref a1)])) (fun tz kz => ?_) ?_
  · show Steps p.tables e below (s₁.setTop (mkF m 4 #[.val (.ref a1), .val (.ref ca)] [(.ref ca), (.int (0 : Int32)), (.ref ca), (.ref a1)])) _
    refine X0.arraylength hx (by rw [e0]; exact Ar1.1) (State.isArrayOf_alike hZ.alike Ar1.2.1) (g := (mkF m 4 #[.val (.ref a1), .val (.ref ca)] [(.ref ca), (.int (0 : Int32)), (.ref ca), (.ref a1)])) rfl rfl (hb hby d4_4) _ ?_
    rw [len_of Sz1 Nn1]
    refine XS.aconstNull X0.here hx rfl (hb hby d4_5) ?_
    exact kz
  obtain ⟨_, _, ⟨T2, L2, k2, n2⟩, -, X2, ⟨Lc2, hQ2, l2, y2, z2⟩, st2⟩ := X0.specialBack hx (y := n_8) rfl hown (mvT hZ (w_ hw 18 rfl)) (mvT hZ (w_ hw 19 rfl)) (mvT hZ (w_ hw 21 rfl)) (by decide) (backOf (W := 0) (rn4_1 l Z a0 hw [] a1 ca cs ka c0 h0 n0 Z0 SC hcs O0 SA SH SL FV FC E1 g1 C0 z0) hZ (w_ hw 21 rfl) (w_ hw 13 rfl) (by decide) (by decide)) (g := (mkF m 6 #[.val (.ref a1), .val (.ref ca)] [.null, (.int (1 : Int32)), (.int (0 : Int32)), (.ref ca), (.ref a1)])) rfl (by rw [hml]; rfl) (Steps.refl _) (a := a1) (argsL := [(.ref ca), (.int (0 : Int32)), (.int (1 : Int32)), .null]) (rest := []) (lenOf pd_7 rfl) rfl (by show 2 * 0 + _ ≤ _; exact Nat.le_of_eq rfl) (hb hby d4_6) (fun _ _ => ⟨rfl, e0, (by decide : 0 + 2 ≤ _), (by decide : 0 + 3 ≤ _)⟩)
  dsimp only [Pt.U, Pt.locs, Pt.cells, Pt.slots] at X2 l2 y2 z2 st2 hQ2
  subst l2 y2 z2
  obtain ⟨rfl, N2, K2, vb, kb, S2⟩ := hQ2
  have Nf2 := Fr.app N0 N2
  refine Goes.via (fun _ kz => st2.trans kz) ?_
  exact Goes.retV X2 hx Bd.notSynchronized Bd.returns (hb hby d4_9) (nb_ rfl) (nb_ rfl) ⟨rfl, Nf2, K2, vb, kb, S2⟩
def Q_rnbl_2 (Z : State)   (h0 : Heap) (n0 : Nat) : Option Value → Heap → List Loc → Prop := fun v h L => v = some (.int (4 : Int32)) ∧ Fr n0 L ∧ h = h0
theorem rnbl_2 (l : Launch) (Z : State) (a0 : Array Value) (hw : ∀ d ∈ tables_1, d.before a0 Z = true) (ws : List Jvm.Cond)   (h0 : Heap) (n0 : Nat) (Z0 : n0 ≤ h0.size) :
    own_M l Z n_2 (Jvm.Cond.code n_2 jdk_52_method_3_code 1 (some .int)) ws ({ frames := 0, cells := 0, slots := 0, locals := 0 } : Room) #[(.int (2 : Int32))] h0 (Q_rnbl_2 Z  h0 n0) := by
  refine MetFree.of_bodySF (plainFor_of_name pn_32) hisR ?_
  intro p e s m args below meth c s₁ Bd hml0 hP hK
  obtain ⟨rfl, hZ, hh⟩ := hP
  have hx := Bd.exec
  have hby := Bd.bytes
  have hml : c.maxLocals = 1 := hml0
  have hown : s.vm.findClass "java/lang/StringUTF16" = some m.cls := findClass_of_methodNamed Bd.named
  have hnm := (name_of_methodNamed Bd.named Bd.method).1
  have X0 : Stand p l e ({ frames := 0, cells := 0, slots := 0, locals := 0 } : Room) s m #[(.int (2 : Int32))] below meth c s₁ [] 0 0 := Stand.of_body Bd
  have e0 : s₁.heap = h0 := by rw [← hh, Bd.state]; rfl
  have N0 := Fr.nil n0
  show Goes p e below (Fin s (Q_rnbl_2 Z  h0 n0) ({ frames := 0, cells := 0, slots := 0, locals := 0 } : Room).cells ({ frames := 0, cells := 0, slots := 0, locals := 0 } : Room).slots) _
  refine Goes.via (S' := s₁.setTop (mkF m 0 #[.val (.int (2 : Int32))] [])) (fun tz kz => castTop (ef_32 m (2 : Int32) ) kz) ?_
  refine Goes.via (S' := s₁.setTop (mkF m 58 #[.val (.int (2 : Int32))] [(.int (4 : Int32))])) (fun tz kz => ?_) ?_
  · show Steps p.tables e below (s₁.setTop (mkF m 0 #[.val (.int (2 : Int32))] [])) _
    refine XS.iloadN X0.here hx rfl (hb hby d32_0) rfl ?_
    refine XS.ifYes X0.here hx rfl (pc0 := 1) (pc' := 12) rfl (hb hby d32_1) rfl ((if0 _ _).trans (flt (by first | decide | rfl)).2.1) (by decide) (by decide) ?_
    refine XS.iloadN X0.here hx rfl (hb hby d32_12) rfl ?_
    refine X0.ldcInt hx hown (mvT hZ (w_ hw 137 rfl)) (g := (mkF m 13 #[.val (.int (2 : Int32))] [(.int (2 : Int32))])) rfl (hb hby d32_13) _ ?_
    refine XS.icmpYes X0.here hx rfl (pc0 := 15) (pc' := 55) rfl (hb hby d32_15) rfl (tlt (by first | decide | rfl)).1 (by decide) (by decide) ?_
    refine XS.iloadN X0.here hx rfl (hb hby d32_55) rfl ?_
    refine XS.iconst X0.here hx rfl (hb hby d32_56) ?_
    refine XS.ishl X0.here hx rfl (hb hby d32_57) rfl ?_
    exact kz
  exact Goes.retI X0 hx Bd.notSynchronized Bd.returns (hb hby d32_58) (nb_ rfl) (nb_ rfl) ⟨rfl, N0, e0⟩
def Q_rnbf_2 (Z : State)   (h0 : Heap) (n0 : Nat) : Option Value → Heap → List Loc → Prop := fun v h L => ∃ b k, v = some (.ref b) ∧ Fr n0 L ∧ Keep h0 h [] ∧ Arv Z h b k .byte (4 : Int32) [.int 0, .int 0, .int 0, .int 0] (.int 0) ∧ @LE.le Nat _ h0.size b
theorem rnbf_2 (l : Launch) (Z : State) (a0 : Array Value) (hw : ∀ d ∈ tables_1, d.before a0 Z = true) (ws : List Jvm.Cond)   (h0 : Heap) (n0 : Nat) (Z0 : n0 ≤ h0.size) :
    own_M l Z n_3 (Jvm.Cond.code n_3 jdk_52_method_2_code 1 (some (.array .byte))) ws ({ frames := 1, cells := 1, slots := 4, locals := 16 } : Room) #[(.int (2 : Int32))] h0 (Q_rnbf_2 Z  h0 n0) := by
  refine MetFree.of_bodySF (plainFor_of_name pn_31) hisR ?_
  intro p e s m args below meth c s₁ Bd hml0 hP hK
  obtain ⟨rfl, hZ, hh⟩ := hP
  have hx := Bd.exec
  have hby := Bd.bytes
  have hml : c.maxLocals = 1 := hml0
  have hown : s.vm.findClass "java/lang/StringUTF16" = some m.cls := findClass_of_methodNamed Bd.named
  have hnm := (name_of_methodNamed Bd.named Bd.method).1
  have X0 : Stand p l e ({ frames := 1, cells := 1, slots := 4, locals := 16 } : Room) s m #[(.int (2 : Int32))] below meth c s₁ [] 0 0 := Stand.of_body Bd
  have e0 : s₁.heap = h0 := by rw [← hh, Bd.state]; rfl
  have N0 := Fr.nil n0
  show Goes p e below (Fin s (Q_rnbf_2 Z  h0 n0) ({ frames := 1, cells := 1, slots := 4, locals := 16 } : Room).cells ({ frames := 1, cells := 1, slots := 4, locals := 16 } : Room).slots) _
  refine Goes.via (S' := s₁.setTop (mkF m 0 #[.val (.int (2 : Int32))] [])) (fun tz kz => castTop (ef_31 m (2 : Int32) ) kz) ?_
  refine Goes.via (S' := s₁.setTop (mkF m 1 #[.val (.int (2 : Int32))] [(.int (2 : Int32))])) (fun tz kz => ?_) ?_
  · show Steps p.tables e below (s₁.setTop (mkF m 0 #[.val (.int (2 : Int32))] [])) _
    refine XS.iloadN X0.here hx rfl (hb hby d31_0) rfl ?_
    exact kz
  obtain ⟨_, _, ⟨T1, L1, k1, n1⟩, -, X1, ⟨Lc1, hQ1, l1, y1, z1⟩, st1⟩ := Jvm.LawKit.callS X0 hx (y := n_2) hown (mvT hZ (w_ hw 134 rfl)) (mvT hZ (w_ hw 135 rfl)) (mvT hZ (w_ hw 28 rfl)) (mvT hZ (w_ hw 136 rfl)) (by decide) (backOf (W := 0) (rnbl_2 l Z a0 hw [] h0 n0 Z0) hZ (w_ hw 136 rfl) (w_ hw 28 rfl) (by decide) (by decide)) (g := (mkF m 1 #[.val (.int (2 : Int32))] [(.int (2 : Int32))])) rfl (by rw [hml]; rfl) (argsL := [(.int (2 : Int32))]) (rest := []) (lenOf pd_0 rfl) rfl (by show 2 * 0 + _ ≤ _; exact Nat.le_of_eq rfl) (hb hby d31_1) (fun _ _ => ⟨rfl, e0, (by decide : 0 + 0 ≤ _), (by decide : 0 + 0 ≤ _)⟩)
  dsimp only [Pt.U, Pt.locs, Pt.cells, Pt.slots] at X1 l1 y1 z1 st1 hQ1
  subst l1 y1 z1
  obtain ⟨rfl, N1, e1⟩ := hQ1
  have Nf1 := Fr.app N0 N1
  refine Goes.via (st1) ?_
  obtain ⟨T2, h2, k2, X2, e2, E2, A2, st2⟩ := newP X1 hx hZ (w_ hw 30 rfl) e1 (g := (mkF m 4 #[.val (.int (2 : Int32))] [(.int (4 : Int32))])) rfl (hb hby d31_4) rfl (by decide) (cap := 4) (by decide) (by decide) (by decide) (by decide)
  obtain ⟨b2, g2⟩ : ∃ z, z = h0.size := ⟨_, rfl⟩
  rw [← g2] at A2 st2
  refine Goes.via st2 ?_
  have B2 : Arv Z h2 b2 k2 .byte (4 : Int32) [.int 0, .int 0, .int 0, .int 0] (.int 0) := (Arv.new A2 (by decide)).pad (pad_rep [] (.int 0) 4)
  exact Goes.retO X2 hx Bd.notSynchronized Bd.returns rfl (Or.inr (Or.inr (Or.inr (Or.inr ⟨rfl, rfl, rfl⟩)))) (hb hby d31_6) (nb_ rfl) (nb_ rfl) (by rw [e2]; exact ⟨b2, k2, rfl, Nf1, (Keep.refl h0 []).ext E2, B2, Nat.le_of_eq g2.symm⟩)
def Q_rtb_2 (Z : State) (ca : Addr) (ka : ClassId) (c0 c1 : Int32) (h0 : Heap) (n0 : Nat) : Option Value → Heap → List Loc → Prop := fun v h L => ∃ b k, v = some (.ref b) ∧ Fr n0 L ∧ Keep h0 h [] ∧ Arv Z h b k .byte (4 : Int32) [.int (own_lo c0), .int (own_hi c0), .int (own_lo c1), .int (own_hi c1)] (.int 0) ∧ @LE.le Nat _ h0.size b
theorem rtb_2 (l : Launch) (Z : State) (a0 : Array Value) (hw : ∀ d ∈ tables_1, d.before a0 Z = true) (ws : List Jvm.Cond) (ca : Addr) (ka : ClassId) (c0 c1 : Int32) (h0 : Heap) (n0 : Nat) (Z0 : n0 ≤ h0.size) (SA : Sta Z Z.heap "java/lang/StringUTF16" "$assertionsDisabled" "Z" (.int (1 : Int32))) (SH : Sta Z Z.heap "java/lang/StringUTF16" "HI_BYTE_SHIFT" "I" (.int (0 : Int32))) (SL : Sta Z Z.heap "java/lang/StringUTF16" "LO_BYTE_SHIFT" "I" (.int (8 : Int32))) (O0 : Old Z n0 h0) (C0 : Arv Z h0 ca ka .char (2 : Int32) [.int c0, .int c1] (.int 0)) :
    own_M l Z n_4 (Jvm.Cond.code n_4 jdk_52_method_14_code 5 (some (.array .byte))) ws ({ frames := 2, cells := 1, slots := 4, locals := 36 } : Room) #[(.ref ca), (.int (0 : Int32)), (.int (2 : Int32))] h0 (Q_rtb_2 Z ca ka c0 c1 h0 n0) := by
  refine MetFree.of_bodySF (plainFor_of_name pn_30) hisR ?_
  intro p e s m args below meth c s₁ Bd hml0 hP hK
  obtain ⟨rfl, hZ, hh⟩ := hP
  have hx := Bd.exec
  have hby := Bd.bytes
  have hml : c.maxLocals = 5 := hml0
  have hown : s.vm.findClass "java/lang/StringUTF16" = some m.cls := findClass_of_methodNamed Bd.named
  have hnm := (name_of_methodNamed Bd.named Bd.method).1
  have X0 : Stand p l e ({ frames := 2, cells := 1, slots := 4, locals := 36 } : Room) s m #[(.ref ca), (.int (0 : Int32)), (.int (2 : Int32))] below meth c s₁ [] 0 0 := Stand.of_body Bd
  have e0 : s₁.heap = h0 := by rw [← hh, Bd.state]; rfl
  have N0 := Fr.nil n0
  show Goes p e below (Fin s (Q_rtb_2 Z ca ka c0 c1 h0 n0) ({ frames := 2, cells := 1, slots := 4, locals := 36 } : Room).cells ({ frames := 2, cells := 1, slots := 4, locals := 36 } : Room).slots) _
  refine Goes.via (S' := s₁.setTop (mkF m 0 #[.val (.ref ca), .val (.int (0 : Int32)), .val (.int (2 : Int32)), .unset, .unset] [])) (fun tz kz => castTop (ef_30 m ca (0 : Int32) (2 : Int32) ) kz) ?_
  refine Goes.via (S' := s₁.setTop (mkF m 1 #[.val (.ref ca), .val (.int (0 : Int32)), .val (.int (2 : Int32)), .unset, .unset] [(.int (2 : Int32))])) (fun tz kz => ?_) ?_
  · show Steps p.tables e below (s₁.setTop (mkF m 0 #[.val (.ref ca), .val (.int (0 : Int32)), .val (.int (2 : Int32)), .unset, .unset] [])) _
    refine XS.iloadN X0.here hx rfl (hb hby d30_0) rfl ?_
    exact kz
  obtain ⟨_, _, ⟨T1, L1, k1, n1⟩, -, X1, ⟨Lc1, hQ1, l1, y1, z1⟩, st1⟩ := Jvm.LawKit.callS X0 hx (y := n_3) hown (mvT hZ (w_ hw 131 rfl)) (mvT hZ (w_ hw 132 rfl)) (mvT hZ (w_ hw 28 rfl)) (mvT hZ (w_ hw 133 rfl)) (by decide) (backOf (W := 0) (rnbf_2 l Z a0 hw []  h0 n0 Z0) hZ (w_ hw 133 rfl) (w_ hw 28 rfl) (by decide) (by decide)) (g := (mkF m 1 #[.val (.ref ca), .val (.int (0 : Int32)), .val (.int (2 : Int32)), .unset, .unset] [(.int (2 : Int32))])) rfl (by rw [hml]; rfl) (argsL := [(.int (2 : Int32))]) (rest := []) (lenOf pd_1 rfl) rfl (by show 2 * 0 + _ ≤ _; exact Nat.le_of_eq rfl) (hb hby d30_1) (fun _ _ => ⟨rfl, e0, (by decide : 0 + 1 ≤ _), (by decide : 0 + 4 ≤ _)⟩)
  dsimp only [Pt.U, Pt.locs, Pt.cells, Pt.slots] at X1 l1 y1 z1 st1 hQ1
  subst l1 y1 z1
  obtain ⟨nb, kn, rfl, N1, K1, B1, gv⟩ := hQ1
  have Nf1 := Fr.app N0 N1
  refine Goes.via (st1) ?_
  have C1 := C0.keep K1 nin0
  have O1 := O0.keep K1 all0
  have gb : n0 ≤ nb := Nat.le_trans Z0 gv
  have nab : ca ≠ nb := Nat.ne_of_lt (Nat.lt_of_lt_of_le C0.lt gv)
  have Z1 := Nat.le_trans Z0 K1.1
  refine Goes.via (S' := T1.setTop (mkF m 19 #[.val (.ref ca), .val (.int (0 : Int32)), .val (.int (2 : Int32)), .val (.ref nb), .val (.int (0 : Int32))] [(.int (0 : Int32)), (.ref ca), (.int (0 : Int32)), (.ref nb)])) (fun tz kz => ?_) ?_
  · show Steps p.tables e below (T1.setTop (mkF m 4 #[.val (.ref ca), .val (.int (0 : Int32)), .val (.int (2 : Int32)), .unset, .unset] [(.ref nb)])) _
    refine XS.astoreN X1.here hx rfl (hb hby d30_4) rfl rfl (l' := #[.val (.ref ca), .val (.int (0 : Int32)), .val (.int (2 : Int32)), .val (.ref nb), .unset]) rfl ?_
    refine XS.iconst X1.here hx rfl (hb hby d30_5) ?_
    refine XS.istore X1.here hx rfl (hb hby d30_6) rfl (l' := #[.val (.ref ca), .val (.int (0 : Int32)), .val (.int (2 : Int32)), .val (.ref nb), .val (.int (0 : Int32))]) rfl ?_
    refine XS.iload X1.here hx rfl (hb hby d30_8) rfl ?_
    refine XS.iloadN X1.here hx rfl (hb hby d30_10) rfl ?_
    refine XS.icmpNo X1.here hx rfl (hb hby d30_11) rfl (tlt (by first | decide | rfl)).2.1 ?_
    refine XS.aloadN X1.here hx rfl (hb hby d30_14) rfl rfl ?_
    refine XS.iload X1.here hx rfl (hb hby d30_15) rfl ?_
    refine XS.aloadN X1.here hx rfl (hb hby d30_17) rfl rfl ?_
    refine XS.iloadN X1.here hx rfl (hb hby d30_18) rfl ?_
    exact kz
  obtain ⟨cl2, Ar2, q2, Sz2, Nn2, Hs2, G2⟩ := (id C1)
  refine Goes.via (S' := T1.setTop (mkF m 20 #[.val (.ref ca), .val (.int (0 : Int32)), .val (.int (2 : Int32)), .val (.ref nb), .val (.int (0 : Int32))] [(.int c0), (.int (0 : Int32)), (.ref nb)])) (fun tz kz => ?_) ?_
  · show Steps p.tables e below (T1.setTop (mkF m 19 #[.val (.ref ca), .val (.int (0 : Int32)), .val (.int (2 : Int32)), .val (.ref nb), .val (.int (0 : Int32))] [(.int (0 : Int32)), (.ref ca), (.int (0 : Int32)), (.ref nb)])) _
    refine X1.caload hx (j := (0 : Int32)) (v := (.int c0)) (by exact Ar2.1) (State.isArrayOf_alike hZ.alike Ar2.2.1) Ar2.2.2 (inb_of Sz2 ⟨by decide, by decide⟩) (Has.at Hs2 (inb_of Sz2 ⟨by decide, by decide⟩) rfl) (g := (mkF m 19 #[.val (.ref ca), .val (.int (0 : Int32)), .val (.int (2 : Int32)), .val (.ref nb), .val (.int (0 : Int32))] [(.int (0 : Int32)), (.ref ca), (.int (0 : Int32)), (.ref nb)])) rfl rfl (hb hby d30_19) _ ?_
    exact kz
  obtain ⟨_, _, ⟨T3, L3, k3, n3⟩, -, X3, ⟨Lc3, hQ3, l3, y3, z3⟩, st3⟩ := Jvm.LawKit.callS X1 hx (y := n_0) hown (mvT hZ (w_ hw 138 rfl)) (mvT hZ (w_ hw 139 rfl)) (mvT hZ (w_ hw 28 rfl)) (mvT hZ (w_ hw 140 rfl)) (by decide) (backOf (W := 0) (rpc l Z a0 hw [] nb (0 : Int32) c0 kn (4 : Int32) (0 : Int32) (1 : Int32) 0 1 [.int 0, .int 0, .int 0, .int 0] T1.heap n0 Z1 SA SH SL O1 B1 gb rfl rfl ⟨by decide, by decide⟩ ⟨by decide, by decide⟩ rfl rfl (Nat.le_of_ble_eq_true rfl) (Nat.le_of_ble_eq_true rfl)) hZ (w_ hw 140 rfl) (w_ hw 28 rfl) (by decide) (by decide)) (g := (mkF m 20 #[.val (.ref ca), .val (.int (0 : Int32)), .val (.int (2 : Int32)), .val (.ref nb), .val (.int (0 : Int32))] [(.int c0), (.int (0 : Int32)), (.ref nb)])) rfl (by rw [hml]; rfl) (argsL := [(.ref nb), (.int (0 : Int32)), (.int c0)]) (rest := []) (lenOf pd_2 rfl) rfl (by show 2 * 0 + _ ≤ _; exact Nat.le_of_eq rfl) (hb hby d30_20) (fun _ _ => ⟨rfl, rfl, (by decide : 1 + 0 ≤ _), (by decide : 4 + 0 ≤ _)⟩)
  dsimp only [Pt.U, Pt.locs, Pt.cells, Pt.slots] at X3 l3 y3 z3 st3 hQ3
  subst l3 y3 z3
  obtain ⟨rfl, N3, K3, B3⟩ := hQ3
  have Nf3 := Fr.app Nf1 N3
  refine Goes.via (st3) ?_
  have B3 : Arv Z T3.heap nb kn .byte (4 : Int32) [.int (own_lo c0), .int (own_hi c0), .int 0, .int 0] (.int 0) := B3
  have C3 := C1.keep K3 (fun q => nab (List.mem_singleton.mp q))
  have O3 := O1.keep K3 (allS gb all0)
  have J3 := K1.trans K3 (allS (Or.inr gv) all0)
  have Z3 := Nat.le_trans Z1 K3.1
  refine Goes.via (S' := T3.setTop (mkF m 19 #[.val (.ref ca), .val (.int (1 : Int32)), .val (.int (2 : Int32)), .val (.ref nb), .val (.int (1 : Int32))] [(.int (1 : Int32)), (.ref ca), (.int (1 : Int32)), (.ref nb)])) (fun tz kz => ?_) ?_
  · show Steps p.tables e below (T3.setTop (mkF m 23 #[.val (.ref ca), .val (.int (0 : Int32)), .val (.int (2 : Int32)), .val (.ref nb), .val (.int (0 : Int32))] [])) _
    refine XS.iinc X3.here hx rfl (hb hby d30_23) rfl (l' := #[.val (.ref ca), .val (.int (1 : Int32)), .val (.int (2 : Int32)), .val (.ref nb), .val (.int (0 : Int32))]) rfl ?_
    refine XS.iinc X3.here hx rfl (hb hby d30_26) rfl (l' := #[.val (.ref ca), .val (.int (1 : Int32)), .val (.int (2 : Int32)), .val (.ref nb), .val (.int (1 : Int32))]) rfl ?_
    refine XS.goto X3.here hx rfl (pc0 := 29) (pc' := 8) rfl (hb hby d30_29) (by decide) (by decide) ?_
    refine XS.iload X3.here hx rfl (hb hby d30_8) rfl ?_
    refine XS.iloadN X3.here hx rfl (hb hby d30_10) rfl ?_
    refine XS.icmpNo X3.here hx rfl (hb hby d30_11) rfl (tlt (by first | decide | rfl)).2.1 ?_
    refine XS.aloadN X3.here hx rfl (hb hby d30_14) rfl rfl ?_
    refine XS.iload X3.here hx rfl (hb hby d30_15) rfl ?_
    refine XS.aloadN X3.here hx rfl (hb hby d30_17) rfl rfl ?_
    refine XS.iloadN X3.here hx rfl (hb hby d30_18) rfl ?_
    exact kz
  obtain ⟨cl4, Ar4, q4, Sz4, Nn4, Hs4, G4⟩ := (id C3)
  refine Goes.via (S' := T3.setTop (mkF m 20 #[.val (.ref ca), .val (.int (1 : Int32)), .val (.int (2 : Int32)), .val (.ref nb), .val (.int (1 : Int32))] [(.int c1), (.int (1 : Int32)), (.ref nb)])) (fun tz kz => ?_) ?_
  · show Steps p.tables e below (T3.setTop (mkF m 19 #[.val (.ref ca), .val (.int (1 : Int32)), .val (.int (2 : Int32)), .val (.ref nb), .val (.int (1 : Int32))] [(.int (1 : Int32)), (.ref ca), (.int (1 : Int32)), (.ref nb)])) _
    refine X3.caload hx (j := (1 : Int32)) (v := (.int c1)) (by exact Ar4.1) (State.isArrayOf_alike hZ.alike Ar4.2.1) Ar4.2.2 (inb_of Sz4 ⟨by decide, by decide⟩) (Has.at Hs4 (inb_of Sz4 ⟨by decide, by decide⟩) rfl) (g := (mkF m 19 #[.val (.ref ca), .val (.int (1 : Int32)), .val (.int (2 : Int32)), .val (.ref nb), .val (.int (1 : Int32))] [(.int (1 : Int32)), (.ref ca), (.int (1 : Int32)), (.ref nb)])) rfl rfl (hb hby d30_19) _ ?_
    exact kz
  obtain ⟨_, _, ⟨T5, L5, k5, n5⟩, -, X5, ⟨Lc5, hQ5, l5, y5, z5⟩, st5⟩ := Jvm.LawKit.callS X3 hx (y := n_0) hown (mvT hZ (w_ hw 138 rfl)) (mvT hZ (w_ hw 139 rfl)) (mvT hZ (w_ hw 28 rfl)) (mvT hZ (w_ hw 140 rfl)) (by decide) (backOf (W := 0) (rpc l Z a0 hw [] nb (1 : Int32) c1 kn (4 : Int32) (2 : Int32) (3 : Int32) 2 3 [.int (own_lo c0), .int (own_hi c0), .int 0, .int 0] T3.heap n0 Z3 SA SH SL O3 B3 gb rfl rfl ⟨by decide, by decide⟩ ⟨by decide, by decide⟩ rfl rfl (Nat.le_of_ble_eq_true rfl) (Nat.le_of_ble_eq_true rfl)) hZ (w_ hw 140 rfl) (w_ hw 28 rfl) (by decide) (by decide)) (g := (mkF m 20 #[.val (.ref ca), .val (.int (1 : Int32)), .val (.int (2 : Int32)), .val (.ref nb), .val (.int (1 : Int32))] [(.int c1), (.int (1 : Int32)), (.ref nb)])) rfl (by rw [hml]; rfl) (argsL := [(.ref nb), (.int (1 : Int32)), (.int c1)]) (rest := []) (lenOf pd_2 rfl) rfl (by show 2 * 0 + _ ≤ _; exact Nat.le_of_eq rfl) (hb hby d30_20) (fun _ _ => ⟨rfl, rfl, (by decide : 1 + 0 ≤ _), (by decide : 4 + 0 ≤ _)⟩)
  dsimp only [Pt.U, Pt.locs, Pt.cells, Pt.slots] at X5 l5 y5 z5 st5 hQ5
  subst l5 y5 z5
  obtain ⟨rfl, N5, K5, B5⟩ := hQ5
  have Nf5 := Fr.app Nf3 N5
  refine Goes.via (st5) ?_
  have B5 : Arv Z T5.heap nb kn .byte (4 : Int32) [.int (own_lo c0), .int (own_hi c0), .int (own_lo c1), .int (own_hi c1)] (.int 0) := B5
  have C5 := C3.keep K5 (fun q => nab (List.mem_singleton.mp q))
  have O5 := O3.keep K5 (allS gb all0)
  have J5 := J3.trans K5 (allS (Or.inr gv) all0)
  have Z5 := Nat.le_trans Z3 K5.1
  refine Goes.via (S' := T5.setTop (mkF m 33 #[.val (.ref ca), .val (.int (2 : Int32)), .val (.int (2 : Int32)), .val (.ref nb), .val (.int (2 : Int32))] [(.ref nb)])) (fun tz kz => ?_) ?_
  · show Steps p.tables e below (T5.setTop (mkF m 23 #[.val (.ref ca), .val (.int (1 : Int32)), .val (.int (2 : Int32)), .val (.ref nb), .val (.int (1 : Int32))] [])) _
    refine XS.iinc X5.here hx rfl (hb hby d30_23) rfl (l' := #[.val (.ref ca), .val (.int (2 : Int32)), .val (.int (2 : Int32)), .val (.ref nb), .val (.int (1 : Int32))]) rfl ?_
    refine XS.iinc X5.here hx rfl (hb hby d30_26) rfl (l' := #[.val (.ref ca), .val (.int (2 : Int32)), .val (.int (2 : Int32)), .val (.ref nb), .val (.int (2 : Int32))]) rfl ?_
    refine XS.goto X5.here hx rfl (pc0 := 29) (pc' := 8) rfl (hb hby d30_29) (by decide) (by decide) ?_
    refine XS.iload X5.here hx rfl (hb hby d30_8) rfl ?_
    refine XS.iloadN X5.here hx rfl (hb hby d30_10) rfl ?_
    refine XS.icmpYes X5.here hx rfl (pc0 := 11) (pc' := 32) rfl (hb hby d30_11) rfl (flt (by first | decide | rfl)).2.1 (by decide) (by decide) ?_
    refine XS.aloadN X5.here hx rfl (hb hby d30_32) rfl rfl ?_
    exact kz
  exact Goes.retO X5 hx Bd.notSynchronized Bd.returns rfl (Or.inr (Or.inr (Or.inr (Or.inr ⟨rfl, rfl, rfl⟩)))) (hb hby d30_33) (nb_ rfl) (nb_ rfl) ⟨nb, kn, rfl, Nf5, J5, B5, gv⟩
def Q_rc5_2 (Z : State) (ca : Addr) (bb : Addr) (ka kz : ClassId) (c0 c1 : Int32) (h0 : Heap) (n0 : Nat) : Option Value → Heap → List Loc → Prop := fun v h L => ∃ j, v = some (.int j) ∧ Fr n0 L ∧ Keep h0 h [bb] ∧ ((j = (2 : Int32) ∧ (¬ (255 : Int32) < c0 ∧ ¬ (255 : Int32) < c1) ∧ Arv Z h bb kz .byte (2 : Int32) [.int (own_by c0), .int (own_by c1)] (.int 0)) ∨ own_big (2 : Int32) (4 : Int32) [.int (own_lo c0), .int (own_hi c0), .int (own_lo c1), .int (own_hi c1)] j)
theorem rc5_2 (l : Launch) (Z : State) (a0 : Array Value) (hw : ∀ d ∈ tables_1, d.before a0 Z = true) (ws : List Jvm.Cond) (ca : Addr) (bb : Addr) (ka kz : ClassId) (c0 c1 : Int32) (h0 : Heap) (n0 : Nat) (Z0 : n0 ≤ h0.size) (C0 : Arv Z h0 ca ka .char (2 : Int32) [.int c0, .int c1] (.int 0)) (B0 : Arv Z h0 bb kz .byte (2 : Int32) [.int 0, .int 0] (.int 0)) (gb : n0 ≤ bb) (nab : ca ≠ bb) (z0 : nar .char c0 = c0) (z1 : nar .char c1 = c1) :
    own_M l Z n_5 (Jvm.Cond.code n_5 jdk_52_method_21_code 7 (some .int)) ws ({ frames := 0, cells := 0, slots := 0, locals := 0 } : Room) #[(.ref ca), (.int (0 : Int32)), (.ref bb), (.int (0 : Int32)), (.int (2 : Int32))] h0 (Q_rc5_2 Z ca bb ka kz c0 c1 h0 n0) := by
  refine MetFree.of_bodySF (plainFor_of_name pn_8) hisR ?_
  intro p e s m args below meth c s₁ Bd hml0 hP hK
  obtain ⟨rfl, hZ, hh⟩ := hP
  have hx := Bd.exec
  have hby := Bd.bytes
  have hml : c.maxLocals = 7 := hml0
  have hown : s.vm.findClass "java/lang/StringUTF16" = some m.cls := findClass_of_methodNamed Bd.named
  have hnm := (name_of_methodNamed Bd.named Bd.method).1
  have X0 : Stand p l e ({ frames := 0, cells := 0, slots := 0, locals := 0 } : Room) s m #[(.ref ca), (.int (0 : Int32)), (.ref bb), (.int (0 : Int32)), (.int (2 : Int32))] below meth c s₁ [] 0 0 := Stand.of_body Bd
  have e0 : s₁.heap = h0 := by rw [← hh, Bd.state]; rfl
  have N0 := Fr.nil n0
  show Goes p e below (Fin s (Q_rc5_2 Z ca bb ka kz c0 c1 h0 n0) ({ frames := 0, cells := 0, slots := 0, locals := 0 } : Room).cells ({ frames := 0, cells := 0, slots := 0, locals := 0 } : Room).slots) _
  refine Goes.via (S' := s₁.setTop (mkF m 0 #[.val (.ref ca), .val (.int (0 : Int32)), .val (.ref bb), .val (.int (0 : Int32)), .val (.int (2 : Int32)), .unset, .unset] [])) (fun tz kz => castTop (ef_8 m ca (0 : Int32) bb (0 : Int32) (2 : Int32) ) kz) ?_
  refine Goes.via (S' := s₁.setTop (mkF m 12 #[.val (.ref ca), .val (.int (0 : Int32)), .val (.ref bb), .val (.int (0 : Int32)), .val (.int (2 : Int32)), .val (.int (0 : Int32)), .unset] [(.int (0 : Int32)), (.ref ca)])) (fun tz kz => ?_) ?_
  · show Steps p.tables e below (s₁.setTop (mkF m 0 #[.val (.ref ca), .val (.int (0 : Int32)), .val (.ref bb), .val (.int (0 : Int32)), .val (.int (2 : Int32)), .unset, .unset] [])) _
    refine XS.iconst X0.here hx rfl (hb hby d8_0) ?_
    refine XS.istore X0.here hx rfl (hb hby d8_1) rfl (l' := #[.val (.ref ca), .val (.int (0 : Int32)), .val (.ref bb), .val (.int (0 : Int32)), .val (.int (2 : Int32)), .val (.int (0 : Int32)), .unset]) rfl ?_
    refine XS.iload X0.here hx rfl (hb hby d8_3) rfl ?_
    refine XS.iload X0.here hx rfl (hb hby d8_5) rfl ?_
    refine XS.icmpNo X0.here hx rfl (hb hby d8_7) rfl (tlt (by first | decide | rfl)).2.1 ?_
    refine XS.aloadN X0.here hx rfl (hb hby d8_10) rfl rfl ?_
    refine XS.iloadN X0.here hx rfl (hb hby d8_11) rfl ?_
    exact kz
  obtain ⟨cl1, Ar1, q1, Sz1, Nn1, Hs1, G1⟩ := (id C0)
  refine Goes.via (S' := s₁.setTop (mkF m 20 #[.val (.ref ca), .val (.int (0 : Int32)), .val (.ref bb), .val (.int (0 : Int32)), .val (.int (2 : Int32)), .val (.int (0 : Int32)), .val (.int c0)] [(.int (255 : Int32)), (.int c0)])) (fun tz kz => ?_) ?_
  · show Steps p.tables e below (s₁.setTop (mkF m 12 #[.val (.ref ca), .val (.int (0 : Int32)), .val (.ref bb), .val (.int (0 : Int32)), .val (.int (2 : Int32)), .val (.int (0 : Int32)), .unset] [(.int (0 : Int32)), (.ref ca)])) _
    refine X0.caload hx (j := (0 : Int32)) (v := (.int c0)) (by rw [e0]; exact Ar1.1) (State.isArrayOf_alike hZ.alike Ar1.2.1) Ar1.2.2 (inb_of Sz1 ⟨by decide, by decide⟩) (Has.at Hs1 (inb_of Sz1 ⟨by decide, by decide⟩) rfl) (g := (mkF m 12 #[.val (.ref ca), .val (.int (0 : Int32)), .val (.ref bb), .val (.int (0 : Int32)), .val (.int (2 : Int32)), .val (.int (0 : Int32)), .unset] [(.int (0 : Int32)), (.ref ca)])) rfl rfl (hb hby d8_12) _ ?_
    refine XS.istore X0.here hx rfl (hb hby d8_13) rfl (l' := #[.val (.ref ca), .val (.int (0 : Int32)), .val (.ref bb), .val (.int (0 : Int32)), .val (.int (2 : Int32)), .val (.int (0 : Int32)), .val (.int c0)]) rfl ?_
    refine XS.iload X0.here hx rfl (hb hby d8_15) rfl ?_
    refine XS.sipush X0.here hx rfl (hb hby d8_17) ?_
    exact kz
  by_cases hc20_2 : (255 : Int32) < c0
  · refine Goes.via (S' := s₁.setTop (mkF m 25 #[.val (.ref ca), .val (.int (0 : Int32)), .val (.ref bb), .val (.int (0 : Int32)), .val (.int (2 : Int32)), .val (.int (0 : Int32)), .val (.int c0)] [(.int (0 : Int32))])) (fun tz kz => ?_) ?_
    · show Steps p.tables e below (s₁.setTop (mkF m 20 #[.val (.ref ca), .val (.int (0 : Int32)), .val (.ref bb), .val (.int (0 : Int32)), .val (.int (2 : Int32)), .val (.int (0 : Int32)), .val (.int c0)] [(.int (255 : Int32)), (.int c0)])) _
      refine XS.icmpNo X0.here hx rfl (hb hby d8_20) rfl (tlt hc20_2).2.2.2 ?_
      refine XS.iload X0.here hx rfl (hb hby d8_23) rfl ?_
      exact kz
    exact Goes.retI X0 hx Bd.notSynchronized Bd.returns (hb hby d8_25) (nb_ rfl) (nb_ rfl) (by rw [e0]; exact ⟨(0 : Int32), rfl, N0, Keep.refl h0 [bb], Or.inr ⟨(0 : Int32), (1 : Int32), c0, by decide, rfl, rfl, ⟨by decide, by decide⟩, ⟨by decide, by decide⟩, rfl, rfl, z0, hc20_2⟩⟩)
  · refine Goes.via (S' := s₁.setTop (mkF m 31 #[.val (.ref ca), .val (.int (0 : Int32)), .val (.ref bb), .val (.int (0 : Int32)), .val (.int (2 : Int32)), .val (.int (0 : Int32)), .val (.int c0)] [(.int (c0.toInt8.toInt32)), (.int (0 : Int32)), (.ref bb)])) (fun tz kz => ?_) ?_
    · show Steps p.tables e below (s₁.setTop (mkF m 20 #[.val (.ref ca), .val (.int (0 : Int32)), .val (.ref bb), .val (.int (0 : Int32)), .val (.int (2 : Int32)), .val (.int (0 : Int32)), .val (.int c0)] [(.int (255 : Int32)), (.int c0)])) _
      refine XS.icmpYes X0.here hx rfl (pc0 := 20) (pc' := 26) rfl (hb hby d8_20) rfl (flt hc20_2).2.2.2 (by decide) (by decide) ?_
      refine XS.aloadN X0.here hx rfl (hb hby d8_26) rfl rfl ?_
      refine XS.iloadN X0.here hx rfl (hb hby d8_27) rfl ?_
      refine XS.iload X0.here hx rfl (hb hby d8_28) rfl ?_
      refine XS.i2b X0.here hx rfl (hb hby d8_30) rfl ?_
      exact kz
    obtain ⟨cl3, Ar3, q3, Sz3, Nn3, Hs3, G3⟩ := (id B0)
    obtain ⟨T4, h4, X4, e4, W4, st4⟩ := stB X0 hx hZ e0 Ar3 (j := (0 : Int32)) (inb_of Sz3 ⟨by decide, by decide⟩) (g := (mkF m 31 #[.val (.ref ca), .val (.int (0 : Int32)), .val (.ref bb), .val (.int (0 : Int32)), .val (.int (2 : Int32)), .val (.int (0 : Int32)), .val (.int c0)] [(.int (c0.toInt8.toInt32)), (.int (0 : Int32)), (.ref bb)])) rfl rfl (hb hby d8_31)
    refine Goes.via st4 ?_
    have N4 := Fr.snoc X4 N0 gb
    have C4 := (C0).other W4 nab
    have A4 := Arv.set Ar3 q3 Sz3 Nn3 Hs3 G3 (fits_nar_byte _) W4 0 rfl (Nat.le_of_ble_eq_true rfl)
    have K4 := (Keep.refl h0 [bb]).wr W4 (Or.inl (List.mem_singleton.mpr rfl))
    refine Goes.via (S' := T4.setTop (mkF m 12 #[.val (.ref ca), .val (.int (1 : Int32)), .val (.ref bb), .val (.int (1 : Int32)), .val (.int (2 : Int32)), .val (.int (1 : Int32)), .val (.int c0)] [(.int (1 : Int32)), (.ref ca)])) (fun tz kz => ?_) ?_
    · show Steps p.tables e below (T4.setTop (mkF m 32 #[.val (.ref ca), .val (.int (0 : Int32)), .val (.ref bb), .val (.int (0 : Int32)), .val (.int (2 : Int32)), .val (.int (0 : Int32)), .val (.int c0)] [])) _
      refine XS.iinc X4.here hx rfl (hb hby d8_32) rfl (l' := #[.val (.ref ca), .val (.int (1 : Int32)), .val (.ref bb), .val (.int (0 : Int32)), .val (.int (2 : Int32)), .val (.int (0 : Int32)), .val (.int c0)]) rfl ?_
      refine XS.iinc X4.here hx rfl (hb hby d8_35) rfl (l' := #[.val (.ref ca), .val (.int (1 : Int32)), .val (.ref bb), .val (.int (1 : Int32)), .val (.int (2 : Int32)), .val (.int (0 : Int32)), .val (.int c0)]) rfl ?_
      refine XS.iinc X4.here hx rfl (hb hby d8_38) rfl (l' := #[.val (.ref ca), .val (.int (1 : Int32)), .val (.ref bb), .val (.int (1 : Int32)), .val (.int (2 : Int32)), .val (.int (1 : Int32)), .val (.int c0)]) rfl ?_
      refine XS.goto X4.here hx rfl (pc0 := 41) (pc' := 3) rfl (hb hby d8_41) (by decide) (by decide) ?_
      refine XS.iload X4.here hx rfl (hb hby d8_3) rfl ?_
      refine XS.iload X4.here hx rfl (hb hby d8_5) rfl ?_
      refine XS.icmpNo X4.here hx rfl (hb hby d8_7) rfl (tlt (by first | decide | rfl)).2.1 ?_
      refine XS.aloadN X4.here hx rfl (hb hby d8_10) rfl rfl ?_
      refine XS.iloadN X4.here hx rfl (hb hby d8_11) rfl ?_
      exact kz
    obtain ⟨cl5, Ar5, q5, Sz5, Nn5, Hs5, G5⟩ := (id C4)
    refine Goes.via (S' := T4.setTop (mkF m 20 #[.val (.ref ca), .val (.int (1 : Int32)), .val (.ref bb), .val (.int (1 : Int32)), .val (.int (2 : Int32)), .val (.int (1 : Int32)), .val (.int c1)] [(.int (255 : Int32)), (.int c1)])) (fun tz kz => ?_) ?_
    · show Steps p.tables e below (T4.setTop (mkF m 12 #[.val (.ref ca), .val (.int (1 : Int32)), .val (.ref bb), .val (.int (1 : Int32)), .val (.int (2 : Int32)), .val (.int (1 : Int32)), .val (.int c0)] [(.int (1 : Int32)), (.ref ca)])) _
      refine X4.caload hx (j := (1 : Int32)) (v := (.int c1)) (by rw [e4]; exact Ar5.1) (State.isArrayOf_alike hZ.alike Ar5.2.1) Ar5.2.2 (inb_of Sz5 ⟨by decide, by decide⟩) (Has.at Hs5 (inb_of Sz5 ⟨by decide, by decide⟩) rfl) (g := (mkF m 12 #[.val (.ref ca), .val (.int (1 : Int32)), .val (.ref bb), .val (.int (1 : Int32)), .val (.int (2 : Int32)), .val (.int (1 : Int32)), .val (.int c0)] [(.int (1 : Int32)), (.ref ca)])) rfl rfl (hb hby d8_12) _ ?_
      refine XS.istore X4.here hx rfl (hb hby d8_13) rfl (l' := #[.val (.ref ca), .val (.int (1 : Int32)), .val (.ref bb), .val (.int (1 : Int32)), .val (.int (2 : Int32)), .val (.int (1 : Int32)), .val (.int c1)]) rfl ?_
      refine XS.iload X4.here hx rfl (hb hby d8_15) rfl ?_
      refine XS.sipush X4.here hx rfl (hb hby d8_17) ?_
      exact kz
    by_cases hc20_6 : (255 : Int32) < c1
    · refine Goes.via (S' := T4.setTop (mkF m 25 #[.val (.ref ca), .val (.int (1 : Int32)), .val (.ref bb), .val (.int (1 : Int32)), .val (.int (2 : Int32)), .val (.int (1 : Int32)), .val (.int c1)] [(.int (1 : Int32))])) (fun tz kz => ?_) ?_
      · show Steps p.tables e below (T4.setTop (mkF m 20 #[.val (.ref ca), .val (.int (1 : Int32)), .val (.ref bb), .val (.int (1 : Int32)), .val (.int (2 : Int32)), .val (.int (1 : Int32)), .val (.int c1)] [(.int (255 : Int32)), (.int c1)])) _
        refine XS.icmpNo X4.here hx rfl (hb hby d8_20) rfl (tlt hc20_6).2.2.2 ?_
        refine XS.iload X4.here hx rfl (hb hby d8_23) rfl ?_
        exact kz
      exact Goes.retI X4 hx Bd.notSynchronized Bd.returns (hb hby d8_25) (nb_ rfl) (nb_ rfl) (by rw [e4]; exact ⟨(1 : Int32), rfl, N4, K4, Or.inr ⟨(2 : Int32), (3 : Int32), c1, by decide, rfl, rfl, ⟨by decide, by decide⟩, ⟨by decide, by decide⟩, rfl, rfl, z1, hc20_6⟩⟩)
    · refine Goes.via (S' := T4.setTop (mkF m 31 #[.val (.ref ca), .val (.int (1 : Int32)), .val (.ref bb), .val (.int (1 : Int32)), .val (.int (2 : Int32)), .val (.int (1 : Int32)), .val (.int c1)] [(.int (c1.toInt8.toInt32)), (.int (1 : Int32)), (.ref bb)])) (fun tz kz => ?_) ?_
      · show Steps p.tables e below (T4.setTop (mkF m 20 #[.val (.ref ca), .val (.int (1 : Int32)), .val (.ref bb), .val (.int (1 : Int32)), .val (.int (2 : Int32)), .val (.int (1 : Int32)), .val (.int c1)] [(.int (255 : Int32)), (.int c1)])) _
        refine XS.icmpYes X4.here hx rfl (pc0 := 20) (pc' := 26) rfl (hb hby d8_20) rfl (flt hc20_6).2.2.2 (by decide) (by decide) ?_
        refine XS.aloadN X4.here hx rfl (hb hby d8_26) rfl rfl ?_
        refine XS.iloadN X4.here hx rfl (hb hby d8_27) rfl ?_
        refine XS.iload X4.here hx rfl (hb hby d8_28) rfl ?_
        refine XS.i2b X4.here hx rfl (hb hby d8_30) rfl ?_
        exact kz
      obtain ⟨cl7, Ar7, q7, Sz7, Nn7, Hs7, G7⟩ := (id A4)
      obtain ⟨T8, h8, X8, e8, W8, st8⟩ := stB X4 hx hZ e4 Ar7 (j := (1 : Int32)) (inb_of Sz7 ⟨by decide, by decide⟩) (g := (mkF m 31 #[.val (.ref ca), .val (.int (1 : Int32)), .val (.ref bb), .val (.int (1 : Int32)), .val (.int (2 : Int32)), .val (.int (1 : Int32)), .val (.int c1)] [(.int (c1.toInt8.toInt32)), (.int (1 : Int32)), (.ref bb)])) rfl rfl (hb hby d8_31)
      refine Goes.via st8 ?_
      have N8 := Fr.snoc X8 N4 gb
      have C8 := (C4).other W8 nab
      have A8 := Arv.set Ar7 q7 Sz7 Nn7 Hs7 G7 (fits_nar_byte _) W8 1 rfl (Nat.le_of_ble_eq_true rfl)
      have K8 := (K4).wr W8 (Or.inl (List.mem_singleton.mpr rfl))
      refine Goes.via (S' := T8.setTop (mkF m 46 #[.val (.ref ca), .val (.int (2 : Int32)), .val (.ref bb), .val (.int (2 : Int32)), .val (.int (2 : Int32)), .val (.int (2 : Int32)), .val (.int c1)] [(.int (2 : Int32))])) (fun tz kz => ?_) ?_
      · show Steps p.tables e below (T8.setTop (mkF m 32 #[.val (.ref ca), .val (.int (1 : Int32)), .val (.ref bb), .val (.int (1 : Int32)), .val (.int (2 : Int32)), .val (.int (1 : Int32)), .val (.int c1)] [])) _
        refine XS.iinc X8.here hx rfl (hb hby d8_32) rfl (l' := #[.val (.ref ca), .val (.int (2 : Int32)), .val (.ref bb), .val (.int (1 : Int32)), .val (.int (2 : Int32)), .val (.int (1 : Int32)), .val (.int c1)]) rfl ?_
        refine XS.iinc X8.here hx rfl (hb hby d8_35) rfl (l' := #[.val (.ref ca), .val (.int (2 : Int32)), .val (.ref bb), .val (.int (2 : Int32)), .val (.int (2 : Int32)), .val (.int (1 : Int32)), .val (.int c1)]) rfl ?_
        refine XS.iinc X8.here hx rfl (hb hby d8_38) rfl (l' := #[.val (.ref ca), .val (.int (2 : Int32)), .val (.ref bb), .val (.int (2 : Int32)), .val (.int (2 : Int32)), .val (.int (2 : Int32)), .val (.int c1)]) rfl ?_
        refine XS.goto X8.here hx rfl (pc0 := 41) (pc' := 3) rfl (hb hby d8_41) (by decide) (by decide) ?_
        refine XS.iload X8.here hx rfl (hb hby d8_3) rfl ?_
        refine XS.iload X8.here hx rfl (hb hby d8_5) rfl ?_
        refine XS.icmpYes X8.here hx rfl (pc0 := 7) (pc' := 44) rfl (hb hby d8_7) rfl (flt (by first | decide | rfl)).2.1 (by decide) (by decide) ?_
        refine XS.iload X8.here hx rfl (hb hby d8_44) rfl ?_
        exact kz
      exact Goes.retI X8 hx Bd.notSynchronized Bd.returns (hb hby d8_46) (nb_ rfl) (nb_ rfl) (by rw [e8]; exact ⟨(2 : Int32), rfl, N8, K8, Or.inl ⟨rfl, ⟨hc20_2, hc20_6⟩, A8⟩⟩)
def Q_rc3_2 (Z : State) (ca : Addr) (ka : ClassId) (c0 c1 : Int32) (h0 : Heap) (n0 : Nat) : Option Value → Heap → List Loc → Prop := fun v h L => ∃ b k, v = some (.ref b) ∧ Fr n0 L ∧ Keep h0 h [] ∧ @LE.le Nat _ h0.size b ∧ (((¬ (255 : Int32) < c0 ∧ ¬ (255 : Int32) < c1) ∧ Arv Z h b k .byte (2 : Int32) [.int (own_by c0), .int (own_by c1)] (.int 0)) ∨ Arv Z h b k .byte (4 : Int32) [.int (own_lo c0), .int (own_hi c0), .int (own_lo c1), .int (own_hi c1)] (.int 0))
theorem rc3_2 (l : Launch) (Z : State) (a0 : Array Value) (hw : ∀ d ∈ tables_1, d.before a0 Z = true) (ws : List Jvm.Cond) (ca : Addr) (ka : ClassId) (c0 c1 : Int32) (h0 : Heap) (n0 : Nat) (Z0 : n0 ≤ h0.size) (SA : Sta Z Z.heap "java/lang/StringUTF16" "$assertionsDisabled" "Z" (.int (1 : Int32))) (SH : Sta Z Z.heap "java/lang/StringUTF16" "HI_BYTE_SHIFT" "I" (.int (0 : Int32))) (SL : Sta Z Z.heap "java/lang/StringUTF16" "LO_BYTE_SHIFT" "I" (.int (8 : Int32))) (O0 : Old Z n0 h0) (C0 : Arv Z h0 ca ka .char (2 : Int32) [.int c0, .int c1] (.int 0)) (z0 : nar .char c0 = c0) (z1 : nar .char c1 = c1) :
    own_M l Z n_6 (Jvm.Cond.code n_6 jdk_52_method_16_code 6 (some (.array .byte))) ws ({ frames := 3, cells := 2, slots := 6, locals := 60 } : Room) #[(.ref ca), (.int (0 : Int32)), (.int (2 : Int32))] h0 (Q_rc3_2 Z ca ka c0 c1 h0 n0) := by
  refine MetFree.of_bodySF (plainFor_of_name pn_7) hisR ?_
  intro p e s m args below meth c s₁ Bd hml0 hP hK
  obtain ⟨rfl, hZ, hh⟩ := hP
  have hx := Bd.exec
  have hby := Bd.bytes
  have hml : c.maxLocals = 6 := hml0
  have hown : s.vm.findClass "java/lang/StringUTF16" = some m.cls := findClass_of_methodNamed Bd.named
  have hnm := (name_of_methodNamed Bd.named Bd.method).1
  have X0 : Stand p l e ({ frames := 3, cells := 2, slots := 6, locals := 60 } : Room) s m #[(.ref ca), (.int (0 : Int32)), (.int (2 : Int32))] below meth c s₁ [] 0 0 := Stand.of_body Bd
  have e0 : s₁.heap = h0 := by rw [← hh, Bd.state]; rfl
  have N0 := Fr.nil n0
  show Goes p e below (Fin s (Q_rc3_2 Z ca ka c0 c1 h0 n0) ({ frames := 3, cells := 2, slots := 6, locals := 60 } : Room).cells ({ frames := 3, cells := 2, slots := 6, locals := 60 } : Room).slots) _
  refine Goes.via (S' := s₁.setTop (mkF m 0 #[.val (.ref ca), .val (.int (0 : Int32)), .val (.int (2 : Int32)), .unset, .unset, .unset] [])) (fun tz kz => castTop (ef_7 m ca (0 : Int32) (2 : Int32) ) kz) ?_
  refine Goes.via (S' := s₁.setTop (mkF m 1 #[.val (.ref ca), .val (.int (0 : Int32)), .val (.int (2 : Int32)), .unset, .unset, .unset] [(.int (2 : Int32))])) (fun tz kz => ?_) ?_
  · show Steps p.tables e below (s₁.setTop (mkF m 0 #[.val (.ref ca), .val (.int (0 : Int32)), .val (.int (2 : Int32)), .unset, .unset, .unset] [])) _
    refine XS.iloadN X0.here hx rfl (hb hby d7_0) rfl ?_
    exact kz
  obtain ⟨T1, h1, k1, X1, e1, E1, A1, st1⟩ := newP X0 hx hZ (w_ hw 30 rfl) e0 (g := (mkF m 1 #[.val (.ref ca), .val (.int (0 : Int32)), .val (.int (2 : Int32)), .unset, .unset, .unset] [(.int (2 : Int32))])) rfl (hb hby d7_1) rfl (by decide) (cap := 2) (by decide) (by decide) (by decide) (by decide)
  obtain ⟨b1, g1⟩ : ∃ z, z = h0.size := ⟨_, rfl⟩
  rw [← g1] at A1 st1
  refine Goes.via st1 ?_
  have B1 : Arv Z h1 b1 k1 .byte (2 : Int32) [.int 0, .int 0] (.int 0) := (Arv.new A1 (by decide)).pad (pad_rep [] (.int 0) 2)
  have nab : ca ≠ b1 := adr_ne C0.lt g1 (Nat.le_refl _)
  have gb : n0 ≤ b1 := Nat.le_trans Z0 (Nat.le_of_eq g1.symm)
  refine Goes.via (S' := T1.setTop (mkF m 9 #[.val (.ref ca), .val (.int (0 : Int32)), .val (.int (2 : Int32)), .val (.ref b1), .unset, .unset] [(.int (2 : Int32)), (.int (0 : Int32)), (.ref b1), (.int (0 : Int32)), (.ref ca)])) (fun tz kz => ?_) ?_
  · show Steps p.tables e below (T1.setTop (mkF m 3 #[.val (.ref ca), .val (.int (0 : Int32)), .val (.int (2 : Int32)), .unset, .unset, .unset] [(.ref b1)])) _
    refine XS.astoreN X1.here hx rfl (hb hby d7_3) rfl rfl (l' := #[.val (.ref ca), .val (.int (0 : Int32)), .val (.int (2 : Int32)), .val (.ref b1), .unset, .unset]) rfl ?_
    refine XS.aloadN X1.here hx rfl (hb hby d7_4) rfl rfl ?_
    refine XS.iloadN X1.here hx rfl (hb hby d7_5) rfl ?_
    refine XS.aloadN X1.here hx rfl (hb hby d7_6) rfl rfl ?_
    refine XS.iconst X1.here hx rfl (hb hby d7_7) ?_
    refine XS.iloadN X1.here hx rfl (hb hby d7_8) rfl ?_
    exact kz
  obtain ⟨_, _, ⟨T2, L2, k2, n2⟩, -, X2, ⟨Lc2, hQ2, l2, y2, z2⟩, st2⟩ := Jvm.LawKit.callS X1 hx (y := n_5) hown (mvT hZ (w_ hw 31 rfl)) (mvT hZ (w_ hw 32 rfl)) (mvT hZ (w_ hw 28 rfl)) (mvT hZ (w_ hw 33 rfl)) (by decide) (backOf (W := 0) (rc5_2 l Z a0 hw [] ca b1 ka k1 c0 c1 h1 n0 (Nat.le_trans Z0 E1.1) (C0.ext E1) B1 gb nab z0 z1) hZ (w_ hw 33 rfl) (w_ hw 28 rfl) (by decide) (by decide)) (g := (mkF m 9 #[.val (.ref ca), .val (.int (0 : Int32)), .val (.int (2 : Int32)), .val (.ref b1), .unset, .unset] [(.int (2 : Int32)), (.int (0 : Int32)), (.ref b1), (.int (0 : Int32)), (.ref ca)])) rfl (by rw [hml]; rfl) (argsL := [(.ref ca), (.int (0 : Int32)), (.ref b1), (.int (0 : Int32)), (.int (2 : Int32))]) (rest := []) (lenOf pd_3 rfl) rfl (by show 2 * 0 + _ ≤ _; exact Nat.le_of_eq rfl) (hb hby d7_9) (fun _ _ => ⟨rfl, e1, (by decide : 1 + 0 ≤ _), (by decide : 2 + 0 ≤ _)⟩)
  dsimp only [Pt.U, Pt.locs, Pt.cells, Pt.slots] at X2 l2 y2 z2 st2 hQ2
  subst l2 y2 z2
  obtain ⟨j5, rfl, N2, K2, Dj⟩ := hQ2
  have Nf2 := Fr.app N0 N2
  refine Goes.via (st2) ?_
  have Ka := ((Keep.refl h0 []).ext E1).trans K2 (allS (Or.inr (Nat.le_of_eq g1.symm)) all0)
  have Ca := (C0.ext E1).keep K2 (fun q => nab (List.mem_singleton.mp q))
  have Oa := O0.keep Ka all0
  have Za := Nat.le_trans Z0 Ka.1
  rcases Dj with ⟨hj, ⟨s0, s1⟩, BL⟩ | ⟨j0, j1, xx, hjn, hj0, hj1, q0, q1, g0, g1, zx, gx⟩
  · subst hj
    refine Goes.via (S' := T2.setTop (mkF m 58 #[.val (.ref ca), .val (.int (0 : Int32)), .val (.int (2 : Int32)), .val (.ref b1), .val (.int (2 : Int32)), .unset] [(.ref b1)])) (fun tz kz => ?_) ?_
    · show Steps p.tables e below (T2.setTop (mkF m 12 #[.val (.ref ca), .val (.int (0 : Int32)), .val (.int (2 : Int32)), .val (.ref b1), .unset, .unset] [(.int (2 : Int32))])) _
      refine XS.istore X2.here hx rfl (hb hby d7_12) rfl (l' := #[.val (.ref ca), .val (.int (0 : Int32)), .val (.int (2 : Int32)), .val (.ref b1), .val (.int (2 : Int32)), .unset]) rfl ?_
      refine XS.iload X2.here hx rfl (hb hby d7_14) rfl ?_
      refine XS.iloadN X2.here hx rfl (hb hby d7_16) rfl ?_
      refine XS.icmpYes X2.here hx rfl (pc0 := 17) (pc' := 57) rfl (hb hby d7_17) rfl (teq (by first | decide | rfl)).1 (by decide) (by decide) ?_
      refine XS.aloadN X2.here hx rfl (hb hby d7_57) rfl rfl ?_
      exact kz
    exact Goes.retO X2 hx Bd.notSynchronized Bd.returns rfl (Or.inr (Or.inr (Or.inr (Or.inr ⟨rfl, rfl, rfl⟩)))) (hb hby d7_58) (nb_ rfl) (nb_ rfl) ⟨b1, k1, rfl, Nf2, Ka, Nat.le_of_eq g1.symm, Or.inl ⟨⟨s0, s1⟩, BL⟩⟩
  · skip
    refine Goes.via (S' := T2.setTop (mkF m 23 #[.val (.ref ca), .val (.int (0 : Int32)), .val (.int (2 : Int32)), .val (.ref b1), .val (.int j5), .unset] [(.int (2 : Int32)), (.int (0 : Int32)), (.ref ca)])) (fun tz kz => ?_) ?_
    · show Steps p.tables e below (T2.setTop (mkF m 12 #[.val (.ref ca), .val (.int (0 : Int32)), .val (.int (2 : Int32)), .val (.ref b1), .unset, .unset] [(.int j5)])) _
      refine XS.istore X2.here hx rfl (hb hby d7_12) rfl (l' := #[.val (.ref ca), .val (.int (0 : Int32)), .val (.int (2 : Int32)), .val (.ref b1), .val (.int j5), .unset]) rfl ?_
      refine XS.iload X2.here hx rfl (hb hby d7_14) rfl ?_
      refine XS.iloadN X2.here hx rfl (hb hby d7_16) rfl ?_
      refine XS.icmpNo X2.here hx rfl (hb hby d7_17) rfl (feq hjn).1 ?_
      refine XS.aloadN X2.here hx rfl (hb hby d7_20) rfl rfl ?_
      refine XS.iloadN X2.here hx rfl (hb hby d7_21) rfl ?_
      refine XS.iloadN X2.here hx rfl (hb hby d7_22) rfl ?_
      exact kz
    obtain ⟨_, _, ⟨T3, L3, k3, n3⟩, -, X3, ⟨Lc3, hQ3, l3, y3, z3⟩, st3⟩ := Jvm.LawKit.callS X2 hx (y := n_4) hown (mvT hZ (w_ hw 128 rfl)) (mvT hZ (w_ hw 129 rfl)) (mvT hZ (w_ hw 28 rfl)) (mvT hZ (w_ hw 130 rfl)) (by decide) (backOf (W := 0) (rtb_2 l Z a0 hw [] ca ka c0 c1 T2.heap n0 Za SA SH SL Oa Ca) hZ (w_ hw 130 rfl) (w_ hw 28 rfl) (by decide) (by decide)) (g := (mkF m 23 #[.val (.ref ca), .val (.int (0 : Int32)), .val (.int (2 : Int32)), .val (.ref b1), .val (.int j5), .unset] [(.int (2 : Int32)), (.int (0 : Int32)), (.ref ca)])) rfl (by rw [hml]; rfl) (argsL := [(.ref ca), (.int (0 : Int32)), (.int (2 : Int32))]) (rest := []) (lenOf pd_4 rfl) rfl (by show 2 * 0 + _ ≤ _; exact Nat.le_of_eq rfl) (hb hby d7_23) (fun _ _ => ⟨rfl, rfl, (by decide : 1 + 1 ≤ _), (by decide : 2 + 4 ≤ _)⟩)
    dsimp only [Pt.U, Pt.locs, Pt.cells, Pt.slots] at X3 l3 y3 z3 st3 hQ3
    subst l3 y3 z3
    obtain ⟨ub, uk, rfl, N3, K3, B3, gu⟩ := hQ3
    have Nf3 := Fr.app Nf2 N3
    refine Goes.via (st3) ?_
    have Kb := Ka.trans K3 all0
    have Ob := O0.keep Kb all0
    have Zb := Nat.le_trans Z0 Kb.1
    have gh : @LE.le Nat _ h0.size ub := Nat.le_trans Ka.1 gu
    refine Goes.via (S' := T3.setTop (mkF m 32 #[.val (.ref ca), .val (.int (0 : Int32)), .val (.int (2 : Int32)), .val (.ref b1), .val (.int j5), .val (.ref ub)] [(.int j5), (.ref ub)])) (fun tz kz => ?_) ?_
    · show Steps p.tables e below (T3.setTop (mkF m 26 #[.val (.ref ca), .val (.int (0 : Int32)), .val (.int (2 : Int32)), .val (.ref b1), .val (.int j5), .unset] [(.ref ub)])) _
      refine XS.astore X3.here hx rfl (hb hby d7_26) rfl rfl (l' := #[.val (.ref ca), .val (.int (0 : Int32)), .val (.int (2 : Int32)), .val (.ref b1), .val (.int j5), .val (.ref ub)]) rfl ?_
      refine XS.aload X3.here hx rfl (hb hby d7_28) rfl rfl ?_
      refine XS.iload X3.here hx rfl (hb hby d7_30) rfl ?_
      exact kz
    obtain ⟨_, _, ⟨T4, L4, k4, n4⟩, -, X4, ⟨Lc4, hQ4, l4, y4, z4⟩, st4⟩ := Jvm.LawKit.callS X3 hx (y := n_1) hown (mvT hZ (w_ hw 144 rfl)) (mvT hZ (w_ hw 145 rfl)) (mvT hZ (w_ hw 28 rfl)) (mvT hZ (w_ hw 146 rfl)) (by decide) (backOf (W := 0) (rgc l Z a0 hw [] ub j5 uk (4 : Int32) j0 j1 xx _ T3.heap n0 Zb SA SH SL Ob B3 hj0 hj1 q0 q1 g0 g1 zx) hZ (w_ hw 146 rfl) (w_ hw 28 rfl) (by decide) (by decide)) (g := (mkF m 32 #[.val (.ref ca), .val (.int (0 : Int32)), .val (.int (2 : Int32)), .val (.ref b1), .val (.int j5), .val (.ref ub)] [(.int j5), (.ref ub)])) rfl (by rw [hml]; rfl) (argsL := [(.ref ub), (.int j5)]) (rest := []) (lenOf pd_5 rfl) rfl (by show 2 * 0 + _ ≤ _; exact Nat.le_of_eq rfl) (hb hby d7_32) (fun _ _ => ⟨rfl, rfl, (by decide : 2 + 0 ≤ _), (by decide : 6 + 0 ≤ _)⟩)
    dsimp only [Pt.U, Pt.locs, Pt.cells, Pt.slots] at X4 l4 y4 z4 st4 hQ4
    subst l4 y4 z4
    obtain ⟨rfl, N4, e4⟩ := hQ4
    have Nf4 := Fr.app Nf3 N4
    refine Goes.via (st4) ?_
    refine Goes.via (S' := T4.setTop (mkF m 56 #[.val (.ref ca), .val (.int (0 : Int32)), .val (.int (2 : Int32)), .val (.ref b1), .val (.int j5), .val (.ref ub)] [(.ref ub)])) (fun tz kz => ?_) ?_
    · show Steps p.tables e below (T4.setTop (mkF m 35 #[.val (.ref ca), .val (.int (0 : Int32)), .val (.int (2 : Int32)), .val (.ref b1), .val (.int j5), .val (.ref ub)] [(.int xx)])) _
      refine XS.sipush X4.here hx rfl (hb hby d7_35) ?_
      refine XS.icmpYes X4.here hx rfl (pc0 := 38) (pc' := 54) rfl (hb hby d7_38) rfl (tlt gx).2.2.1 (by decide) (by decide) ?_
      refine XS.aload X4.here hx rfl (hb hby d7_54) rfl rfl ?_
      exact kz
    exact Goes.retO X4 hx Bd.notSynchronized Bd.returns rfl (Or.inr (Or.inr (Or.inr (Or.inr ⟨rfl, rfl, rfl⟩)))) (hb hby d7_56) (nb_ rfl) (nb_ rfl) (by rw [e4]; exact ⟨ub, uk, rfl, Nf4, Kb, gh, Or.inr B3⟩)
def Q_rcc_22 (Z : State) (bb : Addr) (k : ClassId) (vs : List Value) (h0 : Heap) (n0 : Nat) : Option Value → Heap → List Loc → Prop := fun v h L => v = some (.int 0) ∧ Fr n0 L ∧ h = h0
theorem rcc_22 (l : Launch) (Z : State) (a0 : Array Value) (hw : ∀ d ∈ tables_1, d.before a0 Z = true) (ws : List Jvm.Cond) (bb : Addr) (k : ClassId) (vs : List Value) (h0 : Heap) (n0 : Nat) (Z0 : n0 ≤ h0.size) (B0 : Arv Z h0 bb k .byte (2 : Int32) vs (.int 0)) :
    own_M l Z n_7 (Jvm.Cond.code n_7 jdk_52_method_15_code 2 (some .byte)) ws ({ frames := 0, cells := 0, slots := 0, locals := 0 } : Room) #[(.ref bb), (.int (2 : Int32))] h0 (Q_rcc_22 Z bb k vs h0 n0) := by
  refine MetFree.of_bodySF (plainFor_of_name pn_9) hisR ?_
  intro p e s m args below meth c s₁ Bd hml0 hP hK
  obtain ⟨rfl, hZ, hh⟩ := hP
  have hx := Bd.exec
  have hby := Bd.bytes
  have hml : c.maxLocals = 2 := hml0
  have hown : s.vm.findClass "java/lang/StringUTF16" = some m.cls := findClass_of_methodNamed Bd.named
  have hnm := (name_of_methodNamed Bd.named Bd.method).1
  have X0 : Stand p l e ({ frames := 0, cells := 0, slots := 0, locals := 0 } : Room) s m #[(.ref bb), (.int (2 : Int32))] below meth c s₁ [] 0 0 := Stand.of_body Bd
  have e0 : s₁.heap = h0 := by rw [← hh, Bd.state]; rfl
  have N0 := Fr.nil n0
  show Goes p e below (Fin s (Q_rcc_22 Z bb k vs h0 n0) ({ frames := 0, cells := 0, slots := 0, locals := 0 } : Room).cells ({ frames := 0, cells := 0, slots := 0, locals := 0 } : Room).slots) _
  refine Goes.via (S' := s₁.setTop (mkF m 0 #[.val (.ref bb), .val (.int (2 : Int32))] [])) (fun tz kz => castTop (ef_9 m bb (2 : Int32) ) kz) ?_
  refine Goes.via (S' := s₁.setTop (mkF m 2 #[.val (.ref bb), .val (.int (2 : Int32))] [(.ref bb), (.int (2 : Int32))])) (fun tz kz => ?_) ?_
  · show Steps p.tables e below (s₁.setTop (mkF m 0 #[.val (.ref bb), .val (.int (2 : Int32))] [])) _
    refine XS.iloadN X0.here hx rfl (hb hby d9_0) rfl ?_
    refine XS.aloadN X0.here hx rfl (hb hby d9_1) rfl rfl ?_
    exact kz
  obtain ⟨cl1, Ar1, q1, Sz1, Nn1, Hs1, G1⟩ := (id B0)
  refine Goes.via (S' := s₁.setTop (mkF m 8 #[.val (.ref bb), .val (.int (2 : Int32))] [(.int ((((0 : Int32).toUInt32 >>> ((31 : Int32) &&& 31).toUInt32).toInt32).toInt8.toInt32))])) (fun tz kz => ?_) ?_
  · show Steps p.tables e below (s₁.setTop (mkF m 2 #[.val (.ref bb), .val (.int (2 : Int32))] [(.ref bb), (.int (2 : Int32))])) _
    refine X0.arraylength hx (by rw [e0]; exact Ar1.1) (State.isArrayOf_alike hZ.alike Ar1.2.1) (g := (mkF m 2 #[.val (.ref bb), .val (.int (2 : Int32))] [(.ref bb), (.int (2 : Int32))])) rfl rfl (hb hby d9_2) _ ?_
    rw [len_of Sz1 Nn1]
    refine XS.isub X0.here hx rfl (hb hby d9_3) rfl ?_
    refine XS.bipush X0.here hx rfl (hb hby d9_4) ?_
    refine XS.iushr X0.here hx rfl (hb hby d9_6) rfl ?_
    refine XS.i2b X0.here hx rfl (hb hby d9_7) rfl ?_
    exact kz
  exact Goes.retN X0 hx Bd.notSynchronized (t := .byte) Bd.returns (by simp) (hb hby d9_8) (nb_ rfl) (nb_ rfl) ⟨congrArg (fun z => some (Value.int z)) (by decide), N0, e0⟩
def Q_rcc_24 (Z : State) (bb : Addr) (k : ClassId) (vs : List Value) (h0 : Heap) (n0 : Nat) : Option Value → Heap → List Loc → Prop := fun v h L => v = some (.int 1) ∧ Fr n0 L ∧ h = h0
theorem rcc_24 (l : Launch) (Z : State) (a0 : Array Value) (hw : ∀ d ∈ tables_1, d.before a0 Z = true) (ws : List Jvm.Cond) (bb : Addr) (k : ClassId) (vs : List Value) (h0 : Heap) (n0 : Nat) (Z0 : n0 ≤ h0.size) (B0 : Arv Z h0 bb k .byte (4 : Int32) vs (.int 0)) :
    own_M l Z n_7 (Jvm.Cond.code n_7 jdk_52_method_15_code 2 (some .byte)) ws ({ frames := 0, cells := 0, slots := 0, locals := 0 } : Room) #[(.ref bb), (.int (2 : Int32))] h0 (Q_rcc_24 Z bb k vs h0 n0) := by
  refine MetFree.of_bodySF (plainFor_of_name pn_9) hisR ?_
  intro p e s m args below meth c s₁ Bd hml0 hP hK
  obtain ⟨rfl, hZ, hh⟩ := hP
  have hx := Bd.exec
  have hby := Bd.bytes
  have hml : c.maxLocals = 2 := hml0
  have hown : s.vm.findClass "java/lang/StringUTF16" = some m.cls := findClass_of_methodNamed Bd.named
  have hnm := (name_of_methodNamed Bd.named Bd.method).1
  have X0 : Stand p l e ({ frames := 0, cells := 0, slots := 0, locals := 0 } : Room) s m #[(.ref bb), (.int (2 : Int32))] below meth c s₁ [] 0 0 := Stand.of_body Bd
  have e0 : s₁.heap = h0 := by rw [← hh, Bd.state]; rfl
  have N0 := Fr.nil n0
  show Goes p e below (Fin s (Q_rcc_24 Z bb k vs h0 n0) ({ frames := 0, cells := 0, slots := 0, locals := 0 } : Room).cells ({ frames := 0, cells := 0, slots := 0, locals := 0 } : Room).slots) _
  refine Goes.via (S' := s₁.setTop (mkF m 0 #[.val (.ref bb), .val (.int (2 : Int32))] [])) (fun tz kz => castTop (ef_9 m bb (2 : Int32) ) kz) ?_
  refine Goes.via (S' := s₁.setTop (mkF m 2 #[.val (.ref bb), .val (.int (2 : Int32))] [(.ref bb), (.int (2 : Int32))])) (fun tz kz => ?_) ?_
  · show Steps p.tables e below (s₁.setTop (mkF m 0 #[.val (.ref bb), .val (.int (2 : Int32))] [])) _
    refine XS.iloadN X0.here hx rfl (hb hby d9_0) rfl ?_
    refine XS.aloadN X0.here hx rfl (hb hby d9_1) rfl rfl ?_
    exact kz
  obtain ⟨cl1, Ar1, q1, Sz1, Nn1, Hs1, G1⟩ := (id B0)
  refine Goes.via (S' := s₁.setTop (mkF m 8 #[.val (.ref bb), .val (.int (2 : Int32))] [(.int ((((-2 : Int32).toUInt32 >>> ((31 : Int32) &&& 31).toUInt32).toInt32).toInt8.toInt32))])) (fun tz kz => ?_) ?_
  · show Steps p.tables e below (s₁.setTop (mkF m 2 #[.val (.ref bb), .val (.int (2 : Int32))] [(.ref bb), (.int (2 : Int32))])) _
    refine X0.arraylength hx (by rw [e0]; exact Ar1.1) (State.isArrayOf_alike hZ.alike Ar1.2.1) (g := (mkF m 2 #[.val (.ref bb), .val (.int (2 : Int32))] [(.ref bb), (.int (2 : Int32))])) rfl rfl (hb hby d9_2) _ ?_
    rw [len_of Sz1 Nn1]
    refine XS.isub X0.here hx rfl (hb hby d9_3) rfl ?_
    refine XS.bipush X0.here hx rfl (hb hby d9_4) ?_
    refine XS.iushr X0.here hx rfl (hb hby d9_6) rfl ?_
    refine XS.i2b X0.here hx rfl (hb hby d9_7) rfl ?_
    exact kz
  exact Goes.retN X0 hx Bd.notSynchronized (t := .byte) Bd.returns (by simp) (hb hby d9_8) (nb_ rfl) (nb_ rfl) ⟨congrArg (fun z => some (Value.int z)) (by decide), N0, e0⟩
def Q_rn4_2 (Z : State) (a1 : Addr) (ca : Addr) (cs : Int32) (ka : ClassId) (c0 c1 : Int32) (h0 : Heap) (n0 : Nat) : Option Value → Heap → List Loc → Prop := fun v h L => v = none ∧ Fr n0 L ∧ Keep h0 h [a1] ∧ ∃ b k, (((¬ (255 : Int32) < c0 ∧ ¬ (255 : Int32) < c1) ∧ own_Str Z h a1 b k (2 : Int32) [.int (own_by c0), .int (own_by c1)]) ∨ own_StU Z h a1 b k (4 : Int32) [.int (own_lo c0), .int (own_hi c0), .int (own_lo c1), .int (own_hi c1)])
theorem rn4_2 (l : Launch) (Z : State) (a0 : Array Value) (hw : ∀ d ∈ tables_1, d.before a0 Z = true) (ws : List Jvm.Cond) (a1 : Addr) (ca : Addr) (cs : Int32) (ka : ClassId) (c0 c1 : Int32) (h0 : Heap) (n0 : Nat) (Z0 : n0 ≤ h0.size) (SC : Sta Z Z.heap "java/lang/String" "COMPACT_STRINGS" "Z" (.int cs)) (hcs : ¬ cs = (0 : Int32)) (O0 : Old Z n0 h0) (SA : Sta Z Z.heap "java/lang/StringUTF16" "$assertionsDisabled" "Z" (.int (1 : Int32))) (SH : Sta Z Z.heap "java/lang/StringUTF16" "HI_BYTE_SHIFT" "I" (.int (0 : Int32))) (SL : Sta Z Z.heap "java/lang/StringUTF16" "LO_BYTE_SHIFT" "I" (.int (8 : Int32))) (FV : Fld Z h0 a1 "java/lang/String" "value" "[B" .null) (FC : Fld Z h0 a1 "java/lang/String" "coder" "B" (.int (0 : Int32))) (E1 : Exa Z h0 a1 "java/lang/String") (g1 : n0 ≤ a1) (C0 : Arv Z h0 ca ka .char (2 : Int32) [.int c0, .int c1] (.int 0)) (z0 : nar .char c0 = c0) (z1 : nar .char c1 = c1) :
    own_M l Z n_8 (Jvm.Cond.code n_8 jdk_42_method_149_code 6 none) ws ({ frames := 4, cells := 2, slots := 6, locals := 84 } : Room) #[(.ref a1), (.ref ca), (.int (0 : Int32)), (.int (2 : Int32)), .null] h0 (Q_rn4_2 Z a1 ca cs ka c0 c1 h0 n0) := by
  refine MetFree.of_bodySF (plainFor_of_name pn_5) hisR ?_
  intro p e s m args below meth c s₁ Bd hml0 hP hK
  obtain ⟨rfl, hZ, hh⟩ := hP
  have hx := Bd.exec
  have hby := Bd.bytes
  have hml : c.maxLocals = 6 := hml0
  have hown : s.vm.findClass "java/lang/String" = some m.cls := findClass_of_methodNamed Bd.named
  have hnm := (name_of_methodNamed Bd.named Bd.method).1
  have X0 : Stand p l e ({ frames := 4, cells := 2, slots := 6, locals := 84 } : Room) s m #[(.ref a1), (.ref ca), (.int (0 : Int32)), (.int (2 : Int32)), .null] below meth c s₁ [] 0 0 := Stand.of_body Bd
  have e0 : s₁.heap = h0 := by rw [← hh, Bd.state]; rfl
  have N0 := Fr.nil n0
  show Goes p e below (Fin s (Q_rn4_2 Z a1 ca cs ka c0 c1 h0 n0) ({ frames := 4, cells := 2, slots := 6, locals := 84 } : Room).cells ({ frames := 4, cells := 2, slots := 6, locals := 84 } : Room).slots) _
  refine Goes.via (S' := s₁.setTop (mkF m 0 #[.val (.ref a1), .val (.ref ca), .val (.int (0 : Int32)), .val (.int (2 : Int32)), .val .null, .unset] [])) (fun tz kz => castTop (ef_5 m a1 ca (0 : Int32) (2 : Int32) ) kz) ?_
  refine Goes.via (S' := s₁.setTop (mkF m 1 #[.val (.ref a1), .val (.ref ca), .val (.int (0 : Int32)), .val (.int (2 : Int32)), .val .null, .unset] [(.ref a1)])) (fun tz kz => ?_) ?_
  · show Steps p.tables e below (s₁.setTop (mkF m 0 #[.val (.ref a1), .val (.ref ca), .val (.int (0 : Int32)), .val (.int (2 : Int32)), .val .null, .unset] [])) _
    refine XS.aloadN X0.here hx rfl (hb hby d5_0) rfl rfl ?_
    exact kz
  obtain ⟨T1, X1, e1, st1⟩ := initO X0 hx hZ hown (w_ hw 22 rfl) (w_ hw 23 rfl) (w_ hw 24 rfl) e0 (g := (mkF m 1 #[.val (.ref a1), .val (.ref ca), .val (.int (0 : Int32)), .val (.int (2 : Int32)), .val .null, .unset] [(.ref a1)])) rfl (by rw [hml]; rfl) rfl (hb hby d5_1) (by decide) (W := 0) (by show 2 * 0 + _ ≤ _; exact Nat.le_of_eq rfl) (by decide)
  refine Goes.via st1 ?_
  refine Goes.via (S' := T1.setTop (mkF m 27 #[.val (.ref a1), .val (.ref ca), .val (.int (0 : Int32)), .val (.int (2 : Int32)), .val .null, .unset] [])) (fun tz kz => ?_) ?_
  · show Steps p.tables e below (T1.setTop (mkF m 4 #[.val (.ref a1), .val (.ref ca), .val (.int (0 : Int32)), .val (.int (2 : Int32)), .val .null, .unset] [])) _
    refine XS.iloadN X1.here hx rfl (hb hby d5_4) rfl ?_
    refine XS.ifYes X1.here hx rfl (pc0 := 5) (pc' := 27) rfl (hb hby d5_5) rfl ((if0 _ _).trans (feq (by first | decide | rfl)).2) (by decide) (by decide) ?_
    exact kz
  obtain ⟨T2, X2, e2, st2⟩ := getS2 X1 hx hZ hown (host := "") (Or.inl (w_ hw 25 rfl)) Via.refl e1 (SC.ext O0.2) (g := (mkF m 27 #[.val (.ref a1), .val (.ref ca), .val (.int (0 : Int32)), .val (.int (2 : Int32)), .val .null, .unset] [])) rfl (hb hby d5_27)
  refine Goes.via st2 ?_
  refine Goes.via (S' := T2.setTop (mkF m 36 #[.val (.ref a1), .val (.ref ca), .val (.int (0 : Int32)), .val (.int (2 : Int32)), .val .null, .unset] [(.int (2 : Int32)), (.int (0 : Int32)), (.ref ca)])) (fun tz kz => ?_) ?_
  · show Steps p.tables e below (T2.setTop (mkF m 30 #[.val (.ref a1), .val (.ref ca), .val (.int (0 : Int32)), .val (.int (2 : Int32)), .val .null, .unset] [(.int cs)])) _
    refine XS.ifNo X2.here hx rfl (hb hby d5_30) rfl ((if0 _ _).trans (feq hcs).1) ?_
    refine XS.aloadN X2.here hx rfl (hb hby d5_33) rfl rfl ?_
    refine XS.iloadN X2.here hx rfl (hb hby d5_34) rfl ?_
    refine XS.iloadN X2.here hx rfl (hb hby d5_35) rfl ?_
    exact kz
  obtain ⟨_, _, ⟨T3, L3, k3, n3⟩, -, X3, ⟨Lc3, hQ3, l3, y3, z3⟩, st3⟩ := Jvm.LawKit.callS X2 hx (y := n_6) hown (mvT hZ (w_ hw 26 rfl)) (mvT hZ (w_ hw 27 rfl)) (mvT hZ (w_ hw 28 rfl)) (mvT hZ (w_ hw 29 rfl)) (by decide) (backOf (W := 0) (rc3_2 l Z a0 hw [] ca ka c0 c1 h0 n0 Z0 SA SH SL O0 C0 z0 z1) hZ (w_ hw 29 rfl) (w_ hw 28 rfl) (by decide) (by decide)) (g := (mkF m 36 #[.val (.ref a1), .val (.ref ca), .val (.int (0 : Int32)), .val (.int (2 : Int32)), .val .null, .unset] [(.int (2 : Int32)), (.int (0 : Int32)), (.ref ca)])) rfl (by rw [hml]; rfl) (argsL := [(.ref ca), (.int (0 : Int32)), (.int (2 : Int32))]) (rest := []) (lenOf pd_4 rfl) rfl (by show 2 * 0 + _ ≤ _; exact Nat.le_of_eq rfl) (hb hby d5_36) (fun _ _ => ⟨rfl, e2, (by decide : 0 + 2 ≤ _), (by decide : 0 + 6 ≤ _)⟩)
  dsimp only [Pt.U, Pt.locs, Pt.cells, Pt.slots] at X3 l3 y3 z3 st3 hQ3
  subst l3 y3 z3
  obtain ⟨vb, kb, rfl, N3, K3, gv, Dk⟩ := hQ3
  have Nf3 := Fr.app N0 N3
  refine Goes.via (st3) ?_
  rcases Dk with ⟨⟨s0, s1⟩, Bv⟩ | Bv
  · skip
    refine Goes.via (S' := T3.setTop (mkF m 45 #[.val (.ref a1), .val (.ref ca), .val (.int (0 : Int32)), .val (.int (2 : Int32)), .val .null, .val (.ref vb)] [(.int (2 : Int32)), (.ref vb), (.ref a1)])) (fun tz kz => ?_) ?_
    · show Steps p.tables e below (T3.setTop (mkF m 39 #[.val (.ref a1), .val (.ref ca), .val (.int (0 : Int32)), .val (.int (2 : Int32)), .val .null, .unset] [(.ref vb)])) _
      refine XS.astore X3.here hx rfl (hb hby d5_39) rfl rfl (l' := #[.val (.ref a1), .val (.ref ca), .val (.int (0 : Int32)), .val (.int (2 : Int32)), .val .null, .val (.ref vb)]) rfl ?_
      refine XS.aloadN X3.here hx rfl (hb hby d5_41) rfl rfl ?_
      refine XS.aload X3.here hx rfl (hb hby d5_42) rfl rfl ?_
      refine XS.iloadN X3.here hx rfl (hb hby d5_44) rfl ?_
      exact kz
    obtain ⟨_, _, ⟨T4, L4, k4, n4⟩, -, X4, ⟨Lc4, hQ4, l4, y4, z4⟩, st4⟩ := Jvm.LawKit.callS X3 hx (y := n_7) hown (mvT hZ (w_ hw 34 rfl)) (mvT hZ (w_ hw 35 rfl)) (mvT hZ (w_ hw 28 rfl)) (mvT hZ (w_ hw 36 rfl)) (by decide) (backOf (W := 1) (rcc_22 l Z a0 hw [] vb kb _ T3.heap n0 (Nat.le_trans Z0 K3.1) Bv) hZ (w_ hw 36 rfl) (w_ hw 28 rfl) (by decide) (by decide)) (g := (mkF m 45 #[.val (.ref a1), .val (.ref ca), .val (.int (0 : Int32)), .val (.int (2 : Int32)), .val .null, .val (.ref vb)] [(.int (2 : Int32)), (.ref vb), (.ref a1)])) rfl (by rw [hml]; rfl) (argsL := [(.ref vb), (.int (2 : Int32))]) (rest := [(.ref a1)]) (lenOf pd_6 rfl) rfl (by show 2 * 0 + _ ≤ _; exact Nat.le_of_eq rfl) (hb hby d5_45) (fun _ _ => ⟨rfl, rfl, (by decide : 2 + 0 ≤ _), (by decide : 6 + 0 ≤ _)⟩)
    dsimp only [Pt.U, Pt.locs, Pt.cells, Pt.slots] at X4 l4 y4 z4 st4 hQ4
    subst l4 y4 z4
    obtain ⟨rfl, N4, e4⟩ := hQ4
    have Nf4 := Fr.app Nf3 N4
    refine Goes.via (st4) ?_
    have Ea := E1.keep K3
    have GV := FV.keep K3 nin0
    have GC := FC.keep K3 nin0
    have nb : a1 ≠ vb := Nat.ne_of_lt (Nat.lt_of_lt_of_le E1.lt gv)
    obtain ⟨T5, h5, X5, e5, W5, st5⟩ := putFN X4 hx hZ hown (w_ hw 37 rfl) Via.refl e4 GC Ea (Or.inr ⟨(w_ hw 38 rfl), rfl, hnm⟩) (w_ hw 12 rfl) (ty := .byte) (v' := (.int (nar .byte (0 : Int32)))) (by decide) rfl (fits_nar_byte _) (g := (mkF m 48 #[.val (.ref a1), .val (.ref ca), .val (.int (0 : Int32)), .val (.int (2 : Int32)), .val .null, .val (.ref vb)] [(.int (0 : Int32)), (.ref a1)])) rfl rfl (hb hby d5_48)
    refine Goes.via st5 ?_
    have N5 := Fr.snoc X5 Nf4 g1
    have HC : Fld Z h5 a1 "java/lang/String" "coder" "B" (.int (0 : Int32)) := GC.same W5
    have HV := GV.other W5 (Or.inr (slot_ne (Or.inr (w_ hw 40 rfl)) (Or.inr (w_ hw 38 rfl)) (by decide) (t := (.array .byte)) (t' := .byte) (by decide) (by decide)))
    have Eb := Ea.wr W5
    have Bb := Bv.other W5 (Ne.symm nb)
    refine Goes.via (S' := T5.setTop (mkF m 54 #[.val (.ref a1), .val (.ref ca), .val (.int (0 : Int32)), .val (.int (2 : Int32)), .val .null, .val (.ref vb)] [(.ref vb), (.ref a1)])) (fun tz kz => ?_) ?_
    · show Steps p.tables e below (T5.setTop (mkF m 51 #[.val (.ref a1), .val (.ref ca), .val (.int (0 : Int32)), .val (.int (2 : Int32)), .val .null, .val (.ref vb)] [])) _
      refine XS.aloadN X5.here hx rfl (hb hby d5_51) rfl rfl ?_
      refine XS.aload X5.here hx rfl (hb hby d5_52) rfl rfl ?_
      exact kz
    obtain ⟨T6, h6, X6, e6, W6, st6⟩ := putF X5 hx hZ hown (host := "") (Or.inl (w_ hw 39 rfl)) Via.refl e5 HV Eb (Or.inr ⟨(w_ hw 40 rfl), rfl, hnm⟩) (w_ hw 12 rfl) (ty := (.array .byte)) (by decide) rfl rfl (g := (mkF m 54 #[.val (.ref a1), .val (.ref ca), .val (.int (0 : Int32)), .val (.int (2 : Int32)), .val .null, .val (.ref vb)] [(.ref vb), (.ref a1)])) rfl rfl (hb hby d5_54)
    refine Goes.via st6 ?_
    have N6 := Fr.snoc X6 N5 g1
    have JV := HV.same W6
    have JC := HC.other W6 (Or.inr (slot_ne (Or.inr (w_ hw 38 rfl)) (Or.inr (w_ hw 40 rfl)) (by decide) (t := .byte) (t' := (.array .byte)) (by decide) (by decide)))
    have Ec := Eb.wr W6
    have Bc := Bb.other W6 (Ne.symm nb)
    have Kq : Keep h0 h6 [a1] := (((Keep.refl h0 [a1]).trans K3 all0).wr W5 (Or.inl (List.mem_singleton.mpr rfl))).wr W6 (Or.inl (List.mem_singleton.mpr rfl))
    exact Goes.retV X6 hx Bd.notSynchronized Bd.returns (hb hby d5_57) (nb_ rfl) (nb_ rfl) (by rw [e6]; exact ⟨rfl, N6, Kq, vb, kb, Or.inl ⟨⟨s0, s1⟩, Ec, JC, JV, Bc⟩⟩)
  · skip
    refine Goes.via (S' := T3.setTop (mkF m 45 #[.val (.ref a1), .val (.ref ca), .val (.int (0 : Int32)), .val (.int (2 : Int32)), .val .null, .val (.ref vb)] [(.int (2 : Int32)), (.ref vb), (.ref a1)])) (fun tz kz => ?_) ?_
    · show Steps p.tables e below (T3.setTop (mkF m 39 #[.val (.ref a1), .val (.ref ca), .val (.int (0 : Int32)), .val (.int (2 : Int32)), .val .null, .unset] [(.ref vb)])) _
      refine XS.astore X3.here hx rfl (hb hby d5_39) rfl rfl (l' := #[.val (.ref a1), .val (.ref ca), .val (.int (0 : Int32)), .val (.int (2 : Int32)), .val .null, .val (.ref vb)]) rfl ?_
      refine XS.aloadN X3.here hx rfl (hb hby d5_41) rfl rfl ?_
      refine XS.aload X3.here hx rfl (hb hby d5_42) rfl rfl ?_
      refine XS.iloadN X3.here hx rfl (hb hby d5_44) rfl ?_
      exact kz
    obtain ⟨_, _, ⟨T7, L7, k7, n7⟩, -, X7, ⟨Lc7, hQ7, l7, y7, z7⟩, st7⟩ := Jvm.LawKit.callS X3 hx (y := n_7) hown (mvT hZ (w_ hw 34 rfl)) (mvT hZ (w_ hw 35 rfl)) (mvT hZ (w_ hw 28 rfl)) (mvT hZ (w_ hw 36 rfl)) (by decide) (backOf (W := 1) (rcc_24 l Z a0 hw [] vb kb _ T3.heap n0 (Nat.le_trans Z0 K3.1) Bv) hZ (w_ hw 36 rfl) (w_ hw 28 rfl) (by decide) (by decide)) (g := (mkF m 45 #[.val (.ref a1), .val (.ref ca), .val (.int (0 : Int32)), .val (.int (2 : Int32)), .val .null, .val (.ref vb)] [(.int (2 : Int32)), (.ref vb), (.ref a1)])) rfl (by rw [hml]; rfl) (argsL := [(.ref vb), (.int (2 : Int32))]) (rest := [(.ref a1)]) (lenOf pd_6 rfl) rfl (by show 2 * 0 + _ ≤ _; exact Nat.le_of_eq rfl) (hb hby d5_45) (fun _ _ => ⟨rfl, rfl, (by decide : 2 + 0 ≤ _), (by decide : 6 + 0 ≤ _)⟩)
    dsimp only [Pt.U, Pt.locs, Pt.cells, Pt.slots] at X7 l7 y7 z7 st7 hQ7
    subst l7 y7 z7
    obtain ⟨rfl, N7, e7⟩ := hQ7
    have Nf7 := Fr.app Nf3 N7
    refine Goes.via (st7) ?_
    have Ea := E1.keep K3
    have GV := FV.keep K3 nin0
    have GC := FC.keep K3 nin0
    have nb : a1 ≠ vb := Nat.ne_of_lt (Nat.lt_of_lt_of_le E1.lt gv)
    obtain ⟨T8, h8, X8, e8, W8, st8⟩ := putFN X7 hx hZ hown (w_ hw 37 rfl) Via.refl e7 GC Ea (Or.inr ⟨(w_ hw 38 rfl), rfl, hnm⟩) (w_ hw 12 rfl) (ty := .byte) (v' := (.int (nar .byte (1 : Int32)))) (by decide) rfl (fits_nar_byte _) (g := (mkF m 48 #[.val (.ref a1), .val (.ref ca), .val (.int (0 : Int32)), .val (.int (2 : Int32)), .val .null, .val (.ref vb)] [(.int (1 : Int32)), (.ref a1)])) rfl rfl (hb hby d5_48)
    refine Goes.via st8 ?_
    have N8 := Fr.snoc X8 Nf7 g1
    have HC : Fld Z h8 a1 "java/lang/String" "coder" "B" (.int (1 : Int32)) := GC.same W8
    have HV := GV.other W8 (Or.inr (slot_ne (Or.inr (w_ hw 40 rfl)) (Or.inr (w_ hw 38 rfl)) (by decide) (t := (.array .byte)) (t' := .byte) (by decide) (by decide)))
    have Eb := Ea.wr W8
    have Bb := Bv.other W8 (Ne.symm nb)
    refine Goes.via (S' := T8.setTop (mkF m 54 #[.val (.ref a1), .val (.ref ca), .val (.int (0 : Int32)), .val (.int (2 : Int32)), .val .null, .val (.ref vb)] [(.ref vb), (.ref a1)])) (fun tz kz => ?_) ?_
    · show Steps p.tables e below (T8.setTop (mkF m 51 #[.val (.ref a1), .val (.ref ca), .val (.int (0 : Int32)), .val (.int (2 : Int32)), .val .null, .val (.ref vb)] [])) _
      refine XS.aloadN X8.here hx rfl (hb hby d5_51) rfl rfl ?_
      refine XS.aload X8.here hx rfl (hb hby d5_52) rfl rfl ?_
      exact kz
    obtain ⟨T9, h9, X9, e9, W9, st9⟩ := putF X8 hx hZ hown (host := "") (Or.inl (w_ hw 39 rfl)) Via.refl e8 HV Eb (Or.inr ⟨(w_ hw 40 rfl), rfl, hnm⟩) (w_ hw 12 rfl) (ty := (.array .byte)) (by decide) rfl rfl (g := (mkF m 54 #[.val (.ref a1), .val (.ref ca), .val (.int (0 : Int32)), .val (.int (2 : Int32)), .val .null, .val (.ref vb)] [(.ref vb), (.ref a1)])) rfl rfl (hb hby d5_54)
    refine Goes.via st9 ?_
    have N9 := Fr.snoc X9 N8 g1
    have JV := HV.same W9
    have JC := HC.other W9 (Or.inr (slot_ne (Or.inr (w_ hw 38 rfl)) (Or.inr (w_ hw 40 rfl)) (by decide) (t := .byte) (t' := (.array .byte)) (by decide) (by decide)))
    have Ec := Eb.wr W9
    have Bc := Bb.other W9 (Ne.symm nb)
    have Kq : Keep h0 h9 [a1] := (((Keep.refl h0 [a1]).trans K3 all0).wr W8 (Or.inl (List.mem_singleton.mpr rfl))).wr W9 (Or.inl (List.mem_singleton.mpr rfl))
    exact Goes.retV X9 hx Bd.notSynchronized Bd.returns (hb hby d5_57) (nb_ rfl) (nb_ rfl) (by rw [e9]; exact ⟨rfl, N9, Kq, vb, kb, Or.inr ⟨Ec, JC, JV, Bc⟩⟩)
def Q_rn1_2 (Z : State) (a1 : Addr) (ca : Addr) (cs : Int32) (ka : ClassId) (c0 c1 : Int32) (h0 : Heap) (n0 : Nat) : Option Value → Heap → List Loc → Prop := fun v h L => v = none ∧ Fr n0 L ∧ Keep h0 h [a1] ∧ ∃ b k, (((¬ (255 : Int32) < c0 ∧ ¬ (255 : Int32) < c1) ∧ own_Str Z h a1 b k (2 : Int32) [.int (own_by c0), .int (own_by c1)]) ∨ own_StU Z h a1 b k (4 : Int32) [.int (own_lo c0), .int (own_hi c0), .int (own_lo c1), .int (own_hi c1)])
theorem rn1_2 (l : Launch) (Z : State) (a0 : Array Value) (hw : ∀ d ∈ tables_1, d.before a0 Z = true) (ws : List Jvm.Cond) (a1 : Addr) (ca : Addr) (cs : Int32) (ka : ClassId) (c0 c1 : Int32) (h0 : Heap) (n0 : Nat) (Z0 : n0 ≤ h0.size) (SC : Sta Z Z.heap "java/lang/String" "COMPACT_STRINGS" "Z" (.int cs)) (hcs : ¬ cs = (0 : Int32)) (O0 : Old Z n0 h0) (SA : Sta Z Z.heap "java/lang/StringUTF16" "$assertionsDisabled" "Z" (.int (1 : Int32))) (SH : Sta Z Z.heap "java/lang/StringUTF16" "HI_BYTE_SHIFT" "I" (.int (0 : Int32))) (SL : Sta Z Z.heap "java/lang/StringUTF16" "LO_BYTE_SHIFT" "I" (.int (8 : Int32))) (FV : Fld Z h0 a1 "java/lang/String" "value" "[B" .null) (FC : Fld Z h0 a1 "java/lang/String" "coder" "B" (.int (0 : Int32))) (E1 : Exa Z h0 a1 "java/lang/String") (g1 : n0 ≤ a1) (C0 : Arv Z h0 ca ka .char (2 : Int32) [.int c0, .int c1] (.int 0)) (z0 : nar .char c0 = c0) (z1 : nar .char c1 = c1) :
    own_M l Z n_9 (Jvm.Cond.code n_9 jdk_42_method_3_code 2 none) ws ({ frames := 5, cells := 2, slots := 6, locals := 106 } : Room) #[(.ref a1), (.ref ca)] h0 (Q_rn1_2 Z a1 ca cs ka c0 c1 h0 n0) := by
  refine MetFree.of_bodySF (plainFor_of_name pn_4) hisR ?_
  intro p e s m args below meth c s₁ Bd hml0 hP hK
  obtain ⟨rfl, hZ, hh⟩ := hP
  have hx := Bd.exec
  have hby := Bd.bytes
  have hml : c.maxLocals = 2 := hml0
  have hown : s.vm.findClass "java/lang/String" = some m.cls := findClass_of_methodNamed Bd.named
  have hnm := (name_of_methodNamed Bd.named Bd.method).1
  have X0 : Stand p l e ({ frames := 5, cells := 2, slots := 6, locals := 106 } : Room) s m #[(.ref a1), (.ref ca)] below meth c s₁ [] 0 0 := Stand.of_body Bd
  have e0 : s₁.heap = h0 := by rw [← hh, Bd.state]; rfl
  have N0 := Fr.nil n0
  show Goes p e below (Fin s (Q_rn1_2 Z a1 ca cs ka c0 c1 h0 n0) ({ frames := 5, cells := 2, slots := 6, locals := 106 } : Room).cells ({ frames := 5, cells := 2, slots := 6, locals := 106 } : Room).slots) _
  refine Goes.via (S' := s₁.setTop (mkF m 0 #[.val (.ref a1), .val (.ref ca)] [])) (fun tz kz => castTop (ef_4 m a1 ca ) kz) ?_
  refine Goes.via (S' := s₁.setTop (mkF m 4 #[.val (.ref a1), .val (.ref ca)] [(.ref ca), (.int (0 : Int32)), (.ref ca), (.ref a1)])) (fun tz kz => ?_) ?_
  · show Steps p.tables e below (s₁.setTop (mkF m 0 #[.val (.ref a1), .val (.ref ca)] [])) _
    refine XS.aloadN X0.here hx rfl (hb hby d4_0) rfl rfl ?_
    refine XS.aloadN X0.here hx rfl (hb hby d4_1) rfl rfl ?_
    refine XS.iconst X0.here hx rfl (hb hby d4_2) ?_
    refine XS.aloadN X0.here hx rfl (hb hby d4_3) rfl rfl ?_
    exact kz
  obtain ⟨cl1, Ar1, q1, Sz1, Nn1, Hs1, G1⟩ := (id C0)
  refine Goes.via (S' := s₁.setTop (mkF m 6 #[.val (.ref a1), .val (.ref ca)] [.null, (.int (2 : Int32)), (.int (0 : Int32)), (.ref ca), (.ref a1)])) (fun tz kz => ?_) ?_
  · show Steps p.tables e below (s₁.setTop (mkF m 4 #[.val (.ref a1), .val (.ref ca)] [(.ref ca), (.int (0 : Int32)), (.ref ca), (.ref a1)])) _
    refine X0.arraylength hx (by rw [e0]; exact Ar1.1) (State.isArrayOf_alike hZ.alike Ar1.2.1) (g := (mkF m 4 #[.val (.ref a1), .val (.ref ca)] [(.ref ca), (.int (0 : Int32)), (.ref ca), (.ref a1)])) rfl rfl (hb hby d4_4) _ ?_
    rw [len_of Sz1 Nn1]
    refine XS.aconstNull X0.here hx rfl (hb hby d4_5) ?_
    exact kz
  obtain ⟨_, _, ⟨T2, L2, k2, n2⟩, -, X2, ⟨Lc2, hQ2, l2, y2, z2⟩, st2⟩ := X0.specialBack hx (y := n_8) rfl hown (mvT hZ (w_ hw 18 rfl)) (mvT hZ (w_ hw 19 rfl)) (mvT hZ (w_ hw 21 rfl)) (by decide) (backOf (W := 0) (rn4_2 l Z a0 hw [] a1 ca cs ka c0 c1 h0 n0 Z0 SC hcs O0 SA SH SL FV FC E1 g1 C0 z0 z1) hZ (w_ hw 21 rfl) (w_ hw 13 rfl) (by decide) (by decide)) (g := (mkF m 6 #[.val (.ref a1), .val (.ref ca)] [.null, (.int (2 : Int32)), (.int (0 : Int32)), (.ref ca), (.ref a1)])) rfl (by rw [hml]; rfl) (Steps.refl _) (a := a1) (argsL := [(.ref ca), (.int (0 : Int32)), (.int (2 : Int32)), .null]) (rest := []) (lenOf pd_7 rfl) rfl (by show 2 * 0 + _ ≤ _; exact Nat.le_of_eq rfl) (hb hby d4_6) (fun _ _ => ⟨rfl, e0, (by decide : 0 + 2 ≤ _), (by decide : 0 + 6 ≤ _)⟩)
  dsimp only [Pt.U, Pt.locs, Pt.cells, Pt.slots] at X2 l2 y2 z2 st2 hQ2
  subst l2 y2 z2
  obtain ⟨rfl, N2, K2, vb, kb, S2⟩ := hQ2
  have Nf2 := Fr.app N0 N2
  refine Goes.via (fun _ kz => st2.trans kz) ?_
  exact Goes.retV X2 hx Bd.notSynchronized Bd.returns (hb hby d4_9) (nb_ rfl) (nb_ rfl) ⟨rfl, Nf2, K2, vb, kb, S2⟩
def Q_rnbl_3 (Z : State)   (h0 : Heap) (n0 : Nat) : Option Value → Heap → List Loc → Prop := fun v h L => v = some (.int (6 : Int32)) ∧ Fr n0 L ∧ h = h0
theorem rnbl_3 (l : Launch) (Z : State) (a0 : Array Value) (hw : ∀ d ∈ tables_1, d.before a0 Z = true) (ws : List Jvm.Cond)   (h0 : Heap) (n0 : Nat) (Z0 : n0 ≤ h0.size) :
    own_M l Z n_2 (Jvm.Cond.code n_2 jdk_52_method_3_code 1 (some .int)) ws ({ frames := 0, cells := 0, slots := 0, locals := 0 } : Room) #[(.int (3 : Int32))] h0 (Q_rnbl_3 Z  h0 n0) := by
  refine MetFree.of_bodySF (plainFor_of_name pn_32) hisR ?_
  intro p e s m args below meth c s₁ Bd hml0 hP hK
  obtain ⟨rfl, hZ, hh⟩ := hP
  have hx := Bd.exec
  have hby := Bd.bytes
  have hml : c.maxLocals = 1 := hml0
  have hown : s.vm.findClass "java/lang/StringUTF16" = some m.cls := findClass_of_methodNamed Bd.named
  have hnm := (name_of_methodNamed Bd.named Bd.method).1
  have X0 : Stand p l e ({ frames := 0, cells := 0, slots := 0, locals := 0 } : Room) s m #[(.int (3 : Int32))] below meth c s₁ [] 0 0 := Stand.of_body Bd
  have e0 : s₁.heap = h0 := by rw [← hh, Bd.state]; rfl
  have N0 := Fr.nil n0
  show Goes p e below (Fin s (Q_rnbl_3 Z  h0 n0) ({ frames := 0, cells := 0, slots := 0, locals := 0 } : Room).cells ({ frames := 0, cells := 0, slots := 0, locals := 0 } : Room).slots) _
  refine Goes.via (S' := s₁.setTop (mkF m 0 #[.val (.int (3 : Int32))] [])) (fun tz kz => castTop (ef_32 m (3 : Int32) ) kz) ?_
  refine Goes.via (S' := s₁.setTop (mkF m 58 #[.val (.int (3 : Int32))] [(.int (6 : Int32))])) (fun tz kz => ?_) ?_
  · show Steps p.tables e below (s₁.setTop (mkF m 0 #[.val (.int (3 : Int32))] [])) _
    refine XS.iloadN X0.here hx rfl (hb hby d32_0) rfl ?_
    refine XS.ifYes X0.here hx rfl (pc0 := 1) (pc' := 12) rfl (hb hby d32_1) rfl ((if0 _ _).trans (flt (by first | decide | rfl)).2.1) (by decide) (by decide) ?_
    refine XS.iloadN X0.here hx rfl (hb hby d32_12) rfl ?_
    refine X0.ldcInt hx hown (mvT hZ (w_ hw 137 rfl)) (g := (mkF m 13 #[.val (.int (3 : Int32))] [(.int (3 : Int32))])) rfl (hb hby d32_13) _ ?_
    refine XS.icmpYes X0.here hx rfl (pc0 := 15) (pc' := 55) rfl (hb hby d32_15) rfl (tlt (by first | decide | rfl)).1 (by decide) (by decide) ?_
    refine XS.iloadN X0.here hx rfl (hb hby d32_55) rfl ?_
    refine XS.iconst X0.here hx rfl (hb hby d32_56) ?_
    refine XS.ishl X0.here hx rfl (hb hby d32_57) rfl ?_
    exact kz
  exact Goes.retI X0 hx Bd.notSynchronized Bd.returns (hb hby d32_58) (nb_ rfl) (nb_ rfl) ⟨rfl, N0, e0⟩
def Q_rnbf_3 (Z : State)   (h0 : Heap) (n0 : Nat) : Option Value → Heap → List Loc → Prop := fun v h L => ∃ b k, v = some (.ref b) ∧ Fr n0 L ∧ Keep h0 h [] ∧ Arv Z h b k .byte (6 : Int32) [.int 0, .int 0, .int 0, .int 0, .int 0, .int 0] (.int 0) ∧ @LE.le Nat _ h0.size b
theorem rnbf_3 (l : Launch) (Z : State) (a0 : Array Value) (hw : ∀ d ∈ tables_1, d.before a0 Z = true) (ws : List Jvm.Cond)   (h0 : Heap) (n0 : Nat) (Z0 : n0 ≤ h0.size) :
    own_M l Z n_3 (Jvm.Cond.code n_3 jdk_52_method_2_code 1 (some (.array .byte))) ws ({ frames := 1, cells := 1, slots := 6, locals := 16 } : Room) #[(.int (3 : Int32))] h0 (Q_rnbf_3 Z  h0 n0) := by
  refine MetFree.of_bodySF (plainFor_of_name pn_31) hisR ?_
  intro p e s m args below meth c s₁ Bd hml0 hP hK
  obtain ⟨rfl, hZ, hh⟩ := hP
  have hx := Bd.exec
  have hby := Bd.bytes
  have hml : c.maxLocals = 1 := hml0
  have hown : s.vm.findClass "java/lang/StringUTF16" = some m.cls := findClass_of_methodNamed Bd.named
  have hnm := (name_of_methodNamed Bd.named Bd.method).1
  have X0 : Stand p l e ({ frames := 1, cells := 1, slots := 6, locals := 16 } : Room) s m #[(.int (3 : Int32))] below meth c s₁ [] 0 0 := Stand.of_body Bd
  have e0 : s₁.heap = h0 := by rw [← hh, Bd.state]; rfl
  have N0 := Fr.nil n0
  show Goes p e below (Fin s (Q_rnbf_3 Z  h0 n0) ({ frames := 1, cells := 1, slots := 6, locals := 16 } : Room).cells ({ frames := 1, cells := 1, slots := 6, locals := 16 } : Room).slots) _
  refine Goes.via (S' := s₁.setTop (mkF m 0 #[.val (.int (3 : Int32))] [])) (fun tz kz => castTop (ef_31 m (3 : Int32) ) kz) ?_
  refine Goes.via (S' := s₁.setTop (mkF m 1 #[.val (.int (3 : Int32))] [(.int (3 : Int32))])) (fun tz kz => ?_) ?_
  · show Steps p.tables e below (s₁.setTop (mkF m 0 #[.val (.int (3 : Int32))] [])) _
    refine XS.iloadN X0.here hx rfl (hb hby d31_0) rfl ?_
    exact kz
  obtain ⟨_, _, ⟨T1, L1, k1, n1⟩, -, X1, ⟨Lc1, hQ1, l1, y1, z1⟩, st1⟩ := Jvm.LawKit.callS X0 hx (y := n_2) hown (mvT hZ (w_ hw 134 rfl)) (mvT hZ (w_ hw 135 rfl)) (mvT hZ (w_ hw 28 rfl)) (mvT hZ (w_ hw 136 rfl)) (by decide) (backOf (W := 0) (rnbl_3 l Z a0 hw [] h0 n0 Z0) hZ (w_ hw 136 rfl) (w_ hw 28 rfl) (by decide) (by decide)) (g := (mkF m 1 #[.val (.int (3 : Int32))] [(.int (3 : Int32))])) rfl (by rw [hml]; rfl) (argsL := [(.int (3 : Int32))]) (rest := []) (lenOf pd_0 rfl) rfl (by show 2 * 0 + _ ≤ _; exact Nat.le_of_eq rfl) (hb hby d31_1) (fun _ _ => ⟨rfl, e0, (by decide : 0 + 0 ≤ _), (by decide : 0 + 0 ≤ _)⟩)
  dsimp only [Pt.U, Pt.locs, Pt.cells, Pt.slots] at X1 l1 y1 z1 st1 hQ1
  subst l1 y1 z1
  obtain ⟨rfl, N1, e1⟩ := hQ1
  have Nf1 := Fr.app N0 N1
  refine Goes.via (st1) ?_
  obtain ⟨T2, h2, k2, X2, e2, E2, A2, st2⟩ := newP X1 hx hZ (w_ hw 30 rfl) e1 (g := (mkF m 4 #[.val (.int (3 : Int32))] [(.int (6 : Int32))])) rfl (hb hby d31_4) rfl (by decide) (cap := 6) (by decide) (by decide) (by decide) (by decide)
  obtain ⟨b2, g2⟩ : ∃ z, z = h0.size := ⟨_, rfl⟩
  rw [← g2] at A2 st2
  refine Goes.via st2 ?_
  have B2 : Arv Z h2 b2 k2 .byte (6 : Int32) [.int 0, .int 0, .int 0, .int 0, .int 0, .int 0] (.int 0) := (Arv.new A2 (by decide)).pad (pad_rep [] (.int 0) 6)
  exact Goes.retO X2 hx Bd.notSynchronized Bd.returns rfl (Or.inr (Or.inr (Or.inr (Or.inr ⟨rfl, rfl, rfl⟩)))) (hb hby d31_6) (nb_ rfl) (nb_ rfl) (by rw [e2]; exact ⟨b2, k2, rfl, Nf1, (Keep.refl h0 []).ext E2, B2, Nat.le_of_eq g2.symm⟩)
def Q_rtb_3 (Z : State) (ca : Addr) (ka : ClassId) (c0 c1 c2 : Int32) (h0 : Heap) (n0 : Nat) : Option Value → Heap → List Loc → Prop := fun v h L => ∃ b k, v = some (.ref b) ∧ Fr n0 L ∧ Keep h0 h [] ∧ Arv Z h b k .byte (6 : Int32) [.int (own_lo c0), .int (own_hi c0), .int (own_lo c1), .int (own_hi c1), .int (own_lo c2), .int (own_hi c2)] (.int 0) ∧ @LE.le Nat _ h0.size b
theorem rtb_3 (l : Launch) (Z : State) (a0 : Array Value) (hw : ∀ d ∈ tables_1, d.before a0 Z = true) (ws : List Jvm.Cond) (ca : Addr) (ka : ClassId) (c0 c1 c2 : Int32) (h0 : Heap) (n0 : Nat) (Z0 : n0 ≤ h0.size) (SA : Sta Z Z.heap "java/lang/StringUTF16" "$assertionsDisabled" "Z" (.int (1 : Int32))) (SH : Sta Z Z.heap "java/lang/StringUTF16" "HI_BYTE_SHIFT" "I" (.int (0 : Int32))) (SL : Sta Z Z.heap "java/lang/StringUTF16" "LO_BYTE_SHIFT" "I" (.int (8 : Int32))) (O0 : Old Z n0 h0) (C0 : Arv Z h0 ca ka .char (3 : Int32) [.int c0, .int c1, .int c2] (.int 0)) :
    own_M l Z n_4 (Jvm.Cond.code n_4 jdk_52_method_14_code 5 (some (.array .byte))) ws ({ frames := 2, cells := 1, slots := 6, locals := 36 } : Room) #[(.ref ca), (.int (0 : Int32)), (.int (3 : Int32))] h0 (Q_rtb_3 Z ca ka c0 c1 c2 h0 n0) := by
  refine MetFree.of_bodySF (plainFor_of_name pn_30) hisR ?_
  intro p e s m args below meth c s₁ Bd hml0 hP hK
  obtain ⟨rfl, hZ, hh⟩ := hP
  have hx := Bd.exec
  have hby := Bd.bytes
  have hml : c.maxLocals = 5 := hml0
  have hown : s.vm.findClass "java/lang/StringUTF16" = some m.cls := findClass_of_methodNamed Bd.named
  have hnm := (name_of_methodNamed Bd.named Bd.method).1
  have X0 : Stand p l e ({ frames := 2, cells := 1, slots := 6, locals := 36 } : Room) s m #[(.ref ca), (.int (0 : Int32)), (.int (3 : Int32))] below meth c s₁ [] 0 0 := Stand.of_body Bd
  have e0 : s₁.heap = h0 := by rw [← hh, Bd.state]; rfl
  have N0 := Fr.nil n0
  show Goes p e below (Fin s (Q_rtb_3 Z ca ka c0 c1 c2 h0 n0) ({ frames := 2, cells := 1, slots := 6, locals := 36 } : Room).cells ({ frames := 2, cells := 1, slots := 6, locals := 36 } : Room).slots) _
  refine Goes.via (S' := s₁.setTop (mkF m 0 #[.val (.ref ca), .val (.int (0 : Int32)), .val (.int (3 : Int32)), .unset, .unset] [])) (fun tz kz => castTop (ef_30 m ca (0 : Int32) (3 : Int32) ) kz) ?_
  refine Goes.via (S' := s₁.setTop (mkF m 1 #[.val (.ref ca), .val (.int (0 : Int32)), .val (.int (3 : Int32)), .unset, .unset] [(.int (3 : Int32))])) (fun tz kz => ?_) ?_
  · show Steps p.tables e below (s₁.setTop (mkF m 0 #[.val (.ref ca), .val (.int (0 : Int32)), .val (.int (3 : Int32)), .unset, .unset] [])) _
    refine XS.iloadN X0.here hx rfl (hb hby d30_0) rfl ?_
    exact kz
  obtain ⟨_, _, ⟨T1, L1, k1, n1⟩, -, X1, ⟨Lc1, hQ1, l1, y1, z1⟩, st1⟩ := Jvm.LawKit.callS X0 hx (y := n_3) hown (mvT hZ (w_ hw 131 rfl)) (mvT hZ (w_ hw 132 rfl)) (mvT hZ (w_ hw 28 rfl)) (mvT hZ (w_ hw 133 rfl)) (by decide) (backOf (W := 0) (rnbf_3 l Z a0 hw []  h0 n0 Z0) hZ (w_ hw 133 rfl) (w_ hw 28 rfl) (by decide) (by decide)) (g := (mkF m 1 #[.val (.ref ca), .val (.int (0 : Int32)), .val (.int (3 : Int32)), .unset, .unset] [(.int (3 : Int32))])) rfl (by rw [hml]; rfl) (argsL := [(.int (3 : Int32))]) (rest := []) (lenOf pd_1 rfl) rfl (by show 2 * 0 + _ ≤ _; exact Nat.le_of_eq rfl) (hb hby d30_1) (fun _ _ => ⟨rfl, e0, (by decide : 0 + 1 ≤ _), (by decide : 0 + 6 ≤ _)⟩)
  dsimp only [Pt.U, Pt.locs, Pt.cells, Pt.slots] at X1 l1 y1 z1 st1 hQ1
  subst l1 y1 z1
  obtain ⟨nb, kn, rfl, N1, K1, B1, gv⟩ := hQ1
  have Nf1 := Fr.app N0 N1
  refine Goes.via (st1) ?_
  have C1 := C0.keep K1 nin0
  have O1 := O0.keep K1 all0
  have gb : n0 ≤ nb := Nat.le_trans Z0 gv
  have nab : ca ≠ nb := Nat.ne_of_lt (Nat.lt_of_lt_of_le C0.lt gv)
  have Z1 := Nat.le_trans Z0 K1.1
  refine Goes.via (S' := T1.setTop (mkF m 19 #[.val (.ref ca), .val (.int (0 : Int32)), .val (.int (3 : Int32)), .val (.ref nb), .val (.int (0 : Int32))] [(.int (0 : Int32)), (.ref ca), (.int (0 : Int32)), (.ref nb)])) (fun tz kz => ?_) ?_
  · show Steps p.tables e below (T1.setTop (mkF m 4 #[.val (.ref ca), .val (.int (0 : Int32)), .val (.int (3 : Int32)), .unset, .unset] [(.ref nb)])) _
    refine XS.astoreN X1.here hx rfl (hb hby d30_4) rfl rfl (l' := #[.val (.ref ca), .val (.int (0 : Int32)), .val (.int (3 : Int32)), .val (.ref nb), .unset]) rfl ?_
    refine XS.iconst X1.here hx rfl (hb hby d30_5) ?_
    refine XS.istore X1.here hx rfl (hb hby d30_6) rfl (l' := #[.val (.ref ca), .val (.int (0 : Int32)), .val (.int (3 : Int32)), .val (.ref nb), .val (.int (0 : Int32))]) rfl ?_
    refine XS.iload X1.here hx rfl (hb hby d30_8) rfl ?_
    refine XS.iloadN X1.here hx rfl (hb hby d30_10) rfl ?_
    refine XS.icmpNo X1.here hx rfl (hb hby d30_11) rfl (tlt (by first | decide | rfl)).2.1 ?_
    refine XS.aloadN X1.here hx rfl (hb hby d30_14) rfl rfl ?_
    refine XS.iload X1.here hx rfl (hb hby d30_15) rfl ?_
    refine XS.aloadN X1.here hx rfl (hb hby d30_17) rfl rfl ?_
    refine XS.iloadN X1.here hx rfl (hb hby d30_18) rfl ?_
    exact kz
  obtain ⟨cl2, Ar2, q2, Sz2, Nn2, Hs2, G2⟩ := (id C1)
  refine Goes.via (S' := T1.setTop (mkF m 20 #[.val (.ref ca), .val (.int (0 : Int32)), .val (.int (3 : Int32)), .val (.ref nb), .val (.int (0 : Int32))] [(.int c0), (.int (0 : Int32)), (.ref nb)])) (fun tz kz => ?_) ?_
  · show Steps p.tables e below (T1.setTop (mkF m 19 #[.val (.ref ca), .val (.int (0 : Int32)), .val (.int (3 : Int32)), .val (.ref nb), .val (.int (0 : Int32))] [(.int (0 : Int32)), (.ref ca), (.int (0 : Int32)), (.ref nb)])) _
    refine X1.caload hx (j := (0 : Int32)) (v := (.int c0)) (by exact Ar2.1) (State.isArrayOf_alike hZ.alike Ar2.2.1) Ar2.2.2 (inb_of Sz2 ⟨by decide, by decide⟩) (Has.at Hs2 (inb_of Sz2 ⟨by decide, by decide⟩) rfl) (g := (mkF m 19 #[.val (.ref ca), .val (.int (0 : Int32)), .val (.int (3 : Int32)), .val (.ref nb), .val (.int (0 : Int32))] [(.int (0 : Int32)), (.ref ca), (.int (0 : Int32)), (.ref nb)])) rfl rfl (hb hby d30_19) _ ?_
    exact kz
  obtain ⟨_, _, ⟨T3, L3, k3, n3⟩, -, X3, ⟨Lc3, hQ3, l3, y3, z3⟩, st3⟩ := Jvm.LawKit.callS X1 hx (y := n_0) hown (mvT hZ (w_ hw 138 rfl)) (mvT hZ (w_ hw 139 rfl)) (mvT hZ (w_ hw 28 rfl)) (mvT hZ (w_ hw 140 rfl)) (by decide) (backOf (W := 0) (rpc l Z a0 hw [] nb (0 : Int32) c0 kn (6 : Int32) (0 : Int32) (1 : Int32) 0 1 [.int 0, .int 0, .int 0, .int 0, .int 0, .int 0] T1.heap n0 Z1 SA SH SL O1 B1 gb rfl rfl ⟨by decide, by decide⟩ ⟨by decide, by decide⟩ rfl rfl (Nat.le_of_ble_eq_true rfl) (Nat.le_of_ble_eq_true rfl)) hZ (w_ hw 140 rfl) (w_ hw 28 rfl) (by decide) (by decide)) (g := (mkF m 20 #[.val (.ref ca), .val (.int (0 : Int32)), .val (.int (3 : Int32)), .val (.ref nb), .val (.int (0 : Int32))] [(.int c0), (.int (0 : Int32)), (.ref nb)])) rfl (by rw [hml]; rfl) (argsL := [(.ref nb), (.int (0 : Int32)), (.int c0)]) (rest := []) (lenOf pd_2 rfl) rfl (by show 2 * 0 + _ ≤ _; exact Nat.le_of_eq rfl) (hb hby d30_20) (fun _ _ => ⟨rfl, rfl, (by decide : 1 + 0 ≤ _), (by decide : 6 + 0 ≤ _)⟩)
  dsimp only [Pt.U, Pt.locs, Pt.cells, Pt.slots] at X3 l3 y3 z3 st3 hQ3
  subst l3 y3 z3
  obtain ⟨rfl, N3, K3, B3⟩ := hQ3
  have Nf3 := Fr.app Nf1 N3
  refine Goes.via (st3) ?_
  have B3 : Arv Z T3.heap nb kn .byte (6 : Int32) [.int (own_lo c0), .int (own_hi c0), .int 0, .int 0, .int 0, .int 0] (.int 0) := B3
  have C3 := C1.keep K3 (fun q => nab (List.mem_singleton.mp q))
  have O3 := O1.keep K3 (allS gb all0)
  have J3 := K1.trans K3 (allS (Or.inr gv) all0)
  have Z3 := Nat.le_trans Z1 K3.1
  refine Goes.via (S' := T3.setTop (mkF m 19 #[.val (.ref ca), .val (.int (1 : Int32)), .val (.int (3 : Int32)), .val (.ref nb), .val (.int (1 : Int32))] [(.int (1 : Int32)), (.ref ca), (.int (1 : Int32)), (.ref nb)])) (fun tz kz => ?_) ?_
  · show Steps p.tables e below (T3.setTop (mkF m 23 #[.val (.ref ca), .val (.int (0 : Int32)), .val (.int (3 : Int32)), .val (.ref nb), .val (.int (0 : Int32))] [])) _
    refine XS.iinc X3.here hx rfl (hb hby d30_23) rfl (l' := #[.val (.ref ca), .val (.int (1 : Int32)), .val (.int (3 : Int32)), .val (.ref nb), .val (.int (0 : Int32))]) rfl ?_
    refine XS.iinc X3.here hx rfl (hb hby d30_26) rfl (l' := #[.val (.ref ca), .val (.int (1 : Int32)), .val (.int (3 : Int32)), .val (.ref nb), .val (.int (1 : Int32))]) rfl ?_
    refine XS.goto X3.here hx rfl (pc0 := 29) (pc' := 8) rfl (hb hby d30_29) (by decide) (by decide) ?_
    refine XS.iload X3.here hx rfl (hb hby d30_8) rfl ?_
    refine XS.iloadN X3.here hx rfl (hb hby d30_10) rfl ?_
    refine XS.icmpNo X3.here hx rfl (hb hby d30_11) rfl (tlt (by first | decide | rfl)).2.1 ?_
    refine XS.aloadN X3.here hx rfl (hb hby d30_14) rfl rfl ?_
    refine XS.iload X3.here hx rfl (hb hby d30_15) rfl ?_
    refine XS.aloadN X3.here hx rfl (hb hby d30_17) rfl rfl ?_
    refine XS.iloadN X3.here hx rfl (hb hby d30_18) rfl ?_
    exact kz
  obtain ⟨cl4, Ar4, q4, Sz4, Nn4, Hs4, G4⟩ := (id C3)
  refine Goes.via (S' := T3.setTop (mkF m 20 #[.val (.ref ca), .val (.int (1 : Int32)), .val (.int (3 : Int32)), .val (.ref nb), .val (.int (1 : Int32))] [(.int c1), (.int (1 : Int32)), (.ref nb)])) (fun tz kz => ?_) ?_
  · show Steps p.tables e below (T3.setTop (mkF m 19 #[.val (.ref ca), .val (.int (1 : Int32)), .val (.int (3 : Int32)), .val (.ref nb), .val (.int (1 : Int32))] [(.int (1 : Int32)), (.ref ca), (.int (1 : Int32)), (.ref nb)])) _
    refine X3.caload hx (j := (1 : Int32)) (v := (.int c1)) (by exact Ar4.1) (State.isArrayOf_alike hZ.alike Ar4.2.1) Ar4.2.2 (inb_of Sz4 ⟨by decide, by decide⟩) (Has.at Hs4 (inb_of Sz4 ⟨by decide, by decide⟩) rfl) (g := (mkF m 19 #[.val (.ref ca), .val (.int (1 : Int32)), .val (.int (3 : Int32)), .val (.ref nb), .val (.int (1 : Int32))] [(.int (1 : Int32)), (.ref ca), (.int (1 : Int32)), (.ref nb)])) rfl rfl (hb hby d30_19) _ ?_
    exact kz
  obtain ⟨_, _, ⟨T5, L5, k5, n5⟩, -, X5, ⟨Lc5, hQ5, l5, y5, z5⟩, st5⟩ := Jvm.LawKit.callS X3 hx (y := n_0) hown (mvT hZ (w_ hw 138 rfl)) (mvT hZ (w_ hw 139 rfl)) (mvT hZ (w_ hw 28 rfl)) (mvT hZ (w_ hw 140 rfl)) (by decide) (backOf (W := 0) (rpc l Z a0 hw [] nb (1 : Int32) c1 kn (6 : Int32) (2 : Int32) (3 : Int32) 2 3 [.int (own_lo c0), .int (own_hi c0), .int 0, .int 0, .int 0, .int 0] T3.heap n0 Z3 SA SH SL O3 B3 gb rfl rfl ⟨by decide, by decide⟩ ⟨by decide, by decide⟩ rfl rfl (Nat.le_of_ble_eq_true rfl) (Nat.le_of_ble_eq_true rfl)) hZ (w_ hw 140 rfl) (w_ hw 28 rfl) (by decide) (by decide)) (g := (mkF m 20 #[.val (.ref ca), .val (.int (1 : Int32)), .val (.int (3 : Int32)), .val (.ref nb), .val (.int (1 : Int32))] [(.int c1), (.int (1 : Int32)), (.ref nb)])) rfl (by rw [hml]; rfl) (argsL := [(.ref nb), (.int (1 : Int32)), (.int c1)]) (rest := []) (lenOf pd_2 rfl) rfl (by show 2 * 0 + _ ≤ _; exact Nat.le_of_eq rfl) (hb hby d30_20) (fun _ _ => ⟨rfl, rfl, (by decide : 1 + 0 ≤ _), (by decide : 6 + 0 ≤ _)⟩)
  dsimp only [Pt.U, Pt.locs, Pt.cells, Pt.slots] at X5 l5 y5 z5 st5 hQ5
  subst l5 y5 z5
  obtain ⟨rfl, N5, K5, B5⟩ := hQ5
  have Nf5 := Fr.app Nf3 N5
  refine Goes.via (st5) ?_
  have B5 : Arv Z T5.heap nb kn .byte (6 : Int32) [.int (own_lo c0), .int (own_hi c0), .int (own_lo c1), .int (own_hi c1), .int 0, .int 0] (.int 0) := B5
  have C5 := C3.keep K5 (fun q => nab (List.mem_singleton.mp q))
  have O5 := O3.keep K5 (allS gb all0)
  have J5 := J3.trans K5 (allS (Or.inr gv) all0)
  have Z5 := Nat.le_trans Z3 K5.1
  refine Goes.via (S' := T5.setTop (mkF m 19 #[.val (.ref ca), .val (.int (2 : Int32)), .val (.int (3 : Int32)), .val (.ref nb), .val (.int (2 : Int32))] [(.int (2 : Int32)), (.ref ca), (.int (2 : Int32)), (.ref nb)])) (fun tz kz => ?_) ?_
  · show Steps p.tables e below (T5.setTop (mkF m 23 #[.val (.ref ca), .val (.int (1 : Int32)), .val (.int (3 : Int32)), .val (.ref nb), .val (.int (1 : Int32))] [])) _
    refine XS.iinc X5.here hx rfl (hb hby d30_23) rfl (l' := #[.val (.ref ca), .val (.int (2 : Int32)), .val (.int (3 : Int32)), .val (.ref nb), .val (.int (1 : Int32))]) rfl ?_
    refine XS.iinc X5.here hx rfl (hb hby d30_26) rfl (l' := #[.val (.ref ca), .val (.int (2 : Int32)), .val (.int (3 : Int32)), .val (.ref nb), .val (.int (2 : Int32))]) rfl ?_
    refine XS.goto X5.here hx rfl (pc0 := 29) (pc' := 8) rfl (hb hby d30_29) (by decide) (by decide) ?_
    refine XS.iload X5.here hx rfl (hb hby d30_8) rfl ?_
    refine XS.iloadN X5.here hx rfl (hb hby d30_10) rfl ?_
    refine XS.icmpNo X5.here hx rfl (hb hby d30_11) rfl (tlt (by first | decide | rfl)).2.1 ?_
    refine XS.aloadN X5.here hx rfl (hb hby d30_14) rfl rfl ?_
    refine XS.iload X5.here hx rfl (hb hby d30_15) rfl ?_
    refine XS.aloadN X5.here hx rfl (hb hby d30_17) rfl rfl ?_
    refine XS.iloadN X5.here hx rfl (hb hby d30_18) rfl ?_
    exact kz
  obtain ⟨cl6, Ar6, q6, Sz6, Nn6, Hs6, G6⟩ := (id C5)
  refine Goes.via (S' := T5.setTop (mkF m 20 #[.val (.ref ca), .val (.int (2 : Int32)), .val (.int (3 : Int32)), .val (.ref nb), .val (.int (2 : Int32))] [(.int c2), (.int (2 : Int32)), (.ref nb)])) (fun tz kz => ?_) ?_
  · show Steps p.tables e below (T5.setTop (mkF m 19 #[.val (.ref ca), .val (.int (2 : Int32)), .val (.int (3 : Int32)), .val (.ref nb), .val (.int (2 : Int32))] [(.int (2 : Int32)), (.ref ca), (.int (2 : Int32)), (.ref nb)])) _
    refine X5.caload hx (j := (2 : Int32)) (v := (.int c2)) (by exact Ar6.1) (State.isArrayOf_alike hZ.alike Ar6.2.1) Ar6.2.2 (inb_of Sz6 ⟨by decide, by decide⟩) (Has.at Hs6 (inb_of Sz6 ⟨by decide, by decide⟩) rfl) (g := (mkF m 19 #[.val (.ref ca), .val (.int (2 : Int32)), .val (.int (3 : Int32)), .val (.ref nb), .val (.int (2 : Int32))] [(.int (2 : Int32)), (.ref ca), (.int (2 : Int32)), (.ref nb)])) rfl rfl (hb hby d30_19) _ ?_
    exact kz
  obtain ⟨_, _, ⟨T7, L7, k7, n7⟩, -, X7, ⟨Lc7, hQ7, l7, y7, z7⟩, st7⟩ := Jvm.LawKit.callS X5 hx (y := n_0) hown (mvT hZ (w_ hw 138 rfl)) (mvT hZ (w_ hw 139 rfl)) (mvT hZ (w_ hw 28 rfl)) (mvT hZ (w_ hw 140 rfl)) (by decide) (backOf (W := 0) (rpc l Z a0 hw [] nb (2 : Int32) c2 kn (6 : Int32) (4 : Int32) (5 : Int32) 4 5 [.int (own_lo c0), .int (own_hi c0), .int (own_lo c1), .int (own_hi c1), .int 0, .int 0] T5.heap n0 Z5 SA SH SL O5 B5 gb rfl rfl ⟨by decide, by decide⟩ ⟨by decide, by decide⟩ rfl rfl (Nat.le_of_ble_eq_true rfl) (Nat.le_of_ble_eq_true rfl)) hZ (w_ hw 140 rfl) (w_ hw 28 rfl) (by decide) (by decide)) (g := (mkF m 20 #[.val (.ref ca), .val (.int (2 : Int32)), .val (.int (3 : Int32)), .val (.ref nb), .val (.int (2 : Int32))] [(.int c2), (.int (2 : Int32)), (.ref nb)])) rfl (by rw [hml]; rfl) (argsL := [(.ref nb), (.int (2 : Int32)), (.int c2)]) (rest := []) (lenOf pd_2 rfl) rfl (by show 2 * 0 + _ ≤ _; exact Nat.le_of_eq rfl) (hb hby d30_20) (fun _ _ => ⟨rfl, rfl, (by decide : 1 + 0 ≤ _), (by decide : 6 + 0 ≤ _)⟩)
  dsimp only [Pt.U, Pt.locs, Pt.cells, Pt.slots] at X7 l7 y7 z7 st7 hQ7
  subst l7 y7 z7
  obtain ⟨rfl, N7, K7, B7⟩ := hQ7
  have Nf7 := Fr.app Nf5 N7
  refine Goes.via (st7) ?_
  have B7 : Arv Z T7.heap nb kn .byte (6 : Int32) [.int (own_lo c0), .int (own_hi c0), .int (own_lo c1), .int (own_hi c1), .int (own_lo c2), .int (own_hi c2)] (.int 0) := B7
  have C7 := C5.keep K7 (fun q => nab (List.mem_singleton.mp q))
  have O7 := O5.keep K7 (allS gb all0)
  have J7 := J5.trans K7 (allS (Or.inr gv) all0)
  have Z7 := Nat.le_trans Z5 K7.1
  refine Goes.via (S' := T7.setTop (mkF m 33 #[.val (.ref ca), .val (.int (3 : Int32)), .val (.int (3 : Int32)), .val (.ref nb), .val (.int (3 : Int32))] [(.ref nb)])) (fun tz kz => ?_) ?_
  · show Steps p.tables e below (T7.setTop (mkF m 23 #[.val (.ref ca), .val (.int (2 : Int32)), .val (.int (3 : Int32)), .val (.ref nb), .val (.int (2 : Int32))] [])) _
    refine XS.iinc X7.here hx rfl (hb hby d30_23) rfl (l' := #[.val (.ref ca), .val (.int (3 : Int32)), .val (.int (3 : Int32)), .val (.ref nb), .val (.int (2 : Int32))]) rfl ?_
    refine XS.iinc X7.here hx rfl (hb hby d30_26) rfl (l' := #[.val (.ref ca), .val (.int (3 : Int32)), .val (.int (3 : Int32)), .val (.ref nb), .val (.int (3 : Int32))]) rfl ?_
    refine XS.goto X7.here hx rfl (pc0 := 29) (pc' := 8) rfl (hb hby d30_29) (by decide) (by decide) ?_
    refine XS.iload X7.here hx rfl (hb hby d30_8) rfl ?_
    refine XS.iloadN X7.here hx rfl (hb hby d30_10) rfl ?_
    refine XS.icmpYes X7.here hx rfl (pc0 := 11) (pc' := 32) rfl (hb hby d30_11) rfl (flt (by first | decide | rfl)).2.1 (by decide) (by decide) ?_
    refine XS.aloadN X7.here hx rfl (hb hby d30_32) rfl rfl ?_
    exact kz
  exact Goes.retO X7 hx Bd.notSynchronized Bd.returns rfl (Or.inr (Or.inr (Or.inr (Or.inr ⟨rfl, rfl, rfl⟩)))) (hb hby d30_33) (nb_ rfl) (nb_ rfl) ⟨nb, kn, rfl, Nf7, J7, B7, gv⟩
def Q_rc5_3 (Z : State) (ca : Addr) (bb : Addr) (ka kz : ClassId) (c0 c1 c2 : Int32) (h0 : Heap) (n0 : Nat) : Option Value → Heap → List Loc → Prop := fun v h L => ∃ j, v = some (.int j) ∧ Fr n0 L ∧ Keep h0 h [bb] ∧ ((j = (3 : Int32) ∧ (¬ (255 : Int32) < c0 ∧ ¬ (255 : Int32) < c1 ∧ ¬ (255 : Int32) < c2) ∧ Arv Z h bb kz .byte (3 : Int32) [.int (own_by c0), .int (own_by c1), .int (own_by c2)] (.int 0)) ∨ own_big (3 : Int32) (6 : Int32) [.int (own_lo c0), .int (own_hi c0), .int (own_lo c1), .int (own_hi c1), .int (own_lo c2), .int (own_hi c2)] j)
theorem rc5_3 (l : Launch) (Z : State) (a0 : Array Value) (hw : ∀ d ∈ tables_1, d.before a0 Z = true) (ws : List Jvm.Cond) (ca : Addr) (bb : Addr) (ka kz : ClassId) (c0 c1 c2 : Int32) (h0 : Heap) (n0 : Nat) (Z0 : n0 ≤ h0.size) (C0 : Arv Z h0 ca ka .char (3 : Int32) [.int c0, .int c1, .int c2] (.int 0)) (B0 : Arv Z h0 bb kz .byte (3 : Int32) [.int 0, .int 0, .int 0] (.int 0)) (gb : n0 ≤ bb) (nab : ca ≠ bb) (z0 : nar .char c0 = c0) (z1 : nar .char c1 = c1) (z2 : nar .char c2 = c2) :
    own_M l Z n_5 (Jvm.Cond.code n_5 jdk_52_method_21_code 7 (some .int)) ws ({ frames := 0, cells := 0, slots := 0, locals := 0 } : Room) #[(.ref ca), (.int (0 : Int32)), (.ref bb), (.int (0 : Int32)), (.int (3 : Int32))] h0 (Q_rc5_3 Z ca bb ka kz c0 c1 c2 h0 n0) := by
  refine MetFree.of_bodySF (plainFor_of_name pn_8) hisR ?_
  intro p e s m args below meth c s₁ Bd hml0 hP hK
  obtain ⟨rfl, hZ, hh⟩ := hP
  have hx := Bd.exec
  have hby := Bd.bytes
  have hml : c.maxLocals = 7 := hml0
  have hown : s.vm.findClass "java/lang/StringUTF16" = some m.cls := findClass_of_methodNamed Bd.named
  have hnm := (name_of_methodNamed Bd.named Bd.method).1
  have X0 : Stand p l e ({ frames := 0, cells := 0, slots := 0, locals := 0 } : Room) s m #[(.ref ca), (.int (0 : Int32)), (.ref bb), (.int (0 : Int32)), (.int (3 : Int32))] below meth c s₁ [] 0 0 := Stand.of_body Bd
  have e0 : s₁.heap = h0 := by rw [← hh, Bd.state]; rfl
  have N0 := Fr.nil n0
  show Goes p e below (Fin s (Q_rc5_3 Z ca bb ka kz c0 c1 c2 h0 n0) ({ frames := 0, cells := 0, slots := 0, locals := 0 } : Room).cells ({ frames := 0, cells := 0, slots := 0, locals := 0 } : Room).slots) _
  refine Goes.via (S' := s₁.setTop (mkF m 0 #[.val (.ref ca), .val (.int (0 : Int32)), .val (.ref bb), .val (.int (0 : Int32)), .val (.int (3 : Int32)), .unset, .unset] [])) (fun tz kz => castTop (ef_8 m ca (0 : Int32) bb (0 : Int32) (3 : Int32) ) kz) ?_
  refine Goes.via (S' := s₁.setTop (mkF m 12 #[.val (.ref ca), .val (.int (0 : Int32)), .val (.ref bb), .val (.int (0 : Int32)), .val (.int (3 : Int32)), .val (.int (0 : Int32)), .unset] [(.int (0 : Int32)), (.ref ca)])) (fun tz kz => ?_) ?_
  · show Steps p.tables e below (s₁.setTop (mkF m 0 #[.val (.ref ca), .val (.int (0 : Int32)), .val (.ref bb), .val (.int (0 : Int32)), .val (.int (3 : Int32)), .unset, .unset] [])) _
    refine XS.iconst X0.here hx rfl (hb hby d8_0) ?_
    refine XS.istore X0.here hx rfl (hb hby d8_1) rfl (l' := #[.val (.ref ca), .val (.int (0 : Int32)), .val (.ref bb), .val (.int (0 : Int32)), .val (.int (3 : Int32)), .val (.int (0 : Int32)), .unset]) rfl ?_
    refine XS.iload X0.here hx rfl (hb hby d8_3) rfl ?_
    refine XS.iload X0.here hx rfl (hb hby d8_5) rfl ?_
    refine XS.icmpNo X0.here hx rfl (hb hby d8_7) rfl (tlt (by first | decide | rfl)).2.1 ?_
    refine XS.aloadN X0.here hx rfl (hb hby d8_10) rfl rfl ?_
    refine XS.iloadN X0.here hx rfl (hb hby d8_11) rfl ?_
    exact kz
  obtain ⟨cl1, Ar1, q1, Sz1, Nn1, Hs1, G1⟩ := (id C0)
  refine Goes.via (S' := s₁.setTop (mkF m 20 #[.val (.ref ca), .val (.int (0 : Int32)), .val (.ref bb), .val (.int (0 : Int32)), .val (.int (3 : Int32)), .val (.int (0 : Int32)), .val (.int c0)] [(.int (255 : Int32)), (.int c0)])) (fun tz kz => ?_) ?_
  · show Steps p.tables e below (s₁.setTop (mkF m 12 #[.val (.ref ca), .val (.int (0 : Int32)), .val (.ref bb), .val (.int (0 : Int32)), .val (.int (3 : Int32)), .val (.int (0 : Int32)), .unset] [(.int (0 : Int32)), (.ref ca)])) _
    refine X0.caload hx (j := (0 : Int32)) (v := (.int c0)) (by rw [e0]; exact Ar1.1) (State.isArrayOf_alike hZ.alike Ar1.2.1) Ar1.2.2 (inb_of Sz1 ⟨by decide, by decide⟩) (Has.at Hs1 (inb_of Sz1 ⟨by decide, by decide⟩) rfl) (g := (mkF m 12 #[.val (.ref ca), .val (.int (0 : Int32)), .val (.ref bb), .val (.int (0 : Int32)), .val (.int (3 : Int32)), .val (.int (0 : Int32)), .unset] [(.int (0 : Int32)), (.ref ca)])) rfl rfl (hb hby d8_12) _ ?_
    refine XS.istore X0.here hx rfl (hb hby d8_13) rfl (l' := #[.val (.ref ca), .val (.int (0 : Int32)), .val (.ref bb), .val (.int (0 : Int32)), .val (.int (3 : Int32)), .val (.int (0 : Int32)), .val (.int c0)]) rfl ?_
    refine XS.iload X0.here hx rfl (hb hby d8_15) rfl ?_
    refine XS.sipush X0.here hx rfl (hb hby d8_17) ?_
    exact kz
  by_cases hc20_2 : (255 : Int32) < c0
  · refine Goes.via (S' := s₁.setTop (mkF m 25 #[.val (.ref ca), .val (.int (0 : Int32)), .val (.ref bb), .val (.int (0 : Int32)), .val (.int (3 : Int32)), .val (.int (0 : Int32)), .val (.int c0)] [(.int (0 : Int32))])) (fun tz kz => ?_) ?_
    · show Steps p.tables e below (s₁.setTop (mkF m 20 #[.val (.ref ca), .val (.int (0 : Int32)), .val (.ref bb), .val (.int (0 : Int32)), .val (.int (3 : Int32)), .val (.int (0 : Int32)), .val (.int c0)] [(.int (255 : Int32)), (.int c0)])) _
      refine XS.icmpNo X0.here hx rfl (hb hby d8_20) rfl (tlt hc20_2).2.2.2 ?_
      refine XS.iload X0.here hx rfl (hb hby d8_23) rfl ?_
      exact kz
    exact Goes.retI X0 hx Bd.notSynchronized Bd.returns (hb hby d8_25) (nb_ rfl) (nb_ rfl) (by rw [e0]; exact ⟨(0 : Int32), rfl, N0, Keep.refl h0 [bb], Or.inr ⟨(0 : Int32), (1 : Int32), c0, by decide, rfl, rfl, ⟨by decide, by decide⟩, ⟨by decide, by decide⟩, rfl, rfl, z0, hc20_2⟩⟩)
  · refine Goes.via (S' := s₁.setTop (mkF m 31 #[.val (.ref ca), .val (.int (0 : Int32)), .val (.ref bb), .val (.int (0 : Int32)), .val (.int (3 : Int32)), .val (.int (0 : Int32)), .val (.int c0)] [(.int (c0.toInt8.toInt32)), (.int (0 : Int32)), (.ref bb)])) (fun tz kz => ?_) ?_
    · show Steps p.tables e below (s₁.setTop (mkF m 20 #[.val (.ref ca), .val (.int (0 : Int32)), .val (.ref bb), .val (.int (0 : Int32)), .val (.int (3 : Int32)), .val (.int (0 : Int32)), .val (.int c0)] [(.int (255 : Int32)), (.int c0)])) _
      refine XS.icmpYes X0.here hx rfl (pc0 := 20) (pc' := 26) rfl (hb hby d8_20) rfl (flt hc20_2).2.2.2 (by decide) (by decide) ?_
      refine XS.aloadN X0.here hx rfl (hb hby d8_26) rfl rfl ?_
      refine XS.iloadN X0.here hx rfl (hb hby d8_27) rfl ?_
      refine XS.iload X0.here hx rfl (hb hby d8_28) rfl ?_
      refine XS.i2b X0.here hx rfl (hb hby d8_30) rfl ?_
      exact kz
    obtain ⟨cl3, Ar3, q3, Sz3, Nn3, Hs3, G3⟩ := (id B0)
    obtain ⟨T4, h4, X4, e4, W4, st4⟩ := stB X0 hx hZ e0 Ar3 (j := (0 : Int32)) (inb_of Sz3 ⟨by decide, by decide⟩) (g := (mkF m 31 #[.val (.ref ca), .val (.int (0 : Int32)), .val (.ref bb), .val (.int (0 : Int32)), .val (.int (3 : Int32)), .val (.int (0 : Int32)), .val (.int c0)] [(.int (c0.toInt8.toInt32)), (.int (0 : Int32)), (.ref bb)])) rfl rfl (hb hby d8_31)
    refine Goes.via st4 ?_
    have N4 := Fr.snoc X4 N0 gb
    have C4 := (C0).other W4 nab
    have A4 := Arv.set Ar3 q3 Sz3 Nn3 Hs3 G3 (fits_nar_byte _) W4 0 rfl (Nat.le_of_ble_eq_true rfl)
    have K4 := (Keep.refl h0 [bb]).wr W4 (Or.inl (List.mem_singleton.mpr rfl))
    refine Goes.via (S' := T4.setTop (mkF m 12 #[.val (.ref ca), .val (.int (1 : Int32)), .val (.ref bb), .val (.int (1 : Int32)), .val (.int (3 : Int32)), .val (.int (1 : Int32)), .val (.int c0)] [(.int (1 : Int32)), (.ref ca)])) (fun tz kz => ?_) ?_
    · show Steps p.tables e below (T4.setTop (mkF m 32 #[.val (.ref ca), .val (.int (0 : Int32)), .val (.ref bb), .val (.int (0 : Int32)), .val (.int (3 : Int32)), .val (.int (0 : Int32)), .val (.int c0)] [])) _
      refine XS.iinc X4.here hx rfl (hb hby d8_32) rfl (l' := #[.val (.ref ca), .val (.int (1 : Int32)), .val (.ref bb), .val (.int (0 : Int32)), .val (.int (3 : Int32)), .val (.int (0 : Int32)), .val (.int c0)]) rfl ?_
      refine XS.iinc X4.here hx rfl (hb hby d8_35) rfl (l' := #[.val (.ref ca), .val (.int (1 : Int32)), .val (.ref bb), .val (.int (1 : Int32)), .val (.int (3 : Int32)), .val (.int (0 : Int32)), .val (.int c0)]) rfl ?_
      refine XS.iinc X4.here hx rfl (hb hby d8_38) rfl (l' := #[.val (.ref ca), .val (.int (1 : Int32)), .val (.ref bb), .val (.int (1 : Int32)), .val (.int (3 : Int32)), .val (.int (1 : Int32)), .val (.int c0)]) rfl ?_
      refine XS.goto X4.here hx rfl (pc0 := 41) (pc' := 3) rfl (hb hby d8_41) (by decide) (by decide) ?_
      refine XS.iload X4.here hx rfl (hb hby d8_3) rfl ?_
      refine XS.iload X4.here hx rfl (hb hby d8_5) rfl ?_
      refine XS.icmpNo X4.here hx rfl (hb hby d8_7) rfl (tlt (by first | decide | rfl)).2.1 ?_
      refine XS.aloadN X4.here hx rfl (hb hby d8_10) rfl rfl ?_
      refine XS.iloadN X4.here hx rfl (hb hby d8_11) rfl ?_
      exact kz
    obtain ⟨cl5, Ar5, q5, Sz5, Nn5, Hs5, G5⟩ := (id C4)
    refine Goes.via (S' := T4.setTop (mkF m 20 #[.val (.ref ca), .val (.int (1 : Int32)), .val (.ref bb), .val (.int (1 : Int32)), .val (.int (3 : Int32)), .val (.int (1 : Int32)), .val (.int c1)] [(.int (255 : Int32)), (.int c1)])) (fun tz kz => ?_) ?_
    · show Steps p.tables e below (T4.setTop (mkF m 12 #[.val (.ref ca), .val (.int (1 : Int32)), .val (.ref bb), .val (.int (1 : Int32)), .val (.int (3 : Int32)), .val (.int (1 : Int32)), .val (.int c0)] [(.int (1 : Int32)), (.ref ca)])) _
      refine X4.caload hx (j := (1 : Int32)) (v := (.int c1)) (by rw [e4]; exact Ar5.1) (State.isArrayOf_alike hZ.alike Ar5.2.1) Ar5.2.2 (inb_of Sz5 ⟨by decide, by decide⟩) (Has.at Hs5 (inb_of Sz5 ⟨by decide, by decide⟩) rfl) (g := (mkF m 12 #[.val (.ref ca), .val (.int (1 : Int32)), .val (.ref bb), .val (.int (1 : Int32)), .val (.int (3 : Int32)), .val (.int (1 : Int32)), .val (.int c0)] [(.int (1 : Int32)), (.ref ca)])) rfl rfl (hb hby d8_12) _ ?_
      refine XS.istore X4.here hx rfl (hb hby d8_13) rfl (l' := #[.val (.ref ca), .val (.int (1 : Int32)), .val (.ref bb), .val (.int (1 : Int32)), .val (.int (3 : Int32)), .val (.int (1 : Int32)), .val (.int c1)]) rfl ?_
      refine XS.iload X4.here hx rfl (hb hby d8_15) rfl ?_
      refine XS.sipush X4.here hx rfl (hb hby d8_17) ?_
      exact kz
    by_cases hc20_6 : (255 : Int32) < c1
    · refine Goes.via (S' := T4.setTop (mkF m 25 #[.val (.ref ca), .val (.int (1 : Int32)), .val (.ref bb), .val (.int (1 : Int32)), .val (.int (3 : Int32)), .val (.int (1 : Int32)), .val (.int c1)] [(.int (1 : Int32))])) (fun tz kz => ?_) ?_
      · show Steps p.tables e below (T4.setTop (mkF m 20 #[.val (.ref ca), .val (.int (1 : Int32)), .val (.ref bb), .val (.int (1 : Int32)), .val (.int (3 : Int32)), .val (.int (1 : Int32)), .val (.int c1)] [(.int (255 : Int32)), (.int c1)])) _
        refine XS.icmpNo X4.here hx rfl (hb hby d8_20) rfl (tlt hc20_6).2.2.2 ?_
        refine XS.iload X4.here hx rfl (hb hby d8_23) rfl ?_
        exact kz
      exact Goes.retI X4 hx Bd.notSynchronized Bd.returns (hb hby d8_25) (nb_ rfl) (nb_ rfl) (by rw [e4]; exact ⟨(1 : Int32), rfl, N4, K4, Or.inr ⟨(2 : Int32), (3 : Int32), c1, by decide, rfl, rfl, ⟨by decide, by decide⟩, ⟨by decide, by decide⟩, rfl, rfl, z1, hc20_6⟩⟩)
    · refine Goes.via (S' := T4.setTop (mkF m 31 #[.val (.ref ca), .val (.int (1 : Int32)), .val (.ref bb), .val (.int (1 : Int32)), .val (.int (3 : Int32)), .val (.int (1 : Int32)), .val (.int c1)] [(.int (c1.toInt8.toInt32)), (.int (1 : Int32)), (.ref bb)])) (fun tz kz => ?_) ?_
      · show Steps p.tables e below (T4.setTop (mkF m 20 #[.val (.ref ca), .val (.int (1 : Int32)), .val (.ref bb), .val (.int (1 : Int32)), .val (.int (3 : Int32)), .val (.int (1 : Int32)), .val (.int c1)] [(.int (255 : Int32)), (.int c1)])) _
        refine XS.icmpYes X4.here hx rfl (pc0 := 20) (pc' := 26) rfl (hb hby d8_20) rfl (flt hc20_6).2.2.2 (by decide) (by decide) ?_
        refine XS.aloadN X4.here hx rfl (hb hby d8_26) rfl rfl ?_
        refine XS.iloadN X4.here hx rfl (hb hby d8_27) rfl ?_
        refine XS.iload X4.here hx rfl (hb hby d8_28) rfl ?_
        refine XS.i2b X4.here hx rfl (hb hby d8_30) rfl ?_
        exact kz
      obtain ⟨cl7, Ar7, q7, Sz7, Nn7, Hs7, G7⟩ := (id A4)
      obtain ⟨T8, h8, X8, e8, W8, st8⟩ := stB X4 hx hZ e4 Ar7 (j := (1 : Int32)) (inb_of Sz7 ⟨by decide, by decide⟩) (g := (mkF m 31 #[.val (.ref ca), .val (.int (1 : Int32)), .val (.ref bb), .val (.int (1 : Int32)), .val (.int (3 : Int32)), .val (.int (1 : Int32)), .val (.int c1)] [(.int (c1.toInt8.toInt32)), (.int (1 : Int32)), (.ref bb)])) rfl rfl (hb hby d8_31)
      refine Goes.via st8 ?_
      have N8 := Fr.snoc X8 N4 gb
      have C8 := (C4).other W8 nab
      have A8 := Arv.set Ar7 q7 Sz7 Nn7 Hs7 G7 (fits_nar_byte _) W8 1 rfl (Nat.le_of_ble_eq_true rfl)
      have K8 := (K4).wr W8 (Or.inl (List.mem_singleton.mpr rfl))
      refine Goes.via (S' := T8.setTop (mkF m 12 #[.val (.ref ca), .val (.int (2 : Int32)), .val (.ref bb), .val (.int (2 : Int32)), .val (.int (3 : Int32)), .val (.int (2 : Int32)), .val (.int c1)] [(.int (2 : Int32)), (.ref ca)])) (fun tz kz => ?_) ?_
      · show Steps p.tables e below (T8.setTop (mkF m 32 #[.val (.ref ca), .val (.int (1 : Int32)), .val (.ref bb), .val (.int (1 : Int32)), .val (.int (3 : Int32)), .val (.int (1 : Int32)), .val (.int c1)] [])) _
        refine XS.iinc X8.here hx rfl (hb hby d8_32) rfl (l' := #[.val (.ref ca), .val (.int (2 : Int32)), .val (.ref bb), .val (.int (1 : Int32)), .val (.int (3 : Int32)), .val (.int (1 : Int32)), .val (.int c1)]) rfl ?_
        refine XS.iinc X8.here hx rfl (hb hby d8_35) rfl (l' := #[.val (.ref ca), .val (.int (2 : Int32)), .val (.ref bb), .val (.int (2 : Int32)), .val (.int (3 : Int32)), .val (.int (1 : Int32)), .val (.int c1)]) rfl ?_
        refine XS.iinc X8.here hx rfl (hb hby d8_38) rfl (l' := #[.val (.ref ca), .val (.int (2 : Int32)), .val (.ref bb), .val (.int (2 : Int32)), .val (.int (3 : Int32)), .val (.int (2 : Int32)), .val (.int c1)]) rfl ?_
        refine XS.goto X8.here hx rfl (pc0 := 41) (pc' := 3) rfl (hb hby d8_41) (by decide) (by decide) ?_
        refine XS.iload X8.here hx rfl (hb hby d8_3) rfl ?_
        refine XS.iload X8.here hx rfl (hb hby d8_5) rfl ?_
        refine XS.icmpNo X8.here hx rfl (hb hby d8_7) rfl (tlt (by first | decide | rfl)).2.1 ?_
        refine XS.aloadN X8.here hx rfl (hb hby d8_10) rfl rfl ?_
        refine XS.iloadN X8.here hx rfl (hb hby d8_11) rfl ?_
        exact kz
      obtain ⟨cl9, Ar9, q9, Sz9, Nn9, Hs9, G9⟩ := (id C8)
      refine Goes.via (S' := T8.setTop (mkF m 20 #[.val (.ref ca), .val (.int (2 : Int32)), .val (.ref bb), .val (.int (2 : Int32)), .val (.int (3 : Int32)), .val (.int (2 : Int32)), .val (.int c2)] [(.int (255 : Int32)), (.int c2)])) (fun tz kz => ?_) ?_
      · show Steps p.tables e below (T8.setTop (mkF m 12 #[.val (.ref ca), .val (.int (2 : Int32)), .val (.ref bb), .val (.int (2 : Int32)), .val (.int (3 : Int32)), .val (.int (2 : Int32)), .val (.int c1)] [(.int (2 : Int32)), (.ref ca)])) _
        refine X8.caload hx (j := (2 : Int32)) (v := (.int c2)) (by rw [e8]; exact Ar9.1) (State.isArrayOf_alike hZ.alike Ar9.2.1) Ar9.2.2 (inb_of Sz9 ⟨by decide, by decide⟩) (Has.at Hs9 (inb_of Sz9 ⟨by decide, by decide⟩) rfl) (g := (mkF m 12 #[.val (.ref ca), .val (.int (2 : Int32)), .val (.ref bb), .val (.int (2 : Int32)), .val (.int (3 : Int32)), .val (.int (2 : Int32)), .val (.int c1)] [(.int (2 : Int32)), (.ref ca)])) rfl rfl (hb hby d8_12) _ ?_
        refine XS.istore X8.here hx rfl (hb hby d8_13) rfl (l' := #[.val (.ref ca), .val (.int (2 : Int32)), .val (.ref bb), .val (.int (2 : Int32)), .val (.int (3 : Int32)), .val (.int (2 : Int32)), .val (.int c2)]) rfl ?_
        refine XS.iload X8.here hx rfl (hb hby d8_15) rfl ?_
        refine XS.sipush X8.here hx rfl (hb hby d8_17) ?_
        exact kz
      by_cases hc20_10 : (255 : Int32) < c2
      · refine Goes.via (S' := T8.setTop (mkF m 25 #[.val (.ref ca), .val (.int (2 : Int32)), .val (.ref bb), .val (.int (2 : Int32)), .val (.int (3 : Int32)), .val (.int (2 : Int32)), .val (.int c2)] [(.int (2 : Int32))])) (fun tz kz => ?_) ?_
        · show Steps p.tables e below (T8.setTop (mkF m 20 #[.val (.ref ca), .val (.int (2 : Int32)), .val (.ref bb), .val (.int (2 : Int32)), .val (.int (3 : Int32)), .val (.int (2 : Int32)), .val (.int c2)] [(.int (255 : Int32)), (.int c2)])) _
          refine XS.icmpNo X8.here hx rfl (hb hby d8_20) rfl (tlt hc20_10).2.2.2 ?_
          refine XS.iload X8.here hx rfl (hb hby d8_23) rfl ?_
          exact kz
        exact Goes.retI X8 hx Bd.notSynchronized Bd.returns (hb hby d8_25) (nb_ rfl) (nb_ rfl) (by rw [e8]; exact ⟨(2 : Int32), rfl, N8, K8, Or.inr ⟨(4 : Int32), (5 : Int32), c2, by decide, rfl, rfl, ⟨by decide, by decide⟩, ⟨by decide, by decide⟩, rfl, rfl, z2, hc20_10⟩⟩)
      · refine Goes.via (S' := T8.setTop (mkF m 31 #[.val (.ref ca), .val (.int (2 : Int32)), .val (.ref bb), .val (.int (2 : Int32)), .val (.int (3 : Int32)), .val (.int (2 : Int32)), .val (.int c2)] [(.int (c2.toInt8.toInt32)), (.int (2 : Int32)), (.ref bb)])) (fun tz kz => ?_) ?_
        · show Steps p.tables e below (T8.setTop (mkF m 20 #[.val (.ref ca), .val (.int (2 : Int32)), .val (.ref bb), .val (.int (2 : Int32)), .val (.int (3 : Int32)), .val (.int (2 : Int32)), .val (.int c2)] [(.int (255 : Int32)), (.int c2)])) _
          refine XS.icmpYes X8.here hx rfl (pc0 := 20) (pc' := 26) rfl (hb hby d8_20) rfl (flt hc20_10).2.2.2 (by decide) (by decide) ?_
          refine XS.aloadN X8.here hx rfl (hb hby d8_26) rfl rfl ?_
          refine XS.iloadN X8.here hx rfl (hb hby d8_27) rfl ?_
          refine XS.iload X8.here hx rfl (hb hby d8_28) rfl ?_
          refine XS.i2b X8.here hx rfl (hb hby d8_30) rfl ?_
          exact kz
        obtain ⟨cl11, Ar11, q11, Sz11, Nn11, Hs11, G11⟩ := (id A8)
        obtain ⟨T12, h12, X12, e12, W12, st12⟩ := stB X8 hx hZ e8 Ar11 (j := (2 : Int32)) (inb_of Sz11 ⟨by decide, by decide⟩) (g := (mkF m 31 #[.val (.ref ca), .val (.int (2 : Int32)), .val (.ref bb), .val (.int (2 : Int32)), .val (.int (3 : Int32)), .val (.int (2 : Int32)), .val (.int c2)] [(.int (c2.toInt8.toInt32)), (.int (2 : Int32)), (.ref bb)])) rfl rfl (hb hby d8_31)
        refine Goes.via st12 ?_
        have N12 := Fr.snoc X12 N8 gb
        have C12 := (C8).other W12 nab
        have A12 := Arv.set Ar11 q11 Sz11 Nn11 Hs11 G11 (fits_nar_byte _) W12 2 rfl (Nat.le_of_ble_eq_true rfl)
        have K12 := (K8).wr W12 (Or.inl (List.mem_singleton.mpr rfl))
        refine Goes.via (S' := T12.setTop (mkF m 46 #[.val (.ref ca), .val (.int (3 : Int32)), .val (.ref bb), .val (.int (3 : Int32)), .val (.int (3 : Int32)), .val (.int (3 : Int32)), .val (.int c2)] [(.int (3 : Int32))])) (fun tz kz => ?_) ?_
        · show Steps p.tables e below (T12.setTop (mkF m 32 #[.val (.ref ca), .val (.int (2 : Int32)), .val (.ref bb), .val (.int (2 : Int32)), .val (.int (3 : Int32)), .val (.int (2 : Int32)), .val (.int c2)] [])) _
          refine XS.iinc X12.here hx rfl (hb hby d8_32) rfl (l' := #[.val (.ref ca), .val (.int (3 : Int32)), .val (.ref bb), .val (.int (2 : Int32)), .val (.int (3 : Int32)), .val (.int (2 : Int32)), .val (.int c2)]) rfl ?_
          refine XS.iinc X12.here hx rfl (hb hby d8_35) rfl (l' := #[.val (.ref ca), .val (.int (3 : Int32)), .val (.ref bb), .val (.int (3 : Int32)), .val (.int (3 : Int32)), .val (.int (2 : Int32)), .val (.int c2)]) rfl ?_
          refine XS.iinc X12.here hx rfl (hb hby d8_38) rfl (l' := #[.val (.ref ca), .val (.int (3 : Int32)), .val (.ref bb), .val (.int (3 : Int32)), .val (.int (3 : Int32)), .val (.int (3 : Int32)), .val (.int c2)]) rfl ?_
          refine XS.goto X12.here hx rfl (pc0 := 41) (pc' := 3) rfl (hb hby d8_41) (by decide) (by decide) ?_
          refine XS.iload X12.here hx rfl (hb hby d8_3) rfl ?_
          refine XS.iload X12.here hx rfl (hb hby d8_5) rfl ?_
          refine XS.icmpYes X12.here hx rfl (pc0 := 7) (pc' := 44) rfl (hb hby d8_7) rfl (flt (by first | decide | rfl)).2.1 (by decide) (by decide) ?_
          refine XS.iload X12.here hx rfl (hb hby d8_44) rfl ?_
          exact kz
        exact Goes.retI X12 hx Bd.notSynchronized Bd.returns (hb hby d8_46) (nb_ rfl) (nb_ rfl) (by rw [e12]; exact ⟨(3 : Int32), rfl, N12, K12, Or.inl ⟨rfl, ⟨hc20_2, hc20_6, hc20_10⟩, A12⟩⟩)
def Q_rc3_3 (Z : State) (ca : Addr) (ka : ClassId) (c0 c1 c2 : Int32) (h0 : Heap) (n0 : Nat) : Option Value → Heap → List Loc → Prop := fun v h L => ∃ b k, v = some (.ref b) ∧ Fr n0 L ∧ Keep h0 h [] ∧ @LE.le Nat _ h0.size b ∧ (((¬ (255 : Int32) < c0 ∧ ¬ (255 : Int32) < c1 ∧ ¬ (255 : Int32) < c2) ∧ Arv Z h b k .byte (3 : Int32) [.int (own_by c0), .int (own_by c1), .int (own_by c2)] (.int 0)) ∨ Arv Z h b k .byte (6 : Int32) [.int (own_lo c0), .int (own_hi c0), .int (own_lo c1), .int (own_hi c1), .int (own_lo c2), .int (own_hi c2)] (.int 0))
theorem rc3_3 (l : Launch) (Z : State) (a0 : Array Value) (hw : ∀ d ∈ tables_1, d.before a0 Z = true) (ws : List Jvm.Cond) (ca : Addr) (ka : ClassId) (c0 c1 c2 : Int32) (h0 : Heap) (n0 : Nat) (Z0 : n0 ≤ h0.size) (SA : Sta Z Z.heap "java/lang/StringUTF16" "$assertionsDisabled" "Z" (.int (1 : Int32))) (SH : Sta Z Z.heap "java/lang/StringUTF16" "HI_BYTE_SHIFT" "I" (.int (0 : Int32))) (SL : Sta Z Z.heap "java/lang/StringUTF16" "LO_BYTE_SHIFT" "I" (.int (8 : Int32))) (O0 : Old Z n0 h0) (C0 : Arv Z h0 ca ka .char (3 : Int32) [.int c0, .int c1, .int c2] (.int 0)) (z0 : nar .char c0 = c0) (z1 : nar .char c1 = c1) (z2 : nar .char c2 = c2) :
    own_M l Z n_6 (Jvm.Cond.code n_6 jdk_52_method_16_code 6 (some (.array .byte))) ws ({ frames := 3, cells := 2, slots := 9, locals := 60 } : Room) #[(.ref ca), (.int (0 : Int32)), (.int (3 : Int32))] h0 (Q_rc3_3 Z ca ka c0 c1 c2 h0 n0) := by
  refine MetFree.of_bodySF (plainFor_of_name pn_7) hisR ?_
  intro p e s m args below meth c s₁ Bd hml0 hP hK
  obtain ⟨rfl, hZ, hh⟩ := hP
  have hx := Bd.exec
  have hby := Bd.bytes
  have hml : c.maxLocals = 6 := hml0
  have hown : s.vm.findClass "java/lang/StringUTF16" = some m.cls := findClass_of_methodNamed Bd.named
  have hnm := (name_of_methodNamed Bd.named Bd.method).1
  have X0 : Stand p l e ({ frames := 3, cells := 2, slots := 9, locals := 60 } : Room) s m #[(.ref ca), (.int (0 : Int32)), (.int (3 : Int32))] below meth c s₁ [] 0 0 := Stand.of_body Bd
  have e0 : s₁.heap = h0 := by rw [← hh, Bd.state]; rfl
  have N0 := Fr.nil n0
  show Goes p e below (Fin s (Q_rc3_3 Z ca ka c0 c1 c2 h0 n0) ({ frames := 3, cells := 2, slots := 9, locals := 60 } : Room).cells ({ frames := 3, cells := 2, slots := 9, locals := 60 } : Room).slots) _
  refine Goes.via (S' := s₁.setTop (mkF m 0 #[.val (.ref ca), .val (.int (0 : Int32)), .val (.int (3 : Int32)), .unset, .unset, .unset] [])) (fun tz kz => castTop (ef_7 m ca (0 : Int32) (3 : Int32) ) kz) ?_
  refine Goes.via (S' := s₁.setTop (mkF m 1 #[.val (.ref ca), .val (.int (0 : Int32)), .val (.int (3 : Int32)), .unset, .unset, .unset] [(.int (3 : Int32))])) (fun tz kz => ?_) ?_
  · show Steps p.tables e below (s₁.setTop (mkF m 0 #[.val (.ref ca), .val (.int (0 : Int32)), .val (.int (3 : Int32)), .unset, .unset, .unset] [])) _
    refine XS.iloadN X0.here hx rfl (hb hby d7_0) rfl ?_
    exact kz
  obtain ⟨T1, h1, k1, X1, e1, E1, A1, st1⟩ := newP X0 hx hZ (w_ hw 30 rfl) e0 (g := (mkF m 1 #[.val (.ref ca), .val (.int (0 : Int32)), .val (.int (3 : Int32)), .unset, .unset, .unset] [(.int (3 : Int32))])) rfl (hb hby d7_1) rfl (by decide) (cap := 3) (by decide) (by decide) (by decide) (by decide)
  obtain ⟨b1, g1⟩ : ∃ z, z = h0.size := ⟨_, rfl⟩
  rw [← g1] at A1 st1
  refine Goes.via st1 ?_
  have B1 : Arv Z h1 b1 k1 .byte (3 : Int32) [.int 0, .int 0, .int 0] (.int 0) := (Arv.new A1 (by decide)).pad (pad_rep [] (.int 0) 3)
  have nab : ca ≠ b1 := adr_ne C0.lt g1 (Nat.le_refl _)
  have gb : n0 ≤ b1 := Nat.le_trans Z0 (Nat.le_of_eq g1.symm)
  refine Goes.via (S' := T1.setTop (mkF m 9 #[.val (.ref ca), .val (.int (0 : Int32)), .val (.int (3 : Int32)), .val (.ref b1), .unset, .unset] [(.int (3 : Int32)), (.int (0 : Int32)), (.ref b1), (.int (0 : Int32)), (.ref ca)])) (fun tz kz => ?_) ?_
  · show Steps p.tables e below (T1.setTop (mkF m 3 #[.val (.ref ca), .val (.int (0 : Int32)), .val (.int (3 : Int32)), .unset, .unset, .unset] [(.ref b1)])) _
    refine XS.astoreN X1.here hx rfl (hb hby d7_3) rfl rfl (l' := #[.val (.ref ca), .val (.int (0 : Int32)), .val (.int (3 : Int32)), .val (.ref b1), .unset, .unset]) rfl ?_
    refine XS.aloadN X1.here hx rfl (hb hby d7_4) rfl rfl ?_
    refine XS.iloadN X1.here hx rfl (hb hby d7_5) rfl ?_
    refine XS.aloadN X1.here hx rfl (hb hby d7_6) rfl rfl ?_
    refine XS.iconst X1.here hx rfl (hb hby d7_7) ?_
    refine XS.iloadN X1.here hx rfl (hb hby d7_8) rfl ?_
    exact kz
  obtain ⟨_, _, ⟨T2, L2, k2, n2⟩, -, X2, ⟨Lc2, hQ2, l2, y2, z2⟩, st2⟩ := Jvm.LawKit.callS X1 hx (y := n_5) hown (mvT hZ (w_ hw 31 rfl)) (mvT hZ (w_ hw 32 rfl)) (mvT hZ (w_ hw 28 rfl)) (mvT hZ (w_ hw 33 rfl)) (by decide) (backOf (W := 0) (rc5_3 l Z a0 hw [] ca b1 ka k1 c0 c1 c2 h1 n0 (Nat.le_trans Z0 E1.1) (C0.ext E1) B1 gb nab z0 z1 z2) hZ (w_ hw 33 rfl) (w_ hw 28 rfl) (by decide) (by decide)) (g := (mkF m 9 #[.val (.ref ca), .val (.int (0 : Int32)), .val (.int (3 : Int32)), .val (.ref b1), .unset, .unset] [(.int (3 : Int32)), (.int (0 : Int32)), (.ref b1), (.int (0 : Int32)), (.ref ca)])) rfl (by rw [hml]; rfl) (argsL := [(.ref ca), (.int (0 : Int32)), (.ref b1), (.int (0 : Int32)), (.int (3 : Int32))]) (rest := []) (lenOf pd_3 rfl) rfl (by show 2 * 0 + _ ≤ _; exact Nat.le_of_eq rfl) (hb hby d7_9) (fun _ _ => ⟨rfl, e1, (by decide : 1 + 0 ≤ _), (by decide : 3 + 0 ≤ _)⟩)
  dsimp only [Pt.U, Pt.locs, Pt.cells, Pt.slots] at X2 l2 y2 z2 st2 hQ2
  subst l2 y2 z2
  obtain ⟨j5, rfl, N2, K2, Dj⟩ := hQ2
  have Nf2 := Fr.app N0 N2
  refine Goes.via (st2) ?_
  have Ka := ((Keep.refl h0 []).ext E1).trans K2 (allS (Or.inr (Nat.le_of_eq g1.symm)) all0)
  have Ca := (C0.ext E1).keep K2 (fun q => nab (List.mem_singleton.mp q))
  have Oa := O0.keep Ka all0
  have Za := Nat.le_trans Z0 Ka.1
  rcases Dj with ⟨hj, ⟨s0, s1, s2⟩, BL⟩ | ⟨j0, j1, xx, hjn, hj0, hj1, q0, q1, g0, g1, zx, gx⟩
  · subst hj
    refine Goes.via (S' := T2.setTop (mkF m 58 #[.val (.ref ca), .val (.int (0 : Int32)), .val (.int (3 : Int32)), .val (.ref b1), .val (.int (3 : Int32)), .unset] [(.ref b1)])) (fun tz kz => ?_) ?_
    · show Steps p.tables e below (T2.setTop (mkF m 12 #[.val (.ref ca), .val (.int (0 : Int32)), .val (.int (3 : Int32)), .val (.ref b1), .unset, .unset] [(.int (3 : Int32))])) _
      refine XS.istore X2.here hx rfl (hb hby d7_12) rfl (l' := #[.val (.ref ca), .val (.int (0 : Int32)), .val (.int (3 : Int32)), .val (.ref b1), .val (.int (3 : Int32)), .unset]) rfl ?_
      refine XS.iload X2.here hx rfl (hb hby d7_14) rfl ?_
      refine XS.iloadN X2.here hx rfl (hb hby d7_16) rfl ?_
      refine XS.icmpYes X2.here hx rfl (pc0 := 17) (pc' := 57) rfl (hb hby d7_17) rfl (teq (by first | decide | rfl)).1 (by decide) (by decide) ?_
      refine XS.aloadN X2.here hx rfl (hb hby d7_57) rfl rfl ?_
      exact kz
    exact Goes.retO X2 hx Bd.notSynchronized Bd.returns rfl (Or.inr (Or.inr (Or.inr (Or.inr ⟨rfl, rfl, rfl⟩)))) (hb hby d7_58) (nb_ rfl) (nb_ rfl) ⟨b1, k1, rfl, Nf2, Ka, Nat.le_of_eq g1.symm, Or.inl ⟨⟨s0, s1, s2⟩, BL⟩⟩
  · skip
    refine Goes.via (S' := T2.setTop (mkF m 23 #[.val (.ref ca), .val (.int (0 : Int32)), .val (.int (3 : Int32)), .val (.ref b1), .val (.int j5), .unset] [(.int (3 : Int32)), (.int (0 : Int32)), (.ref ca)])) (fun tz kz => ?_) ?_
    · show Steps p.tables e below (T2.setTop (mkF m 12 #[.val (.ref ca), .val (.int (0 : Int32)), .val (.int (3 : Int32)), .val (.ref b1), .unset, .unset] [(.int j5)])) _
      refine XS.istore X2.here hx rfl (hb hby d7_12) rfl (l' := #[.val (.ref ca), .val (.int (0 : Int32)), .val (.int (3 : Int32)), .val (.ref b1), .val (.int j5), .unset]) rfl ?_
      refine XS.iload X2.here hx rfl (hb hby d7_14) rfl ?_
      refine XS.iloadN X2.here hx rfl (hb hby d7_16) rfl ?_
      refine XS.icmpNo X2.here hx rfl (hb hby d7_17) rfl (feq hjn).1 ?_
      refine XS.aloadN X2.here hx rfl (hb hby d7_20) rfl rfl ?_
      refine XS.iloadN X2.here hx rfl (hb hby d7_21) rfl ?_
      refine XS.iloadN X2.here hx rfl (hb hby d7_22) rfl ?_
      exact kz
    obtain ⟨_, _, ⟨T3, L3, k3, n3⟩, -, X3, ⟨Lc3, hQ3, l3, y3, z3⟩, st3⟩ := Jvm.LawKit.callS X2 hx (y := n_4) hown (mvT hZ (w_ hw 128 rfl)) (mvT hZ (w_ hw 129 rfl)) (mvT hZ (w_ hw 28 rfl)) (mvT hZ (w_ hw 130 rfl)) (by decide) (backOf (W := 0) (rtb_3 l Z a0 hw [] ca ka c0 c1 c2 T2.heap n0 Za SA SH SL Oa Ca) hZ (w_ hw 130 rfl) (w_ hw 28 rfl) (by decide) (by decide)) (g := (mkF m 23 #[.val (.ref ca), .val (.int (0 : Int32)), .val (.int (3 : Int32)), .val (.ref b1), .val (.int j5), .unset] [(.int (3 : Int32)), (.int (0 : Int32)), (.ref ca)])) rfl (by rw [hml]; rfl) (argsL := [(.ref ca), (.int (0 : Int32)), (.int (3 : Int32))]) (rest := []) (lenOf pd_4 rfl) rfl (by show 2 * 0 + _ ≤ _; exact Nat.le_of_eq rfl) (hb hby d7_23) (fun _ _ => ⟨rfl, rfl, (by decide : 1 + 1 ≤ _), (by decide : 3 + 6 ≤ _)⟩)
    dsimp only [Pt.U, Pt.locs, Pt.cells, Pt.slots] at X3 l3 y3 z3 st3 hQ3
    subst l3 y3 z3
    obtain ⟨ub, uk, rfl, N3, K3, B3, gu⟩ := hQ3
    have Nf3 := Fr.app Nf2 N3
    refine Goes.via (st3) ?_
    have Kb := Ka.trans K3 all0
    have Ob := O0.keep Kb all0
    have Zb := Nat.le_trans Z0 Kb.1
    have gh : @LE.le Nat _ h0.size ub := Nat.le_trans Ka.1 gu
    refine Goes.via (S' := T3.setTop (mkF m 32 #[.val (.ref ca), .val (.int (0 : Int32)), .val (.int (3 : Int32)), .val (.ref b1), .val (.int j5), .val (.ref ub)] [(.int j5), (.ref ub)])) (fun tz kz => ?_) ?_
    · show Steps p.tables e below (T3.setTop (mkF m 26 #[.val (.ref ca), .val (.int (0 : Int32)), .val (.int (3 : Int32)), .val (.ref b1), .val (.int j5), .unset] [(.ref ub)])) _
      refine XS.astore X3.here hx rfl (hb hby d7_26) rfl rfl (l' := #[.val (.ref ca), .val (.int (0 : Int32)), .val (.int (3 : Int32)), .val (.ref b1), .val (.int j5), .val (.ref ub)]) rfl ?_
      refine XS.aload X3.here hx rfl (hb hby d7_28) rfl rfl ?_
      refine XS.iload X3.here hx rfl (hb hby d7_30) rfl ?_
      exact kz
    obtain ⟨_, _, ⟨T4, L4, k4, n4⟩, -, X4, ⟨Lc4, hQ4, l4, y4, z4⟩, st4⟩ := Jvm.LawKit.callS X3 hx (y := n_1) hown (mvT hZ (w_ hw 144 rfl)) (mvT hZ (w_ hw 145 rfl)) (mvT hZ (w_ hw 28 rfl)) (mvT hZ (w_ hw 146 rfl)) (by decide) (backOf (W := 0) (rgc l Z a0 hw [] ub j5 uk (6 : Int32) j0 j1 xx _ T3.heap n0 Zb SA SH SL Ob B3 hj0 hj1 q0 q1 g0 g1 zx) hZ (w_ hw 146 rfl) (w_ hw 28 rfl) (by decide) (by decide)) (g := (mkF m 32 #[.val (.ref ca), .val (.int (0 : Int32)), .val (.int (3 : Int32)), .val (.ref b1), .val (.int j5), .val (.ref ub)] [(.int j5), (.ref ub)])) rfl (by rw [hml]; rfl) (argsL := [(.ref ub), (.int j5)]) (rest := []) (lenOf pd_5 rfl) rfl (by show 2 * 0 + _ ≤ _; exact Nat.le_of_eq rfl) (hb hby d7_32) (fun _ _ => ⟨rfl, rfl, (by decide : 2 + 0 ≤ _), (by decide : 9 + 0 ≤ _)⟩)
    dsimp only [Pt.U, Pt.locs, Pt.cells, Pt.slots] at X4 l4 y4 z4 st4 hQ4
    subst l4 y4 z4
    obtain ⟨rfl, N4, e4⟩ := hQ4
    have Nf4 := Fr.app Nf3 N4
    refine Goes.via (st4) ?_
    refine Goes.via (S' := T4.setTop (mkF m 56 #[.val (.ref ca), .val (.int (0 : Int32)), .val (.int (3 : Int32)), .val (.ref b1), .val (.int j5), .val (.ref ub)] [(.ref ub)])) (fun tz kz => ?_) ?_
    · show Steps p.tables e below (T4.setTop (mkF m 35 #[.val (.ref ca), .val (.int (0 : Int32)), .val (.int (3 : Int32)), .val (.ref b1), .val (.int j5), .val (.ref ub)] [(.int xx)])) _
      refine XS.sipush X4.here hx rfl (hb hby d7_35) ?_
      refine XS.icmpYes X4.here hx rfl (pc0 := 38) (pc' := 54) rfl (hb hby d7_38) rfl (tlt gx).2.2.1 (by decide) (by decide) ?_
      refine XS.aload X4.here hx rfl (hb hby d7_54) rfl rfl ?_
      exact kz
    exact Goes.retO X4 hx Bd.notSynchronized Bd.returns rfl (Or.inr (Or.inr (Or.inr (Or.inr ⟨rfl, rfl, rfl⟩)))) (hb hby d7_56) (nb_ rfl) (nb_ rfl) (by rw [e4]; exact ⟨ub, uk, rfl, Nf4, Kb, gh, Or.inr B3⟩)
def Q_rcc_33 (Z : State) (bb : Addr) (k : ClassId) (vs : List Value) (h0 : Heap) (n0 : Nat) : Option Value → Heap → List Loc → Prop := fun v h L => v = some (.int 0) ∧ Fr n0 L ∧ h = h0
theorem rcc_33 (l : Launch) (Z : State) (a0 : Array Value) (hw : ∀ d ∈ tables_1, d.before a0 Z = true) (ws : List Jvm.Cond) (bb : Addr) (k : ClassId) (vs : List Value) (h0 : Heap) (n0 : Nat) (Z0 : n0 ≤ h0.size) (B0 : Arv Z h0 bb k .byte (3 : Int32) vs (.int 0)) :
    own_M l Z n_7 (Jvm.Cond.code n_7 jdk_52_method_15_code 2 (some .byte)) ws ({ frames := 0, cells := 0, slots := 0, locals := 0 } : Room) #[(.ref bb), (.int (3 : Int32))] h0 (Q_rcc_33 Z bb k vs h0 n0) := by
  refine MetFree.of_bodySF (plainFor_of_name pn_9) hisR ?_
  intro p e s m args below meth c s₁ Bd hml0 hP hK
  obtain ⟨rfl, hZ, hh⟩ := hP
  have hx := Bd.exec
  have hby := Bd.bytes
  have hml : c.maxLocals = 2 := hml0
  have hown : s.vm.findClass "java/lang/StringUTF16" = some m.cls := findClass_of_methodNamed Bd.named
  have hnm := (name_of_methodNamed Bd.named Bd.method).1
  have X0 : Stand p l e ({ frames := 0, cells := 0, slots := 0, locals := 0 } : Room) s m #[(.ref bb), (.int (3 : Int32))] below meth c s₁ [] 0 0 := Stand.of_body Bd
  have e0 : s₁.heap = h0 := by rw [← hh, Bd.state]; rfl
  have N0 := Fr.nil n0
  show Goes p e below (Fin s (Q_rcc_33 Z bb k vs h0 n0) ({ frames := 0, cells := 0, slots := 0, locals := 0 } : Room).cells ({ frames := 0, cells := 0, slots := 0, locals := 0 } : Room).slots) _
  refine Goes.via (S' := s₁.setTop (mkF m 0 #[.val (.ref bb), .val (.int (3 : Int32))] [])) (fun tz kz => castTop (ef_9 m bb (3 : Int32) ) kz) ?_
  refine Goes.via (S' := s₁.setTop (mkF m 2 #[.val (.ref bb), .val (.int (3 : Int32))] [(.ref bb), (.int (3 : Int32))])) (fun tz kz => ?_) ?_
  · show Steps p.tables e below (s₁.setTop (mkF m 0 #[.val (.ref bb), .val (.int (3 : Int32))] [])) _
    refine XS.iloadN X0.here hx rfl (hb hby d9_0) rfl ?_
    refine XS.aloadN X0.here hx rfl (hb hby d9_1) rfl rfl ?_
    exact kz
  obtain ⟨cl1, Ar1, q1, Sz1, Nn1, Hs1, G1⟩ := (id B0)
  refine Goes.via (S' := s₁.setTop (mkF m 8 #[.val (.ref bb), .val (.int (3 : Int32))] [(.int ((((0 : Int32).toUInt32 >>> ((31 : Int32) &&& 31).toUInt32).toInt32).toInt8.toInt32))])) (fun tz kz => ?_) ?_
  · show Steps p.tables e below (s₁.setTop (mkF m 2 #[.val (.ref bb), .val (.int (3 : Int32))] [(.ref bb), (.int (3 : Int32))])) _
    refine X0.arraylength hx (by rw [e0]; exact Ar1.1) (State.isArrayOf_alike hZ.alike Ar1.2.1) (g := (mkF m 2 #[.val (.ref bb), .val (.int (3 : Int32))] [(.ref bb), (.int (3 : Int32))])) rfl rfl (hb hby d9_2) _ ?_
    rw [len_of Sz1 Nn1]
    refine XS.isub X0.here hx rfl (hb hby d9_3) rfl ?_
    refine XS.bipush X0.here hx rfl (hb hby d9_4) ?_
    refine XS.iushr X0.here hx rfl (hb hby d9_6) rfl ?_
    refine XS.i2b X0.here hx rfl (hb hby d9_7) rfl ?_
    exact kz
  exact Goes.retN X0 hx Bd.notSynchronized (t := .byte) Bd.returns (by simp) (hb hby d9_8) (nb_ rfl) (nb_ rfl) ⟨congrArg (fun z => some (Value.int z)) (by decide), N0, e0⟩
def Q_rcc_36 (Z : State) (bb : Addr) (k : ClassId) (vs : List Value) (h0 : Heap) (n0 : Nat) : Option Value → Heap → List Loc → Prop := fun v h L => v = some (.int 1) ∧ Fr n0 L ∧ h = h0
theorem rcc_36 (l : Launch) (Z : State) (a0 : Array Value) (hw : ∀ d ∈ tables_1, d.before a0 Z = true) (ws : List Jvm.Cond) (bb : Addr) (k : ClassId) (vs : List Value) (h0 : Heap) (n0 : Nat) (Z0 : n0 ≤ h0.size) (B0 : Arv Z h0 bb k .byte (6 : Int32) vs (.int 0)) :
    own_M l Z n_7 (Jvm.Cond.code n_7 jdk_52_method_15_code 2 (some .byte)) ws ({ frames := 0, cells := 0, slots := 0, locals := 0 } : Room) #[(.ref bb), (.int (3 : Int32))] h0 (Q_rcc_36 Z bb k vs h0 n0) := by
  refine MetFree.of_bodySF (plainFor_of_name pn_9) hisR ?_
  intro p e s m args below meth c s₁ Bd hml0 hP hK
  obtain ⟨rfl, hZ, hh⟩ := hP
  have hx := Bd.exec
  have hby := Bd.bytes
  have hml : c.maxLocals = 2 := hml0
  have hown : s.vm.findClass "java/lang/StringUTF16" = some m.cls := findClass_of_methodNamed Bd.named
  have hnm := (name_of_methodNamed Bd.named Bd.method).1
  have X0 : Stand p l e ({ frames := 0, cells := 0, slots := 0, locals := 0 } : Room) s m #[(.ref bb), (.int (3 : Int32))] below meth c s₁ [] 0 0 := Stand.of_body Bd
  have e0 : s₁.heap = h0 := by rw [← hh, Bd.state]; rfl
  have N0 := Fr.nil n0
  show Goes p e below (Fin s (Q_rcc_36 Z bb k vs h0 n0) ({ frames := 0, cells := 0, slots := 0, locals := 0 } : Room).cells ({ frames := 0, cells := 0, slots := 0, locals := 0 } : Room).slots) _
  refine Goes.via (S' := s₁.setTop (mkF m 0 #[.val (.ref bb), .val (.int (3 : Int32))] [])) (fun tz kz => castTop (ef_9 m bb (3 : Int32) ) kz) ?_
  refine Goes.via (S' := s₁.setTop (mkF m 2 #[.val (.ref bb), .val (.int (3 : Int32))] [(.ref bb), (.int (3 : Int32))])) (fun tz kz => ?_) ?_
  · show Steps p.tables e below (s₁.setTop (mkF m 0 #[.val (.ref bb), .val (.int (3 : Int32))] [])) _
    refine XS.iloadN X0.here hx rfl (hb hby d9_0) rfl ?_
    refine XS.aloadN X0.here hx rfl (hb hby d9_1) rfl rfl ?_
    exact kz
  obtain ⟨cl1, Ar1, q1, Sz1, Nn1, Hs1, G1⟩ := (id B0)
  refine Goes.via (S' := s₁.setTop (mkF m 8 #[.val (.ref bb), .val (.int (3 : Int32))] [(.int ((((-3 : Int32).toUInt32 >>> ((31 : Int32) &&& 31).toUInt32).toInt32).toInt8.toInt32))])) (fun tz kz => ?_) ?_
  · show Steps p.tables e below (s₁.setTop (mkF m 2 #[.val (.ref bb), .val (.int (3 : Int32))] [(.ref bb), (.int (3 : Int32))])) _
    refine X0.arraylength hx (by rw [e0]; exact Ar1.1) (State.isArrayOf_alike hZ.alike Ar1.2.1) (g := (mkF m 2 #[.val (.ref bb), .val (.int (3 : Int32))] [(.ref bb), (.int (3 : Int32))])) rfl rfl (hb hby d9_2) _ ?_
    rw [len_of Sz1 Nn1]
    refine XS.isub X0.here hx rfl (hb hby d9_3) rfl ?_
    refine XS.bipush X0.here hx rfl (hb hby d9_4) ?_
    refine XS.iushr X0.here hx rfl (hb hby d9_6) rfl ?_
    refine XS.i2b X0.here hx rfl (hb hby d9_7) rfl ?_
    exact kz
  exact Goes.retN X0 hx Bd.notSynchronized (t := .byte) Bd.returns (by simp) (hb hby d9_8) (nb_ rfl) (nb_ rfl) ⟨congrArg (fun z => some (Value.int z)) (by decide), N0, e0⟩
def Q_rn4_3 (Z : State) (a1 : Addr) (ca : Addr) (cs : Int32) (ka : ClassId) (c0 c1 c2 : Int32) (h0 : Heap) (n0 : Nat) : Option Value → Heap → List Loc → Prop := fun v h L => v = none ∧ Fr n0 L ∧ Keep h0 h [a1] ∧ ∃ b k, (((¬ (255 : Int32) < c0 ∧ ¬ (255 : Int32) < c1 ∧ ¬ (255 : Int32) < c2) ∧ own_Str Z h a1 b k (3 : Int32) [.int (own_by c0), .int (own_by c1), .int (own_by c2)]) ∨ own_StU Z h a1 b k (6 : Int32) [.int (own_lo c0), .int (own_hi c0), .int (own_lo c1), .int (own_hi c1), .int (own_lo c2), .int (own_hi c2)])
theorem rn4_3 (l : Launch) (Z : State) (a0 : Array Value) (hw : ∀ d ∈ tables_1, d.before a0 Z = true) (ws : List Jvm.Cond) (a1 : Addr) (ca : Addr) (cs : Int32) (ka : ClassId) (c0 c1 c2 : Int32) (h0 : Heap) (n0 : Nat) (Z0 : n0 ≤ h0.size) (SC : Sta Z Z.heap "java/lang/String" "COMPACT_STRINGS" "Z" (.int cs)) (hcs : ¬ cs = (0 : Int32)) (O0 : Old Z n0 h0) (SA : Sta Z Z.heap "java/lang/StringUTF16" "$assertionsDisabled" "Z" (.int (1 : Int32))) (SH : Sta Z Z.heap "java/lang/StringUTF16" "HI_BYTE_SHIFT" "I" (.int (0 : Int32))) (SL : Sta Z Z.heap "java/lang/StringUTF16" "LO_BYTE_SHIFT" "I" (.int (8 : Int32))) (FV : Fld Z h0 a1 "java/lang/String" "value" "[B" .null) (FC : Fld Z h0 a1 "java/lang/String" "coder" "B" (.int (0 : Int32))) (E1 : Exa Z h0 a1 "java/lang/String") (g1 : n0 ≤ a1) (C0 : Arv Z h0 ca ka .char (3 : Int32) [.int c0, .int c1, .int c2] (.int 0)) (z0 : nar .char c0 = c0) (z1 : nar .char c1 = c1) (z2 : nar .char c2 = c2) :
    own_M l Z n_8 (Jvm.Cond.code n_8 jdk_42_method_149_code 6 none) ws ({ frames := 4, cells := 2, slots := 9, locals := 84 } : Room) #[(.ref a1), (.ref ca), (.int (0 : Int32)), (.int (3 : Int32)), .null] h0 (Q_rn4_3 Z a1 ca cs ka c0 c1 c2 h0 n0) := by
  refine MetFree.of_bodySF (plainFor_of_name pn_5) hisR ?_
  intro p e s m args below meth c s₁ Bd hml0 hP hK
  obtain ⟨rfl, hZ, hh⟩ := hP
  have hx := Bd.exec
  have hby := Bd.bytes
  have hml : c.maxLocals = 6 := hml0
  have hown : s.vm.findClass "java/lang/String" = some m.cls := findClass_of_methodNamed Bd.named
  have hnm := (name_of_methodNamed Bd.named Bd.method).1
  have X0 : Stand p l e ({ frames := 4, cells := 2, slots := 9, locals := 84 } : Room) s m #[(.ref a1), (.ref ca), (.int (0 : Int32)), (.int (3 : Int32)), .null] below meth c s₁ [] 0 0 := Stand.of_body Bd
  have e0 : s₁.heap = h0 := by rw [← hh, Bd.state]; rfl
  have N0 := Fr.nil n0
  show Goes p e below (Fin s (Q_rn4_3 Z a1 ca cs ka c0 c1 c2 h0 n0) ({ frames := 4, cells := 2, slots := 9, locals := 84 } : Room).cells ({ frames := 4, cells := 2, slots := 9, locals := 84 } : Room).slots) _
  refine Goes.via (S' := s₁.setTop (mkF m 0 #[.val (.ref a1), .val (.ref ca), .val (.int (0 : Int32)), .val (.int (3 : Int32)), .val .null, .unset] [])) (fun tz kz => castTop (ef_5 m a1 ca (0 : Int32) (3 : Int32) ) kz) ?_
  refine Goes.via (S' := s₁.setTop (mkF m 1 #[.val (.ref a1), .val (.ref ca), .val (.int (0 : Int32)), .val (.int (3 : Int32)), .val .null, .unset] [(.ref a1)])) (fun tz kz => ?_) ?_
  · show Steps p.tables e below (s₁.setTop (mkF m 0 #[.val (.ref a1), .val (.ref ca), .val (.int (0 : Int32)), .val (.int (3 : Int32)), .val .null, .unset] [])) _
    refine XS.aloadN X0.here hx rfl (hb hby d5_0) rfl rfl ?_
    exact kz
  obtain ⟨T1, X1, e1, st1⟩ := initO X0 hx hZ hown (w_ hw 22 rfl) (w_ hw 23 rfl) (w_ hw 24 rfl) e0 (g := (mkF m 1 #[.val (.ref a1), .val (.ref ca), .val (.int (0 : Int32)), .val (.int (3 : Int32)), .val .null, .unset] [(.ref a1)])) rfl (by rw [hml]; rfl) rfl (hb hby d5_1) (by decide) (W := 0) (by show 2 * 0 + _ ≤ _; exact Nat.le_of_eq rfl) (by decide)
  refine Goes.via st1 ?_
  refine Goes.via (S' := T1.setTop (mkF m 27 #[.val (.ref a1), .val (.ref ca), .val (.int (0 : Int32)), .val (.int (3 : Int32)), .val .null, .unset] [])) (fun tz kz => ?_) ?_
  · show Steps p.tables e below (T1.setTop (mkF m 4 #[.val (.ref a1), .val (.ref ca), .val (.int (0 : Int32)), .val (.int (3 : Int32)), .val .null, .unset] [])) _
    refine XS.iloadN X1.here hx rfl (hb hby d5_4) rfl ?_
    refine XS.ifYes X1.here hx rfl (pc0 := 5) (pc' := 27) rfl (hb hby d5_5) rfl ((if0 _ _).trans (feq (by first | decide | rfl)).2) (by decide) (by decide) ?_
    exact kz
  obtain ⟨T2, X2, e2, st2⟩ := getS2 X1 hx hZ hown (host := "") (Or.inl (w_ hw 25 rfl)) Via.refl e1 (SC.ext O0.2) (g := (mkF m 27 #[.val (.ref a1), .val (.ref ca), .val (.int (0 : Int32)), .val (.int (3 : Int32)), .val .null, .unset] [])) rfl (hb hby d5_27)
  refine Goes.via st2 ?_
  refine Goes.via (S' := T2.setTop (mkF m 36 #[.val (.ref a1), .val (.ref ca), .val (.int (0 : Int32)), .val (.int (3 : Int32)), .val .null, .unset] [(.int (3 : Int32)), (.int (0 : Int32)), (.ref ca)])) (fun tz kz => ?_) ?_
  · show Steps p.tables e below (T2.setTop (mkF m 30 #[.val (.ref a1), .val (.ref ca), .val (.int (0 : Int32)), .val (.int (3 : Int32)), .val .null, .unset] [(.int cs)])) _
    refine XS.ifNo X2.here hx rfl (hb hby d5_30) rfl ((if0 _ _).trans (feq hcs).1) ?_
    refine XS.aloadN X2.here hx rfl (hb hby d5_33) rfl rfl ?_
    refine XS.iloadN X2.here hx rfl (hb hby d5_34) rfl ?_
    refine XS.iloadN X2.here hx rfl (hb hby d5_35) rfl ?_
    exact kz
  obtain ⟨_, _, ⟨T3, L3, k3, n3⟩, -, X3, ⟨Lc3, hQ3, l3, y3, z3⟩, st3⟩ := Jvm.LawKit.callS X2 hx (y := n_6) hown (mvT hZ (w_ hw 26 rfl)) (mvT hZ (w_ hw 27 rfl)) (mvT hZ (w_ hw 28 rfl)) (mvT hZ (w_ hw 29 rfl)) (by decide) (backOf (W := 0) (rc3_3 l Z a0 hw [] ca ka c0 c1 c2 h0 n0 Z0 SA SH SL O0 C0 z0 z1 z2) hZ (w_ hw 29 rfl) (w_ hw 28 rfl) (by decide) (by decide)) (g := (mkF m 36 #[.val (.ref a1), .val (.ref ca), .val (.int (0 : Int32)), .val (.int (3 : Int32)), .val .null, .unset] [(.int (3 : Int32)), (.int (0 : Int32)), (.ref ca)])) rfl (by rw [hml]; rfl) (argsL := [(.ref ca), (.int (0 : Int32)), (.int (3 : Int32))]) (rest := []) (lenOf pd_4 rfl) rfl (by show 2 * 0 + _ ≤ _; exact Nat.le_of_eq rfl) (hb hby d5_36) (fun _ _ => ⟨rfl, e2, (by decide : 0 + 2 ≤ _), (by decide : 0 + 9 ≤ _)⟩)
  dsimp only [Pt.U, Pt.locs, Pt.cells, Pt.slots] at X3 l3 y3 z3 st3 hQ3
  subst l3 y3 z3
  obtain ⟨vb, kb, rfl, N3, K3, gv, Dk⟩ := hQ3
  have Nf3 := Fr.app N0 N3
  refine Goes.via (st3) ?_
  rcases Dk with ⟨⟨s0, s1, s2⟩, Bv⟩ | Bv
  · skip
    refine Goes.via (S' := T3.setTop (mkF m 45 #[.val (.ref a1), .val (.ref ca), .val (.int (0 : Int32)), .val (.int (3 : Int32)), .val .null, .val (.ref vb)] [(.int (3 : Int32)), (.ref vb), (.ref a1)])) (fun tz kz => ?_) ?_
    · show Steps p.tables e below (T3.setTop (mkF m 39 #[.val (.ref a1), .val (.ref ca), .val (.int (0 : Int32)), .val (.int (3 : Int32)), .val .null, .unset] [(.ref vb)])) _
      refine XS.astore X3.here hx rfl (hb hby d5_39) rfl rfl (l' := #[.val (.ref a1), .val (.ref ca), .val (.int (0 : Int32)), .val (.int (3 : Int32)), .val .null, .val (.ref vb)]) rfl ?_
      refine XS.aloadN X3.here hx rfl (hb hby d5_41) rfl rfl ?_
      refine XS.aload X3.here hx rfl (hb hby d5_42) rfl rfl ?_
      refine XS.iloadN X3.here hx rfl (hb hby d5_44) rfl ?_
      exact kz
    obtain ⟨_, _, ⟨T4, L4, k4, n4⟩, -, X4, ⟨Lc4, hQ4, l4, y4, z4⟩, st4⟩ := Jvm.LawKit.callS X3 hx (y := n_7) hown (mvT hZ (w_ hw 34 rfl)) (mvT hZ (w_ hw 35 rfl)) (mvT hZ (w_ hw 28 rfl)) (mvT hZ (w_ hw 36 rfl)) (by decide) (backOf (W := 1) (rcc_33 l Z a0 hw [] vb kb _ T3.heap n0 (Nat.le_trans Z0 K3.1) Bv) hZ (w_ hw 36 rfl) (w_ hw 28 rfl) (by decide) (by decide)) (g := (mkF m 45 #[.val (.ref a1), .val (.ref ca), .val (.int (0 : Int32)), .val (.int (3 : Int32)), .val .null, .val (.ref vb)] [(.int (3 : Int32)), (.ref vb), (.ref a1)])) rfl (by rw [hml]; rfl) (argsL := [(.ref vb), (.int (3 : Int32))]) (rest := [(.ref a1)]) (lenOf pd_6 rfl) rfl (by show 2 * 0 + _ ≤ _; exact Nat.le_of_eq rfl) (hb hby d5_45) (fun _ _ => ⟨rfl, rfl, (by decide : 2 + 0 ≤ _), (by decide : 9 + 0 ≤ _)⟩)
    dsimp only [Pt.U, Pt.locs, Pt.cells, Pt.slots] at X4 l4 y4 z4 st4 hQ4
    subst l4 y4 z4
    obtain ⟨rfl, N4, e4⟩ := hQ4
    have Nf4 := Fr.app Nf3 N4
    refine Goes.via (st4) ?_
    have Ea := E1.keep K3
    have GV := FV.keep K3 nin0
    have GC := FC.keep K3 nin0
    have nb : a1 ≠ vb := Nat.ne_of_lt (Nat.lt_of_lt_of_le E1.lt gv)
    obtain ⟨T5, h5, X5, e5, W5, st5⟩ := putFN X4 hx hZ hown (w_ hw 37 rfl) Via.refl e4 GC Ea (Or.inr ⟨(w_ hw 38 rfl), rfl, hnm⟩) (w_ hw 12 rfl) (ty := .byte) (v' := (.int (nar .byte (0 : Int32)))) (by decide) rfl (fits_nar_byte _) (g := (mkF m 48 #[.val (.ref a1), .val (.ref ca), .val (.int (0 : Int32)), .val (.int (3 : Int32)), .val .null, .val (.ref vb)] [(.int (0 : Int32)), (.ref a1)])) rfl rfl (hb hby d5_48)
    refine Goes.via st5 ?_
    have N5 := Fr.snoc X5 Nf4 g1
    have HC : Fld Z h5 a1 "java/lang/String" "coder" "B" (.int (0 : Int32)) := GC.same W5
    have HV := GV.other W5 (Or.inr (slot_ne (Or.inr (w_ hw 40 rfl)) (Or.inr (w_ hw 38 rfl)) (by decide) (t := (.array .byte)) (t' := .byte) (by decide) (by decide)))
    have Eb := Ea.wr W5
    have Bb := Bv.other W5 (Ne.symm nb)
    refine Goes.via (S' := T5.setTop (mkF m 54 #[.val (.ref a1), .val (.ref ca), .val (.int (0 : Int32)), .val (.int (3 : Int32)), .val .null, .val (.ref vb)] [(.ref vb), (.ref a1)])) (fun tz kz => ?_) ?_
    · show Steps p.tables e below (T5.setTop (mkF m 51 #[.val (.ref a1), .val (.ref ca), .val (.int (0 : Int32)), .val (.int (3 : Int32)), .val .null, .val (.ref vb)] [])) _
      refine XS.aloadN X5.here hx rfl (hb hby d5_51) rfl rfl ?_
      refine XS.aload X5.here hx rfl (hb hby d5_52) rfl rfl ?_
      exact kz
    obtain ⟨T6, h6, X6, e6, W6, st6⟩ := putF X5 hx hZ hown (host := "") (Or.inl (w_ hw 39 rfl)) Via.refl e5 HV Eb (Or.inr ⟨(w_ hw 40 rfl), rfl, hnm⟩) (w_ hw 12 rfl) (ty := (.array .byte)) (by decide) rfl rfl (g := (mkF m 54 #[.val (.ref a1), .val (.ref ca), .val (.int (0 : Int32)), .val (.int (3 : Int32)), .val .null, .val (.ref vb)] [(.ref vb), (.ref a1)])) rfl rfl (hb hby d5_54)
    refine Goes.via st6 ?_
    have N6 := Fr.snoc X6 N5 g1
    have JV := HV.same W6
    have JC := HC.other W6 (Or.inr (slot_ne (Or.inr (w_ hw 38 rfl)) (Or.inr (w_ hw 40 rfl)) (by decide) (t := .byte) (t' := (.array .byte)) (by decide) (by decide)))
    have Ec := Eb.wr W6
    have Bc := Bb.other W6 (Ne.symm nb)
    have Kq : Keep h0 h6 [a1] := (((Keep.refl h0 [a1]).trans K3 all0).wr W5 (Or.inl (List.mem_singleton.mpr rfl))).wr W6 (Or.inl (List.mem_singleton.mpr rfl))
    exact Goes.retV X6 hx Bd.notSynchronized Bd.returns (hb hby d5_57) (nb_ rfl) (nb_ rfl) (by rw [e6]; exact ⟨rfl, N6, Kq, vb, kb, Or.inl ⟨⟨s0, s1, s2⟩, Ec, JC, JV, Bc⟩⟩)
  · skip
    refine Goes.via (S' := T3.setTop (mkF m 45 #[.val (.ref a1), .val (.ref ca), .val (.int (0 : Int32)), .val (.int (3 : Int32)), .val .null, .val (.ref vb)] [(.int (3 : Int32)), (.ref vb), (.ref a1)])) (fun tz kz => ?_) ?_
    · show Steps p.tables e below (T3.setTop (mkF m 39 #[.val (.ref a1), .val (.ref ca), .val (.int (0 : Int32)), .val (.int (3 : Int32)), .val .null, .unset] [(.ref vb)])) _
      refine XS.astore X3.here hx rfl (hb hby d5_39) rfl rfl (l' := #[.val (.ref a1), .val (.ref ca), .val (.int (0 : Int32)), .val (.int (3 : Int32)), .val .null, .val (.ref vb)]) rfl ?_
      refine XS.aloadN X3.here hx rfl (hb hby d5_41) rfl rfl ?_
      refine XS.aload X3.here hx rfl (hb hby d5_42) rfl rfl ?_
      refine XS.iloadN X3.here hx rfl (hb hby d5_44) rfl ?_
      exact kz
    obtain ⟨_, _, ⟨T7, L7, k7, n7⟩, -, X7, ⟨Lc7, hQ7, l7, y7, z7⟩, st7⟩ := Jvm.LawKit.callS X3 hx (y := n_7) hown (mvT hZ (w_ hw 34 rfl)) (mvT hZ (w_ hw 35 rfl)) (mvT hZ (w_ hw 28 rfl)) (mvT hZ (w_ hw 36 rfl)) (by decide) (backOf (W := 1) (rcc_36 l Z a0 hw [] vb kb _ T3.heap n0 (Nat.le_trans Z0 K3.1) Bv) hZ (w_ hw 36 rfl) (w_ hw 28 rfl) (by decide) (by decide)) (g := (mkF m 45 #[.val (.ref a1), .val (.ref ca), .val (.int (0 : Int32)), .val (.int (3 : Int32)), .val .null, .val (.ref vb)] [(.int (3 : Int32)), (.ref vb), (.ref a1)])) rfl (by rw [hml]; rfl) (argsL := [(.ref vb), (.int (3 : Int32))]) (rest := [(.ref a1)]) (lenOf pd_6 rfl) rfl (by show 2 * 0 + _ ≤ _; exact Nat.le_of_eq rfl) (hb hby d5_45) (fun _ _ => ⟨rfl, rfl, (by decide : 2 + 0 ≤ _), (by decide : 9 + 0 ≤ _)⟩)
    dsimp only [Pt.U, Pt.locs, Pt.cells, Pt.slots] at X7 l7 y7 z7 st7 hQ7
    subst l7 y7 z7
    obtain ⟨rfl, N7, e7⟩ := hQ7
    have Nf7 := Fr.app Nf3 N7
    refine Goes.via (st7) ?_
    have Ea := E1.keep K3
    have GV := FV.keep K3 nin0
    have GC := FC.keep K3 nin0
    have nb : a1 ≠ vb := Nat.ne_of_lt (Nat.lt_of_lt_of_le E1.lt gv)
    obtain ⟨T8, h8, X8, e8, W8, st8⟩ := putFN X7 hx hZ hown (w_ hw 37 rfl) Via.refl e7 GC Ea (Or.inr ⟨(w_ hw 38 rfl), rfl, hnm⟩) (w_ hw 12 rfl) (ty := .byte) (v' := (.int (nar .byte (1 : Int32)))) (by decide) rfl (fits_nar_byte _) (g := (mkF m 48 #[.val (.ref a1), .val (.ref ca), .val (.int (0 : Int32)), .val (.int (3 : Int32)), .val .null, .val (.ref vb)] [(.int (1 : Int32)), (.ref a1)])) rfl rfl (hb hby d5_48)
    refine Goes.via st8 ?_
    have N8 := Fr.snoc X8 Nf7 g1
    have HC : Fld Z h8 a1 "java/lang/String" "coder" "B" (.int (1 : Int32)) := GC.same W8
    have HV := GV.other W8 (Or.inr (slot_ne (Or.inr (w_ hw 40 rfl)) (Or.inr (w_ hw 38 rfl)) (by decide) (t := (.array .byte)) (t' := .byte) (by decide) (by decide)))
    have Eb := Ea.wr W8
    have Bb := Bv.other W8 (Ne.symm nb)
    refine Goes.via (S' := T8.setTop (mkF m 54 #[.val (.ref a1), .val (.ref ca), .val (.int (0 : Int32)), .val (.int (3 : Int32)), .val .null, .val (.ref vb)] [(.ref vb), (.ref a1)])) (fun tz kz => ?_) ?_
    · show Steps p.tables e below (T8.setTop (mkF m 51 #[.val (.ref a1), .val (.ref ca), .val (.int (0 : Int32)), .val (.int (3 : Int32)), .val .null, .val (.ref vb)] [])) _
      refine XS.aloadN X8.here hx rfl (hb hby d5_51) rfl rfl ?_
      refine XS.aload X8.here hx rfl (hb hby d5_52) rfl rfl ?_
      exact kz
    obtain ⟨T9, h9, X9, e9, W9, st9⟩ := putF X8 hx hZ hown (host := "") (Or.inl (w_ hw 39 rfl)) Via.refl e8 HV Eb (Or.inr ⟨(w_ hw 40 rfl), rfl, hnm⟩) (w_ hw 12 rfl) (ty := (.array .byte)) (by decide) rfl rfl (g := (mkF m 54 #[.val (.ref a1), .val (.ref ca), .val (.int (0 : Int32)), .val (.int (3 : Int32)), .val .null, .val (.ref vb)] [(.ref vb), (.ref a1)])) rfl rfl (hb hby d5_54)
    refine Goes.via st9 ?_
    have N9 := Fr.snoc X9 N8 g1
    have JV := HV.same W9
    have JC := HC.other W9 (Or.inr (slot_ne (Or.inr (w_ hw 38 rfl)) (Or.inr (w_ hw 40 rfl)) (by decide) (t := .byte) (t' := (.array .byte)) (by decide) (by decide)))
    have Ec := Eb.wr W9
    have Bc := Bb.other W9 (Ne.symm nb)
    have Kq : Keep h0 h9 [a1] := (((Keep.refl h0 [a1]).trans K3 all0).wr W8 (Or.inl (List.mem_singleton.mpr rfl))).wr W9 (Or.inl (List.mem_singleton.mpr rfl))
    exact Goes.retV X9 hx Bd.notSynchronized Bd.returns (hb hby d5_57) (nb_ rfl) (nb_ rfl) (by rw [e9]; exact ⟨rfl, N9, Kq, vb, kb, Or.inr ⟨Ec, JC, JV, Bc⟩⟩)
def Q_rn1_3 (Z : State) (a1 : Addr) (ca : Addr) (cs : Int32) (ka : ClassId) (c0 c1 c2 : Int32) (h0 : Heap) (n0 : Nat) : Option Value → Heap → List Loc → Prop := fun v h L => v = none ∧ Fr n0 L ∧ Keep h0 h [a1] ∧ ∃ b k, (((¬ (255 : Int32) < c0 ∧ ¬ (255 : Int32) < c1 ∧ ¬ (255 : Int32) < c2) ∧ own_Str Z h a1 b k (3 : Int32) [.int (own_by c0), .int (own_by c1), .int (own_by c2)]) ∨ own_StU Z h a1 b k (6 : Int32) [.int (own_lo c0), .int (own_hi c0), .int (own_lo c1), .int (own_hi c1), .int (own_lo c2), .int (own_hi c2)])
theorem rn1_3 (l : Launch) (Z : State) (a0 : Array Value) (hw : ∀ d ∈ tables_1, d.before a0 Z = true) (ws : List Jvm.Cond) (a1 : Addr) (ca : Addr) (cs : Int32) (ka : ClassId) (c0 c1 c2 : Int32) (h0 : Heap) (n0 : Nat) (Z0 : n0 ≤ h0.size) (SC : Sta Z Z.heap "java/lang/String" "COMPACT_STRINGS" "Z" (.int cs)) (hcs : ¬ cs = (0 : Int32)) (O0 : Old Z n0 h0) (SA : Sta Z Z.heap "java/lang/StringUTF16" "$assertionsDisabled" "Z" (.int (1 : Int32))) (SH : Sta Z Z.heap "java/lang/StringUTF16" "HI_BYTE_SHIFT" "I" (.int (0 : Int32))) (SL : Sta Z Z.heap "java/lang/StringUTF16" "LO_BYTE_SHIFT" "I" (.int (8 : Int32))) (FV : Fld Z h0 a1 "java/lang/String" "value" "[B" .null) (FC : Fld Z h0 a1 "java/lang/String" "coder" "B" (.int (0 : Int32))) (E1 : Exa Z h0 a1 "java/lang/String") (g1 : n0 ≤ a1) (C0 : Arv Z h0 ca ka .char (3 : Int32) [.int c0, .int c1, .int c2] (.int 0)) (z0 : nar .char c0 = c0) (z1 : nar .char c1 = c1) (z2 : nar .char c2 = c2) :
    own_M l Z n_9 (Jvm.Cond.code n_9 jdk_42_method_3_code 2 none) ws ({ frames := 5, cells := 2, slots := 9, locals := 106 } : Room) #[(.ref a1), (.ref ca)] h0 (Q_rn1_3 Z a1 ca cs ka c0 c1 c2 h0 n0) := by
  refine MetFree.of_bodySF (plainFor_of_name pn_4) hisR ?_
  intro p e s m args below meth c s₁ Bd hml0 hP hK
  obtain ⟨rfl, hZ, hh⟩ := hP
  have hx := Bd.exec
  have hby := Bd.bytes
  have hml : c.maxLocals = 2 := hml0
  have hown : s.vm.findClass "java/lang/String" = some m.cls := findClass_of_methodNamed Bd.named
  have hnm := (name_of_methodNamed Bd.named Bd.method).1
  have X0 : Stand p l e ({ frames := 5, cells := 2, slots := 9, locals := 106 } : Room) s m #[(.ref a1), (.ref ca)] below meth c s₁ [] 0 0 := Stand.of_body Bd
  have e0 : s₁.heap = h0 := by rw [← hh, Bd.state]; rfl
  have N0 := Fr.nil n0
  show Goes p e below (Fin s (Q_rn1_3 Z a1 ca cs ka c0 c1 c2 h0 n0) ({ frames := 5, cells := 2, slots := 9, locals := 106 } : Room).cells ({ frames := 5, cells := 2, slots := 9, locals := 106 } : Room).slots) _
  refine Goes.via (S' := s₁.setTop (mkF m 0 #[.val (.ref a1), .val (.ref ca)] [])) (fun tz kz => castTop (ef_4 m a1 ca ) kz) ?_
  refine Goes.via (S' := s₁.setTop (mkF m 4 #[.val (.ref a1), .val (.ref ca)] [(.ref ca), (.int (0 : Int32)), (.ref ca), (.ref a1)])) (fun tz kz => ?_) ?_
  · show Steps p.tables e below (s₁.setTop (mkF m 0 #[.val (.ref a1), .val (.ref ca)] [])) _
    refine XS.aloadN X0.here hx rfl (hb hby d4_0) rfl rfl ?_
    refine XS.aloadN X0.here hx rfl (hb hby d4_1) rfl rfl ?_
    refine XS.iconst X0.here hx rfl (hb hby d4_2) ?_
    refine XS.aloadN X0.here hx rfl (hb hby d4_3) rfl rfl ?_
    exact kz
  obtain ⟨cl1, Ar1, q1, Sz1, Nn1, Hs1, G1⟩ := (id C0)
  refine Goes.via (S' := s₁.setTop (mkF m 6 #[.val (.ref a1), .val (.ref ca)] [.null, (.int (3 : Int32)), (.int (0 : Int32)), (.ref ca), (.ref a1)])) (fun tz kz => ?_) ?_
  · show Steps p.tables e below (s₁.setTop (mkF m 4 #[.val (.ref a1), .val (.ref ca)] [(.ref ca), (.int (0 : Int32)), (.ref ca), (.ref a1)])) _
    refine X0.arraylength hx (by rw [e0]; exact Ar1.1) (State.isArrayOf_alike hZ.alike Ar1.2.1) (g := (mkF m 4 #[.val (.ref a1), .val (.ref ca)] [(.ref ca), (.int (0 : Int32)), (.ref ca), (.ref a1)])) rfl rfl (hb hby d4_4) _ ?_
    rw [len_of Sz1 Nn1]
    refine XS.aconstNull X0.here hx rfl (hb hby d4_5) ?_
    exact kz
  obtain ⟨_, _, ⟨T2, L2, k2, n2⟩, -, X2, ⟨Lc2, hQ2, l2, y2, z2⟩, st2⟩ := X0.specialBack hx (y := n_8) rfl hown (mvT hZ (w_ hw 18 rfl)) (mvT hZ (w_ hw 19 rfl)) (mvT hZ (w_ hw 21 rfl)) (by decide) (backOf (W := 0) (rn4_3 l Z a0 hw [] a1 ca cs ka c0 c1 c2 h0 n0 Z0 SC hcs O0 SA SH SL FV FC E1 g1 C0 z0 z1 z2) hZ (w_ hw 21 rfl) (w_ hw 13 rfl) (by decide) (by decide)) (g := (mkF m 6 #[.val (.ref a1), .val (.ref ca)] [.null, (.int (3 : Int32)), (.int (0 : Int32)), (.ref ca), (.ref a1)])) rfl (by rw [hml]; rfl) (Steps.refl _) (a := a1) (argsL := [(.ref ca), (.int (0 : Int32)), (.int (3 : Int32)), .null]) (rest := []) (lenOf pd_7 rfl) rfl (by show 2 * 0 + _ ≤ _; exact Nat.le_of_eq rfl) (hb hby d4_6) (fun _ _ => ⟨rfl, e0, (by decide : 0 + 2 ≤ _), (by decide : 0 + 9 ≤ _)⟩)
  dsimp only [Pt.U, Pt.locs, Pt.cells, Pt.slots] at X2 l2 y2 z2 st2 hQ2
  subst l2 y2 z2
  obtain ⟨rfl, N2, K2, vb, kb, S2⟩ := hQ2
  have Nf2 := Fr.app N0 N2
  refine Goes.via (fun _ kz => st2.trans kz) ?_
  exact Goes.retV X2 hx Bd.notSynchronized Bd.returns (hb hby d4_9) (nb_ rfl) (nb_ rfl) ⟨rfl, Nf2, K2, vb, kb, S2⟩
def Q_rnbl_4 (Z : State)   (h0 : Heap) (n0 : Nat) : Option Value → Heap → List Loc → Prop := fun v h L => v = some (.int (8 : Int32)) ∧ Fr n0 L ∧ h = h0
theorem rnbl_4 (l : Launch) (Z : State) (a0 : Array Value) (hw : ∀ d ∈ tables_1, d.before a0 Z = true) (ws : List Jvm.Cond)   (h0 : Heap) (n0 : Nat) (Z0 : n0 ≤ h0.size) :
    own_M l Z n_2 (Jvm.Cond.code n_2 jdk_52_method_3_code 1 (some .int)) ws ({ frames := 0, cells := 0, slots := 0, locals := 0 } : Room) #[(.int (4 : Int32))] h0 (Q_rnbl_4 Z  h0 n0) := by
  refine MetFree.of_bodySF (plainFor_of_name pn_32) hisR ?_
  intro p e s m args below meth c s₁ Bd hml0 hP hK
  obtain ⟨rfl, hZ, hh⟩ := hP
  have hx := Bd.exec
  have hby := Bd.bytes
  have hml : c.maxLocals = 1 := hml0
  have hown : s.vm.findClass "java/lang/StringUTF16" = some m.cls := findClass_of_methodNamed Bd.named
  have hnm := (name_of_methodNamed Bd.named Bd.method).1
  have X0 : Stand p l e ({ frames := 0, cells := 0, slots := 0, locals := 0 } : Room) s m #[(.int (4 : Int32))] below meth c s₁ [] 0 0 := Stand.of_body Bd
  have e0 : s₁.heap = h0 := by rw [← hh, Bd.state]; rfl
  have N0 := Fr.nil n0
  show Goes p e below (Fin s (Q_rnbl_4 Z  h0 n0) ({ frames := 0, cells := 0, slots := 0, locals := 0 } : Room).cells ({ frames := 0, cells := 0, slots := 0, locals := 0 } : Room).slots) _
  refine Goes.via (S' := s₁.setTop (mkF m 0 #[.val (.int (4 : Int32))] [])) (fun tz kz => castTop (ef_32 m (4 : Int32) ) kz) ?_
  refine Goes.via (S' := s₁.setTop (mkF m 58 #[.val (.int (4 : Int32))] [(.int (8 : Int32))])) (fun tz kz => ?_) ?_
  · show Steps p.tables e below (s₁.setTop (mkF m 0 #[.val (.int (4 : Int32))] [])) _
    refine XS.iloadN X0.here hx rfl (hb hby d32_0) rfl ?_
    refine XS.ifYes X0.here hx rfl (pc0 := 1) (pc' := 12) rfl (hb hby d32_1) rfl ((if0 _ _).trans (flt (by first | decide | rfl)).2.1) (by decide) (by decide) ?_
    refine XS.iloadN X0.here hx rfl (hb hby d32_12) rfl ?_
    refine X0.ldcInt hx hown (mvT hZ (w_ hw 137 rfl)) (g := (mkF m 13 #[.val (.int (4 : Int32))] [(.int (4 : Int32))])) rfl (hb hby d32_13) _ ?_
    refine XS.icmpYes X0.here hx rfl (pc0 := 15) (pc' := 55) rfl (hb hby d32_15) rfl (tlt (by first | decide | rfl)).1 (by decide) (by decide) ?_
    refine XS.iloadN X0.here hx rfl (hb hby d32_55) rfl ?_
    refine XS.iconst X0.here hx rfl (hb hby d32_56) ?_
    refine XS.ishl X0.here hx rfl (hb hby d32_57) rfl ?_
    exact kz
  exact Goes.retI X0 hx Bd.notSynchronized Bd.returns (hb hby d32_58) (nb_ rfl) (nb_ rfl) ⟨rfl, N0, e0⟩
def Q_rnbf_4 (Z : State)   (h0 : Heap) (n0 : Nat) : Option Value → Heap → List Loc → Prop := fun v h L => ∃ b k, v = some (.ref b) ∧ Fr n0 L ∧ Keep h0 h [] ∧ Arv Z h b k .byte (8 : Int32) [.int 0, .int 0, .int 0, .int 0, .int 0, .int 0, .int 0, .int 0] (.int 0) ∧ @LE.le Nat _ h0.size b
theorem rnbf_4 (l : Launch) (Z : State) (a0 : Array Value) (hw : ∀ d ∈ tables_1, d.before a0 Z = true) (ws : List Jvm.Cond)   (h0 : Heap) (n0 : Nat) (Z0 : n0 ≤ h0.size) :
    own_M l Z n_3 (Jvm.Cond.code n_3 jdk_52_method_2_code 1 (some (.array .byte))) ws ({ frames := 1, cells := 1, slots := 8, locals := 16 } : Room) #[(.int (4 : Int32))] h0 (Q_rnbf_4 Z  h0 n0) := by
  refine MetFree.of_bodySF (plainFor_of_name pn_31) hisR ?_
  intro p e s m args below meth c s₁ Bd hml0 hP hK
  obtain ⟨rfl, hZ, hh⟩ := hP
  have hx := Bd.exec
  have hby := Bd.bytes
  have hml : c.maxLocals = 1 := hml0
  have hown : s.vm.findClass "java/lang/StringUTF16" = some m.cls := findClass_of_methodNamed Bd.named
  have hnm := (name_of_methodNamed Bd.named Bd.method).1
  have X0 : Stand p l e ({ frames := 1, cells := 1, slots := 8, locals := 16 } : Room) s m #[(.int (4 : Int32))] below meth c s₁ [] 0 0 := Stand.of_body Bd
  have e0 : s₁.heap = h0 := by rw [← hh, Bd.state]; rfl
  have N0 := Fr.nil n0
  show Goes p e below (Fin s (Q_rnbf_4 Z  h0 n0) ({ frames := 1, cells := 1, slots := 8, locals := 16 } : Room).cells ({ frames := 1, cells := 1, slots := 8, locals := 16 } : Room).slots) _
  refine Goes.via (S' := s₁.setTop (mkF m 0 #[.val (.int (4 : Int32))] [])) (fun tz kz => castTop (ef_31 m (4 : Int32) ) kz) ?_
  refine Goes.via (S' := s₁.setTop (mkF m 1 #[.val (.int (4 : Int32))] [(.int (4 : Int32))])) (fun tz kz => ?_) ?_
  · show Steps p.tables e below (s₁.setTop (mkF m 0 #[.val (.int (4 : Int32))] [])) _
    refine XS.iloadN X0.here hx rfl (hb hby d31_0) rfl ?_
    exact kz
  obtain ⟨_, _, ⟨T1, L1, k1, n1⟩, -, X1, ⟨Lc1, hQ1, l1, y1, z1⟩, st1⟩ := Jvm.LawKit.callS X0 hx (y := n_2) hown (mvT hZ (w_ hw 134 rfl)) (mvT hZ (w_ hw 135 rfl)) (mvT hZ (w_ hw 28 rfl)) (mvT hZ (w_ hw 136 rfl)) (by decide) (backOf (W := 0) (rnbl_4 l Z a0 hw [] h0 n0 Z0) hZ (w_ hw 136 rfl) (w_ hw 28 rfl) (by decide) (by decide)) (g := (mkF m 1 #[.val (.int (4 : Int32))] [(.int (4 : Int32))])) rfl (by rw [hml]; rfl) (argsL := [(.int (4 : Int32))]) (rest := []) (lenOf pd_0 rfl) rfl (by show 2 * 0 + _ ≤ _; exact Nat.le_of_eq rfl) (hb hby d31_1) (fun _ _ => ⟨rfl, e0, (by decide : 0 + 0 ≤ _), (by decide : 0 + 0 ≤ _)⟩)
  dsimp only [Pt.U, Pt.locs, Pt.cells, Pt.slots] at X1 l1 y1 z1 st1 hQ1
  subst l1 y1 z1
  obtain ⟨rfl, N1, e1⟩ := hQ1
  have Nf1 := Fr.app N0 N1
  refine Goes.via (st1) ?_
  obtain ⟨T2, h2, k2, X2, e2, E2, A2, st2⟩ := newP X1 hx hZ (w_ hw 30 rfl) e1 (g := (mkF m 4 #[.val (.int (4 : Int32))] [(.int (8 : Int32))])) rfl (hb hby d31_4) rfl (by decide) (cap := 8) (by decide) (by decide) (by decide) (by decide)
  obtain ⟨b2, g2⟩ : ∃ z, z = h0.size := ⟨_, rfl⟩
  rw [← g2] at A2 st2
  refine Goes.via st2 ?_
  have B2 : Arv Z h2 b2 k2 .byte (8 : Int32) [.int 0, .int 0, .int 0, .int 0, .int 0, .int 0, .int 0, .int 0] (.int 0) := (Arv.new A2 (by decide)).pad (pad_rep [] (.int 0) 8)
  exact Goes.retO X2 hx Bd.notSynchronized Bd.returns rfl (Or.inr (Or.inr (Or.inr (Or.inr ⟨rfl, rfl, rfl⟩)))) (hb hby d31_6) (nb_ rfl) (nb_ rfl) (by rw [e2]; exact ⟨b2, k2, rfl, Nf1, (Keep.refl h0 []).ext E2, B2, Nat.le_of_eq g2.symm⟩)
def Q_rtb_4 (Z : State) (ca : Addr) (ka : ClassId) (c0 c1 c2 c3 : Int32) (h0 : Heap) (n0 : Nat) : Option Value → Heap → List Loc → Prop := fun v h L => ∃ b k, v = some (.ref b) ∧ Fr n0 L ∧ Keep h0 h [] ∧ Arv Z h b k .byte (8 : Int32) [.int (own_lo c0), .int (own_hi c0), .int (own_lo c1), .int (own_hi c1), .int (own_lo c2), .int (own_hi c2), .int (own_lo c3), .int (own_hi c3)] (.int 0) ∧ @LE.le Nat _ h0.size b
theorem rtb_4 (l : Launch) (Z : State) (a0 : Array Value) (hw : ∀ d ∈ tables_1, d.before a0 Z = true) (ws : List Jvm.Cond) (ca : Addr) (ka : ClassId) (c0 c1 c2 c3 : Int32) (h0 : Heap) (n0 : Nat) (Z0 : n0 ≤ h0.size) (SA : Sta Z Z.heap "java/lang/StringUTF16" "$assertionsDisabled" "Z" (.int (1 : Int32))) (SH : Sta Z Z.heap "java/lang/StringUTF16" "HI_BYTE_SHIFT" "I" (.int (0 : Int32))) (SL : Sta Z Z.heap "java/lang/StringUTF16" "LO_BYTE_SHIFT" "I" (.int (8 : Int32))) (O0 : Old Z n0 h0) (C0 : Arv Z h0 ca ka .char (4 : Int32) [.int c0, .int c1, .int c2, .int c3] (.int 0)) :
    own_M l Z n_4 (Jvm.Cond.code n_4 jdk_52_method_14_code 5 (some (.array .byte))) ws ({ frames := 2, cells := 1, slots := 8, locals := 36 } : Room) #[(.ref ca), (.int (0 : Int32)), (.int (4 : Int32))] h0 (Q_rtb_4 Z ca ka c0 c1 c2 c3 h0 n0) := by
  refine MetFree.of_bodySF (plainFor_of_name pn_30) hisR ?_
  intro p e s m args below meth c s₁ Bd hml0 hP hK
  obtain ⟨rfl, hZ, hh⟩ := hP
  have hx := Bd.exec
  have hby := Bd.bytes
  have hml : c.maxLocals = 5 := hml0
  have hown : s.vm.findClass "java/lang/StringUTF16" = some m.cls := findClass_of_methodNamed Bd.named
  have hnm := (name_of_methodNamed Bd.named Bd.method).1
  have X0 : Stand p l e ({ frames := 2, cells := 1, slots := 8, locals := 36 } : Room) s m #[(.ref ca), (.int (0 : Int32)), (.int (4 : Int32))] below meth c s₁ [] 0 0 := Stand.of_body Bd
  have e0 : s₁.heap = h0 := by rw [← hh, Bd.state]; rfl
  have N0 := Fr.nil n0
  show Goes p e below (Fin s (Q_rtb_4 Z ca ka c0 c1 c2 c3 h0 n0) ({ frames := 2, cells := 1, slots := 8, locals := 36 } : Room).cells ({ frames := 2, cells := 1, slots := 8, locals := 36 } : Room).slots) _
  refine Goes.via (S' := s₁.setTop (mkF m 0 #[.val (.ref ca), .val (.int (0 : Int32)), .val (.int (4 : Int32)), .unset, .unset] [])) (fun tz kz => castTop (ef_30 m ca (0 : Int32) (4 : Int32) ) kz) ?_
  refine Goes.via (S' := s₁.setTop (mkF m 1 #[.val (.ref ca), .val (.int (0 : Int32)), .val (.int (4 : Int32)), .unset, .unset] [(.int (4 : Int32))])) (fun tz kz => ?_) ?_
  · show Steps p.tables e below (s₁.setTop (mkF m 0 #[.val (.ref ca), .val (.int (0 : Int32)), .val (.int (4 : Int32)), .unset, .unset] [])) _
    refine XS.iloadN X0.here hx rfl (hb hby d30_0) rfl ?_
    exact kz
  obtain ⟨_, _, ⟨T1, L1, k1, n1⟩, -, X1, ⟨Lc1, hQ1, l1, y1, z1⟩, st1⟩ := Jvm.LawKit.callS X0 hx (y := n_3) hown (mvT hZ (w_ hw 131 rfl)) (mvT hZ (w_ hw 132 rfl)) (mvT hZ (w_ hw 28 rfl)) (mvT hZ (w_ hw 133 rfl)) (by decide) (backOf (W := 0) (rnbf_4 l Z a0 hw []  h0 n0 Z0) hZ (w_ hw 133 rfl) (w_ hw 28 rfl) (by decide) (by decide)) (g := (mkF m 1 #[.val (.ref ca), .val (.int (0 : Int32)), .val (.int (4 : Int32)), .unset, .unset] [(.int (4 : Int32))])) rfl (by rw [hml]; rfl) (argsL := [(.int (4 : Int32))]) (rest := []) (lenOf pd_1 rfl) rfl (by show 2 * 0 + _ ≤ _; exact Nat.le_of_eq rfl) (hb hby d30_1) (fun _ _ => ⟨rfl, e0, (by decide : 0 + 1 ≤ _), (by decide : 0 + 8 ≤ _)⟩)
  dsimp only [Pt.U, Pt.locs, Pt.cells, Pt.slots] at X1 l1 y1 z1 st1 hQ1
  subst l1 y1 z1
  obtain ⟨nb, kn, rfl, N1, K1, B1, gv⟩ := hQ1
  have Nf1 := Fr.app N0 N1
  refine Goes.via (st1) ?_
  have C1 := C0.keep K1 nin0
  have O1 := O0.keep K1 all0
  have gb : n0 ≤ nb := Nat.le_trans Z0 gv
  have nab : ca ≠ nb := Nat.ne_of_lt (Nat.lt_of_lt_of_le C0.lt gv)
  have Z1 := Nat.le_trans Z0 K1.1
  refine Goes.via (S' := T1.setTop (mkF m 19 #[.val (.ref ca), .val (.int (0 : Int32)), .val (.int (4 : Int32)), .val (.ref nb), .val (.int (0 : Int32))] [(.int (0 : Int32)), (.ref ca), (.int (0 : Int32)), (.ref nb)])) (fun tz kz => ?_) ?_
  · show Steps p.tables e below (T1.setTop (mkF m 4 #[.val (.ref ca), .val (.int (0 : Int32)), .val (.int (4 : Int32)), .unset, .unset] [(.ref nb)])) _
    refine XS.astoreN X1.here hx rfl (hb hby d30_4) rfl rfl (l' := #[.val (.ref ca), .val (.int (0 : Int32)), .val (.int (4 : Int32)), .val (.ref nb), .unset]) rfl ?_
    refine XS.iconst X1.here hx rfl (hb hby d30_5) ?_
    refine XS.istore X1.here hx rfl (hb hby d30_6) rfl (l' := #[.val (.ref ca), .val (.int (0 : Int32)), .val (.int (4 : Int32)), .val (.ref nb), .val (.int (0 : Int32))]) rfl ?_
    refine XS.iload X1.here hx rfl (hb hby d30_8) rfl ?_
    refine XS.iloadN X1.here hx rfl (hb hby d30_10) rfl ?_
    refine XS.icmpNo X1.here hx rfl (hb hby d30_11) rfl (tlt (by first | decide | rfl)).2.1 ?_
    refine XS.aloadN X1.here hx rfl (hb hby d30_14) rfl rfl ?_
    refine XS.iload X1.here hx rfl (hb hby d30_15) rfl ?_
    refine XS.aloadN X1.here hx rfl (hb hby d30_17) rfl rfl ?_
    refine XS.iloadN X1.here hx rfl (hb hby d30_18) rfl ?_
    exact kz
  obtain ⟨cl2, Ar2, q2, Sz2, Nn2, Hs2, G2⟩ := (id C1)
  refine Goes.via (S' := T1.setTop (mkF m 20 #[.val (.ref ca), .val (.int (0 : Int32)), .val (.int (4 : Int32)), .val (.ref nb), .val (.int (0 : Int32))] [(.int c0), (.int (0 : Int32)), (.ref nb)])) (fun tz kz => ?_) ?_
  · show Steps p.tables e below (T1.setTop (mkF m 19 #[.val (.ref ca), .val (.int (0 : Int32)), .val (.int (4 : Int32)), .val (.ref nb), .val (.int (0 : Int32))] [(.int (0 : Int32)), (.ref ca), (.int (0 : Int32)), (.ref nb)])) _
    refine X1.caload hx (j := (0 : Int32)) (v := (.int c0)) (by exact Ar2.1) (State.isArrayOf_alike hZ.alike Ar2.2.1) Ar2.2.2 (inb_of Sz2 ⟨by decide, by decide⟩) (Has.at Hs2 (inb_of Sz2 ⟨by decide, by decide⟩) rfl) (g := (mkF m 19 #[.val (.ref ca), .val (.int (0 : Int32)), .val (.int (4 : Int32)), .val (.ref nb), .val (.int (0 : Int32))] [(.int (0 : Int32)), (.ref ca), (.int (0 : Int32)), (.ref nb)])) rfl rfl (hb hby d30_19) _ ?_
    exact kz
  obtain ⟨_, _, ⟨T3, L3, k3, n3⟩, -, X3, ⟨Lc3, hQ3, l3, y3, z3⟩, st3⟩ := Jvm.LawKit.callS X1 hx (y := n_0) hown (mvT hZ (w_ hw 138 rfl)) (mvT hZ (w_ hw 139 rfl)) (mvT hZ (w_ hw 28 rfl)) (mvT hZ (w_ hw 140 rfl)) (by decide) (backOf (W := 0) (rpc l Z a0 hw [] nb (0 : Int32) c0 kn (8 : Int32) (0 : Int32) (1 : Int32) 0 1 [.int 0, .int 0, .int 0, .int 0, .int 0, .int 0, .int 0, .int 0] T1.heap n0 Z1 SA SH SL O1 B1 gb rfl rfl ⟨by decide, by decide⟩ ⟨by decide, by decide⟩ rfl rfl (Nat.le_of_ble_eq_true rfl) (Nat.le_of_ble_eq_true rfl)) hZ (w_ hw 140 rfl) (w_ hw 28 rfl) (by decide) (by decide)) (g := (mkF m 20 #[.val (.ref ca), .val (.int (0 : Int32)), .val (.int (4 : Int32)), .val (.ref nb), .val (.int (0 : Int32))] [(.int c0), (.int (0 : Int32)), (.ref nb)])) rfl (by rw [hml]; rfl) (argsL := [(.ref nb), (.int (0 : Int32)), (.int c0)]) (rest := []) (lenOf pd_2 rfl) rfl (by show 2 * 0 + _ ≤ _; exact Nat.le_of_eq rfl) (hb hby d30_20) (fun _ _ => ⟨rfl, rfl, (by decide : 1 + 0 ≤ _), (by decide : 8 + 0 ≤ _)⟩)
  dsimp only [Pt.U, Pt.locs, Pt.cells, Pt.slots] at X3 l3 y3 z3 st3 hQ3
  subst l3 y3 z3
  obtain ⟨rfl, N3, K3, B3⟩ := hQ3
  have Nf3 := Fr.app Nf1 N3
  refine Goes.via (st3) ?_
  have B3 : Arv Z T3.heap nb kn .byte (8 : Int32) [.int (own_lo c0), .int (own_hi c0), .int 0, .int 0, .int 0, .int 0, .int 0, .int 0] (.int 0) := B3
  have C3 := C1.keep K3 (fun q => nab (List.mem_singleton.mp q))
  have O3 := O1.keep K3 (allS gb all0)
  have J3 := K1.trans K3 (allS (Or.inr gv) all0)
  have Z3 := Nat.le_trans Z1 K3.1
  refine Goes.via (S' := T3.setTop (mkF m 19 #[.val (.ref ca), .val (.int (1 : Int32)), .val (.int (4 : Int32)), .val (.ref nb), .val (.int (1 : Int32))] [(.int (1 : Int32)), (.ref ca), (.int (1 : Int32)), (.ref nb)])) (fun tz kz => ?_) ?_
  · show Steps p.tables e below (T3.setTop (mkF m 23 #[.val (.ref ca), .val (.int (0 : Int32)), .val (.int (4 : Int32)), .val (.ref nb), .val (.int (0 : Int32))] [])) _
    refine XS.iinc X3.here hx rfl (hb hby d30_23) rfl (l' := #[.val (.ref ca), .val (.int (1 : Int32)), .val (.int (4 : Int32)), .val (.ref nb), .val (.int (0 : Int32))]) rfl ?_
    refine XS.iinc X3.here hx rfl (hb hby d30_26) rfl (l' := #[.val (.ref ca), .val (.int (1 : Int32)), .val (.int (4 : Int32)), .val (.ref nb), .val (.int (1 : Int32))]) rfl ?_
    refine XS.goto X3.here hx rfl (pc0 := 29) (pc' := 8) rfl (hb hby d30_29) (by decide) (by decide) ?_
    refine XS.iload X3.here hx rfl (hb hby d30_8) rfl ?_
    refine XS.iloadN X3.here hx rfl (hb hby d30_10) rfl ?_
    refine XS.icmpNo X3.here hx rfl (hb hby d30_11) rfl (tlt (by first | decide | rfl)).2.1 ?_
    refine XS.aloadN X3.here hx rfl (hb hby d30_14) rfl rfl ?_
    refine XS.iload X3.here hx rfl (hb hby d30_15) rfl ?_
    refine XS.aloadN X3.here hx rfl (hb hby d30_17) rfl rfl ?_
    refine XS.iloadN X3.here hx rfl (hb hby d30_18) rfl ?_
    exact kz
  obtain ⟨cl4, Ar4, q4, Sz4, Nn4, Hs4, G4⟩ := (id C3)
  refine Goes.via (S' := T3.setTop (mkF m 20 #[.val (.ref ca), .val (.int (1 : Int32)), .val (.int (4 : Int32)), .val (.ref nb), .val (.int (1 : Int32))] [(.int c1), (.int (1 : Int32)), (.ref nb)])) (fun tz kz => ?_) ?_
  · show Steps p.tables e below (T3.setTop (mkF m 19 #[.val (.ref ca), .val (.int (1 : Int32)), .val (.int (4 : Int32)), .val (.ref nb), .val (.int (1 : Int32))] [(.int (1 : Int32)), (.ref ca), (.int (1 : Int32)), (.ref nb)])) _
    refine X3.caload hx (j := (1 : Int32)) (v := (.int c1)) (by exact Ar4.1) (State.isArrayOf_alike hZ.alike Ar4.2.1) Ar4.2.2 (inb_of Sz4 ⟨by decide, by decide⟩) (Has.at Hs4 (inb_of Sz4 ⟨by decide, by decide⟩) rfl) (g := (mkF m 19 #[.val (.ref ca), .val (.int (1 : Int32)), .val (.int (4 : Int32)), .val (.ref nb), .val (.int (1 : Int32))] [(.int (1 : Int32)), (.ref ca), (.int (1 : Int32)), (.ref nb)])) rfl rfl (hb hby d30_19) _ ?_
    exact kz
  obtain ⟨_, _, ⟨T5, L5, k5, n5⟩, -, X5, ⟨Lc5, hQ5, l5, y5, z5⟩, st5⟩ := Jvm.LawKit.callS X3 hx (y := n_0) hown (mvT hZ (w_ hw 138 rfl)) (mvT hZ (w_ hw 139 rfl)) (mvT hZ (w_ hw 28 rfl)) (mvT hZ (w_ hw 140 rfl)) (by decide) (backOf (W := 0) (rpc l Z a0 hw [] nb (1 : Int32) c1 kn (8 : Int32) (2 : Int32) (3 : Int32) 2 3 [.int (own_lo c0), .int (own_hi c0), .int 0, .int 0, .int 0, .int 0, .int 0, .int 0] T3.heap n0 Z3 SA SH SL O3 B3 gb rfl rfl ⟨by decide, by decide⟩ ⟨by decide, by decide⟩ rfl rfl (Nat.le_of_ble_eq_true rfl) (Nat.le_of_ble_eq_true rfl)) hZ (w_ hw 140 rfl) (w_ hw 28 rfl) (by decide) (by decide)) (g := (mkF m 20 #[.val (.ref ca), .val (.int (1 : Int32)), .val (.int (4 : Int32)), .val (.ref nb), .val (.int (1 : Int32))] [(.int c1), (.int (1 : Int32)), (.ref nb)])) rfl (by rw [hml]; rfl) (argsL := [(.ref nb), (.int (1 : Int32)), (.int c1)]) (rest := []) (lenOf pd_2 rfl) rfl (by show 2 * 0 + _ ≤ _; exact Nat.le_of_eq rfl) (hb hby d30_20) (fun _ _ => ⟨rfl, rfl, (by decide : 1 + 0 ≤ _), (by decide : 8 + 0 ≤ _)⟩)
  dsimp only [Pt.U, Pt.locs, Pt.cells, Pt.slots] at X5 l5 y5 z5 st5 hQ5
  subst l5 y5 z5
  obtain ⟨rfl, N5, K5, B5⟩ := hQ5
  have Nf5 := Fr.app Nf3 N5
  refine Goes.via (st5) ?_
  have B5 : Arv Z T5.heap nb kn .byte (8 : Int32) [.int (own_lo c0), .int (own_hi c0), .int (own_lo c1), .int (own_hi c1), .int 0, .int 0, .int 0, .int 0] (.int 0) := B5
  have C5 := C3.keep K5 (fun q => nab (List.mem_singleton.mp q))
  have O5 := O3.keep K5 (allS gb all0)
  have J5 := J3.trans K5 (allS (Or.inr gv) all0)
  have Z5 := Nat.le_trans Z3 K5.1
  refine Goes.via (S' := T5.setTop (mkF m 19 #[.val (.ref ca), .val (.int (2 : Int32)), .val (.int (4 : Int32)), .val (.ref nb), .val (.int (2 : Int32))] [(.int (2 : Int32)), (.ref ca), (.int (2 : Int32)), (.ref nb)])) (fun tz kz => ?_) ?_
  · show Steps p.tables e below (T5.setTop (mkF m 23 #[.val (.ref ca), .val (.int (1 : Int32)), .val (.int (4 : Int32)), .val (.ref nb), .val (.int (1 : Int32))] [])) _
    refine XS.iinc X5.here hx rfl (hb hby d30_23) rfl (l' := #[.val (.ref ca), .val (.int (2 : Int32)), .val (.int (4 : Int32)), .val (.ref nb), .val (.int (1 : Int32))]) rfl ?_
    refine XS.iinc X5.here hx rfl (hb hby d30_26) rfl (l' := #[.val (.ref ca), .val (.int (2 : Int32)), .val (.int (4 : Int32)), .val (.ref nb), .val (.int (2 : Int32))]) rfl ?_
    refine XS.goto X5.here hx rfl (pc0 := 29) (pc' := 8) rfl (hb hby d30_29) (by decide) (by decide) ?_
    refine XS.iload X5.here hx rfl (hb hby d30_8) rfl ?_
    refine XS.iloadN X5.here hx rfl (hb hby d30_10) rfl ?_
    refine XS.icmpNo X5.here hx rfl (hb hby d30_11) rfl (tlt (by first | decide | rfl)).2.1 ?_
    refine XS.aloadN X5.here hx rfl (hb hby d30_14) rfl rfl ?_
    refine XS.iload X5.here hx rfl (hb hby d30_15) rfl ?_
    refine XS.aloadN X5.here hx rfl (hb hby d30_17) rfl rfl ?_
    refine XS.iloadN X5.here hx rfl (hb hby d30_18) rfl ?_
    exact kz
  obtain ⟨cl6, Ar6, q6, Sz6, Nn6, Hs6, G6⟩ := (id C5)
  refine Goes.via (S' := T5.setTop (mkF m 20 #[.val (.ref ca), .val (.int (2 : Int32)), .val (.int (4 : Int32)), .val (.ref nb), .val (.int (2 : Int32))] [(.int c2), (.int (2 : Int32)), (.ref nb)])) (fun tz kz => ?_) ?_
  · show Steps p.tables e below (T5.setTop (mkF m 19 #[.val (.ref ca), .val (.int (2 : Int32)), .val (.int (4 : Int32)), .val (.ref nb), .val (.int (2 : Int32))] [(.int (2 : Int32)), (.ref ca), (.int (2 : Int32)), (.ref nb)])) _
    refine X5.caload hx (j := (2 : Int32)) (v := (.int c2)) (by exact Ar6.1) (State.isArrayOf_alike hZ.alike Ar6.2.1) Ar6.2.2 (inb_of Sz6 ⟨by decide, by decide⟩) (Has.at Hs6 (inb_of Sz6 ⟨by decide, by decide⟩) rfl) (g := (mkF m 19 #[.val (.ref ca), .val (.int (2 : Int32)), .val (.int (4 : Int32)), .val (.ref nb), .val (.int (2 : Int32))] [(.int (2 : Int32)), (.ref ca), (.int (2 : Int32)), (.ref nb)])) rfl rfl (hb hby d30_19) _ ?_
    exact kz
  obtain ⟨_, _, ⟨T7, L7, k7, n7⟩, -, X7, ⟨Lc7, hQ7, l7, y7, z7⟩, st7⟩ := Jvm.LawKit.callS X5 hx (y := n_0) hown (mvT hZ (w_ hw 138 rfl)) (mvT hZ (w_ hw 139 rfl)) (mvT hZ (w_ hw 28 rfl)) (mvT hZ (w_ hw 140 rfl)) (by decide) (backOf (W := 0) (rpc l Z a0 hw [] nb (2 : Int32) c2 kn (8 : Int32) (4 : Int32) (5 : Int32) 4 5 [.int (own_lo c0), .int (own_hi c0), .int (own_lo c1), .int (own_hi c1), .int 0, .int 0, .int 0, .int 0] T5.heap n0 Z5 SA SH SL O5 B5 gb rfl rfl ⟨by decide, by decide⟩ ⟨by decide, by decide⟩ rfl rfl (Nat.le_of_ble_eq_true rfl) (Nat.le_of_ble_eq_true rfl)) hZ (w_ hw 140 rfl) (w_ hw 28 rfl) (by decide) (by decide)) (g := (mkF m 20 #[.val (.ref ca), .val (.int (2 : Int32)), .val (.int (4 : Int32)), .val (.ref nb), .val (.int (2 : Int32))] [(.int c2), (.int (2 : Int32)), (.ref nb)])) rfl (by rw [hml]; rfl) (argsL := [(.ref nb), (.int (2 : Int32)), (.int c2)]) (rest := []) (lenOf pd_2 rfl) rfl (by show 2 * 0 + _ ≤ _; exact Nat.le_of_eq rfl) (hb hby d30_20) (fun _ _ => ⟨rfl, rfl, (by decide : 1 + 0 ≤ _), (by decide : 8 + 0 ≤ _)⟩)
  dsimp only [Pt.U, Pt.locs, Pt.cells, Pt.slots] at X7 l7 y7 z7 st7 hQ7
  subst l7 y7 z7
  obtain ⟨rfl, N7, K7, B7⟩ := hQ7
  have Nf7 := Fr.app Nf5 N7
  refine Goes.via (st7) ?_
  have B7 : Arv Z T7.heap nb kn .byte (8 : Int32) [.int (own_lo c0), .int (own_hi c0), .int (own_lo c1), .int (own_hi c1), .int (own_lo c2), .int (own_hi c2), .int 0, .int 0] (.int 0) := B7
  have C7 := C5.keep K7 (fun q => nab (List.mem_singleton.mp q))
  have O7 := O5.keep K7 (allS gb all0)
  have J7 := J5.trans K7 (allS (Or.inr gv) all0)
  have Z7 := Nat.le_trans Z5 K7.1
  refine Goes.via (S' := T7.setTop (mkF m 19 #[.val (.ref ca), .val (.int (3 : Int32)), .val (.int (4 : Int32)), .val (.ref nb), .val (.int (3 : Int32))] [(.int (3 : Int32)), (.ref ca), (.int (3 : Int32)), (.ref nb)])) (fun tz kz => ?_) ?_
  · show Steps p.tables e below (T7.setTop (mkF m 23 #[.val (.ref ca), .val (.int (2 : Int32)), .val (.int (4 : Int32)), .val (.ref nb), .val (.int (2 : Int32))] [])) _
    refine XS.iinc X7.here hx rfl (hb hby d30_23) rfl (l' := #[.val (.ref ca), .val (.int (3 : Int32)), .val (.int (4 : Int32)), .val (.ref nb), .val (.int (2 : Int32))]) rfl ?_
    refine XS.iinc X7.here hx rfl (hb hby d30_26) rfl (l' := #[.val (.ref ca), .val (.int (3 : Int32)), .val (.int (4 : Int32)), .val (.ref nb), .val (.int (3 : Int32))]) rfl ?_
    refine XS.goto X7.here hx rfl (pc0 := 29) (pc' := 8) rfl (hb hby d30_29) (by decide) (by decide) ?_
    refine XS.iload X7.here hx rfl (hb hby d30_8) rfl ?_
    refine XS.iloadN X7.here hx rfl (hb hby d30_10) rfl ?_
    refine XS.icmpNo X7.here hx rfl (hb hby d30_11) rfl (tlt (by first | decide | rfl)).2.1 ?_
    refine XS.aloadN X7.here hx rfl (hb hby d30_14) rfl rfl ?_
    refine XS.iload X7.here hx rfl (hb hby d30_15) rfl ?_
    refine XS.aloadN X7.here hx rfl (hb hby d30_17) rfl rfl ?_
    refine XS.iloadN X7.here hx rfl (hb hby d30_18) rfl ?_
    exact kz
  obtain ⟨cl8, Ar8, q8, Sz8, Nn8, Hs8, G8⟩ := (id C7)
  refine Goes.via (S' := T7.setTop (mkF m 20 #[.val (.ref ca), .val (.int (3 : Int32)), .val (.int (4 : Int32)), .val (.ref nb), .val (.int (3 : Int32))] [(.int c3), (.int (3 : Int32)), (.ref nb)])) (fun tz kz => ?_) ?_
  · show Steps p.tables e below (T7.setTop (mkF m 19 #[.val (.ref ca), .val (.int (3 : Int32)), .val (.int (4 : Int32)), .val (.ref nb), .val (.int (3 : Int32))] [(.int (3 : Int32)), (.ref ca), (.int (3 : Int32)), (.ref nb)])) _
    refine X7.caload hx (j := (3 : Int32)) (v := (.int c3)) (by exact Ar8.1) (State.isArrayOf_alike hZ.alike Ar8.2.1) Ar8.2.2 (inb_of Sz8 ⟨by decide, by decide⟩) (Has.at Hs8 (inb_of Sz8 ⟨by decide, by decide⟩) rfl) (g := (mkF m 19 #[.val (.ref ca), .val (.int (3 : Int32)), .val (.int (4 : Int32)), .val (.ref nb), .val (.int (3 : Int32))] [(.int (3 : Int32)), (.ref ca), (.int (3 : Int32)), (.ref nb)])) rfl rfl (hb hby d30_19) _ ?_
    exact kz
  obtain ⟨_, _, ⟨T9, L9, k9, n9⟩, -, X9, ⟨Lc9, hQ9, l9, y9, z9⟩, st9⟩ := Jvm.LawKit.callS X7 hx (y := n_0) hown (mvT hZ (w_ hw 138 rfl)) (mvT hZ (w_ hw 139 rfl)) (mvT hZ (w_ hw 28 rfl)) (mvT hZ (w_ hw 140 rfl)) (by decide) (backOf (W := 0) (rpc l Z a0 hw [] nb (3 : Int32) c3 kn (8 : Int32) (6 : Int32) (7 : Int32) 6 7 [.int (own_lo c0), .int (own_hi c0), .int (own_lo c1), .int (own_hi c1), .int (own_lo c2), .int (own_hi c2), .int 0, .int 0] T7.heap n0 Z7 SA SH SL O7 B7 gb rfl rfl ⟨by decide, by decide⟩ ⟨by decide, by decide⟩ rfl rfl (Nat.le_of_ble_eq_true rfl) (Nat.le_of_ble_eq_true rfl)) hZ (w_ hw 140 rfl) (w_ hw 28 rfl) (by decide) (by decide)) (g := (mkF m 20 #[.val (.ref ca), .val (.int (3 : Int32)), .val (.int (4 : Int32)), .val (.ref nb), .val (.int (3 : Int32))] [(.int c3), (.int (3 : Int32)), (.ref nb)])) rfl (by rw [hml]; rfl) (argsL := [(.ref nb), (.int (3 : Int32)), (.int c3)]) (rest := []) (lenOf pd_2 rfl) rfl (by show 2 * 0 + _ ≤ _; exact Nat.le_of_eq rfl) (hb hby d30_20) (fun _ _ => ⟨rfl, rfl, (by decide : 1 + 0 ≤ _), (by decide : 8 + 0 ≤ _)⟩)
  dsimp only [Pt.U, Pt.locs, Pt.cells, Pt.slots] at X9 l9 y9 z9 st9 hQ9
  subst l9 y9 z9
  obtain ⟨rfl, N9, K9, B9⟩ := hQ9
  have Nf9 := Fr.app Nf7 N9
  refine Goes.via (st9) ?_
  have B9 : Arv Z T9.heap nb kn .byte (8 : Int32) [.int (own_lo c0), .int (own_hi c0), .int (own_lo c1), .int (own_hi c1), .int (own_lo c2), .int (own_hi c2), .int (own_lo c3), .int (own_hi c3)] (.int 0) := B9
  have C9 := C7.keep K9 (fun q => nab (List.mem_singleton.mp q))
  have O9 := O7.keep K9 (allS gb all0)
  have J9 := J7.trans K9 (allS (Or.inr gv) all0)
  have Z9 := Nat.le_trans Z7 K9.1
  refine Goes.via (S' := T9.setTop (mkF m 33 #[.val (.ref ca), .val (.int (4 : Int32)), .val (.int (4 : Int32)), .val (.ref nb), .val (.int (4 : Int32))] [(.ref nb)])) (fun tz kz => ?_) ?_
  · show Steps p.tables e below (T9.setTop (mkF m 23 #[.val (.ref ca), .val (.int (3 : Int32)), .val (.int (4 : Int32)), .val (.ref nb), .val (.int (3 : Int32))] [])) _
    refine XS.iinc X9.here hx rfl (hb hby d30_23) rfl (l' := #[.val (.ref ca), .val (.int (4 : Int32)), .val (.int (4 : Int32)), .val (.ref nb), .val (.int (3 : Int32))]) rfl ?_
    refine XS.iinc X9.here hx rfl (hb hby d30_26) rfl (l' := #[.val (.ref ca), .val (.int (4 : Int32)), .val (.int (4 : Int32)), .val (.ref nb), .val (.int (4 : Int32))]) rfl ?_
    refine XS.goto X9.here hx rfl (pc0 := 29) (pc' := 8) rfl (hb hby d30_29) (by decide) (by decide) ?_
    refine XS.iload X9.here hx rfl (hb hby d30_8) rfl ?_
    refine XS.iloadN X9.here hx rfl (hb hby d30_10) rfl ?_
    refine XS.icmpYes X9.here hx rfl (pc0 := 11) (pc' := 32) rfl (hb hby d30_11) rfl (flt (by first | decide | rfl)).2.1 (by decide) (by decide) ?_
    refine XS.aloadN X9.here hx rfl (hb hby d30_32) rfl rfl ?_
    exact kz
  exact Goes.retO X9 hx Bd.notSynchronized Bd.returns rfl (Or.inr (Or.inr (Or.inr (Or.inr ⟨rfl, rfl, rfl⟩)))) (hb hby d30_33) (nb_ rfl) (nb_ rfl) ⟨nb, kn, rfl, Nf9, J9, B9, gv⟩
def Q_rc5_4 (Z : State) (ca : Addr) (bb : Addr) (ka kz : ClassId) (c0 c1 c2 c3 : Int32) (h0 : Heap) (n0 : Nat) : Option Value → Heap → List Loc → Prop := fun v h L => ∃ j, v = some (.int j) ∧ Fr n0 L ∧ Keep h0 h [bb] ∧ ((j = (4 : Int32) ∧ (¬ (255 : Int32) < c0 ∧ ¬ (255 : Int32) < c1 ∧ ¬ (255 : Int32) < c2 ∧ ¬ (255 : Int32) < c3) ∧ Arv Z h bb kz .byte (4 : Int32) [.int (own_by c0), .int (own_by c1), .int (own_by c2), .int (own_by c3)] (.int 0)) ∨ own_big (4 : Int32) (8 : Int32) [.int (own_lo c0), .int (own_hi c0), .int (own_lo c1), .int (own_hi c1), .int (own_lo c2), .int (own_hi c2), .int (own_lo c3), .int (own_hi c3)] j)
theorem rc5_4 (l : Launch) (Z : State) (a0 : Array Value) (hw : ∀ d ∈ tables_1, d.before a0 Z = true) (ws : List Jvm.Cond) (ca : Addr) (bb : Addr) (ka kz : ClassId) (c0 c1 c2 c3 : Int32) (h0 : Heap) (n0 : Nat) (Z0 : n0 ≤ h0.size) (C0 : Arv Z h0 ca ka .char (4 : Int32) [.int c0, .int c1, .int c2, .int c3] (.int 0)) (B0 : Arv Z h0 bb kz .byte (4 : Int32) [.int 0, .int 0, .int 0, .int 0] (.int 0)) (gb : n0 ≤ bb) (nab : ca ≠ bb) (z0 : nar .char c0 = c0) (z1 : nar .char c1 = c1) (z2 : nar .char c2 = c2) (z3 : nar .char c3 = c3) :
    own_M l Z n_5 (Jvm.Cond.code n_5 jdk_52_method_21_code 7 (some .int)) ws ({ frames := 0, cells := 0, slots := 0, locals := 0 } : Room) #[(.ref ca), (.int (0 : Int32)), (.ref bb), (.int (0 : Int32)), (.int (4 : Int32))] h0 (Q_rc5_4 Z ca bb ka kz c0 c1 c2 c3 h0 n0) := by
  refine MetFree.of_bodySF (plainFor_of_name pn_8) hisR ?_
  intro p e s m args below meth c s₁ Bd hml0 hP hK
  obtain ⟨rfl, hZ, hh⟩ := hP
  have hx := Bd.exec
  have hby := Bd.bytes
  have hml : c.maxLocals = 7 := hml0
  have hown : s.vm.findClass "java/lang/StringUTF16" = some m.cls := findClass_of_methodNamed Bd.named
  have hnm := (name_of_methodNamed Bd.named Bd.method).1
  have X0 : Stand p l e ({ frames := 0, cells := 0, slots := 0, locals := 0 } : Room) s m #[(.ref ca), (.int (0 : Int32)), (.ref bb), (.int (0 : Int32)), (.int (4 : Int32))] below meth c s₁ [] 0 0 := Stand.of_body Bd
  have e0 : s₁.heap = h0 := by rw [← hh, Bd.state]; rfl
  have N0 := Fr.nil n0
  show Goes p e below (Fin s (Q_rc5_4 Z ca bb ka kz c0 c1 c2 c3 h0 n0) ({ frames := 0, cells := 0, slots := 0, locals := 0 } : Room).cells ({ frames := 0, cells := 0, slots := 0, locals := 0 } : Room).slots) _
  refine Goes.via (S' := s₁.setTop (mkF m 0 #[.val (.ref ca), .val (.int (0 : Int32)), .val (.ref bb), .val (.int (0 : Int32)), .val (.int (4 : Int32)), .unset, .unset] [])) (fun tz kz => castTop (ef_8 m ca (0 : Int32) bb (0 : Int32) (4 : Int32) ) kz) ?_
  refine Goes.via (S' := s₁.setTop (mkF m 12 #[.val (.ref ca), .val (.int (0 : Int32)), .val (.ref bb), .val (.int (0 : Int32)), .val (.int (4 : Int32)), .val (.int (0 : Int32)), .unset] [(.int (0 : Int32)), (.ref ca)])) (fun tz kz => ?_) ?_
  · show Steps p.tables e below (s₁.setTop (mkF m 0 #[.val (.ref ca), .val (.int (0 : Int32)), .val (.ref bb), .val (.int (0 : Int32)), .val (.int (4 : Int32)), .unset, .unset] [])) _
    refine XS.iconst X0.here hx rfl (hb hby d8_0) ?_
    refine XS.istore X0.here hx rfl (hb hby d8_1) rfl (l' := #[.val (.ref ca), .val (.int (0 : Int32)), .val (.ref bb), .val (.int (0 : Int32)), .val (.int (4 : Int32)), .val (.int (0 : Int32)), .unset]) rfl ?_
    refine XS.iload X0.here hx rfl (hb hby d8_3) rfl ?_
    refine XS.iload X0.here hx rfl (hb hby d8_5) rfl ?_
    refine XS.icmpNo X0.here hx rfl (hb hby d8_7) rfl (tlt (by first | decide | rfl)).2.1 ?_
    refine XS.aloadN X0.here hx rfl (hb hby d8_10) rfl rfl ?_
    refine XS.iloadN X0.here hx rfl (hb hby d8_11) rfl ?_
    exact kz
  obtain ⟨cl1, Ar1, q1, Sz1, Nn1, Hs1, G1⟩ := (id C0)
  refine Goes.via (S' := s₁.setTop (mkF m 20 #[.val (.ref ca), .val (.int (0 : Int32)), .val (.ref bb), .val (.int (0 : Int32)), .val (.int (4 : Int32)), .val (.int (0 : Int32)), .val (.int c0)] [(.int (255 : Int32)), (.int c0)])) (fun tz kz => ?_) ?_
  · show Steps p.tables e below (s₁.setTop (mkF m 12 #[.val (.ref ca), .val (.int (0 : Int32)), .val (.ref bb), .val (.int (0 : Int32)), .val (.int (4 : Int32)), .val (.int (0 : Int32)), .unset] [(.int (0 : Int32)), (.ref ca)])) _
    refine X0.caload hx (j := (0 : Int32)) (v := (.int c0)) (by rw [e0]; exact Ar1.1) (State.isArrayOf_alike hZ.alike Ar1.2.1) Ar1.2.2 (inb_of Sz1 ⟨by decide, by decide⟩) (Has.at Hs1 (inb_of Sz1 ⟨by decide, by decide⟩) rfl) (g := (mkF m 12 #[.val (.ref ca), .val (.int (0 : Int32)), .val (.ref bb), .val (.int (0 : Int32)), .val (.int (4 : Int32)), .val (.int (0 : Int32)), .unset] [(.int (0 : Int32)), (.ref ca)])) rfl rfl (hb hby d8_12) _ ?_
    refine XS.istore X0.here hx rfl (hb hby d8_13) rfl (l' := #[.val (.ref ca), .val (.int (0 : Int32)), .val (.ref bb), .val (.int (0 : Int32)), .val (.int (4 : Int32)), .val (.int (0 : Int32)), .val (.int c0)]) rfl ?_
    refine XS.iload X0.here hx rfl (hb hby d8_15) rfl ?_
    refine XS.sipush X0.here hx rfl (hb hby d8_17) ?_
    exact kz
  by_cases hc20_2 : (255 : Int32) < c0
  · refine Goes.via (S' := s₁.setTop (mkF m 25 #[.val (.ref ca), .val (.int (0 : Int32)), .val (.ref bb), .val (.int (0 : Int32)), .val (.int (4 : Int32)), .val (.int (0 : Int32)), .val (.int c0)] [(.int (0 : Int32))])) (fun tz kz => ?_) ?_
    · show Steps p.tables e below (s₁.setTop (mkF m 20 #[.val (.ref ca), .val (.int (0 : Int32)), .val (.ref bb), .val (.int (0 : Int32)), .val (.int (4 : Int32)), .val (.int (0 : Int32)), .val (.int c0)] [(.int (255 : Int32)), (.int c0)])) _
      refine XS.icmpNo X0.here hx rfl (hb hby d8_20) rfl (tlt hc20_2).2.2.2 ?_
      refine XS.iload X0.here hx rfl (hb hby d8_23) rfl ?_
      exact kz
    exact Goes.retI X0 hx Bd.notSynchronized Bd.returns (hb hby d8_25) (nb_ rfl) (nb_ rfl) (by rw [e0]; exact ⟨(0 : Int32), rfl, N0, Keep.refl h0 [bb], Or.inr ⟨(0 : Int32), (1 : Int32), c0, by decide, rfl, rfl, ⟨by decide, by decide⟩, ⟨by decide, by decide⟩, rfl, rfl, z0, hc20_2⟩⟩)
  · refine Goes.via (S' := s₁.setTop (mkF m 31 #[.val (.ref ca), .val (.int (0 : Int32)), .val (.ref bb), .val (.int (0 : Int32)), .val (.int (4 : Int32)), .val (.int (0 : Int32)), .val (.int c0)] [(.int (c0.toInt8.toInt32)), (.int (0 : Int32)), (.ref bb)])) (fun tz kz => ?_) ?_
    · show Steps p.tables e below (s₁.setTop (mkF m 20 #[.val (.ref ca), .val (.int (0 : Int32)), .val (.ref bb), .val (.int (0 : Int32)), .val (.int (4 : Int32)), .val (.int (0 : Int32)), .val (.int c0)] [(.int (255 : Int32)), (.int c0)])) _
      refine XS.icmpYes X0.here hx rfl (pc0 := 20) (pc' := 26) rfl (hb hby d8_20) rfl (flt hc20_2).2.2.2 (by decide) (by decide) ?_
      refine XS.aloadN X0.here hx rfl (hb hby d8_26) rfl rfl ?_
      refine XS.iloadN X0.here hx rfl (hb hby d8_27) rfl ?_
      refine XS.iload X0.here hx rfl (hb hby d8_28) rfl ?_
      refine XS.i2b X0.here hx rfl (hb hby d8_30) rfl ?_
      exact kz
    obtain ⟨cl3, Ar3, q3, Sz3, Nn3, Hs3, G3⟩ := (id B0)
    obtain ⟨T4, h4, X4, e4, W4, st4⟩ := stB X0 hx hZ e0 Ar3 (j := (0 : Int32)) (inb_of Sz3 ⟨by decide, by decide⟩) (g := (mkF m 31 #[.val (.ref ca), .val (.int (0 : Int32)), .val (.ref bb), .val (.int (0 : Int32)), .val (.int (4 : Int32)), .val (.int (0 : Int32)), .val (.int c0)] [(.int (c0.toInt8.toInt32)), (.int (0 : Int32)), (.ref bb)])) rfl rfl (hb hby d8_31)
    refine Goes.via st4 ?_
    have N4 := Fr.snoc X4 N0 gb
    have C4 := (C0).other W4 nab
    have A4 := Arv.set Ar3 q3 Sz3 Nn3 Hs3 G3 (fits_nar_byte _) W4 0 rfl (Nat.le_of_ble_eq_true rfl)
    have K4 := (Keep.refl h0 [bb]).wr W4 (Or.inl (List.mem_singleton.mpr rfl))
    refine Goes.via (S' := T4.setTop (mkF m 12 #[.val (.ref ca), .val (.int (1 : Int32)), .val (.ref bb), .val (.int (1 : Int32)), .val (.int (4 : Int32)), .val (.int (1 : Int32)), .val (.int c0)] [(.int (1 : Int32)), (.ref ca)])) (fun tz kz => ?_) ?_
    · show Steps p.tables e below (T4.setTop (mkF m 32 #[.val (.ref ca), .val (.int (0 : Int32)), .val (.ref bb), .val (.int (0 : Int32)), .val (.int (4 : Int32)), .val (.int (0 : Int32)), .val (.int c0)] [])) _
      refine XS.iinc X4.here hx rfl (hb hby d8_32) rfl (l' := #[.val (.ref ca), .val (.int (1 : Int32)), .val (.ref bb), .val (.int (0 : Int32)), .val (.int (4 : Int32)), .val (.int (0 : Int32)), .val (.int c0)]) rfl ?_
      refine XS.iinc X4.here hx rfl (hb hby d8_35) rfl (l' := #[.val (.ref ca), .val (.int (1 : Int32)), .val (.ref bb), .val (.int (1 : Int32)), .val (.int (4 : Int32)), .val (.int (0 : Int32)), .val (.int c0)]) rfl ?_
      refine XS.iinc X4.here hx rfl (hb hby d8_38) rfl (l' := #[.val (.ref ca), .val (.int (1 : Int32)), .val (.ref bb), .val (.int (1 : Int32)), .val (.int (4 : Int32)), .val (.int (1 : Int32)), .val (.int c0)]) rfl ?_
      refine XS.goto X4.here hx rfl (pc0 := 41) (pc' := 3) rfl (hb hby d8_41) (by decide) (by decide) ?_
      refine XS.iload X4.here hx rfl (hb hby d8_3) rfl ?_
      refine XS.iload X4.here hx rfl (hb hby d8_5) rfl ?_
      refine XS.icmpNo X4.here hx rfl (hb hby d8_7) rfl (tlt (by first | decide | rfl)).2.1 ?_
      refine XS.aloadN X4.here hx rfl (hb hby d8_10) rfl rfl ?_
      refine XS.iloadN X4.here hx rfl (hb hby d8_11) rfl ?_
      exact kz
    obtain ⟨cl5, Ar5, q5, Sz5, Nn5, Hs5, G5⟩ := (id C4)
    refine Goes.via (S' := T4.setTop (mkF m 20 #[.val (.ref ca), .val (.int (1 : Int32)), .val (.ref bb), .val (.int (1 : Int32)), .val (.int (4 : Int32)), .val (.int (1 : Int32)), .val (.int c1)] [(.int (255 : Int32)), (.int c1)])) (fun tz kz => ?_) ?_
    · show Steps p.tables e below (T4.setTop (mkF m 12 #[.val (.ref ca), .val (.int (1 : Int32)), .val (.ref bb), .val (.int (1 : Int32)), .val (.int (4 : Int32)), .val (.int (1 : Int32)), .val (.int c0)] [(.int (1 : Int32)), (.ref ca)])) _
      refine X4.caload hx (j := (1 : Int32)) (v := (.int c1)) (by rw [e4]; exact Ar5.1) (State.isArrayOf_alike hZ.alike Ar5.2.1) Ar5.2.2 (inb_of Sz5 ⟨by decide, by decide⟩) (Has.at Hs5 (inb_of Sz5 ⟨by decide, by decide⟩) rfl) (g := (mkF m 12 #[.val (.ref ca), .val (.int (1 : Int32)), .val (.ref bb), .val (.int (1 : Int32)), .val (.int (4 : Int32)), .val (.int (1 : Int32)), .val (.int c0)] [(.int (1 : Int32)), (.ref ca)])) rfl rfl (hb hby d8_12) _ ?_
      refine XS.istore X4.here hx rfl (hb hby d8_13) rfl (l' := #[.val (.ref ca), .val (.int (1 : Int32)), .val (.ref bb), .val (.int (1 : Int32)), .val (.int (4 : Int32)), .val (.int (1 : Int32)), .val (.int c1)]) rfl ?_
      refine XS.iload X4.here hx rfl (hb hby d8_15) rfl ?_
      refine XS.sipush X4.here hx rfl (hb hby d8_17) ?_
      exact kz
    by_cases hc20_6 : (255 : Int32) < c1
    · refine Goes.via (S' := T4.setTop (mkF m 25 #[.val (.ref ca), .val (.int (1 : Int32)), .val (.ref bb), .val (.int (1 : Int32)), .val (.int (4 : Int32)), .val (.int (1 : Int32)), .val (.int c1)] [(.int (1 : Int32))])) (fun tz kz => ?_) ?_
      · show Steps p.tables e below (T4.setTop (mkF m 20 #[.val (.ref ca), .val (.int (1 : Int32)), .val (.ref bb), .val (.int (1 : Int32)), .val (.int (4 : Int32)), .val (.int (1 : Int32)), .val (.int c1)] [(.int (255 : Int32)), (.int c1)])) _
        refine XS.icmpNo X4.here hx rfl (hb hby d8_20) rfl (tlt hc20_6).2.2.2 ?_
        refine XS.iload X4.here hx rfl (hb hby d8_23) rfl ?_
        exact kz
      exact Goes.retI X4 hx Bd.notSynchronized Bd.returns (hb hby d8_25) (nb_ rfl) (nb_ rfl) (by rw [e4]; exact ⟨(1 : Int32), rfl, N4, K4, Or.inr ⟨(2 : Int32), (3 : Int32), c1, by decide, rfl, rfl, ⟨by decide, by decide⟩, ⟨by decide, by decide⟩, rfl, rfl, z1, hc20_6⟩⟩)
    · refine Goes.via (S' := T4.setTop (mkF m 31 #[.val (.ref ca), .val (.int (1 : Int32)), .val (.ref bb), .val (.int (1 : Int32)), .val (.int (4 : Int32)), .val (.int (1 : Int32)), .val (.int c1)] [(.int (c1.toInt8.toInt32)), (.int (1 : Int32)), (.ref bb)])) (fun tz kz => ?_) ?_
      · show Steps p.tables e below (T4.setTop (mkF m 20 #[.val (.ref ca), .val (.int (1 : Int32)), .val (.ref bb), .val (.int (1 : Int32)), .val (.int (4 : Int32)), .val (.int (1 : Int32)), .val (.int c1)] [(.int (255 : Int32)), (.int c1)])) _
        refine XS.icmpYes X4.here hx rfl (pc0 := 20) (pc' := 26) rfl (hb hby d8_20) rfl (flt hc20_6).2.2.2 (by decide) (by decide) ?_
        refine XS.aloadN X4.here hx rfl (hb hby d8_26) rfl rfl ?_
        refine XS.iloadN X4.here hx rfl (hb hby d8_27) rfl ?_
        refine XS.iload X4.here hx rfl (hb hby d8_28) rfl ?_
        refine XS.i2b X4.here hx rfl (hb hby d8_30) rfl ?_
        exact kz
      obtain ⟨cl7, Ar7, q7, Sz7, Nn7, Hs7, G7⟩ := (id A4)
      obtain ⟨T8, h8, X8, e8, W8, st8⟩ := stB X4 hx hZ e4 Ar7 (j := (1 : Int32)) (inb_of Sz7 ⟨by decide, by decide⟩) (g := (mkF m 31 #[.val (.ref ca), .val (.int (1 : Int32)), .val (.ref bb), .val (.int (1 : Int32)), .val (.int (4 : Int32)), .val (.int (1 : Int32)), .val (.int c1)] [(.int (c1.toInt8.toInt32)), (.int (1 : Int32)), (.ref bb)])) rfl rfl (hb hby d8_31)
      refine Goes.via st8 ?_
      have N8 := Fr.snoc X8 N4 gb
      have C8 := (C4).other W8 nab
      have A8 := Arv.set Ar7 q7 Sz7 Nn7 Hs7 G7 (fits_nar_byte _) W8 1 rfl (Nat.le_of_ble_eq_true rfl)
      have K8 := (K4).wr W8 (Or.inl (List.mem_singleton.mpr rfl))
      refine Goes.via (S' := T8.setTop (mkF m 12 #[.val (.ref ca), .val (.int (2 : Int32)), .val (.ref bb), .val (.int (2 : Int32)), .val (.int (4 : Int32)), .val (.int (2 : Int32)), .val (.int c1)] [(.int (2 : Int32)), (.ref ca)])) (fun tz kz => ?_) ?_
      · show Steps p.tables e below (T8.setTop (mkF m 32 #[.val (.ref ca), .val (.int (1 : Int32)), .val (.ref bb), .val (.int (1 : Int32)), .val (.int (4 : Int32)), .val (.int (1 : Int32)), .val (.int c1)] [])) _
        refine XS.iinc X8.here hx rfl (hb hby d8_32) rfl (l' := #[.val (.ref ca), .val (.int (2 : Int32)), .val (.ref bb), .val (.int (1 : Int32)), .val (.int (4 : Int32)), .val (.int (1 : Int32)), .val (.int c1)]) rfl ?_
        refine XS.iinc X8.here hx rfl (hb hby d8_35) rfl (l' := #[.val (.ref ca), .val (.int (2 : Int32)), .val (.ref bb), .val (.int (2 : Int32)), .val (.int (4 : Int32)), .val (.int (1 : Int32)), .val (.int c1)]) rfl ?_
        refine XS.iinc X8.here hx rfl (hb hby d8_38) rfl (l' := #[.val (.ref ca), .val (.int (2 : Int32)), .val (.ref bb), .val (.int (2 : Int32)), .val (.int (4 : Int32)), .val (.int (2 : Int32)), .val (.int c1)]) rfl ?_
        refine XS.goto X8.here hx rfl (pc0 := 41) (pc' := 3) rfl (hb hby d8_41) (by decide) (by decide) ?_
        refine XS.iload X8.here hx rfl (hb hby d8_3) rfl ?_
        refine XS.iload X8.here hx rfl (hb hby d8_5) rfl ?_
        refine XS.icmpNo X8.here hx rfl (hb hby d8_7) rfl (tlt (by first | decide | rfl)).2.1 ?_
        refine XS.aloadN X8.here hx rfl (hb hby d8_10) rfl rfl ?_
        refine XS.iloadN X8.here hx rfl (hb hby d8_11) rfl ?_
        exact kz
      obtain ⟨cl9, Ar9, q9, Sz9, Nn9, Hs9, G9⟩ := (id C8)
      refine Goes.via (S' := T8.setTop (mkF m 20 #[.val (.ref ca), .val (.int (2 : Int32)), .val (.ref bb), .val (.int (2 : Int32)), .val (.int (4 : Int32)), .val (.int (2 : Int32)), .val (.int c2)] [(.int (255 : Int32)), (.int c2)])) (fun tz kz => ?_) ?_
      · show Steps p.tables e below (T8.setTop (mkF m 12 #[.val (.ref ca), .val (.int (2 : Int32)), .val (.ref bb), .val (.int (2 : Int32)), .val (.int (4 : Int32)), .val (.int (2 : Int32)), .val (.int c1)] [(.int (2 : Int32)), (.ref ca)])) _
        refine X8.caload hx (j := (2 : Int32)) (v := (.int c2)) (by rw [e8]; exact Ar9.1) (State.isArrayOf_alike hZ.alike Ar9.2.1) Ar9.2.2 (inb_of Sz9 ⟨by decide, by decide⟩) (Has.at Hs9 (inb_of Sz9 ⟨by decide, by decide⟩) rfl) (g := (mkF m 12 #[.val (.ref ca), .val (.int (2 : Int32)), .val (.ref bb), .val (.int (2 : Int32)), .val (.int (4 : Int32)), .val (.int (2 : Int32)), .val (.int c1)] [(.int (2 : Int32)), (.ref ca)])) rfl rfl (hb hby d8_12) _ ?_
        refine XS.istore X8.here hx rfl (hb hby d8_13) rfl (l' := #[.val (.ref ca), .val (.int (2 : Int32)), .val (.ref bb), .val (.int (2 : Int32)), .val (.int (4 : Int32)), .val (.int (2 : Int32)), .val (.int c2)]) rfl ?_
        refine XS.iload X8.here hx rfl (hb hby d8_15) rfl ?_
        refine XS.sipush X8.here hx rfl (hb hby d8_17) ?_
        exact kz
      by_cases hc20_10 : (255 : Int32) < c2
      · refine Goes.via (S' := T8.setTop (mkF m 25 #[.val (.ref ca), .val (.int (2 : Int32)), .val (.ref bb), .val (.int (2 : Int32)), .val (.int (4 : Int32)), .val (.int (2 : Int32)), .val (.int c2)] [(.int (2 : Int32))])) (fun tz kz => ?_) ?_
        · show Steps p.tables e below (T8.setTop (mkF m 20 #[.val (.ref ca), .val (.int (2 : Int32)), .val (.ref bb), .val (.int (2 : Int32)), .val (.int (4 : Int32)), .val (.int (2 : Int32)), .val (.int c2)] [(.int (255 : Int32)), (.int c2)])) _
          refine XS.icmpNo X8.here hx rfl (hb hby d8_20) rfl (tlt hc20_10).2.2.2 ?_
          refine XS.iload X8.here hx rfl (hb hby d8_23) rfl ?_
          exact kz
        exact Goes.retI X8 hx Bd.notSynchronized Bd.returns (hb hby d8_25) (nb_ rfl) (nb_ rfl) (by rw [e8]; exact ⟨(2 : Int32), rfl, N8, K8, Or.inr ⟨(4 : Int32), (5 : Int32), c2, by decide, rfl, rfl, ⟨by decide, by decide⟩, ⟨by decide, by decide⟩, rfl, rfl, z2, hc20_10⟩⟩)
      · refine Goes.via (S' := T8.setTop (mkF m 31 #[.val (.ref ca), .val (.int (2 : Int32)), .val (.ref bb), .val (.int (2 : Int32)), .val (.int (4 : Int32)), .val (.int (2 : Int32)), .val (.int c2)] [(.int (c2.toInt8.toInt32)), (.int (2 : Int32)), (.ref bb)])) (fun tz kz => ?_) ?_
        · show Steps p.tables e below (T8.setTop (mkF m 20 #[.val (.ref ca), .val (.int (2 : Int32)), .val (.ref bb), .val (.int (2 : Int32)), .val (.int (4 : Int32)), .val (.int (2 : Int32)), .val (.int c2)] [(.int (255 : Int32)), (.int c2)])) _
          refine XS.icmpYes X8.here hx rfl (pc0 := 20) (pc' := 26) rfl (hb hby d8_20) rfl (flt hc20_10).2.2.2 (by decide) (by decide) ?_
          refine XS.aloadN X8.here hx rfl (hb hby d8_26) rfl rfl ?_
          refine XS.iloadN X8.here hx rfl (hb hby d8_27) rfl ?_
          refine XS.iload X8.here hx rfl (hb hby d8_28) rfl ?_
          refine XS.i2b X8.here hx rfl (hb hby d8_30) rfl ?_
          exact kz
        obtain ⟨cl11, Ar11, q11, Sz11, Nn11, Hs11, G11⟩ := (id A8)
        obtain ⟨T12, h12, X12, e12, W12, st12⟩ := stB X8 hx hZ e8 Ar11 (j := (2 : Int32)) (inb_of Sz11 ⟨by decide, by decide⟩) (g := (mkF m 31 #[.val (.ref ca), .val (.int (2 : Int32)), .val (.ref bb), .val (.int (2 : Int32)), .val (.int (4 : Int32)), .val (.int (2 : Int32)), .val (.int c2)] [(.int (c2.toInt8.toInt32)), (.int (2 : Int32)), (.ref bb)])) rfl rfl (hb hby d8_31)
        refine Goes.via st12 ?_
        have N12 := Fr.snoc X12 N8 gb
        have C12 := (C8).other W12 nab
        have A12 := Arv.set Ar11 q11 Sz11 Nn11 Hs11 G11 (fits_nar_byte _) W12 2 rfl (Nat.le_of_ble_eq_true rfl)
        have K12 := (K8).wr W12 (Or.inl (List.mem_singleton.mpr rfl))
        refine Goes.via (S' := T12.setTop (mkF m 12 #[.val (.ref ca), .val (.int (3 : Int32)), .val (.ref bb), .val (.int (3 : Int32)), .val (.int (4 : Int32)), .val (.int (3 : Int32)), .val (.int c2)] [(.int (3 : Int32)), (.ref ca)])) (fun tz kz => ?_) ?_
        · show Steps p.tables e below (T12.setTop (mkF m 32 #[.val (.ref ca), .val (.int (2 : Int32)), .val (.ref bb), .val (.int (2 : Int32)), .val (.int (4 : Int32)), .val (.int (2 : Int32)), .val (.int c2)] [])) _
          refine XS.iinc X12.here hx rfl (hb hby d8_32) rfl (l' := #[.val (.ref ca), .val (.int (3 : Int32)), .val (.ref bb), .val (.int (2 : Int32)), .val (.int (4 : Int32)), .val (.int (2 : Int32)), .val (.int c2)]) rfl ?_
          refine XS.iinc X12.here hx rfl (hb hby d8_35) rfl (l' := #[.val (.ref ca), .val (.int (3 : Int32)), .val (.ref bb), .val (.int (3 : Int32)), .val (.int (4 : Int32)), .val (.int (2 : Int32)), .val (.int c2)]) rfl ?_
          refine XS.iinc X12.here hx rfl (hb hby d8_38) rfl (l' := #[.val (.ref ca), .val (.int (3 : Int32)), .val (.ref bb), .val (.int (3 : Int32)), .val (.int (4 : Int32)), .val (.int (3 : Int32)), .val (.int c2)]) rfl ?_
          refine XS.goto X12.here hx rfl (pc0 := 41) (pc' := 3) rfl (hb hby d8_41) (by decide) (by decide) ?_
          refine XS.iload X12.here hx rfl (hb hby d8_3) rfl ?_
          refine XS.iload X12.here hx rfl (hb hby d8_5) rfl ?_
          refine XS.icmpNo X12.here hx rfl (hb hby d8_7) rfl (tlt (by first | decide | rfl)).2.1 ?_
          refine XS.aloadN X12.here hx rfl (hb hby d8_10) rfl rfl ?_
          refine XS.iloadN X12.here hx rfl (hb hby d8_11) rfl ?_
          exact kz
        obtain ⟨cl13, Ar13, q13, Sz13, Nn13, Hs13, G13⟩ := (id C12)
        refine Goes.via (S' := T12.setTop (mkF m 20 #[.val (.ref ca), .val (.int (3 : Int32)), .val (.ref bb), .val (.int (3 : Int32)), .val (.int (4 : Int32)), .val (.int (3 : Int32)), .val (.int c3)] [(.int (255 : Int32)), (.int c3)])) (fun tz kz => ?_) ?_
        · show Steps p.tables e below (T12.setTop (mkF m 12 #[.val (.ref ca), .val (.int (3 : Int32)), .val (.ref bb), .val (.int (3 : Int32)), .val (.int (4 : Int32)), .val (.int (3 : Int32)), .val (.int c2)] [(.int (3 : Int32)), (.ref ca)])) _
          refine X12.caload hx (j := (3 : Int32)) (v := (.int c3)) (by rw [e12]; exact Ar13.1) (State.isArrayOf_alike hZ.alike Ar13.2.1) Ar13.2.2 (inb_of Sz13 ⟨by decide, by decide⟩) (Has.at Hs13 (inb_of Sz13 ⟨by decide, by decide⟩) rfl) (g := (mkF m 12 #[.val (.ref ca), .val (.int (3 : Int32)), .val (.ref bb), .val (.int (3 : Int32)), .val (.int (4 : Int32)), .val (.int (3 : Int32)), .val (.int c2)] [(.int (3 : Int32)), (.ref ca)])) rfl rfl (hb hby d8_12) _ ?_
          refine XS.istore X12.here hx rfl (hb hby d8_13) rfl (l' := #[.val (.ref ca), .val (.int (3 : Int32)), .val (.ref bb), .val (.int (3 : Int32)), .val (.int (4 : Int32)), .val (.int (3 : Int32)), .val (.int c3)]) rfl ?_
          refine XS.iload X12.here hx rfl (hb hby d8_15) rfl ?_
          refine XS.sipush X12.here hx rfl (hb hby d8_17) ?_
          exact kz
        by_cases hc20_14 : (255 : Int32) < c3
        · refine Goes.via (S' := T12.setTop (mkF m 25 #[.val (.ref ca), .val (.int (3 : Int32)), .val (.ref bb), .val (.int (3 : Int32)), .val (.int (4 : Int32)), .val (.int (3 : Int32)), .val (.int c3)] [(.int (3 : Int32))])) (fun tz kz => ?_) ?_
          · show Steps p.tables e below (T12.setTop (mkF m 20 #[.val (.ref ca), .val (.int (3 : Int32)), .val (.ref bb), .val (.int (3 : Int32)), .val (.int (4 : Int32)), .val (.int (3 : Int32)), .val (.int c3)] [(.int (255 : Int32)), (.int c3)])) _
            refine XS.icmpNo X12.here hx rfl (hb hby d8_20) rfl (tlt hc20_14).2.2.2 ?_
            refine XS.iload X12.here hx rfl (hb hby d8_23) rfl ?_
            exact kz
          exact Goes.retI X12 hx Bd.notSynchronized Bd.returns (hb hby d8_25) (nb_ rfl) (nb_ rfl) (by rw [e12]; exact ⟨(3 : Int32), rfl, N12, K12, Or.inr ⟨(6 : Int32), (7 : Int32), c3, by decide, rfl, rfl, ⟨by decide, by decide⟩, ⟨by decide, by decide⟩, rfl, rfl, z3, hc20_14⟩⟩)
        · refine Goes.via (S' := T12.setTop (mkF m 31 #[.val (.ref ca), .val (.int (3 : Int32)), .val (.ref bb), .val (.int (3 : Int32)), .val (.int (4 : Int32)), .val (.int (3 : Int32)), .val (.int c3)] [(.int (c3.toInt8.toInt32)), (.int (3 : Int32)), (.ref bb)])) (fun tz kz => ?_) ?_
          · show Steps p.tables e below (T12.setTop (mkF m 20 #[.val (.ref ca), .val (.int (3 : Int32)), .val (.ref bb), .val (.int (3 : Int32)), .val (.int (4 : Int32)), .val (.int (3 : Int32)), .val (.int c3)] [(.int (255 : Int32)), (.int c3)])) _
            refine XS.icmpYes X12.here hx rfl (pc0 := 20) (pc' := 26) rfl (hb hby d8_20) rfl (flt hc20_14).2.2.2 (by decide) (by decide) ?_
            refine XS.aloadN X12.here hx rfl (hb hby d8_26) rfl rfl ?_
            refine XS.iloadN X12.here hx rfl (hb hby d8_27) rfl ?_
            refine XS.iload X12.here hx rfl (hb hby d8_28) rfl ?_
            refine XS.i2b X12.here hx rfl (hb hby d8_30) rfl ?_
            exact kz
          obtain ⟨cl15, Ar15, q15, Sz15, Nn15, Hs15, G15⟩ := (id A12)
          obtain ⟨T16, h16, X16, e16, W16, st16⟩ := stB X12 hx hZ e12 Ar15 (j := (3 : Int32)) (inb_of Sz15 ⟨by decide, by decide⟩) (g := (mkF m 31 #[.val (.ref ca), .val (.int (3 : Int32)), .val (.ref bb), .val (.int (3 : Int32)), .val (.int (4 : Int32)), .val (.int (3 : Int32)), .val (.int c3)] [(.int (c3.toInt8.toInt32)), (.int (3 : Int32)), (.ref bb)])) rfl rfl (hb hby d8_31)
          refine Goes.via st16 ?_
          have N16 := Fr.snoc X16 N12 gb
          have C16 := (C12).other W16 nab
          have A16 := Arv.set Ar15 q15 Sz15 Nn15 Hs15 G15 (fits_nar_byte _) W16 3 rfl (Nat.le_of_ble_eq_true rfl)
          have K16 := (K12).wr W16 (Or.inl (List.mem_singleton.mpr rfl))
          refine Goes.via (S' := T16.setTop (mkF m 46 #[.val (.ref ca), .val (.int (4 : Int32)), .val (.ref bb), .val (.int (4 : Int32)), .val (.int (4 : Int32)), .val (.int (4 : Int32)), .val (.int c3)] [(.int (4 : Int32))])) (fun tz kz => ?_) ?_
          · show Steps p.tables e below (T16.setTop (mkF m 32 #[.val (.ref ca), .val (.int (3 : Int32)), .val (.ref bb), .val (.int (3 : Int32)), .val (.int (4 : Int32)), .val (.int (3 : Int32)), .val (.int c3)] [])) _
            refine XS.iinc X16.here hx rfl (hb hby d8_32) rfl (l' := #[.val (.ref ca), .val (.int (4 : Int32)), .val (.ref bb), .val (.int (3 : Int32)), .val (.int (4 : Int32)), .val (.int (3 : Int32)), .val (.int c3)]) rfl ?_
            refine XS.iinc X16.here hx rfl (hb hby d8_35) rfl (l' := #[.val (.ref ca), .val (.int (4 : Int32)), .val (.ref bb), .val (.int (4 : Int32)), .val (.int (4 : Int32)), .val (.int (3 : Int32)), .val (.int c3)]) rfl ?_
            refine XS.iinc X16.here hx rfl (hb hby d8_38) rfl (l' := #[.val (.ref ca), .val (.int (4 : Int32)), .val (.ref bb), .val (.int (4 : Int32)), .val (.int (4 : Int32)), .val (.int (4 : Int32)), .val (.int c3)]) rfl ?_
            refine XS.goto X16.here hx rfl (pc0 := 41) (pc' := 3) rfl (hb hby d8_41) (by decide) (by decide) ?_
            refine XS.iload X16.here hx rfl (hb hby d8_3) rfl ?_
            refine XS.iload X16.here hx rfl (hb hby d8_5) rfl ?_
            refine XS.icmpYes X16.here hx rfl (pc0 := 7) (pc' := 44) rfl (hb hby d8_7) rfl (flt (by first | decide | rfl)).2.1 (by decide) (by decide) ?_
            refine XS.iload X16.here hx rfl (hb hby d8_44) rfl ?_
            exact kz
          exact Goes.retI X16 hx Bd.notSynchronized Bd.returns (hb hby d8_46) (nb_ rfl) (nb_ rfl) (by rw [e16]; exact ⟨(4 : Int32), rfl, N16, K16, Or.inl ⟨rfl, ⟨hc20_2, hc20_6, hc20_10, hc20_14⟩, A16⟩⟩)
def Q_rc3_4 (Z : State) (ca : Addr) (ka : ClassId) (c0 c1 c2 c3 : Int32) (h0 : Heap) (n0 : Nat) : Option Value → Heap → List Loc → Prop := fun v h L => ∃ b k, v = some (.ref b) ∧ Fr n0 L ∧ Keep h0 h [] ∧ @LE.le Nat _ h0.size b ∧ (((¬ (255 : Int32) < c0 ∧ ¬ (255 : Int32) < c1 ∧ ¬ (255 : Int32) < c2 ∧ ¬ (255 : Int32) < c3) ∧ Arv Z h b k .byte (4 : Int32) [.int (own_by c0), .int (own_by c1), .int (own_by c2), .int (own_by c3)] (.int 0)) ∨ Arv Z h b k .byte (8 : Int32) [.int (own_lo c0), .int (own_hi c0), .int (own_lo c1), .int (own_hi c1), .int (own_lo c2), .int (own_hi c2), .int (own_lo c3), .int (own_hi c3)] (.int 0))
theorem rc3_4 (l : Launch) (Z : State) (a0 : Array Value) (hw : ∀ d ∈ tables_1, d.before a0 Z = true) (ws : List Jvm.Cond) (ca : Addr) (ka : ClassId) (c0 c1 c2 c3 : Int32) (h0 : Heap) (n0 : Nat) (Z0 : n0 ≤ h0.size) (SA : Sta Z Z.heap "java/lang/StringUTF16" "$assertionsDisabled" "Z" (.int (1 : Int32))) (SH : Sta Z Z.heap "java/lang/StringUTF16" "HI_BYTE_SHIFT" "I" (.int (0 : Int32))) (SL : Sta Z Z.heap "java/lang/StringUTF16" "LO_BYTE_SHIFT" "I" (.int (8 : Int32))) (O0 : Old Z n0 h0) (C0 : Arv Z h0 ca ka .char (4 : Int32) [.int c0, .int c1, .int c2, .int c3] (.int 0)) (z0 : nar .char c0 = c0) (z1 : nar .char c1 = c1) (z2 : nar .char c2 = c2) (z3 : nar .char c3 = c3) :
    own_M l Z n_6 (Jvm.Cond.code n_6 jdk_52_method_16_code 6 (some (.array .byte))) ws ({ frames := 3, cells := 2, slots := 12, locals := 60 } : Room) #[(.ref ca), (.int (0 : Int32)), (.int (4 : Int32))] h0 (Q_rc3_4 Z ca ka c0 c1 c2 c3 h0 n0) := by
  refine MetFree.of_bodySF (plainFor_of_name pn_7) hisR ?_
  intro p e s m args below meth c s₁ Bd hml0 hP hK
  obtain ⟨rfl, hZ, hh⟩ := hP
  have hx := Bd.exec
  have hby := Bd.bytes
  have hml : c.maxLocals = 6 := hml0
  have hown : s.vm.findClass "java/lang/StringUTF16" = some m.cls := findClass_of_methodNamed Bd.named
  have hnm := (name_of_methodNamed Bd.named Bd.method).1
  have X0 : Stand p l e ({ frames := 3, cells := 2, slots := 12, locals := 60 } : Room) s m #[(.ref ca), (.int (0 : Int32)), (.int (4 : Int32))] below meth c s₁ [] 0 0 := Stand.of_body Bd
  have e0 : s₁.heap = h0 := by rw [← hh, Bd.state]; rfl
  have N0 := Fr.nil n0
  show Goes p e below (Fin s (Q_rc3_4 Z ca ka c0 c1 c2 c3 h0 n0) ({ frames := 3, cells := 2, slots := 12, locals := 60 } : Room).cells ({ frames := 3, cells := 2, slots := 12, locals := 60 } : Room).slots) _
  refine Goes.via (S' := s₁.setTop (mkF m 0 #[.val (.ref ca), .val (.int (0 : Int32)), .val (.int (4 : Int32)), .unset, .unset, .unset] [])) (fun tz kz => castTop (ef_7 m ca (0 : Int32) (4 : Int32) ) kz) ?_
  refine Goes.via (S' := s₁.setTop (mkF m 1 #[.val (.ref ca), .val (.int (0 : Int32)), .val (.int (4 : Int32)), .unset, .unset, .unset] [(.int (4 : Int32))])) (fun tz kz => ?_) ?_
  · show Steps p.tables e below (s₁.setTop (mkF m 0 #[.val (.ref ca), .val (.int (0 : Int32)), .val (.int (4 : Int32)), .unset, .unset, .unset] [])) _
    refine XS.iloadN X0.here hx rfl (hb hby d7_0) rfl ?_
    exact kz
  obtain ⟨T1, h1, k1, X1, e1, E1, A1, st1⟩ := newP X0 hx hZ (w_ hw 30 rfl) e0 (g := (mkF m 1 #[.val (.ref ca), .val (.int (0 : Int32)), .val (.int (4 : Int32)), .unset, .unset, .unset] [(.int (4 : Int32))])) rfl (hb hby d7_1) rfl (by decide) (cap := 4) (by decide) (by decide) (by decide) (by decide)
  obtain ⟨b1, g1⟩ : ∃ z, z = h0.size := ⟨_, rfl⟩
  rw [← g1] at A1 st1
  refine Goes.via st1 ?_
  have B1 : Arv Z h1 b1 k1 .byte (4 : Int32) [.int 0, .int 0, .int 0, .int 0] (.int 0) := (Arv.new A1 (by decide)).pad (pad_rep [] (.int 0) 4)
  have nab : ca ≠ b1 := adr_ne C0.lt g1 (Nat.le_refl _)
  have gb : n0 ≤ b1 := Nat.le_trans Z0 (Nat.le_of_eq g1.symm)
  refine Goes.via (S' := T1.setTop (mkF m 9 #[.val (.ref ca), .val (.int (0 : Int32)), .val (.int (4 : Int32)), .val (.ref b1), .unset, .unset] [(.int (4 : Int32)), (.int (0 : Int32)), (.ref b1), (.int (0 : Int32)), (.ref ca)])) (fun tz kz => ?_) ?_
  · show Steps p.tables e below (T1.setTop (mkF m 3 #[.val (.ref ca), .val (.int (0 : Int32)), .val (.int (4 : Int32)), .unset, .unset, .unset] [(.ref b1)])) _
    refine XS.astoreN X1.here hx rfl (hb hby d7_3) rfl rfl (l' := #[.val (.ref ca), .val (.int (0 : Int32)), .val (.int (4 : Int32)), .val (.ref b1), .unset, .unset]) rfl ?_
    refine XS.aloadN X1.here hx rfl (hb hby d7_4) rfl rfl ?_
    refine XS.iloadN X1.here hx rfl (hb hby d7_5) rfl ?_
    refine XS.aloadN X1.here hx rfl (hb hby d7_6) rfl rfl ?_
    refine XS.iconst X1.here hx rfl (hb hby d7_7) ?_
    refine XS.iloadN X1.here hx rfl (hb hby d7_8) rfl ?_
    exact kz
  obtain ⟨_, _, ⟨T2, L2, k2, n2⟩, -, X2, ⟨Lc2, hQ2, l2, y2, z2⟩, st2⟩ := Jvm.LawKit.callS X1 hx (y := n_5) hown (mvT hZ (w_ hw 31 rfl)) (mvT hZ (w_ hw 32 rfl)) (mvT hZ (w_ hw 28 rfl)) (mvT hZ (w_ hw 33 rfl)) (by decide) (backOf (W := 0) (rc5_4 l Z a0 hw [] ca b1 ka k1 c0 c1 c2 c3 h1 n0 (Nat.le_trans Z0 E1.1) (C0.ext E1) B1 gb nab z0 z1 z2 z3) hZ (w_ hw 33 rfl) (w_ hw 28 rfl) (by decide) (by decide)) (g := (mkF m 9 #[.val (.ref ca), .val (.int (0 : Int32)), .val (.int (4 : Int32)), .val (.ref b1), .unset, .unset] [(.int (4 : Int32)), (.int (0 : Int32)), (.ref b1), (.int (0 : Int32)), (.ref ca)])) rfl (by rw [hml]; rfl) (argsL := [(.ref ca), (.int (0 : Int32)), (.ref b1), (.int (0 : Int32)), (.int (4 : Int32))]) (rest := []) (lenOf pd_3 rfl) rfl (by show 2 * 0 + _ ≤ _; exact Nat.le_of_eq rfl) (hb hby d7_9) (fun _ _ => ⟨rfl, e1, (by decide : 1 + 0 ≤ _), (by decide : 4 + 0 ≤ _)⟩)
  dsimp only [Pt.U, Pt.locs, Pt.cells, Pt.slots] at X2 l2 y2 z2 st2 hQ2
  subst l2 y2 z2
  obtain ⟨j5, rfl, N2, K2, Dj⟩ := hQ2
  have Nf2 := Fr.app N0 N2
  refine Goes.via (st2) ?_
  have Ka := ((Keep.refl h0 []).ext E1).trans K2 (allS (Or.inr (Nat.le_of_eq g1.symm)) all0)
  have Ca := (C0.ext E1).keep K2 (fun q => nab (List.mem_singleton.mp q))
  have Oa := O0.keep Ka all0
  have Za := Nat.le_trans Z0 Ka.1
  rcases Dj with ⟨hj, ⟨s0, s1, s2, s3⟩, BL⟩ | ⟨j0, j1, xx, hjn, hj0, hj1, q0, q1, g0, g1, zx, gx⟩
  · subst hj
    refine Goes.via (S' := T2.setTop (mkF m 58 #[.val (.ref ca), .val (.int (0 : Int32)), .val (.int (4 : Int32)), .val (.ref b1), .val (.int (4 : Int32)), .unset] [(.ref b1)])) (fun tz kz => ?_) ?_
    · show Steps p.tables e below (T2.setTop (mkF m 12 #[.val (.ref ca), .val (.int (0 : Int32)), .val (.int (4 : Int32)), .val (.ref b1), .unset, .unset] [(.int (4 : Int32))])) _
      refine XS.istore X2.here hx rfl (hb hby d7_12) rfl (l' := #[.val (.ref ca), .val (.int (0 : Int32)), .val (.int (4 : Int32)), .val (.ref b1), .val (.int (4 : Int32)), .unset]) rfl ?_
      refine XS.iload X2.here hx rfl (hb hby d7_14) rfl ?_
      refine XS.iloadN X2.here hx rfl (hb hby d7_16) rfl ?_
      refine XS.icmpYes X2.here hx rfl (pc0 := 17) (pc' := 57) rfl (hb hby d7_17) rfl (teq (by first | decide | rfl)).1 (by decide) (by decide) ?_
      refine XS.aloadN X2.here hx rfl (hb hby d7_57) rfl rfl ?_
      exact kz
    exact Goes.retO X2 hx Bd.notSynchronized Bd.returns rfl (Or.inr (Or.inr (Or.inr (Or.inr ⟨rfl, rfl, rfl⟩)))) (hb hby d7_58) (nb_ rfl) (nb_ rfl) ⟨b1, k1, rfl, Nf2, Ka, Nat.le_of_eq g1.symm, Or.inl ⟨⟨s0, s1, s2, s3⟩, BL⟩⟩
  · skip
    refine Goes.via (S' := T2.setTop (mkF m 23 #[.val (.ref ca), .val (.int (0 : Int32)), .val (.int (4 : Int32)), .val (.ref b1), .val (.int j5), .unset] [(.int (4 : Int32)), (.int (0 : Int32)), (.ref ca)])) (fun tz kz => ?_) ?_
    · show Steps p.tables e below (T2.setTop (mkF m 12 #[.val (.ref ca), .val (.int (0 : Int32)), .val (.int (4 : Int32)), .val (.ref b1), .unset, .unset] [(.int j5)])) _
      refine XS.istore X2.here hx rfl (hb hby d7_12) rfl (l' := #[.val (.ref ca), .val (.int (0 : Int32)), .val (.int (4 : Int32)), .val (.ref b1), .val (.int j5), .unset]) rfl ?_
      refine XS.iload X2.here hx rfl (hb hby d7_14) rfl ?_
      refine XS.iloadN X2.here hx rfl (hb hby d7_16) rfl ?_
      refine XS.icmpNo X2.here hx rfl (hb hby d7_17) rfl (feq hjn).1 ?_
      refine XS.aloadN X2.here hx rfl (hb hby d7_20) rfl rfl ?_
      refine XS.iloadN X2.here hx rfl (hb hby d7_21) rfl ?_
      refine XS.iloadN X2.here hx rfl (hb hby d7_22) rfl ?_
      exact kz
    obtain ⟨_, _, ⟨T3, L3, k3, n3⟩, -, X3, ⟨Lc3, hQ3, l3, y3, z3⟩, st3⟩ := Jvm.LawKit.callS X2 hx (y := n_4) hown (mvT hZ (w_ hw 128 rfl)) (mvT hZ (w_ hw 129 rfl)) (mvT hZ (w_ hw 28 rfl)) (mvT hZ (w_ hw 130 rfl)) (by decide) (backOf (W := 0) (rtb_4 l Z a0 hw [] ca ka c0 c1 c2 c3 T2.heap n0 Za SA SH SL Oa Ca) hZ (w_ hw 130 rfl) (w_ hw 28 rfl) (by decide) (by decide)) (g := (mkF m 23 #[.val (.ref ca), .val (.int (0 : Int32)), .val (.int (4 : Int32)), .val (.ref b1), .val (.int j5), .unset] [(.int (4 : Int32)), (.int (0 : Int32)), (.ref ca)])) rfl (by rw [hml]; rfl) (argsL := [(.ref ca), (.int (0 : Int32)), (.int (4 : Int32))]) (rest := []) (lenOf pd_4 rfl) rfl (by show 2 * 0 + _ ≤ _; exact Nat.le_of_eq rfl) (hb hby d7_23) (fun _ _ => ⟨rfl, rfl, (by decide : 1 + 1 ≤ _), (by decide : 4 + 8 ≤ _)⟩)
    dsimp only [Pt.U, Pt.locs, Pt.cells, Pt.slots] at X3 l3 y3 z3 st3 hQ3
    subst l3 y3 z3
    obtain ⟨ub, uk, rfl, N3, K3, B3, gu⟩ := hQ3
    have Nf3 := Fr.app Nf2 N3
    refine Goes.via (st3) ?_
    have Kb := Ka.trans K3 all0
    have Ob := O0.keep Kb all0
    have Zb := Nat.le_trans Z0 Kb.1
    have gh : @LE.le Nat _ h0.size ub := Nat.le_trans Ka.1 gu
    refine Goes.via (S' := T3.setTop (mkF m 32 #[.val (.ref ca), .val (.int (0 : Int32)), .val (.int (4 : Int32)), .val (.ref b1), .val (.int j5), .val (.ref ub)] [(.int j5), (.ref ub)])) (fun tz kz => ?_) ?_
    · show Steps p.tables e below (T3.setTop (mkF m 26 #[.val (.ref ca), .val (.int (0 : Int32)), .val (.int (4 : Int32)), .val (.ref b1), .val (.int j5), .unset] [(.ref ub)])) _
      refine XS.astore X3.here hx rfl (hb hby d7_26) rfl rfl (l' := #[.val (.ref ca), .val (.int (0 : Int32)), .val (.int (4 : Int32)), .val (.ref b1), .val (.int j5), .val (.ref ub)]) rfl ?_
      refine XS.aload X3.here hx rfl (hb hby d7_28) rfl rfl ?_
      refine XS.iload X3.here hx rfl (hb hby d7_30) rfl ?_
      exact kz
    obtain ⟨_, _, ⟨T4, L4, k4, n4⟩, -, X4, ⟨Lc4, hQ4, l4, y4, z4⟩, st4⟩ := Jvm.LawKit.callS X3 hx (y := n_1) hown (mvT hZ (w_ hw 144 rfl)) (mvT hZ (w_ hw 145 rfl)) (mvT hZ (w_ hw 28 rfl)) (mvT hZ (w_ hw 146 rfl)) (by decide) (backOf (W := 0) (rgc l Z a0 hw [] ub j5 uk (8 : Int32) j0 j1 xx _ T3.heap n0 Zb SA SH SL Ob B3 hj0 hj1 q0 q1 g0 g1 zx) hZ (w_ hw 146 rfl) (w_ hw 28 rfl) (by decide) (by decide)) (g := (mkF m 32 #[.val (.ref ca), .val (.int (0 : Int32)), .val (.int (4 : Int32)), .val (.ref b1), .val (.int j5), .val (.ref ub)] [(.int j5), (.ref ub)])) rfl (by rw [hml]; rfl) (argsL := [(.ref ub), (.int j5)]) (rest := []) (lenOf pd_5 rfl) rfl (by show 2 * 0 + _ ≤ _; exact Nat.le_of_eq rfl) (hb hby d7_32) (fun _ _ => ⟨rfl, rfl, (by decide : 2 + 0 ≤ _), (by decide : 12 + 0 ≤ _)⟩)
    dsimp only [Pt.U, Pt.locs, Pt.cells, Pt.slots] at X4 l4 y4 z4 st4 hQ4
    subst l4 y4 z4
    obtain ⟨rfl, N4, e4⟩ := hQ4
    have Nf4 := Fr.app Nf3 N4
    refine Goes.via (st4) ?_
    refine Goes.via (S' := T4.setTop (mkF m 56 #[.val (.ref ca), .val (.int (0 : Int32)), .val (.int (4 : Int32)), .val (.ref b1), .val (.int j5), .val (.ref ub)] [(.ref ub)])) (fun tz kz => ?_) ?_
    · show Steps p.tables e below (T4.setTop (mkF m 35 #[.val (.ref ca), .val (.int (0 : Int32)), .val (.int (4 : Int32)), .val (.ref b1), .val (.int j5), .val (.ref ub)] [(.int xx)])) _
      refine XS.sipush X4.here hx rfl (hb hby d7_35) ?_
      refine XS.icmpYes X4.here hx rfl (pc0 := 38) (pc' := 54) rfl (hb hby d7_38) rfl (tlt gx).2.2.1 (by decide) (by decide) ?_
      refine XS.aload X4.here hx rfl (hb hby d7_54) rfl rfl ?_
      exact kz
    exact Goes.retO X4 hx Bd.notSynchronized Bd.returns rfl (Or.inr (Or.inr (Or.inr (Or.inr ⟨rfl, rfl, rfl⟩)))) (hb hby d7_56) (nb_ rfl) (nb_ rfl) (by rw [e4]; exact ⟨ub, uk, rfl, Nf4, Kb, gh, Or.inr B3⟩)
def Q_rcc_44 (Z : State) (bb : Addr) (k : ClassId) (vs : List Value) (h0 : Heap) (n0 : Nat) : Option Value → Heap → List Loc → Prop := fun v h L => v = some (.int 0) ∧ Fr n0 L ∧ h = h0
theorem rcc_44 (l : Launch) (Z : State) (a0 : Array Value) (hw : ∀ d ∈ tables_1, d.before a0 Z = true) (ws : List Jvm.Cond) (bb : Addr) (k : ClassId) (vs : List Value) (h0 : Heap) (n0 : Nat) (Z0 : n0 ≤ h0.size) (B0 : Arv Z h0 bb k .byte (4 : Int32) vs (.int 0)) :
    own_M l Z n_7 (Jvm.Cond.code n_7 jdk_52_method_15_code 2 (some .byte)) ws ({ frames := 0, cells := 0, slots := 0, locals := 0 } : Room) #[(.ref bb), (.int (4 : Int32))] h0 (Q_rcc_44 Z bb k vs h0 n0) := by
  refine MetFree.of_bodySF (plainFor_of_name pn_9) hisR ?_
  intro p e s m args below meth c s₁ Bd hml0 hP hK
  obtain ⟨rfl, hZ, hh⟩ := hP
  have hx := Bd.exec
  have hby := Bd.bytes
  have hml : c.maxLocals = 2 := hml0
  have hown : s.vm.findClass "java/lang/StringUTF16" = some m.cls := findClass_of_methodNamed Bd.named
  have hnm := (name_of_methodNamed Bd.named Bd.method).1
  have X0 : Stand p l e ({ frames := 0, cells := 0, slots := 0, locals := 0 } : Room) s m #[(.ref bb), (.int (4 : Int32))] below meth c s₁ [] 0 0 := Stand.of_body Bd
  have e0 : s₁.heap = h0 := by rw [← hh, Bd.state]; rfl
  have N0 := Fr.nil n0
  show Goes p e below (Fin s (Q_rcc_44 Z bb k vs h0 n0) ({ frames := 0, cells := 0, slots := 0, locals := 0 } : Room).cells ({ frames := 0, cells := 0, slots := 0, locals := 0 } : Room).slots) _
  refine Goes.via (S' := s₁.setTop (mkF m 0 #[.val (.ref bb), .val (.int (4 : Int32))] [])) (fun tz kz => castTop (ef_9 m bb (4 : Int32) ) kz) ?_
  refine Goes.via (S' := s₁.setTop (mkF m 2 #[.val (.ref bb), .val (.int (4 : Int32))] [(.ref bb), (.int (4 : Int32))])) (fun tz kz => ?_) ?_
  · show Steps p.tables e below (s₁.setTop (mkF m 0 #[.val (.ref bb), .val (.int (4 : Int32))] [])) _
    refine XS.iloadN X0.here hx rfl (hb hby d9_0) rfl ?_
    refine XS.aloadN X0.here hx rfl (hb hby d9_1) rfl rfl ?_
    exact kz
  obtain ⟨cl1, Ar1, q1, Sz1, Nn1, Hs1, G1⟩ := (id B0)
  refine Goes.via (S' := s₁.setTop (mkF m 8 #[.val (.ref bb), .val (.int (4 : Int32))] [(.int ((((0 : Int32).toUInt32 >>> ((31 : Int32) &&& 31).toUInt32).toInt32).toInt8.toInt32))])) (fun tz kz => ?_) ?_
  · show Steps p.tables e below (s₁.setTop (mkF m 2 #[.val (.ref bb), .val (.int (4 : Int32))] [(.ref bb), (.int (4 : Int32))])) _
    refine X0.arraylength hx (by rw [e0]; exact Ar1.1) (State.isArrayOf_alike hZ.alike Ar1.2.1) (g := (mkF m 2 #[.val (.ref bb), .val (.int (4 : Int32))] [(.ref bb), (.int (4 : Int32))])) rfl rfl (hb hby d9_2) _ ?_
    rw [len_of Sz1 Nn1]
    refine XS.isub X0.here hx rfl (hb hby d9_3) rfl ?_
    refine XS.bipush X0.here hx rfl (hb hby d9_4) ?_
    refine XS.iushr X0.here hx rfl (hb hby d9_6) rfl ?_
    refine XS.i2b X0.here hx rfl (hb hby d9_7) rfl ?_
    exact kz
  exact Goes.retN X0 hx Bd.notSynchronized (t := .byte) Bd.returns (by simp) (hb hby d9_8) (nb_ rfl) (nb_ rfl) ⟨congrArg (fun z => some (Value.int z)) (by decide), N0, e0⟩
def Q_rcc_48 (Z : State) (bb : Addr) (k : ClassId) (vs : List Value) (h0 : Heap) (n0 : Nat) : Option Value → Heap → List Loc → Prop := fun v h L => v = some (.int 1) ∧ Fr n0 L ∧ h = h0
theorem rcc_48 (l : Launch) (Z : State) (a0 : Array Value) (hw : ∀ d ∈ tables_1, d.before a0 Z = true) (ws : List Jvm.Cond) (bb : Addr) (k : ClassId) (vs : List Value) (h0 : Heap) (n0 : Nat) (Z0 : n0 ≤ h0.size) (B0 : Arv Z h0 bb k .byte (8 : Int32) vs (.int 0)) :
    own_M l Z n_7 (Jvm.Cond.code n_7 jdk_52_method_15_code 2 (some .byte)) ws ({ frames := 0, cells := 0, slots := 0, locals := 0 } : Room) #[(.ref bb), (.int (4 : Int32))] h0 (Q_rcc_48 Z bb k vs h0 n0) := by
  refine MetFree.of_bodySF (plainFor_of_name pn_9) hisR ?_
  intro p e s m args below meth c s₁ Bd hml0 hP hK
  obtain ⟨rfl, hZ, hh⟩ := hP
  have hx := Bd.exec
  have hby := Bd.bytes
  have hml : c.maxLocals = 2 := hml0
  have hown : s.vm.findClass "java/lang/StringUTF16" = some m.cls := findClass_of_methodNamed Bd.named
  have hnm := (name_of_methodNamed Bd.named Bd.method).1
  have X0 : Stand p l e ({ frames := 0, cells := 0, slots := 0, locals := 0 } : Room) s m #[(.ref bb), (.int (4 : Int32))] below meth c s₁ [] 0 0 := Stand.of_body Bd
  have e0 : s₁.heap = h0 := by rw [← hh, Bd.state]; rfl
  have N0 := Fr.nil n0
  show Goes p e below (Fin s (Q_rcc_48 Z bb k vs h0 n0) ({ frames := 0, cells := 0, slots := 0, locals := 0 } : Room).cells ({ frames := 0, cells := 0, slots := 0, locals := 0 } : Room).slots) _
  refine Goes.via (S' := s₁.setTop (mkF m 0 #[.val (.ref bb), .val (.int (4 : Int32))] [])) (fun tz kz => castTop (ef_9 m bb (4 : Int32) ) kz) ?_
  refine Goes.via (S' := s₁.setTop (mkF m 2 #[.val (.ref bb), .val (.int (4 : Int32))] [(.ref bb), (.int (4 : Int32))])) (fun tz kz => ?_) ?_
  · show Steps p.tables e below (s₁.setTop (mkF m 0 #[.val (.ref bb), .val (.int (4 : Int32))] [])) _
    refine XS.iloadN X0.here hx rfl (hb hby d9_0) rfl ?_
    refine XS.aloadN X0.here hx rfl (hb hby d9_1) rfl rfl ?_
    exact kz
  obtain ⟨cl1, Ar1, q1, Sz1, Nn1, Hs1, G1⟩ := (id B0)
  refine Goes.via (S' := s₁.setTop (mkF m 8 #[.val (.ref bb), .val (.int (4 : Int32))] [(.int ((((-4 : Int32).toUInt32 >>> ((31 : Int32) &&& 31).toUInt32).toInt32).toInt8.toInt32))])) (fun tz kz => ?_) ?_
  · show Steps p.tables e below (s₁.setTop (mkF m 2 #[.val (.ref bb), .val (.int (4 : Int32))] [(.ref bb), (.int (4 : Int32))])) _
    refine X0.arraylength hx (by rw [e0]; exact Ar1.1) (State.isArrayOf_alike hZ.alike Ar1.2.1) (g := (mkF m 2 #[.val (.ref bb), .val (.int (4 : Int32))] [(.ref bb), (.int (4 : Int32))])) rfl rfl (hb hby d9_2) _ ?_
    rw [len_of Sz1 Nn1]
    refine XS.isub X0.here hx rfl (hb hby d9_3) rfl ?_
    refine XS.bipush X0.here hx rfl (hb hby d9_4) ?_
    refine XS.iushr X0.here hx rfl (hb hby d9_6) rfl ?_
    refine XS.i2b X0.here hx rfl (hb hby d9_7) rfl ?_
    exact kz
  exact Goes.retN X0 hx Bd.notSynchronized (t := .byte) Bd.returns (by simp) (hb hby d9_8) (nb_ rfl) (nb_ rfl) ⟨congrArg (fun z => some (Value.int z)) (by decide), N0, e0⟩
def Q_rn4_4 (Z : State) (a1 : Addr) (ca : Addr) (cs : Int32) (ka : ClassId) (c0 c1 c2 c3 : Int32) (h0 : Heap) (n0 : Nat) : Option Value → Heap → List Loc → Prop := fun v h L => v = none ∧ Fr n0 L ∧ Keep h0 h [a1] ∧ ∃ b k, (((¬ (255 : Int32) < c0 ∧ ¬ (255 : Int32) < c1 ∧ ¬ (255 : Int32) < c2 ∧ ¬ (255 : Int32) < c3) ∧ own_Str Z h a1 b k (4 : Int32) [.int (own_by c0), .int (own_by c1), .int (own_by c2), .int (own_by c3)]) ∨ own_StU Z h a1 b k (8 : Int32) [.int (own_lo c0), .int (own_hi c0), .int (own_lo c1), .int (own_hi c1), .int (own_lo c2), .int (own_hi c2), .int (own_lo c3), .int (own_hi c3)])
theorem rn4_4 (l : Launch) (Z : State) (a0 : Array Value) (hw : ∀ d ∈ tables_1, d.before a0 Z = true) (ws : List Jvm.Cond) (a1 : Addr) (ca : Addr) (cs : Int32) (ka : ClassId) (c0 c1 c2 c3 : Int32) (h0 : Heap) (n0 : Nat) (Z0 : n0 ≤ h0.size) (SC : Sta Z Z.heap "java/lang/String" "COMPACT_STRINGS" "Z" (.int cs)) (hcs : ¬ cs = (0 : Int32)) (O0 : Old Z n0 h0) (SA : Sta Z Z.heap "java/lang/StringUTF16" "$assertionsDisabled" "Z" (.int (1 : Int32))) (SH : Sta Z Z.heap "java/lang/StringUTF16" "HI_BYTE_SHIFT" "I" (.int (0 : Int32))) (SL : Sta Z Z.heap "java/lang/StringUTF16" "LO_BYTE_SHIFT" "I" (.int (8 : Int32))) (FV : Fld Z h0 a1 "java/lang/String" "value" "[B" .null) (FC : Fld Z h0 a1 "java/lang/String" "coder" "B" (.int (0 : Int32))) (E1 : Exa Z h0 a1 "java/lang/String") (g1 : n0 ≤ a1) (C0 : Arv Z h0 ca ka .char (4 : Int32) [.int c0, .int c1, .int c2, .int c3] (.int 0)) (z0 : nar .char c0 = c0) (z1 : nar .char c1 = c1) (z2 : nar .char c2 = c2) (z3 : nar .char c3 = c3) :
    own_M l Z n_8 (Jvm.Cond.code n_8 jdk_42_method_149_code 6 none) ws ({ frames := 4, cells := 2, slots := 12, locals := 84 } : Room) #[(.ref a1), (.ref ca), (.int (0 : Int32)), (.int (4 : Int32)), .null] h0 (Q_rn4_4 Z a1 ca cs ka c0 c1 c2 c3 h0 n0) := by
  refine MetFree.of_bodySF (plainFor_of_name pn_5) hisR ?_
  intro p e s m args below meth c s₁ Bd hml0 hP hK
  obtain ⟨rfl, hZ, hh⟩ := hP
  have hx := Bd.exec
  have hby := Bd.bytes
  have hml : c.maxLocals = 6 := hml0
  have hown : s.vm.findClass "java/lang/String" = some m.cls := findClass_of_methodNamed Bd.named
  have hnm := (name_of_methodNamed Bd.named Bd.method).1
  have X0 : Stand p l e ({ frames := 4, cells := 2, slots := 12, locals := 84 } : Room) s m #[(.ref a1), (.ref ca), (.int (0 : Int32)), (.int (4 : Int32)), .null] below meth c s₁ [] 0 0 := Stand.of_body Bd
  have e0 : s₁.heap = h0 := by rw [← hh, Bd.state]; rfl
  have N0 := Fr.nil n0
  show Goes p e below (Fin s (Q_rn4_4 Z a1 ca cs ka c0 c1 c2 c3 h0 n0) ({ frames := 4, cells := 2, slots := 12, locals := 84 } : Room).cells ({ frames := 4, cells := 2, slots := 12, locals := 84 } : Room).slots) _
  refine Goes.via (S' := s₁.setTop (mkF m 0 #[.val (.ref a1), .val (.ref ca), .val (.int (0 : Int32)), .val (.int (4 : Int32)), .val .null, .unset] [])) (fun tz kz => castTop (ef_5 m a1 ca (0 : Int32) (4 : Int32) ) kz) ?_
  refine Goes.via (S' := s₁.setTop (mkF m 1 #[.val (.ref a1), .val (.ref ca), .val (.int (0 : Int32)), .val (.int (4 : Int32)), .val .null, .unset] [(.ref a1)])) (fun tz kz => ?_) ?_
  · show Steps p.tables e below (s₁.setTop (mkF m 0 #[.val (.ref a1), .val (.ref ca), .val (.int (0 : Int32)), .val (.int (4 : Int32)), .val .null, .unset] [])) _
    refine XS.aloadN X0.here hx rfl (hb hby d5_0) rfl rfl ?_
    exact kz
  obtain ⟨T1, X1, e1, st1⟩ := initO X0 hx hZ hown (w_ hw 22 rfl) (w_ hw 23 rfl) (w_ hw 24 rfl) e0 (g := (mkF m 1 #[.val (.ref a1), .val (.ref ca), .val (.int (0 : Int32)), .val (.int (4 : Int32)), .val .null, .unset] [(.ref a1)])) rfl (by rw [hml]; rfl) rfl (hb hby d5_1) (by decide) (W := 0) (by show 2 * 0 + _ ≤ _; exact Nat.le_of_eq rfl) (by decide)
  refine Goes.via st1 ?_
  refine Goes.via (S' := T1.setTop (mkF m 27 #[.val (.ref a1), .val (.ref ca), .val (.int (0 : Int32)), .val (.int (4 : Int32)), .val .null, .unset] [])) (fun tz kz => ?_) ?_
  · show Steps p.tables e below (T1.setTop (mkF m 4 #[.val (.ref a1), .val (.ref ca), .val (.int (0 : Int32)), .val (.int (4 : Int32)), .val .null, .unset] [])) _
    refine XS.iloadN X1.here hx rfl (hb hby d5_4) rfl ?_
    refine XS.ifYes X1.here hx rfl (pc0 := 5) (pc' := 27) rfl (hb hby d5_5) rfl ((if0 _ _).trans (feq (by first | decide | rfl)).2) (by decide) (by decide) ?_
    exact kz
  obtain ⟨T2, X2, e2, st2⟩ := getS2 X1 hx hZ hown (host := "") (Or.inl (w_ hw 25 rfl)) Via.refl e1 (SC.ext O0.2) (g := (mkF m 27 #[.val (.ref a1), .val (.ref ca), .val (.int (0 : Int32)), .val (.int (4 : Int32)), .val .null, .unset] [])) rfl (hb hby d5_27)
  refine Goes.via st2 ?_
  refine Goes.via (S' := T2.setTop (mkF m 36 #[.val (.ref a1), .val (.ref ca), .val (.int (0 : Int32)), .val (.int (4 : Int32)), .val .null, .unset] [(.int (4 : Int32)), (.int (0 : Int32)), (.ref ca)])) (fun tz kz => ?_) ?_
  · show Steps p.tables e below (T2.setTop (mkF m 30 #[.val (.ref a1), .val (.ref ca), .val (.int (0 : Int32)), .val (.int (4 : Int32)), .val .null, .unset] [(.int cs)])) _
    refine XS.ifNo X2.here hx rfl (hb hby d5_30) rfl ((if0 _ _).trans (feq hcs).1) ?_
    refine XS.aloadN X2.here hx rfl (hb hby d5_33) rfl rfl ?_
    refine XS.iloadN X2.here hx rfl (hb hby d5_34) rfl ?_
    refine XS.iloadN X2.here hx rfl (hb hby d5_35) rfl ?_
    exact kz
  obtain ⟨_, _, ⟨T3, L3, k3, n3⟩, -, X3, ⟨Lc3, hQ3, l3, y3, z3⟩, st3⟩ := Jvm.LawKit.callS X2 hx (y := n_6) hown (mvT hZ (w_ hw 26 rfl)) (mvT hZ (w_ hw 27 rfl)) (mvT hZ (w_ hw 28 rfl)) (mvT hZ (w_ hw 29 rfl)) (by decide) (backOf (W := 0) (rc3_4 l Z a0 hw [] ca ka c0 c1 c2 c3 h0 n0 Z0 SA SH SL O0 C0 z0 z1 z2 z3) hZ (w_ hw 29 rfl) (w_ hw 28 rfl) (by decide) (by decide)) (g := (mkF m 36 #[.val (.ref a1), .val (.ref ca), .val (.int (0 : Int32)), .val (.int (4 : Int32)), .val .null, .unset] [(.int (4 : Int32)), (.int (0 : Int32)), (.ref ca)])) rfl (by rw [hml]; rfl) (argsL := [(.ref ca), (.int (0 : Int32)), (.int (4 : Int32))]) (rest := []) (lenOf pd_4 rfl) rfl (by show 2 * 0 + _ ≤ _; exact Nat.le_of_eq rfl) (hb hby d5_36) (fun _ _ => ⟨rfl, e2, (by decide : 0 + 2 ≤ _), (by decide : 0 + 12 ≤ _)⟩)
  dsimp only [Pt.U, Pt.locs, Pt.cells, Pt.slots] at X3 l3 y3 z3 st3 hQ3
  subst l3 y3 z3
  obtain ⟨vb, kb, rfl, N3, K3, gv, Dk⟩ := hQ3
  have Nf3 := Fr.app N0 N3
  refine Goes.via (st3) ?_
  rcases Dk with ⟨⟨s0, s1, s2, s3⟩, Bv⟩ | Bv
  · skip
    refine Goes.via (S' := T3.setTop (mkF m 45 #[.val (.ref a1), .val (.ref ca), .val (.int (0 : Int32)), .val (.int (4 : Int32)), .val .null, .val (.ref vb)] [(.int (4 : Int32)), (.ref vb), (.ref a1)])) (fun tz kz => ?_) ?_
    · show Steps p.tables e below (T3.setTop (mkF m 39 #[.val (.ref a1), .val (.ref ca), .val (.int (0 : Int32)), .val (.int (4 : Int32)), .val .null, .unset] [(.ref vb)])) _
      refine XS.astore X3.here hx rfl (hb hby d5_39) rfl rfl (l' := #[.val (.ref a1), .val (.ref ca), .val (.int (0 : Int32)), .val (.int (4 : Int32)), .val .null, .val (.ref vb)]) rfl ?_
      refine XS.aloadN X3.here hx rfl (hb hby d5_41) rfl rfl ?_
      refine XS.aload X3.here hx rfl (hb hby d5_42) rfl rfl ?_
      refine XS.iloadN X3.here hx rfl (hb hby d5_44) rfl ?_
      exact kz
    obtain ⟨_, _, ⟨T4, L4, k4, n4⟩, -, X4, ⟨Lc4, hQ4, l4, y4, z4⟩, st4⟩ := Jvm.LawKit.callS X3 hx (y := n_7) hown (mvT hZ (w_ hw 34 rfl)) (mvT hZ (w_ hw 35 rfl)) (mvT hZ (w_ hw 28 rfl)) (mvT hZ (w_ hw 36 rfl)) (by decide) (backOf (W := 1) (rcc_44 l Z a0 hw [] vb kb _ T3.heap n0 (Nat.le_trans Z0 K3.1) Bv) hZ (w_ hw 36 rfl) (w_ hw 28 rfl) (by decide) (by decide)) (g := (mkF m 45 #[.val (.ref a1), .val (.ref ca), .val (.int (0 : Int32)), .val (.int (4 : Int32)), .val .null, .val (.ref vb)] [(.int (4 : Int32)), (.ref vb), (.ref a1)])) rfl (by rw [hml]; rfl) (argsL := [(.ref vb), (.int (4 : Int32))]) (rest := [(.ref a1)]) (lenOf pd_6 rfl) rfl (by show 2 * 0 + _ ≤ _; exact Nat.le_of_eq rfl) (hb hby d5_45) (fun _ _ => ⟨rfl, rfl, (by decide : 2 + 0 ≤ _), (by decide : 12 + 0 ≤ _)⟩)
    dsimp only [Pt.U, Pt.locs, Pt.cells, Pt.slots] at X4 l4 y4 z4 st4 hQ4
    subst l4 y4 z4
    obtain ⟨rfl, N4, e4⟩ := hQ4
    have Nf4 := Fr.app Nf3 N4
    refine Goes.via (st4) ?_
    have Ea := E1.keep K3
    have GV := FV.keep K3 nin0
    have GC := FC.keep K3 nin0
    have nb : a1 ≠ vb := Nat.ne_of_lt (Nat.lt_of_lt_of_le E1.lt gv)
    obtain ⟨T5, h5, X5, e5, W5, st5⟩ := putFN X4 hx hZ hown (w_ hw 37 rfl) Via.refl e4 GC Ea (Or.inr ⟨(w_ hw 38 rfl), rfl, hnm⟩) (w_ hw 12 rfl) (ty := .byte) (v' := (.int (nar .byte (0 : Int32)))) (by decide) rfl (fits_nar_byte _) (g := (mkF m 48 #[.val (.ref a1), .val (.ref ca), .val (.int (0 : Int32)), .val (.int (4 : Int32)), .val .null, .val (.ref vb)] [(.int (0 : Int32)), (.ref a1)])) rfl rfl (hb hby d5_48)
    refine Goes.via st5 ?_
    have N5 := Fr.snoc X5 Nf4 g1
    have HC : Fld Z h5 a1 "java/lang/String" "coder" "B" (.int (0 : Int32)) := GC.same W5
    have HV := GV.other W5 (Or.inr (slot_ne (Or.inr (w_ hw 40 rfl)) (Or.inr (w_ hw 38 rfl)) (by decide) (t := (.array .byte)) (t' := .byte) (by decide) (by decide)))
    have Eb := Ea.wr W5
    have Bb := Bv.other W5 (Ne.symm nb)
    refine Goes.via (S' := T5.setTop (mkF m 54 #[.val (.ref a1), .val (.ref ca), .val (.int (0 : Int32)), .val (.int (4 : Int32)), .val .null, .val (.ref vb)] [(.ref vb), (.ref a1)])) (fun tz kz => ?_) ?_
    · show Steps p.tables e below (T5.setTop (mkF m 51 #[.val (.ref a1), .val (.ref ca), .val (.int (0 : Int32)), .val (.int (4 : Int32)), .val .null, .val (.ref vb)] [])) _
      refine XS.aloadN X5.here hx rfl (hb hby d5_51) rfl rfl ?_
      refine XS.aload X5.here hx rfl (hb hby d5_52) rfl rfl ?_
      exact kz
    obtain ⟨T6, h6, X6, e6, W6, st6⟩ := putF X5 hx hZ hown (host := "") (Or.inl (w_ hw 39 rfl)) Via.refl e5 HV Eb (Or.inr ⟨(w_ hw 40 rfl), rfl, hnm⟩) (w_ hw 12 rfl) (ty := (.array .byte)) (by decide) rfl rfl (g := (mkF m 54 #[.val (.ref a1), .val (.ref ca), .val (.int (0 : Int32)), .val (.int (4 : Int32)), .val .null, .val (.ref vb)] [(.ref vb), (.ref a1)])) rfl rfl (hb hby d5_54)
    refine Goes.via st6 ?_
    have N6 := Fr.snoc X6 N5 g1
    have JV := HV.same W6
    have JC := HC.other W6 (Or.inr (slot_ne (Or.inr (w_ hw 38 rfl)) (Or.inr (w_ hw 40 rfl)) (by decide) (t := .byte) (t' := (.array .byte)) (by decide) (by decide)))
    have Ec := Eb.wr W6
    have Bc := Bb.other W6 (Ne.symm nb)
    have Kq : Keep h0 h6 [a1] := (((Keep.refl h0 [a1]).trans K3 all0).wr W5 (Or.inl (List.mem_singleton.mpr rfl))).wr W6 (Or.inl (List.mem_singleton.mpr rfl))
    exact Goes.retV X6 hx Bd.notSynchronized Bd.returns (hb hby d5_57) (nb_ rfl) (nb_ rfl) (by rw [e6]; exact ⟨rfl, N6, Kq, vb, kb, Or.inl ⟨⟨s0, s1, s2, s3⟩, Ec, JC, JV, Bc⟩⟩)
  · skip
    refine Goes.via (S' := T3.setTop (mkF m 45 #[.val (.ref a1), .val (.ref ca), .val (.int (0 : Int32)), .val (.int (4 : Int32)), .val .null, .val (.ref vb)] [(.int (4 : Int32)), (.ref vb), (.ref a1)])) (fun tz kz => ?_) ?_
    · show Steps p.tables e below (T3.setTop (mkF m 39 #[.val (.ref a1), .val (.ref ca), .val (.int (0 : Int32)), .val (.int (4 : Int32)), .val .null, .unset] [(.ref vb)])) _
      refine XS.astore X3.here hx rfl (hb hby d5_39) rfl rfl (l' := #[.val (.ref a1), .val (.ref ca), .val (.int (0 : Int32)), .val (.int (4 : Int32)), .val .null, .val (.ref vb)]) rfl ?_
      refine XS.aloadN X3.here hx rfl (hb hby d5_41) rfl rfl ?_
      refine XS.aload X3.here hx rfl (hb hby d5_42) rfl rfl ?_
      refine XS.iloadN X3.here hx rfl (hb hby d5_44) rfl ?_
      exact kz
    obtain ⟨_, _, ⟨T7, L7, k7, n7⟩, -, X7, ⟨Lc7, hQ7, l7, y7, z7⟩, st7⟩ := Jvm.LawKit.callS X3 hx (y := n_7) hown (mvT hZ (w_ hw 34 rfl)) (mvT hZ (w_ hw 35 rfl)) (mvT hZ (w_ hw 28 rfl)) (mvT hZ (w_ hw 36 rfl)) (by decide) (backOf (W := 1) (rcc_48 l Z a0 hw [] vb kb _ T3.heap n0 (Nat.le_trans Z0 K3.1) Bv) hZ (w_ hw 36 rfl) (w_ hw 28 rfl) (by decide) (by decide)) (g := (mkF m 45 #[.val (.ref a1), .val (.ref ca), .val (.int (0 : Int32)), .val (.int (4 : Int32)), .val .null, .val (.ref vb)] [(.int (4 : Int32)), (.ref vb), (.ref a1)])) rfl (by rw [hml]; rfl) (argsL := [(.ref vb), (.int (4 : Int32))]) (rest := [(.ref a1)]) (lenOf pd_6 rfl) rfl (by show 2 * 0 + _ ≤ _; exact Nat.le_of_eq rfl) (hb hby d5_45) (fun _ _ => ⟨rfl, rfl, (by decide : 2 + 0 ≤ _), (by decide : 12 + 0 ≤ _)⟩)
    dsimp only [Pt.U, Pt.locs, Pt.cells, Pt.slots] at X7 l7 y7 z7 st7 hQ7
    subst l7 y7 z7
    obtain ⟨rfl, N7, e7⟩ := hQ7
    have Nf7 := Fr.app Nf3 N7
    refine Goes.via (st7) ?_
    have Ea := E1.keep K3
    have GV := FV.keep K3 nin0
    have GC := FC.keep K3 nin0
    have nb : a1 ≠ vb := Nat.ne_of_lt (Nat.lt_of_lt_of_le E1.lt gv)
    obtain ⟨T8, h8, X8, e8, W8, st8⟩ := putFN X7 hx hZ hown (w_ hw 37 rfl) Via.refl e7 GC Ea (Or.inr ⟨(w_ hw 38 rfl), rfl, hnm⟩) (w_ hw 12 rfl) (ty := .byte) (v' := (.int (nar .byte (1 : Int32)))) (by decide) rfl (fits_nar_byte _) (g := (mkF m 48 #[.val (.ref a1), .val (.ref ca), .val (.int (0 : Int32)), .val (.int (4 : Int32)), .val .null, .val (.ref vb)] [(.int (1 : Int32)), (.ref a1)])) rfl rfl (hb hby d5_48)
    refine Goes.via st8 ?_
    have N8 := Fr.snoc X8 Nf7 g1
    have HC : Fld Z h8 a1 "java/lang/String" "coder" "B" (.int (1 : Int32)) := GC.same W8
    have HV := GV.other W8 (Or.inr (slot_ne (Or.inr (w_ hw 40 rfl)) (Or.inr (w_ hw 38 rfl)) (by decide) (t := (.array .byte)) (t' := .byte) (by decide) (by decide)))
    have Eb := Ea.wr W8
    have Bb := Bv.other W8 (Ne.symm nb)
    refine Goes.via (S' := T8.setTop (mkF m 54 #[.val (.ref a1), .val (.ref ca), .val (.int (0 : Int32)), .val (.int (4 : Int32)), .val .null, .val (.ref vb)] [(.ref vb), (.ref a1)])) (fun tz kz => ?_) ?_
    · show Steps p.tables e below (T8.setTop (mkF m 51 #[.val (.ref a1), .val (.ref ca), .val (.int (0 : Int32)), .val (.int (4 : Int32)), .val .null, .val (.ref vb)] [])) _
      refine XS.aloadN X8.here hx rfl (hb hby d5_51) rfl rfl ?_
      refine XS.aload X8.here hx rfl (hb hby d5_52) rfl rfl ?_
      exact kz
    obtain ⟨T9, h9, X9, e9, W9, st9⟩ := putF X8 hx hZ hown (host := "") (Or.inl (w_ hw 39 rfl)) Via.refl e8 HV Eb (Or.inr ⟨(w_ hw 40 rfl), rfl, hnm⟩) (w_ hw 12 rfl) (ty := (.array .byte)) (by decide) rfl rfl (g := (mkF m 54 #[.val (.ref a1), .val (.ref ca), .val (.int (0 : Int32)), .val (.int (4 : Int32)), .val .null, .val (.ref vb)] [(.ref vb), (.ref a1)])) rfl rfl (hb hby d5_54)
    refine Goes.via st9 ?_
    have N9 := Fr.snoc X9 N8 g1
    have JV := HV.same W9
    have JC := HC.other W9 (Or.inr (slot_ne (Or.inr (w_ hw 38 rfl)) (Or.inr (w_ hw 40 rfl)) (by decide) (t := .byte) (t' := (.array .byte)) (by decide) (by decide)))
    have Ec := Eb.wr W9
    have Bc := Bb.other W9 (Ne.symm nb)
    have Kq : Keep h0 h9 [a1] := (((Keep.refl h0 [a1]).trans K3 all0).wr W8 (Or.inl (List.mem_singleton.mpr rfl))).wr W9 (Or.inl (List.mem_singleton.mpr rfl))
    exact Goes.retV X9 hx Bd.notSynchronized Bd.returns (hb hby d5_57) (nb_ rfl) (nb_ rfl) (by rw [e9]; exact ⟨rfl, N9, Kq, vb, kb, Or.inr ⟨Ec, JC, JV, Bc⟩⟩)
def Q_rn1_4 (Z : State) (a1 : Addr) (ca : Addr) (cs : Int32) (ka : ClassId) (c0 c1 c2 c3 : Int32) (h0 : Heap) (n0 : Nat) : Option Value → Heap → List Loc → Prop := fun v h L => v = none ∧ Fr n0 L ∧ Keep h0 h [a1] ∧ ∃ b k, (((¬ (255 : Int32) < c0 ∧ ¬ (255 : Int32) < c1 ∧ ¬ (255 : Int32) < c2 ∧ ¬ (255 : Int32) < c3) ∧ own_Str Z h a1 b k (4 : Int32) [.int (own_by c0), .int (own_by c1), .int (own_by c2), .int (own_by c3)]) ∨ own_StU Z h a1 b k (8 : Int32) [.int (own_lo c0), .int (own_hi c0), .int (own_lo c1), .int (own_hi c1), .int (own_lo c2), .int (own_hi c2), .int (own_lo c3), .int (own_hi c3)])
theorem rn1_4 (l : Launch) (Z : State) (a0 : Array Value) (hw : ∀ d ∈ tables_1, d.before a0 Z = true) (ws : List Jvm.Cond) (a1 : Addr) (ca : Addr) (cs : Int32) (ka : ClassId) (c0 c1 c2 c3 : Int32) (h0 : Heap) (n0 : Nat) (Z0 : n0 ≤ h0.size) (SC : Sta Z Z.heap "java/lang/String" "COMPACT_STRINGS" "Z" (.int cs)) (hcs : ¬ cs = (0 : Int32)) (O0 : Old Z n0 h0) (SA : Sta Z Z.heap "java/lang/StringUTF16" "$assertionsDisabled" "Z" (.int (1 : Int32))) (SH : Sta Z Z.heap "java/lang/StringUTF16" "HI_BYTE_SHIFT" "I" (.int (0 : Int32))) (SL : Sta Z Z.heap "java/lang/StringUTF16" "LO_BYTE_SHIFT" "I" (.int (8 : Int32))) (FV : Fld Z h0 a1 "java/lang/String" "value" "[B" .null) (FC : Fld Z h0 a1 "java/lang/String" "coder" "B" (.int (0 : Int32))) (E1 : Exa Z h0 a1 "java/lang/String") (g1 : n0 ≤ a1) (C0 : Arv Z h0 ca ka .char (4 : Int32) [.int c0, .int c1, .int c2, .int c3] (.int 0)) (z0 : nar .char c0 = c0) (z1 : nar .char c1 = c1) (z2 : nar .char c2 = c2) (z3 : nar .char c3 = c3) :
    own_M l Z n_9 (Jvm.Cond.code n_9 jdk_42_method_3_code 2 none) ws ({ frames := 5, cells := 2, slots := 12, locals := 106 } : Room) #[(.ref a1), (.ref ca)] h0 (Q_rn1_4 Z a1 ca cs ka c0 c1 c2 c3 h0 n0) := by
  refine MetFree.of_bodySF (plainFor_of_name pn_4) hisR ?_
  intro p e s m args below meth c s₁ Bd hml0 hP hK
  obtain ⟨rfl, hZ, hh⟩ := hP
  have hx := Bd.exec
  have hby := Bd.bytes
  have hml : c.maxLocals = 2 := hml0
  have hown : s.vm.findClass "java/lang/String" = some m.cls := findClass_of_methodNamed Bd.named
  have hnm := (name_of_methodNamed Bd.named Bd.method).1
  have X0 : Stand p l e ({ frames := 5, cells := 2, slots := 12, locals := 106 } : Room) s m #[(.ref a1), (.ref ca)] below meth c s₁ [] 0 0 := Stand.of_body Bd
  have e0 : s₁.heap = h0 := by rw [← hh, Bd.state]; rfl
  have N0 := Fr.nil n0
  show Goes p e below (Fin s (Q_rn1_4 Z a1 ca cs ka c0 c1 c2 c3 h0 n0) ({ frames := 5, cells := 2, slots := 12, locals := 106 } : Room).cells ({ frames := 5, cells := 2, slots := 12, locals := 106 } : Room).slots) _
  refine Goes.via (S' := s₁.setTop (mkF m 0 #[.val (.ref a1), .val (.ref ca)] [])) (fun tz kz => castTop (ef_4 m a1 ca ) kz) ?_
  refine Goes.via (S' := s₁.setTop (mkF m 4 #[.val (.ref a1), .val (.ref ca)] [(.ref ca), (.int (0 : Int32)), (.ref ca), (.ref a1)])) (fun tz kz => ?_) ?_
  · show Steps p.tables e below (s₁.setTop (mkF m 0 #[.val (.ref a1), .val (.ref ca)] [])) _
    refine XS.aloadN X0.here hx rfl (hb hby d4_0) rfl rfl ?_
    refine XS.aloadN X0.here hx rfl (hb hby d4_1) rfl rfl ?_
    refine XS.iconst X0.here hx rfl (hb hby d4_2) ?_
    refine XS.aloadN X0.here hx rfl (hb hby d4_3) rfl rfl ?_
    exact kz
  obtain ⟨cl1, Ar1, q1, Sz1, Nn1, Hs1, G1⟩ := (id C0)
  refine Goes.via (S' := s₁.setTop (mkF m 6 #[.val (.ref a1), .val (.ref ca)] [.null, (.int (4 : Int32)), (.int (0 : Int32)), (.ref ca), (.ref a1)])) (fun tz kz => ?_) ?_
  · show Steps p.tables e below (s₁.setTop (mkF m 4 #[.val (.ref a1), .val (.ref ca)] [(.ref ca), (.int (0 : Int32)), (.ref ca), (.ref a1)])) _
    refine X0.arraylength hx (by rw [e0]; exact Ar1.1) (State.isArrayOf_alike hZ.alike Ar1.2.1) (g := (mkF m 4 #[.val (.ref a1), .val (.ref ca)] [(.ref ca), (.int (0 : Int32)), (.ref ca), (.ref a1)])) rfl rfl (hb hby d4_4) _ ?_
    rw [len_of Sz1 Nn1]
    refine XS.aconstNull X0.here hx rfl (hb hby d4_5) ?_
    exact kz
  obtain ⟨_, _, ⟨T2, L2, k2, n2⟩, -, X2, ⟨Lc2, hQ2, l2, y2, z2⟩, st2⟩ := X0.specialBack hx (y := n_8) rfl hown (mvT hZ (w_ hw 18 rfl)) (mvT hZ (w_ hw 19 rfl)) (mvT hZ (w_ hw 21 rfl)) (by decide) (backOf (W := 0) (rn4_4 l Z a0 hw [] a1 ca cs ka c0 c1 c2 c3 h0 n0 Z0 SC hcs O0 SA SH SL FV FC E1 g1 C0 z0 z1 z2 z3) hZ (w_ hw 21 rfl) (w_ hw 13 rfl) (by decide) (by decide)) (g := (mkF m 6 #[.val (.ref a1), .val (.ref ca)] [.null, (.int (4 : Int32)), (.int (0 : Int32)), (.ref ca), (.ref a1)])) rfl (by rw [hml]; rfl) (Steps.refl _) (a := a1) (argsL := [(.ref ca), (.int (0 : Int32)), (.int (4 : Int32)), .null]) (rest := []) (lenOf pd_7 rfl) rfl (by show 2 * 0 + _ ≤ _; exact Nat.le_of_eq rfl) (hb hby d4_6) (fun _ _ => ⟨rfl, e0, (by decide : 0 + 2 ≤ _), (by decide : 0 + 12 ≤ _)⟩)
  dsimp only [Pt.U, Pt.locs, Pt.cells, Pt.slots] at X2 l2 y2 z2 st2 hQ2
  subst l2 y2 z2
  obtain ⟨rfl, N2, K2, vb, kb, S2⟩ := hQ2
  have Nf2 := Fr.app N0 N2
  refine Goes.via (fun _ kz => st2.trans kz) ?_
  exact Goes.retV X2 hx Bd.notSynchronized Bd.returns (hb hby d4_9) (nb_ rfl) (nb_ rfl) ⟨rfl, Nf2, K2, vb, kb, S2⟩
theorem d11_0 : decode jdk_42_method_55_code 0 = .ok (.aload_n 0, 1) := by decide +kernel
theorem d11_1 : decode jdk_42_method_55_code 1 = .ok (.getfield 9, 3) := by decide +kernel
theorem d11_4 : decode jdk_42_method_55_code 4 = .ok (.arraylength, 1) := by decide +kernel
theorem d11_5 : decode jdk_42_method_55_code 5 = .ok (.ifCond .ne 7, 3) := by decide +kernel
theorem d11_8 : decode jdk_42_method_55_code 8 = .ok (.iconst 1, 1) := by decide +kernel
theorem d11_9 : decode jdk_42_method_55_code 9 = .ok (.goto 4, 3) := by decide +kernel
theorem d11_12 : decode jdk_42_method_55_code 12 = .ok (.iconst 0, 1) := by decide +kernel
theorem d11_13 : decode jdk_42_method_55_code 13 = .ok (.ireturn, 1) := by decide +kernel
theorem pn_11 : plainName "java/lang/String" = true := by first | (simp [plainName, overriddenIn]; done) | decide +kernel
theorem ef_11 (m : MethodId) (x0 : Addr) : entryFrame m #[(.ref x0)] 1 = mkF m 0 #[.val (.ref x0)] [] := by first | (simp [entryFrame, mkF, argsToLocals, Value.category]; done) | rfl
def Q_rie (Z : State) (a1 : Addr) (b : Addr) (k : ClassId) (n : Int32) (vs : List Value) (h0 : Heap) (n0 : Nat) : Option Value → Heap → List Loc → Prop := fun v h L => v = some (.int (0 : Int32)) ∧ Fr n0 L ∧ h = h0
theorem rie (l : Launch) (Z : State) (a0 : Array Value) (hw : ∀ d ∈ tables_1, d.before a0 Z = true) (ws : List Jvm.Cond) (a1 : Addr) (b : Addr) (k : ClassId) (n : Int32) (vs : List Value) (h0 : Heap) (n0 : Nat) (Z0 : n0 ≤ h0.size) (GV : Fld Z h0 a1 "java/lang/String" "value" "[B" (.ref b)) (BV : Arv Z h0 b k .byte n vs (.int 0)) (hn : ¬ n = (0 : Int32)) :
    own_M l Z n_10 (Jvm.Cond.code n_10 jdk_42_method_55_code 1 (some .boolean)) ws ({ frames := 0, cells := 0, slots := 0, locals := 0 } : Room) #[(.ref a1)] h0 (Q_rie Z a1 b k n vs h0 n0) := by
  refine MetFree.of_bodySF (plainFor_of_name pn_11) hisR ?_
  intro p e s m args below meth c s₁ Bd hml0 hP hK
  obtain ⟨rfl, hZ, hh⟩ := hP
  have hx := Bd.exec
  have hby := Bd.bytes
  have hml : c.maxLocals = 1 := hml0
  have hown : s.vm.findClass "java/lang/String" = some m.cls := findClass_of_methodNamed Bd.named
  have hnm := (name_of_methodNamed Bd.named Bd.method).1
  have X0 : Stand p l e ({ frames := 0, cells := 0, slots := 0, locals := 0 } : Room) s m #[(.ref a1)] below meth c s₁ [] 0 0 := Stand.of_body Bd
  have e0 : s₁.heap = h0 := by rw [← hh, Bd.state]; rfl
  have N0 := Fr.nil n0
  show Goes p e below (Fin s (Q_rie Z a1 b k n vs h0 n0) ({ frames := 0, cells := 0, slots := 0, locals := 0 } : Room).cells ({ frames := 0, cells := 0, slots := 0, locals := 0 } : Room).slots) _
  refine Goes.via (S' := s₁.setTop (mkF m 0 #[.val (.ref a1)] [])) (fun tz kz => castTop (ef_11 m a1 ) kz) ?_
  refine Goes.via (S' := s₁.setTop (mkF m 1 #[.val (.ref a1)] [(.ref a1)])) (fun tz kz => ?_) ?_
  · show Steps p.tables e below (s₁.setTop (mkF m 0 #[.val (.ref a1)] [])) _
    refine XS.aloadN X0.here hx rfl (hb hby d11_0) rfl rfl ?_
    exact kz
  obtain ⟨T1, X1, e1, st1⟩ := getF X0 hx hZ hown (host := "") (Or.inl (w_ hw 39 rfl)) Via.refl e0 GV (g := (mkF m 1 #[.val (.ref a1)] [(.ref a1)])) rfl rfl (hb hby d11_1)
  refine Goes.via st1 ?_
  obtain ⟨cl2, Ar2, q2, Sz2, Nn2, Hs2, G2⟩ := (id BV)
  refine Goes.via (S' := T1.setTop (mkF m 13 #[.val (.ref a1)] [(.int (0 : Int32))])) (fun tz kz => ?_) ?_
  · show Steps p.tables e below (T1.setTop (mkF m 4 #[.val (.ref a1)] [(.ref b)])) _
    refine X1.arraylength hx (by rw [e1]; exact Ar2.1) (State.isArrayOf_alike hZ.alike Ar2.2.1) (g := (mkF m 4 #[.val (.ref a1)] [(.ref b)])) rfl rfl (hb hby d11_4) _ ?_
    rw [len_of Sz2 Nn2]
    refine XS.ifYes X1.here hx rfl (pc0 := 5) (pc' := 12) rfl (hb hby d11_5) rfl ((if0 _ _).trans (feq hn).2) (by decide) (by decide) ?_
    refine XS.iconst X1.here hx rfl (hb hby d11_12) ?_
    exact kz
  exact Goes.retN X1 hx Bd.notSynchronized (t := .boolean) Bd.returns (by simp) (hb hby d11_13) (nb_ rfl) (nb_ rfl) ⟨rfl, N0, e1⟩
def Q_rie0 (Z : State) (a1 : Addr) (b : Addr) (k : ClassId) (vs : List Value) (h0 : Heap) (n0 : Nat) : Option Value → Heap → List Loc → Prop := fun v h L => v = some (.int (1 : Int32)) ∧ Fr n0 L ∧ h = h0
theorem rie0 (l : Launch) (Z : State) (a0 : Array Value) (hw : ∀ d ∈ tables_1, d.before a0 Z = true) (ws : List Jvm.Cond) (a1 : Addr) (b : Addr) (k : ClassId) (vs : List Value) (h0 : Heap) (n0 : Nat) (Z0 : n0 ≤ h0.size) (GV : Fld Z h0 a1 "java/lang/String" "value" "[B" (.ref b)) (BV : Arv Z h0 b k .byte (0 : Int32) vs (.int 0)) :
    own_M l Z n_10 (Jvm.Cond.code n_10 jdk_42_method_55_code 1 (some .boolean)) ws ({ frames := 0, cells := 0, slots := 0, locals := 0 } : Room) #[(.ref a1)] h0 (Q_rie0 Z a1 b k vs h0 n0) := by
  refine MetFree.of_bodySF (plainFor_of_name pn_11) hisR ?_
  intro p e s m args below meth c s₁ Bd hml0 hP hK
  obtain ⟨rfl, hZ, hh⟩ := hP
  have hx := Bd.exec
  have hby := Bd.bytes
  have hml : c.maxLocals = 1 := hml0
  have hown : s.vm.findClass "java/lang/String" = some m.cls := findClass_of_methodNamed Bd.named
  have hnm := (name_of_methodNamed Bd.named Bd.method).1
  have X0 : Stand p l e ({ frames := 0, cells := 0, slots := 0, locals := 0 } : Room) s m #[(.ref a1)] below meth c s₁ [] 0 0 := Stand.of_body Bd
  have e0 : s₁.heap = h0 := by rw [← hh, Bd.state]; rfl
  have N0 := Fr.nil n0
  show Goes p e below (Fin s (Q_rie0 Z a1 b k vs h0 n0) ({ frames := 0, cells := 0, slots := 0, locals := 0 } : Room).cells ({ frames := 0, cells := 0, slots := 0, locals := 0 } : Room).slots) _
  refine Goes.via (S' := s₁.setTop (mkF m 0 #[.val (.ref a1)] [])) (fun tz kz => castTop (ef_11 m a1 ) kz) ?_
  refine Goes.via (S' := s₁.setTop (mkF m 1 #[.val (.ref a1)] [(.ref a1)])) (fun tz kz => ?_) ?_
  · show Steps p.tables e below (s₁.setTop (mkF m 0 #[.val (.ref a1)] [])) _
    refine XS.aloadN X0.here hx rfl (hb hby d11_0) rfl rfl ?_
    exact kz
  obtain ⟨T1, X1, e1, st1⟩ := getF X0 hx hZ hown (host := "") (Or.inl (w_ hw 39 rfl)) Via.refl e0 GV (g := (mkF m 1 #[.val (.ref a1)] [(.ref a1)])) rfl rfl (hb hby d11_1)
  refine Goes.via st1 ?_
  obtain ⟨cl2, Ar2, q2, Sz2, Nn2, Hs2, G2⟩ := (id BV)
  refine Goes.via (S' := T1.setTop (mkF m 13 #[.val (.ref a1)] [(.int (1 : Int32))])) (fun tz kz => ?_) ?_
  · show Steps p.tables e below (T1.setTop (mkF m 4 #[.val (.ref a1)] [(.ref b)])) _
    refine X1.arraylength hx (by rw [e1]; exact Ar2.1) (State.isArrayOf_alike hZ.alike Ar2.2.1) (g := (mkF m 4 #[.val (.ref a1)] [(.ref b)])) rfl rfl (hb hby d11_4) _ ?_
    rw [len_of Sz2 Nn2]
    refine XS.ifNo X1.here hx rfl (hb hby d11_5) rfl ((if0 _ _).trans (teq (by first | decide | rfl)).2) ?_
    refine XS.iconst X1.here hx rfl (hb hby d11_8) ?_
    refine XS.goto X1.here hx rfl (pc0 := 9) (pc' := 13) rfl (hb hby d11_9) (by decide) (by decide) ?_
    exact kz
  exact Goes.retN X1 hx Bd.notSynchronized (t := .boolean) Bd.returns (by simp) (hb hby d11_13) (nb_ rfl) (nb_ rfl) ⟨rfl, N0, e1⟩
theorem d21_0 : decode jdk_42_method_152_code 0 = .ok (.getstatic 38, 3) := by decide +kernel
theorem d21_3 : decode jdk_42_method_152_code 3 = .ok (.ifCond .eq 10, 3) := by decide +kernel
theorem d21_6 : decode jdk_42_method_152_code 6 = .ok (.aload_n 0, 1) := by decide +kernel
theorem d21_7 : decode jdk_42_method_152_code 7 = .ok (.getfield 15, 3) := by decide +kernel
theorem d21_10 : decode jdk_42_method_152_code 10 = .ok (.goto 4, 3) := by decide +kernel
theorem d21_14 : decode jdk_42_method_152_code 14 = .ok (.ireturn, 1) := by decide +kernel
theorem pn_21 : plainName "java/lang/String" = true := by first | (simp [plainName, overriddenIn]; done) | decide +kernel
theorem ef_21 (m : MethodId) (x0 : Addr) : entryFrame m #[(.ref x0)] 1 = mkF m 0 #[.val (.ref x0)] [] := by first | (simp [entryFrame, mkF, argsToLocals, Value.category]; done) | rfl
def Q_rcd (Z : State) (a1 : Addr) (cs cd : Int32) (h0 : Heap) (n0 : Nat) : Option Value → Heap → List Loc → Prop := fun v h L => v = some (.int cd) ∧ Fr n0 L ∧ h = h0
theorem rcd (l : Launch) (Z : State) (a0 : Array Value) (hw : ∀ d ∈ tables_1, d.before a0 Z = true) (ws : List Jvm.Cond) (a1 : Addr) (cs cd : Int32) (h0 : Heap) (n0 : Nat) (Z0 : n0 ≤ h0.size) (SC : Sta Z Z.heap "java/lang/String" "COMPACT_STRINGS" "Z" (.int cs)) (hcs : ¬ cs = (0 : Int32)) (O0 : Old Z n0 h0) (GC : Fld Z h0 a1 "java/lang/String" "coder" "B" (.int cd)) (hcd : nar .byte cd = cd) :
    own_M l Z n_11 (Jvm.Cond.code n_11 jdk_42_method_152_code 1 (some .byte)) ws ({ frames := 0, cells := 0, slots := 0, locals := 0 } : Room) #[(.ref a1)] h0 (Q_rcd Z a1 cs cd h0 n0) := by
  refine MetFree.of_bodySF (plainFor_of_name pn_21) hisR ?_
  intro p e s m args below meth c s₁ Bd hml0 hP hK
  obtain ⟨rfl, hZ, hh⟩ := hP
  have hx := Bd.exec
  have hby := Bd.bytes
  have hml : c.maxLocals = 1 := hml0
  have hown : s.vm.findClass "java/lang/String" = some m.cls := findClass_of_methodNamed Bd.named
  have hnm := (name_of_methodNamed Bd.named Bd.method).1
  have X0 : Stand p l e ({ frames := 0, cells := 0, slots := 0, locals := 0 } : Room) s m #[(.ref a1)] below meth c s₁ [] 0 0 := Stand.of_body Bd
  have e0 : s₁.heap = h0 := by rw [← hh, Bd.state]; rfl
  have N0 := Fr.nil n0
  show Goes p e below (Fin s (Q_rcd Z a1 cs cd h0 n0) ({ frames := 0, cells := 0, slots := 0, locals := 0 } : Room).cells ({ frames := 0, cells := 0, slots := 0, locals := 0 } : Room).slots) _
  refine Goes.via (S' := s₁.setTop (mkF m 0 #[.val (.ref a1)] [])) (fun tz kz => castTop (ef_21 m a1 ) kz) ?_
  obtain ⟨T1, X1, e1, st1⟩ := getS2 X0 hx hZ hown (host := "") (Or.inl (w_ hw 25 rfl)) Via.refl e0 (SC.ext O0.2) (g := (mkF m 0 #[.val (.ref a1)] [])) rfl (hb hby d21_0)
  refine Goes.via st1 ?_
  refine Goes.via (S' := T1.setTop (mkF m 7 #[.val (.ref a1)] [(.ref a1)])) (fun tz kz => ?_) ?_
  · show Steps p.tables e below (T1.setTop (mkF m 3 #[.val (.ref a1)] [(.int cs)])) _
    refine XS.ifNo X1.here hx rfl (hb hby d21_3) rfl ((if0 _ _).trans (feq hcs).1) ?_
    refine XS.aloadN X1.here hx rfl (hb hby d21_6) rfl rfl ?_
    exact kz
  obtain ⟨T2, X2, e2, st2⟩ := getF X1 hx hZ hown (host := "") (Or.inl (w_ hw 37 rfl)) Via.refl e1 GC (g := (mkF m 7 #[.val (.ref a1)] [(.ref a1)])) rfl rfl (hb hby d21_7)
  refine Goes.via st2 ?_
  refine Goes.via (S' := T2.setTop (mkF m 14 #[.val (.ref a1)] [(.int cd)])) (fun tz kz => ?_) ?_
  · show Steps p.tables e below (T2.setTop (mkF m 10 #[.val (.ref a1)] [(.int cd)])) _
    refine XS.goto X2.here hx rfl (pc0 := 10) (pc' := 14) rfl (hb hby d21_10) (by decide) (by decide) ?_
    exact kz
  exact Goes.retN X2 hx Bd.notSynchronized (t := .byte) Bd.returns (by simp) (hb hby d21_14) (nb_ rfl) (nb_ rfl) ⟨congrArg (fun z => some (Value.int z)) hcd, N0, e2⟩
theorem d14_0 : decode jdk_42_method_154_code 0 = .ok (.getstatic 38, 3) := by decide +kernel
theorem d14_3 : decode jdk_42_method_154_code 3 = .ok (.ifCond .eq 14, 3) := by decide +kernel
theorem d14_6 : decode jdk_42_method_154_code 6 = .ok (.aload_n 0, 1) := by decide +kernel
theorem d14_7 : decode jdk_42_method_154_code 7 = .ok (.getfield 15, 3) := by decide +kernel
theorem d14_10 : decode jdk_42_method_154_code 10 = .ok (.ifCond .ne 7, 3) := by decide +kernel
theorem d14_13 : decode jdk_42_method_154_code 13 = .ok (.iconst 1, 1) := by decide +kernel
theorem d14_14 : decode jdk_42_method_154_code 14 = .ok (.goto 4, 3) := by decide +kernel
theorem d14_17 : decode jdk_42_method_154_code 17 = .ok (.iconst 0, 1) := by decide +kernel
theorem d14_18 : decode jdk_42_method_154_code 18 = .ok (.ireturn, 1) := by decide +kernel
theorem pn_14 : plainName "java/lang/String" = true := by first | (simp [plainName, overriddenIn]; done) | decide +kernel
theorem ef_14 (m : MethodId) (x0 : Addr) : entryFrame m #[(.ref x0)] 1 = mkF m 0 #[.val (.ref x0)] [] := by first | (simp [entryFrame, mkF, argsToLocals, Value.category]; done) | rfl
def Q_ril_0 (Z : State) (a1 : Addr) (cs : Int32) (h0 : Heap) (n0 : Nat) : Option Value → Heap → List Loc → Prop := fun v h L => v = some (.int (1 : Int32)) ∧ Fr n0 L ∧ h = h0
theorem ril_0 (l : Launch) (Z : State) (a0 : Array Value) (hw : ∀ d ∈ tables_1, d.before a0 Z = true) (ws : List Jvm.Cond) (a1 : Addr) (cs : Int32) (h0 : Heap) (n0 : Nat) (Z0 : n0 ≤ h0.size) (SC : Sta Z Z.heap "java/lang/String" "COMPACT_STRINGS" "Z" (.int cs)) (hcs : ¬ cs = (0 : Int32)) (O0 : Old Z n0 h0) (GC : Fld Z h0 a1 "java/lang/String" "coder" "B" (.int (0 : Int32))) :
    own_M l Z n_12 (Jvm.Cond.code n_12 jdk_42_method_154_code 1 (some .boolean)) ws ({ frames := 0, cells := 0, slots := 0, locals := 0 } : Room) #[(.ref a1)] h0 (Q_ril_0 Z a1 cs h0 n0) := by
  refine MetFree.of_bodySF (plainFor_of_name pn_14) hisR ?_
  intro p e s m args below meth c s₁ Bd hml0 hP hK
  obtain ⟨rfl, hZ, hh⟩ := hP
  have hx := Bd.exec
  have hby := Bd.bytes
  have hml : c.maxLocals = 1 := hml0
  have hown : s.vm.findClass "java/lang/String" = some m.cls := findClass_of_methodNamed Bd.named
  have hnm := (name_of_methodNamed Bd.named Bd.method).1
  have X0 : Stand p l e ({ frames := 0, cells := 0, slots := 0, locals := 0 } : Room) s m #[(.ref a1)] below meth c s₁ [] 0 0 := Stand.of_body Bd
  have e0 : s₁.heap = h0 := by rw [← hh, Bd.state]; rfl
  have N0 := Fr.nil n0
  show Goes p e below (Fin s (Q_ril_0 Z a1 cs h0 n0) ({ frames := 0, cells := 0, slots := 0, locals := 0 } : Room).cells ({ frames := 0, cells := 0, slots := 0, locals := 0 } : Room).slots) _
  refine Goes.via (S' := s₁.setTop (mkF m 0 #[.val (.ref a1)] [])) (fun tz kz => castTop (ef_14 m a1 ) kz) ?_
  obtain ⟨T1, X1, e1, st1⟩ := getS2 X0 hx hZ hown (host := "") (Or.inl (w_ hw 25 rfl)) Via.refl e0 (SC.ext O0.2) (g := (mkF m 0 #[.val (.ref a1)] [])) rfl (hb hby d14_0)
  refine Goes.via st1 ?_
  refine Goes.via (S' := T1.setTop (mkF m 7 #[.val (.ref a1)] [(.ref a1)])) (fun tz kz => ?_) ?_
  · show Steps p.tables e below (T1.setTop (mkF m 3 #[.val (.ref a1)] [(.int cs)])) _
    refine XS.ifNo X1.here hx rfl (hb hby d14_3) rfl ((if0 _ _).trans (feq hcs).1) ?_
    refine XS.aloadN X1.here hx rfl (hb hby d14_6) rfl rfl ?_
    exact kz
  obtain ⟨T2, X2, e2, st2⟩ := getF X1 hx hZ hown (host := "") (Or.inl (w_ hw 37 rfl)) Via.refl e1 GC (g := (mkF m 7 #[.val (.ref a1)] [(.ref a1)])) rfl rfl (hb hby d14_7)
  refine Goes.via st2 ?_
  refine Goes.via (S' := T2.setTop (mkF m 18 #[.val (.ref a1)] [(.int (1 : Int32))])) (fun tz kz => ?_) ?_
  · show Steps p.tables e below (T2.setTop (mkF m 10 #[.val (.ref a1)] [(.int (0 : Int32))])) _
    refine XS.ifNo X2.here hx rfl (hb hby d14_10) rfl ((if0 _ _).trans (teq (by first | decide | rfl)).2) ?_
    refine XS.iconst X2.here hx rfl (hb hby d14_13) ?_
    refine XS.goto X2.here hx rfl (pc0 := 14) (pc' := 18) rfl (hb hby d14_14) (by decide) (by decide) ?_
    exact kz
  exact Goes.retN X2 hx Bd.notSynchronized (t := .boolean) Bd.returns (by simp) (hb hby d14_18) (nb_ rfl) (nb_ rfl) ⟨rfl, N0, e2⟩
def Q_ril_1 (Z : State) (a1 : Addr) (cs : Int32) (h0 : Heap) (n0 : Nat) : Option Value → Heap → List Loc → Prop := fun v h L => v = some (.int (0 : Int32)) ∧ Fr n0 L ∧ h = h0
theorem ril_1 (l : Launch) (Z : State) (a0 : Array Value) (hw : ∀ d ∈ tables_1, d.before a0 Z = true) (ws : List Jvm.Cond) (a1 : Addr) (cs : Int32) (h0 : Heap) (n0 : Nat) (Z0 : n0 ≤ h0.size) (SC : Sta Z Z.heap "java/lang/String" "COMPACT_STRINGS" "Z" (.int cs)) (hcs : ¬ cs = (0 : Int32)) (O0 : Old Z n0 h0) (GC : Fld Z h0 a1 "java/lang/String" "coder" "B" (.int (1 : Int32))) :
    own_M l Z n_12 (Jvm.Cond.code n_12 jdk_42_method_154_code 1 (some .boolean)) ws ({ frames := 0, cells := 0, slots := 0, locals := 0 } : Room) #[(.ref a1)] h0 (Q_ril_1 Z a1 cs h0 n0) := by
  refine MetFree.of_bodySF (plainFor_of_name pn_14) hisR ?_
  intro p e s m args below meth c s₁ Bd hml0 hP hK
  obtain ⟨rfl, hZ, hh⟩ := hP
  have hx := Bd.exec
  have hby := Bd.bytes
  have hml : c.maxLocals = 1 := hml0
  have hown : s.vm.findClass "java/lang/String" = some m.cls := findClass_of_methodNamed Bd.named
  have hnm := (name_of_methodNamed Bd.named Bd.method).1
  have X0 : Stand p l e ({ frames := 0, cells := 0, slots := 0, locals := 0 } : Room) s m #[(.ref a1)] below meth c s₁ [] 0 0 := Stand.of_body Bd
  have e0 : s₁.heap = h0 := by rw [← hh, Bd.state]; rfl
  have N0 := Fr.nil n0
  show Goes p e below (Fin s (Q_ril_1 Z a1 cs h0 n0) ({ frames := 0, cells := 0, slots := 0, locals := 0 } : Room).cells ({ frames := 0, cells := 0, slots := 0, locals := 0 } : Room).slots) _
  refine Goes.via (S' := s₁.setTop (mkF m 0 #[.val (.ref a1)] [])) (fun tz kz => castTop (ef_14 m a1 ) kz) ?_
  obtain ⟨T1, X1, e1, st1⟩ := getS2 X0 hx hZ hown (host := "") (Or.inl (w_ hw 25 rfl)) Via.refl e0 (SC.ext O0.2) (g := (mkF m 0 #[.val (.ref a1)] [])) rfl (hb hby d14_0)
  refine Goes.via st1 ?_
  refine Goes.via (S' := T1.setTop (mkF m 7 #[.val (.ref a1)] [(.ref a1)])) (fun tz kz => ?_) ?_
  · show Steps p.tables e below (T1.setTop (mkF m 3 #[.val (.ref a1)] [(.int cs)])) _
    refine XS.ifNo X1.here hx rfl (hb hby d14_3) rfl ((if0 _ _).trans (feq hcs).1) ?_
    refine XS.aloadN X1.here hx rfl (hb hby d14_6) rfl rfl ?_
    exact kz
  obtain ⟨T2, X2, e2, st2⟩ := getF X1 hx hZ hown (host := "") (Or.inl (w_ hw 37 rfl)) Via.refl e1 GC (g := (mkF m 7 #[.val (.ref a1)] [(.ref a1)])) rfl rfl (hb hby d14_7)
  refine Goes.via st2 ?_
  refine Goes.via (S' := T2.setTop (mkF m 18 #[.val (.ref a1)] [(.int (0 : Int32))])) (fun tz kz => ?_) ?_
  · show Steps p.tables e below (T2.setTop (mkF m 10 #[.val (.ref a1)] [(.int (1 : Int32))])) _
    refine XS.ifYes X2.here hx rfl (pc0 := 10) (pc' := 17) rfl (hb hby d14_10) rfl ((if0 _ _).trans (feq (by first | decide | rfl)).2) (by decide) (by decide) ?_
    refine XS.iconst X2.here hx rfl (hb hby d14_17) ?_
    exact kz
  exact Goes.retN X2 hx Bd.notSynchronized (t := .boolean) Bd.returns (by simp) (hb hby d14_18) (nb_ rfl) (nb_ rfl) ⟨rfl, N0, e2⟩
theorem d20_0 : decode jdk_42_method_54_code 0 = .ok (.aload_n 0, 1) := by decide +kernel
theorem d20_1 : decode jdk_42_method_54_code 1 = .ok (.getfield 9, 3) := by decide +kernel
theorem d20_4 : decode jdk_42_method_54_code 4 = .ok (.arraylength, 1) := by decide +kernel
theorem d20_5 : decode jdk_42_method_54_code 5 = .ok (.aload_n 0, 1) := by decide +kernel
theorem d20_6 : decode jdk_42_method_54_code 6 = .ok (.invokevirtual 335, 3) := by decide +kernel
theorem d20_9 : decode jdk_42_method_54_code 9 = .ok (.ishr, 1) := by decide +kernel
theorem d20_10 : decode jdk_42_method_54_code 10 = .ok (.ireturn, 1) := by decide +kernel
theorem pn_20 : plainName "java/lang/String" = true := by first | (simp [plainName, overriddenIn]; done) | decide +kernel
theorem ef_20 (m : MethodId) (x0 : Addr) : entryFrame m #[(.ref x0)] 1 = mkF m 0 #[.val (.ref x0)] [] := by first | (simp [entryFrame, mkF, argsToLocals, Value.category]; done) | rfl
def Q_rlen (Z : State) (a1 : Addr) (b : Addr) (k : ClassId) (cs cd N n : Int32) (vs : List Value) (h0 : Heap) (n0 : Nat) : Option Value → Heap → List Loc → Prop := fun v h L => v = some (.int n) ∧ Fr n0 L ∧ h = h0
theorem rlen (l : Launch) (Z : State) (a0 : Array Value) (hw : ∀ d ∈ tables_1, d.before a0 Z = true) (ws : List Jvm.Cond) (a1 : Addr) (b : Addr) (k : ClassId) (cs cd N n : Int32) (vs : List Value) (h0 : Heap) (n0 : Nat) (Z0 : n0 ≤ h0.size) (SC : Sta Z Z.heap "java/lang/String" "COMPACT_STRINGS" "Z" (.int cs)) (hcs : ¬ cs = (0 : Int32)) (O0 : Old Z n0 h0) (E1 : Exa Z h0 a1 "java/lang/String") (GC : Fld Z h0 a1 "java/lang/String" "coder" "B" (.int cd)) (GV : Fld Z h0 a1 "java/lang/String" "value" "[B" (.ref b)) (BV : Arv Z h0 b k .byte N vs (.int 0)) (hcd : nar .byte cd = cd) (hn : (N >>> (cd &&& 31)) = n) :
    own_M l Z n_13 (Jvm.Cond.code n_13 jdk_42_method_54_code 1 (some .int)) ws ({ frames := 1, cells := 0, slots := 0, locals := 16 } : Room) #[(.ref a1)] h0 (Q_rlen Z a1 b k cs cd N n vs h0 n0) := by
  refine MetFree.of_bodySF (plainFor_of_name pn_20) hisR ?_
  intro p e s m args below meth c s₁ Bd hml0 hP hK
  obtain ⟨rfl, hZ, hh⟩ := hP
  have hx := Bd.exec
  have hby := Bd.bytes
  have hml : c.maxLocals = 1 := hml0
  have hown : s.vm.findClass "java/lang/String" = some m.cls := findClass_of_methodNamed Bd.named
  have hnm := (name_of_methodNamed Bd.named Bd.method).1
  have X0 : Stand p l e ({ frames := 1, cells := 0, slots := 0, locals := 16 } : Room) s m #[(.ref a1)] below meth c s₁ [] 0 0 := Stand.of_body Bd
  have e0 : s₁.heap = h0 := by rw [← hh, Bd.state]; rfl
  have N0 := Fr.nil n0
  show Goes p e below (Fin s (Q_rlen Z a1 b k cs cd N n vs h0 n0) ({ frames := 1, cells := 0, slots := 0, locals := 16 } : Room).cells ({ frames := 1, cells := 0, slots := 0, locals := 16 } : Room).slots) _
  refine Goes.via (S' := s₁.setTop (mkF m 0 #[.val (.ref a1)] [])) (fun tz kz => castTop (ef_20 m a1 ) kz) ?_
  refine Goes.via (S' := s₁.setTop (mkF m 1 #[.val (.ref a1)] [(.ref a1)])) (fun tz kz => ?_) ?_
  · show Steps p.tables e below (s₁.setTop (mkF m 0 #[.val (.ref a1)] [])) _
    refine XS.aloadN X0.here hx rfl (hb hby d20_0) rfl rfl ?_
    exact kz
  obtain ⟨T1, X1, e1, st1⟩ := getF X0 hx hZ hown (host := "") (Or.inl (w_ hw 39 rfl)) Via.refl e0 GV (g := (mkF m 1 #[.val (.ref a1)] [(.ref a1)])) rfl rfl (hb hby d20_1)
  refine Goes.via st1 ?_
  obtain ⟨cl2, Ar2, q2, Sz2, Nn2, Hs2, G2⟩ := (id BV)
  refine Goes.via (S' := T1.setTop (mkF m 6 #[.val (.ref a1)] [(.ref a1), (.int N)])) (fun tz kz => ?_) ?_
  · show Steps p.tables e below (T1.setTop (mkF m 4 #[.val (.ref a1)] [(.ref b)])) _
    refine X1.arraylength hx (by rw [e1]; exact Ar2.1) (State.isArrayOf_alike hZ.alike Ar2.2.1) (g := (mkF m 4 #[.val (.ref a1)] [(.ref b)])) rfl rfl (hb hby d20_4) _ ?_
    rw [len_of Sz2 Nn2]
    refine XS.aloadN X1.here hx rfl (hb hby d20_5) rfl rfl ?_
    exact kz
  obtain ⟨cq3, kq3, q3a, q3b, q3c⟩ := isOf hZ e1 E1
  obtain ⟨_, _, ⟨T3, L3, k3, n3⟩, -, X3, ⟨Lc3, hQ3, l3, y3, z3⟩, st3⟩ := X1.virtualBack hx (y := n_11) (z := n_11) hown (mvT hZ (w_ hw 93 rfl)) (mvT hZ (w_ hw 94 rfl)) (notFace_of_selects (args := #[]) (mvT hZ (w_ hw 96 rfl))) (mvT hZ (w_ hw 96 rfl)) (mvT hZ (w_ hw 95 rfl)) (by decide) (backOf (W := 1) (rcd l Z a0 hw [] a1 cs cd h0 n0 Z0 SC hcs O0 GC hcd) hZ (w_ hw 97 rfl) (w_ hw 13 rfl) (by decide) (by decide)) q3a q3c (g := (mkF m 6 #[.val (.ref a1)] [(.ref a1), (.int N)])) rfl (by rw [hml]; rfl) (Steps.refl _) (argsL := []) (rest := [(.int N)]) (lenOf pd_8 rfl) rfl (by show 2 * 0 + _ ≤ _; exact Nat.le_of_eq rfl) (hb hby d20_6) (fun _ _ => ⟨rfl, e1, (by decide : 0 + 0 ≤ _), (by decide : 0 + 0 ≤ _)⟩)
  dsimp only [Pt.U, Pt.locs, Pt.cells, Pt.slots] at X3 l3 y3 z3 st3 hQ3
  subst l3 y3 z3
  obtain ⟨rfl, N3, e3⟩ := hQ3
  have Nf3 := Fr.app N0 N3
  refine Goes.via (fun _ kz => st3.trans kz) ?_
  refine Goes.via (S' := T3.setTop (mkF m 10 #[.val (.ref a1)] [(.int (N >>> (cd &&& 31)))])) (fun tz kz => ?_) ?_
  · show Steps p.tables e below (T3.setTop (mkF m 9 #[.val (.ref a1)] [(.int cd), (.int N)])) _
    refine XS.ishr X3.here hx rfl (hb hby d20_9) rfl ?_
    exact kz
  exact Goes.retI X3 hx Bd.notSynchronized Bd.returns (hb hby d20_10) (nb_ rfl) (nb_ rfl) ⟨congrArg (fun z => some (Value.int z)) hn, Nf3, e3⟩
theorem d17_0 : decode jdk_41_method_11_code 0 = .ok (.iload_n 0, 1) := by decide +kernel
theorem d17_1 : decode jdk_41_method_11_code 1 = .ok (.ifCond .lt 8, 3) := by decide +kernel
theorem d17_4 : decode jdk_41_method_11_code 4 = .ok (.iload_n 0, 1) := by decide +kernel
theorem d17_5 : decode jdk_41_method_11_code 5 = .ok (.iload_n 1, 1) := by decide +kernel
theorem d17_6 : decode jdk_41_method_11_code 6 = .ok (.if_icmp .lt 10, 3) := by decide +kernel
theorem d17_16 : decode jdk_41_method_11_code 16 = .ok (.iload_n 0, 1) := by decide +kernel
theorem d17_17 : decode jdk_41_method_11_code 17 = .ok (.ireturn, 1) := by decide +kernel
theorem pn_17 : plainName "jdk/internal/util/Preconditions" = true := by first | (simp [plainName, overriddenIn]; done) | decide +kernel
theorem ef_17 (m : MethodId) (x0 : Int32) (x1 : Int32) (x2 : Value) (hx2 : x2.isRef = true) : entryFrame m #[(.int x0), (.int x1), x2] 3 = mkF m 0 #[.val (.int x0), .val (.int x1), .val x2] [] := by rcases ref_cases hx2 with rfl | ⟨_, rfl⟩ <;> (first | (simp [entryFrame, mkF, argsToLocals, Value.category]; done) | rfl)
def Q_rpi (Z : State) (i : Int32) (n : Int32) (fv : Value)  (h0 : Heap) (n0 : Nat) : Option Value → Heap → List Loc → Prop := fun v h L => v = some (.int i) ∧ Fr n0 L ∧ h = h0
theorem rpi (l : Launch) (Z : State) (a0 : Array Value) (hw : ∀ d ∈ tables_1, d.before a0 Z = true) (ws : List Jvm.Cond) (i : Int32) (n : Int32) (fv : Value)  (h0 : Heap) (n0 : Nat) (Z0 : n0 ≤ h0.size) (hfv : fv.isRef = true) (q1 : ¬ i < (0 : Int32)) (q2 : i < n) :
    own_M l Z n_14 (Jvm.Cond.code n_14 jdk_41_method_11_code 3 (some .int)) ws ({ frames := 0, cells := 0, slots := 0, locals := 0 } : Room) #[(.int i), (.int n), fv] h0 (Q_rpi Z i n fv h0 n0) := by
  refine MetFree.of_bodySF (plainFor_of_name pn_17) hisR ?_
  intro p e s m args below meth c s₁ Bd hml0 hP hK
  obtain ⟨rfl, hZ, hh⟩ := hP
  have hx := Bd.exec
  have hby := Bd.bytes
  have hml : c.maxLocals = 3 := hml0
  have hown : s.vm.findClass "jdk/internal/util/Preconditions" = some m.cls := findClass_of_methodNamed Bd.named
  have hnm := (name_of_methodNamed Bd.named Bd.method).1
  have X0 : Stand p l e ({ frames := 0, cells := 0, slots := 0, locals := 0 } : Room) s m #[(.int i), (.int n), fv] below meth c s₁ [] 0 0 := Stand.of_body Bd
  have e0 : s₁.heap = h0 := by rw [← hh, Bd.state]; rfl
  have N0 := Fr.nil n0
  show Goes p e below (Fin s (Q_rpi Z i n fv h0 n0) ({ frames := 0, cells := 0, slots := 0, locals := 0 } : Room).cells ({ frames := 0, cells := 0, slots := 0, locals := 0 } : Room).slots) _
  refine Goes.via (S' := s₁.setTop (mkF m 0 #[.val (.int i), .val (.int n), .val fv] [])) (fun tz kz => castTop (ef_17 m i n fv hfv) kz) ?_
  refine Goes.via (S' := s₁.setTop (mkF m 17 #[.val (.int i), .val (.int n), .val fv] [(.int i)])) (fun tz kz => ?_) ?_
  · show Steps p.tables e below (s₁.setTop (mkF m 0 #[.val (.int i), .val (.int n), .val fv] [])) _
    refine XS.iloadN X0.here hx rfl (hb hby d17_0) rfl ?_
    refine XS.ifNo X0.here hx rfl (hb hby d17_1) rfl ((if0 _ _).trans (flt q1).1) ?_
    refine XS.iloadN X0.here hx rfl (hb hby d17_4) rfl ?_
    refine XS.iloadN X0.here hx rfl (hb hby d17_5) rfl ?_
    refine XS.icmpYes X0.here hx rfl (pc0 := 6) (pc' := 16) rfl (hb hby d17_6) rfl (tlt q2).1 (by decide) (by decide) ?_
    refine XS.iloadN X0.here hx rfl (hb hby d17_16) rfl ?_
    exact kz
  exact Goes.retI X0 hx Bd.notSynchronized Bd.returns (hb hby d17_17) (nb_ rfl) (nb_ rfl) ⟨rfl, N0, e0⟩
theorem d16_0 : decode jdk_42_method_155_code 0 = .ok (.iload_n 0, 1) := by decide +kernel
theorem d16_1 : decode jdk_42_method_155_code 1 = .ok (.iload_n 1, 1) := by decide +kernel
theorem d16_2 : decode jdk_42_method_155_code 2 = .ok (.getstatic 1053, 3) := by decide +kernel
theorem d16_5 : decode jdk_42_method_155_code 5 = .ok (.invokestatic 1059, 3) := by decide +kernel
theorem d16_8 : decode jdk_42_method_155_code 8 = .ok (.pop, 1) := by decide +kernel
theorem d16_9 : decode jdk_42_method_155_code 9 = .ok (.return_, 1) := by decide +kernel
theorem pn_16 : plainName "java/lang/String" = true := by first | (simp [plainName, overriddenIn]; done) | decide +kernel
theorem ef_16 (m : MethodId) (x0 : Int32) (x1 : Int32) : entryFrame m #[(.int x0), (.int x1)] 2 = mkF m 0 #[.val (.int x0), .val (.int x1)] [] := by first | (simp [entryFrame, mkF, argsToLocals, Value.category]; done) | rfl
def Q_rci (Z : State) (i : Int32) (n : Int32) (fv : Value) (h0 : Heap) (n0 : Nat) : Option Value → Heap → List Loc → Prop := fun v h L => v = none ∧ Fr n0 L ∧ h = h0
theorem rci (l : Launch) (Z : State) (a0 : Array Value) (hw : ∀ d ∈ tables_1, d.before a0 Z = true) (ws : List Jvm.Cond) (i : Int32) (n : Int32) (fv : Value) (h0 : Heap) (n0 : Nat) (Z0 : n0 ≤ h0.size) (SF : Sta Z Z.heap "jdk/internal/util/Preconditions" "SIOOBE_FORMATTER" "Ljava/util/function/BiFunction;" fv) (hfv : fv.isRef = true) (O0 : Old Z n0 h0) (q1 : ¬ i < (0 : Int32)) (q2 : i < n) :
    own_M l Z n_15 (Jvm.Cond.code n_15 jdk_42_method_155_code 2 none) ws ({ frames := 1, cells := 0, slots := 0, locals := 16 } : Room) #[(.int i), (.int n)] h0 (Q_rci Z i n fv h0 n0) := by
  refine MetFree.of_bodySF (plainFor_of_name pn_16) hisR ?_
  intro p e s m args below meth c s₁ Bd hml0 hP hK
  obtain ⟨rfl, hZ, hh⟩ := hP
  have hx := Bd.exec
  have hby := Bd.bytes
  have hml : c.maxLocals = 2 := hml0
  have hown : s.vm.findClass "java/lang/String" = some m.cls := findClass_of_methodNamed Bd.named
  have hnm := (name_of_methodNamed Bd.named Bd.method).1
  have X0 : Stand p l e ({ frames := 1, cells := 0, slots := 0, locals := 16 } : Room) s m #[(.int i), (.int n)] below meth c s₁ [] 0 0 := Stand.of_body Bd
  have e0 : s₁.heap = h0 := by rw [← hh, Bd.state]; rfl
  have N0 := Fr.nil n0
  show Goes p e below (Fin s (Q_rci Z i n fv h0 n0) ({ frames := 1, cells := 0, slots := 0, locals := 16 } : Room).cells ({ frames := 1, cells := 0, slots := 0, locals := 16 } : Room).slots) _
  refine Goes.via (S' := s₁.setTop (mkF m 0 #[.val (.int i), .val (.int n)] [])) (fun tz kz => castTop (ef_16 m i n ) kz) ?_
  refine Goes.via (S' := s₁.setTop (mkF m 2 #[.val (.int i), .val (.int n)] [(.int n), (.int i)])) (fun tz kz => ?_) ?_
  · show Steps p.tables e below (s₁.setTop (mkF m 0 #[.val (.int i), .val (.int n)] [])) _
    refine XS.iloadN X0.here hx rfl (hb hby d16_0) rfl ?_
    refine XS.iloadN X0.here hx rfl (hb hby d16_1) rfl ?_
    exact kz
  obtain ⟨T1, X1, e1, st1⟩ := getS2 X0 hx hZ hown (host := "") (Or.inl (w_ hw 73 rfl)) Via.refl e0 (SF.ext O0.2) (g := (mkF m 2 #[.val (.int i), .val (.int n)] [(.int n), (.int i)])) rfl (hb hby d16_2)
  refine Goes.via st1 ?_
  obtain ⟨_, _, ⟨T2, L2, k2, n2⟩, -, X2, ⟨Lc2, hQ2, l2, y2, z2⟩, st2⟩ := Jvm.LawKit.callS X1 hx (y := n_14) hown (mvT hZ (w_ hw 75 rfl)) (mvT hZ (w_ hw 76 rfl)) (mvT hZ (w_ hw 74 rfl)) (mvT hZ (w_ hw 77 rfl)) (by decide) (backOf (W := 0) (rpi l Z a0 hw [] i n fv h0 n0 Z0 hfv q1 q2) hZ (w_ hw 77 rfl) (w_ hw 74 rfl) (by decide) (by decide)) (g := (mkF m 5 #[.val (.int i), .val (.int n)] [fv, (.int n), (.int i)])) rfl (by rw [hml]; rfl) (argsL := [(.int i), (.int n), fv]) (rest := []) (lenOf pd_9 rfl) rfl (by show 2 * 0 + _ ≤ _; exact Nat.le_of_eq rfl) (hb hby d16_5) (fun _ _ => ⟨rfl, e1, (by decide : 0 + 0 ≤ _), (by decide : 0 + 0 ≤ _)⟩)
  dsimp only [Pt.U, Pt.locs, Pt.cells, Pt.slots] at X2 l2 y2 z2 st2 hQ2
  subst l2 y2 z2
  obtain ⟨rfl, N2, e2⟩ := hQ2
  have Nf2 := Fr.app N0 N2
  refine Goes.via (st2) ?_
  refine Goes.via (S' := T2.setTop (mkF m 9 #[.val (.int i), .val (.int n)] [])) (fun tz kz => ?_) ?_
  · show Steps p.tables e below (T2.setTop (mkF m 8 #[.val (.int i), .val (.int n)] [(.int i)])) _
    refine XS.pop X2.here hx rfl (hb hby d16_8) rfl rfl ?_
    exact kz
  exact Goes.retV X2 hx Bd.notSynchronized Bd.returns (hb hby d16_9) (nb_ rfl) (nb_ rfl) ⟨rfl, Nf2, e2⟩
theorem d15_0 : decode jdk_43_method_2_code 0 = .ok (.iload_n 1, 1) := by decide +kernel
theorem d15_1 : decode jdk_43_method_2_code 1 = .ok (.aload_n 0, 1) := by decide +kernel
theorem d15_2 : decode jdk_43_method_2_code 2 = .ok (.arraylength, 1) := by decide +kernel
theorem d15_3 : decode jdk_43_method_2_code 3 = .ok (.invokestatic 9, 3) := by decide +kernel
theorem d15_6 : decode jdk_43_method_2_code 6 = .ok (.aload_n 0, 1) := by decide +kernel
theorem d15_7 : decode jdk_43_method_2_code 7 = .ok (.iload_n 1, 1) := by decide +kernel
theorem d15_8 : decode jdk_43_method_2_code 8 = .ok (.baload, 1) := by decide +kernel
theorem d15_9 : decode jdk_43_method_2_code 9 = .ok (.sipush 255, 3) := by decide +kernel
theorem d15_12 : decode jdk_43_method_2_code 12 = .ok (.iand, 1) := by decide +kernel
theorem d15_13 : decode jdk_43_method_2_code 13 = .ok (.i2c, 1) := by decide +kernel
theorem d15_14 : decode jdk_43_method_2_code 14 = .ok (.ireturn, 1) := by decide +kernel
theorem pn_15 : plainName "java/lang/StringLatin1" = true := by first | (simp [plainName, overriddenIn]; done) | decide +kernel
theorem ef_15 (m : MethodId) (x0 : Addr) (x1 : Int32) : entryFrame m #[(.ref x0), (.int x1)] 2 = mkF m 0 #[.val (.ref x0), .val (.int x1)] [] := by first | (simp [entryFrame, mkF, argsToLocals, Value.category]; done) | rfl
def Q_rlc (Z : State) (b : Addr) (i : Int32) (k : ClassId) (n x : Int32) (fv : Value) (vs : List Value) (h0 : Heap) (n0 : Nat) : Option Value → Heap → List Loc → Prop := fun v h L => v = some (.int x) ∧ Fr n0 L ∧ h = h0
theorem rlc (l : Launch) (Z : State) (a0 : Array Value) (hw : ∀ d ∈ tables_1, d.before a0 Z = true) (ws : List Jvm.Cond) (b : Addr) (i : Int32) (k : ClassId) (n x : Int32) (fv : Value) (vs : List Value) (h0 : Heap) (n0 : Nat) (Z0 : n0 ≤ h0.size) (SF : Sta Z Z.heap "jdk/internal/util/Preconditions" "SIOOBE_FORMATTER" "Ljava/util/function/BiFunction;" fv) (hfv : fv.isRef = true) (O0 : Old Z n0 h0) (BV : Arv Z h0 b k .byte n vs (.int 0)) (zx : nar .char x = x) (q : ¬ i < (0 : Int32) ∧ i < n) (g : vs.getD i.toNatClampNeg (.int 0) = .int (own_by x)) (sx : ¬ (255 : Int32) < x) :
    own_M l Z n_16 (Jvm.Cond.code n_16 jdk_43_method_2_code 2 (some .char)) ws ({ frames := 2, cells := 0, slots := 0, locals := 32 } : Room) #[(.ref b), (.int i)] h0 (Q_rlc Z b i k n x fv vs h0 n0) := by
  refine MetFree.of_bodySF (plainFor_of_name pn_15) hisR ?_
  intro p e s m args below meth c s₁ Bd hml0 hP hK
  obtain ⟨rfl, hZ, hh⟩ := hP
  have hx := Bd.exec
  have hby := Bd.bytes
  have hml : c.maxLocals = 2 := hml0
  have hown : s.vm.findClass "java/lang/StringLatin1" = some m.cls := findClass_of_methodNamed Bd.named
  have hnm := (name_of_methodNamed Bd.named Bd.method).1
  have X0 : Stand p l e ({ frames := 2, cells := 0, slots := 0, locals := 32 } : Room) s m #[(.ref b), (.int i)] below meth c s₁ [] 0 0 := Stand.of_body Bd
  have e0 : s₁.heap = h0 := by rw [← hh, Bd.state]; rfl
  have N0 := Fr.nil n0
  show Goes p e below (Fin s (Q_rlc Z b i k n x fv vs h0 n0) ({ frames := 2, cells := 0, slots := 0, locals := 32 } : Room).cells ({ frames := 2, cells := 0, slots := 0, locals := 32 } : Room).slots) _
  refine Goes.via (S' := s₁.setTop (mkF m 0 #[.val (.ref b), .val (.int i)] [])) (fun tz kz => castTop (ef_15 m b i ) kz) ?_
  refine Goes.via (S' := s₁.setTop (mkF m 2 #[.val (.ref b), .val (.int i)] [(.ref b), (.int i)])) (fun tz kz => ?_) ?_
  · show Steps p.tables e below (s₁.setTop (mkF m 0 #[.val (.ref b), .val (.int i)] [])) _
    refine XS.iloadN X0.here hx rfl (hb hby d15_0) rfl ?_
    refine XS.aloadN X0.here hx rfl (hb hby d15_1) rfl rfl ?_
    exact kz
  obtain ⟨cl1, Ar1, q1, Sz1, Nn1, Hs1, G1⟩ := (id BV)
  refine Goes.via (S' := s₁.setTop (mkF m 3 #[.val (.ref b), .val (.int i)] [(.int n), (.int i)])) (fun tz kz => ?_) ?_
  · show Steps p.tables e below (s₁.setTop (mkF m 2 #[.val (.ref b), .val (.int i)] [(.ref b), (.int i)])) _
    refine X0.arraylength hx (by rw [e0]; exact Ar1.1) (State.isArrayOf_alike hZ.alike Ar1.2.1) (g := (mkF m 2 #[.val (.ref b), .val (.int i)] [(.ref b), (.int i)])) rfl rfl (hb hby d15_2) _ ?_
    rw [len_of Sz1 Nn1]
    exact kz
  obtain ⟨_, _, ⟨T2, L2, k2, n2⟩, -, X2, ⟨Lc2, hQ2, l2, y2, z2⟩, st2⟩ := Jvm.LawKit.callS X0 hx (y := n_15) hown (mvT hZ (w_ hw 70 rfl)) (mvT hZ (w_ hw 71 rfl)) (mvT hZ (w_ hw 13 rfl)) (mvT hZ (w_ hw 72 rfl)) (by decide) (backOf (W := 0) (rci l Z a0 hw [] i n fv h0 n0 Z0 SF hfv O0 q.1 q.2) hZ (w_ hw 72 rfl) (w_ hw 13 rfl) (by decide) (by decide)) (g := (mkF m 3 #[.val (.ref b), .val (.int i)] [(.int n), (.int i)])) rfl (by rw [hml]; rfl) (argsL := [(.int i), (.int n)]) (rest := []) (lenOf pd_10 rfl) rfl (by show 2 * 0 + _ ≤ _; exact Nat.le_of_eq rfl) (hb hby d15_3) (fun _ _ => ⟨rfl, e0, (by decide : 0 + 0 ≤ _), (by decide : 0 + 0 ≤ _)⟩)
  dsimp only [Pt.U, Pt.locs, Pt.cells, Pt.slots] at X2 l2 y2 z2 st2 hQ2
  subst l2 y2 z2
  obtain ⟨rfl, N2, e2⟩ := hQ2
  have Nf2 := Fr.app N0 N2
  refine Goes.via (st2) ?_
  refine Goes.via (S' := T2.setTop (mkF m 8 #[.val (.ref b), .val (.int i)] [(.int i), (.ref b)])) (fun tz kz => ?_) ?_
  · show Steps p.tables e below (T2.setTop (mkF m 6 #[.val (.ref b), .val (.int i)] [])) _
    refine XS.aloadN X2.here hx rfl (hb hby d15_6) rfl rfl ?_
    refine XS.iloadN X2.here hx rfl (hb hby d15_7) rfl ?_
    exact kz
  obtain ⟨cl3, Ar3, q3, Sz3, Nn3, Hs3, G3⟩ := (id BV)
  refine Goes.via (S' := T2.setTop (mkF m 14 #[.val (.ref b), .val (.int i)] [(.int (((own_by x) &&& (255 : Int32)).toUInt32.toUInt16.toUInt32.toInt32))])) (fun tz kz => ?_) ?_
  · show Steps p.tables e below (T2.setTop (mkF m 8 #[.val (.ref b), .val (.int i)] [(.int i), (.ref b)])) _
    refine X2.baloadBytes hx (j := i) (v := (.int (own_by x))) (by rw [e2]; exact Ar3.1) (State.isArrayOf_alike hZ.alike Ar3.2.1) Ar3.2.2 (inb_of Sz3 q) (Has.at Hs3 (inb_of Sz3 q) g) (g := (mkF m 8 #[.val (.ref b), .val (.int i)] [(.int i), (.ref b)])) rfl rfl (hb hby d15_8) _ ?_
    refine XS.sipush X2.here hx rfl (hb hby d15_9) ?_
    refine XS.iand X2.here hx rfl (hb hby d15_12) rfl ?_
    refine XS.i2c X2.here hx rfl (hb hby d15_13) rfl ?_
    exact kz
  exact Goes.retN X2 hx Bd.notSynchronized (t := .char) Bd.returns (by simp) (hb hby d15_14) (nb_ rfl) (nb_ rfl) ⟨congrArg (fun z => some (Value.int z)) (own_lc zx sx), Nf2, e2⟩
theorem d13_0 : decode jdk_42_method_56_code 0 = .ok (.aload_n 0, 1) := by decide +kernel
theorem d13_1 : decode jdk_42_method_56_code 1 = .ok (.invokevirtual 492, 3) := by decide +kernel
theorem d13_4 : decode jdk_42_method_56_code 4 = .ok (.ifCond .eq 12, 3) := by decide +kernel
theorem d13_7 : decode jdk_42_method_56_code 7 = .ok (.aload_n 0, 1) := by decide +kernel
theorem d13_8 : decode jdk_42_method_56_code 8 = .ok (.getfield 9, 3) := by decide +kernel
theorem d13_11 : decode jdk_42_method_56_code 11 = .ok (.iload_n 1, 1) := by decide +kernel
theorem d13_12 : decode jdk_42_method_56_code 12 = .ok (.invokestatic 495, 3) := by decide +kernel
theorem d13_15 : decode jdk_42_method_56_code 15 = .ok (.ireturn, 1) := by decide +kernel
theorem d13_16 : decode jdk_42_method_56_code 16 = .ok (.aload_n 0, 1) := by decide +kernel
theorem d13_17 : decode jdk_42_method_56_code 17 = .ok (.getfield 9, 3) := by decide +kernel
theorem d13_20 : decode jdk_42_method_56_code 20 = .ok (.iload_n 1, 1) := by decide +kernel
theorem d13_21 : decode jdk_42_method_56_code 21 = .ok (.invokestatic 498, 3) := by decide +kernel
theorem d13_24 : decode jdk_42_method_56_code 24 = .ok (.ireturn, 1) := by decide +kernel
theorem pn_13 : plainName "java/lang/String" = true := by first | (simp [plainName, overriddenIn]; done) | decide +kernel
theorem ef_13 (m : MethodId) (x0 : Addr) (x1 : Int32) : entryFrame m #[(.ref x0), (.int x1)] 2 = mkF m 0 #[.val (.ref x0), .val (.int x1)] [] := by first | (simp [entryFrame, mkF, argsToLocals, Value.category]; done) | rfl
def Q_rca_L (Z : State) (a1 : Addr) (i : Int32) (b : Addr) (k : ClassId) (cs n x : Int32) (fv : Value) (vs : List Value) (h0 : Heap) (n0 : Nat) : Option Value → Heap → List Loc → Prop := fun v h L => v = some (.int x) ∧ Fr n0 L ∧ h = h0
theorem rca_L (l : Launch) (Z : State) (a0 : Array Value) (hw : ∀ d ∈ tables_1, d.before a0 Z = true) (ws : List Jvm.Cond) (a1 : Addr) (i : Int32) (b : Addr) (k : ClassId) (cs n x : Int32) (fv : Value) (vs : List Value) (h0 : Heap) (n0 : Nat) (Z0 : n0 ≤ h0.size) (SC : Sta Z Z.heap "java/lang/String" "COMPACT_STRINGS" "Z" (.int cs)) (hcs : ¬ cs = (0 : Int32)) (O0 : Old Z n0 h0) (SF : Sta Z Z.heap "jdk/internal/util/Preconditions" "SIOOBE_FORMATTER" "Ljava/util/function/BiFunction;" fv) (hfv : fv.isRef = true) (S : own_Str Z h0 a1 b k n vs) (zx : nar .char x = x) (q : ¬ i < (0 : Int32) ∧ i < n) (g : vs.getD i.toNatClampNeg (.int 0) = .int (own_by x)) (sx : ¬ (255 : Int32) < x) :
    own_M l Z n_17 (Jvm.Cond.code n_17 jdk_42_method_56_code 2 (some .char)) ws ({ frames := 3, cells := 0, slots := 0, locals := 50 } : Room) #[(.ref a1), (.int i)] h0 (Q_rca_L Z a1 i b k cs n x fv vs h0 n0) := by
  refine MetFree.of_bodySF (plainFor_of_name pn_13) hisR ?_
  intro p e s m args below meth c s₁ Bd hml0 hP hK
  obtain ⟨rfl, hZ, hh⟩ := hP
  have hx := Bd.exec
  have hby := Bd.bytes
  have hml : c.maxLocals = 2 := hml0
  have hown : s.vm.findClass "java/lang/String" = some m.cls := findClass_of_methodNamed Bd.named
  have hnm := (name_of_methodNamed Bd.named Bd.method).1
  have X0 : Stand p l e ({ frames := 3, cells := 0, slots := 0, locals := 50 } : Room) s m #[(.ref a1), (.int i)] below meth c s₁ [] 0 0 := Stand.of_body Bd
  have e0 : s₁.heap = h0 := by rw [← hh, Bd.state]; rfl
  have N0 := Fr.nil n0
  show Goes p e below (Fin s (Q_rca_L Z a1 i b k cs n x fv vs h0 n0) ({ frames := 3, cells := 0, slots := 0, locals := 50 } : Room).cells ({ frames := 3, cells := 0, slots := 0, locals := 50 } : Room).slots) _
  refine Goes.via (S' := s₁.setTop (mkF m 0 #[.val (.ref a1), .val (.int i)] [])) (fun tz kz => castTop (ef_13 m a1 i ) kz) ?_
  refine Goes.via (S' := s₁.setTop (mkF m 1 #[.val (.ref a1), .val (.int i)] [(.ref a1)])) (fun tz kz => ?_) ?_
  · show Steps p.tables e below (s₁.setTop (mkF m 0 #[.val (.ref a1), .val (.int i)] [])) _
    refine XS.aloadN X0.here hx rfl (hb hby d13_0) rfl rfl ?_
    exact kz
  obtain ⟨cq1, kq1, q1a, q1b, q1c⟩ := isOf hZ e0 S.1
  obtain ⟨_, _, ⟨T1, L1, k1, n1⟩, -, X1, ⟨Lc1, hQ1, l1, y1, z1⟩, st1⟩ := X0.virtualBack hx (y := n_12) (z := n_12) hown (mvT hZ (w_ hw 61 rfl)) (mvT hZ (w_ hw 62 rfl)) (notFace_of_selects (args := #[]) (mvT hZ (w_ hw 64 rfl))) (mvT hZ (w_ hw 64 rfl)) (mvT hZ (w_ hw 63 rfl)) (by decide) (backOf (W := 0) (ril_0 l Z a0 hw [] a1 cs h0 n0 Z0 SC hcs O0 S.2.1) hZ (w_ hw 65 rfl) (w_ hw 13 rfl) (by decide) (by decide)) q1a q1c (g := (mkF m 1 #[.val (.ref a1), .val (.int i)] [(.ref a1)])) rfl (by rw [hml]; rfl) (Steps.refl _) (argsL := []) (rest := []) (lenOf pd_11 rfl) rfl (by show 2 * 0 + _ ≤ _; exact Nat.le_of_eq rfl) (hb hby d13_1) (fun _ _ => ⟨rfl, e0, (by decide : 0 + 0 ≤ _), (by decide : 0 + 0 ≤ _)⟩)
  dsimp only [Pt.U, Pt.locs, Pt.cells, Pt.slots] at X1 l1 y1 z1 st1 hQ1
  subst l1 y1 z1
  obtain ⟨rfl, N1, e1⟩ := hQ1
  have Nf1 := Fr.app N0 N1
  refine Goes.via (fun _ kz => st1.trans kz) ?_
  refine Goes.via (S' := T1.setTop (mkF m 8 #[.val (.ref a1), .val (.int i)] [(.ref a1)])) (fun tz kz => ?_) ?_
  · show Steps p.tables e below (T1.setTop (mkF m 4 #[.val (.ref a1), .val (.int i)] [(.int (1 : Int32))])) _
    refine XS.ifNo X1.here hx rfl (hb hby d13_4) rfl ((if0 _ _).trans (feq (by first | decide | rfl)).1) ?_
    refine XS.aloadN X1.here hx rfl (hb hby d13_7) rfl rfl ?_
    exact kz
  obtain ⟨T2, X2, e2, st2⟩ := getF X1 hx hZ hown (host := "") (Or.inl (w_ hw 39 rfl)) Via.refl e1 S.2.2.1 (g := (mkF m 8 #[.val (.ref a1), .val (.int i)] [(.ref a1)])) rfl rfl (hb hby d13_8)
  refine Goes.via st2 ?_
  refine Goes.via (S' := T2.setTop (mkF m 12 #[.val (.ref a1), .val (.int i)] [(.int i), (.ref b)])) (fun tz kz => ?_) ?_
  · show Steps p.tables e below (T2.setTop (mkF m 11 #[.val (.ref a1), .val (.int i)] [(.ref b)])) _
    refine XS.iloadN X2.here hx rfl (hb hby d13_11) rfl ?_
    exact kz
  obtain ⟨_, _, ⟨T3, L3, k3, n3⟩, -, X3, ⟨Lc3, hQ3, l3, y3, z3⟩, st3⟩ := Jvm.LawKit.callS X2 hx (y := n_16) hown (mvT hZ (w_ hw 66 rfl)) (mvT hZ (w_ hw 67 rfl)) (mvT hZ (w_ hw 68 rfl)) (mvT hZ (w_ hw 69 rfl)) (by decide) (backOf (W := 0) (rlc l Z a0 hw [] b i k n x fv vs h0 n0 Z0 SF hfv O0 S.2.2.2 zx q g sx) hZ (w_ hw 69 rfl) (w_ hw 68 rfl) (by decide) (by decide)) (g := (mkF m 12 #[.val (.ref a1), .val (.int i)] [(.int i), (.ref b)])) rfl (by rw [hml]; rfl) (argsL := [(.ref b), (.int i)]) (rest := []) (lenOf pd_5 rfl) rfl (by show 2 * 0 + _ ≤ _; exact Nat.le_of_eq rfl) (hb hby d13_12) (fun _ _ => ⟨rfl, e2, (by decide : 0 + 0 ≤ _), (by decide : 0 + 0 ≤ _)⟩)
  dsimp only [Pt.U, Pt.locs, Pt.cells, Pt.slots] at X3 l3 y3 z3 st3 hQ3
  subst l3 y3 z3
  obtain ⟨rfl, N3, e3⟩ := hQ3
  have Nf3 := Fr.app Nf1 N3
  refine Goes.via (st3) ?_
  exact Goes.retN X3 hx Bd.notSynchronized (t := .char) Bd.returns (by simp) (hb hby d13_15) (nb_ rfl) (nb_ rfl) ⟨congrArg (fun z => some (Value.int z)) zx, Nf3, e3⟩
theorem d37_0 : decode jdk_52_method_6_code 0 = .ok (.aload_n 0, 1) := by decide +kernel
theorem d37_1 : decode jdk_52_method_6_code 1 = .ok (.arraylength, 1) := by decide +kernel
theorem d37_2 : decode jdk_52_method_6_code 2 = .ok (.iconst 1, 1) := by decide +kernel
theorem d37_3 : decode jdk_52_method_6_code 3 = .ok (.ishr, 1) := by decide +kernel
theorem d37_4 : decode jdk_52_method_6_code 4 = .ok (.ireturn, 1) := by decide +kernel
theorem pn_37 : plainName "java/lang/StringUTF16" = true := by first | (simp [plainName, overriddenIn]; done) | decide +kernel
theorem ef_37 (m : MethodId) (x0 : Addr) : entryFrame m #[(.ref x0)] 1 = mkF m 0 #[.val (.ref x0)] [] := by first | (simp [entryFrame, mkF, argsToLocals, Value.category]; done) | rfl
def Q_rul (Z : State) (b : Addr) (k : ClassId) (n2 n : Int32) (vs : List Value) (h0 : Heap) (n0 : Nat) : Option Value → Heap → List Loc → Prop := fun v h L => v = some (.int n) ∧ Fr n0 L ∧ h = h0
theorem rul (l : Launch) (Z : State) (a0 : Array Value) (hw : ∀ d ∈ tables_1, d.before a0 Z = true) (ws : List Jvm.Cond) (b : Addr) (k : ClassId) (n2 n : Int32) (vs : List Value) (h0 : Heap) (n0 : Nat) (Z0 : n0 ≤ h0.size) (BV : Arv Z h0 b k .byte n2 vs (.int 0)) (hn : (n2 >>> ((1 : Int32) &&& 31)) = n) :
    own_M l Z n_18 (Jvm.Cond.code n_18 jdk_52_method_6_code 1 (some .int)) ws ({ frames := 0, cells := 0, slots := 0, locals := 0 } : Room) #[(.ref b)] h0 (Q_rul Z b k n2 n vs h0 n0) := by
  refine MetFree.of_bodySF (plainFor_of_name pn_37) hisR ?_
  intro p e s m args below meth c s₁ Bd hml0 hP hK
  obtain ⟨rfl, hZ, hh⟩ := hP
  have hx := Bd.exec
  have hby := Bd.bytes
  have hml : c.maxLocals = 1 := hml0
  have hown : s.vm.findClass "java/lang/StringUTF16" = some m.cls := findClass_of_methodNamed Bd.named
  have hnm := (name_of_methodNamed Bd.named Bd.method).1
  have X0 : Stand p l e ({ frames := 0, cells := 0, slots := 0, locals := 0 } : Room) s m #[(.ref b)] below meth c s₁ [] 0 0 := Stand.of_body Bd
  have e0 : s₁.heap = h0 := by rw [← hh, Bd.state]; rfl
  have N0 := Fr.nil n0
  show Goes p e below (Fin s (Q_rul Z b k n2 n vs h0 n0) ({ frames := 0, cells := 0, slots := 0, locals := 0 } : Room).cells ({ frames := 0, cells := 0, slots := 0, locals := 0 } : Room).slots) _
  refine Goes.via (S' := s₁.setTop (mkF m 0 #[.val (.ref b)] [])) (fun tz kz => castTop (ef_37 m b ) kz) ?_
  refine Goes.via (S' := s₁.setTop (mkF m 1 #[.val (.ref b)] [(.ref b)])) (fun tz kz => ?_) ?_
  · show Steps p.tables e below (s₁.setTop (mkF m 0 #[.val (.ref b)] [])) _
    refine XS.aloadN X0.here hx rfl (hb hby d37_0) rfl rfl ?_
    exact kz
  obtain ⟨cl1, Ar1, q1, Sz1, Nn1, Hs1, G1⟩ := (id BV)
  refine Goes.via (S' := s₁.setTop (mkF m 4 #[.val (.ref b)] [(.int (n2 >>> ((1 : Int32) &&& 31)))])) (fun tz kz => ?_) ?_
  · show Steps p.tables e below (s₁.setTop (mkF m 1 #[.val (.ref b)] [(.ref b)])) _
    refine X0.arraylength hx (by rw [e0]; exact Ar1.1) (State.isArrayOf_alike hZ.alike Ar1.2.1) (g := (mkF m 1 #[.val (.ref b)] [(.ref b)])) rfl rfl (hb hby d37_1) _ ?_
    rw [len_of Sz1 Nn1]
    refine XS.iconst X0.here hx rfl (hb hby d37_2) ?_
    refine XS.ishr X0.here hx rfl (hb hby d37_3) rfl ?_
    exact kz
  exact Goes.retI X0 hx Bd.notSynchronized Bd.returns (hb hby d37_4) (nb_ rfl) (nb_ rfl) ⟨congrArg (fun z => some (Value.int z)) hn, N0, e0⟩
theorem d36_0 : decode jdk_52_method_91_code 0 = .ok (.iload_n 0, 1) := by decide +kernel
theorem d36_1 : decode jdk_52_method_91_code 1 = .ok (.aload_n 1, 1) := by decide +kernel
theorem d36_2 : decode jdk_52_method_91_code 2 = .ok (.invokestatic 48, 3) := by decide +kernel
theorem d36_5 : decode jdk_52_method_91_code 5 = .ok (.invokestatic 414, 3) := by decide +kernel
theorem d36_8 : decode jdk_52_method_91_code 8 = .ok (.return_, 1) := by decide +kernel
theorem pn_36 : plainName "java/lang/StringUTF16" = true := by first | (simp [plainName, overriddenIn]; done) | decide +kernel
theorem ef_36 (m : MethodId) (x0 : Int32) (x1 : Addr) : entryFrame m #[(.int x0), (.ref x1)] 2 = mkF m 0 #[.val (.int x0), .val (.ref x1)] [] := by first | (simp [entryFrame, mkF, argsToLocals, Value.category]; done) | rfl
def Q_ruk (Z : State) (i : Int32) (b : Addr) (k : ClassId) (n2 n : Int32) (fv : Value) (vs : List Value) (h0 : Heap) (n0 : Nat) : Option Value → Heap → List Loc → Prop := fun v h L => v = none ∧ Fr n0 L ∧ h = h0
theorem ruk (l : Launch) (Z : State) (a0 : Array Value) (hw : ∀ d ∈ tables_1, d.before a0 Z = true) (ws : List Jvm.Cond) (i : Int32) (b : Addr) (k : ClassId) (n2 n : Int32) (fv : Value) (vs : List Value) (h0 : Heap) (n0 : Nat) (Z0 : n0 ≤ h0.size) (SF : Sta Z Z.heap "jdk/internal/util/Preconditions" "SIOOBE_FORMATTER" "Ljava/util/function/BiFunction;" fv) (hfv : fv.isRef = true) (O0 : Old Z n0 h0) (BV : Arv Z h0 b k .byte n2 vs (.int 0)) (hn : (n2 >>> ((1 : Int32) &&& 31)) = n) (q : ¬ i < (0 : Int32) ∧ i < n) :
    own_M l Z n_19 (Jvm.Cond.code n_19 jdk_52_method_91_code 2 none) ws ({ frames := 2, cells := 0, slots := 0, locals := 32 } : Room) #[(.int i), (.ref b)] h0 (Q_ruk Z i b k n2 n fv vs h0 n0) := by
  refine MetFree.of_bodySF (plainFor_of_name pn_36) hisR ?_
  intro p e s m args below meth c s₁ Bd hml0 hP hK
  obtain ⟨rfl, hZ, hh⟩ := hP
  have hx := Bd.exec
  have hby := Bd.bytes
  have hml : c.maxLocals = 2 := hml0
  have hown : s.vm.findClass "java/lang/StringUTF16" = some m.cls := findClass_of_methodNamed Bd.named
  have hnm := (name_of_methodNamed Bd.named Bd.method).1
  have X0 : Stand p l e ({ frames := 2, cells := 0, slots := 0, locals := 32 } : Room) s m #[(.int i), (.ref b)] below meth c s₁ [] 0 0 := Stand.of_body Bd
  have e0 : s₁.heap = h0 := by rw [← hh, Bd.state]; rfl
  have N0 := Fr.nil n0
  show Goes p e below (Fin s (Q_ruk Z i b k n2 n fv vs h0 n0) ({ frames := 2, cells := 0, slots := 0, locals := 32 } : Room).cells ({ frames := 2, cells := 0, slots := 0, locals := 32 } : Room).slots) _
  refine Goes.via (S' := s₁.setTop (mkF m 0 #[.val (.int i), .val (.ref b)] [])) (fun tz kz => castTop (ef_36 m i b ) kz) ?_
  refine Goes.via (S' := s₁.setTop (mkF m 2 #[.val (.int i), .val (.ref b)] [(.ref b), (.int i)])) (fun tz kz => ?_) ?_
  · show Steps p.tables e below (s₁.setTop (mkF m 0 #[.val (.int i), .val (.ref b)] [])) _
    refine XS.iloadN X0.here hx rfl (hb hby d36_0) rfl ?_
    refine XS.aloadN X0.here hx rfl (hb hby d36_1) rfl rfl ?_
    exact kz
  obtain ⟨_, _, ⟨T1, L1, k1, n1⟩, -, X1, ⟨Lc1, hQ1, l1, y1, z1⟩, st1⟩ := Jvm.LawKit.callS X0 hx (y := n_18) hown (mvT hZ (w_ hw 153 rfl)) (mvT hZ (w_ hw 154 rfl)) (mvT hZ (w_ hw 28 rfl)) (mvT hZ (w_ hw 155 rfl)) (by decide) (backOf (W := 1) (rul l Z a0 hw [] b k n2 n vs h0 n0 Z0 BV hn) hZ (w_ hw 155 rfl) (w_ hw 28 rfl) (by decide) (by decide)) (g := (mkF m 2 #[.val (.int i), .val (.ref b)] [(.ref b), (.int i)])) rfl (by rw [hml]; rfl) (argsL := [(.ref b)]) (rest := [(.int i)]) (lenOf pd_12 rfl) rfl (by show 2 * 0 + _ ≤ _; exact Nat.le_of_eq rfl) (hb hby d36_2) (fun _ _ => ⟨rfl, e0, (by decide : 0 + 0 ≤ _), (by decide : 0 + 0 ≤ _)⟩)
  dsimp only [Pt.U, Pt.locs, Pt.cells, Pt.slots] at X1 l1 y1 z1 st1 hQ1
  subst l1 y1 z1
  obtain ⟨rfl, N1, e1⟩ := hQ1
  have Nf1 := Fr.app N0 N1
  refine Goes.via (st1) ?_
  obtain ⟨_, _, ⟨T2, L2, k2, n2⟩, -, X2, ⟨Lc2, hQ2, l2, y2, z2⟩, st2⟩ := Jvm.LawKit.callS X1 hx (y := n_15) hown (mvT hZ (w_ hw 156 rfl)) (mvT hZ (w_ hw 71 rfl)) (mvT hZ (w_ hw 13 rfl)) (mvT hZ (w_ hw 72 rfl)) (by decide) (backOf (W := 0) (rci l Z a0 hw [] i n fv h0 n0 Z0 SF hfv O0 q.1 q.2) hZ (w_ hw 72 rfl) (w_ hw 13 rfl) (by decide) (by decide)) (g := (mkF m 5 #[.val (.int i), .val (.ref b)] [(.int n), (.int i)])) rfl (by rw [hml]; rfl) (argsL := [(.int i), (.int n)]) (rest := []) (lenOf pd_10 rfl) rfl (by show 2 * 0 + _ ≤ _; exact Nat.le_of_eq rfl) (hb hby d36_5) (fun _ _ => ⟨rfl, e1, (by decide : 0 + 0 ≤ _), (by decide : 0 + 0 ≤ _)⟩)
  dsimp only [Pt.U, Pt.locs, Pt.cells, Pt.slots] at X2 l2 y2 z2 st2 hQ2
  subst l2 y2 z2
  obtain ⟨rfl, N2, e2⟩ := hQ2
  have Nf2 := Fr.app Nf1 N2
  refine Goes.via (st2) ?_
  exact Goes.retV X2 hx Bd.notSynchronized Bd.returns (hb hby d36_8) (nb_ rfl) (nb_ rfl) ⟨rfl, Nf2, e2⟩
theorem d35_0 : decode jdk_52_method_83_code 0 = .ok (.iload_n 1, 1) := by decide +kernel
theorem d35_1 : decode jdk_52_method_83_code 1 = .ok (.aload_n 0, 1) := by decide +kernel
theorem d35_2 : decode jdk_52_method_83_code 2 = .ok (.invokestatic 67, 3) := by decide +kernel
theorem d35_5 : decode jdk_52_method_83_code 5 = .ok (.aload_n 0, 1) := by decide +kernel
theorem d35_6 : decode jdk_52_method_83_code 6 = .ok (.iload_n 1, 1) := by decide +kernel
theorem d35_7 : decode jdk_52_method_83_code 7 = .ok (.invokestatic 71, 3) := by decide +kernel
theorem d35_10 : decode jdk_52_method_83_code 10 = .ok (.ireturn, 1) := by decide +kernel
theorem pn_35 : plainName "java/lang/StringUTF16" = true := by first | (simp [plainName, overriddenIn]; done) | decide +kernel
theorem ef_35 (m : MethodId) (x0 : Addr) (x1 : Int32) : entryFrame m #[(.ref x0), (.int x1)] 2 = mkF m 0 #[.val (.ref x0), .val (.int x1)] [] := by first | (simp [entryFrame, mkF, argsToLocals, Value.category]; done) | rfl
def Q_ruc (Z : State) (b : Addr) (i : Int32) (k : ClassId) (n2 n j0 j1 x : Int32) (fv : Value) (vs : List Value) (h0 : Heap) (n0 : Nat) : Option Value → Heap → List Loc → Prop := fun v h L => v = some (.int x) ∧ Fr n0 L ∧ h = h0
theorem ruc (l : Launch) (Z : State) (a0 : Array Value) (hw : ∀ d ∈ tables_1, d.before a0 Z = true) (ws : List Jvm.Cond) (b : Addr) (i : Int32) (k : ClassId) (n2 n j0 j1 x : Int32) (fv : Value) (vs : List Value) (h0 : Heap) (n0 : Nat) (Z0 : n0 ≤ h0.size) (SF : Sta Z Z.heap "jdk/internal/util/Preconditions" "SIOOBE_FORMATTER" "Ljava/util/function/BiFunction;" fv) (hfv : fv.isRef = true) (O0 : Old Z n0 h0) (SA : Sta Z Z.heap "java/lang/StringUTF16" "$assertionsDisabled" "Z" (.int (1 : Int32))) (SH : Sta Z Z.heap "java/lang/StringUTF16" "HI_BYTE_SHIFT" "I" (.int (0 : Int32))) (SL : Sta Z Z.heap "java/lang/StringUTF16" "LO_BYTE_SHIFT" "I" (.int (8 : Int32))) (BV : Arv Z h0 b k .byte n2 vs (.int 0)) (zx : nar .char x = x) (hn : (n2 >>> ((1 : Int32) &&& 31)) = n) (q : ¬ i < (0 : Int32) ∧ i < n) (hj0 : (i <<< ((1 : Int32) &&& 31)) = j0) (hj1 : (j0 + (1 : Int32)) = j1) (q0 : ¬ j0 < 0 ∧ j0 < n2) (q1 : ¬ j1 < 0 ∧ j1 < n2) (g0 : vs.getD j0.toNatClampNeg (.int 0) = .int (own_lo x)) (g1 : vs.getD j1.toNatClampNeg (.int 0) = .int (own_hi x)) :
    own_M l Z n_20 (Jvm.Cond.code n_20 jdk_52_method_83_code 2 (some .char)) ws ({ frames := 3, cells := 0, slots := 0, locals := 48 } : Room) #[(.ref b), (.int i)] h0 (Q_ruc Z b i k n2 n j0 j1 x fv vs h0 n0) := by
  refine MetFree.of_bodySF (plainFor_of_name pn_35) hisR ?_
  intro p e s m args below meth c s₁ Bd hml0 hP hK
  obtain ⟨rfl, hZ, hh⟩ := hP
  have hx := Bd.exec
  have hby := Bd.bytes
  have hml : c.maxLocals = 2 := hml0
  have hown : s.vm.findClass "java/lang/StringUTF16" = some m.cls := findClass_of_methodNamed Bd.named
  have hnm := (name_of_methodNamed Bd.named Bd.method).1
  have X0 : Stand p l e ({ frames := 3, cells := 0, slots := 0, locals := 48 } : Room) s m #[(.ref b), (.int i)] below meth c s₁ [] 0 0 := Stand.of_body Bd
  have e0 : s₁.heap = h0 := by rw [← hh, Bd.state]; rfl
  have N0 := Fr.nil n0
  show Goes p e below (Fin s (Q_ruc Z b i k n2 n j0 j1 x fv vs h0 n0) ({ frames := 3, cells := 0, slots := 0, locals := 48 } : Room).cells ({ frames := 3, cells := 0, slots := 0, locals := 48 } : Room).slots) _
  refine Goes.via (S' := s₁.setTop (mkF m 0 #[.val (.ref b), .val (.int i)] [])) (fun tz kz => castTop (ef_35 m b i ) kz) ?_
  refine Goes.via (S' := s₁.setTop (mkF m 2 #[.val (.ref b), .val (.int i)] [(.ref b), (.int i)])) (fun tz kz => ?_) ?_
  · show Steps p.tables e below (s₁.setTop (mkF m 0 #[.val (.ref b), .val (.int i)] [])) _
    refine XS.iloadN X0.here hx rfl (hb hby d35_0) rfl ?_
    refine XS.aloadN X0.here hx rfl (hb hby d35_1) rfl rfl ?_
    exact kz
  obtain ⟨_, _, ⟨T1, L1, k1, n1⟩, -, X1, ⟨Lc1, hQ1, l1, y1, z1⟩, st1⟩ := Jvm.LawKit.callS X0 hx (y := n_19) hown (mvT hZ (w_ hw 150 rfl)) (mvT hZ (w_ hw 151 rfl)) (mvT hZ (w_ hw 28 rfl)) (mvT hZ (w_ hw 152 rfl)) (by decide) (backOf (W := 0) (ruk l Z a0 hw [] i b k n2 n fv vs h0 n0 Z0 SF hfv O0 BV hn q) hZ (w_ hw 152 rfl) (w_ hw 28 rfl) (by decide) (by decide)) (g := (mkF m 2 #[.val (.ref b), .val (.int i)] [(.ref b), (.int i)])) rfl (by rw [hml]; rfl) (argsL := [(.int i), (.ref b)]) (rest := []) (lenOf pd_13 rfl) rfl (by show 2 * 0 + _ ≤ _; exact Nat.le_of_eq rfl) (hb hby d35_2) (fun _ _ => ⟨rfl, e0, (by decide : 0 + 0 ≤ _), (by decide : 0 + 0 ≤ _)⟩)
  dsimp only [Pt.U, Pt.locs, Pt.cells, Pt.slots] at X1 l1 y1 z1 st1 hQ1
  subst l1 y1 z1
  obtain ⟨rfl, N1, e1⟩ := hQ1
  have Nf1 := Fr.app N0 N1
  refine Goes.via (st1) ?_
  refine Goes.via (S' := T1.setTop (mkF m 7 #[.val (.ref b), .val (.int i)] [(.int i), (.ref b)])) (fun tz kz => ?_) ?_
  · show Steps p.tables e below (T1.setTop (mkF m 5 #[.val (.ref b), .val (.int i)] [])) _
    refine XS.aloadN X1.here hx rfl (hb hby d35_5) rfl rfl ?_
    refine XS.iloadN X1.here hx rfl (hb hby d35_6) rfl ?_
    exact kz
  obtain ⟨_, _, ⟨T2, L2, k2, n2⟩, -, X2, ⟨Lc2, hQ2, l2, y2, z2⟩, st2⟩ := Jvm.LawKit.callS X1 hx (y := n_1) hown (mvT hZ (w_ hw 144 rfl)) (mvT hZ (w_ hw 145 rfl)) (mvT hZ (w_ hw 28 rfl)) (mvT hZ (w_ hw 146 rfl)) (by decide) (backOf (W := 0) (rgc l Z a0 hw [] b i k n2 j0 j1 x vs h0 n0 Z0 SA SH SL O0 BV hj0 hj1 q0 q1 g0 g1 zx) hZ (w_ hw 146 rfl) (w_ hw 28 rfl) (by decide) (by decide)) (g := (mkF m 7 #[.val (.ref b), .val (.int i)] [(.int i), (.ref b)])) rfl (by rw [hml]; rfl) (argsL := [(.ref b), (.int i)]) (rest := []) (lenOf pd_5 rfl) rfl (by show 2 * 0 + _ ≤ _; exact Nat.le_of_eq rfl) (hb hby d35_7) (fun _ _ => ⟨rfl, e1, (by decide : 0 + 0 ≤ _), (by decide : 0 + 0 ≤ _)⟩)
  dsimp only [Pt.U, Pt.locs, Pt.cells, Pt.slots] at X2 l2 y2 z2 st2 hQ2
  subst l2 y2 z2
  obtain ⟨rfl, N2, e2⟩ := hQ2
  have Nf2 := Fr.app Nf1 N2
  refine Goes.via (st2) ?_
  exact Goes.retN X2 hx Bd.notSynchronized (t := .char) Bd.returns (by simp) (hb hby d35_10) (nb_ rfl) (nb_ rfl) ⟨congrArg (fun z => some (Value.int z)) zx, Nf2, e2⟩
def Q_rca_U (Z : State) (a1 : Addr) (i : Int32) (b : Addr) (k : ClassId) (cs : Int32) (n2 n j0 j1 x : Int32) (fv : Value) (vs : List Value) (h0 : Heap) (n0 : Nat) : Option Value → Heap → List Loc → Prop := fun v h L => v = some (.int x) ∧ Fr n0 L ∧ h = h0
theorem rca_U (l : Launch) (Z : State) (a0 : Array Value) (hw : ∀ d ∈ tables_1, d.before a0 Z = true) (ws : List Jvm.Cond) (a1 : Addr) (i : Int32) (b : Addr) (k : ClassId) (cs : Int32) (n2 n j0 j1 x : Int32) (fv : Value) (vs : List Value) (h0 : Heap) (n0 : Nat) (Z0 : n0 ≤ h0.size) (SC : Sta Z Z.heap "java/lang/String" "COMPACT_STRINGS" "Z" (.int cs)) (hcs : ¬ cs = (0 : Int32)) (O0 : Old Z n0 h0) (SF : Sta Z Z.heap "jdk/internal/util/Preconditions" "SIOOBE_FORMATTER" "Ljava/util/function/BiFunction;" fv) (hfv : fv.isRef = true) (SA : Sta Z Z.heap "java/lang/StringUTF16" "$assertionsDisabled" "Z" (.int (1 : Int32))) (SH : Sta Z Z.heap "java/lang/StringUTF16" "HI_BYTE_SHIFT" "I" (.int (0 : Int32))) (SL : Sta Z Z.heap "java/lang/StringUTF16" "LO_BYTE_SHIFT" "I" (.int (8 : Int32))) (S : own_StU Z h0 a1 b k n2 vs) (zx : nar .char x = x) (hn : (n2 >>> ((1 : Int32) &&& 31)) = n) (q : ¬ i < (0 : Int32) ∧ i < n) (hj0 : (i <<< ((1 : Int32) &&& 31)) = j0) (hj1 : (j0 + (1 : Int32)) = j1) (q0 : ¬ j0 < 0 ∧ j0 < n2) (q1 : ¬ j1 < 0 ∧ j1 < n2) (g0 : vs.getD j0.toNatClampNeg (.int 0) = .int (own_lo x)) (g1 : vs.getD j1.toNatClampNeg (.int 0) = .int (own_hi x)) :
    own_M l Z n_17 (Jvm.Cond.code n_17 jdk_42_method_56_code 2 (some .char)) ws ({ frames := 4, cells := 0, slots := 0, locals := 64 } : Room) #[(.ref a1), (.int i)] h0 (Q_rca_U Z a1 i b k cs n2 n j0 j1 x fv vs h0 n0) := by
  refine MetFree.of_bodySF (plainFor_of_name pn_13) hisR ?_
  intro p e s m args below meth c s₁ Bd hml0 hP hK
  obtain ⟨rfl, hZ, hh⟩ := hP
  have hx := Bd.exec
  have hby := Bd.bytes
  have hml : c.maxLocals = 2 := hml0
  have hown : s.vm.findClass "java/lang/String" = some m.cls := findClass_of_methodNamed Bd.named
  have hnm := (name_of_methodNamed Bd.named Bd.method).1
  have X0 : Stand p l e ({ frames := 4, cells := 0, slots := 0, locals := 64 } : Room) s m #[(.ref a1), (.int i)] below meth c s₁ [] 0 0 := Stand.of_body Bd
  have e0 : s₁.heap = h0 := by rw [← hh, Bd.state]; rfl
  have N0 := Fr.nil n0
  show Goes p e below (Fin s (Q_rca_U Z a1 i b k cs n2 n j0 j1 x fv vs h0 n0) ({ frames := 4, cells := 0, slots := 0, locals := 64 } : Room).cells ({ frames := 4, cells := 0, slots := 0, locals := 64 } : Room).slots) _
  refine Goes.via (S' := s₁.setTop (mkF m 0 #[.val (.ref a1), .val (.int i)] [])) (fun tz kz => castTop (ef_13 m a1 i ) kz) ?_
  refine Goes.via (S' := s₁.setTop (mkF m 1 #[.val (.ref a1), .val (.int i)] [(.ref a1)])) (fun tz kz => ?_) ?_
  · show Steps p.tables e below (s₁.setTop (mkF m 0 #[.val (.ref a1), .val (.int i)] [])) _
    refine XS.aloadN X0.here hx rfl (hb hby d13_0) rfl rfl ?_
    exact kz
  obtain ⟨cq1, kq1, q1a, q1b, q1c⟩ := isOf hZ e0 S.1
  obtain ⟨_, _, ⟨T1, L1, k1, n1⟩, -, X1, ⟨Lc1, hQ1, l1, y1, z1⟩, st1⟩ := X0.virtualBack hx (y := n_12) (z := n_12) hown (mvT hZ (w_ hw 61 rfl)) (mvT hZ (w_ hw 62 rfl)) (notFace_of_selects (args := #[]) (mvT hZ (w_ hw 64 rfl))) (mvT hZ (w_ hw 64 rfl)) (mvT hZ (w_ hw 63 rfl)) (by decide) (backOf (W := 0) (ril_1 l Z a0 hw [] a1 cs h0 n0 Z0 SC hcs O0 S.2.1) hZ (w_ hw 65 rfl) (w_ hw 13 rfl) (by decide) (by decide)) q1a q1c (g := (mkF m 1 #[.val (.ref a1), .val (.int i)] [(.ref a1)])) rfl (by rw [hml]; rfl) (Steps.refl _) (argsL := []) (rest := []) (lenOf pd_11 rfl) rfl (by show 2 * 0 + _ ≤ _; exact Nat.le_of_eq rfl) (hb hby d13_1) (fun _ _ => ⟨rfl, e0, (by decide : 0 + 0 ≤ _), (by decide : 0 + 0 ≤ _)⟩)
  dsimp only [Pt.U, Pt.locs, Pt.cells, Pt.slots] at X1 l1 y1 z1 st1 hQ1
  subst l1 y1 z1
  obtain ⟨rfl, N1, e1⟩ := hQ1
  have Nf1 := Fr.app N0 N1
  refine Goes.via (fun _ kz => st1.trans kz) ?_
  refine Goes.via (S' := T1.setTop (mkF m 17 #[.val (.ref a1), .val (.int i)] [(.ref a1)])) (fun tz kz => ?_) ?_
  · show Steps p.tables e below (T1.setTop (mkF m 4 #[.val (.ref a1), .val (.int i)] [(.int (0 : Int32))])) _
    refine XS.ifYes X1.here hx rfl (pc0 := 4) (pc' := 16) rfl (hb hby d13_4) rfl ((if0 _ _).trans (teq (by first | decide | rfl)).1) (by decide) (by decide) ?_
    refine XS.aloadN X1.here hx rfl (hb hby d13_16) rfl rfl ?_
    exact kz
  obtain ⟨T2, X2, e2, st2⟩ := getF X1 hx hZ hown (host := "") (Or.inl (w_ hw 39 rfl)) Via.refl e1 S.2.2.1 (g := (mkF m 17 #[.val (.ref a1), .val (.int i)] [(.ref a1)])) rfl rfl (hb hby d13_17)
  refine Goes.via st2 ?_
  refine Goes.via (S' := T2.setTop (mkF m 21 #[.val (.ref a1), .val (.int i)] [(.int i), (.ref b)])) (fun tz kz => ?_) ?_
  · show Steps p.tables e below (T2.setTop (mkF m 20 #[.val (.ref a1), .val (.int i)] [(.ref b)])) _
    refine XS.iloadN X2.here hx rfl (hb hby d13_20) rfl ?_
    exact kz
  obtain ⟨_, _, ⟨T3, L3, k3, n3⟩, -, X3, ⟨Lc3, hQ3, l3, y3, z3⟩, st3⟩ := Jvm.LawKit.callS X2 hx (y := n_20) hown (mvT hZ (w_ hw 147 rfl)) (mvT hZ (w_ hw 148 rfl)) (mvT hZ (w_ hw 28 rfl)) (mvT hZ (w_ hw 149 rfl)) (by decide) (backOf (W := 0) (ruc l Z a0 hw [] b i k n2 n j0 j1 x fv vs h0 n0 Z0 SF hfv O0 SA SH SL S.2.2.2 zx hn q hj0 hj1 q0 q1 g0 g1) hZ (w_ hw 149 rfl) (w_ hw 28 rfl) (by decide) (by decide)) (g := (mkF m 21 #[.val (.ref a1), .val (.int i)] [(.int i), (.ref b)])) rfl (by rw [hml]; rfl) (argsL := [(.ref b), (.int i)]) (rest := []) (lenOf pd_5 rfl) rfl (by show 2 * 0 + _ ≤ _; exact Nat.le_of_eq rfl) (hb hby d13_21) (fun _ _ => ⟨rfl, e2, (by decide : 0 + 0 ≤ _), (by decide : 0 + 0 ≤ _)⟩)
  dsimp only [Pt.U, Pt.locs, Pt.cells, Pt.slots] at X3 l3 y3 z3 st3 hQ3
  subst l3 y3 z3
  obtain ⟨rfl, N3, e3⟩ := hQ3
  have Nf3 := Fr.app Nf1 N3
  refine Goes.via (st3) ?_
  exact Goes.retN X3 hx Bd.notSynchronized (t := .char) Bd.returns (by simp) (hb hby d13_24) (nb_ rfl) (nb_ rfl) ⟨congrArg (fun z => some (Value.int z)) zx, Nf3, e3⟩
theorem own_i2bi {x k : Int32} (hc : nar .char x = x) (g : ¬ (255 : Int32) < x) (hk : 0 ≤ k.toInt ∧ k.toInt < 128) (q : k = x.toInt8.toInt32) : x = k := by
  have hr := own_ch hc
  have z255 : (255 : Int32).toInt = 255 := by decide
  rw [Int32.lt_iff_toInt_lt] at g
  have b := c_i2b x
  rw [← q] at b
  exact Int32.toInt_inj.mp (by omega)
def own_nf (x : Int32) : Prop := ¬ x < (0 : Int32) ∧ ((255 : Int32) < x ∨ (¬ (255 : Int32) < x ∧ ¬ (61 : Int32) = x.toInt8.toInt32 ∧ ¬ (43 : Int32) = x.toInt8.toInt32 ∧ ¬ (45 : Int32) = x.toInt8.toInt32 ∧ ¬ (64 : Int32) = x.toInt8.toInt32 ∧ ¬ (9 : Int32) = x.toInt8.toInt32 ∧ ¬ (13 : Int32) = x.toInt8.toInt32))
theorem own_nfi {x : Int32} (hc : nar .char x = x) (q0 : ¬ x = (61 : Int32)) (q1 : ¬ x = (43 : Int32)) (q2 : ¬ x = (45 : Int32)) (q3 : ¬ x = (64 : Int32)) (q4 : ¬ x = (9 : Int32)) (q5 : ¬ x = (13 : Int32)) : own_nf x := by
  have hr := own_ch hc
  have z0 : (0 : Int32).toInt = 0 := by decide
  have z255 : (255 : Int32).toInt = 255 := by decide
  refine ⟨fun q => ?_, ?_⟩
  · rw [Int32.lt_iff_toInt_lt] at q; omega
  by_cases g : (255 : Int32) < x
  · exact Or.inl g
  refine Or.inr ⟨g, fun q => q0 (own_i2bi hc g (by decide) q), fun q => q1 (own_i2bi hc g (by decide) q), fun q => q2 (own_i2bi hc g (by decide) q), fun q => q3 (own_i2bi hc g (by decide) q), fun q => q4 (own_i2bi hc g (by decide) q), fun q => q5 (own_i2bi hc g (by decide) q)⟩
theorem d23_0 : decode jdk_43_method_4_code 0 = .ok (.iload_n 0, 1) := by decide +kernel
theorem d23_1 : decode jdk_43_method_4_code 1 = .ok (.ifCond .lt 14, 3) := by decide +kernel
theorem d23_4 : decode jdk_43_method_4_code 4 = .ok (.iload_n 0, 1) := by decide +kernel
theorem d23_5 : decode jdk_43_method_4_code 5 = .ok (.sipush 255, 3) := by decide +kernel
theorem d23_8 : decode jdk_43_method_4_code 8 = .ok (.if_icmp .gt 7, 3) := by decide +kernel
theorem d23_11 : decode jdk_43_method_4_code 11 = .ok (.iconst 1, 1) := by decide +kernel
theorem d23_12 : decode jdk_43_method_4_code 12 = .ok (.goto 4, 3) := by decide +kernel
theorem d23_15 : decode jdk_43_method_4_code 15 = .ok (.iconst 0, 1) := by decide +kernel
theorem d23_16 : decode jdk_43_method_4_code 16 = .ok (.ireturn, 1) := by decide +kernel
theorem pn_23 : plainName "java/lang/StringLatin1" = true := by first | (simp [plainName, overriddenIn]; done) | decide +kernel
theorem ef_23 (m : MethodId) (x0 : Int32) : entryFrame m #[(.int x0)] 1 = mkF m 0 #[.val (.int x0)] [] := by first | (simp [entryFrame, mkF, argsToLocals, Value.category]; done) | rfl
def Q_rce_y (Z : State) (x : Int32)  (h0 : Heap) (n0 : Nat) : Option Value → Heap → List Loc → Prop := fun v h L => v = some (.int (1 : Int32)) ∧ Fr n0 L ∧ h = h0
theorem rce_y (l : Launch) (Z : State) (a0 : Array Value) (hw : ∀ d ∈ tables_1, d.before a0 Z = true) (ws : List Jvm.Cond) (x : Int32)  (h0 : Heap) (n0 : Nat) (Z0 : n0 ≤ h0.size) (q0 : ¬ x < (0 : Int32)) (q1 : ¬ (255 : Int32) < x) :
    own_M l Z n_21 (Jvm.Cond.code n_21 jdk_43_method_4_code 1 (some .boolean)) ws ({ frames := 0, cells := 0, slots := 0, locals := 0 } : Room) #[(.int x)] h0 (Q_rce_y Z x h0 n0) := by
  refine MetFree.of_bodySF (plainFor_of_name pn_23) hisR ?_
  intro p e s m args below meth c s₁ Bd hml0 hP hK
  obtain ⟨rfl, hZ, hh⟩ := hP
  have hx := Bd.exec
  have hby := Bd.bytes
  have hml : c.maxLocals = 1 := hml0
  have hown : s.vm.findClass "java/lang/StringLatin1" = some m.cls := findClass_of_methodNamed Bd.named
  have hnm := (name_of_methodNamed Bd.named Bd.method).1
  have X0 : Stand p l e ({ frames := 0, cells := 0, slots := 0, locals := 0 } : Room) s m #[(.int x)] below meth c s₁ [] 0 0 := Stand.of_body Bd
  have e0 : s₁.heap = h0 := by rw [← hh, Bd.state]; rfl
  have N0 := Fr.nil n0
  show Goes p e below (Fin s (Q_rce_y Z x h0 n0) ({ frames := 0, cells := 0, slots := 0, locals := 0 } : Room).cells ({ frames := 0, cells := 0, slots := 0, locals := 0 } : Room).slots) _
  refine Goes.via (S' := s₁.setTop (mkF m 0 #[.val (.int x)] [])) (fun tz kz => castTop (ef_23 m x ) kz) ?_
  refine Goes.via (S' := s₁.setTop (mkF m 16 #[.val (.int x)] [(.int (1 : Int32))])) (fun tz kz => ?_) ?_
  · show Steps p.tables e below (s₁.setTop (mkF m 0 #[.val (.int x)] [])) _
    refine XS.iloadN X0.here hx rfl (hb hby d23_0) rfl ?_
    refine XS.ifNo X0.here hx rfl (hb hby d23_1) rfl ((if0 _ _).trans (flt q0).1) ?_
    refine XS.iloadN X0.here hx rfl (hb hby d23_4) rfl ?_
    refine XS.sipush X0.here hx rfl (hb hby d23_5) ?_
    refine XS.icmpNo X0.here hx rfl (hb hby d23_8) rfl (flt q1).2.2.1 ?_
    refine XS.iconst X0.here hx rfl (hb hby d23_11) ?_
    refine XS.goto X0.here hx rfl (pc0 := 12) (pc' := 16) rfl (hb hby d23_12) (by decide) (by decide) ?_
    exact kz
  exact Goes.retN X0 hx Bd.notSynchronized (t := .boolean) Bd.returns (by simp) (hb hby d23_16) (nb_ rfl) (nb_ rfl) ⟨rfl, N0, e0⟩
def Q_rce_n (Z : State) (x : Int32)  (h0 : Heap) (n0 : Nat) : Option Value → Heap → List Loc → Prop := fun v h L => v = some (.int (0 : Int32)) ∧ Fr n0 L ∧ h = h0
theorem rce_n (l : Launch) (Z : State) (a0 : Array Value) (hw : ∀ d ∈ tables_1, d.before a0 Z = true) (ws : List Jvm.Cond) (x : Int32)  (h0 : Heap) (n0 : Nat) (Z0 : n0 ≤ h0.size) (q0 : ¬ x < (0 : Int32)) (q1 : (255 : Int32) < x) :
    own_M l Z n_21 (Jvm.Cond.code n_21 jdk_43_method_4_code 1 (some .boolean)) ws ({ frames := 0, cells := 0, slots := 0, locals := 0 } : Room) #[(.int x)] h0 (Q_rce_n Z x h0 n0) := by
  refine MetFree.of_bodySF (plainFor_of_name pn_23) hisR ?_
  intro p e s m args below meth c s₁ Bd hml0 hP hK
  obtain ⟨rfl, hZ, hh⟩ := hP
  have hx := Bd.exec
  have hby := Bd.bytes
  have hml : c.maxLocals = 1 := hml0
  have hown : s.vm.findClass "java/lang/StringLatin1" = some m.cls := findClass_of_methodNamed Bd.named
  have hnm := (name_of_methodNamed Bd.named Bd.method).1
  have X0 : Stand p l e ({ frames := 0, cells := 0, slots := 0, locals := 0 } : Room) s m #[(.int x)] below meth c s₁ [] 0 0 := Stand.of_body Bd
  have e0 : s₁.heap = h0 := by rw [← hh, Bd.state]; rfl
  have N0 := Fr.nil n0
  show Goes p e below (Fin s (Q_rce_n Z x h0 n0) ({ frames := 0, cells := 0, slots := 0, locals := 0 } : Room).cells ({ frames := 0, cells := 0, slots := 0, locals := 0 } : Room).slots) _
  refine Goes.via (S' := s₁.setTop (mkF m 0 #[.val (.int x)] [])) (fun tz kz => castTop (ef_23 m x ) kz) ?_
  refine Goes.via (S' := s₁.setTop (mkF m 16 #[.val (.int x)] [(.int (0 : Int32))])) (fun tz kz => ?_) ?_
  · show Steps p.tables e below (s₁.setTop (mkF m 0 #[.val (.int x)] [])) _
    refine XS.iloadN X0.here hx rfl (hb hby d23_0) rfl ?_
    refine XS.ifNo X0.here hx rfl (hb hby d23_1) rfl ((if0 _ _).trans (flt q0).1) ?_
    refine XS.iloadN X0.here hx rfl (hb hby d23_4) rfl ?_
    refine XS.sipush X0.here hx rfl (hb hby d23_5) ?_
    refine XS.icmpYes X0.here hx rfl (pc0 := 8) (pc' := 15) rfl (hb hby d23_8) rfl (tlt q1).2.2.1 (by decide) (by decide) ?_
    refine XS.iconst X0.here hx rfl (hb hby d23_15) ?_
    exact kz
  exact Goes.retN X0 hx Bd.notSynchronized (t := .boolean) Bd.returns (by simp) (hb hby d23_16) (nb_ rfl) (nb_ rfl) ⟨rfl, N0, e0⟩
theorem d24_0 : decode jdk_29_method_65_code 0 = .ok (.iload_n 0, 1) := by decide +kernel
theorem d24_1 : decode jdk_29_method_65_code 1 = .ok (.iload_n 1, 1) := by decide +kernel
theorem d24_2 : decode jdk_29_method_65_code 2 = .ok (.if_icmp .lt 7, 3) := by decide +kernel
theorem d24_5 : decode jdk_29_method_65_code 5 = .ok (.iload_n 0, 1) := by decide +kernel
theorem d24_6 : decode jdk_29_method_65_code 6 = .ok (.goto 4, 3) := by decide +kernel
theorem d24_10 : decode jdk_29_method_65_code 10 = .ok (.ireturn, 1) := by decide +kernel
theorem pn_24 : plainFor n_22 = true := by decide +kernel
theorem ef_24 (m : MethodId) (x0 : Int32) (x1 : Int32) : entryFrame m #[(.int x0), (.int x1)] 2 = mkF m 0 #[.val (.int x0), .val (.int x1)] [] := by first | (simp [entryFrame, mkF, argsToLocals, Value.category]; done) | rfl
def Q_rmax0 (Z : State)   (h0 : Heap) (n0 : Nat) : Option Value → Heap → List Loc → Prop := fun v h L => v = some (.int (0 : Int32)) ∧ Fr n0 L ∧ h = h0
theorem rmax0 (l : Launch) (Z : State) (a0 : Array Value) (hw : ∀ d ∈ tables_1, d.before a0 Z = true) (ws : List Jvm.Cond)   (h0 : Heap) (n0 : Nat) (Z0 : n0 ≤ h0.size) :
    own_M l Z n_22 (Jvm.Cond.code n_22 jdk_29_method_65_code 2 (some .int)) ws ({ frames := 0, cells := 0, slots := 0, locals := 0 } : Room) #[(.int (0 : Int32)), (.int (0 : Int32))] h0 (Q_rmax0 Z  h0 n0) := by
  refine MetFree.of_bodySF (Jvm.Free.JP.mathPlain rfl (by decide +kernel)) hisR ?_
  intro p e s m args below meth c s₁ Bd hml0 hP hK
  obtain ⟨rfl, hZ, hh⟩ := hP
  have hx := Bd.exec
  have hby := Bd.bytes
  have hml : c.maxLocals = 2 := hml0
  have hown : s.vm.findClass "java/lang/Math" = some m.cls := findClass_of_methodNamed Bd.named
  have hnm := (name_of_methodNamed Bd.named Bd.method).1
  have X0 : Stand p l e ({ frames := 0, cells := 0, slots := 0, locals := 0 } : Room) s m #[(.int (0 : Int32)), (.int (0 : Int32))] below meth c s₁ [] 0 0 := Stand.of_body Bd
  have e0 : s₁.heap = h0 := by rw [← hh, Bd.state]; rfl
  have N0 := Fr.nil n0
  show Goes p e below (Fin s (Q_rmax0 Z  h0 n0) ({ frames := 0, cells := 0, slots := 0, locals := 0 } : Room).cells ({ frames := 0, cells := 0, slots := 0, locals := 0 } : Room).slots) _
  refine Goes.via (S' := s₁.setTop (mkF m 0 #[.val (.int (0 : Int32)), .val (.int (0 : Int32))] [])) (fun tz kz => castTop (ef_24 m (0 : Int32) (0 : Int32) ) kz) ?_
  refine Goes.via (S' := s₁.setTop (mkF m 10 #[.val (.int (0 : Int32)), .val (.int (0 : Int32))] [(.int (0 : Int32))])) (fun tz kz => ?_) ?_
  · show Steps p.tables e below (s₁.setTop (mkF m 0 #[.val (.int (0 : Int32)), .val (.int (0 : Int32))] [])) _
    refine XS.iloadN X0.here hx rfl (hb hby d24_0) rfl ?_
    refine XS.iloadN X0.here hx rfl (hb hby d24_1) rfl ?_
    refine XS.icmpNo X0.here hx rfl (hb hby d24_2) rfl (flt (by first | decide | rfl)).1 ?_
    refine XS.iloadN X0.here hx rfl (hb hby d24_5) rfl ?_
    refine XS.goto X0.here hx rfl (pc0 := 6) (pc' := 10) rfl (hb hby d24_6) (by decide) (by decide) ?_
    exact kz
  exact Goes.retI X0 hx Bd.notSynchronized Bd.returns (hb hby d24_10) (nb_ rfl) (nb_ rfl) ⟨rfl, N0, e0⟩
theorem d25_0 : decode jdk_29_method_69_code 0 = .ok (.iload_n 0, 1) := by decide +kernel
theorem d25_1 : decode jdk_29_method_69_code 1 = .ok (.iload_n 1, 1) := by decide +kernel
theorem d25_2 : decode jdk_29_method_69_code 2 = .ok (.if_icmp .gt 7, 3) := by decide +kernel
theorem d25_5 : decode jdk_29_method_69_code 5 = .ok (.iload_n 0, 1) := by decide +kernel
theorem d25_6 : decode jdk_29_method_69_code 6 = .ok (.goto 4, 3) := by decide +kernel
theorem d25_10 : decode jdk_29_method_69_code 10 = .ok (.ireturn, 1) := by decide +kernel
theorem pn_25 : plainFor n_23 = true := by decide +kernel
theorem ef_25 (m : MethodId) (x0 : Int32) (x1 : Int32) : entryFrame m #[(.int x0), (.int x1)] 2 = mkF m 0 #[.val (.int x0), .val (.int x1)] [] := by first | (simp [entryFrame, mkF, argsToLocals, Value.category]; done) | rfl
def Q_rmin6 (Z : State)   (h0 : Heap) (n0 : Nat) : Option Value → Heap → List Loc → Prop := fun v h L => v = some (.int (6 : Int32)) ∧ Fr n0 L ∧ h = h0
theorem rmin6 (l : Launch) (Z : State) (a0 : Array Value) (hw : ∀ d ∈ tables_1, d.before a0 Z = true) (ws : List Jvm.Cond)   (h0 : Heap) (n0 : Nat) (Z0 : n0 ≤ h0.size) :
    own_M l Z n_23 (Jvm.Cond.code n_23 jdk_29_method_69_code 2 (some .int)) ws ({ frames := 0, cells := 0, slots := 0, locals := 0 } : Room) #[(.int (6 : Int32)), (.int (6 : Int32))] h0 (Q_rmin6 Z  h0 n0) := by
  refine MetFree.of_bodySF (Jvm.Free.JP.mathPlain rfl (by decide +kernel)) hisR ?_
  intro p e s m args below meth c s₁ Bd hml0 hP hK
  obtain ⟨rfl, hZ, hh⟩ := hP
  have hx := Bd.exec
  have hby := Bd.bytes
  have hml : c.maxLocals = 2 := hml0
  have hown : s.vm.findClass "java/lang/Math" = some m.cls := findClass_of_methodNamed Bd.named
  have hnm := (name_of_methodNamed Bd.named Bd.method).1
  have X0 : Stand p l e ({ frames := 0, cells := 0, slots := 0, locals := 0 } : Room) s m #[(.int (6 : Int32)), (.int (6 : Int32))] below meth c s₁ [] 0 0 := Stand.of_body Bd
  have e0 : s₁.heap = h0 := by rw [← hh, Bd.state]; rfl
  have N0 := Fr.nil n0
  show Goes p e below (Fin s (Q_rmin6 Z  h0 n0) ({ frames := 0, cells := 0, slots := 0, locals := 0 } : Room).cells ({ frames := 0, cells := 0, slots := 0, locals := 0 } : Room).slots) _
  refine Goes.via (S' := s₁.setTop (mkF m 0 #[.val (.int (6 : Int32)), .val (.int (6 : Int32))] [])) (fun tz kz => castTop (ef_25 m (6 : Int32) (6 : Int32) ) kz) ?_
  refine Goes.via (S' := s₁.setTop (mkF m 10 #[.val (.int (6 : Int32)), .val (.int (6 : Int32))] [(.int (6 : Int32))])) (fun tz kz => ?_) ?_
  · show Steps p.tables e below (s₁.setTop (mkF m 0 #[.val (.int (6 : Int32)), .val (.int (6 : Int32))] [])) _
    refine XS.iloadN X0.here hx rfl (hb hby d25_0) rfl ?_
    refine XS.iloadN X0.here hx rfl (hb hby d25_1) rfl ?_
    refine XS.icmpNo X0.here hx rfl (hb hby d25_2) rfl (flt (by first | decide | rfl)).2.2.1 ?_
    refine XS.iloadN X0.here hx rfl (hb hby d25_5) rfl ?_
    refine XS.goto X0.here hx rfl (pc0 := 6) (pc' := 10) rfl (hb hby d25_6) (by decide) (by decide) ?_
    exact kz
  exact Goes.retI X0 hx Bd.notSynchronized Bd.returns (hb hby d25_10) (nb_ rfl) (nb_ rfl) ⟨rfl, N0, e0⟩
theorem d26_0 : decode jdk_43_method_23_code 0 = .ok (.iload_n 1, 1) := by decide +kernel
theorem d26_1 : decode jdk_43_method_23_code 1 = .ok (.i2b, 1) := by decide +kernel
theorem d26_2 : decode jdk_43_method_23_code 2 = .ok (.istore 4, 2) := by decide +kernel
theorem d26_4 : decode jdk_43_method_23_code 4 = .ok (.iload_n 2, 1) := by decide +kernel
theorem d26_5 : decode jdk_43_method_23_code 5 = .ok (.istore 5, 2) := by decide +kernel
theorem d26_7 : decode jdk_43_method_23_code 7 = .ok (.iload 5, 2) := by decide +kernel
theorem d26_9 : decode jdk_43_method_23_code 9 = .ok (.iload_n 3, 1) := by decide +kernel
theorem d26_10 : decode jdk_43_method_23_code 10 = .ok (.if_icmp .ge 21, 3) := by decide +kernel
theorem d26_13 : decode jdk_43_method_23_code 13 = .ok (.aload_n 0, 1) := by decide +kernel
theorem d26_14 : decode jdk_43_method_23_code 14 = .ok (.iload 5, 2) := by decide +kernel
theorem d26_16 : decode jdk_43_method_23_code 16 = .ok (.baload, 1) := by decide +kernel
theorem d26_17 : decode jdk_43_method_23_code 17 = .ok (.iload 4, 2) := by decide +kernel
theorem d26_19 : decode jdk_43_method_23_code 19 = .ok (.if_icmp .ne 6, 3) := by decide +kernel
theorem d26_25 : decode jdk_43_method_23_code 25 = .ok (.iinc 5 1, 3) := by decide +kernel
theorem d26_28 : decode jdk_43_method_23_code 28 = .ok (.goto (-21), 3) := by decide +kernel
theorem d26_31 : decode jdk_43_method_23_code 31 = .ok (.iconst (-1), 1) := by decide +kernel
theorem d26_32 : decode jdk_43_method_23_code 32 = .ok (.ireturn, 1) := by decide +kernel
theorem pn_26 : plainName "java/lang/StringLatin1" = true := by first | (simp [plainName, overriddenIn]; done) | decide +kernel
theorem ef_26 (m : MethodId) (x0 : Addr) (x1 : Int32) (x2 : Int32) (x3 : Int32) : entryFrame m #[(.ref x0), (.int x1), (.int x2), (.int x3)] 6 = mkF m 0 #[.val (.ref x0), .val (.int x1), .val (.int x2), .val (.int x3), .unset, .unset] [] := by first | (simp [entryFrame, mkF, argsToLocals, Value.category]; done) | rfl
def Q_ric (Z : State) (b : Addr) (x : Int32) (k : ClassId) (h0 : Heap) (n0 : Nat) : Option Value → Heap → List Loc → Prop := fun v h L => v = some (.int (-1 : Int32)) ∧ Fr n0 L ∧ h = h0
theorem ric (l : Launch) (Z : State) (a0 : Array Value) (hw : ∀ d ∈ tables_1, d.before a0 Z = true) (ws : List Jvm.Cond) (b : Addr) (x : Int32) (k : ClassId) (h0 : Heap) (n0 : Nat) (Z0 : n0 ≤ h0.size) (BV : Arv Z h0 b k .byte (6 : Int32) [.int (61 : Int32), .int (43 : Int32), .int (45 : Int32), .int (64 : Int32), .int (9 : Int32), .int (13 : Int32)] (.int 0)) (p0 : ¬ (61 : Int32) = x.toInt8.toInt32) (p1 : ¬ (43 : Int32) = x.toInt8.toInt32) (p2 : ¬ (45 : Int32) = x.toInt8.toInt32) (p3 : ¬ (64 : Int32) = x.toInt8.toInt32) (p4 : ¬ (9 : Int32) = x.toInt8.toInt32) (p5 : ¬ (13 : Int32) = x.toInt8.toInt32) :
    own_M l Z n_24 (Jvm.Cond.code n_24 jdk_43_method_23_code 6 (some .int)) ws ({ frames := 0, cells := 0, slots := 0, locals := 0 } : Room) #[(.ref b), (.int x), (.int (0 : Int32)), (.int (6 : Int32))] h0 (Q_ric Z b x k h0 n0) := by
  refine MetFree.of_bodySF (plainFor_of_name pn_26) hisR ?_
  intro p e s m args below meth c s₁ Bd hml0 hP hK
  obtain ⟨rfl, hZ, hh⟩ := hP
  have hx := Bd.exec
  have hby := Bd.bytes
  have hml : c.maxLocals = 6 := hml0
  have hown : s.vm.findClass "java/lang/StringLatin1" = some m.cls := findClass_of_methodNamed Bd.named
  have hnm := (name_of_methodNamed Bd.named Bd.method).1
  have X0 : Stand p l e ({ frames := 0, cells := 0, slots := 0, locals := 0 } : Room) s m #[(.ref b), (.int x), (.int (0 : Int32)), (.int (6 : Int32))] below meth c s₁ [] 0 0 := Stand.of_body Bd
  have e0 : s₁.heap = h0 := by rw [← hh, Bd.state]; rfl
  have N0 := Fr.nil n0
  show Goes p e below (Fin s (Q_ric Z b x k h0 n0) ({ frames := 0, cells := 0, slots := 0, locals := 0 } : Room).cells ({ frames := 0, cells := 0, slots := 0, locals := 0 } : Room).slots) _
  refine Goes.via (S' := s₁.setTop (mkF m 0 #[.val (.ref b), .val (.int x), .val (.int (0 : Int32)), .val (.int (6 : Int32)), .unset, .unset] [])) (fun tz kz => castTop (ef_26 m b x (0 : Int32) (6 : Int32) ) kz) ?_
  refine Goes.via (S' := s₁.setTop (mkF m 16 #[.val (.ref b), .val (.int x), .val (.int (0 : Int32)), .val (.int (6 : Int32)), .val (.int (x.toInt8.toInt32)), .val (.int (0 : Int32))] [(.int (0 : Int32)), (.ref b)])) (fun tz kz => ?_) ?_
  · show Steps p.tables e below (s₁.setTop (mkF m 0 #[.val (.ref b), .val (.int x), .val (.int (0 : Int32)), .val (.int (6 : Int32)), .unset, .unset] [])) _
    refine XS.iloadN X0.here hx rfl (hb hby d26_0) rfl ?_
    refine XS.i2b X0.here hx rfl (hb hby d26_1) rfl ?_
    refine XS.istore X0.here hx rfl (hb hby d26_2) rfl (l' := #[.val (.ref b), .val (.int x), .val (.int (0 : Int32)), .val (.int (6 : Int32)), .val (.int (x.toInt8.toInt32)), .unset]) rfl ?_
    refine XS.iloadN X0.here hx rfl (hb hby d26_4) rfl ?_
    refine XS.istore X0.here hx rfl (hb hby d26_5) rfl (l' := #[.val (.ref b), .val (.int x), .val (.int (0 : Int32)), .val (.int (6 : Int32)), .val (.int (x.toInt8.toInt32)), .val (.int (0 : Int32))]) rfl ?_
    refine XS.iload X0.here hx rfl (hb hby d26_7) rfl ?_
    refine XS.iloadN X0.here hx rfl (hb hby d26_9) rfl ?_
    refine XS.icmpNo X0.here hx rfl (hb hby d26_10) rfl (tlt (by first | decide | rfl)).2.1 ?_
    refine XS.aloadN X0.here hx rfl (hb hby d26_13) rfl rfl ?_
    refine XS.iload X0.here hx rfl (hb hby d26_14) rfl ?_
    exact kz
  obtain ⟨cl1, Ar1, q1, Sz1, Nn1, Hs1, G1⟩ := (id BV)
  refine Goes.via (S' := s₁.setTop (mkF m 16 #[.val (.ref b), .val (.int x), .val (.int (0 : Int32)), .val (.int (6 : Int32)), .val (.int (x.toInt8.toInt32)), .val (.int (1 : Int32))] [(.int (1 : Int32)), (.ref b)])) (fun tz kz => ?_) ?_
  · show Steps p.tables e below (s₁.setTop (mkF m 16 #[.val (.ref b), .val (.int x), .val (.int (0 : Int32)), .val (.int (6 : Int32)), .val (.int (x.toInt8.toInt32)), .val (.int (0 : Int32))] [(.int (0 : Int32)), (.ref b)])) _
    refine X0.baloadBytes hx (j := (0 : Int32)) (v := (.int (61 : Int32))) (by rw [e0]; exact Ar1.1) (State.isArrayOf_alike hZ.alike Ar1.2.1) Ar1.2.2 (inb_of Sz1 ⟨by decide, by decide⟩) (Has.at Hs1 (inb_of Sz1 ⟨by decide, by decide⟩) rfl) (g := (mkF m 16 #[.val (.ref b), .val (.int x), .val (.int (0 : Int32)), .val (.int (6 : Int32)), .val (.int (x.toInt8.toInt32)), .val (.int (0 : Int32))] [(.int (0 : Int32)), (.ref b)])) rfl rfl (hb hby d26_16) _ ?_
    refine XS.iload X0.here hx rfl (hb hby d26_17) rfl ?_
    refine XS.icmpYes X0.here hx rfl (pc0 := 19) (pc' := 25) rfl (hb hby d26_19) rfl (feq p0).2 (by decide) (by decide) ?_
    refine XS.iinc X0.here hx rfl (hb hby d26_25) rfl (l' := #[.val (.ref b), .val (.int x), .val (.int (0 : Int32)), .val (.int (6 : Int32)), .val (.int (x.toInt8.toInt32)), .val (.int (1 : Int32))]) rfl ?_
    refine XS.goto X0.here hx rfl (pc0 := 28) (pc' := 7) rfl (hb hby d26_28) (by decide) (by decide) ?_
    refine XS.iload X0.here hx rfl (hb hby d26_7) rfl ?_
    refine XS.iloadN X0.here hx rfl (hb hby d26_9) rfl ?_
    refine XS.icmpNo X0.here hx rfl (hb hby d26_10) rfl (tlt (by first | decide | rfl)).2.1 ?_
    refine XS.aloadN X0.here hx rfl (hb hby d26_13) rfl rfl ?_
    refine XS.iload X0.here hx rfl (hb hby d26_14) rfl ?_
    exact kz
  obtain ⟨cl2, Ar2, q2, Sz2, Nn2, Hs2, G2⟩ := (id BV)
  refine Goes.via (S' := s₁.setTop (mkF m 16 #[.val (.ref b), .val (.int x), .val (.int (0 : Int32)), .val (.int (6 : Int32)), .val (.int (x.toInt8.toInt32)), .val (.int (2 : Int32))] [(.int (2 : Int32)), (.ref b)])) (fun tz kz => ?_) ?_
  · show Steps p.tables e below (s₁.setTop (mkF m 16 #[.val (.ref b), .val (.int x), .val (.int (0 : Int32)), .val (.int (6 : Int32)), .val (.int (x.toInt8.toInt32)), .val (.int (1 : Int32))] [(.int (1 : Int32)), (.ref b)])) _
    refine X0.baloadBytes hx (j := (1 : Int32)) (v := (.int (43 : Int32))) (by rw [e0]; exact Ar2.1) (State.isArrayOf_alike hZ.alike Ar2.2.1) Ar2.2.2 (inb_of Sz2 ⟨by decide, by decide⟩) (Has.at Hs2 (inb_of Sz2 ⟨by decide, by decide⟩) rfl) (g := (mkF m 16 #[.val (.ref b), .val (.int x), .val (.int (0 : Int32)), .val (.int (6 : Int32)), .val (.int (x.toInt8.toInt32)), .val (.int (1 : Int32))] [(.int (1 : Int32)), (.ref b)])) rfl rfl (hb hby d26_16) _ ?_
    refine XS.iload X0.here hx rfl (hb hby d26_17) rfl ?_
    refine XS.icmpYes X0.here hx rfl (pc0 := 19) (pc' := 25) rfl (hb hby d26_19) rfl (feq p1).2 (by decide) (by decide) ?_
    refine XS.iinc X0.here hx rfl (hb hby d26_25) rfl (l' := #[.val (.ref b), .val (.int x), .val (.int (0 : Int32)), .val (.int (6 : Int32)), .val (.int (x.toInt8.toInt32)), .val (.int (2 : Int32))]) rfl ?_
    refine XS.goto X0.here hx rfl (pc0 := 28) (pc' := 7) rfl (hb hby d26_28) (by decide) (by decide) ?_
    refine XS.iload X0.here hx rfl (hb hby d26_7) rfl ?_
    refine XS.iloadN X0.here hx rfl (hb hby d26_9) rfl ?_
    refine XS.icmpNo X0.here hx rfl (hb hby d26_10) rfl (tlt (by first | decide | rfl)).2.1 ?_
    refine XS.aloadN X0.here hx rfl (hb hby d26_13) rfl rfl ?_
    refine XS.iload X0.here hx rfl (hb hby d26_14) rfl ?_
    exact kz
  obtain ⟨cl3, Ar3, q3, Sz3, Nn3, Hs3, G3⟩ := (id BV)
  refine Goes.via (S' := s₁.setTop (mkF m 16 #[.val (.ref b), .val (.int x), .val (.int (0 : Int32)), .val (.int (6 : Int32)), .val (.int (x.toInt8.toInt32)), .val (.int (3 : Int32))] [(.int (3 : Int32)), (.ref b)])) (fun tz kz => ?_) ?_
  · show Steps p.tables e below (s₁.setTop (mkF m 16 #[.val (.ref b), .val (.int x), .val (.int (0 : Int32)), .val (.int (6 : Int32)), .val (.int (x.toInt8.toInt32)), .val (.int (2 : Int32))] [(.int (2 : Int32)), (.ref b)])) _
    refine X0.baloadBytes hx (j := (2 : Int32)) (v := (.int (45 : Int32))) (by rw [e0]; exact Ar3.1) (State.isArrayOf_alike hZ.alike Ar3.2.1) Ar3.2.2 (inb_of Sz3 ⟨by decide, by decide⟩) (Has.at Hs3 (inb_of Sz3 ⟨by decide, by decide⟩) rfl) (g := (mkF m 16 #[.val (.ref b), .val (.int x), .val (.int (0 : Int32)), .val (.int (6 : Int32)), .val (.int (x.toInt8.toInt32)), .val (.int (2 : Int32))] [(.int (2 : Int32)), (.ref b)])) rfl rfl (hb hby d26_16) _ ?_
    refine XS.iload X0.here hx rfl (hb hby d26_17) rfl ?_
    refine XS.icmpYes X0.here hx rfl (pc0 := 19) (pc' := 25) rfl (hb hby d26_19) rfl (feq p2).2 (by decide) (by decide) ?_
    refine XS.iinc X0.here hx rfl (hb hby d26_25) rfl (l' := #[.val (.ref b), .val (.int x), .val (.int (0 : Int32)), .val (.int (6 : Int32)), .val (.int (x.toInt8.toInt32)), .val (.int (3 : Int32))]) rfl ?_
    refine XS.goto X0.here hx rfl (pc0 := 28) (pc' := 7) rfl (hb hby d26_28) (by decide) (by decide) ?_
    refine XS.iload X0.here hx rfl (hb hby d26_7) rfl ?_
    refine XS.iloadN X0.here hx rfl (hb hby d26_9) rfl ?_
    refine XS.icmpNo X0.here hx rfl (hb hby d26_10) rfl (tlt (by first | decide | rfl)).2.1 ?_
    refine XS.aloadN X0.here hx rfl (hb hby d26_13) rfl rfl ?_
    refine XS.iload X0.here hx rfl (hb hby d26_14) rfl ?_
    exact kz
  obtain ⟨cl4, Ar4, q4, Sz4, Nn4, Hs4, G4⟩ := (id BV)
  refine Goes.via (S' := s₁.setTop (mkF m 16 #[.val (.ref b), .val (.int x), .val (.int (0 : Int32)), .val (.int (6 : Int32)), .val (.int (x.toInt8.toInt32)), .val (.int (4 : Int32))] [(.int (4 : Int32)), (.ref b)])) (fun tz kz => ?_) ?_
  · show Steps p.tables e below (s₁.setTop (mkF m 16 #[.val (.ref b), .val (.int x), .val (.int (0 : Int32)), .val (.int (6 : Int32)), .val (.int (x.toInt8.toInt32)), .val (.int (3 : Int32))] [(.int (3 : Int32)), (.ref b)])) _
    refine X0.baloadBytes hx (j := (3 : Int32)) (v := (.int (64 : Int32))) (by rw [e0]; exact Ar4.1) (State.isArrayOf_alike hZ.alike Ar4.2.1) Ar4.2.2 (inb_of Sz4 ⟨by decide, by decide⟩) (Has.at Hs4 (inb_of Sz4 ⟨by decide, by decide⟩) rfl) (g := (mkF m 16 #[.val (.ref b), .val (.int x), .val (.int (0 : Int32)), .val (.int (6 : Int32)), .val (.int (x.toInt8.toInt32)), .val (.int (3 : Int32))] [(.int (3 : Int32)), (.ref b)])) rfl rfl (hb hby d26_16) _ ?_
    refine XS.iload X0.here hx rfl (hb hby d26_17) rfl ?_
    refine XS.icmpYes X0.here hx rfl (pc0 := 19) (pc' := 25) rfl (hb hby d26_19) rfl (feq p3).2 (by decide) (by decide) ?_
    refine XS.iinc X0.here hx rfl (hb hby d26_25) rfl (l' := #[.val (.ref b), .val (.int x), .val (.int (0 : Int32)), .val (.int (6 : Int32)), .val (.int (x.toInt8.toInt32)), .val (.int (4 : Int32))]) rfl ?_
    refine XS.goto X0.here hx rfl (pc0 := 28) (pc' := 7) rfl (hb hby d26_28) (by decide) (by decide) ?_
    refine XS.iload X0.here hx rfl (hb hby d26_7) rfl ?_
    refine XS.iloadN X0.here hx rfl (hb hby d26_9) rfl ?_
    refine XS.icmpNo X0.here hx rfl (hb hby d26_10) rfl (tlt (by first | decide | rfl)).2.1 ?_
    refine XS.aloadN X0.here hx rfl (hb hby d26_13) rfl rfl ?_
    refine XS.iload X0.here hx rfl (hb hby d26_14) rfl ?_
    exact kz
  obtain ⟨cl5, Ar5, q5, Sz5, Nn5, Hs5, G5⟩ := (id BV)
  refine Goes.via (S' := s₁.setTop (mkF m 16 #[.val (.ref b), .val (.int x), .val (.int (0 : Int32)), .val (.int (6 : Int32)), .val (.int (x.toInt8.toInt32)), .val (.int (5 : Int32))] [(.int (5 : Int32)), (.ref b)])) (fun tz kz => ?_) ?_
  · show Steps p.tables e below (s₁.setTop (mkF m 16 #[.val (.ref b), .val (.int x), .val (.int (0 : Int32)), .val (.int (6 : Int32)), .val (.int (x.toInt8.toInt32)), .val (.int (4 : Int32))] [(.int (4 : Int32)), (.ref b)])) _
    refine X0.baloadBytes hx (j := (4 : Int32)) (v := (.int (9 : Int32))) (by rw [e0]; exact Ar5.1) (State.isArrayOf_alike hZ.alike Ar5.2.1) Ar5.2.2 (inb_of Sz5 ⟨by decide, by decide⟩) (Has.at Hs5 (inb_of Sz5 ⟨by decide, by decide⟩) rfl) (g := (mkF m 16 #[.val (.ref b), .val (.int x), .val (.int (0 : Int32)), .val (.int (6 : Int32)), .val (.int (x.toInt8.toInt32)), .val (.int (4 : Int32))] [(.int (4 : Int32)), (.ref b)])) rfl rfl (hb hby d26_16) _ ?_
    refine XS.iload X0.here hx rfl (hb hby d26_17) rfl ?_
    refine XS.icmpYes X0.here hx rfl (pc0 := 19) (pc' := 25) rfl (hb hby d26_19) rfl (feq p4).2 (by decide) (by decide) ?_
    refine XS.iinc X0.here hx rfl (hb hby d26_25) rfl (l' := #[.val (.ref b), .val (.int x), .val (.int (0 : Int32)), .val (.int (6 : Int32)), .val (.int (x.toInt8.toInt32)), .val (.int (5 : Int32))]) rfl ?_
    refine XS.goto X0.here hx rfl (pc0 := 28) (pc' := 7) rfl (hb hby d26_28) (by decide) (by decide) ?_
    refine XS.iload X0.here hx rfl (hb hby d26_7) rfl ?_
    refine XS.iloadN X0.here hx rfl (hb hby d26_9) rfl ?_
    refine XS.icmpNo X0.here hx rfl (hb hby d26_10) rfl (tlt (by first | decide | rfl)).2.1 ?_
    refine XS.aloadN X0.here hx rfl (hb hby d26_13) rfl rfl ?_
    refine XS.iload X0.here hx rfl (hb hby d26_14) rfl ?_
    exact kz
  obtain ⟨cl6, Ar6, q6, Sz6, Nn6, Hs6, G6⟩ := (id BV)
  refine Goes.via (S' := s₁.setTop (mkF m 32 #[.val (.ref b), .val (.int x), .val (.int (0 : Int32)), .val (.int (6 : Int32)), .val (.int (x.toInt8.toInt32)), .val (.int (6 : Int32))] [(.int (-1 : Int32))])) (fun tz kz => ?_) ?_
  · show Steps p.tables e below (s₁.setTop (mkF m 16 #[.val (.ref b), .val (.int x), .val (.int (0 : Int32)), .val (.int (6 : Int32)), .val (.int (x.toInt8.toInt32)), .val (.int (5 : Int32))] [(.int (5 : Int32)), (.ref b)])) _
    refine X0.baloadBytes hx (j := (5 : Int32)) (v := (.int (13 : Int32))) (by rw [e0]; exact Ar6.1) (State.isArrayOf_alike hZ.alike Ar6.2.1) Ar6.2.2 (inb_of Sz6 ⟨by decide, by decide⟩) (Has.at Hs6 (inb_of Sz6 ⟨by decide, by decide⟩) rfl) (g := (mkF m 16 #[.val (.ref b), .val (.int x), .val (.int (0 : Int32)), .val (.int (6 : Int32)), .val (.int (x.toInt8.toInt32)), .val (.int (5 : Int32))] [(.int (5 : Int32)), (.ref b)])) rfl rfl (hb hby d26_16) _ ?_
    refine XS.iload X0.here hx rfl (hb hby d26_17) rfl ?_
    refine XS.icmpYes X0.here hx rfl (pc0 := 19) (pc' := 25) rfl (hb hby d26_19) rfl (feq p5).2 (by decide) (by decide) ?_
    refine XS.iinc X0.here hx rfl (hb hby d26_25) rfl (l' := #[.val (.ref b), .val (.int x), .val (.int (0 : Int32)), .val (.int (6 : Int32)), .val (.int (x.toInt8.toInt32)), .val (.int (6 : Int32))]) rfl ?_
    refine XS.goto X0.here hx rfl (pc0 := 28) (pc' := 7) rfl (hb hby d26_28) (by decide) (by decide) ?_
    refine XS.iload X0.here hx rfl (hb hby d26_7) rfl ?_
    refine XS.iloadN X0.here hx rfl (hb hby d26_9) rfl ?_
    refine XS.icmpYes X0.here hx rfl (pc0 := 10) (pc' := 31) rfl (hb hby d26_10) rfl (flt (by first | decide | rfl)).2.1 (by decide) (by decide) ?_
    refine XS.iconst X0.here hx rfl (hb hby d26_31) ?_
    exact kz
  exact Goes.retI X0 hx Bd.notSynchronized Bd.returns (hb hby d26_32) (nb_ rfl) (nb_ rfl) ⟨rfl, N0, e0⟩
theorem d22_0 : decode jdk_43_method_22_code 0 = .ok (.iload_n 1, 1) := by decide +kernel
theorem d22_1 : decode jdk_43_method_22_code 1 = .ok (.invokestatic 88, 3) := by decide +kernel
theorem d22_4 : decode jdk_43_method_22_code 4 = .ok (.ifCond .ne 5, 3) := by decide +kernel
theorem d22_7 : decode jdk_43_method_22_code 7 = .ok (.iconst (-1), 1) := by decide +kernel
theorem d22_8 : decode jdk_43_method_22_code 8 = .ok (.ireturn, 1) := by decide +kernel
theorem d22_9 : decode jdk_43_method_22_code 9 = .ok (.iload_n 2, 1) := by decide +kernel
theorem d22_10 : decode jdk_43_method_22_code 10 = .ok (.iconst 0, 1) := by decide +kernel
theorem d22_11 : decode jdk_43_method_22_code 11 = .ok (.invokestatic 92, 3) := by decide +kernel
theorem d22_14 : decode jdk_43_method_22_code 14 = .ok (.istore_n 2, 1) := by decide +kernel
theorem d22_15 : decode jdk_43_method_22_code 15 = .ok (.iload_n 3, 1) := by decide +kernel
theorem d22_16 : decode jdk_43_method_22_code 16 = .ok (.aload_n 0, 1) := by decide +kernel
theorem d22_17 : decode jdk_43_method_22_code 17 = .ok (.arraylength, 1) := by decide +kernel
theorem d22_18 : decode jdk_43_method_22_code 18 = .ok (.invokestatic 38, 3) := by decide +kernel
theorem d22_21 : decode jdk_43_method_22_code 21 = .ok (.istore_n 3, 1) := by decide +kernel
theorem d22_22 : decode jdk_43_method_22_code 22 = .ok (.iload_n 2, 1) := by decide +kernel
theorem d22_23 : decode jdk_43_method_22_code 23 = .ok (.iload_n 3, 1) := by decide +kernel
theorem d22_24 : decode jdk_43_method_22_code 24 = .ok (.if_icmp .lt 5, 3) := by decide +kernel
theorem d22_29 : decode jdk_43_method_22_code 29 = .ok (.aload_n 0, 1) := by decide +kernel
theorem d22_30 : decode jdk_43_method_22_code 30 = .ok (.iload_n 1, 1) := by decide +kernel
theorem d22_31 : decode jdk_43_method_22_code 31 = .ok (.iload_n 2, 1) := by decide +kernel
theorem d22_32 : decode jdk_43_method_22_code 32 = .ok (.iload_n 3, 1) := by decide +kernel
theorem d22_33 : decode jdk_43_method_22_code 33 = .ok (.invokestatic 95, 3) := by decide +kernel
theorem d22_36 : decode jdk_43_method_22_code 36 = .ok (.ireturn, 1) := by decide +kernel
theorem pn_22 : plainName "java/lang/StringLatin1" = true := by first | (simp [plainName, overriddenIn]; done) | decide +kernel
theorem ef_22 (m : MethodId) (x0 : Addr) (x1 : Int32) (x2 : Int32) (x3 : Int32) : entryFrame m #[(.ref x0), (.int x1), (.int x2), (.int x3)] 4 = mkF m 0 #[.val (.ref x0), .val (.int x1), .val (.int x2), .val (.int x3)] [] := by first | (simp [entryFrame, mkF, argsToLocals, Value.category]; done) | rfl
def Q_rio_y (Z : State) (b : Addr) (x : Int32) (k : ClassId) (h0 : Heap) (n0 : Nat) : Option Value → Heap → List Loc → Prop := fun v h L => v = some (.int (-1 : Int32)) ∧ Fr n0 L ∧ h = h0
theorem rio_y (l : Launch) (Z : State) (a0 : Array Value) (hw : ∀ d ∈ tables_1, d.before a0 Z = true) (ws : List Jvm.Cond) (b : Addr) (x : Int32) (k : ClassId) (h0 : Heap) (n0 : Nat) (Z0 : n0 ≤ h0.size) (BV : Arv Z h0 b k .byte (6 : Int32) [.int (61 : Int32), .int (43 : Int32), .int (45 : Int32), .int (64 : Int32), .int (9 : Int32), .int (13 : Int32)] (.int 0)) (q0 : ¬ x < (0 : Int32)) (q1 : ¬ (255 : Int32) < x) (p0 : ¬ (61 : Int32) = x.toInt8.toInt32) (p1 : ¬ (43 : Int32) = x.toInt8.toInt32) (p2 : ¬ (45 : Int32) = x.toInt8.toInt32) (p3 : ¬ (64 : Int32) = x.toInt8.toInt32) (p4 : ¬ (9 : Int32) = x.toInt8.toInt32) (p5 : ¬ (13 : Int32) = x.toInt8.toInt32) :
    own_M l Z n_25 (Jvm.Cond.code n_25 jdk_43_method_22_code 4 (some .int)) ws ({ frames := 1, cells := 0, slots := 0, locals := 20 } : Room) #[(.ref b), (.int x), (.int (0 : Int32)), (.int (6 : Int32))] h0 (Q_rio_y Z b x k h0 n0) := by
  refine MetFree.of_bodySF (plainFor_of_name pn_22) hisR ?_
  intro p e s m args below meth c s₁ Bd hml0 hP hK
  obtain ⟨rfl, hZ, hh⟩ := hP
  have hx := Bd.exec
  have hby := Bd.bytes
  have hml : c.maxLocals = 4 := hml0
  have hown : s.vm.findClass "java/lang/StringLatin1" = some m.cls := findClass_of_methodNamed Bd.named
  have hnm := (name_of_methodNamed Bd.named Bd.method).1
  have X0 : Stand p l e ({ frames := 1, cells := 0, slots := 0, locals := 20 } : Room) s m #[(.ref b), (.int x), (.int (0 : Int32)), (.int (6 : Int32))] below meth c s₁ [] 0 0 := Stand.of_body Bd
  have e0 : s₁.heap = h0 := by rw [← hh, Bd.state]; rfl
  have N0 := Fr.nil n0
  show Goes p e below (Fin s (Q_rio_y Z b x k h0 n0) ({ frames := 1, cells := 0, slots := 0, locals := 20 } : Room).cells ({ frames := 1, cells := 0, slots := 0, locals := 20 } : Room).slots) _
  refine Goes.via (S' := s₁.setTop (mkF m 0 #[.val (.ref b), .val (.int x), .val (.int (0 : Int32)), .val (.int (6 : Int32))] [])) (fun tz kz => castTop (ef_22 m b x (0 : Int32) (6 : Int32) ) kz) ?_
  refine Goes.via (S' := s₁.setTop (mkF m 1 #[.val (.ref b), .val (.int x), .val (.int (0 : Int32)), .val (.int (6 : Int32))] [(.int x)])) (fun tz kz => ?_) ?_
  · show Steps p.tables e below (s₁.setTop (mkF m 0 #[.val (.ref b), .val (.int x), .val (.int (0 : Int32)), .val (.int (6 : Int32))] [])) _
    refine XS.iloadN X0.here hx rfl (hb hby d22_0) rfl ?_
    exact kz
  obtain ⟨_, _, ⟨T1, L1, k1, n1⟩, -, X1, ⟨Lc1, hQ1, l1, y1, z1⟩, st1⟩ := Jvm.LawKit.callS X0 hx (y := n_21) hown (mvT hZ (w_ hw 101 rfl)) (mvT hZ (w_ hw 102 rfl)) (mvT hZ (w_ hw 68 rfl)) (mvT hZ (w_ hw 103 rfl)) (by decide) (backOf (W := 0) (rce_y l Z a0 hw [] x h0 n0 Z0 q0 q1) hZ (w_ hw 103 rfl) (w_ hw 68 rfl) (by decide) (by decide)) (g := (mkF m 1 #[.val (.ref b), .val (.int x), .val (.int (0 : Int32)), .val (.int (6 : Int32))] [(.int x)])) rfl (by rw [hml]; rfl) (argsL := [(.int x)]) (rest := []) (lenOf pd_14 rfl) rfl (by show 2 * 0 + _ ≤ _; exact Nat.le_of_eq rfl) (hb hby d22_1) (fun _ _ => ⟨rfl, e0, (by decide : 0 + 0 ≤ _), (by decide : 0 + 0 ≤ _)⟩)
  dsimp only [Pt.U, Pt.locs, Pt.cells, Pt.slots] at X1 l1 y1 z1 st1 hQ1
  subst l1 y1 z1
  obtain ⟨rfl, N1, e1⟩ := hQ1
  have Nf1 := Fr.app N0 N1
  refine Goes.via (st1) ?_
  refine Goes.via (S' := T1.setTop (mkF m 11 #[.val (.ref b), .val (.int x), .val (.int (0 : Int32)), .val (.int (6 : Int32))] [(.int (0 : Int32)), (.int (0 : Int32))])) (fun tz kz => ?_) ?_
  · show Steps p.tables e below (T1.setTop (mkF m 4 #[.val (.ref b), .val (.int x), .val (.int (0 : Int32)), .val (.int (6 : Int32))] [(.int (1 : Int32))])) _
    refine XS.ifYes X1.here hx rfl (pc0 := 4) (pc' := 9) rfl (hb hby d22_4) rfl ((if0 _ _).trans (feq (by first | decide | rfl)).2) (by decide) (by decide) ?_
    refine XS.iloadN X1.here hx rfl (hb hby d22_9) rfl ?_
    refine XS.iconst X1.here hx rfl (hb hby d22_10) ?_
    exact kz
  obtain ⟨_, _, ⟨T2, L2, k2, n2⟩, -, X2, ⟨Lc2, hQ2, l2, y2, z2⟩, st2⟩ := Jvm.LawKit.callS X1 hx (y := n_22) hown (mvT hZ (w_ hw 104 rfl)) (mvT hZ (w_ hw 105 rfl)) (mvT hZ (w_ hw 106 rfl)) (mvT hZ (w_ hw 107 rfl)) (by decide) (backOf (W := 0) (rmax0 l Z a0 hw [] h0 n0 Z0) hZ (w_ hw 107 rfl) (w_ hw 106 rfl) (by decide) (by decide)) (g := (mkF m 11 #[.val (.ref b), .val (.int x), .val (.int (0 : Int32)), .val (.int (6 : Int32))] [(.int (0 : Int32)), (.int (0 : Int32))])) rfl (by rw [hml]; rfl) (argsL := [(.int (0 : Int32)), (.int (0 : Int32))]) (rest := []) (lenOf pd_15 rfl) rfl (by show 2 * 0 + _ ≤ _; exact Nat.le_of_eq rfl) (hb hby d22_11) (fun _ _ => ⟨rfl, e1, (by decide : 0 + 0 ≤ _), (by decide : 0 + 0 ≤ _)⟩)
  dsimp only [Pt.U, Pt.locs, Pt.cells, Pt.slots] at X2 l2 y2 z2 st2 hQ2
  subst l2 y2 z2
  obtain ⟨rfl, N2, e2⟩ := hQ2
  have Nf2 := Fr.app Nf1 N2
  refine Goes.via (st2) ?_
  refine Goes.via (S' := T2.setTop (mkF m 17 #[.val (.ref b), .val (.int x), .val (.int (0 : Int32)), .val (.int (6 : Int32))] [(.ref b), (.int (6 : Int32))])) (fun tz kz => ?_) ?_
  · show Steps p.tables e below (T2.setTop (mkF m 14 #[.val (.ref b), .val (.int x), .val (.int (0 : Int32)), .val (.int (6 : Int32))] [(.int (0 : Int32))])) _
    refine XS.istoreN X2.here hx rfl (hb hby d22_14) rfl (l' := #[.val (.ref b), .val (.int x), .val (.int (0 : Int32)), .val (.int (6 : Int32))]) rfl ?_
    refine XS.iloadN X2.here hx rfl (hb hby d22_15) rfl ?_
    refine XS.aloadN X2.here hx rfl (hb hby d22_16) rfl rfl ?_
    exact kz
  obtain ⟨cl3, Ar3, q3, Sz3, Nn3, Hs3, G3⟩ := (id BV)
  refine Goes.via (S' := T2.setTop (mkF m 18 #[.val (.ref b), .val (.int x), .val (.int (0 : Int32)), .val (.int (6 : Int32))] [(.int (6 : Int32)), (.int (6 : Int32))])) (fun tz kz => ?_) ?_
  · show Steps p.tables e below (T2.setTop (mkF m 17 #[.val (.ref b), .val (.int x), .val (.int (0 : Int32)), .val (.int (6 : Int32))] [(.ref b), (.int (6 : Int32))])) _
    refine X2.arraylength hx (by rw [e2]; exact Ar3.1) (State.isArrayOf_alike hZ.alike Ar3.2.1) (g := (mkF m 17 #[.val (.ref b), .val (.int x), .val (.int (0 : Int32)), .val (.int (6 : Int32))] [(.ref b), (.int (6 : Int32))])) rfl rfl (hb hby d22_17) _ ?_
    rw [len_of Sz3 Nn3]
    exact kz
  obtain ⟨_, _, ⟨T4, L4, k4, n4⟩, -, X4, ⟨Lc4, hQ4, l4, y4, z4⟩, st4⟩ := Jvm.LawKit.callS X2 hx (y := n_23) hown (mvT hZ (w_ hw 108 rfl)) (mvT hZ (w_ hw 109 rfl)) (mvT hZ (w_ hw 106 rfl)) (mvT hZ (w_ hw 110 rfl)) (by decide) (backOf (W := 0) (rmin6 l Z a0 hw [] h0 n0 Z0) hZ (w_ hw 110 rfl) (w_ hw 106 rfl) (by decide) (by decide)) (g := (mkF m 18 #[.val (.ref b), .val (.int x), .val (.int (0 : Int32)), .val (.int (6 : Int32))] [(.int (6 : Int32)), (.int (6 : Int32))])) rfl (by rw [hml]; rfl) (argsL := [(.int (6 : Int32)), (.int (6 : Int32))]) (rest := []) (lenOf pd_15 rfl) rfl (by show 2 * 0 + _ ≤ _; exact Nat.le_of_eq rfl) (hb hby d22_18) (fun _ _ => ⟨rfl, e2, (by decide : 0 + 0 ≤ _), (by decide : 0 + 0 ≤ _)⟩)
  dsimp only [Pt.U, Pt.locs, Pt.cells, Pt.slots] at X4 l4 y4 z4 st4 hQ4
  subst l4 y4 z4
  obtain ⟨rfl, N4, e4⟩ := hQ4
  have Nf4 := Fr.app Nf2 N4
  refine Goes.via (st4) ?_
  refine Goes.via (S' := T4.setTop (mkF m 33 #[.val (.ref b), .val (.int x), .val (.int (0 : Int32)), .val (.int (6 : Int32))] [(.int (6 : Int32)), (.int (0 : Int32)), (.int x), (.ref b)])) (fun tz kz => ?_) ?_
  · show Steps p.tables e below (T4.setTop (mkF m 21 #[.val (.ref b), .val (.int x), .val (.int (0 : Int32)), .val (.int (6 : Int32))] [(.int (6 : Int32))])) _
    refine XS.istoreN X4.here hx rfl (hb hby d22_21) rfl (l' := #[.val (.ref b), .val (.int x), .val (.int (0 : Int32)), .val (.int (6 : Int32))]) rfl ?_
    refine XS.iloadN X4.here hx rfl (hb hby d22_22) rfl ?_
    refine XS.iloadN X4.here hx rfl (hb hby d22_23) rfl ?_
    refine XS.icmpYes X4.here hx rfl (pc0 := 24) (pc' := 29) rfl (hb hby d22_24) rfl (tlt (by first | decide | rfl)).1 (by decide) (by decide) ?_
    refine XS.aloadN X4.here hx rfl (hb hby d22_29) rfl rfl ?_
    refine XS.iloadN X4.here hx rfl (hb hby d22_30) rfl ?_
    refine XS.iloadN X4.here hx rfl (hb hby d22_31) rfl ?_
    refine XS.iloadN X4.here hx rfl (hb hby d22_32) rfl ?_
    exact kz
  obtain ⟨_, _, ⟨T5, L5, k5, n5⟩, -, X5, ⟨Lc5, hQ5, l5, y5, z5⟩, st5⟩ := Jvm.LawKit.callS X4 hx (y := n_24) hown (mvT hZ (w_ hw 111 rfl)) (mvT hZ (w_ hw 112 rfl)) (mvT hZ (w_ hw 68 rfl)) (mvT hZ (w_ hw 113 rfl)) (by decide) (backOf (W := 0) (ric l Z a0 hw [] b x k h0 n0 Z0 BV p0 p1 p2 p3 p4 p5) hZ (w_ hw 113 rfl) (w_ hw 68 rfl) (by decide) (by decide)) (g := (mkF m 33 #[.val (.ref b), .val (.int x), .val (.int (0 : Int32)), .val (.int (6 : Int32))] [(.int (6 : Int32)), (.int (0 : Int32)), (.int x), (.ref b)])) rfl (by rw [hml]; rfl) (argsL := [(.ref b), (.int x), (.int (0 : Int32)), (.int (6 : Int32))]) (rest := []) (lenOf pd_16 rfl) rfl (by show 2 * 0 + _ ≤ _; exact Nat.le_of_eq rfl) (hb hby d22_33) (fun _ _ => ⟨rfl, e4, (by decide : 0 + 0 ≤ _), (by decide : 0 + 0 ≤ _)⟩)
  dsimp only [Pt.U, Pt.locs, Pt.cells, Pt.slots] at X5 l5 y5 z5 st5 hQ5
  subst l5 y5 z5
  obtain ⟨rfl, N5, e5⟩ := hQ5
  have Nf5 := Fr.app Nf4 N5
  refine Goes.via (st5) ?_
  exact Goes.retI X5 hx Bd.notSynchronized Bd.returns (hb hby d22_36) (nb_ rfl) (nb_ rfl) ⟨rfl, Nf5, e5⟩
def Q_rio_n (Z : State) (b : Addr) (x : Int32) (k : ClassId) (h0 : Heap) (n0 : Nat) : Option Value → Heap → List Loc → Prop := fun v h L => v = some (.int (-1 : Int32)) ∧ Fr n0 L ∧ h = h0
theorem rio_n (l : Launch) (Z : State) (a0 : Array Value) (hw : ∀ d ∈ tables_1, d.before a0 Z = true) (ws : List Jvm.Cond) (b : Addr) (x : Int32) (k : ClassId) (h0 : Heap) (n0 : Nat) (Z0 : n0 ≤ h0.size) (BV : Arv Z h0 b k .byte (6 : Int32) [.int (61 : Int32), .int (43 : Int32), .int (45 : Int32), .int (64 : Int32), .int (9 : Int32), .int (13 : Int32)] (.int 0)) (q0 : ¬ x < (0 : Int32)) (q1 : (255 : Int32) < x) :
    own_M l Z n_25 (Jvm.Cond.code n_25 jdk_43_method_22_code 4 (some .int)) ws ({ frames := 1, cells := 0, slots := 0, locals := 20 } : Room) #[(.ref b), (.int x), (.int (0 : Int32)), (.int (6 : Int32))] h0 (Q_rio_n Z b x k h0 n0) := by
  refine MetFree.of_bodySF (plainFor_of_name pn_22) hisR ?_
  intro p e s m args below meth c s₁ Bd hml0 hP hK
  obtain ⟨rfl, hZ, hh⟩ := hP
  have hx := Bd.exec
  have hby := Bd.bytes
  have hml : c.maxLocals = 4 := hml0
  have hown : s.vm.findClass "java/lang/StringLatin1" = some m.cls := findClass_of_methodNamed Bd.named
  have hnm := (name_of_methodNamed Bd.named Bd.method).1
  have X0 : Stand p l e ({ frames := 1, cells := 0, slots := 0, locals := 20 } : Room) s m #[(.ref b), (.int x), (.int (0 : Int32)), (.int (6 : Int32))] below meth c s₁ [] 0 0 := Stand.of_body Bd
  have e0 : s₁.heap = h0 := by rw [← hh, Bd.state]; rfl
  have N0 := Fr.nil n0
  show Goes p e below (Fin s (Q_rio_n Z b x k h0 n0) ({ frames := 1, cells := 0, slots := 0, locals := 20 } : Room).cells ({ frames := 1, cells := 0, slots := 0, locals := 20 } : Room).slots) _
  refine Goes.via (S' := s₁.setTop (mkF m 0 #[.val (.ref b), .val (.int x), .val (.int (0 : Int32)), .val (.int (6 : Int32))] [])) (fun tz kz => castTop (ef_22 m b x (0 : Int32) (6 : Int32) ) kz) ?_
  refine Goes.via (S' := s₁.setTop (mkF m 1 #[.val (.ref b), .val (.int x), .val (.int (0 : Int32)), .val (.int (6 : Int32))] [(.int x)])) (fun tz kz => ?_) ?_
  · show Steps p.tables e below (s₁.setTop (mkF m 0 #[.val (.ref b), .val (.int x), .val (.int (0 : Int32)), .val (.int (6 : Int32))] [])) _
    refine XS.iloadN X0.here hx rfl (hb hby d22_0) rfl ?_
    exact kz
  obtain ⟨_, _, ⟨T1, L1, k1, n1⟩, -, X1, ⟨Lc1, hQ1, l1, y1, z1⟩, st1⟩ := Jvm.LawKit.callS X0 hx (y := n_21) hown (mvT hZ (w_ hw 101 rfl)) (mvT hZ (w_ hw 102 rfl)) (mvT hZ (w_ hw 68 rfl)) (mvT hZ (w_ hw 103 rfl)) (by decide) (backOf (W := 0) (rce_n l Z a0 hw [] x h0 n0 Z0 q0 q1) hZ (w_ hw 103 rfl) (w_ hw 68 rfl) (by decide) (by decide)) (g := (mkF m 1 #[.val (.ref b), .val (.int x), .val (.int (0 : Int32)), .val (.int (6 : Int32))] [(.int x)])) rfl (by rw [hml]; rfl) (argsL := [(.int x)]) (rest := []) (lenOf pd_14 rfl) rfl (by show 2 * 0 + _ ≤ _; exact Nat.le_of_eq rfl) (hb hby d22_1) (fun _ _ => ⟨rfl, e0, (by decide : 0 + 0 ≤ _), (by decide : 0 + 0 ≤ _)⟩)
  dsimp only [Pt.U, Pt.locs, Pt.cells, Pt.slots] at X1 l1 y1 z1 st1 hQ1
  subst l1 y1 z1
  obtain ⟨rfl, N1, e1⟩ := hQ1
  have Nf1 := Fr.app N0 N1
  refine Goes.via (st1) ?_
  refine Goes.via (S' := T1.setTop (mkF m 8 #[.val (.ref b), .val (.int x), .val (.int (0 : Int32)), .val (.int (6 : Int32))] [(.int (-1 : Int32))])) (fun tz kz => ?_) ?_
  · show Steps p.tables e below (T1.setTop (mkF m 4 #[.val (.ref b), .val (.int x), .val (.int (0 : Int32)), .val (.int (6 : Int32))] [(.int (0 : Int32))])) _
    refine XS.ifNo X1.here hx rfl (hb hby d22_4) rfl ((if0 _ _).trans (teq (by first | decide | rfl)).2) ?_
    refine XS.iconst X1.here hx rfl (hb hby d22_7) ?_
    exact kz
  exact Goes.retI X1 hx Bd.notSynchronized Bd.returns (hb hby d22_8) (nb_ rfl) (nb_ rfl) ⟨rfl, Nf1, e1⟩
theorem rio (l : Launch) (Z : State) (a0 : Array Value) (hw : ∀ d ∈ tables_1, d.before a0 Z = true) (ws : List Jvm.Cond) (b : Addr) (x : Int32) (k : ClassId) (h0 : Heap) (n0 : Nat) (Z0 : n0 ≤ h0.size) (BV : Arv Z h0 b k .byte (6 : Int32) [.int (61 : Int32), .int (43 : Int32), .int (45 : Int32), .int (64 : Int32), .int (9 : Int32), .int (13 : Int32)] (.int 0)) (hf : own_nf x) :
    MetFree l n_25 (head1 (Jvm.Cond.code n_25 jdk_43_method_22_code 4 (some .int) :: ws) ({ frames := 1, cells := 0, slots := 0, locals := 20 } : Room)) (fun a U => a = #[.ref b, .int x, .int (0 : Int32), .int (6 : Int32)] ∧ Z.Warmed39 U.vm ∧ U.heap = h0) (fun _ _ _ _ _ => True) (fun _ U oo U' => ∃ vv LL, oo = .returned vv ∧ (Q_rio_y Z b x k h0 n0) vv U'.heap LL ∧ FrameEnd U oo U' LL ({ frames := 1, cells := 0, slots := 0, locals := 20 } : Room).cells ({ frames := 1, cells := 0, slots := 0, locals := 20 } : Room).slots) := by
  obtain ⟨q0, q1 | ⟨q1, p0, p1, p2, p3, p4, p5⟩⟩ := hf
  · exact rio_n l Z a0 hw ws b x k h0 n0 Z0 BV q0 q1
  · exact rio_y l Z a0 hw ws b x k h0 n0 Z0 BV q0 q1 p0 p1 p2 p3 p4 p5
theorem d19_0 : decode jdk_42_method_80_code 0 = .ok (.aload_n 0, 1) := by decide +kernel
theorem d19_1 : decode jdk_42_method_80_code 1 = .ok (.invokevirtual 492, 3) := by decide +kernel
theorem d19_4 : decode jdk_42_method_80_code 4 = .ok (.ifCond .eq 19, 3) := by decide +kernel
theorem d19_7 : decode jdk_42_method_80_code 7 = .ok (.aload_n 0, 1) := by decide +kernel
theorem d19_8 : decode jdk_42_method_80_code 8 = .ok (.getfield 9, 3) := by decide +kernel
theorem d19_11 : decode jdk_42_method_80_code 11 = .ok (.iload_n 1, 1) := by decide +kernel
theorem d19_12 : decode jdk_42_method_80_code 12 = .ok (.iload_n 2, 1) := by decide +kernel
theorem d19_13 : decode jdk_42_method_80_code 13 = .ok (.aload_n 0, 1) := by decide +kernel
theorem d19_14 : decode jdk_42_method_80_code 14 = .ok (.invokevirtual 505, 3) := by decide +kernel
theorem d19_17 : decode jdk_42_method_80_code 17 = .ok (.invokestatic 637, 3) := by decide +kernel
theorem d19_20 : decode jdk_42_method_80_code 20 = .ok (.goto 16, 3) := by decide +kernel
theorem d19_36 : decode jdk_42_method_80_code 36 = .ok (.ireturn, 1) := by decide +kernel
theorem pn_19 : plainName "java/lang/String" = true := by first | (simp [plainName, overriddenIn]; done) | decide +kernel
theorem ef_19 (m : MethodId) (x0 : Addr) (x1 : Int32) (x2 : Int32) : entryFrame m #[(.ref x0), (.int x1), (.int x2)] 3 = mkF m 0 #[.val (.ref x0), .val (.int x1), .val (.int x2)] [] := by first | (simp [entryFrame, mkF, argsToLocals, Value.category]; done) | rfl
def Q_ri2 (Z : State) (a1 : Addr) (x : Int32) (b : Addr) (k : ClassId) (cs : Int32) (h0 : Heap) (n0 : Nat) : Option Value → Heap → List Loc → Prop := fun v h L => v = some (.int (-1 : Int32)) ∧ Fr n0 L ∧ h = h0
theorem ri2 (l : Launch) (Z : State) (a0 : Array Value) (hw : ∀ d ∈ tables_1, d.before a0 Z = true) (ws : List Jvm.Cond) (a1 : Addr) (x : Int32) (b : Addr) (k : ClassId) (cs : Int32) (h0 : Heap) (n0 : Nat) (Z0 : n0 ≤ h0.size) (SC : Sta Z Z.heap "java/lang/String" "COMPACT_STRINGS" "Z" (.int cs)) (hcs : ¬ cs = (0 : Int32)) (O0 : Old Z n0 h0) (S : own_Str Z h0 a1 b k (6 : Int32) [.int (61 : Int32), .int (43 : Int32), .int (45 : Int32), .int (64 : Int32), .int (9 : Int32), .int (13 : Int32)]) (hf : own_nf x) :
    own_M l Z n_26 (Jvm.Cond.code n_26 jdk_42_method_80_code 3 (some .int)) ws ({ frames := 2, cells := 0, slots := 0, locals := 36 } : Room) #[(.ref a1), (.int x), (.int (0 : Int32))] h0 (Q_ri2 Z a1 x b k cs h0 n0) := by
  refine MetFree.of_bodySF (plainFor_of_name pn_19) hisR ?_
  intro p e s m args below meth c s₁ Bd hml0 hP hK
  obtain ⟨rfl, hZ, hh⟩ := hP
  have hx := Bd.exec
  have hby := Bd.bytes
  have hml : c.maxLocals = 3 := hml0
  have hown : s.vm.findClass "java/lang/String" = some m.cls := findClass_of_methodNamed Bd.named
  have hnm := (name_of_methodNamed Bd.named Bd.method).1
  have X0 : Stand p l e ({ frames := 2, cells := 0, slots := 0, locals := 36 } : Room) s m #[(.ref a1), (.int x), (.int (0 : Int32))] below meth c s₁ [] 0 0 := Stand.of_body Bd
  have e0 : s₁.heap = h0 := by rw [← hh, Bd.state]; rfl
  have N0 := Fr.nil n0
  show Goes p e below (Fin s (Q_ri2 Z a1 x b k cs h0 n0) ({ frames := 2, cells := 0, slots := 0, locals := 36 } : Room).cells ({ frames := 2, cells := 0, slots := 0, locals := 36 } : Room).slots) _
  refine Goes.via (S' := s₁.setTop (mkF m 0 #[.val (.ref a1), .val (.int x), .val (.int (0 : Int32))] [])) (fun tz kz => castTop (ef_19 m a1 x (0 : Int32) ) kz) ?_
  refine Goes.via (S' := s₁.setTop (mkF m 1 #[.val (.ref a1), .val (.int x), .val (.int (0 : Int32))] [(.ref a1)])) (fun tz kz => ?_) ?_
  · show Steps p.tables e below (s₁.setTop (mkF m 0 #[.val (.ref a1), .val (.int x), .val (.int (0 : Int32))] [])) _
    refine XS.aloadN X0.here hx rfl (hb hby d19_0) rfl rfl ?_
    exact kz
  obtain ⟨cq1, kq1, q1a, q1b, q1c⟩ := isOf hZ e0 S.1
  obtain ⟨_, _, ⟨T1, L1, k1, n1⟩, -, X1, ⟨Lc1, hQ1, l1, y1, z1⟩, st1⟩ := X0.virtualBack hx (y := n_12) (z := n_12) hown (mvT hZ (w_ hw 61 rfl)) (mvT hZ (w_ hw 62 rfl)) (notFace_of_selects (args := #[]) (mvT hZ (w_ hw 64 rfl))) (mvT hZ (w_ hw 64 rfl)) (mvT hZ (w_ hw 63 rfl)) (by decide) (backOf (W := 0) (ril_0 l Z a0 hw [] a1 cs h0 n0 Z0 SC hcs O0 S.2.1) hZ (w_ hw 65 rfl) (w_ hw 13 rfl) (by decide) (by decide)) q1a q1c (g := (mkF m 1 #[.val (.ref a1), .val (.int x), .val (.int (0 : Int32))] [(.ref a1)])) rfl (by rw [hml]; rfl) (Steps.refl _) (argsL := []) (rest := []) (lenOf pd_11 rfl) rfl (by show 2 * 0 + _ ≤ _; exact Nat.le_of_eq rfl) (hb hby d19_1) (fun _ _ => ⟨rfl, e0, (by decide : 0 + 0 ≤ _), (by decide : 0 + 0 ≤ _)⟩)
  dsimp only [Pt.U, Pt.locs, Pt.cells, Pt.slots] at X1 l1 y1 z1 st1 hQ1
  subst l1 y1 z1
  obtain ⟨rfl, N1, e1⟩ := hQ1
  have Nf1 := Fr.app N0 N1
  refine Goes.via (fun _ kz => st1.trans kz) ?_
  refine Goes.via (S' := T1.setTop (mkF m 8 #[.val (.ref a1), .val (.int x), .val (.int (0 : Int32))] [(.ref a1)])) (fun tz kz => ?_) ?_
  · show Steps p.tables e below (T1.setTop (mkF m 4 #[.val (.ref a1), .val (.int x), .val (.int (0 : Int32))] [(.int (1 : Int32))])) _
    refine XS.ifNo X1.here hx rfl (hb hby d19_4) rfl ((if0 _ _).trans (feq (by first | decide | rfl)).1) ?_
    refine XS.aloadN X1.here hx rfl (hb hby d19_7) rfl rfl ?_
    exact kz
  obtain ⟨T2, X2, e2, st2⟩ := getF X1 hx hZ hown (host := "") (Or.inl (w_ hw 39 rfl)) Via.refl e1 S.2.2.1 (g := (mkF m 8 #[.val (.ref a1), .val (.int x), .val (.int (0 : Int32))] [(.ref a1)])) rfl rfl (hb hby d19_8)
  refine Goes.via st2 ?_
  refine Goes.via (S' := T2.setTop (mkF m 14 #[.val (.ref a1), .val (.int x), .val (.int (0 : Int32))] [(.ref a1), (.int (0 : Int32)), (.int x), (.ref b)])) (fun tz kz => ?_) ?_
  · show Steps p.tables e below (T2.setTop (mkF m 11 #[.val (.ref a1), .val (.int x), .val (.int (0 : Int32))] [(.ref b)])) _
    refine XS.iloadN X2.here hx rfl (hb hby d19_11) rfl ?_
    refine XS.iloadN X2.here hx rfl (hb hby d19_12) rfl ?_
    refine XS.aloadN X2.here hx rfl (hb hby d19_13) rfl rfl ?_
    exact kz
  obtain ⟨cq3, kq3, q3a, q3b, q3c⟩ := isOf hZ e2 S.1
  obtain ⟨_, _, ⟨T3, L3, k3, n3⟩, -, X3, ⟨Lc3, hQ3, l3, y3, z3⟩, st3⟩ := X2.virtualBack hx (y := n_13) (z := n_13) hown (mvT hZ (w_ hw 88 rfl)) (mvT hZ (w_ hw 89 rfl)) (notFace_of_selects (args := #[]) (mvT hZ (w_ hw 91 rfl))) (mvT hZ (w_ hw 91 rfl)) (mvT hZ (w_ hw 90 rfl)) (by decide) (backOf (W := 3) (rlen l Z a0 hw [] a1 b k cs (0 : Int32) (6 : Int32) (6 : Int32) _ h0 n0 Z0 SC hcs O0 S.1 S.2.1 S.2.2.1 S.2.2.2 rfl rfl) hZ (w_ hw 92 rfl) (w_ hw 13 rfl) (by decide) (by decide)) q3a q3c (g := (mkF m 14 #[.val (.ref a1), .val (.int x), .val (.int (0 : Int32))] [(.ref a1), (.int (0 : Int32)), (.int x), (.ref b)])) rfl (by rw [hml]; rfl) (Steps.refl _) (argsL := []) (rest := [(.int (0 : Int32)), (.int x), (.ref b)]) (lenOf pd_17 rfl) rfl (by show 2 * 0 + _ ≤ _; exact Nat.le_of_eq rfl) (hb hby d19_14) (fun _ _ => ⟨rfl, e2, (by decide : 0 + 0 ≤ _), (by decide : 0 + 0 ≤ _)⟩)
  dsimp only [Pt.U, Pt.locs, Pt.cells, Pt.slots] at X3 l3 y3 z3 st3 hQ3
  subst l3 y3 z3
  obtain ⟨rfl, N3, e3⟩ := hQ3
  have Nf3 := Fr.app Nf1 N3
  refine Goes.via (fun _ kz => st3.trans kz) ?_
  obtain ⟨_, _, ⟨T4, L4, k4, n4⟩, -, X4, ⟨Lc4, hQ4, l4, y4, z4⟩, st4⟩ := Jvm.LawKit.callS X3 hx (y := n_25) hown (mvT hZ (w_ hw 98 rfl)) (mvT hZ (w_ hw 99 rfl)) (mvT hZ (w_ hw 68 rfl)) (mvT hZ (w_ hw 100 rfl)) (by decide) (backOf (W := 0) (rio l Z a0 hw [] b x k h0 n0 Z0 S.2.2.2 hf) hZ (w_ hw 100 rfl) (w_ hw 68 rfl) (by decide) (by decide)) (g := (mkF m 17 #[.val (.ref a1), .val (.int x), .val (.int (0 : Int32))] [(.int (6 : Int32)), (.int (0 : Int32)), (.int x), (.ref b)])) rfl (by rw [hml]; rfl) (argsL := [(.ref b), (.int x), (.int (0 : Int32)), (.int (6 : Int32))]) (rest := []) (lenOf pd_16 rfl) rfl (by show 2 * 0 + _ ≤ _; exact Nat.le_of_eq rfl) (hb hby d19_17) (fun _ _ => ⟨rfl, e3, (by decide : 0 + 0 ≤ _), (by decide : 0 + 0 ≤ _)⟩)
  dsimp only [Pt.U, Pt.locs, Pt.cells, Pt.slots] at X4 l4 y4 z4 st4 hQ4
  subst l4 y4 z4
  obtain ⟨rfl, N4, e4⟩ := hQ4
  have Nf4 := Fr.app Nf3 N4
  refine Goes.via (st4) ?_
  refine Goes.via (S' := T4.setTop (mkF m 36 #[.val (.ref a1), .val (.int x), .val (.int (0 : Int32))] [(.int (-1 : Int32))])) (fun tz kz => ?_) ?_
  · show Steps p.tables e below (T4.setTop (mkF m 20 #[.val (.ref a1), .val (.int x), .val (.int (0 : Int32))] [(.int (-1 : Int32))])) _
    refine XS.goto X4.here hx rfl (pc0 := 20) (pc' := 36) rfl (hb hby d19_20) (by decide) (by decide) ?_
    exact kz
  exact Goes.retI X4 hx Bd.notSynchronized Bd.returns (hb hby d19_36) (nb_ rfl) (nb_ rfl) ⟨rfl, Nf4, e4⟩
theorem d18_0 : decode jdk_42_method_79_code 0 = .ok (.aload_n 0, 1) := by decide +kernel
theorem d18_1 : decode jdk_42_method_79_code 1 = .ok (.iload_n 1, 1) := by decide +kernel
theorem d18_2 : decode jdk_42_method_79_code 2 = .ok (.iconst 0, 1) := by decide +kernel
theorem d18_3 : decode jdk_42_method_79_code 3 = .ok (.invokevirtual 633, 3) := by decide +kernel
theorem d18_6 : decode jdk_42_method_79_code 6 = .ok (.ireturn, 1) := by decide +kernel
theorem pn_18 : plainName "java/lang/String" = true := by first | (simp [plainName, overriddenIn]; done) | decide +kernel
theorem ef_18 (m : MethodId) (x0 : Addr) (x1 : Int32) : entryFrame m #[(.ref x0), (.int x1)] 2 = mkF m 0 #[.val (.ref x0), .val (.int x1)] [] := by first | (simp [entryFrame, mkF, argsToLocals, Value.category]; done) | rfl
def Q_ri1 (Z : State) (a1 : Addr) (x : Int32) (b : Addr) (k : ClassId) (cs : Int32) (h0 : Heap) (n0 : Nat) : Option Value → Heap → List Loc → Prop := fun v h L => v = some (.int (-1 : Int32)) ∧ Fr n0 L ∧ h = h0
theorem ri1 (l : Launch) (Z : State) (a0 : Array Value) (hw : ∀ d ∈ tables_1, d.before a0 Z = true) (ws : List Jvm.Cond) (a1 : Addr) (x : Int32) (b : Addr) (k : ClassId) (cs : Int32) (h0 : Heap) (n0 : Nat) (Z0 : n0 ≤ h0.size) (SC : Sta Z Z.heap "java/lang/String" "COMPACT_STRINGS" "Z" (.int cs)) (hcs : ¬ cs = (0 : Int32)) (O0 : Old Z n0 h0) (S : own_Str Z h0 a1 b k (6 : Int32) [.int (61 : Int32), .int (43 : Int32), .int (45 : Int32), .int (64 : Int32), .int (9 : Int32), .int (13 : Int32)]) (hf : own_nf x) :
    own_M l Z n_27 (Jvm.Cond.code n_27 jdk_42_method_79_code 2 (some .int)) ws ({ frames := 3, cells := 0, slots := 0, locals := 52 } : Room) #[(.ref a1), (.int x)] h0 (Q_ri1 Z a1 x b k cs h0 n0) := by
  refine MetFree.of_bodySF (plainFor_of_name pn_18) hisR ?_
  intro p e s m args below meth c s₁ Bd hml0 hP hK
  obtain ⟨rfl, hZ, hh⟩ := hP
  have hx := Bd.exec
  have hby := Bd.bytes
  have hml : c.maxLocals = 2 := hml0
  have hown : s.vm.findClass "java/lang/String" = some m.cls := findClass_of_methodNamed Bd.named
  have hnm := (name_of_methodNamed Bd.named Bd.method).1
  have X0 : Stand p l e ({ frames := 3, cells := 0, slots := 0, locals := 52 } : Room) s m #[(.ref a1), (.int x)] below meth c s₁ [] 0 0 := Stand.of_body Bd
  have e0 : s₁.heap = h0 := by rw [← hh, Bd.state]; rfl
  have N0 := Fr.nil n0
  show Goes p e below (Fin s (Q_ri1 Z a1 x b k cs h0 n0) ({ frames := 3, cells := 0, slots := 0, locals := 52 } : Room).cells ({ frames := 3, cells := 0, slots := 0, locals := 52 } : Room).slots) _
  refine Goes.via (S' := s₁.setTop (mkF m 0 #[.val (.ref a1), .val (.int x)] [])) (fun tz kz => castTop (ef_18 m a1 x ) kz) ?_
  refine Goes.via (S' := s₁.setTop (mkF m 3 #[.val (.ref a1), .val (.int x)] [(.int (0 : Int32)), (.int x), (.ref a1)])) (fun tz kz => ?_) ?_
  · show Steps p.tables e below (s₁.setTop (mkF m 0 #[.val (.ref a1), .val (.int x)] [])) _
    refine XS.aloadN X0.here hx rfl (hb hby d18_0) rfl rfl ?_
    refine XS.iloadN X0.here hx rfl (hb hby d18_1) rfl ?_
    refine XS.iconst X0.here hx rfl (hb hby d18_2) ?_
    exact kz
  obtain ⟨cq1, kq1, q1a, q1b, q1c⟩ := isOf hZ e0 S.1
  obtain ⟨_, _, ⟨T1, L1, k1, n1⟩, -, X1, ⟨Lc1, hQ1, l1, y1, z1⟩, st1⟩ := X0.virtualBack hx (y := n_26) (z := n_26) hown (mvT hZ (w_ hw 83 rfl)) (mvT hZ (w_ hw 84 rfl)) (notFace_of_selects (args := #[]) (mvT hZ (w_ hw 86 rfl))) (mvT hZ (w_ hw 86 rfl)) (mvT hZ (w_ hw 85 rfl)) (by decide) (backOf (W := 0) (ri2 l Z a0 hw [] a1 x b k cs h0 n0 Z0 SC hcs O0 S hf) hZ (w_ hw 87 rfl) (w_ hw 13 rfl) (by decide) (by decide)) q1a q1c (g := (mkF m 3 #[.val (.ref a1), .val (.int x)] [(.int (0 : Int32)), (.int x), (.ref a1)])) rfl (by rw [hml]; rfl) (Steps.refl _) (argsL := [(.int x), (.int (0 : Int32))]) (rest := []) (lenOf pd_15 rfl) rfl (by show 2 * 0 + _ ≤ _; exact Nat.le_of_eq rfl) (hb hby d18_3) (fun _ _ => ⟨rfl, e0, (by decide : 0 + 0 ≤ _), (by decide : 0 + 0 ≤ _)⟩)
  dsimp only [Pt.U, Pt.locs, Pt.cells, Pt.slots] at X1 l1 y1 z1 st1 hQ1
  subst l1 y1 z1
  obtain ⟨rfl, N1, e1⟩ := hQ1
  have Nf1 := Fr.app N0 N1
  refine Goes.via (fun _ kz => st1.trans kz) ?_
  exact Goes.retI X1 hx Bd.notSynchronized Bd.returns (hb hby d18_6) (nb_ rfl) (nb_ rfl) ⟨rfl, Nf1, e1⟩
theorem d29_0 : decode jdk_42_method_66_code 0 = .ok (.aload_n 0, 1) := by decide +kernel
theorem d29_1 : decode jdk_42_method_66_code 1 = .ok (.aload_n 1, 1) := by decide +kernel
theorem d29_2 : decode jdk_42_method_66_code 2 = .ok (.if_acmp .ne 5, 3) := by decide +kernel
theorem d29_5 : decode jdk_42_method_66_code 5 = .ok (.iconst 1, 1) := by decide +kernel
theorem d29_6 : decode jdk_42_method_66_code 6 = .ok (.ireturn, 1) := by decide +kernel
theorem pn_29 : plainName "java/lang/String" = true := by first | (simp [plainName, overriddenIn]; done) | decide +kernel
theorem ef_29 (m : MethodId) (x0 : Addr) (x1 : Addr) : entryFrame m #[(.ref x0), (.ref x1)] 3 = mkF m 0 #[.val (.ref x0), .val (.ref x1), .unset] [] := by first | (simp [entryFrame, mkF, argsToLocals, Value.category]; done) | rfl
def Q_rsame (Z : State)  (a1 : Addr) (h0 : Heap) (n0 : Nat) : Option Value → Heap → List Loc → Prop := fun v h L => v = some (.int (1 : Int32)) ∧ Fr n0 L ∧ h = h0
theorem rsame (l : Launch) (Z : State) (a0 : Array Value) (hw : ∀ d ∈ tables_1, d.before a0 Z = true) (ws : List Jvm.Cond)  (a1 : Addr) (h0 : Heap) (n0 : Nat) (Z0 : n0 ≤ h0.size) :
    own_M l Z n_28 (Jvm.Cond.code n_28 jdk_42_method_66_code 3 (some .boolean)) ws ({ frames := 0, cells := 0, slots := 0, locals := 0 } : Room) #[(.ref (a1)), (.ref (a1))] h0 (Q_rsame Z a1 h0 n0) := by
  refine MetFree.of_bodySF (plainFor_of_name pn_29) hisR ?_
  intro p e s m args below meth c s₁ Bd hml0 hP hK
  obtain ⟨rfl, hZ, hh⟩ := hP
  have hx := Bd.exec
  have hby := Bd.bytes
  have hml : c.maxLocals = 3 := hml0
  have hown : s.vm.findClass "java/lang/String" = some m.cls := findClass_of_methodNamed Bd.named
  have hnm := (name_of_methodNamed Bd.named Bd.method).1
  have X0 : Stand p l e ({ frames := 0, cells := 0, slots := 0, locals := 0 } : Room) s m #[(.ref (a1)), (.ref (a1))] below meth c s₁ [] 0 0 := Stand.of_body Bd
  have e0 : s₁.heap = h0 := by rw [← hh, Bd.state]; rfl
  have N0 := Fr.nil n0
  show Goes p e below (Fin s (Q_rsame Z a1 h0 n0) ({ frames := 0, cells := 0, slots := 0, locals := 0 } : Room).cells ({ frames := 0, cells := 0, slots := 0, locals := 0 } : Room).slots) _
  refine Goes.via (S' := s₁.setTop (mkF m 0 #[.val (.ref (a1)), .val (.ref (a1)), .unset] [])) (fun tz kz => castTop (ef_29 m (a1) (a1) ) kz) ?_
  refine Goes.via (S' := s₁.setTop (mkF m 6 #[.val (.ref (a1)), .val (.ref (a1)), .unset] [(.int (1 : Int32))])) (fun tz kz => ?_) ?_
  · show Steps p.tables e below (s₁.setTop (mkF m 0 #[.val (.ref (a1)), .val (.ref (a1)), .unset] [])) _
    refine XS.aloadN X0.here hx rfl (hb hby d29_0) rfl rfl ?_
    refine XS.aloadN X0.here hx rfl (hb hby d29_1) rfl rfl ?_
    refine Jvm.RoadKit.acmp (g := (mkF m 2 #[.val (.ref (a1)), .val (.ref (a1)), .unset] [(.ref (a1)), (.ref (a1))])) X0 hx rfl rfl rfl (pc0 := 2) (pc' := 5) (same := true) rfl (hb hby d29_2) rfl (decide_eq_true rfl) (by decide) (by decide) ?_
    refine XS.iconst X0.here hx rfl (hb hby d29_5) ?_
    exact kz
  exact Goes.retN X0 hx Bd.notSynchronized (t := .boolean) Bd.returns (by simp) (hb hby d29_6) (nb_ rfl) (nb_ rfl) ⟨rfl, N0, e0⟩
theorem d12_0 : decode prog_10_method_4_code 0 = .ok (.aload_n 0, 1) := by decide +kernel
theorem d12_1 : decode prog_10_method_4_code 1 = .ok (.invokevirtual 140, 3) := by decide +kernel
theorem d12_4 : decode prog_10_method_4_code 4 = .ok (.ifCond .ne 37, 3) := by decide +kernel
theorem d12_7 : decode prog_10_method_4_code 7 = .ok (.ldc 143, 2) := by decide +kernel
theorem d12_9 : decode prog_10_method_4_code 9 = .ok (.aload_n 0, 1) := by decide +kernel
theorem d12_10 : decode prog_10_method_4_code 10 = .ok (.iconst 0, 1) := by decide +kernel
theorem d12_11 : decode prog_10_method_4_code 11 = .ok (.invokevirtual 145, 3) := by decide +kernel
theorem d12_14 : decode prog_10_method_4_code 14 = .ok (.invokevirtual 149, 3) := by decide +kernel
theorem d12_17 : decode prog_10_method_4_code 17 = .ok (.ifCond .lt 24, 3) := by decide +kernel
theorem d12_41 : decode prog_10_method_4_code 41 = .ok (.aload_n 0, 1) := by decide +kernel
theorem d12_42 : decode prog_10_method_4_code 42 = .ok (.areturn, 1) := by decide +kernel
theorem pn_12 : plainName "com/example/vestline/vestline/format/Csv" = true := by first | (simp [plainName, overriddenIn]; done) | decide +kernel
theorem ef_12 (m : MethodId) (x0 : Addr) : entryFrame m #[(.ref x0)] 1 = mkF m 0 #[.val (.ref x0)] [] := by first | (simp [entryFrame, mkF, argsToLocals, Value.category]; done) | rfl
def Q_rpr_L (Z : State) (a1 : Addr) (b : Addr) (k : ClassId) (cs : Int32) (n x : Int32) (fv : Value) (vs : List Value) (h0 : Heap) (n0 : Nat) : Option Value → Heap → List Loc → Prop := fun v h L => v = some (.ref a1) ∧ Fr n0 L ∧ Keep h0 h []
theorem rpr_L (l : Launch) (Z : State) (a0 : Array Value) (hw : ∀ d ∈ tables_1, d.before a0 Z = true) (ws : List Jvm.Cond) (a1 : Addr) (b : Addr) (k : ClassId) (cs : Int32) (n x : Int32) (fv : Value) (vs : List Value) (h0 : Heap) (n0 : Nat) (Z0 : n0 ≤ h0.size) (SC : Sta Z Z.heap "java/lang/String" "COMPACT_STRINGS" "Z" (.int cs)) (hcs : ¬ cs = (0 : Int32)) (O0 : Old Z n0 h0) (SF : Sta Z Z.heap "jdk/internal/util/Preconditions" "SIOOBE_FORMATTER" "Ljava/util/function/BiFunction;" fv) (hfv : fv.isRef = true) (S : own_Str Z h0 a1 b k n vs) (zx : nar .char x = x) (hf : own_nf x) (q : ¬ (0 : Int32) < (0 : Int32) ∧ (0 : Int32) < n) (g : vs.getD (0 : Int32).toNatClampNeg (.int 0) = .int (own_by x)) (sx : ¬ (255 : Int32) < x) (hz : ¬ n = (0 : Int32)) :
    MetFree l n_29 (head1 (Jvm.Cond.code n_29 prog_10_method_4_code 1 (some (.object "java/lang/String")) :: ws) ({ frames := 5, cells := 2, slots := 28, locals := 90 } : Room)) (fun a U => a = #[(.ref a1)] ∧ Z.Warmed39 U.vm ∧ U.heap = h0 ∧ CHv Z consts_1 U.vm h0) (fun _ _ _ _ _ => True) (fun _ U oo U' => ∃ vv LL, oo = .returned vv ∧ (Q_rpr_L Z a1 b k cs n x fv vs h0 n0) vv U'.heap LL ∧ CHr Z consts_1 U.vm U.heap U'.vm U'.heap ∧ ReturnedEndW U oo U' LL ({ frames := 5, cells := 2, slots := 28, locals := 90 } : Room).cells ({ frames := 5, cells := 2, slots := 28, locals := 90 } : Room).slots) := by
  refine MetFree.of_bodySF (plainFor_of_name pn_12) hisR ?_
  intro p e s m args below meth c s₁ Bd hml0 hP hK
  obtain ⟨rfl, hZ, hh, hH⟩ := hP
  have hx := Bd.exec
  have hby := Bd.bytes
  have hml : c.maxLocals = 1 := hml0
  have hown : s.vm.findClass "com/example/vestline/vestline/format/Csv" = some m.cls := findClass_of_methodNamed Bd.named
  have hnm := (name_of_methodNamed Bd.named Bd.method).1
  have X0 : Stand p l e ({ frames := 5, cells := 2, slots := 28, locals := 90 } : Room) s m #[(.ref a1)] below meth c s₁ [] 0 0 := Stand.of_body Bd
  have e0 : s₁.heap = h0 := by rw [← hh, Bd.state]; rfl
  have N0 := Fr.nil n0
  have hC0 : CHr Z consts_1 s.vm s.heap s.vm h0 := by rw [hh]; exact CHr.refl hH
  have hEL := own_EW hw
  have wS : ∀ d ∈ Bundle.stringAtoms, d.before a0 Z = true := by
    intro d hd
    simp only [Bundle.stringAtoms, List.mem_cons, List.not_mem_nil, or_false] at hd
    rcases hd with rfl | rfl | rfl | rfl | rfl | rfl | rfl
    · exact (w_ hw 13 rfl)
    · exact (w_ hw 12 rfl)
    · exact (w_ hw 30 rfl)
    · exact (w_ hw 40 rfl)
    · exact (w_ hw 38 rfl)
    · exact (w_ hw 54 rfl)
    · exact (w_ hw 55 rfl)
  show Goes p e below (FinH s Z consts_1 (Q_rpr_L Z a1 b k cs n x fv vs h0 n0) ({ frames := 5, cells := 2, slots := 28, locals := 90 } : Room).cells ({ frames := 5, cells := 2, slots := 28, locals := 90 } : Room).slots) _
  refine Goes.via (S' := s₁.setTop (mkF m 0 #[.val (.ref a1)] [])) (fun tz kz => castTop (ef_12 m a1 ) kz) ?_
  refine Goes.via (S' := s₁.setTop (mkF m 1 #[.val (.ref a1)] [(.ref a1)])) (fun tz kz => ?_) ?_
  · show Steps p.tables e below (s₁.setTop (mkF m 0 #[.val (.ref a1)] [])) _
    refine XS.aloadN X0.here hx rfl (hb hby d12_0) rfl rfl ?_
    exact kz
  obtain ⟨cq1, kq1, q1a, q1b, q1c⟩ := isOf hZ e0 S.1
  obtain ⟨_, _, ⟨T1, L1, k1, n1⟩, -, X1, ⟨Lc1, hQ1, l1, y1, z1⟩, st1⟩ := X0.virtualBack hx (y := n_10) (z := n_10) hown (mvT hZ (w_ hw 45 rfl)) (mvT hZ (w_ hw 46 rfl)) (notFace_of_selects (args := #[]) (mvT hZ (w_ hw 48 rfl))) (mvT hZ (w_ hw 48 rfl)) (mvT hZ (w_ hw 47 rfl)) (by decide) (backOf (W := 0) (rie l Z a0 hw [] a1 b k n vs h0 n0 Z0 S.2.2.1 S.2.2.2 hz) hZ (w_ hw 49 rfl) (w_ hw 13 rfl) (by decide) (by decide)) q1a q1c (g := (mkF m 1 #[.val (.ref a1)] [(.ref a1)])) rfl (by rw [hml]; rfl) (Steps.refl _) (argsL := []) (rest := []) (lenOf pd_11 rfl) rfl (by show 2 * 0 + _ ≤ _; exact Nat.le_of_eq rfl) (hb hby d12_1) (fun _ _ => ⟨rfl, e0, (by decide : 0 + 0 ≤ _), (by decide : 0 + 0 ≤ _)⟩)
  dsimp only [Pt.U, Pt.locs, Pt.cells, Pt.slots] at X1 l1 y1 z1 st1 hQ1
  subst l1 y1 z1
  obtain ⟨rfl, N1, e1⟩ := hQ1
  have Nf1 := Fr.app N0 N1
  refine Goes.via (fun _ kz => st1.trans kz) ?_
  refine Goes.via (S' := T1.setTop (mkF m 7 #[.val (.ref a1)] [])) (fun tz kz => ?_) ?_
  · show Steps p.tables e below (T1.setTop (mkF m 4 #[.val (.ref a1)] [(.int (0 : Int32))])) _
    refine XS.ifNo X1.here hx rfl (hb hby d12_4) rfl ((if0 _ _).trans (teq (by first | decide | rfl)).2) ?_
    exact kz
  obtain ⟨a2, T2, h2, k2, b2, kb2, X2, e2, E2, hS2, hk2, hZ, hown, Es2, Fc2, Fv2, Ab2, la2, lb2, hc2, Lt2, sf2, st2⟩   := ldcCH (s := s) (vm0 := s.vm) X1 hx hZ hown (w_ hw 53 rfl) wS e1 ((State.WarmedH.refl s).since 0) (Nat.zero_le _) hEL (by decide) hC0.1 (vs := [.int (61 : Int32), .int (43 : Int32), .int (45 : Int32), .int (64 : Int32), .int (9 : Int32), .int (13 : Int32)]) (z := (6 : Int32)) ⟨by decide, by decide⟩ (by decide) (by decide) (g := (mkF m 7 #[.val (.ref a1)] [])) rfl (hb hby d12_7) (n := 24) (by decide) (by decide) (by decide) (by decide)
  have hC2 := hC0.trans hc2
  refine Goes.via st2 ?_
  have S' := S.ext E2
  have O1 := O0.ext E2
  have Z1 := Nat.le_trans Z0 E2.1
  have SK : own_Str Z h2 a2 b2 kb2 (6 : Int32) [.int (61 : Int32), .int (43 : Int32), .int (45 : Int32), .int (64 : Int32), .int (9 : Int32), .int (13 : Int32)] := ⟨Es2, Fc2, Fv2, Ab2⟩
  refine Goes.via (S' := T2.setTop (mkF m 11 #[.val (.ref a1)] [(.int (0 : Int32)), (.ref a1), (.ref a2)])) (fun tz kz => ?_) ?_
  · show Steps p.tables e below (T2.setTop (mkF m 9 #[.val (.ref a1)] [(.ref a2)])) _
    refine XS.aloadN X2.here hx rfl (hb hby d12_9) rfl rfl ?_
    refine XS.iconst X2.here hx rfl (hb hby d12_10) ?_
    exact kz
  obtain ⟨cq3, kq3, q3a, q3b, q3c⟩ := isOf hZ e2 S'.1
  obtain ⟨_, _, ⟨T3, L3, k3, n3⟩, -, X3, ⟨Lc3, hQ3, l3, y3, z3⟩, st3⟩ := X2.virtualBack hx (y := n_17) (z := n_17) hown (mvT hZ (w_ hw 56 rfl)) (mvT hZ (w_ hw 57 rfl)) (notFace_of_selects (args := #[]) (mvT hZ (w_ hw 59 rfl))) (mvT hZ (w_ hw 59 rfl)) (mvT hZ (w_ hw 58 rfl)) (by decide) (backOf (W := 1) (rca_L l Z a0 hw [] a1 (0 : Int32) b k cs n x fv vs h2 n0 Z1 SC hcs O1 SF hfv S' zx q g sx) hZ (w_ hw 60 rfl) (w_ hw 13 rfl) (by decide) (by decide)) q3a q3c (g := (mkF m 11 #[.val (.ref a1)] [(.int (0 : Int32)), (.ref a1), (.ref a2)])) rfl (by rw [hml]; rfl) (Steps.refl _) (argsL := [(.int (0 : Int32))]) (rest := [(.ref a2)]) (lenOf pd_18 rfl) rfl (by show 2 * 0 + _ ≤ _; exact Nat.le_of_eq rfl) (hb hby d12_11) (fun _ _ => ⟨rfl, e2, (by decide : 2 + 0 ≤ _), (by decide : 28 + 0 ≤ _)⟩)
  dsimp only [Pt.U, Pt.locs, Pt.cells, Pt.slots] at X3 l3 y3 z3 st3 hQ3
  subst l3 y3 z3
  obtain ⟨rfl, N3, e3⟩ := hQ3
  have Nf3 := Fr.app Nf1 N3
  refine Goes.via (fun _ kz => st3.trans kz) ?_
  obtain ⟨cq4, kq4, q4a, q4b, q4c⟩ := isOf hZ e3 SK.1
  obtain ⟨_, _, ⟨T4, L4, k4, n4⟩, -, X4, ⟨Lc4, hQ4, l4, y4, z4⟩, st4⟩ := X3.virtualBack hx (y := n_27) (z := n_27) hown (mvT hZ (w_ hw 78 rfl)) (mvT hZ (w_ hw 79 rfl)) (notFace_of_selects (args := #[]) (mvT hZ (w_ hw 81 rfl))) (mvT hZ (w_ hw 81 rfl)) (mvT hZ (w_ hw 80 rfl)) (by decide) (backOf (W := 0) (ri1 l Z a0 hw [] a2 x b2 kb2 cs h2 n0 Z1 SC hcs O1 SK hf) hZ (w_ hw 82 rfl) (w_ hw 13 rfl) (by decide) (by decide)) q4a q4c (g := (mkF m 14 #[.val (.ref a1)] [(.int x), (.ref a2)])) rfl (by rw [hml]; rfl) (Steps.refl _) (argsL := [(.int x)]) (rest := []) (lenOf pd_0 rfl) rfl (by show 2 * 0 + _ ≤ _; exact Nat.le_of_eq rfl) (hb hby d12_14) (fun _ _ => ⟨rfl, e3, (by decide : 2 + 0 ≤ _), (by decide : 28 + 0 ≤ _)⟩)
  dsimp only [Pt.U, Pt.locs, Pt.cells, Pt.slots] at X4 l4 y4 z4 st4 hQ4
  subst l4 y4 z4
  obtain ⟨rfl, N4, e4⟩ := hQ4
  have Nf4 := Fr.app Nf3 N4
  refine Goes.via (fun _ kz => st4.trans kz) ?_
  refine Goes.via (S' := T4.setTop (mkF m 42 #[.val (.ref a1)] [(.ref a1)])) (fun tz kz => ?_) ?_
  · show Steps p.tables e below (T4.setTop (mkF m 17 #[.val (.ref a1)] [(.int (-1 : Int32))])) _
    refine XS.ifYes X4.here hx rfl (pc0 := 17) (pc' := 41) rfl (hb hby d12_17) rfl ((if0 _ _).trans (tlt (by first | decide | rfl)).1) (by decide) (by decide) ?_
    refine XS.aloadN X4.here hx rfl (hb hby d12_41) rfl rfl ?_
    exact kz
  exact Goes.retOH (s := s) (vm1 := T2.vm) X4 hx Bd.notSynchronized hS2 hk2 e4 hZ hEL hC2 Bd.returns rfl (Or.inr (Or.inr (Or.inr (Or.inr ⟨rfl, rfl, rfl⟩)))) (hb hby d12_42) (nb_ rfl) (nb_ rfl) (by rw [e4]; exact ⟨rfl, Nf4, (Keep.refl h0 []).ext E2⟩)
def Q_rpr_U (Z : State) (a1 : Addr) (b : Addr) (k : ClassId) (cs : Int32) (n2 n x : Int32) (fv : Value) (vs : List Value) (h0 : Heap) (n0 : Nat) : Option Value → Heap → List Loc → Prop := fun v h L => v = some (.ref a1) ∧ Fr n0 L ∧ Keep h0 h []
theorem rpr_U (l : Launch) (Z : State) (a0 : Array Value) (hw : ∀ d ∈ tables_1, d.before a0 Z = true) (ws : List Jvm.Cond) (a1 : Addr) (b : Addr) (k : ClassId) (cs : Int32) (n2 n x : Int32) (fv : Value) (vs : List Value) (h0 : Heap) (n0 : Nat) (Z0 : n0 ≤ h0.size) (SC : Sta Z Z.heap "java/lang/String" "COMPACT_STRINGS" "Z" (.int cs)) (hcs : ¬ cs = (0 : Int32)) (O0 : Old Z n0 h0) (SF : Sta Z Z.heap "jdk/internal/util/Preconditions" "SIOOBE_FORMATTER" "Ljava/util/function/BiFunction;" fv) (hfv : fv.isRef = true) (SA : Sta Z Z.heap "java/lang/StringUTF16" "$assertionsDisabled" "Z" (.int (1 : Int32))) (SH : Sta Z Z.heap "java/lang/StringUTF16" "HI_BYTE_SHIFT" "I" (.int (0 : Int32))) (SL : Sta Z Z.heap "java/lang/StringUTF16" "LO_BYTE_SHIFT" "I" (.int (8 : Int32))) (S : own_StU Z h0 a1 b k n2 vs) (zx : nar .char x = x) (hf : own_nf x) (hn : (n2 >>> ((1 : Int32) &&& 31)) = n) (q : ¬ (0 : Int32) < (0 : Int32) ∧ (0 : Int32) < n) (q0 : ¬ (0 : Int32) < (0 : Int32) ∧ (0 : Int32) < n2) (q1 : ¬ (1 : Int32) < (0 : Int32) ∧ (1 : Int32) < n2) (g0 : vs.getD (0 : Int32).toNatClampNeg (.int 0) = .int (own_lo x)) (g1 : vs.getD (1 : Int32).toNatClampNeg (.int 0) = .int (own_hi x)) (hz : ¬ n2 = (0 : Int32)) :
    MetFree l n_29 (head1 (Jvm.Cond.code n_29 prog_10_method_4_code 1 (some (.object "java/lang/String")) :: ws) ({ frames := 5, cells := 2, slots := 28, locals := 90 } : Room)) (fun a U => a = #[(.ref a1)] ∧ Z.Warmed39 U.vm ∧ U.heap = h0 ∧ CHv Z consts_1 U.vm h0) (fun _ _ _ _ _ => True) (fun _ U oo U' => ∃ vv LL, oo = .returned vv ∧ (Q_rpr_U Z a1 b k cs n2 n x fv vs h0 n0) vv U'.heap LL ∧ CHr Z consts_1 U.vm U.heap U'.vm U'.heap ∧ ReturnedEndW U oo U' LL ({ frames := 5, cells := 2, slots := 28, locals := 90 } : Room).cells ({ frames := 5, cells := 2, slots := 28, locals := 90 } : Room).slots) := by
  refine MetFree.of_bodySF (plainFor_of_name pn_12) hisR ?_
  intro p e s m args below meth c s₁ Bd hml0 hP hK
  obtain ⟨rfl, hZ, hh, hH⟩ := hP
  have hx := Bd.exec
  have hby := Bd.bytes
  have hml : c.maxLocals = 1 := hml0
  have hown : s.vm.findClass "com/example/vestline/vestline/format/Csv" = some m.cls := findClass_of_methodNamed Bd.named
  have hnm := (name_of_methodNamed Bd.named Bd.method).1
  have X0 : Stand p l e ({ frames := 5, cells := 2, slots := 28, locals := 90 } : Room) s m #[(.ref a1)] below meth c s₁ [] 0 0 := Stand.of_body Bd
  have e0 : s₁.heap = h0 := by rw [← hh, Bd.state]; rfl
  have N0 := Fr.nil n0
  have hC0 : CHr Z consts_1 s.vm s.heap s.vm h0 := by rw [hh]; exact CHr.refl hH
  have hEL := own_EW hw
  have wS : ∀ d ∈ Bundle.stringAtoms, d.before a0 Z = true := by
    intro d hd
    simp only [Bundle.stringAtoms, List.mem_cons, List.not_mem_nil, or_false] at hd
    rcases hd with rfl | rfl | rfl | rfl | rfl | rfl | rfl
    · exact (w_ hw 13 rfl)
    · exact (w_ hw 12 rfl)
    · exact (w_ hw 30 rfl)
    · exact (w_ hw 40 rfl)
    · exact (w_ hw 38 rfl)
    · exact (w_ hw 54 rfl)
    · exact (w_ hw 55 rfl)
  show Goes p e below (FinH s Z consts_1 (Q_rpr_U Z a1 b k cs n2 n x fv vs h0 n0) ({ frames := 5, cells := 2, slots := 28, locals := 90 } : Room).cells ({ frames := 5, cells := 2, slots := 28, locals := 90 } : Room).slots) _
  refine Goes.via (S' := s₁.setTop (mkF m 0 #[.val (.ref a1)] [])) (fun tz kz => castTop (ef_12 m a1 ) kz) ?_
  refine Goes.via (S' := s₁.setTop (mkF m 1 #[.val (.ref a1)] [(.ref a1)])) (fun tz kz => ?_) ?_
  · show Steps p.tables e below (s₁.setTop (mkF m 0 #[.val (.ref a1)] [])) _
    refine XS.aloadN X0.here hx rfl (hb hby d12_0) rfl rfl ?_
    exact kz
  obtain ⟨cq1, kq1, q1a, q1b, q1c⟩ := isOf hZ e0 S.1
  obtain ⟨_, _, ⟨T1, L1, k1, n1⟩, -, X1, ⟨Lc1, hQ1, l1, y1, z1⟩, st1⟩ := X0.virtualBack hx (y := n_10) (z := n_10) hown (mvT hZ (w_ hw 45 rfl)) (mvT hZ (w_ hw 46 rfl)) (notFace_of_selects (args := #[]) (mvT hZ (w_ hw 48 rfl))) (mvT hZ (w_ hw 48 rfl)) (mvT hZ (w_ hw 47 rfl)) (by decide) (backOf (W := 0) (rie l Z a0 hw [] a1 b k n2 vs h0 n0 Z0 S.2.2.1 S.2.2.2 hz) hZ (w_ hw 49 rfl) (w_ hw 13 rfl) (by decide) (by decide)) q1a q1c (g := (mkF m 1 #[.val (.ref a1)] [(.ref a1)])) rfl (by rw [hml]; rfl) (Steps.refl _) (argsL := []) (rest := []) (lenOf pd_11 rfl) rfl (by show 2 * 0 + _ ≤ _; exact Nat.le_of_eq rfl) (hb hby d12_1) (fun _ _ => ⟨rfl, e0, (by decide : 0 + 0 ≤ _), (by decide : 0 + 0 ≤ _)⟩)
  dsimp only [Pt.U, Pt.locs, Pt.cells, Pt.slots] at X1 l1 y1 z1 st1 hQ1
  subst l1 y1 z1
  obtain ⟨rfl, N1, e1⟩ := hQ1
  have Nf1 := Fr.app N0 N1
  refine Goes.via (fun _ kz => st1.trans kz) ?_
  refine Goes.via (S' := T1.setTop (mkF m 7 #[.val (.ref a1)] [])) (fun tz kz => ?_) ?_
  · show Steps p.tables e below (T1.setTop (mkF m 4 #[.val (.ref a1)] [(.int (0 : Int32))])) _
    refine XS.ifNo X1.here hx rfl (hb hby d12_4) rfl ((if0 _ _).trans (teq (by first | decide | rfl)).2) ?_
    exact kz
  obtain ⟨a2, T2, h2, k2, b2, kb2, X2, e2, E2, hS2, hk2, hZ, hown, Es2, Fc2, Fv2, Ab2, la2, lb2, hc2, Lt2, sf2, st2⟩   := ldcCH (s := s) (vm0 := s.vm) X1 hx hZ hown (w_ hw 53 rfl) wS e1 ((State.WarmedH.refl s).since 0) (Nat.zero_le _) hEL (by decide) hC0.1 (vs := [.int (61 : Int32), .int (43 : Int32), .int (45 : Int32), .int (64 : Int32), .int (9 : Int32), .int (13 : Int32)]) (z := (6 : Int32)) ⟨by decide, by decide⟩ (by decide) (by decide) (g := (mkF m 7 #[.val (.ref a1)] [])) rfl (hb hby d12_7) (n := 24) (by decide) (by decide) (by decide) (by decide)
  have hC2 := hC0.trans hc2
  refine Goes.via st2 ?_
  have S' := S.ext E2
  have O1 := O0.ext E2
  have Z1 := Nat.le_trans Z0 E2.1
  have SK : own_Str Z h2 a2 b2 kb2 (6 : Int32) [.int (61 : Int32), .int (43 : Int32), .int (45 : Int32), .int (64 : Int32), .int (9 : Int32), .int (13 : Int32)] := ⟨Es2, Fc2, Fv2, Ab2⟩
  refine Goes.via (S' := T2.setTop (mkF m 11 #[.val (.ref a1)] [(.int (0 : Int32)), (.ref a1), (.ref a2)])) (fun tz kz => ?_) ?_
  · show Steps p.tables e below (T2.setTop (mkF m 9 #[.val (.ref a1)] [(.ref a2)])) _
    refine XS.aloadN X2.here hx rfl (hb hby d12_9) rfl rfl ?_
    refine XS.iconst X2.here hx rfl (hb hby d12_10) ?_
    exact kz
  obtain ⟨cq3, kq3, q3a, q3b, q3c⟩ := isOf hZ e2 S'.1
  obtain ⟨_, _, ⟨T3, L3, k3, n3⟩, -, X3, ⟨Lc3, hQ3, l3, y3, z3⟩, st3⟩ := X2.virtualBack hx (y := n_17) (z := n_17) hown (mvT hZ (w_ hw 56 rfl)) (mvT hZ (w_ hw 57 rfl)) (notFace_of_selects (args := #[]) (mvT hZ (w_ hw 59 rfl))) (mvT hZ (w_ hw 59 rfl)) (mvT hZ (w_ hw 58 rfl)) (by decide) (backOf (W := 1) (rca_U l Z a0 hw [] a1 (0 : Int32) b k cs n2 n (0 : Int32) (1 : Int32) x fv vs h2 n0 Z1 SC hcs O1 SF hfv SA SH SL S' zx hn q rfl rfl q0 q1 g0 g1) hZ (w_ hw 60 rfl) (w_ hw 13 rfl) (by decide) (by decide)) q3a q3c (g := (mkF m 11 #[.val (.ref a1)] [(.int (0 : Int32)), (.ref a1), (.ref a2)])) rfl (by rw [hml]; rfl) (Steps.refl _) (argsL := [(.int (0 : Int32))]) (rest := [(.ref a2)]) (lenOf pd_18 rfl) rfl (by show 2 * 0 + _ ≤ _; exact Nat.le_of_eq rfl) (hb hby d12_11) (fun _ _ => ⟨rfl, e2, (by decide : 2 + 0 ≤ _), (by decide : 28 + 0 ≤ _)⟩)
  dsimp only [Pt.U, Pt.locs, Pt.cells, Pt.slots] at X3 l3 y3 z3 st3 hQ3
  subst l3 y3 z3
  obtain ⟨rfl, N3, e3⟩ := hQ3
  have Nf3 := Fr.app Nf1 N3
  refine Goes.via (fun _ kz => st3.trans kz) ?_
  obtain ⟨cq4, kq4, q4a, q4b, q4c⟩ := isOf hZ e3 SK.1
  obtain ⟨_, _, ⟨T4, L4, k4, n4⟩, -, X4, ⟨Lc4, hQ4, l4, y4, z4⟩, st4⟩ := X3.virtualBack hx (y := n_27) (z := n_27) hown (mvT hZ (w_ hw 78 rfl)) (mvT hZ (w_ hw 79 rfl)) (notFace_of_selects (args := #[]) (mvT hZ (w_ hw 81 rfl))) (mvT hZ (w_ hw 81 rfl)) (mvT hZ (w_ hw 80 rfl)) (by decide) (backOf (W := 0) (ri1 l Z a0 hw [] a2 x b2 kb2 cs h2 n0 Z1 SC hcs O1 SK hf) hZ (w_ hw 82 rfl) (w_ hw 13 rfl) (by decide) (by decide)) q4a q4c (g := (mkF m 14 #[.val (.ref a1)] [(.int x), (.ref a2)])) rfl (by rw [hml]; rfl) (Steps.refl _) (argsL := [(.int x)]) (rest := []) (lenOf pd_0 rfl) rfl (by show 2 * 0 + _ ≤ _; exact Nat.le_of_eq rfl) (hb hby d12_14) (fun _ _ => ⟨rfl, e3, (by decide : 2 + 0 ≤ _), (by decide : 28 + 0 ≤ _)⟩)
  dsimp only [Pt.U, Pt.locs, Pt.cells, Pt.slots] at X4 l4 y4 z4 st4 hQ4
  subst l4 y4 z4
  obtain ⟨rfl, N4, e4⟩ := hQ4
  have Nf4 := Fr.app Nf3 N4
  refine Goes.via (fun _ kz => st4.trans kz) ?_
  refine Goes.via (S' := T4.setTop (mkF m 42 #[.val (.ref a1)] [(.ref a1)])) (fun tz kz => ?_) ?_
  · show Steps p.tables e below (T4.setTop (mkF m 17 #[.val (.ref a1)] [(.int (-1 : Int32))])) _
    refine XS.ifYes X4.here hx rfl (pc0 := 17) (pc' := 41) rfl (hb hby d12_17) rfl ((if0 _ _).trans (tlt (by first | decide | rfl)).1) (by decide) (by decide) ?_
    refine XS.aloadN X4.here hx rfl (hb hby d12_41) rfl rfl ?_
    exact kz
  exact Goes.retOH (s := s) (vm1 := T2.vm) X4 hx Bd.notSynchronized hS2 hk2 e4 hZ hEL hC2 Bd.returns rfl (Or.inr (Or.inr (Or.inr (Or.inr ⟨rfl, rfl, rfl⟩)))) (hb hby d12_42) (nb_ rfl) (nb_ rfl) (by rw [e4]; exact ⟨rfl, Nf4, (Keep.refl h0 []).ext E2⟩)
def own_nct (x : Int32) : Prop := (159 : Int32) < x ∨ (¬ (159 : Int32) < x ∧ x < (127 : Int32) ∧ ¬ ((x.toUInt32 >>> ((5 : Int32) &&& 31).toUInt32).toInt32) = (0 : Int32))
theorem d28_0 : decode jdk_89_method_89_code 0 = .ok (.iload_n 0, 1) := by decide +kernel
theorem d28_1 : decode jdk_89_method_89_code 1 = .ok (.sipush 159, 3) := by decide +kernel
theorem d28_4 : decode jdk_89_method_89_code 4 = .ok (.if_icmp .gt 19, 3) := by decide +kernel
theorem d28_7 : decode jdk_89_method_89_code 7 = .ok (.iload_n 0, 1) := by decide +kernel
theorem d28_8 : decode jdk_89_method_89_code 8 = .ok (.bipush 127, 2) := by decide +kernel
theorem d28_10 : decode jdk_89_method_89_code 10 = .ok (.if_icmp .ge 9, 3) := by decide +kernel
theorem d28_13 : decode jdk_89_method_89_code 13 = .ok (.iload_n 0, 1) := by decide +kernel
theorem d28_14 : decode jdk_89_method_89_code 14 = .ok (.iconst 5, 1) := by decide +kernel
theorem d28_15 : decode jdk_89_method_89_code 15 = .ok (.iushr, 1) := by decide +kernel
theorem d28_16 : decode jdk_89_method_89_code 16 = .ok (.ifCond .ne 7, 3) := by decide +kernel
theorem d28_23 : decode jdk_89_method_89_code 23 = .ok (.iconst 0, 1) := by decide +kernel
theorem d28_24 : decode jdk_89_method_89_code 24 = .ok (.ireturn, 1) := by decide +kernel
theorem pn_28 : plainName "java/lang/Character" = true := by first | (simp [plainName, overriddenIn]; done) | decide +kernel
theorem ef_28 (m : MethodId) (x0 : Int32) : entryFrame m #[(.int x0)] 1 = mkF m 0 #[.val (.int x0)] [] := by first | (simp [entryFrame, mkF, argsToLocals, Value.category]; done) | rfl
def Q_riso_a (Z : State) (x : Int32)  (h0 : Heap) (n0 : Nat) : Option Value → Heap → List Loc → Prop := fun v h L => v = some (.int (0 : Int32)) ∧ Fr n0 L ∧ h = h0
theorem riso_a (l : Launch) (Z : State) (a0 : Array Value) (hw : ∀ d ∈ tables_1, d.before a0 Z = true) (ws : List Jvm.Cond) (x : Int32)  (h0 : Heap) (n0 : Nat) (Z0 : n0 ≤ h0.size) (q : (159 : Int32) < x) :
    own_M l Z n_30 (Jvm.Cond.code n_30 jdk_89_method_89_code 1 (some .boolean)) ws ({ frames := 0, cells := 0, slots := 0, locals := 0 } : Room) #[(.int x)] h0 (Q_riso_a Z x h0 n0) := by
  refine MetFree.of_bodySF (plainFor_of_name pn_28) hisR ?_
  intro p e s m args below meth c s₁ Bd hml0 hP hK
  obtain ⟨rfl, hZ, hh⟩ := hP
  have hx := Bd.exec
  have hby := Bd.bytes
  have hml : c.maxLocals = 1 := hml0
  have hown : s.vm.findClass "java/lang/Character" = some m.cls := findClass_of_methodNamed Bd.named
  have hnm := (name_of_methodNamed Bd.named Bd.method).1
  have X0 : Stand p l e ({ frames := 0, cells := 0, slots := 0, locals := 0 } : Room) s m #[(.int x)] below meth c s₁ [] 0 0 := Stand.of_body Bd
  have e0 : s₁.heap = h0 := by rw [← hh, Bd.state]; rfl
  have N0 := Fr.nil n0
  show Goes p e below (Fin s (Q_riso_a Z x h0 n0) ({ frames := 0, cells := 0, slots := 0, locals := 0 } : Room).cells ({ frames := 0, cells := 0, slots := 0, locals := 0 } : Room).slots) _
  refine Goes.via (S' := s₁.setTop (mkF m 0 #[.val (.int x)] [])) (fun tz kz => castTop (ef_28 m x ) kz) ?_
  refine Goes.via (S' := s₁.setTop (mkF m 24 #[.val (.int x)] [(.int (0 : Int32))])) (fun tz kz => ?_) ?_
  · show Steps p.tables e below (s₁.setTop (mkF m 0 #[.val (.int x)] [])) _
    refine XS.iloadN X0.here hx rfl (hb hby d28_0) rfl ?_
    refine XS.sipush X0.here hx rfl (hb hby d28_1) ?_
    refine XS.icmpYes X0.here hx rfl (pc0 := 4) (pc' := 23) rfl (hb hby d28_4) rfl (tlt q).2.2.1 (by decide) (by decide) ?_
    refine XS.iconst X0.here hx rfl (hb hby d28_23) ?_
    exact kz
  exact Goes.retN X0 hx Bd.notSynchronized (t := .boolean) Bd.returns (by simp) (hb hby d28_24) (nb_ rfl) (nb_ rfl) ⟨rfl, N0, e0⟩
def Q_riso_b (Z : State) (x : Int32)  (h0 : Heap) (n0 : Nat) : Option Value → Heap → List Loc → Prop := fun v h L => v = some (.int (0 : Int32)) ∧ Fr n0 L ∧ h = h0
theorem riso_b (l : Launch) (Z : State) (a0 : Array Value) (hw : ∀ d ∈ tables_1, d.before a0 Z = true) (ws : List Jvm.Cond) (x : Int32)  (h0 : Heap) (n0 : Nat) (Z0 : n0 ≤ h0.size) (q : ¬ (159 : Int32) < x) (q1 : x < (127 : Int32)) (q2 : ¬ ((x.toUInt32 >>> ((5 : Int32) &&& 31).toUInt32).toInt32) = (0 : Int32)) :
    own_M l Z n_30 (Jvm.Cond.code n_30 jdk_89_method_89_code 1 (some .boolean)) ws ({ frames := 0, cells := 0, slots := 0, locals := 0 } : Room) #[(.int x)] h0 (Q_riso_b Z x h0 n0) := by
  refine MetFree.of_bodySF (plainFor_of_name pn_28) hisR ?_
  intro p e s m args below meth c s₁ Bd hml0 hP hK
  obtain ⟨rfl, hZ, hh⟩ := hP
  have hx := Bd.exec
  have hby := Bd.bytes
  have hml : c.maxLocals = 1 := hml0
  have hown : s.vm.findClass "java/lang/Character" = some m.cls := findClass_of_methodNamed Bd.named
  have hnm := (name_of_methodNamed Bd.named Bd.method).1
  have X0 : Stand p l e ({ frames := 0, cells := 0, slots := 0, locals := 0 } : Room) s m #[(.int x)] below meth c s₁ [] 0 0 := Stand.of_body Bd
  have e0 : s₁.heap = h0 := by rw [← hh, Bd.state]; rfl
  have N0 := Fr.nil n0
  show Goes p e below (Fin s (Q_riso_b Z x h0 n0) ({ frames := 0, cells := 0, slots := 0, locals := 0 } : Room).cells ({ frames := 0, cells := 0, slots := 0, locals := 0 } : Room).slots) _
  refine Goes.via (S' := s₁.setTop (mkF m 0 #[.val (.int x)] [])) (fun tz kz => castTop (ef_28 m x ) kz) ?_
  refine Goes.via (S' := s₁.setTop (mkF m 24 #[.val (.int x)] [(.int (0 : Int32))])) (fun tz kz => ?_) ?_
  · show Steps p.tables e below (s₁.setTop (mkF m 0 #[.val (.int x)] [])) _
    refine XS.iloadN X0.here hx rfl (hb hby d28_0) rfl ?_
    refine XS.sipush X0.here hx rfl (hb hby d28_1) ?_
    refine XS.icmpNo X0.here hx rfl (hb hby d28_4) rfl (flt q).2.2.1 ?_
    refine XS.iloadN X0.here hx rfl (hb hby d28_7) rfl ?_
    refine XS.bipush X0.here hx rfl (hb hby d28_8) ?_
    refine XS.icmpNo X0.here hx rfl (hb hby d28_10) rfl (tlt q1).2.1 ?_
    refine XS.iloadN X0.here hx rfl (hb hby d28_13) rfl ?_
    refine XS.iconst X0.here hx rfl (hb hby d28_14) ?_
    refine XS.iushr X0.here hx rfl (hb hby d28_15) rfl ?_
    refine XS.ifYes X0.here hx rfl (pc0 := 16) (pc' := 23) rfl (hb hby d28_16) rfl ((if0 _ _).trans (feq q2).2) (by decide) (by decide) ?_
    refine XS.iconst X0.here hx rfl (hb hby d28_23) ?_
    exact kz
  exact Goes.retN X0 hx Bd.notSynchronized (t := .boolean) Bd.returns (by simp) (hb hby d28_24) (nb_ rfl) (nb_ rfl) ⟨rfl, N0, e0⟩
theorem riso (l : Launch) (Z : State) (a0 : Array Value) (hw : ∀ d ∈ tables_1, d.before a0 Z = true) (ws : List Jvm.Cond) (x : Int32) (h0 : Heap) (n0 : Nat) (Z0 : n0 ≤ h0.size) (hq : own_nct x) :
    MetFree l n_30 (head1 (Jvm.Cond.code n_30 jdk_89_method_89_code 1 (some .boolean) :: ws) ({ frames := 0, cells := 0, slots := 0, locals := 0 } : Room)) (fun a U => a = #[.int x] ∧ Z.Warmed39 U.vm ∧ U.heap = h0) (fun _ _ _ _ _ => True) (fun _ U oo U' => ∃ vv LL, oo = .returned vv ∧ (Q_riso_a Z x h0 n0) vv U'.heap LL ∧ FrameEnd U oo U' LL ({ frames := 0, cells := 0, slots := 0, locals := 0 } : Room).cells ({ frames := 0, cells := 0, slots := 0, locals := 0 } : Room).slots) := by
  rcases hq with q | ⟨q, q1, q2⟩
  · exact riso_a l Z a0 hw ws x h0 n0 Z0 q
  · exact riso_b l Z a0 hw ws x h0 n0 Z0 q q1 q2
theorem d27_0 : decode jdk_89_method_88_code 0 = .ok (.iload_n 0, 1) := by decide +kernel
theorem d27_1 : decode jdk_89_method_88_code 1 = .ok (.invokestatic 266, 3) := by decide +kernel
theorem d27_4 : decode jdk_89_method_88_code 4 = .ok (.ireturn, 1) := by decide +kernel
theorem pn_27 : plainName "java/lang/Character" = true := by first | (simp [plainName, overriddenIn]; done) | decide +kernel
theorem ef_27 (m : MethodId) (x0 : Int32) : entryFrame m #[(.int x0)] 1 = mkF m 0 #[.val (.int x0)] [] := by first | (simp [entryFrame, mkF, argsToLocals, Value.category]; done) | rfl
def Q_risoc (Z : State) (x : Int32)  (h0 : Heap) (n0 : Nat) : Option Value → Heap → List Loc → Prop := fun v h L => v = some (.int (0 : Int32)) ∧ Fr n0 L ∧ h = h0
theorem risoc (l : Launch) (Z : State) (a0 : Array Value) (hw : ∀ d ∈ tables_1, d.before a0 Z = true) (ws : List Jvm.Cond) (x : Int32)  (h0 : Heap) (n0 : Nat) (Z0 : n0 ≤ h0.size) (hq : own_nct x) :
    own_M l Z n_31 (Jvm.Cond.code n_31 jdk_89_method_88_code 1 (some .boolean)) ws ({ frames := 1, cells := 0, slots := 0, locals := 16 } : Room) #[(.int x)] h0 (Q_risoc Z x h0 n0) := by
  refine MetFree.of_bodySF (plainFor_of_name pn_27) hisR ?_
  intro p e s m args below meth c s₁ Bd hml0 hP hK
  obtain ⟨rfl, hZ, hh⟩ := hP
  have hx := Bd.exec
  have hby := Bd.bytes
  have hml : c.maxLocals = 1 := hml0
  have hown : s.vm.findClass "java/lang/Character" = some m.cls := findClass_of_methodNamed Bd.named
  have hnm := (name_of_methodNamed Bd.named Bd.method).1
  have X0 : Stand p l e ({ frames := 1, cells := 0, slots := 0, locals := 16 } : Room) s m #[(.int x)] below meth c s₁ [] 0 0 := Stand.of_body Bd
  have e0 : s₁.heap = h0 := by rw [← hh, Bd.state]; rfl
  have N0 := Fr.nil n0
  show Goes p e below (Fin s (Q_risoc Z x h0 n0) ({ frames := 1, cells := 0, slots := 0, locals := 16 } : Room).cells ({ frames := 1, cells := 0, slots := 0, locals := 16 } : Room).slots) _
  refine Goes.via (S' := s₁.setTop (mkF m 0 #[.val (.int x)] [])) (fun tz kz => castTop (ef_27 m x ) kz) ?_
  refine Goes.via (S' := s₁.setTop (mkF m 1 #[.val (.int x)] [(.int x)])) (fun tz kz => ?_) ?_
  · show Steps p.tables e below (s₁.setTop (mkF m 0 #[.val (.int x)] [])) _
    refine XS.iloadN X0.here hx rfl (hb hby d27_0) rfl ?_
    exact kz
  obtain ⟨_, _, ⟨T1, L1, k1, n1⟩, -, X1, ⟨Lc1, hQ1, l1, y1, z1⟩, st1⟩ := Jvm.LawKit.callS X0 hx (y := n_30) hown (mvT hZ (w_ hw 119 rfl)) (mvT hZ (w_ hw 120 rfl)) (mvT hZ (w_ hw 117 rfl)) (mvT hZ (w_ hw 121 rfl)) (by decide) (backOf (W := 0) (riso l Z a0 hw [] x h0 n0 Z0 hq) hZ (w_ hw 121 rfl) (w_ hw 117 rfl) (by decide) (by decide)) (g := (mkF m 1 #[.val (.int x)] [(.int x)])) rfl (by rw [hml]; rfl) (argsL := [(.int x)]) (rest := []) (lenOf pd_14 rfl) rfl (by show 2 * 0 + _ ≤ _; exact Nat.le_of_eq rfl) (hb hby d27_1) (fun _ _ => ⟨rfl, e0, (by decide : 0 + 0 ≤ _), (by decide : 0 + 0 ≤ _)⟩)
  dsimp only [Pt.U, Pt.locs, Pt.cells, Pt.slots] at X1 l1 y1 z1 st1 hQ1
  subst l1 y1 z1
  obtain ⟨rfl, N1, e1⟩ := hQ1
  have Nf1 := Fr.app N0 N1
  refine Goes.via (st1) ?_
  exact Goes.retN X1 hx Bd.notSynchronized (t := .boolean) Bd.returns (by simp) (hb hby d27_4) (nb_ rfl) (nb_ rfl) ⟨rfl, Nf1, e1⟩
theorem d10_0 : decode prog_10_method_5_code 0 = .ok (.aload_n 0, 1) := by decide +kernel
theorem d10_1 : decode prog_10_method_5_code 1 = .ok (.invokevirtual 140, 3) := by decide +kernel
theorem d10_4 : decode prog_10_method_5_code 4 = .ok (.ifCond .eq 13, 3) := by decide +kernel
theorem d10_17 : decode prog_10_method_5_code 17 = .ok (.aload_n 0, 1) := by decide +kernel
theorem d10_18 : decode prog_10_method_5_code 18 = .ok (.invokestatic 164, 3) := by decide +kernel
theorem d10_21 : decode prog_10_method_5_code 21 = .ok (.astore_n 1, 1) := by decide +kernel
theorem d10_22 : decode prog_10_method_5_code 22 = .ok (.iconst 0, 1) := by decide +kernel
theorem d10_23 : decode prog_10_method_5_code 23 = .ok (.istore_n 2, 1) := by decide +kernel
theorem d10_24 : decode prog_10_method_5_code 24 = .ok (.iload_n 2, 1) := by decide +kernel
theorem d10_25 : decode prog_10_method_5_code 25 = .ok (.aload_n 1, 1) := by decide +kernel
theorem d10_26 : decode prog_10_method_5_code 26 = .ok (.invokevirtual 167, 3) := by decide +kernel
theorem d10_29 : decode prog_10_method_5_code 29 = .ok (.if_icmp .ge 39, 3) := by decide +kernel
theorem d10_32 : decode prog_10_method_5_code 32 = .ok (.aload_n 1, 1) := by decide +kernel
theorem d10_33 : decode prog_10_method_5_code 33 = .ok (.iload_n 2, 1) := by decide +kernel
theorem d10_34 : decode prog_10_method_5_code 34 = .ok (.invokevirtual 145, 3) := by decide +kernel
theorem d10_37 : decode prog_10_method_5_code 37 = .ok (.istore_n 3, 1) := by decide +kernel
theorem d10_38 : decode prog_10_method_5_code 38 = .ok (.iload_n 3, 1) := by decide +kernel
theorem d10_39 : decode prog_10_method_5_code 39 = .ok (.invokestatic 170, 3) := by decide +kernel
theorem d10_42 : decode prog_10_method_5_code 42 = .ok (.ifCond .eq 20, 3) := by decide +kernel
theorem d10_62 : decode prog_10_method_5_code 62 = .ok (.iinc 2 1, 3) := by decide +kernel
theorem d10_65 : decode prog_10_method_5_code 65 = .ok (.goto (-41), 3) := by decide +kernel
theorem d10_68 : decode prog_10_method_5_code 68 = .ok (.aload_n 1, 1) := by decide +kernel
theorem d10_69 : decode prog_10_method_5_code 69 = .ok (.areturn, 1) := by decide +kernel
theorem pn_10 : plainName "com/example/vestline/vestline/format/Csv" = true := by first | (simp [plainName, overriddenIn]; done) | decide +kernel
theorem ef_10 (m : MethodId) (x0 : Addr) : entryFrame m #[(.ref x0)] 4 = mkF m 0 #[.val (.ref x0), .unset, .unset, .unset] [] := by first | (simp [entryFrame, mkF, argsToLocals, Value.category]; done) | rfl
def Q_rnm_L1 (Z : State) (a1 : Addr) (b : Addr) (k : ClassId) (cs : Int32) (fv : Value) (c0 : Int32) (h0 : Heap) (n0 : Nat) : Option Value → Heap → List Loc → Prop := fun v h L => v = some (.ref a1) ∧ Fr n0 L ∧ Keep h0 h []
theorem rnm_L1 (l : Launch) (Z : State) (a0 : Array Value) (hw : ∀ d ∈ tables_1, d.before a0 Z = true) (ws : List Jvm.Cond) (a1 : Addr) (b : Addr) (k : ClassId) (cs : Int32) (fv : Value) (c0 : Int32) (h0 : Heap) (n0 : Nat) (Z0 : n0 ≤ h0.size) (SC : Sta Z Z.heap "java/lang/String" "COMPACT_STRINGS" "Z" (.int cs)) (hcs : ¬ cs = (0 : Int32)) (O0 : Old Z n0 h0) (SF : Sta Z Z.heap "jdk/internal/util/Preconditions" "SIOOBE_FORMATTER" "Ljava/util/function/BiFunction;" fv) (hfv : fv.isRef = true) (S : own_Str Z h0 a1 b k (1 : Int32) [.int (own_by c0)]) (z0 : nar .char c0 = c0) (hf : own_nf c0) (s0 : ¬ (255 : Int32) < c0) (t0 : own_nct c0) :
    MetFree l n_32 (head1 (Jvm.Cond.code n_32 prog_10_method_5_code 4 (some (.object "java/lang/String")) :: ws) ({ frames := 6, cells := 2, slots := 28, locals := 110 } : Room)) (fun a U => a = #[(.ref a1)] ∧ Z.Warmed39 U.vm ∧ U.heap = h0 ∧ CHv Z consts_1 U.vm h0) (fun _ _ _ _ _ => True) (fun _ U oo U' => ∃ vv LL, oo = .returned vv ∧ (Q_rnm_L1 Z a1 b k cs fv c0 h0 n0) vv U'.heap LL ∧ CHr Z consts_1 U.vm U.heap U'.vm U'.heap ∧ ReturnedEndW U oo U' LL ({ frames := 6, cells := 2, slots := 28, locals := 110 } : Room).cells ({ frames := 6, cells := 2, slots := 28, locals := 110 } : Room).slots) := by
  refine MetFree.of_bodySF (plainFor_of_name pn_10) hisR ?_
  intro p e s m args below meth c s₁ Bd hml0 hP hK
  obtain ⟨rfl, hZ, hh, hH⟩ := hP
  have hx := Bd.exec
  have hby := Bd.bytes
  have hml : c.maxLocals = 4 := hml0
  have hown : s.vm.findClass "com/example/vestline/vestline/format/Csv" = some m.cls := findClass_of_methodNamed Bd.named
  have hnm := (name_of_methodNamed Bd.named Bd.method).1
  have X0 : Stand p l e ({ frames := 6, cells := 2, slots := 28, locals := 110 } : Room) s m #[(.ref a1)] below meth c s₁ [] 0 0 := Stand.of_body Bd
  have e0 : s₁.heap = h0 := by rw [← hh, Bd.state]; rfl
  have N0 := Fr.nil n0
  have hC0 : CHr Z consts_1 s.vm s.heap s.vm h0 := by rw [hh]; exact CHr.refl hH
  have hEL := own_EW hw
  show Goes p e below (FinH s Z consts_1 (Q_rnm_L1 Z a1 b k cs fv c0 h0 n0) ({ frames := 6, cells := 2, slots := 28, locals := 110 } : Room).cells ({ frames := 6, cells := 2, slots := 28, locals := 110 } : Room).slots) _
  refine Goes.via (S' := s₁.setTop (mkF m 0 #[.val (.ref a1), .unset, .unset, .unset] [])) (fun tz kz => castTop (ef_10 m a1 ) kz) ?_
  refine Goes.via (S' := s₁.setTop (mkF m 1 #[.val (.ref a1), .unset, .unset, .unset] [(.ref a1)])) (fun tz kz => ?_) ?_
  · show Steps p.tables e below (s₁.setTop (mkF m 0 #[.val (.ref a1), .unset, .unset, .unset] [])) _
    refine XS.aloadN X0.here hx rfl (hb hby d10_0) rfl rfl ?_
    exact kz
  obtain ⟨cq1, kq1, q1a, q1b, q1c⟩ := isOf hZ e0 S.1
  obtain ⟨_, _, ⟨T1, L1, k1, n1⟩, -, X1, ⟨Lc1, hQ1, l1, y1, z1⟩, st1⟩ := X0.virtualBack hx (y := n_10) (z := n_10) hown (mvT hZ (w_ hw 45 rfl)) (mvT hZ (w_ hw 46 rfl)) (notFace_of_selects (args := #[]) (mvT hZ (w_ hw 48 rfl))) (mvT hZ (w_ hw 48 rfl)) (mvT hZ (w_ hw 47 rfl)) (by decide) (backOf (W := 0) (rie l Z a0 hw [] a1 b k (1 : Int32) _ h0 n0 Z0 S.2.2.1 S.2.2.2 (by decide)) hZ (w_ hw 49 rfl) (w_ hw 13 rfl) (by decide) (by decide)) q1a q1c (g := (mkF m 1 #[.val (.ref a1), .unset, .unset, .unset] [(.ref a1)])) rfl (by rw [hml]; rfl) (Steps.refl _) (argsL := []) (rest := []) (lenOf pd_11 rfl) rfl (by show 2 * 0 + _ ≤ _; exact Nat.le_of_eq rfl) (hb hby d10_1) (fun _ _ => ⟨rfl, e0, (by decide : 0 + 0 ≤ _), (by decide : 0 + 0 ≤ _)⟩)
  dsimp only [Pt.U, Pt.locs, Pt.cells, Pt.slots] at X1 l1 y1 z1 st1 hQ1
  subst l1 y1 z1
  obtain ⟨rfl, N1, e1⟩ := hQ1
  have Nf1 := Fr.app N0 N1
  refine Goes.via (fun _ kz => st1.trans kz) ?_
  refine Goes.via (S' := T1.setTop (mkF m 18 #[.val (.ref a1), .unset, .unset, .unset] [(.ref a1)])) (fun tz kz => ?_) ?_
  · show Steps p.tables e below (T1.setTop (mkF m 4 #[.val (.ref a1), .unset, .unset, .unset] [(.int (0 : Int32))])) _
    refine XS.ifYes X1.here hx rfl (pc0 := 4) (pc' := 17) rfl (hb hby d10_4) rfl ((if0 _ _).trans (teq (by first | decide | rfl)).1) (by decide) (by decide) ?_
    refine XS.aloadN X1.here hx rfl (hb hby d10_17) rfl rfl ?_
    exact kz
  obtain ⟨_, _, ⟨T2, L2, k2, n2⟩, -, X2, hs2, gs2, ⟨Lc2, hQ2, l2, y2, z2, hc2⟩, st2⟩ := callSS (show Stand p l e _ (s.setVm s.vm) m _ below meth c _ _ _ _ from X1) hx (y := n_29) hown (mvT hZ (w_ hw 50 rfl)) (mvT hZ (w_ hw 51 rfl)) (mvT hZ (w_ hw 43 rfl)) (mvT hZ (w_ hw 52 rfl)) (by decide) (backOfSH (s := s) (vm0 := s.vm) (W := 0) (rpr_L l Z a0 hw [] a1 b k cs (1 : Int32) c0 fv _ h0 n0 Z0 SC hcs O0 SF hfv S z0 hf ⟨by decide, by decide⟩ rfl s0 (by decide)) hZ (w_ hw 52 rfl) (w_ hw 43 rfl) (by decide) (by decide) hEL hC0.1) (g := (mkF m 18 #[.val (.ref a1), .unset, .unset, .unset] [(.ref a1)])) rfl (by rw [hml]; rfl) (argsL := [(.ref a1)]) (rest := []) (lenOf pd_19 rfl) rfl (by show 2 * 0 + _ ≤ _; exact Nat.le_of_eq rfl) (hb hby d10_18) (fun _ _ => ⟨rfl, e1, (by decide : 0 + 2 ≤ _), (by decide : 0 + 28 ≤ _)⟩)
  dsimp only [Pt.U, Pt.locs, Pt.cells, Pt.slots] at X2 l2 y2 z2 st2 hQ2 hs2 gs2 hc2
  subst l2 y2 z2
  obtain ⟨rfl, N2, K2⟩ := hQ2
  rw [e1] at gs2
  have hS2 : s.Since T2.vm T2.heap.size := own_fold ((State.WarmedH.refl s).since 0) (Nat.zero_le _) hs2 gs2
  have hC2 := hC0.trans hc2
  have hZ : Z.Warmed39 (s.setVm T2.vm).vm := State.Warmed39.trans (t := s.setVm s.vm) hZ hs2.1
  have hown : (s.setVm T2.vm).vm.findClass "com/example/vestline/vestline/format/Csv" = some m.cls := by rw [show (s.setVm T2.vm).vm = T2.vm from rfl, hs2.1.alike.findClass]; exact hown
  have Nf2 := Fr.app Nf1 N2
  refine Goes.via (fun _ kz => st2.trans kz) ?_
  have S1 := S.keep K2 nin0 nin0
  have O1 := O0.keep K2 all0
  have Z1 := Nat.le_trans Z0 K2.1
  refine Goes.via (S' := T2.setTop (mkF m 26 #[.val (.ref a1), .val (.ref a1), .val (.int (0 : Int32)), .unset] [(.ref a1), (.int (0 : Int32))])) (fun tz kz => ?_) ?_
  · show Steps p.tables e below (T2.setTop (mkF m 21 #[.val (.ref a1), .unset, .unset, .unset] [(.ref a1)])) _
    refine XS.astoreN X2.here hx rfl (hb hby d10_21) rfl rfl (l' := #[.val (.ref a1), .val (.ref a1), .unset, .unset]) rfl ?_
    refine XS.iconst X2.here hx rfl (hb hby d10_22) ?_
    refine XS.istoreN X2.here hx rfl (hb hby d10_23) rfl (l' := #[.val (.ref a1), .val (.ref a1), .val (.int (0 : Int32)), .unset]) rfl ?_
    refine XS.iloadN X2.here hx rfl (hb hby d10_24) rfl ?_
    refine XS.aloadN X2.here hx rfl (hb hby d10_25) rfl rfl ?_
    exact kz
  obtain ⟨cq3, kq3, q3a, q3b, q3c⟩ := isOf hZ rfl S1.1
  obtain ⟨_, _, ⟨T3, L3, k3, n3⟩, -, X3, ⟨Lc3, hQ3, l3, y3, z3⟩, st3⟩ := X2.virtualBack hx (y := n_13) (z := n_13) hown (mvT hZ (w_ hw 114 rfl)) (mvT hZ (w_ hw 89 rfl)) (notFace_of_selects (args := #[]) (mvT hZ (w_ hw 91 rfl))) (mvT hZ (w_ hw 91 rfl)) (mvT hZ (w_ hw 90 rfl)) (by decide) (backOf (W := 1) (rlen l Z a0 hw [] a1 b k cs (0 : Int32) (1 : Int32) (1 : Int32) _ T2.heap n0 Z1 SC hcs O1 S1.1 S1.2.1 S1.2.2.1 S1.2.2.2 rfl rfl) hZ (w_ hw 92 rfl) (w_ hw 13 rfl) (by decide) (by decide)) q3a q3c (g := (mkF m 26 #[.val (.ref a1), .val (.ref a1), .val (.int (0 : Int32)), .unset] [(.ref a1), (.int (0 : Int32))])) rfl (by rw [hml]; rfl) (Steps.refl _) (argsL := []) (rest := [(.int (0 : Int32))]) (lenOf pd_17 rfl) rfl (by show 2 * 0 + _ ≤ _; exact Nat.le_of_eq rfl) (hb hby d10_26) (fun _ _ => ⟨rfl, rfl, (by decide : 2 + 0 ≤ _), (by decide : 28 + 0 ≤ _)⟩)
  dsimp only [Pt.U, Pt.locs, Pt.cells, Pt.slots] at X3 l3 y3 z3 st3 hQ3
  subst l3 y3 z3
  obtain ⟨rfl, N3, e3⟩ := hQ3
  have Nf3 := Fr.app Nf2 N3
  refine Goes.via (fun _ kz => st3.trans kz) ?_
  refine Goes.via (S' := T3.setTop (mkF m 34 #[.val (.ref a1), .val (.ref a1), .val (.int (0 : Int32)), .unset] [(.int (0 : Int32)), (.ref a1)])) (fun tz kz => ?_) ?_
  · show Steps p.tables e below (T3.setTop (mkF m 29 #[.val (.ref a1), .val (.ref a1), .val (.int (0 : Int32)), .unset] [(.int (1 : Int32)), (.int (0 : Int32))])) _
    refine XS.icmpNo X3.here hx rfl (hb hby d10_29) rfl (tlt (by first | decide | rfl)).2.1 ?_
    refine XS.aloadN X3.here hx rfl (hb hby d10_32) rfl rfl ?_
    refine XS.iloadN X3.here hx rfl (hb hby d10_33) rfl ?_
    exact kz
  obtain ⟨cq4, kq4, q4a, q4b, q4c⟩ := isOf hZ e3 S1.1
  obtain ⟨_, _, ⟨T4, L4, k4, n4⟩, -, X4, ⟨Lc4, hQ4, l4, y4, z4⟩, st4⟩ := X3.virtualBack hx (y := n_17) (z := n_17) hown (mvT hZ (w_ hw 56 rfl)) (mvT hZ (w_ hw 57 rfl)) (notFace_of_selects (args := #[]) (mvT hZ (w_ hw 59 rfl))) (mvT hZ (w_ hw 59 rfl)) (mvT hZ (w_ hw 58 rfl)) (by decide) (backOf (W := 0) (rca_L l Z a0 hw [] a1 (0 : Int32) b k cs (1 : Int32) c0 fv _ T2.heap n0 Z1 SC hcs O1 SF hfv S1 z0 ⟨by decide, by decide⟩ rfl s0) hZ (w_ hw 60 rfl) (w_ hw 13 rfl) (by decide) (by decide)) q4a q4c (g := (mkF m 34 #[.val (.ref a1), .val (.ref a1), .val (.int (0 : Int32)), .unset] [(.int (0 : Int32)), (.ref a1)])) rfl (by rw [hml]; rfl) (Steps.refl _) (argsL := [(.int (0 : Int32))]) (rest := []) (lenOf pd_18 rfl) rfl (by show 2 * 0 + _ ≤ _; exact Nat.le_of_eq rfl) (hb hby d10_34) (fun _ _ => ⟨rfl, e3, (by decide : 2 + 0 ≤ _), (by decide : 28 + 0 ≤ _)⟩)
  dsimp only [Pt.U, Pt.locs, Pt.cells, Pt.slots] at X4 l4 y4 z4 st4 hQ4
  subst l4 y4 z4
  obtain ⟨rfl, N4, e4⟩ := hQ4
  have Nf4 := Fr.app Nf3 N4
  refine Goes.via (fun _ kz => st4.trans kz) ?_
  refine Goes.via (S' := T4.setTop (mkF m 39 #[.val (.ref a1), .val (.ref a1), .val (.int (0 : Int32)), .val (.int c0)] [(.int c0)])) (fun tz kz => ?_) ?_
  · show Steps p.tables e below (T4.setTop (mkF m 37 #[.val (.ref a1), .val (.ref a1), .val (.int (0 : Int32)), .unset] [(.int c0)])) _
    refine XS.istoreN X4.here hx rfl (hb hby d10_37) rfl (l' := #[.val (.ref a1), .val (.ref a1), .val (.int (0 : Int32)), .val (.int c0)]) rfl ?_
    refine XS.iloadN X4.here hx rfl (hb hby d10_38) rfl ?_
    exact kz
  obtain ⟨_, _, ⟨T5, L5, k5, n5⟩, -, X5, ⟨Lc5, hQ5, l5, y5, z5⟩, st5⟩ := Jvm.LawKit.callS X4 hx (y := n_31) hown (mvT hZ (w_ hw 115 rfl)) (mvT hZ (w_ hw 116 rfl)) (mvT hZ (w_ hw 117 rfl)) (mvT hZ (w_ hw 118 rfl)) (by decide) (backOf (W := 0) (risoc l Z a0 hw [] c0 T2.heap n0 Z1 t0) hZ (w_ hw 118 rfl) (w_ hw 117 rfl) (by decide) (by decide)) (g := (mkF m 39 #[.val (.ref a1), .val (.ref a1), .val (.int (0 : Int32)), .val (.int c0)] [(.int c0)])) rfl (by rw [hml]; rfl) (argsL := [(.int c0)]) (rest := []) (lenOf pd_20 rfl) rfl (by show 2 * 0 + _ ≤ _; exact Nat.le_of_eq rfl) (hb hby d10_39) (fun _ _ => ⟨rfl, e4, (by decide : 2 + 0 ≤ _), (by decide : 28 + 0 ≤ _)⟩)
  dsimp only [Pt.U, Pt.locs, Pt.cells, Pt.slots] at X5 l5 y5 z5 st5 hQ5
  subst l5 y5 z5
  obtain ⟨rfl, N5, e5⟩ := hQ5
  have Nf5 := Fr.app Nf4 N5
  refine Goes.via (st5) ?_
  refine Goes.via (S' := T5.setTop (mkF m 26 #[.val (.ref a1), .val (.ref a1), .val (.int (1 : Int32)), .val (.int c0)] [(.ref a1), (.int (1 : Int32))])) (fun tz kz => ?_) ?_
  · show Steps p.tables e below (T5.setTop (mkF m 42 #[.val (.ref a1), .val (.ref a1), .val (.int (0 : Int32)), .val (.int c0)] [(.int (0 : Int32))])) _
    refine XS.ifYes X5.here hx rfl (pc0 := 42) (pc' := 62) rfl (hb hby d10_42) rfl ((if0 _ _).trans (teq (by first | decide | rfl)).1) (by decide) (by decide) ?_
    refine XS.iinc X5.here hx rfl (hb hby d10_62) rfl (l' := #[.val (.ref a1), .val (.ref a1), .val (.int (1 : Int32)), .val (.int c0)]) rfl ?_
    refine XS.goto X5.here hx rfl (pc0 := 65) (pc' := 24) rfl (hb hby d10_65) (by decide) (by decide) ?_
    refine XS.iloadN X5.here hx rfl (hb hby d10_24) rfl ?_
    refine XS.aloadN X5.here hx rfl (hb hby d10_25) rfl rfl ?_
    exact kz
  obtain ⟨cq6, kq6, q6a, q6b, q6c⟩ := isOf hZ e5 S1.1
  obtain ⟨_, _, ⟨T6, L6, k6, n6⟩, -, X6, ⟨Lc6, hQ6, l6, y6, z6⟩, st6⟩ := X5.virtualBack hx (y := n_13) (z := n_13) hown (mvT hZ (w_ hw 114 rfl)) (mvT hZ (w_ hw 89 rfl)) (notFace_of_selects (args := #[]) (mvT hZ (w_ hw 91 rfl))) (mvT hZ (w_ hw 91 rfl)) (mvT hZ (w_ hw 90 rfl)) (by decide) (backOf (W := 1) (rlen l Z a0 hw [] a1 b k cs (0 : Int32) (1 : Int32) (1 : Int32) _ T2.heap n0 Z1 SC hcs O1 S1.1 S1.2.1 S1.2.2.1 S1.2.2.2 rfl rfl) hZ (w_ hw 92 rfl) (w_ hw 13 rfl) (by decide) (by decide)) q6a q6c (g := (mkF m 26 #[.val (.ref a1), .val (.ref a1), .val (.int (1 : Int32)), .val (.int c0)] [(.ref a1), (.int (1 : Int32))])) rfl (by rw [hml]; rfl) (Steps.refl _) (argsL := []) (rest := [(.int (1 : Int32))]) (lenOf pd_17 rfl) rfl (by show 2 * 0 + _ ≤ _; exact Nat.le_of_eq rfl) (hb hby d10_26) (fun _ _ => ⟨rfl, e5, (by decide : 2 + 0 ≤ _), (by decide : 28 + 0 ≤ _)⟩)
  dsimp only [Pt.U, Pt.locs, Pt.cells, Pt.slots] at X6 l6 y6 z6 st6 hQ6
  subst l6 y6 z6
  obtain ⟨rfl, N6, e6⟩ := hQ6
  have Nf6 := Fr.app Nf5 N6
  refine Goes.via (fun _ kz => st6.trans kz) ?_
  refine Goes.via (S' := T6.setTop (mkF m 69 #[.val (.ref a1), .val (.ref a1), .val (.int (1 : Int32)), .val (.int c0)] [(.ref a1)])) (fun tz kz => ?_) ?_
  · show Steps p.tables e below (T6.setTop (mkF m 29 #[.val (.ref a1), .val (.ref a1), .val (.int (1 : Int32)), .val (.int c0)] [(.int (1 : Int32)), (.int (1 : Int32))])) _
    refine XS.icmpYes X6.here hx rfl (pc0 := 29) (pc' := 68) rfl (hb hby d10_29) rfl (flt (by first | decide | rfl)).2.1 (by decide) (by decide) ?_
    refine XS.aloadN X6.here hx rfl (hb hby d10_68) rfl rfl ?_
    exact kz
  exact Goes.retOH (s := s) (vm1 := T2.vm) X6 hx Bd.notSynchronized hS2 (Nat.le_refl _) e6 hZ hEL hC2 Bd.returns rfl (Or.inr (Or.inr (Or.inr (Or.inr ⟨rfl, rfl, rfl⟩)))) (hb hby d10_69) (nb_ rfl) (nb_ rfl) (by rw [e6]; exact ⟨rfl, Nf6, K2⟩)
def Q_rnm_U1 (Z : State) (a1 : Addr) (b : Addr) (k : ClassId) (cs : Int32) (fv : Value) (c0 : Int32) (h0 : Heap) (n0 : Nat) : Option Value → Heap → List Loc → Prop := fun v h L => v = some (.ref a1) ∧ Fr n0 L ∧ Keep h0 h []
theorem rnm_U1 (l : Launch) (Z : State) (a0 : Array Value) (hw : ∀ d ∈ tables_1, d.before a0 Z = true) (ws : List Jvm.Cond) (a1 : Addr) (b : Addr) (k : ClassId) (cs : Int32) (fv : Value) (c0 : Int32) (h0 : Heap) (n0 : Nat) (Z0 : n0 ≤ h0.size) (SC : Sta Z Z.heap "java/lang/String" "COMPACT_STRINGS" "Z" (.int cs)) (hcs : ¬ cs = (0 : Int32)) (O0 : Old Z n0 h0) (SF : Sta Z Z.heap "jdk/internal/util/Preconditions" "SIOOBE_FORMATTER" "Ljava/util/function/BiFunction;" fv) (hfv : fv.isRef = true) (SA : Sta Z Z.heap "java/lang/StringUTF16" "$assertionsDisabled" "Z" (.int (1 : Int32))) (SH : Sta Z Z.heap "java/lang/StringUTF16" "HI_BYTE_SHIFT" "I" (.int (0 : Int32))) (SL : Sta Z Z.heap "java/lang/StringUTF16" "LO_BYTE_SHIFT" "I" (.int (8 : Int32))) (S : own_StU Z h0 a1 b k (2 : Int32) [.int (own_lo c0), .int (own_hi c0)]) (z0 : nar .char c0 = c0) (hf : own_nf c0) (t0 : own_nct c0) :
    MetFree l n_32 (head1 (Jvm.Cond.code n_32 prog_10_method_5_code 4 (some (.object "java/lang/String")) :: ws) ({ frames := 6, cells := 2, slots := 28, locals := 110 } : Room)) (fun a U => a = #[(.ref a1)] ∧ Z.Warmed39 U.vm ∧ U.heap = h0 ∧ CHv Z consts_1 U.vm h0) (fun _ _ _ _ _ => True) (fun _ U oo U' => ∃ vv LL, oo = .returned vv ∧ (Q_rnm_U1 Z a1 b k cs fv c0 h0 n0) vv U'.heap LL ∧ CHr Z consts_1 U.vm U.heap U'.vm U'.heap ∧ ReturnedEndW U oo U' LL ({ frames := 6, cells := 2, slots := 28, locals := 110 } : Room).cells ({ frames := 6, cells := 2, slots := 28, locals := 110 } : Room).slots) := by
  refine MetFree.of_bodySF (plainFor_of_name pn_10) hisR ?_
  intro p e s m args below meth c s₁ Bd hml0 hP hK
  obtain ⟨rfl, hZ, hh, hH⟩ := hP
  have hx := Bd.exec
  have hby := Bd.bytes
  have hml : c.maxLocals = 4 := hml0
  have hown : s.vm.findClass "com/example/vestline/vestline/format/Csv" = some m.cls := findClass_of_methodNamed Bd.named
  have hnm := (name_of_methodNamed Bd.named Bd.method).1
  have X0 : Stand p l e ({ frames := 6, cells := 2, slots := 28, locals := 110 } : Room) s m #[(.ref a1)] below meth c s₁ [] 0 0 := Stand.of_body Bd
  have e0 : s₁.heap = h0 := by rw [← hh, Bd.state]; rfl
  have N0 := Fr.nil n0
  have hC0 : CHr Z consts_1 s.vm s.heap s.vm h0 := by rw [hh]; exact CHr.refl hH
  have hEL := own_EW hw
  show Goes p e below (FinH s Z consts_1 (Q_rnm_U1 Z a1 b k cs fv c0 h0 n0) ({ frames := 6, cells := 2, slots := 28, locals := 110 } : Room).cells ({ frames := 6, cells := 2, slots := 28, locals := 110 } : Room).slots) _
  refine Goes.via (S' := s₁.setTop (mkF m 0 #[.val (.ref a1), .unset, .unset, .unset] [])) (fun tz kz => castTop (ef_10 m a1 ) kz) ?_
  refine Goes.via (S' := s₁.setTop (mkF m 1 #[.val (.ref a1), .unset, .unset, .unset] [(.ref a1)])) (fun tz kz => ?_) ?_
  · show Steps p.tables e below (s₁.setTop (mkF m 0 #[.val (.ref a1), .unset, .unset, .unset] [])) _
    refine XS.aloadN X0.here hx rfl (hb hby d10_0) rfl rfl ?_
    exact kz
  obtain ⟨cq1, kq1, q1a, q1b, q1c⟩ := isOf hZ e0 S.1
  obtain ⟨_, _, ⟨T1, L1, k1, n1⟩, -, X1, ⟨Lc1, hQ1, l1, y1, z1⟩, st1⟩ := X0.virtualBack hx (y := n_10) (z := n_10) hown (mvT hZ (w_ hw 45 rfl)) (mvT hZ (w_ hw 46 rfl)) (notFace_of_selects (args := #[]) (mvT hZ (w_ hw 48 rfl))) (mvT hZ (w_ hw 48 rfl)) (mvT hZ (w_ hw 47 rfl)) (by decide) (backOf (W := 0) (rie l Z a0 hw [] a1 b k (2 : Int32) _ h0 n0 Z0 S.2.2.1 S.2.2.2 (by decide)) hZ (w_ hw 49 rfl) (w_ hw 13 rfl) (by decide) (by decide)) q1a q1c (g := (mkF m 1 #[.val (.ref a1), .unset, .unset, .unset] [(.ref a1)])) rfl (by rw [hml]; rfl) (Steps.refl _) (argsL := []) (rest := []) (lenOf pd_11 rfl) rfl (by show 2 * 0 + _ ≤ _; exact Nat.le_of_eq rfl) (hb hby d10_1) (fun _ _ => ⟨rfl, e0, (by decide : 0 + 0 ≤ _), (by decide : 0 + 0 ≤ _)⟩)
  dsimp only [Pt.U, Pt.locs, Pt.cells, Pt.slots] at X1 l1 y1 z1 st1 hQ1
  subst l1 y1 z1
  obtain ⟨rfl, N1, e1⟩ := hQ1
  have Nf1 := Fr.app N0 N1
  refine Goes.via (fun _ kz => st1.trans kz) ?_
  refine Goes.via (S' := T1.setTop (mkF m 18 #[.val (.ref a1), .unset, .unset, .unset] [(.ref a1)])) (fun tz kz => ?_) ?_
  · show Steps p.tables e below (T1.setTop (mkF m 4 #[.val (.ref a1), .unset, .unset, .unset] [(.int (0 : Int32))])) _
    refine XS.ifYes X1.here hx rfl (pc0 := 4) (pc' := 17) rfl (hb hby d10_4) rfl ((if0 _ _).trans (teq (by first | decide | rfl)).1) (by decide) (by decide) ?_
    refine XS.aloadN X1.here hx rfl (hb hby d10_17) rfl rfl ?_
    exact kz
  obtain ⟨_, _, ⟨T2, L2, k2, n2⟩, -, X2, hs2, gs2, ⟨Lc2, hQ2, l2, y2, z2, hc2⟩, st2⟩ := callSS (show Stand p l e _ (s.setVm s.vm) m _ below meth c _ _ _ _ from X1) hx (y := n_29) hown (mvT hZ (w_ hw 50 rfl)) (mvT hZ (w_ hw 51 rfl)) (mvT hZ (w_ hw 43 rfl)) (mvT hZ (w_ hw 52 rfl)) (by decide) (backOfSH (s := s) (vm0 := s.vm) (W := 0) (rpr_U l Z a0 hw [] a1 b k cs (2 : Int32) (1 : Int32) c0 fv _ h0 n0 Z0 SC hcs O0 SF hfv SA SH SL S z0 hf rfl ⟨by decide, by decide⟩ ⟨by decide, by decide⟩ ⟨by decide, by decide⟩ rfl rfl (by decide)) hZ (w_ hw 52 rfl) (w_ hw 43 rfl) (by decide) (by decide) hEL hC0.1) (g := (mkF m 18 #[.val (.ref a1), .unset, .unset, .unset] [(.ref a1)])) rfl (by rw [hml]; rfl) (argsL := [(.ref a1)]) (rest := []) (lenOf pd_19 rfl) rfl (by show 2 * 0 + _ ≤ _; exact Nat.le_of_eq rfl) (hb hby d10_18) (fun _ _ => ⟨rfl, e1, (by decide : 0 + 2 ≤ _), (by decide : 0 + 28 ≤ _)⟩)
  dsimp only [Pt.U, Pt.locs, Pt.cells, Pt.slots] at X2 l2 y2 z2 st2 hQ2 hs2 gs2 hc2
  subst l2 y2 z2
  obtain ⟨rfl, N2, K2⟩ := hQ2
  rw [e1] at gs2
  have hS2 : s.Since T2.vm T2.heap.size := own_fold ((State.WarmedH.refl s).since 0) (Nat.zero_le _) hs2 gs2
  have hC2 := hC0.trans hc2
  have hZ : Z.Warmed39 (s.setVm T2.vm).vm := State.Warmed39.trans (t := s.setVm s.vm) hZ hs2.1
  have hown : (s.setVm T2.vm).vm.findClass "com/example/vestline/vestline/format/Csv" = some m.cls := by rw [show (s.setVm T2.vm).vm = T2.vm from rfl, hs2.1.alike.findClass]; exact hown
  have Nf2 := Fr.app Nf1 N2
  refine Goes.via (fun _ kz => st2.trans kz) ?_
  have S1 := S.keep K2 nin0 nin0
  have O1 := O0.keep K2 all0
  have Z1 := Nat.le_trans Z0 K2.1
  refine Goes.via (S' := T2.setTop (mkF m 26 #[.val (.ref a1), .val (.ref a1), .val (.int (0 : Int32)), .unset] [(.ref a1), (.int (0 : Int32))])) (fun tz kz => ?_) ?_
  · show Steps p.tables e below (T2.setTop (mkF m 21 #[.val (.ref a1), .unset, .unset, .unset] [(.ref a1)])) _
    refine XS.astoreN X2.here hx rfl (hb hby d10_21) rfl rfl (l' := #[.val (.ref a1), .val (.ref a1), .unset, .unset]) rfl ?_
    refine XS.iconst X2.here hx rfl (hb hby d10_22) ?_
    refine XS.istoreN X2.here hx rfl (hb hby d10_23) rfl (l' := #[.val (.ref a1), .val (.ref a1), .val (.int (0 : Int32)), .unset]) rfl ?_
    refine XS.iloadN X2.here hx rfl (hb hby d10_24) rfl ?_
    refine XS.aloadN X2.here hx rfl (hb hby d10_25) rfl rfl ?_
    exact kz
  obtain ⟨cq3, kq3, q3a, q3b, q3c⟩ := isOf hZ rfl S1.1
  obtain ⟨_, _, ⟨T3, L3, k3, n3⟩, -, X3, ⟨Lc3, hQ3, l3, y3, z3⟩, st3⟩ := X2.virtualBack hx (y := n_13) (z := n_13) hown (mvT hZ (w_ hw 114 rfl)) (mvT hZ (w_ hw 89 rfl)) (notFace_of_selects (args := #[]) (mvT hZ (w_ hw 91 rfl))) (mvT hZ (w_ hw 91 rfl)) (mvT hZ (w_ hw 90 rfl)) (by decide) (backOf (W := 1) (rlen l Z a0 hw [] a1 b k cs (1 : Int32) (2 : Int32) (1 : Int32) _ T2.heap n0 Z1 SC hcs O1 S1.1 S1.2.1 S1.2.2.1 S1.2.2.2 rfl rfl) hZ (w_ hw 92 rfl) (w_ hw 13 rfl) (by decide) (by decide)) q3a q3c (g := (mkF m 26 #[.val (.ref a1), .val (.ref a1), .val (.int (0 : Int32)), .unset] [(.ref a1), (.int (0 : Int32))])) rfl (by rw [hml]; rfl) (Steps.refl _) (argsL := []) (rest := [(.int (0 : Int32))]) (lenOf pd_17 rfl) rfl (by show 2 * 0 + _ ≤ _; exact Nat.le_of_eq rfl) (hb hby d10_26) (fun _ _ => ⟨rfl, rfl, (by decide : 2 + 0 ≤ _), (by decide : 28 + 0 ≤ _)⟩)
  dsimp only [Pt.U, Pt.locs, Pt.cells, Pt.slots] at X3 l3 y3 z3 st3 hQ3
  subst l3 y3 z3
  obtain ⟨rfl, N3, e3⟩ := hQ3
  have Nf3 := Fr.app Nf2 N3
  refine Goes.via (fun _ kz => st3.trans kz) ?_
  refine Goes.via (S' := T3.setTop (mkF m 34 #[.val (.ref a1), .val (.ref a1), .val (.int (0 : Int32)), .unset] [(.int (0 : Int32)), (.ref a1)])) (fun tz kz => ?_) ?_
  · show Steps p.tables e below (T3.setTop (mkF m 29 #[.val (.ref a1), .val (.ref a1), .val (.int (0 : Int32)), .unset] [(.int (1 : Int32)), (.int (0 : Int32))])) _
    refine XS.icmpNo X3.here hx rfl (hb hby d10_29) rfl (tlt (by first | decide | rfl)).2.1 ?_
    refine XS.aloadN X3.here hx rfl (hb hby d10_32) rfl rfl ?_
    refine XS.iloadN X3.here hx rfl (hb hby d10_33) rfl ?_
    exact kz
  obtain ⟨cq4, kq4, q4a, q4b, q4c⟩ := isOf hZ e3 S1.1
  obtain ⟨_, _, ⟨T4, L4, k4, n4⟩, -, X4, ⟨Lc4, hQ4, l4, y4, z4⟩, st4⟩ := X3.virtualBack hx (y := n_17) (z := n_17) hown (mvT hZ (w_ hw 56 rfl)) (mvT hZ (w_ hw 57 rfl)) (notFace_of_selects (args := #[]) (mvT hZ (w_ hw 59 rfl))) (mvT hZ (w_ hw 59 rfl)) (mvT hZ (w_ hw 58 rfl)) (by decide) (backOf (W := 0) (rca_U l Z a0 hw [] a1 (0 : Int32) b k cs (2 : Int32) (1 : Int32) (0 : Int32) (1 : Int32) c0 fv _ T2.heap n0 Z1 SC hcs O1 SF hfv SA SH SL S1 z0 rfl ⟨by decide, by decide⟩ rfl rfl ⟨by decide, by decide⟩ ⟨by decide, by decide⟩ rfl rfl) hZ (w_ hw 60 rfl) (w_ hw 13 rfl) (by decide) (by decide)) q4a q4c (g := (mkF m 34 #[.val (.ref a1), .val (.ref a1), .val (.int (0 : Int32)), .unset] [(.int (0 : Int32)), (.ref a1)])) rfl (by rw [hml]; rfl) (Steps.refl _) (argsL := [(.int (0 : Int32))]) (rest := []) (lenOf pd_18 rfl) rfl (by show 2 * 0 + _ ≤ _; exact Nat.le_of_eq rfl) (hb hby d10_34) (fun _ _ => ⟨rfl, e3, (by decide : 2 + 0 ≤ _), (by decide : 28 + 0 ≤ _)⟩)
  dsimp only [Pt.U, Pt.locs, Pt.cells, Pt.slots] at X4 l4 y4 z4 st4 hQ4
  subst l4 y4 z4
  obtain ⟨rfl, N4, e4⟩ := hQ4
  have Nf4 := Fr.app Nf3 N4
  refine Goes.via (fun _ kz => st4.trans kz) ?_
  refine Goes.via (S' := T4.setTop (mkF m 39 #[.val (.ref a1), .val (.ref a1), .val (.int (0 : Int32)), .val (.int c0)] [(.int c0)])) (fun tz kz => ?_) ?_
  · show Steps p.tables e below (T4.setTop (mkF m 37 #[.val (.ref a1), .val (.ref a1), .val (.int (0 : Int32)), .unset] [(.int c0)])) _
    refine XS.istoreN X4.here hx rfl (hb hby d10_37) rfl (l' := #[.val (.ref a1), .val (.ref a1), .val (.int (0 : Int32)), .val (.int c0)]) rfl ?_
    refine XS.iloadN X4.here hx rfl (hb hby d10_38) rfl ?_
    exact kz
  obtain ⟨_, _, ⟨T5, L5, k5, n5⟩, -, X5, ⟨Lc5, hQ5, l5, y5, z5⟩, st5⟩ := Jvm.LawKit.callS X4 hx (y := n_31) hown (mvT hZ (w_ hw 115 rfl)) (mvT hZ (w_ hw 116 rfl)) (mvT hZ (w_ hw 117 rfl)) (mvT hZ (w_ hw 118 rfl)) (by decide) (backOf (W := 0) (risoc l Z a0 hw [] c0 T2.heap n0 Z1 t0) hZ (w_ hw 118 rfl) (w_ hw 117 rfl) (by decide) (by decide)) (g := (mkF m 39 #[.val (.ref a1), .val (.ref a1), .val (.int (0 : Int32)), .val (.int c0)] [(.int c0)])) rfl (by rw [hml]; rfl) (argsL := [(.int c0)]) (rest := []) (lenOf pd_20 rfl) rfl (by show 2 * 0 + _ ≤ _; exact Nat.le_of_eq rfl) (hb hby d10_39) (fun _ _ => ⟨rfl, e4, (by decide : 2 + 0 ≤ _), (by decide : 28 + 0 ≤ _)⟩)
  dsimp only [Pt.U, Pt.locs, Pt.cells, Pt.slots] at X5 l5 y5 z5 st5 hQ5
  subst l5 y5 z5
  obtain ⟨rfl, N5, e5⟩ := hQ5
  have Nf5 := Fr.app Nf4 N5
  refine Goes.via (st5) ?_
  refine Goes.via (S' := T5.setTop (mkF m 26 #[.val (.ref a1), .val (.ref a1), .val (.int (1 : Int32)), .val (.int c0)] [(.ref a1), (.int (1 : Int32))])) (fun tz kz => ?_) ?_
  · show Steps p.tables e below (T5.setTop (mkF m 42 #[.val (.ref a1), .val (.ref a1), .val (.int (0 : Int32)), .val (.int c0)] [(.int (0 : Int32))])) _
    refine XS.ifYes X5.here hx rfl (pc0 := 42) (pc' := 62) rfl (hb hby d10_42) rfl ((if0 _ _).trans (teq (by first | decide | rfl)).1) (by decide) (by decide) ?_
    refine XS.iinc X5.here hx rfl (hb hby d10_62) rfl (l' := #[.val (.ref a1), .val (.ref a1), .val (.int (1 : Int32)), .val (.int c0)]) rfl ?_
    refine XS.goto X5.here hx rfl (pc0 := 65) (pc' := 24) rfl (hb hby d10_65) (by decide) (by decide) ?_
    refine XS.iloadN X5.here hx rfl (hb hby d10_24) rfl ?_
    refine XS.aloadN X5.here hx rfl (hb hby d10_25) rfl rfl ?_
    exact kz
  obtain ⟨cq6, kq6, q6a, q6b, q6c⟩ := isOf hZ e5 S1.1
  obtain ⟨_, _, ⟨T6, L6, k6, n6⟩, -, X6, ⟨Lc6, hQ6, l6, y6, z6⟩, st6⟩ := X5.virtualBack hx (y := n_13) (z := n_13) hown (mvT hZ (w_ hw 114 rfl)) (mvT hZ (w_ hw 89 rfl)) (notFace_of_selects (args := #[]) (mvT hZ (w_ hw 91 rfl))) (mvT hZ (w_ hw 91 rfl)) (mvT hZ (w_ hw 90 rfl)) (by decide) (backOf (W := 1) (rlen l Z a0 hw [] a1 b k cs (1 : Int32) (2 : Int32) (1 : Int32) _ T2.heap n0 Z1 SC hcs O1 S1.1 S1.2.1 S1.2.2.1 S1.2.2.2 rfl rfl) hZ (w_ hw 92 rfl) (w_ hw 13 rfl) (by decide) (by decide)) q6a q6c (g := (mkF m 26 #[.val (.ref a1), .val (.ref a1), .val (.int (1 : Int32)), .val (.int c0)] [(.ref a1), (.int (1 : Int32))])) rfl (by rw [hml]; rfl) (Steps.refl _) (argsL := []) (rest := [(.int (1 : Int32))]) (lenOf pd_17 rfl) rfl (by show 2 * 0 + _ ≤ _; exact Nat.le_of_eq rfl) (hb hby d10_26) (fun _ _ => ⟨rfl, e5, (by decide : 2 + 0 ≤ _), (by decide : 28 + 0 ≤ _)⟩)
  dsimp only [Pt.U, Pt.locs, Pt.cells, Pt.slots] at X6 l6 y6 z6 st6 hQ6
  subst l6 y6 z6
  obtain ⟨rfl, N6, e6⟩ := hQ6
  have Nf6 := Fr.app Nf5 N6
  refine Goes.via (fun _ kz => st6.trans kz) ?_
  refine Goes.via (S' := T6.setTop (mkF m 69 #[.val (.ref a1), .val (.ref a1), .val (.int (1 : Int32)), .val (.int c0)] [(.ref a1)])) (fun tz kz => ?_) ?_
  · show Steps p.tables e below (T6.setTop (mkF m 29 #[.val (.ref a1), .val (.ref a1), .val (.int (1 : Int32)), .val (.int c0)] [(.int (1 : Int32)), (.int (1 : Int32))])) _
    refine XS.icmpYes X6.here hx rfl (pc0 := 29) (pc' := 68) rfl (hb hby d10_29) rfl (flt (by first | decide | rfl)).2.1 (by decide) (by decide) ?_
    refine XS.aloadN X6.here hx rfl (hb hby d10_68) rfl rfl ?_
    exact kz
  exact Goes.retOH (s := s) (vm1 := T2.vm) X6 hx Bd.notSynchronized hS2 (Nat.le_refl _) e6 hZ hEL hC2 Bd.returns rfl (Or.inr (Or.inr (Or.inr (Or.inr ⟨rfl, rfl, rfl⟩)))) (hb hby d10_69) (nb_ rfl) (nb_ rfl) (by rw [e6]; exact ⟨rfl, Nf6, K2⟩)
def Q_rnm_L2 (Z : State) (a1 : Addr) (b : Addr) (k : ClassId) (cs : Int32) (fv : Value) (c0 c1 : Int32) (h0 : Heap) (n0 : Nat) : Option Value → Heap → List Loc → Prop := fun v h L => v = some (.ref a1) ∧ Fr n0 L ∧ Keep h0 h []
theorem rnm_L2 (l : Launch) (Z : State) (a0 : Array Value) (hw : ∀ d ∈ tables_1, d.before a0 Z = true) (ws : List Jvm.Cond) (a1 : Addr) (b : Addr) (k : ClassId) (cs : Int32) (fv : Value) (c0 c1 : Int32) (h0 : Heap) (n0 : Nat) (Z0 : n0 ≤ h0.size) (SC : Sta Z Z.heap "java/lang/String" "COMPACT_STRINGS" "Z" (.int cs)) (hcs : ¬ cs = (0 : Int32)) (O0 : Old Z n0 h0) (SF : Sta Z Z.heap "jdk/internal/util/Preconditions" "SIOOBE_FORMATTER" "Ljava/util/function/BiFunction;" fv) (hfv : fv.isRef = true) (S : own_Str Z h0 a1 b k (2 : Int32) [.int (own_by c0), .int (own_by c1)]) (z0 : nar .char c0 = c0) (z1 : nar .char c1 = c1) (hf : own_nf c0) (s0 : ¬ (255 : Int32) < c0) (s1 : ¬ (255 : Int32) < c1) (t0 : own_nct c0) (t1 : own_nct c1) :
    MetFree l n_32 (head1 (Jvm.Cond.code n_32 prog_10_method_5_code 4 (some (.object "java/lang/String")) :: ws) ({ frames := 6, cells := 2, slots := 28, locals := 110 } : Room)) (fun a U => a = #[(.ref a1)] ∧ Z.Warmed39 U.vm ∧ U.heap = h0 ∧ CHv Z consts_1 U.vm h0) (fun _ _ _ _ _ => True) (fun _ U oo U' => ∃ vv LL, oo = .returned vv ∧ (Q_rnm_L2 Z a1 b k cs fv c0 c1 h0 n0) vv U'.heap LL ∧ CHr Z consts_1 U.vm U.heap U'.vm U'.heap ∧ ReturnedEndW U oo U' LL ({ frames := 6, cells := 2, slots := 28, locals := 110 } : Room).cells ({ frames := 6, cells := 2, slots := 28, locals := 110 } : Room).slots) := by
  refine MetFree.of_bodySF (plainFor_of_name pn_10) hisR ?_
  intro p e s m args below meth c s₁ Bd hml0 hP hK
  obtain ⟨rfl, hZ, hh, hH⟩ := hP
  have hx := Bd.exec
  have hby := Bd.bytes
  have hml : c.maxLocals = 4 := hml0
  have hown : s.vm.findClass "com/example/vestline/vestline/format/Csv" = some m.cls := findClass_of_methodNamed Bd.named
  have hnm := (name_of_methodNamed Bd.named Bd.method).1
  have X0 : Stand p l e ({ frames := 6, cells := 2, slots := 28, locals := 110 } : Room) s m #[(.ref a1)] below meth c s₁ [] 0 0 := Stand.of_body Bd
  have e0 : s₁.heap = h0 := by rw [← hh, Bd.state]; rfl
  have N0 := Fr.nil n0
  have hC0 : CHr Z consts_1 s.vm s.heap s.vm h0 := by rw [hh]; exact CHr.refl hH
  have hEL := own_EW hw
  show Goes p e below (FinH s Z consts_1 (Q_rnm_L2 Z a1 b k cs fv c0 c1 h0 n0) ({ frames := 6, cells := 2, slots := 28, locals := 110 } : Room).cells ({ frames := 6, cells := 2, slots := 28, locals := 110 } : Room).slots) _
  refine Goes.via (S' := s₁.setTop (mkF m 0 #[.val (.ref a1), .unset, .unset, .unset] [])) (fun tz kz => castTop (ef_10 m a1 ) kz) ?_
  refine Goes.via (S' := s₁.setTop (mkF m 1 #[.val (.ref a1), .unset, .unset, .unset] [(.ref a1)])) (fun tz kz => ?_) ?_
  · show Steps p.tables e below (s₁.setTop (mkF m 0 #[.val (.ref a1), .unset, .unset, .unset] [])) _
    refine XS.aloadN X0.here hx rfl (hb hby d10_0) rfl rfl ?_
    exact kz
  obtain ⟨cq1, kq1, q1a, q1b, q1c⟩ := isOf hZ e0 S.1
  obtain ⟨_, _, ⟨T1, L1, k1, n1⟩, -, X1, ⟨Lc1, hQ1, l1, y1, z1⟩, st1⟩ := X0.virtualBack hx (y := n_10) (z := n_10) hown (mvT hZ (w_ hw 45 rfl)) (mvT hZ (w_ hw 46 rfl)) (notFace_of_selects (args := #[]) (mvT hZ (w_ hw 48 rfl))) (mvT hZ (w_ hw 48 rfl)) (mvT hZ (w_ hw 47 rfl)) (by decide) (backOf (W := 0) (rie l Z a0 hw [] a1 b k (2 : Int32) _ h0 n0 Z0 S.2.2.1 S.2.2.2 (by decide)) hZ (w_ hw 49 rfl) (w_ hw 13 rfl) (by decide) (by decide)) q1a q1c (g := (mkF m 1 #[.val (.ref a1), .unset, .unset, .unset] [(.ref a1)])) rfl (by rw [hml]; rfl) (Steps.refl _) (argsL := []) (rest := []) (lenOf pd_11 rfl) rfl (by show 2 * 0 + _ ≤ _; exact Nat.le_of_eq rfl) (hb hby d10_1) (fun _ _ => ⟨rfl, e0, (by decide : 0 + 0 ≤ _), (by decide : 0 + 0 ≤ _)⟩)
  dsimp only [Pt.U, Pt.locs, Pt.cells, Pt.slots] at X1 l1 y1 z1 st1 hQ1
  subst l1 y1 z1
  obtain ⟨rfl, N1, e1⟩ := hQ1
  have Nf1 := Fr.app N0 N1
  refine Goes.via (fun _ kz => st1.trans kz) ?_
  refine Goes.via (S' := T1.setTop (mkF m 18 #[.val (.ref a1), .unset, .unset, .unset] [(.ref a1)])) (fun tz kz => ?_) ?_
  · show Steps p.tables e below (T1.setTop (mkF m 4 #[.val (.ref a1), .unset, .unset, .unset] [(.int (0 : Int32))])) _
    refine XS.ifYes X1.here hx rfl (pc0 := 4) (pc' := 17) rfl (hb hby d10_4) rfl ((if0 _ _).trans (teq (by first | decide | rfl)).1) (by decide) (by decide) ?_
    refine XS.aloadN X1.here hx rfl (hb hby d10_17) rfl rfl ?_
    exact kz
  obtain ⟨_, _, ⟨T2, L2, k2, n2⟩, -, X2, hs2, gs2, ⟨Lc2, hQ2, l2, y2, z2, hc2⟩, st2⟩ := callSS (show Stand p l e _ (s.setVm s.vm) m _ below meth c _ _ _ _ from X1) hx (y := n_29) hown (mvT hZ (w_ hw 50 rfl)) (mvT hZ (w_ hw 51 rfl)) (mvT hZ (w_ hw 43 rfl)) (mvT hZ (w_ hw 52 rfl)) (by decide) (backOfSH (s := s) (vm0 := s.vm) (W := 0) (rpr_L l Z a0 hw [] a1 b k cs (2 : Int32) c0 fv _ h0 n0 Z0 SC hcs O0 SF hfv S z0 hf ⟨by decide, by decide⟩ rfl s0 (by decide)) hZ (w_ hw 52 rfl) (w_ hw 43 rfl) (by decide) (by decide) hEL hC0.1) (g := (mkF m 18 #[.val (.ref a1), .unset, .unset, .unset] [(.ref a1)])) rfl (by rw [hml]; rfl) (argsL := [(.ref a1)]) (rest := []) (lenOf pd_19 rfl) rfl (by show 2 * 0 + _ ≤ _; exact Nat.le_of_eq rfl) (hb hby d10_18) (fun _ _ => ⟨rfl, e1, (by decide : 0 + 2 ≤ _), (by decide : 0 + 28 ≤ _)⟩)
  dsimp only [Pt.U, Pt.locs, Pt.cells, Pt.slots] at X2 l2 y2 z2 st2 hQ2 hs2 gs2 hc2
  subst l2 y2 z2
  obtain ⟨rfl, N2, K2⟩ := hQ2
  rw [e1] at gs2
  have hS2 : s.Since T2.vm T2.heap.size := own_fold ((State.WarmedH.refl s).since 0) (Nat.zero_le _) hs2 gs2
  have hC2 := hC0.trans hc2
  have hZ : Z.Warmed39 (s.setVm T2.vm).vm := State.Warmed39.trans (t := s.setVm s.vm) hZ hs2.1
  have hown : (s.setVm T2.vm).vm.findClass "com/example/vestline/vestline/format/Csv" = some m.cls := by rw [show (s.setVm T2.vm).vm = T2.vm from rfl, hs2.1.alike.findClass]; exact hown
  have Nf2 := Fr.app Nf1 N2
  refine Goes.via (fun _ kz => st2.trans kz) ?_
  have S1 := S.keep K2 nin0 nin0
  have O1 := O0.keep K2 all0
  have Z1 := Nat.le_trans Z0 K2.1
  refine Goes.via (S' := T2.setTop (mkF m 26 #[.val (.ref a1), .val (.ref a1), .val (.int (0 : Int32)), .unset] [(.ref a1), (.int (0 : Int32))])) (fun tz kz => ?_) ?_
  · show Steps p.tables e below (T2.setTop (mkF m 21 #[.val (.ref a1), .unset, .unset, .unset] [(.ref a1)])) _
    refine XS.astoreN X2.here hx rfl (hb hby d10_21) rfl rfl (l' := #[.val (.ref a1), .val (.ref a1), .unset, .unset]) rfl ?_
    refine XS.iconst X2.here hx rfl (hb hby d10_22) ?_
    refine XS.istoreN X2.here hx rfl (hb hby d10_23) rfl (l' := #[.val (.ref a1), .val (.ref a1), .val (.int (0 : Int32)), .unset]) rfl ?_
    refine XS.iloadN X2.here hx rfl (hb hby d10_24) rfl ?_
    refine XS.aloadN X2.here hx rfl (hb hby d10_25) rfl rfl ?_
    exact kz
  obtain ⟨cq3, kq3, q3a, q3b, q3c⟩ := isOf hZ rfl S1.1
  obtain ⟨_, _, ⟨T3, L3, k3, n3⟩, -, X3, ⟨Lc3, hQ3, l3, y3, z3⟩, st3⟩ := X2.virtualBack hx (y := n_13) (z := n_13) hown (mvT hZ (w_ hw 114 rfl)) (mvT hZ (w_ hw 89 rfl)) (notFace_of_selects (args := #[]) (mvT hZ (w_ hw 91 rfl))) (mvT hZ (w_ hw 91 rfl)) (mvT hZ (w_ hw 90 rfl)) (by decide) (backOf (W := 1) (rlen l Z a0 hw [] a1 b k cs (0 : Int32) (2 : Int32) (2 : Int32) _ T2.heap n0 Z1 SC hcs O1 S1.1 S1.2.1 S1.2.2.1 S1.2.2.2 rfl rfl) hZ (w_ hw 92 rfl) (w_ hw 13 rfl) (by decide) (by decide)) q3a q3c (g := (mkF m 26 #[.val (.ref a1), .val (.ref a1), .val (.int (0 : Int32)), .unset] [(.ref a1), (.int (0 : Int32))])) rfl (by rw [hml]; rfl) (Steps.refl _) (argsL := []) (rest := [(.int (0 : Int32))]) (lenOf pd_17 rfl) rfl (by show 2 * 0 + _ ≤ _; exact Nat.le_of_eq rfl) (hb hby d10_26) (fun _ _ => ⟨rfl, rfl, (by decide : 2 + 0 ≤ _), (by decide : 28 + 0 ≤ _)⟩)
  dsimp only [Pt.U, Pt.locs, Pt.cells, Pt.slots] at X3 l3 y3 z3 st3 hQ3
  subst l3 y3 z3
  obtain ⟨rfl, N3, e3⟩ := hQ3
  have Nf3 := Fr.app Nf2 N3
  refine Goes.via (fun _ kz => st3.trans kz) ?_
  refine Goes.via (S' := T3.setTop (mkF m 34 #[.val (.ref a1), .val (.ref a1), .val (.int (0 : Int32)), .unset] [(.int (0 : Int32)), (.ref a1)])) (fun tz kz => ?_) ?_
  · show Steps p.tables e below (T3.setTop (mkF m 29 #[.val (.ref a1), .val (.ref a1), .val (.int (0 : Int32)), .unset] [(.int (2 : Int32)), (.int (0 : Int32))])) _
    refine XS.icmpNo X3.here hx rfl (hb hby d10_29) rfl (tlt (by first | decide | rfl)).2.1 ?_
    refine XS.aloadN X3.here hx rfl (hb hby d10_32) rfl rfl ?_
    refine XS.iloadN X3.here hx rfl (hb hby d10_33) rfl ?_
    exact kz
  obtain ⟨cq4, kq4, q4a, q4b, q4c⟩ := isOf hZ e3 S1.1
  obtain ⟨_, _, ⟨T4, L4, k4, n4⟩, -, X4, ⟨Lc4, hQ4, l4, y4, z4⟩, st4⟩ := X3.virtualBack hx (y := n_17) (z := n_17) hown (mvT hZ (w_ hw 56 rfl)) (mvT hZ (w_ hw 57 rfl)) (notFace_of_selects (args := #[]) (mvT hZ (w_ hw 59 rfl))) (mvT hZ (w_ hw 59 rfl)) (mvT hZ (w_ hw 58 rfl)) (by decide) (backOf (W := 0) (rca_L l Z a0 hw [] a1 (0 : Int32) b k cs (2 : Int32) c0 fv _ T2.heap n0 Z1 SC hcs O1 SF hfv S1 z0 ⟨by decide, by decide⟩ rfl s0) hZ (w_ hw 60 rfl) (w_ hw 13 rfl) (by decide) (by decide)) q4a q4c (g := (mkF m 34 #[.val (.ref a1), .val (.ref a1), .val (.int (0 : Int32)), .unset] [(.int (0 : Int32)), (.ref a1)])) rfl (by rw [hml]; rfl) (Steps.refl _) (argsL := [(.int (0 : Int32))]) (rest := []) (lenOf pd_18 rfl) rfl (by show 2 * 0 + _ ≤ _; exact Nat.le_of_eq rfl) (hb hby d10_34) (fun _ _ => ⟨rfl, e3, (by decide : 2 + 0 ≤ _), (by decide : 28 + 0 ≤ _)⟩)
  dsimp only [Pt.U, Pt.locs, Pt.cells, Pt.slots] at X4 l4 y4 z4 st4 hQ4
  subst l4 y4 z4
  obtain ⟨rfl, N4, e4⟩ := hQ4
  have Nf4 := Fr.app Nf3 N4
  refine Goes.via (fun _ kz => st4.trans kz) ?_
  refine Goes.via (S' := T4.setTop (mkF m 39 #[.val (.ref a1), .val (.ref a1), .val (.int (0 : Int32)), .val (.int c0)] [(.int c0)])) (fun tz kz => ?_) ?_
  · show Steps p.tables e below (T4.setTop (mkF m 37 #[.val (.ref a1), .val (.ref a1), .val (.int (0 : Int32)), .unset] [(.int c0)])) _
    refine XS.istoreN X4.here hx rfl (hb hby d10_37) rfl (l' := #[.val (.ref a1), .val (.ref a1), .val (.int (0 : Int32)), .val (.int c0)]) rfl ?_
    refine XS.iloadN X4.here hx rfl (hb hby d10_38) rfl ?_
    exact kz
  obtain ⟨_, _, ⟨T5, L5, k5, n5⟩, -, X5, ⟨Lc5, hQ5, l5, y5, z5⟩, st5⟩ := Jvm.LawKit.callS X4 hx (y := n_31) hown (mvT hZ (w_ hw 115 rfl)) (mvT hZ (w_ hw 116 rfl)) (mvT hZ (w_ hw 117 rfl)) (mvT hZ (w_ hw 118 rfl)) (by decide) (backOf (W := 0) (risoc l Z a0 hw [] c0 T2.heap n0 Z1 t0) hZ (w_ hw 118 rfl) (w_ hw 117 rfl) (by decide) (by decide)) (g := (mkF m 39 #[.val (.ref a1), .val (.ref a1), .val (.int (0 : Int32)), .val (.int c0)] [(.int c0)])) rfl (by rw [hml]; rfl) (argsL := [(.int c0)]) (rest := []) (lenOf pd_20 rfl) rfl (by show 2 * 0 + _ ≤ _; exact Nat.le_of_eq rfl) (hb hby d10_39) (fun _ _ => ⟨rfl, e4, (by decide : 2 + 0 ≤ _), (by decide : 28 + 0 ≤ _)⟩)
  dsimp only [Pt.U, Pt.locs, Pt.cells, Pt.slots] at X5 l5 y5 z5 st5 hQ5
  subst l5 y5 z5
  obtain ⟨rfl, N5, e5⟩ := hQ5
  have Nf5 := Fr.app Nf4 N5
  refine Goes.via (st5) ?_
  refine Goes.via (S' := T5.setTop (mkF m 26 #[.val (.ref a1), .val (.ref a1), .val (.int (1 : Int32)), .val (.int c0)] [(.ref a1), (.int (1 : Int32))])) (fun tz kz => ?_) ?_
  · show Steps p.tables e below (T5.setTop (mkF m 42 #[.val (.ref a1), .val (.ref a1), .val (.int (0 : Int32)), .val (.int c0)] [(.int (0 : Int32))])) _
    refine XS.ifYes X5.here hx rfl (pc0 := 42) (pc' := 62) rfl (hb hby d10_42) rfl ((if0 _ _).trans (teq (by first | decide | rfl)).1) (by decide) (by decide) ?_
    refine XS.iinc X5.here hx rfl (hb hby d10_62) rfl (l' := #[.val (.ref a1), .val (.ref a1), .val (.int (1 : Int32)), .val (.int c0)]) rfl ?_
    refine XS.goto X5.here hx rfl (pc0 := 65) (pc' := 24) rfl (hb hby d10_65) (by decide) (by decide) ?_
    refine XS.iloadN X5.here hx rfl (hb hby d10_24) rfl ?_
    refine XS.aloadN X5.here hx rfl (hb hby d10_25) rfl rfl ?_
    exact kz
  obtain ⟨cq6, kq6, q6a, q6b, q6c⟩ := isOf hZ e5 S1.1
  obtain ⟨_, _, ⟨T6, L6, k6, n6⟩, -, X6, ⟨Lc6, hQ6, l6, y6, z6⟩, st6⟩ := X5.virtualBack hx (y := n_13) (z := n_13) hown (mvT hZ (w_ hw 114 rfl)) (mvT hZ (w_ hw 89 rfl)) (notFace_of_selects (args := #[]) (mvT hZ (w_ hw 91 rfl))) (mvT hZ (w_ hw 91 rfl)) (mvT hZ (w_ hw 90 rfl)) (by decide) (backOf (W := 1) (rlen l Z a0 hw [] a1 b k cs (0 : Int32) (2 : Int32) (2 : Int32) _ T2.heap n0 Z1 SC hcs O1 S1.1 S1.2.1 S1.2.2.1 S1.2.2.2 rfl rfl) hZ (w_ hw 92 rfl) (w_ hw 13 rfl) (by decide) (by decide)) q6a q6c (g := (mkF m 26 #[.val (.ref a1), .val (.ref a1), .val (.int (1 : Int32)), .val (.int c0)] [(.ref a1), (.int (1 : Int32))])) rfl (by rw [hml]; rfl) (Steps.refl _) (argsL := []) (rest := [(.int (1 : Int32))]) (lenOf pd_17 rfl) rfl (by show 2 * 0 + _ ≤ _; exact Nat.le_of_eq rfl) (hb hby d10_26) (fun _ _ => ⟨rfl, e5, (by decide : 2 + 0 ≤ _), (by decide : 28 + 0 ≤ _)⟩)
  dsimp only [Pt.U, Pt.locs, Pt.cells, Pt.slots] at X6 l6 y6 z6 st6 hQ6
  subst l6 y6 z6
  obtain ⟨rfl, N6, e6⟩ := hQ6
  have Nf6 := Fr.app Nf5 N6
  refine Goes.via (fun _ kz => st6.trans kz) ?_
  refine Goes.via (S' := T6.setTop (mkF m 34 #[.val (.ref a1), .val (.ref a1), .val (.int (1 : Int32)), .val (.int c0)] [(.int (1 : Int32)), (.ref a1)])) (fun tz kz => ?_) ?_
  · show Steps p.tables e below (T6.setTop (mkF m 29 #[.val (.ref a1), .val (.ref a1), .val (.int (1 : Int32)), .val (.int c0)] [(.int (2 : Int32)), (.int (1 : Int32))])) _
    refine XS.icmpNo X6.here hx rfl (hb hby d10_29) rfl (tlt (by first | decide | rfl)).2.1 ?_
    refine XS.aloadN X6.here hx rfl (hb hby d10_32) rfl rfl ?_
    refine XS.iloadN X6.here hx rfl (hb hby d10_33) rfl ?_
    exact kz
  obtain ⟨cq7, kq7, q7a, q7b, q7c⟩ := isOf hZ e6 S1.1
  obtain ⟨_, _, ⟨T7, L7, k7, n7⟩, -, X7, ⟨Lc7, hQ7, l7, y7, z7⟩, st7⟩ := X6.virtualBack hx (y := n_17) (z := n_17) hown (mvT hZ (w_ hw 56 rfl)) (mvT hZ (w_ hw 57 rfl)) (notFace_of_selects (args := #[]) (mvT hZ (w_ hw 59 rfl))) (mvT hZ (w_ hw 59 rfl)) (mvT hZ (w_ hw 58 rfl)) (by decide) (backOf (W := 0) (rca_L l Z a0 hw [] a1 (1 : Int32) b k cs (2 : Int32) c1 fv _ T2.heap n0 Z1 SC hcs O1 SF hfv S1 z1 ⟨by decide, by decide⟩ rfl s1) hZ (w_ hw 60 rfl) (w_ hw 13 rfl) (by decide) (by decide)) q7a q7c (g := (mkF m 34 #[.val (.ref a1), .val (.ref a1), .val (.int (1 : Int32)), .val (.int c0)] [(.int (1 : Int32)), (.ref a1)])) rfl (by rw [hml]; rfl) (Steps.refl _) (argsL := [(.int (1 : Int32))]) (rest := []) (lenOf pd_18 rfl) rfl (by show 2 * 0 + _ ≤ _; exact Nat.le_of_eq rfl) (hb hby d10_34) (fun _ _ => ⟨rfl, e6, (by decide : 2 + 0 ≤ _), (by decide : 28 + 0 ≤ _)⟩)
  dsimp only [Pt.U, Pt.locs, Pt.cells, Pt.slots] at X7 l7 y7 z7 st7 hQ7
  subst l7 y7 z7
  obtain ⟨rfl, N7, e7⟩ := hQ7
  have Nf7 := Fr.app Nf6 N7
  refine Goes.via (fun _ kz => st7.trans kz) ?_
  refine Goes.via (S' := T7.setTop (mkF m 39 #[.val (.ref a1), .val (.ref a1), .val (.int (1 : Int32)), .val (.int c1)] [(.int c1)])) (fun tz kz => ?_) ?_
  · show Steps p.tables e below (T7.setTop (mkF m 37 #[.val (.ref a1), .val (.ref a1), .val (.int (1 : Int32)), .val (.int c0)] [(.int c1)])) _
    refine XS.istoreN X7.here hx rfl (hb hby d10_37) rfl (l' := #[.val (.ref a1), .val (.ref a1), .val (.int (1 : Int32)), .val (.int c1)]) rfl ?_
    refine XS.iloadN X7.here hx rfl (hb hby d10_38) rfl ?_
    exact kz
  obtain ⟨_, _, ⟨T8, L8, k8, n8⟩, -, X8, ⟨Lc8, hQ8, l8, y8, z8⟩, st8⟩ := Jvm.LawKit.callS X7 hx (y := n_31) hown (mvT hZ (w_ hw 115 rfl)) (mvT hZ (w_ hw 116 rfl)) (mvT hZ (w_ hw 117 rfl)) (mvT hZ (w_ hw 118 rfl)) (by decide) (backOf (W := 0) (risoc l Z a0 hw [] c1 T2.heap n0 Z1 t1) hZ (w_ hw 118 rfl) (w_ hw 117 rfl) (by decide) (by decide)) (g := (mkF m 39 #[.val (.ref a1), .val (.ref a1), .val (.int (1 : Int32)), .val (.int c1)] [(.int c1)])) rfl (by rw [hml]; rfl) (argsL := [(.int c1)]) (rest := []) (lenOf pd_20 rfl) rfl (by show 2 * 0 + _ ≤ _; exact Nat.le_of_eq rfl) (hb hby d10_39) (fun _ _ => ⟨rfl, e7, (by decide : 2 + 0 ≤ _), (by decide : 28 + 0 ≤ _)⟩)
  dsimp only [Pt.U, Pt.locs, Pt.cells, Pt.slots] at X8 l8 y8 z8 st8 hQ8
  subst l8 y8 z8
  obtain ⟨rfl, N8, e8⟩ := hQ8
  have Nf8 := Fr.app Nf7 N8
  refine Goes.via (st8) ?_
  refine Goes.via (S' := T8.setTop (mkF m 26 #[.val (.ref a1), .val (.ref a1), .val (.int (2 : Int32)), .val (.int c1)] [(.ref a1), (.int (2 : Int32))])) (fun tz kz => ?_) ?_
  · show Steps p.tables e below (T8.setTop (mkF m 42 #[.val (.ref a1), .val (.ref a1), .val (.int (1 : Int32)), .val (.int c1)] [(.int (0 : Int32))])) _
    refine XS.ifYes X8.here hx rfl (pc0 := 42) (pc' := 62) rfl (hb hby d10_42) rfl ((if0 _ _).trans (teq (by first | decide | rfl)).1) (by decide) (by decide) ?_
    refine XS.iinc X8.here hx rfl (hb hby d10_62) rfl (l' := #[.val (.ref a1), .val (.ref a1), .val (.int (2 : Int32)), .val (.int c1)]) rfl ?_
    refine XS.goto X8.here hx rfl (pc0 := 65) (pc' := 24) rfl (hb hby d10_65) (by decide) (by decide) ?_
    refine XS.iloadN X8.here hx rfl (hb hby d10_24) rfl ?_
    refine XS.aloadN X8.here hx rfl (hb hby d10_25) rfl rfl ?_
    exact kz
  obtain ⟨cq9, kq9, q9a, q9b, q9c⟩ := isOf hZ e8 S1.1
  obtain ⟨_, _, ⟨T9, L9, k9, n9⟩, -, X9, ⟨Lc9, hQ9, l9, y9, z9⟩, st9⟩ := X8.virtualBack hx (y := n_13) (z := n_13) hown (mvT hZ (w_ hw 114 rfl)) (mvT hZ (w_ hw 89 rfl)) (notFace_of_selects (args := #[]) (mvT hZ (w_ hw 91 rfl))) (mvT hZ (w_ hw 91 rfl)) (mvT hZ (w_ hw 90 rfl)) (by decide) (backOf (W := 1) (rlen l Z a0 hw [] a1 b k cs (0 : Int32) (2 : Int32) (2 : Int32) _ T2.heap n0 Z1 SC hcs O1 S1.1 S1.2.1 S1.2.2.1 S1.2.2.2 rfl rfl) hZ (w_ hw 92 rfl) (w_ hw 13 rfl) (by decide) (by decide)) q9a q9c (g := (mkF m 26 #[.val (.ref a1), .val (.ref a1), .val (.int (2 : Int32)), .val (.int c1)] [(.ref a1), (.int (2 : Int32))])) rfl (by rw [hml]; rfl) (Steps.refl _) (argsL := []) (rest := [(.int (2 : Int32))]) (lenOf pd_17 rfl) rfl (by show 2 * 0 + _ ≤ _; exact Nat.le_of_eq rfl) (hb hby d10_26) (fun _ _ => ⟨rfl, e8, (by decide : 2 + 0 ≤ _), (by decide : 28 + 0 ≤ _)⟩)
  dsimp only [Pt.U, Pt.locs, Pt.cells, Pt.slots] at X9 l9 y9 z9 st9 hQ9
  subst l9 y9 z9
  obtain ⟨rfl, N9, e9⟩ := hQ9
  have Nf9 := Fr.app Nf8 N9
  refine Goes.via (fun _ kz => st9.trans kz) ?_
  refine Goes.via (S' := T9.setTop (mkF m 69 #[.val (.ref a1), .val (.ref a1), .val (.int (2 : Int32)), .val (.int c1)] [(.ref a1)])) (fun tz kz => ?_) ?_
  · show Steps p.tables e below (T9.setTop (mkF m 29 #[.val (.ref a1), .val (.ref a1), .val (.int (2 : Int32)), .val (.int c1)] [(.int (2 : Int32)), (.int (2 : Int32))])) _
    refine XS.icmpYes X9.here hx rfl (pc0 := 29) (pc' := 68) rfl (hb hby d10_29) rfl (flt (by first | decide | rfl)).2.1 (by decide) (by decide) ?_
    refine XS.aloadN X9.here hx rfl (hb hby d10_68) rfl rfl ?_
    exact kz
  exact Goes.retOH (s := s) (vm1 := T2.vm) X9 hx Bd.notSynchronized hS2 (Nat.le_refl _) e9 hZ hEL hC2 Bd.returns rfl (Or.inr (Or.inr (Or.inr (Or.inr ⟨rfl, rfl, rfl⟩)))) (hb hby d10_69) (nb_ rfl) (nb_ rfl) (by rw [e9]; exact ⟨rfl, Nf9, K2⟩)
def Q_rnm_U2 (Z : State) (a1 : Addr) (b : Addr) (k : ClassId) (cs : Int32) (fv : Value) (c0 c1 : Int32) (h0 : Heap) (n0 : Nat) : Option Value → Heap → List Loc → Prop := fun v h L => v = some (.ref a1) ∧ Fr n0 L ∧ Keep h0 h []
theorem rnm_U2 (l : Launch) (Z : State) (a0 : Array Value) (hw : ∀ d ∈ tables_1, d.before a0 Z = true) (ws : List Jvm.Cond) (a1 : Addr) (b : Addr) (k : ClassId) (cs : Int32) (fv : Value) (c0 c1 : Int32) (h0 : Heap) (n0 : Nat) (Z0 : n0 ≤ h0.size) (SC : Sta Z Z.heap "java/lang/String" "COMPACT_STRINGS" "Z" (.int cs)) (hcs : ¬ cs = (0 : Int32)) (O0 : Old Z n0 h0) (SF : Sta Z Z.heap "jdk/internal/util/Preconditions" "SIOOBE_FORMATTER" "Ljava/util/function/BiFunction;" fv) (hfv : fv.isRef = true) (SA : Sta Z Z.heap "java/lang/StringUTF16" "$assertionsDisabled" "Z" (.int (1 : Int32))) (SH : Sta Z Z.heap "java/lang/StringUTF16" "HI_BYTE_SHIFT" "I" (.int (0 : Int32))) (SL : Sta Z Z.heap "java/lang/StringUTF16" "LO_BYTE_SHIFT" "I" (.int (8 : Int32))) (S : own_StU Z h0 a1 b k (4 : Int32) [.int (own_lo c0), .int (own_hi c0), .int (own_lo c1), .int (own_hi c1)]) (z0 : nar .char c0 = c0) (z1 : nar .char c1 = c1) (hf : own_nf c0) (t0 : own_nct c0) (t1 : own_nct c1) :
    MetFree l n_32 (head1 (Jvm.Cond.code n_32 prog_10_method_5_code 4 (some (.object "java/lang/String")) :: ws) ({ frames := 6, cells := 2, slots := 28, locals := 110 } : Room)) (fun a U => a = #[(.ref a1)] ∧ Z.Warmed39 U.vm ∧ U.heap = h0 ∧ CHv Z consts_1 U.vm h0) (fun _ _ _ _ _ => True) (fun _ U oo U' => ∃ vv LL, oo = .returned vv ∧ (Q_rnm_U2 Z a1 b k cs fv c0 c1 h0 n0) vv U'.heap LL ∧ CHr Z consts_1 U.vm U.heap U'.vm U'.heap ∧ ReturnedEndW U oo U' LL ({ frames := 6, cells := 2, slots := 28, locals := 110 } : Room).cells ({ frames := 6, cells := 2, slots := 28, locals := 110 } : Room).slots) := by
  refine MetFree.of_bodySF (plainFor_of_name pn_10) hisR ?_
  intro p e s m args below meth c s₁ Bd hml0 hP hK
  obtain ⟨rfl, hZ, hh, hH⟩ := hP
  have hx := Bd.exec
  have hby := Bd.bytes
  have hml : c.maxLocals = 4 := hml0
  have hown : s.vm.findClass "com/example/vestline/vestline/format/Csv" = some m.cls := findClass_of_methodNamed Bd.named
  have hnm := (name_of_methodNamed Bd.named Bd.method).1
  have X0 : Stand p l e ({ frames := 6, cells := 2, slots := 28, locals := 110 } : Room) s m #[(.ref a1)] below meth c s₁ [] 0 0 := Stand.of_body Bd
  have e0 : s₁.heap = h0 := by rw [← hh, Bd.state]; rfl
  have N0 := Fr.nil n0
  have hC0 : CHr Z consts_1 s.vm s.heap s.vm h0 := by rw [hh]; exact CHr.refl hH
  have hEL := own_EW hw
  show Goes p e below (FinH s Z consts_1 (Q_rnm_U2 Z a1 b k cs fv c0 c1 h0 n0) ({ frames := 6, cells := 2, slots := 28, locals := 110 } : Room).cells ({ frames := 6, cells := 2, slots := 28, locals := 110 } : Room).slots) _
  refine Goes.via (S' := s₁.setTop (mkF m 0 #[.val (.ref a1), .unset, .unset, .unset] [])) (fun tz kz => castTop (ef_10 m a1 ) kz) ?_
  refine Goes.via (S' := s₁.setTop (mkF m 1 #[.val (.ref a1), .unset, .unset, .unset] [(.ref a1)])) (fun tz kz => ?_) ?_
  · show Steps p.tables e below (s₁.setTop (mkF m 0 #[.val (.ref a1), .unset, .unset, .unset] [])) _
    refine XS.aloadN X0.here hx rfl (hb hby d10_0) rfl rfl ?_
    exact kz
  obtain ⟨cq1, kq1, q1a, q1b, q1c⟩ := isOf hZ e0 S.1
  obtain ⟨_, _, ⟨T1, L1, k1, n1⟩, -, X1, ⟨Lc1, hQ1, l1, y1, z1⟩, st1⟩ := X0.virtualBack hx (y := n_10) (z := n_10) hown (mvT hZ (w_ hw 45 rfl)) (mvT hZ (w_ hw 46 rfl)) (notFace_of_selects (args := #[]) (mvT hZ (w_ hw 48 rfl))) (mvT hZ (w_ hw 48 rfl)) (mvT hZ (w_ hw 47 rfl)) (by decide) (backOf (W := 0) (rie l Z a0 hw [] a1 b k (4 : Int32) _ h0 n0 Z0 S.2.2.1 S.2.2.2 (by decide)) hZ (w_ hw 49 rfl) (w_ hw 13 rfl) (by decide) (by decide)) q1a q1c (g := (mkF m 1 #[.val (.ref a1), .unset, .unset, .unset] [(.ref a1)])) rfl (by rw [hml]; rfl) (Steps.refl _) (argsL := []) (rest := []) (lenOf pd_11 rfl) rfl (by show 2 * 0 + _ ≤ _; exact Nat.le_of_eq rfl) (hb hby d10_1) (fun _ _ => ⟨rfl, e0, (by decide : 0 + 0 ≤ _), (by decide : 0 + 0 ≤ _)⟩)
  dsimp only [Pt.U, Pt.locs, Pt.cells, Pt.slots] at X1 l1 y1 z1 st1 hQ1
  subst l1 y1 z1
  obtain ⟨rfl, N1, e1⟩ := hQ1
  have Nf1 := Fr.app N0 N1
  refine Goes.via (fun _ kz => st1.trans kz) ?_
  refine Goes.via (S' := T1.setTop (mkF m 18 #[.val (.ref a1), .unset, .unset, .unset] [(.ref a1)])) (fun tz kz => ?_) ?_
  · show Steps p.tables e below (T1.setTop (mkF m 4 #[.val (.ref a1), .unset, .unset, .unset] [(.int (0 : Int32))])) _
    refine XS.ifYes X1.here hx rfl (pc0 := 4) (pc' := 17) rfl (hb hby d10_4) rfl ((if0 _ _).trans (teq (by first | decide | rfl)).1) (by decide) (by decide) ?_
    refine XS.aloadN X1.here hx rfl (hb hby d10_17) rfl rfl ?_
    exact kz
  obtain ⟨_, _, ⟨T2, L2, k2, n2⟩, -, X2, hs2, gs2, ⟨Lc2, hQ2, l2, y2, z2, hc2⟩, st2⟩ := callSS (show Stand p l e _ (s.setVm s.vm) m _ below meth c _ _ _ _ from X1) hx (y := n_29) hown (mvT hZ (w_ hw 50 rfl)) (mvT hZ (w_ hw 51 rfl)) (mvT hZ (w_ hw 43 rfl)) (mvT hZ (w_ hw 52 rfl)) (by decide) (backOfSH (s := s) (vm0 := s.vm) (W := 0) (rpr_U l Z a0 hw [] a1 b k cs (4 : Int32) (2 : Int32) c0 fv _ h0 n0 Z0 SC hcs O0 SF hfv SA SH SL S z0 hf rfl ⟨by decide, by decide⟩ ⟨by decide, by decide⟩ ⟨by decide, by decide⟩ rfl rfl (by decide)) hZ (w_ hw 52 rfl) (w_ hw 43 rfl) (by decide) (by decide) hEL hC0.1) (g := (mkF m 18 #[.val (.ref a1), .unset, .unset, .unset] [(.ref a1)])) rfl (by rw [hml]; rfl) (argsL := [(.ref a1)]) (rest := []) (lenOf pd_19 rfl) rfl (by show 2 * 0 + _ ≤ _; exact Nat.le_of_eq rfl) (hb hby d10_18) (fun _ _ => ⟨rfl, e1, (by decide : 0 + 2 ≤ _), (by decide : 0 + 28 ≤ _)⟩)
  dsimp only [Pt.U, Pt.locs, Pt.cells, Pt.slots] at X2 l2 y2 z2 st2 hQ2 hs2 gs2 hc2
  subst l2 y2 z2
  obtain ⟨rfl, N2, K2⟩ := hQ2
  rw [e1] at gs2
  have hS2 : s.Since T2.vm T2.heap.size := own_fold ((State.WarmedH.refl s).since 0) (Nat.zero_le _) hs2 gs2
  have hC2 := hC0.trans hc2
  have hZ : Z.Warmed39 (s.setVm T2.vm).vm := State.Warmed39.trans (t := s.setVm s.vm) hZ hs2.1
  have hown : (s.setVm T2.vm).vm.findClass "com/example/vestline/vestline/format/Csv" = some m.cls := by rw [show (s.setVm T2.vm).vm = T2.vm from rfl, hs2.1.alike.findClass]; exact hown
  have Nf2 := Fr.app Nf1 N2
  refine Goes.via (fun _ kz => st2.trans kz) ?_
  have S1 := S.keep K2 nin0 nin0
  have O1 := O0.keep K2 all0
  have Z1 := Nat.le_trans Z0 K2.1
  refine Goes.via (S' := T2.setTop (mkF m 26 #[.val (.ref a1), .val (.ref a1), .val (.int (0 : Int32)), .unset] [(.ref a1), (.int (0 : Int32))])) (fun tz kz => ?_) ?_
  · show Steps p.tables e below (T2.setTop (mkF m 21 #[.val (.ref a1), .unset, .unset, .unset] [(.ref a1)])) _
    refine XS.astoreN X2.here hx rfl (hb hby d10_21) rfl rfl (l' := #[.val (.ref a1), .val (.ref a1), .unset, .unset]) rfl ?_
    refine XS.iconst X2.here hx rfl (hb hby d10_22) ?_
    refine XS.istoreN X2.here hx rfl (hb hby d10_23) rfl (l' := #[.val (.ref a1), .val (.ref a1), .val (.int (0 : Int32)), .unset]) rfl ?_
    refine XS.iloadN X2.here hx rfl (hb hby d10_24) rfl ?_
    refine XS.aloadN X2.here hx rfl (hb hby d10_25) rfl rfl ?_
    exact kz
  obtain ⟨cq3, kq3, q3a, q3b, q3c⟩ := isOf hZ rfl S1.1
  obtain ⟨_, _, ⟨T3, L3, k3, n3⟩, -, X3, ⟨Lc3, hQ3, l3, y3, z3⟩, st3⟩ := X2.virtualBack hx (y := n_13) (z := n_13) hown (mvT hZ (w_ hw 114 rfl)) (mvT hZ (w_ hw 89 rfl)) (notFace_of_selects (args := #[]) (mvT hZ (w_ hw 91 rfl))) (mvT hZ (w_ hw 91 rfl)) (mvT hZ (w_ hw 90 rfl)) (by decide) (backOf (W := 1) (rlen l Z a0 hw [] a1 b k cs (1 : Int32) (4 : Int32) (2 : Int32) _ T2.heap n0 Z1 SC hcs O1 S1.1 S1.2.1 S1.2.2.1 S1.2.2.2 rfl rfl) hZ (w_ hw 92 rfl) (w_ hw 13 rfl) (by decide) (by decide)) q3a q3c (g := (mkF m 26 #[.val (.ref a1), .val (.ref a1), .val (.int (0 : Int32)), .unset] [(.ref a1), (.int (0 : Int32))])) rfl (by rw [hml]; rfl) (Steps.refl _) (argsL := []) (rest := [(.int (0 : Int32))]) (lenOf pd_17 rfl) rfl (by show 2 * 0 + _ ≤ _; exact Nat.le_of_eq rfl) (hb hby d10_26) (fun _ _ => ⟨rfl, rfl, (by decide : 2 + 0 ≤ _), (by decide : 28 + 0 ≤ _)⟩)
  dsimp only [Pt.U, Pt.locs, Pt.cells, Pt.slots] at X3 l3 y3 z3 st3 hQ3
  subst l3 y3 z3
  obtain ⟨rfl, N3, e3⟩ := hQ3
  have Nf3 := Fr.app Nf2 N3
  refine Goes.via (fun _ kz => st3.trans kz) ?_
  refine Goes.via (S' := T3.setTop (mkF m 34 #[.val (.ref a1), .val (.ref a1), .val (.int (0 : Int32)), .unset] [(.int (0 : Int32)), (.ref a1)])) (fun tz kz => ?_) ?_
  · show Steps p.tables e below (T3.setTop (mkF m 29 #[.val (.ref a1), .val (.ref a1), .val (.int (0 : Int32)), .unset] [(.int (2 : Int32)), (.int (0 : Int32))])) _
    refine XS.icmpNo X3.here hx rfl (hb hby d10_29) rfl (tlt (by first | decide | rfl)).2.1 ?_
    refine XS.aloadN X3.here hx rfl (hb hby d10_32) rfl rfl ?_
    refine XS.iloadN X3.here hx rfl (hb hby d10_33) rfl ?_
    exact kz
  obtain ⟨cq4, kq4, q4a, q4b, q4c⟩ := isOf hZ e3 S1.1
  obtain ⟨_, _, ⟨T4, L4, k4, n4⟩, -, X4, ⟨Lc4, hQ4, l4, y4, z4⟩, st4⟩ := X3.virtualBack hx (y := n_17) (z := n_17) hown (mvT hZ (w_ hw 56 rfl)) (mvT hZ (w_ hw 57 rfl)) (notFace_of_selects (args := #[]) (mvT hZ (w_ hw 59 rfl))) (mvT hZ (w_ hw 59 rfl)) (mvT hZ (w_ hw 58 rfl)) (by decide) (backOf (W := 0) (rca_U l Z a0 hw [] a1 (0 : Int32) b k cs (4 : Int32) (2 : Int32) (0 : Int32) (1 : Int32) c0 fv _ T2.heap n0 Z1 SC hcs O1 SF hfv SA SH SL S1 z0 rfl ⟨by decide, by decide⟩ rfl rfl ⟨by decide, by decide⟩ ⟨by decide, by decide⟩ rfl rfl) hZ (w_ hw 60 rfl) (w_ hw 13 rfl) (by decide) (by decide)) q4a q4c (g := (mkF m 34 #[.val (.ref a1), .val (.ref a1), .val (.int (0 : Int32)), .unset] [(.int (0 : Int32)), (.ref a1)])) rfl (by rw [hml]; rfl) (Steps.refl _) (argsL := [(.int (0 : Int32))]) (rest := []) (lenOf pd_18 rfl) rfl (by show 2 * 0 + _ ≤ _; exact Nat.le_of_eq rfl) (hb hby d10_34) (fun _ _ => ⟨rfl, e3, (by decide : 2 + 0 ≤ _), (by decide : 28 + 0 ≤ _)⟩)
  dsimp only [Pt.U, Pt.locs, Pt.cells, Pt.slots] at X4 l4 y4 z4 st4 hQ4
  subst l4 y4 z4
  obtain ⟨rfl, N4, e4⟩ := hQ4
  have Nf4 := Fr.app Nf3 N4
  refine Goes.via (fun _ kz => st4.trans kz) ?_
  refine Goes.via (S' := T4.setTop (mkF m 39 #[.val (.ref a1), .val (.ref a1), .val (.int (0 : Int32)), .val (.int c0)] [(.int c0)])) (fun tz kz => ?_) ?_
  · show Steps p.tables e below (T4.setTop (mkF m 37 #[.val (.ref a1), .val (.ref a1), .val (.int (0 : Int32)), .unset] [(.int c0)])) _
    refine XS.istoreN X4.here hx rfl (hb hby d10_37) rfl (l' := #[.val (.ref a1), .val (.ref a1), .val (.int (0 : Int32)), .val (.int c0)]) rfl ?_
    refine XS.iloadN X4.here hx rfl (hb hby d10_38) rfl ?_
    exact kz
  obtain ⟨_, _, ⟨T5, L5, k5, n5⟩, -, X5, ⟨Lc5, hQ5, l5, y5, z5⟩, st5⟩ := Jvm.LawKit.callS X4 hx (y := n_31) hown (mvT hZ (w_ hw 115 rfl)) (mvT hZ (w_ hw 116 rfl)) (mvT hZ (w_ hw 117 rfl)) (mvT hZ (w_ hw 118 rfl)) (by decide) (backOf (W := 0) (risoc l Z a0 hw [] c0 T2.heap n0 Z1 t0) hZ (w_ hw 118 rfl) (w_ hw 117 rfl) (by decide) (by decide)) (g := (mkF m 39 #[.val (.ref a1), .val (.ref a1), .val (.int (0 : Int32)), .val (.int c0)] [(.int c0)])) rfl (by rw [hml]; rfl) (argsL := [(.int c0)]) (rest := []) (lenOf pd_20 rfl) rfl (by show 2 * 0 + _ ≤ _; exact Nat.le_of_eq rfl) (hb hby d10_39) (fun _ _ => ⟨rfl, e4, (by decide : 2 + 0 ≤ _), (by decide : 28 + 0 ≤ _)⟩)
  dsimp only [Pt.U, Pt.locs, Pt.cells, Pt.slots] at X5 l5 y5 z5 st5 hQ5
  subst l5 y5 z5
  obtain ⟨rfl, N5, e5⟩ := hQ5
  have Nf5 := Fr.app Nf4 N5
  refine Goes.via (st5) ?_
  refine Goes.via (S' := T5.setTop (mkF m 26 #[.val (.ref a1), .val (.ref a1), .val (.int (1 : Int32)), .val (.int c0)] [(.ref a1), (.int (1 : Int32))])) (fun tz kz => ?_) ?_
  · show Steps p.tables e below (T5.setTop (mkF m 42 #[.val (.ref a1), .val (.ref a1), .val (.int (0 : Int32)), .val (.int c0)] [(.int (0 : Int32))])) _
    refine XS.ifYes X5.here hx rfl (pc0 := 42) (pc' := 62) rfl (hb hby d10_42) rfl ((if0 _ _).trans (teq (by first | decide | rfl)).1) (by decide) (by decide) ?_
    refine XS.iinc X5.here hx rfl (hb hby d10_62) rfl (l' := #[.val (.ref a1), .val (.ref a1), .val (.int (1 : Int32)), .val (.int c0)]) rfl ?_
    refine XS.goto X5.here hx rfl (pc0 := 65) (pc' := 24) rfl (hb hby d10_65) (by decide) (by decide) ?_
    refine XS.iloadN X5.here hx rfl (hb hby d10_24) rfl ?_
    refine XS.aloadN X5.here hx rfl (hb hby d10_25) rfl rfl ?_
    exact kz
  obtain ⟨cq6, kq6, q6a, q6b, q6c⟩ := isOf hZ e5 S1.1
  obtain ⟨_, _, ⟨T6, L6, k6, n6⟩, -, X6, ⟨Lc6, hQ6, l6, y6, z6⟩, st6⟩ := X5.virtualBack hx (y := n_13) (z := n_13) hown (mvT hZ (w_ hw 114 rfl)) (mvT hZ (w_ hw 89 rfl)) (notFace_of_selects (args := #[]) (mvT hZ (w_ hw 91 rfl))) (mvT hZ (w_ hw 91 rfl)) (mvT hZ (w_ hw 90 rfl)) (by decide) (backOf (W := 1) (rlen l Z a0 hw [] a1 b k cs (1 : Int32) (4 : Int32) (2 : Int32) _ T2.heap n0 Z1 SC hcs O1 S1.1 S1.2.1 S1.2.2.1 S1.2.2.2 rfl rfl) hZ (w_ hw 92 rfl) (w_ hw 13 rfl) (by decide) (by decide)) q6a q6c (g := (mkF m 26 #[.val (.ref a1), .val (.ref a1), .val (.int (1 : Int32)), .val (.int c0)] [(.ref a1), (.int (1 : Int32))])) rfl (by rw [hml]; rfl) (Steps.refl _) (argsL := []) (rest := [(.int (1 : Int32))]) (lenOf pd_17 rfl) rfl (by show 2 * 0 + _ ≤ _; exact Nat.le_of_eq rfl) (hb hby d10_26) (fun _ _ => ⟨rfl, e5, (by decide : 2 + 0 ≤ _), (by decide : 28 + 0 ≤ _)⟩)
  dsimp only [Pt.U, Pt.locs, Pt.cells, Pt.slots] at X6 l6 y6 z6 st6 hQ6
  subst l6 y6 z6
  obtain ⟨rfl, N6, e6⟩ := hQ6
  have Nf6 := Fr.app Nf5 N6
  refine Goes.via (fun _ kz => st6.trans kz) ?_
  refine Goes.via (S' := T6.setTop (mkF m 34 #[.val (.ref a1), .val (.ref a1), .val (.int (1 : Int32)), .val (.int c0)] [(.int (1 : Int32)), (.ref a1)])) (fun tz kz => ?_) ?_
  · show Steps p.tables e below (T6.setTop (mkF m 29 #[.val (.ref a1), .val (.ref a1), .val (.int (1 : Int32)), .val (.int c0)] [(.int (2 : Int32)), (.int (1 : Int32))])) _
    refine XS.icmpNo X6.here hx rfl (hb hby d10_29) rfl (tlt (by first | decide | rfl)).2.1 ?_
    refine XS.aloadN X6.here hx rfl (hb hby d10_32) rfl rfl ?_
    refine XS.iloadN X6.here hx rfl (hb hby d10_33) rfl ?_
    exact kz
  obtain ⟨cq7, kq7, q7a, q7b, q7c⟩ := isOf hZ e6 S1.1
  obtain ⟨_, _, ⟨T7, L7, k7, n7⟩, -, X7, ⟨Lc7, hQ7, l7, y7, z7⟩, st7⟩ := X6.virtualBack hx (y := n_17) (z := n_17) hown (mvT hZ (w_ hw 56 rfl)) (mvT hZ (w_ hw 57 rfl)) (notFace_of_selects (args := #[]) (mvT hZ (w_ hw 59 rfl))) (mvT hZ (w_ hw 59 rfl)) (mvT hZ (w_ hw 58 rfl)) (by decide) (backOf (W := 0) (rca_U l Z a0 hw [] a1 (1 : Int32) b k cs (4 : Int32) (2 : Int32) (2 : Int32) (3 : Int32) c1 fv _ T2.heap n0 Z1 SC hcs O1 SF hfv SA SH SL S1 z1 rfl ⟨by decide, by decide⟩ rfl rfl ⟨by decide, by decide⟩ ⟨by decide, by decide⟩ rfl rfl) hZ (w_ hw 60 rfl) (w_ hw 13 rfl) (by decide) (by decide)) q7a q7c (g := (mkF m 34 #[.val (.ref a1), .val (.ref a1), .val (.int (1 : Int32)), .val (.int c0)] [(.int (1 : Int32)), (.ref a1)])) rfl (by rw [hml]; rfl) (Steps.refl _) (argsL := [(.int (1 : Int32))]) (rest := []) (lenOf pd_18 rfl) rfl (by show 2 * 0 + _ ≤ _; exact Nat.le_of_eq rfl) (hb hby d10_34) (fun _ _ => ⟨rfl, e6, (by decide : 2 + 0 ≤ _), (by decide : 28 + 0 ≤ _)⟩)
  dsimp only [Pt.U, Pt.locs, Pt.cells, Pt.slots] at X7 l7 y7 z7 st7 hQ7
  subst l7 y7 z7
  obtain ⟨rfl, N7, e7⟩ := hQ7
  have Nf7 := Fr.app Nf6 N7
  refine Goes.via (fun _ kz => st7.trans kz) ?_
  refine Goes.via (S' := T7.setTop (mkF m 39 #[.val (.ref a1), .val (.ref a1), .val (.int (1 : Int32)), .val (.int c1)] [(.int c1)])) (fun tz kz => ?_) ?_
  · show Steps p.tables e below (T7.setTop (mkF m 37 #[.val (.ref a1), .val (.ref a1), .val (.int (1 : Int32)), .val (.int c0)] [(.int c1)])) _
    refine XS.istoreN X7.here hx rfl (hb hby d10_37) rfl (l' := #[.val (.ref a1), .val (.ref a1), .val (.int (1 : Int32)), .val (.int c1)]) rfl ?_
    refine XS.iloadN X7.here hx rfl (hb hby d10_38) rfl ?_
    exact kz
  obtain ⟨_, _, ⟨T8, L8, k8, n8⟩, -, X8, ⟨Lc8, hQ8, l8, y8, z8⟩, st8⟩ := Jvm.LawKit.callS X7 hx (y := n_31) hown (mvT hZ (w_ hw 115 rfl)) (mvT hZ (w_ hw 116 rfl)) (mvT hZ (w_ hw 117 rfl)) (mvT hZ (w_ hw 118 rfl)) (by decide) (backOf (W := 0) (risoc l Z a0 hw [] c1 T2.heap n0 Z1 t1) hZ (w_ hw 118 rfl) (w_ hw 117 rfl) (by decide) (by decide)) (g := (mkF m 39 #[.val (.ref a1), .val (.ref a1), .val (.int (1 : Int32)), .val (.int c1)] [(.int c1)])) rfl (by rw [hml]; rfl) (argsL := [(.int c1)]) (rest := []) (lenOf pd_20 rfl) rfl (by show 2 * 0 + _ ≤ _; exact Nat.le_of_eq rfl) (hb hby d10_39) (fun _ _ => ⟨rfl, e7, (by decide : 2 + 0 ≤ _), (by decide : 28 + 0 ≤ _)⟩)
  dsimp only [Pt.U, Pt.locs, Pt.cells, Pt.slots] at X8 l8 y8 z8 st8 hQ8
  subst l8 y8 z8
  obtain ⟨rfl, N8, e8⟩ := hQ8
  have Nf8 := Fr.app Nf7 N8
  refine Goes.via (st8) ?_
  refine Goes.via (S' := T8.setTop (mkF m 26 #[.val (.ref a1), .val (.ref a1), .val (.int (2 : Int32)), .val (.int c1)] [(.ref a1), (.int (2 : Int32))])) (fun tz kz => ?_) ?_
  · show Steps p.tables e below (T8.setTop (mkF m 42 #[.val (.ref a1), .val (.ref a1), .val (.int (1 : Int32)), .val (.int c1)] [(.int (0 : Int32))])) _
    refine XS.ifYes X8.here hx rfl (pc0 := 42) (pc' := 62) rfl (hb hby d10_42) rfl ((if0 _ _).trans (teq (by first | decide | rfl)).1) (by decide) (by decide) ?_
    refine XS.iinc X8.here hx rfl (hb hby d10_62) rfl (l' := #[.val (.ref a1), .val (.ref a1), .val (.int (2 : Int32)), .val (.int c1)]) rfl ?_
    refine XS.goto X8.here hx rfl (pc0 := 65) (pc' := 24) rfl (hb hby d10_65) (by decide) (by decide) ?_
    refine XS.iloadN X8.here hx rfl (hb hby d10_24) rfl ?_
    refine XS.aloadN X8.here hx rfl (hb hby d10_25) rfl rfl ?_
    exact kz
  obtain ⟨cq9, kq9, q9a, q9b, q9c⟩ := isOf hZ e8 S1.1
  obtain ⟨_, _, ⟨T9, L9, k9, n9⟩, -, X9, ⟨Lc9, hQ9, l9, y9, z9⟩, st9⟩ := X8.virtualBack hx (y := n_13) (z := n_13) hown (mvT hZ (w_ hw 114 rfl)) (mvT hZ (w_ hw 89 rfl)) (notFace_of_selects (args := #[]) (mvT hZ (w_ hw 91 rfl))) (mvT hZ (w_ hw 91 rfl)) (mvT hZ (w_ hw 90 rfl)) (by decide) (backOf (W := 1) (rlen l Z a0 hw [] a1 b k cs (1 : Int32) (4 : Int32) (2 : Int32) _ T2.heap n0 Z1 SC hcs O1 S1.1 S1.2.1 S1.2.2.1 S1.2.2.2 rfl rfl) hZ (w_ hw 92 rfl) (w_ hw 13 rfl) (by decide) (by decide)) q9a q9c (g := (mkF m 26 #[.val (.ref a1), .val (.ref a1), .val (.int (2 : Int32)), .val (.int c1)] [(.ref a1), (.int (2 : Int32))])) rfl (by rw [hml]; rfl) (Steps.refl _) (argsL := []) (rest := [(.int (2 : Int32))]) (lenOf pd_17 rfl) rfl (by show 2 * 0 + _ ≤ _; exact Nat.le_of_eq rfl) (hb hby d10_26) (fun _ _ => ⟨rfl, e8, (by decide : 2 + 0 ≤ _), (by decide : 28 + 0 ≤ _)⟩)
  dsimp only [Pt.U, Pt.locs, Pt.cells, Pt.slots] at X9 l9 y9 z9 st9 hQ9
  subst l9 y9 z9
  obtain ⟨rfl, N9, e9⟩ := hQ9
  have Nf9 := Fr.app Nf8 N9
  refine Goes.via (fun _ kz => st9.trans kz) ?_
  refine Goes.via (S' := T9.setTop (mkF m 69 #[.val (.ref a1), .val (.ref a1), .val (.int (2 : Int32)), .val (.int c1)] [(.ref a1)])) (fun tz kz => ?_) ?_
  · show Steps p.tables e below (T9.setTop (mkF m 29 #[.val (.ref a1), .val (.ref a1), .val (.int (2 : Int32)), .val (.int c1)] [(.int (2 : Int32)), (.int (2 : Int32))])) _
    refine XS.icmpYes X9.here hx rfl (pc0 := 29) (pc' := 68) rfl (hb hby d10_29) rfl (flt (by first | decide | rfl)).2.1 (by decide) (by decide) ?_
    refine XS.aloadN X9.here hx rfl (hb hby d10_68) rfl rfl ?_
    exact kz
  exact Goes.retOH (s := s) (vm1 := T2.vm) X9 hx Bd.notSynchronized hS2 (Nat.le_refl _) e9 hZ hEL hC2 Bd.returns rfl (Or.inr (Or.inr (Or.inr (Or.inr ⟨rfl, rfl, rfl⟩)))) (hb hby d10_69) (nb_ rfl) (nb_ rfl) (by rw [e9]; exact ⟨rfl, Nf9, K2⟩)
def Q_rnm_L3 (Z : State) (a1 : Addr) (b : Addr) (k : ClassId) (cs : Int32) (fv : Value) (c0 c1 c2 : Int32) (h0 : Heap) (n0 : Nat) : Option Value → Heap → List Loc → Prop := fun v h L => v = some (.ref a1) ∧ Fr n0 L ∧ Keep h0 h []
theorem rnm_L3 (l : Launch) (Z : State) (a0 : Array Value) (hw : ∀ d ∈ tables_1, d.before a0 Z = true) (ws : List Jvm.Cond) (a1 : Addr) (b : Addr) (k : ClassId) (cs : Int32) (fv : Value) (c0 c1 c2 : Int32) (h0 : Heap) (n0 : Nat) (Z0 : n0 ≤ h0.size) (SC : Sta Z Z.heap "java/lang/String" "COMPACT_STRINGS" "Z" (.int cs)) (hcs : ¬ cs = (0 : Int32)) (O0 : Old Z n0 h0) (SF : Sta Z Z.heap "jdk/internal/util/Preconditions" "SIOOBE_FORMATTER" "Ljava/util/function/BiFunction;" fv) (hfv : fv.isRef = true) (S : own_Str Z h0 a1 b k (3 : Int32) [.int (own_by c0), .int (own_by c1), .int (own_by c2)]) (z0 : nar .char c0 = c0) (z1 : nar .char c1 = c1) (z2 : nar .char c2 = c2) (hf : own_nf c0) (s0 : ¬ (255 : Int32) < c0) (s1 : ¬ (255 : Int32) < c1) (s2 : ¬ (255 : Int32) < c2) (t0 : own_nct c0) (t1 : own_nct c1) (t2 : own_nct c2) :
    MetFree l n_32 (head1 (Jvm.Cond.code n_32 prog_10_method_5_code 4 (some (.object "java/lang/String")) :: ws) ({ frames := 6, cells := 2, slots := 28, locals := 110 } : Room)) (fun a U => a = #[(.ref a1)] ∧ Z.Warmed39 U.vm ∧ U.heap = h0 ∧ CHv Z consts_1 U.vm h0) (fun _ _ _ _ _ => True) (fun _ U oo U' => ∃ vv LL, oo = .returned vv ∧ (Q_rnm_L3 Z a1 b k cs fv c0 c1 c2 h0 n0) vv U'.heap LL ∧ CHr Z consts_1 U.vm U.heap U'.vm U'.heap ∧ ReturnedEndW U oo U' LL ({ frames := 6, cells := 2, slots := 28, locals := 110 } : Room).cells ({ frames := 6, cells := 2, slots := 28, locals := 110 } : Room).slots) := by
  refine MetFree.of_bodySF (plainFor_of_name pn_10) hisR ?_
  intro p e s m args below meth c s₁ Bd hml0 hP hK
  obtain ⟨rfl, hZ, hh, hH⟩ := hP
  have hx := Bd.exec
  have hby := Bd.bytes
  have hml : c.maxLocals = 4 := hml0
  have hown : s.vm.findClass "com/example/vestline/vestline/format/Csv" = some m.cls := findClass_of_methodNamed Bd.named
  have hnm := (name_of_methodNamed Bd.named Bd.method).1
  have X0 : Stand p l e ({ frames := 6, cells := 2, slots := 28, locals := 110 } : Room) s m #[(.ref a1)] below meth c s₁ [] 0 0 := Stand.of_body Bd
  have e0 : s₁.heap = h0 := by rw [← hh, Bd.state]; rfl
  have N0 := Fr.nil n0
  have hC0 : CHr Z consts_1 s.vm s.heap s.vm h0 := by rw [hh]; exact CHr.refl hH
  have hEL := own_EW hw
  show Goes p e below (FinH s Z consts_1 (Q_rnm_L3 Z a1 b k cs fv c0 c1 c2 h0 n0) ({ frames := 6, cells := 2, slots := 28, locals := 110 } : Room).cells ({ frames := 6, cells := 2, slots := 28, locals := 110 } : Room).slots) _
  refine Goes.via (S' := s₁.setTop (mkF m 0 #[.val (.ref a1), .unset, .unset, .unset] [])) (fun tz kz => castTop (ef_10 m a1 ) kz) ?_
  refine Goes.via (S' := s₁.setTop (mkF m 1 #[.val (.ref a1), .unset, .unset, .unset] [(.ref a1)])) (fun tz kz => ?_) ?_
  · show Steps p.tables e below (s₁.setTop (mkF m 0 #[.val (.ref a1), .unset, .unset, .unset] [])) _
    refine XS.aloadN X0.here hx rfl (hb hby d10_0) rfl rfl ?_
    exact kz
  obtain ⟨cq1, kq1, q1a, q1b, q1c⟩ := isOf hZ e0 S.1
  obtain ⟨_, _, ⟨T1, L1, k1, n1⟩, -, X1, ⟨Lc1, hQ1, l1, y1, z1⟩, st1⟩ := X0.virtualBack hx (y := n_10) (z := n_10) hown (mvT hZ (w_ hw 45 rfl)) (mvT hZ (w_ hw 46 rfl)) (notFace_of_selects (args := #[]) (mvT hZ (w_ hw 48 rfl))) (mvT hZ (w_ hw 48 rfl)) (mvT hZ (w_ hw 47 rfl)) (by decide) (backOf (W := 0) (rie l Z a0 hw [] a1 b k (3 : Int32) _ h0 n0 Z0 S.2.2.1 S.2.2.2 (by decide)) hZ (w_ hw 49 rfl) (w_ hw 13 rfl) (by decide) (by decide)) q1a q1c (g := (mkF m 1 #[.val (.ref a1), .unset, .unset, .unset] [(.ref a1)])) rfl (by rw [hml]; rfl) (Steps.refl _) (argsL := []) (rest := []) (lenOf pd_11 rfl) rfl (by show 2 * 0 + _ ≤ _; exact Nat.le_of_eq rfl) (hb hby d10_1) (fun _ _ => ⟨rfl, e0, (by decide : 0 + 0 ≤ _), (by decide : 0 + 0 ≤ _)⟩)
  dsimp only [Pt.U, Pt.locs, Pt.cells, Pt.slots] at X1 l1 y1 z1 st1 hQ1
  subst l1 y1 z1
  obtain ⟨rfl, N1, e1⟩ := hQ1
  have Nf1 := Fr.app N0 N1
  refine Goes.via (fun _ kz => st1.trans kz) ?_
  refine Goes.via (S' := T1.setTop (mkF m 18 #[.val (.ref a1), .unset, .unset, .unset] [(.ref a1)])) (fun tz kz => ?_) ?_
  · show Steps p.tables e below (T1.setTop (mkF m 4 #[.val (.ref a1), .unset, .unset, .unset] [(.int (0 : Int32))])) _
    refine XS.ifYes X1.here hx rfl (pc0 := 4) (pc' := 17) rfl (hb hby d10_4) rfl ((if0 _ _).trans (teq (by first | decide | rfl)).1) (by decide) (by decide) ?_
    refine XS.aloadN X1.here hx rfl (hb hby d10_17) rfl rfl ?_
    exact kz
  obtain ⟨_, _, ⟨T2, L2, k2, n2⟩, -, X2, hs2, gs2, ⟨Lc2, hQ2, l2, y2, z2, hc2⟩, st2⟩ := callSS (show Stand p l e _ (s.setVm s.vm) m _ below meth c _ _ _ _ from X1) hx (y := n_29) hown (mvT hZ (w_ hw 50 rfl)) (mvT hZ (w_ hw 51 rfl)) (mvT hZ (w_ hw 43 rfl)) (mvT hZ (w_ hw 52 rfl)) (by decide) (backOfSH (s := s) (vm0 := s.vm) (W := 0) (rpr_L l Z a0 hw [] a1 b k cs (3 : Int32) c0 fv _ h0 n0 Z0 SC hcs O0 SF hfv S z0 hf ⟨by decide, by decide⟩ rfl s0 (by decide)) hZ (w_ hw 52 rfl) (w_ hw 43 rfl) (by decide) (by decide) hEL hC0.1) (g := (mkF m 18 #[.val (.ref a1), .unset, .unset, .unset] [(.ref a1)])) rfl (by rw [hml]; rfl) (argsL := [(.ref a1)]) (rest := []) (lenOf pd_19 rfl) rfl (by show 2 * 0 + _ ≤ _; exact Nat.le_of_eq rfl) (hb hby d10_18) (fun _ _ => ⟨rfl, e1, (by decide : 0 + 2 ≤ _), (by decide : 0 + 28 ≤ _)⟩)
  dsimp only [Pt.U, Pt.locs, Pt.cells, Pt.slots] at X2 l2 y2 z2 st2 hQ2 hs2 gs2 hc2
  subst l2 y2 z2
  obtain ⟨rfl, N2, K2⟩ := hQ2
  rw [e1] at gs2
  have hS2 : s.Since T2.vm T2.heap.size := own_fold ((State.WarmedH.refl s).since 0) (Nat.zero_le _) hs2 gs2
  have hC2 := hC0.trans hc2
  have hZ : Z.Warmed39 (s.setVm T2.vm).vm := State.Warmed39.trans (t := s.setVm s.vm) hZ hs2.1
  have hown : (s.setVm T2.vm).vm.findClass "com/example/vestline/vestline/format/Csv" = some m.cls := by rw [show (s.setVm T2.vm).vm = T2.vm from rfl, hs2.1.alike.findClass]; exact hown
  have Nf2 := Fr.app Nf1 N2
  refine Goes.via (fun _ kz => st2.trans kz) ?_
  have S1 := S.keep K2 nin0 nin0
  have O1 := O0.keep K2 all0
  have Z1 := Nat.le_trans Z0 K2.1
  refine Goes.via (S' := T2.setTop (mkF m 26 #[.val (.ref a1), .val (.ref a1), .val (.int (0 : Int32)), .unset] [(.ref a1), (.int (0 : Int32))])) (fun tz kz => ?_) ?_
  · show Steps p.tables e below (T2.setTop (mkF m 21 #[.val (.ref a1), .unset, .unset, .unset] [(.ref a1)])) _
    refine XS.astoreN X2.here hx rfl (hb hby d10_21) rfl rfl (l' := #[.val (.ref a1), .val (.ref a1), .unset, .unset]) rfl ?_
    refine XS.iconst X2.here hx rfl (hb hby d10_22) ?_
    refine XS.istoreN X2.here hx rfl (hb hby d10_23) rfl (l' := #[.val (.ref a1), .val (.ref a1), .val (.int (0 : Int32)), .unset]) rfl ?_
    refine XS.iloadN X2.here hx rfl (hb hby d10_24) rfl ?_
    refine XS.aloadN X2.here hx rfl (hb hby d10_25) rfl rfl ?_
    exact kz
  obtain ⟨cq3, kq3, q3a, q3b, q3c⟩ := isOf hZ rfl S1.1
  obtain ⟨_, _, ⟨T3, L3, k3, n3⟩, -, X3, ⟨Lc3, hQ3, l3, y3, z3⟩, st3⟩ := X2.virtualBack hx (y := n_13) (z := n_13) hown (mvT hZ (w_ hw 114 rfl)) (mvT hZ (w_ hw 89 rfl)) (notFace_of_selects (args := #[]) (mvT hZ (w_ hw 91 rfl))) (mvT hZ (w_ hw 91 rfl)) (mvT hZ (w_ hw 90 rfl)) (by decide) (backOf (W := 1) (rlen l Z a0 hw [] a1 b k cs (0 : Int32) (3 : Int32) (3 : Int32) _ T2.heap n0 Z1 SC hcs O1 S1.1 S1.2.1 S1.2.2.1 S1.2.2.2 rfl rfl) hZ (w_ hw 92 rfl) (w_ hw 13 rfl) (by decide) (by decide)) q3a q3c (g := (mkF m 26 #[.val (.ref a1), .val (.ref a1), .val (.int (0 : Int32)), .unset] [(.ref a1), (.int (0 : Int32))])) rfl (by rw [hml]; rfl) (Steps.refl _) (argsL := []) (rest := [(.int (0 : Int32))]) (lenOf pd_17 rfl) rfl (by show 2 * 0 + _ ≤ _; exact Nat.le_of_eq rfl) (hb hby d10_26) (fun _ _ => ⟨rfl, rfl, (by decide : 2 + 0 ≤ _), (by decide : 28 + 0 ≤ _)⟩)
  dsimp only [Pt.U, Pt.locs, Pt.cells, Pt.slots] at X3 l3 y3 z3 st3 hQ3
  subst l3 y3 z3
  obtain ⟨rfl, N3, e3⟩ := hQ3
  have Nf3 := Fr.app Nf2 N3
  refine Goes.via (fun _ kz => st3.trans kz) ?_
  refine Goes.via (S' := T3.setTop (mkF m 34 #[.val (.ref a1), .val (.ref a1), .val (.int (0 : Int32)), .unset] [(.int (0 : Int32)), (.ref a1)])) (fun tz kz => ?_) ?_
  · show Steps p.tables e below (T3.setTop (mkF m 29 #[.val (.ref a1), .val (.ref a1), .val (.int (0 : Int32)), .unset] [(.int (3 : Int32)), (.int (0 : Int32))])) _
    refine XS.icmpNo X3.here hx rfl (hb hby d10_29) rfl (tlt (by first | decide | rfl)).2.1 ?_
    refine XS.aloadN X3.here hx rfl (hb hby d10_32) rfl rfl ?_
    refine XS.iloadN X3.here hx rfl (hb hby d10_33) rfl ?_
    exact kz
  obtain ⟨cq4, kq4, q4a, q4b, q4c⟩ := isOf hZ e3 S1.1
  obtain ⟨_, _, ⟨T4, L4, k4, n4⟩, -, X4, ⟨Lc4, hQ4, l4, y4, z4⟩, st4⟩ := X3.virtualBack hx (y := n_17) (z := n_17) hown (mvT hZ (w_ hw 56 rfl)) (mvT hZ (w_ hw 57 rfl)) (notFace_of_selects (args := #[]) (mvT hZ (w_ hw 59 rfl))) (mvT hZ (w_ hw 59 rfl)) (mvT hZ (w_ hw 58 rfl)) (by decide) (backOf (W := 0) (rca_L l Z a0 hw [] a1 (0 : Int32) b k cs (3 : Int32) c0 fv _ T2.heap n0 Z1 SC hcs O1 SF hfv S1 z0 ⟨by decide, by decide⟩ rfl s0) hZ (w_ hw 60 rfl) (w_ hw 13 rfl) (by decide) (by decide)) q4a q4c (g := (mkF m 34 #[.val (.ref a1), .val (.ref a1), .val (.int (0 : Int32)), .unset] [(.int (0 : Int32)), (.ref a1)])) rfl (by rw [hml]; rfl) (Steps.refl _) (argsL := [(.int (0 : Int32))]) (rest := []) (lenOf pd_18 rfl) rfl (by show 2 * 0 + _ ≤ _; exact Nat.le_of_eq rfl) (hb hby d10_34) (fun _ _ => ⟨rfl, e3, (by decide : 2 + 0 ≤ _), (by decide : 28 + 0 ≤ _)⟩)
  dsimp only [Pt.U, Pt.locs, Pt.cells, Pt.slots] at X4 l4 y4 z4 st4 hQ4
  subst l4 y4 z4
  obtain ⟨rfl, N4, e4⟩ := hQ4
  have Nf4 := Fr.app Nf3 N4
  refine Goes.via (fun _ kz => st4.trans kz) ?_
  refine Goes.via (S' := T4.setTop (mkF m 39 #[.val (.ref a1), .val (.ref a1), .val (.int (0 : Int32)), .val (.int c0)] [(.int c0)])) (fun tz kz => ?_) ?_
  · show Steps p.tables e below (T4.setTop (mkF m 37 #[.val (.ref a1), .val (.ref a1), .val (.int (0 : Int32)), .unset] [(.int c0)])) _
    refine XS.istoreN X4.here hx rfl (hb hby d10_37) rfl (l' := #[.val (.ref a1), .val (.ref a1), .val (.int (0 : Int32)), .val (.int c0)]) rfl ?_
    refine XS.iloadN X4.here hx rfl (hb hby d10_38) rfl ?_
    exact kz
  obtain ⟨_, _, ⟨T5, L5, k5, n5⟩, -, X5, ⟨Lc5, hQ5, l5, y5, z5⟩, st5⟩ := Jvm.LawKit.callS X4 hx (y := n_31) hown (mvT hZ (w_ hw 115 rfl)) (mvT hZ (w_ hw 116 rfl)) (mvT hZ (w_ hw 117 rfl)) (mvT hZ (w_ hw 118 rfl)) (by decide) (backOf (W := 0) (risoc l Z a0 hw [] c0 T2.heap n0 Z1 t0) hZ (w_ hw 118 rfl) (w_ hw 117 rfl) (by decide) (by decide)) (g := (mkF m 39 #[.val (.ref a1), .val (.ref a1), .val (.int (0 : Int32)), .val (.int c0)] [(.int c0)])) rfl (by rw [hml]; rfl) (argsL := [(.int c0)]) (rest := []) (lenOf pd_20 rfl) rfl (by show 2 * 0 + _ ≤ _; exact Nat.le_of_eq rfl) (hb hby d10_39) (fun _ _ => ⟨rfl, e4, (by decide : 2 + 0 ≤ _), (by decide : 28 + 0 ≤ _)⟩)
  dsimp only [Pt.U, Pt.locs, Pt.cells, Pt.slots] at X5 l5 y5 z5 st5 hQ5
  subst l5 y5 z5
  obtain ⟨rfl, N5, e5⟩ := hQ5
  have Nf5 := Fr.app Nf4 N5
  refine Goes.via (st5) ?_
  refine Goes.via (S' := T5.setTop (mkF m 26 #[.val (.ref a1), .val (.ref a1), .val (.int (1 : Int32)), .val (.int c0)] [(.ref a1), (.int (1 : Int32))])) (fun tz kz => ?_) ?_
  · show Steps p.tables e below (T5.setTop (mkF m 42 #[.val (.ref a1), .val (.ref a1), .val (.int (0 : Int32)), .val (.int c0)] [(.int (0 : Int32))])) _
    refine XS.ifYes X5.here hx rfl (pc0 := 42) (pc' := 62) rfl (hb hby d10_42) rfl ((if0 _ _).trans (teq (by first | decide | rfl)).1) (by decide) (by decide) ?_
    refine XS.iinc X5.here hx rfl (hb hby d10_62) rfl (l' := #[.val (.ref a1), .val (.ref a1), .val (.int (1 : Int32)), .val (.int c0)]) rfl ?_
    refine XS.goto X5.here hx rfl (pc0 := 65) (pc' := 24) rfl (hb hby d10_65) (by decide) (by decide) ?_
    refine XS.iloadN X5.here hx rfl (hb hby d10_24) rfl ?_
    refine XS.aloadN X5.here hx rfl (hb hby d10_25) rfl rfl ?_
    exact kz
  obtain ⟨cq6, kq6, q6a, q6b, q6c⟩ := isOf hZ e5 S1.1
  obtain ⟨_, _, ⟨T6, L6, k6, n6⟩, -, X6, ⟨Lc6, hQ6, l6, y6, z6⟩, st6⟩ := X5.virtualBack hx (y := n_13) (z := n_13) hown (mvT hZ (w_ hw 114 rfl)) (mvT hZ (w_ hw 89 rfl)) (notFace_of_selects (args := #[]) (mvT hZ (w_ hw 91 rfl))) (mvT hZ (w_ hw 91 rfl)) (mvT hZ (w_ hw 90 rfl)) (by decide) (backOf (W := 1) (rlen l Z a0 hw [] a1 b k cs (0 : Int32) (3 : Int32) (3 : Int32) _ T2.heap n0 Z1 SC hcs O1 S1.1 S1.2.1 S1.2.2.1 S1.2.2.2 rfl rfl) hZ (w_ hw 92 rfl) (w_ hw 13 rfl) (by decide) (by decide)) q6a q6c (g := (mkF m 26 #[.val (.ref a1), .val (.ref a1), .val (.int (1 : Int32)), .val (.int c0)] [(.ref a1), (.int (1 : Int32))])) rfl (by rw [hml]; rfl) (Steps.refl _) (argsL := []) (rest := [(.int (1 : Int32))]) (lenOf pd_17 rfl) rfl (by show 2 * 0 + _ ≤ _; exact Nat.le_of_eq rfl) (hb hby d10_26) (fun _ _ => ⟨rfl, e5, (by decide : 2 + 0 ≤ _), (by decide : 28 + 0 ≤ _)⟩)
  dsimp only [Pt.U, Pt.locs, Pt.cells, Pt.slots] at X6 l6 y6 z6 st6 hQ6
  subst l6 y6 z6
  obtain ⟨rfl, N6, e6⟩ := hQ6
  have Nf6 := Fr.app Nf5 N6
  refine Goes.via (fun _ kz => st6.trans kz) ?_
  refine Goes.via (S' := T6.setTop (mkF m 34 #[.val (.ref a1), .val (.ref a1), .val (.int (1 : Int32)), .val (.int c0)] [(.int (1 : Int32)), (.ref a1)])) (fun tz kz => ?_) ?_
  · show Steps p.tables e below (T6.setTop (mkF m 29 #[.val (.ref a1), .val (.ref a1), .val (.int (1 : Int32)), .val (.int c0)] [(.int (3 : Int32)), (.int (1 : Int32))])) _
    refine XS.icmpNo X6.here hx rfl (hb hby d10_29) rfl (tlt (by first | decide | rfl)).2.1 ?_
    refine XS.aloadN X6.here hx rfl (hb hby d10_32) rfl rfl ?_
    refine XS.iloadN X6.here hx rfl (hb hby d10_33) rfl ?_
    exact kz
  obtain ⟨cq7, kq7, q7a, q7b, q7c⟩ := isOf hZ e6 S1.1
  obtain ⟨_, _, ⟨T7, L7, k7, n7⟩, -, X7, ⟨Lc7, hQ7, l7, y7, z7⟩, st7⟩ := X6.virtualBack hx (y := n_17) (z := n_17) hown (mvT hZ (w_ hw 56 rfl)) (mvT hZ (w_ hw 57 rfl)) (notFace_of_selects (args := #[]) (mvT hZ (w_ hw 59 rfl))) (mvT hZ (w_ hw 59 rfl)) (mvT hZ (w_ hw 58 rfl)) (by decide) (backOf (W := 0) (rca_L l Z a0 hw [] a1 (1 : Int32) b k cs (3 : Int32) c1 fv _ T2.heap n0 Z1 SC hcs O1 SF hfv S1 z1 ⟨by decide, by decide⟩ rfl s1) hZ (w_ hw 60 rfl) (w_ hw 13 rfl) (by decide) (by decide)) q7a q7c (g := (mkF m 34 #[.val (.ref a1), .val (.ref a1), .val (.int (1 : Int32)), .val (.int c0)] [(.int (1 : Int32)), (.ref a1)])) rfl (by rw [hml]; rfl) (Steps.refl _) (argsL := [(.int (1 : Int32))]) (rest := []) (lenOf pd_18 rfl) rfl (by show 2 * 0 + _ ≤ _; exact Nat.le_of_eq rfl) (hb hby d10_34) (fun _ _ => ⟨rfl, e6, (by decide : 2 + 0 ≤ _), (by decide : 28 + 0 ≤ _)⟩)
  dsimp only [Pt.U, Pt.locs, Pt.cells, Pt.slots] at X7 l7 y7 z7 st7 hQ7
  subst l7 y7 z7
  obtain ⟨rfl, N7, e7⟩ := hQ7
  have Nf7 := Fr.app Nf6 N7
  refine Goes.via (fun _ kz => st7.trans kz) ?_
  refine Goes.via (S' := T7.setTop (mkF m 39 #[.val (.ref a1), .val (.ref a1), .val (.int (1 : Int32)), .val (.int c1)] [(.int c1)])) (fun tz kz => ?_) ?_
  · show Steps p.tables e below (T7.setTop (mkF m 37 #[.val (.ref a1), .val (.ref a1), .val (.int (1 : Int32)), .val (.int c0)] [(.int c1)])) _
    refine XS.istoreN X7.here hx rfl (hb hby d10_37) rfl (l' := #[.val (.ref a1), .val (.ref a1), .val (.int (1 : Int32)), .val (.int c1)]) rfl ?_
    refine XS.iloadN X7.here hx rfl (hb hby d10_38) rfl ?_
    exact kz
  obtain ⟨_, _, ⟨T8, L8, k8, n8⟩, -, X8, ⟨Lc8, hQ8, l8, y8, z8⟩, st8⟩ := Jvm.LawKit.callS X7 hx (y := n_31) hown (mvT hZ (w_ hw 115 rfl)) (mvT hZ (w_ hw 116 rfl)) (mvT hZ (w_ hw 117 rfl)) (mvT hZ (w_ hw 118 rfl)) (by decide) (backOf (W := 0) (risoc l Z a0 hw [] c1 T2.heap n0 Z1 t1) hZ (w_ hw 118 rfl) (w_ hw 117 rfl) (by decide) (by decide)) (g := (mkF m 39 #[.val (.ref a1), .val (.ref a1), .val (.int (1 : Int32)), .val (.int c1)] [(.int c1)])) rfl (by rw [hml]; rfl) (argsL := [(.int c1)]) (rest := []) (lenOf pd_20 rfl) rfl (by show 2 * 0 + _ ≤ _; exact Nat.le_of_eq rfl) (hb hby d10_39) (fun _ _ => ⟨rfl, e7, (by decide : 2 + 0 ≤ _), (by decide : 28 + 0 ≤ _)⟩)
  dsimp only [Pt.U, Pt.locs, Pt.cells, Pt.slots] at X8 l8 y8 z8 st8 hQ8
  subst l8 y8 z8
  obtain ⟨rfl, N8, e8⟩ := hQ8
  have Nf8 := Fr.app Nf7 N8
  refine Goes.via (st8) ?_
  refine Goes.via (S' := T8.setTop (mkF m 26 #[.val (.ref a1), .val (.ref a1), .val (.int (2 : Int32)), .val (.int c1)] [(.ref a1), (.int (2 : Int32))])) (fun tz kz => ?_) ?_
  · show Steps p.tables e below (T8.setTop (mkF m 42 #[.val (.ref a1), .val (.ref a1), .val (.int (1 : Int32)), .val (.int c1)] [(.int (0 : Int32))])) _
    refine XS.ifYes X8.here hx rfl (pc0 := 42) (pc' := 62) rfl (hb hby d10_42) rfl ((if0 _ _).trans (teq (by first | decide | rfl)).1) (by decide) (by decide) ?_
    refine XS.iinc X8.here hx rfl (hb hby d10_62) rfl (l' := #[.val (.ref a1), .val (.ref a1), .val (.int (2 : Int32)), .val (.int c1)]) rfl ?_
    refine XS.goto X8.here hx rfl (pc0 := 65) (pc' := 24) rfl (hb hby d10_65) (by decide) (by decide) ?_
    refine XS.iloadN X8.here hx rfl (hb hby d10_24) rfl ?_
    refine XS.aloadN X8.here hx rfl (hb hby d10_25) rfl rfl ?_
    exact kz
  obtain ⟨cq9, kq9, q9a, q9b, q9c⟩ := isOf hZ e8 S1.1
  obtain ⟨_, _, ⟨T9, L9, k9, n9⟩, -, X9, ⟨Lc9, hQ9, l9, y9, z9⟩, st9⟩ := X8.virtualBack hx (y := n_13) (z := n_13) hown (mvT hZ (w_ hw 114 rfl)) (mvT hZ (w_ hw 89 rfl)) (notFace_of_selects (args := #[]) (mvT hZ (w_ hw 91 rfl))) (mvT hZ (w_ hw 91 rfl)) (mvT hZ (w_ hw 90 rfl)) (by decide) (backOf (W := 1) (rlen l Z a0 hw [] a1 b k cs (0 : Int32) (3 : Int32) (3 : Int32) _ T2.heap n0 Z1 SC hcs O1 S1.1 S1.2.1 S1.2.2.1 S1.2.2.2 rfl rfl) hZ (w_ hw 92 rfl) (w_ hw 13 rfl) (by decide) (by decide)) q9a q9c (g := (mkF m 26 #[.val (.ref a1), .val (.ref a1), .val (.int (2 : Int32)), .val (.int c1)] [(.ref a1), (.int (2 : Int32))])) rfl (by rw [hml]; rfl) (Steps.refl _) (argsL := []) (rest := [(.int (2 : Int32))]) (lenOf pd_17 rfl) rfl (by show 2 * 0 + _ ≤ _; exact Nat.le_of_eq rfl) (hb hby d10_26) (fun _ _ => ⟨rfl, e8, (by decide : 2 + 0 ≤ _), (by decide : 28 + 0 ≤ _)⟩)
  dsimp only [Pt.U, Pt.locs, Pt.cells, Pt.slots] at X9 l9 y9 z9 st9 hQ9
  subst l9 y9 z9
  obtain ⟨rfl, N9, e9⟩ := hQ9
  have Nf9 := Fr.app Nf8 N9
  refine Goes.via (fun _ kz => st9.trans kz) ?_
  refine Goes.via (S' := T9.setTop (mkF m 34 #[.val (.ref a1), .val (.ref a1), .val (.int (2 : Int32)), .val (.int c1)] [(.int (2 : Int32)), (.ref a1)])) (fun tz kz => ?_) ?_
  · show Steps p.tables e below (T9.setTop (mkF m 29 #[.val (.ref a1), .val (.ref a1), .val (.int (2 : Int32)), .val (.int c1)] [(.int (3 : Int32)), (.int (2 : Int32))])) _
    refine XS.icmpNo X9.here hx rfl (hb hby d10_29) rfl (tlt (by first | decide | rfl)).2.1 ?_
    refine XS.aloadN X9.here hx rfl (hb hby d10_32) rfl rfl ?_
    refine XS.iloadN X9.here hx rfl (hb hby d10_33) rfl ?_
    exact kz
  obtain ⟨cq10, kq10, q10a, q10b, q10c⟩ := isOf hZ e9 S1.1
  obtain ⟨_, _, ⟨T10, L10, k10, n10⟩, -, X10, ⟨Lc10, hQ10, l10, y10, z10⟩, st10⟩ := X9.virtualBack hx (y := n_17) (z := n_17) hown (mvT hZ (w_ hw 56 rfl)) (mvT hZ (w_ hw 57 rfl)) (notFace_of_selects (args := #[]) (mvT hZ (w_ hw 59 rfl))) (mvT hZ (w_ hw 59 rfl)) (mvT hZ (w_ hw 58 rfl)) (by decide) (backOf (W := 0) (rca_L l Z a0 hw [] a1 (2 : Int32) b k cs (3 : Int32) c2 fv _ T2.heap n0 Z1 SC hcs O1 SF hfv S1 z2 ⟨by decide, by decide⟩ rfl s2) hZ (w_ hw 60 rfl) (w_ hw 13 rfl) (by decide) (by decide)) q10a q10c (g := (mkF m 34 #[.val (.ref a1), .val (.ref a1), .val (.int (2 : Int32)), .val (.int c1)] [(.int (2 : Int32)), (.ref a1)])) rfl (by rw [hml]; rfl) (Steps.refl _) (argsL := [(.int (2 : Int32))]) (rest := []) (lenOf pd_18 rfl) rfl (by show 2 * 0 + _ ≤ _; exact Nat.le_of_eq rfl) (hb hby d10_34) (fun _ _ => ⟨rfl, e9, (by decide : 2 + 0 ≤ _), (by decide : 28 + 0 ≤ _)⟩)
  dsimp only [Pt.U, Pt.locs, Pt.cells, Pt.slots] at X10 l10 y10 z10 st10 hQ10
  subst l10 y10 z10
  obtain ⟨rfl, N10, e10⟩ := hQ10
  have Nf10 := Fr.app Nf9 N10
  refine Goes.via (fun _ kz => st10.trans kz) ?_
  refine Goes.via (S' := T10.setTop (mkF m 39 #[.val (.ref a1), .val (.ref a1), .val (.int (2 : Int32)), .val (.int c2)] [(.int c2)])) (fun tz kz => ?_) ?_
  · show Steps p.tables e below (T10.setTop (mkF m 37 #[.val (.ref a1), .val (.ref a1), .val (.int (2 : Int32)), .val (.int c1)] [(.int c2)])) _
    refine XS.istoreN X10.here hx rfl (hb hby d10_37) rfl (l' := #[.val (.ref a1), .val (.ref a1), .val (.int (2 : Int32)), .val (.int c2)]) rfl ?_
    refine XS.iloadN X10.here hx rfl (hb hby d10_38) rfl ?_
    exact kz
  obtain ⟨_, _, ⟨T11, L11, k11, n11⟩, -, X11, ⟨Lc11, hQ11, l11, y11, z11⟩, st11⟩ := Jvm.LawKit.callS X10 hx (y := n_31) hown (mvT hZ (w_ hw 115 rfl)) (mvT hZ (w_ hw 116 rfl)) (mvT hZ (w_ hw 117 rfl)) (mvT hZ (w_ hw 118 rfl)) (by decide) (backOf (W := 0) (risoc l Z a0 hw [] c2 T2.heap n0 Z1 t2) hZ (w_ hw 118 rfl) (w_ hw 117 rfl) (by decide) (by decide)) (g := (mkF m 39 #[.val (.ref a1), .val (.ref a1), .val (.int (2 : Int32)), .val (.int c2)] [(.int c2)])) rfl (by rw [hml]; rfl) (argsL := [(.int c2)]) (rest := []) (lenOf pd_20 rfl) rfl (by show 2 * 0 + _ ≤ _; exact Nat.le_of_eq rfl) (hb hby d10_39) (fun _ _ => ⟨rfl, e10, (by decide : 2 + 0 ≤ _), (by decide : 28 + 0 ≤ _)⟩)
  dsimp only [Pt.U, Pt.locs, Pt.cells, Pt.slots] at X11 l11 y11 z11 st11 hQ11
  subst l11 y11 z11
  obtain ⟨rfl, N11, e11⟩ := hQ11
  have Nf11 := Fr.app Nf10 N11
  refine Goes.via (st11) ?_
  refine Goes.via (S' := T11.setTop (mkF m 26 #[.val (.ref a1), .val (.ref a1), .val (.int (3 : Int32)), .val (.int c2)] [(.ref a1), (.int (3 : Int32))])) (fun tz kz => ?_) ?_
  · show Steps p.tables e below (T11.setTop (mkF m 42 #[.val (.ref a1), .val (.ref a1), .val (.int (2 : Int32)), .val (.int c2)] [(.int (0 : Int32))])) _
    refine XS.ifYes X11.here hx rfl (pc0 := 42) (pc' := 62) rfl (hb hby d10_42) rfl ((if0 _ _).trans (teq (by first | decide | rfl)).1) (by decide) (by decide) ?_
    refine XS.iinc X11.here hx rfl (hb hby d10_62) rfl (l' := #[.val (.ref a1), .val (.ref a1), .val (.int (3 : Int32)), .val (.int c2)]) rfl ?_
    refine XS.goto X11.here hx rfl (pc0 := 65) (pc' := 24) rfl (hb hby d10_65) (by decide) (by decide) ?_
    refine XS.iloadN X11.here hx rfl (hb hby d10_24) rfl ?_
    refine XS.aloadN X11.here hx rfl (hb hby d10_25) rfl rfl ?_
    exact kz
  obtain ⟨cq12, kq12, q12a, q12b, q12c⟩ := isOf hZ e11 S1.1
  obtain ⟨_, _, ⟨T12, L12, k12, n12⟩, -, X12, ⟨Lc12, hQ12, l12, y12, z12⟩, st12⟩ := X11.virtualBack hx (y := n_13) (z := n_13) hown (mvT hZ (w_ hw 114 rfl)) (mvT hZ (w_ hw 89 rfl)) (notFace_of_selects (args := #[]) (mvT hZ (w_ hw 91 rfl))) (mvT hZ (w_ hw 91 rfl)) (mvT hZ (w_ hw 90 rfl)) (by decide) (backOf (W := 1) (rlen l Z a0 hw [] a1 b k cs (0 : Int32) (3 : Int32) (3 : Int32) _ T2.heap n0 Z1 SC hcs O1 S1.1 S1.2.1 S1.2.2.1 S1.2.2.2 rfl rfl) hZ (w_ hw 92 rfl) (w_ hw 13 rfl) (by decide) (by decide)) q12a q12c (g := (mkF m 26 #[.val (.ref a1), .val (.ref a1), .val (.int (3 : Int32)), .val (.int c2)] [(.ref a1), (.int (3 : Int32))])) rfl (by rw [hml]; rfl) (Steps.refl _) (argsL := []) (rest := [(.int (3 : Int32))]) (lenOf pd_17 rfl) rfl (by show 2 * 0 + _ ≤ _; exact Nat.le_of_eq rfl) (hb hby d10_26) (fun _ _ => ⟨rfl, e11, (by decide : 2 + 0 ≤ _), (by decide : 28 + 0 ≤ _)⟩)
  dsimp only [Pt.U, Pt.locs, Pt.cells, Pt.slots] at X12 l12 y12 z12 st12 hQ12
  subst l12 y12 z12
  obtain ⟨rfl, N12, e12⟩ := hQ12
  have Nf12 := Fr.app Nf11 N12
  refine Goes.via (fun _ kz => st12.trans kz) ?_
  refine Goes.via (S' := T12.setTop (mkF m 69 #[.val (.ref a1), .val (.ref a1), .val (.int (3 : Int32)), .val (.int c2)] [(.ref a1)])) (fun tz kz => ?_) ?_
  · show Steps p.tables e below (T12.setTop (mkF m 29 #[.val (.ref a1), .val (.ref a1), .val (.int (3 : Int32)), .val (.int c2)] [(.int (3 : Int32)), (.int (3 : Int32))])) _
    refine XS.icmpYes X12.here hx rfl (pc0 := 29) (pc' := 68) rfl (hb hby d10_29) rfl (flt (by first | decide | rfl)).2.1 (by decide) (by decide) ?_
    refine XS.aloadN X12.here hx rfl (hb hby d10_68) rfl rfl ?_
    exact kz
  exact Goes.retOH (s := s) (vm1 := T2.vm) X12 hx Bd.notSynchronized hS2 (Nat.le_refl _) e12 hZ hEL hC2 Bd.returns rfl (Or.inr (Or.inr (Or.inr (Or.inr ⟨rfl, rfl, rfl⟩)))) (hb hby d10_69) (nb_ rfl) (nb_ rfl) (by rw [e12]; exact ⟨rfl, Nf12, K2⟩)
def Q_rnm_U3 (Z : State) (a1 : Addr) (b : Addr) (k : ClassId) (cs : Int32) (fv : Value) (c0 c1 c2 : Int32) (h0 : Heap) (n0 : Nat) : Option Value → Heap → List Loc → Prop := fun v h L => v = some (.ref a1) ∧ Fr n0 L ∧ Keep h0 h []
theorem rnm_U3 (l : Launch) (Z : State) (a0 : Array Value) (hw : ∀ d ∈ tables_1, d.before a0 Z = true) (ws : List Jvm.Cond) (a1 : Addr) (b : Addr) (k : ClassId) (cs : Int32) (fv : Value) (c0 c1 c2 : Int32) (h0 : Heap) (n0 : Nat) (Z0 : n0 ≤ h0.size) (SC : Sta Z Z.heap "java/lang/String" "COMPACT_STRINGS" "Z" (.int cs)) (hcs : ¬ cs = (0 : Int32)) (O0 : Old Z n0 h0) (SF : Sta Z Z.heap "jdk/internal/util/Preconditions" "SIOOBE_FORMATTER" "Ljava/util/function/BiFunction;" fv) (hfv : fv.isRef = true) (SA : Sta Z Z.heap "java/lang/StringUTF16" "$assertionsDisabled" "Z" (.int (1 : Int32))) (SH : Sta Z Z.heap "java/lang/StringUTF16" "HI_BYTE_SHIFT" "I" (.int (0 : Int32))) (SL : Sta Z Z.heap "java/lang/StringUTF16" "LO_BYTE_SHIFT" "I" (.int (8 : Int32))) (S : own_StU Z h0 a1 b k (6 : Int32) [.int (own_lo c0), .int (own_hi c0), .int (own_lo c1), .int (own_hi c1), .int (own_lo c2), .int (own_hi c2)]) (z0 : nar .char c0 = c0) (z1 : nar .char c1 = c1) (z2 : nar .char c2 = c2) (hf : own_nf c0) (t0 : own_nct c0) (t1 : own_nct c1) (t2 : own_nct c2) :
    MetFree l n_32 (head1 (Jvm.Cond.code n_32 prog_10_method_5_code 4 (some (.object "java/lang/String")) :: ws) ({ frames := 6, cells := 2, slots := 28, locals := 110 } : Room)) (fun a U => a = #[(.ref a1)] ∧ Z.Warmed39 U.vm ∧ U.heap = h0 ∧ CHv Z consts_1 U.vm h0) (fun _ _ _ _ _ => True) (fun _ U oo U' => ∃ vv LL, oo = .returned vv ∧ (Q_rnm_U3 Z a1 b k cs fv c0 c1 c2 h0 n0) vv U'.heap LL ∧ CHr Z consts_1 U.vm U.heap U'.vm U'.heap ∧ ReturnedEndW U oo U' LL ({ frames := 6, cells := 2, slots := 28, locals := 110 } : Room).cells ({ frames := 6, cells := 2, slots := 28, locals := 110 } : Room).slots) := by
  refine MetFree.of_bodySF (plainFor_of_name pn_10) hisR ?_
  intro p e s m args below meth c s₁ Bd hml0 hP hK
  obtain ⟨rfl, hZ, hh, hH⟩ := hP
  have hx := Bd.exec
  have hby := Bd.bytes
  have hml : c.maxLocals = 4 := hml0
  have hown : s.vm.findClass "com/example/vestline/vestline/format/Csv" = some m.cls := findClass_of_methodNamed Bd.named
  have hnm := (name_of_methodNamed Bd.named Bd.method).1
  have X0 : Stand p l e ({ frames := 6, cells := 2, slots := 28, locals := 110 } : Room) s m #[(.ref a1)] below meth c s₁ [] 0 0 := Stand.of_body Bd
  have e0 : s₁.heap = h0 := by rw [← hh, Bd.state]; rfl
  have N0 := Fr.nil n0
  have hC0 : CHr Z consts_1 s.vm s.heap s.vm h0 := by rw [hh]; exact CHr.refl hH
  have hEL := own_EW hw
  show Goes p e below (FinH s Z consts_1 (Q_rnm_U3 Z a1 b k cs fv c0 c1 c2 h0 n0) ({ frames := 6, cells := 2, slots := 28, locals := 110 } : Room).cells ({ frames := 6, cells := 2, slots := 28, locals := 110 } : Room).slots) _
  refine Goes.via (S' := s₁.setTop (mkF m 0 #[.val (.ref a1), .unset, .unset, .unset] [])) (fun tz kz => castTop (ef_10 m a1 ) kz) ?_
  refine Goes.via (S' := s₁.setTop (mkF m 1 #[.val (.ref a1), .unset, .unset, .unset] [(.ref a1)])) (fun tz kz => ?_) ?_
  · show Steps p.tables e below (s₁.setTop (mkF m 0 #[.val (.ref a1), .unset, .unset, .unset] [])) _
    refine XS.aloadN X0.here hx rfl (hb hby d10_0) rfl rfl ?_
    exact kz
  obtain ⟨cq1, kq1, q1a, q1b, q1c⟩ := isOf hZ e0 S.1
  obtain ⟨_, _, ⟨T1, L1, k1, n1⟩, -, X1, ⟨Lc1, hQ1, l1, y1, z1⟩, st1⟩ := X0.virtualBack hx (y := n_10) (z := n_10) hown (mvT hZ (w_ hw 45 rfl)) (mvT hZ (w_ hw 46 rfl)) (notFace_of_selects (args := #[]) (mvT hZ (w_ hw 48 rfl))) (mvT hZ (w_ hw 48 rfl)) (mvT hZ (w_ hw 47 rfl)) (by decide) (backOf (W := 0) (rie l Z a0 hw [] a1 b k (6 : Int32) _ h0 n0 Z0 S.2.2.1 S.2.2.2 (by decide)) hZ (w_ hw 49 rfl) (w_ hw 13 rfl) (by decide) (by decide)) q1a q1c (g := (mkF m 1 #[.val (.ref a1), .unset, .unset, .unset] [(.ref a1)])) rfl (by rw [hml]; rfl) (Steps.refl _) (argsL := []) (rest := []) (lenOf pd_11 rfl) rfl (by show 2 * 0 + _ ≤ _; exact Nat.le_of_eq rfl) (hb hby d10_1) (fun _ _ => ⟨rfl, e0, (by decide : 0 + 0 ≤ _), (by decide : 0 + 0 ≤ _)⟩)
  dsimp only [Pt.U, Pt.locs, Pt.cells, Pt.slots] at X1 l1 y1 z1 st1 hQ1
  subst l1 y1 z1
  obtain ⟨rfl, N1, e1⟩ := hQ1
  have Nf1 := Fr.app N0 N1
  refine Goes.via (fun _ kz => st1.trans kz) ?_
  refine Goes.via (S' := T1.setTop (mkF m 18 #[.val (.ref a1), .unset, .unset, .unset] [(.ref a1)])) (fun tz kz => ?_) ?_
  · show Steps p.tables e below (T1.setTop (mkF m 4 #[.val (.ref a1), .unset, .unset, .unset] [(.int (0 : Int32))])) _
    refine XS.ifYes X1.here hx rfl (pc0 := 4) (pc' := 17) rfl (hb hby d10_4) rfl ((if0 _ _).trans (teq (by first | decide | rfl)).1) (by decide) (by decide) ?_
    refine XS.aloadN X1.here hx rfl (hb hby d10_17) rfl rfl ?_
    exact kz
  obtain ⟨_, _, ⟨T2, L2, k2, n2⟩, -, X2, hs2, gs2, ⟨Lc2, hQ2, l2, y2, z2, hc2⟩, st2⟩ := callSS (show Stand p l e _ (s.setVm s.vm) m _ below meth c _ _ _ _ from X1) hx (y := n_29) hown (mvT hZ (w_ hw 50 rfl)) (mvT hZ (w_ hw 51 rfl)) (mvT hZ (w_ hw 43 rfl)) (mvT hZ (w_ hw 52 rfl)) (by decide) (backOfSH (s := s) (vm0 := s.vm) (W := 0) (rpr_U l Z a0 hw [] a1 b k cs (6 : Int32) (3 : Int32) c0 fv _ h0 n0 Z0 SC hcs O0 SF hfv SA SH SL S z0 hf rfl ⟨by decide, by decide⟩ ⟨by decide, by decide⟩ ⟨by decide, by decide⟩ rfl rfl (by decide)) hZ (w_ hw 52 rfl) (w_ hw 43 rfl) (by decide) (by decide) hEL hC0.1) (g := (mkF m 18 #[.val (.ref a1), .unset, .unset, .unset] [(.ref a1)])) rfl (by rw [hml]; rfl) (argsL := [(.ref a1)]) (rest := []) (lenOf pd_19 rfl) rfl (by show 2 * 0 + _ ≤ _; exact Nat.le_of_eq rfl) (hb hby d10_18) (fun _ _ => ⟨rfl, e1, (by decide : 0 + 2 ≤ _), (by decide : 0 + 28 ≤ _)⟩)
  dsimp only [Pt.U, Pt.locs, Pt.cells, Pt.slots] at X2 l2 y2 z2 st2 hQ2 hs2 gs2 hc2
  subst l2 y2 z2
  obtain ⟨rfl, N2, K2⟩ := hQ2
  rw [e1] at gs2
  have hS2 : s.Since T2.vm T2.heap.size := own_fold ((State.WarmedH.refl s).since 0) (Nat.zero_le _) hs2 gs2
  have hC2 := hC0.trans hc2
  have hZ : Z.Warmed39 (s.setVm T2.vm).vm := State.Warmed39.trans (t := s.setVm s.vm) hZ hs2.1
  have hown : (s.setVm T2.vm).vm.findClass "com/example/vestline/vestline/format/Csv" = some m.cls := by rw [show (s.setVm T2.vm).vm = T2.vm from rfl, hs2.1.alike.findClass]; exact hown
  have Nf2 := Fr.app Nf1 N2
  refine Goes.via (fun _ kz => st2.trans kz) ?_
  have S1 := S.keep K2 nin0 nin0
  have O1 := O0.keep K2 all0
  have Z1 := Nat.le_trans Z0 K2.1
  refine Goes.via (S' := T2.setTop (mkF m 26 #[.val (.ref a1), .val (.ref a1), .val (.int (0 : Int32)), .unset] [(.ref a1), (.int (0 : Int32))])) (fun tz kz => ?_) ?_
  · show Steps p.tables e below (T2.setTop (mkF m 21 #[.val (.ref a1), .unset, .unset, .unset] [(.ref a1)])) _
    refine XS.astoreN X2.here hx rfl (hb hby d10_21) rfl rfl (l' := #[.val (.ref a1), .val (.ref a1), .unset, .unset]) rfl ?_
    refine XS.iconst X2.here hx rfl (hb hby d10_22) ?_
    refine XS.istoreN X2.here hx rfl (hb hby d10_23) rfl (l' := #[.val (.ref a1), .val (.ref a1), .val (.int (0 : Int32)), .unset]) rfl ?_
    refine XS.iloadN X2.here hx rfl (hb hby d10_24) rfl ?_
    refine XS.aloadN X2.here hx rfl (hb hby d10_25) rfl rfl ?_
    exact kz
  obtain ⟨cq3, kq3, q3a, q3b, q3c⟩ := isOf hZ rfl S1.1
  obtain ⟨_, _, ⟨T3, L3, k3, n3⟩, -, X3, ⟨Lc3, hQ3, l3, y3, z3⟩, st3⟩ := X2.virtualBack hx (y := n_13) (z := n_13) hown (mvT hZ (w_ hw 114 rfl)) (mvT hZ (w_ hw 89 rfl)) (notFace_of_selects (args := #[]) (mvT hZ (w_ hw 91 rfl))) (mvT hZ (w_ hw 91 rfl)) (mvT hZ (w_ hw 90 rfl)) (by decide) (backOf (W := 1) (rlen l Z a0 hw [] a1 b k cs (1 : Int32) (6 : Int32) (3 : Int32) _ T2.heap n0 Z1 SC hcs O1 S1.1 S1.2.1 S1.2.2.1 S1.2.2.2 rfl rfl) hZ (w_ hw 92 rfl) (w_ hw 13 rfl) (by decide) (by decide)) q3a q3c (g := (mkF m 26 #[.val (.ref a1), .val (.ref a1), .val (.int (0 : Int32)), .unset] [(.ref a1), (.int (0 : Int32))])) rfl (by rw [hml]; rfl) (Steps.refl _) (argsL := []) (rest := [(.int (0 : Int32))]) (lenOf pd_17 rfl) rfl (by show 2 * 0 + _ ≤ _; exact Nat.le_of_eq rfl) (hb hby d10_26) (fun _ _ => ⟨rfl, rfl, (by decide : 2 + 0 ≤ _), (by decide : 28 + 0 ≤ _)⟩)
  dsimp only [Pt.U, Pt.locs, Pt.cells, Pt.slots] at X3 l3 y3 z3 st3 hQ3
  subst l3 y3 z3
  obtain ⟨rfl, N3, e3⟩ := hQ3
  have Nf3 := Fr.app Nf2 N3
  refine Goes.via (fun _ kz => st3.trans kz) ?_
  refine Goes.via (S' := T3.setTop (mkF m 34 #[.val (.ref a1), .val (.ref a1), .val (.int (0 : Int32)), .unset] [(.int (0 : Int32)), (.ref a1)])) (fun tz kz => ?_) ?_
  · show Steps p.tables e below (T3.setTop (mkF m 29 #[.val (.ref a1), .val (.ref a1), .val (.int (0 : Int32)), .unset] [(.int (3 : Int32)), (.int (0 : Int32))])) _
    refine XS.icmpNo X3.here hx rfl (hb hby d10_29) rfl (tlt (by first | decide | rfl)).2.1 ?_
    refine XS.aloadN X3.here hx rfl (hb hby d10_32) rfl rfl ?_
    refine XS.iloadN X3.here hx rfl (hb hby d10_33) rfl ?_
    exact kz
  obtain ⟨cq4, kq4, q4a, q4b, q4c⟩ := isOf hZ e3 S1.1
  obtain ⟨_, _, ⟨T4, L4, k4, n4⟩, -, X4, ⟨Lc4, hQ4, l4, y4, z4⟩, st4⟩ := X3.virtualBack hx (y := n_17) (z := n_17) hown (mvT hZ (w_ hw 56 rfl)) (mvT hZ (w_ hw 57 rfl)) (notFace_of_selects (args := #[]) (mvT hZ (w_ hw 59 rfl))) (mvT hZ (w_ hw 59 rfl)) (mvT hZ (w_ hw 58 rfl)) (by decide) (backOf (W := 0) (rca_U l Z a0 hw [] a1 (0 : Int32) b k cs (6 : Int32) (3 : Int32) (0 : Int32) (1 : Int32) c0 fv _ T2.heap n0 Z1 SC hcs O1 SF hfv SA SH SL S1 z0 rfl ⟨by decide, by decide⟩ rfl rfl ⟨by decide, by decide⟩ ⟨by decide, by decide⟩ rfl rfl) hZ (w_ hw 60 rfl) (w_ hw 13 rfl) (by decide) (by decide)) q4a q4c (g := (mkF m 34 #[.val (.ref a1), .val (.ref a1), .val (.int (0 : Int32)), .unset] [(.int (0 : Int32)), (.ref a1)])) rfl (by rw [hml]; rfl) (Steps.refl _) (argsL := [(.int (0 : Int32))]) (rest := []) (lenOf pd_18 rfl) rfl (by show 2 * 0 + _ ≤ _; exact Nat.le_of_eq rfl) (hb hby d10_34) (fun _ _ => ⟨rfl, e3, (by decide : 2 + 0 ≤ _), (by decide : 28 + 0 ≤ _)⟩)
  dsimp only [Pt.U, Pt.locs, Pt.cells, Pt.slots] at X4 l4 y4 z4 st4 hQ4
  subst l4 y4 z4
  obtain ⟨rfl, N4, e4⟩ := hQ4
  have Nf4 := Fr.app Nf3 N4
  refine Goes.via (fun _ kz => st4.trans kz) ?_
  refine Goes.via (S' := T4.setTop (mkF m 39 #[.val (.ref a1), .val (.ref a1), .val (.int (0 : Int32)), .val (.int c0)] [(.int c0)])) (fun tz kz => ?_) ?_
  · show Steps p.tables e below (T4.setTop (mkF m 37 #[.val (.ref a1), .val (.ref a1), .val (.int (0 : Int32)), .unset] [(.int c0)])) _
    refine XS.istoreN X4.here hx rfl (hb hby d10_37) rfl (l' := #[.val (.ref a1), .val (.ref a1), .val (.int (0 : Int32)), .val (.int c0)]) rfl ?_
    refine XS.iloadN X4.here hx rfl (hb hby d10_38) rfl ?_
    exact kz
  obtain ⟨_, _, ⟨T5, L5, k5, n5⟩, -, X5, ⟨Lc5, hQ5, l5, y5, z5⟩, st5⟩ := Jvm.LawKit.callS X4 hx (y := n_31) hown (mvT hZ (w_ hw 115 rfl)) (mvT hZ (w_ hw 116 rfl)) (mvT hZ (w_ hw 117 rfl)) (mvT hZ (w_ hw 118 rfl)) (by decide) (backOf (W := 0) (risoc l Z a0 hw [] c0 T2.heap n0 Z1 t0) hZ (w_ hw 118 rfl) (w_ hw 117 rfl) (by decide) (by decide)) (g := (mkF m 39 #[.val (.ref a1), .val (.ref a1), .val (.int (0 : Int32)), .val (.int c0)] [(.int c0)])) rfl (by rw [hml]; rfl) (argsL := [(.int c0)]) (rest := []) (lenOf pd_20 rfl) rfl (by show 2 * 0 + _ ≤ _; exact Nat.le_of_eq rfl) (hb hby d10_39) (fun _ _ => ⟨rfl, e4, (by decide : 2 + 0 ≤ _), (by decide : 28 + 0 ≤ _)⟩)
  dsimp only [Pt.U, Pt.locs, Pt.cells, Pt.slots] at X5 l5 y5 z5 st5 hQ5
  subst l5 y5 z5
  obtain ⟨rfl, N5, e5⟩ := hQ5
  have Nf5 := Fr.app Nf4 N5
  refine Goes.via (st5) ?_
  refine Goes.via (S' := T5.setTop (mkF m 26 #[.val (.ref a1), .val (.ref a1), .val (.int (1 : Int32)), .val (.int c0)] [(.ref a1), (.int (1 : Int32))])) (fun tz kz => ?_) ?_
  · show Steps p.tables e below (T5.setTop (mkF m 42 #[.val (.ref a1), .val (.ref a1), .val (.int (0 : Int32)), .val (.int c0)] [(.int (0 : Int32))])) _
    refine XS.ifYes X5.here hx rfl (pc0 := 42) (pc' := 62) rfl (hb hby d10_42) rfl ((if0 _ _).trans (teq (by first | decide | rfl)).1) (by decide) (by decide) ?_
    refine XS.iinc X5.here hx rfl (hb hby d10_62) rfl (l' := #[.val (.ref a1), .val (.ref a1), .val (.int (1 : Int32)), .val (.int c0)]) rfl ?_
    refine XS.goto X5.here hx rfl (pc0 := 65) (pc' := 24) rfl (hb hby d10_65) (by decide) (by decide) ?_
    refine XS.iloadN X5.here hx rfl (hb hby d10_24) rfl ?_
    refine XS.aloadN X5.here hx rfl (hb hby d10_25) rfl rfl ?_
    exact kz
  obtain ⟨cq6, kq6, q6a, q6b, q6c⟩ := isOf hZ e5 S1.1
  obtain ⟨_, _, ⟨T6, L6, k6, n6⟩, -, X6, ⟨Lc6, hQ6, l6, y6, z6⟩, st6⟩ := X5.virtualBack hx (y := n_13) (z := n_13) hown (mvT hZ (w_ hw 114 rfl)) (mvT hZ (w_ hw 89 rfl)) (notFace_of_selects (args := #[]) (mvT hZ (w_ hw 91 rfl))) (mvT hZ (w_ hw 91 rfl)) (mvT hZ (w_ hw 90 rfl)) (by decide) (backOf (W := 1) (rlen l Z a0 hw [] a1 b k cs (1 : Int32) (6 : Int32) (3 : Int32) _ T2.heap n0 Z1 SC hcs O1 S1.1 S1.2.1 S1.2.2.1 S1.2.2.2 rfl rfl) hZ (w_ hw 92 rfl) (w_ hw 13 rfl) (by decide) (by decide)) q6a q6c (g := (mkF m 26 #[.val (.ref a1), .val (.ref a1), .val (.int (1 : Int32)), .val (.int c0)] [(.ref a1), (.int (1 : Int32))])) rfl (by rw [hml]; rfl) (Steps.refl _) (argsL := []) (rest := [(.int (1 : Int32))]) (lenOf pd_17 rfl) rfl (by show 2 * 0 + _ ≤ _; exact Nat.le_of_eq rfl) (hb hby d10_26) (fun _ _ => ⟨rfl, e5, (by decide : 2 + 0 ≤ _), (by decide : 28 + 0 ≤ _)⟩)
  dsimp only [Pt.U, Pt.locs, Pt.cells, Pt.slots] at X6 l6 y6 z6 st6 hQ6
  subst l6 y6 z6
  obtain ⟨rfl, N6, e6⟩ := hQ6
  have Nf6 := Fr.app Nf5 N6
  refine Goes.via (fun _ kz => st6.trans kz) ?_
  refine Goes.via (S' := T6.setTop (mkF m 34 #[.val (.ref a1), .val (.ref a1), .val (.int (1 : Int32)), .val (.int c0)] [(.int (1 : Int32)), (.ref a1)])) (fun tz kz => ?_) ?_
  · show Steps p.tables e below (T6.setTop (mkF m 29 #[.val (.ref a1), .val (.ref a1), .val (.int (1 : Int32)), .val (.int c0)] [(.int (3 : Int32)), (.int (1 : Int32))])) _
    refine XS.icmpNo X6.here hx rfl (hb hby d10_29) rfl (tlt (by first | decide | rfl)).2.1 ?_
    refine XS.aloadN X6.here hx rfl (hb hby d10_32) rfl rfl ?_
    refine XS.iloadN X6.here hx rfl (hb hby d10_33) rfl ?_
    exact kz
  obtain ⟨cq7, kq7, q7a, q7b, q7c⟩ := isOf hZ e6 S1.1
  obtain ⟨_, _, ⟨T7, L7, k7, n7⟩, -, X7, ⟨Lc7, hQ7, l7, y7, z7⟩, st7⟩ := X6.virtualBack hx (y := n_17) (z := n_17) hown (mvT hZ (w_ hw 56 rfl)) (mvT hZ (w_ hw 57 rfl)) (notFace_of_selects (args := #[]) (mvT hZ (w_ hw 59 rfl))) (mvT hZ (w_ hw 59 rfl)) (mvT hZ (w_ hw 58 rfl)) (by decide) (backOf (W := 0) (rca_U l Z a0 hw [] a1 (1 : Int32) b k cs (6 : Int32) (3 : Int32) (2 : Int32) (3 : Int32) c1 fv _ T2.heap n0 Z1 SC hcs O1 SF hfv SA SH SL S1 z1 rfl ⟨by decide, by decide⟩ rfl rfl ⟨by decide, by decide⟩ ⟨by decide, by decide⟩ rfl rfl) hZ (w_ hw 60 rfl) (w_ hw 13 rfl) (by decide) (by decide)) q7a q7c (g := (mkF m 34 #[.val (.ref a1), .val (.ref a1), .val (.int (1 : Int32)), .val (.int c0)] [(.int (1 : Int32)), (.ref a1)])) rfl (by rw [hml]; rfl) (Steps.refl _) (argsL := [(.int (1 : Int32))]) (rest := []) (lenOf pd_18 rfl) rfl (by show 2 * 0 + _ ≤ _; exact Nat.le_of_eq rfl) (hb hby d10_34) (fun _ _ => ⟨rfl, e6, (by decide : 2 + 0 ≤ _), (by decide : 28 + 0 ≤ _)⟩)
  dsimp only [Pt.U, Pt.locs, Pt.cells, Pt.slots] at X7 l7 y7 z7 st7 hQ7
  subst l7 y7 z7
  obtain ⟨rfl, N7, e7⟩ := hQ7
  have Nf7 := Fr.app Nf6 N7
  refine Goes.via (fun _ kz => st7.trans kz) ?_
  refine Goes.via (S' := T7.setTop (mkF m 39 #[.val (.ref a1), .val (.ref a1), .val (.int (1 : Int32)), .val (.int c1)] [(.int c1)])) (fun tz kz => ?_) ?_
  · show Steps p.tables e below (T7.setTop (mkF m 37 #[.val (.ref a1), .val (.ref a1), .val (.int (1 : Int32)), .val (.int c0)] [(.int c1)])) _
    refine XS.istoreN X7.here hx rfl (hb hby d10_37) rfl (l' := #[.val (.ref a1), .val (.ref a1), .val (.int (1 : Int32)), .val (.int c1)]) rfl ?_
    refine XS.iloadN X7.here hx rfl (hb hby d10_38) rfl ?_
    exact kz
  obtain ⟨_, _, ⟨T8, L8, k8, n8⟩, -, X8, ⟨Lc8, hQ8, l8, y8, z8⟩, st8⟩ := Jvm.LawKit.callS X7 hx (y := n_31) hown (mvT hZ (w_ hw 115 rfl)) (mvT hZ (w_ hw 116 rfl)) (mvT hZ (w_ hw 117 rfl)) (mvT hZ (w_ hw 118 rfl)) (by decide) (backOf (W := 0) (risoc l Z a0 hw [] c1 T2.heap n0 Z1 t1) hZ (w_ hw 118 rfl) (w_ hw 117 rfl) (by decide) (by decide)) (g := (mkF m 39 #[.val (.ref a1), .val (.ref a1), .val (.int (1 : Int32)), .val (.int c1)] [(.int c1)])) rfl (by rw [hml]; rfl) (argsL := [(.int c1)]) (rest := []) (lenOf pd_20 rfl) rfl (by show 2 * 0 + _ ≤ _; exact Nat.le_of_eq rfl) (hb hby d10_39) (fun _ _ => ⟨rfl, e7, (by decide : 2 + 0 ≤ _), (by decide : 28 + 0 ≤ _)⟩)
  dsimp only [Pt.U, Pt.locs, Pt.cells, Pt.slots] at X8 l8 y8 z8 st8 hQ8
  subst l8 y8 z8
  obtain ⟨rfl, N8, e8⟩ := hQ8
  have Nf8 := Fr.app Nf7 N8
  refine Goes.via (st8) ?_
  refine Goes.via (S' := T8.setTop (mkF m 26 #[.val (.ref a1), .val (.ref a1), .val (.int (2 : Int32)), .val (.int c1)] [(.ref a1), (.int (2 : Int32))])) (fun tz kz => ?_) ?_
  · show Steps p.tables e below (T8.setTop (mkF m 42 #[.val (.ref a1), .val (.ref a1), .val (.int (1 : Int32)), .val (.int c1)] [(.int (0 : Int32))])) _
    refine XS.ifYes X8.here hx rfl (pc0 := 42) (pc' := 62) rfl (hb hby d10_42) rfl ((if0 _ _).trans (teq (by first | decide | rfl)).1) (by decide) (by decide) ?_
    refine XS.iinc X8.here hx rfl (hb hby d10_62) rfl (l' := #[.val (.ref a1), .val (.ref a1), .val (.int (2 : Int32)), .val (.int c1)]) rfl ?_
    refine XS.goto X8.here hx rfl (pc0 := 65) (pc' := 24) rfl (hb hby d10_65) (by decide) (by decide) ?_
    refine XS.iloadN X8.here hx rfl (hb hby d10_24) rfl ?_
    refine XS.aloadN X8.here hx rfl (hb hby d10_25) rfl rfl ?_
    exact kz
  obtain ⟨cq9, kq9, q9a, q9b, q9c⟩ := isOf hZ e8 S1.1
  obtain ⟨_, _, ⟨T9, L9, k9, n9⟩, -, X9, ⟨Lc9, hQ9, l9, y9, z9⟩, st9⟩ := X8.virtualBack hx (y := n_13) (z := n_13) hown (mvT hZ (w_ hw 114 rfl)) (mvT hZ (w_ hw 89 rfl)) (notFace_of_selects (args := #[]) (mvT hZ (w_ hw 91 rfl))) (mvT hZ (w_ hw 91 rfl)) (mvT hZ (w_ hw 90 rfl)) (by decide) (backOf (W := 1) (rlen l Z a0 hw [] a1 b k cs (1 : Int32) (6 : Int32) (3 : Int32) _ T2.heap n0 Z1 SC hcs O1 S1.1 S1.2.1 S1.2.2.1 S1.2.2.2 rfl rfl) hZ (w_ hw 92 rfl) (w_ hw 13 rfl) (by decide) (by decide)) q9a q9c (g := (mkF m 26 #[.val (.ref a1), .val (.ref a1), .val (.int (2 : Int32)), .val (.int c1)] [(.ref a1), (.int (2 : Int32))])) rfl (by rw [hml]; rfl) (Steps.refl _) (argsL := []) (rest := [(.int (2 : Int32))]) (lenOf pd_17 rfl) rfl (by show 2 * 0 + _ ≤ _; exact Nat.le_of_eq rfl) (hb hby d10_26) (fun _ _ => ⟨rfl, e8, (by decide : 2 + 0 ≤ _), (by decide : 28 + 0 ≤ _)⟩)
  dsimp only [Pt.U, Pt.locs, Pt.cells, Pt.slots] at X9 l9 y9 z9 st9 hQ9
  subst l9 y9 z9
  obtain ⟨rfl, N9, e9⟩ := hQ9
  have Nf9 := Fr.app Nf8 N9
  refine Goes.via (fun _ kz => st9.trans kz) ?_
  refine Goes.via (S' := T9.setTop (mkF m 34 #[.val (.ref a1), .val (.ref a1), .val (.int (2 : Int32)), .val (.int c1)] [(.int (2 : Int32)), (.ref a1)])) (fun tz kz => ?_) ?_
  · show Steps p.tables e below (T9.setTop (mkF m 29 #[.val (.ref a1), .val (.ref a1), .val (.int (2 : Int32)), .val (.int c1)] [(.int (3 : Int32)), (.int (2 : Int32))])) _
    refine XS.icmpNo X9.here hx rfl (hb hby d10_29) rfl (tlt (by first | decide | rfl)).2.1 ?_
    refine XS.aloadN X9.here hx rfl (hb hby d10_32) rfl rfl ?_
    refine XS.iloadN X9.here hx rfl (hb hby d10_33) rfl ?_
    exact kz
  obtain ⟨cq10, kq10, q10a, q10b, q10c⟩ := isOf hZ e9 S1.1
  obtain ⟨_, _, ⟨T10, L10, k10, n10⟩, -, X10, ⟨Lc10, hQ10, l10, y10, z10⟩, st10⟩ := X9.virtualBack hx (y := n_17) (z := n_17) hown (mvT hZ (w_ hw 56 rfl)) (mvT hZ (w_ hw 57 rfl)) (notFace_of_selects (args := #[]) (mvT hZ (w_ hw 59 rfl))) (mvT hZ (w_ hw 59 rfl)) (mvT hZ (w_ hw 58 rfl)) (by decide) (backOf (W := 0) (rca_U l Z a0 hw [] a1 (2 : Int32) b k cs (6 : Int32) (3 : Int32) (4 : Int32) (5 : Int32) c2 fv _ T2.heap n0 Z1 SC hcs O1 SF hfv SA SH SL S1 z2 rfl ⟨by decide, by decide⟩ rfl rfl ⟨by decide, by decide⟩ ⟨by decide, by decide⟩ rfl rfl) hZ (w_ hw 60 rfl) (w_ hw 13 rfl) (by decide) (by decide)) q10a q10c (g := (mkF m 34 #[.val (.ref a1), .val (.ref a1), .val (.int (2 : Int32)), .val (.int c1)] [(.int (2 : Int32)), (.ref a1)])) rfl (by rw [hml]; rfl) (Steps.refl _) (argsL := [(.int (2 : Int32))]) (rest := []) (lenOf pd_18 rfl) rfl (by show 2 * 0 + _ ≤ _; exact Nat.le_of_eq rfl) (hb hby d10_34) (fun _ _ => ⟨rfl, e9, (by decide : 2 + 0 ≤ _), (by decide : 28 + 0 ≤ _)⟩)
  dsimp only [Pt.U, Pt.locs, Pt.cells, Pt.slots] at X10 l10 y10 z10 st10 hQ10
  subst l10 y10 z10
  obtain ⟨rfl, N10, e10⟩ := hQ10
  have Nf10 := Fr.app Nf9 N10
  refine Goes.via (fun _ kz => st10.trans kz) ?_
  refine Goes.via (S' := T10.setTop (mkF m 39 #[.val (.ref a1), .val (.ref a1), .val (.int (2 : Int32)), .val (.int c2)] [(.int c2)])) (fun tz kz => ?_) ?_
  · show Steps p.tables e below (T10.setTop (mkF m 37 #[.val (.ref a1), .val (.ref a1), .val (.int (2 : Int32)), .val (.int c1)] [(.int c2)])) _
    refine XS.istoreN X10.here hx rfl (hb hby d10_37) rfl (l' := #[.val (.ref a1), .val (.ref a1), .val (.int (2 : Int32)), .val (.int c2)]) rfl ?_
    refine XS.iloadN X10.here hx rfl (hb hby d10_38) rfl ?_
    exact kz
  obtain ⟨_, _, ⟨T11, L11, k11, n11⟩, -, X11, ⟨Lc11, hQ11, l11, y11, z11⟩, st11⟩ := Jvm.LawKit.callS X10 hx (y := n_31) hown (mvT hZ (w_ hw 115 rfl)) (mvT hZ (w_ hw 116 rfl)) (mvT hZ (w_ hw 117 rfl)) (mvT hZ (w_ hw 118 rfl)) (by decide) (backOf (W := 0) (risoc l Z a0 hw [] c2 T2.heap n0 Z1 t2) hZ (w_ hw 118 rfl) (w_ hw 117 rfl) (by decide) (by decide)) (g := (mkF m 39 #[.val (.ref a1), .val (.ref a1), .val (.int (2 : Int32)), .val (.int c2)] [(.int c2)])) rfl (by rw [hml]; rfl) (argsL := [(.int c2)]) (rest := []) (lenOf pd_20 rfl) rfl (by show 2 * 0 + _ ≤ _; exact Nat.le_of_eq rfl) (hb hby d10_39) (fun _ _ => ⟨rfl, e10, (by decide : 2 + 0 ≤ _), (by decide : 28 + 0 ≤ _)⟩)
  dsimp only [Pt.U, Pt.locs, Pt.cells, Pt.slots] at X11 l11 y11 z11 st11 hQ11
  subst l11 y11 z11
  obtain ⟨rfl, N11, e11⟩ := hQ11
  have Nf11 := Fr.app Nf10 N11
  refine Goes.via (st11) ?_
  refine Goes.via (S' := T11.setTop (mkF m 26 #[.val (.ref a1), .val (.ref a1), .val (.int (3 : Int32)), .val (.int c2)] [(.ref a1), (.int (3 : Int32))])) (fun tz kz => ?_) ?_
  · show Steps p.tables e below (T11.setTop (mkF m 42 #[.val (.ref a1), .val (.ref a1), .val (.int (2 : Int32)), .val (.int c2)] [(.int (0 : Int32))])) _
    refine XS.ifYes X11.here hx rfl (pc0 := 42) (pc' := 62) rfl (hb hby d10_42) rfl ((if0 _ _).trans (teq (by first | decide | rfl)).1) (by decide) (by decide) ?_
    refine XS.iinc X11.here hx rfl (hb hby d10_62) rfl (l' := #[.val (.ref a1), .val (.ref a1), .val (.int (3 : Int32)), .val (.int c2)]) rfl ?_
    refine XS.goto X11.here hx rfl (pc0 := 65) (pc' := 24) rfl (hb hby d10_65) (by decide) (by decide) ?_
    refine XS.iloadN X11.here hx rfl (hb hby d10_24) rfl ?_
    refine XS.aloadN X11.here hx rfl (hb hby d10_25) rfl rfl ?_
    exact kz
  obtain ⟨cq12, kq12, q12a, q12b, q12c⟩ := isOf hZ e11 S1.1
  obtain ⟨_, _, ⟨T12, L12, k12, n12⟩, -, X12, ⟨Lc12, hQ12, l12, y12, z12⟩, st12⟩ := X11.virtualBack hx (y := n_13) (z := n_13) hown (mvT hZ (w_ hw 114 rfl)) (mvT hZ (w_ hw 89 rfl)) (notFace_of_selects (args := #[]) (mvT hZ (w_ hw 91 rfl))) (mvT hZ (w_ hw 91 rfl)) (mvT hZ (w_ hw 90 rfl)) (by decide) (backOf (W := 1) (rlen l Z a0 hw [] a1 b k cs (1 : Int32) (6 : Int32) (3 : Int32) _ T2.heap n0 Z1 SC hcs O1 S1.1 S1.2.1 S1.2.2.1 S1.2.2.2 rfl rfl) hZ (w_ hw 92 rfl) (w_ hw 13 rfl) (by decide) (by decide)) q12a q12c (g := (mkF m 26 #[.val (.ref a1), .val (.ref a1), .val (.int (3 : Int32)), .val (.int c2)] [(.ref a1), (.int (3 : Int32))])) rfl (by rw [hml]; rfl) (Steps.refl _) (argsL := []) (rest := [(.int (3 : Int32))]) (lenOf pd_17 rfl) rfl (by show 2 * 0 + _ ≤ _; exact Nat.le_of_eq rfl) (hb hby d10_26) (fun _ _ => ⟨rfl, e11, (by decide : 2 + 0 ≤ _), (by decide : 28 + 0 ≤ _)⟩)
  dsimp only [Pt.U, Pt.locs, Pt.cells, Pt.slots] at X12 l12 y12 z12 st12 hQ12
  subst l12 y12 z12
  obtain ⟨rfl, N12, e12⟩ := hQ12
  have Nf12 := Fr.app Nf11 N12
  refine Goes.via (fun _ kz => st12.trans kz) ?_
  refine Goes.via (S' := T12.setTop (mkF m 69 #[.val (.ref a1), .val (.ref a1), .val (.int (3 : Int32)), .val (.int c2)] [(.ref a1)])) (fun tz kz => ?_) ?_
  · show Steps p.tables e below (T12.setTop (mkF m 29 #[.val (.ref a1), .val (.ref a1), .val (.int (3 : Int32)), .val (.int c2)] [(.int (3 : Int32)), (.int (3 : Int32))])) _
    refine XS.icmpYes X12.here hx rfl (pc0 := 29) (pc' := 68) rfl (hb hby d10_29) rfl (flt (by first | decide | rfl)).2.1 (by decide) (by decide) ?_
    refine XS.aloadN X12.here hx rfl (hb hby d10_68) rfl rfl ?_
    exact kz
  exact Goes.retOH (s := s) (vm1 := T2.vm) X12 hx Bd.notSynchronized hS2 (Nat.le_refl _) e12 hZ hEL hC2 Bd.returns rfl (Or.inr (Or.inr (Or.inr (Or.inr ⟨rfl, rfl, rfl⟩)))) (hb hby d10_69) (nb_ rfl) (nb_ rfl) (by rw [e12]; exact ⟨rfl, Nf12, K2⟩)
def Q_rnm_L4 (Z : State) (a1 : Addr) (b : Addr) (k : ClassId) (cs : Int32) (fv : Value) (c0 c1 c2 c3 : Int32) (h0 : Heap) (n0 : Nat) : Option Value → Heap → List Loc → Prop := fun v h L => v = some (.ref a1) ∧ Fr n0 L ∧ Keep h0 h []
theorem rnm_L4 (l : Launch) (Z : State) (a0 : Array Value) (hw : ∀ d ∈ tables_1, d.before a0 Z = true) (ws : List Jvm.Cond) (a1 : Addr) (b : Addr) (k : ClassId) (cs : Int32) (fv : Value) (c0 c1 c2 c3 : Int32) (h0 : Heap) (n0 : Nat) (Z0 : n0 ≤ h0.size) (SC : Sta Z Z.heap "java/lang/String" "COMPACT_STRINGS" "Z" (.int cs)) (hcs : ¬ cs = (0 : Int32)) (O0 : Old Z n0 h0) (SF : Sta Z Z.heap "jdk/internal/util/Preconditions" "SIOOBE_FORMATTER" "Ljava/util/function/BiFunction;" fv) (hfv : fv.isRef = true) (S : own_Str Z h0 a1 b k (4 : Int32) [.int (own_by c0), .int (own_by c1), .int (own_by c2), .int (own_by c3)]) (z0 : nar .char c0 = c0) (z1 : nar .char c1 = c1) (z2 : nar .char c2 = c2) (z3 : nar .char c3 = c3) (hf : own_nf c0) (s0 : ¬ (255 : Int32) < c0) (s1 : ¬ (255 : Int32) < c1) (s2 : ¬ (255 : Int32) < c2) (s3 : ¬ (255 : Int32) < c3) (t0 : own_nct c0) (t1 : own_nct c1) (t2 : own_nct c2) (t3 : own_nct c3) :
    MetFree l n_32 (head1 (Jvm.Cond.code n_32 prog_10_method_5_code 4 (some (.object "java/lang/String")) :: ws) ({ frames := 6, cells := 2, slots := 28, locals := 110 } : Room)) (fun a U => a = #[(.ref a1)] ∧ Z.Warmed39 U.vm ∧ U.heap = h0 ∧ CHv Z consts_1 U.vm h0) (fun _ _ _ _ _ => True) (fun _ U oo U' => ∃ vv LL, oo = .returned vv ∧ (Q_rnm_L4 Z a1 b k cs fv c0 c1 c2 c3 h0 n0) vv U'.heap LL ∧ CHr Z consts_1 U.vm U.heap U'.vm U'.heap ∧ ReturnedEndW U oo U' LL ({ frames := 6, cells := 2, slots := 28, locals := 110 } : Room).cells ({ frames := 6, cells := 2, slots := 28, locals := 110 } : Room).slots) := by
  refine MetFree.of_bodySF (plainFor_of_name pn_10) hisR ?_
  intro p e s m args below meth c s₁ Bd hml0 hP hK
  obtain ⟨rfl, hZ, hh, hH⟩ := hP
  have hx := Bd.exec
  have hby := Bd.bytes
  have hml : c.maxLocals = 4 := hml0
  have hown : s.vm.findClass "com/example/vestline/vestline/format/Csv" = some m.cls := findClass_of_methodNamed Bd.named
  have hnm := (name_of_methodNamed Bd.named Bd.method).1
  have X0 : Stand p l e ({ frames := 6, cells := 2, slots := 28, locals := 110 } : Room) s m #[(.ref a1)] below meth c s₁ [] 0 0 := Stand.of_body Bd
  have e0 : s₁.heap = h0 := by rw [← hh, Bd.state]; rfl
  have N0 := Fr.nil n0
  have hC0 : CHr Z consts_1 s.vm s.heap s.vm h0 := by rw [hh]; exact CHr.refl hH
  have hEL := own_EW hw
  show Goes p e below (FinH s Z consts_1 (Q_rnm_L4 Z a1 b k cs fv c0 c1 c2 c3 h0 n0) ({ frames := 6, cells := 2, slots := 28, locals := 110 } : Room).cells ({ frames := 6, cells := 2, slots := 28, locals := 110 } : Room).slots) _
  refine Goes.via (S' := s₁.setTop (mkF m 0 #[.val (.ref a1), .unset, .unset, .unset] [])) (fun tz kz => castTop (ef_10 m a1 ) kz) ?_
  refine Goes.via (S' := s₁.setTop (mkF m 1 #[.val (.ref a1), .unset, .unset, .unset] [(.ref a1)])) (fun tz kz => ?_) ?_
  · show Steps p.tables e below (s₁.setTop (mkF m 0 #[.val (.ref a1), .unset, .unset, .unset] [])) _
    refine XS.aloadN X0.here hx rfl (hb hby d10_0) rfl rfl ?_
    exact kz
  obtain ⟨cq1, kq1, q1a, q1b, q1c⟩ := isOf hZ e0 S.1
  obtain ⟨_, _, ⟨T1, L1, k1, n1⟩, -, X1, ⟨Lc1, hQ1, l1, y1, z1⟩, st1⟩ := X0.virtualBack hx (y := n_10) (z := n_10) hown (mvT hZ (w_ hw 45 rfl)) (mvT hZ (w_ hw 46 rfl)) (notFace_of_selects (args := #[]) (mvT hZ (w_ hw 48 rfl))) (mvT hZ (w_ hw 48 rfl)) (mvT hZ (w_ hw 47 rfl)) (by decide) (backOf (W := 0) (rie l Z a0 hw [] a1 b k (4 : Int32) _ h0 n0 Z0 S.2.2.1 S.2.2.2 (by decide)) hZ (w_ hw 49 rfl) (w_ hw 13 rfl) (by decide) (by decide)) q1a q1c (g := (mkF m 1 #[.val (.ref a1), .unset, .unset, .unset] [(.ref a1)])) rfl (by rw [hml]; rfl) (Steps.refl _) (argsL := []) (rest := []) (lenOf pd_11 rfl) rfl (by show 2 * 0 + _ ≤ _; exact Nat.le_of_eq rfl) (hb hby d10_1) (fun _ _ => ⟨rfl, e0, (by decide : 0 + 0 ≤ _), (by decide : 0 + 0 ≤ _)⟩)
  dsimp only [Pt.U, Pt.locs, Pt.cells, Pt.slots] at X1 l1 y1 z1 st1 hQ1
  subst l1 y1 z1
  obtain ⟨rfl, N1, e1⟩ := hQ1
  have Nf1 := Fr.app N0 N1
  refine Goes.via (fun _ kz => st1.trans kz) ?_
  refine Goes.via (S' := T1.setTop (mkF m 18 #[.val (.ref a1), .unset, .unset, .unset] [(.ref a1)])) (fun tz kz => ?_) ?_
  · show Steps p.tables e below (T1.setTop (mkF m 4 #[.val (.ref a1), .unset, .unset, .unset] [(.int (0 : Int32))])) _
    refine XS.ifYes X1.here hx rfl (pc0 := 4) (pc' := 17) rfl (hb hby d10_4) rfl ((if0 _ _).trans (teq (by first | decide | rfl)).1) (by decide) (by decide) ?_
    refine XS.aloadN X1.here hx rfl (hb hby d10_17) rfl rfl ?_
    exact kz
  obtain ⟨_, _, ⟨T2, L2, k2, n2⟩, -, X2, hs2, gs2, ⟨Lc2, hQ2, l2, y2, z2, hc2⟩, st2⟩ := callSS (show Stand p l e _ (s.setVm s.vm) m _ below meth c _ _ _ _ from X1) hx (y := n_29) hown (mvT hZ (w_ hw 50 rfl)) (mvT hZ (w_ hw 51 rfl)) (mvT hZ (w_ hw 43 rfl)) (mvT hZ (w_ hw 52 rfl)) (by decide) (backOfSH (s := s) (vm0 := s.vm) (W := 0) (rpr_L l Z a0 hw [] a1 b k cs (4 : Int32) c0 fv _ h0 n0 Z0 SC hcs O0 SF hfv S z0 hf ⟨by decide, by decide⟩ rfl s0 (by decide)) hZ (w_ hw 52 rfl) (w_ hw 43 rfl) (by decide) (by decide) hEL hC0.1) (g := (mkF m 18 #[.val (.ref a1), .unset, .unset, .unset] [(.ref a1)])) rfl (by rw [hml]; rfl) (argsL := [(.ref a1)]) (rest := []) (lenOf pd_19 rfl) rfl (by show 2 * 0 + _ ≤ _; exact Nat.le_of_eq rfl) (hb hby d10_18) (fun _ _ => ⟨rfl, e1, (by decide : 0 + 2 ≤ _), (by decide : 0 + 28 ≤ _)⟩)
  dsimp only [Pt.U, Pt.locs, Pt.cells, Pt.slots] at X2 l2 y2 z2 st2 hQ2 hs2 gs2 hc2
  subst l2 y2 z2
  obtain ⟨rfl, N2, K2⟩ := hQ2
  rw [e1] at gs2
  have hS2 : s.Since T2.vm T2.heap.size := own_fold ((State.WarmedH.refl s).since 0) (Nat.zero_le _) hs2 gs2
  have hC2 := hC0.trans hc2
  have hZ : Z.Warmed39 (s.setVm T2.vm).vm := State.Warmed39.trans (t := s.setVm s.vm) hZ hs2.1
  have hown : (s.setVm T2.vm).vm.findClass "com/example/vestline/vestline/format/Csv" = some m.cls := by rw [show (s.setVm T2.vm).vm = T2.vm from rfl, hs2.1.alike.findClass]; exact hown
  have Nf2 := Fr.app Nf1 N2
  refine Goes.via (fun _ kz => st2.trans kz) ?_
  have S1 := S.keep K2 nin0 nin0
  have O1 := O0.keep K2 all0
  have Z1 := Nat.le_trans Z0 K2.1
  refine Goes.via (S' := T2.setTop (mkF m 26 #[.val (.ref a1), .val (.ref a1), .val (.int (0 : Int32)), .unset] [(.ref a1), (.int (0 : Int32))])) (fun tz kz => ?_) ?_
  · show Steps p.tables e below (T2.setTop (mkF m 21 #[.val (.ref a1), .unset, .unset, .unset] [(.ref a1)])) _
    refine XS.astoreN X2.here hx rfl (hb hby d10_21) rfl rfl (l' := #[.val (.ref a1), .val (.ref a1), .unset, .unset]) rfl ?_
    refine XS.iconst X2.here hx rfl (hb hby d10_22) ?_
    refine XS.istoreN X2.here hx rfl (hb hby d10_23) rfl (l' := #[.val (.ref a1), .val (.ref a1), .val (.int (0 : Int32)), .unset]) rfl ?_
    refine XS.iloadN X2.here hx rfl (hb hby d10_24) rfl ?_
    refine XS.aloadN X2.here hx rfl (hb hby d10_25) rfl rfl ?_
    exact kz
  obtain ⟨cq3, kq3, q3a, q3b, q3c⟩ := isOf hZ rfl S1.1
  obtain ⟨_, _, ⟨T3, L3, k3, n3⟩, -, X3, ⟨Lc3, hQ3, l3, y3, z3⟩, st3⟩ := X2.virtualBack hx (y := n_13) (z := n_13) hown (mvT hZ (w_ hw 114 rfl)) (mvT hZ (w_ hw 89 rfl)) (notFace_of_selects (args := #[]) (mvT hZ (w_ hw 91 rfl))) (mvT hZ (w_ hw 91 rfl)) (mvT hZ (w_ hw 90 rfl)) (by decide) (backOf (W := 1) (rlen l Z a0 hw [] a1 b k cs (0 : Int32) (4 : Int32) (4 : Int32) _ T2.heap n0 Z1 SC hcs O1 S1.1 S1.2.1 S1.2.2.1 S1.2.2.2 rfl rfl) hZ (w_ hw 92 rfl) (w_ hw 13 rfl) (by decide) (by decide)) q3a q3c (g := (mkF m 26 #[.val (.ref a1), .val (.ref a1), .val (.int (0 : Int32)), .unset] [(.ref a1), (.int (0 : Int32))])) rfl (by rw [hml]; rfl) (Steps.refl _) (argsL := []) (rest := [(.int (0 : Int32))]) (lenOf pd_17 rfl) rfl (by show 2 * 0 + _ ≤ _; exact Nat.le_of_eq rfl) (hb hby d10_26) (fun _ _ => ⟨rfl, rfl, (by decide : 2 + 0 ≤ _), (by decide : 28 + 0 ≤ _)⟩)
  dsimp only [Pt.U, Pt.locs, Pt.cells, Pt.slots] at X3 l3 y3 z3 st3 hQ3
  subst l3 y3 z3
  obtain ⟨rfl, N3, e3⟩ := hQ3
  have Nf3 := Fr.app Nf2 N3
  refine Goes.via (fun _ kz => st3.trans kz) ?_
  refine Goes.via (S' := T3.setTop (mkF m 34 #[.val (.ref a1), .val (.ref a1), .val (.int (0 : Int32)), .unset] [(.int (0 : Int32)), (.ref a1)])) (fun tz kz => ?_) ?_
  · show Steps p.tables e below (T3.setTop (mkF m 29 #[.val (.ref a1), .val (.ref a1), .val (.int (0 : Int32)), .unset] [(.int (4 : Int32)), (.int (0 : Int32))])) _
    refine XS.icmpNo X3.here hx rfl (hb hby d10_29) rfl (tlt (by first | decide | rfl)).2.1 ?_
    refine XS.aloadN X3.here hx rfl (hb hby d10_32) rfl rfl ?_
    refine XS.iloadN X3.here hx rfl (hb hby d10_33) rfl ?_
    exact kz
  obtain ⟨cq4, kq4, q4a, q4b, q4c⟩ := isOf hZ e3 S1.1
  obtain ⟨_, _, ⟨T4, L4, k4, n4⟩, -, X4, ⟨Lc4, hQ4, l4, y4, z4⟩, st4⟩ := X3.virtualBack hx (y := n_17) (z := n_17) hown (mvT hZ (w_ hw 56 rfl)) (mvT hZ (w_ hw 57 rfl)) (notFace_of_selects (args := #[]) (mvT hZ (w_ hw 59 rfl))) (mvT hZ (w_ hw 59 rfl)) (mvT hZ (w_ hw 58 rfl)) (by decide) (backOf (W := 0) (rca_L l Z a0 hw [] a1 (0 : Int32) b k cs (4 : Int32) c0 fv _ T2.heap n0 Z1 SC hcs O1 SF hfv S1 z0 ⟨by decide, by decide⟩ rfl s0) hZ (w_ hw 60 rfl) (w_ hw 13 rfl) (by decide) (by decide)) q4a q4c (g := (mkF m 34 #[.val (.ref a1), .val (.ref a1), .val (.int (0 : Int32)), .unset] [(.int (0 : Int32)), (.ref a1)])) rfl (by rw [hml]; rfl) (Steps.refl _) (argsL := [(.int (0 : Int32))]) (rest := []) (lenOf pd_18 rfl) rfl (by show 2 * 0 + _ ≤ _; exact Nat.le_of_eq rfl) (hb hby d10_34) (fun _ _ => ⟨rfl, e3, (by decide : 2 + 0 ≤ _), (by decide : 28 + 0 ≤ _)⟩)
  dsimp only [Pt.U, Pt.locs, Pt.cells, Pt.slots] at X4 l4 y4 z4 st4 hQ4
  subst l4 y4 z4
  obtain ⟨rfl, N4, e4⟩ := hQ4
  have Nf4 := Fr.app Nf3 N4
  refine Goes.via (fun _ kz => st4.trans kz) ?_
  refine Goes.via (S' := T4.setTop (mkF m 39 #[.val (.ref a1), .val (.ref a1), .val (.int (0 : Int32)), .val (.int c0)] [(.int c0)])) (fun tz kz => ?_) ?_
  · show Steps p.tables e below (T4.setTop (mkF m 37 #[.val (.ref a1), .val (.ref a1), .val (.int (0 : Int32)), .unset] [(.int c0)])) _
    refine XS.istoreN X4.here hx rfl (hb hby d10_37) rfl (l' := #[.val (.ref a1), .val (.ref a1), .val (.int (0 : Int32)), .val (.int c0)]) rfl ?_
    refine XS.iloadN X4.here hx rfl (hb hby d10_38) rfl ?_
    exact kz
  obtain ⟨_, _, ⟨T5, L5, k5, n5⟩, -, X5, ⟨Lc5, hQ5, l5, y5, z5⟩, st5⟩ := Jvm.LawKit.callS X4 hx (y := n_31) hown (mvT hZ (w_ hw 115 rfl)) (mvT hZ (w_ hw 116 rfl)) (mvT hZ (w_ hw 117 rfl)) (mvT hZ (w_ hw 118 rfl)) (by decide) (backOf (W := 0) (risoc l Z a0 hw [] c0 T2.heap n0 Z1 t0) hZ (w_ hw 118 rfl) (w_ hw 117 rfl) (by decide) (by decide)) (g := (mkF m 39 #[.val (.ref a1), .val (.ref a1), .val (.int (0 : Int32)), .val (.int c0)] [(.int c0)])) rfl (by rw [hml]; rfl) (argsL := [(.int c0)]) (rest := []) (lenOf pd_20 rfl) rfl (by show 2 * 0 + _ ≤ _; exact Nat.le_of_eq rfl) (hb hby d10_39) (fun _ _ => ⟨rfl, e4, (by decide : 2 + 0 ≤ _), (by decide : 28 + 0 ≤ _)⟩)
  dsimp only [Pt.U, Pt.locs, Pt.cells, Pt.slots] at X5 l5 y5 z5 st5 hQ5
  subst l5 y5 z5
  obtain ⟨rfl, N5, e5⟩ := hQ5
  have Nf5 := Fr.app Nf4 N5
  refine Goes.via (st5) ?_
  refine Goes.via (S' := T5.setTop (mkF m 26 #[.val (.ref a1), .val (.ref a1), .val (.int (1 : Int32)), .val (.int c0)] [(.ref a1), (.int (1 : Int32))])) (fun tz kz => ?_) ?_
  · show Steps p.tables e below (T5.setTop (mkF m 42 #[.val (.ref a1), .val (.ref a1), .val (.int (0 : Int32)), .val (.int c0)] [(.int (0 : Int32))])) _
    refine XS.ifYes X5.here hx rfl (pc0 := 42) (pc' := 62) rfl (hb hby d10_42) rfl ((if0 _ _).trans (teq (by first | decide | rfl)).1) (by decide) (by decide) ?_
    refine XS.iinc X5.here hx rfl (hb hby d10_62) rfl (l' := #[.val (.ref a1), .val (.ref a1), .val (.int (1 : Int32)), .val (.int c0)]) rfl ?_
    refine XS.goto X5.here hx rfl (pc0 := 65) (pc' := 24) rfl (hb hby d10_65) (by decide) (by decide) ?_
    refine XS.iloadN X5.here hx rfl (hb hby d10_24) rfl ?_
    refine XS.aloadN X5.here hx rfl (hb hby d10_25) rfl rfl ?_
    exact kz
  obtain ⟨cq6, kq6, q6a, q6b, q6c⟩ := isOf hZ e5 S1.1
  obtain ⟨_, _, ⟨T6, L6, k6, n6⟩, -, X6, ⟨Lc6, hQ6, l6, y6, z6⟩, st6⟩ := X5.virtualBack hx (y := n_13) (z := n_13) hown (mvT hZ (w_ hw 114 rfl)) (mvT hZ (w_ hw 89 rfl)) (notFace_of_selects (args := #[]) (mvT hZ (w_ hw 91 rfl))) (mvT hZ (w_ hw 91 rfl)) (mvT hZ (w_ hw 90 rfl)) (by decide) (backOf (W := 1) (rlen l Z a0 hw [] a1 b k cs (0 : Int32) (4 : Int32) (4 : Int32) _ T2.heap n0 Z1 SC hcs O1 S1.1 S1.2.1 S1.2.2.1 S1.2.2.2 rfl rfl) hZ (w_ hw 92 rfl) (w_ hw 13 rfl) (by decide) (by decide)) q6a q6c (g := (mkF m 26 #[.val (.ref a1), .val (.ref a1), .val (.int (1 : Int32)), .val (.int c0)] [(.ref a1), (.int (1 : Int32))])) rfl (by rw [hml]; rfl) (Steps.refl _) (argsL := []) (rest := [(.int (1 : Int32))]) (lenOf pd_17 rfl) rfl (by show 2 * 0 + _ ≤ _; exact Nat.le_of_eq rfl) (hb hby d10_26) (fun _ _ => ⟨rfl, e5, (by decide : 2 + 0 ≤ _), (by decide : 28 + 0 ≤ _)⟩)
  dsimp only [Pt.U, Pt.locs, Pt.cells, Pt.slots] at X6 l6 y6 z6 st6 hQ6
  subst l6 y6 z6
  obtain ⟨rfl, N6, e6⟩ := hQ6
  have Nf6 := Fr.app Nf5 N6
  refine Goes.via (fun _ kz => st6.trans kz) ?_
  refine Goes.via (S' := T6.setTop (mkF m 34 #[.val (.ref a1), .val (.ref a1), .val (.int (1 : Int32)), .val (.int c0)] [(.int (1 : Int32)), (.ref a1)])) (fun tz kz => ?_) ?_
  · show Steps p.tables e below (T6.setTop (mkF m 29 #[.val (.ref a1), .val (.ref a1), .val (.int (1 : Int32)), .val (.int c0)] [(.int (4 : Int32)), (.int (1 : Int32))])) _
    refine XS.icmpNo X6.here hx rfl (hb hby d10_29) rfl (tlt (by first | decide | rfl)).2.1 ?_
    refine XS.aloadN X6.here hx rfl (hb hby d10_32) rfl rfl ?_
    refine XS.iloadN X6.here hx rfl (hb hby d10_33) rfl ?_
    exact kz
  obtain ⟨cq7, kq7, q7a, q7b, q7c⟩ := isOf hZ e6 S1.1
  obtain ⟨_, _, ⟨T7, L7, k7, n7⟩, -, X7, ⟨Lc7, hQ7, l7, y7, z7⟩, st7⟩ := X6.virtualBack hx (y := n_17) (z := n_17) hown (mvT hZ (w_ hw 56 rfl)) (mvT hZ (w_ hw 57 rfl)) (notFace_of_selects (args := #[]) (mvT hZ (w_ hw 59 rfl))) (mvT hZ (w_ hw 59 rfl)) (mvT hZ (w_ hw 58 rfl)) (by decide) (backOf (W := 0) (rca_L l Z a0 hw [] a1 (1 : Int32) b k cs (4 : Int32) c1 fv _ T2.heap n0 Z1 SC hcs O1 SF hfv S1 z1 ⟨by decide, by decide⟩ rfl s1) hZ (w_ hw 60 rfl) (w_ hw 13 rfl) (by decide) (by decide)) q7a q7c (g := (mkF m 34 #[.val (.ref a1), .val (.ref a1), .val (.int (1 : Int32)), .val (.int c0)] [(.int (1 : Int32)), (.ref a1)])) rfl (by rw [hml]; rfl) (Steps.refl _) (argsL := [(.int (1 : Int32))]) (rest := []) (lenOf pd_18 rfl) rfl (by show 2 * 0 + _ ≤ _; exact Nat.le_of_eq rfl) (hb hby d10_34) (fun _ _ => ⟨rfl, e6, (by decide : 2 + 0 ≤ _), (by decide : 28 + 0 ≤ _)⟩)
  dsimp only [Pt.U, Pt.locs, Pt.cells, Pt.slots] at X7 l7 y7 z7 st7 hQ7
  subst l7 y7 z7
  obtain ⟨rfl, N7, e7⟩ := hQ7
  have Nf7 := Fr.app Nf6 N7
  refine Goes.via (fun _ kz => st7.trans kz) ?_
  refine Goes.via (S' := T7.setTop (mkF m 39 #[.val (.ref a1), .val (.ref a1), .val (.int (1 : Int32)), .val (.int c1)] [(.int c1)])) (fun tz kz => ?_) ?_
  · show Steps p.tables e below (T7.setTop (mkF m 37 #[.val (.ref a1), .val (.ref a1), .val (.int (1 : Int32)), .val (.int c0)] [(.int c1)])) _
    refine XS.istoreN X7.here hx rfl (hb hby d10_37) rfl (l' := #[.val (.ref a1), .val (.ref a1), .val (.int (1 : Int32)), .val (.int c1)]) rfl ?_
    refine XS.iloadN X7.here hx rfl (hb hby d10_38) rfl ?_
    exact kz
  obtain ⟨_, _, ⟨T8, L8, k8, n8⟩, -, X8, ⟨Lc8, hQ8, l8, y8, z8⟩, st8⟩ := Jvm.LawKit.callS X7 hx (y := n_31) hown (mvT hZ (w_ hw 115 rfl)) (mvT hZ (w_ hw 116 rfl)) (mvT hZ (w_ hw 117 rfl)) (mvT hZ (w_ hw 118 rfl)) (by decide) (backOf (W := 0) (risoc l Z a0 hw [] c1 T2.heap n0 Z1 t1) hZ (w_ hw 118 rfl) (w_ hw 117 rfl) (by decide) (by decide)) (g := (mkF m 39 #[.val (.ref a1), .val (.ref a1), .val (.int (1 : Int32)), .val (.int c1)] [(.int c1)])) rfl (by rw [hml]; rfl) (argsL := [(.int c1)]) (rest := []) (lenOf pd_20 rfl) rfl (by show 2 * 0 + _ ≤ _; exact Nat.le_of_eq rfl) (hb hby d10_39) (fun _ _ => ⟨rfl, e7, (by decide : 2 + 0 ≤ _), (by decide : 28 + 0 ≤ _)⟩)
  dsimp only [Pt.U, Pt.locs, Pt.cells, Pt.slots] at X8 l8 y8 z8 st8 hQ8
  subst l8 y8 z8
  obtain ⟨rfl, N8, e8⟩ := hQ8
  have Nf8 := Fr.app Nf7 N8
  refine Goes.via (st8) ?_
  refine Goes.via (S' := T8.setTop (mkF m 26 #[.val (.ref a1), .val (.ref a1), .val (.int (2 : Int32)), .val (.int c1)] [(.ref a1), (.int (2 : Int32))])) (fun tz kz => ?_) ?_
  · show Steps p.tables e below (T8.setTop (mkF m 42 #[.val (.ref a1), .val (.ref a1), .val (.int (1 : Int32)), .val (.int c1)] [(.int (0 : Int32))])) _
    refine XS.ifYes X8.here hx rfl (pc0 := 42) (pc' := 62) rfl (hb hby d10_42) rfl ((if0 _ _).trans (teq (by first | decide | rfl)).1) (by decide) (by decide) ?_
    refine XS.iinc X8.here hx rfl (hb hby d10_62) rfl (l' := #[.val (.ref a1), .val (.ref a1), .val (.int (2 : Int32)), .val (.int c1)]) rfl ?_
    refine XS.goto X8.here hx rfl (pc0 := 65) (pc' := 24) rfl (hb hby d10_65) (by decide) (by decide) ?_
    refine XS.iloadN X8.here hx rfl (hb hby d10_24) rfl ?_
    refine XS.aloadN X8.here hx rfl (hb hby d10_25) rfl rfl ?_
    exact kz
  obtain ⟨cq9, kq9, q9a, q9b, q9c⟩ := isOf hZ e8 S1.1
  obtain ⟨_, _, ⟨T9, L9, k9, n9⟩, -, X9, ⟨Lc9, hQ9, l9, y9, z9⟩, st9⟩ := X8.virtualBack hx (y := n_13) (z := n_13) hown (mvT hZ (w_ hw 114 rfl)) (mvT hZ (w_ hw 89 rfl)) (notFace_of_selects (args := #[]) (mvT hZ (w_ hw 91 rfl))) (mvT hZ (w_ hw 91 rfl)) (mvT hZ (w_ hw 90 rfl)) (by decide) (backOf (W := 1) (rlen l Z a0 hw [] a1 b k cs (0 : Int32) (4 : Int32) (4 : Int32) _ T2.heap n0 Z1 SC hcs O1 S1.1 S1.2.1 S1.2.2.1 S1.2.2.2 rfl rfl) hZ (w_ hw 92 rfl) (w_ hw 13 rfl) (by decide) (by decide)) q9a q9c (g := (mkF m 26 #[.val (.ref a1), .val (.ref a1), .val (.int (2 : Int32)), .val (.int c1)] [(.ref a1), (.int (2 : Int32))])) rfl (by rw [hml]; rfl) (Steps.refl _) (argsL := []) (rest := [(.int (2 : Int32))]) (lenOf pd_17 rfl) rfl (by show 2 * 0 + _ ≤ _; exact Nat.le_of_eq rfl) (hb hby d10_26) (fun _ _ => ⟨rfl, e8, (by decide : 2 + 0 ≤ _), (by decide : 28 + 0 ≤ _)⟩)
  dsimp only [Pt.U, Pt.locs, Pt.cells, Pt.slots] at X9 l9 y9 z9 st9 hQ9
  subst l9 y9 z9
  obtain ⟨rfl, N9, e9⟩ := hQ9
  have Nf9 := Fr.app Nf8 N9
  refine Goes.via (fun _ kz => st9.trans kz) ?_
  refine Goes.via (S' := T9.setTop (mkF m 34 #[.val (.ref a1), .val (.ref a1), .val (.int (2 : Int32)), .val (.int c1)] [(.int (2 : Int32)), (.ref a1)])) (fun tz kz => ?_) ?_
  · show Steps p.tables e below (T9.setTop (mkF m 29 #[.val (.ref a1), .val (.ref a1), .val (.int (2 : Int32)), .val (.int c1)] [(.int (4 : Int32)), (.int (2 : Int32))])) _
    refine XS.icmpNo X9.here hx rfl (hb hby d10_29) rfl (tlt (by first | decide | rfl)).2.1 ?_
    refine XS.aloadN X9.here hx rfl (hb hby d10_32) rfl rfl ?_
    refine XS.iloadN X9.here hx rfl (hb hby d10_33) rfl ?_
    exact kz
  obtain ⟨cq10, kq10, q10a, q10b, q10c⟩ := isOf hZ e9 S1.1
  obtain ⟨_, _, ⟨T10, L10, k10, n10⟩, -, X10, ⟨Lc10, hQ10, l10, y10, z10⟩, st10⟩ := X9.virtualBack hx (y := n_17) (z := n_17) hown (mvT hZ (w_ hw 56 rfl)) (mvT hZ (w_ hw 57 rfl)) (notFace_of_selects (args := #[]) (mvT hZ (w_ hw 59 rfl))) (mvT hZ (w_ hw 59 rfl)) (mvT hZ (w_ hw 58 rfl)) (by decide) (backOf (W := 0) (rca_L l Z a0 hw [] a1 (2 : Int32) b k cs (4 : Int32) c2 fv _ T2.heap n0 Z1 SC hcs O1 SF hfv S1 z2 ⟨by decide, by decide⟩ rfl s2) hZ (w_ hw 60 rfl) (w_ hw 13 rfl) (by decide) (by decide)) q10a q10c (g := (mkF m 34 #[.val (.ref a1), .val (.ref a1), .val (.int (2 : Int32)), .val (.int c1)] [(.int (2 : Int32)), (.ref a1)])) rfl (by rw [hml]; rfl) (Steps.refl _) (argsL := [(.int (2 : Int32))]) (rest := []) (lenOf pd_18 rfl) rfl (by show 2 * 0 + _ ≤ _; exact Nat.le_of_eq rfl) (hb hby d10_34) (fun _ _ => ⟨rfl, e9, (by decide : 2 + 0 ≤ _), (by decide : 28 + 0 ≤ _)⟩)
  dsimp only [Pt.U, Pt.locs, Pt.cells, Pt.slots] at X10 l10 y10 z10 st10 hQ10
  subst l10 y10 z10
  obtain ⟨rfl, N10, e10⟩ := hQ10
  have Nf10 := Fr.app Nf9 N10
  refine Goes.via (fun _ kz => st10.trans kz) ?_
  refine Goes.via (S' := T10.setTop (mkF m 39 #[.val (.ref a1), .val (.ref a1), .val (.int (2 : Int32)), .val (.int c2)] [(.int c2)])) (fun tz kz => ?_) ?_
  · show Steps p.tables e below (T10.setTop (mkF m 37 #[.val (.ref a1), .val (.ref a1), .val (.int (2 : Int32)), .val (.int c1)] [(.int c2)])) _
    refine XS.istoreN X10.here hx rfl (hb hby d10_37) rfl (l' := #[.val (.ref a1), .val (.ref a1), .val (.int (2 : Int32)), .val (.int c2)]) rfl ?_
    refine XS.iloadN X10.here hx rfl (hb hby d10_38) rfl ?_
    exact kz
  obtain ⟨_, _, ⟨T11, L11, k11, n11⟩, -, X11, ⟨Lc11, hQ11, l11, y11, z11⟩, st11⟩ := Jvm.LawKit.callS X10 hx (y := n_31) hown (mvT hZ (w_ hw 115 rfl)) (mvT hZ (w_ hw 116 rfl)) (mvT hZ (w_ hw 117 rfl)) (mvT hZ (w_ hw 118 rfl)) (by decide) (backOf (W := 0) (risoc l Z a0 hw [] c2 T2.heap n0 Z1 t2) hZ (w_ hw 118 rfl) (w_ hw 117 rfl) (by decide) (by decide)) (g := (mkF m 39 #[.val (.ref a1), .val (.ref a1), .val (.int (2 : Int32)), .val (.int c2)] [(.int c2)])) rfl (by rw [hml]; rfl) (argsL := [(.int c2)]) (rest := []) (lenOf pd_20 rfl) rfl (by show 2 * 0 + _ ≤ _; exact Nat.le_of_eq rfl) (hb hby d10_39) (fun _ _ => ⟨rfl, e10, (by decide : 2 + 0 ≤ _), (by decide : 28 + 0 ≤ _)⟩)
  dsimp only [Pt.U, Pt.locs, Pt.cells, Pt.slots] at X11 l11 y11 z11 st11 hQ11
  subst l11 y11 z11
  obtain ⟨rfl, N11, e11⟩ := hQ11
  have Nf11 := Fr.app Nf10 N11
  refine Goes.via (st11) ?_
  refine Goes.via (S' := T11.setTop (mkF m 26 #[.val (.ref a1), .val (.ref a1), .val (.int (3 : Int32)), .val (.int c2)] [(.ref a1), (.int (3 : Int32))])) (fun tz kz => ?_) ?_
  · show Steps p.tables e below (T11.setTop (mkF m 42 #[.val (.ref a1), .val (.ref a1), .val (.int (2 : Int32)), .val (.int c2)] [(.int (0 : Int32))])) _
    refine XS.ifYes X11.here hx rfl (pc0 := 42) (pc' := 62) rfl (hb hby d10_42) rfl ((if0 _ _).trans (teq (by first | decide | rfl)).1) (by decide) (by decide) ?_
    refine XS.iinc X11.here hx rfl (hb hby d10_62) rfl (l' := #[.val (.ref a1), .val (.ref a1), .val (.int (3 : Int32)), .val (.int c2)]) rfl ?_
    refine XS.goto X11.here hx rfl (pc0 := 65) (pc' := 24) rfl (hb hby d10_65) (by decide) (by decide) ?_
    refine XS.iloadN X11.here hx rfl (hb hby d10_24) rfl ?_
    refine XS.aloadN X11.here hx rfl (hb hby d10_25) rfl rfl ?_
    exact kz
  obtain ⟨cq12, kq12, q12a, q12b, q12c⟩ := isOf hZ e11 S1.1
  obtain ⟨_, _, ⟨T12, L12, k12, n12⟩, -, X12, ⟨Lc12, hQ12, l12, y12, z12⟩, st12⟩ := X11.virtualBack hx (y := n_13) (z := n_13) hown (mvT hZ (w_ hw 114 rfl)) (mvT hZ (w_ hw 89 rfl)) (notFace_of_selects (args := #[]) (mvT hZ (w_ hw 91 rfl))) (mvT hZ (w_ hw 91 rfl)) (mvT hZ (w_ hw 90 rfl)) (by decide) (backOf (W := 1) (rlen l Z a0 hw [] a1 b k cs (0 : Int32) (4 : Int32) (4 : Int32) _ T2.heap n0 Z1 SC hcs O1 S1.1 S1.2.1 S1.2.2.1 S1.2.2.2 rfl rfl) hZ (w_ hw 92 rfl) (w_ hw 13 rfl) (by decide) (by decide)) q12a q12c (g := (mkF m 26 #[.val (.ref a1), .val (.ref a1), .val (.int (3 : Int32)), .val (.int c2)] [(.ref a1), (.int (3 : Int32))])) rfl (by rw [hml]; rfl) (Steps.refl _) (argsL := []) (rest := [(.int (3 : Int32))]) (lenOf pd_17 rfl) rfl (by show 2 * 0 + _ ≤ _; exact Nat.le_of_eq rfl) (hb hby d10_26) (fun _ _ => ⟨rfl, e11, (by decide : 2 + 0 ≤ _), (by decide : 28 + 0 ≤ _)⟩)
  dsimp only [Pt.U, Pt.locs, Pt.cells, Pt.slots] at X12 l12 y12 z12 st12 hQ12
  subst l12 y12 z12
  obtain ⟨rfl, N12, e12⟩ := hQ12
  have Nf12 := Fr.app Nf11 N12
  refine Goes.via (fun _ kz => st12.trans kz) ?_
  refine Goes.via (S' := T12.setTop (mkF m 34 #[.val (.ref a1), .val (.ref a1), .val (.int (3 : Int32)), .val (.int c2)] [(.int (3 : Int32)), (.ref a1)])) (fun tz kz => ?_) ?_
  · show Steps p.tables e below (T12.setTop (mkF m 29 #[.val (.ref a1), .val (.ref a1), .val (.int (3 : Int32)), .val (.int c2)] [(.int (4 : Int32)), (.int (3 : Int32))])) _
    refine XS.icmpNo X12.here hx rfl (hb hby d10_29) rfl (tlt (by first | decide | rfl)).2.1 ?_
    refine XS.aloadN X12.here hx rfl (hb hby d10_32) rfl rfl ?_
    refine XS.iloadN X12.here hx rfl (hb hby d10_33) rfl ?_
    exact kz
  obtain ⟨cq13, kq13, q13a, q13b, q13c⟩ := isOf hZ e12 S1.1
  obtain ⟨_, _, ⟨T13, L13, k13, n13⟩, -, X13, ⟨Lc13, hQ13, l13, y13, z13⟩, st13⟩ := X12.virtualBack hx (y := n_17) (z := n_17) hown (mvT hZ (w_ hw 56 rfl)) (mvT hZ (w_ hw 57 rfl)) (notFace_of_selects (args := #[]) (mvT hZ (w_ hw 59 rfl))) (mvT hZ (w_ hw 59 rfl)) (mvT hZ (w_ hw 58 rfl)) (by decide) (backOf (W := 0) (rca_L l Z a0 hw [] a1 (3 : Int32) b k cs (4 : Int32) c3 fv _ T2.heap n0 Z1 SC hcs O1 SF hfv S1 z3 ⟨by decide, by decide⟩ rfl s3) hZ (w_ hw 60 rfl) (w_ hw 13 rfl) (by decide) (by decide)) q13a q13c (g := (mkF m 34 #[.val (.ref a1), .val (.ref a1), .val (.int (3 : Int32)), .val (.int c2)] [(.int (3 : Int32)), (.ref a1)])) rfl (by rw [hml]; rfl) (Steps.refl _) (argsL := [(.int (3 : Int32))]) (rest := []) (lenOf pd_18 rfl) rfl (by show 2 * 0 + _ ≤ _; exact Nat.le_of_eq rfl) (hb hby d10_34) (fun _ _ => ⟨rfl, e12, (by decide : 2 + 0 ≤ _), (by decide : 28 + 0 ≤ _)⟩)
  dsimp only [Pt.U, Pt.locs, Pt.cells, Pt.slots] at X13 l13 y13 z13 st13 hQ13
  subst l13 y13 z13
  obtain ⟨rfl, N13, e13⟩ := hQ13
  have Nf13 := Fr.app Nf12 N13
  refine Goes.via (fun _ kz => st13.trans kz) ?_
  refine Goes.via (S' := T13.setTop (mkF m 39 #[.val (.ref a1), .val (.ref a1), .val (.int (3 : Int32)), .val (.int c3)] [(.int c3)])) (fun tz kz => ?_) ?_
  · show Steps p.tables e below (T13.setTop (mkF m 37 #[.val (.ref a1), .val (.ref a1), .val (.int (3 : Int32)), .val (.int c2)] [(.int c3)])) _
    refine XS.istoreN X13.here hx rfl (hb hby d10_37) rfl (l' := #[.val (.ref a1), .val (.ref a1), .val (.int (3 : Int32)), .val (.int c3)]) rfl ?_
    refine XS.iloadN X13.here hx rfl (hb hby d10_38) rfl ?_
    exact kz
  obtain ⟨_, _, ⟨T14, L14, k14, n14⟩, -, X14, ⟨Lc14, hQ14, l14, y14, z14⟩, st14⟩ := Jvm.LawKit.callS X13 hx (y := n_31) hown (mvT hZ (w_ hw 115 rfl)) (mvT hZ (w_ hw 116 rfl)) (mvT hZ (w_ hw 117 rfl)) (mvT hZ (w_ hw 118 rfl)) (by decide) (backOf (W := 0) (risoc l Z a0 hw [] c3 T2.heap n0 Z1 t3) hZ (w_ hw 118 rfl) (w_ hw 117 rfl) (by decide) (by decide)) (g := (mkF m 39 #[.val (.ref a1), .val (.ref a1), .val (.int (3 : Int32)), .val (.int c3)] [(.int c3)])) rfl (by rw [hml]; rfl) (argsL := [(.int c3)]) (rest := []) (lenOf pd_20 rfl) rfl (by show 2 * 0 + _ ≤ _; exact Nat.le_of_eq rfl) (hb hby d10_39) (fun _ _ => ⟨rfl, e13, (by decide : 2 + 0 ≤ _), (by decide : 28 + 0 ≤ _)⟩)
  dsimp only [Pt.U, Pt.locs, Pt.cells, Pt.slots] at X14 l14 y14 z14 st14 hQ14
  subst l14 y14 z14
  obtain ⟨rfl, N14, e14⟩ := hQ14
  have Nf14 := Fr.app Nf13 N14
  refine Goes.via (st14) ?_
  refine Goes.via (S' := T14.setTop (mkF m 26 #[.val (.ref a1), .val (.ref a1), .val (.int (4 : Int32)), .val (.int c3)] [(.ref a1), (.int (4 : Int32))])) (fun tz kz => ?_) ?_
  · show Steps p.tables e below (T14.setTop (mkF m 42 #[.val (.ref a1), .val (.ref a1), .val (.int (3 : Int32)), .val (.int c3)] [(.int (0 : Int32))])) _
    refine XS.ifYes X14.here hx rfl (pc0 := 42) (pc' := 62) rfl (hb hby d10_42) rfl ((if0 _ _).trans (teq (by first | decide | rfl)).1) (by decide) (by decide) ?_
    refine XS.iinc X14.here hx rfl (hb hby d10_62) rfl (l' := #[.val (.ref a1), .val (.ref a1), .val (.int (4 : Int32)), .val (.int c3)]) rfl ?_
    refine XS.goto X14.here hx rfl (pc0 := 65) (pc' := 24) rfl (hb hby d10_65) (by decide) (by decide) ?_
    refine XS.iloadN X14.here hx rfl (hb hby d10_24) rfl ?_
    refine XS.aloadN X14.here hx rfl (hb hby d10_25) rfl rfl ?_
    exact kz
  obtain ⟨cq15, kq15, q15a, q15b, q15c⟩ := isOf hZ e14 S1.1
  obtain ⟨_, _, ⟨T15, L15, k15, n15⟩, -, X15, ⟨Lc15, hQ15, l15, y15, z15⟩, st15⟩ := X14.virtualBack hx (y := n_13) (z := n_13) hown (mvT hZ (w_ hw 114 rfl)) (mvT hZ (w_ hw 89 rfl)) (notFace_of_selects (args := #[]) (mvT hZ (w_ hw 91 rfl))) (mvT hZ (w_ hw 91 rfl)) (mvT hZ (w_ hw 90 rfl)) (by decide) (backOf (W := 1) (rlen l Z a0 hw [] a1 b k cs (0 : Int32) (4 : Int32) (4 : Int32) _ T2.heap n0 Z1 SC hcs O1 S1.1 S1.2.1 S1.2.2.1 S1.2.2.2 rfl rfl) hZ (w_ hw 92 rfl) (w_ hw 13 rfl) (by decide) (by decide)) q15a q15c (g := (mkF m 26 #[.val (.ref a1), .val (.ref a1), .val (.int (4 : Int32)), .val (.int c3)] [(.ref a1), (.int (4 : Int32))])) rfl (by rw [hml]; rfl) (Steps.refl _) (argsL := []) (rest := [(.int (4 : Int32))]) (lenOf pd_17 rfl) rfl (by show 2 * 0 + _ ≤ _; exact Nat.le_of_eq rfl) (hb hby d10_26) (fun _ _ => ⟨rfl, e14, (by decide : 2 + 0 ≤ _), (by decide : 28 + 0 ≤ _)⟩)
  dsimp only [Pt.U, Pt.locs, Pt.cells, Pt.slots] at X15 l15 y15 z15 st15 hQ15
  subst l15 y15 z15
  obtain ⟨rfl, N15, e15⟩ := hQ15
  have Nf15 := Fr.app Nf14 N15
  refine Goes.via (fun _ kz => st15.trans kz) ?_
  refine Goes.via (S' := T15.setTop (mkF m 69 #[.val (.ref a1), .val (.ref a1), .val (.int (4 : Int32)), .val (.int c3)] [(.ref a1)])) (fun tz kz => ?_) ?_
  · show Steps p.tables e below (T15.setTop (mkF m 29 #[.val (.ref a1), .val (.ref a1), .val (.int (4 : Int32)), .val (.int c3)] [(.int (4 : Int32)), (.int (4 : Int32))])) _
    refine XS.icmpYes X15.here hx rfl (pc0 := 29) (pc' := 68) rfl (hb hby d10_29) rfl (flt (by first | decide | rfl)).2.1 (by decide) (by decide) ?_
    refine XS.aloadN X15.here hx rfl (hb hby d10_68) rfl rfl ?_
    exact kz
  exact Goes.retOH (s := s) (vm1 := T2.vm) X15 hx Bd.notSynchronized hS2 (Nat.le_refl _) e15 hZ hEL hC2 Bd.returns rfl (Or.inr (Or.inr (Or.inr (Or.inr ⟨rfl, rfl, rfl⟩)))) (hb hby d10_69) (nb_ rfl) (nb_ rfl) (by rw [e15]; exact ⟨rfl, Nf15, K2⟩)
def Q_rnm_U4 (Z : State) (a1 : Addr) (b : Addr) (k : ClassId) (cs : Int32) (fv : Value) (c0 c1 c2 c3 : Int32) (h0 : Heap) (n0 : Nat) : Option Value → Heap → List Loc → Prop := fun v h L => v = some (.ref a1) ∧ Fr n0 L ∧ Keep h0 h []
theorem rnm_U4 (l : Launch) (Z : State) (a0 : Array Value) (hw : ∀ d ∈ tables_1, d.before a0 Z = true) (ws : List Jvm.Cond) (a1 : Addr) (b : Addr) (k : ClassId) (cs : Int32) (fv : Value) (c0 c1 c2 c3 : Int32) (h0 : Heap) (n0 : Nat) (Z0 : n0 ≤ h0.size) (SC : Sta Z Z.heap "java/lang/String" "COMPACT_STRINGS" "Z" (.int cs)) (hcs : ¬ cs = (0 : Int32)) (O0 : Old Z n0 h0) (SF : Sta Z Z.heap "jdk/internal/util/Preconditions" "SIOOBE_FORMATTER" "Ljava/util/function/BiFunction;" fv) (hfv : fv.isRef = true) (SA : Sta Z Z.heap "java/lang/StringUTF16" "$assertionsDisabled" "Z" (.int (1 : Int32))) (SH : Sta Z Z.heap "java/lang/StringUTF16" "HI_BYTE_SHIFT" "I" (.int (0 : Int32))) (SL : Sta Z Z.heap "java/lang/StringUTF16" "LO_BYTE_SHIFT" "I" (.int (8 : Int32))) (S : own_StU Z h0 a1 b k (8 : Int32) [.int (own_lo c0), .int (own_hi c0), .int (own_lo c1), .int (own_hi c1), .int (own_lo c2), .int (own_hi c2), .int (own_lo c3), .int (own_hi c3)]) (z0 : nar .char c0 = c0) (z1 : nar .char c1 = c1) (z2 : nar .char c2 = c2) (z3 : nar .char c3 = c3) (hf : own_nf c0) (t0 : own_nct c0) (t1 : own_nct c1) (t2 : own_nct c2) (t3 : own_nct c3) :
    MetFree l n_32 (head1 (Jvm.Cond.code n_32 prog_10_method_5_code 4 (some (.object "java/lang/String")) :: ws) ({ frames := 6, cells := 2, slots := 28, locals := 110 } : Room)) (fun a U => a = #[(.ref a1)] ∧ Z.Warmed39 U.vm ∧ U.heap = h0 ∧ CHv Z consts_1 U.vm h0) (fun _ _ _ _ _ => True) (fun _ U oo U' => ∃ vv LL, oo = .returned vv ∧ (Q_rnm_U4 Z a1 b k cs fv c0 c1 c2 c3 h0 n0) vv U'.heap LL ∧ CHr Z consts_1 U.vm U.heap U'.vm U'.heap ∧ ReturnedEndW U oo U' LL ({ frames := 6, cells := 2, slots := 28, locals := 110 } : Room).cells ({ frames := 6, cells := 2, slots := 28, locals := 110 } : Room).slots) := by
  refine MetFree.of_bodySF (plainFor_of_name pn_10) hisR ?_
  intro p e s m args below meth c s₁ Bd hml0 hP hK
  obtain ⟨rfl, hZ, hh, hH⟩ := hP
  have hx := Bd.exec
  have hby := Bd.bytes
  have hml : c.maxLocals = 4 := hml0
  have hown : s.vm.findClass "com/example/vestline/vestline/format/Csv" = some m.cls := findClass_of_methodNamed Bd.named
  have hnm := (name_of_methodNamed Bd.named Bd.method).1
  have X0 : Stand p l e ({ frames := 6, cells := 2, slots := 28, locals := 110 } : Room) s m #[(.ref a1)] below meth c s₁ [] 0 0 := Stand.of_body Bd
  have e0 : s₁.heap = h0 := by rw [← hh, Bd.state]; rfl
  have N0 := Fr.nil n0
  have hC0 : CHr Z consts_1 s.vm s.heap s.vm h0 := by rw [hh]; exact CHr.refl hH
  have hEL := own_EW hw
  show Goes p e below (FinH s Z consts_1 (Q_rnm_U4 Z a1 b k cs fv c0 c1 c2 c3 h0 n0) ({ frames := 6, cells := 2, slots := 28, locals := 110 } : Room).cells ({ frames := 6, cells := 2, slots := 28, locals := 110 } : Room).slots) _
  refine Goes.via (S' := s₁.setTop (mkF m 0 #[.val (.ref a1), .unset, .unset, .unset] [])) (fun tz kz => castTop (ef_10 m a1 ) kz) ?_
  refine Goes.via (S' := s₁.setTop (mkF m 1 #[.val (.ref a1), .unset, .unset, .unset] [(.ref a1)])) (fun tz kz => ?_) ?_
  · show Steps p.tables e below (s₁.setTop (mkF m 0 #[.val (.ref a1), .unset, .unset, .unset] [])) _
    refine XS.aloadN X0.here hx rfl (hb hby d10_0) rfl rfl ?_
    exact kz
  obtain ⟨cq1, kq1, q1a, q1b, q1c⟩ := isOf hZ e0 S.1
  obtain ⟨_, _, ⟨T1, L1, k1, n1⟩, -, X1, ⟨Lc1, hQ1, l1, y1, z1⟩, st1⟩ := X0.virtualBack hx (y := n_10) (z := n_10) hown (mvT hZ (w_ hw 45 rfl)) (mvT hZ (w_ hw 46 rfl)) (notFace_of_selects (args := #[]) (mvT hZ (w_ hw 48 rfl))) (mvT hZ (w_ hw 48 rfl)) (mvT hZ (w_ hw 47 rfl)) (by decide) (backOf (W := 0) (rie l Z a0 hw [] a1 b k (8 : Int32) _ h0 n0 Z0 S.2.2.1 S.2.2.2 (by decide)) hZ (w_ hw 49 rfl) (w_ hw 13 rfl) (by decide) (by decide)) q1a q1c (g := (mkF m 1 #[.val (.ref a1), .unset, .unset, .unset] [(.ref a1)])) rfl (by rw [hml]; rfl) (Steps.refl _) (argsL := []) (rest := []) (lenOf pd_11 rfl) rfl (by show 2 * 0 + _ ≤ _; exact Nat.le_of_eq rfl) (hb hby d10_1) (fun _ _ => ⟨rfl, e0, (by decide : 0 + 0 ≤ _), (by decide : 0 + 0 ≤ _)⟩)
  dsimp only [Pt.U, Pt.locs, Pt.cells, Pt.slots] at X1 l1 y1 z1 st1 hQ1
  subst l1 y1 z1
  obtain ⟨rfl, N1, e1⟩ := hQ1
  have Nf1 := Fr.app N0 N1
  refine Goes.via (fun _ kz => st1.trans kz) ?_
  refine Goes.via (S' := T1.setTop (mkF m 18 #[.val (.ref a1), .unset, .unset, .unset] [(.ref a1)])) (fun tz kz => ?_) ?_
  · show Steps p.tables e below (T1.setTop (mkF m 4 #[.val (.ref a1), .unset, .unset, .unset] [(.int (0 : Int32))])) _
    refine XS.ifYes X1.here hx rfl (pc0 := 4) (pc' := 17) rfl (hb hby d10_4) rfl ((if0 _ _).trans (teq (by first | decide | rfl)).1) (by decide) (by decide) ?_
    refine XS.aloadN X1.here hx rfl (hb hby d10_17) rfl rfl ?_
    exact kz
  obtain ⟨_, _, ⟨T2, L2, k2, n2⟩, -, X2, hs2, gs2, ⟨Lc2, hQ2, l2, y2, z2, hc2⟩, st2⟩ := callSS (show Stand p l e _ (s.setVm s.vm) m _ below meth c _ _ _ _ from X1) hx (y := n_29) hown (mvT hZ (w_ hw 50 rfl)) (mvT hZ (w_ hw 51 rfl)) (mvT hZ (w_ hw 43 rfl)) (mvT hZ (w_ hw 52 rfl)) (by decide) (backOfSH (s := s) (vm0 := s.vm) (W := 0) (rpr_U l Z a0 hw [] a1 b k cs (8 : Int32) (4 : Int32) c0 fv _ h0 n0 Z0 SC hcs O0 SF hfv SA SH SL S z0 hf rfl ⟨by decide, by decide⟩ ⟨by decide, by decide⟩ ⟨by decide, by decide⟩ rfl rfl (by decide)) hZ (w_ hw 52 rfl) (w_ hw 43 rfl) (by decide) (by decide) hEL hC0.1) (g := (mkF m 18 #[.val (.ref a1), .unset, .unset, .unset] [(.ref a1)])) rfl (by rw [hml]; rfl) (argsL := [(.ref a1)]) (rest := []) (lenOf pd_19 rfl) rfl (by show 2 * 0 + _ ≤ _; exact Nat.le_of_eq rfl) (hb hby d10_18) (fun _ _ => ⟨rfl, e1, (by decide : 0 + 2 ≤ _), (by decide : 0 + 28 ≤ _)⟩)
  dsimp only [Pt.U, Pt.locs, Pt.cells, Pt.slots] at X2 l2 y2 z2 st2 hQ2 hs2 gs2 hc2
  subst l2 y2 z2
  obtain ⟨rfl, N2, K2⟩ := hQ2
  rw [e1] at gs2
  have hS2 : s.Since T2.vm T2.heap.size := own_fold ((State.WarmedH.refl s).since 0) (Nat.zero_le _) hs2 gs2
  have hC2 := hC0.trans hc2
  have hZ : Z.Warmed39 (s.setVm T2.vm).vm := State.Warmed39.trans (t := s.setVm s.vm) hZ hs2.1
  have hown : (s.setVm T2.vm).vm.findClass "com/example/vestline/vestline/format/Csv" = some m.cls := by rw [show (s.setVm T2.vm).vm = T2.vm from rfl, hs2.1.alike.findClass]; exact hown
  have Nf2 := Fr.app Nf1 N2
  refine Goes.via (fun _ kz => st2.trans kz) ?_
  have S1 := S.keep K2 nin0 nin0
  have O1 := O0.keep K2 all0
  have Z1 := Nat.le_trans Z0 K2.1
  refine Goes.via (S' := T2.setTop (mkF m 26 #[.val (.ref a1), .val (.ref a1), .val (.int (0 : Int32)), .unset] [(.ref a1), (.int (0 : Int32))])) (fun tz kz => ?_) ?_
  · show Steps p.tables e below (T2.setTop (mkF m 21 #[.val (.ref a1), .unset, .unset, .unset] [(.ref a1)])) _
    refine XS.astoreN X2.here hx rfl (hb hby d10_21) rfl rfl (l' := #[.val (.ref a1), .val (.ref a1), .unset, .unset]) rfl ?_
    refine XS.iconst X2.here hx rfl (hb hby d10_22) ?_
    refine XS.istoreN X2.here hx rfl (hb hby d10_23) rfl (l' := #[.val (.ref a1), .val (.ref a1), .val (.int (0 : Int32)), .unset]) rfl ?_
    refine XS.iloadN X2.here hx rfl (hb hby d10_24) rfl ?_
    refine XS.aloadN X2.here hx rfl (hb hby d10_25) rfl rfl ?_
    exact kz
  obtain ⟨cq3, kq3, q3a, q3b, q3c⟩ := isOf hZ rfl S1.1
  obtain ⟨_, _, ⟨T3, L3, k3, n3⟩, -, X3, ⟨Lc3, hQ3, l3, y3, z3⟩, st3⟩ := X2.virtualBack hx (y := n_13) (z := n_13) hown (mvT hZ (w_ hw 114 rfl)) (mvT hZ (w_ hw 89 rfl)) (notFace_of_selects (args := #[]) (mvT hZ (w_ hw 91 rfl))) (mvT hZ (w_ hw 91 rfl)) (mvT hZ (w_ hw 90 rfl)) (by decide) (backOf (W := 1) (rlen l Z a0 hw [] a1 b k cs (1 : Int32) (8 : Int32) (4 : Int32) _ T2.heap n0 Z1 SC hcs O1 S1.1 S1.2.1 S1.2.2.1 S1.2.2.2 rfl rfl) hZ (w_ hw 92 rfl) (w_ hw 13 rfl) (by decide) (by decide)) q3a q3c (g := (mkF m 26 #[.val (.ref a1), .val (.ref a1), .val (.int (0 : Int32)), .unset] [(.ref a1), (.int (0 : Int32))])) rfl (by rw [hml]; rfl) (Steps.refl _) (argsL := []) (rest := [(.int (0 : Int32))]) (lenOf pd_17 rfl) rfl (by show 2 * 0 + _ ≤ _; exact Nat.le_of_eq rfl) (hb hby d10_26) (fun _ _ => ⟨rfl, rfl, (by decide : 2 + 0 ≤ _), (by decide : 28 + 0 ≤ _)⟩)
  dsimp only [Pt.U, Pt.locs, Pt.cells, Pt.slots] at X3 l3 y3 z3 st3 hQ3
  subst l3 y3 z3
  obtain ⟨rfl, N3, e3⟩ := hQ3
  have Nf3 := Fr.app Nf2 N3
  refine Goes.via (fun _ kz => st3.trans kz) ?_
  refine Goes.via (S' := T3.setTop (mkF m 34 #[.val (.ref a1), .val (.ref a1), .val (.int (0 : Int32)), .unset] [(.int (0 : Int32)), (.ref a1)])) (fun tz kz => ?_) ?_
  · show Steps p.tables e below (T3.setTop (mkF m 29 #[.val (.ref a1), .val (.ref a1), .val (.int (0 : Int32)), .unset] [(.int (4 : Int32)), (.int (0 : Int32))])) _
    refine XS.icmpNo X3.here hx rfl (hb hby d10_29) rfl (tlt (by first | decide | rfl)).2.1 ?_
    refine XS.aloadN X3.here hx rfl (hb hby d10_32) rfl rfl ?_
    refine XS.iloadN X3.here hx rfl (hb hby d10_33) rfl ?_
    exact kz
  obtain ⟨cq4, kq4, q4a, q4b, q4c⟩ := isOf hZ e3 S1.1
  obtain ⟨_, _, ⟨T4, L4, k4, n4⟩, -, X4, ⟨Lc4, hQ4, l4, y4, z4⟩, st4⟩ := X3.virtualBack hx (y := n_17) (z := n_17) hown (mvT hZ (w_ hw 56 rfl)) (mvT hZ (w_ hw 57 rfl)) (notFace_of_selects (args := #[]) (mvT hZ (w_ hw 59 rfl))) (mvT hZ (w_ hw 59 rfl)) (mvT hZ (w_ hw 58 rfl)) (by decide) (backOf (W := 0) (rca_U l Z a0 hw [] a1 (0 : Int32) b k cs (8 : Int32) (4 : Int32) (0 : Int32) (1 : Int32) c0 fv _ T2.heap n0 Z1 SC hcs O1 SF hfv SA SH SL S1 z0 rfl ⟨by decide, by decide⟩ rfl rfl ⟨by decide, by decide⟩ ⟨by decide, by decide⟩ rfl rfl) hZ (w_ hw 60 rfl) (w_ hw 13 rfl) (by decide) (by decide)) q4a q4c (g := (mkF m 34 #[.val (.ref a1), .val (.ref a1), .val (.int (0 : Int32)), .unset] [(.int (0 : Int32)), (.ref a1)])) rfl (by rw [hml]; rfl) (Steps.refl _) (argsL := [(.int (0 : Int32))]) (rest := []) (lenOf pd_18 rfl) rfl (by show 2 * 0 + _ ≤ _; exact Nat.le_of_eq rfl) (hb hby d10_34) (fun _ _ => ⟨rfl, e3, (by decide : 2 + 0 ≤ _), (by decide : 28 + 0 ≤ _)⟩)
  dsimp only [Pt.U, Pt.locs, Pt.cells, Pt.slots] at X4 l4 y4 z4 st4 hQ4
  subst l4 y4 z4
  obtain ⟨rfl, N4, e4⟩ := hQ4
  have Nf4 := Fr.app Nf3 N4
  refine Goes.via (fun _ kz => st4.trans kz) ?_
  refine Goes.via (S' := T4.setTop (mkF m 39 #[.val (.ref a1), .val (.ref a1), .val (.int (0 : Int32)), .val (.int c0)] [(.int c0)])) (fun tz kz => ?_) ?_
  · show Steps p.tables e below (T4.setTop (mkF m 37 #[.val (.ref a1), .val (.ref a1), .val (.int (0 : Int32)), .unset] [(.int c0)])) _
    refine XS.istoreN X4.here hx rfl (hb hby d10_37) rfl (l' := #[.val (.ref a1), .val (.ref a1), .val (.int (0 : Int32)), .val (.int c0)]) rfl ?_
    refine XS.iloadN X4.here hx rfl (hb hby d10_38) rfl ?_
    exact kz
  obtain ⟨_, _, ⟨T5, L5, k5, n5⟩, -, X5, ⟨Lc5, hQ5, l5, y5, z5⟩, st5⟩ := Jvm.LawKit.callS X4 hx (y := n_31) hown (mvT hZ (w_ hw 115 rfl)) (mvT hZ (w_ hw 116 rfl)) (mvT hZ (w_ hw 117 rfl)) (mvT hZ (w_ hw 118 rfl)) (by decide) (backOf (W := 0) (risoc l Z a0 hw [] c0 T2.heap n0 Z1 t0) hZ (w_ hw 118 rfl) (w_ hw 117 rfl) (by decide) (by decide)) (g := (mkF m 39 #[.val (.ref a1), .val (.ref a1), .val (.int (0 : Int32)), .val (.int c0)] [(.int c0)])) rfl (by rw [hml]; rfl) (argsL := [(.int c0)]) (rest := []) (lenOf pd_20 rfl) rfl (by show 2 * 0 + _ ≤ _; exact Nat.le_of_eq rfl) (hb hby d10_39) (fun _ _ => ⟨rfl, e4, (by decide : 2 + 0 ≤ _), (by decide : 28 + 0 ≤ _)⟩)
  dsimp only [Pt.U, Pt.locs, Pt.cells, Pt.slots] at X5 l5 y5 z5 st5 hQ5
  subst l5 y5 z5
  obtain ⟨rfl, N5, e5⟩ := hQ5
  have Nf5 := Fr.app Nf4 N5
  refine Goes.via (st5) ?_
  refine Goes.via (S' := T5.setTop (mkF m 26 #[.val (.ref a1), .val (.ref a1), .val (.int (1 : Int32)), .val (.int c0)] [(.ref a1), (.int (1 : Int32))])) (fun tz kz => ?_) ?_
  · show Steps p.tables e below (T5.setTop (mkF m 42 #[.val (.ref a1), .val (.ref a1), .val (.int (0 : Int32)), .val (.int c0)] [(.int (0 : Int32))])) _
    refine XS.ifYes X5.here hx rfl (pc0 := 42) (pc' := 62) rfl (hb hby d10_42) rfl ((if0 _ _).trans (teq (by first | decide | rfl)).1) (by decide) (by decide) ?_
    refine XS.iinc X5.here hx rfl (hb hby d10_62) rfl (l' := #[.val (.ref a1), .val (.ref a1), .val (.int (1 : Int32)), .val (.int c0)]) rfl ?_
    refine XS.goto X5.here hx rfl (pc0 := 65) (pc' := 24) rfl (hb hby d10_65) (by decide) (by decide) ?_
    refine XS.iloadN X5.here hx rfl (hb hby d10_24) rfl ?_
    refine XS.aloadN X5.here hx rfl (hb hby d10_25) rfl rfl ?_
    exact kz
  obtain ⟨cq6, kq6, q6a, q6b, q6c⟩ := isOf hZ e5 S1.1
  obtain ⟨_, _, ⟨T6, L6, k6, n6⟩, -, X6, ⟨Lc6, hQ6, l6, y6, z6⟩, st6⟩ := X5.virtualBack hx (y := n_13) (z := n_13) hown (mvT hZ (w_ hw 114 rfl)) (mvT hZ (w_ hw 89 rfl)) (notFace_of_selects (args := #[]) (mvT hZ (w_ hw 91 rfl))) (mvT hZ (w_ hw 91 rfl)) (mvT hZ (w_ hw 90 rfl)) (by decide) (backOf (W := 1) (rlen l Z a0 hw [] a1 b k cs (1 : Int32) (8 : Int32) (4 : Int32) _ T2.heap n0 Z1 SC hcs O1 S1.1 S1.2.1 S1.2.2.1 S1.2.2.2 rfl rfl) hZ (w_ hw 92 rfl) (w_ hw 13 rfl) (by decide) (by decide)) q6a q6c (g := (mkF m 26 #[.val (.ref a1), .val (.ref a1), .val (.int (1 : Int32)), .val (.int c0)] [(.ref a1), (.int (1 : Int32))])) rfl (by rw [hml]; rfl) (Steps.refl _) (argsL := []) (rest := [(.int (1 : Int32))]) (lenOf pd_17 rfl) rfl (by show 2 * 0 + _ ≤ _; exact Nat.le_of_eq rfl) (hb hby d10_26) (fun _ _ => ⟨rfl, e5, (by decide : 2 + 0 ≤ _), (by decide : 28 + 0 ≤ _)⟩)
  dsimp only [Pt.U, Pt.locs, Pt.cells, Pt.slots] at X6 l6 y6 z6 st6 hQ6
  subst l6 y6 z6
  obtain ⟨rfl, N6, e6⟩ := hQ6
  have Nf6 := Fr.app Nf5 N6
  refine Goes.via (fun _ kz => st6.trans kz) ?_
  refine Goes.via (S' := T6.setTop (mkF m 34 #[.val (.ref a1), .val (.ref a1), .val (.int (1 : Int32)), .val (.int c0)] [(.int (1 : Int32)), (.ref a1)])) (fun tz kz => ?_) ?_
  · show Steps p.tables e below (T6.setTop (mkF m 29 #[.val (.ref a1), .val (.ref a1), .val (.int (1 : Int32)), .val (.int c0)] [(.int (4 : Int32)), (.int (1 : Int32))])) _
    refine XS.icmpNo X6.here hx rfl (hb hby d10_29) rfl (tlt (by first | decide | rfl)).2.1 ?_
    refine XS.aloadN X6.here hx rfl (hb hby d10_32) rfl rfl ?_
    refine XS.iloadN X6.here hx rfl (hb hby d10_33) rfl ?_
    exact kz
  obtain ⟨cq7, kq7, q7a, q7b, q7c⟩ := isOf hZ e6 S1.1
  obtain ⟨_, _, ⟨T7, L7, k7, n7⟩, -, X7, ⟨Lc7, hQ7, l7, y7, z7⟩, st7⟩ := X6.virtualBack hx (y := n_17) (z := n_17) hown (mvT hZ (w_ hw 56 rfl)) (mvT hZ (w_ hw 57 rfl)) (notFace_of_selects (args := #[]) (mvT hZ (w_ hw 59 rfl))) (mvT hZ (w_ hw 59 rfl)) (mvT hZ (w_ hw 58 rfl)) (by decide) (backOf (W := 0) (rca_U l Z a0 hw [] a1 (1 : Int32) b k cs (8 : Int32) (4 : Int32) (2 : Int32) (3 : Int32) c1 fv _ T2.heap n0 Z1 SC hcs O1 SF hfv SA SH SL S1 z1 rfl ⟨by decide, by decide⟩ rfl rfl ⟨by decide, by decide⟩ ⟨by decide, by decide⟩ rfl rfl) hZ (w_ hw 60 rfl) (w_ hw 13 rfl) (by decide) (by decide)) q7a q7c (g := (mkF m 34 #[.val (.ref a1), .val (.ref a1), .val (.int (1 : Int32)), .val (.int c0)] [(.int (1 : Int32)), (.ref a1)])) rfl (by rw [hml]; rfl) (Steps.refl _) (argsL := [(.int (1 : Int32))]) (rest := []) (lenOf pd_18 rfl) rfl (by show 2 * 0 + _ ≤ _; exact Nat.le_of_eq rfl) (hb hby d10_34) (fun _ _ => ⟨rfl, e6, (by decide : 2 + 0 ≤ _), (by decide : 28 + 0 ≤ _)⟩)
  dsimp only [Pt.U, Pt.locs, Pt.cells, Pt.slots] at X7 l7 y7 z7 st7 hQ7
  subst l7 y7 z7
  obtain ⟨rfl, N7, e7⟩ := hQ7
  have Nf7 := Fr.app Nf6 N7
  refine Goes.via (fun _ kz => st7.trans kz) ?_
  refine Goes.via (S' := T7.setTop (mkF m 39 #[.val (.ref a1), .val (.ref a1), .val (.int (1 : Int32)), .val (.int c1)] [(.int c1)])) (fun tz kz => ?_) ?_
  · show Steps p.tables e below (T7.setTop (mkF m 37 #[.val (.ref a1), .val (.ref a1), .val (.int (1 : Int32)), .val (.int c0)] [(.int c1)])) _
    refine XS.istoreN X7.here hx rfl (hb hby d10_37) rfl (l' := #[.val (.ref a1), .val (.ref a1), .val (.int (1 : Int32)), .val (.int c1)]) rfl ?_
    refine XS.iloadN X7.here hx rfl (hb hby d10_38) rfl ?_
    exact kz
  obtain ⟨_, _, ⟨T8, L8, k8, n8⟩, -, X8, ⟨Lc8, hQ8, l8, y8, z8⟩, st8⟩ := Jvm.LawKit.callS X7 hx (y := n_31) hown (mvT hZ (w_ hw 115 rfl)) (mvT hZ (w_ hw 116 rfl)) (mvT hZ (w_ hw 117 rfl)) (mvT hZ (w_ hw 118 rfl)) (by decide) (backOf (W := 0) (risoc l Z a0 hw [] c1 T2.heap n0 Z1 t1) hZ (w_ hw 118 rfl) (w_ hw 117 rfl) (by decide) (by decide)) (g := (mkF m 39 #[.val (.ref a1), .val (.ref a1), .val (.int (1 : Int32)), .val (.int c1)] [(.int c1)])) rfl (by rw [hml]; rfl) (argsL := [(.int c1)]) (rest := []) (lenOf pd_20 rfl) rfl (by show 2 * 0 + _ ≤ _; exact Nat.le_of_eq rfl) (hb hby d10_39) (fun _ _ => ⟨rfl, e7, (by decide : 2 + 0 ≤ _), (by decide : 28 + 0 ≤ _)⟩)
  dsimp only [Pt.U, Pt.locs, Pt.cells, Pt.slots] at X8 l8 y8 z8 st8 hQ8
  subst l8 y8 z8
  obtain ⟨rfl, N8, e8⟩ := hQ8
  have Nf8 := Fr.app Nf7 N8
  refine Goes.via (st8) ?_
  refine Goes.via (S' := T8.setTop (mkF m 26 #[.val (.ref a1), .val (.ref a1), .val (.int (2 : Int32)), .val (.int c1)] [(.ref a1), (.int (2 : Int32))])) (fun tz kz => ?_) ?_
  · show Steps p.tables e below (T8.setTop (mkF m 42 #[.val (.ref a1), .val (.ref a1), .val (.int (1 : Int32)), .val (.int c1)] [(.int (0 : Int32))])) _
    refine XS.ifYes X8.here hx rfl (pc0 := 42) (pc' := 62) rfl (hb hby d10_42) rfl ((if0 _ _).trans (teq (by first | decide | rfl)).1) (by decide) (by decide) ?_
    refine XS.iinc X8.here hx rfl (hb hby d10_62) rfl (l' := #[.val (.ref a1), .val (.ref a1), .val (.int (2 : Int32)), .val (.int c1)]) rfl ?_
    refine XS.goto X8.here hx rfl (pc0 := 65) (pc' := 24) rfl (hb hby d10_65) (by decide) (by decide) ?_
    refine XS.iloadN X8.here hx rfl (hb hby d10_24) rfl ?_
    refine XS.aloadN X8.here hx rfl (hb hby d10_25) rfl rfl ?_
    exact kz
  obtain ⟨cq9, kq9, q9a, q9b, q9c⟩ := isOf hZ e8 S1.1
  obtain ⟨_, _, ⟨T9, L9, k9, n9⟩, -, X9, ⟨Lc9, hQ9, l9, y9, z9⟩, st9⟩ := X8.virtualBack hx (y := n_13) (z := n_13) hown (mvT hZ (w_ hw 114 rfl)) (mvT hZ (w_ hw 89 rfl)) (notFace_of_selects (args := #[]) (mvT hZ (w_ hw 91 rfl))) (mvT hZ (w_ hw 91 rfl)) (mvT hZ (w_ hw 90 rfl)) (by decide) (backOf (W := 1) (rlen l Z a0 hw [] a1 b k cs (1 : Int32) (8 : Int32) (4 : Int32) _ T2.heap n0 Z1 SC hcs O1 S1.1 S1.2.1 S1.2.2.1 S1.2.2.2 rfl rfl) hZ (w_ hw 92 rfl) (w_ hw 13 rfl) (by decide) (by decide)) q9a q9c (g := (mkF m 26 #[.val (.ref a1), .val (.ref a1), .val (.int (2 : Int32)), .val (.int c1)] [(.ref a1), (.int (2 : Int32))])) rfl (by rw [hml]; rfl) (Steps.refl _) (argsL := []) (rest := [(.int (2 : Int32))]) (lenOf pd_17 rfl) rfl (by show 2 * 0 + _ ≤ _; exact Nat.le_of_eq rfl) (hb hby d10_26) (fun _ _ => ⟨rfl, e8, (by decide : 2 + 0 ≤ _), (by decide : 28 + 0 ≤ _)⟩)
  dsimp only [Pt.U, Pt.locs, Pt.cells, Pt.slots] at X9 l9 y9 z9 st9 hQ9
  subst l9 y9 z9
  obtain ⟨rfl, N9, e9⟩ := hQ9
  have Nf9 := Fr.app Nf8 N9
  refine Goes.via (fun _ kz => st9.trans kz) ?_
  refine Goes.via (S' := T9.setTop (mkF m 34 #[.val (.ref a1), .val (.ref a1), .val (.int (2 : Int32)), .val (.int c1)] [(.int (2 : Int32)), (.ref a1)])) (fun tz kz => ?_) ?_
  · show Steps p.tables e below (T9.setTop (mkF m 29 #[.val (.ref a1), .val (.ref a1), .val (.int (2 : Int32)), .val (.int c1)] [(.int (4 : Int32)), (.int (2 : Int32))])) _
    refine XS.icmpNo X9.here hx rfl (hb hby d10_29) rfl (tlt (by first | decide | rfl)).2.1 ?_
    refine XS.aloadN X9.here hx rfl (hb hby d10_32) rfl rfl ?_
    refine XS.iloadN X9.here hx rfl (hb hby d10_33) rfl ?_
    exact kz
  obtain ⟨cq10, kq10, q10a, q10b, q10c⟩ := isOf hZ e9 S1.1
  obtain ⟨_, _, ⟨T10, L10, k10, n10⟩, -, X10, ⟨Lc10, hQ10, l10, y10, z10⟩, st10⟩ := X9.virtualBack hx (y := n_17) (z := n_17) hown (mvT hZ (w_ hw 56 rfl)) (mvT hZ (w_ hw 57 rfl)) (notFace_of_selects (args := #[]) (mvT hZ (w_ hw 59 rfl))) (mvT hZ (w_ hw 59 rfl)) (mvT hZ (w_ hw 58 rfl)) (by decide) (backOf (W := 0) (rca_U l Z a0 hw [] a1 (2 : Int32) b k cs (8 : Int32) (4 : Int32) (4 : Int32) (5 : Int32) c2 fv _ T2.heap n0 Z1 SC hcs O1 SF hfv SA SH SL S1 z2 rfl ⟨by decide, by decide⟩ rfl rfl ⟨by decide, by decide⟩ ⟨by decide, by decide⟩ rfl rfl) hZ (w_ hw 60 rfl) (w_ hw 13 rfl) (by decide) (by decide)) q10a q10c (g := (mkF m 34 #[.val (.ref a1), .val (.ref a1), .val (.int (2 : Int32)), .val (.int c1)] [(.int (2 : Int32)), (.ref a1)])) rfl (by rw [hml]; rfl) (Steps.refl _) (argsL := [(.int (2 : Int32))]) (rest := []) (lenOf pd_18 rfl) rfl (by show 2 * 0 + _ ≤ _; exact Nat.le_of_eq rfl) (hb hby d10_34) (fun _ _ => ⟨rfl, e9, (by decide : 2 + 0 ≤ _), (by decide : 28 + 0 ≤ _)⟩)
  dsimp only [Pt.U, Pt.locs, Pt.cells, Pt.slots] at X10 l10 y10 z10 st10 hQ10
  subst l10 y10 z10
  obtain ⟨rfl, N10, e10⟩ := hQ10
  have Nf10 := Fr.app Nf9 N10
  refine Goes.via (fun _ kz => st10.trans kz) ?_
  refine Goes.via (S' := T10.setTop (mkF m 39 #[.val (.ref a1), .val (.ref a1), .val (.int (2 : Int32)), .val (.int c2)] [(.int c2)])) (fun tz kz => ?_) ?_
  · show Steps p.tables e below (T10.setTop (mkF m 37 #[.val (.ref a1), .val (.ref a1), .val (.int (2 : Int32)), .val (.int c1)] [(.int c2)])) _
    refine XS.istoreN X10.here hx rfl (hb hby d10_37) rfl (l' := #[.val (.ref a1), .val (.ref a1), .val (.int (2 : Int32)), .val (.int c2)]) rfl ?_
    refine XS.iloadN X10.here hx rfl (hb hby d10_38) rfl ?_
    exact kz
  obtain ⟨_, _, ⟨T11, L11, k11, n11⟩, -, X11, ⟨Lc11, hQ11, l11, y11, z11⟩, st11⟩ := Jvm.LawKit.callS X10 hx (y := n_31) hown (mvT hZ (w_ hw 115 rfl)) (mvT hZ (w_ hw 116 rfl)) (mvT hZ (w_ hw 117 rfl)) (mvT hZ (w_ hw 118 rfl)) (by decide) (backOf (W := 0) (risoc l Z a0 hw [] c2 T2.heap n0 Z1 t2) hZ (w_ hw 118 rfl) (w_ hw 117 rfl) (by decide) (by decide)) (g := (mkF m 39 #[.val (.ref a1), .val (.ref a1), .val (.int (2 : Int32)), .val (.int c2)] [(.int c2)])) rfl (by rw [hml]; rfl) (argsL := [(.int c2)]) (rest := []) (lenOf pd_20 rfl) rfl (by show 2 * 0 + _ ≤ _; exact Nat.le_of_eq rfl) (hb hby d10_39) (fun _ _ => ⟨rfl, e10, (by decide : 2 + 0 ≤ _), (by decide : 28 + 0 ≤ _)⟩)
  dsimp only [Pt.U, Pt.locs, Pt.cells, Pt.slots] at X11 l11 y11 z11 st11 hQ11
  subst l11 y11 z11
  obtain ⟨rfl, N11, e11⟩ := hQ11
  have Nf11 := Fr.app Nf10 N11
  refine Goes.via (st11) ?_
  refine Goes.via (S' := T11.setTop (mkF m 26 #[.val (.ref a1), .val (.ref a1), .val (.int (3 : Int32)), .val (.int c2)] [(.ref a1), (.int (3 : Int32))])) (fun tz kz => ?_) ?_
  · show Steps p.tables e below (T11.setTop (mkF m 42 #[.val (.ref a1), .val (.ref a1), .val (.int (2 : Int32)), .val (.int c2)] [(.int (0 : Int32))])) _
    refine XS.ifYes X11.here hx rfl (pc0 := 42) (pc' := 62) rfl (hb hby d10_42) rfl ((if0 _ _).trans (teq (by first | decide | rfl)).1) (by decide) (by decide) ?_
    refine XS.iinc X11.here hx rfl (hb hby d10_62) rfl (l' := #[.val (.ref a1), .val (.ref a1), .val (.int (3 : Int32)), .val (.int c2)]) rfl ?_
    refine XS.goto X11.here hx rfl (pc0 := 65) (pc' := 24) rfl (hb hby d10_65) (by decide) (by decide) ?_
    refine XS.iloadN X11.here hx rfl (hb hby d10_24) rfl ?_
    refine XS.aloadN X11.here hx rfl (hb hby d10_25) rfl rfl ?_
    exact kz
  obtain ⟨cq12, kq12, q12a, q12b, q12c⟩ := isOf hZ e11 S1.1
  obtain ⟨_, _, ⟨T12, L12, k12, n12⟩, -, X12, ⟨Lc12, hQ12, l12, y12, z12⟩, st12⟩ := X11.virtualBack hx (y := n_13) (z := n_13) hown (mvT hZ (w_ hw 114 rfl)) (mvT hZ (w_ hw 89 rfl)) (notFace_of_selects (args := #[]) (mvT hZ (w_ hw 91 rfl))) (mvT hZ (w_ hw 91 rfl)) (mvT hZ (w_ hw 90 rfl)) (by decide) (backOf (W := 1) (rlen l Z a0 hw [] a1 b k cs (1 : Int32) (8 : Int32) (4 : Int32) _ T2.heap n0 Z1 SC hcs O1 S1.1 S1.2.1 S1.2.2.1 S1.2.2.2 rfl rfl) hZ (w_ hw 92 rfl) (w_ hw 13 rfl) (by decide) (by decide)) q12a q12c (g := (mkF m 26 #[.val (.ref a1), .val (.ref a1), .val (.int (3 : Int32)), .val (.int c2)] [(.ref a1), (.int (3 : Int32))])) rfl (by rw [hml]; rfl) (Steps.refl _) (argsL := []) (rest := [(.int (3 : Int32))]) (lenOf pd_17 rfl) rfl (by show 2 * 0 + _ ≤ _; exact Nat.le_of_eq rfl) (hb hby d10_26) (fun _ _ => ⟨rfl, e11, (by decide : 2 + 0 ≤ _), (by decide : 28 + 0 ≤ _)⟩)
  dsimp only [Pt.U, Pt.locs, Pt.cells, Pt.slots] at X12 l12 y12 z12 st12 hQ12
  subst l12 y12 z12
  obtain ⟨rfl, N12, e12⟩ := hQ12
  have Nf12 := Fr.app Nf11 N12
  refine Goes.via (fun _ kz => st12.trans kz) ?_
  refine Goes.via (S' := T12.setTop (mkF m 34 #[.val (.ref a1), .val (.ref a1), .val (.int (3 : Int32)), .val (.int c2)] [(.int (3 : Int32)), (.ref a1)])) (fun tz kz => ?_) ?_
  · show Steps p.tables e below (T12.setTop (mkF m 29 #[.val (.ref a1), .val (.ref a1), .val (.int (3 : Int32)), .val (.int c2)] [(.int (4 : Int32)), (.int (3 : Int32))])) _
    refine XS.icmpNo X12.here hx rfl (hb hby d10_29) rfl (tlt (by first | decide | rfl)).2.1 ?_
    refine XS.aloadN X12.here hx rfl (hb hby d10_32) rfl rfl ?_
    refine XS.iloadN X12.here hx rfl (hb hby d10_33) rfl ?_
    exact kz
  obtain ⟨cq13, kq13, q13a, q13b, q13c⟩ := isOf hZ e12 S1.1
  obtain ⟨_, _, ⟨T13, L13, k13, n13⟩, -, X13, ⟨Lc13, hQ13, l13, y13, z13⟩, st13⟩ := X12.virtualBack hx (y := n_17) (z := n_17) hown (mvT hZ (w_ hw 56 rfl)) (mvT hZ (w_ hw 57 rfl)) (notFace_of_selects (args := #[]) (mvT hZ (w_ hw 59 rfl))) (mvT hZ (w_ hw 59 rfl)) (mvT hZ (w_ hw 58 rfl)) (by decide) (backOf (W := 0) (rca_U l Z a0 hw [] a1 (3 : Int32) b k cs (8 : Int32) (4 : Int32) (6 : Int32) (7 : Int32) c3 fv _ T2.heap n0 Z1 SC hcs O1 SF hfv SA SH SL S1 z3 rfl ⟨by decide, by decide⟩ rfl rfl ⟨by decide, by decide⟩ ⟨by decide, by decide⟩ rfl rfl) hZ (w_ hw 60 rfl) (w_ hw 13 rfl) (by decide) (by decide)) q13a q13c (g := (mkF m 34 #[.val (.ref a1), .val (.ref a1), .val (.int (3 : Int32)), .val (.int c2)] [(.int (3 : Int32)), (.ref a1)])) rfl (by rw [hml]; rfl) (Steps.refl _) (argsL := [(.int (3 : Int32))]) (rest := []) (lenOf pd_18 rfl) rfl (by show 2 * 0 + _ ≤ _; exact Nat.le_of_eq rfl) (hb hby d10_34) (fun _ _ => ⟨rfl, e12, (by decide : 2 + 0 ≤ _), (by decide : 28 + 0 ≤ _)⟩)
  dsimp only [Pt.U, Pt.locs, Pt.cells, Pt.slots] at X13 l13 y13 z13 st13 hQ13
  subst l13 y13 z13
  obtain ⟨rfl, N13, e13⟩ := hQ13
  have Nf13 := Fr.app Nf12 N13
  refine Goes.via (fun _ kz => st13.trans kz) ?_
  refine Goes.via (S' := T13.setTop (mkF m 39 #[.val (.ref a1), .val (.ref a1), .val (.int (3 : Int32)), .val (.int c3)] [(.int c3)])) (fun tz kz => ?_) ?_
  · show Steps p.tables e below (T13.setTop (mkF m 37 #[.val (.ref a1), .val (.ref a1), .val (.int (3 : Int32)), .val (.int c2)] [(.int c3)])) _
    refine XS.istoreN X13.here hx rfl (hb hby d10_37) rfl (l' := #[.val (.ref a1), .val (.ref a1), .val (.int (3 : Int32)), .val (.int c3)]) rfl ?_
    refine XS.iloadN X13.here hx rfl (hb hby d10_38) rfl ?_
    exact kz
  obtain ⟨_, _, ⟨T14, L14, k14, n14⟩, -, X14, ⟨Lc14, hQ14, l14, y14, z14⟩, st14⟩ := Jvm.LawKit.callS X13 hx (y := n_31) hown (mvT hZ (w_ hw 115 rfl)) (mvT hZ (w_ hw 116 rfl)) (mvT hZ (w_ hw 117 rfl)) (mvT hZ (w_ hw 118 rfl)) (by decide) (backOf (W := 0) (risoc l Z a0 hw [] c3 T2.heap n0 Z1 t3) hZ (w_ hw 118 rfl) (w_ hw 117 rfl) (by decide) (by decide)) (g := (mkF m 39 #[.val (.ref a1), .val (.ref a1), .val (.int (3 : Int32)), .val (.int c3)] [(.int c3)])) rfl (by rw [hml]; rfl) (argsL := [(.int c3)]) (rest := []) (lenOf pd_20 rfl) rfl (by show 2 * 0 + _ ≤ _; exact Nat.le_of_eq rfl) (hb hby d10_39) (fun _ _ => ⟨rfl, e13, (by decide : 2 + 0 ≤ _), (by decide : 28 + 0 ≤ _)⟩)
  dsimp only [Pt.U, Pt.locs, Pt.cells, Pt.slots] at X14 l14 y14 z14 st14 hQ14
  subst l14 y14 z14
  obtain ⟨rfl, N14, e14⟩ := hQ14
  have Nf14 := Fr.app Nf13 N14
  refine Goes.via (st14) ?_
  refine Goes.via (S' := T14.setTop (mkF m 26 #[.val (.ref a1), .val (.ref a1), .val (.int (4 : Int32)), .val (.int c3)] [(.ref a1), (.int (4 : Int32))])) (fun tz kz => ?_) ?_
  · show Steps p.tables e below (T14.setTop (mkF m 42 #[.val (.ref a1), .val (.ref a1), .val (.int (3 : Int32)), .val (.int c3)] [(.int (0 : Int32))])) _
    refine XS.ifYes X14.here hx rfl (pc0 := 42) (pc' := 62) rfl (hb hby d10_42) rfl ((if0 _ _).trans (teq (by first | decide | rfl)).1) (by decide) (by decide) ?_
    refine XS.iinc X14.here hx rfl (hb hby d10_62) rfl (l' := #[.val (.ref a1), .val (.ref a1), .val (.int (4 : Int32)), .val (.int c3)]) rfl ?_
    refine XS.goto X14.here hx rfl (pc0 := 65) (pc' := 24) rfl (hb hby d10_65) (by decide) (by decide) ?_
    refine XS.iloadN X14.here hx rfl (hb hby d10_24) rfl ?_
    refine XS.aloadN X14.here hx rfl (hb hby d10_25) rfl rfl ?_
    exact kz
  obtain ⟨cq15, kq15, q15a, q15b, q15c⟩ := isOf hZ e14 S1.1
  obtain ⟨_, _, ⟨T15, L15, k15, n15⟩, -, X15, ⟨Lc15, hQ15, l15, y15, z15⟩, st15⟩ := X14.virtualBack hx (y := n_13) (z := n_13) hown (mvT hZ (w_ hw 114 rfl)) (mvT hZ (w_ hw 89 rfl)) (notFace_of_selects (args := #[]) (mvT hZ (w_ hw 91 rfl))) (mvT hZ (w_ hw 91 rfl)) (mvT hZ (w_ hw 90 rfl)) (by decide) (backOf (W := 1) (rlen l Z a0 hw [] a1 b k cs (1 : Int32) (8 : Int32) (4 : Int32) _ T2.heap n0 Z1 SC hcs O1 S1.1 S1.2.1 S1.2.2.1 S1.2.2.2 rfl rfl) hZ (w_ hw 92 rfl) (w_ hw 13 rfl) (by decide) (by decide)) q15a q15c (g := (mkF m 26 #[.val (.ref a1), .val (.ref a1), .val (.int (4 : Int32)), .val (.int c3)] [(.ref a1), (.int (4 : Int32))])) rfl (by rw [hml]; rfl) (Steps.refl _) (argsL := []) (rest := [(.int (4 : Int32))]) (lenOf pd_17 rfl) rfl (by show 2 * 0 + _ ≤ _; exact Nat.le_of_eq rfl) (hb hby d10_26) (fun _ _ => ⟨rfl, e14, (by decide : 2 + 0 ≤ _), (by decide : 28 + 0 ≤ _)⟩)
  dsimp only [Pt.U, Pt.locs, Pt.cells, Pt.slots] at X15 l15 y15 z15 st15 hQ15
  subst l15 y15 z15
  obtain ⟨rfl, N15, e15⟩ := hQ15
  have Nf15 := Fr.app Nf14 N15
  refine Goes.via (fun _ kz => st15.trans kz) ?_
  refine Goes.via (S' := T15.setTop (mkF m 69 #[.val (.ref a1), .val (.ref a1), .val (.int (4 : Int32)), .val (.int c3)] [(.ref a1)])) (fun tz kz => ?_) ?_
  · show Steps p.tables e below (T15.setTop (mkF m 29 #[.val (.ref a1), .val (.ref a1), .val (.int (4 : Int32)), .val (.int c3)] [(.int (4 : Int32)), (.int (4 : Int32))])) _
    refine XS.icmpYes X15.here hx rfl (pc0 := 29) (pc' := 68) rfl (hb hby d10_29) rfl (flt (by first | decide | rfl)).2.1 (by decide) (by decide) ?_
    refine XS.aloadN X15.here hx rfl (hb hby d10_68) rfl rfl ?_
    exact kz
  exact Goes.retOH (s := s) (vm1 := T2.vm) X15 hx Bd.notSynchronized hS2 (Nat.le_refl _) e15 hZ hEL hC2 Bd.returns rfl (Or.inr (Or.inr (Or.inr (Or.inr ⟨rfl, rfl, rfl⟩)))) (hb hby d10_69) (nb_ rfl) (nb_ rfl) (by rw [e15]; exact ⟨rfl, Nf15, K2⟩)
def own_fs (c0 : Int32) : Int32 := (if c0 = (61 : Int32) then (1 : Int32) else (if c0 = (43 : Int32) then (1 : Int32) else (if c0 = (45 : Int32) then (1 : Int32) else (if c0 = (64 : Int32) then (1 : Int32) else (if c0 = (9 : Int32) then (1 : Int32) else (if c0 = (13 : Int32) then (1 : Int32) else (0 : Int32)))))))
theorem d1_0 : decode method_4_code 0 = .ok (.iload_n 0, 1) := by decide +kernel
theorem d1_1 : decode method_4_code 1 = .ok (.bipush 61, 2) := by decide +kernel
theorem d1_3 : decode method_4_code 3 = .ok (.if_icmp .eq 33, 3) := by decide +kernel
theorem d1_6 : decode method_4_code 6 = .ok (.iload_n 0, 1) := by decide +kernel
theorem d1_7 : decode method_4_code 7 = .ok (.bipush 43, 2) := by decide +kernel
theorem d1_9 : decode method_4_code 9 = .ok (.if_icmp .eq 27, 3) := by decide +kernel
theorem d1_12 : decode method_4_code 12 = .ok (.iload_n 0, 1) := by decide +kernel
theorem d1_13 : decode method_4_code 13 = .ok (.bipush 45, 2) := by decide +kernel
theorem d1_15 : decode method_4_code 15 = .ok (.if_icmp .eq 21, 3) := by decide +kernel
theorem d1_18 : decode method_4_code 18 = .ok (.iload_n 0, 1) := by decide +kernel
theorem d1_19 : decode method_4_code 19 = .ok (.bipush 64, 2) := by decide +kernel
theorem d1_21 : decode method_4_code 21 = .ok (.if_icmp .eq 15, 3) := by decide +kernel
theorem d1_24 : decode method_4_code 24 = .ok (.iload_n 0, 1) := by decide +kernel
theorem d1_25 : decode method_4_code 25 = .ok (.bipush 9, 2) := by decide +kernel
theorem d1_27 : decode method_4_code 27 = .ok (.if_icmp .eq 9, 3) := by decide +kernel
theorem d1_30 : decode method_4_code 30 = .ok (.iload_n 0, 1) := by decide +kernel
theorem d1_31 : decode method_4_code 31 = .ok (.bipush 13, 2) := by decide +kernel
theorem d1_33 : decode method_4_code 33 = .ok (.if_icmp .ne 7, 3) := by decide +kernel
theorem d1_36 : decode method_4_code 36 = .ok (.iconst 1, 1) := by decide +kernel
theorem d1_37 : decode method_4_code 37 = .ok (.goto 4, 3) := by decide +kernel
theorem d1_40 : decode method_4_code 40 = .ok (.iconst 0, 1) := by decide +kernel
theorem d1_41 : decode method_4_code 41 = .ok (.ireturn, 1) := by decide +kernel
theorem pn_1 : plainName "com/example/vestline/vestline/format/CsvNamePinLaw" = true := by first | (simp [plainName, overriddenIn]; done) | decide +kernel
theorem ef_1 (m : MethodId) (x0 : Int32) : entryFrame m #[(.int x0)] 1 = mkF m 0 #[.val (.int x0)] [] := by first | (simp [entryFrame, mkF, argsToLocals, Value.category]; done) | rfl
def Q_rfs (Z : State) (c0 : Int32)  (h0 : Heap) (n0 : Nat) : Option Value → Heap → List Loc → Prop := fun v h L => v = some (.int (nar .boolean (own_fs c0))) ∧ Fr n0 L ∧ h = h0
theorem rfs (l : Launch) (Z : State) (a0 : Array Value) (hw : ∀ d ∈ tables_1, d.before a0 Z = true) (ws : List Jvm.Cond) (c0 : Int32)  (h0 : Heap) (n0 : Nat) (Z0 : n0 ≤ h0.size) :
    own_M l Z n_33 (Jvm.Cond.code n_33 method_4_code 1 (some .boolean)) ws ({ frames := 0, cells := 0, slots := 0, locals := 0 } : Room) #[(.int c0)] h0 (Q_rfs Z c0 h0 n0) := by
  refine MetFree.of_bodySF (plainFor_of_name pn_1) hisR ?_
  intro p e s m args below meth c s₁ Bd hml0 hP hK
  obtain ⟨rfl, hZ, hh⟩ := hP
  have hx := Bd.exec
  have hby := Bd.bytes
  have hml : c.maxLocals = 1 := hml0
  have hown : s.vm.findClass "com/example/vestline/vestline/format/CsvNamePinLaw" = some m.cls := findClass_of_methodNamed Bd.named
  have hnm := (name_of_methodNamed Bd.named Bd.method).1
  have X0 : Stand p l e ({ frames := 0, cells := 0, slots := 0, locals := 0 } : Room) s m #[(.int c0)] below meth c s₁ [] 0 0 := Stand.of_body Bd
  have e0 : s₁.heap = h0 := by rw [← hh, Bd.state]; rfl
  have N0 := Fr.nil n0
  show Goes p e below (Fin s (Q_rfs Z c0 h0 n0) ({ frames := 0, cells := 0, slots := 0, locals := 0 } : Room).cells ({ frames := 0, cells := 0, slots := 0, locals := 0 } : Room).slots) _
  refine Goes.via (S' := s₁.setTop (mkF m 0 #[.val (.int c0)] [])) (fun tz kz => castTop (ef_1 m c0 ) kz) ?_
  refine Goes.via (S' := s₁.setTop (mkF m 3 #[.val (.int c0)] [(.int (61 : Int32)), (.int c0)])) (fun tz kz => ?_) ?_
  · show Steps p.tables e below (s₁.setTop (mkF m 0 #[.val (.int c0)] [])) _
    refine XS.iloadN X0.here hx rfl (hb hby d1_0) rfl ?_
    refine XS.bipush X0.here hx rfl (hb hby d1_1) ?_
    exact kz
  obtain ⟨r7, hr7⟩ : ∃ zz_ : Int32, zz_ = (if c0 = (61 : Int32) then (1 : Int32) else (if c0 = (43 : Int32) then (1 : Int32) else (if c0 = (45 : Int32) then (1 : Int32) else (if c0 = (64 : Int32) then (1 : Int32) else (if c0 = (9 : Int32) then (1 : Int32) else (if c0 = (13 : Int32) then (1 : Int32) else (0 : Int32))))))) := ⟨_, rfl⟩
  have j3_8 : ∀ t, Steps p.tables e below (s₁.setTop (mkF m 41 #[.val (.int c0)] [(.int r7)])) t → Steps p.tables e below (s₁.setTop (mkF m 3 #[.val (.int c0)] [(.int (61 : Int32)), (.int c0)])) t := by
    intro tz kz
    by_cases hc3_1 : c0 = (61 : Int32)
    · rw [if_pos hc3_1] at hr7
      show Steps p.tables e below (s₁.setTop (mkF m 3 #[.val (.int c0)] [(.int (61 : Int32)), (.int c0)])) _
      refine XS.icmpYes X0.here hx rfl (pc0 := 3) (pc' := 36) rfl (hb hby d1_3) rfl (teq hc3_1).1 (by decide) (by decide) ?_
      refine XS.iconst X0.here hx rfl (hb hby d1_36) ?_
      refine XS.goto X0.here hx rfl (pc0 := 37) (pc' := 41) rfl (hb hby d1_37) (by decide) (by decide) ?_
      subst hr7
      exact kz
    · rw [if_neg hc3_1] at hr7
      show Steps p.tables e below (s₁.setTop (mkF m 3 #[.val (.int c0)] [(.int (61 : Int32)), (.int c0)])) _
      refine XS.icmpNo X0.here hx rfl (hb hby d1_3) rfl (feq hc3_1).1 ?_
      refine XS.iloadN X0.here hx rfl (hb hby d1_6) rfl ?_
      refine XS.bipush X0.here hx rfl (hb hby d1_7) ?_
      by_cases hc9_2 : c0 = (43 : Int32)
      · rw [if_pos hc9_2] at hr7
        show Steps p.tables e below (s₁.setTop (mkF m 9 #[.val (.int c0)] [(.int (43 : Int32)), (.int c0)])) _
        refine XS.icmpYes X0.here hx rfl (pc0 := 9) (pc' := 36) rfl (hb hby d1_9) rfl (teq hc9_2).1 (by decide) (by decide) ?_
        refine XS.iconst X0.here hx rfl (hb hby d1_36) ?_
        refine XS.goto X0.here hx rfl (pc0 := 37) (pc' := 41) rfl (hb hby d1_37) (by decide) (by decide) ?_
        subst hr7
        exact kz
      · rw [if_neg hc9_2] at hr7
        show Steps p.tables e below (s₁.setTop (mkF m 9 #[.val (.int c0)] [(.int (43 : Int32)), (.int c0)])) _
        refine XS.icmpNo X0.here hx rfl (hb hby d1_9) rfl (feq hc9_2).1 ?_
        refine XS.iloadN X0.here hx rfl (hb hby d1_12) rfl ?_
        refine XS.bipush X0.here hx rfl (hb hby d1_13) ?_
        by_cases hc15_3 : c0 = (45 : Int32)
        · rw [if_pos hc15_3] at hr7
          show Steps p.tables e below (s₁.setTop (mkF m 15 #[.val (.int c0)] [(.int (45 : Int32)), (.int c0)])) _
          refine XS.icmpYes X0.here hx rfl (pc0 := 15) (pc' := 36) rfl (hb hby d1_15) rfl (teq hc15_3).1 (by decide) (by decide) ?_
          refine XS.iconst X0.here hx rfl (hb hby d1_36) ?_
          refine XS.goto X0.here hx rfl (pc0 := 37) (pc' := 41) rfl (hb hby d1_37) (by decide) (by decide) ?_
          subst hr7
          exact kz
        · rw [if_neg hc15_3] at hr7
          show Steps p.tables e below (s₁.setTop (mkF m 15 #[.val (.int c0)] [(.int (45 : Int32)), (.int c0)])) _
          refine XS.icmpNo X0.here hx rfl (hb hby d1_15) rfl (feq hc15_3).1 ?_
          refine XS.iloadN X0.here hx rfl (hb hby d1_18) rfl ?_
          refine XS.bipush X0.here hx rfl (hb hby d1_19) ?_
          by_cases hc21_4 : c0 = (64 : Int32)
          · rw [if_pos hc21_4] at hr7
            show Steps p.tables e below (s₁.setTop (mkF m 21 #[.val (.int c0)] [(.int (64 : Int32)), (.int c0)])) _
            refine XS.icmpYes X0.here hx rfl (pc0 := 21) (pc' := 36) rfl (hb hby d1_21) rfl (teq hc21_4).1 (by decide) (by decide) ?_
            refine XS.iconst X0.here hx rfl (hb hby d1_36) ?_
            refine XS.goto X0.here hx rfl (pc0 := 37) (pc' := 41) rfl (hb hby d1_37) (by decide) (by decide) ?_
            subst hr7
            exact kz
          · rw [if_neg hc21_4] at hr7
            show Steps p.tables e below (s₁.setTop (mkF m 21 #[.val (.int c0)] [(.int (64 : Int32)), (.int c0)])) _
            refine XS.icmpNo X0.here hx rfl (hb hby d1_21) rfl (feq hc21_4).1 ?_
            refine XS.iloadN X0.here hx rfl (hb hby d1_24) rfl ?_
            refine XS.bipush X0.here hx rfl (hb hby d1_25) ?_
            by_cases hc27_5 : c0 = (9 : Int32)
            · rw [if_pos hc27_5] at hr7
              show Steps p.tables e below (s₁.setTop (mkF m 27 #[.val (.int c0)] [(.int (9 : Int32)), (.int c0)])) _
              refine XS.icmpYes X0.here hx rfl (pc0 := 27) (pc' := 36) rfl (hb hby d1_27) rfl (teq hc27_5).1 (by decide) (by decide) ?_
              refine XS.iconst X0.here hx rfl (hb hby d1_36) ?_
              refine XS.goto X0.here hx rfl (pc0 := 37) (pc' := 41) rfl (hb hby d1_37) (by decide) (by decide) ?_
              subst hr7
              exact kz
            · rw [if_neg hc27_5] at hr7
              show Steps p.tables e below (s₁.setTop (mkF m 27 #[.val (.int c0)] [(.int (9 : Int32)), (.int c0)])) _
              refine XS.icmpNo X0.here hx rfl (hb hby d1_27) rfl (feq hc27_5).1 ?_
              refine XS.iloadN X0.here hx rfl (hb hby d1_30) rfl ?_
              refine XS.bipush X0.here hx rfl (hb hby d1_31) ?_
              by_cases hc33_6 : c0 = (13 : Int32)
              · rw [if_pos hc33_6] at hr7
                show Steps p.tables e below (s₁.setTop (mkF m 33 #[.val (.int c0)] [(.int (13 : Int32)), (.int c0)])) _
                refine XS.icmpNo X0.here hx rfl (hb hby d1_33) rfl (teq hc33_6).2 ?_
                refine XS.iconst X0.here hx rfl (hb hby d1_36) ?_
                refine XS.goto X0.here hx rfl (pc0 := 37) (pc' := 41) rfl (hb hby d1_37) (by decide) (by decide) ?_
                subst hr7
                exact kz
              · rw [if_neg hc33_6] at hr7
                show Steps p.tables e below (s₁.setTop (mkF m 33 #[.val (.int c0)] [(.int (13 : Int32)), (.int c0)])) _
                refine XS.icmpYes X0.here hx rfl (pc0 := 33) (pc' := 40) rfl (hb hby d1_33) rfl (feq hc33_6).2 (by decide) (by decide) ?_
                refine XS.iconst X0.here hx rfl (hb hby d1_40) ?_
                subst hr7
                exact kz
  refine Goes.via j3_8 ?_
  exact Goes.retN X0 hx Bd.notSynchronized (t := .boolean) Bd.returns (by simp) (hb hby d1_41) (nb_ rfl) (nb_ rfl) ⟨congrArg (fun z => some (Value.int (nar .boolean z))) hr7, N0, e0⟩
def own_ct (c0 : Int32) : Int32 := (if (31 : Int32) < c0 then (if c0 < (127 : Int32) then (0 : Int32) else (if (159 : Int32) < c0 then (0 : Int32) else (1 : Int32))) else (1 : Int32))
theorem d2_0 : decode method_3_code 0 = .ok (.iload_n 0, 1) := by decide +kernel
theorem d2_1 : decode method_3_code 1 = .ok (.bipush 31, 2) := by decide +kernel
theorem d2_3 : decode method_3_code 3 = .ok (.if_icmp .le 16, 3) := by decide +kernel
theorem d2_6 : decode method_3_code 6 = .ok (.iload_n 0, 1) := by decide +kernel
theorem d2_7 : decode method_3_code 7 = .ok (.bipush 127, 2) := by decide +kernel
theorem d2_9 : decode method_3_code 9 = .ok (.if_icmp .lt 14, 3) := by decide +kernel
theorem d2_12 : decode method_3_code 12 = .ok (.iload_n 0, 1) := by decide +kernel
theorem d2_13 : decode method_3_code 13 = .ok (.sipush 159, 3) := by decide +kernel
theorem d2_16 : decode method_3_code 16 = .ok (.if_icmp .gt 7, 3) := by decide +kernel
theorem d2_19 : decode method_3_code 19 = .ok (.iconst 1, 1) := by decide +kernel
theorem d2_20 : decode method_3_code 20 = .ok (.goto 4, 3) := by decide +kernel
theorem d2_23 : decode method_3_code 23 = .ok (.iconst 0, 1) := by decide +kernel
theorem d2_24 : decode method_3_code 24 = .ok (.ireturn, 1) := by decide +kernel
theorem pn_2 : plainName "com/example/vestline/vestline/format/CsvNamePinLaw" = true := by first | (simp [plainName, overriddenIn]; done) | decide +kernel
theorem ef_2 (m : MethodId) (x0 : Int32) : entryFrame m #[(.int x0)] 1 = mkF m 0 #[.val (.int x0)] [] := by first | (simp [entryFrame, mkF, argsToLocals, Value.category]; done) | rfl
def Q_rct (Z : State) (c0 : Int32)  (h0 : Heap) (n0 : Nat) : Option Value → Heap → List Loc → Prop := fun v h L => v = some (.int (nar .boolean (own_ct c0))) ∧ Fr n0 L ∧ h = h0
theorem rct (l : Launch) (Z : State) (a0 : Array Value) (hw : ∀ d ∈ tables_1, d.before a0 Z = true) (ws : List Jvm.Cond) (c0 : Int32)  (h0 : Heap) (n0 : Nat) (Z0 : n0 ≤ h0.size) :
    own_M l Z n_34 (Jvm.Cond.code n_34 method_3_code 1 (some .boolean)) ws ({ frames := 0, cells := 0, slots := 0, locals := 0 } : Room) #[(.int c0)] h0 (Q_rct Z c0 h0 n0) := by
  refine MetFree.of_bodySF (plainFor_of_name pn_2) hisR ?_
  intro p e s m args below meth c s₁ Bd hml0 hP hK
  obtain ⟨rfl, hZ, hh⟩ := hP
  have hx := Bd.exec
  have hby := Bd.bytes
  have hml : c.maxLocals = 1 := hml0
  have hown : s.vm.findClass "com/example/vestline/vestline/format/CsvNamePinLaw" = some m.cls := findClass_of_methodNamed Bd.named
  have hnm := (name_of_methodNamed Bd.named Bd.method).1
  have X0 : Stand p l e ({ frames := 0, cells := 0, slots := 0, locals := 0 } : Room) s m #[(.int c0)] below meth c s₁ [] 0 0 := Stand.of_body Bd
  have e0 : s₁.heap = h0 := by rw [← hh, Bd.state]; rfl
  have N0 := Fr.nil n0
  show Goes p e below (Fin s (Q_rct Z c0 h0 n0) ({ frames := 0, cells := 0, slots := 0, locals := 0 } : Room).cells ({ frames := 0, cells := 0, slots := 0, locals := 0 } : Room).slots) _
  refine Goes.via (S' := s₁.setTop (mkF m 0 #[.val (.int c0)] [])) (fun tz kz => castTop (ef_2 m c0 ) kz) ?_
  refine Goes.via (S' := s₁.setTop (mkF m 3 #[.val (.int c0)] [(.int (31 : Int32)), (.int c0)])) (fun tz kz => ?_) ?_
  · show Steps p.tables e below (s₁.setTop (mkF m 0 #[.val (.int c0)] [])) _
    refine XS.iloadN X0.here hx rfl (hb hby d2_0) rfl ?_
    refine XS.bipush X0.here hx rfl (hb hby d2_1) ?_
    exact kz
  obtain ⟨r4, hr4⟩ : ∃ zz_ : Int32, zz_ = (if (31 : Int32) < c0 then (if c0 < (127 : Int32) then (0 : Int32) else (if (159 : Int32) < c0 then (0 : Int32) else (1 : Int32))) else (1 : Int32)) := ⟨_, rfl⟩
  have j3_5 : ∀ t, Steps p.tables e below (s₁.setTop (mkF m 24 #[.val (.int c0)] [(.int r4)])) t → Steps p.tables e below (s₁.setTop (mkF m 3 #[.val (.int c0)] [(.int (31 : Int32)), (.int c0)])) t := by
    intro tz kz
    by_cases hc3_1 : (31 : Int32) < c0
    · rw [if_pos hc3_1] at hr4
      show Steps p.tables e below (s₁.setTop (mkF m 3 #[.val (.int c0)] [(.int (31 : Int32)), (.int c0)])) _
      refine XS.icmpNo X0.here hx rfl (hb hby d2_3) rfl (tlt hc3_1).2.2.2 ?_
      refine XS.iloadN X0.here hx rfl (hb hby d2_6) rfl ?_
      refine XS.bipush X0.here hx rfl (hb hby d2_7) ?_
      by_cases hc9_2 : c0 < (127 : Int32)
      · rw [if_pos hc9_2] at hr4
        show Steps p.tables e below (s₁.setTop (mkF m 9 #[.val (.int c0)] [(.int (127 : Int32)), (.int c0)])) _
        refine XS.icmpYes X0.here hx rfl (pc0 := 9) (pc' := 23) rfl (hb hby d2_9) rfl (tlt hc9_2).1 (by decide) (by decide) ?_
        refine XS.iconst X0.here hx rfl (hb hby d2_23) ?_
        subst hr4
        exact kz
      · rw [if_neg hc9_2] at hr4
        show Steps p.tables e below (s₁.setTop (mkF m 9 #[.val (.int c0)] [(.int (127 : Int32)), (.int c0)])) _
        refine XS.icmpNo X0.here hx rfl (hb hby d2_9) rfl (flt hc9_2).1 ?_
        refine XS.iloadN X0.here hx rfl (hb hby d2_12) rfl ?_
        refine XS.sipush X0.here hx rfl (hb hby d2_13) ?_
        by_cases hc16_3 : (159 : Int32) < c0
        · rw [if_pos hc16_3] at hr4
          show Steps p.tables e below (s₁.setTop (mkF m 16 #[.val (.int c0)] [(.int (159 : Int32)), (.int c0)])) _
          refine XS.icmpYes X0.here hx rfl (pc0 := 16) (pc' := 23) rfl (hb hby d2_16) rfl (tlt hc16_3).2.2.1 (by decide) (by decide) ?_
          refine XS.iconst X0.here hx rfl (hb hby d2_23) ?_
          subst hr4
          exact kz
        · rw [if_neg hc16_3] at hr4
          show Steps p.tables e below (s₁.setTop (mkF m 16 #[.val (.int c0)] [(.int (159 : Int32)), (.int c0)])) _
          refine XS.icmpNo X0.here hx rfl (hb hby d2_16) rfl (flt hc16_3).2.2.1 ?_
          refine XS.iconst X0.here hx rfl (hb hby d2_19) ?_
          refine XS.goto X0.here hx rfl (pc0 := 20) (pc' := 24) rfl (hb hby d2_20) (by decide) (by decide) ?_
          subst hr4
          exact kz
    · rw [if_neg hc3_1] at hr4
      show Steps p.tables e below (s₁.setTop (mkF m 3 #[.val (.int c0)] [(.int (31 : Int32)), (.int c0)])) _
      refine XS.icmpYes X0.here hx rfl (pc0 := 3) (pc' := 19) rfl (hb hby d2_3) rfl (flt hc3_1).2.2.2 (by decide) (by decide) ?_
      refine XS.iconst X0.here hx rfl (hb hby d2_19) ?_
      refine XS.goto X0.here hx rfl (pc0 := 20) (pc' := 24) rfl (hb hby d2_20) (by decide) (by decide) ?_
      subst hr4
      exact kz
  refine Goes.via j3_5 ?_
  exact Goes.retN X0 hx Bd.notSynchronized (t := .boolean) Bd.returns (by simp) (hb hby d2_24) (nb_ rfl) (nb_ rfl) ⟨congrArg (fun z => some (Value.int (nar .boolean z))) hr4, N0, e0⟩
theorem own_fs0 {c0 : Int32} (h : nar .boolean (own_fs c0) = 0) : ¬ c0 = 61 ∧ ¬ c0 = 43 ∧ ¬ c0 = 45 ∧ ¬ c0 = 64 ∧ ¬ c0 = 9 ∧ ¬ c0 = 13 := by
  unfold own_fs at h
  refine ⟨fun q => ?_, fun q => ?_, fun q => ?_, fun q => ?_, fun q => ?_, fun q => ?_⟩ <;> (subst q; exact absurd h (by decide))
theorem own_nff {c0 : Int32} (hc : nar .char c0 = c0) (h : nar .boolean (own_fs c0) = 0) : own_nf c0 := by
  obtain ⟨q0, q1, q2, q3, q4, q5⟩ := own_fs0 h
  exact own_nfi hc q0 q1 q2 q3 q4 q5
theorem own_nctf {c0 : Int32} (hc : nar .char c0 = c0) (h : nar .boolean (own_ct c0) = 0) : own_nct c0 := by
  have hr := own_ch hc
  have z31 : (31 : Int32).toInt = 31 := by decide
  have z127 : (127 : Int32).toInt = 127 := by decide
  have z159 : (159 : Int32).toInt = 159 := by decide
  unfold own_nct
  by_cases g : (159 : Int32) < c0
  · exact Or.inl g
  have k31 : (31 : Int32) < c0 := by
    by_cases q : (31 : Int32) < c0
    · exact q
    · unfold own_ct at h; rw [if_neg q] at h; exact absurd h (by decide)
  have k127 : c0 < (127 : Int32) := by
    by_cases q : c0 < (127 : Int32)
    · exact q
    · unfold own_ct at h; rw [if_pos k31, if_neg q, if_neg g] at h; exact absurd h (by decide)
  refine Or.inr ⟨g, k127, fun q => ?_⟩
  have e := c_iushr c0 5 5 (by decide) (by decide)
  rw [q] at e
  have z0 : (0 : Int32).toInt = 0 := by decide
  rw [Int32.lt_iff_toInt_lt] at k31 k127
  omega
theorem own_nc (x : Int32) : nar .char (x.toUInt32.toUInt16.toUInt32.toInt32) = x.toUInt32.toUInt16.toUInt32.toInt32 := by
  show (x.toUInt32.toUInt16.toUInt32.toInt32).toUInt32.toUInt16.toUInt32.toInt32 = _
  have e : (x.toUInt32.toUInt16.toUInt32.toInt32).toUInt32 = x.toUInt32.toUInt16.toUInt32 := rfl
  rw [e, UInt16.toUInt16_toUInt32]
theorem own_n4 (x : Int32) : ((1 : Int32) + (x &&& (3 : Int32))) = 1 ∨ ((1 : Int32) + (x &&& (3 : Int32))) = 2 ∨ ((1 : Int32) + (x &&& (3 : Int32))) = 3 ∨ ((1 : Int32) + (x &&& (3 : Int32))) = 4 := by
  have h := c_and x 3 (by decide)
  have z3 : (3 : Int32).toInt = 3 := by decide
  have : (x &&& (3 : Int32)).toInt = 0 ∨ (x &&& (3 : Int32)).toInt = 1 ∨ (x &&& (3 : Int32)).toInt = 2 ∨ (x &&& (3 : Int32)).toInt = 3 := by omega
  rcases this with q | q | q | q
  · left; rw [show (x &&& (3 : Int32)) = 0 from Int32.toInt_inj.mp q]; rfl
  · right; left; rw [show (x &&& (3 : Int32)) = 1 from Int32.toInt_inj.mp q]; rfl
  · right; right; left; rw [show (x &&& (3 : Int32)) = 2 from Int32.toInt_inj.mp q]; rfl
  · right; right; right; rw [show (x &&& (3 : Int32)) = 3 from Int32.toInt_inj.mp q]; rfl
theorem d3_0 : decode method_5_code 0 = .ok (.iload_n 0, 1) := by decide +kernel
theorem d3_1 : decode method_5_code 1 = .ok (.iconst 1, 1) := by decide +kernel
theorem d3_2 : decode method_5_code 2 = .ok (.if_icmp .ne 18, 3) := by decide +kernel
theorem d3_5 : decode method_5_code 5 = .ok (.new 28, 3) := by decide +kernel
theorem d3_8 : decode method_5_code 8 = .ok (.dup, 1) := by decide +kernel
theorem d3_9 : decode method_5_code 9 = .ok (.iconst 1, 1) := by decide +kernel
theorem d3_10 : decode method_5_code 10 = .ok (.newarray .char, 2) := by decide +kernel
theorem d3_12 : decode method_5_code 12 = .ok (.dup, 1) := by decide +kernel
theorem d3_13 : decode method_5_code 13 = .ok (.iconst 0, 1) := by decide +kernel
theorem d3_14 : decode method_5_code 14 = .ok (.iload_n 1, 1) := by decide +kernel
theorem d3_15 : decode method_5_code 15 = .ok (.castore, 1) := by decide +kernel
theorem d3_16 : decode method_5_code 16 = .ok (.invokespecial 37, 3) := by decide +kernel
theorem d3_19 : decode method_5_code 19 = .ok (.areturn, 1) := by decide +kernel
theorem d3_20 : decode method_5_code 20 = .ok (.iload_n 0, 1) := by decide +kernel
theorem d3_21 : decode method_5_code 21 = .ok (.iconst 2, 1) := by decide +kernel
theorem d3_22 : decode method_5_code 22 = .ok (.if_icmp .ne 22, 3) := by decide +kernel
theorem d3_25 : decode method_5_code 25 = .ok (.new 28, 3) := by decide +kernel
theorem d3_28 : decode method_5_code 28 = .ok (.dup, 1) := by decide +kernel
theorem d3_29 : decode method_5_code 29 = .ok (.iconst 2, 1) := by decide +kernel
theorem d3_30 : decode method_5_code 30 = .ok (.newarray .char, 2) := by decide +kernel
theorem d3_32 : decode method_5_code 32 = .ok (.dup, 1) := by decide +kernel
theorem d3_33 : decode method_5_code 33 = .ok (.iconst 0, 1) := by decide +kernel
theorem d3_34 : decode method_5_code 34 = .ok (.iload_n 1, 1) := by decide +kernel
theorem d3_35 : decode method_5_code 35 = .ok (.castore, 1) := by decide +kernel
theorem d3_36 : decode method_5_code 36 = .ok (.dup, 1) := by decide +kernel
theorem d3_37 : decode method_5_code 37 = .ok (.iconst 1, 1) := by decide +kernel
theorem d3_38 : decode method_5_code 38 = .ok (.iload_n 2, 1) := by decide +kernel
theorem d3_39 : decode method_5_code 39 = .ok (.castore, 1) := by decide +kernel
theorem d3_40 : decode method_5_code 40 = .ok (.invokespecial 37, 3) := by decide +kernel
theorem d3_43 : decode method_5_code 43 = .ok (.areturn, 1) := by decide +kernel
theorem d3_44 : decode method_5_code 44 = .ok (.iload_n 0, 1) := by decide +kernel
theorem d3_45 : decode method_5_code 45 = .ok (.iconst 3, 1) := by decide +kernel
theorem d3_46 : decode method_5_code 46 = .ok (.if_icmp .ne 26, 3) := by decide +kernel
theorem d3_49 : decode method_5_code 49 = .ok (.new 28, 3) := by decide +kernel
theorem d3_52 : decode method_5_code 52 = .ok (.dup, 1) := by decide +kernel
theorem d3_53 : decode method_5_code 53 = .ok (.iconst 3, 1) := by decide +kernel
theorem d3_54 : decode method_5_code 54 = .ok (.newarray .char, 2) := by decide +kernel
theorem d3_56 : decode method_5_code 56 = .ok (.dup, 1) := by decide +kernel
theorem d3_57 : decode method_5_code 57 = .ok (.iconst 0, 1) := by decide +kernel
theorem d3_58 : decode method_5_code 58 = .ok (.iload_n 1, 1) := by decide +kernel
theorem d3_59 : decode method_5_code 59 = .ok (.castore, 1) := by decide +kernel
theorem d3_60 : decode method_5_code 60 = .ok (.dup, 1) := by decide +kernel
theorem d3_61 : decode method_5_code 61 = .ok (.iconst 1, 1) := by decide +kernel
theorem d3_62 : decode method_5_code 62 = .ok (.iload_n 2, 1) := by decide +kernel
theorem d3_63 : decode method_5_code 63 = .ok (.castore, 1) := by decide +kernel
theorem d3_64 : decode method_5_code 64 = .ok (.dup, 1) := by decide +kernel
theorem d3_65 : decode method_5_code 65 = .ok (.iconst 2, 1) := by decide +kernel
theorem d3_66 : decode method_5_code 66 = .ok (.iload_n 3, 1) := by decide +kernel
theorem d3_67 : decode method_5_code 67 = .ok (.castore, 1) := by decide +kernel
theorem d3_68 : decode method_5_code 68 = .ok (.invokespecial 37, 3) := by decide +kernel
theorem d3_71 : decode method_5_code 71 = .ok (.areturn, 1) := by decide +kernel
theorem d3_72 : decode method_5_code 72 = .ok (.new 28, 3) := by decide +kernel
theorem d3_75 : decode method_5_code 75 = .ok (.dup, 1) := by decide +kernel
theorem d3_76 : decode method_5_code 76 = .ok (.iconst 4, 1) := by decide +kernel
theorem d3_77 : decode method_5_code 77 = .ok (.newarray .char, 2) := by decide +kernel
theorem d3_79 : decode method_5_code 79 = .ok (.dup, 1) := by decide +kernel
theorem d3_80 : decode method_5_code 80 = .ok (.iconst 0, 1) := by decide +kernel
theorem d3_81 : decode method_5_code 81 = .ok (.iload_n 1, 1) := by decide +kernel
theorem d3_82 : decode method_5_code 82 = .ok (.castore, 1) := by decide +kernel
theorem d3_83 : decode method_5_code 83 = .ok (.dup, 1) := by decide +kernel
theorem d3_84 : decode method_5_code 84 = .ok (.iconst 1, 1) := by decide +kernel
theorem d3_85 : decode method_5_code 85 = .ok (.iload_n 2, 1) := by decide +kernel
theorem d3_86 : decode method_5_code 86 = .ok (.castore, 1) := by decide +kernel
theorem d3_87 : decode method_5_code 87 = .ok (.dup, 1) := by decide +kernel
theorem d3_88 : decode method_5_code 88 = .ok (.iconst 2, 1) := by decide +kernel
theorem d3_89 : decode method_5_code 89 = .ok (.iload_n 3, 1) := by decide +kernel
theorem d3_90 : decode method_5_code 90 = .ok (.castore, 1) := by decide +kernel
theorem d3_91 : decode method_5_code 91 = .ok (.dup, 1) := by decide +kernel
theorem d3_92 : decode method_5_code 92 = .ok (.iconst 3, 1) := by decide +kernel
theorem d3_93 : decode method_5_code 93 = .ok (.iload 4, 2) := by decide +kernel
theorem d3_95 : decode method_5_code 95 = .ok (.castore, 1) := by decide +kernel
theorem d3_96 : decode method_5_code 96 = .ok (.invokespecial 37, 3) := by decide +kernel
theorem d3_99 : decode method_5_code 99 = .ok (.areturn, 1) := by decide +kernel
theorem pn_3 : plainName "com/example/vestline/vestline/format/CsvNamePinLaw" = true := by first | (simp [plainName, overriddenIn]; done) | decide +kernel
theorem ef_3 (m : MethodId) (x0 : Int32) (x1 : Int32) (x2 : Int32) (x3 : Int32) (x4 : Int32) : entryFrame m #[(.int x0), (.int x1), (.int x2), (.int x3), (.int x4)] 5 = mkF m 0 #[.val (.int x0), .val (.int x1), .val (.int x2), .val (.int x3), .val (.int x4)] [] := by first | (simp [entryFrame, mkF, argsToLocals, Value.category]; done) | rfl
def Q_rmk_1 (Z : State) (c0 : Int32) (c1 : Int32) (c2 : Int32) (c3 : Int32) (cs : Int32) (h0 : Heap) (n0 : Nat) : Option Value → Heap → List Loc → Prop := fun v h L => ∃ a b k, v = some (.ref a) ∧ Fr n0 L ∧ Keep h0 h [] ∧ (((¬ (255 : Int32) < c0) ∧ own_Str Z h a b k (1 : Int32) [.int (own_by c0)]) ∨ own_StU Z h a b k (2 : Int32) [.int (own_lo c0), .int (own_hi c0)])
theorem rmk_1 (l : Launch) (Z : State) (a0 : Array Value) (hw : ∀ d ∈ tables_1, d.before a0 Z = true) (ws : List Jvm.Cond) (c0 : Int32) (c1 : Int32) (c2 : Int32) (c3 : Int32) (cs : Int32) (h0 : Heap) (n0 : Nat) (Z0 : n0 ≤ h0.size) (SC : Sta Z Z.heap "java/lang/String" "COMPACT_STRINGS" "Z" (.int cs)) (hcs : ¬ cs = (0 : Int32)) (O0 : Old Z n0 h0) (SA : Sta Z Z.heap "java/lang/StringUTF16" "$assertionsDisabled" "Z" (.int (1 : Int32))) (SH : Sta Z Z.heap "java/lang/StringUTF16" "HI_BYTE_SHIFT" "I" (.int (0 : Int32))) (SL : Sta Z Z.heap "java/lang/StringUTF16" "LO_BYTE_SHIFT" "I" (.int (8 : Int32))) (z0 : nar .char c0 = c0) :
    own_M l Z n_35 (Jvm.Cond.code n_35 method_5_code 5 (some (.object "java/lang/String"))) ws ({ frames := 6, cells := 4, slots := 20, locals := 134 } : Room) #[(.int (1 : Int32)), (.int c0), (.int c1), (.int c2), (.int c3)] h0 (Q_rmk_1 Z c0 c1 c2 c3 cs h0 n0) := by
  refine MetFree.of_bodySF (plainFor_of_name pn_3) hisR ?_
  intro p e s m args below meth c s₁ Bd hml0 hP hK
  obtain ⟨rfl, hZ, hh⟩ := hP
  have hx := Bd.exec
  have hby := Bd.bytes
  have hml : c.maxLocals = 5 := hml0
  have hown : s.vm.findClass "com/example/vestline/vestline/format/CsvNamePinLaw" = some m.cls := findClass_of_methodNamed Bd.named
  have hnm := (name_of_methodNamed Bd.named Bd.method).1
  have X0 : Stand p l e ({ frames := 6, cells := 4, slots := 20, locals := 134 } : Room) s m #[(.int (1 : Int32)), (.int c0), (.int c1), (.int c2), (.int c3)] below meth c s₁ [] 0 0 := Stand.of_body Bd
  have e0 : s₁.heap = h0 := by rw [← hh, Bd.state]; rfl
  have N0 := Fr.nil n0
  show Goes p e below (Fin s (Q_rmk_1 Z c0 c1 c2 c3 cs h0 n0) ({ frames := 6, cells := 4, slots := 20, locals := 134 } : Room).cells ({ frames := 6, cells := 4, slots := 20, locals := 134 } : Room).slots) _
  refine Goes.via (S' := s₁.setTop (mkF m 0 #[.val (.int (1 : Int32)), .val (.int c0), .val (.int c1), .val (.int c2), .val (.int c3)] [])) (fun tz kz => castTop (ef_3 m (1 : Int32) c0 c1 c2 c3 ) kz) ?_
  refine Goes.via (S' := s₁.setTop (mkF m 5 #[.val (.int (1 : Int32)), .val (.int c0), .val (.int c1), .val (.int c2), .val (.int c3)] [])) (fun tz kz => ?_) ?_
  · show Steps p.tables e below (s₁.setTop (mkF m 0 #[.val (.int (1 : Int32)), .val (.int c0), .val (.int c1), .val (.int c2), .val (.int c3)] [])) _
    refine XS.iloadN X0.here hx rfl (hb hby d3_0) rfl ?_
    refine XS.iconst X0.here hx rfl (hb hby d3_1) ?_
    refine XS.icmpNo X0.here hx rfl (hb hby d3_2) rfl (teq (by first | decide | rfl)).2 ?_
    exact kz
  obtain ⟨T1, h1, X1, e1, E1, A1, D1, -, st1⟩ := newO X0 hx hZ hown (w_ hw 11 rfl) (w_ hw 12 rfl) (w_ hw 13 rfl) e0 (g := (mkF m 5 #[.val (.int (1 : Int32)), .val (.int c0), .val (.int c1), .val (.int c2), .val (.int c3)] [])) rfl (hb hby d3_5) (by decide) (by decide)
  obtain ⟨b1, g1⟩ : ∃ z, z = h0.size := ⟨_, rfl⟩
  rw [← g1] at A1 D1 st1
  refine Goes.via st1 ?_
  have FV : Fld Z h1 b1 "java/lang/String" "value" "[B" .null := D1 (Or.inr (w_ hw 40 rfl)) (ty := (.array .byte)) (by decide)
  have FC : Fld Z h1 b1 "java/lang/String" "coder" "B" (.int (0 : Int32)) := D1 (Or.inr (w_ hw 38 rfl)) (ty := .byte) (by decide)
  have K1 := (Keep.refl h0 []).ext E1
  have ga : n0 ≤ b1 := Nat.le_trans Z0 (Nat.le_of_eq g1.symm)
  refine Goes.via (S' := T1.setTop (mkF m 10 #[.val (.int (1 : Int32)), .val (.int c0), .val (.int c1), .val (.int c2), .val (.int c3)] [(.int (1 : Int32)), (.ref b1), (.ref b1)])) (fun tz kz => ?_) ?_
  · show Steps p.tables e below (T1.setTop (mkF m 8 #[.val (.int (1 : Int32)), .val (.int c0), .val (.int c1), .val (.int c2), .val (.int c3)] [(.ref b1)])) _
    refine XS.dup X1.here hx rfl (hb hby d3_8) rfl rfl ?_
    refine XS.iconst X1.here hx rfl (hb hby d3_9) ?_
    exact kz
  obtain ⟨T2, h2, k2, X2, e2, E2, A2, st2⟩ := newP X1 hx hZ (w_ hw 14 rfl) e1 (g := (mkF m 10 #[.val (.int (1 : Int32)), .val (.int c0), .val (.int c1), .val (.int c2), .val (.int c3)] [(.int (1 : Int32)), (.ref b1), (.ref b1)])) rfl (hb hby d3_10) rfl (by decide) (cap := 1) (by decide) (by decide) (by decide) (by decide)
  obtain ⟨b2, g2⟩ : ∃ z, z = h1.size := ⟨_, rfl⟩
  rw [← g2] at A2 st2
  refine Goes.via st2 ?_
  have C2 : Arv Z h2 b2 k2 .char (1 : Int32) [.int 0] (.int 0) := (Arv.new A2 (by decide)).pad (pad_rep [] (.int 0) 1)
  have K2 := K1.ext E2
  have FV := FV.ext E2
  have FC := FC.ext E2
  have Ea := A1.ext E2
  have nab : b1 ≠ b2 := adr_ne A1.lt g2 (Nat.le_refl _)
  have gc : @LE.le Nat _ h0.size b2 := Nat.le_trans E1.1 (Nat.le_of_eq g2.symm)
  refine Goes.via (S' := T2.setTop (mkF m 15 #[.val (.int (1 : Int32)), .val (.int c0), .val (.int c1), .val (.int c2), .val (.int c3)] [(.int c0), (.int (0 : Int32)), (.ref b2), (.ref b2), (.ref b1), (.ref b1)])) (fun tz kz => ?_) ?_
  · show Steps p.tables e below (T2.setTop (mkF m 12 #[.val (.int (1 : Int32)), .val (.int c0), .val (.int c1), .val (.int c2), .val (.int c3)] [(.ref b2), (.ref b1), (.ref b1)])) _
    refine XS.dup X2.here hx rfl (hb hby d3_12) rfl rfl ?_
    refine XS.iconst X2.here hx rfl (hb hby d3_13) ?_
    refine XS.iloadN X2.here hx rfl (hb hby d3_14) rfl ?_
    exact kz
  obtain ⟨cl3, Ar3, q3, Sz3, Nn3, Hs3, G3⟩ := (id C2)
  obtain ⟨T4, h4, X4, e4, W4, st4⟩ := stC X2 hx hZ e2 Ar3 (j := (0 : Int32)) (inb_of Sz3 ⟨by decide, by decide⟩) (g := (mkF m 15 #[.val (.int (1 : Int32)), .val (.int c0), .val (.int c1), .val (.int c2), .val (.int c3)] [(.int c0), (.int (0 : Int32)), (.ref b2), (.ref b2), (.ref b1), (.ref b1)])) rfl rfl (hb hby d3_15)
  refine Goes.via st4 ?_
  have N4 := Fr.snoc X4 N0 (Nat.le_trans Z0 gc)
  have C4 := Arv.set Ar3 q3 Sz3 Nn3 Hs3 G3 (fits_nar_char _) W4 0 rfl (Nat.le_of_ble_eq_true rfl)
  rw [z0] at C4
  have FV := FV.other W4 (Or.inl nab)
  have FC := FC.other W4 (Or.inl nab)
  have Ea := Ea.wr W4
  have K4 := K2.wr W4 (Or.inr gc)
  obtain ⟨_, _, ⟨T5, L5, k5, n5⟩, -, X5, ⟨Lc5, hQ5, l5, y5, z5⟩, st5⟩ := X4.specialBack hx (y := n_9) rfl hown (mvT hZ (w_ hw 15 rfl)) (mvT hZ (w_ hw 16 rfl)) (mvT hZ (w_ hw 17 rfl)) (by decide) (backOf (W := 1) (rn1_1 l Z a0 hw [] b1 b2 cs k2 c0 h4 n0 (Nat.le_trans Z0 K4.1) SC hcs (O0.keep K4 all0) SA SH SL FV FC Ea ga C4 z0) hZ (w_ hw 17 rfl) (w_ hw 13 rfl) (by decide) (by decide)) (g := (mkF m 16 #[.val (.int (1 : Int32)), .val (.int c0), .val (.int c1), .val (.int c2), .val (.int c3)] [(.ref b2), (.ref b1), (.ref b1)])) rfl (by rw [hml]; rfl) (Steps.refl _) (a := b1) (argsL := [(.ref b2)]) (rest := [(.ref b1)]) (lenOf pd_21 rfl) rfl (by show 2 * 0 + _ ≤ _; exact Nat.le_of_eq rfl) (hb hby d3_16) (fun _ _ => ⟨rfl, e4, (by decide : 2 + 2 ≤ _), (by decide : 5 + 3 ≤ _)⟩)
  dsimp only [Pt.U, Pt.locs, Pt.cells, Pt.slots] at X5 l5 y5 z5 st5 hQ5
  subst l5 y5 z5
  obtain ⟨rfl, N5, K5, vb, kb, S5⟩ := hQ5
  have Nf5 := Fr.app N4 N5
  refine Goes.via (fun _ kz => st5.trans kz) ?_
  have Kf := K4.trans K5 (allS (Or.inr (Nat.le_of_eq g1.symm)) all0)
  exact Goes.retO X5 hx Bd.notSynchronized Bd.returns rfl (Or.inr (Or.inr (Or.inr (Or.inr ⟨rfl, rfl, rfl⟩)))) (hb hby d3_19) (nb_ rfl) (nb_ rfl) ⟨b1, vb, kb, rfl, Nf5, Kf, S5⟩
def Q_rmk_2 (Z : State) (c0 : Int32) (c1 : Int32) (c2 : Int32) (c3 : Int32) (cs : Int32) (h0 : Heap) (n0 : Nat) : Option Value → Heap → List Loc → Prop := fun v h L => ∃ a b k, v = some (.ref a) ∧ Fr n0 L ∧ Keep h0 h [] ∧ (((¬ (255 : Int32) < c0 ∧ ¬ (255 : Int32) < c1) ∧ own_Str Z h a b k (2 : Int32) [.int (own_by c0), .int (own_by c1)]) ∨ own_StU Z h a b k (4 : Int32) [.int (own_lo c0), .int (own_hi c0), .int (own_lo c1), .int (own_hi c1)])
theorem rmk_2 (l : Launch) (Z : State) (a0 : Array Value) (hw : ∀ d ∈ tables_1, d.before a0 Z = true) (ws : List Jvm.Cond) (c0 : Int32) (c1 : Int32) (c2 : Int32) (c3 : Int32) (cs : Int32) (h0 : Heap) (n0 : Nat) (Z0 : n0 ≤ h0.size) (SC : Sta Z Z.heap "java/lang/String" "COMPACT_STRINGS" "Z" (.int cs)) (hcs : ¬ cs = (0 : Int32)) (O0 : Old Z n0 h0) (SA : Sta Z Z.heap "java/lang/StringUTF16" "$assertionsDisabled" "Z" (.int (1 : Int32))) (SH : Sta Z Z.heap "java/lang/StringUTF16" "HI_BYTE_SHIFT" "I" (.int (0 : Int32))) (SL : Sta Z Z.heap "java/lang/StringUTF16" "LO_BYTE_SHIFT" "I" (.int (8 : Int32))) (z0 : nar .char c0 = c0) (z1 : nar .char c1 = c1) :
    own_M l Z n_35 (Jvm.Cond.code n_35 method_5_code 5 (some (.object "java/lang/String"))) ws ({ frames := 6, cells := 4, slots := 20, locals := 134 } : Room) #[(.int (2 : Int32)), (.int c0), (.int c1), (.int c2), (.int c3)] h0 (Q_rmk_2 Z c0 c1 c2 c3 cs h0 n0) := by
  refine MetFree.of_bodySF (plainFor_of_name pn_3) hisR ?_
  intro p e s m args below meth c s₁ Bd hml0 hP hK
  obtain ⟨rfl, hZ, hh⟩ := hP
  have hx := Bd.exec
  have hby := Bd.bytes
  have hml : c.maxLocals = 5 := hml0
  have hown : s.vm.findClass "com/example/vestline/vestline/format/CsvNamePinLaw" = some m.cls := findClass_of_methodNamed Bd.named
  have hnm := (name_of_methodNamed Bd.named Bd.method).1
  have X0 : Stand p l e ({ frames := 6, cells := 4, slots := 20, locals := 134 } : Room) s m #[(.int (2 : Int32)), (.int c0), (.int c1), (.int c2), (.int c3)] below meth c s₁ [] 0 0 := Stand.of_body Bd
  have e0 : s₁.heap = h0 := by rw [← hh, Bd.state]; rfl
  have N0 := Fr.nil n0
  show Goes p e below (Fin s (Q_rmk_2 Z c0 c1 c2 c3 cs h0 n0) ({ frames := 6, cells := 4, slots := 20, locals := 134 } : Room).cells ({ frames := 6, cells := 4, slots := 20, locals := 134 } : Room).slots) _
  refine Goes.via (S' := s₁.setTop (mkF m 0 #[.val (.int (2 : Int32)), .val (.int c0), .val (.int c1), .val (.int c2), .val (.int c3)] [])) (fun tz kz => castTop (ef_3 m (2 : Int32) c0 c1 c2 c3 ) kz) ?_
  refine Goes.via (S' := s₁.setTop (mkF m 25 #[.val (.int (2 : Int32)), .val (.int c0), .val (.int c1), .val (.int c2), .val (.int c3)] [])) (fun tz kz => ?_) ?_
  · show Steps p.tables e below (s₁.setTop (mkF m 0 #[.val (.int (2 : Int32)), .val (.int c0), .val (.int c1), .val (.int c2), .val (.int c3)] [])) _
    refine XS.iloadN X0.here hx rfl (hb hby d3_0) rfl ?_
    refine XS.iconst X0.here hx rfl (hb hby d3_1) ?_
    refine XS.icmpYes X0.here hx rfl (pc0 := 2) (pc' := 20) rfl (hb hby d3_2) rfl (feq (by first | decide | rfl)).2 (by decide) (by decide) ?_
    refine XS.iloadN X0.here hx rfl (hb hby d3_20) rfl ?_
    refine XS.iconst X0.here hx rfl (hb hby d3_21) ?_
    refine XS.icmpNo X0.here hx rfl (hb hby d3_22) rfl (teq (by first | decide | rfl)).2 ?_
    exact kz
  obtain ⟨T1, h1, X1, e1, E1, A1, D1, -, st1⟩ := newO X0 hx hZ hown (w_ hw 11 rfl) (w_ hw 12 rfl) (w_ hw 13 rfl) e0 (g := (mkF m 25 #[.val (.int (2 : Int32)), .val (.int c0), .val (.int c1), .val (.int c2), .val (.int c3)] [])) rfl (hb hby d3_25) (by decide) (by decide)
  obtain ⟨b1, g1⟩ : ∃ z, z = h0.size := ⟨_, rfl⟩
  rw [← g1] at A1 D1 st1
  refine Goes.via st1 ?_
  have FV : Fld Z h1 b1 "java/lang/String" "value" "[B" .null := D1 (Or.inr (w_ hw 40 rfl)) (ty := (.array .byte)) (by decide)
  have FC : Fld Z h1 b1 "java/lang/String" "coder" "B" (.int (0 : Int32)) := D1 (Or.inr (w_ hw 38 rfl)) (ty := .byte) (by decide)
  have K1 := (Keep.refl h0 []).ext E1
  have ga : n0 ≤ b1 := Nat.le_trans Z0 (Nat.le_of_eq g1.symm)
  refine Goes.via (S' := T1.setTop (mkF m 30 #[.val (.int (2 : Int32)), .val (.int c0), .val (.int c1), .val (.int c2), .val (.int c3)] [(.int (2 : Int32)), (.ref b1), (.ref b1)])) (fun tz kz => ?_) ?_
  · show Steps p.tables e below (T1.setTop (mkF m 28 #[.val (.int (2 : Int32)), .val (.int c0), .val (.int c1), .val (.int c2), .val (.int c3)] [(.ref b1)])) _
    refine XS.dup X1.here hx rfl (hb hby d3_28) rfl rfl ?_
    refine XS.iconst X1.here hx rfl (hb hby d3_29) ?_
    exact kz
  obtain ⟨T2, h2, k2, X2, e2, E2, A2, st2⟩ := newP X1 hx hZ (w_ hw 14 rfl) e1 (g := (mkF m 30 #[.val (.int (2 : Int32)), .val (.int c0), .val (.int c1), .val (.int c2), .val (.int c3)] [(.int (2 : Int32)), (.ref b1), (.ref b1)])) rfl (hb hby d3_30) rfl (by decide) (cap := 2) (by decide) (by decide) (by decide) (by decide)
  obtain ⟨b2, g2⟩ : ∃ z, z = h1.size := ⟨_, rfl⟩
  rw [← g2] at A2 st2
  refine Goes.via st2 ?_
  have C2 : Arv Z h2 b2 k2 .char (2 : Int32) [.int 0, .int 0] (.int 0) := (Arv.new A2 (by decide)).pad (pad_rep [] (.int 0) 2)
  have K2 := K1.ext E2
  have FV := FV.ext E2
  have FC := FC.ext E2
  have Ea := A1.ext E2
  have nab : b1 ≠ b2 := adr_ne A1.lt g2 (Nat.le_refl _)
  have gc : @LE.le Nat _ h0.size b2 := Nat.le_trans E1.1 (Nat.le_of_eq g2.symm)
  refine Goes.via (S' := T2.setTop (mkF m 35 #[.val (.int (2 : Int32)), .val (.int c0), .val (.int c1), .val (.int c2), .val (.int c3)] [(.int c0), (.int (0 : Int32)), (.ref b2), (.ref b2), (.ref b1), (.ref b1)])) (fun tz kz => ?_) ?_
  · show Steps p.tables e below (T2.setTop (mkF m 32 #[.val (.int (2 : Int32)), .val (.int c0), .val (.int c1), .val (.int c2), .val (.int c3)] [(.ref b2), (.ref b1), (.ref b1)])) _
    refine XS.dup X2.here hx rfl (hb hby d3_32) rfl rfl ?_
    refine XS.iconst X2.here hx rfl (hb hby d3_33) ?_
    refine XS.iloadN X2.here hx rfl (hb hby d3_34) rfl ?_
    exact kz
  obtain ⟨cl3, Ar3, q3, Sz3, Nn3, Hs3, G3⟩ := (id C2)
  obtain ⟨T4, h4, X4, e4, W4, st4⟩ := stC X2 hx hZ e2 Ar3 (j := (0 : Int32)) (inb_of Sz3 ⟨by decide, by decide⟩) (g := (mkF m 35 #[.val (.int (2 : Int32)), .val (.int c0), .val (.int c1), .val (.int c2), .val (.int c3)] [(.int c0), (.int (0 : Int32)), (.ref b2), (.ref b2), (.ref b1), (.ref b1)])) rfl rfl (hb hby d3_35)
  refine Goes.via st4 ?_
  have N4 := Fr.snoc X4 N0 (Nat.le_trans Z0 gc)
  have C4 := Arv.set Ar3 q3 Sz3 Nn3 Hs3 G3 (fits_nar_char _) W4 0 rfl (Nat.le_of_ble_eq_true rfl)
  rw [z0] at C4
  have FV := FV.other W4 (Or.inl nab)
  have FC := FC.other W4 (Or.inl nab)
  have Ea := Ea.wr W4
  have K4 := K2.wr W4 (Or.inr gc)
  refine Goes.via (S' := T4.setTop (mkF m 39 #[.val (.int (2 : Int32)), .val (.int c0), .val (.int c1), .val (.int c2), .val (.int c3)] [(.int c1), (.int (1 : Int32)), (.ref b2), (.ref b2), (.ref b1), (.ref b1)])) (fun tz kz => ?_) ?_
  · show Steps p.tables e below (T4.setTop (mkF m 36 #[.val (.int (2 : Int32)), .val (.int c0), .val (.int c1), .val (.int c2), .val (.int c3)] [(.ref b2), (.ref b1), (.ref b1)])) _
    refine XS.dup X4.here hx rfl (hb hby d3_36) rfl rfl ?_
    refine XS.iconst X4.here hx rfl (hb hby d3_37) ?_
    refine XS.iloadN X4.here hx rfl (hb hby d3_38) rfl ?_
    exact kz
  obtain ⟨cl5, Ar5, q5, Sz5, Nn5, Hs5, G5⟩ := (id C4)
  obtain ⟨T6, h6, X6, e6, W6, st6⟩ := stC X4 hx hZ e4 Ar5 (j := (1 : Int32)) (inb_of Sz5 ⟨by decide, by decide⟩) (g := (mkF m 39 #[.val (.int (2 : Int32)), .val (.int c0), .val (.int c1), .val (.int c2), .val (.int c3)] [(.int c1), (.int (1 : Int32)), (.ref b2), (.ref b2), (.ref b1), (.ref b1)])) rfl rfl (hb hby d3_39)
  refine Goes.via st6 ?_
  have N6 := Fr.snoc X6 N4 (Nat.le_trans Z0 gc)
  have C6 := Arv.set Ar5 q5 Sz5 Nn5 Hs5 G5 (fits_nar_char _) W6 1 rfl (Nat.le_of_ble_eq_true rfl)
  rw [z1] at C6
  have FV := FV.other W6 (Or.inl nab)
  have FC := FC.other W6 (Or.inl nab)
  have Ea := Ea.wr W6
  have K6 := K4.wr W6 (Or.inr gc)
  obtain ⟨_, _, ⟨T7, L7, k7, n7⟩, -, X7, ⟨Lc7, hQ7, l7, y7, z7⟩, st7⟩ := X6.specialBack hx (y := n_9) rfl hown (mvT hZ (w_ hw 15 rfl)) (mvT hZ (w_ hw 16 rfl)) (mvT hZ (w_ hw 17 rfl)) (by decide) (backOf (W := 1) (rn1_2 l Z a0 hw [] b1 b2 cs k2 c0 c1 h6 n0 (Nat.le_trans Z0 K6.1) SC hcs (O0.keep K6 all0) SA SH SL FV FC Ea ga C6 z0 z1) hZ (w_ hw 17 rfl) (w_ hw 13 rfl) (by decide) (by decide)) (g := (mkF m 40 #[.val (.int (2 : Int32)), .val (.int c0), .val (.int c1), .val (.int c2), .val (.int c3)] [(.ref b2), (.ref b1), (.ref b1)])) rfl (by rw [hml]; rfl) (Steps.refl _) (a := b1) (argsL := [(.ref b2)]) (rest := [(.ref b1)]) (lenOf pd_21 rfl) rfl (by show 2 * 0 + _ ≤ _; exact Nat.le_of_eq rfl) (hb hby d3_40) (fun _ _ => ⟨rfl, e6, (by decide : 2 + 2 ≤ _), (by decide : 6 + 6 ≤ _)⟩)
  dsimp only [Pt.U, Pt.locs, Pt.cells, Pt.slots] at X7 l7 y7 z7 st7 hQ7
  subst l7 y7 z7
  obtain ⟨rfl, N7, K7, vb, kb, S7⟩ := hQ7
  have Nf7 := Fr.app N6 N7
  refine Goes.via (fun _ kz => st7.trans kz) ?_
  have Kf := K6.trans K7 (allS (Or.inr (Nat.le_of_eq g1.symm)) all0)
  exact Goes.retO X7 hx Bd.notSynchronized Bd.returns rfl (Or.inr (Or.inr (Or.inr (Or.inr ⟨rfl, rfl, rfl⟩)))) (hb hby d3_43) (nb_ rfl) (nb_ rfl) ⟨b1, vb, kb, rfl, Nf7, Kf, S7⟩
def Q_rmk_3 (Z : State) (c0 : Int32) (c1 : Int32) (c2 : Int32) (c3 : Int32) (cs : Int32) (h0 : Heap) (n0 : Nat) : Option Value → Heap → List Loc → Prop := fun v h L => ∃ a b k, v = some (.ref a) ∧ Fr n0 L ∧ Keep h0 h [] ∧ (((¬ (255 : Int32) < c0 ∧ ¬ (255 : Int32) < c1 ∧ ¬ (255 : Int32) < c2) ∧ own_Str Z h a b k (3 : Int32) [.int (own_by c0), .int (own_by c1), .int (own_by c2)]) ∨ own_StU Z h a b k (6 : Int32) [.int (own_lo c0), .int (own_hi c0), .int (own_lo c1), .int (own_hi c1), .int (own_lo c2), .int (own_hi c2)])
theorem rmk_3 (l : Launch) (Z : State) (a0 : Array Value) (hw : ∀ d ∈ tables_1, d.before a0 Z = true) (ws : List Jvm.Cond) (c0 : Int32) (c1 : Int32) (c2 : Int32) (c3 : Int32) (cs : Int32) (h0 : Heap) (n0 : Nat) (Z0 : n0 ≤ h0.size) (SC : Sta Z Z.heap "java/lang/String" "COMPACT_STRINGS" "Z" (.int cs)) (hcs : ¬ cs = (0 : Int32)) (O0 : Old Z n0 h0) (SA : Sta Z Z.heap "java/lang/StringUTF16" "$assertionsDisabled" "Z" (.int (1 : Int32))) (SH : Sta Z Z.heap "java/lang/StringUTF16" "HI_BYTE_SHIFT" "I" (.int (0 : Int32))) (SL : Sta Z Z.heap "java/lang/StringUTF16" "LO_BYTE_SHIFT" "I" (.int (8 : Int32))) (z0 : nar .char c0 = c0) (z1 : nar .char c1 = c1) (z2 : nar .char c2 = c2) :
    own_M l Z n_35 (Jvm.Cond.code n_35 method_5_code 5 (some (.object "java/lang/String"))) ws ({ frames := 6, cells := 4, slots := 20, locals := 134 } : Room) #[(.int (3 : Int32)), (.int c0), (.int c1), (.int c2), (.int c3)] h0 (Q_rmk_3 Z c0 c1 c2 c3 cs h0 n0) := by
  refine MetFree.of_bodySF (plainFor_of_name pn_3) hisR ?_
  intro p e s m args below meth c s₁ Bd hml0 hP hK
  obtain ⟨rfl, hZ, hh⟩ := hP
  have hx := Bd.exec
  have hby := Bd.bytes
  have hml : c.maxLocals = 5 := hml0
  have hown : s.vm.findClass "com/example/vestline/vestline/format/CsvNamePinLaw" = some m.cls := findClass_of_methodNamed Bd.named
  have hnm := (name_of_methodNamed Bd.named Bd.method).1
  have X0 : Stand p l e ({ frames := 6, cells := 4, slots := 20, locals := 134 } : Room) s m #[(.int (3 : Int32)), (.int c0), (.int c1), (.int c2), (.int c3)] below meth c s₁ [] 0 0 := Stand.of_body Bd
  have e0 : s₁.heap = h0 := by rw [← hh, Bd.state]; rfl
  have N0 := Fr.nil n0
  show Goes p e below (Fin s (Q_rmk_3 Z c0 c1 c2 c3 cs h0 n0) ({ frames := 6, cells := 4, slots := 20, locals := 134 } : Room).cells ({ frames := 6, cells := 4, slots := 20, locals := 134 } : Room).slots) _
  refine Goes.via (S' := s₁.setTop (mkF m 0 #[.val (.int (3 : Int32)), .val (.int c0), .val (.int c1), .val (.int c2), .val (.int c3)] [])) (fun tz kz => castTop (ef_3 m (3 : Int32) c0 c1 c2 c3 ) kz) ?_
  refine Goes.via (S' := s₁.setTop (mkF m 49 #[.val (.int (3 : Int32)), .val (.int c0), .val (.int c1), .val (.int c2), .val (.int c3)] [])) (fun tz kz => ?_) ?_
  · show Steps p.tables e below (s₁.setTop (mkF m 0 #[.val (.int (3 : Int32)), .val (.int c0), .val (.int c1), .val (.int c2), .val (.int c3)] [])) _
    refine XS.iloadN X0.here hx rfl (hb hby d3_0) rfl ?_
    refine XS.iconst X0.here hx rfl (hb hby d3_1) ?_
    refine XS.icmpYes X0.here hx rfl (pc0 := 2) (pc' := 20) rfl (hb hby d3_2) rfl (feq (by first | decide | rfl)).2 (by decide) (by decide) ?_
    refine XS.iloadN X0.here hx rfl (hb hby d3_20) rfl ?_
    refine XS.iconst X0.here hx rfl (hb hby d3_21) ?_
    refine XS.icmpYes X0.here hx rfl (pc0 := 22) (pc' := 44) rfl (hb hby d3_22) rfl (feq (by first | decide | rfl)).2 (by decide) (by decide) ?_
    refine XS.iloadN X0.here hx rfl (hb hby d3_44) rfl ?_
    refine XS.iconst X0.here hx rfl (hb hby d3_45) ?_
    refine XS.icmpNo X0.here hx rfl (hb hby d3_46) rfl (teq (by first | decide | rfl)).2 ?_
    exact kz
  obtain ⟨T1, h1, X1, e1, E1, A1, D1, -, st1⟩ := newO X0 hx hZ hown (w_ hw 11 rfl) (w_ hw 12 rfl) (w_ hw 13 rfl) e0 (g := (mkF m 49 #[.val (.int (3 : Int32)), .val (.int c0), .val (.int c1), .val (.int c2), .val (.int c3)] [])) rfl (hb hby d3_49) (by decide) (by decide)
  obtain ⟨b1, g1⟩ : ∃ z, z = h0.size := ⟨_, rfl⟩
  rw [← g1] at A1 D1 st1
  refine Goes.via st1 ?_
  have FV : Fld Z h1 b1 "java/lang/String" "value" "[B" .null := D1 (Or.inr (w_ hw 40 rfl)) (ty := (.array .byte)) (by decide)
  have FC : Fld Z h1 b1 "java/lang/String" "coder" "B" (.int (0 : Int32)) := D1 (Or.inr (w_ hw 38 rfl)) (ty := .byte) (by decide)
  have K1 := (Keep.refl h0 []).ext E1
  have ga : n0 ≤ b1 := Nat.le_trans Z0 (Nat.le_of_eq g1.symm)
  refine Goes.via (S' := T1.setTop (mkF m 54 #[.val (.int (3 : Int32)), .val (.int c0), .val (.int c1), .val (.int c2), .val (.int c3)] [(.int (3 : Int32)), (.ref b1), (.ref b1)])) (fun tz kz => ?_) ?_
  · show Steps p.tables e below (T1.setTop (mkF m 52 #[.val (.int (3 : Int32)), .val (.int c0), .val (.int c1), .val (.int c2), .val (.int c3)] [(.ref b1)])) _
    refine XS.dup X1.here hx rfl (hb hby d3_52) rfl rfl ?_
    refine XS.iconst X1.here hx rfl (hb hby d3_53) ?_
    exact kz
  obtain ⟨T2, h2, k2, X2, e2, E2, A2, st2⟩ := newP X1 hx hZ (w_ hw 14 rfl) e1 (g := (mkF m 54 #[.val (.int (3 : Int32)), .val (.int c0), .val (.int c1), .val (.int c2), .val (.int c3)] [(.int (3 : Int32)), (.ref b1), (.ref b1)])) rfl (hb hby d3_54) rfl (by decide) (cap := 3) (by decide) (by decide) (by decide) (by decide)
  obtain ⟨b2, g2⟩ : ∃ z, z = h1.size := ⟨_, rfl⟩
  rw [← g2] at A2 st2
  refine Goes.via st2 ?_
  have C2 : Arv Z h2 b2 k2 .char (3 : Int32) [.int 0, .int 0, .int 0] (.int 0) := (Arv.new A2 (by decide)).pad (pad_rep [] (.int 0) 3)
  have K2 := K1.ext E2
  have FV := FV.ext E2
  have FC := FC.ext E2
  have Ea := A1.ext E2
  have nab : b1 ≠ b2 := adr_ne A1.lt g2 (Nat.le_refl _)
  have gc : @LE.le Nat _ h0.size b2 := Nat.le_trans E1.1 (Nat.le_of_eq g2.symm)
  refine Goes.via (S' := T2.setTop (mkF m 59 #[.val (.int (3 : Int32)), .val (.int c0), .val (.int c1), .val (.int c2), .val (.int c3)] [(.int c0), (.int (0 : Int32)), (.ref b2), (.ref b2), (.ref b1), (.ref b1)])) (fun tz kz => ?_) ?_
  · show Steps p.tables e below (T2.setTop (mkF m 56 #[.val (.int (3 : Int32)), .val (.int c0), .val (.int c1), .val (.int c2), .val (.int c3)] [(.ref b2), (.ref b1), (.ref b1)])) _
    refine XS.dup X2.here hx rfl (hb hby d3_56) rfl rfl ?_
    refine XS.iconst X2.here hx rfl (hb hby d3_57) ?_
    refine XS.iloadN X2.here hx rfl (hb hby d3_58) rfl ?_
    exact kz
  obtain ⟨cl3, Ar3, q3, Sz3, Nn3, Hs3, G3⟩ := (id C2)
  obtain ⟨T4, h4, X4, e4, W4, st4⟩ := stC X2 hx hZ e2 Ar3 (j := (0 : Int32)) (inb_of Sz3 ⟨by decide, by decide⟩) (g := (mkF m 59 #[.val (.int (3 : Int32)), .val (.int c0), .val (.int c1), .val (.int c2), .val (.int c3)] [(.int c0), (.int (0 : Int32)), (.ref b2), (.ref b2), (.ref b1), (.ref b1)])) rfl rfl (hb hby d3_59)
  refine Goes.via st4 ?_
  have N4 := Fr.snoc X4 N0 (Nat.le_trans Z0 gc)
  have C4 := Arv.set Ar3 q3 Sz3 Nn3 Hs3 G3 (fits_nar_char _) W4 0 rfl (Nat.le_of_ble_eq_true rfl)
  rw [z0] at C4
  have FV := FV.other W4 (Or.inl nab)
  have FC := FC.other W4 (Or.inl nab)
  have Ea := Ea.wr W4
  have K4 := K2.wr W4 (Or.inr gc)
  refine Goes.via (S' := T4.setTop (mkF m 63 #[.val (.int (3 : Int32)), .val (.int c0), .val (.int c1), .val (.int c2), .val (.int c3)] [(.int c1), (.int (1 : Int32)), (.ref b2), (.ref b2), (.ref b1), (.ref b1)])) (fun tz kz => ?_) ?_
  · show Steps p.tables e below (T4.setTop (mkF m 60 #[.val (.int (3 : Int32)), .val (.int c0), .val (.int c1), .val (.int c2), .val (.int c3)] [(.ref b2), (.ref b1), (.ref b1)])) _
    refine XS.dup X4.here hx rfl (hb hby d3_60) rfl rfl ?_
    refine XS.iconst X4.here hx rfl (hb hby d3_61) ?_
    refine XS.iloadN X4.here hx rfl (hb hby d3_62) rfl ?_
    exact kz
  obtain ⟨cl5, Ar5, q5, Sz5, Nn5, Hs5, G5⟩ := (id C4)
  obtain ⟨T6, h6, X6, e6, W6, st6⟩ := stC X4 hx hZ e4 Ar5 (j := (1 : Int32)) (inb_of Sz5 ⟨by decide, by decide⟩) (g := (mkF m 63 #[.val (.int (3 : Int32)), .val (.int c0), .val (.int c1), .val (.int c2), .val (.int c3)] [(.int c1), (.int (1 : Int32)), (.ref b2), (.ref b2), (.ref b1), (.ref b1)])) rfl rfl (hb hby d3_63)
  refine Goes.via st6 ?_
  have N6 := Fr.snoc X6 N4 (Nat.le_trans Z0 gc)
  have C6 := Arv.set Ar5 q5 Sz5 Nn5 Hs5 G5 (fits_nar_char _) W6 1 rfl (Nat.le_of_ble_eq_true rfl)
  rw [z1] at C6
  have FV := FV.other W6 (Or.inl nab)
  have FC := FC.other W6 (Or.inl nab)
  have Ea := Ea.wr W6
  have K6 := K4.wr W6 (Or.inr gc)
  refine Goes.via (S' := T6.setTop (mkF m 67 #[.val (.int (3 : Int32)), .val (.int c0), .val (.int c1), .val (.int c2), .val (.int c3)] [(.int c2), (.int (2 : Int32)), (.ref b2), (.ref b2), (.ref b1), (.ref b1)])) (fun tz kz => ?_) ?_
  · show Steps p.tables e below (T6.setTop (mkF m 64 #[.val (.int (3 : Int32)), .val (.int c0), .val (.int c1), .val (.int c2), .val (.int c3)] [(.ref b2), (.ref b1), (.ref b1)])) _
    refine XS.dup X6.here hx rfl (hb hby d3_64) rfl rfl ?_
    refine XS.iconst X6.here hx rfl (hb hby d3_65) ?_
    refine XS.iloadN X6.here hx rfl (hb hby d3_66) rfl ?_
    exact kz
  obtain ⟨cl7, Ar7, q7, Sz7, Nn7, Hs7, G7⟩ := (id C6)
  obtain ⟨T8, h8, X8, e8, W8, st8⟩ := stC X6 hx hZ e6 Ar7 (j := (2 : Int32)) (inb_of Sz7 ⟨by decide, by decide⟩) (g := (mkF m 67 #[.val (.int (3 : Int32)), .val (.int c0), .val (.int c1), .val (.int c2), .val (.int c3)] [(.int c2), (.int (2 : Int32)), (.ref b2), (.ref b2), (.ref b1), (.ref b1)])) rfl rfl (hb hby d3_67)
  refine Goes.via st8 ?_
  have N8 := Fr.snoc X8 N6 (Nat.le_trans Z0 gc)
  have C8 := Arv.set Ar7 q7 Sz7 Nn7 Hs7 G7 (fits_nar_char _) W8 2 rfl (Nat.le_of_ble_eq_true rfl)
  rw [z2] at C8
  have FV := FV.other W8 (Or.inl nab)
  have FC := FC.other W8 (Or.inl nab)
  have Ea := Ea.wr W8
  have K8 := K6.wr W8 (Or.inr gc)
  obtain ⟨_, _, ⟨T9, L9, k9, n9⟩, -, X9, ⟨Lc9, hQ9, l9, y9, z9⟩, st9⟩ := X8.specialBack hx (y := n_9) rfl hown (mvT hZ (w_ hw 15 rfl)) (mvT hZ (w_ hw 16 rfl)) (mvT hZ (w_ hw 17 rfl)) (by decide) (backOf (W := 1) (rn1_3 l Z a0 hw [] b1 b2 cs k2 c0 c1 c2 h8 n0 (Nat.le_trans Z0 K8.1) SC hcs (O0.keep K8 all0) SA SH SL FV FC Ea ga C8 z0 z1 z2) hZ (w_ hw 17 rfl) (w_ hw 13 rfl) (by decide) (by decide)) (g := (mkF m 68 #[.val (.int (3 : Int32)), .val (.int c0), .val (.int c1), .val (.int c2), .val (.int c3)] [(.ref b2), (.ref b1), (.ref b1)])) rfl (by rw [hml]; rfl) (Steps.refl _) (a := b1) (argsL := [(.ref b2)]) (rest := [(.ref b1)]) (lenOf pd_21 rfl) rfl (by show 2 * 0 + _ ≤ _; exact Nat.le_of_eq rfl) (hb hby d3_68) (fun _ _ => ⟨rfl, e8, (by decide : 2 + 2 ≤ _), (by decide : 7 + 9 ≤ _)⟩)
  dsimp only [Pt.U, Pt.locs, Pt.cells, Pt.slots] at X9 l9 y9 z9 st9 hQ9
  subst l9 y9 z9
  obtain ⟨rfl, N9, K9, vb, kb, S9⟩ := hQ9
  have Nf9 := Fr.app N8 N9
  refine Goes.via (fun _ kz => st9.trans kz) ?_
  have Kf := K8.trans K9 (allS (Or.inr (Nat.le_of_eq g1.symm)) all0)
  exact Goes.retO X9 hx Bd.notSynchronized Bd.returns rfl (Or.inr (Or.inr (Or.inr (Or.inr ⟨rfl, rfl, rfl⟩)))) (hb hby d3_71) (nb_ rfl) (nb_ rfl) ⟨b1, vb, kb, rfl, Nf9, Kf, S9⟩
def Q_rmk_4 (Z : State) (c0 : Int32) (c1 : Int32) (c2 : Int32) (c3 : Int32) (cs : Int32) (h0 : Heap) (n0 : Nat) : Option Value → Heap → List Loc → Prop := fun v h L => ∃ a b k, v = some (.ref a) ∧ Fr n0 L ∧ Keep h0 h [] ∧ (((¬ (255 : Int32) < c0 ∧ ¬ (255 : Int32) < c1 ∧ ¬ (255 : Int32) < c2 ∧ ¬ (255 : Int32) < c3) ∧ own_Str Z h a b k (4 : Int32) [.int (own_by c0), .int (own_by c1), .int (own_by c2), .int (own_by c3)]) ∨ own_StU Z h a b k (8 : Int32) [.int (own_lo c0), .int (own_hi c0), .int (own_lo c1), .int (own_hi c1), .int (own_lo c2), .int (own_hi c2), .int (own_lo c3), .int (own_hi c3)])
theorem rmk_4 (l : Launch) (Z : State) (a0 : Array Value) (hw : ∀ d ∈ tables_1, d.before a0 Z = true) (ws : List Jvm.Cond) (c0 : Int32) (c1 : Int32) (c2 : Int32) (c3 : Int32) (cs : Int32) (h0 : Heap) (n0 : Nat) (Z0 : n0 ≤ h0.size) (SC : Sta Z Z.heap "java/lang/String" "COMPACT_STRINGS" "Z" (.int cs)) (hcs : ¬ cs = (0 : Int32)) (O0 : Old Z n0 h0) (SA : Sta Z Z.heap "java/lang/StringUTF16" "$assertionsDisabled" "Z" (.int (1 : Int32))) (SH : Sta Z Z.heap "java/lang/StringUTF16" "HI_BYTE_SHIFT" "I" (.int (0 : Int32))) (SL : Sta Z Z.heap "java/lang/StringUTF16" "LO_BYTE_SHIFT" "I" (.int (8 : Int32))) (z0 : nar .char c0 = c0) (z1 : nar .char c1 = c1) (z2 : nar .char c2 = c2) (z3 : nar .char c3 = c3) :
    own_M l Z n_35 (Jvm.Cond.code n_35 method_5_code 5 (some (.object "java/lang/String"))) ws ({ frames := 6, cells := 4, slots := 20, locals := 134 } : Room) #[(.int (4 : Int32)), (.int c0), (.int c1), (.int c2), (.int c3)] h0 (Q_rmk_4 Z c0 c1 c2 c3 cs h0 n0) := by
  refine MetFree.of_bodySF (plainFor_of_name pn_3) hisR ?_
  intro p e s m args below meth c s₁ Bd hml0 hP hK
  obtain ⟨rfl, hZ, hh⟩ := hP
  have hx := Bd.exec
  have hby := Bd.bytes
  have hml : c.maxLocals = 5 := hml0
  have hown : s.vm.findClass "com/example/vestline/vestline/format/CsvNamePinLaw" = some m.cls := findClass_of_methodNamed Bd.named
  have hnm := (name_of_methodNamed Bd.named Bd.method).1
  have X0 : Stand p l e ({ frames := 6, cells := 4, slots := 20, locals := 134 } : Room) s m #[(.int (4 : Int32)), (.int c0), (.int c1), (.int c2), (.int c3)] below meth c s₁ [] 0 0 := Stand.of_body Bd
  have e0 : s₁.heap = h0 := by rw [← hh, Bd.state]; rfl
  have N0 := Fr.nil n0
  show Goes p e below (Fin s (Q_rmk_4 Z c0 c1 c2 c3 cs h0 n0) ({ frames := 6, cells := 4, slots := 20, locals := 134 } : Room).cells ({ frames := 6, cells := 4, slots := 20, locals := 134 } : Room).slots) _
  refine Goes.via (S' := s₁.setTop (mkF m 0 #[.val (.int (4 : Int32)), .val (.int c0), .val (.int c1), .val (.int c2), .val (.int c3)] [])) (fun tz kz => castTop (ef_3 m (4 : Int32) c0 c1 c2 c3 ) kz) ?_
  refine Goes.via (S' := s₁.setTop (mkF m 72 #[.val (.int (4 : Int32)), .val (.int c0), .val (.int c1), .val (.int c2), .val (.int c3)] [])) (fun tz kz => ?_) ?_
  · show Steps p.tables e below (s₁.setTop (mkF m 0 #[.val (.int (4 : Int32)), .val (.int c0), .val (.int c1), .val (.int c2), .val (.int c3)] [])) _
    refine XS.iloadN X0.here hx rfl (hb hby d3_0) rfl ?_
    refine XS.iconst X0.here hx rfl (hb hby d3_1) ?_
    refine XS.icmpYes X0.here hx rfl (pc0 := 2) (pc' := 20) rfl (hb hby d3_2) rfl (feq (by first | decide | rfl)).2 (by decide) (by decide) ?_
    refine XS.iloadN X0.here hx rfl (hb hby d3_20) rfl ?_
    refine XS.iconst X0.here hx rfl (hb hby d3_21) ?_
    refine XS.icmpYes X0.here hx rfl (pc0 := 22) (pc' := 44) rfl (hb hby d3_22) rfl (feq (by first | decide | rfl)).2 (by decide) (by decide) ?_
    refine XS.iloadN X0.here hx rfl (hb hby d3_44) rfl ?_
    refine XS.iconst X0.here hx rfl (hb hby d3_45) ?_
    refine XS.icmpYes X0.here hx rfl (pc0 := 46) (pc' := 72) rfl (hb hby d3_46) rfl (feq (by first | decide | rfl)).2 (by decide) (by decide) ?_
    exact kz
  obtain ⟨T1, h1, X1, e1, E1, A1, D1, -, st1⟩ := newO X0 hx hZ hown (w_ hw 11 rfl) (w_ hw 12 rfl) (w_ hw 13 rfl) e0 (g := (mkF m 72 #[.val (.int (4 : Int32)), .val (.int c0), .val (.int c1), .val (.int c2), .val (.int c3)] [])) rfl (hb hby d3_72) (by decide) (by decide)
  obtain ⟨b1, g1⟩ : ∃ z, z = h0.size := ⟨_, rfl⟩
  rw [← g1] at A1 D1 st1
  refine Goes.via st1 ?_
  have FV : Fld Z h1 b1 "java/lang/String" "value" "[B" .null := D1 (Or.inr (w_ hw 40 rfl)) (ty := (.array .byte)) (by decide)
  have FC : Fld Z h1 b1 "java/lang/String" "coder" "B" (.int (0 : Int32)) := D1 (Or.inr (w_ hw 38 rfl)) (ty := .byte) (by decide)
  have K1 := (Keep.refl h0 []).ext E1
  have ga : n0 ≤ b1 := Nat.le_trans Z0 (Nat.le_of_eq g1.symm)
  refine Goes.via (S' := T1.setTop (mkF m 77 #[.val (.int (4 : Int32)), .val (.int c0), .val (.int c1), .val (.int c2), .val (.int c3)] [(.int (4 : Int32)), (.ref b1), (.ref b1)])) (fun tz kz => ?_) ?_
  · show Steps p.tables e below (T1.setTop (mkF m 75 #[.val (.int (4 : Int32)), .val (.int c0), .val (.int c1), .val (.int c2), .val (.int c3)] [(.ref b1)])) _
    refine XS.dup X1.here hx rfl (hb hby d3_75) rfl rfl ?_
    refine XS.iconst X1.here hx rfl (hb hby d3_76) ?_
    exact kz
  obtain ⟨T2, h2, k2, X2, e2, E2, A2, st2⟩ := newP X1 hx hZ (w_ hw 14 rfl) e1 (g := (mkF m 77 #[.val (.int (4 : Int32)), .val (.int c0), .val (.int c1), .val (.int c2), .val (.int c3)] [(.int (4 : Int32)), (.ref b1), (.ref b1)])) rfl (hb hby d3_77) rfl (by decide) (cap := 4) (by decide) (by decide) (by decide) (by decide)
  obtain ⟨b2, g2⟩ : ∃ z, z = h1.size := ⟨_, rfl⟩
  rw [← g2] at A2 st2
  refine Goes.via st2 ?_
  have C2 : Arv Z h2 b2 k2 .char (4 : Int32) [.int 0, .int 0, .int 0, .int 0] (.int 0) := (Arv.new A2 (by decide)).pad (pad_rep [] (.int 0) 4)
  have K2 := K1.ext E2
  have FV := FV.ext E2
  have FC := FC.ext E2
  have Ea := A1.ext E2
  have nab : b1 ≠ b2 := adr_ne A1.lt g2 (Nat.le_refl _)
  have gc : @LE.le Nat _ h0.size b2 := Nat.le_trans E1.1 (Nat.le_of_eq g2.symm)
  refine Goes.via (S' := T2.setTop (mkF m 82 #[.val (.int (4 : Int32)), .val (.int c0), .val (.int c1), .val (.int c2), .val (.int c3)] [(.int c0), (.int (0 : Int32)), (.ref b2), (.ref b2), (.ref b1), (.ref b1)])) (fun tz kz => ?_) ?_
  · show Steps p.tables e below (T2.setTop (mkF m 79 #[.val (.int (4 : Int32)), .val (.int c0), .val (.int c1), .val (.int c2), .val (.int c3)] [(.ref b2), (.ref b1), (.ref b1)])) _
    refine XS.dup X2.here hx rfl (hb hby d3_79) rfl rfl ?_
    refine XS.iconst X2.here hx rfl (hb hby d3_80) ?_
    refine XS.iloadN X2.here hx rfl (hb hby d3_81) rfl ?_
    exact kz
  obtain ⟨cl3, Ar3, q3, Sz3, Nn3, Hs3, G3⟩ := (id C2)
  obtain ⟨T4, h4, X4, e4, W4, st4⟩ := stC X2 hx hZ e2 Ar3 (j := (0 : Int32)) (inb_of Sz3 ⟨by decide, by decide⟩) (g := (mkF m 82 #[.val (.int (4 : Int32)), .val (.int c0), .val (.int c1), .val (.int c2), .val (.int c3)] [(.int c0), (.int (0 : Int32)), (.ref b2), (.ref b2), (.ref b1), (.ref b1)])) rfl rfl (hb hby d3_82)
  refine Goes.via st4 ?_
  have N4 := Fr.snoc X4 N0 (Nat.le_trans Z0 gc)
  have C4 := Arv.set Ar3 q3 Sz3 Nn3 Hs3 G3 (fits_nar_char _) W4 0 rfl (Nat.le_of_ble_eq_true rfl)
  rw [z0] at C4
  have FV := FV.other W4 (Or.inl nab)
  have FC := FC.other W4 (Or.inl nab)
  have Ea := Ea.wr W4
  have K4 := K2.wr W4 (Or.inr gc)
  refine Goes.via (S' := T4.setTop (mkF m 86 #[.val (.int (4 : Int32)), .val (.int c0), .val (.int c1), .val (.int c2), .val (.int c3)] [(.int c1), (.int (1 : Int32)), (.ref b2), (.ref b2), (.ref b1), (.ref b1)])) (fun tz kz => ?_) ?_
  · show Steps p.tables e below (T4.setTop (mkF m 83 #[.val (.int (4 : Int32)), .val (.int c0), .val (.int c1), .val (.int c2), .val (.int c3)] [(.ref b2), (.ref b1), (.ref b1)])) _
    refine XS.dup X4.here hx rfl (hb hby d3_83) rfl rfl ?_
    refine XS.iconst X4.here hx rfl (hb hby d3_84) ?_
    refine XS.iloadN X4.here hx rfl (hb hby d3_85) rfl ?_
    exact kz
  obtain ⟨cl5, Ar5, q5, Sz5, Nn5, Hs5, G5⟩ := (id C4)
  obtain ⟨T6, h6, X6, e6, W6, st6⟩ := stC X4 hx hZ e4 Ar5 (j := (1 : Int32)) (inb_of Sz5 ⟨by decide, by decide⟩) (g := (mkF m 86 #[.val (.int (4 : Int32)), .val (.int c0), .val (.int c1), .val (.int c2), .val (.int c3)] [(.int c1), (.int (1 : Int32)), (.ref b2), (.ref b2), (.ref b1), (.ref b1)])) rfl rfl (hb hby d3_86)
  refine Goes.via st6 ?_
  have N6 := Fr.snoc X6 N4 (Nat.le_trans Z0 gc)
  have C6 := Arv.set Ar5 q5 Sz5 Nn5 Hs5 G5 (fits_nar_char _) W6 1 rfl (Nat.le_of_ble_eq_true rfl)
  rw [z1] at C6
  have FV := FV.other W6 (Or.inl nab)
  have FC := FC.other W6 (Or.inl nab)
  have Ea := Ea.wr W6
  have K6 := K4.wr W6 (Or.inr gc)
  refine Goes.via (S' := T6.setTop (mkF m 90 #[.val (.int (4 : Int32)), .val (.int c0), .val (.int c1), .val (.int c2), .val (.int c3)] [(.int c2), (.int (2 : Int32)), (.ref b2), (.ref b2), (.ref b1), (.ref b1)])) (fun tz kz => ?_) ?_
  · show Steps p.tables e below (T6.setTop (mkF m 87 #[.val (.int (4 : Int32)), .val (.int c0), .val (.int c1), .val (.int c2), .val (.int c3)] [(.ref b2), (.ref b1), (.ref b1)])) _
    refine XS.dup X6.here hx rfl (hb hby d3_87) rfl rfl ?_
    refine XS.iconst X6.here hx rfl (hb hby d3_88) ?_
    refine XS.iloadN X6.here hx rfl (hb hby d3_89) rfl ?_
    exact kz
  obtain ⟨cl7, Ar7, q7, Sz7, Nn7, Hs7, G7⟩ := (id C6)
  obtain ⟨T8, h8, X8, e8, W8, st8⟩ := stC X6 hx hZ e6 Ar7 (j := (2 : Int32)) (inb_of Sz7 ⟨by decide, by decide⟩) (g := (mkF m 90 #[.val (.int (4 : Int32)), .val (.int c0), .val (.int c1), .val (.int c2), .val (.int c3)] [(.int c2), (.int (2 : Int32)), (.ref b2), (.ref b2), (.ref b1), (.ref b1)])) rfl rfl (hb hby d3_90)
  refine Goes.via st8 ?_
  have N8 := Fr.snoc X8 N6 (Nat.le_trans Z0 gc)
  have C8 := Arv.set Ar7 q7 Sz7 Nn7 Hs7 G7 (fits_nar_char _) W8 2 rfl (Nat.le_of_ble_eq_true rfl)
  rw [z2] at C8
  have FV := FV.other W8 (Or.inl nab)
  have FC := FC.other W8 (Or.inl nab)
  have Ea := Ea.wr W8
  have K8 := K6.wr W8 (Or.inr gc)
  refine Goes.via (S' := T8.setTop (mkF m 95 #[.val (.int (4 : Int32)), .val (.int c0), .val (.int c1), .val (.int c2), .val (.int c3)] [(.int c3), (.int (3 : Int32)), (.ref b2), (.ref b2), (.ref b1), (.ref b1)])) (fun tz kz => ?_) ?_
  · show Steps p.tables e below (T8.setTop (mkF m 91 #[.val (.int (4 : Int32)), .val (.int c0), .val (.int c1), .val (.int c2), .val (.int c3)] [(.ref b2), (.ref b1), (.ref b1)])) _
    refine XS.dup X8.here hx rfl (hb hby d3_91) rfl rfl ?_
    refine XS.iconst X8.here hx rfl (hb hby d3_92) ?_
    refine XS.iload X8.here hx rfl (hb hby d3_93) rfl ?_
    exact kz
  obtain ⟨cl9, Ar9, q9, Sz9, Nn9, Hs9, G9⟩ := (id C8)
  obtain ⟨T10, h10, X10, e10, W10, st10⟩ := stC X8 hx hZ e8 Ar9 (j := (3 : Int32)) (inb_of Sz9 ⟨by decide, by decide⟩) (g := (mkF m 95 #[.val (.int (4 : Int32)), .val (.int c0), .val (.int c1), .val (.int c2), .val (.int c3)] [(.int c3), (.int (3 : Int32)), (.ref b2), (.ref b2), (.ref b1), (.ref b1)])) rfl rfl (hb hby d3_95)
  refine Goes.via st10 ?_
  have N10 := Fr.snoc X10 N8 (Nat.le_trans Z0 gc)
  have C10 := Arv.set Ar9 q9 Sz9 Nn9 Hs9 G9 (fits_nar_char _) W10 3 rfl (Nat.le_of_ble_eq_true rfl)
  rw [z3] at C10
  have FV := FV.other W10 (Or.inl nab)
  have FC := FC.other W10 (Or.inl nab)
  have Ea := Ea.wr W10
  have K10 := K8.wr W10 (Or.inr gc)
  obtain ⟨_, _, ⟨T11, L11, k11, n11⟩, -, X11, ⟨Lc11, hQ11, l11, y11, z11⟩, st11⟩ := X10.specialBack hx (y := n_9) rfl hown (mvT hZ (w_ hw 15 rfl)) (mvT hZ (w_ hw 16 rfl)) (mvT hZ (w_ hw 17 rfl)) (by decide) (backOf (W := 1) (rn1_4 l Z a0 hw [] b1 b2 cs k2 c0 c1 c2 c3 h10 n0 (Nat.le_trans Z0 K10.1) SC hcs (O0.keep K10 all0) SA SH SL FV FC Ea ga C10 z0 z1 z2 z3) hZ (w_ hw 17 rfl) (w_ hw 13 rfl) (by decide) (by decide)) (g := (mkF m 96 #[.val (.int (4 : Int32)), .val (.int c0), .val (.int c1), .val (.int c2), .val (.int c3)] [(.ref b2), (.ref b1), (.ref b1)])) rfl (by rw [hml]; rfl) (Steps.refl _) (a := b1) (argsL := [(.ref b2)]) (rest := [(.ref b1)]) (lenOf pd_21 rfl) rfl (by show 2 * 0 + _ ≤ _; exact Nat.le_of_eq rfl) (hb hby d3_96) (fun _ _ => ⟨rfl, e10, (by decide : 2 + 2 ≤ _), (by decide : 8 + 12 ≤ _)⟩)
  dsimp only [Pt.U, Pt.locs, Pt.cells, Pt.slots] at X11 l11 y11 z11 st11 hQ11
  subst l11 y11 z11
  obtain ⟨rfl, N11, K11, vb, kb, S11⟩ := hQ11
  have Nf11 := Fr.app N10 N11
  refine Goes.via (fun _ kz => st11.trans kz) ?_
  have Kf := K10.trans K11 (allS (Or.inr (Nat.le_of_eq g1.symm)) all0)
  exact Goes.retO X11 hx Bd.notSynchronized Bd.returns rfl (Or.inr (Or.inr (Or.inr (Or.inr ⟨rfl, rfl, rfl⟩)))) (hb hby d3_99) (nb_ rfl) (nb_ rfl) ⟨b1, vb, kb, rfl, Nf11, Kf, S11⟩
theorem pn_0 : plainName "com/example/vestline/vestline/format/CsvNamePinLaw" = true := by first | (simp [plainName, overriddenIn]; done) | decide +kernel
theorem ef_0 (m : MethodId) (x0 : Int32) (x1 : Int32) (x2 : Int32) : entryFrame m #[(.int x0), (.int x1), (.int x2)] maxLocals = mkF m 0 #[.val (.int x0), .val (.int x1), .val (.int x2), .unset, .unset, .unset, .unset, .unset, .unset, .unset, .unset] [] := by first | (simp [entryFrame, mkF, argsToLocals, Value.category, maxLocals]; done) | rfl
def Q_rm0 (Z : State) (p1 : Int32) (p2 : Int32) (p3 : Int32) (cs : Int32) (fv : Value) (h0 : Heap) (n0 : Nat) : Option Value → Heap → List Loc → Prop := fun v h L => v = some (.int 1) ∧ Fr n0 L
theorem rm0 (l : Launch) (Z : State) (a0 : Array Value) (hw : ∀ d ∈ tables_1, d.before a0 Z = true) (ws : List Jvm.Cond) (p1 : Int32) (p2 : Int32) (p3 : Int32) (cs : Int32) (fv : Value) (h0 : Heap) (n0 : Nat) (Z0 : n0 ≤ h0.size) (SC : Sta Z Z.heap "java/lang/String" "COMPACT_STRINGS" "Z" (.int cs)) (hcs : ¬ cs = (0 : Int32)) (O0 : Old Z n0 h0) (SF : Sta Z Z.heap "jdk/internal/util/Preconditions" "SIOOBE_FORMATTER" "Ljava/util/function/BiFunction;" fv) (hfv : fv.isRef = true) (SA : Sta Z Z.heap "java/lang/StringUTF16" "$assertionsDisabled" "Z" (.int (1 : Int32))) (SH : Sta Z Z.heap "java/lang/StringUTF16" "HI_BYTE_SHIFT" "I" (.int (0 : Int32))) (SL : Sta Z Z.heap "java/lang/StringUTF16" "LO_BYTE_SHIFT" "I" (.int (8 : Int32))) :
    MetFree l x (head1 (Jvm.Cond.code x code maxLocals ret :: ws) room_1) (fun a U => a = #[(.int p1), (.int p2), (.int p3)] ∧ Z.Warmed39 U.vm ∧ U.heap = h0 ∧ CHv Z consts_1 U.vm h0) (fun _ _ _ _ _ => True) (fun _ U oo U' => ∃ vv LL, oo = .returned vv ∧ (Q_rm0 Z p1 p2 p3 cs fv h0 n0) vv U'.heap LL ∧ CHr Z consts_1 U.vm U.heap U'.vm U'.heap ∧ ReturnedEndW U oo U' LL room_1.cells room_1.slots) := by
  refine MetFree.of_bodySF (plainFor_of_name pn_0) hisR ?_
  intro p e s m args below meth c s₁ Bd hml0 hP hK
  obtain ⟨rfl, hZ, hh, hH⟩ := hP
  have hx := Bd.exec
  have hby := Bd.bytes
  have hml : c.maxLocals = 11 := hml0
  have hown : s.vm.findClass "com/example/vestline/vestline/format/CsvNamePinLaw" = some m.cls := findClass_of_methodNamed Bd.named
  have hnm := (name_of_methodNamed Bd.named Bd.method).1
  have X0 : Stand p l e room_1 s m #[(.int p1), (.int p2), (.int p3)] below meth c s₁ [] 0 0 := Stand.of_body Bd
  have e0 : s₁.heap = h0 := by rw [← hh, Bd.state]; rfl
  have N0 := Fr.nil n0
  have hC0 : CHr Z consts_1 s.vm s.heap s.vm h0 := by rw [hh]; exact CHr.refl hH
  have hEL := own_EW hw
  show Goes p e below (FinH s Z consts_1 (Q_rm0 Z p1 p2 p3 cs fv h0 n0) room_1.cells room_1.slots) _
  refine Goes.via (S' := s₁.setTop (mkF m 0 #[.val (.int p1), .val (.int p2), .val (.int p3), .unset, .unset, .unset, .unset, .unset, .unset, .unset, .unset] [])) (fun tz kz => castTop (ef_0 m p1 p2 p3 ) kz) ?_
  refine Goes.via (S' := s₁.setTop (mkF m 9 #[.val (.int p1), .val (.int p2), .val (.int p3), .val (.int ((1 : Int32) + (p3 &&& (3 : Int32)))), .unset, .unset, .unset, .unset, .unset, .unset, .unset] [(.int (p3 &&& (4 : Int32)))])) (fun tz kz => ?_) ?_
  · show Steps p.tables e below (s₁.setTop (mkF m 0 #[.val (.int p1), .val (.int p2), .val (.int p3), .unset, .unset, .unset, .unset, .unset, .unset, .unset, .unset] [])) _
    refine XS.iconst X0.here hx rfl (hb hby at_0) ?_
    refine XS.iloadN X0.here hx rfl (hb hby at_1) rfl ?_
    refine XS.iconst X0.here hx rfl (hb hby at_2) ?_
    refine XS.iand X0.here hx rfl (hb hby at_3) rfl ?_
    refine XS.iadd X0.here hx rfl (hb hby at_4) rfl ?_
    refine XS.istoreN X0.here hx rfl (hb hby at_5) rfl (l' := #[.val (.int p1), .val (.int p2), .val (.int p3), .val (.int ((1 : Int32) + (p3 &&& (3 : Int32)))), .unset, .unset, .unset, .unset, .unset, .unset, .unset]) rfl ?_
    refine XS.iloadN X0.here hx rfl (hb hby at_6) rfl ?_
    refine XS.iconst X0.here hx rfl (hb hby at_7) ?_
    refine XS.iand X0.here hx rfl (hb hby at_8) rfl ?_
    exact kz
  obtain ⟨r2, hr2⟩ : ∃ zz_ : Int32, zz_ = (if (p3 &&& (4 : Int32)) = (0 : Int32) then (65535 : Int32) else (255 : Int32)) := ⟨_, rfl⟩
  have j9_3 : ∀ t, Steps p.tables e below (s₁.setTop (mkF m 20 #[.val (.int p1), .val (.int p2), .val (.int p3), .val (.int ((1 : Int32) + (p3 &&& (3 : Int32)))), .unset, .unset, .unset, .unset, .unset, .unset, .unset] [(.int r2)])) t → Steps p.tables e below (s₁.setTop (mkF m 9 #[.val (.int p1), .val (.int p2), .val (.int p3), .val (.int ((1 : Int32) + (p3 &&& (3 : Int32)))), .unset, .unset, .unset, .unset, .unset, .unset, .unset] [(.int (p3 &&& (4 : Int32)))])) t := by
    intro tz kz
    by_cases hc9_1 : (p3 &&& (4 : Int32)) = (0 : Int32)
    · rw [if_pos hc9_1] at hr2
      show Steps p.tables e below (s₁.setTop (mkF m 9 #[.val (.int p1), .val (.int p2), .val (.int p3), .val (.int ((1 : Int32) + (p3 &&& (3 : Int32)))), .unset, .unset, .unset, .unset, .unset, .unset, .unset] [(.int (p3 &&& (4 : Int32)))])) _
      refine XS.ifYes X0.here hx rfl (pc0 := 9) (pc' := 18) rfl (hb hby at_9) rfl ((if0 _ _).trans (teq hc9_1).1) (by decide) (by decide) ?_
      refine X0.ldcInt hx hown (mvT hZ (w_ hw 0 rfl)) (g := (mkF m 18 #[.val (.int p1), .val (.int p2), .val (.int p3), .val (.int ((1 : Int32) + (p3 &&& (3 : Int32)))), .unset, .unset, .unset, .unset, .unset, .unset, .unset] [])) rfl (hb hby at_18) _ ?_
      subst hr2
      exact kz
    · rw [if_neg hc9_1] at hr2
      show Steps p.tables e below (s₁.setTop (mkF m 9 #[.val (.int p1), .val (.int p2), .val (.int p3), .val (.int ((1 : Int32) + (p3 &&& (3 : Int32)))), .unset, .unset, .unset, .unset, .unset, .unset, .unset] [(.int (p3 &&& (4 : Int32)))])) _
      refine XS.ifNo X0.here hx rfl (hb hby at_9) rfl ((if0 _ _).trans (feq hc9_1).1) ?_
      refine XS.sipush X0.here hx rfl (hb hby at_12) ?_
      refine XS.goto X0.here hx rfl (pc0 := 15) (pc' := 20) rfl (hb hby at_15) (by decide) (by decide) ?_
      subst hr2
      exact kz
  refine Goes.via j9_3 ?_
  refine Goes.via (S' := s₁.setTop (mkF m 58 #[.val (.int p1), .val (.int p2), .val (.int p3), .val (.int ((1 : Int32) + (p3 &&& (3 : Int32)))), .val (.int r2), .val (.int ((p1 &&& r2).toUInt32.toUInt16.toUInt32.toInt32)), .val (.int ((((p1.toUInt32 >>> ((16 : Int32) &&& 31).toUInt32).toInt32) &&& r2).toUInt32.toUInt16.toUInt32.toInt32)), .val (.int ((p2 &&& r2).toUInt32.toUInt16.toUInt32.toInt32)), .val (.int ((((p2.toUInt32 >>> ((16 : Int32) &&& 31).toUInt32).toInt32) &&& r2).toUInt32.toUInt16.toUInt32.toInt32)), .unset, .unset] [(.int ((p1 &&& r2).toUInt32.toUInt16.toUInt32.toInt32))])) (fun tz kz => ?_) ?_
  · show Steps p.tables e below (s₁.setTop (mkF m 20 #[.val (.int p1), .val (.int p2), .val (.int p3), .val (.int ((1 : Int32) + (p3 &&& (3 : Int32)))), .unset, .unset, .unset, .unset, .unset, .unset, .unset] [(.int r2)])) _
    refine XS.istore X0.here hx rfl (hb hby at_20) rfl (l' := #[.val (.int p1), .val (.int p2), .val (.int p3), .val (.int ((1 : Int32) + (p3 &&& (3 : Int32)))), .val (.int r2), .unset, .unset, .unset, .unset, .unset, .unset]) rfl ?_
    refine XS.iloadN X0.here hx rfl (hb hby at_22) rfl ?_
    refine XS.iload X0.here hx rfl (hb hby at_23) rfl ?_
    refine XS.iand X0.here hx rfl (hb hby at_25) rfl ?_
    refine XS.i2c X0.here hx rfl (hb hby at_26) rfl ?_
    refine XS.istore X0.here hx rfl (hb hby at_27) rfl (l' := #[.val (.int p1), .val (.int p2), .val (.int p3), .val (.int ((1 : Int32) + (p3 &&& (3 : Int32)))), .val (.int r2), .val (.int ((p1 &&& r2).toUInt32.toUInt16.toUInt32.toInt32)), .unset, .unset, .unset, .unset, .unset]) rfl ?_
    refine XS.iloadN X0.here hx rfl (hb hby at_29) rfl ?_
    refine XS.bipush X0.here hx rfl (hb hby at_30) ?_
    refine XS.iushr X0.here hx rfl (hb hby at_32) rfl ?_
    refine XS.iload X0.here hx rfl (hb hby at_33) rfl ?_
    refine XS.iand X0.here hx rfl (hb hby at_35) rfl ?_
    refine XS.i2c X0.here hx rfl (hb hby at_36) rfl ?_
    show Steps p.tables e below (s₁.setTop (mkF m 37 #[.val (.int p1), .val (.int p2), .val (.int p3), .val (.int ((1 : Int32) + (p3 &&& (3 : Int32)))), .val (.int r2), .val (.int ((p1 &&& r2).toUInt32.toUInt16.toUInt32.toInt32)), .unset, .unset, .unset, .unset, .unset] [(.int ((((p1.toUInt32 >>> ((16 : Int32) &&& 31).toUInt32).toInt32) &&& r2).toUInt32.toUInt16.toUInt32.toInt32))])) _
    refine XS.istore X0.here hx rfl (hb hby at_37) rfl (l' := #[.val (.int p1), .val (.int p2), .val (.int p3), .val (.int ((1 : Int32) + (p3 &&& (3 : Int32)))), .val (.int r2), .val (.int ((p1 &&& r2).toUInt32.toUInt16.toUInt32.toInt32)), .val (.int ((((p1.toUInt32 >>> ((16 : Int32) &&& 31).toUInt32).toInt32) &&& r2).toUInt32.toUInt16.toUInt32.toInt32)), .unset, .unset, .unset, .unset]) rfl ?_
    refine XS.iloadN X0.here hx rfl (hb hby at_39) rfl ?_
    refine XS.iload X0.here hx rfl (hb hby at_40) rfl ?_
    refine XS.iand X0.here hx rfl (hb hby at_42) rfl ?_
    refine XS.i2c X0.here hx rfl (hb hby at_43) rfl ?_
    refine XS.istore X0.here hx rfl (hb hby at_44) rfl (l' := #[.val (.int p1), .val (.int p2), .val (.int p3), .val (.int ((1 : Int32) + (p3 &&& (3 : Int32)))), .val (.int r2), .val (.int ((p1 &&& r2).toUInt32.toUInt16.toUInt32.toInt32)), .val (.int ((((p1.toUInt32 >>> ((16 : Int32) &&& 31).toUInt32).toInt32) &&& r2).toUInt32.toUInt16.toUInt32.toInt32)), .val (.int ((p2 &&& r2).toUInt32.toUInt16.toUInt32.toInt32)), .unset, .unset, .unset]) rfl ?_
    refine XS.iloadN X0.here hx rfl (hb hby at_46) rfl ?_
    refine XS.bipush X0.here hx rfl (hb hby at_47) ?_
    refine XS.iushr X0.here hx rfl (hb hby at_49) rfl ?_
    refine XS.iload X0.here hx rfl (hb hby at_50) rfl ?_
    refine XS.iand X0.here hx rfl (hb hby at_52) rfl ?_
    refine XS.i2c X0.here hx rfl (hb hby at_53) rfl ?_
    show Steps p.tables e below (s₁.setTop (mkF m 54 #[.val (.int p1), .val (.int p2), .val (.int p3), .val (.int ((1 : Int32) + (p3 &&& (3 : Int32)))), .val (.int r2), .val (.int ((p1 &&& r2).toUInt32.toUInt16.toUInt32.toInt32)), .val (.int ((((p1.toUInt32 >>> ((16 : Int32) &&& 31).toUInt32).toInt32) &&& r2).toUInt32.toUInt16.toUInt32.toInt32)), .val (.int ((p2 &&& r2).toUInt32.toUInt16.toUInt32.toInt32)), .unset, .unset, .unset] [(.int ((((p2.toUInt32 >>> ((16 : Int32) &&& 31).toUInt32).toInt32) &&& r2).toUInt32.toUInt16.toUInt32.toInt32))])) _
    refine XS.istore X0.here hx rfl (hb hby at_54) rfl (l' := #[.val (.int p1), .val (.int p2), .val (.int p3), .val (.int ((1 : Int32) + (p3 &&& (3 : Int32)))), .val (.int r2), .val (.int ((p1 &&& r2).toUInt32.toUInt16.toUInt32.toInt32)), .val (.int ((((p1.toUInt32 >>> ((16 : Int32) &&& 31).toUInt32).toInt32) &&& r2).toUInt32.toUInt16.toUInt32.toInt32)), .val (.int ((p2 &&& r2).toUInt32.toUInt16.toUInt32.toInt32)), .val (.int ((((p2.toUInt32 >>> ((16 : Int32) &&& 31).toUInt32).toInt32) &&& r2).toUInt32.toUInt16.toUInt32.toInt32)), .unset, .unset]) rfl ?_
    refine XS.iload X0.here hx rfl (hb hby at_56) rfl ?_
    exact kz
  have zc0 := own_nc (p1 &&& r2)
  generalize ((p1 &&& r2).toUInt32.toUInt16.toUInt32.toInt32) = c0 at *
  have zc1 := own_nc (((p1.toUInt32 >>> ((16 : Int32) &&& 31).toUInt32).toInt32) &&& r2)
  generalize ((((p1.toUInt32 >>> ((16 : Int32) &&& 31).toUInt32).toInt32) &&& r2).toUInt32.toUInt16.toUInt32.toInt32) = c1 at *
  have zc2 := own_nc (p2 &&& r2)
  generalize ((p2 &&& r2).toUInt32.toUInt16.toUInt32.toInt32) = c2 at *
  have zc3 := own_nc (((p2.toUInt32 >>> ((16 : Int32) &&& 31).toUInt32).toInt32) &&& r2)
  generalize ((((p2.toUInt32 >>> ((16 : Int32) &&& 31).toUInt32).toInt32) &&& r2).toUInt32.toUInt16.toUInt32.toInt32) = c3 at *
  rcases own_n4 p3 with hn | hn | hn | hn
  · rw [hn]
    obtain ⟨_, _, ⟨T4, L4, k4, n4⟩, -, X4, ⟨Lc4, hQ4, l4, y4, z4⟩, st4⟩ := Jvm.LawKit.callS X0 hx (y := n_33) hown (mvT hZ (w_ hw 1 rfl)) (mvT hZ (w_ hw 2 rfl)) (mvT hZ (w_ hw 3 rfl)) (mvT hZ (w_ hw 4 rfl)) (by decide) (backOf (W := 0) (rfs l Z a0 hw [] c0 h0 n0 Z0) hZ (w_ hw 4 rfl) (w_ hw 3 rfl) (by decide) (by decide)) (g := (mkF m 58 #[.val (.int p1), .val (.int p2), .val (.int p3), .val (.int (1 : Int32)), .val (.int r2), .val (.int c0), .val (.int c1), .val (.int c2), .val (.int c3), .unset, .unset] [(.int c0)])) rfl (by rw [hml]; rfl) (argsL := [(.int c0)]) (rest := []) (lenOf pd_20 rfl) rfl (by show 2 * 0 + _ ≤ _; exact Nat.le_of_eq rfl) (hb hby at_58) (fun _ _ => ⟨rfl, e0, (by decide : 0 + 0 ≤ _), (by decide : 0 + 0 ≤ _)⟩)
    dsimp only [Pt.U, Pt.locs, Pt.cells, Pt.slots] at X4 l4 y4 z4 st4 hQ4
    subst l4 y4 z4
    obtain ⟨rfl, N4, e4⟩ := hQ4
    have Nf4 := Fr.app N0 N4
    refine Goes.via (st4) ?_
    by_cases hc61_5 : (nar .boolean (own_fs c0)) = (0 : Int32)
    · refine Goes.via (S' := T4.setTop (mkF m 66 #[.val (.int p1), .val (.int p2), .val (.int p3), .val (.int (1 : Int32)), .val (.int r2), .val (.int c0), .val (.int c1), .val (.int c2), .val (.int c3), .unset, .unset] [(.int c0)])) (fun tz kz => ?_) ?_
      · show Steps p.tables e below (T4.setTop (mkF m 61 #[.val (.int p1), .val (.int p2), .val (.int p3), .val (.int (1 : Int32)), .val (.int r2), .val (.int c0), .val (.int c1), .val (.int c2), .val (.int c3), .unset, .unset] [(.int (nar .boolean (own_fs c0)))])) _
        refine XS.ifNo X4.here hx rfl (hb hby at_61) rfl ((if0 _ _).trans (teq hc61_5).2) ?_
        refine XS.iload X4.here hx rfl (hb hby at_64) rfl ?_
        exact kz
      obtain ⟨_, _, ⟨T6, L6, k6, n6⟩, -, X6, ⟨Lc6, hQ6, l6, y6, z6⟩, st6⟩ := Jvm.LawKit.callS X4 hx (y := n_34) hown (mvT hZ (w_ hw 5 rfl)) (mvT hZ (w_ hw 6 rfl)) (mvT hZ (w_ hw 3 rfl)) (mvT hZ (w_ hw 7 rfl)) (by decide) (backOf (W := 0) (rct l Z a0 hw [] c0 h0 n0 Z0) hZ (w_ hw 7 rfl) (w_ hw 3 rfl) (by decide) (by decide)) (g := (mkF m 66 #[.val (.int p1), .val (.int p2), .val (.int p3), .val (.int (1 : Int32)), .val (.int r2), .val (.int c0), .val (.int c1), .val (.int c2), .val (.int c3), .unset, .unset] [(.int c0)])) rfl (by rw [hml]; rfl) (argsL := [(.int c0)]) (rest := []) (lenOf pd_20 rfl) rfl (by show 2 * 0 + _ ≤ _; exact Nat.le_of_eq rfl) (hb hby at_66) (fun _ _ => ⟨rfl, e4, (by decide : 0 + 0 ≤ _), (by decide : 0 + 0 ≤ _)⟩)
      dsimp only [Pt.U, Pt.locs, Pt.cells, Pt.slots] at X6 l6 y6 z6 st6 hQ6
      subst l6 y6 z6
      obtain ⟨rfl, N6, e6⟩ := hQ6
      have Nf6 := Fr.app Nf4 N6
      refine Goes.via (st6) ?_
      by_cases hc69_7 : (nar .boolean (own_ct c0)) = (0 : Int32)
      · refine Goes.via (S' := T6.setTop (mkF m 128 #[.val (.int p1), .val (.int p2), .val (.int p3), .val (.int (1 : Int32)), .val (.int r2), .val (.int c0), .val (.int c1), .val (.int c2), .val (.int c3), .unset, .unset] [(.int c3), (.int c2), (.int c1), (.int c0), (.int (1 : Int32))])) (fun tz kz => ?_) ?_
        · show Steps p.tables e below (T6.setTop (mkF m 69 #[.val (.int p1), .val (.int p2), .val (.int p3), .val (.int (1 : Int32)), .val (.int r2), .val (.int c0), .val (.int c1), .val (.int c2), .val (.int c3), .unset, .unset] [(.int (nar .boolean (own_ct c0)))])) _
          refine XS.ifYes X6.here hx rfl (pc0 := 69) (pc' := 74) rfl (hb hby at_69) rfl ((if0 _ _).trans (teq hc69_7).1) (by decide) (by decide) ?_
          refine XS.iloadN X6.here hx rfl (hb hby at_74) rfl ?_
          refine XS.iconst X6.here hx rfl (hb hby at_75) ?_
          refine XS.icmpYes X6.here hx rfl (pc0 := 76) (pc' := 89) rfl (hb hby at_76) rfl (tlt (by first | decide | rfl)).1 (by decide) (by decide) ?_
          refine XS.iloadN X6.here hx rfl (hb hby at_89) rfl ?_
          refine XS.iconst X6.here hx rfl (hb hby at_90) ?_
          refine XS.icmpYes X6.here hx rfl (pc0 := 91) (pc' := 104) rfl (hb hby at_91) rfl (tlt (by first | decide | rfl)).1 (by decide) (by decide) ?_
          refine XS.iloadN X6.here hx rfl (hb hby at_104) rfl ?_
          refine XS.iconst X6.here hx rfl (hb hby at_105) ?_
          refine XS.icmpYes X6.here hx rfl (pc0 := 106) (pc' := 119) rfl (hb hby at_106) rfl (tlt (by first | decide | rfl)).1 (by decide) (by decide) ?_
          refine XS.iloadN X6.here hx rfl (hb hby at_119) rfl ?_
          refine XS.iload X6.here hx rfl (hb hby at_120) rfl ?_
          show Steps p.tables e below (T6.setTop (mkF m 122 #[.val (.int p1), .val (.int p2), .val (.int p3), .val (.int (1 : Int32)), .val (.int r2), .val (.int c0), .val (.int c1), .val (.int c2), .val (.int c3), .unset, .unset] [(.int c0), (.int (1 : Int32))])) _
          refine XS.iload X6.here hx rfl (hb hby at_122) rfl ?_
          refine XS.iload X6.here hx rfl (hb hby at_124) rfl ?_
          refine XS.iload X6.here hx rfl (hb hby at_126) rfl ?_
          exact kz
        obtain ⟨_, _, ⟨T8, L8, k8, n8⟩, -, X8, ⟨Lc8, hQ8, l8, y8, z8⟩, st8⟩ := Jvm.LawKit.callS X6 hx (y := n_35) hown (mvT hZ (w_ hw 8 rfl)) (mvT hZ (w_ hw 9 rfl)) (mvT hZ (w_ hw 3 rfl)) (mvT hZ (w_ hw 10 rfl)) (by decide) (backOf (W := 0) (rmk_1 l Z a0 hw [] c0 c1 c2 c3 cs h0 n0 Z0 SC hcs O0 SA SH SL zc0) hZ (w_ hw 10 rfl) (w_ hw 3 rfl) (by decide) (by decide)) (g := (mkF m 128 #[.val (.int p1), .val (.int p2), .val (.int p3), .val (.int (1 : Int32)), .val (.int r2), .val (.int c0), .val (.int c1), .val (.int c2), .val (.int c3), .unset, .unset] [(.int c3), (.int c2), (.int c1), (.int c0), (.int (1 : Int32))])) rfl (by rw [hml]; rfl) (argsL := [(.int (1 : Int32)), (.int c0), (.int c1), (.int c2), (.int c3)]) (rest := []) (lenOf pd_22 rfl) rfl (by show 2 * 0 + _ ≤ _; exact Nat.le_of_eq rfl) (hb hby at_128) (fun _ _ => ⟨rfl, e6, (by decide : 0 + 4 ≤ _), (by decide : 0 + 20 ≤ _)⟩)
        dsimp only [Pt.U, Pt.locs, Pt.cells, Pt.slots] at X8 l8 y8 z8 st8 hQ8
        subst l8 y8 z8
        obtain ⟨ta, vb, kb, rfl, N8, K8, SD⟩ := hQ8
        have Nf8 := Fr.app Nf6 N8
        refine Goes.via (st8) ?_
        have hC9 := hC0.trans (CHr.keep K8 all0 hC0.1)
        have hk10 := Nat.le_trans (Nat.zero_le _) K8.1
        have O1 := O0.keep K8 all0
        have Z1 := Nat.le_trans Z0 K8.1
        rcases SD with ⟨s0, ST⟩ | ST
        · skip
          refine Goes.via (S' := T8.setTop (mkF m 135 #[.val (.int p1), .val (.int p2), .val (.int p3), .val (.int (1 : Int32)), .val (.int r2), .val (.int c0), .val (.int c1), .val (.int c2), .val (.int c3), .val (.ref ta), .unset] [(.ref ta)])) (fun tz kz => ?_) ?_
          · show Steps p.tables e below (T8.setTop (mkF m 131 #[.val (.int p1), .val (.int p2), .val (.int p3), .val (.int (1 : Int32)), .val (.int r2), .val (.int c0), .val (.int c1), .val (.int c2), .val (.int c3), .unset, .unset] [(.ref ta)])) _
            refine XS.astore X8.here hx rfl (hb hby at_131) rfl rfl (l' := #[.val (.int p1), .val (.int p2), .val (.int p3), .val (.int (1 : Int32)), .val (.int r2), .val (.int c0), .val (.int c1), .val (.int c2), .val (.int c3), .val (.ref ta), .unset]) rfl ?_
            refine XS.aload X8.here hx rfl (hb hby at_133) rfl rfl ?_
            exact kz
          obtain ⟨_, _, ⟨T11, L11, k11, n11⟩, -, X11, hs11, gs11, ⟨Lc11, hQ11, l11, y11, z11, hc11⟩, st11⟩ := callSS (show Stand p l e _ (s.setVm s.vm) m _ below meth c _ _ _ _ from X8) hx (y := n_32) hown (mvT hZ (w_ hw 41 rfl)) (mvT hZ (w_ hw 42 rfl)) (mvT hZ (w_ hw 43 rfl)) (mvT hZ (w_ hw 44 rfl)) (by decide) (backOfSH (s := s) (vm0 := s.vm) (W := 0) (rnm_L1 l Z a0 hw [] ta vb kb cs fv c0 T8.heap n0 Z1 SC hcs O1 SF hfv ST zc0 (own_nff zc0 hc61_5) s0 (own_nctf zc0 hc69_7)) hZ (w_ hw 44 rfl) (w_ hw 43 rfl) (by decide) (by decide) hEL hC9.1) (g := (mkF m 135 #[.val (.int p1), .val (.int p2), .val (.int p3), .val (.int (1 : Int32)), .val (.int r2), .val (.int c0), .val (.int c1), .val (.int c2), .val (.int c3), .val (.ref ta), .unset] [(.ref ta)])) rfl (by rw [hml]; rfl) (argsL := [(.ref ta)]) (rest := []) (lenOf pd_19 rfl) rfl (by show 2 * 0 + _ ≤ _; exact Nat.le_of_eq rfl) (hb hby at_135) (fun _ _ => ⟨rfl, rfl, (by decide : 4 + 2 ≤ _), (by decide : 20 + 28 ≤ _)⟩)
          dsimp only [Pt.U, Pt.locs, Pt.cells, Pt.slots] at X11 l11 y11 z11 st11 hQ11 hs11 gs11 hc11
          subst l11 y11 z11
          obtain ⟨rfl, N11, K11⟩ := hQ11
          skip
          have hS11 : s.Since T11.vm T11.heap.size := own_fold ((State.WarmedH.refl s).since 0) hk10 hs11 gs11
          have hC11 := hC9.trans hc11
          have hZ : Z.Warmed39 (s.setVm T11.vm).vm := State.Warmed39.trans (t := s.setVm s.vm) hZ hs11.1
          have hown : (s.setVm T11.vm).vm.findClass "com/example/vestline/vestline/format/CsvNamePinLaw" = some m.cls := by rw [show (s.setVm T11.vm).vm = T11.vm from rfl, hs11.1.alike.findClass]; exact hown
          have Nf11 := Fr.app Nf8 N11
          refine Goes.via (fun _ kz => st11.trans kz) ?_
          have SS := ST.keep K11 nin0 nin0
          have O3 := O1.keep K11 all0
          have Z3 := Nat.le_trans Z1 K11.1
          refine Goes.via (S' := T11.setTop (mkF m 147 #[.val (.int p1), .val (.int p2), .val (.int p3), .val (.int (1 : Int32)), .val (.int r2), .val (.int c0), .val (.int c1), .val (.int c2), .val (.int c3), .val (.ref ta), .val (.ref ta)] [(.ref ta)])) (fun tz kz => ?_) ?_
          · show Steps p.tables e below (T11.setTop (mkF m 138 #[.val (.int p1), .val (.int p2), .val (.int p3), .val (.int (1 : Int32)), .val (.int r2), .val (.int c0), .val (.int c1), .val (.int c2), .val (.int c3), .val (.ref ta), .unset] [(.ref ta)])) _
            refine XS.astore X11.here hx rfl (hb hby at_138) rfl rfl (l' := #[.val (.int p1), .val (.int p2), .val (.int p3), .val (.int (1 : Int32)), .val (.int r2), .val (.int c0), .val (.int c1), .val (.int c2), .val (.int c3), .val (.ref ta), .val (.ref ta)]) rfl ?_
            refine XS.aload X11.here hx rfl (hb hby at_140) rfl rfl ?_
            refine XS.ifnullNo X11.here hx rfl (hb hby at_142) rfl ?_
            refine XS.aload X11.here hx rfl (hb hby at_145) rfl rfl ?_
            exact kz
          obtain ⟨cq12, kq12, q12a, q12b, q12c⟩ := isOf hZ rfl SS.1
          obtain ⟨_, _, ⟨T12, L12, k12, n12⟩, -, X12, ⟨Lc12, hQ12, l12, y12, z12⟩, st12⟩ := X11.virtualBack hx (y := n_13) (z := n_13) hown (mvT hZ (w_ hw 122 rfl)) (mvT hZ (w_ hw 89 rfl)) (notFace_of_selects (args := #[]) (mvT hZ (w_ hw 91 rfl))) (mvT hZ (w_ hw 91 rfl)) (mvT hZ (w_ hw 90 rfl)) (by decide) (backOf (W := 0) (rlen l Z a0 hw [] ta vb kb cs (0 : Int32) (1 : Int32) (1 : Int32) _ T11.heap n0 Z3 SC hcs O3 SS.1 SS.2.1 SS.2.2.1 SS.2.2.2 rfl rfl) hZ (w_ hw 92 rfl) (w_ hw 13 rfl) (by decide) (by decide)) q12a q12c (g := (mkF m 147 #[.val (.int p1), .val (.int p2), .val (.int p3), .val (.int (1 : Int32)), .val (.int r2), .val (.int c0), .val (.int c1), .val (.int c2), .val (.int c3), .val (.ref ta), .val (.ref ta)] [(.ref ta)])) rfl (by rw [hml]; rfl) (Steps.refl _) (argsL := []) (rest := []) (lenOf pd_17 rfl) rfl (by show 2 * 0 + _ ≤ _; exact Nat.le_of_eq rfl) (hb hby at_147) (fun _ _ => ⟨rfl, rfl, (by decide : 6 + 0 ≤ _), (by decide : 48 + 0 ≤ _)⟩)
          dsimp only [Pt.U, Pt.locs, Pt.cells, Pt.slots] at X12 l12 y12 z12 st12 hQ12
          subst l12 y12 z12
          obtain ⟨rfl, N12, e12⟩ := hQ12
          have Nf12 := Fr.app Nf11 N12
          refine Goes.via (fun _ kz => st12.trans kz) ?_
          refine Goes.via (S' := T12.setTop (mkF m 158 #[.val (.int p1), .val (.int p2), .val (.int p3), .val (.int (1 : Int32)), .val (.int r2), .val (.int c0), .val (.int c1), .val (.int c2), .val (.int c3), .val (.ref ta), .val (.ref ta)] [(.ref ta), (.ref ta)])) (fun tz kz => ?_) ?_
          · show Steps p.tables e below (T12.setTop (mkF m 150 #[.val (.int p1), .val (.int p2), .val (.int p3), .val (.int (1 : Int32)), .val (.int r2), .val (.int c0), .val (.int c1), .val (.int c2), .val (.int c3), .val (.ref ta), .val (.ref ta)] [(.int (1 : Int32))])) _
            refine XS.iloadN X12.here hx rfl (hb hby at_150) rfl ?_
            refine XS.icmpNo X12.here hx rfl (hb hby at_151) rfl (teq (by first | decide | rfl)).2 ?_
            refine XS.aload X12.here hx rfl (hb hby at_154) rfl rfl ?_
            refine XS.aload X12.here hx rfl (hb hby at_156) rfl rfl ?_
            exact kz
          obtain ⟨cq13, kq13, q13a, q13b, q13c⟩ := isOf hZ e12 SS.1
          obtain ⟨_, _, ⟨T13, L13, k13, n13⟩, -, X13, ⟨Lc13, hQ13, l13, y13, z13⟩, st13⟩ := X12.virtualBack hx (y := n_28) (z := n_28) hown (mvT hZ (w_ hw 123 rfl)) (mvT hZ (w_ hw 124 rfl)) (notFace_of_selects (args := #[]) (mvT hZ (w_ hw 126 rfl))) (mvT hZ (w_ hw 126 rfl)) (mvT hZ (w_ hw 125 rfl)) (by decide) (backOf (W := 0) (rsame l Z a0 hw [] ta T11.heap n0 Z3) hZ (w_ hw 127 rfl) (w_ hw 13 rfl) (by decide) (by decide)) q13a q13c (g := (mkF m 158 #[.val (.int p1), .val (.int p2), .val (.int p3), .val (.int (1 : Int32)), .val (.int r2), .val (.int c0), .val (.int c1), .val (.int c2), .val (.int c3), .val (.ref ta), .val (.ref ta)] [(.ref ta), (.ref ta)])) rfl (by rw [hml]; rfl) (Steps.refl _) (argsL := [(.ref ta)]) (rest := []) (lenOf pd_23 rfl) rfl (by show 2 * 0 + _ ≤ _; exact Nat.le_of_eq rfl) (hb hby at_158) (fun _ _ => ⟨rfl, e12, (by decide : 6 + 0 ≤ _), (by decide : 48 + 0 ≤ _)⟩)
          dsimp only [Pt.U, Pt.locs, Pt.cells, Pt.slots] at X13 l13 y13 z13 st13 hQ13
          subst l13 y13 z13
          obtain ⟨rfl, N13, e13⟩ := hQ13
          have Nf13 := Fr.app Nf12 N13
          refine Goes.via (fun _ kz => st13.trans kz) ?_
          refine Goes.via (S' := T13.setTop (mkF m 169 #[.val (.int p1), .val (.int p2), .val (.int p3), .val (.int (1 : Int32)), .val (.int r2), .val (.int c0), .val (.int c1), .val (.int c2), .val (.int c3), .val (.ref ta), .val (.ref ta)] [(.int (1 : Int32))])) (fun tz kz => ?_) ?_
          · show Steps p.tables e below (T13.setTop (mkF m 161 #[.val (.int p1), .val (.int p2), .val (.int p3), .val (.int (1 : Int32)), .val (.int r2), .val (.int c0), .val (.int c1), .val (.int c2), .val (.int c3), .val (.ref ta), .val (.ref ta)] [(.int (1 : Int32))])) _
            refine XS.ifNo X13.here hx rfl (hb hby at_161) rfl ((if0 _ _).trans (feq (by first | decide | rfl)).1) ?_
            refine XS.iconst X13.here hx rfl (hb hby at_164) ?_
            refine XS.goto X13.here hx rfl (pc0 := 165) (pc' := 169) rfl (hb hby at_165) (by decide) (by decide) ?_
            exact kz
          exact Goes.retNH (s := s) (vm1 := T11.vm) X13 hx Bd.notSynchronized hS11 (Nat.le_refl _) e13 hZ hEL hC11 (t := .boolean) Bd.returns (by simp) (hb hby at_169) (nb_ rfl) (nb_ rfl) ⟨rfl, Nf13⟩
        · skip
          refine Goes.via (S' := T8.setTop (mkF m 135 #[.val (.int p1), .val (.int p2), .val (.int p3), .val (.int (1 : Int32)), .val (.int r2), .val (.int c0), .val (.int c1), .val (.int c2), .val (.int c3), .val (.ref ta), .unset] [(.ref ta)])) (fun tz kz => ?_) ?_
          · show Steps p.tables e below (T8.setTop (mkF m 131 #[.val (.int p1), .val (.int p2), .val (.int p3), .val (.int (1 : Int32)), .val (.int r2), .val (.int c0), .val (.int c1), .val (.int c2), .val (.int c3), .unset, .unset] [(.ref ta)])) _
            refine XS.astore X8.here hx rfl (hb hby at_131) rfl rfl (l' := #[.val (.int p1), .val (.int p2), .val (.int p3), .val (.int (1 : Int32)), .val (.int r2), .val (.int c0), .val (.int c1), .val (.int c2), .val (.int c3), .val (.ref ta), .unset]) rfl ?_
            refine XS.aload X8.here hx rfl (hb hby at_133) rfl rfl ?_
            exact kz
          obtain ⟨_, _, ⟨T14, L14, k14, n14⟩, -, X14, hs14, gs14, ⟨Lc14, hQ14, l14, y14, z14, hc14⟩, st14⟩ := callSS (show Stand p l e _ (s.setVm s.vm) m _ below meth c _ _ _ _ from X8) hx (y := n_32) hown (mvT hZ (w_ hw 41 rfl)) (mvT hZ (w_ hw 42 rfl)) (mvT hZ (w_ hw 43 rfl)) (mvT hZ (w_ hw 44 rfl)) (by decide) (backOfSH (s := s) (vm0 := s.vm) (W := 0) (rnm_U1 l Z a0 hw [] ta vb kb cs fv c0 T8.heap n0 Z1 SC hcs O1 SF hfv SA SH SL ST zc0 (own_nff zc0 hc61_5) (own_nctf zc0 hc69_7)) hZ (w_ hw 44 rfl) (w_ hw 43 rfl) (by decide) (by decide) hEL hC9.1) (g := (mkF m 135 #[.val (.int p1), .val (.int p2), .val (.int p3), .val (.int (1 : Int32)), .val (.int r2), .val (.int c0), .val (.int c1), .val (.int c2), .val (.int c3), .val (.ref ta), .unset] [(.ref ta)])) rfl (by rw [hml]; rfl) (argsL := [(.ref ta)]) (rest := []) (lenOf pd_19 rfl) rfl (by show 2 * 0 + _ ≤ _; exact Nat.le_of_eq rfl) (hb hby at_135) (fun _ _ => ⟨rfl, rfl, (by decide : 4 + 2 ≤ _), (by decide : 20 + 28 ≤ _)⟩)
          dsimp only [Pt.U, Pt.locs, Pt.cells, Pt.slots] at X14 l14 y14 z14 st14 hQ14 hs14 gs14 hc14
          subst l14 y14 z14
          obtain ⟨rfl, N14, K14⟩ := hQ14
          skip
          have hS14 : s.Since T14.vm T14.heap.size := own_fold ((State.WarmedH.refl s).since 0) hk10 hs14 gs14
          have hC14 := hC9.trans hc14
          have hZ : Z.Warmed39 (s.setVm T14.vm).vm := State.Warmed39.trans (t := s.setVm s.vm) hZ hs14.1
          have hown : (s.setVm T14.vm).vm.findClass "com/example/vestline/vestline/format/CsvNamePinLaw" = some m.cls := by rw [show (s.setVm T14.vm).vm = T14.vm from rfl, hs14.1.alike.findClass]; exact hown
          have Nf14 := Fr.app Nf8 N14
          refine Goes.via (fun _ kz => st14.trans kz) ?_
          have SS := ST.keep K14 nin0 nin0
          have O3 := O1.keep K14 all0
          have Z3 := Nat.le_trans Z1 K14.1
          refine Goes.via (S' := T14.setTop (mkF m 147 #[.val (.int p1), .val (.int p2), .val (.int p3), .val (.int (1 : Int32)), .val (.int r2), .val (.int c0), .val (.int c1), .val (.int c2), .val (.int c3), .val (.ref ta), .val (.ref ta)] [(.ref ta)])) (fun tz kz => ?_) ?_
          · show Steps p.tables e below (T14.setTop (mkF m 138 #[.val (.int p1), .val (.int p2), .val (.int p3), .val (.int (1 : Int32)), .val (.int r2), .val (.int c0), .val (.int c1), .val (.int c2), .val (.int c3), .val (.ref ta), .unset] [(.ref ta)])) _
            refine XS.astore X14.here hx rfl (hb hby at_138) rfl rfl (l' := #[.val (.int p1), .val (.int p2), .val (.int p3), .val (.int (1 : Int32)), .val (.int r2), .val (.int c0), .val (.int c1), .val (.int c2), .val (.int c3), .val (.ref ta), .val (.ref ta)]) rfl ?_
            refine XS.aload X14.here hx rfl (hb hby at_140) rfl rfl ?_
            refine XS.ifnullNo X14.here hx rfl (hb hby at_142) rfl ?_
            refine XS.aload X14.here hx rfl (hb hby at_145) rfl rfl ?_
            exact kz
          obtain ⟨cq15, kq15, q15a, q15b, q15c⟩ := isOf hZ rfl SS.1
          obtain ⟨_, _, ⟨T15, L15, k15, n15⟩, -, X15, ⟨Lc15, hQ15, l15, y15, z15⟩, st15⟩ := X14.virtualBack hx (y := n_13) (z := n_13) hown (mvT hZ (w_ hw 122 rfl)) (mvT hZ (w_ hw 89 rfl)) (notFace_of_selects (args := #[]) (mvT hZ (w_ hw 91 rfl))) (mvT hZ (w_ hw 91 rfl)) (mvT hZ (w_ hw 90 rfl)) (by decide) (backOf (W := 0) (rlen l Z a0 hw [] ta vb kb cs (1 : Int32) (2 : Int32) (1 : Int32) _ T14.heap n0 Z3 SC hcs O3 SS.1 SS.2.1 SS.2.2.1 SS.2.2.2 rfl rfl) hZ (w_ hw 92 rfl) (w_ hw 13 rfl) (by decide) (by decide)) q15a q15c (g := (mkF m 147 #[.val (.int p1), .val (.int p2), .val (.int p3), .val (.int (1 : Int32)), .val (.int r2), .val (.int c0), .val (.int c1), .val (.int c2), .val (.int c3), .val (.ref ta), .val (.ref ta)] [(.ref ta)])) rfl (by rw [hml]; rfl) (Steps.refl _) (argsL := []) (rest := []) (lenOf pd_17 rfl) rfl (by show 2 * 0 + _ ≤ _; exact Nat.le_of_eq rfl) (hb hby at_147) (fun _ _ => ⟨rfl, rfl, (by decide : 6 + 0 ≤ _), (by decide : 48 + 0 ≤ _)⟩)
          dsimp only [Pt.U, Pt.locs, Pt.cells, Pt.slots] at X15 l15 y15 z15 st15 hQ15
          subst l15 y15 z15
          obtain ⟨rfl, N15, e15⟩ := hQ15
          have Nf15 := Fr.app Nf14 N15
          refine Goes.via (fun _ kz => st15.trans kz) ?_
          refine Goes.via (S' := T15.setTop (mkF m 158 #[.val (.int p1), .val (.int p2), .val (.int p3), .val (.int (1 : Int32)), .val (.int r2), .val (.int c0), .val (.int c1), .val (.int c2), .val (.int c3), .val (.ref ta), .val (.ref ta)] [(.ref ta), (.ref ta)])) (fun tz kz => ?_) ?_
          · show Steps p.tables e below (T15.setTop (mkF m 150 #[.val (.int p1), .val (.int p2), .val (.int p3), .val (.int (1 : Int32)), .val (.int r2), .val (.int c0), .val (.int c1), .val (.int c2), .val (.int c3), .val (.ref ta), .val (.ref ta)] [(.int (1 : Int32))])) _
            refine XS.iloadN X15.here hx rfl (hb hby at_150) rfl ?_
            refine XS.icmpNo X15.here hx rfl (hb hby at_151) rfl (teq (by first | decide | rfl)).2 ?_
            refine XS.aload X15.here hx rfl (hb hby at_154) rfl rfl ?_
            refine XS.aload X15.here hx rfl (hb hby at_156) rfl rfl ?_
            exact kz
          obtain ⟨cq16, kq16, q16a, q16b, q16c⟩ := isOf hZ e15 SS.1
          obtain ⟨_, _, ⟨T16, L16, k16, n16⟩, -, X16, ⟨Lc16, hQ16, l16, y16, z16⟩, st16⟩ := X15.virtualBack hx (y := n_28) (z := n_28) hown (mvT hZ (w_ hw 123 rfl)) (mvT hZ (w_ hw 124 rfl)) (notFace_of_selects (args := #[]) (mvT hZ (w_ hw 126 rfl))) (mvT hZ (w_ hw 126 rfl)) (mvT hZ (w_ hw 125 rfl)) (by decide) (backOf (W := 0) (rsame l Z a0 hw [] ta T14.heap n0 Z3) hZ (w_ hw 127 rfl) (w_ hw 13 rfl) (by decide) (by decide)) q16a q16c (g := (mkF m 158 #[.val (.int p1), .val (.int p2), .val (.int p3), .val (.int (1 : Int32)), .val (.int r2), .val (.int c0), .val (.int c1), .val (.int c2), .val (.int c3), .val (.ref ta), .val (.ref ta)] [(.ref ta), (.ref ta)])) rfl (by rw [hml]; rfl) (Steps.refl _) (argsL := [(.ref ta)]) (rest := []) (lenOf pd_23 rfl) rfl (by show 2 * 0 + _ ≤ _; exact Nat.le_of_eq rfl) (hb hby at_158) (fun _ _ => ⟨rfl, e15, (by decide : 6 + 0 ≤ _), (by decide : 48 + 0 ≤ _)⟩)
          dsimp only [Pt.U, Pt.locs, Pt.cells, Pt.slots] at X16 l16 y16 z16 st16 hQ16
          subst l16 y16 z16
          obtain ⟨rfl, N16, e16⟩ := hQ16
          have Nf16 := Fr.app Nf15 N16
          refine Goes.via (fun _ kz => st16.trans kz) ?_
          refine Goes.via (S' := T16.setTop (mkF m 169 #[.val (.int p1), .val (.int p2), .val (.int p3), .val (.int (1 : Int32)), .val (.int r2), .val (.int c0), .val (.int c1), .val (.int c2), .val (.int c3), .val (.ref ta), .val (.ref ta)] [(.int (1 : Int32))])) (fun tz kz => ?_) ?_
          · show Steps p.tables e below (T16.setTop (mkF m 161 #[.val (.int p1), .val (.int p2), .val (.int p3), .val (.int (1 : Int32)), .val (.int r2), .val (.int c0), .val (.int c1), .val (.int c2), .val (.int c3), .val (.ref ta), .val (.ref ta)] [(.int (1 : Int32))])) _
            refine XS.ifNo X16.here hx rfl (hb hby at_161) rfl ((if0 _ _).trans (feq (by first | decide | rfl)).1) ?_
            refine XS.iconst X16.here hx rfl (hb hby at_164) ?_
            refine XS.goto X16.here hx rfl (pc0 := 165) (pc' := 169) rfl (hb hby at_165) (by decide) (by decide) ?_
            exact kz
          exact Goes.retNH (s := s) (vm1 := T14.vm) X16 hx Bd.notSynchronized hS14 (Nat.le_refl _) e16 hZ hEL hC14 (t := .boolean) Bd.returns (by simp) (hb hby at_169) (nb_ rfl) (nb_ rfl) ⟨rfl, Nf16⟩
      · refine Goes.via (S' := T6.setTop (mkF m 73 #[.val (.int p1), .val (.int p2), .val (.int p3), .val (.int (1 : Int32)), .val (.int r2), .val (.int c0), .val (.int c1), .val (.int c2), .val (.int c3), .unset, .unset] [(.int (1 : Int32))])) (fun tz kz => ?_) ?_
        · show Steps p.tables e below (T6.setTop (mkF m 69 #[.val (.int p1), .val (.int p2), .val (.int p3), .val (.int (1 : Int32)), .val (.int r2), .val (.int c0), .val (.int c1), .val (.int c2), .val (.int c3), .unset, .unset] [(.int (nar .boolean (own_ct c0)))])) _
          refine XS.ifNo X6.here hx rfl (hb hby at_69) rfl ((if0 _ _).trans (feq hc69_7).1) ?_
          refine XS.iconst X6.here hx rfl (hb hby at_72) ?_
          exact kz
        exact Goes.retNH (s := s) (vm1 := s.vm) X6 hx Bd.notSynchronized ((State.WarmedH.refl s).since 0) (Nat.zero_le _) e6 hZ hEL hC0 (t := .boolean) Bd.returns (by simp) (hb hby at_73) (nb_ rfl) (nb_ rfl) ⟨rfl, Nf6⟩
    · refine Goes.via (S' := T4.setTop (mkF m 73 #[.val (.int p1), .val (.int p2), .val (.int p3), .val (.int (1 : Int32)), .val (.int r2), .val (.int c0), .val (.int c1), .val (.int c2), .val (.int c3), .unset, .unset] [(.int (1 : Int32))])) (fun tz kz => ?_) ?_
      · show Steps p.tables e below (T4.setTop (mkF m 61 #[.val (.int p1), .val (.int p2), .val (.int p3), .val (.int (1 : Int32)), .val (.int r2), .val (.int c0), .val (.int c1), .val (.int c2), .val (.int c3), .unset, .unset] [(.int (nar .boolean (own_fs c0)))])) _
        refine XS.ifYes X4.here hx rfl (pc0 := 61) (pc' := 72) rfl (hb hby at_61) rfl ((if0 _ _).trans (feq hc61_5).2) (by decide) (by decide) ?_
        refine XS.iconst X4.here hx rfl (hb hby at_72) ?_
        exact kz
      exact Goes.retNH (s := s) (vm1 := s.vm) X4 hx Bd.notSynchronized ((State.WarmedH.refl s).since 0) (Nat.zero_le _) e4 hZ hEL hC0 (t := .boolean) Bd.returns (by simp) (hb hby at_73) (nb_ rfl) (nb_ rfl) ⟨rfl, Nf4⟩
  · rw [hn]
    obtain ⟨_, _, ⟨T17, L17, k17, n17⟩, -, X17, ⟨Lc17, hQ17, l17, y17, z17⟩, st17⟩ := Jvm.LawKit.callS X0 hx (y := n_33) hown (mvT hZ (w_ hw 1 rfl)) (mvT hZ (w_ hw 2 rfl)) (mvT hZ (w_ hw 3 rfl)) (mvT hZ (w_ hw 4 rfl)) (by decide) (backOf (W := 0) (rfs l Z a0 hw [] c0 h0 n0 Z0) hZ (w_ hw 4 rfl) (w_ hw 3 rfl) (by decide) (by decide)) (g := (mkF m 58 #[.val (.int p1), .val (.int p2), .val (.int p3), .val (.int (2 : Int32)), .val (.int r2), .val (.int c0), .val (.int c1), .val (.int c2), .val (.int c3), .unset, .unset] [(.int c0)])) rfl (by rw [hml]; rfl) (argsL := [(.int c0)]) (rest := []) (lenOf pd_20 rfl) rfl (by show 2 * 0 + _ ≤ _; exact Nat.le_of_eq rfl) (hb hby at_58) (fun _ _ => ⟨rfl, e0, (by decide : 0 + 0 ≤ _), (by decide : 0 + 0 ≤ _)⟩)
    dsimp only [Pt.U, Pt.locs, Pt.cells, Pt.slots] at X17 l17 y17 z17 st17 hQ17
    subst l17 y17 z17
    obtain ⟨rfl, N17, e17⟩ := hQ17
    have Nf17 := Fr.app N0 N17
    refine Goes.via (st17) ?_
    by_cases hc61_18 : (nar .boolean (own_fs c0)) = (0 : Int32)
    · refine Goes.via (S' := T17.setTop (mkF m 66 #[.val (.int p1), .val (.int p2), .val (.int p3), .val (.int (2 : Int32)), .val (.int r2), .val (.int c0), .val (.int c1), .val (.int c2), .val (.int c3), .unset, .unset] [(.int c0)])) (fun tz kz => ?_) ?_
      · show Steps p.tables e below (T17.setTop (mkF m 61 #[.val (.int p1), .val (.int p2), .val (.int p3), .val (.int (2 : Int32)), .val (.int r2), .val (.int c0), .val (.int c1), .val (.int c2), .val (.int c3), .unset, .unset] [(.int (nar .boolean (own_fs c0)))])) _
        refine XS.ifNo X17.here hx rfl (hb hby at_61) rfl ((if0 _ _).trans (teq hc61_18).2) ?_
        refine XS.iload X17.here hx rfl (hb hby at_64) rfl ?_
        exact kz
      obtain ⟨_, _, ⟨T19, L19, k19, n19⟩, -, X19, ⟨Lc19, hQ19, l19, y19, z19⟩, st19⟩ := Jvm.LawKit.callS X17 hx (y := n_34) hown (mvT hZ (w_ hw 5 rfl)) (mvT hZ (w_ hw 6 rfl)) (mvT hZ (w_ hw 3 rfl)) (mvT hZ (w_ hw 7 rfl)) (by decide) (backOf (W := 0) (rct l Z a0 hw [] c0 h0 n0 Z0) hZ (w_ hw 7 rfl) (w_ hw 3 rfl) (by decide) (by decide)) (g := (mkF m 66 #[.val (.int p1), .val (.int p2), .val (.int p3), .val (.int (2 : Int32)), .val (.int r2), .val (.int c0), .val (.int c1), .val (.int c2), .val (.int c3), .unset, .unset] [(.int c0)])) rfl (by rw [hml]; rfl) (argsL := [(.int c0)]) (rest := []) (lenOf pd_20 rfl) rfl (by show 2 * 0 + _ ≤ _; exact Nat.le_of_eq rfl) (hb hby at_66) (fun _ _ => ⟨rfl, e17, (by decide : 0 + 0 ≤ _), (by decide : 0 + 0 ≤ _)⟩)
      dsimp only [Pt.U, Pt.locs, Pt.cells, Pt.slots] at X19 l19 y19 z19 st19 hQ19
      subst l19 y19 z19
      obtain ⟨rfl, N19, e19⟩ := hQ19
      have Nf19 := Fr.app Nf17 N19
      refine Goes.via (st19) ?_
      by_cases hc69_20 : (nar .boolean (own_ct c0)) = (0 : Int32)
      · refine Goes.via (S' := T19.setTop (mkF m 81 #[.val (.int p1), .val (.int p2), .val (.int p3), .val (.int (2 : Int32)), .val (.int r2), .val (.int c0), .val (.int c1), .val (.int c2), .val (.int c3), .unset, .unset] [(.int c1)])) (fun tz kz => ?_) ?_
        · show Steps p.tables e below (T19.setTop (mkF m 69 #[.val (.int p1), .val (.int p2), .val (.int p3), .val (.int (2 : Int32)), .val (.int r2), .val (.int c0), .val (.int c1), .val (.int c2), .val (.int c3), .unset, .unset] [(.int (nar .boolean (own_ct c0)))])) _
          refine XS.ifYes X19.here hx rfl (pc0 := 69) (pc' := 74) rfl (hb hby at_69) rfl ((if0 _ _).trans (teq hc69_20).1) (by decide) (by decide) ?_
          refine XS.iloadN X19.here hx rfl (hb hby at_74) rfl ?_
          refine XS.iconst X19.here hx rfl (hb hby at_75) ?_
          refine XS.icmpNo X19.here hx rfl (hb hby at_76) rfl (flt (by first | decide | rfl)).1 ?_
          refine XS.iload X19.here hx rfl (hb hby at_79) rfl ?_
          exact kz
        obtain ⟨_, _, ⟨T21, L21, k21, n21⟩, -, X21, ⟨Lc21, hQ21, l21, y21, z21⟩, st21⟩ := Jvm.LawKit.callS X19 hx (y := n_34) hown (mvT hZ (w_ hw 5 rfl)) (mvT hZ (w_ hw 6 rfl)) (mvT hZ (w_ hw 3 rfl)) (mvT hZ (w_ hw 7 rfl)) (by decide) (backOf (W := 0) (rct l Z a0 hw [] c1 h0 n0 Z0) hZ (w_ hw 7 rfl) (w_ hw 3 rfl) (by decide) (by decide)) (g := (mkF m 81 #[.val (.int p1), .val (.int p2), .val (.int p3), .val (.int (2 : Int32)), .val (.int r2), .val (.int c0), .val (.int c1), .val (.int c2), .val (.int c3), .unset, .unset] [(.int c1)])) rfl (by rw [hml]; rfl) (argsL := [(.int c1)]) (rest := []) (lenOf pd_20 rfl) rfl (by show 2 * 0 + _ ≤ _; exact Nat.le_of_eq rfl) (hb hby at_81) (fun _ _ => ⟨rfl, e19, (by decide : 0 + 0 ≤ _), (by decide : 0 + 0 ≤ _)⟩)
        dsimp only [Pt.U, Pt.locs, Pt.cells, Pt.slots] at X21 l21 y21 z21 st21 hQ21
        subst l21 y21 z21
        obtain ⟨rfl, N21, e21⟩ := hQ21
        have Nf21 := Fr.app Nf19 N21
        refine Goes.via (st21) ?_
        by_cases hc84_22 : (nar .boolean (own_ct c1)) = (0 : Int32)
        · refine Goes.via (S' := T21.setTop (mkF m 128 #[.val (.int p1), .val (.int p2), .val (.int p3), .val (.int (2 : Int32)), .val (.int r2), .val (.int c0), .val (.int c1), .val (.int c2), .val (.int c3), .unset, .unset] [(.int c3), (.int c2), (.int c1), (.int c0), (.int (2 : Int32))])) (fun tz kz => ?_) ?_
          · show Steps p.tables e below (T21.setTop (mkF m 84 #[.val (.int p1), .val (.int p2), .val (.int p3), .val (.int (2 : Int32)), .val (.int r2), .val (.int c0), .val (.int c1), .val (.int c2), .val (.int c3), .unset, .unset] [(.int (nar .boolean (own_ct c1)))])) _
            refine XS.ifYes X21.here hx rfl (pc0 := 84) (pc' := 89) rfl (hb hby at_84) rfl ((if0 _ _).trans (teq hc84_22).1) (by decide) (by decide) ?_
            refine XS.iloadN X21.here hx rfl (hb hby at_89) rfl ?_
            refine XS.iconst X21.here hx rfl (hb hby at_90) ?_
            refine XS.icmpYes X21.here hx rfl (pc0 := 91) (pc' := 104) rfl (hb hby at_91) rfl (tlt (by first | decide | rfl)).1 (by decide) (by decide) ?_
            refine XS.iloadN X21.here hx rfl (hb hby at_104) rfl ?_
            refine XS.iconst X21.here hx rfl (hb hby at_105) ?_
            refine XS.icmpYes X21.here hx rfl (pc0 := 106) (pc' := 119) rfl (hb hby at_106) rfl (tlt (by first | decide | rfl)).1 (by decide) (by decide) ?_
            refine XS.iloadN X21.here hx rfl (hb hby at_119) rfl ?_
            refine XS.iload X21.here hx rfl (hb hby at_120) rfl ?_
            refine XS.iload X21.here hx rfl (hb hby at_122) rfl ?_
            refine XS.iload X21.here hx rfl (hb hby at_124) rfl ?_
            refine XS.iload X21.here hx rfl (hb hby at_126) rfl ?_
            exact kz
          obtain ⟨_, _, ⟨T23, L23, k23, n23⟩, -, X23, ⟨Lc23, hQ23, l23, y23, z23⟩, st23⟩ := Jvm.LawKit.callS X21 hx (y := n_35) hown (mvT hZ (w_ hw 8 rfl)) (mvT hZ (w_ hw 9 rfl)) (mvT hZ (w_ hw 3 rfl)) (mvT hZ (w_ hw 10 rfl)) (by decide) (backOf (W := 0) (rmk_2 l Z a0 hw [] c0 c1 c2 c3 cs h0 n0 Z0 SC hcs O0 SA SH SL zc0 zc1) hZ (w_ hw 10 rfl) (w_ hw 3 rfl) (by decide) (by decide)) (g := (mkF m 128 #[.val (.int p1), .val (.int p2), .val (.int p3), .val (.int (2 : Int32)), .val (.int r2), .val (.int c0), .val (.int c1), .val (.int c2), .val (.int c3), .unset, .unset] [(.int c3), (.int c2), (.int c1), (.int c0), (.int (2 : Int32))])) rfl (by rw [hml]; rfl) (argsL := [(.int (2 : Int32)), (.int c0), (.int c1), (.int c2), (.int c3)]) (rest := []) (lenOf pd_22 rfl) rfl (by show 2 * 0 + _ ≤ _; exact Nat.le_of_eq rfl) (hb hby at_128) (fun _ _ => ⟨rfl, e21, (by decide : 0 + 4 ≤ _), (by decide : 0 + 20 ≤ _)⟩)
          dsimp only [Pt.U, Pt.locs, Pt.cells, Pt.slots] at X23 l23 y23 z23 st23 hQ23
          subst l23 y23 z23
          obtain ⟨ta, vb, kb, rfl, N23, K23, SD⟩ := hQ23
          have Nf23 := Fr.app Nf21 N23
          refine Goes.via (st23) ?_
          have hC24 := hC0.trans (CHr.keep K23 all0 hC0.1)
          have hk25 := Nat.le_trans (Nat.zero_le _) K23.1
          have O1 := O0.keep K23 all0
          have Z1 := Nat.le_trans Z0 K23.1
          rcases SD with ⟨⟨s0, s1⟩, ST⟩ | ST
          · skip
            refine Goes.via (S' := T23.setTop (mkF m 135 #[.val (.int p1), .val (.int p2), .val (.int p3), .val (.int (2 : Int32)), .val (.int r2), .val (.int c0), .val (.int c1), .val (.int c2), .val (.int c3), .val (.ref ta), .unset] [(.ref ta)])) (fun tz kz => ?_) ?_
            · show Steps p.tables e below (T23.setTop (mkF m 131 #[.val (.int p1), .val (.int p2), .val (.int p3), .val (.int (2 : Int32)), .val (.int r2), .val (.int c0), .val (.int c1), .val (.int c2), .val (.int c3), .unset, .unset] [(.ref ta)])) _
              refine XS.astore X23.here hx rfl (hb hby at_131) rfl rfl (l' := #[.val (.int p1), .val (.int p2), .val (.int p3), .val (.int (2 : Int32)), .val (.int r2), .val (.int c0), .val (.int c1), .val (.int c2), .val (.int c3), .val (.ref ta), .unset]) rfl ?_
              refine XS.aload X23.here hx rfl (hb hby at_133) rfl rfl ?_
              exact kz
            obtain ⟨_, _, ⟨T26, L26, k26, n26⟩, -, X26, hs26, gs26, ⟨Lc26, hQ26, l26, y26, z26, hc26⟩, st26⟩ := callSS (show Stand p l e _ (s.setVm s.vm) m _ below meth c _ _ _ _ from X23) hx (y := n_32) hown (mvT hZ (w_ hw 41 rfl)) (mvT hZ (w_ hw 42 rfl)) (mvT hZ (w_ hw 43 rfl)) (mvT hZ (w_ hw 44 rfl)) (by decide) (backOfSH (s := s) (vm0 := s.vm) (W := 0) (rnm_L2 l Z a0 hw [] ta vb kb cs fv c0 c1 T23.heap n0 Z1 SC hcs O1 SF hfv ST zc0 zc1 (own_nff zc0 hc61_18) s0 s1 (own_nctf zc0 hc69_20) (own_nctf zc1 hc84_22)) hZ (w_ hw 44 rfl) (w_ hw 43 rfl) (by decide) (by decide) hEL hC24.1) (g := (mkF m 135 #[.val (.int p1), .val (.int p2), .val (.int p3), .val (.int (2 : Int32)), .val (.int r2), .val (.int c0), .val (.int c1), .val (.int c2), .val (.int c3), .val (.ref ta), .unset] [(.ref ta)])) rfl (by rw [hml]; rfl) (argsL := [(.ref ta)]) (rest := []) (lenOf pd_19 rfl) rfl (by show 2 * 0 + _ ≤ _; exact Nat.le_of_eq rfl) (hb hby at_135) (fun _ _ => ⟨rfl, rfl, (by decide : 4 + 2 ≤ _), (by decide : 20 + 28 ≤ _)⟩)
            dsimp only [Pt.U, Pt.locs, Pt.cells, Pt.slots] at X26 l26 y26 z26 st26 hQ26 hs26 gs26 hc26
            subst l26 y26 z26
            obtain ⟨rfl, N26, K26⟩ := hQ26
            skip
            have hS26 : s.Since T26.vm T26.heap.size := own_fold ((State.WarmedH.refl s).since 0) hk25 hs26 gs26
            have hC26 := hC24.trans hc26
            have hZ : Z.Warmed39 (s.setVm T26.vm).vm := State.Warmed39.trans (t := s.setVm s.vm) hZ hs26.1
            have hown : (s.setVm T26.vm).vm.findClass "com/example/vestline/vestline/format/CsvNamePinLaw" = some m.cls := by rw [show (s.setVm T26.vm).vm = T26.vm from rfl, hs26.1.alike.findClass]; exact hown
            have Nf26 := Fr.app Nf23 N26
            refine Goes.via (fun _ kz => st26.trans kz) ?_
            have SS := ST.keep K26 nin0 nin0
            have O3 := O1.keep K26 all0
            have Z3 := Nat.le_trans Z1 K26.1
            refine Goes.via (S' := T26.setTop (mkF m 147 #[.val (.int p1), .val (.int p2), .val (.int p3), .val (.int (2 : Int32)), .val (.int r2), .val (.int c0), .val (.int c1), .val (.int c2), .val (.int c3), .val (.ref ta), .val (.ref ta)] [(.ref ta)])) (fun tz kz => ?_) ?_
            · show Steps p.tables e below (T26.setTop (mkF m 138 #[.val (.int p1), .val (.int p2), .val (.int p3), .val (.int (2 : Int32)), .val (.int r2), .val (.int c0), .val (.int c1), .val (.int c2), .val (.int c3), .val (.ref ta), .unset] [(.ref ta)])) _
              refine XS.astore X26.here hx rfl (hb hby at_138) rfl rfl (l' := #[.val (.int p1), .val (.int p2), .val (.int p3), .val (.int (2 : Int32)), .val (.int r2), .val (.int c0), .val (.int c1), .val (.int c2), .val (.int c3), .val (.ref ta), .val (.ref ta)]) rfl ?_
              refine XS.aload X26.here hx rfl (hb hby at_140) rfl rfl ?_
              refine XS.ifnullNo X26.here hx rfl (hb hby at_142) rfl ?_
              refine XS.aload X26.here hx rfl (hb hby at_145) rfl rfl ?_
              exact kz
            obtain ⟨cq27, kq27, q27a, q27b, q27c⟩ := isOf hZ rfl SS.1
            obtain ⟨_, _, ⟨T27, L27, k27, n27⟩, -, X27, ⟨Lc27, hQ27, l27, y27, z27⟩, st27⟩ := X26.virtualBack hx (y := n_13) (z := n_13) hown (mvT hZ (w_ hw 122 rfl)) (mvT hZ (w_ hw 89 rfl)) (notFace_of_selects (args := #[]) (mvT hZ (w_ hw 91 rfl))) (mvT hZ (w_ hw 91 rfl)) (mvT hZ (w_ hw 90 rfl)) (by decide) (backOf (W := 0) (rlen l Z a0 hw [] ta vb kb cs (0 : Int32) (2 : Int32) (2 : Int32) _ T26.heap n0 Z3 SC hcs O3 SS.1 SS.2.1 SS.2.2.1 SS.2.2.2 rfl rfl) hZ (w_ hw 92 rfl) (w_ hw 13 rfl) (by decide) (by decide)) q27a q27c (g := (mkF m 147 #[.val (.int p1), .val (.int p2), .val (.int p3), .val (.int (2 : Int32)), .val (.int r2), .val (.int c0), .val (.int c1), .val (.int c2), .val (.int c3), .val (.ref ta), .val (.ref ta)] [(.ref ta)])) rfl (by rw [hml]; rfl) (Steps.refl _) (argsL := []) (rest := []) (lenOf pd_17 rfl) rfl (by show 2 * 0 + _ ≤ _; exact Nat.le_of_eq rfl) (hb hby at_147) (fun _ _ => ⟨rfl, rfl, (by decide : 6 + 0 ≤ _), (by decide : 48 + 0 ≤ _)⟩)
            dsimp only [Pt.U, Pt.locs, Pt.cells, Pt.slots] at X27 l27 y27 z27 st27 hQ27
            subst l27 y27 z27
            obtain ⟨rfl, N27, e27⟩ := hQ27
            have Nf27 := Fr.app Nf26 N27
            refine Goes.via (fun _ kz => st27.trans kz) ?_
            refine Goes.via (S' := T27.setTop (mkF m 158 #[.val (.int p1), .val (.int p2), .val (.int p3), .val (.int (2 : Int32)), .val (.int r2), .val (.int c0), .val (.int c1), .val (.int c2), .val (.int c3), .val (.ref ta), .val (.ref ta)] [(.ref ta), (.ref ta)])) (fun tz kz => ?_) ?_
            · show Steps p.tables e below (T27.setTop (mkF m 150 #[.val (.int p1), .val (.int p2), .val (.int p3), .val (.int (2 : Int32)), .val (.int r2), .val (.int c0), .val (.int c1), .val (.int c2), .val (.int c3), .val (.ref ta), .val (.ref ta)] [(.int (2 : Int32))])) _
              refine XS.iloadN X27.here hx rfl (hb hby at_150) rfl ?_
              refine XS.icmpNo X27.here hx rfl (hb hby at_151) rfl (teq (by first | decide | rfl)).2 ?_
              refine XS.aload X27.here hx rfl (hb hby at_154) rfl rfl ?_
              refine XS.aload X27.here hx rfl (hb hby at_156) rfl rfl ?_
              exact kz
            obtain ⟨cq28, kq28, q28a, q28b, q28c⟩ := isOf hZ e27 SS.1
            obtain ⟨_, _, ⟨T28, L28, k28, n28⟩, -, X28, ⟨Lc28, hQ28, l28, y28, z28⟩, st28⟩ := X27.virtualBack hx (y := n_28) (z := n_28) hown (mvT hZ (w_ hw 123 rfl)) (mvT hZ (w_ hw 124 rfl)) (notFace_of_selects (args := #[]) (mvT hZ (w_ hw 126 rfl))) (mvT hZ (w_ hw 126 rfl)) (mvT hZ (w_ hw 125 rfl)) (by decide) (backOf (W := 0) (rsame l Z a0 hw [] ta T26.heap n0 Z3) hZ (w_ hw 127 rfl) (w_ hw 13 rfl) (by decide) (by decide)) q28a q28c (g := (mkF m 158 #[.val (.int p1), .val (.int p2), .val (.int p3), .val (.int (2 : Int32)), .val (.int r2), .val (.int c0), .val (.int c1), .val (.int c2), .val (.int c3), .val (.ref ta), .val (.ref ta)] [(.ref ta), (.ref ta)])) rfl (by rw [hml]; rfl) (Steps.refl _) (argsL := [(.ref ta)]) (rest := []) (lenOf pd_23 rfl) rfl (by show 2 * 0 + _ ≤ _; exact Nat.le_of_eq rfl) (hb hby at_158) (fun _ _ => ⟨rfl, e27, (by decide : 6 + 0 ≤ _), (by decide : 48 + 0 ≤ _)⟩)
            dsimp only [Pt.U, Pt.locs, Pt.cells, Pt.slots] at X28 l28 y28 z28 st28 hQ28
            subst l28 y28 z28
            obtain ⟨rfl, N28, e28⟩ := hQ28
            have Nf28 := Fr.app Nf27 N28
            refine Goes.via (fun _ kz => st28.trans kz) ?_
            refine Goes.via (S' := T28.setTop (mkF m 169 #[.val (.int p1), .val (.int p2), .val (.int p3), .val (.int (2 : Int32)), .val (.int r2), .val (.int c0), .val (.int c1), .val (.int c2), .val (.int c3), .val (.ref ta), .val (.ref ta)] [(.int (1 : Int32))])) (fun tz kz => ?_) ?_
            · show Steps p.tables e below (T28.setTop (mkF m 161 #[.val (.int p1), .val (.int p2), .val (.int p3), .val (.int (2 : Int32)), .val (.int r2), .val (.int c0), .val (.int c1), .val (.int c2), .val (.int c3), .val (.ref ta), .val (.ref ta)] [(.int (1 : Int32))])) _
              refine XS.ifNo X28.here hx rfl (hb hby at_161) rfl ((if0 _ _).trans (feq (by first | decide | rfl)).1) ?_
              refine XS.iconst X28.here hx rfl (hb hby at_164) ?_
              refine XS.goto X28.here hx rfl (pc0 := 165) (pc' := 169) rfl (hb hby at_165) (by decide) (by decide) ?_
              exact kz
            exact Goes.retNH (s := s) (vm1 := T26.vm) X28 hx Bd.notSynchronized hS26 (Nat.le_refl _) e28 hZ hEL hC26 (t := .boolean) Bd.returns (by simp) (hb hby at_169) (nb_ rfl) (nb_ rfl) ⟨rfl, Nf28⟩
          · skip
            refine Goes.via (S' := T23.setTop (mkF m 135 #[.val (.int p1), .val (.int p2), .val (.int p3), .val (.int (2 : Int32)), .val (.int r2), .val (.int c0), .val (.int c1), .val (.int c2), .val (.int c3), .val (.ref ta), .unset] [(.ref ta)])) (fun tz kz => ?_) ?_
            · show Steps p.tables e below (T23.setTop (mkF m 131 #[.val (.int p1), .val (.int p2), .val (.int p3), .val (.int (2 : Int32)), .val (.int r2), .val (.int c0), .val (.int c1), .val (.int c2), .val (.int c3), .unset, .unset] [(.ref ta)])) _
              refine XS.astore X23.here hx rfl (hb hby at_131) rfl rfl (l' := #[.val (.int p1), .val (.int p2), .val (.int p3), .val (.int (2 : Int32)), .val (.int r2), .val (.int c0), .val (.int c1), .val (.int c2), .val (.int c3), .val (.ref ta), .unset]) rfl ?_
              refine XS.aload X23.here hx rfl (hb hby at_133) rfl rfl ?_
              exact kz
            obtain ⟨_, _, ⟨T29, L29, k29, n29⟩, -, X29, hs29, gs29, ⟨Lc29, hQ29, l29, y29, z29, hc29⟩, st29⟩ := callSS (show Stand p l e _ (s.setVm s.vm) m _ below meth c _ _ _ _ from X23) hx (y := n_32) hown (mvT hZ (w_ hw 41 rfl)) (mvT hZ (w_ hw 42 rfl)) (mvT hZ (w_ hw 43 rfl)) (mvT hZ (w_ hw 44 rfl)) (by decide) (backOfSH (s := s) (vm0 := s.vm) (W := 0) (rnm_U2 l Z a0 hw [] ta vb kb cs fv c0 c1 T23.heap n0 Z1 SC hcs O1 SF hfv SA SH SL ST zc0 zc1 (own_nff zc0 hc61_18) (own_nctf zc0 hc69_20) (own_nctf zc1 hc84_22)) hZ (w_ hw 44 rfl) (w_ hw 43 rfl) (by decide) (by decide) hEL hC24.1) (g := (mkF m 135 #[.val (.int p1), .val (.int p2), .val (.int p3), .val (.int (2 : Int32)), .val (.int r2), .val (.int c0), .val (.int c1), .val (.int c2), .val (.int c3), .val (.ref ta), .unset] [(.ref ta)])) rfl (by rw [hml]; rfl) (argsL := [(.ref ta)]) (rest := []) (lenOf pd_19 rfl) rfl (by show 2 * 0 + _ ≤ _; exact Nat.le_of_eq rfl) (hb hby at_135) (fun _ _ => ⟨rfl, rfl, (by decide : 4 + 2 ≤ _), (by decide : 20 + 28 ≤ _)⟩)
            dsimp only [Pt.U, Pt.locs, Pt.cells, Pt.slots] at X29 l29 y29 z29 st29 hQ29 hs29 gs29 hc29
            subst l29 y29 z29
            obtain ⟨rfl, N29, K29⟩ := hQ29
            skip
            have hS29 : s.Since T29.vm T29.heap.size := own_fold ((State.WarmedH.refl s).since 0) hk25 hs29 gs29
            have hC29 := hC24.trans hc29
            have hZ : Z.Warmed39 (s.setVm T29.vm).vm := State.Warmed39.trans (t := s.setVm s.vm) hZ hs29.1
            have hown : (s.setVm T29.vm).vm.findClass "com/example/vestline/vestline/format/CsvNamePinLaw" = some m.cls := by rw [show (s.setVm T29.vm).vm = T29.vm from rfl, hs29.1.alike.findClass]; exact hown
            have Nf29 := Fr.app Nf23 N29
            refine Goes.via (fun _ kz => st29.trans kz) ?_
            have SS := ST.keep K29 nin0 nin0
            have O3 := O1.keep K29 all0
            have Z3 := Nat.le_trans Z1 K29.1
            refine Goes.via (S' := T29.setTop (mkF m 147 #[.val (.int p1), .val (.int p2), .val (.int p3), .val (.int (2 : Int32)), .val (.int r2), .val (.int c0), .val (.int c1), .val (.int c2), .val (.int c3), .val (.ref ta), .val (.ref ta)] [(.ref ta)])) (fun tz kz => ?_) ?_
            · show Steps p.tables e below (T29.setTop (mkF m 138 #[.val (.int p1), .val (.int p2), .val (.int p3), .val (.int (2 : Int32)), .val (.int r2), .val (.int c0), .val (.int c1), .val (.int c2), .val (.int c3), .val (.ref ta), .unset] [(.ref ta)])) _
              refine XS.astore X29.here hx rfl (hb hby at_138) rfl rfl (l' := #[.val (.int p1), .val (.int p2), .val (.int p3), .val (.int (2 : Int32)), .val (.int r2), .val (.int c0), .val (.int c1), .val (.int c2), .val (.int c3), .val (.ref ta), .val (.ref ta)]) rfl ?_
              refine XS.aload X29.here hx rfl (hb hby at_140) rfl rfl ?_
              refine XS.ifnullNo X29.here hx rfl (hb hby at_142) rfl ?_
              refine XS.aload X29.here hx rfl (hb hby at_145) rfl rfl ?_
              exact kz
            obtain ⟨cq30, kq30, q30a, q30b, q30c⟩ := isOf hZ rfl SS.1
            obtain ⟨_, _, ⟨T30, L30, k30, n30⟩, -, X30, ⟨Lc30, hQ30, l30, y30, z30⟩, st30⟩ := X29.virtualBack hx (y := n_13) (z := n_13) hown (mvT hZ (w_ hw 122 rfl)) (mvT hZ (w_ hw 89 rfl)) (notFace_of_selects (args := #[]) (mvT hZ (w_ hw 91 rfl))) (mvT hZ (w_ hw 91 rfl)) (mvT hZ (w_ hw 90 rfl)) (by decide) (backOf (W := 0) (rlen l Z a0 hw [] ta vb kb cs (1 : Int32) (4 : Int32) (2 : Int32) _ T29.heap n0 Z3 SC hcs O3 SS.1 SS.2.1 SS.2.2.1 SS.2.2.2 rfl rfl) hZ (w_ hw 92 rfl) (w_ hw 13 rfl) (by decide) (by decide)) q30a q30c (g := (mkF m 147 #[.val (.int p1), .val (.int p2), .val (.int p3), .val (.int (2 : Int32)), .val (.int r2), .val (.int c0), .val (.int c1), .val (.int c2), .val (.int c3), .val (.ref ta), .val (.ref ta)] [(.ref ta)])) rfl (by rw [hml]; rfl) (Steps.refl _) (argsL := []) (rest := []) (lenOf pd_17 rfl) rfl (by show 2 * 0 + _ ≤ _; exact Nat.le_of_eq rfl) (hb hby at_147) (fun _ _ => ⟨rfl, rfl, (by decide : 6 + 0 ≤ _), (by decide : 48 + 0 ≤ _)⟩)
            dsimp only [Pt.U, Pt.locs, Pt.cells, Pt.slots] at X30 l30 y30 z30 st30 hQ30
            subst l30 y30 z30
            obtain ⟨rfl, N30, e30⟩ := hQ30
            have Nf30 := Fr.app Nf29 N30
            refine Goes.via (fun _ kz => st30.trans kz) ?_
            refine Goes.via (S' := T30.setTop (mkF m 158 #[.val (.int p1), .val (.int p2), .val (.int p3), .val (.int (2 : Int32)), .val (.int r2), .val (.int c0), .val (.int c1), .val (.int c2), .val (.int c3), .val (.ref ta), .val (.ref ta)] [(.ref ta), (.ref ta)])) (fun tz kz => ?_) ?_
            · show Steps p.tables e below (T30.setTop (mkF m 150 #[.val (.int p1), .val (.int p2), .val (.int p3), .val (.int (2 : Int32)), .val (.int r2), .val (.int c0), .val (.int c1), .val (.int c2), .val (.int c3), .val (.ref ta), .val (.ref ta)] [(.int (2 : Int32))])) _
              refine XS.iloadN X30.here hx rfl (hb hby at_150) rfl ?_
              refine XS.icmpNo X30.here hx rfl (hb hby at_151) rfl (teq (by first | decide | rfl)).2 ?_
              refine XS.aload X30.here hx rfl (hb hby at_154) rfl rfl ?_
              refine XS.aload X30.here hx rfl (hb hby at_156) rfl rfl ?_
              exact kz
            obtain ⟨cq31, kq31, q31a, q31b, q31c⟩ := isOf hZ e30 SS.1
            obtain ⟨_, _, ⟨T31, L31, k31, n31⟩, -, X31, ⟨Lc31, hQ31, l31, y31, z31⟩, st31⟩ := X30.virtualBack hx (y := n_28) (z := n_28) hown (mvT hZ (w_ hw 123 rfl)) (mvT hZ (w_ hw 124 rfl)) (notFace_of_selects (args := #[]) (mvT hZ (w_ hw 126 rfl))) (mvT hZ (w_ hw 126 rfl)) (mvT hZ (w_ hw 125 rfl)) (by decide) (backOf (W := 0) (rsame l Z a0 hw [] ta T29.heap n0 Z3) hZ (w_ hw 127 rfl) (w_ hw 13 rfl) (by decide) (by decide)) q31a q31c (g := (mkF m 158 #[.val (.int p1), .val (.int p2), .val (.int p3), .val (.int (2 : Int32)), .val (.int r2), .val (.int c0), .val (.int c1), .val (.int c2), .val (.int c3), .val (.ref ta), .val (.ref ta)] [(.ref ta), (.ref ta)])) rfl (by rw [hml]; rfl) (Steps.refl _) (argsL := [(.ref ta)]) (rest := []) (lenOf pd_23 rfl) rfl (by show 2 * 0 + _ ≤ _; exact Nat.le_of_eq rfl) (hb hby at_158) (fun _ _ => ⟨rfl, e30, (by decide : 6 + 0 ≤ _), (by decide : 48 + 0 ≤ _)⟩)
            dsimp only [Pt.U, Pt.locs, Pt.cells, Pt.slots] at X31 l31 y31 z31 st31 hQ31
            subst l31 y31 z31
            obtain ⟨rfl, N31, e31⟩ := hQ31
            have Nf31 := Fr.app Nf30 N31
            refine Goes.via (fun _ kz => st31.trans kz) ?_
            refine Goes.via (S' := T31.setTop (mkF m 169 #[.val (.int p1), .val (.int p2), .val (.int p3), .val (.int (2 : Int32)), .val (.int r2), .val (.int c0), .val (.int c1), .val (.int c2), .val (.int c3), .val (.ref ta), .val (.ref ta)] [(.int (1 : Int32))])) (fun tz kz => ?_) ?_
            · show Steps p.tables e below (T31.setTop (mkF m 161 #[.val (.int p1), .val (.int p2), .val (.int p3), .val (.int (2 : Int32)), .val (.int r2), .val (.int c0), .val (.int c1), .val (.int c2), .val (.int c3), .val (.ref ta), .val (.ref ta)] [(.int (1 : Int32))])) _
              refine XS.ifNo X31.here hx rfl (hb hby at_161) rfl ((if0 _ _).trans (feq (by first | decide | rfl)).1) ?_
              refine XS.iconst X31.here hx rfl (hb hby at_164) ?_
              refine XS.goto X31.here hx rfl (pc0 := 165) (pc' := 169) rfl (hb hby at_165) (by decide) (by decide) ?_
              exact kz
            exact Goes.retNH (s := s) (vm1 := T29.vm) X31 hx Bd.notSynchronized hS29 (Nat.le_refl _) e31 hZ hEL hC29 (t := .boolean) Bd.returns (by simp) (hb hby at_169) (nb_ rfl) (nb_ rfl) ⟨rfl, Nf31⟩
        · refine Goes.via (S' := T21.setTop (mkF m 88 #[.val (.int p1), .val (.int p2), .val (.int p3), .val (.int (2 : Int32)), .val (.int r2), .val (.int c0), .val (.int c1), .val (.int c2), .val (.int c3), .unset, .unset] [(.int (1 : Int32))])) (fun tz kz => ?_) ?_
          · show Steps p.tables e below (T21.setTop (mkF m 84 #[.val (.int p1), .val (.int p2), .val (.int p3), .val (.int (2 : Int32)), .val (.int r2), .val (.int c0), .val (.int c1), .val (.int c2), .val (.int c3), .unset, .unset] [(.int (nar .boolean (own_ct c1)))])) _
            refine XS.ifNo X21.here hx rfl (hb hby at_84) rfl ((if0 _ _).trans (feq hc84_22).1) ?_
            refine XS.iconst X21.here hx rfl (hb hby at_87) ?_
            exact kz
          exact Goes.retNH (s := s) (vm1 := s.vm) X21 hx Bd.notSynchronized ((State.WarmedH.refl s).since 0) (Nat.zero_le _) e21 hZ hEL hC0 (t := .boolean) Bd.returns (by simp) (hb hby at_88) (nb_ rfl) (nb_ rfl) ⟨rfl, Nf21⟩
      · refine Goes.via (S' := T19.setTop (mkF m 73 #[.val (.int p1), .val (.int p2), .val (.int p3), .val (.int (2 : Int32)), .val (.int r2), .val (.int c0), .val (.int c1), .val (.int c2), .val (.int c3), .unset, .unset] [(.int (1 : Int32))])) (fun tz kz => ?_) ?_
        · show Steps p.tables e below (T19.setTop (mkF m 69 #[.val (.int p1), .val (.int p2), .val (.int p3), .val (.int (2 : Int32)), .val (.int r2), .val (.int c0), .val (.int c1), .val (.int c2), .val (.int c3), .unset, .unset] [(.int (nar .boolean (own_ct c0)))])) _
          refine XS.ifNo X19.here hx rfl (hb hby at_69) rfl ((if0 _ _).trans (feq hc69_20).1) ?_
          refine XS.iconst X19.here hx rfl (hb hby at_72) ?_
          exact kz
        exact Goes.retNH (s := s) (vm1 := s.vm) X19 hx Bd.notSynchronized ((State.WarmedH.refl s).since 0) (Nat.zero_le _) e19 hZ hEL hC0 (t := .boolean) Bd.returns (by simp) (hb hby at_73) (nb_ rfl) (nb_ rfl) ⟨rfl, Nf19⟩
    · refine Goes.via (S' := T17.setTop (mkF m 73 #[.val (.int p1), .val (.int p2), .val (.int p3), .val (.int (2 : Int32)), .val (.int r2), .val (.int c0), .val (.int c1), .val (.int c2), .val (.int c3), .unset, .unset] [(.int (1 : Int32))])) (fun tz kz => ?_) ?_
      · show Steps p.tables e below (T17.setTop (mkF m 61 #[.val (.int p1), .val (.int p2), .val (.int p3), .val (.int (2 : Int32)), .val (.int r2), .val (.int c0), .val (.int c1), .val (.int c2), .val (.int c3), .unset, .unset] [(.int (nar .boolean (own_fs c0)))])) _
        refine XS.ifYes X17.here hx rfl (pc0 := 61) (pc' := 72) rfl (hb hby at_61) rfl ((if0 _ _).trans (feq hc61_18).2) (by decide) (by decide) ?_
        refine XS.iconst X17.here hx rfl (hb hby at_72) ?_
        exact kz
      exact Goes.retNH (s := s) (vm1 := s.vm) X17 hx Bd.notSynchronized ((State.WarmedH.refl s).since 0) (Nat.zero_le _) e17 hZ hEL hC0 (t := .boolean) Bd.returns (by simp) (hb hby at_73) (nb_ rfl) (nb_ rfl) ⟨rfl, Nf17⟩
  · rw [hn]
    obtain ⟨_, _, ⟨T32, L32, k32, n32⟩, -, X32, ⟨Lc32, hQ32, l32, y32, z32⟩, st32⟩ := Jvm.LawKit.callS X0 hx (y := n_33) hown (mvT hZ (w_ hw 1 rfl)) (mvT hZ (w_ hw 2 rfl)) (mvT hZ (w_ hw 3 rfl)) (mvT hZ (w_ hw 4 rfl)) (by decide) (backOf (W := 0) (rfs l Z a0 hw [] c0 h0 n0 Z0) hZ (w_ hw 4 rfl) (w_ hw 3 rfl) (by decide) (by decide)) (g := (mkF m 58 #[.val (.int p1), .val (.int p2), .val (.int p3), .val (.int (3 : Int32)), .val (.int r2), .val (.int c0), .val (.int c1), .val (.int c2), .val (.int c3), .unset, .unset] [(.int c0)])) rfl (by rw [hml]; rfl) (argsL := [(.int c0)]) (rest := []) (lenOf pd_20 rfl) rfl (by show 2 * 0 + _ ≤ _; exact Nat.le_of_eq rfl) (hb hby at_58) (fun _ _ => ⟨rfl, e0, (by decide : 0 + 0 ≤ _), (by decide : 0 + 0 ≤ _)⟩)
    dsimp only [Pt.U, Pt.locs, Pt.cells, Pt.slots] at X32 l32 y32 z32 st32 hQ32
    subst l32 y32 z32
    obtain ⟨rfl, N32, e32⟩ := hQ32
    have Nf32 := Fr.app N0 N32
    refine Goes.via (st32) ?_
    by_cases hc61_33 : (nar .boolean (own_fs c0)) = (0 : Int32)
    · refine Goes.via (S' := T32.setTop (mkF m 66 #[.val (.int p1), .val (.int p2), .val (.int p3), .val (.int (3 : Int32)), .val (.int r2), .val (.int c0), .val (.int c1), .val (.int c2), .val (.int c3), .unset, .unset] [(.int c0)])) (fun tz kz => ?_) ?_
      · show Steps p.tables e below (T32.setTop (mkF m 61 #[.val (.int p1), .val (.int p2), .val (.int p3), .val (.int (3 : Int32)), .val (.int r2), .val (.int c0), .val (.int c1), .val (.int c2), .val (.int c3), .unset, .unset] [(.int (nar .boolean (own_fs c0)))])) _
        refine XS.ifNo X32.here hx rfl (hb hby at_61) rfl ((if0 _ _).trans (teq hc61_33).2) ?_
        refine XS.iload X32.here hx rfl (hb hby at_64) rfl ?_
        exact kz
      obtain ⟨_, _, ⟨T34, L34, k34, n34⟩, -, X34, ⟨Lc34, hQ34, l34, y34, z34⟩, st34⟩ := Jvm.LawKit.callS X32 hx (y := n_34) hown (mvT hZ (w_ hw 5 rfl)) (mvT hZ (w_ hw 6 rfl)) (mvT hZ (w_ hw 3 rfl)) (mvT hZ (w_ hw 7 rfl)) (by decide) (backOf (W := 0) (rct l Z a0 hw [] c0 h0 n0 Z0) hZ (w_ hw 7 rfl) (w_ hw 3 rfl) (by decide) (by decide)) (g := (mkF m 66 #[.val (.int p1), .val (.int p2), .val (.int p3), .val (.int (3 : Int32)), .val (.int r2), .val (.int c0), .val (.int c1), .val (.int c2), .val (.int c3), .unset, .unset] [(.int c0)])) rfl (by rw [hml]; rfl) (argsL := [(.int c0)]) (rest := []) (lenOf pd_20 rfl) rfl (by show 2 * 0 + _ ≤ _; exact Nat.le_of_eq rfl) (hb hby at_66) (fun _ _ => ⟨rfl, e32, (by decide : 0 + 0 ≤ _), (by decide : 0 + 0 ≤ _)⟩)
      dsimp only [Pt.U, Pt.locs, Pt.cells, Pt.slots] at X34 l34 y34 z34 st34 hQ34
      subst l34 y34 z34
      obtain ⟨rfl, N34, e34⟩ := hQ34
      have Nf34 := Fr.app Nf32 N34
      refine Goes.via (st34) ?_
      by_cases hc69_35 : (nar .boolean (own_ct c0)) = (0 : Int32)
      · refine Goes.via (S' := T34.setTop (mkF m 81 #[.val (.int p1), .val (.int p2), .val (.int p3), .val (.int (3 : Int32)), .val (.int r2), .val (.int c0), .val (.int c1), .val (.int c2), .val (.int c3), .unset, .unset] [(.int c1)])) (fun tz kz => ?_) ?_
        · show Steps p.tables e below (T34.setTop (mkF m 69 #[.val (.int p1), .val (.int p2), .val (.int p3), .val (.int (3 : Int32)), .val (.int r2), .val (.int c0), .val (.int c1), .val (.int c2), .val (.int c3), .unset, .unset] [(.int (nar .boolean (own_ct c0)))])) _
          refine XS.ifYes X34.here hx rfl (pc0 := 69) (pc' := 74) rfl (hb hby at_69) rfl ((if0 _ _).trans (teq hc69_35).1) (by decide) (by decide) ?_
          refine XS.iloadN X34.here hx rfl (hb hby at_74) rfl ?_
          refine XS.iconst X34.here hx rfl (hb hby at_75) ?_
          refine XS.icmpNo X34.here hx rfl (hb hby at_76) rfl (flt (by first | decide | rfl)).1 ?_
          refine XS.iload X34.here hx rfl (hb hby at_79) rfl ?_
          exact kz
        obtain ⟨_, _, ⟨T36, L36, k36, n36⟩, -, X36, ⟨Lc36, hQ36, l36, y36, z36⟩, st36⟩ := Jvm.LawKit.callS X34 hx (y := n_34) hown (mvT hZ (w_ hw 5 rfl)) (mvT hZ (w_ hw 6 rfl)) (mvT hZ (w_ hw 3 rfl)) (mvT hZ (w_ hw 7 rfl)) (by decide) (backOf (W := 0) (rct l Z a0 hw [] c1 h0 n0 Z0) hZ (w_ hw 7 rfl) (w_ hw 3 rfl) (by decide) (by decide)) (g := (mkF m 81 #[.val (.int p1), .val (.int p2), .val (.int p3), .val (.int (3 : Int32)), .val (.int r2), .val (.int c0), .val (.int c1), .val (.int c2), .val (.int c3), .unset, .unset] [(.int c1)])) rfl (by rw [hml]; rfl) (argsL := [(.int c1)]) (rest := []) (lenOf pd_20 rfl) rfl (by show 2 * 0 + _ ≤ _; exact Nat.le_of_eq rfl) (hb hby at_81) (fun _ _ => ⟨rfl, e34, (by decide : 0 + 0 ≤ _), (by decide : 0 + 0 ≤ _)⟩)
        dsimp only [Pt.U, Pt.locs, Pt.cells, Pt.slots] at X36 l36 y36 z36 st36 hQ36
        subst l36 y36 z36
        obtain ⟨rfl, N36, e36⟩ := hQ36
        have Nf36 := Fr.app Nf34 N36
        refine Goes.via (st36) ?_
        by_cases hc84_37 : (nar .boolean (own_ct c1)) = (0 : Int32)
        · refine Goes.via (S' := T36.setTop (mkF m 96 #[.val (.int p1), .val (.int p2), .val (.int p3), .val (.int (3 : Int32)), .val (.int r2), .val (.int c0), .val (.int c1), .val (.int c2), .val (.int c3), .unset, .unset] [(.int c2)])) (fun tz kz => ?_) ?_
          · show Steps p.tables e below (T36.setTop (mkF m 84 #[.val (.int p1), .val (.int p2), .val (.int p3), .val (.int (3 : Int32)), .val (.int r2), .val (.int c0), .val (.int c1), .val (.int c2), .val (.int c3), .unset, .unset] [(.int (nar .boolean (own_ct c1)))])) _
            refine XS.ifYes X36.here hx rfl (pc0 := 84) (pc' := 89) rfl (hb hby at_84) rfl ((if0 _ _).trans (teq hc84_37).1) (by decide) (by decide) ?_
            refine XS.iloadN X36.here hx rfl (hb hby at_89) rfl ?_
            refine XS.iconst X36.here hx rfl (hb hby at_90) ?_
            refine XS.icmpNo X36.here hx rfl (hb hby at_91) rfl (flt (by first | decide | rfl)).1 ?_
            refine XS.iload X36.here hx rfl (hb hby at_94) rfl ?_
            exact kz
          obtain ⟨_, _, ⟨T38, L38, k38, n38⟩, -, X38, ⟨Lc38, hQ38, l38, y38, z38⟩, st38⟩ := Jvm.LawKit.callS X36 hx (y := n_34) hown (mvT hZ (w_ hw 5 rfl)) (mvT hZ (w_ hw 6 rfl)) (mvT hZ (w_ hw 3 rfl)) (mvT hZ (w_ hw 7 rfl)) (by decide) (backOf (W := 0) (rct l Z a0 hw [] c2 h0 n0 Z0) hZ (w_ hw 7 rfl) (w_ hw 3 rfl) (by decide) (by decide)) (g := (mkF m 96 #[.val (.int p1), .val (.int p2), .val (.int p3), .val (.int (3 : Int32)), .val (.int r2), .val (.int c0), .val (.int c1), .val (.int c2), .val (.int c3), .unset, .unset] [(.int c2)])) rfl (by rw [hml]; rfl) (argsL := [(.int c2)]) (rest := []) (lenOf pd_20 rfl) rfl (by show 2 * 0 + _ ≤ _; exact Nat.le_of_eq rfl) (hb hby at_96) (fun _ _ => ⟨rfl, e36, (by decide : 0 + 0 ≤ _), (by decide : 0 + 0 ≤ _)⟩)
          dsimp only [Pt.U, Pt.locs, Pt.cells, Pt.slots] at X38 l38 y38 z38 st38 hQ38
          subst l38 y38 z38
          obtain ⟨rfl, N38, e38⟩ := hQ38
          have Nf38 := Fr.app Nf36 N38
          refine Goes.via (st38) ?_
          by_cases hc99_39 : (nar .boolean (own_ct c2)) = (0 : Int32)
          · refine Goes.via (S' := T38.setTop (mkF m 128 #[.val (.int p1), .val (.int p2), .val (.int p3), .val (.int (3 : Int32)), .val (.int r2), .val (.int c0), .val (.int c1), .val (.int c2), .val (.int c3), .unset, .unset] [(.int c3), (.int c2), (.int c1), (.int c0), (.int (3 : Int32))])) (fun tz kz => ?_) ?_
            · show Steps p.tables e below (T38.setTop (mkF m 99 #[.val (.int p1), .val (.int p2), .val (.int p3), .val (.int (3 : Int32)), .val (.int r2), .val (.int c0), .val (.int c1), .val (.int c2), .val (.int c3), .unset, .unset] [(.int (nar .boolean (own_ct c2)))])) _
              refine XS.ifYes X38.here hx rfl (pc0 := 99) (pc' := 104) rfl (hb hby at_99) rfl ((if0 _ _).trans (teq hc99_39).1) (by decide) (by decide) ?_
              refine XS.iloadN X38.here hx rfl (hb hby at_104) rfl ?_
              refine XS.iconst X38.here hx rfl (hb hby at_105) ?_
              refine XS.icmpYes X38.here hx rfl (pc0 := 106) (pc' := 119) rfl (hb hby at_106) rfl (tlt (by first | decide | rfl)).1 (by decide) (by decide) ?_
              refine XS.iloadN X38.here hx rfl (hb hby at_119) rfl ?_
              refine XS.iload X38.here hx rfl (hb hby at_120) rfl ?_
              refine XS.iload X38.here hx rfl (hb hby at_122) rfl ?_
              refine XS.iload X38.here hx rfl (hb hby at_124) rfl ?_
              refine XS.iload X38.here hx rfl (hb hby at_126) rfl ?_
              exact kz
            obtain ⟨_, _, ⟨T40, L40, k40, n40⟩, -, X40, ⟨Lc40, hQ40, l40, y40, z40⟩, st40⟩ := Jvm.LawKit.callS X38 hx (y := n_35) hown (mvT hZ (w_ hw 8 rfl)) (mvT hZ (w_ hw 9 rfl)) (mvT hZ (w_ hw 3 rfl)) (mvT hZ (w_ hw 10 rfl)) (by decide) (backOf (W := 0) (rmk_3 l Z a0 hw [] c0 c1 c2 c3 cs h0 n0 Z0 SC hcs O0 SA SH SL zc0 zc1 zc2) hZ (w_ hw 10 rfl) (w_ hw 3 rfl) (by decide) (by decide)) (g := (mkF m 128 #[.val (.int p1), .val (.int p2), .val (.int p3), .val (.int (3 : Int32)), .val (.int r2), .val (.int c0), .val (.int c1), .val (.int c2), .val (.int c3), .unset, .unset] [(.int c3), (.int c2), (.int c1), (.int c0), (.int (3 : Int32))])) rfl (by rw [hml]; rfl) (argsL := [(.int (3 : Int32)), (.int c0), (.int c1), (.int c2), (.int c3)]) (rest := []) (lenOf pd_22 rfl) rfl (by show 2 * 0 + _ ≤ _; exact Nat.le_of_eq rfl) (hb hby at_128) (fun _ _ => ⟨rfl, e38, (by decide : 0 + 4 ≤ _), (by decide : 0 + 20 ≤ _)⟩)
            dsimp only [Pt.U, Pt.locs, Pt.cells, Pt.slots] at X40 l40 y40 z40 st40 hQ40
            subst l40 y40 z40
            obtain ⟨ta, vb, kb, rfl, N40, K40, SD⟩ := hQ40
            have Nf40 := Fr.app Nf38 N40
            refine Goes.via (st40) ?_
            have hC41 := hC0.trans (CHr.keep K40 all0 hC0.1)
            have hk42 := Nat.le_trans (Nat.zero_le _) K40.1
            have O1 := O0.keep K40 all0
            have Z1 := Nat.le_trans Z0 K40.1
            rcases SD with ⟨⟨s0, s1, s2⟩, ST⟩ | ST
            · skip
              refine Goes.via (S' := T40.setTop (mkF m 135 #[.val (.int p1), .val (.int p2), .val (.int p3), .val (.int (3 : Int32)), .val (.int r2), .val (.int c0), .val (.int c1), .val (.int c2), .val (.int c3), .val (.ref ta), .unset] [(.ref ta)])) (fun tz kz => ?_) ?_
              · show Steps p.tables e below (T40.setTop (mkF m 131 #[.val (.int p1), .val (.int p2), .val (.int p3), .val (.int (3 : Int32)), .val (.int r2), .val (.int c0), .val (.int c1), .val (.int c2), .val (.int c3), .unset, .unset] [(.ref ta)])) _
                refine XS.astore X40.here hx rfl (hb hby at_131) rfl rfl (l' := #[.val (.int p1), .val (.int p2), .val (.int p3), .val (.int (3 : Int32)), .val (.int r2), .val (.int c0), .val (.int c1), .val (.int c2), .val (.int c3), .val (.ref ta), .unset]) rfl ?_
                refine XS.aload X40.here hx rfl (hb hby at_133) rfl rfl ?_
                exact kz
              obtain ⟨_, _, ⟨T43, L43, k43, n43⟩, -, X43, hs43, gs43, ⟨Lc43, hQ43, l43, y43, z43, hc43⟩, st43⟩ := callSS (show Stand p l e _ (s.setVm s.vm) m _ below meth c _ _ _ _ from X40) hx (y := n_32) hown (mvT hZ (w_ hw 41 rfl)) (mvT hZ (w_ hw 42 rfl)) (mvT hZ (w_ hw 43 rfl)) (mvT hZ (w_ hw 44 rfl)) (by decide) (backOfSH (s := s) (vm0 := s.vm) (W := 0) (rnm_L3 l Z a0 hw [] ta vb kb cs fv c0 c1 c2 T40.heap n0 Z1 SC hcs O1 SF hfv ST zc0 zc1 zc2 (own_nff zc0 hc61_33) s0 s1 s2 (own_nctf zc0 hc69_35) (own_nctf zc1 hc84_37) (own_nctf zc2 hc99_39)) hZ (w_ hw 44 rfl) (w_ hw 43 rfl) (by decide) (by decide) hEL hC41.1) (g := (mkF m 135 #[.val (.int p1), .val (.int p2), .val (.int p3), .val (.int (3 : Int32)), .val (.int r2), .val (.int c0), .val (.int c1), .val (.int c2), .val (.int c3), .val (.ref ta), .unset] [(.ref ta)])) rfl (by rw [hml]; rfl) (argsL := [(.ref ta)]) (rest := []) (lenOf pd_19 rfl) rfl (by show 2 * 0 + _ ≤ _; exact Nat.le_of_eq rfl) (hb hby at_135) (fun _ _ => ⟨rfl, rfl, (by decide : 4 + 2 ≤ _), (by decide : 20 + 28 ≤ _)⟩)
              dsimp only [Pt.U, Pt.locs, Pt.cells, Pt.slots] at X43 l43 y43 z43 st43 hQ43 hs43 gs43 hc43
              subst l43 y43 z43
              obtain ⟨rfl, N43, K43⟩ := hQ43
              skip
              have hS43 : s.Since T43.vm T43.heap.size := own_fold ((State.WarmedH.refl s).since 0) hk42 hs43 gs43
              have hC43 := hC41.trans hc43
              have hZ : Z.Warmed39 (s.setVm T43.vm).vm := State.Warmed39.trans (t := s.setVm s.vm) hZ hs43.1
              have hown : (s.setVm T43.vm).vm.findClass "com/example/vestline/vestline/format/CsvNamePinLaw" = some m.cls := by rw [show (s.setVm T43.vm).vm = T43.vm from rfl, hs43.1.alike.findClass]; exact hown
              have Nf43 := Fr.app Nf40 N43
              refine Goes.via (fun _ kz => st43.trans kz) ?_
              have SS := ST.keep K43 nin0 nin0
              have O3 := O1.keep K43 all0
              have Z3 := Nat.le_trans Z1 K43.1
              refine Goes.via (S' := T43.setTop (mkF m 147 #[.val (.int p1), .val (.int p2), .val (.int p3), .val (.int (3 : Int32)), .val (.int r2), .val (.int c0), .val (.int c1), .val (.int c2), .val (.int c3), .val (.ref ta), .val (.ref ta)] [(.ref ta)])) (fun tz kz => ?_) ?_
              · show Steps p.tables e below (T43.setTop (mkF m 138 #[.val (.int p1), .val (.int p2), .val (.int p3), .val (.int (3 : Int32)), .val (.int r2), .val (.int c0), .val (.int c1), .val (.int c2), .val (.int c3), .val (.ref ta), .unset] [(.ref ta)])) _
                refine XS.astore X43.here hx rfl (hb hby at_138) rfl rfl (l' := #[.val (.int p1), .val (.int p2), .val (.int p3), .val (.int (3 : Int32)), .val (.int r2), .val (.int c0), .val (.int c1), .val (.int c2), .val (.int c3), .val (.ref ta), .val (.ref ta)]) rfl ?_
                refine XS.aload X43.here hx rfl (hb hby at_140) rfl rfl ?_
                refine XS.ifnullNo X43.here hx rfl (hb hby at_142) rfl ?_
                refine XS.aload X43.here hx rfl (hb hby at_145) rfl rfl ?_
                exact kz
              obtain ⟨cq44, kq44, q44a, q44b, q44c⟩ := isOf hZ rfl SS.1
              obtain ⟨_, _, ⟨T44, L44, k44, n44⟩, -, X44, ⟨Lc44, hQ44, l44, y44, z44⟩, st44⟩ := X43.virtualBack hx (y := n_13) (z := n_13) hown (mvT hZ (w_ hw 122 rfl)) (mvT hZ (w_ hw 89 rfl)) (notFace_of_selects (args := #[]) (mvT hZ (w_ hw 91 rfl))) (mvT hZ (w_ hw 91 rfl)) (mvT hZ (w_ hw 90 rfl)) (by decide) (backOf (W := 0) (rlen l Z a0 hw [] ta vb kb cs (0 : Int32) (3 : Int32) (3 : Int32) _ T43.heap n0 Z3 SC hcs O3 SS.1 SS.2.1 SS.2.2.1 SS.2.2.2 rfl rfl) hZ (w_ hw 92 rfl) (w_ hw 13 rfl) (by decide) (by decide)) q44a q44c (g := (mkF m 147 #[.val (.int p1), .val (.int p2), .val (.int p3), .val (.int (3 : Int32)), .val (.int r2), .val (.int c0), .val (.int c1), .val (.int c2), .val (.int c3), .val (.ref ta), .val (.ref ta)] [(.ref ta)])) rfl (by rw [hml]; rfl) (Steps.refl _) (argsL := []) (rest := []) (lenOf pd_17 rfl) rfl (by show 2 * 0 + _ ≤ _; exact Nat.le_of_eq rfl) (hb hby at_147) (fun _ _ => ⟨rfl, rfl, (by decide : 6 + 0 ≤ _), (by decide : 48 + 0 ≤ _)⟩)
              dsimp only [Pt.U, Pt.locs, Pt.cells, Pt.slots] at X44 l44 y44 z44 st44 hQ44
              subst l44 y44 z44
              obtain ⟨rfl, N44, e44⟩ := hQ44
              have Nf44 := Fr.app Nf43 N44
              refine Goes.via (fun _ kz => st44.trans kz) ?_
              refine Goes.via (S' := T44.setTop (mkF m 158 #[.val (.int p1), .val (.int p2), .val (.int p3), .val (.int (3 : Int32)), .val (.int r2), .val (.int c0), .val (.int c1), .val (.int c2), .val (.int c3), .val (.ref ta), .val (.ref ta)] [(.ref ta), (.ref ta)])) (fun tz kz => ?_) ?_
              · show Steps p.tables e below (T44.setTop (mkF m 150 #[.val (.int p1), .val (.int p2), .val (.int p3), .val (.int (3 : Int32)), .val (.int r2), .val (.int c0), .val (.int c1), .val (.int c2), .val (.int c3), .val (.ref ta), .val (.ref ta)] [(.int (3 : Int32))])) _
                refine XS.iloadN X44.here hx rfl (hb hby at_150) rfl ?_
                refine XS.icmpNo X44.here hx rfl (hb hby at_151) rfl (teq (by first | decide | rfl)).2 ?_
                refine XS.aload X44.here hx rfl (hb hby at_154) rfl rfl ?_
                refine XS.aload X44.here hx rfl (hb hby at_156) rfl rfl ?_
                exact kz
              obtain ⟨cq45, kq45, q45a, q45b, q45c⟩ := isOf hZ e44 SS.1
              obtain ⟨_, _, ⟨T45, L45, k45, n45⟩, -, X45, ⟨Lc45, hQ45, l45, y45, z45⟩, st45⟩ := X44.virtualBack hx (y := n_28) (z := n_28) hown (mvT hZ (w_ hw 123 rfl)) (mvT hZ (w_ hw 124 rfl)) (notFace_of_selects (args := #[]) (mvT hZ (w_ hw 126 rfl))) (mvT hZ (w_ hw 126 rfl)) (mvT hZ (w_ hw 125 rfl)) (by decide) (backOf (W := 0) (rsame l Z a0 hw [] ta T43.heap n0 Z3) hZ (w_ hw 127 rfl) (w_ hw 13 rfl) (by decide) (by decide)) q45a q45c (g := (mkF m 158 #[.val (.int p1), .val (.int p2), .val (.int p3), .val (.int (3 : Int32)), .val (.int r2), .val (.int c0), .val (.int c1), .val (.int c2), .val (.int c3), .val (.ref ta), .val (.ref ta)] [(.ref ta), (.ref ta)])) rfl (by rw [hml]; rfl) (Steps.refl _) (argsL := [(.ref ta)]) (rest := []) (lenOf pd_23 rfl) rfl (by show 2 * 0 + _ ≤ _; exact Nat.le_of_eq rfl) (hb hby at_158) (fun _ _ => ⟨rfl, e44, (by decide : 6 + 0 ≤ _), (by decide : 48 + 0 ≤ _)⟩)
              dsimp only [Pt.U, Pt.locs, Pt.cells, Pt.slots] at X45 l45 y45 z45 st45 hQ45
              subst l45 y45 z45
              obtain ⟨rfl, N45, e45⟩ := hQ45
              have Nf45 := Fr.app Nf44 N45
              refine Goes.via (fun _ kz => st45.trans kz) ?_
              refine Goes.via (S' := T45.setTop (mkF m 169 #[.val (.int p1), .val (.int p2), .val (.int p3), .val (.int (3 : Int32)), .val (.int r2), .val (.int c0), .val (.int c1), .val (.int c2), .val (.int c3), .val (.ref ta), .val (.ref ta)] [(.int (1 : Int32))])) (fun tz kz => ?_) ?_
              · show Steps p.tables e below (T45.setTop (mkF m 161 #[.val (.int p1), .val (.int p2), .val (.int p3), .val (.int (3 : Int32)), .val (.int r2), .val (.int c0), .val (.int c1), .val (.int c2), .val (.int c3), .val (.ref ta), .val (.ref ta)] [(.int (1 : Int32))])) _
                refine XS.ifNo X45.here hx rfl (hb hby at_161) rfl ((if0 _ _).trans (feq (by first | decide | rfl)).1) ?_
                refine XS.iconst X45.here hx rfl (hb hby at_164) ?_
                refine XS.goto X45.here hx rfl (pc0 := 165) (pc' := 169) rfl (hb hby at_165) (by decide) (by decide) ?_
                exact kz
              exact Goes.retNH (s := s) (vm1 := T43.vm) X45 hx Bd.notSynchronized hS43 (Nat.le_refl _) e45 hZ hEL hC43 (t := .boolean) Bd.returns (by simp) (hb hby at_169) (nb_ rfl) (nb_ rfl) ⟨rfl, Nf45⟩
            · skip
              refine Goes.via (S' := T40.setTop (mkF m 135 #[.val (.int p1), .val (.int p2), .val (.int p3), .val (.int (3 : Int32)), .val (.int r2), .val (.int c0), .val (.int c1), .val (.int c2), .val (.int c3), .val (.ref ta), .unset] [(.ref ta)])) (fun tz kz => ?_) ?_
              · show Steps p.tables e below (T40.setTop (mkF m 131 #[.val (.int p1), .val (.int p2), .val (.int p3), .val (.int (3 : Int32)), .val (.int r2), .val (.int c0), .val (.int c1), .val (.int c2), .val (.int c3), .unset, .unset] [(.ref ta)])) _
                refine XS.astore X40.here hx rfl (hb hby at_131) rfl rfl (l' := #[.val (.int p1), .val (.int p2), .val (.int p3), .val (.int (3 : Int32)), .val (.int r2), .val (.int c0), .val (.int c1), .val (.int c2), .val (.int c3), .val (.ref ta), .unset]) rfl ?_
                refine XS.aload X40.here hx rfl (hb hby at_133) rfl rfl ?_
                exact kz
              obtain ⟨_, _, ⟨T46, L46, k46, n46⟩, -, X46, hs46, gs46, ⟨Lc46, hQ46, l46, y46, z46, hc46⟩, st46⟩ := callSS (show Stand p l e _ (s.setVm s.vm) m _ below meth c _ _ _ _ from X40) hx (y := n_32) hown (mvT hZ (w_ hw 41 rfl)) (mvT hZ (w_ hw 42 rfl)) (mvT hZ (w_ hw 43 rfl)) (mvT hZ (w_ hw 44 rfl)) (by decide) (backOfSH (s := s) (vm0 := s.vm) (W := 0) (rnm_U3 l Z a0 hw [] ta vb kb cs fv c0 c1 c2 T40.heap n0 Z1 SC hcs O1 SF hfv SA SH SL ST zc0 zc1 zc2 (own_nff zc0 hc61_33) (own_nctf zc0 hc69_35) (own_nctf zc1 hc84_37) (own_nctf zc2 hc99_39)) hZ (w_ hw 44 rfl) (w_ hw 43 rfl) (by decide) (by decide) hEL hC41.1) (g := (mkF m 135 #[.val (.int p1), .val (.int p2), .val (.int p3), .val (.int (3 : Int32)), .val (.int r2), .val (.int c0), .val (.int c1), .val (.int c2), .val (.int c3), .val (.ref ta), .unset] [(.ref ta)])) rfl (by rw [hml]; rfl) (argsL := [(.ref ta)]) (rest := []) (lenOf pd_19 rfl) rfl (by show 2 * 0 + _ ≤ _; exact Nat.le_of_eq rfl) (hb hby at_135) (fun _ _ => ⟨rfl, rfl, (by decide : 4 + 2 ≤ _), (by decide : 20 + 28 ≤ _)⟩)
              dsimp only [Pt.U, Pt.locs, Pt.cells, Pt.slots] at X46 l46 y46 z46 st46 hQ46 hs46 gs46 hc46
              subst l46 y46 z46
              obtain ⟨rfl, N46, K46⟩ := hQ46
              skip
              have hS46 : s.Since T46.vm T46.heap.size := own_fold ((State.WarmedH.refl s).since 0) hk42 hs46 gs46
              have hC46 := hC41.trans hc46
              have hZ : Z.Warmed39 (s.setVm T46.vm).vm := State.Warmed39.trans (t := s.setVm s.vm) hZ hs46.1
              have hown : (s.setVm T46.vm).vm.findClass "com/example/vestline/vestline/format/CsvNamePinLaw" = some m.cls := by rw [show (s.setVm T46.vm).vm = T46.vm from rfl, hs46.1.alike.findClass]; exact hown
              have Nf46 := Fr.app Nf40 N46
              refine Goes.via (fun _ kz => st46.trans kz) ?_
              have SS := ST.keep K46 nin0 nin0
              have O3 := O1.keep K46 all0
              have Z3 := Nat.le_trans Z1 K46.1
              refine Goes.via (S' := T46.setTop (mkF m 147 #[.val (.int p1), .val (.int p2), .val (.int p3), .val (.int (3 : Int32)), .val (.int r2), .val (.int c0), .val (.int c1), .val (.int c2), .val (.int c3), .val (.ref ta), .val (.ref ta)] [(.ref ta)])) (fun tz kz => ?_) ?_
              · show Steps p.tables e below (T46.setTop (mkF m 138 #[.val (.int p1), .val (.int p2), .val (.int p3), .val (.int (3 : Int32)), .val (.int r2), .val (.int c0), .val (.int c1), .val (.int c2), .val (.int c3), .val (.ref ta), .unset] [(.ref ta)])) _
                refine XS.astore X46.here hx rfl (hb hby at_138) rfl rfl (l' := #[.val (.int p1), .val (.int p2), .val (.int p3), .val (.int (3 : Int32)), .val (.int r2), .val (.int c0), .val (.int c1), .val (.int c2), .val (.int c3), .val (.ref ta), .val (.ref ta)]) rfl ?_
                refine XS.aload X46.here hx rfl (hb hby at_140) rfl rfl ?_
                refine XS.ifnullNo X46.here hx rfl (hb hby at_142) rfl ?_
                refine XS.aload X46.here hx rfl (hb hby at_145) rfl rfl ?_
                exact kz
              obtain ⟨cq47, kq47, q47a, q47b, q47c⟩ := isOf hZ rfl SS.1
              obtain ⟨_, _, ⟨T47, L47, k47, n47⟩, -, X47, ⟨Lc47, hQ47, l47, y47, z47⟩, st47⟩ := X46.virtualBack hx (y := n_13) (z := n_13) hown (mvT hZ (w_ hw 122 rfl)) (mvT hZ (w_ hw 89 rfl)) (notFace_of_selects (args := #[]) (mvT hZ (w_ hw 91 rfl))) (mvT hZ (w_ hw 91 rfl)) (mvT hZ (w_ hw 90 rfl)) (by decide) (backOf (W := 0) (rlen l Z a0 hw [] ta vb kb cs (1 : Int32) (6 : Int32) (3 : Int32) _ T46.heap n0 Z3 SC hcs O3 SS.1 SS.2.1 SS.2.2.1 SS.2.2.2 rfl rfl) hZ (w_ hw 92 rfl) (w_ hw 13 rfl) (by decide) (by decide)) q47a q47c (g := (mkF m 147 #[.val (.int p1), .val (.int p2), .val (.int p3), .val (.int (3 : Int32)), .val (.int r2), .val (.int c0), .val (.int c1), .val (.int c2), .val (.int c3), .val (.ref ta), .val (.ref ta)] [(.ref ta)])) rfl (by rw [hml]; rfl) (Steps.refl _) (argsL := []) (rest := []) (lenOf pd_17 rfl) rfl (by show 2 * 0 + _ ≤ _; exact Nat.le_of_eq rfl) (hb hby at_147) (fun _ _ => ⟨rfl, rfl, (by decide : 6 + 0 ≤ _), (by decide : 48 + 0 ≤ _)⟩)
              dsimp only [Pt.U, Pt.locs, Pt.cells, Pt.slots] at X47 l47 y47 z47 st47 hQ47
              subst l47 y47 z47
              obtain ⟨rfl, N47, e47⟩ := hQ47
              have Nf47 := Fr.app Nf46 N47
              refine Goes.via (fun _ kz => st47.trans kz) ?_
              refine Goes.via (S' := T47.setTop (mkF m 158 #[.val (.int p1), .val (.int p2), .val (.int p3), .val (.int (3 : Int32)), .val (.int r2), .val (.int c0), .val (.int c1), .val (.int c2), .val (.int c3), .val (.ref ta), .val (.ref ta)] [(.ref ta), (.ref ta)])) (fun tz kz => ?_) ?_
              · show Steps p.tables e below (T47.setTop (mkF m 150 #[.val (.int p1), .val (.int p2), .val (.int p3), .val (.int (3 : Int32)), .val (.int r2), .val (.int c0), .val (.int c1), .val (.int c2), .val (.int c3), .val (.ref ta), .val (.ref ta)] [(.int (3 : Int32))])) _
                refine XS.iloadN X47.here hx rfl (hb hby at_150) rfl ?_
                refine XS.icmpNo X47.here hx rfl (hb hby at_151) rfl (teq (by first | decide | rfl)).2 ?_
                refine XS.aload X47.here hx rfl (hb hby at_154) rfl rfl ?_
                refine XS.aload X47.here hx rfl (hb hby at_156) rfl rfl ?_
                exact kz
              obtain ⟨cq48, kq48, q48a, q48b, q48c⟩ := isOf hZ e47 SS.1
              obtain ⟨_, _, ⟨T48, L48, k48, n48⟩, -, X48, ⟨Lc48, hQ48, l48, y48, z48⟩, st48⟩ := X47.virtualBack hx (y := n_28) (z := n_28) hown (mvT hZ (w_ hw 123 rfl)) (mvT hZ (w_ hw 124 rfl)) (notFace_of_selects (args := #[]) (mvT hZ (w_ hw 126 rfl))) (mvT hZ (w_ hw 126 rfl)) (mvT hZ (w_ hw 125 rfl)) (by decide) (backOf (W := 0) (rsame l Z a0 hw [] ta T46.heap n0 Z3) hZ (w_ hw 127 rfl) (w_ hw 13 rfl) (by decide) (by decide)) q48a q48c (g := (mkF m 158 #[.val (.int p1), .val (.int p2), .val (.int p3), .val (.int (3 : Int32)), .val (.int r2), .val (.int c0), .val (.int c1), .val (.int c2), .val (.int c3), .val (.ref ta), .val (.ref ta)] [(.ref ta), (.ref ta)])) rfl (by rw [hml]; rfl) (Steps.refl _) (argsL := [(.ref ta)]) (rest := []) (lenOf pd_23 rfl) rfl (by show 2 * 0 + _ ≤ _; exact Nat.le_of_eq rfl) (hb hby at_158) (fun _ _ => ⟨rfl, e47, (by decide : 6 + 0 ≤ _), (by decide : 48 + 0 ≤ _)⟩)
              dsimp only [Pt.U, Pt.locs, Pt.cells, Pt.slots] at X48 l48 y48 z48 st48 hQ48
              subst l48 y48 z48
              obtain ⟨rfl, N48, e48⟩ := hQ48
              have Nf48 := Fr.app Nf47 N48
              refine Goes.via (fun _ kz => st48.trans kz) ?_
              refine Goes.via (S' := T48.setTop (mkF m 169 #[.val (.int p1), .val (.int p2), .val (.int p3), .val (.int (3 : Int32)), .val (.int r2), .val (.int c0), .val (.int c1), .val (.int c2), .val (.int c3), .val (.ref ta), .val (.ref ta)] [(.int (1 : Int32))])) (fun tz kz => ?_) ?_
              · show Steps p.tables e below (T48.setTop (mkF m 161 #[.val (.int p1), .val (.int p2), .val (.int p3), .val (.int (3 : Int32)), .val (.int r2), .val (.int c0), .val (.int c1), .val (.int c2), .val (.int c3), .val (.ref ta), .val (.ref ta)] [(.int (1 : Int32))])) _
                refine XS.ifNo X48.here hx rfl (hb hby at_161) rfl ((if0 _ _).trans (feq (by first | decide | rfl)).1) ?_
                refine XS.iconst X48.here hx rfl (hb hby at_164) ?_
                refine XS.goto X48.here hx rfl (pc0 := 165) (pc' := 169) rfl (hb hby at_165) (by decide) (by decide) ?_
                exact kz
              exact Goes.retNH (s := s) (vm1 := T46.vm) X48 hx Bd.notSynchronized hS46 (Nat.le_refl _) e48 hZ hEL hC46 (t := .boolean) Bd.returns (by simp) (hb hby at_169) (nb_ rfl) (nb_ rfl) ⟨rfl, Nf48⟩
          · refine Goes.via (S' := T38.setTop (mkF m 103 #[.val (.int p1), .val (.int p2), .val (.int p3), .val (.int (3 : Int32)), .val (.int r2), .val (.int c0), .val (.int c1), .val (.int c2), .val (.int c3), .unset, .unset] [(.int (1 : Int32))])) (fun tz kz => ?_) ?_
            · show Steps p.tables e below (T38.setTop (mkF m 99 #[.val (.int p1), .val (.int p2), .val (.int p3), .val (.int (3 : Int32)), .val (.int r2), .val (.int c0), .val (.int c1), .val (.int c2), .val (.int c3), .unset, .unset] [(.int (nar .boolean (own_ct c2)))])) _
              refine XS.ifNo X38.here hx rfl (hb hby at_99) rfl ((if0 _ _).trans (feq hc99_39).1) ?_
              refine XS.iconst X38.here hx rfl (hb hby at_102) ?_
              exact kz
            exact Goes.retNH (s := s) (vm1 := s.vm) X38 hx Bd.notSynchronized ((State.WarmedH.refl s).since 0) (Nat.zero_le _) e38 hZ hEL hC0 (t := .boolean) Bd.returns (by simp) (hb hby at_103) (nb_ rfl) (nb_ rfl) ⟨rfl, Nf38⟩
        · refine Goes.via (S' := T36.setTop (mkF m 88 #[.val (.int p1), .val (.int p2), .val (.int p3), .val (.int (3 : Int32)), .val (.int r2), .val (.int c0), .val (.int c1), .val (.int c2), .val (.int c3), .unset, .unset] [(.int (1 : Int32))])) (fun tz kz => ?_) ?_
          · show Steps p.tables e below (T36.setTop (mkF m 84 #[.val (.int p1), .val (.int p2), .val (.int p3), .val (.int (3 : Int32)), .val (.int r2), .val (.int c0), .val (.int c1), .val (.int c2), .val (.int c3), .unset, .unset] [(.int (nar .boolean (own_ct c1)))])) _
            refine XS.ifNo X36.here hx rfl (hb hby at_84) rfl ((if0 _ _).trans (feq hc84_37).1) ?_
            refine XS.iconst X36.here hx rfl (hb hby at_87) ?_
            exact kz
          exact Goes.retNH (s := s) (vm1 := s.vm) X36 hx Bd.notSynchronized ((State.WarmedH.refl s).since 0) (Nat.zero_le _) e36 hZ hEL hC0 (t := .boolean) Bd.returns (by simp) (hb hby at_88) (nb_ rfl) (nb_ rfl) ⟨rfl, Nf36⟩
      · refine Goes.via (S' := T34.setTop (mkF m 73 #[.val (.int p1), .val (.int p2), .val (.int p3), .val (.int (3 : Int32)), .val (.int r2), .val (.int c0), .val (.int c1), .val (.int c2), .val (.int c3), .unset, .unset] [(.int (1 : Int32))])) (fun tz kz => ?_) ?_
        · show Steps p.tables e below (T34.setTop (mkF m 69 #[.val (.int p1), .val (.int p2), .val (.int p3), .val (.int (3 : Int32)), .val (.int r2), .val (.int c0), .val (.int c1), .val (.int c2), .val (.int c3), .unset, .unset] [(.int (nar .boolean (own_ct c0)))])) _
          refine XS.ifNo X34.here hx rfl (hb hby at_69) rfl ((if0 _ _).trans (feq hc69_35).1) ?_
          refine XS.iconst X34.here hx rfl (hb hby at_72) ?_
          exact kz
        exact Goes.retNH (s := s) (vm1 := s.vm) X34 hx Bd.notSynchronized ((State.WarmedH.refl s).since 0) (Nat.zero_le _) e34 hZ hEL hC0 (t := .boolean) Bd.returns (by simp) (hb hby at_73) (nb_ rfl) (nb_ rfl) ⟨rfl, Nf34⟩
    · refine Goes.via (S' := T32.setTop (mkF m 73 #[.val (.int p1), .val (.int p2), .val (.int p3), .val (.int (3 : Int32)), .val (.int r2), .val (.int c0), .val (.int c1), .val (.int c2), .val (.int c3), .unset, .unset] [(.int (1 : Int32))])) (fun tz kz => ?_) ?_
      · show Steps p.tables e below (T32.setTop (mkF m 61 #[.val (.int p1), .val (.int p2), .val (.int p3), .val (.int (3 : Int32)), .val (.int r2), .val (.int c0), .val (.int c1), .val (.int c2), .val (.int c3), .unset, .unset] [(.int (nar .boolean (own_fs c0)))])) _
        refine XS.ifYes X32.here hx rfl (pc0 := 61) (pc' := 72) rfl (hb hby at_61) rfl ((if0 _ _).trans (feq hc61_33).2) (by decide) (by decide) ?_
        refine XS.iconst X32.here hx rfl (hb hby at_72) ?_
        exact kz
      exact Goes.retNH (s := s) (vm1 := s.vm) X32 hx Bd.notSynchronized ((State.WarmedH.refl s).since 0) (Nat.zero_le _) e32 hZ hEL hC0 (t := .boolean) Bd.returns (by simp) (hb hby at_73) (nb_ rfl) (nb_ rfl) ⟨rfl, Nf32⟩
  · rw [hn]
    obtain ⟨_, _, ⟨T49, L49, k49, n49⟩, -, X49, ⟨Lc49, hQ49, l49, y49, z49⟩, st49⟩ := Jvm.LawKit.callS X0 hx (y := n_33) hown (mvT hZ (w_ hw 1 rfl)) (mvT hZ (w_ hw 2 rfl)) (mvT hZ (w_ hw 3 rfl)) (mvT hZ (w_ hw 4 rfl)) (by decide) (backOf (W := 0) (rfs l Z a0 hw [] c0 h0 n0 Z0) hZ (w_ hw 4 rfl) (w_ hw 3 rfl) (by decide) (by decide)) (g := (mkF m 58 #[.val (.int p1), .val (.int p2), .val (.int p3), .val (.int (4 : Int32)), .val (.int r2), .val (.int c0), .val (.int c1), .val (.int c2), .val (.int c3), .unset, .unset] [(.int c0)])) rfl (by rw [hml]; rfl) (argsL := [(.int c0)]) (rest := []) (lenOf pd_20 rfl) rfl (by show 2 * 0 + _ ≤ _; exact Nat.le_of_eq rfl) (hb hby at_58) (fun _ _ => ⟨rfl, e0, (by decide : 0 + 0 ≤ _), (by decide : 0 + 0 ≤ _)⟩)
    dsimp only [Pt.U, Pt.locs, Pt.cells, Pt.slots] at X49 l49 y49 z49 st49 hQ49
    subst l49 y49 z49
    obtain ⟨rfl, N49, e49⟩ := hQ49
    have Nf49 := Fr.app N0 N49
    refine Goes.via (st49) ?_
    by_cases hc61_50 : (nar .boolean (own_fs c0)) = (0 : Int32)
    · refine Goes.via (S' := T49.setTop (mkF m 66 #[.val (.int p1), .val (.int p2), .val (.int p3), .val (.int (4 : Int32)), .val (.int r2), .val (.int c0), .val (.int c1), .val (.int c2), .val (.int c3), .unset, .unset] [(.int c0)])) (fun tz kz => ?_) ?_
      · show Steps p.tables e below (T49.setTop (mkF m 61 #[.val (.int p1), .val (.int p2), .val (.int p3), .val (.int (4 : Int32)), .val (.int r2), .val (.int c0), .val (.int c1), .val (.int c2), .val (.int c3), .unset, .unset] [(.int (nar .boolean (own_fs c0)))])) _
        refine XS.ifNo X49.here hx rfl (hb hby at_61) rfl ((if0 _ _).trans (teq hc61_50).2) ?_
        refine XS.iload X49.here hx rfl (hb hby at_64) rfl ?_
        exact kz
      obtain ⟨_, _, ⟨T51, L51, k51, n51⟩, -, X51, ⟨Lc51, hQ51, l51, y51, z51⟩, st51⟩ := Jvm.LawKit.callS X49 hx (y := n_34) hown (mvT hZ (w_ hw 5 rfl)) (mvT hZ (w_ hw 6 rfl)) (mvT hZ (w_ hw 3 rfl)) (mvT hZ (w_ hw 7 rfl)) (by decide) (backOf (W := 0) (rct l Z a0 hw [] c0 h0 n0 Z0) hZ (w_ hw 7 rfl) (w_ hw 3 rfl) (by decide) (by decide)) (g := (mkF m 66 #[.val (.int p1), .val (.int p2), .val (.int p3), .val (.int (4 : Int32)), .val (.int r2), .val (.int c0), .val (.int c1), .val (.int c2), .val (.int c3), .unset, .unset] [(.int c0)])) rfl (by rw [hml]; rfl) (argsL := [(.int c0)]) (rest := []) (lenOf pd_20 rfl) rfl (by show 2 * 0 + _ ≤ _; exact Nat.le_of_eq rfl) (hb hby at_66) (fun _ _ => ⟨rfl, e49, (by decide : 0 + 0 ≤ _), (by decide : 0 + 0 ≤ _)⟩)
      dsimp only [Pt.U, Pt.locs, Pt.cells, Pt.slots] at X51 l51 y51 z51 st51 hQ51
      subst l51 y51 z51
      obtain ⟨rfl, N51, e51⟩ := hQ51
      have Nf51 := Fr.app Nf49 N51
      refine Goes.via (st51) ?_
      by_cases hc69_52 : (nar .boolean (own_ct c0)) = (0 : Int32)
      · refine Goes.via (S' := T51.setTop (mkF m 81 #[.val (.int p1), .val (.int p2), .val (.int p3), .val (.int (4 : Int32)), .val (.int r2), .val (.int c0), .val (.int c1), .val (.int c2), .val (.int c3), .unset, .unset] [(.int c1)])) (fun tz kz => ?_) ?_
        · show Steps p.tables e below (T51.setTop (mkF m 69 #[.val (.int p1), .val (.int p2), .val (.int p3), .val (.int (4 : Int32)), .val (.int r2), .val (.int c0), .val (.int c1), .val (.int c2), .val (.int c3), .unset, .unset] [(.int (nar .boolean (own_ct c0)))])) _
          refine XS.ifYes X51.here hx rfl (pc0 := 69) (pc' := 74) rfl (hb hby at_69) rfl ((if0 _ _).trans (teq hc69_52).1) (by decide) (by decide) ?_
          refine XS.iloadN X51.here hx rfl (hb hby at_74) rfl ?_
          refine XS.iconst X51.here hx rfl (hb hby at_75) ?_
          refine XS.icmpNo X51.here hx rfl (hb hby at_76) rfl (flt (by first | decide | rfl)).1 ?_
          refine XS.iload X51.here hx rfl (hb hby at_79) rfl ?_
          exact kz
        obtain ⟨_, _, ⟨T53, L53, k53, n53⟩, -, X53, ⟨Lc53, hQ53, l53, y53, z53⟩, st53⟩ := Jvm.LawKit.callS X51 hx (y := n_34) hown (mvT hZ (w_ hw 5 rfl)) (mvT hZ (w_ hw 6 rfl)) (mvT hZ (w_ hw 3 rfl)) (mvT hZ (w_ hw 7 rfl)) (by decide) (backOf (W := 0) (rct l Z a0 hw [] c1 h0 n0 Z0) hZ (w_ hw 7 rfl) (w_ hw 3 rfl) (by decide) (by decide)) (g := (mkF m 81 #[.val (.int p1), .val (.int p2), .val (.int p3), .val (.int (4 : Int32)), .val (.int r2), .val (.int c0), .val (.int c1), .val (.int c2), .val (.int c3), .unset, .unset] [(.int c1)])) rfl (by rw [hml]; rfl) (argsL := [(.int c1)]) (rest := []) (lenOf pd_20 rfl) rfl (by show 2 * 0 + _ ≤ _; exact Nat.le_of_eq rfl) (hb hby at_81) (fun _ _ => ⟨rfl, e51, (by decide : 0 + 0 ≤ _), (by decide : 0 + 0 ≤ _)⟩)
        dsimp only [Pt.U, Pt.locs, Pt.cells, Pt.slots] at X53 l53 y53 z53 st53 hQ53
        subst l53 y53 z53
        obtain ⟨rfl, N53, e53⟩ := hQ53
        have Nf53 := Fr.app Nf51 N53
        refine Goes.via (st53) ?_
        by_cases hc84_54 : (nar .boolean (own_ct c1)) = (0 : Int32)
        · refine Goes.via (S' := T53.setTop (mkF m 96 #[.val (.int p1), .val (.int p2), .val (.int p3), .val (.int (4 : Int32)), .val (.int r2), .val (.int c0), .val (.int c1), .val (.int c2), .val (.int c3), .unset, .unset] [(.int c2)])) (fun tz kz => ?_) ?_
          · show Steps p.tables e below (T53.setTop (mkF m 84 #[.val (.int p1), .val (.int p2), .val (.int p3), .val (.int (4 : Int32)), .val (.int r2), .val (.int c0), .val (.int c1), .val (.int c2), .val (.int c3), .unset, .unset] [(.int (nar .boolean (own_ct c1)))])) _
            refine XS.ifYes X53.here hx rfl (pc0 := 84) (pc' := 89) rfl (hb hby at_84) rfl ((if0 _ _).trans (teq hc84_54).1) (by decide) (by decide) ?_
            refine XS.iloadN X53.here hx rfl (hb hby at_89) rfl ?_
            refine XS.iconst X53.here hx rfl (hb hby at_90) ?_
            refine XS.icmpNo X53.here hx rfl (hb hby at_91) rfl (flt (by first | decide | rfl)).1 ?_
            refine XS.iload X53.here hx rfl (hb hby at_94) rfl ?_
            exact kz
          obtain ⟨_, _, ⟨T55, L55, k55, n55⟩, -, X55, ⟨Lc55, hQ55, l55, y55, z55⟩, st55⟩ := Jvm.LawKit.callS X53 hx (y := n_34) hown (mvT hZ (w_ hw 5 rfl)) (mvT hZ (w_ hw 6 rfl)) (mvT hZ (w_ hw 3 rfl)) (mvT hZ (w_ hw 7 rfl)) (by decide) (backOf (W := 0) (rct l Z a0 hw [] c2 h0 n0 Z0) hZ (w_ hw 7 rfl) (w_ hw 3 rfl) (by decide) (by decide)) (g := (mkF m 96 #[.val (.int p1), .val (.int p2), .val (.int p3), .val (.int (4 : Int32)), .val (.int r2), .val (.int c0), .val (.int c1), .val (.int c2), .val (.int c3), .unset, .unset] [(.int c2)])) rfl (by rw [hml]; rfl) (argsL := [(.int c2)]) (rest := []) (lenOf pd_20 rfl) rfl (by show 2 * 0 + _ ≤ _; exact Nat.le_of_eq rfl) (hb hby at_96) (fun _ _ => ⟨rfl, e53, (by decide : 0 + 0 ≤ _), (by decide : 0 + 0 ≤ _)⟩)
          dsimp only [Pt.U, Pt.locs, Pt.cells, Pt.slots] at X55 l55 y55 z55 st55 hQ55
          subst l55 y55 z55
          obtain ⟨rfl, N55, e55⟩ := hQ55
          have Nf55 := Fr.app Nf53 N55
          refine Goes.via (st55) ?_
          by_cases hc99_56 : (nar .boolean (own_ct c2)) = (0 : Int32)
          · refine Goes.via (S' := T55.setTop (mkF m 111 #[.val (.int p1), .val (.int p2), .val (.int p3), .val (.int (4 : Int32)), .val (.int r2), .val (.int c0), .val (.int c1), .val (.int c2), .val (.int c3), .unset, .unset] [(.int c3)])) (fun tz kz => ?_) ?_
            · show Steps p.tables e below (T55.setTop (mkF m 99 #[.val (.int p1), .val (.int p2), .val (.int p3), .val (.int (4 : Int32)), .val (.int r2), .val (.int c0), .val (.int c1), .val (.int c2), .val (.int c3), .unset, .unset] [(.int (nar .boolean (own_ct c2)))])) _
              refine XS.ifYes X55.here hx rfl (pc0 := 99) (pc' := 104) rfl (hb hby at_99) rfl ((if0 _ _).trans (teq hc99_56).1) (by decide) (by decide) ?_
              refine XS.iloadN X55.here hx rfl (hb hby at_104) rfl ?_
              refine XS.iconst X55.here hx rfl (hb hby at_105) ?_
              refine XS.icmpNo X55.here hx rfl (hb hby at_106) rfl (flt (by first | decide | rfl)).1 ?_
              refine XS.iload X55.here hx rfl (hb hby at_109) rfl ?_
              exact kz
            obtain ⟨_, _, ⟨T57, L57, k57, n57⟩, -, X57, ⟨Lc57, hQ57, l57, y57, z57⟩, st57⟩ := Jvm.LawKit.callS X55 hx (y := n_34) hown (mvT hZ (w_ hw 5 rfl)) (mvT hZ (w_ hw 6 rfl)) (mvT hZ (w_ hw 3 rfl)) (mvT hZ (w_ hw 7 rfl)) (by decide) (backOf (W := 0) (rct l Z a0 hw [] c3 h0 n0 Z0) hZ (w_ hw 7 rfl) (w_ hw 3 rfl) (by decide) (by decide)) (g := (mkF m 111 #[.val (.int p1), .val (.int p2), .val (.int p3), .val (.int (4 : Int32)), .val (.int r2), .val (.int c0), .val (.int c1), .val (.int c2), .val (.int c3), .unset, .unset] [(.int c3)])) rfl (by rw [hml]; rfl) (argsL := [(.int c3)]) (rest := []) (lenOf pd_20 rfl) rfl (by show 2 * 0 + _ ≤ _; exact Nat.le_of_eq rfl) (hb hby at_111) (fun _ _ => ⟨rfl, e55, (by decide : 0 + 0 ≤ _), (by decide : 0 + 0 ≤ _)⟩)
            dsimp only [Pt.U, Pt.locs, Pt.cells, Pt.slots] at X57 l57 y57 z57 st57 hQ57
            subst l57 y57 z57
            obtain ⟨rfl, N57, e57⟩ := hQ57
            have Nf57 := Fr.app Nf55 N57
            refine Goes.via (st57) ?_
            by_cases hc114_58 : (nar .boolean (own_ct c3)) = (0 : Int32)
            · refine Goes.via (S' := T57.setTop (mkF m 128 #[.val (.int p1), .val (.int p2), .val (.int p3), .val (.int (4 : Int32)), .val (.int r2), .val (.int c0), .val (.int c1), .val (.int c2), .val (.int c3), .unset, .unset] [(.int c3), (.int c2), (.int c1), (.int c0), (.int (4 : Int32))])) (fun tz kz => ?_) ?_
              · show Steps p.tables e below (T57.setTop (mkF m 114 #[.val (.int p1), .val (.int p2), .val (.int p3), .val (.int (4 : Int32)), .val (.int r2), .val (.int c0), .val (.int c1), .val (.int c2), .val (.int c3), .unset, .unset] [(.int (nar .boolean (own_ct c3)))])) _
                refine XS.ifYes X57.here hx rfl (pc0 := 114) (pc' := 119) rfl (hb hby at_114) rfl ((if0 _ _).trans (teq hc114_58).1) (by decide) (by decide) ?_
                refine XS.iloadN X57.here hx rfl (hb hby at_119) rfl ?_
                refine XS.iload X57.here hx rfl (hb hby at_120) rfl ?_
                refine XS.iload X57.here hx rfl (hb hby at_122) rfl ?_
                refine XS.iload X57.here hx rfl (hb hby at_124) rfl ?_
                refine XS.iload X57.here hx rfl (hb hby at_126) rfl ?_
                exact kz
              obtain ⟨_, _, ⟨T59, L59, k59, n59⟩, -, X59, ⟨Lc59, hQ59, l59, y59, z59⟩, st59⟩ := Jvm.LawKit.callS X57 hx (y := n_35) hown (mvT hZ (w_ hw 8 rfl)) (mvT hZ (w_ hw 9 rfl)) (mvT hZ (w_ hw 3 rfl)) (mvT hZ (w_ hw 10 rfl)) (by decide) (backOf (W := 0) (rmk_4 l Z a0 hw [] c0 c1 c2 c3 cs h0 n0 Z0 SC hcs O0 SA SH SL zc0 zc1 zc2 zc3) hZ (w_ hw 10 rfl) (w_ hw 3 rfl) (by decide) (by decide)) (g := (mkF m 128 #[.val (.int p1), .val (.int p2), .val (.int p3), .val (.int (4 : Int32)), .val (.int r2), .val (.int c0), .val (.int c1), .val (.int c2), .val (.int c3), .unset, .unset] [(.int c3), (.int c2), (.int c1), (.int c0), (.int (4 : Int32))])) rfl (by rw [hml]; rfl) (argsL := [(.int (4 : Int32)), (.int c0), (.int c1), (.int c2), (.int c3)]) (rest := []) (lenOf pd_22 rfl) rfl (by show 2 * 0 + _ ≤ _; exact Nat.le_of_eq rfl) (hb hby at_128) (fun _ _ => ⟨rfl, e57, (by decide : 0 + 4 ≤ _), (by decide : 0 + 20 ≤ _)⟩)
              dsimp only [Pt.U, Pt.locs, Pt.cells, Pt.slots] at X59 l59 y59 z59 st59 hQ59
              subst l59 y59 z59
              obtain ⟨ta, vb, kb, rfl, N59, K59, SD⟩ := hQ59
              have Nf59 := Fr.app Nf57 N59
              refine Goes.via (st59) ?_
              have hC60 := hC0.trans (CHr.keep K59 all0 hC0.1)
              have hk61 := Nat.le_trans (Nat.zero_le _) K59.1
              have O1 := O0.keep K59 all0
              have Z1 := Nat.le_trans Z0 K59.1
              rcases SD with ⟨⟨s0, s1, s2, s3⟩, ST⟩ | ST
              · skip
                refine Goes.via (S' := T59.setTop (mkF m 135 #[.val (.int p1), .val (.int p2), .val (.int p3), .val (.int (4 : Int32)), .val (.int r2), .val (.int c0), .val (.int c1), .val (.int c2), .val (.int c3), .val (.ref ta), .unset] [(.ref ta)])) (fun tz kz => ?_) ?_
                · show Steps p.tables e below (T59.setTop (mkF m 131 #[.val (.int p1), .val (.int p2), .val (.int p3), .val (.int (4 : Int32)), .val (.int r2), .val (.int c0), .val (.int c1), .val (.int c2), .val (.int c3), .unset, .unset] [(.ref ta)])) _
                  refine XS.astore X59.here hx rfl (hb hby at_131) rfl rfl (l' := #[.val (.int p1), .val (.int p2), .val (.int p3), .val (.int (4 : Int32)), .val (.int r2), .val (.int c0), .val (.int c1), .val (.int c2), .val (.int c3), .val (.ref ta), .unset]) rfl ?_
                  refine XS.aload X59.here hx rfl (hb hby at_133) rfl rfl ?_
                  exact kz
                obtain ⟨_, _, ⟨T62, L62, k62, n62⟩, -, X62, hs62, gs62, ⟨Lc62, hQ62, l62, y62, z62, hc62⟩, st62⟩ := callSS (show Stand p l e _ (s.setVm s.vm) m _ below meth c _ _ _ _ from X59) hx (y := n_32) hown (mvT hZ (w_ hw 41 rfl)) (mvT hZ (w_ hw 42 rfl)) (mvT hZ (w_ hw 43 rfl)) (mvT hZ (w_ hw 44 rfl)) (by decide) (backOfSH (s := s) (vm0 := s.vm) (W := 0) (rnm_L4 l Z a0 hw [] ta vb kb cs fv c0 c1 c2 c3 T59.heap n0 Z1 SC hcs O1 SF hfv ST zc0 zc1 zc2 zc3 (own_nff zc0 hc61_50) s0 s1 s2 s3 (own_nctf zc0 hc69_52) (own_nctf zc1 hc84_54) (own_nctf zc2 hc99_56) (own_nctf zc3 hc114_58)) hZ (w_ hw 44 rfl) (w_ hw 43 rfl) (by decide) (by decide) hEL hC60.1) (g := (mkF m 135 #[.val (.int p1), .val (.int p2), .val (.int p3), .val (.int (4 : Int32)), .val (.int r2), .val (.int c0), .val (.int c1), .val (.int c2), .val (.int c3), .val (.ref ta), .unset] [(.ref ta)])) rfl (by rw [hml]; rfl) (argsL := [(.ref ta)]) (rest := []) (lenOf pd_19 rfl) rfl (by show 2 * 0 + _ ≤ _; exact Nat.le_of_eq rfl) (hb hby at_135) (fun _ _ => ⟨rfl, rfl, (by decide : 4 + 2 ≤ _), (by decide : 20 + 28 ≤ _)⟩)
                dsimp only [Pt.U, Pt.locs, Pt.cells, Pt.slots] at X62 l62 y62 z62 st62 hQ62 hs62 gs62 hc62
                subst l62 y62 z62
                obtain ⟨rfl, N62, K62⟩ := hQ62
                skip
                have hS62 : s.Since T62.vm T62.heap.size := own_fold ((State.WarmedH.refl s).since 0) hk61 hs62 gs62
                have hC62 := hC60.trans hc62
                have hZ : Z.Warmed39 (s.setVm T62.vm).vm := State.Warmed39.trans (t := s.setVm s.vm) hZ hs62.1
                have hown : (s.setVm T62.vm).vm.findClass "com/example/vestline/vestline/format/CsvNamePinLaw" = some m.cls := by rw [show (s.setVm T62.vm).vm = T62.vm from rfl, hs62.1.alike.findClass]; exact hown
                have Nf62 := Fr.app Nf59 N62
                refine Goes.via (fun _ kz => st62.trans kz) ?_
                have SS := ST.keep K62 nin0 nin0
                have O3 := O1.keep K62 all0
                have Z3 := Nat.le_trans Z1 K62.1
                refine Goes.via (S' := T62.setTop (mkF m 147 #[.val (.int p1), .val (.int p2), .val (.int p3), .val (.int (4 : Int32)), .val (.int r2), .val (.int c0), .val (.int c1), .val (.int c2), .val (.int c3), .val (.ref ta), .val (.ref ta)] [(.ref ta)])) (fun tz kz => ?_) ?_
                · show Steps p.tables e below (T62.setTop (mkF m 138 #[.val (.int p1), .val (.int p2), .val (.int p3), .val (.int (4 : Int32)), .val (.int r2), .val (.int c0), .val (.int c1), .val (.int c2), .val (.int c3), .val (.ref ta), .unset] [(.ref ta)])) _
                  refine XS.astore X62.here hx rfl (hb hby at_138) rfl rfl (l' := #[.val (.int p1), .val (.int p2), .val (.int p3), .val (.int (4 : Int32)), .val (.int r2), .val (.int c0), .val (.int c1), .val (.int c2), .val (.int c3), .val (.ref ta), .val (.ref ta)]) rfl ?_
                  refine XS.aload X62.here hx rfl (hb hby at_140) rfl rfl ?_
                  refine XS.ifnullNo X62.here hx rfl (hb hby at_142) rfl ?_
                  refine XS.aload X62.here hx rfl (hb hby at_145) rfl rfl ?_
                  exact kz
                obtain ⟨cq63, kq63, q63a, q63b, q63c⟩ := isOf hZ rfl SS.1
                obtain ⟨_, _, ⟨T63, L63, k63, n63⟩, -, X63, ⟨Lc63, hQ63, l63, y63, z63⟩, st63⟩ := X62.virtualBack hx (y := n_13) (z := n_13) hown (mvT hZ (w_ hw 122 rfl)) (mvT hZ (w_ hw 89 rfl)) (notFace_of_selects (args := #[]) (mvT hZ (w_ hw 91 rfl))) (mvT hZ (w_ hw 91 rfl)) (mvT hZ (w_ hw 90 rfl)) (by decide) (backOf (W := 0) (rlen l Z a0 hw [] ta vb kb cs (0 : Int32) (4 : Int32) (4 : Int32) _ T62.heap n0 Z3 SC hcs O3 SS.1 SS.2.1 SS.2.2.1 SS.2.2.2 rfl rfl) hZ (w_ hw 92 rfl) (w_ hw 13 rfl) (by decide) (by decide)) q63a q63c (g := (mkF m 147 #[.val (.int p1), .val (.int p2), .val (.int p3), .val (.int (4 : Int32)), .val (.int r2), .val (.int c0), .val (.int c1), .val (.int c2), .val (.int c3), .val (.ref ta), .val (.ref ta)] [(.ref ta)])) rfl (by rw [hml]; rfl) (Steps.refl _) (argsL := []) (rest := []) (lenOf pd_17 rfl) rfl (by show 2 * 0 + _ ≤ _; exact Nat.le_of_eq rfl) (hb hby at_147) (fun _ _ => ⟨rfl, rfl, (by decide : 6 + 0 ≤ _), (by decide : 48 + 0 ≤ _)⟩)
                dsimp only [Pt.U, Pt.locs, Pt.cells, Pt.slots] at X63 l63 y63 z63 st63 hQ63
                subst l63 y63 z63
                obtain ⟨rfl, N63, e63⟩ := hQ63
                have Nf63 := Fr.app Nf62 N63
                refine Goes.via (fun _ kz => st63.trans kz) ?_
                refine Goes.via (S' := T63.setTop (mkF m 158 #[.val (.int p1), .val (.int p2), .val (.int p3), .val (.int (4 : Int32)), .val (.int r2), .val (.int c0), .val (.int c1), .val (.int c2), .val (.int c3), .val (.ref ta), .val (.ref ta)] [(.ref ta), (.ref ta)])) (fun tz kz => ?_) ?_
                · show Steps p.tables e below (T63.setTop (mkF m 150 #[.val (.int p1), .val (.int p2), .val (.int p3), .val (.int (4 : Int32)), .val (.int r2), .val (.int c0), .val (.int c1), .val (.int c2), .val (.int c3), .val (.ref ta), .val (.ref ta)] [(.int (4 : Int32))])) _
                  refine XS.iloadN X63.here hx rfl (hb hby at_150) rfl ?_
                  refine XS.icmpNo X63.here hx rfl (hb hby at_151) rfl (teq (by first | decide | rfl)).2 ?_
                  refine XS.aload X63.here hx rfl (hb hby at_154) rfl rfl ?_
                  refine XS.aload X63.here hx rfl (hb hby at_156) rfl rfl ?_
                  exact kz
                obtain ⟨cq64, kq64, q64a, q64b, q64c⟩ := isOf hZ e63 SS.1
                obtain ⟨_, _, ⟨T64, L64, k64, n64⟩, -, X64, ⟨Lc64, hQ64, l64, y64, z64⟩, st64⟩ := X63.virtualBack hx (y := n_28) (z := n_28) hown (mvT hZ (w_ hw 123 rfl)) (mvT hZ (w_ hw 124 rfl)) (notFace_of_selects (args := #[]) (mvT hZ (w_ hw 126 rfl))) (mvT hZ (w_ hw 126 rfl)) (mvT hZ (w_ hw 125 rfl)) (by decide) (backOf (W := 0) (rsame l Z a0 hw [] ta T62.heap n0 Z3) hZ (w_ hw 127 rfl) (w_ hw 13 rfl) (by decide) (by decide)) q64a q64c (g := (mkF m 158 #[.val (.int p1), .val (.int p2), .val (.int p3), .val (.int (4 : Int32)), .val (.int r2), .val (.int c0), .val (.int c1), .val (.int c2), .val (.int c3), .val (.ref ta), .val (.ref ta)] [(.ref ta), (.ref ta)])) rfl (by rw [hml]; rfl) (Steps.refl _) (argsL := [(.ref ta)]) (rest := []) (lenOf pd_23 rfl) rfl (by show 2 * 0 + _ ≤ _; exact Nat.le_of_eq rfl) (hb hby at_158) (fun _ _ => ⟨rfl, e63, (by decide : 6 + 0 ≤ _), (by decide : 48 + 0 ≤ _)⟩)
                dsimp only [Pt.U, Pt.locs, Pt.cells, Pt.slots] at X64 l64 y64 z64 st64 hQ64
                subst l64 y64 z64
                obtain ⟨rfl, N64, e64⟩ := hQ64
                have Nf64 := Fr.app Nf63 N64
                refine Goes.via (fun _ kz => st64.trans kz) ?_
                refine Goes.via (S' := T64.setTop (mkF m 169 #[.val (.int p1), .val (.int p2), .val (.int p3), .val (.int (4 : Int32)), .val (.int r2), .val (.int c0), .val (.int c1), .val (.int c2), .val (.int c3), .val (.ref ta), .val (.ref ta)] [(.int (1 : Int32))])) (fun tz kz => ?_) ?_
                · show Steps p.tables e below (T64.setTop (mkF m 161 #[.val (.int p1), .val (.int p2), .val (.int p3), .val (.int (4 : Int32)), .val (.int r2), .val (.int c0), .val (.int c1), .val (.int c2), .val (.int c3), .val (.ref ta), .val (.ref ta)] [(.int (1 : Int32))])) _
                  refine XS.ifNo X64.here hx rfl (hb hby at_161) rfl ((if0 _ _).trans (feq (by first | decide | rfl)).1) ?_
                  refine XS.iconst X64.here hx rfl (hb hby at_164) ?_
                  refine XS.goto X64.here hx rfl (pc0 := 165) (pc' := 169) rfl (hb hby at_165) (by decide) (by decide) ?_
                  exact kz
                exact Goes.retNH (s := s) (vm1 := T62.vm) X64 hx Bd.notSynchronized hS62 (Nat.le_refl _) e64 hZ hEL hC62 (t := .boolean) Bd.returns (by simp) (hb hby at_169) (nb_ rfl) (nb_ rfl) ⟨rfl, Nf64⟩
              · skip
                refine Goes.via (S' := T59.setTop (mkF m 135 #[.val (.int p1), .val (.int p2), .val (.int p3), .val (.int (4 : Int32)), .val (.int r2), .val (.int c0), .val (.int c1), .val (.int c2), .val (.int c3), .val (.ref ta), .unset] [(.ref ta)])) (fun tz kz => ?_) ?_
                · show Steps p.tables e below (T59.setTop (mkF m 131 #[.val (.int p1), .val (.int p2), .val (.int p3), .val (.int (4 : Int32)), .val (.int r2), .val (.int c0), .val (.int c1), .val (.int c2), .val (.int c3), .unset, .unset] [(.ref ta)])) _
                  refine XS.astore X59.here hx rfl (hb hby at_131) rfl rfl (l' := #[.val (.int p1), .val (.int p2), .val (.int p3), .val (.int (4 : Int32)), .val (.int r2), .val (.int c0), .val (.int c1), .val (.int c2), .val (.int c3), .val (.ref ta), .unset]) rfl ?_
                  refine XS.aload X59.here hx rfl (hb hby at_133) rfl rfl ?_
                  exact kz
                obtain ⟨_, _, ⟨T65, L65, k65, n65⟩, -, X65, hs65, gs65, ⟨Lc65, hQ65, l65, y65, z65, hc65⟩, st65⟩ := callSS (show Stand p l e _ (s.setVm s.vm) m _ below meth c _ _ _ _ from X59) hx (y := n_32) hown (mvT hZ (w_ hw 41 rfl)) (mvT hZ (w_ hw 42 rfl)) (mvT hZ (w_ hw 43 rfl)) (mvT hZ (w_ hw 44 rfl)) (by decide) (backOfSH (s := s) (vm0 := s.vm) (W := 0) (rnm_U4 l Z a0 hw [] ta vb kb cs fv c0 c1 c2 c3 T59.heap n0 Z1 SC hcs O1 SF hfv SA SH SL ST zc0 zc1 zc2 zc3 (own_nff zc0 hc61_50) (own_nctf zc0 hc69_52) (own_nctf zc1 hc84_54) (own_nctf zc2 hc99_56) (own_nctf zc3 hc114_58)) hZ (w_ hw 44 rfl) (w_ hw 43 rfl) (by decide) (by decide) hEL hC60.1) (g := (mkF m 135 #[.val (.int p1), .val (.int p2), .val (.int p3), .val (.int (4 : Int32)), .val (.int r2), .val (.int c0), .val (.int c1), .val (.int c2), .val (.int c3), .val (.ref ta), .unset] [(.ref ta)])) rfl (by rw [hml]; rfl) (argsL := [(.ref ta)]) (rest := []) (lenOf pd_19 rfl) rfl (by show 2 * 0 + _ ≤ _; exact Nat.le_of_eq rfl) (hb hby at_135) (fun _ _ => ⟨rfl, rfl, (by decide : 4 + 2 ≤ _), (by decide : 20 + 28 ≤ _)⟩)
                dsimp only [Pt.U, Pt.locs, Pt.cells, Pt.slots] at X65 l65 y65 z65 st65 hQ65 hs65 gs65 hc65
                subst l65 y65 z65
                obtain ⟨rfl, N65, K65⟩ := hQ65
                skip
                have hS65 : s.Since T65.vm T65.heap.size := own_fold ((State.WarmedH.refl s).since 0) hk61 hs65 gs65
                have hC65 := hC60.trans hc65
                have hZ : Z.Warmed39 (s.setVm T65.vm).vm := State.Warmed39.trans (t := s.setVm s.vm) hZ hs65.1
                have hown : (s.setVm T65.vm).vm.findClass "com/example/vestline/vestline/format/CsvNamePinLaw" = some m.cls := by rw [show (s.setVm T65.vm).vm = T65.vm from rfl, hs65.1.alike.findClass]; exact hown
                have Nf65 := Fr.app Nf59 N65
                refine Goes.via (fun _ kz => st65.trans kz) ?_
                have SS := ST.keep K65 nin0 nin0
                have O3 := O1.keep K65 all0
                have Z3 := Nat.le_trans Z1 K65.1
                refine Goes.via (S' := T65.setTop (mkF m 147 #[.val (.int p1), .val (.int p2), .val (.int p3), .val (.int (4 : Int32)), .val (.int r2), .val (.int c0), .val (.int c1), .val (.int c2), .val (.int c3), .val (.ref ta), .val (.ref ta)] [(.ref ta)])) (fun tz kz => ?_) ?_
                · show Steps p.tables e below (T65.setTop (mkF m 138 #[.val (.int p1), .val (.int p2), .val (.int p3), .val (.int (4 : Int32)), .val (.int r2), .val (.int c0), .val (.int c1), .val (.int c2), .val (.int c3), .val (.ref ta), .unset] [(.ref ta)])) _
                  refine XS.astore X65.here hx rfl (hb hby at_138) rfl rfl (l' := #[.val (.int p1), .val (.int p2), .val (.int p3), .val (.int (4 : Int32)), .val (.int r2), .val (.int c0), .val (.int c1), .val (.int c2), .val (.int c3), .val (.ref ta), .val (.ref ta)]) rfl ?_
                  refine XS.aload X65.here hx rfl (hb hby at_140) rfl rfl ?_
                  refine XS.ifnullNo X65.here hx rfl (hb hby at_142) rfl ?_
                  refine XS.aload X65.here hx rfl (hb hby at_145) rfl rfl ?_
                  exact kz
                obtain ⟨cq66, kq66, q66a, q66b, q66c⟩ := isOf hZ rfl SS.1
                obtain ⟨_, _, ⟨T66, L66, k66, n66⟩, -, X66, ⟨Lc66, hQ66, l66, y66, z66⟩, st66⟩ := X65.virtualBack hx (y := n_13) (z := n_13) hown (mvT hZ (w_ hw 122 rfl)) (mvT hZ (w_ hw 89 rfl)) (notFace_of_selects (args := #[]) (mvT hZ (w_ hw 91 rfl))) (mvT hZ (w_ hw 91 rfl)) (mvT hZ (w_ hw 90 rfl)) (by decide) (backOf (W := 0) (rlen l Z a0 hw [] ta vb kb cs (1 : Int32) (8 : Int32) (4 : Int32) _ T65.heap n0 Z3 SC hcs O3 SS.1 SS.2.1 SS.2.2.1 SS.2.2.2 rfl rfl) hZ (w_ hw 92 rfl) (w_ hw 13 rfl) (by decide) (by decide)) q66a q66c (g := (mkF m 147 #[.val (.int p1), .val (.int p2), .val (.int p3), .val (.int (4 : Int32)), .val (.int r2), .val (.int c0), .val (.int c1), .val (.int c2), .val (.int c3), .val (.ref ta), .val (.ref ta)] [(.ref ta)])) rfl (by rw [hml]; rfl) (Steps.refl _) (argsL := []) (rest := []) (lenOf pd_17 rfl) rfl (by show 2 * 0 + _ ≤ _; exact Nat.le_of_eq rfl) (hb hby at_147) (fun _ _ => ⟨rfl, rfl, (by decide : 6 + 0 ≤ _), (by decide : 48 + 0 ≤ _)⟩)
                dsimp only [Pt.U, Pt.locs, Pt.cells, Pt.slots] at X66 l66 y66 z66 st66 hQ66
                subst l66 y66 z66
                obtain ⟨rfl, N66, e66⟩ := hQ66
                have Nf66 := Fr.app Nf65 N66
                refine Goes.via (fun _ kz => st66.trans kz) ?_
                refine Goes.via (S' := T66.setTop (mkF m 158 #[.val (.int p1), .val (.int p2), .val (.int p3), .val (.int (4 : Int32)), .val (.int r2), .val (.int c0), .val (.int c1), .val (.int c2), .val (.int c3), .val (.ref ta), .val (.ref ta)] [(.ref ta), (.ref ta)])) (fun tz kz => ?_) ?_
                · show Steps p.tables e below (T66.setTop (mkF m 150 #[.val (.int p1), .val (.int p2), .val (.int p3), .val (.int (4 : Int32)), .val (.int r2), .val (.int c0), .val (.int c1), .val (.int c2), .val (.int c3), .val (.ref ta), .val (.ref ta)] [(.int (4 : Int32))])) _
                  refine XS.iloadN X66.here hx rfl (hb hby at_150) rfl ?_
                  refine XS.icmpNo X66.here hx rfl (hb hby at_151) rfl (teq (by first | decide | rfl)).2 ?_
                  refine XS.aload X66.here hx rfl (hb hby at_154) rfl rfl ?_
                  refine XS.aload X66.here hx rfl (hb hby at_156) rfl rfl ?_
                  exact kz
                obtain ⟨cq67, kq67, q67a, q67b, q67c⟩ := isOf hZ e66 SS.1
                obtain ⟨_, _, ⟨T67, L67, k67, n67⟩, -, X67, ⟨Lc67, hQ67, l67, y67, z67⟩, st67⟩ := X66.virtualBack hx (y := n_28) (z := n_28) hown (mvT hZ (w_ hw 123 rfl)) (mvT hZ (w_ hw 124 rfl)) (notFace_of_selects (args := #[]) (mvT hZ (w_ hw 126 rfl))) (mvT hZ (w_ hw 126 rfl)) (mvT hZ (w_ hw 125 rfl)) (by decide) (backOf (W := 0) (rsame l Z a0 hw [] ta T65.heap n0 Z3) hZ (w_ hw 127 rfl) (w_ hw 13 rfl) (by decide) (by decide)) q67a q67c (g := (mkF m 158 #[.val (.int p1), .val (.int p2), .val (.int p3), .val (.int (4 : Int32)), .val (.int r2), .val (.int c0), .val (.int c1), .val (.int c2), .val (.int c3), .val (.ref ta), .val (.ref ta)] [(.ref ta), (.ref ta)])) rfl (by rw [hml]; rfl) (Steps.refl _) (argsL := [(.ref ta)]) (rest := []) (lenOf pd_23 rfl) rfl (by show 2 * 0 + _ ≤ _; exact Nat.le_of_eq rfl) (hb hby at_158) (fun _ _ => ⟨rfl, e66, (by decide : 6 + 0 ≤ _), (by decide : 48 + 0 ≤ _)⟩)
                dsimp only [Pt.U, Pt.locs, Pt.cells, Pt.slots] at X67 l67 y67 z67 st67 hQ67
                subst l67 y67 z67
                obtain ⟨rfl, N67, e67⟩ := hQ67
                have Nf67 := Fr.app Nf66 N67
                refine Goes.via (fun _ kz => st67.trans kz) ?_
                refine Goes.via (S' := T67.setTop (mkF m 169 #[.val (.int p1), .val (.int p2), .val (.int p3), .val (.int (4 : Int32)), .val (.int r2), .val (.int c0), .val (.int c1), .val (.int c2), .val (.int c3), .val (.ref ta), .val (.ref ta)] [(.int (1 : Int32))])) (fun tz kz => ?_) ?_
                · show Steps p.tables e below (T67.setTop (mkF m 161 #[.val (.int p1), .val (.int p2), .val (.int p3), .val (.int (4 : Int32)), .val (.int r2), .val (.int c0), .val (.int c1), .val (.int c2), .val (.int c3), .val (.ref ta), .val (.ref ta)] [(.int (1 : Int32))])) _
                  refine XS.ifNo X67.here hx rfl (hb hby at_161) rfl ((if0 _ _).trans (feq (by first | decide | rfl)).1) ?_
                  refine XS.iconst X67.here hx rfl (hb hby at_164) ?_
                  refine XS.goto X67.here hx rfl (pc0 := 165) (pc' := 169) rfl (hb hby at_165) (by decide) (by decide) ?_
                  exact kz
                exact Goes.retNH (s := s) (vm1 := T65.vm) X67 hx Bd.notSynchronized hS65 (Nat.le_refl _) e67 hZ hEL hC65 (t := .boolean) Bd.returns (by simp) (hb hby at_169) (nb_ rfl) (nb_ rfl) ⟨rfl, Nf67⟩
            · refine Goes.via (S' := T57.setTop (mkF m 118 #[.val (.int p1), .val (.int p2), .val (.int p3), .val (.int (4 : Int32)), .val (.int r2), .val (.int c0), .val (.int c1), .val (.int c2), .val (.int c3), .unset, .unset] [(.int (1 : Int32))])) (fun tz kz => ?_) ?_
              · show Steps p.tables e below (T57.setTop (mkF m 114 #[.val (.int p1), .val (.int p2), .val (.int p3), .val (.int (4 : Int32)), .val (.int r2), .val (.int c0), .val (.int c1), .val (.int c2), .val (.int c3), .unset, .unset] [(.int (nar .boolean (own_ct c3)))])) _
                refine XS.ifNo X57.here hx rfl (hb hby at_114) rfl ((if0 _ _).trans (feq hc114_58).1) ?_
                refine XS.iconst X57.here hx rfl (hb hby at_117) ?_
                exact kz
              exact Goes.retNH (s := s) (vm1 := s.vm) X57 hx Bd.notSynchronized ((State.WarmedH.refl s).since 0) (Nat.zero_le _) e57 hZ hEL hC0 (t := .boolean) Bd.returns (by simp) (hb hby at_118) (nb_ rfl) (nb_ rfl) ⟨rfl, Nf57⟩
          · refine Goes.via (S' := T55.setTop (mkF m 103 #[.val (.int p1), .val (.int p2), .val (.int p3), .val (.int (4 : Int32)), .val (.int r2), .val (.int c0), .val (.int c1), .val (.int c2), .val (.int c3), .unset, .unset] [(.int (1 : Int32))])) (fun tz kz => ?_) ?_
            · show Steps p.tables e below (T55.setTop (mkF m 99 #[.val (.int p1), .val (.int p2), .val (.int p3), .val (.int (4 : Int32)), .val (.int r2), .val (.int c0), .val (.int c1), .val (.int c2), .val (.int c3), .unset, .unset] [(.int (nar .boolean (own_ct c2)))])) _
              refine XS.ifNo X55.here hx rfl (hb hby at_99) rfl ((if0 _ _).trans (feq hc99_56).1) ?_
              refine XS.iconst X55.here hx rfl (hb hby at_102) ?_
              exact kz
            exact Goes.retNH (s := s) (vm1 := s.vm) X55 hx Bd.notSynchronized ((State.WarmedH.refl s).since 0) (Nat.zero_le _) e55 hZ hEL hC0 (t := .boolean) Bd.returns (by simp) (hb hby at_103) (nb_ rfl) (nb_ rfl) ⟨rfl, Nf55⟩
        · refine Goes.via (S' := T53.setTop (mkF m 88 #[.val (.int p1), .val (.int p2), .val (.int p3), .val (.int (4 : Int32)), .val (.int r2), .val (.int c0), .val (.int c1), .val (.int c2), .val (.int c3), .unset, .unset] [(.int (1 : Int32))])) (fun tz kz => ?_) ?_
          · show Steps p.tables e below (T53.setTop (mkF m 84 #[.val (.int p1), .val (.int p2), .val (.int p3), .val (.int (4 : Int32)), .val (.int r2), .val (.int c0), .val (.int c1), .val (.int c2), .val (.int c3), .unset, .unset] [(.int (nar .boolean (own_ct c1)))])) _
            refine XS.ifNo X53.here hx rfl (hb hby at_84) rfl ((if0 _ _).trans (feq hc84_54).1) ?_
            refine XS.iconst X53.here hx rfl (hb hby at_87) ?_
            exact kz
          exact Goes.retNH (s := s) (vm1 := s.vm) X53 hx Bd.notSynchronized ((State.WarmedH.refl s).since 0) (Nat.zero_le _) e53 hZ hEL hC0 (t := .boolean) Bd.returns (by simp) (hb hby at_88) (nb_ rfl) (nb_ rfl) ⟨rfl, Nf53⟩
      · refine Goes.via (S' := T51.setTop (mkF m 73 #[.val (.int p1), .val (.int p2), .val (.int p3), .val (.int (4 : Int32)), .val (.int r2), .val (.int c0), .val (.int c1), .val (.int c2), .val (.int c3), .unset, .unset] [(.int (1 : Int32))])) (fun tz kz => ?_) ?_
        · show Steps p.tables e below (T51.setTop (mkF m 69 #[.val (.int p1), .val (.int p2), .val (.int p3), .val (.int (4 : Int32)), .val (.int r2), .val (.int c0), .val (.int c1), .val (.int c2), .val (.int c3), .unset, .unset] [(.int (nar .boolean (own_ct c0)))])) _
          refine XS.ifNo X51.here hx rfl (hb hby at_69) rfl ((if0 _ _).trans (feq hc69_52).1) ?_
          refine XS.iconst X51.here hx rfl (hb hby at_72) ?_
          exact kz
        exact Goes.retNH (s := s) (vm1 := s.vm) X51 hx Bd.notSynchronized ((State.WarmedH.refl s).since 0) (Nat.zero_le _) e51 hZ hEL hC0 (t := .boolean) Bd.returns (by simp) (hb hby at_73) (nb_ rfl) (nb_ rfl) ⟨rfl, Nf51⟩
    · refine Goes.via (S' := T49.setTop (mkF m 73 #[.val (.int p1), .val (.int p2), .val (.int p3), .val (.int (4 : Int32)), .val (.int r2), .val (.int c0), .val (.int c1), .val (.int c2), .val (.int c3), .unset, .unset] [(.int (1 : Int32))])) (fun tz kz => ?_) ?_
      · show Steps p.tables e below (T49.setTop (mkF m 61 #[.val (.int p1), .val (.int p2), .val (.int p3), .val (.int (4 : Int32)), .val (.int r2), .val (.int c0), .val (.int c1), .val (.int c2), .val (.int c3), .unset, .unset] [(.int (nar .boolean (own_fs c0)))])) _
        refine XS.ifYes X49.here hx rfl (pc0 := 61) (pc' := 72) rfl (hb hby at_61) rfl ((if0 _ _).trans (feq hc61_50).2) (by decide) (by decide) ?_
        refine XS.iconst X49.here hx rfl (hb hby at_72) ?_
        exact kz
      exact Goes.retNH (s := s) (vm1 := s.vm) X49 hx Bd.notSynchronized ((State.WarmedH.refl s).since 0) (Nat.zero_le _) e49 hZ hEL hC0 (t := .boolean) Bd.returns (by simp) (hb hby at_73) (nb_ rfl) (nb_ rfl) ⟨rfl, Nf49⟩
theorem own_cs {args : Array Value} {s : State} {t : Jvm.Term} {x : Int32} (ev : t.eval args s none [] s = some (.int x)) (h : (Jvm.Cond.not (Jvm.Cond.eq t (Jvm.Term.int 0))).value args s none s [] = some true) : ¬ x = (0 : Int32) := by
  rintro rfl
  have q := not_v h
  simp [Cond.value, ev, Term.int_eval] at q
theorem own_isr {args : Array Value} {s : State} {t : Jvm.Term} (h : (Jvm.Cond.isRef t).value args s none s [] = some true) : ∃ v, t.eval args s none [] s = some v ∧ v.isRef = true := by
  simp only [Cond.value] at h
  cases ht : t.eval args s none [] s with
  | none => simp [ht] at h
  | some x => exact ⟨x, rfl, by rw [ht] at h; cases x <;> simp [Value.isRef] at h ⊢⟩
set_option maxRecDepth 65536 in
set_option maxHeartbeats 40000000 in
theorem comes_1 {Post : Tables → Env → Array Value → State → Outcome → State → Prop} (hpost : ∀ tb e args s v u, (limb_1_1.after args s (.returned v) u = true ∧ limb_1_2.after args s (.returned v) u = true ∧ True) → ReturnedEndW s (.returned v) u (Jvm.fieldLocs frame_1_writes args s ++ Jvm.arrayLocs frame_1_arrays args s ++ Jvm.staticLocs frame_1_statics s) 24 1152 → Post tb e args s (.returned v) u) :
    ArmFor flags0 classFile x code maxLocals ret World_1 tables_1 room_1 Calls_1 rest_1 Pre_1 Post := by
  intro l hfl _ _ p e ha hc hk s m args below hf hA hF happ hP
  obtain ⟨hcalls, hrest, hpre⟩ := hP
  obtain ⟨-, -, -, hnamed, -, -, -, hat⟩ := (Spec.applies_iff hf).mp happ
  obtain ⟨hg, hn⟩ := and_e (Cond.before_iff.mp (show (Jvm.Cond.and given_1 narrow_1).before args s = true from hpre))
  obtain ⟨hcnt, gg0⟩ := and_e hg
  obtain ⟨ga0, gg1⟩ := and_e gg0
  obtain ⟨ga1, gg2⟩ := and_e gg1
  obtain ⟨w0, w1, w2, rfl⟩ : ∃ w0 w1 w2 : Value, args = #[w0, w1, w2] := by
    have hs : args.size = 3 := by simpa [Cond.value, given_1] using hcnt
    obtain ⟨L⟩ := args
    match L, hs with
    | [w0, w1, w2], _ => exact ⟨w0, w1, w2, rfl⟩
  have hw := fun d (hd : d ∈ tables_1) => atoms_spec (ws := Jvm.Cond.code x code maxLocals ret :: tables_1) hat d (List.mem_cons_of_mem _ hd)
  have hfit : Fit s := fun {y c} hc i hi => by
    obtain ⟨ha, rfl⟩ := Array.getElem?_eq_some_iff.mp hc
    have q := List.all_eq_true.mp ((Array.all_eq_true_iff_forall_mem.mp hF) _ (Array.getElem_mem ha)) i (List.mem_range.mpr hi)
    simpa [Array.getElem?_eq_getElem hi] using q
  obtain ⟨i0, ei0⟩ := is_v ga0
  obtain rfl : w0 = (.int i0) := Option.some.inj ei0
  obtain ⟨i1, ei1⟩ := is_v ga1
  obtain rfl : w1 = (.int i1) := Option.some.inj ei1
  obtain ⟨i2, ei2⟩ := is_v gg2
  obtain rfl : w2 = (.int i2) := Option.some.inj ei2
  obtain ⟨hsets, hown0⟩ := atoms_of _ (rest_1_c_eq ▸ (show rest_1_c.before _ s = true from hrest))
  obtain ⟨cs, evc⟩ := is_v (Cond.before_iff.mp (hsets _ (List.mem_of_getElem? (i := 1) rfl)))
  have SC := Sta.start evc (Or.inl (hsets _ (List.mem_of_getElem? (i := 0) rfl)))
  have hcs : ¬ cs = (0 : Int32) := own_cs evc (Cond.before_iff.mp (hsets _ (List.mem_of_getElem? (i := 2) rfl)))
  have SA := Sta.start (eqv_i (Term.int_eval (1)) (Cond.before_iff.mp (hsets _ (List.mem_of_getElem? (i := 12) rfl)))) (Or.inl (hsets _ (List.mem_of_getElem? (i := 11) rfl)))
  have SH := Sta.start (eqv_i (Term.int_eval (0)) (Cond.before_iff.mp (hsets _ (List.mem_of_getElem? (i := 15) rfl)))) (Or.inl (hsets _ (List.mem_of_getElem? (i := 14) rfl)))
  have SL := Sta.start (eqv_i (Term.int_eval (8)) (Cond.before_iff.mp (hsets _ (List.mem_of_getElem? (i := 18) rfl)))) (Or.inl (hsets _ (List.mem_of_getElem? (i := 17) rfl)))
  obtain ⟨fv, evf, hfv⟩ := own_isr (Cond.before_iff.mp (hsets _ (List.mem_of_getElem? (i := 8) rfl)))
  have SF := Sta.start evf (Or.inl (hsets _ (List.mem_of_getElem? (i := 7) rfl)))
  have hCH := CHv.start (own_EW hw) (fun p hp => hcalls.1 p hp) (hsets _ (List.mem_of_getElem? (i := 2) rfl)) (w_ hw 30 rfl) (w_ hw 12 rfl)
  obtain ⟨n, o, h1, h2, h3, _, L, rfl, ⟨rfl, N⟩, -, hq⟩ := rm0 l s _ hw tables_1 i0 i1 i2 cs fv s.heap s.heap.size (Nat.le_refl _) SC hcs (Old.start s) SF hfv SA SH SL p e ha hc hk s m _ below hf ((Spec.applies_iff_loose hf).mp happ).1 ⟨rfl, State.Warmed39.refl s, rfl, hCH⟩ trivial
  refine ⟨n, _, h1, h2, h3, hpost _ _ _ _ _ _ ⟨Cond.after_iff.mpr rfl, Cond.after_iff.mpr (eq_i res_at (Term.int_eval (1)) rfl), trivial⟩ ⟨hq.1, hq.2.1, hq.2.2.1, (hq.2.2.2.sift fun y hy => Or.inr (N y hy)).mono (by decide) (by decide)⟩⟩
theorem main_1_1 : Claimed_1_1 := comes_1 fun _ _ _ _ _ _ h hF => ⟨h.1, hF⟩
theorem main_1_2 : Claimed_1_2 := comes_1 fun _ _ _ _ _ _ h hF => ⟨h.2.1, hF⟩
end Jvm.Pilot.@@N@@
namespace Jvm.Pilot.@@N@@
open Jvm Jvm.ClassFile Sem Op Lib Jvm.Free Jvm.Stand Jvm.Pilot.@@N@@.Jvm.D
/-! MADE BY PROGRAM (witnessworld.py) out of the Statement's table words and the real class files: 22 classes; the members and pool entries that the words name. The judged class is class 1, her method 1. -/
namespace start1
open Jvm.ClassFile
def u (s : String) : CpInfo := .utf8 (stringToUtf16 s)
/-- a pool by its gaps: so many unusable entries, then the entry; so many at the end -/
def gap : Nat → List CpInfo → List CpInfo
  | 0, r => r
  | n + 1, r => .unusable :: gap n r
def poolList (es : List (Nat × CpInfo)) (last : Nat) : List CpInfo := es.foldr (fun e r => gap e.1 (e.2 :: r)) (gap last [])
def pool (es : List (Nat × CpInfo)) (last : Nat) : Array CpInfo := ⟨poolList es last⟩
def fileOf (pool : Array CpInfo) (this : Nat) (attrs : Array Attribute := #[]) (ms : Array MethodInfo := #[]) (fl : Nat := 33) (sup : Nat := 0) (ifs : Array Nat := #[]) (fds : Array FieldInfo := #[]) : ClassFile where
  minorVersion := 0
  majorVersion := 65
  constantPool := pool
  accessFlags := fl
  thisClass := this
  superClass := sup
  interfaces := ifs
  fields := fds
  methods := ms
  attributes := attrs
def plain (name : String) (sup : Option ClassId) : Class where
  name := name
  kind := .ordinary
  loader := none
  accessFlags := 33
  super := sup
  interfaces := #[]
  cf := none
  fields := #[]
  methods := #[]
  instanceTypes := #[]
  staticTypes := #[]
  resolved := #[]
  callSites := []
  init := .initialized
  statics := none
  mirror := none

def pool0 : Array CpInfo := pool [(5, u "<init>"), (0, u "()V"), (1, .class_ 10), (1, u "java/lang/Object")] 113

def k0c0 : Code := { maxStack := 0, maxLocals := 1, code := object_method_1_code, exceptionTable := #[], attributes := #[] }
def k0m0 : Method := { name := "<init>", desc := "()V", sig := { parameters := [], returnType := none }, accessFlags := 1, code := some k0c0 }
/-- java/lang/Object -/
def k0 : Class := { plain "java/lang/Object" none with
  accessFlags := 33
  interfaces := #[]
  cf := some (fileOf pool0 8 #[] #[{ accessFlags := 1, nameIndex := 5, descriptorIndex := 6, attributes := #[] }] 33 0 #[] #[])
  fields := #[]
  methods := #[k0m0]
  instanceTypes := #[]
  staticTypes := #[]
  resolved := Array.replicate 124 none
  statics := none }

def pool1 : Array CpInfo := pool [(2, .class_ 4), (1, u "java/lang/Object"), (0, u "<init>"), (0, u "()V"), (0, .integer 65535), (0, .methodref 9 10), (0, .class_ 11), (0, .nameAndType 12 13), (0, u "com/example/vestline/vestline/format/CsvNamePinLaw"), (0, u "formulaStart"), (0, u "(C)Z"), (0, .methodref 9 15), (0, .nameAndType 16 13), (0, u "control"), (0, .methodref 9 18), (0, .nameAndType 19 20), (0, u "make"), (0, u "(ICCCC)Ljava/lang/String;"), (0, .methodref 22 23), (0, .class_ 24), (0, .nameAndType 25 26), (0, u "com/example/vestline/vestline/format/Csv"), (0, u "name"), (0, u "(Ljava/lang/String;)Ljava/lang/String;"), (0, .methodref 28 29), (0, .class_ 30), (0, .nameAndType 31 32), (0, u "java/lang/String"), (0, u "length"), (0, u "()I"), (0, .methodref 28 34), (0, .nameAndType 35 36), (0, u "equals"), (0, u "(Ljava/lang/Object;)Z"), (0, .methodref 28 38), (0, .nameAndType 5 39), (0, u "([C)V"), (2, u "law"), (0, u "(III)Z")] 3

def k1m0 : Method := { name := "<init>", desc := "()V", sig := { parameters := [], returnType := none }, accessFlags := 1, code := none }
def k1c1 : Code := { maxStack := 5, maxLocals := 11, code := code, exceptionTable := #[], attributes := #[] }
def k1m1 : Method := { name := "law", desc := "(III)Z", sig := { parameters := [.int, .int, .int], returnType := some .boolean }, accessFlags := 9, code := some k1c1 }
def k1c2 : Code := { maxStack := 2, maxLocals := 1, code := method_3_code, exceptionTable := #[], attributes := #[] }
def k1m2 : Method := { name := "control", desc := "(C)Z", sig := { parameters := [.char], returnType := some .boolean }, accessFlags := 10, code := some k1c2 }
def k1c3 : Code := { maxStack := 2, maxLocals := 1, code := method_4_code, exceptionTable := #[], attributes := #[] }
def k1m3 : Method := { name := "formulaStart", desc := "(C)Z", sig := { parameters := [.char], returnType := some .boolean }, accessFlags := 10, code := some k1c3 }
def k1c4 : Code := { maxStack := 6, maxLocals := 5, code := method_5_code, exceptionTable := #[], attributes := #[] }
def k1m4 : Method := { name := "make", desc := "(ICCCC)Ljava/lang/String;", sig := { parameters := [.int, .char, .char, .char, .char], returnType := some (.object "java/lang/String") }, accessFlags := 10, code := some k1c4 }
/-- com/example/vestline/vestline/format/CsvNamePinLaw -/
def k1 : Class := { plain "com/example/vestline/vestline/format/CsvNamePinLaw" (some 0) with
  accessFlags := 49
  interfaces := #[]
  cf := some (fileOf pool1 9 #[] #[{ accessFlags := 1, nameIndex := 5, descriptorIndex := 6, attributes := #[] }, { accessFlags := 9, nameIndex := 42, descriptorIndex := 43, attributes := #[] }, { accessFlags := 10, nameIndex := 16, descriptorIndex := 13, attributes := #[] }, { accessFlags := 10, nameIndex := 12, descriptorIndex := 13, attributes := #[] }, { accessFlags := 10, nameIndex := 19, descriptorIndex := 20, attributes := #[] }] 49 2 #[] #[])
  fields := #[]
  methods := #[k1m0, k1m1, k1m2, k1m3, k1m4]
  instanceTypes := #[]
  staticTypes := #[]
  resolved := Array.replicate 47 none
  statics := none }

def pool2 : Array CpInfo := pool [(1, .class_ 2), (0, u "java/io/Serializable"), (0, .class_ 4), (0, u "java/lang/Object")] 2

/-- java/io/Serializable -/
def k2 : Class := { plain "java/io/Serializable" (some 0) with
  accessFlags := 1537
  interfaces := #[]
  cf := some (fileOf pool2 1 #[] #[] 1537 3 #[] #[])
  fields := #[]
  methods := #[]
  instanceTypes := #[]
  staticTypes := #[]
  resolved := Array.replicate 7 none
  statics := none }

def pool3 : Array CpInfo := pool [(1, .class_ 2), (0, u "java/lang/Comparable"), (0, .class_ 4), (0, u "java/lang/Object")] 7

/-- java/lang/Comparable -/
def k3 : Class := { plain "java/lang/Comparable" (some 0) with
  accessFlags := 1537
  interfaces := #[]
  cf := some (fileOf pool3 1 #[] #[] 1537 3 #[] #[])
  fields := #[]
  methods := #[]
  instanceTypes := #[]
  staticTypes := #[]
  resolved := Array.replicate 12 none
  statics := none }

def pool4 : Array CpInfo := pool [(2, .class_ 4), (1, u "java/lang/CharSequence"), (42, .class_ 48), (0, u "java/lang/CharSequence$1CodePointIterator"), (10, .class_ 60), (0, u "java/lang/CharSequence$1CharIterator"), (5, .class_ 67), (0, u "java/lang/Object")] 63

/-- java/lang/CharSequence -/
def k4 : Class := { plain "java/lang/CharSequence" (some 0) with
  accessFlags := 1537
  interfaces := #[]
  cf := some (fileOf pool4 2 #[.nestMembers #[47, 59]] #[] 1537 66 #[] #[])
  fields := #[]
  methods := #[]
  instanceTypes := #[]
  staticTypes := #[]
  resolved := Array.replicate 131 none
  statics := none }

def pool5 : Array CpInfo := pool [(1, .class_ 2), (0, u "java/lang/constant/Constable"), (0, .class_ 4), (0, u "java/lang/Object")] 6

/-- java/lang/constant/Constable -/
def k5 : Class := { plain "java/lang/constant/Constable" (some 0) with
  accessFlags := 1537
  interfaces := #[]
  cf := some (fileOf pool5 1 #[] #[] 1537 3 #[] #[])
  fields := #[]
  methods := #[]
  instanceTypes := #[]
  staticTypes := #[]
  resolved := Array.replicate 11 none
  statics := none }

def pool6 : Array CpInfo := pool [(1, .class_ 2), (0, u "java/lang/constant/ConstantDesc"), (0, .class_ 4), (0, u "java/lang/Object")] 32

/-- java/lang/constant/ConstantDesc -/
def k6 : Class := { plain "java/lang/constant/ConstantDesc" (some 0) with
  accessFlags := 1537
  interfaces := #[]
  cf := some (fileOf pool6 1 #[] #[] 1537 3 #[] #[])
  fields := #[]
  methods := #[]
  instanceTypes := #[]
  staticTypes := #[]
  resolved := Array.replicate 37 none
  statics := none }

def pool7 : Array CpInfo := pool [(1, .methodref 2 3), (0, .class_ 4), (0, .nameAndType 5 6), (0, u "java/lang/Object"), (0, u "<init>"), (0, u "()V"), (2, .fieldref 10 11), (0, .class_ 12), (0, .nameAndType 13 14), (0, u "java/lang/String"), (0, u "value"), (0, u "[B"), (0, .fieldref 10 16), (0, .nameAndType 17 18), (0, u "coder"), (0, u "B"), (2, u "hash"), (0, u "I"), (2, u "hashIsZero"), (0, u "Z"), (0, .methodref 10 28), (0, .nameAndType 5 29), (0, u "([CIILjava/lang/Void;)V"), (8, .fieldref 10 39), (0, .nameAndType 40 26), (0, u "COMPACT_STRINGS"), (1, .class_ 44), (1, u "java/lang/StringUTF16"), (0, u "compress"), (1, .methodref 42 48), (0, .nameAndType 49 50), (0, u "coderFromArrayLen"), (0, u "([BI)B"), (56, .class_ 109), (1, u "java/lang/StringLatin1"), (32, u "()Z"), (34, .methodref 42 178), (0, .nameAndType 45 179), (0, u "([CII)[B"), (154, u "()I"), (0, .methodref 10 336), (0, .nameAndType 17 337), (0, u "()B"), (25, u "([BI)C"), (27, u "(II)V"), (35, u "(I)C"), (64, .methodref 10 493), (0, .nameAndType 494 142), (0, u "isLatin1"), (0, .methodref 107 496), (0, .nameAndType 497 363), (0, u "charAt"), (0, .methodref 42 496), (2, u "checkIndex"), (3, .methodref 10 506), (0, .nameAndType 507 334), (0, u "length"), (35, u "equals"), (29, u "(Ljava/lang/Object;)Z"), (1, .class_ 576), (0, u "java/lang/CharSequence"), (22, u "CASE_INSENSITIVE_ORDER"), (0, u "Ljava/util/Comparator;"), (32, .methodref 10 634), (0, .nameAndType 635 636), (0, u "indexOf"), (0, u "(II)I"), (0, .methodref 107 638), (0, .nameAndType 635 639), (0, u "([BIII)I"), (52, u "isEmpty"), (72, u "(I)I"), (244, u "([C)V"), (42, .fieldref 1054 1055), (0, .class_ 1056), (0, .nameAndType 1057 1058), (0, u "jdk/internal/util/Preconditions"), (0, u "SIOOBE_FORMATTER"), (0, u "Ljava/util/function/BiFunction;"), (0, .methodref 1054 1060), (0, .nameAndType 501 1061), (0, u "(IILjava/util/function/BiFunction;)I"), (39, u "serialPersistentFields"), (0, u "[Ljava/io/ObjectStreamField;"), (0, .class_ 1104), (0, u "java/lang/String$CaseInsensitiveComparator"), (1, .class_ 1107), (0, u "java/io/Serializable"), (0, .class_ 1109), (0, u "java/lang/Comparable"), (0, .class_ 1111), (0, u "java/lang/constant/Constable"), (0, .class_ 1113), (0, u "java/lang/constant/ConstantDesc"), (2, u "serialVersionUID"), (0, u "J"), (3, u "REPL"), (0, u "C"), (2, u "LATIN1"), (1, u "UTF16")] 323

def k7m0 : Method := { name := "<init>", desc := "()V", sig := { parameters := [], returnType := none }, accessFlags := 1, code := none }
def k7c1 : Code := { maxStack := 5, maxLocals := 2, code := jdk_42_method_3_code, exceptionTable := #[], attributes := #[] }
def k7m1 : Method := { name := "<init>", desc := "([C)V", sig := { parameters := [(.array .char)], returnType := none }, accessFlags := 1, code := some k7c1 }
def k7c2 : Code := { maxStack := 2, maxLocals := 1, code := jdk_42_method_54_code, exceptionTable := #[], attributes := #[] }
def k7m2 : Method := { name := "length", desc := "()I", sig := { parameters := [], returnType := some .int }, accessFlags := 1, code := some k7c2 }
def k7c3 : Code := { maxStack := 1, maxLocals := 1, code := jdk_42_method_55_code, exceptionTable := #[], attributes := #[] }
def k7m3 : Method := { name := "isEmpty", desc := "()Z", sig := { parameters := [], returnType := some .boolean }, accessFlags := 1, code := some k7c3 }
def k7c4 : Code := { maxStack := 2, maxLocals := 2, code := jdk_42_method_56_code, exceptionTable := #[], attributes := #[] }
def k7m4 : Method := { name := "charAt", desc := "(I)C", sig := { parameters := [.int], returnType := some .char }, accessFlags := 1, code := some k7c4 }
def k7c5 : Code := { maxStack := 2, maxLocals := 3, code := jdk_42_method_66_code, exceptionTable := #[], attributes := #[] }
def k7m5 : Method := { name := "equals", desc := "(Ljava/lang/Object;)Z", sig := { parameters := [(.object "java/lang/Object")], returnType := some .boolean }, accessFlags := 1, code := some k7c5 }
def k7c6 : Code := { maxStack := 3, maxLocals := 2, code := jdk_42_method_79_code, exceptionTable := #[], attributes := #[] }
def k7m6 : Method := { name := "indexOf", desc := "(I)I", sig := { parameters := [.int], returnType := some .int }, accessFlags := 1, code := some k7c6 }
def k7c7 : Code := { maxStack := 4, maxLocals := 3, code := jdk_42_method_80_code, exceptionTable := #[], attributes := #[] }
def k7m7 : Method := { name := "indexOf", desc := "(II)I", sig := { parameters := [.int, .int], returnType := some .int }, accessFlags := 1, code := some k7c7 }
def k7c8 : Code := { maxStack := 4, maxLocals := 6, code := jdk_42_method_149_code, exceptionTable := #[], attributes := #[] }
def k7m8 : Method := { name := "<init>", desc := "([CIILjava/lang/Void;)V", sig := { parameters := [(.array .char), .int, .int, (.object "java/lang/Void")], returnType := none }, accessFlags := 2, code := some k7c8 }
def k7c9 : Code := { maxStack := 1, maxLocals := 1, code := jdk_42_method_152_code, exceptionTable := #[], attributes := #[] }
def k7m9 : Method := { name := "coder", desc := "()B", sig := { parameters := [], returnType := some .byte }, accessFlags := 0, code := some k7c9 }
def k7c10 : Code := { maxStack := 1, maxLocals := 1, code := jdk_42_method_154_code, exceptionTable := #[], attributes := #[] }
def k7m10 : Method := { name := "isLatin1", desc := "()Z", sig := { parameters := [], returnType := some .boolean }, accessFlags := 0, code := some k7c10 }
def k7c11 : Code := { maxStack := 3, maxLocals := 2, code := jdk_42_method_155_code, exceptionTable := #[], attributes := #[] }
def k7m11 : Method := { name := "checkIndex", desc := "(II)V", sig := { parameters := [.int, .int], returnType := none }, accessFlags := 8, code := some k7c11 }
/-- java/lang/String -/
def k7 : Class := { plain "java/lang/String" (some 0) with
  accessFlags := 49
  interfaces := #[2, 3, 4, 5, 6]
  cf := some (fileOf pool7 10 #[.nestMembers #[1103]] #[{ accessFlags := 1, nameIndex := 5, descriptorIndex := 6, attributes := #[] }, { accessFlags := 1, nameIndex := 5, descriptorIndex := 1010, attributes := #[] }, { accessFlags := 1, nameIndex := 507, descriptorIndex := 334, attributes := #[] }, { accessFlags := 1, nameIndex := 692, descriptorIndex := 142, attributes := #[] }, { accessFlags := 1, nameIndex := 497, descriptorIndex := 427, attributes := #[] }, { accessFlags := 1, nameIndex := 543, descriptorIndex := 573, attributes := #[] }, { accessFlags := 1, nameIndex := 635, descriptorIndex := 765, attributes := #[] }, { accessFlags := 1, nameIndex := 635, descriptorIndex := 636, attributes := #[] }, { accessFlags := 2, nameIndex := 5, descriptorIndex := 29, attributes := #[] }, { accessFlags := 0, nameIndex := 17, descriptorIndex := 337, attributes := #[] }, { accessFlags := 0, nameIndex := 494, descriptorIndex := 142, attributes := #[] }, { accessFlags := 8, nameIndex := 501, descriptorIndex := 391, attributes := #[] }] 49 2 #[1106, 1108, 575, 1110, 1112] #[{ accessFlags := 18, nameIndex := 13, descriptorIndex := 14, attributes := #[] }, { accessFlags := 18, nameIndex := 17, descriptorIndex := 18, attributes := #[] }, { accessFlags := 2, nameIndex := 21, descriptorIndex := 22, attributes := #[] }, { accessFlags := 2, nameIndex := 25, descriptorIndex := 26, attributes := #[] }, { accessFlags := 26, nameIndex := 1116, descriptorIndex := 1117, attributes := #[] }, { accessFlags := 24, nameIndex := 40, descriptorIndex := 26, attributes := #[] }, { accessFlags := 26, nameIndex := 1101, descriptorIndex := 1102, attributes := #[] }, { accessFlags := 26, nameIndex := 1121, descriptorIndex := 1122, attributes := #[] }, { accessFlags := 25, nameIndex := 599, descriptorIndex := 600, attributes := #[] }, { accessFlags := 24, nameIndex := 1125, descriptorIndex := 18, attributes := #[] }, { accessFlags := 24, nameIndex := 1127, descriptorIndex := 18, attributes := #[] }])
  fields := #[{ name := "value", type := (.array .byte), accessFlags := 18, slot := 0, constantValue := 0 }, { name := "coder", type := .byte, accessFlags := 18, slot := 1, constantValue := 0 }, { name := "hash", type := .int, accessFlags := 2, slot := 2, constantValue := 0 }, { name := "hashIsZero", type := .boolean, accessFlags := 2, slot := 3, constantValue := 0 }, { name := "serialVersionUID", type := .long, accessFlags := 26, slot := 0, constantValue := 0 }, { name := "COMPACT_STRINGS", type := .boolean, accessFlags := 24, slot := 1, constantValue := 0 }, { name := "serialPersistentFields", type := (.array (.object "java/io/ObjectStreamField")), accessFlags := 26, slot := 2, constantValue := 0 }, { name := "REPL", type := .char, accessFlags := 26, slot := 3, constantValue := 0 }, { name := "CASE_INSENSITIVE_ORDER", type := (.object "java/util/Comparator"), accessFlags := 25, slot := 4, constantValue := 0 }, { name := "LATIN1", type := .byte, accessFlags := 24, slot := 5, constantValue := 0 }, { name := "UTF16", type := .byte, accessFlags := 24, slot := 6, constantValue := 0 }]
  methods := #[k7m0, k7m1, k7m2, k7m3, k7m4, k7m5, k7m6, k7m7, k7m8, k7m9, k7m10, k7m11]
  instanceTypes := #[(.array .byte), .byte, .int, .boolean]
  staticTypes := #[.long, .boolean, (.array (.object "java/io/ObjectStreamField")), .char, (.object "java/util/Comparator"), .byte, .byte]
  resolved := Array.replicate 1451 none
  statics := some 0 }

def pool8 : Array CpInfo := pool [(3, .class_ 4), (0, u "java/lang/String"), (1, .class_ 8), (1, u "java/lang/Object"), (0, u "<init>"), (0, u "()V"), (0, .methodref 12 13), (0, .class_ 14), (0, .nameAndType 15 16), (0, u "java/lang/StringUTF16"), (0, u "newBytesLength"), (0, u "(I)I"), (3, .integer 1073741823), (23, .fieldref 12 45), (0, .nameAndType 46 47), (0, u "$assertionsDisabled"), (0, u "Z"), (0, .methodref 12 49), (0, .nameAndType 50 51), (0, u "length"), (0, u "([B)I"), (7, .fieldref 12 60), (0, .nameAndType 61 62), (0, u "HI_BYTE_SHIFT"), (0, u "I"), (0, .fieldref 12 64), (0, .nameAndType 65 62), (0, u "LO_BYTE_SHIFT"), (1, .methodref 12 68), (0, .nameAndType 69 70), (0, u "checkIndex"), (0, u "(I[B)V"), (0, .methodref 12 72), (0, .nameAndType 73 74), (0, u "getChar"), (0, u "([BI)C"), (32, .methodref 12 108), (0, .nameAndType 109 110), (0, u "newBytesFor"), (0, u "(I)[B"), (0, .methodref 12 112), (0, .nameAndType 113 114), (0, u "putChar"), (0, u "([BII)V"), (0, .methodref 12 116), (0, .nameAndType 117 118), (0, u "compress"), (0, u "([CI[BII)I"), (0, .methodref 12 120), (0, .nameAndType 121 122), (0, u "toBytes"), (0, u "([CII)[B"), (138, u "coderFromArrayLen"), (0, u "([BI)B"), (106, .class_ 371), (1, u "java/lang/StringUTF16$LinesSpliterator"), (20, u "charAt"), (21, .methodref 3 415), (0, .nameAndType 69 416), (0, u "(II)V"), (13, u "MAX_LENGTH"), (196, .class_ 628), (0, u "java/lang/StringUTF16$CodePointsSpliterator"), (0, .class_ 630), (0, u "java/lang/StringUTF16$CharsSpliterator")] 4

def k8m0 : Method := { name := "<init>", desc := "()V", sig := { parameters := [], returnType := none }, accessFlags := 0, code := none }
def k8c1 : Code := { maxStack := 1, maxLocals := 1, code := jdk_52_method_2_code, exceptionTable := #[], attributes := #[] }
def k8m1 : Method := { name := "newBytesFor", desc := "(I)[B", sig := { parameters := [.int], returnType := some (.array .byte) }, accessFlags := 9, code := some k8c1 }
def k8c2 : Code := { maxStack := 4, maxLocals := 1, code := jdk_52_method_3_code, exceptionTable := #[], attributes := #[] }
def k8m2 : Method := { name := "newBytesLength", desc := "(I)I", sig := { parameters := [.int], returnType := some .int }, accessFlags := 9, code := some k8c2 }
def k8c3 : Code := { maxStack := 4, maxLocals := 3, code := jdk_52_method_4_code, exceptionTable := #[], attributes := #[] }
def k8m3 : Method := { name := "putChar", desc := "([BII)V", sig := { parameters := [(.array .byte), .int, .int], returnType := none }, accessFlags := 8, code := some k8c3 }
def k8c4 : Code := { maxStack := 3, maxLocals := 2, code := jdk_52_method_5_code, exceptionTable := #[], attributes := #[] }
def k8m4 : Method := { name := "getChar", desc := "([BI)C", sig := { parameters := [(.array .byte), .int], returnType := some .char }, accessFlags := 8, code := some k8c4 }
def k8c5 : Code := { maxStack := 2, maxLocals := 1, code := jdk_52_method_6_code, exceptionTable := #[], attributes := #[] }
def k8m5 : Method := { name := "length", desc := "([B)I", sig := { parameters := [(.array .byte)], returnType := some .int }, accessFlags := 9, code := some k8c5 }
def k8c6 : Code := { maxStack := 4, maxLocals := 5, code := jdk_52_method_14_code, exceptionTable := #[], attributes := #[] }
def k8m6 : Method := { name := "toBytes", desc := "([CII)[B", sig := { parameters := [(.array .char), .int, .int], returnType := some (.array .byte) }, accessFlags := 9, code := some k8c6 }
def k8c7 : Code := { maxStack := 2, maxLocals := 2, code := jdk_52_method_15_code, exceptionTable := #[], attributes := #[] }
def k8m7 : Method := { name := "coderFromArrayLen", desc := "([BI)B", sig := { parameters := [(.array .byte), .int], returnType := some .byte }, accessFlags := 8, code := some k8c7 }
def k8c8 : Code := { maxStack := 5, maxLocals := 6, code := jdk_52_method_16_code, exceptionTable := #[], attributes := #[] }
def k8m8 : Method := { name := "compress", desc := "([CII)[B", sig := { parameters := [(.array .char), .int, .int], returnType := some (.array .byte) }, accessFlags := 9, code := some k8c8 }
def k8c9 : Code := { maxStack := 3, maxLocals := 7, code := jdk_52_method_21_code, exceptionTable := #[], attributes := #[] }
def k8m9 : Method := { name := "compress", desc := "([CI[BII)I", sig := { parameters := [(.array .char), .int, (.array .byte), .int, .int], returnType := some .int }, accessFlags := 9, code := some k8c9 }
def k8c10 : Code := { maxStack := 2, maxLocals := 2, code := jdk_52_method_83_code, exceptionTable := #[], attributes := #[] }
def k8m10 : Method := { name := "charAt", desc := "([BI)C", sig := { parameters := [(.array .byte), .int], returnType := some .char }, accessFlags := 9, code := some k8c10 }
def k8c11 : Code := { maxStack := 2, maxLocals := 2, code := jdk_52_method_91_code, exceptionTable := #[], attributes := #[] }
def k8m11 : Method := { name := "checkIndex", desc := "(I[B)V", sig := { parameters := [.int, (.array .byte)], returnType := none }, accessFlags := 9, code := some k8c11 }
/-- java/lang/StringUTF16 -/
def k8 : Class := { plain "java/lang/StringUTF16" (some 0) with
  accessFlags := 48
  interfaces := #[]
  cf := some (fileOf pool8 12 #[.nestMembers #[627, 629, 369]] #[{ accessFlags := 0, nameIndex := 9, descriptorIndex := 10, attributes := #[] }, { accessFlags := 9, nameIndex := 109, descriptorIndex := 110, attributes := #[] }, { accessFlags := 9, nameIndex := 15, descriptorIndex := 16, attributes := #[] }, { accessFlags := 8, nameIndex := 113, descriptorIndex := 114, attributes := #[] }, { accessFlags := 8, nameIndex := 73, descriptorIndex := 74, attributes := #[] }, { accessFlags := 9, nameIndex := 50, descriptorIndex := 51, attributes := #[] }, { accessFlags := 9, nameIndex := 121, descriptorIndex := 122, attributes := #[] }, { accessFlags := 8, nameIndex := 261, descriptorIndex := 262, attributes := #[] }, { accessFlags := 9, nameIndex := 117, descriptorIndex := 122, attributes := #[] }, { accessFlags := 9, nameIndex := 117, descriptorIndex := 118, attributes := #[] }, { accessFlags := 9, nameIndex := 392, descriptorIndex := 74, attributes := #[] }, { accessFlags := 9, nameIndex := 69, descriptorIndex := 70, attributes := #[] }] 48 6 #[] #[{ accessFlags := 26, nameIndex := 61, descriptorIndex := 62, attributes := #[] }, { accessFlags := 26, nameIndex := 65, descriptorIndex := 62, attributes := #[] }, { accessFlags := 24, nameIndex := 430, descriptorIndex := 62, attributes := #[] }, { accessFlags := 4120, nameIndex := 46, descriptorIndex := 47, attributes := #[] }])
  fields := #[{ name := "HI_BYTE_SHIFT", type := .int, accessFlags := 26, slot := 0, constantValue := 0 }, { name := "LO_BYTE_SHIFT", type := .int, accessFlags := 26, slot := 1, constantValue := 0 }, { name := "MAX_LENGTH", type := .int, accessFlags := 24, slot := 2, constantValue := 0 }, { name := "$assertionsDisabled", type := .boolean, accessFlags := 4120, slot := 3, constantValue := 0 }]
  methods := #[k8m0, k8m1, k8m2, k8m3, k8m4, k8m5, k8m6, k8m7, k8m8, k8m9, k8m10, k8m11]
  instanceTypes := #[]
  staticTypes := #[.int, .int, .int, .boolean]
  resolved := Array.replicate 635 none
  statics := some 1 }

def pool9 : Array CpInfo := pool [(2, .class_ 4), (1, u "java/lang/Object"), (0, u "<init>"), (0, u "()V"), (6, .class_ 14), (0, u "com/example/vestline/vestline/format/Csv$Splitter"), (4, .class_ 21), (1, u "com/example/vestline/vestline/format/Csv"), (22, u "()Z"), (11, u "()I"), (17, .class_ 75), (0, u "java/lang/String"), (18, u "indexOf"), (3, u "(Ljava/lang/String;)Ljava/lang/String;"), (28, .class_ 128), (0, u "com/example/vestline/vestline/format/Csv$Row"), (7, .class_ 138), (1, u "com/example/vestline/vestline/format/Csv$RowReader"), (1, .methodref 74 141), (0, .nameAndType 142 44), (0, u "isEmpty"), (0, .string 144), (0, u "=+-@\t\r"), (0, .methodref 74 146), (0, .nameAndType 147 148), (0, u "charAt"), (0, u "(I)C"), (0, .methodref 74 150), (0, .nameAndType 94 151), (0, u "(I)I"), (12, .methodref 19 165), (0, .nameAndType 166 98), (0, u "printable"), (0, .methodref 74 168), (0, .nameAndType 169 56), (0, u "length"), (0, .methodref 171 172), (0, .class_ 173), (0, .nameAndType 174 175), (0, u "java/lang/Character"), (0, u "isISOControl"), (0, u "(C)Z"), (22, u "FORMULA_STARTS"), (0, u "Ljava/lang/String;"), (9, u "name"), (4, .class_ 215), (0, u "com/example/vestline/vestline/format/Csv$Row$NumberReader"), (0, .class_ 217), (0, u "com/example/vestline/vestline/format/Csv$RecordWriter")] 36

def k9m0 : Method := { name := "<init>", desc := "()V", sig := { parameters := [], returnType := none }, accessFlags := 2, code := none }
def k9c1 : Code := { maxStack := 4, maxLocals := 1, code := prog_10_method_4_code, exceptionTable := #[], attributes := #[] }
def k9m1 : Method := { name := "printable", desc := "(Ljava/lang/String;)Ljava/lang/String;", sig := { parameters := [(.object "java/lang/String")], returnType := some (.object "java/lang/String") }, accessFlags := 9, code := some k9c1 }
def k9c2 : Code := { maxStack := 3, maxLocals := 4, code := prog_10_method_5_code, exceptionTable := #[], attributes := #[] }
def k9m2 : Method := { name := "name", desc := "(Ljava/lang/String;)Ljava/lang/String;", sig := { parameters := [(.object "java/lang/String")], returnType := some (.object "java/lang/String") }, accessFlags := 9, code := some k9c2 }
/-- com/example/vestline/vestline/format/Csv -/
def k9 : Class := { plain "com/example/vestline/vestline/format/Csv" (some 0) with
  accessFlags := 49
  interfaces := #[]
  cf := some (fileOf pool9 19 #[.nestMembers #[13, 127, 214, 136, 216]] #[{ accessFlags := 2, nameIndex := 5, descriptorIndex := 6, attributes := #[] }, { accessFlags := 9, nameIndex := 166, descriptorIndex := 98, attributes := #[] }, { accessFlags := 9, nameIndex := 209, descriptorIndex := 98, attributes := #[] }] 49 2 #[] #[{ accessFlags := 26, nameIndex := 198, descriptorIndex := 199, attributes := #[] }])
  fields := #[{ name := "FORMULA_STARTS", type := (.object "java/lang/String"), accessFlags := 26, slot := 0, constantValue := 0 }]
  methods := #[k9m0, k9m1, k9m2]
  instanceTypes := #[]
  staticTypes := #[(.object "java/lang/String")]
  resolved := Array.replicate 254 none
  statics := none }

def pool10 : Array CpInfo := pool [(1, .class_ 2), (0, u "java/lang/String"), (1, .class_ 6), (1, u "java/lang/Object"), (0, u "<init>"), (0, u "()V"), (0, .methodref 1 10), (0, .nameAndType 11 12), (0, u "checkIndex"), (0, u "(II)V"), (1, .class_ 16), (1, u "java/lang/StringLatin1"), (21, .methodref 39 40), (0, .class_ 41), (0, .nameAndType 42 43), (0, u "java/lang/Math"), (0, u "min"), (0, u "(II)I"), (9, u "([BI)C"), (34, .methodref 14 89), (0, .nameAndType 90 91), (0, u "canEncode"), (0, u "(I)Z"), (0, .methodref 39 93), (0, .nameAndType 94 43), (0, u "max"), (0, .methodref 14 96), (0, .nameAndType 97 98), (0, u "indexOfChar"), (0, u "([BIII)I"), (2, u "indexOf"), (19, u "$assertionsDisabled"), (0, u "Z"), (98, .class_ 223), (1, u "java/lang/StringLatin1$LinesSpliterator"), (28, u "charAt"), (137, .class_ 391), (0, u "java/lang/StringLatin1$CharsSpliterator")] 3

def k10m0 : Method := { name := "<init>", desc := "()V", sig := { parameters := [], returnType := none }, accessFlags := 0, code := none }
def k10c1 : Code := { maxStack := 2, maxLocals := 2, code := jdk_43_method_2_code, exceptionTable := #[], attributes := #[] }
def k10m1 : Method := { name := "charAt", desc := "([BI)C", sig := { parameters := [(.array .byte), .int], returnType := some .char }, accessFlags := 9, code := some k10c1 }
def k10c2 : Code := { maxStack := 2, maxLocals := 1, code := jdk_43_method_4_code, exceptionTable := #[], attributes := #[] }
def k10m2 : Method := { name := "canEncode", desc := "(I)Z", sig := { parameters := [.int], returnType := some .boolean }, accessFlags := 9, code := some k10c2 }
def k10c3 : Code := { maxStack := 4, maxLocals := 4, code := jdk_43_method_22_code, exceptionTable := #[], attributes := #[] }
def k10m3 : Method := { name := "indexOf", desc := "([BIII)I", sig := { parameters := [(.array .byte), .int, .int, .int], returnType := some .int }, accessFlags := 9, code := some k10c3 }
def k10c4 : Code := { maxStack := 2, maxLocals := 6, code := jdk_43_method_23_code, exceptionTable := #[], attributes := #[] }
def k10m4 : Method := { name := "indexOfChar", desc := "([BIII)I", sig := { parameters := [(.array .byte), .int, .int, .int], returnType := some .int }, accessFlags := 10, code := some k10c4 }
/-- java/lang/StringLatin1 -/
def k10 : Class := { plain "java/lang/StringLatin1" (some 0) with
  accessFlags := 48
  interfaces := #[]
  cf := some (fileOf pool10 14 #[.nestMembers #[390, 221]] #[{ accessFlags := 0, nameIndex := 7, descriptorIndex := 8, attributes := #[] }, { accessFlags := 9, nameIndex := 252, descriptorIndex := 53, attributes := #[] }, { accessFlags := 9, nameIndex := 90, descriptorIndex := 91, attributes := #[] }, { accessFlags := 9, nameIndex := 101, descriptorIndex := 98, attributes := #[] }, { accessFlags := 10, nameIndex := 97, descriptorIndex := 98, attributes := #[] }] 48 4 #[] #[{ accessFlags := 4120, nameIndex := 121, descriptorIndex := 122, attributes := #[] }])
  fields := #[{ name := "$assertionsDisabled", type := .boolean, accessFlags := 4120, slot := 0, constantValue := 0 }]
  methods := #[k10m0, k10m1, k10m2, k10m3, k10m4]
  instanceTypes := #[]
  staticTypes := #[.boolean]
  resolved := Array.replicate 395 none
  statics := none }

def pool11 : Array CpInfo := pool [(2, .class_ 4), (1, u "java/lang/Object"), (0, u "<init>"), (0, u "()V"), (17, .class_ 26), (1, u "jdk/internal/util/Preconditions"), (6, u "checkIndex"), (21, .class_ 56), (0, u "jdk/internal/util/Preconditions$4"), (57, .class_ 115), (0, u "jdk/internal/util/Preconditions$1"), (7, u "SIOOBE_FORMATTER"), (0, u "Ljava/util/function/BiFunction;"), (0, .class_ 126), (0, u "jdk/internal/util/Preconditions$2"), (3, u "AIOOBE_FORMATTER"), (0, .class_ 132), (0, u "jdk/internal/util/Preconditions$3"), (3, u "IOOBE_FORMATTER"), (41, u "(IILjava/util/function/BiFunction;)I")] 15

def k11m0 : Method := { name := "<init>", desc := "()V", sig := { parameters := [], returnType := none }, accessFlags := 1, code := none }
def k11c1 : Code := { maxStack := 3, maxLocals := 3, code := jdk_41_method_11_code, exceptionTable := #[], attributes := #[] }
def k11m1 : Method := { name := "checkIndex", desc := "(IILjava/util/function/BiFunction;)I", sig := { parameters := [.int, .int, (.object "java/util/function/BiFunction")], returnType := some .int }, accessFlags := 9, code := some k11c1 }
/-- jdk/internal/util/Preconditions -/
def k11 : Class := { plain "jdk/internal/util/Preconditions" (some 0) with
  accessFlags := 33
  interfaces := #[]
  cf := some (fileOf pool11 24 #[.nestMembers #[55, 131, 125, 114]] #[{ accessFlags := 1, nameIndex := 5, descriptorIndex := 6, attributes := #[] }, { accessFlags := 9, nameIndex := 33, descriptorIndex := 178, attributes := #[] }] 33 2 #[] #[{ accessFlags := 25, nameIndex := 123, descriptorIndex := 124, attributes := #[] }, { accessFlags := 25, nameIndex := 130, descriptorIndex := 124, attributes := #[] }, { accessFlags := 25, nameIndex := 136, descriptorIndex := 124, attributes := #[] }])
  fields := #[{ name := "SIOOBE_FORMATTER", type := (.object "java/util/function/BiFunction"), accessFlags := 25, slot := 0, constantValue := 0 }, { name := "AIOOBE_FORMATTER", type := (.object "java/util/function/BiFunction"), accessFlags := 25, slot := 1, constantValue := 0 }, { name := "IOOBE_FORMATTER", type := (.object "java/util/function/BiFunction"), accessFlags := 25, slot := 2, constantValue := 0 }]
  methods := #[k11m0, k11m1]
  instanceTypes := #[]
  staticTypes := #[(.object "java/util/function/BiFunction"), (.object "java/util/function/BiFunction"), (.object "java/util/function/BiFunction")]
  resolved := Array.replicate 194 none
  statics := some 2 }

def pool12 : Array CpInfo := pool [(1, .class_ 2), (0, u "java/lang/Math"), (1, .class_ 6), (1, u "java/lang/Object"), (0, u "<init>"), (0, u "()V"), (89, .class_ 100), (1, u "java/lang/Math$RandomNumberGeneratorHolder"), (71, u "negativeZeroFloatBits"), (0, u "J"), (2, u "negativeZeroDoubleBits"), (21, u "max"), (2, u "min"), (43, u "$assertionsDisabled"), (0, u "Z"), (88, u "(II)I"), (2, u "twoToTheDoubleScaleDown"), (0, u "D"), (4, u "twoToTheDoubleScaleUp"), (9, u "E"), (3, u "PI"), (2, u "TAU"), (2, u "DEGREES_TO_RADIANS"), (0, u "RADIANS_TO_DEGREES")] 94

def k12m0 : Method := { name := "<init>", desc := "()V", sig := { parameters := [], returnType := none }, accessFlags := 2, code := none }
def k12c1 : Code := { maxStack := 2, maxLocals := 2, code := jdk_29_method_65_code, exceptionTable := #[], attributes := #[] }
def k12m1 : Method := { name := "max", desc := "(II)I", sig := { parameters := [.int, .int], returnType := some .int }, accessFlags := 9, code := some k12c1 }
def k12c2 : Code := { maxStack := 2, maxLocals := 2, code := jdk_29_method_69_code, exceptionTable := #[], attributes := #[] }
def k12m2 : Method := { name := "min", desc := "(II)I", sig := { parameters := [.int, .int], returnType := some .int }, accessFlags := 9, code := some k12c2 }
/-- java/lang/Math -/
def k12 : Class := { plain "java/lang/Math" (some 0) with
  accessFlags := 49
  interfaces := #[]
  cf := some (fileOf pool12 1 #[.nestMembers #[98]] #[{ accessFlags := 2, nameIndex := 7, descriptorIndex := 8, attributes := #[] }, { accessFlags := 9, nameIndex := 198, descriptorIndex := 335, attributes := #[] }, { accessFlags := 9, nameIndex := 201, descriptorIndex := 335, attributes := #[] }] 49 4 #[] #[{ accessFlags := 25, nameIndex := 354, descriptorIndex := 339, attributes := #[] }, { accessFlags := 25, nameIndex := 358, descriptorIndex := 339, attributes := #[] }, { accessFlags := 25, nameIndex := 361, descriptorIndex := 339, attributes := #[] }, { accessFlags := 26, nameIndex := 364, descriptorIndex := 339, attributes := #[] }, { accessFlags := 26, nameIndex := 365, descriptorIndex := 339, attributes := #[] }, { accessFlags := 26, nameIndex := 172, descriptorIndex := 173, attributes := #[] }, { accessFlags := 26, nameIndex := 176, descriptorIndex := 173, attributes := #[] }, { accessFlags := 8, nameIndex := 344, descriptorIndex := 339, attributes := #[] }, { accessFlags := 8, nameIndex := 338, descriptorIndex := 339, attributes := #[] }, { accessFlags := 4120, nameIndex := 245, descriptorIndex := 246, attributes := #[] }])
  fields := #[{ name := "E", type := .double, accessFlags := 25, slot := 0, constantValue := 0 }, { name := "PI", type := .double, accessFlags := 25, slot := 1, constantValue := 0 }, { name := "TAU", type := .double, accessFlags := 25, slot := 2, constantValue := 0 }, { name := "DEGREES_TO_RADIANS", type := .double, accessFlags := 26, slot := 3, constantValue := 0 }, { name := "RADIANS_TO_DEGREES", type := .double, accessFlags := 26, slot := 4, constantValue := 0 }, { name := "negativeZeroFloatBits", type := .long, accessFlags := 26, slot := 5, constantValue := 0 }, { name := "negativeZeroDoubleBits", type := .long, accessFlags := 26, slot := 6, constantValue := 0 }, { name := "twoToTheDoubleScaleUp", type := .double, accessFlags := 8, slot := 7, constantValue := 0 }, { name := "twoToTheDoubleScaleDown", type := .double, accessFlags := 8, slot := 8, constantValue := 0 }, { name := "$assertionsDisabled", type := .boolean, accessFlags := 4120, slot := 9, constantValue := 0 }]
  methods := #[k12m0, k12m1, k12m2]
  instanceTypes := #[]
  staticTypes := #[.double, .double, .double, .double, .double, .long, .long, .double, .double, .boolean]
  resolved := Array.replicate 460 none
  statics := none }

def pool13 : Array CpInfo := pool [(1, .class_ 2), (0, u "java/lang/Character"), (18, u "value"), (0, u "C"), (19, .class_ 44), (1, u "java/lang/Object"), (3, .class_ 50), (1, u "java/lang/Character$CharacterCache"), (30, u "(C)Z"), (32, u "(I)Z"), (151, .methodref 1 267), (0, .nameAndType 268 114), (0, u "isISOControl"), (15, u "$assertionsDisabled"), (0, u "Z"), (21, .class_ 309), (1, u "java/lang/Character$UnicodeBlock"), (73, u "TYPE"), (0, u "Ljava/lang/Class;"), (0, .class_ 386), (0, u "java/io/Serializable"), (0, .class_ 388), (0, u "java/lang/Comparable"), (0, .class_ 390), (0, u "java/lang/constant/Constable"), (0, u "MIN_RADIX"), (0, u "I"), (2, u "MAX_RADIX"), (1, u "MIN_VALUE"), (1, u "MAX_VALUE"), (3, u "UNASSIGNED"), (0, u "B"), (0, u "UPPERCASE_LETTER"), (1, u "LOWERCASE_LETTER"), (0, u "TITLECASE_LETTER"), (1, u "MODIFIER_LETTER"), (1, u "OTHER_LETTER"), (1, u "NON_SPACING_MARK"), (1, u "ENCLOSING_MARK"), (1, u "COMBINING_SPACING_MARK"), (1, u "DECIMAL_DIGIT_NUMBER"), (1, u "LETTER_NUMBER"), (1, u "OTHER_NUMBER"), (1, u "SPACE_SEPARATOR"), (1, u "LINE_SEPARATOR"), (1, u "PARAGRAPH_SEPARATOR"), (1, u "CONTROL"), (1, u "FORMAT"), (1, u "PRIVATE_USE"), (1, u "SURROGATE"), (1, u "DASH_PUNCTUATION"), (1, u "START_PUNCTUATION"), (1, u "END_PUNCTUATION"), (1, u "CONNECTOR_PUNCTUATION"), (1, u "OTHER_PUNCTUATION"), (1, u "MATH_SYMBOL"), (1, u "CURRENCY_SYMBOL"), (1, u "MODIFIER_SYMBOL"), (1, u "OTHER_SYMBOL"), (1, u "INITIAL_QUOTE_PUNCTUATION"), (1, u "FINAL_QUOTE_PUNCTUATION"), (1, u "ERROR"), (1, u "DIRECTIONALITY_UNDEFINED"), (0, u "DIRECTIONALITY_LEFT_TO_RIGHT"), (0, u "DIRECTIONALITY_RIGHT_TO_LEFT"), (0, u "DIRECTIONALITY_RIGHT_TO_LEFT_ARABIC"), (0, u "DIRECTIONALITY_EUROPEAN_NUMBER"), (0, u "DIRECTIONALITY_EUROPEAN_NUMBER_SEPARATOR"), (0, u "DIRECTIONALITY_EUROPEAN_NUMBER_TERMINATOR"), (0, u "DIRECTIONALITY_ARABIC_NUMBER"), (0, u "DIRECTIONALITY_COMMON_NUMBER_SEPARATOR"), (0, u "DIRECTIONALITY_NONSPACING_MARK"), (0, u "DIRECTIONALITY_BOUNDARY_NEUTRAL"), (0, u "DIRECTIONALITY_PARAGRAPH_SEPARATOR"), (0, u "DIRECTIONALITY_SEGMENT_SEPARATOR"), (0, u "DIRECTIONALITY_WHITESPACE"), (0, u "DIRECTIONALITY_OTHER_NEUTRALS"), (0, u "DIRECTIONALITY_LEFT_TO_RIGHT_EMBEDDING"), (0, u "DIRECTIONALITY_LEFT_TO_RIGHT_OVERRIDE"), (0, u "DIRECTIONALITY_RIGHT_TO_LEFT_EMBEDDING"), (0, u "DIRECTIONALITY_RIGHT_TO_LEFT_OVERRIDE"), (1, u "DIRECTIONALITY_POP_DIRECTIONAL_FORMAT"), (0, u "DIRECTIONALITY_LEFT_TO_RIGHT_ISOLATE"), (0, u "DIRECTIONALITY_RIGHT_TO_LEFT_ISOLATE"), (0, u "DIRECTIONALITY_FIRST_STRONG_ISOLATE"), (0, u "DIRECTIONALITY_POP_DIRECTIONAL_ISOLATE"), (0, u "MIN_HIGH_SURROGATE"), (0, u "MAX_HIGH_SURROGATE"), (1, u "MIN_LOW_SURROGATE"), (0, u "MAX_LOW_SURROGATE"), (1, u "MIN_SURROGATE"), (0, u "MAX_SURROGATE"), (0, u "MIN_SUPPLEMENTARY_CODE_POINT"), (0, u "MIN_CODE_POINT"), (0, u "MAX_CODE_POINT"), (1, u "serialVersionUID"), (0, u "J"), (2, u "SIZE"), (0, u "BYTES"), (88, .class_ 596), (0, u "java/lang/Character$UnicodeScript"), (0, .class_ 598), (0, u "java/lang/Character$Subset")] 5

def k13c0 : Code := { maxStack := 1, maxLocals := 1, code := jdk_89_method_88_code, exceptionTable := #[], attributes := #[] }
def k13m0 : Method := { name := "isISOControl", desc := "(C)Z", sig := { parameters := [.char], returnType := some .boolean }, accessFlags := 9, code := some k13c0 }
def k13c1 : Code := { maxStack := 2, maxLocals := 1, code := jdk_89_method_89_code, exceptionTable := #[], attributes := #[] }
def k13m1 : Method := { name := "isISOControl", desc := "(I)Z", sig := { parameters := [.int], returnType := some .boolean }, accessFlags := 9, code := some k13c1 }
/-- java/lang/Character -/
def k13 : Class := { plain "java/lang/Character" (some 0) with
  accessFlags := 49
  interfaces := #[2, 3, 5]
  cf := some (fileOf pool13 1 #[.nestMembers #[48, 595, 307, 597]] #[{ accessFlags := 9, nameIndex := 268, descriptorIndex := 81, attributes := #[] }, { accessFlags := 9, nameIndex := 268, descriptorIndex := 114, attributes := #[] }] 49 42 #[385, 387, 389] #[{ accessFlags := 25, nameIndex := 391, descriptorIndex := 392, attributes := #[] }, { accessFlags := 25, nameIndex := 395, descriptorIndex := 392, attributes := #[] }, { accessFlags := 25, nameIndex := 397, descriptorIndex := 22, attributes := #[] }, { accessFlags := 25, nameIndex := 399, descriptorIndex := 22, attributes := #[] }, { accessFlags := 25, nameIndex := 383, descriptorIndex := 384, attributes := #[] }, { accessFlags := 25, nameIndex := 403, descriptorIndex := 404, attributes := #[] }, { accessFlags := 25, nameIndex := 405, descriptorIndex := 404, attributes := #[] }, { accessFlags := 25, nameIndex := 407, descriptorIndex := 404, attributes := #[] }, { accessFlags := 25, nameIndex := 408, descriptorIndex := 404, attributes := #[] }, { accessFlags := 25, nameIndex := 410, descriptorIndex := 404, attributes := #[] }, { accessFlags := 25, nameIndex := 412, descriptorIndex := 404, attributes := #[] }, { accessFlags := 25, nameIndex := 414, descriptorIndex := 404, attributes := #[] }, { accessFlags := 25, nameIndex := 416, descriptorIndex := 404, attributes := #[] }, { accessFlags := 25, nameIndex := 418, descriptorIndex := 404, attributes := #[] }, { accessFlags := 25, nameIndex := 420, descriptorIndex := 404, attributes := #[] }, { accessFlags := 25, nameIndex := 422, descriptorIndex := 404, attributes := #[] }, { accessFlags := 25, nameIndex := 424, descriptorIndex := 404, attributes := #[] }, { accessFlags := 25, nameIndex := 426, descriptorIndex := 404, attributes := #[] }, { accessFlags := 25, nameIndex := 428, descriptorIndex := 404, attributes := #[] }, { accessFlags := 25, nameIndex := 430, descriptorIndex := 404, attributes := #[] }, { accessFlags := 25, nameIndex := 432, descriptorIndex := 404, attributes := #[] }, { accessFlags := 25, nameIndex := 434, descriptorIndex := 404, attributes := #[] }, { accessFlags := 25, nameIndex := 436, descriptorIndex := 404, attributes := #[] }, { accessFlags := 25, nameIndex := 438, descriptorIndex := 404, attributes := #[] }, { accessFlags := 25, nameIndex := 440, descriptorIndex := 404, attributes := #[] }, { accessFlags := 25, nameIndex := 442, descriptorIndex := 404, attributes := #[] }, { accessFlags := 25, nameIndex := 444, descriptorIndex := 404, attributes := #[] }, { accessFlags := 25, nameIndex := 446, descriptorIndex := 404, attributes := #[] }, { accessFlags := 25, nameIndex := 448, descriptorIndex := 404, attributes := #[] }, { accessFlags := 25, nameIndex := 450, descriptorIndex := 404, attributes := #[] }, { accessFlags := 25, nameIndex := 452, descriptorIndex := 404, attributes := #[] }, { accessFlags := 25, nameIndex := 454, descriptorIndex := 404, attributes := #[] }, { accessFlags := 25, nameIndex := 456, descriptorIndex := 404, attributes := #[] }, { accessFlags := 25, nameIndex := 458, descriptorIndex := 404, attributes := #[] }, { accessFlags := 25, nameIndex := 460, descriptorIndex := 404, attributes := #[] }, { accessFlags := 24, nameIndex := 462, descriptorIndex := 392, attributes := #[] }, { accessFlags := 25, nameIndex := 464, descriptorIndex := 404, attributes := #[] }, { accessFlags := 25, nameIndex := 465, descriptorIndex := 404, attributes := #[] }, { accessFlags := 25, nameIndex := 466, descriptorIndex := 404, attributes := #[] }, { accessFlags := 25, nameIndex := 467, descriptorIndex := 404, attributes := #[] }, { accessFlags := 25, nameIndex := 468, descriptorIndex := 404, attributes := #[] }, { accessFlags := 25, nameIndex := 469, descriptorIndex := 404, attributes := #[] }, { accessFlags := 25, nameIndex := 470, descriptorIndex := 404, attributes := #[] }, { accessFlags := 25, nameIndex := 471, descriptorIndex := 404, attributes := #[] }, { accessFlags := 25, nameIndex := 472, descriptorIndex := 404, attributes := #[] }, { accessFlags := 25, nameIndex := 473, descriptorIndex := 404, attributes := #[] }, { accessFlags := 25, nameIndex := 474, descriptorIndex := 404, attributes := #[] }, { accessFlags := 25, nameIndex := 475, descriptorIndex := 404, attributes := #[] }, { accessFlags := 25, nameIndex := 476, descriptorIndex := 404, attributes := #[] }, { accessFlags := 25, nameIndex := 477, descriptorIndex := 404, attributes := #[] }, { accessFlags := 25, nameIndex := 478, descriptorIndex := 404, attributes := #[] }, { accessFlags := 25, nameIndex := 479, descriptorIndex := 404, attributes := #[] }, { accessFlags := 25, nameIndex := 480, descriptorIndex := 404, attributes := #[] }, { accessFlags := 25, nameIndex := 481, descriptorIndex := 404, attributes := #[] }, { accessFlags := 25, nameIndex := 482, descriptorIndex := 404, attributes := #[] }, { accessFlags := 25, nameIndex := 484, descriptorIndex := 404, attributes := #[] }, { accessFlags := 25, nameIndex := 485, descriptorIndex := 404, attributes := #[] }, { accessFlags := 25, nameIndex := 486, descriptorIndex := 404, attributes := #[] }, { accessFlags := 25, nameIndex := 487, descriptorIndex := 404, attributes := #[] }, { accessFlags := 25, nameIndex := 488, descriptorIndex := 404, attributes := #[] }, { accessFlags := 25, nameIndex := 489, descriptorIndex := 22, attributes := #[] }, { accessFlags := 25, nameIndex := 490, descriptorIndex := 22, attributes := #[] }, { accessFlags := 25, nameIndex := 492, descriptorIndex := 22, attributes := #[] }, { accessFlags := 25, nameIndex := 493, descriptorIndex := 22, attributes := #[] }, { accessFlags := 25, nameIndex := 495, descriptorIndex := 22, attributes := #[] }, { accessFlags := 25, nameIndex := 496, descriptorIndex := 22, attributes := #[] }, { accessFlags := 25, nameIndex := 497, descriptorIndex := 392, attributes := #[] }, { accessFlags := 25, nameIndex := 498, descriptorIndex := 392, attributes := #[] }, { accessFlags := 25, nameIndex := 499, descriptorIndex := 392, attributes := #[] }, { accessFlags := 18, nameIndex := 21, descriptorIndex := 22, attributes := #[] }, { accessFlags := 26, nameIndex := 501, descriptorIndex := 502, attributes := #[] }, { accessFlags := 25, nameIndex := 505, descriptorIndex := 392, attributes := #[] }, { accessFlags := 25, nameIndex := 506, descriptorIndex := 392, attributes := #[] }, { accessFlags := 4120, nameIndex := 284, descriptorIndex := 285, attributes := #[] }])
  fields := #[{ name := "MIN_RADIX", type := .int, accessFlags := 25, slot := 0, constantValue := 0 }, { name := "MAX_RADIX", type := .int, accessFlags := 25, slot := 1, constantValue := 0 }, { name := "MIN_VALUE", type := .char, accessFlags := 25, slot := 2, constantValue := 0 }, { name := "MAX_VALUE", type := .char, accessFlags := 25, slot := 3, constantValue := 0 }, { name := "TYPE", type := (.object "java/lang/Class"), accessFlags := 25, slot := 4, constantValue := 0 }, { name := "UNASSIGNED", type := .byte, accessFlags := 25, slot := 5, constantValue := 0 }, { name := "UPPERCASE_LETTER", type := .byte, accessFlags := 25, slot := 6, constantValue := 0 }, { name := "LOWERCASE_LETTER", type := .byte, accessFlags := 25, slot := 7, constantValue := 0 }, { name := "TITLECASE_LETTER", type := .byte, accessFlags := 25, slot := 8, constantValue := 0 }, { name := "MODIFIER_LETTER", type := .byte, accessFlags := 25, slot := 9, constantValue := 0 }, { name := "OTHER_LETTER", type := .byte, accessFlags := 25, slot := 10, constantValue := 0 }, { name := "NON_SPACING_MARK", type := .byte, accessFlags := 25, slot := 11, constantValue := 0 }, { name := "ENCLOSING_MARK", type := .byte, accessFlags := 25, slot := 12, constantValue := 0 }, { name := "COMBINING_SPACING_MARK", type := .byte, accessFlags := 25, slot := 13, constantValue := 0 }, { name := "DECIMAL_DIGIT_NUMBER", type := .byte, accessFlags := 25, slot := 14, constantValue := 0 }, { name := "LETTER_NUMBER", type := .byte, accessFlags := 25, slot := 15, constantValue := 0 }, { name := "OTHER_NUMBER", type := .byte, accessFlags := 25, slot := 16, constantValue := 0 }, { name := "SPACE_SEPARATOR", type := .byte, accessFlags := 25, slot := 17, constantValue := 0 }, { name := "LINE_SEPARATOR", type := .byte, accessFlags := 25, slot := 18, constantValue := 0 }, { name := "PARAGRAPH_SEPARATOR", type := .byte, accessFlags := 25, slot := 19, constantValue := 0 }, { name := "CONTROL", type := .byte, accessFlags := 25, slot := 20, constantValue := 0 }, { name := "FORMAT", type := .byte, accessFlags := 25, slot := 21, constantValue := 0 }, { name := "PRIVATE_USE", type := .byte, accessFlags := 25, slot := 22, constantValue := 0 }, { name := "SURROGATE", type := .byte, accessFlags := 25, slot := 23, constantValue := 0 }, { name := "DASH_PUNCTUATION", type := .byte, accessFlags := 25, slot := 24, constantValue := 0 }, { name := "START_PUNCTUATION", type := .byte, accessFlags := 25, slot := 25, constantValue := 0 }, { name := "END_PUNCTUATION", type := .byte, accessFlags := 25, slot := 26, constantValue := 0 }, { name := "CONNECTOR_PUNCTUATION", type := .byte, accessFlags := 25, slot := 27, constantValue := 0 }, { name := "OTHER_PUNCTUATION", type := .byte, accessFlags := 25, slot := 28, constantValue := 0 }, { name := "MATH_SYMBOL", type := .byte, accessFlags := 25, slot := 29, constantValue := 0 }, { name := "CURRENCY_SYMBOL", type := .byte, accessFlags := 25, slot := 30, constantValue := 0 }, { name := "MODIFIER_SYMBOL", type := .byte, accessFlags := 25, slot := 31, constantValue := 0 }, { name := "OTHER_SYMBOL", type := .byte, accessFlags := 25, slot := 32, constantValue := 0 }, { name := "INITIAL_QUOTE_PUNCTUATION", type := .byte, accessFlags := 25, slot := 33, constantValue := 0 }, { name := "FINAL_QUOTE_PUNCTUATION", type := .byte, accessFlags := 25, slot := 34, constantValue := 0 }, { name := "ERROR", type := .int, accessFlags := 24, slot := 35, constantValue := 0 }, { name := "DIRECTIONALITY_UNDEFINED", type := .byte, accessFlags := 25, slot := 36, constantValue := 0 }, { name := "DIRECTIONALITY_LEFT_TO_RIGHT", type := .byte, accessFlags := 25, slot := 37, constantValue := 0 }, { name := "DIRECTIONALITY_RIGHT_TO_LEFT", type := .byte, accessFlags := 25, slot := 38, constantValue := 0 }, { name := "DIRECTIONALITY_RIGHT_TO_LEFT_ARABIC", type := .byte, accessFlags := 25, slot := 39, constantValue := 0 }, { name := "DIRECTIONALITY_EUROPEAN_NUMBER", type := .byte, accessFlags := 25, slot := 40, constantValue := 0 }, { name := "DIRECTIONALITY_EUROPEAN_NUMBER_SEPARATOR", type := .byte, accessFlags := 25, slot := 41, constantValue := 0 }, { name := "DIRECTIONALITY_EUROPEAN_NUMBER_TERMINATOR", type := .byte, accessFlags := 25, slot := 42, constantValue := 0 }, { name := "DIRECTIONALITY_ARABIC_NUMBER", type := .byte, accessFlags := 25, slot := 43, constantValue := 0 }, { name := "DIRECTIONALITY_COMMON_NUMBER_SEPARATOR", type := .byte, accessFlags := 25, slot := 44, constantValue := 0 }, { name := "DIRECTIONALITY_NONSPACING_MARK", type := .byte, accessFlags := 25, slot := 45, constantValue := 0 }, { name := "DIRECTIONALITY_BOUNDARY_NEUTRAL", type := .byte, accessFlags := 25, slot := 46, constantValue := 0 }, { name := "DIRECTIONALITY_PARAGRAPH_SEPARATOR", type := .byte, accessFlags := 25, slot := 47, constantValue := 0 }, { name := "DIRECTIONALITY_SEGMENT_SEPARATOR", type := .byte, accessFlags := 25, slot := 48, constantValue := 0 }, { name := "DIRECTIONALITY_WHITESPACE", type := .byte, accessFlags := 25, slot := 49, constantValue := 0 }, { name := "DIRECTIONALITY_OTHER_NEUTRALS", type := .byte, accessFlags := 25, slot := 50, constantValue := 0 }, { name := "DIRECTIONALITY_LEFT_TO_RIGHT_EMBEDDING", type := .byte, accessFlags := 25, slot := 51, constantValue := 0 }, { name := "DIRECTIONALITY_LEFT_TO_RIGHT_OVERRIDE", type := .byte, accessFlags := 25, slot := 52, constantValue := 0 }, { name := "DIRECTIONALITY_RIGHT_TO_LEFT_EMBEDDING", type := .byte, accessFlags := 25, slot := 53, constantValue := 0 }, { name := "DIRECTIONALITY_RIGHT_TO_LEFT_OVERRIDE", type := .byte, accessFlags := 25, slot := 54, constantValue := 0 }, { name := "DIRECTIONALITY_POP_DIRECTIONAL_FORMAT", type := .byte, accessFlags := 25, slot := 55, constantValue := 0 }, { name := "DIRECTIONALITY_LEFT_TO_RIGHT_ISOLATE", type := .byte, accessFlags := 25, slot := 56, constantValue := 0 }, { name := "DIRECTIONALITY_RIGHT_TO_LEFT_ISOLATE", type := .byte, accessFlags := 25, slot := 57, constantValue := 0 }, { name := "DIRECTIONALITY_FIRST_STRONG_ISOLATE", type := .byte, accessFlags := 25, slot := 58, constantValue := 0 }, { name := "DIRECTIONALITY_POP_DIRECTIONAL_ISOLATE", type := .byte, accessFlags := 25, slot := 59, constantValue := 0 }, { name := "MIN_HIGH_SURROGATE", type := .char, accessFlags := 25, slot := 60, constantValue := 0 }, { name := "MAX_HIGH_SURROGATE", type := .char, accessFlags := 25, slot := 61, constantValue := 0 }, { name := "MIN_LOW_SURROGATE", type := .char, accessFlags := 25, slot := 62, constantValue := 0 }, { name := "MAX_LOW_SURROGATE", type := .char, accessFlags := 25, slot := 63, constantValue := 0 }, { name := "MIN_SURROGATE", type := .char, accessFlags := 25, slot := 64, constantValue := 0 }, { name := "MAX_SURROGATE", type := .char, accessFlags := 25, slot := 65, constantValue := 0 }, { name := "MIN_SUPPLEMENTARY_CODE_POINT", type := .int, accessFlags := 25, slot := 66, constantValue := 0 }, { name := "MIN_CODE_POINT", type := .int, accessFlags := 25, slot := 67, constantValue := 0 }, { name := "MAX_CODE_POINT", type := .int, accessFlags := 25, slot := 68, constantValue := 0 }, { name := "value", type := .char, accessFlags := 18, slot := 0, constantValue := 0 }, { name := "serialVersionUID", type := .long, accessFlags := 26, slot := 69, constantValue := 0 }, { name := "SIZE", type := .int, accessFlags := 25, slot := 70, constantValue := 0 }, { name := "BYTES", type := .int, accessFlags := 25, slot := 71, constantValue := 0 }, { name := "$assertionsDisabled", type := .boolean, accessFlags := 4120, slot := 72, constantValue := 0 }]
  methods := #[k13m0, k13m1]
  instanceTypes := #[.char]
  staticTypes := #[.int, .int, .char, .char, (.object "java/lang/Class"), .byte, .byte, .byte, .byte, .byte, .byte, .byte, .byte, .byte, .byte, .byte, .byte, .byte, .byte, .byte, .byte, .byte, .byte, .byte, .byte, .byte, .byte, .byte, .byte, .byte, .byte, .byte, .byte, .byte, .byte, .int, .byte, .byte, .byte, .byte, .byte, .byte, .byte, .byte, .byte, .byte, .byte, .byte, .byte, .byte, .byte, .byte, .byte, .byte, .byte, .byte, .byte, .byte, .byte, .byte, .char, .char, .char, .char, .char, .char, .int, .int, .int, .long, .int, .int, .boolean]
  resolved := Array.replicate 604 none
  statics := none }

def pool14 : Array CpInfo := pool [(9, u "<init>"), (6, .class_ 18), (1, u "java/lang/Object"), (0, u "()V"), (1, .class_ 23), (1, u "jdk/internal/util/ArraysSupport"), (0, u "LOG2_ARRAY_LONG_INDEX_SCALE"), (0, u "I"), (2, u "U"), (0, u "Ljdk/internal/misc/Unsafe;"), (8, u "BIG_ENDIAN"), (0, u "Z"), (8, u "LOG2_BYTE_BIT_SIZE"), (4, u "LOG2_ARRAY_INT_INDEX_SCALE"), (54, u "JLA"), (0, u "Ljdk/internal/access/JavaLangAccess;"), (11, u "LOG2_ARRAY_BOOLEAN_INDEX_SCALE"), (9, u "LOG2_ARRAY_BYTE_INDEX_SCALE"), (5, u "LOG2_ARRAY_CHAR_INDEX_SCALE"), (5, u "LOG2_ARRAY_SHORT_INDEX_SCALE"), (18, u "LOG2_ARRAY_FLOAT_INDEX_SCALE"), (24, u "LOG2_ARRAY_DOUBLE_INDEX_SCALE"), (89, u "T_BOOLEAN"), (2, u "T_CHAR"), (1, u "T_FLOAT"), (1, u "T_DOUBLE"), (1, u "T_BYTE"), (1, u "T_SHORT"), (1, u "T_INT"), (1, u "T_LONG"), (1, u "SOFT_MAX_ARRAY_LENGTH")] 83

def k14m0 : Method := { name := "<init>", desc := "()V", sig := { parameters := [], returnType := none }, accessFlags := 2, code := none }
/-- jdk/internal/util/ArraysSupport -/
def k14 : Class := { plain "jdk/internal/util/ArraysSupport" (some 0) with
  accessFlags := 33
  interfaces := #[]
  cf := some (fileOf pool14 21 #[] #[{ accessFlags := 2, nameIndex := 9, descriptorIndex := 19, attributes := #[] }] 33 16 #[] #[{ accessFlags := 24, nameIndex := 28, descriptorIndex := 29, attributes := #[] }, { accessFlags := 26, nameIndex := 38, descriptorIndex := 39, attributes := #[] }, { accessFlags := 25, nameIndex := 121, descriptorIndex := 25, attributes := #[] }, { accessFlags := 25, nameIndex := 131, descriptorIndex := 25, attributes := #[] }, { accessFlags := 25, nameIndex := 137, descriptorIndex := 25, attributes := #[] }, { accessFlags := 25, nameIndex := 143, descriptorIndex := 25, attributes := #[] }, { accessFlags := 25, nameIndex := 53, descriptorIndex := 25, attributes := #[] }, { accessFlags := 25, nameIndex := 24, descriptorIndex := 25, attributes := #[] }, { accessFlags := 25, nameIndex := 162, descriptorIndex := 25, attributes := #[] }, { accessFlags := 25, nameIndex := 187, descriptorIndex := 25, attributes := #[] }, { accessFlags := 26, nameIndex := 48, descriptorIndex := 25, attributes := #[] }, { accessFlags := 25, nameIndex := 277, descriptorIndex := 25, attributes := #[] }, { accessFlags := 25, nameIndex := 280, descriptorIndex := 25, attributes := #[] }, { accessFlags := 25, nameIndex := 282, descriptorIndex := 25, attributes := #[] }, { accessFlags := 25, nameIndex := 284, descriptorIndex := 25, attributes := #[] }, { accessFlags := 25, nameIndex := 286, descriptorIndex := 25, attributes := #[] }, { accessFlags := 25, nameIndex := 288, descriptorIndex := 25, attributes := #[] }, { accessFlags := 25, nameIndex := 290, descriptorIndex := 25, attributes := #[] }, { accessFlags := 25, nameIndex := 292, descriptorIndex := 25, attributes := #[] }, { accessFlags := 26, nameIndex := 108, descriptorIndex := 109, attributes := #[] }, { accessFlags := 25, nameIndex := 294, descriptorIndex := 25, attributes := #[] }])
  fields := #[{ name := "U", type := (.object "jdk/internal/misc/Unsafe"), accessFlags := 24, slot := 0, constantValue := 0 }, { name := "BIG_ENDIAN", type := .boolean, accessFlags := 26, slot := 1, constantValue := 0 }, { name := "LOG2_ARRAY_BOOLEAN_INDEX_SCALE", type := .int, accessFlags := 25, slot := 2, constantValue := 0 }, { name := "LOG2_ARRAY_BYTE_INDEX_SCALE", type := .int, accessFlags := 25, slot := 3, constantValue := 0 }, { name := "LOG2_ARRAY_CHAR_INDEX_SCALE", type := .int, accessFlags := 25, slot := 4, constantValue := 0 }, { name := "LOG2_ARRAY_SHORT_INDEX_SCALE", type := .int, accessFlags := 25, slot := 5, constantValue := 0 }, { name := "LOG2_ARRAY_INT_INDEX_SCALE", type := .int, accessFlags := 25, slot := 6, constantValue := 0 }, { name := "LOG2_ARRAY_LONG_INDEX_SCALE", type := .int, accessFlags := 25, slot := 7, constantValue := 0 }, { name := "LOG2_ARRAY_FLOAT_INDEX_SCALE", type := .int, accessFlags := 25, slot := 8, constantValue := 0 }, { name := "LOG2_ARRAY_DOUBLE_INDEX_SCALE", type := .int, accessFlags := 25, slot := 9, constantValue := 0 }, { name := "LOG2_BYTE_BIT_SIZE", type := .int, accessFlags := 26, slot := 10, constantValue := 0 }, { name := "T_BOOLEAN", type := .int, accessFlags := 25, slot := 11, constantValue := 0 }, { name := "T_CHAR", type := .int, accessFlags := 25, slot := 12, constantValue := 0 }, { name := "T_FLOAT", type := .int, accessFlags := 25, slot := 13, constantValue := 0 }, { name := "T_DOUBLE", type := .int, accessFlags := 25, slot := 14, constantValue := 0 }, { name := "T_BYTE", type := .int, accessFlags := 25, slot := 15, constantValue := 0 }, { name := "T_SHORT", type := .int, accessFlags := 25, slot := 16, constantValue := 0 }, { name := "T_INT", type := .int, accessFlags := 25, slot := 17, constantValue := 0 }, { name := "T_LONG", type := .int, accessFlags := 25, slot := 18, constantValue := 0 }, { name := "JLA", type := (.object "jdk/internal/access/JavaLangAccess"), accessFlags := 26, slot := 19, constantValue := 0 }, { name := "SOFT_MAX_ARRAY_LENGTH", type := .int, accessFlags := 25, slot := 20, constantValue := 0 }]
  methods := #[k14m0]
  instanceTypes := #[]
  staticTypes := #[(.object "jdk/internal/misc/Unsafe"), .boolean, .int, .int, .int, .int, .int, .int, .int, .int, .int, .int, .int, .int, .int, .int, .int, .int, .int, (.object "jdk/internal/access/JavaLangAccess"), .int]
  resolved := Array.replicate 378 none
  statics := none }

def pool15 : Array CpInfo := pool [(1, u "java/lang/Cloneable"), (0, .class_ 1), (0, u "java/lang/Object"), (0, .class_ 3)] 3

/-- java/lang/Cloneable -/
def k15 : Class := { plain "java/lang/Cloneable" (some 0) with
  accessFlags := 1537
  interfaces := #[]
  cf := some (fileOf pool15 2 #[] #[] 1537 4 #[] #[])
  fields := #[]
  methods := #[]
  instanceTypes := #[]
  staticTypes := #[]
  resolved := Array.replicate 8 none
  statics := none }

/-- the primitive byte -/
def k16 : Class := { plain "byte" none with kind := .primitive 'B', accessFlags := 0x411 }
/-- [B -/
def k17 : Class := { plain "[B" (some 0) with kind := .array 16 .byte, interfaces := #[15, 2], accessFlags := 1041 }

/-- the primitive char -/
def k18 : Class := { plain "char" none with kind := .primitive 'C', accessFlags := 0x411 }
/-- [C -/
def k19 : Class := { plain "[C" (some 0) with kind := .array 18 .char, interfaces := #[15, 2], accessFlags := 1041 }

/-- the primitive int -/
def k20 : Class := { plain "int" none with kind := .primitive 'I', accessFlags := 0x411 }
/-- [I -/
def k21 : Class := { plain "[I" (some 0) with kind := .array 20 .int, interfaces := #[15, 2], accessFlags := 1041 }

def heap : Heap := #[{ cls := 7, slots := #[.long 0, .int 1, .null, .int 0, .null, .int 0, .int 0], vm := .statics 7 },
  { cls := 8, slots := #[.int 0, .int 8, .int 0, .int 1], vm := .statics 8 },
  { cls := 11, slots := #[.null, .null, .null], vm := .statics 11 }]
def classes : Array Class := #[k0, k1, k2, k3, k4, k5, k6, k7, k8, k9, k10, k11, k12, k13, k14, k15, k16, k17, k18, k19, k20, k21]
def interned : List (Array UInt16 × Addr) := []
def slotsUsed : Nat := 14
def theMethod : MethodId := ⟨1, 1⟩
def args0 : Array Value := #[.int 65, .int 66, .int 3]
def aboutOver (below : List Frame) : State where
  vm := { classes := classes, interned := interned.toArray }
  heap := heap
  slotsUsed := slotsUsed
  threads := #[{ frames := .invoking theMethod args0 :: below }]
def below0 : List Frame := [.native { method := ⟨0, 0⟩, args := #[] }]
def about1 : State := aboutOver below0
def p0 : Program := .bare "" "" ""
def e0 : Env := launch0.env 0 0 0
theorem w_frames : about1.frames = Frame.invoking theMethod args0 :: below0 := rfl
set_option maxRecDepth 65536 in
theorem w_args : argsFit about1.vm theMethod args0 = true := by decide +kernel
set_option maxRecDepth 65536 in
theorem w_heap : heapFits about1 = true := by decide +kernel
set_option maxRecDepth 65536 in
theorem w_runnable : about1.curStatus? = some .runnable := by decide +kernel
set_option maxRecDepth 65536 in
theorem w_alone : about1.alone = true := by decide +kernel
set_option maxRecDepth 65536 in
theorem w_named : about1.methodNamed? x = some theMethod := by decide +kernel
set_option maxRecDepth 65536 in
theorem w_hears : about1.hears theMethod below0 = true := by decide +kernel
set_option maxRecDepth 65536 in
theorem w_ripe : about1.ripe theMethod args0 below0 = true := by decide +kernel
theorem w_running : about1.status = .running := rfl
set_option maxRecDepth 65536 in
theorem w_room : about1.hasRoom e0.platform room_1 = true :=
  launch0.hasRoom_least _ room_1 (by decide +kernel) (by decide +kernel) (by decide +kernel) (by decide +kernel) (by decide +kernel) (by decide +kernel)
theorem allAtoms_all (ts : List Jvm.Cond) (a : Array Jvm.Value) (st : Jvm.State) : (allAtoms ts).before a st = ts.all (fun c => c.before a st) := by
  induction ts with
  | nil => rfl
  | cons c t ih =>
    show (Jvm.Cond.and c (allAtoms t)).before a st = _
    rw [Jvm.Cond.before_and, ih, List.all_cons]
def words1 : List Jvm.Cond := Jvm.Cond.code x code maxLocals ret :: tables_1
/-- a 'code' word, met by the world's own term for the bytes: nothing is compared byte by byte -/
theorem code_word {y : MethodName} {bytes : ByteArray} {mx : Nat} {rt : Option FieldType} {a : Array Value} {s : State} {m : MethodId} {meth : Method} {c : Code} (h1 : s.methodNamed? y = some m) (h2 : s.vm.method? m = some meth) (h3 : meth.code = some c) (h4 : c.code = bytes)
    (h5 : (c.maxLocals == mx && c.exceptionTable.isEmpty && decide (c.maxStack ≤ mostOperands) && decide (meth.sig.returnType = rt) && !meth.locks && decide (parseMethodDescriptor y.desc = some meth.sig)) = true) : (Jvm.Cond.code y bytes mx rt).before a s = true := by
  simp only [Bool.and_eq_true, beq_iff_eq, Bool.not_eq_true', decide_eq_true_eq] at h5
  obtain ⟨⟨⟨⟨⟨g1, g2⟩, g3⟩, g4⟩, g5⟩, g6⟩ := h5
  simp [Cond.before, Cond.holds, Cond.value, h1, h2, h3, h4, g1, g2, g3, g4, g5, g6]
def isCode : Jvm.Cond → Bool
  | .code _ _ _ _ => true
  | _ => false
theorem all_split {L : List Jvm.Cond} {P : Jvm.Cond → Bool} (h1 : L.all (fun c => isCode c || P c) = true) (h2 : ∀ c ∈ L.filter isCode, P c = true) : L.all P = true := by
  refine List.all_eq_true.mpr fun c hc => ?_
  have h := List.all_eq_true.mp h1 c hc
  rcases Bool.eq_false_or_eq_true (isCode c) with hi | hi
  · exact h2 c (List.mem_filter.mpr ⟨hc, hi⟩)
  · simpa [hi] using h
set_option maxRecDepth 65536 in
theorem w_c0 : (Jvm.Cond.code x code maxLocals ret).before args0 about1 = true := code_word (m := ⟨1, 1⟩) (meth := k1m1) (c := k1c1) (by decide +kernel) rfl rfl rfl (by decide +kernel)
set_option maxRecDepth 65536 in
theorem w_c1 : (Jvm.Cond.code ({ cls := "com/example/vestline/vestline/format/CsvNamePinLaw", name := "formulaStart", desc := "(C)Z" } : Jvm.MethodName) method_4_code (1 : Nat) (Option.some Jvm.ClassFile.FieldType.boolean)).before args0 about1 = true := code_word (m := ⟨1, 3⟩) (meth := k1m3) (c := k1c3) (by decide +kernel) rfl rfl rfl (by decide +kernel)
set_option maxRecDepth 65536 in
theorem w_c2 : (Jvm.Cond.code ({ cls := "com/example/vestline/vestline/format/CsvNamePinLaw", name := "control", desc := "(C)Z" } : Jvm.MethodName) method_3_code (1 : Nat) (Option.some Jvm.ClassFile.FieldType.boolean)).before args0 about1 = true := code_word (m := ⟨1, 2⟩) (meth := k1m2) (c := k1c2) (by decide +kernel) rfl rfl rfl (by decide +kernel)
set_option maxRecDepth 65536 in
theorem w_c3 : (Jvm.Cond.code ({ cls := "com/example/vestline/vestline/format/CsvNamePinLaw", name := "make", desc := "(ICCCC)Ljava/lang/String;" } : Jvm.MethodName) method_5_code (5 : Nat) (Option.some (Jvm.ClassFile.FieldType.object "java/lang/String"))).before args0 about1 = true := code_word (m := ⟨1, 4⟩) (meth := k1m4) (c := k1c4) (by decide +kernel) rfl rfl rfl (by decide +kernel)
set_option maxRecDepth 65536 in
theorem w_c4 : (Jvm.Cond.code ({ cls := "java/lang/String", name := "<init>", desc := "([C)V" } : Jvm.MethodName) jdk_42_method_3_code (2 : Nat) (Option.none : Option Jvm.ClassFile.FieldType)).before args0 about1 = true := code_word (m := ⟨7, 1⟩) (meth := k7m1) (c := k7c1) (by decide +kernel) rfl rfl rfl (by decide +kernel)
set_option maxRecDepth 65536 in
theorem w_c5 : (Jvm.Cond.code ({ cls := "java/lang/String", name := "<init>", desc := "([CIILjava/lang/Void;)V" } : Jvm.MethodName) jdk_42_method_149_code (6 : Nat) (Option.none : Option Jvm.ClassFile.FieldType)).before args0 about1 = true := code_word (m := ⟨7, 8⟩) (meth := k7m8) (c := k7c8) (by decide +kernel) rfl rfl rfl (by decide +kernel)
set_option maxRecDepth 65536 in
theorem w_c6 : (Jvm.Cond.code ({ cls := "java/lang/Object", name := "<init>", desc := "()V" } : Jvm.MethodName) object_method_1_code (1 : Nat) (Option.none : Option Jvm.ClassFile.FieldType)).before args0 about1 = true := code_word (m := ⟨0, 0⟩) (meth := k0m0) (c := k0c0) (by decide +kernel) rfl rfl rfl (by decide +kernel)
set_option maxRecDepth 65536 in
theorem w_c7 : (Jvm.Cond.code ({ cls := "java/lang/StringUTF16", name := "compress", desc := "([CII)[B" } : Jvm.MethodName) jdk_52_method_16_code (6 : Nat) (Option.some (Jvm.ClassFile.FieldType.array Jvm.ClassFile.FieldType.byte))).before args0 about1 = true := code_word (m := ⟨8, 8⟩) (meth := k8m8) (c := k8c8) (by decide +kernel) rfl rfl rfl (by decide +kernel)
set_option maxRecDepth 65536 in
theorem w_c8 : (Jvm.Cond.code ({ cls := "java/lang/StringUTF16", name := "compress", desc := "([CI[BII)I" } : Jvm.MethodName) jdk_52_method_21_code (7 : Nat) (Option.some Jvm.ClassFile.FieldType.int)).before args0 about1 = true := code_word (m := ⟨8, 9⟩) (meth := k8m9) (c := k8c9) (by decide +kernel) rfl rfl rfl (by decide +kernel)
set_option maxRecDepth 65536 in
theorem w_c9 : (Jvm.Cond.code ({ cls := "java/lang/StringUTF16", name := "coderFromArrayLen", desc := "([BI)B" } : Jvm.MethodName) jdk_52_method_15_code (2 : Nat) (Option.some Jvm.ClassFile.FieldType.byte)).before args0 about1 = true := code_word (m := ⟨8, 7⟩) (meth := k8m7) (c := k8c7) (by decide +kernel) rfl rfl rfl (by decide +kernel)
set_option maxRecDepth 65536 in
theorem w_c10 : (Jvm.Cond.code ({ cls := "com/example/vestline/vestline/format/Csv", name := "name", desc := "(Ljava/lang/String;)Ljava/lang/String;" } : Jvm.MethodName) prog_10_method_5_code (4 : Nat) (Option.some (Jvm.ClassFile.FieldType.object "java/lang/String"))).before args0 about1 = true := code_word (m := ⟨9, 2⟩) (meth := k9m2) (c := k9c2) (by decide +kernel) rfl rfl rfl (by decide +kernel)
set_option maxRecDepth 65536 in
theorem w_c11 : (Jvm.Cond.code ({ cls := "java/lang/String", name := "isEmpty", desc := "()Z" } : Jvm.MethodName) jdk_42_method_55_code (1 : Nat) (Option.some Jvm.ClassFile.FieldType.boolean)).before args0 about1 = true := code_word (m := ⟨7, 3⟩) (meth := k7m3) (c := k7c3) (by decide +kernel) rfl rfl rfl (by decide +kernel)
set_option maxRecDepth 65536 in
theorem w_c12 : (Jvm.Cond.code ({ cls := "com/example/vestline/vestline/format/Csv", name := "printable", desc := "(Ljava/lang/String;)Ljava/lang/String;" } : Jvm.MethodName) prog_10_method_4_code (1 : Nat) (Option.some (Jvm.ClassFile.FieldType.object "java/lang/String"))).before args0 about1 = true := code_word (m := ⟨9, 1⟩) (meth := k9m1) (c := k9c1) (by decide +kernel) rfl rfl rfl (by decide +kernel)
set_option maxRecDepth 65536 in
theorem w_c13 : (Jvm.Cond.code ({ cls := "java/lang/String", name := "charAt", desc := "(I)C" } : Jvm.MethodName) jdk_42_method_56_code (2 : Nat) (Option.some Jvm.ClassFile.FieldType.char)).before args0 about1 = true := code_word (m := ⟨7, 4⟩) (meth := k7m4) (c := k7c4) (by decide +kernel) rfl rfl rfl (by decide +kernel)
set_option maxRecDepth 65536 in
theorem w_c14 : (Jvm.Cond.code ({ cls := "java/lang/String", name := "isLatin1", desc := "()Z" } : Jvm.MethodName) jdk_42_method_154_code (1 : Nat) (Option.some Jvm.ClassFile.FieldType.boolean)).before args0 about1 = true := code_word (m := ⟨7, 10⟩) (meth := k7m10) (c := k7c10) (by decide +kernel) rfl rfl rfl (by decide +kernel)
set_option maxRecDepth 65536 in
theorem w_c15 : (Jvm.Cond.code ({ cls := "java/lang/StringLatin1", name := "charAt", desc := "([BI)C" } : Jvm.MethodName) jdk_43_method_2_code (2 : Nat) (Option.some Jvm.ClassFile.FieldType.char)).before args0 about1 = true := code_word (m := ⟨10, 1⟩) (meth := k10m1) (c := k10c1) (by decide +kernel) rfl rfl rfl (by decide +kernel)
set_option maxRecDepth 65536 in
theorem w_c16 : (Jvm.Cond.code ({ cls := "java/lang/String", name := "checkIndex", desc := "(II)V" } : Jvm.MethodName) jdk_42_method_155_code (2 : Nat) (Option.none : Option Jvm.ClassFile.FieldType)).before args0 about1 = true := code_word (m := ⟨7, 11⟩) (meth := k7m11) (c := k7c11) (by decide +kernel) rfl rfl rfl (by decide +kernel)
set_option maxRecDepth 65536 in
theorem w_c17 : (Jvm.Cond.code ({ cls := "jdk/internal/util/Preconditions", name := "checkIndex", desc := "(IILjava/util/function/BiFunction;)I" } : Jvm.MethodName) jdk_41_method_11_code (3 : Nat) (Option.some Jvm.ClassFile.FieldType.int)).before args0 about1 = true := code_word (m := ⟨11, 1⟩) (meth := k11m1) (c := k11c1) (by decide +kernel) rfl rfl rfl (by decide +kernel)
set_option maxRecDepth 65536 in
theorem w_c18 : (Jvm.Cond.code ({ cls := "java/lang/String", name := "indexOf", desc := "(I)I" } : Jvm.MethodName) jdk_42_method_79_code (2 : Nat) (Option.some Jvm.ClassFile.FieldType.int)).before args0 about1 = true := code_word (m := ⟨7, 6⟩) (meth := k7m6) (c := k7c6) (by decide +kernel) rfl rfl rfl (by decide +kernel)
set_option maxRecDepth 65536 in
theorem w_c19 : (Jvm.Cond.code ({ cls := "java/lang/String", name := "indexOf", desc := "(II)I" } : Jvm.MethodName) jdk_42_method_80_code (3 : Nat) (Option.some Jvm.ClassFile.FieldType.int)).before args0 about1 = true := code_word (m := ⟨7, 7⟩) (meth := k7m7) (c := k7c7) (by decide +kernel) rfl rfl rfl (by decide +kernel)
set_option maxRecDepth 65536 in
theorem w_c20 : (Jvm.Cond.code ({ cls := "java/lang/String", name := "length", desc := "()I" } : Jvm.MethodName) jdk_42_method_54_code (1 : Nat) (Option.some Jvm.ClassFile.FieldType.int)).before args0 about1 = true := code_word (m := ⟨7, 2⟩) (meth := k7m2) (c := k7c2) (by decide +kernel) rfl rfl rfl (by decide +kernel)
set_option maxRecDepth 65536 in
theorem w_c21 : (Jvm.Cond.code ({ cls := "java/lang/String", name := "coder", desc := "()B" } : Jvm.MethodName) jdk_42_method_152_code (1 : Nat) (Option.some Jvm.ClassFile.FieldType.byte)).before args0 about1 = true := code_word (m := ⟨7, 9⟩) (meth := k7m9) (c := k7c9) (by decide +kernel) rfl rfl rfl (by decide +kernel)
set_option maxRecDepth 65536 in
theorem w_c22 : (Jvm.Cond.code ({ cls := "java/lang/StringLatin1", name := "indexOf", desc := "([BIII)I" } : Jvm.MethodName) jdk_43_method_22_code (4 : Nat) (Option.some Jvm.ClassFile.FieldType.int)).before args0 about1 = true := code_word (m := ⟨10, 3⟩) (meth := k10m3) (c := k10c3) (by decide +kernel) rfl rfl rfl (by decide +kernel)
set_option maxRecDepth 65536 in
theorem w_c23 : (Jvm.Cond.code ({ cls := "java/lang/StringLatin1", name := "canEncode", desc := "(I)Z" } : Jvm.MethodName) jdk_43_method_4_code (1 : Nat) (Option.some Jvm.ClassFile.FieldType.boolean)).before args0 about1 = true := code_word (m := ⟨10, 2⟩) (meth := k10m2) (c := k10c2) (by decide +kernel) rfl rfl rfl (by decide +kernel)
set_option maxRecDepth 65536 in
theorem w_c24 : (Jvm.Cond.code ({ cls := "java/lang/Math", name := "max", desc := "(II)I" } : Jvm.MethodName) jdk_29_method_65_code (2 : Nat) (Option.some Jvm.ClassFile.FieldType.int)).before args0 about1 = true := code_word (m := ⟨12, 1⟩) (meth := k12m1) (c := k12c1) (by decide +kernel) rfl rfl rfl (by decide +kernel)
set_option maxRecDepth 65536 in
theorem w_c25 : (Jvm.Cond.code ({ cls := "java/lang/Math", name := "min", desc := "(II)I" } : Jvm.MethodName) jdk_29_method_69_code (2 : Nat) (Option.some Jvm.ClassFile.FieldType.int)).before args0 about1 = true := code_word (m := ⟨12, 2⟩) (meth := k12m2) (c := k12c2) (by decide +kernel) rfl rfl rfl (by decide +kernel)
set_option maxRecDepth 65536 in
theorem w_c26 : (Jvm.Cond.code ({ cls := "java/lang/StringLatin1", name := "indexOfChar", desc := "([BIII)I" } : Jvm.MethodName) jdk_43_method_23_code (6 : Nat) (Option.some Jvm.ClassFile.FieldType.int)).before args0 about1 = true := code_word (m := ⟨10, 4⟩) (meth := k10m4) (c := k10c4) (by decide +kernel) rfl rfl rfl (by decide +kernel)
set_option maxRecDepth 65536 in
theorem w_c27 : (Jvm.Cond.code ({ cls := "java/lang/Character", name := "isISOControl", desc := "(C)Z" } : Jvm.MethodName) jdk_89_method_88_code (1 : Nat) (Option.some Jvm.ClassFile.FieldType.boolean)).before args0 about1 = true := code_word (m := ⟨13, 0⟩) (meth := k13m0) (c := k13c0) (by decide +kernel) rfl rfl rfl (by decide +kernel)
set_option maxRecDepth 65536 in
theorem w_c28 : (Jvm.Cond.code ({ cls := "java/lang/Character", name := "isISOControl", desc := "(I)Z" } : Jvm.MethodName) jdk_89_method_89_code (1 : Nat) (Option.some Jvm.ClassFile.FieldType.boolean)).before args0 about1 = true := code_word (m := ⟨13, 1⟩) (meth := k13m1) (c := k13c1) (by decide +kernel) rfl rfl rfl (by decide +kernel)
set_option maxRecDepth 65536 in
theorem w_c29 : (Jvm.Cond.code ({ cls := "java/lang/String", name := "equals", desc := "(Ljava/lang/Object;)Z" } : Jvm.MethodName) jdk_42_method_66_code (3 : Nat) (Option.some Jvm.ClassFile.FieldType.boolean)).before args0 about1 = true := code_word (m := ⟨7, 5⟩) (meth := k7m5) (c := k7c5) (by decide +kernel) rfl rfl rfl (by decide +kernel)
set_option maxRecDepth 65536 in
theorem w_c30 : (Jvm.Cond.code ({ cls := "java/lang/StringUTF16", name := "toBytes", desc := "([CII)[B" } : Jvm.MethodName) jdk_52_method_14_code (5 : Nat) (Option.some (Jvm.ClassFile.FieldType.array Jvm.ClassFile.FieldType.byte))).before args0 about1 = true := code_word (m := ⟨8, 6⟩) (meth := k8m6) (c := k8c6) (by decide +kernel) rfl rfl rfl (by decide +kernel)
set_option maxRecDepth 65536 in
theorem w_c31 : (Jvm.Cond.code ({ cls := "java/lang/StringUTF16", name := "newBytesFor", desc := "(I)[B" } : Jvm.MethodName) jdk_52_method_2_code (1 : Nat) (Option.some (Jvm.ClassFile.FieldType.array Jvm.ClassFile.FieldType.byte))).before args0 about1 = true := code_word (m := ⟨8, 1⟩) (meth := k8m1) (c := k8c1) (by decide +kernel) rfl rfl rfl (by decide +kernel)
set_option maxRecDepth 65536 in
theorem w_c32 : (Jvm.Cond.code ({ cls := "java/lang/StringUTF16", name := "newBytesLength", desc := "(I)I" } : Jvm.MethodName) jdk_52_method_3_code (1 : Nat) (Option.some Jvm.ClassFile.FieldType.int)).before args0 about1 = true := code_word (m := ⟨8, 2⟩) (meth := k8m2) (c := k8c2) (by decide +kernel) rfl rfl rfl (by decide +kernel)
set_option maxRecDepth 65536 in
theorem w_c33 : (Jvm.Cond.code ({ cls := "java/lang/StringUTF16", name := "putChar", desc := "([BII)V" } : Jvm.MethodName) jdk_52_method_4_code (3 : Nat) (Option.none : Option Jvm.ClassFile.FieldType)).before args0 about1 = true := code_word (m := ⟨8, 3⟩) (meth := k8m3) (c := k8c3) (by decide +kernel) rfl rfl rfl (by decide +kernel)
set_option maxRecDepth 65536 in
theorem w_c34 : (Jvm.Cond.code ({ cls := "java/lang/StringUTF16", name := "getChar", desc := "([BI)C" } : Jvm.MethodName) jdk_52_method_5_code (2 : Nat) (Option.some Jvm.ClassFile.FieldType.char)).before args0 about1 = true := code_word (m := ⟨8, 4⟩) (meth := k8m4) (c := k8c4) (by decide +kernel) rfl rfl rfl (by decide +kernel)
set_option maxRecDepth 65536 in
theorem w_c35 : (Jvm.Cond.code ({ cls := "java/lang/StringUTF16", name := "charAt", desc := "([BI)C" } : Jvm.MethodName) jdk_52_method_83_code (2 : Nat) (Option.some Jvm.ClassFile.FieldType.char)).before args0 about1 = true := code_word (m := ⟨8, 10⟩) (meth := k8m10) (c := k8c10) (by decide +kernel) rfl rfl rfl (by decide +kernel)
set_option maxRecDepth 65536 in
theorem w_c36 : (Jvm.Cond.code ({ cls := "java/lang/StringUTF16", name := "checkIndex", desc := "(I[B)V" } : Jvm.MethodName) jdk_52_method_91_code (2 : Nat) (Option.none : Option Jvm.ClassFile.FieldType)).before args0 about1 = true := code_word (m := ⟨8, 11⟩) (meth := k8m11) (c := k8c11) (by decide +kernel) rfl rfl rfl (by decide +kernel)
set_option maxRecDepth 65536 in
theorem w_c37 : (Jvm.Cond.code ({ cls := "java/lang/StringUTF16", name := "length", desc := "([B)I" } : Jvm.MethodName) jdk_52_method_6_code (1 : Nat) (Option.some Jvm.ClassFile.FieldType.int)).before args0 about1 = true := code_word (m := ⟨8, 5⟩) (meth := k8m5) (c := k8c5) (by decide +kernel) rfl rfl rfl (by decide +kernel)
def codes1 : List Jvm.Cond := [Jvm.Cond.code x code maxLocals ret, Jvm.Cond.code ({ cls := "com/example/vestline/vestline/format/CsvNamePinLaw", name := "formulaStart", desc := "(C)Z" } : Jvm.MethodName) method_4_code (1 : Nat) (Option.some Jvm.ClassFile.FieldType.boolean), Jvm.Cond.code ({ cls := "com/example/vestline/vestline/format/CsvNamePinLaw", name := "control", desc := "(C)Z" } : Jvm.MethodName) method_3_code (1 : Nat) (Option.some Jvm.ClassFile.FieldType.boolean), Jvm.Cond.code ({ cls := "com/example/vestline/vestline/format/CsvNamePinLaw", name := "make", desc := "(ICCCC)Ljava/lang/String;" } : Jvm.MethodName) method_5_code (5 : Nat) (Option.some (Jvm.ClassFile.FieldType.object "java/lang/String")), Jvm.Cond.code ({ cls := "java/lang/String", name := "<init>", desc := "([C)V" } : Jvm.MethodName) jdk_42_method_3_code (2 : Nat) (Option.none : Option Jvm.ClassFile.FieldType), Jvm.Cond.code ({ cls := "java/lang/String", name := "<init>", desc := "([CIILjava/lang/Void;)V" } : Jvm.MethodName) jdk_42_method_149_code (6 : Nat) (Option.none : Option Jvm.ClassFile.FieldType), Jvm.Cond.code ({ cls := "java/lang/Object", name := "<init>", desc := "()V" } : Jvm.MethodName) object_method_1_code (1 : Nat) (Option.none : Option Jvm.ClassFile.FieldType), Jvm.Cond.code ({ cls := "java/lang/StringUTF16", name := "compress", desc := "([CII)[B" } : Jvm.MethodName) jdk_52_method_16_code (6 : Nat) (Option.some (Jvm.ClassFile.FieldType.array Jvm.ClassFile.FieldType.byte)), Jvm.Cond.code ({ cls := "java/lang/StringUTF16", name := "compress", desc := "([CI[BII)I" } : Jvm.MethodName) jdk_52_method_21_code (7 : Nat) (Option.some Jvm.ClassFile.FieldType.int), Jvm.Cond.code ({ cls := "java/lang/StringUTF16", name := "coderFromArrayLen", desc := "([BI)B" } : Jvm.MethodName) jdk_52_method_15_code (2 : Nat) (Option.some Jvm.ClassFile.FieldType.byte), Jvm.Cond.code ({ cls := "com/example/vestline/vestline/format/Csv", name := "name", desc := "(Ljava/lang/String;)Ljava/lang/String;" } : Jvm.MethodName) prog_10_method_5_code (4 : Nat) (Option.some (Jvm.ClassFile.FieldType.object "java/lang/String")), Jvm.Cond.code ({ cls := "java/lang/String", name := "isEmpty", desc := "()Z" } : Jvm.MethodName) jdk_42_method_55_code (1 : Nat) (Option.some Jvm.ClassFile.FieldType.boolean), Jvm.Cond.code ({ cls := "com/example/vestline/vestline/format/Csv", name := "printable", desc := "(Ljava/lang/String;)Ljava/lang/String;" } : Jvm.MethodName) prog_10_method_4_code (1 : Nat) (Option.some (Jvm.ClassFile.FieldType.object "java/lang/String")), Jvm.Cond.code ({ cls := "java/lang/String", name := "charAt", desc := "(I)C" } : Jvm.MethodName) jdk_42_method_56_code (2 : Nat) (Option.some Jvm.ClassFile.FieldType.char), Jvm.Cond.code ({ cls := "java/lang/String", name := "isLatin1", desc := "()Z" } : Jvm.MethodName) jdk_42_method_154_code (1 : Nat) (Option.some Jvm.ClassFile.FieldType.boolean), Jvm.Cond.code ({ cls := "java/lang/StringLatin1", name := "charAt", desc := "([BI)C" } : Jvm.MethodName) jdk_43_method_2_code (2 : Nat) (Option.some Jvm.ClassFile.FieldType.char), Jvm.Cond.code ({ cls := "java/lang/String", name := "checkIndex", desc := "(II)V" } : Jvm.MethodName) jdk_42_method_155_code (2 : Nat) (Option.none : Option Jvm.ClassFile.FieldType), Jvm.Cond.code ({ cls := "jdk/internal/util/Preconditions", name := "checkIndex", desc := "(IILjava/util/function/BiFunction;)I" } : Jvm.MethodName) jdk_41_method_11_code (3 : Nat) (Option.some Jvm.ClassFile.FieldType.int), Jvm.Cond.code ({ cls := "java/lang/String", name := "indexOf", desc := "(I)I" } : Jvm.MethodName) jdk_42_method_79_code (2 : Nat) (Option.some Jvm.ClassFile.FieldType.int), Jvm.Cond.code ({ cls := "java/lang/String", name := "indexOf", desc := "(II)I" } : Jvm.MethodName) jdk_42_method_80_code (3 : Nat) (Option.some Jvm.ClassFile.FieldType.int), Jvm.Cond.code ({ cls := "java/lang/String", name := "length", desc := "()I" } : Jvm.MethodName) jdk_42_method_54_code (1 : Nat) (Option.some Jvm.ClassFile.FieldType.int), Jvm.Cond.code ({ cls := "java/lang/String", name := "coder", desc := "()B" } : Jvm.MethodName) jdk_42_method_152_code (1 : Nat) (Option.some Jvm.ClassFile.FieldType.byte), Jvm.Cond.code ({ cls := "java/lang/StringLatin1", name := "indexOf", desc := "([BIII)I" } : Jvm.MethodName) jdk_43_method_22_code (4 : Nat) (Option.some Jvm.ClassFile.FieldType.int), Jvm.Cond.code ({ cls := "java/lang/StringLatin1", name := "canEncode", desc := "(I)Z" } : Jvm.MethodName) jdk_43_method_4_code (1 : Nat) (Option.some Jvm.ClassFile.FieldType.boolean), Jvm.Cond.code ({ cls := "java/lang/Math", name := "max", desc := "(II)I" } : Jvm.MethodName) jdk_29_method_65_code (2 : Nat) (Option.some Jvm.ClassFile.FieldType.int), Jvm.Cond.code ({ cls := "java/lang/Math", name := "min", desc := "(II)I" } : Jvm.MethodName) jdk_29_method_69_code (2 : Nat) (Option.some Jvm.ClassFile.FieldType.int), Jvm.Cond.code ({ cls := "java/lang/StringLatin1", name := "indexOfChar", desc := "([BIII)I" } : Jvm.MethodName) jdk_43_method_23_code (6 : Nat) (Option.some Jvm.ClassFile.FieldType.int), Jvm.Cond.code ({ cls := "java/lang/Character", name := "isISOControl", desc := "(C)Z" } : Jvm.MethodName) jdk_89_method_88_code (1 : Nat) (Option.some Jvm.ClassFile.FieldType.boolean), Jvm.Cond.code ({ cls := "java/lang/Character", name := "isISOControl", desc := "(I)Z" } : Jvm.MethodName) jdk_89_method_89_code (1 : Nat) (Option.some Jvm.ClassFile.FieldType.boolean), Jvm.Cond.code ({ cls := "java/lang/String", name := "equals", desc := "(Ljava/lang/Object;)Z" } : Jvm.MethodName) jdk_42_method_66_code (3 : Nat) (Option.some Jvm.ClassFile.FieldType.boolean), Jvm.Cond.code ({ cls := "java/lang/StringUTF16", name := "toBytes", desc := "([CII)[B" } : Jvm.MethodName) jdk_52_method_14_code (5 : Nat) (Option.some (Jvm.ClassFile.FieldType.array Jvm.ClassFile.FieldType.byte)), Jvm.Cond.code ({ cls := "java/lang/StringUTF16", name := "newBytesFor", desc := "(I)[B" } : Jvm.MethodName) jdk_52_method_2_code (1 : Nat) (Option.some (Jvm.ClassFile.FieldType.array Jvm.ClassFile.FieldType.byte)), Jvm.Cond.code ({ cls := "java/lang/StringUTF16", name := "newBytesLength", desc := "(I)I" } : Jvm.MethodName) jdk_52_method_3_code (1 : Nat) (Option.some Jvm.ClassFile.FieldType.int), Jvm.Cond.code ({ cls := "java/lang/StringUTF16", name := "putChar", desc := "([BII)V" } : Jvm.MethodName) jdk_52_method_4_code (3 : Nat) (Option.none : Option Jvm.ClassFile.FieldType), Jvm.Cond.code ({ cls := "java/lang/StringUTF16", name := "getChar", desc := "([BI)C" } : Jvm.MethodName) jdk_52_method_5_code (2 : Nat) (Option.some Jvm.ClassFile.FieldType.char), Jvm.Cond.code ({ cls := "java/lang/StringUTF16", name := "charAt", desc := "([BI)C" } : Jvm.MethodName) jdk_52_method_83_code (2 : Nat) (Option.some Jvm.ClassFile.FieldType.char), Jvm.Cond.code ({ cls := "java/lang/StringUTF16", name := "checkIndex", desc := "(I[B)V" } : Jvm.MethodName) jdk_52_method_91_code (2 : Nat) (Option.none : Option Jvm.ClassFile.FieldType), Jvm.Cond.code ({ cls := "java/lang/StringUTF16", name := "length", desc := "([B)I" } : Jvm.MethodName) jdk_52_method_6_code (1 : Nat) (Option.some Jvm.ClassFile.FieldType.int)]
set_option maxRecDepth 65536 in
theorem codes_eq : words1.filter isCode = codes1 := rfl
theorem w_codes : ∀ c ∈ words1.filter isCode, c.before args0 about1 = true := by
  rw [codes_eq]
  intro c hc
  simp only [codes1, List.mem_cons, List.not_mem_nil, or_false] at hc
  rcases hc with rfl | rfl | rfl | rfl | rfl | rfl | rfl | rfl | rfl | rfl | rfl | rfl | rfl | rfl | rfl | rfl | rfl | rfl | rfl | rfl | rfl | rfl | rfl | rfl | rfl | rfl | rfl | rfl | rfl | rfl | rfl | rfl | rfl | rfl | rfl | rfl | rfl | rfl
  · exact w_c0
  · exact w_c1
  · exact w_c2
  · exact w_c3
  · exact w_c4
  · exact w_c5
  · exact w_c6
  · exact w_c7
  · exact w_c8
  · exact w_c9
  · exact w_c10
  · exact w_c11
  · exact w_c12
  · exact w_c13
  · exact w_c14
  · exact w_c15
  · exact w_c16
  · exact w_c17
  · exact w_c18
  · exact w_c19
  · exact w_c20
  · exact w_c21
  · exact w_c22
  · exact w_c23
  · exact w_c24
  · exact w_c25
  · exact w_c26
  · exact w_c27
  · exact w_c28
  · exact w_c29
  · exact w_c30
  · exact w_c31
  · exact w_c32
  · exact w_c33
  · exact w_c34
  · exact w_c35
  · exact w_c36
  · exact w_c37
set_option maxRecDepth 65536 in
theorem w_t1 : (words1.take 24).all (fun c => isCode c || c.before args0 about1) = true := by decide +kernel
set_option maxRecDepth 65536 in
theorem w_t2 : ((words1.drop 24).take 24).all (fun c => isCode c || c.before args0 about1) = true := by decide +kernel
set_option maxRecDepth 65536 in
theorem w_t3 : (((words1.drop 24).drop 24).take 24).all (fun c => isCode c || c.before args0 about1) = true := by decide +kernel
set_option maxRecDepth 65536 in
theorem w_t4 : ((((words1.drop 24).drop 24).drop 24).take 24).all (fun c => isCode c || c.before args0 about1) = true := by decide +kernel
set_option maxRecDepth 65536 in
theorem w_t5 : (((((words1.drop 24).drop 24).drop 24).drop 24).take 24).all (fun c => isCode c || c.before args0 about1) = true := by decide +kernel
set_option maxRecDepth 65536 in
theorem w_t6 : ((((((words1.drop 24).drop 24).drop 24).drop 24).drop 24).take 24).all (fun c => isCode c || c.before args0 about1) = true := by decide +kernel
set_option maxRecDepth 65536 in
theorem w_t7 : ((((((words1.drop 24).drop 24).drop 24).drop 24).drop 24).drop 24).all (fun c => isCode c || c.before args0 about1) = true := by decide +kernel
theorem w_tables : (allAtoms (Jvm.Cond.code x code maxLocals ret :: tables_1)).before args0 about1 = true := by
  rw [allAtoms_all]
  show words1.all (fun c => c.before args0 about1) = true
  refine all_split ?_ w_codes
  rw [← List.take_append_drop 24 words1, List.all_append, w_t1, ← List.take_append_drop 24 (words1.drop 24), List.all_append, w_t2, ← List.take_append_drop 24 ((words1.drop 24).drop 24), List.all_append, w_t3, ← List.take_append_drop 24 (((words1.drop 24).drop 24).drop 24), List.all_append, w_t4, ← List.take_append_drop 24 ((((words1.drop 24).drop 24).drop 24).drop 24), List.all_append, w_t5, ← List.take_append_drop 24 (((((words1.drop 24).drop 24).drop 24).drop 24).drop 24), List.all_append, w_t6, w_t7]
  rfl
set_option maxRecDepth 65536 in
theorem w_rest : rest_1_c.before args0 about1 = true := by decide +kernel
set_option maxRecDepth 65536 in
theorem w_case : (Jvm.Cond.and given_1 narrow_1).before args0 about1 = true := by decide +kernel
set_option maxRecDepth 65536 in
theorem w_consts : constsHeld consts_1 about1 := Jvm.Lit.constsHeldB_iff.mp (by decide +kernel)
theorem w_applies : (headSpec (Jvm.Cond.code x code maxLocals ret :: tables_1) room_1).applies x e0.platform about1 = true :=
  (Spec.applies_iff w_frames).mpr ⟨w_running, w_runnable, w_alone, w_named, w_hears, w_ripe, w_room, w_tables⟩
theorem atStart : AtStart classFile x code maxLocals ret World_1 tables_1 room_1 Calls_1 rest_1 Pre_1 launch0 p0 e0 about1 theMethod args0 below0 :=
  ⟨lists_1, trivial, launch0.admits_env _ _ _, launch0.least_env, fairChoices_fair.cas, fairChoices_fair.clock, w_frames, w_args, w_heap, w_applies, ⟨w_consts, trivial⟩, w_rest, w_case⟩
end start1
theorem witness_1 : WitnessClaimed_1 := ⟨start1.p0, start1.e0, start1.about1, start1.theMethod, start1.args0, start1.below0, start1.atStart⟩
end Jvm.Pilot.@@N@@
