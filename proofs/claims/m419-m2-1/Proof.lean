import JvmDerived
import JvmDerived.Pilot.@@N@@Statement
import JvmDerived.Pilot.@@N@@Code
set_option linter.unusedVariables false
set_option linter.unusedSimpArgs false
namespace Jvm.RoadKit
open Sem ClassFile Op Lib Jvm.Stand Jvm.Free Jvm.LawKit
section Own
variable {p : Program} {l : Launch} {e : Env} {R : Room} {s : State} {m : MethodId} {args : Array Value} {below : List Frame} {meth : Method} {c : Code} {T : State} {locs : List Loc} {cells slots : Nat}
theorem retI (X : Stand p l e R s m args below meth c T locs cells slots) (hx : p.tables.exec = Jvm.exec) {pc : Nat} {Ls : Array Slot} {z : Int32} {rest : List Value} (hret : meth.sig.returnType = some .int) (hd : decode c.code pc = .ok (.ireturn, 1)) {fs : List Frame}
    (hl : ∀ (f : JFrame) (acts : List Action), f.method = m → f.locked = none → f.entered = [] → (doReturn e (T.setTop f) acts (some (.int z))).1 = T.setFrames fs) : Steps p.tables e below (T.setTop (mkF m pc Ls (.int z :: rest))) (T.setFrames fs) := by
  have hm' : T.vm.method? m = some meth := X.method'
  have hn : narrow .int (.int z) = .int z := rfl
  show Steps p.tables e below (T.setTop { method := m, pc := pc, locals := Ls, stack := _ :: rest, locked := none }) _
  jvm_step X.here [X.here.top, hx, hd, hm', hret, hn]
  first | (intro acts; rw [hl _ acts rfl rfl rfl]) | rw [hl _ _ rfl rfl rfl]
  exact Steps.refl _
/-- the walk comes to an end, with what Φ says there -/
def Goes (p : Program) (e : Env) (below : List Frame) (Φ : State → Outcome → Prop) (S : State) : Prop := ∃ s₂ o, Steps p.tables e below S s₂ ∧ s₂.status = .running ∧ Ended s₂ below o ∧ Φ s₂ o
theorem Goes.via {Φ : State → Outcome → Prop} {S S' : State} (k : ∀ t, Steps p.tables e below S' t → Steps p.tables e below S t) (h : Goes p e below Φ S') : Goes p e below Φ S := by
  obtain ⟨s₂, o, h1, h2, h3, h4⟩ := h
  exact ⟨s₂, o, k _ h1, h2, h3, h4⟩
/-- what a contract's end says -/
def Fin (s : State) (Q : Option Value → Heap → List Loc → Prop) (C S : Nat) : State → Outcome → Prop := fun s₂ o => ∃ v L, o = .returned v ∧ Q v s₂.heap L ∧ FrameEnd s o s₂ L C S
theorem Goes.retN (X : Stand p l e R s m args below meth c T locs cells slots) (hx : p.tables.exec = Jvm.exec) (hlocks : meth.locks = false) {pc : Nat} {Ls : Array Slot} {z : Int32} {t : FieldType} {rest : List Value} (hret : meth.sig.returnType = some t) (ht : t = .boolean ∨ t = .byte ∨ t = .char ∨ t = .short)
    (hd : decode c.code pc = .ok (.ireturn, 1)) {Q : Option Value → Heap → List Loc → Prop} {C S : Nat} (hc : cells ≤ C) (hs : slots ≤ S) (hQ : Q (some (.int (nar t z))) T.heap locs) : Goes p e below (Fin s Q C S) (T.setTop (mkF m pc Ls (.int z :: rest))) := by
  obtain ⟨fs, hr, hrun, hended, hW, hsame⟩ := X.leave (v := some (.int (nar t z))) (fun h => by rw [hret] at h; cases h) hlocks
  exact ⟨_, _, Jvm.RoadKit.retN X hx hret ht hd hr, hrun, hended, _, _, rfl, hQ, ⟨_, rfl⟩, hW, hsame.mono hc hs⟩
theorem Goes.retI (X : Stand p l e R s m args below meth c T locs cells slots) (hx : p.tables.exec = Jvm.exec) (hlocks : meth.locks = false) {pc : Nat} {Ls : Array Slot} {z : Int32} {rest : List Value} (hret : meth.sig.returnType = some .int)
    (hd : decode c.code pc = .ok (.ireturn, 1)) {Q : Option Value → Heap → List Loc → Prop} {C S : Nat} (hc : cells ≤ C) (hs : slots ≤ S) (hQ : Q (some (.int z)) T.heap locs) : Goes p e below (Fin s Q C S) (T.setTop (mkF m pc Ls (.int z :: rest))) := by
  obtain ⟨fs, hr, hrun, hended, hW, hsame⟩ := X.leave (v := some (.int z)) (fun h => by rw [hret] at h; cases h) hlocks
  exact ⟨_, _, Jvm.RoadKit.retI X hx hret hd hr, hrun, hended, _, _, rfl, hQ, ⟨_, rfl⟩, hW, hsame.mono hc hs⟩
theorem Goes.retO (X : Stand p l e R s m args below meth c T locs cells slots) (hx : p.tables.exec = Jvm.exec) (hlocks : meth.locks = false) {pc : Nat} {Ls : Array Slot} {w : Value} {t : FieldType} {i : Instr} {rest : List Value} (hret : meth.sig.returnType = some t) (hn : narrow t w = w)
    (hi : (i = .ireturn ∧ (t = .int ∨ t = .boolean ∨ t = .byte ∨ t = .char ∨ t = .short) ∧ ∃ z, w = .int z) ∨ (i = .lreturn ∧ t = .long ∧ ∃ z, w = .long z) ∨ (i = .dreturn ∧ t = .double ∧ ∃ z, w = .double z) ∨ (i = .freturn ∧ t = .float ∧ ∃ z, w = .float z) ∨ (i = .areturn ∧ t.isReference = true ∧ w.isRef = true))
    (hd : decode c.code pc = .ok (i, 1)) {Q : Option Value → Heap → List Loc → Prop} {C S : Nat} (hc : cells ≤ C) (hs : slots ≤ S) (hQ : Q (some w) T.heap locs) : Goes p e below (Fin s Q C S) (T.setTop (mkF m pc Ls (w :: rest))) := by
  obtain ⟨fs, hr, hrun, hended, hW, hsame⟩ := X.leave (v := some w) (fun h => by rw [hret] at h; cases h) hlocks
  exact ⟨_, _, Jvm.RoadKit.retOut X hx hret hn hi hd hr, hrun, hended, _, _, rfl, hQ, ⟨_, rfl⟩, hW, hsame.mono hc hs⟩
theorem Goes.retV (X : Stand p l e R s m args below meth c T locs cells slots) (hx : p.tables.exec = Jvm.exec) (hlocks : meth.locks = false) {pc : Nat} {Ls : Array Slot} (hret : meth.sig.returnType = none)
    (hd : decode c.code pc = .ok (.return_, 1)) {Q : Option Value → Heap → List Loc → Prop} {C S : Nat} (hc : cells ≤ C) (hs : slots ≤ S) (hQ : Q none T.heap locs) : Goes p e below (Fin s Q C S) (T.setTop (mkF m pc Ls [])) := by
  obtain ⟨fs, hr, hrun, hended, hW, hsame⟩ := X.leave (v := none) (fun _ => rfl) hlocks
  exact ⟨_, _, X.returnOut hx hret hd hr, hrun, hended, _, _, rfl, hQ, ⟨_, rfl⟩, hW, hsame.mono hc hs⟩
/-- room counted generously -/
theorem moreRoom (X : Stand p l e R s m args below meth c T locs cells slots) {k n : Nat} (h1 : cells ≤ k) (h2 : slots ≤ n) : Stand p l e R s m args below meth c T locs k n := { X with same := X.same.mono h1 h2 }
theorem exa_static {args : Array Value} {s : State} {C n d K : String} (h : (Jvm.Cond.exactly (Jvm.Term.static C n d) K).value args s none s [] = some true) : ∃ b, (Jvm.Term.static C n d).eval args s none [] s = some (.ref b) ∧ Exa s s.heap b K := by
  obtain ⟨b, e1⟩ := exa_v h
  exact ⟨b, e1, Exa.start e1 h⟩
theorem fld_static {args : Array Value} {s : State} {t : Jvm.Term} {b : Addr} {C n d : String} {k : Int32} (ev : t.eval args s none [] s = some (.ref b)) (h : (Jvm.Cond.eq (Jvm.Term.field t C n d) (Jvm.Term.int k)).value args s none s [] = some true) : Fld s s.heap b C n d (.int k) := by
  exact Fld.start ((fld_at ev).symm.trans (eqv_i (Term.int_eval k) h))
theorem adr_ne {a b k k' : Nat} (h : a < k) (g : b = k') (q : k ≤ k') : a ≠ b := by omega
theorem cat_ref {v : Value} (h : v.isRef = true) : v.category = 1 := by rcases ref_cases h with rfl | ⟨_, rfl⟩ <;> rfl
theorem narrow_ref {v : Value} {t : FieldType} (h : v.isRef = true) : narrow t v = v := by rcases ref_cases h with rfl | ⟨_, rfl⟩ <;> cases t <;> rfl
theorem fits_refO {v : Value} {C : String} (h : v.isRef = true) : fits (.object C) v = true := by rcases ref_cases h with rfl | ⟨_, rfl⟩ <;> rfl
theorem fld_null {args : Array Value} {s : State} {t : Jvm.Term} {b : Addr} {C n d : String} (ev : t.eval args s none [] s = some (.ref b)) (h : (Jvm.Cond.eq (Jvm.Term.field t C n d) Jvm.Term.null).value args s none s [] = some true) : Fld s s.heap b C n d .null := Fld.start ((fld_at ev).symm.trans (null_v h))
theorem ret1 {z : Int32} (h : z = 1) : some (Value.int (nar .boolean z)) = some (.int 1) := by subst h; rfl
end Own
end Jvm.RoadKit
namespace Jvm.RoadKit
open Sem ClassFile Op Lib Jvm.Stand Jvm.Free Jvm.LawKit
section OwnH
variable {p : Program} {l : Launch} {e : Env} {R : Room} {s : State} {m : MethodId} {args : Array Value} {below : List Frame} {meth : Method} {c : Code} {T : State} {locs : List Loc} {cells slots : Nat} {Z : State} {a0 : Array Value} {EL : List (String × Nat)} {h : Heap}
/-- what a contract's end says where held constants are used -/
def FinH (s Z : State) (EL : List (String × Nat)) (Q : Option Value → Heap → List Loc → Prop) (C S : Nat) : State → Outcome → Prop := fun s₂ o => ∃ v L, o = .returned v ∧ Q v s₂.heap L ∧ CHr Z EL s.vm s.heap s₂.vm s₂.heap ∧ ReturnedEndW s o s₂ L C S
theorem Goes.retOH {vm1 : Vm} (X : Stand p l e R (s.setVm vm1) m args below meth c T locs cells slots) (hx : p.tables.exec = Jvm.exec) (hlocks : meth.locks = false) {k : Nat} (hS : s.Since vm1 k) (hk : k ≤ h.size) (eT : T.heap = h) (hZ : Z.Warmed39 vm1) (hEL : EW Z a0 EL) (hC : CHr Z EL s.vm s.heap vm1 h) {pc : Nat} {Ls : Array Slot} {w : Value} {t : FieldType} {i : Instr} {rest : List Value} (hret : meth.sig.returnType = some t) (hn : narrow t w = w)
    (hi : (i = .ireturn ∧ (t = .int ∨ t = .boolean ∨ t = .byte ∨ t = .char ∨ t = .short) ∧ ∃ z, w = .int z) ∨ (i = .lreturn ∧ t = .long ∧ ∃ z, w = .long z) ∨ (i = .dreturn ∧ t = .double ∧ ∃ z, w = .double z) ∨ (i = .freturn ∧ t = .float ∧ ∃ z, w = .float z) ∨ (i = .areturn ∧ t.isReference = true ∧ w.isRef = true))
    (hd : decode c.code pc = .ok (i, 1)) {Q : Option Value → Heap → List Loc → Prop} {C S : Nat} (hc : cells ≤ C) (hs : slots ≤ S) (hQ : Q (some w) T.heap locs) : Goes p e below (FinH s Z EL Q C S) (T.setTop (mkF m pc Ls (w :: rest))) := by
  subst eT
  have hf : CHr Z EL s.vm s.heap T.vm T.heap := hC.trans (CHv.at X hZ hEL hC.1)
  obtain ⟨fs, hr, hrun, hended, h1, h2, h3, h4⟩ := X.leaveW hS hk (v := some w) (fun h => by rw [hret] at h; cases h) hlocks
  exact ⟨_, _, Jvm.RoadKit.retOut X hx hret hn hi hd hr, hrun, hended, _, _, rfl, hQ, hf, h1, h2, h3, h4.mono hc hs⟩
theorem Goes.retVH {vm1 : Vm} (X : Stand p l e R (s.setVm vm1) m args below meth c T locs cells slots) (hx : p.tables.exec = Jvm.exec) (hlocks : meth.locks = false) {k : Nat} (hS : s.Since vm1 k) (hk : k ≤ h.size) (eT : T.heap = h) (hZ : Z.Warmed39 vm1) (hEL : EW Z a0 EL) (hC : CHr Z EL s.vm s.heap vm1 h) {pc : Nat} {Ls : Array Slot} (hret : meth.sig.returnType = none)
    (hd : decode c.code pc = .ok (.return_, 1)) {Q : Option Value → Heap → List Loc → Prop} {C S : Nat} (hc : cells ≤ C) (hs : slots ≤ S) (hQ : Q none T.heap locs) : Goes p e below (FinH s Z EL Q C S) (T.setTop (mkF m pc Ls [])) := by
  subst eT
  have hf : CHr Z EL s.vm s.heap T.vm T.heap := hC.trans (CHv.at X hZ hEL hC.1)
  obtain ⟨fs, hr, hrun, hended, h1, h2, h3, h4⟩ := X.leaveW hS hk (v := none) (fun _ => rfl) hlocks
  exact ⟨_, _, X.returnOut hx hret hd hr, hrun, hended, _, _, rfl, hQ, hf, h1, h2, h3, h4.mono hc hs⟩
theorem Goes.retNH {vm1 : Vm} (X : Stand p l e R (s.setVm vm1) m args below meth c T locs cells slots) (hx : p.tables.exec = Jvm.exec) (hlocks : meth.locks = false) {k : Nat} (hS : s.Since vm1 k) (hk : k ≤ h.size) (eT : T.heap = h) (hZ : Z.Warmed39 vm1) (hEL : EW Z a0 EL) (hC : CHr Z EL s.vm s.heap vm1 h) {pc : Nat} {Ls : Array Slot} {z : Int32} {t : FieldType} {rest : List Value} (hret : meth.sig.returnType = some t) (ht : t = .boolean ∨ t = .byte ∨ t = .char ∨ t = .short)
    (hd : decode c.code pc = .ok (.ireturn, 1)) {Q : Option Value → Heap → List Loc → Prop} {C S : Nat} (hc : cells ≤ C) (hs : slots ≤ S) (hQ : Q (some (.int (nar t z))) T.heap locs) : Goes p e below (FinH s Z EL Q C S) (T.setTop (mkF m pc Ls (.int z :: rest))) := by
  subst eT
  have hf : CHr Z EL s.vm s.heap T.vm T.heap := hC.trans (CHv.at X hZ hEL hC.1)
  obtain ⟨fs, hr, hrun, hended, h1, h2, h3, h4⟩ := X.leaveW hS hk (v := some (.int (nar t z))) (fun h => by rw [hret] at h; cases h) hlocks
  exact ⟨_, _, Jvm.RoadKit.retN X hx hret ht hd hr, hrun, hended, _, _, rfl, hQ, hf, h1, h2, h3, h4.mono hc hs⟩
/-- two stretches that may intern, as one -/
theorem own_fold {vm0 : Vm} {k0 : Nat} {U : State} {h0 : Heap} (hS : s.Since vm0 k0) (hk : k0 ≤ h0.size) (h2 : (s.setVm vm0).Since U.vm U.heap.size) (g : h0.size ≤ U.heap.size) : s.Since U.vm U.heap.size := hS.trans h2 (Nat.le_trans hk g)
end OwnH
end Jvm.RoadKit
namespace Jvm.RoadKit
open Sem ClassFile Op Lib Bundle Jvm.Stand Jvm.Free Jvm.LawKit Jvm.Free.SB Jvm.Free.SBG
/-- a String whose value is still null is no booked one -/
theorem own_safe {Z : State} {EL : List (String × Nat)} {vm : Vm} {h : Heap} {x : Addr} (hal : Z.vm.Alike vm) (E : Exa Z h x "java/lang/String") (F : Fld Z h x "java/lang/String" "value" "[B" .null) : Safe Z EL vm h x := fun B => by
  obtain ⟨p, -, u, a, -, q, -, S, rfl | rfl⟩ := B
  · obtain ⟨cS, ⟨⟨s1, s2, s3, ⟨cv, kv, iv, s4, s4'⟩, s5, s6, s7, s8, r⟩, hfS, hcS⟩, -⟩ := S
    obtain ⟨cell, c0, k0, i0, f0, e1, e2, e3, e4, e5, e6, e7⟩ := F
    cases (show h[q.sa]? = some q.sC from s1).symm.trans e1
    obtain ⟨k', g1, -⟩ := State.fieldFound?_setVm (s := Z) hal e2
    have g2 : (Wst Z vm h).fieldFound? "java/lang/String" "value" "[B" = some (cv, kv, iv, q.fSV) := s4
    have g3 : (Wst Z vm h).fieldFound? "java/lang/String" "value" "[B" = some (c0, k', i0, f0) := g1
    cases g2.symm.trans g3
    cases s8.symm.trans e7
  · obtain ⟨cell, k, e1, e2, e3, -, -⟩ := E
    cases (show h[q.sd]? = some q.SA from S.hd).symm.trans e1
    obtain ⟨cS, -, -, f, -⟩ := S
    have f : vm.findClass "[B" = some q.SA.cls := f
    rw [hal.findClass] at f
    obtain ⟨k1, q1, q2⟩ := Vm.findClass_spec f
    obtain ⟨k2, q3, q4⟩ := Vm.findClass_spec e2
    cases q1.symm.trans q3
    exact absurd (q2.symm.trans q4) (by decide)
end Jvm.RoadKit
namespace Jvm.Pilot.@@N@@
open Jvm Jvm.ClassFile Sem Op Lib Jvm.Free Jvm.Stand Jvm.LawKit Jvm.RoadKit Bundle Jvm.Pilot.@@N@@.Jvm.D
theorem w_ {Z : State} {a0 : Array Value} {d : Jvm.Cond} (hw : ∀ d ∈ tables_1, d.before a0 Z = true) (i : Nat) (h : tables_1[i]? = some d) : d.before a0 Z = true := hw _ (List.mem_of_getElem? h)
abbrev own_M (l : Launch) (Z : State) (y : MethodName) (c : Jvm.Cond) (ws : List Jvm.Cond) (R : Room) (a : Array Value) (h0 : Heap) (Q : Option Value → Heap → List Loc → Prop) : Prop := MetFree l y (head1 (c :: ws) R) (fun a' U => a' = a ∧ Z.Warmed39 U.vm ∧ U.heap = h0) (fun _ _ _ _ _ => True) (fun _ U oo U' => ∃ vv LL, oo = .returned vv ∧ Q vv U'.heap LL ∧ FrameEnd U oo U' LL R.cells R.slots)
theorem pd_0 : parseMethodDescriptor "([CIILjava/lang/Void;)V" = some ⟨[(.array .char), .int, .int, (.object "java/lang/Void")], none⟩ := by decide +kernel
theorem pd_1 : parseMethodDescriptor "(I)I" = some ⟨[.int], some .int⟩ := by decide +kernel
theorem pd_2 : parseMethodDescriptor "(I)[B" = some ⟨[.int], some (.array .byte)⟩ := by decide +kernel
theorem pd_3 : parseMethodDescriptor "([BII)V" = some ⟨[(.array .byte), .int, .int], none⟩ := by decide +kernel
theorem pd_4 : parseMethodDescriptor "([CI[BII)I" = some ⟨[(.array .char), .int, (.array .byte), .int, .int], some .int⟩ := by decide +kernel
theorem pd_5 : parseMethodDescriptor "([CII)[B" = some ⟨[(.array .char), .int, .int], some (.array .byte)⟩ := by decide +kernel
theorem pd_6 : parseMethodDescriptor "([BI)C" = some ⟨[(.array .byte), .int], some .char⟩ := by decide +kernel
theorem pd_7 : parseMethodDescriptor "([BI)B" = some ⟨[(.array .byte), .int], some .byte⟩ := by decide +kernel
theorem pd_8 : parseMethodDescriptor "()B" = some ⟨[], some .byte⟩ := by decide +kernel
theorem pd_9 : parseMethodDescriptor "(IILjava/util/function/BiFunction;)I" = some ⟨[.int, .int, (.object "java/util/function/BiFunction")], some .int⟩ := by decide +kernel
theorem pd_10 : parseMethodDescriptor "(II)V" = some ⟨[.int, .int], none⟩ := by decide +kernel
theorem pd_11 : parseMethodDescriptor "()Z" = some ⟨[], some .boolean⟩ := by decide +kernel
theorem pd_12 : parseMethodDescriptor "([B)I" = some ⟨[(.array .byte)], some .int⟩ := by decide +kernel
theorem pd_13 : parseMethodDescriptor "(I[B)V" = some ⟨[.int, (.array .byte)], none⟩ := by decide +kernel
theorem pd_14 : parseMethodDescriptor "(I)Z" = some ⟨[.int], some .boolean⟩ := by decide +kernel
theorem pd_15 : parseMethodDescriptor "(II)I" = some ⟨[.int, .int], some .int⟩ := by decide +kernel
theorem pd_16 : parseMethodDescriptor "([BIII)I" = some ⟨[(.array .byte), .int, .int, .int], some .int⟩ := by decide +kernel
theorem pd_17 : parseMethodDescriptor "()I" = some ⟨[], some .int⟩ := by decide +kernel
theorem pd_18 : parseMethodDescriptor "(I)C" = some ⟨[.int], some .char⟩ := by decide +kernel
theorem pd_19 : parseMethodDescriptor "([C)V" = some ⟨[(.array .char)], none⟩ := by decide +kernel
theorem pd_20 : parseMethodDescriptor "(Ljava/lang/String;)Ljava/lang/String;" = some ⟨[(.object "java/lang/String")], some (.object "java/lang/String")⟩ := by decide +kernel
theorem pd_21 : parseMethodDescriptor "(Ljava/lang/Object;)Z" = some ⟨[(.object "java/lang/Object")], some .boolean⟩ := by decide +kernel
theorem pd_22 : parseMethodDescriptor "(C)Z" = some ⟨[.char], some .boolean⟩ := by decide +kernel
/-- a Latin-1 String as it stands -/
def own_Str (Z : State) (h : Heap) (a b : Addr) (k : ClassId) (n : Int32) (vs : List Value) : Prop := Exa Z h a "java/lang/String" ∧ Fld Z h a "java/lang/String" "coder" "B" (.int 0) ∧ Fld Z h a "java/lang/String" "value" "[B" (.ref b) ∧ Arv Z h b k .byte n vs (.int 0)
theorem own_Str.ext {Z : State} {h h' : Heap} {a b : Addr} {k : ClassId} {n : Int32} {vs : List Value} (S : own_Str Z h a b k n vs) (E : Ext h h') : own_Str Z h' a b k n vs := ⟨S.1.ext E, S.2.1.ext E, S.2.2.1.ext E, S.2.2.2.ext E⟩
theorem own_Str.keep {Z : State} {h h' : Heap} {a b : Addr} {k : ClassId} {n : Int32} {vs : List Value} {ws : List Addr} (S : own_Str Z h a b k n vs) (K : Keep h h' ws) (q1 : a ∉ ws) (q2 : b ∉ ws) : own_Str Z h' a b k n vs := ⟨S.1.keep K, S.2.1.keep K q1, S.2.2.1.keep K q1, S.2.2.2.keep K q2⟩
theorem own_Str.lt {Z : State} {h : Heap} {a b : Addr} {k : ClassId} {n : Int32} {vs : List Value} (S : own_Str Z h a b k n vs) : a < h.size ∧ b < h.size := ⟨S.1.lt, S.2.2.2.lt⟩
def own_by (c : Int32) : Int32 := nar .byte c.toInt8.toInt32
/-- a UTF-16 String as it stands -/
def own_StU (Z : State) (h : Heap) (a b : Addr) (k : ClassId) (n : Int32) (vs : List Value) : Prop := Exa Z h a "java/lang/String" ∧ Fld Z h a "java/lang/String" "coder" "B" (.int 1) ∧ Fld Z h a "java/lang/String" "value" "[B" (.ref b) ∧ Arv Z h b k .byte n vs (.int 0)
theorem own_StU.ext {Z : State} {h h' : Heap} {a b : Addr} {k : ClassId} {n : Int32} {vs : List Value} (S : own_StU Z h a b k n vs) (E : Ext h h') : own_StU Z h' a b k n vs := ⟨S.1.ext E, S.2.1.ext E, S.2.2.1.ext E, S.2.2.2.ext E⟩
theorem own_StU.keep {Z : State} {h h' : Heap} {a b : Addr} {k : ClassId} {n : Int32} {vs : List Value} {ws : List Addr} (S : own_StU Z h a b k n vs) (K : Keep h h' ws) (q1 : a ∉ ws) (q2 : b ∉ ws) : own_StU Z h' a b k n vs := ⟨S.1.keep K, S.2.1.keep K q1, S.2.2.1.keep K q1, S.2.2.2.keep K q2⟩
def own_lo (c : Int32) : Int32 := nar .byte (c >>> ((0 : Int32) &&& 31)).toInt8.toInt32
def own_hi (c : Int32) : Int32 := nar .byte (c >>> ((8 : Int32) &&& 31)).toInt8.toInt32
theorem own_nb (x : Int32) : nar .byte x.toInt8.toInt32 = x.toInt8.toInt32 := by show x.toInt8.toInt32.toInt8.toInt32 = _; rw [Int8.toInt8_toInt32]
theorem own_ch {c : Int32} (hc : nar .char c = c) : 0 ≤ c.toInt ∧ c.toInt < 65536 := by
  have q := c_i2c c
  have e : c.toUInt32.toUInt16.toUInt32.toInt32 = c := hc
  rw [e] at q
  exact q.2
/-- a char out of its two bytes -/
theorem own_gc {c : Int32} (hc : nar .char c = c) : nar .char (((own_lo c &&& (255 : Int32)) <<< ((0 : Int32) &&& 31)) ||| ((own_hi c &&& (255 : Int32)) <<< ((8 : Int32) &&& 31))).toUInt32.toUInt16.toUInt32.toInt32 = c := by
  have hr := own_ch hc
  unfold own_lo own_hi
  rw [own_nb, own_nb]
  have a1 := c_ishr c 0 0 (by decide); have a2 := c_ishr c 8 8 (by decide)
  generalize c >>> ((0 : Int32) &&& 31) = u at *
  generalize c >>> ((8 : Int32) &&& 31) = w at *
  have b1 := c_i2b u; have b2 := c_i2b w
  generalize u.toInt8.toInt32 = u' at *
  generalize w.toInt8.toInt32 = w' at *
  have d1 := c_mask u' 255 8 (by decide) (by decide); have d2 := c_mask w' 255 8 (by decide) (by decide)
  generalize u' &&& (255 : Int32) = u2 at *
  generalize w' &&& (255 : Int32) = w2 at *
  have e1 := c_ishl u2 0 0 (by decide); have e2 := c_ishl w2 8 8 (by decide)
  generalize u2 <<< ((0 : Int32) &&& 31) = u3 at *
  generalize w2 <<< ((8 : Int32) &&& 31) = w3 at *
  have l1 := u3.le_toInt; have l2 := u3.toInt_lt; have l3 := w3.le_toInt; have l4 := w3.toInt_lt
  have f := c_or' u3 w3 8 (by decide) 256 (by decide) (by omega) (by omega) (by omega)
  generalize u3 ||| w3 = v at *
  have l5 := v.le_toInt; have l6 := v.toInt_lt
  have g := c_i2c v
  have g2 : nar .char v.toUInt32.toUInt16.toUInt32.toInt32 = v.toUInt32.toUInt16.toUInt32.toInt32 := by
    show (v.toUInt32.toUInt16.toUInt32.toInt32).toUInt32.toUInt16.toUInt32.toInt32 = _
    have e : (v.toUInt32.toUInt16.toUInt32.toInt32).toUInt32 = v.toUInt32.toUInt16.toUInt32 := rfl
    rw [e, UInt16.toUInt16_toUInt32]
  rw [g2]
  exact Int32.toInt_inj.mp (by omega)
/-- a char out of its byte -/
theorem own_lc {c : Int32} (hc : nar .char c = c) (hs : ¬ (255 : Int32) < c) : nar .char (own_by c &&& (255 : Int32)).toUInt32.toUInt16.toUInt32.toInt32 = c := by
  have hr := own_ch hc
  have z : (255 : Int32).toInt = 255 := by decide
  rw [Int32.lt_iff_toInt_lt] at hs
  unfold own_by
  rw [own_nb]
  have b1 := c_i2b c
  generalize c.toInt8.toInt32 = u' at *
  have d1 := c_mask u' 255 8 (by decide) (by decide)
  generalize u' &&& (255 : Int32) = v at *
  have g := c_i2c v
  have g2 : nar .char v.toUInt32.toUInt16.toUInt32.toInt32 = v.toUInt32.toUInt16.toUInt32.toInt32 := by
    show (v.toUInt32.toUInt16.toUInt32.toInt32).toUInt32.toUInt16.toUInt32.toInt32 = _
    have e : (v.toUInt32.toUInt16.toUInt32.toInt32).toUInt32 = v.toUInt32.toUInt16.toUInt32 := rfl
    rw [e, UInt16.toUInt16_toUInt32]
  rw [g2]
  exact Int32.toInt_inj.mp (by omega)
/-- the place of a sign above 255 -/
def own_big (n N : Int32) (us : List Value) (j : Int32) : Prop := ∃ j0 j1 x, ¬ j = n ∧ (j <<< ((1 : Int32) &&& 31)) = j0 ∧ (j0 + (1 : Int32)) = j1 ∧ (¬ j0 < 0 ∧ j0 < N) ∧ (¬ j1 < 0 ∧ j1 < N) ∧ us.getD j0.toNatClampNeg (.int 0) = .int (own_lo x) ∧ us.getD j1.toNatClampNeg (.int 0) = .int (own_hi x) ∧ nar .char x = x ∧ (255 : Int32) < x
theorem own_EW {Z : State} {a0 : Array Value} (hw : ∀ d ∈ tables_1, d.before a0 Z = true) : EW Z a0 consts_1 := by
  intro p hp
  simp only [consts_1, List.mem_cons, List.not_mem_nil, or_false] at hp
  rcases hp with rfl | rfl
  · exact ⟨"=+-@\t\r", (w_ hw 62 rfl), by decide⟩
  · exact ⟨"", (w_ hw 15 rfl), by decide⟩
theorem d2_0 : decode jdk_42_method_149_code 0 = .ok (.aload_n 0, 1) := by decide +kernel
theorem d2_1 : decode jdk_42_method_149_code 1 = .ok (.invokespecial 1, 3) := by decide +kernel
theorem d2_4 : decode jdk_42_method_149_code 4 = .ok (.iload_n 3, 1) := by decide +kernel
theorem d2_5 : decode jdk_42_method_149_code 5 = .ok (.ifCond .ne 22, 3) := by decide +kernel
theorem d2_8 : decode jdk_42_method_149_code 8 = .ok (.aload_n 0, 1) := by decide +kernel
theorem d2_9 : decode jdk_42_method_149_code 9 = .ok (.ldc 7, 2) := by decide +kernel
theorem d2_11 : decode jdk_42_method_149_code 11 = .ok (.getfield 9, 3) := by decide +kernel
theorem d2_14 : decode jdk_42_method_149_code 14 = .ok (.putfield 9, 3) := by decide +kernel
theorem d2_17 : decode jdk_42_method_149_code 17 = .ok (.aload_n 0, 1) := by decide +kernel
theorem d2_18 : decode jdk_42_method_149_code 18 = .ok (.ldc 7, 2) := by decide +kernel
theorem d2_20 : decode jdk_42_method_149_code 20 = .ok (.getfield 15, 3) := by decide +kernel
theorem d2_23 : decode jdk_42_method_149_code 23 = .ok (.putfield 15, 3) := by decide +kernel
theorem d2_26 : decode jdk_42_method_149_code 26 = .ok (.return_, 1) := by decide +kernel
theorem d2_27 : decode jdk_42_method_149_code 27 = .ok (.getstatic 38, 3) := by decide +kernel
theorem d2_30 : decode jdk_42_method_149_code 30 = .ok (.ifCond .eq 28, 3) := by decide +kernel
theorem d2_33 : decode jdk_42_method_149_code 33 = .ok (.aload_n 1, 1) := by decide +kernel
theorem d2_34 : decode jdk_42_method_149_code 34 = .ok (.iload_n 2, 1) := by decide +kernel
theorem d2_35 : decode jdk_42_method_149_code 35 = .ok (.iload_n 3, 1) := by decide +kernel
theorem d2_36 : decode jdk_42_method_149_code 36 = .ok (.invokestatic 177, 3) := by decide +kernel
theorem d2_39 : decode jdk_42_method_149_code 39 = .ok (.astore 5, 2) := by decide +kernel
theorem d2_41 : decode jdk_42_method_149_code 41 = .ok (.aload_n 0, 1) := by decide +kernel
theorem d2_42 : decode jdk_42_method_149_code 42 = .ok (.aload 5, 2) := by decide +kernel
theorem d2_44 : decode jdk_42_method_149_code 44 = .ok (.iload_n 3, 1) := by decide +kernel
theorem d2_45 : decode jdk_42_method_149_code 45 = .ok (.invokestatic 47, 3) := by decide +kernel
theorem d2_48 : decode jdk_42_method_149_code 48 = .ok (.putfield 15, 3) := by decide +kernel
theorem d2_51 : decode jdk_42_method_149_code 51 = .ok (.aload_n 0, 1) := by decide +kernel
theorem d2_52 : decode jdk_42_method_149_code 52 = .ok (.aload 5, 2) := by decide +kernel
theorem d2_54 : decode jdk_42_method_149_code 54 = .ok (.putfield 9, 3) := by decide +kernel
theorem d2_57 : decode jdk_42_method_149_code 57 = .ok (.return_, 1) := by decide +kernel
theorem pn_2 : plainName "java/lang/String" = true := by first | (simp [plainName, overriddenIn]; done) | decide +kernel
theorem ef_2 (m : MethodId) (x0 : Addr) (x1 : Addr) (x2 : Int32) (x3 : Int32) : entryFrame m #[(.ref x0), (.ref x1), (.int x2), (.int x3), .null] 6 = mkF m 0 #[.val (.ref x0), .val (.ref x1), .val (.int x2), .val (.int x3), .val .null, .unset] [] := by first | (simp [entryFrame, mkF, argsToLocals, Value.category]; done) | rfl
def Q_rn4_0 (Z : State) (a1 : Addr) (ca : Addr)  (h0 : Heap) (n0 : Nat) : Option Value → Heap → List Loc → Prop := fun v h L => v = none ∧ Fr n0 L ∧ Keep h0 h [a1] ∧ ∃ b k, own_Str Z h a1 b k (0 : Int32) []
set_option maxRecDepth 65536 in
set_option maxHeartbeats 40000000 in
theorem rn4_0 (l : Launch) (Z : State) (a0 : Array Value) (hw : ∀ d ∈ tables_1, d.before a0 Z = true) (ws : List Jvm.Cond) (a1 : Addr) (ca : Addr)  (h0 : Heap) (n0 : Nat) (Z0 : n0 ≤ h0.size) (FV : Fld Z h0 a1 "java/lang/String" "value" "[B" .null) (FC : Fld Z h0 a1 "java/lang/String" "coder" "B" (.int (0 : Int32))) (E1 : Exa Z h0 a1 "java/lang/String") (g1 : n0 ≤ a1) :
    MetFree l (⟨"java/lang/String", "<init>", "([CIILjava/lang/Void;)V"⟩ : MethodName) (head1 (Jvm.Cond.code (⟨"java/lang/String", "<init>", "([CIILjava/lang/Void;)V"⟩ : MethodName) jdk_42_method_149_code 6 none :: ws) ({ frames := 1, cells := 2, slots := 4, locals := 24 } : Room)) (fun a U => a = #[(.ref a1), (.ref ca), (.int (0 : Int32)), (.int (0 : Int32)), .null] ∧ Z.Warmed39 U.vm ∧ U.heap = h0 ∧ CHv Z consts_1 U.vm h0) (fun _ _ _ _ _ => True) (fun _ U oo U' => ∃ vv LL, oo = .returned vv ∧ (Q_rn4_0 Z a1 ca h0 n0) vv U'.heap LL ∧ CHr Z consts_1 U.vm U.heap U'.vm U'.heap ∧ ReturnedEndW U oo U' LL ({ frames := 1, cells := 2, slots := 4, locals := 24 } : Room).cells ({ frames := 1, cells := 2, slots := 4, locals := 24 } : Room).slots) := by
  refine MetFree.of_bodySF (plainFor_of_name pn_2) hisR ?_
  intro p e s m args below meth c s₁ Bd hml0 hP hK
  obtain ⟨rfl, hZ, hh, hH⟩ := hP
  have hx := Bd.exec
  have hby := Bd.bytes
  have hml : c.maxLocals = 6 := hml0
  have hown : s.vm.findClass "java/lang/String" = some m.cls := findClass_of_methodNamed Bd.named
  have hnm := (name_of_methodNamed Bd.named Bd.method).1
  have X0 : Stand p l e ({ frames := 1, cells := 2, slots := 4, locals := 24 } : Room) s m #[(.ref a1), (.ref ca), (.int (0 : Int32)), (.int (0 : Int32)), .null] below meth c s₁ [] 0 0 := Stand.of_body Bd
  have e0 : s₁.heap = h0 := by rw [← hh, Bd.state]; rfl
  have N0 := Fr.nil n0
  have hC0 : CHr Z consts_1 s.vm s.heap s.vm h0 := by rw [hh]; exact CHr.refl hH
  have hEL := own_EW hw
  have wS : ∀ d ∈ Bundle.stringAtoms, d.before a0 Z = true := by
    intro d hd
    simp only [Bundle.stringAtoms, List.mem_cons, List.not_mem_nil, or_false] at hd
    rcases hd with rfl | rfl | rfl | rfl | rfl | rfl | rfl
    · exact (w_ hw 4 rfl)
    · exact (w_ hw 3 rfl)
    · exact (w_ hw 16 rfl)
    · exact (w_ hw 17 rfl)
    · exact (w_ hw 18 rfl)
    · exact (w_ hw 19 rfl)
    · exact (w_ hw 20 rfl)
  show Goes p e below (FinH s Z consts_1 (Q_rn4_0 Z a1 ca h0 n0) ({ frames := 1, cells := 2, slots := 4, locals := 24 } : Room).cells ({ frames := 1, cells := 2, slots := 4, locals := 24 } : Room).slots) _
  refine Goes.via (S' := s₁.setTop (mkF m 0 #[.val (.ref a1), .val (.ref ca), .val (.int (0 : Int32)), .val (.int (0 : Int32)), .val .null, .unset] [])) (fun tz kz => castTop (ef_2 m a1 ca (0 : Int32) (0 : Int32) ) kz) ?_
  refine Goes.via (S' := s₁.setTop (mkF m 1 #[.val (.ref a1), .val (.ref ca), .val (.int (0 : Int32)), .val (.int (0 : Int32)), .val .null, .unset] [(.ref a1)])) (fun tz kz => ?_) ?_
  · show Steps p.tables e below (s₁.setTop (mkF m 0 #[.val (.ref a1), .val (.ref ca), .val (.int (0 : Int32)), .val (.int (0 : Int32)), .val .null, .unset] [])) _
    refine XS.aloadN X0.here hx rfl (hb hby d2_0) rfl rfl ?_
    exact kz
  obtain ⟨T1, X1, e1, st1⟩ := initO X0 hx hZ hown (w_ hw 12 rfl) (w_ hw 13 rfl) (w_ hw 14 rfl) e0 (g := (mkF m 1 #[.val (.ref a1), .val (.ref ca), .val (.int (0 : Int32)), .val (.int (0 : Int32)), .val .null, .unset] [(.ref a1)])) rfl (by rw [hml]; rfl) rfl (hb hby d2_1) (by decide) (W := 0) (by show 2 * 0 + _ ≤ _; exact Nat.le_of_eq rfl) (by decide)
  refine Goes.via (S' := T1.setTop (mkF m 4 #[.val (.ref a1), .val (.ref ca), .val (.int (0 : Int32)), .val (.int (0 : Int32)), .val .null, .unset] [])) st1 ?_
  refine Goes.via (S' := T1.setTop (mkF m 9 #[.val (.ref a1), .val (.ref ca), .val (.int (0 : Int32)), .val (.int (0 : Int32)), .val .null, .unset] [(.ref a1)])) (fun tz kz => ?_) ?_
  · show Steps p.tables e below (T1.setTop (mkF m 4 #[.val (.ref a1), .val (.ref ca), .val (.int (0 : Int32)), .val (.int (0 : Int32)), .val .null, .unset] [])) _
    refine XS.iloadN X1.here hx rfl (hb hby d2_4) rfl ?_
    refine XS.ifNo X1.here hx rfl (hb hby d2_5) rfl ((if0 _ _).trans (teq (by first | decide | rfl)).2) ?_
    refine XS.aloadN X1.here hx rfl (hb hby d2_8) rfl rfl ?_
    exact kz
  obtain ⟨a2, T2, h2, k2, b2, kb2, X2, e2, E2, hS2, hk2, hZ, hown, Es2, Fc2, Fv2, Ab2, la2, lb2, hc2, Lt2, sf2, st2⟩   := ldcCH (s := s) (vm0 := s.vm) X1 hx hZ hown (w_ hw 15 rfl) wS e1 ((State.WarmedH.refl s).since 0) (Nat.zero_le _) hEL (by decide) hC0.1 (vs := []) (z := (0 : Int32)) ⟨by decide, by decide⟩ (by decide) (by decide) (g := (mkF m 9 #[.val (.ref a1), .val (.ref ca), .val (.int (0 : Int32)), .val (.int (0 : Int32)), .val .null, .unset] [(.ref a1)])) rfl (hb hby d2_9) (n := 0) (by decide) (by decide) (by decide) (by decide)
  have hC2 := hC0.trans hc2
  refine Goes.via (S' := T2.setTop (mkF m 11 #[.val (.ref a1), .val (.ref ca), .val (.int (0 : Int32)), .val (.int (0 : Int32)), .val .null, .unset] [(.ref a2), (.ref a1)])) st2 ?_
  have Ea := E1.ext E2
  have GV := FV.ext E2
  have GC := FC.ext E2
  have sA : Safe Z consts_1 T2.vm h2 a1 := own_safe hZ.alike Ea GV
  have ne := sf2 a1 sA
  obtain ⟨T3, X3, e3, st3⟩ := getF X2 hx hZ hown (host := "") (Or.inl (w_ hw 21 rfl)) Via.refl e2 Fv2 (g := (mkF m 11 #[.val (.ref a1), .val (.ref ca), .val (.int (0 : Int32)), .val (.int (0 : Int32)), .val .null, .unset] [(.ref a2), (.ref a1)])) rfl rfl (hb hby d2_11)
  refine Goes.via (S' := T3.setTop (mkF m 14 #[.val (.ref a1), .val (.ref ca), .val (.int (0 : Int32)), .val (.int (0 : Int32)), .val .null, .unset] [(.ref b2), (.ref a1)])) st3 ?_
  obtain ⟨T4, h4, X4, e4, W4, st4⟩ := putF X3 hx hZ hown (host := "") (Or.inl (w_ hw 21 rfl)) Via.refl e3 GV Ea (Or.inr ⟨(w_ hw 17 rfl), rfl, hnm⟩) (w_ hw 3 rfl) (ty := (.array .byte)) (by decide) rfl rfl (g := (mkF m 14 #[.val (.ref a1), .val (.ref ca), .val (.int (0 : Int32)), .val (.int (0 : Int32)), .val .null, .unset] [(.ref b2), (.ref a1)])) rfl rfl (hb hby d2_14)
  refine Goes.via (S' := T4.setTop (mkF m 17 #[.val (.ref a1), .val (.ref ca), .val (.int (0 : Int32)), .val (.int (0 : Int32)), .val .null, .unset] [])) st4 ?_
  have N4 := Fr.snoc X4 N0 g1
  have hC5 := hC2.trans (CHr.wr W4 sA hC2.1)
  have hk6 := Nat.le_trans hk2 (Nat.le_of_eq W4.size.symm)
  have HV := GV.same W4
  have HC := GC.other W4 (Or.inr (slot_ne (Or.inr (w_ hw 18 rfl)) (Or.inr (w_ hw 17 rfl)) (by decide) (t := .byte) (t' := (.array .byte)) (by decide) (by decide)))
  have Eb := Ea.wr W4
  have cC := Fc2.other W4 (Or.inl (Ne.symm ne.1))
  have cB := Ab2.other W4 (Ne.symm ne.2)
  have sB := Safe.wr W4 sA hC2.1 sA
  refine Goes.via (S' := T4.setTop (mkF m 18 #[.val (.ref a1), .val (.ref ca), .val (.int (0 : Int32)), .val (.int (0 : Int32)), .val .null, .unset] [(.ref a1)])) (fun tz kz => ?_) ?_
  · show Steps p.tables e below (T4.setTop (mkF m 17 #[.val (.ref a1), .val (.ref ca), .val (.int (0 : Int32)), .val (.int (0 : Int32)), .val .null, .unset] [])) _
    refine XS.aloadN X4.here hx rfl (hb hby d2_17) rfl rfl ?_
    exact kz
  have st7 := ldcAgain (s := s) (vm0 := T2.vm) X4 hx hZ hown (w_ hw 15 rfl) Lt2 (g := (mkF m 18 #[.val (.ref a1), .val (.ref ca), .val (.int (0 : Int32)), .val (.int (0 : Int32)), .val .null, .unset] [(.ref a1)])) rfl (hb hby d2_18)
  refine Goes.via (S' := T4.setTop (mkF m 20 #[.val (.ref a1), .val (.ref ca), .val (.int (0 : Int32)), .val (.int (0 : Int32)), .val .null, .unset] [(.ref a2), (.ref a1)])) st7 ?_
  obtain ⟨T8, X8, e8, st8⟩ := getF X4 hx hZ hown (host := "") (Or.inl (w_ hw 22 rfl)) Via.refl e4 cC (g := (mkF m 20 #[.val (.ref a1), .val (.ref ca), .val (.int (0 : Int32)), .val (.int (0 : Int32)), .val .null, .unset] [(.ref a2), (.ref a1)])) rfl rfl (hb hby d2_20)
  refine Goes.via (S' := T8.setTop (mkF m 23 #[.val (.ref a1), .val (.ref ca), .val (.int (0 : Int32)), .val (.int (0 : Int32)), .val .null, .unset] [(.int (0 : Int32)), (.ref a1)])) st8 ?_
  obtain ⟨T9, h9, X9, e9, W9, st9⟩ := putFN X8 hx hZ hown (w_ hw 22 rfl) Via.refl e8 HC Eb (Or.inr ⟨(w_ hw 18 rfl), rfl, hnm⟩) (w_ hw 3 rfl) (ty := .byte) (v' := (.int (nar .byte (0 : Int32)))) (by decide) rfl (fits_nar_byte _) (g := (mkF m 23 #[.val (.ref a1), .val (.ref ca), .val (.int (0 : Int32)), .val (.int (0 : Int32)), .val .null, .unset] [(.int (0 : Int32)), (.ref a1)])) rfl rfl (hb hby d2_23)
  refine Goes.via (S' := T9.setTop (mkF m 26 #[.val (.ref a1), .val (.ref ca), .val (.int (0 : Int32)), .val (.int (0 : Int32)), .val .null, .unset] [])) st9 ?_
  have N9 := Fr.snoc X9 N4 g1
  have hC10 := hC5.trans (CHr.wr W9 sB hC5.1)
  have hk11 := Nat.le_trans hk6 (Nat.le_of_eq W9.size.symm)
  have JC : Fld Z h9 a1 "java/lang/String" "coder" "B" (.int (0 : Int32)) := HC.same W9
  have JV := HV.other W9 (Or.inr (slot_ne (Or.inr (w_ hw 17 rfl)) (Or.inr (w_ hw 18 rfl)) (by decide) (t := (.array .byte)) (t' := .byte) (by decide) (by decide)))
  have Ec := Eb.wr W9
  have dB := cB.other W9 (Ne.symm ne.2)
  have Kq : Keep h0 h9 [a1] := (((Keep.refl h0 [a1]).ext E2).wr W4 (Or.inl (List.mem_singleton.mpr rfl))).wr W9 (Or.inl (List.mem_singleton.mpr rfl))
  exact Goes.retVH (s := s) (vm1 := T2.vm) X9 hx Bd.notSynchronized hS2 hk11 e9 hZ hEL hC10 Bd.returns (hb hby d2_26) (Nat.le_of_ble_eq_true rfl) (Nat.le_of_ble_eq_true rfl) (by rw [e9]; exact ⟨rfl, N9, Kq, _, _, ⟨Ec, JC, JV, dB⟩⟩)
theorem d1_0 : decode jdk_42_method_3_code 0 = .ok (.aload_n 0, 1) := by decide +kernel
theorem d1_1 : decode jdk_42_method_3_code 1 = .ok (.aload_n 1, 1) := by decide +kernel
theorem d1_2 : decode jdk_42_method_3_code 2 = .ok (.iconst 0, 1) := by decide +kernel
theorem d1_3 : decode jdk_42_method_3_code 3 = .ok (.aload_n 1, 1) := by decide +kernel
theorem d1_4 : decode jdk_42_method_3_code 4 = .ok (.arraylength, 1) := by decide +kernel
theorem d1_5 : decode jdk_42_method_3_code 5 = .ok (.aconst_null, 1) := by decide +kernel
theorem d1_6 : decode jdk_42_method_3_code 6 = .ok (.invokespecial 27, 3) := by decide +kernel
theorem d1_9 : decode jdk_42_method_3_code 9 = .ok (.return_, 1) := by decide +kernel
theorem pn_1 : plainName "java/lang/String" = true := by first | (simp [plainName, overriddenIn]; done) | decide +kernel
theorem ef_1 (m : MethodId) (x0 : Addr) (x1 : Addr) : entryFrame m #[(.ref x0), (.ref x1)] 2 = mkF m 0 #[.val (.ref x0), .val (.ref x1)] [] := by first | (simp [entryFrame, mkF, argsToLocals, Value.category]; done) | rfl
def Q_rn1_0 (Z : State) (a1 : Addr) (ca : Addr) (ka : ClassId) (vs : List Value) (h0 : Heap) (n0 : Nat) : Option Value → Heap → List Loc → Prop := fun v h L => v = none ∧ Fr n0 L ∧ Keep h0 h [a1] ∧ ∃ b k, own_Str Z h a1 b k (0 : Int32) []
set_option maxRecDepth 65536 in
set_option maxHeartbeats 40000000 in
theorem rn1_0 (l : Launch) (Z : State) (a0 : Array Value) (hw : ∀ d ∈ tables_1, d.before a0 Z = true) (ws : List Jvm.Cond) (a1 : Addr) (ca : Addr) (ka : ClassId) (vs : List Value) (h0 : Heap) (n0 : Nat) (Z0 : n0 ≤ h0.size) (FV : Fld Z h0 a1 "java/lang/String" "value" "[B" .null) (FC : Fld Z h0 a1 "java/lang/String" "coder" "B" (.int (0 : Int32))) (E1 : Exa Z h0 a1 "java/lang/String") (g1 : n0 ≤ a1) (C0 : Arv Z h0 ca ka .char (0 : Int32) vs (.int 0)) :
    MetFree l (⟨"java/lang/String", "<init>", "([C)V"⟩ : MethodName) (head1 (Jvm.Cond.code (⟨"java/lang/String", "<init>", "([C)V"⟩ : MethodName) jdk_42_method_3_code 2 none :: ws) ({ frames := 2, cells := 2, slots := 4, locals := 44 } : Room)) (fun a U => a = #[(.ref a1), (.ref ca)] ∧ Z.Warmed39 U.vm ∧ U.heap = h0 ∧ CHv Z consts_1 U.vm h0) (fun _ _ _ _ _ => True) (fun _ U oo U' => ∃ vv LL, oo = .returned vv ∧ (Q_rn1_0 Z a1 ca ka vs h0 n0) vv U'.heap LL ∧ CHr Z consts_1 U.vm U.heap U'.vm U'.heap ∧ ReturnedEndW U oo U' LL ({ frames := 2, cells := 2, slots := 4, locals := 44 } : Room).cells ({ frames := 2, cells := 2, slots := 4, locals := 44 } : Room).slots) := by
  refine MetFree.of_bodySF (plainFor_of_name pn_1) hisR ?_
  intro p e s m args below meth c s₁ Bd hml0 hP hK
  obtain ⟨rfl, hZ, hh, hH⟩ := hP
  have hx := Bd.exec
  have hby := Bd.bytes
  have hml : c.maxLocals = 2 := hml0
  have hown : s.vm.findClass "java/lang/String" = some m.cls := findClass_of_methodNamed Bd.named
  have hnm := (name_of_methodNamed Bd.named Bd.method).1
  have X0 : Stand p l e ({ frames := 2, cells := 2, slots := 4, locals := 44 } : Room) s m #[(.ref a1), (.ref ca)] below meth c s₁ [] 0 0 := Stand.of_body Bd
  have e0 : s₁.heap = h0 := by rw [← hh, Bd.state]; rfl
  have N0 := Fr.nil n0
  have hC0 : CHr Z consts_1 s.vm s.heap s.vm h0 := by rw [hh]; exact CHr.refl hH
  have hEL := own_EW hw
  show Goes p e below (FinH s Z consts_1 (Q_rn1_0 Z a1 ca ka vs h0 n0) ({ frames := 2, cells := 2, slots := 4, locals := 44 } : Room).cells ({ frames := 2, cells := 2, slots := 4, locals := 44 } : Room).slots) _
  refine Goes.via (S' := s₁.setTop (mkF m 0 #[.val (.ref a1), .val (.ref ca)] [])) (fun tz kz => castTop (ef_1 m a1 ca ) kz) ?_
  refine Goes.via (S' := s₁.setTop (mkF m 4 #[.val (.ref a1), .val (.ref ca)] [(.ref ca), (.int (0 : Int32)), (.ref ca), (.ref a1)])) (fun tz kz => ?_) ?_
  · show Steps p.tables e below (s₁.setTop (mkF m 0 #[.val (.ref a1), .val (.ref ca)] [])) _
    refine XS.aloadN X0.here hx rfl (hb hby d1_0) rfl rfl ?_
    refine XS.aloadN X0.here hx rfl (hb hby d1_1) rfl rfl ?_
    refine XS.iconst X0.here hx rfl (hb hby d1_2) ?_
    refine XS.aloadN X0.here hx rfl (hb hby d1_3) rfl rfl ?_
    exact kz
  obtain ⟨cl1, Ar1, q1, Sz1, Nn1, Hs1, G1⟩ := (id C0)
  refine Goes.via (S' := s₁.setTop (mkF m 6 #[.val (.ref a1), .val (.ref ca)] [.null, (.int (0 : Int32)), (.int (0 : Int32)), (.ref ca), (.ref a1)])) (fun tz kz => ?_) ?_
  · show Steps p.tables e below (s₁.setTop (mkF m 4 #[.val (.ref a1), .val (.ref ca)] [(.ref ca), (.int (0 : Int32)), (.ref ca), (.ref a1)])) _
    refine X0.arraylength hx (by rw [e0]; exact Ar1.1) (State.isArrayOf_alike hZ.alike Ar1.2.1) (g := (mkF m 4 #[.val (.ref a1), .val (.ref ca)] [(.ref ca), (.int (0 : Int32)), (.ref ca), (.ref a1)])) rfl rfl (hb hby d1_4) _ ?_
    rw [len_of Sz1 Nn1]
    refine XS.aconstNull X0.here hx rfl (hb hby d1_5) ?_
    exact kz
  obtain ⟨_, _, ⟨T2, L2, k2, n2⟩, -, X2, hs2, gs2, ⟨Lc2, hQ2, l2, y2, z2, hc2⟩, st2⟩ := Stand.specialBackS (show Stand p l e _ (s.setVm s.vm) m _ below meth c _ _ _ _ from X0) hx (y := (⟨"java/lang/String", "<init>", "([CIILjava/lang/Void;)V"⟩ : MethodName)) rfl hown (mvT hZ (w_ hw 8 rfl)) (mvT hZ (w_ hw 9 rfl)) (mvT hZ (w_ hw 11 rfl)) (by decide) (backOfSH (s := s) (vm0 := s.vm) (W := 0) (rn4_0 l Z a0 hw [] a1 ca h0 n0 Z0 FV FC E1 g1) hZ (w_ hw 11 rfl) (w_ hw 4 rfl) (by decide) (by decide) hEL hC0.1) (g := (mkF m 6 #[.val (.ref a1), .val (.ref ca)] [.null, (.int (0 : Int32)), (.int (0 : Int32)), (.ref ca), (.ref a1)])) rfl (by rw [hml]; rfl) (Steps.refl _) (a := a1) (argsL := [(.ref ca), (.int (0 : Int32)), (.int (0 : Int32)), .null]) (rest := []) (lenOf pd_0 rfl) rfl (by show 2 * 0 + _ ≤ _; exact Nat.le_of_eq rfl) (hb hby d1_6) (fun _ _ => ⟨rfl, e0, (by decide : 0 + 2 ≤ _), (by decide : 0 + 4 ≤ _)⟩)
  dsimp only [Pt.U, Pt.locs, Pt.cells, Pt.slots] at X2 l2 y2 z2 st2 hQ2 hs2 gs2 hc2
  subst l2 y2 z2
  obtain ⟨rfl, N2, K2, vb, kb, S2⟩ := hQ2
  rw [e0] at gs2
  have hS2 : s.Since T2.vm T2.heap.size := own_fold ((State.WarmedH.refl s).since 0) (Nat.zero_le _) hs2 gs2
  have hC2 := hC0.trans hc2
  have hZ : Z.Warmed39 (s.setVm T2.vm).vm := State.Warmed39.trans (t := s.setVm s.vm) hZ hs2.1
  have hown : (s.setVm T2.vm).vm.findClass "java/lang/String" = some m.cls := by rw [show (s.setVm T2.vm).vm = T2.vm from rfl, hs2.1.alike.findClass]; exact hown
  have Nf2 := Fr.app N0 N2
  refine Goes.via (S' := T2.setTop (mkF m 9 #[.val (.ref a1), .val (.ref ca)] [])) (fun _ kz => st2.trans kz) ?_
  exact Goes.retVH (s := s) (vm1 := T2.vm) X2 hx Bd.notSynchronized hS2 (Nat.le_refl _) rfl hZ hEL hC2 Bd.returns (hb hby d1_9) (Nat.le_of_ble_eq_true rfl) (Nat.le_of_ble_eq_true rfl) ⟨rfl, Nf2, K2, vb, kb, S2⟩
theorem d28_0 : decode jdk_52_method_4_code 0 = .ok (.getstatic 44, 3) := by decide +kernel
theorem d28_3 : decode jdk_52_method_4_code 3 = .ok (.ifCond .ne 25, 3) := by decide +kernel
theorem d28_28 : decode jdk_52_method_4_code 28 = .ok (.iload_n 1, 1) := by decide +kernel
theorem d28_29 : decode jdk_52_method_4_code 29 = .ok (.iconst 1, 1) := by decide +kernel
theorem d28_30 : decode jdk_52_method_4_code 30 = .ok (.ishl, 1) := by decide +kernel
theorem d28_31 : decode jdk_52_method_4_code 31 = .ok (.istore_n 1, 1) := by decide +kernel
theorem d28_32 : decode jdk_52_method_4_code 32 = .ok (.aload_n 0, 1) := by decide +kernel
theorem d28_33 : decode jdk_52_method_4_code 33 = .ok (.iload_n 1, 1) := by decide +kernel
theorem d28_34 : decode jdk_52_method_4_code 34 = .ok (.iinc 1 1, 3) := by decide +kernel
theorem d28_37 : decode jdk_52_method_4_code 37 = .ok (.iload_n 2, 1) := by decide +kernel
theorem d28_38 : decode jdk_52_method_4_code 38 = .ok (.getstatic 59, 3) := by decide +kernel
theorem d28_41 : decode jdk_52_method_4_code 41 = .ok (.ishr, 1) := by decide +kernel
theorem d28_42 : decode jdk_52_method_4_code 42 = .ok (.i2b, 1) := by decide +kernel
theorem d28_43 : decode jdk_52_method_4_code 43 = .ok (.bastore, 1) := by decide +kernel
theorem d28_44 : decode jdk_52_method_4_code 44 = .ok (.aload_n 0, 1) := by decide +kernel
theorem d28_45 : decode jdk_52_method_4_code 45 = .ok (.iload_n 1, 1) := by decide +kernel
theorem d28_46 : decode jdk_52_method_4_code 46 = .ok (.iload_n 2, 1) := by decide +kernel
theorem d28_47 : decode jdk_52_method_4_code 47 = .ok (.getstatic 63, 3) := by decide +kernel
theorem d28_50 : decode jdk_52_method_4_code 50 = .ok (.ishr, 1) := by decide +kernel
theorem d28_51 : decode jdk_52_method_4_code 51 = .ok (.i2b, 1) := by decide +kernel
theorem d28_52 : decode jdk_52_method_4_code 52 = .ok (.bastore, 1) := by decide +kernel
theorem d28_53 : decode jdk_52_method_4_code 53 = .ok (.return_, 1) := by decide +kernel
theorem pn_28 : plainName "java/lang/StringUTF16" = true := by first | (simp [plainName, overriddenIn]; done) | decide +kernel
theorem ef_28 (m : MethodId) (x0 : Addr) (x1 : Int32) (x2 : Int32) : entryFrame m #[(.ref x0), (.int x1), (.int x2)] 3 = mkF m 0 #[.val (.ref x0), .val (.int x1), .val (.int x2)] [] := by first | (simp [entryFrame, mkF, argsToLocals, Value.category]; done) | rfl
def Q_rpc (Z : State) (bb : Addr) (i : Int32) (x : Int32) (kb : ClassId) (n2 j0 j1 : Int32) (k0 k1 : Nat) (vs : List Value) (h0 : Heap) (n0 : Nat) : Option Value → Heap → List Loc → Prop := fun v h L => v = none ∧ Fr n0 L ∧ Keep h0 h [bb] ∧ Arv Z h bb kb .byte n2 ((vs.set k0 (.int (own_lo x))).set k1 (.int (own_hi x))) (.int 0)
set_option maxRecDepth 65536 in
set_option maxHeartbeats 40000000 in
theorem rpc (l : Launch) (Z : State) (a0 : Array Value) (hw : ∀ d ∈ tables_1, d.before a0 Z = true) (ws : List Jvm.Cond) (bb : Addr) (i : Int32) (x : Int32) (kb : ClassId) (n2 j0 j1 : Int32) (k0 k1 : Nat) (vs : List Value) (h0 : Heap) (n0 : Nat) (Z0 : n0 ≤ h0.size) (SA : Sta Z Z.heap "java/lang/StringUTF16" "$assertionsDisabled" "Z" (.int (1 : Int32))) (SH : Sta Z Z.heap "java/lang/StringUTF16" "HI_BYTE_SHIFT" "I" (.int (0 : Int32))) (SL : Sta Z Z.heap "java/lang/StringUTF16" "LO_BYTE_SHIFT" "I" (.int (8 : Int32))) (O0 : Old Z n0 h0) (B0 : Arv Z h0 bb kb .byte n2 vs (.int 0)) (gb : n0 ≤ bb) (hj0 : (i <<< ((1 : Int32) &&& 31)) = j0) (hj1 : (j0 + (1 : Int32)) = j1) (q0 : ¬ j0 < 0 ∧ j0 < n2) (q1 : ¬ j1 < 0 ∧ j1 < n2) (m0 : j0.toNatClampNeg = k0) (m1 : j1.toNatClampNeg = k1) (l0 : k0 < vs.length) (l1 : k1 < vs.length) :
    own_M l Z (⟨"java/lang/StringUTF16", "putChar", "([BII)V"⟩ : MethodName) (Jvm.Cond.code (⟨"java/lang/StringUTF16", "putChar", "([BII)V"⟩ : MethodName) jdk_52_method_4_code 3 none) ws ({ frames := 0, cells := 0, slots := 0, locals := 0 } : Room) #[(.ref bb), (.int i), (.int x)] h0 (Q_rpc Z bb i x kb n2 j0 j1 k0 k1 vs h0 n0) := by
  refine MetFree.of_bodySF (plainFor_of_name pn_28) hisR ?_
  intro p e s m args below meth c s₁ Bd hml0 hP hK
  obtain ⟨rfl, hZ, hh⟩ := hP
  have hx := Bd.exec
  have hby := Bd.bytes
  have hml : c.maxLocals = 3 := hml0
  have hown : s.vm.findClass "java/lang/StringUTF16" = some m.cls := findClass_of_methodNamed Bd.named
  have hnm := (name_of_methodNamed Bd.named Bd.method).1
  have X0 : Stand p l e ({ frames := 0, cells := 0, slots := 0, locals := 0 } : Room) s m #[(.ref bb), (.int i), (.int x)] below meth c s₁ [] 0 0 := Stand.of_body Bd
  have e0 : s₁.heap = h0 := by rw [← hh, Bd.state]; rfl
  have N0 := Fr.nil n0
  show Goes p e below (Fin s (Q_rpc Z bb i x kb n2 j0 j1 k0 k1 vs h0 n0) ({ frames := 0, cells := 0, slots := 0, locals := 0 } : Room).cells ({ frames := 0, cells := 0, slots := 0, locals := 0 } : Room).slots) _
  refine Goes.via (S' := s₁.setTop (mkF m 0 #[.val (.ref bb), .val (.int i), .val (.int x)] [])) (fun tz kz => castTop (ef_28 m bb i x ) kz) ?_
  obtain ⟨T1, X1, e1, st1⟩ := getS2 X0 hx hZ hown (host := "") (Or.inl (w_ hw 125 rfl)) Via.refl e0 (SA.ext O0.2) (g := (mkF m 0 #[.val (.ref bb), .val (.int i), .val (.int x)] [])) rfl (hb hby d28_0)
  refine Goes.via (S' := T1.setTop (mkF m 3 #[.val (.ref bb), .val (.int i), .val (.int x)] [(.int (1 : Int32))])) st1 ?_
  refine Goes.via (S' := T1.setTop (mkF m 31 #[.val (.ref bb), .val (.int i), .val (.int x)] [(.int (i <<< ((1 : Int32) &&& 31)))])) (fun tz kz => ?_) ?_
  · show Steps p.tables e below (T1.setTop (mkF m 3 #[.val (.ref bb), .val (.int i), .val (.int x)] [(.int (1 : Int32))])) _
    refine XS.ifYes X1.here hx rfl (pc0 := 3) (pc' := 28) rfl (hb hby d28_3) rfl ((if0 _ _).trans (feq (by first | decide | rfl)).2) (by decide) (by decide) ?_
    refine XS.iloadN X1.here hx rfl (hb hby d28_28) rfl ?_
    refine XS.iconst X1.here hx rfl (hb hby d28_29) ?_
    refine XS.ishl X1.here hx rfl (hb hby d28_30) rfl ?_
    exact kz
  rw [hj0]
  refine Goes.via (S' := T1.setTop (mkF m 37 #[.val (.ref bb), .val (.int (j0 + (1 : Int32))), .val (.int x)] [(.int j0), (.ref bb)])) (fun tz kz => ?_) ?_
  · show Steps p.tables e below (T1.setTop (mkF m 31 #[.val (.ref bb), .val (.int i), .val (.int x)] [(.int j0)])) _
    refine XS.istoreN X1.here hx rfl (hb hby d28_31) rfl (l' := #[.val (.ref bb), .val (.int j0), .val (.int x)]) rfl ?_
    refine XS.aloadN X1.here hx rfl (hb hby d28_32) rfl rfl ?_
    refine XS.iloadN X1.here hx rfl (hb hby d28_33) rfl ?_
    refine XS.iinc X1.here hx rfl (hb hby d28_34) rfl (l' := #[.val (.ref bb), .val (.int (j0 + (1 : Int32))), .val (.int x)]) rfl ?_
    exact kz
  rw [hj1]
  refine Goes.via (S' := T1.setTop (mkF m 38 #[.val (.ref bb), .val (.int j1), .val (.int x)] [(.int x), (.int j0), (.ref bb)])) (fun tz kz => ?_) ?_
  · show Steps p.tables e below (T1.setTop (mkF m 37 #[.val (.ref bb), .val (.int j1), .val (.int x)] [(.int j0), (.ref bb)])) _
    refine XS.iloadN X1.here hx rfl (hb hby d28_37) rfl ?_
    exact kz
  obtain ⟨T2, X2, e2, st2⟩ := getS2 X1 hx hZ hown (host := "") (Or.inl (w_ hw 126 rfl)) Via.refl e1 (SH.ext O0.2) (g := (mkF m 38 #[.val (.ref bb), .val (.int j1), .val (.int x)] [(.int x), (.int j0), (.ref bb)])) rfl (hb hby d28_38)
  refine Goes.via (S' := T2.setTop (mkF m 41 #[.val (.ref bb), .val (.int j1), .val (.int x)] [(.int (0 : Int32)), (.int x), (.int j0), (.ref bb)])) st2 ?_
  refine Goes.via (S' := T2.setTop (mkF m 43 #[.val (.ref bb), .val (.int j1), .val (.int x)] [(.int ((x >>> ((0 : Int32) &&& 31)).toInt8.toInt32)), (.int j0), (.ref bb)])) (fun tz kz => ?_) ?_
  · show Steps p.tables e below (T2.setTop (mkF m 41 #[.val (.ref bb), .val (.int j1), .val (.int x)] [(.int (0 : Int32)), (.int x), (.int j0), (.ref bb)])) _
    refine XS.ishr X2.here hx rfl (hb hby d28_41) rfl ?_
    refine XS.i2b X2.here hx rfl (hb hby d28_42) rfl ?_
    exact kz
  obtain ⟨cl3, Ar3, q3, Sz3, Nn3, Hs3, G3⟩ := (id B0)
  obtain ⟨T4, h4, X4, e4, W4, st4⟩ := stB X2 hx hZ e2 Ar3 (j := j0) (inb_of Sz3 q0) (g := (mkF m 43 #[.val (.ref bb), .val (.int j1), .val (.int x)] [(.int ((x >>> ((0 : Int32) &&& 31)).toInt8.toInt32)), (.int j0), (.ref bb)])) rfl rfl (hb hby d28_43)
  refine Goes.via (S' := T4.setTop (mkF m 44 #[.val (.ref bb), .val (.int j1), .val (.int x)] [])) st4 ?_
  have N4 := Fr.snoc X4 N0 gb
  have A4 := Arv.set Ar3 q3 Sz3 Nn3 Hs3 G3 (fits_nar_byte _) W4 k0 m0 l0
  have K4 := (Keep.refl h0 [bb]).wr W4 (Or.inl (List.mem_singleton.mpr rfl))
  have O4 := O0.wr W4 gb
  refine Goes.via (S' := T4.setTop (mkF m 47 #[.val (.ref bb), .val (.int j1), .val (.int x)] [(.int x), (.int j1), (.ref bb)])) (fun tz kz => ?_) ?_
  · show Steps p.tables e below (T4.setTop (mkF m 44 #[.val (.ref bb), .val (.int j1), .val (.int x)] [])) _
    refine XS.aloadN X4.here hx rfl (hb hby d28_44) rfl rfl ?_
    refine XS.iloadN X4.here hx rfl (hb hby d28_45) rfl ?_
    refine XS.iloadN X4.here hx rfl (hb hby d28_46) rfl ?_
    exact kz
  obtain ⟨T5, X5, e5, st5⟩ := getS2 X4 hx hZ hown (host := "") (Or.inl (w_ hw 127 rfl)) Via.refl e4 (SL.ext O4.2) (g := (mkF m 47 #[.val (.ref bb), .val (.int j1), .val (.int x)] [(.int x), (.int j1), (.ref bb)])) rfl (hb hby d28_47)
  refine Goes.via (S' := T5.setTop (mkF m 50 #[.val (.ref bb), .val (.int j1), .val (.int x)] [(.int (8 : Int32)), (.int x), (.int j1), (.ref bb)])) st5 ?_
  refine Goes.via (S' := T5.setTop (mkF m 52 #[.val (.ref bb), .val (.int j1), .val (.int x)] [(.int ((x >>> ((8 : Int32) &&& 31)).toInt8.toInt32)), (.int j1), (.ref bb)])) (fun tz kz => ?_) ?_
  · show Steps p.tables e below (T5.setTop (mkF m 50 #[.val (.ref bb), .val (.int j1), .val (.int x)] [(.int (8 : Int32)), (.int x), (.int j1), (.ref bb)])) _
    refine XS.ishr X5.here hx rfl (hb hby d28_50) rfl ?_
    refine XS.i2b X5.here hx rfl (hb hby d28_51) rfl ?_
    exact kz
  obtain ⟨cl6, Ar6, q6, Sz6, Nn6, Hs6, G6⟩ := (id A4)
  obtain ⟨T7, h7, X7, e7, W7, st7⟩ := stB X5 hx hZ e5 Ar6 (j := j1) (inb_of Sz6 q1) (g := (mkF m 52 #[.val (.ref bb), .val (.int j1), .val (.int x)] [(.int ((x >>> ((8 : Int32) &&& 31)).toInt8.toInt32)), (.int j1), (.ref bb)])) rfl rfl (hb hby d28_52)
  refine Goes.via (S' := T7.setTop (mkF m 53 #[.val (.ref bb), .val (.int j1), .val (.int x)] [])) st7 ?_
  have N7 := Fr.snoc X7 N4 gb
  have A7 := Arv.set Ar6 q6 Sz6 Nn6 Hs6 G6 (fits_nar_byte _) W7 k1 m1 (by rw [List.length_set]; exact l1)
  have K7 := (K4).wr W7 (Or.inl (List.mem_singleton.mpr rfl))
  have O7 := O4.wr W7 gb
  exact Goes.retV X7 hx Bd.notSynchronized Bd.returns (hb hby d28_53) (Nat.le_of_ble_eq_true rfl) (Nat.le_of_ble_eq_true rfl) (by rw [e7]; exact ⟨rfl, N7, K7, A7⟩)
theorem d29_0 : decode jdk_52_method_5_code 0 = .ok (.getstatic 44, 3) := by decide +kernel
theorem d29_3 : decode jdk_52_method_5_code 3 = .ok (.ifCond .ne 25, 3) := by decide +kernel
theorem d29_28 : decode jdk_52_method_5_code 28 = .ok (.iload_n 1, 1) := by decide +kernel
theorem d29_29 : decode jdk_52_method_5_code 29 = .ok (.iconst 1, 1) := by decide +kernel
theorem d29_30 : decode jdk_52_method_5_code 30 = .ok (.ishl, 1) := by decide +kernel
theorem d29_31 : decode jdk_52_method_5_code 31 = .ok (.istore_n 1, 1) := by decide +kernel
theorem d29_32 : decode jdk_52_method_5_code 32 = .ok (.aload_n 0, 1) := by decide +kernel
theorem d29_33 : decode jdk_52_method_5_code 33 = .ok (.iload_n 1, 1) := by decide +kernel
theorem d29_34 : decode jdk_52_method_5_code 34 = .ok (.iinc 1 1, 3) := by decide +kernel
theorem d29_37 : decode jdk_52_method_5_code 37 = .ok (.baload, 1) := by decide +kernel
theorem d29_38 : decode jdk_52_method_5_code 38 = .ok (.sipush 255, 3) := by decide +kernel
theorem d29_41 : decode jdk_52_method_5_code 41 = .ok (.iand, 1) := by decide +kernel
theorem d29_42 : decode jdk_52_method_5_code 42 = .ok (.getstatic 59, 3) := by decide +kernel
theorem d29_45 : decode jdk_52_method_5_code 45 = .ok (.ishl, 1) := by decide +kernel
theorem d29_46 : decode jdk_52_method_5_code 46 = .ok (.aload_n 0, 1) := by decide +kernel
theorem d29_47 : decode jdk_52_method_5_code 47 = .ok (.iload_n 1, 1) := by decide +kernel
theorem d29_48 : decode jdk_52_method_5_code 48 = .ok (.baload, 1) := by decide +kernel
theorem d29_49 : decode jdk_52_method_5_code 49 = .ok (.sipush 255, 3) := by decide +kernel
theorem d29_52 : decode jdk_52_method_5_code 52 = .ok (.iand, 1) := by decide +kernel
theorem d29_53 : decode jdk_52_method_5_code 53 = .ok (.getstatic 63, 3) := by decide +kernel
theorem d29_56 : decode jdk_52_method_5_code 56 = .ok (.ishl, 1) := by decide +kernel
theorem d29_57 : decode jdk_52_method_5_code 57 = .ok (.ior, 1) := by decide +kernel
theorem d29_58 : decode jdk_52_method_5_code 58 = .ok (.i2c, 1) := by decide +kernel
theorem d29_59 : decode jdk_52_method_5_code 59 = .ok (.ireturn, 1) := by decide +kernel
theorem pn_29 : plainName "java/lang/StringUTF16" = true := by first | (simp [plainName, overriddenIn]; done) | decide +kernel
theorem ef_29 (m : MethodId) (x0 : Addr) (x1 : Int32) : entryFrame m #[(.ref x0), (.int x1)] 2 = mkF m 0 #[.val (.ref x0), .val (.int x1)] [] := by first | (simp [entryFrame, mkF, argsToLocals, Value.category]; done) | rfl
def Q_rgc (Z : State) (bb : Addr) (i : Int32) (kb : ClassId) (n2 j0 j1 x : Int32) (vs : List Value) (h0 : Heap) (n0 : Nat) : Option Value → Heap → List Loc → Prop := fun v h L => v = some (.int x) ∧ Fr n0 L ∧ h = h0
set_option maxRecDepth 65536 in
set_option maxHeartbeats 40000000 in
theorem rgc (l : Launch) (Z : State) (a0 : Array Value) (hw : ∀ d ∈ tables_1, d.before a0 Z = true) (ws : List Jvm.Cond) (bb : Addr) (i : Int32) (kb : ClassId) (n2 j0 j1 x : Int32) (vs : List Value) (h0 : Heap) (n0 : Nat) (Z0 : n0 ≤ h0.size) (SA : Sta Z Z.heap "java/lang/StringUTF16" "$assertionsDisabled" "Z" (.int (1 : Int32))) (SH : Sta Z Z.heap "java/lang/StringUTF16" "HI_BYTE_SHIFT" "I" (.int (0 : Int32))) (SL : Sta Z Z.heap "java/lang/StringUTF16" "LO_BYTE_SHIFT" "I" (.int (8 : Int32))) (O0 : Old Z n0 h0) (B0 : Arv Z h0 bb kb .byte n2 vs (.int 0)) (hj0 : (i <<< ((1 : Int32) &&& 31)) = j0) (hj1 : (j0 + (1 : Int32)) = j1) (q0 : ¬ j0 < 0 ∧ j0 < n2) (q1 : ¬ j1 < 0 ∧ j1 < n2) (g0 : vs.getD j0.toNatClampNeg (.int 0) = .int (own_lo x)) (g1 : vs.getD j1.toNatClampNeg (.int 0) = .int (own_hi x)) (zx : nar .char x = x) :
    own_M l Z (⟨"java/lang/StringUTF16", "getChar", "([BI)C"⟩ : MethodName) (Jvm.Cond.code (⟨"java/lang/StringUTF16", "getChar", "([BI)C"⟩ : MethodName) jdk_52_method_5_code 2 (some .char)) ws ({ frames := 0, cells := 0, slots := 0, locals := 0 } : Room) #[(.ref bb), (.int i)] h0 (Q_rgc Z bb i kb n2 j0 j1 x vs h0 n0) := by
  refine MetFree.of_bodySF (plainFor_of_name pn_29) hisR ?_
  intro p e s m args below meth c s₁ Bd hml0 hP hK
  obtain ⟨rfl, hZ, hh⟩ := hP
  have hx := Bd.exec
  have hby := Bd.bytes
  have hml : c.maxLocals = 2 := hml0
  have hown : s.vm.findClass "java/lang/StringUTF16" = some m.cls := findClass_of_methodNamed Bd.named
  have hnm := (name_of_methodNamed Bd.named Bd.method).1
  have X0 : Stand p l e ({ frames := 0, cells := 0, slots := 0, locals := 0 } : Room) s m #[(.ref bb), (.int i)] below meth c s₁ [] 0 0 := Stand.of_body Bd
  have e0 : s₁.heap = h0 := by rw [← hh, Bd.state]; rfl
  have N0 := Fr.nil n0
  show Goes p e below (Fin s (Q_rgc Z bb i kb n2 j0 j1 x vs h0 n0) ({ frames := 0, cells := 0, slots := 0, locals := 0 } : Room).cells ({ frames := 0, cells := 0, slots := 0, locals := 0 } : Room).slots) _
  refine Goes.via (S' := s₁.setTop (mkF m 0 #[.val (.ref bb), .val (.int i)] [])) (fun tz kz => castTop (ef_29 m bb i ) kz) ?_
  obtain ⟨T1, X1, e1, st1⟩ := getS2 X0 hx hZ hown (host := "") (Or.inl (w_ hw 125 rfl)) Via.refl e0 (SA.ext O0.2) (g := (mkF m 0 #[.val (.ref bb), .val (.int i)] [])) rfl (hb hby d29_0)
  refine Goes.via (S' := T1.setTop (mkF m 3 #[.val (.ref bb), .val (.int i)] [(.int (1 : Int32))])) st1 ?_
  refine Goes.via (S' := T1.setTop (mkF m 31 #[.val (.ref bb), .val (.int i)] [(.int (i <<< ((1 : Int32) &&& 31)))])) (fun tz kz => ?_) ?_
  · show Steps p.tables e below (T1.setTop (mkF m 3 #[.val (.ref bb), .val (.int i)] [(.int (1 : Int32))])) _
    refine XS.ifYes X1.here hx rfl (pc0 := 3) (pc' := 28) rfl (hb hby d29_3) rfl ((if0 _ _).trans (feq (by first | decide | rfl)).2) (by decide) (by decide) ?_
    refine XS.iloadN X1.here hx rfl (hb hby d29_28) rfl ?_
    refine XS.iconst X1.here hx rfl (hb hby d29_29) ?_
    refine XS.ishl X1.here hx rfl (hb hby d29_30) rfl ?_
    exact kz
  rw [hj0]
  refine Goes.via (S' := T1.setTop (mkF m 37 #[.val (.ref bb), .val (.int (j0 + (1 : Int32)))] [(.int j0), (.ref bb)])) (fun tz kz => ?_) ?_
  · show Steps p.tables e below (T1.setTop (mkF m 31 #[.val (.ref bb), .val (.int i)] [(.int j0)])) _
    refine XS.istoreN X1.here hx rfl (hb hby d29_31) rfl (l' := #[.val (.ref bb), .val (.int j0)]) rfl ?_
    refine XS.aloadN X1.here hx rfl (hb hby d29_32) rfl rfl ?_
    refine XS.iloadN X1.here hx rfl (hb hby d29_33) rfl ?_
    refine XS.iinc X1.here hx rfl (hb hby d29_34) rfl (l' := #[.val (.ref bb), .val (.int (j0 + (1 : Int32)))]) rfl ?_
    exact kz
  rw [hj1]
  obtain ⟨cl2, Ar2, q2, Sz2, Nn2, Hs2, G2⟩ := (id B0)
  refine Goes.via (S' := T1.setTop (mkF m 42 #[.val (.ref bb), .val (.int j1)] [(.int ((own_lo x) &&& (255 : Int32)))])) (fun tz kz => ?_) ?_
  · show Steps p.tables e below (T1.setTop (mkF m 37 #[.val (.ref bb), .val (.int j1)] [(.int j0), (.ref bb)])) _
    refine X1.baloadBytes hx (j := j0) (v := (.int (own_lo x))) (by rw [e1]; exact Ar2.1) (State.isArrayOf_alike hZ.alike Ar2.2.1) Ar2.2.2 (inb_of Sz2 q0) (Has.at Hs2 (inb_of Sz2 q0) g0) (g := (mkF m 37 #[.val (.ref bb), .val (.int j1)] [(.int j0), (.ref bb)])) rfl rfl (hb hby d29_37) _ ?_
    refine XS.sipush X1.here hx rfl (hb hby d29_38) ?_
    refine XS.iand X1.here hx rfl (hb hby d29_41) rfl ?_
    exact kz
  obtain ⟨T3, X3, e3, st3⟩ := getS2 X1 hx hZ hown (host := "") (Or.inl (w_ hw 126 rfl)) Via.refl e1 (SH.ext O0.2) (g := (mkF m 42 #[.val (.ref bb), .val (.int j1)] [(.int ((own_lo x) &&& (255 : Int32)))])) rfl (hb hby d29_42)
  refine Goes.via (S' := T3.setTop (mkF m 45 #[.val (.ref bb), .val (.int j1)] [(.int (0 : Int32)), (.int ((own_lo x) &&& (255 : Int32)))])) st3 ?_
  refine Goes.via (S' := T3.setTop (mkF m 48 #[.val (.ref bb), .val (.int j1)] [(.int j1), (.ref bb), (.int (((own_lo x) &&& (255 : Int32)) <<< ((0 : Int32) &&& 31)))])) (fun tz kz => ?_) ?_
  · show Steps p.tables e below (T3.setTop (mkF m 45 #[.val (.ref bb), .val (.int j1)] [(.int (0 : Int32)), (.int ((own_lo x) &&& (255 : Int32)))])) _
    refine XS.ishl X3.here hx rfl (hb hby d29_45) rfl ?_
    refine XS.aloadN X3.here hx rfl (hb hby d29_46) rfl rfl ?_
    refine XS.iloadN X3.here hx rfl (hb hby d29_47) rfl ?_
    exact kz
  obtain ⟨cl4, Ar4, q4, Sz4, Nn4, Hs4, G4⟩ := (id B0)
  refine Goes.via (S' := T3.setTop (mkF m 53 #[.val (.ref bb), .val (.int j1)] [(.int ((own_hi x) &&& (255 : Int32))), (.int (((own_lo x) &&& (255 : Int32)) <<< ((0 : Int32) &&& 31)))])) (fun tz kz => ?_) ?_
  · show Steps p.tables e below (T3.setTop (mkF m 48 #[.val (.ref bb), .val (.int j1)] [(.int j1), (.ref bb), (.int (((own_lo x) &&& (255 : Int32)) <<< ((0 : Int32) &&& 31)))])) _
    refine X3.baloadBytes hx (j := j1) (v := (.int (own_hi x))) (by rw [e3]; exact Ar4.1) (State.isArrayOf_alike hZ.alike Ar4.2.1) Ar4.2.2 (inb_of Sz4 q1) (Has.at Hs4 (inb_of Sz4 q1) g1) (g := (mkF m 48 #[.val (.ref bb), .val (.int j1)] [(.int j1), (.ref bb), (.int (((own_lo x) &&& (255 : Int32)) <<< ((0 : Int32) &&& 31)))])) rfl rfl (hb hby d29_48) _ ?_
    refine XS.sipush X3.here hx rfl (hb hby d29_49) ?_
    refine XS.iand X3.here hx rfl (hb hby d29_52) rfl ?_
    exact kz
  obtain ⟨T5, X5, e5, st5⟩ := getS2 X3 hx hZ hown (host := "") (Or.inl (w_ hw 127 rfl)) Via.refl e3 (SL.ext O0.2) (g := (mkF m 53 #[.val (.ref bb), .val (.int j1)] [(.int ((own_hi x) &&& (255 : Int32))), (.int (((own_lo x) &&& (255 : Int32)) <<< ((0 : Int32) &&& 31)))])) rfl (hb hby d29_53)
  refine Goes.via (S' := T5.setTop (mkF m 56 #[.val (.ref bb), .val (.int j1)] [(.int (8 : Int32)), (.int ((own_hi x) &&& (255 : Int32))), (.int (((own_lo x) &&& (255 : Int32)) <<< ((0 : Int32) &&& 31)))])) st5 ?_
  refine Goes.via (S' := T5.setTop (mkF m 59 #[.val (.ref bb), .val (.int j1)] [(.int (((((own_lo x) &&& (255 : Int32)) <<< ((0 : Int32) &&& 31)) ||| (((own_hi x) &&& (255 : Int32)) <<< ((8 : Int32) &&& 31))).toUInt32.toUInt16.toUInt32.toInt32))])) (fun tz kz => ?_) ?_
  · show Steps p.tables e below (T5.setTop (mkF m 56 #[.val (.ref bb), .val (.int j1)] [(.int (8 : Int32)), (.int ((own_hi x) &&& (255 : Int32))), (.int (((own_lo x) &&& (255 : Int32)) <<< ((0 : Int32) &&& 31)))])) _
    refine XS.ishl X5.here hx rfl (hb hby d29_56) rfl ?_
    refine XS.ior X5.here hx rfl (hb hby d29_57) rfl ?_
    refine XS.i2c X5.here hx rfl (hb hby d29_58) rfl ?_
    exact kz
  exact Goes.retN X5 hx Bd.notSynchronized (t := .char) Bd.returns (by simp) (hb hby d29_59) (Nat.le_of_ble_eq_true rfl) (Nat.le_of_ble_eq_true rfl) ⟨congrArg (fun z => some (Value.int z)) (own_gc zx), N0, e5⟩
theorem d27_0 : decode jdk_52_method_3_code 0 = .ok (.iload_n 0, 1) := by decide +kernel
theorem d27_1 : decode jdk_52_method_3_code 1 = .ok (.ifCond .ge 11, 3) := by decide +kernel
theorem d27_12 : decode jdk_52_method_3_code 12 = .ok (.iload_n 0, 1) := by decide +kernel
theorem d27_13 : decode jdk_52_method_3_code 13 = .ok (.ldc 20, 2) := by decide +kernel
theorem d27_15 : decode jdk_52_method_3_code 15 = .ok (.if_icmp .lt 40, 3) := by decide +kernel
theorem d27_55 : decode jdk_52_method_3_code 55 = .ok (.iload_n 0, 1) := by decide +kernel
theorem d27_56 : decode jdk_52_method_3_code 56 = .ok (.iconst 1, 1) := by decide +kernel
theorem d27_57 : decode jdk_52_method_3_code 57 = .ok (.ishl, 1) := by decide +kernel
theorem d27_58 : decode jdk_52_method_3_code 58 = .ok (.ireturn, 1) := by decide +kernel
theorem pn_27 : plainName "java/lang/StringUTF16" = true := by first | (simp [plainName, overriddenIn]; done) | decide +kernel
theorem ef_27 (m : MethodId) (x0 : Int32) : entryFrame m #[(.int x0)] 1 = mkF m 0 #[.val (.int x0)] [] := by first | (simp [entryFrame, mkF, argsToLocals, Value.category]; done) | rfl
def Q_rnbl_1 (Z : State)   (h0 : Heap) (n0 : Nat) : Option Value → Heap → List Loc → Prop := fun v h L => v = some (.int (2 : Int32)) ∧ Fr n0 L ∧ h = h0
set_option maxRecDepth 65536 in
set_option maxHeartbeats 40000000 in
theorem rnbl_1 (l : Launch) (Z : State) (a0 : Array Value) (hw : ∀ d ∈ tables_1, d.before a0 Z = true) (ws : List Jvm.Cond)   (h0 : Heap) (n0 : Nat) (Z0 : n0 ≤ h0.size) :
    own_M l Z (⟨"java/lang/StringUTF16", "newBytesLength", "(I)I"⟩ : MethodName) (Jvm.Cond.code (⟨"java/lang/StringUTF16", "newBytesLength", "(I)I"⟩ : MethodName) jdk_52_method_3_code 1 (some .int)) ws ({ frames := 0, cells := 0, slots := 0, locals := 0 } : Room) #[(.int (1 : Int32))] h0 (Q_rnbl_1 Z  h0 n0) := by
  refine MetFree.of_bodySF (plainFor_of_name pn_27) hisR ?_
  intro p e s m args below meth c s₁ Bd hml0 hP hK
  obtain ⟨rfl, hZ, hh⟩ := hP
  have hx := Bd.exec
  have hby := Bd.bytes
  have hml : c.maxLocals = 1 := hml0
  have hown : s.vm.findClass "java/lang/StringUTF16" = some m.cls := findClass_of_methodNamed Bd.named
  have hnm := (name_of_methodNamed Bd.named Bd.method).1
  have X0 : Stand p l e ({ frames := 0, cells := 0, slots := 0, locals := 0 } : Room) s m #[(.int (1 : Int32))] below meth c s₁ [] 0 0 := Stand.of_body Bd
  have e0 : s₁.heap = h0 := by rw [← hh, Bd.state]; rfl
  have N0 := Fr.nil n0
  show Goes p e below (Fin s (Q_rnbl_1 Z  h0 n0) ({ frames := 0, cells := 0, slots := 0, locals := 0 } : Room).cells ({ frames := 0, cells := 0, slots := 0, locals := 0 } : Room).slots) _
  refine Goes.via (S' := s₁.setTop (mkF m 0 #[.val (.int (1 : Int32))] [])) (fun tz kz => castTop (ef_27 m (1 : Int32) ) kz) ?_
  refine Goes.via (S' := s₁.setTop (mkF m 58 #[.val (.int (1 : Int32))] [(.int (2 : Int32))])) (fun tz kz => ?_) ?_
  · show Steps p.tables e below (s₁.setTop (mkF m 0 #[.val (.int (1 : Int32))] [])) _
    refine XS.iloadN X0.here hx rfl (hb hby d27_0) rfl ?_
    refine XS.ifYes X0.here hx rfl (pc0 := 1) (pc' := 12) rfl (hb hby d27_1) rfl ((if0 _ _).trans (flt (by first | decide | rfl)).2.1) (by decide) (by decide) ?_
    refine XS.iloadN X0.here hx rfl (hb hby d27_12) rfl ?_
    refine X0.ldcInt hx hown (mvT hZ (w_ hw 121 rfl)) (g := (mkF m 13 #[.val (.int (1 : Int32))] [(.int (1 : Int32))])) rfl (hb hby d27_13) _ ?_
    show Steps p.tables e below (s₁.setTop (mkF m 15 #[.val (.int (1 : Int32))] [(.int (1073741823 : Int32)), (.int (1 : Int32))])) _
    refine XS.icmpYes X0.here hx rfl (pc0 := 15) (pc' := 55) rfl (hb hby d27_15) rfl (tlt (by first | decide | rfl)).1 (by decide) (by decide) ?_
    refine XS.iloadN X0.here hx rfl (hb hby d27_55) rfl ?_
    refine XS.iconst X0.here hx rfl (hb hby d27_56) ?_
    refine XS.ishl X0.here hx rfl (hb hby d27_57) rfl ?_
    exact kz
  exact Goes.retI X0 hx Bd.notSynchronized Bd.returns (hb hby d27_58) (Nat.le_of_ble_eq_true rfl) (Nat.le_of_ble_eq_true rfl) ⟨rfl, N0, e0⟩
theorem d26_0 : decode jdk_52_method_2_code 0 = .ok (.iload_n 0, 1) := by decide +kernel
theorem d26_1 : decode jdk_52_method_2_code 1 = .ok (.invokestatic 11, 3) := by decide +kernel
theorem d26_4 : decode jdk_52_method_2_code 4 = .ok (.newarray .byte, 2) := by decide +kernel
theorem d26_6 : decode jdk_52_method_2_code 6 = .ok (.areturn, 1) := by decide +kernel
theorem pn_26 : plainName "java/lang/StringUTF16" = true := by first | (simp [plainName, overriddenIn]; done) | decide +kernel
theorem ef_26 (m : MethodId) (x0 : Int32) : entryFrame m #[(.int x0)] 1 = mkF m 0 #[.val (.int x0)] [] := by first | (simp [entryFrame, mkF, argsToLocals, Value.category]; done) | rfl
def Q_rnbf_1 (Z : State)   (h0 : Heap) (n0 : Nat) : Option Value → Heap → List Loc → Prop := fun v h L => ∃ b k, v = some (.ref b) ∧ Fr n0 L ∧ Keep h0 h [] ∧ Arv Z h b k .byte (2 : Int32) [.int 0, .int 0] (.int 0) ∧ @LE.le Nat _ h0.size b
set_option maxRecDepth 65536 in
set_option maxHeartbeats 40000000 in
theorem rnbf_1 (l : Launch) (Z : State) (a0 : Array Value) (hw : ∀ d ∈ tables_1, d.before a0 Z = true) (ws : List Jvm.Cond)   (h0 : Heap) (n0 : Nat) (Z0 : n0 ≤ h0.size) :
    own_M l Z (⟨"java/lang/StringUTF16", "newBytesFor", "(I)[B"⟩ : MethodName) (Jvm.Cond.code (⟨"java/lang/StringUTF16", "newBytesFor", "(I)[B"⟩ : MethodName) jdk_52_method_2_code 1 (some (.array .byte))) ws ({ frames := 1, cells := 1, slots := 2, locals := 16 } : Room) #[(.int (1 : Int32))] h0 (Q_rnbf_1 Z  h0 n0) := by
  refine MetFree.of_bodySF (plainFor_of_name pn_26) hisR ?_
  intro p e s m args below meth c s₁ Bd hml0 hP hK
  obtain ⟨rfl, hZ, hh⟩ := hP
  have hx := Bd.exec
  have hby := Bd.bytes
  have hml : c.maxLocals = 1 := hml0
  have hown : s.vm.findClass "java/lang/StringUTF16" = some m.cls := findClass_of_methodNamed Bd.named
  have hnm := (name_of_methodNamed Bd.named Bd.method).1
  have X0 : Stand p l e ({ frames := 1, cells := 1, slots := 2, locals := 16 } : Room) s m #[(.int (1 : Int32))] below meth c s₁ [] 0 0 := Stand.of_body Bd
  have e0 : s₁.heap = h0 := by rw [← hh, Bd.state]; rfl
  have N0 := Fr.nil n0
  show Goes p e below (Fin s (Q_rnbf_1 Z  h0 n0) ({ frames := 1, cells := 1, slots := 2, locals := 16 } : Room).cells ({ frames := 1, cells := 1, slots := 2, locals := 16 } : Room).slots) _
  refine Goes.via (S' := s₁.setTop (mkF m 0 #[.val (.int (1 : Int32))] [])) (fun tz kz => castTop (ef_26 m (1 : Int32) ) kz) ?_
  refine Goes.via (S' := s₁.setTop (mkF m 1 #[.val (.int (1 : Int32))] [(.int (1 : Int32))])) (fun tz kz => ?_) ?_
  · show Steps p.tables e below (s₁.setTop (mkF m 0 #[.val (.int (1 : Int32))] [])) _
    refine XS.iloadN X0.here hx rfl (hb hby d26_0) rfl ?_
    exact kz
  obtain ⟨_, _, ⟨T1, L1, k1, n1⟩, -, X1, ⟨Lc1, hQ1, l1, y1, z1⟩, st1⟩ := Jvm.LawKit.callS X0 hx (y := (⟨"java/lang/StringUTF16", "newBytesLength", "(I)I"⟩ : MethodName)) hown (mvT hZ (w_ hw 118 rfl)) (mvT hZ (w_ hw 119 rfl)) (mvT hZ (w_ hw 50 rfl)) (mvT hZ (w_ hw 120 rfl)) (by decide) (backOf (W := 0) (rnbl_1 l Z a0 hw [] h0 n0 Z0) hZ (w_ hw 120 rfl) (w_ hw 50 rfl) (by decide) (by decide)) (g := (mkF m 1 #[.val (.int (1 : Int32))] [(.int (1 : Int32))])) rfl (by rw [hml]; rfl) (argsL := [(.int (1 : Int32))]) (rest := []) (lenOf pd_1 rfl) rfl (by show 2 * 0 + _ ≤ _; exact Nat.le_of_eq rfl) (hb hby d26_1) (fun _ _ => ⟨rfl, e0, (by decide : 0 + 0 ≤ _), (by decide : 0 + 0 ≤ _)⟩)
  dsimp only [Pt.U, Pt.locs, Pt.cells, Pt.slots] at X1 l1 y1 z1 st1 hQ1
  subst l1 y1 z1
  obtain ⟨rfl, N1, e1⟩ := hQ1
  have Nf1 := Fr.app N0 N1
  refine Goes.via (S' := T1.setTop (mkF m 4 #[.val (.int (1 : Int32))] [(.int (2 : Int32))])) (st1) ?_
  obtain ⟨T2, h2, k2, X2, e2, E2, A2, st2⟩ := newP X1 hx hZ (w_ hw 16 rfl) e1 (g := (mkF m 4 #[.val (.int (1 : Int32))] [(.int (2 : Int32))])) rfl (hb hby d26_4) rfl (by decide) (cap := 2) (by decide) (by decide) (by decide) (by decide)
  obtain ⟨b2, g2⟩ : ∃ z, z = h0.size := ⟨_, rfl⟩
  rw [← g2] at A2 st2
  refine Goes.via (S' := T2.setTop (mkF m 6 #[.val (.int (1 : Int32))] [(.ref b2)])) st2 ?_
  have B2 : Arv Z h2 b2 k2 .byte (2 : Int32) [.int 0, .int 0] (.int 0) := (Arv.new A2 (by decide)).pad (pad_rep [] (.int 0) 2)
  exact Goes.retO X2 hx Bd.notSynchronized Bd.returns rfl (Or.inr (Or.inr (Or.inr (Or.inr ⟨rfl, rfl, rfl⟩)))) (hb hby d26_6) (Nat.le_of_ble_eq_true rfl) (Nat.le_of_ble_eq_true rfl) (by rw [e2]; exact ⟨b2, k2, rfl, Nf1, (Keep.refl h0 []).ext E2, B2, Nat.le_of_eq g2.symm⟩)
theorem d25_0 : decode jdk_52_method_14_code 0 = .ok (.iload_n 2, 1) := by decide +kernel
theorem d25_1 : decode jdk_52_method_14_code 1 = .ok (.invokestatic 107, 3) := by decide +kernel
theorem d25_4 : decode jdk_52_method_14_code 4 = .ok (.astore_n 3, 1) := by decide +kernel
theorem d25_5 : decode jdk_52_method_14_code 5 = .ok (.iconst 0, 1) := by decide +kernel
theorem d25_6 : decode jdk_52_method_14_code 6 = .ok (.istore 4, 2) := by decide +kernel
theorem d25_8 : decode jdk_52_method_14_code 8 = .ok (.iload 4, 2) := by decide +kernel
theorem d25_10 : decode jdk_52_method_14_code 10 = .ok (.iload_n 2, 1) := by decide +kernel
theorem d25_11 : decode jdk_52_method_14_code 11 = .ok (.if_icmp .ge 21, 3) := by decide +kernel
theorem d25_14 : decode jdk_52_method_14_code 14 = .ok (.aload_n 3, 1) := by decide +kernel
theorem d25_15 : decode jdk_52_method_14_code 15 = .ok (.iload 4, 2) := by decide +kernel
theorem d25_17 : decode jdk_52_method_14_code 17 = .ok (.aload_n 0, 1) := by decide +kernel
theorem d25_18 : decode jdk_52_method_14_code 18 = .ok (.iload_n 1, 1) := by decide +kernel
theorem d25_19 : decode jdk_52_method_14_code 19 = .ok (.caload, 1) := by decide +kernel
theorem d25_20 : decode jdk_52_method_14_code 20 = .ok (.invokestatic 111, 3) := by decide +kernel
theorem d25_23 : decode jdk_52_method_14_code 23 = .ok (.iinc 1 1, 3) := by decide +kernel
theorem d25_26 : decode jdk_52_method_14_code 26 = .ok (.iinc 4 1, 3) := by decide +kernel
theorem d25_29 : decode jdk_52_method_14_code 29 = .ok (.goto (-21), 3) := by decide +kernel
theorem d25_32 : decode jdk_52_method_14_code 32 = .ok (.aload_n 3, 1) := by decide +kernel
theorem d25_33 : decode jdk_52_method_14_code 33 = .ok (.areturn, 1) := by decide +kernel
theorem pn_25 : plainName "java/lang/StringUTF16" = true := by first | (simp [plainName, overriddenIn]; done) | decide +kernel
theorem ef_25 (m : MethodId) (x0 : Addr) (x1 : Int32) (x2 : Int32) : entryFrame m #[(.ref x0), (.int x1), (.int x2)] 5 = mkF m 0 #[.val (.ref x0), .val (.int x1), .val (.int x2), .unset, .unset] [] := by first | (simp [entryFrame, mkF, argsToLocals, Value.category]; done) | rfl
def Q_rtb_1 (Z : State) (ca : Addr) (ka : ClassId) (c0 : Int32) (h0 : Heap) (n0 : Nat) : Option Value → Heap → List Loc → Prop := fun v h L => ∃ b k, v = some (.ref b) ∧ Fr n0 L ∧ Keep h0 h [] ∧ Arv Z h b k .byte (2 : Int32) [.int (own_lo c0), .int (own_hi c0)] (.int 0) ∧ @LE.le Nat _ h0.size b
set_option maxRecDepth 65536 in
set_option maxHeartbeats 40000000 in
theorem rtb_1 (l : Launch) (Z : State) (a0 : Array Value) (hw : ∀ d ∈ tables_1, d.before a0 Z = true) (ws : List Jvm.Cond) (ca : Addr) (ka : ClassId) (c0 : Int32) (h0 : Heap) (n0 : Nat) (Z0 : n0 ≤ h0.size) (SA : Sta Z Z.heap "java/lang/StringUTF16" "$assertionsDisabled" "Z" (.int (1 : Int32))) (SH : Sta Z Z.heap "java/lang/StringUTF16" "HI_BYTE_SHIFT" "I" (.int (0 : Int32))) (SL : Sta Z Z.heap "java/lang/StringUTF16" "LO_BYTE_SHIFT" "I" (.int (8 : Int32))) (O0 : Old Z n0 h0) (C0 : Arv Z h0 ca ka .char (1 : Int32) [.int c0] (.int 0)) :
    own_M l Z (⟨"java/lang/StringUTF16", "toBytes", "([CII)[B"⟩ : MethodName) (Jvm.Cond.code (⟨"java/lang/StringUTF16", "toBytes", "([CII)[B"⟩ : MethodName) jdk_52_method_14_code 5 (some (.array .byte))) ws ({ frames := 2, cells := 1, slots := 2, locals := 36 } : Room) #[(.ref ca), (.int (0 : Int32)), (.int (1 : Int32))] h0 (Q_rtb_1 Z ca ka c0 h0 n0) := by
  refine MetFree.of_bodySF (plainFor_of_name pn_25) hisR ?_
  intro p e s m args below meth c s₁ Bd hml0 hP hK
  obtain ⟨rfl, hZ, hh⟩ := hP
  have hx := Bd.exec
  have hby := Bd.bytes
  have hml : c.maxLocals = 5 := hml0
  have hown : s.vm.findClass "java/lang/StringUTF16" = some m.cls := findClass_of_methodNamed Bd.named
  have hnm := (name_of_methodNamed Bd.named Bd.method).1
  have X0 : Stand p l e ({ frames := 2, cells := 1, slots := 2, locals := 36 } : Room) s m #[(.ref ca), (.int (0 : Int32)), (.int (1 : Int32))] below meth c s₁ [] 0 0 := Stand.of_body Bd
  have e0 : s₁.heap = h0 := by rw [← hh, Bd.state]; rfl
  have N0 := Fr.nil n0
  show Goes p e below (Fin s (Q_rtb_1 Z ca ka c0 h0 n0) ({ frames := 2, cells := 1, slots := 2, locals := 36 } : Room).cells ({ frames := 2, cells := 1, slots := 2, locals := 36 } : Room).slots) _
  refine Goes.via (S' := s₁.setTop (mkF m 0 #[.val (.ref ca), .val (.int (0 : Int32)), .val (.int (1 : Int32)), .unset, .unset] [])) (fun tz kz => castTop (ef_25 m ca (0 : Int32) (1 : Int32) ) kz) ?_
  refine Goes.via (S' := s₁.setTop (mkF m 1 #[.val (.ref ca), .val (.int (0 : Int32)), .val (.int (1 : Int32)), .unset, .unset] [(.int (1 : Int32))])) (fun tz kz => ?_) ?_
  · show Steps p.tables e below (s₁.setTop (mkF m 0 #[.val (.ref ca), .val (.int (0 : Int32)), .val (.int (1 : Int32)), .unset, .unset] [])) _
    refine XS.iloadN X0.here hx rfl (hb hby d25_0) rfl ?_
    exact kz
  obtain ⟨_, _, ⟨T1, L1, k1, n1⟩, -, X1, ⟨Lc1, hQ1, l1, y1, z1⟩, st1⟩ := Jvm.LawKit.callS X0 hx (y := (⟨"java/lang/StringUTF16", "newBytesFor", "(I)[B"⟩ : MethodName)) hown (mvT hZ (w_ hw 115 rfl)) (mvT hZ (w_ hw 116 rfl)) (mvT hZ (w_ hw 50 rfl)) (mvT hZ (w_ hw 117 rfl)) (by decide) (backOf (W := 0) (rnbf_1 l Z a0 hw []  h0 n0 Z0) hZ (w_ hw 117 rfl) (w_ hw 50 rfl) (by decide) (by decide)) (g := (mkF m 1 #[.val (.ref ca), .val (.int (0 : Int32)), .val (.int (1 : Int32)), .unset, .unset] [(.int (1 : Int32))])) rfl (by rw [hml]; rfl) (argsL := [(.int (1 : Int32))]) (rest := []) (lenOf pd_2 rfl) rfl (by show 2 * 0 + _ ≤ _; exact Nat.le_of_eq rfl) (hb hby d25_1) (fun _ _ => ⟨rfl, e0, (by decide : 0 + 1 ≤ _), (by decide : 0 + 2 ≤ _)⟩)
  dsimp only [Pt.U, Pt.locs, Pt.cells, Pt.slots] at X1 l1 y1 z1 st1 hQ1
  subst l1 y1 z1
  obtain ⟨nb, kn, rfl, N1, K1, B1, gv⟩ := hQ1
  have Nf1 := Fr.app N0 N1
  refine Goes.via (S' := T1.setTop (mkF m 4 #[.val (.ref ca), .val (.int (0 : Int32)), .val (.int (1 : Int32)), .unset, .unset] [(.ref nb)])) (st1) ?_
  have C1 := C0.keep K1 nin0
  have O1 := O0.keep K1 all0
  have gb : n0 ≤ nb := Nat.le_trans Z0 gv
  have nab : ca ≠ nb := Nat.ne_of_lt (Nat.lt_of_lt_of_le C0.lt gv)
  have Z1 := Nat.le_trans Z0 K1.1
  refine Goes.via (S' := T1.setTop (mkF m 19 #[.val (.ref ca), .val (.int (0 : Int32)), .val (.int (1 : Int32)), .val (.ref nb), .val (.int (0 : Int32))] [(.int (0 : Int32)), (.ref ca), (.int (0 : Int32)), (.ref nb)])) (fun tz kz => ?_) ?_
  · show Steps p.tables e below (T1.setTop (mkF m 4 #[.val (.ref ca), .val (.int (0 : Int32)), .val (.int (1 : Int32)), .unset, .unset] [(.ref nb)])) _
    refine XS.astoreN X1.here hx rfl (hb hby d25_4) rfl rfl (l' := #[.val (.ref ca), .val (.int (0 : Int32)), .val (.int (1 : Int32)), .val (.ref nb), .unset]) rfl ?_
    refine XS.iconst X1.here hx rfl (hb hby d25_5) ?_
    refine XS.istore X1.here hx rfl (hb hby d25_6) rfl (l' := #[.val (.ref ca), .val (.int (0 : Int32)), .val (.int (1 : Int32)), .val (.ref nb), .val (.int (0 : Int32))]) rfl ?_
    refine XS.iload X1.here hx rfl (hb hby d25_8) rfl ?_
    show Steps p.tables e below (T1.setTop (mkF m 10 #[.val (.ref ca), .val (.int (0 : Int32)), .val (.int (1 : Int32)), .val (.ref nb), .val (.int (0 : Int32))] [(.int (0 : Int32))])) _
    refine XS.iloadN X1.here hx rfl (hb hby d25_10) rfl ?_
    refine XS.icmpNo X1.here hx rfl (hb hby d25_11) rfl (tlt (by first | decide | rfl)).2.1 ?_
    refine XS.aloadN X1.here hx rfl (hb hby d25_14) rfl rfl ?_
    refine XS.iload X1.here hx rfl (hb hby d25_15) rfl ?_
    show Steps p.tables e below (T1.setTop (mkF m 17 #[.val (.ref ca), .val (.int (0 : Int32)), .val (.int (1 : Int32)), .val (.ref nb), .val (.int (0 : Int32))] [(.int (0 : Int32)), (.ref nb)])) _
    refine XS.aloadN X1.here hx rfl (hb hby d25_17) rfl rfl ?_
    refine XS.iloadN X1.here hx rfl (hb hby d25_18) rfl ?_
    exact kz
  obtain ⟨cl2, Ar2, q2, Sz2, Nn2, Hs2, G2⟩ := (id C1)
  refine Goes.via (S' := T1.setTop (mkF m 20 #[.val (.ref ca), .val (.int (0 : Int32)), .val (.int (1 : Int32)), .val (.ref nb), .val (.int (0 : Int32))] [(.int c0), (.int (0 : Int32)), (.ref nb)])) (fun tz kz => ?_) ?_
  · show Steps p.tables e below (T1.setTop (mkF m 19 #[.val (.ref ca), .val (.int (0 : Int32)), .val (.int (1 : Int32)), .val (.ref nb), .val (.int (0 : Int32))] [(.int (0 : Int32)), (.ref ca), (.int (0 : Int32)), (.ref nb)])) _
    refine X1.caload hx (j := (0 : Int32)) (v := (.int c0)) (by exact Ar2.1) (State.isArrayOf_alike hZ.alike Ar2.2.1) Ar2.2.2 (inb_of Sz2 ⟨by decide, by decide⟩) (Has.at Hs2 (inb_of Sz2 ⟨by decide, by decide⟩) rfl) (g := (mkF m 19 #[.val (.ref ca), .val (.int (0 : Int32)), .val (.int (1 : Int32)), .val (.ref nb), .val (.int (0 : Int32))] [(.int (0 : Int32)), (.ref ca), (.int (0 : Int32)), (.ref nb)])) rfl rfl (hb hby d25_19) _ ?_
    exact kz
  obtain ⟨_, _, ⟨T3, L3, k3, n3⟩, -, X3, ⟨Lc3, hQ3, l3, y3, z3⟩, st3⟩ := Jvm.LawKit.callS X1 hx (y := (⟨"java/lang/StringUTF16", "putChar", "([BII)V"⟩ : MethodName)) hown (mvT hZ (w_ hw 122 rfl)) (mvT hZ (w_ hw 123 rfl)) (mvT hZ (w_ hw 50 rfl)) (mvT hZ (w_ hw 124 rfl)) (by decide) (backOf (W := 0) (rpc l Z a0 hw [] nb (0 : Int32) c0 kn (2 : Int32) (0 : Int32) (1 : Int32) 0 1 [.int 0, .int 0] T1.heap n0 Z1 SA SH SL O1 B1 gb rfl rfl ⟨by decide, by decide⟩ ⟨by decide, by decide⟩ rfl rfl (Nat.le_of_ble_eq_true rfl) (Nat.le_of_ble_eq_true rfl)) hZ (w_ hw 124 rfl) (w_ hw 50 rfl) (by decide) (by decide)) (g := (mkF m 20 #[.val (.ref ca), .val (.int (0 : Int32)), .val (.int (1 : Int32)), .val (.ref nb), .val (.int (0 : Int32))] [(.int c0), (.int (0 : Int32)), (.ref nb)])) rfl (by rw [hml]; rfl) (argsL := [(.ref nb), (.int (0 : Int32)), (.int c0)]) (rest := []) (lenOf pd_3 rfl) rfl (by show 2 * 0 + _ ≤ _; exact Nat.le_of_eq rfl) (hb hby d25_20) (fun _ _ => ⟨rfl, rfl, (by decide : 1 + 0 ≤ _), (by decide : 2 + 0 ≤ _)⟩)
  dsimp only [Pt.U, Pt.locs, Pt.cells, Pt.slots] at X3 l3 y3 z3 st3 hQ3
  subst l3 y3 z3
  obtain ⟨rfl, N3, K3, B3⟩ := hQ3
  have Nf3 := Fr.app Nf1 N3
  refine Goes.via (S' := T3.setTop (mkF m 23 #[.val (.ref ca), .val (.int (0 : Int32)), .val (.int (1 : Int32)), .val (.ref nb), .val (.int (0 : Int32))] [])) (st3) ?_
  have B3 : Arv Z T3.heap nb kn .byte (2 : Int32) [.int (own_lo c0), .int (own_hi c0)] (.int 0) := B3
  have C3 := C1.keep K3 (fun q => nab (List.mem_singleton.mp q))
  have O3 := O1.keep K3 (allS gb all0)
  have J3 := K1.trans K3 (allS (Or.inr gv) all0)
  have Z3 := Nat.le_trans Z1 K3.1
  refine Goes.via (S' := T3.setTop (mkF m 33 #[.val (.ref ca), .val (.int (1 : Int32)), .val (.int (1 : Int32)), .val (.ref nb), .val (.int (1 : Int32))] [(.ref nb)])) (fun tz kz => ?_) ?_
  · show Steps p.tables e below (T3.setTop (mkF m 23 #[.val (.ref ca), .val (.int (0 : Int32)), .val (.int (1 : Int32)), .val (.ref nb), .val (.int (0 : Int32))] [])) _
    refine XS.iinc X3.here hx rfl (hb hby d25_23) rfl (l' := #[.val (.ref ca), .val (.int (1 : Int32)), .val (.int (1 : Int32)), .val (.ref nb), .val (.int (0 : Int32))]) rfl ?_
    refine XS.iinc X3.here hx rfl (hb hby d25_26) rfl (l' := #[.val (.ref ca), .val (.int (1 : Int32)), .val (.int (1 : Int32)), .val (.ref nb), .val (.int (1 : Int32))]) rfl ?_
    refine XS.goto X3.here hx rfl (pc0 := 29) (pc' := 8) rfl (hb hby d25_29) (by decide) (by decide) ?_
    refine XS.iload X3.here hx rfl (hb hby d25_8) rfl ?_
    show Steps p.tables e below (T3.setTop (mkF m 10 #[.val (.ref ca), .val (.int (1 : Int32)), .val (.int (1 : Int32)), .val (.ref nb), .val (.int (1 : Int32))] [(.int (1 : Int32))])) _
    refine XS.iloadN X3.here hx rfl (hb hby d25_10) rfl ?_
    refine XS.icmpYes X3.here hx rfl (pc0 := 11) (pc' := 32) rfl (hb hby d25_11) rfl (flt (by first | decide | rfl)).2.1 (by decide) (by decide) ?_
    refine XS.aloadN X3.here hx rfl (hb hby d25_32) rfl rfl ?_
    exact kz
  exact Goes.retO X3 hx Bd.notSynchronized Bd.returns rfl (Or.inr (Or.inr (Or.inr (Or.inr ⟨rfl, rfl, rfl⟩)))) (hb hby d25_33) (Nat.le_of_ble_eq_true rfl) (Nat.le_of_ble_eq_true rfl) ⟨nb, kn, rfl, Nf3, J3, B3, gv⟩
theorem d10_0 : decode jdk_52_method_21_code 0 = .ok (.iconst 0, 1) := by decide +kernel
theorem d10_1 : decode jdk_52_method_21_code 1 = .ok (.istore 5, 2) := by decide +kernel
theorem d10_3 : decode jdk_52_method_21_code 3 = .ok (.iload 5, 2) := by decide +kernel
theorem d10_5 : decode jdk_52_method_21_code 5 = .ok (.iload 4, 2) := by decide +kernel
theorem d10_7 : decode jdk_52_method_21_code 7 = .ok (.if_icmp .ge 37, 3) := by decide +kernel
theorem d10_10 : decode jdk_52_method_21_code 10 = .ok (.aload_n 0, 1) := by decide +kernel
theorem d10_11 : decode jdk_52_method_21_code 11 = .ok (.iload_n 1, 1) := by decide +kernel
theorem d10_12 : decode jdk_52_method_21_code 12 = .ok (.caload, 1) := by decide +kernel
theorem d10_13 : decode jdk_52_method_21_code 13 = .ok (.istore 6, 2) := by decide +kernel
theorem d10_15 : decode jdk_52_method_21_code 15 = .ok (.iload 6, 2) := by decide +kernel
theorem d10_17 : decode jdk_52_method_21_code 17 = .ok (.sipush 255, 3) := by decide +kernel
theorem d10_20 : decode jdk_52_method_21_code 20 = .ok (.if_icmp .le 6, 3) := by decide +kernel
theorem d10_23 : decode jdk_52_method_21_code 23 = .ok (.iload 5, 2) := by decide +kernel
theorem d10_25 : decode jdk_52_method_21_code 25 = .ok (.ireturn, 1) := by decide +kernel
theorem d10_26 : decode jdk_52_method_21_code 26 = .ok (.aload_n 2, 1) := by decide +kernel
theorem d10_27 : decode jdk_52_method_21_code 27 = .ok (.iload_n 3, 1) := by decide +kernel
theorem d10_28 : decode jdk_52_method_21_code 28 = .ok (.iload 6, 2) := by decide +kernel
theorem d10_30 : decode jdk_52_method_21_code 30 = .ok (.i2b, 1) := by decide +kernel
theorem d10_31 : decode jdk_52_method_21_code 31 = .ok (.bastore, 1) := by decide +kernel
theorem d10_32 : decode jdk_52_method_21_code 32 = .ok (.iinc 1 1, 3) := by decide +kernel
theorem d10_35 : decode jdk_52_method_21_code 35 = .ok (.iinc 3 1, 3) := by decide +kernel
theorem d10_38 : decode jdk_52_method_21_code 38 = .ok (.iinc 5 1, 3) := by decide +kernel
theorem d10_41 : decode jdk_52_method_21_code 41 = .ok (.goto (-38), 3) := by decide +kernel
theorem d10_44 : decode jdk_52_method_21_code 44 = .ok (.iload 4, 2) := by decide +kernel
theorem d10_46 : decode jdk_52_method_21_code 46 = .ok (.ireturn, 1) := by decide +kernel
theorem pn_10 : plainName "java/lang/StringUTF16" = true := by first | (simp [plainName, overriddenIn]; done) | decide +kernel
theorem ef_10 (m : MethodId) (x0 : Addr) (x1 : Int32) (x2 : Addr) (x3 : Int32) (x4 : Int32) : entryFrame m #[(.ref x0), (.int x1), (.ref x2), (.int x3), (.int x4)] 7 = mkF m 0 #[.val (.ref x0), .val (.int x1), .val (.ref x2), .val (.int x3), .val (.int x4), .unset, .unset] [] := by first | (simp [entryFrame, mkF, argsToLocals, Value.category]; done) | rfl
def Q_rc5_1 (Z : State) (ca : Addr) (bb : Addr) (ka kz : ClassId) (c0 : Int32) (h0 : Heap) (n0 : Nat) : Option Value → Heap → List Loc → Prop := fun v h L => ∃ j, v = some (.int j) ∧ Fr n0 L ∧ Keep h0 h [bb] ∧ ((j = (1 : Int32) ∧ (¬ (255 : Int32) < c0) ∧ Arv Z h bb kz .byte (1 : Int32) [.int (own_by c0)] (.int 0)) ∨ own_big (1 : Int32) (2 : Int32) [.int (own_lo c0), .int (own_hi c0)] j)
set_option maxRecDepth 65536 in
set_option maxHeartbeats 40000000 in
theorem rc5_1 (l : Launch) (Z : State) (a0 : Array Value) (hw : ∀ d ∈ tables_1, d.before a0 Z = true) (ws : List Jvm.Cond) (ca : Addr) (bb : Addr) (ka kz : ClassId) (c0 : Int32) (h0 : Heap) (n0 : Nat) (Z0 : n0 ≤ h0.size) (C0 : Arv Z h0 ca ka .char (1 : Int32) [.int c0] (.int 0)) (B0 : Arv Z h0 bb kz .byte (1 : Int32) [.int 0] (.int 0)) (gb : n0 ≤ bb) (nab : ca ≠ bb) (z0 : nar .char c0 = c0) :
    own_M l Z (⟨"java/lang/StringUTF16", "compress", "([CI[BII)I"⟩ : MethodName) (Jvm.Cond.code (⟨"java/lang/StringUTF16", "compress", "([CI[BII)I"⟩ : MethodName) jdk_52_method_21_code 7 (some .int)) ws ({ frames := 0, cells := 0, slots := 0, locals := 0 } : Room) #[(.ref ca), (.int (0 : Int32)), (.ref bb), (.int (0 : Int32)), (.int (1 : Int32))] h0 (Q_rc5_1 Z ca bb ka kz c0 h0 n0) := by
  refine MetFree.of_bodySF (plainFor_of_name pn_10) hisR ?_
  intro p e s m args below meth c s₁ Bd hml0 hP hK
  obtain ⟨rfl, hZ, hh⟩ := hP
  have hx := Bd.exec
  have hby := Bd.bytes
  have hml : c.maxLocals = 7 := hml0
  have hown : s.vm.findClass "java/lang/StringUTF16" = some m.cls := findClass_of_methodNamed Bd.named
  have hnm := (name_of_methodNamed Bd.named Bd.method).1
  have X0 : Stand p l e ({ frames := 0, cells := 0, slots := 0, locals := 0 } : Room) s m #[(.ref ca), (.int (0 : Int32)), (.ref bb), (.int (0 : Int32)), (.int (1 : Int32))] below meth c s₁ [] 0 0 := Stand.of_body Bd
  have e0 : s₁.heap = h0 := by rw [← hh, Bd.state]; rfl
  have N0 := Fr.nil n0
  show Goes p e below (Fin s (Q_rc5_1 Z ca bb ka kz c0 h0 n0) ({ frames := 0, cells := 0, slots := 0, locals := 0 } : Room).cells ({ frames := 0, cells := 0, slots := 0, locals := 0 } : Room).slots) _
  refine Goes.via (S' := s₁.setTop (mkF m 0 #[.val (.ref ca), .val (.int (0 : Int32)), .val (.ref bb), .val (.int (0 : Int32)), .val (.int (1 : Int32)), .unset, .unset] [])) (fun tz kz => castTop (ef_10 m ca (0 : Int32) bb (0 : Int32) (1 : Int32) ) kz) ?_
  refine Goes.via (S' := s₁.setTop (mkF m 12 #[.val (.ref ca), .val (.int (0 : Int32)), .val (.ref bb), .val (.int (0 : Int32)), .val (.int (1 : Int32)), .val (.int (0 : Int32)), .unset] [(.int (0 : Int32)), (.ref ca)])) (fun tz kz => ?_) ?_
  · show Steps p.tables e below (s₁.setTop (mkF m 0 #[.val (.ref ca), .val (.int (0 : Int32)), .val (.ref bb), .val (.int (0 : Int32)), .val (.int (1 : Int32)), .unset, .unset] [])) _
    refine XS.iconst X0.here hx rfl (hb hby d10_0) ?_
    refine XS.istore X0.here hx rfl (hb hby d10_1) rfl (l' := #[.val (.ref ca), .val (.int (0 : Int32)), .val (.ref bb), .val (.int (0 : Int32)), .val (.int (1 : Int32)), .val (.int (0 : Int32)), .unset]) rfl ?_
    refine XS.iload X0.here hx rfl (hb hby d10_3) rfl ?_
    refine XS.iload X0.here hx rfl (hb hby d10_5) rfl ?_
    show Steps p.tables e below (s₁.setTop (mkF m 7 #[.val (.ref ca), .val (.int (0 : Int32)), .val (.ref bb), .val (.int (0 : Int32)), .val (.int (1 : Int32)), .val (.int (0 : Int32)), .unset] [(.int (1 : Int32)), (.int (0 : Int32))])) _
    refine XS.icmpNo X0.here hx rfl (hb hby d10_7) rfl (tlt (by first | decide | rfl)).2.1 ?_
    refine XS.aloadN X0.here hx rfl (hb hby d10_10) rfl rfl ?_
    refine XS.iloadN X0.here hx rfl (hb hby d10_11) rfl ?_
    exact kz
  obtain ⟨cl1, Ar1, q1, Sz1, Nn1, Hs1, G1⟩ := (id C0)
  refine Goes.via (S' := s₁.setTop (mkF m 20 #[.val (.ref ca), .val (.int (0 : Int32)), .val (.ref bb), .val (.int (0 : Int32)), .val (.int (1 : Int32)), .val (.int (0 : Int32)), .val (.int c0)] [(.int (255 : Int32)), (.int c0)])) (fun tz kz => ?_) ?_
  · show Steps p.tables e below (s₁.setTop (mkF m 12 #[.val (.ref ca), .val (.int (0 : Int32)), .val (.ref bb), .val (.int (0 : Int32)), .val (.int (1 : Int32)), .val (.int (0 : Int32)), .unset] [(.int (0 : Int32)), (.ref ca)])) _
    refine X0.caload hx (j := (0 : Int32)) (v := (.int c0)) (by rw [e0]; exact Ar1.1) (State.isArrayOf_alike hZ.alike Ar1.2.1) Ar1.2.2 (inb_of Sz1 ⟨by decide, by decide⟩) (Has.at Hs1 (inb_of Sz1 ⟨by decide, by decide⟩) rfl) (g := (mkF m 12 #[.val (.ref ca), .val (.int (0 : Int32)), .val (.ref bb), .val (.int (0 : Int32)), .val (.int (1 : Int32)), .val (.int (0 : Int32)), .unset] [(.int (0 : Int32)), (.ref ca)])) rfl rfl (hb hby d10_12) _ ?_
    refine XS.istore X0.here hx rfl (hb hby d10_13) rfl (l' := #[.val (.ref ca), .val (.int (0 : Int32)), .val (.ref bb), .val (.int (0 : Int32)), .val (.int (1 : Int32)), .val (.int (0 : Int32)), .val (.int c0)]) rfl ?_
    refine XS.iload X0.here hx rfl (hb hby d10_15) rfl ?_
    refine XS.sipush X0.here hx rfl (hb hby d10_17) ?_
    exact kz
  by_cases hc20_2 : (255 : Int32) < c0
  · refine Goes.via (S' := s₁.setTop (mkF m 25 #[.val (.ref ca), .val (.int (0 : Int32)), .val (.ref bb), .val (.int (0 : Int32)), .val (.int (1 : Int32)), .val (.int (0 : Int32)), .val (.int c0)] [(.int (0 : Int32))])) (fun tz kz => ?_) ?_
    · show Steps p.tables e below (s₁.setTop (mkF m 20 #[.val (.ref ca), .val (.int (0 : Int32)), .val (.ref bb), .val (.int (0 : Int32)), .val (.int (1 : Int32)), .val (.int (0 : Int32)), .val (.int c0)] [(.int (255 : Int32)), (.int c0)])) _
      refine XS.icmpNo X0.here hx rfl (hb hby d10_20) rfl (tlt hc20_2).2.2.2 ?_
      refine XS.iload X0.here hx rfl (hb hby d10_23) rfl ?_
      exact kz
    exact Goes.retI X0 hx Bd.notSynchronized Bd.returns (hb hby d10_25) (Nat.le_of_ble_eq_true rfl) (Nat.le_of_ble_eq_true rfl) (by rw [e0]; exact ⟨(0 : Int32), rfl, N0, Keep.refl h0 [bb], Or.inr ⟨(0 : Int32), (1 : Int32), c0, by decide, rfl, rfl, ⟨by decide, by decide⟩, ⟨by decide, by decide⟩, rfl, rfl, z0, hc20_2⟩⟩)
  · refine Goes.via (S' := s₁.setTop (mkF m 31 #[.val (.ref ca), .val (.int (0 : Int32)), .val (.ref bb), .val (.int (0 : Int32)), .val (.int (1 : Int32)), .val (.int (0 : Int32)), .val (.int c0)] [(.int (c0.toInt8.toInt32)), (.int (0 : Int32)), (.ref bb)])) (fun tz kz => ?_) ?_
    · show Steps p.tables e below (s₁.setTop (mkF m 20 #[.val (.ref ca), .val (.int (0 : Int32)), .val (.ref bb), .val (.int (0 : Int32)), .val (.int (1 : Int32)), .val (.int (0 : Int32)), .val (.int c0)] [(.int (255 : Int32)), (.int c0)])) _
      refine XS.icmpYes X0.here hx rfl (pc0 := 20) (pc' := 26) rfl (hb hby d10_20) rfl (flt hc20_2).2.2.2 (by decide) (by decide) ?_
      refine XS.aloadN X0.here hx rfl (hb hby d10_26) rfl rfl ?_
      refine XS.iloadN X0.here hx rfl (hb hby d10_27) rfl ?_
      refine XS.iload X0.here hx rfl (hb hby d10_28) rfl ?_
      show Steps p.tables e below (s₁.setTop (mkF m 30 #[.val (.ref ca), .val (.int (0 : Int32)), .val (.ref bb), .val (.int (0 : Int32)), .val (.int (1 : Int32)), .val (.int (0 : Int32)), .val (.int c0)] [(.int c0), (.int (0 : Int32)), (.ref bb)])) _
      refine XS.i2b X0.here hx rfl (hb hby d10_30) rfl ?_
      exact kz
    obtain ⟨cl3, Ar3, q3, Sz3, Nn3, Hs3, G3⟩ := (id B0)
    obtain ⟨T4, h4, X4, e4, W4, st4⟩ := stB X0 hx hZ e0 Ar3 (j := (0 : Int32)) (inb_of Sz3 ⟨by decide, by decide⟩) (g := (mkF m 31 #[.val (.ref ca), .val (.int (0 : Int32)), .val (.ref bb), .val (.int (0 : Int32)), .val (.int (1 : Int32)), .val (.int (0 : Int32)), .val (.int c0)] [(.int (c0.toInt8.toInt32)), (.int (0 : Int32)), (.ref bb)])) rfl rfl (hb hby d10_31)
    refine Goes.via (S' := T4.setTop (mkF m 32 #[.val (.ref ca), .val (.int (0 : Int32)), .val (.ref bb), .val (.int (0 : Int32)), .val (.int (1 : Int32)), .val (.int (0 : Int32)), .val (.int c0)] [])) st4 ?_
    have N4 := Fr.snoc X4 N0 gb
    have C4 := (C0).other W4 nab
    have A4 := Arv.set Ar3 q3 Sz3 Nn3 Hs3 G3 (fits_nar_byte _) W4 0 rfl (Nat.le_of_ble_eq_true rfl)
    have K4 := (Keep.refl h0 [bb]).wr W4 (Or.inl (List.mem_singleton.mpr rfl))
    refine Goes.via (S' := T4.setTop (mkF m 46 #[.val (.ref ca), .val (.int (1 : Int32)), .val (.ref bb), .val (.int (1 : Int32)), .val (.int (1 : Int32)), .val (.int (1 : Int32)), .val (.int c0)] [(.int (1 : Int32))])) (fun tz kz => ?_) ?_
    · show Steps p.tables e below (T4.setTop (mkF m 32 #[.val (.ref ca), .val (.int (0 : Int32)), .val (.ref bb), .val (.int (0 : Int32)), .val (.int (1 : Int32)), .val (.int (0 : Int32)), .val (.int c0)] [])) _
      refine XS.iinc X4.here hx rfl (hb hby d10_32) rfl (l' := #[.val (.ref ca), .val (.int (1 : Int32)), .val (.ref bb), .val (.int (0 : Int32)), .val (.int (1 : Int32)), .val (.int (0 : Int32)), .val (.int c0)]) rfl ?_
      refine XS.iinc X4.here hx rfl (hb hby d10_35) rfl (l' := #[.val (.ref ca), .val (.int (1 : Int32)), .val (.ref bb), .val (.int (1 : Int32)), .val (.int (1 : Int32)), .val (.int (0 : Int32)), .val (.int c0)]) rfl ?_
      refine XS.iinc X4.here hx rfl (hb hby d10_38) rfl (l' := #[.val (.ref ca), .val (.int (1 : Int32)), .val (.ref bb), .val (.int (1 : Int32)), .val (.int (1 : Int32)), .val (.int (1 : Int32)), .val (.int c0)]) rfl ?_
      refine XS.goto X4.here hx rfl (pc0 := 41) (pc' := 3) rfl (hb hby d10_41) (by decide) (by decide) ?_
      show Steps p.tables e below (T4.setTop (mkF m 3 #[.val (.ref ca), .val (.int (1 : Int32)), .val (.ref bb), .val (.int (1 : Int32)), .val (.int (1 : Int32)), .val (.int (1 : Int32)), .val (.int c0)] [])) _
      refine XS.iload X4.here hx rfl (hb hby d10_3) rfl ?_
      refine XS.iload X4.here hx rfl (hb hby d10_5) rfl ?_
      refine XS.icmpYes X4.here hx rfl (pc0 := 7) (pc' := 44) rfl (hb hby d10_7) rfl (flt (by first | decide | rfl)).2.1 (by decide) (by decide) ?_
      refine XS.iload X4.here hx rfl (hb hby d10_44) rfl ?_
      exact kz
    exact Goes.retI X4 hx Bd.notSynchronized Bd.returns (hb hby d10_46) (Nat.le_of_ble_eq_true rfl) (Nat.le_of_ble_eq_true rfl) (by rw [e4]; exact ⟨(1 : Int32), rfl, N4, K4, Or.inl ⟨rfl, hc20_2, A4⟩⟩)
theorem d9_0 : decode jdk_52_method_16_code 0 = .ok (.iload_n 2, 1) := by decide +kernel
theorem d9_1 : decode jdk_52_method_16_code 1 = .ok (.newarray .byte, 2) := by decide +kernel
theorem d9_3 : decode jdk_52_method_16_code 3 = .ok (.astore_n 3, 1) := by decide +kernel
theorem d9_4 : decode jdk_52_method_16_code 4 = .ok (.aload_n 0, 1) := by decide +kernel
theorem d9_5 : decode jdk_52_method_16_code 5 = .ok (.iload_n 1, 1) := by decide +kernel
theorem d9_6 : decode jdk_52_method_16_code 6 = .ok (.aload_n 3, 1) := by decide +kernel
theorem d9_7 : decode jdk_52_method_16_code 7 = .ok (.iconst 0, 1) := by decide +kernel
theorem d9_8 : decode jdk_52_method_16_code 8 = .ok (.iload_n 2, 1) := by decide +kernel
theorem d9_9 : decode jdk_52_method_16_code 9 = .ok (.invokestatic 115, 3) := by decide +kernel
theorem d9_12 : decode jdk_52_method_16_code 12 = .ok (.istore 4, 2) := by decide +kernel
theorem d9_14 : decode jdk_52_method_16_code 14 = .ok (.iload 4, 2) := by decide +kernel
theorem d9_16 : decode jdk_52_method_16_code 16 = .ok (.iload_n 2, 1) := by decide +kernel
theorem d9_17 : decode jdk_52_method_16_code 17 = .ok (.if_icmp .eq 40, 3) := by decide +kernel
theorem d9_20 : decode jdk_52_method_16_code 20 = .ok (.aload_n 0, 1) := by decide +kernel
theorem d9_21 : decode jdk_52_method_16_code 21 = .ok (.iload_n 1, 1) := by decide +kernel
theorem d9_22 : decode jdk_52_method_16_code 22 = .ok (.iload_n 2, 1) := by decide +kernel
theorem d9_23 : decode jdk_52_method_16_code 23 = .ok (.invokestatic 119, 3) := by decide +kernel
theorem d9_26 : decode jdk_52_method_16_code 26 = .ok (.astore 5, 2) := by decide +kernel
theorem d9_28 : decode jdk_52_method_16_code 28 = .ok (.aload 5, 2) := by decide +kernel
theorem d9_30 : decode jdk_52_method_16_code 30 = .ok (.iload 4, 2) := by decide +kernel
theorem d9_32 : decode jdk_52_method_16_code 32 = .ok (.invokestatic 71, 3) := by decide +kernel
theorem d9_35 : decode jdk_52_method_16_code 35 = .ok (.sipush 255, 3) := by decide +kernel
theorem d9_38 : decode jdk_52_method_16_code 38 = .ok (.if_icmp .gt 16, 3) := by decide +kernel
theorem d9_54 : decode jdk_52_method_16_code 54 = .ok (.aload 5, 2) := by decide +kernel
theorem d9_56 : decode jdk_52_method_16_code 56 = .ok (.areturn, 1) := by decide +kernel
theorem d9_57 : decode jdk_52_method_16_code 57 = .ok (.aload_n 3, 1) := by decide +kernel
theorem d9_58 : decode jdk_52_method_16_code 58 = .ok (.areturn, 1) := by decide +kernel
theorem pn_9 : plainName "java/lang/StringUTF16" = true := by first | (simp [plainName, overriddenIn]; done) | decide +kernel
theorem ef_9 (m : MethodId) (x0 : Addr) (x1 : Int32) (x2 : Int32) : entryFrame m #[(.ref x0), (.int x1), (.int x2)] 6 = mkF m 0 #[.val (.ref x0), .val (.int x1), .val (.int x2), .unset, .unset, .unset] [] := by first | (simp [entryFrame, mkF, argsToLocals, Value.category]; done) | rfl
def Q_rc3_1 (Z : State) (ca : Addr) (ka : ClassId) (c0 : Int32) (h0 : Heap) (n0 : Nat) : Option Value → Heap → List Loc → Prop := fun v h L => ∃ b k, v = some (.ref b) ∧ Fr n0 L ∧ Keep h0 h [] ∧ @LE.le Nat _ h0.size b ∧ (((¬ (255 : Int32) < c0) ∧ Arv Z h b k .byte (1 : Int32) [.int (own_by c0)] (.int 0)) ∨ Arv Z h b k .byte (2 : Int32) [.int (own_lo c0), .int (own_hi c0)] (.int 0))
set_option maxRecDepth 65536 in
set_option maxHeartbeats 40000000 in
theorem rc3_1 (l : Launch) (Z : State) (a0 : Array Value) (hw : ∀ d ∈ tables_1, d.before a0 Z = true) (ws : List Jvm.Cond) (ca : Addr) (ka : ClassId) (c0 : Int32) (h0 : Heap) (n0 : Nat) (Z0 : n0 ≤ h0.size) (SA : Sta Z Z.heap "java/lang/StringUTF16" "$assertionsDisabled" "Z" (.int (1 : Int32))) (SH : Sta Z Z.heap "java/lang/StringUTF16" "HI_BYTE_SHIFT" "I" (.int (0 : Int32))) (SL : Sta Z Z.heap "java/lang/StringUTF16" "LO_BYTE_SHIFT" "I" (.int (8 : Int32))) (O0 : Old Z n0 h0) (C0 : Arv Z h0 ca ka .char (1 : Int32) [.int c0] (.int 0)) (z0 : nar .char c0 = c0) :
    own_M l Z (⟨"java/lang/StringUTF16", "compress", "([CII)[B"⟩ : MethodName) (Jvm.Cond.code (⟨"java/lang/StringUTF16", "compress", "([CII)[B"⟩ : MethodName) jdk_52_method_16_code 6 (some (.array .byte))) ws ({ frames := 3, cells := 2, slots := 3, locals := 60 } : Room) #[(.ref ca), (.int (0 : Int32)), (.int (1 : Int32))] h0 (Q_rc3_1 Z ca ka c0 h0 n0) := by
  refine MetFree.of_bodySF (plainFor_of_name pn_9) hisR ?_
  intro p e s m args below meth c s₁ Bd hml0 hP hK
  obtain ⟨rfl, hZ, hh⟩ := hP
  have hx := Bd.exec
  have hby := Bd.bytes
  have hml : c.maxLocals = 6 := hml0
  have hown : s.vm.findClass "java/lang/StringUTF16" = some m.cls := findClass_of_methodNamed Bd.named
  have hnm := (name_of_methodNamed Bd.named Bd.method).1
  have X0 : Stand p l e ({ frames := 3, cells := 2, slots := 3, locals := 60 } : Room) s m #[(.ref ca), (.int (0 : Int32)), (.int (1 : Int32))] below meth c s₁ [] 0 0 := Stand.of_body Bd
  have e0 : s₁.heap = h0 := by rw [← hh, Bd.state]; rfl
  have N0 := Fr.nil n0
  show Goes p e below (Fin s (Q_rc3_1 Z ca ka c0 h0 n0) ({ frames := 3, cells := 2, slots := 3, locals := 60 } : Room).cells ({ frames := 3, cells := 2, slots := 3, locals := 60 } : Room).slots) _
  refine Goes.via (S' := s₁.setTop (mkF m 0 #[.val (.ref ca), .val (.int (0 : Int32)), .val (.int (1 : Int32)), .unset, .unset, .unset] [])) (fun tz kz => castTop (ef_9 m ca (0 : Int32) (1 : Int32) ) kz) ?_
  refine Goes.via (S' := s₁.setTop (mkF m 1 #[.val (.ref ca), .val (.int (0 : Int32)), .val (.int (1 : Int32)), .unset, .unset, .unset] [(.int (1 : Int32))])) (fun tz kz => ?_) ?_
  · show Steps p.tables e below (s₁.setTop (mkF m 0 #[.val (.ref ca), .val (.int (0 : Int32)), .val (.int (1 : Int32)), .unset, .unset, .unset] [])) _
    refine XS.iloadN X0.here hx rfl (hb hby d9_0) rfl ?_
    exact kz
  obtain ⟨T1, h1, k1, X1, e1, E1, A1, st1⟩ := newP X0 hx hZ (w_ hw 16 rfl) e0 (g := (mkF m 1 #[.val (.ref ca), .val (.int (0 : Int32)), .val (.int (1 : Int32)), .unset, .unset, .unset] [(.int (1 : Int32))])) rfl (hb hby d9_1) rfl (by decide) (cap := 1) (by decide) (by decide) (by decide) (by decide)
  obtain ⟨b1, g1⟩ : ∃ z, z = h0.size := ⟨_, rfl⟩
  rw [← g1] at A1 st1
  refine Goes.via (S' := T1.setTop (mkF m 3 #[.val (.ref ca), .val (.int (0 : Int32)), .val (.int (1 : Int32)), .unset, .unset, .unset] [(.ref b1)])) st1 ?_
  have B1 : Arv Z h1 b1 k1 .byte (1 : Int32) [.int 0] (.int 0) := (Arv.new A1 (by decide)).pad (pad_rep [] (.int 0) 1)
  have nab : ca ≠ b1 := adr_ne C0.lt g1 (Nat.le_refl _)
  have gb : n0 ≤ b1 := Nat.le_trans Z0 (Nat.le_of_eq g1.symm)
  refine Goes.via (S' := T1.setTop (mkF m 9 #[.val (.ref ca), .val (.int (0 : Int32)), .val (.int (1 : Int32)), .val (.ref b1), .unset, .unset] [(.int (1 : Int32)), (.int (0 : Int32)), (.ref b1), (.int (0 : Int32)), (.ref ca)])) (fun tz kz => ?_) ?_
  · show Steps p.tables e below (T1.setTop (mkF m 3 #[.val (.ref ca), .val (.int (0 : Int32)), .val (.int (1 : Int32)), .unset, .unset, .unset] [(.ref b1)])) _
    refine XS.astoreN X1.here hx rfl (hb hby d9_3) rfl rfl (l' := #[.val (.ref ca), .val (.int (0 : Int32)), .val (.int (1 : Int32)), .val (.ref b1), .unset, .unset]) rfl ?_
    refine XS.aloadN X1.here hx rfl (hb hby d9_4) rfl rfl ?_
    refine XS.iloadN X1.here hx rfl (hb hby d9_5) rfl ?_
    refine XS.aloadN X1.here hx rfl (hb hby d9_6) rfl rfl ?_
    show Steps p.tables e below (T1.setTop (mkF m 7 #[.val (.ref ca), .val (.int (0 : Int32)), .val (.int (1 : Int32)), .val (.ref b1), .unset, .unset] [(.ref b1), (.int (0 : Int32)), (.ref ca)])) _
    refine XS.iconst X1.here hx rfl (hb hby d9_7) ?_
    refine XS.iloadN X1.here hx rfl (hb hby d9_8) rfl ?_
    exact kz
  obtain ⟨_, _, ⟨T2, L2, k2, n2⟩, -, X2, ⟨Lc2, hQ2, l2, y2, z2⟩, st2⟩ := Jvm.LawKit.callS X1 hx (y := (⟨"java/lang/StringUTF16", "compress", "([CI[BII)I"⟩ : MethodName)) hown (mvT hZ (w_ hw 52 rfl)) (mvT hZ (w_ hw 53 rfl)) (mvT hZ (w_ hw 50 rfl)) (mvT hZ (w_ hw 54 rfl)) (by decide) (backOf (W := 0) (rc5_1 l Z a0 hw [] ca b1 ka k1 c0 h1 n0 (Nat.le_trans Z0 E1.1) (C0.ext E1) B1 gb nab z0) hZ (w_ hw 54 rfl) (w_ hw 50 rfl) (by decide) (by decide)) (g := (mkF m 9 #[.val (.ref ca), .val (.int (0 : Int32)), .val (.int (1 : Int32)), .val (.ref b1), .unset, .unset] [(.int (1 : Int32)), (.int (0 : Int32)), (.ref b1), (.int (0 : Int32)), (.ref ca)])) rfl (by rw [hml]; rfl) (argsL := [(.ref ca), (.int (0 : Int32)), (.ref b1), (.int (0 : Int32)), (.int (1 : Int32))]) (rest := []) (lenOf pd_4 rfl) rfl (by show 2 * 0 + _ ≤ _; exact Nat.le_of_eq rfl) (hb hby d9_9) (fun _ _ => ⟨rfl, e1, (by decide : 1 + 0 ≤ _), (by decide : 1 + 0 ≤ _)⟩)
  dsimp only [Pt.U, Pt.locs, Pt.cells, Pt.slots] at X2 l2 y2 z2 st2 hQ2
  subst l2 y2 z2
  obtain ⟨j5, rfl, N2, K2, Dj⟩ := hQ2
  have Nf2 := Fr.app N0 N2
  refine Goes.via (S' := T2.setTop (mkF m 12 #[.val (.ref ca), .val (.int (0 : Int32)), .val (.int (1 : Int32)), .val (.ref b1), .unset, .unset] [(.int j5)])) (st2) ?_
  have Ka := ((Keep.refl h0 []).ext E1).trans K2 (allS (Or.inr (Nat.le_of_eq g1.symm)) all0)
  have Ca := (C0.ext E1).keep K2 (fun q => nab (List.mem_singleton.mp q))
  have Oa := O0.keep Ka all0
  have Za := Nat.le_trans Z0 Ka.1
  rcases Dj with ⟨hj, s0, BL⟩ | ⟨j0, j1, xx, hjn, hj0, hj1, q0, q1, g0, g1, zx, gx⟩
  · subst hj
    refine Goes.via (S' := T2.setTop (mkF m 58 #[.val (.ref ca), .val (.int (0 : Int32)), .val (.int (1 : Int32)), .val (.ref b1), .val (.int (1 : Int32)), .unset] [(.ref b1)])) (fun tz kz => ?_) ?_
    · show Steps p.tables e below (T2.setTop (mkF m 12 #[.val (.ref ca), .val (.int (0 : Int32)), .val (.int (1 : Int32)), .val (.ref b1), .unset, .unset] [(.int (1 : Int32))])) _
      refine XS.istore X2.here hx rfl (hb hby d9_12) rfl (l' := #[.val (.ref ca), .val (.int (0 : Int32)), .val (.int (1 : Int32)), .val (.ref b1), .val (.int (1 : Int32)), .unset]) rfl ?_
      refine XS.iload X2.here hx rfl (hb hby d9_14) rfl ?_
      refine XS.iloadN X2.here hx rfl (hb hby d9_16) rfl ?_
      refine XS.icmpYes X2.here hx rfl (pc0 := 17) (pc' := 57) rfl (hb hby d9_17) rfl (teq (by first | decide | rfl)).1 (by decide) (by decide) ?_
      show Steps p.tables e below (T2.setTop (mkF m 57 #[.val (.ref ca), .val (.int (0 : Int32)), .val (.int (1 : Int32)), .val (.ref b1), .val (.int (1 : Int32)), .unset] [])) _
      refine XS.aloadN X2.here hx rfl (hb hby d9_57) rfl rfl ?_
      exact kz
    exact Goes.retO X2 hx Bd.notSynchronized Bd.returns rfl (Or.inr (Or.inr (Or.inr (Or.inr ⟨rfl, rfl, rfl⟩)))) (hb hby d9_58) (Nat.le_of_ble_eq_true rfl) (Nat.le_of_ble_eq_true rfl) ⟨b1, k1, rfl, Nf2, Ka, Nat.le_of_eq g1.symm, Or.inl ⟨s0, BL⟩⟩
  · skip
    refine Goes.via (S' := T2.setTop (mkF m 23 #[.val (.ref ca), .val (.int (0 : Int32)), .val (.int (1 : Int32)), .val (.ref b1), .val (.int j5), .unset] [(.int (1 : Int32)), (.int (0 : Int32)), (.ref ca)])) (fun tz kz => ?_) ?_
    · show Steps p.tables e below (T2.setTop (mkF m 12 #[.val (.ref ca), .val (.int (0 : Int32)), .val (.int (1 : Int32)), .val (.ref b1), .unset, .unset] [(.int j5)])) _
      refine XS.istore X2.here hx rfl (hb hby d9_12) rfl (l' := #[.val (.ref ca), .val (.int (0 : Int32)), .val (.int (1 : Int32)), .val (.ref b1), .val (.int j5), .unset]) rfl ?_
      refine XS.iload X2.here hx rfl (hb hby d9_14) rfl ?_
      refine XS.iloadN X2.here hx rfl (hb hby d9_16) rfl ?_
      refine XS.icmpNo X2.here hx rfl (hb hby d9_17) rfl (feq hjn).1 ?_
      show Steps p.tables e below (T2.setTop (mkF m 20 #[.val (.ref ca), .val (.int (0 : Int32)), .val (.int (1 : Int32)), .val (.ref b1), .val (.int j5), .unset] [])) _
      refine XS.aloadN X2.here hx rfl (hb hby d9_20) rfl rfl ?_
      refine XS.iloadN X2.here hx rfl (hb hby d9_21) rfl ?_
      refine XS.iloadN X2.here hx rfl (hb hby d9_22) rfl ?_
      exact kz
    obtain ⟨_, _, ⟨T3, L3, k3, n3⟩, -, X3, ⟨Lc3, hQ3, l3, y3, z3⟩, st3⟩ := Jvm.LawKit.callS X2 hx (y := (⟨"java/lang/StringUTF16", "toBytes", "([CII)[B"⟩ : MethodName)) hown (mvT hZ (w_ hw 112 rfl)) (mvT hZ (w_ hw 113 rfl)) (mvT hZ (w_ hw 50 rfl)) (mvT hZ (w_ hw 114 rfl)) (by decide) (backOf (W := 0) (rtb_1 l Z a0 hw [] ca ka c0 T2.heap n0 Za SA SH SL Oa Ca) hZ (w_ hw 114 rfl) (w_ hw 50 rfl) (by decide) (by decide)) (g := (mkF m 23 #[.val (.ref ca), .val (.int (0 : Int32)), .val (.int (1 : Int32)), .val (.ref b1), .val (.int j5), .unset] [(.int (1 : Int32)), (.int (0 : Int32)), (.ref ca)])) rfl (by rw [hml]; rfl) (argsL := [(.ref ca), (.int (0 : Int32)), (.int (1 : Int32))]) (rest := []) (lenOf pd_5 rfl) rfl (by show 2 * 0 + _ ≤ _; exact Nat.le_of_eq rfl) (hb hby d9_23) (fun _ _ => ⟨rfl, rfl, (by decide : 1 + 1 ≤ _), (by decide : 1 + 2 ≤ _)⟩)
    dsimp only [Pt.U, Pt.locs, Pt.cells, Pt.slots] at X3 l3 y3 z3 st3 hQ3
    subst l3 y3 z3
    obtain ⟨ub, uk, rfl, N3, K3, B3, gu⟩ := hQ3
    have Nf3 := Fr.app Nf2 N3
    refine Goes.via (S' := T3.setTop (mkF m 26 #[.val (.ref ca), .val (.int (0 : Int32)), .val (.int (1 : Int32)), .val (.ref b1), .val (.int j5), .unset] [(.ref ub)])) (st3) ?_
    have Kb := Ka.trans K3 all0
    have Ob := O0.keep Kb all0
    have Zb := Nat.le_trans Z0 Kb.1
    have gh : @LE.le Nat _ h0.size ub := Nat.le_trans Ka.1 gu
    refine Goes.via (S' := T3.setTop (mkF m 32 #[.val (.ref ca), .val (.int (0 : Int32)), .val (.int (1 : Int32)), .val (.ref b1), .val (.int j5), .val (.ref ub)] [(.int j5), (.ref ub)])) (fun tz kz => ?_) ?_
    · show Steps p.tables e below (T3.setTop (mkF m 26 #[.val (.ref ca), .val (.int (0 : Int32)), .val (.int (1 : Int32)), .val (.ref b1), .val (.int j5), .unset] [(.ref ub)])) _
      refine XS.astore X3.here hx rfl (hb hby d9_26) rfl rfl (l' := #[.val (.ref ca), .val (.int (0 : Int32)), .val (.int (1 : Int32)), .val (.ref b1), .val (.int j5), .val (.ref ub)]) rfl ?_
      refine XS.aload X3.here hx rfl (hb hby d9_28) rfl rfl ?_
      refine XS.iload X3.here hx rfl (hb hby d9_30) rfl ?_
      exact kz
    obtain ⟨_, _, ⟨T4, L4, k4, n4⟩, -, X4, ⟨Lc4, hQ4, l4, y4, z4⟩, st4⟩ := Jvm.LawKit.callS X3 hx (y := (⟨"java/lang/StringUTF16", "getChar", "([BI)C"⟩ : MethodName)) hown (mvT hZ (w_ hw 128 rfl)) (mvT hZ (w_ hw 129 rfl)) (mvT hZ (w_ hw 50 rfl)) (mvT hZ (w_ hw 130 rfl)) (by decide) (backOf (W := 0) (rgc l Z a0 hw [] ub j5 uk (2 : Int32) j0 j1 xx _ T3.heap n0 Zb SA SH SL Ob B3 hj0 hj1 q0 q1 g0 g1 zx) hZ (w_ hw 130 rfl) (w_ hw 50 rfl) (by decide) (by decide)) (g := (mkF m 32 #[.val (.ref ca), .val (.int (0 : Int32)), .val (.int (1 : Int32)), .val (.ref b1), .val (.int j5), .val (.ref ub)] [(.int j5), (.ref ub)])) rfl (by rw [hml]; rfl) (argsL := [(.ref ub), (.int j5)]) (rest := []) (lenOf pd_6 rfl) rfl (by show 2 * 0 + _ ≤ _; exact Nat.le_of_eq rfl) (hb hby d9_32) (fun _ _ => ⟨rfl, rfl, (by decide : 2 + 0 ≤ _), (by decide : 3 + 0 ≤ _)⟩)
    dsimp only [Pt.U, Pt.locs, Pt.cells, Pt.slots] at X4 l4 y4 z4 st4 hQ4
    subst l4 y4 z4
    obtain ⟨rfl, N4, e4⟩ := hQ4
    have Nf4 := Fr.app Nf3 N4
    refine Goes.via (S' := T4.setTop (mkF m 35 #[.val (.ref ca), .val (.int (0 : Int32)), .val (.int (1 : Int32)), .val (.ref b1), .val (.int j5), .val (.ref ub)] [(.int xx)])) (st4) ?_
    refine Goes.via (S' := T4.setTop (mkF m 56 #[.val (.ref ca), .val (.int (0 : Int32)), .val (.int (1 : Int32)), .val (.ref b1), .val (.int j5), .val (.ref ub)] [(.ref ub)])) (fun tz kz => ?_) ?_
    · show Steps p.tables e below (T4.setTop (mkF m 35 #[.val (.ref ca), .val (.int (0 : Int32)), .val (.int (1 : Int32)), .val (.ref b1), .val (.int j5), .val (.ref ub)] [(.int xx)])) _
      refine XS.sipush X4.here hx rfl (hb hby d9_35) ?_
      refine XS.icmpYes X4.here hx rfl (pc0 := 38) (pc' := 54) rfl (hb hby d9_38) rfl (tlt gx).2.2.1 (by decide) (by decide) ?_
      refine XS.aload X4.here hx rfl (hb hby d9_54) rfl rfl ?_
      exact kz
    exact Goes.retO X4 hx Bd.notSynchronized Bd.returns rfl (Or.inr (Or.inr (Or.inr (Or.inr ⟨rfl, rfl, rfl⟩)))) (hb hby d9_56) (Nat.le_of_ble_eq_true rfl) (Nat.le_of_ble_eq_true rfl) (by rw [e4]; exact ⟨ub, uk, rfl, Nf4, Kb, gh, Or.inr B3⟩)
theorem d11_0 : decode jdk_52_method_15_code 0 = .ok (.iload_n 1, 1) := by decide +kernel
theorem d11_1 : decode jdk_52_method_15_code 1 = .ok (.aload_n 0, 1) := by decide +kernel
theorem d11_2 : decode jdk_52_method_15_code 2 = .ok (.arraylength, 1) := by decide +kernel
theorem d11_3 : decode jdk_52_method_15_code 3 = .ok (.isub, 1) := by decide +kernel
theorem d11_4 : decode jdk_52_method_15_code 4 = .ok (.bipush 31, 2) := by decide +kernel
theorem d11_6 : decode jdk_52_method_15_code 6 = .ok (.iushr, 1) := by decide +kernel
theorem d11_7 : decode jdk_52_method_15_code 7 = .ok (.i2b, 1) := by decide +kernel
theorem d11_8 : decode jdk_52_method_15_code 8 = .ok (.ireturn, 1) := by decide +kernel
theorem pn_11 : plainName "java/lang/StringUTF16" = true := by first | (simp [plainName, overriddenIn]; done) | decide +kernel
theorem ef_11 (m : MethodId) (x0 : Addr) (x1 : Int32) : entryFrame m #[(.ref x0), (.int x1)] 2 = mkF m 0 #[.val (.ref x0), .val (.int x1)] [] := by first | (simp [entryFrame, mkF, argsToLocals, Value.category]; done) | rfl
def Q_rcc_11 (Z : State) (bb : Addr) (k : ClassId) (vs : List Value) (h0 : Heap) (n0 : Nat) : Option Value → Heap → List Loc → Prop := fun v h L => v = some (.int 0) ∧ Fr n0 L ∧ h = h0
set_option maxRecDepth 65536 in
set_option maxHeartbeats 40000000 in
theorem rcc_11 (l : Launch) (Z : State) (a0 : Array Value) (hw : ∀ d ∈ tables_1, d.before a0 Z = true) (ws : List Jvm.Cond) (bb : Addr) (k : ClassId) (vs : List Value) (h0 : Heap) (n0 : Nat) (Z0 : n0 ≤ h0.size) (B0 : Arv Z h0 bb k .byte (1 : Int32) vs (.int 0)) :
    own_M l Z (⟨"java/lang/StringUTF16", "coderFromArrayLen", "([BI)B"⟩ : MethodName) (Jvm.Cond.code (⟨"java/lang/StringUTF16", "coderFromArrayLen", "([BI)B"⟩ : MethodName) jdk_52_method_15_code 2 (some .byte)) ws ({ frames := 0, cells := 0, slots := 0, locals := 0 } : Room) #[(.ref bb), (.int (1 : Int32))] h0 (Q_rcc_11 Z bb k vs h0 n0) := by
  refine MetFree.of_bodySF (plainFor_of_name pn_11) hisR ?_
  intro p e s m args below meth c s₁ Bd hml0 hP hK
  obtain ⟨rfl, hZ, hh⟩ := hP
  have hx := Bd.exec
  have hby := Bd.bytes
  have hml : c.maxLocals = 2 := hml0
  have hown : s.vm.findClass "java/lang/StringUTF16" = some m.cls := findClass_of_methodNamed Bd.named
  have hnm := (name_of_methodNamed Bd.named Bd.method).1
  have X0 : Stand p l e ({ frames := 0, cells := 0, slots := 0, locals := 0 } : Room) s m #[(.ref bb), (.int (1 : Int32))] below meth c s₁ [] 0 0 := Stand.of_body Bd
  have e0 : s₁.heap = h0 := by rw [← hh, Bd.state]; rfl
  have N0 := Fr.nil n0
  show Goes p e below (Fin s (Q_rcc_11 Z bb k vs h0 n0) ({ frames := 0, cells := 0, slots := 0, locals := 0 } : Room).cells ({ frames := 0, cells := 0, slots := 0, locals := 0 } : Room).slots) _
  refine Goes.via (S' := s₁.setTop (mkF m 0 #[.val (.ref bb), .val (.int (1 : Int32))] [])) (fun tz kz => castTop (ef_11 m bb (1 : Int32) ) kz) ?_
  refine Goes.via (S' := s₁.setTop (mkF m 2 #[.val (.ref bb), .val (.int (1 : Int32))] [(.ref bb), (.int (1 : Int32))])) (fun tz kz => ?_) ?_
  · show Steps p.tables e below (s₁.setTop (mkF m 0 #[.val (.ref bb), .val (.int (1 : Int32))] [])) _
    refine XS.iloadN X0.here hx rfl (hb hby d11_0) rfl ?_
    refine XS.aloadN X0.here hx rfl (hb hby d11_1) rfl rfl ?_
    exact kz
  obtain ⟨cl1, Ar1, q1, Sz1, Nn1, Hs1, G1⟩ := (id B0)
  refine Goes.via (S' := s₁.setTop (mkF m 8 #[.val (.ref bb), .val (.int (1 : Int32))] [(.int ((((0 : Int32).toUInt32 >>> ((31 : Int32) &&& 31).toUInt32).toInt32).toInt8.toInt32))])) (fun tz kz => ?_) ?_
  · show Steps p.tables e below (s₁.setTop (mkF m 2 #[.val (.ref bb), .val (.int (1 : Int32))] [(.ref bb), (.int (1 : Int32))])) _
    refine X0.arraylength hx (by rw [e0]; exact Ar1.1) (State.isArrayOf_alike hZ.alike Ar1.2.1) (g := (mkF m 2 #[.val (.ref bb), .val (.int (1 : Int32))] [(.ref bb), (.int (1 : Int32))])) rfl rfl (hb hby d11_2) _ ?_
    rw [len_of Sz1 Nn1]
    refine XS.isub X0.here hx rfl (hb hby d11_3) rfl ?_
    refine XS.bipush X0.here hx rfl (hb hby d11_4) ?_
    refine XS.iushr X0.here hx rfl (hb hby d11_6) rfl ?_
    show Steps p.tables e below (s₁.setTop (mkF m 7 #[.val (.ref bb), .val (.int (1 : Int32))] [(.int (((0 : Int32).toUInt32 >>> ((31 : Int32) &&& 31).toUInt32).toInt32))])) _
    refine XS.i2b X0.here hx rfl (hb hby d11_7) rfl ?_
    exact kz
  exact Goes.retN X0 hx Bd.notSynchronized (t := .byte) Bd.returns (by simp) (hb hby d11_8) (Nat.le_of_ble_eq_true rfl) (Nat.le_of_ble_eq_true rfl) ⟨congrArg (fun z => some (Value.int z)) (by decide), N0, e0⟩
def Q_rcc_12 (Z : State) (bb : Addr) (k : ClassId) (vs : List Value) (h0 : Heap) (n0 : Nat) : Option Value → Heap → List Loc → Prop := fun v h L => v = some (.int 1) ∧ Fr n0 L ∧ h = h0
set_option maxRecDepth 65536 in
set_option maxHeartbeats 40000000 in
theorem rcc_12 (l : Launch) (Z : State) (a0 : Array Value) (hw : ∀ d ∈ tables_1, d.before a0 Z = true) (ws : List Jvm.Cond) (bb : Addr) (k : ClassId) (vs : List Value) (h0 : Heap) (n0 : Nat) (Z0 : n0 ≤ h0.size) (B0 : Arv Z h0 bb k .byte (2 : Int32) vs (.int 0)) :
    own_M l Z (⟨"java/lang/StringUTF16", "coderFromArrayLen", "([BI)B"⟩ : MethodName) (Jvm.Cond.code (⟨"java/lang/StringUTF16", "coderFromArrayLen", "([BI)B"⟩ : MethodName) jdk_52_method_15_code 2 (some .byte)) ws ({ frames := 0, cells := 0, slots := 0, locals := 0 } : Room) #[(.ref bb), (.int (1 : Int32))] h0 (Q_rcc_12 Z bb k vs h0 n0) := by
  refine MetFree.of_bodySF (plainFor_of_name pn_11) hisR ?_
  intro p e s m args below meth c s₁ Bd hml0 hP hK
  obtain ⟨rfl, hZ, hh⟩ := hP
  have hx := Bd.exec
  have hby := Bd.bytes
  have hml : c.maxLocals = 2 := hml0
  have hown : s.vm.findClass "java/lang/StringUTF16" = some m.cls := findClass_of_methodNamed Bd.named
  have hnm := (name_of_methodNamed Bd.named Bd.method).1
  have X0 : Stand p l e ({ frames := 0, cells := 0, slots := 0, locals := 0 } : Room) s m #[(.ref bb), (.int (1 : Int32))] below meth c s₁ [] 0 0 := Stand.of_body Bd
  have e0 : s₁.heap = h0 := by rw [← hh, Bd.state]; rfl
  have N0 := Fr.nil n0
  show Goes p e below (Fin s (Q_rcc_12 Z bb k vs h0 n0) ({ frames := 0, cells := 0, slots := 0, locals := 0 } : Room).cells ({ frames := 0, cells := 0, slots := 0, locals := 0 } : Room).slots) _
  refine Goes.via (S' := s₁.setTop (mkF m 0 #[.val (.ref bb), .val (.int (1 : Int32))] [])) (fun tz kz => castTop (ef_11 m bb (1 : Int32) ) kz) ?_
  refine Goes.via (S' := s₁.setTop (mkF m 2 #[.val (.ref bb), .val (.int (1 : Int32))] [(.ref bb), (.int (1 : Int32))])) (fun tz kz => ?_) ?_
  · show Steps p.tables e below (s₁.setTop (mkF m 0 #[.val (.ref bb), .val (.int (1 : Int32))] [])) _
    refine XS.iloadN X0.here hx rfl (hb hby d11_0) rfl ?_
    refine XS.aloadN X0.here hx rfl (hb hby d11_1) rfl rfl ?_
    exact kz
  obtain ⟨cl1, Ar1, q1, Sz1, Nn1, Hs1, G1⟩ := (id B0)
  refine Goes.via (S' := s₁.setTop (mkF m 8 #[.val (.ref bb), .val (.int (1 : Int32))] [(.int ((((-1 : Int32).toUInt32 >>> ((31 : Int32) &&& 31).toUInt32).toInt32).toInt8.toInt32))])) (fun tz kz => ?_) ?_
  · show Steps p.tables e below (s₁.setTop (mkF m 2 #[.val (.ref bb), .val (.int (1 : Int32))] [(.ref bb), (.int (1 : Int32))])) _
    refine X0.arraylength hx (by rw [e0]; exact Ar1.1) (State.isArrayOf_alike hZ.alike Ar1.2.1) (g := (mkF m 2 #[.val (.ref bb), .val (.int (1 : Int32))] [(.ref bb), (.int (1 : Int32))])) rfl rfl (hb hby d11_2) _ ?_
    rw [len_of Sz1 Nn1]
    refine XS.isub X0.here hx rfl (hb hby d11_3) rfl ?_
    refine XS.bipush X0.here hx rfl (hb hby d11_4) ?_
    refine XS.iushr X0.here hx rfl (hb hby d11_6) rfl ?_
    show Steps p.tables e below (s₁.setTop (mkF m 7 #[.val (.ref bb), .val (.int (1 : Int32))] [(.int (((-1 : Int32).toUInt32 >>> ((31 : Int32) &&& 31).toUInt32).toInt32))])) _
    refine XS.i2b X0.here hx rfl (hb hby d11_7) rfl ?_
    exact kz
  exact Goes.retN X0 hx Bd.notSynchronized (t := .byte) Bd.returns (by simp) (hb hby d11_8) (Nat.le_of_ble_eq_true rfl) (Nat.le_of_ble_eq_true rfl) ⟨congrArg (fun z => some (Value.int z)) (by decide), N0, e0⟩
def Q_rn4_1 (Z : State) (a1 : Addr) (ca : Addr) (cs : Int32) (ka : ClassId) (c0 : Int32) (h0 : Heap) (n0 : Nat) : Option Value → Heap → List Loc → Prop := fun v h L => v = none ∧ Fr n0 L ∧ Keep h0 h [a1] ∧ ∃ b k, (((¬ (255 : Int32) < c0) ∧ own_Str Z h a1 b k (1 : Int32) [.int (own_by c0)]) ∨ own_StU Z h a1 b k (2 : Int32) [.int (own_lo c0), .int (own_hi c0)])
set_option maxRecDepth 65536 in
set_option maxHeartbeats 40000000 in
theorem rn4_1 (l : Launch) (Z : State) (a0 : Array Value) (hw : ∀ d ∈ tables_1, d.before a0 Z = true) (ws : List Jvm.Cond) (a1 : Addr) (ca : Addr) (cs : Int32) (ka : ClassId) (c0 : Int32) (h0 : Heap) (n0 : Nat) (Z0 : n0 ≤ h0.size) (SC : Sta Z Z.heap "java/lang/String" "COMPACT_STRINGS" "Z" (.int cs)) (hcs : ¬ cs = (0 : Int32)) (O0 : Old Z n0 h0) (SA : Sta Z Z.heap "java/lang/StringUTF16" "$assertionsDisabled" "Z" (.int (1 : Int32))) (SH : Sta Z Z.heap "java/lang/StringUTF16" "HI_BYTE_SHIFT" "I" (.int (0 : Int32))) (SL : Sta Z Z.heap "java/lang/StringUTF16" "LO_BYTE_SHIFT" "I" (.int (8 : Int32))) (FV : Fld Z h0 a1 "java/lang/String" "value" "[B" .null) (FC : Fld Z h0 a1 "java/lang/String" "coder" "B" (.int (0 : Int32))) (E1 : Exa Z h0 a1 "java/lang/String") (g1 : n0 ≤ a1) (C0 : Arv Z h0 ca ka .char (1 : Int32) [.int c0] (.int 0)) (z0 : nar .char c0 = c0) :
    own_M l Z (⟨"java/lang/String", "<init>", "([CIILjava/lang/Void;)V"⟩ : MethodName) (Jvm.Cond.code (⟨"java/lang/String", "<init>", "([CIILjava/lang/Void;)V"⟩ : MethodName) jdk_42_method_149_code 6 none) ws ({ frames := 4, cells := 2, slots := 3, locals := 84 } : Room) #[(.ref a1), (.ref ca), (.int (0 : Int32)), (.int (1 : Int32)), .null] h0 (Q_rn4_1 Z a1 ca cs ka c0 h0 n0) := by
  refine MetFree.of_bodySF (plainFor_of_name pn_2) hisR ?_
  intro p e s m args below meth c s₁ Bd hml0 hP hK
  obtain ⟨rfl, hZ, hh⟩ := hP
  have hx := Bd.exec
  have hby := Bd.bytes
  have hml : c.maxLocals = 6 := hml0
  have hown : s.vm.findClass "java/lang/String" = some m.cls := findClass_of_methodNamed Bd.named
  have hnm := (name_of_methodNamed Bd.named Bd.method).1
  have X0 : Stand p l e ({ frames := 4, cells := 2, slots := 3, locals := 84 } : Room) s m #[(.ref a1), (.ref ca), (.int (0 : Int32)), (.int (1 : Int32)), .null] below meth c s₁ [] 0 0 := Stand.of_body Bd
  have e0 : s₁.heap = h0 := by rw [← hh, Bd.state]; rfl
  have N0 := Fr.nil n0
  show Goes p e below (Fin s (Q_rn4_1 Z a1 ca cs ka c0 h0 n0) ({ frames := 4, cells := 2, slots := 3, locals := 84 } : Room).cells ({ frames := 4, cells := 2, slots := 3, locals := 84 } : Room).slots) _
  refine Goes.via (S' := s₁.setTop (mkF m 0 #[.val (.ref a1), .val (.ref ca), .val (.int (0 : Int32)), .val (.int (1 : Int32)), .val .null, .unset] [])) (fun tz kz => castTop (ef_2 m a1 ca (0 : Int32) (1 : Int32) ) kz) ?_
  refine Goes.via (S' := s₁.setTop (mkF m 1 #[.val (.ref a1), .val (.ref ca), .val (.int (0 : Int32)), .val (.int (1 : Int32)), .val .null, .unset] [(.ref a1)])) (fun tz kz => ?_) ?_
  · show Steps p.tables e below (s₁.setTop (mkF m 0 #[.val (.ref a1), .val (.ref ca), .val (.int (0 : Int32)), .val (.int (1 : Int32)), .val .null, .unset] [])) _
    refine XS.aloadN X0.here hx rfl (hb hby d2_0) rfl rfl ?_
    exact kz
  obtain ⟨T1, X1, e1, st1⟩ := initO X0 hx hZ hown (w_ hw 12 rfl) (w_ hw 13 rfl) (w_ hw 14 rfl) e0 (g := (mkF m 1 #[.val (.ref a1), .val (.ref ca), .val (.int (0 : Int32)), .val (.int (1 : Int32)), .val .null, .unset] [(.ref a1)])) rfl (by rw [hml]; rfl) rfl (hb hby d2_1) (by decide) (W := 0) (by show 2 * 0 + _ ≤ _; exact Nat.le_of_eq rfl) (by decide)
  refine Goes.via (S' := T1.setTop (mkF m 4 #[.val (.ref a1), .val (.ref ca), .val (.int (0 : Int32)), .val (.int (1 : Int32)), .val .null, .unset] [])) st1 ?_
  refine Goes.via (S' := T1.setTop (mkF m 27 #[.val (.ref a1), .val (.ref ca), .val (.int (0 : Int32)), .val (.int (1 : Int32)), .val .null, .unset] [])) (fun tz kz => ?_) ?_
  · show Steps p.tables e below (T1.setTop (mkF m 4 #[.val (.ref a1), .val (.ref ca), .val (.int (0 : Int32)), .val (.int (1 : Int32)), .val .null, .unset] [])) _
    refine XS.iloadN X1.here hx rfl (hb hby d2_4) rfl ?_
    refine XS.ifYes X1.here hx rfl (pc0 := 5) (pc' := 27) rfl (hb hby d2_5) rfl ((if0 _ _).trans (feq (by first | decide | rfl)).2) (by decide) (by decide) ?_
    exact kz
  obtain ⟨T2, X2, e2, st2⟩ := getS2 X1 hx hZ hown (host := "") (Or.inl (w_ hw 42 rfl)) Via.refl e1 (SC.ext O0.2) (g := (mkF m 27 #[.val (.ref a1), .val (.ref ca), .val (.int (0 : Int32)), .val (.int (1 : Int32)), .val .null, .unset] [])) rfl (hb hby d2_27)
  refine Goes.via (S' := T2.setTop (mkF m 30 #[.val (.ref a1), .val (.ref ca), .val (.int (0 : Int32)), .val (.int (1 : Int32)), .val .null, .unset] [(.int cs)])) st2 ?_
  refine Goes.via (S' := T2.setTop (mkF m 36 #[.val (.ref a1), .val (.ref ca), .val (.int (0 : Int32)), .val (.int (1 : Int32)), .val .null, .unset] [(.int (1 : Int32)), (.int (0 : Int32)), (.ref ca)])) (fun tz kz => ?_) ?_
  · show Steps p.tables e below (T2.setTop (mkF m 30 #[.val (.ref a1), .val (.ref ca), .val (.int (0 : Int32)), .val (.int (1 : Int32)), .val .null, .unset] [(.int cs)])) _
    refine XS.ifNo X2.here hx rfl (hb hby d2_30) rfl ((if0 _ _).trans (feq hcs).1) ?_
    refine XS.aloadN X2.here hx rfl (hb hby d2_33) rfl rfl ?_
    refine XS.iloadN X2.here hx rfl (hb hby d2_34) rfl ?_
    refine XS.iloadN X2.here hx rfl (hb hby d2_35) rfl ?_
    exact kz
  obtain ⟨_, _, ⟨T3, L3, k3, n3⟩, -, X3, ⟨Lc3, hQ3, l3, y3, z3⟩, st3⟩ := Jvm.LawKit.callS X2 hx (y := (⟨"java/lang/StringUTF16", "compress", "([CII)[B"⟩ : MethodName)) hown (mvT hZ (w_ hw 48 rfl)) (mvT hZ (w_ hw 49 rfl)) (mvT hZ (w_ hw 50 rfl)) (mvT hZ (w_ hw 51 rfl)) (by decide) (backOf (W := 0) (rc3_1 l Z a0 hw [] ca ka c0 h0 n0 Z0 SA SH SL O0 C0 z0) hZ (w_ hw 51 rfl) (w_ hw 50 rfl) (by decide) (by decide)) (g := (mkF m 36 #[.val (.ref a1), .val (.ref ca), .val (.int (0 : Int32)), .val (.int (1 : Int32)), .val .null, .unset] [(.int (1 : Int32)), (.int (0 : Int32)), (.ref ca)])) rfl (by rw [hml]; rfl) (argsL := [(.ref ca), (.int (0 : Int32)), (.int (1 : Int32))]) (rest := []) (lenOf pd_5 rfl) rfl (by show 2 * 0 + _ ≤ _; exact Nat.le_of_eq rfl) (hb hby d2_36) (fun _ _ => ⟨rfl, e2, (by decide : 0 + 2 ≤ _), (by decide : 0 + 3 ≤ _)⟩)
  dsimp only [Pt.U, Pt.locs, Pt.cells, Pt.slots] at X3 l3 y3 z3 st3 hQ3
  subst l3 y3 z3
  obtain ⟨vb, kb, rfl, N3, K3, gv, Dk⟩ := hQ3
  have Nf3 := Fr.app N0 N3
  refine Goes.via (S' := T3.setTop (mkF m 39 #[.val (.ref a1), .val (.ref ca), .val (.int (0 : Int32)), .val (.int (1 : Int32)), .val .null, .unset] [(.ref vb)])) (st3) ?_
  rcases Dk with ⟨s0, Bv⟩ | Bv
  · skip
    refine Goes.via (S' := T3.setTop (mkF m 45 #[.val (.ref a1), .val (.ref ca), .val (.int (0 : Int32)), .val (.int (1 : Int32)), .val .null, .val (.ref vb)] [(.int (1 : Int32)), (.ref vb), (.ref a1)])) (fun tz kz => ?_) ?_
    · show Steps p.tables e below (T3.setTop (mkF m 39 #[.val (.ref a1), .val (.ref ca), .val (.int (0 : Int32)), .val (.int (1 : Int32)), .val .null, .unset] [(.ref vb)])) _
      refine XS.astore X3.here hx rfl (hb hby d2_39) rfl rfl (l' := #[.val (.ref a1), .val (.ref ca), .val (.int (0 : Int32)), .val (.int (1 : Int32)), .val .null, .val (.ref vb)]) rfl ?_
      refine XS.aloadN X3.here hx rfl (hb hby d2_41) rfl rfl ?_
      refine XS.aload X3.here hx rfl (hb hby d2_42) rfl rfl ?_
      refine XS.iloadN X3.here hx rfl (hb hby d2_44) rfl ?_
      exact kz
    obtain ⟨_, _, ⟨T4, L4, k4, n4⟩, -, X4, ⟨Lc4, hQ4, l4, y4, z4⟩, st4⟩ := Jvm.LawKit.callS X3 hx (y := (⟨"java/lang/StringUTF16", "coderFromArrayLen", "([BI)B"⟩ : MethodName)) hown (mvT hZ (w_ hw 55 rfl)) (mvT hZ (w_ hw 56 rfl)) (mvT hZ (w_ hw 50 rfl)) (mvT hZ (w_ hw 57 rfl)) (by decide) (backOf (W := 1) (rcc_11 l Z a0 hw [] vb kb _ T3.heap n0 (Nat.le_trans Z0 K3.1) Bv) hZ (w_ hw 57 rfl) (w_ hw 50 rfl) (by decide) (by decide)) (g := (mkF m 45 #[.val (.ref a1), .val (.ref ca), .val (.int (0 : Int32)), .val (.int (1 : Int32)), .val .null, .val (.ref vb)] [(.int (1 : Int32)), (.ref vb), (.ref a1)])) rfl (by rw [hml]; rfl) (argsL := [(.ref vb), (.int (1 : Int32))]) (rest := [(.ref a1)]) (lenOf pd_7 rfl) rfl (by show 2 * 0 + _ ≤ _; exact Nat.le_of_eq rfl) (hb hby d2_45) (fun _ _ => ⟨rfl, rfl, (by decide : 2 + 0 ≤ _), (by decide : 3 + 0 ≤ _)⟩)
    dsimp only [Pt.U, Pt.locs, Pt.cells, Pt.slots] at X4 l4 y4 z4 st4 hQ4
    subst l4 y4 z4
    obtain ⟨rfl, N4, e4⟩ := hQ4
    have Nf4 := Fr.app Nf3 N4
    refine Goes.via (S' := T4.setTop (mkF m 48 #[.val (.ref a1), .val (.ref ca), .val (.int (0 : Int32)), .val (.int (1 : Int32)), .val .null, .val (.ref vb)] [(.int (0 : Int32)), (.ref a1)])) (st4) ?_
    have Ea := E1.keep K3
    have GV := FV.keep K3 nin0
    have GC := FC.keep K3 nin0
    have nb : a1 ≠ vb := Nat.ne_of_lt (Nat.lt_of_lt_of_le E1.lt gv)
    obtain ⟨T5, h5, X5, e5, W5, st5⟩ := putFN X4 hx hZ hown (w_ hw 22 rfl) Via.refl e4 GC Ea (Or.inr ⟨(w_ hw 18 rfl), rfl, hnm⟩) (w_ hw 3 rfl) (ty := .byte) (v' := (.int (nar .byte (0 : Int32)))) (by decide) rfl (fits_nar_byte _) (g := (mkF m 48 #[.val (.ref a1), .val (.ref ca), .val (.int (0 : Int32)), .val (.int (1 : Int32)), .val .null, .val (.ref vb)] [(.int (0 : Int32)), (.ref a1)])) rfl rfl (hb hby d2_48)
    refine Goes.via (S' := T5.setTop (mkF m 51 #[.val (.ref a1), .val (.ref ca), .val (.int (0 : Int32)), .val (.int (1 : Int32)), .val .null, .val (.ref vb)] [])) st5 ?_
    have N5 := Fr.snoc X5 Nf4 g1
    have HC : Fld Z h5 a1 "java/lang/String" "coder" "B" (.int (0 : Int32)) := GC.same W5
    have HV := GV.other W5 (Or.inr (slot_ne (Or.inr (w_ hw 17 rfl)) (Or.inr (w_ hw 18 rfl)) (by decide) (t := (.array .byte)) (t' := .byte) (by decide) (by decide)))
    have Eb := Ea.wr W5
    have Bb := Bv.other W5 (Ne.symm nb)
    refine Goes.via (S' := T5.setTop (mkF m 54 #[.val (.ref a1), .val (.ref ca), .val (.int (0 : Int32)), .val (.int (1 : Int32)), .val .null, .val (.ref vb)] [(.ref vb), (.ref a1)])) (fun tz kz => ?_) ?_
    · show Steps p.tables e below (T5.setTop (mkF m 51 #[.val (.ref a1), .val (.ref ca), .val (.int (0 : Int32)), .val (.int (1 : Int32)), .val .null, .val (.ref vb)] [])) _
      refine XS.aloadN X5.here hx rfl (hb hby d2_51) rfl rfl ?_
      refine XS.aload X5.here hx rfl (hb hby d2_52) rfl rfl ?_
      exact kz
    obtain ⟨T6, h6, X6, e6, W6, st6⟩ := putF X5 hx hZ hown (host := "") (Or.inl (w_ hw 21 rfl)) Via.refl e5 HV Eb (Or.inr ⟨(w_ hw 17 rfl), rfl, hnm⟩) (w_ hw 3 rfl) (ty := (.array .byte)) (by decide) rfl rfl (g := (mkF m 54 #[.val (.ref a1), .val (.ref ca), .val (.int (0 : Int32)), .val (.int (1 : Int32)), .val .null, .val (.ref vb)] [(.ref vb), (.ref a1)])) rfl rfl (hb hby d2_54)
    refine Goes.via (S' := T6.setTop (mkF m 57 #[.val (.ref a1), .val (.ref ca), .val (.int (0 : Int32)), .val (.int (1 : Int32)), .val .null, .val (.ref vb)] [])) st6 ?_
    have N6 := Fr.snoc X6 N5 g1
    have JV := HV.same W6
    have JC := HC.other W6 (Or.inr (slot_ne (Or.inr (w_ hw 18 rfl)) (Or.inr (w_ hw 17 rfl)) (by decide) (t := .byte) (t' := (.array .byte)) (by decide) (by decide)))
    have Ec := Eb.wr W6
    have Bc := Bb.other W6 (Ne.symm nb)
    have Kq : Keep h0 h6 [a1] := (((Keep.refl h0 [a1]).trans K3 all0).wr W5 (Or.inl (List.mem_singleton.mpr rfl))).wr W6 (Or.inl (List.mem_singleton.mpr rfl))
    exact Goes.retV X6 hx Bd.notSynchronized Bd.returns (hb hby d2_57) (Nat.le_of_ble_eq_true rfl) (Nat.le_of_ble_eq_true rfl) (by rw [e6]; exact ⟨rfl, N6, Kq, vb, kb, Or.inl ⟨s0, Ec, JC, JV, Bc⟩⟩)
  · skip
    refine Goes.via (S' := T3.setTop (mkF m 45 #[.val (.ref a1), .val (.ref ca), .val (.int (0 : Int32)), .val (.int (1 : Int32)), .val .null, .val (.ref vb)] [(.int (1 : Int32)), (.ref vb), (.ref a1)])) (fun tz kz => ?_) ?_
    · show Steps p.tables e below (T3.setTop (mkF m 39 #[.val (.ref a1), .val (.ref ca), .val (.int (0 : Int32)), .val (.int (1 : Int32)), .val .null, .unset] [(.ref vb)])) _
      refine XS.astore X3.here hx rfl (hb hby d2_39) rfl rfl (l' := #[.val (.ref a1), .val (.ref ca), .val (.int (0 : Int32)), .val (.int (1 : Int32)), .val .null, .val (.ref vb)]) rfl ?_
      refine XS.aloadN X3.here hx rfl (hb hby d2_41) rfl rfl ?_
      refine XS.aload X3.here hx rfl (hb hby d2_42) rfl rfl ?_
      refine XS.iloadN X3.here hx rfl (hb hby d2_44) rfl ?_
      exact kz
    obtain ⟨_, _, ⟨T7, L7, k7, n7⟩, -, X7, ⟨Lc7, hQ7, l7, y7, z7⟩, st7⟩ := Jvm.LawKit.callS X3 hx (y := (⟨"java/lang/StringUTF16", "coderFromArrayLen", "([BI)B"⟩ : MethodName)) hown (mvT hZ (w_ hw 55 rfl)) (mvT hZ (w_ hw 56 rfl)) (mvT hZ (w_ hw 50 rfl)) (mvT hZ (w_ hw 57 rfl)) (by decide) (backOf (W := 1) (rcc_12 l Z a0 hw [] vb kb _ T3.heap n0 (Nat.le_trans Z0 K3.1) Bv) hZ (w_ hw 57 rfl) (w_ hw 50 rfl) (by decide) (by decide)) (g := (mkF m 45 #[.val (.ref a1), .val (.ref ca), .val (.int (0 : Int32)), .val (.int (1 : Int32)), .val .null, .val (.ref vb)] [(.int (1 : Int32)), (.ref vb), (.ref a1)])) rfl (by rw [hml]; rfl) (argsL := [(.ref vb), (.int (1 : Int32))]) (rest := [(.ref a1)]) (lenOf pd_7 rfl) rfl (by show 2 * 0 + _ ≤ _; exact Nat.le_of_eq rfl) (hb hby d2_45) (fun _ _ => ⟨rfl, rfl, (by decide : 2 + 0 ≤ _), (by decide : 3 + 0 ≤ _)⟩)
    dsimp only [Pt.U, Pt.locs, Pt.cells, Pt.slots] at X7 l7 y7 z7 st7 hQ7
    subst l7 y7 z7
    obtain ⟨rfl, N7, e7⟩ := hQ7
    have Nf7 := Fr.app Nf3 N7
    refine Goes.via (S' := T7.setTop (mkF m 48 #[.val (.ref a1), .val (.ref ca), .val (.int (0 : Int32)), .val (.int (1 : Int32)), .val .null, .val (.ref vb)] [(.int (1 : Int32)), (.ref a1)])) (st7) ?_
    have Ea := E1.keep K3
    have GV := FV.keep K3 nin0
    have GC := FC.keep K3 nin0
    have nb : a1 ≠ vb := Nat.ne_of_lt (Nat.lt_of_lt_of_le E1.lt gv)
    obtain ⟨T8, h8, X8, e8, W8, st8⟩ := putFN X7 hx hZ hown (w_ hw 22 rfl) Via.refl e7 GC Ea (Or.inr ⟨(w_ hw 18 rfl), rfl, hnm⟩) (w_ hw 3 rfl) (ty := .byte) (v' := (.int (nar .byte (1 : Int32)))) (by decide) rfl (fits_nar_byte _) (g := (mkF m 48 #[.val (.ref a1), .val (.ref ca), .val (.int (0 : Int32)), .val (.int (1 : Int32)), .val .null, .val (.ref vb)] [(.int (1 : Int32)), (.ref a1)])) rfl rfl (hb hby d2_48)
    refine Goes.via (S' := T8.setTop (mkF m 51 #[.val (.ref a1), .val (.ref ca), .val (.int (0 : Int32)), .val (.int (1 : Int32)), .val .null, .val (.ref vb)] [])) st8 ?_
    have N8 := Fr.snoc X8 Nf7 g1
    have HC : Fld Z h8 a1 "java/lang/String" "coder" "B" (.int (1 : Int32)) := GC.same W8
    have HV := GV.other W8 (Or.inr (slot_ne (Or.inr (w_ hw 17 rfl)) (Or.inr (w_ hw 18 rfl)) (by decide) (t := (.array .byte)) (t' := .byte) (by decide) (by decide)))
    have Eb := Ea.wr W8
    have Bb := Bv.other W8 (Ne.symm nb)
    refine Goes.via (S' := T8.setTop (mkF m 54 #[.val (.ref a1), .val (.ref ca), .val (.int (0 : Int32)), .val (.int (1 : Int32)), .val .null, .val (.ref vb)] [(.ref vb), (.ref a1)])) (fun tz kz => ?_) ?_
    · show Steps p.tables e below (T8.setTop (mkF m 51 #[.val (.ref a1), .val (.ref ca), .val (.int (0 : Int32)), .val (.int (1 : Int32)), .val .null, .val (.ref vb)] [])) _
      refine XS.aloadN X8.here hx rfl (hb hby d2_51) rfl rfl ?_
      refine XS.aload X8.here hx rfl (hb hby d2_52) rfl rfl ?_
      exact kz
    obtain ⟨T9, h9, X9, e9, W9, st9⟩ := putF X8 hx hZ hown (host := "") (Or.inl (w_ hw 21 rfl)) Via.refl e8 HV Eb (Or.inr ⟨(w_ hw 17 rfl), rfl, hnm⟩) (w_ hw 3 rfl) (ty := (.array .byte)) (by decide) rfl rfl (g := (mkF m 54 #[.val (.ref a1), .val (.ref ca), .val (.int (0 : Int32)), .val (.int (1 : Int32)), .val .null, .val (.ref vb)] [(.ref vb), (.ref a1)])) rfl rfl (hb hby d2_54)
    refine Goes.via (S' := T9.setTop (mkF m 57 #[.val (.ref a1), .val (.ref ca), .val (.int (0 : Int32)), .val (.int (1 : Int32)), .val .null, .val (.ref vb)] [])) st9 ?_
    have N9 := Fr.snoc X9 N8 g1
    have JV := HV.same W9
    have JC := HC.other W9 (Or.inr (slot_ne (Or.inr (w_ hw 18 rfl)) (Or.inr (w_ hw 17 rfl)) (by decide) (t := .byte) (t' := (.array .byte)) (by decide) (by decide)))
    have Ec := Eb.wr W9
    have Bc := Bb.other W9 (Ne.symm nb)
    have Kq : Keep h0 h9 [a1] := (((Keep.refl h0 [a1]).trans K3 all0).wr W8 (Or.inl (List.mem_singleton.mpr rfl))).wr W9 (Or.inl (List.mem_singleton.mpr rfl))
    exact Goes.retV X9 hx Bd.notSynchronized Bd.returns (hb hby d2_57) (Nat.le_of_ble_eq_true rfl) (Nat.le_of_ble_eq_true rfl) (by rw [e9]; exact ⟨rfl, N9, Kq, vb, kb, Or.inr ⟨Ec, JC, JV, Bc⟩⟩)
def Q_rn1_1 (Z : State) (a1 : Addr) (ca : Addr) (cs : Int32) (ka : ClassId) (c0 : Int32) (h0 : Heap) (n0 : Nat) : Option Value → Heap → List Loc → Prop := fun v h L => v = none ∧ Fr n0 L ∧ Keep h0 h [a1] ∧ ∃ b k, (((¬ (255 : Int32) < c0) ∧ own_Str Z h a1 b k (1 : Int32) [.int (own_by c0)]) ∨ own_StU Z h a1 b k (2 : Int32) [.int (own_lo c0), .int (own_hi c0)])
set_option maxRecDepth 65536 in
set_option maxHeartbeats 40000000 in
theorem rn1_1 (l : Launch) (Z : State) (a0 : Array Value) (hw : ∀ d ∈ tables_1, d.before a0 Z = true) (ws : List Jvm.Cond) (a1 : Addr) (ca : Addr) (cs : Int32) (ka : ClassId) (c0 : Int32) (h0 : Heap) (n0 : Nat) (Z0 : n0 ≤ h0.size) (SC : Sta Z Z.heap "java/lang/String" "COMPACT_STRINGS" "Z" (.int cs)) (hcs : ¬ cs = (0 : Int32)) (O0 : Old Z n0 h0) (SA : Sta Z Z.heap "java/lang/StringUTF16" "$assertionsDisabled" "Z" (.int (1 : Int32))) (SH : Sta Z Z.heap "java/lang/StringUTF16" "HI_BYTE_SHIFT" "I" (.int (0 : Int32))) (SL : Sta Z Z.heap "java/lang/StringUTF16" "LO_BYTE_SHIFT" "I" (.int (8 : Int32))) (FV : Fld Z h0 a1 "java/lang/String" "value" "[B" .null) (FC : Fld Z h0 a1 "java/lang/String" "coder" "B" (.int (0 : Int32))) (E1 : Exa Z h0 a1 "java/lang/String") (g1 : n0 ≤ a1) (C0 : Arv Z h0 ca ka .char (1 : Int32) [.int c0] (.int 0)) (z0 : nar .char c0 = c0) :
    own_M l Z (⟨"java/lang/String", "<init>", "([C)V"⟩ : MethodName) (Jvm.Cond.code (⟨"java/lang/String", "<init>", "([C)V"⟩ : MethodName) jdk_42_method_3_code 2 none) ws ({ frames := 5, cells := 2, slots := 3, locals := 106 } : Room) #[(.ref a1), (.ref ca)] h0 (Q_rn1_1 Z a1 ca cs ka c0 h0 n0) := by
  refine MetFree.of_bodySF (plainFor_of_name pn_1) hisR ?_
  intro p e s m args below meth c s₁ Bd hml0 hP hK
  obtain ⟨rfl, hZ, hh⟩ := hP
  have hx := Bd.exec
  have hby := Bd.bytes
  have hml : c.maxLocals = 2 := hml0
  have hown : s.vm.findClass "java/lang/String" = some m.cls := findClass_of_methodNamed Bd.named
  have hnm := (name_of_methodNamed Bd.named Bd.method).1
  have X0 : Stand p l e ({ frames := 5, cells := 2, slots := 3, locals := 106 } : Room) s m #[(.ref a1), (.ref ca)] below meth c s₁ [] 0 0 := Stand.of_body Bd
  have e0 : s₁.heap = h0 := by rw [← hh, Bd.state]; rfl
  have N0 := Fr.nil n0
  show Goes p e below (Fin s (Q_rn1_1 Z a1 ca cs ka c0 h0 n0) ({ frames := 5, cells := 2, slots := 3, locals := 106 } : Room).cells ({ frames := 5, cells := 2, slots := 3, locals := 106 } : Room).slots) _
  refine Goes.via (S' := s₁.setTop (mkF m 0 #[.val (.ref a1), .val (.ref ca)] [])) (fun tz kz => castTop (ef_1 m a1 ca ) kz) ?_
  refine Goes.via (S' := s₁.setTop (mkF m 4 #[.val (.ref a1), .val (.ref ca)] [(.ref ca), (.int (0 : Int32)), (.ref ca), (.ref a1)])) (fun tz kz => ?_) ?_
  · show Steps p.tables e below (s₁.setTop (mkF m 0 #[.val (.ref a1), .val (.ref ca)] [])) _
    refine XS.aloadN X0.here hx rfl (hb hby d1_0) rfl rfl ?_
    refine XS.aloadN X0.here hx rfl (hb hby d1_1) rfl rfl ?_
    refine XS.iconst X0.here hx rfl (hb hby d1_2) ?_
    refine XS.aloadN X0.here hx rfl (hb hby d1_3) rfl rfl ?_
    exact kz
  obtain ⟨cl1, Ar1, q1, Sz1, Nn1, Hs1, G1⟩ := (id C0)
  refine Goes.via (S' := s₁.setTop (mkF m 6 #[.val (.ref a1), .val (.ref ca)] [.null, (.int (1 : Int32)), (.int (0 : Int32)), (.ref ca), (.ref a1)])) (fun tz kz => ?_) ?_
  · show Steps p.tables e below (s₁.setTop (mkF m 4 #[.val (.ref a1), .val (.ref ca)] [(.ref ca), (.int (0 : Int32)), (.ref ca), (.ref a1)])) _
    refine X0.arraylength hx (by rw [e0]; exact Ar1.1) (State.isArrayOf_alike hZ.alike Ar1.2.1) (g := (mkF m 4 #[.val (.ref a1), .val (.ref ca)] [(.ref ca), (.int (0 : Int32)), (.ref ca), (.ref a1)])) rfl rfl (hb hby d1_4) _ ?_
    rw [len_of Sz1 Nn1]
    refine XS.aconstNull X0.here hx rfl (hb hby d1_5) ?_
    exact kz
  obtain ⟨_, _, ⟨T2, L2, k2, n2⟩, -, X2, ⟨Lc2, hQ2, l2, y2, z2⟩, st2⟩ := X0.specialBack hx (y := (⟨"java/lang/String", "<init>", "([CIILjava/lang/Void;)V"⟩ : MethodName)) rfl hown (mvT hZ (w_ hw 8 rfl)) (mvT hZ (w_ hw 9 rfl)) (mvT hZ (w_ hw 11 rfl)) (by decide) (backOf (W := 0) (rn4_1 l Z a0 hw [] a1 ca cs ka c0 h0 n0 Z0 SC hcs O0 SA SH SL FV FC E1 g1 C0 z0) hZ (w_ hw 11 rfl) (w_ hw 4 rfl) (by decide) (by decide)) (g := (mkF m 6 #[.val (.ref a1), .val (.ref ca)] [.null, (.int (1 : Int32)), (.int (0 : Int32)), (.ref ca), (.ref a1)])) rfl (by rw [hml]; rfl) (Steps.refl _) (a := a1) (argsL := [(.ref ca), (.int (0 : Int32)), (.int (1 : Int32)), .null]) (rest := []) (lenOf pd_0 rfl) rfl (by show 2 * 0 + _ ≤ _; exact Nat.le_of_eq rfl) (hb hby d1_6) (fun _ _ => ⟨rfl, e0, (by decide : 0 + 2 ≤ _), (by decide : 0 + 3 ≤ _)⟩)
  dsimp only [Pt.U, Pt.locs, Pt.cells, Pt.slots] at X2 l2 y2 z2 st2 hQ2
  subst l2 y2 z2
  obtain ⟨rfl, N2, K2, vb, kb, S2⟩ := hQ2
  have Nf2 := Fr.app N0 N2
  refine Goes.via (S' := T2.setTop (mkF m 9 #[.val (.ref a1), .val (.ref ca)] [])) (fun _ kz => st2.trans kz) ?_
  exact Goes.retV X2 hx Bd.notSynchronized Bd.returns (hb hby d1_9) (Nat.le_of_ble_eq_true rfl) (Nat.le_of_ble_eq_true rfl) ⟨rfl, Nf2, K2, vb, kb, S2⟩
def Q_rnbl_2 (Z : State)   (h0 : Heap) (n0 : Nat) : Option Value → Heap → List Loc → Prop := fun v h L => v = some (.int (4 : Int32)) ∧ Fr n0 L ∧ h = h0
set_option maxRecDepth 65536 in
set_option maxHeartbeats 40000000 in
theorem rnbl_2 (l : Launch) (Z : State) (a0 : Array Value) (hw : ∀ d ∈ tables_1, d.before a0 Z = true) (ws : List Jvm.Cond)   (h0 : Heap) (n0 : Nat) (Z0 : n0 ≤ h0.size) :
    own_M l Z (⟨"java/lang/StringUTF16", "newBytesLength", "(I)I"⟩ : MethodName) (Jvm.Cond.code (⟨"java/lang/StringUTF16", "newBytesLength", "(I)I"⟩ : MethodName) jdk_52_method_3_code 1 (some .int)) ws ({ frames := 0, cells := 0, slots := 0, locals := 0 } : Room) #[(.int (2 : Int32))] h0 (Q_rnbl_2 Z  h0 n0) := by
  refine MetFree.of_bodySF (plainFor_of_name pn_27) hisR ?_
  intro p e s m args below meth c s₁ Bd hml0 hP hK
  obtain ⟨rfl, hZ, hh⟩ := hP
  have hx := Bd.exec
  have hby := Bd.bytes
  have hml : c.maxLocals = 1 := hml0
  have hown : s.vm.findClass "java/lang/StringUTF16" = some m.cls := findClass_of_methodNamed Bd.named
  have hnm := (name_of_methodNamed Bd.named Bd.method).1
  have X0 : Stand p l e ({ frames := 0, cells := 0, slots := 0, locals := 0 } : Room) s m #[(.int (2 : Int32))] below meth c s₁ [] 0 0 := Stand.of_body Bd
  have e0 : s₁.heap = h0 := by rw [← hh, Bd.state]; rfl
  have N0 := Fr.nil n0
  show Goes p e below (Fin s (Q_rnbl_2 Z  h0 n0) ({ frames := 0, cells := 0, slots := 0, locals := 0 } : Room).cells ({ frames := 0, cells := 0, slots := 0, locals := 0 } : Room).slots) _
  refine Goes.via (S' := s₁.setTop (mkF m 0 #[.val (.int (2 : Int32))] [])) (fun tz kz => castTop (ef_27 m (2 : Int32) ) kz) ?_
  refine Goes.via (S' := s₁.setTop (mkF m 58 #[.val (.int (2 : Int32))] [(.int (4 : Int32))])) (fun tz kz => ?_) ?_
  · show Steps p.tables e below (s₁.setTop (mkF m 0 #[.val (.int (2 : Int32))] [])) _
    refine XS.iloadN X0.here hx rfl (hb hby d27_0) rfl ?_
    refine XS.ifYes X0.here hx rfl (pc0 := 1) (pc' := 12) rfl (hb hby d27_1) rfl ((if0 _ _).trans (flt (by first | decide | rfl)).2.1) (by decide) (by decide) ?_
    refine XS.iloadN X0.here hx rfl (hb hby d27_12) rfl ?_
    refine X0.ldcInt hx hown (mvT hZ (w_ hw 121 rfl)) (g := (mkF m 13 #[.val (.int (2 : Int32))] [(.int (2 : Int32))])) rfl (hb hby d27_13) _ ?_
    show Steps p.tables e below (s₁.setTop (mkF m 15 #[.val (.int (2 : Int32))] [(.int (1073741823 : Int32)), (.int (2 : Int32))])) _
    refine XS.icmpYes X0.here hx rfl (pc0 := 15) (pc' := 55) rfl (hb hby d27_15) rfl (tlt (by first | decide | rfl)).1 (by decide) (by decide) ?_
    refine XS.iloadN X0.here hx rfl (hb hby d27_55) rfl ?_
    refine XS.iconst X0.here hx rfl (hb hby d27_56) ?_
    refine XS.ishl X0.here hx rfl (hb hby d27_57) rfl ?_
    exact kz
  exact Goes.retI X0 hx Bd.notSynchronized Bd.returns (hb hby d27_58) (Nat.le_of_ble_eq_true rfl) (Nat.le_of_ble_eq_true rfl) ⟨rfl, N0, e0⟩
def Q_rnbf_2 (Z : State)   (h0 : Heap) (n0 : Nat) : Option Value → Heap → List Loc → Prop := fun v h L => ∃ b k, v = some (.ref b) ∧ Fr n0 L ∧ Keep h0 h [] ∧ Arv Z h b k .byte (4 : Int32) [.int 0, .int 0, .int 0, .int 0] (.int 0) ∧ @LE.le Nat _ h0.size b
set_option maxRecDepth 65536 in
set_option maxHeartbeats 40000000 in
theorem rnbf_2 (l : Launch) (Z : State) (a0 : Array Value) (hw : ∀ d ∈ tables_1, d.before a0 Z = true) (ws : List Jvm.Cond)   (h0 : Heap) (n0 : Nat) (Z0 : n0 ≤ h0.size) :
    own_M l Z (⟨"java/lang/StringUTF16", "newBytesFor", "(I)[B"⟩ : MethodName) (Jvm.Cond.code (⟨"java/lang/StringUTF16", "newBytesFor", "(I)[B"⟩ : MethodName) jdk_52_method_2_code 1 (some (.array .byte))) ws ({ frames := 1, cells := 1, slots := 4, locals := 16 } : Room) #[(.int (2 : Int32))] h0 (Q_rnbf_2 Z  h0 n0) := by
  refine MetFree.of_bodySF (plainFor_of_name pn_26) hisR ?_
  intro p e s m args below meth c s₁ Bd hml0 hP hK
  obtain ⟨rfl, hZ, hh⟩ := hP
  have hx := Bd.exec
  have hby := Bd.bytes
  have hml : c.maxLocals = 1 := hml0
  have hown : s.vm.findClass "java/lang/StringUTF16" = some m.cls := findClass_of_methodNamed Bd.named
  have hnm := (name_of_methodNamed Bd.named Bd.method).1
  have X0 : Stand p l e ({ frames := 1, cells := 1, slots := 4, locals := 16 } : Room) s m #[(.int (2 : Int32))] below meth c s₁ [] 0 0 := Stand.of_body Bd
  have e0 : s₁.heap = h0 := by rw [← hh, Bd.state]; rfl
  have N0 := Fr.nil n0
  show Goes p e below (Fin s (Q_rnbf_2 Z  h0 n0) ({ frames := 1, cells := 1, slots := 4, locals := 16 } : Room).cells ({ frames := 1, cells := 1, slots := 4, locals := 16 } : Room).slots) _
  refine Goes.via (S' := s₁.setTop (mkF m 0 #[.val (.int (2 : Int32))] [])) (fun tz kz => castTop (ef_26 m (2 : Int32) ) kz) ?_
  refine Goes.via (S' := s₁.setTop (mkF m 1 #[.val (.int (2 : Int32))] [(.int (2 : Int32))])) (fun tz kz => ?_) ?_
  · show Steps p.tables e below (s₁.setTop (mkF m 0 #[.val (.int (2 : Int32))] [])) _
    refine XS.iloadN X0.here hx rfl (hb hby d26_0) rfl ?_
    exact kz
  obtain ⟨_, _, ⟨T1, L1, k1, n1⟩, -, X1, ⟨Lc1, hQ1, l1, y1, z1⟩, st1⟩ := Jvm.LawKit.callS X0 hx (y := (⟨"java/lang/StringUTF16", "newBytesLength", "(I)I"⟩ : MethodName)) hown (mvT hZ (w_ hw 118 rfl)) (mvT hZ (w_ hw 119 rfl)) (mvT hZ (w_ hw 50 rfl)) (mvT hZ (w_ hw 120 rfl)) (by decide) (backOf (W := 0) (rnbl_2 l Z a0 hw [] h0 n0 Z0) hZ (w_ hw 120 rfl) (w_ hw 50 rfl) (by decide) (by decide)) (g := (mkF m 1 #[.val (.int (2 : Int32))] [(.int (2 : Int32))])) rfl (by rw [hml]; rfl) (argsL := [(.int (2 : Int32))]) (rest := []) (lenOf pd_1 rfl) rfl (by show 2 * 0 + _ ≤ _; exact Nat.le_of_eq rfl) (hb hby d26_1) (fun _ _ => ⟨rfl, e0, (by decide : 0 + 0 ≤ _), (by decide : 0 + 0 ≤ _)⟩)
  dsimp only [Pt.U, Pt.locs, Pt.cells, Pt.slots] at X1 l1 y1 z1 st1 hQ1
  subst l1 y1 z1
  obtain ⟨rfl, N1, e1⟩ := hQ1
  have Nf1 := Fr.app N0 N1
  refine Goes.via (S' := T1.setTop (mkF m 4 #[.val (.int (2 : Int32))] [(.int (4 : Int32))])) (st1) ?_
  obtain ⟨T2, h2, k2, X2, e2, E2, A2, st2⟩ := newP X1 hx hZ (w_ hw 16 rfl) e1 (g := (mkF m 4 #[.val (.int (2 : Int32))] [(.int (4 : Int32))])) rfl (hb hby d26_4) rfl (by decide) (cap := 4) (by decide) (by decide) (by decide) (by decide)
  obtain ⟨b2, g2⟩ : ∃ z, z = h0.size := ⟨_, rfl⟩
  rw [← g2] at A2 st2
  refine Goes.via (S' := T2.setTop (mkF m 6 #[.val (.int (2 : Int32))] [(.ref b2)])) st2 ?_
  have B2 : Arv Z h2 b2 k2 .byte (4 : Int32) [.int 0, .int 0, .int 0, .int 0] (.int 0) := (Arv.new A2 (by decide)).pad (pad_rep [] (.int 0) 4)
  exact Goes.retO X2 hx Bd.notSynchronized Bd.returns rfl (Or.inr (Or.inr (Or.inr (Or.inr ⟨rfl, rfl, rfl⟩)))) (hb hby d26_6) (Nat.le_of_ble_eq_true rfl) (Nat.le_of_ble_eq_true rfl) (by rw [e2]; exact ⟨b2, k2, rfl, Nf1, (Keep.refl h0 []).ext E2, B2, Nat.le_of_eq g2.symm⟩)
def Q_rtb_2 (Z : State) (ca : Addr) (ka : ClassId) (c0 c1 : Int32) (h0 : Heap) (n0 : Nat) : Option Value → Heap → List Loc → Prop := fun v h L => ∃ b k, v = some (.ref b) ∧ Fr n0 L ∧ Keep h0 h [] ∧ Arv Z h b k .byte (4 : Int32) [.int (own_lo c0), .int (own_hi c0), .int (own_lo c1), .int (own_hi c1)] (.int 0) ∧ @LE.le Nat _ h0.size b
set_option maxRecDepth 65536 in
set_option maxHeartbeats 40000000 in
theorem rtb_2 (l : Launch) (Z : State) (a0 : Array Value) (hw : ∀ d ∈ tables_1, d.before a0 Z = true) (ws : List Jvm.Cond) (ca : Addr) (ka : ClassId) (c0 c1 : Int32) (h0 : Heap) (n0 : Nat) (Z0 : n0 ≤ h0.size) (SA : Sta Z Z.heap "java/lang/StringUTF16" "$assertionsDisabled" "Z" (.int (1 : Int32))) (SH : Sta Z Z.heap "java/lang/StringUTF16" "HI_BYTE_SHIFT" "I" (.int (0 : Int32))) (SL : Sta Z Z.heap "java/lang/StringUTF16" "LO_BYTE_SHIFT" "I" (.int (8 : Int32))) (O0 : Old Z n0 h0) (C0 : Arv Z h0 ca ka .char (2 : Int32) [.int c0, .int c1] (.int 0)) :
    own_M l Z (⟨"java/lang/StringUTF16", "toBytes", "([CII)[B"⟩ : MethodName) (Jvm.Cond.code (⟨"java/lang/StringUTF16", "toBytes", "([CII)[B"⟩ : MethodName) jdk_52_method_14_code 5 (some (.array .byte))) ws ({ frames := 2, cells := 1, slots := 4, locals := 36 } : Room) #[(.ref ca), (.int (0 : Int32)), (.int (2 : Int32))] h0 (Q_rtb_2 Z ca ka c0 c1 h0 n0) := by
  refine MetFree.of_bodySF (plainFor_of_name pn_25) hisR ?_
  intro p e s m args below meth c s₁ Bd hml0 hP hK
  obtain ⟨rfl, hZ, hh⟩ := hP
  have hx := Bd.exec
  have hby := Bd.bytes
  have hml : c.maxLocals = 5 := hml0
  have hown : s.vm.findClass "java/lang/StringUTF16" = some m.cls := findClass_of_methodNamed Bd.named
  have hnm := (name_of_methodNamed Bd.named Bd.method).1
  have X0 : Stand p l e ({ frames := 2, cells := 1, slots := 4, locals := 36 } : Room) s m #[(.ref ca), (.int (0 : Int32)), (.int (2 : Int32))] below meth c s₁ [] 0 0 := Stand.of_body Bd
  have e0 : s₁.heap = h0 := by rw [← hh, Bd.state]; rfl
  have N0 := Fr.nil n0
  show Goes p e below (Fin s (Q_rtb_2 Z ca ka c0 c1 h0 n0) ({ frames := 2, cells := 1, slots := 4, locals := 36 } : Room).cells ({ frames := 2, cells := 1, slots := 4, locals := 36 } : Room).slots) _
  refine Goes.via (S' := s₁.setTop (mkF m 0 #[.val (.ref ca), .val (.int (0 : Int32)), .val (.int (2 : Int32)), .unset, .unset] [])) (fun tz kz => castTop (ef_25 m ca (0 : Int32) (2 : Int32) ) kz) ?_
  refine Goes.via (S' := s₁.setTop (mkF m 1 #[.val (.ref ca), .val (.int (0 : Int32)), .val (.int (2 : Int32)), .unset, .unset] [(.int (2 : Int32))])) (fun tz kz => ?_) ?_
  · show Steps p.tables e below (s₁.setTop (mkF m 0 #[.val (.ref ca), .val (.int (0 : Int32)), .val (.int (2 : Int32)), .unset, .unset] [])) _
    refine XS.iloadN X0.here hx rfl (hb hby d25_0) rfl ?_
    exact kz
  obtain ⟨_, _, ⟨T1, L1, k1, n1⟩, -, X1, ⟨Lc1, hQ1, l1, y1, z1⟩, st1⟩ := Jvm.LawKit.callS X0 hx (y := (⟨"java/lang/StringUTF16", "newBytesFor", "(I)[B"⟩ : MethodName)) hown (mvT hZ (w_ hw 115 rfl)) (mvT hZ (w_ hw 116 rfl)) (mvT hZ (w_ hw 50 rfl)) (mvT hZ (w_ hw 117 rfl)) (by decide) (backOf (W := 0) (rnbf_2 l Z a0 hw []  h0 n0 Z0) hZ (w_ hw 117 rfl) (w_ hw 50 rfl) (by decide) (by decide)) (g := (mkF m 1 #[.val (.ref ca), .val (.int (0 : Int32)), .val (.int (2 : Int32)), .unset, .unset] [(.int (2 : Int32))])) rfl (by rw [hml]; rfl) (argsL := [(.int (2 : Int32))]) (rest := []) (lenOf pd_2 rfl) rfl (by show 2 * 0 + _ ≤ _; exact Nat.le_of_eq rfl) (hb hby d25_1) (fun _ _ => ⟨rfl, e0, (by decide : 0 + 1 ≤ _), (by decide : 0 + 4 ≤ _)⟩)
  dsimp only [Pt.U, Pt.locs, Pt.cells, Pt.slots] at X1 l1 y1 z1 st1 hQ1
  subst l1 y1 z1
  obtain ⟨nb, kn, rfl, N1, K1, B1, gv⟩ := hQ1
  have Nf1 := Fr.app N0 N1
  refine Goes.via (S' := T1.setTop (mkF m 4 #[.val (.ref ca), .val (.int (0 : Int32)), .val (.int (2 : Int32)), .unset, .unset] [(.ref nb)])) (st1) ?_
  have C1 := C0.keep K1 nin0
  have O1 := O0.keep K1 all0
  have gb : n0 ≤ nb := Nat.le_trans Z0 gv
  have nab : ca ≠ nb := Nat.ne_of_lt (Nat.lt_of_lt_of_le C0.lt gv)
  have Z1 := Nat.le_trans Z0 K1.1
  refine Goes.via (S' := T1.setTop (mkF m 19 #[.val (.ref ca), .val (.int (0 : Int32)), .val (.int (2 : Int32)), .val (.ref nb), .val (.int (0 : Int32))] [(.int (0 : Int32)), (.ref ca), (.int (0 : Int32)), (.ref nb)])) (fun tz kz => ?_) ?_
  · show Steps p.tables e below (T1.setTop (mkF m 4 #[.val (.ref ca), .val (.int (0 : Int32)), .val (.int (2 : Int32)), .unset, .unset] [(.ref nb)])) _
    refine XS.astoreN X1.here hx rfl (hb hby d25_4) rfl rfl (l' := #[.val (.ref ca), .val (.int (0 : Int32)), .val (.int (2 : Int32)), .val (.ref nb), .unset]) rfl ?_
    refine XS.iconst X1.here hx rfl (hb hby d25_5) ?_
    refine XS.istore X1.here hx rfl (hb hby d25_6) rfl (l' := #[.val (.ref ca), .val (.int (0 : Int32)), .val (.int (2 : Int32)), .val (.ref nb), .val (.int (0 : Int32))]) rfl ?_
    refine XS.iload X1.here hx rfl (hb hby d25_8) rfl ?_
    show Steps p.tables e below (T1.setTop (mkF m 10 #[.val (.ref ca), .val (.int (0 : Int32)), .val (.int (2 : Int32)), .val (.ref nb), .val (.int (0 : Int32))] [(.int (0 : Int32))])) _
    refine XS.iloadN X1.here hx rfl (hb hby d25_10) rfl ?_
    refine XS.icmpNo X1.here hx rfl (hb hby d25_11) rfl (tlt (by first | decide | rfl)).2.1 ?_
    refine XS.aloadN X1.here hx rfl (hb hby d25_14) rfl rfl ?_
    refine XS.iload X1.here hx rfl (hb hby d25_15) rfl ?_
    show Steps p.tables e below (T1.setTop (mkF m 17 #[.val (.ref ca), .val (.int (0 : Int32)), .val (.int (2 : Int32)), .val (.ref nb), .val (.int (0 : Int32))] [(.int (0 : Int32)), (.ref nb)])) _
    refine XS.aloadN X1.here hx rfl (hb hby d25_17) rfl rfl ?_
    refine XS.iloadN X1.here hx rfl (hb hby d25_18) rfl ?_
    exact kz
  obtain ⟨cl2, Ar2, q2, Sz2, Nn2, Hs2, G2⟩ := (id C1)
  refine Goes.via (S' := T1.setTop (mkF m 20 #[.val (.ref ca), .val (.int (0 : Int32)), .val (.int (2 : Int32)), .val (.ref nb), .val (.int (0 : Int32))] [(.int c0), (.int (0 : Int32)), (.ref nb)])) (fun tz kz => ?_) ?_
  · show Steps p.tables e below (T1.setTop (mkF m 19 #[.val (.ref ca), .val (.int (0 : Int32)), .val (.int (2 : Int32)), .val (.ref nb), .val (.int (0 : Int32))] [(.int (0 : Int32)), (.ref ca), (.int (0 : Int32)), (.ref nb)])) _
    refine X1.caload hx (j := (0 : Int32)) (v := (.int c0)) (by exact Ar2.1) (State.isArrayOf_alike hZ.alike Ar2.2.1) Ar2.2.2 (inb_of Sz2 ⟨by decide, by decide⟩) (Has.at Hs2 (inb_of Sz2 ⟨by decide, by decide⟩) rfl) (g := (mkF m 19 #[.val (.ref ca), .val (.int (0 : Int32)), .val (.int (2 : Int32)), .val (.ref nb), .val (.int (0 : Int32))] [(.int (0 : Int32)), (.ref ca), (.int (0 : Int32)), (.ref nb)])) rfl rfl (hb hby d25_19) _ ?_
    exact kz
  obtain ⟨_, _, ⟨T3, L3, k3, n3⟩, -, X3, ⟨Lc3, hQ3, l3, y3, z3⟩, st3⟩ := Jvm.LawKit.callS X1 hx (y := (⟨"java/lang/StringUTF16", "putChar", "([BII)V"⟩ : MethodName)) hown (mvT hZ (w_ hw 122 rfl)) (mvT hZ (w_ hw 123 rfl)) (mvT hZ (w_ hw 50 rfl)) (mvT hZ (w_ hw 124 rfl)) (by decide) (backOf (W := 0) (rpc l Z a0 hw [] nb (0 : Int32) c0 kn (4 : Int32) (0 : Int32) (1 : Int32) 0 1 [.int 0, .int 0, .int 0, .int 0] T1.heap n0 Z1 SA SH SL O1 B1 gb rfl rfl ⟨by decide, by decide⟩ ⟨by decide, by decide⟩ rfl rfl (Nat.le_of_ble_eq_true rfl) (Nat.le_of_ble_eq_true rfl)) hZ (w_ hw 124 rfl) (w_ hw 50 rfl) (by decide) (by decide)) (g := (mkF m 20 #[.val (.ref ca), .val (.int (0 : Int32)), .val (.int (2 : Int32)), .val (.ref nb), .val (.int (0 : Int32))] [(.int c0), (.int (0 : Int32)), (.ref nb)])) rfl (by rw [hml]; rfl) (argsL := [(.ref nb), (.int (0 : Int32)), (.int c0)]) (rest := []) (lenOf pd_3 rfl) rfl (by show 2 * 0 + _ ≤ _; exact Nat.le_of_eq rfl) (hb hby d25_20) (fun _ _ => ⟨rfl, rfl, (by decide : 1 + 0 ≤ _), (by decide : 4 + 0 ≤ _)⟩)
  dsimp only [Pt.U, Pt.locs, Pt.cells, Pt.slots] at X3 l3 y3 z3 st3 hQ3
  subst l3 y3 z3
  obtain ⟨rfl, N3, K3, B3⟩ := hQ3
  have Nf3 := Fr.app Nf1 N3
  refine Goes.via (S' := T3.setTop (mkF m 23 #[.val (.ref ca), .val (.int (0 : Int32)), .val (.int (2 : Int32)), .val (.ref nb), .val (.int (0 : Int32))] [])) (st3) ?_
  have B3 : Arv Z T3.heap nb kn .byte (4 : Int32) [.int (own_lo c0), .int (own_hi c0), .int 0, .int 0] (.int 0) := B3
  have C3 := C1.keep K3 (fun q => nab (List.mem_singleton.mp q))
  have O3 := O1.keep K3 (allS gb all0)
  have J3 := K1.trans K3 (allS (Or.inr gv) all0)
  have Z3 := Nat.le_trans Z1 K3.1
  refine Goes.via (S' := T3.setTop (mkF m 19 #[.val (.ref ca), .val (.int (1 : Int32)), .val (.int (2 : Int32)), .val (.ref nb), .val (.int (1 : Int32))] [(.int (1 : Int32)), (.ref ca), (.int (1 : Int32)), (.ref nb)])) (fun tz kz => ?_) ?_
  · show Steps p.tables e below (T3.setTop (mkF m 23 #[.val (.ref ca), .val (.int (0 : Int32)), .val (.int (2 : Int32)), .val (.ref nb), .val (.int (0 : Int32))] [])) _
    refine XS.iinc X3.here hx rfl (hb hby d25_23) rfl (l' := #[.val (.ref ca), .val (.int (1 : Int32)), .val (.int (2 : Int32)), .val (.ref nb), .val (.int (0 : Int32))]) rfl ?_
    refine XS.iinc X3.here hx rfl (hb hby d25_26) rfl (l' := #[.val (.ref ca), .val (.int (1 : Int32)), .val (.int (2 : Int32)), .val (.ref nb), .val (.int (1 : Int32))]) rfl ?_
    refine XS.goto X3.here hx rfl (pc0 := 29) (pc' := 8) rfl (hb hby d25_29) (by decide) (by decide) ?_
    refine XS.iload X3.here hx rfl (hb hby d25_8) rfl ?_
    show Steps p.tables e below (T3.setTop (mkF m 10 #[.val (.ref ca), .val (.int (1 : Int32)), .val (.int (2 : Int32)), .val (.ref nb), .val (.int (1 : Int32))] [(.int (1 : Int32))])) _
    refine XS.iloadN X3.here hx rfl (hb hby d25_10) rfl ?_
    refine XS.icmpNo X3.here hx rfl (hb hby d25_11) rfl (tlt (by first | decide | rfl)).2.1 ?_
    refine XS.aloadN X3.here hx rfl (hb hby d25_14) rfl rfl ?_
    refine XS.iload X3.here hx rfl (hb hby d25_15) rfl ?_
    show Steps p.tables e below (T3.setTop (mkF m 17 #[.val (.ref ca), .val (.int (1 : Int32)), .val (.int (2 : Int32)), .val (.ref nb), .val (.int (1 : Int32))] [(.int (1 : Int32)), (.ref nb)])) _
    refine XS.aloadN X3.here hx rfl (hb hby d25_17) rfl rfl ?_
    refine XS.iloadN X3.here hx rfl (hb hby d25_18) rfl ?_
    exact kz
  obtain ⟨cl4, Ar4, q4, Sz4, Nn4, Hs4, G4⟩ := (id C3)
  refine Goes.via (S' := T3.setTop (mkF m 20 #[.val (.ref ca), .val (.int (1 : Int32)), .val (.int (2 : Int32)), .val (.ref nb), .val (.int (1 : Int32))] [(.int c1), (.int (1 : Int32)), (.ref nb)])) (fun tz kz => ?_) ?_
  · show Steps p.tables e below (T3.setTop (mkF m 19 #[.val (.ref ca), .val (.int (1 : Int32)), .val (.int (2 : Int32)), .val (.ref nb), .val (.int (1 : Int32))] [(.int (1 : Int32)), (.ref ca), (.int (1 : Int32)), (.ref nb)])) _
    refine X3.caload hx (j := (1 : Int32)) (v := (.int c1)) (by exact Ar4.1) (State.isArrayOf_alike hZ.alike Ar4.2.1) Ar4.2.2 (inb_of Sz4 ⟨by decide, by decide⟩) (Has.at Hs4 (inb_of Sz4 ⟨by decide, by decide⟩) rfl) (g := (mkF m 19 #[.val (.ref ca), .val (.int (1 : Int32)), .val (.int (2 : Int32)), .val (.ref nb), .val (.int (1 : Int32))] [(.int (1 : Int32)), (.ref ca), (.int (1 : Int32)), (.ref nb)])) rfl rfl (hb hby d25_19) _ ?_
    exact kz
  obtain ⟨_, _, ⟨T5, L5, k5, n5⟩, -, X5, ⟨Lc5, hQ5, l5, y5, z5⟩, st5⟩ := Jvm.LawKit.callS X3 hx (y := (⟨"java/lang/StringUTF16", "putChar", "([BII)V"⟩ : MethodName)) hown (mvT hZ (w_ hw 122 rfl)) (mvT hZ (w_ hw 123 rfl)) (mvT hZ (w_ hw 50 rfl)) (mvT hZ (w_ hw 124 rfl)) (by decide) (backOf (W := 0) (rpc l Z a0 hw [] nb (1 : Int32) c1 kn (4 : Int32) (2 : Int32) (3 : Int32) 2 3 [.int (own_lo c0), .int (own_hi c0), .int 0, .int 0] T3.heap n0 Z3 SA SH SL O3 B3 gb rfl rfl ⟨by decide, by decide⟩ ⟨by decide, by decide⟩ rfl rfl (Nat.le_of_ble_eq_true rfl) (Nat.le_of_ble_eq_true rfl)) hZ (w_ hw 124 rfl) (w_ hw 50 rfl) (by decide) (by decide)) (g := (mkF m 20 #[.val (.ref ca), .val (.int (1 : Int32)), .val (.int (2 : Int32)), .val (.ref nb), .val (.int (1 : Int32))] [(.int c1), (.int (1 : Int32)), (.ref nb)])) rfl (by rw [hml]; rfl) (argsL := [(.ref nb), (.int (1 : Int32)), (.int c1)]) (rest := []) (lenOf pd_3 rfl) rfl (by show 2 * 0 + _ ≤ _; exact Nat.le_of_eq rfl) (hb hby d25_20) (fun _ _ => ⟨rfl, rfl, (by decide : 1 + 0 ≤ _), (by decide : 4 + 0 ≤ _)⟩)
  dsimp only [Pt.U, Pt.locs, Pt.cells, Pt.slots] at X5 l5 y5 z5 st5 hQ5
  subst l5 y5 z5
  obtain ⟨rfl, N5, K5, B5⟩ := hQ5
  have Nf5 := Fr.app Nf3 N5
  refine Goes.via (S' := T5.setTop (mkF m 23 #[.val (.ref ca), .val (.int (1 : Int32)), .val (.int (2 : Int32)), .val (.ref nb), .val (.int (1 : Int32))] [])) (st5) ?_
  have B5 : Arv Z T5.heap nb kn .byte (4 : Int32) [.int (own_lo c0), .int (own_hi c0), .int (own_lo c1), .int (own_hi c1)] (.int 0) := B5
  have C5 := C3.keep K5 (fun q => nab (List.mem_singleton.mp q))
  have O5 := O3.keep K5 (allS gb all0)
  have J5 := J3.trans K5 (allS (Or.inr gv) all0)
  have Z5 := Nat.le_trans Z3 K5.1
  refine Goes.via (S' := T5.setTop (mkF m 33 #[.val (.ref ca), .val (.int (2 : Int32)), .val (.int (2 : Int32)), .val (.ref nb), .val (.int (2 : Int32))] [(.ref nb)])) (fun tz kz => ?_) ?_
  · show Steps p.tables e below (T5.setTop (mkF m 23 #[.val (.ref ca), .val (.int (1 : Int32)), .val (.int (2 : Int32)), .val (.ref nb), .val (.int (1 : Int32))] [])) _
    refine XS.iinc X5.here hx rfl (hb hby d25_23) rfl (l' := #[.val (.ref ca), .val (.int (2 : Int32)), .val (.int (2 : Int32)), .val (.ref nb), .val (.int (1 : Int32))]) rfl ?_
    refine XS.iinc X5.here hx rfl (hb hby d25_26) rfl (l' := #[.val (.ref ca), .val (.int (2 : Int32)), .val (.int (2 : Int32)), .val (.ref nb), .val (.int (2 : Int32))]) rfl ?_
    refine XS.goto X5.here hx rfl (pc0 := 29) (pc' := 8) rfl (hb hby d25_29) (by decide) (by decide) ?_
    refine XS.iload X5.here hx rfl (hb hby d25_8) rfl ?_
    show Steps p.tables e below (T5.setTop (mkF m 10 #[.val (.ref ca), .val (.int (2 : Int32)), .val (.int (2 : Int32)), .val (.ref nb), .val (.int (2 : Int32))] [(.int (2 : Int32))])) _
    refine XS.iloadN X5.here hx rfl (hb hby d25_10) rfl ?_
    refine XS.icmpYes X5.here hx rfl (pc0 := 11) (pc' := 32) rfl (hb hby d25_11) rfl (flt (by first | decide | rfl)).2.1 (by decide) (by decide) ?_
    refine XS.aloadN X5.here hx rfl (hb hby d25_32) rfl rfl ?_
    exact kz
  exact Goes.retO X5 hx Bd.notSynchronized Bd.returns rfl (Or.inr (Or.inr (Or.inr (Or.inr ⟨rfl, rfl, rfl⟩)))) (hb hby d25_33) (Nat.le_of_ble_eq_true rfl) (Nat.le_of_ble_eq_true rfl) ⟨nb, kn, rfl, Nf5, J5, B5, gv⟩
def Q_rc5_2 (Z : State) (ca : Addr) (bb : Addr) (ka kz : ClassId) (c0 c1 : Int32) (h0 : Heap) (n0 : Nat) : Option Value → Heap → List Loc → Prop := fun v h L => ∃ j, v = some (.int j) ∧ Fr n0 L ∧ Keep h0 h [bb] ∧ ((j = (2 : Int32) ∧ (¬ (255 : Int32) < c0 ∧ ¬ (255 : Int32) < c1) ∧ Arv Z h bb kz .byte (2 : Int32) [.int (own_by c0), .int (own_by c1)] (.int 0)) ∨ own_big (2 : Int32) (4 : Int32) [.int (own_lo c0), .int (own_hi c0), .int (own_lo c1), .int (own_hi c1)] j)
set_option maxRecDepth 65536 in
set_option maxHeartbeats 40000000 in
theorem rc5_2 (l : Launch) (Z : State) (a0 : Array Value) (hw : ∀ d ∈ tables_1, d.before a0 Z = true) (ws : List Jvm.Cond) (ca : Addr) (bb : Addr) (ka kz : ClassId) (c0 c1 : Int32) (h0 : Heap) (n0 : Nat) (Z0 : n0 ≤ h0.size) (C0 : Arv Z h0 ca ka .char (2 : Int32) [.int c0, .int c1] (.int 0)) (B0 : Arv Z h0 bb kz .byte (2 : Int32) [.int 0, .int 0] (.int 0)) (gb : n0 ≤ bb) (nab : ca ≠ bb) (z0 : nar .char c0 = c0) (z1 : nar .char c1 = c1) :
    own_M l Z (⟨"java/lang/StringUTF16", "compress", "([CI[BII)I"⟩ : MethodName) (Jvm.Cond.code (⟨"java/lang/StringUTF16", "compress", "([CI[BII)I"⟩ : MethodName) jdk_52_method_21_code 7 (some .int)) ws ({ frames := 0, cells := 0, slots := 0, locals := 0 } : Room) #[(.ref ca), (.int (0 : Int32)), (.ref bb), (.int (0 : Int32)), (.int (2 : Int32))] h0 (Q_rc5_2 Z ca bb ka kz c0 c1 h0 n0) := by
  refine MetFree.of_bodySF (plainFor_of_name pn_10) hisR ?_
  intro p e s m args below meth c s₁ Bd hml0 hP hK
  obtain ⟨rfl, hZ, hh⟩ := hP
  have hx := Bd.exec
  have hby := Bd.bytes
  have hml : c.maxLocals = 7 := hml0
  have hown : s.vm.findClass "java/lang/StringUTF16" = some m.cls := findClass_of_methodNamed Bd.named
  have hnm := (name_of_methodNamed Bd.named Bd.method).1
  have X0 : Stand p l e ({ frames := 0, cells := 0, slots := 0, locals := 0 } : Room) s m #[(.ref ca), (.int (0 : Int32)), (.ref bb), (.int (0 : Int32)), (.int (2 : Int32))] below meth c s₁ [] 0 0 := Stand.of_body Bd
  have e0 : s₁.heap = h0 := by rw [← hh, Bd.state]; rfl
  have N0 := Fr.nil n0
  show Goes p e below (Fin s (Q_rc5_2 Z ca bb ka kz c0 c1 h0 n0) ({ frames := 0, cells := 0, slots := 0, locals := 0 } : Room).cells ({ frames := 0, cells := 0, slots := 0, locals := 0 } : Room).slots) _
  refine Goes.via (S' := s₁.setTop (mkF m 0 #[.val (.ref ca), .val (.int (0 : Int32)), .val (.ref bb), .val (.int (0 : Int32)), .val (.int (2 : Int32)), .unset, .unset] [])) (fun tz kz => castTop (ef_10 m ca (0 : Int32) bb (0 : Int32) (2 : Int32) ) kz) ?_
  refine Goes.via (S' := s₁.setTop (mkF m 12 #[.val (.ref ca), .val (.int (0 : Int32)), .val (.ref bb), .val (.int (0 : Int32)), .val (.int (2 : Int32)), .val (.int (0 : Int32)), .unset] [(.int (0 : Int32)), (.ref ca)])) (fun tz kz => ?_) ?_
  · show Steps p.tables e below (s₁.setTop (mkF m 0 #[.val (.ref ca), .val (.int (0 : Int32)), .val (.ref bb), .val (.int (0 : Int32)), .val (.int (2 : Int32)), .unset, .unset] [])) _
    refine XS.iconst X0.here hx rfl (hb hby d10_0) ?_
    refine XS.istore X0.here hx rfl (hb hby d10_1) rfl (l' := #[.val (.ref ca), .val (.int (0 : Int32)), .val (.ref bb), .val (.int (0 : Int32)), .val (.int (2 : Int32)), .val (.int (0 : Int32)), .unset]) rfl ?_
    refine XS.iload X0.here hx rfl (hb hby d10_3) rfl ?_
    refine XS.iload X0.here hx rfl (hb hby d10_5) rfl ?_
    show Steps p.tables e below (s₁.setTop (mkF m 7 #[.val (.ref ca), .val (.int (0 : Int32)), .val (.ref bb), .val (.int (0 : Int32)), .val (.int (2 : Int32)), .val (.int (0 : Int32)), .unset] [(.int (2 : Int32)), (.int (0 : Int32))])) _
    refine XS.icmpNo X0.here hx rfl (hb hby d10_7) rfl (tlt (by first | decide | rfl)).2.1 ?_
    refine XS.aloadN X0.here hx rfl (hb hby d10_10) rfl rfl ?_
    refine XS.iloadN X0.here hx rfl (hb hby d10_11) rfl ?_
    exact kz
  obtain ⟨cl1, Ar1, q1, Sz1, Nn1, Hs1, G1⟩ := (id C0)
  refine Goes.via (S' := s₁.setTop (mkF m 20 #[.val (.ref ca), .val (.int (0 : Int32)), .val (.ref bb), .val (.int (0 : Int32)), .val (.int (2 : Int32)), .val (.int (0 : Int32)), .val (.int c0)] [(.int (255 : Int32)), (.int c0)])) (fun tz kz => ?_) ?_
  · show Steps p.tables e below (s₁.setTop (mkF m 12 #[.val (.ref ca), .val (.int (0 : Int32)), .val (.ref bb), .val (.int (0 : Int32)), .val (.int (2 : Int32)), .val (.int (0 : Int32)), .unset] [(.int (0 : Int32)), (.ref ca)])) _
    refine X0.caload hx (j := (0 : Int32)) (v := (.int c0)) (by rw [e0]; exact Ar1.1) (State.isArrayOf_alike hZ.alike Ar1.2.1) Ar1.2.2 (inb_of Sz1 ⟨by decide, by decide⟩) (Has.at Hs1 (inb_of Sz1 ⟨by decide, by decide⟩) rfl) (g := (mkF m 12 #[.val (.ref ca), .val (.int (0 : Int32)), .val (.ref bb), .val (.int (0 : Int32)), .val (.int (2 : Int32)), .val (.int (0 : Int32)), .unset] [(.int (0 : Int32)), (.ref ca)])) rfl rfl (hb hby d10_12) _ ?_
    refine XS.istore X0.here hx rfl (hb hby d10_13) rfl (l' := #[.val (.ref ca), .val (.int (0 : Int32)), .val (.ref bb), .val (.int (0 : Int32)), .val (.int (2 : Int32)), .val (.int (0 : Int32)), .val (.int c0)]) rfl ?_
    refine XS.iload X0.here hx rfl (hb hby d10_15) rfl ?_
    refine XS.sipush X0.here hx rfl (hb hby d10_17) ?_
    exact kz
  by_cases hc20_2 : (255 : Int32) < c0
  · refine Goes.via (S' := s₁.setTop (mkF m 25 #[.val (.ref ca), .val (.int (0 : Int32)), .val (.ref bb), .val (.int (0 : Int32)), .val (.int (2 : Int32)), .val (.int (0 : Int32)), .val (.int c0)] [(.int (0 : Int32))])) (fun tz kz => ?_) ?_
    · show Steps p.tables e below (s₁.setTop (mkF m 20 #[.val (.ref ca), .val (.int (0 : Int32)), .val (.ref bb), .val (.int (0 : Int32)), .val (.int (2 : Int32)), .val (.int (0 : Int32)), .val (.int c0)] [(.int (255 : Int32)), (.int c0)])) _
      refine XS.icmpNo X0.here hx rfl (hb hby d10_20) rfl (tlt hc20_2).2.2.2 ?_
      refine XS.iload X0.here hx rfl (hb hby d10_23) rfl ?_
      exact kz
    exact Goes.retI X0 hx Bd.notSynchronized Bd.returns (hb hby d10_25) (Nat.le_of_ble_eq_true rfl) (Nat.le_of_ble_eq_true rfl) (by rw [e0]; exact ⟨(0 : Int32), rfl, N0, Keep.refl h0 [bb], Or.inr ⟨(0 : Int32), (1 : Int32), c0, by decide, rfl, rfl, ⟨by decide, by decide⟩, ⟨by decide, by decide⟩, rfl, rfl, z0, hc20_2⟩⟩)
  · refine Goes.via (S' := s₁.setTop (mkF m 31 #[.val (.ref ca), .val (.int (0 : Int32)), .val (.ref bb), .val (.int (0 : Int32)), .val (.int (2 : Int32)), .val (.int (0 : Int32)), .val (.int c0)] [(.int (c0.toInt8.toInt32)), (.int (0 : Int32)), (.ref bb)])) (fun tz kz => ?_) ?_
    · show Steps p.tables e below (s₁.setTop (mkF m 20 #[.val (.ref ca), .val (.int (0 : Int32)), .val (.ref bb), .val (.int (0 : Int32)), .val (.int (2 : Int32)), .val (.int (0 : Int32)), .val (.int c0)] [(.int (255 : Int32)), (.int c0)])) _
      refine XS.icmpYes X0.here hx rfl (pc0 := 20) (pc' := 26) rfl (hb hby d10_20) rfl (flt hc20_2).2.2.2 (by decide) (by decide) ?_
      refine XS.aloadN X0.here hx rfl (hb hby d10_26) rfl rfl ?_
      refine XS.iloadN X0.here hx rfl (hb hby d10_27) rfl ?_
      refine XS.iload X0.here hx rfl (hb hby d10_28) rfl ?_
      show Steps p.tables e below (s₁.setTop (mkF m 30 #[.val (.ref ca), .val (.int (0 : Int32)), .val (.ref bb), .val (.int (0 : Int32)), .val (.int (2 : Int32)), .val (.int (0 : Int32)), .val (.int c0)] [(.int c0), (.int (0 : Int32)), (.ref bb)])) _
      refine XS.i2b X0.here hx rfl (hb hby d10_30) rfl ?_
      exact kz
    obtain ⟨cl3, Ar3, q3, Sz3, Nn3, Hs3, G3⟩ := (id B0)
    obtain ⟨T4, h4, X4, e4, W4, st4⟩ := stB X0 hx hZ e0 Ar3 (j := (0 : Int32)) (inb_of Sz3 ⟨by decide, by decide⟩) (g := (mkF m 31 #[.val (.ref ca), .val (.int (0 : Int32)), .val (.ref bb), .val (.int (0 : Int32)), .val (.int (2 : Int32)), .val (.int (0 : Int32)), .val (.int c0)] [(.int (c0.toInt8.toInt32)), (.int (0 : Int32)), (.ref bb)])) rfl rfl (hb hby d10_31)
    refine Goes.via (S' := T4.setTop (mkF m 32 #[.val (.ref ca), .val (.int (0 : Int32)), .val (.ref bb), .val (.int (0 : Int32)), .val (.int (2 : Int32)), .val (.int (0 : Int32)), .val (.int c0)] [])) st4 ?_
    have N4 := Fr.snoc X4 N0 gb
    have C4 := (C0).other W4 nab
    have A4 := Arv.set Ar3 q3 Sz3 Nn3 Hs3 G3 (fits_nar_byte _) W4 0 rfl (Nat.le_of_ble_eq_true rfl)
    have K4 := (Keep.refl h0 [bb]).wr W4 (Or.inl (List.mem_singleton.mpr rfl))
    refine Goes.via (S' := T4.setTop (mkF m 12 #[.val (.ref ca), .val (.int (1 : Int32)), .val (.ref bb), .val (.int (1 : Int32)), .val (.int (2 : Int32)), .val (.int (1 : Int32)), .val (.int c0)] [(.int (1 : Int32)), (.ref ca)])) (fun tz kz => ?_) ?_
    · show Steps p.tables e below (T4.setTop (mkF m 32 #[.val (.ref ca), .val (.int (0 : Int32)), .val (.ref bb), .val (.int (0 : Int32)), .val (.int (2 : Int32)), .val (.int (0 : Int32)), .val (.int c0)] [])) _
      refine XS.iinc X4.here hx rfl (hb hby d10_32) rfl (l' := #[.val (.ref ca), .val (.int (1 : Int32)), .val (.ref bb), .val (.int (0 : Int32)), .val (.int (2 : Int32)), .val (.int (0 : Int32)), .val (.int c0)]) rfl ?_
      refine XS.iinc X4.here hx rfl (hb hby d10_35) rfl (l' := #[.val (.ref ca), .val (.int (1 : Int32)), .val (.ref bb), .val (.int (1 : Int32)), .val (.int (2 : Int32)), .val (.int (0 : Int32)), .val (.int c0)]) rfl ?_
      refine XS.iinc X4.here hx rfl (hb hby d10_38) rfl (l' := #[.val (.ref ca), .val (.int (1 : Int32)), .val (.ref bb), .val (.int (1 : Int32)), .val (.int (2 : Int32)), .val (.int (1 : Int32)), .val (.int c0)]) rfl ?_
      refine XS.goto X4.here hx rfl (pc0 := 41) (pc' := 3) rfl (hb hby d10_41) (by decide) (by decide) ?_
      show Steps p.tables e below (T4.setTop (mkF m 3 #[.val (.ref ca), .val (.int (1 : Int32)), .val (.ref bb), .val (.int (1 : Int32)), .val (.int (2 : Int32)), .val (.int (1 : Int32)), .val (.int c0)] [])) _
      refine XS.iload X4.here hx rfl (hb hby d10_3) rfl ?_
      refine XS.iload X4.here hx rfl (hb hby d10_5) rfl ?_
      refine XS.icmpNo X4.here hx rfl (hb hby d10_7) rfl (tlt (by first | decide | rfl)).2.1 ?_
      refine XS.aloadN X4.here hx rfl (hb hby d10_10) rfl rfl ?_
      show Steps p.tables e below (T4.setTop (mkF m 11 #[.val (.ref ca), .val (.int (1 : Int32)), .val (.ref bb), .val (.int (1 : Int32)), .val (.int (2 : Int32)), .val (.int (1 : Int32)), .val (.int c0)] [(.ref ca)])) _
      refine XS.iloadN X4.here hx rfl (hb hby d10_11) rfl ?_
      exact kz
    obtain ⟨cl5, Ar5, q5, Sz5, Nn5, Hs5, G5⟩ := (id C4)
    refine Goes.via (S' := T4.setTop (mkF m 20 #[.val (.ref ca), .val (.int (1 : Int32)), .val (.ref bb), .val (.int (1 : Int32)), .val (.int (2 : Int32)), .val (.int (1 : Int32)), .val (.int c1)] [(.int (255 : Int32)), (.int c1)])) (fun tz kz => ?_) ?_
    · show Steps p.tables e below (T4.setTop (mkF m 12 #[.val (.ref ca), .val (.int (1 : Int32)), .val (.ref bb), .val (.int (1 : Int32)), .val (.int (2 : Int32)), .val (.int (1 : Int32)), .val (.int c0)] [(.int (1 : Int32)), (.ref ca)])) _
      refine X4.caload hx (j := (1 : Int32)) (v := (.int c1)) (by rw [e4]; exact Ar5.1) (State.isArrayOf_alike hZ.alike Ar5.2.1) Ar5.2.2 (inb_of Sz5 ⟨by decide, by decide⟩) (Has.at Hs5 (inb_of Sz5 ⟨by decide, by decide⟩) rfl) (g := (mkF m 12 #[.val (.ref ca), .val (.int (1 : Int32)), .val (.ref bb), .val (.int (1 : Int32)), .val (.int (2 : Int32)), .val (.int (1 : Int32)), .val (.int c0)] [(.int (1 : Int32)), (.ref ca)])) rfl rfl (hb hby d10_12) _ ?_
      refine XS.istore X4.here hx rfl (hb hby d10_13) rfl (l' := #[.val (.ref ca), .val (.int (1 : Int32)), .val (.ref bb), .val (.int (1 : Int32)), .val (.int (2 : Int32)), .val (.int (1 : Int32)), .val (.int c1)]) rfl ?_
      refine XS.iload X4.here hx rfl (hb hby d10_15) rfl ?_
      refine XS.sipush X4.here hx rfl (hb hby d10_17) ?_
      exact kz
    by_cases hc20_6 : (255 : Int32) < c1
    · refine Goes.via (S' := T4.setTop (mkF m 25 #[.val (.ref ca), .val (.int (1 : Int32)), .val (.ref bb), .val (.int (1 : Int32)), .val (.int (2 : Int32)), .val (.int (1 : Int32)), .val (.int c1)] [(.int (1 : Int32))])) (fun tz kz => ?_) ?_
      · show Steps p.tables e below (T4.setTop (mkF m 20 #[.val (.ref ca), .val (.int (1 : Int32)), .val (.ref bb), .val (.int (1 : Int32)), .val (.int (2 : Int32)), .val (.int (1 : Int32)), .val (.int c1)] [(.int (255 : Int32)), (.int c1)])) _
        refine XS.icmpNo X4.here hx rfl (hb hby d10_20) rfl (tlt hc20_6).2.2.2 ?_
        refine XS.iload X4.here hx rfl (hb hby d10_23) rfl ?_
        exact kz
      exact Goes.retI X4 hx Bd.notSynchronized Bd.returns (hb hby d10_25) (Nat.le_of_ble_eq_true rfl) (Nat.le_of_ble_eq_true rfl) (by rw [e4]; exact ⟨(1 : Int32), rfl, N4, K4, Or.inr ⟨(2 : Int32), (3 : Int32), c1, by decide, rfl, rfl, ⟨by decide, by decide⟩, ⟨by decide, by decide⟩, rfl, rfl, z1, hc20_6⟩⟩)
    · refine Goes.via (S' := T4.setTop (mkF m 31 #[.val (.ref ca), .val (.int (1 : Int32)), .val (.ref bb), .val (.int (1 : Int32)), .val (.int (2 : Int32)), .val (.int (1 : Int32)), .val (.int c1)] [(.int (c1.toInt8.toInt32)), (.int (1 : Int32)), (.ref bb)])) (fun tz kz => ?_) ?_
      · show Steps p.tables e below (T4.setTop (mkF m 20 #[.val (.ref ca), .val (.int (1 : Int32)), .val (.ref bb), .val (.int (1 : Int32)), .val (.int (2 : Int32)), .val (.int (1 : Int32)), .val (.int c1)] [(.int (255 : Int32)), (.int c1)])) _
        refine XS.icmpYes X4.here hx rfl (pc0 := 20) (pc' := 26) rfl (hb hby d10_20) rfl (flt hc20_6).2.2.2 (by decide) (by decide) ?_
        refine XS.aloadN X4.here hx rfl (hb hby d10_26) rfl rfl ?_
        refine XS.iloadN X4.here hx rfl (hb hby d10_27) rfl ?_
        refine XS.iload X4.here hx rfl (hb hby d10_28) rfl ?_
        show Steps p.tables e below (T4.setTop (mkF m 30 #[.val (.ref ca), .val (.int (1 : Int32)), .val (.ref bb), .val (.int (1 : Int32)), .val (.int (2 : Int32)), .val (.int (1 : Int32)), .val (.int c1)] [(.int c1), (.int (1 : Int32)), (.ref bb)])) _
        refine XS.i2b X4.here hx rfl (hb hby d10_30) rfl ?_
        exact kz
      obtain ⟨cl7, Ar7, q7, Sz7, Nn7, Hs7, G7⟩ := (id A4)
      obtain ⟨T8, h8, X8, e8, W8, st8⟩ := stB X4 hx hZ e4 Ar7 (j := (1 : Int32)) (inb_of Sz7 ⟨by decide, by decide⟩) (g := (mkF m 31 #[.val (.ref ca), .val (.int (1 : Int32)), .val (.ref bb), .val (.int (1 : Int32)), .val (.int (2 : Int32)), .val (.int (1 : Int32)), .val (.int c1)] [(.int (c1.toInt8.toInt32)), (.int (1 : Int32)), (.ref bb)])) rfl rfl (hb hby d10_31)
      refine Goes.via (S' := T8.setTop (mkF m 32 #[.val (.ref ca), .val (.int (1 : Int32)), .val (.ref bb), .val (.int (1 : Int32)), .val (.int (2 : Int32)), .val (.int (1 : Int32)), .val (.int c1)] [])) st8 ?_
      have N8 := Fr.snoc X8 N4 gb
      have C8 := (C4).other W8 nab
      have A8 := Arv.set Ar7 q7 Sz7 Nn7 Hs7 G7 (fits_nar_byte _) W8 1 rfl (Nat.le_of_ble_eq_true rfl)
      have K8 := (K4).wr W8 (Or.inl (List.mem_singleton.mpr rfl))
      refine Goes.via (S' := T8.setTop (mkF m 46 #[.val (.ref ca), .val (.int (2 : Int32)), .val (.ref bb), .val (.int (2 : Int32)), .val (.int (2 : Int32)), .val (.int (2 : Int32)), .val (.int c1)] [(.int (2 : Int32))])) (fun tz kz => ?_) ?_
      · show Steps p.tables e below (T8.setTop (mkF m 32 #[.val (.ref ca), .val (.int (1 : Int32)), .val (.ref bb), .val (.int (1 : Int32)), .val (.int (2 : Int32)), .val (.int (1 : Int32)), .val (.int c1)] [])) _
        refine XS.iinc X8.here hx rfl (hb hby d10_32) rfl (l' := #[.val (.ref ca), .val (.int (2 : Int32)), .val (.ref bb), .val (.int (1 : Int32)), .val (.int (2 : Int32)), .val (.int (1 : Int32)), .val (.int c1)]) rfl ?_
        refine XS.iinc X8.here hx rfl (hb hby d10_35) rfl (l' := #[.val (.ref ca), .val (.int (2 : Int32)), .val (.ref bb), .val (.int (2 : Int32)), .val (.int (2 : Int32)), .val (.int (1 : Int32)), .val (.int c1)]) rfl ?_
        refine XS.iinc X8.here hx rfl (hb hby d10_38) rfl (l' := #[.val (.ref ca), .val (.int (2 : Int32)), .val (.ref bb), .val (.int (2 : Int32)), .val (.int (2 : Int32)), .val (.int (2 : Int32)), .val (.int c1)]) rfl ?_
        refine XS.goto X8.here hx rfl (pc0 := 41) (pc' := 3) rfl (hb hby d10_41) (by decide) (by decide) ?_
        show Steps p.tables e below (T8.setTop (mkF m 3 #[.val (.ref ca), .val (.int (2 : Int32)), .val (.ref bb), .val (.int (2 : Int32)), .val (.int (2 : Int32)), .val (.int (2 : Int32)), .val (.int c1)] [])) _
        refine XS.iload X8.here hx rfl (hb hby d10_3) rfl ?_
        refine XS.iload X8.here hx rfl (hb hby d10_5) rfl ?_
        refine XS.icmpYes X8.here hx rfl (pc0 := 7) (pc' := 44) rfl (hb hby d10_7) rfl (flt (by first | decide | rfl)).2.1 (by decide) (by decide) ?_
        refine XS.iload X8.here hx rfl (hb hby d10_44) rfl ?_
        exact kz
      exact Goes.retI X8 hx Bd.notSynchronized Bd.returns (hb hby d10_46) (Nat.le_of_ble_eq_true rfl) (Nat.le_of_ble_eq_true rfl) (by rw [e8]; exact ⟨(2 : Int32), rfl, N8, K8, Or.inl ⟨rfl, ⟨hc20_2, hc20_6⟩, A8⟩⟩)
def Q_rc3_2 (Z : State) (ca : Addr) (ka : ClassId) (c0 c1 : Int32) (h0 : Heap) (n0 : Nat) : Option Value → Heap → List Loc → Prop := fun v h L => ∃ b k, v = some (.ref b) ∧ Fr n0 L ∧ Keep h0 h [] ∧ @LE.le Nat _ h0.size b ∧ (((¬ (255 : Int32) < c0 ∧ ¬ (255 : Int32) < c1) ∧ Arv Z h b k .byte (2 : Int32) [.int (own_by c0), .int (own_by c1)] (.int 0)) ∨ Arv Z h b k .byte (4 : Int32) [.int (own_lo c0), .int (own_hi c0), .int (own_lo c1), .int (own_hi c1)] (.int 0))
set_option maxRecDepth 65536 in
set_option maxHeartbeats 40000000 in
theorem rc3_2 (l : Launch) (Z : State) (a0 : Array Value) (hw : ∀ d ∈ tables_1, d.before a0 Z = true) (ws : List Jvm.Cond) (ca : Addr) (ka : ClassId) (c0 c1 : Int32) (h0 : Heap) (n0 : Nat) (Z0 : n0 ≤ h0.size) (SA : Sta Z Z.heap "java/lang/StringUTF16" "$assertionsDisabled" "Z" (.int (1 : Int32))) (SH : Sta Z Z.heap "java/lang/StringUTF16" "HI_BYTE_SHIFT" "I" (.int (0 : Int32))) (SL : Sta Z Z.heap "java/lang/StringUTF16" "LO_BYTE_SHIFT" "I" (.int (8 : Int32))) (O0 : Old Z n0 h0) (C0 : Arv Z h0 ca ka .char (2 : Int32) [.int c0, .int c1] (.int 0)) (z0 : nar .char c0 = c0) (z1 : nar .char c1 = c1) :
    own_M l Z (⟨"java/lang/StringUTF16", "compress", "([CII)[B"⟩ : MethodName) (Jvm.Cond.code (⟨"java/lang/StringUTF16", "compress", "([CII)[B"⟩ : MethodName) jdk_52_method_16_code 6 (some (.array .byte))) ws ({ frames := 3, cells := 2, slots := 6, locals := 60 } : Room) #[(.ref ca), (.int (0 : Int32)), (.int (2 : Int32))] h0 (Q_rc3_2 Z ca ka c0 c1 h0 n0) := by
  refine MetFree.of_bodySF (plainFor_of_name pn_9) hisR ?_
  intro p e s m args below meth c s₁ Bd hml0 hP hK
  obtain ⟨rfl, hZ, hh⟩ := hP
  have hx := Bd.exec
  have hby := Bd.bytes
  have hml : c.maxLocals = 6 := hml0
  have hown : s.vm.findClass "java/lang/StringUTF16" = some m.cls := findClass_of_methodNamed Bd.named
  have hnm := (name_of_methodNamed Bd.named Bd.method).1
  have X0 : Stand p l e ({ frames := 3, cells := 2, slots := 6, locals := 60 } : Room) s m #[(.ref ca), (.int (0 : Int32)), (.int (2 : Int32))] below meth c s₁ [] 0 0 := Stand.of_body Bd
  have e0 : s₁.heap = h0 := by rw [← hh, Bd.state]; rfl
  have N0 := Fr.nil n0
  show Goes p e below (Fin s (Q_rc3_2 Z ca ka c0 c1 h0 n0) ({ frames := 3, cells := 2, slots := 6, locals := 60 } : Room).cells ({ frames := 3, cells := 2, slots := 6, locals := 60 } : Room).slots) _
  refine Goes.via (S' := s₁.setTop (mkF m 0 #[.val (.ref ca), .val (.int (0 : Int32)), .val (.int (2 : Int32)), .unset, .unset, .unset] [])) (fun tz kz => castTop (ef_9 m ca (0 : Int32) (2 : Int32) ) kz) ?_
  refine Goes.via (S' := s₁.setTop (mkF m 1 #[.val (.ref ca), .val (.int (0 : Int32)), .val (.int (2 : Int32)), .unset, .unset, .unset] [(.int (2 : Int32))])) (fun tz kz => ?_) ?_
  · show Steps p.tables e below (s₁.setTop (mkF m 0 #[.val (.ref ca), .val (.int (0 : Int32)), .val (.int (2 : Int32)), .unset, .unset, .unset] [])) _
    refine XS.iloadN X0.here hx rfl (hb hby d9_0) rfl ?_
    exact kz
  obtain ⟨T1, h1, k1, X1, e1, E1, A1, st1⟩ := newP X0 hx hZ (w_ hw 16 rfl) e0 (g := (mkF m 1 #[.val (.ref ca), .val (.int (0 : Int32)), .val (.int (2 : Int32)), .unset, .unset, .unset] [(.int (2 : Int32))])) rfl (hb hby d9_1) rfl (by decide) (cap := 2) (by decide) (by decide) (by decide) (by decide)
  obtain ⟨b1, g1⟩ : ∃ z, z = h0.size := ⟨_, rfl⟩
  rw [← g1] at A1 st1
  refine Goes.via (S' := T1.setTop (mkF m 3 #[.val (.ref ca), .val (.int (0 : Int32)), .val (.int (2 : Int32)), .unset, .unset, .unset] [(.ref b1)])) st1 ?_
  have B1 : Arv Z h1 b1 k1 .byte (2 : Int32) [.int 0, .int 0] (.int 0) := (Arv.new A1 (by decide)).pad (pad_rep [] (.int 0) 2)
  have nab : ca ≠ b1 := adr_ne C0.lt g1 (Nat.le_refl _)
  have gb : n0 ≤ b1 := Nat.le_trans Z0 (Nat.le_of_eq g1.symm)
  refine Goes.via (S' := T1.setTop (mkF m 9 #[.val (.ref ca), .val (.int (0 : Int32)), .val (.int (2 : Int32)), .val (.ref b1), .unset, .unset] [(.int (2 : Int32)), (.int (0 : Int32)), (.ref b1), (.int (0 : Int32)), (.ref ca)])) (fun tz kz => ?_) ?_
  · show Steps p.tables e below (T1.setTop (mkF m 3 #[.val (.ref ca), .val (.int (0 : Int32)), .val (.int (2 : Int32)), .unset, .unset, .unset] [(.ref b1)])) _
    refine XS.astoreN X1.here hx rfl (hb hby d9_3) rfl rfl (l' := #[.val (.ref ca), .val (.int (0 : Int32)), .val (.int (2 : Int32)), .val (.ref b1), .unset, .unset]) rfl ?_
    refine XS.aloadN X1.here hx rfl (hb hby d9_4) rfl rfl ?_
    refine XS.iloadN X1.here hx rfl (hb hby d9_5) rfl ?_
    refine XS.aloadN X1.here hx rfl (hb hby d9_6) rfl rfl ?_
    show Steps p.tables e below (T1.setTop (mkF m 7 #[.val (.ref ca), .val (.int (0 : Int32)), .val (.int (2 : Int32)), .val (.ref b1), .unset, .unset] [(.ref b1), (.int (0 : Int32)), (.ref ca)])) _
    refine XS.iconst X1.here hx rfl (hb hby d9_7) ?_
    refine XS.iloadN X1.here hx rfl (hb hby d9_8) rfl ?_
    exact kz
  obtain ⟨_, _, ⟨T2, L2, k2, n2⟩, -, X2, ⟨Lc2, hQ2, l2, y2, z2⟩, st2⟩ := Jvm.LawKit.callS X1 hx (y := (⟨"java/lang/StringUTF16", "compress", "([CI[BII)I"⟩ : MethodName)) hown (mvT hZ (w_ hw 52 rfl)) (mvT hZ (w_ hw 53 rfl)) (mvT hZ (w_ hw 50 rfl)) (mvT hZ (w_ hw 54 rfl)) (by decide) (backOf (W := 0) (rc5_2 l Z a0 hw [] ca b1 ka k1 c0 c1 h1 n0 (Nat.le_trans Z0 E1.1) (C0.ext E1) B1 gb nab z0 z1) hZ (w_ hw 54 rfl) (w_ hw 50 rfl) (by decide) (by decide)) (g := (mkF m 9 #[.val (.ref ca), .val (.int (0 : Int32)), .val (.int (2 : Int32)), .val (.ref b1), .unset, .unset] [(.int (2 : Int32)), (.int (0 : Int32)), (.ref b1), (.int (0 : Int32)), (.ref ca)])) rfl (by rw [hml]; rfl) (argsL := [(.ref ca), (.int (0 : Int32)), (.ref b1), (.int (0 : Int32)), (.int (2 : Int32))]) (rest := []) (lenOf pd_4 rfl) rfl (by show 2 * 0 + _ ≤ _; exact Nat.le_of_eq rfl) (hb hby d9_9) (fun _ _ => ⟨rfl, e1, (by decide : 1 + 0 ≤ _), (by decide : 2 + 0 ≤ _)⟩)
  dsimp only [Pt.U, Pt.locs, Pt.cells, Pt.slots] at X2 l2 y2 z2 st2 hQ2
  subst l2 y2 z2
  obtain ⟨j5, rfl, N2, K2, Dj⟩ := hQ2
  have Nf2 := Fr.app N0 N2
  refine Goes.via (S' := T2.setTop (mkF m 12 #[.val (.ref ca), .val (.int (0 : Int32)), .val (.int (2 : Int32)), .val (.ref b1), .unset, .unset] [(.int j5)])) (st2) ?_
  have Ka := ((Keep.refl h0 []).ext E1).trans K2 (allS (Or.inr (Nat.le_of_eq g1.symm)) all0)
  have Ca := (C0.ext E1).keep K2 (fun q => nab (List.mem_singleton.mp q))
  have Oa := O0.keep Ka all0
  have Za := Nat.le_trans Z0 Ka.1
  rcases Dj with ⟨hj, ⟨s0, s1⟩, BL⟩ | ⟨j0, j1, xx, hjn, hj0, hj1, q0, q1, g0, g1, zx, gx⟩
  · subst hj
    refine Goes.via (S' := T2.setTop (mkF m 58 #[.val (.ref ca), .val (.int (0 : Int32)), .val (.int (2 : Int32)), .val (.ref b1), .val (.int (2 : Int32)), .unset] [(.ref b1)])) (fun tz kz => ?_) ?_
    · show Steps p.tables e below (T2.setTop (mkF m 12 #[.val (.ref ca), .val (.int (0 : Int32)), .val (.int (2 : Int32)), .val (.ref b1), .unset, .unset] [(.int (2 : Int32))])) _
      refine XS.istore X2.here hx rfl (hb hby d9_12) rfl (l' := #[.val (.ref ca), .val (.int (0 : Int32)), .val (.int (2 : Int32)), .val (.ref b1), .val (.int (2 : Int32)), .unset]) rfl ?_
      refine XS.iload X2.here hx rfl (hb hby d9_14) rfl ?_
      refine XS.iloadN X2.here hx rfl (hb hby d9_16) rfl ?_
      refine XS.icmpYes X2.here hx rfl (pc0 := 17) (pc' := 57) rfl (hb hby d9_17) rfl (teq (by first | decide | rfl)).1 (by decide) (by decide) ?_
      show Steps p.tables e below (T2.setTop (mkF m 57 #[.val (.ref ca), .val (.int (0 : Int32)), .val (.int (2 : Int32)), .val (.ref b1), .val (.int (2 : Int32)), .unset] [])) _
      refine XS.aloadN X2.here hx rfl (hb hby d9_57) rfl rfl ?_
      exact kz
    exact Goes.retO X2 hx Bd.notSynchronized Bd.returns rfl (Or.inr (Or.inr (Or.inr (Or.inr ⟨rfl, rfl, rfl⟩)))) (hb hby d9_58) (Nat.le_of_ble_eq_true rfl) (Nat.le_of_ble_eq_true rfl) ⟨b1, k1, rfl, Nf2, Ka, Nat.le_of_eq g1.symm, Or.inl ⟨⟨s0, s1⟩, BL⟩⟩
  · skip
    refine Goes.via (S' := T2.setTop (mkF m 23 #[.val (.ref ca), .val (.int (0 : Int32)), .val (.int (2 : Int32)), .val (.ref b1), .val (.int j5), .unset] [(.int (2 : Int32)), (.int (0 : Int32)), (.ref ca)])) (fun tz kz => ?_) ?_
    · show Steps p.tables e below (T2.setTop (mkF m 12 #[.val (.ref ca), .val (.int (0 : Int32)), .val (.int (2 : Int32)), .val (.ref b1), .unset, .unset] [(.int j5)])) _
      refine XS.istore X2.here hx rfl (hb hby d9_12) rfl (l' := #[.val (.ref ca), .val (.int (0 : Int32)), .val (.int (2 : Int32)), .val (.ref b1), .val (.int j5), .unset]) rfl ?_
      refine XS.iload X2.here hx rfl (hb hby d9_14) rfl ?_
      refine XS.iloadN X2.here hx rfl (hb hby d9_16) rfl ?_
      refine XS.icmpNo X2.here hx rfl (hb hby d9_17) rfl (feq hjn).1 ?_
      show Steps p.tables e below (T2.setTop (mkF m 20 #[.val (.ref ca), .val (.int (0 : Int32)), .val (.int (2 : Int32)), .val (.ref b1), .val (.int j5), .unset] [])) _
      refine XS.aloadN X2.here hx rfl (hb hby d9_20) rfl rfl ?_
      refine XS.iloadN X2.here hx rfl (hb hby d9_21) rfl ?_
      refine XS.iloadN X2.here hx rfl (hb hby d9_22) rfl ?_
      exact kz
    obtain ⟨_, _, ⟨T3, L3, k3, n3⟩, -, X3, ⟨Lc3, hQ3, l3, y3, z3⟩, st3⟩ := Jvm.LawKit.callS X2 hx (y := (⟨"java/lang/StringUTF16", "toBytes", "([CII)[B"⟩ : MethodName)) hown (mvT hZ (w_ hw 112 rfl)) (mvT hZ (w_ hw 113 rfl)) (mvT hZ (w_ hw 50 rfl)) (mvT hZ (w_ hw 114 rfl)) (by decide) (backOf (W := 0) (rtb_2 l Z a0 hw [] ca ka c0 c1 T2.heap n0 Za SA SH SL Oa Ca) hZ (w_ hw 114 rfl) (w_ hw 50 rfl) (by decide) (by decide)) (g := (mkF m 23 #[.val (.ref ca), .val (.int (0 : Int32)), .val (.int (2 : Int32)), .val (.ref b1), .val (.int j5), .unset] [(.int (2 : Int32)), (.int (0 : Int32)), (.ref ca)])) rfl (by rw [hml]; rfl) (argsL := [(.ref ca), (.int (0 : Int32)), (.int (2 : Int32))]) (rest := []) (lenOf pd_5 rfl) rfl (by show 2 * 0 + _ ≤ _; exact Nat.le_of_eq rfl) (hb hby d9_23) (fun _ _ => ⟨rfl, rfl, (by decide : 1 + 1 ≤ _), (by decide : 2 + 4 ≤ _)⟩)
    dsimp only [Pt.U, Pt.locs, Pt.cells, Pt.slots] at X3 l3 y3 z3 st3 hQ3
    subst l3 y3 z3
    obtain ⟨ub, uk, rfl, N3, K3, B3, gu⟩ := hQ3
    have Nf3 := Fr.app Nf2 N3
    refine Goes.via (S' := T3.setTop (mkF m 26 #[.val (.ref ca), .val (.int (0 : Int32)), .val (.int (2 : Int32)), .val (.ref b1), .val (.int j5), .unset] [(.ref ub)])) (st3) ?_
    have Kb := Ka.trans K3 all0
    have Ob := O0.keep Kb all0
    have Zb := Nat.le_trans Z0 Kb.1
    have gh : @LE.le Nat _ h0.size ub := Nat.le_trans Ka.1 gu
    refine Goes.via (S' := T3.setTop (mkF m 32 #[.val (.ref ca), .val (.int (0 : Int32)), .val (.int (2 : Int32)), .val (.ref b1), .val (.int j5), .val (.ref ub)] [(.int j5), (.ref ub)])) (fun tz kz => ?_) ?_
    · show Steps p.tables e below (T3.setTop (mkF m 26 #[.val (.ref ca), .val (.int (0 : Int32)), .val (.int (2 : Int32)), .val (.ref b1), .val (.int j5), .unset] [(.ref ub)])) _
      refine XS.astore X3.here hx rfl (hb hby d9_26) rfl rfl (l' := #[.val (.ref ca), .val (.int (0 : Int32)), .val (.int (2 : Int32)), .val (.ref b1), .val (.int j5), .val (.ref ub)]) rfl ?_
      refine XS.aload X3.here hx rfl (hb hby d9_28) rfl rfl ?_
      refine XS.iload X3.here hx rfl (hb hby d9_30) rfl ?_
      exact kz
    obtain ⟨_, _, ⟨T4, L4, k4, n4⟩, -, X4, ⟨Lc4, hQ4, l4, y4, z4⟩, st4⟩ := Jvm.LawKit.callS X3 hx (y := (⟨"java/lang/StringUTF16", "getChar", "([BI)C"⟩ : MethodName)) hown (mvT hZ (w_ hw 128 rfl)) (mvT hZ (w_ hw 129 rfl)) (mvT hZ (w_ hw 50 rfl)) (mvT hZ (w_ hw 130 rfl)) (by decide) (backOf (W := 0) (rgc l Z a0 hw [] ub j5 uk (4 : Int32) j0 j1 xx _ T3.heap n0 Zb SA SH SL Ob B3 hj0 hj1 q0 q1 g0 g1 zx) hZ (w_ hw 130 rfl) (w_ hw 50 rfl) (by decide) (by decide)) (g := (mkF m 32 #[.val (.ref ca), .val (.int (0 : Int32)), .val (.int (2 : Int32)), .val (.ref b1), .val (.int j5), .val (.ref ub)] [(.int j5), (.ref ub)])) rfl (by rw [hml]; rfl) (argsL := [(.ref ub), (.int j5)]) (rest := []) (lenOf pd_6 rfl) rfl (by show 2 * 0 + _ ≤ _; exact Nat.le_of_eq rfl) (hb hby d9_32) (fun _ _ => ⟨rfl, rfl, (by decide : 2 + 0 ≤ _), (by decide : 6 + 0 ≤ _)⟩)
    dsimp only [Pt.U, Pt.locs, Pt.cells, Pt.slots] at X4 l4 y4 z4 st4 hQ4
    subst l4 y4 z4
    obtain ⟨rfl, N4, e4⟩ := hQ4
    have Nf4 := Fr.app Nf3 N4
    refine Goes.via (S' := T4.setTop (mkF m 35 #[.val (.ref ca), .val (.int (0 : Int32)), .val (.int (2 : Int32)), .val (.ref b1), .val (.int j5), .val (.ref ub)] [(.int xx)])) (st4) ?_
    refine Goes.via (S' := T4.setTop (mkF m 56 #[.val (.ref ca), .val (.int (0 : Int32)), .val (.int (2 : Int32)), .val (.ref b1), .val (.int j5), .val (.ref ub)] [(.ref ub)])) (fun tz kz => ?_) ?_
    · show Steps p.tables e below (T4.setTop (mkF m 35 #[.val (.ref ca), .val (.int (0 : Int32)), .val (.int (2 : Int32)), .val (.ref b1), .val (.int j5), .val (.ref ub)] [(.int xx)])) _
      refine XS.sipush X4.here hx rfl (hb hby d9_35) ?_
      refine XS.icmpYes X4.here hx rfl (pc0 := 38) (pc' := 54) rfl (hb hby d9_38) rfl (tlt gx).2.2.1 (by decide) (by decide) ?_
      refine XS.aload X4.here hx rfl (hb hby d9_54) rfl rfl ?_
      exact kz
    exact Goes.retO X4 hx Bd.notSynchronized Bd.returns rfl (Or.inr (Or.inr (Or.inr (Or.inr ⟨rfl, rfl, rfl⟩)))) (hb hby d9_56) (Nat.le_of_ble_eq_true rfl) (Nat.le_of_ble_eq_true rfl) (by rw [e4]; exact ⟨ub, uk, rfl, Nf4, Kb, gh, Or.inr B3⟩)
def Q_rcc_22 (Z : State) (bb : Addr) (k : ClassId) (vs : List Value) (h0 : Heap) (n0 : Nat) : Option Value → Heap → List Loc → Prop := fun v h L => v = some (.int 0) ∧ Fr n0 L ∧ h = h0
set_option maxRecDepth 65536 in
set_option maxHeartbeats 40000000 in
theorem rcc_22 (l : Launch) (Z : State) (a0 : Array Value) (hw : ∀ d ∈ tables_1, d.before a0 Z = true) (ws : List Jvm.Cond) (bb : Addr) (k : ClassId) (vs : List Value) (h0 : Heap) (n0 : Nat) (Z0 : n0 ≤ h0.size) (B0 : Arv Z h0 bb k .byte (2 : Int32) vs (.int 0)) :
    own_M l Z (⟨"java/lang/StringUTF16", "coderFromArrayLen", "([BI)B"⟩ : MethodName) (Jvm.Cond.code (⟨"java/lang/StringUTF16", "coderFromArrayLen", "([BI)B"⟩ : MethodName) jdk_52_method_15_code 2 (some .byte)) ws ({ frames := 0, cells := 0, slots := 0, locals := 0 } : Room) #[(.ref bb), (.int (2 : Int32))] h0 (Q_rcc_22 Z bb k vs h0 n0) := by
  refine MetFree.of_bodySF (plainFor_of_name pn_11) hisR ?_
  intro p e s m args below meth c s₁ Bd hml0 hP hK
  obtain ⟨rfl, hZ, hh⟩ := hP
  have hx := Bd.exec
  have hby := Bd.bytes
  have hml : c.maxLocals = 2 := hml0
  have hown : s.vm.findClass "java/lang/StringUTF16" = some m.cls := findClass_of_methodNamed Bd.named
  have hnm := (name_of_methodNamed Bd.named Bd.method).1
  have X0 : Stand p l e ({ frames := 0, cells := 0, slots := 0, locals := 0 } : Room) s m #[(.ref bb), (.int (2 : Int32))] below meth c s₁ [] 0 0 := Stand.of_body Bd
  have e0 : s₁.heap = h0 := by rw [← hh, Bd.state]; rfl
  have N0 := Fr.nil n0
  show Goes p e below (Fin s (Q_rcc_22 Z bb k vs h0 n0) ({ frames := 0, cells := 0, slots := 0, locals := 0 } : Room).cells ({ frames := 0, cells := 0, slots := 0, locals := 0 } : Room).slots) _
  refine Goes.via (S' := s₁.setTop (mkF m 0 #[.val (.ref bb), .val (.int (2 : Int32))] [])) (fun tz kz => castTop (ef_11 m bb (2 : Int32) ) kz) ?_
  refine Goes.via (S' := s₁.setTop (mkF m 2 #[.val (.ref bb), .val (.int (2 : Int32))] [(.ref bb), (.int (2 : Int32))])) (fun tz kz => ?_) ?_
  · show Steps p.tables e below (s₁.setTop (mkF m 0 #[.val (.ref bb), .val (.int (2 : Int32))] [])) _
    refine XS.iloadN X0.here hx rfl (hb hby d11_0) rfl ?_
    refine XS.aloadN X0.here hx rfl (hb hby d11_1) rfl rfl ?_
    exact kz
  obtain ⟨cl1, Ar1, q1, Sz1, Nn1, Hs1, G1⟩ := (id B0)
  refine Goes.via (S' := s₁.setTop (mkF m 8 #[.val (.ref bb), .val (.int (2 : Int32))] [(.int ((((0 : Int32).toUInt32 >>> ((31 : Int32) &&& 31).toUInt32).toInt32).toInt8.toInt32))])) (fun tz kz => ?_) ?_
  · show Steps p.tables e below (s₁.setTop (mkF m 2 #[.val (.ref bb), .val (.int (2 : Int32))] [(.ref bb), (.int (2 : Int32))])) _
    refine X0.arraylength hx (by rw [e0]; exact Ar1.1) (State.isArrayOf_alike hZ.alike Ar1.2.1) (g := (mkF m 2 #[.val (.ref bb), .val (.int (2 : Int32))] [(.ref bb), (.int (2 : Int32))])) rfl rfl (hb hby d11_2) _ ?_
    rw [len_of Sz1 Nn1]
    refine XS.isub X0.here hx rfl (hb hby d11_3) rfl ?_
    refine XS.bipush X0.here hx rfl (hb hby d11_4) ?_
    refine XS.iushr X0.here hx rfl (hb hby d11_6) rfl ?_
    show Steps p.tables e below (s₁.setTop (mkF m 7 #[.val (.ref bb), .val (.int (2 : Int32))] [(.int (((0 : Int32).toUInt32 >>> ((31 : Int32) &&& 31).toUInt32).toInt32))])) _
    refine XS.i2b X0.here hx rfl (hb hby d11_7) rfl ?_
    exact kz
  exact Goes.retN X0 hx Bd.notSynchronized (t := .byte) Bd.returns (by simp) (hb hby d11_8) (Nat.le_of_ble_eq_true rfl) (Nat.le_of_ble_eq_true rfl) ⟨congrArg (fun z => some (Value.int z)) (by decide), N0, e0⟩
def Q_rcc_24 (Z : State) (bb : Addr) (k : ClassId) (vs : List Value) (h0 : Heap) (n0 : Nat) : Option Value → Heap → List Loc → Prop := fun v h L => v = some (.int 1) ∧ Fr n0 L ∧ h = h0
set_option maxRecDepth 65536 in
set_option maxHeartbeats 40000000 in
theorem rcc_24 (l : Launch) (Z : State) (a0 : Array Value) (hw : ∀ d ∈ tables_1, d.before a0 Z = true) (ws : List Jvm.Cond) (bb : Addr) (k : ClassId) (vs : List Value) (h0 : Heap) (n0 : Nat) (Z0 : n0 ≤ h0.size) (B0 : Arv Z h0 bb k .byte (4 : Int32) vs (.int 0)) :
    own_M l Z (⟨"java/lang/StringUTF16", "coderFromArrayLen", "([BI)B"⟩ : MethodName) (Jvm.Cond.code (⟨"java/lang/StringUTF16", "coderFromArrayLen", "([BI)B"⟩ : MethodName) jdk_52_method_15_code 2 (some .byte)) ws ({ frames := 0, cells := 0, slots := 0, locals := 0 } : Room) #[(.ref bb), (.int (2 : Int32))] h0 (Q_rcc_24 Z bb k vs h0 n0) := by
  refine MetFree.of_bodySF (plainFor_of_name pn_11) hisR ?_
  intro p e s m args below meth c s₁ Bd hml0 hP hK
  obtain ⟨rfl, hZ, hh⟩ := hP
  have hx := Bd.exec
  have hby := Bd.bytes
  have hml : c.maxLocals = 2 := hml0
  have hown : s.vm.findClass "java/lang/StringUTF16" = some m.cls := findClass_of_methodNamed Bd.named
  have hnm := (name_of_methodNamed Bd.named Bd.method).1
  have X0 : Stand p l e ({ frames := 0, cells := 0, slots := 0, locals := 0 } : Room) s m #[(.ref bb), (.int (2 : Int32))] below meth c s₁ [] 0 0 := Stand.of_body Bd
  have e0 : s₁.heap = h0 := by rw [← hh, Bd.state]; rfl
  have N0 := Fr.nil n0
  show Goes p e below (Fin s (Q_rcc_24 Z bb k vs h0 n0) ({ frames := 0, cells := 0, slots := 0, locals := 0 } : Room).cells ({ frames := 0, cells := 0, slots := 0, locals := 0 } : Room).slots) _
  refine Goes.via (S' := s₁.setTop (mkF m 0 #[.val (.ref bb), .val (.int (2 : Int32))] [])) (fun tz kz => castTop (ef_11 m bb (2 : Int32) ) kz) ?_
  refine Goes.via (S' := s₁.setTop (mkF m 2 #[.val (.ref bb), .val (.int (2 : Int32))] [(.ref bb), (.int (2 : Int32))])) (fun tz kz => ?_) ?_
  · show Steps p.tables e below (s₁.setTop (mkF m 0 #[.val (.ref bb), .val (.int (2 : Int32))] [])) _
    refine XS.iloadN X0.here hx rfl (hb hby d11_0) rfl ?_
    refine XS.aloadN X0.here hx rfl (hb hby d11_1) rfl rfl ?_
    exact kz
  obtain ⟨cl1, Ar1, q1, Sz1, Nn1, Hs1, G1⟩ := (id B0)
  refine Goes.via (S' := s₁.setTop (mkF m 8 #[.val (.ref bb), .val (.int (2 : Int32))] [(.int ((((-2 : Int32).toUInt32 >>> ((31 : Int32) &&& 31).toUInt32).toInt32).toInt8.toInt32))])) (fun tz kz => ?_) ?_
  · show Steps p.tables e below (s₁.setTop (mkF m 2 #[.val (.ref bb), .val (.int (2 : Int32))] [(.ref bb), (.int (2 : Int32))])) _
    refine X0.arraylength hx (by rw [e0]; exact Ar1.1) (State.isArrayOf_alike hZ.alike Ar1.2.1) (g := (mkF m 2 #[.val (.ref bb), .val (.int (2 : Int32))] [(.ref bb), (.int (2 : Int32))])) rfl rfl (hb hby d11_2) _ ?_
    rw [len_of Sz1 Nn1]
    refine XS.isub X0.here hx rfl (hb hby d11_3) rfl ?_
    refine XS.bipush X0.here hx rfl (hb hby d11_4) ?_
    refine XS.iushr X0.here hx rfl (hb hby d11_6) rfl ?_
    show Steps p.tables e below (s₁.setTop (mkF m 7 #[.val (.ref bb), .val (.int (2 : Int32))] [(.int (((-2 : Int32).toUInt32 >>> ((31 : Int32) &&& 31).toUInt32).toInt32))])) _
    refine XS.i2b X0.here hx rfl (hb hby d11_7) rfl ?_
    exact kz
  exact Goes.retN X0 hx Bd.notSynchronized (t := .byte) Bd.returns (by simp) (hb hby d11_8) (Nat.le_of_ble_eq_true rfl) (Nat.le_of_ble_eq_true rfl) ⟨congrArg (fun z => some (Value.int z)) (by decide), N0, e0⟩
def Q_rn4_2 (Z : State) (a1 : Addr) (ca : Addr) (cs : Int32) (ka : ClassId) (c0 c1 : Int32) (h0 : Heap) (n0 : Nat) : Option Value → Heap → List Loc → Prop := fun v h L => v = none ∧ Fr n0 L ∧ Keep h0 h [a1] ∧ ∃ b k, (((¬ (255 : Int32) < c0 ∧ ¬ (255 : Int32) < c1) ∧ own_Str Z h a1 b k (2 : Int32) [.int (own_by c0), .int (own_by c1)]) ∨ own_StU Z h a1 b k (4 : Int32) [.int (own_lo c0), .int (own_hi c0), .int (own_lo c1), .int (own_hi c1)])
set_option maxRecDepth 65536 in
set_option maxHeartbeats 40000000 in
theorem rn4_2 (l : Launch) (Z : State) (a0 : Array Value) (hw : ∀ d ∈ tables_1, d.before a0 Z = true) (ws : List Jvm.Cond) (a1 : Addr) (ca : Addr) (cs : Int32) (ka : ClassId) (c0 c1 : Int32) (h0 : Heap) (n0 : Nat) (Z0 : n0 ≤ h0.size) (SC : Sta Z Z.heap "java/lang/String" "COMPACT_STRINGS" "Z" (.int cs)) (hcs : ¬ cs = (0 : Int32)) (O0 : Old Z n0 h0) (SA : Sta Z Z.heap "java/lang/StringUTF16" "$assertionsDisabled" "Z" (.int (1 : Int32))) (SH : Sta Z Z.heap "java/lang/StringUTF16" "HI_BYTE_SHIFT" "I" (.int (0 : Int32))) (SL : Sta Z Z.heap "java/lang/StringUTF16" "LO_BYTE_SHIFT" "I" (.int (8 : Int32))) (FV : Fld Z h0 a1 "java/lang/String" "value" "[B" .null) (FC : Fld Z h0 a1 "java/lang/String" "coder" "B" (.int (0 : Int32))) (E1 : Exa Z h0 a1 "java/lang/String") (g1 : n0 ≤ a1) (C0 : Arv Z h0 ca ka .char (2 : Int32) [.int c0, .int c1] (.int 0)) (z0 : nar .char c0 = c0) (z1 : nar .char c1 = c1) :
    own_M l Z (⟨"java/lang/String", "<init>", "([CIILjava/lang/Void;)V"⟩ : MethodName) (Jvm.Cond.code (⟨"java/lang/String", "<init>", "([CIILjava/lang/Void;)V"⟩ : MethodName) jdk_42_method_149_code 6 none) ws ({ frames := 4, cells := 2, slots := 6, locals := 84 } : Room) #[(.ref a1), (.ref ca), (.int (0 : Int32)), (.int (2 : Int32)), .null] h0 (Q_rn4_2 Z a1 ca cs ka c0 c1 h0 n0) := by
  refine MetFree.of_bodySF (plainFor_of_name pn_2) hisR ?_
  intro p e s m args below meth c s₁ Bd hml0 hP hK
  obtain ⟨rfl, hZ, hh⟩ := hP
  have hx := Bd.exec
  have hby := Bd.bytes
  have hml : c.maxLocals = 6 := hml0
  have hown : s.vm.findClass "java/lang/String" = some m.cls := findClass_of_methodNamed Bd.named
  have hnm := (name_of_methodNamed Bd.named Bd.method).1
  have X0 : Stand p l e ({ frames := 4, cells := 2, slots := 6, locals := 84 } : Room) s m #[(.ref a1), (.ref ca), (.int (0 : Int32)), (.int (2 : Int32)), .null] below meth c s₁ [] 0 0 := Stand.of_body Bd
  have e0 : s₁.heap = h0 := by rw [← hh, Bd.state]; rfl
  have N0 := Fr.nil n0
  show Goes p e below (Fin s (Q_rn4_2 Z a1 ca cs ka c0 c1 h0 n0) ({ frames := 4, cells := 2, slots := 6, locals := 84 } : Room).cells ({ frames := 4, cells := 2, slots := 6, locals := 84 } : Room).slots) _
  refine Goes.via (S' := s₁.setTop (mkF m 0 #[.val (.ref a1), .val (.ref ca), .val (.int (0 : Int32)), .val (.int (2 : Int32)), .val .null, .unset] [])) (fun tz kz => castTop (ef_2 m a1 ca (0 : Int32) (2 : Int32) ) kz) ?_
  refine Goes.via (S' := s₁.setTop (mkF m 1 #[.val (.ref a1), .val (.ref ca), .val (.int (0 : Int32)), .val (.int (2 : Int32)), .val .null, .unset] [(.ref a1)])) (fun tz kz => ?_) ?_
  · show Steps p.tables e below (s₁.setTop (mkF m 0 #[.val (.ref a1), .val (.ref ca), .val (.int (0 : Int32)), .val (.int (2 : Int32)), .val .null, .unset] [])) _
    refine XS.aloadN X0.here hx rfl (hb hby d2_0) rfl rfl ?_
    exact kz
  obtain ⟨T1, X1, e1, st1⟩ := initO X0 hx hZ hown (w_ hw 12 rfl) (w_ hw 13 rfl) (w_ hw 14 rfl) e0 (g := (mkF m 1 #[.val (.ref a1), .val (.ref ca), .val (.int (0 : Int32)), .val (.int (2 : Int32)), .val .null, .unset] [(.ref a1)])) rfl (by rw [hml]; rfl) rfl (hb hby d2_1) (by decide) (W := 0) (by show 2 * 0 + _ ≤ _; exact Nat.le_of_eq rfl) (by decide)
  refine Goes.via (S' := T1.setTop (mkF m 4 #[.val (.ref a1), .val (.ref ca), .val (.int (0 : Int32)), .val (.int (2 : Int32)), .val .null, .unset] [])) st1 ?_
  refine Goes.via (S' := T1.setTop (mkF m 27 #[.val (.ref a1), .val (.ref ca), .val (.int (0 : Int32)), .val (.int (2 : Int32)), .val .null, .unset] [])) (fun tz kz => ?_) ?_
  · show Steps p.tables e below (T1.setTop (mkF m 4 #[.val (.ref a1), .val (.ref ca), .val (.int (0 : Int32)), .val (.int (2 : Int32)), .val .null, .unset] [])) _
    refine XS.iloadN X1.here hx rfl (hb hby d2_4) rfl ?_
    refine XS.ifYes X1.here hx rfl (pc0 := 5) (pc' := 27) rfl (hb hby d2_5) rfl ((if0 _ _).trans (feq (by first | decide | rfl)).2) (by decide) (by decide) ?_
    exact kz
  obtain ⟨T2, X2, e2, st2⟩ := getS2 X1 hx hZ hown (host := "") (Or.inl (w_ hw 42 rfl)) Via.refl e1 (SC.ext O0.2) (g := (mkF m 27 #[.val (.ref a1), .val (.ref ca), .val (.int (0 : Int32)), .val (.int (2 : Int32)), .val .null, .unset] [])) rfl (hb hby d2_27)
  refine Goes.via (S' := T2.setTop (mkF m 30 #[.val (.ref a1), .val (.ref ca), .val (.int (0 : Int32)), .val (.int (2 : Int32)), .val .null, .unset] [(.int cs)])) st2 ?_
  refine Goes.via (S' := T2.setTop (mkF m 36 #[.val (.ref a1), .val (.ref ca), .val (.int (0 : Int32)), .val (.int (2 : Int32)), .val .null, .unset] [(.int (2 : Int32)), (.int (0 : Int32)), (.ref ca)])) (fun tz kz => ?_) ?_
  · show Steps p.tables e below (T2.setTop (mkF m 30 #[.val (.ref a1), .val (.ref ca), .val (.int (0 : Int32)), .val (.int (2 : Int32)), .val .null, .unset] [(.int cs)])) _
    refine XS.ifNo X2.here hx rfl (hb hby d2_30) rfl ((if0 _ _).trans (feq hcs).1) ?_
    refine XS.aloadN X2.here hx rfl (hb hby d2_33) rfl rfl ?_
    refine XS.iloadN X2.here hx rfl (hb hby d2_34) rfl ?_
    refine XS.iloadN X2.here hx rfl (hb hby d2_35) rfl ?_
    exact kz
  obtain ⟨_, _, ⟨T3, L3, k3, n3⟩, -, X3, ⟨Lc3, hQ3, l3, y3, z3⟩, st3⟩ := Jvm.LawKit.callS X2 hx (y := (⟨"java/lang/StringUTF16", "compress", "([CII)[B"⟩ : MethodName)) hown (mvT hZ (w_ hw 48 rfl)) (mvT hZ (w_ hw 49 rfl)) (mvT hZ (w_ hw 50 rfl)) (mvT hZ (w_ hw 51 rfl)) (by decide) (backOf (W := 0) (rc3_2 l Z a0 hw [] ca ka c0 c1 h0 n0 Z0 SA SH SL O0 C0 z0 z1) hZ (w_ hw 51 rfl) (w_ hw 50 rfl) (by decide) (by decide)) (g := (mkF m 36 #[.val (.ref a1), .val (.ref ca), .val (.int (0 : Int32)), .val (.int (2 : Int32)), .val .null, .unset] [(.int (2 : Int32)), (.int (0 : Int32)), (.ref ca)])) rfl (by rw [hml]; rfl) (argsL := [(.ref ca), (.int (0 : Int32)), (.int (2 : Int32))]) (rest := []) (lenOf pd_5 rfl) rfl (by show 2 * 0 + _ ≤ _; exact Nat.le_of_eq rfl) (hb hby d2_36) (fun _ _ => ⟨rfl, e2, (by decide : 0 + 2 ≤ _), (by decide : 0 + 6 ≤ _)⟩)
  dsimp only [Pt.U, Pt.locs, Pt.cells, Pt.slots] at X3 l3 y3 z3 st3 hQ3
  subst l3 y3 z3
  obtain ⟨vb, kb, rfl, N3, K3, gv, Dk⟩ := hQ3
  have Nf3 := Fr.app N0 N3
  refine Goes.via (S' := T3.setTop (mkF m 39 #[.val (.ref a1), .val (.ref ca), .val (.int (0 : Int32)), .val (.int (2 : Int32)), .val .null, .unset] [(.ref vb)])) (st3) ?_
  rcases Dk with ⟨⟨s0, s1⟩, Bv⟩ | Bv
  · skip
    refine Goes.via (S' := T3.setTop (mkF m 45 #[.val (.ref a1), .val (.ref ca), .val (.int (0 : Int32)), .val (.int (2 : Int32)), .val .null, .val (.ref vb)] [(.int (2 : Int32)), (.ref vb), (.ref a1)])) (fun tz kz => ?_) ?_
    · show Steps p.tables e below (T3.setTop (mkF m 39 #[.val (.ref a1), .val (.ref ca), .val (.int (0 : Int32)), .val (.int (2 : Int32)), .val .null, .unset] [(.ref vb)])) _
      refine XS.astore X3.here hx rfl (hb hby d2_39) rfl rfl (l' := #[.val (.ref a1), .val (.ref ca), .val (.int (0 : Int32)), .val (.int (2 : Int32)), .val .null, .val (.ref vb)]) rfl ?_
      refine XS.aloadN X3.here hx rfl (hb hby d2_41) rfl rfl ?_
      refine XS.aload X3.here hx rfl (hb hby d2_42) rfl rfl ?_
      refine XS.iloadN X3.here hx rfl (hb hby d2_44) rfl ?_
      exact kz
    obtain ⟨_, _, ⟨T4, L4, k4, n4⟩, -, X4, ⟨Lc4, hQ4, l4, y4, z4⟩, st4⟩ := Jvm.LawKit.callS X3 hx (y := (⟨"java/lang/StringUTF16", "coderFromArrayLen", "([BI)B"⟩ : MethodName)) hown (mvT hZ (w_ hw 55 rfl)) (mvT hZ (w_ hw 56 rfl)) (mvT hZ (w_ hw 50 rfl)) (mvT hZ (w_ hw 57 rfl)) (by decide) (backOf (W := 1) (rcc_22 l Z a0 hw [] vb kb _ T3.heap n0 (Nat.le_trans Z0 K3.1) Bv) hZ (w_ hw 57 rfl) (w_ hw 50 rfl) (by decide) (by decide)) (g := (mkF m 45 #[.val (.ref a1), .val (.ref ca), .val (.int (0 : Int32)), .val (.int (2 : Int32)), .val .null, .val (.ref vb)] [(.int (2 : Int32)), (.ref vb), (.ref a1)])) rfl (by rw [hml]; rfl) (argsL := [(.ref vb), (.int (2 : Int32))]) (rest := [(.ref a1)]) (lenOf pd_7 rfl) rfl (by show 2 * 0 + _ ≤ _; exact Nat.le_of_eq rfl) (hb hby d2_45) (fun _ _ => ⟨rfl, rfl, (by decide : 2 + 0 ≤ _), (by decide : 6 + 0 ≤ _)⟩)
    dsimp only [Pt.U, Pt.locs, Pt.cells, Pt.slots] at X4 l4 y4 z4 st4 hQ4
    subst l4 y4 z4
    obtain ⟨rfl, N4, e4⟩ := hQ4
    have Nf4 := Fr.app Nf3 N4
    refine Goes.via (S' := T4.setTop (mkF m 48 #[.val (.ref a1), .val (.ref ca), .val (.int (0 : Int32)), .val (.int (2 : Int32)), .val .null, .val (.ref vb)] [(.int (0 : Int32)), (.ref a1)])) (st4) ?_
    have Ea := E1.keep K3
    have GV := FV.keep K3 nin0
    have GC := FC.keep K3 nin0
    have nb : a1 ≠ vb := Nat.ne_of_lt (Nat.lt_of_lt_of_le E1.lt gv)
    obtain ⟨T5, h5, X5, e5, W5, st5⟩ := putFN X4 hx hZ hown (w_ hw 22 rfl) Via.refl e4 GC Ea (Or.inr ⟨(w_ hw 18 rfl), rfl, hnm⟩) (w_ hw 3 rfl) (ty := .byte) (v' := (.int (nar .byte (0 : Int32)))) (by decide) rfl (fits_nar_byte _) (g := (mkF m 48 #[.val (.ref a1), .val (.ref ca), .val (.int (0 : Int32)), .val (.int (2 : Int32)), .val .null, .val (.ref vb)] [(.int (0 : Int32)), (.ref a1)])) rfl rfl (hb hby d2_48)
    refine Goes.via (S' := T5.setTop (mkF m 51 #[.val (.ref a1), .val (.ref ca), .val (.int (0 : Int32)), .val (.int (2 : Int32)), .val .null, .val (.ref vb)] [])) st5 ?_
    have N5 := Fr.snoc X5 Nf4 g1
    have HC : Fld Z h5 a1 "java/lang/String" "coder" "B" (.int (0 : Int32)) := GC.same W5
    have HV := GV.other W5 (Or.inr (slot_ne (Or.inr (w_ hw 17 rfl)) (Or.inr (w_ hw 18 rfl)) (by decide) (t := (.array .byte)) (t' := .byte) (by decide) (by decide)))
    have Eb := Ea.wr W5
    have Bb := Bv.other W5 (Ne.symm nb)
    refine Goes.via (S' := T5.setTop (mkF m 54 #[.val (.ref a1), .val (.ref ca), .val (.int (0 : Int32)), .val (.int (2 : Int32)), .val .null, .val (.ref vb)] [(.ref vb), (.ref a1)])) (fun tz kz => ?_) ?_
    · show Steps p.tables e below (T5.setTop (mkF m 51 #[.val (.ref a1), .val (.ref ca), .val (.int (0 : Int32)), .val (.int (2 : Int32)), .val .null, .val (.ref vb)] [])) _
      refine XS.aloadN X5.here hx rfl (hb hby d2_51) rfl rfl ?_
      refine XS.aload X5.here hx rfl (hb hby d2_52) rfl rfl ?_
      exact kz
    obtain ⟨T6, h6, X6, e6, W6, st6⟩ := putF X5 hx hZ hown (host := "") (Or.inl (w_ hw 21 rfl)) Via.refl e5 HV Eb (Or.inr ⟨(w_ hw 17 rfl), rfl, hnm⟩) (w_ hw 3 rfl) (ty := (.array .byte)) (by decide) rfl rfl (g := (mkF m 54 #[.val (.ref a1), .val (.ref ca), .val (.int (0 : Int32)), .val (.int (2 : Int32)), .val .null, .val (.ref vb)] [(.ref vb), (.ref a1)])) rfl rfl (hb hby d2_54)
    refine Goes.via (S' := T6.setTop (mkF m 57 #[.val (.ref a1), .val (.ref ca), .val (.int (0 : Int32)), .val (.int (2 : Int32)), .val .null, .val (.ref vb)] [])) st6 ?_
    have N6 := Fr.snoc X6 N5 g1
    have JV := HV.same W6
    have JC := HC.other W6 (Or.inr (slot_ne (Or.inr (w_ hw 18 rfl)) (Or.inr (w_ hw 17 rfl)) (by decide) (t := .byte) (t' := (.array .byte)) (by decide) (by decide)))
    have Ec := Eb.wr W6
    have Bc := Bb.other W6 (Ne.symm nb)
    have Kq : Keep h0 h6 [a1] := (((Keep.refl h0 [a1]).trans K3 all0).wr W5 (Or.inl (List.mem_singleton.mpr rfl))).wr W6 (Or.inl (List.mem_singleton.mpr rfl))
    exact Goes.retV X6 hx Bd.notSynchronized Bd.returns (hb hby d2_57) (Nat.le_of_ble_eq_true rfl) (Nat.le_of_ble_eq_true rfl) (by rw [e6]; exact ⟨rfl, N6, Kq, vb, kb, Or.inl ⟨⟨s0, s1⟩, Ec, JC, JV, Bc⟩⟩)
  · skip
    refine Goes.via (S' := T3.setTop (mkF m 45 #[.val (.ref a1), .val (.ref ca), .val (.int (0 : Int32)), .val (.int (2 : Int32)), .val .null, .val (.ref vb)] [(.int (2 : Int32)), (.ref vb), (.ref a1)])) (fun tz kz => ?_) ?_
    · show Steps p.tables e below (T3.setTop (mkF m 39 #[.val (.ref a1), .val (.ref ca), .val (.int (0 : Int32)), .val (.int (2 : Int32)), .val .null, .unset] [(.ref vb)])) _
      refine XS.astore X3.here hx rfl (hb hby d2_39) rfl rfl (l' := #[.val (.ref a1), .val (.ref ca), .val (.int (0 : Int32)), .val (.int (2 : Int32)), .val .null, .val (.ref vb)]) rfl ?_
      refine XS.aloadN X3.here hx rfl (hb hby d2_41) rfl rfl ?_
      refine XS.aload X3.here hx rfl (hb hby d2_42) rfl rfl ?_
      refine XS.iloadN X3.here hx rfl (hb hby d2_44) rfl ?_
      exact kz
    obtain ⟨_, _, ⟨T7, L7, k7, n7⟩, -, X7, ⟨Lc7, hQ7, l7, y7, z7⟩, st7⟩ := Jvm.LawKit.callS X3 hx (y := (⟨"java/lang/StringUTF16", "coderFromArrayLen", "([BI)B"⟩ : MethodName)) hown (mvT hZ (w_ hw 55 rfl)) (mvT hZ (w_ hw 56 rfl)) (mvT hZ (w_ hw 50 rfl)) (mvT hZ (w_ hw 57 rfl)) (by decide) (backOf (W := 1) (rcc_24 l Z a0 hw [] vb kb _ T3.heap n0 (Nat.le_trans Z0 K3.1) Bv) hZ (w_ hw 57 rfl) (w_ hw 50 rfl) (by decide) (by decide)) (g := (mkF m 45 #[.val (.ref a1), .val (.ref ca), .val (.int (0 : Int32)), .val (.int (2 : Int32)), .val .null, .val (.ref vb)] [(.int (2 : Int32)), (.ref vb), (.ref a1)])) rfl (by rw [hml]; rfl) (argsL := [(.ref vb), (.int (2 : Int32))]) (rest := [(.ref a1)]) (lenOf pd_7 rfl) rfl (by show 2 * 0 + _ ≤ _; exact Nat.le_of_eq rfl) (hb hby d2_45) (fun _ _ => ⟨rfl, rfl, (by decide : 2 + 0 ≤ _), (by decide : 6 + 0 ≤ _)⟩)
    dsimp only [Pt.U, Pt.locs, Pt.cells, Pt.slots] at X7 l7 y7 z7 st7 hQ7
    subst l7 y7 z7
    obtain ⟨rfl, N7, e7⟩ := hQ7
    have Nf7 := Fr.app Nf3 N7
    refine Goes.via (S' := T7.setTop (mkF m 48 #[.val (.ref a1), .val (.ref ca), .val (.int (0 : Int32)), .val (.int (2 : Int32)), .val .null, .val (.ref vb)] [(.int (1 : Int32)), (.ref a1)])) (st7) ?_
    have Ea := E1.keep K3
    have GV := FV.keep K3 nin0
    have GC := FC.keep K3 nin0
    have nb : a1 ≠ vb := Nat.ne_of_lt (Nat.lt_of_lt_of_le E1.lt gv)
    obtain ⟨T8, h8, X8, e8, W8, st8⟩ := putFN X7 hx hZ hown (w_ hw 22 rfl) Via.refl e7 GC Ea (Or.inr ⟨(w_ hw 18 rfl), rfl, hnm⟩) (w_ hw 3 rfl) (ty := .byte) (v' := (.int (nar .byte (1 : Int32)))) (by decide) rfl (fits_nar_byte _) (g := (mkF m 48 #[.val (.ref a1), .val (.ref ca), .val (.int (0 : Int32)), .val (.int (2 : Int32)), .val .null, .val (.ref vb)] [(.int (1 : Int32)), (.ref a1)])) rfl rfl (hb hby d2_48)
    refine Goes.via (S' := T8.setTop (mkF m 51 #[.val (.ref a1), .val (.ref ca), .val (.int (0 : Int32)), .val (.int (2 : Int32)), .val .null, .val (.ref vb)] [])) st8 ?_
    have N8 := Fr.snoc X8 Nf7 g1
    have HC : Fld Z h8 a1 "java/lang/String" "coder" "B" (.int (1 : Int32)) := GC.same W8
    have HV := GV.other W8 (Or.inr (slot_ne (Or.inr (w_ hw 17 rfl)) (Or.inr (w_ hw 18 rfl)) (by decide) (t := (.array .byte)) (t' := .byte) (by decide) (by decide)))
    have Eb := Ea.wr W8
    have Bb := Bv.other W8 (Ne.symm nb)
    refine Goes.via (S' := T8.setTop (mkF m 54 #[.val (.ref a1), .val (.ref ca), .val (.int (0 : Int32)), .val (.int (2 : Int32)), .val .null, .val (.ref vb)] [(.ref vb), (.ref a1)])) (fun tz kz => ?_) ?_
    · show Steps p.tables e below (T8.setTop (mkF m 51 #[.val (.ref a1), .val (.ref ca), .val (.int (0 : Int32)), .val (.int (2 : Int32)), .val .null, .val (.ref vb)] [])) _
      refine XS.aloadN X8.here hx rfl (hb hby d2_51) rfl rfl ?_
      refine XS.aload X8.here hx rfl (hb hby d2_52) rfl rfl ?_
      exact kz
    obtain ⟨T9, h9, X9, e9, W9, st9⟩ := putF X8 hx hZ hown (host := "") (Or.inl (w_ hw 21 rfl)) Via.refl e8 HV Eb (Or.inr ⟨(w_ hw 17 rfl), rfl, hnm⟩) (w_ hw 3 rfl) (ty := (.array .byte)) (by decide) rfl rfl (g := (mkF m 54 #[.val (.ref a1), .val (.ref ca), .val (.int (0 : Int32)), .val (.int (2 : Int32)), .val .null, .val (.ref vb)] [(.ref vb), (.ref a1)])) rfl rfl (hb hby d2_54)
    refine Goes.via (S' := T9.setTop (mkF m 57 #[.val (.ref a1), .val (.ref ca), .val (.int (0 : Int32)), .val (.int (2 : Int32)), .val .null, .val (.ref vb)] [])) st9 ?_
    have N9 := Fr.snoc X9 N8 g1
    have JV := HV.same W9
    have JC := HC.other W9 (Or.inr (slot_ne (Or.inr (w_ hw 18 rfl)) (Or.inr (w_ hw 17 rfl)) (by decide) (t := .byte) (t' := (.array .byte)) (by decide) (by decide)))
    have Ec := Eb.wr W9
    have Bc := Bb.other W9 (Ne.symm nb)
    have Kq : Keep h0 h9 [a1] := (((Keep.refl h0 [a1]).trans K3 all0).wr W8 (Or.inl (List.mem_singleton.mpr rfl))).wr W9 (Or.inl (List.mem_singleton.mpr rfl))
    exact Goes.retV X9 hx Bd.notSynchronized Bd.returns (hb hby d2_57) (Nat.le_of_ble_eq_true rfl) (Nat.le_of_ble_eq_true rfl) (by rw [e9]; exact ⟨rfl, N9, Kq, vb, kb, Or.inr ⟨Ec, JC, JV, Bc⟩⟩)
def Q_rn1_2 (Z : State) (a1 : Addr) (ca : Addr) (cs : Int32) (ka : ClassId) (c0 c1 : Int32) (h0 : Heap) (n0 : Nat) : Option Value → Heap → List Loc → Prop := fun v h L => v = none ∧ Fr n0 L ∧ Keep h0 h [a1] ∧ ∃ b k, (((¬ (255 : Int32) < c0 ∧ ¬ (255 : Int32) < c1) ∧ own_Str Z h a1 b k (2 : Int32) [.int (own_by c0), .int (own_by c1)]) ∨ own_StU Z h a1 b k (4 : Int32) [.int (own_lo c0), .int (own_hi c0), .int (own_lo c1), .int (own_hi c1)])
set_option maxRecDepth 65536 in
set_option maxHeartbeats 40000000 in
theorem rn1_2 (l : Launch) (Z : State) (a0 : Array Value) (hw : ∀ d ∈ tables_1, d.before a0 Z = true) (ws : List Jvm.Cond) (a1 : Addr) (ca : Addr) (cs : Int32) (ka : ClassId) (c0 c1 : Int32) (h0 : Heap) (n0 : Nat) (Z0 : n0 ≤ h0.size) (SC : Sta Z Z.heap "java/lang/String" "COMPACT_STRINGS" "Z" (.int cs)) (hcs : ¬ cs = (0 : Int32)) (O0 : Old Z n0 h0) (SA : Sta Z Z.heap "java/lang/StringUTF16" "$assertionsDisabled" "Z" (.int (1 : Int32))) (SH : Sta Z Z.heap "java/lang/StringUTF16" "HI_BYTE_SHIFT" "I" (.int (0 : Int32))) (SL : Sta Z Z.heap "java/lang/StringUTF16" "LO_BYTE_SHIFT" "I" (.int (8 : Int32))) (FV : Fld Z h0 a1 "java/lang/String" "value" "[B" .null) (FC : Fld Z h0 a1 "java/lang/String" "coder" "B" (.int (0 : Int32))) (E1 : Exa Z h0 a1 "java/lang/String") (g1 : n0 ≤ a1) (C0 : Arv Z h0 ca ka .char (2 : Int32) [.int c0, .int c1] (.int 0)) (z0 : nar .char c0 = c0) (z1 : nar .char c1 = c1) :
    own_M l Z (⟨"java/lang/String", "<init>", "([C)V"⟩ : MethodName) (Jvm.Cond.code (⟨"java/lang/String", "<init>", "([C)V"⟩ : MethodName) jdk_42_method_3_code 2 none) ws ({ frames := 5, cells := 2, slots := 6, locals := 106 } : Room) #[(.ref a1), (.ref ca)] h0 (Q_rn1_2 Z a1 ca cs ka c0 c1 h0 n0) := by
  refine MetFree.of_bodySF (plainFor_of_name pn_1) hisR ?_
  intro p e s m args below meth c s₁ Bd hml0 hP hK
  obtain ⟨rfl, hZ, hh⟩ := hP
  have hx := Bd.exec
  have hby := Bd.bytes
  have hml : c.maxLocals = 2 := hml0
  have hown : s.vm.findClass "java/lang/String" = some m.cls := findClass_of_methodNamed Bd.named
  have hnm := (name_of_methodNamed Bd.named Bd.method).1
  have X0 : Stand p l e ({ frames := 5, cells := 2, slots := 6, locals := 106 } : Room) s m #[(.ref a1), (.ref ca)] below meth c s₁ [] 0 0 := Stand.of_body Bd
  have e0 : s₁.heap = h0 := by rw [← hh, Bd.state]; rfl
  have N0 := Fr.nil n0
  show Goes p e below (Fin s (Q_rn1_2 Z a1 ca cs ka c0 c1 h0 n0) ({ frames := 5, cells := 2, slots := 6, locals := 106 } : Room).cells ({ frames := 5, cells := 2, slots := 6, locals := 106 } : Room).slots) _
  refine Goes.via (S' := s₁.setTop (mkF m 0 #[.val (.ref a1), .val (.ref ca)] [])) (fun tz kz => castTop (ef_1 m a1 ca ) kz) ?_
  refine Goes.via (S' := s₁.setTop (mkF m 4 #[.val (.ref a1), .val (.ref ca)] [(.ref ca), (.int (0 : Int32)), (.ref ca), (.ref a1)])) (fun tz kz => ?_) ?_
  · show Steps p.tables e below (s₁.setTop (mkF m 0 #[.val (.ref a1), .val (.ref ca)] [])) _
    refine XS.aloadN X0.here hx rfl (hb hby d1_0) rfl rfl ?_
    refine XS.aloadN X0.here hx rfl (hb hby d1_1) rfl rfl ?_
    refine XS.iconst X0.here hx rfl (hb hby d1_2) ?_
    refine XS.aloadN X0.here hx rfl (hb hby d1_3) rfl rfl ?_
    exact kz
  obtain ⟨cl1, Ar1, q1, Sz1, Nn1, Hs1, G1⟩ := (id C0)
  refine Goes.via (S' := s₁.setTop (mkF m 6 #[.val (.ref a1), .val (.ref ca)] [.null, (.int (2 : Int32)), (.int (0 : Int32)), (.ref ca), (.ref a1)])) (fun tz kz => ?_) ?_
  · show Steps p.tables e below (s₁.setTop (mkF m 4 #[.val (.ref a1), .val (.ref ca)] [(.ref ca), (.int (0 : Int32)), (.ref ca), (.ref a1)])) _
    refine X0.arraylength hx (by rw [e0]; exact Ar1.1) (State.isArrayOf_alike hZ.alike Ar1.2.1) (g := (mkF m 4 #[.val (.ref a1), .val (.ref ca)] [(.ref ca), (.int (0 : Int32)), (.ref ca), (.ref a1)])) rfl rfl (hb hby d1_4) _ ?_
    rw [len_of Sz1 Nn1]
    refine XS.aconstNull X0.here hx rfl (hb hby d1_5) ?_
    exact kz
  obtain ⟨_, _, ⟨T2, L2, k2, n2⟩, -, X2, ⟨Lc2, hQ2, l2, y2, z2⟩, st2⟩ := X0.specialBack hx (y := (⟨"java/lang/String", "<init>", "([CIILjava/lang/Void;)V"⟩ : MethodName)) rfl hown (mvT hZ (w_ hw 8 rfl)) (mvT hZ (w_ hw 9 rfl)) (mvT hZ (w_ hw 11 rfl)) (by decide) (backOf (W := 0) (rn4_2 l Z a0 hw [] a1 ca cs ka c0 c1 h0 n0 Z0 SC hcs O0 SA SH SL FV FC E1 g1 C0 z0 z1) hZ (w_ hw 11 rfl) (w_ hw 4 rfl) (by decide) (by decide)) (g := (mkF m 6 #[.val (.ref a1), .val (.ref ca)] [.null, (.int (2 : Int32)), (.int (0 : Int32)), (.ref ca), (.ref a1)])) rfl (by rw [hml]; rfl) (Steps.refl _) (a := a1) (argsL := [(.ref ca), (.int (0 : Int32)), (.int (2 : Int32)), .null]) (rest := []) (lenOf pd_0 rfl) rfl (by show 2 * 0 + _ ≤ _; exact Nat.le_of_eq rfl) (hb hby d1_6) (fun _ _ => ⟨rfl, e0, (by decide : 0 + 2 ≤ _), (by decide : 0 + 6 ≤ _)⟩)
  dsimp only [Pt.U, Pt.locs, Pt.cells, Pt.slots] at X2 l2 y2 z2 st2 hQ2
  subst l2 y2 z2
  obtain ⟨rfl, N2, K2, vb, kb, S2⟩ := hQ2
  have Nf2 := Fr.app N0 N2
  refine Goes.via (S' := T2.setTop (mkF m 9 #[.val (.ref a1), .val (.ref ca)] [])) (fun _ kz => st2.trans kz) ?_
  exact Goes.retV X2 hx Bd.notSynchronized Bd.returns (hb hby d1_9) (Nat.le_of_ble_eq_true rfl) (Nat.le_of_ble_eq_true rfl) ⟨rfl, Nf2, K2, vb, kb, S2⟩
def Q_rnbl_3 (Z : State)   (h0 : Heap) (n0 : Nat) : Option Value → Heap → List Loc → Prop := fun v h L => v = some (.int (6 : Int32)) ∧ Fr n0 L ∧ h = h0
set_option maxRecDepth 65536 in
set_option maxHeartbeats 40000000 in
theorem rnbl_3 (l : Launch) (Z : State) (a0 : Array Value) (hw : ∀ d ∈ tables_1, d.before a0 Z = true) (ws : List Jvm.Cond)   (h0 : Heap) (n0 : Nat) (Z0 : n0 ≤ h0.size) :
    own_M l Z (⟨"java/lang/StringUTF16", "newBytesLength", "(I)I"⟩ : MethodName) (Jvm.Cond.code (⟨"java/lang/StringUTF16", "newBytesLength", "(I)I"⟩ : MethodName) jdk_52_method_3_code 1 (some .int)) ws ({ frames := 0, cells := 0, slots := 0, locals := 0 } : Room) #[(.int (3 : Int32))] h0 (Q_rnbl_3 Z  h0 n0) := by
  refine MetFree.of_bodySF (plainFor_of_name pn_27) hisR ?_
  intro p e s m args below meth c s₁ Bd hml0 hP hK
  obtain ⟨rfl, hZ, hh⟩ := hP
  have hx := Bd.exec
  have hby := Bd.bytes
  have hml : c.maxLocals = 1 := hml0
  have hown : s.vm.findClass "java/lang/StringUTF16" = some m.cls := findClass_of_methodNamed Bd.named
  have hnm := (name_of_methodNamed Bd.named Bd.method).1
  have X0 : Stand p l e ({ frames := 0, cells := 0, slots := 0, locals := 0 } : Room) s m #[(.int (3 : Int32))] below meth c s₁ [] 0 0 := Stand.of_body Bd
  have e0 : s₁.heap = h0 := by rw [← hh, Bd.state]; rfl
  have N0 := Fr.nil n0
  show Goes p e below (Fin s (Q_rnbl_3 Z  h0 n0) ({ frames := 0, cells := 0, slots := 0, locals := 0 } : Room).cells ({ frames := 0, cells := 0, slots := 0, locals := 0 } : Room).slots) _
  refine Goes.via (S' := s₁.setTop (mkF m 0 #[.val (.int (3 : Int32))] [])) (fun tz kz => castTop (ef_27 m (3 : Int32) ) kz) ?_
  refine Goes.via (S' := s₁.setTop (mkF m 58 #[.val (.int (3 : Int32))] [(.int (6 : Int32))])) (fun tz kz => ?_) ?_
  · show Steps p.tables e below (s₁.setTop (mkF m 0 #[.val (.int (3 : Int32))] [])) _
    refine XS.iloadN X0.here hx rfl (hb hby d27_0) rfl ?_
    refine XS.ifYes X0.here hx rfl (pc0 := 1) (pc' := 12) rfl (hb hby d27_1) rfl ((if0 _ _).trans (flt (by first | decide | rfl)).2.1) (by decide) (by decide) ?_
    refine XS.iloadN X0.here hx rfl (hb hby d27_12) rfl ?_
    refine X0.ldcInt hx hown (mvT hZ (w_ hw 121 rfl)) (g := (mkF m 13 #[.val (.int (3 : Int32))] [(.int (3 : Int32))])) rfl (hb hby d27_13) _ ?_
    show Steps p.tables e below (s₁.setTop (mkF m 15 #[.val (.int (3 : Int32))] [(.int (1073741823 : Int32)), (.int (3 : Int32))])) _
    refine XS.icmpYes X0.here hx rfl (pc0 := 15) (pc' := 55) rfl (hb hby d27_15) rfl (tlt (by first | decide | rfl)).1 (by decide) (by decide) ?_
    refine XS.iloadN X0.here hx rfl (hb hby d27_55) rfl ?_
    refine XS.iconst X0.here hx rfl (hb hby d27_56) ?_
    refine XS.ishl X0.here hx rfl (hb hby d27_57) rfl ?_
    exact kz
  exact Goes.retI X0 hx Bd.notSynchronized Bd.returns (hb hby d27_58) (Nat.le_of_ble_eq_true rfl) (Nat.le_of_ble_eq_true rfl) ⟨rfl, N0, e0⟩
def Q_rnbf_3 (Z : State)   (h0 : Heap) (n0 : Nat) : Option Value → Heap → List Loc → Prop := fun v h L => ∃ b k, v = some (.ref b) ∧ Fr n0 L ∧ Keep h0 h [] ∧ Arv Z h b k .byte (6 : Int32) [.int 0, .int 0, .int 0, .int 0, .int 0, .int 0] (.int 0) ∧ @LE.le Nat _ h0.size b
set_option maxRecDepth 65536 in
set_option maxHeartbeats 40000000 in
theorem rnbf_3 (l : Launch) (Z : State) (a0 : Array Value) (hw : ∀ d ∈ tables_1, d.before a0 Z = true) (ws : List Jvm.Cond)   (h0 : Heap) (n0 : Nat) (Z0 : n0 ≤ h0.size) :
    own_M l Z (⟨"java/lang/StringUTF16", "newBytesFor", "(I)[B"⟩ : MethodName) (Jvm.Cond.code (⟨"java/lang/StringUTF16", "newBytesFor", "(I)[B"⟩ : MethodName) jdk_52_method_2_code 1 (some (.array .byte))) ws ({ frames := 1, cells := 1, slots := 6, locals := 16 } : Room) #[(.int (3 : Int32))] h0 (Q_rnbf_3 Z  h0 n0) := by
  refine MetFree.of_bodySF (plainFor_of_name pn_26) hisR ?_
  intro p e s m args below meth c s₁ Bd hml0 hP hK
  obtain ⟨rfl, hZ, hh⟩ := hP
  have hx := Bd.exec
  have hby := Bd.bytes
  have hml : c.maxLocals = 1 := hml0
  have hown : s.vm.findClass "java/lang/StringUTF16" = some m.cls := findClass_of_methodNamed Bd.named
  have hnm := (name_of_methodNamed Bd.named Bd.method).1
  have X0 : Stand p l e ({ frames := 1, cells := 1, slots := 6, locals := 16 } : Room) s m #[(.int (3 : Int32))] below meth c s₁ [] 0 0 := Stand.of_body Bd
  have e0 : s₁.heap = h0 := by rw [← hh, Bd.state]; rfl
  have N0 := Fr.nil n0
  show Goes p e below (Fin s (Q_rnbf_3 Z  h0 n0) ({ frames := 1, cells := 1, slots := 6, locals := 16 } : Room).cells ({ frames := 1, cells := 1, slots := 6, locals := 16 } : Room).slots) _
  refine Goes.via (S' := s₁.setTop (mkF m 0 #[.val (.int (3 : Int32))] [])) (fun tz kz => castTop (ef_26 m (3 : Int32) ) kz) ?_
  refine Goes.via (S' := s₁.setTop (mkF m 1 #[.val (.int (3 : Int32))] [(.int (3 : Int32))])) (fun tz kz => ?_) ?_
  · show Steps p.tables e below (s₁.setTop (mkF m 0 #[.val (.int (3 : Int32))] [])) _
    refine XS.iloadN X0.here hx rfl (hb hby d26_0) rfl ?_
    exact kz
  obtain ⟨_, _, ⟨T1, L1, k1, n1⟩, -, X1, ⟨Lc1, hQ1, l1, y1, z1⟩, st1⟩ := Jvm.LawKit.callS X0 hx (y := (⟨"java/lang/StringUTF16", "newBytesLength", "(I)I"⟩ : MethodName)) hown (mvT hZ (w_ hw 118 rfl)) (mvT hZ (w_ hw 119 rfl)) (mvT hZ (w_ hw 50 rfl)) (mvT hZ (w_ hw 120 rfl)) (by decide) (backOf (W := 0) (rnbl_3 l Z a0 hw [] h0 n0 Z0) hZ (w_ hw 120 rfl) (w_ hw 50 rfl) (by decide) (by decide)) (g := (mkF m 1 #[.val (.int (3 : Int32))] [(.int (3 : Int32))])) rfl (by rw [hml]; rfl) (argsL := [(.int (3 : Int32))]) (rest := []) (lenOf pd_1 rfl) rfl (by show 2 * 0 + _ ≤ _; exact Nat.le_of_eq rfl) (hb hby d26_1) (fun _ _ => ⟨rfl, e0, (by decide : 0 + 0 ≤ _), (by decide : 0 + 0 ≤ _)⟩)
  dsimp only [Pt.U, Pt.locs, Pt.cells, Pt.slots] at X1 l1 y1 z1 st1 hQ1
  subst l1 y1 z1
  obtain ⟨rfl, N1, e1⟩ := hQ1
  have Nf1 := Fr.app N0 N1
  refine Goes.via (S' := T1.setTop (mkF m 4 #[.val (.int (3 : Int32))] [(.int (6 : Int32))])) (st1) ?_
  obtain ⟨T2, h2, k2, X2, e2, E2, A2, st2⟩ := newP X1 hx hZ (w_ hw 16 rfl) e1 (g := (mkF m 4 #[.val (.int (3 : Int32))] [(.int (6 : Int32))])) rfl (hb hby d26_4) rfl (by decide) (cap := 6) (by decide) (by decide) (by decide) (by decide)
  obtain ⟨b2, g2⟩ : ∃ z, z = h0.size := ⟨_, rfl⟩
  rw [← g2] at A2 st2
  refine Goes.via (S' := T2.setTop (mkF m 6 #[.val (.int (3 : Int32))] [(.ref b2)])) st2 ?_
  have B2 : Arv Z h2 b2 k2 .byte (6 : Int32) [.int 0, .int 0, .int 0, .int 0, .int 0, .int 0] (.int 0) := (Arv.new A2 (by decide)).pad (pad_rep [] (.int 0) 6)
  exact Goes.retO X2 hx Bd.notSynchronized Bd.returns rfl (Or.inr (Or.inr (Or.inr (Or.inr ⟨rfl, rfl, rfl⟩)))) (hb hby d26_6) (Nat.le_of_ble_eq_true rfl) (Nat.le_of_ble_eq_true rfl) (by rw [e2]; exact ⟨b2, k2, rfl, Nf1, (Keep.refl h0 []).ext E2, B2, Nat.le_of_eq g2.symm⟩)
def Q_rtb_3 (Z : State) (ca : Addr) (ka : ClassId) (c0 c1 c2 : Int32) (h0 : Heap) (n0 : Nat) : Option Value → Heap → List Loc → Prop := fun v h L => ∃ b k, v = some (.ref b) ∧ Fr n0 L ∧ Keep h0 h [] ∧ Arv Z h b k .byte (6 : Int32) [.int (own_lo c0), .int (own_hi c0), .int (own_lo c1), .int (own_hi c1), .int (own_lo c2), .int (own_hi c2)] (.int 0) ∧ @LE.le Nat _ h0.size b
set_option maxRecDepth 65536 in
set_option maxHeartbeats 40000000 in
theorem rtb_3 (l : Launch) (Z : State) (a0 : Array Value) (hw : ∀ d ∈ tables_1, d.before a0 Z = true) (ws : List Jvm.Cond) (ca : Addr) (ka : ClassId) (c0 c1 c2 : Int32) (h0 : Heap) (n0 : Nat) (Z0 : n0 ≤ h0.size) (SA : Sta Z Z.heap "java/lang/StringUTF16" "$assertionsDisabled" "Z" (.int (1 : Int32))) (SH : Sta Z Z.heap "java/lang/StringUTF16" "HI_BYTE_SHIFT" "I" (.int (0 : Int32))) (SL : Sta Z Z.heap "java/lang/StringUTF16" "LO_BYTE_SHIFT" "I" (.int (8 : Int32))) (O0 : Old Z n0 h0) (C0 : Arv Z h0 ca ka .char (3 : Int32) [.int c0, .int c1, .int c2] (.int 0)) :
    own_M l Z (⟨"java/lang/StringUTF16", "toBytes", "([CII)[B"⟩ : MethodName) (Jvm.Cond.code (⟨"java/lang/StringUTF16", "toBytes", "([CII)[B"⟩ : MethodName) jdk_52_method_14_code 5 (some (.array .byte))) ws ({ frames := 2, cells := 1, slots := 6, locals := 36 } : Room) #[(.ref ca), (.int (0 : Int32)), (.int (3 : Int32))] h0 (Q_rtb_3 Z ca ka c0 c1 c2 h0 n0) := by
  refine MetFree.of_bodySF (plainFor_of_name pn_25) hisR ?_
  intro p e s m args below meth c s₁ Bd hml0 hP hK
  obtain ⟨rfl, hZ, hh⟩ := hP
  have hx := Bd.exec
  have hby := Bd.bytes
  have hml : c.maxLocals = 5 := hml0
  have hown : s.vm.findClass "java/lang/StringUTF16" = some m.cls := findClass_of_methodNamed Bd.named
  have hnm := (name_of_methodNamed Bd.named Bd.method).1
  have X0 : Stand p l e ({ frames := 2, cells := 1, slots := 6, locals := 36 } : Room) s m #[(.ref ca), (.int (0 : Int32)), (.int (3 : Int32))] below meth c s₁ [] 0 0 := Stand.of_body Bd
  have e0 : s₁.heap = h0 := by rw [← hh, Bd.state]; rfl
  have N0 := Fr.nil n0
  show Goes p e below (Fin s (Q_rtb_3 Z ca ka c0 c1 c2 h0 n0) ({ frames := 2, cells := 1, slots := 6, locals := 36 } : Room).cells ({ frames := 2, cells := 1, slots := 6, locals := 36 } : Room).slots) _
  refine Goes.via (S' := s₁.setTop (mkF m 0 #[.val (.ref ca), .val (.int (0 : Int32)), .val (.int (3 : Int32)), .unset, .unset] [])) (fun tz kz => castTop (ef_25 m ca (0 : Int32) (3 : Int32) ) kz) ?_
  refine Goes.via (S' := s₁.setTop (mkF m 1 #[.val (.ref ca), .val (.int (0 : Int32)), .val (.int (3 : Int32)), .unset, .unset] [(.int (3 : Int32))])) (fun tz kz => ?_) ?_
  · show Steps p.tables e below (s₁.setTop (mkF m 0 #[.val (.ref ca), .val (.int (0 : Int32)), .val (.int (3 : Int32)), .unset, .unset] [])) _
    refine XS.iloadN X0.here hx rfl (hb hby d25_0) rfl ?_
    exact kz
  obtain ⟨_, _, ⟨T1, L1, k1, n1⟩, -, X1, ⟨Lc1, hQ1, l1, y1, z1⟩, st1⟩ := Jvm.LawKit.callS X0 hx (y := (⟨"java/lang/StringUTF16", "newBytesFor", "(I)[B"⟩ : MethodName)) hown (mvT hZ (w_ hw 115 rfl)) (mvT hZ (w_ hw 116 rfl)) (mvT hZ (w_ hw 50 rfl)) (mvT hZ (w_ hw 117 rfl)) (by decide) (backOf (W := 0) (rnbf_3 l Z a0 hw []  h0 n0 Z0) hZ (w_ hw 117 rfl) (w_ hw 50 rfl) (by decide) (by decide)) (g := (mkF m 1 #[.val (.ref ca), .val (.int (0 : Int32)), .val (.int (3 : Int32)), .unset, .unset] [(.int (3 : Int32))])) rfl (by rw [hml]; rfl) (argsL := [(.int (3 : Int32))]) (rest := []) (lenOf pd_2 rfl) rfl (by show 2 * 0 + _ ≤ _; exact Nat.le_of_eq rfl) (hb hby d25_1) (fun _ _ => ⟨rfl, e0, (by decide : 0 + 1 ≤ _), (by decide : 0 + 6 ≤ _)⟩)
  dsimp only [Pt.U, Pt.locs, Pt.cells, Pt.slots] at X1 l1 y1 z1 st1 hQ1
  subst l1 y1 z1
  obtain ⟨nb, kn, rfl, N1, K1, B1, gv⟩ := hQ1
  have Nf1 := Fr.app N0 N1
  refine Goes.via (S' := T1.setTop (mkF m 4 #[.val (.ref ca), .val (.int (0 : Int32)), .val (.int (3 : Int32)), .unset, .unset] [(.ref nb)])) (st1) ?_
  have C1 := C0.keep K1 nin0
  have O1 := O0.keep K1 all0
  have gb : n0 ≤ nb := Nat.le_trans Z0 gv
  have nab : ca ≠ nb := Nat.ne_of_lt (Nat.lt_of_lt_of_le C0.lt gv)
  have Z1 := Nat.le_trans Z0 K1.1
  refine Goes.via (S' := T1.setTop (mkF m 19 #[.val (.ref ca), .val (.int (0 : Int32)), .val (.int (3 : Int32)), .val (.ref nb), .val (.int (0 : Int32))] [(.int (0 : Int32)), (.ref ca), (.int (0 : Int32)), (.ref nb)])) (fun tz kz => ?_) ?_
  · show Steps p.tables e below (T1.setTop (mkF m 4 #[.val (.ref ca), .val (.int (0 : Int32)), .val (.int (3 : Int32)), .unset, .unset] [(.ref nb)])) _
    refine XS.astoreN X1.here hx rfl (hb hby d25_4) rfl rfl (l' := #[.val (.ref ca), .val (.int (0 : Int32)), .val (.int (3 : Int32)), .val (.ref nb), .unset]) rfl ?_
    refine XS.iconst X1.here hx rfl (hb hby d25_5) ?_
    refine XS.istore X1.here hx rfl (hb hby d25_6) rfl (l' := #[.val (.ref ca), .val (.int (0 : Int32)), .val (.int (3 : Int32)), .val (.ref nb), .val (.int (0 : Int32))]) rfl ?_
    refine XS.iload X1.here hx rfl (hb hby d25_8) rfl ?_
    show Steps p.tables e below (T1.setTop (mkF m 10 #[.val (.ref ca), .val (.int (0 : Int32)), .val (.int (3 : Int32)), .val (.ref nb), .val (.int (0 : Int32))] [(.int (0 : Int32))])) _
    refine XS.iloadN X1.here hx rfl (hb hby d25_10) rfl ?_
    refine XS.icmpNo X1.here hx rfl (hb hby d25_11) rfl (tlt (by first | decide | rfl)).2.1 ?_
    refine XS.aloadN X1.here hx rfl (hb hby d25_14) rfl rfl ?_
    refine XS.iload X1.here hx rfl (hb hby d25_15) rfl ?_
    show Steps p.tables e below (T1.setTop (mkF m 17 #[.val (.ref ca), .val (.int (0 : Int32)), .val (.int (3 : Int32)), .val (.ref nb), .val (.int (0 : Int32))] [(.int (0 : Int32)), (.ref nb)])) _
    refine XS.aloadN X1.here hx rfl (hb hby d25_17) rfl rfl ?_
    refine XS.iloadN X1.here hx rfl (hb hby d25_18) rfl ?_
    exact kz
  obtain ⟨cl2, Ar2, q2, Sz2, Nn2, Hs2, G2⟩ := (id C1)
  refine Goes.via (S' := T1.setTop (mkF m 20 #[.val (.ref ca), .val (.int (0 : Int32)), .val (.int (3 : Int32)), .val (.ref nb), .val (.int (0 : Int32))] [(.int c0), (.int (0 : Int32)), (.ref nb)])) (fun tz kz => ?_) ?_
  · show Steps p.tables e below (T1.setTop (mkF m 19 #[.val (.ref ca), .val (.int (0 : Int32)), .val (.int (3 : Int32)), .val (.ref nb), .val (.int (0 : Int32))] [(.int (0 : Int32)), (.ref ca), (.int (0 : Int32)), (.ref nb)])) _
    refine X1.caload hx (j := (0 : Int32)) (v := (.int c0)) (by exact Ar2.1) (State.isArrayOf_alike hZ.alike Ar2.2.1) Ar2.2.2 (inb_of Sz2 ⟨by decide, by decide⟩) (Has.at Hs2 (inb_of Sz2 ⟨by decide, by decide⟩) rfl) (g := (mkF m 19 #[.val (.ref ca), .val (.int (0 : Int32)), .val (.int (3 : Int32)), .val (.ref nb), .val (.int (0 : Int32))] [(.int (0 : Int32)), (.ref ca), (.int (0 : Int32)), (.ref nb)])) rfl rfl (hb hby d25_19) _ ?_
    exact kz
  obtain ⟨_, _, ⟨T3, L3, k3, n3⟩, -, X3, ⟨Lc3, hQ3, l3, y3, z3⟩, st3⟩ := Jvm.LawKit.callS X1 hx (y := (⟨"java/lang/StringUTF16", "putChar", "([BII)V"⟩ : MethodName)) hown (mvT hZ (w_ hw 122 rfl)) (mvT hZ (w_ hw 123 rfl)) (mvT hZ (w_ hw 50 rfl)) (mvT hZ (w_ hw 124 rfl)) (by decide) (backOf (W := 0) (rpc l Z a0 hw [] nb (0 : Int32) c0 kn (6 : Int32) (0 : Int32) (1 : Int32) 0 1 [.int 0, .int 0, .int 0, .int 0, .int 0, .int 0] T1.heap n0 Z1 SA SH SL O1 B1 gb rfl rfl ⟨by decide, by decide⟩ ⟨by decide, by decide⟩ rfl rfl (Nat.le_of_ble_eq_true rfl) (Nat.le_of_ble_eq_true rfl)) hZ (w_ hw 124 rfl) (w_ hw 50 rfl) (by decide) (by decide)) (g := (mkF m 20 #[.val (.ref ca), .val (.int (0 : Int32)), .val (.int (3 : Int32)), .val (.ref nb), .val (.int (0 : Int32))] [(.int c0), (.int (0 : Int32)), (.ref nb)])) rfl (by rw [hml]; rfl) (argsL := [(.ref nb), (.int (0 : Int32)), (.int c0)]) (rest := []) (lenOf pd_3 rfl) rfl (by show 2 * 0 + _ ≤ _; exact Nat.le_of_eq rfl) (hb hby d25_20) (fun _ _ => ⟨rfl, rfl, (by decide : 1 + 0 ≤ _), (by decide : 6 + 0 ≤ _)⟩)
  dsimp only [Pt.U, Pt.locs, Pt.cells, Pt.slots] at X3 l3 y3 z3 st3 hQ3
  subst l3 y3 z3
  obtain ⟨rfl, N3, K3, B3⟩ := hQ3
  have Nf3 := Fr.app Nf1 N3
  refine Goes.via (S' := T3.setTop (mkF m 23 #[.val (.ref ca), .val (.int (0 : Int32)), .val (.int (3 : Int32)), .val (.ref nb), .val (.int (0 : Int32))] [])) (st3) ?_
  have B3 : Arv Z T3.heap nb kn .byte (6 : Int32) [.int (own_lo c0), .int (own_hi c0), .int 0, .int 0, .int 0, .int 0] (.int 0) := B3
  have C3 := C1.keep K3 (fun q => nab (List.mem_singleton.mp q))
  have O3 := O1.keep K3 (allS gb all0)
  have J3 := K1.trans K3 (allS (Or.inr gv) all0)
  have Z3 := Nat.le_trans Z1 K3.1
  refine Goes.via (S' := T3.setTop (mkF m 19 #[.val (.ref ca), .val (.int (1 : Int32)), .val (.int (3 : Int32)), .val (.ref nb), .val (.int (1 : Int32))] [(.int (1 : Int32)), (.ref ca), (.int (1 : Int32)), (.ref nb)])) (fun tz kz => ?_) ?_
  · show Steps p.tables e below (T3.setTop (mkF m 23 #[.val (.ref ca), .val (.int (0 : Int32)), .val (.int (3 : Int32)), .val (.ref nb), .val (.int (0 : Int32))] [])) _
    refine XS.iinc X3.here hx rfl (hb hby d25_23) rfl (l' := #[.val (.ref ca), .val (.int (1 : Int32)), .val (.int (3 : Int32)), .val (.ref nb), .val (.int (0 : Int32))]) rfl ?_
    refine XS.iinc X3.here hx rfl (hb hby d25_26) rfl (l' := #[.val (.ref ca), .val (.int (1 : Int32)), .val (.int (3 : Int32)), .val (.ref nb), .val (.int (1 : Int32))]) rfl ?_
    refine XS.goto X3.here hx rfl (pc0 := 29) (pc' := 8) rfl (hb hby d25_29) (by decide) (by decide) ?_
    refine XS.iload X3.here hx rfl (hb hby d25_8) rfl ?_
    show Steps p.tables e below (T3.setTop (mkF m 10 #[.val (.ref ca), .val (.int (1 : Int32)), .val (.int (3 : Int32)), .val (.ref nb), .val (.int (1 : Int32))] [(.int (1 : Int32))])) _
    refine XS.iloadN X3.here hx rfl (hb hby d25_10) rfl ?_
    refine XS.icmpNo X3.here hx rfl (hb hby d25_11) rfl (tlt (by first | decide | rfl)).2.1 ?_
    refine XS.aloadN X3.here hx rfl (hb hby d25_14) rfl rfl ?_
    refine XS.iload X3.here hx rfl (hb hby d25_15) rfl ?_
    show Steps p.tables e below (T3.setTop (mkF m 17 #[.val (.ref ca), .val (.int (1 : Int32)), .val (.int (3 : Int32)), .val (.ref nb), .val (.int (1 : Int32))] [(.int (1 : Int32)), (.ref nb)])) _
    refine XS.aloadN X3.here hx rfl (hb hby d25_17) rfl rfl ?_
    refine XS.iloadN X3.here hx rfl (hb hby d25_18) rfl ?_
    exact kz
  obtain ⟨cl4, Ar4, q4, Sz4, Nn4, Hs4, G4⟩ := (id C3)
  refine Goes.via (S' := T3.setTop (mkF m 20 #[.val (.ref ca), .val (.int (1 : Int32)), .val (.int (3 : Int32)), .val (.ref nb), .val (.int (1 : Int32))] [(.int c1), (.int (1 : Int32)), (.ref nb)])) (fun tz kz => ?_) ?_
  · show Steps p.tables e below (T3.setTop (mkF m 19 #[.val (.ref ca), .val (.int (1 : Int32)), .val (.int (3 : Int32)), .val (.ref nb), .val (.int (1 : Int32))] [(.int (1 : Int32)), (.ref ca), (.int (1 : Int32)), (.ref nb)])) _
    refine X3.caload hx (j := (1 : Int32)) (v := (.int c1)) (by exact Ar4.1) (State.isArrayOf_alike hZ.alike Ar4.2.1) Ar4.2.2 (inb_of Sz4 ⟨by decide, by decide⟩) (Has.at Hs4 (inb_of Sz4 ⟨by decide, by decide⟩) rfl) (g := (mkF m 19 #[.val (.ref ca), .val (.int (1 : Int32)), .val (.int (3 : Int32)), .val (.ref nb), .val (.int (1 : Int32))] [(.int (1 : Int32)), (.ref ca), (.int (1 : Int32)), (.ref nb)])) rfl rfl (hb hby d25_19) _ ?_
    exact kz
  obtain ⟨_, _, ⟨T5, L5, k5, n5⟩, -, X5, ⟨Lc5, hQ5, l5, y5, z5⟩, st5⟩ := Jvm.LawKit.callS X3 hx (y := (⟨"java/lang/StringUTF16", "putChar", "([BII)V"⟩ : MethodName)) hown (mvT hZ (w_ hw 122 rfl)) (mvT hZ (w_ hw 123 rfl)) (mvT hZ (w_ hw 50 rfl)) (mvT hZ (w_ hw 124 rfl)) (by decide) (backOf (W := 0) (rpc l Z a0 hw [] nb (1 : Int32) c1 kn (6 : Int32) (2 : Int32) (3 : Int32) 2 3 [.int (own_lo c0), .int (own_hi c0), .int 0, .int 0, .int 0, .int 0] T3.heap n0 Z3 SA SH SL O3 B3 gb rfl rfl ⟨by decide, by decide⟩ ⟨by decide, by decide⟩ rfl rfl (Nat.le_of_ble_eq_true rfl) (Nat.le_of_ble_eq_true rfl)) hZ (w_ hw 124 rfl) (w_ hw 50 rfl) (by decide) (by decide)) (g := (mkF m 20 #[.val (.ref ca), .val (.int (1 : Int32)), .val (.int (3 : Int32)), .val (.ref nb), .val (.int (1 : Int32))] [(.int c1), (.int (1 : Int32)), (.ref nb)])) rfl (by rw [hml]; rfl) (argsL := [(.ref nb), (.int (1 : Int32)), (.int c1)]) (rest := []) (lenOf pd_3 rfl) rfl (by show 2 * 0 + _ ≤ _; exact Nat.le_of_eq rfl) (hb hby d25_20) (fun _ _ => ⟨rfl, rfl, (by decide : 1 + 0 ≤ _), (by decide : 6 + 0 ≤ _)⟩)
  dsimp only [Pt.U, Pt.locs, Pt.cells, Pt.slots] at X5 l5 y5 z5 st5 hQ5
  subst l5 y5 z5
  obtain ⟨rfl, N5, K5, B5⟩ := hQ5
  have Nf5 := Fr.app Nf3 N5
  refine Goes.via (S' := T5.setTop (mkF m 23 #[.val (.ref ca), .val (.int (1 : Int32)), .val (.int (3 : Int32)), .val (.ref nb), .val (.int (1 : Int32))] [])) (st5) ?_
  have B5 : Arv Z T5.heap nb kn .byte (6 : Int32) [.int (own_lo c0), .int (own_hi c0), .int (own_lo c1), .int (own_hi c1), .int 0, .int 0] (.int 0) := B5
  have C5 := C3.keep K5 (fun q => nab (List.mem_singleton.mp q))
  have O5 := O3.keep K5 (allS gb all0)
  have J5 := J3.trans K5 (allS (Or.inr gv) all0)
  have Z5 := Nat.le_trans Z3 K5.1
  refine Goes.via (S' := T5.setTop (mkF m 19 #[.val (.ref ca), .val (.int (2 : Int32)), .val (.int (3 : Int32)), .val (.ref nb), .val (.int (2 : Int32))] [(.int (2 : Int32)), (.ref ca), (.int (2 : Int32)), (.ref nb)])) (fun tz kz => ?_) ?_
  · show Steps p.tables e below (T5.setTop (mkF m 23 #[.val (.ref ca), .val (.int (1 : Int32)), .val (.int (3 : Int32)), .val (.ref nb), .val (.int (1 : Int32))] [])) _
    refine XS.iinc X5.here hx rfl (hb hby d25_23) rfl (l' := #[.val (.ref ca), .val (.int (2 : Int32)), .val (.int (3 : Int32)), .val (.ref nb), .val (.int (1 : Int32))]) rfl ?_
    refine XS.iinc X5.here hx rfl (hb hby d25_26) rfl (l' := #[.val (.ref ca), .val (.int (2 : Int32)), .val (.int (3 : Int32)), .val (.ref nb), .val (.int (2 : Int32))]) rfl ?_
    refine XS.goto X5.here hx rfl (pc0 := 29) (pc' := 8) rfl (hb hby d25_29) (by decide) (by decide) ?_
    refine XS.iload X5.here hx rfl (hb hby d25_8) rfl ?_
    show Steps p.tables e below (T5.setTop (mkF m 10 #[.val (.ref ca), .val (.int (2 : Int32)), .val (.int (3 : Int32)), .val (.ref nb), .val (.int (2 : Int32))] [(.int (2 : Int32))])) _
    refine XS.iloadN X5.here hx rfl (hb hby d25_10) rfl ?_
    refine XS.icmpNo X5.here hx rfl (hb hby d25_11) rfl (tlt (by first | decide | rfl)).2.1 ?_
    refine XS.aloadN X5.here hx rfl (hb hby d25_14) rfl rfl ?_
    refine XS.iload X5.here hx rfl (hb hby d25_15) rfl ?_
    show Steps p.tables e below (T5.setTop (mkF m 17 #[.val (.ref ca), .val (.int (2 : Int32)), .val (.int (3 : Int32)), .val (.ref nb), .val (.int (2 : Int32))] [(.int (2 : Int32)), (.ref nb)])) _
    refine XS.aloadN X5.here hx rfl (hb hby d25_17) rfl rfl ?_
    refine XS.iloadN X5.here hx rfl (hb hby d25_18) rfl ?_
    exact kz
  obtain ⟨cl6, Ar6, q6, Sz6, Nn6, Hs6, G6⟩ := (id C5)
  refine Goes.via (S' := T5.setTop (mkF m 20 #[.val (.ref ca), .val (.int (2 : Int32)), .val (.int (3 : Int32)), .val (.ref nb), .val (.int (2 : Int32))] [(.int c2), (.int (2 : Int32)), (.ref nb)])) (fun tz kz => ?_) ?_
  · show Steps p.tables e below (T5.setTop (mkF m 19 #[.val (.ref ca), .val (.int (2 : Int32)), .val (.int (3 : Int32)), .val (.ref nb), .val (.int (2 : Int32))] [(.int (2 : Int32)), (.ref ca), (.int (2 : Int32)), (.ref nb)])) _
    refine X5.caload hx (j := (2 : Int32)) (v := (.int c2)) (by exact Ar6.1) (State.isArrayOf_alike hZ.alike Ar6.2.1) Ar6.2.2 (inb_of Sz6 ⟨by decide, by decide⟩) (Has.at Hs6 (inb_of Sz6 ⟨by decide, by decide⟩) rfl) (g := (mkF m 19 #[.val (.ref ca), .val (.int (2 : Int32)), .val (.int (3 : Int32)), .val (.ref nb), .val (.int (2 : Int32))] [(.int (2 : Int32)), (.ref ca), (.int (2 : Int32)), (.ref nb)])) rfl rfl (hb hby d25_19) _ ?_
    exact kz
  obtain ⟨_, _, ⟨T7, L7, k7, n7⟩, -, X7, ⟨Lc7, hQ7, l7, y7, z7⟩, st7⟩ := Jvm.LawKit.callS X5 hx (y := (⟨"java/lang/StringUTF16", "putChar", "([BII)V"⟩ : MethodName)) hown (mvT hZ (w_ hw 122 rfl)) (mvT hZ (w_ hw 123 rfl)) (mvT hZ (w_ hw 50 rfl)) (mvT hZ (w_ hw 124 rfl)) (by decide) (backOf (W := 0) (rpc l Z a0 hw [] nb (2 : Int32) c2 kn (6 : Int32) (4 : Int32) (5 : Int32) 4 5 [.int (own_lo c0), .int (own_hi c0), .int (own_lo c1), .int (own_hi c1), .int 0, .int 0] T5.heap n0 Z5 SA SH SL O5 B5 gb rfl rfl ⟨by decide, by decide⟩ ⟨by decide, by decide⟩ rfl rfl (Nat.le_of_ble_eq_true rfl) (Nat.le_of_ble_eq_true rfl)) hZ (w_ hw 124 rfl) (w_ hw 50 rfl) (by decide) (by decide)) (g := (mkF m 20 #[.val (.ref ca), .val (.int (2 : Int32)), .val (.int (3 : Int32)), .val (.ref nb), .val (.int (2 : Int32))] [(.int c2), (.int (2 : Int32)), (.ref nb)])) rfl (by rw [hml]; rfl) (argsL := [(.ref nb), (.int (2 : Int32)), (.int c2)]) (rest := []) (lenOf pd_3 rfl) rfl (by show 2 * 0 + _ ≤ _; exact Nat.le_of_eq rfl) (hb hby d25_20) (fun _ _ => ⟨rfl, rfl, (by decide : 1 + 0 ≤ _), (by decide : 6 + 0 ≤ _)⟩)
  dsimp only [Pt.U, Pt.locs, Pt.cells, Pt.slots] at X7 l7 y7 z7 st7 hQ7
  subst l7 y7 z7
  obtain ⟨rfl, N7, K7, B7⟩ := hQ7
  have Nf7 := Fr.app Nf5 N7
  refine Goes.via (S' := T7.setTop (mkF m 23 #[.val (.ref ca), .val (.int (2 : Int32)), .val (.int (3 : Int32)), .val (.ref nb), .val (.int (2 : Int32))] [])) (st7) ?_
  have B7 : Arv Z T7.heap nb kn .byte (6 : Int32) [.int (own_lo c0), .int (own_hi c0), .int (own_lo c1), .int (own_hi c1), .int (own_lo c2), .int (own_hi c2)] (.int 0) := B7
  have C7 := C5.keep K7 (fun q => nab (List.mem_singleton.mp q))
  have O7 := O5.keep K7 (allS gb all0)
  have J7 := J5.trans K7 (allS (Or.inr gv) all0)
  have Z7 := Nat.le_trans Z5 K7.1
  refine Goes.via (S' := T7.setTop (mkF m 33 #[.val (.ref ca), .val (.int (3 : Int32)), .val (.int (3 : Int32)), .val (.ref nb), .val (.int (3 : Int32))] [(.ref nb)])) (fun tz kz => ?_) ?_
  · show Steps p.tables e below (T7.setTop (mkF m 23 #[.val (.ref ca), .val (.int (2 : Int32)), .val (.int (3 : Int32)), .val (.ref nb), .val (.int (2 : Int32))] [])) _
    refine XS.iinc X7.here hx rfl (hb hby d25_23) rfl (l' := #[.val (.ref ca), .val (.int (3 : Int32)), .val (.int (3 : Int32)), .val (.ref nb), .val (.int (2 : Int32))]) rfl ?_
    refine XS.iinc X7.here hx rfl (hb hby d25_26) rfl (l' := #[.val (.ref ca), .val (.int (3 : Int32)), .val (.int (3 : Int32)), .val (.ref nb), .val (.int (3 : Int32))]) rfl ?_
    refine XS.goto X7.here hx rfl (pc0 := 29) (pc' := 8) rfl (hb hby d25_29) (by decide) (by decide) ?_
    refine XS.iload X7.here hx rfl (hb hby d25_8) rfl ?_
    show Steps p.tables e below (T7.setTop (mkF m 10 #[.val (.ref ca), .val (.int (3 : Int32)), .val (.int (3 : Int32)), .val (.ref nb), .val (.int (3 : Int32))] [(.int (3 : Int32))])) _
    refine XS.iloadN X7.here hx rfl (hb hby d25_10) rfl ?_
    refine XS.icmpYes X7.here hx rfl (pc0 := 11) (pc' := 32) rfl (hb hby d25_11) rfl (flt (by first | decide | rfl)).2.1 (by decide) (by decide) ?_
    refine XS.aloadN X7.here hx rfl (hb hby d25_32) rfl rfl ?_
    exact kz
  exact Goes.retO X7 hx Bd.notSynchronized Bd.returns rfl (Or.inr (Or.inr (Or.inr (Or.inr ⟨rfl, rfl, rfl⟩)))) (hb hby d25_33) (Nat.le_of_ble_eq_true rfl) (Nat.le_of_ble_eq_true rfl) ⟨nb, kn, rfl, Nf7, J7, B7, gv⟩
def Q_rc5_3 (Z : State) (ca : Addr) (bb : Addr) (ka kz : ClassId) (c0 c1 c2 : Int32) (h0 : Heap) (n0 : Nat) : Option Value → Heap → List Loc → Prop := fun v h L => ∃ j, v = some (.int j) ∧ Fr n0 L ∧ Keep h0 h [bb] ∧ ((j = (3 : Int32) ∧ (¬ (255 : Int32) < c0 ∧ ¬ (255 : Int32) < c1 ∧ ¬ (255 : Int32) < c2) ∧ Arv Z h bb kz .byte (3 : Int32) [.int (own_by c0), .int (own_by c1), .int (own_by c2)] (.int 0)) ∨ own_big (3 : Int32) (6 : Int32) [.int (own_lo c0), .int (own_hi c0), .int (own_lo c1), .int (own_hi c1), .int (own_lo c2), .int (own_hi c2)] j)
set_option maxRecDepth 65536 in
set_option maxHeartbeats 40000000 in
theorem rc5_3 (l : Launch) (Z : State) (a0 : Array Value) (hw : ∀ d ∈ tables_1, d.before a0 Z = true) (ws : List Jvm.Cond) (ca : Addr) (bb : Addr) (ka kz : ClassId) (c0 c1 c2 : Int32) (h0 : Heap) (n0 : Nat) (Z0 : n0 ≤ h0.size) (C0 : Arv Z h0 ca ka .char (3 : Int32) [.int c0, .int c1, .int c2] (.int 0)) (B0 : Arv Z h0 bb kz .byte (3 : Int32) [.int 0, .int 0, .int 0] (.int 0)) (gb : n0 ≤ bb) (nab : ca ≠ bb) (z0 : nar .char c0 = c0) (z1 : nar .char c1 = c1) (z2 : nar .char c2 = c2) :
    own_M l Z (⟨"java/lang/StringUTF16", "compress", "([CI[BII)I"⟩ : MethodName) (Jvm.Cond.code (⟨"java/lang/StringUTF16", "compress", "([CI[BII)I"⟩ : MethodName) jdk_52_method_21_code 7 (some .int)) ws ({ frames := 0, cells := 0, slots := 0, locals := 0 } : Room) #[(.ref ca), (.int (0 : Int32)), (.ref bb), (.int (0 : Int32)), (.int (3 : Int32))] h0 (Q_rc5_3 Z ca bb ka kz c0 c1 c2 h0 n0) := by
  refine MetFree.of_bodySF (plainFor_of_name pn_10) hisR ?_
  intro p e s m args below meth c s₁ Bd hml0 hP hK
  obtain ⟨rfl, hZ, hh⟩ := hP
  have hx := Bd.exec
  have hby := Bd.bytes
  have hml : c.maxLocals = 7 := hml0
  have hown : s.vm.findClass "java/lang/StringUTF16" = some m.cls := findClass_of_methodNamed Bd.named
  have hnm := (name_of_methodNamed Bd.named Bd.method).1
  have X0 : Stand p l e ({ frames := 0, cells := 0, slots := 0, locals := 0 } : Room) s m #[(.ref ca), (.int (0 : Int32)), (.ref bb), (.int (0 : Int32)), (.int (3 : Int32))] below meth c s₁ [] 0 0 := Stand.of_body Bd
  have e0 : s₁.heap = h0 := by rw [← hh, Bd.state]; rfl
  have N0 := Fr.nil n0
  show Goes p e below (Fin s (Q_rc5_3 Z ca bb ka kz c0 c1 c2 h0 n0) ({ frames := 0, cells := 0, slots := 0, locals := 0 } : Room).cells ({ frames := 0, cells := 0, slots := 0, locals := 0 } : Room).slots) _
  refine Goes.via (S' := s₁.setTop (mkF m 0 #[.val (.ref ca), .val (.int (0 : Int32)), .val (.ref bb), .val (.int (0 : Int32)), .val (.int (3 : Int32)), .unset, .unset] [])) (fun tz kz => castTop (ef_10 m ca (0 : Int32) bb (0 : Int32) (3 : Int32) ) kz) ?_
  refine Goes.via (S' := s₁.setTop (mkF m 12 #[.val (.ref ca), .val (.int (0 : Int32)), .val (.ref bb), .val (.int (0 : Int32)), .val (.int (3 : Int32)), .val (.int (0 : Int32)), .unset] [(.int (0 : Int32)), (.ref ca)])) (fun tz kz => ?_) ?_
  · show Steps p.tables e below (s₁.setTop (mkF m 0 #[.val (.ref ca), .val (.int (0 : Int32)), .val (.ref bb), .val (.int (0 : Int32)), .val (.int (3 : Int32)), .unset, .unset] [])) _
    refine XS.iconst X0.here hx rfl (hb hby d10_0) ?_
    refine XS.istore X0.here hx rfl (hb hby d10_1) rfl (l' := #[.val (.ref ca), .val (.int (0 : Int32)), .val (.ref bb), .val (.int (0 : Int32)), .val (.int (3 : Int32)), .val (.int (0 : Int32)), .unset]) rfl ?_
    refine XS.iload X0.here hx rfl (hb hby d10_3) rfl ?_
    refine XS.iload X0.here hx rfl (hb hby d10_5) rfl ?_
    show Steps p.tables e below (s₁.setTop (mkF m 7 #[.val (.ref ca), .val (.int (0 : Int32)), .val (.ref bb), .val (.int (0 : Int32)), .val (.int (3 : Int32)), .val (.int (0 : Int32)), .unset] [(.int (3 : Int32)), (.int (0 : Int32))])) _
    refine XS.icmpNo X0.here hx rfl (hb hby d10_7) rfl (tlt (by first | decide | rfl)).2.1 ?_
    refine XS.aloadN X0.here hx rfl (hb hby d10_10) rfl rfl ?_
    refine XS.iloadN X0.here hx rfl (hb hby d10_11) rfl ?_
    exact kz
  obtain ⟨cl1, Ar1, q1, Sz1, Nn1, Hs1, G1⟩ := (id C0)
  refine Goes.via (S' := s₁.setTop (mkF m 20 #[.val (.ref ca), .val (.int (0 : Int32)), .val (.ref bb), .val (.int (0 : Int32)), .val (.int (3 : Int32)), .val (.int (0 : Int32)), .val (.int c0)] [(.int (255 : Int32)), (.int c0)])) (fun tz kz => ?_) ?_
  · show Steps p.tables e below (s₁.setTop (mkF m 12 #[.val (.ref ca), .val (.int (0 : Int32)), .val (.ref bb), .val (.int (0 : Int32)), .val (.int (3 : Int32)), .val (.int (0 : Int32)), .unset] [(.int (0 : Int32)), (.ref ca)])) _
    refine X0.caload hx (j := (0 : Int32)) (v := (.int c0)) (by rw [e0]; exact Ar1.1) (State.isArrayOf_alike hZ.alike Ar1.2.1) Ar1.2.2 (inb_of Sz1 ⟨by decide, by decide⟩) (Has.at Hs1 (inb_of Sz1 ⟨by decide, by decide⟩) rfl) (g := (mkF m 12 #[.val (.ref ca), .val (.int (0 : Int32)), .val (.ref bb), .val (.int (0 : Int32)), .val (.int (3 : Int32)), .val (.int (0 : Int32)), .unset] [(.int (0 : Int32)), (.ref ca)])) rfl rfl (hb hby d10_12) _ ?_
    refine XS.istore X0.here hx rfl (hb hby d10_13) rfl (l' := #[.val (.ref ca), .val (.int (0 : Int32)), .val (.ref bb), .val (.int (0 : Int32)), .val (.int (3 : Int32)), .val (.int (0 : Int32)), .val (.int c0)]) rfl ?_
    refine XS.iload X0.here hx rfl (hb hby d10_15) rfl ?_
    refine XS.sipush X0.here hx rfl (hb hby d10_17) ?_
    exact kz
  by_cases hc20_2 : (255 : Int32) < c0
  · refine Goes.via (S' := s₁.setTop (mkF m 25 #[.val (.ref ca), .val (.int (0 : Int32)), .val (.ref bb), .val (.int (0 : Int32)), .val (.int (3 : Int32)), .val (.int (0 : Int32)), .val (.int c0)] [(.int (0 : Int32))])) (fun tz kz => ?_) ?_
    · show Steps p.tables e below (s₁.setTop (mkF m 20 #[.val (.ref ca), .val (.int (0 : Int32)), .val (.ref bb), .val (.int (0 : Int32)), .val (.int (3 : Int32)), .val (.int (0 : Int32)), .val (.int c0)] [(.int (255 : Int32)), (.int c0)])) _
      refine XS.icmpNo X0.here hx rfl (hb hby d10_20) rfl (tlt hc20_2).2.2.2 ?_
      refine XS.iload X0.here hx rfl (hb hby d10_23) rfl ?_
      exact kz
    exact Goes.retI X0 hx Bd.notSynchronized Bd.returns (hb hby d10_25) (Nat.le_of_ble_eq_true rfl) (Nat.le_of_ble_eq_true rfl) (by rw [e0]; exact ⟨(0 : Int32), rfl, N0, Keep.refl h0 [bb], Or.inr ⟨(0 : Int32), (1 : Int32), c0, by decide, rfl, rfl, ⟨by decide, by decide⟩, ⟨by decide, by decide⟩, rfl, rfl, z0, hc20_2⟩⟩)
  · refine Goes.via (S' := s₁.setTop (mkF m 31 #[.val (.ref ca), .val (.int (0 : Int32)), .val (.ref bb), .val (.int (0 : Int32)), .val (.int (3 : Int32)), .val (.int (0 : Int32)), .val (.int c0)] [(.int (c0.toInt8.toInt32)), (.int (0 : Int32)), (.ref bb)])) (fun tz kz => ?_) ?_
    · show Steps p.tables e below (s₁.setTop (mkF m 20 #[.val (.ref ca), .val (.int (0 : Int32)), .val (.ref bb), .val (.int (0 : Int32)), .val (.int (3 : Int32)), .val (.int (0 : Int32)), .val (.int c0)] [(.int (255 : Int32)), (.int c0)])) _
      refine XS.icmpYes X0.here hx rfl (pc0 := 20) (pc' := 26) rfl (hb hby d10_20) rfl (flt hc20_2).2.2.2 (by decide) (by decide) ?_
      refine XS.aloadN X0.here hx rfl (hb hby d10_26) rfl rfl ?_
      refine XS.iloadN X0.here hx rfl (hb hby d10_27) rfl ?_
      refine XS.iload X0.here hx rfl (hb hby d10_28) rfl ?_
      show Steps p.tables e below (s₁.setTop (mkF m 30 #[.val (.ref ca), .val (.int (0 : Int32)), .val (.ref bb), .val (.int (0 : Int32)), .val (.int (3 : Int32)), .val (.int (0 : Int32)), .val (.int c0)] [(.int c0), (.int (0 : Int32)), (.ref bb)])) _
      refine XS.i2b X0.here hx rfl (hb hby d10_30) rfl ?_
      exact kz
    obtain ⟨cl3, Ar3, q3, Sz3, Nn3, Hs3, G3⟩ := (id B0)
    obtain ⟨T4, h4, X4, e4, W4, st4⟩ := stB X0 hx hZ e0 Ar3 (j := (0 : Int32)) (inb_of Sz3 ⟨by decide, by decide⟩) (g := (mkF m 31 #[.val (.ref ca), .val (.int (0 : Int32)), .val (.ref bb), .val (.int (0 : Int32)), .val (.int (3 : Int32)), .val (.int (0 : Int32)), .val (.int c0)] [(.int (c0.toInt8.toInt32)), (.int (0 : Int32)), (.ref bb)])) rfl rfl (hb hby d10_31)
    refine Goes.via (S' := T4.setTop (mkF m 32 #[.val (.ref ca), .val (.int (0 : Int32)), .val (.ref bb), .val (.int (0 : Int32)), .val (.int (3 : Int32)), .val (.int (0 : Int32)), .val (.int c0)] [])) st4 ?_
    have N4 := Fr.snoc X4 N0 gb
    have C4 := (C0).other W4 nab
    have A4 := Arv.set Ar3 q3 Sz3 Nn3 Hs3 G3 (fits_nar_byte _) W4 0 rfl (Nat.le_of_ble_eq_true rfl)
    have K4 := (Keep.refl h0 [bb]).wr W4 (Or.inl (List.mem_singleton.mpr rfl))
    refine Goes.via (S' := T4.setTop (mkF m 12 #[.val (.ref ca), .val (.int (1 : Int32)), .val (.ref bb), .val (.int (1 : Int32)), .val (.int (3 : Int32)), .val (.int (1 : Int32)), .val (.int c0)] [(.int (1 : Int32)), (.ref ca)])) (fun tz kz => ?_) ?_
    · show Steps p.tables e below (T4.setTop (mkF m 32 #[.val (.ref ca), .val (.int (0 : Int32)), .val (.ref bb), .val (.int (0 : Int32)), .val (.int (3 : Int32)), .val (.int (0 : Int32)), .val (.int c0)] [])) _
      refine XS.iinc X4.here hx rfl (hb hby d10_32) rfl (l' := #[.val (.ref ca), .val (.int (1 : Int32)), .val (.ref bb), .val (.int (0 : Int32)), .val (.int (3 : Int32)), .val (.int (0 : Int32)), .val (.int c0)]) rfl ?_
      refine XS.iinc X4.here hx rfl (hb hby d10_35) rfl (l' := #[.val (.ref ca), .val (.int (1 : Int32)), .val (.ref bb), .val (.int (1 : Int32)), .val (.int (3 : Int32)), .val (.int (0 : Int32)), .val (.int c0)]) rfl ?_
      refine XS.iinc X4.here hx rfl (hb hby d10_38) rfl (l' := #[.val (.ref ca), .val (.int (1 : Int32)), .val (.ref bb), .val (.int (1 : Int32)), .val (.int (3 : Int32)), .val (.int (1 : Int32)), .val (.int c0)]) rfl ?_
      refine XS.goto X4.here hx rfl (pc0 := 41) (pc' := 3) rfl (hb hby d10_41) (by decide) (by decide) ?_
      show Steps p.tables e below (T4.setTop (mkF m 3 #[.val (.ref ca), .val (.int (1 : Int32)), .val (.ref bb), .val (.int (1 : Int32)), .val (.int (3 : Int32)), .val (.int (1 : Int32)), .val (.int c0)] [])) _
      refine XS.iload X4.here hx rfl (hb hby d10_3) rfl ?_
      refine XS.iload X4.here hx rfl (hb hby d10_5) rfl ?_
      refine XS.icmpNo X4.here hx rfl (hb hby d10_7) rfl (tlt (by first | decide | rfl)).2.1 ?_
      refine XS.aloadN X4.here hx rfl (hb hby d10_10) rfl rfl ?_
      show Steps p.tables e below (T4.setTop (mkF m 11 #[.val (.ref ca), .val (.int (1 : Int32)), .val (.ref bb), .val (.int (1 : Int32)), .val (.int (3 : Int32)), .val (.int (1 : Int32)), .val (.int c0)] [(.ref ca)])) _
      refine XS.iloadN X4.here hx rfl (hb hby d10_11) rfl ?_
      exact kz
    obtain ⟨cl5, Ar5, q5, Sz5, Nn5, Hs5, G5⟩ := (id C4)
    refine Goes.via (S' := T4.setTop (mkF m 20 #[.val (.ref ca), .val (.int (1 : Int32)), .val (.ref bb), .val (.int (1 : Int32)), .val (.int (3 : Int32)), .val (.int (1 : Int32)), .val (.int c1)] [(.int (255 : Int32)), (.int c1)])) (fun tz kz => ?_) ?_
    · show Steps p.tables e below (T4.setTop (mkF m 12 #[.val (.ref ca), .val (.int (1 : Int32)), .val (.ref bb), .val (.int (1 : Int32)), .val (.int (3 : Int32)), .val (.int (1 : Int32)), .val (.int c0)] [(.int (1 : Int32)), (.ref ca)])) _
      refine X4.caload hx (j := (1 : Int32)) (v := (.int c1)) (by rw [e4]; exact Ar5.1) (State.isArrayOf_alike hZ.alike Ar5.2.1) Ar5.2.2 (inb_of Sz5 ⟨by decide, by decide⟩) (Has.at Hs5 (inb_of Sz5 ⟨by decide, by decide⟩) rfl) (g := (mkF m 12 #[.val (.ref ca), .val (.int (1 : Int32)), .val (.ref bb), .val (.int (1 : Int32)), .val (.int (3 : Int32)), .val (.int (1 : Int32)), .val (.int c0)] [(.int (1 : Int32)), (.ref ca)])) rfl rfl (hb hby d10_12) _ ?_
      refine XS.istore X4.here hx rfl (hb hby d10_13) rfl (l' := #[.val (.ref ca), .val (.int (1 : Int32)), .val (.ref bb), .val (.int (1 : Int32)), .val (.int (3 : Int32)), .val (.int (1 : Int32)), .val (.int c1)]) rfl ?_
      refine XS.iload X4.here hx rfl (hb hby d10_15) rfl ?_
      refine XS.sipush X4.here hx rfl (hb hby d10_17) ?_
      exact kz
    by_cases hc20_6 : (255 : Int32) < c1
    · refine Goes.via (S' := T4.setTop (mkF m 25 #[.val (.ref ca), .val (.int (1 : Int32)), .val (.ref bb), .val (.int (1 : Int32)), .val (.int (3 : Int32)), .val (.int (1 : Int32)), .val (.int c1)] [(.int (1 : Int32))])) (fun tz kz => ?_) ?_
      · show Steps p.tables e below (T4.setTop (mkF m 20 #[.val (.ref ca), .val (.int (1 : Int32)), .val (.ref bb), .val (.int (1 : Int32)), .val (.int (3 : Int32)), .val (.int (1 : Int32)), .val (.int c1)] [(.int (255 : Int32)), (.int c1)])) _
        refine XS.icmpNo X4.here hx rfl (hb hby d10_20) rfl (tlt hc20_6).2.2.2 ?_
        refine XS.iload X4.here hx rfl (hb hby d10_23) rfl ?_
        exact kz
      exact Goes.retI X4 hx Bd.notSynchronized Bd.returns (hb hby d10_25) (Nat.le_of_ble_eq_true rfl) (Nat.le_of_ble_eq_true rfl) (by rw [e4]; exact ⟨(1 : Int32), rfl, N4, K4, Or.inr ⟨(2 : Int32), (3 : Int32), c1, by decide, rfl, rfl, ⟨by decide, by decide⟩, ⟨by decide, by decide⟩, rfl, rfl, z1, hc20_6⟩⟩)
    · refine Goes.via (S' := T4.setTop (mkF m 31 #[.val (.ref ca), .val (.int (1 : Int32)), .val (.ref bb), .val (.int (1 : Int32)), .val (.int (3 : Int32)), .val (.int (1 : Int32)), .val (.int c1)] [(.int (c1.toInt8.toInt32)), (.int (1 : Int32)), (.ref bb)])) (fun tz kz => ?_) ?_
      · show Steps p.tables e below (T4.setTop (mkF m 20 #[.val (.ref ca), .val (.int (1 : Int32)), .val (.ref bb), .val (.int (1 : Int32)), .val (.int (3 : Int32)), .val (.int (1 : Int32)), .val (.int c1)] [(.int (255 : Int32)), (.int c1)])) _
        refine XS.icmpYes X4.here hx rfl (pc0 := 20) (pc' := 26) rfl (hb hby d10_20) rfl (flt hc20_6).2.2.2 (by decide) (by decide) ?_
        refine XS.aloadN X4.here hx rfl (hb hby d10_26) rfl rfl ?_
        refine XS.iloadN X4.here hx rfl (hb hby d10_27) rfl ?_
        refine XS.iload X4.here hx rfl (hb hby d10_28) rfl ?_
        show Steps p.tables e below (T4.setTop (mkF m 30 #[.val (.ref ca), .val (.int (1 : Int32)), .val (.ref bb), .val (.int (1 : Int32)), .val (.int (3 : Int32)), .val (.int (1 : Int32)), .val (.int c1)] [(.int c1), (.int (1 : Int32)), (.ref bb)])) _
        refine XS.i2b X4.here hx rfl (hb hby d10_30) rfl ?_
        exact kz
      obtain ⟨cl7, Ar7, q7, Sz7, Nn7, Hs7, G7⟩ := (id A4)
      obtain ⟨T8, h8, X8, e8, W8, st8⟩ := stB X4 hx hZ e4 Ar7 (j := (1 : Int32)) (inb_of Sz7 ⟨by decide, by decide⟩) (g := (mkF m 31 #[.val (.ref ca), .val (.int (1 : Int32)), .val (.ref bb), .val (.int (1 : Int32)), .val (.int (3 : Int32)), .val (.int (1 : Int32)), .val (.int c1)] [(.int (c1.toInt8.toInt32)), (.int (1 : Int32)), (.ref bb)])) rfl rfl (hb hby d10_31)
      refine Goes.via (S' := T8.setTop (mkF m 32 #[.val (.ref ca), .val (.int (1 : Int32)), .val (.ref bb), .val (.int (1 : Int32)), .val (.int (3 : Int32)), .val (.int (1 : Int32)), .val (.int c1)] [])) st8 ?_
      have N8 := Fr.snoc X8 N4 gb
      have C8 := (C4).other W8 nab
      have A8 := Arv.set Ar7 q7 Sz7 Nn7 Hs7 G7 (fits_nar_byte _) W8 1 rfl (Nat.le_of_ble_eq_true rfl)
      have K8 := (K4).wr W8 (Or.inl (List.mem_singleton.mpr rfl))
      refine Goes.via (S' := T8.setTop (mkF m 12 #[.val (.ref ca), .val (.int (2 : Int32)), .val (.ref bb), .val (.int (2 : Int32)), .val (.int (3 : Int32)), .val (.int (2 : Int32)), .val (.int c1)] [(.int (2 : Int32)), (.ref ca)])) (fun tz kz => ?_) ?_
      · show Steps p.tables e below (T8.setTop (mkF m 32 #[.val (.ref ca), .val (.int (1 : Int32)), .val (.ref bb), .val (.int (1 : Int32)), .val (.int (3 : Int32)), .val (.int (1 : Int32)), .val (.int c1)] [])) _
        refine XS.iinc X8.here hx rfl (hb hby d10_32) rfl (l' := #[.val (.ref ca), .val (.int (2 : Int32)), .val (.ref bb), .val (.int (1 : Int32)), .val (.int (3 : Int32)), .val (.int (1 : Int32)), .val (.int c1)]) rfl ?_
        refine XS.iinc X8.here hx rfl (hb hby d10_35) rfl (l' := #[.val (.ref ca), .val (.int (2 : Int32)), .val (.ref bb), .val (.int (2 : Int32)), .val (.int (3 : Int32)), .val (.int (1 : Int32)), .val (.int c1)]) rfl ?_
        refine XS.iinc X8.here hx rfl (hb hby d10_38) rfl (l' := #[.val (.ref ca), .val (.int (2 : Int32)), .val (.ref bb), .val (.int (2 : Int32)), .val (.int (3 : Int32)), .val (.int (2 : Int32)), .val (.int c1)]) rfl ?_
        refine XS.goto X8.here hx rfl (pc0 := 41) (pc' := 3) rfl (hb hby d10_41) (by decide) (by decide) ?_
        show Steps p.tables e below (T8.setTop (mkF m 3 #[.val (.ref ca), .val (.int (2 : Int32)), .val (.ref bb), .val (.int (2 : Int32)), .val (.int (3 : Int32)), .val (.int (2 : Int32)), .val (.int c1)] [])) _
        refine XS.iload X8.here hx rfl (hb hby d10_3) rfl ?_
        refine XS.iload X8.here hx rfl (hb hby d10_5) rfl ?_
        refine XS.icmpNo X8.here hx rfl (hb hby d10_7) rfl (tlt (by first | decide | rfl)).2.1 ?_
        refine XS.aloadN X8.here hx rfl (hb hby d10_10) rfl rfl ?_
        show Steps p.tables e below (T8.setTop (mkF m 11 #[.val (.ref ca), .val (.int (2 : Int32)), .val (.ref bb), .val (.int (2 : Int32)), .val (.int (3 : Int32)), .val (.int (2 : Int32)), .val (.int c1)] [(.ref ca)])) _
        refine XS.iloadN X8.here hx rfl (hb hby d10_11) rfl ?_
        exact kz
      obtain ⟨cl9, Ar9, q9, Sz9, Nn9, Hs9, G9⟩ := (id C8)
      refine Goes.via (S' := T8.setTop (mkF m 20 #[.val (.ref ca), .val (.int (2 : Int32)), .val (.ref bb), .val (.int (2 : Int32)), .val (.int (3 : Int32)), .val (.int (2 : Int32)), .val (.int c2)] [(.int (255 : Int32)), (.int c2)])) (fun tz kz => ?_) ?_
      · show Steps p.tables e below (T8.setTop (mkF m 12 #[.val (.ref ca), .val (.int (2 : Int32)), .val (.ref bb), .val (.int (2 : Int32)), .val (.int (3 : Int32)), .val (.int (2 : Int32)), .val (.int c1)] [(.int (2 : Int32)), (.ref ca)])) _
        refine X8.caload hx (j := (2 : Int32)) (v := (.int c2)) (by rw [e8]; exact Ar9.1) (State.isArrayOf_alike hZ.alike Ar9.2.1) Ar9.2.2 (inb_of Sz9 ⟨by decide, by decide⟩) (Has.at Hs9 (inb_of Sz9 ⟨by decide, by decide⟩) rfl) (g := (mkF m 12 #[.val (.ref ca), .val (.int (2 : Int32)), .val (.ref bb), .val (.int (2 : Int32)), .val (.int (3 : Int32)), .val (.int (2 : Int32)), .val (.int c1)] [(.int (2 : Int32)), (.ref ca)])) rfl rfl (hb hby d10_12) _ ?_
        refine XS.istore X8.here hx rfl (hb hby d10_13) rfl (l' := #[.val (.ref ca), .val (.int (2 : Int32)), .val (.ref bb), .val (.int (2 : Int32)), .val (.int (3 : Int32)), .val (.int (2 : Int32)), .val (.int c2)]) rfl ?_
        refine XS.iload X8.here hx rfl (hb hby d10_15) rfl ?_
        refine XS.sipush X8.here hx rfl (hb hby d10_17) ?_
        exact kz
      by_cases hc20_10 : (255 : Int32) < c2
      · refine Goes.via (S' := T8.setTop (mkF m 25 #[.val (.ref ca), .val (.int (2 : Int32)), .val (.ref bb), .val (.int (2 : Int32)), .val (.int (3 : Int32)), .val (.int (2 : Int32)), .val (.int c2)] [(.int (2 : Int32))])) (fun tz kz => ?_) ?_
        · show Steps p.tables e below (T8.setTop (mkF m 20 #[.val (.ref ca), .val (.int (2 : Int32)), .val (.ref bb), .val (.int (2 : Int32)), .val (.int (3 : Int32)), .val (.int (2 : Int32)), .val (.int c2)] [(.int (255 : Int32)), (.int c2)])) _
          refine XS.icmpNo X8.here hx rfl (hb hby d10_20) rfl (tlt hc20_10).2.2.2 ?_
          refine XS.iload X8.here hx rfl (hb hby d10_23) rfl ?_
          exact kz
        exact Goes.retI X8 hx Bd.notSynchronized Bd.returns (hb hby d10_25) (Nat.le_of_ble_eq_true rfl) (Nat.le_of_ble_eq_true rfl) (by rw [e8]; exact ⟨(2 : Int32), rfl, N8, K8, Or.inr ⟨(4 : Int32), (5 : Int32), c2, by decide, rfl, rfl, ⟨by decide, by decide⟩, ⟨by decide, by decide⟩, rfl, rfl, z2, hc20_10⟩⟩)
      · refine Goes.via (S' := T8.setTop (mkF m 31 #[.val (.ref ca), .val (.int (2 : Int32)), .val (.ref bb), .val (.int (2 : Int32)), .val (.int (3 : Int32)), .val (.int (2 : Int32)), .val (.int c2)] [(.int (c2.toInt8.toInt32)), (.int (2 : Int32)), (.ref bb)])) (fun tz kz => ?_) ?_
        · show Steps p.tables e below (T8.setTop (mkF m 20 #[.val (.ref ca), .val (.int (2 : Int32)), .val (.ref bb), .val (.int (2 : Int32)), .val (.int (3 : Int32)), .val (.int (2 : Int32)), .val (.int c2)] [(.int (255 : Int32)), (.int c2)])) _
          refine XS.icmpYes X8.here hx rfl (pc0 := 20) (pc' := 26) rfl (hb hby d10_20) rfl (flt hc20_10).2.2.2 (by decide) (by decide) ?_
          refine XS.aloadN X8.here hx rfl (hb hby d10_26) rfl rfl ?_
          refine XS.iloadN X8.here hx rfl (hb hby d10_27) rfl ?_
          refine XS.iload X8.here hx rfl (hb hby d10_28) rfl ?_
          show Steps p.tables e below (T8.setTop (mkF m 30 #[.val (.ref ca), .val (.int (2 : Int32)), .val (.ref bb), .val (.int (2 : Int32)), .val (.int (3 : Int32)), .val (.int (2 : Int32)), .val (.int c2)] [(.int c2), (.int (2 : Int32)), (.ref bb)])) _
          refine XS.i2b X8.here hx rfl (hb hby d10_30) rfl ?_
          exact kz
        obtain ⟨cl11, Ar11, q11, Sz11, Nn11, Hs11, G11⟩ := (id A8)
        obtain ⟨T12, h12, X12, e12, W12, st12⟩ := stB X8 hx hZ e8 Ar11 (j := (2 : Int32)) (inb_of Sz11 ⟨by decide, by decide⟩) (g := (mkF m 31 #[.val (.ref ca), .val (.int (2 : Int32)), .val (.ref bb), .val (.int (2 : Int32)), .val (.int (3 : Int32)), .val (.int (2 : Int32)), .val (.int c2)] [(.int (c2.toInt8.toInt32)), (.int (2 : Int32)), (.ref bb)])) rfl rfl (hb hby d10_31)
        refine Goes.via (S' := T12.setTop (mkF m 32 #[.val (.ref ca), .val (.int (2 : Int32)), .val (.ref bb), .val (.int (2 : Int32)), .val (.int (3 : Int32)), .val (.int (2 : Int32)), .val (.int c2)] [])) st12 ?_
        have N12 := Fr.snoc X12 N8 gb
        have C12 := (C8).other W12 nab
        have A12 := Arv.set Ar11 q11 Sz11 Nn11 Hs11 G11 (fits_nar_byte _) W12 2 rfl (Nat.le_of_ble_eq_true rfl)
        have K12 := (K8).wr W12 (Or.inl (List.mem_singleton.mpr rfl))
        refine Goes.via (S' := T12.setTop (mkF m 46 #[.val (.ref ca), .val (.int (3 : Int32)), .val (.ref bb), .val (.int (3 : Int32)), .val (.int (3 : Int32)), .val (.int (3 : Int32)), .val (.int c2)] [(.int (3 : Int32))])) (fun tz kz => ?_) ?_
        · show Steps p.tables e below (T12.setTop (mkF m 32 #[.val (.ref ca), .val (.int (2 : Int32)), .val (.ref bb), .val (.int (2 : Int32)), .val (.int (3 : Int32)), .val (.int (2 : Int32)), .val (.int c2)] [])) _
          refine XS.iinc X12.here hx rfl (hb hby d10_32) rfl (l' := #[.val (.ref ca), .val (.int (3 : Int32)), .val (.ref bb), .val (.int (2 : Int32)), .val (.int (3 : Int32)), .val (.int (2 : Int32)), .val (.int c2)]) rfl ?_
          refine XS.iinc X12.here hx rfl (hb hby d10_35) rfl (l' := #[.val (.ref ca), .val (.int (3 : Int32)), .val (.ref bb), .val (.int (3 : Int32)), .val (.int (3 : Int32)), .val (.int (2 : Int32)), .val (.int c2)]) rfl ?_
          refine XS.iinc X12.here hx rfl (hb hby d10_38) rfl (l' := #[.val (.ref ca), .val (.int (3 : Int32)), .val (.ref bb), .val (.int (3 : Int32)), .val (.int (3 : Int32)), .val (.int (3 : Int32)), .val (.int c2)]) rfl ?_
          refine XS.goto X12.here hx rfl (pc0 := 41) (pc' := 3) rfl (hb hby d10_41) (by decide) (by decide) ?_
          show Steps p.tables e below (T12.setTop (mkF m 3 #[.val (.ref ca), .val (.int (3 : Int32)), .val (.ref bb), .val (.int (3 : Int32)), .val (.int (3 : Int32)), .val (.int (3 : Int32)), .val (.int c2)] [])) _
          refine XS.iload X12.here hx rfl (hb hby d10_3) rfl ?_
          refine XS.iload X12.here hx rfl (hb hby d10_5) rfl ?_
          refine XS.icmpYes X12.here hx rfl (pc0 := 7) (pc' := 44) rfl (hb hby d10_7) rfl (flt (by first | decide | rfl)).2.1 (by decide) (by decide) ?_
          refine XS.iload X12.here hx rfl (hb hby d10_44) rfl ?_
          exact kz
        exact Goes.retI X12 hx Bd.notSynchronized Bd.returns (hb hby d10_46) (Nat.le_of_ble_eq_true rfl) (Nat.le_of_ble_eq_true rfl) (by rw [e12]; exact ⟨(3 : Int32), rfl, N12, K12, Or.inl ⟨rfl, ⟨hc20_2, hc20_6, hc20_10⟩, A12⟩⟩)
def Q_rc3_3 (Z : State) (ca : Addr) (ka : ClassId) (c0 c1 c2 : Int32) (h0 : Heap) (n0 : Nat) : Option Value → Heap → List Loc → Prop := fun v h L => ∃ b k, v = some (.ref b) ∧ Fr n0 L ∧ Keep h0 h [] ∧ @LE.le Nat _ h0.size b ∧ (((¬ (255 : Int32) < c0 ∧ ¬ (255 : Int32) < c1 ∧ ¬ (255 : Int32) < c2) ∧ Arv Z h b k .byte (3 : Int32) [.int (own_by c0), .int (own_by c1), .int (own_by c2)] (.int 0)) ∨ Arv Z h b k .byte (6 : Int32) [.int (own_lo c0), .int (own_hi c0), .int (own_lo c1), .int (own_hi c1), .int (own_lo c2), .int (own_hi c2)] (.int 0))
set_option maxRecDepth 65536 in
set_option maxHeartbeats 40000000 in
theorem rc3_3 (l : Launch) (Z : State) (a0 : Array Value) (hw : ∀ d ∈ tables_1, d.before a0 Z = true) (ws : List Jvm.Cond) (ca : Addr) (ka : ClassId) (c0 c1 c2 : Int32) (h0 : Heap) (n0 : Nat) (Z0 : n0 ≤ h0.size) (SA : Sta Z Z.heap "java/lang/StringUTF16" "$assertionsDisabled" "Z" (.int (1 : Int32))) (SH : Sta Z Z.heap "java/lang/StringUTF16" "HI_BYTE_SHIFT" "I" (.int (0 : Int32))) (SL : Sta Z Z.heap "java/lang/StringUTF16" "LO_BYTE_SHIFT" "I" (.int (8 : Int32))) (O0 : Old Z n0 h0) (C0 : Arv Z h0 ca ka .char (3 : Int32) [.int c0, .int c1, .int c2] (.int 0)) (z0 : nar .char c0 = c0) (z1 : nar .char c1 = c1) (z2 : nar .char c2 = c2) :
    own_M l Z (⟨"java/lang/StringUTF16", "compress", "([CII)[B"⟩ : MethodName) (Jvm.Cond.code (⟨"java/lang/StringUTF16", "compress", "([CII)[B"⟩ : MethodName) jdk_52_method_16_code 6 (some (.array .byte))) ws ({ frames := 3, cells := 2, slots := 9, locals := 60 } : Room) #[(.ref ca), (.int (0 : Int32)), (.int (3 : Int32))] h0 (Q_rc3_3 Z ca ka c0 c1 c2 h0 n0) := by
  refine MetFree.of_bodySF (plainFor_of_name pn_9) hisR ?_
  intro p e s m args below meth c s₁ Bd hml0 hP hK
  obtain ⟨rfl, hZ, hh⟩ := hP
  have hx := Bd.exec
  have hby := Bd.bytes
  have hml : c.maxLocals = 6 := hml0
  have hown : s.vm.findClass "java/lang/StringUTF16" = some m.cls := findClass_of_methodNamed Bd.named
  have hnm := (name_of_methodNamed Bd.named Bd.method).1
  have X0 : Stand p l e ({ frames := 3, cells := 2, slots := 9, locals := 60 } : Room) s m #[(.ref ca), (.int (0 : Int32)), (.int (3 : Int32))] below meth c s₁ [] 0 0 := Stand.of_body Bd
  have e0 : s₁.heap = h0 := by rw [← hh, Bd.state]; rfl
  have N0 := Fr.nil n0
  show Goes p e below (Fin s (Q_rc3_3 Z ca ka c0 c1 c2 h0 n0) ({ frames := 3, cells := 2, slots := 9, locals := 60 } : Room).cells ({ frames := 3, cells := 2, slots := 9, locals := 60 } : Room).slots) _
  refine Goes.via (S' := s₁.setTop (mkF m 0 #[.val (.ref ca), .val (.int (0 : Int32)), .val (.int (3 : Int32)), .unset, .unset, .unset] [])) (fun tz kz => castTop (ef_9 m ca (0 : Int32) (3 : Int32) ) kz) ?_
  refine Goes.via (S' := s₁.setTop (mkF m 1 #[.val (.ref ca), .val (.int (0 : Int32)), .val (.int (3 : Int32)), .unset, .unset, .unset] [(.int (3 : Int32))])) (fun tz kz => ?_) ?_
  · show Steps p.tables e below (s₁.setTop (mkF m 0 #[.val (.ref ca), .val (.int (0 : Int32)), .val (.int (3 : Int32)), .unset, .unset, .unset] [])) _
    refine XS.iloadN X0.here hx rfl (hb hby d9_0) rfl ?_
    exact kz
  obtain ⟨T1, h1, k1, X1, e1, E1, A1, st1⟩ := newP X0 hx hZ (w_ hw 16 rfl) e0 (g := (mkF m 1 #[.val (.ref ca), .val (.int (0 : Int32)), .val (.int (3 : Int32)), .unset, .unset, .unset] [(.int (3 : Int32))])) rfl (hb hby d9_1) rfl (by decide) (cap := 3) (by decide) (by decide) (by decide) (by decide)
  obtain ⟨b1, g1⟩ : ∃ z, z = h0.size := ⟨_, rfl⟩
  rw [← g1] at A1 st1
  refine Goes.via (S' := T1.setTop (mkF m 3 #[.val (.ref ca), .val (.int (0 : Int32)), .val (.int (3 : Int32)), .unset, .unset, .unset] [(.ref b1)])) st1 ?_
  have B1 : Arv Z h1 b1 k1 .byte (3 : Int32) [.int 0, .int 0, .int 0] (.int 0) := (Arv.new A1 (by decide)).pad (pad_rep [] (.int 0) 3)
  have nab : ca ≠ b1 := adr_ne C0.lt g1 (Nat.le_refl _)
  have gb : n0 ≤ b1 := Nat.le_trans Z0 (Nat.le_of_eq g1.symm)
  refine Goes.via (S' := T1.setTop (mkF m 9 #[.val (.ref ca), .val (.int (0 : Int32)), .val (.int (3 : Int32)), .val (.ref b1), .unset, .unset] [(.int (3 : Int32)), (.int (0 : Int32)), (.ref b1), (.int (0 : Int32)), (.ref ca)])) (fun tz kz => ?_) ?_
  · show Steps p.tables e below (T1.setTop (mkF m 3 #[.val (.ref ca), .val (.int (0 : Int32)), .val (.int (3 : Int32)), .unset, .unset, .unset] [(.ref b1)])) _
    refine XS.astoreN X1.here hx rfl (hb hby d9_3) rfl rfl (l' := #[.val (.ref ca), .val (.int (0 : Int32)), .val (.int (3 : Int32)), .val (.ref b1), .unset, .unset]) rfl ?_
    refine XS.aloadN X1.here hx rfl (hb hby d9_4) rfl rfl ?_
    refine XS.iloadN X1.here hx rfl (hb hby d9_5) rfl ?_
    refine XS.aloadN X1.here hx rfl (hb hby d9_6) rfl rfl ?_
    show Steps p.tables e below (T1.setTop (mkF m 7 #[.val (.ref ca), .val (.int (0 : Int32)), .val (.int (3 : Int32)), .val (.ref b1), .unset, .unset] [(.ref b1), (.int (0 : Int32)), (.ref ca)])) _
    refine XS.iconst X1.here hx rfl (hb hby d9_7) ?_
    refine XS.iloadN X1.here hx rfl (hb hby d9_8) rfl ?_
    exact kz
  obtain ⟨_, _, ⟨T2, L2, k2, n2⟩, -, X2, ⟨Lc2, hQ2, l2, y2, z2⟩, st2⟩ := Jvm.LawKit.callS X1 hx (y := (⟨"java/lang/StringUTF16", "compress", "([CI[BII)I"⟩ : MethodName)) hown (mvT hZ (w_ hw 52 rfl)) (mvT hZ (w_ hw 53 rfl)) (mvT hZ (w_ hw 50 rfl)) (mvT hZ (w_ hw 54 rfl)) (by decide) (backOf (W := 0) (rc5_3 l Z a0 hw [] ca b1 ka k1 c0 c1 c2 h1 n0 (Nat.le_trans Z0 E1.1) (C0.ext E1) B1 gb nab z0 z1 z2) hZ (w_ hw 54 rfl) (w_ hw 50 rfl) (by decide) (by decide)) (g := (mkF m 9 #[.val (.ref ca), .val (.int (0 : Int32)), .val (.int (3 : Int32)), .val (.ref b1), .unset, .unset] [(.int (3 : Int32)), (.int (0 : Int32)), (.ref b1), (.int (0 : Int32)), (.ref ca)])) rfl (by rw [hml]; rfl) (argsL := [(.ref ca), (.int (0 : Int32)), (.ref b1), (.int (0 : Int32)), (.int (3 : Int32))]) (rest := []) (lenOf pd_4 rfl) rfl (by show 2 * 0 + _ ≤ _; exact Nat.le_of_eq rfl) (hb hby d9_9) (fun _ _ => ⟨rfl, e1, (by decide : 1 + 0 ≤ _), (by decide : 3 + 0 ≤ _)⟩)
  dsimp only [Pt.U, Pt.locs, Pt.cells, Pt.slots] at X2 l2 y2 z2 st2 hQ2
  subst l2 y2 z2
  obtain ⟨j5, rfl, N2, K2, Dj⟩ := hQ2
  have Nf2 := Fr.app N0 N2
  refine Goes.via (S' := T2.setTop (mkF m 12 #[.val (.ref ca), .val (.int (0 : Int32)), .val (.int (3 : Int32)), .val (.ref b1), .unset, .unset] [(.int j5)])) (st2) ?_
  have Ka := ((Keep.refl h0 []).ext E1).trans K2 (allS (Or.inr (Nat.le_of_eq g1.symm)) all0)
  have Ca := (C0.ext E1).keep K2 (fun q => nab (List.mem_singleton.mp q))
  have Oa := O0.keep Ka all0
  have Za := Nat.le_trans Z0 Ka.1
  rcases Dj with ⟨hj, ⟨s0, s1, s2⟩, BL⟩ | ⟨j0, j1, xx, hjn, hj0, hj1, q0, q1, g0, g1, zx, gx⟩
  · subst hj
    refine Goes.via (S' := T2.setTop (mkF m 58 #[.val (.ref ca), .val (.int (0 : Int32)), .val (.int (3 : Int32)), .val (.ref b1), .val (.int (3 : Int32)), .unset] [(.ref b1)])) (fun tz kz => ?_) ?_
    · show Steps p.tables e below (T2.setTop (mkF m 12 #[.val (.ref ca), .val (.int (0 : Int32)), .val (.int (3 : Int32)), .val (.ref b1), .unset, .unset] [(.int (3 : Int32))])) _
      refine XS.istore X2.here hx rfl (hb hby d9_12) rfl (l' := #[.val (.ref ca), .val (.int (0 : Int32)), .val (.int (3 : Int32)), .val (.ref b1), .val (.int (3 : Int32)), .unset]) rfl ?_
      refine XS.iload X2.here hx rfl (hb hby d9_14) rfl ?_
      refine XS.iloadN X2.here hx rfl (hb hby d9_16) rfl ?_
      refine XS.icmpYes X2.here hx rfl (pc0 := 17) (pc' := 57) rfl (hb hby d9_17) rfl (teq (by first | decide | rfl)).1 (by decide) (by decide) ?_
      show Steps p.tables e below (T2.setTop (mkF m 57 #[.val (.ref ca), .val (.int (0 : Int32)), .val (.int (3 : Int32)), .val (.ref b1), .val (.int (3 : Int32)), .unset] [])) _
      refine XS.aloadN X2.here hx rfl (hb hby d9_57) rfl rfl ?_
      exact kz
    exact Goes.retO X2 hx Bd.notSynchronized Bd.returns rfl (Or.inr (Or.inr (Or.inr (Or.inr ⟨rfl, rfl, rfl⟩)))) (hb hby d9_58) (Nat.le_of_ble_eq_true rfl) (Nat.le_of_ble_eq_true rfl) ⟨b1, k1, rfl, Nf2, Ka, Nat.le_of_eq g1.symm, Or.inl ⟨⟨s0, s1, s2⟩, BL⟩⟩
  · skip
    refine Goes.via (S' := T2.setTop (mkF m 23 #[.val (.ref ca), .val (.int (0 : Int32)), .val (.int (3 : Int32)), .val (.ref b1), .val (.int j5), .unset] [(.int (3 : Int32)), (.int (0 : Int32)), (.ref ca)])) (fun tz kz => ?_) ?_
    · show Steps p.tables e below (T2.setTop (mkF m 12 #[.val (.ref ca), .val (.int (0 : Int32)), .val (.int (3 : Int32)), .val (.ref b1), .unset, .unset] [(.int j5)])) _
      refine XS.istore X2.here hx rfl (hb hby d9_12) rfl (l' := #[.val (.ref ca), .val (.int (0 : Int32)), .val (.int (3 : Int32)), .val (.ref b1), .val (.int j5), .unset]) rfl ?_
      refine XS.iload X2.here hx rfl (hb hby d9_14) rfl ?_
      refine XS.iloadN X2.here hx rfl (hb hby d9_16) rfl ?_
      refine XS.icmpNo X2.here hx rfl (hb hby d9_17) rfl (feq hjn).1 ?_
      show Steps p.tables e below (T2.setTop (mkF m 20 #[.val (.ref ca), .val (.int (0 : Int32)), .val (.int (3 : Int32)), .val (.ref b1), .val (.int j5), .unset] [])) _
      refine XS.aloadN X2.here hx rfl (hb hby d9_20) rfl rfl ?_
      refine XS.iloadN X2.here hx rfl (hb hby d9_21) rfl ?_
      refine XS.iloadN X2.here hx rfl (hb hby d9_22) rfl ?_
      exact kz
    obtain ⟨_, _, ⟨T3, L3, k3, n3⟩, -, X3, ⟨Lc3, hQ3, l3, y3, z3⟩, st3⟩ := Jvm.LawKit.callS X2 hx (y := (⟨"java/lang/StringUTF16", "toBytes", "([CII)[B"⟩ : MethodName)) hown (mvT hZ (w_ hw 112 rfl)) (mvT hZ (w_ hw 113 rfl)) (mvT hZ (w_ hw 50 rfl)) (mvT hZ (w_ hw 114 rfl)) (by decide) (backOf (W := 0) (rtb_3 l Z a0 hw [] ca ka c0 c1 c2 T2.heap n0 Za SA SH SL Oa Ca) hZ (w_ hw 114 rfl) (w_ hw 50 rfl) (by decide) (by decide)) (g := (mkF m 23 #[.val (.ref ca), .val (.int (0 : Int32)), .val (.int (3 : Int32)), .val (.ref b1), .val (.int j5), .unset] [(.int (3 : Int32)), (.int (0 : Int32)), (.ref ca)])) rfl (by rw [hml]; rfl) (argsL := [(.ref ca), (.int (0 : Int32)), (.int (3 : Int32))]) (rest := []) (lenOf pd_5 rfl) rfl (by show 2 * 0 + _ ≤ _; exact Nat.le_of_eq rfl) (hb hby d9_23) (fun _ _ => ⟨rfl, rfl, (by decide : 1 + 1 ≤ _), (by decide : 3 + 6 ≤ _)⟩)
    dsimp only [Pt.U, Pt.locs, Pt.cells, Pt.slots] at X3 l3 y3 z3 st3 hQ3
    subst l3 y3 z3
    obtain ⟨ub, uk, rfl, N3, K3, B3, gu⟩ := hQ3
    have Nf3 := Fr.app Nf2 N3
    refine Goes.via (S' := T3.setTop (mkF m 26 #[.val (.ref ca), .val (.int (0 : Int32)), .val (.int (3 : Int32)), .val (.ref b1), .val (.int j5), .unset] [(.ref ub)])) (st3) ?_
    have Kb := Ka.trans K3 all0
    have Ob := O0.keep Kb all0
    have Zb := Nat.le_trans Z0 Kb.1
    have gh : @LE.le Nat _ h0.size ub := Nat.le_trans Ka.1 gu
    refine Goes.via (S' := T3.setTop (mkF m 32 #[.val (.ref ca), .val (.int (0 : Int32)), .val (.int (3 : Int32)), .val (.ref b1), .val (.int j5), .val (.ref ub)] [(.int j5), (.ref ub)])) (fun tz kz => ?_) ?_
    · show Steps p.tables e below (T3.setTop (mkF m 26 #[.val (.ref ca), .val (.int (0 : Int32)), .val (.int (3 : Int32)), .val (.ref b1), .val (.int j5), .unset] [(.ref ub)])) _
      refine XS.astore X3.here hx rfl (hb hby d9_26) rfl rfl (l' := #[.val (.ref ca), .val (.int (0 : Int32)), .val (.int (3 : Int32)), .val (.ref b1), .val (.int j5), .val (.ref ub)]) rfl ?_
      refine XS.aload X3.here hx rfl (hb hby d9_28) rfl rfl ?_
      refine XS.iload X3.here hx rfl (hb hby d9_30) rfl ?_
      exact kz
    obtain ⟨_, _, ⟨T4, L4, k4, n4⟩, -, X4, ⟨Lc4, hQ4, l4, y4, z4⟩, st4⟩ := Jvm.LawKit.callS X3 hx (y := (⟨"java/lang/StringUTF16", "getChar", "([BI)C"⟩ : MethodName)) hown (mvT hZ (w_ hw 128 rfl)) (mvT hZ (w_ hw 129 rfl)) (mvT hZ (w_ hw 50 rfl)) (mvT hZ (w_ hw 130 rfl)) (by decide) (backOf (W := 0) (rgc l Z a0 hw [] ub j5 uk (6 : Int32) j0 j1 xx _ T3.heap n0 Zb SA SH SL Ob B3 hj0 hj1 q0 q1 g0 g1 zx) hZ (w_ hw 130 rfl) (w_ hw 50 rfl) (by decide) (by decide)) (g := (mkF m 32 #[.val (.ref ca), .val (.int (0 : Int32)), .val (.int (3 : Int32)), .val (.ref b1), .val (.int j5), .val (.ref ub)] [(.int j5), (.ref ub)])) rfl (by rw [hml]; rfl) (argsL := [(.ref ub), (.int j5)]) (rest := []) (lenOf pd_6 rfl) rfl (by show 2 * 0 + _ ≤ _; exact Nat.le_of_eq rfl) (hb hby d9_32) (fun _ _ => ⟨rfl, rfl, (by decide : 2 + 0 ≤ _), (by decide : 9 + 0 ≤ _)⟩)
    dsimp only [Pt.U, Pt.locs, Pt.cells, Pt.slots] at X4 l4 y4 z4 st4 hQ4
    subst l4 y4 z4
    obtain ⟨rfl, N4, e4⟩ := hQ4
    have Nf4 := Fr.app Nf3 N4
    refine Goes.via (S' := T4.setTop (mkF m 35 #[.val (.ref ca), .val (.int (0 : Int32)), .val (.int (3 : Int32)), .val (.ref b1), .val (.int j5), .val (.ref ub)] [(.int xx)])) (st4) ?_
    refine Goes.via (S' := T4.setTop (mkF m 56 #[.val (.ref ca), .val (.int (0 : Int32)), .val (.int (3 : Int32)), .val (.ref b1), .val (.int j5), .val (.ref ub)] [(.ref ub)])) (fun tz kz => ?_) ?_
    · show Steps p.tables e below (T4.setTop (mkF m 35 #[.val (.ref ca), .val (.int (0 : Int32)), .val (.int (3 : Int32)), .val (.ref b1), .val (.int j5), .val (.ref ub)] [(.int xx)])) _
      refine XS.sipush X4.here hx rfl (hb hby d9_35) ?_
      refine XS.icmpYes X4.here hx rfl (pc0 := 38) (pc' := 54) rfl (hb hby d9_38) rfl (tlt gx).2.2.1 (by decide) (by decide) ?_
      refine XS.aload X4.here hx rfl (hb hby d9_54) rfl rfl ?_
      exact kz
    exact Goes.retO X4 hx Bd.notSynchronized Bd.returns rfl (Or.inr (Or.inr (Or.inr (Or.inr ⟨rfl, rfl, rfl⟩)))) (hb hby d9_56) (Nat.le_of_ble_eq_true rfl) (Nat.le_of_ble_eq_true rfl) (by rw [e4]; exact ⟨ub, uk, rfl, Nf4, Kb, gh, Or.inr B3⟩)
def Q_rcc_33 (Z : State) (bb : Addr) (k : ClassId) (vs : List Value) (h0 : Heap) (n0 : Nat) : Option Value → Heap → List Loc → Prop := fun v h L => v = some (.int 0) ∧ Fr n0 L ∧ h = h0
set_option maxRecDepth 65536 in
set_option maxHeartbeats 40000000 in
theorem rcc_33 (l : Launch) (Z : State) (a0 : Array Value) (hw : ∀ d ∈ tables_1, d.before a0 Z = true) (ws : List Jvm.Cond) (bb : Addr) (k : ClassId) (vs : List Value) (h0 : Heap) (n0 : Nat) (Z0 : n0 ≤ h0.size) (B0 : Arv Z h0 bb k .byte (3 : Int32) vs (.int 0)) :
    own_M l Z (⟨"java/lang/StringUTF16", "coderFromArrayLen", "([BI)B"⟩ : MethodName) (Jvm.Cond.code (⟨"java/lang/StringUTF16", "coderFromArrayLen", "([BI)B"⟩ : MethodName) jdk_52_method_15_code 2 (some .byte)) ws ({ frames := 0, cells := 0, slots := 0, locals := 0 } : Room) #[(.ref bb), (.int (3 : Int32))] h0 (Q_rcc_33 Z bb k vs h0 n0) := by
  refine MetFree.of_bodySF (plainFor_of_name pn_11) hisR ?_
  intro p e s m args below meth c s₁ Bd hml0 hP hK
  obtain ⟨rfl, hZ, hh⟩ := hP
  have hx := Bd.exec
  have hby := Bd.bytes
  have hml : c.maxLocals = 2 := hml0
  have hown : s.vm.findClass "java/lang/StringUTF16" = some m.cls := findClass_of_methodNamed Bd.named
  have hnm := (name_of_methodNamed Bd.named Bd.method).1
  have X0 : Stand p l e ({ frames := 0, cells := 0, slots := 0, locals := 0 } : Room) s m #[(.ref bb), (.int (3 : Int32))] below meth c s₁ [] 0 0 := Stand.of_body Bd
  have e0 : s₁.heap = h0 := by rw [← hh, Bd.state]; rfl
  have N0 := Fr.nil n0
  show Goes p e below (Fin s (Q_rcc_33 Z bb k vs h0 n0) ({ frames := 0, cells := 0, slots := 0, locals := 0 } : Room).cells ({ frames := 0, cells := 0, slots := 0, locals := 0 } : Room).slots) _
  refine Goes.via (S' := s₁.setTop (mkF m 0 #[.val (.ref bb), .val (.int (3 : Int32))] [])) (fun tz kz => castTop (ef_11 m bb (3 : Int32) ) kz) ?_
  refine Goes.via (S' := s₁.setTop (mkF m 2 #[.val (.ref bb), .val (.int (3 : Int32))] [(.ref bb), (.int (3 : Int32))])) (fun tz kz => ?_) ?_
  · show Steps p.tables e below (s₁.setTop (mkF m 0 #[.val (.ref bb), .val (.int (3 : Int32))] [])) _
    refine XS.iloadN X0.here hx rfl (hb hby d11_0) rfl ?_
    refine XS.aloadN X0.here hx rfl (hb hby d11_1) rfl rfl ?_
    exact kz
  obtain ⟨cl1, Ar1, q1, Sz1, Nn1, Hs1, G1⟩ := (id B0)
  refine Goes.via (S' := s₁.setTop (mkF m 8 #[.val (.ref bb), .val (.int (3 : Int32))] [(.int ((((0 : Int32).toUInt32 >>> ((31 : Int32) &&& 31).toUInt32).toInt32).toInt8.toInt32))])) (fun tz kz => ?_) ?_
  · show Steps p.tables e below (s₁.setTop (mkF m 2 #[.val (.ref bb), .val (.int (3 : Int32))] [(.ref bb), (.int (3 : Int32))])) _
    refine X0.arraylength hx (by rw [e0]; exact Ar1.1) (State.isArrayOf_alike hZ.alike Ar1.2.1) (g := (mkF m 2 #[.val (.ref bb), .val (.int (3 : Int32))] [(.ref bb), (.int (3 : Int32))])) rfl rfl (hb hby d11_2) _ ?_
    rw [len_of Sz1 Nn1]
    refine XS.isub X0.here hx rfl (hb hby d11_3) rfl ?_
    refine XS.bipush X0.here hx rfl (hb hby d11_4) ?_
    refine XS.iushr X0.here hx rfl (hb hby d11_6) rfl ?_
    show Steps p.tables e below (s₁.setTop (mkF m 7 #[.val (.ref bb), .val (.int (3 : Int32))] [(.int (((0 : Int32).toUInt32 >>> ((31 : Int32) &&& 31).toUInt32).toInt32))])) _
    refine XS.i2b X0.here hx rfl (hb hby d11_7) rfl ?_
    exact kz
  exact Goes.retN X0 hx Bd.notSynchronized (t := .byte) Bd.returns (by simp) (hb hby d11_8) (Nat.le_of_ble_eq_true rfl) (Nat.le_of_ble_eq_true rfl) ⟨congrArg (fun z => some (Value.int z)) (by decide), N0, e0⟩
def Q_rcc_36 (Z : State) (bb : Addr) (k : ClassId) (vs : List Value) (h0 : Heap) (n0 : Nat) : Option Value → Heap → List Loc → Prop := fun v h L => v = some (.int 1) ∧ Fr n0 L ∧ h = h0
set_option maxRecDepth 65536 in
set_option maxHeartbeats 40000000 in
theorem rcc_36 (l : Launch) (Z : State) (a0 : Array Value) (hw : ∀ d ∈ tables_1, d.before a0 Z = true) (ws : List Jvm.Cond) (bb : Addr) (k : ClassId) (vs : List Value) (h0 : Heap) (n0 : Nat) (Z0 : n0 ≤ h0.size) (B0 : Arv Z h0 bb k .byte (6 : Int32) vs (.int 0)) :
    own_M l Z (⟨"java/lang/StringUTF16", "coderFromArrayLen", "([BI)B"⟩ : MethodName) (Jvm.Cond.code (⟨"java/lang/StringUTF16", "coderFromArrayLen", "([BI)B"⟩ : MethodName) jdk_52_method_15_code 2 (some .byte)) ws ({ frames := 0, cells := 0, slots := 0, locals := 0 } : Room) #[(.ref bb), (.int (3 : Int32))] h0 (Q_rcc_36 Z bb k vs h0 n0) := by
  refine MetFree.of_bodySF (plainFor_of_name pn_11) hisR ?_
  intro p e s m args below meth c s₁ Bd hml0 hP hK
  obtain ⟨rfl, hZ, hh⟩ := hP
  have hx := Bd.exec
  have hby := Bd.bytes
  have hml : c.maxLocals = 2 := hml0
  have hown : s.vm.findClass "java/lang/StringUTF16" = some m.cls := findClass_of_methodNamed Bd.named
  have hnm := (name_of_methodNamed Bd.named Bd.method).1
  have X0 : Stand p l e ({ frames := 0, cells := 0, slots := 0, locals := 0 } : Room) s m #[(.ref bb), (.int (3 : Int32))] below meth c s₁ [] 0 0 := Stand.of_body Bd
  have e0 : s₁.heap = h0 := by rw [← hh, Bd.state]; rfl
  have N0 := Fr.nil n0
  show Goes p e below (Fin s (Q_rcc_36 Z bb k vs h0 n0) ({ frames := 0, cells := 0, slots := 0, locals := 0 } : Room).cells ({ frames := 0, cells := 0, slots := 0, locals := 0 } : Room).slots) _
  refine Goes.via (S' := s₁.setTop (mkF m 0 #[.val (.ref bb), .val (.int (3 : Int32))] [])) (fun tz kz => castTop (ef_11 m bb (3 : Int32) ) kz) ?_
  refine Goes.via (S' := s₁.setTop (mkF m 2 #[.val (.ref bb), .val (.int (3 : Int32))] [(.ref bb), (.int (3 : Int32))])) (fun tz kz => ?_) ?_
  · show Steps p.tables e below (s₁.setTop (mkF m 0 #[.val (.ref bb), .val (.int (3 : Int32))] [])) _
    refine XS.iloadN X0.here hx rfl (hb hby d11_0) rfl ?_
    refine XS.aloadN X0.here hx rfl (hb hby d11_1) rfl rfl ?_
    exact kz
  obtain ⟨cl1, Ar1, q1, Sz1, Nn1, Hs1, G1⟩ := (id B0)
  refine Goes.via (S' := s₁.setTop (mkF m 8 #[.val (.ref bb), .val (.int (3 : Int32))] [(.int ((((-3 : Int32).toUInt32 >>> ((31 : Int32) &&& 31).toUInt32).toInt32).toInt8.toInt32))])) (fun tz kz => ?_) ?_
  · show Steps p.tables e below (s₁.setTop (mkF m 2 #[.val (.ref bb), .val (.int (3 : Int32))] [(.ref bb), (.int (3 : Int32))])) _
    refine X0.arraylength hx (by rw [e0]; exact Ar1.1) (State.isArrayOf_alike hZ.alike Ar1.2.1) (g := (mkF m 2 #[.val (.ref bb), .val (.int (3 : Int32))] [(.ref bb), (.int (3 : Int32))])) rfl rfl (hb hby d11_2) _ ?_
    rw [len_of Sz1 Nn1]
    refine XS.isub X0.here hx rfl (hb hby d11_3) rfl ?_
    refine XS.bipush X0.here hx rfl (hb hby d11_4) ?_
    refine XS.iushr X0.here hx rfl (hb hby d11_6) rfl ?_
    show Steps p.tables e below (s₁.setTop (mkF m 7 #[.val (.ref bb), .val (.int (3 : Int32))] [(.int (((-3 : Int32).toUInt32 >>> ((31 : Int32) &&& 31).toUInt32).toInt32))])) _
    refine XS.i2b X0.here hx rfl (hb hby d11_7) rfl ?_
    exact kz
  exact Goes.retN X0 hx Bd.notSynchronized (t := .byte) Bd.returns (by simp) (hb hby d11_8) (Nat.le_of_ble_eq_true rfl) (Nat.le_of_ble_eq_true rfl) ⟨congrArg (fun z => some (Value.int z)) (by decide), N0, e0⟩
def Q_rn4_3 (Z : State) (a1 : Addr) (ca : Addr) (cs : Int32) (ka : ClassId) (c0 c1 c2 : Int32) (h0 : Heap) (n0 : Nat) : Option Value → Heap → List Loc → Prop := fun v h L => v = none ∧ Fr n0 L ∧ Keep h0 h [a1] ∧ ∃ b k, (((¬ (255 : Int32) < c0 ∧ ¬ (255 : Int32) < c1 ∧ ¬ (255 : Int32) < c2) ∧ own_Str Z h a1 b k (3 : Int32) [.int (own_by c0), .int (own_by c1), .int (own_by c2)]) ∨ own_StU Z h a1 b k (6 : Int32) [.int (own_lo c0), .int (own_hi c0), .int (own_lo c1), .int (own_hi c1), .int (own_lo c2), .int (own_hi c2)])
set_option maxRecDepth 65536 in
set_option maxHeartbeats 40000000 in
theorem rn4_3 (l : Launch) (Z : State) (a0 : Array Value) (hw : ∀ d ∈ tables_1, d.before a0 Z = true) (ws : List Jvm.Cond) (a1 : Addr) (ca : Addr) (cs : Int32) (ka : ClassId) (c0 c1 c2 : Int32) (h0 : Heap) (n0 : Nat) (Z0 : n0 ≤ h0.size) (SC : Sta Z Z.heap "java/lang/String" "COMPACT_STRINGS" "Z" (.int cs)) (hcs : ¬ cs = (0 : Int32)) (O0 : Old Z n0 h0) (SA : Sta Z Z.heap "java/lang/StringUTF16" "$assertionsDisabled" "Z" (.int (1 : Int32))) (SH : Sta Z Z.heap "java/lang/StringUTF16" "HI_BYTE_SHIFT" "I" (.int (0 : Int32))) (SL : Sta Z Z.heap "java/lang/StringUTF16" "LO_BYTE_SHIFT" "I" (.int (8 : Int32))) (FV : Fld Z h0 a1 "java/lang/String" "value" "[B" .null) (FC : Fld Z h0 a1 "java/lang/String" "coder" "B" (.int (0 : Int32))) (E1 : Exa Z h0 a1 "java/lang/String") (g1 : n0 ≤ a1) (C0 : Arv Z h0 ca ka .char (3 : Int32) [.int c0, .int c1, .int c2] (.int 0)) (z0 : nar .char c0 = c0) (z1 : nar .char c1 = c1) (z2 : nar .char c2 = c2) :
    own_M l Z (⟨"java/lang/String", "<init>", "([CIILjava/lang/Void;)V"⟩ : MethodName) (Jvm.Cond.code (⟨"java/lang/String", "<init>", "([CIILjava/lang/Void;)V"⟩ : MethodName) jdk_42_method_149_code 6 none) ws ({ frames := 4, cells := 2, slots := 9, locals := 84 } : Room) #[(.ref a1), (.ref ca), (.int (0 : Int32)), (.int (3 : Int32)), .null] h0 (Q_rn4_3 Z a1 ca cs ka c0 c1 c2 h0 n0) := by
  refine MetFree.of_bodySF (plainFor_of_name pn_2) hisR ?_
  intro p e s m args below meth c s₁ Bd hml0 hP hK
  obtain ⟨rfl, hZ, hh⟩ := hP
  have hx := Bd.exec
  have hby := Bd.bytes
  have hml : c.maxLocals = 6 := hml0
  have hown : s.vm.findClass "java/lang/String" = some m.cls := findClass_of_methodNamed Bd.named
  have hnm := (name_of_methodNamed Bd.named Bd.method).1
  have X0 : Stand p l e ({ frames := 4, cells := 2, slots := 9, locals := 84 } : Room) s m #[(.ref a1), (.ref ca), (.int (0 : Int32)), (.int (3 : Int32)), .null] below meth c s₁ [] 0 0 := Stand.of_body Bd
  have e0 : s₁.heap = h0 := by rw [← hh, Bd.state]; rfl
  have N0 := Fr.nil n0
  show Goes p e below (Fin s (Q_rn4_3 Z a1 ca cs ka c0 c1 c2 h0 n0) ({ frames := 4, cells := 2, slots := 9, locals := 84 } : Room).cells ({ frames := 4, cells := 2, slots := 9, locals := 84 } : Room).slots) _
  refine Goes.via (S' := s₁.setTop (mkF m 0 #[.val (.ref a1), .val (.ref ca), .val (.int (0 : Int32)), .val (.int (3 : Int32)), .val .null, .unset] [])) (fun tz kz => castTop (ef_2 m a1 ca (0 : Int32) (3 : Int32) ) kz) ?_
  refine Goes.via (S' := s₁.setTop (mkF m 1 #[.val (.ref a1), .val (.ref ca), .val (.int (0 : Int32)), .val (.int (3 : Int32)), .val .null, .unset] [(.ref a1)])) (fun tz kz => ?_) ?_
  · show Steps p.tables e below (s₁.setTop (mkF m 0 #[.val (.ref a1), .val (.ref ca), .val (.int (0 : Int32)), .val (.int (3 : Int32)), .val .null, .unset] [])) _
    refine XS.aloadN X0.here hx rfl (hb hby d2_0) rfl rfl ?_
    exact kz
  obtain ⟨T1, X1, e1, st1⟩ := initO X0 hx hZ hown (w_ hw 12 rfl) (w_ hw 13 rfl) (w_ hw 14 rfl) e0 (g := (mkF m 1 #[.val (.ref a1), .val (.ref ca), .val (.int (0 : Int32)), .val (.int (3 : Int32)), .val .null, .unset] [(.ref a1)])) rfl (by rw [hml]; rfl) rfl (hb hby d2_1) (by decide) (W := 0) (by show 2 * 0 + _ ≤ _; exact Nat.le_of_eq rfl) (by decide)
  refine Goes.via (S' := T1.setTop (mkF m 4 #[.val (.ref a1), .val (.ref ca), .val (.int (0 : Int32)), .val (.int (3 : Int32)), .val .null, .unset] [])) st1 ?_
  refine Goes.via (S' := T1.setTop (mkF m 27 #[.val (.ref a1), .val (.ref ca), .val (.int (0 : Int32)), .val (.int (3 : Int32)), .val .null, .unset] [])) (fun tz kz => ?_) ?_
  · show Steps p.tables e below (T1.setTop (mkF m 4 #[.val (.ref a1), .val (.ref ca), .val (.int (0 : Int32)), .val (.int (3 : Int32)), .val .null, .unset] [])) _
    refine XS.iloadN X1.here hx rfl (hb hby d2_4) rfl ?_
    refine XS.ifYes X1.here hx rfl (pc0 := 5) (pc' := 27) rfl (hb hby d2_5) rfl ((if0 _ _).trans (feq (by first | decide | rfl)).2) (by decide) (by decide) ?_
    exact kz
  obtain ⟨T2, X2, e2, st2⟩ := getS2 X1 hx hZ hown (host := "") (Or.inl (w_ hw 42 rfl)) Via.refl e1 (SC.ext O0.2) (g := (mkF m 27 #[.val (.ref a1), .val (.ref ca), .val (.int (0 : Int32)), .val (.int (3 : Int32)), .val .null, .unset] [])) rfl (hb hby d2_27)
  refine Goes.via (S' := T2.setTop (mkF m 30 #[.val (.ref a1), .val (.ref ca), .val (.int (0 : Int32)), .val (.int (3 : Int32)), .val .null, .unset] [(.int cs)])) st2 ?_
  refine Goes.via (S' := T2.setTop (mkF m 36 #[.val (.ref a1), .val (.ref ca), .val (.int (0 : Int32)), .val (.int (3 : Int32)), .val .null, .unset] [(.int (3 : Int32)), (.int (0 : Int32)), (.ref ca)])) (fun tz kz => ?_) ?_
  · show Steps p.tables e below (T2.setTop (mkF m 30 #[.val (.ref a1), .val (.ref ca), .val (.int (0 : Int32)), .val (.int (3 : Int32)), .val .null, .unset] [(.int cs)])) _
    refine XS.ifNo X2.here hx rfl (hb hby d2_30) rfl ((if0 _ _).trans (feq hcs).1) ?_
    refine XS.aloadN X2.here hx rfl (hb hby d2_33) rfl rfl ?_
    refine XS.iloadN X2.here hx rfl (hb hby d2_34) rfl ?_
    refine XS.iloadN X2.here hx rfl (hb hby d2_35) rfl ?_
    exact kz
  obtain ⟨_, _, ⟨T3, L3, k3, n3⟩, -, X3, ⟨Lc3, hQ3, l3, y3, z3⟩, st3⟩ := Jvm.LawKit.callS X2 hx (y := (⟨"java/lang/StringUTF16", "compress", "([CII)[B"⟩ : MethodName)) hown (mvT hZ (w_ hw 48 rfl)) (mvT hZ (w_ hw 49 rfl)) (mvT hZ (w_ hw 50 rfl)) (mvT hZ (w_ hw 51 rfl)) (by decide) (backOf (W := 0) (rc3_3 l Z a0 hw [] ca ka c0 c1 c2 h0 n0 Z0 SA SH SL O0 C0 z0 z1 z2) hZ (w_ hw 51 rfl) (w_ hw 50 rfl) (by decide) (by decide)) (g := (mkF m 36 #[.val (.ref a1), .val (.ref ca), .val (.int (0 : Int32)), .val (.int (3 : Int32)), .val .null, .unset] [(.int (3 : Int32)), (.int (0 : Int32)), (.ref ca)])) rfl (by rw [hml]; rfl) (argsL := [(.ref ca), (.int (0 : Int32)), (.int (3 : Int32))]) (rest := []) (lenOf pd_5 rfl) rfl (by show 2 * 0 + _ ≤ _; exact Nat.le_of_eq rfl) (hb hby d2_36) (fun _ _ => ⟨rfl, e2, (by decide : 0 + 2 ≤ _), (by decide : 0 + 9 ≤ _)⟩)
  dsimp only [Pt.U, Pt.locs, Pt.cells, Pt.slots] at X3 l3 y3 z3 st3 hQ3
  subst l3 y3 z3
  obtain ⟨vb, kb, rfl, N3, K3, gv, Dk⟩ := hQ3
  have Nf3 := Fr.app N0 N3
  refine Goes.via (S' := T3.setTop (mkF m 39 #[.val (.ref a1), .val (.ref ca), .val (.int (0 : Int32)), .val (.int (3 : Int32)), .val .null, .unset] [(.ref vb)])) (st3) ?_
  rcases Dk with ⟨⟨s0, s1, s2⟩, Bv⟩ | Bv
  · skip
    refine Goes.via (S' := T3.setTop (mkF m 45 #[.val (.ref a1), .val (.ref ca), .val (.int (0 : Int32)), .val (.int (3 : Int32)), .val .null, .val (.ref vb)] [(.int (3 : Int32)), (.ref vb), (.ref a1)])) (fun tz kz => ?_) ?_
    · show Steps p.tables e below (T3.setTop (mkF m 39 #[.val (.ref a1), .val (.ref ca), .val (.int (0 : Int32)), .val (.int (3 : Int32)), .val .null, .unset] [(.ref vb)])) _
      refine XS.astore X3.here hx rfl (hb hby d2_39) rfl rfl (l' := #[.val (.ref a1), .val (.ref ca), .val (.int (0 : Int32)), .val (.int (3 : Int32)), .val .null, .val (.ref vb)]) rfl ?_
      refine XS.aloadN X3.here hx rfl (hb hby d2_41) rfl rfl ?_
      refine XS.aload X3.here hx rfl (hb hby d2_42) rfl rfl ?_
      refine XS.iloadN X3.here hx rfl (hb hby d2_44) rfl ?_
      exact kz
    obtain ⟨_, _, ⟨T4, L4, k4, n4⟩, -, X4, ⟨Lc4, hQ4, l4, y4, z4⟩, st4⟩ := Jvm.LawKit.callS X3 hx (y := (⟨"java/lang/StringUTF16", "coderFromArrayLen", "([BI)B"⟩ : MethodName)) hown (mvT hZ (w_ hw 55 rfl)) (mvT hZ (w_ hw 56 rfl)) (mvT hZ (w_ hw 50 rfl)) (mvT hZ (w_ hw 57 rfl)) (by decide) (backOf (W := 1) (rcc_33 l Z a0 hw [] vb kb _ T3.heap n0 (Nat.le_trans Z0 K3.1) Bv) hZ (w_ hw 57 rfl) (w_ hw 50 rfl) (by decide) (by decide)) (g := (mkF m 45 #[.val (.ref a1), .val (.ref ca), .val (.int (0 : Int32)), .val (.int (3 : Int32)), .val .null, .val (.ref vb)] [(.int (3 : Int32)), (.ref vb), (.ref a1)])) rfl (by rw [hml]; rfl) (argsL := [(.ref vb), (.int (3 : Int32))]) (rest := [(.ref a1)]) (lenOf pd_7 rfl) rfl (by show 2 * 0 + _ ≤ _; exact Nat.le_of_eq rfl) (hb hby d2_45) (fun _ _ => ⟨rfl, rfl, (by decide : 2 + 0 ≤ _), (by decide : 9 + 0 ≤ _)⟩)
    dsimp only [Pt.U, Pt.locs, Pt.cells, Pt.slots] at X4 l4 y4 z4 st4 hQ4
    subst l4 y4 z4
    obtain ⟨rfl, N4, e4⟩ := hQ4
    have Nf4 := Fr.app Nf3 N4
    refine Goes.via (S' := T4.setTop (mkF m 48 #[.val (.ref a1), .val (.ref ca), .val (.int (0 : Int32)), .val (.int (3 : Int32)), .val .null, .val (.ref vb)] [(.int (0 : Int32)), (.ref a1)])) (st4) ?_
    have Ea := E1.keep K3
    have GV := FV.keep K3 nin0
    have GC := FC.keep K3 nin0
    have nb : a1 ≠ vb := Nat.ne_of_lt (Nat.lt_of_lt_of_le E1.lt gv)
    obtain ⟨T5, h5, X5, e5, W5, st5⟩ := putFN X4 hx hZ hown (w_ hw 22 rfl) Via.refl e4 GC Ea (Or.inr ⟨(w_ hw 18 rfl), rfl, hnm⟩) (w_ hw 3 rfl) (ty := .byte) (v' := (.int (nar .byte (0 : Int32)))) (by decide) rfl (fits_nar_byte _) (g := (mkF m 48 #[.val (.ref a1), .val (.ref ca), .val (.int (0 : Int32)), .val (.int (3 : Int32)), .val .null, .val (.ref vb)] [(.int (0 : Int32)), (.ref a1)])) rfl rfl (hb hby d2_48)
    refine Goes.via (S' := T5.setTop (mkF m 51 #[.val (.ref a1), .val (.ref ca), .val (.int (0 : Int32)), .val (.int (3 : Int32)), .val .null, .val (.ref vb)] [])) st5 ?_
    have N5 := Fr.snoc X5 Nf4 g1
    have HC : Fld Z h5 a1 "java/lang/String" "coder" "B" (.int (0 : Int32)) := GC.same W5
    have HV := GV.other W5 (Or.inr (slot_ne (Or.inr (w_ hw 17 rfl)) (Or.inr (w_ hw 18 rfl)) (by decide) (t := (.array .byte)) (t' := .byte) (by decide) (by decide)))
    have Eb := Ea.wr W5
    have Bb := Bv.other W5 (Ne.symm nb)
    refine Goes.via (S' := T5.setTop (mkF m 54 #[.val (.ref a1), .val (.ref ca), .val (.int (0 : Int32)), .val (.int (3 : Int32)), .val .null, .val (.ref vb)] [(.ref vb), (.ref a1)])) (fun tz kz => ?_) ?_
    · show Steps p.tables e below (T5.setTop (mkF m 51 #[.val (.ref a1), .val (.ref ca), .val (.int (0 : Int32)), .val (.int (3 : Int32)), .val .null, .val (.ref vb)] [])) _
      refine XS.aloadN X5.here hx rfl (hb hby d2_51) rfl rfl ?_
      refine XS.aload X5.here hx rfl (hb hby d2_52) rfl rfl ?_
      exact kz
    obtain ⟨T6, h6, X6, e6, W6, st6⟩ := putF X5 hx hZ hown (host := "") (Or.inl (w_ hw 21 rfl)) Via.refl e5 HV Eb (Or.inr ⟨(w_ hw 17 rfl), rfl, hnm⟩) (w_ hw 3 rfl) (ty := (.array .byte)) (by decide) rfl rfl (g := (mkF m 54 #[.val (.ref a1), .val (.ref ca), .val (.int (0 : Int32)), .val (.int (3 : Int32)), .val .null, .val (.ref vb)] [(.ref vb), (.ref a1)])) rfl rfl (hb hby d2_54)
    refine Goes.via (S' := T6.setTop (mkF m 57 #[.val (.ref a1), .val (.ref ca), .val (.int (0 : Int32)), .val (.int (3 : Int32)), .val .null, .val (.ref vb)] [])) st6 ?_
    have N6 := Fr.snoc X6 N5 g1
    have JV := HV.same W6
    have JC := HC.other W6 (Or.inr (slot_ne (Or.inr (w_ hw 18 rfl)) (Or.inr (w_ hw 17 rfl)) (by decide) (t := .byte) (t' := (.array .byte)) (by decide) (by decide)))
    have Ec := Eb.wr W6
    have Bc := Bb.other W6 (Ne.symm nb)
    have Kq : Keep h0 h6 [a1] := (((Keep.refl h0 [a1]).trans K3 all0).wr W5 (Or.inl (List.mem_singleton.mpr rfl))).wr W6 (Or.inl (List.mem_singleton.mpr rfl))
    exact Goes.retV X6 hx Bd.notSynchronized Bd.returns (hb hby d2_57) (Nat.le_of_ble_eq_true rfl) (Nat.le_of_ble_eq_true rfl) (by rw [e6]; exact ⟨rfl, N6, Kq, vb, kb, Or.inl ⟨⟨s0, s1, s2⟩, Ec, JC, JV, Bc⟩⟩)
  · skip
    refine Goes.via (S' := T3.setTop (mkF m 45 #[.val (.ref a1), .val (.ref ca), .val (.int (0 : Int32)), .val (.int (3 : Int32)), .val .null, .val (.ref vb)] [(.int (3 : Int32)), (.ref vb), (.ref a1)])) (fun tz kz => ?_) ?_
    · show Steps p.tables e below (T3.setTop (mkF m 39 #[.val (.ref a1), .val (.ref ca), .val (.int (0 : Int32)), .val (.int (3 : Int32)), .val .null, .unset] [(.ref vb)])) _
      refine XS.astore X3.here hx rfl (hb hby d2_39) rfl rfl (l' := #[.val (.ref a1), .val (.ref ca), .val (.int (0 : Int32)), .val (.int (3 : Int32)), .val .null, .val (.ref vb)]) rfl ?_
      refine XS.aloadN X3.here hx rfl (hb hby d2_41) rfl rfl ?_
      refine XS.aload X3.here hx rfl (hb hby d2_42) rfl rfl ?_
      refine XS.iloadN X3.here hx rfl (hb hby d2_44) rfl ?_
      exact kz
    obtain ⟨_, _, ⟨T7, L7, k7, n7⟩, -, X7, ⟨Lc7, hQ7, l7, y7, z7⟩, st7⟩ := Jvm.LawKit.callS X3 hx (y := (⟨"java/lang/StringUTF16", "coderFromArrayLen", "([BI)B"⟩ : MethodName)) hown (mvT hZ (w_ hw 55 rfl)) (mvT hZ (w_ hw 56 rfl)) (mvT hZ (w_ hw 50 rfl)) (mvT hZ (w_ hw 57 rfl)) (by decide) (backOf (W := 1) (rcc_36 l Z a0 hw [] vb kb _ T3.heap n0 (Nat.le_trans Z0 K3.1) Bv) hZ (w_ hw 57 rfl) (w_ hw 50 rfl) (by decide) (by decide)) (g := (mkF m 45 #[.val (.ref a1), .val (.ref ca), .val (.int (0 : Int32)), .val (.int (3 : Int32)), .val .null, .val (.ref vb)] [(.int (3 : Int32)), (.ref vb), (.ref a1)])) rfl (by rw [hml]; rfl) (argsL := [(.ref vb), (.int (3 : Int32))]) (rest := [(.ref a1)]) (lenOf pd_7 rfl) rfl (by show 2 * 0 + _ ≤ _; exact Nat.le_of_eq rfl) (hb hby d2_45) (fun _ _ => ⟨rfl, rfl, (by decide : 2 + 0 ≤ _), (by decide : 9 + 0 ≤ _)⟩)
    dsimp only [Pt.U, Pt.locs, Pt.cells, Pt.slots] at X7 l7 y7 z7 st7 hQ7
    subst l7 y7 z7
    obtain ⟨rfl, N7, e7⟩ := hQ7
    have Nf7 := Fr.app Nf3 N7
    refine Goes.via (S' := T7.setTop (mkF m 48 #[.val (.ref a1), .val (.ref ca), .val (.int (0 : Int32)), .val (.int (3 : Int32)), .val .null, .val (.ref vb)] [(.int (1 : Int32)), (.ref a1)])) (st7) ?_
    have Ea := E1.keep K3
    have GV := FV.keep K3 nin0
    have GC := FC.keep K3 nin0
    have nb : a1 ≠ vb := Nat.ne_of_lt (Nat.lt_of_lt_of_le E1.lt gv)
    obtain ⟨T8, h8, X8, e8, W8, st8⟩ := putFN X7 hx hZ hown (w_ hw 22 rfl) Via.refl e7 GC Ea (Or.inr ⟨(w_ hw 18 rfl), rfl, hnm⟩) (w_ hw 3 rfl) (ty := .byte) (v' := (.int (nar .byte (1 : Int32)))) (by decide) rfl (fits_nar_byte _) (g := (mkF m 48 #[.val (.ref a1), .val (.ref ca), .val (.int (0 : Int32)), .val (.int (3 : Int32)), .val .null, .val (.ref vb)] [(.int (1 : Int32)), (.ref a1)])) rfl rfl (hb hby d2_48)
    refine Goes.via (S' := T8.setTop (mkF m 51 #[.val (.ref a1), .val (.ref ca), .val (.int (0 : Int32)), .val (.int (3 : Int32)), .val .null, .val (.ref vb)] [])) st8 ?_
    have N8 := Fr.snoc X8 Nf7 g1
    have HC : Fld Z h8 a1 "java/lang/String" "coder" "B" (.int (1 : Int32)) := GC.same W8
    have HV := GV.other W8 (Or.inr (slot_ne (Or.inr (w_ hw 17 rfl)) (Or.inr (w_ hw 18 rfl)) (by decide) (t := (.array .byte)) (t' := .byte) (by decide) (by decide)))
    have Eb := Ea.wr W8
    have Bb := Bv.other W8 (Ne.symm nb)
    refine Goes.via (S' := T8.setTop (mkF m 54 #[.val (.ref a1), .val (.ref ca), .val (.int (0 : Int32)), .val (.int (3 : Int32)), .val .null, .val (.ref vb)] [(.ref vb), (.ref a1)])) (fun tz kz => ?_) ?_
    · show Steps p.tables e below (T8.setTop (mkF m 51 #[.val (.ref a1), .val (.ref ca), .val (.int (0 : Int32)), .val (.int (3 : Int32)), .val .null, .val (.ref vb)] [])) _
      refine XS.aloadN X8.here hx rfl (hb hby d2_51) rfl rfl ?_
      refine XS.aload X8.here hx rfl (hb hby d2_52) rfl rfl ?_
      exact kz
    obtain ⟨T9, h9, X9, e9, W9, st9⟩ := putF X8 hx hZ hown (host := "") (Or.inl (w_ hw 21 rfl)) Via.refl e8 HV Eb (Or.inr ⟨(w_ hw 17 rfl), rfl, hnm⟩) (w_ hw 3 rfl) (ty := (.array .byte)) (by decide) rfl rfl (g := (mkF m 54 #[.val (.ref a1), .val (.ref ca), .val (.int (0 : Int32)), .val (.int (3 : Int32)), .val .null, .val (.ref vb)] [(.ref vb), (.ref a1)])) rfl rfl (hb hby d2_54)
    refine Goes.via (S' := T9.setTop (mkF m 57 #[.val (.ref a1), .val (.ref ca), .val (.int (0 : Int32)), .val (.int (3 : Int32)), .val .null, .val (.ref vb)] [])) st9 ?_
    have N9 := Fr.snoc X9 N8 g1
    have JV := HV.same W9
    have JC := HC.other W9 (Or.inr (slot_ne (Or.inr (w_ hw 18 rfl)) (Or.inr (w_ hw 17 rfl)) (by decide) (t := .byte) (t' := (.array .byte)) (by decide) (by decide)))
    have Ec := Eb.wr W9
    have Bc := Bb.other W9 (Ne.symm nb)
    have Kq : Keep h0 h9 [a1] := (((Keep.refl h0 [a1]).trans K3 all0).wr W8 (Or.inl (List.mem_singleton.mpr rfl))).wr W9 (Or.inl (List.mem_singleton.mpr rfl))
    exact Goes.retV X9 hx Bd.notSynchronized Bd.returns (hb hby d2_57) (Nat.le_of_ble_eq_true rfl) (Nat.le_of_ble_eq_true rfl) (by rw [e9]; exact ⟨rfl, N9, Kq, vb, kb, Or.inr ⟨Ec, JC, JV, Bc⟩⟩)
def Q_rn1_3 (Z : State) (a1 : Addr) (ca : Addr) (cs : Int32) (ka : ClassId) (c0 c1 c2 : Int32) (h0 : Heap) (n0 : Nat) : Option Value → Heap → List Loc → Prop := fun v h L => v = none ∧ Fr n0 L ∧ Keep h0 h [a1] ∧ ∃ b k, (((¬ (255 : Int32) < c0 ∧ ¬ (255 : Int32) < c1 ∧ ¬ (255 : Int32) < c2) ∧ own_Str Z h a1 b k (3 : Int32) [.int (own_by c0), .int (own_by c1), .int (own_by c2)]) ∨ own_StU Z h a1 b k (6 : Int32) [.int (own_lo c0), .int (own_hi c0), .int (own_lo c1), .int (own_hi c1), .int (own_lo c2), .int (own_hi c2)])
set_option maxRecDepth 65536 in
set_option maxHeartbeats 40000000 in
theorem rn1_3 (l : Launch) (Z : State) (a0 : Array Value) (hw : ∀ d ∈ tables_1, d.before a0 Z = true) (ws : List Jvm.Cond) (a1 : Addr) (ca : Addr) (cs : Int32) (ka : ClassId) (c0 c1 c2 : Int32) (h0 : Heap) (n0 : Nat) (Z0 : n0 ≤ h0.size) (SC : Sta Z Z.heap "java/lang/String" "COMPACT_STRINGS" "Z" (.int cs)) (hcs : ¬ cs = (0 : Int32)) (O0 : Old Z n0 h0) (SA : Sta Z Z.heap "java/lang/StringUTF16" "$assertionsDisabled" "Z" (.int (1 : Int32))) (SH : Sta Z Z.heap "java/lang/StringUTF16" "HI_BYTE_SHIFT" "I" (.int (0 : Int32))) (SL : Sta Z Z.heap "java/lang/StringUTF16" "LO_BYTE_SHIFT" "I" (.int (8 : Int32))) (FV : Fld Z h0 a1 "java/lang/String" "value" "[B" .null) (FC : Fld Z h0 a1 "java/lang/String" "coder" "B" (.int (0 : Int32))) (E1 : Exa Z h0 a1 "java/lang/String") (g1 : n0 ≤ a1) (C0 : Arv Z h0 ca ka .char (3 : Int32) [.int c0, .int c1, .int c2] (.int 0)) (z0 : nar .char c0 = c0) (z1 : nar .char c1 = c1) (z2 : nar .char c2 = c2) :
    own_M l Z (⟨"java/lang/String", "<init>", "([C)V"⟩ : MethodName) (Jvm.Cond.code (⟨"java/lang/String", "<init>", "([C)V"⟩ : MethodName) jdk_42_method_3_code 2 none) ws ({ frames := 5, cells := 2, slots := 9, locals := 106 } : Room) #[(.ref a1), (.ref ca)] h0 (Q_rn1_3 Z a1 ca cs ka c0 c1 c2 h0 n0) := by
  refine MetFree.of_bodySF (plainFor_of_name pn_1) hisR ?_
  intro p e s m args below meth c s₁ Bd hml0 hP hK
  obtain ⟨rfl, hZ, hh⟩ := hP
  have hx := Bd.exec
  have hby := Bd.bytes
  have hml : c.maxLocals = 2 := hml0
  have hown : s.vm.findClass "java/lang/String" = some m.cls := findClass_of_methodNamed Bd.named
  have hnm := (name_of_methodNamed Bd.named Bd.method).1
  have X0 : Stand p l e ({ frames := 5, cells := 2, slots := 9, locals := 106 } : Room) s m #[(.ref a1), (.ref ca)] below meth c s₁ [] 0 0 := Stand.of_body Bd
  have e0 : s₁.heap = h0 := by rw [← hh, Bd.state]; rfl
  have N0 := Fr.nil n0
  show Goes p e below (Fin s (Q_rn1_3 Z a1 ca cs ka c0 c1 c2 h0 n0) ({ frames := 5, cells := 2, slots := 9, locals := 106 } : Room).cells ({ frames := 5, cells := 2, slots := 9, locals := 106 } : Room).slots) _
  refine Goes.via (S' := s₁.setTop (mkF m 0 #[.val (.ref a1), .val (.ref ca)] [])) (fun tz kz => castTop (ef_1 m a1 ca ) kz) ?_
  refine Goes.via (S' := s₁.setTop (mkF m 4 #[.val (.ref a1), .val (.ref ca)] [(.ref ca), (.int (0 : Int32)), (.ref ca), (.ref a1)])) (fun tz kz => ?_) ?_
  · show Steps p.tables e below (s₁.setTop (mkF m 0 #[.val (.ref a1), .val (.ref ca)] [])) _
    refine XS.aloadN X0.here hx rfl (hb hby d1_0) rfl rfl ?_
    refine XS.aloadN X0.here hx rfl (hb hby d1_1) rfl rfl ?_
    refine XS.iconst X0.here hx rfl (hb hby d1_2) ?_
    refine XS.aloadN X0.here hx rfl (hb hby d1_3) rfl rfl ?_
    exact kz
  obtain ⟨cl1, Ar1, q1, Sz1, Nn1, Hs1, G1⟩ := (id C0)
  refine Goes.via (S' := s₁.setTop (mkF m 6 #[.val (.ref a1), .val (.ref ca)] [.null, (.int (3 : Int32)), (.int (0 : Int32)), (.ref ca), (.ref a1)])) (fun tz kz => ?_) ?_
  · show Steps p.tables e below (s₁.setTop (mkF m 4 #[.val (.ref a1), .val (.ref ca)] [(.ref ca), (.int (0 : Int32)), (.ref ca), (.ref a1)])) _
    refine X0.arraylength hx (by rw [e0]; exact Ar1.1) (State.isArrayOf_alike hZ.alike Ar1.2.1) (g := (mkF m 4 #[.val (.ref a1), .val (.ref ca)] [(.ref ca), (.int (0 : Int32)), (.ref ca), (.ref a1)])) rfl rfl (hb hby d1_4) _ ?_
    rw [len_of Sz1 Nn1]
    refine XS.aconstNull X0.here hx rfl (hb hby d1_5) ?_
    exact kz
  obtain ⟨_, _, ⟨T2, L2, k2, n2⟩, -, X2, ⟨Lc2, hQ2, l2, y2, z2⟩, st2⟩ := X0.specialBack hx (y := (⟨"java/lang/String", "<init>", "([CIILjava/lang/Void;)V"⟩ : MethodName)) rfl hown (mvT hZ (w_ hw 8 rfl)) (mvT hZ (w_ hw 9 rfl)) (mvT hZ (w_ hw 11 rfl)) (by decide) (backOf (W := 0) (rn4_3 l Z a0 hw [] a1 ca cs ka c0 c1 c2 h0 n0 Z0 SC hcs O0 SA SH SL FV FC E1 g1 C0 z0 z1 z2) hZ (w_ hw 11 rfl) (w_ hw 4 rfl) (by decide) (by decide)) (g := (mkF m 6 #[.val (.ref a1), .val (.ref ca)] [.null, (.int (3 : Int32)), (.int (0 : Int32)), (.ref ca), (.ref a1)])) rfl (by rw [hml]; rfl) (Steps.refl _) (a := a1) (argsL := [(.ref ca), (.int (0 : Int32)), (.int (3 : Int32)), .null]) (rest := []) (lenOf pd_0 rfl) rfl (by show 2 * 0 + _ ≤ _; exact Nat.le_of_eq rfl) (hb hby d1_6) (fun _ _ => ⟨rfl, e0, (by decide : 0 + 2 ≤ _), (by decide : 0 + 9 ≤ _)⟩)
  dsimp only [Pt.U, Pt.locs, Pt.cells, Pt.slots] at X2 l2 y2 z2 st2 hQ2
  subst l2 y2 z2
  obtain ⟨rfl, N2, K2, vb, kb, S2⟩ := hQ2
  have Nf2 := Fr.app N0 N2
  refine Goes.via (S' := T2.setTop (mkF m 9 #[.val (.ref a1), .val (.ref ca)] [])) (fun _ kz => st2.trans kz) ?_
  exact Goes.retV X2 hx Bd.notSynchronized Bd.returns (hb hby d1_9) (Nat.le_of_ble_eq_true rfl) (Nat.le_of_ble_eq_true rfl) ⟨rfl, Nf2, K2, vb, kb, S2⟩
theorem d5_0 : decode jdk_42_method_55_code 0 = .ok (.aload_n 0, 1) := by decide +kernel
theorem d5_1 : decode jdk_42_method_55_code 1 = .ok (.getfield 9, 3) := by decide +kernel
theorem d5_4 : decode jdk_42_method_55_code 4 = .ok (.arraylength, 1) := by decide +kernel
theorem d5_5 : decode jdk_42_method_55_code 5 = .ok (.ifCond .ne 7, 3) := by decide +kernel
theorem d5_8 : decode jdk_42_method_55_code 8 = .ok (.iconst 1, 1) := by decide +kernel
theorem d5_9 : decode jdk_42_method_55_code 9 = .ok (.goto 4, 3) := by decide +kernel
theorem d5_12 : decode jdk_42_method_55_code 12 = .ok (.iconst 0, 1) := by decide +kernel
theorem d5_13 : decode jdk_42_method_55_code 13 = .ok (.ireturn, 1) := by decide +kernel
theorem pn_5 : plainName "java/lang/String" = true := by first | (simp [plainName, overriddenIn]; done) | decide +kernel
theorem ef_5 (m : MethodId) (x0 : Addr) : entryFrame m #[(.ref x0)] 1 = mkF m 0 #[.val (.ref x0)] [] := by first | (simp [entryFrame, mkF, argsToLocals, Value.category]; done) | rfl
def Q_rie (Z : State) (a1 : Addr) (b : Addr) (k : ClassId) (n : Int32) (vs : List Value) (h0 : Heap) (n0 : Nat) : Option Value → Heap → List Loc → Prop := fun v h L => v = some (.int (0 : Int32)) ∧ Fr n0 L ∧ h = h0
set_option maxRecDepth 65536 in
set_option maxHeartbeats 40000000 in
theorem rie (l : Launch) (Z : State) (a0 : Array Value) (hw : ∀ d ∈ tables_1, d.before a0 Z = true) (ws : List Jvm.Cond) (a1 : Addr) (b : Addr) (k : ClassId) (n : Int32) (vs : List Value) (h0 : Heap) (n0 : Nat) (Z0 : n0 ≤ h0.size) (GV : Fld Z h0 a1 "java/lang/String" "value" "[B" (.ref b)) (BV : Arv Z h0 b k .byte n vs (.int 0)) (hn : ¬ n = (0 : Int32)) :
    own_M l Z (⟨"java/lang/String", "isEmpty", "()Z"⟩ : MethodName) (Jvm.Cond.code (⟨"java/lang/String", "isEmpty", "()Z"⟩ : MethodName) jdk_42_method_55_code 1 (some .boolean)) ws ({ frames := 0, cells := 0, slots := 0, locals := 0 } : Room) #[(.ref a1)] h0 (Q_rie Z a1 b k n vs h0 n0) := by
  refine MetFree.of_bodySF (plainFor_of_name pn_5) hisR ?_
  intro p e s m args below meth c s₁ Bd hml0 hP hK
  obtain ⟨rfl, hZ, hh⟩ := hP
  have hx := Bd.exec
  have hby := Bd.bytes
  have hml : c.maxLocals = 1 := hml0
  have hown : s.vm.findClass "java/lang/String" = some m.cls := findClass_of_methodNamed Bd.named
  have hnm := (name_of_methodNamed Bd.named Bd.method).1
  have X0 : Stand p l e ({ frames := 0, cells := 0, slots := 0, locals := 0 } : Room) s m #[(.ref a1)] below meth c s₁ [] 0 0 := Stand.of_body Bd
  have e0 : s₁.heap = h0 := by rw [← hh, Bd.state]; rfl
  have N0 := Fr.nil n0
  show Goes p e below (Fin s (Q_rie Z a1 b k n vs h0 n0) ({ frames := 0, cells := 0, slots := 0, locals := 0 } : Room).cells ({ frames := 0, cells := 0, slots := 0, locals := 0 } : Room).slots) _
  refine Goes.via (S' := s₁.setTop (mkF m 0 #[.val (.ref a1)] [])) (fun tz kz => castTop (ef_5 m a1 ) kz) ?_
  refine Goes.via (S' := s₁.setTop (mkF m 1 #[.val (.ref a1)] [(.ref a1)])) (fun tz kz => ?_) ?_
  · show Steps p.tables e below (s₁.setTop (mkF m 0 #[.val (.ref a1)] [])) _
    refine XS.aloadN X0.here hx rfl (hb hby d5_0) rfl rfl ?_
    exact kz
  obtain ⟨T1, X1, e1, st1⟩ := getF X0 hx hZ hown (host := "") (Or.inl (w_ hw 21 rfl)) Via.refl e0 GV (g := (mkF m 1 #[.val (.ref a1)] [(.ref a1)])) rfl rfl (hb hby d5_1)
  refine Goes.via (S' := T1.setTop (mkF m 4 #[.val (.ref a1)] [(.ref b)])) st1 ?_
  obtain ⟨cl2, Ar2, q2, Sz2, Nn2, Hs2, G2⟩ := (id BV)
  refine Goes.via (S' := T1.setTop (mkF m 13 #[.val (.ref a1)] [(.int (0 : Int32))])) (fun tz kz => ?_) ?_
  · show Steps p.tables e below (T1.setTop (mkF m 4 #[.val (.ref a1)] [(.ref b)])) _
    refine X1.arraylength hx (by rw [e1]; exact Ar2.1) (State.isArrayOf_alike hZ.alike Ar2.2.1) (g := (mkF m 4 #[.val (.ref a1)] [(.ref b)])) rfl rfl (hb hby d5_4) _ ?_
    rw [len_of Sz2 Nn2]
    refine XS.ifYes X1.here hx rfl (pc0 := 5) (pc' := 12) rfl (hb hby d5_5) rfl ((if0 _ _).trans (feq hn).2) (by decide) (by decide) ?_
    refine XS.iconst X1.here hx rfl (hb hby d5_12) ?_
    exact kz
  exact Goes.retN X1 hx Bd.notSynchronized (t := .boolean) Bd.returns (by simp) (hb hby d5_13) (Nat.le_of_ble_eq_true rfl) (Nat.le_of_ble_eq_true rfl) ⟨rfl, N0, e1⟩
def Q_rie0 (Z : State) (a1 : Addr) (b : Addr) (k : ClassId) (vs : List Value) (h0 : Heap) (n0 : Nat) : Option Value → Heap → List Loc → Prop := fun v h L => v = some (.int (1 : Int32)) ∧ Fr n0 L ∧ h = h0
set_option maxRecDepth 65536 in
set_option maxHeartbeats 40000000 in
theorem rie0 (l : Launch) (Z : State) (a0 : Array Value) (hw : ∀ d ∈ tables_1, d.before a0 Z = true) (ws : List Jvm.Cond) (a1 : Addr) (b : Addr) (k : ClassId) (vs : List Value) (h0 : Heap) (n0 : Nat) (Z0 : n0 ≤ h0.size) (GV : Fld Z h0 a1 "java/lang/String" "value" "[B" (.ref b)) (BV : Arv Z h0 b k .byte (0 : Int32) vs (.int 0)) :
    own_M l Z (⟨"java/lang/String", "isEmpty", "()Z"⟩ : MethodName) (Jvm.Cond.code (⟨"java/lang/String", "isEmpty", "()Z"⟩ : MethodName) jdk_42_method_55_code 1 (some .boolean)) ws ({ frames := 0, cells := 0, slots := 0, locals := 0 } : Room) #[(.ref a1)] h0 (Q_rie0 Z a1 b k vs h0 n0) := by
  refine MetFree.of_bodySF (plainFor_of_name pn_5) hisR ?_
  intro p e s m args below meth c s₁ Bd hml0 hP hK
  obtain ⟨rfl, hZ, hh⟩ := hP
  have hx := Bd.exec
  have hby := Bd.bytes
  have hml : c.maxLocals = 1 := hml0
  have hown : s.vm.findClass "java/lang/String" = some m.cls := findClass_of_methodNamed Bd.named
  have hnm := (name_of_methodNamed Bd.named Bd.method).1
  have X0 : Stand p l e ({ frames := 0, cells := 0, slots := 0, locals := 0 } : Room) s m #[(.ref a1)] below meth c s₁ [] 0 0 := Stand.of_body Bd
  have e0 : s₁.heap = h0 := by rw [← hh, Bd.state]; rfl
  have N0 := Fr.nil n0
  show Goes p e below (Fin s (Q_rie0 Z a1 b k vs h0 n0) ({ frames := 0, cells := 0, slots := 0, locals := 0 } : Room).cells ({ frames := 0, cells := 0, slots := 0, locals := 0 } : Room).slots) _
  refine Goes.via (S' := s₁.setTop (mkF m 0 #[.val (.ref a1)] [])) (fun tz kz => castTop (ef_5 m a1 ) kz) ?_
  refine Goes.via (S' := s₁.setTop (mkF m 1 #[.val (.ref a1)] [(.ref a1)])) (fun tz kz => ?_) ?_
  · show Steps p.tables e below (s₁.setTop (mkF m 0 #[.val (.ref a1)] [])) _
    refine XS.aloadN X0.here hx rfl (hb hby d5_0) rfl rfl ?_
    exact kz
  obtain ⟨T1, X1, e1, st1⟩ := getF X0 hx hZ hown (host := "") (Or.inl (w_ hw 21 rfl)) Via.refl e0 GV (g := (mkF m 1 #[.val (.ref a1)] [(.ref a1)])) rfl rfl (hb hby d5_1)
  refine Goes.via (S' := T1.setTop (mkF m 4 #[.val (.ref a1)] [(.ref b)])) st1 ?_
  obtain ⟨cl2, Ar2, q2, Sz2, Nn2, Hs2, G2⟩ := (id BV)
  refine Goes.via (S' := T1.setTop (mkF m 13 #[.val (.ref a1)] [(.int (1 : Int32))])) (fun tz kz => ?_) ?_
  · show Steps p.tables e below (T1.setTop (mkF m 4 #[.val (.ref a1)] [(.ref b)])) _
    refine X1.arraylength hx (by rw [e1]; exact Ar2.1) (State.isArrayOf_alike hZ.alike Ar2.2.1) (g := (mkF m 4 #[.val (.ref a1)] [(.ref b)])) rfl rfl (hb hby d5_4) _ ?_
    rw [len_of Sz2 Nn2]
    refine XS.ifNo X1.here hx rfl (hb hby d5_5) rfl ((if0 _ _).trans (teq (by first | decide | rfl)).2) ?_
    refine XS.iconst X1.here hx rfl (hb hby d5_8) ?_
    refine XS.goto X1.here hx rfl (pc0 := 9) (pc' := 13) rfl (hb hby d5_9) (by decide) (by decide) ?_
    exact kz
  exact Goes.retN X1 hx Bd.notSynchronized (t := .boolean) Bd.returns (by simp) (hb hby d5_13) (Nat.le_of_ble_eq_true rfl) (Nat.le_of_ble_eq_true rfl) ⟨rfl, N0, e1⟩
theorem d7_0 : decode jdk_42_method_152_code 0 = .ok (.getstatic 38, 3) := by decide +kernel
theorem d7_3 : decode jdk_42_method_152_code 3 = .ok (.ifCond .eq 10, 3) := by decide +kernel
theorem d7_6 : decode jdk_42_method_152_code 6 = .ok (.aload_n 0, 1) := by decide +kernel
theorem d7_7 : decode jdk_42_method_152_code 7 = .ok (.getfield 15, 3) := by decide +kernel
theorem d7_10 : decode jdk_42_method_152_code 10 = .ok (.goto 4, 3) := by decide +kernel
theorem d7_14 : decode jdk_42_method_152_code 14 = .ok (.ireturn, 1) := by decide +kernel
theorem pn_7 : plainName "java/lang/String" = true := by first | (simp [plainName, overriddenIn]; done) | decide +kernel
theorem ef_7 (m : MethodId) (x0 : Addr) : entryFrame m #[(.ref x0)] 1 = mkF m 0 #[.val (.ref x0)] [] := by first | (simp [entryFrame, mkF, argsToLocals, Value.category]; done) | rfl
def Q_rcd (Z : State) (a1 : Addr) (cs cd : Int32) (h0 : Heap) (n0 : Nat) : Option Value → Heap → List Loc → Prop := fun v h L => v = some (.int cd) ∧ Fr n0 L ∧ h = h0
set_option maxRecDepth 65536 in
set_option maxHeartbeats 40000000 in
theorem rcd (l : Launch) (Z : State) (a0 : Array Value) (hw : ∀ d ∈ tables_1, d.before a0 Z = true) (ws : List Jvm.Cond) (a1 : Addr) (cs cd : Int32) (h0 : Heap) (n0 : Nat) (Z0 : n0 ≤ h0.size) (SC : Sta Z Z.heap "java/lang/String" "COMPACT_STRINGS" "Z" (.int cs)) (hcs : ¬ cs = (0 : Int32)) (O0 : Old Z n0 h0) (GC : Fld Z h0 a1 "java/lang/String" "coder" "B" (.int cd)) (hcd : nar .byte cd = cd) :
    own_M l Z (⟨"java/lang/String", "coder", "()B"⟩ : MethodName) (Jvm.Cond.code (⟨"java/lang/String", "coder", "()B"⟩ : MethodName) jdk_42_method_152_code 1 (some .byte)) ws ({ frames := 0, cells := 0, slots := 0, locals := 0 } : Room) #[(.ref a1)] h0 (Q_rcd Z a1 cs cd h0 n0) := by
  refine MetFree.of_bodySF (plainFor_of_name pn_7) hisR ?_
  intro p e s m args below meth c s₁ Bd hml0 hP hK
  obtain ⟨rfl, hZ, hh⟩ := hP
  have hx := Bd.exec
  have hby := Bd.bytes
  have hml : c.maxLocals = 1 := hml0
  have hown : s.vm.findClass "java/lang/String" = some m.cls := findClass_of_methodNamed Bd.named
  have hnm := (name_of_methodNamed Bd.named Bd.method).1
  have X0 : Stand p l e ({ frames := 0, cells := 0, slots := 0, locals := 0 } : Room) s m #[(.ref a1)] below meth c s₁ [] 0 0 := Stand.of_body Bd
  have e0 : s₁.heap = h0 := by rw [← hh, Bd.state]; rfl
  have N0 := Fr.nil n0
  show Goes p e below (Fin s (Q_rcd Z a1 cs cd h0 n0) ({ frames := 0, cells := 0, slots := 0, locals := 0 } : Room).cells ({ frames := 0, cells := 0, slots := 0, locals := 0 } : Room).slots) _
  refine Goes.via (S' := s₁.setTop (mkF m 0 #[.val (.ref a1)] [])) (fun tz kz => castTop (ef_7 m a1 ) kz) ?_
  obtain ⟨T1, X1, e1, st1⟩ := getS2 X0 hx hZ hown (host := "") (Or.inl (w_ hw 42 rfl)) Via.refl e0 (SC.ext O0.2) (g := (mkF m 0 #[.val (.ref a1)] [])) rfl (hb hby d7_0)
  refine Goes.via (S' := T1.setTop (mkF m 3 #[.val (.ref a1)] [(.int cs)])) st1 ?_
  refine Goes.via (S' := T1.setTop (mkF m 7 #[.val (.ref a1)] [(.ref a1)])) (fun tz kz => ?_) ?_
  · show Steps p.tables e below (T1.setTop (mkF m 3 #[.val (.ref a1)] [(.int cs)])) _
    refine XS.ifNo X1.here hx rfl (hb hby d7_3) rfl ((if0 _ _).trans (feq hcs).1) ?_
    refine XS.aloadN X1.here hx rfl (hb hby d7_6) rfl rfl ?_
    exact kz
  obtain ⟨T2, X2, e2, st2⟩ := getF X1 hx hZ hown (host := "") (Or.inl (w_ hw 22 rfl)) Via.refl e1 GC (g := (mkF m 7 #[.val (.ref a1)] [(.ref a1)])) rfl rfl (hb hby d7_7)
  refine Goes.via (S' := T2.setTop (mkF m 10 #[.val (.ref a1)] [(.int cd)])) st2 ?_
  refine Goes.via (S' := T2.setTop (mkF m 14 #[.val (.ref a1)] [(.int cd)])) (fun tz kz => ?_) ?_
  · show Steps p.tables e below (T2.setTop (mkF m 10 #[.val (.ref a1)] [(.int cd)])) _
    refine XS.goto X2.here hx rfl (pc0 := 10) (pc' := 14) rfl (hb hby d7_10) (by decide) (by decide) ?_
    exact kz
  exact Goes.retN X2 hx Bd.notSynchronized (t := .byte) Bd.returns (by simp) (hb hby d7_14) (Nat.le_of_ble_eq_true rfl) (Nat.le_of_ble_eq_true rfl) ⟨congrArg (fun z => some (Value.int z)) hcd, N0, e2⟩
theorem d14_0 : decode jdk_42_method_154_code 0 = .ok (.getstatic 38, 3) := by decide +kernel
theorem d14_3 : decode jdk_42_method_154_code 3 = .ok (.ifCond .eq 14, 3) := by decide +kernel
theorem d14_6 : decode jdk_42_method_154_code 6 = .ok (.aload_n 0, 1) := by decide +kernel
theorem d14_7 : decode jdk_42_method_154_code 7 = .ok (.getfield 15, 3) := by decide +kernel
theorem d14_10 : decode jdk_42_method_154_code 10 = .ok (.ifCond .ne 7, 3) := by decide +kernel
theorem d14_13 : decode jdk_42_method_154_code 13 = .ok (.iconst 1, 1) := by decide +kernel
theorem d14_14 : decode jdk_42_method_154_code 14 = .ok (.goto 4, 3) := by decide +kernel
theorem d14_17 : decode jdk_42_method_154_code 17 = .ok (.iconst 0, 1) := by decide +kernel
theorem d14_18 : decode jdk_42_method_154_code 18 = .ok (.ireturn, 1) := by decide +kernel
theorem pn_14 : plainName "java/lang/String" = true := by first | (simp [plainName, overriddenIn]; done) | decide +kernel
theorem ef_14 (m : MethodId) (x0 : Addr) : entryFrame m #[(.ref x0)] 1 = mkF m 0 #[.val (.ref x0)] [] := by first | (simp [entryFrame, mkF, argsToLocals, Value.category]; done) | rfl
def Q_ril_0 (Z : State) (a1 : Addr) (cs : Int32) (h0 : Heap) (n0 : Nat) : Option Value → Heap → List Loc → Prop := fun v h L => v = some (.int (1 : Int32)) ∧ Fr n0 L ∧ h = h0
set_option maxRecDepth 65536 in
set_option maxHeartbeats 40000000 in
theorem ril_0 (l : Launch) (Z : State) (a0 : Array Value) (hw : ∀ d ∈ tables_1, d.before a0 Z = true) (ws : List Jvm.Cond) (a1 : Addr) (cs : Int32) (h0 : Heap) (n0 : Nat) (Z0 : n0 ≤ h0.size) (SC : Sta Z Z.heap "java/lang/String" "COMPACT_STRINGS" "Z" (.int cs)) (hcs : ¬ cs = (0 : Int32)) (O0 : Old Z n0 h0) (GC : Fld Z h0 a1 "java/lang/String" "coder" "B" (.int (0 : Int32))) :
    own_M l Z (⟨"java/lang/String", "isLatin1", "()Z"⟩ : MethodName) (Jvm.Cond.code (⟨"java/lang/String", "isLatin1", "()Z"⟩ : MethodName) jdk_42_method_154_code 1 (some .boolean)) ws ({ frames := 0, cells := 0, slots := 0, locals := 0 } : Room) #[(.ref a1)] h0 (Q_ril_0 Z a1 cs h0 n0) := by
  refine MetFree.of_bodySF (plainFor_of_name pn_14) hisR ?_
  intro p e s m args below meth c s₁ Bd hml0 hP hK
  obtain ⟨rfl, hZ, hh⟩ := hP
  have hx := Bd.exec
  have hby := Bd.bytes
  have hml : c.maxLocals = 1 := hml0
  have hown : s.vm.findClass "java/lang/String" = some m.cls := findClass_of_methodNamed Bd.named
  have hnm := (name_of_methodNamed Bd.named Bd.method).1
  have X0 : Stand p l e ({ frames := 0, cells := 0, slots := 0, locals := 0 } : Room) s m #[(.ref a1)] below meth c s₁ [] 0 0 := Stand.of_body Bd
  have e0 : s₁.heap = h0 := by rw [← hh, Bd.state]; rfl
  have N0 := Fr.nil n0
  show Goes p e below (Fin s (Q_ril_0 Z a1 cs h0 n0) ({ frames := 0, cells := 0, slots := 0, locals := 0 } : Room).cells ({ frames := 0, cells := 0, slots := 0, locals := 0 } : Room).slots) _
  refine Goes.via (S' := s₁.setTop (mkF m 0 #[.val (.ref a1)] [])) (fun tz kz => castTop (ef_14 m a1 ) kz) ?_
  obtain ⟨T1, X1, e1, st1⟩ := getS2 X0 hx hZ hown (host := "") (Or.inl (w_ hw 42 rfl)) Via.refl e0 (SC.ext O0.2) (g := (mkF m 0 #[.val (.ref a1)] [])) rfl (hb hby d14_0)
  refine Goes.via (S' := T1.setTop (mkF m 3 #[.val (.ref a1)] [(.int cs)])) st1 ?_
  refine Goes.via (S' := T1.setTop (mkF m 7 #[.val (.ref a1)] [(.ref a1)])) (fun tz kz => ?_) ?_
  · show Steps p.tables e below (T1.setTop (mkF m 3 #[.val (.ref a1)] [(.int cs)])) _
    refine XS.ifNo X1.here hx rfl (hb hby d14_3) rfl ((if0 _ _).trans (feq hcs).1) ?_
    refine XS.aloadN X1.here hx rfl (hb hby d14_6) rfl rfl ?_
    exact kz
  obtain ⟨T2, X2, e2, st2⟩ := getF X1 hx hZ hown (host := "") (Or.inl (w_ hw 22 rfl)) Via.refl e1 GC (g := (mkF m 7 #[.val (.ref a1)] [(.ref a1)])) rfl rfl (hb hby d14_7)
  refine Goes.via (S' := T2.setTop (mkF m 10 #[.val (.ref a1)] [(.int (0 : Int32))])) st2 ?_
  refine Goes.via (S' := T2.setTop (mkF m 18 #[.val (.ref a1)] [(.int (1 : Int32))])) (fun tz kz => ?_) ?_
  · show Steps p.tables e below (T2.setTop (mkF m 10 #[.val (.ref a1)] [(.int (0 : Int32))])) _
    refine XS.ifNo X2.here hx rfl (hb hby d14_10) rfl ((if0 _ _).trans (teq (by first | decide | rfl)).2) ?_
    refine XS.iconst X2.here hx rfl (hb hby d14_13) ?_
    refine XS.goto X2.here hx rfl (pc0 := 14) (pc' := 18) rfl (hb hby d14_14) (by decide) (by decide) ?_
    exact kz
  exact Goes.retN X2 hx Bd.notSynchronized (t := .boolean) Bd.returns (by simp) (hb hby d14_18) (Nat.le_of_ble_eq_true rfl) (Nat.le_of_ble_eq_true rfl) ⟨rfl, N0, e2⟩
def Q_ril_1 (Z : State) (a1 : Addr) (cs : Int32) (h0 : Heap) (n0 : Nat) : Option Value → Heap → List Loc → Prop := fun v h L => v = some (.int (0 : Int32)) ∧ Fr n0 L ∧ h = h0
set_option maxRecDepth 65536 in
set_option maxHeartbeats 40000000 in
theorem ril_1 (l : Launch) (Z : State) (a0 : Array Value) (hw : ∀ d ∈ tables_1, d.before a0 Z = true) (ws : List Jvm.Cond) (a1 : Addr) (cs : Int32) (h0 : Heap) (n0 : Nat) (Z0 : n0 ≤ h0.size) (SC : Sta Z Z.heap "java/lang/String" "COMPACT_STRINGS" "Z" (.int cs)) (hcs : ¬ cs = (0 : Int32)) (O0 : Old Z n0 h0) (GC : Fld Z h0 a1 "java/lang/String" "coder" "B" (.int (1 : Int32))) :
    own_M l Z (⟨"java/lang/String", "isLatin1", "()Z"⟩ : MethodName) (Jvm.Cond.code (⟨"java/lang/String", "isLatin1", "()Z"⟩ : MethodName) jdk_42_method_154_code 1 (some .boolean)) ws ({ frames := 0, cells := 0, slots := 0, locals := 0 } : Room) #[(.ref a1)] h0 (Q_ril_1 Z a1 cs h0 n0) := by
  refine MetFree.of_bodySF (plainFor_of_name pn_14) hisR ?_
  intro p e s m args below meth c s₁ Bd hml0 hP hK
  obtain ⟨rfl, hZ, hh⟩ := hP
  have hx := Bd.exec
  have hby := Bd.bytes
  have hml : c.maxLocals = 1 := hml0
  have hown : s.vm.findClass "java/lang/String" = some m.cls := findClass_of_methodNamed Bd.named
  have hnm := (name_of_methodNamed Bd.named Bd.method).1
  have X0 : Stand p l e ({ frames := 0, cells := 0, slots := 0, locals := 0 } : Room) s m #[(.ref a1)] below meth c s₁ [] 0 0 := Stand.of_body Bd
  have e0 : s₁.heap = h0 := by rw [← hh, Bd.state]; rfl
  have N0 := Fr.nil n0
  show Goes p e below (Fin s (Q_ril_1 Z a1 cs h0 n0) ({ frames := 0, cells := 0, slots := 0, locals := 0 } : Room).cells ({ frames := 0, cells := 0, slots := 0, locals := 0 } : Room).slots) _
  refine Goes.via (S' := s₁.setTop (mkF m 0 #[.val (.ref a1)] [])) (fun tz kz => castTop (ef_14 m a1 ) kz) ?_
  obtain ⟨T1, X1, e1, st1⟩ := getS2 X0 hx hZ hown (host := "") (Or.inl (w_ hw 42 rfl)) Via.refl e0 (SC.ext O0.2) (g := (mkF m 0 #[.val (.ref a1)] [])) rfl (hb hby d14_0)
  refine Goes.via (S' := T1.setTop (mkF m 3 #[.val (.ref a1)] [(.int cs)])) st1 ?_
  refine Goes.via (S' := T1.setTop (mkF m 7 #[.val (.ref a1)] [(.ref a1)])) (fun tz kz => ?_) ?_
  · show Steps p.tables e below (T1.setTop (mkF m 3 #[.val (.ref a1)] [(.int cs)])) _
    refine XS.ifNo X1.here hx rfl (hb hby d14_3) rfl ((if0 _ _).trans (feq hcs).1) ?_
    refine XS.aloadN X1.here hx rfl (hb hby d14_6) rfl rfl ?_
    exact kz
  obtain ⟨T2, X2, e2, st2⟩ := getF X1 hx hZ hown (host := "") (Or.inl (w_ hw 22 rfl)) Via.refl e1 GC (g := (mkF m 7 #[.val (.ref a1)] [(.ref a1)])) rfl rfl (hb hby d14_7)
  refine Goes.via (S' := T2.setTop (mkF m 10 #[.val (.ref a1)] [(.int (1 : Int32))])) st2 ?_
  refine Goes.via (S' := T2.setTop (mkF m 18 #[.val (.ref a1)] [(.int (0 : Int32))])) (fun tz kz => ?_) ?_
  · show Steps p.tables e below (T2.setTop (mkF m 10 #[.val (.ref a1)] [(.int (1 : Int32))])) _
    refine XS.ifYes X2.here hx rfl (pc0 := 10) (pc' := 17) rfl (hb hby d14_10) rfl ((if0 _ _).trans (feq (by first | decide | rfl)).2) (by decide) (by decide) ?_
    refine XS.iconst X2.here hx rfl (hb hby d14_17) ?_
    exact kz
  exact Goes.retN X2 hx Bd.notSynchronized (t := .boolean) Bd.returns (by simp) (hb hby d14_18) (Nat.le_of_ble_eq_true rfl) (Nat.le_of_ble_eq_true rfl) ⟨rfl, N0, e2⟩
theorem d6_0 : decode jdk_42_method_54_code 0 = .ok (.aload_n 0, 1) := by decide +kernel
theorem d6_1 : decode jdk_42_method_54_code 1 = .ok (.getfield 9, 3) := by decide +kernel
theorem d6_4 : decode jdk_42_method_54_code 4 = .ok (.arraylength, 1) := by decide +kernel
theorem d6_5 : decode jdk_42_method_54_code 5 = .ok (.aload_n 0, 1) := by decide +kernel
theorem d6_6 : decode jdk_42_method_54_code 6 = .ok (.invokevirtual 335, 3) := by decide +kernel
theorem d6_9 : decode jdk_42_method_54_code 9 = .ok (.ishr, 1) := by decide +kernel
theorem d6_10 : decode jdk_42_method_54_code 10 = .ok (.ireturn, 1) := by decide +kernel
theorem pn_6 : plainName "java/lang/String" = true := by first | (simp [plainName, overriddenIn]; done) | decide +kernel
theorem ef_6 (m : MethodId) (x0 : Addr) : entryFrame m #[(.ref x0)] 1 = mkF m 0 #[.val (.ref x0)] [] := by first | (simp [entryFrame, mkF, argsToLocals, Value.category]; done) | rfl
def Q_rlen (Z : State) (a1 : Addr) (b : Addr) (k : ClassId) (cs cd N n : Int32) (vs : List Value) (h0 : Heap) (n0 : Nat) : Option Value → Heap → List Loc → Prop := fun v h L => v = some (.int n) ∧ Fr n0 L ∧ h = h0
set_option maxRecDepth 65536 in
set_option maxHeartbeats 40000000 in
theorem rlen (l : Launch) (Z : State) (a0 : Array Value) (hw : ∀ d ∈ tables_1, d.before a0 Z = true) (ws : List Jvm.Cond) (a1 : Addr) (b : Addr) (k : ClassId) (cs cd N n : Int32) (vs : List Value) (h0 : Heap) (n0 : Nat) (Z0 : n0 ≤ h0.size) (SC : Sta Z Z.heap "java/lang/String" "COMPACT_STRINGS" "Z" (.int cs)) (hcs : ¬ cs = (0 : Int32)) (O0 : Old Z n0 h0) (E1 : Exa Z h0 a1 "java/lang/String") (GC : Fld Z h0 a1 "java/lang/String" "coder" "B" (.int cd)) (GV : Fld Z h0 a1 "java/lang/String" "value" "[B" (.ref b)) (BV : Arv Z h0 b k .byte N vs (.int 0)) (hcd : nar .byte cd = cd) (hn : (N >>> (cd &&& 31)) = n) :
    own_M l Z (⟨"java/lang/String", "length", "()I"⟩ : MethodName) (Jvm.Cond.code (⟨"java/lang/String", "length", "()I"⟩ : MethodName) jdk_42_method_54_code 1 (some .int)) ws ({ frames := 1, cells := 0, slots := 0, locals := 16 } : Room) #[(.ref a1)] h0 (Q_rlen Z a1 b k cs cd N n vs h0 n0) := by
  refine MetFree.of_bodySF (plainFor_of_name pn_6) hisR ?_
  intro p e s m args below meth c s₁ Bd hml0 hP hK
  obtain ⟨rfl, hZ, hh⟩ := hP
  have hx := Bd.exec
  have hby := Bd.bytes
  have hml : c.maxLocals = 1 := hml0
  have hown : s.vm.findClass "java/lang/String" = some m.cls := findClass_of_methodNamed Bd.named
  have hnm := (name_of_methodNamed Bd.named Bd.method).1
  have X0 : Stand p l e ({ frames := 1, cells := 0, slots := 0, locals := 16 } : Room) s m #[(.ref a1)] below meth c s₁ [] 0 0 := Stand.of_body Bd
  have e0 : s₁.heap = h0 := by rw [← hh, Bd.state]; rfl
  have N0 := Fr.nil n0
  show Goes p e below (Fin s (Q_rlen Z a1 b k cs cd N n vs h0 n0) ({ frames := 1, cells := 0, slots := 0, locals := 16 } : Room).cells ({ frames := 1, cells := 0, slots := 0, locals := 16 } : Room).slots) _
  refine Goes.via (S' := s₁.setTop (mkF m 0 #[.val (.ref a1)] [])) (fun tz kz => castTop (ef_6 m a1 ) kz) ?_
  refine Goes.via (S' := s₁.setTop (mkF m 1 #[.val (.ref a1)] [(.ref a1)])) (fun tz kz => ?_) ?_
  · show Steps p.tables e below (s₁.setTop (mkF m 0 #[.val (.ref a1)] [])) _
    refine XS.aloadN X0.here hx rfl (hb hby d6_0) rfl rfl ?_
    exact kz
  obtain ⟨T1, X1, e1, st1⟩ := getF X0 hx hZ hown (host := "") (Or.inl (w_ hw 21 rfl)) Via.refl e0 GV (g := (mkF m 1 #[.val (.ref a1)] [(.ref a1)])) rfl rfl (hb hby d6_1)
  refine Goes.via (S' := T1.setTop (mkF m 4 #[.val (.ref a1)] [(.ref b)])) st1 ?_
  obtain ⟨cl2, Ar2, q2, Sz2, Nn2, Hs2, G2⟩ := (id BV)
  refine Goes.via (S' := T1.setTop (mkF m 6 #[.val (.ref a1)] [(.ref a1), (.int N)])) (fun tz kz => ?_) ?_
  · show Steps p.tables e below (T1.setTop (mkF m 4 #[.val (.ref a1)] [(.ref b)])) _
    refine X1.arraylength hx (by rw [e1]; exact Ar2.1) (State.isArrayOf_alike hZ.alike Ar2.2.1) (g := (mkF m 4 #[.val (.ref a1)] [(.ref b)])) rfl rfl (hb hby d6_4) _ ?_
    rw [len_of Sz2 Nn2]
    refine XS.aloadN X1.here hx rfl (hb hby d6_5) rfl rfl ?_
    exact kz
  obtain ⟨cq3, kq3, q3a, q3b, q3c⟩ := isOf hZ e1 E1
  obtain ⟨_, _, ⟨T3, L3, k3, n3⟩, -, X3, ⟨Lc3, hQ3, l3, y3, z3⟩, st3⟩ := X1.virtualBack hx (y := (⟨"java/lang/String", "coder", "()B"⟩ : MethodName)) (z := (⟨"java/lang/String", "coder", "()B"⟩ : MethodName)) hown (mvT hZ (w_ hw 37 rfl)) (mvT hZ (w_ hw 38 rfl)) (notFace_of_selects (args := #[]) (mvT hZ (w_ hw 40 rfl))) (mvT hZ (w_ hw 40 rfl)) (mvT hZ (w_ hw 39 rfl)) (by decide) (backOf (W := 1) (rcd l Z a0 hw [] a1 cs cd h0 n0 Z0 SC hcs O0 GC hcd) hZ (w_ hw 41 rfl) (w_ hw 4 rfl) (by decide) (by decide)) q3a q3c (g := (mkF m 6 #[.val (.ref a1)] [(.ref a1), (.int N)])) rfl (by rw [hml]; rfl) (Steps.refl _) (argsL := []) (rest := [(.int N)]) (lenOf pd_8 rfl) rfl (by show 2 * 0 + _ ≤ _; exact Nat.le_of_eq rfl) (hb hby d6_6) (fun _ _ => ⟨rfl, e1, (by decide : 0 + 0 ≤ _), (by decide : 0 + 0 ≤ _)⟩)
  dsimp only [Pt.U, Pt.locs, Pt.cells, Pt.slots] at X3 l3 y3 z3 st3 hQ3
  subst l3 y3 z3
  obtain ⟨rfl, N3, e3⟩ := hQ3
  have Nf3 := Fr.app N0 N3
  refine Goes.via (S' := T3.setTop (mkF m 9 #[.val (.ref a1)] [(.int cd), (.int N)])) (fun _ kz => st3.trans kz) ?_
  refine Goes.via (S' := T3.setTop (mkF m 10 #[.val (.ref a1)] [(.int (N >>> (cd &&& 31)))])) (fun tz kz => ?_) ?_
  · show Steps p.tables e below (T3.setTop (mkF m 9 #[.val (.ref a1)] [(.int cd), (.int N)])) _
    refine XS.ishr X3.here hx rfl (hb hby d6_9) rfl ?_
    exact kz
  exact Goes.retI X3 hx Bd.notSynchronized Bd.returns (hb hby d6_10) (Nat.le_of_ble_eq_true rfl) (Nat.le_of_ble_eq_true rfl) ⟨congrArg (fun z => some (Value.int z)) hn, Nf3, e3⟩
theorem d17_0 : decode jdk_41_method_11_code 0 = .ok (.iload_n 0, 1) := by decide +kernel
theorem d17_1 : decode jdk_41_method_11_code 1 = .ok (.ifCond .lt 8, 3) := by decide +kernel
theorem d17_4 : decode jdk_41_method_11_code 4 = .ok (.iload_n 0, 1) := by decide +kernel
theorem d17_5 : decode jdk_41_method_11_code 5 = .ok (.iload_n 1, 1) := by decide +kernel
theorem d17_6 : decode jdk_41_method_11_code 6 = .ok (.if_icmp .lt 10, 3) := by decide +kernel
theorem d17_16 : decode jdk_41_method_11_code 16 = .ok (.iload_n 0, 1) := by decide +kernel
theorem d17_17 : decode jdk_41_method_11_code 17 = .ok (.ireturn, 1) := by decide +kernel
theorem pn_17 : plainName "jdk/internal/util/Preconditions" = true := by first | (simp [plainName, overriddenIn]; done) | decide +kernel
theorem ef_17 (m : MethodId) (x0 : Int32) (x1 : Int32) (x2 : Value) (hx2 : x2.isRef = true) : entryFrame m #[(.int x0), (.int x1), x2] 3 = mkF m 0 #[.val (.int x0), .val (.int x1), .val x2] [] := by rcases ref_cases hx2 with rfl | ⟨_, rfl⟩ <;> (first | (simp [entryFrame, mkF, argsToLocals, Value.category]; done) | rfl)
def Q_rpi (Z : State) (i : Int32) (n : Int32) (fv : Value)  (h0 : Heap) (n0 : Nat) : Option Value → Heap → List Loc → Prop := fun v h L => v = some (.int i) ∧ Fr n0 L ∧ h = h0
set_option maxRecDepth 65536 in
set_option maxHeartbeats 40000000 in
theorem rpi (l : Launch) (Z : State) (a0 : Array Value) (hw : ∀ d ∈ tables_1, d.before a0 Z = true) (ws : List Jvm.Cond) (i : Int32) (n : Int32) (fv : Value)  (h0 : Heap) (n0 : Nat) (Z0 : n0 ≤ h0.size) (hfv : fv.isRef = true) (q1 : ¬ i < (0 : Int32)) (q2 : i < n) :
    own_M l Z (⟨"jdk/internal/util/Preconditions", "checkIndex", "(IILjava/util/function/BiFunction;)I"⟩ : MethodName) (Jvm.Cond.code (⟨"jdk/internal/util/Preconditions", "checkIndex", "(IILjava/util/function/BiFunction;)I"⟩ : MethodName) jdk_41_method_11_code 3 (some .int)) ws ({ frames := 0, cells := 0, slots := 0, locals := 0 } : Room) #[(.int i), (.int n), fv] h0 (Q_rpi Z i n fv h0 n0) := by
  refine MetFree.of_bodySF (plainFor_of_name pn_17) hisR ?_
  intro p e s m args below meth c s₁ Bd hml0 hP hK
  obtain ⟨rfl, hZ, hh⟩ := hP
  have hx := Bd.exec
  have hby := Bd.bytes
  have hml : c.maxLocals = 3 := hml0
  have hown : s.vm.findClass "jdk/internal/util/Preconditions" = some m.cls := findClass_of_methodNamed Bd.named
  have hnm := (name_of_methodNamed Bd.named Bd.method).1
  have X0 : Stand p l e ({ frames := 0, cells := 0, slots := 0, locals := 0 } : Room) s m #[(.int i), (.int n), fv] below meth c s₁ [] 0 0 := Stand.of_body Bd
  have e0 : s₁.heap = h0 := by rw [← hh, Bd.state]; rfl
  have N0 := Fr.nil n0
  show Goes p e below (Fin s (Q_rpi Z i n fv h0 n0) ({ frames := 0, cells := 0, slots := 0, locals := 0 } : Room).cells ({ frames := 0, cells := 0, slots := 0, locals := 0 } : Room).slots) _
  refine Goes.via (S' := s₁.setTop (mkF m 0 #[.val (.int i), .val (.int n), .val fv] [])) (fun tz kz => castTop (ef_17 m i n fv hfv) kz) ?_
  refine Goes.via (S' := s₁.setTop (mkF m 17 #[.val (.int i), .val (.int n), .val fv] [(.int i)])) (fun tz kz => ?_) ?_
  · show Steps p.tables e below (s₁.setTop (mkF m 0 #[.val (.int i), .val (.int n), .val fv] [])) _
    refine XS.iloadN X0.here hx rfl (hb hby d17_0) rfl ?_
    refine XS.ifNo X0.here hx rfl (hb hby d17_1) rfl ((if0 _ _).trans (flt q1).1) ?_
    refine XS.iloadN X0.here hx rfl (hb hby d17_4) rfl ?_
    refine XS.iloadN X0.here hx rfl (hb hby d17_5) rfl ?_
    show Steps p.tables e below (s₁.setTop (mkF m 6 #[.val (.int i), .val (.int n), .val fv] [(.int n), (.int i)])) _
    refine XS.icmpYes X0.here hx rfl (pc0 := 6) (pc' := 16) rfl (hb hby d17_6) rfl (tlt q2).1 (by decide) (by decide) ?_
    refine XS.iloadN X0.here hx rfl (hb hby d17_16) rfl ?_
    exact kz
  exact Goes.retI X0 hx Bd.notSynchronized Bd.returns (hb hby d17_17) (Nat.le_of_ble_eq_true rfl) (Nat.le_of_ble_eq_true rfl) ⟨rfl, N0, e0⟩
theorem d16_0 : decode jdk_42_method_155_code 0 = .ok (.iload_n 0, 1) := by decide +kernel
theorem d16_1 : decode jdk_42_method_155_code 1 = .ok (.iload_n 1, 1) := by decide +kernel
theorem d16_2 : decode jdk_42_method_155_code 2 = .ok (.getstatic 1053, 3) := by decide +kernel
theorem d16_5 : decode jdk_42_method_155_code 5 = .ok (.invokestatic 1059, 3) := by decide +kernel
theorem d16_8 : decode jdk_42_method_155_code 8 = .ok (.pop, 1) := by decide +kernel
theorem d16_9 : decode jdk_42_method_155_code 9 = .ok (.return_, 1) := by decide +kernel
theorem pn_16 : plainName "java/lang/String" = true := by first | (simp [plainName, overriddenIn]; done) | decide +kernel
theorem ef_16 (m : MethodId) (x0 : Int32) (x1 : Int32) : entryFrame m #[(.int x0), (.int x1)] 2 = mkF m 0 #[.val (.int x0), .val (.int x1)] [] := by first | (simp [entryFrame, mkF, argsToLocals, Value.category]; done) | rfl
def Q_rci (Z : State) (i : Int32) (n : Int32) (fv : Value) (h0 : Heap) (n0 : Nat) : Option Value → Heap → List Loc → Prop := fun v h L => v = none ∧ Fr n0 L ∧ h = h0
set_option maxRecDepth 65536 in
set_option maxHeartbeats 40000000 in
theorem rci (l : Launch) (Z : State) (a0 : Array Value) (hw : ∀ d ∈ tables_1, d.before a0 Z = true) (ws : List Jvm.Cond) (i : Int32) (n : Int32) (fv : Value) (h0 : Heap) (n0 : Nat) (Z0 : n0 ≤ h0.size) (SF : Sta Z Z.heap "jdk/internal/util/Preconditions" "SIOOBE_FORMATTER" "Ljava/util/function/BiFunction;" fv) (hfv : fv.isRef = true) (O0 : Old Z n0 h0) (q1 : ¬ i < (0 : Int32)) (q2 : i < n) :
    own_M l Z (⟨"java/lang/String", "checkIndex", "(II)V"⟩ : MethodName) (Jvm.Cond.code (⟨"java/lang/String", "checkIndex", "(II)V"⟩ : MethodName) jdk_42_method_155_code 2 none) ws ({ frames := 1, cells := 0, slots := 0, locals := 16 } : Room) #[(.int i), (.int n)] h0 (Q_rci Z i n fv h0 n0) := by
  refine MetFree.of_bodySF (plainFor_of_name pn_16) hisR ?_
  intro p e s m args below meth c s₁ Bd hml0 hP hK
  obtain ⟨rfl, hZ, hh⟩ := hP
  have hx := Bd.exec
  have hby := Bd.bytes
  have hml : c.maxLocals = 2 := hml0
  have hown : s.vm.findClass "java/lang/String" = some m.cls := findClass_of_methodNamed Bd.named
  have hnm := (name_of_methodNamed Bd.named Bd.method).1
  have X0 : Stand p l e ({ frames := 1, cells := 0, slots := 0, locals := 16 } : Room) s m #[(.int i), (.int n)] below meth c s₁ [] 0 0 := Stand.of_body Bd
  have e0 : s₁.heap = h0 := by rw [← hh, Bd.state]; rfl
  have N0 := Fr.nil n0
  show Goes p e below (Fin s (Q_rci Z i n fv h0 n0) ({ frames := 1, cells := 0, slots := 0, locals := 16 } : Room).cells ({ frames := 1, cells := 0, slots := 0, locals := 16 } : Room).slots) _
  refine Goes.via (S' := s₁.setTop (mkF m 0 #[.val (.int i), .val (.int n)] [])) (fun tz kz => castTop (ef_16 m i n ) kz) ?_
  refine Goes.via (S' := s₁.setTop (mkF m 2 #[.val (.int i), .val (.int n)] [(.int n), (.int i)])) (fun tz kz => ?_) ?_
  · show Steps p.tables e below (s₁.setTop (mkF m 0 #[.val (.int i), .val (.int n)] [])) _
    refine XS.iloadN X0.here hx rfl (hb hby d16_0) rfl ?_
    refine XS.iloadN X0.here hx rfl (hb hby d16_1) rfl ?_
    exact kz
  obtain ⟨T1, X1, e1, st1⟩ := getS2 X0 hx hZ hown (host := "") (Or.inl (w_ hw 80 rfl)) Via.refl e0 (SF.ext O0.2) (g := (mkF m 2 #[.val (.int i), .val (.int n)] [(.int n), (.int i)])) rfl (hb hby d16_2)
  refine Goes.via (S' := T1.setTop (mkF m 5 #[.val (.int i), .val (.int n)] [fv, (.int n), (.int i)])) st1 ?_
  obtain ⟨_, _, ⟨T2, L2, k2, n2⟩, -, X2, ⟨Lc2, hQ2, l2, y2, z2⟩, st2⟩ := Jvm.LawKit.callS X1 hx (y := (⟨"jdk/internal/util/Preconditions", "checkIndex", "(IILjava/util/function/BiFunction;)I"⟩ : MethodName)) hown (mvT hZ (w_ hw 82 rfl)) (mvT hZ (w_ hw 83 rfl)) (mvT hZ (w_ hw 81 rfl)) (mvT hZ (w_ hw 84 rfl)) (by decide) (backOf (W := 0) (rpi l Z a0 hw [] i n fv h0 n0 Z0 hfv q1 q2) hZ (w_ hw 84 rfl) (w_ hw 81 rfl) (by decide) (by decide)) (g := (mkF m 5 #[.val (.int i), .val (.int n)] [fv, (.int n), (.int i)])) rfl (by rw [hml]; rfl) (argsL := [(.int i), (.int n), fv]) (rest := []) (lenOf pd_9 rfl) rfl (by show 2 * 0 + _ ≤ _; exact Nat.le_of_eq rfl) (hb hby d16_5) (fun _ _ => ⟨rfl, e1, (by decide : 0 + 0 ≤ _), (by decide : 0 + 0 ≤ _)⟩)
  dsimp only [Pt.U, Pt.locs, Pt.cells, Pt.slots] at X2 l2 y2 z2 st2 hQ2
  subst l2 y2 z2
  obtain ⟨rfl, N2, e2⟩ := hQ2
  have Nf2 := Fr.app N0 N2
  refine Goes.via (S' := T2.setTop (mkF m 8 #[.val (.int i), .val (.int n)] [(.int i)])) (st2) ?_
  refine Goes.via (S' := T2.setTop (mkF m 9 #[.val (.int i), .val (.int n)] [])) (fun tz kz => ?_) ?_
  · show Steps p.tables e below (T2.setTop (mkF m 8 #[.val (.int i), .val (.int n)] [(.int i)])) _
    refine XS.pop X2.here hx rfl (hb hby d16_8) rfl rfl ?_
    exact kz
  exact Goes.retV X2 hx Bd.notSynchronized Bd.returns (hb hby d16_9) (Nat.le_of_ble_eq_true rfl) (Nat.le_of_ble_eq_true rfl) ⟨rfl, Nf2, e2⟩
theorem d15_0 : decode jdk_43_method_2_code 0 = .ok (.iload_n 1, 1) := by decide +kernel
theorem d15_1 : decode jdk_43_method_2_code 1 = .ok (.aload_n 0, 1) := by decide +kernel
theorem d15_2 : decode jdk_43_method_2_code 2 = .ok (.arraylength, 1) := by decide +kernel
theorem d15_3 : decode jdk_43_method_2_code 3 = .ok (.invokestatic 9, 3) := by decide +kernel
theorem d15_6 : decode jdk_43_method_2_code 6 = .ok (.aload_n 0, 1) := by decide +kernel
theorem d15_7 : decode jdk_43_method_2_code 7 = .ok (.iload_n 1, 1) := by decide +kernel
theorem d15_8 : decode jdk_43_method_2_code 8 = .ok (.baload, 1) := by decide +kernel
theorem d15_9 : decode jdk_43_method_2_code 9 = .ok (.sipush 255, 3) := by decide +kernel
theorem d15_12 : decode jdk_43_method_2_code 12 = .ok (.iand, 1) := by decide +kernel
theorem d15_13 : decode jdk_43_method_2_code 13 = .ok (.i2c, 1) := by decide +kernel
theorem d15_14 : decode jdk_43_method_2_code 14 = .ok (.ireturn, 1) := by decide +kernel
theorem pn_15 : plainName "java/lang/StringLatin1" = true := by first | (simp [plainName, overriddenIn]; done) | decide +kernel
theorem ef_15 (m : MethodId) (x0 : Addr) (x1 : Int32) : entryFrame m #[(.ref x0), (.int x1)] 2 = mkF m 0 #[.val (.ref x0), .val (.int x1)] [] := by first | (simp [entryFrame, mkF, argsToLocals, Value.category]; done) | rfl
def Q_rlc (Z : State) (b : Addr) (i : Int32) (k : ClassId) (n x : Int32) (fv : Value) (vs : List Value) (h0 : Heap) (n0 : Nat) : Option Value → Heap → List Loc → Prop := fun v h L => v = some (.int x) ∧ Fr n0 L ∧ h = h0
set_option maxRecDepth 65536 in
set_option maxHeartbeats 40000000 in
theorem rlc (l : Launch) (Z : State) (a0 : Array Value) (hw : ∀ d ∈ tables_1, d.before a0 Z = true) (ws : List Jvm.Cond) (b : Addr) (i : Int32) (k : ClassId) (n x : Int32) (fv : Value) (vs : List Value) (h0 : Heap) (n0 : Nat) (Z0 : n0 ≤ h0.size) (SF : Sta Z Z.heap "jdk/internal/util/Preconditions" "SIOOBE_FORMATTER" "Ljava/util/function/BiFunction;" fv) (hfv : fv.isRef = true) (O0 : Old Z n0 h0) (BV : Arv Z h0 b k .byte n vs (.int 0)) (zx : nar .char x = x) (q : ¬ i < (0 : Int32) ∧ i < n) (g : vs.getD i.toNatClampNeg (.int 0) = .int (own_by x)) (sx : ¬ (255 : Int32) < x) :
    own_M l Z (⟨"java/lang/StringLatin1", "charAt", "([BI)C"⟩ : MethodName) (Jvm.Cond.code (⟨"java/lang/StringLatin1", "charAt", "([BI)C"⟩ : MethodName) jdk_43_method_2_code 2 (some .char)) ws ({ frames := 2, cells := 0, slots := 0, locals := 32 } : Room) #[(.ref b), (.int i)] h0 (Q_rlc Z b i k n x fv vs h0 n0) := by
  refine MetFree.of_bodySF (plainFor_of_name pn_15) hisR ?_
  intro p e s m args below meth c s₁ Bd hml0 hP hK
  obtain ⟨rfl, hZ, hh⟩ := hP
  have hx := Bd.exec
  have hby := Bd.bytes
  have hml : c.maxLocals = 2 := hml0
  have hown : s.vm.findClass "java/lang/StringLatin1" = some m.cls := findClass_of_methodNamed Bd.named
  have hnm := (name_of_methodNamed Bd.named Bd.method).1
  have X0 : Stand p l e ({ frames := 2, cells := 0, slots := 0, locals := 32 } : Room) s m #[(.ref b), (.int i)] below meth c s₁ [] 0 0 := Stand.of_body Bd
  have e0 : s₁.heap = h0 := by rw [← hh, Bd.state]; rfl
  have N0 := Fr.nil n0
  show Goes p e below (Fin s (Q_rlc Z b i k n x fv vs h0 n0) ({ frames := 2, cells := 0, slots := 0, locals := 32 } : Room).cells ({ frames := 2, cells := 0, slots := 0, locals := 32 } : Room).slots) _
  refine Goes.via (S' := s₁.setTop (mkF m 0 #[.val (.ref b), .val (.int i)] [])) (fun tz kz => castTop (ef_15 m b i ) kz) ?_
  refine Goes.via (S' := s₁.setTop (mkF m 2 #[.val (.ref b), .val (.int i)] [(.ref b), (.int i)])) (fun tz kz => ?_) ?_
  · show Steps p.tables e below (s₁.setTop (mkF m 0 #[.val (.ref b), .val (.int i)] [])) _
    refine XS.iloadN X0.here hx rfl (hb hby d15_0) rfl ?_
    refine XS.aloadN X0.here hx rfl (hb hby d15_1) rfl rfl ?_
    exact kz
  obtain ⟨cl1, Ar1, q1, Sz1, Nn1, Hs1, G1⟩ := (id BV)
  refine Goes.via (S' := s₁.setTop (mkF m 3 #[.val (.ref b), .val (.int i)] [(.int n), (.int i)])) (fun tz kz => ?_) ?_
  · show Steps p.tables e below (s₁.setTop (mkF m 2 #[.val (.ref b), .val (.int i)] [(.ref b), (.int i)])) _
    refine X0.arraylength hx (by rw [e0]; exact Ar1.1) (State.isArrayOf_alike hZ.alike Ar1.2.1) (g := (mkF m 2 #[.val (.ref b), .val (.int i)] [(.ref b), (.int i)])) rfl rfl (hb hby d15_2) _ ?_
    rw [len_of Sz1 Nn1]
    exact kz
  obtain ⟨_, _, ⟨T2, L2, k2, n2⟩, -, X2, ⟨Lc2, hQ2, l2, y2, z2⟩, st2⟩ := Jvm.LawKit.callS X0 hx (y := (⟨"java/lang/String", "checkIndex", "(II)V"⟩ : MethodName)) hown (mvT hZ (w_ hw 77 rfl)) (mvT hZ (w_ hw 78 rfl)) (mvT hZ (w_ hw 4 rfl)) (mvT hZ (w_ hw 79 rfl)) (by decide) (backOf (W := 0) (rci l Z a0 hw [] i n fv h0 n0 Z0 SF hfv O0 q.1 q.2) hZ (w_ hw 79 rfl) (w_ hw 4 rfl) (by decide) (by decide)) (g := (mkF m 3 #[.val (.ref b), .val (.int i)] [(.int n), (.int i)])) rfl (by rw [hml]; rfl) (argsL := [(.int i), (.int n)]) (rest := []) (lenOf pd_10 rfl) rfl (by show 2 * 0 + _ ≤ _; exact Nat.le_of_eq rfl) (hb hby d15_3) (fun _ _ => ⟨rfl, e0, (by decide : 0 + 0 ≤ _), (by decide : 0 + 0 ≤ _)⟩)
  dsimp only [Pt.U, Pt.locs, Pt.cells, Pt.slots] at X2 l2 y2 z2 st2 hQ2
  subst l2 y2 z2
  obtain ⟨rfl, N2, e2⟩ := hQ2
  have Nf2 := Fr.app N0 N2
  refine Goes.via (S' := T2.setTop (mkF m 6 #[.val (.ref b), .val (.int i)] [])) (st2) ?_
  refine Goes.via (S' := T2.setTop (mkF m 8 #[.val (.ref b), .val (.int i)] [(.int i), (.ref b)])) (fun tz kz => ?_) ?_
  · show Steps p.tables e below (T2.setTop (mkF m 6 #[.val (.ref b), .val (.int i)] [])) _
    refine XS.aloadN X2.here hx rfl (hb hby d15_6) rfl rfl ?_
    refine XS.iloadN X2.here hx rfl (hb hby d15_7) rfl ?_
    exact kz
  obtain ⟨cl3, Ar3, q3, Sz3, Nn3, Hs3, G3⟩ := (id BV)
  refine Goes.via (S' := T2.setTop (mkF m 14 #[.val (.ref b), .val (.int i)] [(.int (((own_by x) &&& (255 : Int32)).toUInt32.toUInt16.toUInt32.toInt32))])) (fun tz kz => ?_) ?_
  · show Steps p.tables e below (T2.setTop (mkF m 8 #[.val (.ref b), .val (.int i)] [(.int i), (.ref b)])) _
    refine X2.baloadBytes hx (j := i) (v := (.int (own_by x))) (by rw [e2]; exact Ar3.1) (State.isArrayOf_alike hZ.alike Ar3.2.1) Ar3.2.2 (inb_of Sz3 q) (Has.at Hs3 (inb_of Sz3 q) g) (g := (mkF m 8 #[.val (.ref b), .val (.int i)] [(.int i), (.ref b)])) rfl rfl (hb hby d15_8) _ ?_
    refine XS.sipush X2.here hx rfl (hb hby d15_9) ?_
    refine XS.iand X2.here hx rfl (hb hby d15_12) rfl ?_
    refine XS.i2c X2.here hx rfl (hb hby d15_13) rfl ?_
    exact kz
  exact Goes.retN X2 hx Bd.notSynchronized (t := .char) Bd.returns (by simp) (hb hby d15_14) (Nat.le_of_ble_eq_true rfl) (Nat.le_of_ble_eq_true rfl) ⟨congrArg (fun z => some (Value.int z)) (own_lc zx sx), Nf2, e2⟩
theorem d13_0 : decode jdk_42_method_56_code 0 = .ok (.aload_n 0, 1) := by decide +kernel
theorem d13_1 : decode jdk_42_method_56_code 1 = .ok (.invokevirtual 492, 3) := by decide +kernel
theorem d13_4 : decode jdk_42_method_56_code 4 = .ok (.ifCond .eq 12, 3) := by decide +kernel
theorem d13_7 : decode jdk_42_method_56_code 7 = .ok (.aload_n 0, 1) := by decide +kernel
theorem d13_8 : decode jdk_42_method_56_code 8 = .ok (.getfield 9, 3) := by decide +kernel
theorem d13_11 : decode jdk_42_method_56_code 11 = .ok (.iload_n 1, 1) := by decide +kernel
theorem d13_12 : decode jdk_42_method_56_code 12 = .ok (.invokestatic 495, 3) := by decide +kernel
theorem d13_15 : decode jdk_42_method_56_code 15 = .ok (.ireturn, 1) := by decide +kernel
theorem d13_16 : decode jdk_42_method_56_code 16 = .ok (.aload_n 0, 1) := by decide +kernel
theorem d13_17 : decode jdk_42_method_56_code 17 = .ok (.getfield 9, 3) := by decide +kernel
theorem d13_20 : decode jdk_42_method_56_code 20 = .ok (.iload_n 1, 1) := by decide +kernel
theorem d13_21 : decode jdk_42_method_56_code 21 = .ok (.invokestatic 498, 3) := by decide +kernel
theorem d13_24 : decode jdk_42_method_56_code 24 = .ok (.ireturn, 1) := by decide +kernel
theorem pn_13 : plainName "java/lang/String" = true := by first | (simp [plainName, overriddenIn]; done) | decide +kernel
theorem ef_13 (m : MethodId) (x0 : Addr) (x1 : Int32) : entryFrame m #[(.ref x0), (.int x1)] 2 = mkF m 0 #[.val (.ref x0), .val (.int x1)] [] := by first | (simp [entryFrame, mkF, argsToLocals, Value.category]; done) | rfl
def Q_rca_L (Z : State) (a1 : Addr) (i : Int32) (b : Addr) (k : ClassId) (cs n x : Int32) (fv : Value) (vs : List Value) (h0 : Heap) (n0 : Nat) : Option Value → Heap → List Loc → Prop := fun v h L => v = some (.int x) ∧ Fr n0 L ∧ h = h0
set_option maxRecDepth 65536 in
set_option maxHeartbeats 40000000 in
theorem rca_L (l : Launch) (Z : State) (a0 : Array Value) (hw : ∀ d ∈ tables_1, d.before a0 Z = true) (ws : List Jvm.Cond) (a1 : Addr) (i : Int32) (b : Addr) (k : ClassId) (cs n x : Int32) (fv : Value) (vs : List Value) (h0 : Heap) (n0 : Nat) (Z0 : n0 ≤ h0.size) (SC : Sta Z Z.heap "java/lang/String" "COMPACT_STRINGS" "Z" (.int cs)) (hcs : ¬ cs = (0 : Int32)) (O0 : Old Z n0 h0) (SF : Sta Z Z.heap "jdk/internal/util/Preconditions" "SIOOBE_FORMATTER" "Ljava/util/function/BiFunction;" fv) (hfv : fv.isRef = true) (S : own_Str Z h0 a1 b k n vs) (zx : nar .char x = x) (q : ¬ i < (0 : Int32) ∧ i < n) (g : vs.getD i.toNatClampNeg (.int 0) = .int (own_by x)) (sx : ¬ (255 : Int32) < x) :
    own_M l Z (⟨"java/lang/String", "charAt", "(I)C"⟩ : MethodName) (Jvm.Cond.code (⟨"java/lang/String", "charAt", "(I)C"⟩ : MethodName) jdk_42_method_56_code 2 (some .char)) ws ({ frames := 3, cells := 0, slots := 0, locals := 50 } : Room) #[(.ref a1), (.int i)] h0 (Q_rca_L Z a1 i b k cs n x fv vs h0 n0) := by
  refine MetFree.of_bodySF (plainFor_of_name pn_13) hisR ?_
  intro p e s m args below meth c s₁ Bd hml0 hP hK
  obtain ⟨rfl, hZ, hh⟩ := hP
  have hx := Bd.exec
  have hby := Bd.bytes
  have hml : c.maxLocals = 2 := hml0
  have hown : s.vm.findClass "java/lang/String" = some m.cls := findClass_of_methodNamed Bd.named
  have hnm := (name_of_methodNamed Bd.named Bd.method).1
  have X0 : Stand p l e ({ frames := 3, cells := 0, slots := 0, locals := 50 } : Room) s m #[(.ref a1), (.int i)] below meth c s₁ [] 0 0 := Stand.of_body Bd
  have e0 : s₁.heap = h0 := by rw [← hh, Bd.state]; rfl
  have N0 := Fr.nil n0
  show Goes p e below (Fin s (Q_rca_L Z a1 i b k cs n x fv vs h0 n0) ({ frames := 3, cells := 0, slots := 0, locals := 50 } : Room).cells ({ frames := 3, cells := 0, slots := 0, locals := 50 } : Room).slots) _
  refine Goes.via (S' := s₁.setTop (mkF m 0 #[.val (.ref a1), .val (.int i)] [])) (fun tz kz => castTop (ef_13 m a1 i ) kz) ?_
  refine Goes.via (S' := s₁.setTop (mkF m 1 #[.val (.ref a1), .val (.int i)] [(.ref a1)])) (fun tz kz => ?_) ?_
  · show Steps p.tables e below (s₁.setTop (mkF m 0 #[.val (.ref a1), .val (.int i)] [])) _
    refine XS.aloadN X0.here hx rfl (hb hby d13_0) rfl rfl ?_
    exact kz
  obtain ⟨cq1, kq1, q1a, q1b, q1c⟩ := isOf hZ e0 S.1
  obtain ⟨_, _, ⟨T1, L1, k1, n1⟩, -, X1, ⟨Lc1, hQ1, l1, y1, z1⟩, st1⟩ := X0.virtualBack hx (y := (⟨"java/lang/String", "isLatin1", "()Z"⟩ : MethodName)) (z := (⟨"java/lang/String", "isLatin1", "()Z"⟩ : MethodName)) hown (mvT hZ (w_ hw 68 rfl)) (mvT hZ (w_ hw 69 rfl)) (notFace_of_selects (args := #[]) (mvT hZ (w_ hw 71 rfl))) (mvT hZ (w_ hw 71 rfl)) (mvT hZ (w_ hw 70 rfl)) (by decide) (backOf (W := 0) (ril_0 l Z a0 hw [] a1 cs h0 n0 Z0 SC hcs O0 S.2.1) hZ (w_ hw 72 rfl) (w_ hw 4 rfl) (by decide) (by decide)) q1a q1c (g := (mkF m 1 #[.val (.ref a1), .val (.int i)] [(.ref a1)])) rfl (by rw [hml]; rfl) (Steps.refl _) (argsL := []) (rest := []) (lenOf pd_11 rfl) rfl (by show 2 * 0 + _ ≤ _; exact Nat.le_of_eq rfl) (hb hby d13_1) (fun _ _ => ⟨rfl, e0, (by decide : 0 + 0 ≤ _), (by decide : 0 + 0 ≤ _)⟩)
  dsimp only [Pt.U, Pt.locs, Pt.cells, Pt.slots] at X1 l1 y1 z1 st1 hQ1
  subst l1 y1 z1
  obtain ⟨rfl, N1, e1⟩ := hQ1
  have Nf1 := Fr.app N0 N1
  refine Goes.via (S' := T1.setTop (mkF m 4 #[.val (.ref a1), .val (.int i)] [(.int (1 : Int32))])) (fun _ kz => st1.trans kz) ?_
  refine Goes.via (S' := T1.setTop (mkF m 8 #[.val (.ref a1), .val (.int i)] [(.ref a1)])) (fun tz kz => ?_) ?_
  · show Steps p.tables e below (T1.setTop (mkF m 4 #[.val (.ref a1), .val (.int i)] [(.int (1 : Int32))])) _
    refine XS.ifNo X1.here hx rfl (hb hby d13_4) rfl ((if0 _ _).trans (feq (by first | decide | rfl)).1) ?_
    refine XS.aloadN X1.here hx rfl (hb hby d13_7) rfl rfl ?_
    exact kz
  obtain ⟨T2, X2, e2, st2⟩ := getF X1 hx hZ hown (host := "") (Or.inl (w_ hw 21 rfl)) Via.refl e1 S.2.2.1 (g := (mkF m 8 #[.val (.ref a1), .val (.int i)] [(.ref a1)])) rfl rfl (hb hby d13_8)
  refine Goes.via (S' := T2.setTop (mkF m 11 #[.val (.ref a1), .val (.int i)] [(.ref b)])) st2 ?_
  refine Goes.via (S' := T2.setTop (mkF m 12 #[.val (.ref a1), .val (.int i)] [(.int i), (.ref b)])) (fun tz kz => ?_) ?_
  · show Steps p.tables e below (T2.setTop (mkF m 11 #[.val (.ref a1), .val (.int i)] [(.ref b)])) _
    refine XS.iloadN X2.here hx rfl (hb hby d13_11) rfl ?_
    exact kz
  obtain ⟨_, _, ⟨T3, L3, k3, n3⟩, -, X3, ⟨Lc3, hQ3, l3, y3, z3⟩, st3⟩ := Jvm.LawKit.callS X2 hx (y := (⟨"java/lang/StringLatin1", "charAt", "([BI)C"⟩ : MethodName)) hown (mvT hZ (w_ hw 73 rfl)) (mvT hZ (w_ hw 74 rfl)) (mvT hZ (w_ hw 75 rfl)) (mvT hZ (w_ hw 76 rfl)) (by decide) (backOf (W := 0) (rlc l Z a0 hw [] b i k n x fv vs h0 n0 Z0 SF hfv O0 S.2.2.2 zx q g sx) hZ (w_ hw 76 rfl) (w_ hw 75 rfl) (by decide) (by decide)) (g := (mkF m 12 #[.val (.ref a1), .val (.int i)] [(.int i), (.ref b)])) rfl (by rw [hml]; rfl) (argsL := [(.ref b), (.int i)]) (rest := []) (lenOf pd_6 rfl) rfl (by show 2 * 0 + _ ≤ _; exact Nat.le_of_eq rfl) (hb hby d13_12) (fun _ _ => ⟨rfl, e2, (by decide : 0 + 0 ≤ _), (by decide : 0 + 0 ≤ _)⟩)
  dsimp only [Pt.U, Pt.locs, Pt.cells, Pt.slots] at X3 l3 y3 z3 st3 hQ3
  subst l3 y3 z3
  obtain ⟨rfl, N3, e3⟩ := hQ3
  have Nf3 := Fr.app Nf1 N3
  refine Goes.via (S' := T3.setTop (mkF m 15 #[.val (.ref a1), .val (.int i)] [(.int x)])) (st3) ?_
  exact Goes.retN X3 hx Bd.notSynchronized (t := .char) Bd.returns (by simp) (hb hby d13_15) (Nat.le_of_ble_eq_true rfl) (Nat.le_of_ble_eq_true rfl) ⟨congrArg (fun z => some (Value.int z)) zx, Nf3, e3⟩
theorem d32_0 : decode jdk_52_method_6_code 0 = .ok (.aload_n 0, 1) := by decide +kernel
theorem d32_1 : decode jdk_52_method_6_code 1 = .ok (.arraylength, 1) := by decide +kernel
theorem d32_2 : decode jdk_52_method_6_code 2 = .ok (.iconst 1, 1) := by decide +kernel
theorem d32_3 : decode jdk_52_method_6_code 3 = .ok (.ishr, 1) := by decide +kernel
theorem d32_4 : decode jdk_52_method_6_code 4 = .ok (.ireturn, 1) := by decide +kernel
theorem pn_32 : plainName "java/lang/StringUTF16" = true := by first | (simp [plainName, overriddenIn]; done) | decide +kernel
theorem ef_32 (m : MethodId) (x0 : Addr) : entryFrame m #[(.ref x0)] 1 = mkF m 0 #[.val (.ref x0)] [] := by first | (simp [entryFrame, mkF, argsToLocals, Value.category]; done) | rfl
def Q_rul (Z : State) (b : Addr) (k : ClassId) (n2 n : Int32) (vs : List Value) (h0 : Heap) (n0 : Nat) : Option Value → Heap → List Loc → Prop := fun v h L => v = some (.int n) ∧ Fr n0 L ∧ h = h0
set_option maxRecDepth 65536 in
set_option maxHeartbeats 40000000 in
theorem rul (l : Launch) (Z : State) (a0 : Array Value) (hw : ∀ d ∈ tables_1, d.before a0 Z = true) (ws : List Jvm.Cond) (b : Addr) (k : ClassId) (n2 n : Int32) (vs : List Value) (h0 : Heap) (n0 : Nat) (Z0 : n0 ≤ h0.size) (BV : Arv Z h0 b k .byte n2 vs (.int 0)) (hn : (n2 >>> ((1 : Int32) &&& 31)) = n) :
    own_M l Z (⟨"java/lang/StringUTF16", "length", "([B)I"⟩ : MethodName) (Jvm.Cond.code (⟨"java/lang/StringUTF16", "length", "([B)I"⟩ : MethodName) jdk_52_method_6_code 1 (some .int)) ws ({ frames := 0, cells := 0, slots := 0, locals := 0 } : Room) #[(.ref b)] h0 (Q_rul Z b k n2 n vs h0 n0) := by
  refine MetFree.of_bodySF (plainFor_of_name pn_32) hisR ?_
  intro p e s m args below meth c s₁ Bd hml0 hP hK
  obtain ⟨rfl, hZ, hh⟩ := hP
  have hx := Bd.exec
  have hby := Bd.bytes
  have hml : c.maxLocals = 1 := hml0
  have hown : s.vm.findClass "java/lang/StringUTF16" = some m.cls := findClass_of_methodNamed Bd.named
  have hnm := (name_of_methodNamed Bd.named Bd.method).1
  have X0 : Stand p l e ({ frames := 0, cells := 0, slots := 0, locals := 0 } : Room) s m #[(.ref b)] below meth c s₁ [] 0 0 := Stand.of_body Bd
  have e0 : s₁.heap = h0 := by rw [← hh, Bd.state]; rfl
  have N0 := Fr.nil n0
  show Goes p e below (Fin s (Q_rul Z b k n2 n vs h0 n0) ({ frames := 0, cells := 0, slots := 0, locals := 0 } : Room).cells ({ frames := 0, cells := 0, slots := 0, locals := 0 } : Room).slots) _
  refine Goes.via (S' := s₁.setTop (mkF m 0 #[.val (.ref b)] [])) (fun tz kz => castTop (ef_32 m b ) kz) ?_
  refine Goes.via (S' := s₁.setTop (mkF m 1 #[.val (.ref b)] [(.ref b)])) (fun tz kz => ?_) ?_
  · show Steps p.tables e below (s₁.setTop (mkF m 0 #[.val (.ref b)] [])) _
    refine XS.aloadN X0.here hx rfl (hb hby d32_0) rfl rfl ?_
    exact kz
  obtain ⟨cl1, Ar1, q1, Sz1, Nn1, Hs1, G1⟩ := (id BV)
  refine Goes.via (S' := s₁.setTop (mkF m 4 #[.val (.ref b)] [(.int (n2 >>> ((1 : Int32) &&& 31)))])) (fun tz kz => ?_) ?_
  · show Steps p.tables e below (s₁.setTop (mkF m 1 #[.val (.ref b)] [(.ref b)])) _
    refine X0.arraylength hx (by rw [e0]; exact Ar1.1) (State.isArrayOf_alike hZ.alike Ar1.2.1) (g := (mkF m 1 #[.val (.ref b)] [(.ref b)])) rfl rfl (hb hby d32_1) _ ?_
    rw [len_of Sz1 Nn1]
    refine XS.iconst X0.here hx rfl (hb hby d32_2) ?_
    refine XS.ishr X0.here hx rfl (hb hby d32_3) rfl ?_
    exact kz
  exact Goes.retI X0 hx Bd.notSynchronized Bd.returns (hb hby d32_4) (Nat.le_of_ble_eq_true rfl) (Nat.le_of_ble_eq_true rfl) ⟨congrArg (fun z => some (Value.int z)) hn, N0, e0⟩
theorem d31_0 : decode jdk_52_method_91_code 0 = .ok (.iload_n 0, 1) := by decide +kernel
theorem d31_1 : decode jdk_52_method_91_code 1 = .ok (.aload_n 1, 1) := by decide +kernel
theorem d31_2 : decode jdk_52_method_91_code 2 = .ok (.invokestatic 48, 3) := by decide +kernel
theorem d31_5 : decode jdk_52_method_91_code 5 = .ok (.invokestatic 414, 3) := by decide +kernel
theorem d31_8 : decode jdk_52_method_91_code 8 = .ok (.return_, 1) := by decide +kernel
theorem pn_31 : plainName "java/lang/StringUTF16" = true := by first | (simp [plainName, overriddenIn]; done) | decide +kernel
theorem ef_31 (m : MethodId) (x0 : Int32) (x1 : Addr) : entryFrame m #[(.int x0), (.ref x1)] 2 = mkF m 0 #[.val (.int x0), .val (.ref x1)] [] := by first | (simp [entryFrame, mkF, argsToLocals, Value.category]; done) | rfl
def Q_ruk (Z : State) (i : Int32) (b : Addr) (k : ClassId) (n2 n : Int32) (fv : Value) (vs : List Value) (h0 : Heap) (n0 : Nat) : Option Value → Heap → List Loc → Prop := fun v h L => v = none ∧ Fr n0 L ∧ h = h0
set_option maxRecDepth 65536 in
set_option maxHeartbeats 40000000 in
theorem ruk (l : Launch) (Z : State) (a0 : Array Value) (hw : ∀ d ∈ tables_1, d.before a0 Z = true) (ws : List Jvm.Cond) (i : Int32) (b : Addr) (k : ClassId) (n2 n : Int32) (fv : Value) (vs : List Value) (h0 : Heap) (n0 : Nat) (Z0 : n0 ≤ h0.size) (SF : Sta Z Z.heap "jdk/internal/util/Preconditions" "SIOOBE_FORMATTER" "Ljava/util/function/BiFunction;" fv) (hfv : fv.isRef = true) (O0 : Old Z n0 h0) (BV : Arv Z h0 b k .byte n2 vs (.int 0)) (hn : (n2 >>> ((1 : Int32) &&& 31)) = n) (q : ¬ i < (0 : Int32) ∧ i < n) :
    own_M l Z (⟨"java/lang/StringUTF16", "checkIndex", "(I[B)V"⟩ : MethodName) (Jvm.Cond.code (⟨"java/lang/StringUTF16", "checkIndex", "(I[B)V"⟩ : MethodName) jdk_52_method_91_code 2 none) ws ({ frames := 2, cells := 0, slots := 0, locals := 32 } : Room) #[(.int i), (.ref b)] h0 (Q_ruk Z i b k n2 n fv vs h0 n0) := by
  refine MetFree.of_bodySF (plainFor_of_name pn_31) hisR ?_
  intro p e s m args below meth c s₁ Bd hml0 hP hK
  obtain ⟨rfl, hZ, hh⟩ := hP
  have hx := Bd.exec
  have hby := Bd.bytes
  have hml : c.maxLocals = 2 := hml0
  have hown : s.vm.findClass "java/lang/StringUTF16" = some m.cls := findClass_of_methodNamed Bd.named
  have hnm := (name_of_methodNamed Bd.named Bd.method).1
  have X0 : Stand p l e ({ frames := 2, cells := 0, slots := 0, locals := 32 } : Room) s m #[(.int i), (.ref b)] below meth c s₁ [] 0 0 := Stand.of_body Bd
  have e0 : s₁.heap = h0 := by rw [← hh, Bd.state]; rfl
  have N0 := Fr.nil n0
  show Goes p e below (Fin s (Q_ruk Z i b k n2 n fv vs h0 n0) ({ frames := 2, cells := 0, slots := 0, locals := 32 } : Room).cells ({ frames := 2, cells := 0, slots := 0, locals := 32 } : Room).slots) _
  refine Goes.via (S' := s₁.setTop (mkF m 0 #[.val (.int i), .val (.ref b)] [])) (fun tz kz => castTop (ef_31 m i b ) kz) ?_
  refine Goes.via (S' := s₁.setTop (mkF m 2 #[.val (.int i), .val (.ref b)] [(.ref b), (.int i)])) (fun tz kz => ?_) ?_
  · show Steps p.tables e below (s₁.setTop (mkF m 0 #[.val (.int i), .val (.ref b)] [])) _
    refine XS.iloadN X0.here hx rfl (hb hby d31_0) rfl ?_
    refine XS.aloadN X0.here hx rfl (hb hby d31_1) rfl rfl ?_
    exact kz
  obtain ⟨_, _, ⟨T1, L1, k1, n1⟩, -, X1, ⟨Lc1, hQ1, l1, y1, z1⟩, st1⟩ := Jvm.LawKit.callS X0 hx (y := (⟨"java/lang/StringUTF16", "length", "([B)I"⟩ : MethodName)) hown (mvT hZ (w_ hw 137 rfl)) (mvT hZ (w_ hw 138 rfl)) (mvT hZ (w_ hw 50 rfl)) (mvT hZ (w_ hw 139 rfl)) (by decide) (backOf (W := 1) (rul l Z a0 hw [] b k n2 n vs h0 n0 Z0 BV hn) hZ (w_ hw 139 rfl) (w_ hw 50 rfl) (by decide) (by decide)) (g := (mkF m 2 #[.val (.int i), .val (.ref b)] [(.ref b), (.int i)])) rfl (by rw [hml]; rfl) (argsL := [(.ref b)]) (rest := [(.int i)]) (lenOf pd_12 rfl) rfl (by show 2 * 0 + _ ≤ _; exact Nat.le_of_eq rfl) (hb hby d31_2) (fun _ _ => ⟨rfl, e0, (by decide : 0 + 0 ≤ _), (by decide : 0 + 0 ≤ _)⟩)
  dsimp only [Pt.U, Pt.locs, Pt.cells, Pt.slots] at X1 l1 y1 z1 st1 hQ1
  subst l1 y1 z1
  obtain ⟨rfl, N1, e1⟩ := hQ1
  have Nf1 := Fr.app N0 N1
  refine Goes.via (S' := T1.setTop (mkF m 5 #[.val (.int i), .val (.ref b)] [(.int n), (.int i)])) (st1) ?_
  obtain ⟨_, _, ⟨T2, L2, k2, n2⟩, -, X2, ⟨Lc2, hQ2, l2, y2, z2⟩, st2⟩ := Jvm.LawKit.callS X1 hx (y := (⟨"java/lang/String", "checkIndex", "(II)V"⟩ : MethodName)) hown (mvT hZ (w_ hw 140 rfl)) (mvT hZ (w_ hw 78 rfl)) (mvT hZ (w_ hw 4 rfl)) (mvT hZ (w_ hw 79 rfl)) (by decide) (backOf (W := 0) (rci l Z a0 hw [] i n fv h0 n0 Z0 SF hfv O0 q.1 q.2) hZ (w_ hw 79 rfl) (w_ hw 4 rfl) (by decide) (by decide)) (g := (mkF m 5 #[.val (.int i), .val (.ref b)] [(.int n), (.int i)])) rfl (by rw [hml]; rfl) (argsL := [(.int i), (.int n)]) (rest := []) (lenOf pd_10 rfl) rfl (by show 2 * 0 + _ ≤ _; exact Nat.le_of_eq rfl) (hb hby d31_5) (fun _ _ => ⟨rfl, e1, (by decide : 0 + 0 ≤ _), (by decide : 0 + 0 ≤ _)⟩)
  dsimp only [Pt.U, Pt.locs, Pt.cells, Pt.slots] at X2 l2 y2 z2 st2 hQ2
  subst l2 y2 z2
  obtain ⟨rfl, N2, e2⟩ := hQ2
  have Nf2 := Fr.app Nf1 N2
  refine Goes.via (S' := T2.setTop (mkF m 8 #[.val (.int i), .val (.ref b)] [])) (st2) ?_
  exact Goes.retV X2 hx Bd.notSynchronized Bd.returns (hb hby d31_8) (Nat.le_of_ble_eq_true rfl) (Nat.le_of_ble_eq_true rfl) ⟨rfl, Nf2, e2⟩
theorem d30_0 : decode jdk_52_method_83_code 0 = .ok (.iload_n 1, 1) := by decide +kernel
theorem d30_1 : decode jdk_52_method_83_code 1 = .ok (.aload_n 0, 1) := by decide +kernel
theorem d30_2 : decode jdk_52_method_83_code 2 = .ok (.invokestatic 67, 3) := by decide +kernel
theorem d30_5 : decode jdk_52_method_83_code 5 = .ok (.aload_n 0, 1) := by decide +kernel
theorem d30_6 : decode jdk_52_method_83_code 6 = .ok (.iload_n 1, 1) := by decide +kernel
theorem d30_7 : decode jdk_52_method_83_code 7 = .ok (.invokestatic 71, 3) := by decide +kernel
theorem d30_10 : decode jdk_52_method_83_code 10 = .ok (.ireturn, 1) := by decide +kernel
theorem pn_30 : plainName "java/lang/StringUTF16" = true := by first | (simp [plainName, overriddenIn]; done) | decide +kernel
theorem ef_30 (m : MethodId) (x0 : Addr) (x1 : Int32) : entryFrame m #[(.ref x0), (.int x1)] 2 = mkF m 0 #[.val (.ref x0), .val (.int x1)] [] := by first | (simp [entryFrame, mkF, argsToLocals, Value.category]; done) | rfl
def Q_ruc (Z : State) (b : Addr) (i : Int32) (k : ClassId) (n2 n j0 j1 x : Int32) (fv : Value) (vs : List Value) (h0 : Heap) (n0 : Nat) : Option Value → Heap → List Loc → Prop := fun v h L => v = some (.int x) ∧ Fr n0 L ∧ h = h0
set_option maxRecDepth 65536 in
set_option maxHeartbeats 40000000 in
theorem ruc (l : Launch) (Z : State) (a0 : Array Value) (hw : ∀ d ∈ tables_1, d.before a0 Z = true) (ws : List Jvm.Cond) (b : Addr) (i : Int32) (k : ClassId) (n2 n j0 j1 x : Int32) (fv : Value) (vs : List Value) (h0 : Heap) (n0 : Nat) (Z0 : n0 ≤ h0.size) (SF : Sta Z Z.heap "jdk/internal/util/Preconditions" "SIOOBE_FORMATTER" "Ljava/util/function/BiFunction;" fv) (hfv : fv.isRef = true) (O0 : Old Z n0 h0) (SA : Sta Z Z.heap "java/lang/StringUTF16" "$assertionsDisabled" "Z" (.int (1 : Int32))) (SH : Sta Z Z.heap "java/lang/StringUTF16" "HI_BYTE_SHIFT" "I" (.int (0 : Int32))) (SL : Sta Z Z.heap "java/lang/StringUTF16" "LO_BYTE_SHIFT" "I" (.int (8 : Int32))) (BV : Arv Z h0 b k .byte n2 vs (.int 0)) (zx : nar .char x = x) (hn : (n2 >>> ((1 : Int32) &&& 31)) = n) (q : ¬ i < (0 : Int32) ∧ i < n) (hj0 : (i <<< ((1 : Int32) &&& 31)) = j0) (hj1 : (j0 + (1 : Int32)) = j1) (q0 : ¬ j0 < 0 ∧ j0 < n2) (q1 : ¬ j1 < 0 ∧ j1 < n2) (g0 : vs.getD j0.toNatClampNeg (.int 0) = .int (own_lo x)) (g1 : vs.getD j1.toNatClampNeg (.int 0) = .int (own_hi x)) :
    own_M l Z (⟨"java/lang/StringUTF16", "charAt", "([BI)C"⟩ : MethodName) (Jvm.Cond.code (⟨"java/lang/StringUTF16", "charAt", "([BI)C"⟩ : MethodName) jdk_52_method_83_code 2 (some .char)) ws ({ frames := 3, cells := 0, slots := 0, locals := 48 } : Room) #[(.ref b), (.int i)] h0 (Q_ruc Z b i k n2 n j0 j1 x fv vs h0 n0) := by
  refine MetFree.of_bodySF (plainFor_of_name pn_30) hisR ?_
  intro p e s m args below meth c s₁ Bd hml0 hP hK
  obtain ⟨rfl, hZ, hh⟩ := hP
  have hx := Bd.exec
  have hby := Bd.bytes
  have hml : c.maxLocals = 2 := hml0
  have hown : s.vm.findClass "java/lang/StringUTF16" = some m.cls := findClass_of_methodNamed Bd.named
  have hnm := (name_of_methodNamed Bd.named Bd.method).1
  have X0 : Stand p l e ({ frames := 3, cells := 0, slots := 0, locals := 48 } : Room) s m #[(.ref b), (.int i)] below meth c s₁ [] 0 0 := Stand.of_body Bd
  have e0 : s₁.heap = h0 := by rw [← hh, Bd.state]; rfl
  have N0 := Fr.nil n0
  show Goes p e below (Fin s (Q_ruc Z b i k n2 n j0 j1 x fv vs h0 n0) ({ frames := 3, cells := 0, slots := 0, locals := 48 } : Room).cells ({ frames := 3, cells := 0, slots := 0, locals := 48 } : Room).slots) _
  refine Goes.via (S' := s₁.setTop (mkF m 0 #[.val (.ref b), .val (.int i)] [])) (fun tz kz => castTop (ef_30 m b i ) kz) ?_
  refine Goes.via (S' := s₁.setTop (mkF m 2 #[.val (.ref b), .val (.int i)] [(.ref b), (.int i)])) (fun tz kz => ?_) ?_
  · show Steps p.tables e below (s₁.setTop (mkF m 0 #[.val (.ref b), .val (.int i)] [])) _
    refine XS.iloadN X0.here hx rfl (hb hby d30_0) rfl ?_
    refine XS.aloadN X0.here hx rfl (hb hby d30_1) rfl rfl ?_
    exact kz
  obtain ⟨_, _, ⟨T1, L1, k1, n1⟩, -, X1, ⟨Lc1, hQ1, l1, y1, z1⟩, st1⟩ := Jvm.LawKit.callS X0 hx (y := (⟨"java/lang/StringUTF16", "checkIndex", "(I[B)V"⟩ : MethodName)) hown (mvT hZ (w_ hw 134 rfl)) (mvT hZ (w_ hw 135 rfl)) (mvT hZ (w_ hw 50 rfl)) (mvT hZ (w_ hw 136 rfl)) (by decide) (backOf (W := 0) (ruk l Z a0 hw [] i b k n2 n fv vs h0 n0 Z0 SF hfv O0 BV hn q) hZ (w_ hw 136 rfl) (w_ hw 50 rfl) (by decide) (by decide)) (g := (mkF m 2 #[.val (.ref b), .val (.int i)] [(.ref b), (.int i)])) rfl (by rw [hml]; rfl) (argsL := [(.int i), (.ref b)]) (rest := []) (lenOf pd_13 rfl) rfl (by show 2 * 0 + _ ≤ _; exact Nat.le_of_eq rfl) (hb hby d30_2) (fun _ _ => ⟨rfl, e0, (by decide : 0 + 0 ≤ _), (by decide : 0 + 0 ≤ _)⟩)
  dsimp only [Pt.U, Pt.locs, Pt.cells, Pt.slots] at X1 l1 y1 z1 st1 hQ1
  subst l1 y1 z1
  obtain ⟨rfl, N1, e1⟩ := hQ1
  have Nf1 := Fr.app N0 N1
  refine Goes.via (S' := T1.setTop (mkF m 5 #[.val (.ref b), .val (.int i)] [])) (st1) ?_
  refine Goes.via (S' := T1.setTop (mkF m 7 #[.val (.ref b), .val (.int i)] [(.int i), (.ref b)])) (fun tz kz => ?_) ?_
  · show Steps p.tables e below (T1.setTop (mkF m 5 #[.val (.ref b), .val (.int i)] [])) _
    refine XS.aloadN X1.here hx rfl (hb hby d30_5) rfl rfl ?_
    refine XS.iloadN X1.here hx rfl (hb hby d30_6) rfl ?_
    exact kz
  obtain ⟨_, _, ⟨T2, L2, k2, n2⟩, -, X2, ⟨Lc2, hQ2, l2, y2, z2⟩, st2⟩ := Jvm.LawKit.callS X1 hx (y := (⟨"java/lang/StringUTF16", "getChar", "([BI)C"⟩ : MethodName)) hown (mvT hZ (w_ hw 128 rfl)) (mvT hZ (w_ hw 129 rfl)) (mvT hZ (w_ hw 50 rfl)) (mvT hZ (w_ hw 130 rfl)) (by decide) (backOf (W := 0) (rgc l Z a0 hw [] b i k n2 j0 j1 x vs h0 n0 Z0 SA SH SL O0 BV hj0 hj1 q0 q1 g0 g1 zx) hZ (w_ hw 130 rfl) (w_ hw 50 rfl) (by decide) (by decide)) (g := (mkF m 7 #[.val (.ref b), .val (.int i)] [(.int i), (.ref b)])) rfl (by rw [hml]; rfl) (argsL := [(.ref b), (.int i)]) (rest := []) (lenOf pd_6 rfl) rfl (by show 2 * 0 + _ ≤ _; exact Nat.le_of_eq rfl) (hb hby d30_7) (fun _ _ => ⟨rfl, e1, (by decide : 0 + 0 ≤ _), (by decide : 0 + 0 ≤ _)⟩)
  dsimp only [Pt.U, Pt.locs, Pt.cells, Pt.slots] at X2 l2 y2 z2 st2 hQ2
  subst l2 y2 z2
  obtain ⟨rfl, N2, e2⟩ := hQ2
  have Nf2 := Fr.app Nf1 N2
  refine Goes.via (S' := T2.setTop (mkF m 10 #[.val (.ref b), .val (.int i)] [(.int x)])) (st2) ?_
  exact Goes.retN X2 hx Bd.notSynchronized (t := .char) Bd.returns (by simp) (hb hby d30_10) (Nat.le_of_ble_eq_true rfl) (Nat.le_of_ble_eq_true rfl) ⟨congrArg (fun z => some (Value.int z)) zx, Nf2, e2⟩
def Q_rca_U (Z : State) (a1 : Addr) (i : Int32) (b : Addr) (k : ClassId) (cs : Int32) (n2 n j0 j1 x : Int32) (fv : Value) (vs : List Value) (h0 : Heap) (n0 : Nat) : Option Value → Heap → List Loc → Prop := fun v h L => v = some (.int x) ∧ Fr n0 L ∧ h = h0
set_option maxRecDepth 65536 in
set_option maxHeartbeats 40000000 in
theorem rca_U (l : Launch) (Z : State) (a0 : Array Value) (hw : ∀ d ∈ tables_1, d.before a0 Z = true) (ws : List Jvm.Cond) (a1 : Addr) (i : Int32) (b : Addr) (k : ClassId) (cs : Int32) (n2 n j0 j1 x : Int32) (fv : Value) (vs : List Value) (h0 : Heap) (n0 : Nat) (Z0 : n0 ≤ h0.size) (SC : Sta Z Z.heap "java/lang/String" "COMPACT_STRINGS" "Z" (.int cs)) (hcs : ¬ cs = (0 : Int32)) (O0 : Old Z n0 h0) (SF : Sta Z Z.heap "jdk/internal/util/Preconditions" "SIOOBE_FORMATTER" "Ljava/util/function/BiFunction;" fv) (hfv : fv.isRef = true) (SA : Sta Z Z.heap "java/lang/StringUTF16" "$assertionsDisabled" "Z" (.int (1 : Int32))) (SH : Sta Z Z.heap "java/lang/StringUTF16" "HI_BYTE_SHIFT" "I" (.int (0 : Int32))) (SL : Sta Z Z.heap "java/lang/StringUTF16" "LO_BYTE_SHIFT" "I" (.int (8 : Int32))) (S : own_StU Z h0 a1 b k n2 vs) (zx : nar .char x = x) (hn : (n2 >>> ((1 : Int32) &&& 31)) = n) (q : ¬ i < (0 : Int32) ∧ i < n) (hj0 : (i <<< ((1 : Int32) &&& 31)) = j0) (hj1 : (j0 + (1 : Int32)) = j1) (q0 : ¬ j0 < 0 ∧ j0 < n2) (q1 : ¬ j1 < 0 ∧ j1 < n2) (g0 : vs.getD j0.toNatClampNeg (.int 0) = .int (own_lo x)) (g1 : vs.getD j1.toNatClampNeg (.int 0) = .int (own_hi x)) :
    own_M l Z (⟨"java/lang/String", "charAt", "(I)C"⟩ : MethodName) (Jvm.Cond.code (⟨"java/lang/String", "charAt", "(I)C"⟩ : MethodName) jdk_42_method_56_code 2 (some .char)) ws ({ frames := 4, cells := 0, slots := 0, locals := 64 } : Room) #[(.ref a1), (.int i)] h0 (Q_rca_U Z a1 i b k cs n2 n j0 j1 x fv vs h0 n0) := by
  refine MetFree.of_bodySF (plainFor_of_name pn_13) hisR ?_
  intro p e s m args below meth c s₁ Bd hml0 hP hK
  obtain ⟨rfl, hZ, hh⟩ := hP
  have hx := Bd.exec
  have hby := Bd.bytes
  have hml : c.maxLocals = 2 := hml0
  have hown : s.vm.findClass "java/lang/String" = some m.cls := findClass_of_methodNamed Bd.named
  have hnm := (name_of_methodNamed Bd.named Bd.method).1
  have X0 : Stand p l e ({ frames := 4, cells := 0, slots := 0, locals := 64 } : Room) s m #[(.ref a1), (.int i)] below meth c s₁ [] 0 0 := Stand.of_body Bd
  have e0 : s₁.heap = h0 := by rw [← hh, Bd.state]; rfl
  have N0 := Fr.nil n0
  show Goes p e below (Fin s (Q_rca_U Z a1 i b k cs n2 n j0 j1 x fv vs h0 n0) ({ frames := 4, cells := 0, slots := 0, locals := 64 } : Room).cells ({ frames := 4, cells := 0, slots := 0, locals := 64 } : Room).slots) _
  refine Goes.via (S' := s₁.setTop (mkF m 0 #[.val (.ref a1), .val (.int i)] [])) (fun tz kz => castTop (ef_13 m a1 i ) kz) ?_
  refine Goes.via (S' := s₁.setTop (mkF m 1 #[.val (.ref a1), .val (.int i)] [(.ref a1)])) (fun tz kz => ?_) ?_
  · show Steps p.tables e below (s₁.setTop (mkF m 0 #[.val (.ref a1), .val (.int i)] [])) _
    refine XS.aloadN X0.here hx rfl (hb hby d13_0) rfl rfl ?_
    exact kz
  obtain ⟨cq1, kq1, q1a, q1b, q1c⟩ := isOf hZ e0 S.1
  obtain ⟨_, _, ⟨T1, L1, k1, n1⟩, -, X1, ⟨Lc1, hQ1, l1, y1, z1⟩, st1⟩ := X0.virtualBack hx (y := (⟨"java/lang/String", "isLatin1", "()Z"⟩ : MethodName)) (z := (⟨"java/lang/String", "isLatin1", "()Z"⟩ : MethodName)) hown (mvT hZ (w_ hw 68 rfl)) (mvT hZ (w_ hw 69 rfl)) (notFace_of_selects (args := #[]) (mvT hZ (w_ hw 71 rfl))) (mvT hZ (w_ hw 71 rfl)) (mvT hZ (w_ hw 70 rfl)) (by decide) (backOf (W := 0) (ril_1 l Z a0 hw [] a1 cs h0 n0 Z0 SC hcs O0 S.2.1) hZ (w_ hw 72 rfl) (w_ hw 4 rfl) (by decide) (by decide)) q1a q1c (g := (mkF m 1 #[.val (.ref a1), .val (.int i)] [(.ref a1)])) rfl (by rw [hml]; rfl) (Steps.refl _) (argsL := []) (rest := []) (lenOf pd_11 rfl) rfl (by show 2 * 0 + _ ≤ _; exact Nat.le_of_eq rfl) (hb hby d13_1) (fun _ _ => ⟨rfl, e0, (by decide : 0 + 0 ≤ _), (by decide : 0 + 0 ≤ _)⟩)
  dsimp only [Pt.U, Pt.locs, Pt.cells, Pt.slots] at X1 l1 y1 z1 st1 hQ1
  subst l1 y1 z1
  obtain ⟨rfl, N1, e1⟩ := hQ1
  have Nf1 := Fr.app N0 N1
  refine Goes.via (S' := T1.setTop (mkF m 4 #[.val (.ref a1), .val (.int i)] [(.int (0 : Int32))])) (fun _ kz => st1.trans kz) ?_
  refine Goes.via (S' := T1.setTop (mkF m 17 #[.val (.ref a1), .val (.int i)] [(.ref a1)])) (fun tz kz => ?_) ?_
  · show Steps p.tables e below (T1.setTop (mkF m 4 #[.val (.ref a1), .val (.int i)] [(.int (0 : Int32))])) _
    refine XS.ifYes X1.here hx rfl (pc0 := 4) (pc' := 16) rfl (hb hby d13_4) rfl ((if0 _ _).trans (teq (by first | decide | rfl)).1) (by decide) (by decide) ?_
    refine XS.aloadN X1.here hx rfl (hb hby d13_16) rfl rfl ?_
    exact kz
  obtain ⟨T2, X2, e2, st2⟩ := getF X1 hx hZ hown (host := "") (Or.inl (w_ hw 21 rfl)) Via.refl e1 S.2.2.1 (g := (mkF m 17 #[.val (.ref a1), .val (.int i)] [(.ref a1)])) rfl rfl (hb hby d13_17)
  refine Goes.via (S' := T2.setTop (mkF m 20 #[.val (.ref a1), .val (.int i)] [(.ref b)])) st2 ?_
  refine Goes.via (S' := T2.setTop (mkF m 21 #[.val (.ref a1), .val (.int i)] [(.int i), (.ref b)])) (fun tz kz => ?_) ?_
  · show Steps p.tables e below (T2.setTop (mkF m 20 #[.val (.ref a1), .val (.int i)] [(.ref b)])) _
    refine XS.iloadN X2.here hx rfl (hb hby d13_20) rfl ?_
    exact kz
  obtain ⟨_, _, ⟨T3, L3, k3, n3⟩, -, X3, ⟨Lc3, hQ3, l3, y3, z3⟩, st3⟩ := Jvm.LawKit.callS X2 hx (y := (⟨"java/lang/StringUTF16", "charAt", "([BI)C"⟩ : MethodName)) hown (mvT hZ (w_ hw 131 rfl)) (mvT hZ (w_ hw 132 rfl)) (mvT hZ (w_ hw 50 rfl)) (mvT hZ (w_ hw 133 rfl)) (by decide) (backOf (W := 0) (ruc l Z a0 hw [] b i k n2 n j0 j1 x fv vs h0 n0 Z0 SF hfv O0 SA SH SL S.2.2.2 zx hn q hj0 hj1 q0 q1 g0 g1) hZ (w_ hw 133 rfl) (w_ hw 50 rfl) (by decide) (by decide)) (g := (mkF m 21 #[.val (.ref a1), .val (.int i)] [(.int i), (.ref b)])) rfl (by rw [hml]; rfl) (argsL := [(.ref b), (.int i)]) (rest := []) (lenOf pd_6 rfl) rfl (by show 2 * 0 + _ ≤ _; exact Nat.le_of_eq rfl) (hb hby d13_21) (fun _ _ => ⟨rfl, e2, (by decide : 0 + 0 ≤ _), (by decide : 0 + 0 ≤ _)⟩)
  dsimp only [Pt.U, Pt.locs, Pt.cells, Pt.slots] at X3 l3 y3 z3 st3 hQ3
  subst l3 y3 z3
  obtain ⟨rfl, N3, e3⟩ := hQ3
  have Nf3 := Fr.app Nf1 N3
  refine Goes.via (S' := T3.setTop (mkF m 24 #[.val (.ref a1), .val (.int i)] [(.int x)])) (st3) ?_
  exact Goes.retN X3 hx Bd.notSynchronized (t := .char) Bd.returns (by simp) (hb hby d13_24) (Nat.le_of_ble_eq_true rfl) (Nat.le_of_ble_eq_true rfl) ⟨congrArg (fun z => some (Value.int z)) zx, Nf3, e3⟩
theorem own_i2bi {x k : Int32} (hc : nar .char x = x) (g : ¬ (255 : Int32) < x) (hk : 0 ≤ k.toInt ∧ k.toInt < 128) (q : k = x.toInt8.toInt32) : x = k := by
  have hr := own_ch hc
  have z255 : (255 : Int32).toInt = 255 := by decide
  rw [Int32.lt_iff_toInt_lt] at g
  have b := c_i2b x
  rw [← q] at b
  exact Int32.toInt_inj.mp (by omega)
def own_nf (x : Int32) : Prop := ¬ x < (0 : Int32) ∧ ((255 : Int32) < x ∨ (¬ (255 : Int32) < x ∧ ¬ (61 : Int32) = x.toInt8.toInt32 ∧ ¬ (43 : Int32) = x.toInt8.toInt32 ∧ ¬ (45 : Int32) = x.toInt8.toInt32 ∧ ¬ (64 : Int32) = x.toInt8.toInt32 ∧ ¬ (9 : Int32) = x.toInt8.toInt32 ∧ ¬ (13 : Int32) = x.toInt8.toInt32))
theorem own_nfi {x : Int32} (hc : nar .char x = x) (q0 : ¬ x = (61 : Int32)) (q1 : ¬ x = (43 : Int32)) (q2 : ¬ x = (45 : Int32)) (q3 : ¬ x = (64 : Int32)) (q4 : ¬ x = (9 : Int32)) (q5 : ¬ x = (13 : Int32)) : own_nf x := by
  have hr := own_ch hc
  have z0 : (0 : Int32).toInt = 0 := by decide
  have z255 : (255 : Int32).toInt = 255 := by decide
  refine ⟨fun q => ?_, ?_⟩
  · rw [Int32.lt_iff_toInt_lt] at q; omega
  by_cases g : (255 : Int32) < x
  · exact Or.inl g
  refine Or.inr ⟨g, fun q => q0 (own_i2bi hc g (by decide) q), fun q => q1 (own_i2bi hc g (by decide) q), fun q => q2 (own_i2bi hc g (by decide) q), fun q => q3 (own_i2bi hc g (by decide) q), fun q => q4 (own_i2bi hc g (by decide) q), fun q => q5 (own_i2bi hc g (by decide) q)⟩
theorem d21_0 : decode jdk_43_method_4_code 0 = .ok (.iload_n 0, 1) := by decide +kernel
theorem d21_1 : decode jdk_43_method_4_code 1 = .ok (.ifCond .lt 14, 3) := by decide +kernel
theorem d21_4 : decode jdk_43_method_4_code 4 = .ok (.iload_n 0, 1) := by decide +kernel
theorem d21_5 : decode jdk_43_method_4_code 5 = .ok (.sipush 255, 3) := by decide +kernel
theorem d21_8 : decode jdk_43_method_4_code 8 = .ok (.if_icmp .gt 7, 3) := by decide +kernel
theorem d21_11 : decode jdk_43_method_4_code 11 = .ok (.iconst 1, 1) := by decide +kernel
theorem d21_12 : decode jdk_43_method_4_code 12 = .ok (.goto 4, 3) := by decide +kernel
theorem d21_15 : decode jdk_43_method_4_code 15 = .ok (.iconst 0, 1) := by decide +kernel
theorem d21_16 : decode jdk_43_method_4_code 16 = .ok (.ireturn, 1) := by decide +kernel
theorem pn_21 : plainName "java/lang/StringLatin1" = true := by first | (simp [plainName, overriddenIn]; done) | decide +kernel
theorem ef_21 (m : MethodId) (x0 : Int32) : entryFrame m #[(.int x0)] 1 = mkF m 0 #[.val (.int x0)] [] := by first | (simp [entryFrame, mkF, argsToLocals, Value.category]; done) | rfl
def Q_rce_y (Z : State) (x : Int32)  (h0 : Heap) (n0 : Nat) : Option Value → Heap → List Loc → Prop := fun v h L => v = some (.int (1 : Int32)) ∧ Fr n0 L ∧ h = h0
set_option maxRecDepth 65536 in
set_option maxHeartbeats 40000000 in
theorem rce_y (l : Launch) (Z : State) (a0 : Array Value) (hw : ∀ d ∈ tables_1, d.before a0 Z = true) (ws : List Jvm.Cond) (x : Int32)  (h0 : Heap) (n0 : Nat) (Z0 : n0 ≤ h0.size) (q0 : ¬ x < (0 : Int32)) (q1 : ¬ (255 : Int32) < x) :
    own_M l Z (⟨"java/lang/StringLatin1", "canEncode", "(I)Z"⟩ : MethodName) (Jvm.Cond.code (⟨"java/lang/StringLatin1", "canEncode", "(I)Z"⟩ : MethodName) jdk_43_method_4_code 1 (some .boolean)) ws ({ frames := 0, cells := 0, slots := 0, locals := 0 } : Room) #[(.int x)] h0 (Q_rce_y Z x h0 n0) := by
  refine MetFree.of_bodySF (plainFor_of_name pn_21) hisR ?_
  intro p e s m args below meth c s₁ Bd hml0 hP hK
  obtain ⟨rfl, hZ, hh⟩ := hP
  have hx := Bd.exec
  have hby := Bd.bytes
  have hml : c.maxLocals = 1 := hml0
  have hown : s.vm.findClass "java/lang/StringLatin1" = some m.cls := findClass_of_methodNamed Bd.named
  have hnm := (name_of_methodNamed Bd.named Bd.method).1
  have X0 : Stand p l e ({ frames := 0, cells := 0, slots := 0, locals := 0 } : Room) s m #[(.int x)] below meth c s₁ [] 0 0 := Stand.of_body Bd
  have e0 : s₁.heap = h0 := by rw [← hh, Bd.state]; rfl
  have N0 := Fr.nil n0
  show Goes p e below (Fin s (Q_rce_y Z x h0 n0) ({ frames := 0, cells := 0, slots := 0, locals := 0 } : Room).cells ({ frames := 0, cells := 0, slots := 0, locals := 0 } : Room).slots) _
  refine Goes.via (S' := s₁.setTop (mkF m 0 #[.val (.int x)] [])) (fun tz kz => castTop (ef_21 m x ) kz) ?_
  refine Goes.via (S' := s₁.setTop (mkF m 16 #[.val (.int x)] [(.int (1 : Int32))])) (fun tz kz => ?_) ?_
  · show Steps p.tables e below (s₁.setTop (mkF m 0 #[.val (.int x)] [])) _
    refine XS.iloadN X0.here hx rfl (hb hby d21_0) rfl ?_
    refine XS.ifNo X0.here hx rfl (hb hby d21_1) rfl ((if0 _ _).trans (flt q0).1) ?_
    refine XS.iloadN X0.here hx rfl (hb hby d21_4) rfl ?_
    refine XS.sipush X0.here hx rfl (hb hby d21_5) ?_
    show Steps p.tables e below (s₁.setTop (mkF m 8 #[.val (.int x)] [(.int (255 : Int32)), (.int x)])) _
    refine XS.icmpNo X0.here hx rfl (hb hby d21_8) rfl (flt q1).2.2.1 ?_
    refine XS.iconst X0.here hx rfl (hb hby d21_11) ?_
    refine XS.goto X0.here hx rfl (pc0 := 12) (pc' := 16) rfl (hb hby d21_12) (by decide) (by decide) ?_
    exact kz
  exact Goes.retN X0 hx Bd.notSynchronized (t := .boolean) Bd.returns (by simp) (hb hby d21_16) (Nat.le_of_ble_eq_true rfl) (Nat.le_of_ble_eq_true rfl) ⟨rfl, N0, e0⟩
def Q_rce_n (Z : State) (x : Int32)  (h0 : Heap) (n0 : Nat) : Option Value → Heap → List Loc → Prop := fun v h L => v = some (.int (0 : Int32)) ∧ Fr n0 L ∧ h = h0
set_option maxRecDepth 65536 in
set_option maxHeartbeats 40000000 in
theorem rce_n (l : Launch) (Z : State) (a0 : Array Value) (hw : ∀ d ∈ tables_1, d.before a0 Z = true) (ws : List Jvm.Cond) (x : Int32)  (h0 : Heap) (n0 : Nat) (Z0 : n0 ≤ h0.size) (q0 : ¬ x < (0 : Int32)) (q1 : (255 : Int32) < x) :
    own_M l Z (⟨"java/lang/StringLatin1", "canEncode", "(I)Z"⟩ : MethodName) (Jvm.Cond.code (⟨"java/lang/StringLatin1", "canEncode", "(I)Z"⟩ : MethodName) jdk_43_method_4_code 1 (some .boolean)) ws ({ frames := 0, cells := 0, slots := 0, locals := 0 } : Room) #[(.int x)] h0 (Q_rce_n Z x h0 n0) := by
  refine MetFree.of_bodySF (plainFor_of_name pn_21) hisR ?_
  intro p e s m args below meth c s₁ Bd hml0 hP hK
  obtain ⟨rfl, hZ, hh⟩ := hP
  have hx := Bd.exec
  have hby := Bd.bytes
  have hml : c.maxLocals = 1 := hml0
  have hown : s.vm.findClass "java/lang/StringLatin1" = some m.cls := findClass_of_methodNamed Bd.named
  have hnm := (name_of_methodNamed Bd.named Bd.method).1
  have X0 : Stand p l e ({ frames := 0, cells := 0, slots := 0, locals := 0 } : Room) s m #[(.int x)] below meth c s₁ [] 0 0 := Stand.of_body Bd
  have e0 : s₁.heap = h0 := by rw [← hh, Bd.state]; rfl
  have N0 := Fr.nil n0
  show Goes p e below (Fin s (Q_rce_n Z x h0 n0) ({ frames := 0, cells := 0, slots := 0, locals := 0 } : Room).cells ({ frames := 0, cells := 0, slots := 0, locals := 0 } : Room).slots) _
  refine Goes.via (S' := s₁.setTop (mkF m 0 #[.val (.int x)] [])) (fun tz kz => castTop (ef_21 m x ) kz) ?_
  refine Goes.via (S' := s₁.setTop (mkF m 16 #[.val (.int x)] [(.int (0 : Int32))])) (fun tz kz => ?_) ?_
  · show Steps p.tables e below (s₁.setTop (mkF m 0 #[.val (.int x)] [])) _
    refine XS.iloadN X0.here hx rfl (hb hby d21_0) rfl ?_
    refine XS.ifNo X0.here hx rfl (hb hby d21_1) rfl ((if0 _ _).trans (flt q0).1) ?_
    refine XS.iloadN X0.here hx rfl (hb hby d21_4) rfl ?_
    refine XS.sipush X0.here hx rfl (hb hby d21_5) ?_
    show Steps p.tables e below (s₁.setTop (mkF m 8 #[.val (.int x)] [(.int (255 : Int32)), (.int x)])) _
    refine XS.icmpYes X0.here hx rfl (pc0 := 8) (pc' := 15) rfl (hb hby d21_8) rfl (tlt q1).2.2.1 (by decide) (by decide) ?_
    refine XS.iconst X0.here hx rfl (hb hby d21_15) ?_
    exact kz
  exact Goes.retN X0 hx Bd.notSynchronized (t := .boolean) Bd.returns (by simp) (hb hby d21_16) (Nat.le_of_ble_eq_true rfl) (Nat.le_of_ble_eq_true rfl) ⟨rfl, N0, e0⟩
theorem d22_0 : decode jdk_29_method_65_code 0 = .ok (.iload_n 0, 1) := by decide +kernel
theorem d22_1 : decode jdk_29_method_65_code 1 = .ok (.iload_n 1, 1) := by decide +kernel
theorem d22_2 : decode jdk_29_method_65_code 2 = .ok (.if_icmp .lt 7, 3) := by decide +kernel
theorem d22_5 : decode jdk_29_method_65_code 5 = .ok (.iload_n 0, 1) := by decide +kernel
theorem d22_6 : decode jdk_29_method_65_code 6 = .ok (.goto 4, 3) := by decide +kernel
theorem d22_10 : decode jdk_29_method_65_code 10 = .ok (.ireturn, 1) := by decide +kernel
theorem pn_22 : plainFor (⟨"java/lang/Math", "max", "(II)I"⟩ : MethodName) = true := by decide +kernel
theorem ef_22 (m : MethodId) (x0 : Int32) (x1 : Int32) : entryFrame m #[(.int x0), (.int x1)] 2 = mkF m 0 #[.val (.int x0), .val (.int x1)] [] := by first | (simp [entryFrame, mkF, argsToLocals, Value.category]; done) | rfl
def Q_rmax0 (Z : State)   (h0 : Heap) (n0 : Nat) : Option Value → Heap → List Loc → Prop := fun v h L => v = some (.int (0 : Int32)) ∧ Fr n0 L ∧ h = h0
set_option maxRecDepth 65536 in
set_option maxHeartbeats 40000000 in
theorem rmax0 (l : Launch) (Z : State) (a0 : Array Value) (hw : ∀ d ∈ tables_1, d.before a0 Z = true) (ws : List Jvm.Cond)   (h0 : Heap) (n0 : Nat) (Z0 : n0 ≤ h0.size) :
    own_M l Z (⟨"java/lang/Math", "max", "(II)I"⟩ : MethodName) (Jvm.Cond.code (⟨"java/lang/Math", "max", "(II)I"⟩ : MethodName) jdk_29_method_65_code 2 (some .int)) ws ({ frames := 0, cells := 0, slots := 0, locals := 0 } : Room) #[(.int (0 : Int32)), (.int (0 : Int32))] h0 (Q_rmax0 Z  h0 n0) := by
  refine MetFree.of_bodySF (Jvm.Free.JP.mathPlain rfl (by decide +kernel)) hisR ?_
  intro p e s m args below meth c s₁ Bd hml0 hP hK
  obtain ⟨rfl, hZ, hh⟩ := hP
  have hx := Bd.exec
  have hby := Bd.bytes
  have hml : c.maxLocals = 2 := hml0
  have hown : s.vm.findClass "java/lang/Math" = some m.cls := findClass_of_methodNamed Bd.named
  have hnm := (name_of_methodNamed Bd.named Bd.method).1
  have X0 : Stand p l e ({ frames := 0, cells := 0, slots := 0, locals := 0 } : Room) s m #[(.int (0 : Int32)), (.int (0 : Int32))] below meth c s₁ [] 0 0 := Stand.of_body Bd
  have e0 : s₁.heap = h0 := by rw [← hh, Bd.state]; rfl
  have N0 := Fr.nil n0
  show Goes p e below (Fin s (Q_rmax0 Z  h0 n0) ({ frames := 0, cells := 0, slots := 0, locals := 0 } : Room).cells ({ frames := 0, cells := 0, slots := 0, locals := 0 } : Room).slots) _
  refine Goes.via (S' := s₁.setTop (mkF m 0 #[.val (.int (0 : Int32)), .val (.int (0 : Int32))] [])) (fun tz kz => castTop (ef_22 m (0 : Int32) (0 : Int32) ) kz) ?_
  refine Goes.via (S' := s₁.setTop (mkF m 10 #[.val (.int (0 : Int32)), .val (.int (0 : Int32))] [(.int (0 : Int32))])) (fun tz kz => ?_) ?_
  · show Steps p.tables e below (s₁.setTop (mkF m 0 #[.val (.int (0 : Int32)), .val (.int (0 : Int32))] [])) _
    refine XS.iloadN X0.here hx rfl (hb hby d22_0) rfl ?_
    refine XS.iloadN X0.here hx rfl (hb hby d22_1) rfl ?_
    refine XS.icmpNo X0.here hx rfl (hb hby d22_2) rfl (flt (by first | decide | rfl)).1 ?_
    refine XS.iloadN X0.here hx rfl (hb hby d22_5) rfl ?_
    show Steps p.tables e below (s₁.setTop (mkF m 6 #[.val (.int (0 : Int32)), .val (.int (0 : Int32))] [(.int (0 : Int32))])) _
    refine XS.goto X0.here hx rfl (pc0 := 6) (pc' := 10) rfl (hb hby d22_6) (by decide) (by decide) ?_
    exact kz
  exact Goes.retI X0 hx Bd.notSynchronized Bd.returns (hb hby d22_10) (Nat.le_of_ble_eq_true rfl) (Nat.le_of_ble_eq_true rfl) ⟨rfl, N0, e0⟩
theorem d23_0 : decode jdk_29_method_69_code 0 = .ok (.iload_n 0, 1) := by decide +kernel
theorem d23_1 : decode jdk_29_method_69_code 1 = .ok (.iload_n 1, 1) := by decide +kernel
theorem d23_2 : decode jdk_29_method_69_code 2 = .ok (.if_icmp .gt 7, 3) := by decide +kernel
theorem d23_5 : decode jdk_29_method_69_code 5 = .ok (.iload_n 0, 1) := by decide +kernel
theorem d23_6 : decode jdk_29_method_69_code 6 = .ok (.goto 4, 3) := by decide +kernel
theorem d23_10 : decode jdk_29_method_69_code 10 = .ok (.ireturn, 1) := by decide +kernel
theorem pn_23 : plainFor (⟨"java/lang/Math", "min", "(II)I"⟩ : MethodName) = true := by decide +kernel
theorem ef_23 (m : MethodId) (x0 : Int32) (x1 : Int32) : entryFrame m #[(.int x0), (.int x1)] 2 = mkF m 0 #[.val (.int x0), .val (.int x1)] [] := by first | (simp [entryFrame, mkF, argsToLocals, Value.category]; done) | rfl
def Q_rmin6 (Z : State)   (h0 : Heap) (n0 : Nat) : Option Value → Heap → List Loc → Prop := fun v h L => v = some (.int (6 : Int32)) ∧ Fr n0 L ∧ h = h0
set_option maxRecDepth 65536 in
set_option maxHeartbeats 40000000 in
theorem rmin6 (l : Launch) (Z : State) (a0 : Array Value) (hw : ∀ d ∈ tables_1, d.before a0 Z = true) (ws : List Jvm.Cond)   (h0 : Heap) (n0 : Nat) (Z0 : n0 ≤ h0.size) :
    own_M l Z (⟨"java/lang/Math", "min", "(II)I"⟩ : MethodName) (Jvm.Cond.code (⟨"java/lang/Math", "min", "(II)I"⟩ : MethodName) jdk_29_method_69_code 2 (some .int)) ws ({ frames := 0, cells := 0, slots := 0, locals := 0 } : Room) #[(.int (6 : Int32)), (.int (6 : Int32))] h0 (Q_rmin6 Z  h0 n0) := by
  refine MetFree.of_bodySF (Jvm.Free.JP.mathPlain rfl (by decide +kernel)) hisR ?_
  intro p e s m args below meth c s₁ Bd hml0 hP hK
  obtain ⟨rfl, hZ, hh⟩ := hP
  have hx := Bd.exec
  have hby := Bd.bytes
  have hml : c.maxLocals = 2 := hml0
  have hown : s.vm.findClass "java/lang/Math" = some m.cls := findClass_of_methodNamed Bd.named
  have hnm := (name_of_methodNamed Bd.named Bd.method).1
  have X0 : Stand p l e ({ frames := 0, cells := 0, slots := 0, locals := 0 } : Room) s m #[(.int (6 : Int32)), (.int (6 : Int32))] below meth c s₁ [] 0 0 := Stand.of_body Bd
  have e0 : s₁.heap = h0 := by rw [← hh, Bd.state]; rfl
  have N0 := Fr.nil n0
  show Goes p e below (Fin s (Q_rmin6 Z  h0 n0) ({ frames := 0, cells := 0, slots := 0, locals := 0 } : Room).cells ({ frames := 0, cells := 0, slots := 0, locals := 0 } : Room).slots) _
  refine Goes.via (S' := s₁.setTop (mkF m 0 #[.val (.int (6 : Int32)), .val (.int (6 : Int32))] [])) (fun tz kz => castTop (ef_23 m (6 : Int32) (6 : Int32) ) kz) ?_
  refine Goes.via (S' := s₁.setTop (mkF m 10 #[.val (.int (6 : Int32)), .val (.int (6 : Int32))] [(.int (6 : Int32))])) (fun tz kz => ?_) ?_
  · show Steps p.tables e below (s₁.setTop (mkF m 0 #[.val (.int (6 : Int32)), .val (.int (6 : Int32))] [])) _
    refine XS.iloadN X0.here hx rfl (hb hby d23_0) rfl ?_
    refine XS.iloadN X0.here hx rfl (hb hby d23_1) rfl ?_
    refine XS.icmpNo X0.here hx rfl (hb hby d23_2) rfl (flt (by first | decide | rfl)).2.2.1 ?_
    refine XS.iloadN X0.here hx rfl (hb hby d23_5) rfl ?_
    show Steps p.tables e below (s₁.setTop (mkF m 6 #[.val (.int (6 : Int32)), .val (.int (6 : Int32))] [(.int (6 : Int32))])) _
    refine XS.goto X0.here hx rfl (pc0 := 6) (pc' := 10) rfl (hb hby d23_6) (by decide) (by decide) ?_
    exact kz
  exact Goes.retI X0 hx Bd.notSynchronized Bd.returns (hb hby d23_10) (Nat.le_of_ble_eq_true rfl) (Nat.le_of_ble_eq_true rfl) ⟨rfl, N0, e0⟩
theorem d24_0 : decode jdk_43_method_23_code 0 = .ok (.iload_n 1, 1) := by decide +kernel
theorem d24_1 : decode jdk_43_method_23_code 1 = .ok (.i2b, 1) := by decide +kernel
theorem d24_2 : decode jdk_43_method_23_code 2 = .ok (.istore 4, 2) := by decide +kernel
theorem d24_4 : decode jdk_43_method_23_code 4 = .ok (.iload_n 2, 1) := by decide +kernel
theorem d24_5 : decode jdk_43_method_23_code 5 = .ok (.istore 5, 2) := by decide +kernel
theorem d24_7 : decode jdk_43_method_23_code 7 = .ok (.iload 5, 2) := by decide +kernel
theorem d24_9 : decode jdk_43_method_23_code 9 = .ok (.iload_n 3, 1) := by decide +kernel
theorem d24_10 : decode jdk_43_method_23_code 10 = .ok (.if_icmp .ge 21, 3) := by decide +kernel
theorem d24_13 : decode jdk_43_method_23_code 13 = .ok (.aload_n 0, 1) := by decide +kernel
theorem d24_14 : decode jdk_43_method_23_code 14 = .ok (.iload 5, 2) := by decide +kernel
theorem d24_16 : decode jdk_43_method_23_code 16 = .ok (.baload, 1) := by decide +kernel
theorem d24_17 : decode jdk_43_method_23_code 17 = .ok (.iload 4, 2) := by decide +kernel
theorem d24_19 : decode jdk_43_method_23_code 19 = .ok (.if_icmp .ne 6, 3) := by decide +kernel
theorem d24_25 : decode jdk_43_method_23_code 25 = .ok (.iinc 5 1, 3) := by decide +kernel
theorem d24_28 : decode jdk_43_method_23_code 28 = .ok (.goto (-21), 3) := by decide +kernel
theorem d24_31 : decode jdk_43_method_23_code 31 = .ok (.iconst (-1), 1) := by decide +kernel
theorem d24_32 : decode jdk_43_method_23_code 32 = .ok (.ireturn, 1) := by decide +kernel
theorem pn_24 : plainName "java/lang/StringLatin1" = true := by first | (simp [plainName, overriddenIn]; done) | decide +kernel
theorem ef_24 (m : MethodId) (x0 : Addr) (x1 : Int32) (x2 : Int32) (x3 : Int32) : entryFrame m #[(.ref x0), (.int x1), (.int x2), (.int x3)] 6 = mkF m 0 #[.val (.ref x0), .val (.int x1), .val (.int x2), .val (.int x3), .unset, .unset] [] := by first | (simp [entryFrame, mkF, argsToLocals, Value.category]; done) | rfl
def Q_ric (Z : State) (b : Addr) (x : Int32) (k : ClassId) (h0 : Heap) (n0 : Nat) : Option Value → Heap → List Loc → Prop := fun v h L => v = some (.int (-1 : Int32)) ∧ Fr n0 L ∧ h = h0
set_option maxRecDepth 65536 in
set_option maxHeartbeats 40000000 in
theorem ric (l : Launch) (Z : State) (a0 : Array Value) (hw : ∀ d ∈ tables_1, d.before a0 Z = true) (ws : List Jvm.Cond) (b : Addr) (x : Int32) (k : ClassId) (h0 : Heap) (n0 : Nat) (Z0 : n0 ≤ h0.size) (BV : Arv Z h0 b k .byte (6 : Int32) [.int (61 : Int32), .int (43 : Int32), .int (45 : Int32), .int (64 : Int32), .int (9 : Int32), .int (13 : Int32)] (.int 0)) (p0 : ¬ (61 : Int32) = x.toInt8.toInt32) (p1 : ¬ (43 : Int32) = x.toInt8.toInt32) (p2 : ¬ (45 : Int32) = x.toInt8.toInt32) (p3 : ¬ (64 : Int32) = x.toInt8.toInt32) (p4 : ¬ (9 : Int32) = x.toInt8.toInt32) (p5 : ¬ (13 : Int32) = x.toInt8.toInt32) :
    own_M l Z (⟨"java/lang/StringLatin1", "indexOfChar", "([BIII)I"⟩ : MethodName) (Jvm.Cond.code (⟨"java/lang/StringLatin1", "indexOfChar", "([BIII)I"⟩ : MethodName) jdk_43_method_23_code 6 (some .int)) ws ({ frames := 0, cells := 0, slots := 0, locals := 0 } : Room) #[(.ref b), (.int x), (.int (0 : Int32)), (.int (6 : Int32))] h0 (Q_ric Z b x k h0 n0) := by
  refine MetFree.of_bodySF (plainFor_of_name pn_24) hisR ?_
  intro p e s m args below meth c s₁ Bd hml0 hP hK
  obtain ⟨rfl, hZ, hh⟩ := hP
  have hx := Bd.exec
  have hby := Bd.bytes
  have hml : c.maxLocals = 6 := hml0
  have hown : s.vm.findClass "java/lang/StringLatin1" = some m.cls := findClass_of_methodNamed Bd.named
  have hnm := (name_of_methodNamed Bd.named Bd.method).1
  have X0 : Stand p l e ({ frames := 0, cells := 0, slots := 0, locals := 0 } : Room) s m #[(.ref b), (.int x), (.int (0 : Int32)), (.int (6 : Int32))] below meth c s₁ [] 0 0 := Stand.of_body Bd
  have e0 : s₁.heap = h0 := by rw [← hh, Bd.state]; rfl
  have N0 := Fr.nil n0
  show Goes p e below (Fin s (Q_ric Z b x k h0 n0) ({ frames := 0, cells := 0, slots := 0, locals := 0 } : Room).cells ({ frames := 0, cells := 0, slots := 0, locals := 0 } : Room).slots) _
  refine Goes.via (S' := s₁.setTop (mkF m 0 #[.val (.ref b), .val (.int x), .val (.int (0 : Int32)), .val (.int (6 : Int32)), .unset, .unset] [])) (fun tz kz => castTop (ef_24 m b x (0 : Int32) (6 : Int32) ) kz) ?_
  refine Goes.via (S' := s₁.setTop (mkF m 16 #[.val (.ref b), .val (.int x), .val (.int (0 : Int32)), .val (.int (6 : Int32)), .val (.int (x.toInt8.toInt32)), .val (.int (0 : Int32))] [(.int (0 : Int32)), (.ref b)])) (fun tz kz => ?_) ?_
  · show Steps p.tables e below (s₁.setTop (mkF m 0 #[.val (.ref b), .val (.int x), .val (.int (0 : Int32)), .val (.int (6 : Int32)), .unset, .unset] [])) _
    refine XS.iloadN X0.here hx rfl (hb hby d24_0) rfl ?_
    refine XS.i2b X0.here hx rfl (hb hby d24_1) rfl ?_
    refine XS.istore X0.here hx rfl (hb hby d24_2) rfl (l' := #[.val (.ref b), .val (.int x), .val (.int (0 : Int32)), .val (.int (6 : Int32)), .val (.int (x.toInt8.toInt32)), .unset]) rfl ?_
    refine XS.iloadN X0.here hx rfl (hb hby d24_4) rfl ?_
    show Steps p.tables e below (s₁.setTop (mkF m 5 #[.val (.ref b), .val (.int x), .val (.int (0 : Int32)), .val (.int (6 : Int32)), .val (.int (x.toInt8.toInt32)), .unset] [(.int (0 : Int32))])) _
    refine XS.istore X0.here hx rfl (hb hby d24_5) rfl (l' := #[.val (.ref b), .val (.int x), .val (.int (0 : Int32)), .val (.int (6 : Int32)), .val (.int (x.toInt8.toInt32)), .val (.int (0 : Int32))]) rfl ?_
    refine XS.iload X0.here hx rfl (hb hby d24_7) rfl ?_
    refine XS.iloadN X0.here hx rfl (hb hby d24_9) rfl ?_
    refine XS.icmpNo X0.here hx rfl (hb hby d24_10) rfl (tlt (by first | decide | rfl)).2.1 ?_
    show Steps p.tables e below (s₁.setTop (mkF m 13 #[.val (.ref b), .val (.int x), .val (.int (0 : Int32)), .val (.int (6 : Int32)), .val (.int (x.toInt8.toInt32)), .val (.int (0 : Int32))] [])) _
    refine XS.aloadN X0.here hx rfl (hb hby d24_13) rfl rfl ?_
    refine XS.iload X0.here hx rfl (hb hby d24_14) rfl ?_
    exact kz
  obtain ⟨cl1, Ar1, q1, Sz1, Nn1, Hs1, G1⟩ := (id BV)
  refine Goes.via (S' := s₁.setTop (mkF m 16 #[.val (.ref b), .val (.int x), .val (.int (0 : Int32)), .val (.int (6 : Int32)), .val (.int (x.toInt8.toInt32)), .val (.int (1 : Int32))] [(.int (1 : Int32)), (.ref b)])) (fun tz kz => ?_) ?_
  · show Steps p.tables e below (s₁.setTop (mkF m 16 #[.val (.ref b), .val (.int x), .val (.int (0 : Int32)), .val (.int (6 : Int32)), .val (.int (x.toInt8.toInt32)), .val (.int (0 : Int32))] [(.int (0 : Int32)), (.ref b)])) _
    refine X0.baloadBytes hx (j := (0 : Int32)) (v := (.int (61 : Int32))) (by rw [e0]; exact Ar1.1) (State.isArrayOf_alike hZ.alike Ar1.2.1) Ar1.2.2 (inb_of Sz1 ⟨by decide, by decide⟩) (Has.at Hs1 (inb_of Sz1 ⟨by decide, by decide⟩) rfl) (g := (mkF m 16 #[.val (.ref b), .val (.int x), .val (.int (0 : Int32)), .val (.int (6 : Int32)), .val (.int (x.toInt8.toInt32)), .val (.int (0 : Int32))] [(.int (0 : Int32)), (.ref b)])) rfl rfl (hb hby d24_16) _ ?_
    refine XS.iload X0.here hx rfl (hb hby d24_17) rfl ?_
    refine XS.icmpYes X0.here hx rfl (pc0 := 19) (pc' := 25) rfl (hb hby d24_19) rfl (feq p0).2 (by decide) (by decide) ?_
    refine XS.iinc X0.here hx rfl (hb hby d24_25) rfl (l' := #[.val (.ref b), .val (.int x), .val (.int (0 : Int32)), .val (.int (6 : Int32)), .val (.int (x.toInt8.toInt32)), .val (.int (1 : Int32))]) rfl ?_
    show Steps p.tables e below (s₁.setTop (mkF m 28 #[.val (.ref b), .val (.int x), .val (.int (0 : Int32)), .val (.int (6 : Int32)), .val (.int (x.toInt8.toInt32)), .val (.int (1 : Int32))] [])) _
    refine XS.goto X0.here hx rfl (pc0 := 28) (pc' := 7) rfl (hb hby d24_28) (by decide) (by decide) ?_
    refine XS.iload X0.here hx rfl (hb hby d24_7) rfl ?_
    refine XS.iloadN X0.here hx rfl (hb hby d24_9) rfl ?_
    refine XS.icmpNo X0.here hx rfl (hb hby d24_10) rfl (tlt (by first | decide | rfl)).2.1 ?_
    show Steps p.tables e below (s₁.setTop (mkF m 13 #[.val (.ref b), .val (.int x), .val (.int (0 : Int32)), .val (.int (6 : Int32)), .val (.int (x.toInt8.toInt32)), .val (.int (1 : Int32))] [])) _
    refine XS.aloadN X0.here hx rfl (hb hby d24_13) rfl rfl ?_
    refine XS.iload X0.here hx rfl (hb hby d24_14) rfl ?_
    exact kz
  obtain ⟨cl2, Ar2, q2, Sz2, Nn2, Hs2, G2⟩ := (id BV)
  refine Goes.via (S' := s₁.setTop (mkF m 16 #[.val (.ref b), .val (.int x), .val (.int (0 : Int32)), .val (.int (6 : Int32)), .val (.int (x.toInt8.toInt32)), .val (.int (2 : Int32))] [(.int (2 : Int32)), (.ref b)])) (fun tz kz => ?_) ?_
  · show Steps p.tables e below (s₁.setTop (mkF m 16 #[.val (.ref b), .val (.int x), .val (.int (0 : Int32)), .val (.int (6 : Int32)), .val (.int (x.toInt8.toInt32)), .val (.int (1 : Int32))] [(.int (1 : Int32)), (.ref b)])) _
    refine X0.baloadBytes hx (j := (1 : Int32)) (v := (.int (43 : Int32))) (by rw [e0]; exact Ar2.1) (State.isArrayOf_alike hZ.alike Ar2.2.1) Ar2.2.2 (inb_of Sz2 ⟨by decide, by decide⟩) (Has.at Hs2 (inb_of Sz2 ⟨by decide, by decide⟩) rfl) (g := (mkF m 16 #[.val (.ref b), .val (.int x), .val (.int (0 : Int32)), .val (.int (6 : Int32)), .val (.int (x.toInt8.toInt32)), .val (.int (1 : Int32))] [(.int (1 : Int32)), (.ref b)])) rfl rfl (hb hby d24_16) _ ?_
    refine XS.iload X0.here hx rfl (hb hby d24_17) rfl ?_
    refine XS.icmpYes X0.here hx rfl (pc0 := 19) (pc' := 25) rfl (hb hby d24_19) rfl (feq p1).2 (by decide) (by decide) ?_
    refine XS.iinc X0.here hx rfl (hb hby d24_25) rfl (l' := #[.val (.ref b), .val (.int x), .val (.int (0 : Int32)), .val (.int (6 : Int32)), .val (.int (x.toInt8.toInt32)), .val (.int (2 : Int32))]) rfl ?_
    show Steps p.tables e below (s₁.setTop (mkF m 28 #[.val (.ref b), .val (.int x), .val (.int (0 : Int32)), .val (.int (6 : Int32)), .val (.int (x.toInt8.toInt32)), .val (.int (2 : Int32))] [])) _
    refine XS.goto X0.here hx rfl (pc0 := 28) (pc' := 7) rfl (hb hby d24_28) (by decide) (by decide) ?_
    refine XS.iload X0.here hx rfl (hb hby d24_7) rfl ?_
    refine XS.iloadN X0.here hx rfl (hb hby d24_9) rfl ?_
    refine XS.icmpNo X0.here hx rfl (hb hby d24_10) rfl (tlt (by first | decide | rfl)).2.1 ?_
    show Steps p.tables e below (s₁.setTop (mkF m 13 #[.val (.ref b), .val (.int x), .val (.int (0 : Int32)), .val (.int (6 : Int32)), .val (.int (x.toInt8.toInt32)), .val (.int (2 : Int32))] [])) _
    refine XS.aloadN X0.here hx rfl (hb hby d24_13) rfl rfl ?_
    refine XS.iload X0.here hx rfl (hb hby d24_14) rfl ?_
    exact kz
  obtain ⟨cl3, Ar3, q3, Sz3, Nn3, Hs3, G3⟩ := (id BV)
  refine Goes.via (S' := s₁.setTop (mkF m 16 #[.val (.ref b), .val (.int x), .val (.int (0 : Int32)), .val (.int (6 : Int32)), .val (.int (x.toInt8.toInt32)), .val (.int (3 : Int32))] [(.int (3 : Int32)), (.ref b)])) (fun tz kz => ?_) ?_
  · show Steps p.tables e below (s₁.setTop (mkF m 16 #[.val (.ref b), .val (.int x), .val (.int (0 : Int32)), .val (.int (6 : Int32)), .val (.int (x.toInt8.toInt32)), .val (.int (2 : Int32))] [(.int (2 : Int32)), (.ref b)])) _
    refine X0.baloadBytes hx (j := (2 : Int32)) (v := (.int (45 : Int32))) (by rw [e0]; exact Ar3.1) (State.isArrayOf_alike hZ.alike Ar3.2.1) Ar3.2.2 (inb_of Sz3 ⟨by decide, by decide⟩) (Has.at Hs3 (inb_of Sz3 ⟨by decide, by decide⟩) rfl) (g := (mkF m 16 #[.val (.ref b), .val (.int x), .val (.int (0 : Int32)), .val (.int (6 : Int32)), .val (.int (x.toInt8.toInt32)), .val (.int (2 : Int32))] [(.int (2 : Int32)), (.ref b)])) rfl rfl (hb hby d24_16) _ ?_
    refine XS.iload X0.here hx rfl (hb hby d24_17) rfl ?_
    refine XS.icmpYes X0.here hx rfl (pc0 := 19) (pc' := 25) rfl (hb hby d24_19) rfl (feq p2).2 (by decide) (by decide) ?_
    refine XS.iinc X0.here hx rfl (hb hby d24_25) rfl (l' := #[.val (.ref b), .val (.int x), .val (.int (0 : Int32)), .val (.int (6 : Int32)), .val (.int (x.toInt8.toInt32)), .val (.int (3 : Int32))]) rfl ?_
    show Steps p.tables e below (s₁.setTop (mkF m 28 #[.val (.ref b), .val (.int x), .val (.int (0 : Int32)), .val (.int (6 : Int32)), .val (.int (x.toInt8.toInt32)), .val (.int (3 : Int32))] [])) _
    refine XS.goto X0.here hx rfl (pc0 := 28) (pc' := 7) rfl (hb hby d24_28) (by decide) (by decide) ?_
    refine XS.iload X0.here hx rfl (hb hby d24_7) rfl ?_
    refine XS.iloadN X0.here hx rfl (hb hby d24_9) rfl ?_
    refine XS.icmpNo X0.here hx rfl (hb hby d24_10) rfl (tlt (by first | decide | rfl)).2.1 ?_
    show Steps p.tables e below (s₁.setTop (mkF m 13 #[.val (.ref b), .val (.int x), .val (.int (0 : Int32)), .val (.int (6 : Int32)), .val (.int (x.toInt8.toInt32)), .val (.int (3 : Int32))] [])) _
    refine XS.aloadN X0.here hx rfl (hb hby d24_13) rfl rfl ?_
    refine XS.iload X0.here hx rfl (hb hby d24_14) rfl ?_
    exact kz
  obtain ⟨cl4, Ar4, q4, Sz4, Nn4, Hs4, G4⟩ := (id BV)
  refine Goes.via (S' := s₁.setTop (mkF m 16 #[.val (.ref b), .val (.int x), .val (.int (0 : Int32)), .val (.int (6 : Int32)), .val (.int (x.toInt8.toInt32)), .val (.int (4 : Int32))] [(.int (4 : Int32)), (.ref b)])) (fun tz kz => ?_) ?_
  · show Steps p.tables e below (s₁.setTop (mkF m 16 #[.val (.ref b), .val (.int x), .val (.int (0 : Int32)), .val (.int (6 : Int32)), .val (.int (x.toInt8.toInt32)), .val (.int (3 : Int32))] [(.int (3 : Int32)), (.ref b)])) _
    refine X0.baloadBytes hx (j := (3 : Int32)) (v := (.int (64 : Int32))) (by rw [e0]; exact Ar4.1) (State.isArrayOf_alike hZ.alike Ar4.2.1) Ar4.2.2 (inb_of Sz4 ⟨by decide, by decide⟩) (Has.at Hs4 (inb_of Sz4 ⟨by decide, by decide⟩) rfl) (g := (mkF m 16 #[.val (.ref b), .val (.int x), .val (.int (0 : Int32)), .val (.int (6 : Int32)), .val (.int (x.toInt8.toInt32)), .val (.int (3 : Int32))] [(.int (3 : Int32)), (.ref b)])) rfl rfl (hb hby d24_16) _ ?_
    refine XS.iload X0.here hx rfl (hb hby d24_17) rfl ?_
    refine XS.icmpYes X0.here hx rfl (pc0 := 19) (pc' := 25) rfl (hb hby d24_19) rfl (feq p3).2 (by decide) (by decide) ?_
    refine XS.iinc X0.here hx rfl (hb hby d24_25) rfl (l' := #[.val (.ref b), .val (.int x), .val (.int (0 : Int32)), .val (.int (6 : Int32)), .val (.int (x.toInt8.toInt32)), .val (.int (4 : Int32))]) rfl ?_
    show Steps p.tables e below (s₁.setTop (mkF m 28 #[.val (.ref b), .val (.int x), .val (.int (0 : Int32)), .val (.int (6 : Int32)), .val (.int (x.toInt8.toInt32)), .val (.int (4 : Int32))] [])) _
    refine XS.goto X0.here hx rfl (pc0 := 28) (pc' := 7) rfl (hb hby d24_28) (by decide) (by decide) ?_
    refine XS.iload X0.here hx rfl (hb hby d24_7) rfl ?_
    refine XS.iloadN X0.here hx rfl (hb hby d24_9) rfl ?_
    refine XS.icmpNo X0.here hx rfl (hb hby d24_10) rfl (tlt (by first | decide | rfl)).2.1 ?_
    show Steps p.tables e below (s₁.setTop (mkF m 13 #[.val (.ref b), .val (.int x), .val (.int (0 : Int32)), .val (.int (6 : Int32)), .val (.int (x.toInt8.toInt32)), .val (.int (4 : Int32))] [])) _
    refine XS.aloadN X0.here hx rfl (hb hby d24_13) rfl rfl ?_
    refine XS.iload X0.here hx rfl (hb hby d24_14) rfl ?_
    exact kz
  obtain ⟨cl5, Ar5, q5, Sz5, Nn5, Hs5, G5⟩ := (id BV)
  refine Goes.via (S' := s₁.setTop (mkF m 16 #[.val (.ref b), .val (.int x), .val (.int (0 : Int32)), .val (.int (6 : Int32)), .val (.int (x.toInt8.toInt32)), .val (.int (5 : Int32))] [(.int (5 : Int32)), (.ref b)])) (fun tz kz => ?_) ?_
  · show Steps p.tables e below (s₁.setTop (mkF m 16 #[.val (.ref b), .val (.int x), .val (.int (0 : Int32)), .val (.int (6 : Int32)), .val (.int (x.toInt8.toInt32)), .val (.int (4 : Int32))] [(.int (4 : Int32)), (.ref b)])) _
    refine X0.baloadBytes hx (j := (4 : Int32)) (v := (.int (9 : Int32))) (by rw [e0]; exact Ar5.1) (State.isArrayOf_alike hZ.alike Ar5.2.1) Ar5.2.2 (inb_of Sz5 ⟨by decide, by decide⟩) (Has.at Hs5 (inb_of Sz5 ⟨by decide, by decide⟩) rfl) (g := (mkF m 16 #[.val (.ref b), .val (.int x), .val (.int (0 : Int32)), .val (.int (6 : Int32)), .val (.int (x.toInt8.toInt32)), .val (.int (4 : Int32))] [(.int (4 : Int32)), (.ref b)])) rfl rfl (hb hby d24_16) _ ?_
    refine XS.iload X0.here hx rfl (hb hby d24_17) rfl ?_
    refine XS.icmpYes X0.here hx rfl (pc0 := 19) (pc' := 25) rfl (hb hby d24_19) rfl (feq p4).2 (by decide) (by decide) ?_
    refine XS.iinc X0.here hx rfl (hb hby d24_25) rfl (l' := #[.val (.ref b), .val (.int x), .val (.int (0 : Int32)), .val (.int (6 : Int32)), .val (.int (x.toInt8.toInt32)), .val (.int (5 : Int32))]) rfl ?_
    show Steps p.tables e below (s₁.setTop (mkF m 28 #[.val (.ref b), .val (.int x), .val (.int (0 : Int32)), .val (.int (6 : Int32)), .val (.int (x.toInt8.toInt32)), .val (.int (5 : Int32))] [])) _
    refine XS.goto X0.here hx rfl (pc0 := 28) (pc' := 7) rfl (hb hby d24_28) (by decide) (by decide) ?_
    refine XS.iload X0.here hx rfl (hb hby d24_7) rfl ?_
    refine XS.iloadN X0.here hx rfl (hb hby d24_9) rfl ?_
    refine XS.icmpNo X0.here hx rfl (hb hby d24_10) rfl (tlt (by first | decide | rfl)).2.1 ?_
    show Steps p.tables e below (s₁.setTop (mkF m 13 #[.val (.ref b), .val (.int x), .val (.int (0 : Int32)), .val (.int (6 : Int32)), .val (.int (x.toInt8.toInt32)), .val (.int (5 : Int32))] [])) _
    refine XS.aloadN X0.here hx rfl (hb hby d24_13) rfl rfl ?_
    refine XS.iload X0.here hx rfl (hb hby d24_14) rfl ?_
    exact kz
  obtain ⟨cl6, Ar6, q6, Sz6, Nn6, Hs6, G6⟩ := (id BV)
  refine Goes.via (S' := s₁.setTop (mkF m 32 #[.val (.ref b), .val (.int x), .val (.int (0 : Int32)), .val (.int (6 : Int32)), .val (.int (x.toInt8.toInt32)), .val (.int (6 : Int32))] [(.int (-1 : Int32))])) (fun tz kz => ?_) ?_
  · show Steps p.tables e below (s₁.setTop (mkF m 16 #[.val (.ref b), .val (.int x), .val (.int (0 : Int32)), .val (.int (6 : Int32)), .val (.int (x.toInt8.toInt32)), .val (.int (5 : Int32))] [(.int (5 : Int32)), (.ref b)])) _
    refine X0.baloadBytes hx (j := (5 : Int32)) (v := (.int (13 : Int32))) (by rw [e0]; exact Ar6.1) (State.isArrayOf_alike hZ.alike Ar6.2.1) Ar6.2.2 (inb_of Sz6 ⟨by decide, by decide⟩) (Has.at Hs6 (inb_of Sz6 ⟨by decide, by decide⟩) rfl) (g := (mkF m 16 #[.val (.ref b), .val (.int x), .val (.int (0 : Int32)), .val (.int (6 : Int32)), .val (.int (x.toInt8.toInt32)), .val (.int (5 : Int32))] [(.int (5 : Int32)), (.ref b)])) rfl rfl (hb hby d24_16) _ ?_
    refine XS.iload X0.here hx rfl (hb hby d24_17) rfl ?_
    refine XS.icmpYes X0.here hx rfl (pc0 := 19) (pc' := 25) rfl (hb hby d24_19) rfl (feq p5).2 (by decide) (by decide) ?_
    refine XS.iinc X0.here hx rfl (hb hby d24_25) rfl (l' := #[.val (.ref b), .val (.int x), .val (.int (0 : Int32)), .val (.int (6 : Int32)), .val (.int (x.toInt8.toInt32)), .val (.int (6 : Int32))]) rfl ?_
    show Steps p.tables e below (s₁.setTop (mkF m 28 #[.val (.ref b), .val (.int x), .val (.int (0 : Int32)), .val (.int (6 : Int32)), .val (.int (x.toInt8.toInt32)), .val (.int (6 : Int32))] [])) _
    refine XS.goto X0.here hx rfl (pc0 := 28) (pc' := 7) rfl (hb hby d24_28) (by decide) (by decide) ?_
    refine XS.iload X0.here hx rfl (hb hby d24_7) rfl ?_
    refine XS.iloadN X0.here hx rfl (hb hby d24_9) rfl ?_
    refine XS.icmpYes X0.here hx rfl (pc0 := 10) (pc' := 31) rfl (hb hby d24_10) rfl (flt (by first | decide | rfl)).2.1 (by decide) (by decide) ?_
    show Steps p.tables e below (s₁.setTop (mkF m 31 #[.val (.ref b), .val (.int x), .val (.int (0 : Int32)), .val (.int (6 : Int32)), .val (.int (x.toInt8.toInt32)), .val (.int (6 : Int32))] [])) _
    refine XS.iconst X0.here hx rfl (hb hby d24_31) ?_
    exact kz
  exact Goes.retI X0 hx Bd.notSynchronized Bd.returns (hb hby d24_32) (Nat.le_of_ble_eq_true rfl) (Nat.le_of_ble_eq_true rfl) ⟨rfl, N0, e0⟩
theorem d20_0 : decode jdk_43_method_22_code 0 = .ok (.iload_n 1, 1) := by decide +kernel
theorem d20_1 : decode jdk_43_method_22_code 1 = .ok (.invokestatic 88, 3) := by decide +kernel
theorem d20_4 : decode jdk_43_method_22_code 4 = .ok (.ifCond .ne 5, 3) := by decide +kernel
theorem d20_7 : decode jdk_43_method_22_code 7 = .ok (.iconst (-1), 1) := by decide +kernel
theorem d20_8 : decode jdk_43_method_22_code 8 = .ok (.ireturn, 1) := by decide +kernel
theorem d20_9 : decode jdk_43_method_22_code 9 = .ok (.iload_n 2, 1) := by decide +kernel
theorem d20_10 : decode jdk_43_method_22_code 10 = .ok (.iconst 0, 1) := by decide +kernel
theorem d20_11 : decode jdk_43_method_22_code 11 = .ok (.invokestatic 92, 3) := by decide +kernel
theorem d20_14 : decode jdk_43_method_22_code 14 = .ok (.istore_n 2, 1) := by decide +kernel
theorem d20_15 : decode jdk_43_method_22_code 15 = .ok (.iload_n 3, 1) := by decide +kernel
theorem d20_16 : decode jdk_43_method_22_code 16 = .ok (.aload_n 0, 1) := by decide +kernel
theorem d20_17 : decode jdk_43_method_22_code 17 = .ok (.arraylength, 1) := by decide +kernel
theorem d20_18 : decode jdk_43_method_22_code 18 = .ok (.invokestatic 38, 3) := by decide +kernel
theorem d20_21 : decode jdk_43_method_22_code 21 = .ok (.istore_n 3, 1) := by decide +kernel
theorem d20_22 : decode jdk_43_method_22_code 22 = .ok (.iload_n 2, 1) := by decide +kernel
theorem d20_23 : decode jdk_43_method_22_code 23 = .ok (.iload_n 3, 1) := by decide +kernel
theorem d20_24 : decode jdk_43_method_22_code 24 = .ok (.if_icmp .lt 5, 3) := by decide +kernel
theorem d20_29 : decode jdk_43_method_22_code 29 = .ok (.aload_n 0, 1) := by decide +kernel
theorem d20_30 : decode jdk_43_method_22_code 30 = .ok (.iload_n 1, 1) := by decide +kernel
theorem d20_31 : decode jdk_43_method_22_code 31 = .ok (.iload_n 2, 1) := by decide +kernel
theorem d20_32 : decode jdk_43_method_22_code 32 = .ok (.iload_n 3, 1) := by decide +kernel
theorem d20_33 : decode jdk_43_method_22_code 33 = .ok (.invokestatic 95, 3) := by decide +kernel
theorem d20_36 : decode jdk_43_method_22_code 36 = .ok (.ireturn, 1) := by decide +kernel
theorem pn_20 : plainName "java/lang/StringLatin1" = true := by first | (simp [plainName, overriddenIn]; done) | decide +kernel
theorem ef_20 (m : MethodId) (x0 : Addr) (x1 : Int32) (x2 : Int32) (x3 : Int32) : entryFrame m #[(.ref x0), (.int x1), (.int x2), (.int x3)] 4 = mkF m 0 #[.val (.ref x0), .val (.int x1), .val (.int x2), .val (.int x3)] [] := by first | (simp [entryFrame, mkF, argsToLocals, Value.category]; done) | rfl
def Q_rio_y (Z : State) (b : Addr) (x : Int32) (k : ClassId) (h0 : Heap) (n0 : Nat) : Option Value → Heap → List Loc → Prop := fun v h L => v = some (.int (-1 : Int32)) ∧ Fr n0 L ∧ h = h0
set_option maxRecDepth 65536 in
set_option maxHeartbeats 40000000 in
theorem rio_y (l : Launch) (Z : State) (a0 : Array Value) (hw : ∀ d ∈ tables_1, d.before a0 Z = true) (ws : List Jvm.Cond) (b : Addr) (x : Int32) (k : ClassId) (h0 : Heap) (n0 : Nat) (Z0 : n0 ≤ h0.size) (BV : Arv Z h0 b k .byte (6 : Int32) [.int (61 : Int32), .int (43 : Int32), .int (45 : Int32), .int (64 : Int32), .int (9 : Int32), .int (13 : Int32)] (.int 0)) (q0 : ¬ x < (0 : Int32)) (q1 : ¬ (255 : Int32) < x) (p0 : ¬ (61 : Int32) = x.toInt8.toInt32) (p1 : ¬ (43 : Int32) = x.toInt8.toInt32) (p2 : ¬ (45 : Int32) = x.toInt8.toInt32) (p3 : ¬ (64 : Int32) = x.toInt8.toInt32) (p4 : ¬ (9 : Int32) = x.toInt8.toInt32) (p5 : ¬ (13 : Int32) = x.toInt8.toInt32) :
    own_M l Z (⟨"java/lang/StringLatin1", "indexOf", "([BIII)I"⟩ : MethodName) (Jvm.Cond.code (⟨"java/lang/StringLatin1", "indexOf", "([BIII)I"⟩ : MethodName) jdk_43_method_22_code 4 (some .int)) ws ({ frames := 1, cells := 0, slots := 0, locals := 20 } : Room) #[(.ref b), (.int x), (.int (0 : Int32)), (.int (6 : Int32))] h0 (Q_rio_y Z b x k h0 n0) := by
  refine MetFree.of_bodySF (plainFor_of_name pn_20) hisR ?_
  intro p e s m args below meth c s₁ Bd hml0 hP hK
  obtain ⟨rfl, hZ, hh⟩ := hP
  have hx := Bd.exec
  have hby := Bd.bytes
  have hml : c.maxLocals = 4 := hml0
  have hown : s.vm.findClass "java/lang/StringLatin1" = some m.cls := findClass_of_methodNamed Bd.named
  have hnm := (name_of_methodNamed Bd.named Bd.method).1
  have X0 : Stand p l e ({ frames := 1, cells := 0, slots := 0, locals := 20 } : Room) s m #[(.ref b), (.int x), (.int (0 : Int32)), (.int (6 : Int32))] below meth c s₁ [] 0 0 := Stand.of_body Bd
  have e0 : s₁.heap = h0 := by rw [← hh, Bd.state]; rfl
  have N0 := Fr.nil n0
  show Goes p e below (Fin s (Q_rio_y Z b x k h0 n0) ({ frames := 1, cells := 0, slots := 0, locals := 20 } : Room).cells ({ frames := 1, cells := 0, slots := 0, locals := 20 } : Room).slots) _
  refine Goes.via (S' := s₁.setTop (mkF m 0 #[.val (.ref b), .val (.int x), .val (.int (0 : Int32)), .val (.int (6 : Int32))] [])) (fun tz kz => castTop (ef_20 m b x (0 : Int32) (6 : Int32) ) kz) ?_
  refine Goes.via (S' := s₁.setTop (mkF m 1 #[.val (.ref b), .val (.int x), .val (.int (0 : Int32)), .val (.int (6 : Int32))] [(.int x)])) (fun tz kz => ?_) ?_
  · show Steps p.tables e below (s₁.setTop (mkF m 0 #[.val (.ref b), .val (.int x), .val (.int (0 : Int32)), .val (.int (6 : Int32))] [])) _
    refine XS.iloadN X0.here hx rfl (hb hby d20_0) rfl ?_
    exact kz
  obtain ⟨_, _, ⟨T1, L1, k1, n1⟩, -, X1, ⟨Lc1, hQ1, l1, y1, z1⟩, st1⟩ := Jvm.LawKit.callS X0 hx (y := (⟨"java/lang/StringLatin1", "canEncode", "(I)Z"⟩ : MethodName)) hown (mvT hZ (w_ hw 99 rfl)) (mvT hZ (w_ hw 100 rfl)) (mvT hZ (w_ hw 75 rfl)) (mvT hZ (w_ hw 101 rfl)) (by decide) (backOf (W := 0) (rce_y l Z a0 hw [] x h0 n0 Z0 q0 q1) hZ (w_ hw 101 rfl) (w_ hw 75 rfl) (by decide) (by decide)) (g := (mkF m 1 #[.val (.ref b), .val (.int x), .val (.int (0 : Int32)), .val (.int (6 : Int32))] [(.int x)])) rfl (by rw [hml]; rfl) (argsL := [(.int x)]) (rest := []) (lenOf pd_14 rfl) rfl (by show 2 * 0 + _ ≤ _; exact Nat.le_of_eq rfl) (hb hby d20_1) (fun _ _ => ⟨rfl, e0, (by decide : 0 + 0 ≤ _), (by decide : 0 + 0 ≤ _)⟩)
  dsimp only [Pt.U, Pt.locs, Pt.cells, Pt.slots] at X1 l1 y1 z1 st1 hQ1
  subst l1 y1 z1
  obtain ⟨rfl, N1, e1⟩ := hQ1
  have Nf1 := Fr.app N0 N1
  refine Goes.via (S' := T1.setTop (mkF m 4 #[.val (.ref b), .val (.int x), .val (.int (0 : Int32)), .val (.int (6 : Int32))] [(.int (1 : Int32))])) (st1) ?_
  refine Goes.via (S' := T1.setTop (mkF m 11 #[.val (.ref b), .val (.int x), .val (.int (0 : Int32)), .val (.int (6 : Int32))] [(.int (0 : Int32)), (.int (0 : Int32))])) (fun tz kz => ?_) ?_
  · show Steps p.tables e below (T1.setTop (mkF m 4 #[.val (.ref b), .val (.int x), .val (.int (0 : Int32)), .val (.int (6 : Int32))] [(.int (1 : Int32))])) _
    refine XS.ifYes X1.here hx rfl (pc0 := 4) (pc' := 9) rfl (hb hby d20_4) rfl ((if0 _ _).trans (feq (by first | decide | rfl)).2) (by decide) (by decide) ?_
    refine XS.iloadN X1.here hx rfl (hb hby d20_9) rfl ?_
    refine XS.iconst X1.here hx rfl (hb hby d20_10) ?_
    exact kz
  obtain ⟨_, _, ⟨T2, L2, k2, n2⟩, -, X2, ⟨Lc2, hQ2, l2, y2, z2⟩, st2⟩ := Jvm.LawKit.callS X1 hx (y := (⟨"java/lang/Math", "max", "(II)I"⟩ : MethodName)) hown (mvT hZ (w_ hw 102 rfl)) (mvT hZ (w_ hw 103 rfl)) (mvT hZ (w_ hw 104 rfl)) (mvT hZ (w_ hw 105 rfl)) (by decide) (backOf (W := 0) (rmax0 l Z a0 hw [] h0 n0 Z0) hZ (w_ hw 105 rfl) (w_ hw 104 rfl) (by decide) (by decide)) (g := (mkF m 11 #[.val (.ref b), .val (.int x), .val (.int (0 : Int32)), .val (.int (6 : Int32))] [(.int (0 : Int32)), (.int (0 : Int32))])) rfl (by rw [hml]; rfl) (argsL := [(.int (0 : Int32)), (.int (0 : Int32))]) (rest := []) (lenOf pd_15 rfl) rfl (by show 2 * 0 + _ ≤ _; exact Nat.le_of_eq rfl) (hb hby d20_11) (fun _ _ => ⟨rfl, e1, (by decide : 0 + 0 ≤ _), (by decide : 0 + 0 ≤ _)⟩)
  dsimp only [Pt.U, Pt.locs, Pt.cells, Pt.slots] at X2 l2 y2 z2 st2 hQ2
  subst l2 y2 z2
  obtain ⟨rfl, N2, e2⟩ := hQ2
  have Nf2 := Fr.app Nf1 N2
  refine Goes.via (S' := T2.setTop (mkF m 14 #[.val (.ref b), .val (.int x), .val (.int (0 : Int32)), .val (.int (6 : Int32))] [(.int (0 : Int32))])) (st2) ?_
  refine Goes.via (S' := T2.setTop (mkF m 17 #[.val (.ref b), .val (.int x), .val (.int (0 : Int32)), .val (.int (6 : Int32))] [(.ref b), (.int (6 : Int32))])) (fun tz kz => ?_) ?_
  · show Steps p.tables e below (T2.setTop (mkF m 14 #[.val (.ref b), .val (.int x), .val (.int (0 : Int32)), .val (.int (6 : Int32))] [(.int (0 : Int32))])) _
    refine XS.istoreN X2.here hx rfl (hb hby d20_14) rfl (l' := #[.val (.ref b), .val (.int x), .val (.int (0 : Int32)), .val (.int (6 : Int32))]) rfl ?_
    refine XS.iloadN X2.here hx rfl (hb hby d20_15) rfl ?_
    refine XS.aloadN X2.here hx rfl (hb hby d20_16) rfl rfl ?_
    exact kz
  obtain ⟨cl3, Ar3, q3, Sz3, Nn3, Hs3, G3⟩ := (id BV)
  refine Goes.via (S' := T2.setTop (mkF m 18 #[.val (.ref b), .val (.int x), .val (.int (0 : Int32)), .val (.int (6 : Int32))] [(.int (6 : Int32)), (.int (6 : Int32))])) (fun tz kz => ?_) ?_
  · show Steps p.tables e below (T2.setTop (mkF m 17 #[.val (.ref b), .val (.int x), .val (.int (0 : Int32)), .val (.int (6 : Int32))] [(.ref b), (.int (6 : Int32))])) _
    refine X2.arraylength hx (by rw [e2]; exact Ar3.1) (State.isArrayOf_alike hZ.alike Ar3.2.1) (g := (mkF m 17 #[.val (.ref b), .val (.int x), .val (.int (0 : Int32)), .val (.int (6 : Int32))] [(.ref b), (.int (6 : Int32))])) rfl rfl (hb hby d20_17) _ ?_
    rw [len_of Sz3 Nn3]
    exact kz
  obtain ⟨_, _, ⟨T4, L4, k4, n4⟩, -, X4, ⟨Lc4, hQ4, l4, y4, z4⟩, st4⟩ := Jvm.LawKit.callS X2 hx (y := (⟨"java/lang/Math", "min", "(II)I"⟩ : MethodName)) hown (mvT hZ (w_ hw 106 rfl)) (mvT hZ (w_ hw 107 rfl)) (mvT hZ (w_ hw 104 rfl)) (mvT hZ (w_ hw 108 rfl)) (by decide) (backOf (W := 0) (rmin6 l Z a0 hw [] h0 n0 Z0) hZ (w_ hw 108 rfl) (w_ hw 104 rfl) (by decide) (by decide)) (g := (mkF m 18 #[.val (.ref b), .val (.int x), .val (.int (0 : Int32)), .val (.int (6 : Int32))] [(.int (6 : Int32)), (.int (6 : Int32))])) rfl (by rw [hml]; rfl) (argsL := [(.int (6 : Int32)), (.int (6 : Int32))]) (rest := []) (lenOf pd_15 rfl) rfl (by show 2 * 0 + _ ≤ _; exact Nat.le_of_eq rfl) (hb hby d20_18) (fun _ _ => ⟨rfl, e2, (by decide : 0 + 0 ≤ _), (by decide : 0 + 0 ≤ _)⟩)
  dsimp only [Pt.U, Pt.locs, Pt.cells, Pt.slots] at X4 l4 y4 z4 st4 hQ4
  subst l4 y4 z4
  obtain ⟨rfl, N4, e4⟩ := hQ4
  have Nf4 := Fr.app Nf2 N4
  refine Goes.via (S' := T4.setTop (mkF m 21 #[.val (.ref b), .val (.int x), .val (.int (0 : Int32)), .val (.int (6 : Int32))] [(.int (6 : Int32))])) (st4) ?_
  refine Goes.via (S' := T4.setTop (mkF m 33 #[.val (.ref b), .val (.int x), .val (.int (0 : Int32)), .val (.int (6 : Int32))] [(.int (6 : Int32)), (.int (0 : Int32)), (.int x), (.ref b)])) (fun tz kz => ?_) ?_
  · show Steps p.tables e below (T4.setTop (mkF m 21 #[.val (.ref b), .val (.int x), .val (.int (0 : Int32)), .val (.int (6 : Int32))] [(.int (6 : Int32))])) _
    refine XS.istoreN X4.here hx rfl (hb hby d20_21) rfl (l' := #[.val (.ref b), .val (.int x), .val (.int (0 : Int32)), .val (.int (6 : Int32))]) rfl ?_
    refine XS.iloadN X4.here hx rfl (hb hby d20_22) rfl ?_
    refine XS.iloadN X4.here hx rfl (hb hby d20_23) rfl ?_
    refine XS.icmpYes X4.here hx rfl (pc0 := 24) (pc' := 29) rfl (hb hby d20_24) rfl (tlt (by first | decide | rfl)).1 (by decide) (by decide) ?_
    show Steps p.tables e below (T4.setTop (mkF m 29 #[.val (.ref b), .val (.int x), .val (.int (0 : Int32)), .val (.int (6 : Int32))] [])) _
    refine XS.aloadN X4.here hx rfl (hb hby d20_29) rfl rfl ?_
    refine XS.iloadN X4.here hx rfl (hb hby d20_30) rfl ?_
    refine XS.iloadN X4.here hx rfl (hb hby d20_31) rfl ?_
    refine XS.iloadN X4.here hx rfl (hb hby d20_32) rfl ?_
    exact kz
  obtain ⟨_, _, ⟨T5, L5, k5, n5⟩, -, X5, ⟨Lc5, hQ5, l5, y5, z5⟩, st5⟩ := Jvm.LawKit.callS X4 hx (y := (⟨"java/lang/StringLatin1", "indexOfChar", "([BIII)I"⟩ : MethodName)) hown (mvT hZ (w_ hw 109 rfl)) (mvT hZ (w_ hw 110 rfl)) (mvT hZ (w_ hw 75 rfl)) (mvT hZ (w_ hw 111 rfl)) (by decide) (backOf (W := 0) (ric l Z a0 hw [] b x k h0 n0 Z0 BV p0 p1 p2 p3 p4 p5) hZ (w_ hw 111 rfl) (w_ hw 75 rfl) (by decide) (by decide)) (g := (mkF m 33 #[.val (.ref b), .val (.int x), .val (.int (0 : Int32)), .val (.int (6 : Int32))] [(.int (6 : Int32)), (.int (0 : Int32)), (.int x), (.ref b)])) rfl (by rw [hml]; rfl) (argsL := [(.ref b), (.int x), (.int (0 : Int32)), (.int (6 : Int32))]) (rest := []) (lenOf pd_16 rfl) rfl (by show 2 * 0 + _ ≤ _; exact Nat.le_of_eq rfl) (hb hby d20_33) (fun _ _ => ⟨rfl, e4, (by decide : 0 + 0 ≤ _), (by decide : 0 + 0 ≤ _)⟩)
  dsimp only [Pt.U, Pt.locs, Pt.cells, Pt.slots] at X5 l5 y5 z5 st5 hQ5
  subst l5 y5 z5
  obtain ⟨rfl, N5, e5⟩ := hQ5
  have Nf5 := Fr.app Nf4 N5
  refine Goes.via (S' := T5.setTop (mkF m 36 #[.val (.ref b), .val (.int x), .val (.int (0 : Int32)), .val (.int (6 : Int32))] [(.int (-1 : Int32))])) (st5) ?_
  exact Goes.retI X5 hx Bd.notSynchronized Bd.returns (hb hby d20_36) (Nat.le_of_ble_eq_true rfl) (Nat.le_of_ble_eq_true rfl) ⟨rfl, Nf5, e5⟩
def Q_rio_n (Z : State) (b : Addr) (x : Int32) (k : ClassId) (h0 : Heap) (n0 : Nat) : Option Value → Heap → List Loc → Prop := fun v h L => v = some (.int (-1 : Int32)) ∧ Fr n0 L ∧ h = h0
set_option maxRecDepth 65536 in
set_option maxHeartbeats 40000000 in
theorem rio_n (l : Launch) (Z : State) (a0 : Array Value) (hw : ∀ d ∈ tables_1, d.before a0 Z = true) (ws : List Jvm.Cond) (b : Addr) (x : Int32) (k : ClassId) (h0 : Heap) (n0 : Nat) (Z0 : n0 ≤ h0.size) (BV : Arv Z h0 b k .byte (6 : Int32) [.int (61 : Int32), .int (43 : Int32), .int (45 : Int32), .int (64 : Int32), .int (9 : Int32), .int (13 : Int32)] (.int 0)) (q0 : ¬ x < (0 : Int32)) (q1 : (255 : Int32) < x) :
    own_M l Z (⟨"java/lang/StringLatin1", "indexOf", "([BIII)I"⟩ : MethodName) (Jvm.Cond.code (⟨"java/lang/StringLatin1", "indexOf", "([BIII)I"⟩ : MethodName) jdk_43_method_22_code 4 (some .int)) ws ({ frames := 1, cells := 0, slots := 0, locals := 20 } : Room) #[(.ref b), (.int x), (.int (0 : Int32)), (.int (6 : Int32))] h0 (Q_rio_n Z b x k h0 n0) := by
  refine MetFree.of_bodySF (plainFor_of_name pn_20) hisR ?_
  intro p e s m args below meth c s₁ Bd hml0 hP hK
  obtain ⟨rfl, hZ, hh⟩ := hP
  have hx := Bd.exec
  have hby := Bd.bytes
  have hml : c.maxLocals = 4 := hml0
  have hown : s.vm.findClass "java/lang/StringLatin1" = some m.cls := findClass_of_methodNamed Bd.named
  have hnm := (name_of_methodNamed Bd.named Bd.method).1
  have X0 : Stand p l e ({ frames := 1, cells := 0, slots := 0, locals := 20 } : Room) s m #[(.ref b), (.int x), (.int (0 : Int32)), (.int (6 : Int32))] below meth c s₁ [] 0 0 := Stand.of_body Bd
  have e0 : s₁.heap = h0 := by rw [← hh, Bd.state]; rfl
  have N0 := Fr.nil n0
  show Goes p e below (Fin s (Q_rio_n Z b x k h0 n0) ({ frames := 1, cells := 0, slots := 0, locals := 20 } : Room).cells ({ frames := 1, cells := 0, slots := 0, locals := 20 } : Room).slots) _
  refine Goes.via (S' := s₁.setTop (mkF m 0 #[.val (.ref b), .val (.int x), .val (.int (0 : Int32)), .val (.int (6 : Int32))] [])) (fun tz kz => castTop (ef_20 m b x (0 : Int32) (6 : Int32) ) kz) ?_
  refine Goes.via (S' := s₁.setTop (mkF m 1 #[.val (.ref b), .val (.int x), .val (.int (0 : Int32)), .val (.int (6 : Int32))] [(.int x)])) (fun tz kz => ?_) ?_
  · show Steps p.tables e below (s₁.setTop (mkF m 0 #[.val (.ref b), .val (.int x), .val (.int (0 : Int32)), .val (.int (6 : Int32))] [])) _
    refine XS.iloadN X0.here hx rfl (hb hby d20_0) rfl ?_
    exact kz
  obtain ⟨_, _, ⟨T1, L1, k1, n1⟩, -, X1, ⟨Lc1, hQ1, l1, y1, z1⟩, st1⟩ := Jvm.LawKit.callS X0 hx (y := (⟨"java/lang/StringLatin1", "canEncode", "(I)Z"⟩ : MethodName)) hown (mvT hZ (w_ hw 99 rfl)) (mvT hZ (w_ hw 100 rfl)) (mvT hZ (w_ hw 75 rfl)) (mvT hZ (w_ hw 101 rfl)) (by decide) (backOf (W := 0) (rce_n l Z a0 hw [] x h0 n0 Z0 q0 q1) hZ (w_ hw 101 rfl) (w_ hw 75 rfl) (by decide) (by decide)) (g := (mkF m 1 #[.val (.ref b), .val (.int x), .val (.int (0 : Int32)), .val (.int (6 : Int32))] [(.int x)])) rfl (by rw [hml]; rfl) (argsL := [(.int x)]) (rest := []) (lenOf pd_14 rfl) rfl (by show 2 * 0 + _ ≤ _; exact Nat.le_of_eq rfl) (hb hby d20_1) (fun _ _ => ⟨rfl, e0, (by decide : 0 + 0 ≤ _), (by decide : 0 + 0 ≤ _)⟩)
  dsimp only [Pt.U, Pt.locs, Pt.cells, Pt.slots] at X1 l1 y1 z1 st1 hQ1
  subst l1 y1 z1
  obtain ⟨rfl, N1, e1⟩ := hQ1
  have Nf1 := Fr.app N0 N1
  refine Goes.via (S' := T1.setTop (mkF m 4 #[.val (.ref b), .val (.int x), .val (.int (0 : Int32)), .val (.int (6 : Int32))] [(.int (0 : Int32))])) (st1) ?_
  refine Goes.via (S' := T1.setTop (mkF m 8 #[.val (.ref b), .val (.int x), .val (.int (0 : Int32)), .val (.int (6 : Int32))] [(.int (-1 : Int32))])) (fun tz kz => ?_) ?_
  · show Steps p.tables e below (T1.setTop (mkF m 4 #[.val (.ref b), .val (.int x), .val (.int (0 : Int32)), .val (.int (6 : Int32))] [(.int (0 : Int32))])) _
    refine XS.ifNo X1.here hx rfl (hb hby d20_4) rfl ((if0 _ _).trans (teq (by first | decide | rfl)).2) ?_
    refine XS.iconst X1.here hx rfl (hb hby d20_7) ?_
    exact kz
  exact Goes.retI X1 hx Bd.notSynchronized Bd.returns (hb hby d20_8) (Nat.le_of_ble_eq_true rfl) (Nat.le_of_ble_eq_true rfl) ⟨rfl, Nf1, e1⟩
theorem rio (l : Launch) (Z : State) (a0 : Array Value) (hw : ∀ d ∈ tables_1, d.before a0 Z = true) (ws : List Jvm.Cond) (b : Addr) (x : Int32) (k : ClassId) (h0 : Heap) (n0 : Nat) (Z0 : n0 ≤ h0.size) (BV : Arv Z h0 b k .byte (6 : Int32) [.int (61 : Int32), .int (43 : Int32), .int (45 : Int32), .int (64 : Int32), .int (9 : Int32), .int (13 : Int32)] (.int 0)) (hf : own_nf x) :
    MetFree l (⟨"java/lang/StringLatin1", "indexOf", "([BIII)I"⟩ : MethodName) (head1 (Jvm.Cond.code (⟨"java/lang/StringLatin1", "indexOf", "([BIII)I"⟩ : MethodName) jdk_43_method_22_code 4 (some .int) :: ws) ({ frames := 1, cells := 0, slots := 0, locals := 20 } : Room)) (fun a U => a = #[.ref b, .int x, .int (0 : Int32), .int (6 : Int32)] ∧ Z.Warmed39 U.vm ∧ U.heap = h0) (fun _ _ _ _ _ => True) (fun _ U oo U' => ∃ vv LL, oo = .returned vv ∧ (Q_rio_y Z b x k h0 n0) vv U'.heap LL ∧ FrameEnd U oo U' LL ({ frames := 1, cells := 0, slots := 0, locals := 20 } : Room).cells ({ frames := 1, cells := 0, slots := 0, locals := 20 } : Room).slots) := by
  obtain ⟨q0, q1 | ⟨q1, p0, p1, p2, p3, p4, p5⟩⟩ := hf
  · exact rio_n l Z a0 hw ws b x k h0 n0 Z0 BV q0 q1
  · exact rio_y l Z a0 hw ws b x k h0 n0 Z0 BV q0 q1 p0 p1 p2 p3 p4 p5
theorem d19_0 : decode jdk_42_method_80_code 0 = .ok (.aload_n 0, 1) := by decide +kernel
theorem d19_1 : decode jdk_42_method_80_code 1 = .ok (.invokevirtual 492, 3) := by decide +kernel
theorem d19_4 : decode jdk_42_method_80_code 4 = .ok (.ifCond .eq 19, 3) := by decide +kernel
theorem d19_7 : decode jdk_42_method_80_code 7 = .ok (.aload_n 0, 1) := by decide +kernel
theorem d19_8 : decode jdk_42_method_80_code 8 = .ok (.getfield 9, 3) := by decide +kernel
theorem d19_11 : decode jdk_42_method_80_code 11 = .ok (.iload_n 1, 1) := by decide +kernel
theorem d19_12 : decode jdk_42_method_80_code 12 = .ok (.iload_n 2, 1) := by decide +kernel
theorem d19_13 : decode jdk_42_method_80_code 13 = .ok (.aload_n 0, 1) := by decide +kernel
theorem d19_14 : decode jdk_42_method_80_code 14 = .ok (.invokevirtual 505, 3) := by decide +kernel
theorem d19_17 : decode jdk_42_method_80_code 17 = .ok (.invokestatic 637, 3) := by decide +kernel
theorem d19_20 : decode jdk_42_method_80_code 20 = .ok (.goto 16, 3) := by decide +kernel
theorem d19_36 : decode jdk_42_method_80_code 36 = .ok (.ireturn, 1) := by decide +kernel
theorem pn_19 : plainName "java/lang/String" = true := by first | (simp [plainName, overriddenIn]; done) | decide +kernel
theorem ef_19 (m : MethodId) (x0 : Addr) (x1 : Int32) (x2 : Int32) : entryFrame m #[(.ref x0), (.int x1), (.int x2)] 3 = mkF m 0 #[.val (.ref x0), .val (.int x1), .val (.int x2)] [] := by first | (simp [entryFrame, mkF, argsToLocals, Value.category]; done) | rfl
def Q_ri2 (Z : State) (a1 : Addr) (x : Int32) (b : Addr) (k : ClassId) (cs : Int32) (h0 : Heap) (n0 : Nat) : Option Value → Heap → List Loc → Prop := fun v h L => v = some (.int (-1 : Int32)) ∧ Fr n0 L ∧ h = h0
set_option maxRecDepth 65536 in
set_option maxHeartbeats 40000000 in
theorem ri2 (l : Launch) (Z : State) (a0 : Array Value) (hw : ∀ d ∈ tables_1, d.before a0 Z = true) (ws : List Jvm.Cond) (a1 : Addr) (x : Int32) (b : Addr) (k : ClassId) (cs : Int32) (h0 : Heap) (n0 : Nat) (Z0 : n0 ≤ h0.size) (SC : Sta Z Z.heap "java/lang/String" "COMPACT_STRINGS" "Z" (.int cs)) (hcs : ¬ cs = (0 : Int32)) (O0 : Old Z n0 h0) (S : own_Str Z h0 a1 b k (6 : Int32) [.int (61 : Int32), .int (43 : Int32), .int (45 : Int32), .int (64 : Int32), .int (9 : Int32), .int (13 : Int32)]) (hf : own_nf x) :
    own_M l Z (⟨"java/lang/String", "indexOf", "(II)I"⟩ : MethodName) (Jvm.Cond.code (⟨"java/lang/String", "indexOf", "(II)I"⟩ : MethodName) jdk_42_method_80_code 3 (some .int)) ws ({ frames := 2, cells := 0, slots := 0, locals := 36 } : Room) #[(.ref a1), (.int x), (.int (0 : Int32))] h0 (Q_ri2 Z a1 x b k cs h0 n0) := by
  refine MetFree.of_bodySF (plainFor_of_name pn_19) hisR ?_
  intro p e s m args below meth c s₁ Bd hml0 hP hK
  obtain ⟨rfl, hZ, hh⟩ := hP
  have hx := Bd.exec
  have hby := Bd.bytes
  have hml : c.maxLocals = 3 := hml0
  have hown : s.vm.findClass "java/lang/String" = some m.cls := findClass_of_methodNamed Bd.named
  have hnm := (name_of_methodNamed Bd.named Bd.method).1
  have X0 : Stand p l e ({ frames := 2, cells := 0, slots := 0, locals := 36 } : Room) s m #[(.ref a1), (.int x), (.int (0 : Int32))] below meth c s₁ [] 0 0 := Stand.of_body Bd
  have e0 : s₁.heap = h0 := by rw [← hh, Bd.state]; rfl
  have N0 := Fr.nil n0
  show Goes p e below (Fin s (Q_ri2 Z a1 x b k cs h0 n0) ({ frames := 2, cells := 0, slots := 0, locals := 36 } : Room).cells ({ frames := 2, cells := 0, slots := 0, locals := 36 } : Room).slots) _
  refine Goes.via (S' := s₁.setTop (mkF m 0 #[.val (.ref a1), .val (.int x), .val (.int (0 : Int32))] [])) (fun tz kz => castTop (ef_19 m a1 x (0 : Int32) ) kz) ?_
  refine Goes.via (S' := s₁.setTop (mkF m 1 #[.val (.ref a1), .val (.int x), .val (.int (0 : Int32))] [(.ref a1)])) (fun tz kz => ?_) ?_
  · show Steps p.tables e below (s₁.setTop (mkF m 0 #[.val (.ref a1), .val (.int x), .val (.int (0 : Int32))] [])) _
    refine XS.aloadN X0.here hx rfl (hb hby d19_0) rfl rfl ?_
    exact kz
  obtain ⟨cq1, kq1, q1a, q1b, q1c⟩ := isOf hZ e0 S.1
  obtain ⟨_, _, ⟨T1, L1, k1, n1⟩, -, X1, ⟨Lc1, hQ1, l1, y1, z1⟩, st1⟩ := X0.virtualBack hx (y := (⟨"java/lang/String", "isLatin1", "()Z"⟩ : MethodName)) (z := (⟨"java/lang/String", "isLatin1", "()Z"⟩ : MethodName)) hown (mvT hZ (w_ hw 68 rfl)) (mvT hZ (w_ hw 69 rfl)) (notFace_of_selects (args := #[]) (mvT hZ (w_ hw 71 rfl))) (mvT hZ (w_ hw 71 rfl)) (mvT hZ (w_ hw 70 rfl)) (by decide) (backOf (W := 0) (ril_0 l Z a0 hw [] a1 cs h0 n0 Z0 SC hcs O0 S.2.1) hZ (w_ hw 72 rfl) (w_ hw 4 rfl) (by decide) (by decide)) q1a q1c (g := (mkF m 1 #[.val (.ref a1), .val (.int x), .val (.int (0 : Int32))] [(.ref a1)])) rfl (by rw [hml]; rfl) (Steps.refl _) (argsL := []) (rest := []) (lenOf pd_11 rfl) rfl (by show 2 * 0 + _ ≤ _; exact Nat.le_of_eq rfl) (hb hby d19_1) (fun _ _ => ⟨rfl, e0, (by decide : 0 + 0 ≤ _), (by decide : 0 + 0 ≤ _)⟩)
  dsimp only [Pt.U, Pt.locs, Pt.cells, Pt.slots] at X1 l1 y1 z1 st1 hQ1
  subst l1 y1 z1
  obtain ⟨rfl, N1, e1⟩ := hQ1
  have Nf1 := Fr.app N0 N1
  refine Goes.via (S' := T1.setTop (mkF m 4 #[.val (.ref a1), .val (.int x), .val (.int (0 : Int32))] [(.int (1 : Int32))])) (fun _ kz => st1.trans kz) ?_
  refine Goes.via (S' := T1.setTop (mkF m 8 #[.val (.ref a1), .val (.int x), .val (.int (0 : Int32))] [(.ref a1)])) (fun tz kz => ?_) ?_
  · show Steps p.tables e below (T1.setTop (mkF m 4 #[.val (.ref a1), .val (.int x), .val (.int (0 : Int32))] [(.int (1 : Int32))])) _
    refine XS.ifNo X1.here hx rfl (hb hby d19_4) rfl ((if0 _ _).trans (feq (by first | decide | rfl)).1) ?_
    refine XS.aloadN X1.here hx rfl (hb hby d19_7) rfl rfl ?_
    exact kz
  obtain ⟨T2, X2, e2, st2⟩ := getF X1 hx hZ hown (host := "") (Or.inl (w_ hw 21 rfl)) Via.refl e1 S.2.2.1 (g := (mkF m 8 #[.val (.ref a1), .val (.int x), .val (.int (0 : Int32))] [(.ref a1)])) rfl rfl (hb hby d19_8)
  refine Goes.via (S' := T2.setTop (mkF m 11 #[.val (.ref a1), .val (.int x), .val (.int (0 : Int32))] [(.ref b)])) st2 ?_
  refine Goes.via (S' := T2.setTop (mkF m 14 #[.val (.ref a1), .val (.int x), .val (.int (0 : Int32))] [(.ref a1), (.int (0 : Int32)), (.int x), (.ref b)])) (fun tz kz => ?_) ?_
  · show Steps p.tables e below (T2.setTop (mkF m 11 #[.val (.ref a1), .val (.int x), .val (.int (0 : Int32))] [(.ref b)])) _
    refine XS.iloadN X2.here hx rfl (hb hby d19_11) rfl ?_
    refine XS.iloadN X2.here hx rfl (hb hby d19_12) rfl ?_
    refine XS.aloadN X2.here hx rfl (hb hby d19_13) rfl rfl ?_
    exact kz
  obtain ⟨cq3, kq3, q3a, q3b, q3c⟩ := isOf hZ e2 S.1
  obtain ⟨_, _, ⟨T3, L3, k3, n3⟩, -, X3, ⟨Lc3, hQ3, l3, y3, z3⟩, st3⟩ := X2.virtualBack hx (y := (⟨"java/lang/String", "length", "()I"⟩ : MethodName)) (z := (⟨"java/lang/String", "length", "()I"⟩ : MethodName)) hown (mvT hZ (w_ hw 95 rfl)) (mvT hZ (w_ hw 33 rfl)) (notFace_of_selects (args := #[]) (mvT hZ (w_ hw 35 rfl))) (mvT hZ (w_ hw 35 rfl)) (mvT hZ (w_ hw 34 rfl)) (by decide) (backOf (W := 3) (rlen l Z a0 hw [] a1 b k cs (0 : Int32) (6 : Int32) (6 : Int32) _ h0 n0 Z0 SC hcs O0 S.1 S.2.1 S.2.2.1 S.2.2.2 rfl rfl) hZ (w_ hw 36 rfl) (w_ hw 4 rfl) (by decide) (by decide)) q3a q3c (g := (mkF m 14 #[.val (.ref a1), .val (.int x), .val (.int (0 : Int32))] [(.ref a1), (.int (0 : Int32)), (.int x), (.ref b)])) rfl (by rw [hml]; rfl) (Steps.refl _) (argsL := []) (rest := [(.int (0 : Int32)), (.int x), (.ref b)]) (lenOf pd_17 rfl) rfl (by show 2 * 0 + _ ≤ _; exact Nat.le_of_eq rfl) (hb hby d19_14) (fun _ _ => ⟨rfl, e2, (by decide : 0 + 0 ≤ _), (by decide : 0 + 0 ≤ _)⟩)
  dsimp only [Pt.U, Pt.locs, Pt.cells, Pt.slots] at X3 l3 y3 z3 st3 hQ3
  subst l3 y3 z3
  obtain ⟨rfl, N3, e3⟩ := hQ3
  have Nf3 := Fr.app Nf1 N3
  refine Goes.via (S' := T3.setTop (mkF m 17 #[.val (.ref a1), .val (.int x), .val (.int (0 : Int32))] [(.int (6 : Int32)), (.int (0 : Int32)), (.int x), (.ref b)])) (fun _ kz => st3.trans kz) ?_
  obtain ⟨_, _, ⟨T4, L4, k4, n4⟩, -, X4, ⟨Lc4, hQ4, l4, y4, z4⟩, st4⟩ := Jvm.LawKit.callS X3 hx (y := (⟨"java/lang/StringLatin1", "indexOf", "([BIII)I"⟩ : MethodName)) hown (mvT hZ (w_ hw 96 rfl)) (mvT hZ (w_ hw 97 rfl)) (mvT hZ (w_ hw 75 rfl)) (mvT hZ (w_ hw 98 rfl)) (by decide) (backOf (W := 0) (rio l Z a0 hw [] b x k h0 n0 Z0 S.2.2.2 hf) hZ (w_ hw 98 rfl) (w_ hw 75 rfl) (by decide) (by decide)) (g := (mkF m 17 #[.val (.ref a1), .val (.int x), .val (.int (0 : Int32))] [(.int (6 : Int32)), (.int (0 : Int32)), (.int x), (.ref b)])) rfl (by rw [hml]; rfl) (argsL := [(.ref b), (.int x), (.int (0 : Int32)), (.int (6 : Int32))]) (rest := []) (lenOf pd_16 rfl) rfl (by show 2 * 0 + _ ≤ _; exact Nat.le_of_eq rfl) (hb hby d19_17) (fun _ _ => ⟨rfl, e3, (by decide : 0 + 0 ≤ _), (by decide : 0 + 0 ≤ _)⟩)
  dsimp only [Pt.U, Pt.locs, Pt.cells, Pt.slots] at X4 l4 y4 z4 st4 hQ4
  subst l4 y4 z4
  obtain ⟨rfl, N4, e4⟩ := hQ4
  have Nf4 := Fr.app Nf3 N4
  refine Goes.via (S' := T4.setTop (mkF m 20 #[.val (.ref a1), .val (.int x), .val (.int (0 : Int32))] [(.int (-1 : Int32))])) (st4) ?_
  refine Goes.via (S' := T4.setTop (mkF m 36 #[.val (.ref a1), .val (.int x), .val (.int (0 : Int32))] [(.int (-1 : Int32))])) (fun tz kz => ?_) ?_
  · show Steps p.tables e below (T4.setTop (mkF m 20 #[.val (.ref a1), .val (.int x), .val (.int (0 : Int32))] [(.int (-1 : Int32))])) _
    refine XS.goto X4.here hx rfl (pc0 := 20) (pc' := 36) rfl (hb hby d19_20) (by decide) (by decide) ?_
    exact kz
  exact Goes.retI X4 hx Bd.notSynchronized Bd.returns (hb hby d19_36) (Nat.le_of_ble_eq_true rfl) (Nat.le_of_ble_eq_true rfl) ⟨rfl, Nf4, e4⟩
theorem d18_0 : decode jdk_42_method_79_code 0 = .ok (.aload_n 0, 1) := by decide +kernel
theorem d18_1 : decode jdk_42_method_79_code 1 = .ok (.iload_n 1, 1) := by decide +kernel
theorem d18_2 : decode jdk_42_method_79_code 2 = .ok (.iconst 0, 1) := by decide +kernel
theorem d18_3 : decode jdk_42_method_79_code 3 = .ok (.invokevirtual 633, 3) := by decide +kernel
theorem d18_6 : decode jdk_42_method_79_code 6 = .ok (.ireturn, 1) := by decide +kernel
theorem pn_18 : plainName "java/lang/String" = true := by first | (simp [plainName, overriddenIn]; done) | decide +kernel
theorem ef_18 (m : MethodId) (x0 : Addr) (x1 : Int32) : entryFrame m #[(.ref x0), (.int x1)] 2 = mkF m 0 #[.val (.ref x0), .val (.int x1)] [] := by first | (simp [entryFrame, mkF, argsToLocals, Value.category]; done) | rfl
def Q_ri1 (Z : State) (a1 : Addr) (x : Int32) (b : Addr) (k : ClassId) (cs : Int32) (h0 : Heap) (n0 : Nat) : Option Value → Heap → List Loc → Prop := fun v h L => v = some (.int (-1 : Int32)) ∧ Fr n0 L ∧ h = h0
set_option maxRecDepth 65536 in
set_option maxHeartbeats 40000000 in
theorem ri1 (l : Launch) (Z : State) (a0 : Array Value) (hw : ∀ d ∈ tables_1, d.before a0 Z = true) (ws : List Jvm.Cond) (a1 : Addr) (x : Int32) (b : Addr) (k : ClassId) (cs : Int32) (h0 : Heap) (n0 : Nat) (Z0 : n0 ≤ h0.size) (SC : Sta Z Z.heap "java/lang/String" "COMPACT_STRINGS" "Z" (.int cs)) (hcs : ¬ cs = (0 : Int32)) (O0 : Old Z n0 h0) (S : own_Str Z h0 a1 b k (6 : Int32) [.int (61 : Int32), .int (43 : Int32), .int (45 : Int32), .int (64 : Int32), .int (9 : Int32), .int (13 : Int32)]) (hf : own_nf x) :
    own_M l Z (⟨"java/lang/String", "indexOf", "(I)I"⟩ : MethodName) (Jvm.Cond.code (⟨"java/lang/String", "indexOf", "(I)I"⟩ : MethodName) jdk_42_method_79_code 2 (some .int)) ws ({ frames := 3, cells := 0, slots := 0, locals := 52 } : Room) #[(.ref a1), (.int x)] h0 (Q_ri1 Z a1 x b k cs h0 n0) := by
  refine MetFree.of_bodySF (plainFor_of_name pn_18) hisR ?_
  intro p e s m args below meth c s₁ Bd hml0 hP hK
  obtain ⟨rfl, hZ, hh⟩ := hP
  have hx := Bd.exec
  have hby := Bd.bytes
  have hml : c.maxLocals = 2 := hml0
  have hown : s.vm.findClass "java/lang/String" = some m.cls := findClass_of_methodNamed Bd.named
  have hnm := (name_of_methodNamed Bd.named Bd.method).1
  have X0 : Stand p l e ({ frames := 3, cells := 0, slots := 0, locals := 52 } : Room) s m #[(.ref a1), (.int x)] below meth c s₁ [] 0 0 := Stand.of_body Bd
  have e0 : s₁.heap = h0 := by rw [← hh, Bd.state]; rfl
  have N0 := Fr.nil n0
  show Goes p e below (Fin s (Q_ri1 Z a1 x b k cs h0 n0) ({ frames := 3, cells := 0, slots := 0, locals := 52 } : Room).cells ({ frames := 3, cells := 0, slots := 0, locals := 52 } : Room).slots) _
  refine Goes.via (S' := s₁.setTop (mkF m 0 #[.val (.ref a1), .val (.int x)] [])) (fun tz kz => castTop (ef_18 m a1 x ) kz) ?_
  refine Goes.via (S' := s₁.setTop (mkF m 3 #[.val (.ref a1), .val (.int x)] [(.int (0 : Int32)), (.int x), (.ref a1)])) (fun tz kz => ?_) ?_
  · show Steps p.tables e below (s₁.setTop (mkF m 0 #[.val (.ref a1), .val (.int x)] [])) _
    refine XS.aloadN X0.here hx rfl (hb hby d18_0) rfl rfl ?_
    refine XS.iloadN X0.here hx rfl (hb hby d18_1) rfl ?_
    refine XS.iconst X0.here hx rfl (hb hby d18_2) ?_
    exact kz
  obtain ⟨cq1, kq1, q1a, q1b, q1c⟩ := isOf hZ e0 S.1
  obtain ⟨_, _, ⟨T1, L1, k1, n1⟩, -, X1, ⟨Lc1, hQ1, l1, y1, z1⟩, st1⟩ := X0.virtualBack hx (y := (⟨"java/lang/String", "indexOf", "(II)I"⟩ : MethodName)) (z := (⟨"java/lang/String", "indexOf", "(II)I"⟩ : MethodName)) hown (mvT hZ (w_ hw 90 rfl)) (mvT hZ (w_ hw 91 rfl)) (notFace_of_selects (args := #[]) (mvT hZ (w_ hw 93 rfl))) (mvT hZ (w_ hw 93 rfl)) (mvT hZ (w_ hw 92 rfl)) (by decide) (backOf (W := 0) (ri2 l Z a0 hw [] a1 x b k cs h0 n0 Z0 SC hcs O0 S hf) hZ (w_ hw 94 rfl) (w_ hw 4 rfl) (by decide) (by decide)) q1a q1c (g := (mkF m 3 #[.val (.ref a1), .val (.int x)] [(.int (0 : Int32)), (.int x), (.ref a1)])) rfl (by rw [hml]; rfl) (Steps.refl _) (argsL := [(.int x), (.int (0 : Int32))]) (rest := []) (lenOf pd_15 rfl) rfl (by show 2 * 0 + _ ≤ _; exact Nat.le_of_eq rfl) (hb hby d18_3) (fun _ _ => ⟨rfl, e0, (by decide : 0 + 0 ≤ _), (by decide : 0 + 0 ≤ _)⟩)
  dsimp only [Pt.U, Pt.locs, Pt.cells, Pt.slots] at X1 l1 y1 z1 st1 hQ1
  subst l1 y1 z1
  obtain ⟨rfl, N1, e1⟩ := hQ1
  have Nf1 := Fr.app N0 N1
  refine Goes.via (S' := T1.setTop (mkF m 6 #[.val (.ref a1), .val (.int x)] [(.int (-1 : Int32))])) (fun _ kz => st1.trans kz) ?_
  exact Goes.retI X1 hx Bd.notSynchronized Bd.returns (hb hby d18_6) (Nat.le_of_ble_eq_true rfl) (Nat.le_of_ble_eq_true rfl) ⟨rfl, Nf1, e1⟩
theorem d8_0 : decode jdk_42_method_66_code 0 = .ok (.aload_n 0, 1) := by decide +kernel
theorem d8_1 : decode jdk_42_method_66_code 1 = .ok (.aload_n 1, 1) := by decide +kernel
theorem d8_2 : decode jdk_42_method_66_code 2 = .ok (.if_acmp .ne 5, 3) := by decide +kernel
theorem d8_5 : decode jdk_42_method_66_code 5 = .ok (.iconst 1, 1) := by decide +kernel
theorem d8_6 : decode jdk_42_method_66_code 6 = .ok (.ireturn, 1) := by decide +kernel
theorem pn_8 : plainName "java/lang/String" = true := by first | (simp [plainName, overriddenIn]; done) | decide +kernel
theorem ef_8 (m : MethodId) (x0 : Addr) (x1 : Addr) : entryFrame m #[(.ref x0), (.ref x1)] 3 = mkF m 0 #[.val (.ref x0), .val (.ref x1), .unset] [] := by first | (simp [entryFrame, mkF, argsToLocals, Value.category]; done) | rfl
def Q_rsame (Z : State)  (a1 : Addr) (h0 : Heap) (n0 : Nat) : Option Value → Heap → List Loc → Prop := fun v h L => v = some (.int (1 : Int32)) ∧ Fr n0 L ∧ h = h0
set_option maxRecDepth 65536 in
set_option maxHeartbeats 40000000 in
theorem rsame (l : Launch) (Z : State) (a0 : Array Value) (hw : ∀ d ∈ tables_1, d.before a0 Z = true) (ws : List Jvm.Cond)  (a1 : Addr) (h0 : Heap) (n0 : Nat) (Z0 : n0 ≤ h0.size) :
    own_M l Z (⟨"java/lang/String", "equals", "(Ljava/lang/Object;)Z"⟩ : MethodName) (Jvm.Cond.code (⟨"java/lang/String", "equals", "(Ljava/lang/Object;)Z"⟩ : MethodName) jdk_42_method_66_code 3 (some .boolean)) ws ({ frames := 0, cells := 0, slots := 0, locals := 0 } : Room) #[(.ref (a1)), (.ref (a1))] h0 (Q_rsame Z a1 h0 n0) := by
  refine MetFree.of_bodySF (plainFor_of_name pn_8) hisR ?_
  intro p e s m args below meth c s₁ Bd hml0 hP hK
  obtain ⟨rfl, hZ, hh⟩ := hP
  have hx := Bd.exec
  have hby := Bd.bytes
  have hml : c.maxLocals = 3 := hml0
  have hown : s.vm.findClass "java/lang/String" = some m.cls := findClass_of_methodNamed Bd.named
  have hnm := (name_of_methodNamed Bd.named Bd.method).1
  have X0 : Stand p l e ({ frames := 0, cells := 0, slots := 0, locals := 0 } : Room) s m #[(.ref (a1)), (.ref (a1))] below meth c s₁ [] 0 0 := Stand.of_body Bd
  have e0 : s₁.heap = h0 := by rw [← hh, Bd.state]; rfl
  have N0 := Fr.nil n0
  show Goes p e below (Fin s (Q_rsame Z a1 h0 n0) ({ frames := 0, cells := 0, slots := 0, locals := 0 } : Room).cells ({ frames := 0, cells := 0, slots := 0, locals := 0 } : Room).slots) _
  refine Goes.via (S' := s₁.setTop (mkF m 0 #[.val (.ref (a1)), .val (.ref (a1)), .unset] [])) (fun tz kz => castTop (ef_8 m (a1) (a1) ) kz) ?_
  refine Goes.via (S' := s₁.setTop (mkF m 6 #[.val (.ref (a1)), .val (.ref (a1)), .unset] [(.int (1 : Int32))])) (fun tz kz => ?_) ?_
  · show Steps p.tables e below (s₁.setTop (mkF m 0 #[.val (.ref (a1)), .val (.ref (a1)), .unset] [])) _
    refine XS.aloadN X0.here hx rfl (hb hby d8_0) rfl rfl ?_
    refine XS.aloadN X0.here hx rfl (hb hby d8_1) rfl rfl ?_
    refine Jvm.RoadKit.acmp (g := (mkF m 2 #[.val (.ref (a1)), .val (.ref (a1)), .unset] [(.ref (a1)), (.ref (a1))])) X0 hx rfl rfl rfl (pc0 := 2) (pc' := 5) (same := true) rfl (hb hby d8_2) rfl (decide_eq_true rfl) (by decide) (by decide) ?_
    refine XS.iconst X0.here hx rfl (hb hby d8_5) ?_
    exact kz
  exact Goes.retN X0 hx Bd.notSynchronized (t := .boolean) Bd.returns (by simp) (hb hby d8_6) (Nat.le_of_ble_eq_true rfl) (Nat.le_of_ble_eq_true rfl) ⟨rfl, N0, e0⟩
theorem d4_0 : decode prog_10_method_4_code 0 = .ok (.aload_n 0, 1) := by decide +kernel
theorem d4_1 : decode prog_10_method_4_code 1 = .ok (.invokevirtual 140, 3) := by decide +kernel
theorem d4_4 : decode prog_10_method_4_code 4 = .ok (.ifCond .ne 37, 3) := by decide +kernel
theorem d4_7 : decode prog_10_method_4_code 7 = .ok (.ldc 143, 2) := by decide +kernel
theorem d4_9 : decode prog_10_method_4_code 9 = .ok (.aload_n 0, 1) := by decide +kernel
theorem d4_10 : decode prog_10_method_4_code 10 = .ok (.iconst 0, 1) := by decide +kernel
theorem d4_11 : decode prog_10_method_4_code 11 = .ok (.invokevirtual 145, 3) := by decide +kernel
theorem d4_14 : decode prog_10_method_4_code 14 = .ok (.invokevirtual 149, 3) := by decide +kernel
theorem d4_17 : decode prog_10_method_4_code 17 = .ok (.ifCond .lt 24, 3) := by decide +kernel
theorem d4_41 : decode prog_10_method_4_code 41 = .ok (.aload_n 0, 1) := by decide +kernel
theorem d4_42 : decode prog_10_method_4_code 42 = .ok (.areturn, 1) := by decide +kernel
theorem pn_4 : plainName "com/example/vestline/vestline/format/Csv" = true := by first | (simp [plainName, overriddenIn]; done) | decide +kernel
theorem ef_4 (m : MethodId) (x0 : Addr) : entryFrame m #[(.ref x0)] 1 = mkF m 0 #[.val (.ref x0)] [] := by first | (simp [entryFrame, mkF, argsToLocals, Value.category]; done) | rfl
def Q_rpr_0 (Z : State) (a1 : Addr) (b : Addr) (k : ClassId) (cs : Int32) (fv : Value) (vs : List Value) (h0 : Heap) (n0 : Nat) : Option Value → Heap → List Loc → Prop := fun v h L => v = some (.ref a1) ∧ Fr n0 L ∧ Keep h0 h []
set_option maxRecDepth 65536 in
set_option maxHeartbeats 40000000 in
theorem rpr_0 (l : Launch) (Z : State) (a0 : Array Value) (hw : ∀ d ∈ tables_1, d.before a0 Z = true) (ws : List Jvm.Cond) (a1 : Addr) (b : Addr) (k : ClassId) (cs : Int32) (fv : Value) (vs : List Value) (h0 : Heap) (n0 : Nat) (Z0 : n0 ≤ h0.size) (SC : Sta Z Z.heap "java/lang/String" "COMPACT_STRINGS" "Z" (.int cs)) (hcs : ¬ cs = (0 : Int32)) (O0 : Old Z n0 h0) (SF : Sta Z Z.heap "jdk/internal/util/Preconditions" "SIOOBE_FORMATTER" "Ljava/util/function/BiFunction;" fv) (hfv : fv.isRef = true) (S : own_Str Z h0 a1 b k (0 : Int32) vs) :
    MetFree l (⟨"com/example/vestline/vestline/format/Csv", "printable", "(Ljava/lang/String;)Ljava/lang/String;"⟩ : MethodName) (head1 (Jvm.Cond.code (⟨"com/example/vestline/vestline/format/Csv", "printable", "(Ljava/lang/String;)Ljava/lang/String;"⟩ : MethodName) prog_10_method_4_code 1 (some (.object "java/lang/String")) :: ws) ({ frames := 5, cells := 2, slots := 28, locals := 90 } : Room)) (fun a U => a = #[(.ref a1)] ∧ Z.Warmed39 U.vm ∧ U.heap = h0 ∧ CHv Z consts_1 U.vm h0) (fun _ _ _ _ _ => True) (fun _ U oo U' => ∃ vv LL, oo = .returned vv ∧ (Q_rpr_0 Z a1 b k cs fv vs h0 n0) vv U'.heap LL ∧ CHr Z consts_1 U.vm U.heap U'.vm U'.heap ∧ ReturnedEndW U oo U' LL ({ frames := 5, cells := 2, slots := 28, locals := 90 } : Room).cells ({ frames := 5, cells := 2, slots := 28, locals := 90 } : Room).slots) := by
  refine MetFree.of_bodySF (plainFor_of_name pn_4) hisR ?_
  intro p e s m args below meth c s₁ Bd hml0 hP hK
  obtain ⟨rfl, hZ, hh, hH⟩ := hP
  have hx := Bd.exec
  have hby := Bd.bytes
  have hml : c.maxLocals = 1 := hml0
  have hown : s.vm.findClass "com/example/vestline/vestline/format/Csv" = some m.cls := findClass_of_methodNamed Bd.named
  have hnm := (name_of_methodNamed Bd.named Bd.method).1
  have X0 : Stand p l e ({ frames := 5, cells := 2, slots := 28, locals := 90 } : Room) s m #[(.ref a1)] below meth c s₁ [] 0 0 := Stand.of_body Bd
  have e0 : s₁.heap = h0 := by rw [← hh, Bd.state]; rfl
  have N0 := Fr.nil n0
  have hC0 : CHr Z consts_1 s.vm s.heap s.vm h0 := by rw [hh]; exact CHr.refl hH
  have hEL := own_EW hw
  have wS : ∀ d ∈ Bundle.stringAtoms, d.before a0 Z = true := by
    intro d hd
    simp only [Bundle.stringAtoms, List.mem_cons, List.not_mem_nil, or_false] at hd
    rcases hd with rfl | rfl | rfl | rfl | rfl | rfl | rfl
    · exact (w_ hw 4 rfl)
    · exact (w_ hw 3 rfl)
    · exact (w_ hw 16 rfl)
    · exact (w_ hw 17 rfl)
    · exact (w_ hw 18 rfl)
    · exact (w_ hw 19 rfl)
    · exact (w_ hw 20 rfl)
  show Goes p e below (FinH s Z consts_1 (Q_rpr_0 Z a1 b k cs fv vs h0 n0) ({ frames := 5, cells := 2, slots := 28, locals := 90 } : Room).cells ({ frames := 5, cells := 2, slots := 28, locals := 90 } : Room).slots) _
  refine Goes.via (S' := s₁.setTop (mkF m 0 #[.val (.ref a1)] [])) (fun tz kz => castTop (ef_4 m a1 ) kz) ?_
  refine Goes.via (S' := s₁.setTop (mkF m 1 #[.val (.ref a1)] [(.ref a1)])) (fun tz kz => ?_) ?_
  · show Steps p.tables e below (s₁.setTop (mkF m 0 #[.val (.ref a1)] [])) _
    refine XS.aloadN X0.here hx rfl (hb hby d4_0) rfl rfl ?_
    exact kz
  obtain ⟨cq1, kq1, q1a, q1b, q1c⟩ := isOf hZ e0 S.1
  obtain ⟨_, _, ⟨T1, L1, k1, n1⟩, -, X1, ⟨Lc1, hQ1, l1, y1, z1⟩, st1⟩ := X0.virtualBack hx (y := (⟨"java/lang/String", "isEmpty", "()Z"⟩ : MethodName)) (z := (⟨"java/lang/String", "isEmpty", "()Z"⟩ : MethodName)) hown (mvT hZ (w_ hw 27 rfl)) (mvT hZ (w_ hw 28 rfl)) (notFace_of_selects (args := #[]) (mvT hZ (w_ hw 30 rfl))) (mvT hZ (w_ hw 30 rfl)) (mvT hZ (w_ hw 29 rfl)) (by decide) (backOf (W := 0) (rie0 l Z a0 hw [] a1 b k vs h0 n0 Z0 S.2.2.1 S.2.2.2) hZ (w_ hw 31 rfl) (w_ hw 4 rfl) (by decide) (by decide)) q1a q1c (g := (mkF m 1 #[.val (.ref a1)] [(.ref a1)])) rfl (by rw [hml]; rfl) (Steps.refl _) (argsL := []) (rest := []) (lenOf pd_11 rfl) rfl (by show 2 * 0 + _ ≤ _; exact Nat.le_of_eq rfl) (hb hby d4_1) (fun _ _ => ⟨rfl, e0, (by decide : 0 + 0 ≤ _), (by decide : 0 + 0 ≤ _)⟩)
  dsimp only [Pt.U, Pt.locs, Pt.cells, Pt.slots] at X1 l1 y1 z1 st1 hQ1
  subst l1 y1 z1
  obtain ⟨rfl, N1, e1⟩ := hQ1
  have Nf1 := Fr.app N0 N1
  refine Goes.via (S' := T1.setTop (mkF m 4 #[.val (.ref a1)] [(.int (1 : Int32))])) (fun _ kz => st1.trans kz) ?_
  refine Goes.via (S' := T1.setTop (mkF m 42 #[.val (.ref a1)] [(.ref a1)])) (fun tz kz => ?_) ?_
  · show Steps p.tables e below (T1.setTop (mkF m 4 #[.val (.ref a1)] [(.int (1 : Int32))])) _
    refine XS.ifYes X1.here hx rfl (pc0 := 4) (pc' := 41) rfl (hb hby d4_4) rfl ((if0 _ _).trans (feq (by first | decide | rfl)).2) (by decide) (by decide) ?_
    refine XS.aloadN X1.here hx rfl (hb hby d4_41) rfl rfl ?_
    exact kz
  exact Goes.retOH (s := s) (vm1 := s.vm) X1 hx Bd.notSynchronized ((State.WarmedH.refl s).since 0) (Nat.zero_le _) e1 hZ hEL hC0 Bd.returns rfl (Or.inr (Or.inr (Or.inr (Or.inr ⟨rfl, rfl, rfl⟩)))) (hb hby d4_42) (Nat.le_of_ble_eq_true rfl) (Nat.le_of_ble_eq_true rfl) (by rw [e1]; exact ⟨rfl, Nf1, Keep.refl h0 []⟩)
def Q_rpr_L (Z : State) (a1 : Addr) (b : Addr) (k : ClassId) (cs : Int32) (n x : Int32) (fv : Value) (vs : List Value) (h0 : Heap) (n0 : Nat) : Option Value → Heap → List Loc → Prop := fun v h L => v = some (.ref a1) ∧ Fr n0 L ∧ Keep h0 h []
set_option maxRecDepth 65536 in
set_option maxHeartbeats 40000000 in
theorem rpr_L (l : Launch) (Z : State) (a0 : Array Value) (hw : ∀ d ∈ tables_1, d.before a0 Z = true) (ws : List Jvm.Cond) (a1 : Addr) (b : Addr) (k : ClassId) (cs : Int32) (n x : Int32) (fv : Value) (vs : List Value) (h0 : Heap) (n0 : Nat) (Z0 : n0 ≤ h0.size) (SC : Sta Z Z.heap "java/lang/String" "COMPACT_STRINGS" "Z" (.int cs)) (hcs : ¬ cs = (0 : Int32)) (O0 : Old Z n0 h0) (SF : Sta Z Z.heap "jdk/internal/util/Preconditions" "SIOOBE_FORMATTER" "Ljava/util/function/BiFunction;" fv) (hfv : fv.isRef = true) (S : own_Str Z h0 a1 b k n vs) (zx : nar .char x = x) (hf : own_nf x) (q : ¬ (0 : Int32) < (0 : Int32) ∧ (0 : Int32) < n) (g : vs.getD (0 : Int32).toNatClampNeg (.int 0) = .int (own_by x)) (sx : ¬ (255 : Int32) < x) (hz : ¬ n = (0 : Int32)) :
    MetFree l (⟨"com/example/vestline/vestline/format/Csv", "printable", "(Ljava/lang/String;)Ljava/lang/String;"⟩ : MethodName) (head1 (Jvm.Cond.code (⟨"com/example/vestline/vestline/format/Csv", "printable", "(Ljava/lang/String;)Ljava/lang/String;"⟩ : MethodName) prog_10_method_4_code 1 (some (.object "java/lang/String")) :: ws) ({ frames := 5, cells := 2, slots := 28, locals := 90 } : Room)) (fun a U => a = #[(.ref a1)] ∧ Z.Warmed39 U.vm ∧ U.heap = h0 ∧ CHv Z consts_1 U.vm h0) (fun _ _ _ _ _ => True) (fun _ U oo U' => ∃ vv LL, oo = .returned vv ∧ (Q_rpr_L Z a1 b k cs n x fv vs h0 n0) vv U'.heap LL ∧ CHr Z consts_1 U.vm U.heap U'.vm U'.heap ∧ ReturnedEndW U oo U' LL ({ frames := 5, cells := 2, slots := 28, locals := 90 } : Room).cells ({ frames := 5, cells := 2, slots := 28, locals := 90 } : Room).slots) := by
  refine MetFree.of_bodySF (plainFor_of_name pn_4) hisR ?_
  intro p e s m args below meth c s₁ Bd hml0 hP hK
  obtain ⟨rfl, hZ, hh, hH⟩ := hP
  have hx := Bd.exec
  have hby := Bd.bytes
  have hml : c.maxLocals = 1 := hml0
  have hown : s.vm.findClass "com/example/vestline/vestline/format/Csv" = some m.cls := findClass_of_methodNamed Bd.named
  have hnm := (name_of_methodNamed Bd.named Bd.method).1
  have X0 : Stand p l e ({ frames := 5, cells := 2, slots := 28, locals := 90 } : Room) s m #[(.ref a1)] below meth c s₁ [] 0 0 := Stand.of_body Bd
  have e0 : s₁.heap = h0 := by rw [← hh, Bd.state]; rfl
  have N0 := Fr.nil n0
  have hC0 : CHr Z consts_1 s.vm s.heap s.vm h0 := by rw [hh]; exact CHr.refl hH
  have hEL := own_EW hw
  have wS : ∀ d ∈ Bundle.stringAtoms, d.before a0 Z = true := by
    intro d hd
    simp only [Bundle.stringAtoms, List.mem_cons, List.not_mem_nil, or_false] at hd
    rcases hd with rfl | rfl | rfl | rfl | rfl | rfl | rfl
    · exact (w_ hw 4 rfl)
    · exact (w_ hw 3 rfl)
    · exact (w_ hw 16 rfl)
    · exact (w_ hw 17 rfl)
    · exact (w_ hw 18 rfl)
    · exact (w_ hw 19 rfl)
    · exact (w_ hw 20 rfl)
  show Goes p e below (FinH s Z consts_1 (Q_rpr_L Z a1 b k cs n x fv vs h0 n0) ({ frames := 5, cells := 2, slots := 28, locals := 90 } : Room).cells ({ frames := 5, cells := 2, slots := 28, locals := 90 } : Room).slots) _
  refine Goes.via (S' := s₁.setTop (mkF m 0 #[.val (.ref a1)] [])) (fun tz kz => castTop (ef_4 m a1 ) kz) ?_
  refine Goes.via (S' := s₁.setTop (mkF m 1 #[.val (.ref a1)] [(.ref a1)])) (fun tz kz => ?_) ?_
  · show Steps p.tables e below (s₁.setTop (mkF m 0 #[.val (.ref a1)] [])) _
    refine XS.aloadN X0.here hx rfl (hb hby d4_0) rfl rfl ?_
    exact kz
  obtain ⟨cq1, kq1, q1a, q1b, q1c⟩ := isOf hZ e0 S.1
  obtain ⟨_, _, ⟨T1, L1, k1, n1⟩, -, X1, ⟨Lc1, hQ1, l1, y1, z1⟩, st1⟩ := X0.virtualBack hx (y := (⟨"java/lang/String", "isEmpty", "()Z"⟩ : MethodName)) (z := (⟨"java/lang/String", "isEmpty", "()Z"⟩ : MethodName)) hown (mvT hZ (w_ hw 27 rfl)) (mvT hZ (w_ hw 28 rfl)) (notFace_of_selects (args := #[]) (mvT hZ (w_ hw 30 rfl))) (mvT hZ (w_ hw 30 rfl)) (mvT hZ (w_ hw 29 rfl)) (by decide) (backOf (W := 0) (rie l Z a0 hw [] a1 b k n vs h0 n0 Z0 S.2.2.1 S.2.2.2 hz) hZ (w_ hw 31 rfl) (w_ hw 4 rfl) (by decide) (by decide)) q1a q1c (g := (mkF m 1 #[.val (.ref a1)] [(.ref a1)])) rfl (by rw [hml]; rfl) (Steps.refl _) (argsL := []) (rest := []) (lenOf pd_11 rfl) rfl (by show 2 * 0 + _ ≤ _; exact Nat.le_of_eq rfl) (hb hby d4_1) (fun _ _ => ⟨rfl, e0, (by decide : 0 + 0 ≤ _), (by decide : 0 + 0 ≤ _)⟩)
  dsimp only [Pt.U, Pt.locs, Pt.cells, Pt.slots] at X1 l1 y1 z1 st1 hQ1
  subst l1 y1 z1
  obtain ⟨rfl, N1, e1⟩ := hQ1
  have Nf1 := Fr.app N0 N1
  refine Goes.via (S' := T1.setTop (mkF m 4 #[.val (.ref a1)] [(.int (0 : Int32))])) (fun _ kz => st1.trans kz) ?_
  refine Goes.via (S' := T1.setTop (mkF m 7 #[.val (.ref a1)] [])) (fun tz kz => ?_) ?_
  · show Steps p.tables e below (T1.setTop (mkF m 4 #[.val (.ref a1)] [(.int (0 : Int32))])) _
    refine XS.ifNo X1.here hx rfl (hb hby d4_4) rfl ((if0 _ _).trans (teq (by first | decide | rfl)).2) ?_
    exact kz
  obtain ⟨a2, T2, h2, k2, b2, kb2, X2, e2, E2, hS2, hk2, hZ, hown, Es2, Fc2, Fv2, Ab2, la2, lb2, hc2, Lt2, sf2, st2⟩   := ldcCH (s := s) (vm0 := s.vm) X1 hx hZ hown (w_ hw 62 rfl) wS e1 ((State.WarmedH.refl s).since 0) (Nat.zero_le _) hEL (by decide) hC0.1 (vs := [.int (61 : Int32), .int (43 : Int32), .int (45 : Int32), .int (64 : Int32), .int (9 : Int32), .int (13 : Int32)]) (z := (6 : Int32)) ⟨by decide, by decide⟩ (by decide) (by decide) (g := (mkF m 7 #[.val (.ref a1)] [])) rfl (hb hby d4_7) (n := 24) (by decide) (by decide) (by decide) (by decide)
  have hC2 := hC0.trans hc2
  refine Goes.via (S' := T2.setTop (mkF m 9 #[.val (.ref a1)] [(.ref a2)])) st2 ?_
  have S' := S.ext E2
  have O1 := O0.ext E2
  have Z1 := Nat.le_trans Z0 E2.1
  have SK : own_Str Z h2 a2 b2 kb2 (6 : Int32) [.int (61 : Int32), .int (43 : Int32), .int (45 : Int32), .int (64 : Int32), .int (9 : Int32), .int (13 : Int32)] := ⟨Es2, Fc2, Fv2, Ab2⟩
  refine Goes.via (S' := T2.setTop (mkF m 11 #[.val (.ref a1)] [(.int (0 : Int32)), (.ref a1), (.ref a2)])) (fun tz kz => ?_) ?_
  · show Steps p.tables e below (T2.setTop (mkF m 9 #[.val (.ref a1)] [(.ref a2)])) _
    refine XS.aloadN X2.here hx rfl (hb hby d4_9) rfl rfl ?_
    refine XS.iconst X2.here hx rfl (hb hby d4_10) ?_
    exact kz
  obtain ⟨cq3, kq3, q3a, q3b, q3c⟩ := isOf hZ e2 S'.1
  obtain ⟨_, _, ⟨T3, L3, k3, n3⟩, -, X3, ⟨Lc3, hQ3, l3, y3, z3⟩, st3⟩ := X2.virtualBack hx (y := (⟨"java/lang/String", "charAt", "(I)C"⟩ : MethodName)) (z := (⟨"java/lang/String", "charAt", "(I)C"⟩ : MethodName)) hown (mvT hZ (w_ hw 63 rfl)) (mvT hZ (w_ hw 64 rfl)) (notFace_of_selects (args := #[]) (mvT hZ (w_ hw 66 rfl))) (mvT hZ (w_ hw 66 rfl)) (mvT hZ (w_ hw 65 rfl)) (by decide) (backOf (W := 1) (rca_L l Z a0 hw [] a1 (0 : Int32) b k cs n x fv vs h2 n0 Z1 SC hcs O1 SF hfv S' zx q g sx) hZ (w_ hw 67 rfl) (w_ hw 4 rfl) (by decide) (by decide)) q3a q3c (g := (mkF m 11 #[.val (.ref a1)] [(.int (0 : Int32)), (.ref a1), (.ref a2)])) rfl (by rw [hml]; rfl) (Steps.refl _) (argsL := [(.int (0 : Int32))]) (rest := [(.ref a2)]) (lenOf pd_18 rfl) rfl (by show 2 * 0 + _ ≤ _; exact Nat.le_of_eq rfl) (hb hby d4_11) (fun _ _ => ⟨rfl, e2, (by decide : 2 + 0 ≤ _), (by decide : 28 + 0 ≤ _)⟩)
  dsimp only [Pt.U, Pt.locs, Pt.cells, Pt.slots] at X3 l3 y3 z3 st3 hQ3
  subst l3 y3 z3
  obtain ⟨rfl, N3, e3⟩ := hQ3
  have Nf3 := Fr.app Nf1 N3
  refine Goes.via (S' := T3.setTop (mkF m 14 #[.val (.ref a1)] [(.int x), (.ref a2)])) (fun _ kz => st3.trans kz) ?_
  obtain ⟨cq4, kq4, q4a, q4b, q4c⟩ := isOf hZ e3 SK.1
  obtain ⟨_, _, ⟨T4, L4, k4, n4⟩, -, X4, ⟨Lc4, hQ4, l4, y4, z4⟩, st4⟩ := X3.virtualBack hx (y := (⟨"java/lang/String", "indexOf", "(I)I"⟩ : MethodName)) (z := (⟨"java/lang/String", "indexOf", "(I)I"⟩ : MethodName)) hown (mvT hZ (w_ hw 85 rfl)) (mvT hZ (w_ hw 86 rfl)) (notFace_of_selects (args := #[]) (mvT hZ (w_ hw 88 rfl))) (mvT hZ (w_ hw 88 rfl)) (mvT hZ (w_ hw 87 rfl)) (by decide) (backOf (W := 0) (ri1 l Z a0 hw [] a2 x b2 kb2 cs h2 n0 Z1 SC hcs O1 SK hf) hZ (w_ hw 89 rfl) (w_ hw 4 rfl) (by decide) (by decide)) q4a q4c (g := (mkF m 14 #[.val (.ref a1)] [(.int x), (.ref a2)])) rfl (by rw [hml]; rfl) (Steps.refl _) (argsL := [(.int x)]) (rest := []) (lenOf pd_1 rfl) rfl (by show 2 * 0 + _ ≤ _; exact Nat.le_of_eq rfl) (hb hby d4_14) (fun _ _ => ⟨rfl, e3, (by decide : 2 + 0 ≤ _), (by decide : 28 + 0 ≤ _)⟩)
  dsimp only [Pt.U, Pt.locs, Pt.cells, Pt.slots] at X4 l4 y4 z4 st4 hQ4
  subst l4 y4 z4
  obtain ⟨rfl, N4, e4⟩ := hQ4
  have Nf4 := Fr.app Nf3 N4
  refine Goes.via (S' := T4.setTop (mkF m 17 #[.val (.ref a1)] [(.int (-1 : Int32))])) (fun _ kz => st4.trans kz) ?_
  refine Goes.via (S' := T4.setTop (mkF m 42 #[.val (.ref a1)] [(.ref a1)])) (fun tz kz => ?_) ?_
  · show Steps p.tables e below (T4.setTop (mkF m 17 #[.val (.ref a1)] [(.int (-1 : Int32))])) _
    refine XS.ifYes X4.here hx rfl (pc0 := 17) (pc' := 41) rfl (hb hby d4_17) rfl ((if0 _ _).trans (tlt (by first | decide | rfl)).1) (by decide) (by decide) ?_
    refine XS.aloadN X4.here hx rfl (hb hby d4_41) rfl rfl ?_
    exact kz
  exact Goes.retOH (s := s) (vm1 := T2.vm) X4 hx Bd.notSynchronized hS2 hk2 e4 hZ hEL hC2 Bd.returns rfl (Or.inr (Or.inr (Or.inr (Or.inr ⟨rfl, rfl, rfl⟩)))) (hb hby d4_42) (Nat.le_of_ble_eq_true rfl) (Nat.le_of_ble_eq_true rfl) (by rw [e4]; exact ⟨rfl, Nf4, (Keep.refl h0 []).ext E2⟩)
def Q_rpr_U (Z : State) (a1 : Addr) (b : Addr) (k : ClassId) (cs : Int32) (n2 n x : Int32) (fv : Value) (vs : List Value) (h0 : Heap) (n0 : Nat) : Option Value → Heap → List Loc → Prop := fun v h L => v = some (.ref a1) ∧ Fr n0 L ∧ Keep h0 h []
set_option maxRecDepth 65536 in
set_option maxHeartbeats 40000000 in
theorem rpr_U (l : Launch) (Z : State) (a0 : Array Value) (hw : ∀ d ∈ tables_1, d.before a0 Z = true) (ws : List Jvm.Cond) (a1 : Addr) (b : Addr) (k : ClassId) (cs : Int32) (n2 n x : Int32) (fv : Value) (vs : List Value) (h0 : Heap) (n0 : Nat) (Z0 : n0 ≤ h0.size) (SC : Sta Z Z.heap "java/lang/String" "COMPACT_STRINGS" "Z" (.int cs)) (hcs : ¬ cs = (0 : Int32)) (O0 : Old Z n0 h0) (SF : Sta Z Z.heap "jdk/internal/util/Preconditions" "SIOOBE_FORMATTER" "Ljava/util/function/BiFunction;" fv) (hfv : fv.isRef = true) (SA : Sta Z Z.heap "java/lang/StringUTF16" "$assertionsDisabled" "Z" (.int (1 : Int32))) (SH : Sta Z Z.heap "java/lang/StringUTF16" "HI_BYTE_SHIFT" "I" (.int (0 : Int32))) (SL : Sta Z Z.heap "java/lang/StringUTF16" "LO_BYTE_SHIFT" "I" (.int (8 : Int32))) (S : own_StU Z h0 a1 b k n2 vs) (zx : nar .char x = x) (hf : own_nf x) (hn : (n2 >>> ((1 : Int32) &&& 31)) = n) (q : ¬ (0 : Int32) < (0 : Int32) ∧ (0 : Int32) < n) (q0 : ¬ (0 : Int32) < (0 : Int32) ∧ (0 : Int32) < n2) (q1 : ¬ (1 : Int32) < (0 : Int32) ∧ (1 : Int32) < n2) (g0 : vs.getD (0 : Int32).toNatClampNeg (.int 0) = .int (own_lo x)) (g1 : vs.getD (1 : Int32).toNatClampNeg (.int 0) = .int (own_hi x)) (hz : ¬ n2 = (0 : Int32)) :
    MetFree l (⟨"com/example/vestline/vestline/format/Csv", "printable", "(Ljava/lang/String;)Ljava/lang/String;"⟩ : MethodName) (head1 (Jvm.Cond.code (⟨"com/example/vestline/vestline/format/Csv", "printable", "(Ljava/lang/String;)Ljava/lang/String;"⟩ : MethodName) prog_10_method_4_code 1 (some (.object "java/lang/String")) :: ws) ({ frames := 5, cells := 2, slots := 28, locals := 90 } : Room)) (fun a U => a = #[(.ref a1)] ∧ Z.Warmed39 U.vm ∧ U.heap = h0 ∧ CHv Z consts_1 U.vm h0) (fun _ _ _ _ _ => True) (fun _ U oo U' => ∃ vv LL, oo = .returned vv ∧ (Q_rpr_U Z a1 b k cs n2 n x fv vs h0 n0) vv U'.heap LL ∧ CHr Z consts_1 U.vm U.heap U'.vm U'.heap ∧ ReturnedEndW U oo U' LL ({ frames := 5, cells := 2, slots := 28, locals := 90 } : Room).cells ({ frames := 5, cells := 2, slots := 28, locals := 90 } : Room).slots) := by
  refine MetFree.of_bodySF (plainFor_of_name pn_4) hisR ?_
  intro p e s m args below meth c s₁ Bd hml0 hP hK
  obtain ⟨rfl, hZ, hh, hH⟩ := hP
  have hx := Bd.exec
  have hby := Bd.bytes
  have hml : c.maxLocals = 1 := hml0
  have hown : s.vm.findClass "com/example/vestline/vestline/format/Csv" = some m.cls := findClass_of_methodNamed Bd.named
  have hnm := (name_of_methodNamed Bd.named Bd.method).1
  have X0 : Stand p l e ({ frames := 5, cells := 2, slots := 28, locals := 90 } : Room) s m #[(.ref a1)] below meth c s₁ [] 0 0 := Stand.of_body Bd
  have e0 : s₁.heap = h0 := by rw [← hh, Bd.state]; rfl
  have N0 := Fr.nil n0
  have hC0 : CHr Z consts_1 s.vm s.heap s.vm h0 := by rw [hh]; exact CHr.refl hH
  have hEL := own_EW hw
  have wS : ∀ d ∈ Bundle.stringAtoms, d.before a0 Z = true := by
    intro d hd
    simp only [Bundle.stringAtoms, List.mem_cons, List.not_mem_nil, or_false] at hd
    rcases hd with rfl | rfl | rfl | rfl | rfl | rfl | rfl
    · exact (w_ hw 4 rfl)
    · exact (w_ hw 3 rfl)
    · exact (w_ hw 16 rfl)
    · exact (w_ hw 17 rfl)
    · exact (w_ hw 18 rfl)
    · exact (w_ hw 19 rfl)
    · exact (w_ hw 20 rfl)
  show Goes p e below (FinH s Z consts_1 (Q_rpr_U Z a1 b k cs n2 n x fv vs h0 n0) ({ frames := 5, cells := 2, slots := 28, locals := 90 } : Room).cells ({ frames := 5, cells := 2, slots := 28, locals := 90 } : Room).slots) _
  refine Goes.via (S' := s₁.setTop (mkF m 0 #[.val (.ref a1)] [])) (fun tz kz => castTop (ef_4 m a1 ) kz) ?_
  refine Goes.via (S' := s₁.setTop (mkF m 1 #[.val (.ref a1)] [(.ref a1)])) (fun tz kz => ?_) ?_
  · show Steps p.tables e below (s₁.setTop (mkF m 0 #[.val (.ref a1)] [])) _
    refine XS.aloadN X0.here hx rfl (hb hby d4_0) rfl rfl ?_
    exact kz
  obtain ⟨cq1, kq1, q1a, q1b, q1c⟩ := isOf hZ e0 S.1
  obtain ⟨_, _, ⟨T1, L1, k1, n1⟩, -, X1, ⟨Lc1, hQ1, l1, y1, z1⟩, st1⟩ := X0.virtualBack hx (y := (⟨"java/lang/String", "isEmpty", "()Z"⟩ : MethodName)) (z := (⟨"java/lang/String", "isEmpty", "()Z"⟩ : MethodName)) hown (mvT hZ (w_ hw 27 rfl)) (mvT hZ (w_ hw 28 rfl)) (notFace_of_selects (args := #[]) (mvT hZ (w_ hw 30 rfl))) (mvT hZ (w_ hw 30 rfl)) (mvT hZ (w_ hw 29 rfl)) (by decide) (backOf (W := 0) (rie l Z a0 hw [] a1 b k n2 vs h0 n0 Z0 S.2.2.1 S.2.2.2 hz) hZ (w_ hw 31 rfl) (w_ hw 4 rfl) (by decide) (by decide)) q1a q1c (g := (mkF m 1 #[.val (.ref a1)] [(.ref a1)])) rfl (by rw [hml]; rfl) (Steps.refl _) (argsL := []) (rest := []) (lenOf pd_11 rfl) rfl (by show 2 * 0 + _ ≤ _; exact Nat.le_of_eq rfl) (hb hby d4_1) (fun _ _ => ⟨rfl, e0, (by decide : 0 + 0 ≤ _), (by decide : 0 + 0 ≤ _)⟩)
  dsimp only [Pt.U, Pt.locs, Pt.cells, Pt.slots] at X1 l1 y1 z1 st1 hQ1
  subst l1 y1 z1
  obtain ⟨rfl, N1, e1⟩ := hQ1
  have Nf1 := Fr.app N0 N1
  refine Goes.via (S' := T1.setTop (mkF m 4 #[.val (.ref a1)] [(.int (0 : Int32))])) (fun _ kz => st1.trans kz) ?_
  refine Goes.via (S' := T1.setTop (mkF m 7 #[.val (.ref a1)] [])) (fun tz kz => ?_) ?_
  · show Steps p.tables e below (T1.setTop (mkF m 4 #[.val (.ref a1)] [(.int (0 : Int32))])) _
    refine XS.ifNo X1.here hx rfl (hb hby d4_4) rfl ((if0 _ _).trans (teq (by first | decide | rfl)).2) ?_
    exact kz
  obtain ⟨a2, T2, h2, k2, b2, kb2, X2, e2, E2, hS2, hk2, hZ, hown, Es2, Fc2, Fv2, Ab2, la2, lb2, hc2, Lt2, sf2, st2⟩   := ldcCH (s := s) (vm0 := s.vm) X1 hx hZ hown (w_ hw 62 rfl) wS e1 ((State.WarmedH.refl s).since 0) (Nat.zero_le _) hEL (by decide) hC0.1 (vs := [.int (61 : Int32), .int (43 : Int32), .int (45 : Int32), .int (64 : Int32), .int (9 : Int32), .int (13 : Int32)]) (z := (6 : Int32)) ⟨by decide, by decide⟩ (by decide) (by decide) (g := (mkF m 7 #[.val (.ref a1)] [])) rfl (hb hby d4_7) (n := 24) (by decide) (by decide) (by decide) (by decide)
  have hC2 := hC0.trans hc2
  refine Goes.via (S' := T2.setTop (mkF m 9 #[.val (.ref a1)] [(.ref a2)])) st2 ?_
  have S' := S.ext E2
  have O1 := O0.ext E2
  have Z1 := Nat.le_trans Z0 E2.1
  have SK : own_Str Z h2 a2 b2 kb2 (6 : Int32) [.int (61 : Int32), .int (43 : Int32), .int (45 : Int32), .int (64 : Int32), .int (9 : Int32), .int (13 : Int32)] := ⟨Es2, Fc2, Fv2, Ab2⟩
  refine Goes.via (S' := T2.setTop (mkF m 11 #[.val (.ref a1)] [(.int (0 : Int32)), (.ref a1), (.ref a2)])) (fun tz kz => ?_) ?_
  · show Steps p.tables e below (T2.setTop (mkF m 9 #[.val (.ref a1)] [(.ref a2)])) _
    refine XS.aloadN X2.here hx rfl (hb hby d4_9) rfl rfl ?_
    refine XS.iconst X2.here hx rfl (hb hby d4_10) ?_
    exact kz
  obtain ⟨cq3, kq3, q3a, q3b, q3c⟩ := isOf hZ e2 S'.1
  obtain ⟨_, _, ⟨T3, L3, k3, n3⟩, -, X3, ⟨Lc3, hQ3, l3, y3, z3⟩, st3⟩ := X2.virtualBack hx (y := (⟨"java/lang/String", "charAt", "(I)C"⟩ : MethodName)) (z := (⟨"java/lang/String", "charAt", "(I)C"⟩ : MethodName)) hown (mvT hZ (w_ hw 63 rfl)) (mvT hZ (w_ hw 64 rfl)) (notFace_of_selects (args := #[]) (mvT hZ (w_ hw 66 rfl))) (mvT hZ (w_ hw 66 rfl)) (mvT hZ (w_ hw 65 rfl)) (by decide) (backOf (W := 1) (rca_U l Z a0 hw [] a1 (0 : Int32) b k cs n2 n (0 : Int32) (1 : Int32) x fv vs h2 n0 Z1 SC hcs O1 SF hfv SA SH SL S' zx hn q rfl rfl q0 q1 g0 g1) hZ (w_ hw 67 rfl) (w_ hw 4 rfl) (by decide) (by decide)) q3a q3c (g := (mkF m 11 #[.val (.ref a1)] [(.int (0 : Int32)), (.ref a1), (.ref a2)])) rfl (by rw [hml]; rfl) (Steps.refl _) (argsL := [(.int (0 : Int32))]) (rest := [(.ref a2)]) (lenOf pd_18 rfl) rfl (by show 2 * 0 + _ ≤ _; exact Nat.le_of_eq rfl) (hb hby d4_11) (fun _ _ => ⟨rfl, e2, (by decide : 2 + 0 ≤ _), (by decide : 28 + 0 ≤ _)⟩)
  dsimp only [Pt.U, Pt.locs, Pt.cells, Pt.slots] at X3 l3 y3 z3 st3 hQ3
  subst l3 y3 z3
  obtain ⟨rfl, N3, e3⟩ := hQ3
  have Nf3 := Fr.app Nf1 N3
  refine Goes.via (S' := T3.setTop (mkF m 14 #[.val (.ref a1)] [(.int x), (.ref a2)])) (fun _ kz => st3.trans kz) ?_
  obtain ⟨cq4, kq4, q4a, q4b, q4c⟩ := isOf hZ e3 SK.1
  obtain ⟨_, _, ⟨T4, L4, k4, n4⟩, -, X4, ⟨Lc4, hQ4, l4, y4, z4⟩, st4⟩ := X3.virtualBack hx (y := (⟨"java/lang/String", "indexOf", "(I)I"⟩ : MethodName)) (z := (⟨"java/lang/String", "indexOf", "(I)I"⟩ : MethodName)) hown (mvT hZ (w_ hw 85 rfl)) (mvT hZ (w_ hw 86 rfl)) (notFace_of_selects (args := #[]) (mvT hZ (w_ hw 88 rfl))) (mvT hZ (w_ hw 88 rfl)) (mvT hZ (w_ hw 87 rfl)) (by decide) (backOf (W := 0) (ri1 l Z a0 hw [] a2 x b2 kb2 cs h2 n0 Z1 SC hcs O1 SK hf) hZ (w_ hw 89 rfl) (w_ hw 4 rfl) (by decide) (by decide)) q4a q4c (g := (mkF m 14 #[.val (.ref a1)] [(.int x), (.ref a2)])) rfl (by rw [hml]; rfl) (Steps.refl _) (argsL := [(.int x)]) (rest := []) (lenOf pd_1 rfl) rfl (by show 2 * 0 + _ ≤ _; exact Nat.le_of_eq rfl) (hb hby d4_14) (fun _ _ => ⟨rfl, e3, (by decide : 2 + 0 ≤ _), (by decide : 28 + 0 ≤ _)⟩)
  dsimp only [Pt.U, Pt.locs, Pt.cells, Pt.slots] at X4 l4 y4 z4 st4 hQ4
  subst l4 y4 z4
  obtain ⟨rfl, N4, e4⟩ := hQ4
  have Nf4 := Fr.app Nf3 N4
  refine Goes.via (S' := T4.setTop (mkF m 17 #[.val (.ref a1)] [(.int (-1 : Int32))])) (fun _ kz => st4.trans kz) ?_
  refine Goes.via (S' := T4.setTop (mkF m 42 #[.val (.ref a1)] [(.ref a1)])) (fun tz kz => ?_) ?_
  · show Steps p.tables e below (T4.setTop (mkF m 17 #[.val (.ref a1)] [(.int (-1 : Int32))])) _
    refine XS.ifYes X4.here hx rfl (pc0 := 17) (pc' := 41) rfl (hb hby d4_17) rfl ((if0 _ _).trans (tlt (by first | decide | rfl)).1) (by decide) (by decide) ?_
    refine XS.aloadN X4.here hx rfl (hb hby d4_41) rfl rfl ?_
    exact kz
  exact Goes.retOH (s := s) (vm1 := T2.vm) X4 hx Bd.notSynchronized hS2 hk2 e4 hZ hEL hC2 Bd.returns rfl (Or.inr (Or.inr (Or.inr (Or.inr ⟨rfl, rfl, rfl⟩)))) (hb hby d4_42) (Nat.le_of_ble_eq_true rfl) (Nat.le_of_ble_eq_true rfl) (by rw [e4]; exact ⟨rfl, Nf4, (Keep.refl h0 []).ext E2⟩)
def own_fs (c0 : Int32) : Int32 := (if c0 = (61 : Int32) then (1 : Int32) else (if c0 = (43 : Int32) then (1 : Int32) else (if c0 = (45 : Int32) then (1 : Int32) else (if c0 = (64 : Int32) then (1 : Int32) else (if c0 = (9 : Int32) then (1 : Int32) else (if c0 = (13 : Int32) then (1 : Int32) else (0 : Int32)))))))
theorem d12_0 : decode method_2_code 0 = .ok (.iload_n 0, 1) := by decide +kernel
theorem d12_1 : decode method_2_code 1 = .ok (.bipush 61, 2) := by decide +kernel
theorem d12_3 : decode method_2_code 3 = .ok (.if_icmp .eq 33, 3) := by decide +kernel
theorem d12_6 : decode method_2_code 6 = .ok (.iload_n 0, 1) := by decide +kernel
theorem d12_7 : decode method_2_code 7 = .ok (.bipush 43, 2) := by decide +kernel
theorem d12_9 : decode method_2_code 9 = .ok (.if_icmp .eq 27, 3) := by decide +kernel
theorem d12_12 : decode method_2_code 12 = .ok (.iload_n 0, 1) := by decide +kernel
theorem d12_13 : decode method_2_code 13 = .ok (.bipush 45, 2) := by decide +kernel
theorem d12_15 : decode method_2_code 15 = .ok (.if_icmp .eq 21, 3) := by decide +kernel
theorem d12_18 : decode method_2_code 18 = .ok (.iload_n 0, 1) := by decide +kernel
theorem d12_19 : decode method_2_code 19 = .ok (.bipush 64, 2) := by decide +kernel
theorem d12_21 : decode method_2_code 21 = .ok (.if_icmp .eq 15, 3) := by decide +kernel
theorem d12_24 : decode method_2_code 24 = .ok (.iload_n 0, 1) := by decide +kernel
theorem d12_25 : decode method_2_code 25 = .ok (.bipush 9, 2) := by decide +kernel
theorem d12_27 : decode method_2_code 27 = .ok (.if_icmp .eq 9, 3) := by decide +kernel
theorem d12_30 : decode method_2_code 30 = .ok (.iload_n 0, 1) := by decide +kernel
theorem d12_31 : decode method_2_code 31 = .ok (.bipush 13, 2) := by decide +kernel
theorem d12_33 : decode method_2_code 33 = .ok (.if_icmp .ne 7, 3) := by decide +kernel
theorem d12_36 : decode method_2_code 36 = .ok (.iconst 1, 1) := by decide +kernel
theorem d12_37 : decode method_2_code 37 = .ok (.goto 4, 3) := by decide +kernel
theorem d12_40 : decode method_2_code 40 = .ok (.iconst 0, 1) := by decide +kernel
theorem d12_41 : decode method_2_code 41 = .ok (.ireturn, 1) := by decide +kernel
theorem pn_12 : plainName "com/example/vestline/vestline/format/CsvPrintablePinLaw" = true := by first | (simp [plainName, overriddenIn]; done) | decide +kernel
theorem ef_12 (m : MethodId) (x0 : Int32) : entryFrame m #[(.int x0)] 1 = mkF m 0 #[.val (.int x0)] [] := by first | (simp [entryFrame, mkF, argsToLocals, Value.category]; done) | rfl
def Q_rfs (Z : State) (c0 : Int32)  (h0 : Heap) (n0 : Nat) : Option Value → Heap → List Loc → Prop := fun v h L => v = some (.int (nar .boolean (own_fs c0))) ∧ Fr n0 L ∧ h = h0
set_option maxRecDepth 65536 in
set_option maxHeartbeats 40000000 in
theorem rfs (l : Launch) (Z : State) (a0 : Array Value) (hw : ∀ d ∈ tables_1, d.before a0 Z = true) (ws : List Jvm.Cond) (c0 : Int32)  (h0 : Heap) (n0 : Nat) (Z0 : n0 ≤ h0.size) :
    own_M l Z (⟨"com/example/vestline/vestline/format/CsvPrintablePinLaw", "formulaStart", "(C)Z"⟩ : MethodName) (Jvm.Cond.code (⟨"com/example/vestline/vestline/format/CsvPrintablePinLaw", "formulaStart", "(C)Z"⟩ : MethodName) method_2_code 1 (some .boolean)) ws ({ frames := 0, cells := 0, slots := 0, locals := 0 } : Room) #[(.int c0)] h0 (Q_rfs Z c0 h0 n0) := by
  refine MetFree.of_bodySF (plainFor_of_name pn_12) hisR ?_
  intro p e s m args below meth c s₁ Bd hml0 hP hK
  obtain ⟨rfl, hZ, hh⟩ := hP
  have hx := Bd.exec
  have hby := Bd.bytes
  have hml : c.maxLocals = 1 := hml0
  have hown : s.vm.findClass "com/example/vestline/vestline/format/CsvPrintablePinLaw" = some m.cls := findClass_of_methodNamed Bd.named
  have hnm := (name_of_methodNamed Bd.named Bd.method).1
  have X0 : Stand p l e ({ frames := 0, cells := 0, slots := 0, locals := 0 } : Room) s m #[(.int c0)] below meth c s₁ [] 0 0 := Stand.of_body Bd
  have e0 : s₁.heap = h0 := by rw [← hh, Bd.state]; rfl
  have N0 := Fr.nil n0
  show Goes p e below (Fin s (Q_rfs Z c0 h0 n0) ({ frames := 0, cells := 0, slots := 0, locals := 0 } : Room).cells ({ frames := 0, cells := 0, slots := 0, locals := 0 } : Room).slots) _
  refine Goes.via (S' := s₁.setTop (mkF m 0 #[.val (.int c0)] [])) (fun tz kz => castTop (ef_12 m c0 ) kz) ?_
  refine Goes.via (S' := s₁.setTop (mkF m 3 #[.val (.int c0)] [(.int (61 : Int32)), (.int c0)])) (fun tz kz => ?_) ?_
  · show Steps p.tables e below (s₁.setTop (mkF m 0 #[.val (.int c0)] [])) _
    refine XS.iloadN X0.here hx rfl (hb hby d12_0) rfl ?_
    refine XS.bipush X0.here hx rfl (hb hby d12_1) ?_
    exact kz
  obtain ⟨r7, hr7⟩ : ∃ zz_ : Int32, zz_ = (if c0 = (61 : Int32) then (1 : Int32) else (if c0 = (43 : Int32) then (1 : Int32) else (if c0 = (45 : Int32) then (1 : Int32) else (if c0 = (64 : Int32) then (1 : Int32) else (if c0 = (9 : Int32) then (1 : Int32) else (if c0 = (13 : Int32) then (1 : Int32) else (0 : Int32))))))) := ⟨_, rfl⟩
  have j3_8 : ∀ t, Steps p.tables e below (s₁.setTop (mkF m 41 #[.val (.int c0)] [(.int r7)])) t → Steps p.tables e below (s₁.setTop (mkF m 3 #[.val (.int c0)] [(.int (61 : Int32)), (.int c0)])) t := by
    intro tz kz
    by_cases hc3_1 : c0 = (61 : Int32)
    · rw [if_pos hc3_1] at hr7
      show Steps p.tables e below (s₁.setTop (mkF m 3 #[.val (.int c0)] [(.int (61 : Int32)), (.int c0)])) _
      refine XS.icmpYes X0.here hx rfl (pc0 := 3) (pc' := 36) rfl (hb hby d12_3) rfl (teq hc3_1).1 (by decide) (by decide) ?_
      refine XS.iconst X0.here hx rfl (hb hby d12_36) ?_
      refine XS.goto X0.here hx rfl (pc0 := 37) (pc' := 41) rfl (hb hby d12_37) (by decide) (by decide) ?_
      subst hr7
      exact kz
    · rw [if_neg hc3_1] at hr7
      show Steps p.tables e below (s₁.setTop (mkF m 3 #[.val (.int c0)] [(.int (61 : Int32)), (.int c0)])) _
      refine XS.icmpNo X0.here hx rfl (hb hby d12_3) rfl (feq hc3_1).1 ?_
      refine XS.iloadN X0.here hx rfl (hb hby d12_6) rfl ?_
      refine XS.bipush X0.here hx rfl (hb hby d12_7) ?_
      by_cases hc9_2 : c0 = (43 : Int32)
      · rw [if_pos hc9_2] at hr7
        show Steps p.tables e below (s₁.setTop (mkF m 9 #[.val (.int c0)] [(.int (43 : Int32)), (.int c0)])) _
        refine XS.icmpYes X0.here hx rfl (pc0 := 9) (pc' := 36) rfl (hb hby d12_9) rfl (teq hc9_2).1 (by decide) (by decide) ?_
        refine XS.iconst X0.here hx rfl (hb hby d12_36) ?_
        refine XS.goto X0.here hx rfl (pc0 := 37) (pc' := 41) rfl (hb hby d12_37) (by decide) (by decide) ?_
        subst hr7
        exact kz
      · rw [if_neg hc9_2] at hr7
        show Steps p.tables e below (s₁.setTop (mkF m 9 #[.val (.int c0)] [(.int (43 : Int32)), (.int c0)])) _
        refine XS.icmpNo X0.here hx rfl (hb hby d12_9) rfl (feq hc9_2).1 ?_
        refine XS.iloadN X0.here hx rfl (hb hby d12_12) rfl ?_
        refine XS.bipush X0.here hx rfl (hb hby d12_13) ?_
        by_cases hc15_3 : c0 = (45 : Int32)
        · rw [if_pos hc15_3] at hr7
          show Steps p.tables e below (s₁.setTop (mkF m 15 #[.val (.int c0)] [(.int (45 : Int32)), (.int c0)])) _
          refine XS.icmpYes X0.here hx rfl (pc0 := 15) (pc' := 36) rfl (hb hby d12_15) rfl (teq hc15_3).1 (by decide) (by decide) ?_
          refine XS.iconst X0.here hx rfl (hb hby d12_36) ?_
          refine XS.goto X0.here hx rfl (pc0 := 37) (pc' := 41) rfl (hb hby d12_37) (by decide) (by decide) ?_
          subst hr7
          exact kz
        · rw [if_neg hc15_3] at hr7
          show Steps p.tables e below (s₁.setTop (mkF m 15 #[.val (.int c0)] [(.int (45 : Int32)), (.int c0)])) _
          refine XS.icmpNo X0.here hx rfl (hb hby d12_15) rfl (feq hc15_3).1 ?_
          refine XS.iloadN X0.here hx rfl (hb hby d12_18) rfl ?_
          refine XS.bipush X0.here hx rfl (hb hby d12_19) ?_
          by_cases hc21_4 : c0 = (64 : Int32)
          · rw [if_pos hc21_4] at hr7
            show Steps p.tables e below (s₁.setTop (mkF m 21 #[.val (.int c0)] [(.int (64 : Int32)), (.int c0)])) _
            refine XS.icmpYes X0.here hx rfl (pc0 := 21) (pc' := 36) rfl (hb hby d12_21) rfl (teq hc21_4).1 (by decide) (by decide) ?_
            refine XS.iconst X0.here hx rfl (hb hby d12_36) ?_
            refine XS.goto X0.here hx rfl (pc0 := 37) (pc' := 41) rfl (hb hby d12_37) (by decide) (by decide) ?_
            subst hr7
            exact kz
          · rw [if_neg hc21_4] at hr7
            show Steps p.tables e below (s₁.setTop (mkF m 21 #[.val (.int c0)] [(.int (64 : Int32)), (.int c0)])) _
            refine XS.icmpNo X0.here hx rfl (hb hby d12_21) rfl (feq hc21_4).1 ?_
            refine XS.iloadN X0.here hx rfl (hb hby d12_24) rfl ?_
            refine XS.bipush X0.here hx rfl (hb hby d12_25) ?_
            by_cases hc27_5 : c0 = (9 : Int32)
            · rw [if_pos hc27_5] at hr7
              show Steps p.tables e below (s₁.setTop (mkF m 27 #[.val (.int c0)] [(.int (9 : Int32)), (.int c0)])) _
              refine XS.icmpYes X0.here hx rfl (pc0 := 27) (pc' := 36) rfl (hb hby d12_27) rfl (teq hc27_5).1 (by decide) (by decide) ?_
              refine XS.iconst X0.here hx rfl (hb hby d12_36) ?_
              refine XS.goto X0.here hx rfl (pc0 := 37) (pc' := 41) rfl (hb hby d12_37) (by decide) (by decide) ?_
              subst hr7
              exact kz
            · rw [if_neg hc27_5] at hr7
              show Steps p.tables e below (s₁.setTop (mkF m 27 #[.val (.int c0)] [(.int (9 : Int32)), (.int c0)])) _
              refine XS.icmpNo X0.here hx rfl (hb hby d12_27) rfl (feq hc27_5).1 ?_
              refine XS.iloadN X0.here hx rfl (hb hby d12_30) rfl ?_
              refine XS.bipush X0.here hx rfl (hb hby d12_31) ?_
              by_cases hc33_6 : c0 = (13 : Int32)
              · rw [if_pos hc33_6] at hr7
                show Steps p.tables e below (s₁.setTop (mkF m 33 #[.val (.int c0)] [(.int (13 : Int32)), (.int c0)])) _
                refine XS.icmpNo X0.here hx rfl (hb hby d12_33) rfl (teq hc33_6).2 ?_
                refine XS.iconst X0.here hx rfl (hb hby d12_36) ?_
                refine XS.goto X0.here hx rfl (pc0 := 37) (pc' := 41) rfl (hb hby d12_37) (by decide) (by decide) ?_
                subst hr7
                exact kz
              · rw [if_neg hc33_6] at hr7
                show Steps p.tables e below (s₁.setTop (mkF m 33 #[.val (.int c0)] [(.int (13 : Int32)), (.int c0)])) _
                refine XS.icmpYes X0.here hx rfl (pc0 := 33) (pc' := 40) rfl (hb hby d12_33) rfl (feq hc33_6).2 (by decide) (by decide) ?_
                refine XS.iconst X0.here hx rfl (hb hby d12_40) ?_
                subst hr7
                exact kz
  refine Goes.via j3_8 ?_
  exact Goes.retN X0 hx Bd.notSynchronized (t := .boolean) Bd.returns (by simp) (hb hby d12_41) (Nat.le_of_ble_eq_true rfl) (Nat.le_of_ble_eq_true rfl) ⟨congrArg (fun z => some (Value.int (nar .boolean z))) hr7, N0, e0⟩
theorem own_fs0 {c0 : Int32} (h : nar .boolean (own_fs c0) = 0) : ¬ c0 = 61 ∧ ¬ c0 = 43 ∧ ¬ c0 = 45 ∧ ¬ c0 = 64 ∧ ¬ c0 = 9 ∧ ¬ c0 = 13 := by
  unfold own_fs at h
  refine ⟨fun q => ?_, fun q => ?_, fun q => ?_, fun q => ?_, fun q => ?_, fun q => ?_⟩ <;> (subst q; exact absurd h (by decide))
theorem own_nff {c0 : Int32} (hc : nar .char c0 = c0) (h : nar .boolean (own_fs c0) = 0) : own_nf c0 := by
  obtain ⟨q0, q1, q2, q3, q4, q5⟩ := own_fs0 h
  exact own_nfi hc q0 q1 q2 q3 q4 q5
theorem own_nc (x : Int32) : nar .char (x.toUInt32.toUInt16.toUInt32.toInt32) = x.toUInt32.toUInt16.toUInt32.toInt32 := by
  show (x.toUInt32.toUInt16.toUInt32.toInt32).toUInt32.toUInt16.toUInt32.toInt32 = _
  have e : (x.toUInt32.toUInt16.toUInt32.toInt32).toUInt32 = x.toUInt32.toUInt16.toUInt32 := rfl
  rw [e, UInt16.toUInt16_toUInt32]
theorem own_and3 {x : Int32} (h0 : ¬ (x &&& (3 : Int32)) = 0) (h1 : ¬ (x &&& (3 : Int32)) = 1) (h2 : ¬ (x &&& (3 : Int32)) = 2) : (x &&& (3 : Int32)) = 3 := by
  have h := c_and x 3 (by decide)
  have z3 : (3 : Int32).toInt = 3 := by decide
  have z0 : (0 : Int32).toInt = 0 := by decide
  have z1 : (1 : Int32).toInt = 1 := by decide
  have z2 : (2 : Int32).toInt = 2 := by decide
  rw [← Int32.toInt_inj] at h0 h1 h2
  exact Int32.toInt_inj.mp (by omega)
theorem own_bge {x k : Int32} (e : x = k) (h : (0 : Int32) < k) : (0 : Int32) < x := e ▸ h
theorem own_bz {x : Int32} (e : x = 0) : ¬ (0 : Int32) < x := by rw [e]; decide
theorem pn_0 : plainName "com/example/vestline/vestline/format/CsvPrintablePinLaw" = true := by first | (simp [plainName, overriddenIn]; done) | decide +kernel
theorem ef_0 (m : MethodId) (x0 : Int32) (x1 : Int32) (x2 : Int32) (x3 : Int32) : entryFrame m #[(.int x0), (.int x1), (.int x2), (.int x3)] maxLocals = mkF m 0 #[.val (.int x0), .val (.int x1), .val (.int x2), .val (.int x3), .unset, .unset, .unset, .unset, .unset, .unset, .unset] [] := by first | (simp [entryFrame, mkF, argsToLocals, Value.category, maxLocals]; done) | rfl
def Q_rm0 (Z : State) (p1 : Int32) (p2 : Int32) (p3 : Int32) (p4 : Int32) (cs : Int32) (fv : Value) (h0 : Heap) (n0 : Nat) : Option Value → Heap → List Loc → Prop := fun v h L => v = some (.int 1) ∧ Fr n0 L
set_option maxRecDepth 65536 in
set_option maxHeartbeats 40000000 in
theorem rm0 (l : Launch) (Z : State) (a0 : Array Value) (hw : ∀ d ∈ tables_1, d.before a0 Z = true) (ws : List Jvm.Cond) (p1 : Int32) (p2 : Int32) (p3 : Int32) (p4 : Int32) (cs : Int32) (fv : Value) (h0 : Heap) (n0 : Nat) (Z0 : n0 ≤ h0.size) (SC : Sta Z Z.heap "java/lang/String" "COMPACT_STRINGS" "Z" (.int cs)) (hcs : ¬ cs = (0 : Int32)) (O0 : Old Z n0 h0) (SF : Sta Z Z.heap "jdk/internal/util/Preconditions" "SIOOBE_FORMATTER" "Ljava/util/function/BiFunction;" fv) (hfv : fv.isRef = true) (SA : Sta Z Z.heap "java/lang/StringUTF16" "$assertionsDisabled" "Z" (.int (1 : Int32))) (SH : Sta Z Z.heap "java/lang/StringUTF16" "HI_BYTE_SHIFT" "I" (.int (0 : Int32))) (SL : Sta Z Z.heap "java/lang/StringUTF16" "LO_BYTE_SHIFT" "I" (.int (8 : Int32))) :
    MetFree l x (head1 (Jvm.Cond.code x code maxLocals ret :: ws) room_1) (fun a U => a = #[(.int p1), (.int p2), (.int p3), (.int p4)] ∧ Z.Warmed39 U.vm ∧ U.heap = h0 ∧ CHv Z consts_1 U.vm h0) (fun _ _ _ _ _ => True) (fun _ U oo U' => ∃ vv LL, oo = .returned vv ∧ (Q_rm0 Z p1 p2 p3 p4 cs fv h0 n0) vv U'.heap LL ∧ CHr Z consts_1 U.vm U.heap U'.vm U'.heap ∧ ReturnedEndW U oo U' LL room_1.cells room_1.slots) := by
  refine MetFree.of_bodySF (plainFor_of_name pn_0) hisR ?_
  intro p e s m args below meth c s₁ Bd hml0 hP hK
  obtain ⟨rfl, hZ, hh, hH⟩ := hP
  have hx := Bd.exec
  have hby := Bd.bytes
  have hml : c.maxLocals = 11 := hml0
  have hown : s.vm.findClass "com/example/vestline/vestline/format/CsvPrintablePinLaw" = some m.cls := findClass_of_methodNamed Bd.named
  have hnm := (name_of_methodNamed Bd.named Bd.method).1
  have X0 : Stand p l e room_1 s m #[(.int p1), (.int p2), (.int p3), (.int p4)] below meth c s₁ [] 0 0 := Stand.of_body Bd
  have e0 : s₁.heap = h0 := by rw [← hh, Bd.state]; rfl
  have N0 := Fr.nil n0
  have hC0 : CHr Z consts_1 s.vm s.heap s.vm h0 := by rw [hh]; exact CHr.refl hH
  have hEL := own_EW hw
  show Goes p e below (FinH s Z consts_1 (Q_rm0 Z p1 p2 p3 p4 cs fv h0 n0) room_1.cells room_1.slots) _
  refine Goes.via (S' := s₁.setTop (mkF m 0 #[.val (.int p1), .val (.int p2), .val (.int p3), .val (.int p4), .unset, .unset, .unset, .unset, .unset, .unset, .unset] [])) (fun tz kz => castTop (ef_0 m p1 p2 p3 p4 ) kz) ?_
  refine Goes.via (S' := s₁.setTop (mkF m 28 #[.val (.int p1), .val (.int p2), .val (.int p3), .val (.int p4), .val (.int (p1 &&& (3 : Int32))), .val (.int ((p2 &&& (65535 : Int32)).toUInt32.toUInt16.toUInt32.toInt32)), .val (.int ((p3 &&& (65535 : Int32)).toUInt32.toUInt16.toUInt32.toInt32)), .val (.int ((p4 &&& (65535 : Int32)).toUInt32.toUInt16.toUInt32.toInt32)), .unset, .unset, .unset] [(.int (p1 &&& (3 : Int32)))])) (fun tz kz => ?_) ?_
  · show Steps p.tables e below (s₁.setTop (mkF m 0 #[.val (.int p1), .val (.int p2), .val (.int p3), .val (.int p4), .unset, .unset, .unset, .unset, .unset, .unset, .unset] [])) _
    refine XS.iloadN X0.here hx rfl (hb hby at_0) rfl ?_
    refine XS.iconst X0.here hx rfl (hb hby at_1) ?_
    refine XS.iand X0.here hx rfl (hb hby at_2) rfl ?_
    refine XS.istore X0.here hx rfl (hb hby at_3) rfl (l' := #[.val (.int p1), .val (.int p2), .val (.int p3), .val (.int p4), .val (.int (p1 &&& (3 : Int32))), .unset, .unset, .unset, .unset, .unset, .unset]) rfl ?_
    show Steps p.tables e below (s₁.setTop (mkF m 5 #[.val (.int p1), .val (.int p2), .val (.int p3), .val (.int p4), .val (.int (p1 &&& (3 : Int32))), .unset, .unset, .unset, .unset, .unset, .unset] [])) _
    refine XS.iloadN X0.here hx rfl (hb hby at_5) rfl ?_
    refine X0.ldcInt hx hown (mvT hZ (w_ hw 0 rfl)) (g := (mkF m 6 #[.val (.int p1), .val (.int p2), .val (.int p3), .val (.int p4), .val (.int (p1 &&& (3 : Int32))), .unset, .unset, .unset, .unset, .unset, .unset] [(.int p2)])) rfl (hb hby at_6) _ ?_
    refine XS.iand X0.here hx rfl (hb hby at_8) rfl ?_
    refine XS.i2c X0.here hx rfl (hb hby at_9) rfl ?_
    show Steps p.tables e below (s₁.setTop (mkF m 10 #[.val (.int p1), .val (.int p2), .val (.int p3), .val (.int p4), .val (.int (p1 &&& (3 : Int32))), .unset, .unset, .unset, .unset, .unset, .unset] [(.int ((p2 &&& (65535 : Int32)).toUInt32.toUInt16.toUInt32.toInt32))])) _
    refine XS.istore X0.here hx rfl (hb hby at_10) rfl (l' := #[.val (.int p1), .val (.int p2), .val (.int p3), .val (.int p4), .val (.int (p1 &&& (3 : Int32))), .val (.int ((p2 &&& (65535 : Int32)).toUInt32.toUInt16.toUInt32.toInt32)), .unset, .unset, .unset, .unset, .unset]) rfl ?_
    refine XS.iloadN X0.here hx rfl (hb hby at_12) rfl ?_
    refine X0.ldcInt hx hown (mvT hZ (w_ hw 0 rfl)) (g := (mkF m 13 #[.val (.int p1), .val (.int p2), .val (.int p3), .val (.int p4), .val (.int (p1 &&& (3 : Int32))), .val (.int ((p2 &&& (65535 : Int32)).toUInt32.toUInt16.toUInt32.toInt32)), .unset, .unset, .unset, .unset, .unset] [(.int p3)])) rfl (hb hby at_13) _ ?_
    refine XS.iand X0.here hx rfl (hb hby at_15) rfl ?_
    show Steps p.tables e below (s₁.setTop (mkF m 16 #[.val (.int p1), .val (.int p2), .val (.int p3), .val (.int p4), .val (.int (p1 &&& (3 : Int32))), .val (.int ((p2 &&& (65535 : Int32)).toUInt32.toUInt16.toUInt32.toInt32)), .unset, .unset, .unset, .unset, .unset] [(.int (p3 &&& (65535 : Int32)))])) _
    refine XS.i2c X0.here hx rfl (hb hby at_16) rfl ?_
    refine XS.istore X0.here hx rfl (hb hby at_17) rfl (l' := #[.val (.int p1), .val (.int p2), .val (.int p3), .val (.int p4), .val (.int (p1 &&& (3 : Int32))), .val (.int ((p2 &&& (65535 : Int32)).toUInt32.toUInt16.toUInt32.toInt32)), .val (.int ((p3 &&& (65535 : Int32)).toUInt32.toUInt16.toUInt32.toInt32)), .unset, .unset, .unset, .unset]) rfl ?_
    refine XS.iloadN X0.here hx rfl (hb hby at_19) rfl ?_
    refine X0.ldcInt hx hown (mvT hZ (w_ hw 0 rfl)) (g := (mkF m 20 #[.val (.int p1), .val (.int p2), .val (.int p3), .val (.int p4), .val (.int (p1 &&& (3 : Int32))), .val (.int ((p2 &&& (65535 : Int32)).toUInt32.toUInt16.toUInt32.toInt32)), .val (.int ((p3 &&& (65535 : Int32)).toUInt32.toUInt16.toUInt32.toInt32)), .unset, .unset, .unset, .unset] [(.int p4)])) rfl (hb hby at_20) _ ?_
    show Steps p.tables e below (s₁.setTop (mkF m 22 #[.val (.int p1), .val (.int p2), .val (.int p3), .val (.int p4), .val (.int (p1 &&& (3 : Int32))), .val (.int ((p2 &&& (65535 : Int32)).toUInt32.toUInt16.toUInt32.toInt32)), .val (.int ((p3 &&& (65535 : Int32)).toUInt32.toUInt16.toUInt32.toInt32)), .unset, .unset, .unset, .unset] [(.int (65535 : Int32)), (.int p4)])) _
    refine XS.iand X0.here hx rfl (hb hby at_22) rfl ?_
    refine XS.i2c X0.here hx rfl (hb hby at_23) rfl ?_
    refine XS.istore X0.here hx rfl (hb hby at_24) rfl (l' := #[.val (.int p1), .val (.int p2), .val (.int p3), .val (.int p4), .val (.int (p1 &&& (3 : Int32))), .val (.int ((p2 &&& (65535 : Int32)).toUInt32.toUInt16.toUInt32.toInt32)), .val (.int ((p3 &&& (65535 : Int32)).toUInt32.toUInt16.toUInt32.toInt32)), .val (.int ((p4 &&& (65535 : Int32)).toUInt32.toUInt16.toUInt32.toInt32)), .unset, .unset, .unset]) rfl ?_
    refine XS.iload X0.here hx rfl (hb hby at_26) rfl ?_
    exact kz
  by_cases hc28_1 : (p1 &&& (3 : Int32)) = (0 : Int32)
  · refine Goes.via (S' := s₁.setTop (mkF m 32 #[.val (.int p1), .val (.int p2), .val (.int p3), .val (.int p4), .val (.int (p1 &&& (3 : Int32))), .val (.int ((p2 &&& (65535 : Int32)).toUInt32.toUInt16.toUInt32.toInt32)), .val (.int ((p3 &&& (65535 : Int32)).toUInt32.toUInt16.toUInt32.toInt32)), .val (.int ((p4 &&& (65535 : Int32)).toUInt32.toUInt16.toUInt32.toInt32)), .unset, .unset, .unset] [(.int (0 : Int32))])) (fun tz kz => ?_) ?_
    · show Steps p.tables e below (s₁.setTop (mkF m 28 #[.val (.int p1), .val (.int p2), .val (.int p3), .val (.int p4), .val (.int (p1 &&& (3 : Int32))), .val (.int ((p2 &&& (65535 : Int32)).toUInt32.toUInt16.toUInt32.toInt32)), .val (.int ((p3 &&& (65535 : Int32)).toUInt32.toUInt16.toUInt32.toInt32)), .val (.int ((p4 &&& (65535 : Int32)).toUInt32.toUInt16.toUInt32.toInt32)), .unset, .unset, .unset] [(.int (p1 &&& (3 : Int32)))])) _
      refine XS.ifNo X0.here hx rfl (hb hby at_28) rfl ((if0 _ _).trans (teq hc28_1).2) ?_
      refine XS.iconst X0.here hx rfl (hb hby at_31) ?_
      exact kz
    obtain ⟨T2, h2, k2, X2, e2, E2, A2, st2⟩ := newP X0 hx hZ (w_ hw 1 rfl) e0 (g := (mkF m 32 #[.val (.int p1), .val (.int p2), .val (.int p3), .val (.int p4), .val (.int (p1 &&& (3 : Int32))), .val (.int ((p2 &&& (65535 : Int32)).toUInt32.toUInt16.toUInt32.toInt32)), .val (.int ((p3 &&& (65535 : Int32)).toUInt32.toUInt16.toUInt32.toInt32)), .val (.int ((p4 &&& (65535 : Int32)).toUInt32.toUInt16.toUInt32.toInt32)), .unset, .unset, .unset] [(.int (0 : Int32))])) rfl (hb hby at_32) rfl (by decide) (cap := 0) (by decide) (by decide) (by decide) (by decide)
    obtain ⟨b2, g2⟩ : ∃ z, z = h0.size := ⟨_, rfl⟩
    rw [← g2] at A2 st2
    refine Goes.via (S' := T2.setTop (mkF m 34 #[.val (.int p1), .val (.int p2), .val (.int p3), .val (.int p4), .val (.int (p1 &&& (3 : Int32))), .val (.int ((p2 &&& (65535 : Int32)).toUInt32.toUInt16.toUInt32.toInt32)), .val (.int ((p3 &&& (65535 : Int32)).toUInt32.toUInt16.toUInt32.toInt32)), .val (.int ((p4 &&& (65535 : Int32)).toUInt32.toUInt16.toUInt32.toInt32)), .unset, .unset, .unset] [(.ref b2)])) st2 ?_
    have C2 : Arv Z h2 b2 k2 .char (0 : Int32) [] (.int 0) := Arv.new A2 (by decide)
    have hC3 := hC0.trans (CHr.ext E2 hC0.1)
    have hk4 := Nat.le_trans (Nat.zero_le _) E2.1
    have K2 := (Keep.refl h0 []).ext E2
    have gc : @LE.le Nat _ h0.size b2 := Nat.le_of_eq g2.symm
    have hnn : (p1 &&& (3 : Int32)) = (0 : Int32) := hc28_1
    refine Goes.via (S' := T2.setTop (mkF m 102 #[.val (.int p1), .val (.int p2), .val (.int p3), .val (.int p4), .val (.int (p1 &&& (3 : Int32))), .val (.int ((p2 &&& (65535 : Int32)).toUInt32.toUInt16.toUInt32.toInt32)), .val (.int ((p3 &&& (65535 : Int32)).toUInt32.toUInt16.toUInt32.toInt32)), .val (.int ((p4 &&& (65535 : Int32)).toUInt32.toUInt16.toUInt32.toInt32)), .val (.ref b2), .unset, .unset] [])) (fun tz kz => ?_) ?_
    · show Steps p.tables e below (T2.setTop (mkF m 34 #[.val (.int p1), .val (.int p2), .val (.int p3), .val (.int p4), .val (.int (p1 &&& (3 : Int32))), .val (.int ((p2 &&& (65535 : Int32)).toUInt32.toUInt16.toUInt32.toInt32)), .val (.int ((p3 &&& (65535 : Int32)).toUInt32.toUInt16.toUInt32.toInt32)), .val (.int ((p4 &&& (65535 : Int32)).toUInt32.toUInt16.toUInt32.toInt32)), .unset, .unset, .unset] [(.ref b2)])) _
      refine XS.astore X2.here hx rfl (hb hby at_34) rfl rfl (l' := #[.val (.int p1), .val (.int p2), .val (.int p3), .val (.int p4), .val (.int (p1 &&& (3 : Int32))), .val (.int ((p2 &&& (65535 : Int32)).toUInt32.toUInt16.toUInt32.toInt32)), .val (.int ((p3 &&& (65535 : Int32)).toUInt32.toUInt16.toUInt32.toInt32)), .val (.int ((p4 &&& (65535 : Int32)).toUInt32.toUInt16.toUInt32.toInt32)), .val (.ref b2), .unset, .unset]) rfl ?_
      refine XS.goto X2.here hx rfl (pc0 := 36) (pc' := 102) rfl (hb hby at_36) (by decide) (by decide) ?_
      exact kz
    obtain ⟨T5, h5, X5, e5, E5, A5, D5, -, st5⟩ := newO X2 hx hZ hown (w_ hw 2 rfl) (w_ hw 3 rfl) (w_ hw 4 rfl) e2 (g := (mkF m 102 #[.val (.int p1), .val (.int p2), .val (.int p3), .val (.int p4), .val (.int (p1 &&& (3 : Int32))), .val (.int ((p2 &&& (65535 : Int32)).toUInt32.toUInt16.toUInt32.toInt32)), .val (.int ((p3 &&& (65535 : Int32)).toUInt32.toUInt16.toUInt32.toInt32)), .val (.int ((p4 &&& (65535 : Int32)).toUInt32.toUInt16.toUInt32.toInt32)), .val (.ref b2), .unset, .unset] [])) rfl (hb hby at_102) (by decide) (by decide)
    obtain ⟨b5, g5⟩ : ∃ z, z = h2.size := ⟨_, rfl⟩
    rw [← g5] at A5 D5 st5
    refine Goes.via (S' := T5.setTop (mkF m 105 #[.val (.int p1), .val (.int p2), .val (.int p3), .val (.int p4), .val (.int (p1 &&& (3 : Int32))), .val (.int ((p2 &&& (65535 : Int32)).toUInt32.toUInt16.toUInt32.toInt32)), .val (.int ((p3 &&& (65535 : Int32)).toUInt32.toUInt16.toUInt32.toInt32)), .val (.int ((p4 &&& (65535 : Int32)).toUInt32.toUInt16.toUInt32.toInt32)), .val (.ref b2), .unset, .unset] [(.ref b5)])) st5 ?_
    have hC6 := hC3.trans (CHr.ext E5 hC3.1)
    have hk7 := Nat.le_trans hk4 E5.1
    have FV : Fld Z h5 b5 "java/lang/String" "value" "[B" .null := D5 (Or.inr (w_ hw 17 rfl)) (ty := (.array .byte)) (by decide)
    have FC : Fld Z h5 b5 "java/lang/String" "coder" "B" (.int (0 : Int32)) := D5 (Or.inr (w_ hw 18 rfl)) (ty := .byte) (by decide)
    have C5 := C2.ext E5
    have K5 := K2.ext E5
    have ga : n0 ≤ b5 := Nat.le_trans (Nat.le_trans Z0 K2.1) (Nat.le_of_eq g5.symm)
    have gh : @LE.le Nat _ h0.size b5 := Nat.le_trans K2.1 (Nat.le_of_eq g5.symm)
    have O1 := O0.keep K5 all0
    have Z1 := Nat.le_trans Z0 K5.1
    refine Goes.via (S' := T5.setTop (mkF m 108 #[.val (.int p1), .val (.int p2), .val (.int p3), .val (.int p4), .val (.int (p1 &&& (3 : Int32))), .val (.int ((p2 &&& (65535 : Int32)).toUInt32.toUInt16.toUInt32.toInt32)), .val (.int ((p3 &&& (65535 : Int32)).toUInt32.toUInt16.toUInt32.toInt32)), .val (.int ((p4 &&& (65535 : Int32)).toUInt32.toUInt16.toUInt32.toInt32)), .val (.ref b2), .unset, .unset] [(.ref b2), (.ref b5), (.ref b5)])) (fun tz kz => ?_) ?_
    · show Steps p.tables e below (T5.setTop (mkF m 105 #[.val (.int p1), .val (.int p2), .val (.int p3), .val (.int p4), .val (.int (p1 &&& (3 : Int32))), .val (.int ((p2 &&& (65535 : Int32)).toUInt32.toUInt16.toUInt32.toInt32)), .val (.int ((p3 &&& (65535 : Int32)).toUInt32.toUInt16.toUInt32.toInt32)), .val (.int ((p4 &&& (65535 : Int32)).toUInt32.toUInt16.toUInt32.toInt32)), .val (.ref b2), .unset, .unset] [(.ref b5)])) _
      refine XS.dup X5.here hx rfl (hb hby at_105) rfl rfl ?_
      refine XS.aload X5.here hx rfl (hb hby at_106) rfl rfl ?_
      exact kz
    obtain ⟨_, _, ⟨T8, L8, k8, n8⟩, -, X8, hs8, gs8, ⟨Lc8, hQ8, l8, y8, z8, hc8⟩, st8⟩ := Stand.specialBackS (show Stand p l e _ (s.setVm s.vm) m _ below meth c _ _ _ _ from X5) hx (y := (⟨"java/lang/String", "<init>", "([C)V"⟩ : MethodName)) rfl hown (mvT hZ (w_ hw 5 rfl)) (mvT hZ (w_ hw 6 rfl)) (mvT hZ (w_ hw 7 rfl)) (by decide) (backOfSH (s := s) (vm0 := s.vm) (W := 1) (rn1_0 l Z a0 hw [] b5 b2 k2 _ h5 n0 Z1 FV FC A5 ga C5) hZ (w_ hw 7 rfl) (w_ hw 4 rfl) (by decide) (by decide) hEL hC6.1) (g := (mkF m 108 #[.val (.int p1), .val (.int p2), .val (.int p3), .val (.int p4), .val (.int (p1 &&& (3 : Int32))), .val (.int ((p2 &&& (65535 : Int32)).toUInt32.toUInt16.toUInt32.toInt32)), .val (.int ((p3 &&& (65535 : Int32)).toUInt32.toUInt16.toUInt32.toInt32)), .val (.int ((p4 &&& (65535 : Int32)).toUInt32.toUInt16.toUInt32.toInt32)), .val (.ref b2), .unset, .unset] [(.ref b2), (.ref b5), (.ref b5)])) rfl (by rw [hml]; rfl) (Steps.refl _) (a := b5) (argsL := [(.ref b2)]) (rest := [(.ref b5)]) (lenOf pd_19 rfl) rfl (by show 2 * 0 + _ ≤ _; exact Nat.le_of_eq rfl) (hb hby at_108) (fun _ _ => ⟨rfl, e5, (by decide : 2 + 2 ≤ _), (by decide : 4 + 4 ≤ _)⟩)
    dsimp only [Pt.U, Pt.locs, Pt.cells, Pt.slots] at X8 l8 y8 z8 st8 hQ8 hs8 gs8 hc8
    subst l8 y8 z8
    obtain ⟨rfl, N8, K8, vb, kb, ST⟩ := hQ8
    rw [e5] at gs8
    have hS8 : s.Since T8.vm T8.heap.size := own_fold ((State.WarmedH.refl s).since 0) hk7 hs8 gs8
    have hC8 := hC6.trans hc8
    have hZ : Z.Warmed39 (s.setVm T8.vm).vm := State.Warmed39.trans (t := s.setVm s.vm) hZ hs8.1
    have hown : (s.setVm T8.vm).vm.findClass "com/example/vestline/vestline/format/CsvPrintablePinLaw" = some m.cls := by rw [show (s.setVm T8.vm).vm = T8.vm from rfl, hs8.1.alike.findClass]; exact hown
    have Nf8 := Fr.app N0 N8
    refine Goes.via (S' := T8.setTop (mkF m 111 #[.val (.int p1), .val (.int p2), .val (.int p3), .val (.int p4), .val (.int (p1 &&& (3 : Int32))), .val (.int ((p2 &&& (65535 : Int32)).toUInt32.toUInt16.toUInt32.toInt32)), .val (.int ((p3 &&& (65535 : Int32)).toUInt32.toUInt16.toUInt32.toInt32)), .val (.int ((p4 &&& (65535 : Int32)).toUInt32.toUInt16.toUInt32.toInt32)), .val (.ref b2), .unset, .unset] [(.ref b5)])) (fun _ kz => st8.trans kz) ?_
    have Kf := K5.trans K8 (allS (Or.inr gh) all0)
    have O2 := O0.keep Kf all0
    have Z2 := Nat.le_trans Z0 Kf.1
    refine Goes.via (S' := T8.setTop (mkF m 130 #[.val (.int p1), .val (.int p2), .val (.int p3), .val (.int p4), .val (.int (p1 &&& (3 : Int32))), .val (.int ((p2 &&& (65535 : Int32)).toUInt32.toUInt16.toUInt32.toInt32)), .val (.int ((p3 &&& (65535 : Int32)).toUInt32.toUInt16.toUInt32.toInt32)), .val (.int ((p4 &&& (65535 : Int32)).toUInt32.toUInt16.toUInt32.toInt32)), .val (.ref b2), .val (.ref b5), .unset] [(.ref b5)])) (fun tz kz => ?_) ?_
    · show Steps p.tables e below (T8.setTop (mkF m 111 #[.val (.int p1), .val (.int p2), .val (.int p3), .val (.int p4), .val (.int (p1 &&& (3 : Int32))), .val (.int ((p2 &&& (65535 : Int32)).toUInt32.toUInt16.toUInt32.toInt32)), .val (.int ((p3 &&& (65535 : Int32)).toUInt32.toUInt16.toUInt32.toInt32)), .val (.int ((p4 &&& (65535 : Int32)).toUInt32.toUInt16.toUInt32.toInt32)), .val (.ref b2), .unset, .unset] [(.ref b5)])) _
      refine XS.astore X8.here hx rfl (hb hby at_111) rfl rfl (l' := #[.val (.int p1), .val (.int p2), .val (.int p3), .val (.int p4), .val (.int (p1 &&& (3 : Int32))), .val (.int ((p2 &&& (65535 : Int32)).toUInt32.toUInt16.toUInt32.toInt32)), .val (.int ((p3 &&& (65535 : Int32)).toUInt32.toUInt16.toUInt32.toInt32)), .val (.int ((p4 &&& (65535 : Int32)).toUInt32.toUInt16.toUInt32.toInt32)), .val (.ref b2), .val (.ref b5), .unset]) rfl ?_
      refine XS.iload X8.here hx rfl (hb hby at_113) rfl ?_
      refine XS.ifYes X8.here hx rfl (pc0 := 115) (pc' := 128) rfl (hb hby at_115) rfl ((if0 _ _).trans (flt (own_bz hnn)).2.2.2) (by decide) (by decide) ?_
      refine XS.aload X8.here hx rfl (hb hby at_128) rfl rfl ?_
      exact kz
    obtain ⟨_, _, ⟨T9, L9, k9, n9⟩, -, X9, hs9, gs9, ⟨Lc9, hQ9, l9, y9, z9, hc9⟩, st9⟩ := callSS (show Stand p l e _ (s.setVm T8.vm) m _ below meth c _ _ _ _ from X8) hx (y := (⟨"com/example/vestline/vestline/format/Csv", "printable", "(Ljava/lang/String;)Ljava/lang/String;"⟩ : MethodName)) hown (mvT hZ (w_ hw 23 rfl)) (mvT hZ (w_ hw 24 rfl)) (mvT hZ (w_ hw 25 rfl)) (mvT hZ (w_ hw 26 rfl)) (by decide) (backOfSH (s := s) (vm0 := T8.vm) (W := 0) (rpr_0 l Z a0 hw [] b5 vb kb cs fv _ T8.heap n0 Z2 SC hcs O2 SF hfv ST) hZ (w_ hw 26 rfl) (w_ hw 25 rfl) (by decide) (by decide) hEL hC8.1) (g := (mkF m 130 #[.val (.int p1), .val (.int p2), .val (.int p3), .val (.int p4), .val (.int (p1 &&& (3 : Int32))), .val (.int ((p2 &&& (65535 : Int32)).toUInt32.toUInt16.toUInt32.toInt32)), .val (.int ((p3 &&& (65535 : Int32)).toUInt32.toUInt16.toUInt32.toInt32)), .val (.int ((p4 &&& (65535 : Int32)).toUInt32.toUInt16.toUInt32.toInt32)), .val (.ref b2), .val (.ref b5), .unset] [(.ref b5)])) rfl (by rw [hml]; rfl) (argsL := [(.ref b5)]) (rest := []) (lenOf pd_20 rfl) rfl (by show 2 * 0 + _ ≤ _; exact Nat.le_of_eq rfl) (hb hby at_130) (fun _ _ => ⟨rfl, rfl, (by decide : 4 + 2 ≤ _), (by decide : 8 + 28 ≤ _)⟩)
    dsimp only [Pt.U, Pt.locs, Pt.cells, Pt.slots] at X9 l9 y9 z9 st9 hQ9 hs9 gs9 hc9
    subst l9 y9 z9
    obtain ⟨rfl, N9, K9⟩ := hQ9
    skip
    have hS9 : s.Since T9.vm T9.heap.size := own_fold hS8 (Nat.le_refl _) hs9 gs9
    have hC9 := hC8.trans hc9
    have hZ : Z.Warmed39 (s.setVm T9.vm).vm := State.Warmed39.trans (t := s.setVm T8.vm) hZ hs9.1
    have hown : (s.setVm T9.vm).vm.findClass "com/example/vestline/vestline/format/CsvPrintablePinLaw" = some m.cls := by rw [show (s.setVm T9.vm).vm = T9.vm from rfl, hs9.1.alike.findClass]; exact hown
    have Nf9 := Fr.app Nf8 N9
    refine Goes.via (S' := T9.setTop (mkF m 133 #[.val (.int p1), .val (.int p2), .val (.int p3), .val (.int p4), .val (.int (p1 &&& (3 : Int32))), .val (.int ((p2 &&& (65535 : Int32)).toUInt32.toUInt16.toUInt32.toInt32)), .val (.int ((p3 &&& (65535 : Int32)).toUInt32.toUInt16.toUInt32.toInt32)), .val (.int ((p4 &&& (65535 : Int32)).toUInt32.toUInt16.toUInt32.toInt32)), .val (.ref b2), .val (.ref b5), .unset] [(.ref b5)])) (fun _ kz => st9.trans kz) ?_
    have SS := ST.keep K9 nin0 nin0
    have Kg := Kf.trans K9 all0
    have O3 := O0.keep Kg all0
    have Z3 := Nat.le_trans Z0 Kg.1
    refine Goes.via (S' := T9.setTop (mkF m 142 #[.val (.int p1), .val (.int p2), .val (.int p3), .val (.int p4), .val (.int (p1 &&& (3 : Int32))), .val (.int ((p2 &&& (65535 : Int32)).toUInt32.toUInt16.toUInt32.toInt32)), .val (.int ((p3 &&& (65535 : Int32)).toUInt32.toUInt16.toUInt32.toInt32)), .val (.int ((p4 &&& (65535 : Int32)).toUInt32.toUInt16.toUInt32.toInt32)), .val (.ref b2), .val (.ref b5), .val (.ref b5)] [(.ref b5)])) (fun tz kz => ?_) ?_
    · show Steps p.tables e below (T9.setTop (mkF m 133 #[.val (.int p1), .val (.int p2), .val (.int p3), .val (.int p4), .val (.int (p1 &&& (3 : Int32))), .val (.int ((p2 &&& (65535 : Int32)).toUInt32.toUInt16.toUInt32.toInt32)), .val (.int ((p3 &&& (65535 : Int32)).toUInt32.toUInt16.toUInt32.toInt32)), .val (.int ((p4 &&& (65535 : Int32)).toUInt32.toUInt16.toUInt32.toInt32)), .val (.ref b2), .val (.ref b5), .unset] [(.ref b5)])) _
      refine XS.astore X9.here hx rfl (hb hby at_133) rfl rfl (l' := #[.val (.int p1), .val (.int p2), .val (.int p3), .val (.int p4), .val (.int (p1 &&& (3 : Int32))), .val (.int ((p2 &&& (65535 : Int32)).toUInt32.toUInt16.toUInt32.toInt32)), .val (.int ((p3 &&& (65535 : Int32)).toUInt32.toUInt16.toUInt32.toInt32)), .val (.int ((p4 &&& (65535 : Int32)).toUInt32.toUInt16.toUInt32.toInt32)), .val (.ref b2), .val (.ref b5), .val (.ref b5)]) rfl ?_
      refine XS.aload X9.here hx rfl (hb hby at_135) rfl rfl ?_
      refine XS.ifnullNo X9.here hx rfl (hb hby at_137) rfl ?_
      refine XS.aload X9.here hx rfl (hb hby at_140) rfl rfl ?_
      exact kz
    obtain ⟨cq10, kq10, q10a, q10b, q10c⟩ := isOf hZ rfl SS.1
    obtain ⟨_, _, ⟨T10, L10, k10, n10⟩, -, X10, ⟨Lc10, hQ10, l10, y10, z10⟩, st10⟩ := X9.virtualBack hx (y := (⟨"java/lang/String", "length", "()I"⟩ : MethodName)) (z := (⟨"java/lang/String", "length", "()I"⟩ : MethodName)) hown (mvT hZ (w_ hw 32 rfl)) (mvT hZ (w_ hw 33 rfl)) (notFace_of_selects (args := #[]) (mvT hZ (w_ hw 35 rfl))) (mvT hZ (w_ hw 35 rfl)) (mvT hZ (w_ hw 34 rfl)) (by decide) (backOf (W := 0) (rlen l Z a0 hw [] b5 vb kb cs (0 : Int32) (0 : Int32) (0 : Int32) _ T9.heap n0 Z3 SC hcs O3 SS.1 SS.2.1 SS.2.2.1 SS.2.2.2 rfl rfl) hZ (w_ hw 36 rfl) (w_ hw 4 rfl) (by decide) (by decide)) q10a q10c (g := (mkF m 142 #[.val (.int p1), .val (.int p2), .val (.int p3), .val (.int p4), .val (.int (p1 &&& (3 : Int32))), .val (.int ((p2 &&& (65535 : Int32)).toUInt32.toUInt16.toUInt32.toInt32)), .val (.int ((p3 &&& (65535 : Int32)).toUInt32.toUInt16.toUInt32.toInt32)), .val (.int ((p4 &&& (65535 : Int32)).toUInt32.toUInt16.toUInt32.toInt32)), .val (.ref b2), .val (.ref b5), .val (.ref b5)] [(.ref b5)])) rfl (by rw [hml]; rfl) (Steps.refl _) (argsL := []) (rest := []) (lenOf pd_17 rfl) rfl (by show 2 * 0 + _ ≤ _; exact Nat.le_of_eq rfl) (hb hby at_142) (fun _ _ => ⟨rfl, rfl, (by decide : 6 + 0 ≤ _), (by decide : 36 + 0 ≤ _)⟩)
    dsimp only [Pt.U, Pt.locs, Pt.cells, Pt.slots] at X10 l10 y10 z10 st10 hQ10
    subst l10 y10 z10
    obtain ⟨rfl, N10, e10⟩ := hQ10
    have Nf10 := Fr.app Nf9 N10
    refine Goes.via (S' := T10.setTop (mkF m 145 #[.val (.int p1), .val (.int p2), .val (.int p3), .val (.int p4), .val (.int (p1 &&& (3 : Int32))), .val (.int ((p2 &&& (65535 : Int32)).toUInt32.toUInt16.toUInt32.toInt32)), .val (.int ((p3 &&& (65535 : Int32)).toUInt32.toUInt16.toUInt32.toInt32)), .val (.int ((p4 &&& (65535 : Int32)).toUInt32.toUInt16.toUInt32.toInt32)), .val (.ref b2), .val (.ref b5), .val (.ref b5)] [(.int (0 : Int32))])) (fun _ kz => st10.trans kz) ?_
    refine Goes.via (S' := T10.setTop (mkF m 154 #[.val (.int p1), .val (.int p2), .val (.int p3), .val (.int p4), .val (.int (p1 &&& (3 : Int32))), .val (.int ((p2 &&& (65535 : Int32)).toUInt32.toUInt16.toUInt32.toInt32)), .val (.int ((p3 &&& (65535 : Int32)).toUInt32.toUInt16.toUInt32.toInt32)), .val (.int ((p4 &&& (65535 : Int32)).toUInt32.toUInt16.toUInt32.toInt32)), .val (.ref b2), .val (.ref b5), .val (.ref b5)] [(.ref b5), (.ref b5)])) (fun tz kz => ?_) ?_
    · show Steps p.tables e below (T10.setTop (mkF m 145 #[.val (.int p1), .val (.int p2), .val (.int p3), .val (.int p4), .val (.int (p1 &&& (3 : Int32))), .val (.int ((p2 &&& (65535 : Int32)).toUInt32.toUInt16.toUInt32.toInt32)), .val (.int ((p3 &&& (65535 : Int32)).toUInt32.toUInt16.toUInt32.toInt32)), .val (.int ((p4 &&& (65535 : Int32)).toUInt32.toUInt16.toUInt32.toInt32)), .val (.ref b2), .val (.ref b5), .val (.ref b5)] [(.int (0 : Int32))])) _
      refine XS.iload X10.here hx rfl (hb hby at_145) rfl ?_
      refine XS.icmpNo X10.here hx rfl (hb hby at_147) rfl (teq hnn.symm).2 ?_
      refine XS.aload X10.here hx rfl (hb hby at_150) rfl rfl ?_
      refine XS.aload X10.here hx rfl (hb hby at_152) rfl rfl ?_
      exact kz
    obtain ⟨cq11, kq11, q11a, q11b, q11c⟩ := isOf hZ e10 SS.1
    obtain ⟨_, _, ⟨T11, L11, k11, n11⟩, -, X11, ⟨Lc11, hQ11, l11, y11, z11⟩, st11⟩ := X10.virtualBack hx (y := (⟨"java/lang/String", "equals", "(Ljava/lang/Object;)Z"⟩ : MethodName)) (z := (⟨"java/lang/String", "equals", "(Ljava/lang/Object;)Z"⟩ : MethodName)) hown (mvT hZ (w_ hw 43 rfl)) (mvT hZ (w_ hw 44 rfl)) (notFace_of_selects (args := #[]) (mvT hZ (w_ hw 46 rfl))) (mvT hZ (w_ hw 46 rfl)) (mvT hZ (w_ hw 45 rfl)) (by decide) (backOf (W := 0) (rsame l Z a0 hw [] b5 T9.heap n0 Z3) hZ (w_ hw 47 rfl) (w_ hw 4 rfl) (by decide) (by decide)) q11a q11c (g := (mkF m 154 #[.val (.int p1), .val (.int p2), .val (.int p3), .val (.int p4), .val (.int (p1 &&& (3 : Int32))), .val (.int ((p2 &&& (65535 : Int32)).toUInt32.toUInt16.toUInt32.toInt32)), .val (.int ((p3 &&& (65535 : Int32)).toUInt32.toUInt16.toUInt32.toInt32)), .val (.int ((p4 &&& (65535 : Int32)).toUInt32.toUInt16.toUInt32.toInt32)), .val (.ref b2), .val (.ref b5), .val (.ref b5)] [(.ref b5), (.ref b5)])) rfl (by rw [hml]; rfl) (Steps.refl _) (argsL := [(.ref b5)]) (rest := []) (lenOf pd_21 rfl) rfl (by show 2 * 0 + _ ≤ _; exact Nat.le_of_eq rfl) (hb hby at_154) (fun _ _ => ⟨rfl, e10, (by decide : 6 + 0 ≤ _), (by decide : 36 + 0 ≤ _)⟩)
    dsimp only [Pt.U, Pt.locs, Pt.cells, Pt.slots] at X11 l11 y11 z11 st11 hQ11
    subst l11 y11 z11
    obtain ⟨rfl, N11, e11⟩ := hQ11
    have Nf11 := Fr.app Nf10 N11
    refine Goes.via (S' := T11.setTop (mkF m 157 #[.val (.int p1), .val (.int p2), .val (.int p3), .val (.int p4), .val (.int (p1 &&& (3 : Int32))), .val (.int ((p2 &&& (65535 : Int32)).toUInt32.toUInt16.toUInt32.toInt32)), .val (.int ((p3 &&& (65535 : Int32)).toUInt32.toUInt16.toUInt32.toInt32)), .val (.int ((p4 &&& (65535 : Int32)).toUInt32.toUInt16.toUInt32.toInt32)), .val (.ref b2), .val (.ref b5), .val (.ref b5)] [(.int (1 : Int32))])) (fun _ kz => st11.trans kz) ?_
    refine Goes.via (S' := T11.setTop (mkF m 165 #[.val (.int p1), .val (.int p2), .val (.int p3), .val (.int p4), .val (.int (p1 &&& (3 : Int32))), .val (.int ((p2 &&& (65535 : Int32)).toUInt32.toUInt16.toUInt32.toInt32)), .val (.int ((p3 &&& (65535 : Int32)).toUInt32.toUInt16.toUInt32.toInt32)), .val (.int ((p4 &&& (65535 : Int32)).toUInt32.toUInt16.toUInt32.toInt32)), .val (.ref b2), .val (.ref b5), .val (.ref b5)] [(.int (1 : Int32))])) (fun tz kz => ?_) ?_
    · show Steps p.tables e below (T11.setTop (mkF m 157 #[.val (.int p1), .val (.int p2), .val (.int p3), .val (.int p4), .val (.int (p1 &&& (3 : Int32))), .val (.int ((p2 &&& (65535 : Int32)).toUInt32.toUInt16.toUInt32.toInt32)), .val (.int ((p3 &&& (65535 : Int32)).toUInt32.toUInt16.toUInt32.toInt32)), .val (.int ((p4 &&& (65535 : Int32)).toUInt32.toUInt16.toUInt32.toInt32)), .val (.ref b2), .val (.ref b5), .val (.ref b5)] [(.int (1 : Int32))])) _
      refine XS.ifNo X11.here hx rfl (hb hby at_157) rfl ((if0 _ _).trans (feq (by first | decide | rfl)).1) ?_
      refine XS.iconst X11.here hx rfl (hb hby at_160) ?_
      refine XS.goto X11.here hx rfl (pc0 := 161) (pc' := 165) rfl (hb hby at_161) (by decide) (by decide) ?_
      exact kz
    exact Goes.retNH (s := s) (vm1 := T9.vm) X11 hx Bd.notSynchronized hS9 (Nat.le_refl _) e11 hZ hEL hC9 (t := .boolean) Bd.returns (by simp) (hb hby at_165) (Nat.le_of_ble_eq_true rfl) (Nat.le_of_ble_eq_true rfl) ⟨rfl, Nf11⟩
  · refine Goes.via (S' := s₁.setTop (mkF m 42 #[.val (.int p1), .val (.int p2), .val (.int p3), .val (.int p4), .val (.int (p1 &&& (3 : Int32))), .val (.int ((p2 &&& (65535 : Int32)).toUInt32.toUInt16.toUInt32.toInt32)), .val (.int ((p3 &&& (65535 : Int32)).toUInt32.toUInt16.toUInt32.toInt32)), .val (.int ((p4 &&& (65535 : Int32)).toUInt32.toUInt16.toUInt32.toInt32)), .unset, .unset, .unset] [(.int (1 : Int32)), (.int (p1 &&& (3 : Int32)))])) (fun tz kz => ?_) ?_
    · show Steps p.tables e below (s₁.setTop (mkF m 28 #[.val (.int p1), .val (.int p2), .val (.int p3), .val (.int p4), .val (.int (p1 &&& (3 : Int32))), .val (.int ((p2 &&& (65535 : Int32)).toUInt32.toUInt16.toUInt32.toInt32)), .val (.int ((p3 &&& (65535 : Int32)).toUInt32.toUInt16.toUInt32.toInt32)), .val (.int ((p4 &&& (65535 : Int32)).toUInt32.toUInt16.toUInt32.toInt32)), .unset, .unset, .unset] [(.int (p1 &&& (3 : Int32)))])) _
      refine XS.ifYes X0.here hx rfl (pc0 := 28) (pc' := 39) rfl (hb hby at_28) rfl ((if0 _ _).trans (feq hc28_1).2) (by decide) (by decide) ?_
      refine XS.iload X0.here hx rfl (hb hby at_39) rfl ?_
      refine XS.iconst X0.here hx rfl (hb hby at_41) ?_
      exact kz
    by_cases hc42_12 : (p1 &&& (3 : Int32)) = (1 : Int32)
    · refine Goes.via (S' := s₁.setTop (mkF m 46 #[.val (.int p1), .val (.int p2), .val (.int p3), .val (.int p4), .val (.int (p1 &&& (3 : Int32))), .val (.int ((p2 &&& (65535 : Int32)).toUInt32.toUInt16.toUInt32.toInt32)), .val (.int ((p3 &&& (65535 : Int32)).toUInt32.toUInt16.toUInt32.toInt32)), .val (.int ((p4 &&& (65535 : Int32)).toUInt32.toUInt16.toUInt32.toInt32)), .unset, .unset, .unset] [(.int (1 : Int32))])) (fun tz kz => ?_) ?_
      · show Steps p.tables e below (s₁.setTop (mkF m 42 #[.val (.int p1), .val (.int p2), .val (.int p3), .val (.int p4), .val (.int (p1 &&& (3 : Int32))), .val (.int ((p2 &&& (65535 : Int32)).toUInt32.toUInt16.toUInt32.toInt32)), .val (.int ((p3 &&& (65535 : Int32)).toUInt32.toUInt16.toUInt32.toInt32)), .val (.int ((p4 &&& (65535 : Int32)).toUInt32.toUInt16.toUInt32.toInt32)), .unset, .unset, .unset] [(.int (1 : Int32)), (.int (p1 &&& (3 : Int32)))])) _
        refine XS.icmpNo X0.here hx rfl (hb hby at_42) rfl (teq hc42_12).2 ?_
        refine XS.iconst X0.here hx rfl (hb hby at_45) ?_
        exact kz
      obtain ⟨T13, h13, k13, X13, e13, E13, A13, st13⟩ := newP X0 hx hZ (w_ hw 1 rfl) e0 (g := (mkF m 46 #[.val (.int p1), .val (.int p2), .val (.int p3), .val (.int p4), .val (.int (p1 &&& (3 : Int32))), .val (.int ((p2 &&& (65535 : Int32)).toUInt32.toUInt16.toUInt32.toInt32)), .val (.int ((p3 &&& (65535 : Int32)).toUInt32.toUInt16.toUInt32.toInt32)), .val (.int ((p4 &&& (65535 : Int32)).toUInt32.toUInt16.toUInt32.toInt32)), .unset, .unset, .unset] [(.int (1 : Int32))])) rfl (hb hby at_46) rfl (by decide) (cap := 1) (by decide) (by decide) (by decide) (by decide)
      obtain ⟨b13, g13⟩ : ∃ z, z = h0.size := ⟨_, rfl⟩
      rw [← g13] at A13 st13
      refine Goes.via (S' := T13.setTop (mkF m 48 #[.val (.int p1), .val (.int p2), .val (.int p3), .val (.int p4), .val (.int (p1 &&& (3 : Int32))), .val (.int ((p2 &&& (65535 : Int32)).toUInt32.toUInt16.toUInt32.toInt32)), .val (.int ((p3 &&& (65535 : Int32)).toUInt32.toUInt16.toUInt32.toInt32)), .val (.int ((p4 &&& (65535 : Int32)).toUInt32.toUInt16.toUInt32.toInt32)), .unset, .unset, .unset] [(.ref b13)])) st13 ?_
      have C13 : Arv Z h13 b13 k13 .char (1 : Int32) [.int 0] (.int 0) := (Arv.new A13 (by decide)).pad (pad_rep [] (.int 0) 1)
      have hC14 := hC0.trans (CHr.ext E13 hC0.1)
      have hk15 := Nat.le_trans (Nat.zero_le _) E13.1
      have K13 := (Keep.refl h0 []).ext E13
      have gc : @LE.le Nat _ h0.size b13 := Nat.le_of_eq g13.symm
      have hnn : (p1 &&& (3 : Int32)) = (1 : Int32) := hc42_12
      refine Goes.via (S' := T13.setTop (mkF m 52 #[.val (.int p1), .val (.int p2), .val (.int p3), .val (.int p4), .val (.int (p1 &&& (3 : Int32))), .val (.int ((p2 &&& (65535 : Int32)).toUInt32.toUInt16.toUInt32.toInt32)), .val (.int ((p3 &&& (65535 : Int32)).toUInt32.toUInt16.toUInt32.toInt32)), .val (.int ((p4 &&& (65535 : Int32)).toUInt32.toUInt16.toUInt32.toInt32)), .unset, .unset, .unset] [(.int ((p2 &&& (65535 : Int32)).toUInt32.toUInt16.toUInt32.toInt32)), (.int (0 : Int32)), (.ref b13), (.ref b13)])) (fun tz kz => ?_) ?_
      · show Steps p.tables e below (T13.setTop (mkF m 48 #[.val (.int p1), .val (.int p2), .val (.int p3), .val (.int p4), .val (.int (p1 &&& (3 : Int32))), .val (.int ((p2 &&& (65535 : Int32)).toUInt32.toUInt16.toUInt32.toInt32)), .val (.int ((p3 &&& (65535 : Int32)).toUInt32.toUInt16.toUInt32.toInt32)), .val (.int ((p4 &&& (65535 : Int32)).toUInt32.toUInt16.toUInt32.toInt32)), .unset, .unset, .unset] [(.ref b13)])) _
        refine XS.dup X13.here hx rfl (hb hby at_48) rfl rfl ?_
        refine XS.iconst X13.here hx rfl (hb hby at_49) ?_
        refine XS.iload X13.here hx rfl (hb hby at_50) rfl ?_
        exact kz
      obtain ⟨cl16, Ar16, q16, Sz16, Nn16, Hs16, G16⟩ := (id C13)
      obtain ⟨T17, h17, X17, e17, W17, st17⟩ := stC X13 hx hZ e13 Ar16 (j := (0 : Int32)) (inb_of Sz16 ⟨by decide, by decide⟩) (g := (mkF m 52 #[.val (.int p1), .val (.int p2), .val (.int p3), .val (.int p4), .val (.int (p1 &&& (3 : Int32))), .val (.int ((p2 &&& (65535 : Int32)).toUInt32.toUInt16.toUInt32.toInt32)), .val (.int ((p3 &&& (65535 : Int32)).toUInt32.toUInt16.toUInt32.toInt32)), .val (.int ((p4 &&& (65535 : Int32)).toUInt32.toUInt16.toUInt32.toInt32)), .unset, .unset, .unset] [(.int ((p2 &&& (65535 : Int32)).toUInt32.toUInt16.toUInt32.toInt32)), (.int (0 : Int32)), (.ref b13), (.ref b13)])) rfl rfl (hb hby at_52)
      refine Goes.via (S' := T17.setTop (mkF m 53 #[.val (.int p1), .val (.int p2), .val (.int p3), .val (.int p4), .val (.int (p1 &&& (3 : Int32))), .val (.int ((p2 &&& (65535 : Int32)).toUInt32.toUInt16.toUInt32.toInt32)), .val (.int ((p3 &&& (65535 : Int32)).toUInt32.toUInt16.toUInt32.toInt32)), .val (.int ((p4 &&& (65535 : Int32)).toUInt32.toUInt16.toUInt32.toInt32)), .unset, .unset, .unset] [(.ref b13)])) st17 ?_
      have N17 := Fr.snoc X17 N0 (Nat.le_trans Z0 gc)
      have C17 := Arv.set Ar16 q16 Sz16 Nn16 Hs16 G16 (fits_nar_char _) W17 0 rfl (Nat.le_of_ble_eq_true rfl)
      rw [own_nc] at C17
      have hC18 := hC14.trans (CHr.wr W17 (Safe.arr hZ.alike Ar16 (by decide)) hC14.1)
      have hk19 := Nat.le_trans hk15 (Nat.le_of_eq W17.size.symm)
      have K17 := K13.wr W17 (Or.inr gc)
      refine Goes.via (S' := T17.setTop (mkF m 102 #[.val (.int p1), .val (.int p2), .val (.int p3), .val (.int p4), .val (.int (p1 &&& (3 : Int32))), .val (.int ((p2 &&& (65535 : Int32)).toUInt32.toUInt16.toUInt32.toInt32)), .val (.int ((p3 &&& (65535 : Int32)).toUInt32.toUInt16.toUInt32.toInt32)), .val (.int ((p4 &&& (65535 : Int32)).toUInt32.toUInt16.toUInt32.toInt32)), .val (.ref b13), .unset, .unset] [])) (fun tz kz => ?_) ?_
      · show Steps p.tables e below (T17.setTop (mkF m 53 #[.val (.int p1), .val (.int p2), .val (.int p3), .val (.int p4), .val (.int (p1 &&& (3 : Int32))), .val (.int ((p2 &&& (65535 : Int32)).toUInt32.toUInt16.toUInt32.toInt32)), .val (.int ((p3 &&& (65535 : Int32)).toUInt32.toUInt16.toUInt32.toInt32)), .val (.int ((p4 &&& (65535 : Int32)).toUInt32.toUInt16.toUInt32.toInt32)), .unset, .unset, .unset] [(.ref b13)])) _
        refine XS.astore X17.here hx rfl (hb hby at_53) rfl rfl (l' := #[.val (.int p1), .val (.int p2), .val (.int p3), .val (.int p4), .val (.int (p1 &&& (3 : Int32))), .val (.int ((p2 &&& (65535 : Int32)).toUInt32.toUInt16.toUInt32.toInt32)), .val (.int ((p3 &&& (65535 : Int32)).toUInt32.toUInt16.toUInt32.toInt32)), .val (.int ((p4 &&& (65535 : Int32)).toUInt32.toUInt16.toUInt32.toInt32)), .val (.ref b13), .unset, .unset]) rfl ?_
        refine XS.goto X17.here hx rfl (pc0 := 55) (pc' := 102) rfl (hb hby at_55) (by decide) (by decide) ?_
        exact kz
      obtain ⟨T20, h20, X20, e20, E20, A20, D20, -, st20⟩ := newO X17 hx hZ hown (w_ hw 2 rfl) (w_ hw 3 rfl) (w_ hw 4 rfl) e17 (g := (mkF m 102 #[.val (.int p1), .val (.int p2), .val (.int p3), .val (.int p4), .val (.int (p1 &&& (3 : Int32))), .val (.int ((p2 &&& (65535 : Int32)).toUInt32.toUInt16.toUInt32.toInt32)), .val (.int ((p3 &&& (65535 : Int32)).toUInt32.toUInt16.toUInt32.toInt32)), .val (.int ((p4 &&& (65535 : Int32)).toUInt32.toUInt16.toUInt32.toInt32)), .val (.ref b13), .unset, .unset] [])) rfl (hb hby at_102) (by decide) (by decide)
      obtain ⟨b20, g20⟩ : ∃ z, z = h17.size := ⟨_, rfl⟩
      rw [← g20] at A20 D20 st20
      refine Goes.via (S' := T20.setTop (mkF m 105 #[.val (.int p1), .val (.int p2), .val (.int p3), .val (.int p4), .val (.int (p1 &&& (3 : Int32))), .val (.int ((p2 &&& (65535 : Int32)).toUInt32.toUInt16.toUInt32.toInt32)), .val (.int ((p3 &&& (65535 : Int32)).toUInt32.toUInt16.toUInt32.toInt32)), .val (.int ((p4 &&& (65535 : Int32)).toUInt32.toUInt16.toUInt32.toInt32)), .val (.ref b13), .unset, .unset] [(.ref b20)])) st20 ?_
      have hC21 := hC18.trans (CHr.ext E20 hC18.1)
      have hk22 := Nat.le_trans hk19 E20.1
      have FV : Fld Z h20 b20 "java/lang/String" "value" "[B" .null := D20 (Or.inr (w_ hw 17 rfl)) (ty := (.array .byte)) (by decide)
      have FC : Fld Z h20 b20 "java/lang/String" "coder" "B" (.int (0 : Int32)) := D20 (Or.inr (w_ hw 18 rfl)) (ty := .byte) (by decide)
      have C20 := C17.ext E20
      have K20 := K17.ext E20
      have ga : n0 ≤ b20 := Nat.le_trans (Nat.le_trans Z0 K17.1) (Nat.le_of_eq g20.symm)
      have gh : @LE.le Nat _ h0.size b20 := Nat.le_trans K17.1 (Nat.le_of_eq g20.symm)
      have O1 := O0.keep K20 all0
      have Z1 := Nat.le_trans Z0 K20.1
      refine Goes.via (S' := T20.setTop (mkF m 108 #[.val (.int p1), .val (.int p2), .val (.int p3), .val (.int p4), .val (.int (p1 &&& (3 : Int32))), .val (.int ((p2 &&& (65535 : Int32)).toUInt32.toUInt16.toUInt32.toInt32)), .val (.int ((p3 &&& (65535 : Int32)).toUInt32.toUInt16.toUInt32.toInt32)), .val (.int ((p4 &&& (65535 : Int32)).toUInt32.toUInt16.toUInt32.toInt32)), .val (.ref b13), .unset, .unset] [(.ref b13), (.ref b20), (.ref b20)])) (fun tz kz => ?_) ?_
      · show Steps p.tables e below (T20.setTop (mkF m 105 #[.val (.int p1), .val (.int p2), .val (.int p3), .val (.int p4), .val (.int (p1 &&& (3 : Int32))), .val (.int ((p2 &&& (65535 : Int32)).toUInt32.toUInt16.toUInt32.toInt32)), .val (.int ((p3 &&& (65535 : Int32)).toUInt32.toUInt16.toUInt32.toInt32)), .val (.int ((p4 &&& (65535 : Int32)).toUInt32.toUInt16.toUInt32.toInt32)), .val (.ref b13), .unset, .unset] [(.ref b20)])) _
        refine XS.dup X20.here hx rfl (hb hby at_105) rfl rfl ?_
        refine XS.aload X20.here hx rfl (hb hby at_106) rfl rfl ?_
        exact kz
      obtain ⟨_, _, ⟨T23, L23, k23, n23⟩, -, X23, ⟨Lc23, hQ23, l23, y23, z23⟩, st23⟩ := X20.specialBack hx (y := (⟨"java/lang/String", "<init>", "([C)V"⟩ : MethodName)) rfl hown (mvT hZ (w_ hw 5 rfl)) (mvT hZ (w_ hw 6 rfl)) (mvT hZ (w_ hw 7 rfl)) (by decide) (backOf (W := 1) (rn1_1 l Z a0 hw [] b20 b13 cs k13 ((p2 &&& (65535 : Int32)).toUInt32.toUInt16.toUInt32.toInt32) h20 n0 Z1 SC hcs O1 SA SH SL FV FC A20 ga C20 (own_nc _)) hZ (w_ hw 7 rfl) (w_ hw 4 rfl) (by decide) (by decide)) (g := (mkF m 108 #[.val (.int p1), .val (.int p2), .val (.int p3), .val (.int p4), .val (.int (p1 &&& (3 : Int32))), .val (.int ((p2 &&& (65535 : Int32)).toUInt32.toUInt16.toUInt32.toInt32)), .val (.int ((p3 &&& (65535 : Int32)).toUInt32.toUInt16.toUInt32.toInt32)), .val (.int ((p4 &&& (65535 : Int32)).toUInt32.toUInt16.toUInt32.toInt32)), .val (.ref b13), .unset, .unset] [(.ref b13), (.ref b20), (.ref b20)])) rfl (by rw [hml]; rfl) (Steps.refl _) (a := b20) (argsL := [(.ref b13)]) (rest := [(.ref b20)]) (lenOf pd_19 rfl) rfl (by show 2 * 0 + _ ≤ _; exact Nat.le_of_eq rfl) (hb hby at_108) (fun _ _ => ⟨rfl, e20, (by decide : 2 + 2 ≤ _), (by decide : 5 + 3 ≤ _)⟩)
      dsimp only [Pt.U, Pt.locs, Pt.cells, Pt.slots] at X23 l23 y23 z23 st23 hQ23
      subst l23 y23 z23
      obtain ⟨rfl, N23, K23, vb, kb, SD⟩ := hQ23
      have Nf23 := Fr.app N17 N23
      refine Goes.via (S' := T23.setTop (mkF m 111 #[.val (.int p1), .val (.int p2), .val (.int p3), .val (.int p4), .val (.int (p1 &&& (3 : Int32))), .val (.int ((p2 &&& (65535 : Int32)).toUInt32.toUInt16.toUInt32.toInt32)), .val (.int ((p3 &&& (65535 : Int32)).toUInt32.toUInt16.toUInt32.toInt32)), .val (.int ((p4 &&& (65535 : Int32)).toUInt32.toUInt16.toUInt32.toInt32)), .val (.ref b13), .unset, .unset] [(.ref b20)])) (fun _ kz => st23.trans kz) ?_
      have hC24 := hC21.trans (CHr.keep K23 (allS (own_safe hZ.alike A20 FV) all0) hC21.1)
      have hk25 := Nat.le_trans hk22 K23.1
      rcases SD with ⟨s0, ST⟩ | ST
      · have Kf := K20.trans K23 (allS (Or.inr gh) all0)
        have O2 := O0.keep Kf all0
        have Z2 := Nat.le_trans Z0 Kf.1
        refine Goes.via (S' := T23.setTop (mkF m 120 #[.val (.int p1), .val (.int p2), .val (.int p3), .val (.int p4), .val (.int (p1 &&& (3 : Int32))), .val (.int ((p2 &&& (65535 : Int32)).toUInt32.toUInt16.toUInt32.toInt32)), .val (.int ((p3 &&& (65535 : Int32)).toUInt32.toUInt16.toUInt32.toInt32)), .val (.int ((p4 &&& (65535 : Int32)).toUInt32.toUInt16.toUInt32.toInt32)), .val (.ref b13), .val (.ref b20), .unset] [(.int ((p2 &&& (65535 : Int32)).toUInt32.toUInt16.toUInt32.toInt32))])) (fun tz kz => ?_) ?_
        · show Steps p.tables e below (T23.setTop (mkF m 111 #[.val (.int p1), .val (.int p2), .val (.int p3), .val (.int p4), .val (.int (p1 &&& (3 : Int32))), .val (.int ((p2 &&& (65535 : Int32)).toUInt32.toUInt16.toUInt32.toInt32)), .val (.int ((p3 &&& (65535 : Int32)).toUInt32.toUInt16.toUInt32.toInt32)), .val (.int ((p4 &&& (65535 : Int32)).toUInt32.toUInt16.toUInt32.toInt32)), .val (.ref b13), .unset, .unset] [(.ref b20)])) _
          refine XS.astore X23.here hx rfl (hb hby at_111) rfl rfl (l' := #[.val (.int p1), .val (.int p2), .val (.int p3), .val (.int p4), .val (.int (p1 &&& (3 : Int32))), .val (.int ((p2 &&& (65535 : Int32)).toUInt32.toUInt16.toUInt32.toInt32)), .val (.int ((p3 &&& (65535 : Int32)).toUInt32.toUInt16.toUInt32.toInt32)), .val (.int ((p4 &&& (65535 : Int32)).toUInt32.toUInt16.toUInt32.toInt32)), .val (.ref b13), .val (.ref b20), .unset]) rfl ?_
          refine XS.iload X23.here hx rfl (hb hby at_113) rfl ?_
          refine XS.ifNo X23.here hx rfl (hb hby at_115) rfl ((if0 _ _).trans (tlt (own_bge hnn (by decide))).2.2.2) ?_
          refine XS.iload X23.here hx rfl (hb hby at_118) rfl ?_
          exact kz
        obtain ⟨_, _, ⟨T26, L26, k26, n26⟩, -, X26, ⟨Lc26, hQ26, l26, y26, z26⟩, st26⟩ := Jvm.LawKit.callS X23 hx (y := (⟨"com/example/vestline/vestline/format/CsvPrintablePinLaw", "formulaStart", "(C)Z"⟩ : MethodName)) hown (mvT hZ (w_ hw 58 rfl)) (mvT hZ (w_ hw 59 rfl)) (mvT hZ (w_ hw 60 rfl)) (mvT hZ (w_ hw 61 rfl)) (by decide) (backOf (W := 0) (rfs l Z a0 hw [] ((p2 &&& (65535 : Int32)).toUInt32.toUInt16.toUInt32.toInt32) T23.heap n0 Z2) hZ (w_ hw 61 rfl) (w_ hw 60 rfl) (by decide) (by decide)) (g := (mkF m 120 #[.val (.int p1), .val (.int p2), .val (.int p3), .val (.int p4), .val (.int (p1 &&& (3 : Int32))), .val (.int ((p2 &&& (65535 : Int32)).toUInt32.toUInt16.toUInt32.toInt32)), .val (.int ((p3 &&& (65535 : Int32)).toUInt32.toUInt16.toUInt32.toInt32)), .val (.int ((p4 &&& (65535 : Int32)).toUInt32.toUInt16.toUInt32.toInt32)), .val (.ref b13), .val (.ref b20), .unset] [(.int ((p2 &&& (65535 : Int32)).toUInt32.toUInt16.toUInt32.toInt32))])) rfl (by rw [hml]; rfl) (argsL := [(.int ((p2 &&& (65535 : Int32)).toUInt32.toUInt16.toUInt32.toInt32))]) (rest := []) (lenOf pd_22 rfl) rfl (by show 2 * 0 + _ ≤ _; exact Nat.le_of_eq rfl) (hb hby at_120) (fun _ _ => ⟨rfl, rfl, (by decide : 4 + 0 ≤ _), (by decide : 8 + 0 ≤ _)⟩)
        dsimp only [Pt.U, Pt.locs, Pt.cells, Pt.slots] at X26 l26 y26 z26 st26 hQ26
        subst l26 y26 z26
        obtain ⟨rfl, N26, e26⟩ := hQ26
        have Nf26 := Fr.app Nf23 N26
        refine Goes.via (S' := T26.setTop (mkF m 123 #[.val (.int p1), .val (.int p2), .val (.int p3), .val (.int p4), .val (.int (p1 &&& (3 : Int32))), .val (.int ((p2 &&& (65535 : Int32)).toUInt32.toUInt16.toUInt32.toInt32)), .val (.int ((p3 &&& (65535 : Int32)).toUInt32.toUInt16.toUInt32.toInt32)), .val (.int ((p4 &&& (65535 : Int32)).toUInt32.toUInt16.toUInt32.toInt32)), .val (.ref b13), .val (.ref b20), .unset] [(.int (nar .boolean (own_fs ((p2 &&& (65535 : Int32)).toUInt32.toUInt16.toUInt32.toInt32))))])) (st26) ?_
        by_cases hc123_27 : (nar .boolean (own_fs ((p2 &&& (65535 : Int32)).toUInt32.toUInt16.toUInt32.toInt32))) = (0 : Int32)
        · refine Goes.via (S' := T26.setTop (mkF m 130 #[.val (.int p1), .val (.int p2), .val (.int p3), .val (.int p4), .val (.int (p1 &&& (3 : Int32))), .val (.int ((p2 &&& (65535 : Int32)).toUInt32.toUInt16.toUInt32.toInt32)), .val (.int ((p3 &&& (65535 : Int32)).toUInt32.toUInt16.toUInt32.toInt32)), .val (.int ((p4 &&& (65535 : Int32)).toUInt32.toUInt16.toUInt32.toInt32)), .val (.ref b13), .val (.ref b20), .unset] [(.ref b20)])) (fun tz kz => ?_) ?_
          · show Steps p.tables e below (T26.setTop (mkF m 123 #[.val (.int p1), .val (.int p2), .val (.int p3), .val (.int p4), .val (.int (p1 &&& (3 : Int32))), .val (.int ((p2 &&& (65535 : Int32)).toUInt32.toUInt16.toUInt32.toInt32)), .val (.int ((p3 &&& (65535 : Int32)).toUInt32.toUInt16.toUInt32.toInt32)), .val (.int ((p4 &&& (65535 : Int32)).toUInt32.toUInt16.toUInt32.toInt32)), .val (.ref b13), .val (.ref b20), .unset] [(.int (nar .boolean (own_fs ((p2 &&& (65535 : Int32)).toUInt32.toUInt16.toUInt32.toInt32))))])) _
            refine XS.ifYes X26.here hx rfl (pc0 := 123) (pc' := 128) rfl (hb hby at_123) rfl ((if0 _ _).trans (teq hc123_27).1) (by decide) (by decide) ?_
            refine XS.aload X26.here hx rfl (hb hby at_128) rfl rfl ?_
            exact kz
          obtain ⟨_, _, ⟨T28, L28, k28, n28⟩, -, X28, hs28, gs28, ⟨Lc28, hQ28, l28, y28, z28, hc28⟩, st28⟩ := callSS (show Stand p l e _ (s.setVm s.vm) m _ below meth c _ _ _ _ from X26) hx (y := (⟨"com/example/vestline/vestline/format/Csv", "printable", "(Ljava/lang/String;)Ljava/lang/String;"⟩ : MethodName)) hown (mvT hZ (w_ hw 23 rfl)) (mvT hZ (w_ hw 24 rfl)) (mvT hZ (w_ hw 25 rfl)) (mvT hZ (w_ hw 26 rfl)) (by decide) (backOfSH (s := s) (vm0 := s.vm) (W := 0) (rpr_L l Z a0 hw [] b20 vb kb cs (1 : Int32) ((p2 &&& (65535 : Int32)).toUInt32.toUInt16.toUInt32.toInt32) fv _ T23.heap n0 Z2 SC hcs O2 SF hfv ST (own_nc _) (own_nff (own_nc _) hc123_27) ⟨by decide, by decide⟩ rfl s0 (by decide)) hZ (w_ hw 26 rfl) (w_ hw 25 rfl) (by decide) (by decide) hEL hC24.1) (g := (mkF m 130 #[.val (.int p1), .val (.int p2), .val (.int p3), .val (.int p4), .val (.int (p1 &&& (3 : Int32))), .val (.int ((p2 &&& (65535 : Int32)).toUInt32.toUInt16.toUInt32.toInt32)), .val (.int ((p3 &&& (65535 : Int32)).toUInt32.toUInt16.toUInt32.toInt32)), .val (.int ((p4 &&& (65535 : Int32)).toUInt32.toUInt16.toUInt32.toInt32)), .val (.ref b13), .val (.ref b20), .unset] [(.ref b20)])) rfl (by rw [hml]; rfl) (argsL := [(.ref b20)]) (rest := []) (lenOf pd_20 rfl) rfl (by show 2 * 0 + _ ≤ _; exact Nat.le_of_eq rfl) (hb hby at_130) (fun _ _ => ⟨rfl, e26, (by decide : 4 + 2 ≤ _), (by decide : 8 + 28 ≤ _)⟩)
          dsimp only [Pt.U, Pt.locs, Pt.cells, Pt.slots] at X28 l28 y28 z28 st28 hQ28 hs28 gs28 hc28
          subst l28 y28 z28
          obtain ⟨rfl, N28, K28⟩ := hQ28
          rw [e26] at gs28
          have hS28 : s.Since T28.vm T28.heap.size := own_fold ((State.WarmedH.refl s).since 0) hk25 hs28 gs28
          have hC28 := hC24.trans hc28
          have hZ : Z.Warmed39 (s.setVm T28.vm).vm := State.Warmed39.trans (t := s.setVm s.vm) hZ hs28.1
          have hown : (s.setVm T28.vm).vm.findClass "com/example/vestline/vestline/format/CsvPrintablePinLaw" = some m.cls := by rw [show (s.setVm T28.vm).vm = T28.vm from rfl, hs28.1.alike.findClass]; exact hown
          have Nf28 := Fr.app Nf26 N28
          refine Goes.via (S' := T28.setTop (mkF m 133 #[.val (.int p1), .val (.int p2), .val (.int p3), .val (.int p4), .val (.int (p1 &&& (3 : Int32))), .val (.int ((p2 &&& (65535 : Int32)).toUInt32.toUInt16.toUInt32.toInt32)), .val (.int ((p3 &&& (65535 : Int32)).toUInt32.toUInt16.toUInt32.toInt32)), .val (.int ((p4 &&& (65535 : Int32)).toUInt32.toUInt16.toUInt32.toInt32)), .val (.ref b13), .val (.ref b20), .unset] [(.ref b20)])) (fun _ kz => st28.trans kz) ?_
          have SS := ST.keep K28 nin0 nin0
          have Kg := Kf.trans K28 all0
          have O3 := O0.keep Kg all0
          have Z3 := Nat.le_trans Z0 Kg.1
          refine Goes.via (S' := T28.setTop (mkF m 142 #[.val (.int p1), .val (.int p2), .val (.int p3), .val (.int p4), .val (.int (p1 &&& (3 : Int32))), .val (.int ((p2 &&& (65535 : Int32)).toUInt32.toUInt16.toUInt32.toInt32)), .val (.int ((p3 &&& (65535 : Int32)).toUInt32.toUInt16.toUInt32.toInt32)), .val (.int ((p4 &&& (65535 : Int32)).toUInt32.toUInt16.toUInt32.toInt32)), .val (.ref b13), .val (.ref b20), .val (.ref b20)] [(.ref b20)])) (fun tz kz => ?_) ?_
          · show Steps p.tables e below (T28.setTop (mkF m 133 #[.val (.int p1), .val (.int p2), .val (.int p3), .val (.int p4), .val (.int (p1 &&& (3 : Int32))), .val (.int ((p2 &&& (65535 : Int32)).toUInt32.toUInt16.toUInt32.toInt32)), .val (.int ((p3 &&& (65535 : Int32)).toUInt32.toUInt16.toUInt32.toInt32)), .val (.int ((p4 &&& (65535 : Int32)).toUInt32.toUInt16.toUInt32.toInt32)), .val (.ref b13), .val (.ref b20), .unset] [(.ref b20)])) _
            refine XS.astore X28.here hx rfl (hb hby at_133) rfl rfl (l' := #[.val (.int p1), .val (.int p2), .val (.int p3), .val (.int p4), .val (.int (p1 &&& (3 : Int32))), .val (.int ((p2 &&& (65535 : Int32)).toUInt32.toUInt16.toUInt32.toInt32)), .val (.int ((p3 &&& (65535 : Int32)).toUInt32.toUInt16.toUInt32.toInt32)), .val (.int ((p4 &&& (65535 : Int32)).toUInt32.toUInt16.toUInt32.toInt32)), .val (.ref b13), .val (.ref b20), .val (.ref b20)]) rfl ?_
            refine XS.aload X28.here hx rfl (hb hby at_135) rfl rfl ?_
            refine XS.ifnullNo X28.here hx rfl (hb hby at_137) rfl ?_
            refine XS.aload X28.here hx rfl (hb hby at_140) rfl rfl ?_
            exact kz
          obtain ⟨cq29, kq29, q29a, q29b, q29c⟩ := isOf hZ rfl SS.1
          obtain ⟨_, _, ⟨T29, L29, k29, n29⟩, -, X29, ⟨Lc29, hQ29, l29, y29, z29⟩, st29⟩ := X28.virtualBack hx (y := (⟨"java/lang/String", "length", "()I"⟩ : MethodName)) (z := (⟨"java/lang/String", "length", "()I"⟩ : MethodName)) hown (mvT hZ (w_ hw 32 rfl)) (mvT hZ (w_ hw 33 rfl)) (notFace_of_selects (args := #[]) (mvT hZ (w_ hw 35 rfl))) (mvT hZ (w_ hw 35 rfl)) (mvT hZ (w_ hw 34 rfl)) (by decide) (backOf (W := 0) (rlen l Z a0 hw [] b20 vb kb cs (0 : Int32) (1 : Int32) (1 : Int32) _ T28.heap n0 Z3 SC hcs O3 SS.1 SS.2.1 SS.2.2.1 SS.2.2.2 rfl rfl) hZ (w_ hw 36 rfl) (w_ hw 4 rfl) (by decide) (by decide)) q29a q29c (g := (mkF m 142 #[.val (.int p1), .val (.int p2), .val (.int p3), .val (.int p4), .val (.int (p1 &&& (3 : Int32))), .val (.int ((p2 &&& (65535 : Int32)).toUInt32.toUInt16.toUInt32.toInt32)), .val (.int ((p3 &&& (65535 : Int32)).toUInt32.toUInt16.toUInt32.toInt32)), .val (.int ((p4 &&& (65535 : Int32)).toUInt32.toUInt16.toUInt32.toInt32)), .val (.ref b13), .val (.ref b20), .val (.ref b20)] [(.ref b20)])) rfl (by rw [hml]; rfl) (Steps.refl _) (argsL := []) (rest := []) (lenOf pd_17 rfl) rfl (by show 2 * 0 + _ ≤ _; exact Nat.le_of_eq rfl) (hb hby at_142) (fun _ _ => ⟨rfl, rfl, (by decide : 6 + 0 ≤ _), (by decide : 36 + 0 ≤ _)⟩)
          dsimp only [Pt.U, Pt.locs, Pt.cells, Pt.slots] at X29 l29 y29 z29 st29 hQ29
          subst l29 y29 z29
          obtain ⟨rfl, N29, e29⟩ := hQ29
          have Nf29 := Fr.app Nf28 N29
          refine Goes.via (S' := T29.setTop (mkF m 145 #[.val (.int p1), .val (.int p2), .val (.int p3), .val (.int p4), .val (.int (p1 &&& (3 : Int32))), .val (.int ((p2 &&& (65535 : Int32)).toUInt32.toUInt16.toUInt32.toInt32)), .val (.int ((p3 &&& (65535 : Int32)).toUInt32.toUInt16.toUInt32.toInt32)), .val (.int ((p4 &&& (65535 : Int32)).toUInt32.toUInt16.toUInt32.toInt32)), .val (.ref b13), .val (.ref b20), .val (.ref b20)] [(.int (1 : Int32))])) (fun _ kz => st29.trans kz) ?_
          refine Goes.via (S' := T29.setTop (mkF m 154 #[.val (.int p1), .val (.int p2), .val (.int p3), .val (.int p4), .val (.int (p1 &&& (3 : Int32))), .val (.int ((p2 &&& (65535 : Int32)).toUInt32.toUInt16.toUInt32.toInt32)), .val (.int ((p3 &&& (65535 : Int32)).toUInt32.toUInt16.toUInt32.toInt32)), .val (.int ((p4 &&& (65535 : Int32)).toUInt32.toUInt16.toUInt32.toInt32)), .val (.ref b13), .val (.ref b20), .val (.ref b20)] [(.ref b20), (.ref b20)])) (fun tz kz => ?_) ?_
          · show Steps p.tables e below (T29.setTop (mkF m 145 #[.val (.int p1), .val (.int p2), .val (.int p3), .val (.int p4), .val (.int (p1 &&& (3 : Int32))), .val (.int ((p2 &&& (65535 : Int32)).toUInt32.toUInt16.toUInt32.toInt32)), .val (.int ((p3 &&& (65535 : Int32)).toUInt32.toUInt16.toUInt32.toInt32)), .val (.int ((p4 &&& (65535 : Int32)).toUInt32.toUInt16.toUInt32.toInt32)), .val (.ref b13), .val (.ref b20), .val (.ref b20)] [(.int (1 : Int32))])) _
            refine XS.iload X29.here hx rfl (hb hby at_145) rfl ?_
            refine XS.icmpNo X29.here hx rfl (hb hby at_147) rfl (teq hnn.symm).2 ?_
            refine XS.aload X29.here hx rfl (hb hby at_150) rfl rfl ?_
            refine XS.aload X29.here hx rfl (hb hby at_152) rfl rfl ?_
            exact kz
          obtain ⟨cq30, kq30, q30a, q30b, q30c⟩ := isOf hZ e29 SS.1
          obtain ⟨_, _, ⟨T30, L30, k30, n30⟩, -, X30, ⟨Lc30, hQ30, l30, y30, z30⟩, st30⟩ := X29.virtualBack hx (y := (⟨"java/lang/String", "equals", "(Ljava/lang/Object;)Z"⟩ : MethodName)) (z := (⟨"java/lang/String", "equals", "(Ljava/lang/Object;)Z"⟩ : MethodName)) hown (mvT hZ (w_ hw 43 rfl)) (mvT hZ (w_ hw 44 rfl)) (notFace_of_selects (args := #[]) (mvT hZ (w_ hw 46 rfl))) (mvT hZ (w_ hw 46 rfl)) (mvT hZ (w_ hw 45 rfl)) (by decide) (backOf (W := 0) (rsame l Z a0 hw [] b20 T28.heap n0 Z3) hZ (w_ hw 47 rfl) (w_ hw 4 rfl) (by decide) (by decide)) q30a q30c (g := (mkF m 154 #[.val (.int p1), .val (.int p2), .val (.int p3), .val (.int p4), .val (.int (p1 &&& (3 : Int32))), .val (.int ((p2 &&& (65535 : Int32)).toUInt32.toUInt16.toUInt32.toInt32)), .val (.int ((p3 &&& (65535 : Int32)).toUInt32.toUInt16.toUInt32.toInt32)), .val (.int ((p4 &&& (65535 : Int32)).toUInt32.toUInt16.toUInt32.toInt32)), .val (.ref b13), .val (.ref b20), .val (.ref b20)] [(.ref b20), (.ref b20)])) rfl (by rw [hml]; rfl) (Steps.refl _) (argsL := [(.ref b20)]) (rest := []) (lenOf pd_21 rfl) rfl (by show 2 * 0 + _ ≤ _; exact Nat.le_of_eq rfl) (hb hby at_154) (fun _ _ => ⟨rfl, e29, (by decide : 6 + 0 ≤ _), (by decide : 36 + 0 ≤ _)⟩)
          dsimp only [Pt.U, Pt.locs, Pt.cells, Pt.slots] at X30 l30 y30 z30 st30 hQ30
          subst l30 y30 z30
          obtain ⟨rfl, N30, e30⟩ := hQ30
          have Nf30 := Fr.app Nf29 N30
          refine Goes.via (S' := T30.setTop (mkF m 157 #[.val (.int p1), .val (.int p2), .val (.int p3), .val (.int p4), .val (.int (p1 &&& (3 : Int32))), .val (.int ((p2 &&& (65535 : Int32)).toUInt32.toUInt16.toUInt32.toInt32)), .val (.int ((p3 &&& (65535 : Int32)).toUInt32.toUInt16.toUInt32.toInt32)), .val (.int ((p4 &&& (65535 : Int32)).toUInt32.toUInt16.toUInt32.toInt32)), .val (.ref b13), .val (.ref b20), .val (.ref b20)] [(.int (1 : Int32))])) (fun _ kz => st30.trans kz) ?_
          refine Goes.via (S' := T30.setTop (mkF m 165 #[.val (.int p1), .val (.int p2), .val (.int p3), .val (.int p4), .val (.int (p1 &&& (3 : Int32))), .val (.int ((p2 &&& (65535 : Int32)).toUInt32.toUInt16.toUInt32.toInt32)), .val (.int ((p3 &&& (65535 : Int32)).toUInt32.toUInt16.toUInt32.toInt32)), .val (.int ((p4 &&& (65535 : Int32)).toUInt32.toUInt16.toUInt32.toInt32)), .val (.ref b13), .val (.ref b20), .val (.ref b20)] [(.int (1 : Int32))])) (fun tz kz => ?_) ?_
          · show Steps p.tables e below (T30.setTop (mkF m 157 #[.val (.int p1), .val (.int p2), .val (.int p3), .val (.int p4), .val (.int (p1 &&& (3 : Int32))), .val (.int ((p2 &&& (65535 : Int32)).toUInt32.toUInt16.toUInt32.toInt32)), .val (.int ((p3 &&& (65535 : Int32)).toUInt32.toUInt16.toUInt32.toInt32)), .val (.int ((p4 &&& (65535 : Int32)).toUInt32.toUInt16.toUInt32.toInt32)), .val (.ref b13), .val (.ref b20), .val (.ref b20)] [(.int (1 : Int32))])) _
            refine XS.ifNo X30.here hx rfl (hb hby at_157) rfl ((if0 _ _).trans (feq (by first | decide | rfl)).1) ?_
            refine XS.iconst X30.here hx rfl (hb hby at_160) ?_
            refine XS.goto X30.here hx rfl (pc0 := 161) (pc' := 165) rfl (hb hby at_161) (by decide) (by decide) ?_
            exact kz
          exact Goes.retNH (s := s) (vm1 := T28.vm) X30 hx Bd.notSynchronized hS28 (Nat.le_refl _) e30 hZ hEL hC28 (t := .boolean) Bd.returns (by simp) (hb hby at_165) (Nat.le_of_ble_eq_true rfl) (Nat.le_of_ble_eq_true rfl) ⟨rfl, Nf30⟩
        · refine Goes.via (S' := T26.setTop (mkF m 127 #[.val (.int p1), .val (.int p2), .val (.int p3), .val (.int p4), .val (.int (p1 &&& (3 : Int32))), .val (.int ((p2 &&& (65535 : Int32)).toUInt32.toUInt16.toUInt32.toInt32)), .val (.int ((p3 &&& (65535 : Int32)).toUInt32.toUInt16.toUInt32.toInt32)), .val (.int ((p4 &&& (65535 : Int32)).toUInt32.toUInt16.toUInt32.toInt32)), .val (.ref b13), .val (.ref b20), .unset] [(.int (1 : Int32))])) (fun tz kz => ?_) ?_
          · show Steps p.tables e below (T26.setTop (mkF m 123 #[.val (.int p1), .val (.int p2), .val (.int p3), .val (.int p4), .val (.int (p1 &&& (3 : Int32))), .val (.int ((p2 &&& (65535 : Int32)).toUInt32.toUInt16.toUInt32.toInt32)), .val (.int ((p3 &&& (65535 : Int32)).toUInt32.toUInt16.toUInt32.toInt32)), .val (.int ((p4 &&& (65535 : Int32)).toUInt32.toUInt16.toUInt32.toInt32)), .val (.ref b13), .val (.ref b20), .unset] [(.int (nar .boolean (own_fs ((p2 &&& (65535 : Int32)).toUInt32.toUInt16.toUInt32.toInt32))))])) _
            refine XS.ifNo X26.here hx rfl (hb hby at_123) rfl ((if0 _ _).trans (feq hc123_27).1) ?_
            refine XS.iconst X26.here hx rfl (hb hby at_126) ?_
            exact kz
          exact Goes.retNH (s := s) (vm1 := s.vm) X26 hx Bd.notSynchronized ((State.WarmedH.refl s).since 0) hk25 e26 hZ hEL hC24 (t := .boolean) Bd.returns (by simp) (hb hby at_127) (Nat.le_of_ble_eq_true rfl) (Nat.le_of_ble_eq_true rfl) ⟨rfl, Nf26⟩
      · have Kf := K20.trans K23 (allS (Or.inr gh) all0)
        have O2 := O0.keep Kf all0
        have Z2 := Nat.le_trans Z0 Kf.1
        refine Goes.via (S' := T23.setTop (mkF m 120 #[.val (.int p1), .val (.int p2), .val (.int p3), .val (.int p4), .val (.int (p1 &&& (3 : Int32))), .val (.int ((p2 &&& (65535 : Int32)).toUInt32.toUInt16.toUInt32.toInt32)), .val (.int ((p3 &&& (65535 : Int32)).toUInt32.toUInt16.toUInt32.toInt32)), .val (.int ((p4 &&& (65535 : Int32)).toUInt32.toUInt16.toUInt32.toInt32)), .val (.ref b13), .val (.ref b20), .unset] [(.int ((p2 &&& (65535 : Int32)).toUInt32.toUInt16.toUInt32.toInt32))])) (fun tz kz => ?_) ?_
        · show Steps p.tables e below (T23.setTop (mkF m 111 #[.val (.int p1), .val (.int p2), .val (.int p3), .val (.int p4), .val (.int (p1 &&& (3 : Int32))), .val (.int ((p2 &&& (65535 : Int32)).toUInt32.toUInt16.toUInt32.toInt32)), .val (.int ((p3 &&& (65535 : Int32)).toUInt32.toUInt16.toUInt32.toInt32)), .val (.int ((p4 &&& (65535 : Int32)).toUInt32.toUInt16.toUInt32.toInt32)), .val (.ref b13), .unset, .unset] [(.ref b20)])) _
          refine XS.astore X23.here hx rfl (hb hby at_111) rfl rfl (l' := #[.val (.int p1), .val (.int p2), .val (.int p3), .val (.int p4), .val (.int (p1 &&& (3 : Int32))), .val (.int ((p2 &&& (65535 : Int32)).toUInt32.toUInt16.toUInt32.toInt32)), .val (.int ((p3 &&& (65535 : Int32)).toUInt32.toUInt16.toUInt32.toInt32)), .val (.int ((p4 &&& (65535 : Int32)).toUInt32.toUInt16.toUInt32.toInt32)), .val (.ref b13), .val (.ref b20), .unset]) rfl ?_
          refine XS.iload X23.here hx rfl (hb hby at_113) rfl ?_
          refine XS.ifNo X23.here hx rfl (hb hby at_115) rfl ((if0 _ _).trans (tlt (own_bge hnn (by decide))).2.2.2) ?_
          refine XS.iload X23.here hx rfl (hb hby at_118) rfl ?_
          exact kz
        obtain ⟨_, _, ⟨T31, L31, k31, n31⟩, -, X31, ⟨Lc31, hQ31, l31, y31, z31⟩, st31⟩ := Jvm.LawKit.callS X23 hx (y := (⟨"com/example/vestline/vestline/format/CsvPrintablePinLaw", "formulaStart", "(C)Z"⟩ : MethodName)) hown (mvT hZ (w_ hw 58 rfl)) (mvT hZ (w_ hw 59 rfl)) (mvT hZ (w_ hw 60 rfl)) (mvT hZ (w_ hw 61 rfl)) (by decide) (backOf (W := 0) (rfs l Z a0 hw [] ((p2 &&& (65535 : Int32)).toUInt32.toUInt16.toUInt32.toInt32) T23.heap n0 Z2) hZ (w_ hw 61 rfl) (w_ hw 60 rfl) (by decide) (by decide)) (g := (mkF m 120 #[.val (.int p1), .val (.int p2), .val (.int p3), .val (.int p4), .val (.int (p1 &&& (3 : Int32))), .val (.int ((p2 &&& (65535 : Int32)).toUInt32.toUInt16.toUInt32.toInt32)), .val (.int ((p3 &&& (65535 : Int32)).toUInt32.toUInt16.toUInt32.toInt32)), .val (.int ((p4 &&& (65535 : Int32)).toUInt32.toUInt16.toUInt32.toInt32)), .val (.ref b13), .val (.ref b20), .unset] [(.int ((p2 &&& (65535 : Int32)).toUInt32.toUInt16.toUInt32.toInt32))])) rfl (by rw [hml]; rfl) (argsL := [(.int ((p2 &&& (65535 : Int32)).toUInt32.toUInt16.toUInt32.toInt32))]) (rest := []) (lenOf pd_22 rfl) rfl (by show 2 * 0 + _ ≤ _; exact Nat.le_of_eq rfl) (hb hby at_120) (fun _ _ => ⟨rfl, rfl, (by decide : 4 + 0 ≤ _), (by decide : 8 + 0 ≤ _)⟩)
        dsimp only [Pt.U, Pt.locs, Pt.cells, Pt.slots] at X31 l31 y31 z31 st31 hQ31
        subst l31 y31 z31
        obtain ⟨rfl, N31, e31⟩ := hQ31
        have Nf31 := Fr.app Nf23 N31
        refine Goes.via (S' := T31.setTop (mkF m 123 #[.val (.int p1), .val (.int p2), .val (.int p3), .val (.int p4), .val (.int (p1 &&& (3 : Int32))), .val (.int ((p2 &&& (65535 : Int32)).toUInt32.toUInt16.toUInt32.toInt32)), .val (.int ((p3 &&& (65535 : Int32)).toUInt32.toUInt16.toUInt32.toInt32)), .val (.int ((p4 &&& (65535 : Int32)).toUInt32.toUInt16.toUInt32.toInt32)), .val (.ref b13), .val (.ref b20), .unset] [(.int (nar .boolean (own_fs ((p2 &&& (65535 : Int32)).toUInt32.toUInt16.toUInt32.toInt32))))])) (st31) ?_
        by_cases hc123_32 : (nar .boolean (own_fs ((p2 &&& (65535 : Int32)).toUInt32.toUInt16.toUInt32.toInt32))) = (0 : Int32)
        · refine Goes.via (S' := T31.setTop (mkF m 130 #[.val (.int p1), .val (.int p2), .val (.int p3), .val (.int p4), .val (.int (p1 &&& (3 : Int32))), .val (.int ((p2 &&& (65535 : Int32)).toUInt32.toUInt16.toUInt32.toInt32)), .val (.int ((p3 &&& (65535 : Int32)).toUInt32.toUInt16.toUInt32.toInt32)), .val (.int ((p4 &&& (65535 : Int32)).toUInt32.toUInt16.toUInt32.toInt32)), .val (.ref b13), .val (.ref b20), .unset] [(.ref b20)])) (fun tz kz => ?_) ?_
          · show Steps p.tables e below (T31.setTop (mkF m 123 #[.val (.int p1), .val (.int p2), .val (.int p3), .val (.int p4), .val (.int (p1 &&& (3 : Int32))), .val (.int ((p2 &&& (65535 : Int32)).toUInt32.toUInt16.toUInt32.toInt32)), .val (.int ((p3 &&& (65535 : Int32)).toUInt32.toUInt16.toUInt32.toInt32)), .val (.int ((p4 &&& (65535 : Int32)).toUInt32.toUInt16.toUInt32.toInt32)), .val (.ref b13), .val (.ref b20), .unset] [(.int (nar .boolean (own_fs ((p2 &&& (65535 : Int32)).toUInt32.toUInt16.toUInt32.toInt32))))])) _
            refine XS.ifYes X31.here hx rfl (pc0 := 123) (pc' := 128) rfl (hb hby at_123) rfl ((if0 _ _).trans (teq hc123_32).1) (by decide) (by decide) ?_
            refine XS.aload X31.here hx rfl (hb hby at_128) rfl rfl ?_
            exact kz
          obtain ⟨_, _, ⟨T33, L33, k33, n33⟩, -, X33, hs33, gs33, ⟨Lc33, hQ33, l33, y33, z33, hc33⟩, st33⟩ := callSS (show Stand p l e _ (s.setVm s.vm) m _ below meth c _ _ _ _ from X31) hx (y := (⟨"com/example/vestline/vestline/format/Csv", "printable", "(Ljava/lang/String;)Ljava/lang/String;"⟩ : MethodName)) hown (mvT hZ (w_ hw 23 rfl)) (mvT hZ (w_ hw 24 rfl)) (mvT hZ (w_ hw 25 rfl)) (mvT hZ (w_ hw 26 rfl)) (by decide) (backOfSH (s := s) (vm0 := s.vm) (W := 0) (rpr_U l Z a0 hw [] b20 vb kb cs (2 : Int32) (1 : Int32) ((p2 &&& (65535 : Int32)).toUInt32.toUInt16.toUInt32.toInt32) fv _ T23.heap n0 Z2 SC hcs O2 SF hfv SA SH SL ST (own_nc _) (own_nff (own_nc _) hc123_32) rfl ⟨by decide, by decide⟩ ⟨by decide, by decide⟩ ⟨by decide, by decide⟩ rfl rfl (by decide)) hZ (w_ hw 26 rfl) (w_ hw 25 rfl) (by decide) (by decide) hEL hC24.1) (g := (mkF m 130 #[.val (.int p1), .val (.int p2), .val (.int p3), .val (.int p4), .val (.int (p1 &&& (3 : Int32))), .val (.int ((p2 &&& (65535 : Int32)).toUInt32.toUInt16.toUInt32.toInt32)), .val (.int ((p3 &&& (65535 : Int32)).toUInt32.toUInt16.toUInt32.toInt32)), .val (.int ((p4 &&& (65535 : Int32)).toUInt32.toUInt16.toUInt32.toInt32)), .val (.ref b13), .val (.ref b20), .unset] [(.ref b20)])) rfl (by rw [hml]; rfl) (argsL := [(.ref b20)]) (rest := []) (lenOf pd_20 rfl) rfl (by show 2 * 0 + _ ≤ _; exact Nat.le_of_eq rfl) (hb hby at_130) (fun _ _ => ⟨rfl, e31, (by decide : 4 + 2 ≤ _), (by decide : 8 + 28 ≤ _)⟩)
          dsimp only [Pt.U, Pt.locs, Pt.cells, Pt.slots] at X33 l33 y33 z33 st33 hQ33 hs33 gs33 hc33
          subst l33 y33 z33
          obtain ⟨rfl, N33, K33⟩ := hQ33
          rw [e31] at gs33
          have hS33 : s.Since T33.vm T33.heap.size := own_fold ((State.WarmedH.refl s).since 0) hk25 hs33 gs33
          have hC33 := hC24.trans hc33
          have hZ : Z.Warmed39 (s.setVm T33.vm).vm := State.Warmed39.trans (t := s.setVm s.vm) hZ hs33.1
          have hown : (s.setVm T33.vm).vm.findClass "com/example/vestline/vestline/format/CsvPrintablePinLaw" = some m.cls := by rw [show (s.setVm T33.vm).vm = T33.vm from rfl, hs33.1.alike.findClass]; exact hown
          have Nf33 := Fr.app Nf31 N33
          refine Goes.via (S' := T33.setTop (mkF m 133 #[.val (.int p1), .val (.int p2), .val (.int p3), .val (.int p4), .val (.int (p1 &&& (3 : Int32))), .val (.int ((p2 &&& (65535 : Int32)).toUInt32.toUInt16.toUInt32.toInt32)), .val (.int ((p3 &&& (65535 : Int32)).toUInt32.toUInt16.toUInt32.toInt32)), .val (.int ((p4 &&& (65535 : Int32)).toUInt32.toUInt16.toUInt32.toInt32)), .val (.ref b13), .val (.ref b20), .unset] [(.ref b20)])) (fun _ kz => st33.trans kz) ?_
          have SS := ST.keep K33 nin0 nin0
          have Kg := Kf.trans K33 all0
          have O3 := O0.keep Kg all0
          have Z3 := Nat.le_trans Z0 Kg.1
          refine Goes.via (S' := T33.setTop (mkF m 142 #[.val (.int p1), .val (.int p2), .val (.int p3), .val (.int p4), .val (.int (p1 &&& (3 : Int32))), .val (.int ((p2 &&& (65535 : Int32)).toUInt32.toUInt16.toUInt32.toInt32)), .val (.int ((p3 &&& (65535 : Int32)).toUInt32.toUInt16.toUInt32.toInt32)), .val (.int ((p4 &&& (65535 : Int32)).toUInt32.toUInt16.toUInt32.toInt32)), .val (.ref b13), .val (.ref b20), .val (.ref b20)] [(.ref b20)])) (fun tz kz => ?_) ?_
          · show Steps p.tables e below (T33.setTop (mkF m 133 #[.val (.int p1), .val (.int p2), .val (.int p3), .val (.int p4), .val (.int (p1 &&& (3 : Int32))), .val (.int ((p2 &&& (65535 : Int32)).toUInt32.toUInt16.toUInt32.toInt32)), .val (.int ((p3 &&& (65535 : Int32)).toUInt32.toUInt16.toUInt32.toInt32)), .val (.int ((p4 &&& (65535 : Int32)).toUInt32.toUInt16.toUInt32.toInt32)), .val (.ref b13), .val (.ref b20), .unset] [(.ref b20)])) _
            refine XS.astore X33.here hx rfl (hb hby at_133) rfl rfl (l' := #[.val (.int p1), .val (.int p2), .val (.int p3), .val (.int p4), .val (.int (p1 &&& (3 : Int32))), .val (.int ((p2 &&& (65535 : Int32)).toUInt32.toUInt16.toUInt32.toInt32)), .val (.int ((p3 &&& (65535 : Int32)).toUInt32.toUInt16.toUInt32.toInt32)), .val (.int ((p4 &&& (65535 : Int32)).toUInt32.toUInt16.toUInt32.toInt32)), .val (.ref b13), .val (.ref b20), .val (.ref b20)]) rfl ?_
            refine XS.aload X33.here hx rfl (hb hby at_135) rfl rfl ?_
            refine XS.ifnullNo X33.here hx rfl (hb hby at_137) rfl ?_
            refine XS.aload X33.here hx rfl (hb hby at_140) rfl rfl ?_
            exact kz
          obtain ⟨cq34, kq34, q34a, q34b, q34c⟩ := isOf hZ rfl SS.1
          obtain ⟨_, _, ⟨T34, L34, k34, n34⟩, -, X34, ⟨Lc34, hQ34, l34, y34, z34⟩, st34⟩ := X33.virtualBack hx (y := (⟨"java/lang/String", "length", "()I"⟩ : MethodName)) (z := (⟨"java/lang/String", "length", "()I"⟩ : MethodName)) hown (mvT hZ (w_ hw 32 rfl)) (mvT hZ (w_ hw 33 rfl)) (notFace_of_selects (args := #[]) (mvT hZ (w_ hw 35 rfl))) (mvT hZ (w_ hw 35 rfl)) (mvT hZ (w_ hw 34 rfl)) (by decide) (backOf (W := 0) (rlen l Z a0 hw [] b20 vb kb cs (1 : Int32) (2 : Int32) (1 : Int32) _ T33.heap n0 Z3 SC hcs O3 SS.1 SS.2.1 SS.2.2.1 SS.2.2.2 rfl rfl) hZ (w_ hw 36 rfl) (w_ hw 4 rfl) (by decide) (by decide)) q34a q34c (g := (mkF m 142 #[.val (.int p1), .val (.int p2), .val (.int p3), .val (.int p4), .val (.int (p1 &&& (3 : Int32))), .val (.int ((p2 &&& (65535 : Int32)).toUInt32.toUInt16.toUInt32.toInt32)), .val (.int ((p3 &&& (65535 : Int32)).toUInt32.toUInt16.toUInt32.toInt32)), .val (.int ((p4 &&& (65535 : Int32)).toUInt32.toUInt16.toUInt32.toInt32)), .val (.ref b13), .val (.ref b20), .val (.ref b20)] [(.ref b20)])) rfl (by rw [hml]; rfl) (Steps.refl _) (argsL := []) (rest := []) (lenOf pd_17 rfl) rfl (by show 2 * 0 + _ ≤ _; exact Nat.le_of_eq rfl) (hb hby at_142) (fun _ _ => ⟨rfl, rfl, (by decide : 6 + 0 ≤ _), (by decide : 36 + 0 ≤ _)⟩)
          dsimp only [Pt.U, Pt.locs, Pt.cells, Pt.slots] at X34 l34 y34 z34 st34 hQ34
          subst l34 y34 z34
          obtain ⟨rfl, N34, e34⟩ := hQ34
          have Nf34 := Fr.app Nf33 N34
          refine Goes.via (S' := T34.setTop (mkF m 145 #[.val (.int p1), .val (.int p2), .val (.int p3), .val (.int p4), .val (.int (p1 &&& (3 : Int32))), .val (.int ((p2 &&& (65535 : Int32)).toUInt32.toUInt16.toUInt32.toInt32)), .val (.int ((p3 &&& (65535 : Int32)).toUInt32.toUInt16.toUInt32.toInt32)), .val (.int ((p4 &&& (65535 : Int32)).toUInt32.toUInt16.toUInt32.toInt32)), .val (.ref b13), .val (.ref b20), .val (.ref b20)] [(.int (1 : Int32))])) (fun _ kz => st34.trans kz) ?_
          refine Goes.via (S' := T34.setTop (mkF m 154 #[.val (.int p1), .val (.int p2), .val (.int p3), .val (.int p4), .val (.int (p1 &&& (3 : Int32))), .val (.int ((p2 &&& (65535 : Int32)).toUInt32.toUInt16.toUInt32.toInt32)), .val (.int ((p3 &&& (65535 : Int32)).toUInt32.toUInt16.toUInt32.toInt32)), .val (.int ((p4 &&& (65535 : Int32)).toUInt32.toUInt16.toUInt32.toInt32)), .val (.ref b13), .val (.ref b20), .val (.ref b20)] [(.ref b20), (.ref b20)])) (fun tz kz => ?_) ?_
          · show Steps p.tables e below (T34.setTop (mkF m 145 #[.val (.int p1), .val (.int p2), .val (.int p3), .val (.int p4), .val (.int (p1 &&& (3 : Int32))), .val (.int ((p2 &&& (65535 : Int32)).toUInt32.toUInt16.toUInt32.toInt32)), .val (.int ((p3 &&& (65535 : Int32)).toUInt32.toUInt16.toUInt32.toInt32)), .val (.int ((p4 &&& (65535 : Int32)).toUInt32.toUInt16.toUInt32.toInt32)), .val (.ref b13), .val (.ref b20), .val (.ref b20)] [(.int (1 : Int32))])) _
            refine XS.iload X34.here hx rfl (hb hby at_145) rfl ?_
            refine XS.icmpNo X34.here hx rfl (hb hby at_147) rfl (teq hnn.symm).2 ?_
            refine XS.aload X34.here hx rfl (hb hby at_150) rfl rfl ?_
            refine XS.aload X34.here hx rfl (hb hby at_152) rfl rfl ?_
            exact kz
          obtain ⟨cq35, kq35, q35a, q35b, q35c⟩ := isOf hZ e34 SS.1
          obtain ⟨_, _, ⟨T35, L35, k35, n35⟩, -, X35, ⟨Lc35, hQ35, l35, y35, z35⟩, st35⟩ := X34.virtualBack hx (y := (⟨"java/lang/String", "equals", "(Ljava/lang/Object;)Z"⟩ : MethodName)) (z := (⟨"java/lang/String", "equals", "(Ljava/lang/Object;)Z"⟩ : MethodName)) hown (mvT hZ (w_ hw 43 rfl)) (mvT hZ (w_ hw 44 rfl)) (notFace_of_selects (args := #[]) (mvT hZ (w_ hw 46 rfl))) (mvT hZ (w_ hw 46 rfl)) (mvT hZ (w_ hw 45 rfl)) (by decide) (backOf (W := 0) (rsame l Z a0 hw [] b20 T33.heap n0 Z3) hZ (w_ hw 47 rfl) (w_ hw 4 rfl) (by decide) (by decide)) q35a q35c (g := (mkF m 154 #[.val (.int p1), .val (.int p2), .val (.int p3), .val (.int p4), .val (.int (p1 &&& (3 : Int32))), .val (.int ((p2 &&& (65535 : Int32)).toUInt32.toUInt16.toUInt32.toInt32)), .val (.int ((p3 &&& (65535 : Int32)).toUInt32.toUInt16.toUInt32.toInt32)), .val (.int ((p4 &&& (65535 : Int32)).toUInt32.toUInt16.toUInt32.toInt32)), .val (.ref b13), .val (.ref b20), .val (.ref b20)] [(.ref b20), (.ref b20)])) rfl (by rw [hml]; rfl) (Steps.refl _) (argsL := [(.ref b20)]) (rest := []) (lenOf pd_21 rfl) rfl (by show 2 * 0 + _ ≤ _; exact Nat.le_of_eq rfl) (hb hby at_154) (fun _ _ => ⟨rfl, e34, (by decide : 6 + 0 ≤ _), (by decide : 36 + 0 ≤ _)⟩)
          dsimp only [Pt.U, Pt.locs, Pt.cells, Pt.slots] at X35 l35 y35 z35 st35 hQ35
          subst l35 y35 z35
          obtain ⟨rfl, N35, e35⟩ := hQ35
          have Nf35 := Fr.app Nf34 N35
          refine Goes.via (S' := T35.setTop (mkF m 157 #[.val (.int p1), .val (.int p2), .val (.int p3), .val (.int p4), .val (.int (p1 &&& (3 : Int32))), .val (.int ((p2 &&& (65535 : Int32)).toUInt32.toUInt16.toUInt32.toInt32)), .val (.int ((p3 &&& (65535 : Int32)).toUInt32.toUInt16.toUInt32.toInt32)), .val (.int ((p4 &&& (65535 : Int32)).toUInt32.toUInt16.toUInt32.toInt32)), .val (.ref b13), .val (.ref b20), .val (.ref b20)] [(.int (1 : Int32))])) (fun _ kz => st35.trans kz) ?_
          refine Goes.via (S' := T35.setTop (mkF m 165 #[.val (.int p1), .val (.int p2), .val (.int p3), .val (.int p4), .val (.int (p1 &&& (3 : Int32))), .val (.int ((p2 &&& (65535 : Int32)).toUInt32.toUInt16.toUInt32.toInt32)), .val (.int ((p3 &&& (65535 : Int32)).toUInt32.toUInt16.toUInt32.toInt32)), .val (.int ((p4 &&& (65535 : Int32)).toUInt32.toUInt16.toUInt32.toInt32)), .val (.ref b13), .val (.ref b20), .val (.ref b20)] [(.int (1 : Int32))])) (fun tz kz => ?_) ?_
          · show Steps p.tables e below (T35.setTop (mkF m 157 #[.val (.int p1), .val (.int p2), .val (.int p3), .val (.int p4), .val (.int (p1 &&& (3 : Int32))), .val (.int ((p2 &&& (65535 : Int32)).toUInt32.toUInt16.toUInt32.toInt32)), .val (.int ((p3 &&& (65535 : Int32)).toUInt32.toUInt16.toUInt32.toInt32)), .val (.int ((p4 &&& (65535 : Int32)).toUInt32.toUInt16.toUInt32.toInt32)), .val (.ref b13), .val (.ref b20), .val (.ref b20)] [(.int (1 : Int32))])) _
            refine XS.ifNo X35.here hx rfl (hb hby at_157) rfl ((if0 _ _).trans (feq (by first | decide | rfl)).1) ?_
            refine XS.iconst X35.here hx rfl (hb hby at_160) ?_
            refine XS.goto X35.here hx rfl (pc0 := 161) (pc' := 165) rfl (hb hby at_161) (by decide) (by decide) ?_
            exact kz
          exact Goes.retNH (s := s) (vm1 := T33.vm) X35 hx Bd.notSynchronized hS33 (Nat.le_refl _) e35 hZ hEL hC33 (t := .boolean) Bd.returns (by simp) (hb hby at_165) (Nat.le_of_ble_eq_true rfl) (Nat.le_of_ble_eq_true rfl) ⟨rfl, Nf35⟩
        · refine Goes.via (S' := T31.setTop (mkF m 127 #[.val (.int p1), .val (.int p2), .val (.int p3), .val (.int p4), .val (.int (p1 &&& (3 : Int32))), .val (.int ((p2 &&& (65535 : Int32)).toUInt32.toUInt16.toUInt32.toInt32)), .val (.int ((p3 &&& (65535 : Int32)).toUInt32.toUInt16.toUInt32.toInt32)), .val (.int ((p4 &&& (65535 : Int32)).toUInt32.toUInt16.toUInt32.toInt32)), .val (.ref b13), .val (.ref b20), .unset] [(.int (1 : Int32))])) (fun tz kz => ?_) ?_
          · show Steps p.tables e below (T31.setTop (mkF m 123 #[.val (.int p1), .val (.int p2), .val (.int p3), .val (.int p4), .val (.int (p1 &&& (3 : Int32))), .val (.int ((p2 &&& (65535 : Int32)).toUInt32.toUInt16.toUInt32.toInt32)), .val (.int ((p3 &&& (65535 : Int32)).toUInt32.toUInt16.toUInt32.toInt32)), .val (.int ((p4 &&& (65535 : Int32)).toUInt32.toUInt16.toUInt32.toInt32)), .val (.ref b13), .val (.ref b20), .unset] [(.int (nar .boolean (own_fs ((p2 &&& (65535 : Int32)).toUInt32.toUInt16.toUInt32.toInt32))))])) _
            refine XS.ifNo X31.here hx rfl (hb hby at_123) rfl ((if0 _ _).trans (feq hc123_32).1) ?_
            refine XS.iconst X31.here hx rfl (hb hby at_126) ?_
            exact kz
          exact Goes.retNH (s := s) (vm1 := s.vm) X31 hx Bd.notSynchronized ((State.WarmedH.refl s).since 0) hk25 e31 hZ hEL hC24 (t := .boolean) Bd.returns (by simp) (hb hby at_127) (Nat.le_of_ble_eq_true rfl) (Nat.le_of_ble_eq_true rfl) ⟨rfl, Nf31⟩
    · refine Goes.via (S' := s₁.setTop (mkF m 61 #[.val (.int p1), .val (.int p2), .val (.int p3), .val (.int p4), .val (.int (p1 &&& (3 : Int32))), .val (.int ((p2 &&& (65535 : Int32)).toUInt32.toUInt16.toUInt32.toInt32)), .val (.int ((p3 &&& (65535 : Int32)).toUInt32.toUInt16.toUInt32.toInt32)), .val (.int ((p4 &&& (65535 : Int32)).toUInt32.toUInt16.toUInt32.toInt32)), .unset, .unset, .unset] [(.int (2 : Int32)), (.int (p1 &&& (3 : Int32)))])) (fun tz kz => ?_) ?_
      · show Steps p.tables e below (s₁.setTop (mkF m 42 #[.val (.int p1), .val (.int p2), .val (.int p3), .val (.int p4), .val (.int (p1 &&& (3 : Int32))), .val (.int ((p2 &&& (65535 : Int32)).toUInt32.toUInt16.toUInt32.toInt32)), .val (.int ((p3 &&& (65535 : Int32)).toUInt32.toUInt16.toUInt32.toInt32)), .val (.int ((p4 &&& (65535 : Int32)).toUInt32.toUInt16.toUInt32.toInt32)), .unset, .unset, .unset] [(.int (1 : Int32)), (.int (p1 &&& (3 : Int32)))])) _
        refine XS.icmpYes X0.here hx rfl (pc0 := 42) (pc' := 58) rfl (hb hby at_42) rfl (feq hc42_12).2 (by decide) (by decide) ?_
        refine XS.iload X0.here hx rfl (hb hby at_58) rfl ?_
        refine XS.iconst X0.here hx rfl (hb hby at_60) ?_
        exact kz
      by_cases hc61_36 : (p1 &&& (3 : Int32)) = (2 : Int32)
      · refine Goes.via (S' := s₁.setTop (mkF m 65 #[.val (.int p1), .val (.int p2), .val (.int p3), .val (.int p4), .val (.int (p1 &&& (3 : Int32))), .val (.int ((p2 &&& (65535 : Int32)).toUInt32.toUInt16.toUInt32.toInt32)), .val (.int ((p3 &&& (65535 : Int32)).toUInt32.toUInt16.toUInt32.toInt32)), .val (.int ((p4 &&& (65535 : Int32)).toUInt32.toUInt16.toUInt32.toInt32)), .unset, .unset, .unset] [(.int (2 : Int32))])) (fun tz kz => ?_) ?_
        · show Steps p.tables e below (s₁.setTop (mkF m 61 #[.val (.int p1), .val (.int p2), .val (.int p3), .val (.int p4), .val (.int (p1 &&& (3 : Int32))), .val (.int ((p2 &&& (65535 : Int32)).toUInt32.toUInt16.toUInt32.toInt32)), .val (.int ((p3 &&& (65535 : Int32)).toUInt32.toUInt16.toUInt32.toInt32)), .val (.int ((p4 &&& (65535 : Int32)).toUInt32.toUInt16.toUInt32.toInt32)), .unset, .unset, .unset] [(.int (2 : Int32)), (.int (p1 &&& (3 : Int32)))])) _
          refine XS.icmpNo X0.here hx rfl (hb hby at_61) rfl (teq hc61_36).2 ?_
          refine XS.iconst X0.here hx rfl (hb hby at_64) ?_
          exact kz
        obtain ⟨T37, h37, k37, X37, e37, E37, A37, st37⟩ := newP X0 hx hZ (w_ hw 1 rfl) e0 (g := (mkF m 65 #[.val (.int p1), .val (.int p2), .val (.int p3), .val (.int p4), .val (.int (p1 &&& (3 : Int32))), .val (.int ((p2 &&& (65535 : Int32)).toUInt32.toUInt16.toUInt32.toInt32)), .val (.int ((p3 &&& (65535 : Int32)).toUInt32.toUInt16.toUInt32.toInt32)), .val (.int ((p4 &&& (65535 : Int32)).toUInt32.toUInt16.toUInt32.toInt32)), .unset, .unset, .unset] [(.int (2 : Int32))])) rfl (hb hby at_65) rfl (by decide) (cap := 2) (by decide) (by decide) (by decide) (by decide)
        obtain ⟨b37, g37⟩ : ∃ z, z = h0.size := ⟨_, rfl⟩
        rw [← g37] at A37 st37
        refine Goes.via (S' := T37.setTop (mkF m 67 #[.val (.int p1), .val (.int p2), .val (.int p3), .val (.int p4), .val (.int (p1 &&& (3 : Int32))), .val (.int ((p2 &&& (65535 : Int32)).toUInt32.toUInt16.toUInt32.toInt32)), .val (.int ((p3 &&& (65535 : Int32)).toUInt32.toUInt16.toUInt32.toInt32)), .val (.int ((p4 &&& (65535 : Int32)).toUInt32.toUInt16.toUInt32.toInt32)), .unset, .unset, .unset] [(.ref b37)])) st37 ?_
        have C37 : Arv Z h37 b37 k37 .char (2 : Int32) [.int 0, .int 0] (.int 0) := (Arv.new A37 (by decide)).pad (pad_rep [] (.int 0) 2)
        have hC38 := hC0.trans (CHr.ext E37 hC0.1)
        have hk39 := Nat.le_trans (Nat.zero_le _) E37.1
        have K37 := (Keep.refl h0 []).ext E37
        have gc : @LE.le Nat _ h0.size b37 := Nat.le_of_eq g37.symm
        have hnn : (p1 &&& (3 : Int32)) = (2 : Int32) := hc61_36
        refine Goes.via (S' := T37.setTop (mkF m 71 #[.val (.int p1), .val (.int p2), .val (.int p3), .val (.int p4), .val (.int (p1 &&& (3 : Int32))), .val (.int ((p2 &&& (65535 : Int32)).toUInt32.toUInt16.toUInt32.toInt32)), .val (.int ((p3 &&& (65535 : Int32)).toUInt32.toUInt16.toUInt32.toInt32)), .val (.int ((p4 &&& (65535 : Int32)).toUInt32.toUInt16.toUInt32.toInt32)), .unset, .unset, .unset] [(.int ((p2 &&& (65535 : Int32)).toUInt32.toUInt16.toUInt32.toInt32)), (.int (0 : Int32)), (.ref b37), (.ref b37)])) (fun tz kz => ?_) ?_
        · show Steps p.tables e below (T37.setTop (mkF m 67 #[.val (.int p1), .val (.int p2), .val (.int p3), .val (.int p4), .val (.int (p1 &&& (3 : Int32))), .val (.int ((p2 &&& (65535 : Int32)).toUInt32.toUInt16.toUInt32.toInt32)), .val (.int ((p3 &&& (65535 : Int32)).toUInt32.toUInt16.toUInt32.toInt32)), .val (.int ((p4 &&& (65535 : Int32)).toUInt32.toUInt16.toUInt32.toInt32)), .unset, .unset, .unset] [(.ref b37)])) _
          refine XS.dup X37.here hx rfl (hb hby at_67) rfl rfl ?_
          refine XS.iconst X37.here hx rfl (hb hby at_68) ?_
          refine XS.iload X37.here hx rfl (hb hby at_69) rfl ?_
          exact kz
        obtain ⟨cl40, Ar40, q40, Sz40, Nn40, Hs40, G40⟩ := (id C37)
        obtain ⟨T41, h41, X41, e41, W41, st41⟩ := stC X37 hx hZ e37 Ar40 (j := (0 : Int32)) (inb_of Sz40 ⟨by decide, by decide⟩) (g := (mkF m 71 #[.val (.int p1), .val (.int p2), .val (.int p3), .val (.int p4), .val (.int (p1 &&& (3 : Int32))), .val (.int ((p2 &&& (65535 : Int32)).toUInt32.toUInt16.toUInt32.toInt32)), .val (.int ((p3 &&& (65535 : Int32)).toUInt32.toUInt16.toUInt32.toInt32)), .val (.int ((p4 &&& (65535 : Int32)).toUInt32.toUInt16.toUInt32.toInt32)), .unset, .unset, .unset] [(.int ((p2 &&& (65535 : Int32)).toUInt32.toUInt16.toUInt32.toInt32)), (.int (0 : Int32)), (.ref b37), (.ref b37)])) rfl rfl (hb hby at_71)
        refine Goes.via (S' := T41.setTop (mkF m 72 #[.val (.int p1), .val (.int p2), .val (.int p3), .val (.int p4), .val (.int (p1 &&& (3 : Int32))), .val (.int ((p2 &&& (65535 : Int32)).toUInt32.toUInt16.toUInt32.toInt32)), .val (.int ((p3 &&& (65535 : Int32)).toUInt32.toUInt16.toUInt32.toInt32)), .val (.int ((p4 &&& (65535 : Int32)).toUInt32.toUInt16.toUInt32.toInt32)), .unset, .unset, .unset] [(.ref b37)])) st41 ?_
        have N41 := Fr.snoc X41 N0 (Nat.le_trans Z0 gc)
        have C41 := Arv.set Ar40 q40 Sz40 Nn40 Hs40 G40 (fits_nar_char _) W41 0 rfl (Nat.le_of_ble_eq_true rfl)
        rw [own_nc] at C41
        have hC42 := hC38.trans (CHr.wr W41 (Safe.arr hZ.alike Ar40 (by decide)) hC38.1)
        have hk43 := Nat.le_trans hk39 (Nat.le_of_eq W41.size.symm)
        have K41 := K37.wr W41 (Or.inr gc)
        refine Goes.via (S' := T41.setTop (mkF m 76 #[.val (.int p1), .val (.int p2), .val (.int p3), .val (.int p4), .val (.int (p1 &&& (3 : Int32))), .val (.int ((p2 &&& (65535 : Int32)).toUInt32.toUInt16.toUInt32.toInt32)), .val (.int ((p3 &&& (65535 : Int32)).toUInt32.toUInt16.toUInt32.toInt32)), .val (.int ((p4 &&& (65535 : Int32)).toUInt32.toUInt16.toUInt32.toInt32)), .unset, .unset, .unset] [(.int ((p3 &&& (65535 : Int32)).toUInt32.toUInt16.toUInt32.toInt32)), (.int (1 : Int32)), (.ref b37), (.ref b37)])) (fun tz kz => ?_) ?_
        · show Steps p.tables e below (T41.setTop (mkF m 72 #[.val (.int p1), .val (.int p2), .val (.int p3), .val (.int p4), .val (.int (p1 &&& (3 : Int32))), .val (.int ((p2 &&& (65535 : Int32)).toUInt32.toUInt16.toUInt32.toInt32)), .val (.int ((p3 &&& (65535 : Int32)).toUInt32.toUInt16.toUInt32.toInt32)), .val (.int ((p4 &&& (65535 : Int32)).toUInt32.toUInt16.toUInt32.toInt32)), .unset, .unset, .unset] [(.ref b37)])) _
          refine XS.dup X41.here hx rfl (hb hby at_72) rfl rfl ?_
          refine XS.iconst X41.here hx rfl (hb hby at_73) ?_
          refine XS.iload X41.here hx rfl (hb hby at_74) rfl ?_
          exact kz
        obtain ⟨cl44, Ar44, q44, Sz44, Nn44, Hs44, G44⟩ := (id C41)
        obtain ⟨T45, h45, X45, e45, W45, st45⟩ := stC X41 hx hZ e41 Ar44 (j := (1 : Int32)) (inb_of Sz44 ⟨by decide, by decide⟩) (g := (mkF m 76 #[.val (.int p1), .val (.int p2), .val (.int p3), .val (.int p4), .val (.int (p1 &&& (3 : Int32))), .val (.int ((p2 &&& (65535 : Int32)).toUInt32.toUInt16.toUInt32.toInt32)), .val (.int ((p3 &&& (65535 : Int32)).toUInt32.toUInt16.toUInt32.toInt32)), .val (.int ((p4 &&& (65535 : Int32)).toUInt32.toUInt16.toUInt32.toInt32)), .unset, .unset, .unset] [(.int ((p3 &&& (65535 : Int32)).toUInt32.toUInt16.toUInt32.toInt32)), (.int (1 : Int32)), (.ref b37), (.ref b37)])) rfl rfl (hb hby at_76)
        refine Goes.via (S' := T45.setTop (mkF m 77 #[.val (.int p1), .val (.int p2), .val (.int p3), .val (.int p4), .val (.int (p1 &&& (3 : Int32))), .val (.int ((p2 &&& (65535 : Int32)).toUInt32.toUInt16.toUInt32.toInt32)), .val (.int ((p3 &&& (65535 : Int32)).toUInt32.toUInt16.toUInt32.toInt32)), .val (.int ((p4 &&& (65535 : Int32)).toUInt32.toUInt16.toUInt32.toInt32)), .unset, .unset, .unset] [(.ref b37)])) st45 ?_
        have N45 := Fr.snoc X45 N41 (Nat.le_trans Z0 gc)
        have C45 := Arv.set Ar44 q44 Sz44 Nn44 Hs44 G44 (fits_nar_char _) W45 1 rfl (Nat.le_of_ble_eq_true rfl)
        rw [own_nc] at C45
        have hC46 := hC42.trans (CHr.wr W45 (Safe.arr hZ.alike Ar44 (by decide)) hC42.1)
        have hk47 := Nat.le_trans hk43 (Nat.le_of_eq W45.size.symm)
        have K45 := K41.wr W45 (Or.inr gc)
        refine Goes.via (S' := T45.setTop (mkF m 102 #[.val (.int p1), .val (.int p2), .val (.int p3), .val (.int p4), .val (.int (p1 &&& (3 : Int32))), .val (.int ((p2 &&& (65535 : Int32)).toUInt32.toUInt16.toUInt32.toInt32)), .val (.int ((p3 &&& (65535 : Int32)).toUInt32.toUInt16.toUInt32.toInt32)), .val (.int ((p4 &&& (65535 : Int32)).toUInt32.toUInt16.toUInt32.toInt32)), .val (.ref b37), .unset, .unset] [])) (fun tz kz => ?_) ?_
        · show Steps p.tables e below (T45.setTop (mkF m 77 #[.val (.int p1), .val (.int p2), .val (.int p3), .val (.int p4), .val (.int (p1 &&& (3 : Int32))), .val (.int ((p2 &&& (65535 : Int32)).toUInt32.toUInt16.toUInt32.toInt32)), .val (.int ((p3 &&& (65535 : Int32)).toUInt32.toUInt16.toUInt32.toInt32)), .val (.int ((p4 &&& (65535 : Int32)).toUInt32.toUInt16.toUInt32.toInt32)), .unset, .unset, .unset] [(.ref b37)])) _
          refine XS.astore X45.here hx rfl (hb hby at_77) rfl rfl (l' := #[.val (.int p1), .val (.int p2), .val (.int p3), .val (.int p4), .val (.int (p1 &&& (3 : Int32))), .val (.int ((p2 &&& (65535 : Int32)).toUInt32.toUInt16.toUInt32.toInt32)), .val (.int ((p3 &&& (65535 : Int32)).toUInt32.toUInt16.toUInt32.toInt32)), .val (.int ((p4 &&& (65535 : Int32)).toUInt32.toUInt16.toUInt32.toInt32)), .val (.ref b37), .unset, .unset]) rfl ?_
          refine XS.goto X45.here hx rfl (pc0 := 79) (pc' := 102) rfl (hb hby at_79) (by decide) (by decide) ?_
          exact kz
        obtain ⟨T48, h48, X48, e48, E48, A48, D48, -, st48⟩ := newO X45 hx hZ hown (w_ hw 2 rfl) (w_ hw 3 rfl) (w_ hw 4 rfl) e45 (g := (mkF m 102 #[.val (.int p1), .val (.int p2), .val (.int p3), .val (.int p4), .val (.int (p1 &&& (3 : Int32))), .val (.int ((p2 &&& (65535 : Int32)).toUInt32.toUInt16.toUInt32.toInt32)), .val (.int ((p3 &&& (65535 : Int32)).toUInt32.toUInt16.toUInt32.toInt32)), .val (.int ((p4 &&& (65535 : Int32)).toUInt32.toUInt16.toUInt32.toInt32)), .val (.ref b37), .unset, .unset] [])) rfl (hb hby at_102) (by decide) (by decide)
        obtain ⟨b48, g48⟩ : ∃ z, z = h45.size := ⟨_, rfl⟩
        rw [← g48] at A48 D48 st48
        refine Goes.via (S' := T48.setTop (mkF m 105 #[.val (.int p1), .val (.int p2), .val (.int p3), .val (.int p4), .val (.int (p1 &&& (3 : Int32))), .val (.int ((p2 &&& (65535 : Int32)).toUInt32.toUInt16.toUInt32.toInt32)), .val (.int ((p3 &&& (65535 : Int32)).toUInt32.toUInt16.toUInt32.toInt32)), .val (.int ((p4 &&& (65535 : Int32)).toUInt32.toUInt16.toUInt32.toInt32)), .val (.ref b37), .unset, .unset] [(.ref b48)])) st48 ?_
        have hC49 := hC46.trans (CHr.ext E48 hC46.1)
        have hk50 := Nat.le_trans hk47 E48.1
        have FV : Fld Z h48 b48 "java/lang/String" "value" "[B" .null := D48 (Or.inr (w_ hw 17 rfl)) (ty := (.array .byte)) (by decide)
        have FC : Fld Z h48 b48 "java/lang/String" "coder" "B" (.int (0 : Int32)) := D48 (Or.inr (w_ hw 18 rfl)) (ty := .byte) (by decide)
        have C48 := C45.ext E48
        have K48 := K45.ext E48
        have ga : n0 ≤ b48 := Nat.le_trans (Nat.le_trans Z0 K45.1) (Nat.le_of_eq g48.symm)
        have gh : @LE.le Nat _ h0.size b48 := Nat.le_trans K45.1 (Nat.le_of_eq g48.symm)
        have O1 := O0.keep K48 all0
        have Z1 := Nat.le_trans Z0 K48.1
        refine Goes.via (S' := T48.setTop (mkF m 108 #[.val (.int p1), .val (.int p2), .val (.int p3), .val (.int p4), .val (.int (p1 &&& (3 : Int32))), .val (.int ((p2 &&& (65535 : Int32)).toUInt32.toUInt16.toUInt32.toInt32)), .val (.int ((p3 &&& (65535 : Int32)).toUInt32.toUInt16.toUInt32.toInt32)), .val (.int ((p4 &&& (65535 : Int32)).toUInt32.toUInt16.toUInt32.toInt32)), .val (.ref b37), .unset, .unset] [(.ref b37), (.ref b48), (.ref b48)])) (fun tz kz => ?_) ?_
        · show Steps p.tables e below (T48.setTop (mkF m 105 #[.val (.int p1), .val (.int p2), .val (.int p3), .val (.int p4), .val (.int (p1 &&& (3 : Int32))), .val (.int ((p2 &&& (65535 : Int32)).toUInt32.toUInt16.toUInt32.toInt32)), .val (.int ((p3 &&& (65535 : Int32)).toUInt32.toUInt16.toUInt32.toInt32)), .val (.int ((p4 &&& (65535 : Int32)).toUInt32.toUInt16.toUInt32.toInt32)), .val (.ref b37), .unset, .unset] [(.ref b48)])) _
          refine XS.dup X48.here hx rfl (hb hby at_105) rfl rfl ?_
          refine XS.aload X48.here hx rfl (hb hby at_106) rfl rfl ?_
          exact kz
        obtain ⟨_, _, ⟨T51, L51, k51, n51⟩, -, X51, ⟨Lc51, hQ51, l51, y51, z51⟩, st51⟩ := X48.specialBack hx (y := (⟨"java/lang/String", "<init>", "([C)V"⟩ : MethodName)) rfl hown (mvT hZ (w_ hw 5 rfl)) (mvT hZ (w_ hw 6 rfl)) (mvT hZ (w_ hw 7 rfl)) (by decide) (backOf (W := 1) (rn1_2 l Z a0 hw [] b48 b37 cs k37 ((p2 &&& (65535 : Int32)).toUInt32.toUInt16.toUInt32.toInt32) ((p3 &&& (65535 : Int32)).toUInt32.toUInt16.toUInt32.toInt32) h48 n0 Z1 SC hcs O1 SA SH SL FV FC A48 ga C48 (own_nc _) (own_nc _)) hZ (w_ hw 7 rfl) (w_ hw 4 rfl) (by decide) (by decide)) (g := (mkF m 108 #[.val (.int p1), .val (.int p2), .val (.int p3), .val (.int p4), .val (.int (p1 &&& (3 : Int32))), .val (.int ((p2 &&& (65535 : Int32)).toUInt32.toUInt16.toUInt32.toInt32)), .val (.int ((p3 &&& (65535 : Int32)).toUInt32.toUInt16.toUInt32.toInt32)), .val (.int ((p4 &&& (65535 : Int32)).toUInt32.toUInt16.toUInt32.toInt32)), .val (.ref b37), .unset, .unset] [(.ref b37), (.ref b48), (.ref b48)])) rfl (by rw [hml]; rfl) (Steps.refl _) (a := b48) (argsL := [(.ref b37)]) (rest := [(.ref b48)]) (lenOf pd_19 rfl) rfl (by show 2 * 0 + _ ≤ _; exact Nat.le_of_eq rfl) (hb hby at_108) (fun _ _ => ⟨rfl, e48, (by decide : 2 + 2 ≤ _), (by decide : 6 + 6 ≤ _)⟩)
        dsimp only [Pt.U, Pt.locs, Pt.cells, Pt.slots] at X51 l51 y51 z51 st51 hQ51
        subst l51 y51 z51
        obtain ⟨rfl, N51, K51, vb, kb, SD⟩ := hQ51
        have Nf51 := Fr.app N45 N51
        refine Goes.via (S' := T51.setTop (mkF m 111 #[.val (.int p1), .val (.int p2), .val (.int p3), .val (.int p4), .val (.int (p1 &&& (3 : Int32))), .val (.int ((p2 &&& (65535 : Int32)).toUInt32.toUInt16.toUInt32.toInt32)), .val (.int ((p3 &&& (65535 : Int32)).toUInt32.toUInt16.toUInt32.toInt32)), .val (.int ((p4 &&& (65535 : Int32)).toUInt32.toUInt16.toUInt32.toInt32)), .val (.ref b37), .unset, .unset] [(.ref b48)])) (fun _ kz => st51.trans kz) ?_
        have hC52 := hC49.trans (CHr.keep K51 (allS (own_safe hZ.alike A48 FV) all0) hC49.1)
        have hk53 := Nat.le_trans hk50 K51.1
        rcases SD with ⟨⟨s0, s1⟩, ST⟩ | ST
        · have Kf := K48.trans K51 (allS (Or.inr gh) all0)
          have O2 := O0.keep Kf all0
          have Z2 := Nat.le_trans Z0 Kf.1
          refine Goes.via (S' := T51.setTop (mkF m 120 #[.val (.int p1), .val (.int p2), .val (.int p3), .val (.int p4), .val (.int (p1 &&& (3 : Int32))), .val (.int ((p2 &&& (65535 : Int32)).toUInt32.toUInt16.toUInt32.toInt32)), .val (.int ((p3 &&& (65535 : Int32)).toUInt32.toUInt16.toUInt32.toInt32)), .val (.int ((p4 &&& (65535 : Int32)).toUInt32.toUInt16.toUInt32.toInt32)), .val (.ref b37), .val (.ref b48), .unset] [(.int ((p2 &&& (65535 : Int32)).toUInt32.toUInt16.toUInt32.toInt32))])) (fun tz kz => ?_) ?_
          · show Steps p.tables e below (T51.setTop (mkF m 111 #[.val (.int p1), .val (.int p2), .val (.int p3), .val (.int p4), .val (.int (p1 &&& (3 : Int32))), .val (.int ((p2 &&& (65535 : Int32)).toUInt32.toUInt16.toUInt32.toInt32)), .val (.int ((p3 &&& (65535 : Int32)).toUInt32.toUInt16.toUInt32.toInt32)), .val (.int ((p4 &&& (65535 : Int32)).toUInt32.toUInt16.toUInt32.toInt32)), .val (.ref b37), .unset, .unset] [(.ref b48)])) _
            refine XS.astore X51.here hx rfl (hb hby at_111) rfl rfl (l' := #[.val (.int p1), .val (.int p2), .val (.int p3), .val (.int p4), .val (.int (p1 &&& (3 : Int32))), .val (.int ((p2 &&& (65535 : Int32)).toUInt32.toUInt16.toUInt32.toInt32)), .val (.int ((p3 &&& (65535 : Int32)).toUInt32.toUInt16.toUInt32.toInt32)), .val (.int ((p4 &&& (65535 : Int32)).toUInt32.toUInt16.toUInt32.toInt32)), .val (.ref b37), .val (.ref b48), .unset]) rfl ?_
            refine XS.iload X51.here hx rfl (hb hby at_113) rfl ?_
            refine XS.ifNo X51.here hx rfl (hb hby at_115) rfl ((if0 _ _).trans (tlt (own_bge hnn (by decide))).2.2.2) ?_
            refine XS.iload X51.here hx rfl (hb hby at_118) rfl ?_
            exact kz
          obtain ⟨_, _, ⟨T54, L54, k54, n54⟩, -, X54, ⟨Lc54, hQ54, l54, y54, z54⟩, st54⟩ := Jvm.LawKit.callS X51 hx (y := (⟨"com/example/vestline/vestline/format/CsvPrintablePinLaw", "formulaStart", "(C)Z"⟩ : MethodName)) hown (mvT hZ (w_ hw 58 rfl)) (mvT hZ (w_ hw 59 rfl)) (mvT hZ (w_ hw 60 rfl)) (mvT hZ (w_ hw 61 rfl)) (by decide) (backOf (W := 0) (rfs l Z a0 hw [] ((p2 &&& (65535 : Int32)).toUInt32.toUInt16.toUInt32.toInt32) T51.heap n0 Z2) hZ (w_ hw 61 rfl) (w_ hw 60 rfl) (by decide) (by decide)) (g := (mkF m 120 #[.val (.int p1), .val (.int p2), .val (.int p3), .val (.int p4), .val (.int (p1 &&& (3 : Int32))), .val (.int ((p2 &&& (65535 : Int32)).toUInt32.toUInt16.toUInt32.toInt32)), .val (.int ((p3 &&& (65535 : Int32)).toUInt32.toUInt16.toUInt32.toInt32)), .val (.int ((p4 &&& (65535 : Int32)).toUInt32.toUInt16.toUInt32.toInt32)), .val (.ref b37), .val (.ref b48), .unset] [(.int ((p2 &&& (65535 : Int32)).toUInt32.toUInt16.toUInt32.toInt32))])) rfl (by rw [hml]; rfl) (argsL := [(.int ((p2 &&& (65535 : Int32)).toUInt32.toUInt16.toUInt32.toInt32))]) (rest := []) (lenOf pd_22 rfl) rfl (by show 2 * 0 + _ ≤ _; exact Nat.le_of_eq rfl) (hb hby at_120) (fun _ _ => ⟨rfl, rfl, (by decide : 4 + 0 ≤ _), (by decide : 12 + 0 ≤ _)⟩)
          dsimp only [Pt.U, Pt.locs, Pt.cells, Pt.slots] at X54 l54 y54 z54 st54 hQ54
          subst l54 y54 z54
          obtain ⟨rfl, N54, e54⟩ := hQ54
          have Nf54 := Fr.app Nf51 N54
          refine Goes.via (S' := T54.setTop (mkF m 123 #[.val (.int p1), .val (.int p2), .val (.int p3), .val (.int p4), .val (.int (p1 &&& (3 : Int32))), .val (.int ((p2 &&& (65535 : Int32)).toUInt32.toUInt16.toUInt32.toInt32)), .val (.int ((p3 &&& (65535 : Int32)).toUInt32.toUInt16.toUInt32.toInt32)), .val (.int ((p4 &&& (65535 : Int32)).toUInt32.toUInt16.toUInt32.toInt32)), .val (.ref b37), .val (.ref b48), .unset] [(.int (nar .boolean (own_fs ((p2 &&& (65535 : Int32)).toUInt32.toUInt16.toUInt32.toInt32))))])) (st54) ?_
          by_cases hc123_55 : (nar .boolean (own_fs ((p2 &&& (65535 : Int32)).toUInt32.toUInt16.toUInt32.toInt32))) = (0 : Int32)
          · refine Goes.via (S' := T54.setTop (mkF m 130 #[.val (.int p1), .val (.int p2), .val (.int p3), .val (.int p4), .val (.int (p1 &&& (3 : Int32))), .val (.int ((p2 &&& (65535 : Int32)).toUInt32.toUInt16.toUInt32.toInt32)), .val (.int ((p3 &&& (65535 : Int32)).toUInt32.toUInt16.toUInt32.toInt32)), .val (.int ((p4 &&& (65535 : Int32)).toUInt32.toUInt16.toUInt32.toInt32)), .val (.ref b37), .val (.ref b48), .unset] [(.ref b48)])) (fun tz kz => ?_) ?_
            · show Steps p.tables e below (T54.setTop (mkF m 123 #[.val (.int p1), .val (.int p2), .val (.int p3), .val (.int p4), .val (.int (p1 &&& (3 : Int32))), .val (.int ((p2 &&& (65535 : Int32)).toUInt32.toUInt16.toUInt32.toInt32)), .val (.int ((p3 &&& (65535 : Int32)).toUInt32.toUInt16.toUInt32.toInt32)), .val (.int ((p4 &&& (65535 : Int32)).toUInt32.toUInt16.toUInt32.toInt32)), .val (.ref b37), .val (.ref b48), .unset] [(.int (nar .boolean (own_fs ((p2 &&& (65535 : Int32)).toUInt32.toUInt16.toUInt32.toInt32))))])) _
              refine XS.ifYes X54.here hx rfl (pc0 := 123) (pc' := 128) rfl (hb hby at_123) rfl ((if0 _ _).trans (teq hc123_55).1) (by decide) (by decide) ?_
              refine XS.aload X54.here hx rfl (hb hby at_128) rfl rfl ?_
              exact kz
            obtain ⟨_, _, ⟨T56, L56, k56, n56⟩, -, X56, hs56, gs56, ⟨Lc56, hQ56, l56, y56, z56, hc56⟩, st56⟩ := callSS (show Stand p l e _ (s.setVm s.vm) m _ below meth c _ _ _ _ from X54) hx (y := (⟨"com/example/vestline/vestline/format/Csv", "printable", "(Ljava/lang/String;)Ljava/lang/String;"⟩ : MethodName)) hown (mvT hZ (w_ hw 23 rfl)) (mvT hZ (w_ hw 24 rfl)) (mvT hZ (w_ hw 25 rfl)) (mvT hZ (w_ hw 26 rfl)) (by decide) (backOfSH (s := s) (vm0 := s.vm) (W := 0) (rpr_L l Z a0 hw [] b48 vb kb cs (2 : Int32) ((p2 &&& (65535 : Int32)).toUInt32.toUInt16.toUInt32.toInt32) fv _ T51.heap n0 Z2 SC hcs O2 SF hfv ST (own_nc _) (own_nff (own_nc _) hc123_55) ⟨by decide, by decide⟩ rfl s0 (by decide)) hZ (w_ hw 26 rfl) (w_ hw 25 rfl) (by decide) (by decide) hEL hC52.1) (g := (mkF m 130 #[.val (.int p1), .val (.int p2), .val (.int p3), .val (.int p4), .val (.int (p1 &&& (3 : Int32))), .val (.int ((p2 &&& (65535 : Int32)).toUInt32.toUInt16.toUInt32.toInt32)), .val (.int ((p3 &&& (65535 : Int32)).toUInt32.toUInt16.toUInt32.toInt32)), .val (.int ((p4 &&& (65535 : Int32)).toUInt32.toUInt16.toUInt32.toInt32)), .val (.ref b37), .val (.ref b48), .unset] [(.ref b48)])) rfl (by rw [hml]; rfl) (argsL := [(.ref b48)]) (rest := []) (lenOf pd_20 rfl) rfl (by show 2 * 0 + _ ≤ _; exact Nat.le_of_eq rfl) (hb hby at_130) (fun _ _ => ⟨rfl, e54, (by decide : 4 + 2 ≤ _), (by decide : 12 + 28 ≤ _)⟩)
            dsimp only [Pt.U, Pt.locs, Pt.cells, Pt.slots] at X56 l56 y56 z56 st56 hQ56 hs56 gs56 hc56
            subst l56 y56 z56
            obtain ⟨rfl, N56, K56⟩ := hQ56
            rw [e54] at gs56
            have hS56 : s.Since T56.vm T56.heap.size := own_fold ((State.WarmedH.refl s).since 0) hk53 hs56 gs56
            have hC56 := hC52.trans hc56
            have hZ : Z.Warmed39 (s.setVm T56.vm).vm := State.Warmed39.trans (t := s.setVm s.vm) hZ hs56.1
            have hown : (s.setVm T56.vm).vm.findClass "com/example/vestline/vestline/format/CsvPrintablePinLaw" = some m.cls := by rw [show (s.setVm T56.vm).vm = T56.vm from rfl, hs56.1.alike.findClass]; exact hown
            have Nf56 := Fr.app Nf54 N56
            refine Goes.via (S' := T56.setTop (mkF m 133 #[.val (.int p1), .val (.int p2), .val (.int p3), .val (.int p4), .val (.int (p1 &&& (3 : Int32))), .val (.int ((p2 &&& (65535 : Int32)).toUInt32.toUInt16.toUInt32.toInt32)), .val (.int ((p3 &&& (65535 : Int32)).toUInt32.toUInt16.toUInt32.toInt32)), .val (.int ((p4 &&& (65535 : Int32)).toUInt32.toUInt16.toUInt32.toInt32)), .val (.ref b37), .val (.ref b48), .unset] [(.ref b48)])) (fun _ kz => st56.trans kz) ?_
            have SS := ST.keep K56 nin0 nin0
            have Kg := Kf.trans K56 all0
            have O3 := O0.keep Kg all0
            have Z3 := Nat.le_trans Z0 Kg.1
            refine Goes.via (S' := T56.setTop (mkF m 142 #[.val (.int p1), .val (.int p2), .val (.int p3), .val (.int p4), .val (.int (p1 &&& (3 : Int32))), .val (.int ((p2 &&& (65535 : Int32)).toUInt32.toUInt16.toUInt32.toInt32)), .val (.int ((p3 &&& (65535 : Int32)).toUInt32.toUInt16.toUInt32.toInt32)), .val (.int ((p4 &&& (65535 : Int32)).toUInt32.toUInt16.toUInt32.toInt32)), .val (.ref b37), .val (.ref b48), .val (.ref b48)] [(.ref b48)])) (fun tz kz => ?_) ?_
            · show Steps p.tables e below (T56.setTop (mkF m 133 #[.val (.int p1), .val (.int p2), .val (.int p3), .val (.int p4), .val (.int (p1 &&& (3 : Int32))), .val (.int ((p2 &&& (65535 : Int32)).toUInt32.toUInt16.toUInt32.toInt32)), .val (.int ((p3 &&& (65535 : Int32)).toUInt32.toUInt16.toUInt32.toInt32)), .val (.int ((p4 &&& (65535 : Int32)).toUInt32.toUInt16.toUInt32.toInt32)), .val (.ref b37), .val (.ref b48), .unset] [(.ref b48)])) _
              refine XS.astore X56.here hx rfl (hb hby at_133) rfl rfl (l' := #[.val (.int p1), .val (.int p2), .val (.int p3), .val (.int p4), .val (.int (p1 &&& (3 : Int32))), .val (.int ((p2 &&& (65535 : Int32)).toUInt32.toUInt16.toUInt32.toInt32)), .val (.int ((p3 &&& (65535 : Int32)).toUInt32.toUInt16.toUInt32.toInt32)), .val (.int ((p4 &&& (65535 : Int32)).toUInt32.toUInt16.toUInt32.toInt32)), .val (.ref b37), .val (.ref b48), .val (.ref b48)]) rfl ?_
              refine XS.aload X56.here hx rfl (hb hby at_135) rfl rfl ?_
              refine XS.ifnullNo X56.here hx rfl (hb hby at_137) rfl ?_
              refine XS.aload X56.here hx rfl (hb hby at_140) rfl rfl ?_
              exact kz
            obtain ⟨cq57, kq57, q57a, q57b, q57c⟩ := isOf hZ rfl SS.1
            obtain ⟨_, _, ⟨T57, L57, k57, n57⟩, -, X57, ⟨Lc57, hQ57, l57, y57, z57⟩, st57⟩ := X56.virtualBack hx (y := (⟨"java/lang/String", "length", "()I"⟩ : MethodName)) (z := (⟨"java/lang/String", "length", "()I"⟩ : MethodName)) hown (mvT hZ (w_ hw 32 rfl)) (mvT hZ (w_ hw 33 rfl)) (notFace_of_selects (args := #[]) (mvT hZ (w_ hw 35 rfl))) (mvT hZ (w_ hw 35 rfl)) (mvT hZ (w_ hw 34 rfl)) (by decide) (backOf (W := 0) (rlen l Z a0 hw [] b48 vb kb cs (0 : Int32) (2 : Int32) (2 : Int32) _ T56.heap n0 Z3 SC hcs O3 SS.1 SS.2.1 SS.2.2.1 SS.2.2.2 rfl rfl) hZ (w_ hw 36 rfl) (w_ hw 4 rfl) (by decide) (by decide)) q57a q57c (g := (mkF m 142 #[.val (.int p1), .val (.int p2), .val (.int p3), .val (.int p4), .val (.int (p1 &&& (3 : Int32))), .val (.int ((p2 &&& (65535 : Int32)).toUInt32.toUInt16.toUInt32.toInt32)), .val (.int ((p3 &&& (65535 : Int32)).toUInt32.toUInt16.toUInt32.toInt32)), .val (.int ((p4 &&& (65535 : Int32)).toUInt32.toUInt16.toUInt32.toInt32)), .val (.ref b37), .val (.ref b48), .val (.ref b48)] [(.ref b48)])) rfl (by rw [hml]; rfl) (Steps.refl _) (argsL := []) (rest := []) (lenOf pd_17 rfl) rfl (by show 2 * 0 + _ ≤ _; exact Nat.le_of_eq rfl) (hb hby at_142) (fun _ _ => ⟨rfl, rfl, (by decide : 6 + 0 ≤ _), (by decide : 40 + 0 ≤ _)⟩)
            dsimp only [Pt.U, Pt.locs, Pt.cells, Pt.slots] at X57 l57 y57 z57 st57 hQ57
            subst l57 y57 z57
            obtain ⟨rfl, N57, e57⟩ := hQ57
            have Nf57 := Fr.app Nf56 N57
            refine Goes.via (S' := T57.setTop (mkF m 145 #[.val (.int p1), .val (.int p2), .val (.int p3), .val (.int p4), .val (.int (p1 &&& (3 : Int32))), .val (.int ((p2 &&& (65535 : Int32)).toUInt32.toUInt16.toUInt32.toInt32)), .val (.int ((p3 &&& (65535 : Int32)).toUInt32.toUInt16.toUInt32.toInt32)), .val (.int ((p4 &&& (65535 : Int32)).toUInt32.toUInt16.toUInt32.toInt32)), .val (.ref b37), .val (.ref b48), .val (.ref b48)] [(.int (2 : Int32))])) (fun _ kz => st57.trans kz) ?_
            refine Goes.via (S' := T57.setTop (mkF m 154 #[.val (.int p1), .val (.int p2), .val (.int p3), .val (.int p4), .val (.int (p1 &&& (3 : Int32))), .val (.int ((p2 &&& (65535 : Int32)).toUInt32.toUInt16.toUInt32.toInt32)), .val (.int ((p3 &&& (65535 : Int32)).toUInt32.toUInt16.toUInt32.toInt32)), .val (.int ((p4 &&& (65535 : Int32)).toUInt32.toUInt16.toUInt32.toInt32)), .val (.ref b37), .val (.ref b48), .val (.ref b48)] [(.ref b48), (.ref b48)])) (fun tz kz => ?_) ?_
            · show Steps p.tables e below (T57.setTop (mkF m 145 #[.val (.int p1), .val (.int p2), .val (.int p3), .val (.int p4), .val (.int (p1 &&& (3 : Int32))), .val (.int ((p2 &&& (65535 : Int32)).toUInt32.toUInt16.toUInt32.toInt32)), .val (.int ((p3 &&& (65535 : Int32)).toUInt32.toUInt16.toUInt32.toInt32)), .val (.int ((p4 &&& (65535 : Int32)).toUInt32.toUInt16.toUInt32.toInt32)), .val (.ref b37), .val (.ref b48), .val (.ref b48)] [(.int (2 : Int32))])) _
              refine XS.iload X57.here hx rfl (hb hby at_145) rfl ?_
              refine XS.icmpNo X57.here hx rfl (hb hby at_147) rfl (teq hnn.symm).2 ?_
              refine XS.aload X57.here hx rfl (hb hby at_150) rfl rfl ?_
              refine XS.aload X57.here hx rfl (hb hby at_152) rfl rfl ?_
              exact kz
            obtain ⟨cq58, kq58, q58a, q58b, q58c⟩ := isOf hZ e57 SS.1
            obtain ⟨_, _, ⟨T58, L58, k58, n58⟩, -, X58, ⟨Lc58, hQ58, l58, y58, z58⟩, st58⟩ := X57.virtualBack hx (y := (⟨"java/lang/String", "equals", "(Ljava/lang/Object;)Z"⟩ : MethodName)) (z := (⟨"java/lang/String", "equals", "(Ljava/lang/Object;)Z"⟩ : MethodName)) hown (mvT hZ (w_ hw 43 rfl)) (mvT hZ (w_ hw 44 rfl)) (notFace_of_selects (args := #[]) (mvT hZ (w_ hw 46 rfl))) (mvT hZ (w_ hw 46 rfl)) (mvT hZ (w_ hw 45 rfl)) (by decide) (backOf (W := 0) (rsame l Z a0 hw [] b48 T56.heap n0 Z3) hZ (w_ hw 47 rfl) (w_ hw 4 rfl) (by decide) (by decide)) q58a q58c (g := (mkF m 154 #[.val (.int p1), .val (.int p2), .val (.int p3), .val (.int p4), .val (.int (p1 &&& (3 : Int32))), .val (.int ((p2 &&& (65535 : Int32)).toUInt32.toUInt16.toUInt32.toInt32)), .val (.int ((p3 &&& (65535 : Int32)).toUInt32.toUInt16.toUInt32.toInt32)), .val (.int ((p4 &&& (65535 : Int32)).toUInt32.toUInt16.toUInt32.toInt32)), .val (.ref b37), .val (.ref b48), .val (.ref b48)] [(.ref b48), (.ref b48)])) rfl (by rw [hml]; rfl) (Steps.refl _) (argsL := [(.ref b48)]) (rest := []) (lenOf pd_21 rfl) rfl (by show 2 * 0 + _ ≤ _; exact Nat.le_of_eq rfl) (hb hby at_154) (fun _ _ => ⟨rfl, e57, (by decide : 6 + 0 ≤ _), (by decide : 40 + 0 ≤ _)⟩)
            dsimp only [Pt.U, Pt.locs, Pt.cells, Pt.slots] at X58 l58 y58 z58 st58 hQ58
            subst l58 y58 z58
            obtain ⟨rfl, N58, e58⟩ := hQ58
            have Nf58 := Fr.app Nf57 N58
            refine Goes.via (S' := T58.setTop (mkF m 157 #[.val (.int p1), .val (.int p2), .val (.int p3), .val (.int p4), .val (.int (p1 &&& (3 : Int32))), .val (.int ((p2 &&& (65535 : Int32)).toUInt32.toUInt16.toUInt32.toInt32)), .val (.int ((p3 &&& (65535 : Int32)).toUInt32.toUInt16.toUInt32.toInt32)), .val (.int ((p4 &&& (65535 : Int32)).toUInt32.toUInt16.toUInt32.toInt32)), .val (.ref b37), .val (.ref b48), .val (.ref b48)] [(.int (1 : Int32))])) (fun _ kz => st58.trans kz) ?_
            refine Goes.via (S' := T58.setTop (mkF m 165 #[.val (.int p1), .val (.int p2), .val (.int p3), .val (.int p4), .val (.int (p1 &&& (3 : Int32))), .val (.int ((p2 &&& (65535 : Int32)).toUInt32.toUInt16.toUInt32.toInt32)), .val (.int ((p3 &&& (65535 : Int32)).toUInt32.toUInt16.toUInt32.toInt32)), .val (.int ((p4 &&& (65535 : Int32)).toUInt32.toUInt16.toUInt32.toInt32)), .val (.ref b37), .val (.ref b48), .val (.ref b48)] [(.int (1 : Int32))])) (fun tz kz => ?_) ?_
            · show Steps p.tables e below (T58.setTop (mkF m 157 #[.val (.int p1), .val (.int p2), .val (.int p3), .val (.int p4), .val (.int (p1 &&& (3 : Int32))), .val (.int ((p2 &&& (65535 : Int32)).toUInt32.toUInt16.toUInt32.toInt32)), .val (.int ((p3 &&& (65535 : Int32)).toUInt32.toUInt16.toUInt32.toInt32)), .val (.int ((p4 &&& (65535 : Int32)).toUInt32.toUInt16.toUInt32.toInt32)), .val (.ref b37), .val (.ref b48), .val (.ref b48)] [(.int (1 : Int32))])) _
              refine XS.ifNo X58.here hx rfl (hb hby at_157) rfl ((if0 _ _).trans (feq (by first | decide | rfl)).1) ?_
              refine XS.iconst X58.here hx rfl (hb hby at_160) ?_
              refine XS.goto X58.here hx rfl (pc0 := 161) (pc' := 165) rfl (hb hby at_161) (by decide) (by decide) ?_
              exact kz
            exact Goes.retNH (s := s) (vm1 := T56.vm) X58 hx Bd.notSynchronized hS56 (Nat.le_refl _) e58 hZ hEL hC56 (t := .boolean) Bd.returns (by simp) (hb hby at_165) (Nat.le_of_ble_eq_true rfl) (Nat.le_of_ble_eq_true rfl) ⟨rfl, Nf58⟩
          · refine Goes.via (S' := T54.setTop (mkF m 127 #[.val (.int p1), .val (.int p2), .val (.int p3), .val (.int p4), .val (.int (p1 &&& (3 : Int32))), .val (.int ((p2 &&& (65535 : Int32)).toUInt32.toUInt16.toUInt32.toInt32)), .val (.int ((p3 &&& (65535 : Int32)).toUInt32.toUInt16.toUInt32.toInt32)), .val (.int ((p4 &&& (65535 : Int32)).toUInt32.toUInt16.toUInt32.toInt32)), .val (.ref b37), .val (.ref b48), .unset] [(.int (1 : Int32))])) (fun tz kz => ?_) ?_
            · show Steps p.tables e below (T54.setTop (mkF m 123 #[.val (.int p1), .val (.int p2), .val (.int p3), .val (.int p4), .val (.int (p1 &&& (3 : Int32))), .val (.int ((p2 &&& (65535 : Int32)).toUInt32.toUInt16.toUInt32.toInt32)), .val (.int ((p3 &&& (65535 : Int32)).toUInt32.toUInt16.toUInt32.toInt32)), .val (.int ((p4 &&& (65535 : Int32)).toUInt32.toUInt16.toUInt32.toInt32)), .val (.ref b37), .val (.ref b48), .unset] [(.int (nar .boolean (own_fs ((p2 &&& (65535 : Int32)).toUInt32.toUInt16.toUInt32.toInt32))))])) _
              refine XS.ifNo X54.here hx rfl (hb hby at_123) rfl ((if0 _ _).trans (feq hc123_55).1) ?_
              refine XS.iconst X54.here hx rfl (hb hby at_126) ?_
              exact kz
            exact Goes.retNH (s := s) (vm1 := s.vm) X54 hx Bd.notSynchronized ((State.WarmedH.refl s).since 0) hk53 e54 hZ hEL hC52 (t := .boolean) Bd.returns (by simp) (hb hby at_127) (Nat.le_of_ble_eq_true rfl) (Nat.le_of_ble_eq_true rfl) ⟨rfl, Nf54⟩
        · have Kf := K48.trans K51 (allS (Or.inr gh) all0)
          have O2 := O0.keep Kf all0
          have Z2 := Nat.le_trans Z0 Kf.1
          refine Goes.via (S' := T51.setTop (mkF m 120 #[.val (.int p1), .val (.int p2), .val (.int p3), .val (.int p4), .val (.int (p1 &&& (3 : Int32))), .val (.int ((p2 &&& (65535 : Int32)).toUInt32.toUInt16.toUInt32.toInt32)), .val (.int ((p3 &&& (65535 : Int32)).toUInt32.toUInt16.toUInt32.toInt32)), .val (.int ((p4 &&& (65535 : Int32)).toUInt32.toUInt16.toUInt32.toInt32)), .val (.ref b37), .val (.ref b48), .unset] [(.int ((p2 &&& (65535 : Int32)).toUInt32.toUInt16.toUInt32.toInt32))])) (fun tz kz => ?_) ?_
          · show Steps p.tables e below (T51.setTop (mkF m 111 #[.val (.int p1), .val (.int p2), .val (.int p3), .val (.int p4), .val (.int (p1 &&& (3 : Int32))), .val (.int ((p2 &&& (65535 : Int32)).toUInt32.toUInt16.toUInt32.toInt32)), .val (.int ((p3 &&& (65535 : Int32)).toUInt32.toUInt16.toUInt32.toInt32)), .val (.int ((p4 &&& (65535 : Int32)).toUInt32.toUInt16.toUInt32.toInt32)), .val (.ref b37), .unset, .unset] [(.ref b48)])) _
            refine XS.astore X51.here hx rfl (hb hby at_111) rfl rfl (l' := #[.val (.int p1), .val (.int p2), .val (.int p3), .val (.int p4), .val (.int (p1 &&& (3 : Int32))), .val (.int ((p2 &&& (65535 : Int32)).toUInt32.toUInt16.toUInt32.toInt32)), .val (.int ((p3 &&& (65535 : Int32)).toUInt32.toUInt16.toUInt32.toInt32)), .val (.int ((p4 &&& (65535 : Int32)).toUInt32.toUInt16.toUInt32.toInt32)), .val (.ref b37), .val (.ref b48), .unset]) rfl ?_
            refine XS.iload X51.here hx rfl (hb hby at_113) rfl ?_
            refine XS.ifNo X51.here hx rfl (hb hby at_115) rfl ((if0 _ _).trans (tlt (own_bge hnn (by decide))).2.2.2) ?_
            refine XS.iload X51.here hx rfl (hb hby at_118) rfl ?_
            exact kz
          obtain ⟨_, _, ⟨T59, L59, k59, n59⟩, -, X59, ⟨Lc59, hQ59, l59, y59, z59⟩, st59⟩ := Jvm.LawKit.callS X51 hx (y := (⟨"com/example/vestline/vestline/format/CsvPrintablePinLaw", "formulaStart", "(C)Z"⟩ : MethodName)) hown (mvT hZ (w_ hw 58 rfl)) (mvT hZ (w_ hw 59 rfl)) (mvT hZ (w_ hw 60 rfl)) (mvT hZ (w_ hw 61 rfl)) (by decide) (backOf (W := 0) (rfs l Z a0 hw [] ((p2 &&& (65535 : Int32)).toUInt32.toUInt16.toUInt32.toInt32) T51.heap n0 Z2) hZ (w_ hw 61 rfl) (w_ hw 60 rfl) (by decide) (by decide)) (g := (mkF m 120 #[.val (.int p1), .val (.int p2), .val (.int p3), .val (.int p4), .val (.int (p1 &&& (3 : Int32))), .val (.int ((p2 &&& (65535 : Int32)).toUInt32.toUInt16.toUInt32.toInt32)), .val (.int ((p3 &&& (65535 : Int32)).toUInt32.toUInt16.toUInt32.toInt32)), .val (.int ((p4 &&& (65535 : Int32)).toUInt32.toUInt16.toUInt32.toInt32)), .val (.ref b37), .val (.ref b48), .unset] [(.int ((p2 &&& (65535 : Int32)).toUInt32.toUInt16.toUInt32.toInt32))])) rfl (by rw [hml]; rfl) (argsL := [(.int ((p2 &&& (65535 : Int32)).toUInt32.toUInt16.toUInt32.toInt32))]) (rest := []) (lenOf pd_22 rfl) rfl (by show 2 * 0 + _ ≤ _; exact Nat.le_of_eq rfl) (hb hby at_120) (fun _ _ => ⟨rfl, rfl, (by decide : 4 + 0 ≤ _), (by decide : 12 + 0 ≤ _)⟩)
          dsimp only [Pt.U, Pt.locs, Pt.cells, Pt.slots] at X59 l59 y59 z59 st59 hQ59
          subst l59 y59 z59
          obtain ⟨rfl, N59, e59⟩ := hQ59
          have Nf59 := Fr.app Nf51 N59
          refine Goes.via (S' := T59.setTop (mkF m 123 #[.val (.int p1), .val (.int p2), .val (.int p3), .val (.int p4), .val (.int (p1 &&& (3 : Int32))), .val (.int ((p2 &&& (65535 : Int32)).toUInt32.toUInt16.toUInt32.toInt32)), .val (.int ((p3 &&& (65535 : Int32)).toUInt32.toUInt16.toUInt32.toInt32)), .val (.int ((p4 &&& (65535 : Int32)).toUInt32.toUInt16.toUInt32.toInt32)), .val (.ref b37), .val (.ref b48), .unset] [(.int (nar .boolean (own_fs ((p2 &&& (65535 : Int32)).toUInt32.toUInt16.toUInt32.toInt32))))])) (st59) ?_
          by_cases hc123_60 : (nar .boolean (own_fs ((p2 &&& (65535 : Int32)).toUInt32.toUInt16.toUInt32.toInt32))) = (0 : Int32)
          · refine Goes.via (S' := T59.setTop (mkF m 130 #[.val (.int p1), .val (.int p2), .val (.int p3), .val (.int p4), .val (.int (p1 &&& (3 : Int32))), .val (.int ((p2 &&& (65535 : Int32)).toUInt32.toUInt16.toUInt32.toInt32)), .val (.int ((p3 &&& (65535 : Int32)).toUInt32.toUInt16.toUInt32.toInt32)), .val (.int ((p4 &&& (65535 : Int32)).toUInt32.toUInt16.toUInt32.toInt32)), .val (.ref b37), .val (.ref b48), .unset] [(.ref b48)])) (fun tz kz => ?_) ?_
            · show Steps p.tables e below (T59.setTop (mkF m 123 #[.val (.int p1), .val (.int p2), .val (.int p3), .val (.int p4), .val (.int (p1 &&& (3 : Int32))), .val (.int ((p2 &&& (65535 : Int32)).toUInt32.toUInt16.toUInt32.toInt32)), .val (.int ((p3 &&& (65535 : Int32)).toUInt32.toUInt16.toUInt32.toInt32)), .val (.int ((p4 &&& (65535 : Int32)).toUInt32.toUInt16.toUInt32.toInt32)), .val (.ref b37), .val (.ref b48), .unset] [(.int (nar .boolean (own_fs ((p2 &&& (65535 : Int32)).toUInt32.toUInt16.toUInt32.toInt32))))])) _
              refine XS.ifYes X59.here hx rfl (pc0 := 123) (pc' := 128) rfl (hb hby at_123) rfl ((if0 _ _).trans (teq hc123_60).1) (by decide) (by decide) ?_
              refine XS.aload X59.here hx rfl (hb hby at_128) rfl rfl ?_
              exact kz
            obtain ⟨_, _, ⟨T61, L61, k61, n61⟩, -, X61, hs61, gs61, ⟨Lc61, hQ61, l61, y61, z61, hc61⟩, st61⟩ := callSS (show Stand p l e _ (s.setVm s.vm) m _ below meth c _ _ _ _ from X59) hx (y := (⟨"com/example/vestline/vestline/format/Csv", "printable", "(Ljava/lang/String;)Ljava/lang/String;"⟩ : MethodName)) hown (mvT hZ (w_ hw 23 rfl)) (mvT hZ (w_ hw 24 rfl)) (mvT hZ (w_ hw 25 rfl)) (mvT hZ (w_ hw 26 rfl)) (by decide) (backOfSH (s := s) (vm0 := s.vm) (W := 0) (rpr_U l Z a0 hw [] b48 vb kb cs (4 : Int32) (2 : Int32) ((p2 &&& (65535 : Int32)).toUInt32.toUInt16.toUInt32.toInt32) fv _ T51.heap n0 Z2 SC hcs O2 SF hfv SA SH SL ST (own_nc _) (own_nff (own_nc _) hc123_60) rfl ⟨by decide, by decide⟩ ⟨by decide, by decide⟩ ⟨by decide, by decide⟩ rfl rfl (by decide)) hZ (w_ hw 26 rfl) (w_ hw 25 rfl) (by decide) (by decide) hEL hC52.1) (g := (mkF m 130 #[.val (.int p1), .val (.int p2), .val (.int p3), .val (.int p4), .val (.int (p1 &&& (3 : Int32))), .val (.int ((p2 &&& (65535 : Int32)).toUInt32.toUInt16.toUInt32.toInt32)), .val (.int ((p3 &&& (65535 : Int32)).toUInt32.toUInt16.toUInt32.toInt32)), .val (.int ((p4 &&& (65535 : Int32)).toUInt32.toUInt16.toUInt32.toInt32)), .val (.ref b37), .val (.ref b48), .unset] [(.ref b48)])) rfl (by rw [hml]; rfl) (argsL := [(.ref b48)]) (rest := []) (lenOf pd_20 rfl) rfl (by show 2 * 0 + _ ≤ _; exact Nat.le_of_eq rfl) (hb hby at_130) (fun _ _ => ⟨rfl, e59, (by decide : 4 + 2 ≤ _), (by decide : 12 + 28 ≤ _)⟩)
            dsimp only [Pt.U, Pt.locs, Pt.cells, Pt.slots] at X61 l61 y61 z61 st61 hQ61 hs61 gs61 hc61
            subst l61 y61 z61
            obtain ⟨rfl, N61, K61⟩ := hQ61
            rw [e59] at gs61
            have hS61 : s.Since T61.vm T61.heap.size := own_fold ((State.WarmedH.refl s).since 0) hk53 hs61 gs61
            have hC61 := hC52.trans hc61
            have hZ : Z.Warmed39 (s.setVm T61.vm).vm := State.Warmed39.trans (t := s.setVm s.vm) hZ hs61.1
            have hown : (s.setVm T61.vm).vm.findClass "com/example/vestline/vestline/format/CsvPrintablePinLaw" = some m.cls := by rw [show (s.setVm T61.vm).vm = T61.vm from rfl, hs61.1.alike.findClass]; exact hown
            have Nf61 := Fr.app Nf59 N61
            refine Goes.via (S' := T61.setTop (mkF m 133 #[.val (.int p1), .val (.int p2), .val (.int p3), .val (.int p4), .val (.int (p1 &&& (3 : Int32))), .val (.int ((p2 &&& (65535 : Int32)).toUInt32.toUInt16.toUInt32.toInt32)), .val (.int ((p3 &&& (65535 : Int32)).toUInt32.toUInt16.toUInt32.toInt32)), .val (.int ((p4 &&& (65535 : Int32)).toUInt32.toUInt16.toUInt32.toInt32)), .val (.ref b37), .val (.ref b48), .unset] [(.ref b48)])) (fun _ kz => st61.trans kz) ?_
            have SS := ST.keep K61 nin0 nin0
            have Kg := Kf.trans K61 all0
            have O3 := O0.keep Kg all0
            have Z3 := Nat.le_trans Z0 Kg.1
            refine Goes.via (S' := T61.setTop (mkF m 142 #[.val (.int p1), .val (.int p2), .val (.int p3), .val (.int p4), .val (.int (p1 &&& (3 : Int32))), .val (.int ((p2 &&& (65535 : Int32)).toUInt32.toUInt16.toUInt32.toInt32)), .val (.int ((p3 &&& (65535 : Int32)).toUInt32.toUInt16.toUInt32.toInt32)), .val (.int ((p4 &&& (65535 : Int32)).toUInt32.toUInt16.toUInt32.toInt32)), .val (.ref b37), .val (.ref b48), .val (.ref b48)] [(.ref b48)])) (fun tz kz => ?_) ?_
            · show Steps p.tables e below (T61.setTop (mkF m 133 #[.val (.int p1), .val (.int p2), .val (.int p3), .val (.int p4), .val (.int (p1 &&& (3 : Int32))), .val (.int ((p2 &&& (65535 : Int32)).toUInt32.toUInt16.toUInt32.toInt32)), .val (.int ((p3 &&& (65535 : Int32)).toUInt32.toUInt16.toUInt32.toInt32)), .val (.int ((p4 &&& (65535 : Int32)).toUInt32.toUInt16.toUInt32.toInt32)), .val (.ref b37), .val (.ref b48), .unset] [(.ref b48)])) _
              refine XS.astore X61.here hx rfl (hb hby at_133) rfl rfl (l' := #[.val (.int p1), .val (.int p2), .val (.int p3), .val (.int p4), .val (.int (p1 &&& (3 : Int32))), .val (.int ((p2 &&& (65535 : Int32)).toUInt32.toUInt16.toUInt32.toInt32)), .val (.int ((p3 &&& (65535 : Int32)).toUInt32.toUInt16.toUInt32.toInt32)), .val (.int ((p4 &&& (65535 : Int32)).toUInt32.toUInt16.toUInt32.toInt32)), .val (.ref b37), .val (.ref b48), .val (.ref b48)]) rfl ?_
              refine XS.aload X61.here hx rfl (hb hby at_135) rfl rfl ?_
              refine XS.ifnullNo X61.here hx rfl (hb hby at_137) rfl ?_
              refine XS.aload X61.here hx rfl (hb hby at_140) rfl rfl ?_
              exact kz
            obtain ⟨cq62, kq62, q62a, q62b, q62c⟩ := isOf hZ rfl SS.1
            obtain ⟨_, _, ⟨T62, L62, k62, n62⟩, -, X62, ⟨Lc62, hQ62, l62, y62, z62⟩, st62⟩ := X61.virtualBack hx (y := (⟨"java/lang/String", "length", "()I"⟩ : MethodName)) (z := (⟨"java/lang/String", "length", "()I"⟩ : MethodName)) hown (mvT hZ (w_ hw 32 rfl)) (mvT hZ (w_ hw 33 rfl)) (notFace_of_selects (args := #[]) (mvT hZ (w_ hw 35 rfl))) (mvT hZ (w_ hw 35 rfl)) (mvT hZ (w_ hw 34 rfl)) (by decide) (backOf (W := 0) (rlen l Z a0 hw [] b48 vb kb cs (1 : Int32) (4 : Int32) (2 : Int32) _ T61.heap n0 Z3 SC hcs O3 SS.1 SS.2.1 SS.2.2.1 SS.2.2.2 rfl rfl) hZ (w_ hw 36 rfl) (w_ hw 4 rfl) (by decide) (by decide)) q62a q62c (g := (mkF m 142 #[.val (.int p1), .val (.int p2), .val (.int p3), .val (.int p4), .val (.int (p1 &&& (3 : Int32))), .val (.int ((p2 &&& (65535 : Int32)).toUInt32.toUInt16.toUInt32.toInt32)), .val (.int ((p3 &&& (65535 : Int32)).toUInt32.toUInt16.toUInt32.toInt32)), .val (.int ((p4 &&& (65535 : Int32)).toUInt32.toUInt16.toUInt32.toInt32)), .val (.ref b37), .val (.ref b48), .val (.ref b48)] [(.ref b48)])) rfl (by rw [hml]; rfl) (Steps.refl _) (argsL := []) (rest := []) (lenOf pd_17 rfl) rfl (by show 2 * 0 + _ ≤ _; exact Nat.le_of_eq rfl) (hb hby at_142) (fun _ _ => ⟨rfl, rfl, (by decide : 6 + 0 ≤ _), (by decide : 40 + 0 ≤ _)⟩)
            dsimp only [Pt.U, Pt.locs, Pt.cells, Pt.slots] at X62 l62 y62 z62 st62 hQ62
            subst l62 y62 z62
            obtain ⟨rfl, N62, e62⟩ := hQ62
            have Nf62 := Fr.app Nf61 N62
            refine Goes.via (S' := T62.setTop (mkF m 145 #[.val (.int p1), .val (.int p2), .val (.int p3), .val (.int p4), .val (.int (p1 &&& (3 : Int32))), .val (.int ((p2 &&& (65535 : Int32)).toUInt32.toUInt16.toUInt32.toInt32)), .val (.int ((p3 &&& (65535 : Int32)).toUInt32.toUInt16.toUInt32.toInt32)), .val (.int ((p4 &&& (65535 : Int32)).toUInt32.toUInt16.toUInt32.toInt32)), .val (.ref b37), .val (.ref b48), .val (.ref b48)] [(.int (2 : Int32))])) (fun _ kz => st62.trans kz) ?_
            refine Goes.via (S' := T62.setTop (mkF m 154 #[.val (.int p1), .val (.int p2), .val (.int p3), .val (.int p4), .val (.int (p1 &&& (3 : Int32))), .val (.int ((p2 &&& (65535 : Int32)).toUInt32.toUInt16.toUInt32.toInt32)), .val (.int ((p3 &&& (65535 : Int32)).toUInt32.toUInt16.toUInt32.toInt32)), .val (.int ((p4 &&& (65535 : Int32)).toUInt32.toUInt16.toUInt32.toInt32)), .val (.ref b37), .val (.ref b48), .val (.ref b48)] [(.ref b48), (.ref b48)])) (fun tz kz => ?_) ?_
            · show Steps p.tables e below (T62.setTop (mkF m 145 #[.val (.int p1), .val (.int p2), .val (.int p3), .val (.int p4), .val (.int (p1 &&& (3 : Int32))), .val (.int ((p2 &&& (65535 : Int32)).toUInt32.toUInt16.toUInt32.toInt32)), .val (.int ((p3 &&& (65535 : Int32)).toUInt32.toUInt16.toUInt32.toInt32)), .val (.int ((p4 &&& (65535 : Int32)).toUInt32.toUInt16.toUInt32.toInt32)), .val (.ref b37), .val (.ref b48), .val (.ref b48)] [(.int (2 : Int32))])) _
              refine XS.iload X62.here hx rfl (hb hby at_145) rfl ?_
              refine XS.icmpNo X62.here hx rfl (hb hby at_147) rfl (teq hnn.symm).2 ?_
              refine XS.aload X62.here hx rfl (hb hby at_150) rfl rfl ?_
              refine XS.aload X62.here hx rfl (hb hby at_152) rfl rfl ?_
              exact kz
            obtain ⟨cq63, kq63, q63a, q63b, q63c⟩ := isOf hZ e62 SS.1
            obtain ⟨_, _, ⟨T63, L63, k63, n63⟩, -, X63, ⟨Lc63, hQ63, l63, y63, z63⟩, st63⟩ := X62.virtualBack hx (y := (⟨"java/lang/String", "equals", "(Ljava/lang/Object;)Z"⟩ : MethodName)) (z := (⟨"java/lang/String", "equals", "(Ljava/lang/Object;)Z"⟩ : MethodName)) hown (mvT hZ (w_ hw 43 rfl)) (mvT hZ (w_ hw 44 rfl)) (notFace_of_selects (args := #[]) (mvT hZ (w_ hw 46 rfl))) (mvT hZ (w_ hw 46 rfl)) (mvT hZ (w_ hw 45 rfl)) (by decide) (backOf (W := 0) (rsame l Z a0 hw [] b48 T61.heap n0 Z3) hZ (w_ hw 47 rfl) (w_ hw 4 rfl) (by decide) (by decide)) q63a q63c (g := (mkF m 154 #[.val (.int p1), .val (.int p2), .val (.int p3), .val (.int p4), .val (.int (p1 &&& (3 : Int32))), .val (.int ((p2 &&& (65535 : Int32)).toUInt32.toUInt16.toUInt32.toInt32)), .val (.int ((p3 &&& (65535 : Int32)).toUInt32.toUInt16.toUInt32.toInt32)), .val (.int ((p4 &&& (65535 : Int32)).toUInt32.toUInt16.toUInt32.toInt32)), .val (.ref b37), .val (.ref b48), .val (.ref b48)] [(.ref b48), (.ref b48)])) rfl (by rw [hml]; rfl) (Steps.refl _) (argsL := [(.ref b48)]) (rest := []) (lenOf pd_21 rfl) rfl (by show 2 * 0 + _ ≤ _; exact Nat.le_of_eq rfl) (hb hby at_154) (fun _ _ => ⟨rfl, e62, (by decide : 6 + 0 ≤ _), (by decide : 40 + 0 ≤ _)⟩)
            dsimp only [Pt.U, Pt.locs, Pt.cells, Pt.slots] at X63 l63 y63 z63 st63 hQ63
            subst l63 y63 z63
            obtain ⟨rfl, N63, e63⟩ := hQ63
            have Nf63 := Fr.app Nf62 N63
            refine Goes.via (S' := T63.setTop (mkF m 157 #[.val (.int p1), .val (.int p2), .val (.int p3), .val (.int p4), .val (.int (p1 &&& (3 : Int32))), .val (.int ((p2 &&& (65535 : Int32)).toUInt32.toUInt16.toUInt32.toInt32)), .val (.int ((p3 &&& (65535 : Int32)).toUInt32.toUInt16.toUInt32.toInt32)), .val (.int ((p4 &&& (65535 : Int32)).toUInt32.toUInt16.toUInt32.toInt32)), .val (.ref b37), .val (.ref b48), .val (.ref b48)] [(.int (1 : Int32))])) (fun _ kz => st63.trans kz) ?_
            refine Goes.via (S' := T63.setTop (mkF m 165 #[.val (.int p1), .val (.int p2), .val (.int p3), .val (.int p4), .val (.int (p1 &&& (3 : Int32))), .val (.int ((p2 &&& (65535 : Int32)).toUInt32.toUInt16.toUInt32.toInt32)), .val (.int ((p3 &&& (65535 : Int32)).toUInt32.toUInt16.toUInt32.toInt32)), .val (.int ((p4 &&& (65535 : Int32)).toUInt32.toUInt16.toUInt32.toInt32)), .val (.ref b37), .val (.ref b48), .val (.ref b48)] [(.int (1 : Int32))])) (fun tz kz => ?_) ?_
            · show Steps p.tables e below (T63.setTop (mkF m 157 #[.val (.int p1), .val (.int p2), .val (.int p3), .val (.int p4), .val (.int (p1 &&& (3 : Int32))), .val (.int ((p2 &&& (65535 : Int32)).toUInt32.toUInt16.toUInt32.toInt32)), .val (.int ((p3 &&& (65535 : Int32)).toUInt32.toUInt16.toUInt32.toInt32)), .val (.int ((p4 &&& (65535 : Int32)).toUInt32.toUInt16.toUInt32.toInt32)), .val (.ref b37), .val (.ref b48), .val (.ref b48)] [(.int (1 : Int32))])) _
              refine XS.ifNo X63.here hx rfl (hb hby at_157) rfl ((if0 _ _).trans (feq (by first | decide | rfl)).1) ?_
              refine XS.iconst X63.here hx rfl (hb hby at_160) ?_
              refine XS.goto X63.here hx rfl (pc0 := 161) (pc' := 165) rfl (hb hby at_161) (by decide) (by decide) ?_
              exact kz
            exact Goes.retNH (s := s) (vm1 := T61.vm) X63 hx Bd.notSynchronized hS61 (Nat.le_refl _) e63 hZ hEL hC61 (t := .boolean) Bd.returns (by simp) (hb hby at_165) (Nat.le_of_ble_eq_true rfl) (Nat.le_of_ble_eq_true rfl) ⟨rfl, Nf63⟩
          · refine Goes.via (S' := T59.setTop (mkF m 127 #[.val (.int p1), .val (.int p2), .val (.int p3), .val (.int p4), .val (.int (p1 &&& (3 : Int32))), .val (.int ((p2 &&& (65535 : Int32)).toUInt32.toUInt16.toUInt32.toInt32)), .val (.int ((p3 &&& (65535 : Int32)).toUInt32.toUInt16.toUInt32.toInt32)), .val (.int ((p4 &&& (65535 : Int32)).toUInt32.toUInt16.toUInt32.toInt32)), .val (.ref b37), .val (.ref b48), .unset] [(.int (1 : Int32))])) (fun tz kz => ?_) ?_
            · show Steps p.tables e below (T59.setTop (mkF m 123 #[.val (.int p1), .val (.int p2), .val (.int p3), .val (.int p4), .val (.int (p1 &&& (3 : Int32))), .val (.int ((p2 &&& (65535 : Int32)).toUInt32.toUInt16.toUInt32.toInt32)), .val (.int ((p3 &&& (65535 : Int32)).toUInt32.toUInt16.toUInt32.toInt32)), .val (.int ((p4 &&& (65535 : Int32)).toUInt32.toUInt16.toUInt32.toInt32)), .val (.ref b37), .val (.ref b48), .unset] [(.int (nar .boolean (own_fs ((p2 &&& (65535 : Int32)).toUInt32.toUInt16.toUInt32.toInt32))))])) _
              refine XS.ifNo X59.here hx rfl (hb hby at_123) rfl ((if0 _ _).trans (feq hc123_60).1) ?_
              refine XS.iconst X59.here hx rfl (hb hby at_126) ?_
              exact kz
            exact Goes.retNH (s := s) (vm1 := s.vm) X59 hx Bd.notSynchronized ((State.WarmedH.refl s).since 0) hk53 e59 hZ hEL hC52 (t := .boolean) Bd.returns (by simp) (hb hby at_127) (Nat.le_of_ble_eq_true rfl) (Nat.le_of_ble_eq_true rfl) ⟨rfl, Nf59⟩
      · refine Goes.via (S' := s₁.setTop (mkF m 83 #[.val (.int p1), .val (.int p2), .val (.int p3), .val (.int p4), .val (.int (p1 &&& (3 : Int32))), .val (.int ((p2 &&& (65535 : Int32)).toUInt32.toUInt16.toUInt32.toInt32)), .val (.int ((p3 &&& (65535 : Int32)).toUInt32.toUInt16.toUInt32.toInt32)), .val (.int ((p4 &&& (65535 : Int32)).toUInt32.toUInt16.toUInt32.toInt32)), .unset, .unset, .unset] [(.int (3 : Int32))])) (fun tz kz => ?_) ?_
        · show Steps p.tables e below (s₁.setTop (mkF m 61 #[.val (.int p1), .val (.int p2), .val (.int p3), .val (.int p4), .val (.int (p1 &&& (3 : Int32))), .val (.int ((p2 &&& (65535 : Int32)).toUInt32.toUInt16.toUInt32.toInt32)), .val (.int ((p3 &&& (65535 : Int32)).toUInt32.toUInt16.toUInt32.toInt32)), .val (.int ((p4 &&& (65535 : Int32)).toUInt32.toUInt16.toUInt32.toInt32)), .unset, .unset, .unset] [(.int (2 : Int32)), (.int (p1 &&& (3 : Int32)))])) _
          refine XS.icmpYes X0.here hx rfl (pc0 := 61) (pc' := 82) rfl (hb hby at_61) rfl (feq hc61_36).2 (by decide) (by decide) ?_
          refine XS.iconst X0.here hx rfl (hb hby at_82) ?_
          exact kz
        obtain ⟨T64, h64, k64, X64, e64, E64, A64, st64⟩ := newP X0 hx hZ (w_ hw 1 rfl) e0 (g := (mkF m 83 #[.val (.int p1), .val (.int p2), .val (.int p3), .val (.int p4), .val (.int (p1 &&& (3 : Int32))), .val (.int ((p2 &&& (65535 : Int32)).toUInt32.toUInt16.toUInt32.toInt32)), .val (.int ((p3 &&& (65535 : Int32)).toUInt32.toUInt16.toUInt32.toInt32)), .val (.int ((p4 &&& (65535 : Int32)).toUInt32.toUInt16.toUInt32.toInt32)), .unset, .unset, .unset] [(.int (3 : Int32))])) rfl (hb hby at_83) rfl (by decide) (cap := 3) (by decide) (by decide) (by decide) (by decide)
        obtain ⟨b64, g64⟩ : ∃ z, z = h0.size := ⟨_, rfl⟩
        rw [← g64] at A64 st64
        refine Goes.via (S' := T64.setTop (mkF m 85 #[.val (.int p1), .val (.int p2), .val (.int p3), .val (.int p4), .val (.int (p1 &&& (3 : Int32))), .val (.int ((p2 &&& (65535 : Int32)).toUInt32.toUInt16.toUInt32.toInt32)), .val (.int ((p3 &&& (65535 : Int32)).toUInt32.toUInt16.toUInt32.toInt32)), .val (.int ((p4 &&& (65535 : Int32)).toUInt32.toUInt16.toUInt32.toInt32)), .unset, .unset, .unset] [(.ref b64)])) st64 ?_
        have C64 : Arv Z h64 b64 k64 .char (3 : Int32) [.int 0, .int 0, .int 0] (.int 0) := (Arv.new A64 (by decide)).pad (pad_rep [] (.int 0) 3)
        have hC65 := hC0.trans (CHr.ext E64 hC0.1)
        have hk66 := Nat.le_trans (Nat.zero_le _) E64.1
        have K64 := (Keep.refl h0 []).ext E64
        have gc : @LE.le Nat _ h0.size b64 := Nat.le_of_eq g64.symm
        have hnn : (p1 &&& (3 : Int32)) = (3 : Int32) := own_and3 hc28_1 hc42_12 hc61_36
        refine Goes.via (S' := T64.setTop (mkF m 89 #[.val (.int p1), .val (.int p2), .val (.int p3), .val (.int p4), .val (.int (p1 &&& (3 : Int32))), .val (.int ((p2 &&& (65535 : Int32)).toUInt32.toUInt16.toUInt32.toInt32)), .val (.int ((p3 &&& (65535 : Int32)).toUInt32.toUInt16.toUInt32.toInt32)), .val (.int ((p4 &&& (65535 : Int32)).toUInt32.toUInt16.toUInt32.toInt32)), .unset, .unset, .unset] [(.int ((p2 &&& (65535 : Int32)).toUInt32.toUInt16.toUInt32.toInt32)), (.int (0 : Int32)), (.ref b64), (.ref b64)])) (fun tz kz => ?_) ?_
        · show Steps p.tables e below (T64.setTop (mkF m 85 #[.val (.int p1), .val (.int p2), .val (.int p3), .val (.int p4), .val (.int (p1 &&& (3 : Int32))), .val (.int ((p2 &&& (65535 : Int32)).toUInt32.toUInt16.toUInt32.toInt32)), .val (.int ((p3 &&& (65535 : Int32)).toUInt32.toUInt16.toUInt32.toInt32)), .val (.int ((p4 &&& (65535 : Int32)).toUInt32.toUInt16.toUInt32.toInt32)), .unset, .unset, .unset] [(.ref b64)])) _
          refine XS.dup X64.here hx rfl (hb hby at_85) rfl rfl ?_
          refine XS.iconst X64.here hx rfl (hb hby at_86) ?_
          refine XS.iload X64.here hx rfl (hb hby at_87) rfl ?_
          exact kz
        obtain ⟨cl67, Ar67, q67, Sz67, Nn67, Hs67, G67⟩ := (id C64)
        obtain ⟨T68, h68, X68, e68, W68, st68⟩ := stC X64 hx hZ e64 Ar67 (j := (0 : Int32)) (inb_of Sz67 ⟨by decide, by decide⟩) (g := (mkF m 89 #[.val (.int p1), .val (.int p2), .val (.int p3), .val (.int p4), .val (.int (p1 &&& (3 : Int32))), .val (.int ((p2 &&& (65535 : Int32)).toUInt32.toUInt16.toUInt32.toInt32)), .val (.int ((p3 &&& (65535 : Int32)).toUInt32.toUInt16.toUInt32.toInt32)), .val (.int ((p4 &&& (65535 : Int32)).toUInt32.toUInt16.toUInt32.toInt32)), .unset, .unset, .unset] [(.int ((p2 &&& (65535 : Int32)).toUInt32.toUInt16.toUInt32.toInt32)), (.int (0 : Int32)), (.ref b64), (.ref b64)])) rfl rfl (hb hby at_89)
        refine Goes.via (S' := T68.setTop (mkF m 90 #[.val (.int p1), .val (.int p2), .val (.int p3), .val (.int p4), .val (.int (p1 &&& (3 : Int32))), .val (.int ((p2 &&& (65535 : Int32)).toUInt32.toUInt16.toUInt32.toInt32)), .val (.int ((p3 &&& (65535 : Int32)).toUInt32.toUInt16.toUInt32.toInt32)), .val (.int ((p4 &&& (65535 : Int32)).toUInt32.toUInt16.toUInt32.toInt32)), .unset, .unset, .unset] [(.ref b64)])) st68 ?_
        have N68 := Fr.snoc X68 N0 (Nat.le_trans Z0 gc)
        have C68 := Arv.set Ar67 q67 Sz67 Nn67 Hs67 G67 (fits_nar_char _) W68 0 rfl (Nat.le_of_ble_eq_true rfl)
        rw [own_nc] at C68
        have hC69 := hC65.trans (CHr.wr W68 (Safe.arr hZ.alike Ar67 (by decide)) hC65.1)
        have hk70 := Nat.le_trans hk66 (Nat.le_of_eq W68.size.symm)
        have K68 := K64.wr W68 (Or.inr gc)
        refine Goes.via (S' := T68.setTop (mkF m 94 #[.val (.int p1), .val (.int p2), .val (.int p3), .val (.int p4), .val (.int (p1 &&& (3 : Int32))), .val (.int ((p2 &&& (65535 : Int32)).toUInt32.toUInt16.toUInt32.toInt32)), .val (.int ((p3 &&& (65535 : Int32)).toUInt32.toUInt16.toUInt32.toInt32)), .val (.int ((p4 &&& (65535 : Int32)).toUInt32.toUInt16.toUInt32.toInt32)), .unset, .unset, .unset] [(.int ((p3 &&& (65535 : Int32)).toUInt32.toUInt16.toUInt32.toInt32)), (.int (1 : Int32)), (.ref b64), (.ref b64)])) (fun tz kz => ?_) ?_
        · show Steps p.tables e below (T68.setTop (mkF m 90 #[.val (.int p1), .val (.int p2), .val (.int p3), .val (.int p4), .val (.int (p1 &&& (3 : Int32))), .val (.int ((p2 &&& (65535 : Int32)).toUInt32.toUInt16.toUInt32.toInt32)), .val (.int ((p3 &&& (65535 : Int32)).toUInt32.toUInt16.toUInt32.toInt32)), .val (.int ((p4 &&& (65535 : Int32)).toUInt32.toUInt16.toUInt32.toInt32)), .unset, .unset, .unset] [(.ref b64)])) _
          refine XS.dup X68.here hx rfl (hb hby at_90) rfl rfl ?_
          refine XS.iconst X68.here hx rfl (hb hby at_91) ?_
          refine XS.iload X68.here hx rfl (hb hby at_92) rfl ?_
          exact kz
        obtain ⟨cl71, Ar71, q71, Sz71, Nn71, Hs71, G71⟩ := (id C68)
        obtain ⟨T72, h72, X72, e72, W72, st72⟩ := stC X68 hx hZ e68 Ar71 (j := (1 : Int32)) (inb_of Sz71 ⟨by decide, by decide⟩) (g := (mkF m 94 #[.val (.int p1), .val (.int p2), .val (.int p3), .val (.int p4), .val (.int (p1 &&& (3 : Int32))), .val (.int ((p2 &&& (65535 : Int32)).toUInt32.toUInt16.toUInt32.toInt32)), .val (.int ((p3 &&& (65535 : Int32)).toUInt32.toUInt16.toUInt32.toInt32)), .val (.int ((p4 &&& (65535 : Int32)).toUInt32.toUInt16.toUInt32.toInt32)), .unset, .unset, .unset] [(.int ((p3 &&& (65535 : Int32)).toUInt32.toUInt16.toUInt32.toInt32)), (.int (1 : Int32)), (.ref b64), (.ref b64)])) rfl rfl (hb hby at_94)
        refine Goes.via (S' := T72.setTop (mkF m 95 #[.val (.int p1), .val (.int p2), .val (.int p3), .val (.int p4), .val (.int (p1 &&& (3 : Int32))), .val (.int ((p2 &&& (65535 : Int32)).toUInt32.toUInt16.toUInt32.toInt32)), .val (.int ((p3 &&& (65535 : Int32)).toUInt32.toUInt16.toUInt32.toInt32)), .val (.int ((p4 &&& (65535 : Int32)).toUInt32.toUInt16.toUInt32.toInt32)), .unset, .unset, .unset] [(.ref b64)])) st72 ?_
        have N72 := Fr.snoc X72 N68 (Nat.le_trans Z0 gc)
        have C72 := Arv.set Ar71 q71 Sz71 Nn71 Hs71 G71 (fits_nar_char _) W72 1 rfl (Nat.le_of_ble_eq_true rfl)
        rw [own_nc] at C72
        have hC73 := hC69.trans (CHr.wr W72 (Safe.arr hZ.alike Ar71 (by decide)) hC69.1)
        have hk74 := Nat.le_trans hk70 (Nat.le_of_eq W72.size.symm)
        have K72 := K68.wr W72 (Or.inr gc)
        refine Goes.via (S' := T72.setTop (mkF m 99 #[.val (.int p1), .val (.int p2), .val (.int p3), .val (.int p4), .val (.int (p1 &&& (3 : Int32))), .val (.int ((p2 &&& (65535 : Int32)).toUInt32.toUInt16.toUInt32.toInt32)), .val (.int ((p3 &&& (65535 : Int32)).toUInt32.toUInt16.toUInt32.toInt32)), .val (.int ((p4 &&& (65535 : Int32)).toUInt32.toUInt16.toUInt32.toInt32)), .unset, .unset, .unset] [(.int ((p4 &&& (65535 : Int32)).toUInt32.toUInt16.toUInt32.toInt32)), (.int (2 : Int32)), (.ref b64), (.ref b64)])) (fun tz kz => ?_) ?_
        · show Steps p.tables e below (T72.setTop (mkF m 95 #[.val (.int p1), .val (.int p2), .val (.int p3), .val (.int p4), .val (.int (p1 &&& (3 : Int32))), .val (.int ((p2 &&& (65535 : Int32)).toUInt32.toUInt16.toUInt32.toInt32)), .val (.int ((p3 &&& (65535 : Int32)).toUInt32.toUInt16.toUInt32.toInt32)), .val (.int ((p4 &&& (65535 : Int32)).toUInt32.toUInt16.toUInt32.toInt32)), .unset, .unset, .unset] [(.ref b64)])) _
          refine XS.dup X72.here hx rfl (hb hby at_95) rfl rfl ?_
          refine XS.iconst X72.here hx rfl (hb hby at_96) ?_
          refine XS.iload X72.here hx rfl (hb hby at_97) rfl ?_
          exact kz
        obtain ⟨cl75, Ar75, q75, Sz75, Nn75, Hs75, G75⟩ := (id C72)
        obtain ⟨T76, h76, X76, e76, W76, st76⟩ := stC X72 hx hZ e72 Ar75 (j := (2 : Int32)) (inb_of Sz75 ⟨by decide, by decide⟩) (g := (mkF m 99 #[.val (.int p1), .val (.int p2), .val (.int p3), .val (.int p4), .val (.int (p1 &&& (3 : Int32))), .val (.int ((p2 &&& (65535 : Int32)).toUInt32.toUInt16.toUInt32.toInt32)), .val (.int ((p3 &&& (65535 : Int32)).toUInt32.toUInt16.toUInt32.toInt32)), .val (.int ((p4 &&& (65535 : Int32)).toUInt32.toUInt16.toUInt32.toInt32)), .unset, .unset, .unset] [(.int ((p4 &&& (65535 : Int32)).toUInt32.toUInt16.toUInt32.toInt32)), (.int (2 : Int32)), (.ref b64), (.ref b64)])) rfl rfl (hb hby at_99)
        refine Goes.via (S' := T76.setTop (mkF m 100 #[.val (.int p1), .val (.int p2), .val (.int p3), .val (.int p4), .val (.int (p1 &&& (3 : Int32))), .val (.int ((p2 &&& (65535 : Int32)).toUInt32.toUInt16.toUInt32.toInt32)), .val (.int ((p3 &&& (65535 : Int32)).toUInt32.toUInt16.toUInt32.toInt32)), .val (.int ((p4 &&& (65535 : Int32)).toUInt32.toUInt16.toUInt32.toInt32)), .unset, .unset, .unset] [(.ref b64)])) st76 ?_
        have N76 := Fr.snoc X76 N72 (Nat.le_trans Z0 gc)
        have C76 := Arv.set Ar75 q75 Sz75 Nn75 Hs75 G75 (fits_nar_char _) W76 2 rfl (Nat.le_of_ble_eq_true rfl)
        rw [own_nc] at C76
        have hC77 := hC73.trans (CHr.wr W76 (Safe.arr hZ.alike Ar75 (by decide)) hC73.1)
        have hk78 := Nat.le_trans hk74 (Nat.le_of_eq W76.size.symm)
        have K76 := K72.wr W76 (Or.inr gc)
        refine Goes.via (S' := T76.setTop (mkF m 102 #[.val (.int p1), .val (.int p2), .val (.int p3), .val (.int p4), .val (.int (p1 &&& (3 : Int32))), .val (.int ((p2 &&& (65535 : Int32)).toUInt32.toUInt16.toUInt32.toInt32)), .val (.int ((p3 &&& (65535 : Int32)).toUInt32.toUInt16.toUInt32.toInt32)), .val (.int ((p4 &&& (65535 : Int32)).toUInt32.toUInt16.toUInt32.toInt32)), .val (.ref b64), .unset, .unset] [])) (fun tz kz => ?_) ?_
        · show Steps p.tables e below (T76.setTop (mkF m 100 #[.val (.int p1), .val (.int p2), .val (.int p3), .val (.int p4), .val (.int (p1 &&& (3 : Int32))), .val (.int ((p2 &&& (65535 : Int32)).toUInt32.toUInt16.toUInt32.toInt32)), .val (.int ((p3 &&& (65535 : Int32)).toUInt32.toUInt16.toUInt32.toInt32)), .val (.int ((p4 &&& (65535 : Int32)).toUInt32.toUInt16.toUInt32.toInt32)), .unset, .unset, .unset] [(.ref b64)])) _
          refine XS.astore X76.here hx rfl (hb hby at_100) rfl rfl (l' := #[.val (.int p1), .val (.int p2), .val (.int p3), .val (.int p4), .val (.int (p1 &&& (3 : Int32))), .val (.int ((p2 &&& (65535 : Int32)).toUInt32.toUInt16.toUInt32.toInt32)), .val (.int ((p3 &&& (65535 : Int32)).toUInt32.toUInt16.toUInt32.toInt32)), .val (.int ((p4 &&& (65535 : Int32)).toUInt32.toUInt16.toUInt32.toInt32)), .val (.ref b64), .unset, .unset]) rfl ?_
          exact kz
        obtain ⟨T79, h79, X79, e79, E79, A79, D79, -, st79⟩ := newO X76 hx hZ hown (w_ hw 2 rfl) (w_ hw 3 rfl) (w_ hw 4 rfl) e76 (g := (mkF m 102 #[.val (.int p1), .val (.int p2), .val (.int p3), .val (.int p4), .val (.int (p1 &&& (3 : Int32))), .val (.int ((p2 &&& (65535 : Int32)).toUInt32.toUInt16.toUInt32.toInt32)), .val (.int ((p3 &&& (65535 : Int32)).toUInt32.toUInt16.toUInt32.toInt32)), .val (.int ((p4 &&& (65535 : Int32)).toUInt32.toUInt16.toUInt32.toInt32)), .val (.ref b64), .unset, .unset] [])) rfl (hb hby at_102) (by decide) (by decide)
        obtain ⟨b79, g79⟩ : ∃ z, z = h76.size := ⟨_, rfl⟩
        rw [← g79] at A79 D79 st79
        refine Goes.via (S' := T79.setTop (mkF m 105 #[.val (.int p1), .val (.int p2), .val (.int p3), .val (.int p4), .val (.int (p1 &&& (3 : Int32))), .val (.int ((p2 &&& (65535 : Int32)).toUInt32.toUInt16.toUInt32.toInt32)), .val (.int ((p3 &&& (65535 : Int32)).toUInt32.toUInt16.toUInt32.toInt32)), .val (.int ((p4 &&& (65535 : Int32)).toUInt32.toUInt16.toUInt32.toInt32)), .val (.ref b64), .unset, .unset] [(.ref b79)])) st79 ?_
        have hC80 := hC77.trans (CHr.ext E79 hC77.1)
        have hk81 := Nat.le_trans hk78 E79.1
        have FV : Fld Z h79 b79 "java/lang/String" "value" "[B" .null := D79 (Or.inr (w_ hw 17 rfl)) (ty := (.array .byte)) (by decide)
        have FC : Fld Z h79 b79 "java/lang/String" "coder" "B" (.int (0 : Int32)) := D79 (Or.inr (w_ hw 18 rfl)) (ty := .byte) (by decide)
        have C79 := C76.ext E79
        have K79 := K76.ext E79
        have ga : n0 ≤ b79 := Nat.le_trans (Nat.le_trans Z0 K76.1) (Nat.le_of_eq g79.symm)
        have gh : @LE.le Nat _ h0.size b79 := Nat.le_trans K76.1 (Nat.le_of_eq g79.symm)
        have O1 := O0.keep K79 all0
        have Z1 := Nat.le_trans Z0 K79.1
        refine Goes.via (S' := T79.setTop (mkF m 108 #[.val (.int p1), .val (.int p2), .val (.int p3), .val (.int p4), .val (.int (p1 &&& (3 : Int32))), .val (.int ((p2 &&& (65535 : Int32)).toUInt32.toUInt16.toUInt32.toInt32)), .val (.int ((p3 &&& (65535 : Int32)).toUInt32.toUInt16.toUInt32.toInt32)), .val (.int ((p4 &&& (65535 : Int32)).toUInt32.toUInt16.toUInt32.toInt32)), .val (.ref b64), .unset, .unset] [(.ref b64), (.ref b79), (.ref b79)])) (fun tz kz => ?_) ?_
        · show Steps p.tables e below (T79.setTop (mkF m 105 #[.val (.int p1), .val (.int p2), .val (.int p3), .val (.int p4), .val (.int (p1 &&& (3 : Int32))), .val (.int ((p2 &&& (65535 : Int32)).toUInt32.toUInt16.toUInt32.toInt32)), .val (.int ((p3 &&& (65535 : Int32)).toUInt32.toUInt16.toUInt32.toInt32)), .val (.int ((p4 &&& (65535 : Int32)).toUInt32.toUInt16.toUInt32.toInt32)), .val (.ref b64), .unset, .unset] [(.ref b79)])) _
          refine XS.dup X79.here hx rfl (hb hby at_105) rfl rfl ?_
          refine XS.aload X79.here hx rfl (hb hby at_106) rfl rfl ?_
          exact kz
        obtain ⟨_, _, ⟨T82, L82, k82, n82⟩, -, X82, ⟨Lc82, hQ82, l82, y82, z82⟩, st82⟩ := X79.specialBack hx (y := (⟨"java/lang/String", "<init>", "([C)V"⟩ : MethodName)) rfl hown (mvT hZ (w_ hw 5 rfl)) (mvT hZ (w_ hw 6 rfl)) (mvT hZ (w_ hw 7 rfl)) (by decide) (backOf (W := 1) (rn1_3 l Z a0 hw [] b79 b64 cs k64 ((p2 &&& (65535 : Int32)).toUInt32.toUInt16.toUInt32.toInt32) ((p3 &&& (65535 : Int32)).toUInt32.toUInt16.toUInt32.toInt32) ((p4 &&& (65535 : Int32)).toUInt32.toUInt16.toUInt32.toInt32) h79 n0 Z1 SC hcs O1 SA SH SL FV FC A79 ga C79 (own_nc _) (own_nc _) (own_nc _)) hZ (w_ hw 7 rfl) (w_ hw 4 rfl) (by decide) (by decide)) (g := (mkF m 108 #[.val (.int p1), .val (.int p2), .val (.int p3), .val (.int p4), .val (.int (p1 &&& (3 : Int32))), .val (.int ((p2 &&& (65535 : Int32)).toUInt32.toUInt16.toUInt32.toInt32)), .val (.int ((p3 &&& (65535 : Int32)).toUInt32.toUInt16.toUInt32.toInt32)), .val (.int ((p4 &&& (65535 : Int32)).toUInt32.toUInt16.toUInt32.toInt32)), .val (.ref b64), .unset, .unset] [(.ref b64), (.ref b79), (.ref b79)])) rfl (by rw [hml]; rfl) (Steps.refl _) (a := b79) (argsL := [(.ref b64)]) (rest := [(.ref b79)]) (lenOf pd_19 rfl) rfl (by show 2 * 0 + _ ≤ _; exact Nat.le_of_eq rfl) (hb hby at_108) (fun _ _ => ⟨rfl, e79, (by decide : 2 + 2 ≤ _), (by decide : 7 + 9 ≤ _)⟩)
        dsimp only [Pt.U, Pt.locs, Pt.cells, Pt.slots] at X82 l82 y82 z82 st82 hQ82
        subst l82 y82 z82
        obtain ⟨rfl, N82, K82, vb, kb, SD⟩ := hQ82
        have Nf82 := Fr.app N76 N82
        refine Goes.via (S' := T82.setTop (mkF m 111 #[.val (.int p1), .val (.int p2), .val (.int p3), .val (.int p4), .val (.int (p1 &&& (3 : Int32))), .val (.int ((p2 &&& (65535 : Int32)).toUInt32.toUInt16.toUInt32.toInt32)), .val (.int ((p3 &&& (65535 : Int32)).toUInt32.toUInt16.toUInt32.toInt32)), .val (.int ((p4 &&& (65535 : Int32)).toUInt32.toUInt16.toUInt32.toInt32)), .val (.ref b64), .unset, .unset] [(.ref b79)])) (fun _ kz => st82.trans kz) ?_
        have hC83 := hC80.trans (CHr.keep K82 (allS (own_safe hZ.alike A79 FV) all0) hC80.1)
        have hk84 := Nat.le_trans hk81 K82.1
        rcases SD with ⟨⟨s0, s1, s2⟩, ST⟩ | ST
        · have Kf := K79.trans K82 (allS (Or.inr gh) all0)
          have O2 := O0.keep Kf all0
          have Z2 := Nat.le_trans Z0 Kf.1
          refine Goes.via (S' := T82.setTop (mkF m 120 #[.val (.int p1), .val (.int p2), .val (.int p3), .val (.int p4), .val (.int (p1 &&& (3 : Int32))), .val (.int ((p2 &&& (65535 : Int32)).toUInt32.toUInt16.toUInt32.toInt32)), .val (.int ((p3 &&& (65535 : Int32)).toUInt32.toUInt16.toUInt32.toInt32)), .val (.int ((p4 &&& (65535 : Int32)).toUInt32.toUInt16.toUInt32.toInt32)), .val (.ref b64), .val (.ref b79), .unset] [(.int ((p2 &&& (65535 : Int32)).toUInt32.toUInt16.toUInt32.toInt32))])) (fun tz kz => ?_) ?_
          · show Steps p.tables e below (T82.setTop (mkF m 111 #[.val (.int p1), .val (.int p2), .val (.int p3), .val (.int p4), .val (.int (p1 &&& (3 : Int32))), .val (.int ((p2 &&& (65535 : Int32)).toUInt32.toUInt16.toUInt32.toInt32)), .val (.int ((p3 &&& (65535 : Int32)).toUInt32.toUInt16.toUInt32.toInt32)), .val (.int ((p4 &&& (65535 : Int32)).toUInt32.toUInt16.toUInt32.toInt32)), .val (.ref b64), .unset, .unset] [(.ref b79)])) _
            refine XS.astore X82.here hx rfl (hb hby at_111) rfl rfl (l' := #[.val (.int p1), .val (.int p2), .val (.int p3), .val (.int p4), .val (.int (p1 &&& (3 : Int32))), .val (.int ((p2 &&& (65535 : Int32)).toUInt32.toUInt16.toUInt32.toInt32)), .val (.int ((p3 &&& (65535 : Int32)).toUInt32.toUInt16.toUInt32.toInt32)), .val (.int ((p4 &&& (65535 : Int32)).toUInt32.toUInt16.toUInt32.toInt32)), .val (.ref b64), .val (.ref b79), .unset]) rfl ?_
            refine XS.iload X82.here hx rfl (hb hby at_113) rfl ?_
            refine XS.ifNo X82.here hx rfl (hb hby at_115) rfl ((if0 _ _).trans (tlt (own_bge hnn (by decide))).2.2.2) ?_
            refine XS.iload X82.here hx rfl (hb hby at_118) rfl ?_
            exact kz
          obtain ⟨_, _, ⟨T85, L85, k85, n85⟩, -, X85, ⟨Lc85, hQ85, l85, y85, z85⟩, st85⟩ := Jvm.LawKit.callS X82 hx (y := (⟨"com/example/vestline/vestline/format/CsvPrintablePinLaw", "formulaStart", "(C)Z"⟩ : MethodName)) hown (mvT hZ (w_ hw 58 rfl)) (mvT hZ (w_ hw 59 rfl)) (mvT hZ (w_ hw 60 rfl)) (mvT hZ (w_ hw 61 rfl)) (by decide) (backOf (W := 0) (rfs l Z a0 hw [] ((p2 &&& (65535 : Int32)).toUInt32.toUInt16.toUInt32.toInt32) T82.heap n0 Z2) hZ (w_ hw 61 rfl) (w_ hw 60 rfl) (by decide) (by decide)) (g := (mkF m 120 #[.val (.int p1), .val (.int p2), .val (.int p3), .val (.int p4), .val (.int (p1 &&& (3 : Int32))), .val (.int ((p2 &&& (65535 : Int32)).toUInt32.toUInt16.toUInt32.toInt32)), .val (.int ((p3 &&& (65535 : Int32)).toUInt32.toUInt16.toUInt32.toInt32)), .val (.int ((p4 &&& (65535 : Int32)).toUInt32.toUInt16.toUInt32.toInt32)), .val (.ref b64), .val (.ref b79), .unset] [(.int ((p2 &&& (65535 : Int32)).toUInt32.toUInt16.toUInt32.toInt32))])) rfl (by rw [hml]; rfl) (argsL := [(.int ((p2 &&& (65535 : Int32)).toUInt32.toUInt16.toUInt32.toInt32))]) (rest := []) (lenOf pd_22 rfl) rfl (by show 2 * 0 + _ ≤ _; exact Nat.le_of_eq rfl) (hb hby at_120) (fun _ _ => ⟨rfl, rfl, (by decide : 4 + 0 ≤ _), (by decide : 16 + 0 ≤ _)⟩)
          dsimp only [Pt.U, Pt.locs, Pt.cells, Pt.slots] at X85 l85 y85 z85 st85 hQ85
          subst l85 y85 z85
          obtain ⟨rfl, N85, e85⟩ := hQ85
          have Nf85 := Fr.app Nf82 N85
          refine Goes.via (S' := T85.setTop (mkF m 123 #[.val (.int p1), .val (.int p2), .val (.int p3), .val (.int p4), .val (.int (p1 &&& (3 : Int32))), .val (.int ((p2 &&& (65535 : Int32)).toUInt32.toUInt16.toUInt32.toInt32)), .val (.int ((p3 &&& (65535 : Int32)).toUInt32.toUInt16.toUInt32.toInt32)), .val (.int ((p4 &&& (65535 : Int32)).toUInt32.toUInt16.toUInt32.toInt32)), .val (.ref b64), .val (.ref b79), .unset] [(.int (nar .boolean (own_fs ((p2 &&& (65535 : Int32)).toUInt32.toUInt16.toUInt32.toInt32))))])) (st85) ?_
          by_cases hc123_86 : (nar .boolean (own_fs ((p2 &&& (65535 : Int32)).toUInt32.toUInt16.toUInt32.toInt32))) = (0 : Int32)
          · refine Goes.via (S' := T85.setTop (mkF m 130 #[.val (.int p1), .val (.int p2), .val (.int p3), .val (.int p4), .val (.int (p1 &&& (3 : Int32))), .val (.int ((p2 &&& (65535 : Int32)).toUInt32.toUInt16.toUInt32.toInt32)), .val (.int ((p3 &&& (65535 : Int32)).toUInt32.toUInt16.toUInt32.toInt32)), .val (.int ((p4 &&& (65535 : Int32)).toUInt32.toUInt16.toUInt32.toInt32)), .val (.ref b64), .val (.ref b79), .unset] [(.ref b79)])) (fun tz kz => ?_) ?_
            · show Steps p.tables e below (T85.setTop (mkF m 123 #[.val (.int p1), .val (.int p2), .val (.int p3), .val (.int p4), .val (.int (p1 &&& (3 : Int32))), .val (.int ((p2 &&& (65535 : Int32)).toUInt32.toUInt16.toUInt32.toInt32)), .val (.int ((p3 &&& (65535 : Int32)).toUInt32.toUInt16.toUInt32.toInt32)), .val (.int ((p4 &&& (65535 : Int32)).toUInt32.toUInt16.toUInt32.toInt32)), .val (.ref b64), .val (.ref b79), .unset] [(.int (nar .boolean (own_fs ((p2 &&& (65535 : Int32)).toUInt32.toUInt16.toUInt32.toInt32))))])) _
              refine XS.ifYes X85.here hx rfl (pc0 := 123) (pc' := 128) rfl (hb hby at_123) rfl ((if0 _ _).trans (teq hc123_86).1) (by decide) (by decide) ?_
              refine XS.aload X85.here hx rfl (hb hby at_128) rfl rfl ?_
              exact kz
            obtain ⟨_, _, ⟨T87, L87, k87, n87⟩, -, X87, hs87, gs87, ⟨Lc87, hQ87, l87, y87, z87, hc87⟩, st87⟩ := callSS (show Stand p l e _ (s.setVm s.vm) m _ below meth c _ _ _ _ from X85) hx (y := (⟨"com/example/vestline/vestline/format/Csv", "printable", "(Ljava/lang/String;)Ljava/lang/String;"⟩ : MethodName)) hown (mvT hZ (w_ hw 23 rfl)) (mvT hZ (w_ hw 24 rfl)) (mvT hZ (w_ hw 25 rfl)) (mvT hZ (w_ hw 26 rfl)) (by decide) (backOfSH (s := s) (vm0 := s.vm) (W := 0) (rpr_L l Z a0 hw [] b79 vb kb cs (3 : Int32) ((p2 &&& (65535 : Int32)).toUInt32.toUInt16.toUInt32.toInt32) fv _ T82.heap n0 Z2 SC hcs O2 SF hfv ST (own_nc _) (own_nff (own_nc _) hc123_86) ⟨by decide, by decide⟩ rfl s0 (by decide)) hZ (w_ hw 26 rfl) (w_ hw 25 rfl) (by decide) (by decide) hEL hC83.1) (g := (mkF m 130 #[.val (.int p1), .val (.int p2), .val (.int p3), .val (.int p4), .val (.int (p1 &&& (3 : Int32))), .val (.int ((p2 &&& (65535 : Int32)).toUInt32.toUInt16.toUInt32.toInt32)), .val (.int ((p3 &&& (65535 : Int32)).toUInt32.toUInt16.toUInt32.toInt32)), .val (.int ((p4 &&& (65535 : Int32)).toUInt32.toUInt16.toUInt32.toInt32)), .val (.ref b64), .val (.ref b79), .unset] [(.ref b79)])) rfl (by rw [hml]; rfl) (argsL := [(.ref b79)]) (rest := []) (lenOf pd_20 rfl) rfl (by show 2 * 0 + _ ≤ _; exact Nat.le_of_eq rfl) (hb hby at_130) (fun _ _ => ⟨rfl, e85, (by decide : 4 + 2 ≤ _), (by decide : 16 + 28 ≤ _)⟩)
            dsimp only [Pt.U, Pt.locs, Pt.cells, Pt.slots] at X87 l87 y87 z87 st87 hQ87 hs87 gs87 hc87
            subst l87 y87 z87
            obtain ⟨rfl, N87, K87⟩ := hQ87
            rw [e85] at gs87
            have hS87 : s.Since T87.vm T87.heap.size := own_fold ((State.WarmedH.refl s).since 0) hk84 hs87 gs87
            have hC87 := hC83.trans hc87
            have hZ : Z.Warmed39 (s.setVm T87.vm).vm := State.Warmed39.trans (t := s.setVm s.vm) hZ hs87.1
            have hown : (s.setVm T87.vm).vm.findClass "com/example/vestline/vestline/format/CsvPrintablePinLaw" = some m.cls := by rw [show (s.setVm T87.vm).vm = T87.vm from rfl, hs87.1.alike.findClass]; exact hown
            have Nf87 := Fr.app Nf85 N87
            refine Goes.via (S' := T87.setTop (mkF m 133 #[.val (.int p1), .val (.int p2), .val (.int p3), .val (.int p4), .val (.int (p1 &&& (3 : Int32))), .val (.int ((p2 &&& (65535 : Int32)).toUInt32.toUInt16.toUInt32.toInt32)), .val (.int ((p3 &&& (65535 : Int32)).toUInt32.toUInt16.toUInt32.toInt32)), .val (.int ((p4 &&& (65535 : Int32)).toUInt32.toUInt16.toUInt32.toInt32)), .val (.ref b64), .val (.ref b79), .unset] [(.ref b79)])) (fun _ kz => st87.trans kz) ?_
            have SS := ST.keep K87 nin0 nin0
            have Kg := Kf.trans K87 all0
            have O3 := O0.keep Kg all0
            have Z3 := Nat.le_trans Z0 Kg.1
            refine Goes.via (S' := T87.setTop (mkF m 142 #[.val (.int p1), .val (.int p2), .val (.int p3), .val (.int p4), .val (.int (p1 &&& (3 : Int32))), .val (.int ((p2 &&& (65535 : Int32)).toUInt32.toUInt16.toUInt32.toInt32)), .val (.int ((p3 &&& (65535 : Int32)).toUInt32.toUInt16.toUInt32.toInt32)), .val (.int ((p4 &&& (65535 : Int32)).toUInt32.toUInt16.toUInt32.toInt32)), .val (.ref b64), .val (.ref b79), .val (.ref b79)] [(.ref b79)])) (fun tz kz => ?_) ?_
            · show Steps p.tables e below (T87.setTop (mkF m 133 #[.val (.int p1), .val (.int p2), .val (.int p3), .val (.int p4), .val (.int (p1 &&& (3 : Int32))), .val (.int ((p2 &&& (65535 : Int32)).toUInt32.toUInt16.toUInt32.toInt32)), .val (.int ((p3 &&& (65535 : Int32)).toUInt32.toUInt16.toUInt32.toInt32)), .val (.int ((p4 &&& (65535 : Int32)).toUInt32.toUInt16.toUInt32.toInt32)), .val (.ref b64), .val (.ref b79), .unset] [(.ref b79)])) _
              refine XS.astore X87.here hx rfl (hb hby at_133) rfl rfl (l' := #[.val (.int p1), .val (.int p2), .val (.int p3), .val (.int p4), .val (.int (p1 &&& (3 : Int32))), .val (.int ((p2 &&& (65535 : Int32)).toUInt32.toUInt16.toUInt32.toInt32)), .val (.int ((p3 &&& (65535 : Int32)).toUInt32.toUInt16.toUInt32.toInt32)), .val (.int ((p4 &&& (65535 : Int32)).toUInt32.toUInt16.toUInt32.toInt32)), .val (.ref b64), .val (.ref b79), .val (.ref b79)]) rfl ?_
              refine XS.aload X87.here hx rfl (hb hby at_135) rfl rfl ?_
              refine XS.ifnullNo X87.here hx rfl (hb hby at_137) rfl ?_
              refine XS.aload X87.here hx rfl (hb hby at_140) rfl rfl ?_
              exact kz
            obtain ⟨cq88, kq88, q88a, q88b, q88c⟩ := isOf hZ rfl SS.1
            obtain ⟨_, _, ⟨T88, L88, k88, n88⟩, -, X88, ⟨Lc88, hQ88, l88, y88, z88⟩, st88⟩ := X87.virtualBack hx (y := (⟨"java/lang/String", "length", "()I"⟩ : MethodName)) (z := (⟨"java/lang/String", "length", "()I"⟩ : MethodName)) hown (mvT hZ (w_ hw 32 rfl)) (mvT hZ (w_ hw 33 rfl)) (notFace_of_selects (args := #[]) (mvT hZ (w_ hw 35 rfl))) (mvT hZ (w_ hw 35 rfl)) (mvT hZ (w_ hw 34 rfl)) (by decide) (backOf (W := 0) (rlen l Z a0 hw [] b79 vb kb cs (0 : Int32) (3 : Int32) (3 : Int32) _ T87.heap n0 Z3 SC hcs O3 SS.1 SS.2.1 SS.2.2.1 SS.2.2.2 rfl rfl) hZ (w_ hw 36 rfl) (w_ hw 4 rfl) (by decide) (by decide)) q88a q88c (g := (mkF m 142 #[.val (.int p1), .val (.int p2), .val (.int p3), .val (.int p4), .val (.int (p1 &&& (3 : Int32))), .val (.int ((p2 &&& (65535 : Int32)).toUInt32.toUInt16.toUInt32.toInt32)), .val (.int ((p3 &&& (65535 : Int32)).toUInt32.toUInt16.toUInt32.toInt32)), .val (.int ((p4 &&& (65535 : Int32)).toUInt32.toUInt16.toUInt32.toInt32)), .val (.ref b64), .val (.ref b79), .val (.ref b79)] [(.ref b79)])) rfl (by rw [hml]; rfl) (Steps.refl _) (argsL := []) (rest := []) (lenOf pd_17 rfl) rfl (by show 2 * 0 + _ ≤ _; exact Nat.le_of_eq rfl) (hb hby at_142) (fun _ _ => ⟨rfl, rfl, (by decide : 6 + 0 ≤ _), (by decide : 44 + 0 ≤ _)⟩)
            dsimp only [Pt.U, Pt.locs, Pt.cells, Pt.slots] at X88 l88 y88 z88 st88 hQ88
            subst l88 y88 z88
            obtain ⟨rfl, N88, e88⟩ := hQ88
            have Nf88 := Fr.app Nf87 N88
            refine Goes.via (S' := T88.setTop (mkF m 145 #[.val (.int p1), .val (.int p2), .val (.int p3), .val (.int p4), .val (.int (p1 &&& (3 : Int32))), .val (.int ((p2 &&& (65535 : Int32)).toUInt32.toUInt16.toUInt32.toInt32)), .val (.int ((p3 &&& (65535 : Int32)).toUInt32.toUInt16.toUInt32.toInt32)), .val (.int ((p4 &&& (65535 : Int32)).toUInt32.toUInt16.toUInt32.toInt32)), .val (.ref b64), .val (.ref b79), .val (.ref b79)] [(.int (3 : Int32))])) (fun _ kz => st88.trans kz) ?_
            refine Goes.via (S' := T88.setTop (mkF m 154 #[.val (.int p1), .val (.int p2), .val (.int p3), .val (.int p4), .val (.int (p1 &&& (3 : Int32))), .val (.int ((p2 &&& (65535 : Int32)).toUInt32.toUInt16.toUInt32.toInt32)), .val (.int ((p3 &&& (65535 : Int32)).toUInt32.toUInt16.toUInt32.toInt32)), .val (.int ((p4 &&& (65535 : Int32)).toUInt32.toUInt16.toUInt32.toInt32)), .val (.ref b64), .val (.ref b79), .val (.ref b79)] [(.ref b79), (.ref b79)])) (fun tz kz => ?_) ?_
            · show Steps p.tables e below (T88.setTop (mkF m 145 #[.val (.int p1), .val (.int p2), .val (.int p3), .val (.int p4), .val (.int (p1 &&& (3 : Int32))), .val (.int ((p2 &&& (65535 : Int32)).toUInt32.toUInt16.toUInt32.toInt32)), .val (.int ((p3 &&& (65535 : Int32)).toUInt32.toUInt16.toUInt32.toInt32)), .val (.int ((p4 &&& (65535 : Int32)).toUInt32.toUInt16.toUInt32.toInt32)), .val (.ref b64), .val (.ref b79), .val (.ref b79)] [(.int (3 : Int32))])) _
              refine XS.iload X88.here hx rfl (hb hby at_145) rfl ?_
              refine XS.icmpNo X88.here hx rfl (hb hby at_147) rfl (teq hnn.symm).2 ?_
              refine XS.aload X88.here hx rfl (hb hby at_150) rfl rfl ?_
              refine XS.aload X88.here hx rfl (hb hby at_152) rfl rfl ?_
              exact kz
            obtain ⟨cq89, kq89, q89a, q89b, q89c⟩ := isOf hZ e88 SS.1
            obtain ⟨_, _, ⟨T89, L89, k89, n89⟩, -, X89, ⟨Lc89, hQ89, l89, y89, z89⟩, st89⟩ := X88.virtualBack hx (y := (⟨"java/lang/String", "equals", "(Ljava/lang/Object;)Z"⟩ : MethodName)) (z := (⟨"java/lang/String", "equals", "(Ljava/lang/Object;)Z"⟩ : MethodName)) hown (mvT hZ (w_ hw 43 rfl)) (mvT hZ (w_ hw 44 rfl)) (notFace_of_selects (args := #[]) (mvT hZ (w_ hw 46 rfl))) (mvT hZ (w_ hw 46 rfl)) (mvT hZ (w_ hw 45 rfl)) (by decide) (backOf (W := 0) (rsame l Z a0 hw [] b79 T87.heap n0 Z3) hZ (w_ hw 47 rfl) (w_ hw 4 rfl) (by decide) (by decide)) q89a q89c (g := (mkF m 154 #[.val (.int p1), .val (.int p2), .val (.int p3), .val (.int p4), .val (.int (p1 &&& (3 : Int32))), .val (.int ((p2 &&& (65535 : Int32)).toUInt32.toUInt16.toUInt32.toInt32)), .val (.int ((p3 &&& (65535 : Int32)).toUInt32.toUInt16.toUInt32.toInt32)), .val (.int ((p4 &&& (65535 : Int32)).toUInt32.toUInt16.toUInt32.toInt32)), .val (.ref b64), .val (.ref b79), .val (.ref b79)] [(.ref b79), (.ref b79)])) rfl (by rw [hml]; rfl) (Steps.refl _) (argsL := [(.ref b79)]) (rest := []) (lenOf pd_21 rfl) rfl (by show 2 * 0 + _ ≤ _; exact Nat.le_of_eq rfl) (hb hby at_154) (fun _ _ => ⟨rfl, e88, (by decide : 6 + 0 ≤ _), (by decide : 44 + 0 ≤ _)⟩)
            dsimp only [Pt.U, Pt.locs, Pt.cells, Pt.slots] at X89 l89 y89 z89 st89 hQ89
            subst l89 y89 z89
            obtain ⟨rfl, N89, e89⟩ := hQ89
            have Nf89 := Fr.app Nf88 N89
            refine Goes.via (S' := T89.setTop (mkF m 157 #[.val (.int p1), .val (.int p2), .val (.int p3), .val (.int p4), .val (.int (p1 &&& (3 : Int32))), .val (.int ((p2 &&& (65535 : Int32)).toUInt32.toUInt16.toUInt32.toInt32)), .val (.int ((p3 &&& (65535 : Int32)).toUInt32.toUInt16.toUInt32.toInt32)), .val (.int ((p4 &&& (65535 : Int32)).toUInt32.toUInt16.toUInt32.toInt32)), .val (.ref b64), .val (.ref b79), .val (.ref b79)] [(.int (1 : Int32))])) (fun _ kz => st89.trans kz) ?_
            refine Goes.via (S' := T89.setTop (mkF m 165 #[.val (.int p1), .val (.int p2), .val (.int p3), .val (.int p4), .val (.int (p1 &&& (3 : Int32))), .val (.int ((p2 &&& (65535 : Int32)).toUInt32.toUInt16.toUInt32.toInt32)), .val (.int ((p3 &&& (65535 : Int32)).toUInt32.toUInt16.toUInt32.toInt32)), .val (.int ((p4 &&& (65535 : Int32)).toUInt32.toUInt16.toUInt32.toInt32)), .val (.ref b64), .val (.ref b79), .val (.ref b79)] [(.int (1 : Int32))])) (fun tz kz => ?_) ?_
            · show Steps p.tables e below (T89.setTop (mkF m 157 #[.val (.int p1), .val (.int p2), .val (.int p3), .val (.int p4), .val (.int (p1 &&& (3 : Int32))), .val (.int ((p2 &&& (65535 : Int32)).toUInt32.toUInt16.toUInt32.toInt32)), .val (.int ((p3 &&& (65535 : Int32)).toUInt32.toUInt16.toUInt32.toInt32)), .val (.int ((p4 &&& (65535 : Int32)).toUInt32.toUInt16.toUInt32.toInt32)), .val (.ref b64), .val (.ref b79), .val (.ref b79)] [(.int (1 : Int32))])) _
              refine XS.ifNo X89.here hx rfl (hb hby at_157) rfl ((if0 _ _).trans (feq (by first | decide | rfl)).1) ?_
              refine XS.iconst X89.here hx rfl (hb hby at_160) ?_
              refine XS.goto X89.here hx rfl (pc0 := 161) (pc' := 165) rfl (hb hby at_161) (by decide) (by decide) ?_
              exact kz
            exact Goes.retNH (s := s) (vm1 := T87.vm) X89 hx Bd.notSynchronized hS87 (Nat.le_refl _) e89 hZ hEL hC87 (t := .boolean) Bd.returns (by simp) (hb hby at_165) (Nat.le_of_ble_eq_true rfl) (Nat.le_of_ble_eq_true rfl) ⟨rfl, Nf89⟩
          · refine Goes.via (S' := T85.setTop (mkF m 127 #[.val (.int p1), .val (.int p2), .val (.int p3), .val (.int p4), .val (.int (p1 &&& (3 : Int32))), .val (.int ((p2 &&& (65535 : Int32)).toUInt32.toUInt16.toUInt32.toInt32)), .val (.int ((p3 &&& (65535 : Int32)).toUInt32.toUInt16.toUInt32.toInt32)), .val (.int ((p4 &&& (65535 : Int32)).toUInt32.toUInt16.toUInt32.toInt32)), .val (.ref b64), .val (.ref b79), .unset] [(.int (1 : Int32))])) (fun tz kz => ?_) ?_
            · show Steps p.tables e below (T85.setTop (mkF m 123 #[.val (.int p1), .val (.int p2), .val (.int p3), .val (.int p4), .val (.int (p1 &&& (3 : Int32))), .val (.int ((p2 &&& (65535 : Int32)).toUInt32.toUInt16.toUInt32.toInt32)), .val (.int ((p3 &&& (65535 : Int32)).toUInt32.toUInt16.toUInt32.toInt32)), .val (.int ((p4 &&& (65535 : Int32)).toUInt32.toUInt16.toUInt32.toInt32)), .val (.ref b64), .val (.ref b79), .unset] [(.int (nar .boolean (own_fs ((p2 &&& (65535 : Int32)).toUInt32.toUInt16.toUInt32.toInt32))))])) _
              refine XS.ifNo X85.here hx rfl (hb hby at_123) rfl ((if0 _ _).trans (feq hc123_86).1) ?_
              refine XS.iconst X85.here hx rfl (hb hby at_126) ?_
              exact kz
            exact Goes.retNH (s := s) (vm1 := s.vm) X85 hx Bd.notSynchronized ((State.WarmedH.refl s).since 0) hk84 e85 hZ hEL hC83 (t := .boolean) Bd.returns (by simp) (hb hby at_127) (Nat.le_of_ble_eq_true rfl) (Nat.le_of_ble_eq_true rfl) ⟨rfl, Nf85⟩
        · have Kf := K79.trans K82 (allS (Or.inr gh) all0)
          have O2 := O0.keep Kf all0
          have Z2 := Nat.le_trans Z0 Kf.1
          refine Goes.via (S' := T82.setTop (mkF m 120 #[.val (.int p1), .val (.int p2), .val (.int p3), .val (.int p4), .val (.int (p1 &&& (3 : Int32))), .val (.int ((p2 &&& (65535 : Int32)).toUInt32.toUInt16.toUInt32.toInt32)), .val (.int ((p3 &&& (65535 : Int32)).toUInt32.toUInt16.toUInt32.toInt32)), .val (.int ((p4 &&& (65535 : Int32)).toUInt32.toUInt16.toUInt32.toInt32)), .val (.ref b64), .val (.ref b79), .unset] [(.int ((p2 &&& (65535 : Int32)).toUInt32.toUInt16.toUInt32.toInt32))])) (fun tz kz => ?_) ?_
          · show Steps p.tables e below (T82.setTop (mkF m 111 #[.val (.int p1), .val (.int p2), .val (.int p3), .val (.int p4), .val (.int (p1 &&& (3 : Int32))), .val (.int ((p2 &&& (65535 : Int32)).toUInt32.toUInt16.toUInt32.toInt32)), .val (.int ((p3 &&& (65535 : Int32)).toUInt32.toUInt16.toUInt32.toInt32)), .val (.int ((p4 &&& (65535 : Int32)).toUInt32.toUInt16.toUInt32.toInt32)), .val (.ref b64), .unset, .unset] [(.ref b79)])) _
            refine XS.astore X82.here hx rfl (hb hby at_111) rfl rfl (l' := #[.val (.int p1), .val (.int p2), .val (.int p3), .val (.int p4), .val (.int (p1 &&& (3 : Int32))), .val (.int ((p2 &&& (65535 : Int32)).toUInt32.toUInt16.toUInt32.toInt32)), .val (.int ((p3 &&& (65535 : Int32)).toUInt32.toUInt16.toUInt32.toInt32)), .val (.int ((p4 &&& (65535 : Int32)).toUInt32.toUInt16.toUInt32.toInt32)), .val (.ref b64), .val (.ref b79), .unset]) rfl ?_
            refine XS.iload X82.here hx rfl (hb hby at_113) rfl ?_
            refine XS.ifNo X82.here hx rfl (hb hby at_115) rfl ((if0 _ _).trans (tlt (own_bge hnn (by decide))).2.2.2) ?_
            refine XS.iload X82.here hx rfl (hb hby at_118) rfl ?_
            exact kz
          obtain ⟨_, _, ⟨T90, L90, k90, n90⟩, -, X90, ⟨Lc90, hQ90, l90, y90, z90⟩, st90⟩ := Jvm.LawKit.callS X82 hx (y := (⟨"com/example/vestline/vestline/format/CsvPrintablePinLaw", "formulaStart", "(C)Z"⟩ : MethodName)) hown (mvT hZ (w_ hw 58 rfl)) (mvT hZ (w_ hw 59 rfl)) (mvT hZ (w_ hw 60 rfl)) (mvT hZ (w_ hw 61 rfl)) (by decide) (backOf (W := 0) (rfs l Z a0 hw [] ((p2 &&& (65535 : Int32)).toUInt32.toUInt16.toUInt32.toInt32) T82.heap n0 Z2) hZ (w_ hw 61 rfl) (w_ hw 60 rfl) (by decide) (by decide)) (g := (mkF m 120 #[.val (.int p1), .val (.int p2), .val (.int p3), .val (.int p4), .val (.int (p1 &&& (3 : Int32))), .val (.int ((p2 &&& (65535 : Int32)).toUInt32.toUInt16.toUInt32.toInt32)), .val (.int ((p3 &&& (65535 : Int32)).toUInt32.toUInt16.toUInt32.toInt32)), .val (.int ((p4 &&& (65535 : Int32)).toUInt32.toUInt16.toUInt32.toInt32)), .val (.ref b64), .val (.ref b79), .unset] [(.int ((p2 &&& (65535 : Int32)).toUInt32.toUInt16.toUInt32.toInt32))])) rfl (by rw [hml]; rfl) (argsL := [(.int ((p2 &&& (65535 : Int32)).toUInt32.toUInt16.toUInt32.toInt32))]) (rest := []) (lenOf pd_22 rfl) rfl (by show 2 * 0 + _ ≤ _; exact Nat.le_of_eq rfl) (hb hby at_120) (fun _ _ => ⟨rfl, rfl, (by decide : 4 + 0 ≤ _), (by decide : 16 + 0 ≤ _)⟩)
          dsimp only [Pt.U, Pt.locs, Pt.cells, Pt.slots] at X90 l90 y90 z90 st90 hQ90
          subst l90 y90 z90
          obtain ⟨rfl, N90, e90⟩ := hQ90
          have Nf90 := Fr.app Nf82 N90
          refine Goes.via (S' := T90.setTop (mkF m 123 #[.val (.int p1), .val (.int p2), .val (.int p3), .val (.int p4), .val (.int (p1 &&& (3 : Int32))), .val (.int ((p2 &&& (65535 : Int32)).toUInt32.toUInt16.toUInt32.toInt32)), .val (.int ((p3 &&& (65535 : Int32)).toUInt32.toUInt16.toUInt32.toInt32)), .val (.int ((p4 &&& (65535 : Int32)).toUInt32.toUInt16.toUInt32.toInt32)), .val (.ref b64), .val (.ref b79), .unset] [(.int (nar .boolean (own_fs ((p2 &&& (65535 : Int32)).toUInt32.toUInt16.toUInt32.toInt32))))])) (st90) ?_
          by_cases hc123_91 : (nar .boolean (own_fs ((p2 &&& (65535 : Int32)).toUInt32.toUInt16.toUInt32.toInt32))) = (0 : Int32)
          · refine Goes.via (S' := T90.setTop (mkF m 130 #[.val (.int p1), .val (.int p2), .val (.int p3), .val (.int p4), .val (.int (p1 &&& (3 : Int32))), .val (.int ((p2 &&& (65535 : Int32)).toUInt32.toUInt16.toUInt32.toInt32)), .val (.int ((p3 &&& (65535 : Int32)).toUInt32.toUInt16.toUInt32.toInt32)), .val (.int ((p4 &&& (65535 : Int32)).toUInt32.toUInt16.toUInt32.toInt32)), .val (.ref b64), .val (.ref b79), .unset] [(.ref b79)])) (fun tz kz => ?_) ?_
            · show Steps p.tables e below (T90.setTop (mkF m 123 #[.val (.int p1), .val (.int p2), .val (.int p3), .val (.int p4), .val (.int (p1 &&& (3 : Int32))), .val (.int ((p2 &&& (65535 : Int32)).toUInt32.toUInt16.toUInt32.toInt32)), .val (.int ((p3 &&& (65535 : Int32)).toUInt32.toUInt16.toUInt32.toInt32)), .val (.int ((p4 &&& (65535 : Int32)).toUInt32.toUInt16.toUInt32.toInt32)), .val (.ref b64), .val (.ref b79), .unset] [(.int (nar .boolean (own_fs ((p2 &&& (65535 : Int32)).toUInt32.toUInt16.toUInt32.toInt32))))])) _
              refine XS.ifYes X90.here hx rfl (pc0 := 123) (pc' := 128) rfl (hb hby at_123) rfl ((if0 _ _).trans (teq hc123_91).1) (by decide) (by decide) ?_
              refine XS.aload X90.here hx rfl (hb hby at_128) rfl rfl ?_
              exact kz
            obtain ⟨_, _, ⟨T92, L92, k92, n92⟩, -, X92, hs92, gs92, ⟨Lc92, hQ92, l92, y92, z92, hc92⟩, st92⟩ := callSS (show Stand p l e _ (s.setVm s.vm) m _ below meth c _ _ _ _ from X90) hx (y := (⟨"com/example/vestline/vestline/format/Csv", "printable", "(Ljava/lang/String;)Ljava/lang/String;"⟩ : MethodName)) hown (mvT hZ (w_ hw 23 rfl)) (mvT hZ (w_ hw 24 rfl)) (mvT hZ (w_ hw 25 rfl)) (mvT hZ (w_ hw 26 rfl)) (by decide) (backOfSH (s := s) (vm0 := s.vm) (W := 0) (rpr_U l Z a0 hw [] b79 vb kb cs (6 : Int32) (3 : Int32) ((p2 &&& (65535 : Int32)).toUInt32.toUInt16.toUInt32.toInt32) fv _ T82.heap n0 Z2 SC hcs O2 SF hfv SA SH SL ST (own_nc _) (own_nff (own_nc _) hc123_91) rfl ⟨by decide, by decide⟩ ⟨by decide, by decide⟩ ⟨by decide, by decide⟩ rfl rfl (by decide)) hZ (w_ hw 26 rfl) (w_ hw 25 rfl) (by decide) (by decide) hEL hC83.1) (g := (mkF m 130 #[.val (.int p1), .val (.int p2), .val (.int p3), .val (.int p4), .val (.int (p1 &&& (3 : Int32))), .val (.int ((p2 &&& (65535 : Int32)).toUInt32.toUInt16.toUInt32.toInt32)), .val (.int ((p3 &&& (65535 : Int32)).toUInt32.toUInt16.toUInt32.toInt32)), .val (.int ((p4 &&& (65535 : Int32)).toUInt32.toUInt16.toUInt32.toInt32)), .val (.ref b64), .val (.ref b79), .unset] [(.ref b79)])) rfl (by rw [hml]; rfl) (argsL := [(.ref b79)]) (rest := []) (lenOf pd_20 rfl) rfl (by show 2 * 0 + _ ≤ _; exact Nat.le_of_eq rfl) (hb hby at_130) (fun _ _ => ⟨rfl, e90, (by decide : 4 + 2 ≤ _), (by decide : 16 + 28 ≤ _)⟩)
            dsimp only [Pt.U, Pt.locs, Pt.cells, Pt.slots] at X92 l92 y92 z92 st92 hQ92 hs92 gs92 hc92
            subst l92 y92 z92
            obtain ⟨rfl, N92, K92⟩ := hQ92
            rw [e90] at gs92
            have hS92 : s.Since T92.vm T92.heap.size := own_fold ((State.WarmedH.refl s).since 0) hk84 hs92 gs92
            have hC92 := hC83.trans hc92
            have hZ : Z.Warmed39 (s.setVm T92.vm).vm := State.Warmed39.trans (t := s.setVm s.vm) hZ hs92.1
            have hown : (s.setVm T92.vm).vm.findClass "com/example/vestline/vestline/format/CsvPrintablePinLaw" = some m.cls := by rw [show (s.setVm T92.vm).vm = T92.vm from rfl, hs92.1.alike.findClass]; exact hown
            have Nf92 := Fr.app Nf90 N92
            refine Goes.via (S' := T92.setTop (mkF m 133 #[.val (.int p1), .val (.int p2), .val (.int p3), .val (.int p4), .val (.int (p1 &&& (3 : Int32))), .val (.int ((p2 &&& (65535 : Int32)).toUInt32.toUInt16.toUInt32.toInt32)), .val (.int ((p3 &&& (65535 : Int32)).toUInt32.toUInt16.toUInt32.toInt32)), .val (.int ((p4 &&& (65535 : Int32)).toUInt32.toUInt16.toUInt32.toInt32)), .val (.ref b64), .val (.ref b79), .unset] [(.ref b79)])) (fun _ kz => st92.trans kz) ?_
            have SS := ST.keep K92 nin0 nin0
            have Kg := Kf.trans K92 all0
            have O3 := O0.keep Kg all0
            have Z3 := Nat.le_trans Z0 Kg.1
            refine Goes.via (S' := T92.setTop (mkF m 142 #[.val (.int p1), .val (.int p2), .val (.int p3), .val (.int p4), .val (.int (p1 &&& (3 : Int32))), .val (.int ((p2 &&& (65535 : Int32)).toUInt32.toUInt16.toUInt32.toInt32)), .val (.int ((p3 &&& (65535 : Int32)).toUInt32.toUInt16.toUInt32.toInt32)), .val (.int ((p4 &&& (65535 : Int32)).toUInt32.toUInt16.toUInt32.toInt32)), .val (.ref b64), .val (.ref b79), .val (.ref b79)] [(.ref b79)])) (fun tz kz => ?_) ?_
            · show Steps p.tables e below (T92.setTop (mkF m 133 #[.val (.int p1), .val (.int p2), .val (.int p3), .val (.int p4), .val (.int (p1 &&& (3 : Int32))), .val (.int ((p2 &&& (65535 : Int32)).toUInt32.toUInt16.toUInt32.toInt32)), .val (.int ((p3 &&& (65535 : Int32)).toUInt32.toUInt16.toUInt32.toInt32)), .val (.int ((p4 &&& (65535 : Int32)).toUInt32.toUInt16.toUInt32.toInt32)), .val (.ref b64), .val (.ref b79), .unset] [(.ref b79)])) _
              refine XS.astore X92.here hx rfl (hb hby at_133) rfl rfl (l' := #[.val (.int p1), .val (.int p2), .val (.int p3), .val (.int p4), .val (.int (p1 &&& (3 : Int32))), .val (.int ((p2 &&& (65535 : Int32)).toUInt32.toUInt16.toUInt32.toInt32)), .val (.int ((p3 &&& (65535 : Int32)).toUInt32.toUInt16.toUInt32.toInt32)), .val (.int ((p4 &&& (65535 : Int32)).toUInt32.toUInt16.toUInt32.toInt32)), .val (.ref b64), .val (.ref b79), .val (.ref b79)]) rfl ?_
              refine XS.aload X92.here hx rfl (hb hby at_135) rfl rfl ?_
              refine XS.ifnullNo X92.here hx rfl (hb hby at_137) rfl ?_
              refine XS.aload X92.here hx rfl (hb hby at_140) rfl rfl ?_
              exact kz
            obtain ⟨cq93, kq93, q93a, q93b, q93c⟩ := isOf hZ rfl SS.1
            obtain ⟨_, _, ⟨T93, L93, k93, n93⟩, -, X93, ⟨Lc93, hQ93, l93, y93, z93⟩, st93⟩ := X92.virtualBack hx (y := (⟨"java/lang/String", "length", "()I"⟩ : MethodName)) (z := (⟨"java/lang/String", "length", "()I"⟩ : MethodName)) hown (mvT hZ (w_ hw 32 rfl)) (mvT hZ (w_ hw 33 rfl)) (notFace_of_selects (args := #[]) (mvT hZ (w_ hw 35 rfl))) (mvT hZ (w_ hw 35 rfl)) (mvT hZ (w_ hw 34 rfl)) (by decide) (backOf (W := 0) (rlen l Z a0 hw [] b79 vb kb cs (1 : Int32) (6 : Int32) (3 : Int32) _ T92.heap n0 Z3 SC hcs O3 SS.1 SS.2.1 SS.2.2.1 SS.2.2.2 rfl rfl) hZ (w_ hw 36 rfl) (w_ hw 4 rfl) (by decide) (by decide)) q93a q93c (g := (mkF m 142 #[.val (.int p1), .val (.int p2), .val (.int p3), .val (.int p4), .val (.int (p1 &&& (3 : Int32))), .val (.int ((p2 &&& (65535 : Int32)).toUInt32.toUInt16.toUInt32.toInt32)), .val (.int ((p3 &&& (65535 : Int32)).toUInt32.toUInt16.toUInt32.toInt32)), .val (.int ((p4 &&& (65535 : Int32)).toUInt32.toUInt16.toUInt32.toInt32)), .val (.ref b64), .val (.ref b79), .val (.ref b79)] [(.ref b79)])) rfl (by rw [hml]; rfl) (Steps.refl _) (argsL := []) (rest := []) (lenOf pd_17 rfl) rfl (by show 2 * 0 + _ ≤ _; exact Nat.le_of_eq rfl) (hb hby at_142) (fun _ _ => ⟨rfl, rfl, (by decide : 6 + 0 ≤ _), (by decide : 44 + 0 ≤ _)⟩)
            dsimp only [Pt.U, Pt.locs, Pt.cells, Pt.slots] at X93 l93 y93 z93 st93 hQ93
            subst l93 y93 z93
            obtain ⟨rfl, N93, e93⟩ := hQ93
            have Nf93 := Fr.app Nf92 N93
            refine Goes.via (S' := T93.setTop (mkF m 145 #[.val (.int p1), .val (.int p2), .val (.int p3), .val (.int p4), .val (.int (p1 &&& (3 : Int32))), .val (.int ((p2 &&& (65535 : Int32)).toUInt32.toUInt16.toUInt32.toInt32)), .val (.int ((p3 &&& (65535 : Int32)).toUInt32.toUInt16.toUInt32.toInt32)), .val (.int ((p4 &&& (65535 : Int32)).toUInt32.toUInt16.toUInt32.toInt32)), .val (.ref b64), .val (.ref b79), .val (.ref b79)] [(.int (3 : Int32))])) (fun _ kz => st93.trans kz) ?_
            refine Goes.via (S' := T93.setTop (mkF m 154 #[.val (.int p1), .val (.int p2), .val (.int p3), .val (.int p4), .val (.int (p1 &&& (3 : Int32))), .val (.int ((p2 &&& (65535 : Int32)).toUInt32.toUInt16.toUInt32.toInt32)), .val (.int ((p3 &&& (65535 : Int32)).toUInt32.toUInt16.toUInt32.toInt32)), .val (.int ((p4 &&& (65535 : Int32)).toUInt32.toUInt16.toUInt32.toInt32)), .val (.ref b64), .val (.ref b79), .val (.ref b79)] [(.ref b79), (.ref b79)])) (fun tz kz => ?_) ?_
            · show Steps p.tables e below (T93.setTop (mkF m 145 #[.val (.int p1), .val (.int p2), .val (.int p3), .val (.int p4), .val (.int (p1 &&& (3 : Int32))), .val (.int ((p2 &&& (65535 : Int32)).toUInt32.toUInt16.toUInt32.toInt32)), .val (.int ((p3 &&& (65535 : Int32)).toUInt32.toUInt16.toUInt32.toInt32)), .val (.int ((p4 &&& (65535 : Int32)).toUInt32.toUInt16.toUInt32.toInt32)), .val (.ref b64), .val (.ref b79), .val (.ref b79)] [(.int (3 : Int32))])) _
              refine XS.iload X93.here hx rfl (hb hby at_145) rfl ?_
              refine XS.icmpNo X93.here hx rfl (hb hby at_147) rfl (teq hnn.symm).2 ?_
              refine XS.aload X93.here hx rfl (hb hby at_150) rfl rfl ?_
              refine XS.aload X93.here hx rfl (hb hby at_152) rfl rfl ?_
              exact kz
            obtain ⟨cq94, kq94, q94a, q94b, q94c⟩ := isOf hZ e93 SS.1
            obtain ⟨_, _, ⟨T94, L94, k94, n94⟩, -, X94, ⟨Lc94, hQ94, l94, y94, z94⟩, st94⟩ := X93.virtualBack hx (y := (⟨"java/lang/String", "equals", "(Ljava/lang/Object;)Z"⟩ : MethodName)) (z := (⟨"java/lang/String", "equals", "(Ljava/lang/Object;)Z"⟩ : MethodName)) hown (mvT hZ (w_ hw 43 rfl)) (mvT hZ (w_ hw 44 rfl)) (notFace_of_selects (args := #[]) (mvT hZ (w_ hw 46 rfl))) (mvT hZ (w_ hw 46 rfl)) (mvT hZ (w_ hw 45 rfl)) (by decide) (backOf (W := 0) (rsame l Z a0 hw [] b79 T92.heap n0 Z3) hZ (w_ hw 47 rfl) (w_ hw 4 rfl) (by decide) (by decide)) q94a q94c (g := (mkF m 154 #[.val (.int p1), .val (.int p2), .val (.int p3), .val (.int p4), .val (.int (p1 &&& (3 : Int32))), .val (.int ((p2 &&& (65535 : Int32)).toUInt32.toUInt16.toUInt32.toInt32)), .val (.int ((p3 &&& (65535 : Int32)).toUInt32.toUInt16.toUInt32.toInt32)), .val (.int ((p4 &&& (65535 : Int32)).toUInt32.toUInt16.toUInt32.toInt32)), .val (.ref b64), .val (.ref b79), .val (.ref b79)] [(.ref b79), (.ref b79)])) rfl (by rw [hml]; rfl) (Steps.refl _) (argsL := [(.ref b79)]) (rest := []) (lenOf pd_21 rfl) rfl (by show 2 * 0 + _ ≤ _; exact Nat.le_of_eq rfl) (hb hby at_154) (fun _ _ => ⟨rfl, e93, (by decide : 6 + 0 ≤ _), (by decide : 44 + 0 ≤ _)⟩)
            dsimp only [Pt.U, Pt.locs, Pt.cells, Pt.slots] at X94 l94 y94 z94 st94 hQ94
            subst l94 y94 z94
            obtain ⟨rfl, N94, e94⟩ := hQ94
            have Nf94 := Fr.app Nf93 N94
            refine Goes.via (S' := T94.setTop (mkF m 157 #[.val (.int p1), .val (.int p2), .val (.int p3), .val (.int p4), .val (.int (p1 &&& (3 : Int32))), .val (.int ((p2 &&& (65535 : Int32)).toUInt32.toUInt16.toUInt32.toInt32)), .val (.int ((p3 &&& (65535 : Int32)).toUInt32.toUInt16.toUInt32.toInt32)), .val (.int ((p4 &&& (65535 : Int32)).toUInt32.toUInt16.toUInt32.toInt32)), .val (.ref b64), .val (.ref b79), .val (.ref b79)] [(.int (1 : Int32))])) (fun _ kz => st94.trans kz) ?_
            refine Goes.via (S' := T94.setTop (mkF m 165 #[.val (.int p1), .val (.int p2), .val (.int p3), .val (.int p4), .val (.int (p1 &&& (3 : Int32))), .val (.int ((p2 &&& (65535 : Int32)).toUInt32.toUInt16.toUInt32.toInt32)), .val (.int ((p3 &&& (65535 : Int32)).toUInt32.toUInt16.toUInt32.toInt32)), .val (.int ((p4 &&& (65535 : Int32)).toUInt32.toUInt16.toUInt32.toInt32)), .val (.ref b64), .val (.ref b79), .val (.ref b79)] [(.int (1 : Int32))])) (fun tz kz => ?_) ?_
            · show Steps p.tables e below (T94.setTop (mkF m 157 #[.val (.int p1), .val (.int p2), .val (.int p3), .val (.int p4), .val (.int (p1 &&& (3 : Int32))), .val (.int ((p2 &&& (65535 : Int32)).toUInt32.toUInt16.toUInt32.toInt32)), .val (.int ((p3 &&& (65535 : Int32)).toUInt32.toUInt16.toUInt32.toInt32)), .val (.int ((p4 &&& (65535 : Int32)).toUInt32.toUInt16.toUInt32.toInt32)), .val (.ref b64), .val (.ref b79), .val (.ref b79)] [(.int (1 : Int32))])) _
              refine XS.ifNo X94.here hx rfl (hb hby at_157) rfl ((if0 _ _).trans (feq (by first | decide | rfl)).1) ?_
              refine XS.iconst X94.here hx rfl (hb hby at_160) ?_
              refine XS.goto X94.here hx rfl (pc0 := 161) (pc' := 165) rfl (hb hby at_161) (by decide) (by decide) ?_
              exact kz
            exact Goes.retNH (s := s) (vm1 := T92.vm) X94 hx Bd.notSynchronized hS92 (Nat.le_refl _) e94 hZ hEL hC92 (t := .boolean) Bd.returns (by simp) (hb hby at_165) (Nat.le_of_ble_eq_true rfl) (Nat.le_of_ble_eq_true rfl) ⟨rfl, Nf94⟩
          · refine Goes.via (S' := T90.setTop (mkF m 127 #[.val (.int p1), .val (.int p2), .val (.int p3), .val (.int p4), .val (.int (p1 &&& (3 : Int32))), .val (.int ((p2 &&& (65535 : Int32)).toUInt32.toUInt16.toUInt32.toInt32)), .val (.int ((p3 &&& (65535 : Int32)).toUInt32.toUInt16.toUInt32.toInt32)), .val (.int ((p4 &&& (65535 : Int32)).toUInt32.toUInt16.toUInt32.toInt32)), .val (.ref b64), .val (.ref b79), .unset] [(.int (1 : Int32))])) (fun tz kz => ?_) ?_
            · show Steps p.tables e below (T90.setTop (mkF m 123 #[.val (.int p1), .val (.int p2), .val (.int p3), .val (.int p4), .val (.int (p1 &&& (3 : Int32))), .val (.int ((p2 &&& (65535 : Int32)).toUInt32.toUInt16.toUInt32.toInt32)), .val (.int ((p3 &&& (65535 : Int32)).toUInt32.toUInt16.toUInt32.toInt32)), .val (.int ((p4 &&& (65535 : Int32)).toUInt32.toUInt16.toUInt32.toInt32)), .val (.ref b64), .val (.ref b79), .unset] [(.int (nar .boolean (own_fs ((p2 &&& (65535 : Int32)).toUInt32.toUInt16.toUInt32.toInt32))))])) _
              refine XS.ifNo X90.here hx rfl (hb hby at_123) rfl ((if0 _ _).trans (feq hc123_91).1) ?_
              refine XS.iconst X90.here hx rfl (hb hby at_126) ?_
              exact kz
            exact Goes.retNH (s := s) (vm1 := s.vm) X90 hx Bd.notSynchronized ((State.WarmedH.refl s).since 0) hk84 e90 hZ hEL hC83 (t := .boolean) Bd.returns (by simp) (hb hby at_127) (Nat.le_of_ble_eq_true rfl) (Nat.le_of_ble_eq_true rfl) ⟨rfl, Nf90⟩
theorem own_cs {args : Array Value} {s : State} {t : Jvm.Term} {x : Int32} (ev : t.eval args s none [] s = some (.int x)) (h : (Jvm.Cond.not (Jvm.Cond.eq t (Jvm.Term.int 0))).value args s none s [] = some true) : ¬ x = (0 : Int32) := by
  rintro rfl
  have q := not_v h
  simp [Cond.value, ev, Term.int_eval] at q
theorem own_isr {args : Array Value} {s : State} {t : Jvm.Term} (h : (Jvm.Cond.isRef t).value args s none s [] = some true) : ∃ v, t.eval args s none [] s = some v ∧ v.isRef = true := by
  simp only [Cond.value] at h
  cases ht : t.eval args s none [] s with
  | none => simp [ht] at h
  | some x => exact ⟨x, rfl, by rw [ht] at h; cases x <;> simp [Value.isRef] at h ⊢⟩
set_option maxRecDepth 65536 in
set_option maxHeartbeats 40000000 in
theorem comes_1 {Post : Tables → Env → Array Value → State → Outcome → State → Prop} (hpost : ∀ tb e args s v u, (limb_1_1.after args s (.returned v) u = true ∧ limb_1_2.after args s (.returned v) u = true ∧ True) → ReturnedEndW s (.returned v) u (Jvm.fieldLocs frame_1_writes args s ++ Jvm.arrayLocs frame_1_arrays args s ++ Jvm.staticLocs frame_1_statics s) 24 2176 → Post tb e args s (.returned v) u) :
    ArmFor flags0 classFile x code maxLocals ret World_1 tables_1 room_1 Calls_1 rest_1 Pre_1 Post := by
  intro l hfl _ _ p e ha hc hk s m args below hf hA hF happ hP
  obtain ⟨hcalls, hrest, hpre⟩ := hP
  obtain ⟨-, -, -, hnamed, -, -, -, hat⟩ := (Spec.applies_iff hf).mp happ
  obtain ⟨hg, hn⟩ := and_e (Cond.before_iff.mp (show (Jvm.Cond.and given_1 narrow_1).before args s = true from hpre))
  obtain ⟨hcnt, gg0⟩ := and_e hg
  obtain ⟨ga0, gg1⟩ := and_e gg0
  obtain ⟨ga1, gg2⟩ := and_e gg1
  obtain ⟨ga2, gg3⟩ := and_e gg2
  obtain ⟨w0, w1, w2, w3, rfl⟩ : ∃ w0 w1 w2 w3 : Value, args = #[w0, w1, w2, w3] := by
    have hs : args.size = 4 := by simpa [Cond.value, given_1] using hcnt
    obtain ⟨L⟩ := args
    match L, hs with
    | [w0, w1, w2, w3], _ => exact ⟨w0, w1, w2, w3, rfl⟩
  have hw := fun d (hd : d ∈ tables_1) => atoms_spec (ws := Jvm.Cond.code x code maxLocals ret :: tables_1) hat d (List.mem_cons_of_mem _ hd)
  have hfit : Fit s := fun {y c} hc i hi => by
    obtain ⟨ha, rfl⟩ := Array.getElem?_eq_some_iff.mp hc
    have q := List.all_eq_true.mp ((Array.all_eq_true_iff_forall_mem.mp hF) _ (Array.getElem_mem ha)) i (List.mem_range.mpr hi)
    simpa [Array.getElem?_eq_getElem hi] using q
  obtain ⟨i0, ei0⟩ := is_v ga0
  obtain rfl : w0 = (.int i0) := Option.some.inj ei0
  obtain ⟨i1, ei1⟩ := is_v ga1
  obtain rfl : w1 = (.int i1) := Option.some.inj ei1
  obtain ⟨i2, ei2⟩ := is_v ga2
  obtain rfl : w2 = (.int i2) := Option.some.inj ei2
  obtain ⟨i3, ei3⟩ := is_v gg3
  obtain rfl : w3 = (.int i3) := Option.some.inj ei3
  obtain ⟨hsets, hown0⟩ := atoms_of _ (rest_1_c_eq ▸ (show rest_1_c.before _ s = true from hrest))
  obtain ⟨cs, evc⟩ := is_v (Cond.before_iff.mp (hsets _ (List.mem_of_getElem? (i := 1) rfl)))
  have SC := Sta.start evc (Or.inl (hsets _ (List.mem_of_getElem? (i := 0) rfl)))
  have hcs : ¬ cs = (0 : Int32) := own_cs evc (Cond.before_iff.mp (hsets _ (List.mem_of_getElem? (i := 2) rfl)))
  have SA := Sta.start (eqv_i (Term.int_eval (1)) (Cond.before_iff.mp (hsets _ (List.mem_of_getElem? (i := 12) rfl)))) (Or.inl (hsets _ (List.mem_of_getElem? (i := 11) rfl)))
  have SH := Sta.start (eqv_i (Term.int_eval (0)) (Cond.before_iff.mp (hsets _ (List.mem_of_getElem? (i := 15) rfl)))) (Or.inl (hsets _ (List.mem_of_getElem? (i := 14) rfl)))
  have SL := Sta.start (eqv_i (Term.int_eval (8)) (Cond.before_iff.mp (hsets _ (List.mem_of_getElem? (i := 18) rfl)))) (Or.inl (hsets _ (List.mem_of_getElem? (i := 17) rfl)))
  obtain ⟨fv, evf, hfv⟩ := own_isr (Cond.before_iff.mp (hsets _ (List.mem_of_getElem? (i := 8) rfl)))
  have SF := Sta.start evf (Or.inl (hsets _ (List.mem_of_getElem? (i := 7) rfl)))
  have hCH := CHv.start (own_EW hw) (fun p hp => hcalls.1 p hp) (hsets _ (List.mem_of_getElem? (i := 2) rfl)) (w_ hw 16 rfl) (w_ hw 3 rfl)
  obtain ⟨n, o, h1, h2, h3, _, L, rfl, ⟨rfl, N⟩, -, hq⟩ := rm0 l s _ hw tables_1 i0 i1 i2 i3 cs fv s.heap s.heap.size (Nat.le_refl _) SC hcs (Old.start s) SF hfv SA SH SL p e ha hc hk s m _ below hf ((Spec.applies_iff_loose hf).mp happ).1 ⟨rfl, State.Warmed39.refl s, rfl, hCH⟩ trivial
  refine ⟨n, _, h1, h2, h3, hpost _ _ _ _ _ _ ⟨Cond.after_iff.mpr rfl, Cond.after_iff.mpr (eq_i res_at (Term.int_eval (1)) rfl), trivial⟩ ⟨hq.1, hq.2.1, hq.2.2.1, (hq.2.2.2.sift fun y hy => Or.inr (N y hy)).mono (by decide) (by decide)⟩⟩
theorem main_1_1 : Claimed_1_1 := comes_1 fun _ _ _ _ _ _ h hF => ⟨h.1, hF⟩
theorem main_1_2 : Claimed_1_2 := comes_1 fun _ _ _ _ _ _ h hF => ⟨h.2.1, hF⟩
end Jvm.Pilot.@@N@@
namespace Jvm.Pilot.@@N@@
open Jvm Jvm.ClassFile Sem Op Lib Jvm.Free Jvm.Stand Jvm.Pilot.@@N@@.Jvm.D
/-! MADE BY PROGRAM (witnessworld.py) out of the Statement's table words and the real class files: 21 classes; the members and pool entries that the words name. The judged class is class 1, her method 2. -/
namespace start1
open Jvm.ClassFile
def u (s : String) : CpInfo := .utf8 (stringToUtf16 s)
/-- a pool by its gaps: so many unusable entries, then the entry; so many at the end -/
def gap : Nat → List CpInfo → List CpInfo
  | 0, r => r
  | n + 1, r => .unusable :: gap n r
def poolList (es : List (Nat × CpInfo)) (last : Nat) : List CpInfo := es.foldr (fun e r => gap e.1 (e.2 :: r)) (gap last [])
def pool (es : List (Nat × CpInfo)) (last : Nat) : Array CpInfo := ⟨poolList es last⟩
def fileOf (pool : Array CpInfo) (this : Nat) (attrs : Array Attribute := #[]) (ms : Array MethodInfo := #[]) (fl : Nat := 33) (sup : Nat := 0) (ifs : Array Nat := #[]) (fds : Array FieldInfo := #[]) : ClassFile where
  minorVersion := 0
  majorVersion := 65
  constantPool := pool
  accessFlags := fl
  thisClass := this
  superClass := sup
  interfaces := ifs
  fields := fds
  methods := ms
  attributes := attrs
def plain (name : String) (sup : Option ClassId) : Class where
  name := name
  kind := .ordinary
  loader := none
  accessFlags := 33
  super := sup
  interfaces := #[]
  cf := none
  fields := #[]
  methods := #[]
  instanceTypes := #[]
  staticTypes := #[]
  resolved := #[]
  callSites := []
  init := .initialized
  statics := none
  mirror := none

def pool0 : Array CpInfo := pool [(5, u "<init>"), (0, u "()V"), (1, .class_ 10), (1, u "java/lang/Object")] 113

def k0c0 : Code := { maxStack := 0, maxLocals := 1, code := object_method_1_code, exceptionTable := #[], attributes := #[] }
def k0m0 : Method := { name := "<init>", desc := "()V", sig := { parameters := [], returnType := none }, accessFlags := 1, code := some k0c0 }
/-- java/lang/Object -/
def k0 : Class := { plain "java/lang/Object" none with
  accessFlags := 33
  interfaces := #[]
  cf := some (fileOf pool0 8 #[] #[{ accessFlags := 1, nameIndex := 5, descriptorIndex := 6, attributes := #[] }] 33 0 #[] #[])
  fields := #[]
  methods := #[k0m0]
  instanceTypes := #[]
  staticTypes := #[]
  resolved := Array.replicate 124 none
  statics := none }

def pool1 : Array CpInfo := pool [(2, .class_ 4), (1, u "java/lang/Object"), (0, u "<init>"), (0, u "()V"), (0, .integer 65535), (0, .class_ 9), (0, u "java/lang/String"), (0, .methodref 8 11), (0, .nameAndType 5 12), (0, u "([C)V"), (0, .methodref 14 15), (0, .class_ 16), (0, .nameAndType 17 18), (0, u "com/example/vestline/vestline/format/CsvPrintablePinLaw"), (0, u "formulaStart"), (0, u "(C)Z"), (0, .methodref 20 21), (0, .class_ 22), (0, .nameAndType 23 24), (0, u "com/example/vestline/vestline/format/Csv"), (0, u "printable"), (0, u "(Ljava/lang/String;)Ljava/lang/String;"), (0, .methodref 8 26), (0, .nameAndType 27 28), (0, u "length"), (0, u "()I"), (0, .methodref 8 30), (0, .nameAndType 31 32), (0, u "equals"), (0, u "(Ljava/lang/Object;)Z"), (3, u "law"), (0, u "(IIII)Z")] 4

def k1m0 : Method := { name := "<init>", desc := "()V", sig := { parameters := [], returnType := none }, accessFlags := 2, code := none }
def k1c1 : Code := { maxStack := 2, maxLocals := 1, code := method_2_code, exceptionTable := #[], attributes := #[] }
def k1m1 : Method := { name := "formulaStart", desc := "(C)Z", sig := { parameters := [.char], returnType := some .boolean }, accessFlags := 10, code := some k1c1 }
def k1c2 : Code := { maxStack := 4, maxLocals := 11, code := code, exceptionTable := #[], attributes := #[] }
def k1m2 : Method := { name := "law", desc := "(IIII)Z", sig := { parameters := [.int, .int, .int, .int], returnType := some .boolean }, accessFlags := 9, code := some k1c2 }
/-- com/example/vestline/vestline/format/CsvPrintablePinLaw -/
def k1 : Class := { plain "com/example/vestline/vestline/format/CsvPrintablePinLaw" (some 0) with
  accessFlags := 49
  interfaces := #[]
  cf := some (fileOf pool1 14 #[] #[{ accessFlags := 2, nameIndex := 5, descriptorIndex := 6, attributes := #[] }, { accessFlags := 10, nameIndex := 17, descriptorIndex := 18, attributes := #[] }, { accessFlags := 9, nameIndex := 36, descriptorIndex := 37, attributes := #[] }] 49 2 #[] #[])
  fields := #[]
  methods := #[k1m0, k1m1, k1m2]
  instanceTypes := #[]
  staticTypes := #[]
  resolved := Array.replicate 42 none
  statics := none }

def pool2 : Array CpInfo := pool [(1, .class_ 2), (0, u "java/io/Serializable"), (0, .class_ 4), (0, u "java/lang/Object")] 2

/-- java/io/Serializable -/
def k2 : Class := { plain "java/io/Serializable" (some 0) with
  accessFlags := 1537
  interfaces := #[]
  cf := some (fileOf pool2 1 #[] #[] 1537 3 #[] #[])
  fields := #[]
  methods := #[]
  instanceTypes := #[]
  staticTypes := #[]
  resolved := Array.replicate 7 none
  statics := none }

def pool3 : Array CpInfo := pool [(1, .class_ 2), (0, u "java/lang/Comparable"), (0, .class_ 4), (0, u "java/lang/Object")] 7

/-- java/lang/Comparable -/
def k3 : Class := { plain "java/lang/Comparable" (some 0) with
  accessFlags := 1537
  interfaces := #[]
  cf := some (fileOf pool3 1 #[] #[] 1537 3 #[] #[])
  fields := #[]
  methods := #[]
  instanceTypes := #[]
  staticTypes := #[]
  resolved := Array.replicate 12 none
  statics := none }

def pool4 : Array CpInfo := pool [(2, .class_ 4), (1, u "java/lang/CharSequence"), (42, .class_ 48), (0, u "java/lang/CharSequence$1CodePointIterator"), (10, .class_ 60), (0, u "java/lang/CharSequence$1CharIterator"), (5, .class_ 67), (0, u "java/lang/Object")] 63

/-- java/lang/CharSequence -/
def k4 : Class := { plain "java/lang/CharSequence" (some 0) with
  accessFlags := 1537
  interfaces := #[]
  cf := some (fileOf pool4 2 #[.nestMembers #[47, 59]] #[] 1537 66 #[] #[])
  fields := #[]
  methods := #[]
  instanceTypes := #[]
  staticTypes := #[]
  resolved := Array.replicate 131 none
  statics := none }

def pool5 : Array CpInfo := pool [(1, .class_ 2), (0, u "java/lang/constant/Constable"), (0, .class_ 4), (0, u "java/lang/Object")] 6

/-- java/lang/constant/Constable -/
def k5 : Class := { plain "java/lang/constant/Constable" (some 0) with
  accessFlags := 1537
  interfaces := #[]
  cf := some (fileOf pool5 1 #[] #[] 1537 3 #[] #[])
  fields := #[]
  methods := #[]
  instanceTypes := #[]
  staticTypes := #[]
  resolved := Array.replicate 11 none
  statics := none }

def pool6 : Array CpInfo := pool [(1, .class_ 2), (0, u "java/lang/constant/ConstantDesc"), (0, .class_ 4), (0, u "java/lang/Object")] 32

/-- java/lang/constant/ConstantDesc -/
def k6 : Class := { plain "java/lang/constant/ConstantDesc" (some 0) with
  accessFlags := 1537
  interfaces := #[]
  cf := some (fileOf pool6 1 #[] #[] 1537 3 #[] #[])
  fields := #[]
  methods := #[]
  instanceTypes := #[]
  staticTypes := #[]
  resolved := Array.replicate 37 none
  statics := none }

def pool7 : Array CpInfo := pool [(1, .methodref 2 3), (0, .class_ 4), (0, .nameAndType 5 6), (0, u "java/lang/Object"), (0, u "<init>"), (0, u "()V"), (0, .string 8), (0, u ""), (0, .fieldref 10 11), (0, .class_ 12), (0, .nameAndType 13 14), (0, u "java/lang/String"), (0, u "value"), (0, u "[B"), (0, .fieldref 10 16), (0, .nameAndType 17 18), (0, u "coder"), (0, u "B"), (2, u "hash"), (0, u "I"), (2, u "hashIsZero"), (0, u "Z"), (0, .methodref 10 28), (0, .nameAndType 5 29), (0, u "([CIILjava/lang/Void;)V"), (8, .fieldref 10 39), (0, .nameAndType 40 26), (0, u "COMPACT_STRINGS"), (1, .class_ 44), (1, u "java/lang/StringUTF16"), (0, u "compress"), (1, .methodref 42 48), (0, .nameAndType 49 50), (0, u "coderFromArrayLen"), (0, u "([BI)B"), (56, .class_ 109), (1, u "java/lang/StringLatin1"), (32, u "()Z"), (34, .methodref 42 178), (0, .nameAndType 45 179), (0, u "([CII)[B"), (154, u "()I"), (0, .methodref 10 336), (0, .nameAndType 17 337), (0, u "()B"), (25, u "([BI)C"), (27, u "(II)V"), (35, u "(I)C"), (64, .methodref 10 493), (0, .nameAndType 494 142), (0, u "isLatin1"), (0, .methodref 107 496), (0, .nameAndType 497 363), (0, u "charAt"), (0, .methodref 42 496), (2, u "checkIndex"), (3, .methodref 10 506), (0, .nameAndType 507 334), (0, u "length"), (35, u "equals"), (29, u "(Ljava/lang/Object;)Z"), (1, .class_ 576), (0, u "java/lang/CharSequence"), (22, u "CASE_INSENSITIVE_ORDER"), (0, u "Ljava/util/Comparator;"), (32, .methodref 10 634), (0, .nameAndType 635 636), (0, u "indexOf"), (0, u "(II)I"), (0, .methodref 107 638), (0, .nameAndType 635 639), (0, u "([BIII)I"), (52, u "isEmpty"), (72, u "(I)I"), (244, u "([C)V"), (42, .fieldref 1054 1055), (0, .class_ 1056), (0, .nameAndType 1057 1058), (0, u "jdk/internal/util/Preconditions"), (0, u "SIOOBE_FORMATTER"), (0, u "Ljava/util/function/BiFunction;"), (0, .methodref 1054 1060), (0, .nameAndType 501 1061), (0, u "(IILjava/util/function/BiFunction;)I"), (39, u "serialPersistentFields"), (0, u "[Ljava/io/ObjectStreamField;"), (0, .class_ 1104), (0, u "java/lang/String$CaseInsensitiveComparator"), (1, .class_ 1107), (0, u "java/io/Serializable"), (0, .class_ 1109), (0, u "java/lang/Comparable"), (0, .class_ 1111), (0, u "java/lang/constant/Constable"), (0, .class_ 1113), (0, u "java/lang/constant/ConstantDesc"), (2, u "serialVersionUID"), (0, u "J"), (3, u "REPL"), (0, u "C"), (2, u "LATIN1"), (1, u "UTF16")] 323

def k7m0 : Method := { name := "<init>", desc := "()V", sig := { parameters := [], returnType := none }, accessFlags := 1, code := none }
def k7c1 : Code := { maxStack := 5, maxLocals := 2, code := jdk_42_method_3_code, exceptionTable := #[], attributes := #[] }
def k7m1 : Method := { name := "<init>", desc := "([C)V", sig := { parameters := [(.array .char)], returnType := none }, accessFlags := 1, code := some k7c1 }
def k7c2 : Code := { maxStack := 2, maxLocals := 1, code := jdk_42_method_54_code, exceptionTable := #[], attributes := #[] }
def k7m2 : Method := { name := "length", desc := "()I", sig := { parameters := [], returnType := some .int }, accessFlags := 1, code := some k7c2 }
def k7c3 : Code := { maxStack := 1, maxLocals := 1, code := jdk_42_method_55_code, exceptionTable := #[], attributes := #[] }
def k7m3 : Method := { name := "isEmpty", desc := "()Z", sig := { parameters := [], returnType := some .boolean }, accessFlags := 1, code := some k7c3 }
def k7c4 : Code := { maxStack := 2, maxLocals := 2, code := jdk_42_method_56_code, exceptionTable := #[], attributes := #[] }
def k7m4 : Method := { name := "charAt", desc := "(I)C", sig := { parameters := [.int], returnType := some .char }, accessFlags := 1, code := some k7c4 }
def k7c5 : Code := { maxStack := 2, maxLocals := 3, code := jdk_42_method_66_code, exceptionTable := #[], attributes := #[] }
def k7m5 : Method := { name := "equals", desc := "(Ljava/lang/Object;)Z", sig := { parameters := [(.object "java/lang/Object")], returnType := some .boolean }, accessFlags := 1, code := some k7c5 }
def k7c6 : Code := { maxStack := 3, maxLocals := 2, code := jdk_42_method_79_code, exceptionTable := #[], attributes := #[] }
def k7m6 : Method := { name := "indexOf", desc := "(I)I", sig := { parameters := [.int], returnType := some .int }, accessFlags := 1, code := some k7c6 }
def k7c7 : Code := { maxStack := 4, maxLocals := 3, code := jdk_42_method_80_code, exceptionTable := #[], attributes := #[] }
def k7m7 : Method := { name := "indexOf", desc := "(II)I", sig := { parameters := [.int, .int], returnType := some .int }, accessFlags := 1, code := some k7c7 }
def k7c8 : Code := { maxStack := 4, maxLocals := 6, code := jdk_42_method_149_code, exceptionTable := #[], attributes := #[] }
def k7m8 : Method := { name := "<init>", desc := "([CIILjava/lang/Void;)V", sig := { parameters := [(.array .char), .int, .int, (.object "java/lang/Void")], returnType := none }, accessFlags := 2, code := some k7c8 }
def k7c9 : Code := { maxStack := 1, maxLocals := 1, code := jdk_42_method_152_code, exceptionTable := #[], attributes := #[] }
def k7m9 : Method := { name := "coder", desc := "()B", sig := { parameters := [], returnType := some .byte }, accessFlags := 0, code := some k7c9 }
def k7c10 : Code := { maxStack := 1, maxLocals := 1, code := jdk_42_method_154_code, exceptionTable := #[], attributes := #[] }
def k7m10 : Method := { name := "isLatin1", desc := "()Z", sig := { parameters := [], returnType := some .boolean }, accessFlags := 0, code := some k7c10 }
def k7c11 : Code := { maxStack := 3, maxLocals := 2, code := jdk_42_method_155_code, exceptionTable := #[], attributes := #[] }
def k7m11 : Method := { name := "checkIndex", desc := "(II)V", sig := { parameters := [.int, .int], returnType := none }, accessFlags := 8, code := some k7c11 }
/-- java/lang/String -/
def k7 : Class := { plain "java/lang/String" (some 0) with
  accessFlags := 49
  interfaces := #[2, 3, 4, 5, 6]
  cf := some (fileOf pool7 10 #[.nestMembers #[1103]] #[{ accessFlags := 1, nameIndex := 5, descriptorIndex := 6, attributes := #[] }, { accessFlags := 1, nameIndex := 5, descriptorIndex := 1010, attributes := #[] }, { accessFlags := 1, nameIndex := 507, descriptorIndex := 334, attributes := #[] }, { accessFlags := 1, nameIndex := 692, descriptorIndex := 142, attributes := #[] }, { accessFlags := 1, nameIndex := 497, descriptorIndex := 427, attributes := #[] }, { accessFlags := 1, nameIndex := 543, descriptorIndex := 573, attributes := #[] }, { accessFlags := 1, nameIndex := 635, descriptorIndex := 765, attributes := #[] }, { accessFlags := 1, nameIndex := 635, descriptorIndex := 636, attributes := #[] }, { accessFlags := 2, nameIndex := 5, descriptorIndex := 29, attributes := #[] }, { accessFlags := 0, nameIndex := 17, descriptorIndex := 337, attributes := #[] }, { accessFlags := 0, nameIndex := 494, descriptorIndex := 142, attributes := #[] }, { accessFlags := 8, nameIndex := 501, descriptorIndex := 391, attributes := #[] }] 49 2 #[1106, 1108, 575, 1110, 1112] #[{ accessFlags := 18, nameIndex := 13, descriptorIndex := 14, attributes := #[] }, { accessFlags := 18, nameIndex := 17, descriptorIndex := 18, attributes := #[] }, { accessFlags := 2, nameIndex := 21, descriptorIndex := 22, attributes := #[] }, { accessFlags := 2, nameIndex := 25, descriptorIndex := 26, attributes := #[] }, { accessFlags := 26, nameIndex := 1116, descriptorIndex := 1117, attributes := #[] }, { accessFlags := 24, nameIndex := 40, descriptorIndex := 26, attributes := #[] }, { accessFlags := 26, nameIndex := 1101, descriptorIndex := 1102, attributes := #[] }, { accessFlags := 26, nameIndex := 1121, descriptorIndex := 1122, attributes := #[] }, { accessFlags := 25, nameIndex := 599, descriptorIndex := 600, attributes := #[] }, { accessFlags := 24, nameIndex := 1125, descriptorIndex := 18, attributes := #[] }, { accessFlags := 24, nameIndex := 1127, descriptorIndex := 18, attributes := #[] }])
  fields := #[{ name := "value", type := (.array .byte), accessFlags := 18, slot := 0, constantValue := 0 }, { name := "coder", type := .byte, accessFlags := 18, slot := 1, constantValue := 0 }, { name := "hash", type := .int, accessFlags := 2, slot := 2, constantValue := 0 }, { name := "hashIsZero", type := .boolean, accessFlags := 2, slot := 3, constantValue := 0 }, { name := "serialVersionUID", type := .long, accessFlags := 26, slot := 0, constantValue := 0 }, { name := "COMPACT_STRINGS", type := .boolean, accessFlags := 24, slot := 1, constantValue := 0 }, { name := "serialPersistentFields", type := (.array (.object "java/io/ObjectStreamField")), accessFlags := 26, slot := 2, constantValue := 0 }, { name := "REPL", type := .char, accessFlags := 26, slot := 3, constantValue := 0 }, { name := "CASE_INSENSITIVE_ORDER", type := (.object "java/util/Comparator"), accessFlags := 25, slot := 4, constantValue := 0 }, { name := "LATIN1", type := .byte, accessFlags := 24, slot := 5, constantValue := 0 }, { name := "UTF16", type := .byte, accessFlags := 24, slot := 6, constantValue := 0 }]
  methods := #[k7m0, k7m1, k7m2, k7m3, k7m4, k7m5, k7m6, k7m7, k7m8, k7m9, k7m10, k7m11]
  instanceTypes := #[(.array .byte), .byte, .int, .boolean]
  staticTypes := #[.long, .boolean, (.array (.object "java/io/ObjectStreamField")), .char, (.object "java/util/Comparator"), .byte, .byte]
  resolved := Array.replicate 1451 none
  statics := some 0 }

def pool8 : Array CpInfo := pool [(2, .class_ 4), (1, u "java/lang/Object"), (0, u "<init>"), (0, u "()V"), (6, .class_ 14), (0, u "com/example/vestline/vestline/format/Csv$Splitter"), (4, .class_ 21), (1, u "com/example/vestline/vestline/format/Csv"), (22, u "()Z"), (29, .class_ 75), (0, u "java/lang/String"), (18, u "indexOf"), (3, u "(Ljava/lang/String;)Ljava/lang/String;"), (28, .class_ 128), (0, u "com/example/vestline/vestline/format/Csv$Row"), (7, .class_ 138), (1, u "com/example/vestline/vestline/format/Csv$RowReader"), (1, .methodref 74 141), (0, .nameAndType 142 44), (0, u "isEmpty"), (0, .string 144), (0, u "=+-@\t\r"), (0, .methodref 74 146), (0, .nameAndType 147 148), (0, u "charAt"), (0, u "(I)C"), (0, .methodref 74 150), (0, .nameAndType 94 151), (0, u "(I)I"), (14, u "printable"), (31, u "FORMULA_STARTS"), (0, u "Ljava/lang/String;"), (14, .class_ 215), (0, u "com/example/vestline/vestline/format/Csv$Row$NumberReader"), (0, .class_ 217), (0, u "com/example/vestline/vestline/format/Csv$RecordWriter")] 36

def k8m0 : Method := { name := "<init>", desc := "()V", sig := { parameters := [], returnType := none }, accessFlags := 2, code := none }
def k8c1 : Code := { maxStack := 4, maxLocals := 1, code := prog_10_method_4_code, exceptionTable := #[], attributes := #[] }
def k8m1 : Method := { name := "printable", desc := "(Ljava/lang/String;)Ljava/lang/String;", sig := { parameters := [(.object "java/lang/String")], returnType := some (.object "java/lang/String") }, accessFlags := 9, code := some k8c1 }
/-- com/example/vestline/vestline/format/Csv -/
def k8 : Class := { plain "com/example/vestline/vestline/format/Csv" (some 0) with
  accessFlags := 49
  interfaces := #[]
  cf := some (fileOf pool8 19 #[.nestMembers #[13, 127, 214, 136, 216]] #[{ accessFlags := 2, nameIndex := 5, descriptorIndex := 6, attributes := #[] }, { accessFlags := 9, nameIndex := 166, descriptorIndex := 98, attributes := #[] }] 49 2 #[] #[{ accessFlags := 26, nameIndex := 198, descriptorIndex := 199, attributes := #[] }])
  fields := #[{ name := "FORMULA_STARTS", type := (.object "java/lang/String"), accessFlags := 26, slot := 0, constantValue := 0 }]
  methods := #[k8m0, k8m1]
  instanceTypes := #[]
  staticTypes := #[(.object "java/lang/String")]
  resolved := Array.replicate 254 none
  statics := none }

def pool9 : Array CpInfo := pool [(3, .class_ 4), (0, u "java/lang/String"), (1, .class_ 8), (1, u "java/lang/Object"), (0, u "<init>"), (0, u "()V"), (0, .methodref 12 13), (0, .class_ 14), (0, .nameAndType 15 16), (0, u "java/lang/StringUTF16"), (0, u "newBytesLength"), (0, u "(I)I"), (3, .integer 1073741823), (23, .fieldref 12 45), (0, .nameAndType 46 47), (0, u "$assertionsDisabled"), (0, u "Z"), (0, .methodref 12 49), (0, .nameAndType 50 51), (0, u "length"), (0, u "([B)I"), (7, .fieldref 12 60), (0, .nameAndType 61 62), (0, u "HI_BYTE_SHIFT"), (0, u "I"), (0, .fieldref 12 64), (0, .nameAndType 65 62), (0, u "LO_BYTE_SHIFT"), (1, .methodref 12 68), (0, .nameAndType 69 70), (0, u "checkIndex"), (0, u "(I[B)V"), (0, .methodref 12 72), (0, .nameAndType 73 74), (0, u "getChar"), (0, u "([BI)C"), (32, .methodref 12 108), (0, .nameAndType 109 110), (0, u "newBytesFor"), (0, u "(I)[B"), (0, .methodref 12 112), (0, .nameAndType 113 114), (0, u "putChar"), (0, u "([BII)V"), (0, .methodref 12 116), (0, .nameAndType 117 118), (0, u "compress"), (0, u "([CI[BII)I"), (0, .methodref 12 120), (0, .nameAndType 121 122), (0, u "toBytes"), (0, u "([CII)[B"), (138, u "coderFromArrayLen"), (0, u "([BI)B"), (106, .class_ 371), (1, u "java/lang/StringUTF16$LinesSpliterator"), (20, u "charAt"), (21, .methodref 3 415), (0, .nameAndType 69 416), (0, u "(II)V"), (13, u "MAX_LENGTH"), (196, .class_ 628), (0, u "java/lang/StringUTF16$CodePointsSpliterator"), (0, .class_ 630), (0, u "java/lang/StringUTF16$CharsSpliterator")] 4

def k9m0 : Method := { name := "<init>", desc := "()V", sig := { parameters := [], returnType := none }, accessFlags := 0, code := none }
def k9c1 : Code := { maxStack := 1, maxLocals := 1, code := jdk_52_method_2_code, exceptionTable := #[], attributes := #[] }
def k9m1 : Method := { name := "newBytesFor", desc := "(I)[B", sig := { parameters := [.int], returnType := some (.array .byte) }, accessFlags := 9, code := some k9c1 }
def k9c2 : Code := { maxStack := 4, maxLocals := 1, code := jdk_52_method_3_code, exceptionTable := #[], attributes := #[] }
def k9m2 : Method := { name := "newBytesLength", desc := "(I)I", sig := { parameters := [.int], returnType := some .int }, accessFlags := 9, code := some k9c2 }
def k9c3 : Code := { maxStack := 4, maxLocals := 3, code := jdk_52_method_4_code, exceptionTable := #[], attributes := #[] }
def k9m3 : Method := { name := "putChar", desc := "([BII)V", sig := { parameters := [(.array .byte), .int, .int], returnType := none }, accessFlags := 8, code := some k9c3 }
def k9c4 : Code := { maxStack := 3, maxLocals := 2, code := jdk_52_method_5_code, exceptionTable := #[], attributes := #[] }
def k9m4 : Method := { name := "getChar", desc := "([BI)C", sig := { parameters := [(.array .byte), .int], returnType := some .char }, accessFlags := 8, code := some k9c4 }
def k9c5 : Code := { maxStack := 2, maxLocals := 1, code := jdk_52_method_6_code, exceptionTable := #[], attributes := #[] }
def k9m5 : Method := { name := "length", desc := "([B)I", sig := { parameters := [(.array .byte)], returnType := some .int }, accessFlags := 9, code := some k9c5 }
def k9c6 : Code := { maxStack := 4, maxLocals := 5, code := jdk_52_method_14_code, exceptionTable := #[], attributes := #[] }
def k9m6 : Method := { name := "toBytes", desc := "([CII)[B", sig := { parameters := [(.array .char), .int, .int], returnType := some (.array .byte) }, accessFlags := 9, code := some k9c6 }
def k9c7 : Code := { maxStack := 2, maxLocals := 2, code := jdk_52_method_15_code, exceptionTable := #[], attributes := #[] }
def k9m7 : Method := { name := "coderFromArrayLen", desc := "([BI)B", sig := { parameters := [(.array .byte), .int], returnType := some .byte }, accessFlags := 8, code := some k9c7 }
def k9c8 : Code := { maxStack := 5, maxLocals := 6, code := jdk_52_method_16_code, exceptionTable := #[], attributes := #[] }
def k9m8 : Method := { name := "compress", desc := "([CII)[B", sig := { parameters := [(.array .char), .int, .int], returnType := some (.array .byte) }, accessFlags := 9, code := some k9c8 }
def k9c9 : Code := { maxStack := 3, maxLocals := 7, code := jdk_52_method_21_code, exceptionTable := #[], attributes := #[] }
def k9m9 : Method := { name := "compress", desc := "([CI[BII)I", sig := { parameters := [(.array .char), .int, (.array .byte), .int, .int], returnType := some .int }, accessFlags := 9, code := some k9c9 }
def k9c10 : Code := { maxStack := 2, maxLocals := 2, code := jdk_52_method_83_code, exceptionTable := #[], attributes := #[] }
def k9m10 : Method := { name := "charAt", desc := "([BI)C", sig := { parameters := [(.array .byte), .int], returnType := some .char }, accessFlags := 9, code := some k9c10 }
def k9c11 : Code := { maxStack := 2, maxLocals := 2, code := jdk_52_method_91_code, exceptionTable := #[], attributes := #[] }
def k9m11 : Method := { name := "checkIndex", desc := "(I[B)V", sig := { parameters := [.int, (.array .byte)], returnType := none }, accessFlags := 9, code := some k9c11 }
/-- java/lang/StringUTF16 -/
def k9 : Class := { plain "java/lang/StringUTF16" (some 0) with
  accessFlags := 48
  interfaces := #[]
  cf := some (fileOf pool9 12 #[.nestMembers #[627, 629, 369]] #[{ accessFlags := 0, nameIndex := 9, descriptorIndex := 10, attributes := #[] }, { accessFlags := 9, nameIndex := 109, descriptorIndex := 110, attributes := #[] }, { accessFlags := 9, nameIndex := 15, descriptorIndex := 16, attributes := #[] }, { accessFlags := 8, nameIndex := 113, descriptorIndex := 114, attributes := #[] }, { accessFlags := 8, nameIndex := 73, descriptorIndex := 74, attributes := #[] }, { accessFlags := 9, nameIndex := 50, descriptorIndex := 51, attributes := #[] }, { accessFlags := 9, nameIndex := 121, descriptorIndex := 122, attributes := #[] }, { accessFlags := 8, nameIndex := 261, descriptorIndex := 262, attributes := #[] }, { accessFlags := 9, nameIndex := 117, descriptorIndex := 122, attributes := #[] }, { accessFlags := 9, nameIndex := 117, descriptorIndex := 118, attributes := #[] }, { accessFlags := 9, nameIndex := 392, descriptorIndex := 74, attributes := #[] }, { accessFlags := 9, nameIndex := 69, descriptorIndex := 70, attributes := #[] }] 48 6 #[] #[{ accessFlags := 26, nameIndex := 61, descriptorIndex := 62, attributes := #[] }, { accessFlags := 26, nameIndex := 65, descriptorIndex := 62, attributes := #[] }, { accessFlags := 24, nameIndex := 430, descriptorIndex := 62, attributes := #[] }, { accessFlags := 4120, nameIndex := 46, descriptorIndex := 47, attributes := #[] }])
  fields := #[{ name := "HI_BYTE_SHIFT", type := .int, accessFlags := 26, slot := 0, constantValue := 0 }, { name := "LO_BYTE_SHIFT", type := .int, accessFlags := 26, slot := 1, constantValue := 0 }, { name := "MAX_LENGTH", type := .int, accessFlags := 24, slot := 2, constantValue := 0 }, { name := "$assertionsDisabled", type := .boolean, accessFlags := 4120, slot := 3, constantValue := 0 }]
  methods := #[k9m0, k9m1, k9m2, k9m3, k9m4, k9m5, k9m6, k9m7, k9m8, k9m9, k9m10, k9m11]
  instanceTypes := #[]
  staticTypes := #[.int, .int, .int, .boolean]
  resolved := Array.replicate 635 none
  statics := some 1 }

def pool10 : Array CpInfo := pool [(1, .class_ 2), (0, u "java/lang/String"), (1, .class_ 6), (1, u "java/lang/Object"), (0, u "<init>"), (0, u "()V"), (0, .methodref 1 10), (0, .nameAndType 11 12), (0, u "checkIndex"), (0, u "(II)V"), (1, .class_ 16), (1, u "java/lang/StringLatin1"), (21, .methodref 39 40), (0, .class_ 41), (0, .nameAndType 42 43), (0, u "java/lang/Math"), (0, u "min"), (0, u "(II)I"), (9, u "([BI)C"), (34, .methodref 14 89), (0, .nameAndType 90 91), (0, u "canEncode"), (0, u "(I)Z"), (0, .methodref 39 93), (0, .nameAndType 94 43), (0, u "max"), (0, .methodref 14 96), (0, .nameAndType 97 98), (0, u "indexOfChar"), (0, u "([BIII)I"), (2, u "indexOf"), (19, u "$assertionsDisabled"), (0, u "Z"), (98, .class_ 223), (1, u "java/lang/StringLatin1$LinesSpliterator"), (28, u "charAt"), (137, .class_ 391), (0, u "java/lang/StringLatin1$CharsSpliterator")] 3

def k10m0 : Method := { name := "<init>", desc := "()V", sig := { parameters := [], returnType := none }, accessFlags := 0, code := none }
def k10c1 : Code := { maxStack := 2, maxLocals := 2, code := jdk_43_method_2_code, exceptionTable := #[], attributes := #[] }
def k10m1 : Method := { name := "charAt", desc := "([BI)C", sig := { parameters := [(.array .byte), .int], returnType := some .char }, accessFlags := 9, code := some k10c1 }
def k10c2 : Code := { maxStack := 2, maxLocals := 1, code := jdk_43_method_4_code, exceptionTable := #[], attributes := #[] }
def k10m2 : Method := { name := "canEncode", desc := "(I)Z", sig := { parameters := [.int], returnType := some .boolean }, accessFlags := 9, code := some k10c2 }
def k10c3 : Code := { maxStack := 4, maxLocals := 4, code := jdk_43_method_22_code, exceptionTable := #[], attributes := #[] }
def k10m3 : Method := { name := "indexOf", desc := "([BIII)I", sig := { parameters := [(.array .byte), .int, .int, .int], returnType := some .int }, accessFlags := 9, code := some k10c3 }
def k10c4 : Code := { maxStack := 2, maxLocals := 6, code := jdk_43_method_23_code, exceptionTable := #[], attributes := #[] }
def k10m4 : Method := { name := "indexOfChar", desc := "([BIII)I", sig := { parameters := [(.array .byte), .int, .int, .int], returnType := some .int }, accessFlags := 10, code := some k10c4 }
/-- java/lang/StringLatin1 -/
def k10 : Class := { plain "java/lang/StringLatin1" (some 0) with
  accessFlags := 48
  interfaces := #[]
  cf := some (fileOf pool10 14 #[.nestMembers #[390, 221]] #[{ accessFlags := 0, nameIndex := 7, descriptorIndex := 8, attributes := #[] }, { accessFlags := 9, nameIndex := 252, descriptorIndex := 53, attributes := #[] }, { accessFlags := 9, nameIndex := 90, descriptorIndex := 91, attributes := #[] }, { accessFlags := 9, nameIndex := 101, descriptorIndex := 98, attributes := #[] }, { accessFlags := 10, nameIndex := 97, descriptorIndex := 98, attributes := #[] }] 48 4 #[] #[{ accessFlags := 4120, nameIndex := 121, descriptorIndex := 122, attributes := #[] }])
  fields := #[{ name := "$assertionsDisabled", type := .boolean, accessFlags := 4120, slot := 0, constantValue := 0 }]
  methods := #[k10m0, k10m1, k10m2, k10m3, k10m4]
  instanceTypes := #[]
  staticTypes := #[.boolean]
  resolved := Array.replicate 395 none
  statics := none }

def pool11 : Array CpInfo := pool [(2, .class_ 4), (1, u "java/lang/Object"), (0, u "<init>"), (0, u "()V"), (17, .class_ 26), (1, u "jdk/internal/util/Preconditions"), (6, u "checkIndex"), (21, .class_ 56), (0, u "jdk/internal/util/Preconditions$4"), (57, .class_ 115), (0, u "jdk/internal/util/Preconditions$1"), (7, u "SIOOBE_FORMATTER"), (0, u "Ljava/util/function/BiFunction;"), (0, .class_ 126), (0, u "jdk/internal/util/Preconditions$2"), (3, u "AIOOBE_FORMATTER"), (0, .class_ 132), (0, u "jdk/internal/util/Preconditions$3"), (3, u "IOOBE_FORMATTER"), (41, u "(IILjava/util/function/BiFunction;)I")] 15

def k11m0 : Method := { name := "<init>", desc := "()V", sig := { parameters := [], returnType := none }, accessFlags := 1, code := none }
def k11c1 : Code := { maxStack := 3, maxLocals := 3, code := jdk_41_method_11_code, exceptionTable := #[], attributes := #[] }
def k11m1 : Method := { name := "checkIndex", desc := "(IILjava/util/function/BiFunction;)I", sig := { parameters := [.int, .int, (.object "java/util/function/BiFunction")], returnType := some .int }, accessFlags := 9, code := some k11c1 }
/-- jdk/internal/util/Preconditions -/
def k11 : Class := { plain "jdk/internal/util/Preconditions" (some 0) with
  accessFlags := 33
  interfaces := #[]
  cf := some (fileOf pool11 24 #[.nestMembers #[55, 131, 125, 114]] #[{ accessFlags := 1, nameIndex := 5, descriptorIndex := 6, attributes := #[] }, { accessFlags := 9, nameIndex := 33, descriptorIndex := 178, attributes := #[] }] 33 2 #[] #[{ accessFlags := 25, nameIndex := 123, descriptorIndex := 124, attributes := #[] }, { accessFlags := 25, nameIndex := 130, descriptorIndex := 124, attributes := #[] }, { accessFlags := 25, nameIndex := 136, descriptorIndex := 124, attributes := #[] }])
  fields := #[{ name := "SIOOBE_FORMATTER", type := (.object "java/util/function/BiFunction"), accessFlags := 25, slot := 0, constantValue := 0 }, { name := "AIOOBE_FORMATTER", type := (.object "java/util/function/BiFunction"), accessFlags := 25, slot := 1, constantValue := 0 }, { name := "IOOBE_FORMATTER", type := (.object "java/util/function/BiFunction"), accessFlags := 25, slot := 2, constantValue := 0 }]
  methods := #[k11m0, k11m1]
  instanceTypes := #[]
  staticTypes := #[(.object "java/util/function/BiFunction"), (.object "java/util/function/BiFunction"), (.object "java/util/function/BiFunction")]
  resolved := Array.replicate 194 none
  statics := some 2 }

def pool12 : Array CpInfo := pool [(1, .class_ 2), (0, u "java/lang/Math"), (1, .class_ 6), (1, u "java/lang/Object"), (0, u "<init>"), (0, u "()V"), (89, .class_ 100), (1, u "java/lang/Math$RandomNumberGeneratorHolder"), (71, u "negativeZeroFloatBits"), (0, u "J"), (2, u "negativeZeroDoubleBits"), (21, u "max"), (2, u "min"), (43, u "$assertionsDisabled"), (0, u "Z"), (88, u "(II)I"), (2, u "twoToTheDoubleScaleDown"), (0, u "D"), (4, u "twoToTheDoubleScaleUp"), (9, u "E"), (3, u "PI"), (2, u "TAU"), (2, u "DEGREES_TO_RADIANS"), (0, u "RADIANS_TO_DEGREES")] 94

def k12m0 : Method := { name := "<init>", desc := "()V", sig := { parameters := [], returnType := none }, accessFlags := 2, code := none }
def k12c1 : Code := { maxStack := 2, maxLocals := 2, code := jdk_29_method_65_code, exceptionTable := #[], attributes := #[] }
def k12m1 : Method := { name := "max", desc := "(II)I", sig := { parameters := [.int, .int], returnType := some .int }, accessFlags := 9, code := some k12c1 }
def k12c2 : Code := { maxStack := 2, maxLocals := 2, code := jdk_29_method_69_code, exceptionTable := #[], attributes := #[] }
def k12m2 : Method := { name := "min", desc := "(II)I", sig := { parameters := [.int, .int], returnType := some .int }, accessFlags := 9, code := some k12c2 }
/-- java/lang/Math -/
def k12 : Class := { plain "java/lang/Math" (some 0) with
  accessFlags := 49
  interfaces := #[]
  cf := some (fileOf pool12 1 #[.nestMembers #[98]] #[{ accessFlags := 2, nameIndex := 7, descriptorIndex := 8, attributes := #[] }, { accessFlags := 9, nameIndex := 198, descriptorIndex := 335, attributes := #[] }, { accessFlags := 9, nameIndex := 201, descriptorIndex := 335, attributes := #[] }] 49 4 #[] #[{ accessFlags := 25, nameIndex := 354, descriptorIndex := 339, attributes := #[] }, { accessFlags := 25, nameIndex := 358, descriptorIndex := 339, attributes := #[] }, { accessFlags := 25, nameIndex := 361, descriptorIndex := 339, attributes := #[] }, { accessFlags := 26, nameIndex := 364, descriptorIndex := 339, attributes := #[] }, { accessFlags := 26, nameIndex := 365, descriptorIndex := 339, attributes := #[] }, { accessFlags := 26, nameIndex := 172, descriptorIndex := 173, attributes := #[] }, { accessFlags := 26, nameIndex := 176, descriptorIndex := 173, attributes := #[] }, { accessFlags := 8, nameIndex := 344, descriptorIndex := 339, attributes := #[] }, { accessFlags := 8, nameIndex := 338, descriptorIndex := 339, attributes := #[] }, { accessFlags := 4120, nameIndex := 245, descriptorIndex := 246, attributes := #[] }])
  fields := #[{ name := "E", type := .double, accessFlags := 25, slot := 0, constantValue := 0 }, { name := "PI", type := .double, accessFlags := 25, slot := 1, constantValue := 0 }, { name := "TAU", type := .double, accessFlags := 25, slot := 2, constantValue := 0 }, { name := "DEGREES_TO_RADIANS", type := .double, accessFlags := 26, slot := 3, constantValue := 0 }, { name := "RADIANS_TO_DEGREES", type := .double, accessFlags := 26, slot := 4, constantValue := 0 }, { name := "negativeZeroFloatBits", type := .long, accessFlags := 26, slot := 5, constantValue := 0 }, { name := "negativeZeroDoubleBits", type := .long, accessFlags := 26, slot := 6, constantValue := 0 }, { name := "twoToTheDoubleScaleUp", type := .double, accessFlags := 8, slot := 7, constantValue := 0 }, { name := "twoToTheDoubleScaleDown", type := .double, accessFlags := 8, slot := 8, constantValue := 0 }, { name := "$assertionsDisabled", type := .boolean, accessFlags := 4120, slot := 9, constantValue := 0 }]
  methods := #[k12m0, k12m1, k12m2]
  instanceTypes := #[]
  staticTypes := #[.double, .double, .double, .double, .double, .long, .long, .double, .double, .boolean]
  resolved := Array.replicate 460 none
  statics := none }

def pool13 : Array CpInfo := pool [(9, u "<init>"), (6, .class_ 18), (1, u "java/lang/Object"), (0, u "()V"), (1, .class_ 23), (1, u "jdk/internal/util/ArraysSupport"), (0, u "LOG2_ARRAY_LONG_INDEX_SCALE"), (0, u "I"), (2, u "U"), (0, u "Ljdk/internal/misc/Unsafe;"), (8, u "BIG_ENDIAN"), (0, u "Z"), (8, u "LOG2_BYTE_BIT_SIZE"), (4, u "LOG2_ARRAY_INT_INDEX_SCALE"), (54, u "JLA"), (0, u "Ljdk/internal/access/JavaLangAccess;"), (11, u "LOG2_ARRAY_BOOLEAN_INDEX_SCALE"), (9, u "LOG2_ARRAY_BYTE_INDEX_SCALE"), (5, u "LOG2_ARRAY_CHAR_INDEX_SCALE"), (5, u "LOG2_ARRAY_SHORT_INDEX_SCALE"), (18, u "LOG2_ARRAY_FLOAT_INDEX_SCALE"), (24, u "LOG2_ARRAY_DOUBLE_INDEX_SCALE"), (89, u "T_BOOLEAN"), (2, u "T_CHAR"), (1, u "T_FLOAT"), (1, u "T_DOUBLE"), (1, u "T_BYTE"), (1, u "T_SHORT"), (1, u "T_INT"), (1, u "T_LONG"), (1, u "SOFT_MAX_ARRAY_LENGTH")] 83

def k13m0 : Method := { name := "<init>", desc := "()V", sig := { parameters := [], returnType := none }, accessFlags := 2, code := none }
/-- jdk/internal/util/ArraysSupport -/
def k13 : Class := { plain "jdk/internal/util/ArraysSupport" (some 0) with
  accessFlags := 33
  interfaces := #[]
  cf := some (fileOf pool13 21 #[] #[{ accessFlags := 2, nameIndex := 9, descriptorIndex := 19, attributes := #[] }] 33 16 #[] #[{ accessFlags := 24, nameIndex := 28, descriptorIndex := 29, attributes := #[] }, { accessFlags := 26, nameIndex := 38, descriptorIndex := 39, attributes := #[] }, { accessFlags := 25, nameIndex := 121, descriptorIndex := 25, attributes := #[] }, { accessFlags := 25, nameIndex := 131, descriptorIndex := 25, attributes := #[] }, { accessFlags := 25, nameIndex := 137, descriptorIndex := 25, attributes := #[] }, { accessFlags := 25, nameIndex := 143, descriptorIndex := 25, attributes := #[] }, { accessFlags := 25, nameIndex := 53, descriptorIndex := 25, attributes := #[] }, { accessFlags := 25, nameIndex := 24, descriptorIndex := 25, attributes := #[] }, { accessFlags := 25, nameIndex := 162, descriptorIndex := 25, attributes := #[] }, { accessFlags := 25, nameIndex := 187, descriptorIndex := 25, attributes := #[] }, { accessFlags := 26, nameIndex := 48, descriptorIndex := 25, attributes := #[] }, { accessFlags := 25, nameIndex := 277, descriptorIndex := 25, attributes := #[] }, { accessFlags := 25, nameIndex := 280, descriptorIndex := 25, attributes := #[] }, { accessFlags := 25, nameIndex := 282, descriptorIndex := 25, attributes := #[] }, { accessFlags := 25, nameIndex := 284, descriptorIndex := 25, attributes := #[] }, { accessFlags := 25, nameIndex := 286, descriptorIndex := 25, attributes := #[] }, { accessFlags := 25, nameIndex := 288, descriptorIndex := 25, attributes := #[] }, { accessFlags := 25, nameIndex := 290, descriptorIndex := 25, attributes := #[] }, { accessFlags := 25, nameIndex := 292, descriptorIndex := 25, attributes := #[] }, { accessFlags := 26, nameIndex := 108, descriptorIndex := 109, attributes := #[] }, { accessFlags := 25, nameIndex := 294, descriptorIndex := 25, attributes := #[] }])
  fields := #[{ name := "U", type := (.object "jdk/internal/misc/Unsafe"), accessFlags := 24, slot := 0, constantValue := 0 }, { name := "BIG_ENDIAN", type := .boolean, accessFlags := 26, slot := 1, constantValue := 0 }, { name := "LOG2_ARRAY_BOOLEAN_INDEX_SCALE", type := .int, accessFlags := 25, slot := 2, constantValue := 0 }, { name := "LOG2_ARRAY_BYTE_INDEX_SCALE", type := .int, accessFlags := 25, slot := 3, constantValue := 0 }, { name := "LOG2_ARRAY_CHAR_INDEX_SCALE", type := .int, accessFlags := 25, slot := 4, constantValue := 0 }, { name := "LOG2_ARRAY_SHORT_INDEX_SCALE", type := .int, accessFlags := 25, slot := 5, constantValue := 0 }, { name := "LOG2_ARRAY_INT_INDEX_SCALE", type := .int, accessFlags := 25, slot := 6, constantValue := 0 }, { name := "LOG2_ARRAY_LONG_INDEX_SCALE", type := .int, accessFlags := 25, slot := 7, constantValue := 0 }, { name := "LOG2_ARRAY_FLOAT_INDEX_SCALE", type := .int, accessFlags := 25, slot := 8, constantValue := 0 }, { name := "LOG2_ARRAY_DOUBLE_INDEX_SCALE", type := .int, accessFlags := 25, slot := 9, constantValue := 0 }, { name := "LOG2_BYTE_BIT_SIZE", type := .int, accessFlags := 26, slot := 10, constantValue := 0 }, { name := "T_BOOLEAN", type := .int, accessFlags := 25, slot := 11, constantValue := 0 }, { name := "T_CHAR", type := .int, accessFlags := 25, slot := 12, constantValue := 0 }, { name := "T_FLOAT", type := .int, accessFlags := 25, slot := 13, constantValue := 0 }, { name := "T_DOUBLE", type := .int, accessFlags := 25, slot := 14, constantValue := 0 }, { name := "T_BYTE", type := .int, accessFlags := 25, slot := 15, constantValue := 0 }, { name := "T_SHORT", type := .int, accessFlags := 25, slot := 16, constantValue := 0 }, { name := "T_INT", type := .int, accessFlags := 25, slot := 17, constantValue := 0 }, { name := "T_LONG", type := .int, accessFlags := 25, slot := 18, constantValue := 0 }, { name := "JLA", type := (.object "jdk/internal/access/JavaLangAccess"), accessFlags := 26, slot := 19, constantValue := 0 }, { name := "SOFT_MAX_ARRAY_LENGTH", type := .int, accessFlags := 25, slot := 20, constantValue := 0 }]
  methods := #[k13m0]
  instanceTypes := #[]
  staticTypes := #[(.object "jdk/internal/misc/Unsafe"), .boolean, .int, .int, .int, .int, .int, .int, .int, .int, .int, .int, .int, .int, .int, .int, .int, .int, .int, (.object "jdk/internal/access/JavaLangAccess"), .int]
  resolved := Array.replicate 378 none
  statics := none }

def pool14 : Array CpInfo := pool [(1, u "java/lang/Cloneable"), (0, .class_ 1), (0, u "java/lang/Object"), (0, .class_ 3)] 3

/-- java/lang/Cloneable -/
def k14 : Class := { plain "java/lang/Cloneable" (some 0) with
  accessFlags := 1537
  interfaces := #[]
  cf := some (fileOf pool14 2 #[] #[] 1537 4 #[] #[])
  fields := #[]
  methods := #[]
  instanceTypes := #[]
  staticTypes := #[]
  resolved := Array.replicate 8 none
  statics := none }

/-- the primitive byte -/
def k15 : Class := { plain "byte" none with kind := .primitive 'B', accessFlags := 0x411 }
/-- [B -/
def k16 : Class := { plain "[B" (some 0) with kind := .array 15 .byte, interfaces := #[14, 2], accessFlags := 1041 }

/-- the primitive char -/
def k17 : Class := { plain "char" none with kind := .primitive 'C', accessFlags := 0x411 }
/-- [C -/
def k18 : Class := { plain "[C" (some 0) with kind := .array 17 .char, interfaces := #[14, 2], accessFlags := 1041 }

/-- the primitive int -/
def k19 : Class := { plain "int" none with kind := .primitive 'I', accessFlags := 0x411 }
/-- [I -/
def k20 : Class := { plain "[I" (some 0) with kind := .array 19 .int, interfaces := #[14, 2], accessFlags := 1041 }

def heap : Heap := #[{ cls := 7, slots := #[.long 0, .int 1, .null, .int 0, .null, .int 0, .int 0], vm := .statics 7 },
  { cls := 9, slots := #[.int 0, .int 8, .int 0, .int 1], vm := .statics 9 },
  { cls := 11, slots := #[.null, .null, .null], vm := .statics 11 }]
def classes : Array Class := #[k0, k1, k2, k3, k4, k5, k6, k7, k8, k9, k10, k11, k12, k13, k14, k15, k16, k17, k18, k19, k20]
def interned : List (Array UInt16 × Addr) := []
def slotsUsed : Nat := 14
def theMethod : MethodId := ⟨1, 2⟩
def args0 : Array Value := #[.int 2, .int 65, .int 300, .int 7]
def aboutOver (below : List Frame) : State where
  vm := { classes := classes, interned := interned.toArray }
  heap := heap
  slotsUsed := slotsUsed
  threads := #[{ frames := .invoking theMethod args0 :: below }]
def below0 : List Frame := [.native { method := ⟨0, 0⟩, args := #[] }]
def about1 : State := aboutOver below0
def p0 : Program := .bare "" "" ""
def e0 : Env := launch0.env 0 0 0
theorem w_frames : about1.frames = Frame.invoking theMethod args0 :: below0 := rfl
set_option maxRecDepth 65536 in
theorem w_args : argsFit about1.vm theMethod args0 = true := by decide +kernel
set_option maxRecDepth 65536 in
theorem w_heap : heapFits about1 = true := by decide +kernel
set_option maxRecDepth 65536 in
theorem w_runnable : about1.curStatus? = some .runnable := by decide +kernel
set_option maxRecDepth 65536 in
theorem w_alone : about1.alone = true := by decide +kernel
set_option maxRecDepth 65536 in
theorem w_named : about1.methodNamed? x = some theMethod := by decide +kernel
set_option maxRecDepth 65536 in
theorem w_hears : about1.hears theMethod below0 = true := by decide +kernel
set_option maxRecDepth 65536 in
theorem w_ripe : about1.ripe theMethod args0 below0 = true := by decide +kernel
theorem w_running : about1.status = .running := rfl
set_option maxRecDepth 65536 in
theorem w_room : about1.hasRoom e0.platform room_1 = true :=
  launch0.hasRoom_least _ room_1 (by decide +kernel) (by decide +kernel) (by decide +kernel) (by decide +kernel) (by decide +kernel) (by decide +kernel)
theorem allAtoms_all (ts : List Jvm.Cond) (a : Array Jvm.Value) (st : Jvm.State) : (allAtoms ts).before a st = ts.all (fun c => c.before a st) := by
  induction ts with
  | nil => rfl
  | cons c t ih =>
    show (Jvm.Cond.and c (allAtoms t)).before a st = _
    rw [Jvm.Cond.before_and, ih, List.all_cons]
def words1 : List Jvm.Cond := Jvm.Cond.code x code maxLocals ret :: tables_1
/-- a 'code' word, met by the world's own term for the bytes: nothing is compared byte by byte -/
theorem code_word {y : MethodName} {bytes : ByteArray} {mx : Nat} {rt : Option FieldType} {a : Array Value} {s : State} {m : MethodId} {meth : Method} {c : Code} (h1 : s.methodNamed? y = some m) (h2 : s.vm.method? m = some meth) (h3 : meth.code = some c) (h4 : c.code = bytes)
    (h5 : (c.maxLocals == mx && c.exceptionTable.isEmpty && decide (c.maxStack ≤ mostOperands) && decide (meth.sig.returnType = rt) && !meth.locks && decide (parseMethodDescriptor y.desc = some meth.sig)) = true) : (Jvm.Cond.code y bytes mx rt).before a s = true := by
  simp only [Bool.and_eq_true, beq_iff_eq, Bool.not_eq_true', decide_eq_true_eq] at h5
  obtain ⟨⟨⟨⟨⟨g1, g2⟩, g3⟩, g4⟩, g5⟩, g6⟩ := h5
  simp [Cond.before, Cond.holds, Cond.value, h1, h2, h3, h4, g1, g2, g3, g4, g5, g6]
def isCode : Jvm.Cond → Bool
  | .code _ _ _ _ => true
  | _ => false
theorem all_split {L : List Jvm.Cond} {P : Jvm.Cond → Bool} (h1 : L.all (fun c => isCode c || P c) = true) (h2 : ∀ c ∈ L.filter isCode, P c = true) : L.all P = true := by
  refine List.all_eq_true.mpr fun c hc => ?_
  have h := List.all_eq_true.mp h1 c hc
  rcases Bool.eq_false_or_eq_true (isCode c) with hi | hi
  · exact h2 c (List.mem_filter.mpr ⟨hc, hi⟩)
  · simpa [hi] using h
set_option maxRecDepth 65536 in
theorem w_c0 : (Jvm.Cond.code x code maxLocals ret).before args0 about1 = true := code_word (m := ⟨1, 2⟩) (meth := k1m2) (c := k1c2) (by decide +kernel) rfl rfl rfl (by decide +kernel)
set_option maxRecDepth 65536 in
theorem w_c1 : (Jvm.Cond.code ({ cls := "java/lang/String", name := "<init>", desc := "([C)V" } : Jvm.MethodName) jdk_42_method_3_code (2 : Nat) (Option.none : Option Jvm.ClassFile.FieldType)).before args0 about1 = true := code_word (m := ⟨7, 1⟩) (meth := k7m1) (c := k7c1) (by decide +kernel) rfl rfl rfl (by decide +kernel)
set_option maxRecDepth 65536 in
theorem w_c2 : (Jvm.Cond.code ({ cls := "java/lang/String", name := "<init>", desc := "([CIILjava/lang/Void;)V" } : Jvm.MethodName) jdk_42_method_149_code (6 : Nat) (Option.none : Option Jvm.ClassFile.FieldType)).before args0 about1 = true := code_word (m := ⟨7, 8⟩) (meth := k7m8) (c := k7c8) (by decide +kernel) rfl rfl rfl (by decide +kernel)
set_option maxRecDepth 65536 in
theorem w_c3 : (Jvm.Cond.code ({ cls := "java/lang/Object", name := "<init>", desc := "()V" } : Jvm.MethodName) object_method_1_code (1 : Nat) (Option.none : Option Jvm.ClassFile.FieldType)).before args0 about1 = true := code_word (m := ⟨0, 0⟩) (meth := k0m0) (c := k0c0) (by decide +kernel) rfl rfl rfl (by decide +kernel)
set_option maxRecDepth 65536 in
theorem w_c4 : (Jvm.Cond.code ({ cls := "com/example/vestline/vestline/format/Csv", name := "printable", desc := "(Ljava/lang/String;)Ljava/lang/String;" } : Jvm.MethodName) prog_10_method_4_code (1 : Nat) (Option.some (Jvm.ClassFile.FieldType.object "java/lang/String"))).before args0 about1 = true := code_word (m := ⟨8, 1⟩) (meth := k8m1) (c := k8c1) (by decide +kernel) rfl rfl rfl (by decide +kernel)
set_option maxRecDepth 65536 in
theorem w_c5 : (Jvm.Cond.code ({ cls := "java/lang/String", name := "isEmpty", desc := "()Z" } : Jvm.MethodName) jdk_42_method_55_code (1 : Nat) (Option.some Jvm.ClassFile.FieldType.boolean)).before args0 about1 = true := code_word (m := ⟨7, 3⟩) (meth := k7m3) (c := k7c3) (by decide +kernel) rfl rfl rfl (by decide +kernel)
set_option maxRecDepth 65536 in
theorem w_c6 : (Jvm.Cond.code ({ cls := "java/lang/String", name := "length", desc := "()I" } : Jvm.MethodName) jdk_42_method_54_code (1 : Nat) (Option.some Jvm.ClassFile.FieldType.int)).before args0 about1 = true := code_word (m := ⟨7, 2⟩) (meth := k7m2) (c := k7c2) (by decide +kernel) rfl rfl rfl (by decide +kernel)
set_option maxRecDepth 65536 in
theorem w_c7 : (Jvm.Cond.code ({ cls := "java/lang/String", name := "coder", desc := "()B" } : Jvm.MethodName) jdk_42_method_152_code (1 : Nat) (Option.some Jvm.ClassFile.FieldType.byte)).before args0 about1 = true := code_word (m := ⟨7, 9⟩) (meth := k7m9) (c := k7c9) (by decide +kernel) rfl rfl rfl (by decide +kernel)
set_option maxRecDepth 65536 in
theorem w_c8 : (Jvm.Cond.code ({ cls := "java/lang/String", name := "equals", desc := "(Ljava/lang/Object;)Z" } : Jvm.MethodName) jdk_42_method_66_code (3 : Nat) (Option.some Jvm.ClassFile.FieldType.boolean)).before args0 about1 = true := code_word (m := ⟨7, 5⟩) (meth := k7m5) (c := k7c5) (by decide +kernel) rfl rfl rfl (by decide +kernel)
set_option maxRecDepth 65536 in
theorem w_c9 : (Jvm.Cond.code ({ cls := "java/lang/StringUTF16", name := "compress", desc := "([CII)[B" } : Jvm.MethodName) jdk_52_method_16_code (6 : Nat) (Option.some (Jvm.ClassFile.FieldType.array Jvm.ClassFile.FieldType.byte))).before args0 about1 = true := code_word (m := ⟨9, 8⟩) (meth := k9m8) (c := k9c8) (by decide +kernel) rfl rfl rfl (by decide +kernel)
set_option maxRecDepth 65536 in
theorem w_c10 : (Jvm.Cond.code ({ cls := "java/lang/StringUTF16", name := "compress", desc := "([CI[BII)I" } : Jvm.MethodName) jdk_52_method_21_code (7 : Nat) (Option.some Jvm.ClassFile.FieldType.int)).before args0 about1 = true := code_word (m := ⟨9, 9⟩) (meth := k9m9) (c := k9c9) (by decide +kernel) rfl rfl rfl (by decide +kernel)
set_option maxRecDepth 65536 in
theorem w_c11 : (Jvm.Cond.code ({ cls := "java/lang/StringUTF16", name := "coderFromArrayLen", desc := "([BI)B" } : Jvm.MethodName) jdk_52_method_15_code (2 : Nat) (Option.some Jvm.ClassFile.FieldType.byte)).before args0 about1 = true := code_word (m := ⟨9, 7⟩) (meth := k9m7) (c := k9c7) (by decide +kernel) rfl rfl rfl (by decide +kernel)
set_option maxRecDepth 65536 in
theorem w_c12 : (Jvm.Cond.code ({ cls := "com/example/vestline/vestline/format/CsvPrintablePinLaw", name := "formulaStart", desc := "(C)Z" } : Jvm.MethodName) method_2_code (1 : Nat) (Option.some Jvm.ClassFile.FieldType.boolean)).before args0 about1 = true := code_word (m := ⟨1, 1⟩) (meth := k1m1) (c := k1c1) (by decide +kernel) rfl rfl rfl (by decide +kernel)
set_option maxRecDepth 65536 in
theorem w_c13 : (Jvm.Cond.code ({ cls := "java/lang/String", name := "charAt", desc := "(I)C" } : Jvm.MethodName) jdk_42_method_56_code (2 : Nat) (Option.some Jvm.ClassFile.FieldType.char)).before args0 about1 = true := code_word (m := ⟨7, 4⟩) (meth := k7m4) (c := k7c4) (by decide +kernel) rfl rfl rfl (by decide +kernel)
set_option maxRecDepth 65536 in
theorem w_c14 : (Jvm.Cond.code ({ cls := "java/lang/String", name := "isLatin1", desc := "()Z" } : Jvm.MethodName) jdk_42_method_154_code (1 : Nat) (Option.some Jvm.ClassFile.FieldType.boolean)).before args0 about1 = true := code_word (m := ⟨7, 10⟩) (meth := k7m10) (c := k7c10) (by decide +kernel) rfl rfl rfl (by decide +kernel)
set_option maxRecDepth 65536 in
theorem w_c15 : (Jvm.Cond.code ({ cls := "java/lang/StringLatin1", name := "charAt", desc := "([BI)C" } : Jvm.MethodName) jdk_43_method_2_code (2 : Nat) (Option.some Jvm.ClassFile.FieldType.char)).before args0 about1 = true := code_word (m := ⟨10, 1⟩) (meth := k10m1) (c := k10c1) (by decide +kernel) rfl rfl rfl (by decide +kernel)
set_option maxRecDepth 65536 in
theorem w_c16 : (Jvm.Cond.code ({ cls := "java/lang/String", name := "checkIndex", desc := "(II)V" } : Jvm.MethodName) jdk_42_method_155_code (2 : Nat) (Option.none : Option Jvm.ClassFile.FieldType)).before args0 about1 = true := code_word (m := ⟨7, 11⟩) (meth := k7m11) (c := k7c11) (by decide +kernel) rfl rfl rfl (by decide +kernel)
set_option maxRecDepth 65536 in
theorem w_c17 : (Jvm.Cond.code ({ cls := "jdk/internal/util/Preconditions", name := "checkIndex", desc := "(IILjava/util/function/BiFunction;)I" } : Jvm.MethodName) jdk_41_method_11_code (3 : Nat) (Option.some Jvm.ClassFile.FieldType.int)).before args0 about1 = true := code_word (m := ⟨11, 1⟩) (meth := k11m1) (c := k11c1) (by decide +kernel) rfl rfl rfl (by decide +kernel)
set_option maxRecDepth 65536 in
theorem w_c18 : (Jvm.Cond.code ({ cls := "java/lang/String", name := "indexOf", desc := "(I)I" } : Jvm.MethodName) jdk_42_method_79_code (2 : Nat) (Option.some Jvm.ClassFile.FieldType.int)).before args0 about1 = true := code_word (m := ⟨7, 6⟩) (meth := k7m6) (c := k7c6) (by decide +kernel) rfl rfl rfl (by decide +kernel)
set_option maxRecDepth 65536 in
theorem w_c19 : (Jvm.Cond.code ({ cls := "java/lang/String", name := "indexOf", desc := "(II)I" } : Jvm.MethodName) jdk_42_method_80_code (3 : Nat) (Option.some Jvm.ClassFile.FieldType.int)).before args0 about1 = true := code_word (m := ⟨7, 7⟩) (meth := k7m7) (c := k7c7) (by decide +kernel) rfl rfl rfl (by decide +kernel)
set_option maxRecDepth 65536 in
theorem w_c20 : (Jvm.Cond.code ({ cls := "java/lang/StringLatin1", name := "indexOf", desc := "([BIII)I" } : Jvm.MethodName) jdk_43_method_22_code (4 : Nat) (Option.some Jvm.ClassFile.FieldType.int)).before args0 about1 = true := code_word (m := ⟨10, 3⟩) (meth := k10m3) (c := k10c3) (by decide +kernel) rfl rfl rfl (by decide +kernel)
set_option maxRecDepth 65536 in
theorem w_c21 : (Jvm.Cond.code ({ cls := "java/lang/StringLatin1", name := "canEncode", desc := "(I)Z" } : Jvm.MethodName) jdk_43_method_4_code (1 : Nat) (Option.some Jvm.ClassFile.FieldType.boolean)).before args0 about1 = true := code_word (m := ⟨10, 2⟩) (meth := k10m2) (c := k10c2) (by decide +kernel) rfl rfl rfl (by decide +kernel)
set_option maxRecDepth 65536 in
theorem w_c22 : (Jvm.Cond.code ({ cls := "java/lang/Math", name := "max", desc := "(II)I" } : Jvm.MethodName) jdk_29_method_65_code (2 : Nat) (Option.some Jvm.ClassFile.FieldType.int)).before args0 about1 = true := code_word (m := ⟨12, 1⟩) (meth := k12m1) (c := k12c1) (by decide +kernel) rfl rfl rfl (by decide +kernel)
set_option maxRecDepth 65536 in
theorem w_c23 : (Jvm.Cond.code ({ cls := "java/lang/Math", name := "min", desc := "(II)I" } : Jvm.MethodName) jdk_29_method_69_code (2 : Nat) (Option.some Jvm.ClassFile.FieldType.int)).before args0 about1 = true := code_word (m := ⟨12, 2⟩) (meth := k12m2) (c := k12c2) (by decide +kernel) rfl rfl rfl (by decide +kernel)
set_option maxRecDepth 65536 in
theorem w_c24 : (Jvm.Cond.code ({ cls := "java/lang/StringLatin1", name := "indexOfChar", desc := "([BIII)I" } : Jvm.MethodName) jdk_43_method_23_code (6 : Nat) (Option.some Jvm.ClassFile.FieldType.int)).before args0 about1 = true := code_word (m := ⟨10, 4⟩) (meth := k10m4) (c := k10c4) (by decide +kernel) rfl rfl rfl (by decide +kernel)
set_option maxRecDepth 65536 in
theorem w_c25 : (Jvm.Cond.code ({ cls := "java/lang/StringUTF16", name := "toBytes", desc := "([CII)[B" } : Jvm.MethodName) jdk_52_method_14_code (5 : Nat) (Option.some (Jvm.ClassFile.FieldType.array Jvm.ClassFile.FieldType.byte))).before args0 about1 = true := code_word (m := ⟨9, 6⟩) (meth := k9m6) (c := k9c6) (by decide +kernel) rfl rfl rfl (by decide +kernel)
set_option maxRecDepth 65536 in
theorem w_c26 : (Jvm.Cond.code ({ cls := "java/lang/StringUTF16", name := "newBytesFor", desc := "(I)[B" } : Jvm.MethodName) jdk_52_method_2_code (1 : Nat) (Option.some (Jvm.ClassFile.FieldType.array Jvm.ClassFile.FieldType.byte))).before args0 about1 = true := code_word (m := ⟨9, 1⟩) (meth := k9m1) (c := k9c1) (by decide +kernel) rfl rfl rfl (by decide +kernel)
set_option maxRecDepth 65536 in
theorem w_c27 : (Jvm.Cond.code ({ cls := "java/lang/StringUTF16", name := "newBytesLength", desc := "(I)I" } : Jvm.MethodName) jdk_52_method_3_code (1 : Nat) (Option.some Jvm.ClassFile.FieldType.int)).before args0 about1 = true := code_word (m := ⟨9, 2⟩) (meth := k9m2) (c := k9c2) (by decide +kernel) rfl rfl rfl (by decide +kernel)
set_option maxRecDepth 65536 in
theorem w_c28 : (Jvm.Cond.code ({ cls := "java/lang/StringUTF16", name := "putChar", desc := "([BII)V" } : Jvm.MethodName) jdk_52_method_4_code (3 : Nat) (Option.none : Option Jvm.ClassFile.FieldType)).before args0 about1 = true := code_word (m := ⟨9, 3⟩) (meth := k9m3) (c := k9c3) (by decide +kernel) rfl rfl rfl (by decide +kernel)
set_option maxRecDepth 65536 in
theorem w_c29 : (Jvm.Cond.code ({ cls := "java/lang/StringUTF16", name := "getChar", desc := "([BI)C" } : Jvm.MethodName) jdk_52_method_5_code (2 : Nat) (Option.some Jvm.ClassFile.FieldType.char)).before args0 about1 = true := code_word (m := ⟨9, 4⟩) (meth := k9m4) (c := k9c4) (by decide +kernel) rfl rfl rfl (by decide +kernel)
set_option maxRecDepth 65536 in
theorem w_c30 : (Jvm.Cond.code ({ cls := "java/lang/StringUTF16", name := "charAt", desc := "([BI)C" } : Jvm.MethodName) jdk_52_method_83_code (2 : Nat) (Option.some Jvm.ClassFile.FieldType.char)).before args0 about1 = true := code_word (m := ⟨9, 10⟩) (meth := k9m10) (c := k9c10) (by decide +kernel) rfl rfl rfl (by decide +kernel)
set_option maxRecDepth 65536 in
theorem w_c31 : (Jvm.Cond.code ({ cls := "java/lang/StringUTF16", name := "checkIndex", desc := "(I[B)V" } : Jvm.MethodName) jdk_52_method_91_code (2 : Nat) (Option.none : Option Jvm.ClassFile.FieldType)).before args0 about1 = true := code_word (m := ⟨9, 11⟩) (meth := k9m11) (c := k9c11) (by decide +kernel) rfl rfl rfl (by decide +kernel)
set_option maxRecDepth 65536 in
theorem w_c32 : (Jvm.Cond.code ({ cls := "java/lang/StringUTF16", name := "length", desc := "([B)I" } : Jvm.MethodName) jdk_52_method_6_code (1 : Nat) (Option.some Jvm.ClassFile.FieldType.int)).before args0 about1 = true := code_word (m := ⟨9, 5⟩) (meth := k9m5) (c := k9c5) (by decide +kernel) rfl rfl rfl (by decide +kernel)
def codes1 : List Jvm.Cond := [Jvm.Cond.code x code maxLocals ret, Jvm.Cond.code ({ cls := "java/lang/String", name := "<init>", desc := "([C)V" } : Jvm.MethodName) jdk_42_method_3_code (2 : Nat) (Option.none : Option Jvm.ClassFile.FieldType), Jvm.Cond.code ({ cls := "java/lang/String", name := "<init>", desc := "([CIILjava/lang/Void;)V" } : Jvm.MethodName) jdk_42_method_149_code (6 : Nat) (Option.none : Option Jvm.ClassFile.FieldType), Jvm.Cond.code ({ cls := "java/lang/Object", name := "<init>", desc := "()V" } : Jvm.MethodName) object_method_1_code (1 : Nat) (Option.none : Option Jvm.ClassFile.FieldType), Jvm.Cond.code ({ cls := "com/example/vestline/vestline/format/Csv", name := "printable", desc := "(Ljava/lang/String;)Ljava/lang/String;" } : Jvm.MethodName) prog_10_method_4_code (1 : Nat) (Option.some (Jvm.ClassFile.FieldType.object "java/lang/String")), Jvm.Cond.code ({ cls := "java/lang/String", name := "isEmpty", desc := "()Z" } : Jvm.MethodName) jdk_42_method_55_code (1 : Nat) (Option.some Jvm.ClassFile.FieldType.boolean), Jvm.Cond.code ({ cls := "java/lang/String", name := "length", desc := "()I" } : Jvm.MethodName) jdk_42_method_54_code (1 : Nat) (Option.some Jvm.ClassFile.FieldType.int), Jvm.Cond.code ({ cls := "java/lang/String", name := "coder", desc := "()B" } : Jvm.MethodName) jdk_42_method_152_code (1 : Nat) (Option.some Jvm.ClassFile.FieldType.byte), Jvm.Cond.code ({ cls := "java/lang/String", name := "equals", desc := "(Ljava/lang/Object;)Z" } : Jvm.MethodName) jdk_42_method_66_code (3 : Nat) (Option.some Jvm.ClassFile.FieldType.boolean), Jvm.Cond.code ({ cls := "java/lang/StringUTF16", name := "compress", desc := "([CII)[B" } : Jvm.MethodName) jdk_52_method_16_code (6 : Nat) (Option.some (Jvm.ClassFile.FieldType.array Jvm.ClassFile.FieldType.byte)), Jvm.Cond.code ({ cls := "java/lang/StringUTF16", name := "compress", desc := "([CI[BII)I" } : Jvm.MethodName) jdk_52_method_21_code (7 : Nat) (Option.some Jvm.ClassFile.FieldType.int), Jvm.Cond.code ({ cls := "java/lang/StringUTF16", name := "coderFromArrayLen", desc := "([BI)B" } : Jvm.MethodName) jdk_52_method_15_code (2 : Nat) (Option.some Jvm.ClassFile.FieldType.byte), Jvm.Cond.code ({ cls := "com/example/vestline/vestline/format/CsvPrintablePinLaw", name := "formulaStart", desc := "(C)Z" } : Jvm.MethodName) method_2_code (1 : Nat) (Option.some Jvm.ClassFile.FieldType.boolean), Jvm.Cond.code ({ cls := "java/lang/String", name := "charAt", desc := "(I)C" } : Jvm.MethodName) jdk_42_method_56_code (2 : Nat) (Option.some Jvm.ClassFile.FieldType.char), Jvm.Cond.code ({ cls := "java/lang/String", name := "isLatin1", desc := "()Z" } : Jvm.MethodName) jdk_42_method_154_code (1 : Nat) (Option.some Jvm.ClassFile.FieldType.boolean), Jvm.Cond.code ({ cls := "java/lang/StringLatin1", name := "charAt", desc := "([BI)C" } : Jvm.MethodName) jdk_43_method_2_code (2 : Nat) (Option.some Jvm.ClassFile.FieldType.char), Jvm.Cond.code ({ cls := "java/lang/String", name := "checkIndex", desc := "(II)V" } : Jvm.MethodName) jdk_42_method_155_code (2 : Nat) (Option.none : Option Jvm.ClassFile.FieldType), Jvm.Cond.code ({ cls := "jdk/internal/util/Preconditions", name := "checkIndex", desc := "(IILjava/util/function/BiFunction;)I" } : Jvm.MethodName) jdk_41_method_11_code (3 : Nat) (Option.some Jvm.ClassFile.FieldType.int), Jvm.Cond.code ({ cls := "java/lang/String", name := "indexOf", desc := "(I)I" } : Jvm.MethodName) jdk_42_method_79_code (2 : Nat) (Option.some Jvm.ClassFile.FieldType.int), Jvm.Cond.code ({ cls := "java/lang/String", name := "indexOf", desc := "(II)I" } : Jvm.MethodName) jdk_42_method_80_code (3 : Nat) (Option.some Jvm.ClassFile.FieldType.int), Jvm.Cond.code ({ cls := "java/lang/StringLatin1", name := "indexOf", desc := "([BIII)I" } : Jvm.MethodName) jdk_43_method_22_code (4 : Nat) (Option.some Jvm.ClassFile.FieldType.int), Jvm.Cond.code ({ cls := "java/lang/StringLatin1", name := "canEncode", desc := "(I)Z" } : Jvm.MethodName) jdk_43_method_4_code (1 : Nat) (Option.some Jvm.ClassFile.FieldType.boolean), Jvm.Cond.code ({ cls := "java/lang/Math", name := "max", desc := "(II)I" } : Jvm.MethodName) jdk_29_method_65_code (2 : Nat) (Option.some Jvm.ClassFile.FieldType.int), Jvm.Cond.code ({ cls := "java/lang/Math", name := "min", desc := "(II)I" } : Jvm.MethodName) jdk_29_method_69_code (2 : Nat) (Option.some Jvm.ClassFile.FieldType.int), Jvm.Cond.code ({ cls := "java/lang/StringLatin1", name := "indexOfChar", desc := "([BIII)I" } : Jvm.MethodName) jdk_43_method_23_code (6 : Nat) (Option.some Jvm.ClassFile.FieldType.int), Jvm.Cond.code ({ cls := "java/lang/StringUTF16", name := "toBytes", desc := "([CII)[B" } : Jvm.MethodName) jdk_52_method_14_code (5 : Nat) (Option.some (Jvm.ClassFile.FieldType.array Jvm.ClassFile.FieldType.byte)), Jvm.Cond.code ({ cls := "java/lang/StringUTF16", name := "newBytesFor", desc := "(I)[B" } : Jvm.MethodName) jdk_52_method_2_code (1 : Nat) (Option.some (Jvm.ClassFile.FieldType.array Jvm.ClassFile.FieldType.byte)), Jvm.Cond.code ({ cls := "java/lang/StringUTF16", name := "newBytesLength", desc := "(I)I" } : Jvm.MethodName) jdk_52_method_3_code (1 : Nat) (Option.some Jvm.ClassFile.FieldType.int), Jvm.Cond.code ({ cls := "java/lang/StringUTF16", name := "putChar", desc := "([BII)V" } : Jvm.MethodName) jdk_52_method_4_code (3 : Nat) (Option.none : Option Jvm.ClassFile.FieldType), Jvm.Cond.code ({ cls := "java/lang/StringUTF16", name := "getChar", desc := "([BI)C" } : Jvm.MethodName) jdk_52_method_5_code (2 : Nat) (Option.some Jvm.ClassFile.FieldType.char), Jvm.Cond.code ({ cls := "java/lang/StringUTF16", name := "charAt", desc := "([BI)C" } : Jvm.MethodName) jdk_52_method_83_code (2 : Nat) (Option.some Jvm.ClassFile.FieldType.char), Jvm.Cond.code ({ cls := "java/lang/StringUTF16", name := "checkIndex", desc := "(I[B)V" } : Jvm.MethodName) jdk_52_method_91_code (2 : Nat) (Option.none : Option Jvm.ClassFile.FieldType), Jvm.Cond.code ({ cls := "java/lang/StringUTF16", name := "length", desc := "([B)I" } : Jvm.MethodName) jdk_52_method_6_code (1 : Nat) (Option.some Jvm.ClassFile.FieldType.int)]
set_option maxRecDepth 65536 in
theorem codes_eq : words1.filter isCode = codes1 := rfl
theorem w_codes : ∀ c ∈ words1.filter isCode, c.before args0 about1 = true := by
  rw [codes_eq]
  intro c hc
  simp only [codes1, List.mem_cons, List.not_mem_nil, or_false] at hc
  rcases hc with rfl | rfl | rfl | rfl | rfl | rfl | rfl | rfl | rfl | rfl | rfl | rfl | rfl | rfl | rfl | rfl | rfl | rfl | rfl | rfl | rfl | rfl | rfl | rfl | rfl | rfl | rfl | rfl | rfl | rfl | rfl | rfl | rfl
  · exact w_c0
  · exact w_c1
  · exact w_c2
  · exact w_c3
  · exact w_c4
  · exact w_c5
  · exact w_c6
  · exact w_c7
  · exact w_c8
  · exact w_c9
  · exact w_c10
  · exact w_c11
  · exact w_c12
  · exact w_c13
  · exact w_c14
  · exact w_c15
  · exact w_c16
  · exact w_c17
  · exact w_c18
  · exact w_c19
  · exact w_c20
  · exact w_c21
  · exact w_c22
  · exact w_c23
  · exact w_c24
  · exact w_c25
  · exact w_c26
  · exact w_c27
  · exact w_c28
  · exact w_c29
  · exact w_c30
  · exact w_c31
  · exact w_c32
set_option maxRecDepth 65536 in
theorem w_t1 : (words1.take 24).all (fun c => isCode c || c.before args0 about1) = true := by decide +kernel
set_option maxRecDepth 65536 in
theorem w_t2 : ((words1.drop 24).take 24).all (fun c => isCode c || c.before args0 about1) = true := by decide +kernel
set_option maxRecDepth 65536 in
theorem w_t3 : (((words1.drop 24).drop 24).take 24).all (fun c => isCode c || c.before args0 about1) = true := by decide +kernel
set_option maxRecDepth 65536 in
theorem w_t4 : ((((words1.drop 24).drop 24).drop 24).take 24).all (fun c => isCode c || c.before args0 about1) = true := by decide +kernel
set_option maxRecDepth 65536 in
theorem w_t5 : (((((words1.drop 24).drop 24).drop 24).drop 24).take 24).all (fun c => isCode c || c.before args0 about1) = true := by decide +kernel
set_option maxRecDepth 65536 in
theorem w_t6 : (((((words1.drop 24).drop 24).drop 24).drop 24).drop 24).all (fun c => isCode c || c.before args0 about1) = true := by decide +kernel
theorem w_tables : (allAtoms (Jvm.Cond.code x code maxLocals ret :: tables_1)).before args0 about1 = true := by
  rw [allAtoms_all]
  show words1.all (fun c => c.before args0 about1) = true
  refine all_split ?_ w_codes
  rw [← List.take_append_drop 24 words1, List.all_append, w_t1, ← List.take_append_drop 24 (words1.drop 24), List.all_append, w_t2, ← List.take_append_drop 24 ((words1.drop 24).drop 24), List.all_append, w_t3, ← List.take_append_drop 24 (((words1.drop 24).drop 24).drop 24), List.all_append, w_t4, ← List.take_append_drop 24 ((((words1.drop 24).drop 24).drop 24).drop 24), List.all_append, w_t5, w_t6]
  rfl
set_option maxRecDepth 65536 in
theorem w_rest : rest_1_c.before args0 about1 = true := by decide +kernel
set_option maxRecDepth 65536 in
theorem w_case : (Jvm.Cond.and given_1 narrow_1).before args0 about1 = true := by decide +kernel
set_option maxRecDepth 65536 in
theorem w_consts : constsHeld consts_1 about1 := Jvm.Lit.constsHeldB_iff.mp (by decide +kernel)
theorem w_applies : (headSpec (Jvm.Cond.code x code maxLocals ret :: tables_1) room_1).applies x e0.platform about1 = true :=
  (Spec.applies_iff w_frames).mpr ⟨w_running, w_runnable, w_alone, w_named, w_hears, w_ripe, w_room, w_tables⟩
theorem atStart : AtStart classFile x code maxLocals ret World_1 tables_1 room_1 Calls_1 rest_1 Pre_1 launch0 p0 e0 about1 theMethod args0 below0 :=
  ⟨lists_1, trivial, launch0.admits_env _ _ _, launch0.least_env, fairChoices_fair.cas, fairChoices_fair.clock, w_frames, w_args, w_heap, w_applies, ⟨w_consts, trivial⟩, w_rest, w_case⟩
end start1
theorem witness_1 : WitnessClaimed_1 := ⟨start1.p0, start1.e0, start1.about1, start1.theMethod, start1.args0, start1.below0, start1.atStart⟩
end Jvm.Pilot.@@N@@
