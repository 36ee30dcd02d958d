import JvmDerived
import JvmDerived.Pilot.@@N@@Statement
import JvmDerived.Pilot.@@N@@Code
set_option linter.unusedVariables false
set_option linter.unusedSimpArgs false
namespace Jvm.RoadKit
open Sem ClassFile Op Lib Jvm.Stand Jvm.Free Jvm.LawKit
section Own
variable {p : Program} {l : Launch} {e : Env} {R : Room} {s : State} {m : MethodId} {args : Array Value} {below : List Frame} {meth : Method} {c : Code} {T : State} {locs : List Loc} {cells slots : Nat}
theorem retI (X : Stand p l e R s m args below meth c T locs cells slots) (hx : p.tables.exec = Jvm.exec) {pc : Nat} {Ls : Array Slot} {z : Int32} {rest : List Value} (hret : meth.sig.returnType = some .int) (hd : decode c.code pc = .ok (.ireturn, 1)) {fs : List Frame}
    (hl : ∀ (f : JFrame) (acts : List Action), f.method = m → f.locked = none → f.entered = [] → (doReturn e (T.setTop f) acts (some (.int z))).1 = T.setFrames fs) : Steps p.tables e below (T.setTop (mkF m pc Ls (.int z :: rest))) (T.setFrames fs) := by
  have hm' : T.vm.method? m = some meth := X.method'
  have hn : narrow .int (.int z) = .int z := rfl
  show Steps p.tables e below (T.setTop { method := m, pc := pc, locals := Ls, stack := _ :: rest, locked := none }) _
  jvm_step X.here [X.here.top, hx, hd, hm', hret, hn]
  first | (intro acts; rw [hl _ acts rfl rfl rfl]) | rw [hl _ _ rfl rfl rfl]
  exact Steps.refl _
/-- the walk comes to an end, with what Φ says there -/
def Goes (p : Program) (e : Env) (below : List Frame) (Φ : State → Outcome → Prop) (S : State) : Prop := ∃ s₂ o, Steps p.tables e below S s₂ ∧ s₂.status = .running ∧ Ended s₂ below o ∧ Φ s₂ o
theorem Goes.via {Φ : State → Outcome → Prop} {S S' : State} (k : ∀ t, Steps p.tables e below S' t → Steps p.tables e below S t) (h : Goes p e below Φ S') : Goes p e below Φ S := by
  obtain ⟨s₂, o, h1, h2, h3, h4⟩ := h
  exact ⟨s₂, o, k _ h1, h2, h3, h4⟩
/-- what a contract's end says -/
def Fin (s : State) (Q : Option Value → Heap → List Loc → Prop) (C S : Nat) : State → Outcome → Prop := fun s₂ o => ∃ v L, o = .returned v ∧ Q v s₂.heap L ∧ FrameEnd s o s₂ L C S
theorem Goes.retN (X : Stand p l e R s m args below meth c T locs cells slots) (hx : p.tables.exec = Jvm.exec) (hlocks : meth.locks = false) {pc : Nat} {Ls : Array Slot} {z : Int32} {t : FieldType} {rest : List Value} (hret : meth.sig.returnType = some t) (ht : t = .boolean ∨ t = .byte ∨ t = .char ∨ t = .short)
    (hd : decode c.code pc = .ok (.ireturn, 1)) {Q : Option Value → Heap → List Loc → Prop} {C S : Nat} (hc : cells ≤ C) (hs : slots ≤ S) (hQ : Q (some (.int (nar t z))) T.heap locs) : Goes p e below (Fin s Q C S) (T.setTop (mkF m pc Ls (.int z :: rest))) := by
  obtain ⟨fs, hr, hrun, hended, hW, hsame⟩ := X.leave (v := some (.int (nar t z))) (fun h => by rw [hret] at h; cases h) hlocks
  exact ⟨_, _, Jvm.RoadKit.retN X hx hret ht hd hr, hrun, hended, _, _, rfl, hQ, ⟨_, rfl⟩, hW, hsame.mono hc hs⟩
theorem Goes.retI (X : Stand p l e R s m args below meth c T locs cells slots) (hx : p.tables.exec = Jvm.exec) (hlocks : meth.locks = false) {pc : Nat} {Ls : Array Slot} {z : Int32} {rest : List Value} (hret : meth.sig.returnType = some .int)
    (hd : decode c.code pc = .ok (.ireturn, 1)) {Q : Option Value → Heap → List Loc → Prop} {C S : Nat} (hc : cells ≤ C) (hs : slots ≤ S) (hQ : Q (some (.int z)) T.heap locs) : Goes p e below (Fin s Q C S) (T.setTop (mkF m pc Ls (.int z :: rest))) := by
  obtain ⟨fs, hr, hrun, hended, hW, hsame⟩ := X.leave (v := some (.int z)) (fun h => by rw [hret] at h; cases h) hlocks
  exact ⟨_, _, Jvm.RoadKit.retI X hx hret hd hr, hrun, hended, _, _, rfl, hQ, ⟨_, rfl⟩, hW, hsame.mono hc hs⟩
theorem Goes.retO (X : Stand p l e R s m args below meth c T locs cells slots) (hx : p.tables.exec = Jvm.exec) (hlocks : meth.locks = false) {pc : Nat} {Ls : Array Slot} {w : Value} {t : FieldType} {i : Instr} {rest : List Value} (hret : meth.sig.returnType = some t) (hn : narrow t w = w)
    (hi : (i = .ireturn ∧ (t = .int ∨ t = .boolean ∨ t = .byte ∨ t = .char ∨ t = .short) ∧ ∃ z, w = .int z) ∨ (i = .lreturn ∧ t = .long ∧ ∃ z, w = .long z) ∨ (i = .dreturn ∧ t = .double ∧ ∃ z, w = .double z) ∨ (i = .freturn ∧ t = .float ∧ ∃ z, w = .float z) ∨ (i = .areturn ∧ t.isReference = true ∧ w.isRef = true))
    (hd : decode c.code pc = .ok (i, 1)) {Q : Option Value → Heap → List Loc → Prop} {C S : Nat} (hc : cells ≤ C) (hs : slots ≤ S) (hQ : Q (some w) T.heap locs) : Goes p e below (Fin s Q C S) (T.setTop (mkF m pc Ls (w :: rest))) := by
  obtain ⟨fs, hr, hrun, hended, hW, hsame⟩ := X.leave (v := some w) (fun h => by rw [hret] at h; cases h) hlocks
  exact ⟨_, _, Jvm.RoadKit.retOut X hx hret hn hi hd hr, hrun, hended, _, _, rfl, hQ, ⟨_, rfl⟩, hW, hsame.mono hc hs⟩
theorem Goes.retV (X : Stand p l e R s m args below meth c T locs cells slots) (hx : p.tables.exec = Jvm.exec) (hlocks : meth.locks = false) {pc : Nat} {Ls : Array Slot} (hret : meth.sig.returnType = none)
    (hd : decode c.code pc = .ok (.return_, 1)) {Q : Option Value → Heap → List Loc → Prop} {C S : Nat} (hc : cells ≤ C) (hs : slots ≤ S) (hQ : Q none T.heap locs) : Goes p e below (Fin s Q C S) (T.setTop (mkF m pc Ls [])) := by
  obtain ⟨fs, hr, hrun, hended, hW, hsame⟩ := X.leave (v := none) (fun _ => rfl) hlocks
  exact ⟨_, _, X.returnOut hx hret hd hr, hrun, hended, _, _, rfl, hQ, ⟨_, rfl⟩, hW, hsame.mono hc hs⟩
/-- room counted generously -/
theorem moreRoom (X : Stand p l e R s m args below meth c T locs cells slots) {k n : Nat} (h1 : cells ≤ k) (h2 : slots ≤ n) : Stand p l e R s m args below meth c T locs k n := { X with same := X.same.mono h1 h2 }
theorem exa_static {args : Array Value} {s : State} {C n d K : String} (h : (Jvm.Cond.exactly (Jvm.Term.static C n d) K).value args s none s [] = some true) : ∃ b, (Jvm.Term.static C n d).eval args s none [] s = some (.ref b) ∧ Exa s s.heap b K := by
  obtain ⟨b, e1⟩ := exa_v h
  exact ⟨b, e1, Exa.start e1 h⟩
theorem fld_static {args : Array Value} {s : State} {t : Jvm.Term} {b : Addr} {C n d : String} {k : Int32} (ev : t.eval args s none [] s = some (.ref b)) (h : (Jvm.Cond.eq (Jvm.Term.field t C n d) (Jvm.Term.int k)).value args s none s [] = some true) : Fld s s.heap b C n d (.int k) := by
  exact Fld.start ((fld_at ev).symm.trans (eqv_i (Term.int_eval k) h))
theorem adr_ne {a b k k' : Nat} (h : a < k) (g : b = k') (q : k ≤ k') : a ≠ b := by omega
theorem cat_ref {v : Value} (h : v.isRef = true) : v.category = 1 := by rcases ref_cases h with rfl | ⟨_, rfl⟩ <;> rfl
theorem narrow_ref {v : Value} {t : FieldType} (h : v.isRef = true) : narrow t v = v := by rcases ref_cases h with rfl | ⟨_, rfl⟩ <;> cases t <;> rfl
theorem fits_refO {v : Value} {C : String} (h : v.isRef = true) : fits (.object C) v = true := by rcases ref_cases h with rfl | ⟨_, rfl⟩ <;> rfl
theorem fld_null {args : Array Value} {s : State} {t : Jvm.Term} {b : Addr} {C n d : String} (ev : t.eval args s none [] s = some (.ref b)) (h : (Jvm.Cond.eq (Jvm.Term.field t C n d) Jvm.Term.null).value args s none s [] = some true) : Fld s s.heap b C n d .null := Fld.start ((fld_at ev).symm.trans (null_v h))
theorem ret1 {z : Int32} (h : z = 1) : some (Value.int (nar .boolean z)) = some (.int 1) := by subst h; rfl
end Own
end Jvm.RoadKit
namespace Jvm.RoadKit
open Sem ClassFile Op Lib Jvm.Stand Jvm.Free Jvm.LawKit
section OwnH
variable {p : Program} {l : Launch} {e : Env} {R : Room} {s : State} {m : MethodId} {args : Array Value} {below : List Frame} {meth : Method} {c : Code} {T : State} {locs : List Loc} {cells slots : Nat} {Z : State} {a0 : Array Value} {EL : List (String × Nat)} {h : Heap}
/-- what a contract's end says where held constants are used -/
def FinH (s Z : State) (EL : List (String × Nat)) (Q : Option Value → Heap → List Loc → Prop) (C S : Nat) : State → Outcome → Prop := fun s₂ o => ∃ v L, o = .returned v ∧ Q v s₂.heap L ∧ CHr Z EL s.vm s.heap s₂.vm s₂.heap ∧ ReturnedEndW s o s₂ L C S
theorem Goes.retOH {vm1 : Vm} (X : Stand p l e R (s.setVm vm1) m args below meth c T locs cells slots) (hx : p.tables.exec = Jvm.exec) (hlocks : meth.locks = false) {k : Nat} (hS : s.Since vm1 k) (hk : k ≤ h.size) (eT : T.heap = h) (hZ : Z.Warmed39 vm1) (hEL : EW Z a0 EL) (hC : CHr Z EL s.vm s.heap vm1 h) {pc : Nat} {Ls : Array Slot} {w : Value} {t : FieldType} {i : Instr} {rest : List Value} (hret : meth.sig.returnType = some t) (hn : narrow t w = w)
    (hi : (i = .ireturn ∧ (t = .int ∨ t = .boolean ∨ t = .byte ∨ t = .char ∨ t = .short) ∧ ∃ z, w = .int z) ∨ (i = .lreturn ∧ t = .long ∧ ∃ z, w = .long z) ∨ (i = .dreturn ∧ t = .double ∧ ∃ z, w = .double z) ∨ (i = .freturn ∧ t = .float ∧ ∃ z, w = .float z) ∨ (i = .areturn ∧ t.isReference = true ∧ w.isRef = true))
    (hd : decode c.code pc = .ok (i, 1)) {Q : Option Value → Heap → List Loc → Prop} {C S : Nat} (hc : cells ≤ C) (hs : slots ≤ S) (hQ : Q (some w) T.heap locs) : Goes p e below (FinH s Z EL Q C S) (T.setTop (mkF m pc Ls (w :: rest))) := by
  subst eT
  have hf : CHr Z EL s.vm s.heap T.vm T.heap := hC.trans (CHv.at X hZ hEL hC.1)
  obtain ⟨fs, hr, hrun, hended, h1, h2, h3, h4⟩ := X.leaveW hS hk (v := some w) (fun h => by rw [hret] at h; cases h) hlocks
  exact ⟨_, _, Jvm.RoadKit.retOut X hx hret hn hi hd hr, hrun, hended, _, _, rfl, hQ, hf, h1, h2, h3, h4.mono hc hs⟩
theorem Goes.retVH {vm1 : Vm} (X : Stand p l e R (s.setVm vm1) m args below meth c T locs cells slots) (hx : p.tables.exec = Jvm.exec) (hlocks : meth.locks = false) {k : Nat} (hS : s.Since vm1 k) (hk : k ≤ h.size) (eT : T.heap = h) (hZ : Z.Warmed39 vm1) (hEL : EW Z a0 EL) (hC : CHr Z EL s.vm s.heap vm1 h) {pc : Nat} {Ls : Array Slot} (hret : meth.sig.returnType = none)
    (hd : decode c.code pc = .ok (.return_, 1)) {Q : Option Value → Heap → List Loc → Prop} {C S : Nat} (hc : cells ≤ C) (hs : slots ≤ S) (hQ : Q none T.heap locs) : Goes p e below (FinH s Z EL Q C S) (T.setTop (mkF m pc Ls [])) := by
  subst eT
  have hf : CHr Z EL s.vm s.heap T.vm T.heap := hC.trans (CHv.at X hZ hEL hC.1)
  obtain ⟨fs, hr, hrun, hended, h1, h2, h3, h4⟩ := X.leaveW hS hk (v := none) (fun _ => rfl) hlocks
  exact ⟨_, _, X.returnOut hx hret hd hr, hrun, hended, _, _, rfl, hQ, hf, h1, h2, h3, h4.mono hc hs⟩
theorem Goes.retNH {vm1 : Vm} (X : Stand p l e R (s.setVm vm1) m args below meth c T locs cells slots) (hx : p.tables.exec = Jvm.exec) (hlocks : meth.locks = false) {k : Nat} (hS : s.Since vm1 k) (hk : k ≤ h.size) (eT : T.heap = h) (hZ : Z.Warmed39 vm1) (hEL : EW Z a0 EL) (hC : CHr Z EL s.vm s.heap vm1 h) {pc : Nat} {Ls : Array Slot} {z : Int32} {t : FieldType} {rest : List Value} (hret : meth.sig.returnType = some t) (ht : t = .boolean ∨ t = .byte ∨ t = .char ∨ t = .short)
    (hd : decode c.code pc = .ok (.ireturn, 1)) {Q : Option Value → Heap → List Loc → Prop} {C S : Nat} (hc : cells ≤ C) (hs : slots ≤ S) (hQ : Q (some (.int (nar t z))) T.heap locs) : Goes p e below (FinH s Z EL Q C S) (T.setTop (mkF m pc Ls (.int z :: rest))) := by
  subst eT
  have hf : CHr Z EL s.vm s.heap T.vm T.heap := hC.trans (CHv.at X hZ hEL hC.1)
  obtain ⟨fs, hr, hrun, hended, h1, h2, h3, h4⟩ := X.leaveW hS hk (v := some (.int (nar t z))) (fun h => by rw [hret] at h; cases h) hlocks
  exact ⟨_, _, Jvm.RoadKit.retN X hx hret ht hd hr, hrun, hended, _, _, rfl, hQ, hf, h1, h2, h3, h4.mono hc hs⟩
/-- two stretches that may intern, as one -/
theorem own_fold {vm0 : Vm} {k0 : Nat} {U : State} {h0 : Heap} (hS : s.Since vm0 k0) (hk : k0 ≤ h0.size) (h2 : (s.setVm vm0).Since U.vm U.heap.size) (g : h0.size ≤ U.heap.size) : s.Since U.vm U.heap.size := hS.trans h2 (Nat.le_trans hk g)
end OwnH
end Jvm.RoadKit
namespace Jvm.RoadKit
open Sem ClassFile Op Lib Bundle Jvm.Stand Jvm.Free Jvm.LawKit Jvm.Free.SB Jvm.Free.SBG
/-- a String whose value is still null is no booked one -/
theorem own_safe {Z : State} {EL : List (String × Nat)} {vm : Vm} {h : Heap} {x : Addr} (hal : Z.vm.Alike vm) (E : Exa Z h x "java/lang/String") (F : Fld Z h x "java/lang/String" "value" "[B" .null) : Safe Z EL vm h x := fun B => by
  obtain ⟨p, -, u, a, -, q, -, S, rfl | rfl⟩ := B
  · obtain ⟨cS, ⟨⟨s1, s2, s3, ⟨cv, kv, iv, s4, s4'⟩, s5, s6, s7, s8, r⟩, hfS, hcS⟩, -⟩ := S
    obtain ⟨cell, c0, k0, i0, f0, e1, e2, e3, e4, e5, e6, e7⟩ := F
    cases (show h[q.sa]? = some q.sC from s1).symm.trans e1
    obtain ⟨k', g1, -⟩ := State.fieldFound?_setVm (s := Z) hal e2
    have g2 : (Wst Z vm h).fieldFound? "java/lang/String" "value" "[B" = some (cv, kv, iv, q.fSV) := s4
    have g3 : (Wst Z vm h).fieldFound? "java/lang/String" "value" "[B" = some (c0, k', i0, f0) := g1
    cases g2.symm.trans g3
    cases s8.symm.trans e7
  · obtain ⟨cell, k, e1, e2, e3, -, -⟩ := E
    cases (show h[q.sd]? = some q.SA from S.hd).symm.trans e1
    obtain ⟨cS, -, -, f, -⟩ := S
    have f : vm.findClass "[B" = some q.SA.cls := f
    rw [hal.findClass] at f
    obtain ⟨k1, q1, q2⟩ := Vm.findClass_spec f
    obtain ⟨k2, q3, q4⟩ := Vm.findClass_spec e2
    cases q1.symm.trans q3
    exact absurd (q2.symm.trans q4) (by decide)
end Jvm.RoadKit
namespace Jvm.Pilot.@@N@@
open Jvm Jvm.ClassFile Sem Op Lib Jvm.Free Jvm.Stand Jvm.LawKit Jvm.RoadKit Bundle Jvm.Pilot.@@N@@.Jvm.D
theorem w_ {Z : State} {a0 : Array Value} {d : Jvm.Cond} (hw : ∀ d ∈ tables_1, d.before a0 Z = true) (i : Nat) (h : tables_1[i]? = some d) : d.before a0 Z = true := hw _ (List.mem_of_getElem? h)
abbrev own_M (l : Launch) (Z : State) (y : MethodName) (c : Jvm.Cond) (ws : List Jvm.Cond) (R : Room) (a : Array Value) (h0 : Heap) (Q : Option Value → Heap → List Loc → Prop) : Prop := MetFree l y (head1 (c :: ws) R) (fun a' U => a' = a ∧ Z.Warmed39 U.vm ∧ U.heap = h0) (fun _ _ _ _ _ => True) (fun _ U oo U' => ∃ vv LL, oo = .returned vv ∧ Q vv U'.heap LL ∧ FrameEnd U oo U' LL R.cells R.slots)
theorem pd_0 : parseMethodDescriptor "([CIILjava/lang/Void;)V" = some ⟨[(.array .char), .int, .int, (.object "java/lang/Void")], none⟩ := by decide +kernel
theorem pd_1 : parseMethodDescriptor "([CI[BII)I" = some ⟨[(.array .char), .int, (.array .byte), .int, .int], some .int⟩ := by decide +kernel
theorem pd_2 : parseMethodDescriptor "([CII)[B" = some ⟨[(.array .char), .int, .int], some (.array .byte)⟩ := by decide +kernel
theorem pd_3 : parseMethodDescriptor "([BI)B" = some ⟨[(.array .byte), .int], some .byte⟩ := by decide +kernel
theorem pd_4 : parseMethodDescriptor "([C)V" = some ⟨[(.array .char)], none⟩ := by decide +kernel
theorem pd_5 : parseMethodDescriptor "()V" = some ⟨[], none⟩ := by decide +kernel
theorem pd_6 : parseMethodDescriptor "([B[B)Z" = some ⟨[(.array .byte), (.array .byte)], some .boolean⟩ := by decide +kernel
theorem pd_7 : parseMethodDescriptor "(Ljava/lang/Object;)Z" = some ⟨[(.object "java/lang/Object")], some .boolean⟩ := by decide +kernel
theorem pd_8 : parseMethodDescriptor "(ICCC)Ljava/lang/String;" = some ⟨[.int, .char, .char, .char], some (.object "java/lang/String")⟩ := by decide +kernel
theorem pd_9 : parseMethodDescriptor "(I)Lcom/example/loopwright/loopwright/Lexer$Kind;" = some ⟨[.int], some (.object "com/example/loopwright/loopwright/Lexer$Kind")⟩ := by decide +kernel
theorem pd_10 : parseMethodDescriptor "(Lcom/example/loopwright/loopwright/Lexer$Kind;Ljava/lang/String;II)V" = some ⟨[(.object "com/example/loopwright/loopwright/Lexer$Kind"), (.object "java/lang/String"), .int, .int], none⟩ := by decide +kernel
theorem pd_11 : parseMethodDescriptor "(Ljava/lang/String;)Z" = some ⟨[(.object "java/lang/String")], some .boolean⟩ := by decide +kernel
/-- a Latin-1 String as it stands -/
def own_Str (Z : State) (h : Heap) (a b : Addr) (k : ClassId) (n : Int32) (vs : List Value) : Prop := Exa Z h a "java/lang/String" ∧ Fld Z h a "java/lang/String" "coder" "B" (.int 0) ∧ Fld Z h a "java/lang/String" "value" "[B" (.ref b) ∧ Arv Z h b k .byte n vs (.int 0)
theorem own_Str.ext {Z : State} {h h' : Heap} {a b : Addr} {k : ClassId} {n : Int32} {vs : List Value} (S : own_Str Z h a b k n vs) (E : Ext h h') : own_Str Z h' a b k n vs := ⟨S.1.ext E, S.2.1.ext E, S.2.2.1.ext E, S.2.2.2.ext E⟩
theorem own_Str.keep {Z : State} {h h' : Heap} {a b : Addr} {k : ClassId} {n : Int32} {vs : List Value} {ws : List Addr} (S : own_Str Z h a b k n vs) (K : Keep h h' ws) (q1 : a ∉ ws) (q2 : b ∉ ws) : own_Str Z h' a b k n vs := ⟨S.1.keep K, S.2.1.keep K q1, S.2.2.1.keep K q1, S.2.2.2.keep K q2⟩
theorem own_Str.lt {Z : State} {h : Heap} {a b : Addr} {k : ClassId} {n : Int32} {vs : List Value} (S : own_Str Z h a b k n vs) : a < h.size ∧ b < h.size := ⟨S.1.lt, S.2.2.2.lt⟩
def own_by (c : Int32) : Int32 := nar .byte c.toInt8.toInt32
theorem own_EW {Z : State} {a0 : Array Value} (hw : ∀ d ∈ tables_1, d.before a0 Z = true) : EW Z a0 consts_1 := by
  intro p hp
  simp only [consts_1, List.mem_cons, List.not_mem_nil, or_false] at hp
  subst hp
  exact ⟨"", (w_ hw 68 rfl), by decide⟩
theorem d3_0 : decode jdk_42_method_149_code 0 = .ok (.aload_n 0, 1) := by decide +kernel
theorem d3_1 : decode jdk_42_method_149_code 1 = .ok (.invokespecial 1, 3) := by decide +kernel
theorem d3_4 : decode jdk_42_method_149_code 4 = .ok (.iload_n 3, 1) := by decide +kernel
theorem d3_5 : decode jdk_42_method_149_code 5 = .ok (.ifCond .ne 22, 3) := by decide +kernel
theorem d3_8 : decode jdk_42_method_149_code 8 = .ok (.aload_n 0, 1) := by decide +kernel
theorem d3_9 : decode jdk_42_method_149_code 9 = .ok (.ldc 7, 2) := by decide +kernel
theorem d3_11 : decode jdk_42_method_149_code 11 = .ok (.getfield 9, 3) := by decide +kernel
theorem d3_14 : decode jdk_42_method_149_code 14 = .ok (.putfield 9, 3) := by decide +kernel
theorem d3_17 : decode jdk_42_method_149_code 17 = .ok (.aload_n 0, 1) := by decide +kernel
theorem d3_18 : decode jdk_42_method_149_code 18 = .ok (.ldc 7, 2) := by decide +kernel
theorem d3_20 : decode jdk_42_method_149_code 20 = .ok (.getfield 15, 3) := by decide +kernel
theorem d3_23 : decode jdk_42_method_149_code 23 = .ok (.putfield 15, 3) := by decide +kernel
theorem d3_26 : decode jdk_42_method_149_code 26 = .ok (.return_, 1) := by decide +kernel
theorem d3_27 : decode jdk_42_method_149_code 27 = .ok (.getstatic 38, 3) := by decide +kernel
theorem d3_30 : decode jdk_42_method_149_code 30 = .ok (.ifCond .eq 28, 3) := by decide +kernel
theorem d3_33 : decode jdk_42_method_149_code 33 = .ok (.aload_n 1, 1) := by decide +kernel
theorem d3_34 : decode jdk_42_method_149_code 34 = .ok (.iload_n 2, 1) := by decide +kernel
theorem d3_35 : decode jdk_42_method_149_code 35 = .ok (.iload_n 3, 1) := by decide +kernel
theorem d3_36 : decode jdk_42_method_149_code 36 = .ok (.invokestatic 177, 3) := by decide +kernel
theorem d3_39 : decode jdk_42_method_149_code 39 = .ok (.astore 5, 2) := by decide +kernel
theorem d3_41 : decode jdk_42_method_149_code 41 = .ok (.aload_n 0, 1) := by decide +kernel
theorem d3_42 : decode jdk_42_method_149_code 42 = .ok (.aload 5, 2) := by decide +kernel
theorem d3_44 : decode jdk_42_method_149_code 44 = .ok (.iload_n 3, 1) := by decide +kernel
theorem d3_45 : decode jdk_42_method_149_code 45 = .ok (.invokestatic 47, 3) := by decide +kernel
theorem d3_48 : decode jdk_42_method_149_code 48 = .ok (.putfield 15, 3) := by decide +kernel
theorem d3_51 : decode jdk_42_method_149_code 51 = .ok (.aload_n 0, 1) := by decide +kernel
theorem d3_52 : decode jdk_42_method_149_code 52 = .ok (.aload 5, 2) := by decide +kernel
theorem d3_54 : decode jdk_42_method_149_code 54 = .ok (.putfield 9, 3) := by decide +kernel
theorem d3_57 : decode jdk_42_method_149_code 57 = .ok (.return_, 1) := by decide +kernel
theorem pn_3 : plainName "java/lang/String" = true := by first | (simp [plainName, overriddenIn]; done) | decide +kernel
theorem ef_3 (m : MethodId) (x0 : Addr) (x1 : Addr) (x2 : Int32) (x3 : Int32) : entryFrame m #[(.ref x0), (.ref x1), (.int x2), (.int x3), .null] 6 = mkF m 0 #[.val (.ref x0), .val (.ref x1), .val (.int x2), .val (.int x3), .val .null, .unset] [] := by first | (simp [entryFrame, mkF, argsToLocals, Value.category]; done) | rfl
def Q_rn4_0 (Z : State) (a1 : Addr) (ca : Addr)  (h0 : Heap) (n0 : Nat) : Option Value → Heap → List Loc → Prop := fun v h L => v = none ∧ Fr n0 L ∧ Keep h0 h [a1] ∧ ∃ b k, own_Str Z h a1 b k (0 : Int32) []
set_option maxRecDepth 65536 in
set_option maxHeartbeats 40000000 in
theorem rn4_0 (l : Launch) (Z : State) (a0 : Array Value) (hw : ∀ d ∈ tables_1, d.before a0 Z = true) (ws : List Jvm.Cond) (a1 : Addr) (ca : Addr)  (h0 : Heap) (n0 : Nat) (Z0 : n0 ≤ h0.size) (FV : Fld Z h0 a1 "java/lang/String" "value" "[B" .null) (FC : Fld Z h0 a1 "java/lang/String" "coder" "B" (.int (0 : Int32))) (E1 : Exa Z h0 a1 "java/lang/String") (g1 : n0 ≤ a1) :
    MetFree l (⟨"java/lang/String", "<init>", "([CIILjava/lang/Void;)V"⟩ : MethodName) (head1 (Jvm.Cond.code (⟨"java/lang/String", "<init>", "([CIILjava/lang/Void;)V"⟩ : MethodName) jdk_42_method_149_code 6 none :: ws) ({ frames := 1, cells := 2, slots := 4, locals := 24 } : Room)) (fun a U => a = #[(.ref a1), (.ref ca), (.int (0 : Int32)), (.int (0 : Int32)), .null] ∧ Z.Warmed39 U.vm ∧ U.heap = h0 ∧ CHv Z consts_1 U.vm h0) (fun _ _ _ _ _ => True) (fun _ U oo U' => ∃ vv LL, oo = .returned vv ∧ (Q_rn4_0 Z a1 ca h0 n0) vv U'.heap LL ∧ CHr Z consts_1 U.vm U.heap U'.vm U'.heap ∧ ReturnedEndW U oo U' LL ({ frames := 1, cells := 2, slots := 4, locals := 24 } : Room).cells ({ frames := 1, cells := 2, slots := 4, locals := 24 } : Room).slots) := by
  refine MetFree.of_bodySF (plainFor_of_name pn_3) hisR ?_
  intro p e s m args below meth c s₁ Bd hml0 hP hK
  obtain ⟨rfl, hZ, hh, hH⟩ := hP
  have hx := Bd.exec
  have hby := Bd.bytes
  have hml : c.maxLocals = 6 := hml0
  have hown : s.vm.findClass "java/lang/String" = some m.cls := findClass_of_methodNamed Bd.named
  have hnm := (name_of_methodNamed Bd.named Bd.method).1
  have X0 : Stand p l e ({ frames := 1, cells := 2, slots := 4, locals := 24 } : Room) s m #[(.ref a1), (.ref ca), (.int (0 : Int32)), (.int (0 : Int32)), .null] below meth c s₁ [] 0 0 := Stand.of_body Bd
  have e0 : s₁.heap = h0 := by rw [← hh, Bd.state]; rfl
  have N0 := Fr.nil n0
  have hC0 : CHr Z consts_1 s.vm s.heap s.vm h0 := by rw [hh]; exact CHr.refl hH
  have hEL := own_EW hw
  have wS : ∀ d ∈ Bundle.stringAtoms, d.before a0 Z = true := by
    intro d hd
    simp only [Bundle.stringAtoms, List.mem_cons, List.not_mem_nil, or_false] at hd
    rcases hd with rfl | rfl | rfl | rfl | rfl | rfl | rfl
    · exact (w_ hw 7 rfl)
    · exact (w_ hw 6 rfl)
    · exact (w_ hw 24 rfl)
    · exact (w_ hw 34 rfl)
    · exact (w_ hw 32 rfl)
    · exact (w_ hw 69 rfl)
    · exact (w_ hw 70 rfl)
  show Goes p e below (FinH s Z consts_1 (Q_rn4_0 Z a1 ca h0 n0) ({ frames := 1, cells := 2, slots := 4, locals := 24 } : Room).cells ({ frames := 1, cells := 2, slots := 4, locals := 24 } : Room).slots) _
  refine Goes.via (S' := s₁.setTop (mkF m 0 #[.val (.ref a1), .val (.ref ca), .val (.int (0 : Int32)), .val (.int (0 : Int32)), .val .null, .unset] [])) (fun tz kz => castTop (ef_3 m a1 ca (0 : Int32) (0 : Int32) ) kz) ?_
  refine Goes.via (S' := s₁.setTop (mkF m 1 #[.val (.ref a1), .val (.ref ca), .val (.int (0 : Int32)), .val (.int (0 : Int32)), .val .null, .unset] [(.ref a1)])) (fun tz kz => ?_) ?_
  · show Steps p.tables e below (s₁.setTop (mkF m 0 #[.val (.ref a1), .val (.ref ca), .val (.int (0 : Int32)), .val (.int (0 : Int32)), .val .null, .unset] [])) _
    refine XS.aloadN X0.here hx rfl (hb hby d3_0) rfl rfl ?_
    exact kz
  obtain ⟨T1, X1, e1, st1⟩ := initO X0 hx hZ hown (w_ hw 16 rfl) (w_ hw 17 rfl) (w_ hw 18 rfl) e0 (g := (mkF m 1 #[.val (.ref a1), .val (.ref ca), .val (.int (0 : Int32)), .val (.int (0 : Int32)), .val .null, .unset] [(.ref a1)])) rfl (by rw [hml]; rfl) rfl (hb hby d3_1) (by decide) (W := 0) (by show 2 * 0 + _ ≤ _; exact Nat.le_of_eq rfl) (by decide)
  refine Goes.via (S' := T1.setTop (mkF m 4 #[.val (.ref a1), .val (.ref ca), .val (.int (0 : Int32)), .val (.int (0 : Int32)), .val .null, .unset] [])) st1 ?_
  refine Goes.via (S' := T1.setTop (mkF m 9 #[.val (.ref a1), .val (.ref ca), .val (.int (0 : Int32)), .val (.int (0 : Int32)), .val .null, .unset] [(.ref a1)])) (fun tz kz => ?_) ?_
  · show Steps p.tables e below (T1.setTop (mkF m 4 #[.val (.ref a1), .val (.ref ca), .val (.int (0 : Int32)), .val (.int (0 : Int32)), .val .null, .unset] [])) _
    refine XS.iloadN X1.here hx rfl (hb hby d3_4) rfl ?_
    refine XS.ifNo X1.here hx rfl (hb hby d3_5) rfl ((if0 _ _).trans (teq (by decide)).2) ?_
    refine XS.aloadN X1.here hx rfl (hb hby d3_8) rfl rfl ?_
    exact kz
  obtain ⟨a2, T2, h2, k2, b2, kb2, X2, e2, E2, hS2, hk2, hZ, hown, Es2, Fc2, Fv2, Ab2, la2, lb2, hc2, Lt2, sf2, st2⟩   := ldcCH (s := s) (vm0 := s.vm) X1 hx hZ hown (w_ hw 68 rfl) wS e1 ((State.WarmedH.refl s).since 0) (Nat.zero_le _) hEL (by decide) hC0.1 (vs := []) (z := (0 : Int32)) ⟨by decide, by decide⟩ (by decide) (by decide) (g := (mkF m 9 #[.val (.ref a1), .val (.ref ca), .val (.int (0 : Int32)), .val (.int (0 : Int32)), .val .null, .unset] [(.ref a1)])) rfl (hb hby d3_9) (n := 0) (by decide) (by decide) (by decide) (by decide)
  have hC2 := hC0.trans hc2
  refine Goes.via (S' := T2.setTop (mkF m 11 #[.val (.ref a1), .val (.ref ca), .val (.int (0 : Int32)), .val (.int (0 : Int32)), .val .null, .unset] [(.ref a2), (.ref a1)])) st2 ?_
  have Ea := E1.ext E2
  have GV := FV.ext E2
  have GC := FC.ext E2
  have sA : Safe Z consts_1 T2.vm h2 a1 := own_safe hZ.alike Ea GV
  have ne := sf2 a1 sA
  obtain ⟨T3, X3, e3, st3⟩ := getF X2 hx hZ hown (host := "") (Or.inl (w_ hw 33 rfl)) Via.refl e2 Fv2 (g := (mkF m 11 #[.val (.ref a1), .val (.ref ca), .val (.int (0 : Int32)), .val (.int (0 : Int32)), .val .null, .unset] [(.ref a2), (.ref a1)])) rfl rfl (hb hby d3_11)
  refine Goes.via (S' := T3.setTop (mkF m 14 #[.val (.ref a1), .val (.ref ca), .val (.int (0 : Int32)), .val (.int (0 : Int32)), .val .null, .unset] [(.ref b2), (.ref a1)])) st3 ?_
  obtain ⟨T4, h4, X4, e4, W4, st4⟩ := putF X3 hx hZ hown (host := "") (Or.inl (w_ hw 33 rfl)) Via.refl e3 GV Ea (Or.inr ⟨(w_ hw 34 rfl), rfl, hnm⟩) (w_ hw 6 rfl) (ty := (.array .byte)) (by decide) rfl rfl (g := (mkF m 14 #[.val (.ref a1), .val (.ref ca), .val (.int (0 : Int32)), .val (.int (0 : Int32)), .val .null, .unset] [(.ref b2), (.ref a1)])) rfl rfl (hb hby d3_14)
  refine Goes.via (S' := T4.setTop (mkF m 17 #[.val (.ref a1), .val (.ref ca), .val (.int (0 : Int32)), .val (.int (0 : Int32)), .val .null, .unset] [])) st4 ?_
  have N4 := Fr.snoc X4 N0 g1
  have hC5 := hC2.trans (CHr.wr W4 sA hC2.1)
  have hk6 := Nat.le_trans hk2 (Nat.le_of_eq W4.size.symm)
  have HV := GV.same W4
  have HC := GC.other W4 (Or.inr (slot_ne (Or.inr (w_ hw 32 rfl)) (Or.inr (w_ hw 34 rfl)) (by decide) (t := .byte) (t' := (.array .byte)) (by decide) (by decide)))
  have Eb := Ea.wr W4
  have cC := Fc2.other W4 (Or.inl (Ne.symm ne.1))
  have cB := Ab2.other W4 (Ne.symm ne.2)
  have sB := Safe.wr W4 sA hC2.1 sA
  refine Goes.via (S' := T4.setTop (mkF m 18 #[.val (.ref a1), .val (.ref ca), .val (.int (0 : Int32)), .val (.int (0 : Int32)), .val .null, .unset] [(.ref a1)])) (fun tz kz => ?_) ?_
  · show Steps p.tables e below (T4.setTop (mkF m 17 #[.val (.ref a1), .val (.ref ca), .val (.int (0 : Int32)), .val (.int (0 : Int32)), .val .null, .unset] [])) _
    refine XS.aloadN X4.here hx rfl (hb hby d3_17) rfl rfl ?_
    exact kz
  have st7 := ldcAgain (s := s) (vm0 := T2.vm) X4 hx hZ hown (w_ hw 68 rfl) Lt2 (g := (mkF m 18 #[.val (.ref a1), .val (.ref ca), .val (.int (0 : Int32)), .val (.int (0 : Int32)), .val .null, .unset] [(.ref a1)])) rfl (hb hby d3_18)
  refine Goes.via (S' := T4.setTop (mkF m 20 #[.val (.ref a1), .val (.ref ca), .val (.int (0 : Int32)), .val (.int (0 : Int32)), .val .null, .unset] [(.ref a2), (.ref a1)])) st7 ?_
  obtain ⟨T8, X8, e8, st8⟩ := getF X4 hx hZ hown (host := "") (Or.inl (w_ hw 31 rfl)) Via.refl e4 cC (g := (mkF m 20 #[.val (.ref a1), .val (.ref ca), .val (.int (0 : Int32)), .val (.int (0 : Int32)), .val .null, .unset] [(.ref a2), (.ref a1)])) rfl rfl (hb hby d3_20)
  refine Goes.via (S' := T8.setTop (mkF m 23 #[.val (.ref a1), .val (.ref ca), .val (.int (0 : Int32)), .val (.int (0 : Int32)), .val .null, .unset] [(.int (0 : Int32)), (.ref a1)])) st8 ?_
  obtain ⟨T9, h9, X9, e9, W9, st9⟩ := putFN X8 hx hZ hown (w_ hw 31 rfl) Via.refl e8 HC Eb (Or.inr ⟨(w_ hw 32 rfl), rfl, hnm⟩) (w_ hw 6 rfl) (ty := .byte) (v' := (.int (nar .byte (0 : Int32)))) (by decide) rfl (fits_nar_byte _) (g := (mkF m 23 #[.val (.ref a1), .val (.ref ca), .val (.int (0 : Int32)), .val (.int (0 : Int32)), .val .null, .unset] [(.int (0 : Int32)), (.ref a1)])) rfl rfl (hb hby d3_23)
  refine Goes.via (S' := T9.setTop (mkF m 26 #[.val (.ref a1), .val (.ref ca), .val (.int (0 : Int32)), .val (.int (0 : Int32)), .val .null, .unset] [])) st9 ?_
  have N9 := Fr.snoc X9 N4 g1
  have hC10 := hC5.trans (CHr.wr W9 sB hC5.1)
  have hk11 := Nat.le_trans hk6 (Nat.le_of_eq W9.size.symm)
  have JC : Fld Z h9 a1 "java/lang/String" "coder" "B" (.int (0 : Int32)) := HC.same W9
  have JV := HV.other W9 (Or.inr (slot_ne (Or.inr (w_ hw 34 rfl)) (Or.inr (w_ hw 32 rfl)) (by decide) (t := (.array .byte)) (t' := .byte) (by decide) (by decide)))
  have Ec := Eb.wr W9
  have dB := cB.other W9 (Ne.symm ne.2)
  have Kq : Keep h0 h9 [a1] := (((Keep.refl h0 [a1]).ext E2).wr W4 (Or.inl (List.mem_singleton.mpr rfl))).wr W9 (Or.inl (List.mem_singleton.mpr rfl))
  exact Goes.retVH (s := s) (vm1 := T2.vm) X9 hx Bd.notSynchronized hS2 hk11 e9 hZ hEL hC10 Bd.returns (hb hby d3_26) (Nat.le_of_ble_eq_true rfl) (Nat.le_of_ble_eq_true rfl) (by rw [e9]; exact ⟨rfl, N9, Kq, _, _, ⟨Ec, JC, JV, dB⟩⟩)
theorem d2_0 : decode jdk_42_method_3_code 0 = .ok (.aload_n 0, 1) := by decide +kernel
theorem d2_1 : decode jdk_42_method_3_code 1 = .ok (.aload_n 1, 1) := by decide +kernel
theorem d2_2 : decode jdk_42_method_3_code 2 = .ok (.iconst 0, 1) := by decide +kernel
theorem d2_3 : decode jdk_42_method_3_code 3 = .ok (.aload_n 1, 1) := by decide +kernel
theorem d2_4 : decode jdk_42_method_3_code 4 = .ok (.arraylength, 1) := by decide +kernel
theorem d2_5 : decode jdk_42_method_3_code 5 = .ok (.aconst_null, 1) := by decide +kernel
theorem d2_6 : decode jdk_42_method_3_code 6 = .ok (.invokespecial 27, 3) := by decide +kernel
theorem d2_9 : decode jdk_42_method_3_code 9 = .ok (.return_, 1) := by decide +kernel
theorem pn_2 : plainName "java/lang/String" = true := by first | (simp [plainName, overriddenIn]; done) | decide +kernel
theorem ef_2 (m : MethodId) (x0 : Addr) (x1 : Addr) : entryFrame m #[(.ref x0), (.ref x1)] 2 = mkF m 0 #[.val (.ref x0), .val (.ref x1)] [] := by first | (simp [entryFrame, mkF, argsToLocals, Value.category]; done) | rfl
def Q_rn1_0 (Z : State) (a1 : Addr) (ca : Addr) (ka : ClassId) (vs : List Value) (h0 : Heap) (n0 : Nat) : Option Value → Heap → List Loc → Prop := fun v h L => v = none ∧ Fr n0 L ∧ Keep h0 h [a1] ∧ ∃ b k, own_Str Z h a1 b k (0 : Int32) []
set_option maxRecDepth 65536 in
set_option maxHeartbeats 40000000 in
theorem rn1_0 (l : Launch) (Z : State) (a0 : Array Value) (hw : ∀ d ∈ tables_1, d.before a0 Z = true) (ws : List Jvm.Cond) (a1 : Addr) (ca : Addr) (ka : ClassId) (vs : List Value) (h0 : Heap) (n0 : Nat) (Z0 : n0 ≤ h0.size) (FV : Fld Z h0 a1 "java/lang/String" "value" "[B" .null) (FC : Fld Z h0 a1 "java/lang/String" "coder" "B" (.int (0 : Int32))) (E1 : Exa Z h0 a1 "java/lang/String") (g1 : n0 ≤ a1) (C0 : Arv Z h0 ca ka .char (0 : Int32) vs (.int 0)) :
    MetFree l (⟨"java/lang/String", "<init>", "([C)V"⟩ : MethodName) (head1 (Jvm.Cond.code (⟨"java/lang/String", "<init>", "([C)V"⟩ : MethodName) jdk_42_method_3_code 2 none :: ws) ({ frames := 2, cells := 2, slots := 4, locals := 44 } : Room)) (fun a U => a = #[(.ref a1), (.ref ca)] ∧ Z.Warmed39 U.vm ∧ U.heap = h0 ∧ CHv Z consts_1 U.vm h0) (fun _ _ _ _ _ => True) (fun _ U oo U' => ∃ vv LL, oo = .returned vv ∧ (Q_rn1_0 Z a1 ca ka vs h0 n0) vv U'.heap LL ∧ CHr Z consts_1 U.vm U.heap U'.vm U'.heap ∧ ReturnedEndW U oo U' LL ({ frames := 2, cells := 2, slots := 4, locals := 44 } : Room).cells ({ frames := 2, cells := 2, slots := 4, locals := 44 } : Room).slots) := by
  refine MetFree.of_bodySF (plainFor_of_name pn_2) hisR ?_
  intro p e s m args below meth c s₁ Bd hml0 hP hK
  obtain ⟨rfl, hZ, hh, hH⟩ := hP
  have hx := Bd.exec
  have hby := Bd.bytes
  have hml : c.maxLocals = 2 := hml0
  have hown : s.vm.findClass "java/lang/String" = some m.cls := findClass_of_methodNamed Bd.named
  have hnm := (name_of_methodNamed Bd.named Bd.method).1
  have X0 : Stand p l e ({ frames := 2, cells := 2, slots := 4, locals := 44 } : Room) s m #[(.ref a1), (.ref ca)] below meth c s₁ [] 0 0 := Stand.of_body Bd
  have e0 : s₁.heap = h0 := by rw [← hh, Bd.state]; rfl
  have N0 := Fr.nil n0
  have hC0 : CHr Z consts_1 s.vm s.heap s.vm h0 := by rw [hh]; exact CHr.refl hH
  have hEL := own_EW hw
  show Goes p e below (FinH s Z consts_1 (Q_rn1_0 Z a1 ca ka vs h0 n0) ({ frames := 2, cells := 2, slots := 4, locals := 44 } : Room).cells ({ frames := 2, cells := 2, slots := 4, locals := 44 } : Room).slots) _
  refine Goes.via (S' := s₁.setTop (mkF m 0 #[.val (.ref a1), .val (.ref ca)] [])) (fun tz kz => castTop (ef_2 m a1 ca ) kz) ?_
  refine Goes.via (S' := s₁.setTop (mkF m 4 #[.val (.ref a1), .val (.ref ca)] [(.ref ca), (.int (0 : Int32)), (.ref ca), (.ref a1)])) (fun tz kz => ?_) ?_
  · show Steps p.tables e below (s₁.setTop (mkF m 0 #[.val (.ref a1), .val (.ref ca)] [])) _
    refine XS.aloadN X0.here hx rfl (hb hby d2_0) rfl rfl ?_
    refine XS.aloadN X0.here hx rfl (hb hby d2_1) rfl rfl ?_
    refine XS.iconst X0.here hx rfl (hb hby d2_2) ?_
    refine XS.aloadN X0.here hx rfl (hb hby d2_3) rfl rfl ?_
    exact kz
  obtain ⟨cl1, Ar1, q1, Sz1, Nn1, Hs1, G1⟩ := (id C0)
  refine Goes.via (S' := s₁.setTop (mkF m 6 #[.val (.ref a1), .val (.ref ca)] [.null, (.int (0 : Int32)), (.int (0 : Int32)), (.ref ca), (.ref a1)])) (fun tz kz => ?_) ?_
  · show Steps p.tables e below (s₁.setTop (mkF m 4 #[.val (.ref a1), .val (.ref ca)] [(.ref ca), (.int (0 : Int32)), (.ref ca), (.ref a1)])) _
    refine X0.arraylength hx (by rw [e0]; exact Ar1.1) (State.isArrayOf_alike hZ.alike Ar1.2.1) (g := (mkF m 4 #[.val (.ref a1), .val (.ref ca)] [(.ref ca), (.int (0 : Int32)), (.ref ca), (.ref a1)])) rfl rfl (hb hby d2_4) _ ?_
    rw [len_of Sz1 Nn1]
    refine XS.aconstNull X0.here hx rfl (hb hby d2_5) ?_
    exact kz
  obtain ⟨_, _, ⟨T2, L2, k2, n2⟩, -, X2, hs2, gs2, ⟨Lc2, hQ2, l2, y2, z2, hc2⟩, st2⟩ := Stand.specialBackS (show Stand p l e _ (s.setVm s.vm) m _ below meth c _ _ _ _ from X0) hx (y := (⟨"java/lang/String", "<init>", "([CIILjava/lang/Void;)V"⟩ : MethodName)) rfl hown (mvT hZ (w_ hw 12 rfl)) (mvT hZ (w_ hw 13 rfl)) (mvT hZ (w_ hw 15 rfl)) (by decide) (backOfSH (s := s) (vm0 := s.vm) (W := 0) (rn4_0 l Z a0 hw [] a1 ca h0 n0 Z0 FV FC E1 g1) hZ (w_ hw 15 rfl) (w_ hw 7 rfl) (by decide) (by decide) hEL hC0.1) (g := (mkF m 6 #[.val (.ref a1), .val (.ref ca)] [.null, (.int (0 : Int32)), (.int (0 : Int32)), (.ref ca), (.ref a1)])) rfl (by rw [hml]; rfl) (Steps.refl _) (a := a1) (argsL := [(.ref ca), (.int (0 : Int32)), (.int (0 : Int32)), .null]) (rest := []) (lenOf pd_0 rfl) rfl (by show 2 * 0 + _ ≤ _; exact Nat.le_of_eq rfl) (hb hby d2_6) (fun _ _ => ⟨rfl, e0, (by decide : 0 + 2 ≤ _), (by decide : 0 + 4 ≤ _)⟩)
  dsimp only [Pt.U, Pt.locs, Pt.cells, Pt.slots] at X2 l2 y2 z2 st2 hQ2 hs2 gs2 hc2
  subst l2 y2 z2
  obtain ⟨rfl, N2, K2, vb, kb, S2⟩ := hQ2
  rw [e0] at gs2
  have hS2 : s.Since T2.vm T2.heap.size := own_fold ((State.WarmedH.refl s).since 0) (Nat.zero_le _) hs2 gs2
  have hC2 := hC0.trans hc2
  have hZ : Z.Warmed39 (s.setVm T2.vm).vm := State.Warmed39.trans (t := s.setVm s.vm) hZ hs2.1
  have hown : (s.setVm T2.vm).vm.findClass "java/lang/String" = some m.cls := by rw [show (s.setVm T2.vm).vm = T2.vm from rfl, hs2.1.alike.findClass]; exact hown
  have Nf2 := Fr.app N0 N2
  refine Goes.via (S' := T2.setTop (mkF m 9 #[.val (.ref a1), .val (.ref ca)] [])) (fun _ kz => st2.trans kz) ?_
  exact Goes.retVH (s := s) (vm1 := T2.vm) X2 hx Bd.notSynchronized hS2 (Nat.le_refl _) rfl hZ hEL hC2 Bd.returns (hb hby d2_9) (Nat.le_of_ble_eq_true rfl) (Nat.le_of_ble_eq_true rfl) ⟨rfl, Nf2, K2, vb, kb, S2⟩
theorem d6_0 : decode jdk_52_method_21_code 0 = .ok (.iconst 0, 1) := by decide +kernel
theorem d6_1 : decode jdk_52_method_21_code 1 = .ok (.istore 5, 2) := by decide +kernel
theorem d6_3 : decode jdk_52_method_21_code 3 = .ok (.iload 5, 2) := by decide +kernel
theorem d6_5 : decode jdk_52_method_21_code 5 = .ok (.iload 4, 2) := by decide +kernel
theorem d6_7 : decode jdk_52_method_21_code 7 = .ok (.if_icmp .ge 37, 3) := by decide +kernel
theorem d6_10 : decode jdk_52_method_21_code 10 = .ok (.aload_n 0, 1) := by decide +kernel
theorem d6_11 : decode jdk_52_method_21_code 11 = .ok (.iload_n 1, 1) := by decide +kernel
theorem d6_12 : decode jdk_52_method_21_code 12 = .ok (.caload, 1) := by decide +kernel
theorem d6_13 : decode jdk_52_method_21_code 13 = .ok (.istore 6, 2) := by decide +kernel
theorem d6_15 : decode jdk_52_method_21_code 15 = .ok (.iload 6, 2) := by decide +kernel
theorem d6_17 : decode jdk_52_method_21_code 17 = .ok (.sipush 255, 3) := by decide +kernel
theorem d6_20 : decode jdk_52_method_21_code 20 = .ok (.if_icmp .le 6, 3) := by decide +kernel
theorem d6_26 : decode jdk_52_method_21_code 26 = .ok (.aload_n 2, 1) := by decide +kernel
theorem d6_27 : decode jdk_52_method_21_code 27 = .ok (.iload_n 3, 1) := by decide +kernel
theorem d6_28 : decode jdk_52_method_21_code 28 = .ok (.iload 6, 2) := by decide +kernel
theorem d6_30 : decode jdk_52_method_21_code 30 = .ok (.i2b, 1) := by decide +kernel
theorem d6_31 : decode jdk_52_method_21_code 31 = .ok (.bastore, 1) := by decide +kernel
theorem d6_32 : decode jdk_52_method_21_code 32 = .ok (.iinc 1 1, 3) := by decide +kernel
theorem d6_35 : decode jdk_52_method_21_code 35 = .ok (.iinc 3 1, 3) := by decide +kernel
theorem d6_38 : decode jdk_52_method_21_code 38 = .ok (.iinc 5 1, 3) := by decide +kernel
theorem d6_41 : decode jdk_52_method_21_code 41 = .ok (.goto (-38), 3) := by decide +kernel
theorem d6_44 : decode jdk_52_method_21_code 44 = .ok (.iload 4, 2) := by decide +kernel
theorem d6_46 : decode jdk_52_method_21_code 46 = .ok (.ireturn, 1) := by decide +kernel
theorem pn_6 : plainName "java/lang/StringUTF16" = true := by first | (simp [plainName, overriddenIn]; done) | decide +kernel
theorem ef_6 (m : MethodId) (x0 : Addr) (x1 : Int32) (x2 : Addr) (x3 : Int32) (x4 : Int32) : entryFrame m #[(.ref x0), (.int x1), (.ref x2), (.int x3), (.int x4)] 7 = mkF m 0 #[.val (.ref x0), .val (.int x1), .val (.ref x2), .val (.int x3), .val (.int x4), .unset, .unset] [] := by first | (simp [entryFrame, mkF, argsToLocals, Value.category]; done) | rfl
def Q_rc5_1 (Z : State) (ca : Addr) (bb : Addr) (ka kz : ClassId) (c0 : Int32) (h0 : Heap) (n0 : Nat) : Option Value → Heap → List Loc → Prop := fun v h L => v = some (.int (1 : Int32)) ∧ Fr n0 L ∧ Keep h0 h [bb] ∧ Arv Z h bb kz .byte (1 : Int32) [.int (own_by c0)] (.int 0)
set_option maxRecDepth 65536 in
set_option maxHeartbeats 40000000 in
theorem rc5_1 (l : Launch) (Z : State) (a0 : Array Value) (hw : ∀ d ∈ tables_1, d.before a0 Z = true) (ws : List Jvm.Cond) (ca : Addr) (bb : Addr) (ka kz : ClassId) (c0 : Int32) (h0 : Heap) (n0 : Nat) (Z0 : n0 ≤ h0.size) (C0 : Arv Z h0 ca ka .char (1 : Int32) [.int c0] (.int 0)) (B0 : Arv Z h0 bb kz .byte (1 : Int32) [.int 0] (.int 0)) (gb : n0 ≤ bb) (nab : ca ≠ bb) (s0 : ¬ (255 : Int32) < c0) :
    own_M l Z (⟨"java/lang/StringUTF16", "compress", "([CI[BII)I"⟩ : MethodName) (Jvm.Cond.code (⟨"java/lang/StringUTF16", "compress", "([CI[BII)I"⟩ : MethodName) jdk_52_method_21_code 7 (some .int)) ws ({ frames := 0, cells := 0, slots := 0, locals := 0 } : Room) #[(.ref ca), (.int (0 : Int32)), (.ref bb), (.int (0 : Int32)), (.int (1 : Int32))] h0 (Q_rc5_1 Z ca bb ka kz c0 h0 n0) := by
  refine MetFree.of_bodySF (plainFor_of_name pn_6) hisR ?_
  intro p e s m args below meth c s₁ Bd hml0 hP hK
  obtain ⟨rfl, hZ, hh⟩ := hP
  have hx := Bd.exec
  have hby := Bd.bytes
  have hml : c.maxLocals = 7 := hml0
  have hown : s.vm.findClass "java/lang/StringUTF16" = some m.cls := findClass_of_methodNamed Bd.named
  have hnm := (name_of_methodNamed Bd.named Bd.method).1
  have X0 : Stand p l e ({ frames := 0, cells := 0, slots := 0, locals := 0 } : Room) s m #[(.ref ca), (.int (0 : Int32)), (.ref bb), (.int (0 : Int32)), (.int (1 : Int32))] below meth c s₁ [] 0 0 := Stand.of_body Bd
  have e0 : s₁.heap = h0 := by rw [← hh, Bd.state]; rfl
  have N0 := Fr.nil n0
  show Goes p e below (Fin s (Q_rc5_1 Z ca bb ka kz c0 h0 n0) ({ frames := 0, cells := 0, slots := 0, locals := 0 } : Room).cells ({ frames := 0, cells := 0, slots := 0, locals := 0 } : Room).slots) _
  refine Goes.via (S' := s₁.setTop (mkF m 0 #[.val (.ref ca), .val (.int (0 : Int32)), .val (.ref bb), .val (.int (0 : Int32)), .val (.int (1 : Int32)), .unset, .unset] [])) (fun tz kz => castTop (ef_6 m ca (0 : Int32) bb (0 : Int32) (1 : Int32) ) kz) ?_
  refine Goes.via (S' := s₁.setTop (mkF m 12 #[.val (.ref ca), .val (.int (0 : Int32)), .val (.ref bb), .val (.int (0 : Int32)), .val (.int (1 : Int32)), .val (.int (0 : Int32)), .unset] [(.int (0 : Int32)), (.ref ca)])) (fun tz kz => ?_) ?_
  · show Steps p.tables e below (s₁.setTop (mkF m 0 #[.val (.ref ca), .val (.int (0 : Int32)), .val (.ref bb), .val (.int (0 : Int32)), .val (.int (1 : Int32)), .unset, .unset] [])) _
    refine XS.iconst X0.here hx rfl (hb hby d6_0) ?_
    refine XS.istore X0.here hx rfl (hb hby d6_1) rfl (l' := #[.val (.ref ca), .val (.int (0 : Int32)), .val (.ref bb), .val (.int (0 : Int32)), .val (.int (1 : Int32)), .val (.int (0 : Int32)), .unset]) rfl ?_
    refine XS.iload X0.here hx rfl (hb hby d6_3) rfl ?_
    refine XS.iload X0.here hx rfl (hb hby d6_5) rfl ?_
    show Steps p.tables e below (s₁.setTop (mkF m 7 #[.val (.ref ca), .val (.int (0 : Int32)), .val (.ref bb), .val (.int (0 : Int32)), .val (.int (1 : Int32)), .val (.int (0 : Int32)), .unset] [(.int (1 : Int32)), (.int (0 : Int32))])) _
    refine XS.icmpNo X0.here hx rfl (hb hby d6_7) rfl (tlt (by decide)).2.1 ?_
    refine XS.aloadN X0.here hx rfl (hb hby d6_10) rfl rfl ?_
    refine XS.iloadN X0.here hx rfl (hb hby d6_11) rfl ?_
    exact kz
  obtain ⟨cl1, Ar1, q1, Sz1, Nn1, Hs1, G1⟩ := (id C0)
  refine Goes.via (S' := s₁.setTop (mkF m 31 #[.val (.ref ca), .val (.int (0 : Int32)), .val (.ref bb), .val (.int (0 : Int32)), .val (.int (1 : Int32)), .val (.int (0 : Int32)), .val (.int c0)] [(.int (c0.toInt8.toInt32)), (.int (0 : Int32)), (.ref bb)])) (fun tz kz => ?_) ?_
  · show Steps p.tables e below (s₁.setTop (mkF m 12 #[.val (.ref ca), .val (.int (0 : Int32)), .val (.ref bb), .val (.int (0 : Int32)), .val (.int (1 : Int32)), .val (.int (0 : Int32)), .unset] [(.int (0 : Int32)), (.ref ca)])) _
    refine X0.caload hx (j := (0 : Int32)) (v := (.int c0)) (by rw [e0]; exact Ar1.1) (State.isArrayOf_alike hZ.alike Ar1.2.1) Ar1.2.2 (inb_of Sz1 ⟨by decide, by decide⟩) (Has.at Hs1 (inb_of Sz1 ⟨by decide, by decide⟩) rfl) (g := (mkF m 12 #[.val (.ref ca), .val (.int (0 : Int32)), .val (.ref bb), .val (.int (0 : Int32)), .val (.int (1 : Int32)), .val (.int (0 : Int32)), .unset] [(.int (0 : Int32)), (.ref ca)])) rfl rfl (hb hby d6_12) _ ?_
    refine XS.istore X0.here hx rfl (hb hby d6_13) rfl (l' := #[.val (.ref ca), .val (.int (0 : Int32)), .val (.ref bb), .val (.int (0 : Int32)), .val (.int (1 : Int32)), .val (.int (0 : Int32)), .val (.int c0)]) rfl ?_
    refine XS.iload X0.here hx rfl (hb hby d6_15) rfl ?_
    refine XS.sipush X0.here hx rfl (hb hby d6_17) ?_
    show Steps p.tables e below (s₁.setTop (mkF m 20 #[.val (.ref ca), .val (.int (0 : Int32)), .val (.ref bb), .val (.int (0 : Int32)), .val (.int (1 : Int32)), .val (.int (0 : Int32)), .val (.int c0)] [(.int (255 : Int32)), (.int c0)])) _
    refine XS.icmpYes X0.here hx rfl (pc0 := 20) (pc' := 26) rfl (hb hby d6_20) rfl (flt s0).2.2.2 (by decide) (by decide) ?_
    refine XS.aloadN X0.here hx rfl (hb hby d6_26) rfl rfl ?_
    refine XS.iloadN X0.here hx rfl (hb hby d6_27) rfl ?_
    refine XS.iload X0.here hx rfl (hb hby d6_28) rfl ?_
    show Steps p.tables e below (s₁.setTop (mkF m 30 #[.val (.ref ca), .val (.int (0 : Int32)), .val (.ref bb), .val (.int (0 : Int32)), .val (.int (1 : Int32)), .val (.int (0 : Int32)), .val (.int c0)] [(.int c0), (.int (0 : Int32)), (.ref bb)])) _
    refine XS.i2b X0.here hx rfl (hb hby d6_30) rfl ?_
    exact kz
  obtain ⟨cl2, Ar2, q2, Sz2, Nn2, Hs2, G2⟩ := (id B0)
  obtain ⟨T3, h3, X3, e3, W3, st3⟩ := stB X0 hx hZ e0 Ar2 (j := (0 : Int32)) (inb_of Sz2 ⟨by decide, by decide⟩) (g := (mkF m 31 #[.val (.ref ca), .val (.int (0 : Int32)), .val (.ref bb), .val (.int (0 : Int32)), .val (.int (1 : Int32)), .val (.int (0 : Int32)), .val (.int c0)] [(.int (c0.toInt8.toInt32)), (.int (0 : Int32)), (.ref bb)])) rfl rfl (hb hby d6_31)
  refine Goes.via (S' := T3.setTop (mkF m 32 #[.val (.ref ca), .val (.int (0 : Int32)), .val (.ref bb), .val (.int (0 : Int32)), .val (.int (1 : Int32)), .val (.int (0 : Int32)), .val (.int c0)] [])) st3 ?_
  have N3 := Fr.snoc X3 N0 gb
  have C3 := (C0).other W3 nab
  have A3 := Arv.set Ar2 q2 Sz2 Nn2 Hs2 G2 (fits_nar_byte _) W3 0 rfl (Nat.le_of_ble_eq_true rfl)
  have K3 := (Keep.refl h0 [bb]).wr W3 (Or.inl (List.mem_singleton.mpr rfl))
  refine Goes.via (S' := T3.setTop (mkF m 46 #[.val (.ref ca), .val (.int (1 : Int32)), .val (.ref bb), .val (.int (1 : Int32)), .val (.int (1 : Int32)), .val (.int (1 : Int32)), .val (.int c0)] [(.int (1 : Int32))])) (fun tz kz => ?_) ?_
  · show Steps p.tables e below (T3.setTop (mkF m 32 #[.val (.ref ca), .val (.int (0 : Int32)), .val (.ref bb), .val (.int (0 : Int32)), .val (.int (1 : Int32)), .val (.int (0 : Int32)), .val (.int c0)] [])) _
    refine XS.iinc X3.here hx rfl (hb hby d6_32) rfl (l' := #[.val (.ref ca), .val (.int (1 : Int32)), .val (.ref bb), .val (.int (0 : Int32)), .val (.int (1 : Int32)), .val (.int (0 : Int32)), .val (.int c0)]) rfl ?_
    refine XS.iinc X3.here hx rfl (hb hby d6_35) rfl (l' := #[.val (.ref ca), .val (.int (1 : Int32)), .val (.ref bb), .val (.int (1 : Int32)), .val (.int (1 : Int32)), .val (.int (0 : Int32)), .val (.int c0)]) rfl ?_
    refine XS.iinc X3.here hx rfl (hb hby d6_38) rfl (l' := #[.val (.ref ca), .val (.int (1 : Int32)), .val (.ref bb), .val (.int (1 : Int32)), .val (.int (1 : Int32)), .val (.int (1 : Int32)), .val (.int c0)]) rfl ?_
    refine XS.goto X3.here hx rfl (pc0 := 41) (pc' := 3) rfl (hb hby d6_41) (by decide) (by decide) ?_
    show Steps p.tables e below (T3.setTop (mkF m 3 #[.val (.ref ca), .val (.int (1 : Int32)), .val (.ref bb), .val (.int (1 : Int32)), .val (.int (1 : Int32)), .val (.int (1 : Int32)), .val (.int c0)] [])) _
    refine XS.iload X3.here hx rfl (hb hby d6_3) rfl ?_
    refine XS.iload X3.here hx rfl (hb hby d6_5) rfl ?_
    refine XS.icmpYes X3.here hx rfl (pc0 := 7) (pc' := 44) rfl (hb hby d6_7) rfl (flt (by decide)).2.1 (by decide) (by decide) ?_
    refine XS.iload X3.here hx rfl (hb hby d6_44) rfl ?_
    exact kz
  exact Goes.retI X3 hx Bd.notSynchronized Bd.returns (hb hby d6_46) (Nat.le_of_ble_eq_true rfl) (Nat.le_of_ble_eq_true rfl) (by rw [e3]; exact ⟨rfl, N3, K3, A3⟩)
theorem d5_0 : decode jdk_52_method_16_code 0 = .ok (.iload_n 2, 1) := by decide +kernel
theorem d5_1 : decode jdk_52_method_16_code 1 = .ok (.newarray .byte, 2) := by decide +kernel
theorem d5_3 : decode jdk_52_method_16_code 3 = .ok (.astore_n 3, 1) := by decide +kernel
theorem d5_4 : decode jdk_52_method_16_code 4 = .ok (.aload_n 0, 1) := by decide +kernel
theorem d5_5 : decode jdk_52_method_16_code 5 = .ok (.iload_n 1, 1) := by decide +kernel
theorem d5_6 : decode jdk_52_method_16_code 6 = .ok (.aload_n 3, 1) := by decide +kernel
theorem d5_7 : decode jdk_52_method_16_code 7 = .ok (.iconst 0, 1) := by decide +kernel
theorem d5_8 : decode jdk_52_method_16_code 8 = .ok (.iload_n 2, 1) := by decide +kernel
theorem d5_9 : decode jdk_52_method_16_code 9 = .ok (.invokestatic 115, 3) := by decide +kernel
theorem d5_12 : decode jdk_52_method_16_code 12 = .ok (.istore 4, 2) := by decide +kernel
theorem d5_14 : decode jdk_52_method_16_code 14 = .ok (.iload 4, 2) := by decide +kernel
theorem d5_16 : decode jdk_52_method_16_code 16 = .ok (.iload_n 2, 1) := by decide +kernel
theorem d5_17 : decode jdk_52_method_16_code 17 = .ok (.if_icmp .eq 40, 3) := by decide +kernel
theorem d5_57 : decode jdk_52_method_16_code 57 = .ok (.aload_n 3, 1) := by decide +kernel
theorem d5_58 : decode jdk_52_method_16_code 58 = .ok (.areturn, 1) := by decide +kernel
theorem pn_5 : plainName "java/lang/StringUTF16" = true := by first | (simp [plainName, overriddenIn]; done) | decide +kernel
theorem ef_5 (m : MethodId) (x0 : Addr) (x1 : Int32) (x2 : Int32) : entryFrame m #[(.ref x0), (.int x1), (.int x2)] 6 = mkF m 0 #[.val (.ref x0), .val (.int x1), .val (.int x2), .unset, .unset, .unset] [] := by first | (simp [entryFrame, mkF, argsToLocals, Value.category]; done) | rfl
def Q_rc3_1 (Z : State) (ca : Addr) (ka : ClassId) (c0 : Int32) (h0 : Heap) (n0 : Nat) : Option Value → Heap → List Loc → Prop := fun v h L => ∃ b k, v = some (.ref b) ∧ Fr n0 L ∧ Keep h0 h [] ∧ Arv Z h b k .byte (1 : Int32) [.int (own_by c0)] (.int 0) ∧ @LE.le Nat _ h0.size b
set_option maxRecDepth 65536 in
set_option maxHeartbeats 40000000 in
theorem rc3_1 (l : Launch) (Z : State) (a0 : Array Value) (hw : ∀ d ∈ tables_1, d.before a0 Z = true) (ws : List Jvm.Cond) (ca : Addr) (ka : ClassId) (c0 : Int32) (h0 : Heap) (n0 : Nat) (Z0 : n0 ≤ h0.size) (C0 : Arv Z h0 ca ka .char (1 : Int32) [.int c0] (.int 0)) (s0 : ¬ (255 : Int32) < c0) :
    own_M l Z (⟨"java/lang/StringUTF16", "compress", "([CII)[B"⟩ : MethodName) (Jvm.Cond.code (⟨"java/lang/StringUTF16", "compress", "([CII)[B"⟩ : MethodName) jdk_52_method_16_code 6 (some (.array .byte))) ws ({ frames := 1, cells := 1, slots := 1, locals := 20 } : Room) #[(.ref ca), (.int (0 : Int32)), (.int (1 : Int32))] h0 (Q_rc3_1 Z ca ka c0 h0 n0) := by
  refine MetFree.of_bodySF (plainFor_of_name pn_5) hisR ?_
  intro p e s m args below meth c s₁ Bd hml0 hP hK
  obtain ⟨rfl, hZ, hh⟩ := hP
  have hx := Bd.exec
  have hby := Bd.bytes
  have hml : c.maxLocals = 6 := hml0
  have hown : s.vm.findClass "java/lang/StringUTF16" = some m.cls := findClass_of_methodNamed Bd.named
  have hnm := (name_of_methodNamed Bd.named Bd.method).1
  have X0 : Stand p l e ({ frames := 1, cells := 1, slots := 1, locals := 20 } : Room) s m #[(.ref ca), (.int (0 : Int32)), (.int (1 : Int32))] below meth c s₁ [] 0 0 := Stand.of_body Bd
  have e0 : s₁.heap = h0 := by rw [← hh, Bd.state]; rfl
  have N0 := Fr.nil n0
  show Goes p e below (Fin s (Q_rc3_1 Z ca ka c0 h0 n0) ({ frames := 1, cells := 1, slots := 1, locals := 20 } : Room).cells ({ frames := 1, cells := 1, slots := 1, locals := 20 } : Room).slots) _
  refine Goes.via (S' := s₁.setTop (mkF m 0 #[.val (.ref ca), .val (.int (0 : Int32)), .val (.int (1 : Int32)), .unset, .unset, .unset] [])) (fun tz kz => castTop (ef_5 m ca (0 : Int32) (1 : Int32) ) kz) ?_
  refine Goes.via (S' := s₁.setTop (mkF m 1 #[.val (.ref ca), .val (.int (0 : Int32)), .val (.int (1 : Int32)), .unset, .unset, .unset] [(.int (1 : Int32))])) (fun tz kz => ?_) ?_
  · show Steps p.tables e below (s₁.setTop (mkF m 0 #[.val (.ref ca), .val (.int (0 : Int32)), .val (.int (1 : Int32)), .unset, .unset, .unset] [])) _
    refine XS.iloadN X0.here hx rfl (hb hby d5_0) rfl ?_
    exact kz
  obtain ⟨T1, h1, k1, X1, e1, E1, A1, st1⟩ := newP X0 hx hZ (w_ hw 24 rfl) e0 (g := (mkF m 1 #[.val (.ref ca), .val (.int (0 : Int32)), .val (.int (1 : Int32)), .unset, .unset, .unset] [(.int (1 : Int32))])) rfl (hb hby d5_1) rfl (by decide) (cap := 1) (by decide) (by decide) (by decide) (by decide)
  obtain ⟨b1, g1⟩ : ∃ z, z = h0.size := ⟨_, rfl⟩
  rw [← g1] at A1 st1
  refine Goes.via (S' := T1.setTop (mkF m 3 #[.val (.ref ca), .val (.int (0 : Int32)), .val (.int (1 : Int32)), .unset, .unset, .unset] [(.ref b1)])) st1 ?_
  have B1 : Arv Z h1 b1 k1 .byte (1 : Int32) [.int 0] (.int 0) := (Arv.new A1 (by decide)).pad (pad_rep [] (.int 0) 1)
  have nab : ca ≠ b1 := adr_ne C0.lt g1 (Nat.le_refl _)
  have gb : n0 ≤ b1 := Nat.le_trans Z0 (Nat.le_of_eq g1.symm)
  refine Goes.via (S' := T1.setTop (mkF m 9 #[.val (.ref ca), .val (.int (0 : Int32)), .val (.int (1 : Int32)), .val (.ref b1), .unset, .unset] [(.int (1 : Int32)), (.int (0 : Int32)), (.ref b1), (.int (0 : Int32)), (.ref ca)])) (fun tz kz => ?_) ?_
  · show Steps p.tables e below (T1.setTop (mkF m 3 #[.val (.ref ca), .val (.int (0 : Int32)), .val (.int (1 : Int32)), .unset, .unset, .unset] [(.ref b1)])) _
    refine XS.astoreN X1.here hx rfl (hb hby d5_3) rfl rfl (l' := #[.val (.ref ca), .val (.int (0 : Int32)), .val (.int (1 : Int32)), .val (.ref b1), .unset, .unset]) rfl ?_
    refine XS.aloadN X1.here hx rfl (hb hby d5_4) rfl rfl ?_
    refine XS.iloadN X1.here hx rfl (hb hby d5_5) rfl ?_
    refine XS.aloadN X1.here hx rfl (hb hby d5_6) rfl rfl ?_
    show Steps p.tables e below (T1.setTop (mkF m 7 #[.val (.ref ca), .val (.int (0 : Int32)), .val (.int (1 : Int32)), .val (.ref b1), .unset, .unset] [(.ref b1), (.int (0 : Int32)), (.ref ca)])) _
    refine XS.iconst X1.here hx rfl (hb hby d5_7) ?_
    refine XS.iloadN X1.here hx rfl (hb hby d5_8) rfl ?_
    exact kz
  obtain ⟨_, _, ⟨T2, L2, k2, n2⟩, -, X2, ⟨Lc2, hQ2, l2, y2, z2⟩, st2⟩ := Jvm.LawKit.callS X1 hx (y := (⟨"java/lang/StringUTF16", "compress", "([CI[BII)I"⟩ : MethodName)) hown (mvT hZ (w_ hw 25 rfl)) (mvT hZ (w_ hw 26 rfl)) (mvT hZ (w_ hw 22 rfl)) (mvT hZ (w_ hw 27 rfl)) (by decide) (backOf (W := 0) (rc5_1 l Z a0 hw [] ca b1 ka k1 c0 h1 n0 (Nat.le_trans Z0 E1.1) (C0.ext E1) B1 gb nab s0) hZ (w_ hw 27 rfl) (w_ hw 22 rfl) (by decide) (by decide)) (g := (mkF m 9 #[.val (.ref ca), .val (.int (0 : Int32)), .val (.int (1 : Int32)), .val (.ref b1), .unset, .unset] [(.int (1 : Int32)), (.int (0 : Int32)), (.ref b1), (.int (0 : Int32)), (.ref ca)])) rfl (by rw [hml]; rfl) (argsL := [(.ref ca), (.int (0 : Int32)), (.ref b1), (.int (0 : Int32)), (.int (1 : Int32))]) (rest := []) (lenOf pd_1 rfl) rfl (by show 2 * 0 + _ ≤ _; exact Nat.le_of_eq rfl) (hb hby d5_9) (fun _ _ => ⟨rfl, e1, (by decide : 1 + 0 ≤ _), (by decide : 1 + 0 ≤ _)⟩)
  dsimp only [Pt.U, Pt.locs, Pt.cells, Pt.slots] at X2 l2 y2 z2 st2 hQ2
  subst l2 y2 z2
  obtain ⟨rfl, N2, K2, B2⟩ := hQ2
  have Nf2 := Fr.app N0 N2
  refine Goes.via (S' := T2.setTop (mkF m 12 #[.val (.ref ca), .val (.int (0 : Int32)), .val (.int (1 : Int32)), .val (.ref b1), .unset, .unset] [(.int (1 : Int32))])) (st2) ?_
  refine Goes.via (S' := T2.setTop (mkF m 58 #[.val (.ref ca), .val (.int (0 : Int32)), .val (.int (1 : Int32)), .val (.ref b1), .val (.int (1 : Int32)), .unset] [(.ref b1)])) (fun tz kz => ?_) ?_
  · show Steps p.tables e below (T2.setTop (mkF m 12 #[.val (.ref ca), .val (.int (0 : Int32)), .val (.int (1 : Int32)), .val (.ref b1), .unset, .unset] [(.int (1 : Int32))])) _
    refine XS.istore X2.here hx rfl (hb hby d5_12) rfl (l' := #[.val (.ref ca), .val (.int (0 : Int32)), .val (.int (1 : Int32)), .val (.ref b1), .val (.int (1 : Int32)), .unset]) rfl ?_
    refine XS.iload X2.here hx rfl (hb hby d5_14) rfl ?_
    refine XS.iloadN X2.here hx rfl (hb hby d5_16) rfl ?_
    refine XS.icmpYes X2.here hx rfl (pc0 := 17) (pc' := 57) rfl (hb hby d5_17) rfl (teq (by decide)).1 (by decide) (by decide) ?_
    show Steps p.tables e below (T2.setTop (mkF m 57 #[.val (.ref ca), .val (.int (0 : Int32)), .val (.int (1 : Int32)), .val (.ref b1), .val (.int (1 : Int32)), .unset] [])) _
    refine XS.aloadN X2.here hx rfl (hb hby d5_57) rfl rfl ?_
    exact kz
  exact Goes.retO X2 hx Bd.notSynchronized Bd.returns rfl (Or.inr (Or.inr (Or.inr (Or.inr ⟨rfl, rfl, rfl⟩)))) (hb hby d5_58) (Nat.le_of_ble_eq_true rfl) (Nat.le_of_ble_eq_true rfl) ⟨b1, k1, rfl, Nf2, (Keep.refl h0 []).ext E1 |>.trans K2 (allS (Or.inr (Nat.le_of_eq g1.symm)) all0), B2, Nat.le_of_eq g1.symm⟩
theorem d7_0 : decode jdk_52_method_15_code 0 = .ok (.iload_n 1, 1) := by decide +kernel
theorem d7_1 : decode jdk_52_method_15_code 1 = .ok (.aload_n 0, 1) := by decide +kernel
theorem d7_2 : decode jdk_52_method_15_code 2 = .ok (.arraylength, 1) := by decide +kernel
theorem d7_3 : decode jdk_52_method_15_code 3 = .ok (.isub, 1) := by decide +kernel
theorem d7_4 : decode jdk_52_method_15_code 4 = .ok (.bipush 31, 2) := by decide +kernel
theorem d7_6 : decode jdk_52_method_15_code 6 = .ok (.iushr, 1) := by decide +kernel
theorem d7_7 : decode jdk_52_method_15_code 7 = .ok (.i2b, 1) := by decide +kernel
theorem d7_8 : decode jdk_52_method_15_code 8 = .ok (.ireturn, 1) := by decide +kernel
theorem pn_7 : plainName "java/lang/StringUTF16" = true := by first | (simp [plainName, overriddenIn]; done) | decide +kernel
theorem ef_7 (m : MethodId) (x0 : Addr) (x1 : Int32) : entryFrame m #[(.ref x0), (.int x1)] 2 = mkF m 0 #[.val (.ref x0), .val (.int x1)] [] := by first | (simp [entryFrame, mkF, argsToLocals, Value.category]; done) | rfl
def Q_rcc_1 (Z : State) (bb : Addr) (k : ClassId) (vs : List Value) (h0 : Heap) (n0 : Nat) : Option Value → Heap → List Loc → Prop := fun v h L => v = some (.int 0) ∧ Fr n0 L ∧ h = h0
set_option maxRecDepth 65536 in
set_option maxHeartbeats 40000000 in
theorem rcc_1 (l : Launch) (Z : State) (a0 : Array Value) (hw : ∀ d ∈ tables_1, d.before a0 Z = true) (ws : List Jvm.Cond) (bb : Addr) (k : ClassId) (vs : List Value) (h0 : Heap) (n0 : Nat) (Z0 : n0 ≤ h0.size) (B0 : Arv Z h0 bb k .byte (1 : Int32) vs (.int 0)) :
    own_M l Z (⟨"java/lang/StringUTF16", "coderFromArrayLen", "([BI)B"⟩ : MethodName) (Jvm.Cond.code (⟨"java/lang/StringUTF16", "coderFromArrayLen", "([BI)B"⟩ : MethodName) jdk_52_method_15_code 2 (some .byte)) ws ({ frames := 0, cells := 0, slots := 0, locals := 0 } : Room) #[(.ref bb), (.int (1 : Int32))] h0 (Q_rcc_1 Z bb k vs h0 n0) := by
  refine MetFree.of_bodySF (plainFor_of_name pn_7) hisR ?_
  intro p e s m args below meth c s₁ Bd hml0 hP hK
  obtain ⟨rfl, hZ, hh⟩ := hP
  have hx := Bd.exec
  have hby := Bd.bytes
  have hml : c.maxLocals = 2 := hml0
  have hown : s.vm.findClass "java/lang/StringUTF16" = some m.cls := findClass_of_methodNamed Bd.named
  have hnm := (name_of_methodNamed Bd.named Bd.method).1
  have X0 : Stand p l e ({ frames := 0, cells := 0, slots := 0, locals := 0 } : Room) s m #[(.ref bb), (.int (1 : Int32))] below meth c s₁ [] 0 0 := Stand.of_body Bd
  have e0 : s₁.heap = h0 := by rw [← hh, Bd.state]; rfl
  have N0 := Fr.nil n0
  show Goes p e below (Fin s (Q_rcc_1 Z bb k vs h0 n0) ({ frames := 0, cells := 0, slots := 0, locals := 0 } : Room).cells ({ frames := 0, cells := 0, slots := 0, locals := 0 } : Room).slots) _
  refine Goes.via (S' := s₁.setTop (mkF m 0 #[.val (.ref bb), .val (.int (1 : Int32))] [])) (fun tz kz => castTop (ef_7 m bb (1 : Int32) ) kz) ?_
  refine Goes.via (S' := s₁.setTop (mkF m 2 #[.val (.ref bb), .val (.int (1 : Int32))] [(.ref bb), (.int (1 : Int32))])) (fun tz kz => ?_) ?_
  · show Steps p.tables e below (s₁.setTop (mkF m 0 #[.val (.ref bb), .val (.int (1 : Int32))] [])) _
    refine XS.iloadN X0.here hx rfl (hb hby d7_0) rfl ?_
    refine XS.aloadN X0.here hx rfl (hb hby d7_1) rfl rfl ?_
    exact kz
  obtain ⟨cl1, Ar1, q1, Sz1, Nn1, Hs1, G1⟩ := (id B0)
  refine Goes.via (S' := s₁.setTop (mkF m 8 #[.val (.ref bb), .val (.int (1 : Int32))] [(.int ((((0 : Int32).toUInt32 >>> ((31 : Int32) &&& 31).toUInt32).toInt32).toInt8.toInt32))])) (fun tz kz => ?_) ?_
  · show Steps p.tables e below (s₁.setTop (mkF m 2 #[.val (.ref bb), .val (.int (1 : Int32))] [(.ref bb), (.int (1 : Int32))])) _
    refine X0.arraylength hx (by rw [e0]; exact Ar1.1) (State.isArrayOf_alike hZ.alike Ar1.2.1) (g := (mkF m 2 #[.val (.ref bb), .val (.int (1 : Int32))] [(.ref bb), (.int (1 : Int32))])) rfl rfl (hb hby d7_2) _ ?_
    rw [len_of Sz1 Nn1]
    refine XS.isub X0.here hx rfl (hb hby d7_3) rfl ?_
    refine XS.bipush X0.here hx rfl (hb hby d7_4) ?_
    refine XS.iushr X0.here hx rfl (hb hby d7_6) rfl ?_
    show Steps p.tables e below (s₁.setTop (mkF m 7 #[.val (.ref bb), .val (.int (1 : Int32))] [(.int (((0 : Int32).toUInt32 >>> ((31 : Int32) &&& 31).toUInt32).toInt32))])) _
    refine XS.i2b X0.here hx rfl (hb hby d7_7) rfl ?_
    exact kz
  exact Goes.retN X0 hx Bd.notSynchronized (t := .byte) Bd.returns (by simp) (hb hby d7_8) (Nat.le_of_ble_eq_true rfl) (Nat.le_of_ble_eq_true rfl) ⟨congrArg (fun z => some (Value.int z)) (by decide), N0, e0⟩
def Q_rn4_1 (Z : State) (a1 : Addr) (ca : Addr) (cs : Int32) (ka : ClassId) (c0 : Int32) (h0 : Heap) (n0 : Nat) : Option Value → Heap → List Loc → Prop := fun v h L => v = none ∧ Fr n0 L ∧ Keep h0 h [a1] ∧ ∃ b k, own_Str Z h a1 b k (1 : Int32) [.int (own_by c0)] ∧ @LE.le Nat _ h0.size b
set_option maxRecDepth 65536 in
set_option maxHeartbeats 40000000 in
theorem rn4_1 (l : Launch) (Z : State) (a0 : Array Value) (hw : ∀ d ∈ tables_1, d.before a0 Z = true) (ws : List Jvm.Cond) (a1 : Addr) (ca : Addr) (cs : Int32) (ka : ClassId) (c0 : Int32) (h0 : Heap) (n0 : Nat) (Z0 : n0 ≤ h0.size) (SC : Sta Z Z.heap "java/lang/String" "COMPACT_STRINGS" "Z" (.int cs)) (hcs : ¬ cs = (0 : Int32)) (O0 : Old Z n0 h0) (FV : Fld Z h0 a1 "java/lang/String" "value" "[B" .null) (FC : Fld Z h0 a1 "java/lang/String" "coder" "B" (.int (0 : Int32))) (E1 : Exa Z h0 a1 "java/lang/String") (g1 : n0 ≤ a1) (C0 : Arv Z h0 ca ka .char (1 : Int32) [.int c0] (.int 0)) (s0 : ¬ (255 : Int32) < c0) :
    own_M l Z (⟨"java/lang/String", "<init>", "([CIILjava/lang/Void;)V"⟩ : MethodName) (Jvm.Cond.code (⟨"java/lang/String", "<init>", "([CIILjava/lang/Void;)V"⟩ : MethodName) jdk_42_method_149_code 6 none) ws ({ frames := 2, cells := 1, slots := 1, locals := 40 } : Room) #[(.ref a1), (.ref ca), (.int (0 : Int32)), (.int (1 : Int32)), .null] h0 (Q_rn4_1 Z a1 ca cs ka c0 h0 n0) := by
  refine MetFree.of_bodySF (plainFor_of_name pn_3) hisR ?_
  intro p e s m args below meth c s₁ Bd hml0 hP hK
  obtain ⟨rfl, hZ, hh⟩ := hP
  have hx := Bd.exec
  have hby := Bd.bytes
  have hml : c.maxLocals = 6 := hml0
  have hown : s.vm.findClass "java/lang/String" = some m.cls := findClass_of_methodNamed Bd.named
  have hnm := (name_of_methodNamed Bd.named Bd.method).1
  have X0 : Stand p l e ({ frames := 2, cells := 1, slots := 1, locals := 40 } : Room) s m #[(.ref a1), (.ref ca), (.int (0 : Int32)), (.int (1 : Int32)), .null] below meth c s₁ [] 0 0 := Stand.of_body Bd
  have e0 : s₁.heap = h0 := by rw [← hh, Bd.state]; rfl
  have N0 := Fr.nil n0
  show Goes p e below (Fin s (Q_rn4_1 Z a1 ca cs ka c0 h0 n0) ({ frames := 2, cells := 1, slots := 1, locals := 40 } : Room).cells ({ frames := 2, cells := 1, slots := 1, locals := 40 } : Room).slots) _
  refine Goes.via (S' := s₁.setTop (mkF m 0 #[.val (.ref a1), .val (.ref ca), .val (.int (0 : Int32)), .val (.int (1 : Int32)), .val .null, .unset] [])) (fun tz kz => castTop (ef_3 m a1 ca (0 : Int32) (1 : Int32) ) kz) ?_
  refine Goes.via (S' := s₁.setTop (mkF m 1 #[.val (.ref a1), .val (.ref ca), .val (.int (0 : Int32)), .val (.int (1 : Int32)), .val .null, .unset] [(.ref a1)])) (fun tz kz => ?_) ?_
  · show Steps p.tables e below (s₁.setTop (mkF m 0 #[.val (.ref a1), .val (.ref ca), .val (.int (0 : Int32)), .val (.int (1 : Int32)), .val .null, .unset] [])) _
    refine XS.aloadN X0.here hx rfl (hb hby d3_0) rfl rfl ?_
    exact kz
  obtain ⟨T1, X1, e1, st1⟩ := initO X0 hx hZ hown (w_ hw 16 rfl) (w_ hw 17 rfl) (w_ hw 18 rfl) e0 (g := (mkF m 1 #[.val (.ref a1), .val (.ref ca), .val (.int (0 : Int32)), .val (.int (1 : Int32)), .val .null, .unset] [(.ref a1)])) rfl (by rw [hml]; rfl) rfl (hb hby d3_1) (by decide) (W := 0) (by show 2 * 0 + _ ≤ _; exact Nat.le_of_eq rfl) (by decide)
  refine Goes.via (S' := T1.setTop (mkF m 4 #[.val (.ref a1), .val (.ref ca), .val (.int (0 : Int32)), .val (.int (1 : Int32)), .val .null, .unset] [])) st1 ?_
  refine Goes.via (S' := T1.setTop (mkF m 27 #[.val (.ref a1), .val (.ref ca), .val (.int (0 : Int32)), .val (.int (1 : Int32)), .val .null, .unset] [])) (fun tz kz => ?_) ?_
  · show Steps p.tables e below (T1.setTop (mkF m 4 #[.val (.ref a1), .val (.ref ca), .val (.int (0 : Int32)), .val (.int (1 : Int32)), .val .null, .unset] [])) _
    refine XS.iloadN X1.here hx rfl (hb hby d3_4) rfl ?_
    refine XS.ifYes X1.here hx rfl (pc0 := 5) (pc' := 27) rfl (hb hby d3_5) rfl ((if0 _ _).trans (feq (by decide)).2) (by decide) (by decide) ?_
    exact kz
  obtain ⟨T2, X2, e2, st2⟩ := getS2 X1 hx hZ hown (host := "") (Or.inl (w_ hw 19 rfl)) Via.refl e1 (SC.ext O0.2) (g := (mkF m 27 #[.val (.ref a1), .val (.ref ca), .val (.int (0 : Int32)), .val (.int (1 : Int32)), .val .null, .unset] [])) rfl (hb hby d3_27)
  refine Goes.via (S' := T2.setTop (mkF m 30 #[.val (.ref a1), .val (.ref ca), .val (.int (0 : Int32)), .val (.int (1 : Int32)), .val .null, .unset] [(.int cs)])) st2 ?_
  refine Goes.via (S' := T2.setTop (mkF m 36 #[.val (.ref a1), .val (.ref ca), .val (.int (0 : Int32)), .val (.int (1 : Int32)), .val .null, .unset] [(.int (1 : Int32)), (.int (0 : Int32)), (.ref ca)])) (fun tz kz => ?_) ?_
  · show Steps p.tables e below (T2.setTop (mkF m 30 #[.val (.ref a1), .val (.ref ca), .val (.int (0 : Int32)), .val (.int (1 : Int32)), .val .null, .unset] [(.int cs)])) _
    refine XS.ifNo X2.here hx rfl (hb hby d3_30) rfl ((if0 _ _).trans (feq hcs).1) ?_
    refine XS.aloadN X2.here hx rfl (hb hby d3_33) rfl rfl ?_
    refine XS.iloadN X2.here hx rfl (hb hby d3_34) rfl ?_
    refine XS.iloadN X2.here hx rfl (hb hby d3_35) rfl ?_
    exact kz
  obtain ⟨_, _, ⟨T3, L3, k3, n3⟩, -, X3, ⟨Lc3, hQ3, l3, y3, z3⟩, st3⟩ := Jvm.LawKit.callS X2 hx (y := (⟨"java/lang/StringUTF16", "compress", "([CII)[B"⟩ : MethodName)) hown (mvT hZ (w_ hw 20 rfl)) (mvT hZ (w_ hw 21 rfl)) (mvT hZ (w_ hw 22 rfl)) (mvT hZ (w_ hw 23 rfl)) (by decide) (backOf (W := 0) (rc3_1 l Z a0 hw [] ca ka c0 h0 n0 Z0 C0 s0) hZ (w_ hw 23 rfl) (w_ hw 22 rfl) (by decide) (by decide)) (g := (mkF m 36 #[.val (.ref a1), .val (.ref ca), .val (.int (0 : Int32)), .val (.int (1 : Int32)), .val .null, .unset] [(.int (1 : Int32)), (.int (0 : Int32)), (.ref ca)])) rfl (by rw [hml]; rfl) (argsL := [(.ref ca), (.int (0 : Int32)), (.int (1 : Int32))]) (rest := []) (lenOf pd_2 rfl) rfl (by show 2 * 0 + _ ≤ _; exact Nat.le_of_eq rfl) (hb hby d3_36) (fun _ _ => ⟨rfl, e2, (by decide : 0 + 1 ≤ _), (by decide : 0 + 1 ≤ _)⟩)
  dsimp only [Pt.U, Pt.locs, Pt.cells, Pt.slots] at X3 l3 y3 z3 st3 hQ3
  subst l3 y3 z3
  obtain ⟨vb, kb, rfl, N3, K3, B3, gv⟩ := hQ3
  have Nf3 := Fr.app N0 N3
  refine Goes.via (S' := T3.setTop (mkF m 39 #[.val (.ref a1), .val (.ref ca), .val (.int (0 : Int32)), .val (.int (1 : Int32)), .val .null, .unset] [(.ref vb)])) (st3) ?_
  refine Goes.via (S' := T3.setTop (mkF m 45 #[.val (.ref a1), .val (.ref ca), .val (.int (0 : Int32)), .val (.int (1 : Int32)), .val .null, .val (.ref vb)] [(.int (1 : Int32)), (.ref vb), (.ref a1)])) (fun tz kz => ?_) ?_
  · show Steps p.tables e below (T3.setTop (mkF m 39 #[.val (.ref a1), .val (.ref ca), .val (.int (0 : Int32)), .val (.int (1 : Int32)), .val .null, .unset] [(.ref vb)])) _
    refine XS.astore X3.here hx rfl (hb hby d3_39) rfl rfl (l' := #[.val (.ref a1), .val (.ref ca), .val (.int (0 : Int32)), .val (.int (1 : Int32)), .val .null, .val (.ref vb)]) rfl ?_
    refine XS.aloadN X3.here hx rfl (hb hby d3_41) rfl rfl ?_
    refine XS.aload X3.here hx rfl (hb hby d3_42) rfl rfl ?_
    refine XS.iloadN X3.here hx rfl (hb hby d3_44) rfl ?_
    exact kz
  obtain ⟨_, _, ⟨T4, L4, k4, n4⟩, -, X4, ⟨Lc4, hQ4, l4, y4, z4⟩, st4⟩ := Jvm.LawKit.callS X3 hx (y := (⟨"java/lang/StringUTF16", "coderFromArrayLen", "([BI)B"⟩ : MethodName)) hown (mvT hZ (w_ hw 28 rfl)) (mvT hZ (w_ hw 29 rfl)) (mvT hZ (w_ hw 22 rfl)) (mvT hZ (w_ hw 30 rfl)) (by decide) (backOf (W := 1) (rcc_1 l Z a0 hw [] vb kb _ T3.heap n0 (Nat.le_trans Z0 K3.1) B3) hZ (w_ hw 30 rfl) (w_ hw 22 rfl) (by decide) (by decide)) (g := (mkF m 45 #[.val (.ref a1), .val (.ref ca), .val (.int (0 : Int32)), .val (.int (1 : Int32)), .val .null, .val (.ref vb)] [(.int (1 : Int32)), (.ref vb), (.ref a1)])) rfl (by rw [hml]; rfl) (argsL := [(.ref vb), (.int (1 : Int32))]) (rest := [(.ref a1)]) (lenOf pd_3 rfl) rfl (by show 2 * 0 + _ ≤ _; exact Nat.le_of_eq rfl) (hb hby d3_45) (fun _ _ => ⟨rfl, rfl, (by decide : 1 + 0 ≤ _), (by decide : 1 + 0 ≤ _)⟩)
  dsimp only [Pt.U, Pt.locs, Pt.cells, Pt.slots] at X4 l4 y4 z4 st4 hQ4
  subst l4 y4 z4
  obtain ⟨rfl, N4, e4⟩ := hQ4
  have Nf4 := Fr.app Nf3 N4
  refine Goes.via (S' := T4.setTop (mkF m 48 #[.val (.ref a1), .val (.ref ca), .val (.int (0 : Int32)), .val (.int (1 : Int32)), .val .null, .val (.ref vb)] [(.int (0 : Int32)), (.ref a1)])) (st4) ?_
  have Ea := E1.keep K3
  have GV := FV.keep K3 nin0
  have GC := FC.keep K3 nin0
  have nb : a1 ≠ vb := Nat.ne_of_lt (Nat.lt_of_lt_of_le E1.lt gv)
  obtain ⟨T5, h5, X5, e5, W5, st5⟩ := putFN X4 hx hZ hown (w_ hw 31 rfl) Via.refl e4 GC Ea (Or.inr ⟨(w_ hw 32 rfl), rfl, hnm⟩) (w_ hw 6 rfl) (ty := .byte) (v' := (.int (nar .byte (0 : Int32)))) (by decide) rfl (fits_nar_byte _) (g := (mkF m 48 #[.val (.ref a1), .val (.ref ca), .val (.int (0 : Int32)), .val (.int (1 : Int32)), .val .null, .val (.ref vb)] [(.int (0 : Int32)), (.ref a1)])) rfl rfl (hb hby d3_48)
  refine Goes.via (S' := T5.setTop (mkF m 51 #[.val (.ref a1), .val (.ref ca), .val (.int (0 : Int32)), .val (.int (1 : Int32)), .val .null, .val (.ref vb)] [])) st5 ?_
  have N5 := Fr.snoc X5 Nf4 g1
  have HC : Fld Z h5 a1 "java/lang/String" "coder" "B" (.int (0 : Int32)) := GC.same W5
  have HV := GV.other W5 (Or.inr (slot_ne (Or.inr (w_ hw 34 rfl)) (Or.inr (w_ hw 32 rfl)) (by decide) (t := (.array .byte)) (t' := .byte) (by decide) (by decide)))
  have Eb := Ea.wr W5
  have Bb := B3.other W5 (Ne.symm nb)
  refine Goes.via (S' := T5.setTop (mkF m 54 #[.val (.ref a1), .val (.ref ca), .val (.int (0 : Int32)), .val (.int (1 : Int32)), .val .null, .val (.ref vb)] [(.ref vb), (.ref a1)])) (fun tz kz => ?_) ?_
  · show Steps p.tables e below (T5.setTop (mkF m 51 #[.val (.ref a1), .val (.ref ca), .val (.int (0 : Int32)), .val (.int (1 : Int32)), .val .null, .val (.ref vb)] [])) _
    refine XS.aloadN X5.here hx rfl (hb hby d3_51) rfl rfl ?_
    refine XS.aload X5.here hx rfl (hb hby d3_52) rfl rfl ?_
    exact kz
  obtain ⟨T6, h6, X6, e6, W6, st6⟩ := putF X5 hx hZ hown (host := "") (Or.inl (w_ hw 33 rfl)) Via.refl e5 HV Eb (Or.inr ⟨(w_ hw 34 rfl), rfl, hnm⟩) (w_ hw 6 rfl) (ty := (.array .byte)) (by decide) rfl rfl (g := (mkF m 54 #[.val (.ref a1), .val (.ref ca), .val (.int (0 : Int32)), .val (.int (1 : Int32)), .val .null, .val (.ref vb)] [(.ref vb), (.ref a1)])) rfl rfl (hb hby d3_54)
  refine Goes.via (S' := T6.setTop (mkF m 57 #[.val (.ref a1), .val (.ref ca), .val (.int (0 : Int32)), .val (.int (1 : Int32)), .val .null, .val (.ref vb)] [])) st6 ?_
  have N6 := Fr.snoc X6 N5 g1
  have JV := HV.same W6
  have JC := HC.other W6 (Or.inr (slot_ne (Or.inr (w_ hw 32 rfl)) (Or.inr (w_ hw 34 rfl)) (by decide) (t := .byte) (t' := (.array .byte)) (by decide) (by decide)))
  have Ec := Eb.wr W6
  have Bc := Bb.other W6 (Ne.symm nb)
  have Kq : Keep h0 h6 [a1] := (((Keep.refl h0 [a1]).trans K3 all0).wr W5 (Or.inl (List.mem_singleton.mpr rfl))).wr W6 (Or.inl (List.mem_singleton.mpr rfl))
  exact Goes.retV X6 hx Bd.notSynchronized Bd.returns (hb hby d3_57) (Nat.le_of_ble_eq_true rfl) (Nat.le_of_ble_eq_true rfl) (by rw [e6]; exact ⟨rfl, N6, Kq, vb, kb, ⟨Ec, JC, JV, Bc⟩, gv⟩)
def Q_rn1_1 (Z : State) (a1 : Addr) (ca : Addr) (cs : Int32) (ka : ClassId) (c0 : Int32) (h0 : Heap) (n0 : Nat) : Option Value → Heap → List Loc → Prop := fun v h L => v = none ∧ Fr n0 L ∧ Keep h0 h [a1] ∧ ∃ b k, own_Str Z h a1 b k (1 : Int32) [.int (own_by c0)] ∧ @LE.le Nat _ h0.size b
set_option maxRecDepth 65536 in
set_option maxHeartbeats 40000000 in
theorem rn1_1 (l : Launch) (Z : State) (a0 : Array Value) (hw : ∀ d ∈ tables_1, d.before a0 Z = true) (ws : List Jvm.Cond) (a1 : Addr) (ca : Addr) (cs : Int32) (ka : ClassId) (c0 : Int32) (h0 : Heap) (n0 : Nat) (Z0 : n0 ≤ h0.size) (SC : Sta Z Z.heap "java/lang/String" "COMPACT_STRINGS" "Z" (.int cs)) (hcs : ¬ cs = (0 : Int32)) (O0 : Old Z n0 h0) (FV : Fld Z h0 a1 "java/lang/String" "value" "[B" .null) (FC : Fld Z h0 a1 "java/lang/String" "coder" "B" (.int (0 : Int32))) (E1 : Exa Z h0 a1 "java/lang/String") (g1 : n0 ≤ a1) (C0 : Arv Z h0 ca ka .char (1 : Int32) [.int c0] (.int 0)) (s0 : ¬ (255 : Int32) < c0) :
    own_M l Z (⟨"java/lang/String", "<init>", "([C)V"⟩ : MethodName) (Jvm.Cond.code (⟨"java/lang/String", "<init>", "([C)V"⟩ : MethodName) jdk_42_method_3_code 2 none) ws ({ frames := 3, cells := 1, slots := 1, locals := 60 } : Room) #[(.ref a1), (.ref ca)] h0 (Q_rn1_1 Z a1 ca cs ka c0 h0 n0) := by
  refine MetFree.of_bodySF (plainFor_of_name pn_2) hisR ?_
  intro p e s m args below meth c s₁ Bd hml0 hP hK
  obtain ⟨rfl, hZ, hh⟩ := hP
  have hx := Bd.exec
  have hby := Bd.bytes
  have hml : c.maxLocals = 2 := hml0
  have hown : s.vm.findClass "java/lang/String" = some m.cls := findClass_of_methodNamed Bd.named
  have hnm := (name_of_methodNamed Bd.named Bd.method).1
  have X0 : Stand p l e ({ frames := 3, cells := 1, slots := 1, locals := 60 } : Room) s m #[(.ref a1), (.ref ca)] below meth c s₁ [] 0 0 := Stand.of_body Bd
  have e0 : s₁.heap = h0 := by rw [← hh, Bd.state]; rfl
  have N0 := Fr.nil n0
  show Goes p e below (Fin s (Q_rn1_1 Z a1 ca cs ka c0 h0 n0) ({ frames := 3, cells := 1, slots := 1, locals := 60 } : Room).cells ({ frames := 3, cells := 1, slots := 1, locals := 60 } : Room).slots) _
  refine Goes.via (S' := s₁.setTop (mkF m 0 #[.val (.ref a1), .val (.ref ca)] [])) (fun tz kz => castTop (ef_2 m a1 ca ) kz) ?_
  refine Goes.via (S' := s₁.setTop (mkF m 4 #[.val (.ref a1), .val (.ref ca)] [(.ref ca), (.int (0 : Int32)), (.ref ca), (.ref a1)])) (fun tz kz => ?_) ?_
  · show Steps p.tables e below (s₁.setTop (mkF m 0 #[.val (.ref a1), .val (.ref ca)] [])) _
    refine XS.aloadN X0.here hx rfl (hb hby d2_0) rfl rfl ?_
    refine XS.aloadN X0.here hx rfl (hb hby d2_1) rfl rfl ?_
    refine XS.iconst X0.here hx rfl (hb hby d2_2) ?_
    refine XS.aloadN X0.here hx rfl (hb hby d2_3) rfl rfl ?_
    exact kz
  obtain ⟨cl1, Ar1, q1, Sz1, Nn1, Hs1, G1⟩ := (id C0)
  refine Goes.via (S' := s₁.setTop (mkF m 6 #[.val (.ref a1), .val (.ref ca)] [.null, (.int (1 : Int32)), (.int (0 : Int32)), (.ref ca), (.ref a1)])) (fun tz kz => ?_) ?_
  · show Steps p.tables e below (s₁.setTop (mkF m 4 #[.val (.ref a1), .val (.ref ca)] [(.ref ca), (.int (0 : Int32)), (.ref ca), (.ref a1)])) _
    refine X0.arraylength hx (by rw [e0]; exact Ar1.1) (State.isArrayOf_alike hZ.alike Ar1.2.1) (g := (mkF m 4 #[.val (.ref a1), .val (.ref ca)] [(.ref ca), (.int (0 : Int32)), (.ref ca), (.ref a1)])) rfl rfl (hb hby d2_4) _ ?_
    rw [len_of Sz1 Nn1]
    refine XS.aconstNull X0.here hx rfl (hb hby d2_5) ?_
    exact kz
  obtain ⟨_, _, ⟨T2, L2, k2, n2⟩, -, X2, ⟨Lc2, hQ2, l2, y2, z2⟩, st2⟩ := X0.specialBack hx (y := (⟨"java/lang/String", "<init>", "([CIILjava/lang/Void;)V"⟩ : MethodName)) rfl hown (mvT hZ (w_ hw 12 rfl)) (mvT hZ (w_ hw 13 rfl)) (mvT hZ (w_ hw 15 rfl)) (by decide) (backOf (W := 0) (rn4_1 l Z a0 hw [] a1 ca cs ka c0 h0 n0 Z0 SC hcs O0 FV FC E1 g1 C0 s0) hZ (w_ hw 15 rfl) (w_ hw 7 rfl) (by decide) (by decide)) (g := (mkF m 6 #[.val (.ref a1), .val (.ref ca)] [.null, (.int (1 : Int32)), (.int (0 : Int32)), (.ref ca), (.ref a1)])) rfl (by rw [hml]; rfl) (Steps.refl _) (a := a1) (argsL := [(.ref ca), (.int (0 : Int32)), (.int (1 : Int32)), .null]) (rest := []) (lenOf pd_0 rfl) rfl (by show 2 * 0 + _ ≤ _; exact Nat.le_of_eq rfl) (hb hby d2_6) (fun _ _ => ⟨rfl, e0, (by decide : 0 + 1 ≤ _), (by decide : 0 + 1 ≤ _)⟩)
  dsimp only [Pt.U, Pt.locs, Pt.cells, Pt.slots] at X2 l2 y2 z2 st2 hQ2
  subst l2 y2 z2
  obtain ⟨rfl, N2, K2, vb, kb, S2, gv⟩ := hQ2
  have Nf2 := Fr.app N0 N2
  refine Goes.via (S' := T2.setTop (mkF m 9 #[.val (.ref a1), .val (.ref ca)] [])) (fun _ kz => st2.trans kz) ?_
  exact Goes.retV X2 hx Bd.notSynchronized Bd.returns (hb hby d2_9) (Nat.le_of_ble_eq_true rfl) (Nat.le_of_ble_eq_true rfl) ⟨rfl, Nf2, K2, vb, kb, S2, gv⟩
def Q_rc5_2 (Z : State) (ca : Addr) (bb : Addr) (ka kz : ClassId) (c0 c1 : Int32) (h0 : Heap) (n0 : Nat) : Option Value → Heap → List Loc → Prop := fun v h L => v = some (.int (2 : Int32)) ∧ Fr n0 L ∧ Keep h0 h [bb] ∧ Arv Z h bb kz .byte (2 : Int32) [.int (own_by c0), .int (own_by c1)] (.int 0)
set_option maxRecDepth 65536 in
set_option maxHeartbeats 40000000 in
theorem rc5_2 (l : Launch) (Z : State) (a0 : Array Value) (hw : ∀ d ∈ tables_1, d.before a0 Z = true) (ws : List Jvm.Cond) (ca : Addr) (bb : Addr) (ka kz : ClassId) (c0 c1 : Int32) (h0 : Heap) (n0 : Nat) (Z0 : n0 ≤ h0.size) (C0 : Arv Z h0 ca ka .char (2 : Int32) [.int c0, .int c1] (.int 0)) (B0 : Arv Z h0 bb kz .byte (2 : Int32) [.int 0, .int 0] (.int 0)) (gb : n0 ≤ bb) (nab : ca ≠ bb) (s0 : ¬ (255 : Int32) < c0) (s1 : ¬ (255 : Int32) < c1) :
    own_M l Z (⟨"java/lang/StringUTF16", "compress", "([CI[BII)I"⟩ : MethodName) (Jvm.Cond.code (⟨"java/lang/StringUTF16", "compress", "([CI[BII)I"⟩ : MethodName) jdk_52_method_21_code 7 (some .int)) ws ({ frames := 0, cells := 0, slots := 0, locals := 0 } : Room) #[(.ref ca), (.int (0 : Int32)), (.ref bb), (.int (0 : Int32)), (.int (2 : Int32))] h0 (Q_rc5_2 Z ca bb ka kz c0 c1 h0 n0) := by
  refine MetFree.of_bodySF (plainFor_of_name pn_6) hisR ?_
  intro p e s m args below meth c s₁ Bd hml0 hP hK
  obtain ⟨rfl, hZ, hh⟩ := hP
  have hx := Bd.exec
  have hby := Bd.bytes
  have hml : c.maxLocals = 7 := hml0
  have hown : s.vm.findClass "java/lang/StringUTF16" = some m.cls := findClass_of_methodNamed Bd.named
  have hnm := (name_of_methodNamed Bd.named Bd.method).1
  have X0 : Stand p l e ({ frames := 0, cells := 0, slots := 0, locals := 0 } : Room) s m #[(.ref ca), (.int (0 : Int32)), (.ref bb), (.int (0 : Int32)), (.int (2 : Int32))] below meth c s₁ [] 0 0 := Stand.of_body Bd
  have e0 : s₁.heap = h0 := by rw [← hh, Bd.state]; rfl
  have N0 := Fr.nil n0
  show Goes p e below (Fin s (Q_rc5_2 Z ca bb ka kz c0 c1 h0 n0) ({ frames := 0, cells := 0, slots := 0, locals := 0 } : Room).cells ({ frames := 0, cells := 0, slots := 0, locals := 0 } : Room).slots) _
  refine Goes.via (S' := s₁.setTop (mkF m 0 #[.val (.ref ca), .val (.int (0 : Int32)), .val (.ref bb), .val (.int (0 : Int32)), .val (.int (2 : Int32)), .unset, .unset] [])) (fun tz kz => castTop (ef_6 m ca (0 : Int32) bb (0 : Int32) (2 : Int32) ) kz) ?_
  refine Goes.via (S' := s₁.setTop (mkF m 12 #[.val (.ref ca), .val (.int (0 : Int32)), .val (.ref bb), .val (.int (0 : Int32)), .val (.int (2 : Int32)), .val (.int (0 : Int32)), .unset] [(.int (0 : Int32)), (.ref ca)])) (fun tz kz => ?_) ?_
  · show Steps p.tables e below (s₁.setTop (mkF m 0 #[.val (.ref ca), .val (.int (0 : Int32)), .val (.ref bb), .val (.int (0 : Int32)), .val (.int (2 : Int32)), .unset, .unset] [])) _
    refine XS.iconst X0.here hx rfl (hb hby d6_0) ?_
    refine XS.istore X0.here hx rfl (hb hby d6_1) rfl (l' := #[.val (.ref ca), .val (.int (0 : Int32)), .val (.ref bb), .val (.int (0 : Int32)), .val (.int (2 : Int32)), .val (.int (0 : Int32)), .unset]) rfl ?_
    refine XS.iload X0.here hx rfl (hb hby d6_3) rfl ?_
    refine XS.iload X0.here hx rfl (hb hby d6_5) rfl ?_
    show Steps p.tables e below (s₁.setTop (mkF m 7 #[.val (.ref ca), .val (.int (0 : Int32)), .val (.ref bb), .val (.int (0 : Int32)), .val (.int (2 : Int32)), .val (.int (0 : Int32)), .unset] [(.int (2 : Int32)), (.int (0 : Int32))])) _
    refine XS.icmpNo X0.here hx rfl (hb hby d6_7) rfl (tlt (by decide)).2.1 ?_
    refine XS.aloadN X0.here hx rfl (hb hby d6_10) rfl rfl ?_
    refine XS.iloadN X0.here hx rfl (hb hby d6_11) rfl ?_
    exact kz
  obtain ⟨cl1, Ar1, q1, Sz1, Nn1, Hs1, G1⟩ := (id C0)
  refine Goes.via (S' := s₁.setTop (mkF m 31 #[.val (.ref ca), .val (.int (0 : Int32)), .val (.ref bb), .val (.int (0 : Int32)), .val (.int (2 : Int32)), .val (.int (0 : Int32)), .val (.int c0)] [(.int (c0.toInt8.toInt32)), (.int (0 : Int32)), (.ref bb)])) (fun tz kz => ?_) ?_
  · show Steps p.tables e below (s₁.setTop (mkF m 12 #[.val (.ref ca), .val (.int (0 : Int32)), .val (.ref bb), .val (.int (0 : Int32)), .val (.int (2 : Int32)), .val (.int (0 : Int32)), .unset] [(.int (0 : Int32)), (.ref ca)])) _
    refine X0.caload hx (j := (0 : Int32)) (v := (.int c0)) (by rw [e0]; exact Ar1.1) (State.isArrayOf_alike hZ.alike Ar1.2.1) Ar1.2.2 (inb_of Sz1 ⟨by decide, by decide⟩) (Has.at Hs1 (inb_of Sz1 ⟨by decide, by decide⟩) rfl) (g := (mkF m 12 #[.val (.ref ca), .val (.int (0 : Int32)), .val (.ref bb), .val (.int (0 : Int32)), .val (.int (2 : Int32)), .val (.int (0 : Int32)), .unset] [(.int (0 : Int32)), (.ref ca)])) rfl rfl (hb hby d6_12) _ ?_
    refine XS.istore X0.here hx rfl (hb hby d6_13) rfl (l' := #[.val (.ref ca), .val (.int (0 : Int32)), .val (.ref bb), .val (.int (0 : Int32)), .val (.int (2 : Int32)), .val (.int (0 : Int32)), .val (.int c0)]) rfl ?_
    refine XS.iload X0.here hx rfl (hb hby d6_15) rfl ?_
    refine XS.sipush X0.here hx rfl (hb hby d6_17) ?_
    show Steps p.tables e below (s₁.setTop (mkF m 20 #[.val (.ref ca), .val (.int (0 : Int32)), .val (.ref bb), .val (.int (0 : Int32)), .val (.int (2 : Int32)), .val (.int (0 : Int32)), .val (.int c0)] [(.int (255 : Int32)), (.int c0)])) _
    refine XS.icmpYes X0.here hx rfl (pc0 := 20) (pc' := 26) rfl (hb hby d6_20) rfl (flt s0).2.2.2 (by decide) (by decide) ?_
    refine XS.aloadN X0.here hx rfl (hb hby d6_26) rfl rfl ?_
    refine XS.iloadN X0.here hx rfl (hb hby d6_27) rfl ?_
    refine XS.iload X0.here hx rfl (hb hby d6_28) rfl ?_
    show Steps p.tables e below (s₁.setTop (mkF m 30 #[.val (.ref ca), .val (.int (0 : Int32)), .val (.ref bb), .val (.int (0 : Int32)), .val (.int (2 : Int32)), .val (.int (0 : Int32)), .val (.int c0)] [(.int c0), (.int (0 : Int32)), (.ref bb)])) _
    refine XS.i2b X0.here hx rfl (hb hby d6_30) rfl ?_
    exact kz
  obtain ⟨cl2, Ar2, q2, Sz2, Nn2, Hs2, G2⟩ := (id B0)
  obtain ⟨T3, h3, X3, e3, W3, st3⟩ := stB X0 hx hZ e0 Ar2 (j := (0 : Int32)) (inb_of Sz2 ⟨by decide, by decide⟩) (g := (mkF m 31 #[.val (.ref ca), .val (.int (0 : Int32)), .val (.ref bb), .val (.int (0 : Int32)), .val (.int (2 : Int32)), .val (.int (0 : Int32)), .val (.int c0)] [(.int (c0.toInt8.toInt32)), (.int (0 : Int32)), (.ref bb)])) rfl rfl (hb hby d6_31)
  refine Goes.via (S' := T3.setTop (mkF m 32 #[.val (.ref ca), .val (.int (0 : Int32)), .val (.ref bb), .val (.int (0 : Int32)), .val (.int (2 : Int32)), .val (.int (0 : Int32)), .val (.int c0)] [])) st3 ?_
  have N3 := Fr.snoc X3 N0 gb
  have C3 := (C0).other W3 nab
  have A3 := Arv.set Ar2 q2 Sz2 Nn2 Hs2 G2 (fits_nar_byte _) W3 0 rfl (Nat.le_of_ble_eq_true rfl)
  have K3 := (Keep.refl h0 [bb]).wr W3 (Or.inl (List.mem_singleton.mpr rfl))
  refine Goes.via (S' := T3.setTop (mkF m 12 #[.val (.ref ca), .val (.int (1 : Int32)), .val (.ref bb), .val (.int (1 : Int32)), .val (.int (2 : Int32)), .val (.int (1 : Int32)), .val (.int c0)] [(.int (1 : Int32)), (.ref ca)])) (fun tz kz => ?_) ?_
  · show Steps p.tables e below (T3.setTop (mkF m 32 #[.val (.ref ca), .val (.int (0 : Int32)), .val (.ref bb), .val (.int (0 : Int32)), .val (.int (2 : Int32)), .val (.int (0 : Int32)), .val (.int c0)] [])) _
    refine XS.iinc X3.here hx rfl (hb hby d6_32) rfl (l' := #[.val (.ref ca), .val (.int (1 : Int32)), .val (.ref bb), .val (.int (0 : Int32)), .val (.int (2 : Int32)), .val (.int (0 : Int32)), .val (.int c0)]) rfl ?_
    refine XS.iinc X3.here hx rfl (hb hby d6_35) rfl (l' := #[.val (.ref ca), .val (.int (1 : Int32)), .val (.ref bb), .val (.int (1 : Int32)), .val (.int (2 : Int32)), .val (.int (0 : Int32)), .val (.int c0)]) rfl ?_
    refine XS.iinc X3.here hx rfl (hb hby d6_38) rfl (l' := #[.val (.ref ca), .val (.int (1 : Int32)), .val (.ref bb), .val (.int (1 : Int32)), .val (.int (2 : Int32)), .val (.int (1 : Int32)), .val (.int c0)]) rfl ?_
    refine XS.goto X3.here hx rfl (pc0 := 41) (pc' := 3) rfl (hb hby d6_41) (by decide) (by decide) ?_
    show Steps p.tables e below (T3.setTop (mkF m 3 #[.val (.ref ca), .val (.int (1 : Int32)), .val (.ref bb), .val (.int (1 : Int32)), .val (.int (2 : Int32)), .val (.int (1 : Int32)), .val (.int c0)] [])) _
    refine XS.iload X3.here hx rfl (hb hby d6_3) rfl ?_
    refine XS.iload X3.here hx rfl (hb hby d6_5) rfl ?_
    refine XS.icmpNo X3.here hx rfl (hb hby d6_7) rfl (tlt (by decide)).2.1 ?_
    refine XS.aloadN X3.here hx rfl (hb hby d6_10) rfl rfl ?_
    show Steps p.tables e below (T3.setTop (mkF m 11 #[.val (.ref ca), .val (.int (1 : Int32)), .val (.ref bb), .val (.int (1 : Int32)), .val (.int (2 : Int32)), .val (.int (1 : Int32)), .val (.int c0)] [(.ref ca)])) _
    refine XS.iloadN X3.here hx rfl (hb hby d6_11) rfl ?_
    exact kz
  obtain ⟨cl4, Ar4, q4, Sz4, Nn4, Hs4, G4⟩ := (id C3)
  refine Goes.via (S' := T3.setTop (mkF m 31 #[.val (.ref ca), .val (.int (1 : Int32)), .val (.ref bb), .val (.int (1 : Int32)), .val (.int (2 : Int32)), .val (.int (1 : Int32)), .val (.int c1)] [(.int (c1.toInt8.toInt32)), (.int (1 : Int32)), (.ref bb)])) (fun tz kz => ?_) ?_
  · show Steps p.tables e below (T3.setTop (mkF m 12 #[.val (.ref ca), .val (.int (1 : Int32)), .val (.ref bb), .val (.int (1 : Int32)), .val (.int (2 : Int32)), .val (.int (1 : Int32)), .val (.int c0)] [(.int (1 : Int32)), (.ref ca)])) _
    refine X3.caload hx (j := (1 : Int32)) (v := (.int c1)) (by rw [e3]; exact Ar4.1) (State.isArrayOf_alike hZ.alike Ar4.2.1) Ar4.2.2 (inb_of Sz4 ⟨by decide, by decide⟩) (Has.at Hs4 (inb_of Sz4 ⟨by decide, by decide⟩) rfl) (g := (mkF m 12 #[.val (.ref ca), .val (.int (1 : Int32)), .val (.ref bb), .val (.int (1 : Int32)), .val (.int (2 : Int32)), .val (.int (1 : Int32)), .val (.int c0)] [(.int (1 : Int32)), (.ref ca)])) rfl rfl (hb hby d6_12) _ ?_
    refine XS.istore X3.here hx rfl (hb hby d6_13) rfl (l' := #[.val (.ref ca), .val (.int (1 : Int32)), .val (.ref bb), .val (.int (1 : Int32)), .val (.int (2 : Int32)), .val (.int (1 : Int32)), .val (.int c1)]) rfl ?_
    refine XS.iload X3.here hx rfl (hb hby d6_15) rfl ?_
    refine XS.sipush X3.here hx rfl (hb hby d6_17) ?_
    show Steps p.tables e below (T3.setTop (mkF m 20 #[.val (.ref ca), .val (.int (1 : Int32)), .val (.ref bb), .val (.int (1 : Int32)), .val (.int (2 : Int32)), .val (.int (1 : Int32)), .val (.int c1)] [(.int (255 : Int32)), (.int c1)])) _
    refine XS.icmpYes X3.here hx rfl (pc0 := 20) (pc' := 26) rfl (hb hby d6_20) rfl (flt s1).2.2.2 (by decide) (by decide) ?_
    refine XS.aloadN X3.here hx rfl (hb hby d6_26) rfl rfl ?_
    refine XS.iloadN X3.here hx rfl (hb hby d6_27) rfl ?_
    refine XS.iload X3.here hx rfl (hb hby d6_28) rfl ?_
    show Steps p.tables e below (T3.setTop (mkF m 30 #[.val (.ref ca), .val (.int (1 : Int32)), .val (.ref bb), .val (.int (1 : Int32)), .val (.int (2 : Int32)), .val (.int (1 : Int32)), .val (.int c1)] [(.int c1), (.int (1 : Int32)), (.ref bb)])) _
    refine XS.i2b X3.here hx rfl (hb hby d6_30) rfl ?_
    exact kz
  obtain ⟨cl5, Ar5, q5, Sz5, Nn5, Hs5, G5⟩ := (id A3)
  obtain ⟨T6, h6, X6, e6, W6, st6⟩ := stB X3 hx hZ e3 Ar5 (j := (1 : Int32)) (inb_of Sz5 ⟨by decide, by decide⟩) (g := (mkF m 31 #[.val (.ref ca), .val (.int (1 : Int32)), .val (.ref bb), .val (.int (1 : Int32)), .val (.int (2 : Int32)), .val (.int (1 : Int32)), .val (.int c1)] [(.int (c1.toInt8.toInt32)), (.int (1 : Int32)), (.ref bb)])) rfl rfl (hb hby d6_31)
  refine Goes.via (S' := T6.setTop (mkF m 32 #[.val (.ref ca), .val (.int (1 : Int32)), .val (.ref bb), .val (.int (1 : Int32)), .val (.int (2 : Int32)), .val (.int (1 : Int32)), .val (.int c1)] [])) st6 ?_
  have N6 := Fr.snoc X6 N3 gb
  have C6 := (C3).other W6 nab
  have A6 := Arv.set Ar5 q5 Sz5 Nn5 Hs5 G5 (fits_nar_byte _) W6 1 rfl (Nat.le_of_ble_eq_true rfl)
  have K6 := (K3).wr W6 (Or.inl (List.mem_singleton.mpr rfl))
  refine Goes.via (S' := T6.setTop (mkF m 46 #[.val (.ref ca), .val (.int (2 : Int32)), .val (.ref bb), .val (.int (2 : Int32)), .val (.int (2 : Int32)), .val (.int (2 : Int32)), .val (.int c1)] [(.int (2 : Int32))])) (fun tz kz => ?_) ?_
  · show Steps p.tables e below (T6.setTop (mkF m 32 #[.val (.ref ca), .val (.int (1 : Int32)), .val (.ref bb), .val (.int (1 : Int32)), .val (.int (2 : Int32)), .val (.int (1 : Int32)), .val (.int c1)] [])) _
    refine XS.iinc X6.here hx rfl (hb hby d6_32) rfl (l' := #[.val (.ref ca), .val (.int (2 : Int32)), .val (.ref bb), .val (.int (1 : Int32)), .val (.int (2 : Int32)), .val (.int (1 : Int32)), .val (.int c1)]) rfl ?_
    refine XS.iinc X6.here hx rfl (hb hby d6_35) rfl (l' := #[.val (.ref ca), .val (.int (2 : Int32)), .val (.ref bb), .val (.int (2 : Int32)), .val (.int (2 : Int32)), .val (.int (1 : Int32)), .val (.int c1)]) rfl ?_
    refine XS.iinc X6.here hx rfl (hb hby d6_38) rfl (l' := #[.val (.ref ca), .val (.int (2 : Int32)), .val (.ref bb), .val (.int (2 : Int32)), .val (.int (2 : Int32)), .val (.int (2 : Int32)), .val (.int c1)]) rfl ?_
    refine XS.goto X6.here hx rfl (pc0 := 41) (pc' := 3) rfl (hb hby d6_41) (by decide) (by decide) ?_
    show Steps p.tables e below (T6.setTop (mkF m 3 #[.val (.ref ca), .val (.int (2 : Int32)), .val (.ref bb), .val (.int (2 : Int32)), .val (.int (2 : Int32)), .val (.int (2 : Int32)), .val (.int c1)] [])) _
    refine XS.iload X6.here hx rfl (hb hby d6_3) rfl ?_
    refine XS.iload X6.here hx rfl (hb hby d6_5) rfl ?_
    refine XS.icmpYes X6.here hx rfl (pc0 := 7) (pc' := 44) rfl (hb hby d6_7) rfl (flt (by decide)).2.1 (by decide) (by decide) ?_
    refine XS.iload X6.here hx rfl (hb hby d6_44) rfl ?_
    exact kz
  exact Goes.retI X6 hx Bd.notSynchronized Bd.returns (hb hby d6_46) (Nat.le_of_ble_eq_true rfl) (Nat.le_of_ble_eq_true rfl) (by rw [e6]; exact ⟨rfl, N6, K6, A6⟩)
def Q_rc3_2 (Z : State) (ca : Addr) (ka : ClassId) (c0 c1 : Int32) (h0 : Heap) (n0 : Nat) : Option Value → Heap → List Loc → Prop := fun v h L => ∃ b k, v = some (.ref b) ∧ Fr n0 L ∧ Keep h0 h [] ∧ Arv Z h b k .byte (2 : Int32) [.int (own_by c0), .int (own_by c1)] (.int 0) ∧ @LE.le Nat _ h0.size b
set_option maxRecDepth 65536 in
set_option maxHeartbeats 40000000 in
theorem rc3_2 (l : Launch) (Z : State) (a0 : Array Value) (hw : ∀ d ∈ tables_1, d.before a0 Z = true) (ws : List Jvm.Cond) (ca : Addr) (ka : ClassId) (c0 c1 : Int32) (h0 : Heap) (n0 : Nat) (Z0 : n0 ≤ h0.size) (C0 : Arv Z h0 ca ka .char (2 : Int32) [.int c0, .int c1] (.int 0)) (s0 : ¬ (255 : Int32) < c0) (s1 : ¬ (255 : Int32) < c1) :
    own_M l Z (⟨"java/lang/StringUTF16", "compress", "([CII)[B"⟩ : MethodName) (Jvm.Cond.code (⟨"java/lang/StringUTF16", "compress", "([CII)[B"⟩ : MethodName) jdk_52_method_16_code 6 (some (.array .byte))) ws ({ frames := 1, cells := 1, slots := 2, locals := 20 } : Room) #[(.ref ca), (.int (0 : Int32)), (.int (2 : Int32))] h0 (Q_rc3_2 Z ca ka c0 c1 h0 n0) := by
  refine MetFree.of_bodySF (plainFor_of_name pn_5) hisR ?_
  intro p e s m args below meth c s₁ Bd hml0 hP hK
  obtain ⟨rfl, hZ, hh⟩ := hP
  have hx := Bd.exec
  have hby := Bd.bytes
  have hml : c.maxLocals = 6 := hml0
  have hown : s.vm.findClass "java/lang/StringUTF16" = some m.cls := findClass_of_methodNamed Bd.named
  have hnm := (name_of_methodNamed Bd.named Bd.method).1
  have X0 : Stand p l e ({ frames := 1, cells := 1, slots := 2, locals := 20 } : Room) s m #[(.ref ca), (.int (0 : Int32)), (.int (2 : Int32))] below meth c s₁ [] 0 0 := Stand.of_body Bd
  have e0 : s₁.heap = h0 := by rw [← hh, Bd.state]; rfl
  have N0 := Fr.nil n0
  show Goes p e below (Fin s (Q_rc3_2 Z ca ka c0 c1 h0 n0) ({ frames := 1, cells := 1, slots := 2, locals := 20 } : Room).cells ({ frames := 1, cells := 1, slots := 2, locals := 20 } : Room).slots) _
  refine Goes.via (S' := s₁.setTop (mkF m 0 #[.val (.ref ca), .val (.int (0 : Int32)), .val (.int (2 : Int32)), .unset, .unset, .unset] [])) (fun tz kz => castTop (ef_5 m ca (0 : Int32) (2 : Int32) ) kz) ?_
  refine Goes.via (S' := s₁.setTop (mkF m 1 #[.val (.ref ca), .val (.int (0 : Int32)), .val (.int (2 : Int32)), .unset, .unset, .unset] [(.int (2 : Int32))])) (fun tz kz => ?_) ?_
  · show Steps p.tables e below (s₁.setTop (mkF m 0 #[.val (.ref ca), .val (.int (0 : Int32)), .val (.int (2 : Int32)), .unset, .unset, .unset] [])) _
    refine XS.iloadN X0.here hx rfl (hb hby d5_0) rfl ?_
    exact kz
  obtain ⟨T1, h1, k1, X1, e1, E1, A1, st1⟩ := newP X0 hx hZ (w_ hw 24 rfl) e0 (g := (mkF m 1 #[.val (.ref ca), .val (.int (0 : Int32)), .val (.int (2 : Int32)), .unset, .unset, .unset] [(.int (2 : Int32))])) rfl (hb hby d5_1) rfl (by decide) (cap := 2) (by decide) (by decide) (by decide) (by decide)
  obtain ⟨b1, g1⟩ : ∃ z, z = h0.size := ⟨_, rfl⟩
  rw [← g1] at A1 st1
  refine Goes.via (S' := T1.setTop (mkF m 3 #[.val (.ref ca), .val (.int (0 : Int32)), .val (.int (2 : Int32)), .unset, .unset, .unset] [(.ref b1)])) st1 ?_
  have B1 : Arv Z h1 b1 k1 .byte (2 : Int32) [.int 0, .int 0] (.int 0) := (Arv.new A1 (by decide)).pad (pad_rep [] (.int 0) 2)
  have nab : ca ≠ b1 := adr_ne C0.lt g1 (Nat.le_refl _)
  have gb : n0 ≤ b1 := Nat.le_trans Z0 (Nat.le_of_eq g1.symm)
  refine Goes.via (S' := T1.setTop (mkF m 9 #[.val (.ref ca), .val (.int (0 : Int32)), .val (.int (2 : Int32)), .val (.ref b1), .unset, .unset] [(.int (2 : Int32)), (.int (0 : Int32)), (.ref b1), (.int (0 : Int32)), (.ref ca)])) (fun tz kz => ?_) ?_
  · show Steps p.tables e below (T1.setTop (mkF m 3 #[.val (.ref ca), .val (.int (0 : Int32)), .val (.int (2 : Int32)), .unset, .unset, .unset] [(.ref b1)])) _
    refine XS.astoreN X1.here hx rfl (hb hby d5_3) rfl rfl (l' := #[.val (.ref ca), .val (.int (0 : Int32)), .val (.int (2 : Int32)), .val (.ref b1), .unset, .unset]) rfl ?_
    refine XS.aloadN X1.here hx rfl (hb hby d5_4) rfl rfl ?_
    refine XS.iloadN X1.here hx rfl (hb hby d5_5) rfl ?_
    refine XS.aloadN X1.here hx rfl (hb hby d5_6) rfl rfl ?_
    show Steps p.tables e below (T1.setTop (mkF m 7 #[.val (.ref ca), .val (.int (0 : Int32)), .val (.int (2 : Int32)), .val (.ref b1), .unset, .unset] [(.ref b1), (.int (0 : Int32)), (.ref ca)])) _
    refine XS.iconst X1.here hx rfl (hb hby d5_7) ?_
    refine XS.iloadN X1.here hx rfl (hb hby d5_8) rfl ?_
    exact kz
  obtain ⟨_, _, ⟨T2, L2, k2, n2⟩, -, X2, ⟨Lc2, hQ2, l2, y2, z2⟩, st2⟩ := Jvm.LawKit.callS X1 hx (y := (⟨"java/lang/StringUTF16", "compress", "([CI[BII)I"⟩ : MethodName)) hown (mvT hZ (w_ hw 25 rfl)) (mvT hZ (w_ hw 26 rfl)) (mvT hZ (w_ hw 22 rfl)) (mvT hZ (w_ hw 27 rfl)) (by decide) (backOf (W := 0) (rc5_2 l Z a0 hw [] ca b1 ka k1 c0 c1 h1 n0 (Nat.le_trans Z0 E1.1) (C0.ext E1) B1 gb nab s0 s1) hZ (w_ hw 27 rfl) (w_ hw 22 rfl) (by decide) (by decide)) (g := (mkF m 9 #[.val (.ref ca), .val (.int (0 : Int32)), .val (.int (2 : Int32)), .val (.ref b1), .unset, .unset] [(.int (2 : Int32)), (.int (0 : Int32)), (.ref b1), (.int (0 : Int32)), (.ref ca)])) rfl (by rw [hml]; rfl) (argsL := [(.ref ca), (.int (0 : Int32)), (.ref b1), (.int (0 : Int32)), (.int (2 : Int32))]) (rest := []) (lenOf pd_1 rfl) rfl (by show 2 * 0 + _ ≤ _; exact Nat.le_of_eq rfl) (hb hby d5_9) (fun _ _ => ⟨rfl, e1, (by decide : 1 + 0 ≤ _), (by decide : 2 + 0 ≤ _)⟩)
  dsimp only [Pt.U, Pt.locs, Pt.cells, Pt.slots] at X2 l2 y2 z2 st2 hQ2
  subst l2 y2 z2
  obtain ⟨rfl, N2, K2, B2⟩ := hQ2
  have Nf2 := Fr.app N0 N2
  refine Goes.via (S' := T2.setTop (mkF m 12 #[.val (.ref ca), .val (.int (0 : Int32)), .val (.int (2 : Int32)), .val (.ref b1), .unset, .unset] [(.int (2 : Int32))])) (st2) ?_
  refine Goes.via (S' := T2.setTop (mkF m 58 #[.val (.ref ca), .val (.int (0 : Int32)), .val (.int (2 : Int32)), .val (.ref b1), .val (.int (2 : Int32)), .unset] [(.ref b1)])) (fun tz kz => ?_) ?_
  · show Steps p.tables e below (T2.setTop (mkF m 12 #[.val (.ref ca), .val (.int (0 : Int32)), .val (.int (2 : Int32)), .val (.ref b1), .unset, .unset] [(.int (2 : Int32))])) _
    refine XS.istore X2.here hx rfl (hb hby d5_12) rfl (l' := #[.val (.ref ca), .val (.int (0 : Int32)), .val (.int (2 : Int32)), .val (.ref b1), .val (.int (2 : Int32)), .unset]) rfl ?_
    refine XS.iload X2.here hx rfl (hb hby d5_14) rfl ?_
    refine XS.iloadN X2.here hx rfl (hb hby d5_16) rfl ?_
    refine XS.icmpYes X2.here hx rfl (pc0 := 17) (pc' := 57) rfl (hb hby d5_17) rfl (teq (by decide)).1 (by decide) (by decide) ?_
    show Steps p.tables e below (T2.setTop (mkF m 57 #[.val (.ref ca), .val (.int (0 : Int32)), .val (.int (2 : Int32)), .val (.ref b1), .val (.int (2 : Int32)), .unset] [])) _
    refine XS.aloadN X2.here hx rfl (hb hby d5_57) rfl rfl ?_
    exact kz
  exact Goes.retO X2 hx Bd.notSynchronized Bd.returns rfl (Or.inr (Or.inr (Or.inr (Or.inr ⟨rfl, rfl, rfl⟩)))) (hb hby d5_58) (Nat.le_of_ble_eq_true rfl) (Nat.le_of_ble_eq_true rfl) ⟨b1, k1, rfl, Nf2, (Keep.refl h0 []).ext E1 |>.trans K2 (allS (Or.inr (Nat.le_of_eq g1.symm)) all0), B2, Nat.le_of_eq g1.symm⟩
def Q_rcc_2 (Z : State) (bb : Addr) (k : ClassId) (vs : List Value) (h0 : Heap) (n0 : Nat) : Option Value → Heap → List Loc → Prop := fun v h L => v = some (.int 0) ∧ Fr n0 L ∧ h = h0
set_option maxRecDepth 65536 in
set_option maxHeartbeats 40000000 in
theorem rcc_2 (l : Launch) (Z : State) (a0 : Array Value) (hw : ∀ d ∈ tables_1, d.before a0 Z = true) (ws : List Jvm.Cond) (bb : Addr) (k : ClassId) (vs : List Value) (h0 : Heap) (n0 : Nat) (Z0 : n0 ≤ h0.size) (B0 : Arv Z h0 bb k .byte (2 : Int32) vs (.int 0)) :
    own_M l Z (⟨"java/lang/StringUTF16", "coderFromArrayLen", "([BI)B"⟩ : MethodName) (Jvm.Cond.code (⟨"java/lang/StringUTF16", "coderFromArrayLen", "([BI)B"⟩ : MethodName) jdk_52_method_15_code 2 (some .byte)) ws ({ frames := 0, cells := 0, slots := 0, locals := 0 } : Room) #[(.ref bb), (.int (2 : Int32))] h0 (Q_rcc_2 Z bb k vs h0 n0) := by
  refine MetFree.of_bodySF (plainFor_of_name pn_7) hisR ?_
  intro p e s m args below meth c s₁ Bd hml0 hP hK
  obtain ⟨rfl, hZ, hh⟩ := hP
  have hx := Bd.exec
  have hby := Bd.bytes
  have hml : c.maxLocals = 2 := hml0
  have hown : s.vm.findClass "java/lang/StringUTF16" = some m.cls := findClass_of_methodNamed Bd.named
  have hnm := (name_of_methodNamed Bd.named Bd.method).1
  have X0 : Stand p l e ({ frames := 0, cells := 0, slots := 0, locals := 0 } : Room) s m #[(.ref bb), (.int (2 : Int32))] below meth c s₁ [] 0 0 := Stand.of_body Bd
  have e0 : s₁.heap = h0 := by rw [← hh, Bd.state]; rfl
  have N0 := Fr.nil n0
  show Goes p e below (Fin s (Q_rcc_2 Z bb k vs h0 n0) ({ frames := 0, cells := 0, slots := 0, locals := 0 } : Room).cells ({ frames := 0, cells := 0, slots := 0, locals := 0 } : Room).slots) _
  refine Goes.via (S' := s₁.setTop (mkF m 0 #[.val (.ref bb), .val (.int (2 : Int32))] [])) (fun tz kz => castTop (ef_7 m bb (2 : Int32) ) kz) ?_
  refine Goes.via (S' := s₁.setTop (mkF m 2 #[.val (.ref bb), .val (.int (2 : Int32))] [(.ref bb), (.int (2 : Int32))])) (fun tz kz => ?_) ?_
  · show Steps p.tables e below (s₁.setTop (mkF m 0 #[.val (.ref bb), .val (.int (2 : Int32))] [])) _
    refine XS.iloadN X0.here hx rfl (hb hby d7_0) rfl ?_
    refine XS.aloadN X0.here hx rfl (hb hby d7_1) rfl rfl ?_
    exact kz
  obtain ⟨cl1, Ar1, q1, Sz1, Nn1, Hs1, G1⟩ := (id B0)
  refine Goes.via (S' := s₁.setTop (mkF m 8 #[.val (.ref bb), .val (.int (2 : Int32))] [(.int ((((0 : Int32).toUInt32 >>> ((31 : Int32) &&& 31).toUInt32).toInt32).toInt8.toInt32))])) (fun tz kz => ?_) ?_
  · show Steps p.tables e below (s₁.setTop (mkF m 2 #[.val (.ref bb), .val (.int (2 : Int32))] [(.ref bb), (.int (2 : Int32))])) _
    refine X0.arraylength hx (by rw [e0]; exact Ar1.1) (State.isArrayOf_alike hZ.alike Ar1.2.1) (g := (mkF m 2 #[.val (.ref bb), .val (.int (2 : Int32))] [(.ref bb), (.int (2 : Int32))])) rfl rfl (hb hby d7_2) _ ?_
    rw [len_of Sz1 Nn1]
    refine XS.isub X0.here hx rfl (hb hby d7_3) rfl ?_
    refine XS.bipush X0.here hx rfl (hb hby d7_4) ?_
    refine XS.iushr X0.here hx rfl (hb hby d7_6) rfl ?_
    show Steps p.tables e below (s₁.setTop (mkF m 7 #[.val (.ref bb), .val (.int (2 : Int32))] [(.int (((0 : Int32).toUInt32 >>> ((31 : Int32) &&& 31).toUInt32).toInt32))])) _
    refine XS.i2b X0.here hx rfl (hb hby d7_7) rfl ?_
    exact kz
  exact Goes.retN X0 hx Bd.notSynchronized (t := .byte) Bd.returns (by simp) (hb hby d7_8) (Nat.le_of_ble_eq_true rfl) (Nat.le_of_ble_eq_true rfl) ⟨congrArg (fun z => some (Value.int z)) (by decide), N0, e0⟩
def Q_rn4_2 (Z : State) (a1 : Addr) (ca : Addr) (cs : Int32) (ka : ClassId) (c0 c1 : Int32) (h0 : Heap) (n0 : Nat) : Option Value → Heap → List Loc → Prop := fun v h L => v = none ∧ Fr n0 L ∧ Keep h0 h [a1] ∧ ∃ b k, own_Str Z h a1 b k (2 : Int32) [.int (own_by c0), .int (own_by c1)] ∧ @LE.le Nat _ h0.size b
set_option maxRecDepth 65536 in
set_option maxHeartbeats 40000000 in
theorem rn4_2 (l : Launch) (Z : State) (a0 : Array Value) (hw : ∀ d ∈ tables_1, d.before a0 Z = true) (ws : List Jvm.Cond) (a1 : Addr) (ca : Addr) (cs : Int32) (ka : ClassId) (c0 c1 : Int32) (h0 : Heap) (n0 : Nat) (Z0 : n0 ≤ h0.size) (SC : Sta Z Z.heap "java/lang/String" "COMPACT_STRINGS" "Z" (.int cs)) (hcs : ¬ cs = (0 : Int32)) (O0 : Old Z n0 h0) (FV : Fld Z h0 a1 "java/lang/String" "value" "[B" .null) (FC : Fld Z h0 a1 "java/lang/String" "coder" "B" (.int (0 : Int32))) (E1 : Exa Z h0 a1 "java/lang/String") (g1 : n0 ≤ a1) (C0 : Arv Z h0 ca ka .char (2 : Int32) [.int c0, .int c1] (.int 0)) (s0 : ¬ (255 : Int32) < c0) (s1 : ¬ (255 : Int32) < c1) :
    own_M l Z (⟨"java/lang/String", "<init>", "([CIILjava/lang/Void;)V"⟩ : MethodName) (Jvm.Cond.code (⟨"java/lang/String", "<init>", "([CIILjava/lang/Void;)V"⟩ : MethodName) jdk_42_method_149_code 6 none) ws ({ frames := 2, cells := 1, slots := 2, locals := 40 } : Room) #[(.ref a1), (.ref ca), (.int (0 : Int32)), (.int (2 : Int32)), .null] h0 (Q_rn4_2 Z a1 ca cs ka c0 c1 h0 n0) := by
  refine MetFree.of_bodySF (plainFor_of_name pn_3) hisR ?_
  intro p e s m args below meth c s₁ Bd hml0 hP hK
  obtain ⟨rfl, hZ, hh⟩ := hP
  have hx := Bd.exec
  have hby := Bd.bytes
  have hml : c.maxLocals = 6 := hml0
  have hown : s.vm.findClass "java/lang/String" = some m.cls := findClass_of_methodNamed Bd.named
  have hnm := (name_of_methodNamed Bd.named Bd.method).1
  have X0 : Stand p l e ({ frames := 2, cells := 1, slots := 2, locals := 40 } : Room) s m #[(.ref a1), (.ref ca), (.int (0 : Int32)), (.int (2 : Int32)), .null] below meth c s₁ [] 0 0 := Stand.of_body Bd
  have e0 : s₁.heap = h0 := by rw [← hh, Bd.state]; rfl
  have N0 := Fr.nil n0
  show Goes p e below (Fin s (Q_rn4_2 Z a1 ca cs ka c0 c1 h0 n0) ({ frames := 2, cells := 1, slots := 2, locals := 40 } : Room).cells ({ frames := 2, cells := 1, slots := 2, locals := 40 } : Room).slots) _
  refine Goes.via (S' := s₁.setTop (mkF m 0 #[.val (.ref a1), .val (.ref ca), .val (.int (0 : Int32)), .val (.int (2 : Int32)), .val .null, .unset] [])) (fun tz kz => castTop (ef_3 m a1 ca (0 : Int32) (2 : Int32) ) kz) ?_
  refine Goes.via (S' := s₁.setTop (mkF m 1 #[.val (.ref a1), .val (.ref ca), .val (.int (0 : Int32)), .val (.int (2 : Int32)), .val .null, .unset] [(.ref a1)])) (fun tz kz => ?_) ?_
  · show Steps p.tables e below (s₁.setTop (mkF m 0 #[.val (.ref a1), .val (.ref ca), .val (.int (0 : Int32)), .val (.int (2 : Int32)), .val .null, .unset] [])) _
    refine XS.aloadN X0.here hx rfl (hb hby d3_0) rfl rfl ?_
    exact kz
  obtain ⟨T1, X1, e1, st1⟩ := initO X0 hx hZ hown (w_ hw 16 rfl) (w_ hw 17 rfl) (w_ hw 18 rfl) e0 (g := (mkF m 1 #[.val (.ref a1), .val (.ref ca), .val (.int (0 : Int32)), .val (.int (2 : Int32)), .val .null, .unset] [(.ref a1)])) rfl (by rw [hml]; rfl) rfl (hb hby d3_1) (by decide) (W := 0) (by show 2 * 0 + _ ≤ _; exact Nat.le_of_eq rfl) (by decide)
  refine Goes.via (S' := T1.setTop (mkF m 4 #[.val (.ref a1), .val (.ref ca), .val (.int (0 : Int32)), .val (.int (2 : Int32)), .val .null, .unset] [])) st1 ?_
  refine Goes.via (S' := T1.setTop (mkF m 27 #[.val (.ref a1), .val (.ref ca), .val (.int (0 : Int32)), .val (.int (2 : Int32)), .val .null, .unset] [])) (fun tz kz => ?_) ?_
  · show Steps p.tables e below (T1.setTop (mkF m 4 #[.val (.ref a1), .val (.ref ca), .val (.int (0 : Int32)), .val (.int (2 : Int32)), .val .null, .unset] [])) _
    refine XS.iloadN X1.here hx rfl (hb hby d3_4) rfl ?_
    refine XS.ifYes X1.here hx rfl (pc0 := 5) (pc' := 27) rfl (hb hby d3_5) rfl ((if0 _ _).trans (feq (by decide)).2) (by decide) (by decide) ?_
    exact kz
  obtain ⟨T2, X2, e2, st2⟩ := getS2 X1 hx hZ hown (host := "") (Or.inl (w_ hw 19 rfl)) Via.refl e1 (SC.ext O0.2) (g := (mkF m 27 #[.val (.ref a1), .val (.ref ca), .val (.int (0 : Int32)), .val (.int (2 : Int32)), .val .null, .unset] [])) rfl (hb hby d3_27)
  refine Goes.via (S' := T2.setTop (mkF m 30 #[.val (.ref a1), .val (.ref ca), .val (.int (0 : Int32)), .val (.int (2 : Int32)), .val .null, .unset] [(.int cs)])) st2 ?_
  refine Goes.via (S' := T2.setTop (mkF m 36 #[.val (.ref a1), .val (.ref ca), .val (.int (0 : Int32)), .val (.int (2 : Int32)), .val .null, .unset] [(.int (2 : Int32)), (.int (0 : Int32)), (.ref ca)])) (fun tz kz => ?_) ?_
  · show Steps p.tables e below (T2.setTop (mkF m 30 #[.val (.ref a1), .val (.ref ca), .val (.int (0 : Int32)), .val (.int (2 : Int32)), .val .null, .unset] [(.int cs)])) _
    refine XS.ifNo X2.here hx rfl (hb hby d3_30) rfl ((if0 _ _).trans (feq hcs).1) ?_
    refine XS.aloadN X2.here hx rfl (hb hby d3_33) rfl rfl ?_
    refine XS.iloadN X2.here hx rfl (hb hby d3_34) rfl ?_
    refine XS.iloadN X2.here hx rfl (hb hby d3_35) rfl ?_
    exact kz
  obtain ⟨_, _, ⟨T3, L3, k3, n3⟩, -, X3, ⟨Lc3, hQ3, l3, y3, z3⟩, st3⟩ := Jvm.LawKit.callS X2 hx (y := (⟨"java/lang/StringUTF16", "compress", "([CII)[B"⟩ : MethodName)) hown (mvT hZ (w_ hw 20 rfl)) (mvT hZ (w_ hw 21 rfl)) (mvT hZ (w_ hw 22 rfl)) (mvT hZ (w_ hw 23 rfl)) (by decide) (backOf (W := 0) (rc3_2 l Z a0 hw [] ca ka c0 c1 h0 n0 Z0 C0 s0 s1) hZ (w_ hw 23 rfl) (w_ hw 22 rfl) (by decide) (by decide)) (g := (mkF m 36 #[.val (.ref a1), .val (.ref ca), .val (.int (0 : Int32)), .val (.int (2 : Int32)), .val .null, .unset] [(.int (2 : Int32)), (.int (0 : Int32)), (.ref ca)])) rfl (by rw [hml]; rfl) (argsL := [(.ref ca), (.int (0 : Int32)), (.int (2 : Int32))]) (rest := []) (lenOf pd_2 rfl) rfl (by show 2 * 0 + _ ≤ _; exact Nat.le_of_eq rfl) (hb hby d3_36) (fun _ _ => ⟨rfl, e2, (by decide : 0 + 1 ≤ _), (by decide : 0 + 2 ≤ _)⟩)
  dsimp only [Pt.U, Pt.locs, Pt.cells, Pt.slots] at X3 l3 y3 z3 st3 hQ3
  subst l3 y3 z3
  obtain ⟨vb, kb, rfl, N3, K3, B3, gv⟩ := hQ3
  have Nf3 := Fr.app N0 N3
  refine Goes.via (S' := T3.setTop (mkF m 39 #[.val (.ref a1), .val (.ref ca), .val (.int (0 : Int32)), .val (.int (2 : Int32)), .val .null, .unset] [(.ref vb)])) (st3) ?_
  refine Goes.via (S' := T3.setTop (mkF m 45 #[.val (.ref a1), .val (.ref ca), .val (.int (0 : Int32)), .val (.int (2 : Int32)), .val .null, .val (.ref vb)] [(.int (2 : Int32)), (.ref vb), (.ref a1)])) (fun tz kz => ?_) ?_
  · show Steps p.tables e below (T3.setTop (mkF m 39 #[.val (.ref a1), .val (.ref ca), .val (.int (0 : Int32)), .val (.int (2 : Int32)), .val .null, .unset] [(.ref vb)])) _
    refine XS.astore X3.here hx rfl (hb hby d3_39) rfl rfl (l' := #[.val (.ref a1), .val (.ref ca), .val (.int (0 : Int32)), .val (.int (2 : Int32)), .val .null, .val (.ref vb)]) rfl ?_
    refine XS.aloadN X3.here hx rfl (hb hby d3_41) rfl rfl ?_
    refine XS.aload X3.here hx rfl (hb hby d3_42) rfl rfl ?_
    refine XS.iloadN X3.here hx rfl (hb hby d3_44) rfl ?_
    exact kz
  obtain ⟨_, _, ⟨T4, L4, k4, n4⟩, -, X4, ⟨Lc4, hQ4, l4, y4, z4⟩, st4⟩ := Jvm.LawKit.callS X3 hx (y := (⟨"java/lang/StringUTF16", "coderFromArrayLen", "([BI)B"⟩ : MethodName)) hown (mvT hZ (w_ hw 28 rfl)) (mvT hZ (w_ hw 29 rfl)) (mvT hZ (w_ hw 22 rfl)) (mvT hZ (w_ hw 30 rfl)) (by decide) (backOf (W := 1) (rcc_2 l Z a0 hw [] vb kb _ T3.heap n0 (Nat.le_trans Z0 K3.1) B3) hZ (w_ hw 30 rfl) (w_ hw 22 rfl) (by decide) (by decide)) (g := (mkF m 45 #[.val (.ref a1), .val (.ref ca), .val (.int (0 : Int32)), .val (.int (2 : Int32)), .val .null, .val (.ref vb)] [(.int (2 : Int32)), (.ref vb), (.ref a1)])) rfl (by rw [hml]; rfl) (argsL := [(.ref vb), (.int (2 : Int32))]) (rest := [(.ref a1)]) (lenOf pd_3 rfl) rfl (by show 2 * 0 + _ ≤ _; exact Nat.le_of_eq rfl) (hb hby d3_45) (fun _ _ => ⟨rfl, rfl, (by decide : 1 + 0 ≤ _), (by decide : 2 + 0 ≤ _)⟩)
  dsimp only [Pt.U, Pt.locs, Pt.cells, Pt.slots] at X4 l4 y4 z4 st4 hQ4
  subst l4 y4 z4
  obtain ⟨rfl, N4, e4⟩ := hQ4
  have Nf4 := Fr.app Nf3 N4
  refine Goes.via (S' := T4.setTop (mkF m 48 #[.val (.ref a1), .val (.ref ca), .val (.int (0 : Int32)), .val (.int (2 : Int32)), .val .null, .val (.ref vb)] [(.int (0 : Int32)), (.ref a1)])) (st4) ?_
  have Ea := E1.keep K3
  have GV := FV.keep K3 nin0
  have GC := FC.keep K3 nin0
  have nb : a1 ≠ vb := Nat.ne_of_lt (Nat.lt_of_lt_of_le E1.lt gv)
  obtain ⟨T5, h5, X5, e5, W5, st5⟩ := putFN X4 hx hZ hown (w_ hw 31 rfl) Via.refl e4 GC Ea (Or.inr ⟨(w_ hw 32 rfl), rfl, hnm⟩) (w_ hw 6 rfl) (ty := .byte) (v' := (.int (nar .byte (0 : Int32)))) (by decide) rfl (fits_nar_byte _) (g := (mkF m 48 #[.val (.ref a1), .val (.ref ca), .val (.int (0 : Int32)), .val (.int (2 : Int32)), .val .null, .val (.ref vb)] [(.int (0 : Int32)), (.ref a1)])) rfl rfl (hb hby d3_48)
  refine Goes.via (S' := T5.setTop (mkF m 51 #[.val (.ref a1), .val (.ref ca), .val (.int (0 : Int32)), .val (.int (2 : Int32)), .val .null, .val (.ref vb)] [])) st5 ?_
  have N5 := Fr.snoc X5 Nf4 g1
  have HC : Fld Z h5 a1 "java/lang/String" "coder" "B" (.int (0 : Int32)) := GC.same W5
  have HV := GV.other W5 (Or.inr (slot_ne (Or.inr (w_ hw 34 rfl)) (Or.inr (w_ hw 32 rfl)) (by decide) (t := (.array .byte)) (t' := .byte) (by decide) (by decide)))
  have Eb := Ea.wr W5
  have Bb := B3.other W5 (Ne.symm nb)
  refine Goes.via (S' := T5.setTop (mkF m 54 #[.val (.ref a1), .val (.ref ca), .val (.int (0 : Int32)), .val (.int (2 : Int32)), .val .null, .val (.ref vb)] [(.ref vb), (.ref a1)])) (fun tz kz => ?_) ?_
  · show Steps p.tables e below (T5.setTop (mkF m 51 #[.val (.ref a1), .val (.ref ca), .val (.int (0 : Int32)), .val (.int (2 : Int32)), .val .null, .val (.ref vb)] [])) _
    refine XS.aloadN X5.here hx rfl (hb hby d3_51) rfl rfl ?_
    refine XS.aload X5.here hx rfl (hb hby d3_52) rfl rfl ?_
    exact kz
  obtain ⟨T6, h6, X6, e6, W6, st6⟩ := putF X5 hx hZ hown (host := "") (Or.inl (w_ hw 33 rfl)) Via.refl e5 HV Eb (Or.inr ⟨(w_ hw 34 rfl), rfl, hnm⟩) (w_ hw 6 rfl) (ty := (.array .byte)) (by decide) rfl rfl (g := (mkF m 54 #[.val (.ref a1), .val (.ref ca), .val (.int (0 : Int32)), .val (.int (2 : Int32)), .val .null, .val (.ref vb)] [(.ref vb), (.ref a1)])) rfl rfl (hb hby d3_54)
  refine Goes.via (S' := T6.setTop (mkF m 57 #[.val (.ref a1), .val (.ref ca), .val (.int (0 : Int32)), .val (.int (2 : Int32)), .val .null, .val (.ref vb)] [])) st6 ?_
  have N6 := Fr.snoc X6 N5 g1
  have JV := HV.same W6
  have JC := HC.other W6 (Or.inr (slot_ne (Or.inr (w_ hw 32 rfl)) (Or.inr (w_ hw 34 rfl)) (by decide) (t := .byte) (t' := (.array .byte)) (by decide) (by decide)))
  have Ec := Eb.wr W6
  have Bc := Bb.other W6 (Ne.symm nb)
  have Kq : Keep h0 h6 [a1] := (((Keep.refl h0 [a1]).trans K3 all0).wr W5 (Or.inl (List.mem_singleton.mpr rfl))).wr W6 (Or.inl (List.mem_singleton.mpr rfl))
  exact Goes.retV X6 hx Bd.notSynchronized Bd.returns (hb hby d3_57) (Nat.le_of_ble_eq_true rfl) (Nat.le_of_ble_eq_true rfl) (by rw [e6]; exact ⟨rfl, N6, Kq, vb, kb, ⟨Ec, JC, JV, Bc⟩, gv⟩)
def Q_rn1_2 (Z : State) (a1 : Addr) (ca : Addr) (cs : Int32) (ka : ClassId) (c0 c1 : Int32) (h0 : Heap) (n0 : Nat) : Option Value → Heap → List Loc → Prop := fun v h L => v = none ∧ Fr n0 L ∧ Keep h0 h [a1] ∧ ∃ b k, own_Str Z h a1 b k (2 : Int32) [.int (own_by c0), .int (own_by c1)] ∧ @LE.le Nat _ h0.size b
set_option maxRecDepth 65536 in
set_option maxHeartbeats 40000000 in
theorem rn1_2 (l : Launch) (Z : State) (a0 : Array Value) (hw : ∀ d ∈ tables_1, d.before a0 Z = true) (ws : List Jvm.Cond) (a1 : Addr) (ca : Addr) (cs : Int32) (ka : ClassId) (c0 c1 : Int32) (h0 : Heap) (n0 : Nat) (Z0 : n0 ≤ h0.size) (SC : Sta Z Z.heap "java/lang/String" "COMPACT_STRINGS" "Z" (.int cs)) (hcs : ¬ cs = (0 : Int32)) (O0 : Old Z n0 h0) (FV : Fld Z h0 a1 "java/lang/String" "value" "[B" .null) (FC : Fld Z h0 a1 "java/lang/String" "coder" "B" (.int (0 : Int32))) (E1 : Exa Z h0 a1 "java/lang/String") (g1 : n0 ≤ a1) (C0 : Arv Z h0 ca ka .char (2 : Int32) [.int c0, .int c1] (.int 0)) (s0 : ¬ (255 : Int32) < c0) (s1 : ¬ (255 : Int32) < c1) :
    own_M l Z (⟨"java/lang/String", "<init>", "([C)V"⟩ : MethodName) (Jvm.Cond.code (⟨"java/lang/String", "<init>", "([C)V"⟩ : MethodName) jdk_42_method_3_code 2 none) ws ({ frames := 3, cells := 1, slots := 2, locals := 60 } : Room) #[(.ref a1), (.ref ca)] h0 (Q_rn1_2 Z a1 ca cs ka c0 c1 h0 n0) := by
  refine MetFree.of_bodySF (plainFor_of_name pn_2) hisR ?_
  intro p e s m args below meth c s₁ Bd hml0 hP hK
  obtain ⟨rfl, hZ, hh⟩ := hP
  have hx := Bd.exec
  have hby := Bd.bytes
  have hml : c.maxLocals = 2 := hml0
  have hown : s.vm.findClass "java/lang/String" = some m.cls := findClass_of_methodNamed Bd.named
  have hnm := (name_of_methodNamed Bd.named Bd.method).1
  have X0 : Stand p l e ({ frames := 3, cells := 1, slots := 2, locals := 60 } : Room) s m #[(.ref a1), (.ref ca)] below meth c s₁ [] 0 0 := Stand.of_body Bd
  have e0 : s₁.heap = h0 := by rw [← hh, Bd.state]; rfl
  have N0 := Fr.nil n0
  show Goes p e below (Fin s (Q_rn1_2 Z a1 ca cs ka c0 c1 h0 n0) ({ frames := 3, cells := 1, slots := 2, locals := 60 } : Room).cells ({ frames := 3, cells := 1, slots := 2, locals := 60 } : Room).slots) _
  refine Goes.via (S' := s₁.setTop (mkF m 0 #[.val (.ref a1), .val (.ref ca)] [])) (fun tz kz => castTop (ef_2 m a1 ca ) kz) ?_
  refine Goes.via (S' := s₁.setTop (mkF m 4 #[.val (.ref a1), .val (.ref ca)] [(.ref ca), (.int (0 : Int32)), (.ref ca), (.ref a1)])) (fun tz kz => ?_) ?_
  · show Steps p.tables e below (s₁.setTop (mkF m 0 #[.val (.ref a1), .val (.ref ca)] [])) _
    refine XS.aloadN X0.here hx rfl (hb hby d2_0) rfl rfl ?_
    refine XS.aloadN X0.here hx rfl (hb hby d2_1) rfl rfl ?_
    refine XS.iconst X0.here hx rfl (hb hby d2_2) ?_
    refine XS.aloadN X0.here hx rfl (hb hby d2_3) rfl rfl ?_
    exact kz
  obtain ⟨cl1, Ar1, q1, Sz1, Nn1, Hs1, G1⟩ := (id C0)
  refine Goes.via (S' := s₁.setTop (mkF m 6 #[.val (.ref a1), .val (.ref ca)] [.null, (.int (2 : Int32)), (.int (0 : Int32)), (.ref ca), (.ref a1)])) (fun tz kz => ?_) ?_
  · show Steps p.tables e below (s₁.setTop (mkF m 4 #[.val (.ref a1), .val (.ref ca)] [(.ref ca), (.int (0 : Int32)), (.ref ca), (.ref a1)])) _
    refine X0.arraylength hx (by rw [e0]; exact Ar1.1) (State.isArrayOf_alike hZ.alike Ar1.2.1) (g := (mkF m 4 #[.val (.ref a1), .val (.ref ca)] [(.ref ca), (.int (0 : Int32)), (.ref ca), (.ref a1)])) rfl rfl (hb hby d2_4) _ ?_
    rw [len_of Sz1 Nn1]
    refine XS.aconstNull X0.here hx rfl (hb hby d2_5) ?_
    exact kz
  obtain ⟨_, _, ⟨T2, L2, k2, n2⟩, -, X2, ⟨Lc2, hQ2, l2, y2, z2⟩, st2⟩ := X0.specialBack hx (y := (⟨"java/lang/String", "<init>", "([CIILjava/lang/Void;)V"⟩ : MethodName)) rfl hown (mvT hZ (w_ hw 12 rfl)) (mvT hZ (w_ hw 13 rfl)) (mvT hZ (w_ hw 15 rfl)) (by decide) (backOf (W := 0) (rn4_2 l Z a0 hw [] a1 ca cs ka c0 c1 h0 n0 Z0 SC hcs O0 FV FC E1 g1 C0 s0 s1) hZ (w_ hw 15 rfl) (w_ hw 7 rfl) (by decide) (by decide)) (g := (mkF m 6 #[.val (.ref a1), .val (.ref ca)] [.null, (.int (2 : Int32)), (.int (0 : Int32)), (.ref ca), (.ref a1)])) rfl (by rw [hml]; rfl) (Steps.refl _) (a := a1) (argsL := [(.ref ca), (.int (0 : Int32)), (.int (2 : Int32)), .null]) (rest := []) (lenOf pd_0 rfl) rfl (by show 2 * 0 + _ ≤ _; exact Nat.le_of_eq rfl) (hb hby d2_6) (fun _ _ => ⟨rfl, e0, (by decide : 0 + 1 ≤ _), (by decide : 0 + 2 ≤ _)⟩)
  dsimp only [Pt.U, Pt.locs, Pt.cells, Pt.slots] at X2 l2 y2 z2 st2 hQ2
  subst l2 y2 z2
  obtain ⟨rfl, N2, K2, vb, kb, S2, gv⟩ := hQ2
  have Nf2 := Fr.app N0 N2
  refine Goes.via (S' := T2.setTop (mkF m 9 #[.val (.ref a1), .val (.ref ca)] [])) (fun _ kz => st2.trans kz) ?_
  exact Goes.retV X2 hx Bd.notSynchronized Bd.returns (hb hby d2_9) (Nat.le_of_ble_eq_true rfl) (Nat.le_of_ble_eq_true rfl) ⟨rfl, Nf2, K2, vb, kb, S2, gv⟩
def Q_rc5_3 (Z : State) (ca : Addr) (bb : Addr) (ka kz : ClassId) (c0 c1 c2 : Int32) (h0 : Heap) (n0 : Nat) : Option Value → Heap → List Loc → Prop := fun v h L => v = some (.int (3 : Int32)) ∧ Fr n0 L ∧ Keep h0 h [bb] ∧ Arv Z h bb kz .byte (3 : Int32) [.int (own_by c0), .int (own_by c1), .int (own_by c2)] (.int 0)
set_option maxRecDepth 65536 in
set_option maxHeartbeats 40000000 in
theorem rc5_3 (l : Launch) (Z : State) (a0 : Array Value) (hw : ∀ d ∈ tables_1, d.before a0 Z = true) (ws : List Jvm.Cond) (ca : Addr) (bb : Addr) (ka kz : ClassId) (c0 c1 c2 : Int32) (h0 : Heap) (n0 : Nat) (Z0 : n0 ≤ h0.size) (C0 : Arv Z h0 ca ka .char (3 : Int32) [.int c0, .int c1, .int c2] (.int 0)) (B0 : Arv Z h0 bb kz .byte (3 : Int32) [.int 0, .int 0, .int 0] (.int 0)) (gb : n0 ≤ bb) (nab : ca ≠ bb) (s0 : ¬ (255 : Int32) < c0) (s1 : ¬ (255 : Int32) < c1) (s2 : ¬ (255 : Int32) < c2) :
    own_M l Z (⟨"java/lang/StringUTF16", "compress", "([CI[BII)I"⟩ : MethodName) (Jvm.Cond.code (⟨"java/lang/StringUTF16", "compress", "([CI[BII)I"⟩ : MethodName) jdk_52_method_21_code 7 (some .int)) ws ({ frames := 0, cells := 0, slots := 0, locals := 0 } : Room) #[(.ref ca), (.int (0 : Int32)), (.ref bb), (.int (0 : Int32)), (.int (3 : Int32))] h0 (Q_rc5_3 Z ca bb ka kz c0 c1 c2 h0 n0) := by
  refine MetFree.of_bodySF (plainFor_of_name pn_6) hisR ?_
  intro p e s m args below meth c s₁ Bd hml0 hP hK
  obtain ⟨rfl, hZ, hh⟩ := hP
  have hx := Bd.exec
  have hby := Bd.bytes
  have hml : c.maxLocals = 7 := hml0
  have hown : s.vm.findClass "java/lang/StringUTF16" = some m.cls := findClass_of_methodNamed Bd.named
  have hnm := (name_of_methodNamed Bd.named Bd.method).1
  have X0 : Stand p l e ({ frames := 0, cells := 0, slots := 0, locals := 0 } : Room) s m #[(.ref ca), (.int (0 : Int32)), (.ref bb), (.int (0 : Int32)), (.int (3 : Int32))] below meth c s₁ [] 0 0 := Stand.of_body Bd
  have e0 : s₁.heap = h0 := by rw [← hh, Bd.state]; rfl
  have N0 := Fr.nil n0
  show Goes p e below (Fin s (Q_rc5_3 Z ca bb ka kz c0 c1 c2 h0 n0) ({ frames := 0, cells := 0, slots := 0, locals := 0 } : Room).cells ({ frames := 0, cells := 0, slots := 0, locals := 0 } : Room).slots) _
  refine Goes.via (S' := s₁.setTop (mkF m 0 #[.val (.ref ca), .val (.int (0 : Int32)), .val (.ref bb), .val (.int (0 : Int32)), .val (.int (3 : Int32)), .unset, .unset] [])) (fun tz kz => castTop (ef_6 m ca (0 : Int32) bb (0 : Int32) (3 : Int32) ) kz) ?_
  refine Goes.via (S' := s₁.setTop (mkF m 12 #[.val (.ref ca), .val (.int (0 : Int32)), .val (.ref bb), .val (.int (0 : Int32)), .val (.int (3 : Int32)), .val (.int (0 : Int32)), .unset] [(.int (0 : Int32)), (.ref ca)])) (fun tz kz => ?_) ?_
  · show Steps p.tables e below (s₁.setTop (mkF m 0 #[.val (.ref ca), .val (.int (0 : Int32)), .val (.ref bb), .val (.int (0 : Int32)), .val (.int (3 : Int32)), .unset, .unset] [])) _
    refine XS.iconst X0.here hx rfl (hb hby d6_0) ?_
    refine XS.istore X0.here hx rfl (hb hby d6_1) rfl (l' := #[.val (.ref ca), .val (.int (0 : Int32)), .val (.ref bb), .val (.int (0 : Int32)), .val (.int (3 : Int32)), .val (.int (0 : Int32)), .unset]) rfl ?_
    refine XS.iload X0.here hx rfl (hb hby d6_3) rfl ?_
    refine XS.iload X0.here hx rfl (hb hby d6_5) rfl ?_
    show Steps p.tables e below (s₁.setTop (mkF m 7 #[.val (.ref ca), .val (.int (0 : Int32)), .val (.ref bb), .val (.int (0 : Int32)), .val (.int (3 : Int32)), .val (.int (0 : Int32)), .unset] [(.int (3 : Int32)), (.int (0 : Int32))])) _
    refine XS.icmpNo X0.here hx rfl (hb hby d6_7) rfl (tlt (by decide)).2.1 ?_
    refine XS.aloadN X0.here hx rfl (hb hby d6_10) rfl rfl ?_
    refine XS.iloadN X0.here hx rfl (hb hby d6_11) rfl ?_
    exact kz
  obtain ⟨cl1, Ar1, q1, Sz1, Nn1, Hs1, G1⟩ := (id C0)
  refine Goes.via (S' := s₁.setTop (mkF m 31 #[.val (.ref ca), .val (.int (0 : Int32)), .val (.ref bb), .val (.int (0 : Int32)), .val (.int (3 : Int32)), .val (.int (0 : Int32)), .val (.int c0)] [(.int (c0.toInt8.toInt32)), (.int (0 : Int32)), (.ref bb)])) (fun tz kz => ?_) ?_
  · show Steps p.tables e below (s₁.setTop (mkF m 12 #[.val (.ref ca), .val (.int (0 : Int32)), .val (.ref bb), .val (.int (0 : Int32)), .val (.int (3 : Int32)), .val (.int (0 : Int32)), .unset] [(.int (0 : Int32)), (.ref ca)])) _
    refine X0.caload hx (j := (0 : Int32)) (v := (.int c0)) (by rw [e0]; exact Ar1.1) (State.isArrayOf_alike hZ.alike Ar1.2.1) Ar1.2.2 (inb_of Sz1 ⟨by decide, by decide⟩) (Has.at Hs1 (inb_of Sz1 ⟨by decide, by decide⟩) rfl) (g := (mkF m 12 #[.val (.ref ca), .val (.int (0 : Int32)), .val (.ref bb), .val (.int (0 : Int32)), .val (.int (3 : Int32)), .val (.int (0 : Int32)), .unset] [(.int (0 : Int32)), (.ref ca)])) rfl rfl (hb hby d6_12) _ ?_
    refine XS.istore X0.here hx rfl (hb hby d6_13) rfl (l' := #[.val (.ref ca), .val (.int (0 : Int32)), .val (.ref bb), .val (.int (0 : Int32)), .val (.int (3 : Int32)), .val (.int (0 : Int32)), .val (.int c0)]) rfl ?_
    refine XS.iload X0.here hx rfl (hb hby d6_15) rfl ?_
    refine XS.sipush X0.here hx rfl (hb hby d6_17) ?_
    show Steps p.tables e below (s₁.setTop (mkF m 20 #[.val (.ref ca), .val (.int (0 : Int32)), .val (.ref bb), .val (.int (0 : Int32)), .val (.int (3 : Int32)), .val (.int (0 : Int32)), .val (.int c0)] [(.int (255 : Int32)), (.int c0)])) _
    refine XS.icmpYes X0.here hx rfl (pc0 := 20) (pc' := 26) rfl (hb hby d6_20) rfl (flt s0).2.2.2 (by decide) (by decide) ?_
    refine XS.aloadN X0.here hx rfl (hb hby d6_26) rfl rfl ?_
    refine XS.iloadN X0.here hx rfl (hb hby d6_27) rfl ?_
    refine XS.iload X0.here hx rfl (hb hby d6_28) rfl ?_
    show Steps p.tables e below (s₁.setTop (mkF m 30 #[.val (.ref ca), .val (.int (0 : Int32)), .val (.ref bb), .val (.int (0 : Int32)), .val (.int (3 : Int32)), .val (.int (0 : Int32)), .val (.int c0)] [(.int c0), (.int (0 : Int32)), (.ref bb)])) _
    refine XS.i2b X0.here hx rfl (hb hby d6_30) rfl ?_
    exact kz
  obtain ⟨cl2, Ar2, q2, Sz2, Nn2, Hs2, G2⟩ := (id B0)
  obtain ⟨T3, h3, X3, e3, W3, st3⟩ := stB X0 hx hZ e0 Ar2 (j := (0 : Int32)) (inb_of Sz2 ⟨by decide, by decide⟩) (g := (mkF m 31 #[.val (.ref ca), .val (.int (0 : Int32)), .val (.ref bb), .val (.int (0 : Int32)), .val (.int (3 : Int32)), .val (.int (0 : Int32)), .val (.int c0)] [(.int (c0.toInt8.toInt32)), (.int (0 : Int32)), (.ref bb)])) rfl rfl (hb hby d6_31)
  refine Goes.via (S' := T3.setTop (mkF m 32 #[.val (.ref ca), .val (.int (0 : Int32)), .val (.ref bb), .val (.int (0 : Int32)), .val (.int (3 : Int32)), .val (.int (0 : Int32)), .val (.int c0)] [])) st3 ?_
  have N3 := Fr.snoc X3 N0 gb
  have C3 := (C0).other W3 nab
  have A3 := Arv.set Ar2 q2 Sz2 Nn2 Hs2 G2 (fits_nar_byte _) W3 0 rfl (Nat.le_of_ble_eq_true rfl)
  have K3 := (Keep.refl h0 [bb]).wr W3 (Or.inl (List.mem_singleton.mpr rfl))
  refine Goes.via (S' := T3.setTop (mkF m 12 #[.val (.ref ca), .val (.int (1 : Int32)), .val (.ref bb), .val (.int (1 : Int32)), .val (.int (3 : Int32)), .val (.int (1 : Int32)), .val (.int c0)] [(.int (1 : Int32)), (.ref ca)])) (fun tz kz => ?_) ?_
  · show Steps p.tables e below (T3.setTop (mkF m 32 #[.val (.ref ca), .val (.int (0 : Int32)), .val (.ref bb), .val (.int (0 : Int32)), .val (.int (3 : Int32)), .val (.int (0 : Int32)), .val (.int c0)] [])) _
    refine XS.iinc X3.here hx rfl (hb hby d6_32) rfl (l' := #[.val (.ref ca), .val (.int (1 : Int32)), .val (.ref bb), .val (.int (0 : Int32)), .val (.int (3 : Int32)), .val (.int (0 : Int32)), .val (.int c0)]) rfl ?_
    refine XS.iinc X3.here hx rfl (hb hby d6_35) rfl (l' := #[.val (.ref ca), .val (.int (1 : Int32)), .val (.ref bb), .val (.int (1 : Int32)), .val (.int (3 : Int32)), .val (.int (0 : Int32)), .val (.int c0)]) rfl ?_
    refine XS.iinc X3.here hx rfl (hb hby d6_38) rfl (l' := #[.val (.ref ca), .val (.int (1 : Int32)), .val (.ref bb), .val (.int (1 : Int32)), .val (.int (3 : Int32)), .val (.int (1 : Int32)), .val (.int c0)]) rfl ?_
    refine XS.goto X3.here hx rfl (pc0 := 41) (pc' := 3) rfl (hb hby d6_41) (by decide) (by decide) ?_
    show Steps p.tables e below (T3.setTop (mkF m 3 #[.val (.ref ca), .val (.int (1 : Int32)), .val (.ref bb), .val (.int (1 : Int32)), .val (.int (3 : Int32)), .val (.int (1 : Int32)), .val (.int c0)] [])) _
    refine XS.iload X3.here hx rfl (hb hby d6_3) rfl ?_
    refine XS.iload X3.here hx rfl (hb hby d6_5) rfl ?_
    refine XS.icmpNo X3.here hx rfl (hb hby d6_7) rfl (tlt (by decide)).2.1 ?_
    refine XS.aloadN X3.here hx rfl (hb hby d6_10) rfl rfl ?_
    show Steps p.tables e below (T3.setTop (mkF m 11 #[.val (.ref ca), .val (.int (1 : Int32)), .val (.ref bb), .val (.int (1 : Int32)), .val (.int (3 : Int32)), .val (.int (1 : Int32)), .val (.int c0)] [(.ref ca)])) _
    refine XS.iloadN X3.here hx rfl (hb hby d6_11) rfl ?_
    exact kz
  obtain ⟨cl4, Ar4, q4, Sz4, Nn4, Hs4, G4⟩ := (id C3)
  refine Goes.via (S' := T3.setTop (mkF m 31 #[.val (.ref ca), .val (.int (1 : Int32)), .val (.ref bb), .val (.int (1 : Int32)), .val (.int (3 : Int32)), .val (.int (1 : Int32)), .val (.int c1)] [(.int (c1.toInt8.toInt32)), (.int (1 : Int32)), (.ref bb)])) (fun tz kz => ?_) ?_
  · show Steps p.tables e below (T3.setTop (mkF m 12 #[.val (.ref ca), .val (.int (1 : Int32)), .val (.ref bb), .val (.int (1 : Int32)), .val (.int (3 : Int32)), .val (.int (1 : Int32)), .val (.int c0)] [(.int (1 : Int32)), (.ref ca)])) _
    refine X3.caload hx (j := (1 : Int32)) (v := (.int c1)) (by rw [e3]; exact Ar4.1) (State.isArrayOf_alike hZ.alike Ar4.2.1) Ar4.2.2 (inb_of Sz4 ⟨by decide, by decide⟩) (Has.at Hs4 (inb_of Sz4 ⟨by decide, by decide⟩) rfl) (g := (mkF m 12 #[.val (.ref ca), .val (.int (1 : Int32)), .val (.ref bb), .val (.int (1 : Int32)), .val (.int (3 : Int32)), .val (.int (1 : Int32)), .val (.int c0)] [(.int (1 : Int32)), (.ref ca)])) rfl rfl (hb hby d6_12) _ ?_
    refine XS.istore X3.here hx rfl (hb hby d6_13) rfl (l' := #[.val (.ref ca), .val (.int (1 : Int32)), .val (.ref bb), .val (.int (1 : Int32)), .val (.int (3 : Int32)), .val (.int (1 : Int32)), .val (.int c1)]) rfl ?_
    refine XS.iload X3.here hx rfl (hb hby d6_15) rfl ?_
    refine XS.sipush X3.here hx rfl (hb hby d6_17) ?_
    show Steps p.tables e below (T3.setTop (mkF m 20 #[.val (.ref ca), .val (.int (1 : Int32)), .val (.ref bb), .val (.int (1 : Int32)), .val (.int (3 : Int32)), .val (.int (1 : Int32)), .val (.int c1)] [(.int (255 : Int32)), (.int c1)])) _
    refine XS.icmpYes X3.here hx rfl (pc0 := 20) (pc' := 26) rfl (hb hby d6_20) rfl (flt s1).2.2.2 (by decide) (by decide) ?_
    refine XS.aloadN X3.here hx rfl (hb hby d6_26) rfl rfl ?_
    refine XS.iloadN X3.here hx rfl (hb hby d6_27) rfl ?_
    refine XS.iload X3.here hx rfl (hb hby d6_28) rfl ?_
    show Steps p.tables e below (T3.setTop (mkF m 30 #[.val (.ref ca), .val (.int (1 : Int32)), .val (.ref bb), .val (.int (1 : Int32)), .val (.int (3 : Int32)), .val (.int (1 : Int32)), .val (.int c1)] [(.int c1), (.int (1 : Int32)), (.ref bb)])) _
    refine XS.i2b X3.here hx rfl (hb hby d6_30) rfl ?_
    exact kz
  obtain ⟨cl5, Ar5, q5, Sz5, Nn5, Hs5, G5⟩ := (id A3)
  obtain ⟨T6, h6, X6, e6, W6, st6⟩ := stB X3 hx hZ e3 Ar5 (j := (1 : Int32)) (inb_of Sz5 ⟨by decide, by decide⟩) (g := (mkF m 31 #[.val (.ref ca), .val (.int (1 : Int32)), .val (.ref bb), .val (.int (1 : Int32)), .val (.int (3 : Int32)), .val (.int (1 : Int32)), .val (.int c1)] [(.int (c1.toInt8.toInt32)), (.int (1 : Int32)), (.ref bb)])) rfl rfl (hb hby d6_31)
  refine Goes.via (S' := T6.setTop (mkF m 32 #[.val (.ref ca), .val (.int (1 : Int32)), .val (.ref bb), .val (.int (1 : Int32)), .val (.int (3 : Int32)), .val (.int (1 : Int32)), .val (.int c1)] [])) st6 ?_
  have N6 := Fr.snoc X6 N3 gb
  have C6 := (C3).other W6 nab
  have A6 := Arv.set Ar5 q5 Sz5 Nn5 Hs5 G5 (fits_nar_byte _) W6 1 rfl (Nat.le_of_ble_eq_true rfl)
  have K6 := (K3).wr W6 (Or.inl (List.mem_singleton.mpr rfl))
  refine Goes.via (S' := T6.setTop (mkF m 12 #[.val (.ref ca), .val (.int (2 : Int32)), .val (.ref bb), .val (.int (2 : Int32)), .val (.int (3 : Int32)), .val (.int (2 : Int32)), .val (.int c1)] [(.int (2 : Int32)), (.ref ca)])) (fun tz kz => ?_) ?_
  · show Steps p.tables e below (T6.setTop (mkF m 32 #[.val (.ref ca), .val (.int (1 : Int32)), .val (.ref bb), .val (.int (1 : Int32)), .val (.int (3 : Int32)), .val (.int (1 : Int32)), .val (.int c1)] [])) _
    refine XS.iinc X6.here hx rfl (hb hby d6_32) rfl (l' := #[.val (.ref ca), .val (.int (2 : Int32)), .val (.ref bb), .val (.int (1 : Int32)), .val (.int (3 : Int32)), .val (.int (1 : Int32)), .val (.int c1)]) rfl ?_
    refine XS.iinc X6.here hx rfl (hb hby d6_35) rfl (l' := #[.val (.ref ca), .val (.int (2 : Int32)), .val (.ref bb), .val (.int (2 : Int32)), .val (.int (3 : Int32)), .val (.int (1 : Int32)), .val (.int c1)]) rfl ?_
    refine XS.iinc X6.here hx rfl (hb hby d6_38) rfl (l' := #[.val (.ref ca), .val (.int (2 : Int32)), .val (.ref bb), .val (.int (2 : Int32)), .val (.int (3 : Int32)), .val (.int (2 : Int32)), .val (.int c1)]) rfl ?_
    refine XS.goto X6.here hx rfl (pc0 := 41) (pc' := 3) rfl (hb hby d6_41) (by decide) (by decide) ?_
    show Steps p.tables e below (T6.setTop (mkF m 3 #[.val (.ref ca), .val (.int (2 : Int32)), .val (.ref bb), .val (.int (2 : Int32)), .val (.int (3 : Int32)), .val (.int (2 : Int32)), .val (.int c1)] [])) _
    refine XS.iload X6.here hx rfl (hb hby d6_3) rfl ?_
    refine XS.iload X6.here hx rfl (hb hby d6_5) rfl ?_
    refine XS.icmpNo X6.here hx rfl (hb hby d6_7) rfl (tlt (by decide)).2.1 ?_
    refine XS.aloadN X6.here hx rfl (hb hby d6_10) rfl rfl ?_
    show Steps p.tables e below (T6.setTop (mkF m 11 #[.val (.ref ca), .val (.int (2 : Int32)), .val (.ref bb), .val (.int (2 : Int32)), .val (.int (3 : Int32)), .val (.int (2 : Int32)), .val (.int c1)] [(.ref ca)])) _
    refine XS.iloadN X6.here hx rfl (hb hby d6_11) rfl ?_
    exact kz
  obtain ⟨cl7, Ar7, q7, Sz7, Nn7, Hs7, G7⟩ := (id C6)
  refine Goes.via (S' := T6.setTop (mkF m 31 #[.val (.ref ca), .val (.int (2 : Int32)), .val (.ref bb), .val (.int (2 : Int32)), .val (.int (3 : Int32)), .val (.int (2 : Int32)), .val (.int c2)] [(.int (c2.toInt8.toInt32)), (.int (2 : Int32)), (.ref bb)])) (fun tz kz => ?_) ?_
  · show Steps p.tables e below (T6.setTop (mkF m 12 #[.val (.ref ca), .val (.int (2 : Int32)), .val (.ref bb), .val (.int (2 : Int32)), .val (.int (3 : Int32)), .val (.int (2 : Int32)), .val (.int c1)] [(.int (2 : Int32)), (.ref ca)])) _
    refine X6.caload hx (j := (2 : Int32)) (v := (.int c2)) (by rw [e6]; exact Ar7.1) (State.isArrayOf_alike hZ.alike Ar7.2.1) Ar7.2.2 (inb_of Sz7 ⟨by decide, by decide⟩) (Has.at Hs7 (inb_of Sz7 ⟨by decide, by decide⟩) rfl) (g := (mkF m 12 #[.val (.ref ca), .val (.int (2 : Int32)), .val (.ref bb), .val (.int (2 : Int32)), .val (.int (3 : Int32)), .val (.int (2 : Int32)), .val (.int c1)] [(.int (2 : Int32)), (.ref ca)])) rfl rfl (hb hby d6_12) _ ?_
    refine XS.istore X6.here hx rfl (hb hby d6_13) rfl (l' := #[.val (.ref ca), .val (.int (2 : Int32)), .val (.ref bb), .val (.int (2 : Int32)), .val (.int (3 : Int32)), .val (.int (2 : Int32)), .val (.int c2)]) rfl ?_
    refine XS.iload X6.here hx rfl (hb hby d6_15) rfl ?_
    refine XS.sipush X6.here hx rfl (hb hby d6_17) ?_
    show Steps p.tables e below (T6.setTop (mkF m 20 #[.val (.ref ca), .val (.int (2 : Int32)), .val (.ref bb), .val (.int (2 : Int32)), .val (.int (3 : Int32)), .val (.int (2 : Int32)), .val (.int c2)] [(.int (255 : Int32)), (.int c2)])) _
    refine XS.icmpYes X6.here hx rfl (pc0 := 20) (pc' := 26) rfl (hb hby d6_20) rfl (flt s2).2.2.2 (by decide) (by decide) ?_
    refine XS.aloadN X6.here hx rfl (hb hby d6_26) rfl rfl ?_
    refine XS.iloadN X6.here hx rfl (hb hby d6_27) rfl ?_
    refine XS.iload X6.here hx rfl (hb hby d6_28) rfl ?_
    show Steps p.tables e below (T6.setTop (mkF m 30 #[.val (.ref ca), .val (.int (2 : Int32)), .val (.ref bb), .val (.int (2 : Int32)), .val (.int (3 : Int32)), .val (.int (2 : Int32)), .val (.int c2)] [(.int c2), (.int (2 : Int32)), (.ref bb)])) _
    refine XS.i2b X6.here hx rfl (hb hby d6_30) rfl ?_
    exact kz
  obtain ⟨cl8, Ar8, q8, Sz8, Nn8, Hs8, G8⟩ := (id A6)
  obtain ⟨T9, h9, X9, e9, W9, st9⟩ := stB X6 hx hZ e6 Ar8 (j := (2 : Int32)) (inb_of Sz8 ⟨by decide, by decide⟩) (g := (mkF m 31 #[.val (.ref ca), .val (.int (2 : Int32)), .val (.ref bb), .val (.int (2 : Int32)), .val (.int (3 : Int32)), .val (.int (2 : Int32)), .val (.int c2)] [(.int (c2.toInt8.toInt32)), (.int (2 : Int32)), (.ref bb)])) rfl rfl (hb hby d6_31)
  refine Goes.via (S' := T9.setTop (mkF m 32 #[.val (.ref ca), .val (.int (2 : Int32)), .val (.ref bb), .val (.int (2 : Int32)), .val (.int (3 : Int32)), .val (.int (2 : Int32)), .val (.int c2)] [])) st9 ?_
  have N9 := Fr.snoc X9 N6 gb
  have C9 := (C6).other W9 nab
  have A9 := Arv.set Ar8 q8 Sz8 Nn8 Hs8 G8 (fits_nar_byte _) W9 2 rfl (Nat.le_of_ble_eq_true rfl)
  have K9 := (K6).wr W9 (Or.inl (List.mem_singleton.mpr rfl))
  refine Goes.via (S' := T9.setTop (mkF m 46 #[.val (.ref ca), .val (.int (3 : Int32)), .val (.ref bb), .val (.int (3 : Int32)), .val (.int (3 : Int32)), .val (.int (3 : Int32)), .val (.int c2)] [(.int (3 : Int32))])) (fun tz kz => ?_) ?_
  · show Steps p.tables e below (T9.setTop (mkF m 32 #[.val (.ref ca), .val (.int (2 : Int32)), .val (.ref bb), .val (.int (2 : Int32)), .val (.int (3 : Int32)), .val (.int (2 : Int32)), .val (.int c2)] [])) _
    refine XS.iinc X9.here hx rfl (hb hby d6_32) rfl (l' := #[.val (.ref ca), .val (.int (3 : Int32)), .val (.ref bb), .val (.int (2 : Int32)), .val (.int (3 : Int32)), .val (.int (2 : Int32)), .val (.int c2)]) rfl ?_
    refine XS.iinc X9.here hx rfl (hb hby d6_35) rfl (l' := #[.val (.ref ca), .val (.int (3 : Int32)), .val (.ref bb), .val (.int (3 : Int32)), .val (.int (3 : Int32)), .val (.int (2 : Int32)), .val (.int c2)]) rfl ?_
    refine XS.iinc X9.here hx rfl (hb hby d6_38) rfl (l' := #[.val (.ref ca), .val (.int (3 : Int32)), .val (.ref bb), .val (.int (3 : Int32)), .val (.int (3 : Int32)), .val (.int (3 : Int32)), .val (.int c2)]) rfl ?_
    refine XS.goto X9.here hx rfl (pc0 := 41) (pc' := 3) rfl (hb hby d6_41) (by decide) (by decide) ?_
    show Steps p.tables e below (T9.setTop (mkF m 3 #[.val (.ref ca), .val (.int (3 : Int32)), .val (.ref bb), .val (.int (3 : Int32)), .val (.int (3 : Int32)), .val (.int (3 : Int32)), .val (.int c2)] [])) _
    refine XS.iload X9.here hx rfl (hb hby d6_3) rfl ?_
    refine XS.iload X9.here hx rfl (hb hby d6_5) rfl ?_
    refine XS.icmpYes X9.here hx rfl (pc0 := 7) (pc' := 44) rfl (hb hby d6_7) rfl (flt (by decide)).2.1 (by decide) (by decide) ?_
    refine XS.iload X9.here hx rfl (hb hby d6_44) rfl ?_
    exact kz
  exact Goes.retI X9 hx Bd.notSynchronized Bd.returns (hb hby d6_46) (Nat.le_of_ble_eq_true rfl) (Nat.le_of_ble_eq_true rfl) (by rw [e9]; exact ⟨rfl, N9, K9, A9⟩)
def Q_rc3_3 (Z : State) (ca : Addr) (ka : ClassId) (c0 c1 c2 : Int32) (h0 : Heap) (n0 : Nat) : Option Value → Heap → List Loc → Prop := fun v h L => ∃ b k, v = some (.ref b) ∧ Fr n0 L ∧ Keep h0 h [] ∧ Arv Z h b k .byte (3 : Int32) [.int (own_by c0), .int (own_by c1), .int (own_by c2)] (.int 0) ∧ @LE.le Nat _ h0.size b
set_option maxRecDepth 65536 in
set_option maxHeartbeats 40000000 in
theorem rc3_3 (l : Launch) (Z : State) (a0 : Array Value) (hw : ∀ d ∈ tables_1, d.before a0 Z = true) (ws : List Jvm.Cond) (ca : Addr) (ka : ClassId) (c0 c1 c2 : Int32) (h0 : Heap) (n0 : Nat) (Z0 : n0 ≤ h0.size) (C0 : Arv Z h0 ca ka .char (3 : Int32) [.int c0, .int c1, .int c2] (.int 0)) (s0 : ¬ (255 : Int32) < c0) (s1 : ¬ (255 : Int32) < c1) (s2 : ¬ (255 : Int32) < c2) :
    own_M l Z (⟨"java/lang/StringUTF16", "compress", "([CII)[B"⟩ : MethodName) (Jvm.Cond.code (⟨"java/lang/StringUTF16", "compress", "([CII)[B"⟩ : MethodName) jdk_52_method_16_code 6 (some (.array .byte))) ws ({ frames := 1, cells := 1, slots := 3, locals := 20 } : Room) #[(.ref ca), (.int (0 : Int32)), (.int (3 : Int32))] h0 (Q_rc3_3 Z ca ka c0 c1 c2 h0 n0) := by
  refine MetFree.of_bodySF (plainFor_of_name pn_5) hisR ?_
  intro p e s m args below meth c s₁ Bd hml0 hP hK
  obtain ⟨rfl, hZ, hh⟩ := hP
  have hx := Bd.exec
  have hby := Bd.bytes
  have hml : c.maxLocals = 6 := hml0
  have hown : s.vm.findClass "java/lang/StringUTF16" = some m.cls := findClass_of_methodNamed Bd.named
  have hnm := (name_of_methodNamed Bd.named Bd.method).1
  have X0 : Stand p l e ({ frames := 1, cells := 1, slots := 3, locals := 20 } : Room) s m #[(.ref ca), (.int (0 : Int32)), (.int (3 : Int32))] below meth c s₁ [] 0 0 := Stand.of_body Bd
  have e0 : s₁.heap = h0 := by rw [← hh, Bd.state]; rfl
  have N0 := Fr.nil n0
  show Goes p e below (Fin s (Q_rc3_3 Z ca ka c0 c1 c2 h0 n0) ({ frames := 1, cells := 1, slots := 3, locals := 20 } : Room).cells ({ frames := 1, cells := 1, slots := 3, locals := 20 } : Room).slots) _
  refine Goes.via (S' := s₁.setTop (mkF m 0 #[.val (.ref ca), .val (.int (0 : Int32)), .val (.int (3 : Int32)), .unset, .unset, .unset] [])) (fun tz kz => castTop (ef_5 m ca (0 : Int32) (3 : Int32) ) kz) ?_
  refine Goes.via (S' := s₁.setTop (mkF m 1 #[.val (.ref ca), .val (.int (0 : Int32)), .val (.int (3 : Int32)), .unset, .unset, .unset] [(.int (3 : Int32))])) (fun tz kz => ?_) ?_
  · show Steps p.tables e below (s₁.setTop (mkF m 0 #[.val (.ref ca), .val (.int (0 : Int32)), .val (.int (3 : Int32)), .unset, .unset, .unset] [])) _
    refine XS.iloadN X0.here hx rfl (hb hby d5_0) rfl ?_
    exact kz
  obtain ⟨T1, h1, k1, X1, e1, E1, A1, st1⟩ := newP X0 hx hZ (w_ hw 24 rfl) e0 (g := (mkF m 1 #[.val (.ref ca), .val (.int (0 : Int32)), .val (.int (3 : Int32)), .unset, .unset, .unset] [(.int (3 : Int32))])) rfl (hb hby d5_1) rfl (by decide) (cap := 3) (by decide) (by decide) (by decide) (by decide)
  obtain ⟨b1, g1⟩ : ∃ z, z = h0.size := ⟨_, rfl⟩
  rw [← g1] at A1 st1
  refine Goes.via (S' := T1.setTop (mkF m 3 #[.val (.ref ca), .val (.int (0 : Int32)), .val (.int (3 : Int32)), .unset, .unset, .unset] [(.ref b1)])) st1 ?_
  have B1 : Arv Z h1 b1 k1 .byte (3 : Int32) [.int 0, .int 0, .int 0] (.int 0) := (Arv.new A1 (by decide)).pad (pad_rep [] (.int 0) 3)
  have nab : ca ≠ b1 := adr_ne C0.lt g1 (Nat.le_refl _)
  have gb : n0 ≤ b1 := Nat.le_trans Z0 (Nat.le_of_eq g1.symm)
  refine Goes.via (S' := T1.setTop (mkF m 9 #[.val (.ref ca), .val (.int (0 : Int32)), .val (.int (3 : Int32)), .val (.ref b1), .unset, .unset] [(.int (3 : Int32)), (.int (0 : Int32)), (.ref b1), (.int (0 : Int32)), (.ref ca)])) (fun tz kz => ?_) ?_
  · show Steps p.tables e below (T1.setTop (mkF m 3 #[.val (.ref ca), .val (.int (0 : Int32)), .val (.int (3 : Int32)), .unset, .unset, .unset] [(.ref b1)])) _
    refine XS.astoreN X1.here hx rfl (hb hby d5_3) rfl rfl (l' := #[.val (.ref ca), .val (.int (0 : Int32)), .val (.int (3 : Int32)), .val (.ref b1), .unset, .unset]) rfl ?_
    refine XS.aloadN X1.here hx rfl (hb hby d5_4) rfl rfl ?_
    refine XS.iloadN X1.here hx rfl (hb hby d5_5) rfl ?_
    refine XS.aloadN X1.here hx rfl (hb hby d5_6) rfl rfl ?_
    show Steps p.tables e below (T1.setTop (mkF m 7 #[.val (.ref ca), .val (.int (0 : Int32)), .val (.int (3 : Int32)), .val (.ref b1), .unset, .unset] [(.ref b1), (.int (0 : Int32)), (.ref ca)])) _
    refine XS.iconst X1.here hx rfl (hb hby d5_7) ?_
    refine XS.iloadN X1.here hx rfl (hb hby d5_8) rfl ?_
    exact kz
  obtain ⟨_, _, ⟨T2, L2, k2, n2⟩, -, X2, ⟨Lc2, hQ2, l2, y2, z2⟩, st2⟩ := Jvm.LawKit.callS X1 hx (y := (⟨"java/lang/StringUTF16", "compress", "([CI[BII)I"⟩ : MethodName)) hown (mvT hZ (w_ hw 25 rfl)) (mvT hZ (w_ hw 26 rfl)) (mvT hZ (w_ hw 22 rfl)) (mvT hZ (w_ hw 27 rfl)) (by decide) (backOf (W := 0) (rc5_3 l Z a0 hw [] ca b1 ka k1 c0 c1 c2 h1 n0 (Nat.le_trans Z0 E1.1) (C0.ext E1) B1 gb nab s0 s1 s2) hZ (w_ hw 27 rfl) (w_ hw 22 rfl) (by decide) (by decide)) (g := (mkF m 9 #[.val (.ref ca), .val (.int (0 : Int32)), .val (.int (3 : Int32)), .val (.ref b1), .unset, .unset] [(.int (3 : Int32)), (.int (0 : Int32)), (.ref b1), (.int (0 : Int32)), (.ref ca)])) rfl (by rw [hml]; rfl) (argsL := [(.ref ca), (.int (0 : Int32)), (.ref b1), (.int (0 : Int32)), (.int (3 : Int32))]) (rest := []) (lenOf pd_1 rfl) rfl (by show 2 * 0 + _ ≤ _; exact Nat.le_of_eq rfl) (hb hby d5_9) (fun _ _ => ⟨rfl, e1, (by decide : 1 + 0 ≤ _), (by decide : 3 + 0 ≤ _)⟩)
  dsimp only [Pt.U, Pt.locs, Pt.cells, Pt.slots] at X2 l2 y2 z2 st2 hQ2
  subst l2 y2 z2
  obtain ⟨rfl, N2, K2, B2⟩ := hQ2
  have Nf2 := Fr.app N0 N2
  refine Goes.via (S' := T2.setTop (mkF m 12 #[.val (.ref ca), .val (.int (0 : Int32)), .val (.int (3 : Int32)), .val (.ref b1), .unset, .unset] [(.int (3 : Int32))])) (st2) ?_
  refine Goes.via (S' := T2.setTop (mkF m 58 #[.val (.ref ca), .val (.int (0 : Int32)), .val (.int (3 : Int32)), .val (.ref b1), .val (.int (3 : Int32)), .unset] [(.ref b1)])) (fun tz kz => ?_) ?_
  · show Steps p.tables e below (T2.setTop (mkF m 12 #[.val (.ref ca), .val (.int (0 : Int32)), .val (.int (3 : Int32)), .val (.ref b1), .unset, .unset] [(.int (3 : Int32))])) _
    refine XS.istore X2.here hx rfl (hb hby d5_12) rfl (l' := #[.val (.ref ca), .val (.int (0 : Int32)), .val (.int (3 : Int32)), .val (.ref b1), .val (.int (3 : Int32)), .unset]) rfl ?_
    refine XS.iload X2.here hx rfl (hb hby d5_14) rfl ?_
    refine XS.iloadN X2.here hx rfl (hb hby d5_16) rfl ?_
    refine XS.icmpYes X2.here hx rfl (pc0 := 17) (pc' := 57) rfl (hb hby d5_17) rfl (teq (by decide)).1 (by decide) (by decide) ?_
    show Steps p.tables e below (T2.setTop (mkF m 57 #[.val (.ref ca), .val (.int (0 : Int32)), .val (.int (3 : Int32)), .val (.ref b1), .val (.int (3 : Int32)), .unset] [])) _
    refine XS.aloadN X2.here hx rfl (hb hby d5_57) rfl rfl ?_
    exact kz
  exact Goes.retO X2 hx Bd.notSynchronized Bd.returns rfl (Or.inr (Or.inr (Or.inr (Or.inr ⟨rfl, rfl, rfl⟩)))) (hb hby d5_58) (Nat.le_of_ble_eq_true rfl) (Nat.le_of_ble_eq_true rfl) ⟨b1, k1, rfl, Nf2, (Keep.refl h0 []).ext E1 |>.trans K2 (allS (Or.inr (Nat.le_of_eq g1.symm)) all0), B2, Nat.le_of_eq g1.symm⟩
def Q_rcc_3 (Z : State) (bb : Addr) (k : ClassId) (vs : List Value) (h0 : Heap) (n0 : Nat) : Option Value → Heap → List Loc → Prop := fun v h L => v = some (.int 0) ∧ Fr n0 L ∧ h = h0
set_option maxRecDepth 65536 in
set_option maxHeartbeats 40000000 in
theorem rcc_3 (l : Launch) (Z : State) (a0 : Array Value) (hw : ∀ d ∈ tables_1, d.before a0 Z = true) (ws : List Jvm.Cond) (bb : Addr) (k : ClassId) (vs : List Value) (h0 : Heap) (n0 : Nat) (Z0 : n0 ≤ h0.size) (B0 : Arv Z h0 bb k .byte (3 : Int32) vs (.int 0)) :
    own_M l Z (⟨"java/lang/StringUTF16", "coderFromArrayLen", "([BI)B"⟩ : MethodName) (Jvm.Cond.code (⟨"java/lang/StringUTF16", "coderFromArrayLen", "([BI)B"⟩ : MethodName) jdk_52_method_15_code 2 (some .byte)) ws ({ frames := 0, cells := 0, slots := 0, locals := 0 } : Room) #[(.ref bb), (.int (3 : Int32))] h0 (Q_rcc_3 Z bb k vs h0 n0) := by
  refine MetFree.of_bodySF (plainFor_of_name pn_7) hisR ?_
  intro p e s m args below meth c s₁ Bd hml0 hP hK
  obtain ⟨rfl, hZ, hh⟩ := hP
  have hx := Bd.exec
  have hby := Bd.bytes
  have hml : c.maxLocals = 2 := hml0
  have hown : s.vm.findClass "java/lang/StringUTF16" = some m.cls := findClass_of_methodNamed Bd.named
  have hnm := (name_of_methodNamed Bd.named Bd.method).1
  have X0 : Stand p l e ({ frames := 0, cells := 0, slots := 0, locals := 0 } : Room) s m #[(.ref bb), (.int (3 : Int32))] below meth c s₁ [] 0 0 := Stand.of_body Bd
  have e0 : s₁.heap = h0 := by rw [← hh, Bd.state]; rfl
  have N0 := Fr.nil n0
  show Goes p e below (Fin s (Q_rcc_3 Z bb k vs h0 n0) ({ frames := 0, cells := 0, slots := 0, locals := 0 } : Room).cells ({ frames := 0, cells := 0, slots := 0, locals := 0 } : Room).slots) _
  refine Goes.via (S' := s₁.setTop (mkF m 0 #[.val (.ref bb), .val (.int (3 : Int32))] [])) (fun tz kz => castTop (ef_7 m bb (3 : Int32) ) kz) ?_
  refine Goes.via (S' := s₁.setTop (mkF m 2 #[.val (.ref bb), .val (.int (3 : Int32))] [(.ref bb), (.int (3 : Int32))])) (fun tz kz => ?_) ?_
  · show Steps p.tables e below (s₁.setTop (mkF m 0 #[.val (.ref bb), .val (.int (3 : Int32))] [])) _
    refine XS.iloadN X0.here hx rfl (hb hby d7_0) rfl ?_
    refine XS.aloadN X0.here hx rfl (hb hby d7_1) rfl rfl ?_
    exact kz
  obtain ⟨cl1, Ar1, q1, Sz1, Nn1, Hs1, G1⟩ := (id B0)
  refine Goes.via (S' := s₁.setTop (mkF m 8 #[.val (.ref bb), .val (.int (3 : Int32))] [(.int ((((0 : Int32).toUInt32 >>> ((31 : Int32) &&& 31).toUInt32).toInt32).toInt8.toInt32))])) (fun tz kz => ?_) ?_
  · show Steps p.tables e below (s₁.setTop (mkF m 2 #[.val (.ref bb), .val (.int (3 : Int32))] [(.ref bb), (.int (3 : Int32))])) _
    refine X0.arraylength hx (by rw [e0]; exact Ar1.1) (State.isArrayOf_alike hZ.alike Ar1.2.1) (g := (mkF m 2 #[.val (.ref bb), .val (.int (3 : Int32))] [(.ref bb), (.int (3 : Int32))])) rfl rfl (hb hby d7_2) _ ?_
    rw [len_of Sz1 Nn1]
    refine XS.isub X0.here hx rfl (hb hby d7_3) rfl ?_
    refine XS.bipush X0.here hx rfl (hb hby d7_4) ?_
    refine XS.iushr X0.here hx rfl (hb hby d7_6) rfl ?_
    show Steps p.tables e below (s₁.setTop (mkF m 7 #[.val (.ref bb), .val (.int (3 : Int32))] [(.int (((0 : Int32).toUInt32 >>> ((31 : Int32) &&& 31).toUInt32).toInt32))])) _
    refine XS.i2b X0.here hx rfl (hb hby d7_7) rfl ?_
    exact kz
  exact Goes.retN X0 hx Bd.notSynchronized (t := .byte) Bd.returns (by simp) (hb hby d7_8) (Nat.le_of_ble_eq_true rfl) (Nat.le_of_ble_eq_true rfl) ⟨congrArg (fun z => some (Value.int z)) (by decide), N0, e0⟩
def Q_rn4_3 (Z : State) (a1 : Addr) (ca : Addr) (cs : Int32) (ka : ClassId) (c0 c1 c2 : Int32) (h0 : Heap) (n0 : Nat) : Option Value → Heap → List Loc → Prop := fun v h L => v = none ∧ Fr n0 L ∧ Keep h0 h [a1] ∧ ∃ b k, own_Str Z h a1 b k (3 : Int32) [.int (own_by c0), .int (own_by c1), .int (own_by c2)] ∧ @LE.le Nat _ h0.size b
set_option maxRecDepth 65536 in
set_option maxHeartbeats 40000000 in
theorem rn4_3 (l : Launch) (Z : State) (a0 : Array Value) (hw : ∀ d ∈ tables_1, d.before a0 Z = true) (ws : List Jvm.Cond) (a1 : Addr) (ca : Addr) (cs : Int32) (ka : ClassId) (c0 c1 c2 : Int32) (h0 : Heap) (n0 : Nat) (Z0 : n0 ≤ h0.size) (SC : Sta Z Z.heap "java/lang/String" "COMPACT_STRINGS" "Z" (.int cs)) (hcs : ¬ cs = (0 : Int32)) (O0 : Old Z n0 h0) (FV : Fld Z h0 a1 "java/lang/String" "value" "[B" .null) (FC : Fld Z h0 a1 "java/lang/String" "coder" "B" (.int (0 : Int32))) (E1 : Exa Z h0 a1 "java/lang/String") (g1 : n0 ≤ a1) (C0 : Arv Z h0 ca ka .char (3 : Int32) [.int c0, .int c1, .int c2] (.int 0)) (s0 : ¬ (255 : Int32) < c0) (s1 : ¬ (255 : Int32) < c1) (s2 : ¬ (255 : Int32) < c2) :
    own_M l Z (⟨"java/lang/String", "<init>", "([CIILjava/lang/Void;)V"⟩ : MethodName) (Jvm.Cond.code (⟨"java/lang/String", "<init>", "([CIILjava/lang/Void;)V"⟩ : MethodName) jdk_42_method_149_code 6 none) ws ({ frames := 2, cells := 1, slots := 3, locals := 40 } : Room) #[(.ref a1), (.ref ca), (.int (0 : Int32)), (.int (3 : Int32)), .null] h0 (Q_rn4_3 Z a1 ca cs ka c0 c1 c2 h0 n0) := by
  refine MetFree.of_bodySF (plainFor_of_name pn_3) hisR ?_
  intro p e s m args below meth c s₁ Bd hml0 hP hK
  obtain ⟨rfl, hZ, hh⟩ := hP
  have hx := Bd.exec
  have hby := Bd.bytes
  have hml : c.maxLocals = 6 := hml0
  have hown : s.vm.findClass "java/lang/String" = some m.cls := findClass_of_methodNamed Bd.named
  have hnm := (name_of_methodNamed Bd.named Bd.method).1
  have X0 : Stand p l e ({ frames := 2, cells := 1, slots := 3, locals := 40 } : Room) s m #[(.ref a1), (.ref ca), (.int (0 : Int32)), (.int (3 : Int32)), .null] below meth c s₁ [] 0 0 := Stand.of_body Bd
  have e0 : s₁.heap = h0 := by rw [← hh, Bd.state]; rfl
  have N0 := Fr.nil n0
  show Goes p e below (Fin s (Q_rn4_3 Z a1 ca cs ka c0 c1 c2 h0 n0) ({ frames := 2, cells := 1, slots := 3, locals := 40 } : Room).cells ({ frames := 2, cells := 1, slots := 3, locals := 40 } : Room).slots) _
  refine Goes.via (S' := s₁.setTop (mkF m 0 #[.val (.ref a1), .val (.ref ca), .val (.int (0 : Int32)), .val (.int (3 : Int32)), .val .null, .unset] [])) (fun tz kz => castTop (ef_3 m a1 ca (0 : Int32) (3 : Int32) ) kz) ?_
  refine Goes.via (S' := s₁.setTop (mkF m 1 #[.val (.ref a1), .val (.ref ca), .val (.int (0 : Int32)), .val (.int (3 : Int32)), .val .null, .unset] [(.ref a1)])) (fun tz kz => ?_) ?_
  · show Steps p.tables e below (s₁.setTop (mkF m 0 #[.val (.ref a1), .val (.ref ca), .val (.int (0 : Int32)), .val (.int (3 : Int32)), .val .null, .unset] [])) _
    refine XS.aloadN X0.here hx rfl (hb hby d3_0) rfl rfl ?_
    exact kz
  obtain ⟨T1, X1, e1, st1⟩ := initO X0 hx hZ hown (w_ hw 16 rfl) (w_ hw 17 rfl) (w_ hw 18 rfl) e0 (g := (mkF m 1 #[.val (.ref a1), .val (.ref ca), .val (.int (0 : Int32)), .val (.int (3 : Int32)), .val .null, .unset] [(.ref a1)])) rfl (by rw [hml]; rfl) rfl (hb hby d3_1) (by decide) (W := 0) (by show 2 * 0 + _ ≤ _; exact Nat.le_of_eq rfl) (by decide)
  refine Goes.via (S' := T1.setTop (mkF m 4 #[.val (.ref a1), .val (.ref ca), .val (.int (0 : Int32)), .val (.int (3 : Int32)), .val .null, .unset] [])) st1 ?_
  refine Goes.via (S' := T1.setTop (mkF m 27 #[.val (.ref a1), .val (.ref ca), .val (.int (0 : Int32)), .val (.int (3 : Int32)), .val .null, .unset] [])) (fun tz kz => ?_) ?_
  · show Steps p.tables e below (T1.setTop (mkF m 4 #[.val (.ref a1), .val (.ref ca), .val (.int (0 : Int32)), .val (.int (3 : Int32)), .val .null, .unset] [])) _
    refine XS.iloadN X1.here hx rfl (hb hby d3_4) rfl ?_
    refine XS.ifYes X1.here hx rfl (pc0 := 5) (pc' := 27) rfl (hb hby d3_5) rfl ((if0 _ _).trans (feq (by decide)).2) (by decide) (by decide) ?_
    exact kz
  obtain ⟨T2, X2, e2, st2⟩ := getS2 X1 hx hZ hown (host := "") (Or.inl (w_ hw 19 rfl)) Via.refl e1 (SC.ext O0.2) (g := (mkF m 27 #[.val (.ref a1), .val (.ref ca), .val (.int (0 : Int32)), .val (.int (3 : Int32)), .val .null, .unset] [])) rfl (hb hby d3_27)
  refine Goes.via (S' := T2.setTop (mkF m 30 #[.val (.ref a1), .val (.ref ca), .val (.int (0 : Int32)), .val (.int (3 : Int32)), .val .null, .unset] [(.int cs)])) st2 ?_
  refine Goes.via (S' := T2.setTop (mkF m 36 #[.val (.ref a1), .val (.ref ca), .val (.int (0 : Int32)), .val (.int (3 : Int32)), .val .null, .unset] [(.int (3 : Int32)), (.int (0 : Int32)), (.ref ca)])) (fun tz kz => ?_) ?_
  · show Steps p.tables e below (T2.setTop (mkF m 30 #[.val (.ref a1), .val (.ref ca), .val (.int (0 : Int32)), .val (.int (3 : Int32)), .val .null, .unset] [(.int cs)])) _
    refine XS.ifNo X2.here hx rfl (hb hby d3_30) rfl ((if0 _ _).trans (feq hcs).1) ?_
    refine XS.aloadN X2.here hx rfl (hb hby d3_33) rfl rfl ?_
    refine XS.iloadN X2.here hx rfl (hb hby d3_34) rfl ?_
    refine XS.iloadN X2.here hx rfl (hb hby d3_35) rfl ?_
    exact kz
  obtain ⟨_, _, ⟨T3, L3, k3, n3⟩, -, X3, ⟨Lc3, hQ3, l3, y3, z3⟩, st3⟩ := Jvm.LawKit.callS X2 hx (y := (⟨"java/lang/StringUTF16", "compress", "([CII)[B"⟩ : MethodName)) hown (mvT hZ (w_ hw 20 rfl)) (mvT hZ (w_ hw 21 rfl)) (mvT hZ (w_ hw 22 rfl)) (mvT hZ (w_ hw 23 rfl)) (by decide) (backOf (W := 0) (rc3_3 l Z a0 hw [] ca ka c0 c1 c2 h0 n0 Z0 C0 s0 s1 s2) hZ (w_ hw 23 rfl) (w_ hw 22 rfl) (by decide) (by decide)) (g := (mkF m 36 #[.val (.ref a1), .val (.ref ca), .val (.int (0 : Int32)), .val (.int (3 : Int32)), .val .null, .unset] [(.int (3 : Int32)), (.int (0 : Int32)), (.ref ca)])) rfl (by rw [hml]; rfl) (argsL := [(.ref ca), (.int (0 : Int32)), (.int (3 : Int32))]) (rest := []) (lenOf pd_2 rfl) rfl (by show 2 * 0 + _ ≤ _; exact Nat.le_of_eq rfl) (hb hby d3_36) (fun _ _ => ⟨rfl, e2, (by decide : 0 + 1 ≤ _), (by decide : 0 + 3 ≤ _)⟩)
  dsimp only [Pt.U, Pt.locs, Pt.cells, Pt.slots] at X3 l3 y3 z3 st3 hQ3
  subst l3 y3 z3
  obtain ⟨vb, kb, rfl, N3, K3, B3, gv⟩ := hQ3
  have Nf3 := Fr.app N0 N3
  refine Goes.via (S' := T3.setTop (mkF m 39 #[.val (.ref a1), .val (.ref ca), .val (.int (0 : Int32)), .val (.int (3 : Int32)), .val .null, .unset] [(.ref vb)])) (st3) ?_
  refine Goes.via (S' := T3.setTop (mkF m 45 #[.val (.ref a1), .val (.ref ca), .val (.int (0 : Int32)), .val (.int (3 : Int32)), .val .null, .val (.ref vb)] [(.int (3 : Int32)), (.ref vb), (.ref a1)])) (fun tz kz => ?_) ?_
  · show Steps p.tables e below (T3.setTop (mkF m 39 #[.val (.ref a1), .val (.ref ca), .val (.int (0 : Int32)), .val (.int (3 : Int32)), .val .null, .unset] [(.ref vb)])) _
    refine XS.astore X3.here hx rfl (hb hby d3_39) rfl rfl (l' := #[.val (.ref a1), .val (.ref ca), .val (.int (0 : Int32)), .val (.int (3 : Int32)), .val .null, .val (.ref vb)]) rfl ?_
    refine XS.aloadN X3.here hx rfl (hb hby d3_41) rfl rfl ?_
    refine XS.aload X3.here hx rfl (hb hby d3_42) rfl rfl ?_
    refine XS.iloadN X3.here hx rfl (hb hby d3_44) rfl ?_
    exact kz
  obtain ⟨_, _, ⟨T4, L4, k4, n4⟩, -, X4, ⟨Lc4, hQ4, l4, y4, z4⟩, st4⟩ := Jvm.LawKit.callS X3 hx (y := (⟨"java/lang/StringUTF16", "coderFromArrayLen", "([BI)B"⟩ : MethodName)) hown (mvT hZ (w_ hw 28 rfl)) (mvT hZ (w_ hw 29 rfl)) (mvT hZ (w_ hw 22 rfl)) (mvT hZ (w_ hw 30 rfl)) (by decide) (backOf (W := 1) (rcc_3 l Z a0 hw [] vb kb _ T3.heap n0 (Nat.le_trans Z0 K3.1) B3) hZ (w_ hw 30 rfl) (w_ hw 22 rfl) (by decide) (by decide)) (g := (mkF m 45 #[.val (.ref a1), .val (.ref ca), .val (.int (0 : Int32)), .val (.int (3 : Int32)), .val .null, .val (.ref vb)] [(.int (3 : Int32)), (.ref vb), (.ref a1)])) rfl (by rw [hml]; rfl) (argsL := [(.ref vb), (.int (3 : Int32))]) (rest := [(.ref a1)]) (lenOf pd_3 rfl) rfl (by show 2 * 0 + _ ≤ _; exact Nat.le_of_eq rfl) (hb hby d3_45) (fun _ _ => ⟨rfl, rfl, (by decide : 1 + 0 ≤ _), (by decide : 3 + 0 ≤ _)⟩)
  dsimp only [Pt.U, Pt.locs, Pt.cells, Pt.slots] at X4 l4 y4 z4 st4 hQ4
  subst l4 y4 z4
  obtain ⟨rfl, N4, e4⟩ := hQ4
  have Nf4 := Fr.app Nf3 N4
  refine Goes.via (S' := T4.setTop (mkF m 48 #[.val (.ref a1), .val (.ref ca), .val (.int (0 : Int32)), .val (.int (3 : Int32)), .val .null, .val (.ref vb)] [(.int (0 : Int32)), (.ref a1)])) (st4) ?_
  have Ea := E1.keep K3
  have GV := FV.keep K3 nin0
  have GC := FC.keep K3 nin0
  have nb : a1 ≠ vb := Nat.ne_of_lt (Nat.lt_of_lt_of_le E1.lt gv)
  obtain ⟨T5, h5, X5, e5, W5, st5⟩ := putFN X4 hx hZ hown (w_ hw 31 rfl) Via.refl e4 GC Ea (Or.inr ⟨(w_ hw 32 rfl), rfl, hnm⟩) (w_ hw 6 rfl) (ty := .byte) (v' := (.int (nar .byte (0 : Int32)))) (by decide) rfl (fits_nar_byte _) (g := (mkF m 48 #[.val (.ref a1), .val (.ref ca), .val (.int (0 : Int32)), .val (.int (3 : Int32)), .val .null, .val (.ref vb)] [(.int (0 : Int32)), (.ref a1)])) rfl rfl (hb hby d3_48)
  refine Goes.via (S' := T5.setTop (mkF m 51 #[.val (.ref a1), .val (.ref ca), .val (.int (0 : Int32)), .val (.int (3 : Int32)), .val .null, .val (.ref vb)] [])) st5 ?_
  have N5 := Fr.snoc X5 Nf4 g1
  have HC : Fld Z h5 a1 "java/lang/String" "coder" "B" (.int (0 : Int32)) := GC.same W5
  have HV := GV.other W5 (Or.inr (slot_ne (Or.inr (w_ hw 34 rfl)) (Or.inr (w_ hw 32 rfl)) (by decide) (t := (.array .byte)) (t' := .byte) (by decide) (by decide)))
  have Eb := Ea.wr W5
  have Bb := B3.other W5 (Ne.symm nb)
  refine Goes.via (S' := T5.setTop (mkF m 54 #[.val (.ref a1), .val (.ref ca), .val (.int (0 : Int32)), .val (.int (3 : Int32)), .val .null, .val (.ref vb)] [(.ref vb), (.ref a1)])) (fun tz kz => ?_) ?_
  · show Steps p.tables e below (T5.setTop (mkF m 51 #[.val (.ref a1), .val (.ref ca), .val (.int (0 : Int32)), .val (.int (3 : Int32)), .val .null, .val (.ref vb)] [])) _
    refine XS.aloadN X5.here hx rfl (hb hby d3_51) rfl rfl ?_
    refine XS.aload X5.here hx rfl (hb hby d3_52) rfl rfl ?_
    exact kz
  obtain ⟨T6, h6, X6, e6, W6, st6⟩ := putF X5 hx hZ hown (host := "") (Or.inl (w_ hw 33 rfl)) Via.refl e5 HV Eb (Or.inr ⟨(w_ hw 34 rfl), rfl, hnm⟩) (w_ hw 6 rfl) (ty := (.array .byte)) (by decide) rfl rfl (g := (mkF m 54 #[.val (.ref a1), .val (.ref ca), .val (.int (0 : Int32)), .val (.int (3 : Int32)), .val .null, .val (.ref vb)] [(.ref vb), (.ref a1)])) rfl rfl (hb hby d3_54)
  refine Goes.via (S' := T6.setTop (mkF m 57 #[.val (.ref a1), .val (.ref ca), .val (.int (0 : Int32)), .val (.int (3 : Int32)), .val .null, .val (.ref vb)] [])) st6 ?_
  have N6 := Fr.snoc X6 N5 g1
  have JV := HV.same W6
  have JC := HC.other W6 (Or.inr (slot_ne (Or.inr (w_ hw 32 rfl)) (Or.inr (w_ hw 34 rfl)) (by decide) (t := .byte) (t' := (.array .byte)) (by decide) (by decide)))
  have Ec := Eb.wr W6
  have Bc := Bb.other W6 (Ne.symm nb)
  have Kq : Keep h0 h6 [a1] := (((Keep.refl h0 [a1]).trans K3 all0).wr W5 (Or.inl (List.mem_singleton.mpr rfl))).wr W6 (Or.inl (List.mem_singleton.mpr rfl))
  exact Goes.retV X6 hx Bd.notSynchronized Bd.returns (hb hby d3_57) (Nat.le_of_ble_eq_true rfl) (Nat.le_of_ble_eq_true rfl) (by rw [e6]; exact ⟨rfl, N6, Kq, vb, kb, ⟨Ec, JC, JV, Bc⟩, gv⟩)
def Q_rn1_3 (Z : State) (a1 : Addr) (ca : Addr) (cs : Int32) (ka : ClassId) (c0 c1 c2 : Int32) (h0 : Heap) (n0 : Nat) : Option Value → Heap → List Loc → Prop := fun v h L => v = none ∧ Fr n0 L ∧ Keep h0 h [a1] ∧ ∃ b k, own_Str Z h a1 b k (3 : Int32) [.int (own_by c0), .int (own_by c1), .int (own_by c2)] ∧ @LE.le Nat _ h0.size b
set_option maxRecDepth 65536 in
set_option maxHeartbeats 40000000 in
theorem rn1_3 (l : Launch) (Z : State) (a0 : Array Value) (hw : ∀ d ∈ tables_1, d.before a0 Z = true) (ws : List Jvm.Cond) (a1 : Addr) (ca : Addr) (cs : Int32) (ka : ClassId) (c0 c1 c2 : Int32) (h0 : Heap) (n0 : Nat) (Z0 : n0 ≤ h0.size) (SC : Sta Z Z.heap "java/lang/String" "COMPACT_STRINGS" "Z" (.int cs)) (hcs : ¬ cs = (0 : Int32)) (O0 : Old Z n0 h0) (FV : Fld Z h0 a1 "java/lang/String" "value" "[B" .null) (FC : Fld Z h0 a1 "java/lang/String" "coder" "B" (.int (0 : Int32))) (E1 : Exa Z h0 a1 "java/lang/String") (g1 : n0 ≤ a1) (C0 : Arv Z h0 ca ka .char (3 : Int32) [.int c0, .int c1, .int c2] (.int 0)) (s0 : ¬ (255 : Int32) < c0) (s1 : ¬ (255 : Int32) < c1) (s2 : ¬ (255 : Int32) < c2) :
    own_M l Z (⟨"java/lang/String", "<init>", "([C)V"⟩ : MethodName) (Jvm.Cond.code (⟨"java/lang/String", "<init>", "([C)V"⟩ : MethodName) jdk_42_method_3_code 2 none) ws ({ frames := 3, cells := 1, slots := 3, locals := 60 } : Room) #[(.ref a1), (.ref ca)] h0 (Q_rn1_3 Z a1 ca cs ka c0 c1 c2 h0 n0) := by
  refine MetFree.of_bodySF (plainFor_of_name pn_2) hisR ?_
  intro p e s m args below meth c s₁ Bd hml0 hP hK
  obtain ⟨rfl, hZ, hh⟩ := hP
  have hx := Bd.exec
  have hby := Bd.bytes
  have hml : c.maxLocals = 2 := hml0
  have hown : s.vm.findClass "java/lang/String" = some m.cls := findClass_of_methodNamed Bd.named
  have hnm := (name_of_methodNamed Bd.named Bd.method).1
  have X0 : Stand p l e ({ frames := 3, cells := 1, slots := 3, locals := 60 } : Room) s m #[(.ref a1), (.ref ca)] below meth c s₁ [] 0 0 := Stand.of_body Bd
  have e0 : s₁.heap = h0 := by rw [← hh, Bd.state]; rfl
  have N0 := Fr.nil n0
  show Goes p e below (Fin s (Q_rn1_3 Z a1 ca cs ka c0 c1 c2 h0 n0) ({ frames := 3, cells := 1, slots := 3, locals := 60 } : Room).cells ({ frames := 3, cells := 1, slots := 3, locals := 60 } : Room).slots) _
  refine Goes.via (S' := s₁.setTop (mkF m 0 #[.val (.ref a1), .val (.ref ca)] [])) (fun tz kz => castTop (ef_2 m a1 ca ) kz) ?_
  refine Goes.via (S' := s₁.setTop (mkF m 4 #[.val (.ref a1), .val (.ref ca)] [(.ref ca), (.int (0 : Int32)), (.ref ca), (.ref a1)])) (fun tz kz => ?_) ?_
  · show Steps p.tables e below (s₁.setTop (mkF m 0 #[.val (.ref a1), .val (.ref ca)] [])) _
    refine XS.aloadN X0.here hx rfl (hb hby d2_0) rfl rfl ?_
    refine XS.aloadN X0.here hx rfl (hb hby d2_1) rfl rfl ?_
    refine XS.iconst X0.here hx rfl (hb hby d2_2) ?_
    refine XS.aloadN X0.here hx rfl (hb hby d2_3) rfl rfl ?_
    exact kz
  obtain ⟨cl1, Ar1, q1, Sz1, Nn1, Hs1, G1⟩ := (id C0)
  refine Goes.via (S' := s₁.setTop (mkF m 6 #[.val (.ref a1), .val (.ref ca)] [.null, (.int (3 : Int32)), (.int (0 : Int32)), (.ref ca), (.ref a1)])) (fun tz kz => ?_) ?_
  · show Steps p.tables e below (s₁.setTop (mkF m 4 #[.val (.ref a1), .val (.ref ca)] [(.ref ca), (.int (0 : Int32)), (.ref ca), (.ref a1)])) _
    refine X0.arraylength hx (by rw [e0]; exact Ar1.1) (State.isArrayOf_alike hZ.alike Ar1.2.1) (g := (mkF m 4 #[.val (.ref a1), .val (.ref ca)] [(.ref ca), (.int (0 : Int32)), (.ref ca), (.ref a1)])) rfl rfl (hb hby d2_4) _ ?_
    rw [len_of Sz1 Nn1]
    refine XS.aconstNull X0.here hx rfl (hb hby d2_5) ?_
    exact kz
  obtain ⟨_, _, ⟨T2, L2, k2, n2⟩, -, X2, ⟨Lc2, hQ2, l2, y2, z2⟩, st2⟩ := X0.specialBack hx (y := (⟨"java/lang/String", "<init>", "([CIILjava/lang/Void;)V"⟩ : MethodName)) rfl hown (mvT hZ (w_ hw 12 rfl)) (mvT hZ (w_ hw 13 rfl)) (mvT hZ (w_ hw 15 rfl)) (by decide) (backOf (W := 0) (rn4_3 l Z a0 hw [] a1 ca cs ka c0 c1 c2 h0 n0 Z0 SC hcs O0 FV FC E1 g1 C0 s0 s1 s2) hZ (w_ hw 15 rfl) (w_ hw 7 rfl) (by decide) (by decide)) (g := (mkF m 6 #[.val (.ref a1), .val (.ref ca)] [.null, (.int (3 : Int32)), (.int (0 : Int32)), (.ref ca), (.ref a1)])) rfl (by rw [hml]; rfl) (Steps.refl _) (a := a1) (argsL := [(.ref ca), (.int (0 : Int32)), (.int (3 : Int32)), .null]) (rest := []) (lenOf pd_0 rfl) rfl (by show 2 * 0 + _ ≤ _; exact Nat.le_of_eq rfl) (hb hby d2_6) (fun _ _ => ⟨rfl, e0, (by decide : 0 + 1 ≤ _), (by decide : 0 + 3 ≤ _)⟩)
  dsimp only [Pt.U, Pt.locs, Pt.cells, Pt.slots] at X2 l2 y2 z2 st2 hQ2
  subst l2 y2 z2
  obtain ⟨rfl, N2, K2, vb, kb, S2, gv⟩ := hQ2
  have Nf2 := Fr.app N0 N2
  refine Goes.via (S' := T2.setTop (mkF m 9 #[.val (.ref a1), .val (.ref ca)] [])) (fun _ kz => st2.trans kz) ?_
  exact Goes.retV X2 hx Bd.notSynchronized Bd.returns (hb hby d2_9) (Nat.le_of_ble_eq_true rfl) (Nat.le_of_ble_eq_true rfl) ⟨rfl, Nf2, K2, vb, kb, S2, gv⟩
theorem d1_0 : decode method_3_code 0 = .ok (.iload_n 0, 1) := by decide +kernel
theorem d1_1 : decode method_3_code 1 = .ok (.ifCond .ne 14, 3) := by decide +kernel
theorem d1_4 : decode method_3_code 4 = .ok (.new 28, 3) := by decide +kernel
theorem d1_7 : decode method_3_code 7 = .ok (.dup, 1) := by decide +kernel
theorem d1_8 : decode method_3_code 8 = .ok (.iconst 0, 1) := by decide +kernel
theorem d1_9 : decode method_3_code 9 = .ok (.newarray .char, 2) := by decide +kernel
theorem d1_11 : decode method_3_code 11 = .ok (.invokespecial 30, 3) := by decide +kernel
theorem d1_14 : decode method_3_code 14 = .ok (.areturn, 1) := by decide +kernel
theorem d1_15 : decode method_3_code 15 = .ok (.iload_n 0, 1) := by decide +kernel
theorem d1_16 : decode method_3_code 16 = .ok (.iconst 1, 1) := by decide +kernel
theorem d1_17 : decode method_3_code 17 = .ok (.if_icmp .ne 18, 3) := by decide +kernel
theorem d1_20 : decode method_3_code 20 = .ok (.new 28, 3) := by decide +kernel
theorem d1_23 : decode method_3_code 23 = .ok (.dup, 1) := by decide +kernel
theorem d1_24 : decode method_3_code 24 = .ok (.iconst 1, 1) := by decide +kernel
theorem d1_25 : decode method_3_code 25 = .ok (.newarray .char, 2) := by decide +kernel
theorem d1_27 : decode method_3_code 27 = .ok (.dup, 1) := by decide +kernel
theorem d1_28 : decode method_3_code 28 = .ok (.iconst 0, 1) := by decide +kernel
theorem d1_29 : decode method_3_code 29 = .ok (.iload_n 1, 1) := by decide +kernel
theorem d1_30 : decode method_3_code 30 = .ok (.castore, 1) := by decide +kernel
theorem d1_31 : decode method_3_code 31 = .ok (.invokespecial 30, 3) := by decide +kernel
theorem d1_34 : decode method_3_code 34 = .ok (.areturn, 1) := by decide +kernel
theorem d1_35 : decode method_3_code 35 = .ok (.iload_n 0, 1) := by decide +kernel
theorem d1_36 : decode method_3_code 36 = .ok (.iconst 2, 1) := by decide +kernel
theorem d1_37 : decode method_3_code 37 = .ok (.if_icmp .ne 22, 3) := by decide +kernel
theorem d1_40 : decode method_3_code 40 = .ok (.new 28, 3) := by decide +kernel
theorem d1_43 : decode method_3_code 43 = .ok (.dup, 1) := by decide +kernel
theorem d1_44 : decode method_3_code 44 = .ok (.iconst 2, 1) := by decide +kernel
theorem d1_45 : decode method_3_code 45 = .ok (.newarray .char, 2) := by decide +kernel
theorem d1_47 : decode method_3_code 47 = .ok (.dup, 1) := by decide +kernel
theorem d1_48 : decode method_3_code 48 = .ok (.iconst 0, 1) := by decide +kernel
theorem d1_49 : decode method_3_code 49 = .ok (.iload_n 1, 1) := by decide +kernel
theorem d1_50 : decode method_3_code 50 = .ok (.castore, 1) := by decide +kernel
theorem d1_51 : decode method_3_code 51 = .ok (.dup, 1) := by decide +kernel
theorem d1_52 : decode method_3_code 52 = .ok (.iconst 1, 1) := by decide +kernel
theorem d1_53 : decode method_3_code 53 = .ok (.iload_n 2, 1) := by decide +kernel
theorem d1_54 : decode method_3_code 54 = .ok (.castore, 1) := by decide +kernel
theorem d1_55 : decode method_3_code 55 = .ok (.invokespecial 30, 3) := by decide +kernel
theorem d1_58 : decode method_3_code 58 = .ok (.areturn, 1) := by decide +kernel
theorem d1_59 : decode method_3_code 59 = .ok (.new 28, 3) := by decide +kernel
theorem d1_62 : decode method_3_code 62 = .ok (.dup, 1) := by decide +kernel
theorem d1_63 : decode method_3_code 63 = .ok (.iconst 3, 1) := by decide +kernel
theorem d1_64 : decode method_3_code 64 = .ok (.newarray .char, 2) := by decide +kernel
theorem d1_66 : decode method_3_code 66 = .ok (.dup, 1) := by decide +kernel
theorem d1_67 : decode method_3_code 67 = .ok (.iconst 0, 1) := by decide +kernel
theorem d1_68 : decode method_3_code 68 = .ok (.iload_n 1, 1) := by decide +kernel
theorem d1_69 : decode method_3_code 69 = .ok (.castore, 1) := by decide +kernel
theorem d1_70 : decode method_3_code 70 = .ok (.dup, 1) := by decide +kernel
theorem d1_71 : decode method_3_code 71 = .ok (.iconst 1, 1) := by decide +kernel
theorem d1_72 : decode method_3_code 72 = .ok (.iload_n 2, 1) := by decide +kernel
theorem d1_73 : decode method_3_code 73 = .ok (.castore, 1) := by decide +kernel
theorem d1_74 : decode method_3_code 74 = .ok (.dup, 1) := by decide +kernel
theorem d1_75 : decode method_3_code 75 = .ok (.iconst 2, 1) := by decide +kernel
theorem d1_76 : decode method_3_code 76 = .ok (.iload_n 3, 1) := by decide +kernel
theorem d1_77 : decode method_3_code 77 = .ok (.castore, 1) := by decide +kernel
theorem d1_78 : decode method_3_code 78 = .ok (.invokespecial 30, 3) := by decide +kernel
theorem d1_81 : decode method_3_code 81 = .ok (.areturn, 1) := by decide +kernel
theorem pn_1 : plainName "com/example/loopwright/loopwright/TokenIsPinLaw" = true := by first | (simp [plainName, overriddenIn]; done) | decide +kernel
theorem ef_1 (m : MethodId) (x0 : Int32) (x1 : Int32) (x2 : Int32) (x3 : Int32) : entryFrame m #[(.int x0), (.int x1), (.int x2), (.int x3)] 4 = mkF m 0 #[.val (.int x0), .val (.int x1), .val (.int x2), .val (.int x3)] [] := by first | (simp [entryFrame, mkF, argsToLocals, Value.category]; done) | rfl
def Q_rs_0 (Z : State) (c0 : Int32) (c1 : Int32) (c2 : Int32) (cs : Int32) (h0 : Heap) (n0 : Nat) : Option Value → Heap → List Loc → Prop := fun v h L => ∃ a b k, v = some (.ref a) ∧ Fr n0 L ∧ Keep h0 h [] ∧ own_Str Z h a b k (0 : Int32) [] ∧ @LE.le Nat _ h0.size a
set_option maxRecDepth 65536 in
set_option maxHeartbeats 40000000 in
theorem rs_0 (l : Launch) (Z : State) (a0 : Array Value) (hw : ∀ d ∈ tables_1, d.before a0 Z = true) (ws : List Jvm.Cond) (c0 : Int32) (c1 : Int32) (c2 : Int32) (cs : Int32) (h0 : Heap) (n0 : Nat) (Z0 : n0 ≤ h0.size) (SC : Sta Z Z.heap "java/lang/String" "COMPACT_STRINGS" "Z" (.int cs)) (hcs : ¬ cs = (0 : Int32)) (O0 : Old Z n0 h0) :
    MetFree l (⟨"com/example/loopwright/loopwright/TokenIsPinLaw", "str", "(ICCC)Ljava/lang/String;"⟩ : MethodName) (head1 (Jvm.Cond.code (⟨"com/example/loopwright/loopwright/TokenIsPinLaw", "str", "(ICCC)Ljava/lang/String;"⟩ : MethodName) method_3_code 4 (some (.object "java/lang/String")) :: ws) ({ frames := 4, cells := 4, slots := 16, locals := 90 } : Room)) (fun a U => a = #[(.int (0 : Int32)), (.int c0), (.int c1), (.int c2)] ∧ Z.Warmed39 U.vm ∧ U.heap = h0 ∧ CHv Z consts_1 U.vm h0) (fun _ _ _ _ _ => True) (fun _ U oo U' => ∃ vv LL, oo = .returned vv ∧ (Q_rs_0 Z c0 c1 c2 cs h0 n0) vv U'.heap LL ∧ CHr Z consts_1 U.vm U.heap U'.vm U'.heap ∧ ReturnedEndW U oo U' LL ({ frames := 4, cells := 4, slots := 16, locals := 90 } : Room).cells ({ frames := 4, cells := 4, slots := 16, locals := 90 } : Room).slots) := by
  refine MetFree.of_bodySF (plainFor_of_name pn_1) hisR ?_
  intro p e s m args below meth c s₁ Bd hml0 hP hK
  obtain ⟨rfl, hZ, hh, hH⟩ := hP
  have hx := Bd.exec
  have hby := Bd.bytes
  have hml : c.maxLocals = 4 := hml0
  have hown : s.vm.findClass "com/example/loopwright/loopwright/TokenIsPinLaw" = some m.cls := findClass_of_methodNamed Bd.named
  have hnm := (name_of_methodNamed Bd.named Bd.method).1
  have X0 : Stand p l e ({ frames := 4, cells := 4, slots := 16, locals := 90 } : Room) s m #[(.int (0 : Int32)), (.int c0), (.int c1), (.int c2)] below meth c s₁ [] 0 0 := Stand.of_body Bd
  have e0 : s₁.heap = h0 := by rw [← hh, Bd.state]; rfl
  have N0 := Fr.nil n0
  have hC0 : CHr Z consts_1 s.vm s.heap s.vm h0 := by rw [hh]; exact CHr.refl hH
  have hEL := own_EW hw
  show Goes p e below (FinH s Z consts_1 (Q_rs_0 Z c0 c1 c2 cs h0 n0) ({ frames := 4, cells := 4, slots := 16, locals := 90 } : Room).cells ({ frames := 4, cells := 4, slots := 16, locals := 90 } : Room).slots) _
  refine Goes.via (S' := s₁.setTop (mkF m 0 #[.val (.int (0 : Int32)), .val (.int c0), .val (.int c1), .val (.int c2)] [])) (fun tz kz => castTop (ef_1 m (0 : Int32) c0 c1 c2 ) kz) ?_
  refine Goes.via (S' := s₁.setTop (mkF m 4 #[.val (.int (0 : Int32)), .val (.int c0), .val (.int c1), .val (.int c2)] [])) (fun tz kz => ?_) ?_
  · show Steps p.tables e below (s₁.setTop (mkF m 0 #[.val (.int (0 : Int32)), .val (.int c0), .val (.int c1), .val (.int c2)] [])) _
    refine XS.iloadN X0.here hx rfl (hb hby d1_0) rfl ?_
    refine XS.ifNo X0.here hx rfl (hb hby d1_1) rfl ((if0 _ _).trans (teq (by decide)).2) ?_
    exact kz
  obtain ⟨T1, h1, X1, e1, E1, A1, D1, -, st1⟩ := newO X0 hx hZ hown (w_ hw 5 rfl) (w_ hw 6 rfl) (w_ hw 7 rfl) e0 (g := (mkF m 4 #[.val (.int (0 : Int32)), .val (.int c0), .val (.int c1), .val (.int c2)] [])) rfl (hb hby d1_4) (by decide) (by decide)
  obtain ⟨b1, g1⟩ : ∃ z, z = h0.size := ⟨_, rfl⟩
  rw [← g1] at A1 D1 st1
  refine Goes.via (S' := T1.setTop (mkF m 7 #[.val (.int (0 : Int32)), .val (.int c0), .val (.int c1), .val (.int c2)] [(.ref b1)])) st1 ?_
  have FV : Fld Z h1 b1 "java/lang/String" "value" "[B" .null := D1 (Or.inr (w_ hw 34 rfl)) (ty := (.array .byte)) (by decide)
  have FC : Fld Z h1 b1 "java/lang/String" "coder" "B" (.int (0 : Int32)) := D1 (Or.inr (w_ hw 32 rfl)) (ty := .byte) (by decide)
  have hC2 := hC0.trans (CHr.ext E1 hC0.1)
  have hk3 := Nat.le_trans (Nat.zero_le _) E1.1
  have K1 := (Keep.refl h0 []).ext E1
  have ga : n0 ≤ b1 := Nat.le_trans Z0 (Nat.le_of_eq g1.symm)
  refine Goes.via (S' := T1.setTop (mkF m 9 #[.val (.int (0 : Int32)), .val (.int c0), .val (.int c1), .val (.int c2)] [(.int (0 : Int32)), (.ref b1), (.ref b1)])) (fun tz kz => ?_) ?_
  · show Steps p.tables e below (T1.setTop (mkF m 7 #[.val (.int (0 : Int32)), .val (.int c0), .val (.int c1), .val (.int c2)] [(.ref b1)])) _
    refine XS.dup X1.here hx rfl (hb hby d1_7) rfl rfl ?_
    refine XS.iconst X1.here hx rfl (hb hby d1_8) ?_
    exact kz
  obtain ⟨T4, h4, k4, X4, e4, E4, A4, st4⟩ := newP X1 hx hZ (w_ hw 8 rfl) e1 (g := (mkF m 9 #[.val (.int (0 : Int32)), .val (.int c0), .val (.int c1), .val (.int c2)] [(.int (0 : Int32)), (.ref b1), (.ref b1)])) rfl (hb hby d1_9) rfl (by decide) (cap := 0) (by decide) (by decide) (by decide) (by decide)
  obtain ⟨b4, g4⟩ : ∃ z, z = h1.size := ⟨_, rfl⟩
  rw [← g4] at A4 st4
  refine Goes.via (S' := T4.setTop (mkF m 11 #[.val (.int (0 : Int32)), .val (.int c0), .val (.int c1), .val (.int c2)] [(.ref b4), (.ref b1), (.ref b1)])) st4 ?_
  have C4 : Arv Z h4 b4 k4 .char (0 : Int32) [] (.int 0) := Arv.new A4 (by decide)
  have hC5 := hC2.trans (CHr.ext E4 hC2.1)
  have hk6 := Nat.le_trans hk3 E4.1
  have K4 := K1.ext E4
  have FV := FV.ext E4
  have FC := FC.ext E4
  have Ea := A1.ext E4
  have nab : b1 ≠ b4 := adr_ne A1.lt g4 (Nat.le_refl _)
  have gc : @LE.le Nat _ h0.size b4 := Nat.le_trans E1.1 (Nat.le_of_eq g4.symm)
  obtain ⟨_, _, ⟨T7, L7, k7, n7⟩, -, X7, hs7, gs7, ⟨Lc7, hQ7, l7, y7, z7, hc7⟩, st7⟩ := Stand.specialBackS (show Stand p l e _ (s.setVm s.vm) m _ below meth c _ _ _ _ from X4) hx (y := (⟨"java/lang/String", "<init>", "([C)V"⟩ : MethodName)) rfl hown (mvT hZ (w_ hw 9 rfl)) (mvT hZ (w_ hw 10 rfl)) (mvT hZ (w_ hw 11 rfl)) (by decide) (backOfSH (s := s) (vm0 := s.vm) (W := 1) (rn1_0 l Z a0 hw [] b1 b4 k4 _ h4 n0 (Nat.le_trans Z0 K4.1) FV FC Ea ga C4) hZ (w_ hw 11 rfl) (w_ hw 7 rfl) (by decide) (by decide) hEL hC5.1) (g := (mkF m 11 #[.val (.int (0 : Int32)), .val (.int c0), .val (.int c1), .val (.int c2)] [(.ref b4), (.ref b1), (.ref b1)])) rfl (by rw [hml]; rfl) (Steps.refl _) (a := b1) (argsL := [(.ref b4)]) (rest := [(.ref b1)]) (lenOf pd_4 rfl) rfl (by show 2 * 0 + _ ≤ _; exact Nat.le_of_eq rfl) (hb hby d1_11) (fun _ _ => ⟨rfl, e4, (by decide : 2 + 2 ≤ _), (by decide : 4 + 4 ≤ _)⟩)
  dsimp only [Pt.U, Pt.locs, Pt.cells, Pt.slots] at X7 l7 y7 z7 st7 hQ7 hs7 gs7 hc7
  subst l7 y7 z7
  obtain ⟨rfl, N7, K7, vb, kb, S7⟩ := hQ7
  rw [e4] at gs7
  have hS7 : s.Since T7.vm T7.heap.size := own_fold ((State.WarmedH.refl s).since 0) hk6 hs7 gs7
  have hC7 := hC5.trans hc7
  have hZ : Z.Warmed39 (s.setVm T7.vm).vm := State.Warmed39.trans (t := s.setVm s.vm) hZ hs7.1
  have hown : (s.setVm T7.vm).vm.findClass "com/example/loopwright/loopwright/TokenIsPinLaw" = some m.cls := by rw [show (s.setVm T7.vm).vm = T7.vm from rfl, hs7.1.alike.findClass]; exact hown
  have Nf7 := Fr.app N0 N7
  refine Goes.via (S' := T7.setTop (mkF m 14 #[.val (.int (0 : Int32)), .val (.int c0), .val (.int c1), .val (.int c2)] [(.ref b1)])) (fun _ kz => st7.trans kz) ?_
  have Kf := K4.trans K7 (allS (Or.inr (Nat.le_of_eq g1.symm)) all0)
  exact Goes.retOH (s := s) (vm1 := T7.vm) X7 hx Bd.notSynchronized hS7 (Nat.le_refl _) rfl hZ hEL hC7 Bd.returns rfl (Or.inr (Or.inr (Or.inr (Or.inr ⟨rfl, rfl, rfl⟩)))) (hb hby d1_14) (Nat.le_of_ble_eq_true rfl) (Nat.le_of_ble_eq_true rfl) ⟨b1, vb, kb, rfl, Nf7, Kf, S7, Nat.le_of_eq g1.symm⟩
def Q_rs_1 (Z : State) (c0 : Int32) (c1 : Int32) (c2 : Int32) (cs : Int32) (h0 : Heap) (n0 : Nat) : Option Value → Heap → List Loc → Prop := fun v h L => ∃ a b k, v = some (.ref a) ∧ Fr n0 L ∧ Keep h0 h [] ∧ own_Str Z h a b k (1 : Int32) [.int (own_by c0)] ∧ @LE.le Nat _ h0.size a
set_option maxRecDepth 65536 in
set_option maxHeartbeats 40000000 in
theorem rs_1 (l : Launch) (Z : State) (a0 : Array Value) (hw : ∀ d ∈ tables_1, d.before a0 Z = true) (ws : List Jvm.Cond) (c0 : Int32) (c1 : Int32) (c2 : Int32) (cs : Int32) (h0 : Heap) (n0 : Nat) (Z0 : n0 ≤ h0.size) (SC : Sta Z Z.heap "java/lang/String" "COMPACT_STRINGS" "Z" (.int cs)) (hcs : ¬ cs = (0 : Int32)) (O0 : Old Z n0 h0) (z0 : nar .char c0 = c0) (s0 : ¬ (255 : Int32) < c0) :
    MetFree l (⟨"com/example/loopwright/loopwright/TokenIsPinLaw", "str", "(ICCC)Ljava/lang/String;"⟩ : MethodName) (head1 (Jvm.Cond.code (⟨"com/example/loopwright/loopwright/TokenIsPinLaw", "str", "(ICCC)Ljava/lang/String;"⟩ : MethodName) method_3_code 4 (some (.object "java/lang/String")) :: ws) ({ frames := 4, cells := 4, slots := 16, locals := 90 } : Room)) (fun a U => a = #[(.int (1 : Int32)), (.int c0), (.int c1), (.int c2)] ∧ Z.Warmed39 U.vm ∧ U.heap = h0 ∧ CHv Z consts_1 U.vm h0) (fun _ _ _ _ _ => True) (fun _ U oo U' => ∃ vv LL, oo = .returned vv ∧ (Q_rs_1 Z c0 c1 c2 cs h0 n0) vv U'.heap LL ∧ CHr Z consts_1 U.vm U.heap U'.vm U'.heap ∧ ReturnedEndW U oo U' LL ({ frames := 4, cells := 4, slots := 16, locals := 90 } : Room).cells ({ frames := 4, cells := 4, slots := 16, locals := 90 } : Room).slots) := by
  refine MetFree.of_bodySF (plainFor_of_name pn_1) hisR ?_
  intro p e s m args below meth c s₁ Bd hml0 hP hK
  obtain ⟨rfl, hZ, hh, hH⟩ := hP
  have hx := Bd.exec
  have hby := Bd.bytes
  have hml : c.maxLocals = 4 := hml0
  have hown : s.vm.findClass "com/example/loopwright/loopwright/TokenIsPinLaw" = some m.cls := findClass_of_methodNamed Bd.named
  have hnm := (name_of_methodNamed Bd.named Bd.method).1
  have X0 : Stand p l e ({ frames := 4, cells := 4, slots := 16, locals := 90 } : Room) s m #[(.int (1 : Int32)), (.int c0), (.int c1), (.int c2)] below meth c s₁ [] 0 0 := Stand.of_body Bd
  have e0 : s₁.heap = h0 := by rw [← hh, Bd.state]; rfl
  have N0 := Fr.nil n0
  have hC0 : CHr Z consts_1 s.vm s.heap s.vm h0 := by rw [hh]; exact CHr.refl hH
  have hEL := own_EW hw
  show Goes p e below (FinH s Z consts_1 (Q_rs_1 Z c0 c1 c2 cs h0 n0) ({ frames := 4, cells := 4, slots := 16, locals := 90 } : Room).cells ({ frames := 4, cells := 4, slots := 16, locals := 90 } : Room).slots) _
  refine Goes.via (S' := s₁.setTop (mkF m 0 #[.val (.int (1 : Int32)), .val (.int c0), .val (.int c1), .val (.int c2)] [])) (fun tz kz => castTop (ef_1 m (1 : Int32) c0 c1 c2 ) kz) ?_
  refine Goes.via (S' := s₁.setTop (mkF m 20 #[.val (.int (1 : Int32)), .val (.int c0), .val (.int c1), .val (.int c2)] [])) (fun tz kz => ?_) ?_
  · show Steps p.tables e below (s₁.setTop (mkF m 0 #[.val (.int (1 : Int32)), .val (.int c0), .val (.int c1), .val (.int c2)] [])) _
    refine XS.iloadN X0.here hx rfl (hb hby d1_0) rfl ?_
    refine XS.ifYes X0.here hx rfl (pc0 := 1) (pc' := 15) rfl (hb hby d1_1) rfl ((if0 _ _).trans (feq (by decide)).2) (by decide) (by decide) ?_
    refine XS.iloadN X0.here hx rfl (hb hby d1_15) rfl ?_
    refine XS.iconst X0.here hx rfl (hb hby d1_16) ?_
    show Steps p.tables e below (s₁.setTop (mkF m 17 #[.val (.int (1 : Int32)), .val (.int c0), .val (.int c1), .val (.int c2)] [(.int (1 : Int32)), (.int (1 : Int32))])) _
    refine XS.icmpNo X0.here hx rfl (hb hby d1_17) rfl (teq (by decide)).2 ?_
    exact kz
  obtain ⟨T1, h1, X1, e1, E1, A1, D1, -, st1⟩ := newO X0 hx hZ hown (w_ hw 5 rfl) (w_ hw 6 rfl) (w_ hw 7 rfl) e0 (g := (mkF m 20 #[.val (.int (1 : Int32)), .val (.int c0), .val (.int c1), .val (.int c2)] [])) rfl (hb hby d1_20) (by decide) (by decide)
  obtain ⟨b1, g1⟩ : ∃ z, z = h0.size := ⟨_, rfl⟩
  rw [← g1] at A1 D1 st1
  refine Goes.via (S' := T1.setTop (mkF m 23 #[.val (.int (1 : Int32)), .val (.int c0), .val (.int c1), .val (.int c2)] [(.ref b1)])) st1 ?_
  have FV : Fld Z h1 b1 "java/lang/String" "value" "[B" .null := D1 (Or.inr (w_ hw 34 rfl)) (ty := (.array .byte)) (by decide)
  have FC : Fld Z h1 b1 "java/lang/String" "coder" "B" (.int (0 : Int32)) := D1 (Or.inr (w_ hw 32 rfl)) (ty := .byte) (by decide)
  have K1 := (Keep.refl h0 []).ext E1
  have ga : n0 ≤ b1 := Nat.le_trans Z0 (Nat.le_of_eq g1.symm)
  refine Goes.via (S' := T1.setTop (mkF m 25 #[.val (.int (1 : Int32)), .val (.int c0), .val (.int c1), .val (.int c2)] [(.int (1 : Int32)), (.ref b1), (.ref b1)])) (fun tz kz => ?_) ?_
  · show Steps p.tables e below (T1.setTop (mkF m 23 #[.val (.int (1 : Int32)), .val (.int c0), .val (.int c1), .val (.int c2)] [(.ref b1)])) _
    refine XS.dup X1.here hx rfl (hb hby d1_23) rfl rfl ?_
    refine XS.iconst X1.here hx rfl (hb hby d1_24) ?_
    exact kz
  obtain ⟨T2, h2, k2, X2, e2, E2, A2, st2⟩ := newP X1 hx hZ (w_ hw 8 rfl) e1 (g := (mkF m 25 #[.val (.int (1 : Int32)), .val (.int c0), .val (.int c1), .val (.int c2)] [(.int (1 : Int32)), (.ref b1), (.ref b1)])) rfl (hb hby d1_25) rfl (by decide) (cap := 1) (by decide) (by decide) (by decide) (by decide)
  obtain ⟨b2, g2⟩ : ∃ z, z = h1.size := ⟨_, rfl⟩
  rw [← g2] at A2 st2
  refine Goes.via (S' := T2.setTop (mkF m 27 #[.val (.int (1 : Int32)), .val (.int c0), .val (.int c1), .val (.int c2)] [(.ref b2), (.ref b1), (.ref b1)])) st2 ?_
  have C2 : Arv Z h2 b2 k2 .char (1 : Int32) [.int 0] (.int 0) := (Arv.new A2 (by decide)).pad (pad_rep [] (.int 0) 1)
  have K2 := K1.ext E2
  have FV := FV.ext E2
  have FC := FC.ext E2
  have Ea := A1.ext E2
  have nab : b1 ≠ b2 := adr_ne A1.lt g2 (Nat.le_refl _)
  have gc : @LE.le Nat _ h0.size b2 := Nat.le_trans E1.1 (Nat.le_of_eq g2.symm)
  refine Goes.via (S' := T2.setTop (mkF m 30 #[.val (.int (1 : Int32)), .val (.int c0), .val (.int c1), .val (.int c2)] [(.int c0), (.int (0 : Int32)), (.ref b2), (.ref b2), (.ref b1), (.ref b1)])) (fun tz kz => ?_) ?_
  · show Steps p.tables e below (T2.setTop (mkF m 27 #[.val (.int (1 : Int32)), .val (.int c0), .val (.int c1), .val (.int c2)] [(.ref b2), (.ref b1), (.ref b1)])) _
    refine XS.dup X2.here hx rfl (hb hby d1_27) rfl rfl ?_
    refine XS.iconst X2.here hx rfl (hb hby d1_28) ?_
    refine XS.iloadN X2.here hx rfl (hb hby d1_29) rfl ?_
    exact kz
  obtain ⟨cl3, Ar3, q3, Sz3, Nn3, Hs3, G3⟩ := (id C2)
  obtain ⟨T4, h4, X4, e4, W4, st4⟩ := stC X2 hx hZ e2 Ar3 (j := (0 : Int32)) (inb_of Sz3 ⟨by decide, by decide⟩) (g := (mkF m 30 #[.val (.int (1 : Int32)), .val (.int c0), .val (.int c1), .val (.int c2)] [(.int c0), (.int (0 : Int32)), (.ref b2), (.ref b2), (.ref b1), (.ref b1)])) rfl rfl (hb hby d1_30)
  refine Goes.via (S' := T4.setTop (mkF m 31 #[.val (.int (1 : Int32)), .val (.int c0), .val (.int c1), .val (.int c2)] [(.ref b2), (.ref b1), (.ref b1)])) st4 ?_
  have N4 := Fr.snoc X4 N0 (Nat.le_trans Z0 gc)
  have C4 := Arv.set Ar3 q3 Sz3 Nn3 Hs3 G3 (fits_nar_char _) W4 0 rfl (Nat.le_of_ble_eq_true rfl)
  rw [z0] at C4
  have FV := FV.other W4 (Or.inl nab)
  have FC := FC.other W4 (Or.inl nab)
  have Ea := Ea.wr W4
  have K4 := K2.wr W4 (Or.inr gc)
  obtain ⟨_, _, ⟨T5, L5, k5, n5⟩, -, X5, ⟨Lc5, hQ5, l5, y5, z5⟩, st5⟩ := X4.specialBack hx (y := (⟨"java/lang/String", "<init>", "([C)V"⟩ : MethodName)) rfl hown (mvT hZ (w_ hw 9 rfl)) (mvT hZ (w_ hw 10 rfl)) (mvT hZ (w_ hw 11 rfl)) (by decide) (backOf (W := 1) (rn1_1 l Z a0 hw [] b1 b2 cs k2 c0 h4 n0 (Nat.le_trans Z0 K4.1) SC hcs (O0.keep K4 (fun _ q => absurd q List.not_mem_nil)) FV FC Ea ga C4 s0) hZ (w_ hw 11 rfl) (w_ hw 7 rfl) (by decide) (by decide)) (g := (mkF m 31 #[.val (.int (1 : Int32)), .val (.int c0), .val (.int c1), .val (.int c2)] [(.ref b2), (.ref b1), (.ref b1)])) rfl (by rw [hml]; rfl) (Steps.refl _) (a := b1) (argsL := [(.ref b2)]) (rest := [(.ref b1)]) (lenOf pd_4 rfl) rfl (by show 2 * 0 + _ ≤ _; exact Nat.le_of_eq rfl) (hb hby d1_31) (fun _ _ => ⟨rfl, e4, (by decide : 2 + 1 ≤ _), (by decide : 5 + 1 ≤ _)⟩)
  dsimp only [Pt.U, Pt.locs, Pt.cells, Pt.slots] at X5 l5 y5 z5 st5 hQ5
  subst l5 y5 z5
  obtain ⟨rfl, N5, K5, vb, kb, S5, gv⟩ := hQ5
  have Nf5 := Fr.app N4 N5
  refine Goes.via (S' := T5.setTop (mkF m 34 #[.val (.int (1 : Int32)), .val (.int c0), .val (.int c1), .val (.int c2)] [(.ref b1)])) (fun _ kz => st5.trans kz) ?_
  have Kf := K4.trans K5 (allS (Or.inr (Nat.le_of_eq g1.symm)) all0)
  have hC6 := hC0.trans (CHr.keep (ws := []) Kf (fun _ q => absurd q List.not_mem_nil) hC0.1)
  exact Goes.retOH (s := s) (vm1 := s.vm) X5 hx Bd.notSynchronized ((State.WarmedH.refl s).since 0) (Nat.zero_le _) rfl hZ hEL hC6 Bd.returns rfl (Or.inr (Or.inr (Or.inr (Or.inr ⟨rfl, rfl, rfl⟩)))) (hb hby d1_34) (Nat.le_of_ble_eq_true rfl) (Nat.le_of_ble_eq_true rfl) ⟨b1, vb, kb, rfl, Nf5, Kf, S5, Nat.le_of_eq g1.symm⟩
def Q_rs_2 (Z : State) (c0 : Int32) (c1 : Int32) (c2 : Int32) (cs : Int32) (h0 : Heap) (n0 : Nat) : Option Value → Heap → List Loc → Prop := fun v h L => ∃ a b k, v = some (.ref a) ∧ Fr n0 L ∧ Keep h0 h [] ∧ own_Str Z h a b k (2 : Int32) [.int (own_by c0), .int (own_by c1)] ∧ @LE.le Nat _ h0.size a
set_option maxRecDepth 65536 in
set_option maxHeartbeats 40000000 in
theorem rs_2 (l : Launch) (Z : State) (a0 : Array Value) (hw : ∀ d ∈ tables_1, d.before a0 Z = true) (ws : List Jvm.Cond) (c0 : Int32) (c1 : Int32) (c2 : Int32) (cs : Int32) (h0 : Heap) (n0 : Nat) (Z0 : n0 ≤ h0.size) (SC : Sta Z Z.heap "java/lang/String" "COMPACT_STRINGS" "Z" (.int cs)) (hcs : ¬ cs = (0 : Int32)) (O0 : Old Z n0 h0) (z0 : nar .char c0 = c0) (z1 : nar .char c1 = c1) (s0 : ¬ (255 : Int32) < c0) (s1 : ¬ (255 : Int32) < c1) :
    MetFree l (⟨"com/example/loopwright/loopwright/TokenIsPinLaw", "str", "(ICCC)Ljava/lang/String;"⟩ : MethodName) (head1 (Jvm.Cond.code (⟨"com/example/loopwright/loopwright/TokenIsPinLaw", "str", "(ICCC)Ljava/lang/String;"⟩ : MethodName) method_3_code 4 (some (.object "java/lang/String")) :: ws) ({ frames := 4, cells := 4, slots := 16, locals := 90 } : Room)) (fun a U => a = #[(.int (2 : Int32)), (.int c0), (.int c1), (.int c2)] ∧ Z.Warmed39 U.vm ∧ U.heap = h0 ∧ CHv Z consts_1 U.vm h0) (fun _ _ _ _ _ => True) (fun _ U oo U' => ∃ vv LL, oo = .returned vv ∧ (Q_rs_2 Z c0 c1 c2 cs h0 n0) vv U'.heap LL ∧ CHr Z consts_1 U.vm U.heap U'.vm U'.heap ∧ ReturnedEndW U oo U' LL ({ frames := 4, cells := 4, slots := 16, locals := 90 } : Room).cells ({ frames := 4, cells := 4, slots := 16, locals := 90 } : Room).slots) := by
  refine MetFree.of_bodySF (plainFor_of_name pn_1) hisR ?_
  intro p e s m args below meth c s₁ Bd hml0 hP hK
  obtain ⟨rfl, hZ, hh, hH⟩ := hP
  have hx := Bd.exec
  have hby := Bd.bytes
  have hml : c.maxLocals = 4 := hml0
  have hown : s.vm.findClass "com/example/loopwright/loopwright/TokenIsPinLaw" = some m.cls := findClass_of_methodNamed Bd.named
  have hnm := (name_of_methodNamed Bd.named Bd.method).1
  have X0 : Stand p l e ({ frames := 4, cells := 4, slots := 16, locals := 90 } : Room) s m #[(.int (2 : Int32)), (.int c0), (.int c1), (.int c2)] below meth c s₁ [] 0 0 := Stand.of_body Bd
  have e0 : s₁.heap = h0 := by rw [← hh, Bd.state]; rfl
  have N0 := Fr.nil n0
  have hC0 : CHr Z consts_1 s.vm s.heap s.vm h0 := by rw [hh]; exact CHr.refl hH
  have hEL := own_EW hw
  show Goes p e below (FinH s Z consts_1 (Q_rs_2 Z c0 c1 c2 cs h0 n0) ({ frames := 4, cells := 4, slots := 16, locals := 90 } : Room).cells ({ frames := 4, cells := 4, slots := 16, locals := 90 } : Room).slots) _
  refine Goes.via (S' := s₁.setTop (mkF m 0 #[.val (.int (2 : Int32)), .val (.int c0), .val (.int c1), .val (.int c2)] [])) (fun tz kz => castTop (ef_1 m (2 : Int32) c0 c1 c2 ) kz) ?_
  refine Goes.via (S' := s₁.setTop (mkF m 40 #[.val (.int (2 : Int32)), .val (.int c0), .val (.int c1), .val (.int c2)] [])) (fun tz kz => ?_) ?_
  · show Steps p.tables e below (s₁.setTop (mkF m 0 #[.val (.int (2 : Int32)), .val (.int c0), .val (.int c1), .val (.int c2)] [])) _
    refine XS.iloadN X0.here hx rfl (hb hby d1_0) rfl ?_
    refine XS.ifYes X0.here hx rfl (pc0 := 1) (pc' := 15) rfl (hb hby d1_1) rfl ((if0 _ _).trans (feq (by decide)).2) (by decide) (by decide) ?_
    refine XS.iloadN X0.here hx rfl (hb hby d1_15) rfl ?_
    refine XS.iconst X0.here hx rfl (hb hby d1_16) ?_
    show Steps p.tables e below (s₁.setTop (mkF m 17 #[.val (.int (2 : Int32)), .val (.int c0), .val (.int c1), .val (.int c2)] [(.int (1 : Int32)), (.int (2 : Int32))])) _
    refine XS.icmpYes X0.here hx rfl (pc0 := 17) (pc' := 35) rfl (hb hby d1_17) rfl (feq (by decide)).2 (by decide) (by decide) ?_
    refine XS.iloadN X0.here hx rfl (hb hby d1_35) rfl ?_
    refine XS.iconst X0.here hx rfl (hb hby d1_36) ?_
    refine XS.icmpNo X0.here hx rfl (hb hby d1_37) rfl (teq (by decide)).2 ?_
    exact kz
  obtain ⟨T1, h1, X1, e1, E1, A1, D1, -, st1⟩ := newO X0 hx hZ hown (w_ hw 5 rfl) (w_ hw 6 rfl) (w_ hw 7 rfl) e0 (g := (mkF m 40 #[.val (.int (2 : Int32)), .val (.int c0), .val (.int c1), .val (.int c2)] [])) rfl (hb hby d1_40) (by decide) (by decide)
  obtain ⟨b1, g1⟩ : ∃ z, z = h0.size := ⟨_, rfl⟩
  rw [← g1] at A1 D1 st1
  refine Goes.via (S' := T1.setTop (mkF m 43 #[.val (.int (2 : Int32)), .val (.int c0), .val (.int c1), .val (.int c2)] [(.ref b1)])) st1 ?_
  have FV : Fld Z h1 b1 "java/lang/String" "value" "[B" .null := D1 (Or.inr (w_ hw 34 rfl)) (ty := (.array .byte)) (by decide)
  have FC : Fld Z h1 b1 "java/lang/String" "coder" "B" (.int (0 : Int32)) := D1 (Or.inr (w_ hw 32 rfl)) (ty := .byte) (by decide)
  have K1 := (Keep.refl h0 []).ext E1
  have ga : n0 ≤ b1 := Nat.le_trans Z0 (Nat.le_of_eq g1.symm)
  refine Goes.via (S' := T1.setTop (mkF m 45 #[.val (.int (2 : Int32)), .val (.int c0), .val (.int c1), .val (.int c2)] [(.int (2 : Int32)), (.ref b1), (.ref b1)])) (fun tz kz => ?_) ?_
  · show Steps p.tables e below (T1.setTop (mkF m 43 #[.val (.int (2 : Int32)), .val (.int c0), .val (.int c1), .val (.int c2)] [(.ref b1)])) _
    refine XS.dup X1.here hx rfl (hb hby d1_43) rfl rfl ?_
    refine XS.iconst X1.here hx rfl (hb hby d1_44) ?_
    exact kz
  obtain ⟨T2, h2, k2, X2, e2, E2, A2, st2⟩ := newP X1 hx hZ (w_ hw 8 rfl) e1 (g := (mkF m 45 #[.val (.int (2 : Int32)), .val (.int c0), .val (.int c1), .val (.int c2)] [(.int (2 : Int32)), (.ref b1), (.ref b1)])) rfl (hb hby d1_45) rfl (by decide) (cap := 2) (by decide) (by decide) (by decide) (by decide)
  obtain ⟨b2, g2⟩ : ∃ z, z = h1.size := ⟨_, rfl⟩
  rw [← g2] at A2 st2
  refine Goes.via (S' := T2.setTop (mkF m 47 #[.val (.int (2 : Int32)), .val (.int c0), .val (.int c1), .val (.int c2)] [(.ref b2), (.ref b1), (.ref b1)])) st2 ?_
  have C2 : Arv Z h2 b2 k2 .char (2 : Int32) [.int 0, .int 0] (.int 0) := (Arv.new A2 (by decide)).pad (pad_rep [] (.int 0) 2)
  have K2 := K1.ext E2
  have FV := FV.ext E2
  have FC := FC.ext E2
  have Ea := A1.ext E2
  have nab : b1 ≠ b2 := adr_ne A1.lt g2 (Nat.le_refl _)
  have gc : @LE.le Nat _ h0.size b2 := Nat.le_trans E1.1 (Nat.le_of_eq g2.symm)
  refine Goes.via (S' := T2.setTop (mkF m 50 #[.val (.int (2 : Int32)), .val (.int c0), .val (.int c1), .val (.int c2)] [(.int c0), (.int (0 : Int32)), (.ref b2), (.ref b2), (.ref b1), (.ref b1)])) (fun tz kz => ?_) ?_
  · show Steps p.tables e below (T2.setTop (mkF m 47 #[.val (.int (2 : Int32)), .val (.int c0), .val (.int c1), .val (.int c2)] [(.ref b2), (.ref b1), (.ref b1)])) _
    refine XS.dup X2.here hx rfl (hb hby d1_47) rfl rfl ?_
    refine XS.iconst X2.here hx rfl (hb hby d1_48) ?_
    refine XS.iloadN X2.here hx rfl (hb hby d1_49) rfl ?_
    exact kz
  obtain ⟨cl3, Ar3, q3, Sz3, Nn3, Hs3, G3⟩ := (id C2)
  obtain ⟨T4, h4, X4, e4, W4, st4⟩ := stC X2 hx hZ e2 Ar3 (j := (0 : Int32)) (inb_of Sz3 ⟨by decide, by decide⟩) (g := (mkF m 50 #[.val (.int (2 : Int32)), .val (.int c0), .val (.int c1), .val (.int c2)] [(.int c0), (.int (0 : Int32)), (.ref b2), (.ref b2), (.ref b1), (.ref b1)])) rfl rfl (hb hby d1_50)
  refine Goes.via (S' := T4.setTop (mkF m 51 #[.val (.int (2 : Int32)), .val (.int c0), .val (.int c1), .val (.int c2)] [(.ref b2), (.ref b1), (.ref b1)])) st4 ?_
  have N4 := Fr.snoc X4 N0 (Nat.le_trans Z0 gc)
  have C4 := Arv.set Ar3 q3 Sz3 Nn3 Hs3 G3 (fits_nar_char _) W4 0 rfl (Nat.le_of_ble_eq_true rfl)
  rw [z0] at C4
  have FV := FV.other W4 (Or.inl nab)
  have FC := FC.other W4 (Or.inl nab)
  have Ea := Ea.wr W4
  have K4 := K2.wr W4 (Or.inr gc)
  refine Goes.via (S' := T4.setTop (mkF m 54 #[.val (.int (2 : Int32)), .val (.int c0), .val (.int c1), .val (.int c2)] [(.int c1), (.int (1 : Int32)), (.ref b2), (.ref b2), (.ref b1), (.ref b1)])) (fun tz kz => ?_) ?_
  · show Steps p.tables e below (T4.setTop (mkF m 51 #[.val (.int (2 : Int32)), .val (.int c0), .val (.int c1), .val (.int c2)] [(.ref b2), (.ref b1), (.ref b1)])) _
    refine XS.dup X4.here hx rfl (hb hby d1_51) rfl rfl ?_
    refine XS.iconst X4.here hx rfl (hb hby d1_52) ?_
    refine XS.iloadN X4.here hx rfl (hb hby d1_53) rfl ?_
    exact kz
  obtain ⟨cl5, Ar5, q5, Sz5, Nn5, Hs5, G5⟩ := (id C4)
  obtain ⟨T6, h6, X6, e6, W6, st6⟩ := stC X4 hx hZ e4 Ar5 (j := (1 : Int32)) (inb_of Sz5 ⟨by decide, by decide⟩) (g := (mkF m 54 #[.val (.int (2 : Int32)), .val (.int c0), .val (.int c1), .val (.int c2)] [(.int c1), (.int (1 : Int32)), (.ref b2), (.ref b2), (.ref b1), (.ref b1)])) rfl rfl (hb hby d1_54)
  refine Goes.via (S' := T6.setTop (mkF m 55 #[.val (.int (2 : Int32)), .val (.int c0), .val (.int c1), .val (.int c2)] [(.ref b2), (.ref b1), (.ref b1)])) st6 ?_
  have N6 := Fr.snoc X6 N4 (Nat.le_trans Z0 gc)
  have C6 := Arv.set Ar5 q5 Sz5 Nn5 Hs5 G5 (fits_nar_char _) W6 1 rfl (Nat.le_of_ble_eq_true rfl)
  rw [z1] at C6
  have FV := FV.other W6 (Or.inl nab)
  have FC := FC.other W6 (Or.inl nab)
  have Ea := Ea.wr W6
  have K6 := K4.wr W6 (Or.inr gc)
  obtain ⟨_, _, ⟨T7, L7, k7, n7⟩, -, X7, ⟨Lc7, hQ7, l7, y7, z7⟩, st7⟩ := X6.specialBack hx (y := (⟨"java/lang/String", "<init>", "([C)V"⟩ : MethodName)) rfl hown (mvT hZ (w_ hw 9 rfl)) (mvT hZ (w_ hw 10 rfl)) (mvT hZ (w_ hw 11 rfl)) (by decide) (backOf (W := 1) (rn1_2 l Z a0 hw [] b1 b2 cs k2 c0 c1 h6 n0 (Nat.le_trans Z0 K6.1) SC hcs (O0.keep K6 (fun _ q => absurd q List.not_mem_nil)) FV FC Ea ga C6 s0 s1) hZ (w_ hw 11 rfl) (w_ hw 7 rfl) (by decide) (by decide)) (g := (mkF m 55 #[.val (.int (2 : Int32)), .val (.int c0), .val (.int c1), .val (.int c2)] [(.ref b2), (.ref b1), (.ref b1)])) rfl (by rw [hml]; rfl) (Steps.refl _) (a := b1) (argsL := [(.ref b2)]) (rest := [(.ref b1)]) (lenOf pd_4 rfl) rfl (by show 2 * 0 + _ ≤ _; exact Nat.le_of_eq rfl) (hb hby d1_55) (fun _ _ => ⟨rfl, e6, (by decide : 2 + 1 ≤ _), (by decide : 6 + 2 ≤ _)⟩)
  dsimp only [Pt.U, Pt.locs, Pt.cells, Pt.slots] at X7 l7 y7 z7 st7 hQ7
  subst l7 y7 z7
  obtain ⟨rfl, N7, K7, vb, kb, S7, gv⟩ := hQ7
  have Nf7 := Fr.app N6 N7
  refine Goes.via (S' := T7.setTop (mkF m 58 #[.val (.int (2 : Int32)), .val (.int c0), .val (.int c1), .val (.int c2)] [(.ref b1)])) (fun _ kz => st7.trans kz) ?_
  have Kf := K6.trans K7 (allS (Or.inr (Nat.le_of_eq g1.symm)) all0)
  have hC8 := hC0.trans (CHr.keep (ws := []) Kf (fun _ q => absurd q List.not_mem_nil) hC0.1)
  exact Goes.retOH (s := s) (vm1 := s.vm) X7 hx Bd.notSynchronized ((State.WarmedH.refl s).since 0) (Nat.zero_le _) rfl hZ hEL hC8 Bd.returns rfl (Or.inr (Or.inr (Or.inr (Or.inr ⟨rfl, rfl, rfl⟩)))) (hb hby d1_58) (Nat.le_of_ble_eq_true rfl) (Nat.le_of_ble_eq_true rfl) ⟨b1, vb, kb, rfl, Nf7, Kf, S7, Nat.le_of_eq g1.symm⟩
def Q_rs_3 (Z : State) (c0 : Int32) (c1 : Int32) (c2 : Int32) (cs : Int32) (h0 : Heap) (n0 : Nat) : Option Value → Heap → List Loc → Prop := fun v h L => ∃ a b k, v = some (.ref a) ∧ Fr n0 L ∧ Keep h0 h [] ∧ own_Str Z h a b k (3 : Int32) [.int (own_by c0), .int (own_by c1), .int (own_by c2)] ∧ @LE.le Nat _ h0.size a
set_option maxRecDepth 65536 in
set_option maxHeartbeats 40000000 in
theorem rs_3 (l : Launch) (Z : State) (a0 : Array Value) (hw : ∀ d ∈ tables_1, d.before a0 Z = true) (ws : List Jvm.Cond) (c0 : Int32) (c1 : Int32) (c2 : Int32) (cs : Int32) (h0 : Heap) (n0 : Nat) (Z0 : n0 ≤ h0.size) (SC : Sta Z Z.heap "java/lang/String" "COMPACT_STRINGS" "Z" (.int cs)) (hcs : ¬ cs = (0 : Int32)) (O0 : Old Z n0 h0) (z0 : nar .char c0 = c0) (z1 : nar .char c1 = c1) (z2 : nar .char c2 = c2) (s0 : ¬ (255 : Int32) < c0) (s1 : ¬ (255 : Int32) < c1) (s2 : ¬ (255 : Int32) < c2) :
    MetFree l (⟨"com/example/loopwright/loopwright/TokenIsPinLaw", "str", "(ICCC)Ljava/lang/String;"⟩ : MethodName) (head1 (Jvm.Cond.code (⟨"com/example/loopwright/loopwright/TokenIsPinLaw", "str", "(ICCC)Ljava/lang/String;"⟩ : MethodName) method_3_code 4 (some (.object "java/lang/String")) :: ws) ({ frames := 4, cells := 4, slots := 16, locals := 90 } : Room)) (fun a U => a = #[(.int (3 : Int32)), (.int c0), (.int c1), (.int c2)] ∧ Z.Warmed39 U.vm ∧ U.heap = h0 ∧ CHv Z consts_1 U.vm h0) (fun _ _ _ _ _ => True) (fun _ U oo U' => ∃ vv LL, oo = .returned vv ∧ (Q_rs_3 Z c0 c1 c2 cs h0 n0) vv U'.heap LL ∧ CHr Z consts_1 U.vm U.heap U'.vm U'.heap ∧ ReturnedEndW U oo U' LL ({ frames := 4, cells := 4, slots := 16, locals := 90 } : Room).cells ({ frames := 4, cells := 4, slots := 16, locals := 90 } : Room).slots) := by
  refine MetFree.of_bodySF (plainFor_of_name pn_1) hisR ?_
  intro p e s m args below meth c s₁ Bd hml0 hP hK
  obtain ⟨rfl, hZ, hh, hH⟩ := hP
  have hx := Bd.exec
  have hby := Bd.bytes
  have hml : c.maxLocals = 4 := hml0
  have hown : s.vm.findClass "com/example/loopwright/loopwright/TokenIsPinLaw" = some m.cls := findClass_of_methodNamed Bd.named
  have hnm := (name_of_methodNamed Bd.named Bd.method).1
  have X0 : Stand p l e ({ frames := 4, cells := 4, slots := 16, locals := 90 } : Room) s m #[(.int (3 : Int32)), (.int c0), (.int c1), (.int c2)] below meth c s₁ [] 0 0 := Stand.of_body Bd
  have e0 : s₁.heap = h0 := by rw [← hh, Bd.state]; rfl
  have N0 := Fr.nil n0
  have hC0 : CHr Z consts_1 s.vm s.heap s.vm h0 := by rw [hh]; exact CHr.refl hH
  have hEL := own_EW hw
  show Goes p e below (FinH s Z consts_1 (Q_rs_3 Z c0 c1 c2 cs h0 n0) ({ frames := 4, cells := 4, slots := 16, locals := 90 } : Room).cells ({ frames := 4, cells := 4, slots := 16, locals := 90 } : Room).slots) _
  refine Goes.via (S' := s₁.setTop (mkF m 0 #[.val (.int (3 : Int32)), .val (.int c0), .val (.int c1), .val (.int c2)] [])) (fun tz kz => castTop (ef_1 m (3 : Int32) c0 c1 c2 ) kz) ?_
  refine Goes.via (S' := s₁.setTop (mkF m 59 #[.val (.int (3 : Int32)), .val (.int c0), .val (.int c1), .val (.int c2)] [])) (fun tz kz => ?_) ?_
  · show Steps p.tables e below (s₁.setTop (mkF m 0 #[.val (.int (3 : Int32)), .val (.int c0), .val (.int c1), .val (.int c2)] [])) _
    refine XS.iloadN X0.here hx rfl (hb hby d1_0) rfl ?_
    refine XS.ifYes X0.here hx rfl (pc0 := 1) (pc' := 15) rfl (hb hby d1_1) rfl ((if0 _ _).trans (feq (by decide)).2) (by decide) (by decide) ?_
    refine XS.iloadN X0.here hx rfl (hb hby d1_15) rfl ?_
    refine XS.iconst X0.here hx rfl (hb hby d1_16) ?_
    show Steps p.tables e below (s₁.setTop (mkF m 17 #[.val (.int (3 : Int32)), .val (.int c0), .val (.int c1), .val (.int c2)] [(.int (1 : Int32)), (.int (3 : Int32))])) _
    refine XS.icmpYes X0.here hx rfl (pc0 := 17) (pc' := 35) rfl (hb hby d1_17) rfl (feq (by decide)).2 (by decide) (by decide) ?_
    refine XS.iloadN X0.here hx rfl (hb hby d1_35) rfl ?_
    refine XS.iconst X0.here hx rfl (hb hby d1_36) ?_
    refine XS.icmpYes X0.here hx rfl (pc0 := 37) (pc' := 59) rfl (hb hby d1_37) rfl (feq (by decide)).2 (by decide) (by decide) ?_
    exact kz
  obtain ⟨T1, h1, X1, e1, E1, A1, D1, -, st1⟩ := newO X0 hx hZ hown (w_ hw 5 rfl) (w_ hw 6 rfl) (w_ hw 7 rfl) e0 (g := (mkF m 59 #[.val (.int (3 : Int32)), .val (.int c0), .val (.int c1), .val (.int c2)] [])) rfl (hb hby d1_59) (by decide) (by decide)
  obtain ⟨b1, g1⟩ : ∃ z, z = h0.size := ⟨_, rfl⟩
  rw [← g1] at A1 D1 st1
  refine Goes.via (S' := T1.setTop (mkF m 62 #[.val (.int (3 : Int32)), .val (.int c0), .val (.int c1), .val (.int c2)] [(.ref b1)])) st1 ?_
  have FV : Fld Z h1 b1 "java/lang/String" "value" "[B" .null := D1 (Or.inr (w_ hw 34 rfl)) (ty := (.array .byte)) (by decide)
  have FC : Fld Z h1 b1 "java/lang/String" "coder" "B" (.int (0 : Int32)) := D1 (Or.inr (w_ hw 32 rfl)) (ty := .byte) (by decide)
  have K1 := (Keep.refl h0 []).ext E1
  have ga : n0 ≤ b1 := Nat.le_trans Z0 (Nat.le_of_eq g1.symm)
  refine Goes.via (S' := T1.setTop (mkF m 64 #[.val (.int (3 : Int32)), .val (.int c0), .val (.int c1), .val (.int c2)] [(.int (3 : Int32)), (.ref b1), (.ref b1)])) (fun tz kz => ?_) ?_
  · show Steps p.tables e below (T1.setTop (mkF m 62 #[.val (.int (3 : Int32)), .val (.int c0), .val (.int c1), .val (.int c2)] [(.ref b1)])) _
    refine XS.dup X1.here hx rfl (hb hby d1_62) rfl rfl ?_
    refine XS.iconst X1.here hx rfl (hb hby d1_63) ?_
    exact kz
  obtain ⟨T2, h2, k2, X2, e2, E2, A2, st2⟩ := newP X1 hx hZ (w_ hw 8 rfl) e1 (g := (mkF m 64 #[.val (.int (3 : Int32)), .val (.int c0), .val (.int c1), .val (.int c2)] [(.int (3 : Int32)), (.ref b1), (.ref b1)])) rfl (hb hby d1_64) rfl (by decide) (cap := 3) (by decide) (by decide) (by decide) (by decide)
  obtain ⟨b2, g2⟩ : ∃ z, z = h1.size := ⟨_, rfl⟩
  rw [← g2] at A2 st2
  refine Goes.via (S' := T2.setTop (mkF m 66 #[.val (.int (3 : Int32)), .val (.int c0), .val (.int c1), .val (.int c2)] [(.ref b2), (.ref b1), (.ref b1)])) st2 ?_
  have C2 : Arv Z h2 b2 k2 .char (3 : Int32) [.int 0, .int 0, .int 0] (.int 0) := (Arv.new A2 (by decide)).pad (pad_rep [] (.int 0) 3)
  have K2 := K1.ext E2
  have FV := FV.ext E2
  have FC := FC.ext E2
  have Ea := A1.ext E2
  have nab : b1 ≠ b2 := adr_ne A1.lt g2 (Nat.le_refl _)
  have gc : @LE.le Nat _ h0.size b2 := Nat.le_trans E1.1 (Nat.le_of_eq g2.symm)
  refine Goes.via (S' := T2.setTop (mkF m 69 #[.val (.int (3 : Int32)), .val (.int c0), .val (.int c1), .val (.int c2)] [(.int c0), (.int (0 : Int32)), (.ref b2), (.ref b2), (.ref b1), (.ref b1)])) (fun tz kz => ?_) ?_
  · show Steps p.tables e below (T2.setTop (mkF m 66 #[.val (.int (3 : Int32)), .val (.int c0), .val (.int c1), .val (.int c2)] [(.ref b2), (.ref b1), (.ref b1)])) _
    refine XS.dup X2.here hx rfl (hb hby d1_66) rfl rfl ?_
    refine XS.iconst X2.here hx rfl (hb hby d1_67) ?_
    refine XS.iloadN X2.here hx rfl (hb hby d1_68) rfl ?_
    exact kz
  obtain ⟨cl3, Ar3, q3, Sz3, Nn3, Hs3, G3⟩ := (id C2)
  obtain ⟨T4, h4, X4, e4, W4, st4⟩ := stC X2 hx hZ e2 Ar3 (j := (0 : Int32)) (inb_of Sz3 ⟨by decide, by decide⟩) (g := (mkF m 69 #[.val (.int (3 : Int32)), .val (.int c0), .val (.int c1), .val (.int c2)] [(.int c0), (.int (0 : Int32)), (.ref b2), (.ref b2), (.ref b1), (.ref b1)])) rfl rfl (hb hby d1_69)
  refine Goes.via (S' := T4.setTop (mkF m 70 #[.val (.int (3 : Int32)), .val (.int c0), .val (.int c1), .val (.int c2)] [(.ref b2), (.ref b1), (.ref b1)])) st4 ?_
  have N4 := Fr.snoc X4 N0 (Nat.le_trans Z0 gc)
  have C4 := Arv.set Ar3 q3 Sz3 Nn3 Hs3 G3 (fits_nar_char _) W4 0 rfl (Nat.le_of_ble_eq_true rfl)
  rw [z0] at C4
  have FV := FV.other W4 (Or.inl nab)
  have FC := FC.other W4 (Or.inl nab)
  have Ea := Ea.wr W4
  have K4 := K2.wr W4 (Or.inr gc)
  refine Goes.via (S' := T4.setTop (mkF m 73 #[.val (.int (3 : Int32)), .val (.int c0), .val (.int c1), .val (.int c2)] [(.int c1), (.int (1 : Int32)), (.ref b2), (.ref b2), (.ref b1), (.ref b1)])) (fun tz kz => ?_) ?_
  · show Steps p.tables e below (T4.setTop (mkF m 70 #[.val (.int (3 : Int32)), .val (.int c0), .val (.int c1), .val (.int c2)] [(.ref b2), (.ref b1), (.ref b1)])) _
    refine XS.dup X4.here hx rfl (hb hby d1_70) rfl rfl ?_
    refine XS.iconst X4.here hx rfl (hb hby d1_71) ?_
    refine XS.iloadN X4.here hx rfl (hb hby d1_72) rfl ?_
    exact kz
  obtain ⟨cl5, Ar5, q5, Sz5, Nn5, Hs5, G5⟩ := (id C4)
  obtain ⟨T6, h6, X6, e6, W6, st6⟩ := stC X4 hx hZ e4 Ar5 (j := (1 : Int32)) (inb_of Sz5 ⟨by decide, by decide⟩) (g := (mkF m 73 #[.val (.int (3 : Int32)), .val (.int c0), .val (.int c1), .val (.int c2)] [(.int c1), (.int (1 : Int32)), (.ref b2), (.ref b2), (.ref b1), (.ref b1)])) rfl rfl (hb hby d1_73)
  refine Goes.via (S' := T6.setTop (mkF m 74 #[.val (.int (3 : Int32)), .val (.int c0), .val (.int c1), .val (.int c2)] [(.ref b2), (.ref b1), (.ref b1)])) st6 ?_
  have N6 := Fr.snoc X6 N4 (Nat.le_trans Z0 gc)
  have C6 := Arv.set Ar5 q5 Sz5 Nn5 Hs5 G5 (fits_nar_char _) W6 1 rfl (Nat.le_of_ble_eq_true rfl)
  rw [z1] at C6
  have FV := FV.other W6 (Or.inl nab)
  have FC := FC.other W6 (Or.inl nab)
  have Ea := Ea.wr W6
  have K6 := K4.wr W6 (Or.inr gc)
  refine Goes.via (S' := T6.setTop (mkF m 77 #[.val (.int (3 : Int32)), .val (.int c0), .val (.int c1), .val (.int c2)] [(.int c2), (.int (2 : Int32)), (.ref b2), (.ref b2), (.ref b1), (.ref b1)])) (fun tz kz => ?_) ?_
  · show Steps p.tables e below (T6.setTop (mkF m 74 #[.val (.int (3 : Int32)), .val (.int c0), .val (.int c1), .val (.int c2)] [(.ref b2), (.ref b1), (.ref b1)])) _
    refine XS.dup X6.here hx rfl (hb hby d1_74) rfl rfl ?_
    refine XS.iconst X6.here hx rfl (hb hby d1_75) ?_
    refine XS.iloadN X6.here hx rfl (hb hby d1_76) rfl ?_
    exact kz
  obtain ⟨cl7, Ar7, q7, Sz7, Nn7, Hs7, G7⟩ := (id C6)
  obtain ⟨T8, h8, X8, e8, W8, st8⟩ := stC X6 hx hZ e6 Ar7 (j := (2 : Int32)) (inb_of Sz7 ⟨by decide, by decide⟩) (g := (mkF m 77 #[.val (.int (3 : Int32)), .val (.int c0), .val (.int c1), .val (.int c2)] [(.int c2), (.int (2 : Int32)), (.ref b2), (.ref b2), (.ref b1), (.ref b1)])) rfl rfl (hb hby d1_77)
  refine Goes.via (S' := T8.setTop (mkF m 78 #[.val (.int (3 : Int32)), .val (.int c0), .val (.int c1), .val (.int c2)] [(.ref b2), (.ref b1), (.ref b1)])) st8 ?_
  have N8 := Fr.snoc X8 N6 (Nat.le_trans Z0 gc)
  have C8 := Arv.set Ar7 q7 Sz7 Nn7 Hs7 G7 (fits_nar_char _) W8 2 rfl (Nat.le_of_ble_eq_true rfl)
  rw [z2] at C8
  have FV := FV.other W8 (Or.inl nab)
  have FC := FC.other W8 (Or.inl nab)
  have Ea := Ea.wr W8
  have K8 := K6.wr W8 (Or.inr gc)
  obtain ⟨_, _, ⟨T9, L9, k9, n9⟩, -, X9, ⟨Lc9, hQ9, l9, y9, z9⟩, st9⟩ := X8.specialBack hx (y := (⟨"java/lang/String", "<init>", "([C)V"⟩ : MethodName)) rfl hown (mvT hZ (w_ hw 9 rfl)) (mvT hZ (w_ hw 10 rfl)) (mvT hZ (w_ hw 11 rfl)) (by decide) (backOf (W := 1) (rn1_3 l Z a0 hw [] b1 b2 cs k2 c0 c1 c2 h8 n0 (Nat.le_trans Z0 K8.1) SC hcs (O0.keep K8 (fun _ q => absurd q List.not_mem_nil)) FV FC Ea ga C8 s0 s1 s2) hZ (w_ hw 11 rfl) (w_ hw 7 rfl) (by decide) (by decide)) (g := (mkF m 78 #[.val (.int (3 : Int32)), .val (.int c0), .val (.int c1), .val (.int c2)] [(.ref b2), (.ref b1), (.ref b1)])) rfl (by rw [hml]; rfl) (Steps.refl _) (a := b1) (argsL := [(.ref b2)]) (rest := [(.ref b1)]) (lenOf pd_4 rfl) rfl (by show 2 * 0 + _ ≤ _; exact Nat.le_of_eq rfl) (hb hby d1_78) (fun _ _ => ⟨rfl, e8, (by decide : 2 + 1 ≤ _), (by decide : 7 + 3 ≤ _)⟩)
  dsimp only [Pt.U, Pt.locs, Pt.cells, Pt.slots] at X9 l9 y9 z9 st9 hQ9
  subst l9 y9 z9
  obtain ⟨rfl, N9, K9, vb, kb, S9, gv⟩ := hQ9
  have Nf9 := Fr.app N8 N9
  refine Goes.via (S' := T9.setTop (mkF m 81 #[.val (.int (3 : Int32)), .val (.int c0), .val (.int c1), .val (.int c2)] [(.ref b1)])) (fun _ kz => st9.trans kz) ?_
  have Kf := K8.trans K9 (allS (Or.inr (Nat.le_of_eq g1.symm)) all0)
  have hC10 := hC0.trans (CHr.keep (ws := []) Kf (fun _ q => absurd q List.not_mem_nil) hC0.1)
  exact Goes.retOH (s := s) (vm1 := s.vm) X9 hx Bd.notSynchronized ((State.WarmedH.refl s).since 0) (Nat.zero_le _) rfl hZ hEL hC10 Bd.returns rfl (Or.inr (Or.inr (Or.inr (Or.inr ⟨rfl, rfl, rfl⟩)))) (hb hby d1_81) (Nat.le_of_ble_eq_true rfl) (Nat.le_of_ble_eq_true rfl) ⟨b1, vb, kb, rfl, Nf9, Kf, S9, Nat.le_of_eq g1.symm⟩
def own_ls (n c0 c1 c2 : Int32) : List Int32 := if n = 0 then [] else if n = 1 then [own_by c0] else if n = 2 then [own_by c0, own_by c1] else [own_by c0, own_by c1, own_by c2]
def own_vs (l : List Int32) : List Value := l.map Value.int
def own_4 (n : Int32) : Prop := n = 0 ∨ n = 1 ∨ n = 2 ∨ n = 3
def Q_rs (Z : State) (n c0 c1 c2 : Int32) (h0 : Heap) (n0 : Nat) : Option Value → Heap → List Loc → Prop := fun v h L => ∃ a b k, v = some (.ref a) ∧ Fr n0 L ∧ Keep h0 h [] ∧ own_Str Z h a b k n (own_vs (own_ls n c0 c1 c2)) ∧ @LE.le Nat _ h0.size a
theorem rs (l : Launch) (Z : State) (a0 : Array Value) (hw : ∀ d ∈ tables_1, d.before a0 Z = true) (n c0 c1 c2 cs : Int32) (h0 : Heap) (n0 : Nat) (Z0 : n0 ≤ h0.size) (hn : own_4 n) (SC : Sta Z Z.heap "java/lang/String" "COMPACT_STRINGS" "Z" (.int cs)) (hcs : ¬ cs = (0 : Int32)) (O0 : Old Z n0 h0) (z0 : nar .char c0 = c0) (z1 : nar .char c1 = c1) (z2 : nar .char c2 = c2) (s0 : ¬ (255 : Int32) < c0) (s1 : ¬ (255 : Int32) < c1) (s2 : ¬ (255 : Int32) < c2) :
    MetFree l (⟨"com/example/loopwright/loopwright/TokenIsPinLaw", "str", "(ICCC)Ljava/lang/String;"⟩ : MethodName) (head1 (Jvm.Cond.code (⟨"com/example/loopwright/loopwright/TokenIsPinLaw", "str", "(ICCC)Ljava/lang/String;"⟩ : MethodName) method_3_code 4 (some (.object "java/lang/String")) :: []) ({ frames := 4, cells := 4, slots := 16, locals := 90 } : Room)) (fun a U => a = #[.int n, .int c0, .int c1, .int c2] ∧ Z.Warmed39 U.vm ∧ U.heap = h0 ∧ CHv Z consts_1 U.vm h0) (fun _ _ _ _ _ => True) (fun _ U oo U' => ∃ vv LL, oo = .returned vv ∧ (Q_rs Z n c0 c1 c2 h0 n0) vv U'.heap LL ∧ CHr Z consts_1 U.vm U.heap U'.vm U'.heap ∧ ReturnedEndW U oo U' LL ({ frames := 4, cells := 4, slots := 16, locals := 90 } : Room).cells ({ frames := 4, cells := 4, slots := 16, locals := 90 } : Room).slots) := by
  rcases hn with rfl | rfl | rfl | rfl
  · exact rs_0 l Z a0 hw [] c0 c1 c2 cs h0 n0 Z0 SC hcs O0  
  · exact rs_1 l Z a0 hw [] c0 c1 c2 cs h0 n0 Z0 SC hcs O0 z0 s0
  · exact rs_2 l Z a0 hw [] c0 c1 c2 cs h0 n0 Z0 SC hcs O0 z0 z1 s0 s1
  · exact rs_3 l Z a0 hw [] c0 c1 c2 cs h0 n0 Z0 SC hcs O0 z0 z1 z2 s0 s1 s2
def own_pk (b0 b1 b2 b3 b4 b5 : Addr) (z : Int32) : Addr := if z = 0 then b0 else if z = 1 then b1 else if z = 2 then b2 else if z = 3 then b3 else if z = 4 then b4 else b5
theorem d8_0 : decode method_2_code 0 = .ok (.iload_n 0, 1) := by decide +kernel
theorem d8_1 : decode method_2_code 1 = .ok (.ifCond .ne 7, 3) := by decide +kernel
theorem d8_4 : decode method_2_code 4 = .ok (.getstatic 7, 3) := by decide +kernel
theorem d8_7 : decode method_2_code 7 = .ok (.areturn, 1) := by decide +kernel
theorem d8_8 : decode method_2_code 8 = .ok (.iload_n 0, 1) := by decide +kernel
theorem d8_9 : decode method_2_code 9 = .ok (.iconst 1, 1) := by decide +kernel
theorem d8_10 : decode method_2_code 10 = .ok (.if_icmp .ne 7, 3) := by decide +kernel
theorem d8_13 : decode method_2_code 13 = .ok (.getstatic 13, 3) := by decide +kernel
theorem d8_16 : decode method_2_code 16 = .ok (.areturn, 1) := by decide +kernel
theorem d8_17 : decode method_2_code 17 = .ok (.iload_n 0, 1) := by decide +kernel
theorem d8_18 : decode method_2_code 18 = .ok (.iconst 2, 1) := by decide +kernel
theorem d8_19 : decode method_2_code 19 = .ok (.if_icmp .ne 7, 3) := by decide +kernel
theorem d8_22 : decode method_2_code 22 = .ok (.getstatic 16, 3) := by decide +kernel
theorem d8_25 : decode method_2_code 25 = .ok (.areturn, 1) := by decide +kernel
theorem d8_26 : decode method_2_code 26 = .ok (.iload_n 0, 1) := by decide +kernel
theorem d8_27 : decode method_2_code 27 = .ok (.iconst 3, 1) := by decide +kernel
theorem d8_28 : decode method_2_code 28 = .ok (.if_icmp .ne 7, 3) := by decide +kernel
theorem d8_31 : decode method_2_code 31 = .ok (.getstatic 19, 3) := by decide +kernel
theorem d8_34 : decode method_2_code 34 = .ok (.areturn, 1) := by decide +kernel
theorem d8_35 : decode method_2_code 35 = .ok (.iload_n 0, 1) := by decide +kernel
theorem d8_36 : decode method_2_code 36 = .ok (.iconst 4, 1) := by decide +kernel
theorem d8_37 : decode method_2_code 37 = .ok (.if_icmp .ne 7, 3) := by decide +kernel
theorem d8_40 : decode method_2_code 40 = .ok (.getstatic 22, 3) := by decide +kernel
theorem d8_43 : decode method_2_code 43 = .ok (.areturn, 1) := by decide +kernel
theorem d8_44 : decode method_2_code 44 = .ok (.getstatic 25, 3) := by decide +kernel
theorem d8_47 : decode method_2_code 47 = .ok (.areturn, 1) := by decide +kernel
theorem pn_8 : plainName "com/example/loopwright/loopwright/TokenIsPinLaw" = true := by first | (simp [plainName, overriddenIn]; done) | decide +kernel
theorem ef_8 (m : MethodId) (x0 : Int32) : entryFrame m #[(.int x0)] 1 = mkF m 0 #[.val (.int x0)] [] := by first | (simp [entryFrame, mkF, argsToLocals, Value.category]; done) | rfl
def Q_rm8 (Z : State) (p1 : Int32) (b0 b1 b2 b3 b4 b5 : Addr) (h0 : Heap) (n0 : Nat) : Option Value → Heap → List Loc → Prop := fun v h L => v = some (.ref (own_pk b0 b1 b2 b3 b4 b5 p1)) ∧ Fr n0 L ∧ h = h0
set_option maxRecDepth 65536 in
set_option maxHeartbeats 40000000 in
theorem rm8 (l : Launch) (Z : State) (a0 : Array Value) (hw : ∀ d ∈ tables_1, d.before a0 Z = true) (ws : List Jvm.Cond) (p1 : Int32) (b0 b1 b2 b3 b4 b5 : Addr) (h0 : Heap) (n0 : Nat) (Z0 : n0 ≤ h0.size) (S0 : Sta Z Z.heap "com/example/loopwright/loopwright/Lexer$Kind" "IDENTIFIER" "Lcom/example/loopwright/loopwright/Lexer$Kind;" (.ref b0)) (S1 : Sta Z Z.heap "com/example/loopwright/loopwright/Lexer$Kind" "NUMBER" "Lcom/example/loopwright/loopwright/Lexer$Kind;" (.ref b1)) (S2 : Sta Z Z.heap "com/example/loopwright/loopwright/Lexer$Kind" "SYMBOL" "Lcom/example/loopwright/loopwright/Lexer$Kind;" (.ref b2)) (S3 : Sta Z Z.heap "com/example/loopwright/loopwright/Lexer$Kind" "ANNOTATION" "Lcom/example/loopwright/loopwright/Lexer$Kind;" (.ref b3)) (S4 : Sta Z Z.heap "com/example/loopwright/loopwright/Lexer$Kind" "ANNOTATION_END" "Lcom/example/loopwright/loopwright/Lexer$Kind;" (.ref b4)) (S5 : Sta Z Z.heap "com/example/loopwright/loopwright/Lexer$Kind" "END" "Lcom/example/loopwright/loopwright/Lexer$Kind;" (.ref b5)) (O0 : Old Z n0 h0) :
    own_M l Z (⟨"com/example/loopwright/loopwright/TokenIsPinLaw", "kindOf", "(I)Lcom/example/loopwright/loopwright/Lexer$Kind;"⟩ : MethodName) (Jvm.Cond.code (⟨"com/example/loopwright/loopwright/TokenIsPinLaw", "kindOf", "(I)Lcom/example/loopwright/loopwright/Lexer$Kind;"⟩ : MethodName) method_2_code 1 (some (.object "com/example/loopwright/loopwright/Lexer$Kind"))) ws ({ frames := 0, cells := 0, slots := 0, locals := 0 } : Room) #[(.int p1)] h0 (Q_rm8 Z p1 b0 b1 b2 b3 b4 b5 h0 n0) := by
  refine MetFree.of_bodySF (plainFor_of_name pn_8) hisR ?_
  intro p e s m args below meth c s₁ Bd hml0 hP hK
  obtain ⟨rfl, hZ, hh⟩ := hP
  have hx := Bd.exec
  have hby := Bd.bytes
  have hml : c.maxLocals = 1 := hml0
  have hown : s.vm.findClass "com/example/loopwright/loopwright/TokenIsPinLaw" = some m.cls := findClass_of_methodNamed Bd.named
  have hnm := (name_of_methodNamed Bd.named Bd.method).1
  have X0 : Stand p l e ({ frames := 0, cells := 0, slots := 0, locals := 0 } : Room) s m #[(.int p1)] below meth c s₁ [] 0 0 := Stand.of_body Bd
  have e0 : s₁.heap = h0 := by rw [← hh, Bd.state]; rfl
  have N0 := Fr.nil n0
  show Goes p e below (Fin s (Q_rm8 Z p1 b0 b1 b2 b3 b4 b5 h0 n0) ({ frames := 0, cells := 0, slots := 0, locals := 0 } : Room).cells ({ frames := 0, cells := 0, slots := 0, locals := 0 } : Room).slots) _
  refine Goes.via (S' := s₁.setTop (mkF m 0 #[.val (.int p1)] [])) (fun tz kz => castTop (ef_8 m p1 ) kz) ?_
  refine Goes.via (S' := s₁.setTop (mkF m 1 #[.val (.int p1)] [(.int p1)])) (fun tz kz => ?_) ?_
  · show Steps p.tables e below (s₁.setTop (mkF m 0 #[.val (.int p1)] [])) _
    refine XS.iloadN X0.here hx rfl (hb hby d8_0) rfl ?_
    exact kz
  by_cases hc1_1 : p1 = (0 : Int32)
  · refine Goes.via (S' := s₁.setTop (mkF m 4 #[.val (.int p1)] [])) (fun tz kz => ?_) ?_
    · show Steps p.tables e below (s₁.setTop (mkF m 1 #[.val (.int p1)] [(.int p1)])) _
      refine XS.ifNo X0.here hx rfl (hb hby d8_1) rfl ((if0 _ _).trans (teq hc1_1).2) ?_
      exact kz
    obtain ⟨T2, X2, e2, st2⟩ := getS2 X0 hx hZ hown (host := "") (Or.inl (w_ hw 41 rfl)) Via.refl e0 (S0.ext O0.2) (g := (mkF m 4 #[.val (.int p1)] [])) rfl (hb hby d8_4)
    refine Goes.via (S' := T2.setTop (mkF m 7 #[.val (.int p1)] [(.ref b0)])) st2 ?_
    exact Goes.retO X2 hx Bd.notSynchronized Bd.returns rfl (Or.inr (Or.inr (Or.inr (Or.inr ⟨rfl, rfl, rfl⟩)))) (hb hby d8_7) (Nat.le_of_ble_eq_true rfl) (Nat.le_of_ble_eq_true rfl) ⟨congrArg (fun z => some (Value.ref z)) (by unfold own_pk; rw [if_pos hc1_1]), N0, e2⟩
  · refine Goes.via (S' := s₁.setTop (mkF m 10 #[.val (.int p1)] [(.int (1 : Int32)), (.int p1)])) (fun tz kz => ?_) ?_
    · show Steps p.tables e below (s₁.setTop (mkF m 1 #[.val (.int p1)] [(.int p1)])) _
      refine XS.ifYes X0.here hx rfl (pc0 := 1) (pc' := 8) rfl (hb hby d8_1) rfl ((if0 _ _).trans (feq hc1_1).2) (by decide) (by decide) ?_
      refine XS.iloadN X0.here hx rfl (hb hby d8_8) rfl ?_
      refine XS.iconst X0.here hx rfl (hb hby d8_9) ?_
      exact kz
    by_cases hc10_3 : p1 = (1 : Int32)
    · refine Goes.via (S' := s₁.setTop (mkF m 13 #[.val (.int p1)] [])) (fun tz kz => ?_) ?_
      · show Steps p.tables e below (s₁.setTop (mkF m 10 #[.val (.int p1)] [(.int (1 : Int32)), (.int p1)])) _
        refine XS.icmpNo X0.here hx rfl (hb hby d8_10) rfl (teq hc10_3).2 ?_
        exact kz
      obtain ⟨T4, X4, e4, st4⟩ := getS2 X0 hx hZ hown (host := "") (Or.inl (w_ hw 75 rfl)) Via.refl e0 (S1.ext O0.2) (g := (mkF m 13 #[.val (.int p1)] [])) rfl (hb hby d8_13)
      refine Goes.via (S' := T4.setTop (mkF m 16 #[.val (.int p1)] [(.ref b1)])) st4 ?_
      exact Goes.retO X4 hx Bd.notSynchronized Bd.returns rfl (Or.inr (Or.inr (Or.inr (Or.inr ⟨rfl, rfl, rfl⟩)))) (hb hby d8_16) (Nat.le_of_ble_eq_true rfl) (Nat.le_of_ble_eq_true rfl) ⟨congrArg (fun z => some (Value.ref z)) (by unfold own_pk; rw [if_neg hc1_1, if_pos hc10_3]), N0, e4⟩
    · refine Goes.via (S' := s₁.setTop (mkF m 19 #[.val (.int p1)] [(.int (2 : Int32)), (.int p1)])) (fun tz kz => ?_) ?_
      · show Steps p.tables e below (s₁.setTop (mkF m 10 #[.val (.int p1)] [(.int (1 : Int32)), (.int p1)])) _
        refine XS.icmpYes X0.here hx rfl (pc0 := 10) (pc' := 17) rfl (hb hby d8_10) rfl (feq hc10_3).2 (by decide) (by decide) ?_
        refine XS.iloadN X0.here hx rfl (hb hby d8_17) rfl ?_
        refine XS.iconst X0.here hx rfl (hb hby d8_18) ?_
        exact kz
      by_cases hc19_5 : p1 = (2 : Int32)
      · refine Goes.via (S' := s₁.setTop (mkF m 22 #[.val (.int p1)] [])) (fun tz kz => ?_) ?_
        · show Steps p.tables e below (s₁.setTop (mkF m 19 #[.val (.int p1)] [(.int (2 : Int32)), (.int p1)])) _
          refine XS.icmpNo X0.here hx rfl (hb hby d8_19) rfl (teq hc19_5).2 ?_
          exact kz
        obtain ⟨T6, X6, e6, st6⟩ := getS2 X0 hx hZ hown (host := "") (Or.inl (w_ hw 77 rfl)) Via.refl e0 (S2.ext O0.2) (g := (mkF m 22 #[.val (.int p1)] [])) rfl (hb hby d8_22)
        refine Goes.via (S' := T6.setTop (mkF m 25 #[.val (.int p1)] [(.ref b2)])) st6 ?_
        exact Goes.retO X6 hx Bd.notSynchronized Bd.returns rfl (Or.inr (Or.inr (Or.inr (Or.inr ⟨rfl, rfl, rfl⟩)))) (hb hby d8_25) (Nat.le_of_ble_eq_true rfl) (Nat.le_of_ble_eq_true rfl) ⟨congrArg (fun z => some (Value.ref z)) (by unfold own_pk; rw [if_neg hc1_1, if_neg hc10_3, if_pos hc19_5]), N0, e6⟩
      · refine Goes.via (S' := s₁.setTop (mkF m 28 #[.val (.int p1)] [(.int (3 : Int32)), (.int p1)])) (fun tz kz => ?_) ?_
        · show Steps p.tables e below (s₁.setTop (mkF m 19 #[.val (.int p1)] [(.int (2 : Int32)), (.int p1)])) _
          refine XS.icmpYes X0.here hx rfl (pc0 := 19) (pc' := 26) rfl (hb hby d8_19) rfl (feq hc19_5).2 (by decide) (by decide) ?_
          refine XS.iloadN X0.here hx rfl (hb hby d8_26) rfl ?_
          refine XS.iconst X0.here hx rfl (hb hby d8_27) ?_
          exact kz
        by_cases hc28_7 : p1 = (3 : Int32)
        · refine Goes.via (S' := s₁.setTop (mkF m 31 #[.val (.int p1)] [])) (fun tz kz => ?_) ?_
          · show Steps p.tables e below (s₁.setTop (mkF m 28 #[.val (.int p1)] [(.int (3 : Int32)), (.int p1)])) _
            refine XS.icmpNo X0.here hx rfl (hb hby d8_28) rfl (teq hc28_7).2 ?_
            exact kz
          obtain ⟨T8, X8, e8, st8⟩ := getS2 X0 hx hZ hown (host := "") (Or.inl (w_ hw 73 rfl)) Via.refl e0 (S3.ext O0.2) (g := (mkF m 31 #[.val (.int p1)] [])) rfl (hb hby d8_31)
          refine Goes.via (S' := T8.setTop (mkF m 34 #[.val (.int p1)] [(.ref b3)])) st8 ?_
          exact Goes.retO X8 hx Bd.notSynchronized Bd.returns rfl (Or.inr (Or.inr (Or.inr (Or.inr ⟨rfl, rfl, rfl⟩)))) (hb hby d8_34) (Nat.le_of_ble_eq_true rfl) (Nat.le_of_ble_eq_true rfl) ⟨congrArg (fun z => some (Value.ref z)) (by unfold own_pk; rw [if_neg hc1_1, if_neg hc10_3, if_neg hc19_5, if_pos hc28_7]), N0, e8⟩
        · refine Goes.via (S' := s₁.setTop (mkF m 37 #[.val (.int p1)] [(.int (4 : Int32)), (.int p1)])) (fun tz kz => ?_) ?_
          · show Steps p.tables e below (s₁.setTop (mkF m 28 #[.val (.int p1)] [(.int (3 : Int32)), (.int p1)])) _
            refine XS.icmpYes X0.here hx rfl (pc0 := 28) (pc' := 35) rfl (hb hby d8_28) rfl (feq hc28_7).2 (by decide) (by decide) ?_
            refine XS.iloadN X0.here hx rfl (hb hby d8_35) rfl ?_
            refine XS.iconst X0.here hx rfl (hb hby d8_36) ?_
            exact kz
          by_cases hc37_9 : p1 = (4 : Int32)
          · refine Goes.via (S' := s₁.setTop (mkF m 40 #[.val (.int p1)] [])) (fun tz kz => ?_) ?_
            · show Steps p.tables e below (s₁.setTop (mkF m 37 #[.val (.int p1)] [(.int (4 : Int32)), (.int p1)])) _
              refine XS.icmpNo X0.here hx rfl (hb hby d8_37) rfl (teq hc37_9).2 ?_
              exact kz
            obtain ⟨T10, X10, e10, st10⟩ := getS2 X0 hx hZ hown (host := "") (Or.inl (w_ hw 71 rfl)) Via.refl e0 (S4.ext O0.2) (g := (mkF m 40 #[.val (.int p1)] [])) rfl (hb hby d8_40)
            refine Goes.via (S' := T10.setTop (mkF m 43 #[.val (.int p1)] [(.ref b4)])) st10 ?_
            exact Goes.retO X10 hx Bd.notSynchronized Bd.returns rfl (Or.inr (Or.inr (Or.inr (Or.inr ⟨rfl, rfl, rfl⟩)))) (hb hby d8_43) (Nat.le_of_ble_eq_true rfl) (Nat.le_of_ble_eq_true rfl) ⟨congrArg (fun z => some (Value.ref z)) (by unfold own_pk; rw [if_neg hc1_1, if_neg hc10_3, if_neg hc19_5, if_neg hc28_7, if_pos hc37_9]), N0, e10⟩
          · refine Goes.via (S' := s₁.setTop (mkF m 44 #[.val (.int p1)] [])) (fun tz kz => ?_) ?_
            · show Steps p.tables e below (s₁.setTop (mkF m 37 #[.val (.int p1)] [(.int (4 : Int32)), (.int p1)])) _
              refine XS.icmpYes X0.here hx rfl (pc0 := 37) (pc' := 44) rfl (hb hby d8_37) rfl (feq hc37_9).2 (by decide) (by decide) ?_
              exact kz
            obtain ⟨T11, X11, e11, st11⟩ := getS2 X0 hx hZ hown (host := "") (Or.inl (w_ hw 88 rfl)) Via.refl e0 (S5.ext O0.2) (g := (mkF m 44 #[.val (.int p1)] [])) rfl (hb hby d8_44)
            refine Goes.via (S' := T11.setTop (mkF m 47 #[.val (.int p1)] [(.ref b5)])) st11 ?_
            exact Goes.retO X11 hx Bd.notSynchronized Bd.returns rfl (Or.inr (Or.inr (Or.inr (Or.inr ⟨rfl, rfl, rfl⟩)))) (hb hby d8_47) (Nat.le_of_ble_eq_true rfl) (Nat.le_of_ble_eq_true rfl) ⟨congrArg (fun z => some (Value.ref z)) (by unfold own_pk; rw [if_neg hc1_1, if_neg hc10_3, if_neg hc19_5, if_neg hc28_7, if_neg hc37_9]), N0, e11⟩
theorem d10_0 : decode jdk_30_method_1_code 0 = .ok (.aload_n 0, 1) := by decide +kernel
theorem d10_1 : decode jdk_30_method_1_code 1 = .ok (.invokespecial 1, 3) := by decide +kernel
theorem d10_4 : decode jdk_30_method_1_code 4 = .ok (.return_, 1) := by decide +kernel
theorem pn_10 : plainName "java/lang/Record" = true := by first | (simp [plainName, overriddenIn]; done) | decide +kernel
theorem ef_10 (m : MethodId) (x0 : Addr) : entryFrame m #[(.ref x0)] 1 = mkF m 0 #[.val (.ref x0)] [] := by first | (simp [entryFrame, mkF, argsToLocals, Value.category]; done) | rfl
def Q_rm10 (Z : State) (a1 : Addr)  (h0 : Heap) (n0 : Nat) : Option Value → Heap → List Loc → Prop := fun v h L => v = none ∧ Fr n0 L ∧ h = h0
set_option maxRecDepth 65536 in
set_option maxHeartbeats 40000000 in
theorem rm10 (l : Launch) (Z : State) (a0 : Array Value) (hw : ∀ d ∈ tables_1, d.before a0 Z = true) (ws : List Jvm.Cond) (a1 : Addr)  (h0 : Heap) (n0 : Nat) (Z0 : n0 ≤ h0.size) :
    own_M l Z (⟨"java/lang/Record", "<init>", "()V"⟩ : MethodName) (Jvm.Cond.code (⟨"java/lang/Record", "<init>", "()V"⟩ : MethodName) jdk_30_method_1_code 1 none) ws ({ frames := 1, cells := 0, slots := 0, locals := 12 } : Room) #[(.ref a1)] h0 (Q_rm10 Z a1 h0 n0) := by
  refine MetFree.of_bodySF (plainFor_of_name pn_10) hisR ?_
  intro p e s m args below meth c s₁ Bd hml0 hP hK
  obtain ⟨rfl, hZ, hh⟩ := hP
  have hx := Bd.exec
  have hby := Bd.bytes
  have hml : c.maxLocals = 1 := hml0
  have hown : s.vm.findClass "java/lang/Record" = some m.cls := findClass_of_methodNamed Bd.named
  have hnm := (name_of_methodNamed Bd.named Bd.method).1
  have X0 : Stand p l e ({ frames := 1, cells := 0, slots := 0, locals := 12 } : Room) s m #[(.ref a1)] below meth c s₁ [] 0 0 := Stand.of_body Bd
  have e0 : s₁.heap = h0 := by rw [← hh, Bd.state]; rfl
  have N0 := Fr.nil n0
  show Goes p e below (Fin s (Q_rm10 Z a1 h0 n0) ({ frames := 1, cells := 0, slots := 0, locals := 12 } : Room).cells ({ frames := 1, cells := 0, slots := 0, locals := 12 } : Room).slots) _
  refine Goes.via (S' := s₁.setTop (mkF m 0 #[.val (.ref a1)] [])) (fun tz kz => castTop (ef_10 m a1 ) kz) ?_
  refine Goes.via (S' := s₁.setTop (mkF m 1 #[.val (.ref a1)] [(.ref a1)])) (fun tz kz => ?_) ?_
  · show Steps p.tables e below (s₁.setTop (mkF m 0 #[.val (.ref a1)] [])) _
    refine XS.aloadN X0.here hx rfl (hb hby d10_0) rfl rfl ?_
    exact kz
  obtain ⟨T1, X1, e1, st1⟩ := initO X0 hx hZ hown (w_ hw 52 rfl) (w_ hw 17 rfl) (w_ hw 18 rfl) e0 (g := (mkF m 1 #[.val (.ref a1)] [(.ref a1)])) rfl (by rw [hml]; rfl) rfl (hb hby d10_1) (by decide) (W := 0) (by show 2 * 0 + _ ≤ _; exact Nat.le_of_eq rfl) (by decide)
  refine Goes.via (S' := T1.setTop (mkF m 4 #[.val (.ref a1)] [])) st1 ?_
  exact Goes.retV X1 hx Bd.notSynchronized Bd.returns (hb hby d10_4) (Nat.le_of_ble_eq_true rfl) (Nat.le_of_ble_eq_true rfl) ⟨rfl, N0, e1⟩
theorem d9_0 : decode prog_55_method_1_code 0 = .ok (.aload_n 0, 1) := by decide +kernel
theorem d9_1 : decode prog_55_method_1_code 1 = .ok (.invokespecial 1, 3) := by decide +kernel
theorem d9_4 : decode prog_55_method_1_code 4 = .ok (.aload_n 0, 1) := by decide +kernel
theorem d9_5 : decode prog_55_method_1_code 5 = .ok (.aload_n 1, 1) := by decide +kernel
theorem d9_6 : decode prog_55_method_1_code 6 = .ok (.putfield 7, 3) := by decide +kernel
theorem d9_9 : decode prog_55_method_1_code 9 = .ok (.aload_n 0, 1) := by decide +kernel
theorem d9_10 : decode prog_55_method_1_code 10 = .ok (.aload_n 2, 1) := by decide +kernel
theorem d9_11 : decode prog_55_method_1_code 11 = .ok (.putfield 13, 3) := by decide +kernel
theorem d9_14 : decode prog_55_method_1_code 14 = .ok (.aload_n 0, 1) := by decide +kernel
theorem d9_15 : decode prog_55_method_1_code 15 = .ok (.iload_n 3, 1) := by decide +kernel
theorem d9_16 : decode prog_55_method_1_code 16 = .ok (.putfield 17, 3) := by decide +kernel
theorem d9_19 : decode prog_55_method_1_code 19 = .ok (.aload_n 0, 1) := by decide +kernel
theorem d9_20 : decode prog_55_method_1_code 20 = .ok (.iload 4, 2) := by decide +kernel
theorem d9_22 : decode prog_55_method_1_code 22 = .ok (.putfield 21, 3) := by decide +kernel
theorem d9_25 : decode prog_55_method_1_code 25 = .ok (.return_, 1) := by decide +kernel
theorem pn_9 : plainName "com/example/loopwright/loopwright/Lexer$Token" = true := by first | (simp [plainName, overriddenIn]; done) | decide +kernel
theorem ef_9 (m : MethodId) (x0 : Addr) (x1 : Addr) (x2 : Addr) (x3 : Int32) (x4 : Int32) : entryFrame m #[(.ref x0), (.ref x1), (.ref x2), (.int x3), (.int x4)] 5 = mkF m 0 #[.val (.ref x0), .val (.ref x1), .val (.ref x2), .val (.int x3), .val (.int x4)] [] := by first | (simp [entryFrame, mkF, argsToLocals, Value.category]; done) | rfl
def Q_rm9 (Z : State) (a1 : Addr) (kk : Addr) (tt : Addr) (p3 : Int32) (p4 : Int32)  (h0 : Heap) (n0 : Nat) : Option Value → Heap → List Loc → Prop := fun v h L => v = none ∧ Fr n0 L ∧ Keep h0 h [a1] ∧ Exa Z h a1 "com/example/loopwright/loopwright/Lexer$Token" ∧ Fld Z h a1 "com/example/loopwright/loopwright/Lexer$Token" "kind" "Lcom/example/loopwright/loopwright/Lexer$Kind;" (.ref kk) ∧ Fld Z h a1 "com/example/loopwright/loopwright/Lexer$Token" "text" "Ljava/lang/String;" (.ref tt)
set_option maxRecDepth 65536 in
set_option maxHeartbeats 40000000 in
theorem rm9 (l : Launch) (Z : State) (a0 : Array Value) (hw : ∀ d ∈ tables_1, d.before a0 Z = true) (ws : List Jvm.Cond) (a1 : Addr) (kk : Addr) (tt : Addr) (p3 : Int32) (p4 : Int32)  (h0 : Heap) (n0 : Nat) (Z0 : n0 ≤ h0.size) (F1 : Fld Z h0 a1 "com/example/loopwright/loopwright/Lexer$Token" "kind" "Lcom/example/loopwright/loopwright/Lexer$Kind;" .null) (F2 : Fld Z h0 a1 "com/example/loopwright/loopwright/Lexer$Token" "text" "Ljava/lang/String;" .null) (F3 : Fld Z h0 a1 "com/example/loopwright/loopwright/Lexer$Token" "line" "I" (.int (0 : Int32))) (F4 : Fld Z h0 a1 "com/example/loopwright/loopwright/Lexer$Token" "column" "I" (.int (0 : Int32))) (E1 : Exa Z h0 a1 "com/example/loopwright/loopwright/Lexer$Token") (g1 : n0 ≤ a1) :
    own_M l Z (⟨"com/example/loopwright/loopwright/Lexer$Token", "<init>", "(Lcom/example/loopwright/loopwright/Lexer$Kind;Ljava/lang/String;II)V"⟩ : MethodName) (Jvm.Cond.code (⟨"com/example/loopwright/loopwright/Lexer$Token", "<init>", "(Lcom/example/loopwright/loopwright/Lexer$Kind;Ljava/lang/String;II)V"⟩ : MethodName) prog_55_method_1_code 5 none) ws ({ frames := 2, cells := 0, slots := 0, locals := 30 } : Room) #[(.ref a1), (.ref kk), (.ref tt), (.int p3), (.int p4)] h0 (Q_rm9 Z a1 kk tt p3 p4 h0 n0) := by
  refine MetFree.of_bodySF (plainFor_of_name pn_9) hisR ?_
  intro p e s m args below meth c s₁ Bd hml0 hP hK
  obtain ⟨rfl, hZ, hh⟩ := hP
  have hx := Bd.exec
  have hby := Bd.bytes
  have hml : c.maxLocals = 5 := hml0
  have hown : s.vm.findClass "com/example/loopwright/loopwright/Lexer$Token" = some m.cls := findClass_of_methodNamed Bd.named
  have hnm := (name_of_methodNamed Bd.named Bd.method).1
  have X0 : Stand p l e ({ frames := 2, cells := 0, slots := 0, locals := 30 } : Room) s m #[(.ref a1), (.ref kk), (.ref tt), (.int p3), (.int p4)] below meth c s₁ [] 0 0 := Stand.of_body Bd
  have e0 : s₁.heap = h0 := by rw [← hh, Bd.state]; rfl
  have N0 := Fr.nil n0
  show Goes p e below (Fin s (Q_rm9 Z a1 kk tt p3 p4 h0 n0) ({ frames := 2, cells := 0, slots := 0, locals := 30 } : Room).cells ({ frames := 2, cells := 0, slots := 0, locals := 30 } : Room).slots) _
  refine Goes.via (S' := s₁.setTop (mkF m 0 #[.val (.ref a1), .val (.ref kk), .val (.ref tt), .val (.int p3), .val (.int p4)] [])) (fun tz kz => castTop (ef_9 m a1 kk tt p3 p4 ) kz) ?_
  refine Goes.via (S' := s₁.setTop (mkF m 1 #[.val (.ref a1), .val (.ref kk), .val (.ref tt), .val (.int p3), .val (.int p4)] [(.ref a1)])) (fun tz kz => ?_) ?_
  · show Steps p.tables e below (s₁.setTop (mkF m 0 #[.val (.ref a1), .val (.ref kk), .val (.ref tt), .val (.int p3), .val (.int p4)] [])) _
    refine XS.aloadN X0.here hx rfl (hb hby d9_0) rfl rfl ?_
    exact kz
  obtain ⟨_, _, ⟨T1, L1, k1, n1⟩, -, X1, ⟨Lc1, hQ1, l1, y1, z1⟩, st1⟩ := X0.specialBack hx (y := (⟨"java/lang/Record", "<init>", "()V"⟩ : MethodName)) rfl hown (mvT hZ (w_ hw 47 rfl)) (mvT hZ (w_ hw 48 rfl)) (mvT hZ (w_ hw 51 rfl)) (by decide) (backOf (W := 0) (rm10 l Z a0 hw [] a1 h0 n0 Z0) hZ (w_ hw 51 rfl) (w_ hw 50 rfl) (by decide) (by decide)) (g := (mkF m 1 #[.val (.ref a1), .val (.ref kk), .val (.ref tt), .val (.int p3), .val (.int p4)] [(.ref a1)])) rfl (by rw [hml]; rfl) (Steps.refl _) (a := a1) (argsL := []) (rest := []) (lenOf pd_5 rfl) rfl (by show 2 * 0 + _ ≤ _; exact Nat.le_of_eq rfl) (hb hby d9_1) (fun _ _ => ⟨rfl, e0, (by decide : 0 + 0 ≤ _), (by decide : 0 + 0 ≤ _)⟩)
  dsimp only [Pt.U, Pt.locs, Pt.cells, Pt.slots] at X1 l1 y1 z1 st1 hQ1
  subst l1 y1 z1
  obtain ⟨rfl, N1, e1⟩ := hQ1
  have Nf1 := Fr.app N0 N1
  refine Goes.via (S' := T1.setTop (mkF m 4 #[.val (.ref a1), .val (.ref kk), .val (.ref tt), .val (.int p3), .val (.int p4)] [])) (fun _ kz => st1.trans kz) ?_
  have Exkind := E1
  refine Goes.via (S' := T1.setTop (mkF m 6 #[.val (.ref a1), .val (.ref kk), .val (.ref tt), .val (.int p3), .val (.int p4)] [(.ref kk), (.ref a1)])) (fun tz kz => ?_) ?_
  · show Steps p.tables e below (T1.setTop (mkF m 4 #[.val (.ref a1), .val (.ref kk), .val (.ref tt), .val (.int p3), .val (.int p4)] [])) _
    refine XS.aloadN X1.here hx rfl (hb hby d9_4) rfl rfl ?_
    refine XS.aloadN X1.here hx rfl (hb hby d9_5) rfl rfl ?_
    exact kz
  obtain ⟨T2, h2, X2, e2, W2, st2⟩ := putF X1 hx hZ hown (host := "") (Or.inl (w_ hw 53 rfl)) Via.refl e1 F1 E1 (Or.inr ⟨(w_ hw 54 rfl), rfl, hnm⟩) (w_ hw 36 rfl) (ty := (.object "com/example/loopwright/loopwright/Lexer$Kind")) (by decide) rfl rfl (g := (mkF m 6 #[.val (.ref a1), .val (.ref kk), .val (.ref tt), .val (.int p3), .val (.int p4)] [(.ref kk), (.ref a1)])) rfl rfl (hb hby d9_6)
  refine Goes.via (S' := T2.setTop (mkF m 9 #[.val (.ref a1), .val (.ref kk), .val (.ref tt), .val (.int p3), .val (.int p4)] [])) st2 ?_
  have N2 := Fr.snoc X2 Nf1 g1
  have F_kind_2 := F1.same W2
  have F_text_2 := F2.other W2 (Or.inr (slot_ne (Or.inr (w_ hw 56 rfl)) (Or.inr (w_ hw 54 rfl)) (by decide) (t := (.object "java/lang/String")) (t' := (.object "com/example/loopwright/loopwright/Lexer$Kind")) (by decide) (by decide)))
  have F_line_2 := F3.other W2 (Or.inr (slot_ne (Or.inr (w_ hw 58 rfl)) (Or.inr (w_ hw 54 rfl)) (by decide) (t := .int) (t' := (.object "com/example/loopwright/loopwright/Lexer$Kind")) (by decide) (by decide)))
  have F_column_2 := F4.other W2 (Or.inr (slot_ne (Or.inr (w_ hw 60 rfl)) (Or.inr (w_ hw 54 rfl)) (by decide) (t := .int) (t' := (.object "com/example/loopwright/loopwright/Lexer$Kind")) (by decide) (by decide)))
  have E_2 := E1.wr W2
  have K_2 := (Keep.refl h0 [a1]).wr W2 (Or.inl (List.mem_singleton.mpr rfl))
  have Extext := E_2
  refine Goes.via (S' := T2.setTop (mkF m 11 #[.val (.ref a1), .val (.ref kk), .val (.ref tt), .val (.int p3), .val (.int p4)] [(.ref tt), (.ref a1)])) (fun tz kz => ?_) ?_
  · show Steps p.tables e below (T2.setTop (mkF m 9 #[.val (.ref a1), .val (.ref kk), .val (.ref tt), .val (.int p3), .val (.int p4)] [])) _
    refine XS.aloadN X2.here hx rfl (hb hby d9_9) rfl rfl ?_
    refine XS.aloadN X2.here hx rfl (hb hby d9_10) rfl rfl ?_
    exact kz
  obtain ⟨T3, h3, X3, e3, W3, st3⟩ := putF X2 hx hZ hown (host := "") (Or.inl (w_ hw 55 rfl)) Via.refl e2 F_text_2 E_2 (Or.inr ⟨(w_ hw 56 rfl), rfl, hnm⟩) (w_ hw 36 rfl) (ty := (.object "java/lang/String")) (by decide) rfl rfl (g := (mkF m 11 #[.val (.ref a1), .val (.ref kk), .val (.ref tt), .val (.int p3), .val (.int p4)] [(.ref tt), (.ref a1)])) rfl rfl (hb hby d9_11)
  refine Goes.via (S' := T3.setTop (mkF m 14 #[.val (.ref a1), .val (.ref kk), .val (.ref tt), .val (.int p3), .val (.int p4)] [])) st3 ?_
  have N3 := Fr.snoc X3 N2 g1
  have F_kind_3 := F_kind_2.other W3 (Or.inr (slot_ne (Or.inr (w_ hw 54 rfl)) (Or.inr (w_ hw 56 rfl)) (by decide) (t := (.object "com/example/loopwright/loopwright/Lexer$Kind")) (t' := (.object "java/lang/String")) (by decide) (by decide)))
  have F_text_3 := F_text_2.same W3
  have F_line_3 := F_line_2.other W3 (Or.inr (slot_ne (Or.inr (w_ hw 58 rfl)) (Or.inr (w_ hw 56 rfl)) (by decide) (t := .int) (t' := (.object "java/lang/String")) (by decide) (by decide)))
  have F_column_3 := F_column_2.other W3 (Or.inr (slot_ne (Or.inr (w_ hw 60 rfl)) (Or.inr (w_ hw 56 rfl)) (by decide) (t := .int) (t' := (.object "java/lang/String")) (by decide) (by decide)))
  have E_3 := E_2.wr W3
  have K_3 := (K_2).wr W3 (Or.inl (List.mem_singleton.mpr rfl))
  have Exline := E_3
  refine Goes.via (S' := T3.setTop (mkF m 16 #[.val (.ref a1), .val (.ref kk), .val (.ref tt), .val (.int p3), .val (.int p4)] [(.int p3), (.ref a1)])) (fun tz kz => ?_) ?_
  · show Steps p.tables e below (T3.setTop (mkF m 14 #[.val (.ref a1), .val (.ref kk), .val (.ref tt), .val (.int p3), .val (.int p4)] [])) _
    refine XS.aloadN X3.here hx rfl (hb hby d9_14) rfl rfl ?_
    refine XS.iloadN X3.here hx rfl (hb hby d9_15) rfl ?_
    exact kz
  obtain ⟨T4, h4, X4, e4, W4, st4⟩ := putF X3 hx hZ hown (host := "") (Or.inl (w_ hw 57 rfl)) Via.refl e3 F_line_3 E_3 (Or.inr ⟨(w_ hw 58 rfl), rfl, hnm⟩) (w_ hw 36 rfl) (ty := .int) (by decide) rfl rfl (g := (mkF m 16 #[.val (.ref a1), .val (.ref kk), .val (.ref tt), .val (.int p3), .val (.int p4)] [(.int p3), (.ref a1)])) rfl rfl (hb hby d9_16)
  refine Goes.via (S' := T4.setTop (mkF m 19 #[.val (.ref a1), .val (.ref kk), .val (.ref tt), .val (.int p3), .val (.int p4)] [])) st4 ?_
  have N4 := Fr.snoc X4 N3 g1
  have F_kind_4 := F_kind_3.other W4 (Or.inr (slot_ne (Or.inr (w_ hw 54 rfl)) (Or.inr (w_ hw 58 rfl)) (by decide) (t := (.object "com/example/loopwright/loopwright/Lexer$Kind")) (t' := .int) (by decide) (by decide)))
  have F_text_4 := F_text_3.other W4 (Or.inr (slot_ne (Or.inr (w_ hw 56 rfl)) (Or.inr (w_ hw 58 rfl)) (by decide) (t := (.object "java/lang/String")) (t' := .int) (by decide) (by decide)))
  have F_line_4 := F_line_3.same W4
  have F_column_4 := F_column_3.other W4 (Or.inr (slot_ne (Or.inr (w_ hw 60 rfl)) (Or.inr (w_ hw 58 rfl)) (by decide) (t := .int) (t' := .int) (by decide) (by decide)))
  have E_4 := E_3.wr W4
  have K_4 := (K_3).wr W4 (Or.inl (List.mem_singleton.mpr rfl))
  have Excolumn := E_4
  refine Goes.via (S' := T4.setTop (mkF m 22 #[.val (.ref a1), .val (.ref kk), .val (.ref tt), .val (.int p3), .val (.int p4)] [(.int p4), (.ref a1)])) (fun tz kz => ?_) ?_
  · show Steps p.tables e below (T4.setTop (mkF m 19 #[.val (.ref a1), .val (.ref kk), .val (.ref tt), .val (.int p3), .val (.int p4)] [])) _
    refine XS.aloadN X4.here hx rfl (hb hby d9_19) rfl rfl ?_
    refine XS.iload X4.here hx rfl (hb hby d9_20) rfl ?_
    exact kz
  obtain ⟨T5, h5, X5, e5, W5, st5⟩ := putF X4 hx hZ hown (host := "") (Or.inl (w_ hw 59 rfl)) Via.refl e4 F_column_4 E_4 (Or.inr ⟨(w_ hw 60 rfl), rfl, hnm⟩) (w_ hw 36 rfl) (ty := .int) (by decide) rfl rfl (g := (mkF m 22 #[.val (.ref a1), .val (.ref kk), .val (.ref tt), .val (.int p3), .val (.int p4)] [(.int p4), (.ref a1)])) rfl rfl (hb hby d9_22)
  refine Goes.via (S' := T5.setTop (mkF m 25 #[.val (.ref a1), .val (.ref kk), .val (.ref tt), .val (.int p3), .val (.int p4)] [])) st5 ?_
  have N5 := Fr.snoc X5 N4 g1
  have F_kind_5 := F_kind_4.other W5 (Or.inr (slot_ne (Or.inr (w_ hw 54 rfl)) (Or.inr (w_ hw 60 rfl)) (by decide) (t := (.object "com/example/loopwright/loopwright/Lexer$Kind")) (t' := .int) (by decide) (by decide)))
  have F_text_5 := F_text_4.other W5 (Or.inr (slot_ne (Or.inr (w_ hw 56 rfl)) (Or.inr (w_ hw 60 rfl)) (by decide) (t := (.object "java/lang/String")) (t' := .int) (by decide) (by decide)))
  have F_line_5 := F_line_4.other W5 (Or.inr (slot_ne (Or.inr (w_ hw 58 rfl)) (Or.inr (w_ hw 60 rfl)) (by decide) (t := .int) (t' := .int) (by decide) (by decide)))
  have F_column_5 := F_column_4.same W5
  have E_5 := E_4.wr W5
  have K_5 := (K_4).wr W5 (Or.inl (List.mem_singleton.mpr rfl))
  exact Goes.retV X5 hx Bd.notSynchronized Bd.returns (hb hby d9_25) (Nat.le_of_ble_eq_true rfl) (Nat.le_of_ble_eq_true rfl) (by rw [e5]; exact ⟨rfl, N5, K_5, E_5, F_kind_5, F_text_5⟩)
/-- equal strings -/
def own_eqb (xs ys : List Int32) : Int32 := if xs = ys then 1 else 0
theorem own_eq0 {xs ys : List Int32} (h : nar .boolean (own_eqb xs ys) = (0 : Int32)) : nar .boolean (0 : Int32) = nar .boolean (own_eqb xs ys) := by rw [h]; rfl
theorem own_eq1 {xs ys : List Int32} (h : ¬ nar .boolean (own_eqb xs ys) = (0 : Int32)) : nar .boolean (1 : Int32) = nar .boolean (own_eqb xs ys) := by
  unfold own_eqb at *; split
  · rfl
  · rename_i q; rw [if_neg q] at h; exact absurd rfl h
theorem d13_0 : decode jdk_43_method_13_code 0 = .ok (.aload_n 0, 1) := by decide +kernel
theorem d13_1 : decode jdk_43_method_13_code 1 = .ok (.arraylength, 1) := by decide +kernel
theorem d13_2 : decode jdk_43_method_13_code 2 = .ok (.aload_n 1, 1) := by decide +kernel
theorem d13_3 : decode jdk_43_method_13_code 3 = .ok (.arraylength, 1) := by decide +kernel
theorem d13_4 : decode jdk_43_method_13_code 4 = .ok (.if_icmp .ne 30, 3) := by decide +kernel
theorem d13_7 : decode jdk_43_method_13_code 7 = .ok (.iconst 0, 1) := by decide +kernel
theorem d13_8 : decode jdk_43_method_13_code 8 = .ok (.istore_n 2, 1) := by decide +kernel
theorem d13_9 : decode jdk_43_method_13_code 9 = .ok (.iload_n 2, 1) := by decide +kernel
theorem d13_10 : decode jdk_43_method_13_code 10 = .ok (.aload_n 0, 1) := by decide +kernel
theorem d13_11 : decode jdk_43_method_13_code 11 = .ok (.arraylength, 1) := by decide +kernel
theorem d13_12 : decode jdk_43_method_13_code 12 = .ok (.if_icmp .ge 20, 3) := by decide +kernel
theorem d13_15 : decode jdk_43_method_13_code 15 = .ok (.aload_n 0, 1) := by decide +kernel
theorem d13_16 : decode jdk_43_method_13_code 16 = .ok (.iload_n 2, 1) := by decide +kernel
theorem d13_17 : decode jdk_43_method_13_code 17 = .ok (.baload, 1) := by decide +kernel
theorem d13_18 : decode jdk_43_method_13_code 18 = .ok (.aload_n 1, 1) := by decide +kernel
theorem d13_19 : decode jdk_43_method_13_code 19 = .ok (.iload_n 2, 1) := by decide +kernel
theorem d13_20 : decode jdk_43_method_13_code 20 = .ok (.baload, 1) := by decide +kernel
theorem d13_21 : decode jdk_43_method_13_code 21 = .ok (.if_icmp .eq 5, 3) := by decide +kernel
theorem d13_24 : decode jdk_43_method_13_code 24 = .ok (.iconst 0, 1) := by decide +kernel
theorem d13_25 : decode jdk_43_method_13_code 25 = .ok (.ireturn, 1) := by decide +kernel
theorem d13_26 : decode jdk_43_method_13_code 26 = .ok (.iinc 2 1, 3) := by decide +kernel
theorem d13_29 : decode jdk_43_method_13_code 29 = .ok (.goto (-20), 3) := by decide +kernel
theorem d13_32 : decode jdk_43_method_13_code 32 = .ok (.iconst 1, 1) := by decide +kernel
theorem d13_33 : decode jdk_43_method_13_code 33 = .ok (.ireturn, 1) := by decide +kernel
theorem d13_34 : decode jdk_43_method_13_code 34 = .ok (.iconst 0, 1) := by decide +kernel
theorem d13_35 : decode jdk_43_method_13_code 35 = .ok (.ireturn, 1) := by decide +kernel
theorem pn_13 : plainName "java/lang/StringLatin1" = true := by first | (simp [plainName, overriddenIn]; done) | decide +kernel
theorem ef_13 (m : MethodId) (x0 : Addr) (x1 : Addr) : entryFrame m #[(.ref x0), (.ref x1)] 3 = mkF m 0 #[.val (.ref x0), .val (.ref x1), .unset] [] := by first | (simp [entryFrame, mkF, argsToLocals, Value.category]; done) | rfl
def Q_req_00 (Z : State) (ba : Addr) (bb : Addr) (ka kb : ClassId) (h0 : Heap) (n0 : Nat) : Option Value → Heap → List Loc → Prop := fun v h L => v = some (.int (nar .boolean (own_eqb [] []))) ∧ Fr n0 L ∧ h = h0
set_option maxRecDepth 65536 in
set_option maxHeartbeats 40000000 in
theorem req_00 (l : Launch) (Z : State) (a0 : Array Value) (hw : ∀ d ∈ tables_1, d.before a0 Z = true) (ws : List Jvm.Cond) (ba : Addr) (bb : Addr) (ka kb : ClassId) (h0 : Heap) (n0 : Nat) (Z0 : n0 ≤ h0.size) (A0 : Arv Z h0 ba ka .byte (0 : Int32) [] (.int 0)) (B0 : Arv Z h0 bb kb .byte (0 : Int32) [] (.int 0)) :
    own_M l Z (⟨"java/lang/StringLatin1", "equals", "([B[B)Z"⟩ : MethodName) (Jvm.Cond.code (⟨"java/lang/StringLatin1", "equals", "([B[B)Z"⟩ : MethodName) jdk_43_method_13_code 3 (some .boolean)) ws ({ frames := 0, cells := 0, slots := 0, locals := 0 } : Room) #[(.ref ba), (.ref bb)] h0 (Q_req_00 Z ba bb ka kb h0 n0) := by
  refine MetFree.of_bodySF (plainFor_of_name pn_13) hisR ?_
  intro p e s m args below meth c s₁ Bd hml0 hP hK
  obtain ⟨rfl, hZ, hh⟩ := hP
  have hx := Bd.exec
  have hby := Bd.bytes
  have hml : c.maxLocals = 3 := hml0
  have hown : s.vm.findClass "java/lang/StringLatin1" = some m.cls := findClass_of_methodNamed Bd.named
  have hnm := (name_of_methodNamed Bd.named Bd.method).1
  have X0 : Stand p l e ({ frames := 0, cells := 0, slots := 0, locals := 0 } : Room) s m #[(.ref ba), (.ref bb)] below meth c s₁ [] 0 0 := Stand.of_body Bd
  have e0 : s₁.heap = h0 := by rw [← hh, Bd.state]; rfl
  have N0 := Fr.nil n0
  show Goes p e below (Fin s (Q_req_00 Z ba bb ka kb h0 n0) ({ frames := 0, cells := 0, slots := 0, locals := 0 } : Room).cells ({ frames := 0, cells := 0, slots := 0, locals := 0 } : Room).slots) _
  refine Goes.via (S' := s₁.setTop (mkF m 0 #[.val (.ref ba), .val (.ref bb), .unset] [])) (fun tz kz => castTop (ef_13 m ba bb ) kz) ?_
  refine Goes.via (S' := s₁.setTop (mkF m 1 #[.val (.ref ba), .val (.ref bb), .unset] [(.ref ba)])) (fun tz kz => ?_) ?_
  · show Steps p.tables e below (s₁.setTop (mkF m 0 #[.val (.ref ba), .val (.ref bb), .unset] [])) _
    refine XS.aloadN X0.here hx rfl (hb hby d13_0) rfl rfl ?_
    exact kz
  obtain ⟨cl1, Ar1, q1, Sz1, Nn1, Hs1, G1⟩ := (id A0)
  refine Goes.via (S' := s₁.setTop (mkF m 3 #[.val (.ref ba), .val (.ref bb), .unset] [(.ref bb), (.int (0 : Int32))])) (fun tz kz => ?_) ?_
  · show Steps p.tables e below (s₁.setTop (mkF m 1 #[.val (.ref ba), .val (.ref bb), .unset] [(.ref ba)])) _
    refine X0.arraylength hx (by rw [e0]; exact Ar1.1) (State.isArrayOf_alike hZ.alike Ar1.2.1) (g := (mkF m 1 #[.val (.ref ba), .val (.ref bb), .unset] [(.ref ba)])) rfl rfl (hb hby d13_1) _ ?_
    rw [len_of Sz1 Nn1]
    refine XS.aloadN X0.here hx rfl (hb hby d13_2) rfl rfl ?_
    exact kz
  obtain ⟨cl2, Ar2, q2, Sz2, Nn2, Hs2, G2⟩ := (id B0)
  refine Goes.via (S' := s₁.setTop (mkF m 11 #[.val (.ref ba), .val (.ref bb), .val (.int (0 : Int32))] [(.ref ba), (.int (0 : Int32))])) (fun tz kz => ?_) ?_
  · show Steps p.tables e below (s₁.setTop (mkF m 3 #[.val (.ref ba), .val (.ref bb), .unset] [(.ref bb), (.int (0 : Int32))])) _
    refine X0.arraylength hx (by rw [e0]; exact Ar2.1) (State.isArrayOf_alike hZ.alike Ar2.2.1) (g := (mkF m 3 #[.val (.ref ba), .val (.ref bb), .unset] [(.ref bb), (.int (0 : Int32))])) rfl rfl (hb hby d13_3) _ ?_
    rw [len_of Sz2 Nn2]
    refine XS.icmpNo X0.here hx rfl (hb hby d13_4) rfl (teq (by decide)).2 ?_
    refine XS.iconst X0.here hx rfl (hb hby d13_7) ?_
    refine XS.istoreN X0.here hx rfl (hb hby d13_8) rfl (l' := #[.val (.ref ba), .val (.ref bb), .val (.int (0 : Int32))]) rfl ?_
    show Steps p.tables e below (s₁.setTop (mkF m 9 #[.val (.ref ba), .val (.ref bb), .val (.int (0 : Int32))] [])) _
    refine XS.iloadN X0.here hx rfl (hb hby d13_9) rfl ?_
    refine XS.aloadN X0.here hx rfl (hb hby d13_10) rfl rfl ?_
    exact kz
  obtain ⟨cl3, Ar3, q3, Sz3, Nn3, Hs3, G3⟩ := (id A0)
  refine Goes.via (S' := s₁.setTop (mkF m 33 #[.val (.ref ba), .val (.ref bb), .val (.int (0 : Int32))] [(.int (1 : Int32))])) (fun tz kz => ?_) ?_
  · show Steps p.tables e below (s₁.setTop (mkF m 11 #[.val (.ref ba), .val (.ref bb), .val (.int (0 : Int32))] [(.ref ba), (.int (0 : Int32))])) _
    refine X0.arraylength hx (by rw [e0]; exact Ar3.1) (State.isArrayOf_alike hZ.alike Ar3.2.1) (g := (mkF m 11 #[.val (.ref ba), .val (.ref bb), .val (.int (0 : Int32))] [(.ref ba), (.int (0 : Int32))])) rfl rfl (hb hby d13_11) _ ?_
    rw [len_of Sz3 Nn3]
    refine XS.icmpYes X0.here hx rfl (pc0 := 12) (pc' := 32) rfl (hb hby d13_12) rfl (flt (by decide)).2.1 (by decide) (by decide) ?_
    refine XS.iconst X0.here hx rfl (hb hby d13_32) ?_
    exact kz
  exact Goes.retN X0 hx Bd.notSynchronized (t := .boolean) Bd.returns (by simp) (hb hby d13_33) (Nat.le_of_ble_eq_true rfl) (Nat.le_of_ble_eq_true rfl) ⟨congrArg (fun z => some (Value.int z)) (by simp [own_eqb]), N0, e0⟩
theorem d12_0 : decode jdk_42_method_66_code 0 = .ok (.aload_n 0, 1) := by decide +kernel
theorem d12_1 : decode jdk_42_method_66_code 1 = .ok (.aload_n 1, 1) := by decide +kernel
theorem d12_2 : decode jdk_42_method_66_code 2 = .ok (.if_acmp .ne 5, 3) := by decide +kernel
theorem d12_7 : decode jdk_42_method_66_code 7 = .ok (.aload_n 1, 1) := by decide +kernel
theorem d12_8 : decode jdk_42_method_66_code 8 = .ok (.instanceof 10, 3) := by decide +kernel
theorem d12_11 : decode jdk_42_method_66_code 11 = .ok (.ifCond .eq 43, 3) := by decide +kernel
theorem d12_14 : decode jdk_42_method_66_code 14 = .ok (.aload_n 1, 1) := by decide +kernel
theorem d12_15 : decode jdk_42_method_66_code 15 = .ok (.checkcast 10, 3) := by decide +kernel
theorem d12_18 : decode jdk_42_method_66_code 18 = .ok (.astore_n 2, 1) := by decide +kernel
theorem d12_19 : decode jdk_42_method_66_code 19 = .ok (.getstatic 38, 3) := by decide +kernel
theorem d12_22 : decode jdk_42_method_66_code 22 = .ok (.ifCond .eq 14, 3) := by decide +kernel
theorem d12_25 : decode jdk_42_method_66_code 25 = .ok (.aload_n 0, 1) := by decide +kernel
theorem d12_26 : decode jdk_42_method_66_code 26 = .ok (.getfield 15, 3) := by decide +kernel
theorem d12_29 : decode jdk_42_method_66_code 29 = .ok (.aload_n 2, 1) := by decide +kernel
theorem d12_30 : decode jdk_42_method_66_code 30 = .ok (.getfield 15, 3) := by decide +kernel
theorem d12_33 : decode jdk_42_method_66_code 33 = .ok (.if_icmp .ne 21, 3) := by decide +kernel
theorem d12_36 : decode jdk_42_method_66_code 36 = .ok (.aload_n 0, 1) := by decide +kernel
theorem d12_37 : decode jdk_42_method_66_code 37 = .ok (.getfield 9, 3) := by decide +kernel
theorem d12_40 : decode jdk_42_method_66_code 40 = .ok (.aload_n 2, 1) := by decide +kernel
theorem d12_41 : decode jdk_42_method_66_code 41 = .ok (.getfield 9, 3) := by decide +kernel
theorem d12_44 : decode jdk_42_method_66_code 44 = .ok (.invokestatic 541, 3) := by decide +kernel
theorem d12_47 : decode jdk_42_method_66_code 47 = .ok (.ifCond .eq 7, 3) := by decide +kernel
theorem d12_50 : decode jdk_42_method_66_code 50 = .ok (.iconst 1, 1) := by decide +kernel
theorem d12_51 : decode jdk_42_method_66_code 51 = .ok (.goto 4, 3) := by decide +kernel
theorem d12_54 : decode jdk_42_method_66_code 54 = .ok (.iconst 0, 1) := by decide +kernel
theorem d12_55 : decode jdk_42_method_66_code 55 = .ok (.ireturn, 1) := by decide +kernel
theorem pn_12 : plainName "java/lang/String" = true := by first | (simp [plainName, overriddenIn]; done) | decide +kernel
theorem ef_12 (m : MethodId) (x0 : Addr) (x1 : Addr) : entryFrame m #[(.ref x0), (.ref x1)] 3 = mkF m 0 #[.val (.ref x0), .val (.ref x1), .unset] [] := by first | (simp [entryFrame, mkF, argsToLocals, Value.category]; done) | rfl
def Q_rqs_00 (Z : State) (a1 : Addr) (a2 : Addr) (va vb : Addr) (ka kb : ClassId) (cs : Int32) (h0 : Heap) (n0 : Nat) : Option Value → Heap → List Loc → Prop := fun v h L => v = some (.int (nar .boolean (own_eqb [] []))) ∧ Fr n0 L ∧ h = h0
set_option maxRecDepth 65536 in
set_option maxHeartbeats 40000000 in
theorem rqs_00 (l : Launch) (Z : State) (a0 : Array Value) (hw : ∀ d ∈ tables_1, d.before a0 Z = true) (ws : List Jvm.Cond) (a1 : Addr) (a2 : Addr) (va vb : Addr) (ka kb : ClassId) (cs : Int32) (h0 : Heap) (n0 : Nat) (Z0 : n0 ≤ h0.size) (SC : Sta Z Z.heap "java/lang/String" "COMPACT_STRINGS" "Z" (.int cs)) (hcs : ¬ cs = (0 : Int32)) (O0 : Old Z n0 h0) (SA : own_Str Z h0 a1 va ka (0 : Int32) []) (SB : own_Str Z h0 a2 vb kb (0 : Int32) []) (ne : a1 ≠ a2) :
    own_M l Z (⟨"java/lang/String", "equals", "(Ljava/lang/Object;)Z"⟩ : MethodName) (Jvm.Cond.code (⟨"java/lang/String", "equals", "(Ljava/lang/Object;)Z"⟩ : MethodName) jdk_42_method_66_code 3 (some .boolean)) ws ({ frames := 1, cells := 0, slots := 0, locals := 16 } : Room) #[(.ref a1), (.ref a2)] h0 (Q_rqs_00 Z a1 a2 va vb ka kb cs h0 n0) := by
  refine MetFree.of_bodySF (plainFor_of_name pn_12) hisR ?_
  intro p e s m args below meth c s₁ Bd hml0 hP hK
  obtain ⟨rfl, hZ, hh⟩ := hP
  have hx := Bd.exec
  have hby := Bd.bytes
  have hml : c.maxLocals = 3 := hml0
  have hown : s.vm.findClass "java/lang/String" = some m.cls := findClass_of_methodNamed Bd.named
  have hnm := (name_of_methodNamed Bd.named Bd.method).1
  have X0 : Stand p l e ({ frames := 1, cells := 0, slots := 0, locals := 16 } : Room) s m #[(.ref a1), (.ref a2)] below meth c s₁ [] 0 0 := Stand.of_body Bd
  have e0 : s₁.heap = h0 := by rw [← hh, Bd.state]; rfl
  have N0 := Fr.nil n0
  show Goes p e below (Fin s (Q_rqs_00 Z a1 a2 va vb ka kb cs h0 n0) ({ frames := 1, cells := 0, slots := 0, locals := 16 } : Room).cells ({ frames := 1, cells := 0, slots := 0, locals := 16 } : Room).slots) _
  refine Goes.via (S' := s₁.setTop (mkF m 0 #[.val (.ref a1), .val (.ref a2), .unset] [])) (fun tz kz => castTop (ef_12 m a1 a2 ) kz) ?_
  refine Goes.via (S' := s₁.setTop (mkF m 8 #[.val (.ref a1), .val (.ref a2), .unset] [(.ref a2)])) (fun tz kz => ?_) ?_
  · show Steps p.tables e below (s₁.setTop (mkF m 0 #[.val (.ref a1), .val (.ref a2), .unset] [])) _
    refine XS.aloadN X0.here hx rfl (hb hby d12_0) rfl rfl ?_
    refine XS.aloadN X0.here hx rfl (hb hby d12_1) rfl rfl ?_
    refine Jvm.RoadKit.acmp (g := (mkF m 2 #[.val (.ref a1), .val (.ref a2), .unset] [(.ref a2), (.ref a1)])) X0 hx rfl rfl rfl (pc0 := 2) (pc' := 7) (same := false) rfl (hb hby d12_2) rfl (decide_eq_false fun q => ne (Value.ref.inj q)) (by decide) (by decide) ?_
    refine XS.aloadN X0.here hx rfl (hb hby d12_7) rfl rfl ?_
    exact kz
  obtain ⟨T1, X1, e1, st1⟩ := instY X0 hx hZ hown (w_ hw 83 rfl) e0 (Ins.self SB.1) (g := (mkF m 8 #[.val (.ref a1), .val (.ref a2), .unset] [(.ref a2)])) rfl rfl (hb hby d12_8)
  refine Goes.via (S' := T1.setTop (mkF m 11 #[.val (.ref a1), .val (.ref a2), .unset] [(.int (1 : Int32))])) st1 ?_
  refine Goes.via (S' := T1.setTop (mkF m 15 #[.val (.ref a1), .val (.ref a2), .unset] [(.ref a2)])) (fun tz kz => ?_) ?_
  · show Steps p.tables e below (T1.setTop (mkF m 11 #[.val (.ref a1), .val (.ref a2), .unset] [(.int (1 : Int32))])) _
    refine XS.ifNo X1.here hx rfl (hb hby d12_11) rfl ((if0 _ _).trans (feq (by decide)).1) ?_
    refine XS.aloadN X1.here hx rfl (hb hby d12_14) rfl rfl ?_
    exact kz
  obtain ⟨T2, X2, e2, st2⟩ := castY X1 hx hZ hown (w_ hw 83 rfl) e1 (Ins.self SB.1) (g := (mkF m 15 #[.val (.ref a1), .val (.ref a2), .unset] [(.ref a2)])) rfl rfl (hb hby d12_15)
  refine Goes.via (S' := T2.setTop (mkF m 18 #[.val (.ref a1), .val (.ref a2), .unset] [(.ref a2)])) st2 ?_
  refine Goes.via (S' := T2.setTop (mkF m 19 #[.val (.ref a1), .val (.ref a2), .val (.ref a2)] [])) (fun tz kz => ?_) ?_
  · show Steps p.tables e below (T2.setTop (mkF m 18 #[.val (.ref a1), .val (.ref a2), .unset] [(.ref a2)])) _
    refine XS.astoreN X2.here hx rfl (hb hby d12_18) rfl rfl (l' := #[.val (.ref a1), .val (.ref a2), .val (.ref a2)]) rfl ?_
    exact kz
  obtain ⟨T3, X3, e3, st3⟩ := getS2 X2 hx hZ hown (host := "") (Or.inl (w_ hw 19 rfl)) Via.refl e2 (SC.ext O0.2) (g := (mkF m 19 #[.val (.ref a1), .val (.ref a2), .val (.ref a2)] [])) rfl (hb hby d12_19)
  refine Goes.via (S' := T3.setTop (mkF m 22 #[.val (.ref a1), .val (.ref a2), .val (.ref a2)] [(.int cs)])) st3 ?_
  refine Goes.via (S' := T3.setTop (mkF m 26 #[.val (.ref a1), .val (.ref a2), .val (.ref a2)] [(.ref a1)])) (fun tz kz => ?_) ?_
  · show Steps p.tables e below (T3.setTop (mkF m 22 #[.val (.ref a1), .val (.ref a2), .val (.ref a2)] [(.int cs)])) _
    refine XS.ifNo X3.here hx rfl (hb hby d12_22) rfl ((if0 _ _).trans (feq hcs).1) ?_
    refine XS.aloadN X3.here hx rfl (hb hby d12_25) rfl rfl ?_
    exact kz
  obtain ⟨T4, X4, e4, st4⟩ := getF X3 hx hZ hown (host := "") (Or.inl (w_ hw 31 rfl)) Via.refl e3 SA.2.1 (g := (mkF m 26 #[.val (.ref a1), .val (.ref a2), .val (.ref a2)] [(.ref a1)])) rfl rfl (hb hby d12_26)
  refine Goes.via (S' := T4.setTop (mkF m 29 #[.val (.ref a1), .val (.ref a2), .val (.ref a2)] [(.int (0 : Int32))])) st4 ?_
  refine Goes.via (S' := T4.setTop (mkF m 30 #[.val (.ref a1), .val (.ref a2), .val (.ref a2)] [(.ref a2), (.int (0 : Int32))])) (fun tz kz => ?_) ?_
  · show Steps p.tables e below (T4.setTop (mkF m 29 #[.val (.ref a1), .val (.ref a2), .val (.ref a2)] [(.int (0 : Int32))])) _
    refine XS.aloadN X4.here hx rfl (hb hby d12_29) rfl rfl ?_
    exact kz
  obtain ⟨T5, X5, e5, st5⟩ := getF X4 hx hZ hown (host := "") (Or.inl (w_ hw 31 rfl)) Via.refl e4 SB.2.1 (g := (mkF m 30 #[.val (.ref a1), .val (.ref a2), .val (.ref a2)] [(.ref a2), (.int (0 : Int32))])) rfl rfl (hb hby d12_30)
  refine Goes.via (S' := T5.setTop (mkF m 33 #[.val (.ref a1), .val (.ref a2), .val (.ref a2)] [(.int (0 : Int32)), (.int (0 : Int32))])) st5 ?_
  refine Goes.via (S' := T5.setTop (mkF m 37 #[.val (.ref a1), .val (.ref a2), .val (.ref a2)] [(.ref a1)])) (fun tz kz => ?_) ?_
  · show Steps p.tables e below (T5.setTop (mkF m 33 #[.val (.ref a1), .val (.ref a2), .val (.ref a2)] [(.int (0 : Int32)), (.int (0 : Int32))])) _
    refine XS.icmpNo X5.here hx rfl (hb hby d12_33) rfl (teq (by decide)).2 ?_
    refine XS.aloadN X5.here hx rfl (hb hby d12_36) rfl rfl ?_
    exact kz
  obtain ⟨T6, X6, e6, st6⟩ := getF X5 hx hZ hown (host := "") (Or.inl (w_ hw 33 rfl)) Via.refl e5 SA.2.2.1 (g := (mkF m 37 #[.val (.ref a1), .val (.ref a2), .val (.ref a2)] [(.ref a1)])) rfl rfl (hb hby d12_37)
  refine Goes.via (S' := T6.setTop (mkF m 40 #[.val (.ref a1), .val (.ref a2), .val (.ref a2)] [(.ref va)])) st6 ?_
  refine Goes.via (S' := T6.setTop (mkF m 41 #[.val (.ref a1), .val (.ref a2), .val (.ref a2)] [(.ref a2), (.ref va)])) (fun tz kz => ?_) ?_
  · show Steps p.tables e below (T6.setTop (mkF m 40 #[.val (.ref a1), .val (.ref a2), .val (.ref a2)] [(.ref va)])) _
    refine XS.aloadN X6.here hx rfl (hb hby d12_40) rfl rfl ?_
    exact kz
  obtain ⟨T7, X7, e7, st7⟩ := getF X6 hx hZ hown (host := "") (Or.inl (w_ hw 33 rfl)) Via.refl e6 SB.2.2.1 (g := (mkF m 41 #[.val (.ref a1), .val (.ref a2), .val (.ref a2)] [(.ref a2), (.ref va)])) rfl rfl (hb hby d12_41)
  refine Goes.via (S' := T7.setTop (mkF m 44 #[.val (.ref a1), .val (.ref a2), .val (.ref a2)] [(.ref vb), (.ref va)])) st7 ?_
  obtain ⟨_, _, ⟨T8, L8, k8, n8⟩, -, X8, ⟨Lc8, hQ8, l8, y8, z8⟩, st8⟩ := Jvm.LawKit.callS X7 hx (y := (⟨"java/lang/StringLatin1", "equals", "([B[B)Z"⟩ : MethodName)) hown (mvT hZ (w_ hw 84 rfl)) (mvT hZ (w_ hw 85 rfl)) (mvT hZ (w_ hw 86 rfl)) (mvT hZ (w_ hw 87 rfl)) (by decide) (backOf (W := 0) (req_00 l Z a0 hw [] va vb ka kb  h0 n0 Z0 SA.2.2.2 SB.2.2.2) hZ (w_ hw 87 rfl) (w_ hw 86 rfl) (by decide) (by decide)) (g := (mkF m 44 #[.val (.ref a1), .val (.ref a2), .val (.ref a2)] [(.ref vb), (.ref va)])) rfl (by rw [hml]; rfl) (argsL := [(.ref va), (.ref vb)]) (rest := []) (lenOf pd_6 rfl) rfl (by show 2 * 0 + _ ≤ _; exact Nat.le_of_eq rfl) (hb hby d12_44) (fun _ _ => ⟨rfl, e7, (by decide : 0 + 0 ≤ _), (by decide : 0 + 0 ≤ _)⟩)
  dsimp only [Pt.U, Pt.locs, Pt.cells, Pt.slots] at X8 l8 y8 z8 st8 hQ8
  subst l8 y8 z8
  obtain ⟨rfl, N8, e8⟩ := hQ8
  have Nf8 := Fr.app N0 N8
  refine Goes.via (S' := T8.setTop (mkF m 47 #[.val (.ref a1), .val (.ref a2), .val (.ref a2)] [(.int (nar .boolean (own_eqb [] [])))])) (st8) ?_
  by_cases hc47_9 : (nar .boolean (own_eqb [] [])) = (0 : Int32)
  · refine Goes.via (S' := T8.setTop (mkF m 55 #[.val (.ref a1), .val (.ref a2), .val (.ref a2)] [(.int (0 : Int32))])) (fun tz kz => ?_) ?_
    · show Steps p.tables e below (T8.setTop (mkF m 47 #[.val (.ref a1), .val (.ref a2), .val (.ref a2)] [(.int (nar .boolean (own_eqb [] [])))])) _
      refine XS.ifYes X8.here hx rfl (pc0 := 47) (pc' := 54) rfl (hb hby d12_47) rfl ((if0 _ _).trans (teq hc47_9).1) (by decide) (by decide) ?_
      refine XS.iconst X8.here hx rfl (hb hby d12_54) ?_
      exact kz
    exact Goes.retN X8 hx Bd.notSynchronized (t := .boolean) Bd.returns (by simp) (hb hby d12_55) (Nat.le_of_ble_eq_true rfl) (Nat.le_of_ble_eq_true rfl) ⟨congrArg (fun z => some (Value.int z)) (own_eq0 hc47_9), Nf8, e8⟩
  · refine Goes.via (S' := T8.setTop (mkF m 55 #[.val (.ref a1), .val (.ref a2), .val (.ref a2)] [(.int (1 : Int32))])) (fun tz kz => ?_) ?_
    · show Steps p.tables e below (T8.setTop (mkF m 47 #[.val (.ref a1), .val (.ref a2), .val (.ref a2)] [(.int (nar .boolean (own_eqb [] [])))])) _
      refine XS.ifNo X8.here hx rfl (hb hby d12_47) rfl ((if0 _ _).trans (feq hc47_9).1) ?_
      refine XS.iconst X8.here hx rfl (hb hby d12_50) ?_
      refine XS.goto X8.here hx rfl (pc0 := 51) (pc' := 55) rfl (hb hby d12_51) (by decide) (by decide) ?_
      exact kz
    exact Goes.retN X8 hx Bd.notSynchronized (t := .boolean) Bd.returns (by simp) (hb hby d12_55) (Nat.le_of_ble_eq_true rfl) (Nat.le_of_ble_eq_true rfl) ⟨congrArg (fun z => some (Value.int z)) (own_eq1 hc47_9), Nf8, e8⟩
def Q_req_01 (Z : State) (ba : Addr) (bb : Addr) (ka kb : ClassId) (y0 : Int32) (h0 : Heap) (n0 : Nat) : Option Value → Heap → List Loc → Prop := fun v h L => v = some (.int (nar .boolean (own_eqb [] [y0]))) ∧ Fr n0 L ∧ h = h0
set_option maxRecDepth 65536 in
set_option maxHeartbeats 40000000 in
theorem req_01 (l : Launch) (Z : State) (a0 : Array Value) (hw : ∀ d ∈ tables_1, d.before a0 Z = true) (ws : List Jvm.Cond) (ba : Addr) (bb : Addr) (ka kb : ClassId) (y0 : Int32) (h0 : Heap) (n0 : Nat) (Z0 : n0 ≤ h0.size) (A0 : Arv Z h0 ba ka .byte (0 : Int32) [] (.int 0)) (B0 : Arv Z h0 bb kb .byte (1 : Int32) [.int y0] (.int 0)) :
    own_M l Z (⟨"java/lang/StringLatin1", "equals", "([B[B)Z"⟩ : MethodName) (Jvm.Cond.code (⟨"java/lang/StringLatin1", "equals", "([B[B)Z"⟩ : MethodName) jdk_43_method_13_code 3 (some .boolean)) ws ({ frames := 0, cells := 0, slots := 0, locals := 0 } : Room) #[(.ref ba), (.ref bb)] h0 (Q_req_01 Z ba bb ka kb y0 h0 n0) := by
  refine MetFree.of_bodySF (plainFor_of_name pn_13) hisR ?_
  intro p e s m args below meth c s₁ Bd hml0 hP hK
  obtain ⟨rfl, hZ, hh⟩ := hP
  have hx := Bd.exec
  have hby := Bd.bytes
  have hml : c.maxLocals = 3 := hml0
  have hown : s.vm.findClass "java/lang/StringLatin1" = some m.cls := findClass_of_methodNamed Bd.named
  have hnm := (name_of_methodNamed Bd.named Bd.method).1
  have X0 : Stand p l e ({ frames := 0, cells := 0, slots := 0, locals := 0 } : Room) s m #[(.ref ba), (.ref bb)] below meth c s₁ [] 0 0 := Stand.of_body Bd
  have e0 : s₁.heap = h0 := by rw [← hh, Bd.state]; rfl
  have N0 := Fr.nil n0
  show Goes p e below (Fin s (Q_req_01 Z ba bb ka kb y0 h0 n0) ({ frames := 0, cells := 0, slots := 0, locals := 0 } : Room).cells ({ frames := 0, cells := 0, slots := 0, locals := 0 } : Room).slots) _
  refine Goes.via (S' := s₁.setTop (mkF m 0 #[.val (.ref ba), .val (.ref bb), .unset] [])) (fun tz kz => castTop (ef_13 m ba bb ) kz) ?_
  refine Goes.via (S' := s₁.setTop (mkF m 1 #[.val (.ref ba), .val (.ref bb), .unset] [(.ref ba)])) (fun tz kz => ?_) ?_
  · show Steps p.tables e below (s₁.setTop (mkF m 0 #[.val (.ref ba), .val (.ref bb), .unset] [])) _
    refine XS.aloadN X0.here hx rfl (hb hby d13_0) rfl rfl ?_
    exact kz
  obtain ⟨cl1, Ar1, q1, Sz1, Nn1, Hs1, G1⟩ := (id A0)
  refine Goes.via (S' := s₁.setTop (mkF m 3 #[.val (.ref ba), .val (.ref bb), .unset] [(.ref bb), (.int (0 : Int32))])) (fun tz kz => ?_) ?_
  · show Steps p.tables e below (s₁.setTop (mkF m 1 #[.val (.ref ba), .val (.ref bb), .unset] [(.ref ba)])) _
    refine X0.arraylength hx (by rw [e0]; exact Ar1.1) (State.isArrayOf_alike hZ.alike Ar1.2.1) (g := (mkF m 1 #[.val (.ref ba), .val (.ref bb), .unset] [(.ref ba)])) rfl rfl (hb hby d13_1) _ ?_
    rw [len_of Sz1 Nn1]
    refine XS.aloadN X0.here hx rfl (hb hby d13_2) rfl rfl ?_
    exact kz
  obtain ⟨cl2, Ar2, q2, Sz2, Nn2, Hs2, G2⟩ := (id B0)
  refine Goes.via (S' := s₁.setTop (mkF m 35 #[.val (.ref ba), .val (.ref bb), .unset] [(.int (0 : Int32))])) (fun tz kz => ?_) ?_
  · show Steps p.tables e below (s₁.setTop (mkF m 3 #[.val (.ref ba), .val (.ref bb), .unset] [(.ref bb), (.int (0 : Int32))])) _
    refine X0.arraylength hx (by rw [e0]; exact Ar2.1) (State.isArrayOf_alike hZ.alike Ar2.2.1) (g := (mkF m 3 #[.val (.ref ba), .val (.ref bb), .unset] [(.ref bb), (.int (0 : Int32))])) rfl rfl (hb hby d13_3) _ ?_
    rw [len_of Sz2 Nn2]
    refine XS.icmpYes X0.here hx rfl (pc0 := 4) (pc' := 34) rfl (hb hby d13_4) rfl (feq (by decide)).2 (by decide) (by decide) ?_
    refine XS.iconst X0.here hx rfl (hb hby d13_34) ?_
    exact kz
  exact Goes.retN X0 hx Bd.notSynchronized (t := .boolean) Bd.returns (by simp) (hb hby d13_35) (Nat.le_of_ble_eq_true rfl) (Nat.le_of_ble_eq_true rfl) ⟨congrArg (fun z => some (Value.int z)) (by simp [own_eqb]), N0, e0⟩
def Q_rqs_01 (Z : State) (a1 : Addr) (a2 : Addr) (va vb : Addr) (ka kb : ClassId) (cs : Int32) (y0 : Int32) (h0 : Heap) (n0 : Nat) : Option Value → Heap → List Loc → Prop := fun v h L => v = some (.int (nar .boolean (own_eqb [] [y0]))) ∧ Fr n0 L ∧ h = h0
set_option maxRecDepth 65536 in
set_option maxHeartbeats 40000000 in
theorem rqs_01 (l : Launch) (Z : State) (a0 : Array Value) (hw : ∀ d ∈ tables_1, d.before a0 Z = true) (ws : List Jvm.Cond) (a1 : Addr) (a2 : Addr) (va vb : Addr) (ka kb : ClassId) (cs : Int32) (y0 : Int32) (h0 : Heap) (n0 : Nat) (Z0 : n0 ≤ h0.size) (SC : Sta Z Z.heap "java/lang/String" "COMPACT_STRINGS" "Z" (.int cs)) (hcs : ¬ cs = (0 : Int32)) (O0 : Old Z n0 h0) (SA : own_Str Z h0 a1 va ka (0 : Int32) []) (SB : own_Str Z h0 a2 vb kb (1 : Int32) [.int y0]) (ne : a1 ≠ a2) :
    own_M l Z (⟨"java/lang/String", "equals", "(Ljava/lang/Object;)Z"⟩ : MethodName) (Jvm.Cond.code (⟨"java/lang/String", "equals", "(Ljava/lang/Object;)Z"⟩ : MethodName) jdk_42_method_66_code 3 (some .boolean)) ws ({ frames := 1, cells := 0, slots := 0, locals := 16 } : Room) #[(.ref a1), (.ref a2)] h0 (Q_rqs_01 Z a1 a2 va vb ka kb cs y0 h0 n0) := by
  refine MetFree.of_bodySF (plainFor_of_name pn_12) hisR ?_
  intro p e s m args below meth c s₁ Bd hml0 hP hK
  obtain ⟨rfl, hZ, hh⟩ := hP
  have hx := Bd.exec
  have hby := Bd.bytes
  have hml : c.maxLocals = 3 := hml0
  have hown : s.vm.findClass "java/lang/String" = some m.cls := findClass_of_methodNamed Bd.named
  have hnm := (name_of_methodNamed Bd.named Bd.method).1
  have X0 : Stand p l e ({ frames := 1, cells := 0, slots := 0, locals := 16 } : Room) s m #[(.ref a1), (.ref a2)] below meth c s₁ [] 0 0 := Stand.of_body Bd
  have e0 : s₁.heap = h0 := by rw [← hh, Bd.state]; rfl
  have N0 := Fr.nil n0
  show Goes p e below (Fin s (Q_rqs_01 Z a1 a2 va vb ka kb cs y0 h0 n0) ({ frames := 1, cells := 0, slots := 0, locals := 16 } : Room).cells ({ frames := 1, cells := 0, slots := 0, locals := 16 } : Room).slots) _
  refine Goes.via (S' := s₁.setTop (mkF m 0 #[.val (.ref a1), .val (.ref a2), .unset] [])) (fun tz kz => castTop (ef_12 m a1 a2 ) kz) ?_
  refine Goes.via (S' := s₁.setTop (mkF m 8 #[.val (.ref a1), .val (.ref a2), .unset] [(.ref a2)])) (fun tz kz => ?_) ?_
  · show Steps p.tables e below (s₁.setTop (mkF m 0 #[.val (.ref a1), .val (.ref a2), .unset] [])) _
    refine XS.aloadN X0.here hx rfl (hb hby d12_0) rfl rfl ?_
    refine XS.aloadN X0.here hx rfl (hb hby d12_1) rfl rfl ?_
    refine Jvm.RoadKit.acmp (g := (mkF m 2 #[.val (.ref a1), .val (.ref a2), .unset] [(.ref a2), (.ref a1)])) X0 hx rfl rfl rfl (pc0 := 2) (pc' := 7) (same := false) rfl (hb hby d12_2) rfl (decide_eq_false fun q => ne (Value.ref.inj q)) (by decide) (by decide) ?_
    refine XS.aloadN X0.here hx rfl (hb hby d12_7) rfl rfl ?_
    exact kz
  obtain ⟨T1, X1, e1, st1⟩ := instY X0 hx hZ hown (w_ hw 83 rfl) e0 (Ins.self SB.1) (g := (mkF m 8 #[.val (.ref a1), .val (.ref a2), .unset] [(.ref a2)])) rfl rfl (hb hby d12_8)
  refine Goes.via (S' := T1.setTop (mkF m 11 #[.val (.ref a1), .val (.ref a2), .unset] [(.int (1 : Int32))])) st1 ?_
  refine Goes.via (S' := T1.setTop (mkF m 15 #[.val (.ref a1), .val (.ref a2), .unset] [(.ref a2)])) (fun tz kz => ?_) ?_
  · show Steps p.tables e below (T1.setTop (mkF m 11 #[.val (.ref a1), .val (.ref a2), .unset] [(.int (1 : Int32))])) _
    refine XS.ifNo X1.here hx rfl (hb hby d12_11) rfl ((if0 _ _).trans (feq (by decide)).1) ?_
    refine XS.aloadN X1.here hx rfl (hb hby d12_14) rfl rfl ?_
    exact kz
  obtain ⟨T2, X2, e2, st2⟩ := castY X1 hx hZ hown (w_ hw 83 rfl) e1 (Ins.self SB.1) (g := (mkF m 15 #[.val (.ref a1), .val (.ref a2), .unset] [(.ref a2)])) rfl rfl (hb hby d12_15)
  refine Goes.via (S' := T2.setTop (mkF m 18 #[.val (.ref a1), .val (.ref a2), .unset] [(.ref a2)])) st2 ?_
  refine Goes.via (S' := T2.setTop (mkF m 19 #[.val (.ref a1), .val (.ref a2), .val (.ref a2)] [])) (fun tz kz => ?_) ?_
  · show Steps p.tables e below (T2.setTop (mkF m 18 #[.val (.ref a1), .val (.ref a2), .unset] [(.ref a2)])) _
    refine XS.astoreN X2.here hx rfl (hb hby d12_18) rfl rfl (l' := #[.val (.ref a1), .val (.ref a2), .val (.ref a2)]) rfl ?_
    exact kz
  obtain ⟨T3, X3, e3, st3⟩ := getS2 X2 hx hZ hown (host := "") (Or.inl (w_ hw 19 rfl)) Via.refl e2 (SC.ext O0.2) (g := (mkF m 19 #[.val (.ref a1), .val (.ref a2), .val (.ref a2)] [])) rfl (hb hby d12_19)
  refine Goes.via (S' := T3.setTop (mkF m 22 #[.val (.ref a1), .val (.ref a2), .val (.ref a2)] [(.int cs)])) st3 ?_
  refine Goes.via (S' := T3.setTop (mkF m 26 #[.val (.ref a1), .val (.ref a2), .val (.ref a2)] [(.ref a1)])) (fun tz kz => ?_) ?_
  · show Steps p.tables e below (T3.setTop (mkF m 22 #[.val (.ref a1), .val (.ref a2), .val (.ref a2)] [(.int cs)])) _
    refine XS.ifNo X3.here hx rfl (hb hby d12_22) rfl ((if0 _ _).trans (feq hcs).1) ?_
    refine XS.aloadN X3.here hx rfl (hb hby d12_25) rfl rfl ?_
    exact kz
  obtain ⟨T4, X4, e4, st4⟩ := getF X3 hx hZ hown (host := "") (Or.inl (w_ hw 31 rfl)) Via.refl e3 SA.2.1 (g := (mkF m 26 #[.val (.ref a1), .val (.ref a2), .val (.ref a2)] [(.ref a1)])) rfl rfl (hb hby d12_26)
  refine Goes.via (S' := T4.setTop (mkF m 29 #[.val (.ref a1), .val (.ref a2), .val (.ref a2)] [(.int (0 : Int32))])) st4 ?_
  refine Goes.via (S' := T4.setTop (mkF m 30 #[.val (.ref a1), .val (.ref a2), .val (.ref a2)] [(.ref a2), (.int (0 : Int32))])) (fun tz kz => ?_) ?_
  · show Steps p.tables e below (T4.setTop (mkF m 29 #[.val (.ref a1), .val (.ref a2), .val (.ref a2)] [(.int (0 : Int32))])) _
    refine XS.aloadN X4.here hx rfl (hb hby d12_29) rfl rfl ?_
    exact kz
  obtain ⟨T5, X5, e5, st5⟩ := getF X4 hx hZ hown (host := "") (Or.inl (w_ hw 31 rfl)) Via.refl e4 SB.2.1 (g := (mkF m 30 #[.val (.ref a1), .val (.ref a2), .val (.ref a2)] [(.ref a2), (.int (0 : Int32))])) rfl rfl (hb hby d12_30)
  refine Goes.via (S' := T5.setTop (mkF m 33 #[.val (.ref a1), .val (.ref a2), .val (.ref a2)] [(.int (0 : Int32)), (.int (0 : Int32))])) st5 ?_
  refine Goes.via (S' := T5.setTop (mkF m 37 #[.val (.ref a1), .val (.ref a2), .val (.ref a2)] [(.ref a1)])) (fun tz kz => ?_) ?_
  · show Steps p.tables e below (T5.setTop (mkF m 33 #[.val (.ref a1), .val (.ref a2), .val (.ref a2)] [(.int (0 : Int32)), (.int (0 : Int32))])) _
    refine XS.icmpNo X5.here hx rfl (hb hby d12_33) rfl (teq (by decide)).2 ?_
    refine XS.aloadN X5.here hx rfl (hb hby d12_36) rfl rfl ?_
    exact kz
  obtain ⟨T6, X6, e6, st6⟩ := getF X5 hx hZ hown (host := "") (Or.inl (w_ hw 33 rfl)) Via.refl e5 SA.2.2.1 (g := (mkF m 37 #[.val (.ref a1), .val (.ref a2), .val (.ref a2)] [(.ref a1)])) rfl rfl (hb hby d12_37)
  refine Goes.via (S' := T6.setTop (mkF m 40 #[.val (.ref a1), .val (.ref a2), .val (.ref a2)] [(.ref va)])) st6 ?_
  refine Goes.via (S' := T6.setTop (mkF m 41 #[.val (.ref a1), .val (.ref a2), .val (.ref a2)] [(.ref a2), (.ref va)])) (fun tz kz => ?_) ?_
  · show Steps p.tables e below (T6.setTop (mkF m 40 #[.val (.ref a1), .val (.ref a2), .val (.ref a2)] [(.ref va)])) _
    refine XS.aloadN X6.here hx rfl (hb hby d12_40) rfl rfl ?_
    exact kz
  obtain ⟨T7, X7, e7, st7⟩ := getF X6 hx hZ hown (host := "") (Or.inl (w_ hw 33 rfl)) Via.refl e6 SB.2.2.1 (g := (mkF m 41 #[.val (.ref a1), .val (.ref a2), .val (.ref a2)] [(.ref a2), (.ref va)])) rfl rfl (hb hby d12_41)
  refine Goes.via (S' := T7.setTop (mkF m 44 #[.val (.ref a1), .val (.ref a2), .val (.ref a2)] [(.ref vb), (.ref va)])) st7 ?_
  obtain ⟨_, _, ⟨T8, L8, k8, n8⟩, -, X8, ⟨Lc8, hQ8, l8, y8, z8⟩, st8⟩ := Jvm.LawKit.callS X7 hx (y := (⟨"java/lang/StringLatin1", "equals", "([B[B)Z"⟩ : MethodName)) hown (mvT hZ (w_ hw 84 rfl)) (mvT hZ (w_ hw 85 rfl)) (mvT hZ (w_ hw 86 rfl)) (mvT hZ (w_ hw 87 rfl)) (by decide) (backOf (W := 0) (req_01 l Z a0 hw [] va vb ka kb y0 h0 n0 Z0 SA.2.2.2 SB.2.2.2) hZ (w_ hw 87 rfl) (w_ hw 86 rfl) (by decide) (by decide)) (g := (mkF m 44 #[.val (.ref a1), .val (.ref a2), .val (.ref a2)] [(.ref vb), (.ref va)])) rfl (by rw [hml]; rfl) (argsL := [(.ref va), (.ref vb)]) (rest := []) (lenOf pd_6 rfl) rfl (by show 2 * 0 + _ ≤ _; exact Nat.le_of_eq rfl) (hb hby d12_44) (fun _ _ => ⟨rfl, e7, (by decide : 0 + 0 ≤ _), (by decide : 0 + 0 ≤ _)⟩)
  dsimp only [Pt.U, Pt.locs, Pt.cells, Pt.slots] at X8 l8 y8 z8 st8 hQ8
  subst l8 y8 z8
  obtain ⟨rfl, N8, e8⟩ := hQ8
  have Nf8 := Fr.app N0 N8
  refine Goes.via (S' := T8.setTop (mkF m 47 #[.val (.ref a1), .val (.ref a2), .val (.ref a2)] [(.int (nar .boolean (own_eqb [] [y0])))])) (st8) ?_
  by_cases hc47_9 : (nar .boolean (own_eqb [] [y0])) = (0 : Int32)
  · refine Goes.via (S' := T8.setTop (mkF m 55 #[.val (.ref a1), .val (.ref a2), .val (.ref a2)] [(.int (0 : Int32))])) (fun tz kz => ?_) ?_
    · show Steps p.tables e below (T8.setTop (mkF m 47 #[.val (.ref a1), .val (.ref a2), .val (.ref a2)] [(.int (nar .boolean (own_eqb [] [y0])))])) _
      refine XS.ifYes X8.here hx rfl (pc0 := 47) (pc' := 54) rfl (hb hby d12_47) rfl ((if0 _ _).trans (teq hc47_9).1) (by decide) (by decide) ?_
      refine XS.iconst X8.here hx rfl (hb hby d12_54) ?_
      exact kz
    exact Goes.retN X8 hx Bd.notSynchronized (t := .boolean) Bd.returns (by simp) (hb hby d12_55) (Nat.le_of_ble_eq_true rfl) (Nat.le_of_ble_eq_true rfl) ⟨congrArg (fun z => some (Value.int z)) (own_eq0 hc47_9), Nf8, e8⟩
  · refine Goes.via (S' := T8.setTop (mkF m 55 #[.val (.ref a1), .val (.ref a2), .val (.ref a2)] [(.int (1 : Int32))])) (fun tz kz => ?_) ?_
    · show Steps p.tables e below (T8.setTop (mkF m 47 #[.val (.ref a1), .val (.ref a2), .val (.ref a2)] [(.int (nar .boolean (own_eqb [] [y0])))])) _
      refine XS.ifNo X8.here hx rfl (hb hby d12_47) rfl ((if0 _ _).trans (feq hc47_9).1) ?_
      refine XS.iconst X8.here hx rfl (hb hby d12_50) ?_
      refine XS.goto X8.here hx rfl (pc0 := 51) (pc' := 55) rfl (hb hby d12_51) (by decide) (by decide) ?_
      exact kz
    exact Goes.retN X8 hx Bd.notSynchronized (t := .boolean) Bd.returns (by simp) (hb hby d12_55) (Nat.le_of_ble_eq_true rfl) (Nat.le_of_ble_eq_true rfl) ⟨congrArg (fun z => some (Value.int z)) (own_eq1 hc47_9), Nf8, e8⟩
def Q_req_02 (Z : State) (ba : Addr) (bb : Addr) (ka kb : ClassId) (y0 y1 : Int32) (h0 : Heap) (n0 : Nat) : Option Value → Heap → List Loc → Prop := fun v h L => v = some (.int (nar .boolean (own_eqb [] [y0, y1]))) ∧ Fr n0 L ∧ h = h0
set_option maxRecDepth 65536 in
set_option maxHeartbeats 40000000 in
theorem req_02 (l : Launch) (Z : State) (a0 : Array Value) (hw : ∀ d ∈ tables_1, d.before a0 Z = true) (ws : List Jvm.Cond) (ba : Addr) (bb : Addr) (ka kb : ClassId) (y0 y1 : Int32) (h0 : Heap) (n0 : Nat) (Z0 : n0 ≤ h0.size) (A0 : Arv Z h0 ba ka .byte (0 : Int32) [] (.int 0)) (B0 : Arv Z h0 bb kb .byte (2 : Int32) [.int y0, .int y1] (.int 0)) :
    own_M l Z (⟨"java/lang/StringLatin1", "equals", "([B[B)Z"⟩ : MethodName) (Jvm.Cond.code (⟨"java/lang/StringLatin1", "equals", "([B[B)Z"⟩ : MethodName) jdk_43_method_13_code 3 (some .boolean)) ws ({ frames := 0, cells := 0, slots := 0, locals := 0 } : Room) #[(.ref ba), (.ref bb)] h0 (Q_req_02 Z ba bb ka kb y0 y1 h0 n0) := by
  refine MetFree.of_bodySF (plainFor_of_name pn_13) hisR ?_
  intro p e s m args below meth c s₁ Bd hml0 hP hK
  obtain ⟨rfl, hZ, hh⟩ := hP
  have hx := Bd.exec
  have hby := Bd.bytes
  have hml : c.maxLocals = 3 := hml0
  have hown : s.vm.findClass "java/lang/StringLatin1" = some m.cls := findClass_of_methodNamed Bd.named
  have hnm := (name_of_methodNamed Bd.named Bd.method).1
  have X0 : Stand p l e ({ frames := 0, cells := 0, slots := 0, locals := 0 } : Room) s m #[(.ref ba), (.ref bb)] below meth c s₁ [] 0 0 := Stand.of_body Bd
  have e0 : s₁.heap = h0 := by rw [← hh, Bd.state]; rfl
  have N0 := Fr.nil n0
  show Goes p e below (Fin s (Q_req_02 Z ba bb ka kb y0 y1 h0 n0) ({ frames := 0, cells := 0, slots := 0, locals := 0 } : Room).cells ({ frames := 0, cells := 0, slots := 0, locals := 0 } : Room).slots) _
  refine Goes.via (S' := s₁.setTop (mkF m 0 #[.val (.ref ba), .val (.ref bb), .unset] [])) (fun tz kz => castTop (ef_13 m ba bb ) kz) ?_
  refine Goes.via (S' := s₁.setTop (mkF m 1 #[.val (.ref ba), .val (.ref bb), .unset] [(.ref ba)])) (fun tz kz => ?_) ?_
  · show Steps p.tables e below (s₁.setTop (mkF m 0 #[.val (.ref ba), .val (.ref bb), .unset] [])) _
    refine XS.aloadN X0.here hx rfl (hb hby d13_0) rfl rfl ?_
    exact kz
  obtain ⟨cl1, Ar1, q1, Sz1, Nn1, Hs1, G1⟩ := (id A0)
  refine Goes.via (S' := s₁.setTop (mkF m 3 #[.val (.ref ba), .val (.ref bb), .unset] [(.ref bb), (.int (0 : Int32))])) (fun tz kz => ?_) ?_
  · show Steps p.tables e below (s₁.setTop (mkF m 1 #[.val (.ref ba), .val (.ref bb), .unset] [(.ref ba)])) _
    refine X0.arraylength hx (by rw [e0]; exact Ar1.1) (State.isArrayOf_alike hZ.alike Ar1.2.1) (g := (mkF m 1 #[.val (.ref ba), .val (.ref bb), .unset] [(.ref ba)])) rfl rfl (hb hby d13_1) _ ?_
    rw [len_of Sz1 Nn1]
    refine XS.aloadN X0.here hx rfl (hb hby d13_2) rfl rfl ?_
    exact kz
  obtain ⟨cl2, Ar2, q2, Sz2, Nn2, Hs2, G2⟩ := (id B0)
  refine Goes.via (S' := s₁.setTop (mkF m 35 #[.val (.ref ba), .val (.ref bb), .unset] [(.int (0 : Int32))])) (fun tz kz => ?_) ?_
  · show Steps p.tables e below (s₁.setTop (mkF m 3 #[.val (.ref ba), .val (.ref bb), .unset] [(.ref bb), (.int (0 : Int32))])) _
    refine X0.arraylength hx (by rw [e0]; exact Ar2.1) (State.isArrayOf_alike hZ.alike Ar2.2.1) (g := (mkF m 3 #[.val (.ref ba), .val (.ref bb), .unset] [(.ref bb), (.int (0 : Int32))])) rfl rfl (hb hby d13_3) _ ?_
    rw [len_of Sz2 Nn2]
    refine XS.icmpYes X0.here hx rfl (pc0 := 4) (pc' := 34) rfl (hb hby d13_4) rfl (feq (by decide)).2 (by decide) (by decide) ?_
    refine XS.iconst X0.here hx rfl (hb hby d13_34) ?_
    exact kz
  exact Goes.retN X0 hx Bd.notSynchronized (t := .boolean) Bd.returns (by simp) (hb hby d13_35) (Nat.le_of_ble_eq_true rfl) (Nat.le_of_ble_eq_true rfl) ⟨congrArg (fun z => some (Value.int z)) (by simp [own_eqb]), N0, e0⟩
def Q_rqs_02 (Z : State) (a1 : Addr) (a2 : Addr) (va vb : Addr) (ka kb : ClassId) (cs : Int32) (y0 y1 : Int32) (h0 : Heap) (n0 : Nat) : Option Value → Heap → List Loc → Prop := fun v h L => v = some (.int (nar .boolean (own_eqb [] [y0, y1]))) ∧ Fr n0 L ∧ h = h0
set_option maxRecDepth 65536 in
set_option maxHeartbeats 40000000 in
theorem rqs_02 (l : Launch) (Z : State) (a0 : Array Value) (hw : ∀ d ∈ tables_1, d.before a0 Z = true) (ws : List Jvm.Cond) (a1 : Addr) (a2 : Addr) (va vb : Addr) (ka kb : ClassId) (cs : Int32) (y0 y1 : Int32) (h0 : Heap) (n0 : Nat) (Z0 : n0 ≤ h0.size) (SC : Sta Z Z.heap "java/lang/String" "COMPACT_STRINGS" "Z" (.int cs)) (hcs : ¬ cs = (0 : Int32)) (O0 : Old Z n0 h0) (SA : own_Str Z h0 a1 va ka (0 : Int32) []) (SB : own_Str Z h0 a2 vb kb (2 : Int32) [.int y0, .int y1]) (ne : a1 ≠ a2) :
    own_M l Z (⟨"java/lang/String", "equals", "(Ljava/lang/Object;)Z"⟩ : MethodName) (Jvm.Cond.code (⟨"java/lang/String", "equals", "(Ljava/lang/Object;)Z"⟩ : MethodName) jdk_42_method_66_code 3 (some .boolean)) ws ({ frames := 1, cells := 0, slots := 0, locals := 16 } : Room) #[(.ref a1), (.ref a2)] h0 (Q_rqs_02 Z a1 a2 va vb ka kb cs y0 y1 h0 n0) := by
  refine MetFree.of_bodySF (plainFor_of_name pn_12) hisR ?_
  intro p e s m args below meth c s₁ Bd hml0 hP hK
  obtain ⟨rfl, hZ, hh⟩ := hP
  have hx := Bd.exec
  have hby := Bd.bytes
  have hml : c.maxLocals = 3 := hml0
  have hown : s.vm.findClass "java/lang/String" = some m.cls := findClass_of_methodNamed Bd.named
  have hnm := (name_of_methodNamed Bd.named Bd.method).1
  have X0 : Stand p l e ({ frames := 1, cells := 0, slots := 0, locals := 16 } : Room) s m #[(.ref a1), (.ref a2)] below meth c s₁ [] 0 0 := Stand.of_body Bd
  have e0 : s₁.heap = h0 := by rw [← hh, Bd.state]; rfl
  have N0 := Fr.nil n0
  show Goes p e below (Fin s (Q_rqs_02 Z a1 a2 va vb ka kb cs y0 y1 h0 n0) ({ frames := 1, cells := 0, slots := 0, locals := 16 } : Room).cells ({ frames := 1, cells := 0, slots := 0, locals := 16 } : Room).slots) _
  refine Goes.via (S' := s₁.setTop (mkF m 0 #[.val (.ref a1), .val (.ref a2), .unset] [])) (fun tz kz => castTop (ef_12 m a1 a2 ) kz) ?_
  refine Goes.via (S' := s₁.setTop (mkF m 8 #[.val (.ref a1), .val (.ref a2), .unset] [(.ref a2)])) (fun tz kz => ?_) ?_
  · show Steps p.tables e below (s₁.setTop (mkF m 0 #[.val (.ref a1), .val (.ref a2), .unset] [])) _
    refine XS.aloadN X0.here hx rfl (hb hby d12_0) rfl rfl ?_
    refine XS.aloadN X0.here hx rfl (hb hby d12_1) rfl rfl ?_
    refine Jvm.RoadKit.acmp (g := (mkF m 2 #[.val (.ref a1), .val (.ref a2), .unset] [(.ref a2), (.ref a1)])) X0 hx rfl rfl rfl (pc0 := 2) (pc' := 7) (same := false) rfl (hb hby d12_2) rfl (decide_eq_false fun q => ne (Value.ref.inj q)) (by decide) (by decide) ?_
    refine XS.aloadN X0.here hx rfl (hb hby d12_7) rfl rfl ?_
    exact kz
  obtain ⟨T1, X1, e1, st1⟩ := instY X0 hx hZ hown (w_ hw 83 rfl) e0 (Ins.self SB.1) (g := (mkF m 8 #[.val (.ref a1), .val (.ref a2), .unset] [(.ref a2)])) rfl rfl (hb hby d12_8)
  refine Goes.via (S' := T1.setTop (mkF m 11 #[.val (.ref a1), .val (.ref a2), .unset] [(.int (1 : Int32))])) st1 ?_
  refine Goes.via (S' := T1.setTop (mkF m 15 #[.val (.ref a1), .val (.ref a2), .unset] [(.ref a2)])) (fun tz kz => ?_) ?_
  · show Steps p.tables e below (T1.setTop (mkF m 11 #[.val (.ref a1), .val (.ref a2), .unset] [(.int (1 : Int32))])) _
    refine XS.ifNo X1.here hx rfl (hb hby d12_11) rfl ((if0 _ _).trans (feq (by decide)).1) ?_
    refine XS.aloadN X1.here hx rfl (hb hby d12_14) rfl rfl ?_
    exact kz
  obtain ⟨T2, X2, e2, st2⟩ := castY X1 hx hZ hown (w_ hw 83 rfl) e1 (Ins.self SB.1) (g := (mkF m 15 #[.val (.ref a1), .val (.ref a2), .unset] [(.ref a2)])) rfl rfl (hb hby d12_15)
  refine Goes.via (S' := T2.setTop (mkF m 18 #[.val (.ref a1), .val (.ref a2), .unset] [(.ref a2)])) st2 ?_
  refine Goes.via (S' := T2.setTop (mkF m 19 #[.val (.ref a1), .val (.ref a2), .val (.ref a2)] [])) (fun tz kz => ?_) ?_
  · show Steps p.tables e below (T2.setTop (mkF m 18 #[.val (.ref a1), .val (.ref a2), .unset] [(.ref a2)])) _
    refine XS.astoreN X2.here hx rfl (hb hby d12_18) rfl rfl (l' := #[.val (.ref a1), .val (.ref a2), .val (.ref a2)]) rfl ?_
    exact kz
  obtain ⟨T3, X3, e3, st3⟩ := getS2 X2 hx hZ hown (host := "") (Or.inl (w_ hw 19 rfl)) Via.refl e2 (SC.ext O0.2) (g := (mkF m 19 #[.val (.ref a1), .val (.ref a2), .val (.ref a2)] [])) rfl (hb hby d12_19)
  refine Goes.via (S' := T3.setTop (mkF m 22 #[.val (.ref a1), .val (.ref a2), .val (.ref a2)] [(.int cs)])) st3 ?_
  refine Goes.via (S' := T3.setTop (mkF m 26 #[.val (.ref a1), .val (.ref a2), .val (.ref a2)] [(.ref a1)])) (fun tz kz => ?_) ?_
  · show Steps p.tables e below (T3.setTop (mkF m 22 #[.val (.ref a1), .val (.ref a2), .val (.ref a2)] [(.int cs)])) _
    refine XS.ifNo X3.here hx rfl (hb hby d12_22) rfl ((if0 _ _).trans (feq hcs).1) ?_
    refine XS.aloadN X3.here hx rfl (hb hby d12_25) rfl rfl ?_
    exact kz
  obtain ⟨T4, X4, e4, st4⟩ := getF X3 hx hZ hown (host := "") (Or.inl (w_ hw 31 rfl)) Via.refl e3 SA.2.1 (g := (mkF m 26 #[.val (.ref a1), .val (.ref a2), .val (.ref a2)] [(.ref a1)])) rfl rfl (hb hby d12_26)
  refine Goes.via (S' := T4.setTop (mkF m 29 #[.val (.ref a1), .val (.ref a2), .val (.ref a2)] [(.int (0 : Int32))])) st4 ?_
  refine Goes.via (S' := T4.setTop (mkF m 30 #[.val (.ref a1), .val (.ref a2), .val (.ref a2)] [(.ref a2), (.int (0 : Int32))])) (fun tz kz => ?_) ?_
  · show Steps p.tables e below (T4.setTop (mkF m 29 #[.val (.ref a1), .val (.ref a2), .val (.ref a2)] [(.int (0 : Int32))])) _
    refine XS.aloadN X4.here hx rfl (hb hby d12_29) rfl rfl ?_
    exact kz
  obtain ⟨T5, X5, e5, st5⟩ := getF X4 hx hZ hown (host := "") (Or.inl (w_ hw 31 rfl)) Via.refl e4 SB.2.1 (g := (mkF m 30 #[.val (.ref a1), .val (.ref a2), .val (.ref a2)] [(.ref a2), (.int (0 : Int32))])) rfl rfl (hb hby d12_30)
  refine Goes.via (S' := T5.setTop (mkF m 33 #[.val (.ref a1), .val (.ref a2), .val (.ref a2)] [(.int (0 : Int32)), (.int (0 : Int32))])) st5 ?_
  refine Goes.via (S' := T5.setTop (mkF m 37 #[.val (.ref a1), .val (.ref a2), .val (.ref a2)] [(.ref a1)])) (fun tz kz => ?_) ?_
  · show Steps p.tables e below (T5.setTop (mkF m 33 #[.val (.ref a1), .val (.ref a2), .val (.ref a2)] [(.int (0 : Int32)), (.int (0 : Int32))])) _
    refine XS.icmpNo X5.here hx rfl (hb hby d12_33) rfl (teq (by decide)).2 ?_
    refine XS.aloadN X5.here hx rfl (hb hby d12_36) rfl rfl ?_
    exact kz
  obtain ⟨T6, X6, e6, st6⟩ := getF X5 hx hZ hown (host := "") (Or.inl (w_ hw 33 rfl)) Via.refl e5 SA.2.2.1 (g := (mkF m 37 #[.val (.ref a1), .val (.ref a2), .val (.ref a2)] [(.ref a1)])) rfl rfl (hb hby d12_37)
  refine Goes.via (S' := T6.setTop (mkF m 40 #[.val (.ref a1), .val (.ref a2), .val (.ref a2)] [(.ref va)])) st6 ?_
  refine Goes.via (S' := T6.setTop (mkF m 41 #[.val (.ref a1), .val (.ref a2), .val (.ref a2)] [(.ref a2), (.ref va)])) (fun tz kz => ?_) ?_
  · show Steps p.tables e below (T6.setTop (mkF m 40 #[.val (.ref a1), .val (.ref a2), .val (.ref a2)] [(.ref va)])) _
    refine XS.aloadN X6.here hx rfl (hb hby d12_40) rfl rfl ?_
    exact kz
  obtain ⟨T7, X7, e7, st7⟩ := getF X6 hx hZ hown (host := "") (Or.inl (w_ hw 33 rfl)) Via.refl e6 SB.2.2.1 (g := (mkF m 41 #[.val (.ref a1), .val (.ref a2), .val (.ref a2)] [(.ref a2), (.ref va)])) rfl rfl (hb hby d12_41)
  refine Goes.via (S' := T7.setTop (mkF m 44 #[.val (.ref a1), .val (.ref a2), .val (.ref a2)] [(.ref vb), (.ref va)])) st7 ?_
  obtain ⟨_, _, ⟨T8, L8, k8, n8⟩, -, X8, ⟨Lc8, hQ8, l8, y8, z8⟩, st8⟩ := Jvm.LawKit.callS X7 hx (y := (⟨"java/lang/StringLatin1", "equals", "([B[B)Z"⟩ : MethodName)) hown (mvT hZ (w_ hw 84 rfl)) (mvT hZ (w_ hw 85 rfl)) (mvT hZ (w_ hw 86 rfl)) (mvT hZ (w_ hw 87 rfl)) (by decide) (backOf (W := 0) (req_02 l Z a0 hw [] va vb ka kb y0 y1 h0 n0 Z0 SA.2.2.2 SB.2.2.2) hZ (w_ hw 87 rfl) (w_ hw 86 rfl) (by decide) (by decide)) (g := (mkF m 44 #[.val (.ref a1), .val (.ref a2), .val (.ref a2)] [(.ref vb), (.ref va)])) rfl (by rw [hml]; rfl) (argsL := [(.ref va), (.ref vb)]) (rest := []) (lenOf pd_6 rfl) rfl (by show 2 * 0 + _ ≤ _; exact Nat.le_of_eq rfl) (hb hby d12_44) (fun _ _ => ⟨rfl, e7, (by decide : 0 + 0 ≤ _), (by decide : 0 + 0 ≤ _)⟩)
  dsimp only [Pt.U, Pt.locs, Pt.cells, Pt.slots] at X8 l8 y8 z8 st8 hQ8
  subst l8 y8 z8
  obtain ⟨rfl, N8, e8⟩ := hQ8
  have Nf8 := Fr.app N0 N8
  refine Goes.via (S' := T8.setTop (mkF m 47 #[.val (.ref a1), .val (.ref a2), .val (.ref a2)] [(.int (nar .boolean (own_eqb [] [y0, y1])))])) (st8) ?_
  by_cases hc47_9 : (nar .boolean (own_eqb [] [y0, y1])) = (0 : Int32)
  · refine Goes.via (S' := T8.setTop (mkF m 55 #[.val (.ref a1), .val (.ref a2), .val (.ref a2)] [(.int (0 : Int32))])) (fun tz kz => ?_) ?_
    · show Steps p.tables e below (T8.setTop (mkF m 47 #[.val (.ref a1), .val (.ref a2), .val (.ref a2)] [(.int (nar .boolean (own_eqb [] [y0, y1])))])) _
      refine XS.ifYes X8.here hx rfl (pc0 := 47) (pc' := 54) rfl (hb hby d12_47) rfl ((if0 _ _).trans (teq hc47_9).1) (by decide) (by decide) ?_
      refine XS.iconst X8.here hx rfl (hb hby d12_54) ?_
      exact kz
    exact Goes.retN X8 hx Bd.notSynchronized (t := .boolean) Bd.returns (by simp) (hb hby d12_55) (Nat.le_of_ble_eq_true rfl) (Nat.le_of_ble_eq_true rfl) ⟨congrArg (fun z => some (Value.int z)) (own_eq0 hc47_9), Nf8, e8⟩
  · refine Goes.via (S' := T8.setTop (mkF m 55 #[.val (.ref a1), .val (.ref a2), .val (.ref a2)] [(.int (1 : Int32))])) (fun tz kz => ?_) ?_
    · show Steps p.tables e below (T8.setTop (mkF m 47 #[.val (.ref a1), .val (.ref a2), .val (.ref a2)] [(.int (nar .boolean (own_eqb [] [y0, y1])))])) _
      refine XS.ifNo X8.here hx rfl (hb hby d12_47) rfl ((if0 _ _).trans (feq hc47_9).1) ?_
      refine XS.iconst X8.here hx rfl (hb hby d12_50) ?_
      refine XS.goto X8.here hx rfl (pc0 := 51) (pc' := 55) rfl (hb hby d12_51) (by decide) (by decide) ?_
      exact kz
    exact Goes.retN X8 hx Bd.notSynchronized (t := .boolean) Bd.returns (by simp) (hb hby d12_55) (Nat.le_of_ble_eq_true rfl) (Nat.le_of_ble_eq_true rfl) ⟨congrArg (fun z => some (Value.int z)) (own_eq1 hc47_9), Nf8, e8⟩
def Q_req_03 (Z : State) (ba : Addr) (bb : Addr) (ka kb : ClassId) (y0 y1 y2 : Int32) (h0 : Heap) (n0 : Nat) : Option Value → Heap → List Loc → Prop := fun v h L => v = some (.int (nar .boolean (own_eqb [] [y0, y1, y2]))) ∧ Fr n0 L ∧ h = h0
set_option maxRecDepth 65536 in
set_option maxHeartbeats 40000000 in
theorem req_03 (l : Launch) (Z : State) (a0 : Array Value) (hw : ∀ d ∈ tables_1, d.before a0 Z = true) (ws : List Jvm.Cond) (ba : Addr) (bb : Addr) (ka kb : ClassId) (y0 y1 y2 : Int32) (h0 : Heap) (n0 : Nat) (Z0 : n0 ≤ h0.size) (A0 : Arv Z h0 ba ka .byte (0 : Int32) [] (.int 0)) (B0 : Arv Z h0 bb kb .byte (3 : Int32) [.int y0, .int y1, .int y2] (.int 0)) :
    own_M l Z (⟨"java/lang/StringLatin1", "equals", "([B[B)Z"⟩ : MethodName) (Jvm.Cond.code (⟨"java/lang/StringLatin1", "equals", "([B[B)Z"⟩ : MethodName) jdk_43_method_13_code 3 (some .boolean)) ws ({ frames := 0, cells := 0, slots := 0, locals := 0 } : Room) #[(.ref ba), (.ref bb)] h0 (Q_req_03 Z ba bb ka kb y0 y1 y2 h0 n0) := by
  refine MetFree.of_bodySF (plainFor_of_name pn_13) hisR ?_
  intro p e s m args below meth c s₁ Bd hml0 hP hK
  obtain ⟨rfl, hZ, hh⟩ := hP
  have hx := Bd.exec
  have hby := Bd.bytes
  have hml : c.maxLocals = 3 := hml0
  have hown : s.vm.findClass "java/lang/StringLatin1" = some m.cls := findClass_of_methodNamed Bd.named
  have hnm := (name_of_methodNamed Bd.named Bd.method).1
  have X0 : Stand p l e ({ frames := 0, cells := 0, slots := 0, locals := 0 } : Room) s m #[(.ref ba), (.ref bb)] below meth c s₁ [] 0 0 := Stand.of_body Bd
  have e0 : s₁.heap = h0 := by rw [← hh, Bd.state]; rfl
  have N0 := Fr.nil n0
  show Goes p e below (Fin s (Q_req_03 Z ba bb ka kb y0 y1 y2 h0 n0) ({ frames := 0, cells := 0, slots := 0, locals := 0 } : Room).cells ({ frames := 0, cells := 0, slots := 0, locals := 0 } : Room).slots) _
  refine Goes.via (S' := s₁.setTop (mkF m 0 #[.val (.ref ba), .val (.ref bb), .unset] [])) (fun tz kz => castTop (ef_13 m ba bb ) kz) ?_
  refine Goes.via (S' := s₁.setTop (mkF m 1 #[.val (.ref ba), .val (.ref bb), .unset] [(.ref ba)])) (fun tz kz => ?_) ?_
  · show Steps p.tables e below (s₁.setTop (mkF m 0 #[.val (.ref ba), .val (.ref bb), .unset] [])) _
    refine XS.aloadN X0.here hx rfl (hb hby d13_0) rfl rfl ?_
    exact kz
  obtain ⟨cl1, Ar1, q1, Sz1, Nn1, Hs1, G1⟩ := (id A0)
  refine Goes.via (S' := s₁.setTop (mkF m 3 #[.val (.ref ba), .val (.ref bb), .unset] [(.ref bb), (.int (0 : Int32))])) (fun tz kz => ?_) ?_
  · show Steps p.tables e below (s₁.setTop (mkF m 1 #[.val (.ref ba), .val (.ref bb), .unset] [(.ref ba)])) _
    refine X0.arraylength hx (by rw [e0]; exact Ar1.1) (State.isArrayOf_alike hZ.alike Ar1.2.1) (g := (mkF m 1 #[.val (.ref ba), .val (.ref bb), .unset] [(.ref ba)])) rfl rfl (hb hby d13_1) _ ?_
    rw [len_of Sz1 Nn1]
    refine XS.aloadN X0.here hx rfl (hb hby d13_2) rfl rfl ?_
    exact kz
  obtain ⟨cl2, Ar2, q2, Sz2, Nn2, Hs2, G2⟩ := (id B0)
  refine Goes.via (S' := s₁.setTop (mkF m 35 #[.val (.ref ba), .val (.ref bb), .unset] [(.int (0 : Int32))])) (fun tz kz => ?_) ?_
  · show Steps p.tables e below (s₁.setTop (mkF m 3 #[.val (.ref ba), .val (.ref bb), .unset] [(.ref bb), (.int (0 : Int32))])) _
    refine X0.arraylength hx (by rw [e0]; exact Ar2.1) (State.isArrayOf_alike hZ.alike Ar2.2.1) (g := (mkF m 3 #[.val (.ref ba), .val (.ref bb), .unset] [(.ref bb), (.int (0 : Int32))])) rfl rfl (hb hby d13_3) _ ?_
    rw [len_of Sz2 Nn2]
    refine XS.icmpYes X0.here hx rfl (pc0 := 4) (pc' := 34) rfl (hb hby d13_4) rfl (feq (by decide)).2 (by decide) (by decide) ?_
    refine XS.iconst X0.here hx rfl (hb hby d13_34) ?_
    exact kz
  exact Goes.retN X0 hx Bd.notSynchronized (t := .boolean) Bd.returns (by simp) (hb hby d13_35) (Nat.le_of_ble_eq_true rfl) (Nat.le_of_ble_eq_true rfl) ⟨congrArg (fun z => some (Value.int z)) (by simp [own_eqb]), N0, e0⟩
def Q_rqs_03 (Z : State) (a1 : Addr) (a2 : Addr) (va vb : Addr) (ka kb : ClassId) (cs : Int32) (y0 y1 y2 : Int32) (h0 : Heap) (n0 : Nat) : Option Value → Heap → List Loc → Prop := fun v h L => v = some (.int (nar .boolean (own_eqb [] [y0, y1, y2]))) ∧ Fr n0 L ∧ h = h0
set_option maxRecDepth 65536 in
set_option maxHeartbeats 40000000 in
theorem rqs_03 (l : Launch) (Z : State) (a0 : Array Value) (hw : ∀ d ∈ tables_1, d.before a0 Z = true) (ws : List Jvm.Cond) (a1 : Addr) (a2 : Addr) (va vb : Addr) (ka kb : ClassId) (cs : Int32) (y0 y1 y2 : Int32) (h0 : Heap) (n0 : Nat) (Z0 : n0 ≤ h0.size) (SC : Sta Z Z.heap "java/lang/String" "COMPACT_STRINGS" "Z" (.int cs)) (hcs : ¬ cs = (0 : Int32)) (O0 : Old Z n0 h0) (SA : own_Str Z h0 a1 va ka (0 : Int32) []) (SB : own_Str Z h0 a2 vb kb (3 : Int32) [.int y0, .int y1, .int y2]) (ne : a1 ≠ a2) :
    own_M l Z (⟨"java/lang/String", "equals", "(Ljava/lang/Object;)Z"⟩ : MethodName) (Jvm.Cond.code (⟨"java/lang/String", "equals", "(Ljava/lang/Object;)Z"⟩ : MethodName) jdk_42_method_66_code 3 (some .boolean)) ws ({ frames := 1, cells := 0, slots := 0, locals := 16 } : Room) #[(.ref a1), (.ref a2)] h0 (Q_rqs_03 Z a1 a2 va vb ka kb cs y0 y1 y2 h0 n0) := by
  refine MetFree.of_bodySF (plainFor_of_name pn_12) hisR ?_
  intro p e s m args below meth c s₁ Bd hml0 hP hK
  obtain ⟨rfl, hZ, hh⟩ := hP
  have hx := Bd.exec
  have hby := Bd.bytes
  have hml : c.maxLocals = 3 := hml0
  have hown : s.vm.findClass "java/lang/String" = some m.cls := findClass_of_methodNamed Bd.named
  have hnm := (name_of_methodNamed Bd.named Bd.method).1
  have X0 : Stand p l e ({ frames := 1, cells := 0, slots := 0, locals := 16 } : Room) s m #[(.ref a1), (.ref a2)] below meth c s₁ [] 0 0 := Stand.of_body Bd
  have e0 : s₁.heap = h0 := by rw [← hh, Bd.state]; rfl
  have N0 := Fr.nil n0
  show Goes p e below (Fin s (Q_rqs_03 Z a1 a2 va vb ka kb cs y0 y1 y2 h0 n0) ({ frames := 1, cells := 0, slots := 0, locals := 16 } : Room).cells ({ frames := 1, cells := 0, slots := 0, locals := 16 } : Room).slots) _
  refine Goes.via (S' := s₁.setTop (mkF m 0 #[.val (.ref a1), .val (.ref a2), .unset] [])) (fun tz kz => castTop (ef_12 m a1 a2 ) kz) ?_
  refine Goes.via (S' := s₁.setTop (mkF m 8 #[.val (.ref a1), .val (.ref a2), .unset] [(.ref a2)])) (fun tz kz => ?_) ?_
  · show Steps p.tables e below (s₁.setTop (mkF m 0 #[.val (.ref a1), .val (.ref a2), .unset] [])) _
    refine XS.aloadN X0.here hx rfl (hb hby d12_0) rfl rfl ?_
    refine XS.aloadN X0.here hx rfl (hb hby d12_1) rfl rfl ?_
    refine Jvm.RoadKit.acmp (g := (mkF m 2 #[.val (.ref a1), .val (.ref a2), .unset] [(.ref a2), (.ref a1)])) X0 hx rfl rfl rfl (pc0 := 2) (pc' := 7) (same := false) rfl (hb hby d12_2) rfl (decide_eq_false fun q => ne (Value.ref.inj q)) (by decide) (by decide) ?_
    refine XS.aloadN X0.here hx rfl (hb hby d12_7) rfl rfl ?_
    exact kz
  obtain ⟨T1, X1, e1, st1⟩ := instY X0 hx hZ hown (w_ hw 83 rfl) e0 (Ins.self SB.1) (g := (mkF m 8 #[.val (.ref a1), .val (.ref a2), .unset] [(.ref a2)])) rfl rfl (hb hby d12_8)
  refine Goes.via (S' := T1.setTop (mkF m 11 #[.val (.ref a1), .val (.ref a2), .unset] [(.int (1 : Int32))])) st1 ?_
  refine Goes.via (S' := T1.setTop (mkF m 15 #[.val (.ref a1), .val (.ref a2), .unset] [(.ref a2)])) (fun tz kz => ?_) ?_
  · show Steps p.tables e below (T1.setTop (mkF m 11 #[.val (.ref a1), .val (.ref a2), .unset] [(.int (1 : Int32))])) _
    refine XS.ifNo X1.here hx rfl (hb hby d12_11) rfl ((if0 _ _).trans (feq (by decide)).1) ?_
    refine XS.aloadN X1.here hx rfl (hb hby d12_14) rfl rfl ?_
    exact kz
  obtain ⟨T2, X2, e2, st2⟩ := castY X1 hx hZ hown (w_ hw 83 rfl) e1 (Ins.self SB.1) (g := (mkF m 15 #[.val (.ref a1), .val (.ref a2), .unset] [(.ref a2)])) rfl rfl (hb hby d12_15)
  refine Goes.via (S' := T2.setTop (mkF m 18 #[.val (.ref a1), .val (.ref a2), .unset] [(.ref a2)])) st2 ?_
  refine Goes.via (S' := T2.setTop (mkF m 19 #[.val (.ref a1), .val (.ref a2), .val (.ref a2)] [])) (fun tz kz => ?_) ?_
  · show Steps p.tables e below (T2.setTop (mkF m 18 #[.val (.ref a1), .val (.ref a2), .unset] [(.ref a2)])) _
    refine XS.astoreN X2.here hx rfl (hb hby d12_18) rfl rfl (l' := #[.val (.ref a1), .val (.ref a2), .val (.ref a2)]) rfl ?_
    exact kz
  obtain ⟨T3, X3, e3, st3⟩ := getS2 X2 hx hZ hown (host := "") (Or.inl (w_ hw 19 rfl)) Via.refl e2 (SC.ext O0.2) (g := (mkF m 19 #[.val (.ref a1), .val (.ref a2), .val (.ref a2)] [])) rfl (hb hby d12_19)
  refine Goes.via (S' := T3.setTop (mkF m 22 #[.val (.ref a1), .val (.ref a2), .val (.ref a2)] [(.int cs)])) st3 ?_
  refine Goes.via (S' := T3.setTop (mkF m 26 #[.val (.ref a1), .val (.ref a2), .val (.ref a2)] [(.ref a1)])) (fun tz kz => ?_) ?_
  · show Steps p.tables e below (T3.setTop (mkF m 22 #[.val (.ref a1), .val (.ref a2), .val (.ref a2)] [(.int cs)])) _
    refine XS.ifNo X3.here hx rfl (hb hby d12_22) rfl ((if0 _ _).trans (feq hcs).1) ?_
    refine XS.aloadN X3.here hx rfl (hb hby d12_25) rfl rfl ?_
    exact kz
  obtain ⟨T4, X4, e4, st4⟩ := getF X3 hx hZ hown (host := "") (Or.inl (w_ hw 31 rfl)) Via.refl e3 SA.2.1 (g := (mkF m 26 #[.val (.ref a1), .val (.ref a2), .val (.ref a2)] [(.ref a1)])) rfl rfl (hb hby d12_26)
  refine Goes.via (S' := T4.setTop (mkF m 29 #[.val (.ref a1), .val (.ref a2), .val (.ref a2)] [(.int (0 : Int32))])) st4 ?_
  refine Goes.via (S' := T4.setTop (mkF m 30 #[.val (.ref a1), .val (.ref a2), .val (.ref a2)] [(.ref a2), (.int (0 : Int32))])) (fun tz kz => ?_) ?_
  · show Steps p.tables e below (T4.setTop (mkF m 29 #[.val (.ref a1), .val (.ref a2), .val (.ref a2)] [(.int (0 : Int32))])) _
    refine XS.aloadN X4.here hx rfl (hb hby d12_29) rfl rfl ?_
    exact kz
  obtain ⟨T5, X5, e5, st5⟩ := getF X4 hx hZ hown (host := "") (Or.inl (w_ hw 31 rfl)) Via.refl e4 SB.2.1 (g := (mkF m 30 #[.val (.ref a1), .val (.ref a2), .val (.ref a2)] [(.ref a2), (.int (0 : Int32))])) rfl rfl (hb hby d12_30)
  refine Goes.via (S' := T5.setTop (mkF m 33 #[.val (.ref a1), .val (.ref a2), .val (.ref a2)] [(.int (0 : Int32)), (.int (0 : Int32))])) st5 ?_
  refine Goes.via (S' := T5.setTop (mkF m 37 #[.val (.ref a1), .val (.ref a2), .val (.ref a2)] [(.ref a1)])) (fun tz kz => ?_) ?_
  · show Steps p.tables e below (T5.setTop (mkF m 33 #[.val (.ref a1), .val (.ref a2), .val (.ref a2)] [(.int (0 : Int32)), (.int (0 : Int32))])) _
    refine XS.icmpNo X5.here hx rfl (hb hby d12_33) rfl (teq (by decide)).2 ?_
    refine XS.aloadN X5.here hx rfl (hb hby d12_36) rfl rfl ?_
    exact kz
  obtain ⟨T6, X6, e6, st6⟩ := getF X5 hx hZ hown (host := "") (Or.inl (w_ hw 33 rfl)) Via.refl e5 SA.2.2.1 (g := (mkF m 37 #[.val (.ref a1), .val (.ref a2), .val (.ref a2)] [(.ref a1)])) rfl rfl (hb hby d12_37)
  refine Goes.via (S' := T6.setTop (mkF m 40 #[.val (.ref a1), .val (.ref a2), .val (.ref a2)] [(.ref va)])) st6 ?_
  refine Goes.via (S' := T6.setTop (mkF m 41 #[.val (.ref a1), .val (.ref a2), .val (.ref a2)] [(.ref a2), (.ref va)])) (fun tz kz => ?_) ?_
  · show Steps p.tables e below (T6.setTop (mkF m 40 #[.val (.ref a1), .val (.ref a2), .val (.ref a2)] [(.ref va)])) _
    refine XS.aloadN X6.here hx rfl (hb hby d12_40) rfl rfl ?_
    exact kz
  obtain ⟨T7, X7, e7, st7⟩ := getF X6 hx hZ hown (host := "") (Or.inl (w_ hw 33 rfl)) Via.refl e6 SB.2.2.1 (g := (mkF m 41 #[.val (.ref a1), .val (.ref a2), .val (.ref a2)] [(.ref a2), (.ref va)])) rfl rfl (hb hby d12_41)
  refine Goes.via (S' := T7.setTop (mkF m 44 #[.val (.ref a1), .val (.ref a2), .val (.ref a2)] [(.ref vb), (.ref va)])) st7 ?_
  obtain ⟨_, _, ⟨T8, L8, k8, n8⟩, -, X8, ⟨Lc8, hQ8, l8, y8, z8⟩, st8⟩ := Jvm.LawKit.callS X7 hx (y := (⟨"java/lang/StringLatin1", "equals", "([B[B)Z"⟩ : MethodName)) hown (mvT hZ (w_ hw 84 rfl)) (mvT hZ (w_ hw 85 rfl)) (mvT hZ (w_ hw 86 rfl)) (mvT hZ (w_ hw 87 rfl)) (by decide) (backOf (W := 0) (req_03 l Z a0 hw [] va vb ka kb y0 y1 y2 h0 n0 Z0 SA.2.2.2 SB.2.2.2) hZ (w_ hw 87 rfl) (w_ hw 86 rfl) (by decide) (by decide)) (g := (mkF m 44 #[.val (.ref a1), .val (.ref a2), .val (.ref a2)] [(.ref vb), (.ref va)])) rfl (by rw [hml]; rfl) (argsL := [(.ref va), (.ref vb)]) (rest := []) (lenOf pd_6 rfl) rfl (by show 2 * 0 + _ ≤ _; exact Nat.le_of_eq rfl) (hb hby d12_44) (fun _ _ => ⟨rfl, e7, (by decide : 0 + 0 ≤ _), (by decide : 0 + 0 ≤ _)⟩)
  dsimp only [Pt.U, Pt.locs, Pt.cells, Pt.slots] at X8 l8 y8 z8 st8 hQ8
  subst l8 y8 z8
  obtain ⟨rfl, N8, e8⟩ := hQ8
  have Nf8 := Fr.app N0 N8
  refine Goes.via (S' := T8.setTop (mkF m 47 #[.val (.ref a1), .val (.ref a2), .val (.ref a2)] [(.int (nar .boolean (own_eqb [] [y0, y1, y2])))])) (st8) ?_
  by_cases hc47_9 : (nar .boolean (own_eqb [] [y0, y1, y2])) = (0 : Int32)
  · refine Goes.via (S' := T8.setTop (mkF m 55 #[.val (.ref a1), .val (.ref a2), .val (.ref a2)] [(.int (0 : Int32))])) (fun tz kz => ?_) ?_
    · show Steps p.tables e below (T8.setTop (mkF m 47 #[.val (.ref a1), .val (.ref a2), .val (.ref a2)] [(.int (nar .boolean (own_eqb [] [y0, y1, y2])))])) _
      refine XS.ifYes X8.here hx rfl (pc0 := 47) (pc' := 54) rfl (hb hby d12_47) rfl ((if0 _ _).trans (teq hc47_9).1) (by decide) (by decide) ?_
      refine XS.iconst X8.here hx rfl (hb hby d12_54) ?_
      exact kz
    exact Goes.retN X8 hx Bd.notSynchronized (t := .boolean) Bd.returns (by simp) (hb hby d12_55) (Nat.le_of_ble_eq_true rfl) (Nat.le_of_ble_eq_true rfl) ⟨congrArg (fun z => some (Value.int z)) (own_eq0 hc47_9), Nf8, e8⟩
  · refine Goes.via (S' := T8.setTop (mkF m 55 #[.val (.ref a1), .val (.ref a2), .val (.ref a2)] [(.int (1 : Int32))])) (fun tz kz => ?_) ?_
    · show Steps p.tables e below (T8.setTop (mkF m 47 #[.val (.ref a1), .val (.ref a2), .val (.ref a2)] [(.int (nar .boolean (own_eqb [] [y0, y1, y2])))])) _
      refine XS.ifNo X8.here hx rfl (hb hby d12_47) rfl ((if0 _ _).trans (feq hc47_9).1) ?_
      refine XS.iconst X8.here hx rfl (hb hby d12_50) ?_
      refine XS.goto X8.here hx rfl (pc0 := 51) (pc' := 55) rfl (hb hby d12_51) (by decide) (by decide) ?_
      exact kz
    exact Goes.retN X8 hx Bd.notSynchronized (t := .boolean) Bd.returns (by simp) (hb hby d12_55) (Nat.le_of_ble_eq_true rfl) (Nat.le_of_ble_eq_true rfl) ⟨congrArg (fun z => some (Value.int z)) (own_eq1 hc47_9), Nf8, e8⟩
def Q_req_10 (Z : State) (ba : Addr) (bb : Addr) (ka kb : ClassId) (x0 : Int32) (h0 : Heap) (n0 : Nat) : Option Value → Heap → List Loc → Prop := fun v h L => v = some (.int (nar .boolean (own_eqb [x0] []))) ∧ Fr n0 L ∧ h = h0
set_option maxRecDepth 65536 in
set_option maxHeartbeats 40000000 in
theorem req_10 (l : Launch) (Z : State) (a0 : Array Value) (hw : ∀ d ∈ tables_1, d.before a0 Z = true) (ws : List Jvm.Cond) (ba : Addr) (bb : Addr) (ka kb : ClassId) (x0 : Int32) (h0 : Heap) (n0 : Nat) (Z0 : n0 ≤ h0.size) (A0 : Arv Z h0 ba ka .byte (1 : Int32) [.int x0] (.int 0)) (B0 : Arv Z h0 bb kb .byte (0 : Int32) [] (.int 0)) :
    own_M l Z (⟨"java/lang/StringLatin1", "equals", "([B[B)Z"⟩ : MethodName) (Jvm.Cond.code (⟨"java/lang/StringLatin1", "equals", "([B[B)Z"⟩ : MethodName) jdk_43_method_13_code 3 (some .boolean)) ws ({ frames := 0, cells := 0, slots := 0, locals := 0 } : Room) #[(.ref ba), (.ref bb)] h0 (Q_req_10 Z ba bb ka kb x0 h0 n0) := by
  refine MetFree.of_bodySF (plainFor_of_name pn_13) hisR ?_
  intro p e s m args below meth c s₁ Bd hml0 hP hK
  obtain ⟨rfl, hZ, hh⟩ := hP
  have hx := Bd.exec
  have hby := Bd.bytes
  have hml : c.maxLocals = 3 := hml0
  have hown : s.vm.findClass "java/lang/StringLatin1" = some m.cls := findClass_of_methodNamed Bd.named
  have hnm := (name_of_methodNamed Bd.named Bd.method).1
  have X0 : Stand p l e ({ frames := 0, cells := 0, slots := 0, locals := 0 } : Room) s m #[(.ref ba), (.ref bb)] below meth c s₁ [] 0 0 := Stand.of_body Bd
  have e0 : s₁.heap = h0 := by rw [← hh, Bd.state]; rfl
  have N0 := Fr.nil n0
  show Goes p e below (Fin s (Q_req_10 Z ba bb ka kb x0 h0 n0) ({ frames := 0, cells := 0, slots := 0, locals := 0 } : Room).cells ({ frames := 0, cells := 0, slots := 0, locals := 0 } : Room).slots) _
  refine Goes.via (S' := s₁.setTop (mkF m 0 #[.val (.ref ba), .val (.ref bb), .unset] [])) (fun tz kz => castTop (ef_13 m ba bb ) kz) ?_
  refine Goes.via (S' := s₁.setTop (mkF m 1 #[.val (.ref ba), .val (.ref bb), .unset] [(.ref ba)])) (fun tz kz => ?_) ?_
  · show Steps p.tables e below (s₁.setTop (mkF m 0 #[.val (.ref ba), .val (.ref bb), .unset] [])) _
    refine XS.aloadN X0.here hx rfl (hb hby d13_0) rfl rfl ?_
    exact kz
  obtain ⟨cl1, Ar1, q1, Sz1, Nn1, Hs1, G1⟩ := (id A0)
  refine Goes.via (S' := s₁.setTop (mkF m 3 #[.val (.ref ba), .val (.ref bb), .unset] [(.ref bb), (.int (1 : Int32))])) (fun tz kz => ?_) ?_
  · show Steps p.tables e below (s₁.setTop (mkF m 1 #[.val (.ref ba), .val (.ref bb), .unset] [(.ref ba)])) _
    refine X0.arraylength hx (by rw [e0]; exact Ar1.1) (State.isArrayOf_alike hZ.alike Ar1.2.1) (g := (mkF m 1 #[.val (.ref ba), .val (.ref bb), .unset] [(.ref ba)])) rfl rfl (hb hby d13_1) _ ?_
    rw [len_of Sz1 Nn1]
    refine XS.aloadN X0.here hx rfl (hb hby d13_2) rfl rfl ?_
    exact kz
  obtain ⟨cl2, Ar2, q2, Sz2, Nn2, Hs2, G2⟩ := (id B0)
  refine Goes.via (S' := s₁.setTop (mkF m 35 #[.val (.ref ba), .val (.ref bb), .unset] [(.int (0 : Int32))])) (fun tz kz => ?_) ?_
  · show Steps p.tables e below (s₁.setTop (mkF m 3 #[.val (.ref ba), .val (.ref bb), .unset] [(.ref bb), (.int (1 : Int32))])) _
    refine X0.arraylength hx (by rw [e0]; exact Ar2.1) (State.isArrayOf_alike hZ.alike Ar2.2.1) (g := (mkF m 3 #[.val (.ref ba), .val (.ref bb), .unset] [(.ref bb), (.int (1 : Int32))])) rfl rfl (hb hby d13_3) _ ?_
    rw [len_of Sz2 Nn2]
    refine XS.icmpYes X0.here hx rfl (pc0 := 4) (pc' := 34) rfl (hb hby d13_4) rfl (feq (by decide)).2 (by decide) (by decide) ?_
    refine XS.iconst X0.here hx rfl (hb hby d13_34) ?_
    exact kz
  exact Goes.retN X0 hx Bd.notSynchronized (t := .boolean) Bd.returns (by simp) (hb hby d13_35) (Nat.le_of_ble_eq_true rfl) (Nat.le_of_ble_eq_true rfl) ⟨congrArg (fun z => some (Value.int z)) (by simp [own_eqb]), N0, e0⟩
def Q_rqs_10 (Z : State) (a1 : Addr) (a2 : Addr) (va vb : Addr) (ka kb : ClassId) (cs : Int32) (x0 : Int32) (h0 : Heap) (n0 : Nat) : Option Value → Heap → List Loc → Prop := fun v h L => v = some (.int (nar .boolean (own_eqb [x0] []))) ∧ Fr n0 L ∧ h = h0
set_option maxRecDepth 65536 in
set_option maxHeartbeats 40000000 in
theorem rqs_10 (l : Launch) (Z : State) (a0 : Array Value) (hw : ∀ d ∈ tables_1, d.before a0 Z = true) (ws : List Jvm.Cond) (a1 : Addr) (a2 : Addr) (va vb : Addr) (ka kb : ClassId) (cs : Int32) (x0 : Int32) (h0 : Heap) (n0 : Nat) (Z0 : n0 ≤ h0.size) (SC : Sta Z Z.heap "java/lang/String" "COMPACT_STRINGS" "Z" (.int cs)) (hcs : ¬ cs = (0 : Int32)) (O0 : Old Z n0 h0) (SA : own_Str Z h0 a1 va ka (1 : Int32) [.int x0]) (SB : own_Str Z h0 a2 vb kb (0 : Int32) []) (ne : a1 ≠ a2) :
    own_M l Z (⟨"java/lang/String", "equals", "(Ljava/lang/Object;)Z"⟩ : MethodName) (Jvm.Cond.code (⟨"java/lang/String", "equals", "(Ljava/lang/Object;)Z"⟩ : MethodName) jdk_42_method_66_code 3 (some .boolean)) ws ({ frames := 1, cells := 0, slots := 0, locals := 16 } : Room) #[(.ref a1), (.ref a2)] h0 (Q_rqs_10 Z a1 a2 va vb ka kb cs x0 h0 n0) := by
  refine MetFree.of_bodySF (plainFor_of_name pn_12) hisR ?_
  intro p e s m args below meth c s₁ Bd hml0 hP hK
  obtain ⟨rfl, hZ, hh⟩ := hP
  have hx := Bd.exec
  have hby := Bd.bytes
  have hml : c.maxLocals = 3 := hml0
  have hown : s.vm.findClass "java/lang/String" = some m.cls := findClass_of_methodNamed Bd.named
  have hnm := (name_of_methodNamed Bd.named Bd.method).1
  have X0 : Stand p l e ({ frames := 1, cells := 0, slots := 0, locals := 16 } : Room) s m #[(.ref a1), (.ref a2)] below meth c s₁ [] 0 0 := Stand.of_body Bd
  have e0 : s₁.heap = h0 := by rw [← hh, Bd.state]; rfl
  have N0 := Fr.nil n0
  show Goes p e below (Fin s (Q_rqs_10 Z a1 a2 va vb ka kb cs x0 h0 n0) ({ frames := 1, cells := 0, slots := 0, locals := 16 } : Room).cells ({ frames := 1, cells := 0, slots := 0, locals := 16 } : Room).slots) _
  refine Goes.via (S' := s₁.setTop (mkF m 0 #[.val (.ref a1), .val (.ref a2), .unset] [])) (fun tz kz => castTop (ef_12 m a1 a2 ) kz) ?_
  refine Goes.via (S' := s₁.setTop (mkF m 8 #[.val (.ref a1), .val (.ref a2), .unset] [(.ref a2)])) (fun tz kz => ?_) ?_
  · show Steps p.tables e below (s₁.setTop (mkF m 0 #[.val (.ref a1), .val (.ref a2), .unset] [])) _
    refine XS.aloadN X0.here hx rfl (hb hby d12_0) rfl rfl ?_
    refine XS.aloadN X0.here hx rfl (hb hby d12_1) rfl rfl ?_
    refine Jvm.RoadKit.acmp (g := (mkF m 2 #[.val (.ref a1), .val (.ref a2), .unset] [(.ref a2), (.ref a1)])) X0 hx rfl rfl rfl (pc0 := 2) (pc' := 7) (same := false) rfl (hb hby d12_2) rfl (decide_eq_false fun q => ne (Value.ref.inj q)) (by decide) (by decide) ?_
    refine XS.aloadN X0.here hx rfl (hb hby d12_7) rfl rfl ?_
    exact kz
  obtain ⟨T1, X1, e1, st1⟩ := instY X0 hx hZ hown (w_ hw 83 rfl) e0 (Ins.self SB.1) (g := (mkF m 8 #[.val (.ref a1), .val (.ref a2), .unset] [(.ref a2)])) rfl rfl (hb hby d12_8)
  refine Goes.via (S' := T1.setTop (mkF m 11 #[.val (.ref a1), .val (.ref a2), .unset] [(.int (1 : Int32))])) st1 ?_
  refine Goes.via (S' := T1.setTop (mkF m 15 #[.val (.ref a1), .val (.ref a2), .unset] [(.ref a2)])) (fun tz kz => ?_) ?_
  · show Steps p.tables e below (T1.setTop (mkF m 11 #[.val (.ref a1), .val (.ref a2), .unset] [(.int (1 : Int32))])) _
    refine XS.ifNo X1.here hx rfl (hb hby d12_11) rfl ((if0 _ _).trans (feq (by decide)).1) ?_
    refine XS.aloadN X1.here hx rfl (hb hby d12_14) rfl rfl ?_
    exact kz
  obtain ⟨T2, X2, e2, st2⟩ := castY X1 hx hZ hown (w_ hw 83 rfl) e1 (Ins.self SB.1) (g := (mkF m 15 #[.val (.ref a1), .val (.ref a2), .unset] [(.ref a2)])) rfl rfl (hb hby d12_15)
  refine Goes.via (S' := T2.setTop (mkF m 18 #[.val (.ref a1), .val (.ref a2), .unset] [(.ref a2)])) st2 ?_
  refine Goes.via (S' := T2.setTop (mkF m 19 #[.val (.ref a1), .val (.ref a2), .val (.ref a2)] [])) (fun tz kz => ?_) ?_
  · show Steps p.tables e below (T2.setTop (mkF m 18 #[.val (.ref a1), .val (.ref a2), .unset] [(.ref a2)])) _
    refine XS.astoreN X2.here hx rfl (hb hby d12_18) rfl rfl (l' := #[.val (.ref a1), .val (.ref a2), .val (.ref a2)]) rfl ?_
    exact kz
  obtain ⟨T3, X3, e3, st3⟩ := getS2 X2 hx hZ hown (host := "") (Or.inl (w_ hw 19 rfl)) Via.refl e2 (SC.ext O0.2) (g := (mkF m 19 #[.val (.ref a1), .val (.ref a2), .val (.ref a2)] [])) rfl (hb hby d12_19)
  refine Goes.via (S' := T3.setTop (mkF m 22 #[.val (.ref a1), .val (.ref a2), .val (.ref a2)] [(.int cs)])) st3 ?_
  refine Goes.via (S' := T3.setTop (mkF m 26 #[.val (.ref a1), .val (.ref a2), .val (.ref a2)] [(.ref a1)])) (fun tz kz => ?_) ?_
  · show Steps p.tables e below (T3.setTop (mkF m 22 #[.val (.ref a1), .val (.ref a2), .val (.ref a2)] [(.int cs)])) _
    refine XS.ifNo X3.here hx rfl (hb hby d12_22) rfl ((if0 _ _).trans (feq hcs).1) ?_
    refine XS.aloadN X3.here hx rfl (hb hby d12_25) rfl rfl ?_
    exact kz
  obtain ⟨T4, X4, e4, st4⟩ := getF X3 hx hZ hown (host := "") (Or.inl (w_ hw 31 rfl)) Via.refl e3 SA.2.1 (g := (mkF m 26 #[.val (.ref a1), .val (.ref a2), .val (.ref a2)] [(.ref a1)])) rfl rfl (hb hby d12_26)
  refine Goes.via (S' := T4.setTop (mkF m 29 #[.val (.ref a1), .val (.ref a2), .val (.ref a2)] [(.int (0 : Int32))])) st4 ?_
  refine Goes.via (S' := T4.setTop (mkF m 30 #[.val (.ref a1), .val (.ref a2), .val (.ref a2)] [(.ref a2), (.int (0 : Int32))])) (fun tz kz => ?_) ?_
  · show Steps p.tables e below (T4.setTop (mkF m 29 #[.val (.ref a1), .val (.ref a2), .val (.ref a2)] [(.int (0 : Int32))])) _
    refine XS.aloadN X4.here hx rfl (hb hby d12_29) rfl rfl ?_
    exact kz
  obtain ⟨T5, X5, e5, st5⟩ := getF X4 hx hZ hown (host := "") (Or.inl (w_ hw 31 rfl)) Via.refl e4 SB.2.1 (g := (mkF m 30 #[.val (.ref a1), .val (.ref a2), .val (.ref a2)] [(.ref a2), (.int (0 : Int32))])) rfl rfl (hb hby d12_30)
  refine Goes.via (S' := T5.setTop (mkF m 33 #[.val (.ref a1), .val (.ref a2), .val (.ref a2)] [(.int (0 : Int32)), (.int (0 : Int32))])) st5 ?_
  refine Goes.via (S' := T5.setTop (mkF m 37 #[.val (.ref a1), .val (.ref a2), .val (.ref a2)] [(.ref a1)])) (fun tz kz => ?_) ?_
  · show Steps p.tables e below (T5.setTop (mkF m 33 #[.val (.ref a1), .val (.ref a2), .val (.ref a2)] [(.int (0 : Int32)), (.int (0 : Int32))])) _
    refine XS.icmpNo X5.here hx rfl (hb hby d12_33) rfl (teq (by decide)).2 ?_
    refine XS.aloadN X5.here hx rfl (hb hby d12_36) rfl rfl ?_
    exact kz
  obtain ⟨T6, X6, e6, st6⟩ := getF X5 hx hZ hown (host := "") (Or.inl (w_ hw 33 rfl)) Via.refl e5 SA.2.2.1 (g := (mkF m 37 #[.val (.ref a1), .val (.ref a2), .val (.ref a2)] [(.ref a1)])) rfl rfl (hb hby d12_37)
  refine Goes.via (S' := T6.setTop (mkF m 40 #[.val (.ref a1), .val (.ref a2), .val (.ref a2)] [(.ref va)])) st6 ?_
  refine Goes.via (S' := T6.setTop (mkF m 41 #[.val (.ref a1), .val (.ref a2), .val (.ref a2)] [(.ref a2), (.ref va)])) (fun tz kz => ?_) ?_
  · show Steps p.tables e below (T6.setTop (mkF m 40 #[.val (.ref a1), .val (.ref a2), .val (.ref a2)] [(.ref va)])) _
    refine XS.aloadN X6.here hx rfl (hb hby d12_40) rfl rfl ?_
    exact kz
  obtain ⟨T7, X7, e7, st7⟩ := getF X6 hx hZ hown (host := "") (Or.inl (w_ hw 33 rfl)) Via.refl e6 SB.2.2.1 (g := (mkF m 41 #[.val (.ref a1), .val (.ref a2), .val (.ref a2)] [(.ref a2), (.ref va)])) rfl rfl (hb hby d12_41)
  refine Goes.via (S' := T7.setTop (mkF m 44 #[.val (.ref a1), .val (.ref a2), .val (.ref a2)] [(.ref vb), (.ref va)])) st7 ?_
  obtain ⟨_, _, ⟨T8, L8, k8, n8⟩, -, X8, ⟨Lc8, hQ8, l8, y8, z8⟩, st8⟩ := Jvm.LawKit.callS X7 hx (y := (⟨"java/lang/StringLatin1", "equals", "([B[B)Z"⟩ : MethodName)) hown (mvT hZ (w_ hw 84 rfl)) (mvT hZ (w_ hw 85 rfl)) (mvT hZ (w_ hw 86 rfl)) (mvT hZ (w_ hw 87 rfl)) (by decide) (backOf (W := 0) (req_10 l Z a0 hw [] va vb ka kb x0 h0 n0 Z0 SA.2.2.2 SB.2.2.2) hZ (w_ hw 87 rfl) (w_ hw 86 rfl) (by decide) (by decide)) (g := (mkF m 44 #[.val (.ref a1), .val (.ref a2), .val (.ref a2)] [(.ref vb), (.ref va)])) rfl (by rw [hml]; rfl) (argsL := [(.ref va), (.ref vb)]) (rest := []) (lenOf pd_6 rfl) rfl (by show 2 * 0 + _ ≤ _; exact Nat.le_of_eq rfl) (hb hby d12_44) (fun _ _ => ⟨rfl, e7, (by decide : 0 + 0 ≤ _), (by decide : 0 + 0 ≤ _)⟩)
  dsimp only [Pt.U, Pt.locs, Pt.cells, Pt.slots] at X8 l8 y8 z8 st8 hQ8
  subst l8 y8 z8
  obtain ⟨rfl, N8, e8⟩ := hQ8
  have Nf8 := Fr.app N0 N8
  refine Goes.via (S' := T8.setTop (mkF m 47 #[.val (.ref a1), .val (.ref a2), .val (.ref a2)] [(.int (nar .boolean (own_eqb [x0] [])))])) (st8) ?_
  by_cases hc47_9 : (nar .boolean (own_eqb [x0] [])) = (0 : Int32)
  · refine Goes.via (S' := T8.setTop (mkF m 55 #[.val (.ref a1), .val (.ref a2), .val (.ref a2)] [(.int (0 : Int32))])) (fun tz kz => ?_) ?_
    · show Steps p.tables e below (T8.setTop (mkF m 47 #[.val (.ref a1), .val (.ref a2), .val (.ref a2)] [(.int (nar .boolean (own_eqb [x0] [])))])) _
      refine XS.ifYes X8.here hx rfl (pc0 := 47) (pc' := 54) rfl (hb hby d12_47) rfl ((if0 _ _).trans (teq hc47_9).1) (by decide) (by decide) ?_
      refine XS.iconst X8.here hx rfl (hb hby d12_54) ?_
      exact kz
    exact Goes.retN X8 hx Bd.notSynchronized (t := .boolean) Bd.returns (by simp) (hb hby d12_55) (Nat.le_of_ble_eq_true rfl) (Nat.le_of_ble_eq_true rfl) ⟨congrArg (fun z => some (Value.int z)) (own_eq0 hc47_9), Nf8, e8⟩
  · refine Goes.via (S' := T8.setTop (mkF m 55 #[.val (.ref a1), .val (.ref a2), .val (.ref a2)] [(.int (1 : Int32))])) (fun tz kz => ?_) ?_
    · show Steps p.tables e below (T8.setTop (mkF m 47 #[.val (.ref a1), .val (.ref a2), .val (.ref a2)] [(.int (nar .boolean (own_eqb [x0] [])))])) _
      refine XS.ifNo X8.here hx rfl (hb hby d12_47) rfl ((if0 _ _).trans (feq hc47_9).1) ?_
      refine XS.iconst X8.here hx rfl (hb hby d12_50) ?_
      refine XS.goto X8.here hx rfl (pc0 := 51) (pc' := 55) rfl (hb hby d12_51) (by decide) (by decide) ?_
      exact kz
    exact Goes.retN X8 hx Bd.notSynchronized (t := .boolean) Bd.returns (by simp) (hb hby d12_55) (Nat.le_of_ble_eq_true rfl) (Nat.le_of_ble_eq_true rfl) ⟨congrArg (fun z => some (Value.int z)) (own_eq1 hc47_9), Nf8, e8⟩
def Q_req_11 (Z : State) (ba : Addr) (bb : Addr) (ka kb : ClassId) (x0 y0 : Int32) (h0 : Heap) (n0 : Nat) : Option Value → Heap → List Loc → Prop := fun v h L => v = some (.int (nar .boolean (own_eqb [x0] [y0]))) ∧ Fr n0 L ∧ h = h0
set_option maxRecDepth 65536 in
set_option maxHeartbeats 40000000 in
theorem req_11 (l : Launch) (Z : State) (a0 : Array Value) (hw : ∀ d ∈ tables_1, d.before a0 Z = true) (ws : List Jvm.Cond) (ba : Addr) (bb : Addr) (ka kb : ClassId) (x0 y0 : Int32) (h0 : Heap) (n0 : Nat) (Z0 : n0 ≤ h0.size) (A0 : Arv Z h0 ba ka .byte (1 : Int32) [.int x0] (.int 0)) (B0 : Arv Z h0 bb kb .byte (1 : Int32) [.int y0] (.int 0)) :
    own_M l Z (⟨"java/lang/StringLatin1", "equals", "([B[B)Z"⟩ : MethodName) (Jvm.Cond.code (⟨"java/lang/StringLatin1", "equals", "([B[B)Z"⟩ : MethodName) jdk_43_method_13_code 3 (some .boolean)) ws ({ frames := 0, cells := 0, slots := 0, locals := 0 } : Room) #[(.ref ba), (.ref bb)] h0 (Q_req_11 Z ba bb ka kb x0 y0 h0 n0) := by
  refine MetFree.of_bodySF (plainFor_of_name pn_13) hisR ?_
  intro p e s m args below meth c s₁ Bd hml0 hP hK
  obtain ⟨rfl, hZ, hh⟩ := hP
  have hx := Bd.exec
  have hby := Bd.bytes
  have hml : c.maxLocals = 3 := hml0
  have hown : s.vm.findClass "java/lang/StringLatin1" = some m.cls := findClass_of_methodNamed Bd.named
  have hnm := (name_of_methodNamed Bd.named Bd.method).1
  have X0 : Stand p l e ({ frames := 0, cells := 0, slots := 0, locals := 0 } : Room) s m #[(.ref ba), (.ref bb)] below meth c s₁ [] 0 0 := Stand.of_body Bd
  have e0 : s₁.heap = h0 := by rw [← hh, Bd.state]; rfl
  have N0 := Fr.nil n0
  show Goes p e below (Fin s (Q_req_11 Z ba bb ka kb x0 y0 h0 n0) ({ frames := 0, cells := 0, slots := 0, locals := 0 } : Room).cells ({ frames := 0, cells := 0, slots := 0, locals := 0 } : Room).slots) _
  refine Goes.via (S' := s₁.setTop (mkF m 0 #[.val (.ref ba), .val (.ref bb), .unset] [])) (fun tz kz => castTop (ef_13 m ba bb ) kz) ?_
  refine Goes.via (S' := s₁.setTop (mkF m 1 #[.val (.ref ba), .val (.ref bb), .unset] [(.ref ba)])) (fun tz kz => ?_) ?_
  · show Steps p.tables e below (s₁.setTop (mkF m 0 #[.val (.ref ba), .val (.ref bb), .unset] [])) _
    refine XS.aloadN X0.here hx rfl (hb hby d13_0) rfl rfl ?_
    exact kz
  obtain ⟨cl1, Ar1, q1, Sz1, Nn1, Hs1, G1⟩ := (id A0)
  refine Goes.via (S' := s₁.setTop (mkF m 3 #[.val (.ref ba), .val (.ref bb), .unset] [(.ref bb), (.int (1 : Int32))])) (fun tz kz => ?_) ?_
  · show Steps p.tables e below (s₁.setTop (mkF m 1 #[.val (.ref ba), .val (.ref bb), .unset] [(.ref ba)])) _
    refine X0.arraylength hx (by rw [e0]; exact Ar1.1) (State.isArrayOf_alike hZ.alike Ar1.2.1) (g := (mkF m 1 #[.val (.ref ba), .val (.ref bb), .unset] [(.ref ba)])) rfl rfl (hb hby d13_1) _ ?_
    rw [len_of Sz1 Nn1]
    refine XS.aloadN X0.here hx rfl (hb hby d13_2) rfl rfl ?_
    exact kz
  obtain ⟨cl2, Ar2, q2, Sz2, Nn2, Hs2, G2⟩ := (id B0)
  refine Goes.via (S' := s₁.setTop (mkF m 11 #[.val (.ref ba), .val (.ref bb), .val (.int (0 : Int32))] [(.ref ba), (.int (0 : Int32))])) (fun tz kz => ?_) ?_
  · show Steps p.tables e below (s₁.setTop (mkF m 3 #[.val (.ref ba), .val (.ref bb), .unset] [(.ref bb), (.int (1 : Int32))])) _
    refine X0.arraylength hx (by rw [e0]; exact Ar2.1) (State.isArrayOf_alike hZ.alike Ar2.2.1) (g := (mkF m 3 #[.val (.ref ba), .val (.ref bb), .unset] [(.ref bb), (.int (1 : Int32))])) rfl rfl (hb hby d13_3) _ ?_
    rw [len_of Sz2 Nn2]
    refine XS.icmpNo X0.here hx rfl (hb hby d13_4) rfl (teq (by decide)).2 ?_
    refine XS.iconst X0.here hx rfl (hb hby d13_7) ?_
    refine XS.istoreN X0.here hx rfl (hb hby d13_8) rfl (l' := #[.val (.ref ba), .val (.ref bb), .val (.int (0 : Int32))]) rfl ?_
    show Steps p.tables e below (s₁.setTop (mkF m 9 #[.val (.ref ba), .val (.ref bb), .val (.int (0 : Int32))] [])) _
    refine XS.iloadN X0.here hx rfl (hb hby d13_9) rfl ?_
    refine XS.aloadN X0.here hx rfl (hb hby d13_10) rfl rfl ?_
    exact kz
  obtain ⟨cl3, Ar3, q3, Sz3, Nn3, Hs3, G3⟩ := (id A0)
  refine Goes.via (S' := s₁.setTop (mkF m 17 #[.val (.ref ba), .val (.ref bb), .val (.int (0 : Int32))] [(.int (0 : Int32)), (.ref ba)])) (fun tz kz => ?_) ?_
  · show Steps p.tables e below (s₁.setTop (mkF m 11 #[.val (.ref ba), .val (.ref bb), .val (.int (0 : Int32))] [(.ref ba), (.int (0 : Int32))])) _
    refine X0.arraylength hx (by rw [e0]; exact Ar3.1) (State.isArrayOf_alike hZ.alike Ar3.2.1) (g := (mkF m 11 #[.val (.ref ba), .val (.ref bb), .val (.int (0 : Int32))] [(.ref ba), (.int (0 : Int32))])) rfl rfl (hb hby d13_11) _ ?_
    rw [len_of Sz3 Nn3]
    refine XS.icmpNo X0.here hx rfl (hb hby d13_12) rfl (tlt (by decide)).2.1 ?_
    refine XS.aloadN X0.here hx rfl (hb hby d13_15) rfl rfl ?_
    refine XS.iloadN X0.here hx rfl (hb hby d13_16) rfl ?_
    exact kz
  obtain ⟨cl4, Ar4, q4, Sz4, Nn4, Hs4, G4⟩ := (id A0)
  refine Goes.via (S' := s₁.setTop (mkF m 20 #[.val (.ref ba), .val (.ref bb), .val (.int (0 : Int32))] [(.int (0 : Int32)), (.ref bb), (.int x0)])) (fun tz kz => ?_) ?_
  · show Steps p.tables e below (s₁.setTop (mkF m 17 #[.val (.ref ba), .val (.ref bb), .val (.int (0 : Int32))] [(.int (0 : Int32)), (.ref ba)])) _
    refine X0.baloadBytes hx (j := (0 : Int32)) (v := (.int x0)) (by rw [e0]; exact Ar4.1) (State.isArrayOf_alike hZ.alike Ar4.2.1) Ar4.2.2 (inb_of Sz4 ⟨by decide, by decide⟩) (Has.at Hs4 (inb_of Sz4 ⟨by decide, by decide⟩) rfl) (g := (mkF m 17 #[.val (.ref ba), .val (.ref bb), .val (.int (0 : Int32))] [(.int (0 : Int32)), (.ref ba)])) rfl rfl (hb hby d13_17) _ ?_
    refine XS.aloadN X0.here hx rfl (hb hby d13_18) rfl rfl ?_
    refine XS.iloadN X0.here hx rfl (hb hby d13_19) rfl ?_
    exact kz
  obtain ⟨cl5, Ar5, q5, Sz5, Nn5, Hs5, G5⟩ := (id B0)
  refine Goes.via (S' := s₁.setTop (mkF m 21 #[.val (.ref ba), .val (.ref bb), .val (.int (0 : Int32))] [(.int y0), (.int x0)])) (fun tz kz => ?_) ?_
  · show Steps p.tables e below (s₁.setTop (mkF m 20 #[.val (.ref ba), .val (.ref bb), .val (.int (0 : Int32))] [(.int (0 : Int32)), (.ref bb), (.int x0)])) _
    refine X0.baloadBytes hx (j := (0 : Int32)) (v := (.int y0)) (by rw [e0]; exact Ar5.1) (State.isArrayOf_alike hZ.alike Ar5.2.1) Ar5.2.2 (inb_of Sz5 ⟨by decide, by decide⟩) (Has.at Hs5 (inb_of Sz5 ⟨by decide, by decide⟩) rfl) (g := (mkF m 20 #[.val (.ref ba), .val (.ref bb), .val (.int (0 : Int32))] [(.int (0 : Int32)), (.ref bb), (.int x0)])) rfl rfl (hb hby d13_20) _ ?_
    exact kz
  by_cases hc21_6 : x0 = y0
  · refine Goes.via (S' := s₁.setTop (mkF m 11 #[.val (.ref ba), .val (.ref bb), .val (.int (1 : Int32))] [(.ref ba), (.int (1 : Int32))])) (fun tz kz => ?_) ?_
    · show Steps p.tables e below (s₁.setTop (mkF m 21 #[.val (.ref ba), .val (.ref bb), .val (.int (0 : Int32))] [(.int y0), (.int x0)])) _
      refine XS.icmpYes X0.here hx rfl (pc0 := 21) (pc' := 26) rfl (hb hby d13_21) rfl (teq hc21_6).1 (by decide) (by decide) ?_
      refine XS.iinc X0.here hx rfl (hb hby d13_26) rfl (l' := #[.val (.ref ba), .val (.ref bb), .val (.int (1 : Int32))]) rfl ?_
      refine XS.goto X0.here hx rfl (pc0 := 29) (pc' := 9) rfl (hb hby d13_29) (by decide) (by decide) ?_
      refine XS.iloadN X0.here hx rfl (hb hby d13_9) rfl ?_
      show Steps p.tables e below (s₁.setTop (mkF m 10 #[.val (.ref ba), .val (.ref bb), .val (.int (1 : Int32))] [(.int (1 : Int32))])) _
      refine XS.aloadN X0.here hx rfl (hb hby d13_10) rfl rfl ?_
      exact kz
    obtain ⟨cl7, Ar7, q7, Sz7, Nn7, Hs7, G7⟩ := (id A0)
    refine Goes.via (S' := s₁.setTop (mkF m 33 #[.val (.ref ba), .val (.ref bb), .val (.int (1 : Int32))] [(.int (1 : Int32))])) (fun tz kz => ?_) ?_
    · show Steps p.tables e below (s₁.setTop (mkF m 11 #[.val (.ref ba), .val (.ref bb), .val (.int (1 : Int32))] [(.ref ba), (.int (1 : Int32))])) _
      refine X0.arraylength hx (by rw [e0]; exact Ar7.1) (State.isArrayOf_alike hZ.alike Ar7.2.1) (g := (mkF m 11 #[.val (.ref ba), .val (.ref bb), .val (.int (1 : Int32))] [(.ref ba), (.int (1 : Int32))])) rfl rfl (hb hby d13_11) _ ?_
      rw [len_of Sz7 Nn7]
      refine XS.icmpYes X0.here hx rfl (pc0 := 12) (pc' := 32) rfl (hb hby d13_12) rfl (flt (by decide)).2.1 (by decide) (by decide) ?_
      refine XS.iconst X0.here hx rfl (hb hby d13_32) ?_
      exact kz
    exact Goes.retN X0 hx Bd.notSynchronized (t := .boolean) Bd.returns (by simp) (hb hby d13_33) (Nat.le_of_ble_eq_true rfl) (Nat.le_of_ble_eq_true rfl) ⟨congrArg (fun z => some (Value.int z)) (by simp [own_eqb, hc21_6]), N0, e0⟩
  · refine Goes.via (S' := s₁.setTop (mkF m 25 #[.val (.ref ba), .val (.ref bb), .val (.int (0 : Int32))] [(.int (0 : Int32))])) (fun tz kz => ?_) ?_
    · show Steps p.tables e below (s₁.setTop (mkF m 21 #[.val (.ref ba), .val (.ref bb), .val (.int (0 : Int32))] [(.int y0), (.int x0)])) _
      refine XS.icmpNo X0.here hx rfl (hb hby d13_21) rfl (feq hc21_6).1 ?_
      refine XS.iconst X0.here hx rfl (hb hby d13_24) ?_
      exact kz
    exact Goes.retN X0 hx Bd.notSynchronized (t := .boolean) Bd.returns (by simp) (hb hby d13_25) (Nat.le_of_ble_eq_true rfl) (Nat.le_of_ble_eq_true rfl) ⟨congrArg (fun z => some (Value.int z)) (by simp [own_eqb, hc21_6]), N0, e0⟩
def Q_rqs_11 (Z : State) (a1 : Addr) (a2 : Addr) (va vb : Addr) (ka kb : ClassId) (cs : Int32) (x0 y0 : Int32) (h0 : Heap) (n0 : Nat) : Option Value → Heap → List Loc → Prop := fun v h L => v = some (.int (nar .boolean (own_eqb [x0] [y0]))) ∧ Fr n0 L ∧ h = h0
set_option maxRecDepth 65536 in
set_option maxHeartbeats 40000000 in
theorem rqs_11 (l : Launch) (Z : State) (a0 : Array Value) (hw : ∀ d ∈ tables_1, d.before a0 Z = true) (ws : List Jvm.Cond) (a1 : Addr) (a2 : Addr) (va vb : Addr) (ka kb : ClassId) (cs : Int32) (x0 y0 : Int32) (h0 : Heap) (n0 : Nat) (Z0 : n0 ≤ h0.size) (SC : Sta Z Z.heap "java/lang/String" "COMPACT_STRINGS" "Z" (.int cs)) (hcs : ¬ cs = (0 : Int32)) (O0 : Old Z n0 h0) (SA : own_Str Z h0 a1 va ka (1 : Int32) [.int x0]) (SB : own_Str Z h0 a2 vb kb (1 : Int32) [.int y0]) (ne : a1 ≠ a2) :
    own_M l Z (⟨"java/lang/String", "equals", "(Ljava/lang/Object;)Z"⟩ : MethodName) (Jvm.Cond.code (⟨"java/lang/String", "equals", "(Ljava/lang/Object;)Z"⟩ : MethodName) jdk_42_method_66_code 3 (some .boolean)) ws ({ frames := 1, cells := 0, slots := 0, locals := 16 } : Room) #[(.ref a1), (.ref a2)] h0 (Q_rqs_11 Z a1 a2 va vb ka kb cs x0 y0 h0 n0) := by
  refine MetFree.of_bodySF (plainFor_of_name pn_12) hisR ?_
  intro p e s m args below meth c s₁ Bd hml0 hP hK
  obtain ⟨rfl, hZ, hh⟩ := hP
  have hx := Bd.exec
  have hby := Bd.bytes
  have hml : c.maxLocals = 3 := hml0
  have hown : s.vm.findClass "java/lang/String" = some m.cls := findClass_of_methodNamed Bd.named
  have hnm := (name_of_methodNamed Bd.named Bd.method).1
  have X0 : Stand p l e ({ frames := 1, cells := 0, slots := 0, locals := 16 } : Room) s m #[(.ref a1), (.ref a2)] below meth c s₁ [] 0 0 := Stand.of_body Bd
  have e0 : s₁.heap = h0 := by rw [← hh, Bd.state]; rfl
  have N0 := Fr.nil n0
  show Goes p e below (Fin s (Q_rqs_11 Z a1 a2 va vb ka kb cs x0 y0 h0 n0) ({ frames := 1, cells := 0, slots := 0, locals := 16 } : Room).cells ({ frames := 1, cells := 0, slots := 0, locals := 16 } : Room).slots) _
  refine Goes.via (S' := s₁.setTop (mkF m 0 #[.val (.ref a1), .val (.ref a2), .unset] [])) (fun tz kz => castTop (ef_12 m a1 a2 ) kz) ?_
  refine Goes.via (S' := s₁.setTop (mkF m 8 #[.val (.ref a1), .val (.ref a2), .unset] [(.ref a2)])) (fun tz kz => ?_) ?_
  · show Steps p.tables e below (s₁.setTop (mkF m 0 #[.val (.ref a1), .val (.ref a2), .unset] [])) _
    refine XS.aloadN X0.here hx rfl (hb hby d12_0) rfl rfl ?_
    refine XS.aloadN X0.here hx rfl (hb hby d12_1) rfl rfl ?_
    refine Jvm.RoadKit.acmp (g := (mkF m 2 #[.val (.ref a1), .val (.ref a2), .unset] [(.ref a2), (.ref a1)])) X0 hx rfl rfl rfl (pc0 := 2) (pc' := 7) (same := false) rfl (hb hby d12_2) rfl (decide_eq_false fun q => ne (Value.ref.inj q)) (by decide) (by decide) ?_
    refine XS.aloadN X0.here hx rfl (hb hby d12_7) rfl rfl ?_
    exact kz
  obtain ⟨T1, X1, e1, st1⟩ := instY X0 hx hZ hown (w_ hw 83 rfl) e0 (Ins.self SB.1) (g := (mkF m 8 #[.val (.ref a1), .val (.ref a2), .unset] [(.ref a2)])) rfl rfl (hb hby d12_8)
  refine Goes.via (S' := T1.setTop (mkF m 11 #[.val (.ref a1), .val (.ref a2), .unset] [(.int (1 : Int32))])) st1 ?_
  refine Goes.via (S' := T1.setTop (mkF m 15 #[.val (.ref a1), .val (.ref a2), .unset] [(.ref a2)])) (fun tz kz => ?_) ?_
  · show Steps p.tables e below (T1.setTop (mkF m 11 #[.val (.ref a1), .val (.ref a2), .unset] [(.int (1 : Int32))])) _
    refine XS.ifNo X1.here hx rfl (hb hby d12_11) rfl ((if0 _ _).trans (feq (by decide)).1) ?_
    refine XS.aloadN X1.here hx rfl (hb hby d12_14) rfl rfl ?_
    exact kz
  obtain ⟨T2, X2, e2, st2⟩ := castY X1 hx hZ hown (w_ hw 83 rfl) e1 (Ins.self SB.1) (g := (mkF m 15 #[.val (.ref a1), .val (.ref a2), .unset] [(.ref a2)])) rfl rfl (hb hby d12_15)
  refine Goes.via (S' := T2.setTop (mkF m 18 #[.val (.ref a1), .val (.ref a2), .unset] [(.ref a2)])) st2 ?_
  refine Goes.via (S' := T2.setTop (mkF m 19 #[.val (.ref a1), .val (.ref a2), .val (.ref a2)] [])) (fun tz kz => ?_) ?_
  · show Steps p.tables e below (T2.setTop (mkF m 18 #[.val (.ref a1), .val (.ref a2), .unset] [(.ref a2)])) _
    refine XS.astoreN X2.here hx rfl (hb hby d12_18) rfl rfl (l' := #[.val (.ref a1), .val (.ref a2), .val (.ref a2)]) rfl ?_
    exact kz
  obtain ⟨T3, X3, e3, st3⟩ := getS2 X2 hx hZ hown (host := "") (Or.inl (w_ hw 19 rfl)) Via.refl e2 (SC.ext O0.2) (g := (mkF m 19 #[.val (.ref a1), .val (.ref a2), .val (.ref a2)] [])) rfl (hb hby d12_19)
  refine Goes.via (S' := T3.setTop (mkF m 22 #[.val (.ref a1), .val (.ref a2), .val (.ref a2)] [(.int cs)])) st3 ?_
  refine Goes.via (S' := T3.setTop (mkF m 26 #[.val (.ref a1), .val (.ref a2), .val (.ref a2)] [(.ref a1)])) (fun tz kz => ?_) ?_
  · show Steps p.tables e below (T3.setTop (mkF m 22 #[.val (.ref a1), .val (.ref a2), .val (.ref a2)] [(.int cs)])) _
    refine XS.ifNo X3.here hx rfl (hb hby d12_22) rfl ((if0 _ _).trans (feq hcs).1) ?_
    refine XS.aloadN X3.here hx rfl (hb hby d12_25) rfl rfl ?_
    exact kz
  obtain ⟨T4, X4, e4, st4⟩ := getF X3 hx hZ hown (host := "") (Or.inl (w_ hw 31 rfl)) Via.refl e3 SA.2.1 (g := (mkF m 26 #[.val (.ref a1), .val (.ref a2), .val (.ref a2)] [(.ref a1)])) rfl rfl (hb hby d12_26)
  refine Goes.via (S' := T4.setTop (mkF m 29 #[.val (.ref a1), .val (.ref a2), .val (.ref a2)] [(.int (0 : Int32))])) st4 ?_
  refine Goes.via (S' := T4.setTop (mkF m 30 #[.val (.ref a1), .val (.ref a2), .val (.ref a2)] [(.ref a2), (.int (0 : Int32))])) (fun tz kz => ?_) ?_
  · show Steps p.tables e below (T4.setTop (mkF m 29 #[.val (.ref a1), .val (.ref a2), .val (.ref a2)] [(.int (0 : Int32))])) _
    refine XS.aloadN X4.here hx rfl (hb hby d12_29) rfl rfl ?_
    exact kz
  obtain ⟨T5, X5, e5, st5⟩ := getF X4 hx hZ hown (host := "") (Or.inl (w_ hw 31 rfl)) Via.refl e4 SB.2.1 (g := (mkF m 30 #[.val (.ref a1), .val (.ref a2), .val (.ref a2)] [(.ref a2), (.int (0 : Int32))])) rfl rfl (hb hby d12_30)
  refine Goes.via (S' := T5.setTop (mkF m 33 #[.val (.ref a1), .val (.ref a2), .val (.ref a2)] [(.int (0 : Int32)), (.int (0 : Int32))])) st5 ?_
  refine Goes.via (S' := T5.setTop (mkF m 37 #[.val (.ref a1), .val (.ref a2), .val (.ref a2)] [(.ref a1)])) (fun tz kz => ?_) ?_
  · show Steps p.tables e below (T5.setTop (mkF m 33 #[.val (.ref a1), .val (.ref a2), .val (.ref a2)] [(.int (0 : Int32)), (.int (0 : Int32))])) _
    refine XS.icmpNo X5.here hx rfl (hb hby d12_33) rfl (teq (by decide)).2 ?_
    refine XS.aloadN X5.here hx rfl (hb hby d12_36) rfl rfl ?_
    exact kz
  obtain ⟨T6, X6, e6, st6⟩ := getF X5 hx hZ hown (host := "") (Or.inl (w_ hw 33 rfl)) Via.refl e5 SA.2.2.1 (g := (mkF m 37 #[.val (.ref a1), .val (.ref a2), .val (.ref a2)] [(.ref a1)])) rfl rfl (hb hby d12_37)
  refine Goes.via (S' := T6.setTop (mkF m 40 #[.val (.ref a1), .val (.ref a2), .val (.ref a2)] [(.ref va)])) st6 ?_
  refine Goes.via (S' := T6.setTop (mkF m 41 #[.val (.ref a1), .val (.ref a2), .val (.ref a2)] [(.ref a2), (.ref va)])) (fun tz kz => ?_) ?_
  · show Steps p.tables e below (T6.setTop (mkF m 40 #[.val (.ref a1), .val (.ref a2), .val (.ref a2)] [(.ref va)])) _
    refine XS.aloadN X6.here hx rfl (hb hby d12_40) rfl rfl ?_
    exact kz
  obtain ⟨T7, X7, e7, st7⟩ := getF X6 hx hZ hown (host := "") (Or.inl (w_ hw 33 rfl)) Via.refl e6 SB.2.2.1 (g := (mkF m 41 #[.val (.ref a1), .val (.ref a2), .val (.ref a2)] [(.ref a2), (.ref va)])) rfl rfl (hb hby d12_41)
  refine Goes.via (S' := T7.setTop (mkF m 44 #[.val (.ref a1), .val (.ref a2), .val (.ref a2)] [(.ref vb), (.ref va)])) st7 ?_
  obtain ⟨_, _, ⟨T8, L8, k8, n8⟩, -, X8, ⟨Lc8, hQ8, l8, y8, z8⟩, st8⟩ := Jvm.LawKit.callS X7 hx (y := (⟨"java/lang/StringLatin1", "equals", "([B[B)Z"⟩ : MethodName)) hown (mvT hZ (w_ hw 84 rfl)) (mvT hZ (w_ hw 85 rfl)) (mvT hZ (w_ hw 86 rfl)) (mvT hZ (w_ hw 87 rfl)) (by decide) (backOf (W := 0) (req_11 l Z a0 hw [] va vb ka kb x0 y0 h0 n0 Z0 SA.2.2.2 SB.2.2.2) hZ (w_ hw 87 rfl) (w_ hw 86 rfl) (by decide) (by decide)) (g := (mkF m 44 #[.val (.ref a1), .val (.ref a2), .val (.ref a2)] [(.ref vb), (.ref va)])) rfl (by rw [hml]; rfl) (argsL := [(.ref va), (.ref vb)]) (rest := []) (lenOf pd_6 rfl) rfl (by show 2 * 0 + _ ≤ _; exact Nat.le_of_eq rfl) (hb hby d12_44) (fun _ _ => ⟨rfl, e7, (by decide : 0 + 0 ≤ _), (by decide : 0 + 0 ≤ _)⟩)
  dsimp only [Pt.U, Pt.locs, Pt.cells, Pt.slots] at X8 l8 y8 z8 st8 hQ8
  subst l8 y8 z8
  obtain ⟨rfl, N8, e8⟩ := hQ8
  have Nf8 := Fr.app N0 N8
  refine Goes.via (S' := T8.setTop (mkF m 47 #[.val (.ref a1), .val (.ref a2), .val (.ref a2)] [(.int (nar .boolean (own_eqb [x0] [y0])))])) (st8) ?_
  by_cases hc47_9 : (nar .boolean (own_eqb [x0] [y0])) = (0 : Int32)
  · refine Goes.via (S' := T8.setTop (mkF m 55 #[.val (.ref a1), .val (.ref a2), .val (.ref a2)] [(.int (0 : Int32))])) (fun tz kz => ?_) ?_
    · show Steps p.tables e below (T8.setTop (mkF m 47 #[.val (.ref a1), .val (.ref a2), .val (.ref a2)] [(.int (nar .boolean (own_eqb [x0] [y0])))])) _
      refine XS.ifYes X8.here hx rfl (pc0 := 47) (pc' := 54) rfl (hb hby d12_47) rfl ((if0 _ _).trans (teq hc47_9).1) (by decide) (by decide) ?_
      refine XS.iconst X8.here hx rfl (hb hby d12_54) ?_
      exact kz
    exact Goes.retN X8 hx Bd.notSynchronized (t := .boolean) Bd.returns (by simp) (hb hby d12_55) (Nat.le_of_ble_eq_true rfl) (Nat.le_of_ble_eq_true rfl) ⟨congrArg (fun z => some (Value.int z)) (own_eq0 hc47_9), Nf8, e8⟩
  · refine Goes.via (S' := T8.setTop (mkF m 55 #[.val (.ref a1), .val (.ref a2), .val (.ref a2)] [(.int (1 : Int32))])) (fun tz kz => ?_) ?_
    · show Steps p.tables e below (T8.setTop (mkF m 47 #[.val (.ref a1), .val (.ref a2), .val (.ref a2)] [(.int (nar .boolean (own_eqb [x0] [y0])))])) _
      refine XS.ifNo X8.here hx rfl (hb hby d12_47) rfl ((if0 _ _).trans (feq hc47_9).1) ?_
      refine XS.iconst X8.here hx rfl (hb hby d12_50) ?_
      refine XS.goto X8.here hx rfl (pc0 := 51) (pc' := 55) rfl (hb hby d12_51) (by decide) (by decide) ?_
      exact kz
    exact Goes.retN X8 hx Bd.notSynchronized (t := .boolean) Bd.returns (by simp) (hb hby d12_55) (Nat.le_of_ble_eq_true rfl) (Nat.le_of_ble_eq_true rfl) ⟨congrArg (fun z => some (Value.int z)) (own_eq1 hc47_9), Nf8, e8⟩
def Q_req_12 (Z : State) (ba : Addr) (bb : Addr) (ka kb : ClassId) (x0 y0 y1 : Int32) (h0 : Heap) (n0 : Nat) : Option Value → Heap → List Loc → Prop := fun v h L => v = some (.int (nar .boolean (own_eqb [x0] [y0, y1]))) ∧ Fr n0 L ∧ h = h0
set_option maxRecDepth 65536 in
set_option maxHeartbeats 40000000 in
theorem req_12 (l : Launch) (Z : State) (a0 : Array Value) (hw : ∀ d ∈ tables_1, d.before a0 Z = true) (ws : List Jvm.Cond) (ba : Addr) (bb : Addr) (ka kb : ClassId) (x0 y0 y1 : Int32) (h0 : Heap) (n0 : Nat) (Z0 : n0 ≤ h0.size) (A0 : Arv Z h0 ba ka .byte (1 : Int32) [.int x0] (.int 0)) (B0 : Arv Z h0 bb kb .byte (2 : Int32) [.int y0, .int y1] (.int 0)) :
    own_M l Z (⟨"java/lang/StringLatin1", "equals", "([B[B)Z"⟩ : MethodName) (Jvm.Cond.code (⟨"java/lang/StringLatin1", "equals", "([B[B)Z"⟩ : MethodName) jdk_43_method_13_code 3 (some .boolean)) ws ({ frames := 0, cells := 0, slots := 0, locals := 0 } : Room) #[(.ref ba), (.ref bb)] h0 (Q_req_12 Z ba bb ka kb x0 y0 y1 h0 n0) := by
  refine MetFree.of_bodySF (plainFor_of_name pn_13) hisR ?_
  intro p e s m args below meth c s₁ Bd hml0 hP hK
  obtain ⟨rfl, hZ, hh⟩ := hP
  have hx := Bd.exec
  have hby := Bd.bytes
  have hml : c.maxLocals = 3 := hml0
  have hown : s.vm.findClass "java/lang/StringLatin1" = some m.cls := findClass_of_methodNamed Bd.named
  have hnm := (name_of_methodNamed Bd.named Bd.method).1
  have X0 : Stand p l e ({ frames := 0, cells := 0, slots := 0, locals := 0 } : Room) s m #[(.ref ba), (.ref bb)] below meth c s₁ [] 0 0 := Stand.of_body Bd
  have e0 : s₁.heap = h0 := by rw [← hh, Bd.state]; rfl
  have N0 := Fr.nil n0
  show Goes p e below (Fin s (Q_req_12 Z ba bb ka kb x0 y0 y1 h0 n0) ({ frames := 0, cells := 0, slots := 0, locals := 0 } : Room).cells ({ frames := 0, cells := 0, slots := 0, locals := 0 } : Room).slots) _
  refine Goes.via (S' := s₁.setTop (mkF m 0 #[.val (.ref ba), .val (.ref bb), .unset] [])) (fun tz kz => castTop (ef_13 m ba bb ) kz) ?_
  refine Goes.via (S' := s₁.setTop (mkF m 1 #[.val (.ref ba), .val (.ref bb), .unset] [(.ref ba)])) (fun tz kz => ?_) ?_
  · show Steps p.tables e below (s₁.setTop (mkF m 0 #[.val (.ref ba), .val (.ref bb), .unset] [])) _
    refine XS.aloadN X0.here hx rfl (hb hby d13_0) rfl rfl ?_
    exact kz
  obtain ⟨cl1, Ar1, q1, Sz1, Nn1, Hs1, G1⟩ := (id A0)
  refine Goes.via (S' := s₁.setTop (mkF m 3 #[.val (.ref ba), .val (.ref bb), .unset] [(.ref bb), (.int (1 : Int32))])) (fun tz kz => ?_) ?_
  · show Steps p.tables e below (s₁.setTop (mkF m 1 #[.val (.ref ba), .val (.ref bb), .unset] [(.ref ba)])) _
    refine X0.arraylength hx (by rw [e0]; exact Ar1.1) (State.isArrayOf_alike hZ.alike Ar1.2.1) (g := (mkF m 1 #[.val (.ref ba), .val (.ref bb), .unset] [(.ref ba)])) rfl rfl (hb hby d13_1) _ ?_
    rw [len_of Sz1 Nn1]
    refine XS.aloadN X0.here hx rfl (hb hby d13_2) rfl rfl ?_
    exact kz
  obtain ⟨cl2, Ar2, q2, Sz2, Nn2, Hs2, G2⟩ := (id B0)
  refine Goes.via (S' := s₁.setTop (mkF m 35 #[.val (.ref ba), .val (.ref bb), .unset] [(.int (0 : Int32))])) (fun tz kz => ?_) ?_
  · show Steps p.tables e below (s₁.setTop (mkF m 3 #[.val (.ref ba), .val (.ref bb), .unset] [(.ref bb), (.int (1 : Int32))])) _
    refine X0.arraylength hx (by rw [e0]; exact Ar2.1) (State.isArrayOf_alike hZ.alike Ar2.2.1) (g := (mkF m 3 #[.val (.ref ba), .val (.ref bb), .unset] [(.ref bb), (.int (1 : Int32))])) rfl rfl (hb hby d13_3) _ ?_
    rw [len_of Sz2 Nn2]
    refine XS.icmpYes X0.here hx rfl (pc0 := 4) (pc' := 34) rfl (hb hby d13_4) rfl (feq (by decide)).2 (by decide) (by decide) ?_
    refine XS.iconst X0.here hx rfl (hb hby d13_34) ?_
    exact kz
  exact Goes.retN X0 hx Bd.notSynchronized (t := .boolean) Bd.returns (by simp) (hb hby d13_35) (Nat.le_of_ble_eq_true rfl) (Nat.le_of_ble_eq_true rfl) ⟨congrArg (fun z => some (Value.int z)) (by simp [own_eqb]), N0, e0⟩
def Q_rqs_12 (Z : State) (a1 : Addr) (a2 : Addr) (va vb : Addr) (ka kb : ClassId) (cs : Int32) (x0 y0 y1 : Int32) (h0 : Heap) (n0 : Nat) : Option Value → Heap → List Loc → Prop := fun v h L => v = some (.int (nar .boolean (own_eqb [x0] [y0, y1]))) ∧ Fr n0 L ∧ h = h0
set_option maxRecDepth 65536 in
set_option maxHeartbeats 40000000 in
theorem rqs_12 (l : Launch) (Z : State) (a0 : Array Value) (hw : ∀ d ∈ tables_1, d.before a0 Z = true) (ws : List Jvm.Cond) (a1 : Addr) (a2 : Addr) (va vb : Addr) (ka kb : ClassId) (cs : Int32) (x0 y0 y1 : Int32) (h0 : Heap) (n0 : Nat) (Z0 : n0 ≤ h0.size) (SC : Sta Z Z.heap "java/lang/String" "COMPACT_STRINGS" "Z" (.int cs)) (hcs : ¬ cs = (0 : Int32)) (O0 : Old Z n0 h0) (SA : own_Str Z h0 a1 va ka (1 : Int32) [.int x0]) (SB : own_Str Z h0 a2 vb kb (2 : Int32) [.int y0, .int y1]) (ne : a1 ≠ a2) :
    own_M l Z (⟨"java/lang/String", "equals", "(Ljava/lang/Object;)Z"⟩ : MethodName) (Jvm.Cond.code (⟨"java/lang/String", "equals", "(Ljava/lang/Object;)Z"⟩ : MethodName) jdk_42_method_66_code 3 (some .boolean)) ws ({ frames := 1, cells := 0, slots := 0, locals := 16 } : Room) #[(.ref a1), (.ref a2)] h0 (Q_rqs_12 Z a1 a2 va vb ka kb cs x0 y0 y1 h0 n0) := by
  refine MetFree.of_bodySF (plainFor_of_name pn_12) hisR ?_
  intro p e s m args below meth c s₁ Bd hml0 hP hK
  obtain ⟨rfl, hZ, hh⟩ := hP
  have hx := Bd.exec
  have hby := Bd.bytes
  have hml : c.maxLocals = 3 := hml0
  have hown : s.vm.findClass "java/lang/String" = some m.cls := findClass_of_methodNamed Bd.named
  have hnm := (name_of_methodNamed Bd.named Bd.method).1
  have X0 : Stand p l e ({ frames := 1, cells := 0, slots := 0, locals := 16 } : Room) s m #[(.ref a1), (.ref a2)] below meth c s₁ [] 0 0 := Stand.of_body Bd
  have e0 : s₁.heap = h0 := by rw [← hh, Bd.state]; rfl
  have N0 := Fr.nil n0
  show Goes p e below (Fin s (Q_rqs_12 Z a1 a2 va vb ka kb cs x0 y0 y1 h0 n0) ({ frames := 1, cells := 0, slots := 0, locals := 16 } : Room).cells ({ frames := 1, cells := 0, slots := 0, locals := 16 } : Room).slots) _
  refine Goes.via (S' := s₁.setTop (mkF m 0 #[.val (.ref a1), .val (.ref a2), .unset] [])) (fun tz kz => castTop (ef_12 m a1 a2 ) kz) ?_
  refine Goes.via (S' := s₁.setTop (mkF m 8 #[.val (.ref a1), .val (.ref a2), .unset] [(.ref a2)])) (fun tz kz => ?_) ?_
  · show Steps p.tables e below (s₁.setTop (mkF m 0 #[.val (.ref a1), .val (.ref a2), .unset] [])) _
    refine XS.aloadN X0.here hx rfl (hb hby d12_0) rfl rfl ?_
    refine XS.aloadN X0.here hx rfl (hb hby d12_1) rfl rfl ?_
    refine Jvm.RoadKit.acmp (g := (mkF m 2 #[.val (.ref a1), .val (.ref a2), .unset] [(.ref a2), (.ref a1)])) X0 hx rfl rfl rfl (pc0 := 2) (pc' := 7) (same := false) rfl (hb hby d12_2) rfl (decide_eq_false fun q => ne (Value.ref.inj q)) (by decide) (by decide) ?_
    refine XS.aloadN X0.here hx rfl (hb hby d12_7) rfl rfl ?_
    exact kz
  obtain ⟨T1, X1, e1, st1⟩ := instY X0 hx hZ hown (w_ hw 83 rfl) e0 (Ins.self SB.1) (g := (mkF m 8 #[.val (.ref a1), .val (.ref a2), .unset] [(.ref a2)])) rfl rfl (hb hby d12_8)
  refine Goes.via (S' := T1.setTop (mkF m 11 #[.val (.ref a1), .val (.ref a2), .unset] [(.int (1 : Int32))])) st1 ?_
  refine Goes.via (S' := T1.setTop (mkF m 15 #[.val (.ref a1), .val (.ref a2), .unset] [(.ref a2)])) (fun tz kz => ?_) ?_
  · show Steps p.tables e below (T1.setTop (mkF m 11 #[.val (.ref a1), .val (.ref a2), .unset] [(.int (1 : Int32))])) _
    refine XS.ifNo X1.here hx rfl (hb hby d12_11) rfl ((if0 _ _).trans (feq (by decide)).1) ?_
    refine XS.aloadN X1.here hx rfl (hb hby d12_14) rfl rfl ?_
    exact kz
  obtain ⟨T2, X2, e2, st2⟩ := castY X1 hx hZ hown (w_ hw 83 rfl) e1 (Ins.self SB.1) (g := (mkF m 15 #[.val (.ref a1), .val (.ref a2), .unset] [(.ref a2)])) rfl rfl (hb hby d12_15)
  refine Goes.via (S' := T2.setTop (mkF m 18 #[.val (.ref a1), .val (.ref a2), .unset] [(.ref a2)])) st2 ?_
  refine Goes.via (S' := T2.setTop (mkF m 19 #[.val (.ref a1), .val (.ref a2), .val (.ref a2)] [])) (fun tz kz => ?_) ?_
  · show Steps p.tables e below (T2.setTop (mkF m 18 #[.val (.ref a1), .val (.ref a2), .unset] [(.ref a2)])) _
    refine XS.astoreN X2.here hx rfl (hb hby d12_18) rfl rfl (l' := #[.val (.ref a1), .val (.ref a2), .val (.ref a2)]) rfl ?_
    exact kz
  obtain ⟨T3, X3, e3, st3⟩ := getS2 X2 hx hZ hown (host := "") (Or.inl (w_ hw 19 rfl)) Via.refl e2 (SC.ext O0.2) (g := (mkF m 19 #[.val (.ref a1), .val (.ref a2), .val (.ref a2)] [])) rfl (hb hby d12_19)
  refine Goes.via (S' := T3.setTop (mkF m 22 #[.val (.ref a1), .val (.ref a2), .val (.ref a2)] [(.int cs)])) st3 ?_
  refine Goes.via (S' := T3.setTop (mkF m 26 #[.val (.ref a1), .val (.ref a2), .val (.ref a2)] [(.ref a1)])) (fun tz kz => ?_) ?_
  · show Steps p.tables e below (T3.setTop (mkF m 22 #[.val (.ref a1), .val (.ref a2), .val (.ref a2)] [(.int cs)])) _
    refine XS.ifNo X3.here hx rfl (hb hby d12_22) rfl ((if0 _ _).trans (feq hcs).1) ?_
    refine XS.aloadN X3.here hx rfl (hb hby d12_25) rfl rfl ?_
    exact kz
  obtain ⟨T4, X4, e4, st4⟩ := getF X3 hx hZ hown (host := "") (Or.inl (w_ hw 31 rfl)) Via.refl e3 SA.2.1 (g := (mkF m 26 #[.val (.ref a1), .val (.ref a2), .val (.ref a2)] [(.ref a1)])) rfl rfl (hb hby d12_26)
  refine Goes.via (S' := T4.setTop (mkF m 29 #[.val (.ref a1), .val (.ref a2), .val (.ref a2)] [(.int (0 : Int32))])) st4 ?_
  refine Goes.via (S' := T4.setTop (mkF m 30 #[.val (.ref a1), .val (.ref a2), .val (.ref a2)] [(.ref a2), (.int (0 : Int32))])) (fun tz kz => ?_) ?_
  · show Steps p.tables e below (T4.setTop (mkF m 29 #[.val (.ref a1), .val (.ref a2), .val (.ref a2)] [(.int (0 : Int32))])) _
    refine XS.aloadN X4.here hx rfl (hb hby d12_29) rfl rfl ?_
    exact kz
  obtain ⟨T5, X5, e5, st5⟩ := getF X4 hx hZ hown (host := "") (Or.inl (w_ hw 31 rfl)) Via.refl e4 SB.2.1 (g := (mkF m 30 #[.val (.ref a1), .val (.ref a2), .val (.ref a2)] [(.ref a2), (.int (0 : Int32))])) rfl rfl (hb hby d12_30)
  refine Goes.via (S' := T5.setTop (mkF m 33 #[.val (.ref a1), .val (.ref a2), .val (.ref a2)] [(.int (0 : Int32)), (.int (0 : Int32))])) st5 ?_
  refine Goes.via (S' := T5.setTop (mkF m 37 #[.val (.ref a1), .val (.ref a2), .val (.ref a2)] [(.ref a1)])) (fun tz kz => ?_) ?_
  · show Steps p.tables e below (T5.setTop (mkF m 33 #[.val (.ref a1), .val (.ref a2), .val (.ref a2)] [(.int (0 : Int32)), (.int (0 : Int32))])) _
    refine XS.icmpNo X5.here hx rfl (hb hby d12_33) rfl (teq (by decide)).2 ?_
    refine XS.aloadN X5.here hx rfl (hb hby d12_36) rfl rfl ?_
    exact kz
  obtain ⟨T6, X6, e6, st6⟩ := getF X5 hx hZ hown (host := "") (Or.inl (w_ hw 33 rfl)) Via.refl e5 SA.2.2.1 (g := (mkF m 37 #[.val (.ref a1), .val (.ref a2), .val (.ref a2)] [(.ref a1)])) rfl rfl (hb hby d12_37)
  refine Goes.via (S' := T6.setTop (mkF m 40 #[.val (.ref a1), .val (.ref a2), .val (.ref a2)] [(.ref va)])) st6 ?_
  refine Goes.via (S' := T6.setTop (mkF m 41 #[.val (.ref a1), .val (.ref a2), .val (.ref a2)] [(.ref a2), (.ref va)])) (fun tz kz => ?_) ?_
  · show Steps p.tables e below (T6.setTop (mkF m 40 #[.val (.ref a1), .val (.ref a2), .val (.ref a2)] [(.ref va)])) _
    refine XS.aloadN X6.here hx rfl (hb hby d12_40) rfl rfl ?_
    exact kz
  obtain ⟨T7, X7, e7, st7⟩ := getF X6 hx hZ hown (host := "") (Or.inl (w_ hw 33 rfl)) Via.refl e6 SB.2.2.1 (g := (mkF m 41 #[.val (.ref a1), .val (.ref a2), .val (.ref a2)] [(.ref a2), (.ref va)])) rfl rfl (hb hby d12_41)
  refine Goes.via (S' := T7.setTop (mkF m 44 #[.val (.ref a1), .val (.ref a2), .val (.ref a2)] [(.ref vb), (.ref va)])) st7 ?_
  obtain ⟨_, _, ⟨T8, L8, k8, n8⟩, -, X8, ⟨Lc8, hQ8, l8, y8, z8⟩, st8⟩ := Jvm.LawKit.callS X7 hx (y := (⟨"java/lang/StringLatin1", "equals", "([B[B)Z"⟩ : MethodName)) hown (mvT hZ (w_ hw 84 rfl)) (mvT hZ (w_ hw 85 rfl)) (mvT hZ (w_ hw 86 rfl)) (mvT hZ (w_ hw 87 rfl)) (by decide) (backOf (W := 0) (req_12 l Z a0 hw [] va vb ka kb x0 y0 y1 h0 n0 Z0 SA.2.2.2 SB.2.2.2) hZ (w_ hw 87 rfl) (w_ hw 86 rfl) (by decide) (by decide)) (g := (mkF m 44 #[.val (.ref a1), .val (.ref a2), .val (.ref a2)] [(.ref vb), (.ref va)])) rfl (by rw [hml]; rfl) (argsL := [(.ref va), (.ref vb)]) (rest := []) (lenOf pd_6 rfl) rfl (by show 2 * 0 + _ ≤ _; exact Nat.le_of_eq rfl) (hb hby d12_44) (fun _ _ => ⟨rfl, e7, (by decide : 0 + 0 ≤ _), (by decide : 0 + 0 ≤ _)⟩)
  dsimp only [Pt.U, Pt.locs, Pt.cells, Pt.slots] at X8 l8 y8 z8 st8 hQ8
  subst l8 y8 z8
  obtain ⟨rfl, N8, e8⟩ := hQ8
  have Nf8 := Fr.app N0 N8
  refine Goes.via (S' := T8.setTop (mkF m 47 #[.val (.ref a1), .val (.ref a2), .val (.ref a2)] [(.int (nar .boolean (own_eqb [x0] [y0, y1])))])) (st8) ?_
  by_cases hc47_9 : (nar .boolean (own_eqb [x0] [y0, y1])) = (0 : Int32)
  · refine Goes.via (S' := T8.setTop (mkF m 55 #[.val (.ref a1), .val (.ref a2), .val (.ref a2)] [(.int (0 : Int32))])) (fun tz kz => ?_) ?_
    · show Steps p.tables e below (T8.setTop (mkF m 47 #[.val (.ref a1), .val (.ref a2), .val (.ref a2)] [(.int (nar .boolean (own_eqb [x0] [y0, y1])))])) _
      refine XS.ifYes X8.here hx rfl (pc0 := 47) (pc' := 54) rfl (hb hby d12_47) rfl ((if0 _ _).trans (teq hc47_9).1) (by decide) (by decide) ?_
      refine XS.iconst X8.here hx rfl (hb hby d12_54) ?_
      exact kz
    exact Goes.retN X8 hx Bd.notSynchronized (t := .boolean) Bd.returns (by simp) (hb hby d12_55) (Nat.le_of_ble_eq_true rfl) (Nat.le_of_ble_eq_true rfl) ⟨congrArg (fun z => some (Value.int z)) (own_eq0 hc47_9), Nf8, e8⟩
  · refine Goes.via (S' := T8.setTop (mkF m 55 #[.val (.ref a1), .val (.ref a2), .val (.ref a2)] [(.int (1 : Int32))])) (fun tz kz => ?_) ?_
    · show Steps p.tables e below (T8.setTop (mkF m 47 #[.val (.ref a1), .val (.ref a2), .val (.ref a2)] [(.int (nar .boolean (own_eqb [x0] [y0, y1])))])) _
      refine XS.ifNo X8.here hx rfl (hb hby d12_47) rfl ((if0 _ _).trans (feq hc47_9).1) ?_
      refine XS.iconst X8.here hx rfl (hb hby d12_50) ?_
      refine XS.goto X8.here hx rfl (pc0 := 51) (pc' := 55) rfl (hb hby d12_51) (by decide) (by decide) ?_
      exact kz
    exact Goes.retN X8 hx Bd.notSynchronized (t := .boolean) Bd.returns (by simp) (hb hby d12_55) (Nat.le_of_ble_eq_true rfl) (Nat.le_of_ble_eq_true rfl) ⟨congrArg (fun z => some (Value.int z)) (own_eq1 hc47_9), Nf8, e8⟩
def Q_req_13 (Z : State) (ba : Addr) (bb : Addr) (ka kb : ClassId) (x0 y0 y1 y2 : Int32) (h0 : Heap) (n0 : Nat) : Option Value → Heap → List Loc → Prop := fun v h L => v = some (.int (nar .boolean (own_eqb [x0] [y0, y1, y2]))) ∧ Fr n0 L ∧ h = h0
set_option maxRecDepth 65536 in
set_option maxHeartbeats 40000000 in
theorem req_13 (l : Launch) (Z : State) (a0 : Array Value) (hw : ∀ d ∈ tables_1, d.before a0 Z = true) (ws : List Jvm.Cond) (ba : Addr) (bb : Addr) (ka kb : ClassId) (x0 y0 y1 y2 : Int32) (h0 : Heap) (n0 : Nat) (Z0 : n0 ≤ h0.size) (A0 : Arv Z h0 ba ka .byte (1 : Int32) [.int x0] (.int 0)) (B0 : Arv Z h0 bb kb .byte (3 : Int32) [.int y0, .int y1, .int y2] (.int 0)) :
    own_M l Z (⟨"java/lang/StringLatin1", "equals", "([B[B)Z"⟩ : MethodName) (Jvm.Cond.code (⟨"java/lang/StringLatin1", "equals", "([B[B)Z"⟩ : MethodName) jdk_43_method_13_code 3 (some .boolean)) ws ({ frames := 0, cells := 0, slots := 0, locals := 0 } : Room) #[(.ref ba), (.ref bb)] h0 (Q_req_13 Z ba bb ka kb x0 y0 y1 y2 h0 n0) := by
  refine MetFree.of_bodySF (plainFor_of_name pn_13) hisR ?_
  intro p e s m args below meth c s₁ Bd hml0 hP hK
  obtain ⟨rfl, hZ, hh⟩ := hP
  have hx := Bd.exec
  have hby := Bd.bytes
  have hml : c.maxLocals = 3 := hml0
  have hown : s.vm.findClass "java/lang/StringLatin1" = some m.cls := findClass_of_methodNamed Bd.named
  have hnm := (name_of_methodNamed Bd.named Bd.method).1
  have X0 : Stand p l e ({ frames := 0, cells := 0, slots := 0, locals := 0 } : Room) s m #[(.ref ba), (.ref bb)] below meth c s₁ [] 0 0 := Stand.of_body Bd
  have e0 : s₁.heap = h0 := by rw [← hh, Bd.state]; rfl
  have N0 := Fr.nil n0
  show Goes p e below (Fin s (Q_req_13 Z ba bb ka kb x0 y0 y1 y2 h0 n0) ({ frames := 0, cells := 0, slots := 0, locals := 0 } : Room).cells ({ frames := 0, cells := 0, slots := 0, locals := 0 } : Room).slots) _
  refine Goes.via (S' := s₁.setTop (mkF m 0 #[.val (.ref ba), .val (.ref bb), .unset] [])) (fun tz kz => castTop (ef_13 m ba bb ) kz) ?_
  refine Goes.via (S' := s₁.setTop (mkF m 1 #[.val (.ref ba), .val (.ref bb), .unset] [(.ref ba)])) (fun tz kz => ?_) ?_
  · show Steps p.tables e below (s₁.setTop (mkF m 0 #[.val (.ref ba), .val (.ref bb), .unset] [])) _
    refine XS.aloadN X0.here hx rfl (hb hby d13_0) rfl rfl ?_
    exact kz
  obtain ⟨cl1, Ar1, q1, Sz1, Nn1, Hs1, G1⟩ := (id A0)
  refine Goes.via (S' := s₁.setTop (mkF m 3 #[.val (.ref ba), .val (.ref bb), .unset] [(.ref bb), (.int (1 : Int32))])) (fun tz kz => ?_) ?_
  · show Steps p.tables e below (s₁.setTop (mkF m 1 #[.val (.ref ba), .val (.ref bb), .unset] [(.ref ba)])) _
    refine X0.arraylength hx (by rw [e0]; exact Ar1.1) (State.isArrayOf_alike hZ.alike Ar1.2.1) (g := (mkF m 1 #[.val (.ref ba), .val (.ref bb), .unset] [(.ref ba)])) rfl rfl (hb hby d13_1) _ ?_
    rw [len_of Sz1 Nn1]
    refine XS.aloadN X0.here hx rfl (hb hby d13_2) rfl rfl ?_
    exact kz
  obtain ⟨cl2, Ar2, q2, Sz2, Nn2, Hs2, G2⟩ := (id B0)
  refine Goes.via (S' := s₁.setTop (mkF m 35 #[.val (.ref ba), .val (.ref bb), .unset] [(.int (0 : Int32))])) (fun tz kz => ?_) ?_
  · show Steps p.tables e below (s₁.setTop (mkF m 3 #[.val (.ref ba), .val (.ref bb), .unset] [(.ref bb), (.int (1 : Int32))])) _
    refine X0.arraylength hx (by rw [e0]; exact Ar2.1) (State.isArrayOf_alike hZ.alike Ar2.2.1) (g := (mkF m 3 #[.val (.ref ba), .val (.ref bb), .unset] [(.ref bb), (.int (1 : Int32))])) rfl rfl (hb hby d13_3) _ ?_
    rw [len_of Sz2 Nn2]
    refine XS.icmpYes X0.here hx rfl (pc0 := 4) (pc' := 34) rfl (hb hby d13_4) rfl (feq (by decide)).2 (by decide) (by decide) ?_
    refine XS.iconst X0.here hx rfl (hb hby d13_34) ?_
    exact kz
  exact Goes.retN X0 hx Bd.notSynchronized (t := .boolean) Bd.returns (by simp) (hb hby d13_35) (Nat.le_of_ble_eq_true rfl) (Nat.le_of_ble_eq_true rfl) ⟨congrArg (fun z => some (Value.int z)) (by simp [own_eqb]), N0, e0⟩
def Q_rqs_13 (Z : State) (a1 : Addr) (a2 : Addr) (va vb : Addr) (ka kb : ClassId) (cs : Int32) (x0 y0 y1 y2 : Int32) (h0 : Heap) (n0 : Nat) : Option Value → Heap → List Loc → Prop := fun v h L => v = some (.int (nar .boolean (own_eqb [x0] [y0, y1, y2]))) ∧ Fr n0 L ∧ h = h0
set_option maxRecDepth 65536 in
set_option maxHeartbeats 40000000 in
theorem rqs_13 (l : Launch) (Z : State) (a0 : Array Value) (hw : ∀ d ∈ tables_1, d.before a0 Z = true) (ws : List Jvm.Cond) (a1 : Addr) (a2 : Addr) (va vb : Addr) (ka kb : ClassId) (cs : Int32) (x0 y0 y1 y2 : Int32) (h0 : Heap) (n0 : Nat) (Z0 : n0 ≤ h0.size) (SC : Sta Z Z.heap "java/lang/String" "COMPACT_STRINGS" "Z" (.int cs)) (hcs : ¬ cs = (0 : Int32)) (O0 : Old Z n0 h0) (SA : own_Str Z h0 a1 va ka (1 : Int32) [.int x0]) (SB : own_Str Z h0 a2 vb kb (3 : Int32) [.int y0, .int y1, .int y2]) (ne : a1 ≠ a2) :
    own_M l Z (⟨"java/lang/String", "equals", "(Ljava/lang/Object;)Z"⟩ : MethodName) (Jvm.Cond.code (⟨"java/lang/String", "equals", "(Ljava/lang/Object;)Z"⟩ : MethodName) jdk_42_method_66_code 3 (some .boolean)) ws ({ frames := 1, cells := 0, slots := 0, locals := 16 } : Room) #[(.ref a1), (.ref a2)] h0 (Q_rqs_13 Z a1 a2 va vb ka kb cs x0 y0 y1 y2 h0 n0) := by
  refine MetFree.of_bodySF (plainFor_of_name pn_12) hisR ?_
  intro p e s m args below meth c s₁ Bd hml0 hP hK
  obtain ⟨rfl, hZ, hh⟩ := hP
  have hx := Bd.exec
  have hby := Bd.bytes
  have hml : c.maxLocals = 3 := hml0
  have hown : s.vm.findClass "java/lang/String" = some m.cls := findClass_of_methodNamed Bd.named
  have hnm := (name_of_methodNamed Bd.named Bd.method).1
  have X0 : Stand p l e ({ frames := 1, cells := 0, slots := 0, locals := 16 } : Room) s m #[(.ref a1), (.ref a2)] below meth c s₁ [] 0 0 := Stand.of_body Bd
  have e0 : s₁.heap = h0 := by rw [← hh, Bd.state]; rfl
  have N0 := Fr.nil n0
  show Goes p e below (Fin s (Q_rqs_13 Z a1 a2 va vb ka kb cs x0 y0 y1 y2 h0 n0) ({ frames := 1, cells := 0, slots := 0, locals := 16 } : Room).cells ({ frames := 1, cells := 0, slots := 0, locals := 16 } : Room).slots) _
  refine Goes.via (S' := s₁.setTop (mkF m 0 #[.val (.ref a1), .val (.ref a2), .unset] [])) (fun tz kz => castTop (ef_12 m a1 a2 ) kz) ?_
  refine Goes.via (S' := s₁.setTop (mkF m 8 #[.val (.ref a1), .val (.ref a2), .unset] [(.ref a2)])) (fun tz kz => ?_) ?_
  · show Steps p.tables e below (s₁.setTop (mkF m 0 #[.val (.ref a1), .val (.ref a2), .unset] [])) _
    refine XS.aloadN X0.here hx rfl (hb hby d12_0) rfl rfl ?_
    refine XS.aloadN X0.here hx rfl (hb hby d12_1) rfl rfl ?_
    refine Jvm.RoadKit.acmp (g := (mkF m 2 #[.val (.ref a1), .val (.ref a2), .unset] [(.ref a2), (.ref a1)])) X0 hx rfl rfl rfl (pc0 := 2) (pc' := 7) (same := false) rfl (hb hby d12_2) rfl (decide_eq_false fun q => ne (Value.ref.inj q)) (by decide) (by decide) ?_
    refine XS.aloadN X0.here hx rfl (hb hby d12_7) rfl rfl ?_
    exact kz
  obtain ⟨T1, X1, e1, st1⟩ := instY X0 hx hZ hown (w_ hw 83 rfl) e0 (Ins.self SB.1) (g := (mkF m 8 #[.val (.ref a1), .val (.ref a2), .unset] [(.ref a2)])) rfl rfl (hb hby d12_8)
  refine Goes.via (S' := T1.setTop (mkF m 11 #[.val (.ref a1), .val (.ref a2), .unset] [(.int (1 : Int32))])) st1 ?_
  refine Goes.via (S' := T1.setTop (mkF m 15 #[.val (.ref a1), .val (.ref a2), .unset] [(.ref a2)])) (fun tz kz => ?_) ?_
  · show Steps p.tables e below (T1.setTop (mkF m 11 #[.val (.ref a1), .val (.ref a2), .unset] [(.int (1 : Int32))])) _
    refine XS.ifNo X1.here hx rfl (hb hby d12_11) rfl ((if0 _ _).trans (feq (by decide)).1) ?_
    refine XS.aloadN X1.here hx rfl (hb hby d12_14) rfl rfl ?_
    exact kz
  obtain ⟨T2, X2, e2, st2⟩ := castY X1 hx hZ hown (w_ hw 83 rfl) e1 (Ins.self SB.1) (g := (mkF m 15 #[.val (.ref a1), .val (.ref a2), .unset] [(.ref a2)])) rfl rfl (hb hby d12_15)
  refine Goes.via (S' := T2.setTop (mkF m 18 #[.val (.ref a1), .val (.ref a2), .unset] [(.ref a2)])) st2 ?_
  refine Goes.via (S' := T2.setTop (mkF m 19 #[.val (.ref a1), .val (.ref a2), .val (.ref a2)] [])) (fun tz kz => ?_) ?_
  · show Steps p.tables e below (T2.setTop (mkF m 18 #[.val (.ref a1), .val (.ref a2), .unset] [(.ref a2)])) _
    refine XS.astoreN X2.here hx rfl (hb hby d12_18) rfl rfl (l' := #[.val (.ref a1), .val (.ref a2), .val (.ref a2)]) rfl ?_
    exact kz
  obtain ⟨T3, X3, e3, st3⟩ := getS2 X2 hx hZ hown (host := "") (Or.inl (w_ hw 19 rfl)) Via.refl e2 (SC.ext O0.2) (g := (mkF m 19 #[.val (.ref a1), .val (.ref a2), .val (.ref a2)] [])) rfl (hb hby d12_19)
  refine Goes.via (S' := T3.setTop (mkF m 22 #[.val (.ref a1), .val (.ref a2), .val (.ref a2)] [(.int cs)])) st3 ?_
  refine Goes.via (S' := T3.setTop (mkF m 26 #[.val (.ref a1), .val (.ref a2), .val (.ref a2)] [(.ref a1)])) (fun tz kz => ?_) ?_
  · show Steps p.tables e below (T3.setTop (mkF m 22 #[.val (.ref a1), .val (.ref a2), .val (.ref a2)] [(.int cs)])) _
    refine XS.ifNo X3.here hx rfl (hb hby d12_22) rfl ((if0 _ _).trans (feq hcs).1) ?_
    refine XS.aloadN X3.here hx rfl (hb hby d12_25) rfl rfl ?_
    exact kz
  obtain ⟨T4, X4, e4, st4⟩ := getF X3 hx hZ hown (host := "") (Or.inl (w_ hw 31 rfl)) Via.refl e3 SA.2.1 (g := (mkF m 26 #[.val (.ref a1), .val (.ref a2), .val (.ref a2)] [(.ref a1)])) rfl rfl (hb hby d12_26)
  refine Goes.via (S' := T4.setTop (mkF m 29 #[.val (.ref a1), .val (.ref a2), .val (.ref a2)] [(.int (0 : Int32))])) st4 ?_
  refine Goes.via (S' := T4.setTop (mkF m 30 #[.val (.ref a1), .val (.ref a2), .val (.ref a2)] [(.ref a2), (.int (0 : Int32))])) (fun tz kz => ?_) ?_
  · show Steps p.tables e below (T4.setTop (mkF m 29 #[.val (.ref a1), .val (.ref a2), .val (.ref a2)] [(.int (0 : Int32))])) _
    refine XS.aloadN X4.here hx rfl (hb hby d12_29) rfl rfl ?_
    exact kz
  obtain ⟨T5, X5, e5, st5⟩ := getF X4 hx hZ hown (host := "") (Or.inl (w_ hw 31 rfl)) Via.refl e4 SB.2.1 (g := (mkF m 30 #[.val (.ref a1), .val (.ref a2), .val (.ref a2)] [(.ref a2), (.int (0 : Int32))])) rfl rfl (hb hby d12_30)
  refine Goes.via (S' := T5.setTop (mkF m 33 #[.val (.ref a1), .val (.ref a2), .val (.ref a2)] [(.int (0 : Int32)), (.int (0 : Int32))])) st5 ?_
  refine Goes.via (S' := T5.setTop (mkF m 37 #[.val (.ref a1), .val (.ref a2), .val (.ref a2)] [(.ref a1)])) (fun tz kz => ?_) ?_
  · show Steps p.tables e below (T5.setTop (mkF m 33 #[.val (.ref a1), .val (.ref a2), .val (.ref a2)] [(.int (0 : Int32)), (.int (0 : Int32))])) _
    refine XS.icmpNo X5.here hx rfl (hb hby d12_33) rfl (teq (by decide)).2 ?_
    refine XS.aloadN X5.here hx rfl (hb hby d12_36) rfl rfl ?_
    exact kz
  obtain ⟨T6, X6, e6, st6⟩ := getF X5 hx hZ hown (host := "") (Or.inl (w_ hw 33 rfl)) Via.refl e5 SA.2.2.1 (g := (mkF m 37 #[.val (.ref a1), .val (.ref a2), .val (.ref a2)] [(.ref a1)])) rfl rfl (hb hby d12_37)
  refine Goes.via (S' := T6.setTop (mkF m 40 #[.val (.ref a1), .val (.ref a2), .val (.ref a2)] [(.ref va)])) st6 ?_
  refine Goes.via (S' := T6.setTop (mkF m 41 #[.val (.ref a1), .val (.ref a2), .val (.ref a2)] [(.ref a2), (.ref va)])) (fun tz kz => ?_) ?_
  · show Steps p.tables e below (T6.setTop (mkF m 40 #[.val (.ref a1), .val (.ref a2), .val (.ref a2)] [(.ref va)])) _
    refine XS.aloadN X6.here hx rfl (hb hby d12_40) rfl rfl ?_
    exact kz
  obtain ⟨T7, X7, e7, st7⟩ := getF X6 hx hZ hown (host := "") (Or.inl (w_ hw 33 rfl)) Via.refl e6 SB.2.2.1 (g := (mkF m 41 #[.val (.ref a1), .val (.ref a2), .val (.ref a2)] [(.ref a2), (.ref va)])) rfl rfl (hb hby d12_41)
  refine Goes.via (S' := T7.setTop (mkF m 44 #[.val (.ref a1), .val (.ref a2), .val (.ref a2)] [(.ref vb), (.ref va)])) st7 ?_
  obtain ⟨_, _, ⟨T8, L8, k8, n8⟩, -, X8, ⟨Lc8, hQ8, l8, y8, z8⟩, st8⟩ := Jvm.LawKit.callS X7 hx (y := (⟨"java/lang/StringLatin1", "equals", "([B[B)Z"⟩ : MethodName)) hown (mvT hZ (w_ hw 84 rfl)) (mvT hZ (w_ hw 85 rfl)) (mvT hZ (w_ hw 86 rfl)) (mvT hZ (w_ hw 87 rfl)) (by decide) (backOf (W := 0) (req_13 l Z a0 hw [] va vb ka kb x0 y0 y1 y2 h0 n0 Z0 SA.2.2.2 SB.2.2.2) hZ (w_ hw 87 rfl) (w_ hw 86 rfl) (by decide) (by decide)) (g := (mkF m 44 #[.val (.ref a1), .val (.ref a2), .val (.ref a2)] [(.ref vb), (.ref va)])) rfl (by rw [hml]; rfl) (argsL := [(.ref va), (.ref vb)]) (rest := []) (lenOf pd_6 rfl) rfl (by show 2 * 0 + _ ≤ _; exact Nat.le_of_eq rfl) (hb hby d12_44) (fun _ _ => ⟨rfl, e7, (by decide : 0 + 0 ≤ _), (by decide : 0 + 0 ≤ _)⟩)
  dsimp only [Pt.U, Pt.locs, Pt.cells, Pt.slots] at X8 l8 y8 z8 st8 hQ8
  subst l8 y8 z8
  obtain ⟨rfl, N8, e8⟩ := hQ8
  have Nf8 := Fr.app N0 N8
  refine Goes.via (S' := T8.setTop (mkF m 47 #[.val (.ref a1), .val (.ref a2), .val (.ref a2)] [(.int (nar .boolean (own_eqb [x0] [y0, y1, y2])))])) (st8) ?_
  by_cases hc47_9 : (nar .boolean (own_eqb [x0] [y0, y1, y2])) = (0 : Int32)
  · refine Goes.via (S' := T8.setTop (mkF m 55 #[.val (.ref a1), .val (.ref a2), .val (.ref a2)] [(.int (0 : Int32))])) (fun tz kz => ?_) ?_
    · show Steps p.tables e below (T8.setTop (mkF m 47 #[.val (.ref a1), .val (.ref a2), .val (.ref a2)] [(.int (nar .boolean (own_eqb [x0] [y0, y1, y2])))])) _
      refine XS.ifYes X8.here hx rfl (pc0 := 47) (pc' := 54) rfl (hb hby d12_47) rfl ((if0 _ _).trans (teq hc47_9).1) (by decide) (by decide) ?_
      refine XS.iconst X8.here hx rfl (hb hby d12_54) ?_
      exact kz
    exact Goes.retN X8 hx Bd.notSynchronized (t := .boolean) Bd.returns (by simp) (hb hby d12_55) (Nat.le_of_ble_eq_true rfl) (Nat.le_of_ble_eq_true rfl) ⟨congrArg (fun z => some (Value.int z)) (own_eq0 hc47_9), Nf8, e8⟩
  · refine Goes.via (S' := T8.setTop (mkF m 55 #[.val (.ref a1), .val (.ref a2), .val (.ref a2)] [(.int (1 : Int32))])) (fun tz kz => ?_) ?_
    · show Steps p.tables e below (T8.setTop (mkF m 47 #[.val (.ref a1), .val (.ref a2), .val (.ref a2)] [(.int (nar .boolean (own_eqb [x0] [y0, y1, y2])))])) _
      refine XS.ifNo X8.here hx rfl (hb hby d12_47) rfl ((if0 _ _).trans (feq hc47_9).1) ?_
      refine XS.iconst X8.here hx rfl (hb hby d12_50) ?_
      refine XS.goto X8.here hx rfl (pc0 := 51) (pc' := 55) rfl (hb hby d12_51) (by decide) (by decide) ?_
      exact kz
    exact Goes.retN X8 hx Bd.notSynchronized (t := .boolean) Bd.returns (by simp) (hb hby d12_55) (Nat.le_of_ble_eq_true rfl) (Nat.le_of_ble_eq_true rfl) ⟨congrArg (fun z => some (Value.int z)) (own_eq1 hc47_9), Nf8, e8⟩
def Q_req_20 (Z : State) (ba : Addr) (bb : Addr) (ka kb : ClassId) (x0 x1 : Int32) (h0 : Heap) (n0 : Nat) : Option Value → Heap → List Loc → Prop := fun v h L => v = some (.int (nar .boolean (own_eqb [x0, x1] []))) ∧ Fr n0 L ∧ h = h0
set_option maxRecDepth 65536 in
set_option maxHeartbeats 40000000 in
theorem req_20 (l : Launch) (Z : State) (a0 : Array Value) (hw : ∀ d ∈ tables_1, d.before a0 Z = true) (ws : List Jvm.Cond) (ba : Addr) (bb : Addr) (ka kb : ClassId) (x0 x1 : Int32) (h0 : Heap) (n0 : Nat) (Z0 : n0 ≤ h0.size) (A0 : Arv Z h0 ba ka .byte (2 : Int32) [.int x0, .int x1] (.int 0)) (B0 : Arv Z h0 bb kb .byte (0 : Int32) [] (.int 0)) :
    own_M l Z (⟨"java/lang/StringLatin1", "equals", "([B[B)Z"⟩ : MethodName) (Jvm.Cond.code (⟨"java/lang/StringLatin1", "equals", "([B[B)Z"⟩ : MethodName) jdk_43_method_13_code 3 (some .boolean)) ws ({ frames := 0, cells := 0, slots := 0, locals := 0 } : Room) #[(.ref ba), (.ref bb)] h0 (Q_req_20 Z ba bb ka kb x0 x1 h0 n0) := by
  refine MetFree.of_bodySF (plainFor_of_name pn_13) hisR ?_
  intro p e s m args below meth c s₁ Bd hml0 hP hK
  obtain ⟨rfl, hZ, hh⟩ := hP
  have hx := Bd.exec
  have hby := Bd.bytes
  have hml : c.maxLocals = 3 := hml0
  have hown : s.vm.findClass "java/lang/StringLatin1" = some m.cls := findClass_of_methodNamed Bd.named
  have hnm := (name_of_methodNamed Bd.named Bd.method).1
  have X0 : Stand p l e ({ frames := 0, cells := 0, slots := 0, locals := 0 } : Room) s m #[(.ref ba), (.ref bb)] below meth c s₁ [] 0 0 := Stand.of_body Bd
  have e0 : s₁.heap = h0 := by rw [← hh, Bd.state]; rfl
  have N0 := Fr.nil n0
  show Goes p e below (Fin s (Q_req_20 Z ba bb ka kb x0 x1 h0 n0) ({ frames := 0, cells := 0, slots := 0, locals := 0 } : Room).cells ({ frames := 0, cells := 0, slots := 0, locals := 0 } : Room).slots) _
  refine Goes.via (S' := s₁.setTop (mkF m 0 #[.val (.ref ba), .val (.ref bb), .unset] [])) (fun tz kz => castTop (ef_13 m ba bb ) kz) ?_
  refine Goes.via (S' := s₁.setTop (mkF m 1 #[.val (.ref ba), .val (.ref bb), .unset] [(.ref ba)])) (fun tz kz => ?_) ?_
  · show Steps p.tables e below (s₁.setTop (mkF m 0 #[.val (.ref ba), .val (.ref bb), .unset] [])) _
    refine XS.aloadN X0.here hx rfl (hb hby d13_0) rfl rfl ?_
    exact kz
  obtain ⟨cl1, Ar1, q1, Sz1, Nn1, Hs1, G1⟩ := (id A0)
  refine Goes.via (S' := s₁.setTop (mkF m 3 #[.val (.ref ba), .val (.ref bb), .unset] [(.ref bb), (.int (2 : Int32))])) (fun tz kz => ?_) ?_
  · show Steps p.tables e below (s₁.setTop (mkF m 1 #[.val (.ref ba), .val (.ref bb), .unset] [(.ref ba)])) _
    refine X0.arraylength hx (by rw [e0]; exact Ar1.1) (State.isArrayOf_alike hZ.alike Ar1.2.1) (g := (mkF m 1 #[.val (.ref ba), .val (.ref bb), .unset] [(.ref ba)])) rfl rfl (hb hby d13_1) _ ?_
    rw [len_of Sz1 Nn1]
    refine XS.aloadN X0.here hx rfl (hb hby d13_2) rfl rfl ?_
    exact kz
  obtain ⟨cl2, Ar2, q2, Sz2, Nn2, Hs2, G2⟩ := (id B0)
  refine Goes.via (S' := s₁.setTop (mkF m 35 #[.val (.ref ba), .val (.ref bb), .unset] [(.int (0 : Int32))])) (fun tz kz => ?_) ?_
  · show Steps p.tables e below (s₁.setTop (mkF m 3 #[.val (.ref ba), .val (.ref bb), .unset] [(.ref bb), (.int (2 : Int32))])) _
    refine X0.arraylength hx (by rw [e0]; exact Ar2.1) (State.isArrayOf_alike hZ.alike Ar2.2.1) (g := (mkF m 3 #[.val (.ref ba), .val (.ref bb), .unset] [(.ref bb), (.int (2 : Int32))])) rfl rfl (hb hby d13_3) _ ?_
    rw [len_of Sz2 Nn2]
    refine XS.icmpYes X0.here hx rfl (pc0 := 4) (pc' := 34) rfl (hb hby d13_4) rfl (feq (by decide)).2 (by decide) (by decide) ?_
    refine XS.iconst X0.here hx rfl (hb hby d13_34) ?_
    exact kz
  exact Goes.retN X0 hx Bd.notSynchronized (t := .boolean) Bd.returns (by simp) (hb hby d13_35) (Nat.le_of_ble_eq_true rfl) (Nat.le_of_ble_eq_true rfl) ⟨congrArg (fun z => some (Value.int z)) (by simp [own_eqb]), N0, e0⟩
def Q_rqs_20 (Z : State) (a1 : Addr) (a2 : Addr) (va vb : Addr) (ka kb : ClassId) (cs : Int32) (x0 x1 : Int32) (h0 : Heap) (n0 : Nat) : Option Value → Heap → List Loc → Prop := fun v h L => v = some (.int (nar .boolean (own_eqb [x0, x1] []))) ∧ Fr n0 L ∧ h = h0
set_option maxRecDepth 65536 in
set_option maxHeartbeats 40000000 in
theorem rqs_20 (l : Launch) (Z : State) (a0 : Array Value) (hw : ∀ d ∈ tables_1, d.before a0 Z = true) (ws : List Jvm.Cond) (a1 : Addr) (a2 : Addr) (va vb : Addr) (ka kb : ClassId) (cs : Int32) (x0 x1 : Int32) (h0 : Heap) (n0 : Nat) (Z0 : n0 ≤ h0.size) (SC : Sta Z Z.heap "java/lang/String" "COMPACT_STRINGS" "Z" (.int cs)) (hcs : ¬ cs = (0 : Int32)) (O0 : Old Z n0 h0) (SA : own_Str Z h0 a1 va ka (2 : Int32) [.int x0, .int x1]) (SB : own_Str Z h0 a2 vb kb (0 : Int32) []) (ne : a1 ≠ a2) :
    own_M l Z (⟨"java/lang/String", "equals", "(Ljava/lang/Object;)Z"⟩ : MethodName) (Jvm.Cond.code (⟨"java/lang/String", "equals", "(Ljava/lang/Object;)Z"⟩ : MethodName) jdk_42_method_66_code 3 (some .boolean)) ws ({ frames := 1, cells := 0, slots := 0, locals := 16 } : Room) #[(.ref a1), (.ref a2)] h0 (Q_rqs_20 Z a1 a2 va vb ka kb cs x0 x1 h0 n0) := by
  refine MetFree.of_bodySF (plainFor_of_name pn_12) hisR ?_
  intro p e s m args below meth c s₁ Bd hml0 hP hK
  obtain ⟨rfl, hZ, hh⟩ := hP
  have hx := Bd.exec
  have hby := Bd.bytes
  have hml : c.maxLocals = 3 := hml0
  have hown : s.vm.findClass "java/lang/String" = some m.cls := findClass_of_methodNamed Bd.named
  have hnm := (name_of_methodNamed Bd.named Bd.method).1
  have X0 : Stand p l e ({ frames := 1, cells := 0, slots := 0, locals := 16 } : Room) s m #[(.ref a1), (.ref a2)] below meth c s₁ [] 0 0 := Stand.of_body Bd
  have e0 : s₁.heap = h0 := by rw [← hh, Bd.state]; rfl
  have N0 := Fr.nil n0
  show Goes p e below (Fin s (Q_rqs_20 Z a1 a2 va vb ka kb cs x0 x1 h0 n0) ({ frames := 1, cells := 0, slots := 0, locals := 16 } : Room).cells ({ frames := 1, cells := 0, slots := 0, locals := 16 } : Room).slots) _
  refine Goes.via (S' := s₁.setTop (mkF m 0 #[.val (.ref a1), .val (.ref a2), .unset] [])) (fun tz kz => castTop (ef_12 m a1 a2 ) kz) ?_
  refine Goes.via (S' := s₁.setTop (mkF m 8 #[.val (.ref a1), .val (.ref a2), .unset] [(.ref a2)])) (fun tz kz => ?_) ?_
  · show Steps p.tables e below (s₁.setTop (mkF m 0 #[.val (.ref a1), .val (.ref a2), .unset] [])) _
    refine XS.aloadN X0.here hx rfl (hb hby d12_0) rfl rfl ?_
    refine XS.aloadN X0.here hx rfl (hb hby d12_1) rfl rfl ?_
    refine Jvm.RoadKit.acmp (g := (mkF m 2 #[.val (.ref a1), .val (.ref a2), .unset] [(.ref a2), (.ref a1)])) X0 hx rfl rfl rfl (pc0 := 2) (pc' := 7) (same := false) rfl (hb hby d12_2) rfl (decide_eq_false fun q => ne (Value.ref.inj q)) (by decide) (by decide) ?_
    refine XS.aloadN X0.here hx rfl (hb hby d12_7) rfl rfl ?_
    exact kz
  obtain ⟨T1, X1, e1, st1⟩ := instY X0 hx hZ hown (w_ hw 83 rfl) e0 (Ins.self SB.1) (g := (mkF m 8 #[.val (.ref a1), .val (.ref a2), .unset] [(.ref a2)])) rfl rfl (hb hby d12_8)
  refine Goes.via (S' := T1.setTop (mkF m 11 #[.val (.ref a1), .val (.ref a2), .unset] [(.int (1 : Int32))])) st1 ?_
  refine Goes.via (S' := T1.setTop (mkF m 15 #[.val (.ref a1), .val (.ref a2), .unset] [(.ref a2)])) (fun tz kz => ?_) ?_
  · show Steps p.tables e below (T1.setTop (mkF m 11 #[.val (.ref a1), .val (.ref a2), .unset] [(.int (1 : Int32))])) _
    refine XS.ifNo X1.here hx rfl (hb hby d12_11) rfl ((if0 _ _).trans (feq (by decide)).1) ?_
    refine XS.aloadN X1.here hx rfl (hb hby d12_14) rfl rfl ?_
    exact kz
  obtain ⟨T2, X2, e2, st2⟩ := castY X1 hx hZ hown (w_ hw 83 rfl) e1 (Ins.self SB.1) (g := (mkF m 15 #[.val (.ref a1), .val (.ref a2), .unset] [(.ref a2)])) rfl rfl (hb hby d12_15)
  refine Goes.via (S' := T2.setTop (mkF m 18 #[.val (.ref a1), .val (.ref a2), .unset] [(.ref a2)])) st2 ?_
  refine Goes.via (S' := T2.setTop (mkF m 19 #[.val (.ref a1), .val (.ref a2), .val (.ref a2)] [])) (fun tz kz => ?_) ?_
  · show Steps p.tables e below (T2.setTop (mkF m 18 #[.val (.ref a1), .val (.ref a2), .unset] [(.ref a2)])) _
    refine XS.astoreN X2.here hx rfl (hb hby d12_18) rfl rfl (l' := #[.val (.ref a1), .val (.ref a2), .val (.ref a2)]) rfl ?_
    exact kz
  obtain ⟨T3, X3, e3, st3⟩ := getS2 X2 hx hZ hown (host := "") (Or.inl (w_ hw 19 rfl)) Via.refl e2 (SC.ext O0.2) (g := (mkF m 19 #[.val (.ref a1), .val (.ref a2), .val (.ref a2)] [])) rfl (hb hby d12_19)
  refine Goes.via (S' := T3.setTop (mkF m 22 #[.val (.ref a1), .val (.ref a2), .val (.ref a2)] [(.int cs)])) st3 ?_
  refine Goes.via (S' := T3.setTop (mkF m 26 #[.val (.ref a1), .val (.ref a2), .val (.ref a2)] [(.ref a1)])) (fun tz kz => ?_) ?_
  · show Steps p.tables e below (T3.setTop (mkF m 22 #[.val (.ref a1), .val (.ref a2), .val (.ref a2)] [(.int cs)])) _
    refine XS.ifNo X3.here hx rfl (hb hby d12_22) rfl ((if0 _ _).trans (feq hcs).1) ?_
    refine XS.aloadN X3.here hx rfl (hb hby d12_25) rfl rfl ?_
    exact kz
  obtain ⟨T4, X4, e4, st4⟩ := getF X3 hx hZ hown (host := "") (Or.inl (w_ hw 31 rfl)) Via.refl e3 SA.2.1 (g := (mkF m 26 #[.val (.ref a1), .val (.ref a2), .val (.ref a2)] [(.ref a1)])) rfl rfl (hb hby d12_26)
  refine Goes.via (S' := T4.setTop (mkF m 29 #[.val (.ref a1), .val (.ref a2), .val (.ref a2)] [(.int (0 : Int32))])) st4 ?_
  refine Goes.via (S' := T4.setTop (mkF m 30 #[.val (.ref a1), .val (.ref a2), .val (.ref a2)] [(.ref a2), (.int (0 : Int32))])) (fun tz kz => ?_) ?_
  · show Steps p.tables e below (T4.setTop (mkF m 29 #[.val (.ref a1), .val (.ref a2), .val (.ref a2)] [(.int (0 : Int32))])) _
    refine XS.aloadN X4.here hx rfl (hb hby d12_29) rfl rfl ?_
    exact kz
  obtain ⟨T5, X5, e5, st5⟩ := getF X4 hx hZ hown (host := "") (Or.inl (w_ hw 31 rfl)) Via.refl e4 SB.2.1 (g := (mkF m 30 #[.val (.ref a1), .val (.ref a2), .val (.ref a2)] [(.ref a2), (.int (0 : Int32))])) rfl rfl (hb hby d12_30)
  refine Goes.via (S' := T5.setTop (mkF m 33 #[.val (.ref a1), .val (.ref a2), .val (.ref a2)] [(.int (0 : Int32)), (.int (0 : Int32))])) st5 ?_
  refine Goes.via (S' := T5.setTop (mkF m 37 #[.val (.ref a1), .val (.ref a2), .val (.ref a2)] [(.ref a1)])) (fun tz kz => ?_) ?_
  · show Steps p.tables e below (T5.setTop (mkF m 33 #[.val (.ref a1), .val (.ref a2), .val (.ref a2)] [(.int (0 : Int32)), (.int (0 : Int32))])) _
    refine XS.icmpNo X5.here hx rfl (hb hby d12_33) rfl (teq (by decide)).2 ?_
    refine XS.aloadN X5.here hx rfl (hb hby d12_36) rfl rfl ?_
    exact kz
  obtain ⟨T6, X6, e6, st6⟩ := getF X5 hx hZ hown (host := "") (Or.inl (w_ hw 33 rfl)) Via.refl e5 SA.2.2.1 (g := (mkF m 37 #[.val (.ref a1), .val (.ref a2), .val (.ref a2)] [(.ref a1)])) rfl rfl (hb hby d12_37)
  refine Goes.via (S' := T6.setTop (mkF m 40 #[.val (.ref a1), .val (.ref a2), .val (.ref a2)] [(.ref va)])) st6 ?_
  refine Goes.via (S' := T6.setTop (mkF m 41 #[.val (.ref a1), .val (.ref a2), .val (.ref a2)] [(.ref a2), (.ref va)])) (fun tz kz => ?_) ?_
  · show Steps p.tables e below (T6.setTop (mkF m 40 #[.val (.ref a1), .val (.ref a2), .val (.ref a2)] [(.ref va)])) _
    refine XS.aloadN X6.here hx rfl (hb hby d12_40) rfl rfl ?_
    exact kz
  obtain ⟨T7, X7, e7, st7⟩ := getF X6 hx hZ hown (host := "") (Or.inl (w_ hw 33 rfl)) Via.refl e6 SB.2.2.1 (g := (mkF m 41 #[.val (.ref a1), .val (.ref a2), .val (.ref a2)] [(.ref a2), (.ref va)])) rfl rfl (hb hby d12_41)
  refine Goes.via (S' := T7.setTop (mkF m 44 #[.val (.ref a1), .val (.ref a2), .val (.ref a2)] [(.ref vb), (.ref va)])) st7 ?_
  obtain ⟨_, _, ⟨T8, L8, k8, n8⟩, -, X8, ⟨Lc8, hQ8, l8, y8, z8⟩, st8⟩ := Jvm.LawKit.callS X7 hx (y := (⟨"java/lang/StringLatin1", "equals", "([B[B)Z"⟩ : MethodName)) hown (mvT hZ (w_ hw 84 rfl)) (mvT hZ (w_ hw 85 rfl)) (mvT hZ (w_ hw 86 rfl)) (mvT hZ (w_ hw 87 rfl)) (by decide) (backOf (W := 0) (req_20 l Z a0 hw [] va vb ka kb x0 x1 h0 n0 Z0 SA.2.2.2 SB.2.2.2) hZ (w_ hw 87 rfl) (w_ hw 86 rfl) (by decide) (by decide)) (g := (mkF m 44 #[.val (.ref a1), .val (.ref a2), .val (.ref a2)] [(.ref vb), (.ref va)])) rfl (by rw [hml]; rfl) (argsL := [(.ref va), (.ref vb)]) (rest := []) (lenOf pd_6 rfl) rfl (by show 2 * 0 + _ ≤ _; exact Nat.le_of_eq rfl) (hb hby d12_44) (fun _ _ => ⟨rfl, e7, (by decide : 0 + 0 ≤ _), (by decide : 0 + 0 ≤ _)⟩)
  dsimp only [Pt.U, Pt.locs, Pt.cells, Pt.slots] at X8 l8 y8 z8 st8 hQ8
  subst l8 y8 z8
  obtain ⟨rfl, N8, e8⟩ := hQ8
  have Nf8 := Fr.app N0 N8
  refine Goes.via (S' := T8.setTop (mkF m 47 #[.val (.ref a1), .val (.ref a2), .val (.ref a2)] [(.int (nar .boolean (own_eqb [x0, x1] [])))])) (st8) ?_
  by_cases hc47_9 : (nar .boolean (own_eqb [x0, x1] [])) = (0 : Int32)
  · refine Goes.via (S' := T8.setTop (mkF m 55 #[.val (.ref a1), .val (.ref a2), .val (.ref a2)] [(.int (0 : Int32))])) (fun tz kz => ?_) ?_
    · show Steps p.tables e below (T8.setTop (mkF m 47 #[.val (.ref a1), .val (.ref a2), .val (.ref a2)] [(.int (nar .boolean (own_eqb [x0, x1] [])))])) _
      refine XS.ifYes X8.here hx rfl (pc0 := 47) (pc' := 54) rfl (hb hby d12_47) rfl ((if0 _ _).trans (teq hc47_9).1) (by decide) (by decide) ?_
      refine XS.iconst X8.here hx rfl (hb hby d12_54) ?_
      exact kz
    exact Goes.retN X8 hx Bd.notSynchronized (t := .boolean) Bd.returns (by simp) (hb hby d12_55) (Nat.le_of_ble_eq_true rfl) (Nat.le_of_ble_eq_true rfl) ⟨congrArg (fun z => some (Value.int z)) (own_eq0 hc47_9), Nf8, e8⟩
  · refine Goes.via (S' := T8.setTop (mkF m 55 #[.val (.ref a1), .val (.ref a2), .val (.ref a2)] [(.int (1 : Int32))])) (fun tz kz => ?_) ?_
    · show Steps p.tables e below (T8.setTop (mkF m 47 #[.val (.ref a1), .val (.ref a2), .val (.ref a2)] [(.int (nar .boolean (own_eqb [x0, x1] [])))])) _
      refine XS.ifNo X8.here hx rfl (hb hby d12_47) rfl ((if0 _ _).trans (feq hc47_9).1) ?_
      refine XS.iconst X8.here hx rfl (hb hby d12_50) ?_
      refine XS.goto X8.here hx rfl (pc0 := 51) (pc' := 55) rfl (hb hby d12_51) (by decide) (by decide) ?_
      exact kz
    exact Goes.retN X8 hx Bd.notSynchronized (t := .boolean) Bd.returns (by simp) (hb hby d12_55) (Nat.le_of_ble_eq_true rfl) (Nat.le_of_ble_eq_true rfl) ⟨congrArg (fun z => some (Value.int z)) (own_eq1 hc47_9), Nf8, e8⟩
def Q_req_21 (Z : State) (ba : Addr) (bb : Addr) (ka kb : ClassId) (x0 x1 y0 : Int32) (h0 : Heap) (n0 : Nat) : Option Value → Heap → List Loc → Prop := fun v h L => v = some (.int (nar .boolean (own_eqb [x0, x1] [y0]))) ∧ Fr n0 L ∧ h = h0
set_option maxRecDepth 65536 in
set_option maxHeartbeats 40000000 in
theorem req_21 (l : Launch) (Z : State) (a0 : Array Value) (hw : ∀ d ∈ tables_1, d.before a0 Z = true) (ws : List Jvm.Cond) (ba : Addr) (bb : Addr) (ka kb : ClassId) (x0 x1 y0 : Int32) (h0 : Heap) (n0 : Nat) (Z0 : n0 ≤ h0.size) (A0 : Arv Z h0 ba ka .byte (2 : Int32) [.int x0, .int x1] (.int 0)) (B0 : Arv Z h0 bb kb .byte (1 : Int32) [.int y0] (.int 0)) :
    own_M l Z (⟨"java/lang/StringLatin1", "equals", "([B[B)Z"⟩ : MethodName) (Jvm.Cond.code (⟨"java/lang/StringLatin1", "equals", "([B[B)Z"⟩ : MethodName) jdk_43_method_13_code 3 (some .boolean)) ws ({ frames := 0, cells := 0, slots := 0, locals := 0 } : Room) #[(.ref ba), (.ref bb)] h0 (Q_req_21 Z ba bb ka kb x0 x1 y0 h0 n0) := by
  refine MetFree.of_bodySF (plainFor_of_name pn_13) hisR ?_
  intro p e s m args below meth c s₁ Bd hml0 hP hK
  obtain ⟨rfl, hZ, hh⟩ := hP
  have hx := Bd.exec
  have hby := Bd.bytes
  have hml : c.maxLocals = 3 := hml0
  have hown : s.vm.findClass "java/lang/StringLatin1" = some m.cls := findClass_of_methodNamed Bd.named
  have hnm := (name_of_methodNamed Bd.named Bd.method).1
  have X0 : Stand p l e ({ frames := 0, cells := 0, slots := 0, locals := 0 } : Room) s m #[(.ref ba), (.ref bb)] below meth c s₁ [] 0 0 := Stand.of_body Bd
  have e0 : s₁.heap = h0 := by rw [← hh, Bd.state]; rfl
  have N0 := Fr.nil n0
  show Goes p e below (Fin s (Q_req_21 Z ba bb ka kb x0 x1 y0 h0 n0) ({ frames := 0, cells := 0, slots := 0, locals := 0 } : Room).cells ({ frames := 0, cells := 0, slots := 0, locals := 0 } : Room).slots) _
  refine Goes.via (S' := s₁.setTop (mkF m 0 #[.val (.ref ba), .val (.ref bb), .unset] [])) (fun tz kz => castTop (ef_13 m ba bb ) kz) ?_
  refine Goes.via (S' := s₁.setTop (mkF m 1 #[.val (.ref ba), .val (.ref bb), .unset] [(.ref ba)])) (fun tz kz => ?_) ?_
  · show Steps p.tables e below (s₁.setTop (mkF m 0 #[.val (.ref ba), .val (.ref bb), .unset] [])) _
    refine XS.aloadN X0.here hx rfl (hb hby d13_0) rfl rfl ?_
    exact kz
  obtain ⟨cl1, Ar1, q1, Sz1, Nn1, Hs1, G1⟩ := (id A0)
  refine Goes.via (S' := s₁.setTop (mkF m 3 #[.val (.ref ba), .val (.ref bb), .unset] [(.ref bb), (.int (2 : Int32))])) (fun tz kz => ?_) ?_
  · show Steps p.tables e below (s₁.setTop (mkF m 1 #[.val (.ref ba), .val (.ref bb), .unset] [(.ref ba)])) _
    refine X0.arraylength hx (by rw [e0]; exact Ar1.1) (State.isArrayOf_alike hZ.alike Ar1.2.1) (g := (mkF m 1 #[.val (.ref ba), .val (.ref bb), .unset] [(.ref ba)])) rfl rfl (hb hby d13_1) _ ?_
    rw [len_of Sz1 Nn1]
    refine XS.aloadN X0.here hx rfl (hb hby d13_2) rfl rfl ?_
    exact kz
  obtain ⟨cl2, Ar2, q2, Sz2, Nn2, Hs2, G2⟩ := (id B0)
  refine Goes.via (S' := s₁.setTop (mkF m 35 #[.val (.ref ba), .val (.ref bb), .unset] [(.int (0 : Int32))])) (fun tz kz => ?_) ?_
  · show Steps p.tables e below (s₁.setTop (mkF m 3 #[.val (.ref ba), .val (.ref bb), .unset] [(.ref bb), (.int (2 : Int32))])) _
    refine X0.arraylength hx (by rw [e0]; exact Ar2.1) (State.isArrayOf_alike hZ.alike Ar2.2.1) (g := (mkF m 3 #[.val (.ref ba), .val (.ref bb), .unset] [(.ref bb), (.int (2 : Int32))])) rfl rfl (hb hby d13_3) _ ?_
    rw [len_of Sz2 Nn2]
    refine XS.icmpYes X0.here hx rfl (pc0 := 4) (pc' := 34) rfl (hb hby d13_4) rfl (feq (by decide)).2 (by decide) (by decide) ?_
    refine XS.iconst X0.here hx rfl (hb hby d13_34) ?_
    exact kz
  exact Goes.retN X0 hx Bd.notSynchronized (t := .boolean) Bd.returns (by simp) (hb hby d13_35) (Nat.le_of_ble_eq_true rfl) (Nat.le_of_ble_eq_true rfl) ⟨congrArg (fun z => some (Value.int z)) (by simp [own_eqb]), N0, e0⟩
def Q_rqs_21 (Z : State) (a1 : Addr) (a2 : Addr) (va vb : Addr) (ka kb : ClassId) (cs : Int32) (x0 x1 y0 : Int32) (h0 : Heap) (n0 : Nat) : Option Value → Heap → List Loc → Prop := fun v h L => v = some (.int (nar .boolean (own_eqb [x0, x1] [y0]))) ∧ Fr n0 L ∧ h = h0
set_option maxRecDepth 65536 in
set_option maxHeartbeats 40000000 in
theorem rqs_21 (l : Launch) (Z : State) (a0 : Array Value) (hw : ∀ d ∈ tables_1, d.before a0 Z = true) (ws : List Jvm.Cond) (a1 : Addr) (a2 : Addr) (va vb : Addr) (ka kb : ClassId) (cs : Int32) (x0 x1 y0 : Int32) (h0 : Heap) (n0 : Nat) (Z0 : n0 ≤ h0.size) (SC : Sta Z Z.heap "java/lang/String" "COMPACT_STRINGS" "Z" (.int cs)) (hcs : ¬ cs = (0 : Int32)) (O0 : Old Z n0 h0) (SA : own_Str Z h0 a1 va ka (2 : Int32) [.int x0, .int x1]) (SB : own_Str Z h0 a2 vb kb (1 : Int32) [.int y0]) (ne : a1 ≠ a2) :
    own_M l Z (⟨"java/lang/String", "equals", "(Ljava/lang/Object;)Z"⟩ : MethodName) (Jvm.Cond.code (⟨"java/lang/String", "equals", "(Ljava/lang/Object;)Z"⟩ : MethodName) jdk_42_method_66_code 3 (some .boolean)) ws ({ frames := 1, cells := 0, slots := 0, locals := 16 } : Room) #[(.ref a1), (.ref a2)] h0 (Q_rqs_21 Z a1 a2 va vb ka kb cs x0 x1 y0 h0 n0) := by
  refine MetFree.of_bodySF (plainFor_of_name pn_12) hisR ?_
  intro p e s m args below meth c s₁ Bd hml0 hP hK
  obtain ⟨rfl, hZ, hh⟩ := hP
  have hx := Bd.exec
  have hby := Bd.bytes
  have hml : c.maxLocals = 3 := hml0
  have hown : s.vm.findClass "java/lang/String" = some m.cls := findClass_of_methodNamed Bd.named
  have hnm := (name_of_methodNamed Bd.named Bd.method).1
  have X0 : Stand p l e ({ frames := 1, cells := 0, slots := 0, locals := 16 } : Room) s m #[(.ref a1), (.ref a2)] below meth c s₁ [] 0 0 := Stand.of_body Bd
  have e0 : s₁.heap = h0 := by rw [← hh, Bd.state]; rfl
  have N0 := Fr.nil n0
  show Goes p e below (Fin s (Q_rqs_21 Z a1 a2 va vb ka kb cs x0 x1 y0 h0 n0) ({ frames := 1, cells := 0, slots := 0, locals := 16 } : Room).cells ({ frames := 1, cells := 0, slots := 0, locals := 16 } : Room).slots) _
  refine Goes.via (S' := s₁.setTop (mkF m 0 #[.val (.ref a1), .val (.ref a2), .unset] [])) (fun tz kz => castTop (ef_12 m a1 a2 ) kz) ?_
  refine Goes.via (S' := s₁.setTop (mkF m 8 #[.val (.ref a1), .val (.ref a2), .unset] [(.ref a2)])) (fun tz kz => ?_) ?_
  · show Steps p.tables e below (s₁.setTop (mkF m 0 #[.val (.ref a1), .val (.ref a2), .unset] [])) _
    refine XS.aloadN X0.here hx rfl (hb hby d12_0) rfl rfl ?_
    refine XS.aloadN X0.here hx rfl (hb hby d12_1) rfl rfl ?_
    refine Jvm.RoadKit.acmp (g := (mkF m 2 #[.val (.ref a1), .val (.ref a2), .unset] [(.ref a2), (.ref a1)])) X0 hx rfl rfl rfl (pc0 := 2) (pc' := 7) (same := false) rfl (hb hby d12_2) rfl (decide_eq_false fun q => ne (Value.ref.inj q)) (by decide) (by decide) ?_
    refine XS.aloadN X0.here hx rfl (hb hby d12_7) rfl rfl ?_
    exact kz
  obtain ⟨T1, X1, e1, st1⟩ := instY X0 hx hZ hown (w_ hw 83 rfl) e0 (Ins.self SB.1) (g := (mkF m 8 #[.val (.ref a1), .val (.ref a2), .unset] [(.ref a2)])) rfl rfl (hb hby d12_8)
  refine Goes.via (S' := T1.setTop (mkF m 11 #[.val (.ref a1), .val (.ref a2), .unset] [(.int (1 : Int32))])) st1 ?_
  refine Goes.via (S' := T1.setTop (mkF m 15 #[.val (.ref a1), .val (.ref a2), .unset] [(.ref a2)])) (fun tz kz => ?_) ?_
  · show Steps p.tables e below (T1.setTop (mkF m 11 #[.val (.ref a1), .val (.ref a2), .unset] [(.int (1 : Int32))])) _
    refine XS.ifNo X1.here hx rfl (hb hby d12_11) rfl ((if0 _ _).trans (feq (by decide)).1) ?_
    refine XS.aloadN X1.here hx rfl (hb hby d12_14) rfl rfl ?_
    exact kz
  obtain ⟨T2, X2, e2, st2⟩ := castY X1 hx hZ hown (w_ hw 83 rfl) e1 (Ins.self SB.1) (g := (mkF m 15 #[.val (.ref a1), .val (.ref a2), .unset] [(.ref a2)])) rfl rfl (hb hby d12_15)
  refine Goes.via (S' := T2.setTop (mkF m 18 #[.val (.ref a1), .val (.ref a2), .unset] [(.ref a2)])) st2 ?_
  refine Goes.via (S' := T2.setTop (mkF m 19 #[.val (.ref a1), .val (.ref a2), .val (.ref a2)] [])) (fun tz kz => ?_) ?_
  · show Steps p.tables e below (T2.setTop (mkF m 18 #[.val (.ref a1), .val (.ref a2), .unset] [(.ref a2)])) _
    refine XS.astoreN X2.here hx rfl (hb hby d12_18) rfl rfl (l' := #[.val (.ref a1), .val (.ref a2), .val (.ref a2)]) rfl ?_
    exact kz
  obtain ⟨T3, X3, e3, st3⟩ := getS2 X2 hx hZ hown (host := "") (Or.inl (w_ hw 19 rfl)) Via.refl e2 (SC.ext O0.2) (g := (mkF m 19 #[.val (.ref a1), .val (.ref a2), .val (.ref a2)] [])) rfl (hb hby d12_19)
  refine Goes.via (S' := T3.setTop (mkF m 22 #[.val (.ref a1), .val (.ref a2), .val (.ref a2)] [(.int cs)])) st3 ?_
  refine Goes.via (S' := T3.setTop (mkF m 26 #[.val (.ref a1), .val (.ref a2), .val (.ref a2)] [(.ref a1)])) (fun tz kz => ?_) ?_
  · show Steps p.tables e below (T3.setTop (mkF m 22 #[.val (.ref a1), .val (.ref a2), .val (.ref a2)] [(.int cs)])) _
    refine XS.ifNo X3.here hx rfl (hb hby d12_22) rfl ((if0 _ _).trans (feq hcs).1) ?_
    refine XS.aloadN X3.here hx rfl (hb hby d12_25) rfl rfl ?_
    exact kz
  obtain ⟨T4, X4, e4, st4⟩ := getF X3 hx hZ hown (host := "") (Or.inl (w_ hw 31 rfl)) Via.refl e3 SA.2.1 (g := (mkF m 26 #[.val (.ref a1), .val (.ref a2), .val (.ref a2)] [(.ref a1)])) rfl rfl (hb hby d12_26)
  refine Goes.via (S' := T4.setTop (mkF m 29 #[.val (.ref a1), .val (.ref a2), .val (.ref a2)] [(.int (0 : Int32))])) st4 ?_
  refine Goes.via (S' := T4.setTop (mkF m 30 #[.val (.ref a1), .val (.ref a2), .val (.ref a2)] [(.ref a2), (.int (0 : Int32))])) (fun tz kz => ?_) ?_
  · show Steps p.tables e below (T4.setTop (mkF m 29 #[.val (.ref a1), .val (.ref a2), .val (.ref a2)] [(.int (0 : Int32))])) _
    refine XS.aloadN X4.here hx rfl (hb hby d12_29) rfl rfl ?_
    exact kz
  obtain ⟨T5, X5, e5, st5⟩ := getF X4 hx hZ hown (host := "") (Or.inl (w_ hw 31 rfl)) Via.refl e4 SB.2.1 (g := (mkF m 30 #[.val (.ref a1), .val (.ref a2), .val (.ref a2)] [(.ref a2), (.int (0 : Int32))])) rfl rfl (hb hby d12_30)
  refine Goes.via (S' := T5.setTop (mkF m 33 #[.val (.ref a1), .val (.ref a2), .val (.ref a2)] [(.int (0 : Int32)), (.int (0 : Int32))])) st5 ?_
  refine Goes.via (S' := T5.setTop (mkF m 37 #[.val (.ref a1), .val (.ref a2), .val (.ref a2)] [(.ref a1)])) (fun tz kz => ?_) ?_
  · show Steps p.tables e below (T5.setTop (mkF m 33 #[.val (.ref a1), .val (.ref a2), .val (.ref a2)] [(.int (0 : Int32)), (.int (0 : Int32))])) _
    refine XS.icmpNo X5.here hx rfl (hb hby d12_33) rfl (teq (by decide)).2 ?_
    refine XS.aloadN X5.here hx rfl (hb hby d12_36) rfl rfl ?_
    exact kz
  obtain ⟨T6, X6, e6, st6⟩ := getF X5 hx hZ hown (host := "") (Or.inl (w_ hw 33 rfl)) Via.refl e5 SA.2.2.1 (g := (mkF m 37 #[.val (.ref a1), .val (.ref a2), .val (.ref a2)] [(.ref a1)])) rfl rfl (hb hby d12_37)
  refine Goes.via (S' := T6.setTop (mkF m 40 #[.val (.ref a1), .val (.ref a2), .val (.ref a2)] [(.ref va)])) st6 ?_
  refine Goes.via (S' := T6.setTop (mkF m 41 #[.val (.ref a1), .val (.ref a2), .val (.ref a2)] [(.ref a2), (.ref va)])) (fun tz kz => ?_) ?_
  · show Steps p.tables e below (T6.setTop (mkF m 40 #[.val (.ref a1), .val (.ref a2), .val (.ref a2)] [(.ref va)])) _
    refine XS.aloadN X6.here hx rfl (hb hby d12_40) rfl rfl ?_
    exact kz
  obtain ⟨T7, X7, e7, st7⟩ := getF X6 hx hZ hown (host := "") (Or.inl (w_ hw 33 rfl)) Via.refl e6 SB.2.2.1 (g := (mkF m 41 #[.val (.ref a1), .val (.ref a2), .val (.ref a2)] [(.ref a2), (.ref va)])) rfl rfl (hb hby d12_41)
  refine Goes.via (S' := T7.setTop (mkF m 44 #[.val (.ref a1), .val (.ref a2), .val (.ref a2)] [(.ref vb), (.ref va)])) st7 ?_
  obtain ⟨_, _, ⟨T8, L8, k8, n8⟩, -, X8, ⟨Lc8, hQ8, l8, y8, z8⟩, st8⟩ := Jvm.LawKit.callS X7 hx (y := (⟨"java/lang/StringLatin1", "equals", "([B[B)Z"⟩ : MethodName)) hown (mvT hZ (w_ hw 84 rfl)) (mvT hZ (w_ hw 85 rfl)) (mvT hZ (w_ hw 86 rfl)) (mvT hZ (w_ hw 87 rfl)) (by decide) (backOf (W := 0) (req_21 l Z a0 hw [] va vb ka kb x0 x1 y0 h0 n0 Z0 SA.2.2.2 SB.2.2.2) hZ (w_ hw 87 rfl) (w_ hw 86 rfl) (by decide) (by decide)) (g := (mkF m 44 #[.val (.ref a1), .val (.ref a2), .val (.ref a2)] [(.ref vb), (.ref va)])) rfl (by rw [hml]; rfl) (argsL := [(.ref va), (.ref vb)]) (rest := []) (lenOf pd_6 rfl) rfl (by show 2 * 0 + _ ≤ _; exact Nat.le_of_eq rfl) (hb hby d12_44) (fun _ _ => ⟨rfl, e7, (by decide : 0 + 0 ≤ _), (by decide : 0 + 0 ≤ _)⟩)
  dsimp only [Pt.U, Pt.locs, Pt.cells, Pt.slots] at X8 l8 y8 z8 st8 hQ8
  subst l8 y8 z8
  obtain ⟨rfl, N8, e8⟩ := hQ8
  have Nf8 := Fr.app N0 N8
  refine Goes.via (S' := T8.setTop (mkF m 47 #[.val (.ref a1), .val (.ref a2), .val (.ref a2)] [(.int (nar .boolean (own_eqb [x0, x1] [y0])))])) (st8) ?_
  by_cases hc47_9 : (nar .boolean (own_eqb [x0, x1] [y0])) = (0 : Int32)
  · refine Goes.via (S' := T8.setTop (mkF m 55 #[.val (.ref a1), .val (.ref a2), .val (.ref a2)] [(.int (0 : Int32))])) (fun tz kz => ?_) ?_
    · show Steps p.tables e below (T8.setTop (mkF m 47 #[.val (.ref a1), .val (.ref a2), .val (.ref a2)] [(.int (nar .boolean (own_eqb [x0, x1] [y0])))])) _
      refine XS.ifYes X8.here hx rfl (pc0 := 47) (pc' := 54) rfl (hb hby d12_47) rfl ((if0 _ _).trans (teq hc47_9).1) (by decide) (by decide) ?_
      refine XS.iconst X8.here hx rfl (hb hby d12_54) ?_
      exact kz
    exact Goes.retN X8 hx Bd.notSynchronized (t := .boolean) Bd.returns (by simp) (hb hby d12_55) (Nat.le_of_ble_eq_true rfl) (Nat.le_of_ble_eq_true rfl) ⟨congrArg (fun z => some (Value.int z)) (own_eq0 hc47_9), Nf8, e8⟩
  · refine Goes.via (S' := T8.setTop (mkF m 55 #[.val (.ref a1), .val (.ref a2), .val (.ref a2)] [(.int (1 : Int32))])) (fun tz kz => ?_) ?_
    · show Steps p.tables e below (T8.setTop (mkF m 47 #[.val (.ref a1), .val (.ref a2), .val (.ref a2)] [(.int (nar .boolean (own_eqb [x0, x1] [y0])))])) _
      refine XS.ifNo X8.here hx rfl (hb hby d12_47) rfl ((if0 _ _).trans (feq hc47_9).1) ?_
      refine XS.iconst X8.here hx rfl (hb hby d12_50) ?_
      refine XS.goto X8.here hx rfl (pc0 := 51) (pc' := 55) rfl (hb hby d12_51) (by decide) (by decide) ?_
      exact kz
    exact Goes.retN X8 hx Bd.notSynchronized (t := .boolean) Bd.returns (by simp) (hb hby d12_55) (Nat.le_of_ble_eq_true rfl) (Nat.le_of_ble_eq_true rfl) ⟨congrArg (fun z => some (Value.int z)) (own_eq1 hc47_9), Nf8, e8⟩
def Q_req_22 (Z : State) (ba : Addr) (bb : Addr) (ka kb : ClassId) (x0 x1 y0 y1 : Int32) (h0 : Heap) (n0 : Nat) : Option Value → Heap → List Loc → Prop := fun v h L => v = some (.int (nar .boolean (own_eqb [x0, x1] [y0, y1]))) ∧ Fr n0 L ∧ h = h0
set_option maxRecDepth 65536 in
set_option maxHeartbeats 40000000 in
theorem req_22 (l : Launch) (Z : State) (a0 : Array Value) (hw : ∀ d ∈ tables_1, d.before a0 Z = true) (ws : List Jvm.Cond) (ba : Addr) (bb : Addr) (ka kb : ClassId) (x0 x1 y0 y1 : Int32) (h0 : Heap) (n0 : Nat) (Z0 : n0 ≤ h0.size) (A0 : Arv Z h0 ba ka .byte (2 : Int32) [.int x0, .int x1] (.int 0)) (B0 : Arv Z h0 bb kb .byte (2 : Int32) [.int y0, .int y1] (.int 0)) :
    own_M l Z (⟨"java/lang/StringLatin1", "equals", "([B[B)Z"⟩ : MethodName) (Jvm.Cond.code (⟨"java/lang/StringLatin1", "equals", "([B[B)Z"⟩ : MethodName) jdk_43_method_13_code 3 (some .boolean)) ws ({ frames := 0, cells := 0, slots := 0, locals := 0 } : Room) #[(.ref ba), (.ref bb)] h0 (Q_req_22 Z ba bb ka kb x0 x1 y0 y1 h0 n0) := by
  refine MetFree.of_bodySF (plainFor_of_name pn_13) hisR ?_
  intro p e s m args below meth c s₁ Bd hml0 hP hK
  obtain ⟨rfl, hZ, hh⟩ := hP
  have hx := Bd.exec
  have hby := Bd.bytes
  have hml : c.maxLocals = 3 := hml0
  have hown : s.vm.findClass "java/lang/StringLatin1" = some m.cls := findClass_of_methodNamed Bd.named
  have hnm := (name_of_methodNamed Bd.named Bd.method).1
  have X0 : Stand p l e ({ frames := 0, cells := 0, slots := 0, locals := 0 } : Room) s m #[(.ref ba), (.ref bb)] below meth c s₁ [] 0 0 := Stand.of_body Bd
  have e0 : s₁.heap = h0 := by rw [← hh, Bd.state]; rfl
  have N0 := Fr.nil n0
  show Goes p e below (Fin s (Q_req_22 Z ba bb ka kb x0 x1 y0 y1 h0 n0) ({ frames := 0, cells := 0, slots := 0, locals := 0 } : Room).cells ({ frames := 0, cells := 0, slots := 0, locals := 0 } : Room).slots) _
  refine Goes.via (S' := s₁.setTop (mkF m 0 #[.val (.ref ba), .val (.ref bb), .unset] [])) (fun tz kz => castTop (ef_13 m ba bb ) kz) ?_
  refine Goes.via (S' := s₁.setTop (mkF m 1 #[.val (.ref ba), .val (.ref bb), .unset] [(.ref ba)])) (fun tz kz => ?_) ?_
  · show Steps p.tables e below (s₁.setTop (mkF m 0 #[.val (.ref ba), .val (.ref bb), .unset] [])) _
    refine XS.aloadN X0.here hx rfl (hb hby d13_0) rfl rfl ?_
    exact kz
  obtain ⟨cl1, Ar1, q1, Sz1, Nn1, Hs1, G1⟩ := (id A0)
  refine Goes.via (S' := s₁.setTop (mkF m 3 #[.val (.ref ba), .val (.ref bb), .unset] [(.ref bb), (.int (2 : Int32))])) (fun tz kz => ?_) ?_
  · show Steps p.tables e below (s₁.setTop (mkF m 1 #[.val (.ref ba), .val (.ref bb), .unset] [(.ref ba)])) _
    refine X0.arraylength hx (by rw [e0]; exact Ar1.1) (State.isArrayOf_alike hZ.alike Ar1.2.1) (g := (mkF m 1 #[.val (.ref ba), .val (.ref bb), .unset] [(.ref ba)])) rfl rfl (hb hby d13_1) _ ?_
    rw [len_of Sz1 Nn1]
    refine XS.aloadN X0.here hx rfl (hb hby d13_2) rfl rfl ?_
    exact kz
  obtain ⟨cl2, Ar2, q2, Sz2, Nn2, Hs2, G2⟩ := (id B0)
  refine Goes.via (S' := s₁.setTop (mkF m 11 #[.val (.ref ba), .val (.ref bb), .val (.int (0 : Int32))] [(.ref ba), (.int (0 : Int32))])) (fun tz kz => ?_) ?_
  · show Steps p.tables e below (s₁.setTop (mkF m 3 #[.val (.ref ba), .val (.ref bb), .unset] [(.ref bb), (.int (2 : Int32))])) _
    refine X0.arraylength hx (by rw [e0]; exact Ar2.1) (State.isArrayOf_alike hZ.alike Ar2.2.1) (g := (mkF m 3 #[.val (.ref ba), .val (.ref bb), .unset] [(.ref bb), (.int (2 : Int32))])) rfl rfl (hb hby d13_3) _ ?_
    rw [len_of Sz2 Nn2]
    refine XS.icmpNo X0.here hx rfl (hb hby d13_4) rfl (teq (by decide)).2 ?_
    refine XS.iconst X0.here hx rfl (hb hby d13_7) ?_
    refine XS.istoreN X0.here hx rfl (hb hby d13_8) rfl (l' := #[.val (.ref ba), .val (.ref bb), .val (.int (0 : Int32))]) rfl ?_
    show Steps p.tables e below (s₁.setTop (mkF m 9 #[.val (.ref ba), .val (.ref bb), .val (.int (0 : Int32))] [])) _
    refine XS.iloadN X0.here hx rfl (hb hby d13_9) rfl ?_
    refine XS.aloadN X0.here hx rfl (hb hby d13_10) rfl rfl ?_
    exact kz
  obtain ⟨cl3, Ar3, q3, Sz3, Nn3, Hs3, G3⟩ := (id A0)
  refine Goes.via (S' := s₁.setTop (mkF m 17 #[.val (.ref ba), .val (.ref bb), .val (.int (0 : Int32))] [(.int (0 : Int32)), (.ref ba)])) (fun tz kz => ?_) ?_
  · show Steps p.tables e below (s₁.setTop (mkF m 11 #[.val (.ref ba), .val (.ref bb), .val (.int (0 : Int32))] [(.ref ba), (.int (0 : Int32))])) _
    refine X0.arraylength hx (by rw [e0]; exact Ar3.1) (State.isArrayOf_alike hZ.alike Ar3.2.1) (g := (mkF m 11 #[.val (.ref ba), .val (.ref bb), .val (.int (0 : Int32))] [(.ref ba), (.int (0 : Int32))])) rfl rfl (hb hby d13_11) _ ?_
    rw [len_of Sz3 Nn3]
    refine XS.icmpNo X0.here hx rfl (hb hby d13_12) rfl (tlt (by decide)).2.1 ?_
    refine XS.aloadN X0.here hx rfl (hb hby d13_15) rfl rfl ?_
    refine XS.iloadN X0.here hx rfl (hb hby d13_16) rfl ?_
    exact kz
  obtain ⟨cl4, Ar4, q4, Sz4, Nn4, Hs4, G4⟩ := (id A0)
  refine Goes.via (S' := s₁.setTop (mkF m 20 #[.val (.ref ba), .val (.ref bb), .val (.int (0 : Int32))] [(.int (0 : Int32)), (.ref bb), (.int x0)])) (fun tz kz => ?_) ?_
  · show Steps p.tables e below (s₁.setTop (mkF m 17 #[.val (.ref ba), .val (.ref bb), .val (.int (0 : Int32))] [(.int (0 : Int32)), (.ref ba)])) _
    refine X0.baloadBytes hx (j := (0 : Int32)) (v := (.int x0)) (by rw [e0]; exact Ar4.1) (State.isArrayOf_alike hZ.alike Ar4.2.1) Ar4.2.2 (inb_of Sz4 ⟨by decide, by decide⟩) (Has.at Hs4 (inb_of Sz4 ⟨by decide, by decide⟩) rfl) (g := (mkF m 17 #[.val (.ref ba), .val (.ref bb), .val (.int (0 : Int32))] [(.int (0 : Int32)), (.ref ba)])) rfl rfl (hb hby d13_17) _ ?_
    refine XS.aloadN X0.here hx rfl (hb hby d13_18) rfl rfl ?_
    refine XS.iloadN X0.here hx rfl (hb hby d13_19) rfl ?_
    exact kz
  obtain ⟨cl5, Ar5, q5, Sz5, Nn5, Hs5, G5⟩ := (id B0)
  refine Goes.via (S' := s₁.setTop (mkF m 21 #[.val (.ref ba), .val (.ref bb), .val (.int (0 : Int32))] [(.int y0), (.int x0)])) (fun tz kz => ?_) ?_
  · show Steps p.tables e below (s₁.setTop (mkF m 20 #[.val (.ref ba), .val (.ref bb), .val (.int (0 : Int32))] [(.int (0 : Int32)), (.ref bb), (.int x0)])) _
    refine X0.baloadBytes hx (j := (0 : Int32)) (v := (.int y0)) (by rw [e0]; exact Ar5.1) (State.isArrayOf_alike hZ.alike Ar5.2.1) Ar5.2.2 (inb_of Sz5 ⟨by decide, by decide⟩) (Has.at Hs5 (inb_of Sz5 ⟨by decide, by decide⟩) rfl) (g := (mkF m 20 #[.val (.ref ba), .val (.ref bb), .val (.int (0 : Int32))] [(.int (0 : Int32)), (.ref bb), (.int x0)])) rfl rfl (hb hby d13_20) _ ?_
    exact kz
  by_cases hc21_6 : x0 = y0
  · refine Goes.via (S' := s₁.setTop (mkF m 11 #[.val (.ref ba), .val (.ref bb), .val (.int (1 : Int32))] [(.ref ba), (.int (1 : Int32))])) (fun tz kz => ?_) ?_
    · show Steps p.tables e below (s₁.setTop (mkF m 21 #[.val (.ref ba), .val (.ref bb), .val (.int (0 : Int32))] [(.int y0), (.int x0)])) _
      refine XS.icmpYes X0.here hx rfl (pc0 := 21) (pc' := 26) rfl (hb hby d13_21) rfl (teq hc21_6).1 (by decide) (by decide) ?_
      refine XS.iinc X0.here hx rfl (hb hby d13_26) rfl (l' := #[.val (.ref ba), .val (.ref bb), .val (.int (1 : Int32))]) rfl ?_
      refine XS.goto X0.here hx rfl (pc0 := 29) (pc' := 9) rfl (hb hby d13_29) (by decide) (by decide) ?_
      refine XS.iloadN X0.here hx rfl (hb hby d13_9) rfl ?_
      show Steps p.tables e below (s₁.setTop (mkF m 10 #[.val (.ref ba), .val (.ref bb), .val (.int (1 : Int32))] [(.int (1 : Int32))])) _
      refine XS.aloadN X0.here hx rfl (hb hby d13_10) rfl rfl ?_
      exact kz
    obtain ⟨cl7, Ar7, q7, Sz7, Nn7, Hs7, G7⟩ := (id A0)
    refine Goes.via (S' := s₁.setTop (mkF m 17 #[.val (.ref ba), .val (.ref bb), .val (.int (1 : Int32))] [(.int (1 : Int32)), (.ref ba)])) (fun tz kz => ?_) ?_
    · show Steps p.tables e below (s₁.setTop (mkF m 11 #[.val (.ref ba), .val (.ref bb), .val (.int (1 : Int32))] [(.ref ba), (.int (1 : Int32))])) _
      refine X0.arraylength hx (by rw [e0]; exact Ar7.1) (State.isArrayOf_alike hZ.alike Ar7.2.1) (g := (mkF m 11 #[.val (.ref ba), .val (.ref bb), .val (.int (1 : Int32))] [(.ref ba), (.int (1 : Int32))])) rfl rfl (hb hby d13_11) _ ?_
      rw [len_of Sz7 Nn7]
      refine XS.icmpNo X0.here hx rfl (hb hby d13_12) rfl (tlt (by decide)).2.1 ?_
      refine XS.aloadN X0.here hx rfl (hb hby d13_15) rfl rfl ?_
      refine XS.iloadN X0.here hx rfl (hb hby d13_16) rfl ?_
      exact kz
    obtain ⟨cl8, Ar8, q8, Sz8, Nn8, Hs8, G8⟩ := (id A0)
    refine Goes.via (S' := s₁.setTop (mkF m 20 #[.val (.ref ba), .val (.ref bb), .val (.int (1 : Int32))] [(.int (1 : Int32)), (.ref bb), (.int x1)])) (fun tz kz => ?_) ?_
    · show Steps p.tables e below (s₁.setTop (mkF m 17 #[.val (.ref ba), .val (.ref bb), .val (.int (1 : Int32))] [(.int (1 : Int32)), (.ref ba)])) _
      refine X0.baloadBytes hx (j := (1 : Int32)) (v := (.int x1)) (by rw [e0]; exact Ar8.1) (State.isArrayOf_alike hZ.alike Ar8.2.1) Ar8.2.2 (inb_of Sz8 ⟨by decide, by decide⟩) (Has.at Hs8 (inb_of Sz8 ⟨by decide, by decide⟩) rfl) (g := (mkF m 17 #[.val (.ref ba), .val (.ref bb), .val (.int (1 : Int32))] [(.int (1 : Int32)), (.ref ba)])) rfl rfl (hb hby d13_17) _ ?_
      refine XS.aloadN X0.here hx rfl (hb hby d13_18) rfl rfl ?_
      refine XS.iloadN X0.here hx rfl (hb hby d13_19) rfl ?_
      exact kz
    obtain ⟨cl9, Ar9, q9, Sz9, Nn9, Hs9, G9⟩ := (id B0)
    refine Goes.via (S' := s₁.setTop (mkF m 21 #[.val (.ref ba), .val (.ref bb), .val (.int (1 : Int32))] [(.int y1), (.int x1)])) (fun tz kz => ?_) ?_
    · show Steps p.tables e below (s₁.setTop (mkF m 20 #[.val (.ref ba), .val (.ref bb), .val (.int (1 : Int32))] [(.int (1 : Int32)), (.ref bb), (.int x1)])) _
      refine X0.baloadBytes hx (j := (1 : Int32)) (v := (.int y1)) (by rw [e0]; exact Ar9.1) (State.isArrayOf_alike hZ.alike Ar9.2.1) Ar9.2.2 (inb_of Sz9 ⟨by decide, by decide⟩) (Has.at Hs9 (inb_of Sz9 ⟨by decide, by decide⟩) rfl) (g := (mkF m 20 #[.val (.ref ba), .val (.ref bb), .val (.int (1 : Int32))] [(.int (1 : Int32)), (.ref bb), (.int x1)])) rfl rfl (hb hby d13_20) _ ?_
      exact kz
    by_cases hc21_10 : x1 = y1
    · refine Goes.via (S' := s₁.setTop (mkF m 11 #[.val (.ref ba), .val (.ref bb), .val (.int (2 : Int32))] [(.ref ba), (.int (2 : Int32))])) (fun tz kz => ?_) ?_
      · show Steps p.tables e below (s₁.setTop (mkF m 21 #[.val (.ref ba), .val (.ref bb), .val (.int (1 : Int32))] [(.int y1), (.int x1)])) _
        refine XS.icmpYes X0.here hx rfl (pc0 := 21) (pc' := 26) rfl (hb hby d13_21) rfl (teq hc21_10).1 (by decide) (by decide) ?_
        refine XS.iinc X0.here hx rfl (hb hby d13_26) rfl (l' := #[.val (.ref ba), .val (.ref bb), .val (.int (2 : Int32))]) rfl ?_
        refine XS.goto X0.here hx rfl (pc0 := 29) (pc' := 9) rfl (hb hby d13_29) (by decide) (by decide) ?_
        refine XS.iloadN X0.here hx rfl (hb hby d13_9) rfl ?_
        show Steps p.tables e below (s₁.setTop (mkF m 10 #[.val (.ref ba), .val (.ref bb), .val (.int (2 : Int32))] [(.int (2 : Int32))])) _
        refine XS.aloadN X0.here hx rfl (hb hby d13_10) rfl rfl ?_
        exact kz
      obtain ⟨cl11, Ar11, q11, Sz11, Nn11, Hs11, G11⟩ := (id A0)
      refine Goes.via (S' := s₁.setTop (mkF m 33 #[.val (.ref ba), .val (.ref bb), .val (.int (2 : Int32))] [(.int (1 : Int32))])) (fun tz kz => ?_) ?_
      · show Steps p.tables e below (s₁.setTop (mkF m 11 #[.val (.ref ba), .val (.ref bb), .val (.int (2 : Int32))] [(.ref ba), (.int (2 : Int32))])) _
        refine X0.arraylength hx (by rw [e0]; exact Ar11.1) (State.isArrayOf_alike hZ.alike Ar11.2.1) (g := (mkF m 11 #[.val (.ref ba), .val (.ref bb), .val (.int (2 : Int32))] [(.ref ba), (.int (2 : Int32))])) rfl rfl (hb hby d13_11) _ ?_
        rw [len_of Sz11 Nn11]
        refine XS.icmpYes X0.here hx rfl (pc0 := 12) (pc' := 32) rfl (hb hby d13_12) rfl (flt (by decide)).2.1 (by decide) (by decide) ?_
        refine XS.iconst X0.here hx rfl (hb hby d13_32) ?_
        exact kz
      exact Goes.retN X0 hx Bd.notSynchronized (t := .boolean) Bd.returns (by simp) (hb hby d13_33) (Nat.le_of_ble_eq_true rfl) (Nat.le_of_ble_eq_true rfl) ⟨congrArg (fun z => some (Value.int z)) (by simp [own_eqb, hc21_6, hc21_10]), N0, e0⟩
    · refine Goes.via (S' := s₁.setTop (mkF m 25 #[.val (.ref ba), .val (.ref bb), .val (.int (1 : Int32))] [(.int (0 : Int32))])) (fun tz kz => ?_) ?_
      · show Steps p.tables e below (s₁.setTop (mkF m 21 #[.val (.ref ba), .val (.ref bb), .val (.int (1 : Int32))] [(.int y1), (.int x1)])) _
        refine XS.icmpNo X0.here hx rfl (hb hby d13_21) rfl (feq hc21_10).1 ?_
        refine XS.iconst X0.here hx rfl (hb hby d13_24) ?_
        exact kz
      exact Goes.retN X0 hx Bd.notSynchronized (t := .boolean) Bd.returns (by simp) (hb hby d13_25) (Nat.le_of_ble_eq_true rfl) (Nat.le_of_ble_eq_true rfl) ⟨congrArg (fun z => some (Value.int z)) (by simp [own_eqb, hc21_6, hc21_10]), N0, e0⟩
  · refine Goes.via (S' := s₁.setTop (mkF m 25 #[.val (.ref ba), .val (.ref bb), .val (.int (0 : Int32))] [(.int (0 : Int32))])) (fun tz kz => ?_) ?_
    · show Steps p.tables e below (s₁.setTop (mkF m 21 #[.val (.ref ba), .val (.ref bb), .val (.int (0 : Int32))] [(.int y0), (.int x0)])) _
      refine XS.icmpNo X0.here hx rfl (hb hby d13_21) rfl (feq hc21_6).1 ?_
      refine XS.iconst X0.here hx rfl (hb hby d13_24) ?_
      exact kz
    exact Goes.retN X0 hx Bd.notSynchronized (t := .boolean) Bd.returns (by simp) (hb hby d13_25) (Nat.le_of_ble_eq_true rfl) (Nat.le_of_ble_eq_true rfl) ⟨congrArg (fun z => some (Value.int z)) (by simp [own_eqb, hc21_6]), N0, e0⟩
def Q_rqs_22 (Z : State) (a1 : Addr) (a2 : Addr) (va vb : Addr) (ka kb : ClassId) (cs : Int32) (x0 x1 y0 y1 : Int32) (h0 : Heap) (n0 : Nat) : Option Value → Heap → List Loc → Prop := fun v h L => v = some (.int (nar .boolean (own_eqb [x0, x1] [y0, y1]))) ∧ Fr n0 L ∧ h = h0
set_option maxRecDepth 65536 in
set_option maxHeartbeats 40000000 in
theorem rqs_22 (l : Launch) (Z : State) (a0 : Array Value) (hw : ∀ d ∈ tables_1, d.before a0 Z = true) (ws : List Jvm.Cond) (a1 : Addr) (a2 : Addr) (va vb : Addr) (ka kb : ClassId) (cs : Int32) (x0 x1 y0 y1 : Int32) (h0 : Heap) (n0 : Nat) (Z0 : n0 ≤ h0.size) (SC : Sta Z Z.heap "java/lang/String" "COMPACT_STRINGS" "Z" (.int cs)) (hcs : ¬ cs = (0 : Int32)) (O0 : Old Z n0 h0) (SA : own_Str Z h0 a1 va ka (2 : Int32) [.int x0, .int x1]) (SB : own_Str Z h0 a2 vb kb (2 : Int32) [.int y0, .int y1]) (ne : a1 ≠ a2) :
    own_M l Z (⟨"java/lang/String", "equals", "(Ljava/lang/Object;)Z"⟩ : MethodName) (Jvm.Cond.code (⟨"java/lang/String", "equals", "(Ljava/lang/Object;)Z"⟩ : MethodName) jdk_42_method_66_code 3 (some .boolean)) ws ({ frames := 1, cells := 0, slots := 0, locals := 16 } : Room) #[(.ref a1), (.ref a2)] h0 (Q_rqs_22 Z a1 a2 va vb ka kb cs x0 x1 y0 y1 h0 n0) := by
  refine MetFree.of_bodySF (plainFor_of_name pn_12) hisR ?_
  intro p e s m args below meth c s₁ Bd hml0 hP hK
  obtain ⟨rfl, hZ, hh⟩ := hP
  have hx := Bd.exec
  have hby := Bd.bytes
  have hml : c.maxLocals = 3 := hml0
  have hown : s.vm.findClass "java/lang/String" = some m.cls := findClass_of_methodNamed Bd.named
  have hnm := (name_of_methodNamed Bd.named Bd.method).1
  have X0 : Stand p l e ({ frames := 1, cells := 0, slots := 0, locals := 16 } : Room) s m #[(.ref a1), (.ref a2)] below meth c s₁ [] 0 0 := Stand.of_body Bd
  have e0 : s₁.heap = h0 := by rw [← hh, Bd.state]; rfl
  have N0 := Fr.nil n0
  show Goes p e below (Fin s (Q_rqs_22 Z a1 a2 va vb ka kb cs x0 x1 y0 y1 h0 n0) ({ frames := 1, cells := 0, slots := 0, locals := 16 } : Room).cells ({ frames := 1, cells := 0, slots := 0, locals := 16 } : Room).slots) _
  refine Goes.via (S' := s₁.setTop (mkF m 0 #[.val (.ref a1), .val (.ref a2), .unset] [])) (fun tz kz => castTop (ef_12 m a1 a2 ) kz) ?_
  refine Goes.via (S' := s₁.setTop (mkF m 8 #[.val (.ref a1), .val (.ref a2), .unset] [(.ref a2)])) (fun tz kz => ?_) ?_
  · show Steps p.tables e below (s₁.setTop (mkF m 0 #[.val (.ref a1), .val (.ref a2), .unset] [])) _
    refine XS.aloadN X0.here hx rfl (hb hby d12_0) rfl rfl ?_
    refine XS.aloadN X0.here hx rfl (hb hby d12_1) rfl rfl ?_
    refine Jvm.RoadKit.acmp (g := (mkF m 2 #[.val (.ref a1), .val (.ref a2), .unset] [(.ref a2), (.ref a1)])) X0 hx rfl rfl rfl (pc0 := 2) (pc' := 7) (same := false) rfl (hb hby d12_2) rfl (decide_eq_false fun q => ne (Value.ref.inj q)) (by decide) (by decide) ?_
    refine XS.aloadN X0.here hx rfl (hb hby d12_7) rfl rfl ?_
    exact kz
  obtain ⟨T1, X1, e1, st1⟩ := instY X0 hx hZ hown (w_ hw 83 rfl) e0 (Ins.self SB.1) (g := (mkF m 8 #[.val (.ref a1), .val (.ref a2), .unset] [(.ref a2)])) rfl rfl (hb hby d12_8)
  refine Goes.via (S' := T1.setTop (mkF m 11 #[.val (.ref a1), .val (.ref a2), .unset] [(.int (1 : Int32))])) st1 ?_
  refine Goes.via (S' := T1.setTop (mkF m 15 #[.val (.ref a1), .val (.ref a2), .unset] [(.ref a2)])) (fun tz kz => ?_) ?_
  · show Steps p.tables e below (T1.setTop (mkF m 11 #[.val (.ref a1), .val (.ref a2), .unset] [(.int (1 : Int32))])) _
    refine XS.ifNo X1.here hx rfl (hb hby d12_11) rfl ((if0 _ _).trans (feq (by decide)).1) ?_
    refine XS.aloadN X1.here hx rfl (hb hby d12_14) rfl rfl ?_
    exact kz
  obtain ⟨T2, X2, e2, st2⟩ := castY X1 hx hZ hown (w_ hw 83 rfl) e1 (Ins.self SB.1) (g := (mkF m 15 #[.val (.ref a1), .val (.ref a2), .unset] [(.ref a2)])) rfl rfl (hb hby d12_15)
  refine Goes.via (S' := T2.setTop (mkF m 18 #[.val (.ref a1), .val (.ref a2), .unset] [(.ref a2)])) st2 ?_
  refine Goes.via (S' := T2.setTop (mkF m 19 #[.val (.ref a1), .val (.ref a2), .val (.ref a2)] [])) (fun tz kz => ?_) ?_
  · show Steps p.tables e below (T2.setTop (mkF m 18 #[.val (.ref a1), .val (.ref a2), .unset] [(.ref a2)])) _
    refine XS.astoreN X2.here hx rfl (hb hby d12_18) rfl rfl (l' := #[.val (.ref a1), .val (.ref a2), .val (.ref a2)]) rfl ?_
    exact kz
  obtain ⟨T3, X3, e3, st3⟩ := getS2 X2 hx hZ hown (host := "") (Or.inl (w_ hw 19 rfl)) Via.refl e2 (SC.ext O0.2) (g := (mkF m 19 #[.val (.ref a1), .val (.ref a2), .val (.ref a2)] [])) rfl (hb hby d12_19)
  refine Goes.via (S' := T3.setTop (mkF m 22 #[.val (.ref a1), .val (.ref a2), .val (.ref a2)] [(.int cs)])) st3 ?_
  refine Goes.via (S' := T3.setTop (mkF m 26 #[.val (.ref a1), .val (.ref a2), .val (.ref a2)] [(.ref a1)])) (fun tz kz => ?_) ?_
  · show Steps p.tables e below (T3.setTop (mkF m 22 #[.val (.ref a1), .val (.ref a2), .val (.ref a2)] [(.int cs)])) _
    refine XS.ifNo X3.here hx rfl (hb hby d12_22) rfl ((if0 _ _).trans (feq hcs).1) ?_
    refine XS.aloadN X3.here hx rfl (hb hby d12_25) rfl rfl ?_
    exact kz
  obtain ⟨T4, X4, e4, st4⟩ := getF X3 hx hZ hown (host := "") (Or.inl (w_ hw 31 rfl)) Via.refl e3 SA.2.1 (g := (mkF m 26 #[.val (.ref a1), .val (.ref a2), .val (.ref a2)] [(.ref a1)])) rfl rfl (hb hby d12_26)
  refine Goes.via (S' := T4.setTop (mkF m 29 #[.val (.ref a1), .val (.ref a2), .val (.ref a2)] [(.int (0 : Int32))])) st4 ?_
  refine Goes.via (S' := T4.setTop (mkF m 30 #[.val (.ref a1), .val (.ref a2), .val (.ref a2)] [(.ref a2), (.int (0 : Int32))])) (fun tz kz => ?_) ?_
  · show Steps p.tables e below (T4.setTop (mkF m 29 #[.val (.ref a1), .val (.ref a2), .val (.ref a2)] [(.int (0 : Int32))])) _
    refine XS.aloadN X4.here hx rfl (hb hby d12_29) rfl rfl ?_
    exact kz
  obtain ⟨T5, X5, e5, st5⟩ := getF X4 hx hZ hown (host := "") (Or.inl (w_ hw 31 rfl)) Via.refl e4 SB.2.1 (g := (mkF m 30 #[.val (.ref a1), .val (.ref a2), .val (.ref a2)] [(.ref a2), (.int (0 : Int32))])) rfl rfl (hb hby d12_30)
  refine Goes.via (S' := T5.setTop (mkF m 33 #[.val (.ref a1), .val (.ref a2), .val (.ref a2)] [(.int (0 : Int32)), (.int (0 : Int32))])) st5 ?_
  refine Goes.via (S' := T5.setTop (mkF m 37 #[.val (.ref a1), .val (.ref a2), .val (.ref a2)] [(.ref a1)])) (fun tz kz => ?_) ?_
  · show Steps p.tables e below (T5.setTop (mkF m 33 #[.val (.ref a1), .val (.ref a2), .val (.ref a2)] [(.int (0 : Int32)), (.int (0 : Int32))])) _
    refine XS.icmpNo X5.here hx rfl (hb hby d12_33) rfl (teq (by decide)).2 ?_
    refine XS.aloadN X5.here hx rfl (hb hby d12_36) rfl rfl ?_
    exact kz
  obtain ⟨T6, X6, e6, st6⟩ := getF X5 hx hZ hown (host := "") (Or.inl (w_ hw 33 rfl)) Via.refl e5 SA.2.2.1 (g := (mkF m 37 #[.val (.ref a1), .val (.ref a2), .val (.ref a2)] [(.ref a1)])) rfl rfl (hb hby d12_37)
  refine Goes.via (S' := T6.setTop (mkF m 40 #[.val (.ref a1), .val (.ref a2), .val (.ref a2)] [(.ref va)])) st6 ?_
  refine Goes.via (S' := T6.setTop (mkF m 41 #[.val (.ref a1), .val (.ref a2), .val (.ref a2)] [(.ref a2), (.ref va)])) (fun tz kz => ?_) ?_
  · show Steps p.tables e below (T6.setTop (mkF m 40 #[.val (.ref a1), .val (.ref a2), .val (.ref a2)] [(.ref va)])) _
    refine XS.aloadN X6.here hx rfl (hb hby d12_40) rfl rfl ?_
    exact kz
  obtain ⟨T7, X7, e7, st7⟩ := getF X6 hx hZ hown (host := "") (Or.inl (w_ hw 33 rfl)) Via.refl e6 SB.2.2.1 (g := (mkF m 41 #[.val (.ref a1), .val (.ref a2), .val (.ref a2)] [(.ref a2), (.ref va)])) rfl rfl (hb hby d12_41)
  refine Goes.via (S' := T7.setTop (mkF m 44 #[.val (.ref a1), .val (.ref a2), .val (.ref a2)] [(.ref vb), (.ref va)])) st7 ?_
  obtain ⟨_, _, ⟨T8, L8, k8, n8⟩, -, X8, ⟨Lc8, hQ8, l8, y8, z8⟩, st8⟩ := Jvm.LawKit.callS X7 hx (y := (⟨"java/lang/StringLatin1", "equals", "([B[B)Z"⟩ : MethodName)) hown (mvT hZ (w_ hw 84 rfl)) (mvT hZ (w_ hw 85 rfl)) (mvT hZ (w_ hw 86 rfl)) (mvT hZ (w_ hw 87 rfl)) (by decide) (backOf (W := 0) (req_22 l Z a0 hw [] va vb ka kb x0 x1 y0 y1 h0 n0 Z0 SA.2.2.2 SB.2.2.2) hZ (w_ hw 87 rfl) (w_ hw 86 rfl) (by decide) (by decide)) (g := (mkF m 44 #[.val (.ref a1), .val (.ref a2), .val (.ref a2)] [(.ref vb), (.ref va)])) rfl (by rw [hml]; rfl) (argsL := [(.ref va), (.ref vb)]) (rest := []) (lenOf pd_6 rfl) rfl (by show 2 * 0 + _ ≤ _; exact Nat.le_of_eq rfl) (hb hby d12_44) (fun _ _ => ⟨rfl, e7, (by decide : 0 + 0 ≤ _), (by decide : 0 + 0 ≤ _)⟩)
  dsimp only [Pt.U, Pt.locs, Pt.cells, Pt.slots] at X8 l8 y8 z8 st8 hQ8
  subst l8 y8 z8
  obtain ⟨rfl, N8, e8⟩ := hQ8
  have Nf8 := Fr.app N0 N8
  refine Goes.via (S' := T8.setTop (mkF m 47 #[.val (.ref a1), .val (.ref a2), .val (.ref a2)] [(.int (nar .boolean (own_eqb [x0, x1] [y0, y1])))])) (st8) ?_
  by_cases hc47_9 : (nar .boolean (own_eqb [x0, x1] [y0, y1])) = (0 : Int32)
  · refine Goes.via (S' := T8.setTop (mkF m 55 #[.val (.ref a1), .val (.ref a2), .val (.ref a2)] [(.int (0 : Int32))])) (fun tz kz => ?_) ?_
    · show Steps p.tables e below (T8.setTop (mkF m 47 #[.val (.ref a1), .val (.ref a2), .val (.ref a2)] [(.int (nar .boolean (own_eqb [x0, x1] [y0, y1])))])) _
      refine XS.ifYes X8.here hx rfl (pc0 := 47) (pc' := 54) rfl (hb hby d12_47) rfl ((if0 _ _).trans (teq hc47_9).1) (by decide) (by decide) ?_
      refine XS.iconst X8.here hx rfl (hb hby d12_54) ?_
      exact kz
    exact Goes.retN X8 hx Bd.notSynchronized (t := .boolean) Bd.returns (by simp) (hb hby d12_55) (Nat.le_of_ble_eq_true rfl) (Nat.le_of_ble_eq_true rfl) ⟨congrArg (fun z => some (Value.int z)) (own_eq0 hc47_9), Nf8, e8⟩
  · refine Goes.via (S' := T8.setTop (mkF m 55 #[.val (.ref a1), .val (.ref a2), .val (.ref a2)] [(.int (1 : Int32))])) (fun tz kz => ?_) ?_
    · show Steps p.tables e below (T8.setTop (mkF m 47 #[.val (.ref a1), .val (.ref a2), .val (.ref a2)] [(.int (nar .boolean (own_eqb [x0, x1] [y0, y1])))])) _
      refine XS.ifNo X8.here hx rfl (hb hby d12_47) rfl ((if0 _ _).trans (feq hc47_9).1) ?_
      refine XS.iconst X8.here hx rfl (hb hby d12_50) ?_
      refine XS.goto X8.here hx rfl (pc0 := 51) (pc' := 55) rfl (hb hby d12_51) (by decide) (by decide) ?_
      exact kz
    exact Goes.retN X8 hx Bd.notSynchronized (t := .boolean) Bd.returns (by simp) (hb hby d12_55) (Nat.le_of_ble_eq_true rfl) (Nat.le_of_ble_eq_true rfl) ⟨congrArg (fun z => some (Value.int z)) (own_eq1 hc47_9), Nf8, e8⟩
def Q_req_23 (Z : State) (ba : Addr) (bb : Addr) (ka kb : ClassId) (x0 x1 y0 y1 y2 : Int32) (h0 : Heap) (n0 : Nat) : Option Value → Heap → List Loc → Prop := fun v h L => v = some (.int (nar .boolean (own_eqb [x0, x1] [y0, y1, y2]))) ∧ Fr n0 L ∧ h = h0
set_option maxRecDepth 65536 in
set_option maxHeartbeats 40000000 in
theorem req_23 (l : Launch) (Z : State) (a0 : Array Value) (hw : ∀ d ∈ tables_1, d.before a0 Z = true) (ws : List Jvm.Cond) (ba : Addr) (bb : Addr) (ka kb : ClassId) (x0 x1 y0 y1 y2 : Int32) (h0 : Heap) (n0 : Nat) (Z0 : n0 ≤ h0.size) (A0 : Arv Z h0 ba ka .byte (2 : Int32) [.int x0, .int x1] (.int 0)) (B0 : Arv Z h0 bb kb .byte (3 : Int32) [.int y0, .int y1, .int y2] (.int 0)) :
    own_M l Z (⟨"java/lang/StringLatin1", "equals", "([B[B)Z"⟩ : MethodName) (Jvm.Cond.code (⟨"java/lang/StringLatin1", "equals", "([B[B)Z"⟩ : MethodName) jdk_43_method_13_code 3 (some .boolean)) ws ({ frames := 0, cells := 0, slots := 0, locals := 0 } : Room) #[(.ref ba), (.ref bb)] h0 (Q_req_23 Z ba bb ka kb x0 x1 y0 y1 y2 h0 n0) := by
  refine MetFree.of_bodySF (plainFor_of_name pn_13) hisR ?_
  intro p e s m args below meth c s₁ Bd hml0 hP hK
  obtain ⟨rfl, hZ, hh⟩ := hP
  have hx := Bd.exec
  have hby := Bd.bytes
  have hml : c.maxLocals = 3 := hml0
  have hown : s.vm.findClass "java/lang/StringLatin1" = some m.cls := findClass_of_methodNamed Bd.named
  have hnm := (name_of_methodNamed Bd.named Bd.method).1
  have X0 : Stand p l e ({ frames := 0, cells := 0, slots := 0, locals := 0 } : Room) s m #[(.ref ba), (.ref bb)] below meth c s₁ [] 0 0 := Stand.of_body Bd
  have e0 : s₁.heap = h0 := by rw [← hh, Bd.state]; rfl
  have N0 := Fr.nil n0
  show Goes p e below (Fin s (Q_req_23 Z ba bb ka kb x0 x1 y0 y1 y2 h0 n0) ({ frames := 0, cells := 0, slots := 0, locals := 0 } : Room).cells ({ frames := 0, cells := 0, slots := 0, locals := 0 } : Room).slots) _
  refine Goes.via (S' := s₁.setTop (mkF m 0 #[.val (.ref ba), .val (.ref bb), .unset] [])) (fun tz kz => castTop (ef_13 m ba bb ) kz) ?_
  refine Goes.via (S' := s₁.setTop (mkF m 1 #[.val (.ref ba), .val (.ref bb), .unset] [(.ref ba)])) (fun tz kz => ?_) ?_
  · show Steps p.tables e below (s₁.setTop (mkF m 0 #[.val (.ref ba), .val (.ref bb), .unset] [])) _
    refine XS.aloadN X0.here hx rfl (hb hby d13_0) rfl rfl ?_
    exact kz
  obtain ⟨cl1, Ar1, q1, Sz1, Nn1, Hs1, G1⟩ := (id A0)
  refine Goes.via (S' := s₁.setTop (mkF m 3 #[.val (.ref ba), .val (.ref bb), .unset] [(.ref bb), (.int (2 : Int32))])) (fun tz kz => ?_) ?_
  · show Steps p.tables e below (s₁.setTop (mkF m 1 #[.val (.ref ba), .val (.ref bb), .unset] [(.ref ba)])) _
    refine X0.arraylength hx (by rw [e0]; exact Ar1.1) (State.isArrayOf_alike hZ.alike Ar1.2.1) (g := (mkF m 1 #[.val (.ref ba), .val (.ref bb), .unset] [(.ref ba)])) rfl rfl (hb hby d13_1) _ ?_
    rw [len_of Sz1 Nn1]
    refine XS.aloadN X0.here hx rfl (hb hby d13_2) rfl rfl ?_
    exact kz
  obtain ⟨cl2, Ar2, q2, Sz2, Nn2, Hs2, G2⟩ := (id B0)
  refine Goes.via (S' := s₁.setTop (mkF m 35 #[.val (.ref ba), .val (.ref bb), .unset] [(.int (0 : Int32))])) (fun tz kz => ?_) ?_
  · show Steps p.tables e below (s₁.setTop (mkF m 3 #[.val (.ref ba), .val (.ref bb), .unset] [(.ref bb), (.int (2 : Int32))])) _
    refine X0.arraylength hx (by rw [e0]; exact Ar2.1) (State.isArrayOf_alike hZ.alike Ar2.2.1) (g := (mkF m 3 #[.val (.ref ba), .val (.ref bb), .unset] [(.ref bb), (.int (2 : Int32))])) rfl rfl (hb hby d13_3) _ ?_
    rw [len_of Sz2 Nn2]
    refine XS.icmpYes X0.here hx rfl (pc0 := 4) (pc' := 34) rfl (hb hby d13_4) rfl (feq (by decide)).2 (by decide) (by decide) ?_
    refine XS.iconst X0.here hx rfl (hb hby d13_34) ?_
    exact kz
  exact Goes.retN X0 hx Bd.notSynchronized (t := .boolean) Bd.returns (by simp) (hb hby d13_35) (Nat.le_of_ble_eq_true rfl) (Nat.le_of_ble_eq_true rfl) ⟨congrArg (fun z => some (Value.int z)) (by simp [own_eqb]), N0, e0⟩
def Q_rqs_23 (Z : State) (a1 : Addr) (a2 : Addr) (va vb : Addr) (ka kb : ClassId) (cs : Int32) (x0 x1 y0 y1 y2 : Int32) (h0 : Heap) (n0 : Nat) : Option Value → Heap → List Loc → Prop := fun v h L => v = some (.int (nar .boolean (own_eqb [x0, x1] [y0, y1, y2]))) ∧ Fr n0 L ∧ h = h0
set_option maxRecDepth 65536 in
set_option maxHeartbeats 40000000 in
theorem rqs_23 (l : Launch) (Z : State) (a0 : Array Value) (hw : ∀ d ∈ tables_1, d.before a0 Z = true) (ws : List Jvm.Cond) (a1 : Addr) (a2 : Addr) (va vb : Addr) (ka kb : ClassId) (cs : Int32) (x0 x1 y0 y1 y2 : Int32) (h0 : Heap) (n0 : Nat) (Z0 : n0 ≤ h0.size) (SC : Sta Z Z.heap "java/lang/String" "COMPACT_STRINGS" "Z" (.int cs)) (hcs : ¬ cs = (0 : Int32)) (O0 : Old Z n0 h0) (SA : own_Str Z h0 a1 va ka (2 : Int32) [.int x0, .int x1]) (SB : own_Str Z h0 a2 vb kb (3 : Int32) [.int y0, .int y1, .int y2]) (ne : a1 ≠ a2) :
    own_M l Z (⟨"java/lang/String", "equals", "(Ljava/lang/Object;)Z"⟩ : MethodName) (Jvm.Cond.code (⟨"java/lang/String", "equals", "(Ljava/lang/Object;)Z"⟩ : MethodName) jdk_42_method_66_code 3 (some .boolean)) ws ({ frames := 1, cells := 0, slots := 0, locals := 16 } : Room) #[(.ref a1), (.ref a2)] h0 (Q_rqs_23 Z a1 a2 va vb ka kb cs x0 x1 y0 y1 y2 h0 n0) := by
  refine MetFree.of_bodySF (plainFor_of_name pn_12) hisR ?_
  intro p e s m args below meth c s₁ Bd hml0 hP hK
  obtain ⟨rfl, hZ, hh⟩ := hP
  have hx := Bd.exec
  have hby := Bd.bytes
  have hml : c.maxLocals = 3 := hml0
  have hown : s.vm.findClass "java/lang/String" = some m.cls := findClass_of_methodNamed Bd.named
  have hnm := (name_of_methodNamed Bd.named Bd.method).1
  have X0 : Stand p l e ({ frames := 1, cells := 0, slots := 0, locals := 16 } : Room) s m #[(.ref a1), (.ref a2)] below meth c s₁ [] 0 0 := Stand.of_body Bd
  have e0 : s₁.heap = h0 := by rw [← hh, Bd.state]; rfl
  have N0 := Fr.nil n0
  show Goes p e below (Fin s (Q_rqs_23 Z a1 a2 va vb ka kb cs x0 x1 y0 y1 y2 h0 n0) ({ frames := 1, cells := 0, slots := 0, locals := 16 } : Room).cells ({ frames := 1, cells := 0, slots := 0, locals := 16 } : Room).slots) _
  refine Goes.via (S' := s₁.setTop (mkF m 0 #[.val (.ref a1), .val (.ref a2), .unset] [])) (fun tz kz => castTop (ef_12 m a1 a2 ) kz) ?_
  refine Goes.via (S' := s₁.setTop (mkF m 8 #[.val (.ref a1), .val (.ref a2), .unset] [(.ref a2)])) (fun tz kz => ?_) ?_
  · show Steps p.tables e below (s₁.setTop (mkF m 0 #[.val (.ref a1), .val (.ref a2), .unset] [])) _
    refine XS.aloadN X0.here hx rfl (hb hby d12_0) rfl rfl ?_
    refine XS.aloadN X0.here hx rfl (hb hby d12_1) rfl rfl ?_
    refine Jvm.RoadKit.acmp (g := (mkF m 2 #[.val (.ref a1), .val (.ref a2), .unset] [(.ref a2), (.ref a1)])) X0 hx rfl rfl rfl (pc0 := 2) (pc' := 7) (same := false) rfl (hb hby d12_2) rfl (decide_eq_false fun q => ne (Value.ref.inj q)) (by decide) (by decide) ?_
    refine XS.aloadN X0.here hx rfl (hb hby d12_7) rfl rfl ?_
    exact kz
  obtain ⟨T1, X1, e1, st1⟩ := instY X0 hx hZ hown (w_ hw 83 rfl) e0 (Ins.self SB.1) (g := (mkF m 8 #[.val (.ref a1), .val (.ref a2), .unset] [(.ref a2)])) rfl rfl (hb hby d12_8)
  refine Goes.via (S' := T1.setTop (mkF m 11 #[.val (.ref a1), .val (.ref a2), .unset] [(.int (1 : Int32))])) st1 ?_
  refine Goes.via (S' := T1.setTop (mkF m 15 #[.val (.ref a1), .val (.ref a2), .unset] [(.ref a2)])) (fun tz kz => ?_) ?_
  · show Steps p.tables e below (T1.setTop (mkF m 11 #[.val (.ref a1), .val (.ref a2), .unset] [(.int (1 : Int32))])) _
    refine XS.ifNo X1.here hx rfl (hb hby d12_11) rfl ((if0 _ _).trans (feq (by decide)).1) ?_
    refine XS.aloadN X1.here hx rfl (hb hby d12_14) rfl rfl ?_
    exact kz
  obtain ⟨T2, X2, e2, st2⟩ := castY X1 hx hZ hown (w_ hw 83 rfl) e1 (Ins.self SB.1) (g := (mkF m 15 #[.val (.ref a1), .val (.ref a2), .unset] [(.ref a2)])) rfl rfl (hb hby d12_15)
  refine Goes.via (S' := T2.setTop (mkF m 18 #[.val (.ref a1), .val (.ref a2), .unset] [(.ref a2)])) st2 ?_
  refine Goes.via (S' := T2.setTop (mkF m 19 #[.val (.ref a1), .val (.ref a2), .val (.ref a2)] [])) (fun tz kz => ?_) ?_
  · show Steps p.tables e below (T2.setTop (mkF m 18 #[.val (.ref a1), .val (.ref a2), .unset] [(.ref a2)])) _
    refine XS.astoreN X2.here hx rfl (hb hby d12_18) rfl rfl (l' := #[.val (.ref a1), .val (.ref a2), .val (.ref a2)]) rfl ?_
    exact kz
  obtain ⟨T3, X3, e3, st3⟩ := getS2 X2 hx hZ hown (host := "") (Or.inl (w_ hw 19 rfl)) Via.refl e2 (SC.ext O0.2) (g := (mkF m 19 #[.val (.ref a1), .val (.ref a2), .val (.ref a2)] [])) rfl (hb hby d12_19)
  refine Goes.via (S' := T3.setTop (mkF m 22 #[.val (.ref a1), .val (.ref a2), .val (.ref a2)] [(.int cs)])) st3 ?_
  refine Goes.via (S' := T3.setTop (mkF m 26 #[.val (.ref a1), .val (.ref a2), .val (.ref a2)] [(.ref a1)])) (fun tz kz => ?_) ?_
  · show Steps p.tables e below (T3.setTop (mkF m 22 #[.val (.ref a1), .val (.ref a2), .val (.ref a2)] [(.int cs)])) _
    refine XS.ifNo X3.here hx rfl (hb hby d12_22) rfl ((if0 _ _).trans (feq hcs).1) ?_
    refine XS.aloadN X3.here hx rfl (hb hby d12_25) rfl rfl ?_
    exact kz
  obtain ⟨T4, X4, e4, st4⟩ := getF X3 hx hZ hown (host := "") (Or.inl (w_ hw 31 rfl)) Via.refl e3 SA.2.1 (g := (mkF m 26 #[.val (.ref a1), .val (.ref a2), .val (.ref a2)] [(.ref a1)])) rfl rfl (hb hby d12_26)
  refine Goes.via (S' := T4.setTop (mkF m 29 #[.val (.ref a1), .val (.ref a2), .val (.ref a2)] [(.int (0 : Int32))])) st4 ?_
  refine Goes.via (S' := T4.setTop (mkF m 30 #[.val (.ref a1), .val (.ref a2), .val (.ref a2)] [(.ref a2), (.int (0 : Int32))])) (fun tz kz => ?_) ?_
  · show Steps p.tables e below (T4.setTop (mkF m 29 #[.val (.ref a1), .val (.ref a2), .val (.ref a2)] [(.int (0 : Int32))])) _
    refine XS.aloadN X4.here hx rfl (hb hby d12_29) rfl rfl ?_
    exact kz
  obtain ⟨T5, X5, e5, st5⟩ := getF X4 hx hZ hown (host := "") (Or.inl (w_ hw 31 rfl)) Via.refl e4 SB.2.1 (g := (mkF m 30 #[.val (.ref a1), .val (.ref a2), .val (.ref a2)] [(.ref a2), (.int (0 : Int32))])) rfl rfl (hb hby d12_30)
  refine Goes.via (S' := T5.setTop (mkF m 33 #[.val (.ref a1), .val (.ref a2), .val (.ref a2)] [(.int (0 : Int32)), (.int (0 : Int32))])) st5 ?_
  refine Goes.via (S' := T5.setTop (mkF m 37 #[.val (.ref a1), .val (.ref a2), .val (.ref a2)] [(.ref a1)])) (fun tz kz => ?_) ?_
  · show Steps p.tables e below (T5.setTop (mkF m 33 #[.val (.ref a1), .val (.ref a2), .val (.ref a2)] [(.int (0 : Int32)), (.int (0 : Int32))])) _
    refine XS.icmpNo X5.here hx rfl (hb hby d12_33) rfl (teq (by decide)).2 ?_
    refine XS.aloadN X5.here hx rfl (hb hby d12_36) rfl rfl ?_
    exact kz
  obtain ⟨T6, X6, e6, st6⟩ := getF X5 hx hZ hown (host := "") (Or.inl (w_ hw 33 rfl)) Via.refl e5 SA.2.2.1 (g := (mkF m 37 #[.val (.ref a1), .val (.ref a2), .val (.ref a2)] [(.ref a1)])) rfl rfl (hb hby d12_37)
  refine Goes.via (S' := T6.setTop (mkF m 40 #[.val (.ref a1), .val (.ref a2), .val (.ref a2)] [(.ref va)])) st6 ?_
  refine Goes.via (S' := T6.setTop (mkF m 41 #[.val (.ref a1), .val (.ref a2), .val (.ref a2)] [(.ref a2), (.ref va)])) (fun tz kz => ?_) ?_
  · show Steps p.tables e below (T6.setTop (mkF m 40 #[.val (.ref a1), .val (.ref a2), .val (.ref a2)] [(.ref va)])) _
    refine XS.aloadN X6.here hx rfl (hb hby d12_40) rfl rfl ?_
    exact kz
  obtain ⟨T7, X7, e7, st7⟩ := getF X6 hx hZ hown (host := "") (Or.inl (w_ hw 33 rfl)) Via.refl e6 SB.2.2.1 (g := (mkF m 41 #[.val (.ref a1), .val (.ref a2), .val (.ref a2)] [(.ref a2), (.ref va)])) rfl rfl (hb hby d12_41)
  refine Goes.via (S' := T7.setTop (mkF m 44 #[.val (.ref a1), .val (.ref a2), .val (.ref a2)] [(.ref vb), (.ref va)])) st7 ?_
  obtain ⟨_, _, ⟨T8, L8, k8, n8⟩, -, X8, ⟨Lc8, hQ8, l8, y8, z8⟩, st8⟩ := Jvm.LawKit.callS X7 hx (y := (⟨"java/lang/StringLatin1", "equals", "([B[B)Z"⟩ : MethodName)) hown (mvT hZ (w_ hw 84 rfl)) (mvT hZ (w_ hw 85 rfl)) (mvT hZ (w_ hw 86 rfl)) (mvT hZ (w_ hw 87 rfl)) (by decide) (backOf (W := 0) (req_23 l Z a0 hw [] va vb ka kb x0 x1 y0 y1 y2 h0 n0 Z0 SA.2.2.2 SB.2.2.2) hZ (w_ hw 87 rfl) (w_ hw 86 rfl) (by decide) (by decide)) (g := (mkF m 44 #[.val (.ref a1), .val (.ref a2), .val (.ref a2)] [(.ref vb), (.ref va)])) rfl (by rw [hml]; rfl) (argsL := [(.ref va), (.ref vb)]) (rest := []) (lenOf pd_6 rfl) rfl (by show 2 * 0 + _ ≤ _; exact Nat.le_of_eq rfl) (hb hby d12_44) (fun _ _ => ⟨rfl, e7, (by decide : 0 + 0 ≤ _), (by decide : 0 + 0 ≤ _)⟩)
  dsimp only [Pt.U, Pt.locs, Pt.cells, Pt.slots] at X8 l8 y8 z8 st8 hQ8
  subst l8 y8 z8
  obtain ⟨rfl, N8, e8⟩ := hQ8
  have Nf8 := Fr.app N0 N8
  refine Goes.via (S' := T8.setTop (mkF m 47 #[.val (.ref a1), .val (.ref a2), .val (.ref a2)] [(.int (nar .boolean (own_eqb [x0, x1] [y0, y1, y2])))])) (st8) ?_
  by_cases hc47_9 : (nar .boolean (own_eqb [x0, x1] [y0, y1, y2])) = (0 : Int32)
  · refine Goes.via (S' := T8.setTop (mkF m 55 #[.val (.ref a1), .val (.ref a2), .val (.ref a2)] [(.int (0 : Int32))])) (fun tz kz => ?_) ?_
    · show Steps p.tables e below (T8.setTop (mkF m 47 #[.val (.ref a1), .val (.ref a2), .val (.ref a2)] [(.int (nar .boolean (own_eqb [x0, x1] [y0, y1, y2])))])) _
      refine XS.ifYes X8.here hx rfl (pc0 := 47) (pc' := 54) rfl (hb hby d12_47) rfl ((if0 _ _).trans (teq hc47_9).1) (by decide) (by decide) ?_
      refine XS.iconst X8.here hx rfl (hb hby d12_54) ?_
      exact kz
    exact Goes.retN X8 hx Bd.notSynchronized (t := .boolean) Bd.returns (by simp) (hb hby d12_55) (Nat.le_of_ble_eq_true rfl) (Nat.le_of_ble_eq_true rfl) ⟨congrArg (fun z => some (Value.int z)) (own_eq0 hc47_9), Nf8, e8⟩
  · refine Goes.via (S' := T8.setTop (mkF m 55 #[.val (.ref a1), .val (.ref a2), .val (.ref a2)] [(.int (1 : Int32))])) (fun tz kz => ?_) ?_
    · show Steps p.tables e below (T8.setTop (mkF m 47 #[.val (.ref a1), .val (.ref a2), .val (.ref a2)] [(.int (nar .boolean (own_eqb [x0, x1] [y0, y1, y2])))])) _
      refine XS.ifNo X8.here hx rfl (hb hby d12_47) rfl ((if0 _ _).trans (feq hc47_9).1) ?_
      refine XS.iconst X8.here hx rfl (hb hby d12_50) ?_
      refine XS.goto X8.here hx rfl (pc0 := 51) (pc' := 55) rfl (hb hby d12_51) (by decide) (by decide) ?_
      exact kz
    exact Goes.retN X8 hx Bd.notSynchronized (t := .boolean) Bd.returns (by simp) (hb hby d12_55) (Nat.le_of_ble_eq_true rfl) (Nat.le_of_ble_eq_true rfl) ⟨congrArg (fun z => some (Value.int z)) (own_eq1 hc47_9), Nf8, e8⟩
def Q_req_30 (Z : State) (ba : Addr) (bb : Addr) (ka kb : ClassId) (x0 x1 x2 : Int32) (h0 : Heap) (n0 : Nat) : Option Value → Heap → List Loc → Prop := fun v h L => v = some (.int (nar .boolean (own_eqb [x0, x1, x2] []))) ∧ Fr n0 L ∧ h = h0
set_option maxRecDepth 65536 in
set_option maxHeartbeats 40000000 in
theorem req_30 (l : Launch) (Z : State) (a0 : Array Value) (hw : ∀ d ∈ tables_1, d.before a0 Z = true) (ws : List Jvm.Cond) (ba : Addr) (bb : Addr) (ka kb : ClassId) (x0 x1 x2 : Int32) (h0 : Heap) (n0 : Nat) (Z0 : n0 ≤ h0.size) (A0 : Arv Z h0 ba ka .byte (3 : Int32) [.int x0, .int x1, .int x2] (.int 0)) (B0 : Arv Z h0 bb kb .byte (0 : Int32) [] (.int 0)) :
    own_M l Z (⟨"java/lang/StringLatin1", "equals", "([B[B)Z"⟩ : MethodName) (Jvm.Cond.code (⟨"java/lang/StringLatin1", "equals", "([B[B)Z"⟩ : MethodName) jdk_43_method_13_code 3 (some .boolean)) ws ({ frames := 0, cells := 0, slots := 0, locals := 0 } : Room) #[(.ref ba), (.ref bb)] h0 (Q_req_30 Z ba bb ka kb x0 x1 x2 h0 n0) := by
  refine MetFree.of_bodySF (plainFor_of_name pn_13) hisR ?_
  intro p e s m args below meth c s₁ Bd hml0 hP hK
  obtain ⟨rfl, hZ, hh⟩ := hP
  have hx := Bd.exec
  have hby := Bd.bytes
  have hml : c.maxLocals = 3 := hml0
  have hown : s.vm.findClass "java/lang/StringLatin1" = some m.cls := findClass_of_methodNamed Bd.named
  have hnm := (name_of_methodNamed Bd.named Bd.method).1
  have X0 : Stand p l e ({ frames := 0, cells := 0, slots := 0, locals := 0 } : Room) s m #[(.ref ba), (.ref bb)] below meth c s₁ [] 0 0 := Stand.of_body Bd
  have e0 : s₁.heap = h0 := by rw [← hh, Bd.state]; rfl
  have N0 := Fr.nil n0
  show Goes p e below (Fin s (Q_req_30 Z ba bb ka kb x0 x1 x2 h0 n0) ({ frames := 0, cells := 0, slots := 0, locals := 0 } : Room).cells ({ frames := 0, cells := 0, slots := 0, locals := 0 } : Room).slots) _
  refine Goes.via (S' := s₁.setTop (mkF m 0 #[.val (.ref ba), .val (.ref bb), .unset] [])) (fun tz kz => castTop (ef_13 m ba bb ) kz) ?_
  refine Goes.via (S' := s₁.setTop (mkF m 1 #[.val (.ref ba), .val (.ref bb), .unset] [(.ref ba)])) (fun tz kz => ?_) ?_
  · show Steps p.tables e below (s₁.setTop (mkF m 0 #[.val (.ref ba), .val (.ref bb), .unset] [])) _
    refine XS.aloadN X0.here hx rfl (hb hby d13_0) rfl rfl ?_
    exact kz
  obtain ⟨cl1, Ar1, q1, Sz1, Nn1, Hs1, G1⟩ := (id A0)
  refine Goes.via (S' := s₁.setTop (mkF m 3 #[.val (.ref ba), .val (.ref bb), .unset] [(.ref bb), (.int (3 : Int32))])) (fun tz kz => ?_) ?_
  · show Steps p.tables e below (s₁.setTop (mkF m 1 #[.val (.ref ba), .val (.ref bb), .unset] [(.ref ba)])) _
    refine X0.arraylength hx (by rw [e0]; exact Ar1.1) (State.isArrayOf_alike hZ.alike Ar1.2.1) (g := (mkF m 1 #[.val (.ref ba), .val (.ref bb), .unset] [(.ref ba)])) rfl rfl (hb hby d13_1) _ ?_
    rw [len_of Sz1 Nn1]
    refine XS.aloadN X0.here hx rfl (hb hby d13_2) rfl rfl ?_
    exact kz
  obtain ⟨cl2, Ar2, q2, Sz2, Nn2, Hs2, G2⟩ := (id B0)
  refine Goes.via (S' := s₁.setTop (mkF m 35 #[.val (.ref ba), .val (.ref bb), .unset] [(.int (0 : Int32))])) (fun tz kz => ?_) ?_
  · show Steps p.tables e below (s₁.setTop (mkF m 3 #[.val (.ref ba), .val (.ref bb), .unset] [(.ref bb), (.int (3 : Int32))])) _
    refine X0.arraylength hx (by rw [e0]; exact Ar2.1) (State.isArrayOf_alike hZ.alike Ar2.2.1) (g := (mkF m 3 #[.val (.ref ba), .val (.ref bb), .unset] [(.ref bb), (.int (3 : Int32))])) rfl rfl (hb hby d13_3) _ ?_
    rw [len_of Sz2 Nn2]
    refine XS.icmpYes X0.here hx rfl (pc0 := 4) (pc' := 34) rfl (hb hby d13_4) rfl (feq (by decide)).2 (by decide) (by decide) ?_
    refine XS.iconst X0.here hx rfl (hb hby d13_34) ?_
    exact kz
  exact Goes.retN X0 hx Bd.notSynchronized (t := .boolean) Bd.returns (by simp) (hb hby d13_35) (Nat.le_of_ble_eq_true rfl) (Nat.le_of_ble_eq_true rfl) ⟨congrArg (fun z => some (Value.int z)) (by simp [own_eqb]), N0, e0⟩
def Q_rqs_30 (Z : State) (a1 : Addr) (a2 : Addr) (va vb : Addr) (ka kb : ClassId) (cs : Int32) (x0 x1 x2 : Int32) (h0 : Heap) (n0 : Nat) : Option Value → Heap → List Loc → Prop := fun v h L => v = some (.int (nar .boolean (own_eqb [x0, x1, x2] []))) ∧ Fr n0 L ∧ h = h0
set_option maxRecDepth 65536 in
set_option maxHeartbeats 40000000 in
theorem rqs_30 (l : Launch) (Z : State) (a0 : Array Value) (hw : ∀ d ∈ tables_1, d.before a0 Z = true) (ws : List Jvm.Cond) (a1 : Addr) (a2 : Addr) (va vb : Addr) (ka kb : ClassId) (cs : Int32) (x0 x1 x2 : Int32) (h0 : Heap) (n0 : Nat) (Z0 : n0 ≤ h0.size) (SC : Sta Z Z.heap "java/lang/String" "COMPACT_STRINGS" "Z" (.int cs)) (hcs : ¬ cs = (0 : Int32)) (O0 : Old Z n0 h0) (SA : own_Str Z h0 a1 va ka (3 : Int32) [.int x0, .int x1, .int x2]) (SB : own_Str Z h0 a2 vb kb (0 : Int32) []) (ne : a1 ≠ a2) :
    own_M l Z (⟨"java/lang/String", "equals", "(Ljava/lang/Object;)Z"⟩ : MethodName) (Jvm.Cond.code (⟨"java/lang/String", "equals", "(Ljava/lang/Object;)Z"⟩ : MethodName) jdk_42_method_66_code 3 (some .boolean)) ws ({ frames := 1, cells := 0, slots := 0, locals := 16 } : Room) #[(.ref a1), (.ref a2)] h0 (Q_rqs_30 Z a1 a2 va vb ka kb cs x0 x1 x2 h0 n0) := by
  refine MetFree.of_bodySF (plainFor_of_name pn_12) hisR ?_
  intro p e s m args below meth c s₁ Bd hml0 hP hK
  obtain ⟨rfl, hZ, hh⟩ := hP
  have hx := Bd.exec
  have hby := Bd.bytes
  have hml : c.maxLocals = 3 := hml0
  have hown : s.vm.findClass "java/lang/String" = some m.cls := findClass_of_methodNamed Bd.named
  have hnm := (name_of_methodNamed Bd.named Bd.method).1
  have X0 : Stand p l e ({ frames := 1, cells := 0, slots := 0, locals := 16 } : Room) s m #[(.ref a1), (.ref a2)] below meth c s₁ [] 0 0 := Stand.of_body Bd
  have e0 : s₁.heap = h0 := by rw [← hh, Bd.state]; rfl
  have N0 := Fr.nil n0
  show Goes p e below (Fin s (Q_rqs_30 Z a1 a2 va vb ka kb cs x0 x1 x2 h0 n0) ({ frames := 1, cells := 0, slots := 0, locals := 16 } : Room).cells ({ frames := 1, cells := 0, slots := 0, locals := 16 } : Room).slots) _
  refine Goes.via (S' := s₁.setTop (mkF m 0 #[.val (.ref a1), .val (.ref a2), .unset] [])) (fun tz kz => castTop (ef_12 m a1 a2 ) kz) ?_
  refine Goes.via (S' := s₁.setTop (mkF m 8 #[.val (.ref a1), .val (.ref a2), .unset] [(.ref a2)])) (fun tz kz => ?_) ?_
  · show Steps p.tables e below (s₁.setTop (mkF m 0 #[.val (.ref a1), .val (.ref a2), .unset] [])) _
    refine XS.aloadN X0.here hx rfl (hb hby d12_0) rfl rfl ?_
    refine XS.aloadN X0.here hx rfl (hb hby d12_1) rfl rfl ?_
    refine Jvm.RoadKit.acmp (g := (mkF m 2 #[.val (.ref a1), .val (.ref a2), .unset] [(.ref a2), (.ref a1)])) X0 hx rfl rfl rfl (pc0 := 2) (pc' := 7) (same := false) rfl (hb hby d12_2) rfl (decide_eq_false fun q => ne (Value.ref.inj q)) (by decide) (by decide) ?_
    refine XS.aloadN X0.here hx rfl (hb hby d12_7) rfl rfl ?_
    exact kz
  obtain ⟨T1, X1, e1, st1⟩ := instY X0 hx hZ hown (w_ hw 83 rfl) e0 (Ins.self SB.1) (g := (mkF m 8 #[.val (.ref a1), .val (.ref a2), .unset] [(.ref a2)])) rfl rfl (hb hby d12_8)
  refine Goes.via (S' := T1.setTop (mkF m 11 #[.val (.ref a1), .val (.ref a2), .unset] [(.int (1 : Int32))])) st1 ?_
  refine Goes.via (S' := T1.setTop (mkF m 15 #[.val (.ref a1), .val (.ref a2), .unset] [(.ref a2)])) (fun tz kz => ?_) ?_
  · show Steps p.tables e below (T1.setTop (mkF m 11 #[.val (.ref a1), .val (.ref a2), .unset] [(.int (1 : Int32))])) _
    refine XS.ifNo X1.here hx rfl (hb hby d12_11) rfl ((if0 _ _).trans (feq (by decide)).1) ?_
    refine XS.aloadN X1.here hx rfl (hb hby d12_14) rfl rfl ?_
    exact kz
  obtain ⟨T2, X2, e2, st2⟩ := castY X1 hx hZ hown (w_ hw 83 rfl) e1 (Ins.self SB.1) (g := (mkF m 15 #[.val (.ref a1), .val (.ref a2), .unset] [(.ref a2)])) rfl rfl (hb hby d12_15)
  refine Goes.via (S' := T2.setTop (mkF m 18 #[.val (.ref a1), .val (.ref a2), .unset] [(.ref a2)])) st2 ?_
  refine Goes.via (S' := T2.setTop (mkF m 19 #[.val (.ref a1), .val (.ref a2), .val (.ref a2)] [])) (fun tz kz => ?_) ?_
  · show Steps p.tables e below (T2.setTop (mkF m 18 #[.val (.ref a1), .val (.ref a2), .unset] [(.ref a2)])) _
    refine XS.astoreN X2.here hx rfl (hb hby d12_18) rfl rfl (l' := #[.val (.ref a1), .val (.ref a2), .val (.ref a2)]) rfl ?_
    exact kz
  obtain ⟨T3, X3, e3, st3⟩ := getS2 X2 hx hZ hown (host := "") (Or.inl (w_ hw 19 rfl)) Via.refl e2 (SC.ext O0.2) (g := (mkF m 19 #[.val (.ref a1), .val (.ref a2), .val (.ref a2)] [])) rfl (hb hby d12_19)
  refine Goes.via (S' := T3.setTop (mkF m 22 #[.val (.ref a1), .val (.ref a2), .val (.ref a2)] [(.int cs)])) st3 ?_
  refine Goes.via (S' := T3.setTop (mkF m 26 #[.val (.ref a1), .val (.ref a2), .val (.ref a2)] [(.ref a1)])) (fun tz kz => ?_) ?_
  · show Steps p.tables e below (T3.setTop (mkF m 22 #[.val (.ref a1), .val (.ref a2), .val (.ref a2)] [(.int cs)])) _
    refine XS.ifNo X3.here hx rfl (hb hby d12_22) rfl ((if0 _ _).trans (feq hcs).1) ?_
    refine XS.aloadN X3.here hx rfl (hb hby d12_25) rfl rfl ?_
    exact kz
  obtain ⟨T4, X4, e4, st4⟩ := getF X3 hx hZ hown (host := "") (Or.inl (w_ hw 31 rfl)) Via.refl e3 SA.2.1 (g := (mkF m 26 #[.val (.ref a1), .val (.ref a2), .val (.ref a2)] [(.ref a1)])) rfl rfl (hb hby d12_26)
  refine Goes.via (S' := T4.setTop (mkF m 29 #[.val (.ref a1), .val (.ref a2), .val (.ref a2)] [(.int (0 : Int32))])) st4 ?_
  refine Goes.via (S' := T4.setTop (mkF m 30 #[.val (.ref a1), .val (.ref a2), .val (.ref a2)] [(.ref a2), (.int (0 : Int32))])) (fun tz kz => ?_) ?_
  · show Steps p.tables e below (T4.setTop (mkF m 29 #[.val (.ref a1), .val (.ref a2), .val (.ref a2)] [(.int (0 : Int32))])) _
    refine XS.aloadN X4.here hx rfl (hb hby d12_29) rfl rfl ?_
    exact kz
  obtain ⟨T5, X5, e5, st5⟩ := getF X4 hx hZ hown (host := "") (Or.inl (w_ hw 31 rfl)) Via.refl e4 SB.2.1 (g := (mkF m 30 #[.val (.ref a1), .val (.ref a2), .val (.ref a2)] [(.ref a2), (.int (0 : Int32))])) rfl rfl (hb hby d12_30)
  refine Goes.via (S' := T5.setTop (mkF m 33 #[.val (.ref a1), .val (.ref a2), .val (.ref a2)] [(.int (0 : Int32)), (.int (0 : Int32))])) st5 ?_
  refine Goes.via (S' := T5.setTop (mkF m 37 #[.val (.ref a1), .val (.ref a2), .val (.ref a2)] [(.ref a1)])) (fun tz kz => ?_) ?_
  · show Steps p.tables e below (T5.setTop (mkF m 33 #[.val (.ref a1), .val (.ref a2), .val (.ref a2)] [(.int (0 : Int32)), (.int (0 : Int32))])) _
    refine XS.icmpNo X5.here hx rfl (hb hby d12_33) rfl (teq (by decide)).2 ?_
    refine XS.aloadN X5.here hx rfl (hb hby d12_36) rfl rfl ?_
    exact kz
  obtain ⟨T6, X6, e6, st6⟩ := getF X5 hx hZ hown (host := "") (Or.inl (w_ hw 33 rfl)) Via.refl e5 SA.2.2.1 (g := (mkF m 37 #[.val (.ref a1), .val (.ref a2), .val (.ref a2)] [(.ref a1)])) rfl rfl (hb hby d12_37)
  refine Goes.via (S' := T6.setTop (mkF m 40 #[.val (.ref a1), .val (.ref a2), .val (.ref a2)] [(.ref va)])) st6 ?_
  refine Goes.via (S' := T6.setTop (mkF m 41 #[.val (.ref a1), .val (.ref a2), .val (.ref a2)] [(.ref a2), (.ref va)])) (fun tz kz => ?_) ?_
  · show Steps p.tables e below (T6.setTop (mkF m 40 #[.val (.ref a1), .val (.ref a2), .val (.ref a2)] [(.ref va)])) _
    refine XS.aloadN X6.here hx rfl (hb hby d12_40) rfl rfl ?_
    exact kz
  obtain ⟨T7, X7, e7, st7⟩ := getF X6 hx hZ hown (host := "") (Or.inl (w_ hw 33 rfl)) Via.refl e6 SB.2.2.1 (g := (mkF m 41 #[.val (.ref a1), .val (.ref a2), .val (.ref a2)] [(.ref a2), (.ref va)])) rfl rfl (hb hby d12_41)
  refine Goes.via (S' := T7.setTop (mkF m 44 #[.val (.ref a1), .val (.ref a2), .val (.ref a2)] [(.ref vb), (.ref va)])) st7 ?_
  obtain ⟨_, _, ⟨T8, L8, k8, n8⟩, -, X8, ⟨Lc8, hQ8, l8, y8, z8⟩, st8⟩ := Jvm.LawKit.callS X7 hx (y := (⟨"java/lang/StringLatin1", "equals", "([B[B)Z"⟩ : MethodName)) hown (mvT hZ (w_ hw 84 rfl)) (mvT hZ (w_ hw 85 rfl)) (mvT hZ (w_ hw 86 rfl)) (mvT hZ (w_ hw 87 rfl)) (by decide) (backOf (W := 0) (req_30 l Z a0 hw [] va vb ka kb x0 x1 x2 h0 n0 Z0 SA.2.2.2 SB.2.2.2) hZ (w_ hw 87 rfl) (w_ hw 86 rfl) (by decide) (by decide)) (g := (mkF m 44 #[.val (.ref a1), .val (.ref a2), .val (.ref a2)] [(.ref vb), (.ref va)])) rfl (by rw [hml]; rfl) (argsL := [(.ref va), (.ref vb)]) (rest := []) (lenOf pd_6 rfl) rfl (by show 2 * 0 + _ ≤ _; exact Nat.le_of_eq rfl) (hb hby d12_44) (fun _ _ => ⟨rfl, e7, (by decide : 0 + 0 ≤ _), (by decide : 0 + 0 ≤ _)⟩)
  dsimp only [Pt.U, Pt.locs, Pt.cells, Pt.slots] at X8 l8 y8 z8 st8 hQ8
  subst l8 y8 z8
  obtain ⟨rfl, N8, e8⟩ := hQ8
  have Nf8 := Fr.app N0 N8
  refine Goes.via (S' := T8.setTop (mkF m 47 #[.val (.ref a1), .val (.ref a2), .val (.ref a2)] [(.int (nar .boolean (own_eqb [x0, x1, x2] [])))])) (st8) ?_
  by_cases hc47_9 : (nar .boolean (own_eqb [x0, x1, x2] [])) = (0 : Int32)
  · refine Goes.via (S' := T8.setTop (mkF m 55 #[.val (.ref a1), .val (.ref a2), .val (.ref a2)] [(.int (0 : Int32))])) (fun tz kz => ?_) ?_
    · show Steps p.tables e below (T8.setTop (mkF m 47 #[.val (.ref a1), .val (.ref a2), .val (.ref a2)] [(.int (nar .boolean (own_eqb [x0, x1, x2] [])))])) _
      refine XS.ifYes X8.here hx rfl (pc0 := 47) (pc' := 54) rfl (hb hby d12_47) rfl ((if0 _ _).trans (teq hc47_9).1) (by decide) (by decide) ?_
      refine XS.iconst X8.here hx rfl (hb hby d12_54) ?_
      exact kz
    exact Goes.retN X8 hx Bd.notSynchronized (t := .boolean) Bd.returns (by simp) (hb hby d12_55) (Nat.le_of_ble_eq_true rfl) (Nat.le_of_ble_eq_true rfl) ⟨congrArg (fun z => some (Value.int z)) (own_eq0 hc47_9), Nf8, e8⟩
  · refine Goes.via (S' := T8.setTop (mkF m 55 #[.val (.ref a1), .val (.ref a2), .val (.ref a2)] [(.int (1 : Int32))])) (fun tz kz => ?_) ?_
    · show Steps p.tables e below (T8.setTop (mkF m 47 #[.val (.ref a1), .val (.ref a2), .val (.ref a2)] [(.int (nar .boolean (own_eqb [x0, x1, x2] [])))])) _
      refine XS.ifNo X8.here hx rfl (hb hby d12_47) rfl ((if0 _ _).trans (feq hc47_9).1) ?_
      refine XS.iconst X8.here hx rfl (hb hby d12_50) ?_
      refine XS.goto X8.here hx rfl (pc0 := 51) (pc' := 55) rfl (hb hby d12_51) (by decide) (by decide) ?_
      exact kz
    exact Goes.retN X8 hx Bd.notSynchronized (t := .boolean) Bd.returns (by simp) (hb hby d12_55) (Nat.le_of_ble_eq_true rfl) (Nat.le_of_ble_eq_true rfl) ⟨congrArg (fun z => some (Value.int z)) (own_eq1 hc47_9), Nf8, e8⟩
def Q_req_31 (Z : State) (ba : Addr) (bb : Addr) (ka kb : ClassId) (x0 x1 x2 y0 : Int32) (h0 : Heap) (n0 : Nat) : Option Value → Heap → List Loc → Prop := fun v h L => v = some (.int (nar .boolean (own_eqb [x0, x1, x2] [y0]))) ∧ Fr n0 L ∧ h = h0
set_option maxRecDepth 65536 in
set_option maxHeartbeats 40000000 in
theorem req_31 (l : Launch) (Z : State) (a0 : Array Value) (hw : ∀ d ∈ tables_1, d.before a0 Z = true) (ws : List Jvm.Cond) (ba : Addr) (bb : Addr) (ka kb : ClassId) (x0 x1 x2 y0 : Int32) (h0 : Heap) (n0 : Nat) (Z0 : n0 ≤ h0.size) (A0 : Arv Z h0 ba ka .byte (3 : Int32) [.int x0, .int x1, .int x2] (.int 0)) (B0 : Arv Z h0 bb kb .byte (1 : Int32) [.int y0] (.int 0)) :
    own_M l Z (⟨"java/lang/StringLatin1", "equals", "([B[B)Z"⟩ : MethodName) (Jvm.Cond.code (⟨"java/lang/StringLatin1", "equals", "([B[B)Z"⟩ : MethodName) jdk_43_method_13_code 3 (some .boolean)) ws ({ frames := 0, cells := 0, slots := 0, locals := 0 } : Room) #[(.ref ba), (.ref bb)] h0 (Q_req_31 Z ba bb ka kb x0 x1 x2 y0 h0 n0) := by
  refine MetFree.of_bodySF (plainFor_of_name pn_13) hisR ?_
  intro p e s m args below meth c s₁ Bd hml0 hP hK
  obtain ⟨rfl, hZ, hh⟩ := hP
  have hx := Bd.exec
  have hby := Bd.bytes
  have hml : c.maxLocals = 3 := hml0
  have hown : s.vm.findClass "java/lang/StringLatin1" = some m.cls := findClass_of_methodNamed Bd.named
  have hnm := (name_of_methodNamed Bd.named Bd.method).1
  have X0 : Stand p l e ({ frames := 0, cells := 0, slots := 0, locals := 0 } : Room) s m #[(.ref ba), (.ref bb)] below meth c s₁ [] 0 0 := Stand.of_body Bd
  have e0 : s₁.heap = h0 := by rw [← hh, Bd.state]; rfl
  have N0 := Fr.nil n0
  show Goes p e below (Fin s (Q_req_31 Z ba bb ka kb x0 x1 x2 y0 h0 n0) ({ frames := 0, cells := 0, slots := 0, locals := 0 } : Room).cells ({ frames := 0, cells := 0, slots := 0, locals := 0 } : Room).slots) _
  refine Goes.via (S' := s₁.setTop (mkF m 0 #[.val (.ref ba), .val (.ref bb), .unset] [])) (fun tz kz => castTop (ef_13 m ba bb ) kz) ?_
  refine Goes.via (S' := s₁.setTop (mkF m 1 #[.val (.ref ba), .val (.ref bb), .unset] [(.ref ba)])) (fun tz kz => ?_) ?_
  · show Steps p.tables e below (s₁.setTop (mkF m 0 #[.val (.ref ba), .val (.ref bb), .unset] [])) _
    refine XS.aloadN X0.here hx rfl (hb hby d13_0) rfl rfl ?_
    exact kz
  obtain ⟨cl1, Ar1, q1, Sz1, Nn1, Hs1, G1⟩ := (id A0)
  refine Goes.via (S' := s₁.setTop (mkF m 3 #[.val (.ref ba), .val (.ref bb), .unset] [(.ref bb), (.int (3 : Int32))])) (fun tz kz => ?_) ?_
  · show Steps p.tables e below (s₁.setTop (mkF m 1 #[.val (.ref ba), .val (.ref bb), .unset] [(.ref ba)])) _
    refine X0.arraylength hx (by rw [e0]; exact Ar1.1) (State.isArrayOf_alike hZ.alike Ar1.2.1) (g := (mkF m 1 #[.val (.ref ba), .val (.ref bb), .unset] [(.ref ba)])) rfl rfl (hb hby d13_1) _ ?_
    rw [len_of Sz1 Nn1]
    refine XS.aloadN X0.here hx rfl (hb hby d13_2) rfl rfl ?_
    exact kz
  obtain ⟨cl2, Ar2, q2, Sz2, Nn2, Hs2, G2⟩ := (id B0)
  refine Goes.via (S' := s₁.setTop (mkF m 35 #[.val (.ref ba), .val (.ref bb), .unset] [(.int (0 : Int32))])) (fun tz kz => ?_) ?_
  · show Steps p.tables e below (s₁.setTop (mkF m 3 #[.val (.ref ba), .val (.ref bb), .unset] [(.ref bb), (.int (3 : Int32))])) _
    refine X0.arraylength hx (by rw [e0]; exact Ar2.1) (State.isArrayOf_alike hZ.alike Ar2.2.1) (g := (mkF m 3 #[.val (.ref ba), .val (.ref bb), .unset] [(.ref bb), (.int (3 : Int32))])) rfl rfl (hb hby d13_3) _ ?_
    rw [len_of Sz2 Nn2]
    refine XS.icmpYes X0.here hx rfl (pc0 := 4) (pc' := 34) rfl (hb hby d13_4) rfl (feq (by decide)).2 (by decide) (by decide) ?_
    refine XS.iconst X0.here hx rfl (hb hby d13_34) ?_
    exact kz
  exact Goes.retN X0 hx Bd.notSynchronized (t := .boolean) Bd.returns (by simp) (hb hby d13_35) (Nat.le_of_ble_eq_true rfl) (Nat.le_of_ble_eq_true rfl) ⟨congrArg (fun z => some (Value.int z)) (by simp [own_eqb]), N0, e0⟩
def Q_rqs_31 (Z : State) (a1 : Addr) (a2 : Addr) (va vb : Addr) (ka kb : ClassId) (cs : Int32) (x0 x1 x2 y0 : Int32) (h0 : Heap) (n0 : Nat) : Option Value → Heap → List Loc → Prop := fun v h L => v = some (.int (nar .boolean (own_eqb [x0, x1, x2] [y0]))) ∧ Fr n0 L ∧ h = h0
set_option maxRecDepth 65536 in
set_option maxHeartbeats 40000000 in
theorem rqs_31 (l : Launch) (Z : State) (a0 : Array Value) (hw : ∀ d ∈ tables_1, d.before a0 Z = true) (ws : List Jvm.Cond) (a1 : Addr) (a2 : Addr) (va vb : Addr) (ka kb : ClassId) (cs : Int32) (x0 x1 x2 y0 : Int32) (h0 : Heap) (n0 : Nat) (Z0 : n0 ≤ h0.size) (SC : Sta Z Z.heap "java/lang/String" "COMPACT_STRINGS" "Z" (.int cs)) (hcs : ¬ cs = (0 : Int32)) (O0 : Old Z n0 h0) (SA : own_Str Z h0 a1 va ka (3 : Int32) [.int x0, .int x1, .int x2]) (SB : own_Str Z h0 a2 vb kb (1 : Int32) [.int y0]) (ne : a1 ≠ a2) :
    own_M l Z (⟨"java/lang/String", "equals", "(Ljava/lang/Object;)Z"⟩ : MethodName) (Jvm.Cond.code (⟨"java/lang/String", "equals", "(Ljava/lang/Object;)Z"⟩ : MethodName) jdk_42_method_66_code 3 (some .boolean)) ws ({ frames := 1, cells := 0, slots := 0, locals := 16 } : Room) #[(.ref a1), (.ref a2)] h0 (Q_rqs_31 Z a1 a2 va vb ka kb cs x0 x1 x2 y0 h0 n0) := by
  refine MetFree.of_bodySF (plainFor_of_name pn_12) hisR ?_
  intro p e s m args below meth c s₁ Bd hml0 hP hK
  obtain ⟨rfl, hZ, hh⟩ := hP
  have hx := Bd.exec
  have hby := Bd.bytes
  have hml : c.maxLocals = 3 := hml0
  have hown : s.vm.findClass "java/lang/String" = some m.cls := findClass_of_methodNamed Bd.named
  have hnm := (name_of_methodNamed Bd.named Bd.method).1
  have X0 : Stand p l e ({ frames := 1, cells := 0, slots := 0, locals := 16 } : Room) s m #[(.ref a1), (.ref a2)] below meth c s₁ [] 0 0 := Stand.of_body Bd
  have e0 : s₁.heap = h0 := by rw [← hh, Bd.state]; rfl
  have N0 := Fr.nil n0
  show Goes p e below (Fin s (Q_rqs_31 Z a1 a2 va vb ka kb cs x0 x1 x2 y0 h0 n0) ({ frames := 1, cells := 0, slots := 0, locals := 16 } : Room).cells ({ frames := 1, cells := 0, slots := 0, locals := 16 } : Room).slots) _
  refine Goes.via (S' := s₁.setTop (mkF m 0 #[.val (.ref a1), .val (.ref a2), .unset] [])) (fun tz kz => castTop (ef_12 m a1 a2 ) kz) ?_
  refine Goes.via (S' := s₁.setTop (mkF m 8 #[.val (.ref a1), .val (.ref a2), .unset] [(.ref a2)])) (fun tz kz => ?_) ?_
  · show Steps p.tables e below (s₁.setTop (mkF m 0 #[.val (.ref a1), .val (.ref a2), .unset] [])) _
    refine XS.aloadN X0.here hx rfl (hb hby d12_0) rfl rfl ?_
    refine XS.aloadN X0.here hx rfl (hb hby d12_1) rfl rfl ?_
    refine Jvm.RoadKit.acmp (g := (mkF m 2 #[.val (.ref a1), .val (.ref a2), .unset] [(.ref a2), (.ref a1)])) X0 hx rfl rfl rfl (pc0 := 2) (pc' := 7) (same := false) rfl (hb hby d12_2) rfl (decide_eq_false fun q => ne (Value.ref.inj q)) (by decide) (by decide) ?_
    refine XS.aloadN X0.here hx rfl (hb hby d12_7) rfl rfl ?_
    exact kz
  obtain ⟨T1, X1, e1, st1⟩ := instY X0 hx hZ hown (w_ hw 83 rfl) e0 (Ins.self SB.1) (g := (mkF m 8 #[.val (.ref a1), .val (.ref a2), .unset] [(.ref a2)])) rfl rfl (hb hby d12_8)
  refine Goes.via (S' := T1.setTop (mkF m 11 #[.val (.ref a1), .val (.ref a2), .unset] [(.int (1 : Int32))])) st1 ?_
  refine Goes.via (S' := T1.setTop (mkF m 15 #[.val (.ref a1), .val (.ref a2), .unset] [(.ref a2)])) (fun tz kz => ?_) ?_
  · show Steps p.tables e below (T1.setTop (mkF m 11 #[.val (.ref a1), .val (.ref a2), .unset] [(.int (1 : Int32))])) _
    refine XS.ifNo X1.here hx rfl (hb hby d12_11) rfl ((if0 _ _).trans (feq (by decide)).1) ?_
    refine XS.aloadN X1.here hx rfl (hb hby d12_14) rfl rfl ?_
    exact kz
  obtain ⟨T2, X2, e2, st2⟩ := castY X1 hx hZ hown (w_ hw 83 rfl) e1 (Ins.self SB.1) (g := (mkF m 15 #[.val (.ref a1), .val (.ref a2), .unset] [(.ref a2)])) rfl rfl (hb hby d12_15)
  refine Goes.via (S' := T2.setTop (mkF m 18 #[.val (.ref a1), .val (.ref a2), .unset] [(.ref a2)])) st2 ?_
  refine Goes.via (S' := T2.setTop (mkF m 19 #[.val (.ref a1), .val (.ref a2), .val (.ref a2)] [])) (fun tz kz => ?_) ?_
  · show Steps p.tables e below (T2.setTop (mkF m 18 #[.val (.ref a1), .val (.ref a2), .unset] [(.ref a2)])) _
    refine XS.astoreN X2.here hx rfl (hb hby d12_18) rfl rfl (l' := #[.val (.ref a1), .val (.ref a2), .val (.ref a2)]) rfl ?_
    exact kz
  obtain ⟨T3, X3, e3, st3⟩ := getS2 X2 hx hZ hown (host := "") (Or.inl (w_ hw 19 rfl)) Via.refl e2 (SC.ext O0.2) (g := (mkF m 19 #[.val (.ref a1), .val (.ref a2), .val (.ref a2)] [])) rfl (hb hby d12_19)
  refine Goes.via (S' := T3.setTop (mkF m 22 #[.val (.ref a1), .val (.ref a2), .val (.ref a2)] [(.int cs)])) st3 ?_
  refine Goes.via (S' := T3.setTop (mkF m 26 #[.val (.ref a1), .val (.ref a2), .val (.ref a2)] [(.ref a1)])) (fun tz kz => ?_) ?_
  · show Steps p.tables e below (T3.setTop (mkF m 22 #[.val (.ref a1), .val (.ref a2), .val (.ref a2)] [(.int cs)])) _
    refine XS.ifNo X3.here hx rfl (hb hby d12_22) rfl ((if0 _ _).trans (feq hcs).1) ?_
    refine XS.aloadN X3.here hx rfl (hb hby d12_25) rfl rfl ?_
    exact kz
  obtain ⟨T4, X4, e4, st4⟩ := getF X3 hx hZ hown (host := "") (Or.inl (w_ hw 31 rfl)) Via.refl e3 SA.2.1 (g := (mkF m 26 #[.val (.ref a1), .val (.ref a2), .val (.ref a2)] [(.ref a1)])) rfl rfl (hb hby d12_26)
  refine Goes.via (S' := T4.setTop (mkF m 29 #[.val (.ref a1), .val (.ref a2), .val (.ref a2)] [(.int (0 : Int32))])) st4 ?_
  refine Goes.via (S' := T4.setTop (mkF m 30 #[.val (.ref a1), .val (.ref a2), .val (.ref a2)] [(.ref a2), (.int (0 : Int32))])) (fun tz kz => ?_) ?_
  · show Steps p.tables e below (T4.setTop (mkF m 29 #[.val (.ref a1), .val (.ref a2), .val (.ref a2)] [(.int (0 : Int32))])) _
    refine XS.aloadN X4.here hx rfl (hb hby d12_29) rfl rfl ?_
    exact kz
  obtain ⟨T5, X5, e5, st5⟩ := getF X4 hx hZ hown (host := "") (Or.inl (w_ hw 31 rfl)) Via.refl e4 SB.2.1 (g := (mkF m 30 #[.val (.ref a1), .val (.ref a2), .val (.ref a2)] [(.ref a2), (.int (0 : Int32))])) rfl rfl (hb hby d12_30)
  refine Goes.via (S' := T5.setTop (mkF m 33 #[.val (.ref a1), .val (.ref a2), .val (.ref a2)] [(.int (0 : Int32)), (.int (0 : Int32))])) st5 ?_
  refine Goes.via (S' := T5.setTop (mkF m 37 #[.val (.ref a1), .val (.ref a2), .val (.ref a2)] [(.ref a1)])) (fun tz kz => ?_) ?_
  · show Steps p.tables e below (T5.setTop (mkF m 33 #[.val (.ref a1), .val (.ref a2), .val (.ref a2)] [(.int (0 : Int32)), (.int (0 : Int32))])) _
    refine XS.icmpNo X5.here hx rfl (hb hby d12_33) rfl (teq (by decide)).2 ?_
    refine XS.aloadN X5.here hx rfl (hb hby d12_36) rfl rfl ?_
    exact kz
  obtain ⟨T6, X6, e6, st6⟩ := getF X5 hx hZ hown (host := "") (Or.inl (w_ hw 33 rfl)) Via.refl e5 SA.2.2.1 (g := (mkF m 37 #[.val (.ref a1), .val (.ref a2), .val (.ref a2)] [(.ref a1)])) rfl rfl (hb hby d12_37)
  refine Goes.via (S' := T6.setTop (mkF m 40 #[.val (.ref a1), .val (.ref a2), .val (.ref a2)] [(.ref va)])) st6 ?_
  refine Goes.via (S' := T6.setTop (mkF m 41 #[.val (.ref a1), .val (.ref a2), .val (.ref a2)] [(.ref a2), (.ref va)])) (fun tz kz => ?_) ?_
  · show Steps p.tables e below (T6.setTop (mkF m 40 #[.val (.ref a1), .val (.ref a2), .val (.ref a2)] [(.ref va)])) _
    refine XS.aloadN X6.here hx rfl (hb hby d12_40) rfl rfl ?_
    exact kz
  obtain ⟨T7, X7, e7, st7⟩ := getF X6 hx hZ hown (host := "") (Or.inl (w_ hw 33 rfl)) Via.refl e6 SB.2.2.1 (g := (mkF m 41 #[.val (.ref a1), .val (.ref a2), .val (.ref a2)] [(.ref a2), (.ref va)])) rfl rfl (hb hby d12_41)
  refine Goes.via (S' := T7.setTop (mkF m 44 #[.val (.ref a1), .val (.ref a2), .val (.ref a2)] [(.ref vb), (.ref va)])) st7 ?_
  obtain ⟨_, _, ⟨T8, L8, k8, n8⟩, -, X8, ⟨Lc8, hQ8, l8, y8, z8⟩, st8⟩ := Jvm.LawKit.callS X7 hx (y := (⟨"java/lang/StringLatin1", "equals", "([B[B)Z"⟩ : MethodName)) hown (mvT hZ (w_ hw 84 rfl)) (mvT hZ (w_ hw 85 rfl)) (mvT hZ (w_ hw 86 rfl)) (mvT hZ (w_ hw 87 rfl)) (by decide) (backOf (W := 0) (req_31 l Z a0 hw [] va vb ka kb x0 x1 x2 y0 h0 n0 Z0 SA.2.2.2 SB.2.2.2) hZ (w_ hw 87 rfl) (w_ hw 86 rfl) (by decide) (by decide)) (g := (mkF m 44 #[.val (.ref a1), .val (.ref a2), .val (.ref a2)] [(.ref vb), (.ref va)])) rfl (by rw [hml]; rfl) (argsL := [(.ref va), (.ref vb)]) (rest := []) (lenOf pd_6 rfl) rfl (by show 2 * 0 + _ ≤ _; exact Nat.le_of_eq rfl) (hb hby d12_44) (fun _ _ => ⟨rfl, e7, (by decide : 0 + 0 ≤ _), (by decide : 0 + 0 ≤ _)⟩)
  dsimp only [Pt.U, Pt.locs, Pt.cells, Pt.slots] at X8 l8 y8 z8 st8 hQ8
  subst l8 y8 z8
  obtain ⟨rfl, N8, e8⟩ := hQ8
  have Nf8 := Fr.app N0 N8
  refine Goes.via (S' := T8.setTop (mkF m 47 #[.val (.ref a1), .val (.ref a2), .val (.ref a2)] [(.int (nar .boolean (own_eqb [x0, x1, x2] [y0])))])) (st8) ?_
  by_cases hc47_9 : (nar .boolean (own_eqb [x0, x1, x2] [y0])) = (0 : Int32)
  · refine Goes.via (S' := T8.setTop (mkF m 55 #[.val (.ref a1), .val (.ref a2), .val (.ref a2)] [(.int (0 : Int32))])) (fun tz kz => ?_) ?_
    · show Steps p.tables e below (T8.setTop (mkF m 47 #[.val (.ref a1), .val (.ref a2), .val (.ref a2)] [(.int (nar .boolean (own_eqb [x0, x1, x2] [y0])))])) _
      refine XS.ifYes X8.here hx rfl (pc0 := 47) (pc' := 54) rfl (hb hby d12_47) rfl ((if0 _ _).trans (teq hc47_9).1) (by decide) (by decide) ?_
      refine XS.iconst X8.here hx rfl (hb hby d12_54) ?_
      exact kz
    exact Goes.retN X8 hx Bd.notSynchronized (t := .boolean) Bd.returns (by simp) (hb hby d12_55) (Nat.le_of_ble_eq_true rfl) (Nat.le_of_ble_eq_true rfl) ⟨congrArg (fun z => some (Value.int z)) (own_eq0 hc47_9), Nf8, e8⟩
  · refine Goes.via (S' := T8.setTop (mkF m 55 #[.val (.ref a1), .val (.ref a2), .val (.ref a2)] [(.int (1 : Int32))])) (fun tz kz => ?_) ?_
    · show Steps p.tables e below (T8.setTop (mkF m 47 #[.val (.ref a1), .val (.ref a2), .val (.ref a2)] [(.int (nar .boolean (own_eqb [x0, x1, x2] [y0])))])) _
      refine XS.ifNo X8.here hx rfl (hb hby d12_47) rfl ((if0 _ _).trans (feq hc47_9).1) ?_
      refine XS.iconst X8.here hx rfl (hb hby d12_50) ?_
      refine XS.goto X8.here hx rfl (pc0 := 51) (pc' := 55) rfl (hb hby d12_51) (by decide) (by decide) ?_
      exact kz
    exact Goes.retN X8 hx Bd.notSynchronized (t := .boolean) Bd.returns (by simp) (hb hby d12_55) (Nat.le_of_ble_eq_true rfl) (Nat.le_of_ble_eq_true rfl) ⟨congrArg (fun z => some (Value.int z)) (own_eq1 hc47_9), Nf8, e8⟩
def Q_req_32 (Z : State) (ba : Addr) (bb : Addr) (ka kb : ClassId) (x0 x1 x2 y0 y1 : Int32) (h0 : Heap) (n0 : Nat) : Option Value → Heap → List Loc → Prop := fun v h L => v = some (.int (nar .boolean (own_eqb [x0, x1, x2] [y0, y1]))) ∧ Fr n0 L ∧ h = h0
set_option maxRecDepth 65536 in
set_option maxHeartbeats 40000000 in
theorem req_32 (l : Launch) (Z : State) (a0 : Array Value) (hw : ∀ d ∈ tables_1, d.before a0 Z = true) (ws : List Jvm.Cond) (ba : Addr) (bb : Addr) (ka kb : ClassId) (x0 x1 x2 y0 y1 : Int32) (h0 : Heap) (n0 : Nat) (Z0 : n0 ≤ h0.size) (A0 : Arv Z h0 ba ka .byte (3 : Int32) [.int x0, .int x1, .int x2] (.int 0)) (B0 : Arv Z h0 bb kb .byte (2 : Int32) [.int y0, .int y1] (.int 0)) :
    own_M l Z (⟨"java/lang/StringLatin1", "equals", "([B[B)Z"⟩ : MethodName) (Jvm.Cond.code (⟨"java/lang/StringLatin1", "equals", "([B[B)Z"⟩ : MethodName) jdk_43_method_13_code 3 (some .boolean)) ws ({ frames := 0, cells := 0, slots := 0, locals := 0 } : Room) #[(.ref ba), (.ref bb)] h0 (Q_req_32 Z ba bb ka kb x0 x1 x2 y0 y1 h0 n0) := by
  refine MetFree.of_bodySF (plainFor_of_name pn_13) hisR ?_
  intro p e s m args below meth c s₁ Bd hml0 hP hK
  obtain ⟨rfl, hZ, hh⟩ := hP
  have hx := Bd.exec
  have hby := Bd.bytes
  have hml : c.maxLocals = 3 := hml0
  have hown : s.vm.findClass "java/lang/StringLatin1" = some m.cls := findClass_of_methodNamed Bd.named
  have hnm := (name_of_methodNamed Bd.named Bd.method).1
  have X0 : Stand p l e ({ frames := 0, cells := 0, slots := 0, locals := 0 } : Room) s m #[(.ref ba), (.ref bb)] below meth c s₁ [] 0 0 := Stand.of_body Bd
  have e0 : s₁.heap = h0 := by rw [← hh, Bd.state]; rfl
  have N0 := Fr.nil n0
  show Goes p e below (Fin s (Q_req_32 Z ba bb ka kb x0 x1 x2 y0 y1 h0 n0) ({ frames := 0, cells := 0, slots := 0, locals := 0 } : Room).cells ({ frames := 0, cells := 0, slots := 0, locals := 0 } : Room).slots) _
  refine Goes.via (S' := s₁.setTop (mkF m 0 #[.val (.ref ba), .val (.ref bb), .unset] [])) (fun tz kz => castTop (ef_13 m ba bb ) kz) ?_
  refine Goes.via (S' := s₁.setTop (mkF m 1 #[.val (.ref ba), .val (.ref bb), .unset] [(.ref ba)])) (fun tz kz => ?_) ?_
  · show Steps p.tables e below (s₁.setTop (mkF m 0 #[.val (.ref ba), .val (.ref bb), .unset] [])) _
    refine XS.aloadN X0.here hx rfl (hb hby d13_0) rfl rfl ?_
    exact kz
  obtain ⟨cl1, Ar1, q1, Sz1, Nn1, Hs1, G1⟩ := (id A0)
  refine Goes.via (S' := s₁.setTop (mkF m 3 #[.val (.ref ba), .val (.ref bb), .unset] [(.ref bb), (.int (3 : Int32))])) (fun tz kz => ?_) ?_
  · show Steps p.tables e below (s₁.setTop (mkF m 1 #[.val (.ref ba), .val (.ref bb), .unset] [(.ref ba)])) _
    refine X0.arraylength hx (by rw [e0]; exact Ar1.1) (State.isArrayOf_alike hZ.alike Ar1.2.1) (g := (mkF m 1 #[.val (.ref ba), .val (.ref bb), .unset] [(.ref ba)])) rfl rfl (hb hby d13_1) _ ?_
    rw [len_of Sz1 Nn1]
    refine XS.aloadN X0.here hx rfl (hb hby d13_2) rfl rfl ?_
    exact kz
  obtain ⟨cl2, Ar2, q2, Sz2, Nn2, Hs2, G2⟩ := (id B0)
  refine Goes.via (S' := s₁.setTop (mkF m 35 #[.val (.ref ba), .val (.ref bb), .unset] [(.int (0 : Int32))])) (fun tz kz => ?_) ?_
  · show Steps p.tables e below (s₁.setTop (mkF m 3 #[.val (.ref ba), .val (.ref bb), .unset] [(.ref bb), (.int (3 : Int32))])) _
    refine X0.arraylength hx (by rw [e0]; exact Ar2.1) (State.isArrayOf_alike hZ.alike Ar2.2.1) (g := (mkF m 3 #[.val (.ref ba), .val (.ref bb), .unset] [(.ref bb), (.int (3 : Int32))])) rfl rfl (hb hby d13_3) _ ?_
    rw [len_of Sz2 Nn2]
    refine XS.icmpYes X0.here hx rfl (pc0 := 4) (pc' := 34) rfl (hb hby d13_4) rfl (feq (by decide)).2 (by decide) (by decide) ?_
    refine XS.iconst X0.here hx rfl (hb hby d13_34) ?_
    exact kz
  exact Goes.retN X0 hx Bd.notSynchronized (t := .boolean) Bd.returns (by simp) (hb hby d13_35) (Nat.le_of_ble_eq_true rfl) (Nat.le_of_ble_eq_true rfl) ⟨congrArg (fun z => some (Value.int z)) (by simp [own_eqb]), N0, e0⟩
def Q_rqs_32 (Z : State) (a1 : Addr) (a2 : Addr) (va vb : Addr) (ka kb : ClassId) (cs : Int32) (x0 x1 x2 y0 y1 : Int32) (h0 : Heap) (n0 : Nat) : Option Value → Heap → List Loc → Prop := fun v h L => v = some (.int (nar .boolean (own_eqb [x0, x1, x2] [y0, y1]))) ∧ Fr n0 L ∧ h = h0
set_option maxRecDepth 65536 in
set_option maxHeartbeats 40000000 in
theorem rqs_32 (l : Launch) (Z : State) (a0 : Array Value) (hw : ∀ d ∈ tables_1, d.before a0 Z = true) (ws : List Jvm.Cond) (a1 : Addr) (a2 : Addr) (va vb : Addr) (ka kb : ClassId) (cs : Int32) (x0 x1 x2 y0 y1 : Int32) (h0 : Heap) (n0 : Nat) (Z0 : n0 ≤ h0.size) (SC : Sta Z Z.heap "java/lang/String" "COMPACT_STRINGS" "Z" (.int cs)) (hcs : ¬ cs = (0 : Int32)) (O0 : Old Z n0 h0) (SA : own_Str Z h0 a1 va ka (3 : Int32) [.int x0, .int x1, .int x2]) (SB : own_Str Z h0 a2 vb kb (2 : Int32) [.int y0, .int y1]) (ne : a1 ≠ a2) :
    own_M l Z (⟨"java/lang/String", "equals", "(Ljava/lang/Object;)Z"⟩ : MethodName) (Jvm.Cond.code (⟨"java/lang/String", "equals", "(Ljava/lang/Object;)Z"⟩ : MethodName) jdk_42_method_66_code 3 (some .boolean)) ws ({ frames := 1, cells := 0, slots := 0, locals := 16 } : Room) #[(.ref a1), (.ref a2)] h0 (Q_rqs_32 Z a1 a2 va vb ka kb cs x0 x1 x2 y0 y1 h0 n0) := by
  refine MetFree.of_bodySF (plainFor_of_name pn_12) hisR ?_
  intro p e s m args below meth c s₁ Bd hml0 hP hK
  obtain ⟨rfl, hZ, hh⟩ := hP
  have hx := Bd.exec
  have hby := Bd.bytes
  have hml : c.maxLocals = 3 := hml0
  have hown : s.vm.findClass "java/lang/String" = some m.cls := findClass_of_methodNamed Bd.named
  have hnm := (name_of_methodNamed Bd.named Bd.method).1
  have X0 : Stand p l e ({ frames := 1, cells := 0, slots := 0, locals := 16 } : Room) s m #[(.ref a1), (.ref a2)] below meth c s₁ [] 0 0 := Stand.of_body Bd
  have e0 : s₁.heap = h0 := by rw [← hh, Bd.state]; rfl
  have N0 := Fr.nil n0
  show Goes p e below (Fin s (Q_rqs_32 Z a1 a2 va vb ka kb cs x0 x1 x2 y0 y1 h0 n0) ({ frames := 1, cells := 0, slots := 0, locals := 16 } : Room).cells ({ frames := 1, cells := 0, slots := 0, locals := 16 } : Room).slots) _
  refine Goes.via (S' := s₁.setTop (mkF m 0 #[.val (.ref a1), .val (.ref a2), .unset] [])) (fun tz kz => castTop (ef_12 m a1 a2 ) kz) ?_
  refine Goes.via (S' := s₁.setTop (mkF m 8 #[.val (.ref a1), .val (.ref a2), .unset] [(.ref a2)])) (fun tz kz => ?_) ?_
  · show Steps p.tables e below (s₁.setTop (mkF m 0 #[.val (.ref a1), .val (.ref a2), .unset] [])) _
    refine XS.aloadN X0.here hx rfl (hb hby d12_0) rfl rfl ?_
    refine XS.aloadN X0.here hx rfl (hb hby d12_1) rfl rfl ?_
    refine Jvm.RoadKit.acmp (g := (mkF m 2 #[.val (.ref a1), .val (.ref a2), .unset] [(.ref a2), (.ref a1)])) X0 hx rfl rfl rfl (pc0 := 2) (pc' := 7) (same := false) rfl (hb hby d12_2) rfl (decide_eq_false fun q => ne (Value.ref.inj q)) (by decide) (by decide) ?_
    refine XS.aloadN X0.here hx rfl (hb hby d12_7) rfl rfl ?_
    exact kz
  obtain ⟨T1, X1, e1, st1⟩ := instY X0 hx hZ hown (w_ hw 83 rfl) e0 (Ins.self SB.1) (g := (mkF m 8 #[.val (.ref a1), .val (.ref a2), .unset] [(.ref a2)])) rfl rfl (hb hby d12_8)
  refine Goes.via (S' := T1.setTop (mkF m 11 #[.val (.ref a1), .val (.ref a2), .unset] [(.int (1 : Int32))])) st1 ?_
  refine Goes.via (S' := T1.setTop (mkF m 15 #[.val (.ref a1), .val (.ref a2), .unset] [(.ref a2)])) (fun tz kz => ?_) ?_
  · show Steps p.tables e below (T1.setTop (mkF m 11 #[.val (.ref a1), .val (.ref a2), .unset] [(.int (1 : Int32))])) _
    refine XS.ifNo X1.here hx rfl (hb hby d12_11) rfl ((if0 _ _).trans (feq (by decide)).1) ?_
    refine XS.aloadN X1.here hx rfl (hb hby d12_14) rfl rfl ?_
    exact kz
  obtain ⟨T2, X2, e2, st2⟩ := castY X1 hx hZ hown (w_ hw 83 rfl) e1 (Ins.self SB.1) (g := (mkF m 15 #[.val (.ref a1), .val (.ref a2), .unset] [(.ref a2)])) rfl rfl (hb hby d12_15)
  refine Goes.via (S' := T2.setTop (mkF m 18 #[.val (.ref a1), .val (.ref a2), .unset] [(.ref a2)])) st2 ?_
  refine Goes.via (S' := T2.setTop (mkF m 19 #[.val (.ref a1), .val (.ref a2), .val (.ref a2)] [])) (fun tz kz => ?_) ?_
  · show Steps p.tables e below (T2.setTop (mkF m 18 #[.val (.ref a1), .val (.ref a2), .unset] [(.ref a2)])) _
    refine XS.astoreN X2.here hx rfl (hb hby d12_18) rfl rfl (l' := #[.val (.ref a1), .val (.ref a2), .val (.ref a2)]) rfl ?_
    exact kz
  obtain ⟨T3, X3, e3, st3⟩ := getS2 X2 hx hZ hown (host := "") (Or.inl (w_ hw 19 rfl)) Via.refl e2 (SC.ext O0.2) (g := (mkF m 19 #[.val (.ref a1), .val (.ref a2), .val (.ref a2)] [])) rfl (hb hby d12_19)
  refine Goes.via (S' := T3.setTop (mkF m 22 #[.val (.ref a1), .val (.ref a2), .val (.ref a2)] [(.int cs)])) st3 ?_
  refine Goes.via (S' := T3.setTop (mkF m 26 #[.val (.ref a1), .val (.ref a2), .val (.ref a2)] [(.ref a1)])) (fun tz kz => ?_) ?_
  · show Steps p.tables e below (T3.setTop (mkF m 22 #[.val (.ref a1), .val (.ref a2), .val (.ref a2)] [(.int cs)])) _
    refine XS.ifNo X3.here hx rfl (hb hby d12_22) rfl ((if0 _ _).trans (feq hcs).1) ?_
    refine XS.aloadN X3.here hx rfl (hb hby d12_25) rfl rfl ?_
    exact kz
  obtain ⟨T4, X4, e4, st4⟩ := getF X3 hx hZ hown (host := "") (Or.inl (w_ hw 31 rfl)) Via.refl e3 SA.2.1 (g := (mkF m 26 #[.val (.ref a1), .val (.ref a2), .val (.ref a2)] [(.ref a1)])) rfl rfl (hb hby d12_26)
  refine Goes.via (S' := T4.setTop (mkF m 29 #[.val (.ref a1), .val (.ref a2), .val (.ref a2)] [(.int (0 : Int32))])) st4 ?_
  refine Goes.via (S' := T4.setTop (mkF m 30 #[.val (.ref a1), .val (.ref a2), .val (.ref a2)] [(.ref a2), (.int (0 : Int32))])) (fun tz kz => ?_) ?_
  · show Steps p.tables e below (T4.setTop (mkF m 29 #[.val (.ref a1), .val (.ref a2), .val (.ref a2)] [(.int (0 : Int32))])) _
    refine XS.aloadN X4.here hx rfl (hb hby d12_29) rfl rfl ?_
    exact kz
  obtain ⟨T5, X5, e5, st5⟩ := getF X4 hx hZ hown (host := "") (Or.inl (w_ hw 31 rfl)) Via.refl e4 SB.2.1 (g := (mkF m 30 #[.val (.ref a1), .val (.ref a2), .val (.ref a2)] [(.ref a2), (.int (0 : Int32))])) rfl rfl (hb hby d12_30)
  refine Goes.via (S' := T5.setTop (mkF m 33 #[.val (.ref a1), .val (.ref a2), .val (.ref a2)] [(.int (0 : Int32)), (.int (0 : Int32))])) st5 ?_
  refine Goes.via (S' := T5.setTop (mkF m 37 #[.val (.ref a1), .val (.ref a2), .val (.ref a2)] [(.ref a1)])) (fun tz kz => ?_) ?_
  · show Steps p.tables e below (T5.setTop (mkF m 33 #[.val (.ref a1), .val (.ref a2), .val (.ref a2)] [(.int (0 : Int32)), (.int (0 : Int32))])) _
    refine XS.icmpNo X5.here hx rfl (hb hby d12_33) rfl (teq (by decide)).2 ?_
    refine XS.aloadN X5.here hx rfl (hb hby d12_36) rfl rfl ?_
    exact kz
  obtain ⟨T6, X6, e6, st6⟩ := getF X5 hx hZ hown (host := "") (Or.inl (w_ hw 33 rfl)) Via.refl e5 SA.2.2.1 (g := (mkF m 37 #[.val (.ref a1), .val (.ref a2), .val (.ref a2)] [(.ref a1)])) rfl rfl (hb hby d12_37)
  refine Goes.via (S' := T6.setTop (mkF m 40 #[.val (.ref a1), .val (.ref a2), .val (.ref a2)] [(.ref va)])) st6 ?_
  refine Goes.via (S' := T6.setTop (mkF m 41 #[.val (.ref a1), .val (.ref a2), .val (.ref a2)] [(.ref a2), (.ref va)])) (fun tz kz => ?_) ?_
  · show Steps p.tables e below (T6.setTop (mkF m 40 #[.val (.ref a1), .val (.ref a2), .val (.ref a2)] [(.ref va)])) _
    refine XS.aloadN X6.here hx rfl (hb hby d12_40) rfl rfl ?_
    exact kz
  obtain ⟨T7, X7, e7, st7⟩ := getF X6 hx hZ hown (host := "") (Or.inl (w_ hw 33 rfl)) Via.refl e6 SB.2.2.1 (g := (mkF m 41 #[.val (.ref a1), .val (.ref a2), .val (.ref a2)] [(.ref a2), (.ref va)])) rfl rfl (hb hby d12_41)
  refine Goes.via (S' := T7.setTop (mkF m 44 #[.val (.ref a1), .val (.ref a2), .val (.ref a2)] [(.ref vb), (.ref va)])) st7 ?_
  obtain ⟨_, _, ⟨T8, L8, k8, n8⟩, -, X8, ⟨Lc8, hQ8, l8, y8, z8⟩, st8⟩ := Jvm.LawKit.callS X7 hx (y := (⟨"java/lang/StringLatin1", "equals", "([B[B)Z"⟩ : MethodName)) hown (mvT hZ (w_ hw 84 rfl)) (mvT hZ (w_ hw 85 rfl)) (mvT hZ (w_ hw 86 rfl)) (mvT hZ (w_ hw 87 rfl)) (by decide) (backOf (W := 0) (req_32 l Z a0 hw [] va vb ka kb x0 x1 x2 y0 y1 h0 n0 Z0 SA.2.2.2 SB.2.2.2) hZ (w_ hw 87 rfl) (w_ hw 86 rfl) (by decide) (by decide)) (g := (mkF m 44 #[.val (.ref a1), .val (.ref a2), .val (.ref a2)] [(.ref vb), (.ref va)])) rfl (by rw [hml]; rfl) (argsL := [(.ref va), (.ref vb)]) (rest := []) (lenOf pd_6 rfl) rfl (by show 2 * 0 + _ ≤ _; exact Nat.le_of_eq rfl) (hb hby d12_44) (fun _ _ => ⟨rfl, e7, (by decide : 0 + 0 ≤ _), (by decide : 0 + 0 ≤ _)⟩)
  dsimp only [Pt.U, Pt.locs, Pt.cells, Pt.slots] at X8 l8 y8 z8 st8 hQ8
  subst l8 y8 z8
  obtain ⟨rfl, N8, e8⟩ := hQ8
  have Nf8 := Fr.app N0 N8
  refine Goes.via (S' := T8.setTop (mkF m 47 #[.val (.ref a1), .val (.ref a2), .val (.ref a2)] [(.int (nar .boolean (own_eqb [x0, x1, x2] [y0, y1])))])) (st8) ?_
  by_cases hc47_9 : (nar .boolean (own_eqb [x0, x1, x2] [y0, y1])) = (0 : Int32)
  · refine Goes.via (S' := T8.setTop (mkF m 55 #[.val (.ref a1), .val (.ref a2), .val (.ref a2)] [(.int (0 : Int32))])) (fun tz kz => ?_) ?_
    · show Steps p.tables e below (T8.setTop (mkF m 47 #[.val (.ref a1), .val (.ref a2), .val (.ref a2)] [(.int (nar .boolean (own_eqb [x0, x1, x2] [y0, y1])))])) _
      refine XS.ifYes X8.here hx rfl (pc0 := 47) (pc' := 54) rfl (hb hby d12_47) rfl ((if0 _ _).trans (teq hc47_9).1) (by decide) (by decide) ?_
      refine XS.iconst X8.here hx rfl (hb hby d12_54) ?_
      exact kz
    exact Goes.retN X8 hx Bd.notSynchronized (t := .boolean) Bd.returns (by simp) (hb hby d12_55) (Nat.le_of_ble_eq_true rfl) (Nat.le_of_ble_eq_true rfl) ⟨congrArg (fun z => some (Value.int z)) (own_eq0 hc47_9), Nf8, e8⟩
  · refine Goes.via (S' := T8.setTop (mkF m 55 #[.val (.ref a1), .val (.ref a2), .val (.ref a2)] [(.int (1 : Int32))])) (fun tz kz => ?_) ?_
    · show Steps p.tables e below (T8.setTop (mkF m 47 #[.val (.ref a1), .val (.ref a2), .val (.ref a2)] [(.int (nar .boolean (own_eqb [x0, x1, x2] [y0, y1])))])) _
      refine XS.ifNo X8.here hx rfl (hb hby d12_47) rfl ((if0 _ _).trans (feq hc47_9).1) ?_
      refine XS.iconst X8.here hx rfl (hb hby d12_50) ?_
      refine XS.goto X8.here hx rfl (pc0 := 51) (pc' := 55) rfl (hb hby d12_51) (by decide) (by decide) ?_
      exact kz
    exact Goes.retN X8 hx Bd.notSynchronized (t := .boolean) Bd.returns (by simp) (hb hby d12_55) (Nat.le_of_ble_eq_true rfl) (Nat.le_of_ble_eq_true rfl) ⟨congrArg (fun z => some (Value.int z)) (own_eq1 hc47_9), Nf8, e8⟩
def Q_req_33 (Z : State) (ba : Addr) (bb : Addr) (ka kb : ClassId) (x0 x1 x2 y0 y1 y2 : Int32) (h0 : Heap) (n0 : Nat) : Option Value → Heap → List Loc → Prop := fun v h L => v = some (.int (nar .boolean (own_eqb [x0, x1, x2] [y0, y1, y2]))) ∧ Fr n0 L ∧ h = h0
set_option maxRecDepth 65536 in
set_option maxHeartbeats 40000000 in
theorem req_33 (l : Launch) (Z : State) (a0 : Array Value) (hw : ∀ d ∈ tables_1, d.before a0 Z = true) (ws : List Jvm.Cond) (ba : Addr) (bb : Addr) (ka kb : ClassId) (x0 x1 x2 y0 y1 y2 : Int32) (h0 : Heap) (n0 : Nat) (Z0 : n0 ≤ h0.size) (A0 : Arv Z h0 ba ka .byte (3 : Int32) [.int x0, .int x1, .int x2] (.int 0)) (B0 : Arv Z h0 bb kb .byte (3 : Int32) [.int y0, .int y1, .int y2] (.int 0)) :
    own_M l Z (⟨"java/lang/StringLatin1", "equals", "([B[B)Z"⟩ : MethodName) (Jvm.Cond.code (⟨"java/lang/StringLatin1", "equals", "([B[B)Z"⟩ : MethodName) jdk_43_method_13_code 3 (some .boolean)) ws ({ frames := 0, cells := 0, slots := 0, locals := 0 } : Room) #[(.ref ba), (.ref bb)] h0 (Q_req_33 Z ba bb ka kb x0 x1 x2 y0 y1 y2 h0 n0) := by
  refine MetFree.of_bodySF (plainFor_of_name pn_13) hisR ?_
  intro p e s m args below meth c s₁ Bd hml0 hP hK
  obtain ⟨rfl, hZ, hh⟩ := hP
  have hx := Bd.exec
  have hby := Bd.bytes
  have hml : c.maxLocals = 3 := hml0
  have hown : s.vm.findClass "java/lang/StringLatin1" = some m.cls := findClass_of_methodNamed Bd.named
  have hnm := (name_of_methodNamed Bd.named Bd.method).1
  have X0 : Stand p l e ({ frames := 0, cells := 0, slots := 0, locals := 0 } : Room) s m #[(.ref ba), (.ref bb)] below meth c s₁ [] 0 0 := Stand.of_body Bd
  have e0 : s₁.heap = h0 := by rw [← hh, Bd.state]; rfl
  have N0 := Fr.nil n0
  show Goes p e below (Fin s (Q_req_33 Z ba bb ka kb x0 x1 x2 y0 y1 y2 h0 n0) ({ frames := 0, cells := 0, slots := 0, locals := 0 } : Room).cells ({ frames := 0, cells := 0, slots := 0, locals := 0 } : Room).slots) _
  refine Goes.via (S' := s₁.setTop (mkF m 0 #[.val (.ref ba), .val (.ref bb), .unset] [])) (fun tz kz => castTop (ef_13 m ba bb ) kz) ?_
  refine Goes.via (S' := s₁.setTop (mkF m 1 #[.val (.ref ba), .val (.ref bb), .unset] [(.ref ba)])) (fun tz kz => ?_) ?_
  · show Steps p.tables e below (s₁.setTop (mkF m 0 #[.val (.ref ba), .val (.ref bb), .unset] [])) _
    refine XS.aloadN X0.here hx rfl (hb hby d13_0) rfl rfl ?_
    exact kz
  obtain ⟨cl1, Ar1, q1, Sz1, Nn1, Hs1, G1⟩ := (id A0)
  refine Goes.via (S' := s₁.setTop (mkF m 3 #[.val (.ref ba), .val (.ref bb), .unset] [(.ref bb), (.int (3 : Int32))])) (fun tz kz => ?_) ?_
  · show Steps p.tables e below (s₁.setTop (mkF m 1 #[.val (.ref ba), .val (.ref bb), .unset] [(.ref ba)])) _
    refine X0.arraylength hx (by rw [e0]; exact Ar1.1) (State.isArrayOf_alike hZ.alike Ar1.2.1) (g := (mkF m 1 #[.val (.ref ba), .val (.ref bb), .unset] [(.ref ba)])) rfl rfl (hb hby d13_1) _ ?_
    rw [len_of Sz1 Nn1]
    refine XS.aloadN X0.here hx rfl (hb hby d13_2) rfl rfl ?_
    exact kz
  obtain ⟨cl2, Ar2, q2, Sz2, Nn2, Hs2, G2⟩ := (id B0)
  refine Goes.via (S' := s₁.setTop (mkF m 11 #[.val (.ref ba), .val (.ref bb), .val (.int (0 : Int32))] [(.ref ba), (.int (0 : Int32))])) (fun tz kz => ?_) ?_
  · show Steps p.tables e below (s₁.setTop (mkF m 3 #[.val (.ref ba), .val (.ref bb), .unset] [(.ref bb), (.int (3 : Int32))])) _
    refine X0.arraylength hx (by rw [e0]; exact Ar2.1) (State.isArrayOf_alike hZ.alike Ar2.2.1) (g := (mkF m 3 #[.val (.ref ba), .val (.ref bb), .unset] [(.ref bb), (.int (3 : Int32))])) rfl rfl (hb hby d13_3) _ ?_
    rw [len_of Sz2 Nn2]
    refine XS.icmpNo X0.here hx rfl (hb hby d13_4) rfl (teq (by decide)).2 ?_
    refine XS.iconst X0.here hx rfl (hb hby d13_7) ?_
    refine XS.istoreN X0.here hx rfl (hb hby d13_8) rfl (l' := #[.val (.ref ba), .val (.ref bb), .val (.int (0 : Int32))]) rfl ?_
    show Steps p.tables e below (s₁.setTop (mkF m 9 #[.val (.ref ba), .val (.ref bb), .val (.int (0 : Int32))] [])) _
    refine XS.iloadN X0.here hx rfl (hb hby d13_9) rfl ?_
    refine XS.aloadN X0.here hx rfl (hb hby d13_10) rfl rfl ?_
    exact kz
  obtain ⟨cl3, Ar3, q3, Sz3, Nn3, Hs3, G3⟩ := (id A0)
  refine Goes.via (S' := s₁.setTop (mkF m 17 #[.val (.ref ba), .val (.ref bb), .val (.int (0 : Int32))] [(.int (0 : Int32)), (.ref ba)])) (fun tz kz => ?_) ?_
  · show Steps p.tables e below (s₁.setTop (mkF m 11 #[.val (.ref ba), .val (.ref bb), .val (.int (0 : Int32))] [(.ref ba), (.int (0 : Int32))])) _
    refine X0.arraylength hx (by rw [e0]; exact Ar3.1) (State.isArrayOf_alike hZ.alike Ar3.2.1) (g := (mkF m 11 #[.val (.ref ba), .val (.ref bb), .val (.int (0 : Int32))] [(.ref ba), (.int (0 : Int32))])) rfl rfl (hb hby d13_11) _ ?_
    rw [len_of Sz3 Nn3]
    refine XS.icmpNo X0.here hx rfl (hb hby d13_12) rfl (tlt (by decide)).2.1 ?_
    refine XS.aloadN X0.here hx rfl (hb hby d13_15) rfl rfl ?_
    refine XS.iloadN X0.here hx rfl (hb hby d13_16) rfl ?_
    exact kz
  obtain ⟨cl4, Ar4, q4, Sz4, Nn4, Hs4, G4⟩ := (id A0)
  refine Goes.via (S' := s₁.setTop (mkF m 20 #[.val (.ref ba), .val (.ref bb), .val (.int (0 : Int32))] [(.int (0 : Int32)), (.ref bb), (.int x0)])) (fun tz kz => ?_) ?_
  · show Steps p.tables e below (s₁.setTop (mkF m 17 #[.val (.ref ba), .val (.ref bb), .val (.int (0 : Int32))] [(.int (0 : Int32)), (.ref ba)])) _
    refine X0.baloadBytes hx (j := (0 : Int32)) (v := (.int x0)) (by rw [e0]; exact Ar4.1) (State.isArrayOf_alike hZ.alike Ar4.2.1) Ar4.2.2 (inb_of Sz4 ⟨by decide, by decide⟩) (Has.at Hs4 (inb_of Sz4 ⟨by decide, by decide⟩) rfl) (g := (mkF m 17 #[.val (.ref ba), .val (.ref bb), .val (.int (0 : Int32))] [(.int (0 : Int32)), (.ref ba)])) rfl rfl (hb hby d13_17) _ ?_
    refine XS.aloadN X0.here hx rfl (hb hby d13_18) rfl rfl ?_
    refine XS.iloadN X0.here hx rfl (hb hby d13_19) rfl ?_
    exact kz
  obtain ⟨cl5, Ar5, q5, Sz5, Nn5, Hs5, G5⟩ := (id B0)
  refine Goes.via (S' := s₁.setTop (mkF m 21 #[.val (.ref ba), .val (.ref bb), .val (.int (0 : Int32))] [(.int y0), (.int x0)])) (fun tz kz => ?_) ?_
  · show Steps p.tables e below (s₁.setTop (mkF m 20 #[.val (.ref ba), .val (.ref bb), .val (.int (0 : Int32))] [(.int (0 : Int32)), (.ref bb), (.int x0)])) _
    refine X0.baloadBytes hx (j := (0 : Int32)) (v := (.int y0)) (by rw [e0]; exact Ar5.1) (State.isArrayOf_alike hZ.alike Ar5.2.1) Ar5.2.2 (inb_of Sz5 ⟨by decide, by decide⟩) (Has.at Hs5 (inb_of Sz5 ⟨by decide, by decide⟩) rfl) (g := (mkF m 20 #[.val (.ref ba), .val (.ref bb), .val (.int (0 : Int32))] [(.int (0 : Int32)), (.ref bb), (.int x0)])) rfl rfl (hb hby d13_20) _ ?_
    exact kz
  by_cases hc21_6 : x0 = y0
  · refine Goes.via (S' := s₁.setTop (mkF m 11 #[.val (.ref ba), .val (.ref bb), .val (.int (1 : Int32))] [(.ref ba), (.int (1 : Int32))])) (fun tz kz => ?_) ?_
    · show Steps p.tables e below (s₁.setTop (mkF m 21 #[.val (.ref ba), .val (.ref bb), .val (.int (0 : Int32))] [(.int y0), (.int x0)])) _
      refine XS.icmpYes X0.here hx rfl (pc0 := 21) (pc' := 26) rfl (hb hby d13_21) rfl (teq hc21_6).1 (by decide) (by decide) ?_
      refine XS.iinc X0.here hx rfl (hb hby d13_26) rfl (l' := #[.val (.ref ba), .val (.ref bb), .val (.int (1 : Int32))]) rfl ?_
      refine XS.goto X0.here hx rfl (pc0 := 29) (pc' := 9) rfl (hb hby d13_29) (by decide) (by decide) ?_
      refine XS.iloadN X0.here hx rfl (hb hby d13_9) rfl ?_
      show Steps p.tables e below (s₁.setTop (mkF m 10 #[.val (.ref ba), .val (.ref bb), .val (.int (1 : Int32))] [(.int (1 : Int32))])) _
      refine XS.aloadN X0.here hx rfl (hb hby d13_10) rfl rfl ?_
      exact kz
    obtain ⟨cl7, Ar7, q7, Sz7, Nn7, Hs7, G7⟩ := (id A0)
    refine Goes.via (S' := s₁.setTop (mkF m 17 #[.val (.ref ba), .val (.ref bb), .val (.int (1 : Int32))] [(.int (1 : Int32)), (.ref ba)])) (fun tz kz => ?_) ?_
    · show Steps p.tables e below (s₁.setTop (mkF m 11 #[.val (.ref ba), .val (.ref bb), .val (.int (1 : Int32))] [(.ref ba), (.int (1 : Int32))])) _
      refine X0.arraylength hx (by rw [e0]; exact Ar7.1) (State.isArrayOf_alike hZ.alike Ar7.2.1) (g := (mkF m 11 #[.val (.ref ba), .val (.ref bb), .val (.int (1 : Int32))] [(.ref ba), (.int (1 : Int32))])) rfl rfl (hb hby d13_11) _ ?_
      rw [len_of Sz7 Nn7]
      refine XS.icmpNo X0.here hx rfl (hb hby d13_12) rfl (tlt (by decide)).2.1 ?_
      refine XS.aloadN X0.here hx rfl (hb hby d13_15) rfl rfl ?_
      refine XS.iloadN X0.here hx rfl (hb hby d13_16) rfl ?_
      exact kz
    obtain ⟨cl8, Ar8, q8, Sz8, Nn8, Hs8, G8⟩ := (id A0)
    refine Goes.via (S' := s₁.setTop (mkF m 20 #[.val (.ref ba), .val (.ref bb), .val (.int (1 : Int32))] [(.int (1 : Int32)), (.ref bb), (.int x1)])) (fun tz kz => ?_) ?_
    · show Steps p.tables e below (s₁.setTop (mkF m 17 #[.val (.ref ba), .val (.ref bb), .val (.int (1 : Int32))] [(.int (1 : Int32)), (.ref ba)])) _
      refine X0.baloadBytes hx (j := (1 : Int32)) (v := (.int x1)) (by rw [e0]; exact Ar8.1) (State.isArrayOf_alike hZ.alike Ar8.2.1) Ar8.2.2 (inb_of Sz8 ⟨by decide, by decide⟩) (Has.at Hs8 (inb_of Sz8 ⟨by decide, by decide⟩) rfl) (g := (mkF m 17 #[.val (.ref ba), .val (.ref bb), .val (.int (1 : Int32))] [(.int (1 : Int32)), (.ref ba)])) rfl rfl (hb hby d13_17) _ ?_
      refine XS.aloadN X0.here hx rfl (hb hby d13_18) rfl rfl ?_
      refine XS.iloadN X0.here hx rfl (hb hby d13_19) rfl ?_
      exact kz
    obtain ⟨cl9, Ar9, q9, Sz9, Nn9, Hs9, G9⟩ := (id B0)
    refine Goes.via (S' := s₁.setTop (mkF m 21 #[.val (.ref ba), .val (.ref bb), .val (.int (1 : Int32))] [(.int y1), (.int x1)])) (fun tz kz => ?_) ?_
    · show Steps p.tables e below (s₁.setTop (mkF m 20 #[.val (.ref ba), .val (.ref bb), .val (.int (1 : Int32))] [(.int (1 : Int32)), (.ref bb), (.int x1)])) _
      refine X0.baloadBytes hx (j := (1 : Int32)) (v := (.int y1)) (by rw [e0]; exact Ar9.1) (State.isArrayOf_alike hZ.alike Ar9.2.1) Ar9.2.2 (inb_of Sz9 ⟨by decide, by decide⟩) (Has.at Hs9 (inb_of Sz9 ⟨by decide, by decide⟩) rfl) (g := (mkF m 20 #[.val (.ref ba), .val (.ref bb), .val (.int (1 : Int32))] [(.int (1 : Int32)), (.ref bb), (.int x1)])) rfl rfl (hb hby d13_20) _ ?_
      exact kz
    by_cases hc21_10 : x1 = y1
    · refine Goes.via (S' := s₁.setTop (mkF m 11 #[.val (.ref ba), .val (.ref bb), .val (.int (2 : Int32))] [(.ref ba), (.int (2 : Int32))])) (fun tz kz => ?_) ?_
      · show Steps p.tables e below (s₁.setTop (mkF m 21 #[.val (.ref ba), .val (.ref bb), .val (.int (1 : Int32))] [(.int y1), (.int x1)])) _
        refine XS.icmpYes X0.here hx rfl (pc0 := 21) (pc' := 26) rfl (hb hby d13_21) rfl (teq hc21_10).1 (by decide) (by decide) ?_
        refine XS.iinc X0.here hx rfl (hb hby d13_26) rfl (l' := #[.val (.ref ba), .val (.ref bb), .val (.int (2 : Int32))]) rfl ?_
        refine XS.goto X0.here hx rfl (pc0 := 29) (pc' := 9) rfl (hb hby d13_29) (by decide) (by decide) ?_
        refine XS.iloadN X0.here hx rfl (hb hby d13_9) rfl ?_
        show Steps p.tables e below (s₁.setTop (mkF m 10 #[.val (.ref ba), .val (.ref bb), .val (.int (2 : Int32))] [(.int (2 : Int32))])) _
        refine XS.aloadN X0.here hx rfl (hb hby d13_10) rfl rfl ?_
        exact kz
      obtain ⟨cl11, Ar11, q11, Sz11, Nn11, Hs11, G11⟩ := (id A0)
      refine Goes.via (S' := s₁.setTop (mkF m 17 #[.val (.ref ba), .val (.ref bb), .val (.int (2 : Int32))] [(.int (2 : Int32)), (.ref ba)])) (fun tz kz => ?_) ?_
      · show Steps p.tables e below (s₁.setTop (mkF m 11 #[.val (.ref ba), .val (.ref bb), .val (.int (2 : Int32))] [(.ref ba), (.int (2 : Int32))])) _
        refine X0.arraylength hx (by rw [e0]; exact Ar11.1) (State.isArrayOf_alike hZ.alike Ar11.2.1) (g := (mkF m 11 #[.val (.ref ba), .val (.ref bb), .val (.int (2 : Int32))] [(.ref ba), (.int (2 : Int32))])) rfl rfl (hb hby d13_11) _ ?_
        rw [len_of Sz11 Nn11]
        refine XS.icmpNo X0.here hx rfl (hb hby d13_12) rfl (tlt (by decide)).2.1 ?_
        refine XS.aloadN X0.here hx rfl (hb hby d13_15) rfl rfl ?_
        refine XS.iloadN X0.here hx rfl (hb hby d13_16) rfl ?_
        exact kz
      obtain ⟨cl12, Ar12, q12, Sz12, Nn12, Hs12, G12⟩ := (id A0)
      refine Goes.via (S' := s₁.setTop (mkF m 20 #[.val (.ref ba), .val (.ref bb), .val (.int (2 : Int32))] [(.int (2 : Int32)), (.ref bb), (.int x2)])) (fun tz kz => ?_) ?_
      · show Steps p.tables e below (s₁.setTop (mkF m 17 #[.val (.ref ba), .val (.ref bb), .val (.int (2 : Int32))] [(.int (2 : Int32)), (.ref ba)])) _
        refine X0.baloadBytes hx (j := (2 : Int32)) (v := (.int x2)) (by rw [e0]; exact Ar12.1) (State.isArrayOf_alike hZ.alike Ar12.2.1) Ar12.2.2 (inb_of Sz12 ⟨by decide, by decide⟩) (Has.at Hs12 (inb_of Sz12 ⟨by decide, by decide⟩) rfl) (g := (mkF m 17 #[.val (.ref ba), .val (.ref bb), .val (.int (2 : Int32))] [(.int (2 : Int32)), (.ref ba)])) rfl rfl (hb hby d13_17) _ ?_
        refine XS.aloadN X0.here hx rfl (hb hby d13_18) rfl rfl ?_
        refine XS.iloadN X0.here hx rfl (hb hby d13_19) rfl ?_
        exact kz
      obtain ⟨cl13, Ar13, q13, Sz13, Nn13, Hs13, G13⟩ := (id B0)
      refine Goes.via (S' := s₁.setTop (mkF m 21 #[.val (.ref ba), .val (.ref bb), .val (.int (2 : Int32))] [(.int y2), (.int x2)])) (fun tz kz => ?_) ?_
      · show Steps p.tables e below (s₁.setTop (mkF m 20 #[.val (.ref ba), .val (.ref bb), .val (.int (2 : Int32))] [(.int (2 : Int32)), (.ref bb), (.int x2)])) _
        refine X0.baloadBytes hx (j := (2 : Int32)) (v := (.int y2)) (by rw [e0]; exact Ar13.1) (State.isArrayOf_alike hZ.alike Ar13.2.1) Ar13.2.2 (inb_of Sz13 ⟨by decide, by decide⟩) (Has.at Hs13 (inb_of Sz13 ⟨by decide, by decide⟩) rfl) (g := (mkF m 20 #[.val (.ref ba), .val (.ref bb), .val (.int (2 : Int32))] [(.int (2 : Int32)), (.ref bb), (.int x2)])) rfl rfl (hb hby d13_20) _ ?_
        exact kz
      by_cases hc21_14 : x2 = y2
      · refine Goes.via (S' := s₁.setTop (mkF m 11 #[.val (.ref ba), .val (.ref bb), .val (.int (3 : Int32))] [(.ref ba), (.int (3 : Int32))])) (fun tz kz => ?_) ?_
        · show Steps p.tables e below (s₁.setTop (mkF m 21 #[.val (.ref ba), .val (.ref bb), .val (.int (2 : Int32))] [(.int y2), (.int x2)])) _
          refine XS.icmpYes X0.here hx rfl (pc0 := 21) (pc' := 26) rfl (hb hby d13_21) rfl (teq hc21_14).1 (by decide) (by decide) ?_
          refine XS.iinc X0.here hx rfl (hb hby d13_26) rfl (l' := #[.val (.ref ba), .val (.ref bb), .val (.int (3 : Int32))]) rfl ?_
          refine XS.goto X0.here hx rfl (pc0 := 29) (pc' := 9) rfl (hb hby d13_29) (by decide) (by decide) ?_
          refine XS.iloadN X0.here hx rfl (hb hby d13_9) rfl ?_
          show Steps p.tables e below (s₁.setTop (mkF m 10 #[.val (.ref ba), .val (.ref bb), .val (.int (3 : Int32))] [(.int (3 : Int32))])) _
          refine XS.aloadN X0.here hx rfl (hb hby d13_10) rfl rfl ?_
          exact kz
        obtain ⟨cl15, Ar15, q15, Sz15, Nn15, Hs15, G15⟩ := (id A0)
        refine Goes.via (S' := s₁.setTop (mkF m 33 #[.val (.ref ba), .val (.ref bb), .val (.int (3 : Int32))] [(.int (1 : Int32))])) (fun tz kz => ?_) ?_
        · show Steps p.tables e below (s₁.setTop (mkF m 11 #[.val (.ref ba), .val (.ref bb), .val (.int (3 : Int32))] [(.ref ba), (.int (3 : Int32))])) _
          refine X0.arraylength hx (by rw [e0]; exact Ar15.1) (State.isArrayOf_alike hZ.alike Ar15.2.1) (g := (mkF m 11 #[.val (.ref ba), .val (.ref bb), .val (.int (3 : Int32))] [(.ref ba), (.int (3 : Int32))])) rfl rfl (hb hby d13_11) _ ?_
          rw [len_of Sz15 Nn15]
          refine XS.icmpYes X0.here hx rfl (pc0 := 12) (pc' := 32) rfl (hb hby d13_12) rfl (flt (by decide)).2.1 (by decide) (by decide) ?_
          refine XS.iconst X0.here hx rfl (hb hby d13_32) ?_
          exact kz
        exact Goes.retN X0 hx Bd.notSynchronized (t := .boolean) Bd.returns (by simp) (hb hby d13_33) (Nat.le_of_ble_eq_true rfl) (Nat.le_of_ble_eq_true rfl) ⟨congrArg (fun z => some (Value.int z)) (by simp [own_eqb, hc21_6, hc21_10, hc21_14]), N0, e0⟩
      · refine Goes.via (S' := s₁.setTop (mkF m 25 #[.val (.ref ba), .val (.ref bb), .val (.int (2 : Int32))] [(.int (0 : Int32))])) (fun tz kz => ?_) ?_
        · show Steps p.tables e below (s₁.setTop (mkF m 21 #[.val (.ref ba), .val (.ref bb), .val (.int (2 : Int32))] [(.int y2), (.int x2)])) _
          refine XS.icmpNo X0.here hx rfl (hb hby d13_21) rfl (feq hc21_14).1 ?_
          refine XS.iconst X0.here hx rfl (hb hby d13_24) ?_
          exact kz
        exact Goes.retN X0 hx Bd.notSynchronized (t := .boolean) Bd.returns (by simp) (hb hby d13_25) (Nat.le_of_ble_eq_true rfl) (Nat.le_of_ble_eq_true rfl) ⟨congrArg (fun z => some (Value.int z)) (by simp [own_eqb, hc21_6, hc21_10, hc21_14]), N0, e0⟩
    · refine Goes.via (S' := s₁.setTop (mkF m 25 #[.val (.ref ba), .val (.ref bb), .val (.int (1 : Int32))] [(.int (0 : Int32))])) (fun tz kz => ?_) ?_
      · show Steps p.tables e below (s₁.setTop (mkF m 21 #[.val (.ref ba), .val (.ref bb), .val (.int (1 : Int32))] [(.int y1), (.int x1)])) _
        refine XS.icmpNo X0.here hx rfl (hb hby d13_21) rfl (feq hc21_10).1 ?_
        refine XS.iconst X0.here hx rfl (hb hby d13_24) ?_
        exact kz
      exact Goes.retN X0 hx Bd.notSynchronized (t := .boolean) Bd.returns (by simp) (hb hby d13_25) (Nat.le_of_ble_eq_true rfl) (Nat.le_of_ble_eq_true rfl) ⟨congrArg (fun z => some (Value.int z)) (by simp [own_eqb, hc21_6, hc21_10]), N0, e0⟩
  · refine Goes.via (S' := s₁.setTop (mkF m 25 #[.val (.ref ba), .val (.ref bb), .val (.int (0 : Int32))] [(.int (0 : Int32))])) (fun tz kz => ?_) ?_
    · show Steps p.tables e below (s₁.setTop (mkF m 21 #[.val (.ref ba), .val (.ref bb), .val (.int (0 : Int32))] [(.int y0), (.int x0)])) _
      refine XS.icmpNo X0.here hx rfl (hb hby d13_21) rfl (feq hc21_6).1 ?_
      refine XS.iconst X0.here hx rfl (hb hby d13_24) ?_
      exact kz
    exact Goes.retN X0 hx Bd.notSynchronized (t := .boolean) Bd.returns (by simp) (hb hby d13_25) (Nat.le_of_ble_eq_true rfl) (Nat.le_of_ble_eq_true rfl) ⟨congrArg (fun z => some (Value.int z)) (by simp [own_eqb, hc21_6]), N0, e0⟩
def Q_rqs_33 (Z : State) (a1 : Addr) (a2 : Addr) (va vb : Addr) (ka kb : ClassId) (cs : Int32) (x0 x1 x2 y0 y1 y2 : Int32) (h0 : Heap) (n0 : Nat) : Option Value → Heap → List Loc → Prop := fun v h L => v = some (.int (nar .boolean (own_eqb [x0, x1, x2] [y0, y1, y2]))) ∧ Fr n0 L ∧ h = h0
set_option maxRecDepth 65536 in
set_option maxHeartbeats 40000000 in
theorem rqs_33 (l : Launch) (Z : State) (a0 : Array Value) (hw : ∀ d ∈ tables_1, d.before a0 Z = true) (ws : List Jvm.Cond) (a1 : Addr) (a2 : Addr) (va vb : Addr) (ka kb : ClassId) (cs : Int32) (x0 x1 x2 y0 y1 y2 : Int32) (h0 : Heap) (n0 : Nat) (Z0 : n0 ≤ h0.size) (SC : Sta Z Z.heap "java/lang/String" "COMPACT_STRINGS" "Z" (.int cs)) (hcs : ¬ cs = (0 : Int32)) (O0 : Old Z n0 h0) (SA : own_Str Z h0 a1 va ka (3 : Int32) [.int x0, .int x1, .int x2]) (SB : own_Str Z h0 a2 vb kb (3 : Int32) [.int y0, .int y1, .int y2]) (ne : a1 ≠ a2) :
    own_M l Z (⟨"java/lang/String", "equals", "(Ljava/lang/Object;)Z"⟩ : MethodName) (Jvm.Cond.code (⟨"java/lang/String", "equals", "(Ljava/lang/Object;)Z"⟩ : MethodName) jdk_42_method_66_code 3 (some .boolean)) ws ({ frames := 1, cells := 0, slots := 0, locals := 16 } : Room) #[(.ref a1), (.ref a2)] h0 (Q_rqs_33 Z a1 a2 va vb ka kb cs x0 x1 x2 y0 y1 y2 h0 n0) := by
  refine MetFree.of_bodySF (plainFor_of_name pn_12) hisR ?_
  intro p e s m args below meth c s₁ Bd hml0 hP hK
  obtain ⟨rfl, hZ, hh⟩ := hP
  have hx := Bd.exec
  have hby := Bd.bytes
  have hml : c.maxLocals = 3 := hml0
  have hown : s.vm.findClass "java/lang/String" = some m.cls := findClass_of_methodNamed Bd.named
  have hnm := (name_of_methodNamed Bd.named Bd.method).1
  have X0 : Stand p l e ({ frames := 1, cells := 0, slots := 0, locals := 16 } : Room) s m #[(.ref a1), (.ref a2)] below meth c s₁ [] 0 0 := Stand.of_body Bd
  have e0 : s₁.heap = h0 := by rw [← hh, Bd.state]; rfl
  have N0 := Fr.nil n0
  show Goes p e below (Fin s (Q_rqs_33 Z a1 a2 va vb ka kb cs x0 x1 x2 y0 y1 y2 h0 n0) ({ frames := 1, cells := 0, slots := 0, locals := 16 } : Room).cells ({ frames := 1, cells := 0, slots := 0, locals := 16 } : Room).slots) _
  refine Goes.via (S' := s₁.setTop (mkF m 0 #[.val (.ref a1), .val (.ref a2), .unset] [])) (fun tz kz => castTop (ef_12 m a1 a2 ) kz) ?_
  refine Goes.via (S' := s₁.setTop (mkF m 8 #[.val (.ref a1), .val (.ref a2), .unset] [(.ref a2)])) (fun tz kz => ?_) ?_
  · show Steps p.tables e below (s₁.setTop (mkF m 0 #[.val (.ref a1), .val (.ref a2), .unset] [])) _
    refine XS.aloadN X0.here hx rfl (hb hby d12_0) rfl rfl ?_
    refine XS.aloadN X0.here hx rfl (hb hby d12_1) rfl rfl ?_
    refine Jvm.RoadKit.acmp (g := (mkF m 2 #[.val (.ref a1), .val (.ref a2), .unset] [(.ref a2), (.ref a1)])) X0 hx rfl rfl rfl (pc0 := 2) (pc' := 7) (same := false) rfl (hb hby d12_2) rfl (decide_eq_false fun q => ne (Value.ref.inj q)) (by decide) (by decide) ?_
    refine XS.aloadN X0.here hx rfl (hb hby d12_7) rfl rfl ?_
    exact kz
  obtain ⟨T1, X1, e1, st1⟩ := instY X0 hx hZ hown (w_ hw 83 rfl) e0 (Ins.self SB.1) (g := (mkF m 8 #[.val (.ref a1), .val (.ref a2), .unset] [(.ref a2)])) rfl rfl (hb hby d12_8)
  refine Goes.via (S' := T1.setTop (mkF m 11 #[.val (.ref a1), .val (.ref a2), .unset] [(.int (1 : Int32))])) st1 ?_
  refine Goes.via (S' := T1.setTop (mkF m 15 #[.val (.ref a1), .val (.ref a2), .unset] [(.ref a2)])) (fun tz kz => ?_) ?_
  · show Steps p.tables e below (T1.setTop (mkF m 11 #[.val (.ref a1), .val (.ref a2), .unset] [(.int (1 : Int32))])) _
    refine XS.ifNo X1.here hx rfl (hb hby d12_11) rfl ((if0 _ _).trans (feq (by decide)).1) ?_
    refine XS.aloadN X1.here hx rfl (hb hby d12_14) rfl rfl ?_
    exact kz
  obtain ⟨T2, X2, e2, st2⟩ := castY X1 hx hZ hown (w_ hw 83 rfl) e1 (Ins.self SB.1) (g := (mkF m 15 #[.val (.ref a1), .val (.ref a2), .unset] [(.ref a2)])) rfl rfl (hb hby d12_15)
  refine Goes.via (S' := T2.setTop (mkF m 18 #[.val (.ref a1), .val (.ref a2), .unset] [(.ref a2)])) st2 ?_
  refine Goes.via (S' := T2.setTop (mkF m 19 #[.val (.ref a1), .val (.ref a2), .val (.ref a2)] [])) (fun tz kz => ?_) ?_
  · show Steps p.tables e below (T2.setTop (mkF m 18 #[.val (.ref a1), .val (.ref a2), .unset] [(.ref a2)])) _
    refine XS.astoreN X2.here hx rfl (hb hby d12_18) rfl rfl (l' := #[.val (.ref a1), .val (.ref a2), .val (.ref a2)]) rfl ?_
    exact kz
  obtain ⟨T3, X3, e3, st3⟩ := getS2 X2 hx hZ hown (host := "") (Or.inl (w_ hw 19 rfl)) Via.refl e2 (SC.ext O0.2) (g := (mkF m 19 #[.val (.ref a1), .val (.ref a2), .val (.ref a2)] [])) rfl (hb hby d12_19)
  refine Goes.via (S' := T3.setTop (mkF m 22 #[.val (.ref a1), .val (.ref a2), .val (.ref a2)] [(.int cs)])) st3 ?_
  refine Goes.via (S' := T3.setTop (mkF m 26 #[.val (.ref a1), .val (.ref a2), .val (.ref a2)] [(.ref a1)])) (fun tz kz => ?_) ?_
  · show Steps p.tables e below (T3.setTop (mkF m 22 #[.val (.ref a1), .val (.ref a2), .val (.ref a2)] [(.int cs)])) _
    refine XS.ifNo X3.here hx rfl (hb hby d12_22) rfl ((if0 _ _).trans (feq hcs).1) ?_
    refine XS.aloadN X3.here hx rfl (hb hby d12_25) rfl rfl ?_
    exact kz
  obtain ⟨T4, X4, e4, st4⟩ := getF X3 hx hZ hown (host := "") (Or.inl (w_ hw 31 rfl)) Via.refl e3 SA.2.1 (g := (mkF m 26 #[.val (.ref a1), .val (.ref a2), .val (.ref a2)] [(.ref a1)])) rfl rfl (hb hby d12_26)
  refine Goes.via (S' := T4.setTop (mkF m 29 #[.val (.ref a1), .val (.ref a2), .val (.ref a2)] [(.int (0 : Int32))])) st4 ?_
  refine Goes.via (S' := T4.setTop (mkF m 30 #[.val (.ref a1), .val (.ref a2), .val (.ref a2)] [(.ref a2), (.int (0 : Int32))])) (fun tz kz => ?_) ?_
  · show Steps p.tables e below (T4.setTop (mkF m 29 #[.val (.ref a1), .val (.ref a2), .val (.ref a2)] [(.int (0 : Int32))])) _
    refine XS.aloadN X4.here hx rfl (hb hby d12_29) rfl rfl ?_
    exact kz
  obtain ⟨T5, X5, e5, st5⟩ := getF X4 hx hZ hown (host := "") (Or.inl (w_ hw 31 rfl)) Via.refl e4 SB.2.1 (g := (mkF m 30 #[.val (.ref a1), .val (.ref a2), .val (.ref a2)] [(.ref a2), (.int (0 : Int32))])) rfl rfl (hb hby d12_30)
  refine Goes.via (S' := T5.setTop (mkF m 33 #[.val (.ref a1), .val (.ref a2), .val (.ref a2)] [(.int (0 : Int32)), (.int (0 : Int32))])) st5 ?_
  refine Goes.via (S' := T5.setTop (mkF m 37 #[.val (.ref a1), .val (.ref a2), .val (.ref a2)] [(.ref a1)])) (fun tz kz => ?_) ?_
  · show Steps p.tables e below (T5.setTop (mkF m 33 #[.val (.ref a1), .val (.ref a2), .val (.ref a2)] [(.int (0 : Int32)), (.int (0 : Int32))])) _
    refine XS.icmpNo X5.here hx rfl (hb hby d12_33) rfl (teq (by decide)).2 ?_
    refine XS.aloadN X5.here hx rfl (hb hby d12_36) rfl rfl ?_
    exact kz
  obtain ⟨T6, X6, e6, st6⟩ := getF X5 hx hZ hown (host := "") (Or.inl (w_ hw 33 rfl)) Via.refl e5 SA.2.2.1 (g := (mkF m 37 #[.val (.ref a1), .val (.ref a2), .val (.ref a2)] [(.ref a1)])) rfl rfl (hb hby d12_37)
  refine Goes.via (S' := T6.setTop (mkF m 40 #[.val (.ref a1), .val (.ref a2), .val (.ref a2)] [(.ref va)])) st6 ?_
  refine Goes.via (S' := T6.setTop (mkF m 41 #[.val (.ref a1), .val (.ref a2), .val (.ref a2)] [(.ref a2), (.ref va)])) (fun tz kz => ?_) ?_
  · show Steps p.tables e below (T6.setTop (mkF m 40 #[.val (.ref a1), .val (.ref a2), .val (.ref a2)] [(.ref va)])) _
    refine XS.aloadN X6.here hx rfl (hb hby d12_40) rfl rfl ?_
    exact kz
  obtain ⟨T7, X7, e7, st7⟩ := getF X6 hx hZ hown (host := "") (Or.inl (w_ hw 33 rfl)) Via.refl e6 SB.2.2.1 (g := (mkF m 41 #[.val (.ref a1), .val (.ref a2), .val (.ref a2)] [(.ref a2), (.ref va)])) rfl rfl (hb hby d12_41)
  refine Goes.via (S' := T7.setTop (mkF m 44 #[.val (.ref a1), .val (.ref a2), .val (.ref a2)] [(.ref vb), (.ref va)])) st7 ?_
  obtain ⟨_, _, ⟨T8, L8, k8, n8⟩, -, X8, ⟨Lc8, hQ8, l8, y8, z8⟩, st8⟩ := Jvm.LawKit.callS X7 hx (y := (⟨"java/lang/StringLatin1", "equals", "([B[B)Z"⟩ : MethodName)) hown (mvT hZ (w_ hw 84 rfl)) (mvT hZ (w_ hw 85 rfl)) (mvT hZ (w_ hw 86 rfl)) (mvT hZ (w_ hw 87 rfl)) (by decide) (backOf (W := 0) (req_33 l Z a0 hw [] va vb ka kb x0 x1 x2 y0 y1 y2 h0 n0 Z0 SA.2.2.2 SB.2.2.2) hZ (w_ hw 87 rfl) (w_ hw 86 rfl) (by decide) (by decide)) (g := (mkF m 44 #[.val (.ref a1), .val (.ref a2), .val (.ref a2)] [(.ref vb), (.ref va)])) rfl (by rw [hml]; rfl) (argsL := [(.ref va), (.ref vb)]) (rest := []) (lenOf pd_6 rfl) rfl (by show 2 * 0 + _ ≤ _; exact Nat.le_of_eq rfl) (hb hby d12_44) (fun _ _ => ⟨rfl, e7, (by decide : 0 + 0 ≤ _), (by decide : 0 + 0 ≤ _)⟩)
  dsimp only [Pt.U, Pt.locs, Pt.cells, Pt.slots] at X8 l8 y8 z8 st8 hQ8
  subst l8 y8 z8
  obtain ⟨rfl, N8, e8⟩ := hQ8
  have Nf8 := Fr.app N0 N8
  refine Goes.via (S' := T8.setTop (mkF m 47 #[.val (.ref a1), .val (.ref a2), .val (.ref a2)] [(.int (nar .boolean (own_eqb [x0, x1, x2] [y0, y1, y2])))])) (st8) ?_
  by_cases hc47_9 : (nar .boolean (own_eqb [x0, x1, x2] [y0, y1, y2])) = (0 : Int32)
  · refine Goes.via (S' := T8.setTop (mkF m 55 #[.val (.ref a1), .val (.ref a2), .val (.ref a2)] [(.int (0 : Int32))])) (fun tz kz => ?_) ?_
    · show Steps p.tables e below (T8.setTop (mkF m 47 #[.val (.ref a1), .val (.ref a2), .val (.ref a2)] [(.int (nar .boolean (own_eqb [x0, x1, x2] [y0, y1, y2])))])) _
      refine XS.ifYes X8.here hx rfl (pc0 := 47) (pc' := 54) rfl (hb hby d12_47) rfl ((if0 _ _).trans (teq hc47_9).1) (by decide) (by decide) ?_
      refine XS.iconst X8.here hx rfl (hb hby d12_54) ?_
      exact kz
    exact Goes.retN X8 hx Bd.notSynchronized (t := .boolean) Bd.returns (by simp) (hb hby d12_55) (Nat.le_of_ble_eq_true rfl) (Nat.le_of_ble_eq_true rfl) ⟨congrArg (fun z => some (Value.int z)) (own_eq0 hc47_9), Nf8, e8⟩
  · refine Goes.via (S' := T8.setTop (mkF m 55 #[.val (.ref a1), .val (.ref a2), .val (.ref a2)] [(.int (1 : Int32))])) (fun tz kz => ?_) ?_
    · show Steps p.tables e below (T8.setTop (mkF m 47 #[.val (.ref a1), .val (.ref a2), .val (.ref a2)] [(.int (nar .boolean (own_eqb [x0, x1, x2] [y0, y1, y2])))])) _
      refine XS.ifNo X8.here hx rfl (hb hby d12_47) rfl ((if0 _ _).trans (feq hc47_9).1) ?_
      refine XS.iconst X8.here hx rfl (hb hby d12_50) ?_
      refine XS.goto X8.here hx rfl (pc0 := 51) (pc' := 55) rfl (hb hby d12_51) (by decide) (by decide) ?_
      exact kz
    exact Goes.retN X8 hx Bd.notSynchronized (t := .boolean) Bd.returns (by simp) (hb hby d12_55) (Nat.le_of_ble_eq_true rfl) (Nat.le_of_ble_eq_true rfl) ⟨congrArg (fun z => some (Value.int z)) (own_eq1 hc47_9), Nf8, e8⟩
def Q_rqs (Z : State) (a1 a2 va vb : Addr) (n c0 c1 c2 m d0 d1 d2 : Int32) (h0 : Heap) (n0 : Nat) : Option Value → Heap → List Loc → Prop := fun v h L => v = some (.int (nar .boolean (own_eqb (own_ls n c0 c1 c2) (own_ls m d0 d1 d2)))) ∧ Fr n0 L ∧ h = h0
theorem rqs (l : Launch) (Z : State) (a0 : Array Value) (hw : ∀ d ∈ tables_1, d.before a0 Z = true) (a1 a2 va vb : Addr) (ka kb : ClassId) (cs n c0 c1 c2 m d0 d1 d2 : Int32) (h0 : Heap) (n0 : Nat) (Z0 : n0 ≤ h0.size) (hn : own_4 n) (hm : own_4 m) (SC : Sta Z Z.heap "java/lang/String" "COMPACT_STRINGS" "Z" (.int cs)) (hcs : ¬ cs = (0 : Int32)) (O0 : Old Z n0 h0) (SA : own_Str Z h0 a1 va ka n (own_vs (own_ls n c0 c1 c2))) (SB : own_Str Z h0 a2 vb kb m (own_vs (own_ls m d0 d1 d2))) (ne : a1 ≠ a2) :
    MetFree l (⟨"java/lang/String", "equals", "(Ljava/lang/Object;)Z"⟩ : MethodName) (head1 (Jvm.Cond.code (⟨"java/lang/String", "equals", "(Ljava/lang/Object;)Z"⟩ : MethodName) jdk_42_method_66_code 3 (some .boolean) :: []) ({ frames := 1, cells := 0, slots := 0, locals := 16 } : Room)) (fun a U => a = #[.ref a1, .ref a2] ∧ Z.Warmed39 U.vm ∧ U.heap = h0) (fun _ _ _ _ _ => True) (fun _ U oo U' => ∃ vv LL, oo = .returned vv ∧ (Q_rqs Z a1 a2 va vb n c0 c1 c2 m d0 d1 d2 h0 n0) vv U'.heap LL ∧ FrameEnd U oo U' LL ({ frames := 1, cells := 0, slots := 0, locals := 16 } : Room).cells ({ frames := 1, cells := 0, slots := 0, locals := 16 } : Room).slots) := by
  rcases hn with rfl | rfl | rfl | rfl <;> rcases hm with rfl | rfl | rfl | rfl
  · exact rqs_00 l Z a0 hw [] a1 a2 va vb ka kb cs  h0 n0 Z0 SC hcs O0 SA SB ne
  · exact rqs_01 l Z a0 hw [] a1 a2 va vb ka kb cs (own_by d0) h0 n0 Z0 SC hcs O0 SA SB ne
  · exact rqs_02 l Z a0 hw [] a1 a2 va vb ka kb cs (own_by d0) (own_by d1) h0 n0 Z0 SC hcs O0 SA SB ne
  · exact rqs_03 l Z a0 hw [] a1 a2 va vb ka kb cs (own_by d0) (own_by d1) (own_by d2) h0 n0 Z0 SC hcs O0 SA SB ne
  · exact rqs_10 l Z a0 hw [] a1 a2 va vb ka kb cs (own_by c0) h0 n0 Z0 SC hcs O0 SA SB ne
  · exact rqs_11 l Z a0 hw [] a1 a2 va vb ka kb cs (own_by c0) (own_by d0) h0 n0 Z0 SC hcs O0 SA SB ne
  · exact rqs_12 l Z a0 hw [] a1 a2 va vb ka kb cs (own_by c0) (own_by d0) (own_by d1) h0 n0 Z0 SC hcs O0 SA SB ne
  · exact rqs_13 l Z a0 hw [] a1 a2 va vb ka kb cs (own_by c0) (own_by d0) (own_by d1) (own_by d2) h0 n0 Z0 SC hcs O0 SA SB ne
  · exact rqs_20 l Z a0 hw [] a1 a2 va vb ka kb cs (own_by c0) (own_by c1) h0 n0 Z0 SC hcs O0 SA SB ne
  · exact rqs_21 l Z a0 hw [] a1 a2 va vb ka kb cs (own_by c0) (own_by c1) (own_by d0) h0 n0 Z0 SC hcs O0 SA SB ne
  · exact rqs_22 l Z a0 hw [] a1 a2 va vb ka kb cs (own_by c0) (own_by c1) (own_by d0) (own_by d1) h0 n0 Z0 SC hcs O0 SA SB ne
  · exact rqs_23 l Z a0 hw [] a1 a2 va vb ka kb cs (own_by c0) (own_by c1) (own_by d0) (own_by d1) (own_by d2) h0 n0 Z0 SC hcs O0 SA SB ne
  · exact rqs_30 l Z a0 hw [] a1 a2 va vb ka kb cs (own_by c0) (own_by c1) (own_by c2) h0 n0 Z0 SC hcs O0 SA SB ne
  · exact rqs_31 l Z a0 hw [] a1 a2 va vb ka kb cs (own_by c0) (own_by c1) (own_by c2) (own_by d0) h0 n0 Z0 SC hcs O0 SA SB ne
  · exact rqs_32 l Z a0 hw [] a1 a2 va vb ka kb cs (own_by c0) (own_by c1) (own_by c2) (own_by d0) (own_by d1) h0 n0 Z0 SC hcs O0 SA SB ne
  · exact rqs_33 l Z a0 hw [] a1 a2 va vb ka kb cs (own_by c0) (own_by c1) (own_by c2) (own_by d0) (own_by d1) (own_by d2) h0 n0 Z0 SC hcs O0 SA SB ne
def own_is (kk b2 : Addr) (xs ys : List Int32) : Int32 := if kk = b2 then nar .boolean (own_eqb xs ys) else 0
theorem d11_0 : decode prog_55_method_2_code 0 = .ok (.aload_n 0, 1) := by decide +kernel
theorem d11_1 : decode prog_55_method_2_code 1 = .ok (.getfield 7, 3) := by decide +kernel
theorem d11_4 : decode prog_55_method_2_code 4 = .ok (.getstatic 24, 3) := by decide +kernel
theorem d11_7 : decode prog_55_method_2_code 7 = .ok (.if_acmp .ne 18, 3) := by decide +kernel
theorem d11_10 : decode prog_55_method_2_code 10 = .ok (.aload_n 0, 1) := by decide +kernel
theorem d11_11 : decode prog_55_method_2_code 11 = .ok (.getfield 13, 3) := by decide +kernel
theorem d11_14 : decode prog_55_method_2_code 14 = .ok (.aload_n 1, 1) := by decide +kernel
theorem d11_15 : decode prog_55_method_2_code 15 = .ok (.invokevirtual 29, 3) := by decide +kernel
theorem d11_18 : decode prog_55_method_2_code 18 = .ok (.ifCond .eq 7, 3) := by decide +kernel
theorem d11_21 : decode prog_55_method_2_code 21 = .ok (.iconst 1, 1) := by decide +kernel
theorem d11_22 : decode prog_55_method_2_code 22 = .ok (.goto 4, 3) := by decide +kernel
theorem d11_25 : decode prog_55_method_2_code 25 = .ok (.iconst 0, 1) := by decide +kernel
theorem d11_26 : decode prog_55_method_2_code 26 = .ok (.ireturn, 1) := by decide +kernel
theorem pn_11 : plainName "com/example/loopwright/loopwright/Lexer$Token" = true := by first | (simp [plainName, overriddenIn]; done) | decide +kernel
theorem ef_11 (m : MethodId) (x0 : Addr) (x1 : Addr) : entryFrame m #[(.ref x0), (.ref x1)] 2 = mkF m 0 #[.val (.ref x0), .val (.ref x1)] [] := by first | (simp [entryFrame, mkF, argsToLocals, Value.category]; done) | rfl
def Q_rm11 (Z : State) (a1 : Addr) (sy : Addr) (kk b2 tt va vb : Addr) (ka kb : ClassId) (cs n c0 c1 c2 m1 d0 d1 d2 : Int32) (h0 : Heap) (n0 : Nat) : Option Value → Heap → List Loc → Prop := fun v h L => v = some (.int (own_is kk b2 (own_ls n c0 c1 c2) (own_ls m1 d0 d1 d2))) ∧ Fr n0 L ∧ h = h0
set_option maxRecDepth 65536 in
set_option maxHeartbeats 40000000 in
theorem rm11 (l : Launch) (Z : State) (a0 : Array Value) (hw : ∀ d ∈ tables_1, d.before a0 Z = true) (ws : List Jvm.Cond) (a1 : Addr) (sy : Addr) (kk b2 tt va vb : Addr) (ka kb : ClassId) (cs n c0 c1 c2 m1 d0 d1 d2 : Int32) (h0 : Heap) (n0 : Nat) (Z0 : n0 ≤ h0.size) (E1 : Exa Z h0 a1 "com/example/loopwright/loopwright/Lexer$Token") (F1 : Fld Z h0 a1 "com/example/loopwright/loopwright/Lexer$Token" "kind" "Lcom/example/loopwright/loopwright/Lexer$Kind;" (.ref kk)) (F2 : Fld Z h0 a1 "com/example/loopwright/loopwright/Lexer$Token" "text" "Ljava/lang/String;" (.ref tt)) (S2 : Sta Z Z.heap "com/example/loopwright/loopwright/Lexer$Kind" "SYMBOL" "Lcom/example/loopwright/loopwright/Lexer$Kind;" (.ref b2)) (hn : own_4 n) (hm1 : own_4 m1) (SC : Sta Z Z.heap "java/lang/String" "COMPACT_STRINGS" "Z" (.int cs)) (hcs : ¬ cs = (0 : Int32)) (O0 : Old Z n0 h0) (SA : own_Str Z h0 tt va ka n (own_vs (own_ls n c0 c1 c2))) (SB : own_Str Z h0 sy vb kb m1 (own_vs (own_ls m1 d0 d1 d2))) (ne : tt ≠ sy) :
    own_M l Z (⟨"com/example/loopwright/loopwright/Lexer$Token", "is", "(Ljava/lang/String;)Z"⟩ : MethodName) (Jvm.Cond.code (⟨"com/example/loopwright/loopwright/Lexer$Token", "is", "(Ljava/lang/String;)Z"⟩ : MethodName) prog_55_method_2_code 2 (some .boolean)) ws ({ frames := 2, cells := 0, slots := 0, locals := 32 } : Room) #[(.ref a1), (.ref sy)] h0 (Q_rm11 Z a1 sy kk b2 tt va vb ka kb cs n c0 c1 c2 m1 d0 d1 d2 h0 n0) := by
  refine MetFree.of_bodySF (plainFor_of_name pn_11) hisR ?_
  intro p e s m args below meth c s₁ Bd hml0 hP hK
  obtain ⟨rfl, hZ, hh⟩ := hP
  have hx := Bd.exec
  have hby := Bd.bytes
  have hml : c.maxLocals = 2 := hml0
  have hown : s.vm.findClass "com/example/loopwright/loopwright/Lexer$Token" = some m.cls := findClass_of_methodNamed Bd.named
  have hnm := (name_of_methodNamed Bd.named Bd.method).1
  have X0 : Stand p l e ({ frames := 2, cells := 0, slots := 0, locals := 32 } : Room) s m #[(.ref a1), (.ref sy)] below meth c s₁ [] 0 0 := Stand.of_body Bd
  have e0 : s₁.heap = h0 := by rw [← hh, Bd.state]; rfl
  have N0 := Fr.nil n0
  show Goes p e below (Fin s (Q_rm11 Z a1 sy kk b2 tt va vb ka kb cs n c0 c1 c2 m1 d0 d1 d2 h0 n0) ({ frames := 2, cells := 0, slots := 0, locals := 32 } : Room).cells ({ frames := 2, cells := 0, slots := 0, locals := 32 } : Room).slots) _
  refine Goes.via (S' := s₁.setTop (mkF m 0 #[.val (.ref a1), .val (.ref sy)] [])) (fun tz kz => castTop (ef_11 m a1 sy ) kz) ?_
  refine Goes.via (S' := s₁.setTop (mkF m 1 #[.val (.ref a1), .val (.ref sy)] [(.ref a1)])) (fun tz kz => ?_) ?_
  · show Steps p.tables e below (s₁.setTop (mkF m 0 #[.val (.ref a1), .val (.ref sy)] [])) _
    refine XS.aloadN X0.here hx rfl (hb hby d11_0) rfl rfl ?_
    exact kz
  obtain ⟨T1, X1, e1, st1⟩ := getF X0 hx hZ hown (host := "") (Or.inl (w_ hw 53 rfl)) Via.refl e0 F1 (g := (mkF m 1 #[.val (.ref a1), .val (.ref sy)] [(.ref a1)])) rfl rfl (hb hby d11_1)
  refine Goes.via (S' := T1.setTop (mkF m 4 #[.val (.ref a1), .val (.ref sy)] [(.ref kk)])) st1 ?_
  obtain ⟨T2, X2, e2, st2⟩ := getS2 X1 hx hZ hown (host := "") (Or.inl (w_ hw 66 rfl)) Via.refl e1 (S2.ext O0.2) (g := (mkF m 4 #[.val (.ref a1), .val (.ref sy)] [(.ref kk)])) rfl (hb hby d11_4)
  refine Goes.via (S' := T2.setTop (mkF m 7 #[.val (.ref a1), .val (.ref sy)] [(.ref b2), (.ref kk)])) st2 ?_
  by_cases hc7_3 : kk = b2
  · refine Goes.via (S' := T2.setTop (mkF m 11 #[.val (.ref a1), .val (.ref sy)] [(.ref a1)])) (fun tz kz => ?_) ?_
    · show Steps p.tables e below (T2.setTop (mkF m 7 #[.val (.ref a1), .val (.ref sy)] [(.ref b2), (.ref kk)])) _
      refine Jvm.RoadKit.acmp (g := (mkF m 7 #[.val (.ref a1), .val (.ref sy)] [(.ref b2), (.ref kk)])) X2 hx rfl rfl rfl (pc0 := 7) (pc' := 10) (same := true) rfl (hb hby d11_7) rfl (decide_eq_true (congrArg Value.ref hc7_3)) (by decide) (by decide) ?_
      refine XS.aloadN X2.here hx rfl (hb hby d11_10) rfl rfl ?_
      exact kz
    obtain ⟨T4, X4, e4, st4⟩ := getF X2 hx hZ hown (host := "") (Or.inl (w_ hw 55 rfl)) Via.refl e2 F2 (g := (mkF m 11 #[.val (.ref a1), .val (.ref sy)] [(.ref a1)])) rfl rfl (hb hby d11_11)
    refine Goes.via (S' := T4.setTop (mkF m 14 #[.val (.ref a1), .val (.ref sy)] [(.ref tt)])) st4 ?_
    refine Goes.via (S' := T4.setTop (mkF m 15 #[.val (.ref a1), .val (.ref sy)] [(.ref sy), (.ref tt)])) (fun tz kz => ?_) ?_
    · show Steps p.tables e below (T4.setTop (mkF m 14 #[.val (.ref a1), .val (.ref sy)] [(.ref tt)])) _
      refine XS.aloadN X4.here hx rfl (hb hby d11_14) rfl rfl ?_
      exact kz
    obtain ⟨cq5, kq5, q5a, q5b, q5c⟩ := isOf hZ e4 SA.1
    obtain ⟨_, _, ⟨T5, L5, k5, n5⟩, -, X5, ⟨Lc5, hQ5, l5, y5, z5⟩, st5⟩ := X4.virtualBack hx (y := (⟨"java/lang/String", "equals", "(Ljava/lang/Object;)Z"⟩ : MethodName)) (z := (⟨"java/lang/String", "equals", "(Ljava/lang/Object;)Z"⟩ : MethodName)) hown (mvT hZ (w_ hw 78 rfl)) (mvT hZ (w_ hw 79 rfl)) (notFace_of_selects (args := #[]) (mvT hZ (w_ hw 81 rfl))) (mvT hZ (w_ hw 81 rfl)) (mvT hZ (w_ hw 80 rfl)) (by decide) (backOf (W := 0) (rqs l Z a0 hw tt sy va vb ka kb cs n c0 c1 c2 m1 d0 d1 d2 h0 n0 Z0 hn hm1 SC hcs O0 SA SB ne) hZ (w_ hw 82 rfl) (w_ hw 7 rfl) (by decide) (by decide)) q5a q5c (g := (mkF m 15 #[.val (.ref a1), .val (.ref sy)] [(.ref sy), (.ref tt)])) rfl (by rw [hml]; rfl) (Steps.refl _) (argsL := [(.ref sy)]) (rest := []) (lenOf pd_7 rfl) rfl (by show 2 * 0 + _ ≤ _; exact Nat.le_of_eq rfl) (hb hby d11_15) (fun _ _ => ⟨rfl, e4, (by decide : 0 + 0 ≤ _), (by decide : 0 + 0 ≤ _)⟩)
    dsimp only [Pt.U, Pt.locs, Pt.cells, Pt.slots] at X5 l5 y5 z5 st5 hQ5
    subst l5 y5 z5
    obtain ⟨rfl, N5, e5⟩ := hQ5
    have Nf5 := Fr.app N0 N5
    refine Goes.via (S' := T5.setTop (mkF m 18 #[.val (.ref a1), .val (.ref sy)] [(.int (nar .boolean (own_eqb (own_ls n c0 c1 c2) (own_ls m1 d0 d1 d2))))])) (fun _ kz => st5.trans kz) ?_
    by_cases hc18_6 : (nar .boolean (own_eqb (own_ls n c0 c1 c2) (own_ls m1 d0 d1 d2))) = (0 : Int32)
    · refine Goes.via (S' := T5.setTop (mkF m 26 #[.val (.ref a1), .val (.ref sy)] [(.int (0 : Int32))])) (fun tz kz => ?_) ?_
      · show Steps p.tables e below (T5.setTop (mkF m 18 #[.val (.ref a1), .val (.ref sy)] [(.int (nar .boolean (own_eqb (own_ls n c0 c1 c2) (own_ls m1 d0 d1 d2))))])) _
        refine XS.ifYes X5.here hx rfl (pc0 := 18) (pc' := 25) rfl (hb hby d11_18) rfl ((if0 _ _).trans (teq hc18_6).1) (by decide) (by decide) ?_
        refine XS.iconst X5.here hx rfl (hb hby d11_25) ?_
        exact kz
      exact Goes.retN X5 hx Bd.notSynchronized (t := .boolean) Bd.returns (by simp) (hb hby d11_26) (Nat.le_of_ble_eq_true rfl) (Nat.le_of_ble_eq_true rfl) ⟨congrArg (fun z => some (Value.int z)) (by unfold own_is; rw [if_pos hc7_3]; exact own_eq0 hc18_6), Nf5, e5⟩
    · refine Goes.via (S' := T5.setTop (mkF m 26 #[.val (.ref a1), .val (.ref sy)] [(.int (1 : Int32))])) (fun tz kz => ?_) ?_
      · show Steps p.tables e below (T5.setTop (mkF m 18 #[.val (.ref a1), .val (.ref sy)] [(.int (nar .boolean (own_eqb (own_ls n c0 c1 c2) (own_ls m1 d0 d1 d2))))])) _
        refine XS.ifNo X5.here hx rfl (hb hby d11_18) rfl ((if0 _ _).trans (feq hc18_6).1) ?_
        refine XS.iconst X5.here hx rfl (hb hby d11_21) ?_
        refine XS.goto X5.here hx rfl (pc0 := 22) (pc' := 26) rfl (hb hby d11_22) (by decide) (by decide) ?_
        exact kz
      exact Goes.retN X5 hx Bd.notSynchronized (t := .boolean) Bd.returns (by simp) (hb hby d11_26) (Nat.le_of_ble_eq_true rfl) (Nat.le_of_ble_eq_true rfl) ⟨congrArg (fun z => some (Value.int z)) (by unfold own_is; rw [if_pos hc7_3]; exact own_eq1 hc18_6), Nf5, e5⟩
  · refine Goes.via (S' := T2.setTop (mkF m 26 #[.val (.ref a1), .val (.ref sy)] [(.int (0 : Int32))])) (fun tz kz => ?_) ?_
    · show Steps p.tables e below (T2.setTop (mkF m 7 #[.val (.ref a1), .val (.ref sy)] [(.ref b2), (.ref kk)])) _
      refine Jvm.RoadKit.acmp (g := (mkF m 7 #[.val (.ref a1), .val (.ref sy)] [(.ref b2), (.ref kk)])) X2 hx rfl rfl rfl (pc0 := 7) (pc' := 25) (same := false) rfl (hb hby d11_7) rfl (decide_eq_false fun q => hc7_3 (Value.ref.inj q)) (by decide) (by decide) ?_
      refine XS.iconst X2.here hx rfl (hb hby d11_25) ?_
      exact kz
    exact Goes.retN X2 hx Bd.notSynchronized (t := .boolean) Bd.returns (by simp) (hb hby d11_26) (Nat.le_of_ble_eq_true rfl) (Nat.le_of_ble_eq_true rfl) ⟨congrArg (fun z => some (Value.int z)) (by unfold own_is; rw [if_neg hc7_3]; rfl), N0, e2⟩
def own_u8 (x : Int32) : Prop := x &&& (255 : Int32) = x
theorem own_u8.and (x : Int32) : own_u8 (x &&& (255 : Int32)) := by unfold own_u8; rw [Int32.and_assoc, Int32.and_self]
theorem own_u8.zero : own_u8 0 := by unfold own_u8; decide
theorem own_u8.xor {x y : Int32} (h : own_u8 x) (k : own_u8 y) : own_u8 (x ^^^ y) := by
  unfold own_u8 at *
  have e : (x ^^^ y) &&& (255 : Int32) = (x &&& (255 : Int32)) ^^^ (y &&& (255 : Int32)) := by
    apply Int32.toBitVec_inj.mp
    rw [Int32.toBitVec_and, Int32.toBitVec_xor, Int32.toBitVec_xor, Int32.toBitVec_and, Int32.toBitVec_and]
    apply BitVec.eq_of_getLsbD_eq
    intro i hi
    simp only [BitVec.getLsbD_and, BitVec.getLsbD_xor]
    cases x.toBitVec.getLsbD i <;> cases y.toBitVec.getLsbD i <;> cases (Int32.toBitVec 255).getLsbD i <;> rfl
  rw [e, h, k]
theorem own_u8.le {x : Int32} (h : own_u8 x) : 0 ≤ x.toInt ∧ x.toInt ≤ 255 := by
  have q := c_and x 255 (by decide)
  rw [h] at q
  exact ⟨q.1, Int.le_trans q.2 (by decide)⟩
theorem own_u8.i2c {x : Int32} (h : own_u8 x) : x.toUInt32.toUInt16.toUInt32.toInt32 = x := by
  have q := c_i2c x; have r := h.le
  exact Int32.toInt_inj.mp (by omega)
theorem own_u8.c {x : Int32} (h : own_u8 x) : own_u8 x.toUInt32.toUInt16.toUInt32.toInt32 := by rw [h.i2c]; exact h
theorem own_u8.sm {x : Int32} (h : own_u8 x) : ¬ (255 : Int32) < x := fun q => by
  have q := Int32.lt_iff_toInt_lt.mp q; have r := h.le
  have z : (255 : Int32).toInt = 255 := by decide
  omega
theorem own_u8.nc {x : Int32} (h : own_u8 x) : nar .char x = x := h.i2c
theorem own_u8.ite {P : Prop} [Decidable P] {x y r : Int32} (hr : r = if P then x else y) (h : own_u8 x) (k : own_u8 y) : own_u8 r := by rw [hr]; split <;> assumption
theorem own_and4 (x : Int32) : own_4 (x &&& (3 : Int32)) := by
  have h := c_and x 3 (by decide)
  have z3 : (3 : Int32).toInt = 3 := by decide
  have : (x &&& (3 : Int32)).toInt = 0 ∨ (x &&& (3 : Int32)).toInt = 1 ∨ (x &&& (3 : Int32)).toInt = 2 ∨ (x &&& (3 : Int32)).toInt = 3 := by omega
  rcases this with q | q | q | q
  · exact Or.inl (Int32.toInt_inj.mp q)
  · exact Or.inr (Or.inl (Int32.toInt_inj.mp q))
  · exact Or.inr (Or.inr (Or.inl (Int32.toInt_inj.mp q)))
  · exact Or.inr (Or.inr (Or.inr (Int32.toInt_inj.mp q)))
theorem own_ite4 {P : Prop} [Decidable P] {x y r : Int32} (hr : r = if P then x else y) (h : own_4 x) (k : own_4 y) : own_4 r := by rw [hr]; split <;> assumption
theorem own_byi {x y : Int32} (h : own_u8 x) (k : own_u8 y) : own_by x = own_by y ↔ y = x := by
  constructor
  · intro q
    have e1 : own_by x = x.toInt8.toInt32 := by show x.toInt8.toInt32.toInt8.toInt32 = _; rw [Int8.toInt8_toInt32]
    have e2 : own_by y = y.toInt8.toInt32 := by show y.toInt8.toInt32.toInt8.toInt32 = _; rw [Int8.toInt8_toInt32]
    rw [e1, e2] at q
    have a := c_i2b x; have b := c_i2b y; have r := h.le; have r' := k.le
    rw [q] at a
    exact Int32.toInt_inj.mp (by omega)
  · rintro rfl; rfl
def own_ex (ki n m t0 t1 t2 s0 s1 s2 : Int32) : Int32 := if ki = 2 then nar .boolean (own_eqb (own_ls n t0 t1 t2) (own_ls m s0 s1 s2)) else 0
theorem own_isx {ki : Int32} {b0 b1 b2 b3 b4 b5 : Addr} (h0 : b0 ≠ b2) (h1 : b1 ≠ b2) (h3 : b3 ≠ b2) (h4 : b4 ≠ b2) (h5 : b5 ≠ b2) (n m t0 t1 t2 s0 s1 s2 : Int32) : own_is (own_pk b0 b1 b2 b3 b4 b5 ki) b2 (own_ls n t0 t1 t2) (own_ls m s0 s1 s2) = own_ex ki n m t0 t1 t2 s0 s1 s2 := by
  unfold own_is own_ex own_pk
  by_cases q0 : ki = 0
  · subst q0; rw [if_pos rfl, if_neg h0, if_neg (by decide)]
  rw [if_neg q0]
  by_cases q1 : ki = 1
  · subst q1; rw [if_pos rfl, if_neg h1, if_neg (by decide)]
  rw [if_neg q1]
  by_cases q2 : ki = 2
  · rw [if_pos q2, if_pos rfl, if_pos q2]
  rw [if_neg q2, if_neg q2]
  by_cases q3 : ki = 3
  · rw [if_pos q3, if_neg h3]
  rw [if_neg q3]
  by_cases q4 : ki = 4
  · rw [if_pos q4, if_neg h4]
  rw [if_neg q4, if_neg h5]
theorem own_nest (ki n m t0 t1 t2 s0 s1 s2 : Int32) (hn : own_4 n) (hm : own_4 m) (ut0 : own_u8 t0) (ut1 : own_u8 t1) (ut2 : own_u8 t2) (us0 : own_u8 s0) (us1 : own_u8 s1) (us2 : own_u8 s2) : (if ki = (2 : Int32) then (if n = m then (if n < (1 : Int32) then (if n < (2 : Int32) then (if n < (3 : Int32) then (1 : Int32) else (if s2 = t2 then (1 : Int32) else (0 : Int32))) else (if s1 = t1 then (if n < (3 : Int32) then (1 : Int32) else (if s2 = t2 then (1 : Int32) else (0 : Int32))) else (0 : Int32))) else (if s0 = t0 then (if n < (2 : Int32) then (if n < (3 : Int32) then (1 : Int32) else (if s2 = t2 then (1 : Int32) else (0 : Int32))) else (if s1 = t1 then (if n < (3 : Int32) then (1 : Int32) else (if s2 = t2 then (1 : Int32) else (0 : Int32))) else (0 : Int32))) else (0 : Int32))) else (0 : Int32)) else (0 : Int32)) = own_ex ki n m t0 t1 t2 s0 s1 s2 := by
  unfold own_ex own_eqb
  by_cases hk : ki = 2
  · rw [if_pos hk, if_pos hk]
    have i0 := own_byi ut0 us0
    have i1 := own_byi ut1 us1
    have i2 := own_byi ut2 us2
    by_cases e0 : s0 = t0 <;> by_cases e1 : s1 = t1 <;> by_cases e2 : s2 = t2 <;> rcases hn with rfl | rfl | rfl | rfl <;> rcases hm with rfl | rfl | rfl | rfl <;> simp [own_ls, i0, i1, i2, e0, e1, e2] <;> rfl
  · rw [if_neg hk, if_neg hk]
theorem pn_0 : plainName "com/example/loopwright/loopwright/TokenIsPinLaw" = true := by first | (simp [plainName, overriddenIn]; done) | decide +kernel
theorem ef_0 (m : MethodId) (x0 : Int32) (x1 : Int32) (x2 : Int32) (x3 : Int32) (x4 : Int32) (x5 : Int32) : entryFrame m #[(.int x0), (.int x1), (.int x2), (.int x3), (.int x4), (.int x5)] maxLocals = mkF m 0 #[.val (.int x0), .val (.int x1), .val (.int x2), .val (.int x3), .val (.int x4), .val (.int x5), .unset, .unset, .unset, .unset, .unset, .unset, .unset, .unset, .unset, .unset, .unset, .unset, .unset, .unset, .unset, .unset, .unset] [] := by first | (simp [entryFrame, mkF, argsToLocals, Value.category, maxLocals]; done) | rfl
def Q_rm0 (Z : State) (p1 : Int32) (p2 : Int32) (p3 : Int32) (p4 : Int32) (p5 : Int32) (p6 : Int32) (b0 b1 b2 b3 b4 b5 : Addr) (cs : Int32) (h0 : Heap) (n0 : Nat) : Option Value → Heap → List Loc → Prop := fun v h L => v = some (.int 1) ∧ Fr n0 L
set_option maxRecDepth 65536 in
set_option maxHeartbeats 40000000 in
theorem rm0 (l : Launch) (Z : State) (a0 : Array Value) (hw : ∀ d ∈ tables_1, d.before a0 Z = true) (ws : List Jvm.Cond) (p1 : Int32) (p2 : Int32) (p3 : Int32) (p4 : Int32) (p5 : Int32) (p6 : Int32) (b0 b1 b2 b3 b4 b5 : Addr) (cs : Int32) (h0 : Heap) (n0 : Nat) (Z0 : n0 ≤ h0.size) (S0 : Sta Z Z.heap "com/example/loopwright/loopwright/Lexer$Kind" "IDENTIFIER" "Lcom/example/loopwright/loopwright/Lexer$Kind;" (.ref b0)) (S1 : Sta Z Z.heap "com/example/loopwright/loopwright/Lexer$Kind" "NUMBER" "Lcom/example/loopwright/loopwright/Lexer$Kind;" (.ref b1)) (S2 : Sta Z Z.heap "com/example/loopwright/loopwright/Lexer$Kind" "SYMBOL" "Lcom/example/loopwright/loopwright/Lexer$Kind;" (.ref b2)) (S3 : Sta Z Z.heap "com/example/loopwright/loopwright/Lexer$Kind" "ANNOTATION" "Lcom/example/loopwright/loopwright/Lexer$Kind;" (.ref b3)) (S4 : Sta Z Z.heap "com/example/loopwright/loopwright/Lexer$Kind" "ANNOTATION_END" "Lcom/example/loopwright/loopwright/Lexer$Kind;" (.ref b4)) (S5 : Sta Z Z.heap "com/example/loopwright/loopwright/Lexer$Kind" "END" "Lcom/example/loopwright/loopwright/Lexer$Kind;" (.ref b5)) (SC : Sta Z Z.heap "java/lang/String" "COMPACT_STRINGS" "Z" (.int cs)) (hcs : ¬ cs = (0 : Int32)) (O0 : Old Z n0 h0) (d0 : b0 ≠ b2) (d1 : b1 ≠ b2) (d3 : b3 ≠ b2) (d4 : b4 ≠ b2) (d5 : b5 ≠ b2) :
    MetFree l x (head1 (Jvm.Cond.code x code maxLocals ret :: ws) room_1) (fun a U => a = #[(.int p1), (.int p2), (.int p3), (.int p4), (.int p5), (.int p6)] ∧ Z.Warmed39 U.vm ∧ U.heap = h0 ∧ CHv Z consts_1 U.vm h0) (fun _ _ _ _ _ => True) (fun _ U oo U' => ∃ vv LL, oo = .returned vv ∧ (Q_rm0 Z p1 p2 p3 p4 p5 p6 b0 b1 b2 b3 b4 b5 cs h0 n0) vv U'.heap LL ∧ CHr Z consts_1 U.vm U.heap U'.vm U'.heap ∧ ReturnedEndW U oo U' LL room_1.cells room_1.slots) := by
  refine MetFree.of_bodySF (plainFor_of_name pn_0) hisR ?_
  intro p e s m args below meth c s₁ Bd hml0 hP hK
  obtain ⟨rfl, hZ, hh, hH⟩ := hP
  have hx := Bd.exec
  have hby := Bd.bytes
  have hml : c.maxLocals = 23 := hml0
  have hown : s.vm.findClass "com/example/loopwright/loopwright/TokenIsPinLaw" = some m.cls := findClass_of_methodNamed Bd.named
  have hnm := (name_of_methodNamed Bd.named Bd.method).1
  have X0 : Stand p l e room_1 s m #[(.int p1), (.int p2), (.int p3), (.int p4), (.int p5), (.int p6)] below meth c s₁ [] 0 0 := Stand.of_body Bd
  have e0 : s₁.heap = h0 := by rw [← hh, Bd.state]; rfl
  have N0 := Fr.nil n0
  have hC0 : CHr Z consts_1 s.vm s.heap s.vm h0 := by rw [hh]; exact CHr.refl hH
  have hEL := own_EW hw
  show Goes p e below (FinH s Z consts_1 (Q_rm0 Z p1 p2 p3 p4 p5 p6 b0 b1 b2 b3 b4 b5 cs h0 n0) room_1.cells room_1.slots) _
  refine Goes.via (S' := s₁.setTop (mkF m 0 #[.val (.int p1), .val (.int p2), .val (.int p3), .val (.int p4), .val (.int p5), .val (.int p6), .unset, .unset, .unset, .unset, .unset, .unset, .unset, .unset, .unset, .unset, .unset, .unset, .unset, .unset, .unset, .unset, .unset] [])) (fun tz kz => castTop (ef_0 m p1 p2 p3 p4 p5 p6 ) kz) ?_
  refine Goes.via (S' := s₁.setTop (mkF m 19 #[.val (.int p1), .val (.int p2), .val (.int p3), .val (.int p4), .val (.int p5), .val (.int p6), .val (.int ((p1 &&& (2147483647 : Int32)) % (6 : Int32))), .val (.int (p4 &&& (3 : Int32))), .unset, .unset, .unset, .unset, .unset, .unset, .unset, .unset, .unset, .unset, .unset, .unset, .unset, .unset, .unset] [(.int (((p4.toUInt32 >>> ((2 : Int32) &&& 31).toUInt32).toInt32) &&& (1 : Int32)))])) (fun tz kz => ?_) ?_
  · show Steps p.tables e below (s₁.setTop (mkF m 0 #[.val (.int p1), .val (.int p2), .val (.int p3), .val (.int p4), .val (.int p5), .val (.int p6), .unset, .unset, .unset, .unset, .unset, .unset, .unset, .unset, .unset, .unset, .unset, .unset, .unset, .unset, .unset, .unset, .unset] [])) _
    refine XS.iloadN X0.here hx rfl (hb hby at_0) rfl ?_
    refine X0.ldcInt hx hown (mvT hZ (w_ hw 0 rfl)) (g := (mkF m 1 #[.val (.int p1), .val (.int p2), .val (.int p3), .val (.int p4), .val (.int p5), .val (.int p6), .unset, .unset, .unset, .unset, .unset, .unset, .unset, .unset, .unset, .unset, .unset, .unset, .unset, .unset, .unset, .unset, .unset] [(.int p1)])) rfl (hb hby at_1) _ ?_
    refine XS.iand X0.here hx rfl (hb hby at_3) rfl ?_
    refine XS.bipush X0.here hx rfl (hb hby at_4) ?_
    show Steps p.tables e below (s₁.setTop (mkF m 6 #[.val (.int p1), .val (.int p2), .val (.int p3), .val (.int p4), .val (.int p5), .val (.int p6), .unset, .unset, .unset, .unset, .unset, .unset, .unset, .unset, .unset, .unset, .unset, .unset, .unset, .unset, .unset, .unset, .unset] [(.int (6 : Int32)), (.int (p1 &&& (2147483647 : Int32)))])) _
    refine iremM (g := (mkF m 6 #[.val (.int p1), .val (.int p2), .val (.int p3), .val (.int p4), .val (.int p5), .val (.int p6), .unset, .unset, .unset, .unset, .unset, .unset, .unset, .unset, .unset, .unset, .unset, .unset, .unset, .unset, .unset, .unset, .unset] [(.int (6 : Int32)), (.int (p1 &&& (2147483647 : Int32)))])) X0 hx rfl (hb hby at_6) rfl (by decide) ?_
    refine XS.istore X0.here hx rfl (hb hby at_7) rfl (l' := #[.val (.int p1), .val (.int p2), .val (.int p3), .val (.int p4), .val (.int p5), .val (.int p6), .val (.int ((p1 &&& (2147483647 : Int32)) % (6 : Int32))), .unset, .unset, .unset, .unset, .unset, .unset, .unset, .unset, .unset, .unset, .unset, .unset, .unset, .unset, .unset, .unset]) rfl ?_
    refine XS.iloadN X0.here hx rfl (hb hby at_9) rfl ?_
    refine XS.iconst X0.here hx rfl (hb hby at_10) ?_
    show Steps p.tables e below (s₁.setTop (mkF m 11 #[.val (.int p1), .val (.int p2), .val (.int p3), .val (.int p4), .val (.int p5), .val (.int p6), .val (.int ((p1 &&& (2147483647 : Int32)) % (6 : Int32))), .unset, .unset, .unset, .unset, .unset, .unset, .unset, .unset, .unset, .unset, .unset, .unset, .unset, .unset, .unset, .unset] [(.int (3 : Int32)), (.int p4)])) _
    refine XS.iand X0.here hx rfl (hb hby at_11) rfl ?_
    refine XS.istore X0.here hx rfl (hb hby at_12) rfl (l' := #[.val (.int p1), .val (.int p2), .val (.int p3), .val (.int p4), .val (.int p5), .val (.int p6), .val (.int ((p1 &&& (2147483647 : Int32)) % (6 : Int32))), .val (.int (p4 &&& (3 : Int32))), .unset, .unset, .unset, .unset, .unset, .unset, .unset, .unset, .unset, .unset, .unset, .unset, .unset, .unset, .unset]) rfl ?_
    refine XS.iloadN X0.here hx rfl (hb hby at_14) rfl ?_
    refine XS.iconst X0.here hx rfl (hb hby at_15) ?_
    show Steps p.tables e below (s₁.setTop (mkF m 16 #[.val (.int p1), .val (.int p2), .val (.int p3), .val (.int p4), .val (.int p5), .val (.int p6), .val (.int ((p1 &&& (2147483647 : Int32)) % (6 : Int32))), .val (.int (p4 &&& (3 : Int32))), .unset, .unset, .unset, .unset, .unset, .unset, .unset, .unset, .unset, .unset, .unset, .unset, .unset, .unset, .unset] [(.int (2 : Int32)), (.int p4)])) _
    refine XS.iushr X0.here hx rfl (hb hby at_16) rfl ?_
    refine XS.iconst X0.here hx rfl (hb hby at_17) ?_
    refine XS.iand X0.here hx rfl (hb hby at_18) rfl ?_
    exact kz
  obtain ⟨r2, hr2⟩ : ∃ zz_ : Int32, zz_ = (if (((p4.toUInt32 >>> ((2 : Int32) &&& 31).toUInt32).toInt32) &&& (1 : Int32)) = (0 : Int32) then (p4 &&& (3 : Int32)) else (((p4.toUInt32 >>> ((3 : Int32) &&& 31).toUInt32).toInt32) &&& (3 : Int32))) := ⟨_, rfl⟩
  have j19_3 : ∀ t, Steps p.tables e below (s₁.setTop (mkF m 32 #[.val (.int p1), .val (.int p2), .val (.int p3), .val (.int p4), .val (.int p5), .val (.int p6), .val (.int ((p1 &&& (2147483647 : Int32)) % (6 : Int32))), .val (.int (p4 &&& (3 : Int32))), .unset, .unset, .unset, .unset, .unset, .unset, .unset, .unset, .unset, .unset, .unset, .unset, .unset, .unset, .unset] [(.int r2)])) t → Steps p.tables e below (s₁.setTop (mkF m 19 #[.val (.int p1), .val (.int p2), .val (.int p3), .val (.int p4), .val (.int p5), .val (.int p6), .val (.int ((p1 &&& (2147483647 : Int32)) % (6 : Int32))), .val (.int (p4 &&& (3 : Int32))), .unset, .unset, .unset, .unset, .unset, .unset, .unset, .unset, .unset, .unset, .unset, .unset, .unset, .unset, .unset] [(.int (((p4.toUInt32 >>> ((2 : Int32) &&& 31).toUInt32).toInt32) &&& (1 : Int32)))])) t := by
    intro tz kz
    by_cases hc19_1 : (((p4.toUInt32 >>> ((2 : Int32) &&& 31).toUInt32).toInt32) &&& (1 : Int32)) = (0 : Int32)
    · rw [if_pos hc19_1] at hr2
      show Steps p.tables e below (s₁.setTop (mkF m 19 #[.val (.int p1), .val (.int p2), .val (.int p3), .val (.int p4), .val (.int p5), .val (.int p6), .val (.int ((p1 &&& (2147483647 : Int32)) % (6 : Int32))), .val (.int (p4 &&& (3 : Int32))), .unset, .unset, .unset, .unset, .unset, .unset, .unset, .unset, .unset, .unset, .unset, .unset, .unset, .unset, .unset] [(.int (((p4.toUInt32 >>> ((2 : Int32) &&& 31).toUInt32).toInt32) &&& (1 : Int32)))])) _
      refine XS.ifNo X0.here hx rfl (hb hby at_19) rfl ((if0 _ _).trans (teq hc19_1).2) ?_
      refine XS.iload X0.here hx rfl (hb hby at_22) rfl ?_
      refine XS.goto X0.here hx rfl (pc0 := 24) (pc' := 32) rfl (hb hby at_24) (by decide) (by decide) ?_
      subst hr2
      exact kz
    · rw [if_neg hc19_1] at hr2
      show Steps p.tables e below (s₁.setTop (mkF m 19 #[.val (.int p1), .val (.int p2), .val (.int p3), .val (.int p4), .val (.int p5), .val (.int p6), .val (.int ((p1 &&& (2147483647 : Int32)) % (6 : Int32))), .val (.int (p4 &&& (3 : Int32))), .unset, .unset, .unset, .unset, .unset, .unset, .unset, .unset, .unset, .unset, .unset, .unset, .unset, .unset, .unset] [(.int (((p4.toUInt32 >>> ((2 : Int32) &&& 31).toUInt32).toInt32) &&& (1 : Int32)))])) _
      refine XS.ifYes X0.here hx rfl (pc0 := 19) (pc' := 27) rfl (hb hby at_19) rfl ((if0 _ _).trans (feq hc19_1).2) (by decide) (by decide) ?_
      refine XS.iloadN X0.here hx rfl (hb hby at_27) rfl ?_
      refine XS.iconst X0.here hx rfl (hb hby at_28) ?_
      refine XS.iushr X0.here hx rfl (hb hby at_29) rfl ?_
      show Steps p.tables e below (s₁.setTop (mkF m 30 #[.val (.int p1), .val (.int p2), .val (.int p3), .val (.int p4), .val (.int p5), .val (.int p6), .val (.int ((p1 &&& (2147483647 : Int32)) % (6 : Int32))), .val (.int (p4 &&& (3 : Int32))), .unset, .unset, .unset, .unset, .unset, .unset, .unset, .unset, .unset, .unset, .unset, .unset, .unset, .unset, .unset] [(.int ((p4.toUInt32 >>> ((3 : Int32) &&& 31).toUInt32).toInt32))])) _
      refine XS.iconst X0.here hx rfl (hb hby at_30) ?_
      refine XS.iand X0.here hx rfl (hb hby at_31) rfl ?_
      subst hr2
      exact kz
  refine Goes.via j19_3 ?_
  refine Goes.via (S' := s₁.setTop (mkF m 39 #[.val (.int p1), .val (.int p2), .val (.int p3), .val (.int p4), .val (.int p5), .val (.int p6), .val (.int ((p1 &&& (2147483647 : Int32)) % (6 : Int32))), .val (.int (p4 &&& (3 : Int32))), .val (.int r2), .unset, .unset, .unset, .unset, .unset, .unset, .unset, .unset, .unset, .unset, .unset, .unset, .unset, .unset] [(.int (((p4.toUInt32 >>> ((5 : Int32) &&& 31).toUInt32).toInt32) &&& (3 : Int32)))])) (fun tz kz => ?_) ?_
  · show Steps p.tables e below (s₁.setTop (mkF m 32 #[.val (.int p1), .val (.int p2), .val (.int p3), .val (.int p4), .val (.int p5), .val (.int p6), .val (.int ((p1 &&& (2147483647 : Int32)) % (6 : Int32))), .val (.int (p4 &&& (3 : Int32))), .unset, .unset, .unset, .unset, .unset, .unset, .unset, .unset, .unset, .unset, .unset, .unset, .unset, .unset, .unset] [(.int r2)])) _
    refine XS.istore X0.here hx rfl (hb hby at_32) rfl (l' := #[.val (.int p1), .val (.int p2), .val (.int p3), .val (.int p4), .val (.int p5), .val (.int p6), .val (.int ((p1 &&& (2147483647 : Int32)) % (6 : Int32))), .val (.int (p4 &&& (3 : Int32))), .val (.int r2), .unset, .unset, .unset, .unset, .unset, .unset, .unset, .unset, .unset, .unset, .unset, .unset, .unset, .unset]) rfl ?_
    refine XS.iloadN X0.here hx rfl (hb hby at_34) rfl ?_
    refine XS.iconst X0.here hx rfl (hb hby at_35) ?_
    refine XS.iushr X0.here hx rfl (hb hby at_36) rfl ?_
    show Steps p.tables e below (s₁.setTop (mkF m 37 #[.val (.int p1), .val (.int p2), .val (.int p3), .val (.int p4), .val (.int p5), .val (.int p6), .val (.int ((p1 &&& (2147483647 : Int32)) % (6 : Int32))), .val (.int (p4 &&& (3 : Int32))), .val (.int r2), .unset, .unset, .unset, .unset, .unset, .unset, .unset, .unset, .unset, .unset, .unset, .unset, .unset, .unset] [(.int ((p4.toUInt32 >>> ((5 : Int32) &&& 31).toUInt32).toInt32))])) _
    refine XS.iconst X0.here hx rfl (hb hby at_37) ?_
    refine XS.iand X0.here hx rfl (hb hby at_38) rfl ?_
    exact kz
  obtain ⟨r5, hr5⟩ : ∃ zz_ : Int32, zz_ = (if (((p4.toUInt32 >>> ((5 : Int32) &&& 31).toUInt32).toInt32) &&& (3 : Int32)) = (0 : Int32) then (0 : Int32) else (1 : Int32)) := ⟨_, rfl⟩
  have j39_6 : ∀ t, Steps p.tables e below (s₁.setTop (mkF m 47 #[.val (.int p1), .val (.int p2), .val (.int p3), .val (.int p4), .val (.int p5), .val (.int p6), .val (.int ((p1 &&& (2147483647 : Int32)) % (6 : Int32))), .val (.int (p4 &&& (3 : Int32))), .val (.int r2), .unset, .unset, .unset, .unset, .unset, .unset, .unset, .unset, .unset, .unset, .unset, .unset, .unset, .unset] [(.int r5)])) t → Steps p.tables e below (s₁.setTop (mkF m 39 #[.val (.int p1), .val (.int p2), .val (.int p3), .val (.int p4), .val (.int p5), .val (.int p6), .val (.int ((p1 &&& (2147483647 : Int32)) % (6 : Int32))), .val (.int (p4 &&& (3 : Int32))), .val (.int r2), .unset, .unset, .unset, .unset, .unset, .unset, .unset, .unset, .unset, .unset, .unset, .unset, .unset, .unset] [(.int (((p4.toUInt32 >>> ((5 : Int32) &&& 31).toUInt32).toInt32) &&& (3 : Int32)))])) t := by
    intro tz kz
    by_cases hc39_4 : (((p4.toUInt32 >>> ((5 : Int32) &&& 31).toUInt32).toInt32) &&& (3 : Int32)) = (0 : Int32)
    · rw [if_pos hc39_4] at hr5
      show Steps p.tables e below (s₁.setTop (mkF m 39 #[.val (.int p1), .val (.int p2), .val (.int p3), .val (.int p4), .val (.int p5), .val (.int p6), .val (.int ((p1 &&& (2147483647 : Int32)) % (6 : Int32))), .val (.int (p4 &&& (3 : Int32))), .val (.int r2), .unset, .unset, .unset, .unset, .unset, .unset, .unset, .unset, .unset, .unset, .unset, .unset, .unset, .unset] [(.int (((p4.toUInt32 >>> ((5 : Int32) &&& 31).toUInt32).toInt32) &&& (3 : Int32)))])) _
      refine XS.ifYes X0.here hx rfl (pc0 := 39) (pc' := 46) rfl (hb hby at_39) rfl ((if0 _ _).trans (teq hc39_4).1) (by decide) (by decide) ?_
      refine XS.iconst X0.here hx rfl (hb hby at_46) ?_
      subst hr5
      exact kz
    · rw [if_neg hc39_4] at hr5
      show Steps p.tables e below (s₁.setTop (mkF m 39 #[.val (.int p1), .val (.int p2), .val (.int p3), .val (.int p4), .val (.int p5), .val (.int p6), .val (.int ((p1 &&& (2147483647 : Int32)) % (6 : Int32))), .val (.int (p4 &&& (3 : Int32))), .val (.int r2), .unset, .unset, .unset, .unset, .unset, .unset, .unset, .unset, .unset, .unset, .unset, .unset, .unset, .unset] [(.int (((p4.toUInt32 >>> ((5 : Int32) &&& 31).toUInt32).toInt32) &&& (3 : Int32)))])) _
      refine XS.ifNo X0.here hx rfl (hb hby at_39) rfl ((if0 _ _).trans (feq hc39_4).1) ?_
      refine XS.iconst X0.here hx rfl (hb hby at_42) ?_
      refine XS.goto X0.here hx rfl (pc0 := 43) (pc' := 47) rfl (hb hby at_43) (by decide) (by decide) ?_
      subst hr5
      exact kz
  refine Goes.via j39_6 ?_
  refine Goes.via (S' := s₁.setTop (mkF m 81 #[.val (.int p1), .val (.int p2), .val (.int p3), .val (.int p4), .val (.int p5), .val (.int p6), .val (.int ((p1 &&& (2147483647 : Int32)) % (6 : Int32))), .val (.int (p4 &&& (3 : Int32))), .val (.int r2), .val (.int r5), .val (.int ((p2 &&& (255 : Int32)).toUInt32.toUInt16.toUInt32.toInt32)), .val (.int ((((p2.toUInt32 >>> ((8 : Int32) &&& 31).toUInt32).toInt32) &&& (255 : Int32)).toUInt32.toUInt16.toUInt32.toInt32)), .val (.int ((((p2.toUInt32 >>> ((16 : Int32) &&& 31).toUInt32).toInt32) &&& (255 : Int32)).toUInt32.toUInt16.toUInt32.toInt32)), .unset, .unset, .unset, .unset, .unset, .unset, .unset, .unset, .unset, .unset] [(.int r5)])) (fun tz kz => ?_) ?_
  · show Steps p.tables e below (s₁.setTop (mkF m 47 #[.val (.int p1), .val (.int p2), .val (.int p3), .val (.int p4), .val (.int p5), .val (.int p6), .val (.int ((p1 &&& (2147483647 : Int32)) % (6 : Int32))), .val (.int (p4 &&& (3 : Int32))), .val (.int r2), .unset, .unset, .unset, .unset, .unset, .unset, .unset, .unset, .unset, .unset, .unset, .unset, .unset, .unset] [(.int r5)])) _
    refine XS.istore X0.here hx rfl (hb hby at_47) rfl (l' := #[.val (.int p1), .val (.int p2), .val (.int p3), .val (.int p4), .val (.int p5), .val (.int p6), .val (.int ((p1 &&& (2147483647 : Int32)) % (6 : Int32))), .val (.int (p4 &&& (3 : Int32))), .val (.int r2), .val (.int r5), .unset, .unset, .unset, .unset, .unset, .unset, .unset, .unset, .unset, .unset, .unset, .unset, .unset]) rfl ?_
    refine XS.iloadN X0.here hx rfl (hb hby at_49) rfl ?_
    refine XS.sipush X0.here hx rfl (hb hby at_50) ?_
    refine XS.iand X0.here hx rfl (hb hby at_53) rfl ?_
    show Steps p.tables e below (s₁.setTop (mkF m 54 #[.val (.int p1), .val (.int p2), .val (.int p3), .val (.int p4), .val (.int p5), .val (.int p6), .val (.int ((p1 &&& (2147483647 : Int32)) % (6 : Int32))), .val (.int (p4 &&& (3 : Int32))), .val (.int r2), .val (.int r5), .unset, .unset, .unset, .unset, .unset, .unset, .unset, .unset, .unset, .unset, .unset, .unset, .unset] [(.int (p2 &&& (255 : Int32)))])) _
    refine XS.i2c X0.here hx rfl (hb hby at_54) rfl ?_
    refine XS.istore X0.here hx rfl (hb hby at_55) rfl (l' := #[.val (.int p1), .val (.int p2), .val (.int p3), .val (.int p4), .val (.int p5), .val (.int p6), .val (.int ((p1 &&& (2147483647 : Int32)) % (6 : Int32))), .val (.int (p4 &&& (3 : Int32))), .val (.int r2), .val (.int r5), .val (.int ((p2 &&& (255 : Int32)).toUInt32.toUInt16.toUInt32.toInt32)), .unset, .unset, .unset, .unset, .unset, .unset, .unset, .unset, .unset, .unset, .unset, .unset]) rfl ?_
    refine XS.iloadN X0.here hx rfl (hb hby at_57) rfl ?_
    refine XS.bipush X0.here hx rfl (hb hby at_58) ?_
    show Steps p.tables e below (s₁.setTop (mkF m 60 #[.val (.int p1), .val (.int p2), .val (.int p3), .val (.int p4), .val (.int p5), .val (.int p6), .val (.int ((p1 &&& (2147483647 : Int32)) % (6 : Int32))), .val (.int (p4 &&& (3 : Int32))), .val (.int r2), .val (.int r5), .val (.int ((p2 &&& (255 : Int32)).toUInt32.toUInt16.toUInt32.toInt32)), .unset, .unset, .unset, .unset, .unset, .unset, .unset, .unset, .unset, .unset, .unset, .unset] [(.int (8 : Int32)), (.int p2)])) _
    refine XS.iushr X0.here hx rfl (hb hby at_60) rfl ?_
    refine XS.sipush X0.here hx rfl (hb hby at_61) ?_
    refine XS.iand X0.here hx rfl (hb hby at_64) rfl ?_
    refine XS.i2c X0.here hx rfl (hb hby at_65) rfl ?_
    show Steps p.tables e below (s₁.setTop (mkF m 66 #[.val (.int p1), .val (.int p2), .val (.int p3), .val (.int p4), .val (.int p5), .val (.int p6), .val (.int ((p1 &&& (2147483647 : Int32)) % (6 : Int32))), .val (.int (p4 &&& (3 : Int32))), .val (.int r2), .val (.int r5), .val (.int ((p2 &&& (255 : Int32)).toUInt32.toUInt16.toUInt32.toInt32)), .unset, .unset, .unset, .unset, .unset, .unset, .unset, .unset, .unset, .unset, .unset, .unset] [(.int ((((p2.toUInt32 >>> ((8 : Int32) &&& 31).toUInt32).toInt32) &&& (255 : Int32)).toUInt32.toUInt16.toUInt32.toInt32))])) _
    refine XS.istore X0.here hx rfl (hb hby at_66) rfl (l' := #[.val (.int p1), .val (.int p2), .val (.int p3), .val (.int p4), .val (.int p5), .val (.int p6), .val (.int ((p1 &&& (2147483647 : Int32)) % (6 : Int32))), .val (.int (p4 &&& (3 : Int32))), .val (.int r2), .val (.int r5), .val (.int ((p2 &&& (255 : Int32)).toUInt32.toUInt16.toUInt32.toInt32)), .val (.int ((((p2.toUInt32 >>> ((8 : Int32) &&& 31).toUInt32).toInt32) &&& (255 : Int32)).toUInt32.toUInt16.toUInt32.toInt32)), .unset, .unset, .unset, .unset, .unset, .unset, .unset, .unset, .unset, .unset, .unset]) rfl ?_
    refine XS.iloadN X0.here hx rfl (hb hby at_68) rfl ?_
    refine XS.bipush X0.here hx rfl (hb hby at_69) ?_
    refine XS.iushr X0.here hx rfl (hb hby at_71) rfl ?_
    show Steps p.tables e below (s₁.setTop (mkF m 72 #[.val (.int p1), .val (.int p2), .val (.int p3), .val (.int p4), .val (.int p5), .val (.int p6), .val (.int ((p1 &&& (2147483647 : Int32)) % (6 : Int32))), .val (.int (p4 &&& (3 : Int32))), .val (.int r2), .val (.int r5), .val (.int ((p2 &&& (255 : Int32)).toUInt32.toUInt16.toUInt32.toInt32)), .val (.int ((((p2.toUInt32 >>> ((8 : Int32) &&& 31).toUInt32).toInt32) &&& (255 : Int32)).toUInt32.toUInt16.toUInt32.toInt32)), .unset, .unset, .unset, .unset, .unset, .unset, .unset, .unset, .unset, .unset, .unset] [(.int ((p2.toUInt32 >>> ((16 : Int32) &&& 31).toUInt32).toInt32))])) _
    refine XS.sipush X0.here hx rfl (hb hby at_72) ?_
    refine XS.iand X0.here hx rfl (hb hby at_75) rfl ?_
    refine XS.i2c X0.here hx rfl (hb hby at_76) rfl ?_
    refine XS.istore X0.here hx rfl (hb hby at_77) rfl (l' := #[.val (.int p1), .val (.int p2), .val (.int p3), .val (.int p4), .val (.int p5), .val (.int p6), .val (.int ((p1 &&& (2147483647 : Int32)) % (6 : Int32))), .val (.int (p4 &&& (3 : Int32))), .val (.int r2), .val (.int r5), .val (.int ((p2 &&& (255 : Int32)).toUInt32.toUInt16.toUInt32.toInt32)), .val (.int ((((p2.toUInt32 >>> ((8 : Int32) &&& 31).toUInt32).toInt32) &&& (255 : Int32)).toUInt32.toUInt16.toUInt32.toInt32)), .val (.int ((((p2.toUInt32 >>> ((16 : Int32) &&& 31).toUInt32).toInt32) &&& (255 : Int32)).toUInt32.toUInt16.toUInt32.toInt32)), .unset, .unset, .unset, .unset, .unset, .unset, .unset, .unset, .unset, .unset]) rfl ?_
    show Steps p.tables e below (s₁.setTop (mkF m 79 #[.val (.int p1), .val (.int p2), .val (.int p3), .val (.int p4), .val (.int p5), .val (.int p6), .val (.int ((p1 &&& (2147483647 : Int32)) % (6 : Int32))), .val (.int (p4 &&& (3 : Int32))), .val (.int r2), .val (.int r5), .val (.int ((p2 &&& (255 : Int32)).toUInt32.toUInt16.toUInt32.toInt32)), .val (.int ((((p2.toUInt32 >>> ((8 : Int32) &&& 31).toUInt32).toInt32) &&& (255 : Int32)).toUInt32.toUInt16.toUInt32.toInt32)), .val (.int ((((p2.toUInt32 >>> ((16 : Int32) &&& 31).toUInt32).toInt32) &&& (255 : Int32)).toUInt32.toUInt16.toUInt32.toInt32)), .unset, .unset, .unset, .unset, .unset, .unset, .unset, .unset, .unset, .unset] [])) _
    refine XS.iload X0.here hx rfl (hb hby at_79) rfl ?_
    exact kz
  obtain ⟨r8, hr8⟩ : ∃ zz_ : Int32, zz_ = (if r5 = (0 : Int32) then (p3 &&& (255 : Int32)) else (0 : Int32)) := ⟨_, rfl⟩
  have j81_9 : ∀ t, Steps p.tables e below (s₁.setTop (mkF m 93 #[.val (.int p1), .val (.int p2), .val (.int p3), .val (.int p4), .val (.int p5), .val (.int p6), .val (.int ((p1 &&& (2147483647 : Int32)) % (6 : Int32))), .val (.int (p4 &&& (3 : Int32))), .val (.int r2), .val (.int r5), .val (.int ((p2 &&& (255 : Int32)).toUInt32.toUInt16.toUInt32.toInt32)), .val (.int ((((p2.toUInt32 >>> ((8 : Int32) &&& 31).toUInt32).toInt32) &&& (255 : Int32)).toUInt32.toUInt16.toUInt32.toInt32)), .val (.int ((((p2.toUInt32 >>> ((16 : Int32) &&& 31).toUInt32).toInt32) &&& (255 : Int32)).toUInt32.toUInt16.toUInt32.toInt32)), .unset, .unset, .unset, .unset, .unset, .unset, .unset, .unset, .unset, .unset] [(.int r8)])) t → Steps p.tables e below (s₁.setTop (mkF m 81 #[.val (.int p1), .val (.int p2), .val (.int p3), .val (.int p4), .val (.int p5), .val (.int p6), .val (.int ((p1 &&& (2147483647 : Int32)) % (6 : Int32))), .val (.int (p4 &&& (3 : Int32))), .val (.int r2), .val (.int r5), .val (.int ((p2 &&& (255 : Int32)).toUInt32.toUInt16.toUInt32.toInt32)), .val (.int ((((p2.toUInt32 >>> ((8 : Int32) &&& 31).toUInt32).toInt32) &&& (255 : Int32)).toUInt32.toUInt16.toUInt32.toInt32)), .val (.int ((((p2.toUInt32 >>> ((16 : Int32) &&& 31).toUInt32).toInt32) &&& (255 : Int32)).toUInt32.toUInt16.toUInt32.toInt32)), .unset, .unset, .unset, .unset, .unset, .unset, .unset, .unset, .unset, .unset] [(.int r5)])) t := by
    intro tz kz
    by_cases hc81_7 : r5 = (0 : Int32)
    · rw [if_pos hc81_7] at hr8
      show Steps p.tables e below (s₁.setTop (mkF m 81 #[.val (.int p1), .val (.int p2), .val (.int p3), .val (.int p4), .val (.int p5), .val (.int p6), .val (.int ((p1 &&& (2147483647 : Int32)) % (6 : Int32))), .val (.int (p4 &&& (3 : Int32))), .val (.int r2), .val (.int r5), .val (.int ((p2 &&& (255 : Int32)).toUInt32.toUInt16.toUInt32.toInt32)), .val (.int ((((p2.toUInt32 >>> ((8 : Int32) &&& 31).toUInt32).toInt32) &&& (255 : Int32)).toUInt32.toUInt16.toUInt32.toInt32)), .val (.int ((((p2.toUInt32 >>> ((16 : Int32) &&& 31).toUInt32).toInt32) &&& (255 : Int32)).toUInt32.toUInt16.toUInt32.toInt32)), .unset, .unset, .unset, .unset, .unset, .unset, .unset, .unset, .unset, .unset] [(.int r5)])) _
      refine XS.ifYes X0.here hx rfl (pc0 := 81) (pc' := 88) rfl (hb hby at_81) rfl ((if0 _ _).trans (teq hc81_7).1) (by decide) (by decide) ?_
      refine XS.iloadN X0.here hx rfl (hb hby at_88) rfl ?_
      refine XS.sipush X0.here hx rfl (hb hby at_89) ?_
      refine XS.iand X0.here hx rfl (hb hby at_92) rfl ?_
      subst hr8
      exact kz
    · rw [if_neg hc81_7] at hr8
      show Steps p.tables e below (s₁.setTop (mkF m 81 #[.val (.int p1), .val (.int p2), .val (.int p3), .val (.int p4), .val (.int p5), .val (.int p6), .val (.int ((p1 &&& (2147483647 : Int32)) % (6 : Int32))), .val (.int (p4 &&& (3 : Int32))), .val (.int r2), .val (.int r5), .val (.int ((p2 &&& (255 : Int32)).toUInt32.toUInt16.toUInt32.toInt32)), .val (.int ((((p2.toUInt32 >>> ((8 : Int32) &&& 31).toUInt32).toInt32) &&& (255 : Int32)).toUInt32.toUInt16.toUInt32.toInt32)), .val (.int ((((p2.toUInt32 >>> ((16 : Int32) &&& 31).toUInt32).toInt32) &&& (255 : Int32)).toUInt32.toUInt16.toUInt32.toInt32)), .unset, .unset, .unset, .unset, .unset, .unset, .unset, .unset, .unset, .unset] [(.int r5)])) _
      refine XS.ifNo X0.here hx rfl (hb hby at_81) rfl ((if0 _ _).trans (feq hc81_7).1) ?_
      refine XS.iconst X0.here hx rfl (hb hby at_84) ?_
      refine XS.goto X0.here hx rfl (pc0 := 85) (pc' := 93) rfl (hb hby at_85) (by decide) (by decide) ?_
      subst hr8
      exact kz
  refine Goes.via j81_9 ?_
  refine Goes.via (S' := s₁.setTop (mkF m 97 #[.val (.int p1), .val (.int p2), .val (.int p3), .val (.int p4), .val (.int p5), .val (.int p6), .val (.int ((p1 &&& (2147483647 : Int32)) % (6 : Int32))), .val (.int (p4 &&& (3 : Int32))), .val (.int r2), .val (.int r5), .val (.int ((p2 &&& (255 : Int32)).toUInt32.toUInt16.toUInt32.toInt32)), .val (.int ((((p2.toUInt32 >>> ((8 : Int32) &&& 31).toUInt32).toInt32) &&& (255 : Int32)).toUInt32.toUInt16.toUInt32.toInt32)), .val (.int ((((p2.toUInt32 >>> ((16 : Int32) &&& 31).toUInt32).toInt32) &&& (255 : Int32)).toUInt32.toUInt16.toUInt32.toInt32)), .val (.int r8), .unset, .unset, .unset, .unset, .unset, .unset, .unset, .unset, .unset] [(.int r5)])) (fun tz kz => ?_) ?_
  · show Steps p.tables e below (s₁.setTop (mkF m 93 #[.val (.int p1), .val (.int p2), .val (.int p3), .val (.int p4), .val (.int p5), .val (.int p6), .val (.int ((p1 &&& (2147483647 : Int32)) % (6 : Int32))), .val (.int (p4 &&& (3 : Int32))), .val (.int r2), .val (.int r5), .val (.int ((p2 &&& (255 : Int32)).toUInt32.toUInt16.toUInt32.toInt32)), .val (.int ((((p2.toUInt32 >>> ((8 : Int32) &&& 31).toUInt32).toInt32) &&& (255 : Int32)).toUInt32.toUInt16.toUInt32.toInt32)), .val (.int ((((p2.toUInt32 >>> ((16 : Int32) &&& 31).toUInt32).toInt32) &&& (255 : Int32)).toUInt32.toUInt16.toUInt32.toInt32)), .unset, .unset, .unset, .unset, .unset, .unset, .unset, .unset, .unset, .unset] [(.int r8)])) _
    refine XS.istore X0.here hx rfl (hb hby at_93) rfl (l' := #[.val (.int p1), .val (.int p2), .val (.int p3), .val (.int p4), .val (.int p5), .val (.int p6), .val (.int ((p1 &&& (2147483647 : Int32)) % (6 : Int32))), .val (.int (p4 &&& (3 : Int32))), .val (.int r2), .val (.int r5), .val (.int ((p2 &&& (255 : Int32)).toUInt32.toUInt16.toUInt32.toInt32)), .val (.int ((((p2.toUInt32 >>> ((8 : Int32) &&& 31).toUInt32).toInt32) &&& (255 : Int32)).toUInt32.toUInt16.toUInt32.toInt32)), .val (.int ((((p2.toUInt32 >>> ((16 : Int32) &&& 31).toUInt32).toInt32) &&& (255 : Int32)).toUInt32.toUInt16.toUInt32.toInt32)), .val (.int r8), .unset, .unset, .unset, .unset, .unset, .unset, .unset, .unset, .unset]) rfl ?_
    refine XS.iload X0.here hx rfl (hb hby at_95) rfl ?_
    exact kz
  obtain ⟨r11, hr11⟩ : ∃ zz_ : Int32, zz_ = (if r5 = (0 : Int32) then (((p3.toUInt32 >>> ((8 : Int32) &&& 31).toUInt32).toInt32) &&& (255 : Int32)) else (0 : Int32)) := ⟨_, rfl⟩
  have j97_12 : ∀ t, Steps p.tables e below (s₁.setTop (mkF m 112 #[.val (.int p1), .val (.int p2), .val (.int p3), .val (.int p4), .val (.int p5), .val (.int p6), .val (.int ((p1 &&& (2147483647 : Int32)) % (6 : Int32))), .val (.int (p4 &&& (3 : Int32))), .val (.int r2), .val (.int r5), .val (.int ((p2 &&& (255 : Int32)).toUInt32.toUInt16.toUInt32.toInt32)), .val (.int ((((p2.toUInt32 >>> ((8 : Int32) &&& 31).toUInt32).toInt32) &&& (255 : Int32)).toUInt32.toUInt16.toUInt32.toInt32)), .val (.int ((((p2.toUInt32 >>> ((16 : Int32) &&& 31).toUInt32).toInt32) &&& (255 : Int32)).toUInt32.toUInt16.toUInt32.toInt32)), .val (.int r8), .unset, .unset, .unset, .unset, .unset, .unset, .unset, .unset, .unset] [(.int r11)])) t → Steps p.tables e below (s₁.setTop (mkF m 97 #[.val (.int p1), .val (.int p2), .val (.int p3), .val (.int p4), .val (.int p5), .val (.int p6), .val (.int ((p1 &&& (2147483647 : Int32)) % (6 : Int32))), .val (.int (p4 &&& (3 : Int32))), .val (.int r2), .val (.int r5), .val (.int ((p2 &&& (255 : Int32)).toUInt32.toUInt16.toUInt32.toInt32)), .val (.int ((((p2.toUInt32 >>> ((8 : Int32) &&& 31).toUInt32).toInt32) &&& (255 : Int32)).toUInt32.toUInt16.toUInt32.toInt32)), .val (.int ((((p2.toUInt32 >>> ((16 : Int32) &&& 31).toUInt32).toInt32) &&& (255 : Int32)).toUInt32.toUInt16.toUInt32.toInt32)), .val (.int r8), .unset, .unset, .unset, .unset, .unset, .unset, .unset, .unset, .unset] [(.int r5)])) t := by
    intro tz kz
    by_cases hc97_10 : r5 = (0 : Int32)
    · rw [if_pos hc97_10] at hr11
      show Steps p.tables e below (s₁.setTop (mkF m 97 #[.val (.int p1), .val (.int p2), .val (.int p3), .val (.int p4), .val (.int p5), .val (.int p6), .val (.int ((p1 &&& (2147483647 : Int32)) % (6 : Int32))), .val (.int (p4 &&& (3 : Int32))), .val (.int r2), .val (.int r5), .val (.int ((p2 &&& (255 : Int32)).toUInt32.toUInt16.toUInt32.toInt32)), .val (.int ((((p2.toUInt32 >>> ((8 : Int32) &&& 31).toUInt32).toInt32) &&& (255 : Int32)).toUInt32.toUInt16.toUInt32.toInt32)), .val (.int ((((p2.toUInt32 >>> ((16 : Int32) &&& 31).toUInt32).toInt32) &&& (255 : Int32)).toUInt32.toUInt16.toUInt32.toInt32)), .val (.int r8), .unset, .unset, .unset, .unset, .unset, .unset, .unset, .unset, .unset] [(.int r5)])) _
      refine XS.ifYes X0.here hx rfl (pc0 := 97) (pc' := 104) rfl (hb hby at_97) rfl ((if0 _ _).trans (teq hc97_10).1) (by decide) (by decide) ?_
      refine XS.iloadN X0.here hx rfl (hb hby at_104) rfl ?_
      refine XS.bipush X0.here hx rfl (hb hby at_105) ?_
      refine XS.iushr X0.here hx rfl (hb hby at_107) rfl ?_
      show Steps p.tables e below (s₁.setTop (mkF m 108 #[.val (.int p1), .val (.int p2), .val (.int p3), .val (.int p4), .val (.int p5), .val (.int p6), .val (.int ((p1 &&& (2147483647 : Int32)) % (6 : Int32))), .val (.int (p4 &&& (3 : Int32))), .val (.int r2), .val (.int r5), .val (.int ((p2 &&& (255 : Int32)).toUInt32.toUInt16.toUInt32.toInt32)), .val (.int ((((p2.toUInt32 >>> ((8 : Int32) &&& 31).toUInt32).toInt32) &&& (255 : Int32)).toUInt32.toUInt16.toUInt32.toInt32)), .val (.int ((((p2.toUInt32 >>> ((16 : Int32) &&& 31).toUInt32).toInt32) &&& (255 : Int32)).toUInt32.toUInt16.toUInt32.toInt32)), .val (.int r8), .unset, .unset, .unset, .unset, .unset, .unset, .unset, .unset, .unset] [(.int ((p3.toUInt32 >>> ((8 : Int32) &&& 31).toUInt32).toInt32))])) _
      refine XS.sipush X0.here hx rfl (hb hby at_108) ?_
      refine XS.iand X0.here hx rfl (hb hby at_111) rfl ?_
      subst hr11
      exact kz
    · rw [if_neg hc97_10] at hr11
      show Steps p.tables e below (s₁.setTop (mkF m 97 #[.val (.int p1), .val (.int p2), .val (.int p3), .val (.int p4), .val (.int p5), .val (.int p6), .val (.int ((p1 &&& (2147483647 : Int32)) % (6 : Int32))), .val (.int (p4 &&& (3 : Int32))), .val (.int r2), .val (.int r5), .val (.int ((p2 &&& (255 : Int32)).toUInt32.toUInt16.toUInt32.toInt32)), .val (.int ((((p2.toUInt32 >>> ((8 : Int32) &&& 31).toUInt32).toInt32) &&& (255 : Int32)).toUInt32.toUInt16.toUInt32.toInt32)), .val (.int ((((p2.toUInt32 >>> ((16 : Int32) &&& 31).toUInt32).toInt32) &&& (255 : Int32)).toUInt32.toUInt16.toUInt32.toInt32)), .val (.int r8), .unset, .unset, .unset, .unset, .unset, .unset, .unset, .unset, .unset] [(.int r5)])) _
      refine XS.ifNo X0.here hx rfl (hb hby at_97) rfl ((if0 _ _).trans (feq hc97_10).1) ?_
      refine XS.iconst X0.here hx rfl (hb hby at_100) ?_
      refine XS.goto X0.here hx rfl (pc0 := 101) (pc' := 112) rfl (hb hby at_101) (by decide) (by decide) ?_
      subst hr11
      exact kz
  refine Goes.via j97_12 ?_
  refine Goes.via (S' := s₁.setTop (mkF m 116 #[.val (.int p1), .val (.int p2), .val (.int p3), .val (.int p4), .val (.int p5), .val (.int p6), .val (.int ((p1 &&& (2147483647 : Int32)) % (6 : Int32))), .val (.int (p4 &&& (3 : Int32))), .val (.int r2), .val (.int r5), .val (.int ((p2 &&& (255 : Int32)).toUInt32.toUInt16.toUInt32.toInt32)), .val (.int ((((p2.toUInt32 >>> ((8 : Int32) &&& 31).toUInt32).toInt32) &&& (255 : Int32)).toUInt32.toUInt16.toUInt32.toInt32)), .val (.int ((((p2.toUInt32 >>> ((16 : Int32) &&& 31).toUInt32).toInt32) &&& (255 : Int32)).toUInt32.toUInt16.toUInt32.toInt32)), .val (.int r8), .val (.int r11), .unset, .unset, .unset, .unset, .unset, .unset, .unset, .unset] [(.int r5)])) (fun tz kz => ?_) ?_
  · show Steps p.tables e below (s₁.setTop (mkF m 112 #[.val (.int p1), .val (.int p2), .val (.int p3), .val (.int p4), .val (.int p5), .val (.int p6), .val (.int ((p1 &&& (2147483647 : Int32)) % (6 : Int32))), .val (.int (p4 &&& (3 : Int32))), .val (.int r2), .val (.int r5), .val (.int ((p2 &&& (255 : Int32)).toUInt32.toUInt16.toUInt32.toInt32)), .val (.int ((((p2.toUInt32 >>> ((8 : Int32) &&& 31).toUInt32).toInt32) &&& (255 : Int32)).toUInt32.toUInt16.toUInt32.toInt32)), .val (.int ((((p2.toUInt32 >>> ((16 : Int32) &&& 31).toUInt32).toInt32) &&& (255 : Int32)).toUInt32.toUInt16.toUInt32.toInt32)), .val (.int r8), .unset, .unset, .unset, .unset, .unset, .unset, .unset, .unset, .unset] [(.int r11)])) _
    refine XS.istore X0.here hx rfl (hb hby at_112) rfl (l' := #[.val (.int p1), .val (.int p2), .val (.int p3), .val (.int p4), .val (.int p5), .val (.int p6), .val (.int ((p1 &&& (2147483647 : Int32)) % (6 : Int32))), .val (.int (p4 &&& (3 : Int32))), .val (.int r2), .val (.int r5), .val (.int ((p2 &&& (255 : Int32)).toUInt32.toUInt16.toUInt32.toInt32)), .val (.int ((((p2.toUInt32 >>> ((8 : Int32) &&& 31).toUInt32).toInt32) &&& (255 : Int32)).toUInt32.toUInt16.toUInt32.toInt32)), .val (.int ((((p2.toUInt32 >>> ((16 : Int32) &&& 31).toUInt32).toInt32) &&& (255 : Int32)).toUInt32.toUInt16.toUInt32.toInt32)), .val (.int r8), .val (.int r11), .unset, .unset, .unset, .unset, .unset, .unset, .unset, .unset]) rfl ?_
    refine XS.iload X0.here hx rfl (hb hby at_114) rfl ?_
    exact kz
  obtain ⟨r14, hr14⟩ : ∃ zz_ : Int32, zz_ = (if r5 = (0 : Int32) then (((p3.toUInt32 >>> ((16 : Int32) &&& 31).toUInt32).toInt32) &&& (255 : Int32)) else (0 : Int32)) := ⟨_, rfl⟩
  have j116_15 : ∀ t, Steps p.tables e below (s₁.setTop (mkF m 131 #[.val (.int p1), .val (.int p2), .val (.int p3), .val (.int p4), .val (.int p5), .val (.int p6), .val (.int ((p1 &&& (2147483647 : Int32)) % (6 : Int32))), .val (.int (p4 &&& (3 : Int32))), .val (.int r2), .val (.int r5), .val (.int ((p2 &&& (255 : Int32)).toUInt32.toUInt16.toUInt32.toInt32)), .val (.int ((((p2.toUInt32 >>> ((8 : Int32) &&& 31).toUInt32).toInt32) &&& (255 : Int32)).toUInt32.toUInt16.toUInt32.toInt32)), .val (.int ((((p2.toUInt32 >>> ((16 : Int32) &&& 31).toUInt32).toInt32) &&& (255 : Int32)).toUInt32.toUInt16.toUInt32.toInt32)), .val (.int r8), .val (.int r11), .unset, .unset, .unset, .unset, .unset, .unset, .unset, .unset] [(.int r14)])) t → Steps p.tables e below (s₁.setTop (mkF m 116 #[.val (.int p1), .val (.int p2), .val (.int p3), .val (.int p4), .val (.int p5), .val (.int p6), .val (.int ((p1 &&& (2147483647 : Int32)) % (6 : Int32))), .val (.int (p4 &&& (3 : Int32))), .val (.int r2), .val (.int r5), .val (.int ((p2 &&& (255 : Int32)).toUInt32.toUInt16.toUInt32.toInt32)), .val (.int ((((p2.toUInt32 >>> ((8 : Int32) &&& 31).toUInt32).toInt32) &&& (255 : Int32)).toUInt32.toUInt16.toUInt32.toInt32)), .val (.int ((((p2.toUInt32 >>> ((16 : Int32) &&& 31).toUInt32).toInt32) &&& (255 : Int32)).toUInt32.toUInt16.toUInt32.toInt32)), .val (.int r8), .val (.int r11), .unset, .unset, .unset, .unset, .unset, .unset, .unset, .unset] [(.int r5)])) t := by
    intro tz kz
    by_cases hc116_13 : r5 = (0 : Int32)
    · rw [if_pos hc116_13] at hr14
      show Steps p.tables e below (s₁.setTop (mkF m 116 #[.val (.int p1), .val (.int p2), .val (.int p3), .val (.int p4), .val (.int p5), .val (.int p6), .val (.int ((p1 &&& (2147483647 : Int32)) % (6 : Int32))), .val (.int (p4 &&& (3 : Int32))), .val (.int r2), .val (.int r5), .val (.int ((p2 &&& (255 : Int32)).toUInt32.toUInt16.toUInt32.toInt32)), .val (.int ((((p2.toUInt32 >>> ((8 : Int32) &&& 31).toUInt32).toInt32) &&& (255 : Int32)).toUInt32.toUInt16.toUInt32.toInt32)), .val (.int ((((p2.toUInt32 >>> ((16 : Int32) &&& 31).toUInt32).toInt32) &&& (255 : Int32)).toUInt32.toUInt16.toUInt32.toInt32)), .val (.int r8), .val (.int r11), .unset, .unset, .unset, .unset, .unset, .unset, .unset, .unset] [(.int r5)])) _
      refine XS.ifYes X0.here hx rfl (pc0 := 116) (pc' := 123) rfl (hb hby at_116) rfl ((if0 _ _).trans (teq hc116_13).1) (by decide) (by decide) ?_
      refine XS.iloadN X0.here hx rfl (hb hby at_123) rfl ?_
      refine XS.bipush X0.here hx rfl (hb hby at_124) ?_
      refine XS.iushr X0.here hx rfl (hb hby at_126) rfl ?_
      show Steps p.tables e below (s₁.setTop (mkF m 127 #[.val (.int p1), .val (.int p2), .val (.int p3), .val (.int p4), .val (.int p5), .val (.int p6), .val (.int ((p1 &&& (2147483647 : Int32)) % (6 : Int32))), .val (.int (p4 &&& (3 : Int32))), .val (.int r2), .val (.int r5), .val (.int ((p2 &&& (255 : Int32)).toUInt32.toUInt16.toUInt32.toInt32)), .val (.int ((((p2.toUInt32 >>> ((8 : Int32) &&& 31).toUInt32).toInt32) &&& (255 : Int32)).toUInt32.toUInt16.toUInt32.toInt32)), .val (.int ((((p2.toUInt32 >>> ((16 : Int32) &&& 31).toUInt32).toInt32) &&& (255 : Int32)).toUInt32.toUInt16.toUInt32.toInt32)), .val (.int r8), .val (.int r11), .unset, .unset, .unset, .unset, .unset, .unset, .unset, .unset] [(.int ((p3.toUInt32 >>> ((16 : Int32) &&& 31).toUInt32).toInt32))])) _
      refine XS.sipush X0.here hx rfl (hb hby at_127) ?_
      refine XS.iand X0.here hx rfl (hb hby at_130) rfl ?_
      subst hr14
      exact kz
    · rw [if_neg hc116_13] at hr14
      show Steps p.tables e below (s₁.setTop (mkF m 116 #[.val (.int p1), .val (.int p2), .val (.int p3), .val (.int p4), .val (.int p5), .val (.int p6), .val (.int ((p1 &&& (2147483647 : Int32)) % (6 : Int32))), .val (.int (p4 &&& (3 : Int32))), .val (.int r2), .val (.int r5), .val (.int ((p2 &&& (255 : Int32)).toUInt32.toUInt16.toUInt32.toInt32)), .val (.int ((((p2.toUInt32 >>> ((8 : Int32) &&& 31).toUInt32).toInt32) &&& (255 : Int32)).toUInt32.toUInt16.toUInt32.toInt32)), .val (.int ((((p2.toUInt32 >>> ((16 : Int32) &&& 31).toUInt32).toInt32) &&& (255 : Int32)).toUInt32.toUInt16.toUInt32.toInt32)), .val (.int r8), .val (.int r11), .unset, .unset, .unset, .unset, .unset, .unset, .unset, .unset] [(.int r5)])) _
      refine XS.ifNo X0.here hx rfl (hb hby at_116) rfl ((if0 _ _).trans (feq hc116_13).1) ?_
      refine XS.iconst X0.here hx rfl (hb hby at_119) ?_
      refine XS.goto X0.here hx rfl (pc0 := 120) (pc' := 131) rfl (hb hby at_120) (by decide) (by decide) ?_
      subst hr14
      exact kz
  refine Goes.via j116_15 ?_
  refine Goes.via (S' := s₁.setTop (mkF m 165 #[.val (.int p1), .val (.int p2), .val (.int p3), .val (.int p4), .val (.int p5), .val (.int p6), .val (.int ((p1 &&& (2147483647 : Int32)) % (6 : Int32))), .val (.int (p4 &&& (3 : Int32))), .val (.int r2), .val (.int r5), .val (.int ((p2 &&& (255 : Int32)).toUInt32.toUInt16.toUInt32.toInt32)), .val (.int ((((p2.toUInt32 >>> ((8 : Int32) &&& 31).toUInt32).toInt32) &&& (255 : Int32)).toUInt32.toUInt16.toUInt32.toInt32)), .val (.int ((((p2.toUInt32 >>> ((16 : Int32) &&& 31).toUInt32).toInt32) &&& (255 : Int32)).toUInt32.toUInt16.toUInt32.toInt32)), .val (.int r8), .val (.int r11), .val (.int r14), .val (.int ((((p2 &&& (255 : Int32)).toUInt32.toUInt16.toUInt32.toInt32) ^^^ r8).toUInt32.toUInt16.toUInt32.toInt32)), .val (.int ((((((p2.toUInt32 >>> ((8 : Int32) &&& 31).toUInt32).toInt32) &&& (255 : Int32)).toUInt32.toUInt16.toUInt32.toInt32) ^^^ r11).toUInt32.toUInt16.toUInt32.toInt32)), .val (.int ((((((p2.toUInt32 >>> ((16 : Int32) &&& 31).toUInt32).toInt32) &&& (255 : Int32)).toUInt32.toUInt16.toUInt32.toInt32) ^^^ r14).toUInt32.toUInt16.toUInt32.toInt32)), .unset, .unset, .unset, .unset] [(.int ((((p2.toUInt32 >>> ((16 : Int32) &&& 31).toUInt32).toInt32) &&& (255 : Int32)).toUInt32.toUInt16.toUInt32.toInt32)), (.int ((((p2.toUInt32 >>> ((8 : Int32) &&& 31).toUInt32).toInt32) &&& (255 : Int32)).toUInt32.toUInt16.toUInt32.toInt32)), (.int ((p2 &&& (255 : Int32)).toUInt32.toUInt16.toUInt32.toInt32)), (.int (p4 &&& (3 : Int32)))])) (fun tz kz => ?_) ?_
  · show Steps p.tables e below (s₁.setTop (mkF m 131 #[.val (.int p1), .val (.int p2), .val (.int p3), .val (.int p4), .val (.int p5), .val (.int p6), .val (.int ((p1 &&& (2147483647 : Int32)) % (6 : Int32))), .val (.int (p4 &&& (3 : Int32))), .val (.int r2), .val (.int r5), .val (.int ((p2 &&& (255 : Int32)).toUInt32.toUInt16.toUInt32.toInt32)), .val (.int ((((p2.toUInt32 >>> ((8 : Int32) &&& 31).toUInt32).toInt32) &&& (255 : Int32)).toUInt32.toUInt16.toUInt32.toInt32)), .val (.int ((((p2.toUInt32 >>> ((16 : Int32) &&& 31).toUInt32).toInt32) &&& (255 : Int32)).toUInt32.toUInt16.toUInt32.toInt32)), .val (.int r8), .val (.int r11), .unset, .unset, .unset, .unset, .unset, .unset, .unset, .unset] [(.int r14)])) _
    refine XS.istore X0.here hx rfl (hb hby at_131) rfl (l' := #[.val (.int p1), .val (.int p2), .val (.int p3), .val (.int p4), .val (.int p5), .val (.int p6), .val (.int ((p1 &&& (2147483647 : Int32)) % (6 : Int32))), .val (.int (p4 &&& (3 : Int32))), .val (.int r2), .val (.int r5), .val (.int ((p2 &&& (255 : Int32)).toUInt32.toUInt16.toUInt32.toInt32)), .val (.int ((((p2.toUInt32 >>> ((8 : Int32) &&& 31).toUInt32).toInt32) &&& (255 : Int32)).toUInt32.toUInt16.toUInt32.toInt32)), .val (.int ((((p2.toUInt32 >>> ((16 : Int32) &&& 31).toUInt32).toInt32) &&& (255 : Int32)).toUInt32.toUInt16.toUInt32.toInt32)), .val (.int r8), .val (.int r11), .val (.int r14), .unset, .unset, .unset, .unset, .unset, .unset, .unset]) rfl ?_
    refine XS.iload X0.here hx rfl (hb hby at_133) rfl ?_
    refine XS.iload X0.here hx rfl (hb hby at_135) rfl ?_
    refine XS.ixor X0.here hx rfl (hb hby at_137) rfl ?_
    show Steps p.tables e below (s₁.setTop (mkF m 138 #[.val (.int p1), .val (.int p2), .val (.int p3), .val (.int p4), .val (.int p5), .val (.int p6), .val (.int ((p1 &&& (2147483647 : Int32)) % (6 : Int32))), .val (.int (p4 &&& (3 : Int32))), .val (.int r2), .val (.int r5), .val (.int ((p2 &&& (255 : Int32)).toUInt32.toUInt16.toUInt32.toInt32)), .val (.int ((((p2.toUInt32 >>> ((8 : Int32) &&& 31).toUInt32).toInt32) &&& (255 : Int32)).toUInt32.toUInt16.toUInt32.toInt32)), .val (.int ((((p2.toUInt32 >>> ((16 : Int32) &&& 31).toUInt32).toInt32) &&& (255 : Int32)).toUInt32.toUInt16.toUInt32.toInt32)), .val (.int r8), .val (.int r11), .val (.int r14), .unset, .unset, .unset, .unset, .unset, .unset, .unset] [(.int (((p2 &&& (255 : Int32)).toUInt32.toUInt16.toUInt32.toInt32) ^^^ r8))])) _
    refine XS.i2c X0.here hx rfl (hb hby at_138) rfl ?_
    refine XS.istore X0.here hx rfl (hb hby at_139) rfl (l' := #[.val (.int p1), .val (.int p2), .val (.int p3), .val (.int p4), .val (.int p5), .val (.int p6), .val (.int ((p1 &&& (2147483647 : Int32)) % (6 : Int32))), .val (.int (p4 &&& (3 : Int32))), .val (.int r2), .val (.int r5), .val (.int ((p2 &&& (255 : Int32)).toUInt32.toUInt16.toUInt32.toInt32)), .val (.int ((((p2.toUInt32 >>> ((8 : Int32) &&& 31).toUInt32).toInt32) &&& (255 : Int32)).toUInt32.toUInt16.toUInt32.toInt32)), .val (.int ((((p2.toUInt32 >>> ((16 : Int32) &&& 31).toUInt32).toInt32) &&& (255 : Int32)).toUInt32.toUInt16.toUInt32.toInt32)), .val (.int r8), .val (.int r11), .val (.int r14), .val (.int ((((p2 &&& (255 : Int32)).toUInt32.toUInt16.toUInt32.toInt32) ^^^ r8).toUInt32.toUInt16.toUInt32.toInt32)), .unset, .unset, .unset, .unset, .unset, .unset]) rfl ?_
    refine XS.iload X0.here hx rfl (hb hby at_141) rfl ?_
    refine XS.iload X0.here hx rfl (hb hby at_143) rfl ?_
    show Steps p.tables e below (s₁.setTop (mkF m 145 #[.val (.int p1), .val (.int p2), .val (.int p3), .val (.int p4), .val (.int p5), .val (.int p6), .val (.int ((p1 &&& (2147483647 : Int32)) % (6 : Int32))), .val (.int (p4 &&& (3 : Int32))), .val (.int r2), .val (.int r5), .val (.int ((p2 &&& (255 : Int32)).toUInt32.toUInt16.toUInt32.toInt32)), .val (.int ((((p2.toUInt32 >>> ((8 : Int32) &&& 31).toUInt32).toInt32) &&& (255 : Int32)).toUInt32.toUInt16.toUInt32.toInt32)), .val (.int ((((p2.toUInt32 >>> ((16 : Int32) &&& 31).toUInt32).toInt32) &&& (255 : Int32)).toUInt32.toUInt16.toUInt32.toInt32)), .val (.int r8), .val (.int r11), .val (.int r14), .val (.int ((((p2 &&& (255 : Int32)).toUInt32.toUInt16.toUInt32.toInt32) ^^^ r8).toUInt32.toUInt16.toUInt32.toInt32)), .unset, .unset, .unset, .unset, .unset, .unset] [(.int r11), (.int ((((p2.toUInt32 >>> ((8 : Int32) &&& 31).toUInt32).toInt32) &&& (255 : Int32)).toUInt32.toUInt16.toUInt32.toInt32))])) _
    refine XS.ixor X0.here hx rfl (hb hby at_145) rfl ?_
    refine XS.i2c X0.here hx rfl (hb hby at_146) rfl ?_
    refine XS.istore X0.here hx rfl (hb hby at_147) rfl (l' := #[.val (.int p1), .val (.int p2), .val (.int p3), .val (.int p4), .val (.int p5), .val (.int p6), .val (.int ((p1 &&& (2147483647 : Int32)) % (6 : Int32))), .val (.int (p4 &&& (3 : Int32))), .val (.int r2), .val (.int r5), .val (.int ((p2 &&& (255 : Int32)).toUInt32.toUInt16.toUInt32.toInt32)), .val (.int ((((p2.toUInt32 >>> ((8 : Int32) &&& 31).toUInt32).toInt32) &&& (255 : Int32)).toUInt32.toUInt16.toUInt32.toInt32)), .val (.int ((((p2.toUInt32 >>> ((16 : Int32) &&& 31).toUInt32).toInt32) &&& (255 : Int32)).toUInt32.toUInt16.toUInt32.toInt32)), .val (.int r8), .val (.int r11), .val (.int r14), .val (.int ((((p2 &&& (255 : Int32)).toUInt32.toUInt16.toUInt32.toInt32) ^^^ r8).toUInt32.toUInt16.toUInt32.toInt32)), .val (.int ((((((p2.toUInt32 >>> ((8 : Int32) &&& 31).toUInt32).toInt32) &&& (255 : Int32)).toUInt32.toUInt16.toUInt32.toInt32) ^^^ r11).toUInt32.toUInt16.toUInt32.toInt32)), .unset, .unset, .unset, .unset, .unset]) rfl ?_
    refine XS.iload X0.here hx rfl (hb hby at_149) rfl ?_
    show Steps p.tables e below (s₁.setTop (mkF m 151 #[.val (.int p1), .val (.int p2), .val (.int p3), .val (.int p4), .val (.int p5), .val (.int p6), .val (.int ((p1 &&& (2147483647 : Int32)) % (6 : Int32))), .val (.int (p4 &&& (3 : Int32))), .val (.int r2), .val (.int r5), .val (.int ((p2 &&& (255 : Int32)).toUInt32.toUInt16.toUInt32.toInt32)), .val (.int ((((p2.toUInt32 >>> ((8 : Int32) &&& 31).toUInt32).toInt32) &&& (255 : Int32)).toUInt32.toUInt16.toUInt32.toInt32)), .val (.int ((((p2.toUInt32 >>> ((16 : Int32) &&& 31).toUInt32).toInt32) &&& (255 : Int32)).toUInt32.toUInt16.toUInt32.toInt32)), .val (.int r8), .val (.int r11), .val (.int r14), .val (.int ((((p2 &&& (255 : Int32)).toUInt32.toUInt16.toUInt32.toInt32) ^^^ r8).toUInt32.toUInt16.toUInt32.toInt32)), .val (.int ((((((p2.toUInt32 >>> ((8 : Int32) &&& 31).toUInt32).toInt32) &&& (255 : Int32)).toUInt32.toUInt16.toUInt32.toInt32) ^^^ r11).toUInt32.toUInt16.toUInt32.toInt32)), .unset, .unset, .unset, .unset, .unset] [(.int ((((p2.toUInt32 >>> ((16 : Int32) &&& 31).toUInt32).toInt32) &&& (255 : Int32)).toUInt32.toUInt16.toUInt32.toInt32))])) _
    refine XS.iload X0.here hx rfl (hb hby at_151) rfl ?_
    refine XS.ixor X0.here hx rfl (hb hby at_153) rfl ?_
    refine XS.i2c X0.here hx rfl (hb hby at_154) rfl ?_
    refine XS.istore X0.here hx rfl (hb hby at_155) rfl (l' := #[.val (.int p1), .val (.int p2), .val (.int p3), .val (.int p4), .val (.int p5), .val (.int p6), .val (.int ((p1 &&& (2147483647 : Int32)) % (6 : Int32))), .val (.int (p4 &&& (3 : Int32))), .val (.int r2), .val (.int r5), .val (.int ((p2 &&& (255 : Int32)).toUInt32.toUInt16.toUInt32.toInt32)), .val (.int ((((p2.toUInt32 >>> ((8 : Int32) &&& 31).toUInt32).toInt32) &&& (255 : Int32)).toUInt32.toUInt16.toUInt32.toInt32)), .val (.int ((((p2.toUInt32 >>> ((16 : Int32) &&& 31).toUInt32).toInt32) &&& (255 : Int32)).toUInt32.toUInt16.toUInt32.toInt32)), .val (.int r8), .val (.int r11), .val (.int r14), .val (.int ((((p2 &&& (255 : Int32)).toUInt32.toUInt16.toUInt32.toInt32) ^^^ r8).toUInt32.toUInt16.toUInt32.toInt32)), .val (.int ((((((p2.toUInt32 >>> ((8 : Int32) &&& 31).toUInt32).toInt32) &&& (255 : Int32)).toUInt32.toUInt16.toUInt32.toInt32) ^^^ r11).toUInt32.toUInt16.toUInt32.toInt32)), .val (.int ((((((p2.toUInt32 >>> ((16 : Int32) &&& 31).toUInt32).toInt32) &&& (255 : Int32)).toUInt32.toUInt16.toUInt32.toInt32) ^^^ r14).toUInt32.toUInt16.toUInt32.toInt32)), .unset, .unset, .unset, .unset]) rfl ?_
    show Steps p.tables e below (s₁.setTop (mkF m 157 #[.val (.int p1), .val (.int p2), .val (.int p3), .val (.int p4), .val (.int p5), .val (.int p6), .val (.int ((p1 &&& (2147483647 : Int32)) % (6 : Int32))), .val (.int (p4 &&& (3 : Int32))), .val (.int r2), .val (.int r5), .val (.int ((p2 &&& (255 : Int32)).toUInt32.toUInt16.toUInt32.toInt32)), .val (.int ((((p2.toUInt32 >>> ((8 : Int32) &&& 31).toUInt32).toInt32) &&& (255 : Int32)).toUInt32.toUInt16.toUInt32.toInt32)), .val (.int ((((p2.toUInt32 >>> ((16 : Int32) &&& 31).toUInt32).toInt32) &&& (255 : Int32)).toUInt32.toUInt16.toUInt32.toInt32)), .val (.int r8), .val (.int r11), .val (.int r14), .val (.int ((((p2 &&& (255 : Int32)).toUInt32.toUInt16.toUInt32.toInt32) ^^^ r8).toUInt32.toUInt16.toUInt32.toInt32)), .val (.int ((((((p2.toUInt32 >>> ((8 : Int32) &&& 31).toUInt32).toInt32) &&& (255 : Int32)).toUInt32.toUInt16.toUInt32.toInt32) ^^^ r11).toUInt32.toUInt16.toUInt32.toInt32)), .val (.int ((((((p2.toUInt32 >>> ((16 : Int32) &&& 31).toUInt32).toInt32) &&& (255 : Int32)).toUInt32.toUInt16.toUInt32.toInt32) ^^^ r14).toUInt32.toUInt16.toUInt32.toInt32)), .unset, .unset, .unset, .unset] [])) _
    refine XS.iload X0.here hx rfl (hb hby at_157) rfl ?_
    refine XS.iload X0.here hx rfl (hb hby at_159) rfl ?_
    refine XS.iload X0.here hx rfl (hb hby at_161) rfl ?_
    refine XS.iload X0.here hx rfl (hb hby at_163) rfl ?_
    exact kz
  have ut0 : own_u8 ((p2 &&& (255 : Int32)).toUInt32.toUInt16.toUInt32.toInt32) := (own_u8.and _).c
  have ut1 : own_u8 ((((p2.toUInt32 >>> ((8 : Int32) &&& 31).toUInt32).toInt32) &&& (255 : Int32)).toUInt32.toUInt16.toUInt32.toInt32) := (own_u8.and _).c
  have ut2 : own_u8 ((((p2.toUInt32 >>> ((16 : Int32) &&& 31).toUInt32).toInt32) &&& (255 : Int32)).toUInt32.toUInt16.toUInt32.toInt32) := (own_u8.and _).c
  obtain ⟨_, _, ⟨T16, L16, k16, n16⟩, -, X16, hs16, gs16, ⟨Lc16, hQ16, l16, y16, z16, hc16⟩, st16⟩ := callSS (show Stand p l e _ (s.setVm s.vm) m _ below meth c _ _ _ _ from X0) hx (y := (⟨"com/example/loopwright/loopwright/TokenIsPinLaw", "str", "(ICCC)Ljava/lang/String;"⟩ : MethodName)) hown (mvT hZ (w_ hw 1 rfl)) (mvT hZ (w_ hw 2 rfl)) (mvT hZ (w_ hw 3 rfl)) (mvT hZ (w_ hw 4 rfl)) (by decide) (backOfSH (s := s) (vm0 := s.vm) (W := 0) (rs l Z a0 hw (p4 &&& (3 : Int32)) ((p2 &&& (255 : Int32)).toUInt32.toUInt16.toUInt32.toInt32) ((((p2.toUInt32 >>> ((8 : Int32) &&& 31).toUInt32).toInt32) &&& (255 : Int32)).toUInt32.toUInt16.toUInt32.toInt32) ((((p2.toUInt32 >>> ((16 : Int32) &&& 31).toUInt32).toInt32) &&& (255 : Int32)).toUInt32.toUInt16.toUInt32.toInt32) cs h0 n0 Z0 (own_and4 _) SC hcs O0 ut0.nc ut1.nc ut2.nc ut0.sm ut1.sm ut2.sm) hZ (w_ hw 4 rfl) (w_ hw 3 rfl) (by decide) (by decide) hEL hC0.1) (g := (mkF m 165 #[.val (.int p1), .val (.int p2), .val (.int p3), .val (.int p4), .val (.int p5), .val (.int p6), .val (.int ((p1 &&& (2147483647 : Int32)) % (6 : Int32))), .val (.int (p4 &&& (3 : Int32))), .val (.int r2), .val (.int r5), .val (.int ((p2 &&& (255 : Int32)).toUInt32.toUInt16.toUInt32.toInt32)), .val (.int ((((p2.toUInt32 >>> ((8 : Int32) &&& 31).toUInt32).toInt32) &&& (255 : Int32)).toUInt32.toUInt16.toUInt32.toInt32)), .val (.int ((((p2.toUInt32 >>> ((16 : Int32) &&& 31).toUInt32).toInt32) &&& (255 : Int32)).toUInt32.toUInt16.toUInt32.toInt32)), .val (.int r8), .val (.int r11), .val (.int r14), .val (.int ((((p2 &&& (255 : Int32)).toUInt32.toUInt16.toUInt32.toInt32) ^^^ r8).toUInt32.toUInt16.toUInt32.toInt32)), .val (.int ((((((p2.toUInt32 >>> ((8 : Int32) &&& 31).toUInt32).toInt32) &&& (255 : Int32)).toUInt32.toUInt16.toUInt32.toInt32) ^^^ r11).toUInt32.toUInt16.toUInt32.toInt32)), .val (.int ((((((p2.toUInt32 >>> ((16 : Int32) &&& 31).toUInt32).toInt32) &&& (255 : Int32)).toUInt32.toUInt16.toUInt32.toInt32) ^^^ r14).toUInt32.toUInt16.toUInt32.toInt32)), .unset, .unset, .unset, .unset] [(.int ((((p2.toUInt32 >>> ((16 : Int32) &&& 31).toUInt32).toInt32) &&& (255 : Int32)).toUInt32.toUInt16.toUInt32.toInt32)), (.int ((((p2.toUInt32 >>> ((8 : Int32) &&& 31).toUInt32).toInt32) &&& (255 : Int32)).toUInt32.toUInt16.toUInt32.toInt32)), (.int ((p2 &&& (255 : Int32)).toUInt32.toUInt16.toUInt32.toInt32)), (.int (p4 &&& (3 : Int32)))])) rfl (by rw [hml]; rfl) (argsL := [(.int (p4 &&& (3 : Int32))), (.int ((p2 &&& (255 : Int32)).toUInt32.toUInt16.toUInt32.toInt32)), (.int ((((p2.toUInt32 >>> ((8 : Int32) &&& 31).toUInt32).toInt32) &&& (255 : Int32)).toUInt32.toUInt16.toUInt32.toInt32)), (.int ((((p2.toUInt32 >>> ((16 : Int32) &&& 31).toUInt32).toInt32) &&& (255 : Int32)).toUInt32.toUInt16.toUInt32.toInt32))]) (rest := []) (lenOf pd_8 rfl) rfl (by show 2 * 0 + _ ≤ _; exact Nat.le_of_eq rfl) (hb hby at_165) (fun _ _ => ⟨rfl, e0, (by decide : 0 + 4 ≤ _), (by decide : 0 + 16 ≤ _)⟩)
  dsimp only [Pt.U, Pt.locs, Pt.cells, Pt.slots] at X16 l16 y16 z16 st16 hQ16 hs16 gs16 hc16
  subst l16 y16 z16
  obtain ⟨ta, tb, tk, rfl, N16, K16, ST, gt⟩ := hQ16
  rw [e0] at gs16
  have hS16 : s.Since T16.vm T16.heap.size := own_fold ((State.WarmedH.refl s).since 0) (Nat.zero_le _) hs16 gs16
  have hC16 := hC0.trans hc16
  have hZ : Z.Warmed39 (s.setVm T16.vm).vm := State.Warmed39.trans (t := s.setVm s.vm) hZ hs16.1
  have hown : (s.setVm T16.vm).vm.findClass "com/example/loopwright/loopwright/TokenIsPinLaw" = some m.cls := by rw [show (s.setVm T16.vm).vm = T16.vm from rfl, hs16.1.alike.findClass]; exact hown
  have Nf16 := Fr.app N0 N16
  refine Goes.via (S' := T16.setTop (mkF m 168 #[.val (.int p1), .val (.int p2), .val (.int p3), .val (.int p4), .val (.int p5), .val (.int p6), .val (.int ((p1 &&& (2147483647 : Int32)) % (6 : Int32))), .val (.int (p4 &&& (3 : Int32))), .val (.int r2), .val (.int r5), .val (.int ((p2 &&& (255 : Int32)).toUInt32.toUInt16.toUInt32.toInt32)), .val (.int ((((p2.toUInt32 >>> ((8 : Int32) &&& 31).toUInt32).toInt32) &&& (255 : Int32)).toUInt32.toUInt16.toUInt32.toInt32)), .val (.int ((((p2.toUInt32 >>> ((16 : Int32) &&& 31).toUInt32).toInt32) &&& (255 : Int32)).toUInt32.toUInt16.toUInt32.toInt32)), .val (.int r8), .val (.int r11), .val (.int r14), .val (.int ((((p2 &&& (255 : Int32)).toUInt32.toUInt16.toUInt32.toInt32) ^^^ r8).toUInt32.toUInt16.toUInt32.toInt32)), .val (.int ((((((p2.toUInt32 >>> ((8 : Int32) &&& 31).toUInt32).toInt32) &&& (255 : Int32)).toUInt32.toUInt16.toUInt32.toInt32) ^^^ r11).toUInt32.toUInt16.toUInt32.toInt32)), .val (.int ((((((p2.toUInt32 >>> ((16 : Int32) &&& 31).toUInt32).toInt32) &&& (255 : Int32)).toUInt32.toUInt16.toUInt32.toInt32) ^^^ r14).toUInt32.toUInt16.toUInt32.toInt32)), .unset, .unset, .unset, .unset] [(.ref ta)])) (fun _ kz => st16.trans kz) ?_
  have O1 := O0.keep K16 (fun _ q => absurd q List.not_mem_nil)
  have Z1 := Nat.le_trans Z0 K16.1
  refine Goes.via (S' := T16.setTop (mkF m 178 #[.val (.int p1), .val (.int p2), .val (.int p3), .val (.int p4), .val (.int p5), .val (.int p6), .val (.int ((p1 &&& (2147483647 : Int32)) % (6 : Int32))), .val (.int (p4 &&& (3 : Int32))), .val (.int r2), .val (.int r5), .val (.int ((p2 &&& (255 : Int32)).toUInt32.toUInt16.toUInt32.toInt32)), .val (.int ((((p2.toUInt32 >>> ((8 : Int32) &&& 31).toUInt32).toInt32) &&& (255 : Int32)).toUInt32.toUInt16.toUInt32.toInt32)), .val (.int ((((p2.toUInt32 >>> ((16 : Int32) &&& 31).toUInt32).toInt32) &&& (255 : Int32)).toUInt32.toUInt16.toUInt32.toInt32)), .val (.int r8), .val (.int r11), .val (.int r14), .val (.int ((((p2 &&& (255 : Int32)).toUInt32.toUInt16.toUInt32.toInt32) ^^^ r8).toUInt32.toUInt16.toUInt32.toInt32)), .val (.int ((((((p2.toUInt32 >>> ((8 : Int32) &&& 31).toUInt32).toInt32) &&& (255 : Int32)).toUInt32.toUInt16.toUInt32.toInt32) ^^^ r11).toUInt32.toUInt16.toUInt32.toInt32)), .val (.int ((((((p2.toUInt32 >>> ((16 : Int32) &&& 31).toUInt32).toInt32) &&& (255 : Int32)).toUInt32.toUInt16.toUInt32.toInt32) ^^^ r14).toUInt32.toUInt16.toUInt32.toInt32)), .val (.ref ta), .unset, .unset, .unset] [(.int ((((((p2.toUInt32 >>> ((16 : Int32) &&& 31).toUInt32).toInt32) &&& (255 : Int32)).toUInt32.toUInt16.toUInt32.toInt32) ^^^ r14).toUInt32.toUInt16.toUInt32.toInt32)), (.int ((((((p2.toUInt32 >>> ((8 : Int32) &&& 31).toUInt32).toInt32) &&& (255 : Int32)).toUInt32.toUInt16.toUInt32.toInt32) ^^^ r11).toUInt32.toUInt16.toUInt32.toInt32)), (.int ((((p2 &&& (255 : Int32)).toUInt32.toUInt16.toUInt32.toInt32) ^^^ r8).toUInt32.toUInt16.toUInt32.toInt32)), (.int r2)])) (fun tz kz => ?_) ?_
  · show Steps p.tables e below (T16.setTop (mkF m 168 #[.val (.int p1), .val (.int p2), .val (.int p3), .val (.int p4), .val (.int p5), .val (.int p6), .val (.int ((p1 &&& (2147483647 : Int32)) % (6 : Int32))), .val (.int (p4 &&& (3 : Int32))), .val (.int r2), .val (.int r5), .val (.int ((p2 &&& (255 : Int32)).toUInt32.toUInt16.toUInt32.toInt32)), .val (.int ((((p2.toUInt32 >>> ((8 : Int32) &&& 31).toUInt32).toInt32) &&& (255 : Int32)).toUInt32.toUInt16.toUInt32.toInt32)), .val (.int ((((p2.toUInt32 >>> ((16 : Int32) &&& 31).toUInt32).toInt32) &&& (255 : Int32)).toUInt32.toUInt16.toUInt32.toInt32)), .val (.int r8), .val (.int r11), .val (.int r14), .val (.int ((((p2 &&& (255 : Int32)).toUInt32.toUInt16.toUInt32.toInt32) ^^^ r8).toUInt32.toUInt16.toUInt32.toInt32)), .val (.int ((((((p2.toUInt32 >>> ((8 : Int32) &&& 31).toUInt32).toInt32) &&& (255 : Int32)).toUInt32.toUInt16.toUInt32.toInt32) ^^^ r11).toUInt32.toUInt16.toUInt32.toInt32)), .val (.int ((((((p2.toUInt32 >>> ((16 : Int32) &&& 31).toUInt32).toInt32) &&& (255 : Int32)).toUInt32.toUInt16.toUInt32.toInt32) ^^^ r14).toUInt32.toUInt16.toUInt32.toInt32)), .unset, .unset, .unset, .unset] [(.ref ta)])) _
    refine XS.astore X16.here hx rfl (hb hby at_168) rfl rfl (l' := #[.val (.int p1), .val (.int p2), .val (.int p3), .val (.int p4), .val (.int p5), .val (.int p6), .val (.int ((p1 &&& (2147483647 : Int32)) % (6 : Int32))), .val (.int (p4 &&& (3 : Int32))), .val (.int r2), .val (.int r5), .val (.int ((p2 &&& (255 : Int32)).toUInt32.toUInt16.toUInt32.toInt32)), .val (.int ((((p2.toUInt32 >>> ((8 : Int32) &&& 31).toUInt32).toInt32) &&& (255 : Int32)).toUInt32.toUInt16.toUInt32.toInt32)), .val (.int ((((p2.toUInt32 >>> ((16 : Int32) &&& 31).toUInt32).toInt32) &&& (255 : Int32)).toUInt32.toUInt16.toUInt32.toInt32)), .val (.int r8), .val (.int r11), .val (.int r14), .val (.int ((((p2 &&& (255 : Int32)).toUInt32.toUInt16.toUInt32.toInt32) ^^^ r8).toUInt32.toUInt16.toUInt32.toInt32)), .val (.int ((((((p2.toUInt32 >>> ((8 : Int32) &&& 31).toUInt32).toInt32) &&& (255 : Int32)).toUInt32.toUInt16.toUInt32.toInt32) ^^^ r11).toUInt32.toUInt16.toUInt32.toInt32)), .val (.int ((((((p2.toUInt32 >>> ((16 : Int32) &&& 31).toUInt32).toInt32) &&& (255 : Int32)).toUInt32.toUInt16.toUInt32.toInt32) ^^^ r14).toUInt32.toUInt16.toUInt32.toInt32)), .val (.ref ta), .unset, .unset, .unset]) rfl ?_
    refine XS.iload X16.here hx rfl (hb hby at_170) rfl ?_
    refine XS.iload X16.here hx rfl (hb hby at_172) rfl ?_
    refine XS.iload X16.here hx rfl (hb hby at_174) rfl ?_
    show Steps p.tables e below (T16.setTop (mkF m 176 #[.val (.int p1), .val (.int p2), .val (.int p3), .val (.int p4), .val (.int p5), .val (.int p6), .val (.int ((p1 &&& (2147483647 : Int32)) % (6 : Int32))), .val (.int (p4 &&& (3 : Int32))), .val (.int r2), .val (.int r5), .val (.int ((p2 &&& (255 : Int32)).toUInt32.toUInt16.toUInt32.toInt32)), .val (.int ((((p2.toUInt32 >>> ((8 : Int32) &&& 31).toUInt32).toInt32) &&& (255 : Int32)).toUInt32.toUInt16.toUInt32.toInt32)), .val (.int ((((p2.toUInt32 >>> ((16 : Int32) &&& 31).toUInt32).toInt32) &&& (255 : Int32)).toUInt32.toUInt16.toUInt32.toInt32)), .val (.int r8), .val (.int r11), .val (.int r14), .val (.int ((((p2 &&& (255 : Int32)).toUInt32.toUInt16.toUInt32.toInt32) ^^^ r8).toUInt32.toUInt16.toUInt32.toInt32)), .val (.int ((((((p2.toUInt32 >>> ((8 : Int32) &&& 31).toUInt32).toInt32) &&& (255 : Int32)).toUInt32.toUInt16.toUInt32.toInt32) ^^^ r11).toUInt32.toUInt16.toUInt32.toInt32)), .val (.int ((((((p2.toUInt32 >>> ((16 : Int32) &&& 31).toUInt32).toInt32) &&& (255 : Int32)).toUInt32.toUInt16.toUInt32.toInt32) ^^^ r14).toUInt32.toUInt16.toUInt32.toInt32)), .val (.ref ta), .unset, .unset, .unset] [(.int ((((((p2.toUInt32 >>> ((8 : Int32) &&& 31).toUInt32).toInt32) &&& (255 : Int32)).toUInt32.toUInt16.toUInt32.toInt32) ^^^ r11).toUInt32.toUInt16.toUInt32.toInt32)), (.int ((((p2 &&& (255 : Int32)).toUInt32.toUInt16.toUInt32.toInt32) ^^^ r8).toUInt32.toUInt16.toUInt32.toInt32)), (.int r2)])) _
    refine XS.iload X16.here hx rfl (hb hby at_176) rfl ?_
    exact kz
  have h4 : own_4 r2 := own_ite4 hr2 (own_and4 _) (own_and4 _)
  have ud0 : own_u8 r8 := own_u8.ite hr8 (own_u8.and _) own_u8.zero
  have us0 : own_u8 ((((p2 &&& (255 : Int32)).toUInt32.toUInt16.toUInt32.toInt32) ^^^ r8).toUInt32.toUInt16.toUInt32.toInt32) := (ut0.xor ud0).c
  have ud1 : own_u8 r11 := own_u8.ite hr11 (own_u8.and _) own_u8.zero
  have us1 : own_u8 ((((((p2.toUInt32 >>> ((8 : Int32) &&& 31).toUInt32).toInt32) &&& (255 : Int32)).toUInt32.toUInt16.toUInt32.toInt32) ^^^ r11).toUInt32.toUInt16.toUInt32.toInt32) := (ut1.xor ud1).c
  have ud2 : own_u8 r14 := own_u8.ite hr14 (own_u8.and _) own_u8.zero
  have us2 : own_u8 ((((((p2.toUInt32 >>> ((16 : Int32) &&& 31).toUInt32).toInt32) &&& (255 : Int32)).toUInt32.toUInt16.toUInt32.toInt32) ^^^ r14).toUInt32.toUInt16.toUInt32.toInt32) := (ut2.xor ud2).c
  obtain ⟨_, _, ⟨T17, L17, k17, n17⟩, -, X17, hs17, gs17, ⟨Lc17, hQ17, l17, y17, z17, hc17⟩, st17⟩ := callSS (show Stand p l e _ (s.setVm T16.vm) m _ below meth c _ _ _ _ from X16) hx (y := (⟨"com/example/loopwright/loopwright/TokenIsPinLaw", "str", "(ICCC)Ljava/lang/String;"⟩ : MethodName)) hown (mvT hZ (w_ hw 1 rfl)) (mvT hZ (w_ hw 2 rfl)) (mvT hZ (w_ hw 3 rfl)) (mvT hZ (w_ hw 4 rfl)) (by decide) (backOfSH (s := s) (vm0 := T16.vm) (W := 0) (rs l Z a0 hw r2 ((((p2 &&& (255 : Int32)).toUInt32.toUInt16.toUInt32.toInt32) ^^^ r8).toUInt32.toUInt16.toUInt32.toInt32) ((((((p2.toUInt32 >>> ((8 : Int32) &&& 31).toUInt32).toInt32) &&& (255 : Int32)).toUInt32.toUInt16.toUInt32.toInt32) ^^^ r11).toUInt32.toUInt16.toUInt32.toInt32) ((((((p2.toUInt32 >>> ((16 : Int32) &&& 31).toUInt32).toInt32) &&& (255 : Int32)).toUInt32.toUInt16.toUInt32.toInt32) ^^^ r14).toUInt32.toUInt16.toUInt32.toInt32) cs T16.heap n0 Z1 h4 SC hcs O1 us0.nc us1.nc us2.nc us0.sm us1.sm us2.sm) hZ (w_ hw 4 rfl) (w_ hw 3 rfl) (by decide) (by decide) hEL hC16.1) (g := (mkF m 178 #[.val (.int p1), .val (.int p2), .val (.int p3), .val (.int p4), .val (.int p5), .val (.int p6), .val (.int ((p1 &&& (2147483647 : Int32)) % (6 : Int32))), .val (.int (p4 &&& (3 : Int32))), .val (.int r2), .val (.int r5), .val (.int ((p2 &&& (255 : Int32)).toUInt32.toUInt16.toUInt32.toInt32)), .val (.int ((((p2.toUInt32 >>> ((8 : Int32) &&& 31).toUInt32).toInt32) &&& (255 : Int32)).toUInt32.toUInt16.toUInt32.toInt32)), .val (.int ((((p2.toUInt32 >>> ((16 : Int32) &&& 31).toUInt32).toInt32) &&& (255 : Int32)).toUInt32.toUInt16.toUInt32.toInt32)), .val (.int r8), .val (.int r11), .val (.int r14), .val (.int ((((p2 &&& (255 : Int32)).toUInt32.toUInt16.toUInt32.toInt32) ^^^ r8).toUInt32.toUInt16.toUInt32.toInt32)), .val (.int ((((((p2.toUInt32 >>> ((8 : Int32) &&& 31).toUInt32).toInt32) &&& (255 : Int32)).toUInt32.toUInt16.toUInt32.toInt32) ^^^ r11).toUInt32.toUInt16.toUInt32.toInt32)), .val (.int ((((((p2.toUInt32 >>> ((16 : Int32) &&& 31).toUInt32).toInt32) &&& (255 : Int32)).toUInt32.toUInt16.toUInt32.toInt32) ^^^ r14).toUInt32.toUInt16.toUInt32.toInt32)), .val (.ref ta), .unset, .unset, .unset] [(.int ((((((p2.toUInt32 >>> ((16 : Int32) &&& 31).toUInt32).toInt32) &&& (255 : Int32)).toUInt32.toUInt16.toUInt32.toInt32) ^^^ r14).toUInt32.toUInt16.toUInt32.toInt32)), (.int ((((((p2.toUInt32 >>> ((8 : Int32) &&& 31).toUInt32).toInt32) &&& (255 : Int32)).toUInt32.toUInt16.toUInt32.toInt32) ^^^ r11).toUInt32.toUInt16.toUInt32.toInt32)), (.int ((((p2 &&& (255 : Int32)).toUInt32.toUInt16.toUInt32.toInt32) ^^^ r8).toUInt32.toUInt16.toUInt32.toInt32)), (.int r2)])) rfl (by rw [hml]; rfl) (argsL := [(.int r2), (.int ((((p2 &&& (255 : Int32)).toUInt32.toUInt16.toUInt32.toInt32) ^^^ r8).toUInt32.toUInt16.toUInt32.toInt32)), (.int ((((((p2.toUInt32 >>> ((8 : Int32) &&& 31).toUInt32).toInt32) &&& (255 : Int32)).toUInt32.toUInt16.toUInt32.toInt32) ^^^ r11).toUInt32.toUInt16.toUInt32.toInt32)), (.int ((((((p2.toUInt32 >>> ((16 : Int32) &&& 31).toUInt32).toInt32) &&& (255 : Int32)).toUInt32.toUInt16.toUInt32.toInt32) ^^^ r14).toUInt32.toUInt16.toUInt32.toInt32))]) (rest := []) (lenOf pd_8 rfl) rfl (by show 2 * 0 + _ ≤ _; exact Nat.le_of_eq rfl) (hb hby at_178) (fun _ _ => ⟨rfl, rfl, (by decide : 4 + 4 ≤ _), (by decide : 16 + 16 ≤ _)⟩)
  dsimp only [Pt.U, Pt.locs, Pt.cells, Pt.slots] at X17 l17 y17 z17 st17 hQ17 hs17 gs17 hc17
  subst l17 y17 z17
  obtain ⟨sa, sb, sk, rfl, N17, K17, SY, gy⟩ := hQ17
  skip
  have hS17 : s.Since T17.vm T17.heap.size := own_fold hS16 (Nat.le_refl _) hs17 gs17
  have hC17 := hC16.trans hc17
  have hZ : Z.Warmed39 (s.setVm T17.vm).vm := State.Warmed39.trans (t := s.setVm T16.vm) hZ hs17.1
  have hown : (s.setVm T17.vm).vm.findClass "com/example/loopwright/loopwright/TokenIsPinLaw" = some m.cls := by rw [show (s.setVm T17.vm).vm = T17.vm from rfl, hs17.1.alike.findClass]; exact hown
  have Nf17 := Fr.app Nf16 N17
  refine Goes.via (S' := T17.setTop (mkF m 181 #[.val (.int p1), .val (.int p2), .val (.int p3), .val (.int p4), .val (.int p5), .val (.int p6), .val (.int ((p1 &&& (2147483647 : Int32)) % (6 : Int32))), .val (.int (p4 &&& (3 : Int32))), .val (.int r2), .val (.int r5), .val (.int ((p2 &&& (255 : Int32)).toUInt32.toUInt16.toUInt32.toInt32)), .val (.int ((((p2.toUInt32 >>> ((8 : Int32) &&& 31).toUInt32).toInt32) &&& (255 : Int32)).toUInt32.toUInt16.toUInt32.toInt32)), .val (.int ((((p2.toUInt32 >>> ((16 : Int32) &&& 31).toUInt32).toInt32) &&& (255 : Int32)).toUInt32.toUInt16.toUInt32.toInt32)), .val (.int r8), .val (.int r11), .val (.int r14), .val (.int ((((p2 &&& (255 : Int32)).toUInt32.toUInt16.toUInt32.toInt32) ^^^ r8).toUInt32.toUInt16.toUInt32.toInt32)), .val (.int ((((((p2.toUInt32 >>> ((8 : Int32) &&& 31).toUInt32).toInt32) &&& (255 : Int32)).toUInt32.toUInt16.toUInt32.toInt32) ^^^ r11).toUInt32.toUInt16.toUInt32.toInt32)), .val (.int ((((((p2.toUInt32 >>> ((16 : Int32) &&& 31).toUInt32).toInt32) &&& (255 : Int32)).toUInt32.toUInt16.toUInt32.toInt32) ^^^ r14).toUInt32.toUInt16.toUInt32.toInt32)), .val (.ref ta), .unset, .unset, .unset] [(.ref sa)])) (fun _ kz => st17.trans kz) ?_
  have O2 := O1.keep K17 (fun _ q => absurd q List.not_mem_nil)
  have Z2 := Nat.le_trans Z1 K17.1
  have nts : ta ≠ sa := Nat.ne_of_lt (Nat.lt_of_lt_of_le ST.lt.1 gy)
  have ST2 := ST.keep K17 nin0 nin0
  refine Goes.via (S' := T17.setTop (mkF m 183 #[.val (.int p1), .val (.int p2), .val (.int p3), .val (.int p4), .val (.int p5), .val (.int p6), .val (.int ((p1 &&& (2147483647 : Int32)) % (6 : Int32))), .val (.int (p4 &&& (3 : Int32))), .val (.int r2), .val (.int r5), .val (.int ((p2 &&& (255 : Int32)).toUInt32.toUInt16.toUInt32.toInt32)), .val (.int ((((p2.toUInt32 >>> ((8 : Int32) &&& 31).toUInt32).toInt32) &&& (255 : Int32)).toUInt32.toUInt16.toUInt32.toInt32)), .val (.int ((((p2.toUInt32 >>> ((16 : Int32) &&& 31).toUInt32).toInt32) &&& (255 : Int32)).toUInt32.toUInt16.toUInt32.toInt32)), .val (.int r8), .val (.int r11), .val (.int r14), .val (.int ((((p2 &&& (255 : Int32)).toUInt32.toUInt16.toUInt32.toInt32) ^^^ r8).toUInt32.toUInt16.toUInt32.toInt32)), .val (.int ((((((p2.toUInt32 >>> ((8 : Int32) &&& 31).toUInt32).toInt32) &&& (255 : Int32)).toUInt32.toUInt16.toUInt32.toInt32) ^^^ r11).toUInt32.toUInt16.toUInt32.toInt32)), .val (.int ((((((p2.toUInt32 >>> ((16 : Int32) &&& 31).toUInt32).toInt32) &&& (255 : Int32)).toUInt32.toUInt16.toUInt32.toInt32) ^^^ r14).toUInt32.toUInt16.toUInt32.toInt32)), .val (.ref ta), .val (.ref sa), .unset, .unset] [])) (fun tz kz => ?_) ?_
  · show Steps p.tables e below (T17.setTop (mkF m 181 #[.val (.int p1), .val (.int p2), .val (.int p3), .val (.int p4), .val (.int p5), .val (.int p6), .val (.int ((p1 &&& (2147483647 : Int32)) % (6 : Int32))), .val (.int (p4 &&& (3 : Int32))), .val (.int r2), .val (.int r5), .val (.int ((p2 &&& (255 : Int32)).toUInt32.toUInt16.toUInt32.toInt32)), .val (.int ((((p2.toUInt32 >>> ((8 : Int32) &&& 31).toUInt32).toInt32) &&& (255 : Int32)).toUInt32.toUInt16.toUInt32.toInt32)), .val (.int ((((p2.toUInt32 >>> ((16 : Int32) &&& 31).toUInt32).toInt32) &&& (255 : Int32)).toUInt32.toUInt16.toUInt32.toInt32)), .val (.int r8), .val (.int r11), .val (.int r14), .val (.int ((((p2 &&& (255 : Int32)).toUInt32.toUInt16.toUInt32.toInt32) ^^^ r8).toUInt32.toUInt16.toUInt32.toInt32)), .val (.int ((((((p2.toUInt32 >>> ((8 : Int32) &&& 31).toUInt32).toInt32) &&& (255 : Int32)).toUInt32.toUInt16.toUInt32.toInt32) ^^^ r11).toUInt32.toUInt16.toUInt32.toInt32)), .val (.int ((((((p2.toUInt32 >>> ((16 : Int32) &&& 31).toUInt32).toInt32) &&& (255 : Int32)).toUInt32.toUInt16.toUInt32.toInt32) ^^^ r14).toUInt32.toUInt16.toUInt32.toInt32)), .val (.ref ta), .unset, .unset, .unset] [(.ref sa)])) _
    refine XS.astore X17.here hx rfl (hb hby at_181) rfl rfl (l' := #[.val (.int p1), .val (.int p2), .val (.int p3), .val (.int p4), .val (.int p5), .val (.int p6), .val (.int ((p1 &&& (2147483647 : Int32)) % (6 : Int32))), .val (.int (p4 &&& (3 : Int32))), .val (.int r2), .val (.int r5), .val (.int ((p2 &&& (255 : Int32)).toUInt32.toUInt16.toUInt32.toInt32)), .val (.int ((((p2.toUInt32 >>> ((8 : Int32) &&& 31).toUInt32).toInt32) &&& (255 : Int32)).toUInt32.toUInt16.toUInt32.toInt32)), .val (.int ((((p2.toUInt32 >>> ((16 : Int32) &&& 31).toUInt32).toInt32) &&& (255 : Int32)).toUInt32.toUInt16.toUInt32.toInt32)), .val (.int r8), .val (.int r11), .val (.int r14), .val (.int ((((p2 &&& (255 : Int32)).toUInt32.toUInt16.toUInt32.toInt32) ^^^ r8).toUInt32.toUInt16.toUInt32.toInt32)), .val (.int ((((((p2.toUInt32 >>> ((8 : Int32) &&& 31).toUInt32).toInt32) &&& (255 : Int32)).toUInt32.toUInt16.toUInt32.toInt32) ^^^ r11).toUInt32.toUInt16.toUInt32.toInt32)), .val (.int ((((((p2.toUInt32 >>> ((16 : Int32) &&& 31).toUInt32).toInt32) &&& (255 : Int32)).toUInt32.toUInt16.toUInt32.toInt32) ^^^ r14).toUInt32.toUInt16.toUInt32.toInt32)), .val (.ref ta), .val (.ref sa), .unset, .unset]) rfl ?_
    exact kz
  obtain ⟨T18, h18, X18, e18, E18, A18, D18, -, st18⟩ := newO X17 hx hZ hown (w_ hw 35 rfl) (w_ hw 36 rfl) (w_ hw 37 rfl) rfl (g := (mkF m 183 #[.val (.int p1), .val (.int p2), .val (.int p3), .val (.int p4), .val (.int p5), .val (.int p6), .val (.int ((p1 &&& (2147483647 : Int32)) % (6 : Int32))), .val (.int (p4 &&& (3 : Int32))), .val (.int r2), .val (.int r5), .val (.int ((p2 &&& (255 : Int32)).toUInt32.toUInt16.toUInt32.toInt32)), .val (.int ((((p2.toUInt32 >>> ((8 : Int32) &&& 31).toUInt32).toInt32) &&& (255 : Int32)).toUInt32.toUInt16.toUInt32.toInt32)), .val (.int ((((p2.toUInt32 >>> ((16 : Int32) &&& 31).toUInt32).toInt32) &&& (255 : Int32)).toUInt32.toUInt16.toUInt32.toInt32)), .val (.int r8), .val (.int r11), .val (.int r14), .val (.int ((((p2 &&& (255 : Int32)).toUInt32.toUInt16.toUInt32.toInt32) ^^^ r8).toUInt32.toUInt16.toUInt32.toInt32)), .val (.int ((((((p2.toUInt32 >>> ((8 : Int32) &&& 31).toUInt32).toInt32) &&& (255 : Int32)).toUInt32.toUInt16.toUInt32.toInt32) ^^^ r11).toUInt32.toUInt16.toUInt32.toInt32)), .val (.int ((((((p2.toUInt32 >>> ((16 : Int32) &&& 31).toUInt32).toInt32) &&& (255 : Int32)).toUInt32.toUInt16.toUInt32.toInt32) ^^^ r14).toUInt32.toUInt16.toUInt32.toInt32)), .val (.ref ta), .val (.ref sa), .unset, .unset] [])) rfl (hb hby at_183) (by decide) (by decide)
  obtain ⟨b18, g18⟩ : ∃ z, z = T17.heap.size := ⟨_, rfl⟩
  rw [← g18] at A18 D18 st18
  refine Goes.via (S' := T18.setTop (mkF m 186 #[.val (.int p1), .val (.int p2), .val (.int p3), .val (.int p4), .val (.int p5), .val (.int p6), .val (.int ((p1 &&& (2147483647 : Int32)) % (6 : Int32))), .val (.int (p4 &&& (3 : Int32))), .val (.int r2), .val (.int r5), .val (.int ((p2 &&& (255 : Int32)).toUInt32.toUInt16.toUInt32.toInt32)), .val (.int ((((p2.toUInt32 >>> ((8 : Int32) &&& 31).toUInt32).toInt32) &&& (255 : Int32)).toUInt32.toUInt16.toUInt32.toInt32)), .val (.int ((((p2.toUInt32 >>> ((16 : Int32) &&& 31).toUInt32).toInt32) &&& (255 : Int32)).toUInt32.toUInt16.toUInt32.toInt32)), .val (.int r8), .val (.int r11), .val (.int r14), .val (.int ((((p2 &&& (255 : Int32)).toUInt32.toUInt16.toUInt32.toInt32) ^^^ r8).toUInt32.toUInt16.toUInt32.toInt32)), .val (.int ((((((p2.toUInt32 >>> ((8 : Int32) &&& 31).toUInt32).toInt32) &&& (255 : Int32)).toUInt32.toUInt16.toUInt32.toInt32) ^^^ r11).toUInt32.toUInt16.toUInt32.toInt32)), .val (.int ((((((p2.toUInt32 >>> ((16 : Int32) &&& 31).toUInt32).toInt32) &&& (255 : Int32)).toUInt32.toUInt16.toUInt32.toInt32) ^^^ r14).toUInt32.toUInt16.toUInt32.toInt32)), .val (.ref ta), .val (.ref sa), .unset, .unset] [(.ref b18)])) st18 ?_
  have hC19 := hC17.trans (CHr.ext E18 hC17.1)
  have hk20 := Nat.le_trans (Nat.le_refl _) E18.1
  have Fn0 : Fld Z h18 b18 "com/example/loopwright/loopwright/Lexer$Token" "kind" "Lcom/example/loopwright/loopwright/Lexer$Kind;" .null := D18 (Or.inr (w_ hw 54 rfl)) (ty := (.object "com/example/loopwright/loopwright/Lexer$Kind")) (by decide)
  have Fn1 : Fld Z h18 b18 "com/example/loopwright/loopwright/Lexer$Token" "text" "Ljava/lang/String;" .null := D18 (Or.inr (w_ hw 56 rfl)) (ty := (.object "java/lang/String")) (by decide)
  have Fn2 : Fld Z h18 b18 "com/example/loopwright/loopwright/Lexer$Token" "line" "I" (.int (0 : Int32)) := D18 (Or.inr (w_ hw 58 rfl)) (ty := .int) (by decide)
  have Fn3 : Fld Z h18 b18 "com/example/loopwright/loopwright/Lexer$Token" "column" "I" (.int (0 : Int32)) := D18 (Or.inr (w_ hw 60 rfl)) (ty := .int) (by decide)
  have O3 := O2.ext E18
  have Z3 := Nat.le_trans Z2 E18.1
  have ST3 := ST2.ext E18
  have SY3 := SY.ext E18
  have gn : n0 ≤ b18 := Nat.le_trans Z2 (Nat.le_of_eq g18.symm)
  have qt1 : ta ∉ [b18] := fun q => absurd (List.mem_singleton.mp q) (Nat.ne_of_lt (Nat.lt_of_lt_of_eq ST2.lt.1 g18.symm))
  have qt2 : tb ∉ [b18] := fun q => absurd (List.mem_singleton.mp q) (Nat.ne_of_lt (Nat.lt_of_lt_of_eq ST2.lt.2 g18.symm))
  have qs1 : sa ∉ [b18] := fun q => absurd (List.mem_singleton.mp q) (Nat.ne_of_lt (Nat.lt_of_lt_of_eq SY.lt.1 g18.symm))
  have qs2 : sb ∉ [b18] := fun q => absurd (List.mem_singleton.mp q) (Nat.ne_of_lt (Nat.lt_of_lt_of_eq SY.lt.2 g18.symm))
  refine Goes.via (S' := T18.setTop (mkF m 189 #[.val (.int p1), .val (.int p2), .val (.int p3), .val (.int p4), .val (.int p5), .val (.int p6), .val (.int ((p1 &&& (2147483647 : Int32)) % (6 : Int32))), .val (.int (p4 &&& (3 : Int32))), .val (.int r2), .val (.int r5), .val (.int ((p2 &&& (255 : Int32)).toUInt32.toUInt16.toUInt32.toInt32)), .val (.int ((((p2.toUInt32 >>> ((8 : Int32) &&& 31).toUInt32).toInt32) &&& (255 : Int32)).toUInt32.toUInt16.toUInt32.toInt32)), .val (.int ((((p2.toUInt32 >>> ((16 : Int32) &&& 31).toUInt32).toInt32) &&& (255 : Int32)).toUInt32.toUInt16.toUInt32.toInt32)), .val (.int r8), .val (.int r11), .val (.int r14), .val (.int ((((p2 &&& (255 : Int32)).toUInt32.toUInt16.toUInt32.toInt32) ^^^ r8).toUInt32.toUInt16.toUInt32.toInt32)), .val (.int ((((((p2.toUInt32 >>> ((8 : Int32) &&& 31).toUInt32).toInt32) &&& (255 : Int32)).toUInt32.toUInt16.toUInt32.toInt32) ^^^ r11).toUInt32.toUInt16.toUInt32.toInt32)), .val (.int ((((((p2.toUInt32 >>> ((16 : Int32) &&& 31).toUInt32).toInt32) &&& (255 : Int32)).toUInt32.toUInt16.toUInt32.toInt32) ^^^ r14).toUInt32.toUInt16.toUInt32.toInt32)), .val (.ref ta), .val (.ref sa), .unset, .unset] [(.int ((p1 &&& (2147483647 : Int32)) % (6 : Int32))), (.ref b18), (.ref b18)])) (fun tz kz => ?_) ?_
  · show Steps p.tables e below (T18.setTop (mkF m 186 #[.val (.int p1), .val (.int p2), .val (.int p3), .val (.int p4), .val (.int p5), .val (.int p6), .val (.int ((p1 &&& (2147483647 : Int32)) % (6 : Int32))), .val (.int (p4 &&& (3 : Int32))), .val (.int r2), .val (.int r5), .val (.int ((p2 &&& (255 : Int32)).toUInt32.toUInt16.toUInt32.toInt32)), .val (.int ((((p2.toUInt32 >>> ((8 : Int32) &&& 31).toUInt32).toInt32) &&& (255 : Int32)).toUInt32.toUInt16.toUInt32.toInt32)), .val (.int ((((p2.toUInt32 >>> ((16 : Int32) &&& 31).toUInt32).toInt32) &&& (255 : Int32)).toUInt32.toUInt16.toUInt32.toInt32)), .val (.int r8), .val (.int r11), .val (.int r14), .val (.int ((((p2 &&& (255 : Int32)).toUInt32.toUInt16.toUInt32.toInt32) ^^^ r8).toUInt32.toUInt16.toUInt32.toInt32)), .val (.int ((((((p2.toUInt32 >>> ((8 : Int32) &&& 31).toUInt32).toInt32) &&& (255 : Int32)).toUInt32.toUInt16.toUInt32.toInt32) ^^^ r11).toUInt32.toUInt16.toUInt32.toInt32)), .val (.int ((((((p2.toUInt32 >>> ((16 : Int32) &&& 31).toUInt32).toInt32) &&& (255 : Int32)).toUInt32.toUInt16.toUInt32.toInt32) ^^^ r14).toUInt32.toUInt16.toUInt32.toInt32)), .val (.ref ta), .val (.ref sa), .unset, .unset] [(.ref b18)])) _
    refine XS.dup X18.here hx rfl (hb hby at_186) rfl rfl ?_
    refine XS.iload X18.here hx rfl (hb hby at_187) rfl ?_
    exact kz
  obtain ⟨_, _, ⟨T21, L21, k21, n21⟩, -, X21, ⟨Lc21, hQ21, l21, y21, z21⟩, st21⟩ := Jvm.LawKit.callS X18 hx (y := (⟨"com/example/loopwright/loopwright/TokenIsPinLaw", "kindOf", "(I)Lcom/example/loopwright/loopwright/Lexer$Kind;"⟩ : MethodName)) hown (mvT hZ (w_ hw 38 rfl)) (mvT hZ (w_ hw 39 rfl)) (mvT hZ (w_ hw 3 rfl)) (mvT hZ (w_ hw 40 rfl)) (by decide) (backOf (W := 2) (rm8 l Z a0 hw [] ((p1 &&& (2147483647 : Int32)) % (6 : Int32)) b0 b1 b2 b3 b4 b5 h18 n0 Z3 S0 S1 S2 S3 S4 S5 O3) hZ (w_ hw 40 rfl) (w_ hw 3 rfl) (by decide) (by decide)) (g := (mkF m 189 #[.val (.int p1), .val (.int p2), .val (.int p3), .val (.int p4), .val (.int p5), .val (.int p6), .val (.int ((p1 &&& (2147483647 : Int32)) % (6 : Int32))), .val (.int (p4 &&& (3 : Int32))), .val (.int r2), .val (.int r5), .val (.int ((p2 &&& (255 : Int32)).toUInt32.toUInt16.toUInt32.toInt32)), .val (.int ((((p2.toUInt32 >>> ((8 : Int32) &&& 31).toUInt32).toInt32) &&& (255 : Int32)).toUInt32.toUInt16.toUInt32.toInt32)), .val (.int ((((p2.toUInt32 >>> ((16 : Int32) &&& 31).toUInt32).toInt32) &&& (255 : Int32)).toUInt32.toUInt16.toUInt32.toInt32)), .val (.int r8), .val (.int r11), .val (.int r14), .val (.int ((((p2 &&& (255 : Int32)).toUInt32.toUInt16.toUInt32.toInt32) ^^^ r8).toUInt32.toUInt16.toUInt32.toInt32)), .val (.int ((((((p2.toUInt32 >>> ((8 : Int32) &&& 31).toUInt32).toInt32) &&& (255 : Int32)).toUInt32.toUInt16.toUInt32.toInt32) ^^^ r11).toUInt32.toUInt16.toUInt32.toInt32)), .val (.int ((((((p2.toUInt32 >>> ((16 : Int32) &&& 31).toUInt32).toInt32) &&& (255 : Int32)).toUInt32.toUInt16.toUInt32.toInt32) ^^^ r14).toUInt32.toUInt16.toUInt32.toInt32)), .val (.ref ta), .val (.ref sa), .unset, .unset] [(.int ((p1 &&& (2147483647 : Int32)) % (6 : Int32))), (.ref b18), (.ref b18)])) rfl (by rw [hml]; rfl) (argsL := [(.int ((p1 &&& (2147483647 : Int32)) % (6 : Int32)))]) (rest := [(.ref b18), (.ref b18)]) (lenOf pd_9 rfl) rfl (by show 2 * 0 + _ ≤ _; exact Nat.le_of_eq rfl) (hb hby at_189) (fun _ _ => ⟨rfl, e18, (by decide : 9 + 0 ≤ _), (by decide : 36 + 0 ≤ _)⟩)
  dsimp only [Pt.U, Pt.locs, Pt.cells, Pt.slots] at X21 l21 y21 z21 st21 hQ21
  subst l21 y21 z21
  obtain ⟨rfl, N21, e21⟩ := hQ21
  have Nf21 := Fr.app Nf17 N21
  refine Goes.via (S' := T21.setTop (mkF m 192 #[.val (.int p1), .val (.int p2), .val (.int p3), .val (.int p4), .val (.int p5), .val (.int p6), .val (.int ((p1 &&& (2147483647 : Int32)) % (6 : Int32))), .val (.int (p4 &&& (3 : Int32))), .val (.int r2), .val (.int r5), .val (.int ((p2 &&& (255 : Int32)).toUInt32.toUInt16.toUInt32.toInt32)), .val (.int ((((p2.toUInt32 >>> ((8 : Int32) &&& 31).toUInt32).toInt32) &&& (255 : Int32)).toUInt32.toUInt16.toUInt32.toInt32)), .val (.int ((((p2.toUInt32 >>> ((16 : Int32) &&& 31).toUInt32).toInt32) &&& (255 : Int32)).toUInt32.toUInt16.toUInt32.toInt32)), .val (.int r8), .val (.int r11), .val (.int r14), .val (.int ((((p2 &&& (255 : Int32)).toUInt32.toUInt16.toUInt32.toInt32) ^^^ r8).toUInt32.toUInt16.toUInt32.toInt32)), .val (.int ((((((p2.toUInt32 >>> ((8 : Int32) &&& 31).toUInt32).toInt32) &&& (255 : Int32)).toUInt32.toUInt16.toUInt32.toInt32) ^^^ r11).toUInt32.toUInt16.toUInt32.toInt32)), .val (.int ((((((p2.toUInt32 >>> ((16 : Int32) &&& 31).toUInt32).toInt32) &&& (255 : Int32)).toUInt32.toUInt16.toUInt32.toInt32) ^^^ r14).toUInt32.toUInt16.toUInt32.toInt32)), .val (.ref ta), .val (.ref sa), .unset, .unset] [(.ref (own_pk b0 b1 b2 b3 b4 b5 ((p1 &&& (2147483647 : Int32)) % (6 : Int32)))), (.ref b18), (.ref b18)])) (st21) ?_
  refine Goes.via (S' := T21.setTop (mkF m 198 #[.val (.int p1), .val (.int p2), .val (.int p3), .val (.int p4), .val (.int p5), .val (.int p6), .val (.int ((p1 &&& (2147483647 : Int32)) % (6 : Int32))), .val (.int (p4 &&& (3 : Int32))), .val (.int r2), .val (.int r5), .val (.int ((p2 &&& (255 : Int32)).toUInt32.toUInt16.toUInt32.toInt32)), .val (.int ((((p2.toUInt32 >>> ((8 : Int32) &&& 31).toUInt32).toInt32) &&& (255 : Int32)).toUInt32.toUInt16.toUInt32.toInt32)), .val (.int ((((p2.toUInt32 >>> ((16 : Int32) &&& 31).toUInt32).toInt32) &&& (255 : Int32)).toUInt32.toUInt16.toUInt32.toInt32)), .val (.int r8), .val (.int r11), .val (.int r14), .val (.int ((((p2 &&& (255 : Int32)).toUInt32.toUInt16.toUInt32.toInt32) ^^^ r8).toUInt32.toUInt16.toUInt32.toInt32)), .val (.int ((((((p2.toUInt32 >>> ((8 : Int32) &&& 31).toUInt32).toInt32) &&& (255 : Int32)).toUInt32.toUInt16.toUInt32.toInt32) ^^^ r11).toUInt32.toUInt16.toUInt32.toInt32)), .val (.int ((((((p2.toUInt32 >>> ((16 : Int32) &&& 31).toUInt32).toInt32) &&& (255 : Int32)).toUInt32.toUInt16.toUInt32.toInt32) ^^^ r14).toUInt32.toUInt16.toUInt32.toInt32)), .val (.ref ta), .val (.ref sa), .unset, .unset] [(.int p6), (.int p5), (.ref ta), (.ref (own_pk b0 b1 b2 b3 b4 b5 ((p1 &&& (2147483647 : Int32)) % (6 : Int32)))), (.ref b18), (.ref b18)])) (fun tz kz => ?_) ?_
  · show Steps p.tables e below (T21.setTop (mkF m 192 #[.val (.int p1), .val (.int p2), .val (.int p3), .val (.int p4), .val (.int p5), .val (.int p6), .val (.int ((p1 &&& (2147483647 : Int32)) % (6 : Int32))), .val (.int (p4 &&& (3 : Int32))), .val (.int r2), .val (.int r5), .val (.int ((p2 &&& (255 : Int32)).toUInt32.toUInt16.toUInt32.toInt32)), .val (.int ((((p2.toUInt32 >>> ((8 : Int32) &&& 31).toUInt32).toInt32) &&& (255 : Int32)).toUInt32.toUInt16.toUInt32.toInt32)), .val (.int ((((p2.toUInt32 >>> ((16 : Int32) &&& 31).toUInt32).toInt32) &&& (255 : Int32)).toUInt32.toUInt16.toUInt32.toInt32)), .val (.int r8), .val (.int r11), .val (.int r14), .val (.int ((((p2 &&& (255 : Int32)).toUInt32.toUInt16.toUInt32.toInt32) ^^^ r8).toUInt32.toUInt16.toUInt32.toInt32)), .val (.int ((((((p2.toUInt32 >>> ((8 : Int32) &&& 31).toUInt32).toInt32) &&& (255 : Int32)).toUInt32.toUInt16.toUInt32.toInt32) ^^^ r11).toUInt32.toUInt16.toUInt32.toInt32)), .val (.int ((((((p2.toUInt32 >>> ((16 : Int32) &&& 31).toUInt32).toInt32) &&& (255 : Int32)).toUInt32.toUInt16.toUInt32.toInt32) ^^^ r14).toUInt32.toUInt16.toUInt32.toInt32)), .val (.ref ta), .val (.ref sa), .unset, .unset] [(.ref (own_pk b0 b1 b2 b3 b4 b5 ((p1 &&& (2147483647 : Int32)) % (6 : Int32)))), (.ref b18), (.ref b18)])) _
    refine XS.aload X21.here hx rfl (hb hby at_192) rfl rfl ?_
    refine XS.iload X21.here hx rfl (hb hby at_194) rfl ?_
    refine XS.iload X21.here hx rfl (hb hby at_196) rfl ?_
    exact kz
  obtain ⟨_, _, ⟨T22, L22, k22, n22⟩, -, X22, ⟨Lc22, hQ22, l22, y22, z22⟩, st22⟩ := X21.specialBack hx (y := (⟨"com/example/loopwright/loopwright/Lexer$Token", "<init>", "(Lcom/example/loopwright/loopwright/Lexer$Kind;Ljava/lang/String;II)V"⟩ : MethodName)) rfl hown (mvT hZ (w_ hw 44 rfl)) (mvT hZ (w_ hw 45 rfl)) (mvT hZ (w_ hw 46 rfl)) (by decide) (backOf (W := 1) (rm9 l Z a0 hw [] b18 (own_pk b0 b1 b2 b3 b4 b5 ((p1 &&& (2147483647 : Int32)) % (6 : Int32))) ta p5 p6 h18 n0 Z3 Fn0 Fn1 Fn2 Fn3 A18 gn) hZ (w_ hw 46 rfl) (w_ hw 37 rfl) (by decide) (by decide)) (g := (mkF m 198 #[.val (.int p1), .val (.int p2), .val (.int p3), .val (.int p4), .val (.int p5), .val (.int p6), .val (.int ((p1 &&& (2147483647 : Int32)) % (6 : Int32))), .val (.int (p4 &&& (3 : Int32))), .val (.int r2), .val (.int r5), .val (.int ((p2 &&& (255 : Int32)).toUInt32.toUInt16.toUInt32.toInt32)), .val (.int ((((p2.toUInt32 >>> ((8 : Int32) &&& 31).toUInt32).toInt32) &&& (255 : Int32)).toUInt32.toUInt16.toUInt32.toInt32)), .val (.int ((((p2.toUInt32 >>> ((16 : Int32) &&& 31).toUInt32).toInt32) &&& (255 : Int32)).toUInt32.toUInt16.toUInt32.toInt32)), .val (.int r8), .val (.int r11), .val (.int r14), .val (.int ((((p2 &&& (255 : Int32)).toUInt32.toUInt16.toUInt32.toInt32) ^^^ r8).toUInt32.toUInt16.toUInt32.toInt32)), .val (.int ((((((p2.toUInt32 >>> ((8 : Int32) &&& 31).toUInt32).toInt32) &&& (255 : Int32)).toUInt32.toUInt16.toUInt32.toInt32) ^^^ r11).toUInt32.toUInt16.toUInt32.toInt32)), .val (.int ((((((p2.toUInt32 >>> ((16 : Int32) &&& 31).toUInt32).toInt32) &&& (255 : Int32)).toUInt32.toUInt16.toUInt32.toInt32) ^^^ r14).toUInt32.toUInt16.toUInt32.toInt32)), .val (.ref ta), .val (.ref sa), .unset, .unset] [(.int p6), (.int p5), (.ref ta), (.ref (own_pk b0 b1 b2 b3 b4 b5 ((p1 &&& (2147483647 : Int32)) % (6 : Int32)))), (.ref b18), (.ref b18)])) rfl (by rw [hml]; rfl) (Steps.refl _) (a := b18) (argsL := [(.ref (own_pk b0 b1 b2 b3 b4 b5 ((p1 &&& (2147483647 : Int32)) % (6 : Int32)))), (.ref ta), (.int p5), (.int p6)]) (rest := [(.ref b18)]) (lenOf pd_10 rfl) rfl (by show 2 * 0 + _ ≤ _; exact Nat.le_of_eq rfl) (hb hby at_198) (fun _ _ => ⟨rfl, e21, (by decide : 9 + 0 ≤ _), (by decide : 36 + 0 ≤ _)⟩)
  dsimp only [Pt.U, Pt.locs, Pt.cells, Pt.slots] at X22 l22 y22 z22 st22 hQ22
  subst l22 y22 z22
  obtain ⟨rfl, N22, K22, Et, Fk, Fx⟩ := hQ22
  have Nf22 := Fr.app Nf21 N22
  refine Goes.via (S' := T22.setTop (mkF m 201 #[.val (.int p1), .val (.int p2), .val (.int p3), .val (.int p4), .val (.int p5), .val (.int p6), .val (.int ((p1 &&& (2147483647 : Int32)) % (6 : Int32))), .val (.int (p4 &&& (3 : Int32))), .val (.int r2), .val (.int r5), .val (.int ((p2 &&& (255 : Int32)).toUInt32.toUInt16.toUInt32.toInt32)), .val (.int ((((p2.toUInt32 >>> ((8 : Int32) &&& 31).toUInt32).toInt32) &&& (255 : Int32)).toUInt32.toUInt16.toUInt32.toInt32)), .val (.int ((((p2.toUInt32 >>> ((16 : Int32) &&& 31).toUInt32).toInt32) &&& (255 : Int32)).toUInt32.toUInt16.toUInt32.toInt32)), .val (.int r8), .val (.int r11), .val (.int r14), .val (.int ((((p2 &&& (255 : Int32)).toUInt32.toUInt16.toUInt32.toInt32) ^^^ r8).toUInt32.toUInt16.toUInt32.toInt32)), .val (.int ((((((p2.toUInt32 >>> ((8 : Int32) &&& 31).toUInt32).toInt32) &&& (255 : Int32)).toUInt32.toUInt16.toUInt32.toInt32) ^^^ r11).toUInt32.toUInt16.toUInt32.toInt32)), .val (.int ((((((p2.toUInt32 >>> ((16 : Int32) &&& 31).toUInt32).toInt32) &&& (255 : Int32)).toUInt32.toUInt16.toUInt32.toInt32) ^^^ r14).toUInt32.toUInt16.toUInt32.toInt32)), .val (.ref ta), .val (.ref sa), .unset, .unset] [(.ref b18)])) (fun _ kz => st22.trans kz) ?_
  have hC23 := hC19.trans (CHr.keep K22 (allS (Safe.exa hZ.alike A18 (by decide) (by decide)) all0) hC19.1)
  have hk24 := Nat.le_trans hk20 K22.1
  have O4 := O3.keep K22 (allS gn all0)
  have Z4 := Nat.le_trans Z3 K22.1
  have ST4 := ST3.keep K22 qt1 qt2
  have SY4 := SY3.keep K22 qs1 qs2
  refine Goes.via (S' := T22.setTop (mkF m 206 #[.val (.int p1), .val (.int p2), .val (.int p3), .val (.int p4), .val (.int p5), .val (.int p6), .val (.int ((p1 &&& (2147483647 : Int32)) % (6 : Int32))), .val (.int (p4 &&& (3 : Int32))), .val (.int r2), .val (.int r5), .val (.int ((p2 &&& (255 : Int32)).toUInt32.toUInt16.toUInt32.toInt32)), .val (.int ((((p2.toUInt32 >>> ((8 : Int32) &&& 31).toUInt32).toInt32) &&& (255 : Int32)).toUInt32.toUInt16.toUInt32.toInt32)), .val (.int ((((p2.toUInt32 >>> ((16 : Int32) &&& 31).toUInt32).toInt32) &&& (255 : Int32)).toUInt32.toUInt16.toUInt32.toInt32)), .val (.int r8), .val (.int r11), .val (.int r14), .val (.int ((((p2 &&& (255 : Int32)).toUInt32.toUInt16.toUInt32.toInt32) ^^^ r8).toUInt32.toUInt16.toUInt32.toInt32)), .val (.int ((((((p2.toUInt32 >>> ((8 : Int32) &&& 31).toUInt32).toInt32) &&& (255 : Int32)).toUInt32.toUInt16.toUInt32.toInt32) ^^^ r11).toUInt32.toUInt16.toUInt32.toInt32)), .val (.int ((((((p2.toUInt32 >>> ((16 : Int32) &&& 31).toUInt32).toInt32) &&& (255 : Int32)).toUInt32.toUInt16.toUInt32.toInt32) ^^^ r14).toUInt32.toUInt16.toUInt32.toInt32)), .val (.ref ta), .val (.ref sa), .val (.ref b18), .unset] [(.int (2 : Int32)), (.int ((p1 &&& (2147483647 : Int32)) % (6 : Int32)))])) (fun tz kz => ?_) ?_
  · show Steps p.tables e below (T22.setTop (mkF m 201 #[.val (.int p1), .val (.int p2), .val (.int p3), .val (.int p4), .val (.int p5), .val (.int p6), .val (.int ((p1 &&& (2147483647 : Int32)) % (6 : Int32))), .val (.int (p4 &&& (3 : Int32))), .val (.int r2), .val (.int r5), .val (.int ((p2 &&& (255 : Int32)).toUInt32.toUInt16.toUInt32.toInt32)), .val (.int ((((p2.toUInt32 >>> ((8 : Int32) &&& 31).toUInt32).toInt32) &&& (255 : Int32)).toUInt32.toUInt16.toUInt32.toInt32)), .val (.int ((((p2.toUInt32 >>> ((16 : Int32) &&& 31).toUInt32).toInt32) &&& (255 : Int32)).toUInt32.toUInt16.toUInt32.toInt32)), .val (.int r8), .val (.int r11), .val (.int r14), .val (.int ((((p2 &&& (255 : Int32)).toUInt32.toUInt16.toUInt32.toInt32) ^^^ r8).toUInt32.toUInt16.toUInt32.toInt32)), .val (.int ((((((p2.toUInt32 >>> ((8 : Int32) &&& 31).toUInt32).toInt32) &&& (255 : Int32)).toUInt32.toUInt16.toUInt32.toInt32) ^^^ r11).toUInt32.toUInt16.toUInt32.toInt32)), .val (.int ((((((p2.toUInt32 >>> ((16 : Int32) &&& 31).toUInt32).toInt32) &&& (255 : Int32)).toUInt32.toUInt16.toUInt32.toInt32) ^^^ r14).toUInt32.toUInt16.toUInt32.toInt32)), .val (.ref ta), .val (.ref sa), .unset, .unset] [(.ref b18)])) _
    refine XS.astore X22.here hx rfl (hb hby at_201) rfl rfl (l' := #[.val (.int p1), .val (.int p2), .val (.int p3), .val (.int p4), .val (.int p5), .val (.int p6), .val (.int ((p1 &&& (2147483647 : Int32)) % (6 : Int32))), .val (.int (p4 &&& (3 : Int32))), .val (.int r2), .val (.int r5), .val (.int ((p2 &&& (255 : Int32)).toUInt32.toUInt16.toUInt32.toInt32)), .val (.int ((((p2.toUInt32 >>> ((8 : Int32) &&& 31).toUInt32).toInt32) &&& (255 : Int32)).toUInt32.toUInt16.toUInt32.toInt32)), .val (.int ((((p2.toUInt32 >>> ((16 : Int32) &&& 31).toUInt32).toInt32) &&& (255 : Int32)).toUInt32.toUInt16.toUInt32.toInt32)), .val (.int r8), .val (.int r11), .val (.int r14), .val (.int ((((p2 &&& (255 : Int32)).toUInt32.toUInt16.toUInt32.toInt32) ^^^ r8).toUInt32.toUInt16.toUInt32.toInt32)), .val (.int ((((((p2.toUInt32 >>> ((8 : Int32) &&& 31).toUInt32).toInt32) &&& (255 : Int32)).toUInt32.toUInt16.toUInt32.toInt32) ^^^ r11).toUInt32.toUInt16.toUInt32.toInt32)), .val (.int ((((((p2.toUInt32 >>> ((16 : Int32) &&& 31).toUInt32).toInt32) &&& (255 : Int32)).toUInt32.toUInt16.toUInt32.toInt32) ^^^ r14).toUInt32.toUInt16.toUInt32.toInt32)), .val (.ref ta), .val (.ref sa), .val (.ref b18), .unset]) rfl ?_
    refine XS.iload X22.here hx rfl (hb hby at_203) rfl ?_
    refine XS.iconst X22.here hx rfl (hb hby at_205) ?_
    exact kz
  obtain ⟨r41, hr41⟩ : ∃ zz_ : Int32, zz_ = (if ((p1 &&& (2147483647 : Int32)) % (6 : Int32)) = (2 : Int32) then (if (p4 &&& (3 : Int32)) = r2 then (if (p4 &&& (3 : Int32)) < (1 : Int32) then (if (p4 &&& (3 : Int32)) < (2 : Int32) then (if (p4 &&& (3 : Int32)) < (3 : Int32) then (1 : Int32) else (if ((((((p2.toUInt32 >>> ((16 : Int32) &&& 31).toUInt32).toInt32) &&& (255 : Int32)).toUInt32.toUInt16.toUInt32.toInt32) ^^^ r14).toUInt32.toUInt16.toUInt32.toInt32) = ((((p2.toUInt32 >>> ((16 : Int32) &&& 31).toUInt32).toInt32) &&& (255 : Int32)).toUInt32.toUInt16.toUInt32.toInt32) then (1 : Int32) else (0 : Int32))) else (if ((((((p2.toUInt32 >>> ((8 : Int32) &&& 31).toUInt32).toInt32) &&& (255 : Int32)).toUInt32.toUInt16.toUInt32.toInt32) ^^^ r11).toUInt32.toUInt16.toUInt32.toInt32) = ((((p2.toUInt32 >>> ((8 : Int32) &&& 31).toUInt32).toInt32) &&& (255 : Int32)).toUInt32.toUInt16.toUInt32.toInt32) then (if (p4 &&& (3 : Int32)) < (3 : Int32) then (1 : Int32) else (if ((((((p2.toUInt32 >>> ((16 : Int32) &&& 31).toUInt32).toInt32) &&& (255 : Int32)).toUInt32.toUInt16.toUInt32.toInt32) ^^^ r14).toUInt32.toUInt16.toUInt32.toInt32) = ((((p2.toUInt32 >>> ((16 : Int32) &&& 31).toUInt32).toInt32) &&& (255 : Int32)).toUInt32.toUInt16.toUInt32.toInt32) then (1 : Int32) else (0 : Int32))) else (0 : Int32))) else (if ((((p2 &&& (255 : Int32)).toUInt32.toUInt16.toUInt32.toInt32) ^^^ r8).toUInt32.toUInt16.toUInt32.toInt32) = ((p2 &&& (255 : Int32)).toUInt32.toUInt16.toUInt32.toInt32) then (if (p4 &&& (3 : Int32)) < (2 : Int32) then (if (p4 &&& (3 : Int32)) < (3 : Int32) then (1 : Int32) else (if ((((((p2.toUInt32 >>> ((16 : Int32) &&& 31).toUInt32).toInt32) &&& (255 : Int32)).toUInt32.toUInt16.toUInt32.toInt32) ^^^ r14).toUInt32.toUInt16.toUInt32.toInt32) = ((((p2.toUInt32 >>> ((16 : Int32) &&& 31).toUInt32).toInt32) &&& (255 : Int32)).toUInt32.toUInt16.toUInt32.toInt32) then (1 : Int32) else (0 : Int32))) else (if ((((((p2.toUInt32 >>> ((8 : Int32) &&& 31).toUInt32).toInt32) &&& (255 : Int32)).toUInt32.toUInt16.toUInt32.toInt32) ^^^ r11).toUInt32.toUInt16.toUInt32.toInt32) = ((((p2.toUInt32 >>> ((8 : Int32) &&& 31).toUInt32).toInt32) &&& (255 : Int32)).toUInt32.toUInt16.toUInt32.toInt32) then (if (p4 &&& (3 : Int32)) < (3 : Int32) then (1 : Int32) else (if ((((((p2.toUInt32 >>> ((16 : Int32) &&& 31).toUInt32).toInt32) &&& (255 : Int32)).toUInt32.toUInt16.toUInt32.toInt32) ^^^ r14).toUInt32.toUInt16.toUInt32.toInt32) = ((((p2.toUInt32 >>> ((16 : Int32) &&& 31).toUInt32).toInt32) &&& (255 : Int32)).toUInt32.toUInt16.toUInt32.toInt32) then (1 : Int32) else (0 : Int32))) else (0 : Int32))) else (0 : Int32))) else (0 : Int32)) else (0 : Int32)) := ⟨_, rfl⟩
  have j206_42 : ∀ t, Steps p.tables e below (T22.setTop (mkF m 260 #[.val (.int p1), .val (.int p2), .val (.int p3), .val (.int p4), .val (.int p5), .val (.int p6), .val (.int ((p1 &&& (2147483647 : Int32)) % (6 : Int32))), .val (.int (p4 &&& (3 : Int32))), .val (.int r2), .val (.int r5), .val (.int ((p2 &&& (255 : Int32)).toUInt32.toUInt16.toUInt32.toInt32)), .val (.int ((((p2.toUInt32 >>> ((8 : Int32) &&& 31).toUInt32).toInt32) &&& (255 : Int32)).toUInt32.toUInt16.toUInt32.toInt32)), .val (.int ((((p2.toUInt32 >>> ((16 : Int32) &&& 31).toUInt32).toInt32) &&& (255 : Int32)).toUInt32.toUInt16.toUInt32.toInt32)), .val (.int r8), .val (.int r11), .val (.int r14), .val (.int ((((p2 &&& (255 : Int32)).toUInt32.toUInt16.toUInt32.toInt32) ^^^ r8).toUInt32.toUInt16.toUInt32.toInt32)), .val (.int ((((((p2.toUInt32 >>> ((8 : Int32) &&& 31).toUInt32).toInt32) &&& (255 : Int32)).toUInt32.toUInt16.toUInt32.toInt32) ^^^ r11).toUInt32.toUInt16.toUInt32.toInt32)), .val (.int ((((((p2.toUInt32 >>> ((16 : Int32) &&& 31).toUInt32).toInt32) &&& (255 : Int32)).toUInt32.toUInt16.toUInt32.toInt32) ^^^ r14).toUInt32.toUInt16.toUInt32.toInt32)), .val (.ref ta), .val (.ref sa), .val (.ref b18), .unset] [(.int r41)])) t → Steps p.tables e below (T22.setTop (mkF m 206 #[.val (.int p1), .val (.int p2), .val (.int p3), .val (.int p4), .val (.int p5), .val (.int p6), .val (.int ((p1 &&& (2147483647 : Int32)) % (6 : Int32))), .val (.int (p4 &&& (3 : Int32))), .val (.int r2), .val (.int r5), .val (.int ((p2 &&& (255 : Int32)).toUInt32.toUInt16.toUInt32.toInt32)), .val (.int ((((p2.toUInt32 >>> ((8 : Int32) &&& 31).toUInt32).toInt32) &&& (255 : Int32)).toUInt32.toUInt16.toUInt32.toInt32)), .val (.int ((((p2.toUInt32 >>> ((16 : Int32) &&& 31).toUInt32).toInt32) &&& (255 : Int32)).toUInt32.toUInt16.toUInt32.toInt32)), .val (.int r8), .val (.int r11), .val (.int r14), .val (.int ((((p2 &&& (255 : Int32)).toUInt32.toUInt16.toUInt32.toInt32) ^^^ r8).toUInt32.toUInt16.toUInt32.toInt32)), .val (.int ((((((p2.toUInt32 >>> ((8 : Int32) &&& 31).toUInt32).toInt32) &&& (255 : Int32)).toUInt32.toUInt16.toUInt32.toInt32) ^^^ r11).toUInt32.toUInt16.toUInt32.toInt32)), .val (.int ((((((p2.toUInt32 >>> ((16 : Int32) &&& 31).toUInt32).toInt32) &&& (255 : Int32)).toUInt32.toUInt16.toUInt32.toInt32) ^^^ r14).toUInt32.toUInt16.toUInt32.toInt32)), .val (.ref ta), .val (.ref sa), .val (.ref b18), .unset] [(.int (2 : Int32)), (.int ((p1 &&& (2147483647 : Int32)) % (6 : Int32)))])) t := by
    intro tz kz
    by_cases hc206_25 : ((p1 &&& (2147483647 : Int32)) % (6 : Int32)) = (2 : Int32)
    · rw [if_pos hc206_25] at hr41
      show Steps p.tables e below (T22.setTop (mkF m 206 #[.val (.int p1), .val (.int p2), .val (.int p3), .val (.int p4), .val (.int p5), .val (.int p6), .val (.int ((p1 &&& (2147483647 : Int32)) % (6 : Int32))), .val (.int (p4 &&& (3 : Int32))), .val (.int r2), .val (.int r5), .val (.int ((p2 &&& (255 : Int32)).toUInt32.toUInt16.toUInt32.toInt32)), .val (.int ((((p2.toUInt32 >>> ((8 : Int32) &&& 31).toUInt32).toInt32) &&& (255 : Int32)).toUInt32.toUInt16.toUInt32.toInt32)), .val (.int ((((p2.toUInt32 >>> ((16 : Int32) &&& 31).toUInt32).toInt32) &&& (255 : Int32)).toUInt32.toUInt16.toUInt32.toInt32)), .val (.int r8), .val (.int r11), .val (.int r14), .val (.int ((((p2 &&& (255 : Int32)).toUInt32.toUInt16.toUInt32.toInt32) ^^^ r8).toUInt32.toUInt16.toUInt32.toInt32)), .val (.int ((((((p2.toUInt32 >>> ((8 : Int32) &&& 31).toUInt32).toInt32) &&& (255 : Int32)).toUInt32.toUInt16.toUInt32.toInt32) ^^^ r11).toUInt32.toUInt16.toUInt32.toInt32)), .val (.int ((((((p2.toUInt32 >>> ((16 : Int32) &&& 31).toUInt32).toInt32) &&& (255 : Int32)).toUInt32.toUInt16.toUInt32.toInt32) ^^^ r14).toUInt32.toUInt16.toUInt32.toInt32)), .val (.ref ta), .val (.ref sa), .val (.ref b18), .unset] [(.int (2 : Int32)), (.int ((p1 &&& (2147483647 : Int32)) % (6 : Int32)))])) _
      refine XS.icmpNo X22.here hx rfl (hb hby at_206) rfl (teq hc206_25).2 ?_
      refine XS.iload X22.here hx rfl (hb hby at_209) rfl ?_
      refine XS.iload X22.here hx rfl (hb hby at_211) rfl ?_
      by_cases hc213_26 : (p4 &&& (3 : Int32)) = r2
      · rw [if_pos hc213_26] at hr41
        show Steps p.tables e below (T22.setTop (mkF m 213 #[.val (.int p1), .val (.int p2), .val (.int p3), .val (.int p4), .val (.int p5), .val (.int p6), .val (.int ((p1 &&& (2147483647 : Int32)) % (6 : Int32))), .val (.int (p4 &&& (3 : Int32))), .val (.int r2), .val (.int r5), .val (.int ((p2 &&& (255 : Int32)).toUInt32.toUInt16.toUInt32.toInt32)), .val (.int ((((p2.toUInt32 >>> ((8 : Int32) &&& 31).toUInt32).toInt32) &&& (255 : Int32)).toUInt32.toUInt16.toUInt32.toInt32)), .val (.int ((((p2.toUInt32 >>> ((16 : Int32) &&& 31).toUInt32).toInt32) &&& (255 : Int32)).toUInt32.toUInt16.toUInt32.toInt32)), .val (.int r8), .val (.int r11), .val (.int r14), .val (.int ((((p2 &&& (255 : Int32)).toUInt32.toUInt16.toUInt32.toInt32) ^^^ r8).toUInt32.toUInt16.toUInt32.toInt32)), .val (.int ((((((p2.toUInt32 >>> ((8 : Int32) &&& 31).toUInt32).toInt32) &&& (255 : Int32)).toUInt32.toUInt16.toUInt32.toInt32) ^^^ r11).toUInt32.toUInt16.toUInt32.toInt32)), .val (.int ((((((p2.toUInt32 >>> ((16 : Int32) &&& 31).toUInt32).toInt32) &&& (255 : Int32)).toUInt32.toUInt16.toUInt32.toInt32) ^^^ r14).toUInt32.toUInt16.toUInt32.toInt32)), .val (.ref ta), .val (.ref sa), .val (.ref b18), .unset] [(.int r2), (.int (p4 &&& (3 : Int32)))])) _
        refine XS.icmpNo X22.here hx rfl (hb hby at_213) rfl (teq hc213_26).2 ?_
        refine XS.iload X22.here hx rfl (hb hby at_216) rfl ?_
        refine XS.iconst X22.here hx rfl (hb hby at_218) ?_
        by_cases hc219_27 : (p4 &&& (3 : Int32)) < (1 : Int32)
        · rw [if_pos hc219_27] at hr41
          show Steps p.tables e below (T22.setTop (mkF m 219 #[.val (.int p1), .val (.int p2), .val (.int p3), .val (.int p4), .val (.int p5), .val (.int p6), .val (.int ((p1 &&& (2147483647 : Int32)) % (6 : Int32))), .val (.int (p4 &&& (3 : Int32))), .val (.int r2), .val (.int r5), .val (.int ((p2 &&& (255 : Int32)).toUInt32.toUInt16.toUInt32.toInt32)), .val (.int ((((p2.toUInt32 >>> ((8 : Int32) &&& 31).toUInt32).toInt32) &&& (255 : Int32)).toUInt32.toUInt16.toUInt32.toInt32)), .val (.int ((((p2.toUInt32 >>> ((16 : Int32) &&& 31).toUInt32).toInt32) &&& (255 : Int32)).toUInt32.toUInt16.toUInt32.toInt32)), .val (.int r8), .val (.int r11), .val (.int r14), .val (.int ((((p2 &&& (255 : Int32)).toUInt32.toUInt16.toUInt32.toInt32) ^^^ r8).toUInt32.toUInt16.toUInt32.toInt32)), .val (.int ((((((p2.toUInt32 >>> ((8 : Int32) &&& 31).toUInt32).toInt32) &&& (255 : Int32)).toUInt32.toUInt16.toUInt32.toInt32) ^^^ r11).toUInt32.toUInt16.toUInt32.toInt32)), .val (.int ((((((p2.toUInt32 >>> ((16 : Int32) &&& 31).toUInt32).toInt32) &&& (255 : Int32)).toUInt32.toUInt16.toUInt32.toInt32) ^^^ r14).toUInt32.toUInt16.toUInt32.toInt32)), .val (.ref ta), .val (.ref sa), .val (.ref b18), .unset] [(.int (1 : Int32)), (.int (p4 &&& (3 : Int32)))])) _
          refine XS.icmpYes X22.here hx rfl (pc0 := 219) (pc' := 229) rfl (hb hby at_219) rfl (tlt hc219_27).1 (by decide) (by decide) ?_
          refine XS.iload X22.here hx rfl (hb hby at_229) rfl ?_
          refine XS.iconst X22.here hx rfl (hb hby at_231) ?_
          by_cases hc232_28 : (p4 &&& (3 : Int32)) < (2 : Int32)
          · rw [if_pos hc232_28] at hr41
            show Steps p.tables e below (T22.setTop (mkF m 232 #[.val (.int p1), .val (.int p2), .val (.int p3), .val (.int p4), .val (.int p5), .val (.int p6), .val (.int ((p1 &&& (2147483647 : Int32)) % (6 : Int32))), .val (.int (p4 &&& (3 : Int32))), .val (.int r2), .val (.int r5), .val (.int ((p2 &&& (255 : Int32)).toUInt32.toUInt16.toUInt32.toInt32)), .val (.int ((((p2.toUInt32 >>> ((8 : Int32) &&& 31).toUInt32).toInt32) &&& (255 : Int32)).toUInt32.toUInt16.toUInt32.toInt32)), .val (.int ((((p2.toUInt32 >>> ((16 : Int32) &&& 31).toUInt32).toInt32) &&& (255 : Int32)).toUInt32.toUInt16.toUInt32.toInt32)), .val (.int r8), .val (.int r11), .val (.int r14), .val (.int ((((p2 &&& (255 : Int32)).toUInt32.toUInt16.toUInt32.toInt32) ^^^ r8).toUInt32.toUInt16.toUInt32.toInt32)), .val (.int ((((((p2.toUInt32 >>> ((8 : Int32) &&& 31).toUInt32).toInt32) &&& (255 : Int32)).toUInt32.toUInt16.toUInt32.toInt32) ^^^ r11).toUInt32.toUInt16.toUInt32.toInt32)), .val (.int ((((((p2.toUInt32 >>> ((16 : Int32) &&& 31).toUInt32).toInt32) &&& (255 : Int32)).toUInt32.toUInt16.toUInt32.toInt32) ^^^ r14).toUInt32.toUInt16.toUInt32.toInt32)), .val (.ref ta), .val (.ref sa), .val (.ref b18), .unset] [(.int (2 : Int32)), (.int (p4 &&& (3 : Int32)))])) _
            refine XS.icmpYes X22.here hx rfl (pc0 := 232) (pc' := 242) rfl (hb hby at_232) rfl (tlt hc232_28).1 (by decide) (by decide) ?_
            refine XS.iload X22.here hx rfl (hb hby at_242) rfl ?_
            refine XS.iconst X22.here hx rfl (hb hby at_244) ?_
            by_cases hc245_29 : (p4 &&& (3 : Int32)) < (3 : Int32)
            · rw [if_pos hc245_29] at hr41
              show Steps p.tables e below (T22.setTop (mkF m 245 #[.val (.int p1), .val (.int p2), .val (.int p3), .val (.int p4), .val (.int p5), .val (.int p6), .val (.int ((p1 &&& (2147483647 : Int32)) % (6 : Int32))), .val (.int (p4 &&& (3 : Int32))), .val (.int r2), .val (.int r5), .val (.int ((p2 &&& (255 : Int32)).toUInt32.toUInt16.toUInt32.toInt32)), .val (.int ((((p2.toUInt32 >>> ((8 : Int32) &&& 31).toUInt32).toInt32) &&& (255 : Int32)).toUInt32.toUInt16.toUInt32.toInt32)), .val (.int ((((p2.toUInt32 >>> ((16 : Int32) &&& 31).toUInt32).toInt32) &&& (255 : Int32)).toUInt32.toUInt16.toUInt32.toInt32)), .val (.int r8), .val (.int r11), .val (.int r14), .val (.int ((((p2 &&& (255 : Int32)).toUInt32.toUInt16.toUInt32.toInt32) ^^^ r8).toUInt32.toUInt16.toUInt32.toInt32)), .val (.int ((((((p2.toUInt32 >>> ((8 : Int32) &&& 31).toUInt32).toInt32) &&& (255 : Int32)).toUInt32.toUInt16.toUInt32.toInt32) ^^^ r11).toUInt32.toUInt16.toUInt32.toInt32)), .val (.int ((((((p2.toUInt32 >>> ((16 : Int32) &&& 31).toUInt32).toInt32) &&& (255 : Int32)).toUInt32.toUInt16.toUInt32.toInt32) ^^^ r14).toUInt32.toUInt16.toUInt32.toInt32)), .val (.ref ta), .val (.ref sa), .val (.ref b18), .unset] [(.int (3 : Int32)), (.int (p4 &&& (3 : Int32)))])) _
              refine XS.icmpYes X22.here hx rfl (pc0 := 245) (pc' := 255) rfl (hb hby at_245) rfl (tlt hc245_29).1 (by decide) (by decide) ?_
              refine XS.iconst X22.here hx rfl (hb hby at_255) ?_
              refine XS.goto X22.here hx rfl (pc0 := 256) (pc' := 260) rfl (hb hby at_256) (by decide) (by decide) ?_
              subst hr41
              exact kz
            · rw [if_neg hc245_29] at hr41
              show Steps p.tables e below (T22.setTop (mkF m 245 #[.val (.int p1), .val (.int p2), .val (.int p3), .val (.int p4), .val (.int p5), .val (.int p6), .val (.int ((p1 &&& (2147483647 : Int32)) % (6 : Int32))), .val (.int (p4 &&& (3 : Int32))), .val (.int r2), .val (.int r5), .val (.int ((p2 &&& (255 : Int32)).toUInt32.toUInt16.toUInt32.toInt32)), .val (.int ((((p2.toUInt32 >>> ((8 : Int32) &&& 31).toUInt32).toInt32) &&& (255 : Int32)).toUInt32.toUInt16.toUInt32.toInt32)), .val (.int ((((p2.toUInt32 >>> ((16 : Int32) &&& 31).toUInt32).toInt32) &&& (255 : Int32)).toUInt32.toUInt16.toUInt32.toInt32)), .val (.int r8), .val (.int r11), .val (.int r14), .val (.int ((((p2 &&& (255 : Int32)).toUInt32.toUInt16.toUInt32.toInt32) ^^^ r8).toUInt32.toUInt16.toUInt32.toInt32)), .val (.int ((((((p2.toUInt32 >>> ((8 : Int32) &&& 31).toUInt32).toInt32) &&& (255 : Int32)).toUInt32.toUInt16.toUInt32.toInt32) ^^^ r11).toUInt32.toUInt16.toUInt32.toInt32)), .val (.int ((((((p2.toUInt32 >>> ((16 : Int32) &&& 31).toUInt32).toInt32) &&& (255 : Int32)).toUInt32.toUInt16.toUInt32.toInt32) ^^^ r14).toUInt32.toUInt16.toUInt32.toInt32)), .val (.ref ta), .val (.ref sa), .val (.ref b18), .unset] [(.int (3 : Int32)), (.int (p4 &&& (3 : Int32)))])) _
              refine XS.icmpNo X22.here hx rfl (hb hby at_245) rfl (flt hc245_29).1 ?_
              refine XS.iload X22.here hx rfl (hb hby at_248) rfl ?_
              refine XS.iload X22.here hx rfl (hb hby at_250) rfl ?_
              by_cases hc252_30 : ((((((p2.toUInt32 >>> ((16 : Int32) &&& 31).toUInt32).toInt32) &&& (255 : Int32)).toUInt32.toUInt16.toUInt32.toInt32) ^^^ r14).toUInt32.toUInt16.toUInt32.toInt32) = ((((p2.toUInt32 >>> ((16 : Int32) &&& 31).toUInt32).toInt32) &&& (255 : Int32)).toUInt32.toUInt16.toUInt32.toInt32)
              · rw [if_pos hc252_30] at hr41
                show Steps p.tables e below (T22.setTop (mkF m 252 #[.val (.int p1), .val (.int p2), .val (.int p3), .val (.int p4), .val (.int p5), .val (.int p6), .val (.int ((p1 &&& (2147483647 : Int32)) % (6 : Int32))), .val (.int (p4 &&& (3 : Int32))), .val (.int r2), .val (.int r5), .val (.int ((p2 &&& (255 : Int32)).toUInt32.toUInt16.toUInt32.toInt32)), .val (.int ((((p2.toUInt32 >>> ((8 : Int32) &&& 31).toUInt32).toInt32) &&& (255 : Int32)).toUInt32.toUInt16.toUInt32.toInt32)), .val (.int ((((p2.toUInt32 >>> ((16 : Int32) &&& 31).toUInt32).toInt32) &&& (255 : Int32)).toUInt32.toUInt16.toUInt32.toInt32)), .val (.int r8), .val (.int r11), .val (.int r14), .val (.int ((((p2 &&& (255 : Int32)).toUInt32.toUInt16.toUInt32.toInt32) ^^^ r8).toUInt32.toUInt16.toUInt32.toInt32)), .val (.int ((((((p2.toUInt32 >>> ((8 : Int32) &&& 31).toUInt32).toInt32) &&& (255 : Int32)).toUInt32.toUInt16.toUInt32.toInt32) ^^^ r11).toUInt32.toUInt16.toUInt32.toInt32)), .val (.int ((((((p2.toUInt32 >>> ((16 : Int32) &&& 31).toUInt32).toInt32) &&& (255 : Int32)).toUInt32.toUInt16.toUInt32.toInt32) ^^^ r14).toUInt32.toUInt16.toUInt32.toInt32)), .val (.ref ta), .val (.ref sa), .val (.ref b18), .unset] [(.int ((((p2.toUInt32 >>> ((16 : Int32) &&& 31).toUInt32).toInt32) &&& (255 : Int32)).toUInt32.toUInt16.toUInt32.toInt32)), (.int ((((((p2.toUInt32 >>> ((16 : Int32) &&& 31).toUInt32).toInt32) &&& (255 : Int32)).toUInt32.toUInt16.toUInt32.toInt32) ^^^ r14).toUInt32.toUInt16.toUInt32.toInt32))])) _
                refine XS.icmpNo X22.here hx rfl (hb hby at_252) rfl (teq hc252_30).2 ?_
                refine XS.iconst X22.here hx rfl (hb hby at_255) ?_
                refine XS.goto X22.here hx rfl (pc0 := 256) (pc' := 260) rfl (hb hby at_256) (by decide) (by decide) ?_
                subst hr41
                exact kz
              · rw [if_neg hc252_30] at hr41
                show Steps p.tables e below (T22.setTop (mkF m 252 #[.val (.int p1), .val (.int p2), .val (.int p3), .val (.int p4), .val (.int p5), .val (.int p6), .val (.int ((p1 &&& (2147483647 : Int32)) % (6 : Int32))), .val (.int (p4 &&& (3 : Int32))), .val (.int r2), .val (.int r5), .val (.int ((p2 &&& (255 : Int32)).toUInt32.toUInt16.toUInt32.toInt32)), .val (.int ((((p2.toUInt32 >>> ((8 : Int32) &&& 31).toUInt32).toInt32) &&& (255 : Int32)).toUInt32.toUInt16.toUInt32.toInt32)), .val (.int ((((p2.toUInt32 >>> ((16 : Int32) &&& 31).toUInt32).toInt32) &&& (255 : Int32)).toUInt32.toUInt16.toUInt32.toInt32)), .val (.int r8), .val (.int r11), .val (.int r14), .val (.int ((((p2 &&& (255 : Int32)).toUInt32.toUInt16.toUInt32.toInt32) ^^^ r8).toUInt32.toUInt16.toUInt32.toInt32)), .val (.int ((((((p2.toUInt32 >>> ((8 : Int32) &&& 31).toUInt32).toInt32) &&& (255 : Int32)).toUInt32.toUInt16.toUInt32.toInt32) ^^^ r11).toUInt32.toUInt16.toUInt32.toInt32)), .val (.int ((((((p2.toUInt32 >>> ((16 : Int32) &&& 31).toUInt32).toInt32) &&& (255 : Int32)).toUInt32.toUInt16.toUInt32.toInt32) ^^^ r14).toUInt32.toUInt16.toUInt32.toInt32)), .val (.ref ta), .val (.ref sa), .val (.ref b18), .unset] [(.int ((((p2.toUInt32 >>> ((16 : Int32) &&& 31).toUInt32).toInt32) &&& (255 : Int32)).toUInt32.toUInt16.toUInt32.toInt32)), (.int ((((((p2.toUInt32 >>> ((16 : Int32) &&& 31).toUInt32).toInt32) &&& (255 : Int32)).toUInt32.toUInt16.toUInt32.toInt32) ^^^ r14).toUInt32.toUInt16.toUInt32.toInt32))])) _
                refine XS.icmpYes X22.here hx rfl (pc0 := 252) (pc' := 259) rfl (hb hby at_252) rfl (feq hc252_30).2 (by decide) (by decide) ?_
                refine XS.iconst X22.here hx rfl (hb hby at_259) ?_
                subst hr41
                exact kz
          · rw [if_neg hc232_28] at hr41
            show Steps p.tables e below (T22.setTop (mkF m 232 #[.val (.int p1), .val (.int p2), .val (.int p3), .val (.int p4), .val (.int p5), .val (.int p6), .val (.int ((p1 &&& (2147483647 : Int32)) % (6 : Int32))), .val (.int (p4 &&& (3 : Int32))), .val (.int r2), .val (.int r5), .val (.int ((p2 &&& (255 : Int32)).toUInt32.toUInt16.toUInt32.toInt32)), .val (.int ((((p2.toUInt32 >>> ((8 : Int32) &&& 31).toUInt32).toInt32) &&& (255 : Int32)).toUInt32.toUInt16.toUInt32.toInt32)), .val (.int ((((p2.toUInt32 >>> ((16 : Int32) &&& 31).toUInt32).toInt32) &&& (255 : Int32)).toUInt32.toUInt16.toUInt32.toInt32)), .val (.int r8), .val (.int r11), .val (.int r14), .val (.int ((((p2 &&& (255 : Int32)).toUInt32.toUInt16.toUInt32.toInt32) ^^^ r8).toUInt32.toUInt16.toUInt32.toInt32)), .val (.int ((((((p2.toUInt32 >>> ((8 : Int32) &&& 31).toUInt32).toInt32) &&& (255 : Int32)).toUInt32.toUInt16.toUInt32.toInt32) ^^^ r11).toUInt32.toUInt16.toUInt32.toInt32)), .val (.int ((((((p2.toUInt32 >>> ((16 : Int32) &&& 31).toUInt32).toInt32) &&& (255 : Int32)).toUInt32.toUInt16.toUInt32.toInt32) ^^^ r14).toUInt32.toUInt16.toUInt32.toInt32)), .val (.ref ta), .val (.ref sa), .val (.ref b18), .unset] [(.int (2 : Int32)), (.int (p4 &&& (3 : Int32)))])) _
            refine XS.icmpNo X22.here hx rfl (hb hby at_232) rfl (flt hc232_28).1 ?_
            refine XS.iload X22.here hx rfl (hb hby at_235) rfl ?_
            refine XS.iload X22.here hx rfl (hb hby at_237) rfl ?_
            by_cases hc239_31 : ((((((p2.toUInt32 >>> ((8 : Int32) &&& 31).toUInt32).toInt32) &&& (255 : Int32)).toUInt32.toUInt16.toUInt32.toInt32) ^^^ r11).toUInt32.toUInt16.toUInt32.toInt32) = ((((p2.toUInt32 >>> ((8 : Int32) &&& 31).toUInt32).toInt32) &&& (255 : Int32)).toUInt32.toUInt16.toUInt32.toInt32)
            · rw [if_pos hc239_31] at hr41
              show Steps p.tables e below (T22.setTop (mkF m 239 #[.val (.int p1), .val (.int p2), .val (.int p3), .val (.int p4), .val (.int p5), .val (.int p6), .val (.int ((p1 &&& (2147483647 : Int32)) % (6 : Int32))), .val (.int (p4 &&& (3 : Int32))), .val (.int r2), .val (.int r5), .val (.int ((p2 &&& (255 : Int32)).toUInt32.toUInt16.toUInt32.toInt32)), .val (.int ((((p2.toUInt32 >>> ((8 : Int32) &&& 31).toUInt32).toInt32) &&& (255 : Int32)).toUInt32.toUInt16.toUInt32.toInt32)), .val (.int ((((p2.toUInt32 >>> ((16 : Int32) &&& 31).toUInt32).toInt32) &&& (255 : Int32)).toUInt32.toUInt16.toUInt32.toInt32)), .val (.int r8), .val (.int r11), .val (.int r14), .val (.int ((((p2 &&& (255 : Int32)).toUInt32.toUInt16.toUInt32.toInt32) ^^^ r8).toUInt32.toUInt16.toUInt32.toInt32)), .val (.int ((((((p2.toUInt32 >>> ((8 : Int32) &&& 31).toUInt32).toInt32) &&& (255 : Int32)).toUInt32.toUInt16.toUInt32.toInt32) ^^^ r11).toUInt32.toUInt16.toUInt32.toInt32)), .val (.int ((((((p2.toUInt32 >>> ((16 : Int32) &&& 31).toUInt32).toInt32) &&& (255 : Int32)).toUInt32.toUInt16.toUInt32.toInt32) ^^^ r14).toUInt32.toUInt16.toUInt32.toInt32)), .val (.ref ta), .val (.ref sa), .val (.ref b18), .unset] [(.int ((((p2.toUInt32 >>> ((8 : Int32) &&& 31).toUInt32).toInt32) &&& (255 : Int32)).toUInt32.toUInt16.toUInt32.toInt32)), (.int ((((((p2.toUInt32 >>> ((8 : Int32) &&& 31).toUInt32).toInt32) &&& (255 : Int32)).toUInt32.toUInt16.toUInt32.toInt32) ^^^ r11).toUInt32.toUInt16.toUInt32.toInt32))])) _
              refine XS.icmpNo X22.here hx rfl (hb hby at_239) rfl (teq hc239_31).2 ?_
              refine XS.iload X22.here hx rfl (hb hby at_242) rfl ?_
              refine XS.iconst X22.here hx rfl (hb hby at_244) ?_
              by_cases hc245_32 : (p4 &&& (3 : Int32)) < (3 : Int32)
              · rw [if_pos hc245_32] at hr41
                show Steps p.tables e below (T22.setTop (mkF m 245 #[.val (.int p1), .val (.int p2), .val (.int p3), .val (.int p4), .val (.int p5), .val (.int p6), .val (.int ((p1 &&& (2147483647 : Int32)) % (6 : Int32))), .val (.int (p4 &&& (3 : Int32))), .val (.int r2), .val (.int r5), .val (.int ((p2 &&& (255 : Int32)).toUInt32.toUInt16.toUInt32.toInt32)), .val (.int ((((p2.toUInt32 >>> ((8 : Int32) &&& 31).toUInt32).toInt32) &&& (255 : Int32)).toUInt32.toUInt16.toUInt32.toInt32)), .val (.int ((((p2.toUInt32 >>> ((16 : Int32) &&& 31).toUInt32).toInt32) &&& (255 : Int32)).toUInt32.toUInt16.toUInt32.toInt32)), .val (.int r8), .val (.int r11), .val (.int r14), .val (.int ((((p2 &&& (255 : Int32)).toUInt32.toUInt16.toUInt32.toInt32) ^^^ r8).toUInt32.toUInt16.toUInt32.toInt32)), .val (.int ((((((p2.toUInt32 >>> ((8 : Int32) &&& 31).toUInt32).toInt32) &&& (255 : Int32)).toUInt32.toUInt16.toUInt32.toInt32) ^^^ r11).toUInt32.toUInt16.toUInt32.toInt32)), .val (.int ((((((p2.toUInt32 >>> ((16 : Int32) &&& 31).toUInt32).toInt32) &&& (255 : Int32)).toUInt32.toUInt16.toUInt32.toInt32) ^^^ r14).toUInt32.toUInt16.toUInt32.toInt32)), .val (.ref ta), .val (.ref sa), .val (.ref b18), .unset] [(.int (3 : Int32)), (.int (p4 &&& (3 : Int32)))])) _
                refine XS.icmpYes X22.here hx rfl (pc0 := 245) (pc' := 255) rfl (hb hby at_245) rfl (tlt hc245_32).1 (by decide) (by decide) ?_
                refine XS.iconst X22.here hx rfl (hb hby at_255) ?_
                refine XS.goto X22.here hx rfl (pc0 := 256) (pc' := 260) rfl (hb hby at_256) (by decide) (by decide) ?_
                subst hr41
                exact kz
              · rw [if_neg hc245_32] at hr41
                show Steps p.tables e below (T22.setTop (mkF m 245 #[.val (.int p1), .val (.int p2), .val (.int p3), .val (.int p4), .val (.int p5), .val (.int p6), .val (.int ((p1 &&& (2147483647 : Int32)) % (6 : Int32))), .val (.int (p4 &&& (3 : Int32))), .val (.int r2), .val (.int r5), .val (.int ((p2 &&& (255 : Int32)).toUInt32.toUInt16.toUInt32.toInt32)), .val (.int ((((p2.toUInt32 >>> ((8 : Int32) &&& 31).toUInt32).toInt32) &&& (255 : Int32)).toUInt32.toUInt16.toUInt32.toInt32)), .val (.int ((((p2.toUInt32 >>> ((16 : Int32) &&& 31).toUInt32).toInt32) &&& (255 : Int32)).toUInt32.toUInt16.toUInt32.toInt32)), .val (.int r8), .val (.int r11), .val (.int r14), .val (.int ((((p2 &&& (255 : Int32)).toUInt32.toUInt16.toUInt32.toInt32) ^^^ r8).toUInt32.toUInt16.toUInt32.toInt32)), .val (.int ((((((p2.toUInt32 >>> ((8 : Int32) &&& 31).toUInt32).toInt32) &&& (255 : Int32)).toUInt32.toUInt16.toUInt32.toInt32) ^^^ r11).toUInt32.toUInt16.toUInt32.toInt32)), .val (.int ((((((p2.toUInt32 >>> ((16 : Int32) &&& 31).toUInt32).toInt32) &&& (255 : Int32)).toUInt32.toUInt16.toUInt32.toInt32) ^^^ r14).toUInt32.toUInt16.toUInt32.toInt32)), .val (.ref ta), .val (.ref sa), .val (.ref b18), .unset] [(.int (3 : Int32)), (.int (p4 &&& (3 : Int32)))])) _
                refine XS.icmpNo X22.here hx rfl (hb hby at_245) rfl (flt hc245_32).1 ?_
                refine XS.iload X22.here hx rfl (hb hby at_248) rfl ?_
                refine XS.iload X22.here hx rfl (hb hby at_250) rfl ?_
                by_cases hc252_33 : ((((((p2.toUInt32 >>> ((16 : Int32) &&& 31).toUInt32).toInt32) &&& (255 : Int32)).toUInt32.toUInt16.toUInt32.toInt32) ^^^ r14).toUInt32.toUInt16.toUInt32.toInt32) = ((((p2.toUInt32 >>> ((16 : Int32) &&& 31).toUInt32).toInt32) &&& (255 : Int32)).toUInt32.toUInt16.toUInt32.toInt32)
                · rw [if_pos hc252_33] at hr41
                  show Steps p.tables e below (T22.setTop (mkF m 252 #[.val (.int p1), .val (.int p2), .val (.int p3), .val (.int p4), .val (.int p5), .val (.int p6), .val (.int ((p1 &&& (2147483647 : Int32)) % (6 : Int32))), .val (.int (p4 &&& (3 : Int32))), .val (.int r2), .val (.int r5), .val (.int ((p2 &&& (255 : Int32)).toUInt32.toUInt16.toUInt32.toInt32)), .val (.int ((((p2.toUInt32 >>> ((8 : Int32) &&& 31).toUInt32).toInt32) &&& (255 : Int32)).toUInt32.toUInt16.toUInt32.toInt32)), .val (.int ((((p2.toUInt32 >>> ((16 : Int32) &&& 31).toUInt32).toInt32) &&& (255 : Int32)).toUInt32.toUInt16.toUInt32.toInt32)), .val (.int r8), .val (.int r11), .val (.int r14), .val (.int ((((p2 &&& (255 : Int32)).toUInt32.toUInt16.toUInt32.toInt32) ^^^ r8).toUInt32.toUInt16.toUInt32.toInt32)), .val (.int ((((((p2.toUInt32 >>> ((8 : Int32) &&& 31).toUInt32).toInt32) &&& (255 : Int32)).toUInt32.toUInt16.toUInt32.toInt32) ^^^ r11).toUInt32.toUInt16.toUInt32.toInt32)), .val (.int ((((((p2.toUInt32 >>> ((16 : Int32) &&& 31).toUInt32).toInt32) &&& (255 : Int32)).toUInt32.toUInt16.toUInt32.toInt32) ^^^ r14).toUInt32.toUInt16.toUInt32.toInt32)), .val (.ref ta), .val (.ref sa), .val (.ref b18), .unset] [(.int ((((p2.toUInt32 >>> ((16 : Int32) &&& 31).toUInt32).toInt32) &&& (255 : Int32)).toUInt32.toUInt16.toUInt32.toInt32)), (.int ((((((p2.toUInt32 >>> ((16 : Int32) &&& 31).toUInt32).toInt32) &&& (255 : Int32)).toUInt32.toUInt16.toUInt32.toInt32) ^^^ r14).toUInt32.toUInt16.toUInt32.toInt32))])) _
                  refine XS.icmpNo X22.here hx rfl (hb hby at_252) rfl (teq hc252_33).2 ?_
                  refine XS.iconst X22.here hx rfl (hb hby at_255) ?_
                  refine XS.goto X22.here hx rfl (pc0 := 256) (pc' := 260) rfl (hb hby at_256) (by decide) (by decide) ?_
                  subst hr41
                  exact kz
                · rw [if_neg hc252_33] at hr41
                  show Steps p.tables e below (T22.setTop (mkF m 252 #[.val (.int p1), .val (.int p2), .val (.int p3), .val (.int p4), .val (.int p5), .val (.int p6), .val (.int ((p1 &&& (2147483647 : Int32)) % (6 : Int32))), .val (.int (p4 &&& (3 : Int32))), .val (.int r2), .val (.int r5), .val (.int ((p2 &&& (255 : Int32)).toUInt32.toUInt16.toUInt32.toInt32)), .val (.int ((((p2.toUInt32 >>> ((8 : Int32) &&& 31).toUInt32).toInt32) &&& (255 : Int32)).toUInt32.toUInt16.toUInt32.toInt32)), .val (.int ((((p2.toUInt32 >>> ((16 : Int32) &&& 31).toUInt32).toInt32) &&& (255 : Int32)).toUInt32.toUInt16.toUInt32.toInt32)), .val (.int r8), .val (.int r11), .val (.int r14), .val (.int ((((p2 &&& (255 : Int32)).toUInt32.toUInt16.toUInt32.toInt32) ^^^ r8).toUInt32.toUInt16.toUInt32.toInt32)), .val (.int ((((((p2.toUInt32 >>> ((8 : Int32) &&& 31).toUInt32).toInt32) &&& (255 : Int32)).toUInt32.toUInt16.toUInt32.toInt32) ^^^ r11).toUInt32.toUInt16.toUInt32.toInt32)), .val (.int ((((((p2.toUInt32 >>> ((16 : Int32) &&& 31).toUInt32).toInt32) &&& (255 : Int32)).toUInt32.toUInt16.toUInt32.toInt32) ^^^ r14).toUInt32.toUInt16.toUInt32.toInt32)), .val (.ref ta), .val (.ref sa), .val (.ref b18), .unset] [(.int ((((p2.toUInt32 >>> ((16 : Int32) &&& 31).toUInt32).toInt32) &&& (255 : Int32)).toUInt32.toUInt16.toUInt32.toInt32)), (.int ((((((p2.toUInt32 >>> ((16 : Int32) &&& 31).toUInt32).toInt32) &&& (255 : Int32)).toUInt32.toUInt16.toUInt32.toInt32) ^^^ r14).toUInt32.toUInt16.toUInt32.toInt32))])) _
                  refine XS.icmpYes X22.here hx rfl (pc0 := 252) (pc' := 259) rfl (hb hby at_252) rfl (feq hc252_33).2 (by decide) (by decide) ?_
                  refine XS.iconst X22.here hx rfl (hb hby at_259) ?_
                  subst hr41
                  exact kz
            · rw [if_neg hc239_31] at hr41
              show Steps p.tables e below (T22.setTop (mkF m 239 #[.val (.int p1), .val (.int p2), .val (.int p3), .val (.int p4), .val (.int p5), .val (.int p6), .val (.int ((p1 &&& (2147483647 : Int32)) % (6 : Int32))), .val (.int (p4 &&& (3 : Int32))), .val (.int r2), .val (.int r5), .val (.int ((p2 &&& (255 : Int32)).toUInt32.toUInt16.toUInt32.toInt32)), .val (.int ((((p2.toUInt32 >>> ((8 : Int32) &&& 31).toUInt32).toInt32) &&& (255 : Int32)).toUInt32.toUInt16.toUInt32.toInt32)), .val (.int ((((p2.toUInt32 >>> ((16 : Int32) &&& 31).toUInt32).toInt32) &&& (255 : Int32)).toUInt32.toUInt16.toUInt32.toInt32)), .val (.int r8), .val (.int r11), .val (.int r14), .val (.int ((((p2 &&& (255 : Int32)).toUInt32.toUInt16.toUInt32.toInt32) ^^^ r8).toUInt32.toUInt16.toUInt32.toInt32)), .val (.int ((((((p2.toUInt32 >>> ((8 : Int32) &&& 31).toUInt32).toInt32) &&& (255 : Int32)).toUInt32.toUInt16.toUInt32.toInt32) ^^^ r11).toUInt32.toUInt16.toUInt32.toInt32)), .val (.int ((((((p2.toUInt32 >>> ((16 : Int32) &&& 31).toUInt32).toInt32) &&& (255 : Int32)).toUInt32.toUInt16.toUInt32.toInt32) ^^^ r14).toUInt32.toUInt16.toUInt32.toInt32)), .val (.ref ta), .val (.ref sa), .val (.ref b18), .unset] [(.int ((((p2.toUInt32 >>> ((8 : Int32) &&& 31).toUInt32).toInt32) &&& (255 : Int32)).toUInt32.toUInt16.toUInt32.toInt32)), (.int ((((((p2.toUInt32 >>> ((8 : Int32) &&& 31).toUInt32).toInt32) &&& (255 : Int32)).toUInt32.toUInt16.toUInt32.toInt32) ^^^ r11).toUInt32.toUInt16.toUInt32.toInt32))])) _
              refine XS.icmpYes X22.here hx rfl (pc0 := 239) (pc' := 259) rfl (hb hby at_239) rfl (feq hc239_31).2 (by decide) (by decide) ?_
              refine XS.iconst X22.here hx rfl (hb hby at_259) ?_
              subst hr41
              exact kz
        · rw [if_neg hc219_27] at hr41
          show Steps p.tables e below (T22.setTop (mkF m 219 #[.val (.int p1), .val (.int p2), .val (.int p3), .val (.int p4), .val (.int p5), .val (.int p6), .val (.int ((p1 &&& (2147483647 : Int32)) % (6 : Int32))), .val (.int (p4 &&& (3 : Int32))), .val (.int r2), .val (.int r5), .val (.int ((p2 &&& (255 : Int32)).toUInt32.toUInt16.toUInt32.toInt32)), .val (.int ((((p2.toUInt32 >>> ((8 : Int32) &&& 31).toUInt32).toInt32) &&& (255 : Int32)).toUInt32.toUInt16.toUInt32.toInt32)), .val (.int ((((p2.toUInt32 >>> ((16 : Int32) &&& 31).toUInt32).toInt32) &&& (255 : Int32)).toUInt32.toUInt16.toUInt32.toInt32)), .val (.int r8), .val (.int r11), .val (.int r14), .val (.int ((((p2 &&& (255 : Int32)).toUInt32.toUInt16.toUInt32.toInt32) ^^^ r8).toUInt32.toUInt16.toUInt32.toInt32)), .val (.int ((((((p2.toUInt32 >>> ((8 : Int32) &&& 31).toUInt32).toInt32) &&& (255 : Int32)).toUInt32.toUInt16.toUInt32.toInt32) ^^^ r11).toUInt32.toUInt16.toUInt32.toInt32)), .val (.int ((((((p2.toUInt32 >>> ((16 : Int32) &&& 31).toUInt32).toInt32) &&& (255 : Int32)).toUInt32.toUInt16.toUInt32.toInt32) ^^^ r14).toUInt32.toUInt16.toUInt32.toInt32)), .val (.ref ta), .val (.ref sa), .val (.ref b18), .unset] [(.int (1 : Int32)), (.int (p4 &&& (3 : Int32)))])) _
          refine XS.icmpNo X22.here hx rfl (hb hby at_219) rfl (flt hc219_27).1 ?_
          refine XS.iload X22.here hx rfl (hb hby at_222) rfl ?_
          refine XS.iload X22.here hx rfl (hb hby at_224) rfl ?_
          by_cases hc226_34 : ((((p2 &&& (255 : Int32)).toUInt32.toUInt16.toUInt32.toInt32) ^^^ r8).toUInt32.toUInt16.toUInt32.toInt32) = ((p2 &&& (255 : Int32)).toUInt32.toUInt16.toUInt32.toInt32)
          · rw [if_pos hc226_34] at hr41
            show Steps p.tables e below (T22.setTop (mkF m 226 #[.val (.int p1), .val (.int p2), .val (.int p3), .val (.int p4), .val (.int p5), .val (.int p6), .val (.int ((p1 &&& (2147483647 : Int32)) % (6 : Int32))), .val (.int (p4 &&& (3 : Int32))), .val (.int r2), .val (.int r5), .val (.int ((p2 &&& (255 : Int32)).toUInt32.toUInt16.toUInt32.toInt32)), .val (.int ((((p2.toUInt32 >>> ((8 : Int32) &&& 31).toUInt32).toInt32) &&& (255 : Int32)).toUInt32.toUInt16.toUInt32.toInt32)), .val (.int ((((p2.toUInt32 >>> ((16 : Int32) &&& 31).toUInt32).toInt32) &&& (255 : Int32)).toUInt32.toUInt16.toUInt32.toInt32)), .val (.int r8), .val (.int r11), .val (.int r14), .val (.int ((((p2 &&& (255 : Int32)).toUInt32.toUInt16.toUInt32.toInt32) ^^^ r8).toUInt32.toUInt16.toUInt32.toInt32)), .val (.int ((((((p2.toUInt32 >>> ((8 : Int32) &&& 31).toUInt32).toInt32) &&& (255 : Int32)).toUInt32.toUInt16.toUInt32.toInt32) ^^^ r11).toUInt32.toUInt16.toUInt32.toInt32)), .val (.int ((((((p2.toUInt32 >>> ((16 : Int32) &&& 31).toUInt32).toInt32) &&& (255 : Int32)).toUInt32.toUInt16.toUInt32.toInt32) ^^^ r14).toUInt32.toUInt16.toUInt32.toInt32)), .val (.ref ta), .val (.ref sa), .val (.ref b18), .unset] [(.int ((p2 &&& (255 : Int32)).toUInt32.toUInt16.toUInt32.toInt32)), (.int ((((p2 &&& (255 : Int32)).toUInt32.toUInt16.toUInt32.toInt32) ^^^ r8).toUInt32.toUInt16.toUInt32.toInt32))])) _
            refine XS.icmpNo X22.here hx rfl (hb hby at_226) rfl (teq hc226_34).2 ?_
            refine XS.iload X22.here hx rfl (hb hby at_229) rfl ?_
            refine XS.iconst X22.here hx rfl (hb hby at_231) ?_
            by_cases hc232_35 : (p4 &&& (3 : Int32)) < (2 : Int32)
            · rw [if_pos hc232_35] at hr41
              show Steps p.tables e below (T22.setTop (mkF m 232 #[.val (.int p1), .val (.int p2), .val (.int p3), .val (.int p4), .val (.int p5), .val (.int p6), .val (.int ((p1 &&& (2147483647 : Int32)) % (6 : Int32))), .val (.int (p4 &&& (3 : Int32))), .val (.int r2), .val (.int r5), .val (.int ((p2 &&& (255 : Int32)).toUInt32.toUInt16.toUInt32.toInt32)), .val (.int ((((p2.toUInt32 >>> ((8 : Int32) &&& 31).toUInt32).toInt32) &&& (255 : Int32)).toUInt32.toUInt16.toUInt32.toInt32)), .val (.int ((((p2.toUInt32 >>> ((16 : Int32) &&& 31).toUInt32).toInt32) &&& (255 : Int32)).toUInt32.toUInt16.toUInt32.toInt32)), .val (.int r8), .val (.int r11), .val (.int r14), .val (.int ((((p2 &&& (255 : Int32)).toUInt32.toUInt16.toUInt32.toInt32) ^^^ r8).toUInt32.toUInt16.toUInt32.toInt32)), .val (.int ((((((p2.toUInt32 >>> ((8 : Int32) &&& 31).toUInt32).toInt32) &&& (255 : Int32)).toUInt32.toUInt16.toUInt32.toInt32) ^^^ r11).toUInt32.toUInt16.toUInt32.toInt32)), .val (.int ((((((p2.toUInt32 >>> ((16 : Int32) &&& 31).toUInt32).toInt32) &&& (255 : Int32)).toUInt32.toUInt16.toUInt32.toInt32) ^^^ r14).toUInt32.toUInt16.toUInt32.toInt32)), .val (.ref ta), .val (.ref sa), .val (.ref b18), .unset] [(.int (2 : Int32)), (.int (p4 &&& (3 : Int32)))])) _
              refine XS.icmpYes X22.here hx rfl (pc0 := 232) (pc' := 242) rfl (hb hby at_232) rfl (tlt hc232_35).1 (by decide) (by decide) ?_
              refine XS.iload X22.here hx rfl (hb hby at_242) rfl ?_
              refine XS.iconst X22.here hx rfl (hb hby at_244) ?_
              by_cases hc245_36 : (p4 &&& (3 : Int32)) < (3 : Int32)
              · rw [if_pos hc245_36] at hr41
                show Steps p.tables e below (T22.setTop (mkF m 245 #[.val (.int p1), .val (.int p2), .val (.int p3), .val (.int p4), .val (.int p5), .val (.int p6), .val (.int ((p1 &&& (2147483647 : Int32)) % (6 : Int32))), .val (.int (p4 &&& (3 : Int32))), .val (.int r2), .val (.int r5), .val (.int ((p2 &&& (255 : Int32)).toUInt32.toUInt16.toUInt32.toInt32)), .val (.int ((((p2.toUInt32 >>> ((8 : Int32) &&& 31).toUInt32).toInt32) &&& (255 : Int32)).toUInt32.toUInt16.toUInt32.toInt32)), .val (.int ((((p2.toUInt32 >>> ((16 : Int32) &&& 31).toUInt32).toInt32) &&& (255 : Int32)).toUInt32.toUInt16.toUInt32.toInt32)), .val (.int r8), .val (.int r11), .val (.int r14), .val (.int ((((p2 &&& (255 : Int32)).toUInt32.toUInt16.toUInt32.toInt32) ^^^ r8).toUInt32.toUInt16.toUInt32.toInt32)), .val (.int ((((((p2.toUInt32 >>> ((8 : Int32) &&& 31).toUInt32).toInt32) &&& (255 : Int32)).toUInt32.toUInt16.toUInt32.toInt32) ^^^ r11).toUInt32.toUInt16.toUInt32.toInt32)), .val (.int ((((((p2.toUInt32 >>> ((16 : Int32) &&& 31).toUInt32).toInt32) &&& (255 : Int32)).toUInt32.toUInt16.toUInt32.toInt32) ^^^ r14).toUInt32.toUInt16.toUInt32.toInt32)), .val (.ref ta), .val (.ref sa), .val (.ref b18), .unset] [(.int (3 : Int32)), (.int (p4 &&& (3 : Int32)))])) _
                refine XS.icmpYes X22.here hx rfl (pc0 := 245) (pc' := 255) rfl (hb hby at_245) rfl (tlt hc245_36).1 (by decide) (by decide) ?_
                refine XS.iconst X22.here hx rfl (hb hby at_255) ?_
                refine XS.goto X22.here hx rfl (pc0 := 256) (pc' := 260) rfl (hb hby at_256) (by decide) (by decide) ?_
                subst hr41
                exact kz
              · rw [if_neg hc245_36] at hr41
                show Steps p.tables e below (T22.setTop (mkF m 245 #[.val (.int p1), .val (.int p2), .val (.int p3), .val (.int p4), .val (.int p5), .val (.int p6), .val (.int ((p1 &&& (2147483647 : Int32)) % (6 : Int32))), .val (.int (p4 &&& (3 : Int32))), .val (.int r2), .val (.int r5), .val (.int ((p2 &&& (255 : Int32)).toUInt32.toUInt16.toUInt32.toInt32)), .val (.int ((((p2.toUInt32 >>> ((8 : Int32) &&& 31).toUInt32).toInt32) &&& (255 : Int32)).toUInt32.toUInt16.toUInt32.toInt32)), .val (.int ((((p2.toUInt32 >>> ((16 : Int32) &&& 31).toUInt32).toInt32) &&& (255 : Int32)).toUInt32.toUInt16.toUInt32.toInt32)), .val (.int r8), .val (.int r11), .val (.int r14), .val (.int ((((p2 &&& (255 : Int32)).toUInt32.toUInt16.toUInt32.toInt32) ^^^ r8).toUInt32.toUInt16.toUInt32.toInt32)), .val (.int ((((((p2.toUInt32 >>> ((8 : Int32) &&& 31).toUInt32).toInt32) &&& (255 : Int32)).toUInt32.toUInt16.toUInt32.toInt32) ^^^ r11).toUInt32.toUInt16.toUInt32.toInt32)), .val (.int ((((((p2.toUInt32 >>> ((16 : Int32) &&& 31).toUInt32).toInt32) &&& (255 : Int32)).toUInt32.toUInt16.toUInt32.toInt32) ^^^ r14).toUInt32.toUInt16.toUInt32.toInt32)), .val (.ref ta), .val (.ref sa), .val (.ref b18), .unset] [(.int (3 : Int32)), (.int (p4 &&& (3 : Int32)))])) _
                refine XS.icmpNo X22.here hx rfl (hb hby at_245) rfl (flt hc245_36).1 ?_
                refine XS.iload X22.here hx rfl (hb hby at_248) rfl ?_
                refine XS.iload X22.here hx rfl (hb hby at_250) rfl ?_
                by_cases hc252_37 : ((((((p2.toUInt32 >>> ((16 : Int32) &&& 31).toUInt32).toInt32) &&& (255 : Int32)).toUInt32.toUInt16.toUInt32.toInt32) ^^^ r14).toUInt32.toUInt16.toUInt32.toInt32) = ((((p2.toUInt32 >>> ((16 : Int32) &&& 31).toUInt32).toInt32) &&& (255 : Int32)).toUInt32.toUInt16.toUInt32.toInt32)
                · rw [if_pos hc252_37] at hr41
                  show Steps p.tables e below (T22.setTop (mkF m 252 #[.val (.int p1), .val (.int p2), .val (.int p3), .val (.int p4), .val (.int p5), .val (.int p6), .val (.int ((p1 &&& (2147483647 : Int32)) % (6 : Int32))), .val (.int (p4 &&& (3 : Int32))), .val (.int r2), .val (.int r5), .val (.int ((p2 &&& (255 : Int32)).toUInt32.toUInt16.toUInt32.toInt32)), .val (.int ((((p2.toUInt32 >>> ((8 : Int32) &&& 31).toUInt32).toInt32) &&& (255 : Int32)).toUInt32.toUInt16.toUInt32.toInt32)), .val (.int ((((p2.toUInt32 >>> ((16 : Int32) &&& 31).toUInt32).toInt32) &&& (255 : Int32)).toUInt32.toUInt16.toUInt32.toInt32)), .val (.int r8), .val (.int r11), .val (.int r14), .val (.int ((((p2 &&& (255 : Int32)).toUInt32.toUInt16.toUInt32.toInt32) ^^^ r8).toUInt32.toUInt16.toUInt32.toInt32)), .val (.int ((((((p2.toUInt32 >>> ((8 : Int32) &&& 31).toUInt32).toInt32) &&& (255 : Int32)).toUInt32.toUInt16.toUInt32.toInt32) ^^^ r11).toUInt32.toUInt16.toUInt32.toInt32)), .val (.int ((((((p2.toUInt32 >>> ((16 : Int32) &&& 31).toUInt32).toInt32) &&& (255 : Int32)).toUInt32.toUInt16.toUInt32.toInt32) ^^^ r14).toUInt32.toUInt16.toUInt32.toInt32)), .val (.ref ta), .val (.ref sa), .val (.ref b18), .unset] [(.int ((((p2.toUInt32 >>> ((16 : Int32) &&& 31).toUInt32).toInt32) &&& (255 : Int32)).toUInt32.toUInt16.toUInt32.toInt32)), (.int ((((((p2.toUInt32 >>> ((16 : Int32) &&& 31).toUInt32).toInt32) &&& (255 : Int32)).toUInt32.toUInt16.toUInt32.toInt32) ^^^ r14).toUInt32.toUInt16.toUInt32.toInt32))])) _
                  refine XS.icmpNo X22.here hx rfl (hb hby at_252) rfl (teq hc252_37).2 ?_
                  refine XS.iconst X22.here hx rfl (hb hby at_255) ?_
                  refine XS.goto X22.here hx rfl (pc0 := 256) (pc' := 260) rfl (hb hby at_256) (by decide) (by decide) ?_
                  subst hr41
                  exact kz
                · rw [if_neg hc252_37] at hr41
                  show Steps p.tables e below (T22.setTop (mkF m 252 #[.val (.int p1), .val (.int p2), .val (.int p3), .val (.int p4), .val (.int p5), .val (.int p6), .val (.int ((p1 &&& (2147483647 : Int32)) % (6 : Int32))), .val (.int (p4 &&& (3 : Int32))), .val (.int r2), .val (.int r5), .val (.int ((p2 &&& (255 : Int32)).toUInt32.toUInt16.toUInt32.toInt32)), .val (.int ((((p2.toUInt32 >>> ((8 : Int32) &&& 31).toUInt32).toInt32) &&& (255 : Int32)).toUInt32.toUInt16.toUInt32.toInt32)), .val (.int ((((p2.toUInt32 >>> ((16 : Int32) &&& 31).toUInt32).toInt32) &&& (255 : Int32)).toUInt32.toUInt16.toUInt32.toInt32)), .val (.int r8), .val (.int r11), .val (.int r14), .val (.int ((((p2 &&& (255 : Int32)).toUInt32.toUInt16.toUInt32.toInt32) ^^^ r8).toUInt32.toUInt16.toUInt32.toInt32)), .val (.int ((((((p2.toUInt32 >>> ((8 : Int32) &&& 31).toUInt32).toInt32) &&& (255 : Int32)).toUInt32.toUInt16.toUInt32.toInt32) ^^^ r11).toUInt32.toUInt16.toUInt32.toInt32)), .val (.int ((((((p2.toUInt32 >>> ((16 : Int32) &&& 31).toUInt32).toInt32) &&& (255 : Int32)).toUInt32.toUInt16.toUInt32.toInt32) ^^^ r14).toUInt32.toUInt16.toUInt32.toInt32)), .val (.ref ta), .val (.ref sa), .val (.ref b18), .unset] [(.int ((((p2.toUInt32 >>> ((16 : Int32) &&& 31).toUInt32).toInt32) &&& (255 : Int32)).toUInt32.toUInt16.toUInt32.toInt32)), (.int ((((((p2.toUInt32 >>> ((16 : Int32) &&& 31).toUInt32).toInt32) &&& (255 : Int32)).toUInt32.toUInt16.toUInt32.toInt32) ^^^ r14).toUInt32.toUInt16.toUInt32.toInt32))])) _
                  refine XS.icmpYes X22.here hx rfl (pc0 := 252) (pc' := 259) rfl (hb hby at_252) rfl (feq hc252_37).2 (by decide) (by decide) ?_
                  refine XS.iconst X22.here hx rfl (hb hby at_259) ?_
                  subst hr41
                  exact kz
            · rw [if_neg hc232_35] at hr41
              show Steps p.tables e below (T22.setTop (mkF m 232 #[.val (.int p1), .val (.int p2), .val (.int p3), .val (.int p4), .val (.int p5), .val (.int p6), .val (.int ((p1 &&& (2147483647 : Int32)) % (6 : Int32))), .val (.int (p4 &&& (3 : Int32))), .val (.int r2), .val (.int r5), .val (.int ((p2 &&& (255 : Int32)).toUInt32.toUInt16.toUInt32.toInt32)), .val (.int ((((p2.toUInt32 >>> ((8 : Int32) &&& 31).toUInt32).toInt32) &&& (255 : Int32)).toUInt32.toUInt16.toUInt32.toInt32)), .val (.int ((((p2.toUInt32 >>> ((16 : Int32) &&& 31).toUInt32).toInt32) &&& (255 : Int32)).toUInt32.toUInt16.toUInt32.toInt32)), .val (.int r8), .val (.int r11), .val (.int r14), .val (.int ((((p2 &&& (255 : Int32)).toUInt32.toUInt16.toUInt32.toInt32) ^^^ r8).toUInt32.toUInt16.toUInt32.toInt32)), .val (.int ((((((p2.toUInt32 >>> ((8 : Int32) &&& 31).toUInt32).toInt32) &&& (255 : Int32)).toUInt32.toUInt16.toUInt32.toInt32) ^^^ r11).toUInt32.toUInt16.toUInt32.toInt32)), .val (.int ((((((p2.toUInt32 >>> ((16 : Int32) &&& 31).toUInt32).toInt32) &&& (255 : Int32)).toUInt32.toUInt16.toUInt32.toInt32) ^^^ r14).toUInt32.toUInt16.toUInt32.toInt32)), .val (.ref ta), .val (.ref sa), .val (.ref b18), .unset] [(.int (2 : Int32)), (.int (p4 &&& (3 : Int32)))])) _
              refine XS.icmpNo X22.here hx rfl (hb hby at_232) rfl (flt hc232_35).1 ?_
              refine XS.iload X22.here hx rfl (hb hby at_235) rfl ?_
              refine XS.iload X22.here hx rfl (hb hby at_237) rfl ?_
              by_cases hc239_38 : ((((((p2.toUInt32 >>> ((8 : Int32) &&& 31).toUInt32).toInt32) &&& (255 : Int32)).toUInt32.toUInt16.toUInt32.toInt32) ^^^ r11).toUInt32.toUInt16.toUInt32.toInt32) = ((((p2.toUInt32 >>> ((8 : Int32) &&& 31).toUInt32).toInt32) &&& (255 : Int32)).toUInt32.toUInt16.toUInt32.toInt32)
              · rw [if_pos hc239_38] at hr41
                show Steps p.tables e below (T22.setTop (mkF m 239 #[.val (.int p1), .val (.int p2), .val (.int p3), .val (.int p4), .val (.int p5), .val (.int p6), .val (.int ((p1 &&& (2147483647 : Int32)) % (6 : Int32))), .val (.int (p4 &&& (3 : Int32))), .val (.int r2), .val (.int r5), .val (.int ((p2 &&& (255 : Int32)).toUInt32.toUInt16.toUInt32.toInt32)), .val (.int ((((p2.toUInt32 >>> ((8 : Int32) &&& 31).toUInt32).toInt32) &&& (255 : Int32)).toUInt32.toUInt16.toUInt32.toInt32)), .val (.int ((((p2.toUInt32 >>> ((16 : Int32) &&& 31).toUInt32).toInt32) &&& (255 : Int32)).toUInt32.toUInt16.toUInt32.toInt32)), .val (.int r8), .val (.int r11), .val (.int r14), .val (.int ((((p2 &&& (255 : Int32)).toUInt32.toUInt16.toUInt32.toInt32) ^^^ r8).toUInt32.toUInt16.toUInt32.toInt32)), .val (.int ((((((p2.toUInt32 >>> ((8 : Int32) &&& 31).toUInt32).toInt32) &&& (255 : Int32)).toUInt32.toUInt16.toUInt32.toInt32) ^^^ r11).toUInt32.toUInt16.toUInt32.toInt32)), .val (.int ((((((p2.toUInt32 >>> ((16 : Int32) &&& 31).toUInt32).toInt32) &&& (255 : Int32)).toUInt32.toUInt16.toUInt32.toInt32) ^^^ r14).toUInt32.toUInt16.toUInt32.toInt32)), .val (.ref ta), .val (.ref sa), .val (.ref b18), .unset] [(.int ((((p2.toUInt32 >>> ((8 : Int32) &&& 31).toUInt32).toInt32) &&& (255 : Int32)).toUInt32.toUInt16.toUInt32.toInt32)), (.int ((((((p2.toUInt32 >>> ((8 : Int32) &&& 31).toUInt32).toInt32) &&& (255 : Int32)).toUInt32.toUInt16.toUInt32.toInt32) ^^^ r11).toUInt32.toUInt16.toUInt32.toInt32))])) _
                refine XS.icmpNo X22.here hx rfl (hb hby at_239) rfl (teq hc239_38).2 ?_
                refine XS.iload X22.here hx rfl (hb hby at_242) rfl ?_
                refine XS.iconst X22.here hx rfl (hb hby at_244) ?_
                by_cases hc245_39 : (p4 &&& (3 : Int32)) < (3 : Int32)
                · rw [if_pos hc245_39] at hr41
                  show Steps p.tables e below (T22.setTop (mkF m 245 #[.val (.int p1), .val (.int p2), .val (.int p3), .val (.int p4), .val (.int p5), .val (.int p6), .val (.int ((p1 &&& (2147483647 : Int32)) % (6 : Int32))), .val (.int (p4 &&& (3 : Int32))), .val (.int r2), .val (.int r5), .val (.int ((p2 &&& (255 : Int32)).toUInt32.toUInt16.toUInt32.toInt32)), .val (.int ((((p2.toUInt32 >>> ((8 : Int32) &&& 31).toUInt32).toInt32) &&& (255 : Int32)).toUInt32.toUInt16.toUInt32.toInt32)), .val (.int ((((p2.toUInt32 >>> ((16 : Int32) &&& 31).toUInt32).toInt32) &&& (255 : Int32)).toUInt32.toUInt16.toUInt32.toInt32)), .val (.int r8), .val (.int r11), .val (.int r14), .val (.int ((((p2 &&& (255 : Int32)).toUInt32.toUInt16.toUInt32.toInt32) ^^^ r8).toUInt32.toUInt16.toUInt32.toInt32)), .val (.int ((((((p2.toUInt32 >>> ((8 : Int32) &&& 31).toUInt32).toInt32) &&& (255 : Int32)).toUInt32.toUInt16.toUInt32.toInt32) ^^^ r11).toUInt32.toUInt16.toUInt32.toInt32)), .val (.int ((((((p2.toUInt32 >>> ((16 : Int32) &&& 31).toUInt32).toInt32) &&& (255 : Int32)).toUInt32.toUInt16.toUInt32.toInt32) ^^^ r14).toUInt32.toUInt16.toUInt32.toInt32)), .val (.ref ta), .val (.ref sa), .val (.ref b18), .unset] [(.int (3 : Int32)), (.int (p4 &&& (3 : Int32)))])) _
                  refine XS.icmpYes X22.here hx rfl (pc0 := 245) (pc' := 255) rfl (hb hby at_245) rfl (tlt hc245_39).1 (by decide) (by decide) ?_
                  refine XS.iconst X22.here hx rfl (hb hby at_255) ?_
                  refine XS.goto X22.here hx rfl (pc0 := 256) (pc' := 260) rfl (hb hby at_256) (by decide) (by decide) ?_
                  subst hr41
                  exact kz
                · rw [if_neg hc245_39] at hr41
                  show Steps p.tables e below (T22.setTop (mkF m 245 #[.val (.int p1), .val (.int p2), .val (.int p3), .val (.int p4), .val (.int p5), .val (.int p6), .val (.int ((p1 &&& (2147483647 : Int32)) % (6 : Int32))), .val (.int (p4 &&& (3 : Int32))), .val (.int r2), .val (.int r5), .val (.int ((p2 &&& (255 : Int32)).toUInt32.toUInt16.toUInt32.toInt32)), .val (.int ((((p2.toUInt32 >>> ((8 : Int32) &&& 31).toUInt32).toInt32) &&& (255 : Int32)).toUInt32.toUInt16.toUInt32.toInt32)), .val (.int ((((p2.toUInt32 >>> ((16 : Int32) &&& 31).toUInt32).toInt32) &&& (255 : Int32)).toUInt32.toUInt16.toUInt32.toInt32)), .val (.int r8), .val (.int r11), .val (.int r14), .val (.int ((((p2 &&& (255 : Int32)).toUInt32.toUInt16.toUInt32.toInt32) ^^^ r8).toUInt32.toUInt16.toUInt32.toInt32)), .val (.int ((((((p2.toUInt32 >>> ((8 : Int32) &&& 31).toUInt32).toInt32) &&& (255 : Int32)).toUInt32.toUInt16.toUInt32.toInt32) ^^^ r11).toUInt32.toUInt16.toUInt32.toInt32)), .val (.int ((((((p2.toUInt32 >>> ((16 : Int32) &&& 31).toUInt32).toInt32) &&& (255 : Int32)).toUInt32.toUInt16.toUInt32.toInt32) ^^^ r14).toUInt32.toUInt16.toUInt32.toInt32)), .val (.ref ta), .val (.ref sa), .val (.ref b18), .unset] [(.int (3 : Int32)), (.int (p4 &&& (3 : Int32)))])) _
                  refine XS.icmpNo X22.here hx rfl (hb hby at_245) rfl (flt hc245_39).1 ?_
                  refine XS.iload X22.here hx rfl (hb hby at_248) rfl ?_
                  refine XS.iload X22.here hx rfl (hb hby at_250) rfl ?_
                  by_cases hc252_40 : ((((((p2.toUInt32 >>> ((16 : Int32) &&& 31).toUInt32).toInt32) &&& (255 : Int32)).toUInt32.toUInt16.toUInt32.toInt32) ^^^ r14).toUInt32.toUInt16.toUInt32.toInt32) = ((((p2.toUInt32 >>> ((16 : Int32) &&& 31).toUInt32).toInt32) &&& (255 : Int32)).toUInt32.toUInt16.toUInt32.toInt32)
                  · rw [if_pos hc252_40] at hr41
                    show Steps p.tables e below (T22.setTop (mkF m 252 #[.val (.int p1), .val (.int p2), .val (.int p3), .val (.int p4), .val (.int p5), .val (.int p6), .val (.int ((p1 &&& (2147483647 : Int32)) % (6 : Int32))), .val (.int (p4 &&& (3 : Int32))), .val (.int r2), .val (.int r5), .val (.int ((p2 &&& (255 : Int32)).toUInt32.toUInt16.toUInt32.toInt32)), .val (.int ((((p2.toUInt32 >>> ((8 : Int32) &&& 31).toUInt32).toInt32) &&& (255 : Int32)).toUInt32.toUInt16.toUInt32.toInt32)), .val (.int ((((p2.toUInt32 >>> ((16 : Int32) &&& 31).toUInt32).toInt32) &&& (255 : Int32)).toUInt32.toUInt16.toUInt32.toInt32)), .val (.int r8), .val (.int r11), .val (.int r14), .val (.int ((((p2 &&& (255 : Int32)).toUInt32.toUInt16.toUInt32.toInt32) ^^^ r8).toUInt32.toUInt16.toUInt32.toInt32)), .val (.int ((((((p2.toUInt32 >>> ((8 : Int32) &&& 31).toUInt32).toInt32) &&& (255 : Int32)).toUInt32.toUInt16.toUInt32.toInt32) ^^^ r11).toUInt32.toUInt16.toUInt32.toInt32)), .val (.int ((((((p2.toUInt32 >>> ((16 : Int32) &&& 31).toUInt32).toInt32) &&& (255 : Int32)).toUInt32.toUInt16.toUInt32.toInt32) ^^^ r14).toUInt32.toUInt16.toUInt32.toInt32)), .val (.ref ta), .val (.ref sa), .val (.ref b18), .unset] [(.int ((((p2.toUInt32 >>> ((16 : Int32) &&& 31).toUInt32).toInt32) &&& (255 : Int32)).toUInt32.toUInt16.toUInt32.toInt32)), (.int ((((((p2.toUInt32 >>> ((16 : Int32) &&& 31).toUInt32).toInt32) &&& (255 : Int32)).toUInt32.toUInt16.toUInt32.toInt32) ^^^ r14).toUInt32.toUInt16.toUInt32.toInt32))])) _
                    refine XS.icmpNo X22.here hx rfl (hb hby at_252) rfl (teq hc252_40).2 ?_
                    refine XS.iconst X22.here hx rfl (hb hby at_255) ?_
                    refine XS.goto X22.here hx rfl (pc0 := 256) (pc' := 260) rfl (hb hby at_256) (by decide) (by decide) ?_
                    subst hr41
                    exact kz
                  · rw [if_neg hc252_40] at hr41
                    show Steps p.tables e below (T22.setTop (mkF m 252 #[.val (.int p1), .val (.int p2), .val (.int p3), .val (.int p4), .val (.int p5), .val (.int p6), .val (.int ((p1 &&& (2147483647 : Int32)) % (6 : Int32))), .val (.int (p4 &&& (3 : Int32))), .val (.int r2), .val (.int r5), .val (.int ((p2 &&& (255 : Int32)).toUInt32.toUInt16.toUInt32.toInt32)), .val (.int ((((p2.toUInt32 >>> ((8 : Int32) &&& 31).toUInt32).toInt32) &&& (255 : Int32)).toUInt32.toUInt16.toUInt32.toInt32)), .val (.int ((((p2.toUInt32 >>> ((16 : Int32) &&& 31).toUInt32).toInt32) &&& (255 : Int32)).toUInt32.toUInt16.toUInt32.toInt32)), .val (.int r8), .val (.int r11), .val (.int r14), .val (.int ((((p2 &&& (255 : Int32)).toUInt32.toUInt16.toUInt32.toInt32) ^^^ r8).toUInt32.toUInt16.toUInt32.toInt32)), .val (.int ((((((p2.toUInt32 >>> ((8 : Int32) &&& 31).toUInt32).toInt32) &&& (255 : Int32)).toUInt32.toUInt16.toUInt32.toInt32) ^^^ r11).toUInt32.toUInt16.toUInt32.toInt32)), .val (.int ((((((p2.toUInt32 >>> ((16 : Int32) &&& 31).toUInt32).toInt32) &&& (255 : Int32)).toUInt32.toUInt16.toUInt32.toInt32) ^^^ r14).toUInt32.toUInt16.toUInt32.toInt32)), .val (.ref ta), .val (.ref sa), .val (.ref b18), .unset] [(.int ((((p2.toUInt32 >>> ((16 : Int32) &&& 31).toUInt32).toInt32) &&& (255 : Int32)).toUInt32.toUInt16.toUInt32.toInt32)), (.int ((((((p2.toUInt32 >>> ((16 : Int32) &&& 31).toUInt32).toInt32) &&& (255 : Int32)).toUInt32.toUInt16.toUInt32.toInt32) ^^^ r14).toUInt32.toUInt16.toUInt32.toInt32))])) _
                    refine XS.icmpYes X22.here hx rfl (pc0 := 252) (pc' := 259) rfl (hb hby at_252) rfl (feq hc252_40).2 (by decide) (by decide) ?_
                    refine XS.iconst X22.here hx rfl (hb hby at_259) ?_
                    subst hr41
                    exact kz
              · rw [if_neg hc239_38] at hr41
                show Steps p.tables e below (T22.setTop (mkF m 239 #[.val (.int p1), .val (.int p2), .val (.int p3), .val (.int p4), .val (.int p5), .val (.int p6), .val (.int ((p1 &&& (2147483647 : Int32)) % (6 : Int32))), .val (.int (p4 &&& (3 : Int32))), .val (.int r2), .val (.int r5), .val (.int ((p2 &&& (255 : Int32)).toUInt32.toUInt16.toUInt32.toInt32)), .val (.int ((((p2.toUInt32 >>> ((8 : Int32) &&& 31).toUInt32).toInt32) &&& (255 : Int32)).toUInt32.toUInt16.toUInt32.toInt32)), .val (.int ((((p2.toUInt32 >>> ((16 : Int32) &&& 31).toUInt32).toInt32) &&& (255 : Int32)).toUInt32.toUInt16.toUInt32.toInt32)), .val (.int r8), .val (.int r11), .val (.int r14), .val (.int ((((p2 &&& (255 : Int32)).toUInt32.toUInt16.toUInt32.toInt32) ^^^ r8).toUInt32.toUInt16.toUInt32.toInt32)), .val (.int ((((((p2.toUInt32 >>> ((8 : Int32) &&& 31).toUInt32).toInt32) &&& (255 : Int32)).toUInt32.toUInt16.toUInt32.toInt32) ^^^ r11).toUInt32.toUInt16.toUInt32.toInt32)), .val (.int ((((((p2.toUInt32 >>> ((16 : Int32) &&& 31).toUInt32).toInt32) &&& (255 : Int32)).toUInt32.toUInt16.toUInt32.toInt32) ^^^ r14).toUInt32.toUInt16.toUInt32.toInt32)), .val (.ref ta), .val (.ref sa), .val (.ref b18), .unset] [(.int ((((p2.toUInt32 >>> ((8 : Int32) &&& 31).toUInt32).toInt32) &&& (255 : Int32)).toUInt32.toUInt16.toUInt32.toInt32)), (.int ((((((p2.toUInt32 >>> ((8 : Int32) &&& 31).toUInt32).toInt32) &&& (255 : Int32)).toUInt32.toUInt16.toUInt32.toInt32) ^^^ r11).toUInt32.toUInt16.toUInt32.toInt32))])) _
                refine XS.icmpYes X22.here hx rfl (pc0 := 239) (pc' := 259) rfl (hb hby at_239) rfl (feq hc239_38).2 (by decide) (by decide) ?_
                refine XS.iconst X22.here hx rfl (hb hby at_259) ?_
                subst hr41
                exact kz
          · rw [if_neg hc226_34] at hr41
            show Steps p.tables e below (T22.setTop (mkF m 226 #[.val (.int p1), .val (.int p2), .val (.int p3), .val (.int p4), .val (.int p5), .val (.int p6), .val (.int ((p1 &&& (2147483647 : Int32)) % (6 : Int32))), .val (.int (p4 &&& (3 : Int32))), .val (.int r2), .val (.int r5), .val (.int ((p2 &&& (255 : Int32)).toUInt32.toUInt16.toUInt32.toInt32)), .val (.int ((((p2.toUInt32 >>> ((8 : Int32) &&& 31).toUInt32).toInt32) &&& (255 : Int32)).toUInt32.toUInt16.toUInt32.toInt32)), .val (.int ((((p2.toUInt32 >>> ((16 : Int32) &&& 31).toUInt32).toInt32) &&& (255 : Int32)).toUInt32.toUInt16.toUInt32.toInt32)), .val (.int r8), .val (.int r11), .val (.int r14), .val (.int ((((p2 &&& (255 : Int32)).toUInt32.toUInt16.toUInt32.toInt32) ^^^ r8).toUInt32.toUInt16.toUInt32.toInt32)), .val (.int ((((((p2.toUInt32 >>> ((8 : Int32) &&& 31).toUInt32).toInt32) &&& (255 : Int32)).toUInt32.toUInt16.toUInt32.toInt32) ^^^ r11).toUInt32.toUInt16.toUInt32.toInt32)), .val (.int ((((((p2.toUInt32 >>> ((16 : Int32) &&& 31).toUInt32).toInt32) &&& (255 : Int32)).toUInt32.toUInt16.toUInt32.toInt32) ^^^ r14).toUInt32.toUInt16.toUInt32.toInt32)), .val (.ref ta), .val (.ref sa), .val (.ref b18), .unset] [(.int ((p2 &&& (255 : Int32)).toUInt32.toUInt16.toUInt32.toInt32)), (.int ((((p2 &&& (255 : Int32)).toUInt32.toUInt16.toUInt32.toInt32) ^^^ r8).toUInt32.toUInt16.toUInt32.toInt32))])) _
            refine XS.icmpYes X22.here hx rfl (pc0 := 226) (pc' := 259) rfl (hb hby at_226) rfl (feq hc226_34).2 (by decide) (by decide) ?_
            refine XS.iconst X22.here hx rfl (hb hby at_259) ?_
            subst hr41
            exact kz
      · rw [if_neg hc213_26] at hr41
        show Steps p.tables e below (T22.setTop (mkF m 213 #[.val (.int p1), .val (.int p2), .val (.int p3), .val (.int p4), .val (.int p5), .val (.int p6), .val (.int ((p1 &&& (2147483647 : Int32)) % (6 : Int32))), .val (.int (p4 &&& (3 : Int32))), .val (.int r2), .val (.int r5), .val (.int ((p2 &&& (255 : Int32)).toUInt32.toUInt16.toUInt32.toInt32)), .val (.int ((((p2.toUInt32 >>> ((8 : Int32) &&& 31).toUInt32).toInt32) &&& (255 : Int32)).toUInt32.toUInt16.toUInt32.toInt32)), .val (.int ((((p2.toUInt32 >>> ((16 : Int32) &&& 31).toUInt32).toInt32) &&& (255 : Int32)).toUInt32.toUInt16.toUInt32.toInt32)), .val (.int r8), .val (.int r11), .val (.int r14), .val (.int ((((p2 &&& (255 : Int32)).toUInt32.toUInt16.toUInt32.toInt32) ^^^ r8).toUInt32.toUInt16.toUInt32.toInt32)), .val (.int ((((((p2.toUInt32 >>> ((8 : Int32) &&& 31).toUInt32).toInt32) &&& (255 : Int32)).toUInt32.toUInt16.toUInt32.toInt32) ^^^ r11).toUInt32.toUInt16.toUInt32.toInt32)), .val (.int ((((((p2.toUInt32 >>> ((16 : Int32) &&& 31).toUInt32).toInt32) &&& (255 : Int32)).toUInt32.toUInt16.toUInt32.toInt32) ^^^ r14).toUInt32.toUInt16.toUInt32.toInt32)), .val (.ref ta), .val (.ref sa), .val (.ref b18), .unset] [(.int r2), (.int (p4 &&& (3 : Int32)))])) _
        refine XS.icmpYes X22.here hx rfl (pc0 := 213) (pc' := 259) rfl (hb hby at_213) rfl (feq hc213_26).2 (by decide) (by decide) ?_
        refine XS.iconst X22.here hx rfl (hb hby at_259) ?_
        subst hr41
        exact kz
    · rw [if_neg hc206_25] at hr41
      show Steps p.tables e below (T22.setTop (mkF m 206 #[.val (.int p1), .val (.int p2), .val (.int p3), .val (.int p4), .val (.int p5), .val (.int p6), .val (.int ((p1 &&& (2147483647 : Int32)) % (6 : Int32))), .val (.int (p4 &&& (3 : Int32))), .val (.int r2), .val (.int r5), .val (.int ((p2 &&& (255 : Int32)).toUInt32.toUInt16.toUInt32.toInt32)), .val (.int ((((p2.toUInt32 >>> ((8 : Int32) &&& 31).toUInt32).toInt32) &&& (255 : Int32)).toUInt32.toUInt16.toUInt32.toInt32)), .val (.int ((((p2.toUInt32 >>> ((16 : Int32) &&& 31).toUInt32).toInt32) &&& (255 : Int32)).toUInt32.toUInt16.toUInt32.toInt32)), .val (.int r8), .val (.int r11), .val (.int r14), .val (.int ((((p2 &&& (255 : Int32)).toUInt32.toUInt16.toUInt32.toInt32) ^^^ r8).toUInt32.toUInt16.toUInt32.toInt32)), .val (.int ((((((p2.toUInt32 >>> ((8 : Int32) &&& 31).toUInt32).toInt32) &&& (255 : Int32)).toUInt32.toUInt16.toUInt32.toInt32) ^^^ r11).toUInt32.toUInt16.toUInt32.toInt32)), .val (.int ((((((p2.toUInt32 >>> ((16 : Int32) &&& 31).toUInt32).toInt32) &&& (255 : Int32)).toUInt32.toUInt16.toUInt32.toInt32) ^^^ r14).toUInt32.toUInt16.toUInt32.toInt32)), .val (.ref ta), .val (.ref sa), .val (.ref b18), .unset] [(.int (2 : Int32)), (.int ((p1 &&& (2147483647 : Int32)) % (6 : Int32)))])) _
      refine XS.icmpYes X22.here hx rfl (pc0 := 206) (pc' := 259) rfl (hb hby at_206) rfl (feq hc206_25).2 (by decide) (by decide) ?_
      refine XS.iconst X22.here hx rfl (hb hby at_259) ?_
      subst hr41
      exact kz
  refine Goes.via j206_42 ?_
  refine Goes.via (S' := T22.setTop (mkF m 266 #[.val (.int p1), .val (.int p2), .val (.int p3), .val (.int p4), .val (.int p5), .val (.int p6), .val (.int ((p1 &&& (2147483647 : Int32)) % (6 : Int32))), .val (.int (p4 &&& (3 : Int32))), .val (.int r2), .val (.int r5), .val (.int ((p2 &&& (255 : Int32)).toUInt32.toUInt16.toUInt32.toInt32)), .val (.int ((((p2.toUInt32 >>> ((8 : Int32) &&& 31).toUInt32).toInt32) &&& (255 : Int32)).toUInt32.toUInt16.toUInt32.toInt32)), .val (.int ((((p2.toUInt32 >>> ((16 : Int32) &&& 31).toUInt32).toInt32) &&& (255 : Int32)).toUInt32.toUInt16.toUInt32.toInt32)), .val (.int r8), .val (.int r11), .val (.int r14), .val (.int ((((p2 &&& (255 : Int32)).toUInt32.toUInt16.toUInt32.toInt32) ^^^ r8).toUInt32.toUInt16.toUInt32.toInt32)), .val (.int ((((((p2.toUInt32 >>> ((8 : Int32) &&& 31).toUInt32).toInt32) &&& (255 : Int32)).toUInt32.toUInt16.toUInt32.toInt32) ^^^ r11).toUInt32.toUInt16.toUInt32.toInt32)), .val (.int ((((((p2.toUInt32 >>> ((16 : Int32) &&& 31).toUInt32).toInt32) &&& (255 : Int32)).toUInt32.toUInt16.toUInt32.toInt32) ^^^ r14).toUInt32.toUInt16.toUInt32.toInt32)), .val (.ref ta), .val (.ref sa), .val (.ref b18), .val (.int r41)] [(.ref sa), (.ref b18)])) (fun tz kz => ?_) ?_
  · show Steps p.tables e below (T22.setTop (mkF m 260 #[.val (.int p1), .val (.int p2), .val (.int p3), .val (.int p4), .val (.int p5), .val (.int p6), .val (.int ((p1 &&& (2147483647 : Int32)) % (6 : Int32))), .val (.int (p4 &&& (3 : Int32))), .val (.int r2), .val (.int r5), .val (.int ((p2 &&& (255 : Int32)).toUInt32.toUInt16.toUInt32.toInt32)), .val (.int ((((p2.toUInt32 >>> ((8 : Int32) &&& 31).toUInt32).toInt32) &&& (255 : Int32)).toUInt32.toUInt16.toUInt32.toInt32)), .val (.int ((((p2.toUInt32 >>> ((16 : Int32) &&& 31).toUInt32).toInt32) &&& (255 : Int32)).toUInt32.toUInt16.toUInt32.toInt32)), .val (.int r8), .val (.int r11), .val (.int r14), .val (.int ((((p2 &&& (255 : Int32)).toUInt32.toUInt16.toUInt32.toInt32) ^^^ r8).toUInt32.toUInt16.toUInt32.toInt32)), .val (.int ((((((p2.toUInt32 >>> ((8 : Int32) &&& 31).toUInt32).toInt32) &&& (255 : Int32)).toUInt32.toUInt16.toUInt32.toInt32) ^^^ r11).toUInt32.toUInt16.toUInt32.toInt32)), .val (.int ((((((p2.toUInt32 >>> ((16 : Int32) &&& 31).toUInt32).toInt32) &&& (255 : Int32)).toUInt32.toUInt16.toUInt32.toInt32) ^^^ r14).toUInt32.toUInt16.toUInt32.toInt32)), .val (.ref ta), .val (.ref sa), .val (.ref b18), .unset] [(.int r41)])) _
    refine XS.istore X22.here hx rfl (hb hby at_260) rfl (l' := #[.val (.int p1), .val (.int p2), .val (.int p3), .val (.int p4), .val (.int p5), .val (.int p6), .val (.int ((p1 &&& (2147483647 : Int32)) % (6 : Int32))), .val (.int (p4 &&& (3 : Int32))), .val (.int r2), .val (.int r5), .val (.int ((p2 &&& (255 : Int32)).toUInt32.toUInt16.toUInt32.toInt32)), .val (.int ((((p2.toUInt32 >>> ((8 : Int32) &&& 31).toUInt32).toInt32) &&& (255 : Int32)).toUInt32.toUInt16.toUInt32.toInt32)), .val (.int ((((p2.toUInt32 >>> ((16 : Int32) &&& 31).toUInt32).toInt32) &&& (255 : Int32)).toUInt32.toUInt16.toUInt32.toInt32)), .val (.int r8), .val (.int r11), .val (.int r14), .val (.int ((((p2 &&& (255 : Int32)).toUInt32.toUInt16.toUInt32.toInt32) ^^^ r8).toUInt32.toUInt16.toUInt32.toInt32)), .val (.int ((((((p2.toUInt32 >>> ((8 : Int32) &&& 31).toUInt32).toInt32) &&& (255 : Int32)).toUInt32.toUInt16.toUInt32.toInt32) ^^^ r11).toUInt32.toUInt16.toUInt32.toInt32)), .val (.int ((((((p2.toUInt32 >>> ((16 : Int32) &&& 31).toUInt32).toInt32) &&& (255 : Int32)).toUInt32.toUInt16.toUInt32.toInt32) ^^^ r14).toUInt32.toUInt16.toUInt32.toInt32)), .val (.ref ta), .val (.ref sa), .val (.ref b18), .val (.int r41)]) rfl ?_
    refine XS.aload X22.here hx rfl (hb hby at_262) rfl rfl ?_
    refine XS.aload X22.here hx rfl (hb hby at_264) rfl rfl ?_
    exact kz
  obtain ⟨cq43, kq43, q43a, q43b, q43c⟩ := isOf hZ rfl Et
  obtain ⟨_, _, ⟨T43, L43, k43, n43⟩, -, X43, ⟨Lc43, hQ43, l43, y43, z43⟩, st43⟩ := X22.virtualBack hx (y := (⟨"com/example/loopwright/loopwright/Lexer$Token", "is", "(Ljava/lang/String;)Z"⟩ : MethodName)) (z := (⟨"com/example/loopwright/loopwright/Lexer$Token", "is", "(Ljava/lang/String;)Z"⟩ : MethodName)) hown (mvT hZ (w_ hw 61 rfl)) (mvT hZ (w_ hw 62 rfl)) (notFace_of_selects (args := #[]) (mvT hZ (w_ hw 64 rfl))) (mvT hZ (w_ hw 64 rfl)) (mvT hZ (w_ hw 63 rfl)) (by decide) (backOf (W := 0) (rm11 l Z a0 hw [] b18 sa (own_pk b0 b1 b2 b3 b4 b5 ((p1 &&& (2147483647 : Int32)) % (6 : Int32))) b2 ta tb sb tk sk cs (p4 &&& (3 : Int32)) ((p2 &&& (255 : Int32)).toUInt32.toUInt16.toUInt32.toInt32) ((((p2.toUInt32 >>> ((8 : Int32) &&& 31).toUInt32).toInt32) &&& (255 : Int32)).toUInt32.toUInt16.toUInt32.toInt32) ((((p2.toUInt32 >>> ((16 : Int32) &&& 31).toUInt32).toInt32) &&& (255 : Int32)).toUInt32.toUInt16.toUInt32.toInt32) r2 ((((p2 &&& (255 : Int32)).toUInt32.toUInt16.toUInt32.toInt32) ^^^ r8).toUInt32.toUInt16.toUInt32.toInt32) ((((((p2.toUInt32 >>> ((8 : Int32) &&& 31).toUInt32).toInt32) &&& (255 : Int32)).toUInt32.toUInt16.toUInt32.toInt32) ^^^ r11).toUInt32.toUInt16.toUInt32.toInt32) ((((((p2.toUInt32 >>> ((16 : Int32) &&& 31).toUInt32).toInt32) &&& (255 : Int32)).toUInt32.toUInt16.toUInt32.toInt32) ^^^ r14).toUInt32.toUInt16.toUInt32.toInt32) T22.heap n0 Z4 Et Fk Fx S2 (own_and4 _) h4 SC hcs O4 ST4 SY4 nts) hZ (w_ hw 65 rfl) (w_ hw 37 rfl) (by decide) (by decide)) q43a q43c (g := (mkF m 266 #[.val (.int p1), .val (.int p2), .val (.int p3), .val (.int p4), .val (.int p5), .val (.int p6), .val (.int ((p1 &&& (2147483647 : Int32)) % (6 : Int32))), .val (.int (p4 &&& (3 : Int32))), .val (.int r2), .val (.int r5), .val (.int ((p2 &&& (255 : Int32)).toUInt32.toUInt16.toUInt32.toInt32)), .val (.int ((((p2.toUInt32 >>> ((8 : Int32) &&& 31).toUInt32).toInt32) &&& (255 : Int32)).toUInt32.toUInt16.toUInt32.toInt32)), .val (.int ((((p2.toUInt32 >>> ((16 : Int32) &&& 31).toUInt32).toInt32) &&& (255 : Int32)).toUInt32.toUInt16.toUInt32.toInt32)), .val (.int r8), .val (.int r11), .val (.int r14), .val (.int ((((p2 &&& (255 : Int32)).toUInt32.toUInt16.toUInt32.toInt32) ^^^ r8).toUInt32.toUInt16.toUInt32.toInt32)), .val (.int ((((((p2.toUInt32 >>> ((8 : Int32) &&& 31).toUInt32).toInt32) &&& (255 : Int32)).toUInt32.toUInt16.toUInt32.toInt32) ^^^ r11).toUInt32.toUInt16.toUInt32.toInt32)), .val (.int ((((((p2.toUInt32 >>> ((16 : Int32) &&& 31).toUInt32).toInt32) &&& (255 : Int32)).toUInt32.toUInt16.toUInt32.toInt32) ^^^ r14).toUInt32.toUInt16.toUInt32.toInt32)), .val (.ref ta), .val (.ref sa), .val (.ref b18), .val (.int r41)] [(.ref sa), (.ref b18)])) rfl (by rw [hml]; rfl) (Steps.refl _) (argsL := [(.ref sa)]) (rest := []) (lenOf pd_11 rfl) rfl (by show 2 * 0 + _ ≤ _; exact Nat.le_of_eq rfl) (hb hby at_266) (fun _ _ => ⟨rfl, rfl, (by decide : 9 + 0 ≤ _), (by decide : 36 + 0 ≤ _)⟩)
  dsimp only [Pt.U, Pt.locs, Pt.cells, Pt.slots] at X43 l43 y43 z43 st43 hQ43
  subst l43 y43 z43
  obtain ⟨rfl, N43, e43⟩ := hQ43
  have Nf43 := Fr.app Nf22 N43
  refine Goes.via (S' := T43.setTop (mkF m 269 #[.val (.int p1), .val (.int p2), .val (.int p3), .val (.int p4), .val (.int p5), .val (.int p6), .val (.int ((p1 &&& (2147483647 : Int32)) % (6 : Int32))), .val (.int (p4 &&& (3 : Int32))), .val (.int r2), .val (.int r5), .val (.int ((p2 &&& (255 : Int32)).toUInt32.toUInt16.toUInt32.toInt32)), .val (.int ((((p2.toUInt32 >>> ((8 : Int32) &&& 31).toUInt32).toInt32) &&& (255 : Int32)).toUInt32.toUInt16.toUInt32.toInt32)), .val (.int ((((p2.toUInt32 >>> ((16 : Int32) &&& 31).toUInt32).toInt32) &&& (255 : Int32)).toUInt32.toUInt16.toUInt32.toInt32)), .val (.int r8), .val (.int r11), .val (.int r14), .val (.int ((((p2 &&& (255 : Int32)).toUInt32.toUInt16.toUInt32.toInt32) ^^^ r8).toUInt32.toUInt16.toUInt32.toInt32)), .val (.int ((((((p2.toUInt32 >>> ((8 : Int32) &&& 31).toUInt32).toInt32) &&& (255 : Int32)).toUInt32.toUInt16.toUInt32.toInt32) ^^^ r11).toUInt32.toUInt16.toUInt32.toInt32)), .val (.int ((((((p2.toUInt32 >>> ((16 : Int32) &&& 31).toUInt32).toInt32) &&& (255 : Int32)).toUInt32.toUInt16.toUInt32.toInt32) ^^^ r14).toUInt32.toUInt16.toUInt32.toInt32)), .val (.ref ta), .val (.ref sa), .val (.ref b18), .val (.int r41)] [(.int (own_is (own_pk b0 b1 b2 b3 b4 b5 ((p1 &&& (2147483647 : Int32)) % (6 : Int32))) b2 (own_ls (p4 &&& (3 : Int32)) ((p2 &&& (255 : Int32)).toUInt32.toUInt16.toUInt32.toInt32) ((((p2.toUInt32 >>> ((8 : Int32) &&& 31).toUInt32).toInt32) &&& (255 : Int32)).toUInt32.toUInt16.toUInt32.toInt32) ((((p2.toUInt32 >>> ((16 : Int32) &&& 31).toUInt32).toInt32) &&& (255 : Int32)).toUInt32.toUInt16.toUInt32.toInt32)) (own_ls r2 ((((p2 &&& (255 : Int32)).toUInt32.toUInt16.toUInt32.toInt32) ^^^ r8).toUInt32.toUInt16.toUInt32.toInt32) ((((((p2.toUInt32 >>> ((8 : Int32) &&& 31).toUInt32).toInt32) &&& (255 : Int32)).toUInt32.toUInt16.toUInt32.toInt32) ^^^ r11).toUInt32.toUInt16.toUInt32.toInt32) ((((((p2.toUInt32 >>> ((16 : Int32) &&& 31).toUInt32).toInt32) &&& (255 : Int32)).toUInt32.toUInt16.toUInt32.toInt32) ^^^ r14).toUInt32.toUInt16.toUInt32.toInt32))))])) (fun _ kz => st43.trans kz) ?_
  refine Goes.via (S' := T43.setTop (mkF m 279 #[.val (.int p1), .val (.int p2), .val (.int p3), .val (.int p4), .val (.int p5), .val (.int p6), .val (.int ((p1 &&& (2147483647 : Int32)) % (6 : Int32))), .val (.int (p4 &&& (3 : Int32))), .val (.int r2), .val (.int r5), .val (.int ((p2 &&& (255 : Int32)).toUInt32.toUInt16.toUInt32.toInt32)), .val (.int ((((p2.toUInt32 >>> ((8 : Int32) &&& 31).toUInt32).toInt32) &&& (255 : Int32)).toUInt32.toUInt16.toUInt32.toInt32)), .val (.int ((((p2.toUInt32 >>> ((16 : Int32) &&& 31).toUInt32).toInt32) &&& (255 : Int32)).toUInt32.toUInt16.toUInt32.toInt32)), .val (.int r8), .val (.int r11), .val (.int r14), .val (.int ((((p2 &&& (255 : Int32)).toUInt32.toUInt16.toUInt32.toInt32) ^^^ r8).toUInt32.toUInt16.toUInt32.toInt32)), .val (.int ((((((p2.toUInt32 >>> ((8 : Int32) &&& 31).toUInt32).toInt32) &&& (255 : Int32)).toUInt32.toUInt16.toUInt32.toInt32) ^^^ r11).toUInt32.toUInt16.toUInt32.toInt32)), .val (.int ((((((p2.toUInt32 >>> ((16 : Int32) &&& 31).toUInt32).toInt32) &&& (255 : Int32)).toUInt32.toUInt16.toUInt32.toInt32) ^^^ r14).toUInt32.toUInt16.toUInt32.toInt32)), .val (.ref ta), .val (.ref sa), .val (.ref b18), .val (.int r41)] [(.int (1 : Int32))])) (fun tz kz => ?_) ?_
  · show Steps p.tables e below (T43.setTop (mkF m 269 #[.val (.int p1), .val (.int p2), .val (.int p3), .val (.int p4), .val (.int p5), .val (.int p6), .val (.int ((p1 &&& (2147483647 : Int32)) % (6 : Int32))), .val (.int (p4 &&& (3 : Int32))), .val (.int r2), .val (.int r5), .val (.int ((p2 &&& (255 : Int32)).toUInt32.toUInt16.toUInt32.toInt32)), .val (.int ((((p2.toUInt32 >>> ((8 : Int32) &&& 31).toUInt32).toInt32) &&& (255 : Int32)).toUInt32.toUInt16.toUInt32.toInt32)), .val (.int ((((p2.toUInt32 >>> ((16 : Int32) &&& 31).toUInt32).toInt32) &&& (255 : Int32)).toUInt32.toUInt16.toUInt32.toInt32)), .val (.int r8), .val (.int r11), .val (.int r14), .val (.int ((((p2 &&& (255 : Int32)).toUInt32.toUInt16.toUInt32.toInt32) ^^^ r8).toUInt32.toUInt16.toUInt32.toInt32)), .val (.int ((((((p2.toUInt32 >>> ((8 : Int32) &&& 31).toUInt32).toInt32) &&& (255 : Int32)).toUInt32.toUInt16.toUInt32.toInt32) ^^^ r11).toUInt32.toUInt16.toUInt32.toInt32)), .val (.int ((((((p2.toUInt32 >>> ((16 : Int32) &&& 31).toUInt32).toInt32) &&& (255 : Int32)).toUInt32.toUInt16.toUInt32.toInt32) ^^^ r14).toUInt32.toUInt16.toUInt32.toInt32)), .val (.ref ta), .val (.ref sa), .val (.ref b18), .val (.int r41)] [(.int (own_is (own_pk b0 b1 b2 b3 b4 b5 ((p1 &&& (2147483647 : Int32)) % (6 : Int32))) b2 (own_ls (p4 &&& (3 : Int32)) ((p2 &&& (255 : Int32)).toUInt32.toUInt16.toUInt32.toInt32) ((((p2.toUInt32 >>> ((8 : Int32) &&& 31).toUInt32).toInt32) &&& (255 : Int32)).toUInt32.toUInt16.toUInt32.toInt32) ((((p2.toUInt32 >>> ((16 : Int32) &&& 31).toUInt32).toInt32) &&& (255 : Int32)).toUInt32.toUInt16.toUInt32.toInt32)) (own_ls r2 ((((p2 &&& (255 : Int32)).toUInt32.toUInt16.toUInt32.toInt32) ^^^ r8).toUInt32.toUInt16.toUInt32.toInt32) ((((((p2.toUInt32 >>> ((8 : Int32) &&& 31).toUInt32).toInt32) &&& (255 : Int32)).toUInt32.toUInt16.toUInt32.toInt32) ^^^ r11).toUInt32.toUInt16.toUInt32.toInt32) ((((((p2.toUInt32 >>> ((16 : Int32) &&& 31).toUInt32).toInt32) &&& (255 : Int32)).toUInt32.toUInt16.toUInt32.toInt32) ^^^ r14).toUInt32.toUInt16.toUInt32.toInt32))))])) _
    refine XS.iload X43.here hx rfl (hb hby at_269) rfl ?_
    refine XS.icmpNo X43.here hx rfl (hb hby at_271) rfl (teq ((own_isx d0 d1 d3 d4 d5 _ _ _ _ _ _ _ _ ).trans ((own_nest ((p1 &&& (2147483647 : Int32)) % (6 : Int32)) (p4 &&& (3 : Int32)) r2 ((p2 &&& (255 : Int32)).toUInt32.toUInt16.toUInt32.toInt32) ((((p2.toUInt32 >>> ((8 : Int32) &&& 31).toUInt32).toInt32) &&& (255 : Int32)).toUInt32.toUInt16.toUInt32.toInt32) ((((p2.toUInt32 >>> ((16 : Int32) &&& 31).toUInt32).toInt32) &&& (255 : Int32)).toUInt32.toUInt16.toUInt32.toInt32) ((((p2 &&& (255 : Int32)).toUInt32.toUInt16.toUInt32.toInt32) ^^^ r8).toUInt32.toUInt16.toUInt32.toInt32) ((((((p2.toUInt32 >>> ((8 : Int32) &&& 31).toUInt32).toInt32) &&& (255 : Int32)).toUInt32.toUInt16.toUInt32.toInt32) ^^^ r11).toUInt32.toUInt16.toUInt32.toInt32) ((((((p2.toUInt32 >>> ((16 : Int32) &&& 31).toUInt32).toInt32) &&& (255 : Int32)).toUInt32.toUInt16.toUInt32.toInt32) ^^^ r14).toUInt32.toUInt16.toUInt32.toInt32) (own_and4 _) h4 ut0 ut1 ut2 us0 us1 us2).symm.trans hr41.symm))).2 ?_
    refine XS.iconst X43.here hx rfl (hb hby at_274) ?_
    refine XS.goto X43.here hx rfl (pc0 := 275) (pc' := 279) rfl (hb hby at_275) (by decide) (by decide) ?_
    exact kz
  exact Goes.retNH (s := s) (vm1 := T17.vm) X43 hx Bd.notSynchronized hS17 hk24 e43 hZ hEL hC23 (t := .boolean) Bd.returns (by simp) (hb hby at_279) (Nat.le_of_ble_eq_true rfl) (Nat.le_of_ble_eq_true rfl) ⟨rfl, Nf43⟩
theorem own_cs {args : Array Value} {s : State} {t : Jvm.Term} {x : Int32} (ev : t.eval args s none [] s = some (.int x)) (h : (Jvm.Cond.not (Jvm.Cond.eq t (Jvm.Term.int 0))).value args s none s [] = some true) : ¬ x = (0 : Int32) := by
  rintro rfl
  have q := not_v h
  simp [Cond.value, ev, Term.int_eval] at q
set_option maxRecDepth 65536 in
set_option maxHeartbeats 40000000 in
theorem comes_1 {Post : Tables → Env → Array Value → State → Outcome → State → Prop} (hpost : ∀ tb e args s v u, (limb_1_1.after args s (.returned v) u = true ∧ limb_1_2.after args s (.returned v) u = true ∧ True) → ReturnedEndW s (.returned v) u (Jvm.fieldLocs frame_1_writes args s ++ Jvm.arrayLocs frame_1_arrays args s ++ Jvm.staticLocs frame_1_statics s) 24 1152 → Post tb e args s (.returned v) u) :
    ArmFor flags0 classFile x code maxLocals ret World_1 tables_1 room_1 Calls_1 rest_1 Pre_1 Post := by
  intro l hfl _ _ p e ha hc hk s m args below hf hA hF happ hP
  obtain ⟨hcalls, hrest, hpre⟩ := hP
  obtain ⟨-, -, -, hnamed, -, -, -, hat⟩ := (Spec.applies_iff hf).mp happ
  obtain ⟨hg, hn⟩ := and_e (Cond.before_iff.mp (show (Jvm.Cond.and given_1 narrow_1).before args s = true from hpre))
  obtain ⟨hcnt, gg0⟩ := and_e hg
  obtain ⟨ga0, gg1⟩ := and_e gg0
  obtain ⟨ga1, gg2⟩ := and_e gg1
  obtain ⟨ga2, gg3⟩ := and_e gg2
  obtain ⟨ga3, gg4⟩ := and_e gg3
  obtain ⟨ga4, gg5⟩ := and_e gg4
  obtain ⟨w0, w1, w2, w3, w4, w5, rfl⟩ : ∃ w0 w1 w2 w3 w4 w5 : Value, args = #[w0, w1, w2, w3, w4, w5] := by
    have hs : args.size = 6 := by simpa [Cond.value, given_1] using hcnt
    obtain ⟨L⟩ := args
    match L, hs with
    | [w0, w1, w2, w3, w4, w5], _ => exact ⟨w0, w1, w2, w3, w4, w5, rfl⟩
  have hw := fun d (hd : d ∈ tables_1) => atoms_spec (ws := Jvm.Cond.code x code maxLocals ret :: tables_1) hat d (List.mem_cons_of_mem _ hd)
  have hfit : Fit s := fun {y c} hc i hi => by
    obtain ⟨ha, rfl⟩ := Array.getElem?_eq_some_iff.mp hc
    have q := List.all_eq_true.mp ((Array.all_eq_true_iff_forall_mem.mp hF) _ (Array.getElem_mem ha)) i (List.mem_range.mpr hi)
    simpa [Array.getElem?_eq_getElem hi] using q
  obtain ⟨i0, ei0⟩ := is_v ga0
  obtain rfl : w0 = (.int i0) := Option.some.inj ei0
  obtain ⟨i1, ei1⟩ := is_v ga1
  obtain rfl : w1 = (.int i1) := Option.some.inj ei1
  obtain ⟨i2, ei2⟩ := is_v ga2
  obtain rfl : w2 = (.int i2) := Option.some.inj ei2
  obtain ⟨i3, ei3⟩ := is_v ga3
  obtain rfl : w3 = (.int i3) := Option.some.inj ei3
  obtain ⟨i4, ei4⟩ := is_v ga4
  obtain rfl : w4 = (.int i4) := Option.some.inj ei4
  obtain ⟨i5, ei5⟩ := is_v gg5
  obtain rfl : w5 = (.int i5) := Option.some.inj ei5
  obtain ⟨hsets, hown0⟩ := atoms_of _ (rest_1_c_eq ▸ (show rest_1_c.before _ s = true from hrest))
  obtain ⟨xe0, hn0⟩ := and_e hn
  obtain ⟨xe2, hn1⟩ := and_e hn0
  obtain ⟨xf0, hn2⟩ := and_e hn1
  obtain ⟨xf2, hn3⟩ := and_e hn2
  obtain ⟨xe4, hn4⟩ := and_e hn3
  obtain ⟨xf4, hn5⟩ := and_e hn4
  obtain ⟨xe3, hn6⟩ := and_e hn5
  obtain ⟨xf3, hn7⟩ := and_e hn6
  obtain ⟨xe1, hn8⟩ := and_e hn7
  obtain ⟨xf1, hn9⟩ := and_e hn8
  obtain ⟨xe5, hn10⟩ := and_e hn9
  have xf5 := hn10
  obtain ⟨b0, ev0, E0⟩ := exa_static xe0
  have S0 := Sta.start ev0 (Or.inr ⟨(w_ hw 42 rfl), (w_ hw 43 rfl)⟩)
  have F0 := fld_static ev0 xf0
  obtain ⟨b1, ev1, E1⟩ := exa_static xe1
  have S1 := Sta.start ev1 (Or.inr ⟨(w_ hw 42 rfl), (w_ hw 76 rfl)⟩)
  have F1 := fld_static ev1 xf1
  obtain ⟨b2, ev2, E2⟩ := exa_static xe2
  have S2 := Sta.start ev2 (Or.inr ⟨(w_ hw 42 rfl), (w_ hw 67 rfl)⟩)
  have F2 := fld_static ev2 xf2
  obtain ⟨b3, ev3, E3⟩ := exa_static xe3
  have S3 := Sta.start ev3 (Or.inr ⟨(w_ hw 42 rfl), (w_ hw 74 rfl)⟩)
  have F3 := fld_static ev3 xf3
  obtain ⟨b4, ev4, E4⟩ := exa_static xe4
  have S4 := Sta.start ev4 (Or.inr ⟨(w_ hw 42 rfl), (w_ hw 72 rfl)⟩)
  have F4 := fld_static ev4 xf4
  obtain ⟨b5, ev5, E5⟩ := exa_static xe5
  have S5 := Sta.start ev5 (Or.inr ⟨(w_ hw 42 rfl), (w_ hw 89 rfl)⟩)
  have F5 := fld_static ev5 xf5
  obtain ⟨cs, evc⟩ := is_v (Cond.before_iff.mp (hsets _ (List.mem_of_getElem? (i := 1) rfl)))
  have SC := Sta.start evc (Or.inl (hsets _ (List.mem_of_getElem? (i := 0) rfl)))
  have hcs : ¬ cs = (0 : Int32) := own_cs evc (Cond.before_iff.mp (hsets _ (List.mem_of_getElem? (i := 2) rfl)))
  have hCH := CHv.start (own_EW hw) (fun p hp => hcalls.1 p hp) (hsets _ (List.mem_of_getElem? (i := 2) rfl)) (w_ hw 24 rfl) (w_ hw 6 rfl)
  obtain ⟨n, o, h1, h2, h3, _, L, rfl, ⟨rfl, N⟩, -, hq⟩ := rm0 l s _ hw tables_1 i0 i1 i2 i3 i4 i5 b0 b1 b2 b3 b4 b5 cs s.heap s.heap.size (Nat.le_refl _) S0 S1 S2 S3 S4 S5 SC hcs (Old.start s) (F0.ne F2 (by decide)) (F1.ne F2 (by decide)) (F3.ne F2 (by decide)) (F4.ne F2 (by decide)) (F5.ne F2 (by decide)) p e ha hc hk s m _ below hf ((Spec.applies_iff_loose hf).mp happ).1 ⟨rfl, State.Warmed39.refl s, rfl, hCH⟩ trivial
  refine ⟨n, _, h1, h2, h3, hpost _ _ _ _ _ _ ⟨Cond.after_iff.mpr rfl, Cond.after_iff.mpr (eq_i res_at (Term.int_eval (1)) rfl), trivial⟩ ⟨hq.1, hq.2.1, hq.2.2.1, (hq.2.2.2.sift fun y hy => Or.inr (N y hy)).mono (by decide) (by decide)⟩⟩
theorem main_1_1 : Claimed_1_1 := comes_1 fun _ _ _ _ _ _ h hF => ⟨h.1, hF⟩
theorem main_1_2 : Claimed_1_2 := comes_1 fun _ _ _ _ _ _ h hF => ⟨h.2.1, hF⟩
end Jvm.Pilot.@@N@@
namespace Jvm.Pilot.@@N@@
open Jvm Jvm.ClassFile Sem Op Lib Jvm.Free Jvm.Stand Jvm.Pilot.@@N@@.Jvm.D
/-! MADE BY PROGRAM (witnessworld.py) out of the Statement's table words and the real class files: 23 classes; the members and pool entries that the words name. The judged class is class 1, her method 3. -/
namespace start1
open Jvm.ClassFile
def u (s : String) : CpInfo := .utf8 (stringToUtf16 s)
/-- a pool by its gaps: so many unusable entries, then the entry; so many at the end -/
def gap : Nat → List CpInfo → List CpInfo
  | 0, r => r
  | n + 1, r => .unusable :: gap n r
def poolList (es : List (Nat × CpInfo)) (last : Nat) : List CpInfo := es.foldr (fun e r => gap e.1 (e.2 :: r)) (gap last [])
def pool (es : List (Nat × CpInfo)) (last : Nat) : Array CpInfo := ⟨poolList es last⟩
def fileOf (pool : Array CpInfo) (this : Nat) (attrs : Array Attribute := #[]) (ms : Array MethodInfo := #[]) (fl : Nat := 33) (sup : Nat := 0) (ifs : Array Nat := #[]) (fds : Array FieldInfo := #[]) : ClassFile where
  minorVersion := 0
  majorVersion := 65
  constantPool := pool
  accessFlags := fl
  thisClass := this
  superClass := sup
  interfaces := ifs
  fields := fds
  methods := ms
  attributes := attrs
def plain (name : String) (sup : Option ClassId) : Class where
  name := name
  kind := .ordinary
  loader := none
  accessFlags := 33
  super := sup
  interfaces := #[]
  cf := none
  fields := #[]
  methods := #[]
  instanceTypes := #[]
  staticTypes := #[]
  resolved := #[]
  callSites := []
  init := .initialized
  statics := none
  mirror := none

def pool0 : Array CpInfo := pool [(5, u "<init>"), (0, u "()V"), (1, .class_ 10), (1, u "java/lang/Object")] 113

def k0c0 : Code := { maxStack := 0, maxLocals := 1, code := object_method_1_code, exceptionTable := #[], attributes := #[] }
def k0m0 : Method := { name := "<init>", desc := "()V", sig := { parameters := [], returnType := none }, accessFlags := 1, code := some k0c0 }
/-- java/lang/Object -/
def k0 : Class := { plain "java/lang/Object" none with
  accessFlags := 33
  interfaces := #[]
  cf := some (fileOf pool0 8 #[] #[{ accessFlags := 1, nameIndex := 5, descriptorIndex := 6, attributes := #[] }] 33 0 #[] #[])
  fields := #[]
  methods := #[k0m0]
  instanceTypes := #[]
  staticTypes := #[]
  resolved := Array.replicate 124 none
  statics := none }

def pool1 : Array CpInfo := pool [(2, .class_ 4), (1, u "java/lang/Object"), (0, u "<init>"), (0, u "()V"), (0, .fieldref 8 9), (0, .class_ 10), (0, .nameAndType 11 12), (0, u "com/example/loopwright/loopwright/Lexer$Kind"), (0, u "IDENTIFIER"), (0, u "Lcom/example/loopwright/loopwright/Lexer$Kind;"), (0, .fieldref 8 14), (0, .nameAndType 15 12), (0, u "NUMBER"), (0, .fieldref 8 17), (0, .nameAndType 18 12), (0, u "SYMBOL"), (0, .fieldref 8 20), (0, .nameAndType 21 12), (0, u "ANNOTATION"), (0, .fieldref 8 23), (0, .nameAndType 24 12), (0, u "ANNOTATION_END"), (0, .fieldref 8 26), (0, .nameAndType 27 12), (0, u "END"), (0, .class_ 29), (0, u "java/lang/String"), (0, .methodref 28 31), (0, .nameAndType 5 32), (0, u "([C)V"), (0, .integer 2147483647), (0, .methodref 35 36), (0, .class_ 37), (0, .nameAndType 38 39), (0, u "com/example/loopwright/loopwright/TokenIsPinLaw"), (0, u "str"), (0, u "(ICCC)Ljava/lang/String;"), (0, .class_ 41), (0, u "com/example/loopwright/loopwright/Lexer$Token"), (0, .methodref 35 43), (0, .nameAndType 44 45), (0, u "kindOf"), (0, u "(I)Lcom/example/loopwright/loopwright/Lexer$Kind;"), (0, .methodref 40 47), (0, .nameAndType 5 48), (0, u "(Lcom/example/loopwright/loopwright/Lexer$Kind;Ljava/lang/String;II)V"), (0, .methodref 40 50), (0, .nameAndType 51 52), (0, u "is"), (0, u "(Ljava/lang/String;)Z"), (3, u "law"), (0, u "(IIIIII)Z")] 7

def k1m0 : Method := { name := "<init>", desc := "()V", sig := { parameters := [], returnType := none }, accessFlags := 1, code := none }
def k1c1 : Code := { maxStack := 2, maxLocals := 1, code := method_2_code, exceptionTable := #[], attributes := #[] }
def k1m1 : Method := { name := "kindOf", desc := "(I)Lcom/example/loopwright/loopwright/Lexer$Kind;", sig := { parameters := [.int], returnType := some (.object "com/example/loopwright/loopwright/Lexer$Kind") }, accessFlags := 10, code := some k1c1 }
def k1c2 : Code := { maxStack := 6, maxLocals := 4, code := method_3_code, exceptionTable := #[], attributes := #[] }
def k1m2 : Method := { name := "str", desc := "(ICCC)Ljava/lang/String;", sig := { parameters := [.int, .char, .char, .char], returnType := some (.object "java/lang/String") }, accessFlags := 10, code := some k1c2 }
def k1c3 : Code := { maxStack := 6, maxLocals := 23, code := code, exceptionTable := #[], attributes := #[] }
def k1m3 : Method := { name := "law", desc := "(IIIIII)Z", sig := { parameters := [.int, .int, .int, .int, .int, .int], returnType := some .boolean }, accessFlags := 9, code := some k1c3 }
/-- com/example/loopwright/loopwright/TokenIsPinLaw -/
def k1 : Class := { plain "com/example/loopwright/loopwright/TokenIsPinLaw" (some 0) with
  accessFlags := 49
  interfaces := #[]
  cf := some (fileOf pool1 35 #[] #[{ accessFlags := 1, nameIndex := 5, descriptorIndex := 6, attributes := #[] }, { accessFlags := 10, nameIndex := 44, descriptorIndex := 45, attributes := #[] }, { accessFlags := 10, nameIndex := 38, descriptorIndex := 39, attributes := #[] }, { accessFlags := 9, nameIndex := 56, descriptorIndex := 57, attributes := #[] }] 49 2 #[] #[])
  fields := #[]
  methods := #[k1m0, k1m1, k1m2, k1m3]
  instanceTypes := #[]
  staticTypes := #[]
  resolved := Array.replicate 65 none
  statics := none }

def pool2 : Array CpInfo := pool [(1, .class_ 2), (0, u "java/io/Serializable"), (0, .class_ 4), (0, u "java/lang/Object")] 2

/-- java/io/Serializable -/
def k2 : Class := { plain "java/io/Serializable" (some 0) with
  accessFlags := 1537
  interfaces := #[]
  cf := some (fileOf pool2 1 #[] #[] 1537 3 #[] #[])
  fields := #[]
  methods := #[]
  instanceTypes := #[]
  staticTypes := #[]
  resolved := Array.replicate 7 none
  statics := none }

def pool3 : Array CpInfo := pool [(1, .class_ 2), (0, u "java/lang/Comparable"), (0, .class_ 4), (0, u "java/lang/Object")] 7

/-- java/lang/Comparable -/
def k3 : Class := { plain "java/lang/Comparable" (some 0) with
  accessFlags := 1537
  interfaces := #[]
  cf := some (fileOf pool3 1 #[] #[] 1537 3 #[] #[])
  fields := #[]
  methods := #[]
  instanceTypes := #[]
  staticTypes := #[]
  resolved := Array.replicate 12 none
  statics := none }

def pool4 : Array CpInfo := pool [(2, .class_ 4), (1, u "java/lang/CharSequence"), (42, .class_ 48), (0, u "java/lang/CharSequence$1CodePointIterator"), (10, .class_ 60), (0, u "java/lang/CharSequence$1CharIterator"), (5, .class_ 67), (0, u "java/lang/Object")] 63

/-- java/lang/CharSequence -/
def k4 : Class := { plain "java/lang/CharSequence" (some 0) with
  accessFlags := 1537
  interfaces := #[]
  cf := some (fileOf pool4 2 #[.nestMembers #[47, 59]] #[] 1537 66 #[] #[])
  fields := #[]
  methods := #[]
  instanceTypes := #[]
  staticTypes := #[]
  resolved := Array.replicate 131 none
  statics := none }

def pool5 : Array CpInfo := pool [(1, .class_ 2), (0, u "java/lang/constant/Constable"), (0, .class_ 4), (0, u "java/lang/Object")] 6

/-- java/lang/constant/Constable -/
def k5 : Class := { plain "java/lang/constant/Constable" (some 0) with
  accessFlags := 1537
  interfaces := #[]
  cf := some (fileOf pool5 1 #[] #[] 1537 3 #[] #[])
  fields := #[]
  methods := #[]
  instanceTypes := #[]
  staticTypes := #[]
  resolved := Array.replicate 11 none
  statics := none }

def pool6 : Array CpInfo := pool [(1, .class_ 2), (0, u "java/lang/constant/ConstantDesc"), (0, .class_ 4), (0, u "java/lang/Object")] 32

/-- java/lang/constant/ConstantDesc -/
def k6 : Class := { plain "java/lang/constant/ConstantDesc" (some 0) with
  accessFlags := 1537
  interfaces := #[]
  cf := some (fileOf pool6 1 #[] #[] 1537 3 #[] #[])
  fields := #[]
  methods := #[]
  instanceTypes := #[]
  staticTypes := #[]
  resolved := Array.replicate 37 none
  statics := none }

def pool7 : Array CpInfo := pool [(1, .methodref 2 3), (0, .class_ 4), (0, .nameAndType 5 6), (0, u "java/lang/Object"), (0, u "<init>"), (0, u "()V"), (0, .string 8), (0, u ""), (0, .fieldref 10 11), (0, .class_ 12), (0, .nameAndType 13 14), (0, u "java/lang/String"), (0, u "value"), (0, u "[B"), (0, .fieldref 10 16), (0, .nameAndType 17 18), (0, u "coder"), (0, u "B"), (2, u "hash"), (0, u "I"), (2, u "hashIsZero"), (0, u "Z"), (0, .methodref 10 28), (0, .nameAndType 5 29), (0, u "([CIILjava/lang/Void;)V"), (8, .fieldref 10 39), (0, .nameAndType 40 26), (0, u "COMPACT_STRINGS"), (1, .class_ 44), (1, u "java/lang/StringUTF16"), (0, u "compress"), (1, .methodref 42 48), (0, .nameAndType 49 50), (0, u "coderFromArrayLen"), (0, u "([BI)B"), (56, .class_ 109), (1, u "java/lang/StringLatin1"), (67, .methodref 42 178), (0, .nameAndType 45 179), (0, u "([CII)[B"), (361, .methodref 107 542), (0, .nameAndType 543 544), (0, u "equals"), (0, u "([B[B)Z"), (28, u "(Ljava/lang/Object;)Z"), (1, .class_ 576), (0, u "java/lang/CharSequence"), (22, u "CASE_INSENSITIVE_ORDER"), (0, u "Ljava/util/Comparator;"), (409, u "([C)V"), (90, u "serialPersistentFields"), (0, u "[Ljava/io/ObjectStreamField;"), (0, .class_ 1104), (0, u "java/lang/String$CaseInsensitiveComparator"), (1, .class_ 1107), (0, u "java/io/Serializable"), (0, .class_ 1109), (0, u "java/lang/Comparable"), (0, .class_ 1111), (0, u "java/lang/constant/Constable"), (0, .class_ 1113), (0, u "java/lang/constant/ConstantDesc"), (2, u "serialVersionUID"), (0, u "J"), (3, u "REPL"), (0, u "C"), (2, u "LATIN1"), (1, u "UTF16")] 323

def k7m0 : Method := { name := "<init>", desc := "()V", sig := { parameters := [], returnType := none }, accessFlags := 1, code := none }
def k7c1 : Code := { maxStack := 5, maxLocals := 2, code := jdk_42_method_3_code, exceptionTable := #[], attributes := #[] }
def k7m1 : Method := { name := "<init>", desc := "([C)V", sig := { parameters := [(.array .char)], returnType := none }, accessFlags := 1, code := some k7c1 }
def k7c2 : Code := { maxStack := 2, maxLocals := 3, code := jdk_42_method_66_code, exceptionTable := #[], attributes := #[] }
def k7m2 : Method := { name := "equals", desc := "(Ljava/lang/Object;)Z", sig := { parameters := [(.object "java/lang/Object")], returnType := some .boolean }, accessFlags := 1, code := some k7c2 }
def k7c3 : Code := { maxStack := 4, maxLocals := 6, code := jdk_42_method_149_code, exceptionTable := #[], attributes := #[] }
def k7m3 : Method := { name := "<init>", desc := "([CIILjava/lang/Void;)V", sig := { parameters := [(.array .char), .int, .int, (.object "java/lang/Void")], returnType := none }, accessFlags := 2, code := some k7c3 }
/-- java/lang/String -/
def k7 : Class := { plain "java/lang/String" (some 0) with
  accessFlags := 49
  interfaces := #[2, 3, 4, 5, 6]
  cf := some (fileOf pool7 10 #[.nestMembers #[1103]] #[{ accessFlags := 1, nameIndex := 5, descriptorIndex := 6, attributes := #[] }, { accessFlags := 1, nameIndex := 5, descriptorIndex := 1010, attributes := #[] }, { accessFlags := 1, nameIndex := 543, descriptorIndex := 573, attributes := #[] }, { accessFlags := 2, nameIndex := 5, descriptorIndex := 29, attributes := #[] }] 49 2 #[1106, 1108, 575, 1110, 1112] #[{ accessFlags := 18, nameIndex := 13, descriptorIndex := 14, attributes := #[] }, { accessFlags := 18, nameIndex := 17, descriptorIndex := 18, attributes := #[] }, { accessFlags := 2, nameIndex := 21, descriptorIndex := 22, attributes := #[] }, { accessFlags := 2, nameIndex := 25, descriptorIndex := 26, attributes := #[] }, { accessFlags := 26, nameIndex := 1116, descriptorIndex := 1117, attributes := #[] }, { accessFlags := 24, nameIndex := 40, descriptorIndex := 26, attributes := #[] }, { accessFlags := 26, nameIndex := 1101, descriptorIndex := 1102, attributes := #[] }, { accessFlags := 26, nameIndex := 1121, descriptorIndex := 1122, attributes := #[] }, { accessFlags := 25, nameIndex := 599, descriptorIndex := 600, attributes := #[] }, { accessFlags := 24, nameIndex := 1125, descriptorIndex := 18, attributes := #[] }, { accessFlags := 24, nameIndex := 1127, descriptorIndex := 18, attributes := #[] }])
  fields := #[{ name := "value", type := (.array .byte), accessFlags := 18, slot := 0, constantValue := 0 }, { name := "coder", type := .byte, accessFlags := 18, slot := 1, constantValue := 0 }, { name := "hash", type := .int, accessFlags := 2, slot := 2, constantValue := 0 }, { name := "hashIsZero", type := .boolean, accessFlags := 2, slot := 3, constantValue := 0 }, { name := "serialVersionUID", type := .long, accessFlags := 26, slot := 0, constantValue := 0 }, { name := "COMPACT_STRINGS", type := .boolean, accessFlags := 24, slot := 1, constantValue := 0 }, { name := "serialPersistentFields", type := (.array (.object "java/io/ObjectStreamField")), accessFlags := 26, slot := 2, constantValue := 0 }, { name := "REPL", type := .char, accessFlags := 26, slot := 3, constantValue := 0 }, { name := "CASE_INSENSITIVE_ORDER", type := (.object "java/util/Comparator"), accessFlags := 25, slot := 4, constantValue := 0 }, { name := "LATIN1", type := .byte, accessFlags := 24, slot := 5, constantValue := 0 }, { name := "UTF16", type := .byte, accessFlags := 24, slot := 6, constantValue := 0 }]
  methods := #[k7m0, k7m1, k7m2, k7m3]
  instanceTypes := #[(.array .byte), .byte, .int, .boolean]
  staticTypes := #[.long, .boolean, (.array (.object "java/io/ObjectStreamField")), .char, (.object "java/util/Comparator"), .byte, .byte]
  resolved := Array.replicate 1451 none
  statics := some 0 }

def pool8 : Array CpInfo := pool [(6, .class_ 8), (1, u "java/lang/Object"), (0, u "<init>"), (0, u "()V"), (1, .class_ 14), (1, u "java/lang/StringUTF16"), (31, u "$assertionsDisabled"), (0, u "Z"), (13, u "HI_BYTE_SHIFT"), (0, u "I"), (2, u "LO_BYTE_SHIFT"), (49, .methodref 12 116), (0, .nameAndType 117 118), (0, u "compress"), (0, u "([CI[BII)I"), (3, u "([CII)[B"), (138, u "coderFromArrayLen"), (0, u "([BI)B"), (106, .class_ 371), (1, u "java/lang/StringUTF16$LinesSpliterator"), (58, u "MAX_LENGTH"), (196, .class_ 628), (0, u "java/lang/StringUTF16$CodePointsSpliterator"), (0, .class_ 630), (0, u "java/lang/StringUTF16$CharsSpliterator")] 4

def k8m0 : Method := { name := "<init>", desc := "()V", sig := { parameters := [], returnType := none }, accessFlags := 0, code := none }
def k8c1 : Code := { maxStack := 2, maxLocals := 2, code := jdk_52_method_15_code, exceptionTable := #[], attributes := #[] }
def k8m1 : Method := { name := "coderFromArrayLen", desc := "([BI)B", sig := { parameters := [(.array .byte), .int], returnType := some .byte }, accessFlags := 8, code := some k8c1 }
def k8c2 : Code := { maxStack := 5, maxLocals := 6, code := jdk_52_method_16_code, exceptionTable := #[], attributes := #[] }
def k8m2 : Method := { name := "compress", desc := "([CII)[B", sig := { parameters := [(.array .char), .int, .int], returnType := some (.array .byte) }, accessFlags := 9, code := some k8c2 }
def k8c3 : Code := { maxStack := 3, maxLocals := 7, code := jdk_52_method_21_code, exceptionTable := #[], attributes := #[] }
def k8m3 : Method := { name := "compress", desc := "([CI[BII)I", sig := { parameters := [(.array .char), .int, (.array .byte), .int, .int], returnType := some .int }, accessFlags := 9, code := some k8c3 }
/-- java/lang/StringUTF16 -/
def k8 : Class := { plain "java/lang/StringUTF16" (some 0) with
  accessFlags := 48
  interfaces := #[]
  cf := some (fileOf pool8 12 #[.nestMembers #[627, 629, 369]] #[{ accessFlags := 0, nameIndex := 9, descriptorIndex := 10, attributes := #[] }, { accessFlags := 8, nameIndex := 261, descriptorIndex := 262, attributes := #[] }, { accessFlags := 9, nameIndex := 117, descriptorIndex := 122, attributes := #[] }, { accessFlags := 9, nameIndex := 117, descriptorIndex := 118, attributes := #[] }] 48 6 #[] #[{ accessFlags := 26, nameIndex := 61, descriptorIndex := 62, attributes := #[] }, { accessFlags := 26, nameIndex := 65, descriptorIndex := 62, attributes := #[] }, { accessFlags := 24, nameIndex := 430, descriptorIndex := 62, attributes := #[] }, { accessFlags := 4120, nameIndex := 46, descriptorIndex := 47, attributes := #[] }])
  fields := #[{ name := "HI_BYTE_SHIFT", type := .int, accessFlags := 26, slot := 0, constantValue := 0 }, { name := "LO_BYTE_SHIFT", type := .int, accessFlags := 26, slot := 1, constantValue := 0 }, { name := "MAX_LENGTH", type := .int, accessFlags := 24, slot := 2, constantValue := 0 }, { name := "$assertionsDisabled", type := .boolean, accessFlags := 4120, slot := 3, constantValue := 0 }]
  methods := #[k8m0, k8m1, k8m2, k8m3]
  instanceTypes := #[]
  staticTypes := #[.int, .int, .int, .boolean]
  resolved := Array.replicate 635 none
  statics := none }

def pool9 : Array CpInfo := pool [(1, .methodref 2 3), (0, .class_ 4), (0, .nameAndType 5 6), (0, u "java/lang/Object"), (0, u "<init>"), (0, u "()V"), (0, .class_ 8), (0, u "java/lang/Record")] 13

def k9c0 : Code := { maxStack := 1, maxLocals := 1, code := jdk_30_method_1_code, exceptionTable := #[], attributes := #[] }
def k9m0 : Method := { name := "<init>", desc := "()V", sig := { parameters := [], returnType := none }, accessFlags := 4, code := some k9c0 }
/-- java/lang/Record -/
def k9 : Class := { plain "java/lang/Record" (some 0) with
  accessFlags := 1057
  interfaces := #[]
  cf := some (fileOf pool9 7 #[] #[{ accessFlags := 4, nameIndex := 5, descriptorIndex := 6, attributes := #[] }] 1057 2 #[] #[])
  fields := #[]
  methods := #[k9m0]
  instanceTypes := #[]
  staticTypes := #[]
  resolved := Array.replicate 22 none
  statics := none }

def pool10 : Array CpInfo := pool [(1, .methodref 2 3), (0, .class_ 4), (0, .nameAndType 5 6), (0, u "java/lang/Record"), (0, u "<init>"), (0, u "()V"), (0, .fieldref 8 9), (0, .class_ 10), (0, .nameAndType 11 12), (0, u "com/example/loopwright/loopwright/Lexer$Token"), (0, u "kind"), (0, u "Lcom/example/loopwright/loopwright/Lexer$Kind;"), (0, .fieldref 8 14), (0, .nameAndType 15 16), (0, u "text"), (0, u "Ljava/lang/String;"), (0, .fieldref 8 18), (0, .nameAndType 19 20), (0, u "line"), (0, u "I"), (0, .fieldref 8 22), (0, .nameAndType 23 20), (0, u "column"), (0, .fieldref 25 26), (0, .class_ 27), (0, .nameAndType 28 12), (0, u "com/example/loopwright/loopwright/Lexer$Kind"), (0, u "SYMBOL"), (0, .methodref 30 31), (0, .class_ 32), (0, .nameAndType 33 34), (0, u "java/lang/String"), (0, u "equals"), (0, u "(Ljava/lang/Object;)Z"), (14, u "(Lcom/example/loopwright/loopwright/Lexer$Kind;Ljava/lang/String;II)V"), (3, u "is"), (0, u "(Ljava/lang/String;)Z"), (8, .class_ 64), (0, u "com/example/loopwright/loopwright/Lexer")] 23

def k10c0 : Code := { maxStack := 2, maxLocals := 5, code := prog_55_method_1_code, exceptionTable := #[], attributes := #[] }
def k10m0 : Method := { name := "<init>", desc := "(Lcom/example/loopwright/loopwright/Lexer$Kind;Ljava/lang/String;II)V", sig := { parameters := [(.object "com/example/loopwright/loopwright/Lexer$Kind"), (.object "java/lang/String"), .int, .int], returnType := none }, accessFlags := 0, code := some k10c0 }
def k10c1 : Code := { maxStack := 2, maxLocals := 2, code := prog_55_method_2_code, exceptionTable := #[], attributes := #[] }
def k10m1 : Method := { name := "is", desc := "(Ljava/lang/String;)Z", sig := { parameters := [(.object "java/lang/String")], returnType := some .boolean }, accessFlags := 0, code := some k10c1 }
/-- com/example/loopwright/loopwright/Lexer$Token -/
def k10 : Class := { plain "com/example/loopwright/loopwright/Lexer$Token" (some 9) with
  accessFlags := 48
  interfaces := #[]
  cf := some (fileOf pool10 8 #[.nestHost 63] #[{ accessFlags := 0, nameIndex := 5, descriptorIndex := 49, attributes := #[] }, { accessFlags := 0, nameIndex := 53, descriptorIndex := 54, attributes := #[] }] 48 2 #[] #[{ accessFlags := 18, nameIndex := 11, descriptorIndex := 12, attributes := #[] }, { accessFlags := 18, nameIndex := 15, descriptorIndex := 16, attributes := #[] }, { accessFlags := 18, nameIndex := 19, descriptorIndex := 20, attributes := #[] }, { accessFlags := 18, nameIndex := 23, descriptorIndex := 20, attributes := #[] }])
  fields := #[{ name := "kind", type := (.object "com/example/loopwright/loopwright/Lexer$Kind"), accessFlags := 18, slot := 0, constantValue := 0 }, { name := "text", type := (.object "java/lang/String"), accessFlags := 18, slot := 1, constantValue := 0 }, { name := "line", type := .int, accessFlags := 18, slot := 2, constantValue := 0 }, { name := "column", type := .int, accessFlags := 18, slot := 3, constantValue := 0 }]
  methods := #[k10m0, k10m1]
  instanceTypes := #[(.object "com/example/loopwright/loopwright/Lexer$Kind"), (.object "java/lang/String"), .int, .int]
  staticTypes := #[]
  resolved := Array.replicate 88 none
  statics := none }

def pool11 : Array CpInfo := pool [(2, .class_ 4), (1, u "java/lang/Enum"), (0, u "name"), (0, u "Ljava/lang/String;"), (2, u "ordinal"), (0, u "I"), (1, .class_ 14), (1, u "java/lang/Object"), (4, u "hash"), (86, .class_ 108), (1, u "java/lang/Enum$EnumDesc"), (2, .class_ 112), (0, u "java/lang/constant/Constable"), (0, .class_ 114), (0, u "java/lang/Comparable"), (0, .class_ 116), (0, u "java/io/Serializable")] 87

/-- java/lang/Enum -/
def k11 : Class := { plain "java/lang/Enum" (some 0) with
  accessFlags := 1057
  interfaces := #[5, 3, 2]
  cf := some (fileOf pool11 2 #[.nestMembers #[106]] #[] 1057 12 #[111, 113, 115] #[{ accessFlags := 18, nameIndex := 5, descriptorIndex := 6, attributes := #[] }, { accessFlags := 18, nameIndex := 9, descriptorIndex := 10, attributes := #[] }, { accessFlags := 2, nameIndex := 19, descriptorIndex := 10, attributes := #[] }])
  fields := #[{ name := "name", type := (.object "java/lang/String"), accessFlags := 18, slot := 0, constantValue := 0 }, { name := "ordinal", type := .int, accessFlags := 18, slot := 1, constantValue := 0 }, { name := "hash", type := .int, accessFlags := 2, slot := 2, constantValue := 0 }]
  methods := #[]
  instanceTypes := #[(.object "java/lang/String"), .int, .int]
  staticTypes := #[]
  resolved := Array.replicate 204 none
  statics := none }

def pool12 : Array CpInfo := pool [(1, .class_ 2), (0, u "com/example/loopwright/loopwright/Lexer$Kind"), (2, u "IDENTIFIER"), (0, u "Lcom/example/loopwright/loopwright/Lexer$Kind;"), (2, u "NUMBER"), (2, u "SYMBOL"), (2, u "ANNOTATION"), (2, u "ANNOTATION_END"), (2, u "END"), (2, u "$VALUES"), (0, u "[Lcom/example/loopwright/loopwright/Lexer$Kind;"), (6, .class_ 34), (1, u "java/lang/Enum"), (29, .class_ 65), (0, u "com/example/loopwright/loopwright/Lexer")] 2

/-- com/example/loopwright/loopwright/Lexer$Kind -/
def k12 : Class := { plain "com/example/loopwright/loopwright/Lexer$Kind" (some 11) with
  accessFlags := 16432
  interfaces := #[]
  cf := some (fileOf pool12 1 #[.nestHost 64] #[] 16432 32 #[] #[{ accessFlags := 16409, nameIndex := 5, descriptorIndex := 6, attributes := #[] }, { accessFlags := 16409, nameIndex := 9, descriptorIndex := 6, attributes := #[] }, { accessFlags := 16409, nameIndex := 12, descriptorIndex := 6, attributes := #[] }, { accessFlags := 16409, nameIndex := 15, descriptorIndex := 6, attributes := #[] }, { accessFlags := 16409, nameIndex := 18, descriptorIndex := 6, attributes := #[] }, { accessFlags := 16409, nameIndex := 21, descriptorIndex := 6, attributes := #[] }, { accessFlags := 4122, nameIndex := 24, descriptorIndex := 25, attributes := #[] }])
  fields := #[{ name := "IDENTIFIER", type := (.object "com/example/loopwright/loopwright/Lexer$Kind"), accessFlags := 16409, slot := 0, constantValue := 0 }, { name := "NUMBER", type := (.object "com/example/loopwright/loopwright/Lexer$Kind"), accessFlags := 16409, slot := 1, constantValue := 0 }, { name := "SYMBOL", type := (.object "com/example/loopwright/loopwright/Lexer$Kind"), accessFlags := 16409, slot := 2, constantValue := 0 }, { name := "ANNOTATION", type := (.object "com/example/loopwright/loopwright/Lexer$Kind"), accessFlags := 16409, slot := 3, constantValue := 0 }, { name := "ANNOTATION_END", type := (.object "com/example/loopwright/loopwright/Lexer$Kind"), accessFlags := 16409, slot := 4, constantValue := 0 }, { name := "END", type := (.object "com/example/loopwright/loopwright/Lexer$Kind"), accessFlags := 16409, slot := 5, constantValue := 0 }, { name := "$VALUES", type := (.array (.object "com/example/loopwright/loopwright/Lexer$Kind")), accessFlags := 4122, slot := 6, constantValue := 0 }]
  methods := #[]
  instanceTypes := #[(.object "java/lang/String"), .int, .int]
  staticTypes := #[(.object "com/example/loopwright/loopwright/Lexer$Kind"), (.object "com/example/loopwright/loopwright/Lexer$Kind"), (.object "com/example/loopwright/loopwright/Lexer$Kind"), (.object "com/example/loopwright/loopwright/Lexer$Kind"), (.object "com/example/loopwright/loopwright/Lexer$Kind"), (.object "com/example/loopwright/loopwright/Lexer$Kind"), (.array (.object "com/example/loopwright/loopwright/Lexer$Kind"))]
  resolved := Array.replicate 68 none
  statics := some 1 }

def pool13 : Array CpInfo := pool [(4, .class_ 6), (1, u "java/lang/Object"), (0, u "<init>"), (0, u "()V"), (5, .class_ 16), (1, u "java/lang/StringLatin1"), (104, u "$assertionsDisabled"), (0, u "Z"), (98, .class_ 223), (1, u "java/lang/StringLatin1$LinesSpliterator"), (57, u "equals"), (0, u "([B[B)Z"), (107, .class_ 391), (0, u "java/lang/StringLatin1$CharsSpliterator")] 3

def k13m0 : Method := { name := "<init>", desc := "()V", sig := { parameters := [], returnType := none }, accessFlags := 0, code := none }
def k13c1 : Code := { maxStack := 3, maxLocals := 3, code := jdk_43_method_13_code, exceptionTable := #[], attributes := #[] }
def k13m1 : Method := { name := "equals", desc := "([B[B)Z", sig := { parameters := [(.array .byte), (.array .byte)], returnType := some .boolean }, accessFlags := 9, code := some k13c1 }
/-- java/lang/StringLatin1 -/
def k13 : Class := { plain "java/lang/StringLatin1" (some 0) with
  accessFlags := 48
  interfaces := #[]
  cf := some (fileOf pool13 14 #[.nestMembers #[390, 221]] #[{ accessFlags := 0, nameIndex := 7, descriptorIndex := 8, attributes := #[] }, { accessFlags := 9, nameIndex := 281, descriptorIndex := 282, attributes := #[] }] 48 4 #[] #[{ accessFlags := 4120, nameIndex := 121, descriptorIndex := 122, attributes := #[] }])
  fields := #[{ name := "$assertionsDisabled", type := .boolean, accessFlags := 4120, slot := 0, constantValue := 0 }]
  methods := #[k13m0, k13m1]
  instanceTypes := #[]
  staticTypes := #[.boolean]
  resolved := Array.replicate 395 none
  statics := none }

def pool14 : Array CpInfo := pool [(2, .class_ 4), (1, u "java/lang/Object"), (0, u "<init>"), (0, u "()V"), (17, .class_ 26), (1, u "jdk/internal/util/Preconditions"), (28, .class_ 56), (0, u "jdk/internal/util/Preconditions$4"), (57, .class_ 115), (0, u "jdk/internal/util/Preconditions$1"), (7, u "SIOOBE_FORMATTER"), (0, u "Ljava/util/function/BiFunction;"), (0, .class_ 126), (0, u "jdk/internal/util/Preconditions$2"), (3, u "AIOOBE_FORMATTER"), (0, .class_ 132), (0, u "jdk/internal/util/Preconditions$3"), (3, u "IOOBE_FORMATTER")] 57

def k14m0 : Method := { name := "<init>", desc := "()V", sig := { parameters := [], returnType := none }, accessFlags := 1, code := none }
/-- jdk/internal/util/Preconditions -/
def k14 : Class := { plain "jdk/internal/util/Preconditions" (some 0) with
  accessFlags := 33
  interfaces := #[]
  cf := some (fileOf pool14 24 #[.nestMembers #[55, 131, 125, 114]] #[{ accessFlags := 1, nameIndex := 5, descriptorIndex := 6, attributes := #[] }] 33 2 #[] #[{ accessFlags := 25, nameIndex := 123, descriptorIndex := 124, attributes := #[] }, { accessFlags := 25, nameIndex := 130, descriptorIndex := 124, attributes := #[] }, { accessFlags := 25, nameIndex := 136, descriptorIndex := 124, attributes := #[] }])
  fields := #[{ name := "SIOOBE_FORMATTER", type := (.object "java/util/function/BiFunction"), accessFlags := 25, slot := 0, constantValue := 0 }, { name := "AIOOBE_FORMATTER", type := (.object "java/util/function/BiFunction"), accessFlags := 25, slot := 1, constantValue := 0 }, { name := "IOOBE_FORMATTER", type := (.object "java/util/function/BiFunction"), accessFlags := 25, slot := 2, constantValue := 0 }]
  methods := #[k14m0]
  instanceTypes := #[]
  staticTypes := #[(.object "java/util/function/BiFunction"), (.object "java/util/function/BiFunction"), (.object "java/util/function/BiFunction")]
  resolved := Array.replicate 194 none
  statics := some 2 }

def pool15 : Array CpInfo := pool [(9, u "<init>"), (6, .class_ 18), (1, u "java/lang/Object"), (0, u "()V"), (1, .class_ 23), (1, u "jdk/internal/util/ArraysSupport"), (0, u "LOG2_ARRAY_LONG_INDEX_SCALE"), (0, u "I"), (2, u "U"), (0, u "Ljdk/internal/misc/Unsafe;"), (8, u "BIG_ENDIAN"), (0, u "Z"), (8, u "LOG2_BYTE_BIT_SIZE"), (4, u "LOG2_ARRAY_INT_INDEX_SCALE"), (54, u "JLA"), (0, u "Ljdk/internal/access/JavaLangAccess;"), (11, u "LOG2_ARRAY_BOOLEAN_INDEX_SCALE"), (9, u "LOG2_ARRAY_BYTE_INDEX_SCALE"), (5, u "LOG2_ARRAY_CHAR_INDEX_SCALE"), (5, u "LOG2_ARRAY_SHORT_INDEX_SCALE"), (18, u "LOG2_ARRAY_FLOAT_INDEX_SCALE"), (24, u "LOG2_ARRAY_DOUBLE_INDEX_SCALE"), (89, u "T_BOOLEAN"), (2, u "T_CHAR"), (1, u "T_FLOAT"), (1, u "T_DOUBLE"), (1, u "T_BYTE"), (1, u "T_SHORT"), (1, u "T_INT"), (1, u "T_LONG"), (1, u "SOFT_MAX_ARRAY_LENGTH")] 83

def k15m0 : Method := { name := "<init>", desc := "()V", sig := { parameters := [], returnType := none }, accessFlags := 2, code := none }
/-- jdk/internal/util/ArraysSupport -/
def k15 : Class := { plain "jdk/internal/util/ArraysSupport" (some 0) with
  accessFlags := 33
  interfaces := #[]
  cf := some (fileOf pool15 21 #[] #[{ accessFlags := 2, nameIndex := 9, descriptorIndex := 19, attributes := #[] }] 33 16 #[] #[{ accessFlags := 24, nameIndex := 28, descriptorIndex := 29, attributes := #[] }, { accessFlags := 26, nameIndex := 38, descriptorIndex := 39, attributes := #[] }, { accessFlags := 25, nameIndex := 121, descriptorIndex := 25, attributes := #[] }, { accessFlags := 25, nameIndex := 131, descriptorIndex := 25, attributes := #[] }, { accessFlags := 25, nameIndex := 137, descriptorIndex := 25, attributes := #[] }, { accessFlags := 25, nameIndex := 143, descriptorIndex := 25, attributes := #[] }, { accessFlags := 25, nameIndex := 53, descriptorIndex := 25, attributes := #[] }, { accessFlags := 25, nameIndex := 24, descriptorIndex := 25, attributes := #[] }, { accessFlags := 25, nameIndex := 162, descriptorIndex := 25, attributes := #[] }, { accessFlags := 25, nameIndex := 187, descriptorIndex := 25, attributes := #[] }, { accessFlags := 26, nameIndex := 48, descriptorIndex := 25, attributes := #[] }, { accessFlags := 25, nameIndex := 277, descriptorIndex := 25, attributes := #[] }, { accessFlags := 25, nameIndex := 280, descriptorIndex := 25, attributes := #[] }, { accessFlags := 25, nameIndex := 282, descriptorIndex := 25, attributes := #[] }, { accessFlags := 25, nameIndex := 284, descriptorIndex := 25, attributes := #[] }, { accessFlags := 25, nameIndex := 286, descriptorIndex := 25, attributes := #[] }, { accessFlags := 25, nameIndex := 288, descriptorIndex := 25, attributes := #[] }, { accessFlags := 25, nameIndex := 290, descriptorIndex := 25, attributes := #[] }, { accessFlags := 25, nameIndex := 292, descriptorIndex := 25, attributes := #[] }, { accessFlags := 26, nameIndex := 108, descriptorIndex := 109, attributes := #[] }, { accessFlags := 25, nameIndex := 294, descriptorIndex := 25, attributes := #[] }])
  fields := #[{ name := "U", type := (.object "jdk/internal/misc/Unsafe"), accessFlags := 24, slot := 0, constantValue := 0 }, { name := "BIG_ENDIAN", type := .boolean, accessFlags := 26, slot := 1, constantValue := 0 }, { name := "LOG2_ARRAY_BOOLEAN_INDEX_SCALE", type := .int, accessFlags := 25, slot := 2, constantValue := 0 }, { name := "LOG2_ARRAY_BYTE_INDEX_SCALE", type := .int, accessFlags := 25, slot := 3, constantValue := 0 }, { name := "LOG2_ARRAY_CHAR_INDEX_SCALE", type := .int, accessFlags := 25, slot := 4, constantValue := 0 }, { name := "LOG2_ARRAY_SHORT_INDEX_SCALE", type := .int, accessFlags := 25, slot := 5, constantValue := 0 }, { name := "LOG2_ARRAY_INT_INDEX_SCALE", type := .int, accessFlags := 25, slot := 6, constantValue := 0 }, { name := "LOG2_ARRAY_LONG_INDEX_SCALE", type := .int, accessFlags := 25, slot := 7, constantValue := 0 }, { name := "LOG2_ARRAY_FLOAT_INDEX_SCALE", type := .int, accessFlags := 25, slot := 8, constantValue := 0 }, { name := "LOG2_ARRAY_DOUBLE_INDEX_SCALE", type := .int, accessFlags := 25, slot := 9, constantValue := 0 }, { name := "LOG2_BYTE_BIT_SIZE", type := .int, accessFlags := 26, slot := 10, constantValue := 0 }, { name := "T_BOOLEAN", type := .int, accessFlags := 25, slot := 11, constantValue := 0 }, { name := "T_CHAR", type := .int, accessFlags := 25, slot := 12, constantValue := 0 }, { name := "T_FLOAT", type := .int, accessFlags := 25, slot := 13, constantValue := 0 }, { name := "T_DOUBLE", type := .int, accessFlags := 25, slot := 14, constantValue := 0 }, { name := "T_BYTE", type := .int, accessFlags := 25, slot := 15, constantValue := 0 }, { name := "T_SHORT", type := .int, accessFlags := 25, slot := 16, constantValue := 0 }, { name := "T_INT", type := .int, accessFlags := 25, slot := 17, constantValue := 0 }, { name := "T_LONG", type := .int, accessFlags := 25, slot := 18, constantValue := 0 }, { name := "JLA", type := (.object "jdk/internal/access/JavaLangAccess"), accessFlags := 26, slot := 19, constantValue := 0 }, { name := "SOFT_MAX_ARRAY_LENGTH", type := .int, accessFlags := 25, slot := 20, constantValue := 0 }]
  methods := #[k15m0]
  instanceTypes := #[]
  staticTypes := #[(.object "jdk/internal/misc/Unsafe"), .boolean, .int, .int, .int, .int, .int, .int, .int, .int, .int, .int, .int, .int, .int, .int, .int, .int, .int, (.object "jdk/internal/access/JavaLangAccess"), .int]
  resolved := Array.replicate 378 none
  statics := none }

def pool16 : Array CpInfo := pool [(1, u "java/lang/Cloneable"), (0, .class_ 1), (0, u "java/lang/Object"), (0, .class_ 3)] 3

/-- java/lang/Cloneable -/
def k16 : Class := { plain "java/lang/Cloneable" (some 0) with
  accessFlags := 1537
  interfaces := #[]
  cf := some (fileOf pool16 2 #[] #[] 1537 4 #[] #[])
  fields := #[]
  methods := #[]
  instanceTypes := #[]
  staticTypes := #[]
  resolved := Array.replicate 8 none
  statics := none }

/-- the primitive byte -/
def k17 : Class := { plain "byte" none with kind := .primitive 'B', accessFlags := 0x411 }
/-- [B -/
def k18 : Class := { plain "[B" (some 0) with kind := .array 17 .byte, interfaces := #[16, 2], accessFlags := 1041 }

/-- the primitive char -/
def k19 : Class := { plain "char" none with kind := .primitive 'C', accessFlags := 0x411 }
/-- [C -/
def k20 : Class := { plain "[C" (some 0) with kind := .array 19 .char, interfaces := #[16, 2], accessFlags := 1041 }

/-- the primitive int -/
def k21 : Class := { plain "int" none with kind := .primitive 'I', accessFlags := 0x411 }
/-- [I -/
def k22 : Class := { plain "[I" (some 0) with kind := .array 21 .int, interfaces := #[16, 2], accessFlags := 1041 }

def heap : Heap := #[{ cls := 7, slots := #[.long 0, .int 1, .null, .int 0, .null, .int 0, .int 0], vm := .statics 7 },
  { cls := 12, slots := #[.ref 3, .ref 4, .ref 5, .ref 6, .ref 7, .ref 8, .null], vm := .statics 12 },
  { cls := 14, slots := #[.null, .null, .null], vm := .statics 14 },
  { cls := 12, slots := #[.null, .int 0, .int 0], vm := .none },
  { cls := 12, slots := #[.null, .int 1, .int 0], vm := .none },
  { cls := 12, slots := #[.null, .int 2, .int 0], vm := .none },
  { cls := 12, slots := #[.null, .int 3, .int 0], vm := .none },
  { cls := 12, slots := #[.null, .int 4, .int 0], vm := .none },
  { cls := 12, slots := #[.null, .int 5, .int 0], vm := .none }]
def classes : Array Class := #[k0, k1, k2, k3, k4, k5, k6, k7, k8, k9, k10, k11, k12, k13, k14, k15, k16, k17, k18, k19, k20, k21, k22]
def interned : List (Array UInt16 × Addr) := []
def slotsUsed : Nat := 35
def theMethod : MethodId := ⟨1, 3⟩
def args0 : Array Value := #[.int 5, .int 6, .int 7, .int 9, .int 3, .int 4]
def aboutOver (below : List Frame) : State where
  vm := { classes := classes, interned := interned.toArray }
  heap := heap
  slotsUsed := slotsUsed
  threads := #[{ frames := .invoking theMethod args0 :: below }]
def below0 : List Frame := [.native { method := ⟨0, 0⟩, args := #[] }]
def about1 : State := aboutOver below0
def p0 : Program := .bare "" "" ""
def e0 : Env := launch0.env 0 0 0
theorem w_frames : about1.frames = Frame.invoking theMethod args0 :: below0 := rfl
set_option maxRecDepth 65536 in
theorem w_args : argsFit about1.vm theMethod args0 = true := by decide +kernel
set_option maxRecDepth 65536 in
theorem w_heap : heapFits about1 = true := by decide +kernel
set_option maxRecDepth 65536 in
theorem w_runnable : about1.curStatus? = some .runnable := by decide +kernel
set_option maxRecDepth 65536 in
theorem w_alone : about1.alone = true := by decide +kernel
set_option maxRecDepth 65536 in
theorem w_named : about1.methodNamed? x = some theMethod := by decide +kernel
set_option maxRecDepth 65536 in
theorem w_hears : about1.hears theMethod below0 = true := by decide +kernel
set_option maxRecDepth 65536 in
theorem w_ripe : about1.ripe theMethod args0 below0 = true := by decide +kernel
theorem w_running : about1.status = .running := rfl
set_option maxRecDepth 65536 in
theorem w_room : about1.hasRoom e0.platform room_1 = true :=
  launch0.hasRoom_least _ room_1 (by decide +kernel) (by decide +kernel) (by decide +kernel) (by decide +kernel) (by decide +kernel) (by decide +kernel)
theorem allAtoms_all (ts : List Jvm.Cond) (a : Array Jvm.Value) (st : Jvm.State) : (allAtoms ts).before a st = ts.all (fun c => c.before a st) := by
  induction ts with
  | nil => rfl
  | cons c t ih =>
    show (Jvm.Cond.and c (allAtoms t)).before a st = _
    rw [Jvm.Cond.before_and, ih, List.all_cons]
def words1 : List Jvm.Cond := Jvm.Cond.code x code maxLocals ret :: tables_1
/-- a 'code' word, met by the world's own term for the bytes: nothing is compared byte by byte -/
theorem code_word {y : MethodName} {bytes : ByteArray} {mx : Nat} {rt : Option FieldType} {a : Array Value} {s : State} {m : MethodId} {meth : Method} {c : Code} (h1 : s.methodNamed? y = some m) (h2 : s.vm.method? m = some meth) (h3 : meth.code = some c) (h4 : c.code = bytes)
    (h5 : (c.maxLocals == mx && c.exceptionTable.isEmpty && decide (c.maxStack ≤ mostOperands) && decide (meth.sig.returnType = rt) && !meth.locks && decide (parseMethodDescriptor y.desc = some meth.sig)) = true) : (Jvm.Cond.code y bytes mx rt).before a s = true := by
  simp only [Bool.and_eq_true, beq_iff_eq, Bool.not_eq_true', decide_eq_true_eq] at h5
  obtain ⟨⟨⟨⟨⟨g1, g2⟩, g3⟩, g4⟩, g5⟩, g6⟩ := h5
  simp [Cond.before, Cond.holds, Cond.value, h1, h2, h3, h4, g1, g2, g3, g4, g5, g6]
def isCode : Jvm.Cond → Bool
  | .code _ _ _ _ => true
  | _ => false
theorem all_split {L : List Jvm.Cond} {P : Jvm.Cond → Bool} (h1 : L.all (fun c => isCode c || P c) = true) (h2 : ∀ c ∈ L.filter isCode, P c = true) : L.all P = true := by
  refine List.all_eq_true.mpr fun c hc => ?_
  have h := List.all_eq_true.mp h1 c hc
  rcases Bool.eq_false_or_eq_true (isCode c) with hi | hi
  · exact h2 c (List.mem_filter.mpr ⟨hc, hi⟩)
  · simpa [hi] using h
set_option maxRecDepth 65536 in
theorem w_c0 : (Jvm.Cond.code x code maxLocals ret).before args0 about1 = true := code_word (m := ⟨1, 3⟩) (meth := k1m3) (c := k1c3) (by decide +kernel) rfl rfl rfl (by decide +kernel)
set_option maxRecDepth 65536 in
theorem w_c1 : (Jvm.Cond.code ({ cls := "com/example/loopwright/loopwright/TokenIsPinLaw", name := "str", desc := "(ICCC)Ljava/lang/String;" } : Jvm.MethodName) method_3_code (4 : Nat) (Option.some (Jvm.ClassFile.FieldType.object "java/lang/String"))).before args0 about1 = true := code_word (m := ⟨1, 2⟩) (meth := k1m2) (c := k1c2) (by decide +kernel) rfl rfl rfl (by decide +kernel)
set_option maxRecDepth 65536 in
theorem w_c2 : (Jvm.Cond.code ({ cls := "java/lang/String", name := "<init>", desc := "([C)V" } : Jvm.MethodName) jdk_42_method_3_code (2 : Nat) (Option.none : Option Jvm.ClassFile.FieldType)).before args0 about1 = true := code_word (m := ⟨7, 1⟩) (meth := k7m1) (c := k7c1) (by decide +kernel) rfl rfl rfl (by decide +kernel)
set_option maxRecDepth 65536 in
theorem w_c3 : (Jvm.Cond.code ({ cls := "java/lang/String", name := "<init>", desc := "([CIILjava/lang/Void;)V" } : Jvm.MethodName) jdk_42_method_149_code (6 : Nat) (Option.none : Option Jvm.ClassFile.FieldType)).before args0 about1 = true := code_word (m := ⟨7, 3⟩) (meth := k7m3) (c := k7c3) (by decide +kernel) rfl rfl rfl (by decide +kernel)
set_option maxRecDepth 65536 in
theorem w_c4 : (Jvm.Cond.code ({ cls := "java/lang/Object", name := "<init>", desc := "()V" } : Jvm.MethodName) object_method_1_code (1 : Nat) (Option.none : Option Jvm.ClassFile.FieldType)).before args0 about1 = true := code_word (m := ⟨0, 0⟩) (meth := k0m0) (c := k0c0) (by decide +kernel) rfl rfl rfl (by decide +kernel)
set_option maxRecDepth 65536 in
theorem w_c5 : (Jvm.Cond.code ({ cls := "java/lang/StringUTF16", name := "compress", desc := "([CII)[B" } : Jvm.MethodName) jdk_52_method_16_code (6 : Nat) (Option.some (Jvm.ClassFile.FieldType.array Jvm.ClassFile.FieldType.byte))).before args0 about1 = true := code_word (m := ⟨8, 2⟩) (meth := k8m2) (c := k8c2) (by decide +kernel) rfl rfl rfl (by decide +kernel)
set_option maxRecDepth 65536 in
theorem w_c6 : (Jvm.Cond.code ({ cls := "java/lang/StringUTF16", name := "compress", desc := "([CI[BII)I" } : Jvm.MethodName) jdk_52_method_21_code (7 : Nat) (Option.some Jvm.ClassFile.FieldType.int)).before args0 about1 = true := code_word (m := ⟨8, 3⟩) (meth := k8m3) (c := k8c3) (by decide +kernel) rfl rfl rfl (by decide +kernel)
set_option maxRecDepth 65536 in
theorem w_c7 : (Jvm.Cond.code ({ cls := "java/lang/StringUTF16", name := "coderFromArrayLen", desc := "([BI)B" } : Jvm.MethodName) jdk_52_method_15_code (2 : Nat) (Option.some Jvm.ClassFile.FieldType.byte)).before args0 about1 = true := code_word (m := ⟨8, 1⟩) (meth := k8m1) (c := k8c1) (by decide +kernel) rfl rfl rfl (by decide +kernel)
set_option maxRecDepth 65536 in
theorem w_c8 : (Jvm.Cond.code ({ cls := "com/example/loopwright/loopwright/TokenIsPinLaw", name := "kindOf", desc := "(I)Lcom/example/loopwright/loopwright/Lexer$Kind;" } : Jvm.MethodName) method_2_code (1 : Nat) (Option.some (Jvm.ClassFile.FieldType.object "com/example/loopwright/loopwright/Lexer$Kind"))).before args0 about1 = true := code_word (m := ⟨1, 1⟩) (meth := k1m1) (c := k1c1) (by decide +kernel) rfl rfl rfl (by decide +kernel)
set_option maxRecDepth 65536 in
theorem w_c9 : (Jvm.Cond.code ({ cls := "com/example/loopwright/loopwright/Lexer$Token", name := "<init>", desc := "(Lcom/example/loopwright/loopwright/Lexer$Kind;Ljava/lang/String;II)V" } : Jvm.MethodName) prog_55_method_1_code (5 : Nat) (Option.none : Option Jvm.ClassFile.FieldType)).before args0 about1 = true := code_word (m := ⟨10, 0⟩) (meth := k10m0) (c := k10c0) (by decide +kernel) rfl rfl rfl (by decide +kernel)
set_option maxRecDepth 65536 in
theorem w_c10 : (Jvm.Cond.code ({ cls := "java/lang/Record", name := "<init>", desc := "()V" } : Jvm.MethodName) jdk_30_method_1_code (1 : Nat) (Option.none : Option Jvm.ClassFile.FieldType)).before args0 about1 = true := code_word (m := ⟨9, 0⟩) (meth := k9m0) (c := k9c0) (by decide +kernel) rfl rfl rfl (by decide +kernel)
set_option maxRecDepth 65536 in
theorem w_c11 : (Jvm.Cond.code ({ cls := "com/example/loopwright/loopwright/Lexer$Token", name := "is", desc := "(Ljava/lang/String;)Z" } : Jvm.MethodName) prog_55_method_2_code (2 : Nat) (Option.some Jvm.ClassFile.FieldType.boolean)).before args0 about1 = true := code_word (m := ⟨10, 1⟩) (meth := k10m1) (c := k10c1) (by decide +kernel) rfl rfl rfl (by decide +kernel)
set_option maxRecDepth 65536 in
theorem w_c12 : (Jvm.Cond.code ({ cls := "java/lang/String", name := "equals", desc := "(Ljava/lang/Object;)Z" } : Jvm.MethodName) jdk_42_method_66_code (3 : Nat) (Option.some Jvm.ClassFile.FieldType.boolean)).before args0 about1 = true := code_word (m := ⟨7, 2⟩) (meth := k7m2) (c := k7c2) (by decide +kernel) rfl rfl rfl (by decide +kernel)
set_option maxRecDepth 65536 in
theorem w_c13 : (Jvm.Cond.code ({ cls := "java/lang/StringLatin1", name := "equals", desc := "([B[B)Z" } : Jvm.MethodName) jdk_43_method_13_code (3 : Nat) (Option.some Jvm.ClassFile.FieldType.boolean)).before args0 about1 = true := code_word (m := ⟨13, 1⟩) (meth := k13m1) (c := k13c1) (by decide +kernel) rfl rfl rfl (by decide +kernel)
def codes1 : List Jvm.Cond := [Jvm.Cond.code x code maxLocals ret, Jvm.Cond.code ({ cls := "com/example/loopwright/loopwright/TokenIsPinLaw", name := "str", desc := "(ICCC)Ljava/lang/String;" } : Jvm.MethodName) method_3_code (4 : Nat) (Option.some (Jvm.ClassFile.FieldType.object "java/lang/String")), Jvm.Cond.code ({ cls := "java/lang/String", name := "<init>", desc := "([C)V" } : Jvm.MethodName) jdk_42_method_3_code (2 : Nat) (Option.none : Option Jvm.ClassFile.FieldType), Jvm.Cond.code ({ cls := "java/lang/String", name := "<init>", desc := "([CIILjava/lang/Void;)V" } : Jvm.MethodName) jdk_42_method_149_code (6 : Nat) (Option.none : Option Jvm.ClassFile.FieldType), Jvm.Cond.code ({ cls := "java/lang/Object", name := "<init>", desc := "()V" } : Jvm.MethodName) object_method_1_code (1 : Nat) (Option.none : Option Jvm.ClassFile.FieldType), Jvm.Cond.code ({ cls := "java/lang/StringUTF16", name := "compress", desc := "([CII)[B" } : Jvm.MethodName) jdk_52_method_16_code (6 : Nat) (Option.some (Jvm.ClassFile.FieldType.array Jvm.ClassFile.FieldType.byte)), Jvm.Cond.code ({ cls := "java/lang/StringUTF16", name := "compress", desc := "([CI[BII)I" } : Jvm.MethodName) jdk_52_method_21_code (7 : Nat) (Option.some Jvm.ClassFile.FieldType.int), Jvm.Cond.code ({ cls := "java/lang/StringUTF16", name := "coderFromArrayLen", desc := "([BI)B" } : Jvm.MethodName) jdk_52_method_15_code (2 : Nat) (Option.some Jvm.ClassFile.FieldType.byte), Jvm.Cond.code ({ cls := "com/example/loopwright/loopwright/TokenIsPinLaw", name := "kindOf", desc := "(I)Lcom/example/loopwright/loopwright/Lexer$Kind;" } : Jvm.MethodName) method_2_code (1 : Nat) (Option.some (Jvm.ClassFile.FieldType.object "com/example/loopwright/loopwright/Lexer$Kind")), Jvm.Cond.code ({ cls := "com/example/loopwright/loopwright/Lexer$Token", name := "<init>", desc := "(Lcom/example/loopwright/loopwright/Lexer$Kind;Ljava/lang/String;II)V" } : Jvm.MethodName) prog_55_method_1_code (5 : Nat) (Option.none : Option Jvm.ClassFile.FieldType), Jvm.Cond.code ({ cls := "java/lang/Record", name := "<init>", desc := "()V" } : Jvm.MethodName) jdk_30_method_1_code (1 : Nat) (Option.none : Option Jvm.ClassFile.FieldType), Jvm.Cond.code ({ cls := "com/example/loopwright/loopwright/Lexer$Token", name := "is", desc := "(Ljava/lang/String;)Z" } : Jvm.MethodName) prog_55_method_2_code (2 : Nat) (Option.some Jvm.ClassFile.FieldType.boolean), Jvm.Cond.code ({ cls := "java/lang/String", name := "equals", desc := "(Ljava/lang/Object;)Z" } : Jvm.MethodName) jdk_42_method_66_code (3 : Nat) (Option.some Jvm.ClassFile.FieldType.boolean), Jvm.Cond.code ({ cls := "java/lang/StringLatin1", name := "equals", desc := "([B[B)Z" } : Jvm.MethodName) jdk_43_method_13_code (3 : Nat) (Option.some Jvm.ClassFile.FieldType.boolean)]
set_option maxRecDepth 65536 in
theorem codes_eq : words1.filter isCode = codes1 := rfl
theorem w_codes : ∀ c ∈ words1.filter isCode, c.before args0 about1 = true := by
  rw [codes_eq]
  intro c hc
  simp only [codes1, List.mem_cons, List.not_mem_nil, or_false] at hc
  rcases hc with rfl | rfl | rfl | rfl | rfl | rfl | rfl | rfl | rfl | rfl | rfl | rfl | rfl | rfl
  · exact w_c0
  · exact w_c1
  · exact w_c2
  · exact w_c3
  · exact w_c4
  · exact w_c5
  · exact w_c6
  · exact w_c7
  · exact w_c8
  · exact w_c9
  · exact w_c10
  · exact w_c11
  · exact w_c12
  · exact w_c13
set_option maxRecDepth 65536 in
theorem w_t1 : (words1.take 24).all (fun c => isCode c || c.before args0 about1) = true := by decide +kernel
set_option maxRecDepth 65536 in
theorem w_t2 : ((words1.drop 24).take 24).all (fun c => isCode c || c.before args0 about1) = true := by decide +kernel
set_option maxRecDepth 65536 in
theorem w_t3 : (((words1.drop 24).drop 24).take 24).all (fun c => isCode c || c.before args0 about1) = true := by decide +kernel
set_option maxRecDepth 65536 in
theorem w_t4 : (((words1.drop 24).drop 24).drop 24).all (fun c => isCode c || c.before args0 about1) = true := by decide +kernel
theorem w_tables : (allAtoms (Jvm.Cond.code x code maxLocals ret :: tables_1)).before args0 about1 = true := by
  rw [allAtoms_all]
  show words1.all (fun c => c.before args0 about1) = true
  refine all_split ?_ w_codes
  rw [← List.take_append_drop 24 words1, List.all_append, w_t1, ← List.take_append_drop 24 (words1.drop 24), List.all_append, w_t2, ← List.take_append_drop 24 ((words1.drop 24).drop 24), List.all_append, w_t3, w_t4]
  rfl
set_option maxRecDepth 65536 in
theorem w_rest : rest_1_c.before args0 about1 = true := by decide +kernel
set_option maxRecDepth 65536 in
theorem w_case : (Jvm.Cond.and given_1 narrow_1).before args0 about1 = true := by decide +kernel
set_option maxRecDepth 65536 in
theorem w_consts : constsHeld consts_1 about1 := Jvm.Lit.constsHeldB_iff.mp (by decide +kernel)
theorem w_applies : (headSpec (Jvm.Cond.code x code maxLocals ret :: tables_1) room_1).applies x e0.platform about1 = true :=
  (Spec.applies_iff w_frames).mpr ⟨w_running, w_runnable, w_alone, w_named, w_hears, w_ripe, w_room, w_tables⟩
theorem atStart : AtStart classFile x code maxLocals ret World_1 tables_1 room_1 Calls_1 rest_1 Pre_1 launch0 p0 e0 about1 theMethod args0 below0 :=
  ⟨lists_1, trivial, launch0.admits_env _ _ _, launch0.least_env, fairChoices_fair.cas, fairChoices_fair.clock, w_frames, w_args, w_heap, w_applies, ⟨w_consts, trivial⟩, w_rest, w_case⟩
end start1
theorem witness_1 : WitnessClaimed_1 := ⟨start1.p0, start1.e0, start1.about1, start1.theMethod, start1.args0, start1.below0, start1.atStart⟩
end Jvm.Pilot.@@N@@
