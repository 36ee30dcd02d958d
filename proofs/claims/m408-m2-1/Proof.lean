import JvmDerived
import JvmDerived.Pilot.@@N@@Statement
import JvmDerived.Pilot.@@N@@Code
set_option linter.unusedVariables false
set_option linter.unusedSimpArgs false
namespace Jvm.RoadKit
open Sem ClassFile Op Lib Jvm.Stand Jvm.Free Jvm.LawKit
section Own
variable {p : Program} {l : Launch} {e : Env} {R : Room} {s : State} {m : MethodId} {args : Array Value} {below : List Frame} {meth : Method} {c : Code} {T : State} {locs : List Loc} {cells slots : Nat}
theorem retI (X : Stand p l e R s m args below meth c T locs cells slots) (hx : p.tables.exec = Jvm.exec) {pc : Nat} {Ls : Array Slot} {z : Int32} {rest : List Value} (hret : meth.sig.returnType = some .int) (hd : decode c.code pc = .ok (.ireturn, 1)) {fs : List Frame}
    (hl : ∀ (f : JFrame) (acts : List Action), f.method = m → f.locked = none → f.entered = [] → (doReturn e (T.setTop f) acts (some (.int z))).1 = T.setFrames fs) : Steps p.tables e below (T.setTop (mkF m pc Ls (.int z :: rest))) (T.setFrames fs) := by
  have hm' : T.vm.method? m = some meth := X.method'
  have hn : narrow .int (.int z) = .int z := rfl
  show Steps p.tables e below (T.setTop { method := m, pc := pc, locals := Ls, stack := _ :: rest, locked := none }) _
  jvm_step X.here [X.here.top, hx, hd, hm', hret, hn]
  first | (intro acts; rw [hl _ acts rfl rfl rfl]) | rw [hl _ _ rfl rfl rfl]
  exact Steps.refl _
/-- the walk comes to an end, with what Φ says there -/
def Goes (p : Program) (e : Env) (below : List Frame) (Φ : State → Outcome → Prop) (S : State) : Prop := ∃ s₂ o, Steps p.tables e below S s₂ ∧ s₂.status = .running ∧ Ended s₂ below o ∧ Φ s₂ o
theorem Goes.via {Φ : State → Outcome → Prop} {S S' : State} (k : ∀ t, Steps p.tables e below S' t → Steps p.tables e below S t) (h : Goes p e below Φ S') : Goes p e below Φ S := by
  obtain ⟨s₂, o, h1, h2, h3, h4⟩ := h
  exact ⟨s₂, o, k _ h1, h2, h3, h4⟩
/-- what a contract's end says -/
def Fin (s : State) (Q : Option Value → Heap → List Loc → Prop) (C S : Nat) : State → Outcome → Prop := fun s₂ o => ∃ v L, o = .returned v ∧ Q v s₂.heap L ∧ FrameEnd s o s₂ L C S
theorem Goes.retN (X : Stand p l e R s m args below meth c T locs cells slots) (hx : p.tables.exec = Jvm.exec) (hlocks : meth.locks = false) {pc : Nat} {Ls : Array Slot} {z : Int32} {t : FieldType} {rest : List Value} (hret : meth.sig.returnType = some t) (ht : t = .boolean ∨ t = .byte ∨ t = .char ∨ t = .short)
    (hd : decode c.code pc = .ok (.ireturn, 1)) {Q : Option Value → Heap → List Loc → Prop} {C S : Nat} (hc : cells ≤ C) (hs : slots ≤ S) (hQ : Q (some (.int (nar t z))) T.heap locs) : Goes p e below (Fin s Q C S) (T.setTop (mkF m pc Ls (.int z :: rest))) := by
  obtain ⟨fs, hr, hrun, hended, hW, hsame⟩ := X.leave (v := some (.int (nar t z))) (fun h => by rw [hret] at h; cases h) hlocks
  exact ⟨_, _, Jvm.RoadKit.retN X hx hret ht hd hr, hrun, hended, _, _, rfl, hQ, ⟨_, rfl⟩, hW, hsame.mono hc hs⟩
theorem Goes.retI (X : Stand p l e R s m args below meth c T locs cells slots) (hx : p.tables.exec = Jvm.exec) (hlocks : meth.locks = false) {pc : Nat} {Ls : Array Slot} {z : Int32} {rest : List Value} (hret : meth.sig.returnType = some .int)
    (hd : decode c.code pc = .ok (.ireturn, 1)) {Q : Option Value → Heap → List Loc → Prop} {C S : Nat} (hc : cells ≤ C) (hs : slots ≤ S) (hQ : Q (some (.int z)) T.heap locs) : Goes p e below (Fin s Q C S) (T.setTop (mkF m pc Ls (.int z :: rest))) := by
  obtain ⟨fs, hr, hrun, hended, hW, hsame⟩ := X.leave (v := some (.int z)) (fun h => by rw [hret] at h; cases h) hlocks
  exact ⟨_, _, Jvm.RoadKit.retI X hx hret hd hr, hrun, hended, _, _, rfl, hQ, ⟨_, rfl⟩, hW, hsame.mono hc hs⟩
theorem Goes.retO (X : Stand p l e R s m args below meth c T locs cells slots) (hx : p.tables.exec = Jvm.exec) (hlocks : meth.locks = false) {pc : Nat} {Ls : Array Slot} {w : Value} {t : FieldType} {i : Instr} {rest : List Value} (hret : meth.sig.returnType = some t) (hn : narrow t w = w)
    (hi : (i = .ireturn ∧ (t = .int ∨ t = .boolean ∨ t = .byte ∨ t = .char ∨ t = .short) ∧ ∃ z, w = .int z) ∨ (i = .lreturn ∧ t = .long ∧ ∃ z, w = .long z) ∨ (i = .dreturn ∧ t = .double ∧ ∃ z, w = .double z) ∨ (i = .freturn ∧ t = .float ∧ ∃ z, w = .float z) ∨ (i = .areturn ∧ t.isReference = true ∧ w.isRef = true))
    (hd : decode c.code pc = .ok (i, 1)) {Q : Option Value → Heap → List Loc → Prop} {C S : Nat} (hc : cells ≤ C) (hs : slots ≤ S) (hQ : Q (some w) T.heap locs) : Goes p e below (Fin s Q C S) (T.setTop (mkF m pc Ls (w :: rest))) := by
  obtain ⟨fs, hr, hrun, hended, hW, hsame⟩ := X.leave (v := some w) (fun h => by rw [hret] at h; cases h) hlocks
  exact ⟨_, _, Jvm.RoadKit.retOut X hx hret hn hi hd hr, hrun, hended, _, _, rfl, hQ, ⟨_, rfl⟩, hW, hsame.mono hc hs⟩
theorem Goes.retV (X : Stand p l e R s m args below meth c T locs cells slots) (hx : p.tables.exec = Jvm.exec) (hlocks : meth.locks = false) {pc : Nat} {Ls : Array Slot} (hret : meth.sig.returnType = none)
    (hd : decode c.code pc = .ok (.return_, 1)) {Q : Option Value → Heap → List Loc → Prop} {C S : Nat} (hc : cells ≤ C) (hs : slots ≤ S) (hQ : Q none T.heap locs) : Goes p e below (Fin s Q C S) (T.setTop (mkF m pc Ls [])) := by
  obtain ⟨fs, hr, hrun, hended, hW, hsame⟩ := X.leave (v := none) (fun _ => rfl) hlocks
  exact ⟨_, _, X.returnOut hx hret hd hr, hrun, hended, _, _, rfl, hQ, ⟨_, rfl⟩, hW, hsame.mono hc hs⟩
/-- room counted generously -/
theorem moreRoom (X : Stand p l e R s m args below meth c T locs cells slots) {k n : Nat} (h1 : cells ≤ k) (h2 : slots ≤ n) : Stand p l e R s m args below meth c T locs k n := { X with same := X.same.mono h1 h2 }
theorem exa_static {args : Array Value} {s : State} {C n d K : String} (h : (Jvm.Cond.exactly (Jvm.Term.static C n d) K).value args s none s [] = some true) : ∃ b, (Jvm.Term.static C n d).eval args s none [] s = some (.ref b) ∧ Exa s s.heap b K := by
  obtain ⟨b, e1⟩ := exa_v h
  exact ⟨b, e1, Exa.start e1 h⟩
theorem fld_static {args : Array Value} {s : State} {t : Jvm.Term} {b : Addr} {C n d : String} {k : Int32} (ev : t.eval args s none [] s = some (.ref b)) (h : (Jvm.Cond.eq (Jvm.Term.field t C n d) (Jvm.Term.int k)).value args s none s [] = some true) : Fld s s.heap b C n d (.int k) := by
  exact Fld.start ((fld_at ev).symm.trans (eqv_i (Term.int_eval k) h))
theorem adr_ne {a b k k' : Nat} (h : a < k) (g : b = k') (q : k ≤ k') : a ≠ b := by omega
theorem cat_ref {v : Value} (h : v.isRef = true) : v.category = 1 := by rcases ref_cases h with rfl | ⟨_, rfl⟩ <;> rfl
theorem narrow_ref {v : Value} {t : FieldType} (h : v.isRef = true) : narrow t v = v := by rcases ref_cases h with rfl | ⟨_, rfl⟩ <;> cases t <;> rfl
theorem fits_refO {v : Value} {C : String} (h : v.isRef = true) : fits (.object C) v = true := by rcases ref_cases h with rfl | ⟨_, rfl⟩ <;> rfl
theorem fld_null {args : Array Value} {s : State} {t : Jvm.Term} {b : Addr} {C n d : String} (ev : t.eval args s none [] s = some (.ref b)) (h : (Jvm.Cond.eq (Jvm.Term.field t C n d) Jvm.Term.null).value args s none s [] = some true) : Fld s s.heap b C n d .null := Fld.start ((fld_at ev).symm.trans (null_v h))
theorem ret1 {z : Int32} (h : z = 1) : some (Value.int (nar .boolean z)) = some (.int 1) := by subst h; rfl
end Own
end Jvm.RoadKit
namespace Jvm.RoadKit
open Sem ClassFile Op Lib Jvm.Stand Jvm.Free Jvm.LawKit
section OwnH
variable {p : Program} {l : Launch} {e : Env} {R : Room} {s : State} {m : MethodId} {args : Array Value} {below : List Frame} {meth : Method} {c : Code} {T : State} {locs : List Loc} {cells slots : Nat} {Z : State} {a0 : Array Value} {EL : List (String × Nat)} {h : Heap}
/-- what a contract's end says where held constants are used -/
def FinH (s Z : State) (EL : List (String × Nat)) (Q : Option Value → Heap → List Loc → Prop) (C S : Nat) : State → Outcome → Prop := fun s₂ o => ∃ v L, o = .returned v ∧ Q v s₂.heap L ∧ CHr Z EL s.vm s.heap s₂.vm s₂.heap ∧ ReturnedEndW s o s₂ L C S
theorem Goes.retOH {vm1 : Vm} (X : Stand p l e R (s.setVm vm1) m args below meth c T locs cells slots) (hx : p.tables.exec = Jvm.exec) (hlocks : meth.locks = false) {k : Nat} (hS : s.Since vm1 k) (hk : k ≤ h.size) (eT : T.heap = h) (hZ : Z.Warmed39 vm1) (hEL : EW Z a0 EL) (hC : CHr Z EL s.vm s.heap vm1 h) {pc : Nat} {Ls : Array Slot} {w : Value} {t : FieldType} {i : Instr} {rest : List Value} (hret : meth.sig.returnType = some t) (hn : narrow t w = w)
    (hi : (i = .ireturn ∧ (t = .int ∨ t = .boolean ∨ t = .byte ∨ t = .char ∨ t = .short) ∧ ∃ z, w = .int z) ∨ (i = .lreturn ∧ t = .long ∧ ∃ z, w = .long z) ∨ (i = .dreturn ∧ t = .double ∧ ∃ z, w = .double z) ∨ (i = .freturn ∧ t = .float ∧ ∃ z, w = .float z) ∨ (i = .areturn ∧ t.isReference = true ∧ w.isRef = true))
    (hd : decode c.code pc = .ok (i, 1)) {Q : Option Value → Heap → List Loc → Prop} {C S : Nat} (hc : cells ≤ C) (hs : slots ≤ S) (hQ : Q (some w) T.heap locs) : Goes p e below (FinH s Z EL Q C S) (T.setTop (mkF m pc Ls (w :: rest))) := by
  subst eT
  have hf : CHr Z EL s.vm s.heap T.vm T.heap := hC.trans (CHv.at X hZ hEL hC.1)
  obtain ⟨fs, hr, hrun, hended, h1, h2, h3, h4⟩ := X.leaveW hS hk (v := some w) (fun h => by rw [hret] at h; cases h) hlocks
  exact ⟨_, _, Jvm.RoadKit.retOut X hx hret hn hi hd hr, hrun, hended, _, _, rfl, hQ, hf, h1, h2, h3, h4.mono hc hs⟩
theorem Goes.retVH {vm1 : Vm} (X : Stand p l e R (s.setVm vm1) m args below meth c T locs cells slots) (hx : p.tables.exec = Jvm.exec) (hlocks : meth.locks = false) {k : Nat} (hS : s.Since vm1 k) (hk : k ≤ h.size) (eT : T.heap = h) (hZ : Z.Warmed39 vm1) (hEL : EW Z a0 EL) (hC : CHr Z EL s.vm s.heap vm1 h) {pc : Nat} {Ls : Array Slot} (hret : meth.sig.returnType = none)
    (hd : decode c.code pc = .ok (.return_, 1)) {Q : Option Value → Heap → List Loc → Prop} {C S : Nat} (hc : cells ≤ C) (hs : slots ≤ S) (hQ : Q none T.heap locs) : Goes p e below (FinH s Z EL Q C S) (T.setTop (mkF m pc Ls [])) := by
  subst eT
  have hf : CHr Z EL s.vm s.heap T.vm T.heap := hC.trans (CHv.at X hZ hEL hC.1)
  obtain ⟨fs, hr, hrun, hended, h1, h2, h3, h4⟩ := X.leaveW hS hk (v := none) (fun _ => rfl) hlocks
  exact ⟨_, _, X.returnOut hx hret hd hr, hrun, hended, _, _, rfl, hQ, hf, h1, h2, h3, h4.mono hc hs⟩
theorem Goes.retNH {vm1 : Vm} (X : Stand p l e R (s.setVm vm1) m args below meth c T locs cells slots) (hx : p.tables.exec = Jvm.exec) (hlocks : meth.locks = false) {k : Nat} (hS : s.Since vm1 k) (hk : k ≤ h.size) (eT : T.heap = h) (hZ : Z.Warmed39 vm1) (hEL : EW Z a0 EL) (hC : CHr Z EL s.vm s.heap vm1 h) {pc : Nat} {Ls : Array Slot} {z : Int32} {t : FieldType} {rest : List Value} (hret : meth.sig.returnType = some t) (ht : t = .boolean ∨ t = .byte ∨ t = .char ∨ t = .short)
    (hd : decode c.code pc = .ok (.ireturn, 1)) {Q : Option Value → Heap → List Loc → Prop} {C S : Nat} (hc : cells ≤ C) (hs : slots ≤ S) (hQ : Q (some (.int (nar t z))) T.heap locs) : Goes p e below (FinH s Z EL Q C S) (T.setTop (mkF m pc Ls (.int z :: rest))) := by
  subst eT
  have hf : CHr Z EL s.vm s.heap T.vm T.heap := hC.trans (CHv.at X hZ hEL hC.1)
  obtain ⟨fs, hr, hrun, hended, h1, h2, h3, h4⟩ := X.leaveW hS hk (v := some (.int (nar t z))) (fun h => by rw [hret] at h; cases h) hlocks
  exact ⟨_, _, Jvm.RoadKit.retN X hx hret ht hd hr, hrun, hended, _, _, rfl, hQ, hf, h1, h2, h3, h4.mono hc hs⟩
/-- two stretches that may intern, as one -/
theorem own_fold {vm0 : Vm} {k0 : Nat} {U : State} {h0 : Heap} (hS : s.Since vm0 k0) (hk : k0 ≤ h0.size) (h2 : (s.setVm vm0).Since U.vm U.heap.size) (g : h0.size ≤ U.heap.size) : s.Since U.vm U.heap.size := hS.trans h2 (Nat.le_trans hk g)
end OwnH
end Jvm.RoadKit
namespace Jvm.RoadKit
open Sem ClassFile Op Lib Bundle Jvm.Stand Jvm.Free Jvm.LawKit Jvm.Free.SB Jvm.Free.SBG
/-- a String whose value is still null is no booked one -/
theorem own_safe {Z : State} {EL : List (String × Nat)} {vm : Vm} {h : Heap} {x : Addr} (hal : Z.vm.Alike vm) (E : Exa Z h x "java/lang/String") (F : Fld Z h x "java/lang/String" "value" "[B" .null) : Safe Z EL vm h x := fun B => by
  obtain ⟨p, -, u, a, -, q, -, S, rfl | rfl⟩ := B
  · obtain ⟨cS, ⟨⟨s1, s2, s3, ⟨cv, kv, iv, s4, s4'⟩, s5, s6, s7, s8, r⟩, hfS, hcS⟩, -⟩ := S
    obtain ⟨cell, c0, k0, i0, f0, e1, e2, e3, e4, e5, e6, e7⟩ := F
    cases (show h[q.sa]? = some q.sC from s1).symm.trans e1
    obtain ⟨k', g1, -⟩ := State.fieldFound?_setVm (s := Z) hal e2
    have g2 : (Wst Z vm h).fieldFound? "java/lang/String" "value" "[B" = some (cv, kv, iv, q.fSV) := s4
    have g3 : (Wst Z vm h).fieldFound? "java/lang/String" "value" "[B" = some (c0, k', i0, f0) := g1
    cases g2.symm.trans g3
    cases s8.symm.trans e7
  · obtain ⟨cell, k, e1, e2, e3, -, -⟩ := E
    cases (show h[q.sd]? = some q.SA from S.hd).symm.trans e1
    obtain ⟨cS, -, -, f, -⟩ := S
    have f : vm.findClass "[B" = some q.SA.cls := f
    rw [hal.findClass] at f
    obtain ⟨k1, q1, q2⟩ := Vm.findClass_spec f
    obtain ⟨k2, q3, q4⟩ := Vm.findClass_spec e2
    cases q1.symm.trans q3
    exact absurd (q2.symm.trans q4) (by decide)
end Jvm.RoadKit
namespace Jvm.RoadKit
open Sem ClassFile Op Lib Jvm.Stand Jvm.Free Jvm.LawKit
section OwnR
variable {p : Program} {l : Launch} {e : Env} {R : Room} {s : State} {m : MethodId} {args : Array Value} {below : List Frame} {meth : Method} {c : Code} {T : State} {locs : List Loc} {cells slots : Nat} {Z : State} {a0 : Array Value} {h : Heap}
/-- getfield through an entry that is said resolved -/
theorem getFR (X : Stand p l e R s m args below meth c T locs cells slots) (hx : p.tables.exec = Jvm.exec) (hZ : Z.Warmed39 s.vm) {own O n d : String} {index : Nat} (hown : s.vm.findClass own = some m.cls) (w : (Cond.fieldRef own index O n d).before a0 Z = true)
    (eT : T.heap = h) {a : Addr} {v : Value} (F : Fld Z h a O n d v) {g : JFrame} (hg : g.method = m) {rest : List Value} (hs : g.stack = .ref a :: rest) (hd : decode c.code g.pc = .ok (.getfield index, 3)) : ∀ target, Steps p.tables e below (T.setTop { g with pc := g.pc + 3, stack := v :: rest }) target → Steps p.tables e below (T.setTop g) target := by
  obtain ⟨cell, cf, k, i, f, h1, h2, h3, h4, -, -, h7⟩ := F
  have hZT : Z.Warmed39 T.vm := wtrans hZ X.warmed
  have w' := Cond.fieldRef_warmed39 hZT w
  have hownT : (Z.setVm T.vm).vm.findClass own = some m.cls := by
    show T.vm.findClass own = _
    rw [X.warmed.alike.findClass]; exact hown
  obtain ⟨c2, k2, i2, f2, hf2, hready⟩ := Cond.fieldRef_spec hownT w'
  obtain ⟨k', hi, -⟩ := State.fieldFound?_setVm (s := Z) hZT.alike h2
  have e2 : some (c2, k2, i2, f2) = some (cf, k', i, f) := hf2.symm.trans hi
  cases e2
  intro target hrest
  subst hg
  jvm_step X.here [hx, hd, getfield.wp_ready (e := e) (s := T) (f := g) X.here.top hready h3 hs (by rw [eT]; exact h1) h4 h7]
  exact hrest
/-- a constructor by its contract, through an entry that is said resolved -/
theorem specialRefBack (X : Stand p l e R s m args below meth c T locs cells slots) (hexec : p.tables.exec = Jvm.exec) (hZ : Z.Warmed39 s.vm) {own : String} {index : Nat} {y : MethodName} (hy1 : y.name = "<init>")
    (hown : s.vm.findClass own = some m.cls) (w : (Cond.methodRef own index y).before a0 Z = true) (hinstZ : (Cond.instanceMethod y).before a0 Z = true) (hinst : (Cond.instanceMethod y).before args s = true)
    {bytes : ByteArray} {maxL : Nat} (hcode : (Cond.code y bytes maxL none).before args s = true) (hy : y.cls ≠ "java/lang/invoke/MethodHandle" ∧ y.cls ≠ "java/lang/invoke/VarHandle")
    {W : Nat} {Pre : Pt → Array Value → Prop} {Post : Pt → Array Value → Option Value → Pt → Prop} (hK : Back l R p e below s args y 3 W Pre Post)
    {g : JFrame} (hg : g.method = m) (hsize : g.locals.size = c.maxLocals) {a : Addr} {argsL rest : List Value}
    (hlen : ∀ sig, parseMethodDescriptor y.desc = some sig → argsL.length = sig.parameters.length) (hstack : g.stack = argsL.reverse ++ .ref a :: rest) (hW : 2 * g.monitorRoom + (rest.map fun v => v.category).sum ≤ W)
    (hdg : decode c.code g.pc = .ok (.invokespecial index, 3)) (hpre : Pre ⟨T, locs, cells, slots⟩ (.ref a :: argsL).toArray) :
    ∃ (v : Option Value) (B : Pt), Stand p l e R s m args below meth c B.U B.locs B.cells B.slots ∧ Post ⟨T, locs, cells, slots⟩ (.ref a :: argsL).toArray v B ∧
      Steps p.tables e below (T.setTop g) (B.U.setTop { g with pc := g.pc + 3, stack := v.toList ++ rest }) := by
  obtain ⟨obj, methO, hnO, hmO, hstO, habO⟩ := Cond.instanceMethod_spec hinst
  obtain ⟨methO', cO, hmO', hcO, hbO, hlO, -, hlockO, -, hsigO⟩ := Cond.code_spec hnO hcode
  cases hmO.symm.trans hmO'
  obtain ⟨kO, hkO, hnameO⟩ := className_of_methodNamed hnO
  obtain ⟨hnameMO, hdescO⟩ := name_of_methodNamed hnO hmO
  have hZT : Z.Warmed39 T.vm := wtrans hZ X.warmed
  obtain ⟨objZ, _, hnZ, _, _, _⟩ := Cond.instanceMethod_spec hinstZ
  have w' := Cond.methodRef_warmed39 hZT hnZ hy w
  have hownT : (Z.setVm T.vm).vm.findClass own = some m.cls := by
    show T.vm.findClass own = _
    rw [X.warmed.alike.findClass]; exact hown
  obtain ⟨m2, c2, hm2, hready, hfind, hres⟩ := Cond.methodRef_named e hownT w'
  have hnT : (Z.setVm T.vm).methodNamed? y = some obj := by
    have q : T.methodNamed? y = some obj := X.named hnO
    exact q
  have em : m2 = obj := Option.some.inj (hm2.symm.trans (State.methodFound?_of_named hnT hy))
  subst em
  have ec : c2 = m2.cls := Option.some.inj (hfind.symm.trans (findClass_of_methodNamed hnT))
  subst ec
  obtain ⟨kO₂, hkO₂, heO₂⟩ := X.warmed.alike.2.2 _ _ hkO
  have hmO₂ : T.vm.method? m2 = some methO := by rw [X.warmed.alike.method?]; exact hmO
  have hfound : lookupSpecial T.vm m2.cls "<init>" methO.desc = .method m2 := by
    rw [X.warmed.alike.lookupSpecial, hdescO, ← hy1]; exact lookupSpecial_of_named hnO hmO hstO
  obtain ⟨v, B, X', hpost, hsteps⟩ := hK m meth c ⟨T, locs, cells, slots⟩ { g with stack := rest } (.invokespecial index) m2 (.ref a :: argsL).toArray X hg hsize hdg hW (X.named hnO) hpre
  refine ⟨v, B, X', hpost, ?_⟩
  have st : ∀ target, (∀ acts, Steps p.tables e below (doInvoke e (T.setTop { g with stack := rest }) acts m2 (.ref a :: argsL).toArray).1 target) → Steps p.tables e below (T.setTop g) target := by
    intro target hrest
    subst hg
    jvm_step X.here [hexec, hdg, invokespecial.wp_init (e := e) (s := T) (k := kO₂) (meth := methO) (m := m2) (a := a) (args := argsL) (rest := rest) (f := g) X.here.top hres hready hkO₂ hmO₂ (by rw [hnameMO]; exact hy1) hstO habO hfound (hlen _ hsigO) hstack]
    exact hrest
  exact (st _ fun acts => by rw [doInvoke_state]; exact Steps.refl _).trans hsteps
/-- a private method is what its own class's objects select -/
theorem sel_private (hZ : Z.Warmed39 s.vm) {n : Nat} {y : MethodName} (wi : (Cond.instantiable y.cls n).before a0 Z = true) (wp : (Cond.privateMethod y).before a0 Z = true) (wm : (Cond.instanceMethod y).before a0 Z = true) (hy : y.cls ≠ "java/lang/invoke/MethodHandle" ∧ y.cls ≠ "java/lang/invoke/VarHandle") : (Cond.selects y.cls y y).before args s = true := by
  have wi' : (Cond.instantiable y.cls n).before args s = true := mvT hZ wi
  obtain ⟨c, k, h1, h2, h3, h4, -⟩ := Cond.instantiable_spec wi'
  have h5 : k.isInterface = false := by
    cases q : k.isInterface
    · rfl
    · rw [q] at h4; simp at h4
  exact selects_self_of_private h1 h2 h5 (Cond.privateMethod_at (mvP hZ wp (args := #[]))) (mvT hZ wm) hy
end OwnR
end Jvm.RoadKit
namespace Jvm.RoadKit
open Sem ClassFile Op Lib Jvm.Stand Jvm.Free Jvm.LawKit
open Jvm.FP Jvm.FP.Core in
/-- the double nearest to a whole number -/
def own_rn (n : Nat) : Nat := if n < 2 ^ 53 then n else nearest n (2 ^ (n.log2 - 52)) * 2 ^ (n.log2 - 52)
open Jvm.FP Jvm.FP.Core in
theorem own_rr2 (n : Nat) (K : Nat) (hK : K ≤ 60) (hn : n < 2 ^ (53 + K)) (s : Bool) : ∃ (c : Nat) (t : Int), roundRatio b64 s n 1 0 = .fin s c t ∧ c * 2 ^ t.toNat = own_rn n * 2 ^ (-t).toNat := by
  by_cases h53 : n < 2 ^ 53
  · obtain ⟨c, q, hfit, hv⟩ := natFit good_b64 wide_b64 s (n := n) (Nat.le_of_lt h53)
    refine ⟨c, q, roundRatio_exact good_b64 (by decide) hfit hv, ?_⟩
    rw [show (0 - q).toNat = (-q).toNat by omega, show (q - 0).toNat = q.toNat by omega, Nat.mul_one] at hv
    unfold own_rn; rw [if_pos h53]; exact hv.symm
  · have n0 : n ≠ 0 := by omega
    have l1 : 2 ^ n.log2 ≤ n := Nat.log2_self_le n0
    have l2 : n < 2 ^ (n.log2 + 1) := Nat.lt_log2_self
    have l3 : 53 < n.log2 + 1 := (Nat.pow_lt_pow_iff_right (by decide : 1 < 2)).mp (Nat.lt_of_le_of_lt (Nat.le_of_not_lt h53) l2)
    have l4 : n.log2 < 53 + K := (Nat.pow_lt_pow_iff_right (by decide : 1 < 2)).mp (Nat.lt_of_le_of_lt l1 hn)
    unfold own_rn; rw [if_neg h53]
    generalize n.log2 = L at l1 l2 l3 l4
    obtain ⟨q, rfl⟩ : ∃ q, L = 52 + q := ⟨L - 52, by omega⟩
    rw [show 52 + q - 52 = q by omega]
    have p0 := Nat.two_pow_pos q
    have hq : quantum b64 n 1 0 = (q : Int) := by
      refine quantum_eq (by omega) (by decide) ?_ ?_ (.inr ?_)
      · show (2 - ((2 ^ 10 - 1 : Nat) : Int) - (53 : Nat) : Int) ≤ q; omega
      · rw [show ((q : Int) - 0 + (b64.p : Nat)) = ((q + 53 : Nat) : Int) - ((0 : Nat) : Int) by show (q : Int) - 0 + (53 : Nat) = _; omega, below_iff]
        rw [Nat.pow_zero, Nat.mul_one, Nat.one_mul]; rw [show q + 53 = 52 + q + 1 by omega]; exact l2
      · rw [show ((q : Int) - 0 + ((b64.p : Int) - 1)) = ((q + 52 : Nat) : Int) - ((0 : Nat) : Int) by show (q : Int) - 0 + (((53 : Nat) : Int) - 1) = _; omega, below_iff]
        rw [Nat.pow_zero, Nat.mul_one, Nat.one_mul, show q + 52 = 52 + q by omega]; omega
    have hr : roundRatio b64 s n 1 0 = settle b64 s (nearest n (2 ^ q)) q := by
      unfold roundRatio
      rw [if_neg n0]
      unfold roundAt
      rw [hq]
      unfold unitsNum unitsDen
      rw [show ((0 : Int) - (q : Int)).toNat = 0 by omega, show ((q : Int) - 0).toNat = q by omega, Nat.pow_zero, Nat.mul_one, Nat.one_mul]
    have hle : nearest n (2 ^ q) ≤ 2 ^ 53 := nearest_le p0 (by rw [← Nat.pow_add]; rw [show 53 + q = 52 + q + 1 by omega]; exact Nat.le_of_lt l2)
    rw [hr]
    unfold settle
    have qm : (q : Int) + 1 ≤ b64.qmax := by show (q : Int) + 1 ≤ ((2 ^ 10 - 1 : Nat) : Int) - (53 : Nat) + 1; omega
    by_cases hc : nearest n (2 ^ q) < 2 ^ b64.p
    · rw [if_pos hc]; unfold bound; rw [if_pos (by omega)]
      exact ⟨_, _, rfl, by rw [show ((q : Int)).toNat = q by omega, show (-(q : Int)).toNat = 0 by omega, Nat.pow_zero, Nat.mul_one]⟩
    · rw [if_neg hc]; unfold bound; rw [if_pos qm]
      refine ⟨_, _, rfl, ?_⟩
      have e : nearest n (2 ^ q) = 2 ^ 53 := Nat.le_antisymm hle (Nat.le_of_not_lt hc)
      rw [e, show ((q : Int) + 1).toNat = q + 1 by omega, show (-((q : Int) + 1)).toNat = 0 by omega, Nat.pow_zero, Nat.mul_one]
      show 2 ^ 52 * 2 ^ (q + 1) = 2 ^ 53 * 2 ^ q
      rw [← Nat.pow_add, ← Nat.pow_add]; congr 1; omega
def own_rI (i : Int) : Int := if i < 0 then -(own_rn i.natAbs : Int) else (own_rn i.natAbs : Int)
open Jvm.FP Jvm.FP.Core in
theorem own_rnd2 {i : Int} {d : Datum} (h : Whole i d) (hi : i.natAbs < 2 ^ 113) : Whole (own_rI i) (round b64 d) := by
  cases d with
  | nan => exact h.elim
  | inf => exact h.elim
  | fin s c q0 =>
    by_cases i0 : i = 0
    · subst i0
      exact whole_round good_b64 wide_b64 (by decide) h
    · obtain ⟨c', t, h3, h4⟩ := own_rr2 i.natAbs 60 (by decide) hi s
      have hs := whole_sign h i0
      rw [round_whole h, h3]
      have e : own_rI i = signed s (own_rn i.natAbs) := by
        subst hs; unfold own_rI signed; by_cases hi : i < 0 <;> simp [hi]
      rw [e]
      show signed s (c' * 2 ^ t.toNat) = signed s (own_rn i.natAbs) * _
      rw [h4, signed_mul]
theorem own_log2048 {n : Nat} (h : n ≠ 0) : (2048 * n).log2 = n.log2 + 11 := by
  have a := Nat.log2_self_le h; have b := @Nat.lt_log2_self n
  refine (Nat.log2_eq_iff (by omega)).mpr ⟨?_, ?_⟩
  · rw [Nat.pow_add, show (2 : Nat) ^ 11 = 2048 by decide]; omega
  · rw [show n.log2 + 11 + 1 = (n.log2 + 1) + 11 by omega, Nat.pow_add, show (2 : Nat) ^ 11 = 2048 by decide]; omega
open Jvm.FP Jvm.FP.Core in
theorem own_rn2048 (n : Nat) : own_rn (2048 * n) = 2048 * own_rn n := by
  unfold own_rn
  by_cases h1 : 2048 * n < 2 ^ 53
  · rw [if_pos h1, if_pos (by omega)]
  · rw [if_neg h1]
    have n0 : n ≠ 0 := by omega
    rw [own_log2048 n0]
    have l1 : 2 ^ n.log2 ≤ n := Nat.log2_self_le n0
    have l2 : n < 2 ^ (n.log2 + 1) := Nat.lt_log2_self
    by_cases h2 : n < 2 ^ 53
    · rw [if_pos h2]
      have l3 : n.log2 < 53 := (Nat.pow_lt_pow_iff_right (by decide : 1 < 2)).mp (Nat.lt_of_le_of_lt l1 h2)
      obtain ⟨w, hw⟩ : ∃ w, 2048 = w * 2 ^ (n.log2 + 11 - 52) := by
        refine ⟨2 ^ (52 - n.log2), ?_⟩
        by_cases h3 : 41 ≤ n.log2
        · rw [← Nat.pow_add, show 52 - n.log2 + (n.log2 + 11 - 52) = 11 by omega]
        · exfalso
          have : 2048 * n < 2 ^ (n.log2 + 1 + 11) := by rw [Nat.pow_add, show (2 : Nat) ^ 11 = 2048 by decide]; omega
          have : 2 ^ (n.log2 + 1 + 11) ≤ 2 ^ 53 := Nat.pow_le_pow_right (by decide) (by omega)
          omega
      have e : 2048 * n = (w * n) * 2 ^ (n.log2 + 11 - 52) := by
        calc 2048 * n = (w * 2 ^ (n.log2 + 11 - 52)) * n := by rw [← hw]
          _ = _ := by rw [Nat.mul_right_comm]
      rw [e, nearest_exact _ (Nat.two_pow_pos _)]
    · rw [if_neg h2]
      have l3 : 53 < n.log2 + 1 := (Nat.pow_lt_pow_iff_right (by decide : 1 < 2)).mp (Nat.lt_of_le_of_lt (Nat.le_of_not_lt h2) l2)
      rw [show n.log2 + 11 - 52 = (n.log2 - 52) + 11 by omega, Nat.pow_add, show (2 : Nat) ^ 11 = 2048 by decide, Nat.mul_comm 2048 n, nearest_scale _ _ _ (by decide)]
      rw [← Nat.mul_assoc, Nat.mul_comm]
theorem own_rI2048 (i : Int) : own_rI (2048 * i) = 2048 * own_rI i := by
  unfold own_rI
  rw [show (2048 * i).natAbs = 2048 * i.natAbs by omega, own_rn2048]
  by_cases h : i < 0
  · rw [if_pos h, if_pos (by omega)]; omega
  · rw [if_neg h, if_neg (by omega)]; omega
theorem own_rIs {i : Int} (h : i.natAbs < 2 ^ 53) : own_rI i = i := by
  unfold own_rI own_rn; rw [if_pos h]; split <;> omega
open Jvm.FP Jvm.FP.Core in
theorem own_rle (n : Nat) : own_rn n ≤ 2 * n := by
  unfold own_rn
  split
  · omega
  · rename_i h
    have n0 : n ≠ 0 := by omega
    have l1 : 2 ^ n.log2 ≤ n := Nat.log2_self_le n0
    have p0 := Nat.two_pow_pos (n.log2 - 52)
    have hp : 2 ^ (n.log2 - 52) ≤ n := Nat.le_trans (Nat.pow_le_pow_right (by decide) (by omega)) l1
    have hs := (nearest_spec n (2 ^ (n.log2 - 52)) p0).2.1
    generalize 2 ^ (n.log2 - 52) = Q at *
    rw [Nat.mul_assoc] at hs
    omega
open Jvm.FP Jvm.FP.Core in
theorem own_again {R : Int} {x : UInt64} (h : Whole R (val64 x)) : Whole R (round b64 (ofInt R)) := by
  by_cases h0 : R = 0
  · subst h0; exact whole_round good_b64 wide_b64 (by decide) (whole_ofInt 0)
  · have hf := round_of_fits good_b64 (val64_fits x)
    generalize val64 x = d at h hf
    cases d with
    | nan => exact h.elim
    | inf => exact h.elim
    | fin s c q =>
      have hs := whole_sign h h0
      rw [round_whole h] at hf
      have e : round b64 (ofInt R) = roundRatio b64 (decide (R < 0)) R.natAbs 1 0 := by
        show round b64 (.fin _ _ _) = _
        rw [round_whole (whole_ofInt R)]
      rw [e, ← hs, hf]; exact h
open Jvm.FP Jvm.FP.Core in
theorem own_64 : Whole 18446744073709551616 (val64 4895412794951729152) := by
  rw [show val64 4895412794951729152 = .fin false 4503599627370496 12 by decide +kernel]; show (signed _ _ : Int) = _; decide +kernel
open Jvm.FP Jvm.FP.Core in
theorem own_cv {X Y : Int} {x y : UInt64} (hx : Whole X (val64 x)) (hy : Whole Y (val64 y)) (o : CmpOp) : cmpValue (FP.dcmp x y) o = if X < Y then -1 else if X = Y then 0 else 1 := by
  have e : FP.dcmp x y = some (compare X Y) := order_whole hx hy
  rw [e, compare_ite]
  by_cases h1 : X < Y
  · rw [if_pos h1, if_pos h1]; cases o <;> rfl
  · rw [if_neg h1, if_neg h1]
    by_cases h2 : X = Y
    · rw [if_pos h2, if_pos h2]; cases o <;> rfl
    · rw [if_neg h2, if_neg h2]; cases o <;> rfl
open Jvm.FP Jvm.FP.Core in
theorem own_nn {R : Int} {x : UInt64} (hW : Whole R (val64 x)) : Jvm.Free.Fl.NoNaN64 x := Jvm.Free.Fl.noNaN64_no.mpr ((notNaN_iff x).mpr (Whole.ne_nan hW))
open Jvm.FP Jvm.FP.Core in
theorem own_2k : Whole 2048 (val64 4656722014701092864) := by
  rw [show val64 4656722014701092864 = .fin false 4503599627370496 (-41) by decide +kernel]; show (signed _ _ : Int) = _; decide +kernel
theorem own_r55 {x : Int} (h : x.natAbs < 2 ^ 53) : own_rI (x * 36028797018963968) = x * 36028797018963968 := by
  rw [show x * 36028797018963968 = 2048 * (2048 * (2048 * (2048 * (2048 * x)))) by omega, own_rI2048, own_rI2048, own_rI2048, own_rI2048, own_rI2048, own_rIs h]
open Jvm.FP Jvm.FP.Core in
theorem own_wl (a : Int64) : Whole (own_rI a.toInt) (val64 (FP.l2d a)) := by
  show Whole _ (val64 (Core.l2d a))
  rw [val64_l2d]
  have := a.toInt_lt; have := a.le_toInt
  exact own_rnd2 (whole_ofInt a.toInt) (Nat.lt_of_le_of_lt (show a.toInt.natAbs ≤ 2 ^ 63 by omega) (by decide))
open Jvm.FP Jvm.FP.Core in
theorem own_got {tu lo : Int64} (h1 : -4 ≤ tu.toInt) (h2 : tu.toInt ≤ 4) (hl : lo.toInt % 2048 = 0) : Jvm.Free.Fl.NoNaN64 (FP.dmul (FP.l2d tu) 4895412794951729152) ∧ Jvm.Free.Fl.NoNaN64 (FP.dadd (FP.dmul (FP.l2d tu) 4895412794951729152) (FP.l2d lo)) ∧ Whole (own_rI (tu.toInt * 18446744073709551616 + lo.toInt)) (val64 (FP.dadd (FP.dmul (FP.l2d tu) 4895412794951729152) (FP.l2d lo))) := by
  have b1 := lo.toInt_lt; have b2 := lo.le_toInt
  have w1 : Whole tu.toInt (val64 (FP.l2d tu)) := by have := own_wl tu; rwa [own_rIs (by omega)] at this
  have w2 : Whole (tu.toInt * 18446744073709551616) (val64 (FP.dmul (FP.l2d tu) 4895412794951729152)) := by
    show Whole _ (val64 (Core.dmul _ _))
    rw [val64_dmul]
    have := own_rnd2 (whole_product w1 own_64) (Nat.lt_of_le_of_lt (show (tu.toInt * 18446744073709551616).natAbs ≤ 2 ^ 70 by omega) (by decide))
    have e1 : tu.toInt * 18446744073709551616 = (512 * tu.toInt) * 36028797018963968 := by omega
    rw [e1] at this ⊢
    rwa [own_r55 (by omega)] at this
  have w3 : Whole lo.toInt (val64 (FP.l2d lo)) := by
    have := own_wl lo
    have e2 : lo.toInt = 2048 * (lo.toInt / 2048) := by omega
    rw [e2, own_rI2048, own_rIs (by omega), ← e2] at this
    exact this
  have w4 : Whole (own_rI (tu.toInt * 18446744073709551616 + lo.toInt)) (val64 (FP.dadd (FP.dmul (FP.l2d tu) 4895412794951729152) (FP.l2d lo))) := by
    show Whole _ (val64 (Core.dadd _ _))
    rw [val64_dadd]
    exact own_rnd2 (whole_sum w2 w3) (Nat.lt_of_le_of_lt (show (tu.toInt * 18446744073709551616 + lo.toInt).natAbs ≤ 2 ^ 70 by omega) (by decide))
  exact ⟨own_nn w2, own_nn w4, w4⟩
open Jvm.FP Jvm.FP.Core in
theorem own_fun {i j : Int} {d : Datum} (h : Whole i d) (k : Whole j d) : i = j := by
  have a := order_whole h k; have b := order_whole h h
  rw [a] at b
  have e : compare i j = compare i i := Option.some.inj b
  rw [compare_ite, compare_ite] at e
  by_cases h1 : i < j
  · rw [if_pos h1] at e; simp at e
  · by_cases h2 : i = j
    · exact h2
    · rw [if_neg h1, if_neg h2] at e; simp at e
open Jvm.FP Jvm.FP.Core in
theorem own_want {k : Int64} (h1 : -72057594037927936 ≤ k.toInt) (h2 : k.toInt ≤ 72057594037927936) : Jvm.Free.Fl.NoNaN64 (FP.dmul (FP.l2d k) 4656722014701092864) ∧ Whole (2048 * own_rI k.toInt) (val64 (FP.dmul (FP.l2d k) 4656722014701092864)) := by
  have w1 := own_wl k
  have hb : (own_rI k.toInt).natAbs ≤ 2 ^ 58 := by
    have := own_rle k.toInt.natAbs
    unfold own_rI; split <;> omega
  have idem : own_rI (own_rI k.toInt) = own_rI k.toInt := own_fun (own_rnd2 (whole_ofInt (own_rI k.toInt)) (Nat.lt_of_le_of_lt hb (by decide))) (own_again w1)
  have w2 : Whole (2048 * own_rI k.toInt) (val64 (FP.dmul (FP.l2d k) 4656722014701092864)) := by
    show Whole _ (val64 (Core.dmul _ _))
    rw [val64_dmul]
    have := own_rnd2 (whole_product w1 own_2k) (Nat.lt_of_le_of_lt (show (own_rI k.toInt * 2048).natAbs ≤ 2 ^ 70 by omega) (by decide))
    rwa [Int.mul_comm, own_rI2048, idem] at this
  exact ⟨own_nn w2, w2⟩
open Jvm.FP Jvm.FP.Core in
theorem own_same {tu lo k : Int64} (h1 : -4 ≤ tu.toInt) (h2 : tu.toInt ≤ 4) (hl : lo.toInt % 2048 = 0) (h3 : -72057594037927936 ≤ k.toInt) (h4 : k.toInt ≤ 72057594037927936) (h : tu.toInt * 18446744073709551616 + lo.toInt = 2048 * k.toInt) (o : CmpOp) : cmpValue (FP.dcmp (FP.dadd (FP.dmul (FP.l2d tu) 4895412794951729152) (FP.l2d lo)) (FP.dmul (FP.l2d k) 4656722014701092864)) o = 0 := by
  have a := (own_got h1 h2 hl).2.2
  rw [h, own_rI2048] at a
  rw [own_cv a (own_want h3 h4).2, if_neg (by omega), if_pos rfl]
end Jvm.RoadKit
namespace Jvm.RoadKit
open Sem ClassFile Op Lib Jvm.Stand Jvm.Free Jvm.LawKit
section OwnW
variable {p : Program} {l : Launch} {e : Env} {R : Room} {s : State} {m : MethodId} {args : Array Value} {below : List Frame} {meth : Method} {c : Code} {T : State} {locs : List Loc} {cells slots : Nat}
/-- what a contract's end says where constants may have been interned -/
def FinW (s : State) (Q : Option Value → Heap → List Loc → Prop) (C S : Nat) : State → Outcome → Prop := fun s₂ o => ∃ v L, o = .returned v ∧ Q v s₂.heap L ∧ ReturnedEndW s o s₂ L C S
theorem Goes.retNW {vm1 : Vm} (X : Stand p l e R (s.setVm vm1) m args below meth c T locs cells slots) (hx : p.tables.exec = Jvm.exec) (hlocks : meth.locks = false) {k : Nat} (hS : s.Since vm1 k) (hk : k ≤ T.heap.size) {pc : Nat} {Ls : Array Slot} {z : Int32} {t : FieldType} {rest : List Value} (hret : meth.sig.returnType = some t) (ht : t = .boolean ∨ t = .byte ∨ t = .char ∨ t = .short)
    (hd : decode c.code pc = .ok (.ireturn, 1)) {Q : Option Value → Heap → List Loc → Prop} {C S : Nat} (hc : cells ≤ C) (hs : slots ≤ S) (hQ : Q (some (.int (nar t z))) T.heap locs) : Goes p e below (FinW s Q C S) (T.setTop (mkF m pc Ls (.int z :: rest))) := by
  obtain ⟨fs, hr, hrun, hended, h1, h2, h3, h4⟩ := X.leaveW hS hk (v := some (.int (nar t z))) (fun h => by rw [hret] at h; cases h) hlocks
  exact ⟨_, _, Jvm.RoadKit.retN X hx hret ht hd hr, hrun, hended, _, _, rfl, hQ, h1, h2, h3, h4.mono hc hs⟩
end OwnW
end Jvm.RoadKit
namespace Jvm.RoadKit
open Sem ClassFile Op Lib Jvm.Stand Jvm.Free Jvm.LawKit
section OwnT
variable {p : Program} {l : Launch} {e : Env} {R : Room} {s : State} {m : MethodId} {args : Array Value} {below : List Frame} {meth : Method} {c : Code} {U : State} {Ls : List Loc} {c0 s0 : Nat}
theorem own_ext_same {s s' : State} {k n : Nat} (h : s.sameButNew s' [] k n) : Ext s.heap s'.heap := by
  refine ⟨h.2.1, fun a cl q => ?_⟩
  obtain ⟨c', q1, q2, q3, q4⟩ := h.2.2.2.2.2 a cl q
  rw [q1, q2]
  have : c'.slots = cl.slots := by
    apply Array.ext_getElem?
    intro i; exact q4 i (by simp)
  rw [this]
/-- a callee by its free law, whatever its end -/
theorem own_calls (X : Stand p l e R s m args below meth c U Ls c0 s0) {y : MethodName} {S : Spec} {P : Array Value → State → Prop} {K : Program → Env → List Frame → State → Array Value → Prop} {Q : Array Value → State → Outcome → State → Prop} (hM : MetFree l y S P K Q)
    {g : JFrame} (hg : g.method = m) (hsize : g.locals.size = c.maxLocals) {ig : Instr} {len : Nat} (hdg : decode c.code g.pc = .ok (ig, len)) {mk : MethodId} (hn : U.methodNamed? y = some mk) {methY : Method} {cY : Code} (hmY : U.vm.method? mk = some methY) (hcY : methY.code = some cY) {a : Array Value} (hz : (Cond.initialized y.cls).before a U = true)
    (hframes : S.room.frames + 1 ≤ R.frames) (hlocals : 2 * g.monitorRoom + (g.stack.map fun v => v.category).sum + (cY.maxLocals + 11) + S.room.locals ≤ R.locals) (h4 : c0 + S.room.cells ≤ R.cells) (h5 : s0 + S.room.slots ≤ R.slots) (h1 : S.pre.before a U = true) (hP : P a (U.calling g mk a)) (hK : K p e (U.setTop g).frames (U.calling g mk a) a) :
    ∃ o s₂, Steps p.tables e below (doInvoke e (U.setTop g) [] mk a).1 s₂ ∧ Ended s₂ (.java g :: U.frames.tail) o ∧ Q a (U.calling g mk a) o s₂ := by
  have hAt : At U g.method c below := by rw [hg]; exact X.here
  obtain ⟨kY, hkY, -⟩ := className_of_methodNamed hn
  have happ : S.appliesLoose y e.platform (U.calling g mk a) = true :=
    Spec.appliesLoose_calling (g := g) hAt hdg hn hkY (Cond.initialized_spec (findClass_of_methodNamed hn) hkY hz) (X.room_calling (g := g) (R' := S.room) hsize hmY hcY hframes (by omega) h4 h5) h1
  obtain ⟨mid, hmid⟩ := hAt.above
  obtain ⟨o, s₂, hsteps, -, hend, hq⟩ := Steps.callFree hM p X.admits X.cas X.clock (acts := []) (show (U.setTop g).frames = (.java g :: mid) ++ below by rw [State.frames_setTop' g hAt.top, hmid]; rfl) happ hP hK
  rw [State.frames_setTop' g hAt.top] at hend
  exact ⟨o, s₂, hsteps, hend, hq⟩
/-- it threw: the caller's frame beneath what is thrown; constants may have been interned -/
theorem own_thrown (X : Stand p l e R s m args below meth c U Ls c0 s0) {g : JFrame} (hg : g.method = m) {mk : MethodId} {a : Array Value} {s₂ : State} {v : Addr} {L : List Loc} {k n : Nat} (hend : Ended s₂ (.java g :: U.frames.tail) (.threw v))
    (hW : U.Warmed39 s₂.vm) (hB : U.Booked s₂.vm s₂.heap.size) (hsm : (U.calling g mk a).sameButNew ({ s₂ with vm := (U.calling g mk a).vm } : State) L k n) :
    ∃ T', T'.heap = s₂.heap ∧ T'.vm = s₂.vm ∧ Stand p l e R (s.setVm T'.vm) m args below meth c T' (Ls ++ L) (c0 + k) (s0 + n) ∧ s.Since T'.vm T'.heap.size ∧ s₂ = (T'.setTop g).pushFrame (.throwing v) := by
  have hAt : At U g.method c below := by rw [hg]; exact X.here
  obtain ⟨e2, q⟩ := hsm
  have hf : s₂.frames = .throwing v :: .java g :: U.frames.tail := hend
  obtain ⟨g₀, hg0⟩ := Option.isSome_iff_exists.mp hAt.top
  obtain ⟨r, hr⟩ := State.topJava?_eq_some.mp hg0
  obtain ⟨T', hT⟩ : ∃ T', T' = ({ U with heap := s₂.heap, slotsUsed := s₂.slotsUsed } : State).setVm s₂.vm := ⟨_, rfl⟩
  have hsame : U.sameButNew ({ U with heap := s₂.heap, slotsUsed := s₂.slotsUsed } : State) L k n := by
    obtain ⟨t, ht, -⟩ := State.frames_cons hr
    exact ⟨by show ({ U with heap := s₂.heap, slotsUsed := s₂.slotsUsed } : State) = { U.setFrames U.frames with heap := s₂.heap, slotsUsed := s₂.slotsUsed }; rw [State.setFrames_self ht], q⟩
  subst hg
  obtain ⟨X', hS⟩ := X.movedW (T₂ := T') (by rw [hT]; exact (X.here.setHeapUsed s₂.heap s₂.slotsUsed).setVm hW.alike) (by rw [hT]; exact X.tail) (by rw [hT]; rfl) (by rw [hT]; rfl) (by rw [hT]; exact hW) (by rw [hT]; exact hB) (by rw [hT]; exact hsame)
  refine ⟨T', by rw [hT]; rfl, by rw [hT]; rfl, X', hS, ?_⟩
  have e3 : s₂ = ({ (U.calling g mk a).setFrames s₂.frames with heap := s₂.heap, slotsUsed := s₂.slotsUsed } : State).setVm s₂.vm := by
    have : s₂ = ({ s₂ with vm := (U.calling g mk a).vm } : State).setVm s₂.vm := rfl
    rw [e2] at this; exact this
  have hr' : T'.frames = .java g₀ :: r := by rw [hT]; exact hr
  refine e3.trans ?_
  rw [hf, State.calling_eq hAt.top, State.setFrames_setFrames, State.pushFrame, State.frames_setTop _ hr', State.setTop_of_frames _ hr', State.setFrames_setFrames, hr, hT]
  rfl
end OwnT
end Jvm.RoadKit
namespace Jvm.RoadKit
open Sem ClassFile Op Lib Jvm.Stand Jvm.Free Jvm.LawKit
section OwnE2
variable {p : Program} {l : Launch} {e : Env} {R : Room} {s : State} {m : MethodId} {args : Array Value} {below : List Frame} {meth : Method} {c : Code} {T : State} {locs : List Loc} {cells slots : Nat}
/-- what changed at one object alone -/
theorem own_keep_same {s s' : State} {L : List Loc} {k n : Nat} {a : Addr} (h : s.sameButNew s' L k n) (hL : ∀ y ∈ L, y.base = a) : Keep s.heap s'.heap [a] := by
  refine ⟨h.2.1, fun x cl q hx => ?_, fun x cl q => ?_⟩
  · obtain ⟨c', q1, q2, q3, q4⟩ := h.2.2.2.2.2 x cl q
    rw [q1, q2]
    have : c'.slots = cl.slots := by
      apply Array.ext_getElem?
      intro i
      refine q4 i fun hm => hx (List.mem_singleton.mpr (hL _ hm))
    rw [this]
  · obtain ⟨c', q1, q2, q3, q4⟩ := h.2.2.2.2.2 x cl q
    exact ⟨c', q1, by rw [q2], by rw [q2], q3⟩
/-- a body without handlers -/
theorem own_noexc {x : MethodName} {code : ByteArray} {ml : Nat} {ret : Option FieldType} {ws : List Cond} {rm : Room} {s₁ : State} (Bd : BodyLoose p l x (head1 (Cond.code x code ml ret :: ws) rm) code ml ret e s m args below meth c s₁) : c.exceptionTable.toList = [] := by
  obtain ⟨meth', c', h1, h2, -, -, -, -, h7, -⟩ := Cond.code_spec Bd.named (atoms_spec (ws := Cond.code x code ml ret :: ws) Bd.pre _ (List.mem_cons_self ..))
  have hc := Bd.here.code
  rw [Bd.state] at hc
  have hc' : s.code? m = some c := hc
  have e1 : meth'.code = some c := by
    have h9 := h1
    simp only [Vm.method?, Option.bind_eq_bind, Option.bind_eq_some_iff] at h9
    obtain ⟨k9, hk9, hm9⟩ := h9
    simpa [State.code?, hk9, hm9] using hc'
  cases h2.symm.trans e1
  simpa using h7
theorem own_exc {x : MethodName} {code : ByteArray} {ml : Nat} {ret : Option FieldType} {hs : List (Nat × Nat × Nat × Nat)} {ws : List Cond} {rm : Room} {s₁ : State} (Bd : BodyLoose p l x (head1 (Cond.codeWith x code ml ret hs :: ws) rm) code ml ret e s m args below meth c s₁) : c.exceptionTable.toList.map (fun h => (h.startPc, h.endPc, h.handlerPc, h.catchType)) = hs := by
  obtain ⟨m', meth', c', h0, h1, h2, -, -, h7, -⟩ := Cond.codeWith_spec (atoms_spec (ws := Cond.codeWith x code ml ret hs :: ws) Bd.pre _ (List.mem_cons_self ..))
  cases Bd.named.symm.trans h0
  have hc := Bd.here.code
  rw [Bd.state] at hc
  have hc' : s.code? m = some c := hc
  have e1 : meth'.code = some c := by
    have h9 := h1
    simp only [Vm.method?, Option.bind_eq_bind, Option.bind_eq_some_iff] at h9
    obtain ⟨k9, hk9, hm9⟩ := h9
    simpa [State.code?, hk9, hm9] using hc'
  cases h2.symm.trans e1
  exact h7
/-- what a contract's end says where it throws -/
def FinT (s : State) (Q : Addr → Heap → List Loc → Prop) (C S : Nat) : State → Outcome → Prop := fun s₂ o => ∃ x L, o = .threw x ∧ Q x s₂.heap L ∧ s.Warmed39 s₂.vm ∧ s.Booked s₂.vm s₂.heap.size ∧ s.sameButNew ({ s₂ with vm := s.vm } : State) L C S
theorem Goes.throwT {vm1 : Vm} (X : Stand p l e R (s.setVm vm1) m args below meth c T locs cells slots) (hx : p.tables.exec = Jvm.exec) (hlocks : meth.locks = false) {k : Nat} (hS : s.Since vm1 k) (hk : k ≤ T.heap.size) (hno : c.exceptionTable.toList = []) {pc : Nat} {Ls : Array Slot} {a : Addr} {rest : List Value}
    (hd : decode c.code pc = .ok (.athrow, 1)) {Q : Addr → Heap → List Loc → Prop} {C S : Nat} (hc : cells ≤ C) (hs : slots ≤ S) (hQ : Q a T.heap locs) : Goes p e below (FinT s Q C S) (T.setTop (mkF m pc Ls (.ref a :: rest))) := by
  obtain ⟨h1, h2, h3, h4, h5⟩ := X.athrowLeaves hx (g := mkF m pc Ls (.ref a :: rest)) rfl rfl rfl (by rw [hno]; intro x hx; cases hx) rfl hd hlocks
  obtain ⟨q1, q2, q3⟩ := hS.ended (U := T.setFrames (.throwing a :: below)) h4 hk h5
  exact ⟨_, _, h1, h2, h3, a, locs, rfl, hQ, q1, q2, q3.mono hc hs⟩
/-- a static callee by a contract that throws: the caller's frame beneath what is thrown -/
theorem own_tcall {Z : State} {h : Heap} {own : String} {index : Nat} {y : MethodName} {bytes : ByteArray} {maxL : Nat} {ret : Option FieldType} {rm : Room} {as' : Array Value} {a0 : Array Value} {Q : Addr → Heap → List Loc → Prop}
    (X : Stand p l e R s m args below meth c T locs cells slots) (hx : p.tables.exec = Jvm.exec) (hZ : Z.Warmed39 s.vm)
    (hM : MetFree l y (head1 [Cond.code y bytes maxL ret] rm) (fun a U => a = as' ∧ Z.Warmed39 U.vm ∧ U.heap = h) (fun _ _ bl s _ => s.vm.MethodsKnown ∧ s.vm.FramesKnown bl) (fun _ U o U' => FinT U Q rm.cells rm.slots U' o))
    (hown : s.vm.findClass own = some m.cls) (wl : (Cond.methodLink own index y).before a0 Z = true) (ws : (Cond.static y).before a0 Z = true) (wi : (Cond.initialized y.cls).before a0 Z = true) (wc : (Cond.code y bytes maxL ret).before a0 Z = true) (hy : y.cls ≠ "java/lang/invoke/MethodHandle" ∧ y.cls ≠ "java/lang/invoke/VarHandle")
    (hTK : s.vm.MethodsKnown) (hBelow : s.vm.FramesKnown below) (eT : T.heap = h) {W : Nat} (hf : rm.frames + 1 ≤ R.frames) (hlo : W + (maxL + 11) + rm.locals ≤ R.locals) (hc : cells + rm.cells ≤ R.cells) (hsl : slots + rm.slots ≤ R.slots)
    {g : JFrame} (hg : g.method = m) (hsize : g.locals.size = c.maxLocals) {argsL rest : List Value} (hlen : ∀ sig, parseMethodDescriptor y.desc = some sig → argsL.length = sig.parameters.length) (hstack : g.stack = argsL.reverse ++ rest) (ha : argsL.toArray = as') (hW : 2 * g.monitorRoom + (rest.map fun v => v.category).sum ≤ W) (hdg : decode c.code g.pc = .ok (.invokestatic index, 3)) :
    ∃ (x : Addr) (T' : State) (L : List Loc), Q x T'.heap L ∧ Stand p l e R (s.setVm T'.vm) m args below meth c T' (locs ++ L) (cells + rm.cells) (slots + rm.slots) ∧ s.Since T'.vm T'.heap.size ∧ Z.Warmed39 (s.setVm T'.vm).vm ∧ (s.setVm T'.vm).vm.findClass own = some m.cls ∧
      Steps p.tables e below (T.setTop g) ((T'.setTop { g with stack := rest }).pushFrame (.throwing x)) := by
  have hcode : (Cond.code y bytes maxL ret).before args s = true := mvT hZ wc
  obtain ⟨mk, hnamed⟩ := Cond.code_named hcode
  obtain ⟨methM, cM, hmethM, hcM, -, hmlM, -, -, -, hsigM⟩ := Cond.code_spec hnamed hcode
  have hstatic : methM.isStatic = true := Cond.static_spec hnamed hmethM (mvT (args := args) hZ ws)
  obtain ⟨kP, hkP, -⟩ := className_of_methodNamed hnamed
  have hinitP : kP.init = .initialized := Cond.initialized_spec (findClass_of_methodNamed hnamed) hkP (mvT (args := args) hZ wi)
  obtain ⟨vm₁, X₁, hstep⟩ := X.invokestatic hx hown (mvT hZ wl) hnamed hmethM hstatic hkP hinitP hy (g := g) hg (argsL := argsL) (rest := rest) (hlen _ hsigM) hstack hdg
  have hU : Z.Warmed39 (T.setVm vm₁).vm := wtrans hZ X₁.warmed
  obtain ⟨meth2, c2, g1, g2, -, g4, -⟩ := Cond.code_spec (X₁.named hnamed) (mv hU wc (args := argsL.toArray))
  obtain ⟨o, s₂, st, hend, x, L, rfl, hq, hw9, hb9, hsm⟩ := own_calls X₁ hM (g := { g with stack := rest }) hg hsize (ig := .invokestatic index) (len := 3) hdg (X₁.named hnamed) g1 g2 (a := argsL.toArray) (mv hU wi) hf (by rw [g4]; show 2 * g.monitorRoom + (rest.map fun v => v.category).sum + (maxL + 11) + rm.locals ≤ _; omega) hc hsl (by show (Cond.and _ .tt).before _ _ = true; rw [Cond.before_and, mv hU wc]; rfl) ⟨ha, hU, eT⟩ (known_frames X₁ (g := { g with stack := rest }) hg hTK hBelow)
  obtain ⟨T', e1, e2, X', hS, e3⟩ := own_thrown X₁ (g := { g with stack := rest }) hg hend hw9 hb9 hsm
  refine ⟨x, T', L, by rw [e1]; exact hq, X', hS, State.Warmed39.trans (t := s) hZ hS.1, by rw [show (s.setVm T'.vm).vm = T'.vm from rfl, hS.1.alike.findClass]; exact hown, ?_⟩
  exact hstep _ fun acts => by rw [doInvoke_state]; rw [← e3]; exact st
/-- it is caught: one handler, of the very class -/
theorem own_caught {Z : State} {a0 : Array Value} (X : Stand p l e R s m args below meth c T locs cells slots) (hZ : Z.Warmed39 s.vm) {own name : String} (hown : s.vm.findClass own = some m.cls) {a1 b1 hp ct : Nat} (hex : c.exceptionTable.toList.map (fun h => (h.startPc, h.endPc, h.handlerPc, h.catchType)) = [(a1, b1, hp, ct)])
    {x : Addr} {g : JFrame} (hg : g.method = m) {s₀ : State} (hcome : Steps p.tables e below s₀ ((T.setTop g).pushFrame (.throwing x))) (h1 : a1 ≤ g.pc) (h2 : g.pc < b1) (h0 : ct ≠ 0) (wl : (Cond.classLink own ct name).before a0 Z = true) (E : Exa Z T.heap x name) :
    ∃ T' : State, Stand p l e R s m args below meth c T' locs cells slots ∧ T'.heap = T.heap ∧ Steps p.tables e below s₀ (T'.setTop { g with pc := hp, stack := [.ref x] }) := by
  obtain ⟨en, hen, q⟩ : ∃ en, c.exceptionTable.toList = [en] ∧ (en.startPc, en.endPc, en.handlerPc, en.catchType) = (a1, b1, hp, ct) := by
    cases hL : c.exceptionTable.toList with
    | nil => rw [hL] at hex; simp at hex
    | cons y ys =>
      rw [hL] at hex
      cases ys with
      | nil => exact ⟨y, rfl, by simpa using hex⟩
      | cons z zs => simp at hex
  simp only [Prod.mk.injEq] at q
  obtain ⟨q1, q2, q3, q4⟩ := q
  obtain ⟨cell, k, e1, e2, e3, e4, -⟩ := id E
  obtain ⟨cell', cT, i1, i2, i3⟩ := Ins.self E
  cases e1.symm.trans i1
  simp only [Bool.and_eq_true] at i3
  obtain ⟨vm', X', st⟩ := X.thenCaughtLink x hg hcome hown [] en [] hen (by intro y hy; cases hy) (by simp [covers, q1, q2, h1, h2]) (by rw [q4]; exact h0) (by rw [q4]; exact mvT hZ wl) (by rw [hZ.alike.findClass]; exact i2) e1 e4 (by rw [hZ.alike.assignable]; exact i3.2)
  rw [q3] at st
  exact ⟨_, X', rfl, st⟩
/-- it returned; constants may have been interned -/
theorem own_returned {U : State} {Ls : List Loc} {c0 s0 : Nat} (X : Stand p l e R s m args below meth c U Ls c0 s0) {g : JFrame} (hg : g.method = m) {ig : Instr} {len : Nat} (hdg : decode c.code g.pc = .ok (ig, len)) {mk : MethodId} {a : Array Value} {s₂ : State} {v : Option Value} {L : List Loc} {k n : Nat} (hend : Ended s₂ (.java g :: U.frames.tail) (.returned v))
    (hW : U.Warmed39 s₂.vm) (hB : U.Booked s₂.vm s₂.heap.size) (hsm : (U.calling g mk a).sameButNew ({ s₂ with vm := (U.calling g mk a).vm } : State) L k n) :
    ∃ T', T'.heap = s₂.heap ∧ T'.vm = s₂.vm ∧ Stand p l e R (s.setVm T'.vm) m args below meth c T' (Ls ++ L) (c0 + k) (s0 + n) ∧ s.Since T'.vm T'.heap.size ∧ U.heap.size ≤ T'.heap.size ∧ s₂ = T'.setTop { g with pc := g.pc + len, stack := v.toList ++ g.stack } := by
  have hAt : At U g.method c below := by rw [hg]; exact X.here
  obtain ⟨e2, q⟩ := hsm
  obtain ⟨c₂, i₂, len₂, w1, w2, w3⟩ := hend
  have ec : c₂ = c := by
    have h9 : s₂.code? g.method = U.code? g.method := by rw [State.code?_eq, State.code?_eq, hW.alike.method?]
    exact Option.some.inj ((w1.symm.trans h9).trans hAt.code)
  subst ec
  have el : len₂ = len := by rw [hdg] at w2; cases w2; rfl
  subst el
  obtain ⟨g₀, hg0⟩ := Option.isSome_iff_exists.mp hAt.top
  obtain ⟨r, hr⟩ := State.topJava?_eq_some.mp hg0
  obtain ⟨T', hT⟩ : ∃ T', T' = ({ U with heap := s₂.heap, slotsUsed := s₂.slotsUsed } : State).setVm s₂.vm := ⟨_, rfl⟩
  have hsame : U.sameButNew ({ U with heap := s₂.heap, slotsUsed := s₂.slotsUsed } : State) L k n := by
    obtain ⟨t, ht, -⟩ := State.frames_cons hr
    exact ⟨by show ({ U with heap := s₂.heap, slotsUsed := s₂.slotsUsed } : State) = { U.setFrames U.frames with heap := s₂.heap, slotsUsed := s₂.slotsUsed }; rw [State.setFrames_self ht], q⟩
  subst hg
  obtain ⟨X', hS⟩ := X.movedW (T₂ := T') (by rw [hT]; exact (X.here.setHeapUsed s₂.heap s₂.slotsUsed).setVm hW.alike) (by rw [hT]; exact X.tail) (by rw [hT]; rfl) (by rw [hT]; rfl) (by rw [hT]; exact hW) (by rw [hT]; exact hB) (by rw [hT]; exact hsame)
  refine ⟨T', by rw [hT]; rfl, by rw [hT]; rfl, X', hS, by rw [hT]; exact hsame.2.1, ?_⟩
  have e3 : s₂ = ({ (U.calling g mk a).setFrames s₂.frames with heap := s₂.heap, slotsUsed := s₂.slotsUsed } : State).setVm s₂.vm := by
    have : s₂ = ({ s₂ with vm := (U.calling g mk a).vm } : State).setVm s₂.vm := rfl
    rw [e2] at this; exact this
  have hr' : T'.frames = .java g₀ :: r := by rw [hT]; exact hr
  refine e3.trans ?_
  rw [w3, State.calling_eq hAt.top, State.setFrames_setFrames, State.setTop_of_frames _ hr', hr, hT]
  rfl
/-- 'backOfSKL' for a callee with handlers -/
theorem own_backW {Z : State} {a0 : Array Value} {h : Heap} {y : MethodName} {bytes : ByteArray} {maxL : Nat} {ret : Option FieldType} {hs : List (Nat × Nat × Nat × Nat)} {rm : Room} {len W : Nat} {as' : Array Value} {Q : Option Value → Heap → List Loc → Prop}
    (hM : MetFree l y (head1 [Cond.codeWith y bytes maxL ret hs] rm) (fun a U => a = as' ∧ Z.Warmed39 U.vm ∧ U.heap = h) (fun _ _ bl s _ => s.vm.MethodsKnown ∧ s.vm.FramesKnown bl) (fun _ U o U' => ∃ v L, o = .returned v ∧ Q v U'.heap L ∧ ReturnedEndW U o U' L rm.cells rm.slots))
    (hZ : Z.Warmed39 s.vm) (wc : (Cond.codeWith y bytes maxL ret hs).before a0 Z = true) (wz : (Cond.initialized y.cls).before a0 Z = true) (hf : rm.frames + 1 ≤ R.frames) (hl : W + (maxL + 11) + rm.locals ≤ R.locals) (hTK : s.vm.MethodsKnown) (hBelow : s.vm.FramesKnown below) :
    BackS l R p e below s args y len W (fun A a => a = as' ∧ A.U.heap = h ∧ A.cells + rm.cells ≤ R.cells ∧ A.slots + rm.slots ≤ R.slots)
      (fun A _ v B => ∃ L, Q v B.U.heap L ∧ B.locs = A.locs ++ L ∧ B.cells = A.cells + rm.cells ∧ B.slots = A.slots + rm.slots) := by
  intro m meth c A g ig mk a X hg hsize hdg hW hn hp
  obtain ⟨U, Ls, c0, s0⟩ := A
  dsimp only [Pt.U, Pt.locs, Pt.cells, Pt.slots] at X hn hp ⊢
  have hU : Z.Warmed39 U.vm := wtrans hZ X.warmed
  obtain ⟨m1, meth2, c2, g0, g1, g2, -, g4, -⟩ := Cond.codeWith_spec (mv hU wc (args := a))
  cases hn.symm.trans g0
  obtain ⟨o, s₂, st, hend, v, L, rfl, hq, -, hw9, hb9, hsm⟩ := own_calls X hM (g := g) hg hsize (ig := ig) (len := len) hdg hn g1 g2 (a := a) (mv hU wz) hf (by rw [g4]; show 2 * g.monitorRoom + (g.stack.map fun v => v.category).sum + (maxL + 11) + rm.locals ≤ _; omega) hp.2.2.1 hp.2.2.2 (by show (Cond.and _ .tt).before _ _ = true; rw [Cond.before_and, mv hU wc]; rfl) ⟨hp.1, hU, hp.2.1⟩ (known_frames X hg hTK hBelow)
  obtain ⟨T', e1, e2, X', hS, hgr, e3⟩ := own_returned X hg hdg hend hw9 hb9 hsm
  refine ⟨v, ⟨T', Ls ++ L, c0 + rm.cells, s0 + rm.slots⟩, X', hS, hgr, ⟨L, by show Q v T'.heap L; rw [e1]; exact hq, rfl, rfl, rfl⟩, ?_⟩
  show Steps p.tables e below _ (T'.setTop _)
  rw [← e3]; exact st
end OwnE2
end Jvm.RoadKit
namespace Jvm.RoadKit
open Sem ClassFile Op Lib Jvm.Stand Jvm.Free Jvm.LawKit
section OwnE3
variable {p : Program} {l : Launch} {e : Env} {R : Room} {s : State} {m : MethodId} {args : Array Value} {below : List Frame} {meth : Method} {c : Code} {T : State} {locs : List Loc} {cells slots : Nat}
theorem Goes.retOW {vm1 : Vm} (X : Stand p l e R (s.setVm vm1) m args below meth c T locs cells slots) (hx : p.tables.exec = Jvm.exec) (hlocks : meth.locks = false) {k : Nat} (hS : s.Since vm1 k) (hk : k ≤ T.heap.size) {pc : Nat} {Ls : Array Slot} {w : Value} {t : FieldType} {i : Instr} {rest : List Value} (hret : meth.sig.returnType = some t) (hn : narrow t w = w)
    (hi : (i = .ireturn ∧ (t = .int ∨ t = .boolean ∨ t = .byte ∨ t = .char ∨ t = .short) ∧ ∃ z, w = .int z) ∨ (i = .lreturn ∧ t = .long ∧ ∃ z, w = .long z) ∨ (i = .dreturn ∧ t = .double ∧ ∃ z, w = .double z) ∨ (i = .freturn ∧ t = .float ∧ ∃ z, w = .float z) ∨ (i = .areturn ∧ t.isReference = true ∧ w.isRef = true))
    (hd : decode c.code pc = .ok (i, 1)) {Q : Option Value → Heap → List Loc → Prop} {C S : Nat} (hc : cells ≤ C) (hs : slots ≤ S) (hQ : Q (some w) T.heap locs) : Goes p e below (FinW s Q C S) (T.setTop (mkF m pc Ls (w :: rest))) := by
  obtain ⟨fs, hr, hrun, hended, h1, h2, h3, h4⟩ := X.leaveW hS hk (v := some w) (fun h => by rw [hret] at h; cases h) hlocks
  exact ⟨_, _, Jvm.RoadKit.retOut X hx hret hn hi hd hr, hrun, hended, _, _, rfl, hQ, h1, h2, h3, h4.mono hc hs⟩
theorem Goes.retVW {vm1 : Vm} (X : Stand p l e R (s.setVm vm1) m args below meth c T locs cells slots) (hx : p.tables.exec = Jvm.exec) (hlocks : meth.locks = false) {k : Nat} (hS : s.Since vm1 k) (hk : k ≤ T.heap.size) {pc : Nat} {Ls : Array Slot} (hret : meth.sig.returnType = none)
    (hd : decode c.code pc = .ok (.return_, 1)) {Q : Option Value → Heap → List Loc → Prop} {C S : Nat} (hc : cells ≤ C) (hs : slots ≤ S) (hQ : Q none T.heap locs) : Goes p e below (FinW s Q C S) (T.setTop (mkF m pc Ls [])) := by
  obtain ⟨fs, hr, hrun, hended, h1, h2, h3, h4⟩ := X.leaveW hS hk (v := none) (fun _ => rfl) hlocks
  exact ⟨_, _, X.returnOut hx hret hd hr, hrun, hended, _, _, rfl, hQ, h1, h2, h3, h4.mono hc hs⟩
/-- all that was written lies in one object -/
def own_ba (a : Addr) (L : List Loc) : Prop := ∀ y ∈ L, y.base = a
theorem own_ba.nil (a : Addr) : own_ba a [] := fun y hy => by cases hy
theorem own_ba.of {a : Addr} {i : Nat} (X : Stand p l e R s m args below meth c T (locs ++ [⟨a, i⟩]) cells slots) (B : own_ba a locs) : own_ba a (locs ++ [⟨a, i⟩]) := fun y hy => by
  rcases List.mem_append.mp hy with h | h
  · exact B y h
  · rw [List.mem_singleton.mp h]
theorem own_ba.app {a : Addr} {L L3 : List Loc} (B : own_ba a L) (C : ∀ y ∈ L3, y.base = a) : own_ba a (L ++ L3) := fun y hy => (List.mem_append.mp hy).elim (B y) (C y)
theorem own_ba.fr {a : Addr} {L : List Loc} {n0 : Nat} (B : own_ba a L) (h : n0 ≤ a) : Fr n0 L := fun y hy => by rw [B y hy]; exact h
theorem fits_refA {v : Value} {t : FieldType} (h : v.isRef = true) : fits (.array t) v = true := by rcases ref_cases h with rfl | ⟨_, rfl⟩ <;> rfl
end OwnE3
end Jvm.RoadKit
namespace Jvm.RoadKit
open Sem ClassFile Op Lib Bundle Jvm.Stand Jvm.Free Jvm.LawKit Jvm.Free.Exc LibCode.Throwable
/-- the word that the sheets lack -/
abbrev own_no : Cond := .lays tN tN "suppressedExceptions" listD
def own_tw (rc : String) (args : Array Value) (s : State) : Prop := ∀ d ∈ excAtoms rc, d ≠ own_no → d.before args s = true
/-- Throwable's parts, found by the words of a class rc below her -/
theorem own_thr {args : Array Value} {s : State} {pl : Platform} {rc : String} (hrc : rc ≠ tN) (ho : pl.frameOwnsMonitors = true) (hf : pl.finalization = false) (hp : pl.magicAccessors = ({} : Platform).magicAccessors) (W : own_tw rc args s) :
    ∃ T : ThrowableC, T.Links pl s ∧ s.vm.findClass tN = some T.cT ∧ s.methodNamed? tFill = some T.fill ∧ s.methodNamed? tFill0 = some T.fill0 ∧ s.fieldFound? tN "stackTrace" steD = some (T.cT, T.kT, T.i17, T.fStack) ∧ T.fStack.name = "stackTrace" ∧ T.fStack.type = .array (.object "java/lang/StackTraceElement") ∧ s.fieldFound? tN "UNASSIGNED_STACK" steD = some (T.cT, T.kT, T.i13, T.fUnassigned) ∧ ∃ cell, s.heap[T.aS]? = some cell ∧ cell.vm.isStatics = true := by
  have q : ∀ d ∈ excAtoms rc, d ≠ own_no → d.holds args s none s [] = true := fun d h1 h2 => W d h1 h2
  obtain ⟨⟨cT, j0⟩, g0, n0, e0, hnat, hnc, hnl, hns⟩ := Cond.native_spec (q (.native tFill0) (by simp [excAtoms, throwableAtoms]) (by simp))
  have hcT : s.vm.findClass tN = some cT := findClass_of_methodNamed n0
  obtain ⟨-, kT, -, -, hkT, -, -, -, -, hni⟩ := Cond.superclass_spec hcT (q (.superclass tN "java/lang/Object") (by simp [excAtoms, throwableAtoms]) (by simp))
  obtain ⟨kT', hkT', hnm⟩ := Vm.findClass_spec hcT
  cases hkT.symm.trans hkT'
  obtain ⟨a7, i7, f7, l7, r7, p7, s7, u7, m7, t7, x7⟩ := Cond.ownField (t := .object tN) hcT hkT (by decide +kernel) (q (.fieldLink tN 7 tN "cause" thD) (by simp [excAtoms, throwableAtoms]) (by simp)) (q (.lays rc tN "cause" thD) (by simp [excAtoms, throwableAtoms]) (by simp)) pl hp
  obtain ⟨a17, i17, f17, l17, r17, p17, s17, u17, m17, t17, x17⟩ := Cond.ownField (t := .array (.object "java/lang/StackTraceElement")) hcT hkT (by decide +kernel) (q (.fieldLink tN 17 tN "stackTrace" steD) (by simp [excAtoms, throwableAtoms]) (by simp)) (q (.lays rc tN "stackTrace" steD) (by simp [excAtoms, throwableAtoms]) (by simp)) pl hp
  have wsu := q (.lays rc tN "suppressedExceptions" listD) (by simp [excAtoms, throwableAtoms]) (by simp [hrc])
  obtain ⟨a24, i24, f24, l24, r24, p24, s24, u24, m24, t24, x24⟩ := Cond.ownField (t := .object "java/util/List") hcT hkT (by decide +kernel) (q (.fieldLink tN 24 tN "suppressedExceptions" listD) (by simp [excAtoms, throwableAtoms]) (by simp)) wsu pl hp
  obtain ⟨a13, i13, f13, aS, cS, l13, r13, p13, s13, -, -, hst, hcS, hiS, -, -, x13⟩ := Cond.ownStatic (t := .array (.object "java/lang/StackTraceElement")) hcT hkT (by decide +kernel) (q (.fieldLink tN 13 tN "UNASSIGNED_STACK" steD) (by simp [excAtoms, throwableAtoms]) (by simp)) (q (.laysStatic tN "UNASSIGNED_STACK" steD) (by simp [excAtoms, throwableAtoms]) (by simp)) pl hp
  obtain ⟨a20, i20, f20, _, _, l20, r20, p20, s20, -, -, -, -, -, -, -, x20⟩ := Cond.ownStatic (t := .object "java/util/List") hcT hkT (by decide +kernel) (q (.fieldLink tN 20 tN "SUPPRESSED_SENTINEL" listD) (by simp [excAtoms, throwableAtoms]) (by simp)) (q (.laysStatic tN "SUPPRESSED_SENTINEL" listD) (by simp [excAtoms, throwableAtoms]) (by simp)) pl hp
  -- her message's field
  obtain ⟨crc, krc, c1, k1, iM, fM, hcr, hkr, xM, sM, uM, -⟩ := Cond.lays_spec (q (.lays rc tN "detailMessage" msgD) (by simp [excAtoms, throwableAtoms]) (by simp))
  -- two fields, two slots: by the layout of rc
  have apart : f17.slot ≠ f24.slot := by
    obtain ⟨-, d1, y1, z1⟩ := Cond.laysAt hcr hkr x17 (q (.lays rc tN "stackTrace" steD) (by simp [excAtoms, throwableAtoms]) (by simp))
    obtain ⟨-, d2, y2, z2⟩ := Cond.laysAt hcr hkr x24 wsu
    exact Cond.laysApart y1 y2 z1 z2 (by rw [m17, m24]; decide)
  -- methods
  obtain ⟨jF, gF, nF, eF, atF, stF, abF, -, -⟩ := Cond.ownMethod (x := tFill) hcT hkT (q (.instanceMethod tFill) (by simp [excAtoms, throwableAtoms]) (by simp))
  obtain ⟨gF', kF, eF', cF, bF, lF, rF, lkF, -, sgF⟩ := Cond.codeSync_spec nF (q (.codeSync tFill Fill.code 1 (some (.object tN))) (by simp [excAtoms, throwableAtoms]) (by simp))
  cases eF.symm.trans eF'
  obtain ⟨j0', g0', n0', e0', at0, st0, ab0, nm0, ds0⟩ := Cond.ownMethod (x := tFill0) hcT hkT (q (.instanceMethod tFill0) (by simp [excAtoms, throwableAtoms]) (by simp))
  cases n0.symm.trans n0'
  cases e0.symm.trans e0'
  obtain ⟨mO, gO, nO, eO, stO, abO⟩ := Cond.instanceMethod_spec (q (.instanceMethod oInit) (by simp [excAtoms, throwableAtoms]) (by simp))
  obtain ⟨gO', kO, eO', cO, bO, lO, -, lkO, -, sgO⟩ := Cond.code_spec nO (q (.code oInit ⟨#[0xb1]⟩ 1 none) (by simp [excAtoms, throwableAtoms]) (by simp))
  cases eO.symm.trans eO'
  obtain ⟨clO, hclO, nmO⟩ := Vm.findClass_spec (findClass_of_methodNamed nO)
  obtain ⟨nO1, nO2⟩ := name_of_methodNamed nO eO
  obtain ⟨b1, v1, cf, L1, R1, hcf, P1⟩ := Cond.linkedMethod hcT hkT nO (q (.methodLink tN 1 oInit) (by simp [excAtoms, throwableAtoms]) (by simp)) pl hp
  obtain ⟨b27, v27, cf2, L27, R27, hcf2, P27⟩ := Cond.linkedMethod hcT hkT nF (q (.methodLink tN 27 tFill) (by simp [excAtoms, throwableAtoms]) (by simp)) pl hp
  obtain ⟨b202, v202, cf3, L202, R202, hcf3, P202⟩ := Cond.linkedMethod hcT hkT n0 (q (.methodLink tN 202 tFill0) (by simp [excAtoms, throwableAtoms]) (by simp)) pl hp
  cases hcf.symm.trans hcf2
  cases hcf.symm.trans hcf3
  have sig : ∀ {d : String} {x : MethodDescriptor} {ps : List FieldType} {r : Option FieldType}, parseMethodDescriptor d = some x → parseMethodDescriptor d = some ⟨ps, r⟩ → x.parameters = ps := fun h1 h2 => by cases h1.symm.trans h2; rfl
  refine ⟨{ cT := cT, kT := kT, cO := cT, aS := aS, fillIdx := jF, fill0Idx := j0, initSIdx := jF, obj := mO, kObj := clO, methFill := gF, methFill0 := g0, methInitS := gF, methObj := gO, codeFill := kF, codeInitS := kF, codeObj := kO, fBack := f7, fDepth := f7, fStack := f17, fCause := f7, fSupp := f24, fMsg := fM, fUnassigned := f13, fSentinel := f20, cfT := cf, ci1 := b1, n1 := v1, ci27 := b27, n27 := v27, ci202 := b202, n202 := v202, ci7 := a7, i7 := i7, ci13 := a13, i13 := i13, ci17 := a17, i17 := i17, ci20 := a20, i20 := i20, ci24 := a24, i24 := i24 }, ?_, hcT, nF, n0, x17, m17, t17, x13, cS, hcS, hiS⟩
  constructor
  case owns => exact ho
  case noFinalization => exact hf
  case cls => exact hkT
  case name => exact hnm
  case boot => exact Vm.findClass_boot hcT hkT
  case notInterface => exact hni
  case initialized => exact Cond.initialized_spec hcT hkT (q (.initialized tN) (by simp [excAtoms, throwableAtoms]) (by simp))
  case fillParams => exact sig sgF (by decide +kernel : parseMethodDescriptor tFill.desc = some ⟨[], some (.object tN)⟩)
  case fill0Params => exact sig hns (by decide +kernel : parseMethodDescriptor tFill0.desc = some ⟨[.int], some (.object tN)⟩)
  case objParams => rw [sig sgO (by decide +kernel : parseMethodDescriptor oInit.desc = some ⟨[], none⟩)]; rfl
  case objFound => rw [show gO.desc = oInit.desc from nO2]; exact lookupSpecial_of_named nO eO stO
  all_goals first | assumption | exact apart

/-- fillInStackTrace(), called of an exception's constructor -/
theorem own_fill {p : Program} {l : Launch} {e : Env} {R : Room} {s : State} {m : MethodId} {args : Array Value} {below : List Frame} {meth : Method} {c : Code} {T : State} {locs : List Loc} {cells slots : Nat} {Z : State} {a0 : Array Value} {h : Heap}
    (X : Stand p l e R s m args below meth c T locs cells slots) (hx : p.tables.exec = Jvm.exec) (hl : l.stackTraces = true) (hZ : Z.Warmed39 s.vm) {rc : String} (hrc : rc ≠ tN) (hown : s.vm.findClass tN = some m.cls) (W : own_tw rc args s)
    (hTK : s.vm.MethodsKnown) (hBelow : s.vm.FramesKnown below) (eT : T.heap = h) {a : Addr} {n : Nat} (wi : (Cond.instantiable rc n).before a0 Z = true) (E : Exa Z h a rc) (N : Unt h a) (FB : Fld Z h a tN "backtrace" obD .null) {u : Value} (hu : u.isRef = true) (FS : Fld Z h a tN "stackTrace" steD u) (FM : Fld Z h a tN "detailMessage" msgD .null)
    (SU : Sta Z h tN "UNASSIGNED_STACK" steD u)
    {g : JFrame} (hg : g.method = m) (hsize : g.locals.size = c.maxLocals) (hs : g.stack = [.ref a]) (hmr : g.monitorRoom = 0) (hd : decode c.code g.pc = .ok (.invokevirtual 27, 3)) (hf : 3 ≤ R.frames) (hlo : 42 ≤ R.locals) (hc : cells + 1 ≤ R.cells) (hsl : slots + 2752 ≤ R.slots) :
    ∃ (T' : State) (L3 : List Loc), Stand p l e R s m args below meth c T' (locs ++ L3) (cells + 1) (slots + 2752) ∧ (∀ y ∈ L3, y.base = a) ∧ Exa Z T'.heap a rc ∧ Fld Z T'.heap a tN "detailMessage" msgD .null ∧
      ∀ target, Steps p.tables e below (T'.setTop { g with pc := g.pc + 3, stack := [.ref a] }) target → Steps p.tables e below (T.setTop g) target := by
  have htr : e.platform.stackTraces = true := by rw [X.admits.platform]; exact hl
  have ho : e.platform.frameOwnsMonitors = true := by rw [X.admits.platform]
  have hfi : e.platform.finalization = false := by rw [X.admits.platform]
  have hp : e.platform.magicAccessors = ({} : Platform).magicAccessors := by rw [X.admits.platform]
  obtain ⟨TT, L, hfT, nF, n0, xS, nmS, tyS, xU, cS0, hcS0, hiS0⟩ := own_thr hrc ho hfi hp W
  have q : ∀ d ∈ excAtoms rc, d ≠ own_no → d.holds args s none s [] = true := fun d h1 h2 => W d h1 h2
  have ride : ∀ {C N D : String} {cf : ClassId} {k : Class} {i : Nat} {f : Field}, Z.fieldFound? C N D = some (cf, k, i, f) → ∃ k', s.fieldFound? C N D = some (cf, k', i, f) := fun hz => by
    obtain ⟨k', h1, -⟩ := State.fieldFound?_setVm (s := Z) hZ.alike hz
    exact ⟨k', h1⟩
  -- the object's cell
  obtain ⟨C, c1, c2, c3⟩ := N
  obtain ⟨C', kz, e1, e2, e3, e4, e5⟩ := id E
  cases c1.symm.trans e1
  have hfr : s.vm.findClass rc = some C.cls := by rw [hZ.alike.findClass]; exact e2
  obtain ⟨kX, hkX, hek⟩ := hZ.alike.2.2 _ _ e3
  have hord : kz.kind = .ordinary := by
    obtain ⟨c9, k9, g1, g2, g3, -⟩ := Cond.instantiable_spec wi
    cases e2.symm.trans g1
    cases e3.symm.trans g2
    exact g3
  have hordX : kX.kind = .ordinary := by rw [hek]; exact hord
  have hszX : C.slots.size = kX.instanceTypes.size := by rw [hek]; exact e5 hord
  have tk : ∀ {f : Field} {v : Value}, kX.instanceTypes[f.slot]? = some f.type → fits f.type v = true → Jvm.Takes s C f v := fun {f v} h1 h2 => by
    obtain ⟨q1, q2⟩ := Takes.of_laid (v := v) hkX hordX h1 h2
    exact ⟨by rw [hszX]; simpa using q1, by rw [c2]; exact q2⟩
  -- its fields
  obtain ⟨yS, dS, dS1, dS2⟩ := Cond.laysAt hfr hkX xS (q (.lays rc tN "stackTrace" steD) (by simp [excAtoms, throwableAtoms]) (by simp))
  obtain ⟨bi, ib, fB, lB, rB, pB, sB, -, nB, tB, xB⟩ := Cond.ownField (t := .object "java/lang/Object") hfT L.cls (by decide +kernel) (q (.fieldLink tN 198 tN "backtrace" obD) (by simp [excAtoms, throwableAtoms]) (by simp)) (q (.lays rc tN "backtrace" obD) (by simp [excAtoms, throwableAtoms]) (by simp)) e.platform hp
  obtain ⟨yB, dB, dB1, dB2⟩ := Cond.laysAt hfr hkX xB (q (.lays rc tN "backtrace" obD) (by simp [excAtoms, throwableAtoms]) (by simp))
  obtain ⟨-, -, cD, kD, iD, fD, -, -, xD, sD, -⟩ := Cond.lays_spec (q (.lays rc tN "depth" "I") (by simp [excAtoms, throwableAtoms]) (by simp))
  cases Option.some.inj ((Cond.lays_declared (q (.lays rc tN "depth" "I") (by simp [excAtoms, throwableAtoms]) (by simp)) xD).symm.trans hfT)
  obtain ⟨hkD, pD⟩ := State.fieldFound?_spec xD
  cases Option.some.inj (hkD.symm.trans L.cls)
  obtain ⟨nD, tD⟩ := State.fieldFound?_type xD (t := .int) (by decide +kernel)
  obtain ⟨yD, dD, dD1, dD2⟩ := Cond.laysAt hfr hkX xD (q (.lays rc tN "depth" "I") (by simp [excAtoms, throwableAtoms]) (by simp))
  obtain ⟨comp, cO, kO, -, -, hkO, hkindO, hO⟩ := Cond.arrayOver_spec (W (.arrayOver (.object "java/lang/Object")) (by simp [excAtoms, throwableAtoms]) (by simp))
  have hfb := Cond.soleField_find hfT L.cls (q (.soleField tN "backtrace") (by simp [excAtoms, throwableAtoms]) (by simp)) pB nB sB
  have hfd := Cond.soleField_find hfT L.cls (q (.soleField tN "depth") (by simp [excAtoms, throwableAtoms]) (by simp)) pD nD sD
  have hsel0 : selectMethod e.platform s.vm C.cls TT.fill0 = .method TT.fill0 := by
    obtain ⟨v2, w2, m2, q1, q2, q3, q4, -⟩ := Cond.selects_spec (q (.selects rc tFill0 tFill0) (by simp [excAtoms, throwableAtoms]) (by simp))
    cases Option.some.inj (q1.symm.trans hfr)
    cases Option.some.inj (q2.symm.trans (State.methodFound?_of_named n0 (by decide)))
    cases Option.some.inj (q3.symm.trans n0)
    rw [Launch.admits_selectMethod X.admits]; exact q4
  have vS : C.slots[TT.fStack.slot]? = some u := by
    obtain ⟨C2, cf, k, i, f, h1, h2, -, -, -, -, h7⟩ := FS
    cases c1.symm.trans h1
    obtain ⟨k', h2'⟩ := ride h2
    cases xS.symm.trans h2'
    exact h7
  have vB : C.slots[fB.slot]? = some .null := by
    obtain ⟨C2, cf, k, i, f, h1, h2, -, -, -, -, h7⟩ := FB
    cases c1.symm.trans h1
    obtain ⟨k', h2'⟩ := ride h2
    cases xB.symm.trans h2'
    exact h7
  -- the statics' cell
  obtain ⟨cf, i, k, f, st, cellS, s1, s2, s3, s4, s5, s6, s7⟩ := id SU
  obtain ⟨k', s1', hek'⟩ := State.fieldFound?_setVm (s := Z) hZ.alike s1
  have xx : some (TT.cT, TT.kT, TT.i13, TT.fUnassigned) = some (cf, k', i, f) := xU.symm.trans s1'
  have hst : TT.aS = st := by
    have h1 : TT.kT = k' := by simpa using congrArg (fun z => (z.map fun w => w.2.1)) xx
    have h2 := L.statics
    rw [h1, hek'] at h2
    exact Option.some.inj (h2.symm.trans s4)
  have hfu : TT.fUnassigned = f := by simpa using congrArg (fun z => (z.map fun w => w.2.2.2)) xx
  have hneS : TT.aS ≠ a := fun q1 => by
    rw [hst] at q1
    rw [q1] at s5
    cases c1.symm.trans s5
    rw [c2] at s6
    cases s6
  have fitsS : fits TT.fStack.type u = true := by rw [tyS]; exact fits_refV_array _ ⟨u, hu⟩
  have pay := fillPaysAny (l := l) (R := R) (p := p) (e := e) (below := below) (s := s) (sargs := args) (len := 3) (W := 0) hx htr TT L nF (u0 := ⟨u, hu⟩) (self := a) (cell := C) (cellS := cellS) (fun _ => by rw [c2]; simp) (by rw [c2]; simp) (by rw [c3]) (by rw [c3]) vS hsel0 hneS (by intro q1; rw [q1] at s6; cases s6) (by rw [hfu]; exact s7) (tk yS fitsS)
    ⟨{ ci198 := bi, i198 := ib, fBack := fB }, ⟨lB, rB, pB, sB⟩, vB⟩ hTK hBelow hfT hO hkO hkindO hfb hfd (fun x => tk yB (by rw [tB]; rfl)) (fun x => tk yD (by rw [tD]; rfl)) (by omega) (by omega)
  have hSE := (W (.selects rc tFill tFill) (by simp [excAtoms, throwableAtoms]) (by simp))
  have hgg : (T.setTop g) = T.setTop g := rfl
  obtain ⟨v6, vm6, ⟨T6, L6, n6, k6⟩, hW6, X6, ⟨hv6, C6, n', hn', hD6, q1, q2, q3, q4, hL6, hc6, hn6⟩, st6⟩ := X.virtualBack hx (own := tN) (C := rc) (index := 27) (y := tFill) (z := tFill) hown (W (.methodLink tN 27 tFill) (by simp [excAtoms, throwableAtoms]) (by simp)) (W (.declares tFill) (by simp [excAtoms, throwableAtoms]) (by simp)) (notFace_of_selects hSE) hSE (W (.instanceMethod tFill) (by simp [excAtoms, throwableAtoms]) (by simp)) (by decide) pay
    (b := a) (cB := C.cls) hfr ⟨C, by rw [eT]; exact c1, rfl, by rw [c2]; rfl⟩ hg hsize (Steps.refl _) (argsL := []) (rest := [])
    (fun sig hh => by rw [show parseMethodDescriptor tFill.desc = some ⟨[], some (.object tN)⟩ from by decide +kernel] at hh; rw [← Option.some.inj hh]; rfl) (by rw [hs]; rfl) (by rw [hmr]; decide) hd
    (fun vmx hWx => ⟨rfl, hc, hsl, by show T.heap[a]? = _; rw [eT]; exact c1, by show T.heap[TT.aS]? = _; rw [eT, hst]; exact s5⟩)
  dsimp only [Pt.U, Pt.locs, Pt.cells, Pt.slots] at X6 hD6 hL6 hc6 hn6 st6
  subst hv6 hL6 hc6 hn6
  refine ⟨T6, _, { X6 with same := X6.same.mono (Nat.le_refl _) (Nat.add_le_add_left hn' _) }, fun y hy => ?_, ⟨C6, kz, hD6, by rw [q1]; exact e2, by rw [q1]; exact e3, by rw [q2]; exact e4, fun hk0 => by rw [q3]; exact e5 hk0⟩, ?_, fun target kk => st6.trans kk⟩
  · simp only [List.mem_cons, List.not_mem_nil, or_false] at hy
    rcases hy with rfl | rfl | rfl <;> rfl
  · obtain ⟨C2, cf, k, i, f, h1, h2, h3, h4, h5, h6, h7⟩ := FM
    cases c1.symm.trans h1
    obtain ⟨k9, h2'⟩ := ride h2
    obtain ⟨-, dM, dM1, dM2⟩ := Cond.laysAt hfr hkX h2' (q (.lays rc tN "detailMessage" msgD) (by simp [excAtoms, throwableAtoms]) (by simp))
    have nM : f.name = "detailMessage" := (State.fieldFound?_type h2' (t := .object "java/lang/String") (by decide +kernel)).1
    have aB := Cond.laysApart dM1 dB1 dM2 dB2 (by rw [nM, nB]; decide)
    have aD := Cond.laysApart dM1 dD1 dM2 dD2 (by rw [nM, nD]; decide)
    have aS' := Cond.laysApart dM1 dS1 dM2 dS2 (by rw [nM, nmS]; decide)
    exact ⟨C6, _, _, _, f, hD6, h2, h3, by rw [q2]; exact h4, by rw [q2]; exact h5, by rw [q1]; exact h6, by rw [q4 _ aB aD aS']; exact h7⟩
end Jvm.RoadKit
@@BLOCK:TracedD.lean.txt@@
namespace Jvm.Pilot.@@N@@
open Jvm Jvm.ClassFile Sem Op Lib Jvm.Free Jvm.Stand Jvm.LawKit Jvm.RoadKit Bundle Jvm.Pilot.@@N@@.Jvm.D
theorem w_ {Z : State} {a0 : Array Value} {d : Jvm.Cond} (hw : ∀ d ∈ tables_1, d.before a0 Z = true) (i : Nat) (h : tables_1[i]? = some d) : d.before a0 Z = true := hw _ (List.mem_of_getElem? h)
abbrev own_M (l : Launch) (Z : State) (y : MethodName) (c : Jvm.Cond) (ws : List Jvm.Cond) (R : Room) (a : Array Value) (h0 : Heap) (Q : Option Value → Heap → List Loc → Prop) : Prop := MetFree l y (head1 (c :: ws) R) (fun a' U => a' = a ∧ Z.Warmed39 U.vm ∧ U.heap = h0) (fun _ _ _ _ _ => True) (fun _ U oo U' => ∃ vv LL, oo = .returned vv ∧ Q vv U'.heap LL ∧ FrameEnd U oo U' LL R.cells R.slots)
theorem pd_0 : parseMethodDescriptor "(Ljava/lang/String;)V" = some ⟨[(.object "java/lang/String")], none⟩ := by decide +kernel
theorem pd_1 : parseMethodDescriptor "(JJ)J" = some ⟨[.long, .long], some .long⟩ := by decide +kernel
theorem pd_2 : parseMethodDescriptor "(J)V" = some ⟨[.long], none⟩ := by decide +kernel
theorem pd_3 : parseMethodDescriptor "()V" = some ⟨[], none⟩ := by decide +kernel
theorem pd_4 : parseMethodDescriptor "()D" = some ⟨[], some .double⟩ := by decide +kernel
theorem own_twx {Z s : State} {a0 args : Array Value} (hw : ∀ d ∈ tables_1, d.before a0 Z = true) (hT : ThS Z s.heap) (hZ : Z.Warmed39 s.vm) : own_tw "java/lang/ArithmeticException" args s := by
  intro d hd hne
  simp only [Jvm.Free.Exc.excAtoms, Bundle.throwableAtoms, List.cons_append, List.nil_append, List.mem_cons, List.not_mem_nil, or_false] at hd
  rcases hd with rfl | rfl | rfl | rfl | rfl | rfl | rfl | rfl | rfl | rfl | rfl | rfl | rfl | rfl | rfl | rfl | rfl | rfl | rfl | rfl | rfl | rfl | rfl | rfl | rfl | rfl | rfl | rfl | rfl | rfl | rfl | rfl | rfl | rfl | rfl | rfl | rfl | rfl
  · exact mvX hT hZ rfl (w_ hw 64 rfl)
  · exact mvX hT hZ rfl (w_ hw 82 rfl)
  · exact mvX hT hZ rfl (w_ hw 77 rfl)
  · exact mvX hT hZ rfl (w_ hw 83 rfl)
  · exact mvX hT hZ rfl (w_ hw 84 rfl)
  · exact mvX hT hZ rfl (w_ hw 85 rfl)
  · exact mvX hT hZ rfl (w_ hw 86 rfl)
  · exact mvX hT hZ rfl (w_ hw 87 rfl)
  · exact mvX hT hZ rfl (w_ hw 7 rfl)
  · exact mvX hT hZ rfl (w_ hw 8 rfl)
  · exact mvX hT hZ rfl (w_ hw 66 rfl)
  · exact mvX hT hZ rfl (w_ hw 75 rfl)
  · exact mvX hT hZ rfl (w_ hw 88 rfl)
  · exact mvX hT hZ rfl (w_ hw 67 rfl)
  · exact mvX hT hZ rfl (w_ hw 89 rfl)
  · exact mvX hT hZ rfl (w_ hw 70 rfl)
  · exact mvX hT hZ rfl (w_ hw 90 rfl)
  · exact mvX hT hZ rfl (w_ hw 73 rfl)
  · exact absurd rfl hne
  · exact mvX hT hZ rfl (w_ hw 69 rfl)
  · exact mvX hT hZ rfl (w_ hw 95 rfl)
  · exact mvX hT hZ rfl (w_ hw 72 rfl)
  · exact mvX hT hZ rfl (w_ hw 96 rfl)
  · exact mvX hT hZ rfl (w_ hw 91 rfl)
  · exact mvX hT hZ rfl (w_ hw 76 rfl)
  · exact mvX hT hZ rfl (w_ hw 97 rfl)
  · exact mvX hT hZ rfl (w_ hw 78 rfl)
  · exact mvX hT hZ rfl (w_ hw 68 rfl)
  · exact mvX hT hZ rfl (w_ hw 71 rfl)
  · exact mvX hT hZ rfl (w_ hw 74 rfl)
  · exact mvX hT hZ rfl (w_ hw 98 rfl)
  · exact mvX hT hZ rfl (w_ hw 93 rfl)
  · exact mvX hT hZ rfl (w_ hw 94 rfl)
  · exact mvX hT hZ rfl (w_ hw 99 rfl)
  · exact mvX hT hZ rfl (w_ hw 79 rfl)
  · exact mvX hT hZ rfl (w_ hw 80 rfl)
  · exact mvX hT hZ rfl (w_ hw 81 rfl)
  · exact mvX hT hZ rfl (w_ hw 100 rfl)
theorem d9_0 : decode jdk_78_method_2_code 0 = .ok (.aload_n 0, 1) := by decide +kernel
theorem d9_1 : decode jdk_78_method_2_code 1 = .ok (.invokespecial 1, 3) := by decide +kernel
theorem d9_4 : decode jdk_78_method_2_code 4 = .ok (.aload_n 0, 1) := by decide +kernel
theorem d9_5 : decode jdk_78_method_2_code 5 = .ok (.aload_n 0, 1) := by decide +kernel
theorem d9_6 : decode jdk_78_method_2_code 6 = .ok (.putfield 7, 3) := by decide +kernel
theorem d9_9 : decode jdk_78_method_2_code 9 = .ok (.aload_n 0, 1) := by decide +kernel
theorem d9_10 : decode jdk_78_method_2_code 10 = .ok (.getstatic 13, 3) := by decide +kernel
theorem d9_13 : decode jdk_78_method_2_code 13 = .ok (.putfield 17, 3) := by decide +kernel
theorem d9_16 : decode jdk_78_method_2_code 16 = .ok (.aload_n 0, 1) := by decide +kernel
theorem d9_17 : decode jdk_78_method_2_code 17 = .ok (.getstatic 20, 3) := by decide +kernel
theorem d9_20 : decode jdk_78_method_2_code 20 = .ok (.putfield 24, 3) := by decide +kernel
theorem d9_23 : decode jdk_78_method_2_code 23 = .ok (.aload_n 0, 1) := by decide +kernel
theorem d9_24 : decode jdk_78_method_2_code 24 = .ok (.invokevirtual 27, 3) := by decide +kernel
theorem d9_27 : decode jdk_78_method_2_code 27 = .ok (.pop, 1) := by decide +kernel
theorem d9_28 : decode jdk_78_method_2_code 28 = .ok (.aload_n 0, 1) := by decide +kernel
theorem d9_29 : decode jdk_78_method_2_code 29 = .ok (.aload_n 1, 1) := by decide +kernel
theorem d9_30 : decode jdk_78_method_2_code 30 = .ok (.putfield 31, 3) := by decide +kernel
theorem d9_33 : decode jdk_78_method_2_code 33 = .ok (.return_, 1) := by decide +kernel
theorem pn_9 : plainName "java/lang/Throwable" = true := by first | (simp [plainName, overriddenIn]; done) | decide +kernel
theorem ef_9 (m : MethodId) (x0 : Addr) (x1 : Addr) : entryFrame m #[(.ref x0), (.ref x1)] 2 = mkF m 0 #[.val (.ref x0), .val (.ref x1)] [] := by first | (simp [entryFrame, mkF, argsToLocals, Value.category]; done) | rfl
def Q_rtc0 (Z : State) (a1 : Addr) (ms : Addr) (us ss : Value) (h0 : Heap) (n0 : Nat) : Option Value → Heap → List Loc → Prop := fun v h L => v = none ∧ Fr n0 L ∧ Keep h0 h [a1] ∧ Exa Z h a1 "java/lang/ArithmeticException"
set_option maxRecDepth 65536 in
set_option maxHeartbeats 40000000 in
theorem rtc0 (l : Launch) (Z : State) (a0 : Array Value) (hw : ∀ d ∈ tables_1, d.before a0 Z = true) (ws : List Jvm.Cond) (a1 : Addr) (ms : Addr) (us ss : Value) (h0 : Heap) (n0 : Nat) (Z0 : n0 ≤ h0.size) (SU : Sta Z Z.heap "java/lang/Throwable" "UNASSIGNED_STACK" "[Ljava/lang/StackTraceElement;" us) (hus : us.isRef = true) (SQ : Sta Z Z.heap "java/lang/Throwable" "SUPPRESSED_SENTINEL" "Ljava/util/List;" ss) (hss : ss.isRef = true) (hl : l.stackTraces = true) (O0 : Old Z n0 h0) (F0 : Fld Z h0 a1 "java/lang/Throwable" "cause" "Ljava/lang/Throwable;" .null) (F1 : Fld Z h0 a1 "java/lang/Throwable" "stackTrace" "[Ljava/lang/StackTraceElement;" .null) (F2 : Fld Z h0 a1 "java/lang/Throwable" "suppressedExceptions" "Ljava/util/List;" .null) (F3 : Fld Z h0 a1 "java/lang/Throwable" "backtrace" "Ljava/lang/Object;" .null) (F4 : Fld Z h0 a1 "java/lang/Throwable" "detailMessage" "Ljava/lang/String;" .null) (E1 : Exa Z h0 a1 "java/lang/ArithmeticException") (U1 : Unt h0 a1) (g1 : n0 ≤ a1) :
    MetFree l (⟨"java/lang/Throwable", "<init>", "(Ljava/lang/String;)V"⟩ : MethodName) (head1 (Jvm.Cond.code (⟨"java/lang/Throwable", "<init>", "(Ljava/lang/String;)V"⟩ : MethodName) jdk_78_method_2_code 2 none :: ws) ({ frames := 3, cells := 1, slots := 2752, locals := 44 } : Room)) (fun a U => a = #[(.ref a1), (.ref ms)] ∧ Z.Warmed39 U.vm ∧ U.heap = h0) (fun _ _ bl s _ => s.vm.MethodsKnown ∧ s.vm.FramesKnown bl) (fun _ U oo U' => ∃ vv LL, oo = .returned vv ∧ (Q_rtc0 Z a1 ms us ss h0 n0) vv U'.heap LL ∧ FrameEnd U oo U' LL ({ frames := 3, cells := 1, slots := 2752, locals := 44 } : Room).cells ({ frames := 3, cells := 1, slots := 2752, locals := 44 } : Room).slots) := by
  refine MetFree.of_bodySF (plainFor_of_name pn_9) hisR ?_
  intro p e s m args below meth c s₁ Bd hml0 hP hK
  obtain ⟨rfl, hZ, hh⟩ := hP
  have hx := Bd.exec
  have hby := Bd.bytes
  have hml : c.maxLocals = 2 := hml0
  have hown : s.vm.findClass "java/lang/Throwable" = some m.cls := findClass_of_methodNamed Bd.named
  have hnm := (name_of_methodNamed Bd.named Bd.method).1
  have X0 : Stand p l e ({ frames := 3, cells := 1, slots := 2752, locals := 44 } : Room) s m #[(.ref a1), (.ref ms)] below meth c s₁ [] 0 0 := Stand.of_body Bd
  have e0 : s₁.heap = h0 := by rw [← hh, Bd.state]; rfl
  have N0 := Fr.nil n0
  show Goes p e below (Fin s (Q_rtc0 Z a1 ms us ss h0 n0) ({ frames := 3, cells := 1, slots := 2752, locals := 44 } : Room).cells ({ frames := 3, cells := 1, slots := 2752, locals := 44 } : Room).slots) _
  refine Goes.via (S' := s₁.setTop (mkF m 0 #[.val (.ref a1), .val (.ref ms)] [])) (fun tz kz => castTop (ef_9 m a1 ms ) kz) ?_
  refine Goes.via (S' := s₁.setTop (mkF m 1 #[.val (.ref a1), .val (.ref ms)] [(.ref a1)])) (fun tz kz => ?_) ?_
  · show Steps p.tables e below (s₁.setTop (mkF m 0 #[.val (.ref a1), .val (.ref ms)] [])) _
    refine XS.aloadN X0.here hx rfl (hb hby d9_0) rfl rfl ?_
    exact kz
  obtain ⟨T1, X1, e1, st1⟩ := initO X0 hx hZ hown (w_ hw 66 rfl) (w_ hw 7 rfl) (w_ hw 8 rfl) e0 (g := (mkF m 1 #[.val (.ref a1), .val (.ref ms)] [(.ref a1)])) rfl (by rw [hml]; rfl) rfl (hb hby d9_1) (by decide) (W := 0) (by show 2 * 0 + _ ≤ _; exact Nat.le_of_eq rfl) (by decide)
  refine Goes.via (S' := T1.setTop (mkF m 4 #[.val (.ref a1), .val (.ref ms)] [])) st1 ?_
  refine Goes.via (S' := T1.setTop (mkF m 6 #[.val (.ref a1), .val (.ref ms)] [(.ref a1), (.ref a1)])) (fun tz kz => ?_) ?_
  · show Steps p.tables e below (T1.setTop (mkF m 4 #[.val (.ref a1), .val (.ref ms)] [])) _
    refine XS.aloadN X1.here hx rfl (hb hby d9_4) rfl rfl ?_
    refine XS.aloadN X1.here hx rfl (hb hby d9_5) rfl rfl ?_
    exact kz
  obtain ⟨T2, h2, X2, e2, W2, st2⟩ := putF X1 hx hZ hown (host := "") (Or.inl (w_ hw 67 rfl)) Via.refl e1 F0 E1 (Or.inl (w_ hw 68 rfl)) (w_ hw 34 rfl) (ty := (.object "java/lang/Throwable")) (by decide) rfl rfl (g := (mkF m 6 #[.val (.ref a1), .val (.ref ms)] [(.ref a1), (.ref a1)])) rfl rfl (hb hby d9_6)
  refine Goes.via (S' := T2.setTop (mkF m 9 #[.val (.ref a1), .val (.ref ms)] [])) st2 ?_
  have N2 := Fr.snoc X2 N0 g1
  have Fcause_2 := F0.same W2
  have FstackTrace_2 := F1.other W2 (Or.inr (slot_ne (Or.inl (w_ hw 71 rfl)) (Or.inl (w_ hw 68 rfl)) (by decide) (t := (.array (.object "java/lang/StackTraceElement"))) (t' := (.object "java/lang/Throwable")) (by decide) (by decide)))
  have FsuppressedExceptions_2 := F2.other W2 (Or.inr (slot_ne (Or.inl (w_ hw 74 rfl)) (Or.inl (w_ hw 68 rfl)) (by decide) (t := (.object "java/util/List")) (t' := (.object "java/lang/Throwable")) (by decide) (by decide)))
  have Fbacktrace_2 := F3.other W2 (Or.inr (slot_ne (Or.inl (w_ hw 99 rfl)) (Or.inl (w_ hw 68 rfl)) (by decide) (t := (.object "java/lang/Object")) (t' := (.object "java/lang/Throwable")) (by decide) (by decide)))
  have FdetailMessage_2 := F4.other W2 (Or.inr (slot_ne (Or.inl (w_ hw 98 rfl)) (Or.inl (w_ hw 68 rfl)) (by decide) (t := (.object "java/lang/String")) (t' := (.object "java/lang/Throwable")) (by decide) (by decide)))
  have E_2 := E1.wr W2
  have O_2 := O0.wr W2 g1
  have B_2 := own_ba.of X2 (own_ba.nil a1)
  have U_2 := U1.wr W2
  refine Goes.via (S' := T2.setTop (mkF m 10 #[.val (.ref a1), .val (.ref ms)] [(.ref a1)])) (fun tz kz => ?_) ?_
  · show Steps p.tables e below (T2.setTop (mkF m 9 #[.val (.ref a1), .val (.ref ms)] [])) _
    refine XS.aloadN X2.here hx rfl (hb hby d9_9) rfl rfl ?_
    exact kz
  obtain ⟨T3, X3, e3, st3⟩ := getS2 X2 hx hZ hown (host := "") (Or.inl (w_ hw 69 rfl)) Via.refl e2 (SU.ext O_2.2) (g := (mkF m 10 #[.val (.ref a1), .val (.ref ms)] [(.ref a1)])) rfl (hb hby d9_10)
  refine Goes.via (S' := T3.setTop (mkF m 13 #[.val (.ref a1), .val (.ref ms)] [us, (.ref a1)])) st3 ?_
  obtain ⟨T4, h4, X4, e4, W4, st4⟩ := putF X3 hx hZ hown (host := "") (Or.inl (w_ hw 70 rfl)) Via.refl e3 FstackTrace_2 E_2 (Or.inl (w_ hw 71 rfl)) (w_ hw 34 rfl) (ty := (.array (.object "java/lang/StackTraceElement"))) (by decide) (Jvm.RoadKit.narrow_ref hus) (fits_refA hus) (g := (mkF m 13 #[.val (.ref a1), .val (.ref ms)] [us, (.ref a1)])) rfl rfl (hb hby d9_13)
  refine Goes.via (S' := T4.setTop (mkF m 16 #[.val (.ref a1), .val (.ref ms)] [])) st4 ?_
  have N4 := Fr.snoc X4 N2 g1
  have Fcause_4 := Fcause_2.other W4 (Or.inr (slot_ne (Or.inl (w_ hw 68 rfl)) (Or.inl (w_ hw 71 rfl)) (by decide) (t := (.object "java/lang/Throwable")) (t' := (.array (.object "java/lang/StackTraceElement"))) (by decide) (by decide)))
  have FstackTrace_4 := FstackTrace_2.same W4
  have FsuppressedExceptions_4 := FsuppressedExceptions_2.other W4 (Or.inr (slot_ne (Or.inl (w_ hw 74 rfl)) (Or.inl (w_ hw 71 rfl)) (by decide) (t := (.object "java/util/List")) (t' := (.array (.object "java/lang/StackTraceElement"))) (by decide) (by decide)))
  have Fbacktrace_4 := Fbacktrace_2.other W4 (Or.inr (slot_ne (Or.inl (w_ hw 99 rfl)) (Or.inl (w_ hw 71 rfl)) (by decide) (t := (.object "java/lang/Object")) (t' := (.array (.object "java/lang/StackTraceElement"))) (by decide) (by decide)))
  have FdetailMessage_4 := FdetailMessage_2.other W4 (Or.inr (slot_ne (Or.inl (w_ hw 98 rfl)) (Or.inl (w_ hw 71 rfl)) (by decide) (t := (.object "java/lang/String")) (t' := (.array (.object "java/lang/StackTraceElement"))) (by decide) (by decide)))
  have E_4 := E_2.wr W4
  have O_4 := O_2.wr W4 g1
  have B_4 := own_ba.of X4 B_2
  have U_4 := U_2.wr W4
  refine Goes.via (S' := T4.setTop (mkF m 17 #[.val (.ref a1), .val (.ref ms)] [(.ref a1)])) (fun tz kz => ?_) ?_
  · show Steps p.tables e below (T4.setTop (mkF m 16 #[.val (.ref a1), .val (.ref ms)] [])) _
    refine XS.aloadN X4.here hx rfl (hb hby d9_16) rfl rfl ?_
    exact kz
  obtain ⟨T5, X5, e5, st5⟩ := getS2 X4 hx hZ hown (host := "") (Or.inl (w_ hw 72 rfl)) Via.refl e4 (SQ.ext O_4.2) (g := (mkF m 17 #[.val (.ref a1), .val (.ref ms)] [(.ref a1)])) rfl (hb hby d9_17)
  refine Goes.via (S' := T5.setTop (mkF m 20 #[.val (.ref a1), .val (.ref ms)] [ss, (.ref a1)])) st5 ?_
  obtain ⟨T6, h6, X6, e6, W6, st6⟩ := putF X5 hx hZ hown (host := "") (Or.inl (w_ hw 73 rfl)) Via.refl e5 FsuppressedExceptions_4 E_4 (Or.inl (w_ hw 74 rfl)) (w_ hw 34 rfl) (ty := (.object "java/util/List")) (by decide) (Jvm.RoadKit.narrow_ref hss) (fits_refO hss) (g := (mkF m 20 #[.val (.ref a1), .val (.ref ms)] [ss, (.ref a1)])) rfl rfl (hb hby d9_20)
  refine Goes.via (S' := T6.setTop (mkF m 23 #[.val (.ref a1), .val (.ref ms)] [])) st6 ?_
  have N6 := Fr.snoc X6 N4 g1
  have Fcause_6 := Fcause_4.other W6 (Or.inr (slot_ne (Or.inl (w_ hw 68 rfl)) (Or.inl (w_ hw 74 rfl)) (by decide) (t := (.object "java/lang/Throwable")) (t' := (.object "java/util/List")) (by decide) (by decide)))
  have FstackTrace_6 := FstackTrace_4.other W6 (Or.inr (slot_ne (Or.inl (w_ hw 71 rfl)) (Or.inl (w_ hw 74 rfl)) (by decide) (t := (.array (.object "java/lang/StackTraceElement"))) (t' := (.object "java/util/List")) (by decide) (by decide)))
  have FsuppressedExceptions_6 := FsuppressedExceptions_4.same W6
  have Fbacktrace_6 := Fbacktrace_4.other W6 (Or.inr (slot_ne (Or.inl (w_ hw 99 rfl)) (Or.inl (w_ hw 74 rfl)) (by decide) (t := (.object "java/lang/Object")) (t' := (.object "java/util/List")) (by decide) (by decide)))
  have FdetailMessage_6 := FdetailMessage_4.other W6 (Or.inr (slot_ne (Or.inl (w_ hw 98 rfl)) (Or.inl (w_ hw 74 rfl)) (by decide) (t := (.object "java/lang/String")) (t' := (.object "java/util/List")) (by decide) (by decide)))
  have E_6 := E_4.wr W6
  have O_6 := O_4.wr W6 g1
  have B_6 := own_ba.of X6 B_4
  have U_6 := U_4.wr W6
  refine Goes.via (S' := T6.setTop (mkF m 24 #[.val (.ref a1), .val (.ref ms)] [(.ref a1)])) (fun tz kz => ?_) ?_
  · show Steps p.tables e below (T6.setTop (mkF m 23 #[.val (.ref a1), .val (.ref ms)] [])) _
    refine XS.aloadN X6.here hx rfl (hb hby d9_23) rfl rfl ?_
    exact kz
  obtain ⟨T7, L7, X7, hL7, E7, Fm7, st7⟩ := own_fill X6 hx hl hZ (by decide) hown (own_twx hw (by rw [hh]; exact ThS.start.ext O0.2) hZ) hK.1 hK.2 e6 (w_ hw 34 rfl) E_6 U_6 Fbacktrace_6 hus FstackTrace_6 FdetailMessage_6 (SU.ext O_6.2) (g := (mkF m 24 #[.val (.ref a1), .val (.ref ms)] [(.ref a1)])) rfl (by rw [hml]; rfl) rfl rfl (hb hby d9_24) (by decide) (by decide) (by decide) (by decide)
  have B_7 := own_ba.app B_6 hL7
  have N7 := own_ba.fr B_7 g1
  refine Goes.via (S' := T7.setTop (mkF m 27 #[.val (.ref a1), .val (.ref ms)] [(.ref a1)])) st7 ?_
  refine Goes.via (S' := T7.setTop (mkF m 30 #[.val (.ref a1), .val (.ref ms)] [(.ref ms), (.ref a1)])) (fun tz kz => ?_) ?_
  · show Steps p.tables e below (T7.setTop (mkF m 27 #[.val (.ref a1), .val (.ref ms)] [(.ref a1)])) _
    refine XS.pop X7.here hx rfl (hb hby d9_27) rfl rfl ?_
    refine XS.aloadN X7.here hx rfl (hb hby d9_28) rfl rfl ?_
    refine XS.aloadN X7.here hx rfl (hb hby d9_29) rfl rfl ?_
    exact kz
  obtain ⟨T8, h8, X8, e8, W8, st8⟩ := putF X7 hx hZ hown (host := "") (Or.inl (w_ hw 101 rfl)) Via.refl rfl Fm7 E7 (Or.inl (w_ hw 98 rfl)) (w_ hw 34 rfl) (ty := (.object "java/lang/String")) (by decide) rfl rfl (g := (mkF m 30 #[.val (.ref a1), .val (.ref ms)] [(.ref ms), (.ref a1)])) rfl rfl (hb hby d9_30)
  refine Goes.via (S' := T8.setTop (mkF m 33 #[.val (.ref a1), .val (.ref ms)] [])) st8 ?_
  have N8 := Fr.snoc X8 N7 g1
  have E_8 := E7.wr W8
  have B_8 := own_ba.of X8 B_7
  exact Goes.retV X8 hx Bd.notSynchronized Bd.returns (hb hby d9_33) (Nat.le_of_ble_eq_true rfl) (Nat.le_of_ble_eq_true rfl) (by have Kx := own_keep_same X8.same B_8; rw [hh] at Kx; refine ⟨rfl, N8, Kx, ?_⟩; rw [e8]; exact E_8)
theorem d8_0 : decode jdk_59_method_2_code 0 = .ok (.aload_n 0, 1) := by decide +kernel
theorem d8_1 : decode jdk_59_method_2_code 1 = .ok (.aload_n 1, 1) := by decide +kernel
theorem d8_2 : decode jdk_59_method_2_code 2 = .ok (.invokespecial 7, 3) := by decide +kernel
theorem d8_5 : decode jdk_59_method_2_code 5 = .ok (.return_, 1) := by decide +kernel
theorem pn_8 : plainName "java/lang/Exception" = true := by first | (simp [plainName, overriddenIn]; done) | decide +kernel
theorem ef_8 (m : MethodId) (x0 : Addr) (x1 : Addr) : entryFrame m #[(.ref x0), (.ref x1)] 2 = mkF m 0 #[.val (.ref x0), .val (.ref x1)] [] := by first | (simp [entryFrame, mkF, argsToLocals, Value.category]; done) | rfl
def Q_rtc1 (Z : State) (a1 : Addr) (ms : Addr) (us ss : Value) (h0 : Heap) (n0 : Nat) : Option Value → Heap → List Loc → Prop := fun v h L => v = none ∧ Fr n0 L ∧ Keep h0 h [a1] ∧ Exa Z h a1 "java/lang/ArithmeticException"
set_option maxRecDepth 65536 in
set_option maxHeartbeats 40000000 in
theorem rtc1 (l : Launch) (Z : State) (a0 : Array Value) (hw : ∀ d ∈ tables_1, d.before a0 Z = true) (ws : List Jvm.Cond) (a1 : Addr) (ms : Addr) (us ss : Value) (h0 : Heap) (n0 : Nat) (Z0 : n0 ≤ h0.size) (SU : Sta Z Z.heap "java/lang/Throwable" "UNASSIGNED_STACK" "[Ljava/lang/StackTraceElement;" us) (hus : us.isRef = true) (SQ : Sta Z Z.heap "java/lang/Throwable" "SUPPRESSED_SENTINEL" "Ljava/util/List;" ss) (hss : ss.isRef = true) (hl : l.stackTraces = true) (O0 : Old Z n0 h0) (F0 : Fld Z h0 a1 "java/lang/Throwable" "cause" "Ljava/lang/Throwable;" .null) (F1 : Fld Z h0 a1 "java/lang/Throwable" "stackTrace" "[Ljava/lang/StackTraceElement;" .null) (F2 : Fld Z h0 a1 "java/lang/Throwable" "suppressedExceptions" "Ljava/util/List;" .null) (F3 : Fld Z h0 a1 "java/lang/Throwable" "backtrace" "Ljava/lang/Object;" .null) (F4 : Fld Z h0 a1 "java/lang/Throwable" "detailMessage" "Ljava/lang/String;" .null) (E1 : Exa Z h0 a1 "java/lang/ArithmeticException") (U1 : Unt h0 a1) (g1 : n0 ≤ a1) :
    MetFree l (⟨"java/lang/Exception", "<init>", "(Ljava/lang/String;)V"⟩ : MethodName) (head1 (Jvm.Cond.code (⟨"java/lang/Exception", "<init>", "(Ljava/lang/String;)V"⟩ : MethodName) jdk_59_method_2_code 2 none :: ws) ({ frames := 4, cells := 1, slots := 2752, locals := 60 } : Room)) (fun a U => a = #[(.ref a1), (.ref ms)] ∧ Z.Warmed39 U.vm ∧ U.heap = h0) (fun _ _ bl s _ => s.vm.MethodsKnown ∧ s.vm.FramesKnown bl) (fun _ U oo U' => ∃ vv LL, oo = .returned vv ∧ (Q_rtc1 Z a1 ms us ss h0 n0) vv U'.heap LL ∧ FrameEnd U oo U' LL ({ frames := 4, cells := 1, slots := 2752, locals := 60 } : Room).cells ({ frames := 4, cells := 1, slots := 2752, locals := 60 } : Room).slots) := by
  refine MetFree.of_bodySF (plainFor_of_name pn_8) hisR ?_
  intro p e s m args below meth c s₁ Bd hml0 hP hK
  obtain ⟨rfl, hZ, hh⟩ := hP
  have hx := Bd.exec
  have hby := Bd.bytes
  have hml : c.maxLocals = 2 := hml0
  have hown : s.vm.findClass "java/lang/Exception" = some m.cls := findClass_of_methodNamed Bd.named
  have hnm := (name_of_methodNamed Bd.named Bd.method).1
  have X0 : Stand p l e ({ frames := 4, cells := 1, slots := 2752, locals := 60 } : Room) s m #[(.ref a1), (.ref ms)] below meth c s₁ [] 0 0 := Stand.of_body Bd
  have e0 : s₁.heap = h0 := by rw [← hh, Bd.state]; rfl
  have N0 := Fr.nil n0
  show Goes p e below (Fin s (Q_rtc1 Z a1 ms us ss h0 n0) ({ frames := 4, cells := 1, slots := 2752, locals := 60 } : Room).cells ({ frames := 4, cells := 1, slots := 2752, locals := 60 } : Room).slots) _
  refine Goes.via (S' := s₁.setTop (mkF m 0 #[.val (.ref a1), .val (.ref ms)] [])) (fun tz kz => castTop (ef_8 m a1 ms ) kz) ?_
  refine Goes.via (S' := s₁.setTop (mkF m 2 #[.val (.ref a1), .val (.ref ms)] [(.ref ms), (.ref a1)])) (fun tz kz => ?_) ?_
  · show Steps p.tables e below (s₁.setTop (mkF m 0 #[.val (.ref a1), .val (.ref ms)] [])) _
    refine XS.aloadN X0.here hx rfl (hb hby d8_0) rfl rfl ?_
    refine XS.aloadN X0.here hx rfl (hb hby d8_1) rfl rfl ?_
    exact kz
  obtain ⟨_, _, ⟨T1, L1, k1, n1⟩, -, X1, ⟨Lc1, hQ1, l1, y1, z1⟩, st1⟩ := X0.specialBack hx (y := (⟨"java/lang/Throwable", "<init>", "(Ljava/lang/String;)V"⟩ : MethodName)) rfl hown (mvT hZ (w_ hw 60 rfl)) (mvT hZ (w_ hw 61 rfl)) (mvT hZ (w_ hw 65 rfl)) (by decide) (backOfKL (W := 0) (rtc0 l Z a0 hw [] a1 ms us ss h0 n0 Z0 SU hus SQ hss hl O0 F0 F1 F2 F3 F4 E1 U1 g1) hZ (w_ hw 65 rfl) (w_ hw 64 rfl) (by decide) (by decide) hK.1 hK.2) (g := (mkF m 2 #[.val (.ref a1), .val (.ref ms)] [(.ref ms), (.ref a1)])) rfl (by rw [hml]; rfl) (Steps.refl _) (a := a1) (argsL := [(.ref ms)]) (rest := []) (lenOf pd_0 rfl) rfl (by show 2 * 0 + _ ≤ _; exact Nat.le_of_eq rfl) (hb hby d8_2) (fun _ _ => ⟨rfl, e0, (by decide : 0 + 1 ≤ _), (by decide : 0 + 2752 ≤ _)⟩)
  dsimp only [Pt.U, Pt.locs, Pt.cells, Pt.slots] at X1 l1 y1 z1 st1 hQ1
  subst l1 y1 z1
  obtain ⟨rfl, N1, K1, E1_⟩ := hQ1
  have Nf1 := Fr.app N0 N1
  refine Goes.via (S' := T1.setTop (mkF m 5 #[.val (.ref a1), .val (.ref ms)] [])) (fun _ kz => st1.trans kz) ?_
  exact Goes.retV X1 hx Bd.notSynchronized Bd.returns (hb hby d8_5) (Nat.le_of_ble_eq_true rfl) (Nat.le_of_ble_eq_true rfl) ⟨rfl, Nf1, K1, E1_⟩
theorem d7_0 : decode jdk_58_method_2_code 0 = .ok (.aload_n 0, 1) := by decide +kernel
theorem d7_1 : decode jdk_58_method_2_code 1 = .ok (.aload_n 1, 1) := by decide +kernel
theorem d7_2 : decode jdk_58_method_2_code 2 = .ok (.invokespecial 7, 3) := by decide +kernel
theorem d7_5 : decode jdk_58_method_2_code 5 = .ok (.return_, 1) := by decide +kernel
theorem pn_7 : plainName "java/lang/RuntimeException" = true := by first | (simp [plainName, overriddenIn]; done) | decide +kernel
theorem ef_7 (m : MethodId) (x0 : Addr) (x1 : Addr) : entryFrame m #[(.ref x0), (.ref x1)] 2 = mkF m 0 #[.val (.ref x0), .val (.ref x1)] [] := by first | (simp [entryFrame, mkF, argsToLocals, Value.category]; done) | rfl
def Q_rtc2 (Z : State) (a1 : Addr) (ms : Addr) (us ss : Value) (h0 : Heap) (n0 : Nat) : Option Value → Heap → List Loc → Prop := fun v h L => v = none ∧ Fr n0 L ∧ Keep h0 h [a1] ∧ Exa Z h a1 "java/lang/ArithmeticException"
set_option maxRecDepth 65536 in
set_option maxHeartbeats 40000000 in
theorem rtc2 (l : Launch) (Z : State) (a0 : Array Value) (hw : ∀ d ∈ tables_1, d.before a0 Z = true) (ws : List Jvm.Cond) (a1 : Addr) (ms : Addr) (us ss : Value) (h0 : Heap) (n0 : Nat) (Z0 : n0 ≤ h0.size) (SU : Sta Z Z.heap "java/lang/Throwable" "UNASSIGNED_STACK" "[Ljava/lang/StackTraceElement;" us) (hus : us.isRef = true) (SQ : Sta Z Z.heap "java/lang/Throwable" "SUPPRESSED_SENTINEL" "Ljava/util/List;" ss) (hss : ss.isRef = true) (hl : l.stackTraces = true) (O0 : Old Z n0 h0) (F0 : Fld Z h0 a1 "java/lang/Throwable" "cause" "Ljava/lang/Throwable;" .null) (F1 : Fld Z h0 a1 "java/lang/Throwable" "stackTrace" "[Ljava/lang/StackTraceElement;" .null) (F2 : Fld Z h0 a1 "java/lang/Throwable" "suppressedExceptions" "Ljava/util/List;" .null) (F3 : Fld Z h0 a1 "java/lang/Throwable" "backtrace" "Ljava/lang/Object;" .null) (F4 : Fld Z h0 a1 "java/lang/Throwable" "detailMessage" "Ljava/lang/String;" .null) (E1 : Exa Z h0 a1 "java/lang/ArithmeticException") (U1 : Unt h0 a1) (g1 : n0 ≤ a1) :
    MetFree l (⟨"java/lang/RuntimeException", "<init>", "(Ljava/lang/String;)V"⟩ : MethodName) (head1 (Jvm.Cond.code (⟨"java/lang/RuntimeException", "<init>", "(Ljava/lang/String;)V"⟩ : MethodName) jdk_58_method_2_code 2 none :: ws) ({ frames := 5, cells := 1, slots := 2752, locals := 76 } : Room)) (fun a U => a = #[(.ref a1), (.ref ms)] ∧ Z.Warmed39 U.vm ∧ U.heap = h0) (fun _ _ bl s _ => s.vm.MethodsKnown ∧ s.vm.FramesKnown bl) (fun _ U oo U' => ∃ vv LL, oo = .returned vv ∧ (Q_rtc2 Z a1 ms us ss h0 n0) vv U'.heap LL ∧ FrameEnd U oo U' LL ({ frames := 5, cells := 1, slots := 2752, locals := 76 } : Room).cells ({ frames := 5, cells := 1, slots := 2752, locals := 76 } : Room).slots) := by
  refine MetFree.of_bodySF (plainFor_of_name pn_7) hisR ?_
  intro p e s m args below meth c s₁ Bd hml0 hP hK
  obtain ⟨rfl, hZ, hh⟩ := hP
  have hx := Bd.exec
  have hby := Bd.bytes
  have hml : c.maxLocals = 2 := hml0
  have hown : s.vm.findClass "java/lang/RuntimeException" = some m.cls := findClass_of_methodNamed Bd.named
  have hnm := (name_of_methodNamed Bd.named Bd.method).1
  have X0 : Stand p l e ({ frames := 5, cells := 1, slots := 2752, locals := 76 } : Room) s m #[(.ref a1), (.ref ms)] below meth c s₁ [] 0 0 := Stand.of_body Bd
  have e0 : s₁.heap = h0 := by rw [← hh, Bd.state]; rfl
  have N0 := Fr.nil n0
  show Goes p e below (Fin s (Q_rtc2 Z a1 ms us ss h0 n0) ({ frames := 5, cells := 1, slots := 2752, locals := 76 } : Room).cells ({ frames := 5, cells := 1, slots := 2752, locals := 76 } : Room).slots) _
  refine Goes.via (S' := s₁.setTop (mkF m 0 #[.val (.ref a1), .val (.ref ms)] [])) (fun tz kz => castTop (ef_7 m a1 ms ) kz) ?_
  refine Goes.via (S' := s₁.setTop (mkF m 2 #[.val (.ref a1), .val (.ref ms)] [(.ref ms), (.ref a1)])) (fun tz kz => ?_) ?_
  · show Steps p.tables e below (s₁.setTop (mkF m 0 #[.val (.ref a1), .val (.ref ms)] [])) _
    refine XS.aloadN X0.here hx rfl (hb hby d7_0) rfl rfl ?_
    refine XS.aloadN X0.here hx rfl (hb hby d7_1) rfl rfl ?_
    exact kz
  obtain ⟨_, _, ⟨T1, L1, k1, n1⟩, -, X1, ⟨Lc1, hQ1, l1, y1, z1⟩, st1⟩ := X0.specialBack hx (y := (⟨"java/lang/Exception", "<init>", "(Ljava/lang/String;)V"⟩ : MethodName)) rfl hown (mvT hZ (w_ hw 54 rfl)) (mvT hZ (w_ hw 55 rfl)) (mvT hZ (w_ hw 59 rfl)) (by decide) (backOfKL (W := 0) (rtc1 l Z a0 hw [] a1 ms us ss h0 n0 Z0 SU hus SQ hss hl O0 F0 F1 F2 F3 F4 E1 U1 g1) hZ (w_ hw 59 rfl) (w_ hw 58 rfl) (by decide) (by decide) hK.1 hK.2) (g := (mkF m 2 #[.val (.ref a1), .val (.ref ms)] [(.ref ms), (.ref a1)])) rfl (by rw [hml]; rfl) (Steps.refl _) (a := a1) (argsL := [(.ref ms)]) (rest := []) (lenOf pd_0 rfl) rfl (by show 2 * 0 + _ ≤ _; exact Nat.le_of_eq rfl) (hb hby d7_2) (fun _ _ => ⟨rfl, e0, (by decide : 0 + 1 ≤ _), (by decide : 0 + 2752 ≤ _)⟩)
  dsimp only [Pt.U, Pt.locs, Pt.cells, Pt.slots] at X1 l1 y1 z1 st1 hQ1
  subst l1 y1 z1
  obtain ⟨rfl, N1, K1, E1_⟩ := hQ1
  have Nf1 := Fr.app N0 N1
  refine Goes.via (S' := T1.setTop (mkF m 5 #[.val (.ref a1), .val (.ref ms)] [])) (fun _ kz => st1.trans kz) ?_
  exact Goes.retV X1 hx Bd.notSynchronized Bd.returns (hb hby d7_5) (Nat.le_of_ble_eq_true rfl) (Nat.le_of_ble_eq_true rfl) ⟨rfl, Nf1, K1, E1_⟩
theorem d6_0 : decode jdk_84_method_2_code 0 = .ok (.aload_n 0, 1) := by decide +kernel
theorem d6_1 : decode jdk_84_method_2_code 1 = .ok (.aload_n 1, 1) := by decide +kernel
theorem d6_2 : decode jdk_84_method_2_code 2 = .ok (.invokespecial 7, 3) := by decide +kernel
theorem d6_5 : decode jdk_84_method_2_code 5 = .ok (.return_, 1) := by decide +kernel
theorem pn_6 : plainName "java/lang/ArithmeticException" = true := by first | (simp [plainName, overriddenIn]; done) | decide +kernel
theorem ef_6 (m : MethodId) (x0 : Addr) (x1 : Addr) : entryFrame m #[(.ref x0), (.ref x1)] 2 = mkF m 0 #[.val (.ref x0), .val (.ref x1)] [] := by first | (simp [entryFrame, mkF, argsToLocals, Value.category]; done) | rfl
def Q_rtc3 (Z : State) (a1 : Addr) (ms : Addr) (us ss : Value) (h0 : Heap) (n0 : Nat) : Option Value → Heap → List Loc → Prop := fun v h L => v = none ∧ Fr n0 L ∧ Keep h0 h [a1] ∧ Exa Z h a1 "java/lang/ArithmeticException"
set_option maxRecDepth 65536 in
set_option maxHeartbeats 40000000 in
theorem rtc3 (l : Launch) (Z : State) (a0 : Array Value) (hw : ∀ d ∈ tables_1, d.before a0 Z = true) (ws : List Jvm.Cond) (a1 : Addr) (ms : Addr) (us ss : Value) (h0 : Heap) (n0 : Nat) (Z0 : n0 ≤ h0.size) (SU : Sta Z Z.heap "java/lang/Throwable" "UNASSIGNED_STACK" "[Ljava/lang/StackTraceElement;" us) (hus : us.isRef = true) (SQ : Sta Z Z.heap "java/lang/Throwable" "SUPPRESSED_SENTINEL" "Ljava/util/List;" ss) (hss : ss.isRef = true) (hl : l.stackTraces = true) (O0 : Old Z n0 h0) (F0 : Fld Z h0 a1 "java/lang/Throwable" "cause" "Ljava/lang/Throwable;" .null) (F1 : Fld Z h0 a1 "java/lang/Throwable" "stackTrace" "[Ljava/lang/StackTraceElement;" .null) (F2 : Fld Z h0 a1 "java/lang/Throwable" "suppressedExceptions" "Ljava/util/List;" .null) (F3 : Fld Z h0 a1 "java/lang/Throwable" "backtrace" "Ljava/lang/Object;" .null) (F4 : Fld Z h0 a1 "java/lang/Throwable" "detailMessage" "Ljava/lang/String;" .null) (E1 : Exa Z h0 a1 "java/lang/ArithmeticException") (U1 : Unt h0 a1) (g1 : n0 ≤ a1) :
    MetFree l (⟨"java/lang/ArithmeticException", "<init>", "(Ljava/lang/String;)V"⟩ : MethodName) (head1 (Jvm.Cond.code (⟨"java/lang/ArithmeticException", "<init>", "(Ljava/lang/String;)V"⟩ : MethodName) jdk_84_method_2_code 2 none :: ws) ({ frames := 6, cells := 1, slots := 2752, locals := 92 } : Room)) (fun a U => a = #[(.ref a1), (.ref ms)] ∧ Z.Warmed39 U.vm ∧ U.heap = h0) (fun _ _ bl s _ => s.vm.MethodsKnown ∧ s.vm.FramesKnown bl) (fun _ U oo U' => ∃ vv LL, oo = .returned vv ∧ (Q_rtc3 Z a1 ms us ss h0 n0) vv U'.heap LL ∧ FrameEnd U oo U' LL ({ frames := 6, cells := 1, slots := 2752, locals := 92 } : Room).cells ({ frames := 6, cells := 1, slots := 2752, locals := 92 } : Room).slots) := by
  refine MetFree.of_bodySF (plainFor_of_name pn_6) hisR ?_
  intro p e s m args below meth c s₁ Bd hml0 hP hK
  obtain ⟨rfl, hZ, hh⟩ := hP
  have hx := Bd.exec
  have hby := Bd.bytes
  have hml : c.maxLocals = 2 := hml0
  have hown : s.vm.findClass "java/lang/ArithmeticException" = some m.cls := findClass_of_methodNamed Bd.named
  have hnm := (name_of_methodNamed Bd.named Bd.method).1
  have X0 : Stand p l e ({ frames := 6, cells := 1, slots := 2752, locals := 92 } : Room) s m #[(.ref a1), (.ref ms)] below meth c s₁ [] 0 0 := Stand.of_body Bd
  have e0 : s₁.heap = h0 := by rw [← hh, Bd.state]; rfl
  have N0 := Fr.nil n0
  show Goes p e below (Fin s (Q_rtc3 Z a1 ms us ss h0 n0) ({ frames := 6, cells := 1, slots := 2752, locals := 92 } : Room).cells ({ frames := 6, cells := 1, slots := 2752, locals := 92 } : Room).slots) _
  refine Goes.via (S' := s₁.setTop (mkF m 0 #[.val (.ref a1), .val (.ref ms)] [])) (fun tz kz => castTop (ef_6 m a1 ms ) kz) ?_
  refine Goes.via (S' := s₁.setTop (mkF m 2 #[.val (.ref a1), .val (.ref ms)] [(.ref ms), (.ref a1)])) (fun tz kz => ?_) ?_
  · show Steps p.tables e below (s₁.setTop (mkF m 0 #[.val (.ref a1), .val (.ref ms)] [])) _
    refine XS.aloadN X0.here hx rfl (hb hby d6_0) rfl rfl ?_
    refine XS.aloadN X0.here hx rfl (hb hby d6_1) rfl rfl ?_
    exact kz
  obtain ⟨_, _, ⟨T1, L1, k1, n1⟩, -, X1, ⟨Lc1, hQ1, l1, y1, z1⟩, st1⟩ := X0.specialBack hx (y := (⟨"java/lang/RuntimeException", "<init>", "(Ljava/lang/String;)V"⟩ : MethodName)) rfl hown (mvT hZ (w_ hw 48 rfl)) (mvT hZ (w_ hw 49 rfl)) (mvT hZ (w_ hw 53 rfl)) (by decide) (backOfKL (W := 0) (rtc2 l Z a0 hw [] a1 ms us ss h0 n0 Z0 SU hus SQ hss hl O0 F0 F1 F2 F3 F4 E1 U1 g1) hZ (w_ hw 53 rfl) (w_ hw 52 rfl) (by decide) (by decide) hK.1 hK.2) (g := (mkF m 2 #[.val (.ref a1), .val (.ref ms)] [(.ref ms), (.ref a1)])) rfl (by rw [hml]; rfl) (Steps.refl _) (a := a1) (argsL := [(.ref ms)]) (rest := []) (lenOf pd_0 rfl) rfl (by show 2 * 0 + _ ≤ _; exact Nat.le_of_eq rfl) (hb hby d6_2) (fun _ _ => ⟨rfl, e0, (by decide : 0 + 1 ≤ _), (by decide : 0 + 2752 ≤ _)⟩)
  dsimp only [Pt.U, Pt.locs, Pt.cells, Pt.slots] at X1 l1 y1 z1 st1 hQ1
  subst l1 y1 z1
  obtain ⟨rfl, N1, K1, E1_⟩ := hQ1
  have Nf1 := Fr.app N0 N1
  refine Goes.via (S' := T1.setTop (mkF m 5 #[.val (.ref a1), .val (.ref ms)] [])) (fun _ kz => st1.trans kz) ?_
  exact Goes.retV X1 hx Bd.notSynchronized Bd.returns (hb hby d6_5) (Nat.le_of_ble_eq_true rfl) (Nat.le_of_ble_eq_true rfl) ⟨rfl, Nf1, K1, E1_⟩
theorem d4_0 : decode jdk_29_method_25_code 0 = .ok (.lload_n 0, 1) := by decide +kernel
theorem d4_1 : decode jdk_29_method_25_code 1 = .ok (.lload_n 2, 1) := by decide +kernel
theorem d4_2 : decode jdk_29_method_25_code 2 = .ok (.ladd, 1) := by decide +kernel
theorem d4_3 : decode jdk_29_method_25_code 3 = .ok (.lstore 4, 2) := by decide +kernel
theorem d4_5 : decode jdk_29_method_25_code 5 = .ok (.lload_n 0, 1) := by decide +kernel
theorem d4_6 : decode jdk_29_method_25_code 6 = .ok (.lload 4, 2) := by decide +kernel
theorem d4_8 : decode jdk_29_method_25_code 8 = .ok (.lxor, 1) := by decide +kernel
theorem d4_9 : decode jdk_29_method_25_code 9 = .ok (.lload_n 2, 1) := by decide +kernel
theorem d4_10 : decode jdk_29_method_25_code 10 = .ok (.lload 4, 2) := by decide +kernel
theorem d4_12 : decode jdk_29_method_25_code 12 = .ok (.lxor, 1) := by decide +kernel
theorem d4_13 : decode jdk_29_method_25_code 13 = .ok (.land, 1) := by decide +kernel
theorem d4_14 : decode jdk_29_method_25_code 14 = .ok (.lconst 0, 1) := by decide +kernel
theorem d4_15 : decode jdk_29_method_25_code 15 = .ok (.lcmp, 1) := by decide +kernel
theorem d4_16 : decode jdk_29_method_25_code 16 = .ok (.ifCond .ge 13, 3) := by decide +kernel
theorem d4_19 : decode jdk_29_method_25_code 19 = .ok (.new 109, 3) := by decide +kernel
theorem d4_22 : decode jdk_29_method_25_code 22 = .ok (.dup, 1) := by decide +kernel
theorem d4_23 : decode jdk_29_method_25_code 23 = .ok (.ldc 116, 2) := by decide +kernel
theorem d4_25 : decode jdk_29_method_25_code 25 = .ok (.invokespecial 113, 3) := by decide +kernel
theorem d4_28 : decode jdk_29_method_25_code 28 = .ok (.athrow, 1) := by decide +kernel
theorem d4_29 : decode jdk_29_method_25_code 29 = .ok (.lload 4, 2) := by decide +kernel
theorem d4_31 : decode jdk_29_method_25_code 31 = .ok (.lreturn, 1) := by decide +kernel
theorem pn_4 : plainFor (⟨"java/lang/Math", "addExact", "(JJ)J"⟩ : MethodName) = true := by decide +kernel
theorem ef_4 (m : MethodId) (x0 : Int64) (x1 : Int64) : entryFrame m #[(.long x0), (.long x1)] 6 = mkF m 0 #[.val (.long x0), .second, .val (.long x1), .second, .unset, .unset] [] := by first | (simp [entryFrame, mkF, argsToLocals, Value.category]; done) | rfl
def Q_rax (Z : State) (x : Int64) (y : Int64)  (h0 : Heap) (n0 : Nat) : Option Value → Heap → List Loc → Prop := fun v h L => v = some (.long (x + y)) ∧ Fr n0 L ∧ h = h0
set_option maxRecDepth 65536 in
set_option maxHeartbeats 40000000 in
theorem rax (l : Launch) (Z : State) (a0 : Array Value) (hw : ∀ d ∈ tables_1, d.before a0 Z = true) (ws : List Jvm.Cond) (x : Int64) (y : Int64)  (h0 : Heap) (n0 : Nat) (Z0 : n0 ≤ h0.size) (q : ¬ ((x ^^^ (x + y)) &&& (y ^^^ (x + y))) < (0 : Int64)) :
    own_M l Z (⟨"java/lang/Math", "addExact", "(JJ)J"⟩ : MethodName) (Jvm.Cond.code (⟨"java/lang/Math", "addExact", "(JJ)J"⟩ : MethodName) jdk_29_method_25_code 6 (some .long)) ws ({ frames := 0, cells := 0, slots := 0, locals := 0 } : Room) #[(.long x), (.long y)] h0 (Q_rax Z x y h0 n0) := by
  refine MetFree.of_bodySF (Jvm.Free.JP.mathPlain rfl (by decide +kernel)) hisR ?_
  intro p e s m args below meth c s₁ Bd hml0 hP hK
  obtain ⟨rfl, hZ, hh⟩ := hP
  have hx := Bd.exec
  have hby := Bd.bytes
  have hml : c.maxLocals = 6 := hml0
  have hown : s.vm.findClass "java/lang/Math" = some m.cls := findClass_of_methodNamed Bd.named
  have hnm := (name_of_methodNamed Bd.named Bd.method).1
  have X0 : Stand p l e ({ frames := 0, cells := 0, slots := 0, locals := 0 } : Room) s m #[(.long x), (.long y)] below meth c s₁ [] 0 0 := Stand.of_body Bd
  have e0 : s₁.heap = h0 := by rw [← hh, Bd.state]; rfl
  have N0 := Fr.nil n0
  show Goes p e below (Fin s (Q_rax Z x y h0 n0) ({ frames := 0, cells := 0, slots := 0, locals := 0 } : Room).cells ({ frames := 0, cells := 0, slots := 0, locals := 0 } : Room).slots) _
  refine Goes.via (S' := s₁.setTop (mkF m 0 #[.val (.long x), .second, .val (.long y), .second, .unset, .unset] [])) (fun tz kz => castTop (ef_4 m x y ) kz) ?_
  refine Goes.via (S' := s₁.setTop (mkF m 31 #[.val (.long x), .second, .val (.long y), .second, .val (.long (x + y)), .second] [(.long (x + y))])) (fun tz kz => ?_) ?_
  · show Steps p.tables e below (s₁.setTop (mkF m 0 #[.val (.long x), .second, .val (.long y), .second, .unset, .unset] [])) _
    refine XS.lloadN X0.here hx rfl (hb hby d4_0) rfl ?_
    refine XS.lloadN X0.here hx rfl (hb hby d4_1) rfl ?_
    refine XS.ladd X0.here hx rfl (hb hby d4_2) rfl ?_
    refine XS.lstore X0.here hx rfl (hb hby d4_3) rfl (l' := #[.val (.long x), .second, .val (.long y), .second, .val (.long (x + y)), .second]) rfl ?_
    show Steps p.tables e below (s₁.setTop (mkF m 5 #[.val (.long x), .second, .val (.long y), .second, .val (.long (x + y)), .second] [])) _
    refine XS.lloadN X0.here hx rfl (hb hby d4_5) rfl ?_
    refine XS.lload X0.here hx rfl (hb hby d4_6) rfl ?_
    refine XS.lxor X0.here hx rfl (hb hby d4_8) rfl ?_
    refine XS.lloadN X0.here hx rfl (hb hby d4_9) rfl ?_
    show Steps p.tables e below (s₁.setTop (mkF m 10 #[.val (.long x), .second, .val (.long y), .second, .val (.long (x + y)), .second] [(.long y), (.long (x ^^^ (x + y)))])) _
    refine XS.lload X0.here hx rfl (hb hby d4_10) rfl ?_
    refine XS.lxor X0.here hx rfl (hb hby d4_12) rfl ?_
    refine XS.land X0.here hx rfl (hb hby d4_13) rfl ?_
    refine XS.lconst X0.here hx rfl (hb hby d4_14) ?_
    show Steps p.tables e below (s₁.setTop (mkF m 15 #[.val (.long x), .second, .val (.long y), .second, .val (.long (x + y)), .second] [(.long (0 : Int64)), (.long ((x ^^^ (x + y)) &&& (y ^^^ (x + y))))])) _
    refine XS.lcmp X0.here hx rfl (hb hby d4_15) rfl ?_
    refine XS.ifYes X0.here hx rfl (pc0 := 16) (pc' := 29) rfl (hb hby d4_16) rfl ((if0 _ _).trans (flt (mt (lw_lt _ _).mp q)).2.1) (by decide) (by decide) ?_
    refine XS.lload X0.here hx rfl (hb hby d4_29) rfl ?_
    exact kz
  exact Goes.retO X0 hx Bd.notSynchronized Bd.returns rfl (Or.inr (Or.inl ⟨rfl, rfl, _, rfl⟩)) (hb hby d4_31) (Nat.le_of_ble_eq_true rfl) (Nat.le_of_ble_eq_true rfl) ⟨rfl, N0, e0⟩
def Q_raxt (Z : State) (x : Int64) (y : Int64) (us ss : Value) (h0 : Heap) (n0 : Nat) : Addr → Heap → List Loc → Prop := fun xx h L => Exa Z h xx "java/lang/ArithmeticException" ∧ Fr n0 L ∧ Keep h0 h [] ∧ @LE.le Nat _ h0.size xx
set_option maxRecDepth 65536 in
set_option maxHeartbeats 40000000 in
theorem raxt (l : Launch) (Z : State) (a0 : Array Value) (hw : ∀ d ∈ tables_1, d.before a0 Z = true) (ws : List Jvm.Cond) (x : Int64) (y : Int64) (us ss : Value) (h0 : Heap) (n0 : Nat) (Z0 : n0 ≤ h0.size) (q : ((x ^^^ (x + y)) &&& (y ^^^ (x + y))) < (0 : Int64)) (SU : Sta Z Z.heap "java/lang/Throwable" "UNASSIGNED_STACK" "[Ljava/lang/StackTraceElement;" us) (hus : us.isRef = true) (SQ : Sta Z Z.heap "java/lang/Throwable" "SUPPRESSED_SENTINEL" "Ljava/util/List;" ss) (hss : ss.isRef = true) (hl : l.stackTraces = true) (O0 : Old Z n0 h0) :
    MetFree l (⟨"java/lang/Math", "addExact", "(JJ)J"⟩ : MethodName) (head1 (Jvm.Cond.code (⟨"java/lang/Math", "addExact", "(JJ)J"⟩ : MethodName) jdk_29_method_25_code 6 (some .long) :: ws) ({ frames := 7, cells := 4, slots := 2820, locals := 108 } : Room)) (fun a U => a = #[(.long x), (.long y)] ∧ Z.Warmed39 U.vm ∧ U.heap = h0) (fun _ _ bl s _ => s.vm.MethodsKnown ∧ s.vm.FramesKnown bl) (fun _ U oo U' => FinT U (Q_raxt Z x y us ss h0 n0) ({ frames := 7, cells := 4, slots := 2820, locals := 108 } : Room).cells ({ frames := 7, cells := 4, slots := 2820, locals := 108 } : Room).slots U' oo) := by
  refine MetFree.of_bodySF (Jvm.Free.JP.mathPlain rfl (by decide +kernel)) hisR ?_
  intro p e s m args below meth c s₁ Bd hml0 hP hK
  obtain ⟨rfl, hZ, hh⟩ := hP
  have hx := Bd.exec
  have hby := Bd.bytes
  have hml : c.maxLocals = 6 := hml0
  have hown : s.vm.findClass "java/lang/Math" = some m.cls := findClass_of_methodNamed Bd.named
  have hnm := (name_of_methodNamed Bd.named Bd.method).1
  have X0 : Stand p l e ({ frames := 7, cells := 4, slots := 2820, locals := 108 } : Room) s m #[(.long x), (.long y)] below meth c s₁ [] 0 0 := Stand.of_body Bd
  have e0 : s₁.heap = h0 := by rw [← hh, Bd.state]; rfl
  have N0 := Fr.nil n0
  have wS : ∀ d ∈ Bundle.stringAtoms, d.before a0 Z = true := by
    intro d hd
    simp only [Bundle.stringAtoms, List.mem_cons, List.not_mem_nil, or_false] at hd
    rcases hd with rfl | rfl | rfl | rfl | rfl | rfl | rfl
    · exact (w_ hw 37 rfl)
    · exact (w_ hw 38 rfl)
    · exact (w_ hw 39 rfl)
    · exact (w_ hw 40 rfl)
    · exact (w_ hw 41 rfl)
    · exact (w_ hw 42 rfl)
    · exact (w_ hw 43 rfl)
  show Goes p e below (FinT s (Q_raxt Z x y us ss h0 n0) ({ frames := 7, cells := 4, slots := 2820, locals := 108 } : Room).cells ({ frames := 7, cells := 4, slots := 2820, locals := 108 } : Room).slots) _
  refine Goes.via (S' := s₁.setTop (mkF m 0 #[.val (.long x), .second, .val (.long y), .second, .unset, .unset] [])) (fun tz kz => castTop (ef_4 m x y ) kz) ?_
  refine Goes.via (S' := s₁.setTop (mkF m 19 #[.val (.long x), .second, .val (.long y), .second, .val (.long (x + y)), .second] [])) (fun tz kz => ?_) ?_
  · show Steps p.tables e below (s₁.setTop (mkF m 0 #[.val (.long x), .second, .val (.long y), .second, .unset, .unset] [])) _
    refine XS.lloadN X0.here hx rfl (hb hby d4_0) rfl ?_
    refine XS.lloadN X0.here hx rfl (hb hby d4_1) rfl ?_
    refine XS.ladd X0.here hx rfl (hb hby d4_2) rfl ?_
    refine XS.lstore X0.here hx rfl (hb hby d4_3) rfl (l' := #[.val (.long x), .second, .val (.long y), .second, .val (.long (x + y)), .second]) rfl ?_
    show Steps p.tables e below (s₁.setTop (mkF m 5 #[.val (.long x), .second, .val (.long y), .second, .val (.long (x + y)), .second] [])) _
    refine XS.lloadN X0.here hx rfl (hb hby d4_5) rfl ?_
    refine XS.lload X0.here hx rfl (hb hby d4_6) rfl ?_
    refine XS.lxor X0.here hx rfl (hb hby d4_8) rfl ?_
    refine XS.lloadN X0.here hx rfl (hb hby d4_9) rfl ?_
    show Steps p.tables e below (s₁.setTop (mkF m 10 #[.val (.long x), .second, .val (.long y), .second, .val (.long (x + y)), .second] [(.long y), (.long (x ^^^ (x + y)))])) _
    refine XS.lload X0.here hx rfl (hb hby d4_10) rfl ?_
    refine XS.lxor X0.here hx rfl (hb hby d4_12) rfl ?_
    refine XS.land X0.here hx rfl (hb hby d4_13) rfl ?_
    refine XS.lconst X0.here hx rfl (hb hby d4_14) ?_
    show Steps p.tables e below (s₁.setTop (mkF m 15 #[.val (.long x), .second, .val (.long y), .second, .val (.long (x + y)), .second] [(.long (0 : Int64)), (.long ((x ^^^ (x + y)) &&& (y ^^^ (x + y))))])) _
    refine XS.lcmp X0.here hx rfl (hb hby d4_15) rfl ?_
    refine XS.ifNo X0.here hx rfl (hb hby d4_16) rfl ((if0 _ _).trans (tlt ((lw_lt _ _).mpr q)).2.1) ?_
    exact kz
  obtain ⟨T1, h1, X1, e1, E1, A1, D1, U1, st1⟩ := newO X0 hx hZ hown (w_ hw 33 rfl) (w_ hw 34 rfl) (w_ hw 35 rfl) e0 (g := (mkF m 19 #[.val (.long x), .second, .val (.long y), .second, .val (.long (x + y)), .second] [])) rfl (hb hby d4_19) (by decide) (by decide)
  obtain ⟨b1, g1⟩ : ∃ z, z = h0.size := ⟨_, rfl⟩
  rw [← g1] at A1 D1 U1 st1
  refine Goes.via (S' := T1.setTop (mkF m 22 #[.val (.long x), .second, .val (.long y), .second, .val (.long (x + y)), .second] [(.ref b1)])) st1 ?_
  have G0 : Fld Z h1 b1 "java/lang/Throwable" "cause" "Ljava/lang/Throwable;" .null := D1 (Or.inl (w_ hw 68 rfl)) (ty := (.object "java/lang/Throwable")) (by decide)
  have G1 : Fld Z h1 b1 "java/lang/Throwable" "stackTrace" "[Ljava/lang/StackTraceElement;" .null := D1 (Or.inl (w_ hw 71 rfl)) (ty := (.array (.object "java/lang/StackTraceElement"))) (by decide)
  have G2 : Fld Z h1 b1 "java/lang/Throwable" "suppressedExceptions" "Ljava/util/List;" .null := D1 (Or.inl (w_ hw 74 rfl)) (ty := (.object "java/util/List")) (by decide)
  have G3 : Fld Z h1 b1 "java/lang/Throwable" "backtrace" "Ljava/lang/Object;" .null := D1 (Or.inl (w_ hw 99 rfl)) (ty := (.object "java/lang/Object")) (by decide)
  have G4 : Fld Z h1 b1 "java/lang/Throwable" "detailMessage" "Ljava/lang/String;" .null := D1 (Or.inl (w_ hw 98 rfl)) (ty := (.object "java/lang/String")) (by decide)
  have UU : Unt h1 b1 := U1
  have gq : @LE.le Nat _ h0.size b1 := Nat.le_of_eq g1.symm
  refine Goes.via (S' := T1.setTop (mkF m 23 #[.val (.long x), .second, .val (.long y), .second, .val (.long (x + y)), .second] [(.ref b1), (.ref b1)])) (fun tz kz => ?_) ?_
  · show Steps p.tables e below (T1.setTop (mkF m 22 #[.val (.long x), .second, .val (.long y), .second, .val (.long (x + y)), .second] [(.ref b1)])) _
    refine XS.dup X1.here hx rfl (hb hby d4_22) rfl rfl ?_
    exact kz
  obtain ⟨a2, T2, h2, k2, X2, e2, E2, hS2, hk2, hZ, hown, st2⟩ := ldcS (s := s) (vm0 := s.vm) X1 hx hZ hown (w_ hw 36 rfl) wS e1 ((State.WarmedH.refl s).since 0) (Nat.zero_le _) (g := (mkF m 23 #[.val (.long x), .second, .val (.long y), .second, .val (.long (x + y)), .second] [(.ref b1), (.ref b1)])) rfl (hb hby d4_23) (n := 52) (by decide) (by decide) (by decide) (by decide)
  refine Goes.via (S' := T2.setTop (mkF m 25 #[.val (.long x), .second, .val (.long y), .second, .val (.long (x + y)), .second] [(.ref a2), (.ref b1), (.ref b1)])) st2 ?_
  have G0 := G0.ext E2
  have G1 := G1.ext E2
  have G2 := G2.ext E2
  have G3 := G3.ext E2
  have G4 := G4.ext E2
  have EE := A1.ext E2
  have UU := UU.ext E2
  have O1 := (O0.ext E1).ext E2
  have Z1 := Nat.le_trans (Nat.le_trans Z0 E1.1) E2.1
  have K1 := ((Keep.refl h0 []).ext E1).ext E2
  have hK : (s.setVm T2.vm).vm.MethodsKnown ∧ (s.setVm T2.vm).vm.FramesKnown below := ⟨Vm.MethodsKnown.alikeC hS2.1.alike hK.1, Vm.FramesKnown.alikeC hS2.1.alike hK.2⟩
  have gz : n0 ≤ b1 := Nat.le_trans Z0 gq
  obtain ⟨_, _, ⟨T3, L3, k3, n3⟩, -, X3, ⟨Lc3, hQ3, l3, y3, z3⟩, st3⟩ := X2.specialBack hx (y := (⟨"java/lang/ArithmeticException", "<init>", "(Ljava/lang/String;)V"⟩ : MethodName)) rfl hown (mvT hZ (w_ hw 44 rfl)) (mvT hZ (w_ hw 45 rfl)) (mvT hZ (w_ hw 47 rfl)) (by decide) (backOfKL (W := 1) (rtc3 l Z a0 hw [] b1 a2 us ss h2 n0 Z1 SU hus SQ hss hl O1 G0 G1 G2 G3 G4 EE UU gz) hZ (w_ hw 47 rfl) (w_ hw 35 rfl) (by decide) (by decide) hK.1 hK.2) (g := (mkF m 25 #[.val (.long x), .second, .val (.long y), .second, .val (.long (x + y)), .second] [(.ref a2), (.ref b1), (.ref b1)])) rfl (by rw [hml]; rfl) (Steps.refl _) (a := b1) (argsL := [(.ref a2)]) (rest := [(.ref b1)]) (lenOf pd_0 rfl) rfl (by show 2 * 0 + _ ≤ _; exact Nat.le_of_eq rfl) (hb hby d4_25) (fun _ _ => ⟨rfl, e2, (by decide : 3 + 1 ≤ _), (by decide : 62 + 2752 ≤ _)⟩)
  dsimp only [Pt.U, Pt.locs, Pt.cells, Pt.slots] at X3 l3 y3 z3 st3 hQ3
  subst l3 y3 z3
  obtain ⟨rfl, N3, K3, E3_⟩ := hQ3
  have Nf3 := Fr.app N0 N3
  refine Goes.via (S' := T3.setTop (mkF m 28 #[.val (.long x), .second, .val (.long y), .second, .val (.long (x + y)), .second] [(.ref b1)])) (fun _ kz => st3.trans kz) ?_
  have K2 := K1.trans K3 (allS (Or.inr gq) all0)
  exact Goes.throwT (s := s) (vm1 := T2.vm) X3 hx Bd.notSynchronized hS2 (Nat.le_trans hk2 K3.1) (own_noexc Bd) (hb hby d4_28) (Nat.le_of_ble_eq_true rfl) (Nat.le_of_ble_eq_true rfl) ⟨E3_, Nf3, K2, gq⟩
theorem d1_0 : decode prog_120_method_1_code 0 = .ok (.aload_n 0, 1) := by decide +kernel
theorem d1_1 : decode prog_120_method_1_code 1 = .ok (.invokespecial 1, 3) := by decide +kernel
theorem d1_4 : decode prog_120_method_1_code 4 = .ok (.aload_n 0, 1) := by decide +kernel
theorem d1_5 : decode prog_120_method_1_code 5 = .ok (.iconst 1, 1) := by decide +kernel
theorem d1_6 : decode prog_120_method_1_code 6 = .ok (.putfield 7, 3) := by decide +kernel
theorem d1_9 : decode prog_120_method_1_code 9 = .ok (.return_, 1) := by decide +kernel
theorem pn_1 : plainName "lambdary/statistics/IntegralSum" = true := by first | (simp [plainName, overriddenIn]; done) | decide +kernel
theorem ef_1 (m : MethodId) (x0 : Addr) : entryFrame m #[(.ref x0)] 1 = mkF m 0 #[.val (.ref x0)] [] := by first | (simp [entryFrame, mkF, argsToLocals, Value.category]; done) | rfl
def Q_rin (Z : State) (a1 : Addr)  (h0 : Heap) (n0 : Nat) : Option Value → Heap → List Loc → Prop := fun v h L => v = none ∧ Fr n0 L ∧ Keep h0 h [a1] ∧ Exa Z h a1 "lambdary/statistics/IntegralSum" ∧ Fld Z h a1 "lambdary/statistics/IntegralSum" "low" "J" (.long (0 : Int64)) ∧ Fld Z h a1 "lambdary/statistics/IntegralSum" "turns" "J" (.long (0 : Int64)) ∧ Fld Z h a1 "lambdary/statistics/IntegralSum" "wrapped" "Z" (.int (0 : Int32)) ∧ Fld Z h a1 "lambdary/statistics/IntegralSum" "checkInts" "Z" (.int (1 : Int32))
set_option maxRecDepth 65536 in
set_option maxHeartbeats 40000000 in
theorem rin (l : Launch) (Z : State) (a0 : Array Value) (hw : ∀ d ∈ tables_1, d.before a0 Z = true) (ws : List Jvm.Cond) (a1 : Addr)  (h0 : Heap) (n0 : Nat) (Z0 : n0 ≤ h0.size) (E1 : Exa Z h0 a1 "lambdary/statistics/IntegralSum") (F0 : Fld Z h0 a1 "lambdary/statistics/IntegralSum" "low" "J" (.long (0 : Int64))) (F1 : Fld Z h0 a1 "lambdary/statistics/IntegralSum" "turns" "J" (.long (0 : Int64))) (F2 : Fld Z h0 a1 "lambdary/statistics/IntegralSum" "wrapped" "Z" (.int (0 : Int32))) (F3 : Fld Z h0 a1 "lambdary/statistics/IntegralSum" "checkInts" "Z" (.int (0 : Int32))) (g1 : n0 ≤ a1) :
    own_M l Z (⟨"lambdary/statistics/IntegralSum", "<init>", "()V"⟩ : MethodName) (Jvm.Cond.code (⟨"lambdary/statistics/IntegralSum", "<init>", "()V"⟩ : MethodName) prog_120_method_1_code 1 none) ws ({ frames := 1, cells := 0, slots := 0, locals := 12 } : Room) #[(.ref a1)] h0 (Q_rin Z a1 h0 n0) := by
  refine MetFree.of_bodySF (plainFor_of_name pn_1) hisR ?_
  intro p e s m args below meth c s₁ Bd hml0 hP hK
  obtain ⟨rfl, hZ, hh⟩ := hP
  have hx := Bd.exec
  have hby := Bd.bytes
  have hml : c.maxLocals = 1 := hml0
  have hown : s.vm.findClass "lambdary/statistics/IntegralSum" = some m.cls := findClass_of_methodNamed Bd.named
  have hnm := (name_of_methodNamed Bd.named Bd.method).1
  have X0 : Stand p l e ({ frames := 1, cells := 0, slots := 0, locals := 12 } : Room) s m #[(.ref a1)] below meth c s₁ [] 0 0 := Stand.of_body Bd
  have e0 : s₁.heap = h0 := by rw [← hh, Bd.state]; rfl
  have N0 := Fr.nil n0
  show Goes p e below (Fin s (Q_rin Z a1 h0 n0) ({ frames := 1, cells := 0, slots := 0, locals := 12 } : Room).cells ({ frames := 1, cells := 0, slots := 0, locals := 12 } : Room).slots) _
  refine Goes.via (S' := s₁.setTop (mkF m 0 #[.val (.ref a1)] [])) (fun tz kz => castTop (ef_1 m a1 ) kz) ?_
  refine Goes.via (S' := s₁.setTop (mkF m 1 #[.val (.ref a1)] [(.ref a1)])) (fun tz kz => ?_) ?_
  · show Steps p.tables e below (s₁.setTop (mkF m 0 #[.val (.ref a1)] [])) _
    refine XS.aloadN X0.here hx rfl (hb hby d1_0) rfl rfl ?_
    exact kz
  obtain ⟨T1, X1, e1, st1⟩ := initO X0 hx hZ hown (w_ hw 6 rfl) (w_ hw 7 rfl) (w_ hw 8 rfl) e0 (g := (mkF m 1 #[.val (.ref a1)] [(.ref a1)])) rfl (by rw [hml]; rfl) rfl (hb hby d1_1) (by decide) (W := 0) (by show 2 * 0 + _ ≤ _; exact Nat.le_of_eq rfl) (by decide)
  refine Goes.via (S' := T1.setTop (mkF m 4 #[.val (.ref a1)] [])) st1 ?_
  refine Goes.via (S' := T1.setTop (mkF m 6 #[.val (.ref a1)] [(.int (1 : Int32)), (.ref a1)])) (fun tz kz => ?_) ?_
  · show Steps p.tables e below (T1.setTop (mkF m 4 #[.val (.ref a1)] [])) _
    refine XS.aloadN X1.here hx rfl (hb hby d1_4) rfl rfl ?_
    refine XS.iconst X1.here hx rfl (hb hby d1_5) ?_
    exact kz
  obtain ⟨T2, h2, X2, e2, W2, st2⟩ := putFN X1 hx hZ hown (w_ hw 9 rfl) Via.refl e1 F3 E1 (Or.inl (w_ hw 10 rfl)) (w_ hw 1 rfl) (ty := .boolean) (v' := (.int (nar .boolean (1 : Int32)))) (by decide) rfl (fits_nar_bool _) (g := (mkF m 6 #[.val (.ref a1)] [(.int (1 : Int32)), (.ref a1)])) rfl rfl (hb hby d1_6)
  refine Goes.via (S' := T2.setTop (mkF m 9 #[.val (.ref a1)] [])) st2 ?_
  have N2 := Fr.snoc X2 N0 g1
  have Flow_2 := F0.other W2 (Or.inr (slot_ne (Or.inl (w_ hw 19 rfl)) (Or.inl (w_ hw 10 rfl)) (by decide) (t := .long) (t' := .boolean) (by decide) (by decide)))
  have Fturns_2 := F1.other W2 (Or.inr (slot_ne (Or.inl (w_ hw 30 rfl)) (Or.inl (w_ hw 10 rfl)) (by decide) (t := .long) (t' := .boolean) (by decide) (by decide)))
  have Fwrapped_2 := F2.other W2 (Or.inr (slot_ne (Or.inl (w_ hw 17 rfl)) (Or.inl (w_ hw 10 rfl)) (by decide) (t := .boolean) (t' := .boolean) (by decide) (by decide)))
  have FcheckInts_2 := F3.same W2
  have E_2 := E1.wr W2
  have K_2 := (Keep.refl h0 [a1]).wr W2 (Or.inl (List.mem_singleton.mpr rfl))
  exact Goes.retV X2 hx Bd.notSynchronized Bd.returns (hb hby d1_9) (Nat.le_of_ble_eq_true rfl) (Nat.le_of_ble_eq_true rfl) (by rw [e2]; exact ⟨rfl, N2, K_2, E_2, Flow_2, Fturns_2, Fwrapped_2, FcheckInts_2⟩)
def own_tt (tu lo z : Int64) : Int64 := if ((lo ^^^ (lo + z)) &&& (z ^^^ (lo + z))) < (0 : Int64) then tu + (if z < (0 : Int64) then (-1 : Int64) else (1 : Int64)) else tu
theorem d12_0 : decode prog_120_method_12_code 0 = .ok (.aload_n 0, 1) := by decide +kernel
theorem d12_1 : decode prog_120_method_12_code 1 = .ok (.getfield 29, 3) := by decide +kernel
theorem d12_4 : decode prog_120_method_12_code 4 = .ok (.lload_n 1, 1) := by decide +kernel
theorem d12_5 : decode prog_120_method_12_code 5 = .ok (.ladd, 1) := by decide +kernel
theorem d12_6 : decode prog_120_method_12_code 6 = .ok (.lstore_n 3, 1) := by decide +kernel
theorem d12_7 : decode prog_120_method_12_code 7 = .ok (.aload_n 0, 1) := by decide +kernel
theorem d12_8 : decode prog_120_method_12_code 8 = .ok (.getfield 29, 3) := by decide +kernel
theorem d12_11 : decode prog_120_method_12_code 11 = .ok (.lload_n 3, 1) := by decide +kernel
theorem d12_12 : decode prog_120_method_12_code 12 = .ok (.lxor, 1) := by decide +kernel
theorem d12_13 : decode prog_120_method_12_code 13 = .ok (.lload_n 1, 1) := by decide +kernel
theorem d12_14 : decode prog_120_method_12_code 14 = .ok (.lload_n 3, 1) := by decide +kernel
theorem d12_15 : decode prog_120_method_12_code 15 = .ok (.lxor, 1) := by decide +kernel
theorem d12_16 : decode prog_120_method_12_code 16 = .ok (.land, 1) := by decide +kernel
theorem d12_17 : decode prog_120_method_12_code 17 = .ok (.lconst 0, 1) := by decide +kernel
theorem d12_18 : decode prog_120_method_12_code 18 = .ok (.lcmp, 1) := by decide +kernel
theorem d12_19 : decode prog_120_method_12_code 19 = .ok (.ifCond .ge 25, 3) := by decide +kernel
theorem d12_22 : decode prog_120_method_12_code 22 = .ok (.aload_n 0, 1) := by decide +kernel
theorem d12_23 : decode prog_120_method_12_code 23 = .ok (.dup, 1) := by decide +kernel
theorem d12_24 : decode prog_120_method_12_code 24 = .ok (.getfield 13, 3) := by decide +kernel
theorem d12_27 : decode prog_120_method_12_code 27 = .ok (.lload_n 1, 1) := by decide +kernel
theorem d12_28 : decode prog_120_method_12_code 28 = .ok (.lconst 0, 1) := by decide +kernel
theorem d12_29 : decode prog_120_method_12_code 29 = .ok (.lcmp, 1) := by decide +kernel
theorem d12_30 : decode prog_120_method_12_code 30 = .ok (.ifCond .ge 9, 3) := by decide +kernel
theorem d12_33 : decode prog_120_method_12_code 33 = .ok (.ldc2_w 79, 3) := by decide +kernel
theorem d12_36 : decode prog_120_method_12_code 36 = .ok (.goto 4, 3) := by decide +kernel
theorem d12_39 : decode prog_120_method_12_code 39 = .ok (.lconst 1, 1) := by decide +kernel
theorem d12_40 : decode prog_120_method_12_code 40 = .ok (.ladd, 1) := by decide +kernel
theorem d12_41 : decode prog_120_method_12_code 41 = .ok (.putfield 13, 3) := by decide +kernel
theorem d12_44 : decode prog_120_method_12_code 44 = .ok (.aload_n 0, 1) := by decide +kernel
theorem d12_45 : decode prog_120_method_12_code 45 = .ok (.lload_n 3, 1) := by decide +kernel
theorem d12_46 : decode prog_120_method_12_code 46 = .ok (.putfield 29, 3) := by decide +kernel
theorem d12_49 : decode prog_120_method_12_code 49 = .ok (.return_, 1) := by decide +kernel
theorem pn_12 : plainName "lambdary/statistics/IntegralSum" = true := by first | (simp [plainName, overriddenIn]; done) | decide +kernel
theorem ef_12 (m : MethodId) (x0 : Addr) (x1 : Int64) : entryFrame m #[(.ref x0), (.long x1)] 5 = mkF m 0 #[.val (.ref x0), .val (.long x1), .second, .unset, .unset] [] := by first | (simp [entryFrame, mkF, argsToLocals, Value.category]; done) | rfl
def Q_rat (Z : State) (a1 : Addr) (z : Int64) (lo tu : Int64) (wr ck : Int32) (h0 : Heap) (n0 : Nat) : Option Value → Heap → List Loc → Prop := fun v h L => v = none ∧ Fr n0 L ∧ Keep h0 h [a1] ∧ Exa Z h a1 "lambdary/statistics/IntegralSum" ∧ Fld Z h a1 "lambdary/statistics/IntegralSum" "low" "J" (.long (lo + z)) ∧ Fld Z h a1 "lambdary/statistics/IntegralSum" "turns" "J" (.long (own_tt tu lo z)) ∧ Fld Z h a1 "lambdary/statistics/IntegralSum" "wrapped" "Z" (.int wr) ∧ Fld Z h a1 "lambdary/statistics/IntegralSum" "checkInts" "Z" (.int ck)
set_option maxRecDepth 65536 in
set_option maxHeartbeats 40000000 in
theorem rat (l : Launch) (Z : State) (a0 : Array Value) (hw : ∀ d ∈ tables_1, d.before a0 Z = true) (ws : List Jvm.Cond) (a1 : Addr) (z : Int64) (lo tu : Int64) (wr ck : Int32) (h0 : Heap) (n0 : Nat) (Z0 : n0 ≤ h0.size) (E1 : Exa Z h0 a1 "lambdary/statistics/IntegralSum") (F0 : Fld Z h0 a1 "lambdary/statistics/IntegralSum" "low" "J" (.long lo)) (F1 : Fld Z h0 a1 "lambdary/statistics/IntegralSum" "turns" "J" (.long tu)) (F2 : Fld Z h0 a1 "lambdary/statistics/IntegralSum" "wrapped" "Z" (.int wr)) (F3 : Fld Z h0 a1 "lambdary/statistics/IntegralSum" "checkInts" "Z" (.int ck)) (g1 : n0 ≤ a1) :
    own_M l Z (⟨"lambdary/statistics/IntegralSum", "addToLow", "(J)V"⟩ : MethodName) (Jvm.Cond.code (⟨"lambdary/statistics/IntegralSum", "addToLow", "(J)V"⟩ : MethodName) prog_120_method_12_code 5 none) ws ({ frames := 0, cells := 0, slots := 0, locals := 0 } : Room) #[(.ref a1), (.long z)] h0 (Q_rat Z a1 z lo tu wr ck h0 n0) := by
  refine MetFree.of_bodySF (plainFor_of_name pn_12) hisR ?_
  intro p e s m args below meth c s₁ Bd hml0 hP hK
  obtain ⟨rfl, hZ, hh⟩ := hP
  have hx := Bd.exec
  have hby := Bd.bytes
  have hml : c.maxLocals = 5 := hml0
  have hown : s.vm.findClass "lambdary/statistics/IntegralSum" = some m.cls := findClass_of_methodNamed Bd.named
  have hnm := (name_of_methodNamed Bd.named Bd.method).1
  have X0 : Stand p l e ({ frames := 0, cells := 0, slots := 0, locals := 0 } : Room) s m #[(.ref a1), (.long z)] below meth c s₁ [] 0 0 := Stand.of_body Bd
  have e0 : s₁.heap = h0 := by rw [← hh, Bd.state]; rfl
  have N0 := Fr.nil n0
  show Goes p e below (Fin s (Q_rat Z a1 z lo tu wr ck h0 n0) ({ frames := 0, cells := 0, slots := 0, locals := 0 } : Room).cells ({ frames := 0, cells := 0, slots := 0, locals := 0 } : Room).slots) _
  refine Goes.via (S' := s₁.setTop (mkF m 0 #[.val (.ref a1), .val (.long z), .second, .unset, .unset] [])) (fun tz kz => castTop (ef_12 m a1 z ) kz) ?_
  refine Goes.via (S' := s₁.setTop (mkF m 1 #[.val (.ref a1), .val (.long z), .second, .unset, .unset] [(.ref a1)])) (fun tz kz => ?_) ?_
  · show Steps p.tables e below (s₁.setTop (mkF m 0 #[.val (.ref a1), .val (.long z), .second, .unset, .unset] [])) _
    refine XS.aloadN X0.here hx rfl (hb hby d12_0) rfl rfl ?_
    exact kz
  obtain ⟨T1, X1, e1, st1⟩ := getF X0 hx hZ hown (host := "") (Or.inl (w_ hw 18 rfl)) Via.refl e0 F0 (g := (mkF m 1 #[.val (.ref a1), .val (.long z), .second, .unset, .unset] [(.ref a1)])) rfl rfl (hb hby d12_1)
  refine Goes.via (S' := T1.setTop (mkF m 4 #[.val (.ref a1), .val (.long z), .second, .unset, .unset] [(.long lo)])) st1 ?_
  refine Goes.via (S' := T1.setTop (mkF m 8 #[.val (.ref a1), .val (.long z), .second, .val (.long (lo + z)), .second] [(.ref a1)])) (fun tz kz => ?_) ?_
  · show Steps p.tables e below (T1.setTop (mkF m 4 #[.val (.ref a1), .val (.long z), .second, .unset, .unset] [(.long lo)])) _
    refine XS.lloadN X1.here hx rfl (hb hby d12_4) rfl ?_
    refine XS.ladd X1.here hx rfl (hb hby d12_5) rfl ?_
    refine XS.lstoreN X1.here hx rfl (hb hby d12_6) rfl (l' := #[.val (.ref a1), .val (.long z), .second, .val (.long (lo + z)), .second]) rfl ?_
    refine XS.aloadN X1.here hx rfl (hb hby d12_7) rfl rfl ?_
    exact kz
  obtain ⟨T2, X2, e2, st2⟩ := getF X1 hx hZ hown (host := "") (Or.inl (w_ hw 18 rfl)) Via.refl e1 F0 (g := (mkF m 8 #[.val (.ref a1), .val (.long z), .second, .val (.long (lo + z)), .second] [(.ref a1)])) rfl rfl (hb hby d12_8)
  refine Goes.via (S' := T2.setTop (mkF m 11 #[.val (.ref a1), .val (.long z), .second, .val (.long (lo + z)), .second] [(.long lo)])) st2 ?_
  refine Goes.via (S' := T2.setTop (mkF m 19 #[.val (.ref a1), .val (.long z), .second, .val (.long (lo + z)), .second] [(.int (lcmpW ((lo ^^^ (lo + z)) &&& (z ^^^ (lo + z))) (0 : Int64)))])) (fun tz kz => ?_) ?_
  · show Steps p.tables e below (T2.setTop (mkF m 11 #[.val (.ref a1), .val (.long z), .second, .val (.long (lo + z)), .second] [(.long lo)])) _
    refine XS.lloadN X2.here hx rfl (hb hby d12_11) rfl ?_
    refine XS.lxor X2.here hx rfl (hb hby d12_12) rfl ?_
    refine XS.lloadN X2.here hx rfl (hb hby d12_13) rfl ?_
    refine XS.lloadN X2.here hx rfl (hb hby d12_14) rfl ?_
    show Steps p.tables e below (T2.setTop (mkF m 15 #[.val (.ref a1), .val (.long z), .second, .val (.long (lo + z)), .second] [(.long (lo + z)), (.long z), (.long (lo ^^^ (lo + z)))])) _
    refine XS.lxor X2.here hx rfl (hb hby d12_15) rfl ?_
    refine XS.land X2.here hx rfl (hb hby d12_16) rfl ?_
    refine XS.lconst X2.here hx rfl (hb hby d12_17) ?_
    refine XS.lcmp X2.here hx rfl (hb hby d12_18) rfl ?_
    exact kz
  by_cases hc19_3 : ((lo ^^^ (lo + z)) &&& (z ^^^ (lo + z))) < (0 : Int64)
  · refine Goes.via (S' := T2.setTop (mkF m 24 #[.val (.ref a1), .val (.long z), .second, .val (.long (lo + z)), .second] [(.ref a1), (.ref a1)])) (fun tz kz => ?_) ?_
    · show Steps p.tables e below (T2.setTop (mkF m 19 #[.val (.ref a1), .val (.long z), .second, .val (.long (lo + z)), .second] [(.int (lcmpW ((lo ^^^ (lo + z)) &&& (z ^^^ (lo + z))) (0 : Int64)))])) _
      refine XS.ifNo X2.here hx rfl (hb hby d12_19) rfl ((if0 _ _).trans (tlt ((lw_lt _ _).mpr hc19_3)).2.1) ?_
      refine XS.aloadN X2.here hx rfl (hb hby d12_22) rfl rfl ?_
      refine XS.dup X2.here hx rfl (hb hby d12_23) rfl rfl ?_
      exact kz
    obtain ⟨T4, X4, e4, st4⟩ := getF X2 hx hZ hown (host := "") (Or.inl (w_ hw 29 rfl)) Via.refl e2 F1 (g := (mkF m 24 #[.val (.ref a1), .val (.long z), .second, .val (.long (lo + z)), .second] [(.ref a1), (.ref a1)])) rfl rfl (hb hby d12_24)
    refine Goes.via (S' := T4.setTop (mkF m 27 #[.val (.ref a1), .val (.long z), .second, .val (.long (lo + z)), .second] [(.long tu), (.ref a1)])) st4 ?_
    refine Goes.via (S' := T4.setTop (mkF m 30 #[.val (.ref a1), .val (.long z), .second, .val (.long (lo + z)), .second] [(.int (lcmpW z (0 : Int64))), (.long tu), (.ref a1)])) (fun tz kz => ?_) ?_
    · show Steps p.tables e below (T4.setTop (mkF m 27 #[.val (.ref a1), .val (.long z), .second, .val (.long (lo + z)), .second] [(.long tu), (.ref a1)])) _
      refine XS.lloadN X4.here hx rfl (hb hby d12_27) rfl ?_
      refine XS.lconst X4.here hx rfl (hb hby d12_28) ?_
      refine XS.lcmp X4.here hx rfl (hb hby d12_29) rfl ?_
      exact kz
    obtain ⟨r6, hr6⟩ : ∃ zz_ : Int64, zz_ = (if z < (0 : Int64) then (-1 : Int64) else (1 : Int64)) := ⟨_, rfl⟩
    have j30_7 : ∀ t, Steps p.tables e below (T4.setTop (mkF m 40 #[.val (.ref a1), .val (.long z), .second, .val (.long (lo + z)), .second] [(.long r6), (.long tu), (.ref a1)])) t → Steps p.tables e below (T4.setTop (mkF m 30 #[.val (.ref a1), .val (.long z), .second, .val (.long (lo + z)), .second] [(.int (lcmpW z (0 : Int64))), (.long tu), (.ref a1)])) t := by
      intro tz kz
      by_cases hc30_5 : z < (0 : Int64)
      · rw [if_pos hc30_5] at hr6
        show Steps p.tables e below (T4.setTop (mkF m 30 #[.val (.ref a1), .val (.long z), .second, .val (.long (lo + z)), .second] [(.int (lcmpW z (0 : Int64))), (.long tu), (.ref a1)])) _
        refine XS.ifNo X4.here hx rfl (hb hby d12_30) rfl ((if0 _ _).trans (tlt ((lw_lt _ _).mpr hc30_5)).2.1) ?_
        refine X4.ldc2Long hx hown (mvT hZ (w_ hw 107 rfl)) (g := (mkF m 33 #[.val (.ref a1), .val (.long z), .second, .val (.long (lo + z)), .second] [(.long tu), (.ref a1)])) rfl (hb hby d12_33) _ ?_
        refine XS.goto X4.here hx rfl (pc0 := 36) (pc' := 40) rfl (hb hby d12_36) (by decide) (by decide) ?_
        subst hr6
        exact kz
      · rw [if_neg hc30_5] at hr6
        show Steps p.tables e below (T4.setTop (mkF m 30 #[.val (.ref a1), .val (.long z), .second, .val (.long (lo + z)), .second] [(.int (lcmpW z (0 : Int64))), (.long tu), (.ref a1)])) _
        refine XS.ifYes X4.here hx rfl (pc0 := 30) (pc' := 39) rfl (hb hby d12_30) rfl ((if0 _ _).trans (flt (mt (lw_lt _ _).mp hc30_5)).2.1) (by decide) (by decide) ?_
        refine XS.lconst X4.here hx rfl (hb hby d12_39) ?_
        subst hr6
        exact kz
    refine Goes.via j30_7 ?_
    refine Goes.via (S' := T4.setTop (mkF m 41 #[.val (.ref a1), .val (.long z), .second, .val (.long (lo + z)), .second] [(.long (tu + r6)), (.ref a1)])) (fun tz kz => ?_) ?_
    · show Steps p.tables e below (T4.setTop (mkF m 40 #[.val (.ref a1), .val (.long z), .second, .val (.long (lo + z)), .second] [(.long r6), (.long tu), (.ref a1)])) _
      refine XS.ladd X4.here hx rfl (hb hby d12_40) rfl ?_
      exact kz
    rw [show (tu + r6) = own_tt tu lo z from (by unfold own_tt; rw [if_pos hc19_3, hr6])]
    obtain ⟨T8, h8, X8, e8, W8, st8⟩ := putF X4 hx hZ hown (host := "") (Or.inl (w_ hw 29 rfl)) Via.refl e4 F1 E1 (Or.inl (w_ hw 30 rfl)) (w_ hw 1 rfl) (ty := .long) (by decide) rfl rfl (g := (mkF m 41 #[.val (.ref a1), .val (.long z), .second, .val (.long (lo + z)), .second] [(.long (own_tt tu lo z)), (.ref a1)])) rfl rfl (hb hby d12_41)
    refine Goes.via (S' := T8.setTop (mkF m 44 #[.val (.ref a1), .val (.long z), .second, .val (.long (lo + z)), .second] [])) st8 ?_
    have N8 := Fr.snoc X8 N0 g1
    have Flow_8 := F0.other W8 (Or.inr (slot_ne (Or.inl (w_ hw 19 rfl)) (Or.inl (w_ hw 30 rfl)) (by decide) (t := .long) (t' := .long) (by decide) (by decide)))
    have Fturns_8 := F1.same W8
    have Fwrapped_8 := F2.other W8 (Or.inr (slot_ne (Or.inl (w_ hw 17 rfl)) (Or.inl (w_ hw 30 rfl)) (by decide) (t := .boolean) (t' := .long) (by decide) (by decide)))
    have FcheckInts_8 := F3.other W8 (Or.inr (slot_ne (Or.inl (w_ hw 10 rfl)) (Or.inl (w_ hw 30 rfl)) (by decide) (t := .boolean) (t' := .long) (by decide) (by decide)))
    have E_8 := E1.wr W8
    have K_8 := (Keep.refl h0 [a1]).wr W8 (Or.inl (List.mem_singleton.mpr rfl))
    refine Goes.via (S' := T8.setTop (mkF m 46 #[.val (.ref a1), .val (.long z), .second, .val (.long (lo + z)), .second] [(.long (lo + z)), (.ref a1)])) (fun tz kz => ?_) ?_
    · show Steps p.tables e below (T8.setTop (mkF m 44 #[.val (.ref a1), .val (.long z), .second, .val (.long (lo + z)), .second] [])) _
      refine XS.aloadN X8.here hx rfl (hb hby d12_44) rfl rfl ?_
      refine XS.lloadN X8.here hx rfl (hb hby d12_45) rfl ?_
      exact kz
    obtain ⟨T9, h9, X9, e9, W9, st9⟩ := putF X8 hx hZ hown (host := "") (Or.inl (w_ hw 18 rfl)) Via.refl e8 Flow_8 E_8 (Or.inl (w_ hw 19 rfl)) (w_ hw 1 rfl) (ty := .long) (by decide) rfl rfl (g := (mkF m 46 #[.val (.ref a1), .val (.long z), .second, .val (.long (lo + z)), .second] [(.long (lo + z)), (.ref a1)])) rfl rfl (hb hby d12_46)
    refine Goes.via (S' := T9.setTop (mkF m 49 #[.val (.ref a1), .val (.long z), .second, .val (.long (lo + z)), .second] [])) st9 ?_
    have N9 := Fr.snoc X9 N8 g1
    have Flow_9 := Flow_8.same W9
    have Fturns_9 := Fturns_8.other W9 (Or.inr (slot_ne (Or.inl (w_ hw 30 rfl)) (Or.inl (w_ hw 19 rfl)) (by decide) (t := .long) (t' := .long) (by decide) (by decide)))
    have Fwrapped_9 := Fwrapped_8.other W9 (Or.inr (slot_ne (Or.inl (w_ hw 17 rfl)) (Or.inl (w_ hw 19 rfl)) (by decide) (t := .boolean) (t' := .long) (by decide) (by decide)))
    have FcheckInts_9 := FcheckInts_8.other W9 (Or.inr (slot_ne (Or.inl (w_ hw 10 rfl)) (Or.inl (w_ hw 19 rfl)) (by decide) (t := .boolean) (t' := .long) (by decide) (by decide)))
    have E_9 := E_8.wr W9
    have K_9 := K_8.wr W9 (Or.inl (List.mem_singleton.mpr rfl))
    exact Goes.retV X9 hx Bd.notSynchronized Bd.returns (hb hby d12_49) (Nat.le_of_ble_eq_true rfl) (Nat.le_of_ble_eq_true rfl) (by rw [e9]; exact ⟨rfl, N9, K_9, E_9, Flow_9, Fturns_9, Fwrapped_9, FcheckInts_9⟩)
  · refine Goes.via (S' := T2.setTop (mkF m 46 #[.val (.ref a1), .val (.long z), .second, .val (.long (lo + z)), .second] [(.long (lo + z)), (.ref a1)])) (fun tz kz => ?_) ?_
    · show Steps p.tables e below (T2.setTop (mkF m 19 #[.val (.ref a1), .val (.long z), .second, .val (.long (lo + z)), .second] [(.int (lcmpW ((lo ^^^ (lo + z)) &&& (z ^^^ (lo + z))) (0 : Int64)))])) _
      refine XS.ifYes X2.here hx rfl (pc0 := 19) (pc' := 44) rfl (hb hby d12_19) rfl ((if0 _ _).trans (flt (mt (lw_lt _ _).mp hc19_3)).2.1) (by decide) (by decide) ?_
      refine XS.aloadN X2.here hx rfl (hb hby d12_44) rfl rfl ?_
      refine XS.lloadN X2.here hx rfl (hb hby d12_45) rfl ?_
      exact kz
    obtain ⟨T10, h10, X10, e10, W10, st10⟩ := putF X2 hx hZ hown (host := "") (Or.inl (w_ hw 18 rfl)) Via.refl e2 F0 E1 (Or.inl (w_ hw 19 rfl)) (w_ hw 1 rfl) (ty := .long) (by decide) rfl rfl (g := (mkF m 46 #[.val (.ref a1), .val (.long z), .second, .val (.long (lo + z)), .second] [(.long (lo + z)), (.ref a1)])) rfl rfl (hb hby d12_46)
    refine Goes.via (S' := T10.setTop (mkF m 49 #[.val (.ref a1), .val (.long z), .second, .val (.long (lo + z)), .second] [])) st10 ?_
    have N10 := Fr.snoc X10 N0 g1
    have Flow_10 := F0.same W10
    have Fturns_10 := F1.other W10 (Or.inr (slot_ne (Or.inl (w_ hw 30 rfl)) (Or.inl (w_ hw 19 rfl)) (by decide) (t := .long) (t' := .long) (by decide) (by decide)))
    have Fwrapped_10 := F2.other W10 (Or.inr (slot_ne (Or.inl (w_ hw 17 rfl)) (Or.inl (w_ hw 19 rfl)) (by decide) (t := .boolean) (t' := .long) (by decide) (by decide)))
    have FcheckInts_10 := F3.other W10 (Or.inr (slot_ne (Or.inl (w_ hw 10 rfl)) (Or.inl (w_ hw 19 rfl)) (by decide) (t := .boolean) (t' := .long) (by decide) (by decide)))
    have E_10 := E1.wr W10
    have K_10 := (Keep.refl h0 [a1]).wr W10 (Or.inl (List.mem_singleton.mpr rfl))
    have Ft := Fturns_10
    have Ft : Fld Z h10 a1 "lambdary/statistics/IntegralSum" "turns" "J" (.long (own_tt tu lo z)) := (show tu = own_tt tu lo z from (by unfold own_tt; rw [if_neg hc19_3])) ▸ Fturns_10
    exact Goes.retV X10 hx Bd.notSynchronized Bd.returns (hb hby d12_49) (Nat.le_of_ble_eq_true rfl) (Nat.le_of_ble_eq_true rfl) (by rw [e10]; exact ⟨rfl, N10, K_10, E_10, Flow_10, Ft, Fwrapped_10, FcheckInts_10⟩)
theorem d3_0 : decode prog_120_method_5_code 0 = .ok (.aload_n 0, 1) := by decide +kernel
theorem d3_1 : decode prog_120_method_5_code 1 = .ok (.getfield 56, 3) := by decide +kernel
theorem d3_4 : decode prog_120_method_5_code 4 = .ok (.ifCond .eq 9, 3) := by decide +kernel
theorem d3_7 : decode prog_120_method_5_code 7 = .ok (.aload_n 0, 1) := by decide +kernel
theorem d3_8 : decode prog_120_method_5_code 8 = .ok (.lload_n 1, 1) := by decide +kernel
theorem d3_9 : decode prog_120_method_5_code 9 = .ok (.invokevirtual 50, 3) := by decide +kernel
theorem d3_12 : decode prog_120_method_5_code 12 = .ok (.return_, 1) := by decide +kernel
theorem d3_13 : decode prog_120_method_5_code 13 = .ok (.aload_n 0, 1) := by decide +kernel
theorem d3_14 : decode prog_120_method_5_code 14 = .ok (.aload_n 0, 1) := by decide +kernel
theorem d3_15 : decode prog_120_method_5_code 15 = .ok (.getfield 29, 3) := by decide +kernel
theorem d3_18 : decode prog_120_method_5_code 18 = .ok (.lload_n 1, 1) := by decide +kernel
theorem d3_19 : decode prog_120_method_5_code 19 = .ok (.invokestatic 59, 3) := by decide +kernel
theorem d3_22 : decode prog_120_method_5_code 22 = .ok (.putfield 29, 3) := by decide +kernel
theorem d3_25 : decode prog_120_method_5_code 25 = .ok (.goto 14, 3) := by decide +kernel
theorem d3_28 : decode prog_120_method_5_code 28 = .ok (.astore_n 3, 1) := by decide +kernel
theorem d3_29 : decode prog_120_method_5_code 29 = .ok (.aload_n 0, 1) := by decide +kernel
theorem d3_30 : decode prog_120_method_5_code 30 = .ok (.iconst 1, 1) := by decide +kernel
theorem d3_31 : decode prog_120_method_5_code 31 = .ok (.putfield 56, 3) := by decide +kernel
theorem d3_34 : decode prog_120_method_5_code 34 = .ok (.aload_n 0, 1) := by decide +kernel
theorem d3_35 : decode prog_120_method_5_code 35 = .ok (.lload_n 1, 1) := by decide +kernel
theorem d3_36 : decode prog_120_method_5_code 36 = .ok (.invokevirtual 50, 3) := by decide +kernel
theorem d3_39 : decode prog_120_method_5_code 39 = .ok (.return_, 1) := by decide +kernel
theorem pn_3 : plainName "lambdary/statistics/IntegralSum" = true := by first | (simp [plainName, overriddenIn]; done) | decide +kernel
theorem ef_3 (m : MethodId) (x0 : Addr) (x1 : Int64) : entryFrame m #[(.ref x0), (.long x1)] 4 = mkF m 0 #[.val (.ref x0), .val (.long x1), .second, .unset] [] := by first | (simp [entryFrame, mkF, argsToLocals, Value.category]; done) | rfl
def Q_rac (Z : State) (a1 : Addr) (z : Int64) (lo tu : Int64) (wr ck : Int32) (h0 : Heap) (n0 : Nat) : Option Value → Heap → List Loc → Prop := fun v h L => v = none ∧ Fr n0 L ∧ Keep h0 h [a1] ∧ Exa Z h a1 "lambdary/statistics/IntegralSum" ∧ Fld Z h a1 "lambdary/statistics/IntegralSum" "low" "J" (.long (lo + z)) ∧ Fld Z h a1 "lambdary/statistics/IntegralSum" "turns" "J" (.long tu) ∧ Fld Z h a1 "lambdary/statistics/IntegralSum" "wrapped" "Z" (.int (0 : Int32)) ∧ Fld Z h a1 "lambdary/statistics/IntegralSum" "checkInts" "Z" (.int ck)
set_option maxRecDepth 65536 in
set_option maxHeartbeats 40000000 in
theorem rac (l : Launch) (Z : State) (a0 : Array Value) (hw : ∀ d ∈ tables_1, d.before a0 Z = true) (ws : List Jvm.Cond) (a1 : Addr) (z : Int64) (lo tu : Int64) (wr ck : Int32) (h0 : Heap) (n0 : Nat) (Z0 : n0 ≤ h0.size) (E1 : Exa Z h0 a1 "lambdary/statistics/IntegralSum") (F0 : Fld Z h0 a1 "lambdary/statistics/IntegralSum" "low" "J" (.long lo)) (F1 : Fld Z h0 a1 "lambdary/statistics/IntegralSum" "turns" "J" (.long tu)) (F2 : Fld Z h0 a1 "lambdary/statistics/IntegralSum" "wrapped" "Z" (.int (0 : Int32))) (F3 : Fld Z h0 a1 "lambdary/statistics/IntegralSum" "checkInts" "Z" (.int ck)) (g1 : n0 ≤ a1) (q : ¬ ((lo ^^^ (lo + z)) &&& (z ^^^ (lo + z))) < (0 : Int64)) :
    own_M l Z (⟨"lambdary/statistics/IntegralSum", "accept", "(J)V"⟩ : MethodName) (Jvm.Cond.codeWith (⟨"lambdary/statistics/IntegralSum", "accept", "(J)V"⟩ : MethodName) prog_120_method_5_code 4 none [((13 : Nat), (25 : Nat), (28 : Nat), (36 : Nat))]) ws ({ frames := 1, cells := 0, slots := 0, locals := 20 } : Room) #[(.ref a1), (.long z)] h0 (Q_rac Z a1 z lo tu wr ck h0 n0) := by
  refine MetFree.of_bodySF (plainFor_of_name pn_3) hisWith ?_
  intro p e s m args below meth c s₁ Bd hml0 hP hK
  obtain ⟨rfl, hZ, hh⟩ := hP
  have hx := Bd.exec
  have hby := Bd.bytes
  have hml : c.maxLocals = 4 := hml0
  have hown : s.vm.findClass "lambdary/statistics/IntegralSum" = some m.cls := findClass_of_methodNamed Bd.named
  have hnm := (name_of_methodNamed Bd.named Bd.method).1
  have X0 : Stand p l e ({ frames := 1, cells := 0, slots := 0, locals := 20 } : Room) s m #[(.ref a1), (.long z)] below meth c s₁ [] 0 0 := Stand.of_body Bd
  have e0 : s₁.heap = h0 := by rw [← hh, Bd.state]; rfl
  have N0 := Fr.nil n0
  show Goes p e below (Fin s (Q_rac Z a1 z lo tu wr ck h0 n0) ({ frames := 1, cells := 0, slots := 0, locals := 20 } : Room).cells ({ frames := 1, cells := 0, slots := 0, locals := 20 } : Room).slots) _
  refine Goes.via (S' := s₁.setTop (mkF m 0 #[.val (.ref a1), .val (.long z), .second, .unset] [])) (fun tz kz => castTop (ef_3 m a1 z ) kz) ?_
  refine Goes.via (S' := s₁.setTop (mkF m 1 #[.val (.ref a1), .val (.long z), .second, .unset] [(.ref a1)])) (fun tz kz => ?_) ?_
  · show Steps p.tables e below (s₁.setTop (mkF m 0 #[.val (.ref a1), .val (.long z), .second, .unset] [])) _
    refine XS.aloadN X0.here hx rfl (hb hby d3_0) rfl rfl ?_
    exact kz
  obtain ⟨T1, X1, e1, st1⟩ := getF X0 hx hZ hown (host := "") (Or.inl (w_ hw 16 rfl)) Via.refl e0 F2 (g := (mkF m 1 #[.val (.ref a1), .val (.long z), .second, .unset] [(.ref a1)])) rfl rfl (hb hby d3_1)
  refine Goes.via (S' := T1.setTop (mkF m 4 #[.val (.ref a1), .val (.long z), .second, .unset] [(.int (0 : Int32))])) st1 ?_
  refine Goes.via (S' := T1.setTop (mkF m 15 #[.val (.ref a1), .val (.long z), .second, .unset] [(.ref a1), (.ref a1)])) (fun tz kz => ?_) ?_
  · show Steps p.tables e below (T1.setTop (mkF m 4 #[.val (.ref a1), .val (.long z), .second, .unset] [(.int (0 : Int32))])) _
    refine XS.ifYes X1.here hx rfl (pc0 := 4) (pc' := 13) rfl (hb hby d3_4) rfl ((if0 _ _).trans (teq (by first | decide | rfl)).1) (by decide) (by decide) ?_
    refine XS.aloadN X1.here hx rfl (hb hby d3_13) rfl rfl ?_
    refine XS.aloadN X1.here hx rfl (hb hby d3_14) rfl rfl ?_
    exact kz
  obtain ⟨T2, X2, e2, st2⟩ := getF X1 hx hZ hown (host := "") (Or.inl (w_ hw 18 rfl)) Via.refl e1 F0 (g := (mkF m 15 #[.val (.ref a1), .val (.long z), .second, .unset] [(.ref a1), (.ref a1)])) rfl rfl (hb hby d3_15)
  refine Goes.via (S' := T2.setTop (mkF m 18 #[.val (.ref a1), .val (.long z), .second, .unset] [(.long lo), (.ref a1)])) st2 ?_
  refine Goes.via (S' := T2.setTop (mkF m 19 #[.val (.ref a1), .val (.long z), .second, .unset] [(.long z), (.long lo), (.ref a1)])) (fun tz kz => ?_) ?_
  · show Steps p.tables e below (T2.setTop (mkF m 18 #[.val (.ref a1), .val (.long z), .second, .unset] [(.long lo), (.ref a1)])) _
    refine XS.lloadN X2.here hx rfl (hb hby d3_18) rfl ?_
    exact kz
  obtain ⟨_, _, ⟨T3, L3, k3, n3⟩, -, X3, ⟨Lc3, hQ3, l3, y3, z3⟩, st3⟩ := Jvm.LawKit.callS X2 hx (y := (⟨"java/lang/Math", "addExact", "(JJ)J"⟩ : MethodName)) hown (mvT hZ (w_ hw 20 rfl)) (mvT hZ (w_ hw 21 rfl)) (mvT hZ (w_ hw 22 rfl)) (mvT hZ (w_ hw 23 rfl)) (by decide) (backOf (W := 1) (rax l Z a0 hw [] lo z h0 n0 Z0 q) hZ (w_ hw 23 rfl) (w_ hw 22 rfl) (by decide) (by decide)) (g := (mkF m 19 #[.val (.ref a1), .val (.long z), .second, .unset] [(.long z), (.long lo), (.ref a1)])) rfl (by rw [hml]; rfl) (argsL := [(.long lo), (.long z)]) (rest := [(.ref a1)]) (lenOf pd_1 rfl) rfl (by show 2 * 0 + _ ≤ _; exact Nat.le_of_eq rfl) (hb hby d3_19) (fun _ _ => ⟨rfl, e2, (by decide : 0 + 0 ≤ _), (by decide : 0 + 0 ≤ _)⟩)
  dsimp only [Pt.U, Pt.locs, Pt.cells, Pt.slots] at X3 l3 y3 z3 st3 hQ3
  subst l3 y3 z3
  obtain ⟨rfl, N3, e3⟩ := hQ3
  have Nf3 := Fr.app N0 N3
  refine Goes.via (S' := T3.setTop (mkF m 22 #[.val (.ref a1), .val (.long z), .second, .unset] [(.long (lo + z)), (.ref a1)])) (st3) ?_
  obtain ⟨T4, h4, X4, e4, W4, st4⟩ := putF X3 hx hZ hown (host := "") (Or.inl (w_ hw 18 rfl)) Via.refl e3 F0 E1 (Or.inl (w_ hw 19 rfl)) (w_ hw 1 rfl) (ty := .long) (by decide) rfl rfl (g := (mkF m 22 #[.val (.ref a1), .val (.long z), .second, .unset] [(.long (lo + z)), (.ref a1)])) rfl rfl (hb hby d3_22)
  refine Goes.via (S' := T4.setTop (mkF m 25 #[.val (.ref a1), .val (.long z), .second, .unset] [])) st4 ?_
  have N4 := Fr.snoc X4 Nf3 g1
  have Flow_4 := F0.same W4
  have Fturns_4 := F1.other W4 (Or.inr (slot_ne (Or.inl (w_ hw 30 rfl)) (Or.inl (w_ hw 19 rfl)) (by decide) (t := .long) (t' := .long) (by decide) (by decide)))
  have Fwrapped_4 := F2.other W4 (Or.inr (slot_ne (Or.inl (w_ hw 17 rfl)) (Or.inl (w_ hw 19 rfl)) (by decide) (t := .boolean) (t' := .long) (by decide) (by decide)))
  have FcheckInts_4 := F3.other W4 (Or.inr (slot_ne (Or.inl (w_ hw 10 rfl)) (Or.inl (w_ hw 19 rfl)) (by decide) (t := .boolean) (t' := .long) (by decide) (by decide)))
  have E_4 := E1.wr W4
  have K_4 := (Keep.refl h0 [a1]).wr W4 (Or.inl (List.mem_singleton.mpr rfl))
  refine Goes.via (S' := T4.setTop (mkF m 39 #[.val (.ref a1), .val (.long z), .second, .unset] [])) (fun tz kz => ?_) ?_
  · show Steps p.tables e below (T4.setTop (mkF m 25 #[.val (.ref a1), .val (.long z), .second, .unset] [])) _
    refine XS.goto X4.here hx rfl (pc0 := 25) (pc' := 39) rfl (hb hby d3_25) (by decide) (by decide) ?_
    exact kz
  exact Goes.retV X4 hx Bd.notSynchronized Bd.returns (hb hby d3_39) (Nat.le_of_ble_eq_true rfl) (Nat.le_of_ble_eq_true rfl) (by rw [e4]; exact ⟨rfl, N4, K_4, E_4, Flow_4, Fturns_4, Fwrapped_4, FcheckInts_4⟩)
def Q_rac_w (Z : State) (a1 : Addr) (z : Int64) (lo tu : Int64) (wr ck : Int32) (h0 : Heap) (n0 : Nat) : Option Value → Heap → List Loc → Prop := fun v h L => v = none ∧ Fr n0 L ∧ Keep h0 h [a1] ∧ Exa Z h a1 "lambdary/statistics/IntegralSum" ∧ Fld Z h a1 "lambdary/statistics/IntegralSum" "low" "J" (.long (lo + z)) ∧ Fld Z h a1 "lambdary/statistics/IntegralSum" "turns" "J" (.long (own_tt tu lo z)) ∧ Fld Z h a1 "lambdary/statistics/IntegralSum" "wrapped" "Z" (.int (1 : Int32)) ∧ Fld Z h a1 "lambdary/statistics/IntegralSum" "checkInts" "Z" (.int ck)
set_option maxRecDepth 65536 in
set_option maxHeartbeats 40000000 in
theorem rac_w (l : Launch) (Z : State) (a0 : Array Value) (hw : ∀ d ∈ tables_1, d.before a0 Z = true) (ws : List Jvm.Cond) (a1 : Addr) (z : Int64) (lo tu : Int64) (wr ck : Int32) (h0 : Heap) (n0 : Nat) (Z0 : n0 ≤ h0.size) (E1 : Exa Z h0 a1 "lambdary/statistics/IntegralSum") (F0 : Fld Z h0 a1 "lambdary/statistics/IntegralSum" "low" "J" (.long lo)) (F1 : Fld Z h0 a1 "lambdary/statistics/IntegralSum" "turns" "J" (.long tu)) (F2 : Fld Z h0 a1 "lambdary/statistics/IntegralSum" "wrapped" "Z" (.int (1 : Int32))) (F3 : Fld Z h0 a1 "lambdary/statistics/IntegralSum" "checkInts" "Z" (.int ck)) (g1 : n0 ≤ a1) :
    own_M l Z (⟨"lambdary/statistics/IntegralSum", "accept", "(J)V"⟩ : MethodName) (Jvm.Cond.codeWith (⟨"lambdary/statistics/IntegralSum", "accept", "(J)V"⟩ : MethodName) prog_120_method_5_code 4 none [((13 : Nat), (25 : Nat), (28 : Nat), (36 : Nat))]) ws ({ frames := 1, cells := 0, slots := 0, locals := 20 } : Room) #[(.ref a1), (.long z)] h0 (Q_rac_w Z a1 z lo tu wr ck h0 n0) := by
  refine MetFree.of_bodySF (plainFor_of_name pn_3) hisWith ?_
  intro p e s m args below meth c s₁ Bd hml0 hP hK
  obtain ⟨rfl, hZ, hh⟩ := hP
  have hx := Bd.exec
  have hby := Bd.bytes
  have hml : c.maxLocals = 4 := hml0
  have hown : s.vm.findClass "lambdary/statistics/IntegralSum" = some m.cls := findClass_of_methodNamed Bd.named
  have hnm := (name_of_methodNamed Bd.named Bd.method).1
  have X0 : Stand p l e ({ frames := 1, cells := 0, slots := 0, locals := 20 } : Room) s m #[(.ref a1), (.long z)] below meth c s₁ [] 0 0 := Stand.of_body Bd
  have e0 : s₁.heap = h0 := by rw [← hh, Bd.state]; rfl
  have N0 := Fr.nil n0
  show Goes p e below (Fin s (Q_rac_w Z a1 z lo tu wr ck h0 n0) ({ frames := 1, cells := 0, slots := 0, locals := 20 } : Room).cells ({ frames := 1, cells := 0, slots := 0, locals := 20 } : Room).slots) _
  refine Goes.via (S' := s₁.setTop (mkF m 0 #[.val (.ref a1), .val (.long z), .second, .unset] [])) (fun tz kz => castTop (ef_3 m a1 z ) kz) ?_
  refine Goes.via (S' := s₁.setTop (mkF m 1 #[.val (.ref a1), .val (.long z), .second, .unset] [(.ref a1)])) (fun tz kz => ?_) ?_
  · show Steps p.tables e below (s₁.setTop (mkF m 0 #[.val (.ref a1), .val (.long z), .second, .unset] [])) _
    refine XS.aloadN X0.here hx rfl (hb hby d3_0) rfl rfl ?_
    exact kz
  obtain ⟨T1, X1, e1, st1⟩ := getF X0 hx hZ hown (host := "") (Or.inl (w_ hw 16 rfl)) Via.refl e0 F2 (g := (mkF m 1 #[.val (.ref a1), .val (.long z), .second, .unset] [(.ref a1)])) rfl rfl (hb hby d3_1)
  refine Goes.via (S' := T1.setTop (mkF m 4 #[.val (.ref a1), .val (.long z), .second, .unset] [(.int (1 : Int32))])) st1 ?_
  refine Goes.via (S' := T1.setTop (mkF m 9 #[.val (.ref a1), .val (.long z), .second, .unset] [(.long z), (.ref a1)])) (fun tz kz => ?_) ?_
  · show Steps p.tables e below (T1.setTop (mkF m 4 #[.val (.ref a1), .val (.long z), .second, .unset] [(.int (1 : Int32))])) _
    refine XS.ifNo X1.here hx rfl (hb hby d3_4) rfl ((if0 _ _).trans (feq (by first | decide | rfl)).1) ?_
    refine XS.aloadN X1.here hx rfl (hb hby d3_7) rfl rfl ?_
    refine XS.lloadN X1.here hx rfl (hb hby d3_8) rfl ?_
    exact kz
  obtain ⟨cq2, q2, q2'⟩ := (E1).cell
  obtain ⟨_, _, ⟨T2, L2, k2, n2⟩, -, X2, ⟨Lc2, hQ2, l2, y2, z2⟩, st2⟩ := X1.privateBack hx (y := (⟨"lambdary/statistics/IntegralSum", "addToLow", "(J)V"⟩ : MethodName)) hown (mvT hZ (w_ hw 103 rfl)) (mvT hZ (w_ hw 104 rfl)) (sel_private hZ (w_ hw 1 rfl) (w_ hw 105 rfl) (w_ hw 104 rfl) (by decide)) (Cond.privateMethod_at (mvP hZ (w_ hw 105 rfl) (args := #[]))) (mvT hZ (w_ hw 106 rfl)) (by decide) (backOf (W := 0) (rat l Z a0 hw [] a1 z lo tu (1 : Int32) ck h0 n0 Z0 E1 F0 F1 F2 F3 g1) hZ (w_ hw 106 rfl) (w_ hw 2 rfl) (by decide) (by decide)) (g := (mkF m 9 #[.val (.ref a1), .val (.long z), .second, .unset] [(.long z), (.ref a1)])) rfl (by rw [hml]; rfl) (Steps.refl _) (a := a1) (by rw [e1]; exact q2) q2' (argsL := [(.long z)]) (rest := []) (lenOf pd_2 rfl) rfl (by show 2 * 0 + _ ≤ _; exact Nat.le_of_eq rfl) (hb hby d3_9) (fun _ _ => ⟨rfl, e1, (by decide : 0 + 0 ≤ _), (by decide : 0 + 0 ≤ _)⟩)
  dsimp only [Pt.U, Pt.locs, Pt.cells, Pt.slots] at X2 l2 y2 z2 st2 hQ2
  subst l2 y2 z2
  obtain ⟨rfl, N2, K2, E2_, Fa2, Fb2, Fc2, Fd2⟩ := hQ2
  have Nf2 := Fr.app N0 N2
  refine Goes.via (S' := T2.setTop (mkF m 12 #[.val (.ref a1), .val (.long z), .second, .unset] [])) (fun _ kz => st2.trans kz) ?_
  have J2 := (Keep.refl h0 [a1]).trans K2 (fun _ q => Or.inl q)
  exact Goes.retV X2 hx Bd.notSynchronized Bd.returns (hb hby d3_12) (Nat.le_of_ble_eq_true rfl) (Nat.le_of_ble_eq_true rfl) ⟨rfl, Nf2, J2, E2_, Fa2, Fb2, Fc2, Fd2⟩
def Q_rac_t (Z : State) (a1 : Addr) (z : Int64) (lo tu : Int64) (wr ck : Int32) (us ss : Value) (h0 : Heap) (n0 : Nat) : Option Value → Heap → List Loc → Prop := fun v h L => v = none ∧ Fr n0 L ∧ Keep h0 h [a1] ∧ Exa Z h a1 "lambdary/statistics/IntegralSum" ∧ Fld Z h a1 "lambdary/statistics/IntegralSum" "low" "J" (.long (lo + z)) ∧ Fld Z h a1 "lambdary/statistics/IntegralSum" "turns" "J" (.long (own_tt tu lo z)) ∧ Fld Z h a1 "lambdary/statistics/IntegralSum" "wrapped" "Z" (.int (1 : Int32)) ∧ Fld Z h a1 "lambdary/statistics/IntegralSum" "checkInts" "Z" (.int ck)
set_option maxRecDepth 65536 in
set_option maxHeartbeats 40000000 in
theorem rac_t (l : Launch) (Z : State) (a0 : Array Value) (hw : ∀ d ∈ tables_1, d.before a0 Z = true) (ws : List Jvm.Cond) (a1 : Addr) (z : Int64) (lo tu : Int64) (wr ck : Int32) (us ss : Value) (h0 : Heap) (n0 : Nat) (Z0 : n0 ≤ h0.size) (E1 : Exa Z h0 a1 "lambdary/statistics/IntegralSum") (F0 : Fld Z h0 a1 "lambdary/statistics/IntegralSum" "low" "J" (.long lo)) (F1 : Fld Z h0 a1 "lambdary/statistics/IntegralSum" "turns" "J" (.long tu)) (F2 : Fld Z h0 a1 "lambdary/statistics/IntegralSum" "wrapped" "Z" (.int (0 : Int32))) (F3 : Fld Z h0 a1 "lambdary/statistics/IntegralSum" "checkInts" "Z" (.int ck)) (g1 : n0 ≤ a1) (q : ((lo ^^^ (lo + z)) &&& (z ^^^ (lo + z))) < (0 : Int64)) (SU : Sta Z Z.heap "java/lang/Throwable" "UNASSIGNED_STACK" "[Ljava/lang/StackTraceElement;" us) (hus : us.isRef = true) (SQ : Sta Z Z.heap "java/lang/Throwable" "SUPPRESSED_SENTINEL" "Ljava/util/List;" ss) (hss : ss.isRef = true) (hl : l.stackTraces = true) (O0 : Old Z n0 h0) :
    MetFree l (⟨"lambdary/statistics/IntegralSum", "accept", "(J)V"⟩ : MethodName) (head1 (Jvm.Cond.codeWith (⟨"lambdary/statistics/IntegralSum", "accept", "(J)V"⟩ : MethodName) prog_120_method_5_code 4 none [((13 : Nat), (25 : Nat), (28 : Nat), (36 : Nat))] :: ws) ({ frames := 8, cells := 4, slots := 2820, locals := 130 } : Room)) (fun a U => a = #[(.ref a1), (.long z)] ∧ Z.Warmed39 U.vm ∧ U.heap = h0) (fun _ _ bl s _ => s.vm.MethodsKnown ∧ s.vm.FramesKnown bl) (fun _ U oo U' => ∃ vv LL, oo = .returned vv ∧ (Q_rac_t Z a1 z lo tu wr ck us ss h0 n0) vv U'.heap LL ∧ ReturnedEndW U oo U' LL ({ frames := 8, cells := 4, slots := 2820, locals := 130 } : Room).cells ({ frames := 8, cells := 4, slots := 2820, locals := 130 } : Room).slots) := by
  refine MetFree.of_bodySF (plainFor_of_name pn_3) hisWith ?_
  intro p e s m args below meth c s₁ Bd hml0 hP hK
  obtain ⟨rfl, hZ, hh⟩ := hP
  have hx := Bd.exec
  have hby := Bd.bytes
  have hml : c.maxLocals = 4 := hml0
  have hown : s.vm.findClass "lambdary/statistics/IntegralSum" = some m.cls := findClass_of_methodNamed Bd.named
  have hnm := (name_of_methodNamed Bd.named Bd.method).1
  have X0 : Stand p l e ({ frames := 8, cells := 4, slots := 2820, locals := 130 } : Room) s m #[(.ref a1), (.long z)] below meth c s₁ [] 0 0 := Stand.of_body Bd
  have e0 : s₁.heap = h0 := by rw [← hh, Bd.state]; rfl
  have N0 := Fr.nil n0
  show Goes p e below (FinW s (Q_rac_t Z a1 z lo tu wr ck us ss h0 n0) ({ frames := 8, cells := 4, slots := 2820, locals := 130 } : Room).cells ({ frames := 8, cells := 4, slots := 2820, locals := 130 } : Room).slots) _
  refine Goes.via (S' := s₁.setTop (mkF m 0 #[.val (.ref a1), .val (.long z), .second, .unset] [])) (fun tz kz => castTop (ef_3 m a1 z ) kz) ?_
  refine Goes.via (S' := s₁.setTop (mkF m 1 #[.val (.ref a1), .val (.long z), .second, .unset] [(.ref a1)])) (fun tz kz => ?_) ?_
  · show Steps p.tables e below (s₁.setTop (mkF m 0 #[.val (.ref a1), .val (.long z), .second, .unset] [])) _
    refine XS.aloadN X0.here hx rfl (hb hby d3_0) rfl rfl ?_
    exact kz
  obtain ⟨T1, X1, e1, st1⟩ := getF X0 hx hZ hown (host := "") (Or.inl (w_ hw 16 rfl)) Via.refl e0 F2 (g := (mkF m 1 #[.val (.ref a1), .val (.long z), .second, .unset] [(.ref a1)])) rfl rfl (hb hby d3_1)
  refine Goes.via (S' := T1.setTop (mkF m 4 #[.val (.ref a1), .val (.long z), .second, .unset] [(.int (0 : Int32))])) st1 ?_
  refine Goes.via (S' := T1.setTop (mkF m 15 #[.val (.ref a1), .val (.long z), .second, .unset] [(.ref a1), (.ref a1)])) (fun tz kz => ?_) ?_
  · show Steps p.tables e below (T1.setTop (mkF m 4 #[.val (.ref a1), .val (.long z), .second, .unset] [(.int (0 : Int32))])) _
    refine XS.ifYes X1.here hx rfl (pc0 := 4) (pc' := 13) rfl (hb hby d3_4) rfl ((if0 _ _).trans (teq (by first | decide | rfl)).1) (by decide) (by decide) ?_
    refine XS.aloadN X1.here hx rfl (hb hby d3_13) rfl rfl ?_
    refine XS.aloadN X1.here hx rfl (hb hby d3_14) rfl rfl ?_
    exact kz
  obtain ⟨T2, X2, e2, st2⟩ := getF X1 hx hZ hown (host := "") (Or.inl (w_ hw 18 rfl)) Via.refl e1 F0 (g := (mkF m 15 #[.val (.ref a1), .val (.long z), .second, .unset] [(.ref a1), (.ref a1)])) rfl rfl (hb hby d3_15)
  refine Goes.via (S' := T2.setTop (mkF m 18 #[.val (.ref a1), .val (.long z), .second, .unset] [(.long lo), (.ref a1)])) st2 ?_
  refine Goes.via (S' := T2.setTop (mkF m 19 #[.val (.ref a1), .val (.long z), .second, .unset] [(.long z), (.long lo), (.ref a1)])) (fun tz kz => ?_) ?_
  · show Steps p.tables e below (T2.setTop (mkF m 18 #[.val (.ref a1), .val (.long z), .second, .unset] [(.long lo), (.ref a1)])) _
    refine XS.lloadN X2.here hx rfl (hb hby d3_18) rfl ?_
    exact kz
  obtain ⟨xx, T3, Lx, ⟨Ex, Nx, Kx, gx⟩, X3, hS3, hZ, hown, st3⟩ := own_tcall (W := 1) X2 hx hZ (raxt l Z a0 hw [] lo z us ss h0 n0 Z0 q SU hus SQ hss hl O0) hown (w_ hw 20 rfl) (w_ hw 21 rfl) (w_ hw 22 rfl) (w_ hw 23 rfl) (by decide) hK.1 hK.2 e2 (by decide) (by decide) (by decide : 0 + 4 ≤ _) (by decide : 0 + 2820 ≤ _) (g := (mkF m 19 #[.val (.ref a1), .val (.long z), .second, .unset] [(.long z), (.long lo), (.ref a1)])) rfl (by rw [hml]; rfl) (argsL := [(.long lo), (.long z)]) (rest := [(.ref a1)]) (lenOf pd_1 rfl) rfl rfl (by show 2 * 0 + _ ≤ _; exact Nat.le_of_eq rfl) (hb hby d3_19)
  have hKo := hK
  have hK : (s.setVm T3.vm).vm.MethodsKnown ∧ (s.setVm T3.vm).vm.FramesKnown below := ⟨Vm.MethodsKnown.alikeC hS3.1.alike hKo.1, Vm.FramesKnown.alikeC hS3.1.alike hKo.2⟩
  obtain ⟨T4, X4, e4, st4⟩ := own_caught X3 hZ hown (own_exc Bd) rfl st3 (Nat.le_of_ble_eq_true rfl) (Nat.le_of_ble_eq_true rfl) (by decide) (w_ hw 102 rfl) Ex
  have Nf4 := Fr.app N0 Nx
  refine Goes.via (S' := T4.setTop (mkF m 28 #[.val (.ref a1), .val (.long z), .second, .unset] [(.ref xx)])) (fun _ kz => st4.trans kz) ?_
  have G_low := F0.keep Kx nin0
  have G_turns := F1.keep Kx nin0
  have G_wrapped := F2.keep Kx nin0
  have G_checkInts := F3.keep Kx nin0
  have G_E := E1.keep Kx
  have Z1 := Nat.le_trans Z0 Kx.1
  have Ky := (Keep.refl h0 [a1]).trans Kx all0
  refine Goes.via (S' := T4.setTop (mkF m 31 #[.val (.ref a1), .val (.long z), .second, .val (.ref xx)] [(.int (1 : Int32)), (.ref a1)])) (fun tz kz => ?_) ?_
  · show Steps p.tables e below (T4.setTop (mkF m 28 #[.val (.ref a1), .val (.long z), .second, .unset] [(.ref xx)])) _
    refine XS.astoreN X4.here hx rfl (hb hby d3_28) rfl rfl (l' := #[.val (.ref a1), .val (.long z), .second, .val (.ref xx)]) rfl ?_
    refine XS.aloadN X4.here hx rfl (hb hby d3_29) rfl rfl ?_
    refine XS.iconst X4.here hx rfl (hb hby d3_30) ?_
    exact kz
  obtain ⟨T5, h5, X5, e5, W5, st5⟩ := putFN X4 hx hZ hown (w_ hw 16 rfl) Via.refl e4 G_wrapped G_E (Or.inl (w_ hw 17 rfl)) (w_ hw 1 rfl) (ty := .boolean) (v' := (.int (nar .boolean (1 : Int32)))) (by decide) rfl (fits_nar_bool _) (g := (mkF m 31 #[.val (.ref a1), .val (.long z), .second, .val (.ref xx)] [(.int (1 : Int32)), (.ref a1)])) rfl rfl (hb hby d3_31)
  refine Goes.via (S' := T5.setTop (mkF m 34 #[.val (.ref a1), .val (.long z), .second, .val (.ref xx)] [])) st5 ?_
  have N5 := Fr.snoc X5 Nf4 g1
  have Flow_5 := G_low.other W5 (Or.inr (slot_ne (Or.inl (w_ hw 19 rfl)) (Or.inl (w_ hw 17 rfl)) (by decide) (t := .long) (t' := .boolean) (by decide) (by decide)))
  have Fturns_5 := G_turns.other W5 (Or.inr (slot_ne (Or.inl (w_ hw 30 rfl)) (Or.inl (w_ hw 17 rfl)) (by decide) (t := .long) (t' := .boolean) (by decide) (by decide)))
  have Fwrapped_5 := G_wrapped.same W5
  have FcheckInts_5 := G_checkInts.other W5 (Or.inr (slot_ne (Or.inl (w_ hw 10 rfl)) (Or.inl (w_ hw 17 rfl)) (by decide) (t := .boolean) (t' := .boolean) (by decide) (by decide)))
  have E_5 := G_E.wr W5
  have K_5 := Ky.wr W5 (Or.inl (List.mem_singleton.mpr rfl))
  have Z2 := Nat.le_trans Z1 (Nat.le_of_eq W5.size.symm)
  refine Goes.via (S' := T5.setTop (mkF m 36 #[.val (.ref a1), .val (.long z), .second, .val (.ref xx)] [(.long z), (.ref a1)])) (fun tz kz => ?_) ?_
  · show Steps p.tables e below (T5.setTop (mkF m 34 #[.val (.ref a1), .val (.long z), .second, .val (.ref xx)] [])) _
    refine XS.aloadN X5.here hx rfl (hb hby d3_34) rfl rfl ?_
    refine XS.lloadN X5.here hx rfl (hb hby d3_35) rfl ?_
    exact kz
  obtain ⟨cq6, q6, q6'⟩ := (E_5).cell
  obtain ⟨_, _, ⟨T6, L6, k6, n6⟩, -, X6, ⟨Lc6, hQ6, l6, y6, z6⟩, st6⟩ := X5.privateBack hx (y := (⟨"lambdary/statistics/IntegralSum", "addToLow", "(J)V"⟩ : MethodName)) hown (mvT hZ (w_ hw 103 rfl)) (mvT hZ (w_ hw 104 rfl)) (sel_private hZ (w_ hw 1 rfl) (w_ hw 105 rfl) (w_ hw 104 rfl) (by decide)) (Cond.privateMethod_at (mvP hZ (w_ hw 105 rfl) (args := #[]))) (mvT hZ (w_ hw 106 rfl)) (by decide) (backOf (W := 0) (rat l Z a0 hw [] a1 z lo tu (1 : Int32) ck h5 n0 Z2 E_5 Flow_5 Fturns_5 Fwrapped_5 FcheckInts_5 g1) hZ (w_ hw 106 rfl) (w_ hw 2 rfl) (by decide) (by decide)) (g := (mkF m 36 #[.val (.ref a1), .val (.long z), .second, .val (.ref xx)] [(.long z), (.ref a1)])) rfl (by rw [hml]; rfl) (Steps.refl _) (a := a1) (by rw [e5]; exact q6) q6' (argsL := [(.long z)]) (rest := []) (lenOf pd_2 rfl) rfl (by show 2 * 0 + _ ≤ _; exact Nat.le_of_eq rfl) (hb hby d3_36) (fun _ _ => ⟨rfl, e5, (by decide : 4 + 0 ≤ _), (by decide : 2820 + 0 ≤ _)⟩)
  dsimp only [Pt.U, Pt.locs, Pt.cells, Pt.slots] at X6 l6 y6 z6 st6 hQ6
  subst l6 y6 z6
  obtain ⟨rfl, N6, K6, E6_, Fa6, Fb6, Fc6, Fd6⟩ := hQ6
  have Nf6 := Fr.app N5 N6
  refine Goes.via (S' := T6.setTop (mkF m 39 #[.val (.ref a1), .val (.long z), .second, .val (.ref xx)] [])) (fun _ kz => st6.trans kz) ?_
  have J6 := K_5.trans K6 (fun _ q => Or.inl q)
  exact Goes.retVW (s := s) (vm1 := T3.vm) X6 hx Bd.notSynchronized hS3 (Nat.le_trans (Nat.le_of_eq W5.size.symm) K6.1) Bd.returns (hb hby d3_39) (Nat.le_of_ble_eq_true rfl) (Nat.le_of_ble_eq_true rfl) ⟨rfl, Nf6, J6, E6_, Fa6, Fb6, Fc6, Fd6⟩
theorem d5_0 : decode prog_120_method_11_code 0 = .ok (.aload_n 0, 1) := by decide +kernel
theorem d5_1 : decode prog_120_method_11_code 1 = .ok (.getfield 13, 3) := by decide +kernel
theorem d5_4 : decode prog_120_method_11_code 4 = .ok (.l2d, 1) := by decide +kernel
theorem d5_5 : decode prog_120_method_11_code 5 = .ok (.ldc2_w 77, 3) := by decide +kernel
theorem d5_8 : decode prog_120_method_11_code 8 = .ok (.dmul, 1) := by decide +kernel
theorem d5_9 : decode prog_120_method_11_code 9 = .ok (.aload_n 0, 1) := by decide +kernel
theorem d5_10 : decode prog_120_method_11_code 10 = .ok (.getfield 29, 3) := by decide +kernel
theorem d5_13 : decode prog_120_method_11_code 13 = .ok (.l2d, 1) := by decide +kernel
theorem d5_14 : decode prog_120_method_11_code 14 = .ok (.dadd, 1) := by decide +kernel
theorem d5_15 : decode prog_120_method_11_code 15 = .ok (.dreturn, 1) := by decide +kernel
theorem pn_5 : plainName "lambdary/statistics/IntegralSum" = true := by first | (simp [plainName, overriddenIn]; done) | decide +kernel
theorem ef_5 (m : MethodId) (x0 : Addr) : entryFrame m #[(.ref x0)] 1 = mkF m 0 #[.val (.ref x0)] [] := by first | (simp [entryFrame, mkF, argsToLocals, Value.category]; done) | rfl
def Q_rsd (Z : State) (a1 : Addr) (lo tu : Int64) (wr ck : Int32) (h0 : Heap) (n0 : Nat) : Option Value → Heap → List Loc → Prop := fun v h L => v = some (.double (FP.dadd (FP.dmul (FP.l2d tu) (4895412794951729152 : UInt64)) (FP.l2d lo))) ∧ Fr n0 L ∧ h = h0
set_option maxRecDepth 65536 in
set_option maxHeartbeats 40000000 in
theorem rsd (l : Launch) (Z : State) (a0 : Array Value) (hw : ∀ d ∈ tables_1, d.before a0 Z = true) (ws : List Jvm.Cond) (a1 : Addr) (lo tu : Int64) (wr ck : Int32) (h0 : Heap) (n0 : Nat) (Z0 : n0 ≤ h0.size) (E1 : Exa Z h0 a1 "lambdary/statistics/IntegralSum") (F0 : Fld Z h0 a1 "lambdary/statistics/IntegralSum" "low" "J" (.long lo)) (F1 : Fld Z h0 a1 "lambdary/statistics/IntegralSum" "turns" "J" (.long tu)) (F2 : Fld Z h0 a1 "lambdary/statistics/IntegralSum" "wrapped" "Z" (.int wr)) (F3 : Fld Z h0 a1 "lambdary/statistics/IntegralSum" "checkInts" "Z" (.int ck)) (g1 : n0 ≤ a1) (t1 : -4 ≤ tu.toInt) (t2 : tu.toInt ≤ 4) (t3 : lo.toInt % 2048 = 0) :
    own_M l Z (⟨"lambdary/statistics/IntegralSum", "sumAsDouble", "()D"⟩ : MethodName) (Jvm.Cond.code (⟨"lambdary/statistics/IntegralSum", "sumAsDouble", "()D"⟩ : MethodName) prog_120_method_11_code 1 (some .double)) ws ({ frames := 0, cells := 0, slots := 0, locals := 0 } : Room) #[(.ref a1)] h0 (Q_rsd Z a1 lo tu wr ck h0 n0) := by
  refine MetFree.of_bodySF (plainFor_of_name pn_5) hisR ?_
  intro p e s m args below meth c s₁ Bd hml0 hP hK
  obtain ⟨rfl, hZ, hh⟩ := hP
  have hx := Bd.exec
  have hby := Bd.bytes
  have hml : c.maxLocals = 1 := hml0
  have hown : s.vm.findClass "lambdary/statistics/IntegralSum" = some m.cls := findClass_of_methodNamed Bd.named
  have hnm := (name_of_methodNamed Bd.named Bd.method).1
  have X0 : Stand p l e ({ frames := 0, cells := 0, slots := 0, locals := 0 } : Room) s m #[(.ref a1)] below meth c s₁ [] 0 0 := Stand.of_body Bd
  have e0 : s₁.heap = h0 := by rw [← hh, Bd.state]; rfl
  have N0 := Fr.nil n0
  show Goes p e below (Fin s (Q_rsd Z a1 lo tu wr ck h0 n0) ({ frames := 0, cells := 0, slots := 0, locals := 0 } : Room).cells ({ frames := 0, cells := 0, slots := 0, locals := 0 } : Room).slots) _
  refine Goes.via (S' := s₁.setTop (mkF m 0 #[.val (.ref a1)] [])) (fun tz kz => castTop (ef_5 m a1 ) kz) ?_
  refine Goes.via (S' := s₁.setTop (mkF m 1 #[.val (.ref a1)] [(.ref a1)])) (fun tz kz => ?_) ?_
  · show Steps p.tables e below (s₁.setTop (mkF m 0 #[.val (.ref a1)] [])) _
    refine XS.aloadN X0.here hx rfl (hb hby d5_0) rfl rfl ?_
    exact kz
  obtain ⟨T1, X1, e1, st1⟩ := getF X0 hx hZ hown (host := "") (Or.inl (w_ hw 29 rfl)) Via.refl e0 F1 (g := (mkF m 1 #[.val (.ref a1)] [(.ref a1)])) rfl rfl (hb hby d5_1)
  refine Goes.via (S' := T1.setTop (mkF m 4 #[.val (.ref a1)] [(.long tu)])) st1 ?_
  refine Goes.via (S' := T1.setTop (mkF m 10 #[.val (.ref a1)] [(.ref a1), (.double (FP.dmul (FP.l2d tu) (4895412794951729152 : UInt64)))])) (fun tz kz => ?_) ?_
  · show Steps p.tables e below (T1.setTop (mkF m 4 #[.val (.ref a1)] [(.long tu)])) _
    refine XS.l2dS X1.here hx rfl (hb hby d5_4) rfl (v := FP.l2d tu) rfl ?_
    refine X1.ldc2DoubleC hx hown (mvT hZ (w_ hw 31 rfl)) (g := (mkF m 5 #[.val (.ref a1)] [(.double (FP.l2d tu))])) rfl (hb hby d5_5) _ ?_
    refine XS.dmulS X1.here hx rfl (hb hby d5_8) rfl (own_got t1 t2 t3).1 (v := (FP.dmul (FP.l2d tu) (4895412794951729152 : UInt64))) rfl ?_
    refine XS.aloadN X1.here hx rfl (hb hby d5_9) rfl rfl ?_
    exact kz
  obtain ⟨T2, X2, e2, st2⟩ := getF X1 hx hZ hown (host := "") (Or.inl (w_ hw 18 rfl)) Via.refl e1 F0 (g := (mkF m 10 #[.val (.ref a1)] [(.ref a1), (.double (FP.dmul (FP.l2d tu) (4895412794951729152 : UInt64)))])) rfl rfl (hb hby d5_10)
  refine Goes.via (S' := T2.setTop (mkF m 13 #[.val (.ref a1)] [(.long lo), (.double (FP.dmul (FP.l2d tu) (4895412794951729152 : UInt64)))])) st2 ?_
  refine Goes.via (S' := T2.setTop (mkF m 15 #[.val (.ref a1)] [(.double (FP.dadd (FP.dmul (FP.l2d tu) (4895412794951729152 : UInt64)) (FP.l2d lo)))])) (fun tz kz => ?_) ?_
  · show Steps p.tables e below (T2.setTop (mkF m 13 #[.val (.ref a1)] [(.long lo), (.double (FP.dmul (FP.l2d tu) (4895412794951729152 : UInt64)))])) _
    refine XS.l2dS X2.here hx rfl (hb hby d5_13) rfl (v := FP.l2d lo) rfl ?_
    refine XS.daddS X2.here hx rfl (hb hby d5_14) rfl (own_got t1 t2 t3).2.1 (v := (FP.dadd (FP.dmul (FP.l2d tu) (4895412794951729152 : UInt64)) (FP.l2d lo))) rfl ?_
    exact kz
  exact Goes.retO X2 hx Bd.notSynchronized Bd.returns rfl (Or.inr (Or.inr (Or.inl ⟨rfl, rfl, _, rfl⟩))) (hb hby d5_15) (Nat.le_of_ble_eq_true rfl) (Nat.le_of_ble_eq_true rfl) ⟨rfl, N0, e2⟩
theorem own_ov0 (z : Int64) : ¬ (((0 : Int64) ^^^ ((0 : Int64) + z)) &&& (z ^^^ ((0 : Int64) + z))) < (0 : Int64) := by
  have e : ((0 : Int64) + z) = z := by simp
  rw [e, Int64.xor_self, Int64.and_zero]; decide
theorem own_ovI (x y : Int64) : ((x ^^^ (x + y)) &&& (y ^^^ (x + y))) < (0 : Int64) ↔ ¬ (-9223372036854775808 ≤ x.toInt + y.toInt ∧ x.toInt + y.toInt < 9223372036854775808) := by
  have h := c_ladd x y
  have z0 : (0 : Int64).toInt = 0 := by decide
  have rx := rng64 x; have ry := rng64 y; have rr := rng64 (x + y)
  generalize x + y = r at *
  have a := c_xorSL x r; have b := c_xorSL y r; have c := c_andSL (x ^^^ r) (y ^^^ r)
  rw [Int64.lt_iff_toInt_lt, z0]
  constructor
  · intro q ⟨q1, q2⟩
    have e : r.toInt = x.toInt + y.toInt := by omega
    by_cases s1 : x.toInt < 0 <;> by_cases s2 : y.toInt < 0 <;> by_cases s3 : r.toInt < 0 <;> omega
  · intro q
    by_cases s1 : x.toInt < 0 <;> by_cases s2 : y.toInt < 0 <;> by_cases s3 : r.toInt < 0 <;> omega
/-- the state so far: the exact sum S, out of n elements -/
def own_J (lo tu : Int64) (S : Int) (n : Int) : Prop := tu.toInt * 18446744073709551616 + lo.toInt = S ∧ -n ≤ tu.toInt ∧ tu.toInt ≤ n ∧ lo.toInt % 2048 = 0
theorem own_J0 : own_J 0 0 0 0 := by unfold own_J; decide
theorem own_i1 {a b r : Int} (h : (r - (a + b)) % 18446744073709551616 = 0) (hr : -9223372036854775808 ≤ r ∧ r < 9223372036854775808) (ha : -9223372036854775808 ≤ a ∧ a < 9223372036854775808) (hb : -9223372036854775808 ≤ b ∧ b < 9223372036854775808) (q : ¬ (-9223372036854775808 ≤ a + b ∧ a + b < 9223372036854775808)) (s : b < 0) : r = a + b + 18446744073709551616 := by omega
theorem own_i2 {a b r : Int} (h : (r - (a + b)) % 18446744073709551616 = 0) (hr : -9223372036854775808 ≤ r ∧ r < 9223372036854775808) (ha : -9223372036854775808 ≤ a ∧ a < 9223372036854775808) (hb : -9223372036854775808 ≤ b ∧ b < 9223372036854775808) (q : ¬ (-9223372036854775808 ≤ a + b ∧ a + b < 9223372036854775808)) (s : ¬ b < 0) : r = a + b - 18446744073709551616 := by omega
theorem own_i3 {a b r : Int} (h : (r - (a + b)) % 18446744073709551616 = 0) (hr : -9223372036854775808 ≤ r ∧ r < 9223372036854775808) (q : -9223372036854775808 ≤ a + b ∧ a + b < 9223372036854775808) : r = a + b := by omega
theorem own_i4 {t l S n z t' l' : Int} (h : t * 18446744073709551616 + l = S ∧ -n ≤ t ∧ t ≤ n ∧ l % 2048 = 0) (hz : z % 2048 = 0) (c : (t' = t ∧ l' = l + z) ∨ (t' = t - 1 ∧ l' = l + z + 18446744073709551616) ∨ (t' = t + 1 ∧ l' = l + z - 18446744073709551616)) : t' * 18446744073709551616 + l' = S + z ∧ -(n + 1) ≤ t' ∧ t' ≤ n + 1 ∧ l' % 2048 = 0 := by
  obtain ⟨h1, h2, h3, h4⟩ := h
  rcases c with ⟨c1, c2⟩ | ⟨c1, c2⟩ | ⟨c1, c2⟩ <;> subst c1 <;> subst c2 <;> exact ⟨by omega, by omega, by omega, by omega⟩
theorem own_Ja {lo tu z : Int64} {S n : Int} (h : own_J lo tu S n) (hz : z.toInt % 2048 = 0) (q : ¬ ((lo ^^^ (lo + z)) &&& (z ^^^ (lo + z))) < (0 : Int64)) : own_J (lo + z) tu (S + z.toInt) (n + 1) := by
  rw [own_ovI, Classical.not_not] at q
  exact own_i4 h hz (Or.inl ⟨rfl, own_i3 (c_ladd lo z) (rng64 _) q⟩)
theorem own_Jt {lo tu z : Int64} {S n : Int} (h : own_J lo tu S n) (hn : n ≤ 100) (hz : z.toInt % 2048 = 0) : own_J (lo + z) (own_tt tu lo z) (S + z.toInt) (n + 1) := by
  have z0 : (0 : Int64).toInt = 0 := by decide
  have zm : (-1 : Int64).toInt = -1 := by decide
  have z1 : (1 : Int64).toInt = 1 := by decide
  have h2 := h.2.1
  have h3 := h.2.2.1
  unfold own_tt
  by_cases q : ((lo ^^^ (lo + z)) &&& (z ^^^ (lo + z))) < (0 : Int64)
  · rw [if_pos q]
    rw [own_ovI] at q
    by_cases s1 : z < 0
    · rw [if_pos s1]
      rw [Int64.lt_iff_toInt_lt, z0] at s1
      have b := own_i3 (c_ladd tu (-1)) (rng64 _) (by rw [zm]; clear h q; omega)
      exact own_i4 h hz (Or.inr (Or.inl ⟨by rw [b, zm]; rfl, own_i1 (c_ladd lo z) (rng64 _) (rng64 _) (rng64 _) q s1⟩))
    · rw [if_neg s1]
      rw [Int64.lt_iff_toInt_lt, z0] at s1
      have b := own_i3 (c_ladd tu 1) (rng64 _) (by rw [z1]; clear h q; omega)
      exact own_i4 h hz (Or.inr (Or.inr ⟨by rw [b, z1], own_i2 (c_ladd lo z) (rng64 _) (rng64 _) (rng64 _) q s1⟩))
  · rw [if_neg q]
    rw [own_ovI, Classical.not_not] at q
    exact own_i4 h hz (Or.inl ⟨rfl, own_i3 (c_ladd lo z) (rng64 _) q⟩)
def own_e (a : Int64) : Int64 := (a <<< ((11 : Int32) &&& 0x3f).toInt64)
theorem own_e8 (a : Int64) : (own_e a).toInt % 2048 = 0 := by
  have h := c_lshl a 11 11 (by decide)
  unfold own_e
  generalize (a <<< ((11 : Int32) &&& 0x3f).toInt64) = e at *
  rw [show ((2 ^ 11 : Nat) : Int) = 2048 by decide] at h
  omega
def own_k (a b c d : Int64) : Int64 := ((((own_e a >>> ((11 : Int32) &&& 0x3f).toInt64) + (own_e b >>> ((11 : Int32) &&& 0x3f).toInt64)) + (own_e c >>> ((11 : Int32) &&& 0x3f).toInt64)) + (own_e d >>> ((11 : Int32) &&& 0x3f).toInt64))
theorem own_i5 {A a : Int} (h : A % 2048 = 0) (e : a = A / 2048) (r : -9223372036854775808 ≤ A ∧ A < 9223372036854775808) : 2048 * a = A ∧ -4503599627370496 ≤ a ∧ a ≤ 4503599627370496 := by omega
theorem own_sh {A : Int64} (h : A.toInt % 2048 = 0) : 2048 * (A >>> ((11 : Int32) &&& 0x3f).toInt64).toInt = A.toInt ∧ -4503599627370496 ≤ (A >>> ((11 : Int32) &&& 0x3f).toInt64).toInt ∧ (A >>> ((11 : Int32) &&& 0x3f).toInt64).toInt ≤ 4503599627370496 := own_i5 h (c_lshr A 11 11 (by decide)) (rng64 A)
theorem own_kj {x y z w : Int64} {X Y Z W : Int} (hx : 2048 * x.toInt = X ∧ -4503599627370496 ≤ x.toInt ∧ x.toInt ≤ 4503599627370496) (hy : 2048 * y.toInt = Y ∧ -4503599627370496 ≤ y.toInt ∧ y.toInt ≤ 4503599627370496) (hz : 2048 * z.toInt = Z ∧ -4503599627370496 ≤ z.toInt ∧ z.toInt ≤ 4503599627370496) (hw : 2048 * w.toInt = W ∧ -4503599627370496 ≤ w.toInt ∧ w.toInt ≤ 4503599627370496) : 2048 * (x + y + z + w).toInt = X + Y + Z + W ∧ -72057594037927936 ≤ (x + y + z + w).toInt ∧ (x + y + z + w).toInt ≤ 72057594037927936 := by
  have u1 := own_i3 (c_ladd x y) (rng64 _) (by omega)
  have u2 := own_i3 (c_ladd (x + y) z) (rng64 _) (by omega)
  have u3 := own_i3 (c_ladd (x + y + z) w) (rng64 _) (by omega)
  rw [u3, u2, u1]
  clear u1 u2 u3
  exact ⟨by omega, by omega, by omega⟩
theorem own_kk (a b c d : Int64) : 2048 * (own_k a b c d).toInt = (own_e a).toInt + (own_e b).toInt + (own_e c).toInt + (own_e d).toInt ∧ -72057594037927936 ≤ (own_k a b c d).toInt ∧ (own_k a b c d).toInt ≤ 72057594037927936 := by
  exact own_kj (own_sh (own_e8 a)) (own_sh (own_e8 b)) (own_sh (own_e8 c)) (own_sh (own_e8 d))
theorem pn_0 : plainName "lambdary/statistics/IntegralSumSumAsDoublePinLaw" = true := by first | (simp [plainName, overriddenIn]; done) | decide +kernel
theorem ef_0 (m : MethodId) (x0 : Int64) (x1 : Int64) (x2 : Int64) (x3 : Int64) : entryFrame m #[(.long x0), (.long x1), (.long x2), (.long x3)] maxLocals = mkF m 0 #[.val (.long x0), .second, .val (.long x1), .second, .val (.long x2), .second, .val (.long x3), .second, .unset, .unset, .unset, .unset, .unset, .unset, .unset, .unset, .unset, .unset, .unset, .unset, .unset, .unset, .unset] [] := by first | (simp [entryFrame, mkF, argsToLocals, Value.category, maxLocals]; done) | rfl
def Q_rm0 (Z : State) (p1 : Int64) (p2 : Int64) (p3 : Int64) (p4 : Int64) (us ss : Value) (h0 : Heap) (n0 : Nat) : Option Value → Heap → List Loc → Prop := fun v h L => v = some (.int 1) ∧ Fr n0 L
set_option maxRecDepth 65536 in
set_option maxHeartbeats 40000000 in
theorem rm0 (l : Launch) (Z : State) (a0 : Array Value) (hw : ∀ d ∈ tables_1, d.before a0 Z = true) (ws : List Jvm.Cond) (p1 : Int64) (p2 : Int64) (p3 : Int64) (p4 : Int64) (us ss : Value) (h0 : Heap) (n0 : Nat) (Z0 : n0 ≤ h0.size) (SU : Sta Z Z.heap "java/lang/Throwable" "UNASSIGNED_STACK" "[Ljava/lang/StackTraceElement;" us) (hus : us.isRef = true) (SQ : Sta Z Z.heap "java/lang/Throwable" "SUPPRESSED_SENTINEL" "Ljava/util/List;" ss) (hss : ss.isRef = true) (hl : l.stackTraces = true) (O0 : Old Z n0 h0) :
    MetFree l x (head1 (Jvm.Cond.code x code maxLocals ret :: ws) room_1) (fun a U => a = #[(.long p1), (.long p2), (.long p3), (.long p4)] ∧ Z.Warmed39 U.vm ∧ U.heap = h0) (fun _ _ bl s _ => s.vm.MethodsKnown ∧ s.vm.FramesKnown bl) (fun _ U oo U' => ∃ vv LL, oo = .returned vv ∧ (Q_rm0 Z p1 p2 p3 p4 us ss h0 n0) vv U'.heap LL ∧ ReturnedEndW U oo U' LL room_1.cells room_1.slots) := by
  refine MetFree.of_bodySF (plainFor_of_name pn_0) hisR ?_
  intro p e s m args below meth c s₁ Bd hml0 hP hK
  obtain ⟨rfl, hZ, hh⟩ := hP
  have hx := Bd.exec
  have hby := Bd.bytes
  have hml : c.maxLocals = 23 := hml0
  have hown : s.vm.findClass "lambdary/statistics/IntegralSumSumAsDoublePinLaw" = some m.cls := findClass_of_methodNamed Bd.named
  have hnm := (name_of_methodNamed Bd.named Bd.method).1
  have X0 : Stand p l e room_1 s m #[(.long p1), (.long p2), (.long p3), (.long p4)] below meth c s₁ [] 0 0 := Stand.of_body Bd
  have e0 : s₁.heap = h0 := by rw [← hh, Bd.state]; rfl
  have N0 := Fr.nil n0
  show Goes p e below (FinW s (Q_rm0 Z p1 p2 p3 p4 us ss h0 n0) room_1.cells room_1.slots) _
  refine Goes.via (S' := s₁.setTop (mkF m 0 #[.val (.long p1), .second, .val (.long p2), .second, .val (.long p3), .second, .val (.long p4), .second, .unset, .unset, .unset, .unset, .unset, .unset, .unset, .unset, .unset, .unset, .unset, .unset, .unset, .unset, .unset] [])) (fun tz kz => castTop (ef_0 m p1 p2 p3 p4 ) kz) ?_
  refine Goes.via (S' := s₁.setTop (mkF m 26 #[.val (.long p1), .second, .val (.long p2), .second, .val (.long p3), .second, .val (.long p4), .second, .val (.long (p1 <<< ((11 : Int32) &&& 0x3f).toInt64)), .second, .val (.long (p2 <<< ((11 : Int32) &&& 0x3f).toInt64)), .second, .val (.long (p3 <<< ((11 : Int32) &&& 0x3f).toInt64)), .second, .val (.long (p4 <<< ((11 : Int32) &&& 0x3f).toInt64)), .second, .unset, .unset, .unset, .unset, .unset, .unset, .unset] [])) (fun tz kz => ?_) ?_
  · show Steps p.tables e below (s₁.setTop (mkF m 0 #[.val (.long p1), .second, .val (.long p2), .second, .val (.long p3), .second, .val (.long p4), .second, .unset, .unset, .unset, .unset, .unset, .unset, .unset, .unset, .unset, .unset, .unset, .unset, .unset, .unset, .unset] [])) _
    refine XS.lloadN X0.here hx rfl (hb hby at_0) rfl ?_
    refine XS.bipush X0.here hx rfl (hb hby at_1) ?_
    refine XS.lshl X0.here hx rfl (hb hby at_3) rfl ?_
    refine XS.lstore X0.here hx rfl (hb hby at_4) rfl (l' := #[.val (.long p1), .second, .val (.long p2), .second, .val (.long p3), .second, .val (.long p4), .second, .val (.long (p1 <<< ((11 : Int32) &&& 0x3f).toInt64)), .second, .unset, .unset, .unset, .unset, .unset, .unset, .unset, .unset, .unset, .unset, .unset, .unset, .unset]) rfl ?_
    show Steps p.tables e below (s₁.setTop (mkF m 6 #[.val (.long p1), .second, .val (.long p2), .second, .val (.long p3), .second, .val (.long p4), .second, .val (.long (p1 <<< ((11 : Int32) &&& 0x3f).toInt64)), .second, .unset, .unset, .unset, .unset, .unset, .unset, .unset, .unset, .unset, .unset, .unset, .unset, .unset] [])) _
    refine XS.lloadN X0.here hx rfl (hb hby at_6) rfl ?_
    refine XS.bipush X0.here hx rfl (hb hby at_7) ?_
    refine XS.lshl X0.here hx rfl (hb hby at_9) rfl ?_
    refine XS.lstore X0.here hx rfl (hb hby at_10) rfl (l' := #[.val (.long p1), .second, .val (.long p2), .second, .val (.long p3), .second, .val (.long p4), .second, .val (.long (p1 <<< ((11 : Int32) &&& 0x3f).toInt64)), .second, .val (.long (p2 <<< ((11 : Int32) &&& 0x3f).toInt64)), .second, .unset, .unset, .unset, .unset, .unset, .unset, .unset, .unset, .unset, .unset, .unset]) rfl ?_
    show Steps p.tables e below (s₁.setTop (mkF m 12 #[.val (.long p1), .second, .val (.long p2), .second, .val (.long p3), .second, .val (.long p4), .second, .val (.long (p1 <<< ((11 : Int32) &&& 0x3f).toInt64)), .second, .val (.long (p2 <<< ((11 : Int32) &&& 0x3f).toInt64)), .second, .unset, .unset, .unset, .unset, .unset, .unset, .unset, .unset, .unset, .unset, .unset] [])) _
    refine XS.lload X0.here hx rfl (hb hby at_12) rfl ?_
    refine XS.bipush X0.here hx rfl (hb hby at_14) ?_
    refine XS.lshl X0.here hx rfl (hb hby at_16) rfl ?_
    refine XS.lstore X0.here hx rfl (hb hby at_17) rfl (l' := #[.val (.long p1), .second, .val (.long p2), .second, .val (.long p3), .second, .val (.long p4), .second, .val (.long (p1 <<< ((11 : Int32) &&& 0x3f).toInt64)), .second, .val (.long (p2 <<< ((11 : Int32) &&& 0x3f).toInt64)), .second, .val (.long (p3 <<< ((11 : Int32) &&& 0x3f).toInt64)), .second, .unset, .unset, .unset, .unset, .unset, .unset, .unset, .unset, .unset]) rfl ?_
    show Steps p.tables e below (s₁.setTop (mkF m 19 #[.val (.long p1), .second, .val (.long p2), .second, .val (.long p3), .second, .val (.long p4), .second, .val (.long (p1 <<< ((11 : Int32) &&& 0x3f).toInt64)), .second, .val (.long (p2 <<< ((11 : Int32) &&& 0x3f).toInt64)), .second, .val (.long (p3 <<< ((11 : Int32) &&& 0x3f).toInt64)), .second, .unset, .unset, .unset, .unset, .unset, .unset, .unset, .unset, .unset] [])) _
    refine XS.lload X0.here hx rfl (hb hby at_19) rfl ?_
    refine XS.bipush X0.here hx rfl (hb hby at_21) ?_
    refine XS.lshl X0.here hx rfl (hb hby at_23) rfl ?_
    refine XS.lstore X0.here hx rfl (hb hby at_24) rfl (l' := #[.val (.long p1), .second, .val (.long p2), .second, .val (.long p3), .second, .val (.long p4), .second, .val (.long (p1 <<< ((11 : Int32) &&& 0x3f).toInt64)), .second, .val (.long (p2 <<< ((11 : Int32) &&& 0x3f).toInt64)), .second, .val (.long (p3 <<< ((11 : Int32) &&& 0x3f).toInt64)), .second, .val (.long (p4 <<< ((11 : Int32) &&& 0x3f).toInt64)), .second, .unset, .unset, .unset, .unset, .unset, .unset, .unset]) rfl ?_
    exact kz
  show Goes p e below _ (s₁.setTop (mkF m 26 #[.val (.long p1), .second, .val (.long p2), .second, .val (.long p3), .second, .val (.long p4), .second, .val (.long (own_e p1)), .second, .val (.long (own_e p2)), .second, .val (.long (own_e p3)), .second, .val (.long (own_e p4)), .second, .unset, .unset, .unset, .unset, .unset, .unset, .unset] []))
  obtain ⟨T1, h1, X1, e1, E1, A1, D1, U1, st1⟩ := newO X0 hx hZ hown (w_ hw 0 rfl) (w_ hw 1 rfl) (w_ hw 2 rfl) e0 (g := (mkF m 26 #[.val (.long p1), .second, .val (.long p2), .second, .val (.long p3), .second, .val (.long p4), .second, .val (.long (own_e p1)), .second, .val (.long (own_e p2)), .second, .val (.long (own_e p3)), .second, .val (.long (own_e p4)), .second, .unset, .unset, .unset, .unset, .unset, .unset, .unset] [])) rfl (hb hby at_26) (by decide) (by decide)
  obtain ⟨b1, g1⟩ : ∃ z, z = h0.size := ⟨_, rfl⟩
  rw [← g1] at A1 D1 U1 st1
  refine Goes.via (S' := T1.setTop (mkF m 29 #[.val (.long p1), .second, .val (.long p2), .second, .val (.long p3), .second, .val (.long p4), .second, .val (.long (own_e p1)), .second, .val (.long (own_e p2)), .second, .val (.long (own_e p3)), .second, .val (.long (own_e p4)), .second, .unset, .unset, .unset, .unset, .unset, .unset, .unset] [(.ref b1)])) st1 ?_
  have D_0 : Fld Z h1 b1 "lambdary/statistics/IntegralSum" "low" "J" (.long (0 : Int64)) := D1 (Or.inl (w_ hw 19 rfl)) (ty := .long) (by decide)
  have D_1 : Fld Z h1 b1 "lambdary/statistics/IntegralSum" "turns" "J" (.long (0 : Int64)) := D1 (Or.inl (w_ hw 30 rfl)) (ty := .long) (by decide)
  have D_2 : Fld Z h1 b1 "lambdary/statistics/IntegralSum" "wrapped" "Z" (.int (0 : Int32)) := D1 (Or.inl (w_ hw 17 rfl)) (ty := .boolean) (by decide)
  have D_3 : Fld Z h1 b1 "lambdary/statistics/IntegralSum" "checkInts" "Z" (.int (0 : Int32)) := D1 (Or.inl (w_ hw 10 rfl)) (ty := .boolean) (by decide)
  have Z1 := Nat.le_trans Z0 E1.1
  have g1 : n0 ≤ b1 := Nat.le_trans Z0 (Nat.le_of_eq g1.symm)
  have O1 := O0.ext E1
  refine Goes.via (S' := T1.setTop (mkF m 30 #[.val (.long p1), .second, .val (.long p2), .second, .val (.long p3), .second, .val (.long p4), .second, .val (.long (own_e p1)), .second, .val (.long (own_e p2)), .second, .val (.long (own_e p3)), .second, .val (.long (own_e p4)), .second, .unset, .unset, .unset, .unset, .unset, .unset, .unset] [(.ref b1), (.ref b1)])) (fun tz kz => ?_) ?_
  · show Steps p.tables e below (T1.setTop (mkF m 29 #[.val (.long p1), .second, .val (.long p2), .second, .val (.long p3), .second, .val (.long p4), .second, .val (.long (own_e p1)), .second, .val (.long (own_e p2)), .second, .val (.long (own_e p3)), .second, .val (.long (own_e p4)), .second, .unset, .unset, .unset, .unset, .unset, .unset, .unset] [(.ref b1)])) _
    refine XS.dup X1.here hx rfl (hb hby at_29) rfl rfl ?_
    exact kz
  obtain ⟨_, _, ⟨T2, L2, k2, n2⟩, -, X2, ⟨Lc2, hQ2, l2, y2, z2⟩, st2⟩ := X1.specialBack hx (y := (⟨"lambdary/statistics/IntegralSum", "<init>", "()V"⟩ : MethodName)) rfl hown (mvT hZ (w_ hw 3 rfl)) (mvT hZ (w_ hw 4 rfl)) (mvT hZ (w_ hw 5 rfl)) (by decide) (backOf (W := 1) (rin l Z a0 hw [] b1 h1 n0 Z1 A1 D_0 D_1 D_2 D_3 g1) hZ (w_ hw 5 rfl) (w_ hw 2 rfl) (by decide) (by decide)) (g := (mkF m 30 #[.val (.long p1), .second, .val (.long p2), .second, .val (.long p3), .second, .val (.long p4), .second, .val (.long (own_e p1)), .second, .val (.long (own_e p2)), .second, .val (.long (own_e p3)), .second, .val (.long (own_e p4)), .second, .unset, .unset, .unset, .unset, .unset, .unset, .unset] [(.ref b1), (.ref b1)])) rfl (by rw [hml]; rfl) (Steps.refl _) (a := b1) (argsL := []) (rest := [(.ref b1)]) (lenOf pd_3 rfl) rfl (by show 2 * 0 + _ ≤ _; exact Nat.le_of_eq rfl) (hb hby at_30) (fun _ _ => ⟨rfl, e1, (by decide : 1 + 0 ≤ _), (by decide : 4 + 0 ≤ _)⟩)
  dsimp only [Pt.U, Pt.locs, Pt.cells, Pt.slots] at X2 l2 y2 z2 st2 hQ2
  subst l2 y2 z2
  obtain ⟨rfl, N2, K2, E2_, Fa2, Fb2, Fc2, Fd2⟩ := hQ2
  have Nf2 := Fr.app N0 N2
  refine Goes.via (S' := T2.setTop (mkF m 33 #[.val (.long p1), .second, .val (.long p2), .second, .val (.long p3), .second, .val (.long p4), .second, .val (.long (own_e p1)), .second, .val (.long (own_e p2)), .second, .val (.long (own_e p3)), .second, .val (.long (own_e p4)), .second, .unset, .unset, .unset, .unset, .unset, .unset, .unset] [(.ref b1)])) (fun _ kz => st2.trans kz) ?_
  have Z_2 := Nat.le_trans Z1 K2.1
  have O_2 := O1.keep K2 (allS g1 all0)
  refine Goes.via (S' := T2.setTop (mkF m 39 #[.val (.long p1), .second, .val (.long p2), .second, .val (.long p3), .second, .val (.long p4), .second, .val (.long (own_e p1)), .second, .val (.long (own_e p2)), .second, .val (.long (own_e p3)), .second, .val (.long (own_e p4)), .second, .val (.ref b1), .unset, .unset, .unset, .unset, .unset, .unset] [(.long (own_e p1)), (.ref b1)])) (fun tz kz => ?_) ?_
  · show Steps p.tables e below (T2.setTop (mkF m 33 #[.val (.long p1), .second, .val (.long p2), .second, .val (.long p3), .second, .val (.long p4), .second, .val (.long (own_e p1)), .second, .val (.long (own_e p2)), .second, .val (.long (own_e p3)), .second, .val (.long (own_e p4)), .second, .unset, .unset, .unset, .unset, .unset, .unset, .unset] [(.ref b1)])) _
    refine XS.astore X2.here hx rfl (hb hby at_33) rfl rfl (l' := #[.val (.long p1), .second, .val (.long p2), .second, .val (.long p3), .second, .val (.long p4), .second, .val (.long (own_e p1)), .second, .val (.long (own_e p2)), .second, .val (.long (own_e p3)), .second, .val (.long (own_e p4)), .second, .val (.ref b1), .unset, .unset, .unset, .unset, .unset, .unset]) rfl ?_
    refine XS.aload X2.here hx rfl (hb hby at_35) rfl rfl ?_
    refine XS.lload X2.here hx rfl (hb hby at_37) rfl ?_
    exact kz
  obtain ⟨cq3, kq3, q3a, q3b, q3c⟩ := isOf hZ rfl E2_
  obtain ⟨_, _, ⟨T3, L3, k3, n3⟩, -, X3, ⟨Lc3, hQ3, l3, y3, z3⟩, st3⟩ := X2.virtualBack hx (y := (⟨"lambdary/statistics/IntegralSum", "accept", "(J)V"⟩ : MethodName)) (z := (⟨"lambdary/statistics/IntegralSum", "accept", "(J)V"⟩ : MethodName)) hown (mvT hZ (w_ hw 11 rfl)) (mvT hZ (w_ hw 12 rfl)) (notFace_of_selects (args := #[]) (mvT hZ (w_ hw 14 rfl))) (mvT hZ (w_ hw 14 rfl)) (mvT hZ (w_ hw 13 rfl)) (by decide) (backOfWith (W := 0) (rac l Z a0 hw [] b1 (own_e p1) (0 : Int64) (0 : Int64) (0 : Int32) (1 : Int32) T2.heap n0 Z_2 E2_ Fa2 Fb2 Fc2 Fd2 g1 (own_ov0 (own_e p1))) hZ (w_ hw 15 rfl) (w_ hw 2 rfl) (by decide) (by decide)) q3a q3c (g := (mkF m 39 #[.val (.long p1), .second, .val (.long p2), .second, .val (.long p3), .second, .val (.long p4), .second, .val (.long (own_e p1)), .second, .val (.long (own_e p2)), .second, .val (.long (own_e p3)), .second, .val (.long (own_e p4)), .second, .val (.ref b1), .unset, .unset, .unset, .unset, .unset, .unset] [(.long (own_e p1)), (.ref b1)])) rfl (by rw [hml]; rfl) (Steps.refl _) (argsL := [(.long (own_e p1))]) (rest := []) (lenOf pd_2 rfl) rfl (by show 2 * 0 + _ ≤ _; exact Nat.le_of_eq rfl) (hb hby at_39) (fun _ _ => ⟨rfl, rfl, (by decide : 1 + 0 ≤ _), (by decide : 4 + 0 ≤ _)⟩)
  dsimp only [Pt.U, Pt.locs, Pt.cells, Pt.slots] at X3 l3 y3 z3 st3 hQ3
  subst l3 y3 z3
  obtain ⟨rfl, N3, K3, E3_, Fa3, Fb3, Fc3, Fd3⟩ := hQ3
  have Nf3 := Fr.app Nf2 N3
  refine Goes.via (S' := T3.setTop (mkF m 42 #[.val (.long p1), .second, .val (.long p2), .second, .val (.long p3), .second, .val (.long p4), .second, .val (.long (own_e p1)), .second, .val (.long (own_e p2)), .second, .val (.long (own_e p3)), .second, .val (.long (own_e p4)), .second, .val (.ref b1), .unset, .unset, .unset, .unset, .unset, .unset] [])) (fun _ kz => st3.trans kz) ?_
  have Z_3 := Nat.le_trans Z_2 K3.1
  have O_3 := O_2.keep K3 (allS g1 all0)
  have J_3 := own_Ja own_J0 (own_e8 p1) (own_ov0 (own_e p1))
  refine Goes.via (S' := T3.setTop (mkF m 46 #[.val (.long p1), .second, .val (.long p2), .second, .val (.long p3), .second, .val (.long p4), .second, .val (.long (own_e p1)), .second, .val (.long (own_e p2)), .second, .val (.long (own_e p3)), .second, .val (.long (own_e p4)), .second, .val (.ref b1), .unset, .unset, .unset, .unset, .unset, .unset] [(.long (own_e p2)), (.ref b1)])) (fun tz kz => ?_) ?_
  · show Steps p.tables e below (T3.setTop (mkF m 42 #[.val (.long p1), .second, .val (.long p2), .second, .val (.long p3), .second, .val (.long p4), .second, .val (.long (own_e p1)), .second, .val (.long (own_e p2)), .second, .val (.long (own_e p3)), .second, .val (.long (own_e p4)), .second, .val (.ref b1), .unset, .unset, .unset, .unset, .unset, .unset] [])) _
    refine XS.aload X3.here hx rfl (hb hby at_42) rfl rfl ?_
    refine XS.lload X3.here hx rfl (hb hby at_44) rfl ?_
    exact kz
  by_cases ho1 : ((((0 : Int64) + (own_e p1)) ^^^ (((0 : Int64) + (own_e p1)) + (own_e p2))) &&& ((own_e p2) ^^^ (((0 : Int64) + (own_e p1)) + (own_e p2)))) < (0 : Int64)
  · obtain ⟨cq4, kq4, q4a, q4b, q4c⟩ := isOf hZ rfl E3_
    obtain ⟨_, _, ⟨T4, L4, k4, n4⟩, -, X4, hs4, gs4, ⟨Lc4, hQ4, l4, y4, z4⟩, st4⟩ := Stand.virtualBackS (show Stand p l e _ (s.setVm s.vm) m _ below meth c _ _ _ _ from X3) hx (y := (⟨"lambdary/statistics/IntegralSum", "accept", "(J)V"⟩ : MethodName)) (z := (⟨"lambdary/statistics/IntegralSum", "accept", "(J)V"⟩ : MethodName)) hown (mvT hZ (w_ hw 11 rfl)) (mvT hZ (w_ hw 12 rfl)) (notFace_of_selects (args := #[]) (mvT hZ (w_ hw 14 rfl))) (mvT hZ (w_ hw 14 rfl)) (mvT hZ (w_ hw 13 rfl)) (by decide) (own_backW (W := 0) (rac_t l Z a0 hw [] b1 (own_e p2) ((0 : Int64) + (own_e p1)) (0 : Int64) (0 : Int32) (1 : Int32) us ss T3.heap n0 Z_3 E3_ Fa3 Fb3 Fc3 Fd3 g1 ho1 SU hus SQ hss hl O_3) hZ (w_ hw 15 rfl) (w_ hw 2 rfl) (by decide) (by decide) hK.1 hK.2) q4a q4c (g := (mkF m 46 #[.val (.long p1), .second, .val (.long p2), .second, .val (.long p3), .second, .val (.long p4), .second, .val (.long (own_e p1)), .second, .val (.long (own_e p2)), .second, .val (.long (own_e p3)), .second, .val (.long (own_e p4)), .second, .val (.ref b1), .unset, .unset, .unset, .unset, .unset, .unset] [(.long (own_e p2)), (.ref b1)])) rfl (by rw [hml]; rfl) (Steps.refl _) (argsL := [(.long (own_e p2))]) (rest := []) (lenOf pd_2 rfl) rfl (by show 2 * 0 + _ ≤ _; exact Nat.le_of_eq rfl) (hb hby at_46) (fun _ _ => ⟨rfl, rfl, (by decide : 1 + 4 ≤ _), (by decide : 4 + 2820 ≤ _)⟩)
    dsimp only [Pt.U, Pt.locs, Pt.cells, Pt.slots] at X4 l4 y4 z4 st4 hQ4 hs4 gs4
    subst l4 y4 z4
    obtain ⟨rfl, N4, K4, E4_, Fa4, Fb4, Fc4, Fd4⟩ := hQ4
    skip
    have hS4 : s.Since T4.vm T4.heap.size := own_fold ((State.WarmedH.refl s).since 0) (Nat.zero_le _) hs4 gs4
    have hK : (s.setVm T4.vm).vm.MethodsKnown ∧ (s.setVm T4.vm).vm.FramesKnown below := ⟨Vm.MethodsKnown.alikeC hs4.1.alike hK.1, Vm.FramesKnown.alikeC hs4.1.alike hK.2⟩
    have hZ : Z.Warmed39 (s.setVm T4.vm).vm := State.Warmed39.trans (t := s.setVm s.vm) hZ hs4.1
    have hown : (s.setVm T4.vm).vm.findClass "lambdary/statistics/IntegralSumSumAsDoublePinLaw" = some m.cls := by rw [show (s.setVm T4.vm).vm = T4.vm from rfl, hs4.1.alike.findClass]; exact hown
    have Nf4 := Fr.app Nf3 N4
    refine Goes.via (S' := T4.setTop (mkF m 49 #[.val (.long p1), .second, .val (.long p2), .second, .val (.long p3), .second, .val (.long p4), .second, .val (.long (own_e p1)), .second, .val (.long (own_e p2)), .second, .val (.long (own_e p3)), .second, .val (.long (own_e p4)), .second, .val (.ref b1), .unset, .unset, .unset, .unset, .unset, .unset] [])) (fun _ kz => st4.trans kz) ?_
    have Z_4 := Nat.le_trans Z_3 K4.1
    have O_4 := O_3.keep K4 (allS g1 all0)
    have J_4 := own_Jt J_3 (by decide) (own_e8 p2)
    refine Goes.via (S' := T4.setTop (mkF m 53 #[.val (.long p1), .second, .val (.long p2), .second, .val (.long p3), .second, .val (.long p4), .second, .val (.long (own_e p1)), .second, .val (.long (own_e p2)), .second, .val (.long (own_e p3)), .second, .val (.long (own_e p4)), .second, .val (.ref b1), .unset, .unset, .unset, .unset, .unset, .unset] [(.long (own_e p3)), (.ref b1)])) (fun tz kz => ?_) ?_
    · show Steps p.tables e below (T4.setTop (mkF m 49 #[.val (.long p1), .second, .val (.long p2), .second, .val (.long p3), .second, .val (.long p4), .second, .val (.long (own_e p1)), .second, .val (.long (own_e p2)), .second, .val (.long (own_e p3)), .second, .val (.long (own_e p4)), .second, .val (.ref b1), .unset, .unset, .unset, .unset, .unset, .unset] [])) _
      refine XS.aload X4.here hx rfl (hb hby at_49) rfl rfl ?_
      refine XS.lload X4.here hx rfl (hb hby at_51) rfl ?_
      exact kz
    obtain ⟨cq5, kq5, q5a, q5b, q5c⟩ := isOf hZ rfl E4_
    obtain ⟨_, _, ⟨T5, L5, k5, n5⟩, -, X5, ⟨Lc5, hQ5, l5, y5, z5⟩, st5⟩ := X4.virtualBack hx (y := (⟨"lambdary/statistics/IntegralSum", "accept", "(J)V"⟩ : MethodName)) (z := (⟨"lambdary/statistics/IntegralSum", "accept", "(J)V"⟩ : MethodName)) hown (mvT hZ (w_ hw 11 rfl)) (mvT hZ (w_ hw 12 rfl)) (notFace_of_selects (args := #[]) (mvT hZ (w_ hw 14 rfl))) (mvT hZ (w_ hw 14 rfl)) (mvT hZ (w_ hw 13 rfl)) (by decide) (backOfWith (W := 0) (rac_w l Z a0 hw [] b1 (own_e p3) (((0 : Int64) + (own_e p1)) + (own_e p2)) (own_tt (0 : Int64) ((0 : Int64) + (own_e p1)) (own_e p2)) (1 : Int32) (1 : Int32) T4.heap n0 Z_4 E4_ Fa4 Fb4 Fc4 Fd4 g1) hZ (w_ hw 15 rfl) (w_ hw 2 rfl) (by decide) (by decide)) q5a q5c (g := (mkF m 53 #[.val (.long p1), .second, .val (.long p2), .second, .val (.long p3), .second, .val (.long p4), .second, .val (.long (own_e p1)), .second, .val (.long (own_e p2)), .second, .val (.long (own_e p3)), .second, .val (.long (own_e p4)), .second, .val (.ref b1), .unset, .unset, .unset, .unset, .unset, .unset] [(.long (own_e p3)), (.ref b1)])) rfl (by rw [hml]; rfl) (Steps.refl _) (argsL := [(.long (own_e p3))]) (rest := []) (lenOf pd_2 rfl) rfl (by show 2 * 0 + _ ≤ _; exact Nat.le_of_eq rfl) (hb hby at_53) (fun _ _ => ⟨rfl, rfl, (by decide : 5 + 0 ≤ _), (by decide : 2824 + 0 ≤ _)⟩)
    dsimp only [Pt.U, Pt.locs, Pt.cells, Pt.slots] at X5 l5 y5 z5 st5 hQ5
    subst l5 y5 z5
    obtain ⟨rfl, N5, K5, E5_, Fa5, Fb5, Fc5, Fd5⟩ := hQ5
    have Nf5 := Fr.app Nf4 N5
    refine Goes.via (S' := T5.setTop (mkF m 56 #[.val (.long p1), .second, .val (.long p2), .second, .val (.long p3), .second, .val (.long p4), .second, .val (.long (own_e p1)), .second, .val (.long (own_e p2)), .second, .val (.long (own_e p3)), .second, .val (.long (own_e p4)), .second, .val (.ref b1), .unset, .unset, .unset, .unset, .unset, .unset] [])) (fun _ kz => st5.trans kz) ?_
    have Z_5 := Nat.le_trans Z_4 K5.1
    have O_5 := O_4.keep K5 (allS g1 all0)
    have J_5 := own_Jt J_4 (by decide) (own_e8 p3)
    refine Goes.via (S' := T5.setTop (mkF m 60 #[.val (.long p1), .second, .val (.long p2), .second, .val (.long p3), .second, .val (.long p4), .second, .val (.long (own_e p1)), .second, .val (.long (own_e p2)), .second, .val (.long (own_e p3)), .second, .val (.long (own_e p4)), .second, .val (.ref b1), .unset, .unset, .unset, .unset, .unset, .unset] [(.long (own_e p4)), (.ref b1)])) (fun tz kz => ?_) ?_
    · show Steps p.tables e below (T5.setTop (mkF m 56 #[.val (.long p1), .second, .val (.long p2), .second, .val (.long p3), .second, .val (.long p4), .second, .val (.long (own_e p1)), .second, .val (.long (own_e p2)), .second, .val (.long (own_e p3)), .second, .val (.long (own_e p4)), .second, .val (.ref b1), .unset, .unset, .unset, .unset, .unset, .unset] [])) _
      refine XS.aload X5.here hx rfl (hb hby at_56) rfl rfl ?_
      refine XS.lload X5.here hx rfl (hb hby at_58) rfl ?_
      exact kz
    obtain ⟨cq6, kq6, q6a, q6b, q6c⟩ := isOf hZ rfl E5_
    obtain ⟨_, _, ⟨T6, L6, k6, n6⟩, -, X6, ⟨Lc6, hQ6, l6, y6, z6⟩, st6⟩ := X5.virtualBack hx (y := (⟨"lambdary/statistics/IntegralSum", "accept", "(J)V"⟩ : MethodName)) (z := (⟨"lambdary/statistics/IntegralSum", "accept", "(J)V"⟩ : MethodName)) hown (mvT hZ (w_ hw 11 rfl)) (mvT hZ (w_ hw 12 rfl)) (notFace_of_selects (args := #[]) (mvT hZ (w_ hw 14 rfl))) (mvT hZ (w_ hw 14 rfl)) (mvT hZ (w_ hw 13 rfl)) (by decide) (backOfWith (W := 0) (rac_w l Z a0 hw [] b1 (own_e p4) ((((0 : Int64) + (own_e p1)) + (own_e p2)) + (own_e p3)) (own_tt (own_tt (0 : Int64) ((0 : Int64) + (own_e p1)) (own_e p2)) (((0 : Int64) + (own_e p1)) + (own_e p2)) (own_e p3)) (1 : Int32) (1 : Int32) T5.heap n0 Z_5 E5_ Fa5 Fb5 Fc5 Fd5 g1) hZ (w_ hw 15 rfl) (w_ hw 2 rfl) (by decide) (by decide)) q6a q6c (g := (mkF m 60 #[.val (.long p1), .second, .val (.long p2), .second, .val (.long p3), .second, .val (.long p4), .second, .val (.long (own_e p1)), .second, .val (.long (own_e p2)), .second, .val (.long (own_e p3)), .second, .val (.long (own_e p4)), .second, .val (.ref b1), .unset, .unset, .unset, .unset, .unset, .unset] [(.long (own_e p4)), (.ref b1)])) rfl (by rw [hml]; rfl) (Steps.refl _) (argsL := [(.long (own_e p4))]) (rest := []) (lenOf pd_2 rfl) rfl (by show 2 * 0 + _ ≤ _; exact Nat.le_of_eq rfl) (hb hby at_60) (fun _ _ => ⟨rfl, rfl, (by decide : 5 + 0 ≤ _), (by decide : 2824 + 0 ≤ _)⟩)
    dsimp only [Pt.U, Pt.locs, Pt.cells, Pt.slots] at X6 l6 y6 z6 st6 hQ6
    subst l6 y6 z6
    obtain ⟨rfl, N6, K6, E6_, Fa6, Fb6, Fc6, Fd6⟩ := hQ6
    have Nf6 := Fr.app Nf5 N6
    refine Goes.via (S' := T6.setTop (mkF m 63 #[.val (.long p1), .second, .val (.long p2), .second, .val (.long p3), .second, .val (.long p4), .second, .val (.long (own_e p1)), .second, .val (.long (own_e p2)), .second, .val (.long (own_e p3)), .second, .val (.long (own_e p4)), .second, .val (.ref b1), .unset, .unset, .unset, .unset, .unset, .unset] [])) (fun _ kz => st6.trans kz) ?_
    have Z_6 := Nat.le_trans Z_5 K6.1
    have O_6 := O_5.keep K6 (allS g1 all0)
    have J_6 := own_Jt J_5 (by decide) (own_e8 p4)
    have jj : own_J (((((0 : Int64) + (own_e p1)) + (own_e p2)) + (own_e p3)) + (own_e p4)) (own_tt (own_tt (own_tt (0 : Int64) ((0 : Int64) + (own_e p1)) (own_e p2)) (((0 : Int64) + (own_e p1)) + (own_e p2)) (own_e p3)) ((((0 : Int64) + (own_e p1)) + (own_e p2)) + (own_e p3)) (own_e p4)) _ 4 := J_6
    refine Goes.via (S' := T6.setTop (mkF m 65 #[.val (.long p1), .second, .val (.long p2), .second, .val (.long p3), .second, .val (.long p4), .second, .val (.long (own_e p1)), .second, .val (.long (own_e p2)), .second, .val (.long (own_e p3)), .second, .val (.long (own_e p4)), .second, .val (.ref b1), .unset, .unset, .unset, .unset, .unset, .unset] [(.ref b1)])) (fun tz kz => ?_) ?_
    · show Steps p.tables e below (T6.setTop (mkF m 63 #[.val (.long p1), .second, .val (.long p2), .second, .val (.long p3), .second, .val (.long p4), .second, .val (.long (own_e p1)), .second, .val (.long (own_e p2)), .second, .val (.long (own_e p3)), .second, .val (.long (own_e p4)), .second, .val (.ref b1), .unset, .unset, .unset, .unset, .unset, .unset] [])) _
      refine XS.aload X6.here hx rfl (hb hby at_63) rfl rfl ?_
      exact kz
    obtain ⟨cq7, kq7, q7a, q7b, q7c⟩ := isOf hZ rfl E6_
    obtain ⟨_, _, ⟨T7, L7, k7, n7⟩, -, X7, ⟨Lc7, hQ7, l7, y7, z7⟩, st7⟩ := X6.virtualBack hx (y := (⟨"lambdary/statistics/IntegralSum", "sumAsDouble", "()D"⟩ : MethodName)) (z := (⟨"lambdary/statistics/IntegralSum", "sumAsDouble", "()D"⟩ : MethodName)) hown (mvT hZ (w_ hw 24 rfl)) (mvT hZ (w_ hw 25 rfl)) (notFace_of_selects (args := #[]) (mvT hZ (w_ hw 27 rfl))) (mvT hZ (w_ hw 27 rfl)) (mvT hZ (w_ hw 26 rfl)) (by decide) (backOf (W := 0) (rsd l Z a0 hw [] b1 (((((0 : Int64) + (own_e p1)) + (own_e p2)) + (own_e p3)) + (own_e p4)) (own_tt (own_tt (own_tt (0 : Int64) ((0 : Int64) + (own_e p1)) (own_e p2)) (((0 : Int64) + (own_e p1)) + (own_e p2)) (own_e p3)) ((((0 : Int64) + (own_e p1)) + (own_e p2)) + (own_e p3)) (own_e p4)) (1 : Int32) (1 : Int32) T6.heap n0 Z_6 E6_ Fa6 Fb6 Fc6 Fd6 g1 jj.2.1 jj.2.2.1 jj.2.2.2) hZ (w_ hw 28 rfl) (w_ hw 2 rfl) (by decide) (by decide)) q7a q7c (g := (mkF m 65 #[.val (.long p1), .second, .val (.long p2), .second, .val (.long p3), .second, .val (.long p4), .second, .val (.long (own_e p1)), .second, .val (.long (own_e p2)), .second, .val (.long (own_e p3)), .second, .val (.long (own_e p4)), .second, .val (.ref b1), .unset, .unset, .unset, .unset, .unset, .unset] [(.ref b1)])) rfl (by rw [hml]; rfl) (Steps.refl _) (argsL := []) (rest := []) (lenOf pd_4 rfl) rfl (by show 2 * 0 + _ ≤ _; exact Nat.le_of_eq rfl) (hb hby at_65) (fun _ _ => ⟨rfl, rfl, (by decide : 5 + 0 ≤ _), (by decide : 2824 + 0 ≤ _)⟩)
    dsimp only [Pt.U, Pt.locs, Pt.cells, Pt.slots] at X7 l7 y7 z7 st7 hQ7
    subst l7 y7 z7
    obtain ⟨rfl, N7, e7⟩ := hQ7
    have Nf7 := Fr.app Nf6 N7
    refine Goes.via (S' := T7.setTop (mkF m 68 #[.val (.long p1), .second, .val (.long p2), .second, .val (.long p3), .second, .val (.long p4), .second, .val (.long (own_e p1)), .second, .val (.long (own_e p2)), .second, .val (.long (own_e p3)), .second, .val (.long (own_e p4)), .second, .val (.ref b1), .unset, .unset, .unset, .unset, .unset, .unset] [(.double (FP.dadd (FP.dmul (FP.l2d (own_tt (own_tt (own_tt (0 : Int64) ((0 : Int64) + (own_e p1)) (own_e p2)) (((0 : Int64) + (own_e p1)) + (own_e p2)) (own_e p3)) ((((0 : Int64) + (own_e p1)) + (own_e p2)) + (own_e p3)) (own_e p4))) (4895412794951729152 : UInt64)) (FP.l2d (((((0 : Int64) + (own_e p1)) + (own_e p2)) + (own_e p3)) + (own_e p4)))))])) (fun _ kz => st7.trans kz) ?_
    refine Goes.via (S' := T7.setTop (mkF m 95 #[.val (.long p1), .second, .val (.long p2), .second, .val (.long p3), .second, .val (.long p4), .second, .val (.long (own_e p1)), .second, .val (.long (own_e p2)), .second, .val (.long (own_e p3)), .second, .val (.long (own_e p4)), .second, .val (.ref b1), .val (.double (FP.dadd (FP.dmul (FP.l2d (own_tt (own_tt (own_tt (0 : Int64) ((0 : Int64) + (own_e p1)) (own_e p2)) (((0 : Int64) + (own_e p1)) + (own_e p2)) (own_e p3)) ((((0 : Int64) + (own_e p1)) + (own_e p2)) + (own_e p3)) (own_e p4))) (4895412794951729152 : UInt64)) (FP.l2d (((((0 : Int64) + (own_e p1)) + (own_e p2)) + (own_e p3)) + (own_e p4))))), .second, .val (.long (((((own_e p1) >>> ((11 : Int32) &&& 0x3f).toInt64) + ((own_e p2) >>> ((11 : Int32) &&& 0x3f).toInt64)) + ((own_e p3) >>> ((11 : Int32) &&& 0x3f).toInt64)) + ((own_e p4) >>> ((11 : Int32) &&& 0x3f).toInt64))), .second, .unset, .unset] [])) (fun tz kz => ?_) ?_
    · show Steps p.tables e below (T7.setTop (mkF m 68 #[.val (.long p1), .second, .val (.long p2), .second, .val (.long p3), .second, .val (.long p4), .second, .val (.long (own_e p1)), .second, .val (.long (own_e p2)), .second, .val (.long (own_e p3)), .second, .val (.long (own_e p4)), .second, .val (.ref b1), .unset, .unset, .unset, .unset, .unset, .unset] [(.double (FP.dadd (FP.dmul (FP.l2d (own_tt (own_tt (own_tt (0 : Int64) ((0 : Int64) + (own_e p1)) (own_e p2)) (((0 : Int64) + (own_e p1)) + (own_e p2)) (own_e p3)) ((((0 : Int64) + (own_e p1)) + (own_e p2)) + (own_e p3)) (own_e p4))) (4895412794951729152 : UInt64)) (FP.l2d (((((0 : Int64) + (own_e p1)) + (own_e p2)) + (own_e p3)) + (own_e p4)))))])) _
      refine XS.dstore X7.here hx rfl (hb hby at_68) rfl (l' := #[.val (.long p1), .second, .val (.long p2), .second, .val (.long p3), .second, .val (.long p4), .second, .val (.long (own_e p1)), .second, .val (.long (own_e p2)), .second, .val (.long (own_e p3)), .second, .val (.long (own_e p4)), .second, .val (.ref b1), .val (.double (FP.dadd (FP.dmul (FP.l2d (own_tt (own_tt (own_tt (0 : Int64) ((0 : Int64) + (own_e p1)) (own_e p2)) (((0 : Int64) + (own_e p1)) + (own_e p2)) (own_e p3)) ((((0 : Int64) + (own_e p1)) + (own_e p2)) + (own_e p3)) (own_e p4))) (4895412794951729152 : UInt64)) (FP.l2d (((((0 : Int64) + (own_e p1)) + (own_e p2)) + (own_e p3)) + (own_e p4))))), .second, .unset, .unset, .unset, .unset]) rfl ?_
      refine XS.lload X7.here hx rfl (hb hby at_70) rfl ?_
      refine XS.bipush X7.here hx rfl (hb hby at_72) ?_
      refine XS.lshr X7.here hx rfl (hb hby at_74) rfl ?_
      show Steps p.tables e below (T7.setTop (mkF m 75 #[.val (.long p1), .second, .val (.long p2), .second, .val (.long p3), .second, .val (.long p4), .second, .val (.long (own_e p1)), .second, .val (.long (own_e p2)), .second, .val (.long (own_e p3)), .second, .val (.long (own_e p4)), .second, .val (.ref b1), .val (.double (FP.dadd (FP.dmul (FP.l2d (own_tt (own_tt (own_tt (0 : Int64) ((0 : Int64) + (own_e p1)) (own_e p2)) (((0 : Int64) + (own_e p1)) + (own_e p2)) (own_e p3)) ((((0 : Int64) + (own_e p1)) + (own_e p2)) + (own_e p3)) (own_e p4))) (4895412794951729152 : UInt64)) (FP.l2d (((((0 : Int64) + (own_e p1)) + (own_e p2)) + (own_e p3)) + (own_e p4))))), .second, .unset, .unset, .unset, .unset] [(.long ((own_e p1) >>> ((11 : Int32) &&& 0x3f).toInt64))])) _
      refine XS.lload X7.here hx rfl (hb hby at_75) rfl ?_
      refine XS.bipush X7.here hx rfl (hb hby at_77) ?_
      refine XS.lshr X7.here hx rfl (hb hby at_79) rfl ?_
      refine XS.ladd X7.here hx rfl (hb hby at_80) rfl ?_
      show Steps p.tables e below (T7.setTop (mkF m 81 #[.val (.long p1), .second, .val (.long p2), .second, .val (.long p3), .second, .val (.long p4), .second, .val (.long (own_e p1)), .second, .val (.long (own_e p2)), .second, .val (.long (own_e p3)), .second, .val (.long (own_e p4)), .second, .val (.ref b1), .val (.double (FP.dadd (FP.dmul (FP.l2d (own_tt (own_tt (own_tt (0 : Int64) ((0 : Int64) + (own_e p1)) (own_e p2)) (((0 : Int64) + (own_e p1)) + (own_e p2)) (own_e p3)) ((((0 : Int64) + (own_e p1)) + (own_e p2)) + (own_e p3)) (own_e p4))) (4895412794951729152 : UInt64)) (FP.l2d (((((0 : Int64) + (own_e p1)) + (own_e p2)) + (own_e p3)) + (own_e p4))))), .second, .unset, .unset, .unset, .unset] [(.long (((own_e p1) >>> ((11 : Int32) &&& 0x3f).toInt64) + ((own_e p2) >>> ((11 : Int32) &&& 0x3f).toInt64)))])) _
      refine XS.lload X7.here hx rfl (hb hby at_81) rfl ?_
      refine XS.bipush X7.here hx rfl (hb hby at_83) ?_
      refine XS.lshr X7.here hx rfl (hb hby at_85) rfl ?_
      refine XS.ladd X7.here hx rfl (hb hby at_86) rfl ?_
      show Steps p.tables e below (T7.setTop (mkF m 87 #[.val (.long p1), .second, .val (.long p2), .second, .val (.long p3), .second, .val (.long p4), .second, .val (.long (own_e p1)), .second, .val (.long (own_e p2)), .second, .val (.long (own_e p3)), .second, .val (.long (own_e p4)), .second, .val (.ref b1), .val (.double (FP.dadd (FP.dmul (FP.l2d (own_tt (own_tt (own_tt (0 : Int64) ((0 : Int64) + (own_e p1)) (own_e p2)) (((0 : Int64) + (own_e p1)) + (own_e p2)) (own_e p3)) ((((0 : Int64) + (own_e p1)) + (own_e p2)) + (own_e p3)) (own_e p4))) (4895412794951729152 : UInt64)) (FP.l2d (((((0 : Int64) + (own_e p1)) + (own_e p2)) + (own_e p3)) + (own_e p4))))), .second, .unset, .unset, .unset, .unset] [(.long ((((own_e p1) >>> ((11 : Int32) &&& 0x3f).toInt64) + ((own_e p2) >>> ((11 : Int32) &&& 0x3f).toInt64)) + ((own_e p3) >>> ((11 : Int32) &&& 0x3f).toInt64)))])) _
      refine XS.lload X7.here hx rfl (hb hby at_87) rfl ?_
      refine XS.bipush X7.here hx rfl (hb hby at_89) ?_
      refine XS.lshr X7.here hx rfl (hb hby at_91) rfl ?_
      refine XS.ladd X7.here hx rfl (hb hby at_92) rfl ?_
      show Steps p.tables e below (T7.setTop (mkF m 93 #[.val (.long p1), .second, .val (.long p2), .second, .val (.long p3), .second, .val (.long p4), .second, .val (.long (own_e p1)), .second, .val (.long (own_e p2)), .second, .val (.long (own_e p3)), .second, .val (.long (own_e p4)), .second, .val (.ref b1), .val (.double (FP.dadd (FP.dmul (FP.l2d (own_tt (own_tt (own_tt (0 : Int64) ((0 : Int64) + (own_e p1)) (own_e p2)) (((0 : Int64) + (own_e p1)) + (own_e p2)) (own_e p3)) ((((0 : Int64) + (own_e p1)) + (own_e p2)) + (own_e p3)) (own_e p4))) (4895412794951729152 : UInt64)) (FP.l2d (((((0 : Int64) + (own_e p1)) + (own_e p2)) + (own_e p3)) + (own_e p4))))), .second, .unset, .unset, .unset, .unset] [(.long (((((own_e p1) >>> ((11 : Int32) &&& 0x3f).toInt64) + ((own_e p2) >>> ((11 : Int32) &&& 0x3f).toInt64)) + ((own_e p3) >>> ((11 : Int32) &&& 0x3f).toInt64)) + ((own_e p4) >>> ((11 : Int32) &&& 0x3f).toInt64)))])) _
      refine XS.lstore X7.here hx rfl (hb hby at_93) rfl (l' := #[.val (.long p1), .second, .val (.long p2), .second, .val (.long p3), .second, .val (.long p4), .second, .val (.long (own_e p1)), .second, .val (.long (own_e p2)), .second, .val (.long (own_e p3)), .second, .val (.long (own_e p4)), .second, .val (.ref b1), .val (.double (FP.dadd (FP.dmul (FP.l2d (own_tt (own_tt (own_tt (0 : Int64) ((0 : Int64) + (own_e p1)) (own_e p2)) (((0 : Int64) + (own_e p1)) + (own_e p2)) (own_e p3)) ((((0 : Int64) + (own_e p1)) + (own_e p2)) + (own_e p3)) (own_e p4))) (4895412794951729152 : UInt64)) (FP.l2d (((((0 : Int64) + (own_e p1)) + (own_e p2)) + (own_e p3)) + (own_e p4))))), .second, .val (.long (((((own_e p1) >>> ((11 : Int32) &&& 0x3f).toInt64) + ((own_e p2) >>> ((11 : Int32) &&& 0x3f).toInt64)) + ((own_e p3) >>> ((11 : Int32) &&& 0x3f).toInt64)) + ((own_e p4) >>> ((11 : Int32) &&& 0x3f).toInt64))), .second, .unset, .unset]) rfl ?_
      exact kz
    show Goes p e below _ (T7.setTop (mkF m 95 #[.val (.long p1), .second, .val (.long p2), .second, .val (.long p3), .second, .val (.long p4), .second, .val (.long (own_e p1)), .second, .val (.long (own_e p2)), .second, .val (.long (own_e p3)), .second, .val (.long (own_e p4)), .second, .val (.ref b1), .val (.double (FP.dadd (FP.dmul (FP.l2d (own_tt (own_tt (own_tt (0 : Int64) ((0 : Int64) + (own_e p1)) (own_e p2)) (((0 : Int64) + (own_e p1)) + (own_e p2)) (own_e p3)) ((((0 : Int64) + (own_e p1)) + (own_e p2)) + (own_e p3)) (own_e p4))) (4895412794951729152 : UInt64)) (FP.l2d (((((0 : Int64) + (own_e p1)) + (own_e p2)) + (own_e p3)) + (own_e p4))))), .second, .val (.long (own_k p1 p2 p3 p4)), .second, .unset, .unset] []))
    have kk := own_kk p1 p2 p3 p4
    refine Goes.via (S' := T7.setTop (mkF m 117 #[.val (.long p1), .second, .val (.long p2), .second, .val (.long p3), .second, .val (.long p4), .second, .val (.long (own_e p1)), .second, .val (.long (own_e p2)), .second, .val (.long (own_e p3)), .second, .val (.long (own_e p4)), .second, .val (.ref b1), .val (.double (FP.dadd (FP.dmul (FP.l2d (own_tt (own_tt (own_tt (0 : Int64) ((0 : Int64) + (own_e p1)) (own_e p2)) (((0 : Int64) + (own_e p1)) + (own_e p2)) (own_e p3)) ((((0 : Int64) + (own_e p1)) + (own_e p2)) + (own_e p3)) (own_e p4))) (4895412794951729152 : UInt64)) (FP.l2d (((((0 : Int64) + (own_e p1)) + (own_e p2)) + (own_e p3)) + (own_e p4))))), .second, .val (.long (own_k p1 p2 p3 p4)), .second, .val (.double (FP.dmul (FP.l2d (own_k p1 p2 p3 p4)) (4656722014701092864 : UInt64))), .second] [(.int (1 : Int32))])) (fun tz kz => ?_) ?_
    · show Steps p.tables e below (T7.setTop (mkF m 95 #[.val (.long p1), .second, .val (.long p2), .second, .val (.long p3), .second, .val (.long p4), .second, .val (.long (own_e p1)), .second, .val (.long (own_e p2)), .second, .val (.long (own_e p3)), .second, .val (.long (own_e p4)), .second, .val (.ref b1), .val (.double (FP.dadd (FP.dmul (FP.l2d (own_tt (own_tt (own_tt (0 : Int64) ((0 : Int64) + (own_e p1)) (own_e p2)) (((0 : Int64) + (own_e p1)) + (own_e p2)) (own_e p3)) ((((0 : Int64) + (own_e p1)) + (own_e p2)) + (own_e p3)) (own_e p4))) (4895412794951729152 : UInt64)) (FP.l2d (((((0 : Int64) + (own_e p1)) + (own_e p2)) + (own_e p3)) + (own_e p4))))), .second, .val (.long (own_k p1 p2 p3 p4)), .second, .unset, .unset] [])) _
      refine XS.lload X7.here hx rfl (hb hby at_95) rfl ?_
      refine XS.l2dS X7.here hx rfl (hb hby at_97) rfl (v := FP.l2d (own_k p1 p2 p3 p4)) rfl ?_
      refine X7.ldc2DoubleC hx hown (mvT hZ (w_ hw 32 rfl)) (g := (mkF m 98 #[.val (.long p1), .second, .val (.long p2), .second, .val (.long p3), .second, .val (.long p4), .second, .val (.long (own_e p1)), .second, .val (.long (own_e p2)), .second, .val (.long (own_e p3)), .second, .val (.long (own_e p4)), .second, .val (.ref b1), .val (.double (FP.dadd (FP.dmul (FP.l2d (own_tt (own_tt (own_tt (0 : Int64) ((0 : Int64) + (own_e p1)) (own_e p2)) (((0 : Int64) + (own_e p1)) + (own_e p2)) (own_e p3)) ((((0 : Int64) + (own_e p1)) + (own_e p2)) + (own_e p3)) (own_e p4))) (4895412794951729152 : UInt64)) (FP.l2d (((((0 : Int64) + (own_e p1)) + (own_e p2)) + (own_e p3)) + (own_e p4))))), .second, .val (.long (own_k p1 p2 p3 p4)), .second, .unset, .unset] [(.double (FP.l2d (own_k p1 p2 p3 p4)))])) rfl (hb hby at_98) _ ?_
      refine XS.dmulS X7.here hx rfl (hb hby at_101) rfl (own_want kk.2.1 kk.2.2).1 (v := (FP.dmul (FP.l2d (own_k p1 p2 p3 p4)) (4656722014701092864 : UInt64))) rfl ?_
      show Steps p.tables e below (T7.setTop (mkF m 102 #[.val (.long p1), .second, .val (.long p2), .second, .val (.long p3), .second, .val (.long p4), .second, .val (.long (own_e p1)), .second, .val (.long (own_e p2)), .second, .val (.long (own_e p3)), .second, .val (.long (own_e p4)), .second, .val (.ref b1), .val (.double (FP.dadd (FP.dmul (FP.l2d (own_tt (own_tt (own_tt (0 : Int64) ((0 : Int64) + (own_e p1)) (own_e p2)) (((0 : Int64) + (own_e p1)) + (own_e p2)) (own_e p3)) ((((0 : Int64) + (own_e p1)) + (own_e p2)) + (own_e p3)) (own_e p4))) (4895412794951729152 : UInt64)) (FP.l2d (((((0 : Int64) + (own_e p1)) + (own_e p2)) + (own_e p3)) + (own_e p4))))), .second, .val (.long (own_k p1 p2 p3 p4)), .second, .unset, .unset] [(.double (FP.dmul (FP.l2d (own_k p1 p2 p3 p4)) (4656722014701092864 : UInt64)))])) _
      refine XS.dstore X7.here hx rfl (hb hby at_102) rfl (l' := #[.val (.long p1), .second, .val (.long p2), .second, .val (.long p3), .second, .val (.long p4), .second, .val (.long (own_e p1)), .second, .val (.long (own_e p2)), .second, .val (.long (own_e p3)), .second, .val (.long (own_e p4)), .second, .val (.ref b1), .val (.double (FP.dadd (FP.dmul (FP.l2d (own_tt (own_tt (own_tt (0 : Int64) ((0 : Int64) + (own_e p1)) (own_e p2)) (((0 : Int64) + (own_e p1)) + (own_e p2)) (own_e p3)) ((((0 : Int64) + (own_e p1)) + (own_e p2)) + (own_e p3)) (own_e p4))) (4895412794951729152 : UInt64)) (FP.l2d (((((0 : Int64) + (own_e p1)) + (own_e p2)) + (own_e p3)) + (own_e p4))))), .second, .val (.long (own_k p1 p2 p3 p4)), .second, .val (.double (FP.dmul (FP.l2d (own_k p1 p2 p3 p4)) (4656722014701092864 : UInt64))), .second]) rfl ?_
      refine XS.dload X7.here hx rfl (hb hby at_104) rfl ?_
      refine XS.dload X7.here hx rfl (hb hby at_106) rfl ?_
      refine XS.dcmpS X7.here hx rfl (hb hby at_108) rfl (v := (cmpValue (FP.dcmp (FP.dadd (FP.dmul (FP.l2d (own_tt (own_tt (own_tt (0 : Int64) ((0 : Int64) + (own_e p1)) (own_e p2)) (((0 : Int64) + (own_e p1)) + (own_e p2)) (own_e p3)) ((((0 : Int64) + (own_e p1)) + (own_e p2)) + (own_e p3)) (own_e p4))) (4895412794951729152 : UInt64)) (FP.l2d (((((0 : Int64) + (own_e p1)) + (own_e p2)) + (own_e p3)) + (own_e p4)))) (FP.dmul (FP.l2d (own_k p1 p2 p3 p4)) (4656722014701092864 : UInt64))) .l)) rfl ?_
      show Steps p.tables e below (T7.setTop (mkF m 109 #[.val (.long p1), .second, .val (.long p2), .second, .val (.long p3), .second, .val (.long p4), .second, .val (.long (own_e p1)), .second, .val (.long (own_e p2)), .second, .val (.long (own_e p3)), .second, .val (.long (own_e p4)), .second, .val (.ref b1), .val (.double (FP.dadd (FP.dmul (FP.l2d (own_tt (own_tt (own_tt (0 : Int64) ((0 : Int64) + (own_e p1)) (own_e p2)) (((0 : Int64) + (own_e p1)) + (own_e p2)) (own_e p3)) ((((0 : Int64) + (own_e p1)) + (own_e p2)) + (own_e p3)) (own_e p4))) (4895412794951729152 : UInt64)) (FP.l2d (((((0 : Int64) + (own_e p1)) + (own_e p2)) + (own_e p3)) + (own_e p4))))), .second, .val (.long (own_k p1 p2 p3 p4)), .second, .val (.double (FP.dmul (FP.l2d (own_k p1 p2 p3 p4)) (4656722014701092864 : UInt64))), .second] [(.int (cmpValue (FP.dcmp (FP.dadd (FP.dmul (FP.l2d (own_tt (own_tt (own_tt (0 : Int64) ((0 : Int64) + (own_e p1)) (own_e p2)) (((0 : Int64) + (own_e p1)) + (own_e p2)) (own_e p3)) ((((0 : Int64) + (own_e p1)) + (own_e p2)) + (own_e p3)) (own_e p4))) (4895412794951729152 : UInt64)) (FP.l2d (((((0 : Int64) + (own_e p1)) + (own_e p2)) + (own_e p3)) + (own_e p4)))) (FP.dmul (FP.l2d (own_k p1 p2 p3 p4)) (4656722014701092864 : UInt64))) .l))])) _
      refine XS.ifNo X7.here hx rfl (hb hby at_109) rfl ((if0 _ _).trans (teq (own_same jj.2.1 jj.2.2.1 jj.2.2.2 kk.2.1 kk.2.2 (jj.1.trans (by omega)) .l)).2) ?_
      refine XS.iconst X7.here hx rfl (hb hby at_112) ?_
      refine XS.goto X7.here hx rfl (pc0 := 113) (pc' := 117) rfl (hb hby at_113) (by decide) (by decide) ?_
      exact kz
    exact Goes.retNW (s := s) (vm1 := T4.vm) X7 hx Bd.notSynchronized hS4 (by rw [e7]; exact (Nat.le_trans (Nat.le_trans (Nat.le_refl _) K5.1) K6.1)) (t := .boolean) Bd.returns (by simp) (hb hby at_117) (Nat.le_of_ble_eq_true rfl) (Nat.le_of_ble_eq_true rfl) ⟨rfl, Nf7⟩
  · obtain ⟨cq8, kq8, q8a, q8b, q8c⟩ := isOf hZ rfl E3_
    obtain ⟨_, _, ⟨T8, L8, k8, n8⟩, -, X8, ⟨Lc8, hQ8, l8, y8, z8⟩, st8⟩ := X3.virtualBack hx (y := (⟨"lambdary/statistics/IntegralSum", "accept", "(J)V"⟩ : MethodName)) (z := (⟨"lambdary/statistics/IntegralSum", "accept", "(J)V"⟩ : MethodName)) hown (mvT hZ (w_ hw 11 rfl)) (mvT hZ (w_ hw 12 rfl)) (notFace_of_selects (args := #[]) (mvT hZ (w_ hw 14 rfl))) (mvT hZ (w_ hw 14 rfl)) (mvT hZ (w_ hw 13 rfl)) (by decide) (backOfWith (W := 0) (rac l Z a0 hw [] b1 (own_e p2) ((0 : Int64) + (own_e p1)) (0 : Int64) (0 : Int32) (1 : Int32) T3.heap n0 Z_3 E3_ Fa3 Fb3 Fc3 Fd3 g1 ho1) hZ (w_ hw 15 rfl) (w_ hw 2 rfl) (by decide) (by decide)) q8a q8c (g := (mkF m 46 #[.val (.long p1), .second, .val (.long p2), .second, .val (.long p3), .second, .val (.long p4), .second, .val (.long (own_e p1)), .second, .val (.long (own_e p2)), .second, .val (.long (own_e p3)), .second, .val (.long (own_e p4)), .second, .val (.ref b1), .unset, .unset, .unset, .unset, .unset, .unset] [(.long (own_e p2)), (.ref b1)])) rfl (by rw [hml]; rfl) (Steps.refl _) (argsL := [(.long (own_e p2))]) (rest := []) (lenOf pd_2 rfl) rfl (by show 2 * 0 + _ ≤ _; exact Nat.le_of_eq rfl) (hb hby at_46) (fun _ _ => ⟨rfl, rfl, (by decide : 1 + 0 ≤ _), (by decide : 4 + 0 ≤ _)⟩)
    dsimp only [Pt.U, Pt.locs, Pt.cells, Pt.slots] at X8 l8 y8 z8 st8 hQ8
    subst l8 y8 z8
    obtain ⟨rfl, N8, K8, E8_, Fa8, Fb8, Fc8, Fd8⟩ := hQ8
    have Nf8 := Fr.app Nf3 N8
    refine Goes.via (S' := T8.setTop (mkF m 49 #[.val (.long p1), .second, .val (.long p2), .second, .val (.long p3), .second, .val (.long p4), .second, .val (.long (own_e p1)), .second, .val (.long (own_e p2)), .second, .val (.long (own_e p3)), .second, .val (.long (own_e p4)), .second, .val (.ref b1), .unset, .unset, .unset, .unset, .unset, .unset] [])) (fun _ kz => st8.trans kz) ?_
    have Z_8 := Nat.le_trans Z_3 K8.1
    have O_8 := O_3.keep K8 (allS g1 all0)
    have J_8 := own_Ja J_3 (own_e8 p2) ho1
    refine Goes.via (S' := T8.setTop (mkF m 53 #[.val (.long p1), .second, .val (.long p2), .second, .val (.long p3), .second, .val (.long p4), .second, .val (.long (own_e p1)), .second, .val (.long (own_e p2)), .second, .val (.long (own_e p3)), .second, .val (.long (own_e p4)), .second, .val (.ref b1), .unset, .unset, .unset, .unset, .unset, .unset] [(.long (own_e p3)), (.ref b1)])) (fun tz kz => ?_) ?_
    · show Steps p.tables e below (T8.setTop (mkF m 49 #[.val (.long p1), .second, .val (.long p2), .second, .val (.long p3), .second, .val (.long p4), .second, .val (.long (own_e p1)), .second, .val (.long (own_e p2)), .second, .val (.long (own_e p3)), .second, .val (.long (own_e p4)), .second, .val (.ref b1), .unset, .unset, .unset, .unset, .unset, .unset] [])) _
      refine XS.aload X8.here hx rfl (hb hby at_49) rfl rfl ?_
      refine XS.lload X8.here hx rfl (hb hby at_51) rfl ?_
      exact kz
    by_cases ho2 : (((((0 : Int64) + (own_e p1)) + (own_e p2)) ^^^ ((((0 : Int64) + (own_e p1)) + (own_e p2)) + (own_e p3))) &&& ((own_e p3) ^^^ ((((0 : Int64) + (own_e p1)) + (own_e p2)) + (own_e p3)))) < (0 : Int64)
    · obtain ⟨cq9, kq9, q9a, q9b, q9c⟩ := isOf hZ rfl E8_
      obtain ⟨_, _, ⟨T9, L9, k9, n9⟩, -, X9, hs9, gs9, ⟨Lc9, hQ9, l9, y9, z9⟩, st9⟩ := Stand.virtualBackS (show Stand p l e _ (s.setVm s.vm) m _ below meth c _ _ _ _ from X8) hx (y := (⟨"lambdary/statistics/IntegralSum", "accept", "(J)V"⟩ : MethodName)) (z := (⟨"lambdary/statistics/IntegralSum", "accept", "(J)V"⟩ : MethodName)) hown (mvT hZ (w_ hw 11 rfl)) (mvT hZ (w_ hw 12 rfl)) (notFace_of_selects (args := #[]) (mvT hZ (w_ hw 14 rfl))) (mvT hZ (w_ hw 14 rfl)) (mvT hZ (w_ hw 13 rfl)) (by decide) (own_backW (W := 0) (rac_t l Z a0 hw [] b1 (own_e p3) (((0 : Int64) + (own_e p1)) + (own_e p2)) (0 : Int64) (0 : Int32) (1 : Int32) us ss T8.heap n0 Z_8 E8_ Fa8 Fb8 Fc8 Fd8 g1 ho2 SU hus SQ hss hl O_8) hZ (w_ hw 15 rfl) (w_ hw 2 rfl) (by decide) (by decide) hK.1 hK.2) q9a q9c (g := (mkF m 53 #[.val (.long p1), .second, .val (.long p2), .second, .val (.long p3), .second, .val (.long p4), .second, .val (.long (own_e p1)), .second, .val (.long (own_e p2)), .second, .val (.long (own_e p3)), .second, .val (.long (own_e p4)), .second, .val (.ref b1), .unset, .unset, .unset, .unset, .unset, .unset] [(.long (own_e p3)), (.ref b1)])) rfl (by rw [hml]; rfl) (Steps.refl _) (argsL := [(.long (own_e p3))]) (rest := []) (lenOf pd_2 rfl) rfl (by show 2 * 0 + _ ≤ _; exact Nat.le_of_eq rfl) (hb hby at_53) (fun _ _ => ⟨rfl, rfl, (by decide : 1 + 4 ≤ _), (by decide : 4 + 2820 ≤ _)⟩)
      dsimp only [Pt.U, Pt.locs, Pt.cells, Pt.slots] at X9 l9 y9 z9 st9 hQ9 hs9 gs9
      subst l9 y9 z9
      obtain ⟨rfl, N9, K9, E9_, Fa9, Fb9, Fc9, Fd9⟩ := hQ9
      skip
      have hS9 : s.Since T9.vm T9.heap.size := own_fold ((State.WarmedH.refl s).since 0) (Nat.zero_le _) hs9 gs9
      have hK : (s.setVm T9.vm).vm.MethodsKnown ∧ (s.setVm T9.vm).vm.FramesKnown below := ⟨Vm.MethodsKnown.alikeC hs9.1.alike hK.1, Vm.FramesKnown.alikeC hs9.1.alike hK.2⟩
      have hZ : Z.Warmed39 (s.setVm T9.vm).vm := State.Warmed39.trans (t := s.setVm s.vm) hZ hs9.1
      have hown : (s.setVm T9.vm).vm.findClass "lambdary/statistics/IntegralSumSumAsDoublePinLaw" = some m.cls := by rw [show (s.setVm T9.vm).vm = T9.vm from rfl, hs9.1.alike.findClass]; exact hown
      have Nf9 := Fr.app Nf8 N9
      refine Goes.via (S' := T9.setTop (mkF m 56 #[.val (.long p1), .second, .val (.long p2), .second, .val (.long p3), .second, .val (.long p4), .second, .val (.long (own_e p1)), .second, .val (.long (own_e p2)), .second, .val (.long (own_e p3)), .second, .val (.long (own_e p4)), .second, .val (.ref b1), .unset, .unset, .unset, .unset, .unset, .unset] [])) (fun _ kz => st9.trans kz) ?_
      have Z_9 := Nat.le_trans Z_8 K9.1
      have O_9 := O_8.keep K9 (allS g1 all0)
      have J_9 := own_Jt J_8 (by decide) (own_e8 p3)
      refine Goes.via (S' := T9.setTop (mkF m 60 #[.val (.long p1), .second, .val (.long p2), .second, .val (.long p3), .second, .val (.long p4), .second, .val (.long (own_e p1)), .second, .val (.long (own_e p2)), .second, .val (.long (own_e p3)), .second, .val (.long (own_e p4)), .second, .val (.ref b1), .unset, .unset, .unset, .unset, .unset, .unset] [(.long (own_e p4)), (.ref b1)])) (fun tz kz => ?_) ?_
      · show Steps p.tables e below (T9.setTop (mkF m 56 #[.val (.long p1), .second, .val (.long p2), .second, .val (.long p3), .second, .val (.long p4), .second, .val (.long (own_e p1)), .second, .val (.long (own_e p2)), .second, .val (.long (own_e p3)), .second, .val (.long (own_e p4)), .second, .val (.ref b1), .unset, .unset, .unset, .unset, .unset, .unset] [])) _
        refine XS.aload X9.here hx rfl (hb hby at_56) rfl rfl ?_
        refine XS.lload X9.here hx rfl (hb hby at_58) rfl ?_
        exact kz
      obtain ⟨cq10, kq10, q10a, q10b, q10c⟩ := isOf hZ rfl E9_
      obtain ⟨_, _, ⟨T10, L10, k10, n10⟩, -, X10, ⟨Lc10, hQ10, l10, y10, z10⟩, st10⟩ := X9.virtualBack hx (y := (⟨"lambdary/statistics/IntegralSum", "accept", "(J)V"⟩ : MethodName)) (z := (⟨"lambdary/statistics/IntegralSum", "accept", "(J)V"⟩ : MethodName)) hown (mvT hZ (w_ hw 11 rfl)) (mvT hZ (w_ hw 12 rfl)) (notFace_of_selects (args := #[]) (mvT hZ (w_ hw 14 rfl))) (mvT hZ (w_ hw 14 rfl)) (mvT hZ (w_ hw 13 rfl)) (by decide) (backOfWith (W := 0) (rac_w l Z a0 hw [] b1 (own_e p4) ((((0 : Int64) + (own_e p1)) + (own_e p2)) + (own_e p3)) (own_tt (0 : Int64) (((0 : Int64) + (own_e p1)) + (own_e p2)) (own_e p3)) (1 : Int32) (1 : Int32) T9.heap n0 Z_9 E9_ Fa9 Fb9 Fc9 Fd9 g1) hZ (w_ hw 15 rfl) (w_ hw 2 rfl) (by decide) (by decide)) q10a q10c (g := (mkF m 60 #[.val (.long p1), .second, .val (.long p2), .second, .val (.long p3), .second, .val (.long p4), .second, .val (.long (own_e p1)), .second, .val (.long (own_e p2)), .second, .val (.long (own_e p3)), .second, .val (.long (own_e p4)), .second, .val (.ref b1), .unset, .unset, .unset, .unset, .unset, .unset] [(.long (own_e p4)), (.ref b1)])) rfl (by rw [hml]; rfl) (Steps.refl _) (argsL := [(.long (own_e p4))]) (rest := []) (lenOf pd_2 rfl) rfl (by show 2 * 0 + _ ≤ _; exact Nat.le_of_eq rfl) (hb hby at_60) (fun _ _ => ⟨rfl, rfl, (by decide : 5 + 0 ≤ _), (by decide : 2824 + 0 ≤ _)⟩)
      dsimp only [Pt.U, Pt.locs, Pt.cells, Pt.slots] at X10 l10 y10 z10 st10 hQ10
      subst l10 y10 z10
      obtain ⟨rfl, N10, K10, E10_, Fa10, Fb10, Fc10, Fd10⟩ := hQ10
      have Nf10 := Fr.app Nf9 N10
      refine Goes.via (S' := T10.setTop (mkF m 63 #[.val (.long p1), .second, .val (.long p2), .second, .val (.long p3), .second, .val (.long p4), .second, .val (.long (own_e p1)), .second, .val (.long (own_e p2)), .second, .val (.long (own_e p3)), .second, .val (.long (own_e p4)), .second, .val (.ref b1), .unset, .unset, .unset, .unset, .unset, .unset] [])) (fun _ kz => st10.trans kz) ?_
      have Z_10 := Nat.le_trans Z_9 K10.1
      have O_10 := O_9.keep K10 (allS g1 all0)
      have J_10 := own_Jt J_9 (by decide) (own_e8 p4)
      have jj : own_J (((((0 : Int64) + (own_e p1)) + (own_e p2)) + (own_e p3)) + (own_e p4)) (own_tt (own_tt (0 : Int64) (((0 : Int64) + (own_e p1)) + (own_e p2)) (own_e p3)) ((((0 : Int64) + (own_e p1)) + (own_e p2)) + (own_e p3)) (own_e p4)) _ 4 := J_10
      refine Goes.via (S' := T10.setTop (mkF m 65 #[.val (.long p1), .second, .val (.long p2), .second, .val (.long p3), .second, .val (.long p4), .second, .val (.long (own_e p1)), .second, .val (.long (own_e p2)), .second, .val (.long (own_e p3)), .second, .val (.long (own_e p4)), .second, .val (.ref b1), .unset, .unset, .unset, .unset, .unset, .unset] [(.ref b1)])) (fun tz kz => ?_) ?_
      · show Steps p.tables e below (T10.setTop (mkF m 63 #[.val (.long p1), .second, .val (.long p2), .second, .val (.long p3), .second, .val (.long p4), .second, .val (.long (own_e p1)), .second, .val (.long (own_e p2)), .second, .val (.long (own_e p3)), .second, .val (.long (own_e p4)), .second, .val (.ref b1), .unset, .unset, .unset, .unset, .unset, .unset] [])) _
        refine XS.aload X10.here hx rfl (hb hby at_63) rfl rfl ?_
        exact kz
      obtain ⟨cq11, kq11, q11a, q11b, q11c⟩ := isOf hZ rfl E10_
      obtain ⟨_, _, ⟨T11, L11, k11, n11⟩, -, X11, ⟨Lc11, hQ11, l11, y11, z11⟩, st11⟩ := X10.virtualBack hx (y := (⟨"lambdary/statistics/IntegralSum", "sumAsDouble", "()D"⟩ : MethodName)) (z := (⟨"lambdary/statistics/IntegralSum", "sumAsDouble", "()D"⟩ : MethodName)) hown (mvT hZ (w_ hw 24 rfl)) (mvT hZ (w_ hw 25 rfl)) (notFace_of_selects (args := #[]) (mvT hZ (w_ hw 27 rfl))) (mvT hZ (w_ hw 27 rfl)) (mvT hZ (w_ hw 26 rfl)) (by decide) (backOf (W := 0) (rsd l Z a0 hw [] b1 (((((0 : Int64) + (own_e p1)) + (own_e p2)) + (own_e p3)) + (own_e p4)) (own_tt (own_tt (0 : Int64) (((0 : Int64) + (own_e p1)) + (own_e p2)) (own_e p3)) ((((0 : Int64) + (own_e p1)) + (own_e p2)) + (own_e p3)) (own_e p4)) (1 : Int32) (1 : Int32) T10.heap n0 Z_10 E10_ Fa10 Fb10 Fc10 Fd10 g1 jj.2.1 jj.2.2.1 jj.2.2.2) hZ (w_ hw 28 rfl) (w_ hw 2 rfl) (by decide) (by decide)) q11a q11c (g := (mkF m 65 #[.val (.long p1), .second, .val (.long p2), .second, .val (.long p3), .second, .val (.long p4), .second, .val (.long (own_e p1)), .second, .val (.long (own_e p2)), .second, .val (.long (own_e p3)), .second, .val (.long (own_e p4)), .second, .val (.ref b1), .unset, .unset, .unset, .unset, .unset, .unset] [(.ref b1)])) rfl (by rw [hml]; rfl) (Steps.refl _) (argsL := []) (rest := []) (lenOf pd_4 rfl) rfl (by show 2 * 0 + _ ≤ _; exact Nat.le_of_eq rfl) (hb hby at_65) (fun _ _ => ⟨rfl, rfl, (by decide : 5 + 0 ≤ _), (by decide : 2824 + 0 ≤ _)⟩)
      dsimp only [Pt.U, Pt.locs, Pt.cells, Pt.slots] at X11 l11 y11 z11 st11 hQ11
      subst l11 y11 z11
      obtain ⟨rfl, N11, e11⟩ := hQ11
      have Nf11 := Fr.app Nf10 N11
      refine Goes.via (S' := T11.setTop (mkF m 68 #[.val (.long p1), .second, .val (.long p2), .second, .val (.long p3), .second, .val (.long p4), .second, .val (.long (own_e p1)), .second, .val (.long (own_e p2)), .second, .val (.long (own_e p3)), .second, .val (.long (own_e p4)), .second, .val (.ref b1), .unset, .unset, .unset, .unset, .unset, .unset] [(.double (FP.dadd (FP.dmul (FP.l2d (own_tt (own_tt (0 : Int64) (((0 : Int64) + (own_e p1)) + (own_e p2)) (own_e p3)) ((((0 : Int64) + (own_e p1)) + (own_e p2)) + (own_e p3)) (own_e p4))) (4895412794951729152 : UInt64)) (FP.l2d (((((0 : Int64) + (own_e p1)) + (own_e p2)) + (own_e p3)) + (own_e p4)))))])) (fun _ kz => st11.trans kz) ?_
      refine Goes.via (S' := T11.setTop (mkF m 95 #[.val (.long p1), .second, .val (.long p2), .second, .val (.long p3), .second, .val (.long p4), .second, .val (.long (own_e p1)), .second, .val (.long (own_e p2)), .second, .val (.long (own_e p3)), .second, .val (.long (own_e p4)), .second, .val (.ref b1), .val (.double (FP.dadd (FP.dmul (FP.l2d (own_tt (own_tt (0 : Int64) (((0 : Int64) + (own_e p1)) + (own_e p2)) (own_e p3)) ((((0 : Int64) + (own_e p1)) + (own_e p2)) + (own_e p3)) (own_e p4))) (4895412794951729152 : UInt64)) (FP.l2d (((((0 : Int64) + (own_e p1)) + (own_e p2)) + (own_e p3)) + (own_e p4))))), .second, .val (.long (((((own_e p1) >>> ((11 : Int32) &&& 0x3f).toInt64) + ((own_e p2) >>> ((11 : Int32) &&& 0x3f).toInt64)) + ((own_e p3) >>> ((11 : Int32) &&& 0x3f).toInt64)) + ((own_e p4) >>> ((11 : Int32) &&& 0x3f).toInt64))), .second, .unset, .unset] [])) (fun tz kz => ?_) ?_
      · show Steps p.tables e below (T11.setTop (mkF m 68 #[.val (.long p1), .second, .val (.long p2), .second, .val (.long p3), .second, .val (.long p4), .second, .val (.long (own_e p1)), .second, .val (.long (own_e p2)), .second, .val (.long (own_e p3)), .second, .val (.long (own_e p4)), .second, .val (.ref b1), .unset, .unset, .unset, .unset, .unset, .unset] [(.double (FP.dadd (FP.dmul (FP.l2d (own_tt (own_tt (0 : Int64) (((0 : Int64) + (own_e p1)) + (own_e p2)) (own_e p3)) ((((0 : Int64) + (own_e p1)) + (own_e p2)) + (own_e p3)) (own_e p4))) (4895412794951729152 : UInt64)) (FP.l2d (((((0 : Int64) + (own_e p1)) + (own_e p2)) + (own_e p3)) + (own_e p4)))))])) _
        refine XS.dstore X11.here hx rfl (hb hby at_68) rfl (l' := #[.val (.long p1), .second, .val (.long p2), .second, .val (.long p3), .second, .val (.long p4), .second, .val (.long (own_e p1)), .second, .val (.long (own_e p2)), .second, .val (.long (own_e p3)), .second, .val (.long (own_e p4)), .second, .val (.ref b1), .val (.double (FP.dadd (FP.dmul (FP.l2d (own_tt (own_tt (0 : Int64) (((0 : Int64) + (own_e p1)) + (own_e p2)) (own_e p3)) ((((0 : Int64) + (own_e p1)) + (own_e p2)) + (own_e p3)) (own_e p4))) (4895412794951729152 : UInt64)) (FP.l2d (((((0 : Int64) + (own_e p1)) + (own_e p2)) + (own_e p3)) + (own_e p4))))), .second, .unset, .unset, .unset, .unset]) rfl ?_
        refine XS.lload X11.here hx rfl (hb hby at_70) rfl ?_
        refine XS.bipush X11.here hx rfl (hb hby at_72) ?_
        refine XS.lshr X11.here hx rfl (hb hby at_74) rfl ?_
        show Steps p.tables e below (T11.setTop (mkF m 75 #[.val (.long p1), .second, .val (.long p2), .second, .val (.long p3), .second, .val (.long p4), .second, .val (.long (own_e p1)), .second, .val (.long (own_e p2)), .second, .val (.long (own_e p3)), .second, .val (.long (own_e p4)), .second, .val (.ref b1), .val (.double (FP.dadd (FP.dmul (FP.l2d (own_tt (own_tt (0 : Int64) (((0 : Int64) + (own_e p1)) + (own_e p2)) (own_e p3)) ((((0 : Int64) + (own_e p1)) + (own_e p2)) + (own_e p3)) (own_e p4))) (4895412794951729152 : UInt64)) (FP.l2d (((((0 : Int64) + (own_e p1)) + (own_e p2)) + (own_e p3)) + (own_e p4))))), .second, .unset, .unset, .unset, .unset] [(.long ((own_e p1) >>> ((11 : Int32) &&& 0x3f).toInt64))])) _
        refine XS.lload X11.here hx rfl (hb hby at_75) rfl ?_
        refine XS.bipush X11.here hx rfl (hb hby at_77) ?_
        refine XS.lshr X11.here hx rfl (hb hby at_79) rfl ?_
        refine XS.ladd X11.here hx rfl (hb hby at_80) rfl ?_
        show Steps p.tables e below (T11.setTop (mkF m 81 #[.val (.long p1), .second, .val (.long p2), .second, .val (.long p3), .second, .val (.long p4), .second, .val (.long (own_e p1)), .second, .val (.long (own_e p2)), .second, .val (.long (own_e p3)), .second, .val (.long (own_e p4)), .second, .val (.ref b1), .val (.double (FP.dadd (FP.dmul (FP.l2d (own_tt (own_tt (0 : Int64) (((0 : Int64) + (own_e p1)) + (own_e p2)) (own_e p3)) ((((0 : Int64) + (own_e p1)) + (own_e p2)) + (own_e p3)) (own_e p4))) (4895412794951729152 : UInt64)) (FP.l2d (((((0 : Int64) + (own_e p1)) + (own_e p2)) + (own_e p3)) + (own_e p4))))), .second, .unset, .unset, .unset, .unset] [(.long (((own_e p1) >>> ((11 : Int32) &&& 0x3f).toInt64) + ((own_e p2) >>> ((11 : Int32) &&& 0x3f).toInt64)))])) _
        refine XS.lload X11.here hx rfl (hb hby at_81) rfl ?_
        refine XS.bipush X11.here hx rfl (hb hby at_83) ?_
        refine XS.lshr X11.here hx rfl (hb hby at_85) rfl ?_
        refine XS.ladd X11.here hx rfl (hb hby at_86) rfl ?_
        show Steps p.tables e below (T11.setTop (mkF m 87 #[.val (.long p1), .second, .val (.long p2), .second, .val (.long p3), .second, .val (.long p4), .second, .val (.long (own_e p1)), .second, .val (.long (own_e p2)), .second, .val (.long (own_e p3)), .second, .val (.long (own_e p4)), .second, .val (.ref b1), .val (.double (FP.dadd (FP.dmul (FP.l2d (own_tt (own_tt (0 : Int64) (((0 : Int64) + (own_e p1)) + (own_e p2)) (own_e p3)) ((((0 : Int64) + (own_e p1)) + (own_e p2)) + (own_e p3)) (own_e p4))) (4895412794951729152 : UInt64)) (FP.l2d (((((0 : Int64) + (own_e p1)) + (own_e p2)) + (own_e p3)) + (own_e p4))))), .second, .unset, .unset, .unset, .unset] [(.long ((((own_e p1) >>> ((11 : Int32) &&& 0x3f).toInt64) + ((own_e p2) >>> ((11 : Int32) &&& 0x3f).toInt64)) + ((own_e p3) >>> ((11 : Int32) &&& 0x3f).toInt64)))])) _
        refine XS.lload X11.here hx rfl (hb hby at_87) rfl ?_
        refine XS.bipush X11.here hx rfl (hb hby at_89) ?_
        refine XS.lshr X11.here hx rfl (hb hby at_91) rfl ?_
        refine XS.ladd X11.here hx rfl (hb hby at_92) rfl ?_
        show Steps p.tables e below (T11.setTop (mkF m 93 #[.val (.long p1), .second, .val (.long p2), .second, .val (.long p3), .second, .val (.long p4), .second, .val (.long (own_e p1)), .second, .val (.long (own_e p2)), .second, .val (.long (own_e p3)), .second, .val (.long (own_e p4)), .second, .val (.ref b1), .val (.double (FP.dadd (FP.dmul (FP.l2d (own_tt (own_tt (0 : Int64) (((0 : Int64) + (own_e p1)) + (own_e p2)) (own_e p3)) ((((0 : Int64) + (own_e p1)) + (own_e p2)) + (own_e p3)) (own_e p4))) (4895412794951729152 : UInt64)) (FP.l2d (((((0 : Int64) + (own_e p1)) + (own_e p2)) + (own_e p3)) + (own_e p4))))), .second, .unset, .unset, .unset, .unset] [(.long (((((own_e p1) >>> ((11 : Int32) &&& 0x3f).toInt64) + ((own_e p2) >>> ((11 : Int32) &&& 0x3f).toInt64)) + ((own_e p3) >>> ((11 : Int32) &&& 0x3f).toInt64)) + ((own_e p4) >>> ((11 : Int32) &&& 0x3f).toInt64)))])) _
        refine XS.lstore X11.here hx rfl (hb hby at_93) rfl (l' := #[.val (.long p1), .second, .val (.long p2), .second, .val (.long p3), .second, .val (.long p4), .second, .val (.long (own_e p1)), .second, .val (.long (own_e p2)), .second, .val (.long (own_e p3)), .second, .val (.long (own_e p4)), .second, .val (.ref b1), .val (.double (FP.dadd (FP.dmul (FP.l2d (own_tt (own_tt (0 : Int64) (((0 : Int64) + (own_e p1)) + (own_e p2)) (own_e p3)) ((((0 : Int64) + (own_e p1)) + (own_e p2)) + (own_e p3)) (own_e p4))) (4895412794951729152 : UInt64)) (FP.l2d (((((0 : Int64) + (own_e p1)) + (own_e p2)) + (own_e p3)) + (own_e p4))))), .second, .val (.long (((((own_e p1) >>> ((11 : Int32) &&& 0x3f).toInt64) + ((own_e p2) >>> ((11 : Int32) &&& 0x3f).toInt64)) + ((own_e p3) >>> ((11 : Int32) &&& 0x3f).toInt64)) + ((own_e p4) >>> ((11 : Int32) &&& 0x3f).toInt64))), .second, .unset, .unset]) rfl ?_
        exact kz
      show Goes p e below _ (T11.setTop (mkF m 95 #[.val (.long p1), .second, .val (.long p2), .second, .val (.long p3), .second, .val (.long p4), .second, .val (.long (own_e p1)), .second, .val (.long (own_e p2)), .second, .val (.long (own_e p3)), .second, .val (.long (own_e p4)), .second, .val (.ref b1), .val (.double (FP.dadd (FP.dmul (FP.l2d (own_tt (own_tt (0 : Int64) (((0 : Int64) + (own_e p1)) + (own_e p2)) (own_e p3)) ((((0 : Int64) + (own_e p1)) + (own_e p2)) + (own_e p3)) (own_e p4))) (4895412794951729152 : UInt64)) (FP.l2d (((((0 : Int64) + (own_e p1)) + (own_e p2)) + (own_e p3)) + (own_e p4))))), .second, .val (.long (own_k p1 p2 p3 p4)), .second, .unset, .unset] []))
      have kk := own_kk p1 p2 p3 p4
      refine Goes.via (S' := T11.setTop (mkF m 117 #[.val (.long p1), .second, .val (.long p2), .second, .val (.long p3), .second, .val (.long p4), .second, .val (.long (own_e p1)), .second, .val (.long (own_e p2)), .second, .val (.long (own_e p3)), .second, .val (.long (own_e p4)), .second, .val (.ref b1), .val (.double (FP.dadd (FP.dmul (FP.l2d (own_tt (own_tt (0 : Int64) (((0 : Int64) + (own_e p1)) + (own_e p2)) (own_e p3)) ((((0 : Int64) + (own_e p1)) + (own_e p2)) + (own_e p3)) (own_e p4))) (4895412794951729152 : UInt64)) (FP.l2d (((((0 : Int64) + (own_e p1)) + (own_e p2)) + (own_e p3)) + (own_e p4))))), .second, .val (.long (own_k p1 p2 p3 p4)), .second, .val (.double (FP.dmul (FP.l2d (own_k p1 p2 p3 p4)) (4656722014701092864 : UInt64))), .second] [(.int (1 : Int32))])) (fun tz kz => ?_) ?_
      · show Steps p.tables e below (T11.setTop (mkF m 95 #[.val (.long p1), .second, .val (.long p2), .second, .val (.long p3), .second, .val (.long p4), .second, .val (.long (own_e p1)), .second, .val (.long (own_e p2)), .second, .val (.long (own_e p3)), .second, .val (.long (own_e p4)), .second, .val (.ref b1), .val (.double (FP.dadd (FP.dmul (FP.l2d (own_tt (own_tt (0 : Int64) (((0 : Int64) + (own_e p1)) + (own_e p2)) (own_e p3)) ((((0 : Int64) + (own_e p1)) + (own_e p2)) + (own_e p3)) (own_e p4))) (4895412794951729152 : UInt64)) (FP.l2d (((((0 : Int64) + (own_e p1)) + (own_e p2)) + (own_e p3)) + (own_e p4))))), .second, .val (.long (own_k p1 p2 p3 p4)), .second, .unset, .unset] [])) _
        refine XS.lload X11.here hx rfl (hb hby at_95) rfl ?_
        refine XS.l2dS X11.here hx rfl (hb hby at_97) rfl (v := FP.l2d (own_k p1 p2 p3 p4)) rfl ?_
        refine X11.ldc2DoubleC hx hown (mvT hZ (w_ hw 32 rfl)) (g := (mkF m 98 #[.val (.long p1), .second, .val (.long p2), .second, .val (.long p3), .second, .val (.long p4), .second, .val (.long (own_e p1)), .second, .val (.long (own_e p2)), .second, .val (.long (own_e p3)), .second, .val (.long (own_e p4)), .second, .val (.ref b1), .val (.double (FP.dadd (FP.dmul (FP.l2d (own_tt (own_tt (0 : Int64) (((0 : Int64) + (own_e p1)) + (own_e p2)) (own_e p3)) ((((0 : Int64) + (own_e p1)) + (own_e p2)) + (own_e p3)) (own_e p4))) (4895412794951729152 : UInt64)) (FP.l2d (((((0 : Int64) + (own_e p1)) + (own_e p2)) + (own_e p3)) + (own_e p4))))), .second, .val (.long (own_k p1 p2 p3 p4)), .second, .unset, .unset] [(.double (FP.l2d (own_k p1 p2 p3 p4)))])) rfl (hb hby at_98) _ ?_
        refine XS.dmulS X11.here hx rfl (hb hby at_101) rfl (own_want kk.2.1 kk.2.2).1 (v := (FP.dmul (FP.l2d (own_k p1 p2 p3 p4)) (4656722014701092864 : UInt64))) rfl ?_
        show Steps p.tables e below (T11.setTop (mkF m 102 #[.val (.long p1), .second, .val (.long p2), .second, .val (.long p3), .second, .val (.long p4), .second, .val (.long (own_e p1)), .second, .val (.long (own_e p2)), .second, .val (.long (own_e p3)), .second, .val (.long (own_e p4)), .second, .val (.ref b1), .val (.double (FP.dadd (FP.dmul (FP.l2d (own_tt (own_tt (0 : Int64) (((0 : Int64) + (own_e p1)) + (own_e p2)) (own_e p3)) ((((0 : Int64) + (own_e p1)) + (own_e p2)) + (own_e p3)) (own_e p4))) (4895412794951729152 : UInt64)) (FP.l2d (((((0 : Int64) + (own_e p1)) + (own_e p2)) + (own_e p3)) + (own_e p4))))), .second, .val (.long (own_k p1 p2 p3 p4)), .second, .unset, .unset] [(.double (FP.dmul (FP.l2d (own_k p1 p2 p3 p4)) (4656722014701092864 : UInt64)))])) _
        refine XS.dstore X11.here hx rfl (hb hby at_102) rfl (l' := #[.val (.long p1), .second, .val (.long p2), .second, .val (.long p3), .second, .val (.long p4), .second, .val (.long (own_e p1)), .second, .val (.long (own_e p2)), .second, .val (.long (own_e p3)), .second, .val (.long (own_e p4)), .second, .val (.ref b1), .val (.double (FP.dadd (FP.dmul (FP.l2d (own_tt (own_tt (0 : Int64) (((0 : Int64) + (own_e p1)) + (own_e p2)) (own_e p3)) ((((0 : Int64) + (own_e p1)) + (own_e p2)) + (own_e p3)) (own_e p4))) (4895412794951729152 : UInt64)) (FP.l2d (((((0 : Int64) + (own_e p1)) + (own_e p2)) + (own_e p3)) + (own_e p4))))), .second, .val (.long (own_k p1 p2 p3 p4)), .second, .val (.double (FP.dmul (FP.l2d (own_k p1 p2 p3 p4)) (4656722014701092864 : UInt64))), .second]) rfl ?_
        refine XS.dload X11.here hx rfl (hb hby at_104) rfl ?_
        refine XS.dload X11.here hx rfl (hb hby at_106) rfl ?_
        refine XS.dcmpS X11.here hx rfl (hb hby at_108) rfl (v := (cmpValue (FP.dcmp (FP.dadd (FP.dmul (FP.l2d (own_tt (own_tt (0 : Int64) (((0 : Int64) + (own_e p1)) + (own_e p2)) (own_e p3)) ((((0 : Int64) + (own_e p1)) + (own_e p2)) + (own_e p3)) (own_e p4))) (4895412794951729152 : UInt64)) (FP.l2d (((((0 : Int64) + (own_e p1)) + (own_e p2)) + (own_e p3)) + (own_e p4)))) (FP.dmul (FP.l2d (own_k p1 p2 p3 p4)) (4656722014701092864 : UInt64))) .l)) rfl ?_
        show Steps p.tables e below (T11.setTop (mkF m 109 #[.val (.long p1), .second, .val (.long p2), .second, .val (.long p3), .second, .val (.long p4), .second, .val (.long (own_e p1)), .second, .val (.long (own_e p2)), .second, .val (.long (own_e p3)), .second, .val (.long (own_e p4)), .second, .val (.ref b1), .val (.double (FP.dadd (FP.dmul (FP.l2d (own_tt (own_tt (0 : Int64) (((0 : Int64) + (own_e p1)) + (own_e p2)) (own_e p3)) ((((0 : Int64) + (own_e p1)) + (own_e p2)) + (own_e p3)) (own_e p4))) (4895412794951729152 : UInt64)) (FP.l2d (((((0 : Int64) + (own_e p1)) + (own_e p2)) + (own_e p3)) + (own_e p4))))), .second, .val (.long (own_k p1 p2 p3 p4)), .second, .val (.double (FP.dmul (FP.l2d (own_k p1 p2 p3 p4)) (4656722014701092864 : UInt64))), .second] [(.int (cmpValue (FP.dcmp (FP.dadd (FP.dmul (FP.l2d (own_tt (own_tt (0 : Int64) (((0 : Int64) + (own_e p1)) + (own_e p2)) (own_e p3)) ((((0 : Int64) + (own_e p1)) + (own_e p2)) + (own_e p3)) (own_e p4))) (4895412794951729152 : UInt64)) (FP.l2d (((((0 : Int64) + (own_e p1)) + (own_e p2)) + (own_e p3)) + (own_e p4)))) (FP.dmul (FP.l2d (own_k p1 p2 p3 p4)) (4656722014701092864 : UInt64))) .l))])) _
        refine XS.ifNo X11.here hx rfl (hb hby at_109) rfl ((if0 _ _).trans (teq (own_same jj.2.1 jj.2.2.1 jj.2.2.2 kk.2.1 kk.2.2 (jj.1.trans (by omega)) .l)).2) ?_
        refine XS.iconst X11.here hx rfl (hb hby at_112) ?_
        refine XS.goto X11.here hx rfl (pc0 := 113) (pc' := 117) rfl (hb hby at_113) (by decide) (by decide) ?_
        exact kz
      exact Goes.retNW (s := s) (vm1 := T9.vm) X11 hx Bd.notSynchronized hS9 (by rw [e11]; exact (Nat.le_trans (Nat.le_refl _) K10.1)) (t := .boolean) Bd.returns (by simp) (hb hby at_117) (Nat.le_of_ble_eq_true rfl) (Nat.le_of_ble_eq_true rfl) ⟨rfl, Nf11⟩
    · obtain ⟨cq12, kq12, q12a, q12b, q12c⟩ := isOf hZ rfl E8_
      obtain ⟨_, _, ⟨T12, L12, k12, n12⟩, -, X12, ⟨Lc12, hQ12, l12, y12, z12⟩, st12⟩ := X8.virtualBack hx (y := (⟨"lambdary/statistics/IntegralSum", "accept", "(J)V"⟩ : MethodName)) (z := (⟨"lambdary/statistics/IntegralSum", "accept", "(J)V"⟩ : MethodName)) hown (mvT hZ (w_ hw 11 rfl)) (mvT hZ (w_ hw 12 rfl)) (notFace_of_selects (args := #[]) (mvT hZ (w_ hw 14 rfl))) (mvT hZ (w_ hw 14 rfl)) (mvT hZ (w_ hw 13 rfl)) (by decide) (backOfWith (W := 0) (rac l Z a0 hw [] b1 (own_e p3) (((0 : Int64) + (own_e p1)) + (own_e p2)) (0 : Int64) (0 : Int32) (1 : Int32) T8.heap n0 Z_8 E8_ Fa8 Fb8 Fc8 Fd8 g1 ho2) hZ (w_ hw 15 rfl) (w_ hw 2 rfl) (by decide) (by decide)) q12a q12c (g := (mkF m 53 #[.val (.long p1), .second, .val (.long p2), .second, .val (.long p3), .second, .val (.long p4), .second, .val (.long (own_e p1)), .second, .val (.long (own_e p2)), .second, .val (.long (own_e p3)), .second, .val (.long (own_e p4)), .second, .val (.ref b1), .unset, .unset, .unset, .unset, .unset, .unset] [(.long (own_e p3)), (.ref b1)])) rfl (by rw [hml]; rfl) (Steps.refl _) (argsL := [(.long (own_e p3))]) (rest := []) (lenOf pd_2 rfl) rfl (by show 2 * 0 + _ ≤ _; exact Nat.le_of_eq rfl) (hb hby at_53) (fun _ _ => ⟨rfl, rfl, (by decide : 1 + 0 ≤ _), (by decide : 4 + 0 ≤ _)⟩)
      dsimp only [Pt.U, Pt.locs, Pt.cells, Pt.slots] at X12 l12 y12 z12 st12 hQ12
      subst l12 y12 z12
      obtain ⟨rfl, N12, K12, E12_, Fa12, Fb12, Fc12, Fd12⟩ := hQ12
      have Nf12 := Fr.app Nf8 N12
      refine Goes.via (S' := T12.setTop (mkF m 56 #[.val (.long p1), .second, .val (.long p2), .second, .val (.long p3), .second, .val (.long p4), .second, .val (.long (own_e p1)), .second, .val (.long (own_e p2)), .second, .val (.long (own_e p3)), .second, .val (.long (own_e p4)), .second, .val (.ref b1), .unset, .unset, .unset, .unset, .unset, .unset] [])) (fun _ kz => st12.trans kz) ?_
      have Z_12 := Nat.le_trans Z_8 K12.1
      have O_12 := O_8.keep K12 (allS g1 all0)
      have J_12 := own_Ja J_8 (own_e8 p3) ho2
      refine Goes.via (S' := T12.setTop (mkF m 60 #[.val (.long p1), .second, .val (.long p2), .second, .val (.long p3), .second, .val (.long p4), .second, .val (.long (own_e p1)), .second, .val (.long (own_e p2)), .second, .val (.long (own_e p3)), .second, .val (.long (own_e p4)), .second, .val (.ref b1), .unset, .unset, .unset, .unset, .unset, .unset] [(.long (own_e p4)), (.ref b1)])) (fun tz kz => ?_) ?_
      · show Steps p.tables e below (T12.setTop (mkF m 56 #[.val (.long p1), .second, .val (.long p2), .second, .val (.long p3), .second, .val (.long p4), .second, .val (.long (own_e p1)), .second, .val (.long (own_e p2)), .second, .val (.long (own_e p3)), .second, .val (.long (own_e p4)), .second, .val (.ref b1), .unset, .unset, .unset, .unset, .unset, .unset] [])) _
        refine XS.aload X12.here hx rfl (hb hby at_56) rfl rfl ?_
        refine XS.lload X12.here hx rfl (hb hby at_58) rfl ?_
        exact kz
      by_cases ho3 : ((((((0 : Int64) + (own_e p1)) + (own_e p2)) + (own_e p3)) ^^^ (((((0 : Int64) + (own_e p1)) + (own_e p2)) + (own_e p3)) + (own_e p4))) &&& ((own_e p4) ^^^ (((((0 : Int64) + (own_e p1)) + (own_e p2)) + (own_e p3)) + (own_e p4)))) < (0 : Int64)
      · obtain ⟨cq13, kq13, q13a, q13b, q13c⟩ := isOf hZ rfl E12_
        obtain ⟨_, _, ⟨T13, L13, k13, n13⟩, -, X13, hs13, gs13, ⟨Lc13, hQ13, l13, y13, z13⟩, st13⟩ := Stand.virtualBackS (show Stand p l e _ (s.setVm s.vm) m _ below meth c _ _ _ _ from X12) hx (y := (⟨"lambdary/statistics/IntegralSum", "accept", "(J)V"⟩ : MethodName)) (z := (⟨"lambdary/statistics/IntegralSum", "accept", "(J)V"⟩ : MethodName)) hown (mvT hZ (w_ hw 11 rfl)) (mvT hZ (w_ hw 12 rfl)) (notFace_of_selects (args := #[]) (mvT hZ (w_ hw 14 rfl))) (mvT hZ (w_ hw 14 rfl)) (mvT hZ (w_ hw 13 rfl)) (by decide) (own_backW (W := 0) (rac_t l Z a0 hw [] b1 (own_e p4) ((((0 : Int64) + (own_e p1)) + (own_e p2)) + (own_e p3)) (0 : Int64) (0 : Int32) (1 : Int32) us ss T12.heap n0 Z_12 E12_ Fa12 Fb12 Fc12 Fd12 g1 ho3 SU hus SQ hss hl O_12) hZ (w_ hw 15 rfl) (w_ hw 2 rfl) (by decide) (by decide) hK.1 hK.2) q13a q13c (g := (mkF m 60 #[.val (.long p1), .second, .val (.long p2), .second, .val (.long p3), .second, .val (.long p4), .second, .val (.long (own_e p1)), .second, .val (.long (own_e p2)), .second, .val (.long (own_e p3)), .second, .val (.long (own_e p4)), .second, .val (.ref b1), .unset, .unset, .unset, .unset, .unset, .unset] [(.long (own_e p4)), (.ref b1)])) rfl (by rw [hml]; rfl) (Steps.refl _) (argsL := [(.long (own_e p4))]) (rest := []) (lenOf pd_2 rfl) rfl (by show 2 * 0 + _ ≤ _; exact Nat.le_of_eq rfl) (hb hby at_60) (fun _ _ => ⟨rfl, rfl, (by decide : 1 + 4 ≤ _), (by decide : 4 + 2820 ≤ _)⟩)
        dsimp only [Pt.U, Pt.locs, Pt.cells, Pt.slots] at X13 l13 y13 z13 st13 hQ13 hs13 gs13
        subst l13 y13 z13
        obtain ⟨rfl, N13, K13, E13_, Fa13, Fb13, Fc13, Fd13⟩ := hQ13
        skip
        have hS13 : s.Since T13.vm T13.heap.size := own_fold ((State.WarmedH.refl s).since 0) (Nat.zero_le _) hs13 gs13
        have hK : (s.setVm T13.vm).vm.MethodsKnown ∧ (s.setVm T13.vm).vm.FramesKnown below := ⟨Vm.MethodsKnown.alikeC hs13.1.alike hK.1, Vm.FramesKnown.alikeC hs13.1.alike hK.2⟩
        have hZ : Z.Warmed39 (s.setVm T13.vm).vm := State.Warmed39.trans (t := s.setVm s.vm) hZ hs13.1
        have hown : (s.setVm T13.vm).vm.findClass "lambdary/statistics/IntegralSumSumAsDoublePinLaw" = some m.cls := by rw [show (s.setVm T13.vm).vm = T13.vm from rfl, hs13.1.alike.findClass]; exact hown
        have Nf13 := Fr.app Nf12 N13
        refine Goes.via (S' := T13.setTop (mkF m 63 #[.val (.long p1), .second, .val (.long p2), .second, .val (.long p3), .second, .val (.long p4), .second, .val (.long (own_e p1)), .second, .val (.long (own_e p2)), .second, .val (.long (own_e p3)), .second, .val (.long (own_e p4)), .second, .val (.ref b1), .unset, .unset, .unset, .unset, .unset, .unset] [])) (fun _ kz => st13.trans kz) ?_
        have Z_13 := Nat.le_trans Z_12 K13.1
        have O_13 := O_12.keep K13 (allS g1 all0)
        have J_13 := own_Jt J_12 (by decide) (own_e8 p4)
        have jj : own_J (((((0 : Int64) + (own_e p1)) + (own_e p2)) + (own_e p3)) + (own_e p4)) (own_tt (0 : Int64) ((((0 : Int64) + (own_e p1)) + (own_e p2)) + (own_e p3)) (own_e p4)) _ 4 := J_13
        refine Goes.via (S' := T13.setTop (mkF m 65 #[.val (.long p1), .second, .val (.long p2), .second, .val (.long p3), .second, .val (.long p4), .second, .val (.long (own_e p1)), .second, .val (.long (own_e p2)), .second, .val (.long (own_e p3)), .second, .val (.long (own_e p4)), .second, .val (.ref b1), .unset, .unset, .unset, .unset, .unset, .unset] [(.ref b1)])) (fun tz kz => ?_) ?_
        · show Steps p.tables e below (T13.setTop (mkF m 63 #[.val (.long p1), .second, .val (.long p2), .second, .val (.long p3), .second, .val (.long p4), .second, .val (.long (own_e p1)), .second, .val (.long (own_e p2)), .second, .val (.long (own_e p3)), .second, .val (.long (own_e p4)), .second, .val (.ref b1), .unset, .unset, .unset, .unset, .unset, .unset] [])) _
          refine XS.aload X13.here hx rfl (hb hby at_63) rfl rfl ?_
          exact kz
        obtain ⟨cq14, kq14, q14a, q14b, q14c⟩ := isOf hZ rfl E13_
        obtain ⟨_, _, ⟨T14, L14, k14, n14⟩, -, X14, ⟨Lc14, hQ14, l14, y14, z14⟩, st14⟩ := X13.virtualBack hx (y := (⟨"lambdary/statistics/IntegralSum", "sumAsDouble", "()D"⟩ : MethodName)) (z := (⟨"lambdary/statistics/IntegralSum", "sumAsDouble", "()D"⟩ : MethodName)) hown (mvT hZ (w_ hw 24 rfl)) (mvT hZ (w_ hw 25 rfl)) (notFace_of_selects (args := #[]) (mvT hZ (w_ hw 27 rfl))) (mvT hZ (w_ hw 27 rfl)) (mvT hZ (w_ hw 26 rfl)) (by decide) (backOf (W := 0) (rsd l Z a0 hw [] b1 (((((0 : Int64) + (own_e p1)) + (own_e p2)) + (own_e p3)) + (own_e p4)) (own_tt (0 : Int64) ((((0 : Int64) + (own_e p1)) + (own_e p2)) + (own_e p3)) (own_e p4)) (1 : Int32) (1 : Int32) T13.heap n0 Z_13 E13_ Fa13 Fb13 Fc13 Fd13 g1 jj.2.1 jj.2.2.1 jj.2.2.2) hZ (w_ hw 28 rfl) (w_ hw 2 rfl) (by decide) (by decide)) q14a q14c (g := (mkF m 65 #[.val (.long p1), .second, .val (.long p2), .second, .val (.long p3), .second, .val (.long p4), .second, .val (.long (own_e p1)), .second, .val (.long (own_e p2)), .second, .val (.long (own_e p3)), .second, .val (.long (own_e p4)), .second, .val (.ref b1), .unset, .unset, .unset, .unset, .unset, .unset] [(.ref b1)])) rfl (by rw [hml]; rfl) (Steps.refl _) (argsL := []) (rest := []) (lenOf pd_4 rfl) rfl (by show 2 * 0 + _ ≤ _; exact Nat.le_of_eq rfl) (hb hby at_65) (fun _ _ => ⟨rfl, rfl, (by decide : 5 + 0 ≤ _), (by decide : 2824 + 0 ≤ _)⟩)
        dsimp only [Pt.U, Pt.locs, Pt.cells, Pt.slots] at X14 l14 y14 z14 st14 hQ14
        subst l14 y14 z14
        obtain ⟨rfl, N14, e14⟩ := hQ14
        have Nf14 := Fr.app Nf13 N14
        refine Goes.via (S' := T14.setTop (mkF m 68 #[.val (.long p1), .second, .val (.long p2), .second, .val (.long p3), .second, .val (.long p4), .second, .val (.long (own_e p1)), .second, .val (.long (own_e p2)), .second, .val (.long (own_e p3)), .second, .val (.long (own_e p4)), .second, .val (.ref b1), .unset, .unset, .unset, .unset, .unset, .unset] [(.double (FP.dadd (FP.dmul (FP.l2d (own_tt (0 : Int64) ((((0 : Int64) + (own_e p1)) + (own_e p2)) + (own_e p3)) (own_e p4))) (4895412794951729152 : UInt64)) (FP.l2d (((((0 : Int64) + (own_e p1)) + (own_e p2)) + (own_e p3)) + (own_e p4)))))])) (fun _ kz => st14.trans kz) ?_
        refine Goes.via (S' := T14.setTop (mkF m 95 #[.val (.long p1), .second, .val (.long p2), .second, .val (.long p3), .second, .val (.long p4), .second, .val (.long (own_e p1)), .second, .val (.long (own_e p2)), .second, .val (.long (own_e p3)), .second, .val (.long (own_e p4)), .second, .val (.ref b1), .val (.double (FP.dadd (FP.dmul (FP.l2d (own_tt (0 : Int64) ((((0 : Int64) + (own_e p1)) + (own_e p2)) + (own_e p3)) (own_e p4))) (4895412794951729152 : UInt64)) (FP.l2d (((((0 : Int64) + (own_e p1)) + (own_e p2)) + (own_e p3)) + (own_e p4))))), .second, .val (.long (((((own_e p1) >>> ((11 : Int32) &&& 0x3f).toInt64) + ((own_e p2) >>> ((11 : Int32) &&& 0x3f).toInt64)) + ((own_e p3) >>> ((11 : Int32) &&& 0x3f).toInt64)) + ((own_e p4) >>> ((11 : Int32) &&& 0x3f).toInt64))), .second, .unset, .unset] [])) (fun tz kz => ?_) ?_
        · show Steps p.tables e below (T14.setTop (mkF m 68 #[.val (.long p1), .second, .val (.long p2), .second, .val (.long p3), .second, .val (.long p4), .second, .val (.long (own_e p1)), .second, .val (.long (own_e p2)), .second, .val (.long (own_e p3)), .second, .val (.long (own_e p4)), .second, .val (.ref b1), .unset, .unset, .unset, .unset, .unset, .unset] [(.double (FP.dadd (FP.dmul (FP.l2d (own_tt (0 : Int64) ((((0 : Int64) + (own_e p1)) + (own_e p2)) + (own_e p3)) (own_e p4))) (4895412794951729152 : UInt64)) (FP.l2d (((((0 : Int64) + (own_e p1)) + (own_e p2)) + (own_e p3)) + (own_e p4)))))])) _
          refine XS.dstore X14.here hx rfl (hb hby at_68) rfl (l' := #[.val (.long p1), .second, .val (.long p2), .second, .val (.long p3), .second, .val (.long p4), .second, .val (.long (own_e p1)), .second, .val (.long (own_e p2)), .second, .val (.long (own_e p3)), .second, .val (.long (own_e p4)), .second, .val (.ref b1), .val (.double (FP.dadd (FP.dmul (FP.l2d (own_tt (0 : Int64) ((((0 : Int64) + (own_e p1)) + (own_e p2)) + (own_e p3)) (own_e p4))) (4895412794951729152 : UInt64)) (FP.l2d (((((0 : Int64) + (own_e p1)) + (own_e p2)) + (own_e p3)) + (own_e p4))))), .second, .unset, .unset, .unset, .unset]) rfl ?_
          refine XS.lload X14.here hx rfl (hb hby at_70) rfl ?_
          refine XS.bipush X14.here hx rfl (hb hby at_72) ?_
          refine XS.lshr X14.here hx rfl (hb hby at_74) rfl ?_
          show Steps p.tables e below (T14.setTop (mkF m 75 #[.val (.long p1), .second, .val (.long p2), .second, .val (.long p3), .second, .val (.long p4), .second, .val (.long (own_e p1)), .second, .val (.long (own_e p2)), .second, .val (.long (own_e p3)), .second, .val (.long (own_e p4)), .second, .val (.ref b1), .val (.double (FP.dadd (FP.dmul (FP.l2d (own_tt (0 : Int64) ((((0 : Int64) + (own_e p1)) + (own_e p2)) + (own_e p3)) (own_e p4))) (4895412794951729152 : UInt64)) (FP.l2d (((((0 : Int64) + (own_e p1)) + (own_e p2)) + (own_e p3)) + (own_e p4))))), .second, .unset, .unset, .unset, .unset] [(.long ((own_e p1) >>> ((11 : Int32) &&& 0x3f).toInt64))])) _
          refine XS.lload X14.here hx rfl (hb hby at_75) rfl ?_
          refine XS.bipush X14.here hx rfl (hb hby at_77) ?_
          refine XS.lshr X14.here hx rfl (hb hby at_79) rfl ?_
          refine XS.ladd X14.here hx rfl (hb hby at_80) rfl ?_
          show Steps p.tables e below (T14.setTop (mkF m 81 #[.val (.long p1), .second, .val (.long p2), .second, .val (.long p3), .second, .val (.long p4), .second, .val (.long (own_e p1)), .second, .val (.long (own_e p2)), .second, .val (.long (own_e p3)), .second, .val (.long (own_e p4)), .second, .val (.ref b1), .val (.double (FP.dadd (FP.dmul (FP.l2d (own_tt (0 : Int64) ((((0 : Int64) + (own_e p1)) + (own_e p2)) + (own_e p3)) (own_e p4))) (4895412794951729152 : UInt64)) (FP.l2d (((((0 : Int64) + (own_e p1)) + (own_e p2)) + (own_e p3)) + (own_e p4))))), .second, .unset, .unset, .unset, .unset] [(.long (((own_e p1) >>> ((11 : Int32) &&& 0x3f).toInt64) + ((own_e p2) >>> ((11 : Int32) &&& 0x3f).toInt64)))])) _
          refine XS.lload X14.here hx rfl (hb hby at_81) rfl ?_
          refine XS.bipush X14.here hx rfl (hb hby at_83) ?_
          refine XS.lshr X14.here hx rfl (hb hby at_85) rfl ?_
          refine XS.ladd X14.here hx rfl (hb hby at_86) rfl ?_
          show Steps p.tables e below (T14.setTop (mkF m 87 #[.val (.long p1), .second, .val (.long p2), .second, .val (.long p3), .second, .val (.long p4), .second, .val (.long (own_e p1)), .second, .val (.long (own_e p2)), .second, .val (.long (own_e p3)), .second, .val (.long (own_e p4)), .second, .val (.ref b1), .val (.double (FP.dadd (FP.dmul (FP.l2d (own_tt (0 : Int64) ((((0 : Int64) + (own_e p1)) + (own_e p2)) + (own_e p3)) (own_e p4))) (4895412794951729152 : UInt64)) (FP.l2d (((((0 : Int64) + (own_e p1)) + (own_e p2)) + (own_e p3)) + (own_e p4))))), .second, .unset, .unset, .unset, .unset] [(.long ((((own_e p1) >>> ((11 : Int32) &&& 0x3f).toInt64) + ((own_e p2) >>> ((11 : Int32) &&& 0x3f).toInt64)) + ((own_e p3) >>> ((11 : Int32) &&& 0x3f).toInt64)))])) _
          refine XS.lload X14.here hx rfl (hb hby at_87) rfl ?_
          refine XS.bipush X14.here hx rfl (hb hby at_89) ?_
          refine XS.lshr X14.here hx rfl (hb hby at_91) rfl ?_
          refine XS.ladd X14.here hx rfl (hb hby at_92) rfl ?_
          show Steps p.tables e below (T14.setTop (mkF m 93 #[.val (.long p1), .second, .val (.long p2), .second, .val (.long p3), .second, .val (.long p4), .second, .val (.long (own_e p1)), .second, .val (.long (own_e p2)), .second, .val (.long (own_e p3)), .second, .val (.long (own_e p4)), .second, .val (.ref b1), .val (.double (FP.dadd (FP.dmul (FP.l2d (own_tt (0 : Int64) ((((0 : Int64) + (own_e p1)) + (own_e p2)) + (own_e p3)) (own_e p4))) (4895412794951729152 : UInt64)) (FP.l2d (((((0 : Int64) + (own_e p1)) + (own_e p2)) + (own_e p3)) + (own_e p4))))), .second, .unset, .unset, .unset, .unset] [(.long (((((own_e p1) >>> ((11 : Int32) &&& 0x3f).toInt64) + ((own_e p2) >>> ((11 : Int32) &&& 0x3f).toInt64)) + ((own_e p3) >>> ((11 : Int32) &&& 0x3f).toInt64)) + ((own_e p4) >>> ((11 : Int32) &&& 0x3f).toInt64)))])) _
          refine XS.lstore X14.here hx rfl (hb hby at_93) rfl (l' := #[.val (.long p1), .second, .val (.long p2), .second, .val (.long p3), .second, .val (.long p4), .second, .val (.long (own_e p1)), .second, .val (.long (own_e p2)), .second, .val (.long (own_e p3)), .second, .val (.long (own_e p4)), .second, .val (.ref b1), .val (.double (FP.dadd (FP.dmul (FP.l2d (own_tt (0 : Int64) ((((0 : Int64) + (own_e p1)) + (own_e p2)) + (own_e p3)) (own_e p4))) (4895412794951729152 : UInt64)) (FP.l2d (((((0 : Int64) + (own_e p1)) + (own_e p2)) + (own_e p3)) + (own_e p4))))), .second, .val (.long (((((own_e p1) >>> ((11 : Int32) &&& 0x3f).toInt64) + ((own_e p2) >>> ((11 : Int32) &&& 0x3f).toInt64)) + ((own_e p3) >>> ((11 : Int32) &&& 0x3f).toInt64)) + ((own_e p4) >>> ((11 : Int32) &&& 0x3f).toInt64))), .second, .unset, .unset]) rfl ?_
          exact kz
        show Goes p e below _ (T14.setTop (mkF m 95 #[.val (.long p1), .second, .val (.long p2), .second, .val (.long p3), .second, .val (.long p4), .second, .val (.long (own_e p1)), .second, .val (.long (own_e p2)), .second, .val (.long (own_e p3)), .second, .val (.long (own_e p4)), .second, .val (.ref b1), .val (.double (FP.dadd (FP.dmul (FP.l2d (own_tt (0 : Int64) ((((0 : Int64) + (own_e p1)) + (own_e p2)) + (own_e p3)) (own_e p4))) (4895412794951729152 : UInt64)) (FP.l2d (((((0 : Int64) + (own_e p1)) + (own_e p2)) + (own_e p3)) + (own_e p4))))), .second, .val (.long (own_k p1 p2 p3 p4)), .second, .unset, .unset] []))
        have kk := own_kk p1 p2 p3 p4
        refine Goes.via (S' := T14.setTop (mkF m 117 #[.val (.long p1), .second, .val (.long p2), .second, .val (.long p3), .second, .val (.long p4), .second, .val (.long (own_e p1)), .second, .val (.long (own_e p2)), .second, .val (.long (own_e p3)), .second, .val (.long (own_e p4)), .second, .val (.ref b1), .val (.double (FP.dadd (FP.dmul (FP.l2d (own_tt (0 : Int64) ((((0 : Int64) + (own_e p1)) + (own_e p2)) + (own_e p3)) (own_e p4))) (4895412794951729152 : UInt64)) (FP.l2d (((((0 : Int64) + (own_e p1)) + (own_e p2)) + (own_e p3)) + (own_e p4))))), .second, .val (.long (own_k p1 p2 p3 p4)), .second, .val (.double (FP.dmul (FP.l2d (own_k p1 p2 p3 p4)) (4656722014701092864 : UInt64))), .second] [(.int (1 : Int32))])) (fun tz kz => ?_) ?_
        · show Steps p.tables e below (T14.setTop (mkF m 95 #[.val (.long p1), .second, .val (.long p2), .second, .val (.long p3), .second, .val (.long p4), .second, .val (.long (own_e p1)), .second, .val (.long (own_e p2)), .second, .val (.long (own_e p3)), .second, .val (.long (own_e p4)), .second, .val (.ref b1), .val (.double (FP.dadd (FP.dmul (FP.l2d (own_tt (0 : Int64) ((((0 : Int64) + (own_e p1)) + (own_e p2)) + (own_e p3)) (own_e p4))) (4895412794951729152 : UInt64)) (FP.l2d (((((0 : Int64) + (own_e p1)) + (own_e p2)) + (own_e p3)) + (own_e p4))))), .second, .val (.long (own_k p1 p2 p3 p4)), .second, .unset, .unset] [])) _
          refine XS.lload X14.here hx rfl (hb hby at_95) rfl ?_
          refine XS.l2dS X14.here hx rfl (hb hby at_97) rfl (v := FP.l2d (own_k p1 p2 p3 p4)) rfl ?_
          refine X14.ldc2DoubleC hx hown (mvT hZ (w_ hw 32 rfl)) (g := (mkF m 98 #[.val (.long p1), .second, .val (.long p2), .second, .val (.long p3), .second, .val (.long p4), .second, .val (.long (own_e p1)), .second, .val (.long (own_e p2)), .second, .val (.long (own_e p3)), .second, .val (.long (own_e p4)), .second, .val (.ref b1), .val (.double (FP.dadd (FP.dmul (FP.l2d (own_tt (0 : Int64) ((((0 : Int64) + (own_e p1)) + (own_e p2)) + (own_e p3)) (own_e p4))) (4895412794951729152 : UInt64)) (FP.l2d (((((0 : Int64) + (own_e p1)) + (own_e p2)) + (own_e p3)) + (own_e p4))))), .second, .val (.long (own_k p1 p2 p3 p4)), .second, .unset, .unset] [(.double (FP.l2d (own_k p1 p2 p3 p4)))])) rfl (hb hby at_98) _ ?_
          refine XS.dmulS X14.here hx rfl (hb hby at_101) rfl (own_want kk.2.1 kk.2.2).1 (v := (FP.dmul (FP.l2d (own_k p1 p2 p3 p4)) (4656722014701092864 : UInt64))) rfl ?_
          show Steps p.tables e below (T14.setTop (mkF m 102 #[.val (.long p1), .second, .val (.long p2), .second, .val (.long p3), .second, .val (.long p4), .second, .val (.long (own_e p1)), .second, .val (.long (own_e p2)), .second, .val (.long (own_e p3)), .second, .val (.long (own_e p4)), .second, .val (.ref b1), .val (.double (FP.dadd (FP.dmul (FP.l2d (own_tt (0 : Int64) ((((0 : Int64) + (own_e p1)) + (own_e p2)) + (own_e p3)) (own_e p4))) (4895412794951729152 : UInt64)) (FP.l2d (((((0 : Int64) + (own_e p1)) + (own_e p2)) + (own_e p3)) + (own_e p4))))), .second, .val (.long (own_k p1 p2 p3 p4)), .second, .unset, .unset] [(.double (FP.dmul (FP.l2d (own_k p1 p2 p3 p4)) (4656722014701092864 : UInt64)))])) _
          refine XS.dstore X14.here hx rfl (hb hby at_102) rfl (l' := #[.val (.long p1), .second, .val (.long p2), .second, .val (.long p3), .second, .val (.long p4), .second, .val (.long (own_e p1)), .second, .val (.long (own_e p2)), .second, .val (.long (own_e p3)), .second, .val (.long (own_e p4)), .second, .val (.ref b1), .val (.double (FP.dadd (FP.dmul (FP.l2d (own_tt (0 : Int64) ((((0 : Int64) + (own_e p1)) + (own_e p2)) + (own_e p3)) (own_e p4))) (4895412794951729152 : UInt64)) (FP.l2d (((((0 : Int64) + (own_e p1)) + (own_e p2)) + (own_e p3)) + (own_e p4))))), .second, .val (.long (own_k p1 p2 p3 p4)), .second, .val (.double (FP.dmul (FP.l2d (own_k p1 p2 p3 p4)) (4656722014701092864 : UInt64))), .second]) rfl ?_
          refine XS.dload X14.here hx rfl (hb hby at_104) rfl ?_
          refine XS.dload X14.here hx rfl (hb hby at_106) rfl ?_
          refine XS.dcmpS X14.here hx rfl (hb hby at_108) rfl (v := (cmpValue (FP.dcmp (FP.dadd (FP.dmul (FP.l2d (own_tt (0 : Int64) ((((0 : Int64) + (own_e p1)) + (own_e p2)) + (own_e p3)) (own_e p4))) (4895412794951729152 : UInt64)) (FP.l2d (((((0 : Int64) + (own_e p1)) + (own_e p2)) + (own_e p3)) + (own_e p4)))) (FP.dmul (FP.l2d (own_k p1 p2 p3 p4)) (4656722014701092864 : UInt64))) .l)) rfl ?_
          show Steps p.tables e below (T14.setTop (mkF m 109 #[.val (.long p1), .second, .val (.long p2), .second, .val (.long p3), .second, .val (.long p4), .second, .val (.long (own_e p1)), .second, .val (.long (own_e p2)), .second, .val (.long (own_e p3)), .second, .val (.long (own_e p4)), .second, .val (.ref b1), .val (.double (FP.dadd (FP.dmul (FP.l2d (own_tt (0 : Int64) ((((0 : Int64) + (own_e p1)) + (own_e p2)) + (own_e p3)) (own_e p4))) (4895412794951729152 : UInt64)) (FP.l2d (((((0 : Int64) + (own_e p1)) + (own_e p2)) + (own_e p3)) + (own_e p4))))), .second, .val (.long (own_k p1 p2 p3 p4)), .second, .val (.double (FP.dmul (FP.l2d (own_k p1 p2 p3 p4)) (4656722014701092864 : UInt64))), .second] [(.int (cmpValue (FP.dcmp (FP.dadd (FP.dmul (FP.l2d (own_tt (0 : Int64) ((((0 : Int64) + (own_e p1)) + (own_e p2)) + (own_e p3)) (own_e p4))) (4895412794951729152 : UInt64)) (FP.l2d (((((0 : Int64) + (own_e p1)) + (own_e p2)) + (own_e p3)) + (own_e p4)))) (FP.dmul (FP.l2d (own_k p1 p2 p3 p4)) (4656722014701092864 : UInt64))) .l))])) _
          refine XS.ifNo X14.here hx rfl (hb hby at_109) rfl ((if0 _ _).trans (teq (own_same jj.2.1 jj.2.2.1 jj.2.2.2 kk.2.1 kk.2.2 (jj.1.trans (by omega)) .l)).2) ?_
          refine XS.iconst X14.here hx rfl (hb hby at_112) ?_
          refine XS.goto X14.here hx rfl (pc0 := 113) (pc' := 117) rfl (hb hby at_113) (by decide) (by decide) ?_
          exact kz
        exact Goes.retNW (s := s) (vm1 := T13.vm) X14 hx Bd.notSynchronized hS13 (by rw [e14]; exact (Nat.le_refl _)) (t := .boolean) Bd.returns (by simp) (hb hby at_117) (Nat.le_of_ble_eq_true rfl) (Nat.le_of_ble_eq_true rfl) ⟨rfl, Nf14⟩
      · obtain ⟨cq15, kq15, q15a, q15b, q15c⟩ := isOf hZ rfl E12_
        obtain ⟨_, _, ⟨T15, L15, k15, n15⟩, -, X15, ⟨Lc15, hQ15, l15, y15, z15⟩, st15⟩ := X12.virtualBack hx (y := (⟨"lambdary/statistics/IntegralSum", "accept", "(J)V"⟩ : MethodName)) (z := (⟨"lambdary/statistics/IntegralSum", "accept", "(J)V"⟩ : MethodName)) hown (mvT hZ (w_ hw 11 rfl)) (mvT hZ (w_ hw 12 rfl)) (notFace_of_selects (args := #[]) (mvT hZ (w_ hw 14 rfl))) (mvT hZ (w_ hw 14 rfl)) (mvT hZ (w_ hw 13 rfl)) (by decide) (backOfWith (W := 0) (rac l Z a0 hw [] b1 (own_e p4) ((((0 : Int64) + (own_e p1)) + (own_e p2)) + (own_e p3)) (0 : Int64) (0 : Int32) (1 : Int32) T12.heap n0 Z_12 E12_ Fa12 Fb12 Fc12 Fd12 g1 ho3) hZ (w_ hw 15 rfl) (w_ hw 2 rfl) (by decide) (by decide)) q15a q15c (g := (mkF m 60 #[.val (.long p1), .second, .val (.long p2), .second, .val (.long p3), .second, .val (.long p4), .second, .val (.long (own_e p1)), .second, .val (.long (own_e p2)), .second, .val (.long (own_e p3)), .second, .val (.long (own_e p4)), .second, .val (.ref b1), .unset, .unset, .unset, .unset, .unset, .unset] [(.long (own_e p4)), (.ref b1)])) rfl (by rw [hml]; rfl) (Steps.refl _) (argsL := [(.long (own_e p4))]) (rest := []) (lenOf pd_2 rfl) rfl (by show 2 * 0 + _ ≤ _; exact Nat.le_of_eq rfl) (hb hby at_60) (fun _ _ => ⟨rfl, rfl, (by decide : 1 + 0 ≤ _), (by decide : 4 + 0 ≤ _)⟩)
        dsimp only [Pt.U, Pt.locs, Pt.cells, Pt.slots] at X15 l15 y15 z15 st15 hQ15
        subst l15 y15 z15
        obtain ⟨rfl, N15, K15, E15_, Fa15, Fb15, Fc15, Fd15⟩ := hQ15
        have Nf15 := Fr.app Nf12 N15
        refine Goes.via (S' := T15.setTop (mkF m 63 #[.val (.long p1), .second, .val (.long p2), .second, .val (.long p3), .second, .val (.long p4), .second, .val (.long (own_e p1)), .second, .val (.long (own_e p2)), .second, .val (.long (own_e p3)), .second, .val (.long (own_e p4)), .second, .val (.ref b1), .unset, .unset, .unset, .unset, .unset, .unset] [])) (fun _ kz => st15.trans kz) ?_
        have Z_15 := Nat.le_trans Z_12 K15.1
        have O_15 := O_12.keep K15 (allS g1 all0)
        have J_15 := own_Ja J_12 (own_e8 p4) ho3
        have jj : own_J (((((0 : Int64) + (own_e p1)) + (own_e p2)) + (own_e p3)) + (own_e p4)) (0 : Int64) _ 4 := J_15
        refine Goes.via (S' := T15.setTop (mkF m 65 #[.val (.long p1), .second, .val (.long p2), .second, .val (.long p3), .second, .val (.long p4), .second, .val (.long (own_e p1)), .second, .val (.long (own_e p2)), .second, .val (.long (own_e p3)), .second, .val (.long (own_e p4)), .second, .val (.ref b1), .unset, .unset, .unset, .unset, .unset, .unset] [(.ref b1)])) (fun tz kz => ?_) ?_
        · show Steps p.tables e below (T15.setTop (mkF m 63 #[.val (.long p1), .second, .val (.long p2), .second, .val (.long p3), .second, .val (.long p4), .second, .val (.long (own_e p1)), .second, .val (.long (own_e p2)), .second, .val (.long (own_e p3)), .second, .val (.long (own_e p4)), .second, .val (.ref b1), .unset, .unset, .unset, .unset, .unset, .unset] [])) _
          refine XS.aload X15.here hx rfl (hb hby at_63) rfl rfl ?_
          exact kz
        obtain ⟨cq16, kq16, q16a, q16b, q16c⟩ := isOf hZ rfl E15_
        obtain ⟨_, _, ⟨T16, L16, k16, n16⟩, -, X16, ⟨Lc16, hQ16, l16, y16, z16⟩, st16⟩ := X15.virtualBack hx (y := (⟨"lambdary/statistics/IntegralSum", "sumAsDouble", "()D"⟩ : MethodName)) (z := (⟨"lambdary/statistics/IntegralSum", "sumAsDouble", "()D"⟩ : MethodName)) hown (mvT hZ (w_ hw 24 rfl)) (mvT hZ (w_ hw 25 rfl)) (notFace_of_selects (args := #[]) (mvT hZ (w_ hw 27 rfl))) (mvT hZ (w_ hw 27 rfl)) (mvT hZ (w_ hw 26 rfl)) (by decide) (backOf (W := 0) (rsd l Z a0 hw [] b1 (((((0 : Int64) + (own_e p1)) + (own_e p2)) + (own_e p3)) + (own_e p4)) (0 : Int64) (0 : Int32) (1 : Int32) T15.heap n0 Z_15 E15_ Fa15 Fb15 Fc15 Fd15 g1 jj.2.1 jj.2.2.1 jj.2.2.2) hZ (w_ hw 28 rfl) (w_ hw 2 rfl) (by decide) (by decide)) q16a q16c (g := (mkF m 65 #[.val (.long p1), .second, .val (.long p2), .second, .val (.long p3), .second, .val (.long p4), .second, .val (.long (own_e p1)), .second, .val (.long (own_e p2)), .second, .val (.long (own_e p3)), .second, .val (.long (own_e p4)), .second, .val (.ref b1), .unset, .unset, .unset, .unset, .unset, .unset] [(.ref b1)])) rfl (by rw [hml]; rfl) (Steps.refl _) (argsL := []) (rest := []) (lenOf pd_4 rfl) rfl (by show 2 * 0 + _ ≤ _; exact Nat.le_of_eq rfl) (hb hby at_65) (fun _ _ => ⟨rfl, rfl, (by decide : 1 + 0 ≤ _), (by decide : 4 + 0 ≤ _)⟩)
        dsimp only [Pt.U, Pt.locs, Pt.cells, Pt.slots] at X16 l16 y16 z16 st16 hQ16
        subst l16 y16 z16
        obtain ⟨rfl, N16, e16⟩ := hQ16
        have Nf16 := Fr.app Nf15 N16
        refine Goes.via (S' := T16.setTop (mkF m 68 #[.val (.long p1), .second, .val (.long p2), .second, .val (.long p3), .second, .val (.long p4), .second, .val (.long (own_e p1)), .second, .val (.long (own_e p2)), .second, .val (.long (own_e p3)), .second, .val (.long (own_e p4)), .second, .val (.ref b1), .unset, .unset, .unset, .unset, .unset, .unset] [(.double (FP.dadd (FP.dmul (FP.l2d (0 : Int64)) (4895412794951729152 : UInt64)) (FP.l2d (((((0 : Int64) + (own_e p1)) + (own_e p2)) + (own_e p3)) + (own_e p4)))))])) (fun _ kz => st16.trans kz) ?_
        refine Goes.via (S' := T16.setTop (mkF m 95 #[.val (.long p1), .second, .val (.long p2), .second, .val (.long p3), .second, .val (.long p4), .second, .val (.long (own_e p1)), .second, .val (.long (own_e p2)), .second, .val (.long (own_e p3)), .second, .val (.long (own_e p4)), .second, .val (.ref b1), .val (.double (FP.dadd (FP.dmul (FP.l2d (0 : Int64)) (4895412794951729152 : UInt64)) (FP.l2d (((((0 : Int64) + (own_e p1)) + (own_e p2)) + (own_e p3)) + (own_e p4))))), .second, .val (.long (((((own_e p1) >>> ((11 : Int32) &&& 0x3f).toInt64) + ((own_e p2) >>> ((11 : Int32) &&& 0x3f).toInt64)) + ((own_e p3) >>> ((11 : Int32) &&& 0x3f).toInt64)) + ((own_e p4) >>> ((11 : Int32) &&& 0x3f).toInt64))), .second, .unset, .unset] [])) (fun tz kz => ?_) ?_
        · show Steps p.tables e below (T16.setTop (mkF m 68 #[.val (.long p1), .second, .val (.long p2), .second, .val (.long p3), .second, .val (.long p4), .second, .val (.long (own_e p1)), .second, .val (.long (own_e p2)), .second, .val (.long (own_e p3)), .second, .val (.long (own_e p4)), .second, .val (.ref b1), .unset, .unset, .unset, .unset, .unset, .unset] [(.double (FP.dadd (FP.dmul (FP.l2d (0 : Int64)) (4895412794951729152 : UInt64)) (FP.l2d (((((0 : Int64) + (own_e p1)) + (own_e p2)) + (own_e p3)) + (own_e p4)))))])) _
          refine XS.dstore X16.here hx rfl (hb hby at_68) rfl (l' := #[.val (.long p1), .second, .val (.long p2), .second, .val (.long p3), .second, .val (.long p4), .second, .val (.long (own_e p1)), .second, .val (.long (own_e p2)), .second, .val (.long (own_e p3)), .second, .val (.long (own_e p4)), .second, .val (.ref b1), .val (.double (FP.dadd (FP.dmul (FP.l2d (0 : Int64)) (4895412794951729152 : UInt64)) (FP.l2d (((((0 : Int64) + (own_e p1)) + (own_e p2)) + (own_e p3)) + (own_e p4))))), .second, .unset, .unset, .unset, .unset]) rfl ?_
          refine XS.lload X16.here hx rfl (hb hby at_70) rfl ?_
          refine XS.bipush X16.here hx rfl (hb hby at_72) ?_
          refine XS.lshr X16.here hx rfl (hb hby at_74) rfl ?_
          show Steps p.tables e below (T16.setTop (mkF m 75 #[.val (.long p1), .second, .val (.long p2), .second, .val (.long p3), .second, .val (.long p4), .second, .val (.long (own_e p1)), .second, .val (.long (own_e p2)), .second, .val (.long (own_e p3)), .second, .val (.long (own_e p4)), .second, .val (.ref b1), .val (.double (FP.dadd (FP.dmul (FP.l2d (0 : Int64)) (4895412794951729152 : UInt64)) (FP.l2d (((((0 : Int64) + (own_e p1)) + (own_e p2)) + (own_e p3)) + (own_e p4))))), .second, .unset, .unset, .unset, .unset] [(.long ((own_e p1) >>> ((11 : Int32) &&& 0x3f).toInt64))])) _
          refine XS.lload X16.here hx rfl (hb hby at_75) rfl ?_
          refine XS.bipush X16.here hx rfl (hb hby at_77) ?_
          refine XS.lshr X16.here hx rfl (hb hby at_79) rfl ?_
          refine XS.ladd X16.here hx rfl (hb hby at_80) rfl ?_
          show Steps p.tables e below (T16.setTop (mkF m 81 #[.val (.long p1), .second, .val (.long p2), .second, .val (.long p3), .second, .val (.long p4), .second, .val (.long (own_e p1)), .second, .val (.long (own_e p2)), .second, .val (.long (own_e p3)), .second, .val (.long (own_e p4)), .second, .val (.ref b1), .val (.double (FP.dadd (FP.dmul (FP.l2d (0 : Int64)) (4895412794951729152 : UInt64)) (FP.l2d (((((0 : Int64) + (own_e p1)) + (own_e p2)) + (own_e p3)) + (own_e p4))))), .second, .unset, .unset, .unset, .unset] [(.long (((own_e p1) >>> ((11 : Int32) &&& 0x3f).toInt64) + ((own_e p2) >>> ((11 : Int32) &&& 0x3f).toInt64)))])) _
          refine XS.lload X16.here hx rfl (hb hby at_81) rfl ?_
          refine XS.bipush X16.here hx rfl (hb hby at_83) ?_
          refine XS.lshr X16.here hx rfl (hb hby at_85) rfl ?_
          refine XS.ladd X16.here hx rfl (hb hby at_86) rfl ?_
          show Steps p.tables e below (T16.setTop (mkF m 87 #[.val (.long p1), .second, .val (.long p2), .second, .val (.long p3), .second, .val (.long p4), .second, .val (.long (own_e p1)), .second, .val (.long (own_e p2)), .second, .val (.long (own_e p3)), .second, .val (.long (own_e p4)), .second, .val (.ref b1), .val (.double (FP.dadd (FP.dmul (FP.l2d (0 : Int64)) (4895412794951729152 : UInt64)) (FP.l2d (((((0 : Int64) + (own_e p1)) + (own_e p2)) + (own_e p3)) + (own_e p4))))), .second, .unset, .unset, .unset, .unset] [(.long ((((own_e p1) >>> ((11 : Int32) &&& 0x3f).toInt64) + ((own_e p2) >>> ((11 : Int32) &&& 0x3f).toInt64)) + ((own_e p3) >>> ((11 : Int32) &&& 0x3f).toInt64)))])) _
          refine XS.lload X16.here hx rfl (hb hby at_87) rfl ?_
          refine XS.bipush X16.here hx rfl (hb hby at_89) ?_
          refine XS.lshr X16.here hx rfl (hb hby at_91) rfl ?_
          refine XS.ladd X16.here hx rfl (hb hby at_92) rfl ?_
          show Steps p.tables e below (T16.setTop (mkF m 93 #[.val (.long p1), .second, .val (.long p2), .second, .val (.long p3), .second, .val (.long p4), .second, .val (.long (own_e p1)), .second, .val (.long (own_e p2)), .second, .val (.long (own_e p3)), .second, .val (.long (own_e p4)), .second, .val (.ref b1), .val (.double (FP.dadd (FP.dmul (FP.l2d (0 : Int64)) (4895412794951729152 : UInt64)) (FP.l2d (((((0 : Int64) + (own_e p1)) + (own_e p2)) + (own_e p3)) + (own_e p4))))), .second, .unset, .unset, .unset, .unset] [(.long (((((own_e p1) >>> ((11 : Int32) &&& 0x3f).toInt64) + ((own_e p2) >>> ((11 : Int32) &&& 0x3f).toInt64)) + ((own_e p3) >>> ((11 : Int32) &&& 0x3f).toInt64)) + ((own_e p4) >>> ((11 : Int32) &&& 0x3f).toInt64)))])) _
          refine XS.lstore X16.here hx rfl (hb hby at_93) rfl (l' := #[.val (.long p1), .second, .val (.long p2), .second, .val (.long p3), .second, .val (.long p4), .second, .val (.long (own_e p1)), .second, .val (.long (own_e p2)), .second, .val (.long (own_e p3)), .second, .val (.long (own_e p4)), .second, .val (.ref b1), .val (.double (FP.dadd (FP.dmul (FP.l2d (0 : Int64)) (4895412794951729152 : UInt64)) (FP.l2d (((((0 : Int64) + (own_e p1)) + (own_e p2)) + (own_e p3)) + (own_e p4))))), .second, .val (.long (((((own_e p1) >>> ((11 : Int32) &&& 0x3f).toInt64) + ((own_e p2) >>> ((11 : Int32) &&& 0x3f).toInt64)) + ((own_e p3) >>> ((11 : Int32) &&& 0x3f).toInt64)) + ((own_e p4) >>> ((11 : Int32) &&& 0x3f).toInt64))), .second, .unset, .unset]) rfl ?_
          exact kz
        show Goes p e below _ (T16.setTop (mkF m 95 #[.val (.long p1), .second, .val (.long p2), .second, .val (.long p3), .second, .val (.long p4), .second, .val (.long (own_e p1)), .second, .val (.long (own_e p2)), .second, .val (.long (own_e p3)), .second, .val (.long (own_e p4)), .second, .val (.ref b1), .val (.double (FP.dadd (FP.dmul (FP.l2d (0 : Int64)) (4895412794951729152 : UInt64)) (FP.l2d (((((0 : Int64) + (own_e p1)) + (own_e p2)) + (own_e p3)) + (own_e p4))))), .second, .val (.long (own_k p1 p2 p3 p4)), .second, .unset, .unset] []))
        have kk := own_kk p1 p2 p3 p4
        refine Goes.via (S' := T16.setTop (mkF m 117 #[.val (.long p1), .second, .val (.long p2), .second, .val (.long p3), .second, .val (.long p4), .second, .val (.long (own_e p1)), .second, .val (.long (own_e p2)), .second, .val (.long (own_e p3)), .second, .val (.long (own_e p4)), .second, .val (.ref b1), .val (.double (FP.dadd (FP.dmul (FP.l2d (0 : Int64)) (4895412794951729152 : UInt64)) (FP.l2d (((((0 : Int64) + (own_e p1)) + (own_e p2)) + (own_e p3)) + (own_e p4))))), .second, .val (.long (own_k p1 p2 p3 p4)), .second, .val (.double (FP.dmul (FP.l2d (own_k p1 p2 p3 p4)) (4656722014701092864 : UInt64))), .second] [(.int (1 : Int32))])) (fun tz kz => ?_) ?_
        · show Steps p.tables e below (T16.setTop (mkF m 95 #[.val (.long p1), .second, .val (.long p2), .second, .val (.long p3), .second, .val (.long p4), .second, .val (.long (own_e p1)), .second, .val (.long (own_e p2)), .second, .val (.long (own_e p3)), .second, .val (.long (own_e p4)), .second, .val (.ref b1), .val (.double (FP.dadd (FP.dmul (FP.l2d (0 : Int64)) (4895412794951729152 : UInt64)) (FP.l2d (((((0 : Int64) + (own_e p1)) + (own_e p2)) + (own_e p3)) + (own_e p4))))), .second, .val (.long (own_k p1 p2 p3 p4)), .second, .unset, .unset] [])) _
          refine XS.lload X16.here hx rfl (hb hby at_95) rfl ?_
          refine XS.l2dS X16.here hx rfl (hb hby at_97) rfl (v := FP.l2d (own_k p1 p2 p3 p4)) rfl ?_
          refine X16.ldc2DoubleC hx hown (mvT hZ (w_ hw 32 rfl)) (g := (mkF m 98 #[.val (.long p1), .second, .val (.long p2), .second, .val (.long p3), .second, .val (.long p4), .second, .val (.long (own_e p1)), .second, .val (.long (own_e p2)), .second, .val (.long (own_e p3)), .second, .val (.long (own_e p4)), .second, .val (.ref b1), .val (.double (FP.dadd (FP.dmul (FP.l2d (0 : Int64)) (4895412794951729152 : UInt64)) (FP.l2d (((((0 : Int64) + (own_e p1)) + (own_e p2)) + (own_e p3)) + (own_e p4))))), .second, .val (.long (own_k p1 p2 p3 p4)), .second, .unset, .unset] [(.double (FP.l2d (own_k p1 p2 p3 p4)))])) rfl (hb hby at_98) _ ?_
          refine XS.dmulS X16.here hx rfl (hb hby at_101) rfl (own_want kk.2.1 kk.2.2).1 (v := (FP.dmul (FP.l2d (own_k p1 p2 p3 p4)) (4656722014701092864 : UInt64))) rfl ?_
          show Steps p.tables e below (T16.setTop (mkF m 102 #[.val (.long p1), .second, .val (.long p2), .second, .val (.long p3), .second, .val (.long p4), .second, .val (.long (own_e p1)), .second, .val (.long (own_e p2)), .second, .val (.long (own_e p3)), .second, .val (.long (own_e p4)), .second, .val (.ref b1), .val (.double (FP.dadd (FP.dmul (FP.l2d (0 : Int64)) (4895412794951729152 : UInt64)) (FP.l2d (((((0 : Int64) + (own_e p1)) + (own_e p2)) + (own_e p3)) + (own_e p4))))), .second, .val (.long (own_k p1 p2 p3 p4)), .second, .unset, .unset] [(.double (FP.dmul (FP.l2d (own_k p1 p2 p3 p4)) (4656722014701092864 : UInt64)))])) _
          refine XS.dstore X16.here hx rfl (hb hby at_102) rfl (l' := #[.val (.long p1), .second, .val (.long p2), .second, .val (.long p3), .second, .val (.long p4), .second, .val (.long (own_e p1)), .second, .val (.long (own_e p2)), .second, .val (.long (own_e p3)), .second, .val (.long (own_e p4)), .second, .val (.ref b1), .val (.double (FP.dadd (FP.dmul (FP.l2d (0 : Int64)) (4895412794951729152 : UInt64)) (FP.l2d (((((0 : Int64) + (own_e p1)) + (own_e p2)) + (own_e p3)) + (own_e p4))))), .second, .val (.long (own_k p1 p2 p3 p4)), .second, .val (.double (FP.dmul (FP.l2d (own_k p1 p2 p3 p4)) (4656722014701092864 : UInt64))), .second]) rfl ?_
          refine XS.dload X16.here hx rfl (hb hby at_104) rfl ?_
          refine XS.dload X16.here hx rfl (hb hby at_106) rfl ?_
          refine XS.dcmpS X16.here hx rfl (hb hby at_108) rfl (v := (cmpValue (FP.dcmp (FP.dadd (FP.dmul (FP.l2d (0 : Int64)) (4895412794951729152 : UInt64)) (FP.l2d (((((0 : Int64) + (own_e p1)) + (own_e p2)) + (own_e p3)) + (own_e p4)))) (FP.dmul (FP.l2d (own_k p1 p2 p3 p4)) (4656722014701092864 : UInt64))) .l)) rfl ?_
          show Steps p.tables e below (T16.setTop (mkF m 109 #[.val (.long p1), .second, .val (.long p2), .second, .val (.long p3), .second, .val (.long p4), .second, .val (.long (own_e p1)), .second, .val (.long (own_e p2)), .second, .val (.long (own_e p3)), .second, .val (.long (own_e p4)), .second, .val (.ref b1), .val (.double (FP.dadd (FP.dmul (FP.l2d (0 : Int64)) (4895412794951729152 : UInt64)) (FP.l2d (((((0 : Int64) + (own_e p1)) + (own_e p2)) + (own_e p3)) + (own_e p4))))), .second, .val (.long (own_k p1 p2 p3 p4)), .second, .val (.double (FP.dmul (FP.l2d (own_k p1 p2 p3 p4)) (4656722014701092864 : UInt64))), .second] [(.int (cmpValue (FP.dcmp (FP.dadd (FP.dmul (FP.l2d (0 : Int64)) (4895412794951729152 : UInt64)) (FP.l2d (((((0 : Int64) + (own_e p1)) + (own_e p2)) + (own_e p3)) + (own_e p4)))) (FP.dmul (FP.l2d (own_k p1 p2 p3 p4)) (4656722014701092864 : UInt64))) .l))])) _
          refine XS.ifNo X16.here hx rfl (hb hby at_109) rfl ((if0 _ _).trans (teq (own_same jj.2.1 jj.2.2.1 jj.2.2.2 kk.2.1 kk.2.2 (jj.1.trans (by omega)) .l)).2) ?_
          refine XS.iconst X16.here hx rfl (hb hby at_112) ?_
          refine XS.goto X16.here hx rfl (pc0 := 113) (pc' := 117) rfl (hb hby at_113) (by decide) (by decide) ?_
          exact kz
        exact Goes.retNW (s := s) (vm1 := s.vm) X16 hx Bd.notSynchronized ((State.WarmedH.refl s).since 0) (Nat.zero_le _) (t := .boolean) Bd.returns (by simp) (hb hby at_117) (Nat.le_of_ble_eq_true rfl) (Nat.le_of_ble_eq_true rfl) ⟨rfl, Nf16⟩
theorem own_isr {args : Array Value} {s : State} {t : Jvm.Term} (h : (Jvm.Cond.isRef t).value args s none s [] = some true) : ∃ v, t.eval args s none [] s = some v ∧ v.isRef = true := by
  simp only [Cond.value] at h
  cases ht : t.eval args s none [] s with
  | none => simp [ht] at h
  | some x => exact ⟨x, rfl, by rw [ht] at h; cases x <;> simp [Value.isRef] at h ⊢⟩
set_option maxRecDepth 65536 in
set_option maxHeartbeats 40000000 in
theorem comes_1 {Post : Tables → Env → Array Value → State → Outcome → State → Prop} (hpost : ∀ tb e args s v u, (limb_1_1.after args s (.returned v) u = true ∧ limb_1_2.after args s (.returned v) u = true ∧ True) → ReturnedEndW s (.returned v) u (Jvm.fieldLocs frame_1_writes args s ++ Jvm.arrayLocs frame_1_arrays args s ++ Jvm.staticLocs frame_1_statics s) 16 6656 → Post tb e args s (.returned v) u) :
    ArmFor flags0 classFile x code maxLocals ret World_1 tables_1 room_1 Calls_1 rest_1 Pre_1 Post := by
  intro l hfl _ _ p e ha hc hk s m args below hf hA hF happ hP
  obtain ⟨hcalls, hrest, hpre⟩ := hP
  obtain ⟨-, -, -, hnamed, -, -, -, hat⟩ := (Spec.applies_iff hf).mp happ
  obtain ⟨hg, hn⟩ := and_e (Cond.before_iff.mp (show (Jvm.Cond.and given_1 narrow_1).before args s = true from hpre))
  obtain ⟨hcnt, gg0⟩ := and_e hg
  obtain ⟨ga0, gg1⟩ := and_e gg0
  obtain ⟨ga1, gg2⟩ := and_e gg1
  obtain ⟨ga2, gg3⟩ := and_e gg2
  obtain ⟨w0, w1, w2, w3, rfl⟩ : ∃ w0 w1 w2 w3 : Value, args = #[w0, w1, w2, w3] := by
    have hs : args.size = 4 := by simpa [Cond.value, given_1] using hcnt
    obtain ⟨L⟩ := args
    match L, hs with
    | [w0, w1, w2, w3], _ => exact ⟨w0, w1, w2, w3, rfl⟩
  have hw := fun d (hd : d ∈ tables_1) => atoms_spec (ws := Jvm.Cond.code x code maxLocals ret :: tables_1) hat d (List.mem_cons_of_mem _ hd)
  have hfit : Fit s := fun {y c} hc i hi => by
    obtain ⟨ha, rfl⟩ := Array.getElem?_eq_some_iff.mp hc
    have q := List.all_eq_true.mp ((Array.all_eq_true_iff_forall_mem.mp hF) _ (Array.getElem_mem ha)) i (List.mem_range.mpr hi)
    simpa [Array.getElem?_eq_getElem hi] using q
  obtain ⟨i0, ei0⟩ := isL_v ga0
  obtain rfl : w0 = (.long i0) := Option.some.inj ei0
  obtain ⟨i1, ei1⟩ := isL_v ga1
  obtain rfl : w1 = (.long i1) := Option.some.inj ei1
  obtain ⟨i2, ei2⟩ := isL_v ga2
  obtain rfl : w2 = (.long i2) := Option.some.inj ei2
  obtain ⟨i3, ei3⟩ := isL_v gg3
  obtain rfl : w3 = (.long i3) := Option.some.inj ei3
  obtain ⟨hsets, hown0⟩ := atoms_of _ (rest_1_c_eq ▸ (show rest_1_c.before _ s = true from hrest))
  obtain ⟨us, evus, hus⟩ := own_isr (Cond.before_iff.mp (hsets _ (List.mem_of_getElem? (i := 7) rfl)))
  have SU := Sta.start evus (Or.inl (hsets _ (List.mem_of_getElem? (i := 6) rfl)))
  obtain ⟨ss, evss, hss⟩ := own_isr (Cond.before_iff.mp (hsets _ (List.mem_of_getElem? (i := 12) rfl)))
  have SQ := Sta.start evss (Or.inl (hsets _ (List.mem_of_getElem? (i := 11) rfl)))
  have hl : l.stackTraces = true := by unfold Launch.stackTraces; rw [show l.flags = Jvm.pinnedFlags from hfl]; decide
  obtain ⟨n, o, h1, h2, h3, _, L, rfl, ⟨rfl, N⟩, hq⟩ := rm0 l s _ hw tables_1 i0 i1 i2 i3 us ss s.heap s.heap.size (Nat.le_refl _) SU hus SQ hss hl (Old.start s) p e ha hc hk s m _ below hf ((Spec.applies_iff_loose hf).mp happ).1 ⟨rfl, State.Warmed39.refl s, rfl⟩ ⟨MethodsKnown_of_tablesKnown hcalls.2.1, FramesKnown_of_framesKnown hcalls.1 hf⟩
  refine ⟨n, _, h1, h2, h3, hpost _ _ _ _ _ _ ⟨Cond.after_iff.mpr rfl, Cond.after_iff.mpr (eq_i res_at (Term.int_eval (1)) rfl), trivial⟩ ⟨hq.1, hq.2.1, hq.2.2.1, (hq.2.2.2.sift fun y hy => Or.inr (N y hy)).mono (by decide) (by decide)⟩⟩
theorem main_1_1 : Claimed_1_1 := comes_1 fun _ _ _ _ _ _ h hF => ⟨h.1, hF⟩
theorem main_1_2 : Claimed_1_2 := comes_1 fun _ _ _ _ _ _ h hF => ⟨h.2.1, hF⟩
end Jvm.Pilot.@@N@@
namespace Jvm.Pilot.@@N@@
open Jvm Jvm.ClassFile Sem Op Lib Jvm.Free Jvm.Stand Jvm.Pilot.@@N@@.Jvm.D
/-! MADE BY PROGRAM (witnessworld.py) out of the Statement's table words and the real class files: 34 classes; the members and pool entries that the words name. The judged class is class 1, her method 1. -/
namespace start1
open Jvm.ClassFile
def u (s : String) : CpInfo := .utf8 (stringToUtf16 s)
/-- a pool by its gaps: so many unusable entries, then the entry; so many at the end -/
def gap : Nat → List CpInfo → List CpInfo
  | 0, r => r
  | n + 1, r => .unusable :: gap n r
def poolList (es : List (Nat × CpInfo)) (last : Nat) : List CpInfo := es.foldr (fun e r => gap e.1 (e.2 :: r)) (gap last [])
def pool (es : List (Nat × CpInfo)) (last : Nat) : Array CpInfo := ⟨poolList es last⟩
def fileOf (pool : Array CpInfo) (this : Nat) (attrs : Array Attribute := #[]) (ms : Array MethodInfo := #[]) (fl : Nat := 33) (sup : Nat := 0) (ifs : Array Nat := #[]) (fds : Array FieldInfo := #[]) : ClassFile where
  minorVersion := 0
  majorVersion := 65
  constantPool := pool
  accessFlags := fl
  thisClass := this
  superClass := sup
  interfaces := ifs
  fields := fds
  methods := ms
  attributes := attrs
def plain (name : String) (sup : Option ClassId) : Class where
  name := name
  kind := .ordinary
  loader := none
  accessFlags := 33
  super := sup
  interfaces := #[]
  cf := none
  fields := #[]
  methods := #[]
  instanceTypes := #[]
  staticTypes := #[]
  resolved := #[]
  callSites := []
  init := .initialized
  statics := none
  mirror := none

def pool0 : Array CpInfo := pool [(5, u "<init>"), (0, u "()V"), (1, .class_ 10), (1, u "java/lang/Object")] 113

def k0c0 : Code := { maxStack := 0, maxLocals := 1, code := object_method_1_code, exceptionTable := #[], attributes := #[] }
def k0m0 : Method := { name := "<init>", desc := "()V", sig := { parameters := [], returnType := none }, accessFlags := 1, code := some k0c0 }
/-- java/lang/Object -/
def k0 : Class := { plain "java/lang/Object" none with
  accessFlags := 33
  interfaces := #[]
  cf := some (fileOf pool0 8 #[] #[{ accessFlags := 1, nameIndex := 5, descriptorIndex := 6, attributes := #[] }] 33 0 #[] #[])
  fields := #[]
  methods := #[k0m0]
  instanceTypes := #[]
  staticTypes := #[]
  resolved := Array.replicate 124 none
  statics := none }

def pool1 : Array CpInfo := pool [(2, .class_ 4), (0, .nameAndType 5 6), (0, u "java/lang/Object"), (0, u "<init>"), (0, u "()V"), (0, .class_ 8), (0, u "lambdary/statistics/IntegralSum"), (0, .methodref 7 3), (0, .methodref 7 11), (0, .nameAndType 12 13), (0, u "accept"), (0, u "(J)V"), (0, .methodref 7 15), (0, .nameAndType 16 17), (0, u "sumAsDouble"), (0, u "()D"), (0, .double 4656722014701092864), (1, .class_ 21), (0, u "lambdary/statistics/IntegralSumSumAsDoublePinLaw"), (2, u "law"), (0, u "(JJJJ)Z")] 3

def k1m0 : Method := { name := "<init>", desc := "()V", sig := { parameters := [], returnType := none }, accessFlags := 1, code := none }
def k1c1 : Code := { maxStack := 5, maxLocals := 23, code := code, exceptionTable := #[], attributes := #[] }
def k1m1 : Method := { name := "law", desc := "(JJJJ)Z", sig := { parameters := [.long, .long, .long, .long], returnType := some .boolean }, accessFlags := 9, code := some k1c1 }
/-- lambdary/statistics/IntegralSumSumAsDoublePinLaw -/
def k1 : Class := { plain "lambdary/statistics/IntegralSumSumAsDoublePinLaw" (some 0) with
  accessFlags := 49
  interfaces := #[]
  cf := some (fileOf pool1 20 #[] #[{ accessFlags := 1, nameIndex := 5, descriptorIndex := 6, attributes := #[] }, { accessFlags := 9, nameIndex := 24, descriptorIndex := 25, attributes := #[] }] 49 2 #[] #[])
  fields := #[]
  methods := #[k1m0, k1m1]
  instanceTypes := #[]
  staticTypes := #[]
  resolved := Array.replicate 29 none
  statics := none }

def pool2 : Array CpInfo := pool [(12, .class_ 14), (1, u "java/util/function/Consumer"), (1, .class_ 17), (0, u "java/lang/Object")] 41

/-- java/util/function/Consumer -/
def k2 : Class := { plain "java/util/function/Consumer" (some 0) with
  accessFlags := 1537
  interfaces := #[]
  cf := some (fileOf pool2 12 #[] #[] 1537 16 #[] #[])
  fields := #[]
  methods := #[]
  instanceTypes := #[]
  staticTypes := #[]
  resolved := Array.replicate 59 none
  statics := none }

def pool3 : Array CpInfo := pool [(10, .class_ 12), (1, u "lambdary/pipeline/Sink"), (41, .class_ 55), (0, u "java/lang/Object"), (0, .class_ 57), (0, u "java/util/function/Consumer"), (0, u "UNBOUNDED"), (0, u "J")] 27

/-- lambdary/pipeline/Sink -/
def k3 : Class := { plain "lambdary/pipeline/Sink" (some 0) with
  accessFlags := 1537
  interfaces := #[2]
  cf := some (fileOf pool3 10 #[] #[] 1537 54 #[56] #[{ accessFlags := 25, nameIndex := 58, descriptorIndex := 59, attributes := #[] }])
  fields := #[{ name := "UNBOUNDED", type := .long, accessFlags := 25, slot := 0, constantValue := 0 }]
  methods := #[]
  instanceTypes := #[]
  staticTypes := #[.long]
  resolved := Array.replicate 87 none
  statics := none }

def pool4 : Array CpInfo := pool [(1, .methodref 2 3), (0, .class_ 4), (0, .nameAndType 5 6), (0, u "java/lang/Object"), (0, u "<init>"), (0, u "()V"), (0, .fieldref 8 9), (0, .class_ 10), (0, .nameAndType 11 12), (0, u "lambdary/statistics/IntegralSum"), (0, u "checkInts"), (0, u "Z"), (0, .fieldref 8 14), (0, .nameAndType 15 16), (0, u "turns"), (0, u "J"), (12, .fieldref 8 30), (0, .nameAndType 31 16), (0, u "low"), (4, .class_ 37), (0, u "java/lang/ArithmeticException"), (12, .methodref 8 51), (0, .nameAndType 52 53), (0, u "addToLow"), (0, u "(J)V"), (2, .fieldref 8 57), (0, .nameAndType 58 12), (0, u "wrapped"), (0, .methodref 60 61), (0, .class_ 62), (0, .nameAndType 63 64), (0, u "java/lang/Math"), (0, u "addExact"), (0, u "(JJ)J"), (2, u "accept"), (9, .double 4895412794951729152), (1, .long 18446744073709551615), (4, .class_ 85), (0, u "lambdary/pipeline/Sink"), (0, u "UNCHECKED_INTS"), (10, u "sumAsDouble"), (0, u "()D")] 21

def k4c0 : Code := { maxStack := 2, maxLocals := 1, code := prog_120_method_1_code, exceptionTable := #[], attributes := #[] }
def k4m0 : Method := { name := "<init>", desc := "()V", sig := { parameters := [], returnType := none }, accessFlags := 1, code := some k4c0 }
def k4c1 : Code := { maxStack := 5, maxLocals := 4, code := prog_120_method_5_code, exceptionTable := #[{ startPc := 13, endPc := 25, handlerPc := 28, catchType := 36 }], attributes := #[] }
def k4m1 : Method := { name := "accept", desc := "(J)V", sig := { parameters := [.long], returnType := none }, accessFlags := 1, code := some k4c1 }
def k4c2 : Code := { maxStack := 4, maxLocals := 1, code := prog_120_method_11_code, exceptionTable := #[], attributes := #[] }
def k4m2 : Method := { name := "sumAsDouble", desc := "()D", sig := { parameters := [], returnType := some .double }, accessFlags := 16, code := some k4c2 }
def k4c3 : Code := { maxStack := 7, maxLocals := 5, code := prog_120_method_12_code, exceptionTable := #[], attributes := #[] }
def k4m3 : Method := { name := "addToLow", desc := "(J)V", sig := { parameters := [.long], returnType := none }, accessFlags := 2, code := some k4c3 }
/-- lambdary/statistics/IntegralSum -/
def k4 : Class := { plain "lambdary/statistics/IntegralSum" (some 0) with
  accessFlags := 33
  interfaces := #[3]
  cf := some (fileOf pool4 8 #[] #[{ accessFlags := 1, nameIndex := 5, descriptorIndex := 6, attributes := #[] }, { accessFlags := 1, nameIndex := 67, descriptorIndex := 53, attributes := #[] }, { accessFlags := 16, nameIndex := 97, descriptorIndex := 98, attributes := #[] }, { accessFlags := 2, nameIndex := 52, descriptorIndex := 53, attributes := #[] }] 33 2 #[84] #[{ accessFlags := 26, nameIndex := 86, descriptorIndex := 16, attributes := #[] }, { accessFlags := 2, nameIndex := 31, descriptorIndex := 16, attributes := #[] }, { accessFlags := 2, nameIndex := 15, descriptorIndex := 16, attributes := #[] }, { accessFlags := 2, nameIndex := 11, descriptorIndex := 12, attributes := #[] }, { accessFlags := 2, nameIndex := 58, descriptorIndex := 12, attributes := #[] }])
  fields := #[{ name := "UNCHECKED_INTS", type := .long, accessFlags := 26, slot := 0, constantValue := 0 }, { name := "low", type := .long, accessFlags := 2, slot := 0, constantValue := 0 }, { name := "turns", type := .long, accessFlags := 2, slot := 1, constantValue := 0 }, { name := "checkInts", type := .boolean, accessFlags := 2, slot := 2, constantValue := 0 }, { name := "wrapped", type := .boolean, accessFlags := 2, slot := 3, constantValue := 0 }]
  methods := #[k4m0, k4m1, k4m2, k4m3]
  instanceTypes := #[.long, .long, .boolean, .boolean]
  staticTypes := #[.long]
  resolved := Array.replicate 120 none
  statics := none }

def pool5 : Array CpInfo := pool [(1, .class_ 2), (0, u "java/lang/Math"), (1, .class_ 6), (1, u "java/lang/Object"), (0, u "<init>"), (0, u "()V"), (89, .class_ 100), (1, u "java/lang/Math$RandomNumberGeneratorHolder"), (8, .class_ 110), (0, u "java/lang/ArithmeticException"), (2, .methodref 109 114), (0, .nameAndType 7 115), (0, u "(Ljava/lang/String;)V"), (0, .string 117), (0, u "long overflow"), (3, u "(JJ)J"), (50, u "negativeZeroFloatBits"), (0, u "J"), (2, u "negativeZeroDoubleBits"), (68, u "$assertionsDisabled"), (0, u "Z"), (91, u "twoToTheDoubleScaleDown"), (0, u "D"), (4, u "twoToTheDoubleScaleUp"), (9, u "E"), (3, u "PI"), (2, u "TAU"), (2, u "DEGREES_TO_RADIANS"), (0, u "RADIANS_TO_DEGREES"), (27, u "addExact")] 66

def k5m0 : Method := { name := "<init>", desc := "()V", sig := { parameters := [], returnType := none }, accessFlags := 2, code := none }
def k5c1 : Code := { maxStack := 6, maxLocals := 6, code := jdk_29_method_25_code, exceptionTable := #[], attributes := #[] }
def k5m1 : Method := { name := "addExact", desc := "(JJ)J", sig := { parameters := [.long, .long], returnType := some .long }, accessFlags := 9, code := some k5c1 }
/-- java/lang/Math -/
def k5 : Class := { plain "java/lang/Math" (some 0) with
  accessFlags := 49
  interfaces := #[]
  cf := some (fileOf pool5 1 #[.nestMembers #[98]] #[{ accessFlags := 2, nameIndex := 7, descriptorIndex := 8, attributes := #[] }, { accessFlags := 9, nameIndex := 393, descriptorIndex := 121, attributes := #[] }] 49 4 #[] #[{ accessFlags := 25, nameIndex := 354, descriptorIndex := 339, attributes := #[] }, { accessFlags := 25, nameIndex := 358, descriptorIndex := 339, attributes := #[] }, { accessFlags := 25, nameIndex := 361, descriptorIndex := 339, attributes := #[] }, { accessFlags := 26, nameIndex := 364, descriptorIndex := 339, attributes := #[] }, { accessFlags := 26, nameIndex := 365, descriptorIndex := 339, attributes := #[] }, { accessFlags := 26, nameIndex := 172, descriptorIndex := 173, attributes := #[] }, { accessFlags := 26, nameIndex := 176, descriptorIndex := 173, attributes := #[] }, { accessFlags := 8, nameIndex := 344, descriptorIndex := 339, attributes := #[] }, { accessFlags := 8, nameIndex := 338, descriptorIndex := 339, attributes := #[] }, { accessFlags := 4120, nameIndex := 245, descriptorIndex := 246, attributes := #[] }])
  fields := #[{ name := "E", type := .double, accessFlags := 25, slot := 0, constantValue := 0 }, { name := "PI", type := .double, accessFlags := 25, slot := 1, constantValue := 0 }, { name := "TAU", type := .double, accessFlags := 25, slot := 2, constantValue := 0 }, { name := "DEGREES_TO_RADIANS", type := .double, accessFlags := 26, slot := 3, constantValue := 0 }, { name := "RADIANS_TO_DEGREES", type := .double, accessFlags := 26, slot := 4, constantValue := 0 }, { name := "negativeZeroFloatBits", type := .long, accessFlags := 26, slot := 5, constantValue := 0 }, { name := "negativeZeroDoubleBits", type := .long, accessFlags := 26, slot := 6, constantValue := 0 }, { name := "twoToTheDoubleScaleUp", type := .double, accessFlags := 8, slot := 7, constantValue := 0 }, { name := "twoToTheDoubleScaleDown", type := .double, accessFlags := 8, slot := 8, constantValue := 0 }, { name := "$assertionsDisabled", type := .boolean, accessFlags := 4120, slot := 9, constantValue := 0 }]
  methods := #[k5m0, k5m1]
  instanceTypes := #[]
  staticTypes := #[.double, .double, .double, .double, .double, .long, .long, .double, .double, .boolean]
  resolved := Array.replicate 460 none
  statics := none }

def pool6 : Array CpInfo := pool [(1, .class_ 2), (0, u "java/io/Serializable"), (0, .class_ 4), (0, u "java/lang/Object")] 2

/-- java/io/Serializable -/
def k6 : Class := { plain "java/io/Serializable" (some 0) with
  accessFlags := 1537
  interfaces := #[]
  cf := some (fileOf pool6 1 #[] #[] 1537 3 #[] #[])
  fields := #[]
  methods := #[]
  instanceTypes := #[]
  staticTypes := #[]
  resolved := Array.replicate 7 none
  statics := none }

def pool7 : Array CpInfo := pool [(1, .methodref 2 3), (0, .class_ 4), (0, .nameAndType 5 6), (0, u "java/lang/Object"), (0, u "<init>"), (0, u "()V"), (0, .fieldref 8 9), (0, .class_ 10), (0, .nameAndType 11 12), (0, u "java/lang/Throwable"), (0, u "cause"), (0, u "Ljava/lang/Throwable;"), (0, .fieldref 8 14), (0, .nameAndType 15 16), (0, u "UNASSIGNED_STACK"), (0, u "[Ljava/lang/StackTraceElement;"), (0, .fieldref 8 18), (0, .nameAndType 19 16), (0, u "stackTrace"), (0, .fieldref 8 21), (0, .nameAndType 22 23), (0, u "SUPPRESSED_SENTINEL"), (0, u "Ljava/util/List;"), (0, .fieldref 8 25), (0, .nameAndType 26 23), (0, u "suppressedExceptions"), (0, .methodref 8 28), (0, .nameAndType 29 30), (0, u "fillInStackTrace"), (0, u "()Ljava/lang/Throwable;"), (0, .fieldref 8 32), (0, .nameAndType 33 34), (0, u "detailMessage"), (0, u "Ljava/lang/String;"), (58, .class_ 94), (0, u "java/lang/Throwable$WrappedPrintStream"), (6, .class_ 103), (1, u "java/lang/Throwable$PrintStreamOrWriter"), (61, u "$assertionsDisabled"), (0, u "Z"), (26, .class_ 194), (0, u "java/lang/Throwable$WrappedPrintWriter"), (3, .fieldref 8 199), (0, .nameAndType 200 201), (0, u "backtrace"), (0, u "Ljava/lang/Object;"), (0, .methodref 8 203), (0, .nameAndType 29 204), (0, u "(I)Ljava/lang/Throwable;"), (6, u "depth"), (0, u "I"), (10, u "(Ljava/lang/String;)V"), (45, .class_ 271), (1, u "java/lang/Throwable$SentinelHolder"), (32, u "EMPTY_THROWABLE_ARRAY"), (0, u "[Ljava/lang/Throwable;"), (12, .class_ 319), (0, u "java/io/Serializable"), (0, u "serialVersionUID"), (0, u "J"), (5, u "NULL_CAUSE_MESSAGE"), (0, u "SELF_SUPPRESSION_MESSAGE"), (0, u "CAUSE_CAPTION"), (0, u "SUPPRESSED_CAPTION")] 73

def k7c0 : Code := { maxStack := 2, maxLocals := 1, code := jdk_78_method_1_code, exceptionTable := #[], attributes := #[] }
def k7m0 : Method := { name := "<init>", desc := "()V", sig := { parameters := [], returnType := none }, accessFlags := 1, code := some k7c0 }
def k7c1 : Code := { maxStack := 2, maxLocals := 2, code := jdk_78_method_2_code, exceptionTable := #[], attributes := #[] }
def k7m1 : Method := { name := "<init>", desc := "(Ljava/lang/String;)V", sig := { parameters := [(.object "java/lang/String")], returnType := none }, accessFlags := 1, code := some k7c1 }
def k7c2 : Code := { maxStack := 2, maxLocals := 1, code := ⟨#[0x2a, 0xb4, 0x00, 0x11, 0xc7, 0x00, 0x0a, 0x2a, 0xb4, 0x00, 0xc6, 0xc6, 0x00, 0x10, 0x2a, 0x03, 0xb6, 0x00, 0xca, 0x57, 0x2a, 0xb2, 0x00, 0x0d, 0xb5, 0x00, 0x11, 0x2a, 0xb0]⟩, exceptionTable := #[], attributes := #[] }
def k7m2 : Method := { name := "fillInStackTrace", desc := "()Ljava/lang/Throwable;", sig := { parameters := [], returnType := some (.object "java/lang/Throwable") }, accessFlags := 33, code := some k7c2 }
def k7m3 : Method := { name := "fillInStackTrace", desc := "(I)Ljava/lang/Throwable;", sig := { parameters := [.int], returnType := some (.object "java/lang/Throwable") }, accessFlags := 258, code := none }
/-- java/lang/Throwable -/
def k7 : Class := { plain "java/lang/Throwable" (some 0) with
  accessFlags := 33
  interfaces := #[6]
  cf := some (fileOf pool7 8 #[.nestMembers #[193, 93, 101, 269]] #[{ accessFlags := 1, nameIndex := 5, descriptorIndex := 6, attributes := #[] }, { accessFlags := 1, nameIndex := 5, descriptorIndex := 223, attributes := #[] }, { accessFlags := 33, nameIndex := 29, descriptorIndex := 30, attributes := #[] }, { accessFlags := 258, nameIndex := 29, descriptorIndex := 204, attributes := #[] }] 33 2 #[318] #[{ accessFlags := 26, nameIndex := 320, descriptorIndex := 321, attributes := #[] }, { accessFlags := 130, nameIndex := 200, descriptorIndex := 201, attributes := #[] }, { accessFlags := 2, nameIndex := 33, descriptorIndex := 34, attributes := #[] }, { accessFlags := 26, nameIndex := 15, descriptorIndex := 16, attributes := #[] }, { accessFlags := 2, nameIndex := 11, descriptorIndex := 12, attributes := #[] }, { accessFlags := 2, nameIndex := 19, descriptorIndex := 16, attributes := #[] }, { accessFlags := 130, nameIndex := 211, descriptorIndex := 212, attributes := #[] }, { accessFlags := 26, nameIndex := 22, descriptorIndex := 23, attributes := #[] }, { accessFlags := 2, nameIndex := 26, descriptorIndex := 23, attributes := #[] }, { accessFlags := 26, nameIndex := 327, descriptorIndex := 34, attributes := #[] }, { accessFlags := 26, nameIndex := 328, descriptorIndex := 34, attributes := #[] }, { accessFlags := 26, nameIndex := 329, descriptorIndex := 34, attributes := #[] }, { accessFlags := 26, nameIndex := 330, descriptorIndex := 34, attributes := #[] }, { accessFlags := 26, nameIndex := 304, descriptorIndex := 305, attributes := #[] }, { accessFlags := 4120, nameIndex := 165, descriptorIndex := 166, attributes := #[] }])
  fields := #[{ name := "serialVersionUID", type := .long, accessFlags := 26, slot := 0, constantValue := 0 }, { name := "backtrace", type := (.object "java/lang/Object"), accessFlags := 130, slot := 0, constantValue := 0 }, { name := "detailMessage", type := (.object "java/lang/String"), accessFlags := 2, slot := 1, constantValue := 0 }, { name := "UNASSIGNED_STACK", type := (.array (.object "java/lang/StackTraceElement")), accessFlags := 26, slot := 1, constantValue := 0 }, { name := "cause", type := (.object "java/lang/Throwable"), accessFlags := 2, slot := 2, constantValue := 0 }, { name := "stackTrace", type := (.array (.object "java/lang/StackTraceElement")), accessFlags := 2, slot := 3, constantValue := 0 }, { name := "depth", type := .int, accessFlags := 130, slot := 4, constantValue := 0 }, { name := "SUPPRESSED_SENTINEL", type := (.object "java/util/List"), accessFlags := 26, slot := 2, constantValue := 0 }, { name := "suppressedExceptions", type := (.object "java/util/List"), accessFlags := 2, slot := 5, constantValue := 0 }, { name := "NULL_CAUSE_MESSAGE", type := (.object "java/lang/String"), accessFlags := 26, slot := 3, constantValue := 0 }, { name := "SELF_SUPPRESSION_MESSAGE", type := (.object "java/lang/String"), accessFlags := 26, slot := 4, constantValue := 0 }, { name := "CAUSE_CAPTION", type := (.object "java/lang/String"), accessFlags := 26, slot := 5, constantValue := 0 }, { name := "SUPPRESSED_CAPTION", type := (.object "java/lang/String"), accessFlags := 26, slot := 6, constantValue := 0 }, { name := "EMPTY_THROWABLE_ARRAY", type := (.array (.object "java/lang/Throwable")), accessFlags := 26, slot := 7, constantValue := 0 }, { name := "$assertionsDisabled", type := .boolean, accessFlags := 4120, slot := 8, constantValue := 0 }]
  methods := #[k7m0, k7m1, k7m2, k7m3]
  instanceTypes := #[(.object "java/lang/Object"), (.object "java/lang/String"), (.object "java/lang/Throwable"), (.array (.object "java/lang/StackTraceElement")), .int, (.object "java/util/List")]
  staticTypes := #[.long, (.array (.object "java/lang/StackTraceElement")), (.object "java/util/List"), (.object "java/lang/String"), (.object "java/lang/String"), (.object "java/lang/String"), (.object "java/lang/String"), (.array (.object "java/lang/Throwable")), .boolean]
  resolved := Array.replicate 404 none
  statics := some 0 }

def pool8 : Array CpInfo := pool [(2, .class_ 4), (1, u "java/lang/Throwable"), (0, u "<init>"), (0, u "()V"), (0, .methodref 2 8), (0, .nameAndType 5 9), (0, u "(Ljava/lang/String;)V"), (9, .class_ 20), (0, u "java/lang/Exception"), (0, u "serialVersionUID"), (0, u "J")] 17

def k8m0 : Method := { name := "<init>", desc := "()V", sig := { parameters := [], returnType := none }, accessFlags := 1, code := none }
def k8c1 : Code := { maxStack := 2, maxLocals := 2, code := jdk_59_method_2_code, exceptionTable := #[], attributes := #[] }
def k8m1 : Method := { name := "<init>", desc := "(Ljava/lang/String;)V", sig := { parameters := [(.object "java/lang/String")], returnType := none }, accessFlags := 1, code := some k8c1 }
/-- java/lang/Exception -/
def k8 : Class := { plain "java/lang/Exception" (some 7) with
  accessFlags := 33
  interfaces := #[]
  cf := some (fileOf pool8 19 #[] #[{ accessFlags := 1, nameIndex := 5, descriptorIndex := 6, attributes := #[] }, { accessFlags := 1, nameIndex := 5, descriptorIndex := 9, attributes := #[] }] 33 2 #[] #[{ accessFlags := 24, nameIndex := 21, descriptorIndex := 22, attributes := #[] }])
  fields := #[{ name := "serialVersionUID", type := .long, accessFlags := 24, slot := 0, constantValue := 0 }]
  methods := #[k8m0, k8m1]
  instanceTypes := #[(.object "java/lang/Object"), (.object "java/lang/String"), (.object "java/lang/Throwable"), (.array (.object "java/lang/StackTraceElement")), .int, (.object "java/util/List")]
  staticTypes := #[.long]
  resolved := Array.replicate 40 none
  statics := none }

def pool9 : Array CpInfo := pool [(2, .class_ 4), (1, u "java/lang/Exception"), (0, u "<init>"), (0, u "()V"), (0, .methodref 2 8), (0, .nameAndType 5 9), (0, u "(Ljava/lang/String;)V"), (9, .class_ 20), (0, u "java/lang/RuntimeException"), (0, u "serialVersionUID"), (0, u "J")] 17

def k9m0 : Method := { name := "<init>", desc := "()V", sig := { parameters := [], returnType := none }, accessFlags := 1, code := none }
def k9c1 : Code := { maxStack := 2, maxLocals := 2, code := jdk_58_method_2_code, exceptionTable := #[], attributes := #[] }
def k9m1 : Method := { name := "<init>", desc := "(Ljava/lang/String;)V", sig := { parameters := [(.object "java/lang/String")], returnType := none }, accessFlags := 1, code := some k9c1 }
/-- java/lang/RuntimeException -/
def k9 : Class := { plain "java/lang/RuntimeException" (some 8) with
  accessFlags := 33
  interfaces := #[]
  cf := some (fileOf pool9 19 #[] #[{ accessFlags := 1, nameIndex := 5, descriptorIndex := 6, attributes := #[] }, { accessFlags := 1, nameIndex := 5, descriptorIndex := 9, attributes := #[] }] 33 2 #[] #[{ accessFlags := 24, nameIndex := 21, descriptorIndex := 22, attributes := #[] }])
  fields := #[{ name := "serialVersionUID", type := .long, accessFlags := 24, slot := 0, constantValue := 0 }]
  methods := #[k9m0, k9m1]
  instanceTypes := #[(.object "java/lang/Object"), (.object "java/lang/String"), (.object "java/lang/Throwable"), (.array (.object "java/lang/StackTraceElement")), .int, (.object "java/util/List")]
  staticTypes := #[.long]
  resolved := Array.replicate 40 none
  statics := none }

def pool10 : Array CpInfo := pool [(2, .class_ 4), (1, u "java/lang/RuntimeException"), (0, u "<init>"), (0, u "()V"), (0, .methodref 2 8), (0, .nameAndType 5 9), (0, u "(Ljava/lang/String;)V"), (0, .class_ 11), (0, u "java/lang/ArithmeticException"), (0, u "serialVersionUID"), (0, u "J")] 12

def k10m0 : Method := { name := "<init>", desc := "()V", sig := { parameters := [], returnType := none }, accessFlags := 1, code := none }
def k10c1 : Code := { maxStack := 2, maxLocals := 2, code := jdk_84_method_2_code, exceptionTable := #[], attributes := #[] }
def k10m1 : Method := { name := "<init>", desc := "(Ljava/lang/String;)V", sig := { parameters := [(.object "java/lang/String")], returnType := none }, accessFlags := 1, code := some k10c1 }
/-- java/lang/ArithmeticException -/
def k10 : Class := { plain "java/lang/ArithmeticException" (some 9) with
  accessFlags := 33
  interfaces := #[]
  cf := some (fileOf pool10 10 #[] #[{ accessFlags := 1, nameIndex := 5, descriptorIndex := 6, attributes := #[] }, { accessFlags := 1, nameIndex := 5, descriptorIndex := 9, attributes := #[] }] 33 2 #[] #[{ accessFlags := 26, nameIndex := 12, descriptorIndex := 13, attributes := #[] }])
  fields := #[{ name := "serialVersionUID", type := .long, accessFlags := 26, slot := 0, constantValue := 0 }]
  methods := #[k10m0, k10m1]
  instanceTypes := #[(.object "java/lang/Object"), (.object "java/lang/String"), (.object "java/lang/Throwable"), (.array (.object "java/lang/StackTraceElement")), .int, (.object "java/util/List")]
  staticTypes := #[.long]
  resolved := Array.replicate 26 none
  statics := none }

def pool11 : Array CpInfo := pool [(1, .class_ 2), (0, u "java/lang/Comparable"), (0, .class_ 4), (0, u "java/lang/Object")] 7

/-- java/lang/Comparable -/
def k11 : Class := { plain "java/lang/Comparable" (some 0) with
  accessFlags := 1537
  interfaces := #[]
  cf := some (fileOf pool11 1 #[] #[] 1537 3 #[] #[])
  fields := #[]
  methods := #[]
  instanceTypes := #[]
  staticTypes := #[]
  resolved := Array.replicate 12 none
  statics := none }

def pool12 : Array CpInfo := pool [(2, .class_ 4), (1, u "java/lang/CharSequence"), (42, .class_ 48), (0, u "java/lang/CharSequence$1CodePointIterator"), (10, .class_ 60), (0, u "java/lang/CharSequence$1CharIterator"), (5, .class_ 67), (0, u "java/lang/Object")] 63

/-- java/lang/CharSequence -/
def k12 : Class := { plain "java/lang/CharSequence" (some 0) with
  accessFlags := 1537
  interfaces := #[]
  cf := some (fileOf pool12 2 #[.nestMembers #[47, 59]] #[] 1537 66 #[] #[])
  fields := #[]
  methods := #[]
  instanceTypes := #[]
  staticTypes := #[]
  resolved := Array.replicate 131 none
  statics := none }

def pool13 : Array CpInfo := pool [(1, .class_ 2), (0, u "java/lang/constant/Constable"), (0, .class_ 4), (0, u "java/lang/Object")] 6

/-- java/lang/constant/Constable -/
def k13 : Class := { plain "java/lang/constant/Constable" (some 0) with
  accessFlags := 1537
  interfaces := #[]
  cf := some (fileOf pool13 1 #[] #[] 1537 3 #[] #[])
  fields := #[]
  methods := #[]
  instanceTypes := #[]
  staticTypes := #[]
  resolved := Array.replicate 11 none
  statics := none }

def pool14 : Array CpInfo := pool [(1, .class_ 2), (0, u "java/lang/constant/ConstantDesc"), (0, .class_ 4), (0, u "java/lang/Object")] 32

/-- java/lang/constant/ConstantDesc -/
def k14 : Class := { plain "java/lang/constant/ConstantDesc" (some 0) with
  accessFlags := 1537
  interfaces := #[]
  cf := some (fileOf pool14 1 #[] #[] 1537 3 #[] #[])
  fields := #[]
  methods := #[]
  instanceTypes := #[]
  staticTypes := #[]
  resolved := Array.replicate 37 none
  statics := none }

def pool15 : Array CpInfo := pool [(2, .class_ 4), (1, u "java/lang/Object"), (0, u "<init>"), (0, u "()V"), (3, .class_ 12), (1, u "java/lang/String"), (0, u "value"), (0, u "[B"), (2, u "coder"), (0, u "B"), (2, u "hash"), (0, u "I"), (2, u "hashIsZero"), (0, u "Z"), (13, u "COMPACT_STRINGS"), (534, .class_ 576), (0, u "java/lang/CharSequence"), (22, u "CASE_INSENSITIVE_ORDER"), (0, u "Ljava/util/Comparator;"), (500, u "serialPersistentFields"), (0, u "[Ljava/io/ObjectStreamField;"), (0, .class_ 1104), (0, u "java/lang/String$CaseInsensitiveComparator"), (1, .class_ 1107), (0, u "java/io/Serializable"), (0, .class_ 1109), (0, u "java/lang/Comparable"), (0, .class_ 1111), (0, u "java/lang/constant/Constable"), (0, .class_ 1113), (0, u "java/lang/constant/ConstantDesc"), (2, u "serialVersionUID"), (0, u "J"), (3, u "REPL"), (0, u "C"), (2, u "LATIN1"), (1, u "UTF16")] 323

def k15m0 : Method := { name := "<init>", desc := "()V", sig := { parameters := [], returnType := none }, accessFlags := 1, code := none }
/-- java/lang/String -/
def k15 : Class := { plain "java/lang/String" (some 0) with
  accessFlags := 49
  interfaces := #[6, 11, 12, 13, 14]
  cf := some (fileOf pool15 10 #[.nestMembers #[1103]] #[{ accessFlags := 1, nameIndex := 5, descriptorIndex := 6, attributes := #[] }] 49 2 #[1106, 1108, 575, 1110, 1112] #[{ accessFlags := 18, nameIndex := 13, descriptorIndex := 14, attributes := #[] }, { accessFlags := 18, nameIndex := 17, descriptorIndex := 18, attributes := #[] }, { accessFlags := 2, nameIndex := 21, descriptorIndex := 22, attributes := #[] }, { accessFlags := 2, nameIndex := 25, descriptorIndex := 26, attributes := #[] }, { accessFlags := 26, nameIndex := 1116, descriptorIndex := 1117, attributes := #[] }, { accessFlags := 24, nameIndex := 40, descriptorIndex := 26, attributes := #[] }, { accessFlags := 26, nameIndex := 1101, descriptorIndex := 1102, attributes := #[] }, { accessFlags := 26, nameIndex := 1121, descriptorIndex := 1122, attributes := #[] }, { accessFlags := 25, nameIndex := 599, descriptorIndex := 600, attributes := #[] }, { accessFlags := 24, nameIndex := 1125, descriptorIndex := 18, attributes := #[] }, { accessFlags := 24, nameIndex := 1127, descriptorIndex := 18, attributes := #[] }])
  fields := #[{ name := "value", type := (.array .byte), accessFlags := 18, slot := 0, constantValue := 0 }, { name := "coder", type := .byte, accessFlags := 18, slot := 1, constantValue := 0 }, { name := "hash", type := .int, accessFlags := 2, slot := 2, constantValue := 0 }, { name := "hashIsZero", type := .boolean, accessFlags := 2, slot := 3, constantValue := 0 }, { name := "serialVersionUID", type := .long, accessFlags := 26, slot := 0, constantValue := 0 }, { name := "COMPACT_STRINGS", type := .boolean, accessFlags := 24, slot := 1, constantValue := 0 }, { name := "serialPersistentFields", type := (.array (.object "java/io/ObjectStreamField")), accessFlags := 26, slot := 2, constantValue := 0 }, { name := "REPL", type := .char, accessFlags := 26, slot := 3, constantValue := 0 }, { name := "CASE_INSENSITIVE_ORDER", type := (.object "java/util/Comparator"), accessFlags := 25, slot := 4, constantValue := 0 }, { name := "LATIN1", type := .byte, accessFlags := 24, slot := 5, constantValue := 0 }, { name := "UTF16", type := .byte, accessFlags := 24, slot := 6, constantValue := 0 }]
  methods := #[k15m0]
  instanceTypes := #[(.array .byte), .byte, .int, .boolean]
  staticTypes := #[.long, .boolean, (.array (.object "java/io/ObjectStreamField")), .char, (.object "java/util/Comparator"), .byte, .byte]
  resolved := Array.replicate 1451 none
  statics := none }

def pool16 : Array CpInfo := pool [(2, .class_ 4), (1, u "java/lang/Object"), (0, u "<init>"), (0, u "()V"), (12, .class_ 20), (0, u "java/util/Collections"), (63, u "r"), (0, u "Ljava/util/Random;"), (80, .class_ 167), (0, u "java/util/Collections$UnmodifiableCollection"), (6, .class_ 175), (0, u "java/util/Collections$UnmodifiableSequencedCollection"), (6, .class_ 183), (0, u "java/util/Collections$UnmodifiableSet"), (6, .class_ 191), (0, u "java/util/Collections$UnmodifiableSequencedSet"), (6, .class_ 199), (0, u "java/util/Collections$UnmodifiableSortedSet"), (6, .class_ 207), (0, u "java/util/Collections$UnmodifiableNavigableSet"), (4, .class_ 213), (0, u "java/util/Collections$UnmodifiableList"), (1, .class_ 216), (0, u "java/util/Collections$UnmodifiableRandomAccessList"), (6, .class_ 224), (0, u "java/util/Collections$UnmodifiableMap"), (6, .class_ 232), (0, u "java/util/Collections$UnmodifiableSequencedMap"), (4, .class_ 238), (0, u "java/util/Collections$UnmodifiableSortedMap"), (6, .class_ 246), (0, u "java/util/Collections$UnmodifiableNavigableMap"), (3, .class_ 251), (0, u "java/util/Collections$SynchronizedCollection"), (4, .class_ 257), (0, u "java/util/Collections$SynchronizedSet"), (4, .class_ 263), (0, u "java/util/Collections$SynchronizedSortedSet"), (1, .class_ 266), (0, u "java/util/Collections$SynchronizedNavigableSet"), (1, .class_ 269), (0, u "java/util/Collections$SynchronizedRandomAccessList"), (1, .class_ 272), (0, u "java/util/Collections$SynchronizedList"), (5, .class_ 279), (0, u "java/util/Collections$SynchronizedMap"), (1, .class_ 282), (0, u "java/util/Collections$SynchronizedSortedMap"), (1, .class_ 285), (0, u "java/util/Collections$SynchronizedNavigableMap"), (1, .class_ 288), (0, u "java/util/Collections$CheckedCollection"), (11, .class_ 301), (0, u "java/util/Collections$CheckedQueue"), (3, .class_ 306), (0, u "java/util/Collections$CheckedSet"), (3, .class_ 311), (0, u "java/util/Collections$CheckedSortedSet"), (3, .class_ 316), (0, u "java/util/Collections$CheckedNavigableSet"), (3, .class_ 321), (0, u "java/util/Collections$CheckedRandomAccessList"), (3, .class_ 326), (0, u "java/util/Collections$CheckedList"), (1, .class_ 329), (0, u "java/util/Collections$CheckedMap"), (3, .class_ 334), (0, u "java/util/Collections$CheckedSortedMap"), (3, .class_ 339), (0, u "java/util/Collections$CheckedNavigableMap"), (4, .class_ 346), (1, u "java/util/Collections$EmptyIterator"), (3, .class_ 352), (1, u "java/util/Collections$EmptyListIterator"), (2, .class_ 357), (1, u "java/util/Collections$EmptyEnumeration"), (4, u "EMPTY_SET"), (0, u "Ljava/util/Set;"), (6, u "EMPTY_LIST"), (0, u "Ljava/util/List;"), (2, u "EMPTY_MAP"), (0, u "Ljava/util/Map;"), (4, .class_ 381), (0, u "java/util/Collections$SingletonSet"), (2, .class_ 385), (0, u "java/util/Collections$1"), (1, .class_ 388), (0, u "java/util/Collections$2"), (1, .class_ 391), (0, u "java/util/Collections$SingletonList"), (1, .class_ 394), (0, u "java/util/Collections$SingletonMap"), (22, .class_ 418), (0, u "java/util/Collections$CopiesList"), (4, .class_ 425), (1, u "java/util/Collections$ReverseComparator"), (8, .class_ 435), (0, u "java/util/Collections$ReverseComparator2"), (6, .class_ 443), (0, u "java/util/Collections$3"), (25, .class_ 470), (0, u "java/util/Collections$SetFromMap"), (2, .class_ 474), (0, u "java/util/Collections$SequencedSetFromMap"), (3, .class_ 479), (0, u "java/util/Collections$AsLIFOQueue"), (11, .class_ 492), (0, u "java/util/Collections$EmptySet"), (1, .class_ 495), (0, u "java/util/Collections$EmptyList"), (1, .class_ 498), (0, u "java/util/Collections$EmptyMap"), (1, u "BINARYSEARCH_THRESHOLD"), (0, u "I"), (2, u "REVERSE_THRESHOLD"), (1, u "SHUFFLE_THRESHOLD"), (1, u "FILL_THRESHOLD"), (1, u "ROTATE_THRESHOLD"), (1, u "COPY_THRESHOLD"), (1, u "REPLACEALL_THRESHOLD"), (1, u "INDEXOFSUBLIST_THRESHOLD"), (333, .class_ 851), (0, u "java/util/Collections$CheckedMap$CheckedEntrySet"), (0, .class_ 853), (0, u "java/util/Collections$CheckedMap$CheckedEntrySet$CheckedEntry"), (0, .class_ 855), (0, u "java/util/Collections$CheckedMap$CheckedEntrySet$1"), (0, .class_ 857), (0, u "java/util/Collections$CheckedList$1"), (0, .class_ 859), (0, u "java/util/Collections$CheckedCollection$1"), (0, .class_ 861), (0, u "java/util/Collections$UnmodifiableNavigableMap$EmptyNavigableMap"), (0, .class_ 863), (0, u "java/util/Collections$UnmodifiableMap$UnmodifiableEntrySet"), (0, .class_ 865), (0, u "java/util/Collections$UnmodifiableMap$UnmodifiableEntrySet$UnmodifiableEntry"), (0, .class_ 867), (0, u "java/util/Collections$UnmodifiableMap$UnmodifiableEntrySet$UnmodifiableEntrySetSpliterator"), (0, .class_ 869), (0, u "java/util/Collections$UnmodifiableMap$UnmodifiableEntrySet$1"), (0, .class_ 871), (0, u "java/util/Collections$UnmodifiableList$1"), (0, .class_ 873), (0, u "java/util/Collections$UnmodifiableNavigableSet$EmptyNavigableSet"), (0, .class_ 875), (0, u "java/util/Collections$UnmodifiableCollection$1")] 57

def k16m0 : Method := { name := "<init>", desc := "()V", sig := { parameters := [], returnType := none }, accessFlags := 2, code := none }
/-- java/util/Collections -/
def k16 : Class := { plain "java/util/Collections" (some 0) with
  accessFlags := 33
  interfaces := #[]
  cf := some (fileOf pool16 19 #[.nestMembers #[478, 473, 469, 434, 423, 417, 393, 390, 380, 497, 494, 491, 355, 350, 344, 338, 333, 328, 850, 852, 854, 320, 325, 856, 315, 310, 305, 300, 287, 858, 284, 281, 278, 268, 271, 265, 262, 256, 250, 245, 860, 237, 231, 223, 862, 864, 866, 868, 215, 212, 870, 206, 872, 198, 190, 182, 174, 166, 874, 442, 387, 384]] #[{ accessFlags := 2, nameIndex := 5, descriptorIndex := 6, attributes := #[] }] 33 2 #[] #[{ accessFlags := 26, nameIndex := 500, descriptorIndex := 501, attributes := #[] }, { accessFlags := 26, nameIndex := 504, descriptorIndex := 501, attributes := #[] }, { accessFlags := 26, nameIndex := 506, descriptorIndex := 501, attributes := #[] }, { accessFlags := 26, nameIndex := 508, descriptorIndex := 501, attributes := #[] }, { accessFlags := 26, nameIndex := 510, descriptorIndex := 501, attributes := #[] }, { accessFlags := 26, nameIndex := 512, descriptorIndex := 501, attributes := #[] }, { accessFlags := 26, nameIndex := 514, descriptorIndex := 501, attributes := #[] }, { accessFlags := 26, nameIndex := 516, descriptorIndex := 501, attributes := #[] }, { accessFlags := 10, nameIndex := 84, descriptorIndex := 85, attributes := #[] }, { accessFlags := 25, nameIndex := 362, descriptorIndex := 363, attributes := #[] }, { accessFlags := 25, nameIndex := 370, descriptorIndex := 371, attributes := #[] }, { accessFlags := 25, nameIndex := 374, descriptorIndex := 375, attributes := #[] }])
  fields := #[{ name := "BINARYSEARCH_THRESHOLD", type := .int, accessFlags := 26, slot := 0, constantValue := 0 }, { name := "REVERSE_THRESHOLD", type := .int, accessFlags := 26, slot := 1, constantValue := 0 }, { name := "SHUFFLE_THRESHOLD", type := .int, accessFlags := 26, slot := 2, constantValue := 0 }, { name := "FILL_THRESHOLD", type := .int, accessFlags := 26, slot := 3, constantValue := 0 }, { name := "ROTATE_THRESHOLD", type := .int, accessFlags := 26, slot := 4, constantValue := 0 }, { name := "COPY_THRESHOLD", type := .int, accessFlags := 26, slot := 5, constantValue := 0 }, { name := "REPLACEALL_THRESHOLD", type := .int, accessFlags := 26, slot := 6, constantValue := 0 }, { name := "INDEXOFSUBLIST_THRESHOLD", type := .int, accessFlags := 26, slot := 7, constantValue := 0 }, { name := "r", type := (.object "java/util/Random"), accessFlags := 10, slot := 8, constantValue := 0 }, { name := "EMPTY_SET", type := (.object "java/util/Set"), accessFlags := 25, slot := 9, constantValue := 0 }, { name := "EMPTY_LIST", type := (.object "java/util/List"), accessFlags := 25, slot := 10, constantValue := 0 }, { name := "EMPTY_MAP", type := (.object "java/util/Map"), accessFlags := 25, slot := 11, constantValue := 0 }]
  methods := #[k16m0]
  instanceTypes := #[]
  staticTypes := #[.int, .int, .int, .int, .int, .int, .int, .int, (.object "java/util/Random"), (.object "java/util/Set"), (.object "java/util/List"), (.object "java/util/Map")]
  resolved := Array.replicate 933 none
  statics := some 1 }

def pool17 : Array CpInfo := pool [(8, .class_ 10), (1, u "java/lang/Iterable"), (24, .class_ 36), (0, u "java/lang/Object")] 25

/-- java/lang/Iterable -/
def k17 : Class := { plain "java/lang/Iterable" (some 0) with
  accessFlags := 1537
  interfaces := #[]
  cf := some (fileOf pool17 8 #[] #[] 1537 35 #[] #[])
  fields := #[]
  methods := #[]
  instanceTypes := #[]
  staticTypes := #[]
  resolved := Array.replicate 62 none
  statics := none }

def pool18 : Array CpInfo := pool [(10, .class_ 12), (1, u "java/util/Collection"), (47, .class_ 61), (0, u "java/lang/Object"), (0, .class_ 63), (0, u "java/lang/Iterable")] 51

/-- java/util/Collection -/
def k18 : Class := { plain "java/util/Collection" (some 0) with
  accessFlags := 1537
  interfaces := #[17]
  cf := some (fileOf pool18 10 #[] #[] 1537 60 #[62] #[])
  fields := #[]
  methods := #[]
  instanceTypes := #[]
  staticTypes := #[]
  resolved := Array.replicate 115 none
  statics := none }

def pool19 : Array CpInfo := pool [(2, .class_ 4), (1, u "java/lang/Object"), (0, u "<init>"), (0, u "()V"), (1, .class_ 10), (1, u "java/util/AbstractCollection"), (66, .class_ 78), (0, u "java/util/Collection")] 81

def k19m0 : Method := { name := "<init>", desc := "()V", sig := { parameters := [], returnType := none }, accessFlags := 4, code := none }
/-- java/util/AbstractCollection -/
def k19 : Class := { plain "java/util/AbstractCollection" (some 0) with
  accessFlags := 1057
  interfaces := #[18]
  cf := some (fileOf pool19 8 #[] #[{ accessFlags := 4, nameIndex := 5, descriptorIndex := 6, attributes := #[] }] 1057 2 #[77] #[])
  fields := #[]
  methods := #[k19m0]
  instanceTypes := #[]
  staticTypes := #[]
  resolved := Array.replicate 160 none
  statics := none }

def pool20 : Array CpInfo := pool [(8, .class_ 10), (1, u "java/util/SequencedCollection"), (15, .class_ 27), (0, u "java/lang/Object"), (0, .class_ 29), (0, u "java/util/Collection")] 27

/-- java/util/SequencedCollection -/
def k20 : Class := { plain "java/util/SequencedCollection" (some 0) with
  accessFlags := 1537
  interfaces := #[18]
  cf := some (fileOf pool20 8 #[] #[] 1537 26 #[28] #[])
  fields := #[]
  methods := #[]
  instanceTypes := #[]
  staticTypes := #[]
  resolved := Array.replicate 57 none
  statics := none }

def pool21 : Array CpInfo := pool [(8, .class_ 10), (1, u "java/util/List"), (92, .class_ 104), (0, u "java/lang/Object"), (15, .class_ 121), (0, u "java/util/SequencedCollection")] 129

/-- java/util/List -/
def k21 : Class := { plain "java/util/List" (some 0) with
  accessFlags := 1537
  interfaces := #[20]
  cf := some (fileOf pool21 8 #[] #[] 1537 103 #[120] #[])
  fields := #[]
  methods := #[]
  instanceTypes := #[]
  staticTypes := #[]
  resolved := Array.replicate 251 none
  statics := none }

def pool22 : Array CpInfo := pool [(2, .class_ 4), (1, u "java/util/AbstractCollection"), (0, u "<init>"), (0, u "()V"), (1, .class_ 10), (1, u "java/util/AbstractList"), (0, u "modCount"), (0, u "I"), (64, .class_ 78), (0, u "java/util/AbstractList$Itr"), (3, .class_ 83), (0, u "java/util/AbstractList$ListItr"), (9, .class_ 94), (0, u "java/util/AbstractList$RandomAccessSubList"), (3, .class_ 99), (0, u "java/util/AbstractList$SubList"), (33, .class_ 134), (0, u "java/util/List"), (73, .class_ 209), (0, u "java/util/AbstractList$SubList$1"), (0, .class_ 211), (0, u "java/util/AbstractList$RandomAccessSpliterator")] 6

def k22m0 : Method := { name := "<init>", desc := "()V", sig := { parameters := [], returnType := none }, accessFlags := 4, code := none }
/-- java/util/AbstractList -/
def k22 : Class := { plain "java/util/AbstractList" (some 19) with
  accessFlags := 1057
  interfaces := #[21]
  cf := some (fileOf pool22 8 #[.nestMembers #[93, 98, 208, 210, 82, 77]] #[{ accessFlags := 4, nameIndex := 5, descriptorIndex := 6, attributes := #[] }] 1057 2 #[133] #[{ accessFlags := 132, nameIndex := 11, descriptorIndex := 12, attributes := #[] }])
  fields := #[{ name := "modCount", type := .int, accessFlags := 132, slot := 0, constantValue := 0 }]
  methods := #[k22m0]
  instanceTypes := #[.int]
  staticTypes := #[]
  resolved := Array.replicate 218 none
  statics := none }

def pool23 : Array CpInfo := pool [(1, .class_ 2), (0, u "java/util/RandomAccess"), (0, .class_ 4), (0, u "java/lang/Object")] 2

/-- java/util/RandomAccess -/
def k23 : Class := { plain "java/util/RandomAccess" (some 0) with
  accessFlags := 1537
  interfaces := #[]
  cf := some (fileOf pool23 1 #[] #[] 1537 3 #[] #[])
  fields := #[]
  methods := #[]
  instanceTypes := #[]
  staticTypes := #[]
  resolved := Array.replicate 7 none
  statics := none }

def pool24 : Array CpInfo := pool [(2, .class_ 4), (1, u "java/util/AbstractList"), (0, u "<init>"), (0, u "()V"), (1, .class_ 10), (1, u "java/util/Collections"), (54, .class_ 66), (0, u "java/util/Collections$EmptyList"), (0, .class_ 68), (0, u "java/util/RandomAccess"), (0, .class_ 70), (0, u "java/io/Serializable"), (0, u "serialVersionUID"), (0, u "J")] 77

def k24m0 : Method := { name := "<init>", desc := "()V", sig := { parameters := [], returnType := none }, accessFlags := 2, code := none }
/-- java/util/Collections$EmptyList -/
def k24 : Class := { plain "java/util/Collections$EmptyList" (some 22) with
  accessFlags := 32
  interfaces := #[23, 6]
  cf := some (fileOf pool24 65 #[.nestHost 8] #[{ accessFlags := 2, nameIndex := 5, descriptorIndex := 6, attributes := #[] }] 32 2 #[67, 69] #[{ accessFlags := 26, nameIndex := 71, descriptorIndex := 72, attributes := #[] }])
  fields := #[{ name := "serialVersionUID", type := .long, accessFlags := 26, slot := 0, constantValue := 0 }]
  methods := #[k24m0]
  instanceTypes := #[.int]
  staticTypes := #[.long]
  resolved := Array.replicate 150 none
  statics := none }

def pool25 : Array CpInfo := pool [(2, .class_ 4), (1, u "java/lang/StackTraceElement"), (0, u "<init>"), (2, .class_ 10), (1, u "java/lang/Object"), (0, u "()V"), (2, u "format"), (0, u "B"), (2, u "classLoaderName"), (0, u "Ljava/lang/String;"), (2, u "moduleName"), (2, u "moduleVersion"), (12, u "declaringClass"), (4, u "methodName"), (2, u "fileName"), (2, u "lineNumber"), (0, u "I"), (65, u "declaringClassObject"), (0, u "Ljava/lang/Class;"), (33, .class_ 153), (1, u "java/lang/StackTraceElement$HashedModules"), (17, .class_ 172), (0, u "java/io/Serializable"), (0, u "NATIVE_METHOD"), (1, u "UNKNOWN_SOURCE"), (2, u "BUILTIN_CLASS_LOADER"), (1, u "JDK_NON_UPGRADEABLE_MODULE"), (1, u "serialVersionUID"), (0, u "J")] 51

def k25m0 : Method := { name := "<init>", desc := "()V", sig := { parameters := [], returnType := none }, accessFlags := 2, code := none }
/-- java/lang/StackTraceElement -/
def k25 : Class := { plain "java/lang/StackTraceElement" (some 0) with
  accessFlags := 49
  interfaces := #[6]
  cf := some (fileOf pool25 2 #[.nestMembers #[151]] #[{ accessFlags := 2, nameIndex := 5, descriptorIndex := 11, attributes := #[] }] 49 8 #[171] #[{ accessFlags := 26, nameIndex := 173, descriptorIndex := 19, attributes := #[] }, { accessFlags := 26, nameIndex := 175, descriptorIndex := 19, attributes := #[] }, { accessFlags := 130, nameIndex := 116, descriptorIndex := 117, attributes := #[] }, { accessFlags := 2, nameIndex := 18, descriptorIndex := 19, attributes := #[] }, { accessFlags := 2, nameIndex := 22, descriptorIndex := 19, attributes := #[] }, { accessFlags := 2, nameIndex := 25, descriptorIndex := 19, attributes := #[] }, { accessFlags := 2, nameIndex := 38, descriptorIndex := 19, attributes := #[] }, { accessFlags := 2, nameIndex := 43, descriptorIndex := 19, attributes := #[] }, { accessFlags := 2, nameIndex := 46, descriptorIndex := 19, attributes := #[] }, { accessFlags := 2, nameIndex := 49, descriptorIndex := 50, attributes := #[] }, { accessFlags := 2, nameIndex := 14, descriptorIndex := 15, attributes := #[] }, { accessFlags := 26, nameIndex := 178, descriptorIndex := 15, attributes := #[] }, { accessFlags := 26, nameIndex := 180, descriptorIndex := 15, attributes := #[] }, { accessFlags := 26, nameIndex := 182, descriptorIndex := 183, attributes := #[] }])
  fields := #[{ name := "NATIVE_METHOD", type := (.object "java/lang/String"), accessFlags := 26, slot := 0, constantValue := 0 }, { name := "UNKNOWN_SOURCE", type := (.object "java/lang/String"), accessFlags := 26, slot := 1, constantValue := 0 }, { name := "declaringClassObject", type := (.object "java/lang/Class"), accessFlags := 130, slot := 0, constantValue := 0 }, { name := "classLoaderName", type := (.object "java/lang/String"), accessFlags := 2, slot := 1, constantValue := 0 }, { name := "moduleName", type := (.object "java/lang/String"), accessFlags := 2, slot := 2, constantValue := 0 }, { name := "moduleVersion", type := (.object "java/lang/String"), accessFlags := 2, slot := 3, constantValue := 0 }, { name := "declaringClass", type := (.object "java/lang/String"), accessFlags := 2, slot := 4, constantValue := 0 }, { name := "methodName", type := (.object "java/lang/String"), accessFlags := 2, slot := 5, constantValue := 0 }, { name := "fileName", type := (.object "java/lang/String"), accessFlags := 2, slot := 6, constantValue := 0 }, { name := "lineNumber", type := .int, accessFlags := 2, slot := 7, constantValue := 0 }, { name := "format", type := .byte, accessFlags := 2, slot := 8, constantValue := 0 }, { name := "BUILTIN_CLASS_LOADER", type := .byte, accessFlags := 26, slot := 2, constantValue := 0 }, { name := "JDK_NON_UPGRADEABLE_MODULE", type := .byte, accessFlags := 26, slot := 3, constantValue := 0 }, { name := "serialVersionUID", type := .long, accessFlags := 26, slot := 4, constantValue := 0 }]
  methods := #[k25m0]
  instanceTypes := #[(.object "java/lang/Class"), (.object "java/lang/String"), (.object "java/lang/String"), (.object "java/lang/String"), (.object "java/lang/String"), (.object "java/lang/String"), (.object "java/lang/String"), .int, .byte]
  staticTypes := #[(.object "java/lang/String"), (.object "java/lang/String"), .byte, .byte, .long]
  resolved := Array.replicate 235 none
  statics := none }

def pool26 : Array CpInfo := pool [(1, u "java/lang/Cloneable"), (0, .class_ 1), (0, u "java/lang/Object"), (0, .class_ 3)] 3

/-- java/lang/Cloneable -/
def k26 : Class := { plain "java/lang/Cloneable" (some 0) with
  accessFlags := 1537
  interfaces := #[]
  cf := some (fileOf pool26 2 #[] #[] 1537 4 #[] #[])
  fields := #[]
  methods := #[]
  instanceTypes := #[]
  staticTypes := #[]
  resolved := Array.replicate 8 none
  statics := none }

/-- the primitive byte -/
def k27 : Class := { plain "byte" none with kind := .primitive 'B', accessFlags := 0x411 }
/-- [B -/
def k28 : Class := { plain "[B" (some 0) with kind := .array 27 .byte, interfaces := #[26, 6], accessFlags := 1041 }

/-- the primitive int -/
def k29 : Class := { plain "int" none with kind := .primitive 'I', accessFlags := 0x411 }
/-- [I -/
def k30 : Class := { plain "[I" (some 0) with kind := .array 29 .int, interfaces := #[26, 6], accessFlags := 1041 }

/-- [Ljava/lang/Object; -/
def k31 : Class := { plain "[Ljava/lang/Object;" (some 0) with kind := .array 0 (.object "java/lang/Object"), interfaces := #[26, 6], accessFlags := 1041 }

/-- [Ljava/lang/StackTraceElement; -/
def k32 : Class := { plain "[Ljava/lang/StackTraceElement;" (some 0) with kind := .array 25 (.object "java/lang/StackTraceElement"), interfaces := #[26, 6], accessFlags := 1041 }

/-- [Ljava/lang/Throwable; -/
def k33 : Class := { plain "[Ljava/lang/Throwable;" (some 0) with kind := .array 7 (.object "java/lang/Throwable"), interfaces := #[26, 6], accessFlags := 1041 }

def heap : Heap := #[{ cls := 7, slots := #[.long 0, .ref 2, .ref 3, .null, .null, .null, .null, .ref 4, .int 1], vm := .statics 7 },
  { cls := 16, slots := #[.int 0, .int 0, .int 0, .int 0, .int 0, .int 0, .int 0, .int 0, .null, .null, .ref 3, .null], vm := .statics 16 },
  { cls := 32, slots := #[], vm := .none },
  { cls := 24, slots := #[.int 0], vm := .none },
  { cls := 33, slots := #[], vm := .none }]
def classes : Array Class := #[k0, k1, k2, k3, k4, k5, k6, k7, k8, k9, k10, k11, k12, k13, k14, k15, k16, k17, k18, k19, k20, k21, k22, k23, k24, k25, k26, k27, k28, k29, k30, k31, k32, k33]
def interned : List (Array UInt16 × Addr) := []
def slotsUsed : Nat := 22
def theMethod : MethodId := ⟨1, 1⟩
def args0 : Array Value := #[.long 1, .long 2, .long 3, .long 4]
def aboutOver (below : List Frame) : State where
  vm := { classes := classes, interned := interned.toArray }
  heap := heap
  slotsUsed := slotsUsed
  threads := #[{ frames := .invoking theMethod args0 :: below }]
def below0 : List Frame := [.native { method := ⟨0, 0⟩, args := #[] }]
def about1 : State := aboutOver below0
def p0 : Program := .bare "" "" ""
def e0 : Env := launch0.env 0 0 0
theorem w_frames : about1.frames = Frame.invoking theMethod args0 :: below0 := rfl
set_option maxRecDepth 65536 in
theorem w_args : argsFit about1.vm theMethod args0 = true := by decide +kernel
set_option maxRecDepth 65536 in
theorem w_heap : heapFits about1 = true := by decide +kernel
set_option maxRecDepth 65536 in
theorem w_runnable : about1.curStatus? = some .runnable := by decide +kernel
set_option maxRecDepth 65536 in
theorem w_alone : about1.alone = true := by decide +kernel
set_option maxRecDepth 65536 in
theorem w_named : about1.methodNamed? x = some theMethod := by decide +kernel
set_option maxRecDepth 65536 in
theorem w_hears : about1.hears theMethod below0 = true := by decide +kernel
set_option maxRecDepth 65536 in
theorem w_ripe : about1.ripe theMethod args0 below0 = true := by decide +kernel
theorem w_running : about1.status = .running := rfl
set_option maxRecDepth 65536 in
theorem w_room : about1.hasRoom e0.platform room_1 = true :=
  launch0.hasRoom_least _ room_1 (by decide +kernel) (by decide +kernel) (by decide +kernel) (by decide +kernel) (by decide +kernel) (by decide +kernel)
theorem allAtoms_all (ts : List Jvm.Cond) (a : Array Jvm.Value) (st : Jvm.State) : (allAtoms ts).before a st = ts.all (fun c => c.before a st) := by
  induction ts with
  | nil => rfl
  | cons c t ih =>
    show (Jvm.Cond.and c (allAtoms t)).before a st = _
    rw [Jvm.Cond.before_and, ih, List.all_cons]
def words1 : List Jvm.Cond := Jvm.Cond.code x code maxLocals ret :: tables_1
/-- a 'code' word, met by the world's own term for the bytes: nothing is compared byte by byte -/
theorem code_word {y : MethodName} {bytes : ByteArray} {mx : Nat} {rt : Option FieldType} {a : Array Value} {s : State} {m : MethodId} {meth : Method} {c : Code} (h1 : s.methodNamed? y = some m) (h2 : s.vm.method? m = some meth) (h3 : meth.code = some c) (h4 : c.code = bytes)
    (h5 : (c.maxLocals == mx && c.exceptionTable.isEmpty && decide (c.maxStack ≤ mostOperands) && decide (meth.sig.returnType = rt) && !meth.locks && decide (parseMethodDescriptor y.desc = some meth.sig)) = true) : (Jvm.Cond.code y bytes mx rt).before a s = true := by
  simp only [Bool.and_eq_true, beq_iff_eq, Bool.not_eq_true', decide_eq_true_eq] at h5
  obtain ⟨⟨⟨⟨⟨g1, g2⟩, g3⟩, g4⟩, g5⟩, g6⟩ := h5
  simp [Cond.before, Cond.holds, Cond.value, h1, h2, h3, h4, g1, g2, g3, g4, g5, g6]
def isCode : Jvm.Cond → Bool
  | .code _ _ _ _ => true
  | _ => false
theorem all_split {L : List Jvm.Cond} {P : Jvm.Cond → Bool} (h1 : L.all (fun c => isCode c || P c) = true) (h2 : ∀ c ∈ L.filter isCode, P c = true) : L.all P = true := by
  refine List.all_eq_true.mpr fun c hc => ?_
  have h := List.all_eq_true.mp h1 c hc
  rcases Bool.eq_false_or_eq_true (isCode c) with hi | hi
  · exact h2 c (List.mem_filter.mpr ⟨hc, hi⟩)
  · simpa [hi] using h
set_option maxRecDepth 65536 in
theorem w_c0 : (Jvm.Cond.code x code maxLocals ret).before args0 about1 = true := code_word (m := ⟨1, 1⟩) (meth := k1m1) (c := k1c1) (by decide +kernel) rfl rfl rfl (by decide +kernel)
set_option maxRecDepth 65536 in
theorem w_c1 : (Jvm.Cond.code ({ cls := "lambdary/statistics/IntegralSum", name := "<init>", desc := "()V" } : Jvm.MethodName) prog_120_method_1_code (1 : Nat) (Option.none : Option Jvm.ClassFile.FieldType)).before args0 about1 = true := code_word (m := ⟨4, 0⟩) (meth := k4m0) (c := k4c0) (by decide +kernel) rfl rfl rfl (by decide +kernel)
set_option maxRecDepth 65536 in
theorem w_c2 : (Jvm.Cond.code ({ cls := "java/lang/Object", name := "<init>", desc := "()V" } : Jvm.MethodName) object_method_1_code (1 : Nat) (Option.none : Option Jvm.ClassFile.FieldType)).before args0 about1 = true := code_word (m := ⟨0, 0⟩) (meth := k0m0) (c := k0c0) (by decide +kernel) rfl rfl rfl (by decide +kernel)
set_option maxRecDepth 65536 in
theorem w_c3 : (Jvm.Cond.code ({ cls := "java/lang/Math", name := "addExact", desc := "(JJ)J" } : Jvm.MethodName) jdk_29_method_25_code (6 : Nat) (Option.some Jvm.ClassFile.FieldType.long)).before args0 about1 = true := code_word (m := ⟨5, 1⟩) (meth := k5m1) (c := k5c1) (by decide +kernel) rfl rfl rfl (by decide +kernel)
set_option maxRecDepth 65536 in
theorem w_c4 : (Jvm.Cond.code ({ cls := "lambdary/statistics/IntegralSum", name := "sumAsDouble", desc := "()D" } : Jvm.MethodName) prog_120_method_11_code (1 : Nat) (Option.some Jvm.ClassFile.FieldType.double)).before args0 about1 = true := code_word (m := ⟨4, 2⟩) (meth := k4m2) (c := k4c2) (by decide +kernel) rfl rfl rfl (by decide +kernel)
set_option maxRecDepth 65536 in
theorem w_c5 : (Jvm.Cond.code ({ cls := "java/lang/ArithmeticException", name := "<init>", desc := "(Ljava/lang/String;)V" } : Jvm.MethodName) jdk_84_method_2_code (2 : Nat) (Option.none : Option Jvm.ClassFile.FieldType)).before args0 about1 = true := code_word (m := ⟨10, 1⟩) (meth := k10m1) (c := k10c1) (by decide +kernel) rfl rfl rfl (by decide +kernel)
set_option maxRecDepth 65536 in
theorem w_c6 : (Jvm.Cond.code ({ cls := "java/lang/RuntimeException", name := "<init>", desc := "(Ljava/lang/String;)V" } : Jvm.MethodName) jdk_58_method_2_code (2 : Nat) (Option.none : Option Jvm.ClassFile.FieldType)).before args0 about1 = true := code_word (m := ⟨9, 1⟩) (meth := k9m1) (c := k9c1) (by decide +kernel) rfl rfl rfl (by decide +kernel)
set_option maxRecDepth 65536 in
theorem w_c7 : (Jvm.Cond.code ({ cls := "java/lang/Exception", name := "<init>", desc := "(Ljava/lang/String;)V" } : Jvm.MethodName) jdk_59_method_2_code (2 : Nat) (Option.none : Option Jvm.ClassFile.FieldType)).before args0 about1 = true := code_word (m := ⟨8, 1⟩) (meth := k8m1) (c := k8c1) (by decide +kernel) rfl rfl rfl (by decide +kernel)
set_option maxRecDepth 65536 in
theorem w_c8 : (Jvm.Cond.code ({ cls := "java/lang/Throwable", name := "<init>", desc := "(Ljava/lang/String;)V" } : Jvm.MethodName) jdk_78_method_2_code (2 : Nat) (Option.none : Option Jvm.ClassFile.FieldType)).before args0 about1 = true := code_word (m := ⟨7, 1⟩) (meth := k7m1) (c := k7c1) (by decide +kernel) rfl rfl rfl (by decide +kernel)
set_option maxRecDepth 65536 in
theorem w_c9 : (Jvm.Cond.code ({ cls := "java/lang/Throwable", name := "<init>", desc := "()V" } : Jvm.MethodName) jdk_78_method_1_code (1 : Nat) (Option.none : Option Jvm.ClassFile.FieldType)).before args0 about1 = true := code_word (m := ⟨7, 0⟩) (meth := k7m0) (c := k7c0) (by decide +kernel) rfl rfl rfl (by decide +kernel)
set_option maxRecDepth 65536 in
theorem w_c10 : (Jvm.Cond.code ({ cls := "lambdary/statistics/IntegralSum", name := "addToLow", desc := "(J)V" } : Jvm.MethodName) prog_120_method_12_code (5 : Nat) (Option.none : Option Jvm.ClassFile.FieldType)).before args0 about1 = true := code_word (m := ⟨4, 3⟩) (meth := k4m3) (c := k4c3) (by decide +kernel) rfl rfl rfl (by decide +kernel)
def codes1 : List Jvm.Cond := [Jvm.Cond.code x code maxLocals ret, Jvm.Cond.code ({ cls := "lambdary/statistics/IntegralSum", name := "<init>", desc := "()V" } : Jvm.MethodName) prog_120_method_1_code (1 : Nat) (Option.none : Option Jvm.ClassFile.FieldType), Jvm.Cond.code ({ cls := "java/lang/Object", name := "<init>", desc := "()V" } : Jvm.MethodName) object_method_1_code (1 : Nat) (Option.none : Option Jvm.ClassFile.FieldType), Jvm.Cond.code ({ cls := "java/lang/Math", name := "addExact", desc := "(JJ)J" } : Jvm.MethodName) jdk_29_method_25_code (6 : Nat) (Option.some Jvm.ClassFile.FieldType.long), Jvm.Cond.code ({ cls := "lambdary/statistics/IntegralSum", name := "sumAsDouble", desc := "()D" } : Jvm.MethodName) prog_120_method_11_code (1 : Nat) (Option.some Jvm.ClassFile.FieldType.double), Jvm.Cond.code ({ cls := "java/lang/ArithmeticException", name := "<init>", desc := "(Ljava/lang/String;)V" } : Jvm.MethodName) jdk_84_method_2_code (2 : Nat) (Option.none : Option Jvm.ClassFile.FieldType), Jvm.Cond.code ({ cls := "java/lang/RuntimeException", name := "<init>", desc := "(Ljava/lang/String;)V" } : Jvm.MethodName) jdk_58_method_2_code (2 : Nat) (Option.none : Option Jvm.ClassFile.FieldType), Jvm.Cond.code ({ cls := "java/lang/Exception", name := "<init>", desc := "(Ljava/lang/String;)V" } : Jvm.MethodName) jdk_59_method_2_code (2 : Nat) (Option.none : Option Jvm.ClassFile.FieldType), Jvm.Cond.code ({ cls := "java/lang/Throwable", name := "<init>", desc := "(Ljava/lang/String;)V" } : Jvm.MethodName) jdk_78_method_2_code (2 : Nat) (Option.none : Option Jvm.ClassFile.FieldType), Jvm.Cond.code ({ cls := "java/lang/Throwable", name := "<init>", desc := "()V" } : Jvm.MethodName) jdk_78_method_1_code (1 : Nat) (Option.none : Option Jvm.ClassFile.FieldType), Jvm.Cond.code ({ cls := "lambdary/statistics/IntegralSum", name := "addToLow", desc := "(J)V" } : Jvm.MethodName) prog_120_method_12_code (5 : Nat) (Option.none : Option Jvm.ClassFile.FieldType)]
set_option maxRecDepth 65536 in
theorem codes_eq : words1.filter isCode = codes1 := rfl
theorem w_codes : ∀ c ∈ words1.filter isCode, c.before args0 about1 = true := by
  rw [codes_eq]
  intro c hc
  simp only [codes1, List.mem_cons, List.not_mem_nil, or_false] at hc
  rcases hc with rfl | rfl | rfl | rfl | rfl | rfl | rfl | rfl | rfl | rfl | rfl
  · exact w_c0
  · exact w_c1
  · exact w_c2
  · exact w_c3
  · exact w_c4
  · exact w_c5
  · exact w_c6
  · exact w_c7
  · exact w_c8
  · exact w_c9
  · exact w_c10
set_option maxRecDepth 65536 in
theorem w_t1 : (words1.take 24).all (fun c => isCode c || c.before args0 about1) = true := by decide +kernel
set_option maxRecDepth 65536 in
theorem w_t2 : ((words1.drop 24).take 24).all (fun c => isCode c || c.before args0 about1) = true := by decide +kernel
set_option maxRecDepth 65536 in
theorem w_t3 : (((words1.drop 24).drop 24).take 24).all (fun c => isCode c || c.before args0 about1) = true := by decide +kernel
set_option maxRecDepth 65536 in
theorem w_t4 : ((((words1.drop 24).drop 24).drop 24).take 24).all (fun c => isCode c || c.before args0 about1) = true := by decide +kernel
set_option maxRecDepth 65536 in
theorem w_t5 : ((((words1.drop 24).drop 24).drop 24).drop 24).all (fun c => isCode c || c.before args0 about1) = true := by decide +kernel
theorem w_tables : (allAtoms (Jvm.Cond.code x code maxLocals ret :: tables_1)).before args0 about1 = true := by
  rw [allAtoms_all]
  show words1.all (fun c => c.before args0 about1) = true
  refine all_split ?_ w_codes
  rw [← List.take_append_drop 24 words1, List.all_append, w_t1, ← List.take_append_drop 24 (words1.drop 24), List.all_append, w_t2, ← List.take_append_drop 24 ((words1.drop 24).drop 24), List.all_append, w_t3, ← List.take_append_drop 24 (((words1.drop 24).drop 24).drop 24), List.all_append, w_t4, w_t5]
  rfl
set_option maxRecDepth 65536 in
theorem w_rest : rest_1_c.before args0 about1 = true := by decide +kernel
set_option maxRecDepth 65536 in
theorem w_case : (Jvm.Cond.and given_1 narrow_1).before args0 about1 = true := by decide +kernel
theorem w_applies : (headSpec (Jvm.Cond.code x code maxLocals ret :: tables_1) room_1).applies x e0.platform about1 = true :=
  (Spec.applies_iff w_frames).mpr ⟨w_running, w_runnable, w_alone, w_named, w_hears, w_ripe, w_room, w_tables⟩
theorem atStart : AtStart classFile x code maxLocals ret World_1 tables_1 room_1 Calls_1 rest_1 Pre_1 launch0 p0 e0 about1 theMethod args0 below0 :=
  ⟨lists_1, trivial, launch0.admits_env _ _ _, launch0.least_env, fairChoices_fair.cas, fairChoices_fair.clock, w_frames, w_args, w_heap, w_applies, ⟨(by decide +kernel : framesKnown about1 = true), ⟨(by decide +kernel : tablesKnown about1 = true), trivial⟩⟩, w_rest, w_case⟩
end start1
theorem witness_1 : WitnessClaimed_1 := ⟨start1.p0, start1.e0, start1.about1, start1.theMethod, start1.args0, start1.below0, start1.atStart⟩
end Jvm.Pilot.@@N@@
