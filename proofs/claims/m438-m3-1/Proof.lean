import JvmDerived
import JvmDerived.Pilot.@@N@@Statement
import JvmDerived.Pilot.@@N@@Code
set_option linter.unusedVariables false
set_option linter.unusedSimpArgs false
namespace Jvm.RoadKit
open Sem ClassFile Op Lib Jvm.Stand Jvm.Free Jvm.LawKit
section Own
variable {p : Program} {l : Launch} {e : Env} {R : Room} {s : State} {m : MethodId} {args : Array Value} {below : List Frame} {meth : Method} {c : Code} {T : State} {locs : List Loc} {cells slots : Nat}
theorem retI (X : Stand p l e R s m args below meth c T locs cells slots) (hx : p.tables.exec = Jvm.exec) {pc : Nat} {Ls : Array Slot} {z : Int32} {rest : List Value} (hret : meth.sig.returnType = some .int) (hd : decode c.code pc = .ok (.ireturn, 1)) {fs : List Frame}
    (hl : ∀ (f : JFrame) (acts : List Action), f.method = m → f.locked = none → f.entered = [] → (doReturn e (T.setTop f) acts (some (.int z))).1 = T.setFrames fs) : Steps p.tables e below (T.setTop (mkF m pc Ls (.int z :: rest))) (T.setFrames fs) := by
  have hm' : T.vm.method? m = some meth := X.method'
  have hn : narrow .int (.int z) = .int z := rfl
  show Steps p.tables e below (T.setTop { method := m, pc := pc, locals := Ls, stack := _ :: rest, locked := none }) _
  jvm_step X.here [X.here.top, hx, hd, hm', hret, hn]
  first | (intro acts; rw [hl _ acts rfl rfl rfl]) | rw [hl _ _ rfl rfl rfl]
  exact Steps.refl _
/-- the walk comes to an end, with what Φ says there -/
def Goes (p : Program) (e : Env) (below : List Frame) (Φ : State → Outcome → Prop) (S : State) : Prop := ∃ s₂ o, Steps p.tables e below S s₂ ∧ s₂.status = .running ∧ Ended s₂ below o ∧ Φ s₂ o
theorem Goes.via {Φ : State → Outcome → Prop} {S S' : State} (k : ∀ t, Steps p.tables e below S' t → Steps p.tables e below S t) (h : Goes p e below Φ S') : Goes p e below Φ S := by
  obtain ⟨s₂, o, h1, h2, h3, h4⟩ := h
  exact ⟨s₂, o, k _ h1, h2, h3, h4⟩
/-- what a contract's end says -/
def Fin (s : State) (Q : Option Value → Heap → List Loc → Prop) (C S : Nat) : State → Outcome → Prop := fun s₂ o => ∃ v L, o = .returned v ∧ Q v s₂.heap L ∧ FrameEnd s o s₂ L C S
theorem Goes.retN (X : Stand p l e R s m args below meth c T locs cells slots) (hx : p.tables.exec = Jvm.exec) (hlocks : meth.locks = false) {pc : Nat} {Ls : Array Slot} {z : Int32} {t : FieldType} {rest : List Value} (hret : meth.sig.returnType = some t) (ht : t = .boolean ∨ t = .byte ∨ t = .char ∨ t = .short)
    (hd : decode c.code pc = .ok (.ireturn, 1)) {Q : Option Value → Heap → List Loc → Prop} {C S : Nat} (hc : cells ≤ C) (hs : slots ≤ S) (hQ : Q (some (.int (nar t z))) T.heap locs) : Goes p e below (Fin s Q C S) (T.setTop (mkF m pc Ls (.int z :: rest))) := by
  obtain ⟨fs, hr, hrun, hended, hW, hsame⟩ := X.leave (v := some (.int (nar t z))) (fun h => by rw [hret] at h; cases h) hlocks
  exact ⟨_, _, Jvm.RoadKit.retN X hx hret ht hd hr, hrun, hended, _, _, rfl, hQ, ⟨_, rfl⟩, hW, hsame.mono hc hs⟩
theorem Goes.retI (X : Stand p l e R s m args below meth c T locs cells slots) (hx : p.tables.exec = Jvm.exec) (hlocks : meth.locks = false) {pc : Nat} {Ls : Array Slot} {z : Int32} {rest : List Value} (hret : meth.sig.returnType = some .int)
    (hd : decode c.code pc = .ok (.ireturn, 1)) {Q : Option Value → Heap → List Loc → Prop} {C S : Nat} (hc : cells ≤ C) (hs : slots ≤ S) (hQ : Q (some (.int z)) T.heap locs) : Goes p e below (Fin s Q C S) (T.setTop (mkF m pc Ls (.int z :: rest))) := by
  obtain ⟨fs, hr, hrun, hended, hW, hsame⟩ := X.leave (v := some (.int z)) (fun h => by rw [hret] at h; cases h) hlocks
  exact ⟨_, _, Jvm.RoadKit.retI X hx hret hd hr, hrun, hended, _, _, rfl, hQ, ⟨_, rfl⟩, hW, hsame.mono hc hs⟩
theorem Goes.retO (X : Stand p l e R s m args below meth c T locs cells slots) (hx : p.tables.exec = Jvm.exec) (hlocks : meth.locks = false) {pc : Nat} {Ls : Array Slot} {w : Value} {t : FieldType} {i : Instr} {rest : List Value} (hret : meth.sig.returnType = some t) (hn : narrow t w = w)
    (hi : (i = .ireturn ∧ (t = .int ∨ t = .boolean ∨ t = .byte ∨ t = .char ∨ t = .short) ∧ ∃ z, w = .int z) ∨ (i = .lreturn ∧ t = .long ∧ ∃ z, w = .long z) ∨ (i = .dreturn ∧ t = .double ∧ ∃ z, w = .double z) ∨ (i = .freturn ∧ t = .float ∧ ∃ z, w = .float z) ∨ (i = .areturn ∧ t.isReference = true ∧ w.isRef = true))
    (hd : decode c.code pc = .ok (i, 1)) {Q : Option Value → Heap → List Loc → Prop} {C S : Nat} (hc : cells ≤ C) (hs : slots ≤ S) (hQ : Q (some w) T.heap locs) : Goes p e below (Fin s Q C S) (T.setTop (mkF m pc Ls (w :: rest))) := by
  obtain ⟨fs, hr, hrun, hended, hW, hsame⟩ := X.leave (v := some w) (fun h => by rw [hret] at h; cases h) hlocks
  exact ⟨_, _, Jvm.RoadKit.retOut X hx hret hn hi hd hr, hrun, hended, _, _, rfl, hQ, ⟨_, rfl⟩, hW, hsame.mono hc hs⟩
theorem Goes.retV (X : Stand p l e R s m args below meth c T locs cells slots) (hx : p.tables.exec = Jvm.exec) (hlocks : meth.locks = false) {pc : Nat} {Ls : Array Slot} (hret : meth.sig.returnType = none)
    (hd : decode c.code pc = .ok (.return_, 1)) {Q : Option Value → Heap → List Loc → Prop} {C S : Nat} (hc : cells ≤ C) (hs : slots ≤ S) (hQ : Q none T.heap locs) : Goes p e below (Fin s Q C S) (T.setTop (mkF m pc Ls [])) := by
  obtain ⟨fs, hr, hrun, hended, hW, hsame⟩ := X.leave (v := none) (fun _ => rfl) hlocks
  exact ⟨_, _, X.returnOut hx hret hd hr, hrun, hended, _, _, rfl, hQ, ⟨_, rfl⟩, hW, hsame.mono hc hs⟩
/-- room counted generously -/
theorem moreRoom (X : Stand p l e R s m args below meth c T locs cells slots) {k n : Nat} (h1 : cells ≤ k) (h2 : slots ≤ n) : Stand p l e R s m args below meth c T locs k n := { X with same := X.same.mono h1 h2 }
theorem exa_static {args : Array Value} {s : State} {C n d K : String} (h : (Jvm.Cond.exactly (Jvm.Term.static C n d) K).value args s none s [] = some true) : ∃ b, (Jvm.Term.static C n d).eval args s none [] s = some (.ref b) ∧ Exa s s.heap b K := by
  obtain ⟨b, e1⟩ := exa_v h
  exact ⟨b, e1, Exa.start e1 h⟩
theorem fld_static {args : Array Value} {s : State} {t : Jvm.Term} {b : Addr} {C n d : String} {k : Int32} (ev : t.eval args s none [] s = some (.ref b)) (h : (Jvm.Cond.eq (Jvm.Term.field t C n d) (Jvm.Term.int k)).value args s none s [] = some true) : Fld s s.heap b C n d (.int k) := by
  exact Fld.start ((fld_at ev).symm.trans (eqv_i (Term.int_eval k) h))
theorem adr_ne {a b k k' : Nat} (h : a < k) (g : b = k') (q : k ≤ k') : a ≠ b := by omega
theorem cat_ref {v : Value} (h : v.isRef = true) : v.category = 1 := by rcases ref_cases h with rfl | ⟨_, rfl⟩ <;> rfl
theorem narrow_ref {v : Value} {t : FieldType} (h : v.isRef = true) : narrow t v = v := by rcases ref_cases h with rfl | ⟨_, rfl⟩ <;> cases t <;> rfl
theorem fits_refO {v : Value} {C : String} (h : v.isRef = true) : fits (.object C) v = true := by rcases ref_cases h with rfl | ⟨_, rfl⟩ <;> rfl
theorem fld_null {args : Array Value} {s : State} {t : Jvm.Term} {b : Addr} {C n d : String} (ev : t.eval args s none [] s = some (.ref b)) (h : (Jvm.Cond.eq (Jvm.Term.field t C n d) Jvm.Term.null).value args s none s [] = some true) : Fld s s.heap b C n d .null := Fld.start ((fld_at ev).symm.trans (null_v h))
theorem ret1 {z : Int32} (h : z = 1) : some (Value.int (nar .boolean z)) = some (.int 1) := by subst h; rfl
end Own
end Jvm.RoadKit
namespace Jvm.RoadKit
open Sem ClassFile Op Lib Jvm.Stand Jvm.Free Jvm.LawKit
section OwnH
variable {p : Program} {l : Launch} {e : Env} {R : Room} {s : State} {m : MethodId} {args : Array Value} {below : List Frame} {meth : Method} {c : Code} {T : State} {locs : List Loc} {cells slots : Nat} {Z : State} {a0 : Array Value} {EL : List (String × Nat)} {h : Heap}
/-- what a contract's end says where held constants are used -/
def FinH (s Z : State) (EL : List (String × Nat)) (Q : Option Value → Heap → List Loc → Prop) (C S : Nat) : State → Outcome → Prop := fun s₂ o => ∃ v L, o = .returned v ∧ Q v s₂.heap L ∧ CHr Z EL s.vm s.heap s₂.vm s₂.heap ∧ ReturnedEndW s o s₂ L C S
theorem Goes.retOH {vm1 : Vm} (X : Stand p l e R (s.setVm vm1) m args below meth c T locs cells slots) (hx : p.tables.exec = Jvm.exec) (hlocks : meth.locks = false) {k : Nat} (hS : s.Since vm1 k) (hk : k ≤ h.size) (eT : T.heap = h) (hZ : Z.Warmed39 vm1) (hEL : EW Z a0 EL) (hC : CHr Z EL s.vm s.heap vm1 h) {pc : Nat} {Ls : Array Slot} {w : Value} {t : FieldType} {i : Instr} {rest : List Value} (hret : meth.sig.returnType = some t) (hn : narrow t w = w)
    (hi : (i = .ireturn ∧ (t = .int ∨ t = .boolean ∨ t = .byte ∨ t = .char ∨ t = .short) ∧ ∃ z, w = .int z) ∨ (i = .lreturn ∧ t = .long ∧ ∃ z, w = .long z) ∨ (i = .dreturn ∧ t = .double ∧ ∃ z, w = .double z) ∨ (i = .freturn ∧ t = .float ∧ ∃ z, w = .float z) ∨ (i = .areturn ∧ t.isReference = true ∧ w.isRef = true))
    (hd : decode c.code pc = .ok (i, 1)) {Q : Option Value → Heap → List Loc → Prop} {C S : Nat} (hc : cells ≤ C) (hs : slots ≤ S) (hQ : Q (some w) T.heap locs) : Goes p e below (FinH s Z EL Q C S) (T.setTop (mkF m pc Ls (w :: rest))) := by
  subst eT
  have hf : CHr Z EL s.vm s.heap T.vm T.heap := hC.trans (CHv.at X hZ hEL hC.1)
  obtain ⟨fs, hr, hrun, hended, h1, h2, h3, h4⟩ := X.leaveW hS hk (v := some w) (fun h => by rw [hret] at h; cases h) hlocks
  exact ⟨_, _, Jvm.RoadKit.retOut X hx hret hn hi hd hr, hrun, hended, _, _, rfl, hQ, hf, h1, h2, h3, h4.mono hc hs⟩
theorem Goes.retVH {vm1 : Vm} (X : Stand p l e R (s.setVm vm1) m args below meth c T locs cells slots) (hx : p.tables.exec = Jvm.exec) (hlocks : meth.locks = false) {k : Nat} (hS : s.Since vm1 k) (hk : k ≤ h.size) (eT : T.heap = h) (hZ : Z.Warmed39 vm1) (hEL : EW Z a0 EL) (hC : CHr Z EL s.vm s.heap vm1 h) {pc : Nat} {Ls : Array Slot} (hret : meth.sig.returnType = none)
    (hd : decode c.code pc = .ok (.return_, 1)) {Q : Option Value → Heap → List Loc → Prop} {C S : Nat} (hc : cells ≤ C) (hs : slots ≤ S) (hQ : Q none T.heap locs) : Goes p e below (FinH s Z EL Q C S) (T.setTop (mkF m pc Ls [])) := by
  subst eT
  have hf : CHr Z EL s.vm s.heap T.vm T.heap := hC.trans (CHv.at X hZ hEL hC.1)
  obtain ⟨fs, hr, hrun, hended, h1, h2, h3, h4⟩ := X.leaveW hS hk (v := none) (fun _ => rfl) hlocks
  exact ⟨_, _, X.returnOut hx hret hd hr, hrun, hended, _, _, rfl, hQ, hf, h1, h2, h3, h4.mono hc hs⟩
theorem Goes.retNH {vm1 : Vm} (X : Stand p l e R (s.setVm vm1) m args below meth c T locs cells slots) (hx : p.tables.exec = Jvm.exec) (hlocks : meth.locks = false) {k : Nat} (hS : s.Since vm1 k) (hk : k ≤ h.size) (eT : T.heap = h) (hZ : Z.Warmed39 vm1) (hEL : EW Z a0 EL) (hC : CHr Z EL s.vm s.heap vm1 h) {pc : Nat} {Ls : Array Slot} {z : Int32} {t : FieldType} {rest : List Value} (hret : meth.sig.returnType = some t) (ht : t = .boolean ∨ t = .byte ∨ t = .char ∨ t = .short)
    (hd : decode c.code pc = .ok (.ireturn, 1)) {Q : Option Value → Heap → List Loc → Prop} {C S : Nat} (hc : cells ≤ C) (hs : slots ≤ S) (hQ : Q (some (.int (nar t z))) T.heap locs) : Goes p e below (FinH s Z EL Q C S) (T.setTop (mkF m pc Ls (.int z :: rest))) := by
  subst eT
  have hf : CHr Z EL s.vm s.heap T.vm T.heap := hC.trans (CHv.at X hZ hEL hC.1)
  obtain ⟨fs, hr, hrun, hended, h1, h2, h3, h4⟩ := X.leaveW hS hk (v := some (.int (nar t z))) (fun h => by rw [hret] at h; cases h) hlocks
  exact ⟨_, _, Jvm.RoadKit.retN X hx hret ht hd hr, hrun, hended, _, _, rfl, hQ, hf, h1, h2, h3, h4.mono hc hs⟩
/-- two stretches that may intern, as one -/
theorem own_fold {vm0 : Vm} {k0 : Nat} {U : State} {h0 : Heap} (hS : s.Since vm0 k0) (hk : k0 ≤ h0.size) (h2 : (s.setVm vm0).Since U.vm U.heap.size) (g : h0.size ≤ U.heap.size) : s.Since U.vm U.heap.size := hS.trans h2 (Nat.le_trans hk g)
end OwnH
end Jvm.RoadKit
namespace Jvm.RoadKit
open Sem ClassFile Op Lib Bundle Jvm.Stand Jvm.Free Jvm.LawKit Jvm.Free.SB Jvm.Free.SBG
/-- a String whose value is still null is no booked one -/
theorem own_safe {Z : State} {EL : List (String × Nat)} {vm : Vm} {h : Heap} {x : Addr} (hal : Z.vm.Alike vm) (E : Exa Z h x "java/lang/String") (F : Fld Z h x "java/lang/String" "value" "[B" .null) : Safe Z EL vm h x := fun B => by
  obtain ⟨p, -, u, a, -, q, -, S, rfl | rfl⟩ := B
  · obtain ⟨cS, ⟨⟨s1, s2, s3, ⟨cv, kv, iv, s4, s4'⟩, s5, s6, s7, s8, r⟩, hfS, hcS⟩, -⟩ := S
    obtain ⟨cell, c0, k0, i0, f0, e1, e2, e3, e4, e5, e6, e7⟩ := F
    cases (show h[q.sa]? = some q.sC from s1).symm.trans e1
    obtain ⟨k', g1, -⟩ := State.fieldFound?_setVm (s := Z) hal e2
    have g2 : (Wst Z vm h).fieldFound? "java/lang/String" "value" "[B" = some (cv, kv, iv, q.fSV) := s4
    have g3 : (Wst Z vm h).fieldFound? "java/lang/String" "value" "[B" = some (c0, k', i0, f0) := g1
    cases g2.symm.trans g3
    cases s8.symm.trans e7
  · obtain ⟨cell, k, e1, e2, e3, -, -⟩ := E
    cases (show h[q.sd]? = some q.SA from S.hd).symm.trans e1
    obtain ⟨cS, -, -, f, -⟩ := S
    have f : vm.findClass "[B" = some q.SA.cls := f
    rw [hal.findClass] at f
    obtain ⟨k1, q1, q2⟩ := Vm.findClass_spec f
    obtain ⟨k2, q3, q4⟩ := Vm.findClass_spec e2
    cases q1.symm.trans q3
    exact absurd (q2.symm.trans q4) (by decide)
end Jvm.RoadKit
namespace Jvm.RoadKit
open Sem ClassFile Op Lib Jvm.Stand Jvm.Free Jvm.LawKit
section OwnR
variable {p : Program} {l : Launch} {e : Env} {R : Room} {s : State} {m : MethodId} {args : Array Value} {below : List Frame} {meth : Method} {c : Code} {T : State} {locs : List Loc} {cells slots : Nat} {Z : State} {a0 : Array Value} {h : Heap}
/-- getfield through an entry that is said resolved -/
theorem getFR (X : Stand p l e R s m args below meth c T locs cells slots) (hx : p.tables.exec = Jvm.exec) (hZ : Z.Warmed39 s.vm) {own O n d : String} {index : Nat} (hown : s.vm.findClass own = some m.cls) (w : (Cond.fieldRef own index O n d).before a0 Z = true)
    (eT : T.heap = h) {a : Addr} {v : Value} (F : Fld Z h a O n d v) {g : JFrame} (hg : g.method = m) {rest : List Value} (hs : g.stack = .ref a :: rest) (hd : decode c.code g.pc = .ok (.getfield index, 3)) : ∀ target, Steps p.tables e below (T.setTop { g with pc := g.pc + 3, stack := v :: rest }) target → Steps p.tables e below (T.setTop g) target := by
  obtain ⟨cell, cf, k, i, f, h1, h2, h3, h4, -, -, h7⟩ := F
  have hZT : Z.Warmed39 T.vm := wtrans hZ X.warmed
  have w' := Cond.fieldRef_warmed39 hZT w
  have hownT : (Z.setVm T.vm).vm.findClass own = some m.cls := by
    show T.vm.findClass own = _
    rw [X.warmed.alike.findClass]; exact hown
  obtain ⟨c2, k2, i2, f2, hf2, hready⟩ := Cond.fieldRef_spec hownT w'
  obtain ⟨k', hi, -⟩ := State.fieldFound?_setVm (s := Z) hZT.alike h2
  have e2 : some (c2, k2, i2, f2) = some (cf, k', i, f) := hf2.symm.trans hi
  cases e2
  intro target hrest
  subst hg
  jvm_step X.here [hx, hd, getfield.wp_ready (e := e) (s := T) (f := g) X.here.top hready h3 hs (by rw [eT]; exact h1) h4 h7]
  exact hrest
/-- a constructor by its contract, through an entry that is said resolved -/
theorem specialRefBack (X : Stand p l e R s m args below meth c T locs cells slots) (hexec : p.tables.exec = Jvm.exec) (hZ : Z.Warmed39 s.vm) {own : String} {index : Nat} {y : MethodName} (hy1 : y.name = "<init>")
    (hown : s.vm.findClass own = some m.cls) (w : (Cond.methodRef own index y).before a0 Z = true) (hinstZ : (Cond.instanceMethod y).before a0 Z = true) (hinst : (Cond.instanceMethod y).before args s = true)
    {bytes : ByteArray} {maxL : Nat} (hcode : (Cond.code y bytes maxL none).before args s = true) (hy : y.cls ≠ "java/lang/invoke/MethodHandle" ∧ y.cls ≠ "java/lang/invoke/VarHandle")
    {W : Nat} {Pre : Pt → Array Value → Prop} {Post : Pt → Array Value → Option Value → Pt → Prop} (hK : Back l R p e below s args y 3 W Pre Post)
    {g : JFrame} (hg : g.method = m) (hsize : g.locals.size = c.maxLocals) {a : Addr} {argsL rest : List Value}
    (hlen : ∀ sig, parseMethodDescriptor y.desc = some sig → argsL.length = sig.parameters.length) (hstack : g.stack = argsL.reverse ++ .ref a :: rest) (hW : 2 * g.monitorRoom + (rest.map fun v => v.category).sum ≤ W)
    (hdg : decode c.code g.pc = .ok (.invokespecial index, 3)) (hpre : Pre ⟨T, locs, cells, slots⟩ (.ref a :: argsL).toArray) :
    ∃ (v : Option Value) (B : Pt), Stand p l e R s m args below meth c B.U B.locs B.cells B.slots ∧ Post ⟨T, locs, cells, slots⟩ (.ref a :: argsL).toArray v B ∧
      Steps p.tables e below (T.setTop g) (B.U.setTop { g with pc := g.pc + 3, stack := v.toList ++ rest }) := by
  obtain ⟨obj, methO, hnO, hmO, hstO, habO⟩ := Cond.instanceMethod_spec hinst
  obtain ⟨methO', cO, hmO', hcO, hbO, hlO, -, hlockO, -, hsigO⟩ := Cond.code_spec hnO hcode
  cases hmO.symm.trans hmO'
  obtain ⟨kO, hkO, hnameO⟩ := className_of_methodNamed hnO
  obtain ⟨hnameMO, hdescO⟩ := name_of_methodNamed hnO hmO
  have hZT : Z.Warmed39 T.vm := wtrans hZ X.warmed
  obtain ⟨objZ, _, hnZ, _, _, _⟩ := Cond.instanceMethod_spec hinstZ
  have w' := Cond.methodRef_warmed39 hZT hnZ hy w
  have hownT : (Z.setVm T.vm).vm.findClass own = some m.cls := by
    show T.vm.findClass own = _
    rw [X.warmed.alike.findClass]; exact hown
  obtain ⟨m2, c2, hm2, hready, hfind, hres⟩ := Cond.methodRef_named e hownT w'
  have hnT : (Z.setVm T.vm).methodNamed? y = some obj := by
    have q : T.methodNamed? y = some obj := X.named hnO
    exact q
  have em : m2 = obj := Option.some.inj (hm2.symm.trans (State.methodFound?_of_named hnT hy))
  subst em
  have ec : c2 = m2.cls := Option.some.inj (hfind.symm.trans (findClass_of_methodNamed hnT))
  subst ec
  obtain ⟨kO₂, hkO₂, heO₂⟩ := X.warmed.alike.2.2 _ _ hkO
  have hmO₂ : T.vm.method? m2 = some methO := by rw [X.warmed.alike.method?]; exact hmO
  have hfound : lookupSpecial T.vm m2.cls "<init>" methO.desc = .method m2 := by
    rw [X.warmed.alike.lookupSpecial, hdescO, ← hy1]; exact lookupSpecial_of_named hnO hmO hstO
  obtain ⟨v, B, X', hpost, hsteps⟩ := hK m meth c ⟨T, locs, cells, slots⟩ { g with stack := rest } (.invokespecial index) m2 (.ref a :: argsL).toArray X hg hsize hdg hW (X.named hnO) hpre
  refine ⟨v, B, X', hpost, ?_⟩
  have st : ∀ target, (∀ acts, Steps p.tables e below (doInvoke e (T.setTop { g with stack := rest }) acts m2 (.ref a :: argsL).toArray).1 target) → Steps p.tables e below (T.setTop g) target := by
    intro target hrest
    subst hg
    jvm_step X.here [hexec, hdg, invokespecial.wp_init (e := e) (s := T) (k := kO₂) (meth := methO) (m := m2) (a := a) (args := argsL) (rest := rest) (f := g) X.here.top hres hready hkO₂ hmO₂ (by rw [hnameMO]; exact hy1) hstO habO hfound (hlen _ hsigO) hstack]
    exact hrest
  exact (st _ fun acts => by rw [doInvoke_state]; exact Steps.refl _).trans hsteps
/-- a private method is what its own class's objects select -/
theorem sel_private (hZ : Z.Warmed39 s.vm) {n : Nat} {y : MethodName} (wi : (Cond.instantiable y.cls n).before a0 Z = true) (wp : (Cond.privateMethod y).before a0 Z = true) (wm : (Cond.instanceMethod y).before a0 Z = true) (hy : y.cls ≠ "java/lang/invoke/MethodHandle" ∧ y.cls ≠ "java/lang/invoke/VarHandle") : (Cond.selects y.cls y y).before args s = true := by
  have wi' : (Cond.instantiable y.cls n).before args s = true := mvT hZ wi
  obtain ⟨c, k, h1, h2, h3, h4, -⟩ := Cond.instantiable_spec wi'
  have h5 : k.isInterface = false := by
    cases q : k.isInterface
    · rfl
    · rw [q] at h4; simp at h4
  exact selects_self_of_private h1 h2 h5 (Cond.privateMethod_at (mvP hZ wp (args := #[]))) (mvT hZ wm) hy
end OwnR
end Jvm.RoadKit
namespace Jvm.Pilot.@@N@@
open Jvm Jvm.ClassFile Sem Op Lib Jvm.Free Jvm.Stand Jvm.LawKit Jvm.RoadKit Bundle Jvm.Pilot.@@N@@.Jvm.D
theorem w_ {Z : State} {a0 : Array Value} {d : Jvm.Cond} (hw : ∀ d ∈ tables_1, d.before a0 Z = true) (i : Nat) (h : tables_1[i]? = some d) : d.before a0 Z = true := hw _ (List.mem_of_getElem? h)
abbrev own_M (l : Launch) (Z : State) (y : MethodName) (c : Jvm.Cond) (ws : List Jvm.Cond) (R : Room) (a : Array Value) (h0 : Heap) (Q : Option Value → Heap → List Loc → Prop) : Prop := MetFree l y (head1 (c :: ws) R) (fun a' U => a' = a ∧ Z.Warmed39 U.vm ∧ U.heap = h0) (fun _ _ _ _ _ => True) (fun _ U oo U' => ∃ vv LL, oo = .returned vv ∧ Q vv U'.heap LL ∧ FrameEnd U oo U' LL R.cells R.slots)
theorem nb_ {a b : Nat} (h : Nat.ble a b = true) : a ≤ b := Nat.le_of_ble_eq_true h
set_option maxRecDepth 65536
set_option maxHeartbeats 40000000
abbrev Vi (x : Int32) : Slot := .val (.int x)
abbrev Vr (a : Addr) : Slot := .val (.ref a)
abbrev Vu : Slot := .unset
abbrev Rm (a b c d : Nat) : Room := { frames := a, cells := b, slots := c, locals := d }
abbrev De (b : ByteArray) (q : Nat) (i : Instr) (n : Nat) : Prop := decode b q = .ok (i, n)
theorem ww_ {a b c : Nat} (h0 : a = 0) (h : b = c) : 2 * a + b ≤ c := by rw [h0, h, Nat.mul_zero, Nat.zero_add]; exact Nat.le_refl _
theorem rr_ {a b c d : Nat} (h : Nat.ble (a + b) c = true) : a + b ≤ c := Nat.le_of_ble_eq_true h
abbrev c_22 : ByteArray := prog_33_method_13_code
abbrev c_17 : ByteArray := prog_33_method_12_code
abbrev c_16 : ByteArray := prog_33_method_5_code
abbrev c_40 : ByteArray := jdk_29_method_65_code
abbrev c_39 : ByteArray := prog_33_method_11_code
abbrev c_14 : ByteArray := prog_33_method_2_code
abbrev c_18 : ByteArray := prog_33_method_4_code
abbrev c_36 : ByteArray := jdk_65_method_30_code
abbrev c_41 : ByteArray := jdk_89_method_98_code
abbrev c_12 : ByteArray := jdk_29_method_69_code
abbrev c_37 : ByteArray := jdk_48_method_16_code
abbrev c_35 : ByteArray := jdk_65_method_208_code
abbrev c_42 : ByteArray := prog_33_method_9_code
abbrev c_43 : ByteArray := prog_33_method_10_code
abbrev c_38 : ByteArray := prog_33_method_8_code
abbrev c_34 : ByteArray := prog_33_method_7_code
abbrev c_33 : ByteArray := prog_33_method_6_code
abbrev c_24 : ByteArray := jdk_42_method_152_code
abbrev c_30 : ByteArray := jdk_42_method_154_code
abbrev c_23 : ByteArray := jdk_42_method_54_code
abbrev c_29 : ByteArray := jdk_41_method_13_code
abbrev c_28 : ByteArray := jdk_42_method_157_code
abbrev c_27 : ByteArray := jdk_41_method_12_code
abbrev c_26 : ByteArray := jdk_42_method_158_code
abbrev c_32 : ByteArray := jdk_43_method_49_code
abbrev c_31 : ByteArray := jdk_43_method_11_code
abbrev c_25 : ByteArray := jdk_42_method_61_code
abbrev c_6 : ByteArray := jdk_52_method_21_code
abbrev c_5 : ByteArray := jdk_52_method_16_code
abbrev c_7 : ByteArray := jdk_52_method_15_code
abbrev c_3 : ByteArray := jdk_42_method_149_code
abbrev c_2 : ByteArray := jdk_42_method_3_code
abbrev c_9 : ByteArray := jdk_43_method_3_code
abbrev c_10 : ByteArray := jdk_43_method_46_code
abbrev c_11 : ByteArray := jdk_42_method_151_code
abbrev c_8 : ByteArray := jdk_42_method_139_code
abbrev c_1 : ByteArray := method_4_code
abbrev c_46 : ByteArray := jdk_43_method_13_code
abbrev c_45 : ByteArray := jdk_42_method_66_code
abbrev c_44 : ByteArray := method_5_code
abbrev c_19 : ByteArray := method_6_code
abbrev c_20 : ByteArray := method_7_code
abbrev c_21 : ByteArray := prog_33_method_3_code
abbrev c_15 : ByteArray := method_3_code
abbrev c_13 : ByteArray := prog_33_method_1_code
abbrev n_0 : MethodName := ⟨"com/example/upkeep_window/upkeepwindow/policy/OpenNames", "start", "(I)I"⟩
abbrev n_1 : MethodName := ⟨"com/example/upkeep_window/upkeepwindow/policy/OpenNames", "height", "(I)I"⟩
abbrev n_2 : MethodName := ⟨"com/example/upkeep_window/upkeepwindow/policy/OpenNames", "height", "()I"⟩
abbrev n_3 : MethodName := ⟨"java/lang/Math", "max", "(II)I"⟩
abbrev n_4 : MethodName := ⟨"com/example/upkeep_window/upkeepwindow/policy/OpenNames", "measure", "(I)V"⟩
abbrev n_5 : MethodName := ⟨"com/example/upkeep_window/upkeepwindow/policy/OpenNames", "open", "()V"⟩
abbrev n_6 : MethodName := ⟨"com/example/upkeep_window/upkeepwindow/policy/OpenNames", "close", "()V"⟩
abbrev n_7 : MethodName := ⟨"java/util/Arrays", "rangeCheck", "(III)V"⟩
abbrev n_8 : MethodName := ⟨"java/lang/Character", "compare", "(CC)I"⟩
abbrev n_9 : MethodName := ⟨"java/lang/Math", "min", "(II)I"⟩
abbrev n_10 : MethodName := ⟨"jdk/internal/util/ArraysSupport", "mismatch", "([CI[CII)I"⟩
abbrev n_11 : MethodName := ⟨"java/util/Arrays", "compare", "([CII[CII)I"⟩
abbrev n_12 : MethodName := ⟨"com/example/upkeep_window/upkeepwindow/policy/OpenNames", "rotatedRight", "(I)I"⟩
abbrev n_13 : MethodName := ⟨"com/example/upkeep_window/upkeepwindow/policy/OpenNames", "rotatedLeft", "(I)I"⟩
abbrev n_14 : MethodName := ⟨"com/example/upkeep_window/upkeepwindow/policy/OpenNames", "balanced", "(I)I"⟩
abbrev n_15 : MethodName := ⟨"com/example/upkeep_window/upkeepwindow/policy/OpenNames", "insert", "(II)I"⟩
abbrev n_16 : MethodName := ⟨"com/example/upkeep_window/upkeepwindow/policy/OpenNames", "holds", "(III)Z"⟩
abbrev n_17 : MethodName := ⟨"java/lang/String", "coder", "()B"⟩
abbrev n_18 : MethodName := ⟨"java/lang/String", "isLatin1", "()Z"⟩
abbrev n_19 : MethodName := ⟨"java/lang/String", "length", "()I"⟩
abbrev n_20 : MethodName := ⟨"jdk/internal/util/Preconditions", "checkFromIndexSize", "(IIILjava/util/function/BiFunction;)I"⟩
abbrev n_21 : MethodName := ⟨"java/lang/String", "checkBoundsOffCount", "(III)I"⟩
abbrev n_22 : MethodName := ⟨"jdk/internal/util/Preconditions", "checkFromToIndex", "(IIILjava/util/function/BiFunction;)I"⟩
abbrev n_23 : MethodName := ⟨"java/lang/String", "checkBoundsBeginEnd", "(III)V"⟩
abbrev n_24 : MethodName := ⟨"java/lang/StringLatin1", "inflate", "([BI[CII)V"⟩
abbrev n_25 : MethodName := ⟨"java/lang/StringLatin1", "getChars", "([BII[CI)V"⟩
abbrev n_26 : MethodName := ⟨"java/lang/String", "getChars", "(II[CI)V"⟩
abbrev n_27 : MethodName := ⟨"java/lang/StringUTF16", "compress", "([CI[BII)I"⟩
abbrev n_28 : MethodName := ⟨"java/lang/StringUTF16", "compress", "([CII)[B"⟩
abbrev n_29 : MethodName := ⟨"java/lang/StringUTF16", "coderFromArrayLen", "([BI)B"⟩
abbrev n_30 : MethodName := ⟨"java/lang/String", "<init>", "([CIILjava/lang/Void;)V"⟩
abbrev n_31 : MethodName := ⟨"java/lang/String", "<init>", "([C)V"⟩
abbrev n_32 : MethodName := ⟨"java/lang/StringLatin1", "canEncode", "(C)Z"⟩
abbrev n_33 : MethodName := ⟨"java/lang/StringLatin1", "toBytes", "(C)[B"⟩
abbrev n_34 : MethodName := ⟨"java/lang/String", "<init>", "([BB)V"⟩
abbrev n_35 : MethodName := ⟨"java/lang/String", "valueOf", "(C)Ljava/lang/String;"⟩
abbrev n_36 : MethodName := ⟨"com/example/upkeep_window/upkeepwindow/policy/OpenNamesHeightPinLaw", "name", "(I)Ljava/lang/String;"⟩
abbrev n_37 : MethodName := ⟨"java/lang/StringLatin1", "equals", "([B[B)Z"⟩
abbrev n_38 : MethodName := ⟨"java/lang/String", "equals", "(Ljava/lang/Object;)Z"⟩
abbrev n_39 : MethodName := ⟨"com/example/upkeep_window/upkeepwindow/policy/OpenNamesHeightPinLaw", "differs", "([Ljava/lang/String;III)Z"⟩
abbrev n_40 : MethodName := ⟨"com/example/upkeep_window/upkeepwindow/policy/OpenNamesHeightPinLaw", "counted", "([Ljava/lang/String;III)I"⟩
abbrev n_41 : MethodName := ⟨"com/example/upkeep_window/upkeepwindow/policy/OpenNamesHeightPinLaw", "expected", "(I)I"⟩
abbrev n_42 : MethodName := ⟨"com/example/upkeep_window/upkeepwindow/policy/OpenNames", "add", "(Ljava/lang/String;)Z"⟩
abbrev n_43 : MethodName := ⟨"com/example/upkeep_window/upkeepwindow/policy/OpenNamesHeightPinLaw", "step", "(Lcom/example/upkeep_window/upkeepwindow/policy/OpenNames;[Ljava/lang/String;III)V"⟩
abbrev n_44 : MethodName := ⟨"com/example/upkeep_window/upkeepwindow/policy/OpenNames", "<init>", "()V"⟩
theorem pd_0 : parseMethodDescriptor "(I)I" = some ⟨[.int], some .int⟩ := by decide +kernel
theorem pd_1 : parseMethodDescriptor "(II)I" = some ⟨[.int, .int], some .int⟩ := by decide +kernel
theorem pd_2 : parseMethodDescriptor "(III)V" = some ⟨[.int, .int, .int], none⟩ := by decide +kernel
theorem pd_3 : parseMethodDescriptor "([CI[CII)I" = some ⟨[(.array .char), .int, (.array .char), .int, .int], some .int⟩ := by decide +kernel
theorem pd_4 : parseMethodDescriptor "(CC)I" = some ⟨[.char, .char], some .int⟩ := by decide +kernel
theorem pd_5 : parseMethodDescriptor "(I)V" = some ⟨[.int], none⟩ := by decide +kernel
theorem pd_6 : parseMethodDescriptor "([CII[CII)I" = some ⟨[(.array .char), .int, .int, (.array .char), .int, .int], some .int⟩ := by decide +kernel
theorem pd_7 : parseMethodDescriptor "()B" = some ⟨[], some .byte⟩ := by decide +kernel
theorem pd_8 : parseMethodDescriptor "(IIILjava/util/function/BiFunction;)I" = some ⟨[.int, .int, .int, (.object "java/util/function/BiFunction")], some .int⟩ := by decide +kernel
theorem pd_9 : parseMethodDescriptor "([BI[CII)V" = some ⟨[(.array .byte), .int, (.array .char), .int, .int], none⟩ := by decide +kernel
theorem pd_10 : parseMethodDescriptor "()I" = some ⟨[], some .int⟩ := by decide +kernel
theorem pd_11 : parseMethodDescriptor "(III)I" = some ⟨[.int, .int, .int], some .int⟩ := by decide +kernel
theorem pd_12 : parseMethodDescriptor "()Z" = some ⟨[], some .boolean⟩ := by decide +kernel
theorem pd_13 : parseMethodDescriptor "([BII[CI)V" = some ⟨[(.array .byte), .int, .int, (.array .char), .int], none⟩ := by decide +kernel
theorem pd_14 : parseMethodDescriptor "([CI[BII)I" = some ⟨[(.array .char), .int, (.array .byte), .int, .int], some .int⟩ := by decide +kernel
theorem pd_15 : parseMethodDescriptor "([CII)[B" = some ⟨[(.array .char), .int, .int], some (.array .byte)⟩ := by decide +kernel
theorem pd_16 : parseMethodDescriptor "([BI)B" = some ⟨[(.array .byte), .int], some .byte⟩ := by decide +kernel
theorem pd_17 : parseMethodDescriptor "([CIILjava/lang/Void;)V" = some ⟨[(.array .char), .int, .int, (.object "java/lang/Void")], none⟩ := by decide +kernel
theorem pd_18 : parseMethodDescriptor "(C)Z" = some ⟨[.char], some .boolean⟩ := by decide +kernel
theorem pd_19 : parseMethodDescriptor "(C)[B" = some ⟨[.char], some (.array .byte)⟩ := by decide +kernel
theorem pd_20 : parseMethodDescriptor "([BB)V" = some ⟨[(.array .byte), .byte], none⟩ := by decide +kernel
theorem pd_21 : parseMethodDescriptor "(C)Ljava/lang/String;" = some ⟨[.char], some (.object "java/lang/String")⟩ := by decide +kernel
theorem pd_22 : parseMethodDescriptor "([C)V" = some ⟨[(.array .char)], none⟩ := by decide +kernel
theorem pd_23 : parseMethodDescriptor "([B[B)Z" = some ⟨[(.array .byte), (.array .byte)], some .boolean⟩ := by decide +kernel
theorem pd_24 : parseMethodDescriptor "(Ljava/lang/Object;)Z" = some ⟨[(.object "java/lang/Object")], some .boolean⟩ := by decide +kernel
theorem pd_25 : parseMethodDescriptor "([Ljava/lang/String;III)Z" = some ⟨[(.array (.object "java/lang/String")), .int, .int, .int], some .boolean⟩ := by decide +kernel
theorem pd_26 : parseMethodDescriptor "(II[CI)V" = some ⟨[.int, .int, (.array .char), .int], none⟩ := by decide +kernel
theorem pd_27 : parseMethodDescriptor "(III)Z" = some ⟨[.int, .int, .int], some .boolean⟩ := by decide +kernel
theorem pd_28 : parseMethodDescriptor "(Ljava/lang/String;)Z" = some ⟨[(.object "java/lang/String")], some .boolean⟩ := by decide +kernel
theorem pd_29 : parseMethodDescriptor "()V" = some ⟨[], none⟩ := by decide +kernel
theorem pd_30 : parseMethodDescriptor "(I)Ljava/lang/String;" = some ⟨[.int], some (.object "java/lang/String")⟩ := by decide +kernel
theorem pd_31 : parseMethodDescriptor "(Lcom/example/upkeep_window/upkeepwindow/policy/OpenNames;[Ljava/lang/String;III)V" = some ⟨[(.object "com/example/upkeep_window/upkeepwindow/policy/OpenNames"), (.array (.object "java/lang/String")), .int, .int, .int], none⟩ := by decide +kernel
theorem pd_32 : parseMethodDescriptor "([Ljava/lang/String;III)I" = some ⟨[(.array (.object "java/lang/String")), .int, .int, .int], some .int⟩ := by decide +kernel
/-- a Latin-1 String as it stands -/
def own_Str (Z : State) (h : Heap) (a b : Addr) (k : ClassId) (n : Int32) (vs : List Value) : Prop := Exa Z h a "java/lang/String" ∧ Fld Z h a "java/lang/String" "coder" "B" (.int 0) ∧ Fld Z h a "java/lang/String" "value" "[B" (.ref b) ∧ Arv Z h b k .byte n vs (.int 0)
theorem own_Str.ext {Z : State} {h h' : Heap} {a b : Addr} {k : ClassId} {n : Int32} {vs : List Value} (S : own_Str Z h a b k n vs) (E : Ext h h') : own_Str Z h' a b k n vs := ⟨S.1.ext E, S.2.1.ext E, S.2.2.1.ext E, S.2.2.2.ext E⟩
theorem own_Str.keep {Z : State} {h h' : Heap} {a b : Addr} {k : ClassId} {n : Int32} {vs : List Value} {ws : List Addr} (S : own_Str Z h a b k n vs) (K : Keep h h' ws) (q1 : a ∉ ws) (q2 : b ∉ ws) : own_Str Z h' a b k n vs := ⟨S.1.keep K, S.2.1.keep K q1, S.2.2.1.keep K q1, S.2.2.2.keep K q2⟩
theorem own_Str.lt {Z : State} {h : Heap} {a b : Addr} {k : ClassId} {n : Int32} {vs : List Value} (S : own_Str Z h a b k n vs) : a < h.size ∧ b < h.size := ⟨S.1.lt, S.2.2.2.lt⟩
def own_by (c : Int32) : Int32 := nar .byte c.toInt8.toInt32
/-- a UTF-16 String as it stands -/
def own_StU (Z : State) (h : Heap) (a b : Addr) (k : ClassId) (n : Int32) (vs : List Value) : Prop := Exa Z h a "java/lang/String" ∧ Fld Z h a "java/lang/String" "coder" "B" (.int 1) ∧ Fld Z h a "java/lang/String" "value" "[B" (.ref b) ∧ Arv Z h b k .byte n vs (.int 0)
theorem own_StU.ext {Z : State} {h h' : Heap} {a b : Addr} {k : ClassId} {n : Int32} {vs : List Value} (S : own_StU Z h a b k n vs) (E : Ext h h') : own_StU Z h' a b k n vs := ⟨S.1.ext E, S.2.1.ext E, S.2.2.1.ext E, S.2.2.2.ext E⟩
theorem own_StU.keep {Z : State} {h h' : Heap} {a b : Addr} {k : ClassId} {n : Int32} {vs : List Value} {ws : List Addr} (S : own_StU Z h a b k n vs) (K : Keep h h' ws) (q1 : a ∉ ws) (q2 : b ∉ ws) : own_StU Z h' a b k n vs := ⟨S.1.keep K, S.2.1.keep K q1, S.2.2.1.keep K q1, S.2.2.2.keep K q2⟩
def own_lo (c : Int32) : Int32 := nar .byte (c >>> ((0 : Int32) &&& 31)).toInt8.toInt32
def own_hi (c : Int32) : Int32 := nar .byte (c >>> ((8 : Int32) &&& 31)).toInt8.toInt32
theorem own_nb (x : Int32) : nar .byte x.toInt8.toInt32 = x.toInt8.toInt32 := by show x.toInt8.toInt32.toInt8.toInt32 = _; rw [Int8.toInt8_toInt32]
theorem own_ch {c : Int32} (hc : nar .char c = c) : 0 ≤ c.toInt ∧ c.toInt < 65536 := by
 have q := c_i2c c
 have e : c.toUInt32.toUInt16.toUInt32.toInt32 = c := hc
 rw [e] at q
 exact q.2
/-- a char out of its two bytes -/
theorem own_gc {c : Int32} (hc : nar .char c = c) : nar .char (((own_lo c &&& (255 : Int32)) <<< ((0 : Int32) &&& 31)) ||| ((own_hi c &&& (255 : Int32)) <<< ((8 : Int32) &&& 31))).toUInt32.toUInt16.toUInt32.toInt32 = c := by
 have hr := own_ch hc
 unfold own_lo own_hi
 rw [own_nb, own_nb]
 have a1 := c_ishr c 0 0 (by decide); have a2 := c_ishr c 8 8 (by decide)
 generalize c >>> ((0 : Int32) &&& 31) = u at *
 generalize c >>> ((8 : Int32) &&& 31) = w at *
 have b1 := c_i2b u; have b2 := c_i2b w
 generalize u.toInt8.toInt32 = u' at *
 generalize w.toInt8.toInt32 = w' at *
 have d1 := c_mask u' 255 8 (by decide) (by decide); have d2 := c_mask w' 255 8 (by decide) (by decide)
 generalize u' &&& (255 : Int32) = u2 at *
 generalize w' &&& (255 : Int32) = w2 at *
 have e1 := c_ishl u2 0 0 (by decide); have e2 := c_ishl w2 8 8 (by decide)
 generalize u2 <<< ((0 : Int32) &&& 31) = u3 at *
 generalize w2 <<< ((8 : Int32) &&& 31) = w3 at *
 have l1 := u3.le_toInt; have l2 := u3.toInt_lt; have l3 := w3.le_toInt; have l4 := w3.toInt_lt
 have f := c_or' u3 w3 8 (by decide) 256 (by decide) (by omega) (by omega) (by omega)
 generalize u3 ||| w3 = v at *
 have l5 := v.le_toInt; have l6 := v.toInt_lt
 have g := c_i2c v
 have g2 : nar .char v.toUInt32.toUInt16.toUInt32.toInt32 = v.toUInt32.toUInt16.toUInt32.toInt32 := by
  show (v.toUInt32.toUInt16.toUInt32.toInt32).toUInt32.toUInt16.toUInt32.toInt32 = _
  have e : (v.toUInt32.toUInt16.toUInt32.toInt32).toUInt32 = v.toUInt32.toUInt16.toUInt32 := rfl
  rw [e, UInt16.toUInt16_toUInt32]
 rw [g2]
 exact Int32.toInt_inj.mp (by omega)
/-- a char out of its byte -/
theorem own_lc {c : Int32} (hc : nar .char c = c) (hs : ¬ (255 : Int32) < c) : nar .char (own_by c &&& (255 : Int32)).toUInt32.toUInt16.toUInt32.toInt32 = c := by
 have hr := own_ch hc
 have z : (255 : Int32).toInt = 255 := by decide
 rw [Int32.lt_iff_toInt_lt] at hs
 unfold own_by
 rw [own_nb]
 have b1 := c_i2b c
 generalize c.toInt8.toInt32 = u' at *
 have d1 := c_mask u' 255 8 (by decide) (by decide)
 generalize u' &&& (255 : Int32) = v at *
 have g := c_i2c v
 have g2 : nar .char v.toUInt32.toUInt16.toUInt32.toInt32 = v.toUInt32.toUInt16.toUInt32.toInt32 := by
  show (v.toUInt32.toUInt16.toUInt32.toInt32).toUInt32.toUInt16.toUInt32.toInt32 = _
  have e : (v.toUInt32.toUInt16.toUInt32.toInt32).toUInt32 = v.toUInt32.toUInt16.toUInt32 := rfl
  rw [e, UInt16.toUInt16_toUInt32]
 rw [g2]
 exact Int32.toInt_inj.mp (by omega)
/-- the place of a sign above 255 -/
def own_big (n N : Int32) (us : List Value) (j : Int32) : Prop := ∃ j0 j1 x, ¬ j = n ∧ (j <<< ((1 : Int32) &&& 31)) = j0 ∧ (j0 + (1 : Int32)) = j1 ∧ (¬ j0 < 0 ∧ j0 < N) ∧ (¬ j1 < 0 ∧ j1 < N) ∧ us.getD j0.toNatClampNeg (.int 0) = .int (own_lo x) ∧ us.getD j1.toNatClampNeg (.int 0) = .int (own_hi x) ∧ nar .char x = x ∧ (255 : Int32) < x
def own_I (x : Int32) (a : Nat) : Prop := x.toInt = (a : Int)
theorem own_I.nn {x : Int32} {a : Nat} (h : own_I x a) : ¬ x < 0 := by
 unfold own_I at h
 rw [Int32.lt_iff_toInt_lt]
 have : (0 : Int32).toInt = 0 := by decide
 omega
theorem own_I.nat {x : Int32} {a : Nat} (h : own_I x a) : x.toNatClampNeg = a := by
 unfold own_I at h
 simp [Int32.toNatClampNeg, h]
theorem own_I.add {x y : Int32} {a b : Nat} (h : own_I x a) (k : own_I y b) (q : a + b < 2147483648) : own_I (x + y) (a + b) := by
 unfold own_I at *
 have h1 := c_iadd x y
 have h2 := rng32 (x + y)
 omega
theorem own_I.sub {x y : Int32} {a b : Nat} (h : own_I x a) (k : own_I y b) (q : b ≤ a) : own_I (x - y) (a - b) := by
 unfold own_I at *
 have h1 := c_isub x y
 have h2 := rng32 (x - y)
 have h3 := rng32 x
 omega
theorem own_I.inj {x y : Int32} {a : Nat} (h : own_I x a) (k : own_I y a) : x = y := Int32.toInt_inj.mp (Eq.trans h (Eq.symm k))
theorem own_I.lt {x y : Int32} {a b : Nat} (h : own_I x a) (k : own_I y b) : x < y ↔ a < b := by
 unfold own_I at *
 rw [Int32.lt_iff_toInt_lt]; omega
theorem own_I.eq {x y : Int32} {a b : Nat} (h : own_I x a) (k : own_I y b) : x = y ↔ a = b := by
 unfold own_I at *
 rw [← Int32.toInt_inj]; omega
theorem own_I0 : own_I 0 0 := by unfold own_I; decide
theorem own_I1 : own_I 1 1 := by unfold own_I; decide
theorem own_I2 : own_I 2 2 := by unfold own_I; decide
theorem own_I3 : own_I 3 3 := by unfold own_I; decide
theorem own_I16 : own_I 16 16 := by unfold own_I; decide
theorem own_I64 : own_I 64 64 := by unfold own_I; decide
/-- an array of ints, chars or bytes, by its places -/
def own_B (Z : State) (h : Heap) (b : Addr) (ty : FieldType) (M : Nat) (f : Nat → Int32) : Prop := ∃ cl : Cell, Arr Z h b cl ty ∧ cl.slots.size = M ∧ ∀ i, i < M → cl.slots[i]? = some (.int (f i))
section OwnB
variable {Z : State} {h h' : Heap} {b : Addr} {ty : FieldType} {M : Nat} {f : Nat → Int32} {cl : Cell} {j : Int32} {a : Nat} {v : Int32}
theorem own_B.lt (B : own_B Z h b ty M f) : b < h.size := by obtain ⟨cl, A, -⟩ := B; exact A.lt
theorem own_B.ext (B : own_B Z h b ty M f) (E : Ext h h') : own_B Z h' b ty M f := by obtain ⟨cl, A, r⟩ := B; exact ⟨cl, A.ext E, r⟩
theorem own_B.keep {ws : List Addr} (B : own_B Z h b ty M f) (K : Keep h h' ws) (q : b ∉ ws) : own_B Z h' b ty M f := by obtain ⟨cl, A, r⟩ := B; exact ⟨cl, ⟨K.2.1 b cl A.1 q, A.2⟩, r⟩
theorem own_B.other {c : Addr} {sl : Nat} {w : Value} (B : own_B Z h b ty M f) (W : Wr h h' c sl w) (q : b ≠ c) : own_B Z h' b ty M f := by obtain ⟨cl, A, r⟩ := B; exact ⟨cl, A.other W q, r⟩
def own_up (f : Nat → Int32) (j : Nat) (v : Int32) : Nat → Int32 := fun i => if i = j then v else f i
theorem own_up_eq {f : Nat → Int32} {i j : Nat} {v : Int32} (h : i = j) : own_up f j v i = v := if_pos h
theorem own_up_ne {f : Nat → Int32} {i j : Nat} {v : Int32} (h : i ≠ j) : own_up f j v i = f i := if_neg h
theorem own_B.wr {j : Nat} (B : own_B Z h b ty M f) (W : Wr h h' b j (.int v)) : own_B Z h' b ty M (own_up f j v) := by
 obtain ⟨cl, A, S, H⟩ := B
 refine ⟨cl.setSlot j (.int v), A.same W, by simp [Cell.setSlot, S], fun i hi => ?_⟩
 by_cases ei : i = j
 ·subst ei; rw [own_up_eq rfl]; simp [Cell.setSlot, S, hi]
 ·rw [own_up_ne ei, show (cl.setSlot j (.int v)).slots[i]? = cl.slots[i]? from Array.getElem?_setIfInBounds_ne (Ne.symm ei)]; exact H i hi
theorem own_in (S : cl.slots.size = M) (h : own_I j a) (q : a < M) : ¬ (j < 0 ∨ cl.slots.size ≤ j.toNatClampNeg) := by
 rw [S, h.nat]; intro y; rcases y with y | y
 ·exact h.nn y
 ·omega
theorem own_at (H : ∀ i, i < M → cl.slots[i]? = some (.int (f i))) (h : own_I j a) (q : a < M) : cl.slots[j.toNatClampNeg]? = some (.int (f a)) := by rw [h.nat]; exact H a q
theorem own_l16 (S : cl.slots.size = 16) : cl.slots.size.toInt32 = (16 : Int32) := by rw [S]; rfl
theorem own_l64 (S : cl.slots.size = 64) : cl.slots.size.toInt32 = (64 : Int32) := by rw [S]; rfl
theorem own_B.new {k : ClassId} {z : Int32} (V : Arv Z h b k ty z [] (.int 0)) (q : z.toNatClampNeg = M) : own_B Z h b ty M (fun _ => 0) := by
 obtain ⟨c, A, -, S, -, H, -⟩ := V
 exact ⟨c, A, S.trans q, fun i hi => by rw [H i (by rw [S, q]; exact hi)]; rfl⟩
end OwnB
def own_fu (f : Nat → Nat → Int32) (i j : Nat) (v : Int32) : Nat → Nat → Int32 := fun a => if a = i then own_up (f i) j v else f a
def own_ws (A : Nat → Addr) : List Addr := [A 0, A 1, A 2, A 3, A 4, A 5, A 6, A 7]
def own_ON (Z : State) (n0 : Nat) (h : Heap) (A : Nat → Addr) (f : Nat → Nat → Int32) (ob nm : Int32) : Prop := Exa Z h (A 0) "com/example/upkeep_window/upkeepwindow/policy/OpenNames" ∧ Fld Z h (A 0) "com/example/upkeep_window/upkeepwindow/policy/OpenNames" "chars" "[C" (.ref (A 1)) ∧ Fld Z h (A 0) "com/example/upkeep_window/upkeepwindow/policy/OpenNames" "ends" "[I" (.ref (A 2)) ∧ Fld Z h (A 0) "com/example/upkeep_window/upkeepwindow/policy/OpenNames" "lefts" "[I" (.ref (A 3)) ∧ Fld Z h (A 0) "com/example/upkeep_window/upkeepwindow/policy/OpenNames" "rights" "[I" (.ref (A 4)) ∧ Fld Z h (A 0) "com/example/upkeep_window/upkeepwindow/policy/OpenNames" "heights" "[B" (.ref (A 5)) ∧ Fld Z h (A 0) "com/example/upkeep_window/upkeepwindow/policy/OpenNames" "firsts" "[I" (.ref (A 6)) ∧ Fld Z h (A 0) "com/example/upkeep_window/upkeepwindow/policy/OpenNames" "roots" "[I" (.ref (A 7)) ∧ Fld Z h (A 0) "com/example/upkeep_window/upkeepwindow/policy/OpenNames" "objects" "I" (.int ob) ∧ Fld Z h (A 0) "com/example/upkeep_window/upkeepwindow/policy/OpenNames" "names" "I" (.int nm) ∧ own_B Z h (A 1) .char 64 (f 1) ∧ own_B Z h (A 2) .int 16 (f 2) ∧ own_B Z h (A 3) .int 16 (f 3) ∧ own_B Z h (A 4) .int 16 (f 4) ∧ own_B Z h (A 5) .byte 16 (f 5) ∧ own_B Z h (A 6) .int 16 (f 6) ∧ own_B Z h (A 7) .int 16 (f 7) ∧ (∀ i, i < 8 → n0 ≤ A i) ∧ (∀ i j, i < 8 → j < 8 → i ≠ j → A i ≠ A j)
section OwnON
variable {Z : State} {n0 : Nat} {h h' : Heap} {A : Nat → Addr} {f : Nat → Nat → Int32} {ob nm : Int32}
theorem own_ON.ge (P : own_ON Z n0 h A f ob nm) : ∀ x ∈ own_ws A, n0 ≤ x := by
 intro x hx
 simp only [own_ws, List.mem_cons, List.not_mem_nil, or_false] at hx
 have g := P.2.2.2.2.2.2.2.2.2.2.2.2.2.2.2.2.2.1
 rcases hx with rfl | rfl | rfl | rfl | rfl | rfl | rfl | rfl
 all_goals exact g _ (by decide)
theorem own_ON.w1 {j : Nat} {v : Int32} (P : own_ON Z n0 h A f ob nm) (W : Wr h h' (A 1) j (.int v)) : own_ON Z n0 h' A (own_fu f 1 j v) ob nm := ⟨(P.1).wr W, (P.2.1).other W (Or.inl (P.2.2.2.2.2.2.2.2.2.2.2.2.2.2.2.2.2.2 0 1 (by decide) (by decide) (by decide))), (P.2.2.1).other W (Or.inl (P.2.2.2.2.2.2.2.2.2.2.2.2.2.2.2.2.2.2 0 1 (by decide) (by decide) (by decide))), (P.2.2.2.1).other W (Or.inl (P.2.2.2.2.2.2.2.2.2.2.2.2.2.2.2.2.2.2 0 1 (by decide) (by decide) (by decide))), (P.2.2.2.2.1).other W (Or.inl (P.2.2.2.2.2.2.2.2.2.2.2.2.2.2.2.2.2.2 0 1 (by decide) (by decide) (by decide))), (P.2.2.2.2.2.1).other W (Or.inl (P.2.2.2.2.2.2.2.2.2.2.2.2.2.2.2.2.2.2 0 1 (by decide) (by decide) (by decide))), (P.2.2.2.2.2.2.1).other W (Or.inl (P.2.2.2.2.2.2.2.2.2.2.2.2.2.2.2.2.2.2 0 1 (by decide) (by decide) (by decide))), (P.2.2.2.2.2.2.2.1).other W (Or.inl (P.2.2.2.2.2.2.2.2.2.2.2.2.2.2.2.2.2.2 0 1 (by decide) (by decide) (by decide))), (P.2.2.2.2.2.2.2.2.1).other W (Or.inl (P.2.2.2.2.2.2.2.2.2.2.2.2.2.2.2.2.2.2 0 1 (by decide) (by decide) (by decide))), (P.2.2.2.2.2.2.2.2.2.1).other W (Or.inl (P.2.2.2.2.2.2.2.2.2.2.2.2.2.2.2.2.2.2 0 1 (by decide) (by decide) (by decide))), (P.2.2.2.2.2.2.2.2.2.2.1).wr W, (P.2.2.2.2.2.2.2.2.2.2.2.1).other W (P.2.2.2.2.2.2.2.2.2.2.2.2.2.2.2.2.2.2 2 1 (by decide) (by decide) (by decide)), (P.2.2.2.2.2.2.2.2.2.2.2.2.1).other W (P.2.2.2.2.2.2.2.2.2.2.2.2.2.2.2.2.2.2 3 1 (by decide) (by decide) (by decide)), (P.2.2.2.2.2.2.2.2.2.2.2.2.2.1).other W (P.2.2.2.2.2.2.2.2.2.2.2.2.2.2.2.2.2.2 4 1 (by decide) (by decide) (by decide)), (P.2.2.2.2.2.2.2.2.2.2.2.2.2.2.1).other W (P.2.2.2.2.2.2.2.2.2.2.2.2.2.2.2.2.2.2 5 1 (by decide) (by decide) (by decide)), (P.2.2.2.2.2.2.2.2.2.2.2.2.2.2.2.1).other W (P.2.2.2.2.2.2.2.2.2.2.2.2.2.2.2.2.2.2 6 1 (by decide) (by decide) (by decide)), (P.2.2.2.2.2.2.2.2.2.2.2.2.2.2.2.2.1).other W (P.2.2.2.2.2.2.2.2.2.2.2.2.2.2.2.2.2.2 7 1 (by decide) (by decide) (by decide)), P.2.2.2.2.2.2.2.2.2.2.2.2.2.2.2.2.2.1, P.2.2.2.2.2.2.2.2.2.2.2.2.2.2.2.2.2.2⟩
theorem own_ON.w2 {j : Nat} {v : Int32} (P : own_ON Z n0 h A f ob nm) (W : Wr h h' (A 2) j (.int v)) : own_ON Z n0 h' A (own_fu f 2 j v) ob nm := ⟨(P.1).wr W, (P.2.1).other W (Or.inl (P.2.2.2.2.2.2.2.2.2.2.2.2.2.2.2.2.2.2 0 2 (by decide) (by decide) (by decide))), (P.2.2.1).other W (Or.inl (P.2.2.2.2.2.2.2.2.2.2.2.2.2.2.2.2.2.2 0 2 (by decide) (by decide) (by decide))), (P.2.2.2.1).other W (Or.inl (P.2.2.2.2.2.2.2.2.2.2.2.2.2.2.2.2.2.2 0 2 (by decide) (by decide) (by decide))), (P.2.2.2.2.1).other W (Or.inl (P.2.2.2.2.2.2.2.2.2.2.2.2.2.2.2.2.2.2 0 2 (by decide) (by decide) (by decide))), (P.2.2.2.2.2.1).other W (Or.inl (P.2.2.2.2.2.2.2.2.2.2.2.2.2.2.2.2.2.2 0 2 (by decide) (by decide) (by decide))), (P.2.2.2.2.2.2.1).other W (Or.inl (P.2.2.2.2.2.2.2.2.2.2.2.2.2.2.2.2.2.2 0 2 (by decide) (by decide) (by decide))), (P.2.2.2.2.2.2.2.1).other W (Or.inl (P.2.2.2.2.2.2.2.2.2.2.2.2.2.2.2.2.2.2 0 2 (by decide) (by decide) (by decide))), (P.2.2.2.2.2.2.2.2.1).other W (Or.inl (P.2.2.2.2.2.2.2.2.2.2.2.2.2.2.2.2.2.2 0 2 (by decide) (by decide) (by decide))), (P.2.2.2.2.2.2.2.2.2.1).other W (Or.inl (P.2.2.2.2.2.2.2.2.2.2.2.2.2.2.2.2.2.2 0 2 (by decide) (by decide) (by decide))), (P.2.2.2.2.2.2.2.2.2.2.1).other W (P.2.2.2.2.2.2.2.2.2.2.2.2.2.2.2.2.2.2 1 2 (by decide) (by decide) (by decide)), (P.2.2.2.2.2.2.2.2.2.2.2.1).wr W, (P.2.2.2.2.2.2.2.2.2.2.2.2.1).other W (P.2.2.2.2.2.2.2.2.2.2.2.2.2.2.2.2.2.2 3 2 (by decide) (by decide) (by decide)), (P.2.2.2.2.2.2.2.2.2.2.2.2.2.1).other W (P.2.2.2.2.2.2.2.2.2.2.2.2.2.2.2.2.2.2 4 2 (by decide) (by decide) (by decide)), (P.2.2.2.2.2.2.2.2.2.2.2.2.2.2.1).other W (P.2.2.2.2.2.2.2.2.2.2.2.2.2.2.2.2.2.2 5 2 (by decide) (by decide) (by decide)), (P.2.2.2.2.2.2.2.2.2.2.2.2.2.2.2.1).other W (P.2.2.2.2.2.2.2.2.2.2.2.2.2.2.2.2.2.2 6 2 (by decide) (by decide) (by decide)), (P.2.2.2.2.2.2.2.2.2.2.2.2.2.2.2.2.1).other W (P.2.2.2.2.2.2.2.2.2.2.2.2.2.2.2.2.2.2 7 2 (by decide) (by decide) (by decide)), P.2.2.2.2.2.2.2.2.2.2.2.2.2.2.2.2.2.1, P.2.2.2.2.2.2.2.2.2.2.2.2.2.2.2.2.2.2⟩
theorem own_ON.w3 {j : Nat} {v : Int32} (P : own_ON Z n0 h A f ob nm) (W : Wr h h' (A 3) j (.int v)) : own_ON Z n0 h' A (own_fu f 3 j v) ob nm := ⟨(P.1).wr W, (P.2.1).other W (Or.inl (P.2.2.2.2.2.2.2.2.2.2.2.2.2.2.2.2.2.2 0 3 (by decide) (by decide) (by decide))), (P.2.2.1).other W (Or.inl (P.2.2.2.2.2.2.2.2.2.2.2.2.2.2.2.2.2.2 0 3 (by decide) (by decide) (by decide))), (P.2.2.2.1).other W (Or.inl (P.2.2.2.2.2.2.2.2.2.2.2.2.2.2.2.2.2.2 0 3 (by decide) (by decide) (by decide))), (P.2.2.2.2.1).other W (Or.inl (P.2.2.2.2.2.2.2.2.2.2.2.2.2.2.2.2.2.2 0 3 (by decide) (by decide) (by decide))), (P.2.2.2.2.2.1).other W (Or.inl (P.2.2.2.2.2.2.2.2.2.2.2.2.2.2.2.2.2.2 0 3 (by decide) (by decide) (by decide))), (P.2.2.2.2.2.2.1).other W (Or.inl (P.2.2.2.2.2.2.2.2.2.2.2.2.2.2.2.2.2.2 0 3 (by decide) (by decide) (by decide))), (P.2.2.2.2.2.2.2.1).other W (Or.inl (P.2.2.2.2.2.2.2.2.2.2.2.2.2.2.2.2.2.2 0 3 (by decide) (by decide) (by decide))), (P.2.2.2.2.2.2.2.2.1).other W (Or.inl (P.2.2.2.2.2.2.2.2.2.2.2.2.2.2.2.2.2.2 0 3 (by decide) (by decide) (by decide))), (P.2.2.2.2.2.2.2.2.2.1).other W (Or.inl (P.2.2.2.2.2.2.2.2.2.2.2.2.2.2.2.2.2.2 0 3 (by decide) (by decide) (by decide))), (P.2.2.2.2.2.2.2.2.2.2.1).other W (P.2.2.2.2.2.2.2.2.2.2.2.2.2.2.2.2.2.2 1 3 (by decide) (by decide) (by decide)), (P.2.2.2.2.2.2.2.2.2.2.2.1).other W (P.2.2.2.2.2.2.2.2.2.2.2.2.2.2.2.2.2.2 2 3 (by decide) (by decide) (by decide)), (P.2.2.2.2.2.2.2.2.2.2.2.2.1).wr W, (P.2.2.2.2.2.2.2.2.2.2.2.2.2.1).other W (P.2.2.2.2.2.2.2.2.2.2.2.2.2.2.2.2.2.2 4 3 (by decide) (by decide) (by decide)), (P.2.2.2.2.2.2.2.2.2.2.2.2.2.2.1).other W (P.2.2.2.2.2.2.2.2.2.2.2.2.2.2.2.2.2.2 5 3 (by decide) (by decide) (by decide)), (P.2.2.2.2.2.2.2.2.2.2.2.2.2.2.2.1).other W (P.2.2.2.2.2.2.2.2.2.2.2.2.2.2.2.2.2.2 6 3 (by decide) (by decide) (by decide)), (P.2.2.2.2.2.2.2.2.2.2.2.2.2.2.2.2.1).other W (P.2.2.2.2.2.2.2.2.2.2.2.2.2.2.2.2.2.2 7 3 (by decide) (by decide) (by decide)), P.2.2.2.2.2.2.2.2.2.2.2.2.2.2.2.2.2.1, P.2.2.2.2.2.2.2.2.2.2.2.2.2.2.2.2.2.2⟩
theorem own_ON.w4 {j : Nat} {v : Int32} (P : own_ON Z n0 h A f ob nm) (W : Wr h h' (A 4) j (.int v)) : own_ON Z n0 h' A (own_fu f 4 j v) ob nm := ⟨(P.1).wr W, (P.2.1).other W (Or.inl (P.2.2.2.2.2.2.2.2.2.2.2.2.2.2.2.2.2.2 0 4 (by decide) (by decide) (by decide))), (P.2.2.1).other W (Or.inl (P.2.2.2.2.2.2.2.2.2.2.2.2.2.2.2.2.2.2 0 4 (by decide) (by decide) (by decide))), (P.2.2.2.1).other W (Or.inl (P.2.2.2.2.2.2.2.2.2.2.2.2.2.2.2.2.2.2 0 4 (by decide) (by decide) (by decide))), (P.2.2.2.2.1).other W (Or.inl (P.2.2.2.2.2.2.2.2.2.2.2.2.2.2.2.2.2.2 0 4 (by decide) (by decide) (by decide))), (P.2.2.2.2.2.1).other W (Or.inl (P.2.2.2.2.2.2.2.2.2.2.2.2.2.2.2.2.2.2 0 4 (by decide) (by decide) (by decide))), (P.2.2.2.2.2.2.1).other W (Or.inl (P.2.2.2.2.2.2.2.2.2.2.2.2.2.2.2.2.2.2 0 4 (by decide) (by decide) (by decide))), (P.2.2.2.2.2.2.2.1).other W (Or.inl (P.2.2.2.2.2.2.2.2.2.2.2.2.2.2.2.2.2.2 0 4 (by decide) (by decide) (by decide))), (P.2.2.2.2.2.2.2.2.1).other W (Or.inl (P.2.2.2.2.2.2.2.2.2.2.2.2.2.2.2.2.2.2 0 4 (by decide) (by decide) (by decide))), (P.2.2.2.2.2.2.2.2.2.1).other W (Or.inl (P.2.2.2.2.2.2.2.2.2.2.2.2.2.2.2.2.2.2 0 4 (by decide) (by decide) (by decide))), (P.2.2.2.2.2.2.2.2.2.2.1).other W (P.2.2.2.2.2.2.2.2.2.2.2.2.2.2.2.2.2.2 1 4 (by decide) (by decide) (by decide)), (P.2.2.2.2.2.2.2.2.2.2.2.1).other W (P.2.2.2.2.2.2.2.2.2.2.2.2.2.2.2.2.2.2 2 4 (by decide) (by decide) (by decide)), (P.2.2.2.2.2.2.2.2.2.2.2.2.1).other W (P.2.2.2.2.2.2.2.2.2.2.2.2.2.2.2.2.2.2 3 4 (by decide) (by decide) (by decide)), (P.2.2.2.2.2.2.2.2.2.2.2.2.2.1).wr W, (P.2.2.2.2.2.2.2.2.2.2.2.2.2.2.1).other W (P.2.2.2.2.2.2.2.2.2.2.2.2.2.2.2.2.2.2 5 4 (by decide) (by decide) (by decide)), (P.2.2.2.2.2.2.2.2.2.2.2.2.2.2.2.1).other W (P.2.2.2.2.2.2.2.2.2.2.2.2.2.2.2.2.2.2 6 4 (by decide) (by decide) (by decide)), (P.2.2.2.2.2.2.2.2.2.2.2.2.2.2.2.2.1).other W (P.2.2.2.2.2.2.2.2.2.2.2.2.2.2.2.2.2.2 7 4 (by decide) (by decide) (by decide)), P.2.2.2.2.2.2.2.2.2.2.2.2.2.2.2.2.2.1, P.2.2.2.2.2.2.2.2.2.2.2.2.2.2.2.2.2.2⟩
theorem own_ON.w5 {j : Nat} {v : Int32} (P : own_ON Z n0 h A f ob nm) (W : Wr h h' (A 5) j (.int v)) : own_ON Z n0 h' A (own_fu f 5 j v) ob nm := ⟨(P.1).wr W, (P.2.1).other W (Or.inl (P.2.2.2.2.2.2.2.2.2.2.2.2.2.2.2.2.2.2 0 5 (by decide) (by decide) (by decide))), (P.2.2.1).other W (Or.inl (P.2.2.2.2.2.2.2.2.2.2.2.2.2.2.2.2.2.2 0 5 (by decide) (by decide) (by decide))), (P.2.2.2.1).other W (Or.inl (P.2.2.2.2.2.2.2.2.2.2.2.2.2.2.2.2.2.2 0 5 (by decide) (by decide) (by decide))), (P.2.2.2.2.1).other W (Or.inl (P.2.2.2.2.2.2.2.2.2.2.2.2.2.2.2.2.2.2 0 5 (by decide) (by decide) (by decide))), (P.2.2.2.2.2.1).other W (Or.inl (P.2.2.2.2.2.2.2.2.2.2.2.2.2.2.2.2.2.2 0 5 (by decide) (by decide) (by decide))), (P.2.2.2.2.2.2.1).other W (Or.inl (P.2.2.2.2.2.2.2.2.2.2.2.2.2.2.2.2.2.2 0 5 (by decide) (by decide) (by decide))), (P.2.2.2.2.2.2.2.1).other W (Or.inl (P.2.2.2.2.2.2.2.2.2.2.2.2.2.2.2.2.2.2 0 5 (by decide) (by decide) (by decide))), (P.2.2.2.2.2.2.2.2.1).other W (Or.inl (P.2.2.2.2.2.2.2.2.2.2.2.2.2.2.2.2.2.2 0 5 (by decide) (by decide) (by decide))), (P.2.2.2.2.2.2.2.2.2.1).other W (Or.inl (P.2.2.2.2.2.2.2.2.2.2.2.2.2.2.2.2.2.2 0 5 (by decide) (by decide) (by decide))), (P.2.2.2.2.2.2.2.2.2.2.1).other W (P.2.2.2.2.2.2.2.2.2.2.2.2.2.2.2.2.2.2 1 5 (by decide) (by decide) (by decide)), (P.2.2.2.2.2.2.2.2.2.2.2.1).other W (P.2.2.2.2.2.2.2.2.2.2.2.2.2.2.2.2.2.2 2 5 (by decide) (by decide) (by decide)), (P.2.2.2.2.2.2.2.2.2.2.2.2.1).other W (P.2.2.2.2.2.2.2.2.2.2.2.2.2.2.2.2.2.2 3 5 (by decide) (by decide) (by decide)), (P.2.2.2.2.2.2.2.2.2.2.2.2.2.1).other W (P.2.2.2.2.2.2.2.2.2.2.2.2.2.2.2.2.2.2 4 5 (by decide) (by decide) (by decide)), (P.2.2.2.2.2.2.2.2.2.2.2.2.2.2.1).wr W, (P.2.2.2.2.2.2.2.2.2.2.2.2.2.2.2.1).other W (P.2.2.2.2.2.2.2.2.2.2.2.2.2.2.2.2.2.2 6 5 (by decide) (by decide) (by decide)), (P.2.2.2.2.2.2.2.2.2.2.2.2.2.2.2.2.1).other W (P.2.2.2.2.2.2.2.2.2.2.2.2.2.2.2.2.2.2 7 5 (by decide) (by decide) (by decide)), P.2.2.2.2.2.2.2.2.2.2.2.2.2.2.2.2.2.1, P.2.2.2.2.2.2.2.2.2.2.2.2.2.2.2.2.2.2⟩
theorem own_ON.w6 {j : Nat} {v : Int32} (P : own_ON Z n0 h A f ob nm) (W : Wr h h' (A 6) j (.int v)) : own_ON Z n0 h' A (own_fu f 6 j v) ob nm := ⟨(P.1).wr W, (P.2.1).other W (Or.inl (P.2.2.2.2.2.2.2.2.2.2.2.2.2.2.2.2.2.2 0 6 (by decide) (by decide) (by decide))), (P.2.2.1).other W (Or.inl (P.2.2.2.2.2.2.2.2.2.2.2.2.2.2.2.2.2.2 0 6 (by decide) (by decide) (by decide))), (P.2.2.2.1).other W (Or.inl (P.2.2.2.2.2.2.2.2.2.2.2.2.2.2.2.2.2.2 0 6 (by decide) (by decide) (by decide))), (P.2.2.2.2.1).other W (Or.inl (P.2.2.2.2.2.2.2.2.2.2.2.2.2.2.2.2.2.2 0 6 (by decide) (by decide) (by decide))), (P.2.2.2.2.2.1).other W (Or.inl (P.2.2.2.2.2.2.2.2.2.2.2.2.2.2.2.2.2.2 0 6 (by decide) (by decide) (by decide))), (P.2.2.2.2.2.2.1).other W (Or.inl (P.2.2.2.2.2.2.2.2.2.2.2.2.2.2.2.2.2.2 0 6 (by decide) (by decide) (by decide))), (P.2.2.2.2.2.2.2.1).other W (Or.inl (P.2.2.2.2.2.2.2.2.2.2.2.2.2.2.2.2.2.2 0 6 (by decide) (by decide) (by decide))), (P.2.2.2.2.2.2.2.2.1).other W (Or.inl (P.2.2.2.2.2.2.2.2.2.2.2.2.2.2.2.2.2.2 0 6 (by decide) (by decide) (by decide))), (P.2.2.2.2.2.2.2.2.2.1).other W (Or.inl (P.2.2.2.2.2.2.2.2.2.2.2.2.2.2.2.2.2.2 0 6 (by decide) (by decide) (by decide))), (P.2.2.2.2.2.2.2.2.2.2.1).other W (P.2.2.2.2.2.2.2.2.2.2.2.2.2.2.2.2.2.2 1 6 (by decide) (by decide) (by decide)), (P.2.2.2.2.2.2.2.2.2.2.2.1).other W (P.2.2.2.2.2.2.2.2.2.2.2.2.2.2.2.2.2.2 2 6 (by decide) (by decide) (by decide)), (P.2.2.2.2.2.2.2.2.2.2.2.2.1).other W (P.2.2.2.2.2.2.2.2.2.2.2.2.2.2.2.2.2.2 3 6 (by decide) (by decide) (by decide)), (P.2.2.2.2.2.2.2.2.2.2.2.2.2.1).other W (P.2.2.2.2.2.2.2.2.2.2.2.2.2.2.2.2.2.2 4 6 (by decide) (by decide) (by decide)), (P.2.2.2.2.2.2.2.2.2.2.2.2.2.2.1).other W (P.2.2.2.2.2.2.2.2.2.2.2.2.2.2.2.2.2.2 5 6 (by decide) (by decide) (by decide)), (P.2.2.2.2.2.2.2.2.2.2.2.2.2.2.2.1).wr W, (P.2.2.2.2.2.2.2.2.2.2.2.2.2.2.2.2.1).other W (P.2.2.2.2.2.2.2.2.2.2.2.2.2.2.2.2.2.2 7 6 (by decide) (by decide) (by decide)), P.2.2.2.2.2.2.2.2.2.2.2.2.2.2.2.2.2.1, P.2.2.2.2.2.2.2.2.2.2.2.2.2.2.2.2.2.2⟩
theorem own_ON.w7 {j : Nat} {v : Int32} (P : own_ON Z n0 h A f ob nm) (W : Wr h h' (A 7) j (.int v)) : own_ON Z n0 h' A (own_fu f 7 j v) ob nm := ⟨(P.1).wr W, (P.2.1).other W (Or.inl (P.2.2.2.2.2.2.2.2.2.2.2.2.2.2.2.2.2.2 0 7 (by decide) (by decide) (by decide))), (P.2.2.1).other W (Or.inl (P.2.2.2.2.2.2.2.2.2.2.2.2.2.2.2.2.2.2 0 7 (by decide) (by decide) (by decide))), (P.2.2.2.1).other W (Or.inl (P.2.2.2.2.2.2.2.2.2.2.2.2.2.2.2.2.2.2 0 7 (by decide) (by decide) (by decide))), (P.2.2.2.2.1).other W (Or.inl (P.2.2.2.2.2.2.2.2.2.2.2.2.2.2.2.2.2.2 0 7 (by decide) (by decide) (by decide))), (P.2.2.2.2.2.1).other W (Or.inl (P.2.2.2.2.2.2.2.2.2.2.2.2.2.2.2.2.2.2 0 7 (by decide) (by decide) (by decide))), (P.2.2.2.2.2.2.1).other W (Or.inl (P.2.2.2.2.2.2.2.2.2.2.2.2.2.2.2.2.2.2 0 7 (by decide) (by decide) (by decide))), (P.2.2.2.2.2.2.2.1).other W (Or.inl (P.2.2.2.2.2.2.2.2.2.2.2.2.2.2.2.2.2.2 0 7 (by decide) (by decide) (by decide))), (P.2.2.2.2.2.2.2.2.1).other W (Or.inl (P.2.2.2.2.2.2.2.2.2.2.2.2.2.2.2.2.2.2 0 7 (by decide) (by decide) (by decide))), (P.2.2.2.2.2.2.2.2.2.1).other W (Or.inl (P.2.2.2.2.2.2.2.2.2.2.2.2.2.2.2.2.2.2 0 7 (by decide) (by decide) (by decide))), (P.2.2.2.2.2.2.2.2.2.2.1).other W (P.2.2.2.2.2.2.2.2.2.2.2.2.2.2.2.2.2.2 1 7 (by decide) (by decide) (by decide)), (P.2.2.2.2.2.2.2.2.2.2.2.1).other W (P.2.2.2.2.2.2.2.2.2.2.2.2.2.2.2.2.2.2 2 7 (by decide) (by decide) (by decide)), (P.2.2.2.2.2.2.2.2.2.2.2.2.1).other W (P.2.2.2.2.2.2.2.2.2.2.2.2.2.2.2.2.2.2 3 7 (by decide) (by decide) (by decide)), (P.2.2.2.2.2.2.2.2.2.2.2.2.2.1).other W (P.2.2.2.2.2.2.2.2.2.2.2.2.2.2.2.2.2.2 4 7 (by decide) (by decide) (by decide)), (P.2.2.2.2.2.2.2.2.2.2.2.2.2.2.1).other W (P.2.2.2.2.2.2.2.2.2.2.2.2.2.2.2.2.2.2 5 7 (by decide) (by decide) (by decide)), (P.2.2.2.2.2.2.2.2.2.2.2.2.2.2.2.1).other W (P.2.2.2.2.2.2.2.2.2.2.2.2.2.2.2.2.2.2 6 7 (by decide) (by decide) (by decide)), (P.2.2.2.2.2.2.2.2.2.2.2.2.2.2.2.2.1).wr W, P.2.2.2.2.2.2.2.2.2.2.2.2.2.2.2.2.2.1, P.2.2.2.2.2.2.2.2.2.2.2.2.2.2.2.2.2.2⟩
theorem own_ON.wob {a0 : Array Value} (hw : ∀ d ∈ tables_1, d.before a0 Z = true) {v : Int32} (P : own_ON Z n0 h A f ob nm) (W : Wr h h' (A 0) (Jvm.RoadKit.slotOf Z "com/example/upkeep_window/upkeepwindow/policy/OpenNames" "objects" "I") (.int v)) : own_ON Z n0 h' A f v nm := ⟨(P.1).wr W, (P.2.1).other W (Or.inr (slot_ne (Or.inl (w_ hw 64 rfl)) (Or.inl (w_ hw 84 rfl)) (by decide) (t := (.array .char)) (t' := .int) (by decide) (by decide))), (P.2.2.1).other W (Or.inr (slot_ne (Or.inl (w_ hw 67 rfl)) (Or.inl (w_ hw 84 rfl)) (by decide) (t := (.array .int)) (t' := .int) (by decide) (by decide))), (P.2.2.2.1).other W (Or.inr (slot_ne (Or.inl (w_ hw 69 rfl)) (Or.inl (w_ hw 84 rfl)) (by decide) (t := (.array .int)) (t' := .int) (by decide) (by decide))), (P.2.2.2.2.1).other W (Or.inr (slot_ne (Or.inl (w_ hw 71 rfl)) (Or.inl (w_ hw 84 rfl)) (by decide) (t := (.array .int)) (t' := .int) (by decide) (by decide))), (P.2.2.2.2.2.1).other W (Or.inr (slot_ne (Or.inl (w_ hw 73 rfl)) (Or.inl (w_ hw 84 rfl)) (by decide) (t := (.array .byte)) (t' := .int) (by decide) (by decide))), (P.2.2.2.2.2.2.1).other W (Or.inr (slot_ne (Or.inl (w_ hw 75 rfl)) (Or.inl (w_ hw 84 rfl)) (by decide) (t := (.array .int)) (t' := .int) (by decide) (by decide))), (P.2.2.2.2.2.2.2.1).other W (Or.inr (slot_ne (Or.inl (w_ hw 77 rfl)) (Or.inl (w_ hw 84 rfl)) (by decide) (t := (.array .int)) (t' := .int) (by decide) (by decide))), (P.2.2.2.2.2.2.2.2.1).same W, (P.2.2.2.2.2.2.2.2.2.1).other W (Or.inr (slot_ne (Or.inl (w_ hw 86 rfl)) (Or.inl (w_ hw 84 rfl)) (by decide) (t := .int) (t' := .int) (by decide) (by decide))), (P.2.2.2.2.2.2.2.2.2.2.1).other W (P.2.2.2.2.2.2.2.2.2.2.2.2.2.2.2.2.2.2 1 0 (by decide) (by decide) (by decide)), (P.2.2.2.2.2.2.2.2.2.2.2.1).other W (P.2.2.2.2.2.2.2.2.2.2.2.2.2.2.2.2.2.2 2 0 (by decide) (by decide) (by decide)), (P.2.2.2.2.2.2.2.2.2.2.2.2.1).other W (P.2.2.2.2.2.2.2.2.2.2.2.2.2.2.2.2.2.2 3 0 (by decide) (by decide) (by decide)), (P.2.2.2.2.2.2.2.2.2.2.2.2.2.1).other W (P.2.2.2.2.2.2.2.2.2.2.2.2.2.2.2.2.2.2 4 0 (by decide) (by decide) (by decide)), (P.2.2.2.2.2.2.2.2.2.2.2.2.2.2.1).other W (P.2.2.2.2.2.2.2.2.2.2.2.2.2.2.2.2.2.2 5 0 (by decide) (by decide) (by decide)), (P.2.2.2.2.2.2.2.2.2.2.2.2.2.2.2.1).other W (P.2.2.2.2.2.2.2.2.2.2.2.2.2.2.2.2.2.2 6 0 (by decide) (by decide) (by decide)), (P.2.2.2.2.2.2.2.2.2.2.2.2.2.2.2.2.1).other W (P.2.2.2.2.2.2.2.2.2.2.2.2.2.2.2.2.2.2 7 0 (by decide) (by decide) (by decide)), P.2.2.2.2.2.2.2.2.2.2.2.2.2.2.2.2.2.1, P.2.2.2.2.2.2.2.2.2.2.2.2.2.2.2.2.2.2⟩
theorem own_ON.wnm {a0 : Array Value} (hw : ∀ d ∈ tables_1, d.before a0 Z = true) {v : Int32} (P : own_ON Z n0 h A f ob nm) (W : Wr h h' (A 0) (Jvm.RoadKit.slotOf Z "com/example/upkeep_window/upkeepwindow/policy/OpenNames" "names" "I") (.int v)) : own_ON Z n0 h' A f ob v := ⟨(P.1).wr W, (P.2.1).other W (Or.inr (slot_ne (Or.inl (w_ hw 64 rfl)) (Or.inl (w_ hw 86 rfl)) (by decide) (t := (.array .char)) (t' := .int) (by decide) (by decide))), (P.2.2.1).other W (Or.inr (slot_ne (Or.inl (w_ hw 67 rfl)) (Or.inl (w_ hw 86 rfl)) (by decide) (t := (.array .int)) (t' := .int) (by decide) (by decide))), (P.2.2.2.1).other W (Or.inr (slot_ne (Or.inl (w_ hw 69 rfl)) (Or.inl (w_ hw 86 rfl)) (by decide) (t := (.array .int)) (t' := .int) (by decide) (by decide))), (P.2.2.2.2.1).other W (Or.inr (slot_ne (Or.inl (w_ hw 71 rfl)) (Or.inl (w_ hw 86 rfl)) (by decide) (t := (.array .int)) (t' := .int) (by decide) (by decide))), (P.2.2.2.2.2.1).other W (Or.inr (slot_ne (Or.inl (w_ hw 73 rfl)) (Or.inl (w_ hw 86 rfl)) (by decide) (t := (.array .byte)) (t' := .int) (by decide) (by decide))), (P.2.2.2.2.2.2.1).other W (Or.inr (slot_ne (Or.inl (w_ hw 75 rfl)) (Or.inl (w_ hw 86 rfl)) (by decide) (t := (.array .int)) (t' := .int) (by decide) (by decide))), (P.2.2.2.2.2.2.2.1).other W (Or.inr (slot_ne (Or.inl (w_ hw 77 rfl)) (Or.inl (w_ hw 86 rfl)) (by decide) (t := (.array .int)) (t' := .int) (by decide) (by decide))), (P.2.2.2.2.2.2.2.2.1).other W (Or.inr (slot_ne (Or.inl (w_ hw 84 rfl)) (Or.inl (w_ hw 86 rfl)) (by decide) (t := .int) (t' := .int) (by decide) (by decide))), (P.2.2.2.2.2.2.2.2.2.1).same W, (P.2.2.2.2.2.2.2.2.2.2.1).other W (P.2.2.2.2.2.2.2.2.2.2.2.2.2.2.2.2.2.2 1 0 (by decide) (by decide) (by decide)), (P.2.2.2.2.2.2.2.2.2.2.2.1).other W (P.2.2.2.2.2.2.2.2.2.2.2.2.2.2.2.2.2.2 2 0 (by decide) (by decide) (by decide)), (P.2.2.2.2.2.2.2.2.2.2.2.2.1).other W (P.2.2.2.2.2.2.2.2.2.2.2.2.2.2.2.2.2.2 3 0 (by decide) (by decide) (by decide)), (P.2.2.2.2.2.2.2.2.2.2.2.2.2.1).other W (P.2.2.2.2.2.2.2.2.2.2.2.2.2.2.2.2.2.2 4 0 (by decide) (by decide) (by decide)), (P.2.2.2.2.2.2.2.2.2.2.2.2.2.2.1).other W (P.2.2.2.2.2.2.2.2.2.2.2.2.2.2.2.2.2.2 5 0 (by decide) (by decide) (by decide)), (P.2.2.2.2.2.2.2.2.2.2.2.2.2.2.2.1).other W (P.2.2.2.2.2.2.2.2.2.2.2.2.2.2.2.2.2.2 6 0 (by decide) (by decide) (by decide)), (P.2.2.2.2.2.2.2.2.2.2.2.2.2.2.2.2.1).other W (P.2.2.2.2.2.2.2.2.2.2.2.2.2.2.2.2.2.2 7 0 (by decide) (by decide) (by decide)), P.2.2.2.2.2.2.2.2.2.2.2.2.2.2.2.2.2.1, P.2.2.2.2.2.2.2.2.2.2.2.2.2.2.2.2.2.2⟩
theorem own_ON.keep {ws : List Addr} (P : own_ON Z n0 h A f ob nm) (K : Keep h h' ws) (q : ∀ i, i < 8 → A i ∉ ws) : own_ON Z n0 h' A f ob nm := ⟨(P.1).keep K, (P.2.1).keep K (q 0 (by decide)), (P.2.2.1).keep K (q 0 (by decide)), (P.2.2.2.1).keep K (q 0 (by decide)), (P.2.2.2.2.1).keep K (q 0 (by decide)), (P.2.2.2.2.2.1).keep K (q 0 (by decide)), (P.2.2.2.2.2.2.1).keep K (q 0 (by decide)), (P.2.2.2.2.2.2.2.1).keep K (q 0 (by decide)), (P.2.2.2.2.2.2.2.2.1).keep K (q 0 (by decide)), (P.2.2.2.2.2.2.2.2.2.1).keep K (q 0 (by decide)), (P.2.2.2.2.2.2.2.2.2.2.1).keep K (q 1 (by decide)), (P.2.2.2.2.2.2.2.2.2.2.2.1).keep K (q 2 (by decide)), (P.2.2.2.2.2.2.2.2.2.2.2.2.1).keep K (q 3 (by decide)), (P.2.2.2.2.2.2.2.2.2.2.2.2.2.1).keep K (q 4 (by decide)), (P.2.2.2.2.2.2.2.2.2.2.2.2.2.2.1).keep K (q 5 (by decide)), (P.2.2.2.2.2.2.2.2.2.2.2.2.2.2.2.1).keep K (q 6 (by decide)), (P.2.2.2.2.2.2.2.2.2.2.2.2.2.2.2.2.1).keep K (q 7 (by decide)), P.2.2.2.2.2.2.2.2.2.2.2.2.2.2.2.2.2.1, P.2.2.2.2.2.2.2.2.2.2.2.2.2.2.2.2.2.2⟩
theorem own_ON.ext (P : own_ON Z n0 h A f ob nm) (E : Ext h h') : own_ON Z n0 h' A f ob nm := ⟨(P.1).ext E, (P.2.1).ext E, (P.2.2.1).ext E, (P.2.2.2.1).ext E, (P.2.2.2.2.1).ext E, (P.2.2.2.2.2.1).ext E, (P.2.2.2.2.2.2.1).ext E, (P.2.2.2.2.2.2.2.1).ext E, (P.2.2.2.2.2.2.2.2.1).ext E, (P.2.2.2.2.2.2.2.2.2.1).ext E, (P.2.2.2.2.2.2.2.2.2.2.1).ext E, (P.2.2.2.2.2.2.2.2.2.2.2.1).ext E, (P.2.2.2.2.2.2.2.2.2.2.2.2.1).ext E, (P.2.2.2.2.2.2.2.2.2.2.2.2.2.1).ext E, (P.2.2.2.2.2.2.2.2.2.2.2.2.2.2.1).ext E, (P.2.2.2.2.2.2.2.2.2.2.2.2.2.2.2.1).ext E, (P.2.2.2.2.2.2.2.2.2.2.2.2.2.2.2.2.1).ext E, P.2.2.2.2.2.2.2.2.2.2.2.2.2.2.2.2.2.1, P.2.2.2.2.2.2.2.2.2.2.2.2.2.2.2.2.2.2⟩
theorem own_mem0 : A 0 ∈ own_ws A := by simp [own_ws]
theorem own_mem1 : A 1 ∈ own_ws A := by simp [own_ws]
theorem own_mem2 : A 2 ∈ own_ws A := by simp [own_ws]
theorem own_mem3 : A 3 ∈ own_ws A := by simp [own_ws]
theorem own_mem4 : A 4 ∈ own_ws A := by simp [own_ws]
theorem own_mem5 : A 5 ∈ own_ws A := by simp [own_ws]
theorem own_mem6 : A 6 ∈ own_ws A := by simp [own_ws]
theorem own_mem7 : A 7 ∈ own_ws A := by simp [own_ws]
end OwnON
def own_st (f : Nat → Nat → Int32) (i : Nat) : Int32 := if i = 0 then 0 else f 2 (i - 1)
def own_ht (f : Nat → Nat → Int32) (x : Int32) : Int32 := if x = -1 then 0 else f 5 x.toInt.toNat
def own_n16 (x : Int32) : Prop := x = -1 ∨ (0 ≤ x.toInt ∧ x.toInt < 16)
theorem own_st0 {f : Nat → Nat → Int32} {i : Int32} {iN : Nat} (h : own_I i iN) (q : i = 0) : (0 : Int32) = own_st f iN := by
 have := (h.eq own_I0).mp q
 unfold own_st; rw [if_pos this]
theorem own_st1 {f : Nat → Nat → Int32} {i : Int32} {iN : Nat} (h : own_I i iN) (q : ¬ i = 0) : f 2 (iN - 1) = own_st f iN := by
 have := mt (h.eq own_I0).mpr q
 unfold own_st; rw [if_neg this]
theorem own_pos {i : Int32} {iN : Nat} (h : own_I i iN) (q : ¬ i = 0) : 1 ≤ iN := by
 have := mt (h.eq own_I0).mpr q
 omega
theorem own_Iof {x : Int32} (h : 0 ≤ x.toInt) : own_I x x.toInt.toNat := by unfold own_I; omega
theorem d22_0 : De c_22 0 (.iload_n 1) 1 := by decide +kernel
theorem d22_1 : De c_22 1 (.ifCond .ne 7) 3 := by decide +kernel
theorem d22_4 : De c_22 4 (.iconst 0) 1 := by decide +kernel
theorem d22_5 : De c_22 5 (.goto 11) 3 := by decide +kernel
theorem d22_8 : De c_22 8 (.aload_n 0) 1 := by decide +kernel
theorem d22_9 : De c_22 9 (.getfield 13) 3 := by decide +kernel
theorem d22_12 : De c_22 12 (.iload_n 1) 1 := by decide +kernel
theorem d22_13 : De c_22 13 (.iconst 1) 1 := by decide +kernel
theorem d22_14 : De c_22 14 .isub 1 := by decide +kernel
theorem d22_15 : De c_22 15 .iaload 1 := by decide +kernel
theorem d22_16 : De c_22 16 .ireturn 1 := by decide +kernel
theorem pn_22 : plainName "com/example/upkeep_window/upkeepwindow/policy/OpenNames" = true := by first | (simp [plainName, overriddenIn]; done) | decide +kernel
theorem ef_22 (m : MethodId) (x0 : Addr) (x1 : Int32) : entryFrame m #[(.ref x0), (.int x1)] 2 = mkF m 0 #[Vr x0, Vi x1] [] := by first | rfl | simp [entryFrame, mkF, argsToLocals, Value.category]
def Q_rst (Z : State) (i : Int32) (A : Nat → Addr) (f : Nat → Nat → Int32) (ob nm : Int32) (iN : Nat) (h0 : Heap) (n0 : Nat) : Option Value → Heap → List Loc → Prop := fun v h L => v = some (.int (own_st f iN)) ∧ Fr n0 L ∧ h = h0
theorem rst (l : Launch) (Z : State) (a0 : Array Value) (hw : ∀ d ∈ tables_1, d.before a0 Z = true) (ws : List Jvm.Cond) (i : Int32) (A : Nat → Addr) (f : Nat → Nat → Int32) (ob nm : Int32) (iN : Nat) (h0 : Heap) (n0 : Nat) (Z0 : n0 ≤ h0.size) (P : own_ON Z n0 h0 A f ob nm) (hi : own_I i iN) (hbd : iN ≤ 16) :
  own_M l Z n_0 (Jvm.Cond.code n_0 prog_33_method_13_code 2 (some .int)) ws (Rm 0 0 0 0) #[(.ref (A 0)), (.int i)] h0 (Q_rst Z i A f ob nm iN h0 n0) := by
 refine MetFree.of_bodySF (plainFor_of_name pn_22) hisR ?_
 intro p e s m args below meth c s₁ Bd hml0 hP hK
 obtain ⟨rfl, hZ, hh⟩ := hP
 have hx := Bd.exec
 have hby := Bd.bytes
 have hml : c.maxLocals = 2 := hml0
 have hown : s.vm.findClass "com/example/upkeep_window/upkeepwindow/policy/OpenNames" = some m.cls := findClass_of_methodNamed Bd.named
 have hnm := (name_of_methodNamed Bd.named Bd.method).1
 have X0 : Stand p l e (Rm 0 0 0 0) s m #[(.ref (A 0)), (.int i)] below meth c s₁ [] 0 0 := Stand.of_body Bd
 have e0 : s₁.heap = h0 := by rw [← hh, Bd.state]; rfl
 have N0 := Fr.nil n0
 show Goes p e below (Fin s (Q_rst Z i A f ob nm iN h0 n0) (Rm 0 0 0 0).cells (Rm 0 0 0 0).slots) _
 refine Goes.via (S' := s₁.setTop (mkF m 0 #[Vr (A 0), Vi i] [])) (fun tz kz => castTop (ef_22 m (A 0) i ) kz) ?_
 refine Goes.via (S' := s₁.setTop (mkF m 1 #[Vr (A 0), Vi i] [(.int i)])) (fun tz kz => ?_) ?_
 ·refine XS.iloadN X0.here hx rfl (hb hby d22_0) rfl ?_
  exact kz
 by_cases hc1_1 : i = (0 : Int32)
 ·refine Goes.via (S' := s₁.setTop (mkF m 16 #[Vr (A 0), Vi i] [(.int 0)])) (fun tz kz => ?_) ?_
  ·refine XS.ifNo X0.here hx rfl (hb hby d22_1) rfl ((if0 _ _).trans (teq hc1_1).2) ?_
   refine XS.iconst X0.here hx rfl (hb hby d22_4) ?_
   refine XS.goto X0.here hx rfl (pc0 := 5) (pc' := 16) rfl (hb hby d22_5) (by decide) (by decide) ?_
   exact kz
  exact Goes.retI X0 hx Bd.notSynchronized Bd.returns (hb hby d22_16) (nb_ rfl) (nb_ rfl) ⟨congrArg (fun z => some (Value.int z)) (own_st0 hi hc1_1), N0, e0⟩
 ·refine Goes.via (S' := s₁.setTop (mkF m 9 #[Vr (A 0), Vi i] [(.ref (A 0))])) (fun tz kz => ?_) ?_
  ·refine XS.ifYes X0.here hx rfl (pc0 := 1) (pc' := 8) rfl (hb hby d22_1) rfl ((if0 _ _).trans (feq hc1_1).2) (by decide) (by decide) ?_
   refine XS.aloadN X0.here hx rfl (hb hby d22_8) rfl rfl ?_
   exact kz
  obtain ⟨T2, X2, e2, st2⟩ := getF X0 hx hZ hown (host := "") (Or.inl (w_ hw 66 rfl)) Via.refl e0 P.2.2.1 (g := (mkF m 9 #[Vr (A 0), Vi i] [(.ref (A 0))])) rfl rfl (hb hby d22_9)
  refine Goes.via st2 ?_
  refine Goes.via (S' := T2.setTop (mkF m 15 #[Vr (A 0), Vi i] [(.int (i - (1 : Int32))), (.ref (A 2))])) (fun tz kz => ?_) ?_
  ·refine XS.iloadN X2.here hx rfl (hb hby d22_12) rfl ?_
   refine XS.iconst X2.here hx rfl (hb hby d22_13) ?_
   refine XS.isub X2.here hx rfl (hb hby d22_14) rfl ?_
   exact kz
  obtain ⟨cl3, Ar3, Sz3, Hs3⟩ := P.2.2.2.2.2.2.2.2.2.2.2.1
  refine Goes.via (S' := T2.setTop (mkF m 16 #[Vr (A 0), Vi i] [(.int (f 2 (iN - 1)))])) (fun tz kz => ?_) ?_
  ·refine X2.iaload hx (j := (i - (1 : Int32))) (v := (.int (f 2 (iN - 1)))) (by rw [e2]; exact Ar3.1) (State.isArrayOf_alike hZ.alike Ar3.2.1) Ar3.2.2 (own_in Sz3 (hi.sub own_I1 (own_pos hi hc1_1)) (by omega)) (own_at Hs3 (hi.sub own_I1 (own_pos hi hc1_1)) (by omega)) (g := (mkF m 15 #[Vr (A 0), Vi i] [(.int (i - (1 : Int32))), (.ref (A 2))])) rfl rfl (hb hby d22_15) _ ?_
   exact kz
  exact Goes.retI X2 hx Bd.notSynchronized Bd.returns (hb hby d22_16) (nb_ rfl) (nb_ rfl) ⟨congrArg (fun z => some (Value.int z)) (own_st1 hi hc1_1), N0, e2⟩
theorem d17_0 : De c_17 0 (.iload_n 1) 1 := by decide +kernel
theorem d17_1 : De c_17 1 (.iconst (-1)) 1 := by decide +kernel
theorem d17_2 : De c_17 2 (.if_icmp .ne 7) 3 := by decide +kernel
theorem d17_5 : De c_17 5 (.iconst 0) 1 := by decide +kernel
theorem d17_6 : De c_17 6 (.goto 9) 3 := by decide +kernel
theorem d17_9 : De c_17 9 (.aload_n 0) 1 := by decide +kernel
theorem d17_10 : De c_17 10 (.getfield 23) 3 := by decide +kernel
theorem d17_13 : De c_17 13 (.iload_n 1) 1 := by decide +kernel
theorem d17_14 : De c_17 14 .baload 1 := by decide +kernel
theorem d17_15 : De c_17 15 .ireturn 1 := by decide +kernel
theorem pn_17 : plainName "com/example/upkeep_window/upkeepwindow/policy/OpenNames" = true := by first | (simp [plainName, overriddenIn]; done) | decide +kernel
theorem ef_17 (m : MethodId) (x0 : Addr) (x1 : Int32) : entryFrame m #[(.ref x0), (.int x1)] 2 = mkF m 0 #[Vr x0, Vi x1] [] := by first | rfl | simp [entryFrame, mkF, argsToLocals, Value.category]
def Q_rht (Z : State) (i : Int32) (A : Nat → Addr) (f : Nat → Nat → Int32) (ob nm : Int32) (h0 : Heap) (n0 : Nat) : Option Value → Heap → List Loc → Prop := fun v h L => v = some (.int (own_ht f i)) ∧ Fr n0 L ∧ h = h0
theorem rht (l : Launch) (Z : State) (a0 : Array Value) (hw : ∀ d ∈ tables_1, d.before a0 Z = true) (ws : List Jvm.Cond) (i : Int32) (A : Nat → Addr) (f : Nat → Nat → Int32) (ob nm : Int32) (h0 : Heap) (n0 : Nat) (Z0 : n0 ≤ h0.size) (P : own_ON Z n0 h0 A f ob nm) (hi : own_n16 i) :
  own_M l Z n_1 (Jvm.Cond.code n_1 prog_33_method_12_code 2 (some .int)) ws (Rm 0 0 0 0) #[(.ref (A 0)), (.int i)] h0 (Q_rht Z i A f ob nm h0 n0) := by
 refine MetFree.of_bodySF (plainFor_of_name pn_17) hisR ?_
 intro p e s m args below meth c s₁ Bd hml0 hP hK
 obtain ⟨rfl, hZ, hh⟩ := hP
 have hx := Bd.exec
 have hby := Bd.bytes
 have hml : c.maxLocals = 2 := hml0
 have hown : s.vm.findClass "com/example/upkeep_window/upkeepwindow/policy/OpenNames" = some m.cls := findClass_of_methodNamed Bd.named
 have hnm := (name_of_methodNamed Bd.named Bd.method).1
 have X0 : Stand p l e (Rm 0 0 0 0) s m #[(.ref (A 0)), (.int i)] below meth c s₁ [] 0 0 := Stand.of_body Bd
 have e0 : s₁.heap = h0 := by rw [← hh, Bd.state]; rfl
 have N0 := Fr.nil n0
 show Goes p e below (Fin s (Q_rht Z i A f ob nm h0 n0) (Rm 0 0 0 0).cells (Rm 0 0 0 0).slots) _
 refine Goes.via (S' := s₁.setTop (mkF m 0 #[Vr (A 0), Vi i] [])) (fun tz kz => castTop (ef_17 m (A 0) i ) kz) ?_
 refine Goes.via (S' := s₁.setTop (mkF m 2 #[Vr (A 0), Vi i] [(.int (-1)), (.int i)])) (fun tz kz => ?_) ?_
 ·refine XS.iloadN X0.here hx rfl (hb hby d17_0) rfl ?_
  refine XS.iconst X0.here hx rfl (hb hby d17_1) ?_
  exact kz
 by_cases hc2_1 : i = (-1 : Int32)
 ·refine Goes.via (S' := s₁.setTop (mkF m 15 #[Vr (A 0), Vi i] [(.int 0)])) (fun tz kz => ?_) ?_
  ·refine XS.icmpNo X0.here hx rfl (hb hby d17_2) rfl (teq hc2_1).2 ?_
   refine XS.iconst X0.here hx rfl (hb hby d17_5) ?_
   refine XS.goto X0.here hx rfl (pc0 := 6) (pc' := 15) rfl (hb hby d17_6) (by decide) (by decide) ?_
   exact kz
  exact Goes.retI X0 hx Bd.notSynchronized Bd.returns (hb hby d17_15) (nb_ rfl) (nb_ rfl) ⟨congrArg (fun z => some (Value.int z)) (by unfold own_ht; rw [if_pos hc2_1]), N0, e0⟩
 ·refine Goes.via (S' := s₁.setTop (mkF m 10 #[Vr (A 0), Vi i] [(.ref (A 0))])) (fun tz kz => ?_) ?_
  ·refine XS.icmpYes X0.here hx rfl (pc0 := 2) (pc' := 9) rfl (hb hby d17_2) rfl (feq hc2_1).2 (by decide) (by decide) ?_
   refine XS.aloadN X0.here hx rfl (hb hby d17_9) rfl rfl ?_
   exact kz
  obtain ⟨T2, X2, e2, st2⟩ := getF X0 hx hZ hown (host := "") (Or.inl (w_ hw 72 rfl)) Via.refl e0 P.2.2.2.2.2.1 (g := (mkF m 10 #[Vr (A 0), Vi i] [(.ref (A 0))])) rfl rfl (hb hby d17_10)
  refine Goes.via st2 ?_
  refine Goes.via (S' := T2.setTop (mkF m 14 #[Vr (A 0), Vi i] [(.int i), (.ref (A 5))])) (fun tz kz => ?_) ?_
  ·refine XS.iloadN X2.here hx rfl (hb hby d17_13) rfl ?_
   exact kz
  obtain hi | ⟨hi0, hi1⟩ := hi
  ·exact absurd hi hc2_1
  obtain ⟨cl3, Ar3, Sz3, Hs3⟩ := P.2.2.2.2.2.2.2.2.2.2.2.2.2.2.1
  refine Goes.via (S' := T2.setTop (mkF m 15 #[Vr (A 0), Vi i] [(.int (f 5 i.toInt.toNat))])) (fun tz kz => ?_) ?_
  ·refine X2.baloadBytes hx (j := i) (v := (.int (f 5 i.toInt.toNat))) (by rw [e2]; exact Ar3.1) (State.isArrayOf_alike hZ.alike Ar3.2.1) Ar3.2.2 (own_in Sz3 (own_Iof hi0) (by omega)) (own_at Hs3 (own_Iof hi0) (by omega)) (g := (mkF m 14 #[Vr (A 0), Vi i] [(.int i), (.ref (A 5))])) rfl rfl (hb hby d17_14) _ ?_
   exact kz
  exact Goes.retI X2 hx Bd.notSynchronized Bd.returns (hb hby d17_15) (nb_ rfl) (nb_ rfl) ⟨congrArg (fun z => some (Value.int z)) (by unfold own_ht; rw [if_neg hc2_1]), N0, e2⟩
theorem d16_0 : De c_16 0 (.aload_n 0) 1 := by decide +kernel
theorem d16_1 : De c_16 1 (.aload_n 0) 1 := by decide +kernel
theorem d16_2 : De c_16 2 (.getfield 30) 3 := by decide +kernel
theorem d16_5 : De c_16 5 (.aload_n 0) 1 := by decide +kernel
theorem d16_6 : De c_16 6 (.getfield 33) 3 := by decide +kernel
theorem d16_9 : De c_16 9 (.iconst 1) 1 := by decide +kernel
theorem d16_10 : De c_16 10 .isub 1 := by decide +kernel
theorem d16_11 : De c_16 11 .iaload 1 := by decide +kernel
theorem d16_12 : De c_16 12 (.invokevirtual 79) 3 := by decide +kernel
theorem d16_15 : De c_16 15 .ireturn 1 := by decide +kernel
theorem pn_16 : plainName "com/example/upkeep_window/upkeepwindow/policy/OpenNames" = true := by first | (simp [plainName, overriddenIn]; done) | decide +kernel
theorem ef_16 (m : MethodId) (x0 : Addr) : entryFrame m #[(.ref x0)] 1 = mkF m 0 #[Vr x0] [] := by first | rfl | simp [entryFrame, mkF, argsToLocals, Value.category]
def Q_rhe (Z : State)  (A : Nat → Addr) (f : Nat → Nat → Int32) (ob nm : Int32) (obN : Nat) (h0 : Heap) (n0 : Nat) : Option Value → Heap → List Loc → Prop := fun v h L => v = some (.int (own_ht f (f 7 (obN - 1)))) ∧ Fr n0 L ∧ h = h0
theorem rhe (l : Launch) (Z : State) (a0 : Array Value) (hw : ∀ d ∈ tables_1, d.before a0 Z = true) (ws : List Jvm.Cond)  (A : Nat → Addr) (f : Nat → Nat → Int32) (ob nm : Int32) (obN : Nat) (h0 : Heap) (n0 : Nat) (Z0 : n0 ≤ h0.size) (P : own_ON Z n0 h0 A f ob nm) (ho : own_I ob obN) (h1 : 1 ≤ obN) (h2 : obN ≤ 16) (hi : own_n16 (f 7 (obN - 1))) :
  own_M l Z n_2 (Jvm.Cond.code n_2 prog_33_method_5_code 1 (some .int)) ws (Rm 1 0 0 16) #[(.ref (A 0))] h0 (Q_rhe Z A f ob nm obN h0 n0) := by
 refine MetFree.of_bodySF (plainFor_of_name pn_16) hisR ?_
 intro p e s m args below meth c s₁ Bd hml0 hP hK
 obtain ⟨rfl, hZ, hh⟩ := hP
 have hx := Bd.exec
 have hby := Bd.bytes
 have hml : c.maxLocals = 1 := hml0
 have hown : s.vm.findClass "com/example/upkeep_window/upkeepwindow/policy/OpenNames" = some m.cls := findClass_of_methodNamed Bd.named
 have hnm := (name_of_methodNamed Bd.named Bd.method).1
 have X0 : Stand p l e (Rm 1 0 0 16) s m #[(.ref (A 0))] below meth c s₁ [] 0 0 := Stand.of_body Bd
 have e0 : s₁.heap = h0 := by rw [← hh, Bd.state]; rfl
 have N0 := Fr.nil n0
 show Goes p e below (Fin s (Q_rhe Z A f ob nm obN h0 n0) (Rm 1 0 0 16).cells (Rm 1 0 0 16).slots) _
 refine Goes.via (S' := s₁.setTop (mkF m 0 #[Vr (A 0)] [])) (fun tz kz => castTop (ef_16 m (A 0) ) kz) ?_
 refine Goes.via (S' := s₁.setTop (mkF m 2 #[Vr (A 0)] [(.ref (A 0)), (.ref (A 0))])) (fun tz kz => ?_) ?_
 ·refine XS.aloadN X0.here hx rfl (hb hby d16_0) rfl rfl ?_
  refine XS.aloadN X0.here hx rfl (hb hby d16_1) rfl rfl ?_
  exact kz
 obtain ⟨T1, X1, e1, st1⟩ := getF X0 hx hZ hown (host := "") (Or.inl (w_ hw 76 rfl)) Via.refl e0 P.2.2.2.2.2.2.2.1 (g := (mkF m 2 #[Vr (A 0)] [(.ref (A 0)), (.ref (A 0))])) rfl rfl (hb hby d16_2)
 refine Goes.via st1 ?_
 refine Goes.via (S' := T1.setTop (mkF m 6 #[Vr (A 0)] [(.ref (A 0)), (.ref (A 7)), (.ref (A 0))])) (fun tz kz => ?_) ?_
 ·refine XS.aloadN X1.here hx rfl (hb hby d16_5) rfl rfl ?_
  exact kz
 obtain ⟨T2, X2, e2, st2⟩ := getF X1 hx hZ hown (host := "") (Or.inl (w_ hw 83 rfl)) Via.refl e1 P.2.2.2.2.2.2.2.2.1 (g := (mkF m 6 #[Vr (A 0)] [(.ref (A 0)), (.ref (A 7)), (.ref (A 0))])) rfl rfl (hb hby d16_6)
 refine Goes.via st2 ?_
 refine Goes.via (S' := T2.setTop (mkF m 11 #[Vr (A 0)] [(.int (ob - (1 : Int32))), (.ref (A 7)), (.ref (A 0))])) (fun tz kz => ?_) ?_
 ·refine XS.iconst X2.here hx rfl (hb hby d16_9) ?_
  refine XS.isub X2.here hx rfl (hb hby d16_10) rfl ?_
  exact kz
 obtain ⟨cl3, Ar3, Sz3, Hs3⟩ := P.2.2.2.2.2.2.2.2.2.2.2.2.2.2.2.2.1
 refine Goes.via (S' := T2.setTop (mkF m 12 #[Vr (A 0)] [(.int (f 7 (obN - 1))), (.ref (A 0))])) (fun tz kz => ?_) ?_
 ·refine X2.iaload hx (j := (ob - (1 : Int32))) (v := (.int (f 7 (obN - 1)))) (by rw [e2]; exact Ar3.1) (State.isArrayOf_alike hZ.alike Ar3.2.1) Ar3.2.2 (own_in Sz3 (ho.sub own_I1 h1) (by omega)) (own_at Hs3 (ho.sub own_I1 h1) (by omega)) (g := (mkF m 11 #[Vr (A 0)] [(.int (ob - (1 : Int32))), (.ref (A 7)), (.ref (A 0))])) rfl rfl (hb hby d16_11) _ ?_
  exact kz
 obtain ⟨cq4, q4, q4'⟩ := (P.1).cell
 obtain ⟨_, _, ⟨T4, L4, k4, n4⟩, -, X4, ⟨Lc4, hQ4, l4, y4, z4⟩, st4⟩ := X2.privateBack hx (y := n_1) hown (mvT hZ (w_ hw 95 rfl)) (mvT hZ (w_ hw 96 rfl)) (sel_private hZ (w_ hw 57 rfl) (w_ hw 97 rfl) (w_ hw 96 rfl) (by decide)) (Cond.privateMethod_at (mvP hZ (w_ hw 97 rfl) (args := #[]))) (mvT hZ (w_ hw 98 rfl)) (by decide) (backOf (W := 0) (rht l Z a0 hw [] (f 7 (obN - 1)) A f ob nm h0 n0 Z0 P hi) hZ (w_ hw 98 rfl) (w_ hw 58 rfl) (by decide) (by decide)) (g := (mkF m 12 #[Vr (A 0)] [(.int (f 7 (obN - 1))), (.ref (A 0))])) rfl (by rw [hml]; rfl) (Steps.refl _) (a := (A 0)) (by rw [e2]; exact q4) q4' (argsL := [(.int (f 7 (obN - 1)))]) (rest := []) (lenOf pd_0 rfl) rfl (ww_ rfl rfl) (hb hby d16_12) (fun _ _ => ⟨rfl, e2, (by decide : 0 + 0 ≤ _), (by decide : 0 + 0 ≤ _)⟩)
 dsimp only [Pt.U, Pt.locs, Pt.cells, Pt.slots] at X4 l4 y4 z4 st4 hQ4
 subst l4 y4 z4
 obtain ⟨rfl, N4, e4⟩ := hQ4
 have Nf4 := Fr.app N0 N4
 refine Goes.via (fun _ kz => st4.trans kz) ?_
 exact Goes.retI X4 hx Bd.notSynchronized Bd.returns (hb hby d16_15) (nb_ rfl) (nb_ rfl) ⟨rfl, Nf4, e4⟩
def own_mx (x y : Int32) : Int32 := (if x < y then y else x)
theorem d40_0 : De c_40 0 (.iload_n 0) 1 := by decide +kernel
theorem d40_1 : De c_40 1 (.iload_n 1) 1 := by decide +kernel
theorem d40_2 : De c_40 2 (.if_icmp .lt 7) 3 := by decide +kernel
theorem d40_5 : De c_40 5 (.iload_n 0) 1 := by decide +kernel
theorem d40_6 : De c_40 6 (.goto 4) 3 := by decide +kernel
theorem d40_9 : De c_40 9 (.iload_n 1) 1 := by decide +kernel
theorem d40_10 : De c_40 10 .ireturn 1 := by decide +kernel
theorem pn_40 : plainFor n_3 = true := by decide +kernel
theorem ef_40 (m : MethodId) (x0 : Int32) (x1 : Int32) : entryFrame m #[(.int x0), (.int x1)] 2 = mkF m 0 #[Vi x0, Vi x1] [] := by first | rfl | simp [entryFrame, mkF, argsToLocals, Value.category]
def Q_rmx (Z : State) (x : Int32) (y : Int32)  (h0 : Heap) (n0 : Nat) : Option Value → Heap → List Loc → Prop := fun v h L => v = some (.int (own_mx x y)) ∧ Fr n0 L ∧ h = h0
theorem rmx (l : Launch) (Z : State) (a0 : Array Value) (hw : ∀ d ∈ tables_1, d.before a0 Z = true) (ws : List Jvm.Cond) (x : Int32) (y : Int32)  (h0 : Heap) (n0 : Nat) (Z0 : n0 ≤ h0.size) :
  own_M l Z n_3 (Jvm.Cond.code n_3 jdk_29_method_65_code 2 (some .int)) ws (Rm 0 0 0 0) #[(.int x), (.int y)] h0 (Q_rmx Z x y h0 n0) := by
 refine MetFree.of_bodySF (Jvm.Free.JP.mathPlain rfl (by decide +kernel)) hisR ?_
 intro p e s m args below meth c s₁ Bd hml0 hP hK
 obtain ⟨rfl, hZ, hh⟩ := hP
 have hx := Bd.exec
 have hby := Bd.bytes
 have hml : c.maxLocals = 2 := hml0
 have hown : s.vm.findClass "java/lang/Math" = some m.cls := findClass_of_methodNamed Bd.named
 have hnm := (name_of_methodNamed Bd.named Bd.method).1
 have X0 : Stand p l e (Rm 0 0 0 0) s m #[(.int x), (.int y)] below meth c s₁ [] 0 0 := Stand.of_body Bd
 have e0 : s₁.heap = h0 := by rw [← hh, Bd.state]; rfl
 have N0 := Fr.nil n0
 show Goes p e below (Fin s (Q_rmx Z x y h0 n0) (Rm 0 0 0 0).cells (Rm 0 0 0 0).slots) _
 refine Goes.via (S' := s₁.setTop (mkF m 0 #[Vi x, Vi y] [])) (fun tz kz => castTop (ef_40 m x y ) kz) ?_
 refine Goes.via (S' := s₁.setTop (mkF m 2 #[Vi x, Vi y] [(.int y), (.int x)])) (fun tz kz => ?_) ?_
 ·refine XS.iloadN X0.here hx rfl (hb hby d40_0) rfl ?_
  refine XS.iloadN X0.here hx rfl (hb hby d40_1) rfl ?_
  exact kz
 obtain ⟨r2, hr2⟩ : ∃ zz_ : Int32, zz_ = (if x < y then y else x) := ⟨_, rfl⟩
 have j2_3 : ∀ t, Steps p.tables e below (s₁.setTop (mkF m 10 #[Vi x, Vi y] [(.int r2)])) t → Steps p.tables e below (s₁.setTop (mkF m 2 #[Vi x, Vi y] [(.int y), (.int x)])) t := by
  intro tz kz
  by_cases hc2_1 : x < y
  ·rw [if_pos hc2_1] at hr2
   refine XS.icmpYes X0.here hx rfl (pc0 := 2) (pc' := 9) rfl (hb hby d40_2) rfl (tlt hc2_1).1 (by decide) (by decide) ?_
   refine XS.iloadN X0.here hx rfl (hb hby d40_9) rfl ?_
   subst hr2
   exact kz
  ·rw [if_neg hc2_1] at hr2
   refine XS.icmpNo X0.here hx rfl (hb hby d40_2) rfl (flt hc2_1).1 ?_
   refine XS.iloadN X0.here hx rfl (hb hby d40_5) rfl ?_
   refine XS.goto X0.here hx rfl (pc0 := 6) (pc' := 10) rfl (hb hby d40_6) (by decide) (by decide) ?_
   subst hr2
   exact kz
 refine Goes.via j2_3 ?_
 exact Goes.retI X0 hx Bd.notSynchronized Bd.returns (hb hby d40_10) (nb_ rfl) (nb_ rfl) ⟨congrArg (fun z => some (Value.int z)) hr2, N0, e0⟩
def own_ms (f : Nat → Nat → Int32) (iN : Nat) : Int32 := (nar .byte (((1 : Int32) + (own_mx (own_ht f (f 3 iN)) (own_ht f (f 4 iN)))).toInt8.toInt32))
theorem d39_0 : De c_39 0 (.aload_n 0) 1 := by decide +kernel
theorem d39_1 : De c_39 1 (.getfield 23) 3 := by decide +kernel
theorem d39_4 : De c_39 4 (.iload_n 1) 1 := by decide +kernel
theorem d39_5 : De c_39 5 (.iconst 1) 1 := by decide +kernel
theorem d39_6 : De c_39 6 (.aload_n 0) 1 := by decide +kernel
theorem d39_7 : De c_39 7 (.aload_n 0) 1 := by decide +kernel
theorem d39_8 : De c_39 8 (.getfield 17) 3 := by decide +kernel
theorem d39_11 : De c_39 11 (.iload_n 1) 1 := by decide +kernel
theorem d39_12 : De c_39 12 .iaload 1 := by decide +kernel
theorem d39_13 : De c_39 13 (.invokevirtual 79) 3 := by decide +kernel
theorem d39_16 : De c_39 16 (.aload_n 0) 1 := by decide +kernel
theorem d39_17 : De c_39 17 (.aload_n 0) 1 := by decide +kernel
theorem d39_18 : De c_39 18 (.getfield 20) 3 := by decide +kernel
theorem d39_21 : De c_39 21 (.iload_n 1) 1 := by decide +kernel
theorem d39_22 : De c_39 22 .iaload 1 := by decide +kernel
theorem d39_23 : De c_39 23 (.invokevirtual 79) 3 := by decide +kernel
theorem d39_26 : De c_39 26 (.invokestatic 56) 3 := by decide +kernel
theorem d39_29 : De c_39 29 .iadd 1 := by decide +kernel
theorem d39_30 : De c_39 30 .i2b 1 := by decide +kernel
theorem d39_31 : De c_39 31 .bastore 1 := by decide +kernel
theorem d39_32 : De c_39 32 .return_ 1 := by decide +kernel
theorem pn_39 : plainName "com/example/upkeep_window/upkeepwindow/policy/OpenNames" = true := by first | (simp [plainName, overriddenIn]; done) | decide +kernel
theorem ef_39 (m : MethodId) (x0 : Addr) (x1 : Int32) : entryFrame m #[(.ref x0), (.int x1)] 2 = mkF m 0 #[Vr x0, Vi x1] [] := by first | rfl | simp [entryFrame, mkF, argsToLocals, Value.category]
def Q_rms (Z : State) (i : Int32) (A : Nat → Addr) (f : Nat → Nat → Int32) (ob nm : Int32) (iN : Nat) (h0 : Heap) (n0 : Nat) : Option Value → Heap → List Loc → Prop := fun v h L => v = none ∧ Fr n0 L ∧ Keep h0 h (own_ws A) ∧ own_ON Z n0 h A (own_fu f 5 iN (own_ms f iN)) ob nm
theorem rms (l : Launch) (Z : State) (a0 : Array Value) (hw : ∀ d ∈ tables_1, d.before a0 Z = true) (ws : List Jvm.Cond) (i : Int32) (A : Nat → Addr) (f : Nat → Nat → Int32) (ob nm : Int32) (iN : Nat) (h0 : Heap) (n0 : Nat) (Z0 : n0 ≤ h0.size) (P : own_ON Z n0 h0 A f ob nm) (hi : own_I i iN) (hbd : iN < 16) (hl : own_n16 (f 3 iN)) (hr : own_n16 (f 4 iN)) :
  own_M l Z n_4 (Jvm.Cond.code n_4 prog_33_method_11_code 2 none) ws (Rm 1 0 0 20) #[(.ref (A 0)), (.int i)] h0 (Q_rms Z i A f ob nm iN h0 n0) := by
 refine MetFree.of_bodySF (plainFor_of_name pn_39) hisR ?_
 intro p e s m args below meth c s₁ Bd hml0 hP hK
 obtain ⟨rfl, hZ, hh⟩ := hP
 have hx := Bd.exec
 have hby := Bd.bytes
 have hml : c.maxLocals = 2 := hml0
 have hown : s.vm.findClass "com/example/upkeep_window/upkeepwindow/policy/OpenNames" = some m.cls := findClass_of_methodNamed Bd.named
 have hnm := (name_of_methodNamed Bd.named Bd.method).1
 have X0 : Stand p l e (Rm 1 0 0 20) s m #[(.ref (A 0)), (.int i)] below meth c s₁ [] 0 0 := Stand.of_body Bd
 have e0 : s₁.heap = h0 := by rw [← hh, Bd.state]; rfl
 have N0 := Fr.nil n0
 show Goes p e below (Fin s (Q_rms Z i A f ob nm iN h0 n0) (Rm 1 0 0 20).cells (Rm 1 0 0 20).slots) _
 refine Goes.via (S' := s₁.setTop (mkF m 0 #[Vr (A 0), Vi i] [])) (fun tz kz => castTop (ef_39 m (A 0) i ) kz) ?_
 refine Goes.via (S' := s₁.setTop (mkF m 1 #[Vr (A 0), Vi i] [(.ref (A 0))])) (fun tz kz => ?_) ?_
 ·refine XS.aloadN X0.here hx rfl (hb hby d39_0) rfl rfl ?_
  exact kz
 obtain ⟨T1, X1, e1, st1⟩ := getF X0 hx hZ hown (host := "") (Or.inl (w_ hw 72 rfl)) Via.refl e0 P.2.2.2.2.2.1 (g := (mkF m 1 #[Vr (A 0), Vi i] [(.ref (A 0))])) rfl rfl (hb hby d39_1)
 refine Goes.via st1 ?_
 refine Goes.via (S' := T1.setTop (mkF m 8 #[Vr (A 0), Vi i] [(.ref (A 0)), (.ref (A 0)), (.int 1), (.int i), (.ref (A 5))])) (fun tz kz => ?_) ?_
 ·refine XS.iloadN X1.here hx rfl (hb hby d39_4) rfl ?_
  refine XS.iconst X1.here hx rfl (hb hby d39_5) ?_
  refine XS.aloadN X1.here hx rfl (hb hby d39_6) rfl rfl ?_
  refine XS.aloadN X1.here hx rfl (hb hby d39_7) rfl rfl ?_
  exact kz
 obtain ⟨T2, X2, e2, st2⟩ := getF X1 hx hZ hown (host := "") (Or.inl (w_ hw 68 rfl)) Via.refl e1 P.2.2.2.1 (g := (mkF m 8 #[Vr (A 0), Vi i] [(.ref (A 0)), (.ref (A 0)), (.int 1), (.int i), (.ref (A 5))])) rfl rfl (hb hby d39_8)
 refine Goes.via st2 ?_
 refine Goes.via (S' := T2.setTop (mkF m 12 #[Vr (A 0), Vi i] [(.int i), (.ref (A 3)), (.ref (A 0)), (.int 1), (.int i), (.ref (A 5))])) (fun tz kz => ?_) ?_
 ·refine XS.iloadN X2.here hx rfl (hb hby d39_11) rfl ?_
  exact kz
 obtain ⟨cl3, Ar3, Sz3, Hs3⟩ := P.2.2.2.2.2.2.2.2.2.2.2.2.1
 refine Goes.via (S' := T2.setTop (mkF m 13 #[Vr (A 0), Vi i] [(.int (f 3 iN)), (.ref (A 0)), (.int 1), (.int i), (.ref (A 5))])) (fun tz kz => ?_) ?_
 ·refine X2.iaload hx (j := i) (v := (.int (f 3 iN))) (by rw [e2]; exact Ar3.1) (State.isArrayOf_alike hZ.alike Ar3.2.1) Ar3.2.2 (own_in Sz3 hi hbd) (own_at Hs3 hi hbd) (g := (mkF m 12 #[Vr (A 0), Vi i] [(.int i), (.ref (A 3)), (.ref (A 0)), (.int 1), (.int i), (.ref (A 5))])) rfl rfl (hb hby d39_12) _ ?_
  exact kz
 obtain ⟨cq4, q4, q4'⟩ := (P.1).cell
 obtain ⟨_, _, ⟨T4, L4, k4, n4⟩, -, X4, ⟨Lc4, hQ4, l4, y4, z4⟩, st4⟩ := X2.privateBack hx (y := n_1) hown (mvT hZ (w_ hw 95 rfl)) (mvT hZ (w_ hw 96 rfl)) (sel_private hZ (w_ hw 57 rfl) (w_ hw 97 rfl) (w_ hw 96 rfl) (by decide)) (Cond.privateMethod_at (mvP hZ (w_ hw 97 rfl) (args := #[]))) (mvT hZ (w_ hw 98 rfl)) (by decide) (backOf (W := 3) (rht l Z a0 hw [] (f 3 iN) A f ob nm h0 n0 Z0 P hl) hZ (w_ hw 98 rfl) (w_ hw 58 rfl) (by decide) (by decide)) (g := (mkF m 13 #[Vr (A 0), Vi i] [(.int (f 3 iN)), (.ref (A 0)), (.int 1), (.int i), (.ref (A 5))])) rfl (by rw [hml]; rfl) (Steps.refl _) (a := (A 0)) (by rw [e2]; exact q4) q4' (argsL := [(.int (f 3 iN))]) (rest := [(.int 1), (.int i), (.ref (A 5))]) (lenOf pd_0 rfl) rfl (ww_ rfl rfl) (hb hby d39_13) (fun _ _ => ⟨rfl, e2, (by decide : 0 + 0 ≤ _), (by decide : 0 + 0 ≤ _)⟩)
 dsimp only [Pt.U, Pt.locs, Pt.cells, Pt.slots] at X4 l4 y4 z4 st4 hQ4
 subst l4 y4 z4
 obtain ⟨rfl, N4, e4⟩ := hQ4
 have Nf4 := Fr.app N0 N4
 refine Goes.via (fun _ kz => st4.trans kz) ?_
 refine Goes.via (S' := T4.setTop (mkF m 18 #[Vr (A 0), Vi i] [(.ref (A 0)), (.ref (A 0)), (.int (own_ht f (f 3 iN))), (.int 1), (.int i), (.ref (A 5))])) (fun tz kz => ?_) ?_
 ·refine XS.aloadN X4.here hx rfl (hb hby d39_16) rfl rfl ?_
  refine XS.aloadN X4.here hx rfl (hb hby d39_17) rfl rfl ?_
  exact kz
 obtain ⟨T5, X5, e5, st5⟩ := getF X4 hx hZ hown (host := "") (Or.inl (w_ hw 70 rfl)) Via.refl e4 P.2.2.2.2.1 (g := (mkF m 18 #[Vr (A 0), Vi i] [(.ref (A 0)), (.ref (A 0)), (.int (own_ht f (f 3 iN))), (.int 1), (.int i), (.ref (A 5))])) rfl rfl (hb hby d39_18)
 refine Goes.via st5 ?_
 refine Goes.via (S' := T5.setTop (mkF m 22 #[Vr (A 0), Vi i] [(.int i), (.ref (A 4)), (.ref (A 0)), (.int (own_ht f (f 3 iN))), (.int 1), (.int i), (.ref (A 5))])) (fun tz kz => ?_) ?_
 ·refine XS.iloadN X5.here hx rfl (hb hby d39_21) rfl ?_
  exact kz
 obtain ⟨cl6, Ar6, Sz6, Hs6⟩ := P.2.2.2.2.2.2.2.2.2.2.2.2.2.1
 refine Goes.via (S' := T5.setTop (mkF m 23 #[Vr (A 0), Vi i] [(.int (f 4 iN)), (.ref (A 0)), (.int (own_ht f (f 3 iN))), (.int 1), (.int i), (.ref (A 5))])) (fun tz kz => ?_) ?_
 ·refine X5.iaload hx (j := i) (v := (.int (f 4 iN))) (by rw [e5]; exact Ar6.1) (State.isArrayOf_alike hZ.alike Ar6.2.1) Ar6.2.2 (own_in Sz6 hi hbd) (own_at Hs6 hi hbd) (g := (mkF m 22 #[Vr (A 0), Vi i] [(.int i), (.ref (A 4)), (.ref (A 0)), (.int (own_ht f (f 3 iN))), (.int 1), (.int i), (.ref (A 5))])) rfl rfl (hb hby d39_22) _ ?_
  exact kz
 obtain ⟨cq7, q7, q7'⟩ := (P.1).cell
 obtain ⟨_, _, ⟨T7, L7, k7, n7⟩, -, X7, ⟨Lc7, hQ7, l7, y7, z7⟩, st7⟩ := X5.privateBack hx (y := n_1) hown (mvT hZ (w_ hw 95 rfl)) (mvT hZ (w_ hw 96 rfl)) (sel_private hZ (w_ hw 57 rfl) (w_ hw 97 rfl) (w_ hw 96 rfl) (by decide)) (Cond.privateMethod_at (mvP hZ (w_ hw 97 rfl) (args := #[]))) (mvT hZ (w_ hw 98 rfl)) (by decide) (backOf (W := 4) (rht l Z a0 hw [] (f 4 iN) A f ob nm h0 n0 Z0 P hr) hZ (w_ hw 98 rfl) (w_ hw 58 rfl) (by decide) (by decide)) (g := (mkF m 23 #[Vr (A 0), Vi i] [(.int (f 4 iN)), (.ref (A 0)), (.int (own_ht f (f 3 iN))), (.int 1), (.int i), (.ref (A 5))])) rfl (by rw [hml]; rfl) (Steps.refl _) (a := (A 0)) (by rw [e5]; exact q7) q7' (argsL := [(.int (f 4 iN))]) (rest := [(.int (own_ht f (f 3 iN))), (.int 1), (.int i), (.ref (A 5))]) (lenOf pd_0 rfl) rfl (ww_ rfl rfl) (hb hby d39_23) (fun _ _ => ⟨rfl, e5, (by decide : 0 + 0 ≤ _), (by decide : 0 + 0 ≤ _)⟩)
 dsimp only [Pt.U, Pt.locs, Pt.cells, Pt.slots] at X7 l7 y7 z7 st7 hQ7
 subst l7 y7 z7
 obtain ⟨rfl, N7, e7⟩ := hQ7
 have Nf7 := Fr.app Nf4 N7
 refine Goes.via (fun _ kz => st7.trans kz) ?_
 obtain ⟨_, _, ⟨T8, L8, k8, n8⟩, -, X8, ⟨Lc8, hQ8, l8, y8, z8⟩, st8⟩ := Jvm.LawKit.callS X7 hx (y := n_3) hown (mvT hZ (w_ hw 188 rfl)) (mvT hZ (w_ hw 189 rfl)) (mvT hZ (w_ hw 54 rfl)) (mvT hZ (w_ hw 190 rfl)) (by decide) (backOf (W := 3) (rmx l Z a0 hw [] (own_ht f (f 3 iN)) (own_ht f (f 4 iN)) h0 n0 Z0) hZ (w_ hw 190 rfl) (w_ hw 54 rfl) (by decide) (by decide)) (g := (mkF m 26 #[Vr (A 0), Vi i] [(.int (own_ht f (f 4 iN))), (.int (own_ht f (f 3 iN))), (.int 1), (.int i), (.ref (A 5))])) rfl (by rw [hml]; rfl) (argsL := [(.int (own_ht f (f 3 iN))), (.int (own_ht f (f 4 iN)))]) (rest := [(.int 1), (.int i), (.ref (A 5))]) (lenOf pd_1 rfl) rfl (ww_ rfl rfl) (hb hby d39_26) (fun _ _ => ⟨rfl, e7, (by decide : 0 + 0 ≤ _), (by decide : 0 + 0 ≤ _)⟩)
 dsimp only [Pt.U, Pt.locs, Pt.cells, Pt.slots] at X8 l8 y8 z8 st8 hQ8
 subst l8 y8 z8
 obtain ⟨rfl, N8, e8⟩ := hQ8
 have Nf8 := Fr.app Nf7 N8
 refine Goes.via (st8) ?_
 refine Goes.via (S' := T8.setTop (mkF m 31 #[Vr (A 0), Vi i] [(.int (((1 : Int32) + (own_mx (own_ht f (f 3 iN)) (own_ht f (f 4 iN)))).toInt8.toInt32)), (.int i), (.ref (A 5))])) (fun tz kz => ?_) ?_
 ·refine XS.iadd X8.here hx rfl (hb hby d39_29) rfl ?_
  refine XS.i2b X8.here hx rfl (hb hby d39_30) rfl ?_
  exact kz
 obtain ⟨cl9, Ar9, Sz9, Hs9⟩ := P.2.2.2.2.2.2.2.2.2.2.2.2.2.2.1
 obtain ⟨T10, h10, X10, e10, W10, st10⟩ := stB X8 hx hZ e8 Ar9 (j := i) (own_in Sz9 hi hbd) (g := (mkF m 31 #[Vr (A 0), Vi i] [(.int (((1 : Int32) + (own_mx (own_ht f (f 3 iN)) (own_ht f (f 4 iN)))).toInt8.toInt32)), (.int i), (.ref (A 5))])) rfl rfl (hb hby d39_31)
 refine Goes.via st10 ?_
 have N10 := Fr.snoc X10 Nf8 (P.2.2.2.2.2.2.2.2.2.2.2.2.2.2.2.2.2.1 5 (by decide))
 rw [show (i).toNatClampNeg = iN from (hi).nat] at W10
 have P10 := P.w5 W10
 have K10 := (Keep.refl h0 (own_ws A)).wr W10 (Or.inl own_mem5)
 exact Goes.retV X10 hx Bd.notSynchronized Bd.returns (hb hby d39_32) (nb_ rfl) (nb_ rfl) (by rw [e10]; exact ⟨rfl, N10, K10, P10⟩)
theorem d14_0 : De c_14 0 (.aload_n 0) 1 := by decide +kernel
theorem d14_1 : De c_14 1 (.getfield 33) 3 := by decide +kernel
theorem d14_4 : De c_14 4 (.aload_n 0) 1 := by decide +kernel
theorem d14_5 : De c_14 5 (.getfield 27) 3 := by decide +kernel
theorem d14_8 : De c_14 8 .arraylength 1 := by decide +kernel
theorem d14_9 : De c_14 9 (.if_icmp .ne 47) 3 := by decide +kernel
theorem d14_56 : De c_14 56 (.aload_n 0) 1 := by decide +kernel
theorem d14_57 : De c_14 57 (.getfield 27) 3 := by decide +kernel
theorem d14_60 : De c_14 60 (.aload_n 0) 1 := by decide +kernel
theorem d14_61 : De c_14 61 (.getfield 33) 3 := by decide +kernel
theorem d14_64 : De c_14 64 (.aload_n 0) 1 := by decide +kernel
theorem d14_65 : De c_14 65 (.getfield 43) 3 := by decide +kernel
theorem d14_68 : De c_14 68 .iastore 1 := by decide +kernel
theorem d14_69 : De c_14 69 (.aload_n 0) 1 := by decide +kernel
theorem d14_70 : De c_14 70 (.getfield 30) 3 := by decide +kernel
theorem d14_73 : De c_14 73 (.aload_n 0) 1 := by decide +kernel
theorem d14_74 : De c_14 74 (.getfield 33) 3 := by decide +kernel
theorem d14_77 : De c_14 77 (.iconst (-1)) 1 := by decide +kernel
theorem d14_78 : De c_14 78 .iastore 1 := by decide +kernel
theorem d14_79 : De c_14 79 (.aload_n 0) 1 := by decide +kernel
theorem d14_80 : De c_14 80 .dup 1 := by decide +kernel
theorem d14_81 : De c_14 81 (.getfield 33) 3 := by decide +kernel
theorem d14_84 : De c_14 84 (.iconst 1) 1 := by decide +kernel
theorem d14_85 : De c_14 85 .iadd 1 := by decide +kernel
theorem d14_86 : De c_14 86 (.putfield 33) 3 := by decide +kernel
theorem d14_89 : De c_14 89 .return_ 1 := by decide +kernel
theorem pn_14 : plainName "com/example/upkeep_window/upkeepwindow/policy/OpenNames" = true := by first | (simp [plainName, overriddenIn]; done) | decide +kernel
theorem ef_14 (m : MethodId) (x0 : Addr) : entryFrame m #[(.ref x0)] 1 = mkF m 0 #[Vr x0] [] := by first | rfl | simp [entryFrame, mkF, argsToLocals, Value.category]
def Q_rop (Z : State)  (A : Nat → Addr) (f : Nat → Nat → Int32) (ob nm : Int32) (obN : Nat) (h0 : Heap) (n0 : Nat) : Option Value → Heap → List Loc → Prop := fun v h L => v = none ∧ Fr n0 L ∧ Keep h0 h (own_ws A) ∧ own_ON Z n0 h A (own_fu (own_fu f 6 obN nm) 7 obN (-1)) (ob + (1 : Int32)) nm
theorem rop (l : Launch) (Z : State) (a0 : Array Value) (hw : ∀ d ∈ tables_1, d.before a0 Z = true) (ws : List Jvm.Cond)  (A : Nat → Addr) (f : Nat → Nat → Int32) (ob nm : Int32) (obN : Nat) (h0 : Heap) (n0 : Nat) (Z0 : n0 ≤ h0.size) (P : own_ON Z n0 h0 A f ob nm) (ho : own_I ob obN) (h2 : obN < 16) :
  own_M l Z n_5 (Jvm.Cond.code n_5 prog_33_method_2_code 1 none) ws (Rm 0 0 0 0) #[(.ref (A 0))] h0 (Q_rop Z A f ob nm obN h0 n0) := by
 refine MetFree.of_bodySF (plainFor_of_name pn_14) hisR ?_
 intro p e s m args below meth c s₁ Bd hml0 hP hK
 obtain ⟨rfl, hZ, hh⟩ := hP
 have hx := Bd.exec
 have hby := Bd.bytes
 have hml : c.maxLocals = 1 := hml0
 have hown : s.vm.findClass "com/example/upkeep_window/upkeepwindow/policy/OpenNames" = some m.cls := findClass_of_methodNamed Bd.named
 have hnm := (name_of_methodNamed Bd.named Bd.method).1
 have X0 : Stand p l e (Rm 0 0 0 0) s m #[(.ref (A 0))] below meth c s₁ [] 0 0 := Stand.of_body Bd
 have e0 : s₁.heap = h0 := by rw [← hh, Bd.state]; rfl
 have N0 := Fr.nil n0
 show Goes p e below (Fin s (Q_rop Z A f ob nm obN h0 n0) (Rm 0 0 0 0).cells (Rm 0 0 0 0).slots) _
 refine Goes.via (S' := s₁.setTop (mkF m 0 #[Vr (A 0)] [])) (fun tz kz => castTop (ef_14 m (A 0) ) kz) ?_
 refine Goes.via (S' := s₁.setTop (mkF m 1 #[Vr (A 0)] [(.ref (A 0))])) (fun tz kz => ?_) ?_
 ·refine XS.aloadN X0.here hx rfl (hb hby d14_0) rfl rfl ?_
  exact kz
 obtain ⟨T1, X1, e1, st1⟩ := getF X0 hx hZ hown (host := "") (Or.inl (w_ hw 83 rfl)) Via.refl e0 P.2.2.2.2.2.2.2.2.1 (g := (mkF m 1 #[Vr (A 0)] [(.ref (A 0))])) rfl rfl (hb hby d14_1)
 refine Goes.via st1 ?_
 refine Goes.via (S' := T1.setTop (mkF m 5 #[Vr (A 0)] [(.ref (A 0)), (.int ob)])) (fun tz kz => ?_) ?_
 ·refine XS.aloadN X1.here hx rfl (hb hby d14_4) rfl rfl ?_
  exact kz
 obtain ⟨T2, X2, e2, st2⟩ := getF X1 hx hZ hown (host := "") (Or.inl (w_ hw 74 rfl)) Via.refl e1 P.2.2.2.2.2.2.1 (g := (mkF m 5 #[Vr (A 0)] [(.ref (A 0)), (.int ob)])) rfl rfl (hb hby d14_5)
 refine Goes.via st2 ?_
 obtain ⟨cl3, Ar3, Sz3, Hs3⟩ := P.2.2.2.2.2.2.2.2.2.2.2.2.2.2.2.1
 refine Goes.via (S' := T2.setTop (mkF m 57 #[Vr (A 0)] [(.ref (A 0))])) (fun tz kz => ?_) ?_
 ·refine X2.arraylength hx (by rw [e2]; exact Ar3.1) (State.isArrayOf_alike hZ.alike Ar3.2.1) (g := (mkF m 8 #[Vr (A 0)] [(.ref (A 6)), (.int ob)])) rfl rfl (hb hby d14_8) _ ?_
  rw [own_l16 Sz3]
  refine XS.icmpYes X2.here hx rfl (pc0 := 9) (pc' := 56) rfl (hb hby d14_9) rfl (feq (fun q => absurd ((ho.eq own_I16).mp q) (by omega))).2 (by decide) (by decide) ?_
  refine XS.aloadN X2.here hx rfl (hb hby d14_56) rfl rfl ?_
  exact kz
 obtain ⟨T4, X4, e4, st4⟩ := getF X2 hx hZ hown (host := "") (Or.inl (w_ hw 74 rfl)) Via.refl e2 P.2.2.2.2.2.2.1 (g := (mkF m 57 #[Vr (A 0)] [(.ref (A 0))])) rfl rfl (hb hby d14_57)
 refine Goes.via st4 ?_
 refine Goes.via (S' := T4.setTop (mkF m 61 #[Vr (A 0)] [(.ref (A 0)), (.ref (A 6))])) (fun tz kz => ?_) ?_
 ·refine XS.aloadN X4.here hx rfl (hb hby d14_60) rfl rfl ?_
  exact kz
 obtain ⟨T5, X5, e5, st5⟩ := getF X4 hx hZ hown (host := "") (Or.inl (w_ hw 83 rfl)) Via.refl e4 P.2.2.2.2.2.2.2.2.1 (g := (mkF m 61 #[Vr (A 0)] [(.ref (A 0)), (.ref (A 6))])) rfl rfl (hb hby d14_61)
 refine Goes.via st5 ?_
 refine Goes.via (S' := T5.setTop (mkF m 65 #[Vr (A 0)] [(.ref (A 0)), (.int ob), (.ref (A 6))])) (fun tz kz => ?_) ?_
 ·refine XS.aloadN X5.here hx rfl (hb hby d14_64) rfl rfl ?_
  exact kz
 obtain ⟨T6, X6, e6, st6⟩ := getF X5 hx hZ hown (host := "") (Or.inl (w_ hw 85 rfl)) Via.refl e5 P.2.2.2.2.2.2.2.2.2.1 (g := (mkF m 65 #[Vr (A 0)] [(.ref (A 0)), (.int ob), (.ref (A 6))])) rfl rfl (hb hby d14_65)
 refine Goes.via st6 ?_
 obtain ⟨cl7, Ar7, Sz7, Hs7⟩ := P.2.2.2.2.2.2.2.2.2.2.2.2.2.2.2.1
 obtain ⟨T8, h8, X8, e8, W8, st8⟩ := stI X6 hx hZ e6 Ar7 (j := ob) (own_in Sz7 ho h2) (g := (mkF m 68 #[Vr (A 0)] [(.int nm), (.int ob), (.ref (A 6))])) rfl rfl (hb hby d14_68)
 refine Goes.via st8 ?_
 have N8 := Fr.snoc X8 N0 (P.2.2.2.2.2.2.2.2.2.2.2.2.2.2.2.2.2.1 6 (by decide))
 rw [show (ob).toNatClampNeg = obN from (ho).nat] at W8
 have P8 := P.w6 W8
 have K8 := (Keep.refl h0 (own_ws A)).wr W8 (Or.inl own_mem6)
 refine Goes.via (S' := T8.setTop (mkF m 70 #[Vr (A 0)] [(.ref (A 0))])) (fun tz kz => ?_) ?_
 ·refine XS.aloadN X8.here hx rfl (hb hby d14_69) rfl rfl ?_
  exact kz
 obtain ⟨T9, X9, e9, st9⟩ := getF X8 hx hZ hown (host := "") (Or.inl (w_ hw 76 rfl)) Via.refl e8 P8.2.2.2.2.2.2.2.1 (g := (mkF m 70 #[Vr (A 0)] [(.ref (A 0))])) rfl rfl (hb hby d14_70)
 refine Goes.via st9 ?_
 refine Goes.via (S' := T9.setTop (mkF m 74 #[Vr (A 0)] [(.ref (A 0)), (.ref (A 7))])) (fun tz kz => ?_) ?_
 ·refine XS.aloadN X9.here hx rfl (hb hby d14_73) rfl rfl ?_
  exact kz
 obtain ⟨T10, X10, e10, st10⟩ := getF X9 hx hZ hown (host := "") (Or.inl (w_ hw 83 rfl)) Via.refl e9 P8.2.2.2.2.2.2.2.2.1 (g := (mkF m 74 #[Vr (A 0)] [(.ref (A 0)), (.ref (A 7))])) rfl rfl (hb hby d14_74)
 refine Goes.via st10 ?_
 refine Goes.via (S' := T10.setTop (mkF m 78 #[Vr (A 0)] [(.int (-1)), (.int ob), (.ref (A 7))])) (fun tz kz => ?_) ?_
 ·refine XS.iconst X10.here hx rfl (hb hby d14_77) ?_
  exact kz
 obtain ⟨cl11, Ar11, Sz11, Hs11⟩ := P8.2.2.2.2.2.2.2.2.2.2.2.2.2.2.2.2.1
 obtain ⟨T12, h12, X12, e12, W12, st12⟩ := stI X10 hx hZ e10 Ar11 (j := ob) (own_in Sz11 ho h2) (g := (mkF m 78 #[Vr (A 0)] [(.int (-1)), (.int ob), (.ref (A 7))])) rfl rfl (hb hby d14_78)
 refine Goes.via st12 ?_
 have N12 := Fr.snoc X12 N8 (P8.2.2.2.2.2.2.2.2.2.2.2.2.2.2.2.2.2.1 7 (by decide))
 rw [show (ob).toNatClampNeg = obN from (ho).nat] at W12
 have P12 := P8.w7 W12
 have K12 := K8.wr W12 (Or.inl own_mem7)
 refine Goes.via (S' := T12.setTop (mkF m 81 #[Vr (A 0)] [(.ref (A 0)), (.ref (A 0))])) (fun tz kz => ?_) ?_
 ·refine XS.aloadN X12.here hx rfl (hb hby d14_79) rfl rfl ?_
  refine XS.dup X12.here hx rfl (hb hby d14_80) rfl rfl ?_
  exact kz
 obtain ⟨T13, X13, e13, st13⟩ := getF X12 hx hZ hown (host := "") (Or.inl (w_ hw 83 rfl)) Via.refl e12 P12.2.2.2.2.2.2.2.2.1 (g := (mkF m 81 #[Vr (A 0)] [(.ref (A 0)), (.ref (A 0))])) rfl rfl (hb hby d14_81)
 refine Goes.via st13 ?_
 refine Goes.via (S' := T13.setTop (mkF m 86 #[Vr (A 0)] [(.int (ob + (1 : Int32))), (.ref (A 0))])) (fun tz kz => ?_) ?_
 ·refine XS.iconst X13.here hx rfl (hb hby d14_84) ?_
  refine XS.iadd X13.here hx rfl (hb hby d14_85) rfl ?_
  exact kz
 obtain ⟨T14, h14, X14, e14, W14, st14⟩ := putF X13 hx hZ hown (host := "") (Or.inl (w_ hw 83 rfl)) Via.refl e13 P12.2.2.2.2.2.2.2.2.1 P12.1 (Or.inl (w_ hw 84 rfl)) (w_ hw 57 rfl) (ty := .int) (by decide) rfl rfl (g := (mkF m 86 #[Vr (A 0)] [(.int (ob + (1 : Int32))), (.ref (A 0))])) rfl rfl (hb hby d14_86)
 refine Goes.via st14 ?_
 have N14 := Fr.snoc X14 N12 (P12.2.2.2.2.2.2.2.2.2.2.2.2.2.2.2.2.2.1 0 (by decide))
 have P14 := P12.wob hw W14
 have K14 := K12.wr W14 (Or.inl own_mem0)
 exact Goes.retV X14 hx Bd.notSynchronized Bd.returns (hb hby d14_89) (nb_ rfl) (nb_ rfl) (by rw [e14]; exact ⟨rfl, N14, K14, P14⟩)
theorem d18_0 : De c_18 0 (.aload_n 0) 1 := by decide +kernel
theorem d18_1 : De c_18 1 .dup 1 := by decide +kernel
theorem d18_2 : De c_18 2 (.getfield 33) 3 := by decide +kernel
theorem d18_5 : De c_18 5 (.iconst 1) 1 := by decide +kernel
theorem d18_6 : De c_18 6 .isub 1 := by decide +kernel
theorem d18_7 : De c_18 7 (.putfield 33) 3 := by decide +kernel
theorem d18_10 : De c_18 10 (.aload_n 0) 1 := by decide +kernel
theorem d18_11 : De c_18 11 (.aload_n 0) 1 := by decide +kernel
theorem d18_12 : De c_18 12 (.getfield 27) 3 := by decide +kernel
theorem d18_15 : De c_18 15 (.aload_n 0) 1 := by decide +kernel
theorem d18_16 : De c_18 16 (.getfield 33) 3 := by decide +kernel
theorem d18_19 : De c_18 19 .iaload 1 := by decide +kernel
theorem d18_20 : De c_18 20 (.putfield 43) 3 := by decide +kernel
theorem d18_23 : De c_18 23 .return_ 1 := by decide +kernel
theorem pn_18 : plainName "com/example/upkeep_window/upkeepwindow/policy/OpenNames" = true := by first | (simp [plainName, overriddenIn]; done) | decide +kernel
theorem ef_18 (m : MethodId) (x0 : Addr) : entryFrame m #[(.ref x0)] 1 = mkF m 0 #[Vr x0] [] := by first | rfl | simp [entryFrame, mkF, argsToLocals, Value.category]
def Q_rcl (Z : State)  (A : Nat → Addr) (f : Nat → Nat → Int32) (ob nm : Int32) (obN : Nat) (h0 : Heap) (n0 : Nat) : Option Value → Heap → List Loc → Prop := fun v h L => v = none ∧ Fr n0 L ∧ Keep h0 h (own_ws A) ∧ own_ON Z n0 h A f (ob - (1 : Int32)) (f 6 (obN - 1))
theorem rcl (l : Launch) (Z : State) (a0 : Array Value) (hw : ∀ d ∈ tables_1, d.before a0 Z = true) (ws : List Jvm.Cond)  (A : Nat → Addr) (f : Nat → Nat → Int32) (ob nm : Int32) (obN : Nat) (h0 : Heap) (n0 : Nat) (Z0 : n0 ≤ h0.size) (P : own_ON Z n0 h0 A f ob nm) (ho : own_I ob obN) (h1 : 1 ≤ obN) (h2 : obN ≤ 16) :
  own_M l Z n_6 (Jvm.Cond.code n_6 prog_33_method_4_code 1 none) ws (Rm 0 0 0 0) #[(.ref (A 0))] h0 (Q_rcl Z A f ob nm obN h0 n0) := by
 refine MetFree.of_bodySF (plainFor_of_name pn_18) hisR ?_
 intro p e s m args below meth c s₁ Bd hml0 hP hK
 obtain ⟨rfl, hZ, hh⟩ := hP
 have hx := Bd.exec
 have hby := Bd.bytes
 have hml : c.maxLocals = 1 := hml0
 have hown : s.vm.findClass "com/example/upkeep_window/upkeepwindow/policy/OpenNames" = some m.cls := findClass_of_methodNamed Bd.named
 have hnm := (name_of_methodNamed Bd.named Bd.method).1
 have X0 : Stand p l e (Rm 0 0 0 0) s m #[(.ref (A 0))] below meth c s₁ [] 0 0 := Stand.of_body Bd
 have e0 : s₁.heap = h0 := by rw [← hh, Bd.state]; rfl
 have N0 := Fr.nil n0
 show Goes p e below (Fin s (Q_rcl Z A f ob nm obN h0 n0) (Rm 0 0 0 0).cells (Rm 0 0 0 0).slots) _
 refine Goes.via (S' := s₁.setTop (mkF m 0 #[Vr (A 0)] [])) (fun tz kz => castTop (ef_18 m (A 0) ) kz) ?_
 refine Goes.via (S' := s₁.setTop (mkF m 2 #[Vr (A 0)] [(.ref (A 0)), (.ref (A 0))])) (fun tz kz => ?_) ?_
 ·refine XS.aloadN X0.here hx rfl (hb hby d18_0) rfl rfl ?_
  refine XS.dup X0.here hx rfl (hb hby d18_1) rfl rfl ?_
  exact kz
 obtain ⟨T1, X1, e1, st1⟩ := getF X0 hx hZ hown (host := "") (Or.inl (w_ hw 83 rfl)) Via.refl e0 P.2.2.2.2.2.2.2.2.1 (g := (mkF m 2 #[Vr (A 0)] [(.ref (A 0)), (.ref (A 0))])) rfl rfl (hb hby d18_2)
 refine Goes.via st1 ?_
 refine Goes.via (S' := T1.setTop (mkF m 7 #[Vr (A 0)] [(.int (ob - (1 : Int32))), (.ref (A 0))])) (fun tz kz => ?_) ?_
 ·refine XS.iconst X1.here hx rfl (hb hby d18_5) ?_
  refine XS.isub X1.here hx rfl (hb hby d18_6) rfl ?_
  exact kz
 obtain ⟨T2, h2, X2, e2, W2, st2⟩ := putF X1 hx hZ hown (host := "") (Or.inl (w_ hw 83 rfl)) Via.refl e1 P.2.2.2.2.2.2.2.2.1 P.1 (Or.inl (w_ hw 84 rfl)) (w_ hw 57 rfl) (ty := .int) (by decide) rfl rfl (g := (mkF m 7 #[Vr (A 0)] [(.int (ob - (1 : Int32))), (.ref (A 0))])) rfl rfl (hb hby d18_7)
 refine Goes.via st2 ?_
 have N2 := Fr.snoc X2 N0 (P.2.2.2.2.2.2.2.2.2.2.2.2.2.2.2.2.2.1 0 (by decide))
 have P2 := P.wob hw W2
 have K2 := (Keep.refl h0 (own_ws A)).wr W2 (Or.inl own_mem0)
 refine Goes.via (S' := T2.setTop (mkF m 12 #[Vr (A 0)] [(.ref (A 0)), (.ref (A 0))])) (fun tz kz => ?_) ?_
 ·refine XS.aloadN X2.here hx rfl (hb hby d18_10) rfl rfl ?_
  refine XS.aloadN X2.here hx rfl (hb hby d18_11) rfl rfl ?_
  exact kz
 obtain ⟨T3, X3, e3, st3⟩ := getF X2 hx hZ hown (host := "") (Or.inl (w_ hw 74 rfl)) Via.refl e2 P2.2.2.2.2.2.2.1 (g := (mkF m 12 #[Vr (A 0)] [(.ref (A 0)), (.ref (A 0))])) rfl rfl (hb hby d18_12)
 refine Goes.via st3 ?_
 refine Goes.via (S' := T3.setTop (mkF m 16 #[Vr (A 0)] [(.ref (A 0)), (.ref (A 6)), (.ref (A 0))])) (fun tz kz => ?_) ?_
 ·refine XS.aloadN X3.here hx rfl (hb hby d18_15) rfl rfl ?_
  exact kz
 obtain ⟨T4, X4, e4, st4⟩ := getF X3 hx hZ hown (host := "") (Or.inl (w_ hw 83 rfl)) Via.refl e3 P2.2.2.2.2.2.2.2.2.1 (g := (mkF m 16 #[Vr (A 0)] [(.ref (A 0)), (.ref (A 6)), (.ref (A 0))])) rfl rfl (hb hby d18_16)
 refine Goes.via st4 ?_
 obtain ⟨cl5, Ar5, Sz5, Hs5⟩ := P2.2.2.2.2.2.2.2.2.2.2.2.2.2.2.2.1
 refine Goes.via (S' := T4.setTop (mkF m 20 #[Vr (A 0)] [(.int (f 6 (obN - 1))), (.ref (A 0))])) (fun tz kz => ?_) ?_
 ·refine X4.iaload hx (j := (ob - (1 : Int32))) (v := (.int (f 6 (obN - 1)))) (by rw [e4]; exact Ar5.1) (State.isArrayOf_alike hZ.alike Ar5.2.1) Ar5.2.2 (own_in Sz5 (ho.sub own_I1 h1) (by omega)) (own_at Hs5 (ho.sub own_I1 h1) (by omega)) (g := (mkF m 19 #[Vr (A 0)] [(.int (ob - (1 : Int32))), (.ref (A 6)), (.ref (A 0))])) rfl rfl (hb hby d18_19) _ ?_
  exact kz
 obtain ⟨T6, h6, X6, e6, W6, st6⟩ := putF X4 hx hZ hown (host := "") (Or.inl (w_ hw 85 rfl)) Via.refl e4 P2.2.2.2.2.2.2.2.2.2.1 P2.1 (Or.inl (w_ hw 86 rfl)) (w_ hw 57 rfl) (ty := .int) (by decide) rfl rfl (g := (mkF m 20 #[Vr (A 0)] [(.int (f 6 (obN - 1))), (.ref (A 0))])) rfl rfl (hb hby d18_20)
 refine Goes.via st6 ?_
 have N6 := Fr.snoc X6 N2 (P2.2.2.2.2.2.2.2.2.2.2.2.2.2.2.2.2.2.1 0 (by decide))
 have P6 := P2.wnm hw W6
 have K6 := K2.wr W6 (Or.inl own_mem0)
 exact Goes.retV X6 hx Bd.notSynchronized Bd.returns (hb hby d18_23) (nb_ rfl) (nb_ rfl) (by rw [e6]; exact ⟨rfl, N6, K6, P6⟩)
theorem own_Ine {x : Int32} {a : Nat} (h : own_I x a) : ¬ x = (-1 : Int32) := fun q => by
 have ei := congrArg Int32.toInt q
 have z : (-1 : Int32).toInt = -1 := by decide
 unfold own_I at h
 omega
theorem own_fu_same (f : Nat → Nat → Int32) (i j : Nat) (v : Int32) : own_fu f i j v i j = v := by simp [own_fu, own_up]
theorem own_fu_ne (f : Nat → Nat → Int32) (i j : Nat) (v : Int32) {a k : Nat} (h : ¬ (a = i ∧ k = j)) : own_fu f i j v a k = f a k := by
 unfold own_fu own_up
 by_cases q : a = i
 ·rw [if_pos q]; rw [if_neg (fun z => h ⟨q, z⟩), q]
 ·rw [if_neg q]
theorem own_htx {f : Nat → Nat → Int32} {x : Int32} {xN : Nat} (hxx : own_I x xN) : own_ht f x = f 5 xN := by
 unfold own_ht; rw [if_neg (own_Ine hxx)]
 have : x.toInt.toNat = xN := by unfold own_I at hxx; omega
 rw [this]
theorem own_htn {f : Nat → Nat → Int32} : own_ht f (-1) = 0 := by unfold own_ht; rw [if_pos rfl]
theorem own_n16x {x : Int32} {xN : Nat} (hxx : own_I x xN) (h : xN < 16) : own_n16 x := Or.inr (by unfold own_I at hxx; omega)
theorem own_n16n : own_n16 (-1) := Or.inl rfl
/-- the tree under r: the list of its nodes from left to right, its height; the first number: fuel -/
def own_T (f : Nat → Nat → Int32) : Nat → Int32 → List Nat → Nat → Prop
 | 0, r, xs, ht => r = -1 ∧ xs = [] ∧ ht = 0
 | d + 1, r, xs, ht => (r = -1 ∧ xs = [] ∧ ht = 0) ∨ ∃ (i : Nat) (ls rs : List Nat) (hl hr : Nat), own_I r i ∧ i < 16 ∧ own_T f d (f 3 i) ls hl ∧ own_T f d (f 4 i) rs hr ∧ xs = ls ++ i :: rs ∧ f 5 i = Int32.ofNat ht ∧ ht = max hl hr + 1 ∧ hl ≤ hr + 1 ∧ hr ≤ hl + 1
def own_Tr (f : Nat → Nat → Int32) (r : Int32) (xs : List Nat) (ht : Nat) : Prop := ∃ d, own_T f d r xs ht
section OwnTree
variable {f f' g : Nat → Nat → Int32} {r ri : Int32} {xs ys ls rs us vs : List Nat} {ht hl hr i k l p q x : Nat} {κ : Nat → Nat}
theorem own_T.up {d : Nat} (h : own_T f d r xs ht) : own_T f (d + 1) r xs ht := by
 induction d generalizing r xs ht with
 | zero => exact Or.inl h
 | succ d ih =>
  rcases h with h | ⟨i, ls, rs, hl, hr, a, b, c, e, z⟩
  ·exact Or.inl h
  ·exact Or.inr ⟨i, ls, rs, hl, hr, a, b, ih c, ih e, z⟩
theorem own_T.le {d d' : Nat} (q : d ≤ d') (h : own_T f d r xs ht) : own_T f d' r xs ht := by
 induction q with
 | refl => exact h
 | step _ ih => exact ih.up
theorem own_Tr.nil : own_Tr f (-1) [] 0 := ⟨0, rfl, rfl, rfl⟩
theorem own_Tr.node (a : own_I r i) (b : i < 16) (c : own_Tr f (f 3 i) ls hl) (d : own_Tr f (f 4 i) rs hr) (e : f 5 i = Int32.ofNat (max hl hr + 1)) (g1 : hl ≤ hr + 1) (g2 : hr ≤ hl + 1) : own_Tr f r (ls ++ i :: rs) (max hl hr + 1) := by
 obtain ⟨d1, c⟩ := c
 obtain ⟨d2, d⟩ := d
 exact ⟨max d1 d2 + 1, Or.inr ⟨i, ls, rs, hl, hr, a, b, c.le (Nat.le_max_left ..), d.le (Nat.le_max_right ..), rfl, e, rfl, g1, g2⟩⟩
theorem own_Tr.inv (h : own_Tr f r xs ht) : (r = -1 ∧ xs = [] ∧ ht = 0) ∨ ∃ (i : Nat) (ls rs : List Nat) (hl hr : Nat), own_I r i ∧ i < 16 ∧ own_Tr f (f 3 i) ls hl ∧ own_Tr f (f 4 i) rs hr ∧ xs = ls ++ i :: rs ∧ f 5 i = Int32.ofNat ht ∧ ht = max hl hr + 1 ∧ hl ≤ hr + 1 ∧ hr ≤ hl + 1 := by
 obtain ⟨d, h⟩ := h
 cases d with
 | zero => exact Or.inl h
 | succ d =>
  rcases h with h | ⟨i, ls, rs, hl, hr, a, b, c, e, z⟩
  ·exact Or.inl h
  ·exact Or.inr ⟨i, ls, rs, hl, hr, a, b, ⟨d, c⟩, ⟨d, e⟩, z⟩
theorem own_Tr.congr (h : own_Tr f r xs ht) (q : ∀ i ∈ xs, f' 3 i = f 3 i ∧ f' 4 i = f 4 i ∧ f' 5 i = f 5 i) : own_Tr f' r xs ht := by
 obtain ⟨d, h⟩ := h
 refine ⟨d, ?_⟩
 induction d generalizing r xs ht with
 | zero => exact h
 | succ d ih =>
  rcases h with h | ⟨i, ls, rs, hl, hr, a, b, c, e, g1, g2, z⟩
  ·exact Or.inl h
  ·subst g1
   have qi := q i (by simp)
   refine Or.inr ⟨i, ls, rs, hl, hr, a, b, ?_, ?_, rfl, qi.2.2.trans g2, z⟩
   ·rw [qi.1]; exact ih (fun k hk => q k (by simp [hk])) c
   ·rw [qi.2.1]; exact ih (fun k hk => q k (by simp [hk])) e
theorem own_Tr.n16 (h : own_Tr f r xs ht) : own_n16 r := by
 rcases h.inv with ⟨rfl, -⟩ | ⟨i, ls, rs, hl, hr, a, b, -⟩
 ·exact own_n16n
 ·exact own_n16x a b
theorem own_Tr.hgt (h : own_Tr f r xs ht) : own_ht f r = Int32.ofNat ht := by
 rcases h.inv with ⟨rfl, -, rfl⟩ | ⟨i, ls, rs, hl, hr, a, b, c, d, e, z, -⟩
 ·rw [own_htn]; rfl
 ·rw [own_htx a, z]
theorem own_Tr.len (h : own_Tr f r xs ht) : (ht = 0 → xs.length = 0) ∧ (ht = 1 → xs.length = 1) ∧ (ht = 2 → 2 ≤ xs.length ∧ xs.length ≤ 3) ∧ (ht = 3 → 4 ≤ xs.length ∧ xs.length ≤ 7) ∧ (4 ≤ ht → 7 ≤ xs.length) := by
 obtain ⟨d, h⟩ := h
 induction d generalizing r xs ht with
 | zero =>
  obtain ⟨-, rfl, rfl⟩ := h
  simp
 | succ d ih =>
  rcases h with ⟨-, rfl, rfl⟩ | ⟨i, ls, rs, hl, hr, a, b, c, e, g1, g2, z⟩
  ·simp
  ·have s1 := ih c
   have s2 := ih e
   have sz : xs.length = ls.length + (rs.length + 1) := by rw [g1]; simp
   rw [sz]
   generalize ls.length = A at *
   generalize rs.length = B at *
   omega
/-- the same by sides: p the side's array, q the other's -/
def own_pq (p q : Nat) : Prop := (p = 3 ∧ q = 4) ∨ (p = 4 ∧ q = 3)
theorem own_pq.symm (h : own_pq p q) : own_pq q p := by unfold own_pq at *; omega
def own_cat (p : Nat) (xs : List Nat) (i : Nat) (ys : List Nat) : List Nat := if p = 3 then xs ++ i :: ys else ys ++ i :: xs
theorem own_cat_mem : k ∈ own_cat p xs i ys ↔ k ∈ xs ∨ k = i ∨ k ∈ ys := by
 unfold own_cat
 split
 ·simp
 ·simp only [List.mem_append, List.mem_cons]
  constructor
  ·rintro (a | a | a)
   ·exact Or.inr (Or.inr a)
   ·exact Or.inr (Or.inl a)
   ·exact Or.inl a
  ·rintro (a | a | a)
   ·exact Or.inr (Or.inr a)
   ·exact Or.inr (Or.inl a)
   ·exact Or.inl a
theorem own_app_nd (h : (xs ++ i :: ys).Nodup) : xs.Nodup ∧ ys.Nodup ∧ i ∉ xs ∧ i ∉ ys ∧ ∀ k ∈ xs, k ∉ ys := by
 rw [List.nodup_append] at h
 obtain ⟨a, b, c⟩ := h
 rw [List.nodup_cons] at b
 exact ⟨a, b.2, fun z => c i z i (by simp) rfl, b.1, fun k z1 z2 => c k z1 k (by simp [z2]) rfl⟩
theorem own_cat_nd (h : (own_cat p xs i ys).Nodup) : xs.Nodup ∧ ys.Nodup ∧ i ∉ xs ∧ i ∉ ys ∧ ∀ k ∈ xs, k ∉ ys := by
 unfold own_cat at h
 split at h
 ·exact own_app_nd h
 ·obtain ⟨a, b, c, d, e⟩ := own_app_nd h
  exact ⟨b, a, d, c, fun k z1 z2 => e k z2 z1⟩
theorem own_cat3 : own_cat 3 xs i ys = xs ++ i :: ys := rfl
theorem own_cat4 : own_cat 4 xs i ys = ys ++ i :: xs := rfl
theorem own_Tr.nodep {ps qs : List Nat} {hp hq : Nat} (pq : own_pq p q) (a : own_I r i) (b : i < 16) (c : own_Tr f (f p i) ps hp) (d : own_Tr f (f q i) qs hq) (e : f 5 i = Int32.ofNat (max hp hq + 1)) (g1 : hp ≤ hq + 1) (g2 : hq ≤ hp + 1) : own_Tr f r (own_cat p ps i qs) (max hp hq + 1) := by
 rcases pq with ⟨rfl, rfl⟩ | ⟨rfl, rfl⟩
 ·exact own_Tr.node a b c d e g1 g2
 ·have z := own_Tr.node a b d c (by rw [Nat.max_comm]; exact e) g2 g1
  rw [Nat.max_comm] at z
  exact z
theorem own_Tr.posp (pq : own_pq p q) (h : own_Tr f r xs ht) (h0 : 0 < ht) : ∃ (i : Nat) (ps qs : List Nat) (hp hq : Nat), own_I r i ∧ i < 16 ∧ own_Tr f (f p i) ps hp ∧ own_Tr f (f q i) qs hq ∧ xs = own_cat p ps i qs ∧ ht = max hp hq + 1 ∧ hp ≤ hq + 1 ∧ hq ≤ hp + 1 := by
 rcases h.inv with ⟨-, -, z⟩ | ⟨i, ls, rs, hl, hr, a, b, c, d, e, z, z1, z2, z3⟩
 ·omega
 ·rcases pq with ⟨rfl, rfl⟩ | ⟨rfl, rfl⟩
  ·exact ⟨i, ls, rs, hl, hr, a, b, c, d, e, z1, z2, z3⟩
  ·exact ⟨i, rs, ls, hr, hl, a, b, d, c, e, by omega, z3, z2⟩
theorem own_ms6 : ∀ a, a < 7 → ∀ b, b < 7 → nar .byte (((1 : Int32) + (own_mx (Int32.ofNat a) (Int32.ofNat b))).toInt8.toInt32) = Int32.ofNat (max a b + 1) := by decide
theorem own_msp {a b : Nat} (pq : own_pq p q) (h1 : own_ht f (f p i) = Int32.ofNat a) (h2 : own_ht f (f q i) = Int32.ofNat b) (ba : a ≤ 6) (bb : b ≤ 6) : own_ms f i = Int32.ofNat (max a b + 1) := by
 unfold own_ms
 rcases pq with ⟨rfl, rfl⟩ | ⟨rfl, rfl⟩
 ·rw [h1, h2]; exact own_ms6 a (by omega) b (by omega)
 ·rw [h1, h2, Nat.max_comm]; exact own_ms6 b (by omega) a (by omega)
/-- g is f but at the nodes i and l -/
def own_off (f g : Nat → Nat → Int32) (i l : Nat) : Prop := ∀ a k, ¬ ((k = i ∨ k = l) ∧ (a = 3 ∨ a = 4 ∨ a = 5)) → g a k = f a k
theorem own_Tr.off (h : own_Tr f r xs ht) (fr : own_off f g i l) (ni : i ∉ xs) (nl : l ∉ xs) : own_Tr g r xs ht := by
 refine h.congr (fun k hk => ?_)
 have a : ¬ k = i := fun z => ni (z ▸ hk)
 have b : ¬ k = l := fun z => nl (z ▸ hk)
 exact ⟨fr 3 k (by omega), fr 4 k (by omega), fr 5 k (by omega)⟩
def own_r2 (f : Nat → Nat → Int32) (p q i l : Nat) (ri : Int32) : Nat → Nat → Int32 := own_fu (own_fu f p i (f q l)) q l ri
def own_r3 (f : Nat → Nat → Int32) (p q i l : Nat) (ri : Int32) : Nat → Nat → Int32 := own_fu (own_r2 f p q i l ri) 5 i (own_ms (own_r2 f p q i l ri) i)
/-- what a rotation leaves -/
def own_rot (f : Nat → Nat → Int32) (p q i l : Nat) (ri : Int32) : Nat → Nat → Int32 := own_fu (own_r3 f p q i l ri) 5 l (own_ms (own_r3 f p q i l ri) l)
theorem own_rotc {as bs cs : List Nat} {ha hb hc : Nat} (pq : own_pq p q) (A : own_Tr f (f p l) as ha) (B : own_Tr f (f q l) bs hb) (C : own_Tr f (f q i) cs hc) (il : i ≠ l) (Ii : own_I ri i) (a1 : i ∉ as) (a2 : l ∉ as) (b1 : i ∉ bs) (b2 : l ∉ bs) (c1 : i ∉ cs) (c2 : l ∉ cs) (ba : ha ≤ 5) (bb : hb ≤ 5) (bc : hc ≤ 5) :
  own_Tr (own_rot f p q i l ri) (own_rot f p q i l ri p l) as ha ∧ own_rot f p q i l ri q l = ri ∧ own_Tr (own_rot f p q i l ri) (own_rot f p q i l ri p i) bs hb ∧ own_Tr (own_rot f p q i l ri) (own_rot f p q i l ri q i) cs hc ∧ own_rot f p q i l ri 5 i = Int32.ofNat (max hb hc + 1) ∧ own_rot f p q i l ri 5 l = Int32.ofNat (max ha (max hb hc + 1) + 1) ∧ own_off f (own_rot f p q i l ri) i l := by
 have pz := pq
 unfold own_pq at pz
 have f2 : own_off f (own_r2 f p q i l ri) i l := fun a k h => by
  unfold own_r2
  rw [own_fu_ne _ _ _ _ (by omega), own_fu_ne _ _ _ _ (by omega)]
 have f3 : own_off f (own_r3 f p q i l ri) i l := fun a k h => by
  unfold own_r3
  rw [own_fu_ne _ _ _ _ (by omega)]
  exact f2 a k h
 have f4 : own_off f (own_rot f p q i l ri) i l := fun a k h => by
  unfold own_rot
  rw [own_fu_ne _ _ _ _ (by omega)]
  exact f3 a k h
 have v1 : own_r2 f p q i l ri p i = f q l := by
  unfold own_r2
  rw [own_fu_ne _ _ _ _ (by omega), own_fu_same]
 have v2 : own_r2 f p q i l ri q l = ri := by unfold own_r2; rw [own_fu_same]
 have v3 : own_r2 f p q i l ri q i = f q i := by
  unfold own_r2
  rw [own_fu_ne _ _ _ _ (by omega), own_fu_ne _ _ _ _ (by omega)]
 have v4 : own_r2 f p q i l ri p l = f p l := by
  unfold own_r2
  rw [own_fu_ne _ _ _ _ (by omega), own_fu_ne _ _ _ _ (by omega)]
 have m1 : own_ms (own_r2 f p q i l ri) i = Int32.ofNat (max hb hc + 1) := own_msp pq (by rw [v1]; exact (B.off f2 b1 b2).hgt) (by rw [v3]; exact (C.off f2 c1 c2).hgt) (by omega) (by omega)
 have w5 : own_r3 f p q i l ri 5 i = Int32.ofNat (max hb hc + 1) := by unfold own_r3; rw [own_fu_same, m1]
 have w1 : own_r3 f p q i l ri p l = f p l := by
  unfold own_r3
  rw [own_fu_ne _ _ _ _ (by omega)]; exact v4
 have w2 : own_r3 f p q i l ri q l = ri := by
  unfold own_r3
  rw [own_fu_ne _ _ _ _ (by omega)]; exact v2
 have w3 : own_r3 f p q i l ri p i = f q l := by
  unfold own_r3
  rw [own_fu_ne _ _ _ _ (by omega)]; exact v1
 have w4 : own_r3 f p q i l ri q i = f q i := by
  unfold own_r3
  rw [own_fu_ne _ _ _ _ (by omega)]; exact v3
 have m2 : own_ms (own_r3 f p q i l ri) l = Int32.ofNat (max ha (max hb hc + 1) + 1) := own_msp pq (by rw [w1]; exact (A.off f3 a1 a2).hgt) (by rw [w2, own_htx Ii]; exact w5) (by omega) (by omega)
 have x1 : own_rot f p q i l ri p l = f p l := by
  unfold own_rot
  rw [own_fu_ne _ _ _ _ (by omega)]; exact w1
 have x3 : own_rot f p q i l ri p i = f q l := by
  unfold own_rot
  rw [own_fu_ne _ _ _ _ (by omega)]; exact w3
 have x4 : own_rot f p q i l ri q i = f q i := by
  unfold own_rot
  rw [own_fu_ne _ _ _ _ (by omega)]; exact w4
 refine ⟨?_, ?_, ?_, ?_, ?_, ?_, f4⟩
 ·rw [x1]; exact A.off f4 a1 a2
 ·unfold own_rot
  rw [own_fu_ne _ _ _ _ (by omega)]; exact w2
 ·rw [x3]; exact B.off f4 b1 b2
 ·rw [x4]; exact C.off f4 c1 c2
 ·unfold own_rot
  rw [own_fu_ne _ _ _ _ (by omega)]; exact w5
 ·unfold own_rot
  rw [own_fu_same]; exact m2
/-- what balancing gives -/
def own_bal (f f' : Nat → Nat → Int32) (r' : Int32) (xs : List Nat) (hl hr : Nat) : Prop := ∃ h', own_Tr f' r' xs h' ∧ (hl ≤ hr + 1 → hr ≤ hl + 1 → h' = max hl hr + 1) ∧ max hl hr ≤ h' ∧ h' ≤ max hl hr + 1 ∧ ∀ a k, ¬ (k ∈ xs ∧ (a = 3 ∨ a = 4 ∨ a = 5)) → f' a k = f a k
theorem own_balm (A : own_Tr f (f 3 i) ls hl) (B : own_Tr f (f 4 i) rs hr) (Ii : own_I ri i) (ib : i < 16) (nd : (ls ++ i :: rs).Nodup) (b1 : hl ≤ hr + 1) (b2 : hr ≤ hl + 1) (c1 : hl ≤ 5) (c2 : hr ≤ 5) : own_bal f (own_fu f 5 i (own_ms f i)) ri (ls ++ i :: rs) hl hr := by
 obtain ⟨-, -, n1, n2, -⟩ := own_app_nd nd
 have fr : own_off f (own_fu f 5 i (own_ms f i)) i i := fun a k h => own_fu_ne _ _ _ _ (by omega)
 have e : own_ms f i = Int32.ofNat (max hl hr + 1) := own_msp (Or.inl ⟨rfl, rfl⟩) A.hgt B.hgt (by omega) (by omega)
 refine ⟨_, own_Tr.node Ii ib (by rw [own_fu_ne _ _ _ _ (by omega)]; exact A.off fr n1 n1) (by rw [own_fu_ne _ _ _ _ (by omega)]; exact B.off fr n2 n2) (by rw [own_fu_same, e]) b1 b2, fun _ _ => rfl, by omega, by omega, fun a k h => ?_⟩
 refine fr a k (fun z => h ⟨?_, z.2⟩)
 have : k = i := by omega
 subst this
 simp
theorem own_cat_s {as bs cs : List Nat} : own_cat p as l (own_cat p bs i cs) = own_cat p (own_cat p as l bs) i cs := by
 unfold own_cat
 split <;> simp
theorem own_bals {as bs cs : List Nat} {ha hb hc : Nat} (pq : own_pq p q) (Ii : own_I ri i) (ib : i < 16) (Il : own_I (f p i) l) (lb : l < 16) (A : own_Tr f (f p l) as ha) (B : own_Tr f (f q l) bs hb) (C : own_Tr f (f q i) cs hc) (nd : (own_cat p (own_cat p as l bs) i cs).Nodup) (hp : max ha hb + 1 = hc + 2) (g1 : ha ≤ hb + 1) (g2 : hb ≤ ha) (cc : hc ≤ 4) :
  ∃ h', own_Tr (own_rot f p q i l ri) (f p i) (own_cat p (own_cat p as l bs) i cs) h' ∧ hc + 2 ≤ h' ∧ h' ≤ hc + 3 ∧ ∀ a k, ¬ (k ∈ own_cat p (own_cat p as l bs) i cs ∧ (a = 3 ∨ a = 4 ∨ a = 5)) → own_rot f p q i l ri a k = f a k := by
 obtain ⟨n1, n2, n3, n4, n5⟩ := own_cat_nd nd
 obtain ⟨m1, m2, m3, m4, m5⟩ := own_cat_nd n1
 rw [own_cat_mem] at n3
 have il : i ≠ l := fun z => n3 (Or.inr (Or.inl z))
 have lc : l ∉ cs := n5 l (own_cat_mem.mpr (Or.inr (Or.inl rfl)))
 obtain ⟨r1, r2, r3, r4, r5, r6, fr⟩ := own_rotc (ri := ri) pq A B C il Ii (fun z => n3 (Or.inl z)) m3 (fun z => n3 (Or.inr (Or.inr z))) m4 n4 lc (by omega) (by omega) (by omega)
 have T1 := own_Tr.nodep pq Ii ib r3 r4 r5 (by omega) (by omega)
 have T2 := own_Tr.nodep (f := own_rot f p q i l ri) (hq := max hb hc + 1) pq Il lb r1 (by rw [r2]; exact T1) r6 (by omega) (by omega)
 rw [own_cat_s] at T2
 refine ⟨_, T2, by omega, by omega, fun a k h => fr a k (fun z => h ⟨?_, z.2⟩)⟩
 rw [own_cat_mem, own_cat_mem]
 rcases z.1 with z | z
 ·exact Or.inr (Or.inl z)
 ·exact Or.inl (Or.inr (Or.inl z))
theorem own_cat_d {as bs cs ds : List Nat} {m : Nat} : own_cat p (own_cat p as l bs) m (own_cat p cs i ds) = own_cat p (own_cat p as l (own_cat p bs m cs)) i ds := by
 unfold own_cat
 split <;> simp
theorem own_bald {as bs cs ds : List Nat} {m ha hb hc hd : Nat} (pq : own_pq p q) (Ii : own_I ri i) (ib : i < 16) (Il : own_I (f p i) l) (lb : l < 16) (Im : own_I (f q l) m) (mb : m < 16) (A : own_Tr f (f p l) as ha) (B : own_Tr f (f p m) bs hb) (C : own_Tr f (f q m) cs hc) (D : own_Tr f (f q i) ds hd) (nd : (own_cat p (own_cat p as l (own_cat p bs m cs)) i ds).Nodup) (e1 : ha = hd) (e2 : max hb hc = hd) (g1 : hb ≤ hc + 1) (g2 : hc ≤ hb + 1) (dd : hd ≤ 4) :
  own_Tr (own_rot (own_fu (own_rot f q p l m (f p i)) p i (f q l)) p q i m ri) (f q l) (own_cat p (own_cat p as l (own_cat p bs m cs)) i ds) (hd + 2) ∧ ∀ a k, ¬ (k ∈ own_cat p (own_cat p as l (own_cat p bs m cs)) i ds ∧ (a = 3 ∨ a = 4 ∨ a = 5)) → own_rot (own_fu (own_rot f q p l m (f p i)) p i (f q l)) p q i m ri a k = f a k := by
 have pz := pq
 unfold own_pq at pz
 obtain ⟨n1, n2, n3, n4, n5⟩ := own_cat_nd nd
 obtain ⟨m1, m2, m3, m4, m5⟩ := own_cat_nd n1
 obtain ⟨o1, o2, o3, o4, o5⟩ := own_cat_nd m2
 rw [own_cat_mem, own_cat_mem] at n3
 rw [own_cat_mem] at m4
 have il : i ≠ l := fun z => n3 (Or.inr (Or.inl z))
 have im : i ≠ m := fun z => n3 (Or.inr (Or.inr (Or.inr (Or.inl z))))
 have lm : l ≠ m := fun z => m4 (Or.inr (Or.inl z))
 have ia : i ∉ as := fun z => n3 (Or.inl z)
 have ibs : i ∉ bs := fun z => n3 (Or.inr (Or.inr (Or.inl z)))
 have ics : i ∉ cs := fun z => n3 (Or.inr (Or.inr (Or.inr (Or.inr z))))
 have ld : l ∉ ds := n5 l (own_cat_mem.mpr (Or.inr (Or.inl rfl)))
 have md : m ∉ ds := n5 m (own_cat_mem.mpr (Or.inr (Or.inr (own_cat_mem.mpr (Or.inr (Or.inl rfl))))))
 have ma : m ∉ as := fun z => m5 m z (own_cat_mem.mpr (Or.inr (Or.inl rfl)))
 obtain ⟨r1, r2, r3, r4, r5, r6, fr⟩ := own_rotc (ri := f p i) pq.symm C B A lm Il (fun z => m4 (Or.inr (Or.inr z))) o4 (fun z => m4 (Or.inl z)) o3 m3 ma (by omega) (by omega) (by omega)
 have T1 := own_Tr.nodep pq Il lb r4 r3 (by rw [Nat.max_comm ha hb]; exact r5) (by omega) (by omega)
 have g2f : ∀ a k, ¬ (a = p ∧ k = i) → own_fu (own_rot f q p l m (f p i)) p i (f q l) a k = own_rot f q p l m (f p i) a k := fun a k h => own_fu_ne _ _ _ _ h
 have fo : own_off (own_rot f q p l m (f p i)) (own_fu (own_rot f q p l m (f p i)) p i (f q l)) i i := fun a k h => own_fu_ne _ _ _ _ (by omega)
 have L1 : own_Tr (own_fu (own_rot f q p l m (f p i)) p i (f q l)) (own_fu (own_rot f q p l m (f p i)) p i (f q l) p m) (own_cat p as l bs) (max ha hb + 1) := by
  rw [g2f p m (by omega), r2]
  have nn : i ∉ own_cat p as l bs := fun z => by
   rcases own_cat_mem.mp z with z | z | z
   ·exact ia z
   ·exact il z
   ·exact ibs z
  exact T1.off fo nn nn
 have L2 : own_Tr (own_fu (own_rot f q p l m (f p i)) p i (f q l)) (own_fu (own_rot f q p l m (f p i)) p i (f q l) q m) cs hc := by
  rw [g2f q m (by omega)]
  exact r1.off fo ics ics
 have L3 : own_Tr (own_fu (own_rot f q p l m (f p i)) p i (f q l)) (own_fu (own_rot f q p l m (f p i)) p i (f q l) q i) ds hd := by
  rw [g2f q i (by omega), fr q i (by omega)]
  exact (D.off fr ld md).off fo n4 n4
 have mA : m ∉ own_cat p as l bs := fun z => by
  rcases own_cat_mem.mp z with z | z | z
  ·exact ma z
  ·exact lm z.symm
  ·exact o3 z
 have iA : i ∉ own_cat p as l bs := fun z => by
  rcases own_cat_mem.mp z with z | z | z
  ·exact ia z
  ·exact il z
  ·exact ibs z
 obtain ⟨s1, s2, s3, s4, s5, s6, fs⟩ := own_rotc (ri := ri) pq L1 L2 L3 im Ii iA mA ics o4 n4 md (by omega) (by omega) (by omega)
 have T2 := own_Tr.nodep pq Ii ib s3 s4 s5 (by omega) (by omega)
 have T3 := own_Tr.nodep (f := own_rot (own_fu (own_rot f q p l m (f p i)) p i (f q l)) p q i m ri) (hq := max hc hd + 1) pq Im mb s1 (by rw [s2]; exact T2) s6 (by omega) (by omega)
 rw [own_cat_d] at T3
 refine ⟨?_, fun a k h => ?_⟩
 ·rw [show hd + 2 = max (max ha hb + 1) (max hc hd + 1) + 1 by omega]; exact T3
 ·have ki : ¬ (k = i ∧ (a = 3 ∨ a = 4 ∨ a = 5)) := fun z => h ⟨own_cat_mem.mpr (Or.inr (Or.inl z.1)), z.2⟩
  have kl : ¬ (k = l ∧ (a = 3 ∨ a = 4 ∨ a = 5)) := fun z => h ⟨own_cat_mem.mpr (Or.inl (own_cat_mem.mpr (Or.inr (Or.inl z.1)))), z.2⟩
  have km : ¬ (k = m ∧ (a = 3 ∨ a = 4 ∨ a = 5)) := fun z => h ⟨own_cat_mem.mpr (Or.inl (own_cat_mem.mpr (Or.inr (Or.inr (own_cat_mem.mpr (Or.inr (Or.inl z.1))))))), z.2⟩
  rw [fs a k (by omega), g2f a k (by omega), fr a k (by omega)]
/-- sorted by the keys -/
def own_so (κ : Nat → Nat) (xs : List Nat) : Prop := xs.Pairwise (fun a b => κ a < κ b)
theorem own_so.nd (h : own_so κ xs) : xs.Nodup := List.Pairwise.imp (fun {a b} (z : κ a < κ b) e => by subst e; exact Nat.lt_irrefl _ z) h
theorem own_so.inv (h : own_so κ (ls ++ i :: rs)) : own_so κ ls ∧ own_so κ rs ∧ (∀ k ∈ ls, κ k < κ i) ∧ (∀ k ∈ rs, κ i < κ k) := by
 unfold own_so at *
 rw [List.pairwise_append, List.pairwise_cons] at h
 exact ⟨h.1, h.2.1.2, fun k hk => h.2.2 k hk i (by simp), h.2.1.1⟩
theorem own_so.ins (h : own_so κ (us ++ vs)) (a : ∀ u ∈ us, κ u < κ x) (b : ∀ v ∈ vs, κ x < κ v) : own_so κ (us ++ x :: vs) := by
 unfold own_so at *
 rw [List.pairwise_append] at h ⊢
 rw [List.pairwise_cons]
 refine ⟨h.1, ⟨b, h.2.1⟩, fun u hu v hv => ?_⟩
 rcases List.mem_cons.mp hv with rfl | hv
 ·exact a u hu
 ·exact h.2.2 u hu v hv
theorem own_so.upd {n K : Nat} (h : own_so κ xs) (b : ∀ k ∈ xs, k < n) : own_so (fun i => if i = n then K else κ i) xs := by
 unfold own_so at *
 refine List.Pairwise.imp_of_mem (fun {x y} hx hy z => ?_) h
 have := b x hx
 have := b y hy
 simp only
 rw [if_neg (by omega), if_neg (by omega)]
 exact z
/-- what inserting x gives -/
def own_insd (f f' : Nat → Nat → Int32) (κ : Nat → Nat) (x : Nat) (r' : Int32) (xs : List Nat) (ht : Nat) : Prop := ∃ us vs h', xs = us ++ vs ∧ own_Tr f' r' (us ++ x :: vs) h' ∧ (∀ u ∈ us, κ u < κ x) ∧ (∀ v ∈ vs, κ x < κ v) ∧ ht ≤ h' ∧ h' ≤ ht + 1 ∧ ∀ a k, ¬ (k ∈ x :: xs ∧ (a = 3 ∨ a = 4 ∨ a = 5)) → f' a k = f a k
theorem own_ins0 {rx : Int32} (Ix : own_I rx x) (xb : x < 16) (h3 : f 3 x = -1) (h4 : f 4 x = -1) (h5 : f 5 x = 1) : own_insd f f κ x rx [] 0 :=
 ⟨[], [], 1, rfl, own_Tr.node (hl := 0) (hr := 0) Ix xb (by rw [h3]; exact own_Tr.nil) (by rw [h4]; exact own_Tr.nil) (by rw [h5]; rfl) (by omega) (by omega), by simp, by simp, by omega, by omega, fun _ _ _ => rfl⟩
/-- behind the store of the left subtree's new root -/
theorem own_insl {f1 : Nat → Nat → Int32} {r1 : Int32} {h1 : Nat} (p : Nat) (pq : p = 3 ∨ p = 4) (fr : ∀ a k, ¬ (k ∈ x :: xs ∧ (a = 3 ∨ a = 4 ∨ a = 5)) → f1 a k = f a k) (A : own_Tr f1 r1 ys h1) (ni : i ∉ ys) : own_Tr (own_fu f1 p i r1) (own_fu f1 p i r1 p i) ys h1 := by
 rw [own_fu_same]
 exact A.off (i := i) (l := i) (fun a k h => own_fu_ne _ _ _ _ (by omega)) ni ni
theorem own_insr {f1 : Nat → Nat → Int32} {r1 : Int32} (p q : Nat) (pq : own_pq p q) (fr : ∀ a k, ¬ (k ∈ x :: xs ∧ (a = 3 ∨ a = 4 ∨ a = 5)) → f1 a k = f a k) (B : own_Tr f (f q i) rs hr) (ni : i ∉ rs) (nx : i ∉ x :: xs) (nr : ∀ k ∈ rs, k ∉ x :: xs) : own_Tr (own_fu f1 p i r1) (own_fu f1 p i r1 q i) rs hr := by
 have pz := pq
 unfold own_pq at pz
 rw [own_fu_ne _ _ _ _ (by omega), fr q i (fun z => nx z.1)]
 have B1 : own_Tr f1 (f q i) rs hr := B.congr (fun k hk => ⟨fr 3 k (fun z => nr k hk z.1), fr 4 k (fun z => nr k hk z.1), fr 5 k (fun z => nr k hk z.1)⟩)
 exact B1.off (i := i) (l := i) (fun a k h => own_fu_ne _ _ _ _ (by omega)) ni ni
theorem own_insL {f1 f3 : Nat → Nat → Int32} {r1 r3 : Int32} {h1 : Nat} (ex : ls = us ++ vs) (lu : ∀ u ∈ us, κ u < κ x) (lv : ∀ v ∈ vs, κ x < κ v) (xi : κ x < κ i) (hi : ∀ k ∈ rs, κ i < κ k) (g1 : hl ≤ h1) (g2 : h1 ≤ hl + 1) (b1 : hl ≤ hr + 1) (b2 : hr ≤ hl + 1) (fr : ∀ a k, ¬ (k ∈ x :: ls ∧ (a = 3 ∨ a = 4 ∨ a = 5)) → f1 a k = f a k) (bal : own_bal (own_fu f1 3 i r1) f3 r3 ((us ++ x :: vs) ++ i :: rs) h1 hr) : own_insd f f3 κ x r3 (ls ++ i :: rs) (max hl hr + 1) := by
 obtain ⟨h', T, c1, c2, c3, fb⟩ := bal
 refine ⟨us, vs ++ i :: rs, h', by rw [ex]; simp, by simpa using T, lu, fun v hv => ?_, by omega, by omega, fun a k h => ?_⟩
 ·rcases List.mem_append.mp hv with hv | hv
  ·exact lv v hv
  ·rcases List.mem_cons.mp hv with rfl | hv
   ·exact xi
   ·exact Nat.lt_trans xi (hi v hv)
 ·rw [fb a k (fun z => h ⟨by rw [ex]; simp at z ⊢; rcases z.1 with z | z | z | z | z <;> simp [z], z.2⟩), own_fu_ne _ _ _ _ (fun z => h ⟨by simp [z.2], by omega⟩), fr a k (fun z => h ⟨by rcases List.mem_cons.mp z.1 with z | z <;> simp [z], z.2⟩)]
theorem own_insR {f1 f3 : Nat → Nat → Int32} {r1 r3 : Int32} {h1 : Nat} (ex : rs = us ++ vs) (lu : ∀ u ∈ us, κ u < κ x) (lv : ∀ v ∈ vs, κ x < κ v) (xi : κ i < κ x) (hi : ∀ k ∈ ls, κ k < κ i) (g1 : hr ≤ h1) (g2 : h1 ≤ hr + 1) (b1 : hl ≤ hr + 1) (b2 : hr ≤ hl + 1) (fr : ∀ a k, ¬ (k ∈ x :: rs ∧ (a = 3 ∨ a = 4 ∨ a = 5)) → f1 a k = f a k) (bal : own_bal (own_fu f1 4 i r1) f3 r3 (ls ++ i :: (us ++ x :: vs)) hl h1) : own_insd f f3 κ x r3 (ls ++ i :: rs) (max hl hr + 1) := by
 obtain ⟨h', T, c1, c2, c3, fb⟩ := bal
 refine ⟨ls ++ i :: us, vs, h', by rw [ex]; simp, by simpa using T, fun v hv => ?_, lv, by omega, by omega, fun a k h => ?_⟩
 ·rcases List.mem_append.mp hv with hv | hv
  ·exact Nat.lt_trans (hi v hv) xi
  ·rcases List.mem_cons.mp hv with rfl | hv
   ·exact xi
   ·exact lu v hv
 ·rw [fb a k (fun z => h ⟨by rw [ex]; simp at z ⊢; rcases z.1 with z | z | z | z | z <;> simp [z], z.2⟩), own_fu_ne _ _ _ _ (fun z => h ⟨by simp [z.2], by omega⟩), fr a k (fun z => h ⟨by rcases List.mem_cons.mp z.1 with z | z <;> simp [z], z.2⟩)]
/-- a key that stands in the tree -/
def own_has (κ : Nat → Nat) (K : Nat) (xs : List Nat) : Prop := ∃ k ∈ xs, κ k = K
theorem own_has.left {K : Nat} (S : own_so κ (ls ++ i :: rs)) (h : K < κ i) : own_has κ K (ls ++ i :: rs) ↔ own_has κ K ls := by
 obtain ⟨-, -, a, b⟩ := S.inv
 constructor
 ·rintro ⟨k, hk, rfl⟩
  rcases List.mem_append.mp hk with hk | hk
  ·exact ⟨k, hk, rfl⟩
  ·rcases List.mem_cons.mp hk with rfl | hk
   ·exact absurd h (Nat.lt_irrefl _)
   ·exact absurd (b k hk) (by omega)
 ·rintro ⟨k, hk, z⟩
  exact ⟨k, by simp [hk], z⟩
theorem own_has.right {K : Nat} (S : own_so κ (ls ++ i :: rs)) (h : κ i < K) : own_has κ K (ls ++ i :: rs) ↔ own_has κ K rs := by
 obtain ⟨-, -, a, b⟩ := S.inv
 constructor
 ·rintro ⟨k, hk, rfl⟩
  rcases List.mem_append.mp hk with hk | hk
  ·exact absurd (a k hk) (by omega)
  ·rcases List.mem_cons.mp hk with rfl | hk
   ·exact absurd h (Nat.lt_irrefl _)
   ·exact ⟨k, hk, rfl⟩
 ·rintro ⟨k, hk, z⟩
  exact ⟨k, by simp [hk], z⟩
end OwnTree
section OwnTree2
variable {f f' f1 : Nat → Nat → Int32} {r ri r' r1 : Int32} {xs ys ls rs us vs as bs cs ds : List Nat} {ht hl hr i k l p q x m n ha hb hc hd dl dr h1 : Nat} {κ : Nat → Nat}
theorem own_bal_of (h : ∃ h', own_Tr f' r' xs h' ∧ n ≤ h' ∧ h' ≤ n + 1 ∧ ∀ a k, ¬ (k ∈ xs ∧ (a = 3 ∨ a = 4 ∨ a = 5)) → f' a k = f a k) (e : max dl dr = n) (z : ¬ (dl ≤ dr + 1 ∧ dr ≤ dl + 1)) : own_bal f f' r' xs dl dr := by
 obtain ⟨h', a, b, c, d⟩ := h
 exact ⟨h', a, fun z1 z2 => absurd ⟨z1, z2⟩ z, by omega, by omega, d⟩
theorem own_rotn (pq : own_pq p q) (ne : i ≠ l) (Ii : own_I ri i) (ib : i < 16) (n1 : own_n16 (f p l)) (n2 : own_n16 (f q l)) (n3 : own_n16 (f q i)) : own_n16 (own_r2 f p q i l ri 3 i) ∧ own_n16 (own_r2 f p q i l ri 4 i) ∧ own_n16 (own_r3 f p q i l ri 3 l) ∧ own_n16 (own_r3 f p q i l ri 4 l) := by
 have pz := pq
 unfold own_pq at pz
 have v1 : own_r2 f p q i l ri p i = f q l := by
  unfold own_r2
  rw [own_fu_ne _ _ _ _ (by omega), own_fu_same]
 have v3 : own_r2 f p q i l ri q i = f q i := by
  unfold own_r2
  rw [own_fu_ne _ _ _ _ (by omega), own_fu_ne _ _ _ _ (by omega)]
 have w1 : own_r3 f p q i l ri p l = f p l := by
  unfold own_r3 own_r2
  rw [own_fu_ne _ _ _ _ (by omega), own_fu_ne _ _ _ _ (by omega), own_fu_ne _ _ _ _ (by omega)]
 have w2 : own_r3 f p q i l ri q l = ri := by
  unfold own_r3 own_r2
  rw [own_fu_ne _ _ _ _ (by omega), own_fu_same]
 rcases pz with ⟨rfl, rfl⟩ | ⟨rfl, rfl⟩
 ·exact ⟨by rw [v1]; exact n2, by rw [v3]; exact n3, by rw [w1]; exact n1, by rw [w2]; exact own_n16x Ii ib⟩
 ·exact ⟨by rw [v3]; exact n3, by rw [v1]; exact n2, by rw [w2]; exact own_n16x Ii ib, by rw [w1]; exact n1⟩
/-- between the two rotations -/
theorem own_baldn (pq : own_pq p q) (Il : own_I (f p i) l) (lb : l < 16) (A : own_Tr f (f p l) as ha) (B : own_Tr f (f p m) bs hb) (C : own_Tr f (f q m) cs hc) (D : own_Tr f (f q i) ds hd) (nd : (own_cat p (own_cat p as l (own_cat p bs m cs)) i ds).Nodup) (b1 : ha ≤ 5) (b2 : hb ≤ 5) (b3 : hc ≤ 5) :
  l ≠ m ∧ i ≠ m ∧ own_n16 (own_fu (own_rot f q p l m (f p i)) p i (f q l) p m) ∧ own_n16 (own_fu (own_rot f q p l m (f p i)) p i (f q l) q m) ∧ own_n16 (own_fu (own_rot f q p l m (f p i)) p i (f q l) q i) := by
 have pz := pq
 unfold own_pq at pz
 obtain ⟨n1, n2, n3, n4, n5⟩ := own_cat_nd nd
 obtain ⟨m1, m2, m3, m4, m5⟩ := own_cat_nd n1
 obtain ⟨o1, o2, o3, o4, o5⟩ := own_cat_nd m2
 rw [own_cat_mem, own_cat_mem] at n3
 rw [own_cat_mem] at m4
 have il : i ≠ l := fun z => n3 (Or.inr (Or.inl z))
 have im : i ≠ m := fun z => n3 (Or.inr (Or.inr (Or.inr (Or.inl z))))
 have lm : l ≠ m := fun z => m4 (Or.inr (Or.inl z))
 have ma : m ∉ as := fun z => m5 m z (own_cat_mem.mpr (Or.inr (Or.inl rfl)))
 obtain ⟨r1, r2, r3, r4, r5, r6, fr⟩ := own_rotc (ri := f p i) pq.symm C B A lm Il (fun z => m4 (Or.inr (Or.inr z))) o4 (fun z => m4 (Or.inl z)) o3 m3 ma (by omega) (by omega) (by omega)
 refine ⟨lm, im, ?_, ?_, ?_⟩
 ·rw [own_fu_ne _ _ _ _ (by omega), r2]; exact own_n16x Il lb
 ·rw [own_fu_ne _ _ _ _ (by omega)]; exact r1.n16
 ·rw [own_fu_ne _ _ _ _ (by omega), fr q i (by omega)]; exact D.n16
theorem own_hdiff {x y : Int32} (h1 : x = Int32.ofNat dl) (h2 : y = Int32.ofNat dr) (b1 : dl ≤ 6) (b2 : dr ≤ 6) : ((1 : Int32) < (x - y) ↔ dr + 1 < dl) ∧ ((x - y) < (-1 : Int32) ↔ dl + 1 < dr) ∧ (x < y ↔ dl < dr) := by
 subst h1 h2
 have z : ∀ a, a < 7 → ∀ b, b < 7 → ((1 : Int32) < (Int32.ofNat a - Int32.ofNat b) ↔ b + 1 < a) ∧ ((Int32.ofNat a - Int32.ofNat b) < (-1 : Int32) ↔ a + 1 < b) ∧ (Int32.ofNat a < Int32.ofNat b ↔ a < b) := by decide
 exact z dl (by omega) dr (by omega)
theorem own_insPL (S : own_so κ (ls ++ i :: rs)) (ex : ls = us ++ vs) (lu : ∀ u ∈ us, κ u < κ x) (lv : ∀ v ∈ vs, κ x < κ v) (xi : κ x < κ i) (fr : ∀ a k, ¬ (k ∈ x :: ls ∧ (a = 3 ∨ a = 4 ∨ a = 5)) → f1 a k = f a k) (T1 : own_Tr f1 r1 (us ++ x :: vs) h1) (TR : own_Tr f (f 4 i) rs hr) : own_Tr (own_fu f1 3 i r1) (own_fu f1 3 i r1 3 i) (us ++ x :: vs) h1 ∧ own_Tr (own_fu f1 3 i r1) (own_fu f1 3 i r1 4 i) rs hr ∧ ((us ++ x :: vs) ++ i :: rs).Nodup := by
 have hi := S.inv.2.2.2
 have so : own_so κ ((us ++ x :: vs) ++ i :: rs) := by
  have s1 : own_so κ (us ++ (vs ++ i :: rs)) := by rw [← List.append_assoc, ← ex]; exact S
  have s2 := s1.ins lu (fun v hv => by
   rcases List.mem_append.mp hv with hv | hv
   ·exact lv v hv
   ·rcases List.mem_cons.mp hv with rfl | hv
    ·exact xi
    ·exact Nat.lt_trans xi (hi v hv))
  simpa using s2
 obtain ⟨-, -, n3, n4, n5⟩ := own_app_nd so.nd
 have mm : ∀ k, k ∈ x :: ls → k ∈ us ++ x :: vs := fun k hk => by
  rw [ex] at hk
  simp at hk ⊢
  rcases hk with hk | hk | hk <;> simp [hk]
 exact ⟨own_insl 3 (Or.inl rfl) fr T1 n3, own_insr 3 4 (Or.inl ⟨rfl, rfl⟩) fr TR n4 (fun z => n3 (mm i z)) (fun k hk z => n5 k (mm k z) hk), so.nd⟩
theorem own_insPR (S : own_so κ (ls ++ i :: rs)) (ex : rs = us ++ vs) (lu : ∀ u ∈ us, κ u < κ x) (lv : ∀ v ∈ vs, κ x < κ v) (xi : κ i < κ x) (fr : ∀ a k, ¬ (k ∈ x :: rs ∧ (a = 3 ∨ a = 4 ∨ a = 5)) → f1 a k = f a k) (T1 : own_Tr f1 r1 (us ++ x :: vs) h1) (TL : own_Tr f (f 3 i) ls hl) : own_Tr (own_fu f1 4 i r1) (own_fu f1 4 i r1 3 i) ls hl ∧ own_Tr (own_fu f1 4 i r1) (own_fu f1 4 i r1 4 i) (us ++ x :: vs) h1 ∧ (ls ++ i :: (us ++ x :: vs)).Nodup := by
 have hi := S.inv.2.2.1
 have so : own_so κ (ls ++ i :: (us ++ x :: vs)) := by
  have s1 : own_so κ ((ls ++ i :: us) ++ vs) := by rw [List.append_assoc, List.cons_append, ← ex]; exact S
  have s2 := s1.ins (fun v hv => by
   rcases List.mem_append.mp hv with hv | hv
   ·exact Nat.lt_trans (hi v hv) xi
   ·rcases List.mem_cons.mp hv with rfl | hv
    ·exact xi
    ·exact lu v hv) lv
  simpa using s2
 obtain ⟨-, -, n3, n4, n5⟩ := own_app_nd so.nd
 have mm : ∀ k, k ∈ x :: rs → k ∈ us ++ x :: vs := fun k hk => by
  rw [ex] at hk
  simp at hk ⊢
  rcases hk with hk | hk | hk <;> simp [hk]
 exact ⟨own_insr 4 3 (Or.inr ⟨rfl, rfl⟩) fr TL n3 (fun z => n4 (mm i z)) (fun k hk z => n5 k hk (mm k z)), own_insl 4 (Or.inr rfl) fr T1 n4, so.nd⟩
end OwnTree2
/-- keys: names of at most three signs, in order -/
def own_cr (C : Nat → Int32) : Prop := ∀ j, 0 ≤ (C j).toInt ∧ (C j).toInt ≤ 255
def own_dg (C : Nat → Int32) (s a j : Nat) : Nat := if j < a then (C (s + j)).toInt.toNat + 1 else 0
def own_kn (C : Nat → Int32) (s a : Nat) : Nat := own_dg C s a 0 * 66049 + own_dg C s a 1 * 257 + own_dg C s a 2
theorem own_kA {C : Nat → Int32} {s t a b : Nat} (cr : own_cr C) (ha : a ≤ 3) (hb : b ≤ 3) (eq : ∀ i, i < min a b → C (s + i) = C (t + i)) : (a < b ↔ own_kn C s a < own_kn C t b) ∧ (a = b ↔ own_kn C s a = own_kn C t b) := by
 have g : ∀ (u c k : Nat), own_dg C u c k ≤ 256 ∧ (k < c → 1 ≤ own_dg C u c k) ∧ (c ≤ k → own_dg C u c k = 0) := fun u c k => by
  have := cr (u + k)
  unfold own_dg
  split <;> omega
 have gi : ∀ i, i < min a b → own_dg C s a i = own_dg C t b i := fun i hi => by
  unfold own_dg; rw [if_pos (by omega), if_pos (by omega), eq i hi]
 have s0 := g s a 0; have s1 := g s a 1; have s2 := g s a 2; have t0 := g t b 0; have t1 := g t b 1; have t2 := g t b 2
 have e0 := gi 0; have e1 := gi 1; have e2 := gi 2
 clear gi g eq cr
 unfold own_kn
 generalize own_dg C s a 0 = A0 at *; generalize own_dg C s a 1 = A1 at *; generalize own_dg C s a 2 = A2 at *
 generalize own_dg C t b 0 = B0 at *; generalize own_dg C t b 1 = B1 at *; generalize own_dg C t b 2 = B2 at *
 have a' : a = 0 ∨ a = 1 ∨ a = 2 ∨ a = 3 := by omega
 have b' : b = 0 ∨ b = 1 ∨ b = 2 ∨ b = 3 := by omega
 rcases a' with rfl | rfl | rfl | rfl <;> rcases b' with rfl | rfl | rfl | rfl <;> omega
theorem own_kB {C : Nat → Int32} {s t a b j : Nat} (cr : own_cr C) (ha : a ≤ 3) (hb : b ≤ 3) (jl : j < min a b) (eq : ∀ i, i < j → C (s + i) = C (t + i)) (ne : C (s + j) ≠ C (t + j)) : ((C (s + j) - C (t + j)) < (0 : Int32) ↔ own_kn C s a < own_kn C t b) ∧ ((C (s + j) - C (t + j)) = (0 : Int32) ↔ own_kn C s a = own_kn C t b) := by
 have z0 : (0 : Int32).toInt = 0 := by decide
 have d := c_isub (C (s + j)) (C (t + j))
 have d' := rng32 (C (s + j) - C (t + j))
 have xj := cr (s + j); have yj := cr (t + j)
 have ei : (C (s + j) - C (t + j)).toInt = (C (s + j)).toInt - (C (t + j)).toInt := by omega
 have nz : (C (s + j)).toInt ≠ (C (t + j)).toInt := fun z => ne (Int32.toInt_inj.mp z)
 have q1 : (C (s + j) - C (t + j)) < (0 : Int32) ↔ (C (s + j)).toInt < (C (t + j)).toInt := by rw [Int32.lt_iff_toInt_lt, ei, z0]; omega
 have q2 : ¬ (C (s + j) - C (t + j)) = (0 : Int32) := fun z => by
  have := congrArg Int32.toInt z
  rw [ei, z0] at this
  omega
 have lt : (C (s + j)).toInt < (C (t + j)).toInt ↔ own_kn C s a < own_kn C t b := by
  clear q1 q2 d d' ei
  have g : ∀ k, own_dg C s a k ≤ 256 ∧ own_dg C t b k ≤ 256 := fun k => by
   have := cr (s + k); have := cr (t + k)
   unfold own_dg
   constructor <;> split <;> omega
  have gj : own_dg C s a j = (C (s + j)).toInt.toNat + 1 ∧ own_dg C t b j = (C (t + j)).toInt.toNat + 1 := by
   unfold own_dg; rw [if_pos (by omega), if_pos (by omega)]; exact ⟨rfl, rfl⟩
  have gi : ∀ i, i < j → own_dg C s a i = own_dg C t b i := fun i hi => by
   unfold own_dg; rw [if_pos (by omega), if_pos (by omega), eq i hi]
  have g0 := g 0; have g1 := g 1; have g2 := g 2
  have j' : j = 0 ∨ j = 1 ∨ j = 2 := by omega
  unfold own_kn
  rcases j' with rfl | rfl | rfl
  ·omega
  ·have := gi 0 (by omega)
   omega
  ·have := gi 0 (by omega)
   have := gi 1 (by omega)
   omega
 have ne2 : ¬ own_kn C s a = own_kn C t b := fun z => by
  clear q1 q2 d d' ei lt
  have g : ∀ k, own_dg C s a k ≤ 256 ∧ own_dg C t b k ≤ 256 := fun k => by
   have := cr (s + k); have := cr (t + k)
   unfold own_dg
   constructor <;> split <;> omega
  have gj : own_dg C s a j = (C (s + j)).toInt.toNat + 1 ∧ own_dg C t b j = (C (t + j)).toInt.toNat + 1 := by
   unfold own_dg; rw [if_pos (by omega), if_pos (by omega)]; exact ⟨rfl, rfl⟩
  have gi : ∀ i, i < j → own_dg C s a i = own_dg C t b i := fun i hi => by
   unfold own_dg; rw [if_pos (by omega), if_pos (by omega), eq i hi]
  have g0 := g 0; have g1 := g 1; have g2 := g 2
  have j' : j = 0 ∨ j = 1 ∨ j = 2 := by omega
  unfold own_kn at z
  rcases j' with rfl | rfl | rfl
  ·omega
  ·have := gi 0 (by omega)
   omega
  ·have := gi 0 (by omega)
   have := gi 1 (by omega)
   omega
 exact ⟨q1.trans lt, ⟨fun z => absurd z q2, fun z => absurd z ne2⟩⟩
/-- what mismatch says over k places -/
def own_mm (C : Nat → Int32) (s t k : Nat) (r : Int32) : Prop := (r = -1 ∧ ∀ i, i < k → C (s + i) = C (t + i)) ∨ ∃ j, j < k ∧ own_I r j ∧ (∀ i, i < j → C (s + i) = C (t + i)) ∧ C (s + j) ≠ C (t + j)
theorem own_mm.lt {C : Nat → Int32} {s t k : Nat} {r : Int32} (h : own_mm C s t k r) (z : r < (0 : Int32)) : ∀ i, i < k → C (s + i) = C (t + i) := by
 rcases h with h | ⟨j, -, hj, -⟩
 ·exact h.2
 ·exact absurd z hj.nn
theorem own_mm.ge {C : Nat → Int32} {s t k : Nat} {r : Int32} (h : own_mm C s t k r) (z : ¬ r < (0 : Int32)) : ∃ j, j < k ∧ own_I r j ∧ (∀ i, i < j → C (s + i) = C (t + i)) ∧ C (s + j) ≠ C (t + j) := by
 rcases h with h | h
 ·rw [h.1] at z; exact absurd (by decide) z
 ·exact h
theorem own_a1 {P : Nat → Prop} (h0 : P 0) : ∀ i, i < 1 → P i := fun i hi => by
 have : i = 0 := by omega
 subst this; exact h0
theorem own_a2 {P : Nat → Prop} (h0 : P 0) (h1 : P 1) : ∀ i, i < 2 → P i := fun i hi => by
 have : i = 0 ∨ i = 1 := by omega
 rcases this with rfl | rfl
 ·exact h0
 ·exact h1
theorem own_a3 {P : Nat → Prop} (h0 : P 0) (h1 : P 1) (h2 : P 2) : ∀ i, i < 3 → P i := fun i hi => by
 have : i = 0 ∨ i = 1 ∨ i = 2 := by omega
 rcases this with rfl | rfl | rfl
 ·exact h0
 ·exact h1
 ·exact h2
theorem own_nlt {x y : Int32} {a b : Nat} (h : own_I x a) (k : own_I y b) (q : b ≤ a) : ¬ x < y := fun z => by have := (h.lt k).mp z; omega
/-- node i holds the name with the key κ i; its signs lie below B -/
def own_nd (f : Nat → Nat → Int32) (κ : Nat → Nat) (B i : Nat) : Prop := ∃ sN aN, own_I (own_st f i) sN ∧ own_I (f 2 i) (sN + aN) ∧ aN ≤ 3 ∧ sN + aN ≤ B ∧ own_kn (f 1) sN aN = κ i

theorem d36_0 : De c_36 0 (.iload_n 1) 1 := by decide +kernel
theorem d36_1 : De c_36 1 (.iload_n 2) 1 := by decide +kernel
theorem d36_2 : De c_36 2 (.if_icmp .le 44) 3 := by decide +kernel
theorem d36_46 : De c_36 46 (.iload_n 1) 1 := by decide +kernel
theorem d36_47 : De c_36 47 (.ifCond .ge 12) 3 := by decide +kernel
theorem d36_59 : De c_36 59 (.iload_n 2) 1 := by decide +kernel
theorem d36_60 : De c_36 60 (.iload_n 0) 1 := by decide +kernel
theorem d36_61 : De c_36 61 (.if_icmp .le 12) 3 := by decide +kernel
theorem d36_73 : De c_36 73 .return_ 1 := by decide +kernel
theorem pn_36 : plainName "java/util/Arrays" = true := by first | (simp [plainName, overriddenIn]; done) | decide +kernel
theorem ef_36 (m : MethodId) (x0 : Int32) (x1 : Int32) (x2 : Int32) : entryFrame m #[(.int x0), (.int x1), (.int x2)] 3 = mkF m 0 #[Vi x0, Vi x1, Vi x2] [] := by first | rfl | simp [entryFrame, mkF, argsToLocals, Value.category]
def Q_rrc (Z : State) (M : Int32) (si : Int32) (ei : Int32)  (h0 : Heap) (n0 : Nat) : Option Value → Heap → List Loc → Prop := fun v h L => v = none ∧ Fr n0 L ∧ h = h0
theorem rrc (l : Launch) (Z : State) (a0 : Array Value) (hw : ∀ d ∈ tables_1, d.before a0 Z = true) (ws : List Jvm.Cond) (M : Int32) (si : Int32) (ei : Int32)  (h0 : Heap) (n0 : Nat) (Z0 : n0 ≤ h0.size) (q1 : ¬ ei < si) (q2 : ¬ si < (0 : Int32)) (q3 : ¬ M < ei) :
  own_M l Z n_7 (Jvm.Cond.code n_7 jdk_65_method_30_code 3 none) ws (Rm 0 0 0 0) #[(.int M), (.int si), (.int ei)] h0 (Q_rrc Z M si ei h0 n0) := by
 refine MetFree.of_bodySF (plainFor_of_name pn_36) hisR ?_
 intro p e s m args below meth c s₁ Bd hml0 hP hK
 obtain ⟨rfl, hZ, hh⟩ := hP
 have hx := Bd.exec
 have hby := Bd.bytes
 have hml : c.maxLocals = 3 := hml0
 have hown : s.vm.findClass "java/util/Arrays" = some m.cls := findClass_of_methodNamed Bd.named
 have hnm := (name_of_methodNamed Bd.named Bd.method).1
 have X0 : Stand p l e (Rm 0 0 0 0) s m #[(.int M), (.int si), (.int ei)] below meth c s₁ [] 0 0 := Stand.of_body Bd
 have e0 : s₁.heap = h0 := by rw [← hh, Bd.state]; rfl
 have N0 := Fr.nil n0
 show Goes p e below (Fin s (Q_rrc Z M si ei h0 n0) (Rm 0 0 0 0).cells (Rm 0 0 0 0).slots) _
 refine Goes.via (S' := s₁.setTop (mkF m 0 #[Vi M, Vi si, Vi ei] [])) (fun tz kz => castTop (ef_36 m M si ei ) kz) ?_
 refine Goes.via (S' := s₁.setTop (mkF m 73 #[Vi M, Vi si, Vi ei] [])) (fun tz kz => ?_) ?_
 ·refine XS.iloadN X0.here hx rfl (hb hby d36_0) rfl ?_
  refine XS.iloadN X0.here hx rfl (hb hby d36_1) rfl ?_
  refine XS.icmpYes X0.here hx rfl (pc0 := 2) (pc' := 46) rfl (hb hby d36_2) rfl (flt q1).2.2.2 (by decide) (by decide) ?_
  refine XS.iloadN X0.here hx rfl (hb hby d36_46) rfl ?_
  refine XS.ifYes X0.here hx rfl (pc0 := 47) (pc' := 59) rfl (hb hby d36_47) rfl ((if0 _ _).trans (flt q2).2.1) (by decide) (by decide) ?_
  refine XS.iloadN X0.here hx rfl (hb hby d36_59) rfl ?_
  refine XS.iloadN X0.here hx rfl (hb hby d36_60) rfl ?_
  refine XS.icmpYes X0.here hx rfl (pc0 := 61) (pc' := 73) rfl (hb hby d36_61) rfl (flt q3).2.2.2 (by decide) (by decide) ?_
  exact kz
 exact Goes.retV X0 hx Bd.notSynchronized Bd.returns (hb hby d36_73) (nb_ rfl) (nb_ rfl) ⟨rfl, N0, e0⟩
theorem d41_0 : De c_41 0 (.iload_n 0) 1 := by decide +kernel
theorem d41_1 : De c_41 1 (.iload_n 1) 1 := by decide +kernel
theorem d41_2 : De c_41 2 .isub 1 := by decide +kernel
theorem d41_3 : De c_41 3 .ireturn 1 := by decide +kernel
theorem pn_41 : plainName "java/lang/Character" = true := by first | (simp [plainName, overriddenIn]; done) | decide +kernel
theorem ef_41 (m : MethodId) (x0 : Int32) (x1 : Int32) : entryFrame m #[(.int x0), (.int x1)] 2 = mkF m 0 #[Vi x0, Vi x1] [] := by first | rfl | simp [entryFrame, mkF, argsToLocals, Value.category]
def Q_rcc (Z : State) (x : Int32) (y : Int32)  (h0 : Heap) (n0 : Nat) : Option Value → Heap → List Loc → Prop := fun v h L => v = some (.int (x - y)) ∧ Fr n0 L ∧ h = h0
theorem rcc (l : Launch) (Z : State) (a0 : Array Value) (hw : ∀ d ∈ tables_1, d.before a0 Z = true) (ws : List Jvm.Cond) (x : Int32) (y : Int32)  (h0 : Heap) (n0 : Nat) (Z0 : n0 ≤ h0.size) :
  own_M l Z n_8 (Jvm.Cond.code n_8 jdk_89_method_98_code 2 (some .int)) ws (Rm 0 0 0 0) #[(.int x), (.int y)] h0 (Q_rcc Z x y h0 n0) := by
 refine MetFree.of_bodySF (plainFor_of_name pn_41) hisR ?_
 intro p e s m args below meth c s₁ Bd hml0 hP hK
 obtain ⟨rfl, hZ, hh⟩ := hP
 have hx := Bd.exec
 have hby := Bd.bytes
 have hml : c.maxLocals = 2 := hml0
 have hown : s.vm.findClass "java/lang/Character" = some m.cls := findClass_of_methodNamed Bd.named
 have hnm := (name_of_methodNamed Bd.named Bd.method).1
 have X0 : Stand p l e (Rm 0 0 0 0) s m #[(.int x), (.int y)] below meth c s₁ [] 0 0 := Stand.of_body Bd
 have e0 : s₁.heap = h0 := by rw [← hh, Bd.state]; rfl
 have N0 := Fr.nil n0
 show Goes p e below (Fin s (Q_rcc Z x y h0 n0) (Rm 0 0 0 0).cells (Rm 0 0 0 0).slots) _
 refine Goes.via (S' := s₁.setTop (mkF m 0 #[Vi x, Vi y] [])) (fun tz kz => castTop (ef_41 m x y ) kz) ?_
 refine Goes.via (S' := s₁.setTop (mkF m 3 #[Vi x, Vi y] [(.int (x - y))])) (fun tz kz => ?_) ?_
 ·refine XS.iloadN X0.here hx rfl (hb hby d41_0) rfl ?_
  refine XS.iloadN X0.here hx rfl (hb hby d41_1) rfl ?_
  refine XS.isub X0.here hx rfl (hb hby d41_2) rfl ?_
  exact kz
 exact Goes.retI X0 hx Bd.notSynchronized Bd.returns (hb hby d41_3) (nb_ rfl) (nb_ rfl) ⟨rfl, N0, e0⟩
def own_mi (x y : Int32) : Int32 := (if y < x then y else x)
theorem d12_0 : De c_12 0 (.iload_n 0) 1 := by decide +kernel
theorem d12_1 : De c_12 1 (.iload_n 1) 1 := by decide +kernel
theorem d12_2 : De c_12 2 (.if_icmp .gt 7) 3 := by decide +kernel
theorem d12_5 : De c_12 5 (.iload_n 0) 1 := by decide +kernel
theorem d12_6 : De c_12 6 (.goto 4) 3 := by decide +kernel
theorem d12_9 : De c_12 9 (.iload_n 1) 1 := by decide +kernel
theorem d12_10 : De c_12 10 .ireturn 1 := by decide +kernel
theorem pn_12 : plainFor n_9 = true := by decide +kernel
theorem ef_12 (m : MethodId) (x0 : Int32) (x1 : Int32) : entryFrame m #[(.int x0), (.int x1)] 2 = mkF m 0 #[Vi x0, Vi x1] [] := by first | rfl | simp [entryFrame, mkF, argsToLocals, Value.category]
def Q_rmi (Z : State) (x : Int32) (y : Int32)  (h0 : Heap) (n0 : Nat) : Option Value → Heap → List Loc → Prop := fun v h L => v = some (.int (own_mi x y)) ∧ Fr n0 L ∧ h = h0
theorem rmi (l : Launch) (Z : State) (a0 : Array Value) (hw : ∀ d ∈ tables_1, d.before a0 Z = true) (ws : List Jvm.Cond) (x : Int32) (y : Int32)  (h0 : Heap) (n0 : Nat) (Z0 : n0 ≤ h0.size) :
  own_M l Z n_9 (Jvm.Cond.code n_9 jdk_29_method_69_code 2 (some .int)) ws (Rm 0 0 0 0) #[(.int x), (.int y)] h0 (Q_rmi Z x y h0 n0) := by
 refine MetFree.of_bodySF (Jvm.Free.JP.mathPlain rfl (by decide +kernel)) hisR ?_
 intro p e s m args below meth c s₁ Bd hml0 hP hK
 obtain ⟨rfl, hZ, hh⟩ := hP
 have hx := Bd.exec
 have hby := Bd.bytes
 have hml : c.maxLocals = 2 := hml0
 have hown : s.vm.findClass "java/lang/Math" = some m.cls := findClass_of_methodNamed Bd.named
 have hnm := (name_of_methodNamed Bd.named Bd.method).1
 have X0 : Stand p l e (Rm 0 0 0 0) s m #[(.int x), (.int y)] below meth c s₁ [] 0 0 := Stand.of_body Bd
 have e0 : s₁.heap = h0 := by rw [← hh, Bd.state]; rfl
 have N0 := Fr.nil n0
 show Goes p e below (Fin s (Q_rmi Z x y h0 n0) (Rm 0 0 0 0).cells (Rm 0 0 0 0).slots) _
 refine Goes.via (S' := s₁.setTop (mkF m 0 #[Vi x, Vi y] [])) (fun tz kz => castTop (ef_12 m x y ) kz) ?_
 refine Goes.via (S' := s₁.setTop (mkF m 2 #[Vi x, Vi y] [(.int y), (.int x)])) (fun tz kz => ?_) ?_
 ·refine XS.iloadN X0.here hx rfl (hb hby d12_0) rfl ?_
  refine XS.iloadN X0.here hx rfl (hb hby d12_1) rfl ?_
  exact kz
 obtain ⟨r2, hr2⟩ : ∃ zz_ : Int32, zz_ = (if y < x then y else x) := ⟨_, rfl⟩
 have j2_3 : ∀ t, Steps p.tables e below (s₁.setTop (mkF m 10 #[Vi x, Vi y] [(.int r2)])) t → Steps p.tables e below (s₁.setTop (mkF m 2 #[Vi x, Vi y] [(.int y), (.int x)])) t := by
  intro tz kz
  by_cases hc2_1 : y < x
  ·rw [if_pos hc2_1] at hr2
   refine XS.icmpYes X0.here hx rfl (pc0 := 2) (pc' := 9) rfl (hb hby d12_2) rfl (tlt hc2_1).2.2.1 (by decide) (by decide) ?_
   refine XS.iloadN X0.here hx rfl (hb hby d12_9) rfl ?_
   subst hr2
   exact kz
  ·rw [if_neg hc2_1] at hr2
   refine XS.icmpNo X0.here hx rfl (hb hby d12_2) rfl (flt hc2_1).2.2.1 ?_
   refine XS.iloadN X0.here hx rfl (hb hby d12_5) rfl ?_
   refine XS.goto X0.here hx rfl (pc0 := 6) (pc' := 10) rfl (hb hby d12_6) (by decide) (by decide) ?_
   subst hr2
   exact kz
 refine Goes.via j2_3 ?_
 exact Goes.retI X0 hx Bd.notSynchronized Bd.returns (hb hby d12_10) (nb_ rfl) (nb_ rfl) ⟨congrArg (fun z => some (Value.int z)) hr2, N0, e0⟩
theorem own_miI {x y : Int32} {a b : Nat} (h : own_I x a) (k : own_I y b) : own_I (own_mi x y) (min a b) := by
 unfold own_mi
 unfold own_I at *
 split
 ·rename_i q
  have q := Int32.lt_iff_toInt_lt.mp q
  omega
 ·rename_i q
  rw [Int32.lt_iff_toInt_lt] at q
  omega
theorem d37_0 : De c_37 0 (.iconst 0) 1 := by decide +kernel
theorem d37_1 : De c_37 1 (.istore 5) 2 := by decide +kernel
theorem d37_3 : De c_37 3 (.iload 4) 2 := by decide +kernel
theorem d37_5 : De c_37 5 (.iconst 3) 1 := by decide +kernel
theorem d37_6 : De c_37 6 (.if_icmp .le 71) 3 := by decide +kernel
theorem d37_77 : De c_37 77 (.iload 5) 2 := by decide +kernel
theorem d37_79 : De c_37 79 (.iload 4) 2 := by decide +kernel
theorem d37_81 : De c_37 81 (.if_icmp .ge 27) 3 := by decide +kernel
theorem d37_84 : De c_37 84 (.aload_n 0) 1 := by decide +kernel
theorem d37_85 : De c_37 85 (.iload_n 1) 1 := by decide +kernel
theorem d37_86 : De c_37 86 (.iload 5) 2 := by decide +kernel
theorem d37_88 : De c_37 88 .iadd 1 := by decide +kernel
theorem d37_89 : De c_37 89 .caload 1 := by decide +kernel
theorem d37_90 : De c_37 90 (.aload_n 2) 1 := by decide +kernel
theorem d37_91 : De c_37 91 (.iload_n 3) 1 := by decide +kernel
theorem d37_92 : De c_37 92 (.iload 5) 2 := by decide +kernel
theorem d37_94 : De c_37 94 .iadd 1 := by decide +kernel
theorem d37_95 : De c_37 95 .caload 1 := by decide +kernel
theorem d37_96 : De c_37 96 (.if_icmp .eq 6) 3 := by decide +kernel
theorem d37_99 : De c_37 99 (.iload 5) 2 := by decide +kernel
theorem d37_101 : De c_37 101 .ireturn 1 := by decide +kernel
theorem d37_102 : De c_37 102 (.iinc 5 1) 3 := by decide +kernel
theorem d37_105 : De c_37 105 (.goto (-28)) 3 := by decide +kernel
theorem d37_108 : De c_37 108 (.iconst (-1)) 1 := by decide +kernel
theorem d37_109 : De c_37 109 .ireturn 1 := by decide +kernel
theorem pn_37 : plainName "jdk/internal/util/ArraysSupport" = true := by first | (simp [plainName, overriddenIn]; done) | decide +kernel
theorem ef_37 (m : MethodId) (x0 : Addr) (x1 : Int32) (x2 : Addr) (x3 : Int32) (x4 : Int32) : entryFrame m #[(.ref x0), (.int x1), (.ref x2), (.int x3), (.int x4)] 8 = mkF m 0 #[Vr x0, Vi x1, Vr x2, Vi x3, Vi x4, Vu, Vu, Vu] [] := by first | rfl | simp [entryFrame, mkF, argsToLocals, Value.category]
def Q_rmm_0 (Z : State) (ca : Addr) (si : Int32) (t : Int32) (C : Nat → Int32) (s1 t1 : Nat) (h0 : Heap) (n0 : Nat) : Option Value → Heap → List Loc → Prop := fun v h L => ∃ r, v = some (.int r) ∧ Fr n0 L ∧ h = h0 ∧ own_mm C s1 t1 0 r
theorem rmm_0 (l : Launch) (Z : State) (a0 : Array Value) (hw : ∀ d ∈ tables_1, d.before a0 Z = true) (ws : List Jvm.Cond) (ca : Addr) (si : Int32) (t : Int32) (C : Nat → Int32) (s1 t1 : Nat) (h0 : Heap) (n0 : Nat) (Z0 : n0 ≤ h0.size) (CB : own_B Z h0 ca .char 64 C) (ha : own_I si s1) (hbd : own_I t t1) (la : s1 ≤ 60) (lb : t1 ≤ 60) :
  own_M l Z n_10 (Jvm.Cond.code n_10 jdk_48_method_16_code 8 (some .int)) ws (Rm 0 0 0 0) #[(.ref ca), (.int si), (.ref (ca)), (.int t), (.int 0)] h0 (Q_rmm_0 Z ca si t C s1 t1 h0 n0) := by
 refine MetFree.of_bodySF (plainFor_of_name pn_37) hisR ?_
 intro p e s m args below meth c s₁ Bd hml0 hP hK
 obtain ⟨rfl, hZ, hh⟩ := hP
 have hx := Bd.exec
 have hby := Bd.bytes
 have hml : c.maxLocals = 8 := hml0
 have hown : s.vm.findClass "jdk/internal/util/ArraysSupport" = some m.cls := findClass_of_methodNamed Bd.named
 have hnm := (name_of_methodNamed Bd.named Bd.method).1
 have X0 : Stand p l e (Rm 0 0 0 0) s m #[(.ref ca), (.int si), (.ref (ca)), (.int t), (.int 0)] below meth c s₁ [] 0 0 := Stand.of_body Bd
 have e0 : s₁.heap = h0 := by rw [← hh, Bd.state]; rfl
 have N0 := Fr.nil n0
 show Goes p e below (Fin s (Q_rmm_0 Z ca si t C s1 t1 h0 n0) (Rm 0 0 0 0).cells (Rm 0 0 0 0).slots) _
 refine Goes.via (S' := s₁.setTop (mkF m 0 #[Vr ca, Vi si, Vr (ca), Vi t, Vi 0, Vu, Vu, Vu] [])) (fun tz kz => castTop (ef_37 m ca si (ca) t (0 : Int32) ) kz) ?_
 refine Goes.via (S' := s₁.setTop (mkF m 109 #[Vr ca, Vi si, Vr (ca), Vi t, Vi 0, Vi 0, Vu, Vu] [(.int (-1))])) (fun tz kz => ?_) ?_
 ·refine XS.iconst X0.here hx rfl (hb hby d37_0) ?_
  refine XS.istore X0.here hx rfl (hb hby d37_1) rfl (l' := #[Vr ca, Vi si, Vr (ca), Vi t, Vi 0, Vi 0, Vu, Vu]) rfl ?_
  refine XS.iload X0.here hx rfl (hb hby d37_3) rfl ?_
  refine XS.iconst X0.here hx rfl (hb hby d37_5) ?_
  refine XS.icmpYes X0.here hx rfl (pc0 := 6) (pc' := 77) rfl (hb hby d37_6) rfl (flt (by first | decide | rfl)).2.2.2 (by decide) (by decide) ?_
  refine XS.iload X0.here hx rfl (hb hby d37_77) rfl ?_
  refine XS.iload X0.here hx rfl (hb hby d37_79) rfl ?_
  refine XS.icmpYes X0.here hx rfl (pc0 := 81) (pc' := 108) rfl (hb hby d37_81) rfl (flt (by first | decide | rfl)).2.1 (by decide) (by decide) ?_
  refine XS.iconst X0.here hx rfl (hb hby d37_108) ?_
  exact kz
 exact Goes.retI X0 hx Bd.notSynchronized Bd.returns (hb hby d37_109) (nb_ rfl) (nb_ rfl) ⟨(-1 : Int32), rfl, N0, e0, Or.inl ⟨rfl, (fun i hi => absurd hi (Nat.not_lt_zero i))⟩⟩
def Q_rmm_1 (Z : State) (ca : Addr) (si : Int32) (t : Int32) (C : Nat → Int32) (s1 t1 : Nat) (h0 : Heap) (n0 : Nat) : Option Value → Heap → List Loc → Prop := fun v h L => ∃ r, v = some (.int r) ∧ Fr n0 L ∧ h = h0 ∧ own_mm C s1 t1 1 r
theorem rmm_1 (l : Launch) (Z : State) (a0 : Array Value) (hw : ∀ d ∈ tables_1, d.before a0 Z = true) (ws : List Jvm.Cond) (ca : Addr) (si : Int32) (t : Int32) (C : Nat → Int32) (s1 t1 : Nat) (h0 : Heap) (n0 : Nat) (Z0 : n0 ≤ h0.size) (CB : own_B Z h0 ca .char 64 C) (ha : own_I si s1) (hbd : own_I t t1) (la : s1 ≤ 60) (lb : t1 ≤ 60) :
  own_M l Z n_10 (Jvm.Cond.code n_10 jdk_48_method_16_code 8 (some .int)) ws (Rm 0 0 0 0) #[(.ref ca), (.int si), (.ref (ca)), (.int t), (.int 1)] h0 (Q_rmm_1 Z ca si t C s1 t1 h0 n0) := by
 refine MetFree.of_bodySF (plainFor_of_name pn_37) hisR ?_
 intro p e s m args below meth c s₁ Bd hml0 hP hK
 obtain ⟨rfl, hZ, hh⟩ := hP
 have hx := Bd.exec
 have hby := Bd.bytes
 have hml : c.maxLocals = 8 := hml0
 have hown : s.vm.findClass "jdk/internal/util/ArraysSupport" = some m.cls := findClass_of_methodNamed Bd.named
 have hnm := (name_of_methodNamed Bd.named Bd.method).1
 have X0 : Stand p l e (Rm 0 0 0 0) s m #[(.ref ca), (.int si), (.ref (ca)), (.int t), (.int 1)] below meth c s₁ [] 0 0 := Stand.of_body Bd
 have e0 : s₁.heap = h0 := by rw [← hh, Bd.state]; rfl
 have N0 := Fr.nil n0
 show Goes p e below (Fin s (Q_rmm_1 Z ca si t C s1 t1 h0 n0) (Rm 0 0 0 0).cells (Rm 0 0 0 0).slots) _
 refine Goes.via (S' := s₁.setTop (mkF m 0 #[Vr ca, Vi si, Vr (ca), Vi t, Vi 1, Vu, Vu, Vu] [])) (fun tz kz => castTop (ef_37 m ca si (ca) t (1 : Int32) ) kz) ?_
 refine Goes.via (S' := s₁.setTop (mkF m 89 #[Vr ca, Vi si, Vr (ca), Vi t, Vi 1, Vi 0, Vu, Vu] [(.int (si + (0 : Int32))), (.ref ca)])) (fun tz kz => ?_) ?_
 ·refine XS.iconst X0.here hx rfl (hb hby d37_0) ?_
  refine XS.istore X0.here hx rfl (hb hby d37_1) rfl (l' := #[Vr ca, Vi si, Vr (ca), Vi t, Vi 1, Vi 0, Vu, Vu]) rfl ?_
  refine XS.iload X0.here hx rfl (hb hby d37_3) rfl ?_
  refine XS.iconst X0.here hx rfl (hb hby d37_5) ?_
  refine XS.icmpYes X0.here hx rfl (pc0 := 6) (pc' := 77) rfl (hb hby d37_6) rfl (flt (by first | decide | rfl)).2.2.2 (by decide) (by decide) ?_
  refine XS.iload X0.here hx rfl (hb hby d37_77) rfl ?_
  refine XS.iload X0.here hx rfl (hb hby d37_79) rfl ?_
  refine XS.icmpNo X0.here hx rfl (hb hby d37_81) rfl (tlt (by first | decide | rfl)).2.1 ?_
  refine XS.aloadN X0.here hx rfl (hb hby d37_84) rfl rfl ?_
  refine XS.iloadN X0.here hx rfl (hb hby d37_85) rfl ?_
  refine XS.iload X0.here hx rfl (hb hby d37_86) rfl ?_
  refine XS.iadd X0.here hx rfl (hb hby d37_88) rfl ?_
  exact kz
 obtain ⟨cl1, Ar1, Sz1, Hs1⟩ := (id CB)
 refine Goes.via (S' := s₁.setTop (mkF m 95 #[Vr ca, Vi si, Vr (ca), Vi t, Vi 1, Vi 0, Vu, Vu] [(.int (t + (0 : Int32))), (.ref (ca)), (.int (C (s1 + 0)))])) (fun tz kz => ?_) ?_
 ·refine X0.caload hx (j := (si + (0 : Int32))) (v := (.int (C (s1 + 0)))) (by rw [e0]; exact Ar1.1) (State.isArrayOf_alike hZ.alike Ar1.2.1) Ar1.2.2 (own_in Sz1 (ha.add own_I0 (by omega)) (by omega)) (own_at Hs1 (ha.add own_I0 (by omega)) (by omega)) (g := (mkF m 89 #[Vr ca, Vi si, Vr (ca), Vi t, Vi 1, Vi 0, Vu, Vu] [(.int (si + (0 : Int32))), (.ref ca)])) rfl rfl (hb hby d37_89) _ ?_
  refine XS.aloadN X0.here hx rfl (hb hby d37_90) rfl rfl ?_
  refine XS.iloadN X0.here hx rfl (hb hby d37_91) rfl ?_
  refine XS.iload X0.here hx rfl (hb hby d37_92) rfl ?_
  refine XS.iadd X0.here hx rfl (hb hby d37_94) rfl ?_
  exact kz
 obtain ⟨cl2, Ar2, Sz2, Hs2⟩ := (id CB)
 refine Goes.via (S' := s₁.setTop (mkF m 96 #[Vr ca, Vi si, Vr (ca), Vi t, Vi 1, Vi 0, Vu, Vu] [(.int (C (t1 + 0))), (.int (C (s1 + 0)))])) (fun tz kz => ?_) ?_
 ·refine X0.caload hx (j := (t + (0 : Int32))) (v := (.int (C (t1 + 0)))) (by rw [e0]; exact Ar2.1) (State.isArrayOf_alike hZ.alike Ar2.2.1) Ar2.2.2 (own_in Sz2 (hbd.add own_I0 (by omega)) (by omega)) (own_at Hs2 (hbd.add own_I0 (by omega)) (by omega)) (g := (mkF m 95 #[Vr ca, Vi si, Vr (ca), Vi t, Vi 1, Vi 0, Vu, Vu] [(.int (t + (0 : Int32))), (.ref (ca)), (.int (C (s1 + 0)))])) rfl rfl (hb hby d37_95) _ ?_
  exact kz
 by_cases hc96_3 : (C (s1 + 0)) = (C (t1 + 0))
 ·refine Goes.via (S' := s₁.setTop (mkF m 109 #[Vr ca, Vi si, Vr (ca), Vi t, Vi 1, Vi 1, Vu, Vu] [(.int (-1))])) (fun tz kz => ?_) ?_
  ·refine XS.icmpYes X0.here hx rfl (pc0 := 96) (pc' := 102) rfl (hb hby d37_96) rfl (teq hc96_3).1 (by decide) (by decide) ?_
   refine XS.iinc X0.here hx rfl (hb hby d37_102) rfl (l' := #[Vr ca, Vi si, Vr (ca), Vi t, Vi 1, Vi 1, Vu, Vu]) rfl ?_
   refine XS.goto X0.here hx rfl (pc0 := 105) (pc' := 77) rfl (hb hby d37_105) (by decide) (by decide) ?_
   refine XS.iload X0.here hx rfl (hb hby d37_77) rfl ?_
   refine XS.iload X0.here hx rfl (hb hby d37_79) rfl ?_
   refine XS.icmpYes X0.here hx rfl (pc0 := 81) (pc' := 108) rfl (hb hby d37_81) rfl (flt (by first | decide | rfl)).2.1 (by decide) (by decide) ?_
   refine XS.iconst X0.here hx rfl (hb hby d37_108) ?_
   exact kz
  exact Goes.retI X0 hx Bd.notSynchronized Bd.returns (hb hby d37_109) (nb_ rfl) (nb_ rfl) ⟨(-1 : Int32), rfl, N0, e0, Or.inl ⟨rfl, (own_a1 (P := fun i => C (s1 + i) = C (t1 + i)) hc96_3)⟩⟩
 ·refine Goes.via (S' := s₁.setTop (mkF m 101 #[Vr ca, Vi si, Vr (ca), Vi t, Vi 1, Vi 0, Vu, Vu] [(.int 0)])) (fun tz kz => ?_) ?_
  ·refine XS.icmpNo X0.here hx rfl (hb hby d37_96) rfl (feq hc96_3).1 ?_
   refine XS.iload X0.here hx rfl (hb hby d37_99) rfl ?_
   exact kz
  exact Goes.retI X0 hx Bd.notSynchronized Bd.returns (hb hby d37_101) (nb_ rfl) (nb_ rfl) ⟨(0 : Int32), rfl, N0, e0, Or.inr ⟨0, by decide, own_I0, (fun i hi => absurd hi (Nat.not_lt_zero i)), hc96_3⟩⟩
def Q_rmm_2 (Z : State) (ca : Addr) (si : Int32) (t : Int32) (C : Nat → Int32) (s1 t1 : Nat) (h0 : Heap) (n0 : Nat) : Option Value → Heap → List Loc → Prop := fun v h L => ∃ r, v = some (.int r) ∧ Fr n0 L ∧ h = h0 ∧ own_mm C s1 t1 2 r
theorem rmm_2 (l : Launch) (Z : State) (a0 : Array Value) (hw : ∀ d ∈ tables_1, d.before a0 Z = true) (ws : List Jvm.Cond) (ca : Addr) (si : Int32) (t : Int32) (C : Nat → Int32) (s1 t1 : Nat) (h0 : Heap) (n0 : Nat) (Z0 : n0 ≤ h0.size) (CB : own_B Z h0 ca .char 64 C) (ha : own_I si s1) (hbd : own_I t t1) (la : s1 ≤ 60) (lb : t1 ≤ 60) :
  own_M l Z n_10 (Jvm.Cond.code n_10 jdk_48_method_16_code 8 (some .int)) ws (Rm 0 0 0 0) #[(.ref ca), (.int si), (.ref (ca)), (.int t), (.int 2)] h0 (Q_rmm_2 Z ca si t C s1 t1 h0 n0) := by
 refine MetFree.of_bodySF (plainFor_of_name pn_37) hisR ?_
 intro p e s m args below meth c s₁ Bd hml0 hP hK
 obtain ⟨rfl, hZ, hh⟩ := hP
 have hx := Bd.exec
 have hby := Bd.bytes
 have hml : c.maxLocals = 8 := hml0
 have hown : s.vm.findClass "jdk/internal/util/ArraysSupport" = some m.cls := findClass_of_methodNamed Bd.named
 have hnm := (name_of_methodNamed Bd.named Bd.method).1
 have X0 : Stand p l e (Rm 0 0 0 0) s m #[(.ref ca), (.int si), (.ref (ca)), (.int t), (.int 2)] below meth c s₁ [] 0 0 := Stand.of_body Bd
 have e0 : s₁.heap = h0 := by rw [← hh, Bd.state]; rfl
 have N0 := Fr.nil n0
 show Goes p e below (Fin s (Q_rmm_2 Z ca si t C s1 t1 h0 n0) (Rm 0 0 0 0).cells (Rm 0 0 0 0).slots) _
 refine Goes.via (S' := s₁.setTop (mkF m 0 #[Vr ca, Vi si, Vr (ca), Vi t, Vi 2, Vu, Vu, Vu] [])) (fun tz kz => castTop (ef_37 m ca si (ca) t (2 : Int32) ) kz) ?_
 refine Goes.via (S' := s₁.setTop (mkF m 89 #[Vr ca, Vi si, Vr (ca), Vi t, Vi 2, Vi 0, Vu, Vu] [(.int (si + (0 : Int32))), (.ref ca)])) (fun tz kz => ?_) ?_
 ·refine XS.iconst X0.here hx rfl (hb hby d37_0) ?_
  refine XS.istore X0.here hx rfl (hb hby d37_1) rfl (l' := #[Vr ca, Vi si, Vr (ca), Vi t, Vi 2, Vi 0, Vu, Vu]) rfl ?_
  refine XS.iload X0.here hx rfl (hb hby d37_3) rfl ?_
  refine XS.iconst X0.here hx rfl (hb hby d37_5) ?_
  refine XS.icmpYes X0.here hx rfl (pc0 := 6) (pc' := 77) rfl (hb hby d37_6) rfl (flt (by first | decide | rfl)).2.2.2 (by decide) (by decide) ?_
  refine XS.iload X0.here hx rfl (hb hby d37_77) rfl ?_
  refine XS.iload X0.here hx rfl (hb hby d37_79) rfl ?_
  refine XS.icmpNo X0.here hx rfl (hb hby d37_81) rfl (tlt (by first | decide | rfl)).2.1 ?_
  refine XS.aloadN X0.here hx rfl (hb hby d37_84) rfl rfl ?_
  refine XS.iloadN X0.here hx rfl (hb hby d37_85) rfl ?_
  refine XS.iload X0.here hx rfl (hb hby d37_86) rfl ?_
  refine XS.iadd X0.here hx rfl (hb hby d37_88) rfl ?_
  exact kz
 obtain ⟨cl1, Ar1, Sz1, Hs1⟩ := (id CB)
 refine Goes.via (S' := s₁.setTop (mkF m 95 #[Vr ca, Vi si, Vr (ca), Vi t, Vi 2, Vi 0, Vu, Vu] [(.int (t + (0 : Int32))), (.ref (ca)), (.int (C (s1 + 0)))])) (fun tz kz => ?_) ?_
 ·refine X0.caload hx (j := (si + (0 : Int32))) (v := (.int (C (s1 + 0)))) (by rw [e0]; exact Ar1.1) (State.isArrayOf_alike hZ.alike Ar1.2.1) Ar1.2.2 (own_in Sz1 (ha.add own_I0 (by omega)) (by omega)) (own_at Hs1 (ha.add own_I0 (by omega)) (by omega)) (g := (mkF m 89 #[Vr ca, Vi si, Vr (ca), Vi t, Vi 2, Vi 0, Vu, Vu] [(.int (si + (0 : Int32))), (.ref ca)])) rfl rfl (hb hby d37_89) _ ?_
  refine XS.aloadN X0.here hx rfl (hb hby d37_90) rfl rfl ?_
  refine XS.iloadN X0.here hx rfl (hb hby d37_91) rfl ?_
  refine XS.iload X0.here hx rfl (hb hby d37_92) rfl ?_
  refine XS.iadd X0.here hx rfl (hb hby d37_94) rfl ?_
  exact kz
 obtain ⟨cl2, Ar2, Sz2, Hs2⟩ := (id CB)
 refine Goes.via (S' := s₁.setTop (mkF m 96 #[Vr ca, Vi si, Vr (ca), Vi t, Vi 2, Vi 0, Vu, Vu] [(.int (C (t1 + 0))), (.int (C (s1 + 0)))])) (fun tz kz => ?_) ?_
 ·refine X0.caload hx (j := (t + (0 : Int32))) (v := (.int (C (t1 + 0)))) (by rw [e0]; exact Ar2.1) (State.isArrayOf_alike hZ.alike Ar2.2.1) Ar2.2.2 (own_in Sz2 (hbd.add own_I0 (by omega)) (by omega)) (own_at Hs2 (hbd.add own_I0 (by omega)) (by omega)) (g := (mkF m 95 #[Vr ca, Vi si, Vr (ca), Vi t, Vi 2, Vi 0, Vu, Vu] [(.int (t + (0 : Int32))), (.ref (ca)), (.int (C (s1 + 0)))])) rfl rfl (hb hby d37_95) _ ?_
  exact kz
 by_cases hc96_3 : (C (s1 + 0)) = (C (t1 + 0))
 ·refine Goes.via (S' := s₁.setTop (mkF m 89 #[Vr ca, Vi si, Vr (ca), Vi t, Vi 2, Vi 1, Vu, Vu] [(.int (si + (1 : Int32))), (.ref ca)])) (fun tz kz => ?_) ?_
  ·refine XS.icmpYes X0.here hx rfl (pc0 := 96) (pc' := 102) rfl (hb hby d37_96) rfl (teq hc96_3).1 (by decide) (by decide) ?_
   refine XS.iinc X0.here hx rfl (hb hby d37_102) rfl (l' := #[Vr ca, Vi si, Vr (ca), Vi t, Vi 2, Vi 1, Vu, Vu]) rfl ?_
   refine XS.goto X0.here hx rfl (pc0 := 105) (pc' := 77) rfl (hb hby d37_105) (by decide) (by decide) ?_
   refine XS.iload X0.here hx rfl (hb hby d37_77) rfl ?_
   refine XS.iload X0.here hx rfl (hb hby d37_79) rfl ?_
   refine XS.icmpNo X0.here hx rfl (hb hby d37_81) rfl (tlt (by first | decide | rfl)).2.1 ?_
   refine XS.aloadN X0.here hx rfl (hb hby d37_84) rfl rfl ?_
   refine XS.iloadN X0.here hx rfl (hb hby d37_85) rfl ?_
   refine XS.iload X0.here hx rfl (hb hby d37_86) rfl ?_
   refine XS.iadd X0.here hx rfl (hb hby d37_88) rfl ?_
   exact kz
  obtain ⟨cl4, Ar4, Sz4, Hs4⟩ := (id CB)
  refine Goes.via (S' := s₁.setTop (mkF m 95 #[Vr ca, Vi si, Vr (ca), Vi t, Vi 2, Vi 1, Vu, Vu] [(.int (t + (1 : Int32))), (.ref (ca)), (.int (C (s1 + 1)))])) (fun tz kz => ?_) ?_
  ·refine X0.caload hx (j := (si + (1 : Int32))) (v := (.int (C (s1 + 1)))) (by rw [e0]; exact Ar4.1) (State.isArrayOf_alike hZ.alike Ar4.2.1) Ar4.2.2 (own_in Sz4 (ha.add own_I1 (by omega)) (by omega)) (own_at Hs4 (ha.add own_I1 (by omega)) (by omega)) (g := (mkF m 89 #[Vr ca, Vi si, Vr (ca), Vi t, Vi 2, Vi 1, Vu, Vu] [(.int (si + (1 : Int32))), (.ref ca)])) rfl rfl (hb hby d37_89) _ ?_
   refine XS.aloadN X0.here hx rfl (hb hby d37_90) rfl rfl ?_
   refine XS.iloadN X0.here hx rfl (hb hby d37_91) rfl ?_
   refine XS.iload X0.here hx rfl (hb hby d37_92) rfl ?_
   refine XS.iadd X0.here hx rfl (hb hby d37_94) rfl ?_
   exact kz
  obtain ⟨cl5, Ar5, Sz5, Hs5⟩ := (id CB)
  refine Goes.via (S' := s₁.setTop (mkF m 96 #[Vr ca, Vi si, Vr (ca), Vi t, Vi 2, Vi 1, Vu, Vu] [(.int (C (t1 + 1))), (.int (C (s1 + 1)))])) (fun tz kz => ?_) ?_
  ·refine X0.caload hx (j := (t + (1 : Int32))) (v := (.int (C (t1 + 1)))) (by rw [e0]; exact Ar5.1) (State.isArrayOf_alike hZ.alike Ar5.2.1) Ar5.2.2 (own_in Sz5 (hbd.add own_I1 (by omega)) (by omega)) (own_at Hs5 (hbd.add own_I1 (by omega)) (by omega)) (g := (mkF m 95 #[Vr ca, Vi si, Vr (ca), Vi t, Vi 2, Vi 1, Vu, Vu] [(.int (t + (1 : Int32))), (.ref (ca)), (.int (C (s1 + 1)))])) rfl rfl (hb hby d37_95) _ ?_
   exact kz
  by_cases hc96_6 : (C (s1 + 1)) = (C (t1 + 1))
  ·refine Goes.via (S' := s₁.setTop (mkF m 109 #[Vr ca, Vi si, Vr (ca), Vi t, Vi 2, Vi 2, Vu, Vu] [(.int (-1))])) (fun tz kz => ?_) ?_
   ·refine XS.icmpYes X0.here hx rfl (pc0 := 96) (pc' := 102) rfl (hb hby d37_96) rfl (teq hc96_6).1 (by decide) (by decide) ?_
    refine XS.iinc X0.here hx rfl (hb hby d37_102) rfl (l' := #[Vr ca, Vi si, Vr (ca), Vi t, Vi 2, Vi 2, Vu, Vu]) rfl ?_
    refine XS.goto X0.here hx rfl (pc0 := 105) (pc' := 77) rfl (hb hby d37_105) (by decide) (by decide) ?_
    refine XS.iload X0.here hx rfl (hb hby d37_77) rfl ?_
    refine XS.iload X0.here hx rfl (hb hby d37_79) rfl ?_
    refine XS.icmpYes X0.here hx rfl (pc0 := 81) (pc' := 108) rfl (hb hby d37_81) rfl (flt (by first | decide | rfl)).2.1 (by decide) (by decide) ?_
    refine XS.iconst X0.here hx rfl (hb hby d37_108) ?_
    exact kz
   exact Goes.retI X0 hx Bd.notSynchronized Bd.returns (hb hby d37_109) (nb_ rfl) (nb_ rfl) ⟨(-1 : Int32), rfl, N0, e0, Or.inl ⟨rfl, (own_a2 (P := fun i => C (s1 + i) = C (t1 + i)) hc96_3 hc96_6)⟩⟩
  ·refine Goes.via (S' := s₁.setTop (mkF m 101 #[Vr ca, Vi si, Vr (ca), Vi t, Vi 2, Vi 1, Vu, Vu] [(.int 1)])) (fun tz kz => ?_) ?_
   ·refine XS.icmpNo X0.here hx rfl (hb hby d37_96) rfl (feq hc96_6).1 ?_
    refine XS.iload X0.here hx rfl (hb hby d37_99) rfl ?_
    exact kz
   exact Goes.retI X0 hx Bd.notSynchronized Bd.returns (hb hby d37_101) (nb_ rfl) (nb_ rfl) ⟨(1 : Int32), rfl, N0, e0, Or.inr ⟨1, by decide, own_I1, (own_a1 (P := fun i => C (s1 + i) = C (t1 + i)) hc96_3), hc96_6⟩⟩
 ·refine Goes.via (S' := s₁.setTop (mkF m 101 #[Vr ca, Vi si, Vr (ca), Vi t, Vi 2, Vi 0, Vu, Vu] [(.int 0)])) (fun tz kz => ?_) ?_
  ·refine XS.icmpNo X0.here hx rfl (hb hby d37_96) rfl (feq hc96_3).1 ?_
   refine XS.iload X0.here hx rfl (hb hby d37_99) rfl ?_
   exact kz
  exact Goes.retI X0 hx Bd.notSynchronized Bd.returns (hb hby d37_101) (nb_ rfl) (nb_ rfl) ⟨(0 : Int32), rfl, N0, e0, Or.inr ⟨0, by decide, own_I0, (fun i hi => absurd hi (Nat.not_lt_zero i)), hc96_3⟩⟩
def Q_rmm_3 (Z : State) (ca : Addr) (si : Int32) (t : Int32) (C : Nat → Int32) (s1 t1 : Nat) (h0 : Heap) (n0 : Nat) : Option Value → Heap → List Loc → Prop := fun v h L => ∃ r, v = some (.int r) ∧ Fr n0 L ∧ h = h0 ∧ own_mm C s1 t1 3 r
theorem rmm_3 (l : Launch) (Z : State) (a0 : Array Value) (hw : ∀ d ∈ tables_1, d.before a0 Z = true) (ws : List Jvm.Cond) (ca : Addr) (si : Int32) (t : Int32) (C : Nat → Int32) (s1 t1 : Nat) (h0 : Heap) (n0 : Nat) (Z0 : n0 ≤ h0.size) (CB : own_B Z h0 ca .char 64 C) (ha : own_I si s1) (hbd : own_I t t1) (la : s1 ≤ 60) (lb : t1 ≤ 60) :
  own_M l Z n_10 (Jvm.Cond.code n_10 jdk_48_method_16_code 8 (some .int)) ws (Rm 0 0 0 0) #[(.ref ca), (.int si), (.ref (ca)), (.int t), (.int 3)] h0 (Q_rmm_3 Z ca si t C s1 t1 h0 n0) := by
 refine MetFree.of_bodySF (plainFor_of_name pn_37) hisR ?_
 intro p e s m args below meth c s₁ Bd hml0 hP hK
 obtain ⟨rfl, hZ, hh⟩ := hP
 have hx := Bd.exec
 have hby := Bd.bytes
 have hml : c.maxLocals = 8 := hml0
 have hown : s.vm.findClass "jdk/internal/util/ArraysSupport" = some m.cls := findClass_of_methodNamed Bd.named
 have hnm := (name_of_methodNamed Bd.named Bd.method).1
 have X0 : Stand p l e (Rm 0 0 0 0) s m #[(.ref ca), (.int si), (.ref (ca)), (.int t), (.int 3)] below meth c s₁ [] 0 0 := Stand.of_body Bd
 have e0 : s₁.heap = h0 := by rw [← hh, Bd.state]; rfl
 have N0 := Fr.nil n0
 show Goes p e below (Fin s (Q_rmm_3 Z ca si t C s1 t1 h0 n0) (Rm 0 0 0 0).cells (Rm 0 0 0 0).slots) _
 refine Goes.via (S' := s₁.setTop (mkF m 0 #[Vr ca, Vi si, Vr (ca), Vi t, Vi 3, Vu, Vu, Vu] [])) (fun tz kz => castTop (ef_37 m ca si (ca) t (3 : Int32) ) kz) ?_
 refine Goes.via (S' := s₁.setTop (mkF m 89 #[Vr ca, Vi si, Vr (ca), Vi t, Vi 3, Vi 0, Vu, Vu] [(.int (si + (0 : Int32))), (.ref ca)])) (fun tz kz => ?_) ?_
 ·refine XS.iconst X0.here hx rfl (hb hby d37_0) ?_
  refine XS.istore X0.here hx rfl (hb hby d37_1) rfl (l' := #[Vr ca, Vi si, Vr (ca), Vi t, Vi 3, Vi 0, Vu, Vu]) rfl ?_
  refine XS.iload X0.here hx rfl (hb hby d37_3) rfl ?_
  refine XS.iconst X0.here hx rfl (hb hby d37_5) ?_
  refine XS.icmpYes X0.here hx rfl (pc0 := 6) (pc' := 77) rfl (hb hby d37_6) rfl (flt (by first | decide | rfl)).2.2.2 (by decide) (by decide) ?_
  refine XS.iload X0.here hx rfl (hb hby d37_77) rfl ?_
  refine XS.iload X0.here hx rfl (hb hby d37_79) rfl ?_
  refine XS.icmpNo X0.here hx rfl (hb hby d37_81) rfl (tlt (by first | decide | rfl)).2.1 ?_
  refine XS.aloadN X0.here hx rfl (hb hby d37_84) rfl rfl ?_
  refine XS.iloadN X0.here hx rfl (hb hby d37_85) rfl ?_
  refine XS.iload X0.here hx rfl (hb hby d37_86) rfl ?_
  refine XS.iadd X0.here hx rfl (hb hby d37_88) rfl ?_
  exact kz
 obtain ⟨cl1, Ar1, Sz1, Hs1⟩ := (id CB)
 refine Goes.via (S' := s₁.setTop (mkF m 95 #[Vr ca, Vi si, Vr (ca), Vi t, Vi 3, Vi 0, Vu, Vu] [(.int (t + (0 : Int32))), (.ref (ca)), (.int (C (s1 + 0)))])) (fun tz kz => ?_) ?_
 ·refine X0.caload hx (j := (si + (0 : Int32))) (v := (.int (C (s1 + 0)))) (by rw [e0]; exact Ar1.1) (State.isArrayOf_alike hZ.alike Ar1.2.1) Ar1.2.2 (own_in Sz1 (ha.add own_I0 (by omega)) (by omega)) (own_at Hs1 (ha.add own_I0 (by omega)) (by omega)) (g := (mkF m 89 #[Vr ca, Vi si, Vr (ca), Vi t, Vi 3, Vi 0, Vu, Vu] [(.int (si + (0 : Int32))), (.ref ca)])) rfl rfl (hb hby d37_89) _ ?_
  refine XS.aloadN X0.here hx rfl (hb hby d37_90) rfl rfl ?_
  refine XS.iloadN X0.here hx rfl (hb hby d37_91) rfl ?_
  refine XS.iload X0.here hx rfl (hb hby d37_92) rfl ?_
  refine XS.iadd X0.here hx rfl (hb hby d37_94) rfl ?_
  exact kz
 obtain ⟨cl2, Ar2, Sz2, Hs2⟩ := (id CB)
 refine Goes.via (S' := s₁.setTop (mkF m 96 #[Vr ca, Vi si, Vr (ca), Vi t, Vi 3, Vi 0, Vu, Vu] [(.int (C (t1 + 0))), (.int (C (s1 + 0)))])) (fun tz kz => ?_) ?_
 ·refine X0.caload hx (j := (t + (0 : Int32))) (v := (.int (C (t1 + 0)))) (by rw [e0]; exact Ar2.1) (State.isArrayOf_alike hZ.alike Ar2.2.1) Ar2.2.2 (own_in Sz2 (hbd.add own_I0 (by omega)) (by omega)) (own_at Hs2 (hbd.add own_I0 (by omega)) (by omega)) (g := (mkF m 95 #[Vr ca, Vi si, Vr (ca), Vi t, Vi 3, Vi 0, Vu, Vu] [(.int (t + (0 : Int32))), (.ref (ca)), (.int (C (s1 + 0)))])) rfl rfl (hb hby d37_95) _ ?_
  exact kz
 by_cases hc96_3 : (C (s1 + 0)) = (C (t1 + 0))
 ·refine Goes.via (S' := s₁.setTop (mkF m 89 #[Vr ca, Vi si, Vr (ca), Vi t, Vi 3, Vi 1, Vu, Vu] [(.int (si + (1 : Int32))), (.ref ca)])) (fun tz kz => ?_) ?_
  ·refine XS.icmpYes X0.here hx rfl (pc0 := 96) (pc' := 102) rfl (hb hby d37_96) rfl (teq hc96_3).1 (by decide) (by decide) ?_
   refine XS.iinc X0.here hx rfl (hb hby d37_102) rfl (l' := #[Vr ca, Vi si, Vr (ca), Vi t, Vi 3, Vi 1, Vu, Vu]) rfl ?_
   refine XS.goto X0.here hx rfl (pc0 := 105) (pc' := 77) rfl (hb hby d37_105) (by decide) (by decide) ?_
   refine XS.iload X0.here hx rfl (hb hby d37_77) rfl ?_
   refine XS.iload X0.here hx rfl (hb hby d37_79) rfl ?_
   refine XS.icmpNo X0.here hx rfl (hb hby d37_81) rfl (tlt (by first | decide | rfl)).2.1 ?_
   refine XS.aloadN X0.here hx rfl (hb hby d37_84) rfl rfl ?_
   refine XS.iloadN X0.here hx rfl (hb hby d37_85) rfl ?_
   refine XS.iload X0.here hx rfl (hb hby d37_86) rfl ?_
   refine XS.iadd X0.here hx rfl (hb hby d37_88) rfl ?_
   exact kz
  obtain ⟨cl4, Ar4, Sz4, Hs4⟩ := (id CB)
  refine Goes.via (S' := s₁.setTop (mkF m 95 #[Vr ca, Vi si, Vr (ca), Vi t, Vi 3, Vi 1, Vu, Vu] [(.int (t + (1 : Int32))), (.ref (ca)), (.int (C (s1 + 1)))])) (fun tz kz => ?_) ?_
  ·refine X0.caload hx (j := (si + (1 : Int32))) (v := (.int (C (s1 + 1)))) (by rw [e0]; exact Ar4.1) (State.isArrayOf_alike hZ.alike Ar4.2.1) Ar4.2.2 (own_in Sz4 (ha.add own_I1 (by omega)) (by omega)) (own_at Hs4 (ha.add own_I1 (by omega)) (by omega)) (g := (mkF m 89 #[Vr ca, Vi si, Vr (ca), Vi t, Vi 3, Vi 1, Vu, Vu] [(.int (si + (1 : Int32))), (.ref ca)])) rfl rfl (hb hby d37_89) _ ?_
   refine XS.aloadN X0.here hx rfl (hb hby d37_90) rfl rfl ?_
   refine XS.iloadN X0.here hx rfl (hb hby d37_91) rfl ?_
   refine XS.iload X0.here hx rfl (hb hby d37_92) rfl ?_
   refine XS.iadd X0.here hx rfl (hb hby d37_94) rfl ?_
   exact kz
  obtain ⟨cl5, Ar5, Sz5, Hs5⟩ := (id CB)
  refine Goes.via (S' := s₁.setTop (mkF m 96 #[Vr ca, Vi si, Vr (ca), Vi t, Vi 3, Vi 1, Vu, Vu] [(.int (C (t1 + 1))), (.int (C (s1 + 1)))])) (fun tz kz => ?_) ?_
  ·refine X0.caload hx (j := (t + (1 : Int32))) (v := (.int (C (t1 + 1)))) (by rw [e0]; exact Ar5.1) (State.isArrayOf_alike hZ.alike Ar5.2.1) Ar5.2.2 (own_in Sz5 (hbd.add own_I1 (by omega)) (by omega)) (own_at Hs5 (hbd.add own_I1 (by omega)) (by omega)) (g := (mkF m 95 #[Vr ca, Vi si, Vr (ca), Vi t, Vi 3, Vi 1, Vu, Vu] [(.int (t + (1 : Int32))), (.ref (ca)), (.int (C (s1 + 1)))])) rfl rfl (hb hby d37_95) _ ?_
   exact kz
  by_cases hc96_6 : (C (s1 + 1)) = (C (t1 + 1))
  ·refine Goes.via (S' := s₁.setTop (mkF m 89 #[Vr ca, Vi si, Vr (ca), Vi t, Vi 3, Vi 2, Vu, Vu] [(.int (si + (2 : Int32))), (.ref ca)])) (fun tz kz => ?_) ?_
   ·refine XS.icmpYes X0.here hx rfl (pc0 := 96) (pc' := 102) rfl (hb hby d37_96) rfl (teq hc96_6).1 (by decide) (by decide) ?_
    refine XS.iinc X0.here hx rfl (hb hby d37_102) rfl (l' := #[Vr ca, Vi si, Vr (ca), Vi t, Vi 3, Vi 2, Vu, Vu]) rfl ?_
    refine XS.goto X0.here hx rfl (pc0 := 105) (pc' := 77) rfl (hb hby d37_105) (by decide) (by decide) ?_
    refine XS.iload X0.here hx rfl (hb hby d37_77) rfl ?_
    refine XS.iload X0.here hx rfl (hb hby d37_79) rfl ?_
    refine XS.icmpNo X0.here hx rfl (hb hby d37_81) rfl (tlt (by first | decide | rfl)).2.1 ?_
    refine XS.aloadN X0.here hx rfl (hb hby d37_84) rfl rfl ?_
    refine XS.iloadN X0.here hx rfl (hb hby d37_85) rfl ?_
    refine XS.iload X0.here hx rfl (hb hby d37_86) rfl ?_
    refine XS.iadd X0.here hx rfl (hb hby d37_88) rfl ?_
    exact kz
   obtain ⟨cl7, Ar7, Sz7, Hs7⟩ := (id CB)
   refine Goes.via (S' := s₁.setTop (mkF m 95 #[Vr ca, Vi si, Vr (ca), Vi t, Vi 3, Vi 2, Vu, Vu] [(.int (t + (2 : Int32))), (.ref (ca)), (.int (C (s1 + 2)))])) (fun tz kz => ?_) ?_
   ·refine X0.caload hx (j := (si + (2 : Int32))) (v := (.int (C (s1 + 2)))) (by rw [e0]; exact Ar7.1) (State.isArrayOf_alike hZ.alike Ar7.2.1) Ar7.2.2 (own_in Sz7 (ha.add own_I2 (by omega)) (by omega)) (own_at Hs7 (ha.add own_I2 (by omega)) (by omega)) (g := (mkF m 89 #[Vr ca, Vi si, Vr (ca), Vi t, Vi 3, Vi 2, Vu, Vu] [(.int (si + (2 : Int32))), (.ref ca)])) rfl rfl (hb hby d37_89) _ ?_
    refine XS.aloadN X0.here hx rfl (hb hby d37_90) rfl rfl ?_
    refine XS.iloadN X0.here hx rfl (hb hby d37_91) rfl ?_
    refine XS.iload X0.here hx rfl (hb hby d37_92) rfl ?_
    refine XS.iadd X0.here hx rfl (hb hby d37_94) rfl ?_
    exact kz
   obtain ⟨cl8, Ar8, Sz8, Hs8⟩ := (id CB)
   refine Goes.via (S' := s₁.setTop (mkF m 96 #[Vr ca, Vi si, Vr (ca), Vi t, Vi 3, Vi 2, Vu, Vu] [(.int (C (t1 + 2))), (.int (C (s1 + 2)))])) (fun tz kz => ?_) ?_
   ·refine X0.caload hx (j := (t + (2 : Int32))) (v := (.int (C (t1 + 2)))) (by rw [e0]; exact Ar8.1) (State.isArrayOf_alike hZ.alike Ar8.2.1) Ar8.2.2 (own_in Sz8 (hbd.add own_I2 (by omega)) (by omega)) (own_at Hs8 (hbd.add own_I2 (by omega)) (by omega)) (g := (mkF m 95 #[Vr ca, Vi si, Vr (ca), Vi t, Vi 3, Vi 2, Vu, Vu] [(.int (t + (2 : Int32))), (.ref (ca)), (.int (C (s1 + 2)))])) rfl rfl (hb hby d37_95) _ ?_
    exact kz
   by_cases hc96_9 : (C (s1 + 2)) = (C (t1 + 2))
   ·refine Goes.via (S' := s₁.setTop (mkF m 109 #[Vr ca, Vi si, Vr (ca), Vi t, Vi 3, Vi 3, Vu, Vu] [(.int (-1))])) (fun tz kz => ?_) ?_
    ·refine XS.icmpYes X0.here hx rfl (pc0 := 96) (pc' := 102) rfl (hb hby d37_96) rfl (teq hc96_9).1 (by decide) (by decide) ?_
     refine XS.iinc X0.here hx rfl (hb hby d37_102) rfl (l' := #[Vr ca, Vi si, Vr (ca), Vi t, Vi 3, Vi 3, Vu, Vu]) rfl ?_
     refine XS.goto X0.here hx rfl (pc0 := 105) (pc' := 77) rfl (hb hby d37_105) (by decide) (by decide) ?_
     refine XS.iload X0.here hx rfl (hb hby d37_77) rfl ?_
     refine XS.iload X0.here hx rfl (hb hby d37_79) rfl ?_
     refine XS.icmpYes X0.here hx rfl (pc0 := 81) (pc' := 108) rfl (hb hby d37_81) rfl (flt (by first | decide | rfl)).2.1 (by decide) (by decide) ?_
     refine XS.iconst X0.here hx rfl (hb hby d37_108) ?_
     exact kz
    exact Goes.retI X0 hx Bd.notSynchronized Bd.returns (hb hby d37_109) (nb_ rfl) (nb_ rfl) ⟨(-1 : Int32), rfl, N0, e0, Or.inl ⟨rfl, (own_a3 (P := fun i => C (s1 + i) = C (t1 + i)) hc96_3 hc96_6 hc96_9)⟩⟩
   ·refine Goes.via (S' := s₁.setTop (mkF m 101 #[Vr ca, Vi si, Vr (ca), Vi t, Vi 3, Vi 2, Vu, Vu] [(.int 2)])) (fun tz kz => ?_) ?_
    ·refine XS.icmpNo X0.here hx rfl (hb hby d37_96) rfl (feq hc96_9).1 ?_
     refine XS.iload X0.here hx rfl (hb hby d37_99) rfl ?_
     exact kz
    exact Goes.retI X0 hx Bd.notSynchronized Bd.returns (hb hby d37_101) (nb_ rfl) (nb_ rfl) ⟨(2 : Int32), rfl, N0, e0, Or.inr ⟨2, by decide, own_I2, (own_a2 (P := fun i => C (s1 + i) = C (t1 + i)) hc96_3 hc96_6), hc96_9⟩⟩
  ·refine Goes.via (S' := s₁.setTop (mkF m 101 #[Vr ca, Vi si, Vr (ca), Vi t, Vi 3, Vi 1, Vu, Vu] [(.int 1)])) (fun tz kz => ?_) ?_
   ·refine XS.icmpNo X0.here hx rfl (hb hby d37_96) rfl (feq hc96_6).1 ?_
    refine XS.iload X0.here hx rfl (hb hby d37_99) rfl ?_
    exact kz
   exact Goes.retI X0 hx Bd.notSynchronized Bd.returns (hb hby d37_101) (nb_ rfl) (nb_ rfl) ⟨(1 : Int32), rfl, N0, e0, Or.inr ⟨1, by decide, own_I1, (own_a1 (P := fun i => C (s1 + i) = C (t1 + i)) hc96_3), hc96_6⟩⟩
 ·refine Goes.via (S' := s₁.setTop (mkF m 101 #[Vr ca, Vi si, Vr (ca), Vi t, Vi 3, Vi 0, Vu, Vu] [(.int 0)])) (fun tz kz => ?_) ?_
  ·refine XS.icmpNo X0.here hx rfl (hb hby d37_96) rfl (feq hc96_3).1 ?_
   refine XS.iload X0.here hx rfl (hb hby d37_99) rfl ?_
   exact kz
  exact Goes.retI X0 hx Bd.notSynchronized Bd.returns (hb hby d37_101) (nb_ rfl) (nb_ rfl) ⟨(0 : Int32), rfl, N0, e0, Or.inr ⟨0, by decide, own_I0, (fun i hi => absurd hi (Nat.not_lt_zero i)), hc96_3⟩⟩
def Q_rmm (Z : State) (C : Nat → Int32) (s1 t1 kN : Nat) (h0 : Heap) (n0 : Nat) : Option Value → Heap → List Loc → Prop := fun v h L => ∃ r, v = some (.int r) ∧ Fr n0 L ∧ h = h0 ∧ own_mm C s1 t1 kN r
theorem rmm (l : Launch) (Z : State) (a0 : Array Value) (hw : ∀ d ∈ tables_1, d.before a0 Z = true) (ws : List Jvm.Cond) (ca : Addr) (si t kI : Int32) (C : Nat → Int32) (s1 t1 kN : Nat) (h0 : Heap) (n0 : Nat) (Z0 : n0 ≤ h0.size) (CB : own_B Z h0 ca .char 64 C) (ha : own_I si s1) (hbd : own_I t t1) (la : s1 ≤ 60) (lb : t1 ≤ 60) (hk : own_I kI kN) (k3 : kN ≤ 3) :
  own_M l Z n_10 (Jvm.Cond.code n_10 jdk_48_method_16_code 8 (some .int)) ws (Rm 0 0 0 0) #[(.ref ca), (.int si), (.ref ca), (.int t), (.int kI)] h0 (Q_rmm Z C s1 t1 kN h0 n0) := by
 have kz : kN = 0 ∨ kN = 1 ∨ kN = 2 ∨ kN = 3 := by omega
 rcases kz with rfl | rfl | rfl | rfl
 ·obtain rfl := hk.inj own_I0; exact rmm_0 l Z a0 hw ws ca si t C s1 t1 h0 n0 Z0 CB ha hbd la lb
 ·obtain rfl := hk.inj own_I1; exact rmm_1 l Z a0 hw ws ca si t C s1 t1 h0 n0 Z0 CB ha hbd la lb
 ·obtain rfl := hk.inj own_I2; exact rmm_2 l Z a0 hw ws ca si t C s1 t1 h0 n0 Z0 CB ha hbd la lb
 ·obtain rfl := hk.inj own_I3; exact rmm_3 l Z a0 hw ws ca si t C s1 t1 h0 n0 Z0 CB ha hbd la lb
theorem own_kL {C : Nat → Int32} {s t a b : Nat} {x y : Int32} (cr : own_cr C) (ha : a ≤ 3) (hb : b ≤ 3) (hA : own_I x a) (hB : own_I y b) (eq : ∀ i, i < min a b → C (s + i) = C (t + i)) : ((x - y) < (0 : Int32) ↔ own_kn C s a < own_kn C t b) ∧ ((x - y) = (0 : Int32) ↔ own_kn C s a = own_kn C t b) := by
 have z0 : (0 : Int32).toInt = 0 := by decide
 obtain ⟨p, q⟩ := own_kA cr ha hb eq
 rw [← p, ← q]
 unfold own_I at hA hB
 have d := c_isub x y; have d' := rng32 (x - y)
 constructor
 ·rw [Int32.lt_iff_toInt_lt, z0]; omega
 ·rw [← Int32.toInt_inj, z0]; omega
theorem d35_0 : De c_35 0 (.aload_n 0) 1 := by decide +kernel
theorem d35_1 : De c_35 1 .arraylength 1 := by decide +kernel
theorem d35_2 : De c_35 2 (.iload_n 1) 1 := by decide +kernel
theorem d35_3 : De c_35 3 (.iload_n 2) 1 := by decide +kernel
theorem d35_4 : De c_35 4 (.invokestatic 13) 3 := by decide +kernel
theorem d35_7 : De c_35 7 (.aload_n 3) 1 := by decide +kernel
theorem d35_8 : De c_35 8 .arraylength 1 := by decide +kernel
theorem d35_9 : De c_35 9 (.iload 4) 2 := by decide +kernel
theorem d35_11 : De c_35 11 (.iload 5) 2 := by decide +kernel
theorem d35_13 : De c_35 13 (.invokestatic 13) 3 := by decide +kernel
theorem d35_16 : De c_35 16 (.iload_n 2) 1 := by decide +kernel
theorem d35_17 : De c_35 17 (.iload_n 1) 1 := by decide +kernel
theorem d35_18 : De c_35 18 .isub 1 := by decide +kernel
theorem d35_19 : De c_35 19 (.istore 6) 2 := by decide +kernel
theorem d35_21 : De c_35 21 (.iload 5) 2 := by decide +kernel
theorem d35_23 : De c_35 23 (.iload 4) 2 := by decide +kernel
theorem d35_25 : De c_35 25 .isub 1 := by decide +kernel
theorem d35_26 : De c_35 26 (.istore 7) 2 := by decide +kernel
theorem d35_28 : De c_35 28 (.aload_n 0) 1 := by decide +kernel
theorem d35_29 : De c_35 29 (.iload_n 1) 1 := by decide +kernel
theorem d35_30 : De c_35 30 (.aload_n 3) 1 := by decide +kernel
theorem d35_31 : De c_35 31 (.iload 4) 2 := by decide +kernel
theorem d35_33 : De c_35 33 (.iload 6) 2 := by decide +kernel
theorem d35_35 : De c_35 35 (.iload 7) 2 := by decide +kernel
theorem d35_37 : De c_35 37 (.invokestatic 304) 3 := by decide +kernel
theorem d35_40 : De c_35 40 (.invokestatic 269) 3 := by decide +kernel
theorem d35_43 : De c_35 43 (.istore 8) 2 := by decide +kernel
theorem d35_45 : De c_35 45 (.iload 8) 2 := by decide +kernel
theorem d35_47 : De c_35 47 (.ifCond .lt 20) 3 := by decide +kernel
theorem d35_50 : De c_35 50 (.aload_n 0) 1 := by decide +kernel
theorem d35_51 : De c_35 51 (.iload_n 1) 1 := by decide +kernel
theorem d35_52 : De c_35 52 (.iload 8) 2 := by decide +kernel
theorem d35_54 : De c_35 54 .iadd 1 := by decide +kernel
theorem d35_55 : De c_35 55 .caload 1 := by decide +kernel
theorem d35_56 : De c_35 56 (.aload_n 3) 1 := by decide +kernel
theorem d35_57 : De c_35 57 (.iload 4) 2 := by decide +kernel
theorem d35_59 : De c_35 59 (.iload 8) 2 := by decide +kernel
theorem d35_61 : De c_35 61 .iadd 1 := by decide +kernel
theorem d35_62 : De c_35 62 .caload 1 := by decide +kernel
theorem d35_63 : De c_35 63 (.invokestatic 694) 3 := by decide +kernel
theorem d35_66 : De c_35 66 .ireturn 1 := by decide +kernel
theorem d35_67 : De c_35 67 (.iload 6) 2 := by decide +kernel
theorem d35_69 : De c_35 69 (.iload 7) 2 := by decide +kernel
theorem d35_71 : De c_35 71 .isub 1 := by decide +kernel
theorem d35_72 : De c_35 72 .ireturn 1 := by decide +kernel
theorem pn_35 : plainName "java/util/Arrays" = true := by first | (simp [plainName, overriddenIn]; done) | decide +kernel
theorem ef_35 (m : MethodId) (x0 : Addr) (x1 : Int32) (x2 : Int32) (x3 : Addr) (x4 : Int32) (x5 : Int32) : entryFrame m #[(.ref x0), (.int x1), (.int x2), (.ref x3), (.int x4), (.int x5)] 9 = mkF m 0 #[Vr x0, Vi x1, Vi x2, Vr x3, Vi x4, Vi x5, Vu, Vu, Vu] [] := by first | rfl | simp [entryFrame, mkF, argsToLocals, Value.category]
def Q_rcm (Z : State) (ca : Addr) (si : Int32) (ei : Int32) (t : Int32) (u : Int32) (C : Nat → Int32) (s1 t1 aN bN : Nat) (h0 : Heap) (n0 : Nat) : Option Value → Heap → List Loc → Prop := fun v h L => ∃ r, v = some (.int r) ∧ Fr n0 L ∧ h = h0 ∧ (r < (0 : Int32) ↔ (own_kn C s1 aN) < (own_kn C t1 bN)) ∧ (r = (0 : Int32) ↔ (own_kn C s1 aN) = (own_kn C t1 bN))
theorem rcm (l : Launch) (Z : State) (a0 : Array Value) (hw : ∀ d ∈ tables_1, d.before a0 Z = true) (ws : List Jvm.Cond) (ca : Addr) (si : Int32) (ei : Int32) (t : Int32) (u : Int32) (C : Nat → Int32) (s1 t1 aN bN : Nat) (h0 : Heap) (n0 : Nat) (Z0 : n0 ≤ h0.size) (CB : own_B Z h0 ca .char 64 C) (ha : own_I si s1) (hbd : own_I t t1) (la : s1 ≤ 60) (lb : t1 ≤ 60) (he : own_I ei (s1 + aN)) (hu : own_I u (t1 + bN)) (a3 : aN ≤ 3) (b3 : bN ≤ 3) (la2 : s1 + aN ≤ 60) (lb2 : t1 + bN ≤ 60) (cr : own_cr C) :
  own_M l Z n_11 (Jvm.Cond.code n_11 jdk_65_method_208_code 9 (some .int)) ws (Rm 1 0 0 24) #[(.ref ca), (.int si), (.int ei), (.ref (ca)), (.int t), (.int u)] h0 (Q_rcm Z ca si ei t u C s1 t1 aN bN h0 n0) := by
 refine MetFree.of_bodySF (plainFor_of_name pn_35) hisR ?_
 intro p e s m args below meth c s₁ Bd hml0 hP hK
 obtain ⟨rfl, hZ, hh⟩ := hP
 have hx := Bd.exec
 have hby := Bd.bytes
 have hml : c.maxLocals = 9 := hml0
 have hown : s.vm.findClass "java/util/Arrays" = some m.cls := findClass_of_methodNamed Bd.named
 have hnm := (name_of_methodNamed Bd.named Bd.method).1
 have X0 : Stand p l e (Rm 1 0 0 24) s m #[(.ref ca), (.int si), (.int ei), (.ref (ca)), (.int t), (.int u)] below meth c s₁ [] 0 0 := Stand.of_body Bd
 have e0 : s₁.heap = h0 := by rw [← hh, Bd.state]; rfl
 have N0 := Fr.nil n0
 have hA : own_I (ei - si) aN := by have z := he.sub ha (by omega); rwa [Nat.add_sub_cancel_left] at z
 have hB : own_I (u - t) bN := by have z := hu.sub hbd (by omega); rwa [Nat.add_sub_cancel_left] at z
 show Goes p e below (Fin s (Q_rcm Z ca si ei t u C s1 t1 aN bN h0 n0) (Rm 1 0 0 24).cells (Rm 1 0 0 24).slots) _
 refine Goes.via (S' := s₁.setTop (mkF m 0 #[Vr ca, Vi si, Vi ei, Vr (ca), Vi t, Vi u, Vu, Vu, Vu] [])) (fun tz kz => castTop (ef_35 m ca si ei (ca) t u ) kz) ?_
 refine Goes.via (S' := s₁.setTop (mkF m 1 #[Vr ca, Vi si, Vi ei, Vr (ca), Vi t, Vi u, Vu, Vu, Vu] [(.ref ca)])) (fun tz kz => ?_) ?_
 ·refine XS.aloadN X0.here hx rfl (hb hby d35_0) rfl rfl ?_
  exact kz
 obtain ⟨cl1, Ar1, Sz1, Hs1⟩ := (id CB)
 refine Goes.via (S' := s₁.setTop (mkF m 4 #[Vr ca, Vi si, Vi ei, Vr (ca), Vi t, Vi u, Vu, Vu, Vu] [(.int ei), (.int si), (.int 64)])) (fun tz kz => ?_) ?_
 ·refine X0.arraylength hx (by rw [e0]; exact Ar1.1) (State.isArrayOf_alike hZ.alike Ar1.2.1) (g := (mkF m 1 #[Vr ca, Vi si, Vi ei, Vr (ca), Vi t, Vi u, Vu, Vu, Vu] [(.ref ca)])) rfl rfl (hb hby d35_1) _ ?_
  rw [own_l64 Sz1]
  refine XS.iloadN X0.here hx rfl (hb hby d35_2) rfl ?_
  refine XS.iloadN X0.here hx rfl (hb hby d35_3) rfl ?_
  exact kz
 obtain ⟨_, _, ⟨T2, L2, k2, n2⟩, -, X2, ⟨Lc2, hQ2, l2, y2, z2⟩, st2⟩ := Jvm.LawKit.callS X0 hx (y := n_7) hown (mvT hZ (w_ hw 172 rfl)) (mvT hZ (w_ hw 173 rfl)) (mvT hZ (w_ hw 170 rfl)) (mvT hZ (w_ hw 174 rfl)) (by decide) (backOf (W := 0) (rrc l Z a0 hw [] (64 : Int32) si ei h0 n0 Z0 (own_nlt he ha (by omega)) ha.nn (own_nlt own_I64 he (by omega))) hZ (w_ hw 174 rfl) (w_ hw 170 rfl) (by decide) (by decide)) (g := (mkF m 4 #[Vr ca, Vi si, Vi ei, Vr (ca), Vi t, Vi u, Vu, Vu, Vu] [(.int ei), (.int si), (.int 64)])) rfl (by rw [hml]; rfl) (argsL := [(.int 64), (.int si), (.int ei)]) (rest := []) (lenOf pd_2 rfl) rfl (ww_ rfl rfl) (hb hby d35_4) (fun _ _ => ⟨rfl, e0, (by decide : 0 + 0 ≤ _), (by decide : 0 + 0 ≤ _)⟩)
 dsimp only [Pt.U, Pt.locs, Pt.cells, Pt.slots] at X2 l2 y2 z2 st2 hQ2
 subst l2 y2 z2
 obtain ⟨rfl, N2, e2⟩ := hQ2
 have Nf2 := Fr.app N0 N2
 refine Goes.via (st2) ?_
 refine Goes.via (S' := T2.setTop (mkF m 8 #[Vr ca, Vi si, Vi ei, Vr (ca), Vi t, Vi u, Vu, Vu, Vu] [(.ref (ca))])) (fun tz kz => ?_) ?_
 ·refine XS.aloadN X2.here hx rfl (hb hby d35_7) rfl rfl ?_
  exact kz
 obtain ⟨cl3, Ar3, Sz3, Hs3⟩ := (id CB)
 refine Goes.via (S' := T2.setTop (mkF m 13 #[Vr ca, Vi si, Vi ei, Vr (ca), Vi t, Vi u, Vu, Vu, Vu] [(.int u), (.int t), (.int 64)])) (fun tz kz => ?_) ?_
 ·refine X2.arraylength hx (by rw [e2]; exact Ar3.1) (State.isArrayOf_alike hZ.alike Ar3.2.1) (g := (mkF m 8 #[Vr ca, Vi si, Vi ei, Vr (ca), Vi t, Vi u, Vu, Vu, Vu] [(.ref (ca))])) rfl rfl (hb hby d35_8) _ ?_
  rw [own_l64 Sz3]
  refine XS.iload X2.here hx rfl (hb hby d35_9) rfl ?_
  refine XS.iload X2.here hx rfl (hb hby d35_11) rfl ?_
  exact kz
 obtain ⟨_, _, ⟨T4, L4, k4, n4⟩, -, X4, ⟨Lc4, hQ4, l4, y4, z4⟩, st4⟩ := Jvm.LawKit.callS X2 hx (y := n_7) hown (mvT hZ (w_ hw 172 rfl)) (mvT hZ (w_ hw 173 rfl)) (mvT hZ (w_ hw 170 rfl)) (mvT hZ (w_ hw 174 rfl)) (by decide) (backOf (W := 0) (rrc l Z a0 hw [] (64 : Int32) t u h0 n0 Z0 (own_nlt hu hbd (by omega)) hbd.nn (own_nlt own_I64 hu (by omega))) hZ (w_ hw 174 rfl) (w_ hw 170 rfl) (by decide) (by decide)) (g := (mkF m 13 #[Vr ca, Vi si, Vi ei, Vr (ca), Vi t, Vi u, Vu, Vu, Vu] [(.int u), (.int t), (.int 64)])) rfl (by rw [hml]; rfl) (argsL := [(.int 64), (.int t), (.int u)]) (rest := []) (lenOf pd_2 rfl) rfl (ww_ rfl rfl) (hb hby d35_13) (fun _ _ => ⟨rfl, e2, (by decide : 0 + 0 ≤ _), (by decide : 0 + 0 ≤ _)⟩)
 dsimp only [Pt.U, Pt.locs, Pt.cells, Pt.slots] at X4 l4 y4 z4 st4 hQ4
 subst l4 y4 z4
 obtain ⟨rfl, N4, e4⟩ := hQ4
 have Nf4 := Fr.app Nf2 N4
 refine Goes.via (st4) ?_
 refine Goes.via (S' := T4.setTop (mkF m 37 #[Vr ca, Vi si, Vi ei, Vr (ca), Vi t, Vi u, Vi (ei - si), Vi (u - t), Vu] [(.int (u - t)), (.int (ei - si)), (.int t), (.ref (ca)), (.int si), (.ref ca)])) (fun tz kz => ?_) ?_
 ·refine XS.iloadN X4.here hx rfl (hb hby d35_16) rfl ?_
  refine XS.iloadN X4.here hx rfl (hb hby d35_17) rfl ?_
  refine XS.isub X4.here hx rfl (hb hby d35_18) rfl ?_
  refine XS.istore X4.here hx rfl (hb hby d35_19) rfl (l' := #[Vr ca, Vi si, Vi ei, Vr (ca), Vi t, Vi u, Vi (ei - si), Vu, Vu]) rfl ?_
  refine XS.iload X4.here hx rfl (hb hby d35_21) rfl ?_
  refine XS.iload X4.here hx rfl (hb hby d35_23) rfl ?_
  refine XS.isub X4.here hx rfl (hb hby d35_25) rfl ?_
  refine XS.istore X4.here hx rfl (hb hby d35_26) rfl (l' := #[Vr ca, Vi si, Vi ei, Vr (ca), Vi t, Vi u, Vi (ei - si), Vi (u - t), Vu]) rfl ?_
  refine XS.aloadN X4.here hx rfl (hb hby d35_28) rfl rfl ?_
  refine XS.iloadN X4.here hx rfl (hb hby d35_29) rfl ?_
  refine XS.aloadN X4.here hx rfl (hb hby d35_30) rfl rfl ?_
  refine XS.iload X4.here hx rfl (hb hby d35_31) rfl ?_
  show Steps p.tables e below (T4.setTop (mkF m 33 #[Vr ca, Vi si, Vi ei, Vr (ca), Vi t, Vi u, Vi (ei - si), Vi (u - t), Vu] [(.int t), (.ref (ca)), (.int si), (.ref ca)])) _
  refine XS.iload X4.here hx rfl (hb hby d35_33) rfl ?_
  refine XS.iload X4.here hx rfl (hb hby d35_35) rfl ?_
  exact kz
 obtain ⟨_, _, ⟨T5, L5, k5, n5⟩, -, X5, ⟨Lc5, hQ5, l5, y5, z5⟩, st5⟩ := Jvm.LawKit.callS X4 hx (y := n_9) hown (mvT hZ (w_ hw 175 rfl)) (mvT hZ (w_ hw 53 rfl)) (mvT hZ (w_ hw 54 rfl)) (mvT hZ (w_ hw 55 rfl)) (by decide) (backOf (W := 4) (rmi l Z a0 hw [] (ei - si) (u - t) h0 n0 Z0) hZ (w_ hw 55 rfl) (w_ hw 54 rfl) (by decide) (by decide)) (g := (mkF m 37 #[Vr ca, Vi si, Vi ei, Vr (ca), Vi t, Vi u, Vi (ei - si), Vi (u - t), Vu] [(.int (u - t)), (.int (ei - si)), (.int t), (.ref (ca)), (.int si), (.ref ca)])) rfl (by rw [hml]; rfl) (argsL := [(.int (ei - si)), (.int (u - t))]) (rest := [(.int t), (.ref (ca)), (.int si), (.ref ca)]) (lenOf pd_1 rfl) rfl (ww_ rfl rfl) (hb hby d35_37) (fun _ _ => ⟨rfl, e4, (by decide : 0 + 0 ≤ _), (by decide : 0 + 0 ≤ _)⟩)
 dsimp only [Pt.U, Pt.locs, Pt.cells, Pt.slots] at X5 l5 y5 z5 st5 hQ5
 subst l5 y5 z5
 obtain ⟨rfl, N5, e5⟩ := hQ5
 have Nf5 := Fr.app Nf4 N5
 refine Goes.via (st5) ?_
 obtain ⟨_, _, ⟨T6, L6, k6, n6⟩, -, X6, ⟨Lc6, hQ6, l6, y6, z6⟩, st6⟩ := Jvm.LawKit.callS X5 hx (y := n_10) hown (mvT hZ (w_ hw 176 rfl)) (mvT hZ (w_ hw 177 rfl)) (mvT hZ (w_ hw 178 rfl)) (mvT hZ (w_ hw 179 rfl)) (by decide) (backOf (W := 0) (rmm l Z a0 hw [] ca si t (own_mi (ei - si) (u - t)) C s1 t1 (min aN bN) h0 n0 Z0 CB ha hbd la lb (own_miI hA hB) (by omega)) hZ (w_ hw 179 rfl) (w_ hw 178 rfl) (by decide) (by decide)) (g := (mkF m 40 #[Vr ca, Vi si, Vi ei, Vr (ca), Vi t, Vi u, Vi (ei - si), Vi (u - t), Vu] [(.int (own_mi (ei - si) (u - t))), (.int t), (.ref (ca)), (.int si), (.ref ca)])) rfl (by rw [hml]; rfl) (argsL := [(.ref ca), (.int si), (.ref (ca)), (.int t), (.int (own_mi (ei - si) (u - t)))]) (rest := []) (lenOf pd_3 rfl) rfl (ww_ rfl rfl) (hb hby d35_40) (fun _ _ => ⟨rfl, e5, (by decide : 0 + 0 ≤ _), (by decide : 0 + 0 ≤ _)⟩)
 dsimp only [Pt.U, Pt.locs, Pt.cells, Pt.slots] at X6 l6 y6 z6 st6 hQ6
 subst l6 y6 z6
 obtain ⟨rr, rfl, N6, e6, dd⟩ := hQ6
 have Nf6 := Fr.app Nf5 N6
 refine Goes.via (st6) ?_
 refine Goes.via (S' := T6.setTop (mkF m 47 #[Vr ca, Vi si, Vi ei, Vr (ca), Vi t, Vi u, Vi (ei - si), Vi (u - t), Vi rr] [(.int rr)])) (fun tz kz => ?_) ?_
 ·refine XS.istore X6.here hx rfl (hb hby d35_43) rfl (l' := #[Vr ca, Vi si, Vi ei, Vr (ca), Vi t, Vi u, Vi (ei - si), Vi (u - t), Vi rr]) rfl ?_
  refine XS.iload X6.here hx rfl (hb hby d35_45) rfl ?_
  exact kz
 by_cases hc47_7 : rr < (0 : Int32)
 ·refine Goes.via (S' := T6.setTop (mkF m 72 #[Vr ca, Vi si, Vi ei, Vr (ca), Vi t, Vi u, Vi (ei - si), Vi (u - t), Vi rr] [(.int ((ei - si) - (u - t)))])) (fun tz kz => ?_) ?_
  ·refine XS.ifYes X6.here hx rfl (pc0 := 47) (pc' := 67) rfl (hb hby d35_47) rfl ((if0 _ _).trans (tlt hc47_7).1) (by decide) (by decide) ?_
   refine XS.iload X6.here hx rfl (hb hby d35_67) rfl ?_
   refine XS.iload X6.here hx rfl (hb hby d35_69) rfl ?_
   refine XS.isub X6.here hx rfl (hb hby d35_71) rfl ?_
   exact kz
  exact Goes.retI X6 hx Bd.notSynchronized Bd.returns (hb hby d35_72) (nb_ rfl) (nb_ rfl) ⟨_, rfl, Nf6, e6, own_kL cr a3 b3 hA hB (dd.lt hc47_7)⟩
 ·refine Goes.via (S' := T6.setTop (mkF m 55 #[Vr ca, Vi si, Vi ei, Vr (ca), Vi t, Vi u, Vi (ei - si), Vi (u - t), Vi rr] [(.int (si + rr)), (.ref ca)])) (fun tz kz => ?_) ?_
  ·refine XS.ifNo X6.here hx rfl (hb hby d35_47) rfl ((if0 _ _).trans (flt hc47_7).1) ?_
   refine XS.aloadN X6.here hx rfl (hb hby d35_50) rfl rfl ?_
   refine XS.iloadN X6.here hx rfl (hb hby d35_51) rfl ?_
   refine XS.iload X6.here hx rfl (hb hby d35_52) rfl ?_
   refine XS.iadd X6.here hx rfl (hb hby d35_54) rfl ?_
   exact kz
  obtain ⟨jN, jl, hj, je, jn⟩ := dd.ge hc47_7
  obtain ⟨cl8, Ar8, Sz8, Hs8⟩ := (id CB)
  refine Goes.via (S' := T6.setTop (mkF m 62 #[Vr ca, Vi si, Vi ei, Vr (ca), Vi t, Vi u, Vi (ei - si), Vi (u - t), Vi rr] [(.int (t + rr)), (.ref (ca)), (.int (C (s1 + jN)))])) (fun tz kz => ?_) ?_
  ·refine X6.caload hx (j := (si + rr)) (v := (.int (C (s1 + jN)))) (by rw [e6]; exact Ar8.1) (State.isArrayOf_alike hZ.alike Ar8.2.1) Ar8.2.2 (own_in Sz8 (ha.add hj (by omega)) (by omega)) (own_at Hs8 (ha.add hj (by omega)) (by omega)) (g := (mkF m 55 #[Vr ca, Vi si, Vi ei, Vr (ca), Vi t, Vi u, Vi (ei - si), Vi (u - t), Vi rr] [(.int (si + rr)), (.ref ca)])) rfl rfl (hb hby d35_55) _ ?_
   refine XS.aloadN X6.here hx rfl (hb hby d35_56) rfl rfl ?_
   refine XS.iload X6.here hx rfl (hb hby d35_57) rfl ?_
   refine XS.iload X6.here hx rfl (hb hby d35_59) rfl ?_
   refine XS.iadd X6.here hx rfl (hb hby d35_61) rfl ?_
   exact kz
  obtain ⟨cl9, Ar9, Sz9, Hs9⟩ := (id CB)
  refine Goes.via (S' := T6.setTop (mkF m 63 #[Vr ca, Vi si, Vi ei, Vr (ca), Vi t, Vi u, Vi (ei - si), Vi (u - t), Vi rr] [(.int (C (t1 + jN))), (.int (C (s1 + jN)))])) (fun tz kz => ?_) ?_
  ·refine X6.caload hx (j := (t + rr)) (v := (.int (C (t1 + jN)))) (by rw [e6]; exact Ar9.1) (State.isArrayOf_alike hZ.alike Ar9.2.1) Ar9.2.2 (own_in Sz9 (hbd.add hj (by omega)) (by omega)) (own_at Hs9 (hbd.add hj (by omega)) (by omega)) (g := (mkF m 62 #[Vr ca, Vi si, Vi ei, Vr (ca), Vi t, Vi u, Vi (ei - si), Vi (u - t), Vi rr] [(.int (t + rr)), (.ref (ca)), (.int (C (s1 + jN)))])) rfl rfl (hb hby d35_62) _ ?_
   exact kz
  obtain ⟨_, _, ⟨T10, L10, k10, n10⟩, -, X10, ⟨Lc10, hQ10, l10, y10, z10⟩, st10⟩ := Jvm.LawKit.callS X6 hx (y := n_8) hown (mvT hZ (w_ hw 191 rfl)) (mvT hZ (w_ hw 192 rfl)) (mvT hZ (w_ hw 193 rfl)) (mvT hZ (w_ hw 194 rfl)) (by decide) (backOf (W := 0) (rcc l Z a0 hw [] (C (s1 + jN)) (C (t1 + jN)) h0 n0 Z0) hZ (w_ hw 194 rfl) (w_ hw 193 rfl) (by decide) (by decide)) (g := (mkF m 63 #[Vr ca, Vi si, Vi ei, Vr (ca), Vi t, Vi u, Vi (ei - si), Vi (u - t), Vi rr] [(.int (C (t1 + jN))), (.int (C (s1 + jN)))])) rfl (by rw [hml]; rfl) (argsL := [(.int (C (s1 + jN))), (.int (C (t1 + jN)))]) (rest := []) (lenOf pd_4 rfl) rfl (ww_ rfl rfl) (hb hby d35_63) (fun _ _ => ⟨rfl, e6, (by decide : 0 + 0 ≤ _), (by decide : 0 + 0 ≤ _)⟩)
  dsimp only [Pt.U, Pt.locs, Pt.cells, Pt.slots] at X10 l10 y10 z10 st10 hQ10
  subst l10 y10 z10
  obtain ⟨rfl, N10, e10⟩ := hQ10
  have Nf10 := Fr.app Nf6 N10
  refine Goes.via (st10) ?_
  exact Goes.retI X10 hx Bd.notSynchronized Bd.returns (hb hby d35_66) (nb_ rfl) (nb_ rfl) ⟨_, rfl, Nf10, e10, own_kB cr a3 b3 jl je jn⟩
theorem d42_0 : De c_42 0 (.aload_n 0) 1 := by decide +kernel
theorem d42_1 : De c_42 1 (.getfield 17) 3 := by decide +kernel
theorem d42_4 : De c_42 4 (.iload_n 1) 1 := by decide +kernel
theorem d42_5 : De c_42 5 .iaload 1 := by decide +kernel
theorem d42_6 : De c_42 6 (.istore_n 2) 1 := by decide +kernel
theorem d42_7 : De c_42 7 (.aload_n 0) 1 := by decide +kernel
theorem d42_8 : De c_42 8 (.getfield 17) 3 := by decide +kernel
theorem d42_11 : De c_42 11 (.iload_n 1) 1 := by decide +kernel
theorem d42_12 : De c_42 12 (.aload_n 0) 1 := by decide +kernel
theorem d42_13 : De c_42 13 (.getfield 20) 3 := by decide +kernel
theorem d42_16 : De c_42 16 (.iload_n 2) 1 := by decide +kernel
theorem d42_17 : De c_42 17 .iaload 1 := by decide +kernel
theorem d42_18 : De c_42 18 .iastore 1 := by decide +kernel
theorem d42_19 : De c_42 19 (.aload_n 0) 1 := by decide +kernel
theorem d42_20 : De c_42 20 (.getfield 20) 3 := by decide +kernel
theorem d42_23 : De c_42 23 (.iload_n 2) 1 := by decide +kernel
theorem d42_24 : De c_42 24 (.iload_n 1) 1 := by decide +kernel
theorem d42_25 : De c_42 25 .iastore 1 := by decide +kernel
theorem d42_26 : De c_42 26 (.aload_n 0) 1 := by decide +kernel
theorem d42_27 : De c_42 27 (.iload_n 1) 1 := by decide +kernel
theorem d42_28 : De c_42 28 (.invokevirtual 95) 3 := by decide +kernel
theorem d42_31 : De c_42 31 (.aload_n 0) 1 := by decide +kernel
theorem d42_32 : De c_42 32 (.iload_n 2) 1 := by decide +kernel
theorem d42_33 : De c_42 33 (.invokevirtual 95) 3 := by decide +kernel
theorem d42_36 : De c_42 36 (.iload_n 2) 1 := by decide +kernel
theorem d42_37 : De c_42 37 .ireturn 1 := by decide +kernel
theorem pn_42 : plainName "com/example/upkeep_window/upkeepwindow/policy/OpenNames" = true := by first | (simp [plainName, overriddenIn]; done) | decide +kernel
theorem ef_42 (m : MethodId) (x0 : Addr) (x1 : Int32) : entryFrame m #[(.ref x0), (.int x1)] 3 = mkF m 0 #[Vr x0, Vi x1, Vu] [] := by first | rfl | simp [entryFrame, mkF, argsToLocals, Value.category]
def Q_rrr (Z : State) (i : Int32) (A : Nat → Addr) (f : Nat → Nat → Int32) (ob nm : Int32) (iN lN : Nat) (h0 : Heap) (n0 : Nat) : Option Value → Heap → List Loc → Prop := fun v h L => v = some (.int (f 3 iN)) ∧ Fr n0 L ∧ Keep h0 h (own_ws A) ∧ own_ON Z n0 h A (own_rot f 3 4 iN lN i) ob nm
theorem rrr (l : Launch) (Z : State) (a0 : Array Value) (hw : ∀ d ∈ tables_1, d.before a0 Z = true) (ws : List Jvm.Cond) (i : Int32) (A : Nat → Addr) (f : Nat → Nat → Int32) (ob nm : Int32) (iN lN : Nat) (h0 : Heap) (n0 : Nat) (Z0 : n0 ≤ h0.size) (P : own_ON Z n0 h0 A f ob nm) (hi : own_I i iN) (hbd : iN < 16) (hl : own_I (f 3 iN) lN) (lb : lN < 16) (ne : iN ≠ lN) (n1 : own_n16 (f 3 lN)) (n2 : own_n16 (f 4 lN)) (n3 : own_n16 (f 4 iN)) :
  own_M l Z n_12 (Jvm.Cond.code n_12 prog_33_method_9_code 3 (some .int)) ws (Rm 2 0 0 40) #[(.ref (A 0)), (.int i)] h0 (Q_rrr Z i A f ob nm iN lN h0 n0) := by
 refine MetFree.of_bodySF (plainFor_of_name pn_42) hisR ?_
 intro p e s m args below meth c s₁ Bd hml0 hP hK
 obtain ⟨rfl, hZ, hh⟩ := hP
 have hx := Bd.exec
 have hby := Bd.bytes
 have hml : c.maxLocals = 3 := hml0
 have hown : s.vm.findClass "com/example/upkeep_window/upkeepwindow/policy/OpenNames" = some m.cls := findClass_of_methodNamed Bd.named
 have hnm := (name_of_methodNamed Bd.named Bd.method).1
 have X0 : Stand p l e (Rm 2 0 0 40) s m #[(.ref (A 0)), (.int i)] below meth c s₁ [] 0 0 := Stand.of_body Bd
 have e0 : s₁.heap = h0 := by rw [← hh, Bd.state]; rfl
 have N0 := Fr.nil n0
 show Goes p e below (Fin s (Q_rrr Z i A f ob nm iN lN h0 n0) (Rm 2 0 0 40).cells (Rm 2 0 0 40).slots) _
 refine Goes.via (S' := s₁.setTop (mkF m 0 #[Vr (A 0), Vi i, Vu] [])) (fun tz kz => castTop (ef_42 m (A 0) i ) kz) ?_
 refine Goes.via (S' := s₁.setTop (mkF m 1 #[Vr (A 0), Vi i, Vu] [(.ref (A 0))])) (fun tz kz => ?_) ?_
 ·refine XS.aloadN X0.here hx rfl (hb hby d42_0) rfl rfl ?_
  exact kz
 obtain ⟨T1, X1, e1, st1⟩ := getF X0 hx hZ hown (host := "") (Or.inl (w_ hw 68 rfl)) Via.refl e0 P.2.2.2.1 (g := (mkF m 1 #[Vr (A 0), Vi i, Vu] [(.ref (A 0))])) rfl rfl (hb hby d42_1)
 refine Goes.via st1 ?_
 refine Goes.via (S' := T1.setTop (mkF m 5 #[Vr (A 0), Vi i, Vu] [(.int i), (.ref (A 3))])) (fun tz kz => ?_) ?_
 ·refine XS.iloadN X1.here hx rfl (hb hby d42_4) rfl ?_
  exact kz
 obtain ⟨cl2, Ar2, Sz2, Hs2⟩ := P.2.2.2.2.2.2.2.2.2.2.2.2.1
 refine Goes.via (S' := T1.setTop (mkF m 8 #[Vr (A 0), Vi i, Vi (f 3 iN)] [(.ref (A 0))])) (fun tz kz => ?_) ?_
 ·refine X1.iaload hx (j := i) (v := (.int (f 3 iN))) (by rw [e1]; exact Ar2.1) (State.isArrayOf_alike hZ.alike Ar2.2.1) Ar2.2.2 (own_in Sz2 hi hbd) (own_at Hs2 hi hbd) (g := (mkF m 5 #[Vr (A 0), Vi i, Vu] [(.int i), (.ref (A 3))])) rfl rfl (hb hby d42_5) _ ?_
  refine XS.istoreN X1.here hx rfl (hb hby d42_6) rfl (l' := #[Vr (A 0), Vi i, Vi (f 3 iN)]) rfl ?_
  refine XS.aloadN X1.here hx rfl (hb hby d42_7) rfl rfl ?_
  exact kz
 obtain ⟨T3, X3, e3, st3⟩ := getF X1 hx hZ hown (host := "") (Or.inl (w_ hw 68 rfl)) Via.refl e1 P.2.2.2.1 (g := (mkF m 8 #[Vr (A 0), Vi i, Vi (f 3 iN)] [(.ref (A 0))])) rfl rfl (hb hby d42_8)
 refine Goes.via st3 ?_
 refine Goes.via (S' := T3.setTop (mkF m 13 #[Vr (A 0), Vi i, Vi (f 3 iN)] [(.ref (A 0)), (.int i), (.ref (A 3))])) (fun tz kz => ?_) ?_
 ·refine XS.iloadN X3.here hx rfl (hb hby d42_11) rfl ?_
  refine XS.aloadN X3.here hx rfl (hb hby d42_12) rfl rfl ?_
  exact kz
 obtain ⟨T4, X4, e4, st4⟩ := getF X3 hx hZ hown (host := "") (Or.inl (w_ hw 70 rfl)) Via.refl e3 P.2.2.2.2.1 (g := (mkF m 13 #[Vr (A 0), Vi i, Vi (f 3 iN)] [(.ref (A 0)), (.int i), (.ref (A 3))])) rfl rfl (hb hby d42_13)
 refine Goes.via st4 ?_
 refine Goes.via (S' := T4.setTop (mkF m 17 #[Vr (A 0), Vi i, Vi (f 3 iN)] [(.int (f 3 iN)), (.ref (A 4)), (.int i), (.ref (A 3))])) (fun tz kz => ?_) ?_
 ·refine XS.iloadN X4.here hx rfl (hb hby d42_16) rfl ?_
  exact kz
 obtain ⟨cl5, Ar5, Sz5, Hs5⟩ := P.2.2.2.2.2.2.2.2.2.2.2.2.2.1
 refine Goes.via (S' := T4.setTop (mkF m 18 #[Vr (A 0), Vi i, Vi (f 3 iN)] [(.int (f 4 lN)), (.int i), (.ref (A 3))])) (fun tz kz => ?_) ?_
 ·refine X4.iaload hx (j := (f 3 iN)) (v := (.int (f 4 lN))) (by rw [e4]; exact Ar5.1) (State.isArrayOf_alike hZ.alike Ar5.2.1) Ar5.2.2 (own_in Sz5 hl lb) (own_at Hs5 hl lb) (g := (mkF m 17 #[Vr (A 0), Vi i, Vi (f 3 iN)] [(.int (f 3 iN)), (.ref (A 4)), (.int i), (.ref (A 3))])) rfl rfl (hb hby d42_17) _ ?_
  exact kz
 obtain ⟨cl6, Ar6, Sz6, Hs6⟩ := P.2.2.2.2.2.2.2.2.2.2.2.2.1
 obtain ⟨T7, h7, X7, e7, W7, st7⟩ := stI X4 hx hZ e4 Ar6 (j := i) (own_in Sz6 hi hbd) (g := (mkF m 18 #[Vr (A 0), Vi i, Vi (f 3 iN)] [(.int (f 4 lN)), (.int i), (.ref (A 3))])) rfl rfl (hb hby d42_18)
 refine Goes.via st7 ?_
 have N7 := Fr.snoc X7 N0 (P.2.2.2.2.2.2.2.2.2.2.2.2.2.2.2.2.2.1 3 (by decide))
 rw [show (i).toNatClampNeg = iN from (hi).nat] at W7
 have P7 := P.w3 W7
 have K7 := (Keep.refl h0 (own_ws A)).wr W7 (Or.inl own_mem3)
 refine Goes.via (S' := T7.setTop (mkF m 20 #[Vr (A 0), Vi i, Vi (f 3 iN)] [(.ref (A 0))])) (fun tz kz => ?_) ?_
 ·refine XS.aloadN X7.here hx rfl (hb hby d42_19) rfl rfl ?_
  exact kz
 obtain ⟨T8, X8, e8, st8⟩ := getF X7 hx hZ hown (host := "") (Or.inl (w_ hw 70 rfl)) Via.refl e7 P7.2.2.2.2.1 (g := (mkF m 20 #[Vr (A 0), Vi i, Vi (f 3 iN)] [(.ref (A 0))])) rfl rfl (hb hby d42_20)
 refine Goes.via st8 ?_
 refine Goes.via (S' := T8.setTop (mkF m 25 #[Vr (A 0), Vi i, Vi (f 3 iN)] [(.int i), (.int (f 3 iN)), (.ref (A 4))])) (fun tz kz => ?_) ?_
 ·refine XS.iloadN X8.here hx rfl (hb hby d42_23) rfl ?_
  refine XS.iloadN X8.here hx rfl (hb hby d42_24) rfl ?_
  exact kz
 obtain ⟨cl9, Ar9, Sz9, Hs9⟩ := P7.2.2.2.2.2.2.2.2.2.2.2.2.2.1
 obtain ⟨T10, h10, X10, e10, W10, st10⟩ := stI X8 hx hZ e8 Ar9 (j := (f 3 iN)) (own_in Sz9 hl lb) (g := (mkF m 25 #[Vr (A 0), Vi i, Vi (f 3 iN)] [(.int i), (.int (f 3 iN)), (.ref (A 4))])) rfl rfl (hb hby d42_25)
 refine Goes.via st10 ?_
 have N10 := Fr.snoc X10 N7 (P7.2.2.2.2.2.2.2.2.2.2.2.2.2.2.2.2.2.1 4 (by decide))
 rw [show ((f 3 iN)).toNatClampNeg = lN from (hl).nat] at W10
 have P10 := P7.w4 W10
 have K10 := K7.wr W10 (Or.inl own_mem4)
 have rn := own_rotn (f := f) (ri := i) (Or.inl ⟨rfl, rfl⟩ : own_pq 3 4) ne hi hbd n1 n2 n3
 refine Goes.via (S' := T10.setTop (mkF m 28 #[Vr (A 0), Vi i, Vi (f 3 iN)] [(.int i), (.ref (A 0))])) (fun tz kz => ?_) ?_
 ·refine XS.aloadN X10.here hx rfl (hb hby d42_26) rfl rfl ?_
  refine XS.iloadN X10.here hx rfl (hb hby d42_27) rfl ?_
  exact kz
 obtain ⟨cq11, q11, q11'⟩ := (P10.1).cell
 obtain ⟨_, _, ⟨T11, L11, k11, n11⟩, -, X11, ⟨Lc11, hQ11, l11, y11, z11⟩, st11⟩ := X10.privateBack hx (y := n_4) hown (mvT hZ (w_ hw 184 rfl)) (mvT hZ (w_ hw 185 rfl)) (sel_private hZ (w_ hw 57 rfl) (w_ hw 186 rfl) (w_ hw 185 rfl) (by decide)) (Cond.privateMethod_at (mvP hZ (w_ hw 186 rfl) (args := #[]))) (mvT hZ (w_ hw 187 rfl)) (by decide) (backOf (W := 0) (rms l Z a0 hw [] i A (own_r2 f 3 4 iN lN i) ob nm iN h10 n0 (Nat.le_trans Z0 K10.1) P10 hi hbd rn.1 rn.2.1) hZ (w_ hw 187 rfl) (w_ hw 58 rfl) (by decide) (by decide)) (g := (mkF m 28 #[Vr (A 0), Vi i, Vi (f 3 iN)] [(.int i), (.ref (A 0))])) rfl (by rw [hml]; rfl) (Steps.refl _) (a := (A 0)) (by rw [e10]; exact q11) q11' (argsL := [(.int i)]) (rest := []) (lenOf pd_5 rfl) rfl (ww_ rfl rfl) (hb hby d42_28) (fun _ _ => ⟨rfl, e10, (by decide : 0 + 0 ≤ _), (by decide : 0 + 0 ≤ _)⟩)
 dsimp only [Pt.U, Pt.locs, Pt.cells, Pt.slots] at X11 l11 y11 z11 st11 hQ11
 subst l11 y11 z11
 obtain ⟨rfl, N11, K11, P11⟩ := hQ11
 have Nf11 := Fr.app N10 N11
 refine Goes.via (fun _ kz => st11.trans kz) ?_
 have J11 := K10.trans K11 (fun _ q => Or.inl q)
 refine Goes.via (S' := T11.setTop (mkF m 33 #[Vr (A 0), Vi i, Vi (f 3 iN)] [(.int (f 3 iN)), (.ref (A 0))])) (fun tz kz => ?_) ?_
 ·refine XS.aloadN X11.here hx rfl (hb hby d42_31) rfl rfl ?_
  refine XS.iloadN X11.here hx rfl (hb hby d42_32) rfl ?_
  exact kz
 obtain ⟨cq12, q12, q12'⟩ := (P11.1).cell
 obtain ⟨_, _, ⟨T12, L12, k12, n12⟩, -, X12, ⟨Lc12, hQ12, l12, y12, z12⟩, st12⟩ := X11.privateBack hx (y := n_4) hown (mvT hZ (w_ hw 184 rfl)) (mvT hZ (w_ hw 185 rfl)) (sel_private hZ (w_ hw 57 rfl) (w_ hw 186 rfl) (w_ hw 185 rfl) (by decide)) (Cond.privateMethod_at (mvP hZ (w_ hw 186 rfl) (args := #[]))) (mvT hZ (w_ hw 187 rfl)) (by decide) (backOf (W := 0) (rms l Z a0 hw [] (f 3 iN) A (own_r3 f 3 4 iN lN i) ob nm lN T11.heap n0 (Nat.le_trans Z0 J11.1) P11 hl lb rn.2.2.1 rn.2.2.2) hZ (w_ hw 187 rfl) (w_ hw 58 rfl) (by decide) (by decide)) (g := (mkF m 33 #[Vr (A 0), Vi i, Vi (f 3 iN)] [(.int (f 3 iN)), (.ref (A 0))])) rfl (by rw [hml]; rfl) (Steps.refl _) (a := (A 0)) (by exact q12) q12' (argsL := [(.int (f 3 iN))]) (rest := []) (lenOf pd_5 rfl) rfl (ww_ rfl rfl) (hb hby d42_33) (fun _ _ => ⟨rfl, rfl, (by decide : 0 + 0 ≤ _), (by decide : 0 + 0 ≤ _)⟩)
 dsimp only [Pt.U, Pt.locs, Pt.cells, Pt.slots] at X12 l12 y12 z12 st12 hQ12
 subst l12 y12 z12
 obtain ⟨rfl, N12, K12, P12⟩ := hQ12
 have Nf12 := Fr.app Nf11 N12
 refine Goes.via (fun _ kz => st12.trans kz) ?_
 have J12 := J11.trans K12 (fun _ q => Or.inl q)
 refine Goes.via (S' := T12.setTop (mkF m 37 #[Vr (A 0), Vi i, Vi (f 3 iN)] [(.int (f 3 iN))])) (fun tz kz => ?_) ?_
 ·refine XS.iloadN X12.here hx rfl (hb hby d42_36) rfl ?_
  exact kz
 exact Goes.retI X12 hx Bd.notSynchronized Bd.returns (hb hby d42_37) (nb_ rfl) (nb_ rfl) ⟨rfl, Nf12, J12, P12⟩
theorem d43_0 : De c_43 0 (.aload_n 0) 1 := by decide +kernel
theorem d43_1 : De c_43 1 (.getfield 20) 3 := by decide +kernel
theorem d43_4 : De c_43 4 (.iload_n 1) 1 := by decide +kernel
theorem d43_5 : De c_43 5 .iaload 1 := by decide +kernel
theorem d43_6 : De c_43 6 (.istore_n 2) 1 := by decide +kernel
theorem d43_7 : De c_43 7 (.aload_n 0) 1 := by decide +kernel
theorem d43_8 : De c_43 8 (.getfield 20) 3 := by decide +kernel
theorem d43_11 : De c_43 11 (.iload_n 1) 1 := by decide +kernel
theorem d43_12 : De c_43 12 (.aload_n 0) 1 := by decide +kernel
theorem d43_13 : De c_43 13 (.getfield 17) 3 := by decide +kernel
theorem d43_16 : De c_43 16 (.iload_n 2) 1 := by decide +kernel
theorem d43_17 : De c_43 17 .iaload 1 := by decide +kernel
theorem d43_18 : De c_43 18 .iastore 1 := by decide +kernel
theorem d43_19 : De c_43 19 (.aload_n 0) 1 := by decide +kernel
theorem d43_20 : De c_43 20 (.getfield 17) 3 := by decide +kernel
theorem d43_23 : De c_43 23 (.iload_n 2) 1 := by decide +kernel
theorem d43_24 : De c_43 24 (.iload_n 1) 1 := by decide +kernel
theorem d43_25 : De c_43 25 .iastore 1 := by decide +kernel
theorem d43_26 : De c_43 26 (.aload_n 0) 1 := by decide +kernel
theorem d43_27 : De c_43 27 (.iload_n 1) 1 := by decide +kernel
theorem d43_28 : De c_43 28 (.invokevirtual 95) 3 := by decide +kernel
theorem d43_31 : De c_43 31 (.aload_n 0) 1 := by decide +kernel
theorem d43_32 : De c_43 32 (.iload_n 2) 1 := by decide +kernel
theorem d43_33 : De c_43 33 (.invokevirtual 95) 3 := by decide +kernel
theorem d43_36 : De c_43 36 (.iload_n 2) 1 := by decide +kernel
theorem d43_37 : De c_43 37 .ireturn 1 := by decide +kernel
theorem pn_43 : plainName "com/example/upkeep_window/upkeepwindow/policy/OpenNames" = true := by first | (simp [plainName, overriddenIn]; done) | decide +kernel
theorem ef_43 (m : MethodId) (x0 : Addr) (x1 : Int32) : entryFrame m #[(.ref x0), (.int x1)] 3 = mkF m 0 #[Vr x0, Vi x1, Vu] [] := by first | rfl | simp [entryFrame, mkF, argsToLocals, Value.category]
def Q_rrl (Z : State) (i : Int32) (A : Nat → Addr) (f : Nat → Nat → Int32) (ob nm : Int32) (iN lN : Nat) (h0 : Heap) (n0 : Nat) : Option Value → Heap → List Loc → Prop := fun v h L => v = some (.int (f 4 iN)) ∧ Fr n0 L ∧ Keep h0 h (own_ws A) ∧ own_ON Z n0 h A (own_rot f 4 3 iN lN i) ob nm
theorem rrl (l : Launch) (Z : State) (a0 : Array Value) (hw : ∀ d ∈ tables_1, d.before a0 Z = true) (ws : List Jvm.Cond) (i : Int32) (A : Nat → Addr) (f : Nat → Nat → Int32) (ob nm : Int32) (iN lN : Nat) (h0 : Heap) (n0 : Nat) (Z0 : n0 ≤ h0.size) (P : own_ON Z n0 h0 A f ob nm) (hi : own_I i iN) (hbd : iN < 16) (hl : own_I (f 4 iN) lN) (lb : lN < 16) (ne : iN ≠ lN) (n1 : own_n16 (f 4 lN)) (n2 : own_n16 (f 3 lN)) (n3 : own_n16 (f 3 iN)) :
  own_M l Z n_13 (Jvm.Cond.code n_13 prog_33_method_10_code 3 (some .int)) ws (Rm 2 0 0 40) #[(.ref (A 0)), (.int i)] h0 (Q_rrl Z i A f ob nm iN lN h0 n0) := by
 refine MetFree.of_bodySF (plainFor_of_name pn_43) hisR ?_
 intro p e s m args below meth c s₁ Bd hml0 hP hK
 obtain ⟨rfl, hZ, hh⟩ := hP
 have hx := Bd.exec
 have hby := Bd.bytes
 have hml : c.maxLocals = 3 := hml0
 have hown : s.vm.findClass "com/example/upkeep_window/upkeepwindow/policy/OpenNames" = some m.cls := findClass_of_methodNamed Bd.named
 have hnm := (name_of_methodNamed Bd.named Bd.method).1
 have X0 : Stand p l e (Rm 2 0 0 40) s m #[(.ref (A 0)), (.int i)] below meth c s₁ [] 0 0 := Stand.of_body Bd
 have e0 : s₁.heap = h0 := by rw [← hh, Bd.state]; rfl
 have N0 := Fr.nil n0
 show Goes p e below (Fin s (Q_rrl Z i A f ob nm iN lN h0 n0) (Rm 2 0 0 40).cells (Rm 2 0 0 40).slots) _
 refine Goes.via (S' := s₁.setTop (mkF m 0 #[Vr (A 0), Vi i, Vu] [])) (fun tz kz => castTop (ef_43 m (A 0) i ) kz) ?_
 refine Goes.via (S' := s₁.setTop (mkF m 1 #[Vr (A 0), Vi i, Vu] [(.ref (A 0))])) (fun tz kz => ?_) ?_
 ·refine XS.aloadN X0.here hx rfl (hb hby d43_0) rfl rfl ?_
  exact kz
 obtain ⟨T1, X1, e1, st1⟩ := getF X0 hx hZ hown (host := "") (Or.inl (w_ hw 70 rfl)) Via.refl e0 P.2.2.2.2.1 (g := (mkF m 1 #[Vr (A 0), Vi i, Vu] [(.ref (A 0))])) rfl rfl (hb hby d43_1)
 refine Goes.via st1 ?_
 refine Goes.via (S' := T1.setTop (mkF m 5 #[Vr (A 0), Vi i, Vu] [(.int i), (.ref (A 4))])) (fun tz kz => ?_) ?_
 ·refine XS.iloadN X1.here hx rfl (hb hby d43_4) rfl ?_
  exact kz
 obtain ⟨cl2, Ar2, Sz2, Hs2⟩ := P.2.2.2.2.2.2.2.2.2.2.2.2.2.1
 refine Goes.via (S' := T1.setTop (mkF m 8 #[Vr (A 0), Vi i, Vi (f 4 iN)] [(.ref (A 0))])) (fun tz kz => ?_) ?_
 ·refine X1.iaload hx (j := i) (v := (.int (f 4 iN))) (by rw [e1]; exact Ar2.1) (State.isArrayOf_alike hZ.alike Ar2.2.1) Ar2.2.2 (own_in Sz2 hi hbd) (own_at Hs2 hi hbd) (g := (mkF m 5 #[Vr (A 0), Vi i, Vu] [(.int i), (.ref (A 4))])) rfl rfl (hb hby d43_5) _ ?_
  refine XS.istoreN X1.here hx rfl (hb hby d43_6) rfl (l' := #[Vr (A 0), Vi i, Vi (f 4 iN)]) rfl ?_
  refine XS.aloadN X1.here hx rfl (hb hby d43_7) rfl rfl ?_
  exact kz
 obtain ⟨T3, X3, e3, st3⟩ := getF X1 hx hZ hown (host := "") (Or.inl (w_ hw 70 rfl)) Via.refl e1 P.2.2.2.2.1 (g := (mkF m 8 #[Vr (A 0), Vi i, Vi (f 4 iN)] [(.ref (A 0))])) rfl rfl (hb hby d43_8)
 refine Goes.via st3 ?_
 refine Goes.via (S' := T3.setTop (mkF m 13 #[Vr (A 0), Vi i, Vi (f 4 iN)] [(.ref (A 0)), (.int i), (.ref (A 4))])) (fun tz kz => ?_) ?_
 ·refine XS.iloadN X3.here hx rfl (hb hby d43_11) rfl ?_
  refine XS.aloadN X3.here hx rfl (hb hby d43_12) rfl rfl ?_
  exact kz
 obtain ⟨T4, X4, e4, st4⟩ := getF X3 hx hZ hown (host := "") (Or.inl (w_ hw 68 rfl)) Via.refl e3 P.2.2.2.1 (g := (mkF m 13 #[Vr (A 0), Vi i, Vi (f 4 iN)] [(.ref (A 0)), (.int i), (.ref (A 4))])) rfl rfl (hb hby d43_13)
 refine Goes.via st4 ?_
 refine Goes.via (S' := T4.setTop (mkF m 17 #[Vr (A 0), Vi i, Vi (f 4 iN)] [(.int (f 4 iN)), (.ref (A 3)), (.int i), (.ref (A 4))])) (fun tz kz => ?_) ?_
 ·refine XS.iloadN X4.here hx rfl (hb hby d43_16) rfl ?_
  exact kz
 obtain ⟨cl5, Ar5, Sz5, Hs5⟩ := P.2.2.2.2.2.2.2.2.2.2.2.2.1
 refine Goes.via (S' := T4.setTop (mkF m 18 #[Vr (A 0), Vi i, Vi (f 4 iN)] [(.int (f 3 lN)), (.int i), (.ref (A 4))])) (fun tz kz => ?_) ?_
 ·refine X4.iaload hx (j := (f 4 iN)) (v := (.int (f 3 lN))) (by rw [e4]; exact Ar5.1) (State.isArrayOf_alike hZ.alike Ar5.2.1) Ar5.2.2 (own_in Sz5 hl lb) (own_at Hs5 hl lb) (g := (mkF m 17 #[Vr (A 0), Vi i, Vi (f 4 iN)] [(.int (f 4 iN)), (.ref (A 3)), (.int i), (.ref (A 4))])) rfl rfl (hb hby d43_17) _ ?_
  exact kz
 obtain ⟨cl6, Ar6, Sz6, Hs6⟩ := P.2.2.2.2.2.2.2.2.2.2.2.2.2.1
 obtain ⟨T7, h7, X7, e7, W7, st7⟩ := stI X4 hx hZ e4 Ar6 (j := i) (own_in Sz6 hi hbd) (g := (mkF m 18 #[Vr (A 0), Vi i, Vi (f 4 iN)] [(.int (f 3 lN)), (.int i), (.ref (A 4))])) rfl rfl (hb hby d43_18)
 refine Goes.via st7 ?_
 have N7 := Fr.snoc X7 N0 (P.2.2.2.2.2.2.2.2.2.2.2.2.2.2.2.2.2.1 4 (by decide))
 rw [show (i).toNatClampNeg = iN from (hi).nat] at W7
 have P7 := P.w4 W7
 have K7 := (Keep.refl h0 (own_ws A)).wr W7 (Or.inl own_mem4)
 refine Goes.via (S' := T7.setTop (mkF m 20 #[Vr (A 0), Vi i, Vi (f 4 iN)] [(.ref (A 0))])) (fun tz kz => ?_) ?_
 ·refine XS.aloadN X7.here hx rfl (hb hby d43_19) rfl rfl ?_
  exact kz
 obtain ⟨T8, X8, e8, st8⟩ := getF X7 hx hZ hown (host := "") (Or.inl (w_ hw 68 rfl)) Via.refl e7 P7.2.2.2.1 (g := (mkF m 20 #[Vr (A 0), Vi i, Vi (f 4 iN)] [(.ref (A 0))])) rfl rfl (hb hby d43_20)
 refine Goes.via st8 ?_
 refine Goes.via (S' := T8.setTop (mkF m 25 #[Vr (A 0), Vi i, Vi (f 4 iN)] [(.int i), (.int (f 4 iN)), (.ref (A 3))])) (fun tz kz => ?_) ?_
 ·refine XS.iloadN X8.here hx rfl (hb hby d43_23) rfl ?_
  refine XS.iloadN X8.here hx rfl (hb hby d43_24) rfl ?_
  exact kz
 obtain ⟨cl9, Ar9, Sz9, Hs9⟩ := P7.2.2.2.2.2.2.2.2.2.2.2.2.1
 obtain ⟨T10, h10, X10, e10, W10, st10⟩ := stI X8 hx hZ e8 Ar9 (j := (f 4 iN)) (own_in Sz9 hl lb) (g := (mkF m 25 #[Vr (A 0), Vi i, Vi (f 4 iN)] [(.int i), (.int (f 4 iN)), (.ref (A 3))])) rfl rfl (hb hby d43_25)
 refine Goes.via st10 ?_
 have N10 := Fr.snoc X10 N7 (P7.2.2.2.2.2.2.2.2.2.2.2.2.2.2.2.2.2.1 3 (by decide))
 rw [show ((f 4 iN)).toNatClampNeg = lN from (hl).nat] at W10
 have P10 := P7.w3 W10
 have K10 := K7.wr W10 (Or.inl own_mem3)
 have rn := own_rotn (f := f) (ri := i) (Or.inr ⟨rfl, rfl⟩ : own_pq 4 3) ne hi hbd n1 n2 n3
 refine Goes.via (S' := T10.setTop (mkF m 28 #[Vr (A 0), Vi i, Vi (f 4 iN)] [(.int i), (.ref (A 0))])) (fun tz kz => ?_) ?_
 ·refine XS.aloadN X10.here hx rfl (hb hby d43_26) rfl rfl ?_
  refine XS.iloadN X10.here hx rfl (hb hby d43_27) rfl ?_
  exact kz
 obtain ⟨cq11, q11, q11'⟩ := (P10.1).cell
 obtain ⟨_, _, ⟨T11, L11, k11, n11⟩, -, X11, ⟨Lc11, hQ11, l11, y11, z11⟩, st11⟩ := X10.privateBack hx (y := n_4) hown (mvT hZ (w_ hw 184 rfl)) (mvT hZ (w_ hw 185 rfl)) (sel_private hZ (w_ hw 57 rfl) (w_ hw 186 rfl) (w_ hw 185 rfl) (by decide)) (Cond.privateMethod_at (mvP hZ (w_ hw 186 rfl) (args := #[]))) (mvT hZ (w_ hw 187 rfl)) (by decide) (backOf (W := 0) (rms l Z a0 hw [] i A (own_r2 f 4 3 iN lN i) ob nm iN h10 n0 (Nat.le_trans Z0 K10.1) P10 hi hbd rn.1 rn.2.1) hZ (w_ hw 187 rfl) (w_ hw 58 rfl) (by decide) (by decide)) (g := (mkF m 28 #[Vr (A 0), Vi i, Vi (f 4 iN)] [(.int i), (.ref (A 0))])) rfl (by rw [hml]; rfl) (Steps.refl _) (a := (A 0)) (by rw [e10]; exact q11) q11' (argsL := [(.int i)]) (rest := []) (lenOf pd_5 rfl) rfl (ww_ rfl rfl) (hb hby d43_28) (fun _ _ => ⟨rfl, e10, (by decide : 0 + 0 ≤ _), (by decide : 0 + 0 ≤ _)⟩)
 dsimp only [Pt.U, Pt.locs, Pt.cells, Pt.slots] at X11 l11 y11 z11 st11 hQ11
 subst l11 y11 z11
 obtain ⟨rfl, N11, K11, P11⟩ := hQ11
 have Nf11 := Fr.app N10 N11
 refine Goes.via (fun _ kz => st11.trans kz) ?_
 have J11 := K10.trans K11 (fun _ q => Or.inl q)
 refine Goes.via (S' := T11.setTop (mkF m 33 #[Vr (A 0), Vi i, Vi (f 4 iN)] [(.int (f 4 iN)), (.ref (A 0))])) (fun tz kz => ?_) ?_
 ·refine XS.aloadN X11.here hx rfl (hb hby d43_31) rfl rfl ?_
  refine XS.iloadN X11.here hx rfl (hb hby d43_32) rfl ?_
  exact kz
 obtain ⟨cq12, q12, q12'⟩ := (P11.1).cell
 obtain ⟨_, _, ⟨T12, L12, k12, n12⟩, -, X12, ⟨Lc12, hQ12, l12, y12, z12⟩, st12⟩ := X11.privateBack hx (y := n_4) hown (mvT hZ (w_ hw 184 rfl)) (mvT hZ (w_ hw 185 rfl)) (sel_private hZ (w_ hw 57 rfl) (w_ hw 186 rfl) (w_ hw 185 rfl) (by decide)) (Cond.privateMethod_at (mvP hZ (w_ hw 186 rfl) (args := #[]))) (mvT hZ (w_ hw 187 rfl)) (by decide) (backOf (W := 0) (rms l Z a0 hw [] (f 4 iN) A (own_r3 f 4 3 iN lN i) ob nm lN T11.heap n0 (Nat.le_trans Z0 J11.1) P11 hl lb rn.2.2.1 rn.2.2.2) hZ (w_ hw 187 rfl) (w_ hw 58 rfl) (by decide) (by decide)) (g := (mkF m 33 #[Vr (A 0), Vi i, Vi (f 4 iN)] [(.int (f 4 iN)), (.ref (A 0))])) rfl (by rw [hml]; rfl) (Steps.refl _) (a := (A 0)) (by exact q12) q12' (argsL := [(.int (f 4 iN))]) (rest := []) (lenOf pd_5 rfl) rfl (ww_ rfl rfl) (hb hby d43_33) (fun _ _ => ⟨rfl, rfl, (by decide : 0 + 0 ≤ _), (by decide : 0 + 0 ≤ _)⟩)
 dsimp only [Pt.U, Pt.locs, Pt.cells, Pt.slots] at X12 l12 y12 z12 st12 hQ12
 subst l12 y12 z12
 obtain ⟨rfl, N12, K12, P12⟩ := hQ12
 have Nf12 := Fr.app Nf11 N12
 refine Goes.via (fun _ kz => st12.trans kz) ?_
 have J12 := J11.trans K12 (fun _ q => Or.inl q)
 refine Goes.via (S' := T12.setTop (mkF m 37 #[Vr (A 0), Vi i, Vi (f 4 iN)] [(.int (f 4 iN))])) (fun tz kz => ?_) ?_
 ·refine XS.iloadN X12.here hx rfl (hb hby d43_36) rfl ?_
  exact kz
 exact Goes.retI X12 hx Bd.notSynchronized Bd.returns (hb hby d43_37) (nb_ rfl) (nb_ rfl) ⟨rfl, Nf12, J12, P12⟩
theorem d38_0 : De c_38 0 (.aload_n 0) 1 := by decide +kernel
theorem d38_1 : De c_38 1 (.aload_n 0) 1 := by decide +kernel
theorem d38_2 : De c_38 2 (.getfield 17) 3 := by decide +kernel
theorem d38_5 : De c_38 5 (.iload_n 1) 1 := by decide +kernel
theorem d38_6 : De c_38 6 .iaload 1 := by decide +kernel
theorem d38_7 : De c_38 7 (.invokevirtual 79) 3 := by decide +kernel
theorem d38_10 : De c_38 10 (.aload_n 0) 1 := by decide +kernel
theorem d38_11 : De c_38 11 (.aload_n 0) 1 := by decide +kernel
theorem d38_12 : De c_38 12 (.getfield 20) 3 := by decide +kernel
theorem d38_15 : De c_38 15 (.iload_n 1) 1 := by decide +kernel
theorem d38_16 : De c_38 16 .iaload 1 := by decide +kernel
theorem d38_17 : De c_38 17 (.invokevirtual 79) 3 := by decide +kernel
theorem d38_20 : De c_38 20 .isub 1 := by decide +kernel
theorem d38_21 : De c_38 21 (.istore_n 2) 1 := by decide +kernel
theorem d38_22 : De c_38 22 (.iload_n 1) 1 := by decide +kernel
theorem d38_23 : De c_38 23 (.istore_n 3) 1 := by decide +kernel
theorem d38_24 : De c_38 24 (.iload_n 2) 1 := by decide +kernel
theorem d38_25 : De c_38 25 (.iconst 1) 1 := by decide +kernel
theorem d38_26 : De c_38 26 (.if_icmp .le 57) 3 := by decide +kernel
theorem d38_29 : De c_38 29 (.aload_n 0) 1 := by decide +kernel
theorem d38_30 : De c_38 30 (.getfield 17) 3 := by decide +kernel
theorem d38_33 : De c_38 33 (.iload_n 1) 1 := by decide +kernel
theorem d38_34 : De c_38 34 .iaload 1 := by decide +kernel
theorem d38_35 : De c_38 35 (.istore 4) 2 := by decide +kernel
theorem d38_37 : De c_38 37 (.aload_n 0) 1 := by decide +kernel
theorem d38_38 : De c_38 38 (.aload_n 0) 1 := by decide +kernel
theorem d38_39 : De c_38 39 (.getfield 20) 3 := by decide +kernel
theorem d38_42 : De c_38 42 (.iload 4) 2 := by decide +kernel
theorem d38_44 : De c_38 44 .iaload 1 := by decide +kernel
theorem d38_45 : De c_38 45 (.invokevirtual 79) 3 := by decide +kernel
theorem d38_48 : De c_38 48 (.aload_n 0) 1 := by decide +kernel
theorem d38_49 : De c_38 49 (.aload_n 0) 1 := by decide +kernel
theorem d38_50 : De c_38 50 (.getfield 17) 3 := by decide +kernel
theorem d38_53 : De c_38 53 (.iload 4) 2 := by decide +kernel
theorem d38_55 : De c_38 55 .iaload 1 := by decide +kernel
theorem d38_56 : De c_38 56 (.invokevirtual 79) 3 := by decide +kernel
theorem d38_59 : De c_38 59 (.if_icmp .le 15) 3 := by decide +kernel
theorem d38_62 : De c_38 62 (.aload_n 0) 1 := by decide +kernel
theorem d38_63 : De c_38 63 (.getfield 17) 3 := by decide +kernel
theorem d38_66 : De c_38 66 (.iload_n 1) 1 := by decide +kernel
theorem d38_67 : De c_38 67 (.aload_n 0) 1 := by decide +kernel
theorem d38_68 : De c_38 68 (.iload 4) 2 := by decide +kernel
theorem d38_70 : De c_38 70 (.invokevirtual 89) 3 := by decide +kernel
theorem d38_73 : De c_38 73 .iastore 1 := by decide +kernel
theorem d38_74 : De c_38 74 (.aload_n 0) 1 := by decide +kernel
theorem d38_75 : De c_38 75 (.iload_n 1) 1 := by decide +kernel
theorem d38_76 : De c_38 76 (.invokevirtual 92) 3 := by decide +kernel
theorem d38_79 : De c_38 79 (.istore_n 3) 1 := by decide +kernel
theorem d38_80 : De c_38 80 (.goto 67) 3 := by decide +kernel
theorem d38_83 : De c_38 83 (.iload_n 2) 1 := by decide +kernel
theorem d38_84 : De c_38 84 (.iconst (-1)) 1 := by decide +kernel
theorem d38_85 : De c_38 85 (.if_icmp .ge 57) 3 := by decide +kernel
theorem d38_88 : De c_38 88 (.aload_n 0) 1 := by decide +kernel
theorem d38_89 : De c_38 89 (.getfield 20) 3 := by decide +kernel
theorem d38_92 : De c_38 92 (.iload_n 1) 1 := by decide +kernel
theorem d38_93 : De c_38 93 .iaload 1 := by decide +kernel
theorem d38_94 : De c_38 94 (.istore 4) 2 := by decide +kernel
theorem d38_96 : De c_38 96 (.aload_n 0) 1 := by decide +kernel
theorem d38_97 : De c_38 97 (.aload_n 0) 1 := by decide +kernel
theorem d38_98 : De c_38 98 (.getfield 17) 3 := by decide +kernel
theorem d38_101 : De c_38 101 (.iload 4) 2 := by decide +kernel
theorem d38_103 : De c_38 103 .iaload 1 := by decide +kernel
theorem d38_104 : De c_38 104 (.invokevirtual 79) 3 := by decide +kernel
theorem d38_107 : De c_38 107 (.aload_n 0) 1 := by decide +kernel
theorem d38_108 : De c_38 108 (.aload_n 0) 1 := by decide +kernel
theorem d38_109 : De c_38 109 (.getfield 20) 3 := by decide +kernel
theorem d38_112 : De c_38 112 (.iload 4) 2 := by decide +kernel
theorem d38_114 : De c_38 114 .iaload 1 := by decide +kernel
theorem d38_115 : De c_38 115 (.invokevirtual 79) 3 := by decide +kernel
theorem d38_118 : De c_38 118 (.if_icmp .le 15) 3 := by decide +kernel
theorem d38_121 : De c_38 121 (.aload_n 0) 1 := by decide +kernel
theorem d38_122 : De c_38 122 (.getfield 20) 3 := by decide +kernel
theorem d38_125 : De c_38 125 (.iload_n 1) 1 := by decide +kernel
theorem d38_126 : De c_38 126 (.aload_n 0) 1 := by decide +kernel
theorem d38_127 : De c_38 127 (.iload 4) 2 := by decide +kernel
theorem d38_129 : De c_38 129 (.invokevirtual 92) 3 := by decide +kernel
theorem d38_132 : De c_38 132 .iastore 1 := by decide +kernel
theorem d38_133 : De c_38 133 (.aload_n 0) 1 := by decide +kernel
theorem d38_134 : De c_38 134 (.iload_n 1) 1 := by decide +kernel
theorem d38_135 : De c_38 135 (.invokevirtual 89) 3 := by decide +kernel
theorem d38_138 : De c_38 138 (.istore_n 3) 1 := by decide +kernel
theorem d38_139 : De c_38 139 (.goto 8) 3 := by decide +kernel
theorem d38_142 : De c_38 142 (.aload_n 0) 1 := by decide +kernel
theorem d38_143 : De c_38 143 (.iload_n 1) 1 := by decide +kernel
theorem d38_144 : De c_38 144 (.invokevirtual 95) 3 := by decide +kernel
theorem d38_147 : De c_38 147 (.iload_n 3) 1 := by decide +kernel
theorem d38_148 : De c_38 148 .ireturn 1 := by decide +kernel
theorem pn_38 : plainName "com/example/upkeep_window/upkeepwindow/policy/OpenNames" = true := by first | (simp [plainName, overriddenIn]; done) | decide +kernel
theorem ef_38 (m : MethodId) (x0 : Addr) (x1 : Int32) : entryFrame m #[(.ref x0), (.int x1)] 5 = mkF m 0 #[Vr x0, Vi x1, Vu, Vu, Vu] [] := by first | rfl | simp [entryFrame, mkF, argsToLocals, Value.category]
def Q_rba (Z : State) (i : Int32) (A : Nat → Addr) (f : Nat → Nat → Int32) (ob nm : Int32) (iN : Nat) (ls rs : List Nat) (dl dr : Nat) (h0 : Heap) (n0 : Nat) : Option Value → Heap → List Loc → Prop := fun v h L => ∃ f' r', v = some (.int r') ∧ Fr n0 L ∧ Keep h0 h (own_ws A) ∧ own_ON Z n0 h A f' ob nm ∧ own_bal f f' r' (ls ++ iN :: rs) dl dr
theorem rba (l : Launch) (Z : State) (a0 : Array Value) (hw : ∀ d ∈ tables_1, d.before a0 Z = true) (ws : List Jvm.Cond) (i : Int32) (A : Nat → Addr) (f : Nat → Nat → Int32) (ob nm : Int32) (iN : Nat) (ls rs : List Nat) (dl dr : Nat) (h0 : Heap) (n0 : Nat) (Z0 : n0 ≤ h0.size) (P : own_ON Z n0 h0 A f ob nm) (hi : own_I i iN) (hbd : iN < 16) (TL : own_Tr f (f 3 iN) ls dl) (TR : own_Tr f (f 4 iN) rs dr) (nd : (ls ++ iN :: rs).Nodup) (g1 : dl ≤ dr + 2) (g2 : dr ≤ dl + 2) (b1 : dl ≤ 5) (b2 : dr ≤ 5) :
  own_M l Z n_14 (Jvm.Cond.code n_14 prog_33_method_8_code 5 (some .int)) ws (Rm 3 0 0 60) #[(.ref (A 0)), (.int i)] h0 (Q_rba Z i A f ob nm iN ls rs dl dr h0 n0) := by
 refine MetFree.of_bodySF (plainFor_of_name pn_38) hisR ?_
 intro p e s m args below meth c s₁ Bd hml0 hP hK
 obtain ⟨rfl, hZ, hh⟩ := hP
 have hx := Bd.exec
 have hby := Bd.bytes
 have hml : c.maxLocals = 5 := hml0
 have hown : s.vm.findClass "com/example/upkeep_window/upkeepwindow/policy/OpenNames" = some m.cls := findClass_of_methodNamed Bd.named
 have hnm := (name_of_methodNamed Bd.named Bd.method).1
 have X0 : Stand p l e (Rm 3 0 0 60) s m #[(.ref (A 0)), (.int i)] below meth c s₁ [] 0 0 := Stand.of_body Bd
 have e0 : s₁.heap = h0 := by rw [← hh, Bd.state]; rfl
 have N0 := Fr.nil n0
 show Goes p e below (Fin s (Q_rba Z i A f ob nm iN ls rs dl dr h0 n0) (Rm 3 0 0 60).cells (Rm 3 0 0 60).slots) _
 refine Goes.via (S' := s₁.setTop (mkF m 0 #[Vr (A 0), Vi i, Vu, Vu, Vu] [])) (fun tz kz => castTop (ef_38 m (A 0) i ) kz) ?_
 refine Goes.via (S' := s₁.setTop (mkF m 2 #[Vr (A 0), Vi i, Vu, Vu, Vu] [(.ref (A 0)), (.ref (A 0))])) (fun tz kz => ?_) ?_
 ·refine XS.aloadN X0.here hx rfl (hb hby d38_0) rfl rfl ?_
  refine XS.aloadN X0.here hx rfl (hb hby d38_1) rfl rfl ?_
  exact kz
 obtain ⟨T1, X1, e1, st1⟩ := getF X0 hx hZ hown (host := "") (Or.inl (w_ hw 68 rfl)) Via.refl e0 P.2.2.2.1 (g := (mkF m 2 #[Vr (A 0), Vi i, Vu, Vu, Vu] [(.ref (A 0)), (.ref (A 0))])) rfl rfl (hb hby d38_2)
 refine Goes.via st1 ?_
 refine Goes.via (S' := T1.setTop (mkF m 6 #[Vr (A 0), Vi i, Vu, Vu, Vu] [(.int i), (.ref (A 3)), (.ref (A 0))])) (fun tz kz => ?_) ?_
 ·refine XS.iloadN X1.here hx rfl (hb hby d38_5) rfl ?_
  exact kz
 obtain ⟨cl2, Ar2, Sz2, Hs2⟩ := P.2.2.2.2.2.2.2.2.2.2.2.2.1
 refine Goes.via (S' := T1.setTop (mkF m 7 #[Vr (A 0), Vi i, Vu, Vu, Vu] [(.int (f 3 iN)), (.ref (A 0))])) (fun tz kz => ?_) ?_
 ·refine X1.iaload hx (j := i) (v := (.int (f 3 iN))) (by rw [e1]; exact Ar2.1) (State.isArrayOf_alike hZ.alike Ar2.2.1) Ar2.2.2 (own_in Sz2 hi hbd) (own_at Hs2 hi hbd) (g := (mkF m 6 #[Vr (A 0), Vi i, Vu, Vu, Vu] [(.int i), (.ref (A 3)), (.ref (A 0))])) rfl rfl (hb hby d38_6) _ ?_
  exact kz
 obtain ⟨cq3, q3, q3'⟩ := (P.1).cell
 obtain ⟨_, _, ⟨T3, L3, k3, n3⟩, -, X3, ⟨Lc3, hQ3, l3, y3, z3⟩, st3⟩ := X1.privateBack hx (y := n_1) hown (mvT hZ (w_ hw 95 rfl)) (mvT hZ (w_ hw 96 rfl)) (sel_private hZ (w_ hw 57 rfl) (w_ hw 97 rfl) (w_ hw 96 rfl) (by decide)) (Cond.privateMethod_at (mvP hZ (w_ hw 97 rfl) (args := #[]))) (mvT hZ (w_ hw 98 rfl)) (by decide) (backOf (W := 0) (rht l Z a0 hw [] (f 3 iN) A f ob nm h0 n0 Z0 P TL.n16) hZ (w_ hw 98 rfl) (w_ hw 58 rfl) (by decide) (by decide)) (g := (mkF m 7 #[Vr (A 0), Vi i, Vu, Vu, Vu] [(.int (f 3 iN)), (.ref (A 0))])) rfl (by rw [hml]; rfl) (Steps.refl _) (a := (A 0)) (by rw [e1]; exact q3) q3' (argsL := [(.int (f 3 iN))]) (rest := []) (lenOf pd_0 rfl) rfl (ww_ rfl rfl) (hb hby d38_7) (fun _ _ => ⟨rfl, e1, (by decide : 0 + 0 ≤ _), (by decide : 0 + 0 ≤ _)⟩)
 dsimp only [Pt.U, Pt.locs, Pt.cells, Pt.slots] at X3 l3 y3 z3 st3 hQ3
 subst l3 y3 z3
 obtain ⟨rfl, N3, e3⟩ := hQ3
 have Nf3 := Fr.app N0 N3
 refine Goes.via (fun _ kz => st3.trans kz) ?_
 refine Goes.via (S' := T3.setTop (mkF m 12 #[Vr (A 0), Vi i, Vu, Vu, Vu] [(.ref (A 0)), (.ref (A 0)), (.int (own_ht f (f 3 iN)))])) (fun tz kz => ?_) ?_
 ·refine XS.aloadN X3.here hx rfl (hb hby d38_10) rfl rfl ?_
  refine XS.aloadN X3.here hx rfl (hb hby d38_11) rfl rfl ?_
  exact kz
 obtain ⟨T4, X4, e4, st4⟩ := getF X3 hx hZ hown (host := "") (Or.inl (w_ hw 70 rfl)) Via.refl e3 P.2.2.2.2.1 (g := (mkF m 12 #[Vr (A 0), Vi i, Vu, Vu, Vu] [(.ref (A 0)), (.ref (A 0)), (.int (own_ht f (f 3 iN)))])) rfl rfl (hb hby d38_12)
 refine Goes.via st4 ?_
 refine Goes.via (S' := T4.setTop (mkF m 16 #[Vr (A 0), Vi i, Vu, Vu, Vu] [(.int i), (.ref (A 4)), (.ref (A 0)), (.int (own_ht f (f 3 iN)))])) (fun tz kz => ?_) ?_
 ·refine XS.iloadN X4.here hx rfl (hb hby d38_15) rfl ?_
  exact kz
 obtain ⟨cl5, Ar5, Sz5, Hs5⟩ := P.2.2.2.2.2.2.2.2.2.2.2.2.2.1
 refine Goes.via (S' := T4.setTop (mkF m 17 #[Vr (A 0), Vi i, Vu, Vu, Vu] [(.int (f 4 iN)), (.ref (A 0)), (.int (own_ht f (f 3 iN)))])) (fun tz kz => ?_) ?_
 ·refine X4.iaload hx (j := i) (v := (.int (f 4 iN))) (by rw [e4]; exact Ar5.1) (State.isArrayOf_alike hZ.alike Ar5.2.1) Ar5.2.2 (own_in Sz5 hi hbd) (own_at Hs5 hi hbd) (g := (mkF m 16 #[Vr (A 0), Vi i, Vu, Vu, Vu] [(.int i), (.ref (A 4)), (.ref (A 0)), (.int (own_ht f (f 3 iN)))])) rfl rfl (hb hby d38_16) _ ?_
  exact kz
 obtain ⟨cq6, q6, q6'⟩ := (P.1).cell
 obtain ⟨_, _, ⟨T6, L6, k6, n6⟩, -, X6, ⟨Lc6, hQ6, l6, y6, z6⟩, st6⟩ := X4.privateBack hx (y := n_1) hown (mvT hZ (w_ hw 95 rfl)) (mvT hZ (w_ hw 96 rfl)) (sel_private hZ (w_ hw 57 rfl) (w_ hw 97 rfl) (w_ hw 96 rfl) (by decide)) (Cond.privateMethod_at (mvP hZ (w_ hw 97 rfl) (args := #[]))) (mvT hZ (w_ hw 98 rfl)) (by decide) (backOf (W := 1) (rht l Z a0 hw [] (f 4 iN) A f ob nm h0 n0 Z0 P TR.n16) hZ (w_ hw 98 rfl) (w_ hw 58 rfl) (by decide) (by decide)) (g := (mkF m 17 #[Vr (A 0), Vi i, Vu, Vu, Vu] [(.int (f 4 iN)), (.ref (A 0)), (.int (own_ht f (f 3 iN)))])) rfl (by rw [hml]; rfl) (Steps.refl _) (a := (A 0)) (by rw [e4]; exact q6) q6' (argsL := [(.int (f 4 iN))]) (rest := [(.int (own_ht f (f 3 iN)))]) (lenOf pd_0 rfl) rfl (ww_ rfl rfl) (hb hby d38_17) (fun _ _ => ⟨rfl, e4, (by decide : 0 + 0 ≤ _), (by decide : 0 + 0 ≤ _)⟩)
 dsimp only [Pt.U, Pt.locs, Pt.cells, Pt.slots] at X6 l6 y6 z6 st6 hQ6
 subst l6 y6 z6
 obtain ⟨rfl, N6, e6⟩ := hQ6
 have Nf6 := Fr.app Nf3 N6
 refine Goes.via (fun _ kz => st6.trans kz) ?_
 refine Goes.via (S' := T6.setTop (mkF m 26 #[Vr (A 0), Vi i, Vi ((own_ht f (f 3 iN)) - (own_ht f (f 4 iN))), Vi i, Vu] [(.int 1), (.int ((own_ht f (f 3 iN)) - (own_ht f (f 4 iN))))])) (fun tz kz => ?_) ?_
 ·refine XS.isub X6.here hx rfl (hb hby d38_20) rfl ?_
  refine XS.istoreN X6.here hx rfl (hb hby d38_21) rfl (l' := #[Vr (A 0), Vi i, Vi ((own_ht f (f 3 iN)) - (own_ht f (f 4 iN))), Vu, Vu]) rfl ?_
  refine XS.iloadN X6.here hx rfl (hb hby d38_22) rfl ?_
  refine XS.istoreN X6.here hx rfl (hb hby d38_23) rfl (l' := #[Vr (A 0), Vi i, Vi ((own_ht f (f 3 iN)) - (own_ht f (f 4 iN))), Vi i, Vu]) rfl ?_
  refine XS.iloadN X6.here hx rfl (hb hby d38_24) rfl ?_
  refine XS.iconst X6.here hx rfl (hb hby d38_25) ?_
  exact kz
 by_cases hc26_7 : (1 : Int32) < ((own_ht f (f 3 iN)) - (own_ht f (f 4 iN)))
 ·refine Goes.via (S' := T6.setTop (mkF m 30 #[Vr (A 0), Vi i, Vi ((own_ht f (f 3 iN)) - (own_ht f (f 4 iN))), Vi i, Vu] [(.ref (A 0))])) (fun tz kz => ?_) ?_
  ·refine XS.icmpNo X6.here hx rfl (hb hby d38_26) rfl (tlt hc26_7).2.2.2 ?_
   refine XS.aloadN X6.here hx rfl (hb hby d38_29) rfl rfl ?_
   exact kz
  have q1 : dl = dr + 2 := by have z := (own_hdiff TL.hgt TR.hgt (by omega) (by omega)).1.mp hc26_7; omega
  obtain ⟨lN, as, bs, u1, u2, Il, lb, TA, TB, eL, eh, c1, c2⟩ := own_Tr.posp (Or.inl ⟨rfl, rfl⟩ : own_pq 3 4) TL (by omega)
  have ec : own_cat 3 (own_cat 3 as lN bs) iN rs = ls ++ iN :: rs := by rw [eL]; rfl
  have nd1 : (own_cat 3 (own_cat 3 as lN bs) iN rs).Nodup := by rw [ec]; exact nd
  obtain ⟨T8, X8, e8, st8⟩ := getF X6 hx hZ hown (host := "") (Or.inl (w_ hw 68 rfl)) Via.refl e6 P.2.2.2.1 (g := (mkF m 30 #[Vr (A 0), Vi i, Vi ((own_ht f (f 3 iN)) - (own_ht f (f 4 iN))), Vi i, Vu] [(.ref (A 0))])) rfl rfl (hb hby d38_30)
  refine Goes.via st8 ?_
  refine Goes.via (S' := T8.setTop (mkF m 34 #[Vr (A 0), Vi i, Vi ((own_ht f (f 3 iN)) - (own_ht f (f 4 iN))), Vi i, Vu] [(.int i), (.ref (A 3))])) (fun tz kz => ?_) ?_
  ·refine XS.iloadN X8.here hx rfl (hb hby d38_33) rfl ?_
   exact kz
  obtain ⟨cl9, Ar9, Sz9, Hs9⟩ := P.2.2.2.2.2.2.2.2.2.2.2.2.1
  refine Goes.via (S' := T8.setTop (mkF m 39 #[Vr (A 0), Vi i, Vi ((own_ht f (f 3 iN)) - (own_ht f (f 4 iN))), Vi i, Vi (f 3 iN)] [(.ref (A 0)), (.ref (A 0))])) (fun tz kz => ?_) ?_
  ·refine X8.iaload hx (j := i) (v := (.int (f 3 iN))) (by rw [e8]; exact Ar9.1) (State.isArrayOf_alike hZ.alike Ar9.2.1) Ar9.2.2 (own_in Sz9 hi hbd) (own_at Hs9 hi hbd) (g := (mkF m 34 #[Vr (A 0), Vi i, Vi ((own_ht f (f 3 iN)) - (own_ht f (f 4 iN))), Vi i, Vu] [(.int i), (.ref (A 3))])) rfl rfl (hb hby d38_34) _ ?_
   refine XS.istore X8.here hx rfl (hb hby d38_35) rfl (l' := #[Vr (A 0), Vi i, Vi ((own_ht f (f 3 iN)) - (own_ht f (f 4 iN))), Vi i, Vi (f 3 iN)]) rfl ?_
   refine XS.aloadN X8.here hx rfl (hb hby d38_37) rfl rfl ?_
   refine XS.aloadN X8.here hx rfl (hb hby d38_38) rfl rfl ?_
   exact kz
  obtain ⟨T10, X10, e10, st10⟩ := getF X8 hx hZ hown (host := "") (Or.inl (w_ hw 70 rfl)) Via.refl e8 P.2.2.2.2.1 (g := (mkF m 39 #[Vr (A 0), Vi i, Vi ((own_ht f (f 3 iN)) - (own_ht f (f 4 iN))), Vi i, Vi (f 3 iN)] [(.ref (A 0)), (.ref (A 0))])) rfl rfl (hb hby d38_39)
  refine Goes.via st10 ?_
  refine Goes.via (S' := T10.setTop (mkF m 44 #[Vr (A 0), Vi i, Vi ((own_ht f (f 3 iN)) - (own_ht f (f 4 iN))), Vi i, Vi (f 3 iN)] [(.int (f 3 iN)), (.ref (A 4)), (.ref (A 0))])) (fun tz kz => ?_) ?_
  ·refine XS.iload X10.here hx rfl (hb hby d38_42) rfl ?_
   exact kz
  obtain ⟨cl11, Ar11, Sz11, Hs11⟩ := P.2.2.2.2.2.2.2.2.2.2.2.2.2.1
  refine Goes.via (S' := T10.setTop (mkF m 45 #[Vr (A 0), Vi i, Vi ((own_ht f (f 3 iN)) - (own_ht f (f 4 iN))), Vi i, Vi (f 3 iN)] [(.int (f 4 lN)), (.ref (A 0))])) (fun tz kz => ?_) ?_
  ·refine X10.iaload hx (j := (f 3 iN)) (v := (.int (f 4 lN))) (by rw [e10]; exact Ar11.1) (State.isArrayOf_alike hZ.alike Ar11.2.1) Ar11.2.2 (own_in Sz11 Il lb) (own_at Hs11 Il lb) (g := (mkF m 44 #[Vr (A 0), Vi i, Vi ((own_ht f (f 3 iN)) - (own_ht f (f 4 iN))), Vi i, Vi (f 3 iN)] [(.int (f 3 iN)), (.ref (A 4)), (.ref (A 0))])) rfl rfl (hb hby d38_44) _ ?_
   exact kz
  obtain ⟨cq12, q12, q12'⟩ := (P.1).cell
  obtain ⟨_, _, ⟨T12, L12, k12, n12⟩, -, X12, ⟨Lc12, hQ12, l12, y12, z12⟩, st12⟩ := X10.privateBack hx (y := n_1) hown (mvT hZ (w_ hw 95 rfl)) (mvT hZ (w_ hw 96 rfl)) (sel_private hZ (w_ hw 57 rfl) (w_ hw 97 rfl) (w_ hw 96 rfl) (by decide)) (Cond.privateMethod_at (mvP hZ (w_ hw 97 rfl) (args := #[]))) (mvT hZ (w_ hw 98 rfl)) (by decide) (backOf (W := 0) (rht l Z a0 hw [] (f 4 lN) A f ob nm h0 n0 Z0 P TB.n16) hZ (w_ hw 98 rfl) (w_ hw 58 rfl) (by decide) (by decide)) (g := (mkF m 45 #[Vr (A 0), Vi i, Vi ((own_ht f (f 3 iN)) - (own_ht f (f 4 iN))), Vi i, Vi (f 3 iN)] [(.int (f 4 lN)), (.ref (A 0))])) rfl (by rw [hml]; rfl) (Steps.refl _) (a := (A 0)) (by rw [e10]; exact q12) q12' (argsL := [(.int (f 4 lN))]) (rest := []) (lenOf pd_0 rfl) rfl (ww_ rfl rfl) (hb hby d38_45) (fun _ _ => ⟨rfl, e10, (by decide : 0 + 0 ≤ _), (by decide : 0 + 0 ≤ _)⟩)
  dsimp only [Pt.U, Pt.locs, Pt.cells, Pt.slots] at X12 l12 y12 z12 st12 hQ12
  subst l12 y12 z12
  obtain ⟨rfl, N12, e12⟩ := hQ12
  have Nf12 := Fr.app Nf6 N12
  refine Goes.via (fun _ kz => st12.trans kz) ?_
  refine Goes.via (S' := T12.setTop (mkF m 50 #[Vr (A 0), Vi i, Vi ((own_ht f (f 3 iN)) - (own_ht f (f 4 iN))), Vi i, Vi (f 3 iN)] [(.ref (A 0)), (.ref (A 0)), (.int (own_ht f (f 4 lN)))])) (fun tz kz => ?_) ?_
  ·refine XS.aloadN X12.here hx rfl (hb hby d38_48) rfl rfl ?_
   refine XS.aloadN X12.here hx rfl (hb hby d38_49) rfl rfl ?_
   exact kz
  obtain ⟨T13, X13, e13, st13⟩ := getF X12 hx hZ hown (host := "") (Or.inl (w_ hw 68 rfl)) Via.refl e12 P.2.2.2.1 (g := (mkF m 50 #[Vr (A 0), Vi i, Vi ((own_ht f (f 3 iN)) - (own_ht f (f 4 iN))), Vi i, Vi (f 3 iN)] [(.ref (A 0)), (.ref (A 0)), (.int (own_ht f (f 4 lN)))])) rfl rfl (hb hby d38_50)
  refine Goes.via st13 ?_
  refine Goes.via (S' := T13.setTop (mkF m 55 #[Vr (A 0), Vi i, Vi ((own_ht f (f 3 iN)) - (own_ht f (f 4 iN))), Vi i, Vi (f 3 iN)] [(.int (f 3 iN)), (.ref (A 3)), (.ref (A 0)), (.int (own_ht f (f 4 lN)))])) (fun tz kz => ?_) ?_
  ·refine XS.iload X13.here hx rfl (hb hby d38_53) rfl ?_
   exact kz
  obtain ⟨cl14, Ar14, Sz14, Hs14⟩ := P.2.2.2.2.2.2.2.2.2.2.2.2.1
  refine Goes.via (S' := T13.setTop (mkF m 56 #[Vr (A 0), Vi i, Vi ((own_ht f (f 3 iN)) - (own_ht f (f 4 iN))), Vi i, Vi (f 3 iN)] [(.int (f 3 lN)), (.ref (A 0)), (.int (own_ht f (f 4 lN)))])) (fun tz kz => ?_) ?_
  ·refine X13.iaload hx (j := (f 3 iN)) (v := (.int (f 3 lN))) (by rw [e13]; exact Ar14.1) (State.isArrayOf_alike hZ.alike Ar14.2.1) Ar14.2.2 (own_in Sz14 Il lb) (own_at Hs14 Il lb) (g := (mkF m 55 #[Vr (A 0), Vi i, Vi ((own_ht f (f 3 iN)) - (own_ht f (f 4 iN))), Vi i, Vi (f 3 iN)] [(.int (f 3 iN)), (.ref (A 3)), (.ref (A 0)), (.int (own_ht f (f 4 lN)))])) rfl rfl (hb hby d38_55) _ ?_
   exact kz
  obtain ⟨cq15, q15, q15'⟩ := (P.1).cell
  obtain ⟨_, _, ⟨T15, L15, k15, n15⟩, -, X15, ⟨Lc15, hQ15, l15, y15, z15⟩, st15⟩ := X13.privateBack hx (y := n_1) hown (mvT hZ (w_ hw 95 rfl)) (mvT hZ (w_ hw 96 rfl)) (sel_private hZ (w_ hw 57 rfl) (w_ hw 97 rfl) (w_ hw 96 rfl) (by decide)) (Cond.privateMethod_at (mvP hZ (w_ hw 97 rfl) (args := #[]))) (mvT hZ (w_ hw 98 rfl)) (by decide) (backOf (W := 1) (rht l Z a0 hw [] (f 3 lN) A f ob nm h0 n0 Z0 P TA.n16) hZ (w_ hw 98 rfl) (w_ hw 58 rfl) (by decide) (by decide)) (g := (mkF m 56 #[Vr (A 0), Vi i, Vi ((own_ht f (f 3 iN)) - (own_ht f (f 4 iN))), Vi i, Vi (f 3 iN)] [(.int (f 3 lN)), (.ref (A 0)), (.int (own_ht f (f 4 lN)))])) rfl (by rw [hml]; rfl) (Steps.refl _) (a := (A 0)) (by rw [e13]; exact q15) q15' (argsL := [(.int (f 3 lN))]) (rest := [(.int (own_ht f (f 4 lN)))]) (lenOf pd_0 rfl) rfl (ww_ rfl rfl) (hb hby d38_56) (fun _ _ => ⟨rfl, e13, (by decide : 0 + 0 ≤ _), (by decide : 0 + 0 ≤ _)⟩)
  dsimp only [Pt.U, Pt.locs, Pt.cells, Pt.slots] at X15 l15 y15 z15 st15 hQ15
  subst l15 y15 z15
  obtain ⟨rfl, N15, e15⟩ := hQ15
  have Nf15 := Fr.app Nf12 N15
  refine Goes.via (fun _ kz => st15.trans kz) ?_
  by_cases hc59_16 : (own_ht f (f 3 lN)) < (own_ht f (f 4 lN))
  ·refine Goes.via (S' := T15.setTop (mkF m 63 #[Vr (A 0), Vi i, Vi ((own_ht f (f 3 iN)) - (own_ht f (f 4 iN))), Vi i, Vi (f 3 iN)] [(.ref (A 0))])) (fun tz kz => ?_) ?_
   ·refine XS.icmpNo X15.here hx rfl (hb hby d38_59) rfl (tlt hc59_16).2.2.2 ?_
    refine XS.aloadN X15.here hx rfl (hb hby d38_62) rfl rfl ?_
    exact kz
   have q2 : u1 < u2 := (own_hdiff TA.hgt TB.hgt (by omega) (by omega)).2.2.mp hc59_16
   obtain ⟨mN, cs, ds, u3, u4, Im, mb, TC, TD, eM, em, c3, c4⟩ := own_Tr.posp (Or.inl ⟨rfl, rfl⟩ : own_pq 3 4) TB (by omega)
   have nd2 : (own_cat 3 (own_cat 3 as lN (own_cat 3 cs mN ds)) iN rs).Nodup := by rw [← eM]; exact nd1
   obtain ⟨lm, im, w1, w2, w3⟩ := own_baldn (Or.inl ⟨rfl, rfl⟩ : own_pq 3 4) Il lb TA TC TD TR nd2 (by omega) (by omega) (by omega)
   obtain ⟨T17, X17, e17, st17⟩ := getF X15 hx hZ hown (host := "") (Or.inl (w_ hw 68 rfl)) Via.refl e15 P.2.2.2.1 (g := (mkF m 63 #[Vr (A 0), Vi i, Vi ((own_ht f (f 3 iN)) - (own_ht f (f 4 iN))), Vi i, Vi (f 3 iN)] [(.ref (A 0))])) rfl rfl (hb hby d38_63)
   refine Goes.via st17 ?_
   refine Goes.via (S' := T17.setTop (mkF m 70 #[Vr (A 0), Vi i, Vi ((own_ht f (f 3 iN)) - (own_ht f (f 4 iN))), Vi i, Vi (f 3 iN)] [(.int (f 3 iN)), (.ref (A 0)), (.int i), (.ref (A 3))])) (fun tz kz => ?_) ?_
   ·refine XS.iloadN X17.here hx rfl (hb hby d38_66) rfl ?_
    refine XS.aloadN X17.here hx rfl (hb hby d38_67) rfl rfl ?_
    refine XS.iload X17.here hx rfl (hb hby d38_68) rfl ?_
    exact kz
   obtain ⟨cq18, q18, q18'⟩ := (P.1).cell
   obtain ⟨_, _, ⟨T18, L18, k18, n18⟩, -, X18, ⟨Lc18, hQ18, l18, y18, z18⟩, st18⟩ := X17.privateBack hx (y := n_13) hown (mvT hZ (w_ hw 199 rfl)) (mvT hZ (w_ hw 200 rfl)) (sel_private hZ (w_ hw 57 rfl) (w_ hw 201 rfl) (w_ hw 200 rfl) (by decide)) (Cond.privateMethod_at (mvP hZ (w_ hw 201 rfl) (args := #[]))) (mvT hZ (w_ hw 202 rfl)) (by decide) (backOf (W := 2) (rrl l Z a0 hw [] (f 3 iN) A f ob nm lN mN h0 n0 Z0 P Il lb Im mb lm TD.n16 TC.n16 TA.n16) hZ (w_ hw 202 rfl) (w_ hw 58 rfl) (by decide) (by decide)) (g := (mkF m 70 #[Vr (A 0), Vi i, Vi ((own_ht f (f 3 iN)) - (own_ht f (f 4 iN))), Vi i, Vi (f 3 iN)] [(.int (f 3 iN)), (.ref (A 0)), (.int i), (.ref (A 3))])) rfl (by rw [hml]; rfl) (Steps.refl _) (a := (A 0)) (by rw [e17]; exact q18) q18' (argsL := [(.int (f 3 iN))]) (rest := [(.int i), (.ref (A 3))]) (lenOf pd_0 rfl) rfl (ww_ rfl rfl) (hb hby d38_70) (fun _ _ => ⟨rfl, e17, (by decide : 0 + 0 ≤ _), (by decide : 0 + 0 ≤ _)⟩)
   dsimp only [Pt.U, Pt.locs, Pt.cells, Pt.slots] at X18 l18 y18 z18 st18 hQ18
   subst l18 y18 z18
   obtain ⟨rfl, N18, K18, P18⟩ := hQ18
   have Nf18 := Fr.app Nf15 N18
   refine Goes.via (fun _ kz => st18.trans kz) ?_
   obtain ⟨cl19, Ar19, Sz19, Hs19⟩ := P18.2.2.2.2.2.2.2.2.2.2.2.2.1
   obtain ⟨T20, h20, X20, e20, W20, st20⟩ := stI X18 hx hZ rfl Ar19 (j := i) (own_in Sz19 hi hbd) (g := (mkF m 73 #[Vr (A 0), Vi i, Vi ((own_ht f (f 3 iN)) - (own_ht f (f 4 iN))), Vi i, Vi (f 3 iN)] [(.int (f 4 lN)), (.int i), (.ref (A 3))])) rfl rfl (hb hby d38_73)
   refine Goes.via st20 ?_
   have N20 := Fr.snoc X20 Nf18 (P18.2.2.2.2.2.2.2.2.2.2.2.2.2.2.2.2.2.1 3 (by decide))
   rw [show (i).toNatClampNeg = iN from (hi).nat] at W20
   have P20 := P18.w3 W20
   have K20 := K18.wr W20 (Or.inl own_mem3)
   refine Goes.via (S' := T20.setTop (mkF m 76 #[Vr (A 0), Vi i, Vi ((own_ht f (f 3 iN)) - (own_ht f (f 4 iN))), Vi i, Vi (f 3 iN)] [(.int i), (.ref (A 0))])) (fun tz kz => ?_) ?_
   ·refine XS.aloadN X20.here hx rfl (hb hby d38_74) rfl rfl ?_
    refine XS.iloadN X20.here hx rfl (hb hby d38_75) rfl ?_
    exact kz
   obtain ⟨cq21, q21, q21'⟩ := (P20.1).cell
   obtain ⟨_, _, ⟨T21, L21, k21, n21⟩, -, X21, ⟨Lc21, hQ21, l21, y21, z21⟩, st21⟩ := X20.privateBack hx (y := n_12) hown (mvT hZ (w_ hw 195 rfl)) (mvT hZ (w_ hw 196 rfl)) (sel_private hZ (w_ hw 57 rfl) (w_ hw 197 rfl) (w_ hw 196 rfl) (by decide)) (Cond.privateMethod_at (mvP hZ (w_ hw 197 rfl) (args := #[]))) (mvT hZ (w_ hw 198 rfl)) (by decide) (backOf (W := 0) (rrr l Z a0 hw [] i A (own_fu (own_rot f 4 3 lN mN (f 3 iN)) 3 iN (f 4 lN)) ob nm iN mN h20 n0 (Nat.le_trans Z0 K20.1) P20 hi hbd (by rw [own_fu_same]; exact Im) mb im w1 w2 w3) hZ (w_ hw 198 rfl) (w_ hw 58 rfl) (by decide) (by decide)) (g := (mkF m 76 #[Vr (A 0), Vi i, Vi ((own_ht f (f 3 iN)) - (own_ht f (f 4 iN))), Vi i, Vi (f 3 iN)] [(.int i), (.ref (A 0))])) rfl (by rw [hml]; rfl) (Steps.refl _) (a := (A 0)) (by rw [e20]; exact q21) q21' (argsL := [(.int i)]) (rest := []) (lenOf pd_0 rfl) rfl (ww_ rfl rfl) (hb hby d38_76) (fun _ _ => ⟨rfl, e20, (by decide : 0 + 0 ≤ _), (by decide : 0 + 0 ≤ _)⟩)
   dsimp only [Pt.U, Pt.locs, Pt.cells, Pt.slots] at X21 l21 y21 z21 st21 hQ21
   subst l21 y21 z21
   obtain ⟨rfl, N21, K21, P21⟩ := hQ21
   have Nf21 := Fr.app N20 N21
   refine Goes.via (fun _ kz => st21.trans kz) ?_
   have J21 := K20.trans K21 (fun _ q => Or.inl q)
   refine Goes.via (S' := T21.setTop (mkF m 148 #[Vr (A 0), Vi i, Vi ((own_ht f (f 3 iN)) - (own_ht f (f 4 iN))), Vi ((own_fu (own_rot f 4 3 lN mN (f 3 iN)) 3 iN (f 4 lN)) 3 iN), Vi (f 3 iN)] [(.int ((own_fu (own_rot f 4 3 lN mN (f 3 iN)) 3 iN (f 4 lN)) 3 iN))])) (fun tz kz => ?_) ?_
   ·refine XS.istoreN X21.here hx rfl (hb hby d38_79) rfl (l' := #[Vr (A 0), Vi i, Vi ((own_ht f (f 3 iN)) - (own_ht f (f 4 iN))), Vi ((own_fu (own_rot f 4 3 lN mN (f 3 iN)) 3 iN (f 4 lN)) 3 iN), Vi (f 3 iN)]) rfl ?_
    refine XS.goto X21.here hx rfl (pc0 := 80) (pc' := 147) rfl (hb hby d38_80) (by decide) (by decide) ?_
    refine XS.iloadN X21.here hx rfl (hb hby d38_147) rfl ?_
    exact kz
   exact Goes.retI X21 hx Bd.notSynchronized Bd.returns (hb hby d38_148) (nb_ rfl) (nb_ rfl) ⟨_, _, rfl, Nf21, J21, P21, (by have z := own_bald (Or.inl ⟨rfl, rfl⟩ : own_pq 3 4) hi hbd Il lb Im mb TA TC TD TR nd2 (by omega) (by omega) (by omega) (by omega) (by omega); rw [← eM, ec] at z; rw [own_fu_same]; exact own_bal_of ⟨_, z.1, by omega, by omega, z.2⟩ (by omega) (by omega))⟩
  ·have q2 : ¬ u1 < u2 := mt (own_hdiff TA.hgt TB.hgt (by omega) (by omega)).2.2.mpr hc59_16
   have n5 := own_cat_nd nd1
   refine Goes.via (S' := T15.setTop (mkF m 76 #[Vr (A 0), Vi i, Vi ((own_ht f (f 3 iN)) - (own_ht f (f 4 iN))), Vi i, Vi (f 3 iN)] [(.int i), (.ref (A 0))])) (fun tz kz => ?_) ?_
   ·refine XS.icmpYes X15.here hx rfl (pc0 := 59) (pc' := 74) rfl (hb hby d38_59) rfl (flt hc59_16).2.2.2 (by decide) (by decide) ?_
    refine XS.aloadN X15.here hx rfl (hb hby d38_74) rfl rfl ?_
    refine XS.iloadN X15.here hx rfl (hb hby d38_75) rfl ?_
    exact kz
   obtain ⟨cq22, q22, q22'⟩ := (P.1).cell
   obtain ⟨_, _, ⟨T22, L22, k22, n22⟩, -, X22, ⟨Lc22, hQ22, l22, y22, z22⟩, st22⟩ := X15.privateBack hx (y := n_12) hown (mvT hZ (w_ hw 195 rfl)) (mvT hZ (w_ hw 196 rfl)) (sel_private hZ (w_ hw 57 rfl) (w_ hw 197 rfl) (w_ hw 196 rfl) (by decide)) (Cond.privateMethod_at (mvP hZ (w_ hw 197 rfl) (args := #[]))) (mvT hZ (w_ hw 198 rfl)) (by decide) (backOf (W := 0) (rrr l Z a0 hw [] i A f ob nm iN lN h0 n0 Z0 P hi hbd Il lb (fun z => n5.2.2.1 (own_cat_mem.mpr (Or.inr (Or.inl z)))) TA.n16 TB.n16 TR.n16) hZ (w_ hw 198 rfl) (w_ hw 58 rfl) (by decide) (by decide)) (g := (mkF m 76 #[Vr (A 0), Vi i, Vi ((own_ht f (f 3 iN)) - (own_ht f (f 4 iN))), Vi i, Vi (f 3 iN)] [(.int i), (.ref (A 0))])) rfl (by rw [hml]; rfl) (Steps.refl _) (a := (A 0)) (by rw [e15]; exact q22) q22' (argsL := [(.int i)]) (rest := []) (lenOf pd_0 rfl) rfl (ww_ rfl rfl) (hb hby d38_76) (fun _ _ => ⟨rfl, e15, (by decide : 0 + 0 ≤ _), (by decide : 0 + 0 ≤ _)⟩)
   dsimp only [Pt.U, Pt.locs, Pt.cells, Pt.slots] at X22 l22 y22 z22 st22 hQ22
   subst l22 y22 z22
   obtain ⟨rfl, N22, K22, P22⟩ := hQ22
   have Nf22 := Fr.app Nf15 N22
   refine Goes.via (fun _ kz => st22.trans kz) ?_
   refine Goes.via (S' := T22.setTop (mkF m 148 #[Vr (A 0), Vi i, Vi ((own_ht f (f 3 iN)) - (own_ht f (f 4 iN))), Vi (f 3 iN), Vi (f 3 iN)] [(.int (f 3 iN))])) (fun tz kz => ?_) ?_
   ·refine XS.istoreN X22.here hx rfl (hb hby d38_79) rfl (l' := #[Vr (A 0), Vi i, Vi ((own_ht f (f 3 iN)) - (own_ht f (f 4 iN))), Vi (f 3 iN), Vi (f 3 iN)]) rfl ?_
    refine XS.goto X22.here hx rfl (pc0 := 80) (pc' := 147) rfl (hb hby d38_80) (by decide) (by decide) ?_
    refine XS.iloadN X22.here hx rfl (hb hby d38_147) rfl ?_
    exact kz
   exact Goes.retI X22 hx Bd.notSynchronized Bd.returns (hb hby d38_148) (nb_ rfl) (nb_ rfl) ⟨_, _, rfl, Nf22, K22, P22, (by have z := own_bals (Or.inl ⟨rfl, rfl⟩ : own_pq 3 4) hi hbd Il lb TA TB TR nd1 (by omega) (by omega) (by omega) (by omega); rw [ec] at z; exact own_bal_of z (by omega) (by omega))⟩
 ·refine Goes.via (S' := T6.setTop (mkF m 85 #[Vr (A 0), Vi i, Vi ((own_ht f (f 3 iN)) - (own_ht f (f 4 iN))), Vi i, Vu] [(.int (-1)), (.int ((own_ht f (f 3 iN)) - (own_ht f (f 4 iN))))])) (fun tz kz => ?_) ?_
  ·refine XS.icmpYes X6.here hx rfl (pc0 := 26) (pc' := 83) rfl (hb hby d38_26) rfl (flt hc26_7).2.2.2 (by decide) (by decide) ?_
   refine XS.iloadN X6.here hx rfl (hb hby d38_83) rfl ?_
   refine XS.iconst X6.here hx rfl (hb hby d38_84) ?_
   exact kz
  by_cases hc85_23 : ((own_ht f (f 3 iN)) - (own_ht f (f 4 iN))) < (-1 : Int32)
  ·refine Goes.via (S' := T6.setTop (mkF m 89 #[Vr (A 0), Vi i, Vi ((own_ht f (f 3 iN)) - (own_ht f (f 4 iN))), Vi i, Vu] [(.ref (A 0))])) (fun tz kz => ?_) ?_
   ·refine XS.icmpNo X6.here hx rfl (hb hby d38_85) rfl (tlt hc85_23).2.1 ?_
    refine XS.aloadN X6.here hx rfl (hb hby d38_88) rfl rfl ?_
    exact kz
   have q1 : dr = dl + 2 := by have z := (own_hdiff TL.hgt TR.hgt (by omega) (by omega)).2.1.mp hc85_23; omega
   obtain ⟨lN, as, bs, u1, u2, Il, lb, TA, TB, eL, eh, c1, c2⟩ := own_Tr.posp (Or.inr ⟨rfl, rfl⟩ : own_pq 4 3) TR (by omega)
   have ec : own_cat 4 (own_cat 4 as lN bs) iN ls = ls ++ iN :: rs := by rw [eL]; rfl
   have nd1 : (own_cat 4 (own_cat 4 as lN bs) iN ls).Nodup := by rw [ec]; exact nd
   obtain ⟨T24, X24, e24, st24⟩ := getF X6 hx hZ hown (host := "") (Or.inl (w_ hw 70 rfl)) Via.refl e6 P.2.2.2.2.1 (g := (mkF m 89 #[Vr (A 0), Vi i, Vi ((own_ht f (f 3 iN)) - (own_ht f (f 4 iN))), Vi i, Vu] [(.ref (A 0))])) rfl rfl (hb hby d38_89)
   refine Goes.via st24 ?_
   refine Goes.via (S' := T24.setTop (mkF m 93 #[Vr (A 0), Vi i, Vi ((own_ht f (f 3 iN)) - (own_ht f (f 4 iN))), Vi i, Vu] [(.int i), (.ref (A 4))])) (fun tz kz => ?_) ?_
   ·refine XS.iloadN X24.here hx rfl (hb hby d38_92) rfl ?_
    exact kz
   obtain ⟨cl25, Ar25, Sz25, Hs25⟩ := P.2.2.2.2.2.2.2.2.2.2.2.2.2.1
   refine Goes.via (S' := T24.setTop (mkF m 98 #[Vr (A 0), Vi i, Vi ((own_ht f (f 3 iN)) - (own_ht f (f 4 iN))), Vi i, Vi (f 4 iN)] [(.ref (A 0)), (.ref (A 0))])) (fun tz kz => ?_) ?_
   ·refine X24.iaload hx (j := i) (v := (.int (f 4 iN))) (by rw [e24]; exact Ar25.1) (State.isArrayOf_alike hZ.alike Ar25.2.1) Ar25.2.2 (own_in Sz25 hi hbd) (own_at Hs25 hi hbd) (g := (mkF m 93 #[Vr (A 0), Vi i, Vi ((own_ht f (f 3 iN)) - (own_ht f (f 4 iN))), Vi i, Vu] [(.int i), (.ref (A 4))])) rfl rfl (hb hby d38_93) _ ?_
    refine XS.istore X24.here hx rfl (hb hby d38_94) rfl (l' := #[Vr (A 0), Vi i, Vi ((own_ht f (f 3 iN)) - (own_ht f (f 4 iN))), Vi i, Vi (f 4 iN)]) rfl ?_
    refine XS.aloadN X24.here hx rfl (hb hby d38_96) rfl rfl ?_
    refine XS.aloadN X24.here hx rfl (hb hby d38_97) rfl rfl ?_
    exact kz
   obtain ⟨T26, X26, e26, st26⟩ := getF X24 hx hZ hown (host := "") (Or.inl (w_ hw 68 rfl)) Via.refl e24 P.2.2.2.1 (g := (mkF m 98 #[Vr (A 0), Vi i, Vi ((own_ht f (f 3 iN)) - (own_ht f (f 4 iN))), Vi i, Vi (f 4 iN)] [(.ref (A 0)), (.ref (A 0))])) rfl rfl (hb hby d38_98)
   refine Goes.via st26 ?_
   refine Goes.via (S' := T26.setTop (mkF m 103 #[Vr (A 0), Vi i, Vi ((own_ht f (f 3 iN)) - (own_ht f (f 4 iN))), Vi i, Vi (f 4 iN)] [(.int (f 4 iN)), (.ref (A 3)), (.ref (A 0))])) (fun tz kz => ?_) ?_
   ·refine XS.iload X26.here hx rfl (hb hby d38_101) rfl ?_
    exact kz
   obtain ⟨cl27, Ar27, Sz27, Hs27⟩ := P.2.2.2.2.2.2.2.2.2.2.2.2.1
   refine Goes.via (S' := T26.setTop (mkF m 104 #[Vr (A 0), Vi i, Vi ((own_ht f (f 3 iN)) - (own_ht f (f 4 iN))), Vi i, Vi (f 4 iN)] [(.int (f 3 lN)), (.ref (A 0))])) (fun tz kz => ?_) ?_
   ·refine X26.iaload hx (j := (f 4 iN)) (v := (.int (f 3 lN))) (by rw [e26]; exact Ar27.1) (State.isArrayOf_alike hZ.alike Ar27.2.1) Ar27.2.2 (own_in Sz27 Il lb) (own_at Hs27 Il lb) (g := (mkF m 103 #[Vr (A 0), Vi i, Vi ((own_ht f (f 3 iN)) - (own_ht f (f 4 iN))), Vi i, Vi (f 4 iN)] [(.int (f 4 iN)), (.ref (A 3)), (.ref (A 0))])) rfl rfl (hb hby d38_103) _ ?_
    exact kz
   obtain ⟨cq28, q28, q28'⟩ := (P.1).cell
   obtain ⟨_, _, ⟨T28, L28, k28, n28⟩, -, X28, ⟨Lc28, hQ28, l28, y28, z28⟩, st28⟩ := X26.privateBack hx (y := n_1) hown (mvT hZ (w_ hw 95 rfl)) (mvT hZ (w_ hw 96 rfl)) (sel_private hZ (w_ hw 57 rfl) (w_ hw 97 rfl) (w_ hw 96 rfl) (by decide)) (Cond.privateMethod_at (mvP hZ (w_ hw 97 rfl) (args := #[]))) (mvT hZ (w_ hw 98 rfl)) (by decide) (backOf (W := 0) (rht l Z a0 hw [] (f 3 lN) A f ob nm h0 n0 Z0 P TB.n16) hZ (w_ hw 98 rfl) (w_ hw 58 rfl) (by decide) (by decide)) (g := (mkF m 104 #[Vr (A 0), Vi i, Vi ((own_ht f (f 3 iN)) - (own_ht f (f 4 iN))), Vi i, Vi (f 4 iN)] [(.int (f 3 lN)), (.ref (A 0))])) rfl (by rw [hml]; rfl) (Steps.refl _) (a := (A 0)) (by rw [e26]; exact q28) q28' (argsL := [(.int (f 3 lN))]) (rest := []) (lenOf pd_0 rfl) rfl (ww_ rfl rfl) (hb hby d38_104) (fun _ _ => ⟨rfl, e26, (by decide : 0 + 0 ≤ _), (by decide : 0 + 0 ≤ _)⟩)
   dsimp only [Pt.U, Pt.locs, Pt.cells, Pt.slots] at X28 l28 y28 z28 st28 hQ28
   subst l28 y28 z28
   obtain ⟨rfl, N28, e28⟩ := hQ28
   have Nf28 := Fr.app Nf6 N28
   refine Goes.via (fun _ kz => st28.trans kz) ?_
   refine Goes.via (S' := T28.setTop (mkF m 109 #[Vr (A 0), Vi i, Vi ((own_ht f (f 3 iN)) - (own_ht f (f 4 iN))), Vi i, Vi (f 4 iN)] [(.ref (A 0)), (.ref (A 0)), (.int (own_ht f (f 3 lN)))])) (fun tz kz => ?_) ?_
   ·refine XS.aloadN X28.here hx rfl (hb hby d38_107) rfl rfl ?_
    refine XS.aloadN X28.here hx rfl (hb hby d38_108) rfl rfl ?_
    exact kz
   obtain ⟨T29, X29, e29, st29⟩ := getF X28 hx hZ hown (host := "") (Or.inl (w_ hw 70 rfl)) Via.refl e28 P.2.2.2.2.1 (g := (mkF m 109 #[Vr (A 0), Vi i, Vi ((own_ht f (f 3 iN)) - (own_ht f (f 4 iN))), Vi i, Vi (f 4 iN)] [(.ref (A 0)), (.ref (A 0)), (.int (own_ht f (f 3 lN)))])) rfl rfl (hb hby d38_109)
   refine Goes.via st29 ?_
   refine Goes.via (S' := T29.setTop (mkF m 114 #[Vr (A 0), Vi i, Vi ((own_ht f (f 3 iN)) - (own_ht f (f 4 iN))), Vi i, Vi (f 4 iN)] [(.int (f 4 iN)), (.ref (A 4)), (.ref (A 0)), (.int (own_ht f (f 3 lN)))])) (fun tz kz => ?_) ?_
   ·refine XS.iload X29.here hx rfl (hb hby d38_112) rfl ?_
    exact kz
   obtain ⟨cl30, Ar30, Sz30, Hs30⟩ := P.2.2.2.2.2.2.2.2.2.2.2.2.2.1
   refine Goes.via (S' := T29.setTop (mkF m 115 #[Vr (A 0), Vi i, Vi ((own_ht f (f 3 iN)) - (own_ht f (f 4 iN))), Vi i, Vi (f 4 iN)] [(.int (f 4 lN)), (.ref (A 0)), (.int (own_ht f (f 3 lN)))])) (fun tz kz => ?_) ?_
   ·refine X29.iaload hx (j := (f 4 iN)) (v := (.int (f 4 lN))) (by rw [e29]; exact Ar30.1) (State.isArrayOf_alike hZ.alike Ar30.2.1) Ar30.2.2 (own_in Sz30 Il lb) (own_at Hs30 Il lb) (g := (mkF m 114 #[Vr (A 0), Vi i, Vi ((own_ht f (f 3 iN)) - (own_ht f (f 4 iN))), Vi i, Vi (f 4 iN)] [(.int (f 4 iN)), (.ref (A 4)), (.ref (A 0)), (.int (own_ht f (f 3 lN)))])) rfl rfl (hb hby d38_114) _ ?_
    exact kz
   obtain ⟨cq31, q31, q31'⟩ := (P.1).cell
   obtain ⟨_, _, ⟨T31, L31, k31, n31⟩, -, X31, ⟨Lc31, hQ31, l31, y31, z31⟩, st31⟩ := X29.privateBack hx (y := n_1) hown (mvT hZ (w_ hw 95 rfl)) (mvT hZ (w_ hw 96 rfl)) (sel_private hZ (w_ hw 57 rfl) (w_ hw 97 rfl) (w_ hw 96 rfl) (by decide)) (Cond.privateMethod_at (mvP hZ (w_ hw 97 rfl) (args := #[]))) (mvT hZ (w_ hw 98 rfl)) (by decide) (backOf (W := 1) (rht l Z a0 hw [] (f 4 lN) A f ob nm h0 n0 Z0 P TA.n16) hZ (w_ hw 98 rfl) (w_ hw 58 rfl) (by decide) (by decide)) (g := (mkF m 115 #[Vr (A 0), Vi i, Vi ((own_ht f (f 3 iN)) - (own_ht f (f 4 iN))), Vi i, Vi (f 4 iN)] [(.int (f 4 lN)), (.ref (A 0)), (.int (own_ht f (f 3 lN)))])) rfl (by rw [hml]; rfl) (Steps.refl _) (a := (A 0)) (by rw [e29]; exact q31) q31' (argsL := [(.int (f 4 lN))]) (rest := [(.int (own_ht f (f 3 lN)))]) (lenOf pd_0 rfl) rfl (ww_ rfl rfl) (hb hby d38_115) (fun _ _ => ⟨rfl, e29, (by decide : 0 + 0 ≤ _), (by decide : 0 + 0 ≤ _)⟩)
   dsimp only [Pt.U, Pt.locs, Pt.cells, Pt.slots] at X31 l31 y31 z31 st31 hQ31
   subst l31 y31 z31
   obtain ⟨rfl, N31, e31⟩ := hQ31
   have Nf31 := Fr.app Nf28 N31
   refine Goes.via (fun _ kz => st31.trans kz) ?_
   by_cases hc118_32 : (own_ht f (f 4 lN)) < (own_ht f (f 3 lN))
   ·refine Goes.via (S' := T31.setTop (mkF m 122 #[Vr (A 0), Vi i, Vi ((own_ht f (f 3 iN)) - (own_ht f (f 4 iN))), Vi i, Vi (f 4 iN)] [(.ref (A 0))])) (fun tz kz => ?_) ?_
    ·refine XS.icmpNo X31.here hx rfl (hb hby d38_118) rfl (tlt hc118_32).2.2.2 ?_
     refine XS.aloadN X31.here hx rfl (hb hby d38_121) rfl rfl ?_
     exact kz
    have q2 : u1 < u2 := (own_hdiff TA.hgt TB.hgt (by omega) (by omega)).2.2.mp hc118_32
    obtain ⟨mN, cs, ds, u3, u4, Im, mb, TC, TD, eM, em, c3, c4⟩ := own_Tr.posp (Or.inr ⟨rfl, rfl⟩ : own_pq 4 3) TB (by omega)
    have nd2 : (own_cat 4 (own_cat 4 as lN (own_cat 4 cs mN ds)) iN ls).Nodup := by rw [← eM]; exact nd1
    obtain ⟨lm, im, w1, w2, w3⟩ := own_baldn (Or.inr ⟨rfl, rfl⟩ : own_pq 4 3) Il lb TA TC TD TL nd2 (by omega) (by omega) (by omega)
    obtain ⟨T33, X33, e33, st33⟩ := getF X31 hx hZ hown (host := "") (Or.inl (w_ hw 70 rfl)) Via.refl e31 P.2.2.2.2.1 (g := (mkF m 122 #[Vr (A 0), Vi i, Vi ((own_ht f (f 3 iN)) - (own_ht f (f 4 iN))), Vi i, Vi (f 4 iN)] [(.ref (A 0))])) rfl rfl (hb hby d38_122)
    refine Goes.via st33 ?_
    refine Goes.via (S' := T33.setTop (mkF m 129 #[Vr (A 0), Vi i, Vi ((own_ht f (f 3 iN)) - (own_ht f (f 4 iN))), Vi i, Vi (f 4 iN)] [(.int (f 4 iN)), (.ref (A 0)), (.int i), (.ref (A 4))])) (fun tz kz => ?_) ?_
    ·refine XS.iloadN X33.here hx rfl (hb hby d38_125) rfl ?_
     refine XS.aloadN X33.here hx rfl (hb hby d38_126) rfl rfl ?_
     refine XS.iload X33.here hx rfl (hb hby d38_127) rfl ?_
     exact kz
    obtain ⟨cq34, q34, q34'⟩ := (P.1).cell
    obtain ⟨_, _, ⟨T34, L34, k34, n34⟩, -, X34, ⟨Lc34, hQ34, l34, y34, z34⟩, st34⟩ := X33.privateBack hx (y := n_12) hown (mvT hZ (w_ hw 195 rfl)) (mvT hZ (w_ hw 196 rfl)) (sel_private hZ (w_ hw 57 rfl) (w_ hw 197 rfl) (w_ hw 196 rfl) (by decide)) (Cond.privateMethod_at (mvP hZ (w_ hw 197 rfl) (args := #[]))) (mvT hZ (w_ hw 198 rfl)) (by decide) (backOf (W := 2) (rrr l Z a0 hw [] (f 4 iN) A f ob nm lN mN h0 n0 Z0 P Il lb Im mb lm TD.n16 TC.n16 TA.n16) hZ (w_ hw 198 rfl) (w_ hw 58 rfl) (by decide) (by decide)) (g := (mkF m 129 #[Vr (A 0), Vi i, Vi ((own_ht f (f 3 iN)) - (own_ht f (f 4 iN))), Vi i, Vi (f 4 iN)] [(.int (f 4 iN)), (.ref (A 0)), (.int i), (.ref (A 4))])) rfl (by rw [hml]; rfl) (Steps.refl _) (a := (A 0)) (by rw [e33]; exact q34) q34' (argsL := [(.int (f 4 iN))]) (rest := [(.int i), (.ref (A 4))]) (lenOf pd_0 rfl) rfl (ww_ rfl rfl) (hb hby d38_129) (fun _ _ => ⟨rfl, e33, (by decide : 0 + 0 ≤ _), (by decide : 0 + 0 ≤ _)⟩)
    dsimp only [Pt.U, Pt.locs, Pt.cells, Pt.slots] at X34 l34 y34 z34 st34 hQ34
    subst l34 y34 z34
    obtain ⟨rfl, N34, K34, P34⟩ := hQ34
    have Nf34 := Fr.app Nf31 N34
    refine Goes.via (fun _ kz => st34.trans kz) ?_
    obtain ⟨cl35, Ar35, Sz35, Hs35⟩ := P34.2.2.2.2.2.2.2.2.2.2.2.2.2.1
    obtain ⟨T36, h36, X36, e36, W36, st36⟩ := stI X34 hx hZ rfl Ar35 (j := i) (own_in Sz35 hi hbd) (g := (mkF m 132 #[Vr (A 0), Vi i, Vi ((own_ht f (f 3 iN)) - (own_ht f (f 4 iN))), Vi i, Vi (f 4 iN)] [(.int (f 3 lN)), (.int i), (.ref (A 4))])) rfl rfl (hb hby d38_132)
    refine Goes.via st36 ?_
    have N36 := Fr.snoc X36 Nf34 (P34.2.2.2.2.2.2.2.2.2.2.2.2.2.2.2.2.2.1 4 (by decide))
    rw [show (i).toNatClampNeg = iN from (hi).nat] at W36
    have P36 := P34.w4 W36
    have K36 := K34.wr W36 (Or.inl own_mem4)
    refine Goes.via (S' := T36.setTop (mkF m 135 #[Vr (A 0), Vi i, Vi ((own_ht f (f 3 iN)) - (own_ht f (f 4 iN))), Vi i, Vi (f 4 iN)] [(.int i), (.ref (A 0))])) (fun tz kz => ?_) ?_
    ·refine XS.aloadN X36.here hx rfl (hb hby d38_133) rfl rfl ?_
     refine XS.iloadN X36.here hx rfl (hb hby d38_134) rfl ?_
     exact kz
    obtain ⟨cq37, q37, q37'⟩ := (P36.1).cell
    obtain ⟨_, _, ⟨T37, L37, k37, n37⟩, -, X37, ⟨Lc37, hQ37, l37, y37, z37⟩, st37⟩ := X36.privateBack hx (y := n_13) hown (mvT hZ (w_ hw 199 rfl)) (mvT hZ (w_ hw 200 rfl)) (sel_private hZ (w_ hw 57 rfl) (w_ hw 201 rfl) (w_ hw 200 rfl) (by decide)) (Cond.privateMethod_at (mvP hZ (w_ hw 201 rfl) (args := #[]))) (mvT hZ (w_ hw 202 rfl)) (by decide) (backOf (W := 0) (rrl l Z a0 hw [] i A (own_fu (own_rot f 3 4 lN mN (f 4 iN)) 4 iN (f 3 lN)) ob nm iN mN h36 n0 (Nat.le_trans Z0 K36.1) P36 hi hbd (by rw [own_fu_same]; exact Im) mb im w1 w2 w3) hZ (w_ hw 202 rfl) (w_ hw 58 rfl) (by decide) (by decide)) (g := (mkF m 135 #[Vr (A 0), Vi i, Vi ((own_ht f (f 3 iN)) - (own_ht f (f 4 iN))), Vi i, Vi (f 4 iN)] [(.int i), (.ref (A 0))])) rfl (by rw [hml]; rfl) (Steps.refl _) (a := (A 0)) (by rw [e36]; exact q37) q37' (argsL := [(.int i)]) (rest := []) (lenOf pd_0 rfl) rfl (ww_ rfl rfl) (hb hby d38_135) (fun _ _ => ⟨rfl, e36, (by decide : 0 + 0 ≤ _), (by decide : 0 + 0 ≤ _)⟩)
    dsimp only [Pt.U, Pt.locs, Pt.cells, Pt.slots] at X37 l37 y37 z37 st37 hQ37
    subst l37 y37 z37
    obtain ⟨rfl, N37, K37, P37⟩ := hQ37
    have Nf37 := Fr.app N36 N37
    refine Goes.via (fun _ kz => st37.trans kz) ?_
    have J37 := K36.trans K37 (fun _ q => Or.inl q)
    refine Goes.via (S' := T37.setTop (mkF m 148 #[Vr (A 0), Vi i, Vi ((own_ht f (f 3 iN)) - (own_ht f (f 4 iN))), Vi ((own_fu (own_rot f 3 4 lN mN (f 4 iN)) 4 iN (f 3 lN)) 4 iN), Vi (f 4 iN)] [(.int ((own_fu (own_rot f 3 4 lN mN (f 4 iN)) 4 iN (f 3 lN)) 4 iN))])) (fun tz kz => ?_) ?_
    ·refine XS.istoreN X37.here hx rfl (hb hby d38_138) rfl (l' := #[Vr (A 0), Vi i, Vi ((own_ht f (f 3 iN)) - (own_ht f (f 4 iN))), Vi ((own_fu (own_rot f 3 4 lN mN (f 4 iN)) 4 iN (f 3 lN)) 4 iN), Vi (f 4 iN)]) rfl ?_
     refine XS.goto X37.here hx rfl (pc0 := 139) (pc' := 147) rfl (hb hby d38_139) (by decide) (by decide) ?_
     refine XS.iloadN X37.here hx rfl (hb hby d38_147) rfl ?_
     exact kz
    exact Goes.retI X37 hx Bd.notSynchronized Bd.returns (hb hby d38_148) (nb_ rfl) (nb_ rfl) ⟨_, _, rfl, Nf37, J37, P37, (by have z := own_bald (Or.inr ⟨rfl, rfl⟩ : own_pq 4 3) hi hbd Il lb Im mb TA TC TD TL nd2 (by omega) (by omega) (by omega) (by omega) (by omega); rw [← eM, ec] at z; rw [own_fu_same]; exact own_bal_of ⟨_, z.1, by omega, by omega, z.2⟩ (by omega) (by omega))⟩
   ·have q2 : ¬ u1 < u2 := mt (own_hdiff TA.hgt TB.hgt (by omega) (by omega)).2.2.mpr hc118_32
    have n5 := own_cat_nd nd1
    refine Goes.via (S' := T31.setTop (mkF m 135 #[Vr (A 0), Vi i, Vi ((own_ht f (f 3 iN)) - (own_ht f (f 4 iN))), Vi i, Vi (f 4 iN)] [(.int i), (.ref (A 0))])) (fun tz kz => ?_) ?_
    ·refine XS.icmpYes X31.here hx rfl (pc0 := 118) (pc' := 133) rfl (hb hby d38_118) rfl (flt hc118_32).2.2.2 (by decide) (by decide) ?_
     refine XS.aloadN X31.here hx rfl (hb hby d38_133) rfl rfl ?_
     refine XS.iloadN X31.here hx rfl (hb hby d38_134) rfl ?_
     exact kz
    obtain ⟨cq38, q38, q38'⟩ := (P.1).cell
    obtain ⟨_, _, ⟨T38, L38, k38, n38⟩, -, X38, ⟨Lc38, hQ38, l38, y38, z38⟩, st38⟩ := X31.privateBack hx (y := n_13) hown (mvT hZ (w_ hw 199 rfl)) (mvT hZ (w_ hw 200 rfl)) (sel_private hZ (w_ hw 57 rfl) (w_ hw 201 rfl) (w_ hw 200 rfl) (by decide)) (Cond.privateMethod_at (mvP hZ (w_ hw 201 rfl) (args := #[]))) (mvT hZ (w_ hw 202 rfl)) (by decide) (backOf (W := 0) (rrl l Z a0 hw [] i A f ob nm iN lN h0 n0 Z0 P hi hbd Il lb (fun z => n5.2.2.1 (own_cat_mem.mpr (Or.inr (Or.inl z)))) TA.n16 TB.n16 TL.n16) hZ (w_ hw 202 rfl) (w_ hw 58 rfl) (by decide) (by decide)) (g := (mkF m 135 #[Vr (A 0), Vi i, Vi ((own_ht f (f 3 iN)) - (own_ht f (f 4 iN))), Vi i, Vi (f 4 iN)] [(.int i), (.ref (A 0))])) rfl (by rw [hml]; rfl) (Steps.refl _) (a := (A 0)) (by rw [e31]; exact q38) q38' (argsL := [(.int i)]) (rest := []) (lenOf pd_0 rfl) rfl (ww_ rfl rfl) (hb hby d38_135) (fun _ _ => ⟨rfl, e31, (by decide : 0 + 0 ≤ _), (by decide : 0 + 0 ≤ _)⟩)
    dsimp only [Pt.U, Pt.locs, Pt.cells, Pt.slots] at X38 l38 y38 z38 st38 hQ38
    subst l38 y38 z38
    obtain ⟨rfl, N38, K38, P38⟩ := hQ38
    have Nf38 := Fr.app Nf31 N38
    refine Goes.via (fun _ kz => st38.trans kz) ?_
    refine Goes.via (S' := T38.setTop (mkF m 148 #[Vr (A 0), Vi i, Vi ((own_ht f (f 3 iN)) - (own_ht f (f 4 iN))), Vi (f 4 iN), Vi (f 4 iN)] [(.int (f 4 iN))])) (fun tz kz => ?_) ?_
    ·refine XS.istoreN X38.here hx rfl (hb hby d38_138) rfl (l' := #[Vr (A 0), Vi i, Vi ((own_ht f (f 3 iN)) - (own_ht f (f 4 iN))), Vi (f 4 iN), Vi (f 4 iN)]) rfl ?_
     refine XS.goto X38.here hx rfl (pc0 := 139) (pc' := 147) rfl (hb hby d38_139) (by decide) (by decide) ?_
     refine XS.iloadN X38.here hx rfl (hb hby d38_147) rfl ?_
     exact kz
    exact Goes.retI X38 hx Bd.notSynchronized Bd.returns (hb hby d38_148) (nb_ rfl) (nb_ rfl) ⟨_, _, rfl, Nf38, K38, P38, (by have z := own_bals (Or.inr ⟨rfl, rfl⟩ : own_pq 4 3) hi hbd Il lb TA TB TL nd1 (by omega) (by omega) (by omega) (by omega); rw [ec] at z; exact own_bal_of z (by omega) (by omega))⟩
  ·refine Goes.via (S' := T6.setTop (mkF m 144 #[Vr (A 0), Vi i, Vi ((own_ht f (f 3 iN)) - (own_ht f (f 4 iN))), Vi i, Vu] [(.int i), (.ref (A 0))])) (fun tz kz => ?_) ?_
   ·refine XS.icmpYes X6.here hx rfl (pc0 := 85) (pc' := 142) rfl (hb hby d38_85) rfl (flt hc85_23).2.1 (by decide) (by decide) ?_
    refine XS.aloadN X6.here hx rfl (hb hby d38_142) rfl rfl ?_
    refine XS.iloadN X6.here hx rfl (hb hby d38_143) rfl ?_
    exact kz
   have z1 : dl ≤ dr + 1 := by have z := mt (own_hdiff TL.hgt TR.hgt (by omega) (by omega)).1.mpr hc26_7; omega
   have z2 : dr ≤ dl + 1 := by have z := mt (own_hdiff TL.hgt TR.hgt (by omega) (by omega)).2.1.mpr hc85_23; omega
   obtain ⟨cq39, q39, q39'⟩ := (P.1).cell
   obtain ⟨_, _, ⟨T39, L39, k39, n39⟩, -, X39, ⟨Lc39, hQ39, l39, y39, z39⟩, st39⟩ := X6.privateBack hx (y := n_4) hown (mvT hZ (w_ hw 184 rfl)) (mvT hZ (w_ hw 185 rfl)) (sel_private hZ (w_ hw 57 rfl) (w_ hw 186 rfl) (w_ hw 185 rfl) (by decide)) (Cond.privateMethod_at (mvP hZ (w_ hw 186 rfl) (args := #[]))) (mvT hZ (w_ hw 187 rfl)) (by decide) (backOf (W := 0) (rms l Z a0 hw [] i A f ob nm iN h0 n0 Z0 P hi hbd TL.n16 TR.n16) hZ (w_ hw 187 rfl) (w_ hw 58 rfl) (by decide) (by decide)) (g := (mkF m 144 #[Vr (A 0), Vi i, Vi ((own_ht f (f 3 iN)) - (own_ht f (f 4 iN))), Vi i, Vu] [(.int i), (.ref (A 0))])) rfl (by rw [hml]; rfl) (Steps.refl _) (a := (A 0)) (by rw [e6]; exact q39) q39' (argsL := [(.int i)]) (rest := []) (lenOf pd_5 rfl) rfl (ww_ rfl rfl) (hb hby d38_144) (fun _ _ => ⟨rfl, e6, (by decide : 0 + 0 ≤ _), (by decide : 0 + 0 ≤ _)⟩)
   dsimp only [Pt.U, Pt.locs, Pt.cells, Pt.slots] at X39 l39 y39 z39 st39 hQ39
   subst l39 y39 z39
   obtain ⟨rfl, N39, K39, P39⟩ := hQ39
   have Nf39 := Fr.app Nf6 N39
   refine Goes.via (fun _ kz => st39.trans kz) ?_
   refine Goes.via (S' := T39.setTop (mkF m 148 #[Vr (A 0), Vi i, Vi ((own_ht f (f 3 iN)) - (own_ht f (f 4 iN))), Vi i, Vu] [(.int i)])) (fun tz kz => ?_) ?_
   ·refine XS.iloadN X39.here hx rfl (hb hby d38_147) rfl ?_
    exact kz
   exact Goes.retI X39 hx Bd.notSynchronized Bd.returns (hb hby d38_148) (nb_ rfl) (nb_ rfl) ⟨_, _, rfl, Nf39, K39, P39, own_balm TL TR hi hbd nd z1 z2 (by omega) (by omega)⟩
theorem d34_0 : De c_34 0 (.iload_n 2) 1 := by decide +kernel
theorem d34_1 : De c_34 1 (.istore_n 3) 1 := by decide +kernel
theorem d34_2 : De c_34 2 (.iload_n 1) 1 := by decide +kernel
theorem d34_3 : De c_34 3 (.iconst (-1)) 1 := by decide +kernel
theorem d34_4 : De c_34 4 (.if_icmp .eq 86) 3 := by decide +kernel
theorem d34_7 : De c_34 7 (.aload_n 0) 1 := by decide +kernel
theorem d34_8 : De c_34 8 (.getfield 7) 3 := by decide +kernel
theorem d34_11 : De c_34 11 (.aload_n 0) 1 := by decide +kernel
theorem d34_12 : De c_34 12 (.iload_n 2) 1 := by decide +kernel
theorem d34_13 : De c_34 13 (.invokevirtual 46) 3 := by decide +kernel
theorem d34_16 : De c_34 16 (.aload_n 0) 1 := by decide +kernel
theorem d34_17 : De c_34 17 (.getfield 13) 3 := by decide +kernel
theorem d34_20 : De c_34 20 (.iload_n 2) 1 := by decide +kernel
theorem d34_21 : De c_34 21 .iaload 1 := by decide +kernel
theorem d34_22 : De c_34 22 (.aload_n 0) 1 := by decide +kernel
theorem d34_23 : De c_34 23 (.getfield 7) 3 := by decide +kernel
theorem d34_26 : De c_34 26 (.aload_n 0) 1 := by decide +kernel
theorem d34_27 : De c_34 27 (.iload_n 1) 1 := by decide +kernel
theorem d34_28 : De c_34 28 (.invokevirtual 46) 3 := by decide +kernel
theorem d34_31 : De c_34 31 (.aload_n 0) 1 := by decide +kernel
theorem d34_32 : De c_34 32 (.getfield 13) 3 := by decide +kernel
theorem d34_35 : De c_34 35 (.iload_n 1) 1 := by decide +kernel
theorem d34_36 : De c_34 36 .iaload 1 := by decide +kernel
theorem d34_37 : De c_34 37 (.invokestatic 82) 3 := by decide +kernel
theorem d34_40 : De c_34 40 (.istore 4) 2 := by decide +kernel
theorem d34_42 : De c_34 42 (.iload 4) 2 := by decide +kernel
theorem d34_44 : De c_34 44 (.ifCond .ge 23) 3 := by decide +kernel
theorem d34_47 : De c_34 47 (.aload_n 0) 1 := by decide +kernel
theorem d34_48 : De c_34 48 (.getfield 17) 3 := by decide +kernel
theorem d34_51 : De c_34 51 (.iload_n 1) 1 := by decide +kernel
theorem d34_52 : De c_34 52 (.aload_n 0) 1 := by decide +kernel
theorem d34_53 : De c_34 53 (.aload_n 0) 1 := by decide +kernel
theorem d34_54 : De c_34 54 (.getfield 17) 3 := by decide +kernel
theorem d34_57 : De c_34 57 (.iload_n 1) 1 := by decide +kernel
theorem d34_58 : De c_34 58 .iaload 1 := by decide +kernel
theorem d34_59 : De c_34 59 (.iload_n 2) 1 := by decide +kernel
theorem d34_60 : De c_34 60 (.invokevirtual 76) 3 := by decide +kernel
theorem d34_63 : De c_34 63 .iastore 1 := by decide +kernel
theorem d34_64 : De c_34 64 (.goto 20) 3 := by decide +kernel
theorem d34_67 : De c_34 67 (.aload_n 0) 1 := by decide +kernel
theorem d34_68 : De c_34 68 (.getfield 20) 3 := by decide +kernel
theorem d34_71 : De c_34 71 (.iload_n 1) 1 := by decide +kernel
theorem d34_72 : De c_34 72 (.aload_n 0) 1 := by decide +kernel
theorem d34_73 : De c_34 73 (.aload_n 0) 1 := by decide +kernel
theorem d34_74 : De c_34 74 (.getfield 20) 3 := by decide +kernel
theorem d34_77 : De c_34 77 (.iload_n 1) 1 := by decide +kernel
theorem d34_78 : De c_34 78 .iaload 1 := by decide +kernel
theorem d34_79 : De c_34 79 (.iload_n 2) 1 := by decide +kernel
theorem d34_80 : De c_34 80 (.invokevirtual 76) 3 := by decide +kernel
theorem d34_83 : De c_34 83 .iastore 1 := by decide +kernel
theorem d34_84 : De c_34 84 (.aload_n 0) 1 := by decide +kernel
theorem d34_85 : De c_34 85 (.iload_n 1) 1 := by decide +kernel
theorem d34_86 : De c_34 86 (.invokevirtual 86) 3 := by decide +kernel
theorem d34_89 : De c_34 89 (.istore_n 3) 1 := by decide +kernel
theorem d34_90 : De c_34 90 (.iload_n 3) 1 := by decide +kernel
theorem d34_91 : De c_34 91 .ireturn 1 := by decide +kernel
theorem pn_34 : plainName "com/example/upkeep_window/upkeepwindow/policy/OpenNames" = true := by first | (simp [plainName, overriddenIn]; done) | decide +kernel
theorem ef_34 (m : MethodId) (x0 : Addr) (x1 : Int32) (x2 : Int32) : entryFrame m #[(.ref x0), (.int x1), (.int x2)] 5 = mkF m 0 #[Vr x0, Vi x1, Vi x2, Vu, Vu] [] := by first | rfl | simp [entryFrame, mkF, argsToLocals, Value.category]
def Q_rns_0 (Z : State) (r : Int32) (x : Int32) (A : Nat → Addr) (f : Nat → Nat → Int32) (ob nm : Int32) (κ : Nat → Nat) (xs : List Nat) (ht B xN : Nat) (h0 : Heap) (n0 : Nat) : Option Value → Heap → List Loc → Prop := fun v h L => ∃ f' r', v = some (.int r') ∧ Fr n0 L ∧ Keep h0 h (own_ws A) ∧ own_ON Z n0 h A f' ob nm ∧ own_insd f f' κ xN r' xs ht
theorem rns_0 (l : Launch) (Z : State) (a0 : Array Value) (hw : ∀ d ∈ tables_1, d.before a0 Z = true) (ws : List Jvm.Cond) (r : Int32) (x : Int32) (A : Nat → Addr) (f : Nat → Nat → Int32) (ob nm : Int32) (κ : Nat → Nat) (xs : List Nat) (ht B xN : Nat) (h0 : Heap) (n0 : Nat) (Z0 : n0 ≤ h0.size) (P : own_ON Z n0 h0 A f ob nm) (T : own_Tr f r xs ht) (hN : ht ≤ 0) (S : own_so κ xs) (ND : ∀ i ∈ xs, own_nd f κ B i) (hxx : own_I x xN) (xb : xN < 16) (NX : own_nd f κ B xN) (h3 : f 3 xN = -1) (h4 : f 4 xN = -1) (h5 : f 5 xN = 1) (nx : xN ∉ xs) (nk : ¬ own_has κ (κ xN) xs) (Bb : B ≤ 40) (cr : own_cr (f 1)) :
  own_M l Z n_15 (Jvm.Cond.code n_15 prog_33_method_7_code 5 (some .int)) ws (Rm 0 0 0 0) #[(.ref (A 0)), (.int r), (.int x)] h0 (Q_rns_0 Z r x A f ob nm κ xs ht B xN h0 n0) := by
 refine MetFree.of_bodySF (plainFor_of_name pn_34) hisR ?_
 intro p e s m args below meth c s₁ Bd hml0 hP hK
 obtain ⟨rfl, hZ, hh⟩ := hP
 have hx := Bd.exec
 have hby := Bd.bytes
 have hml : c.maxLocals = 5 := hml0
 have hown : s.vm.findClass "com/example/upkeep_window/upkeepwindow/policy/OpenNames" = some m.cls := findClass_of_methodNamed Bd.named
 have hnm := (name_of_methodNamed Bd.named Bd.method).1
 have X0 : Stand p l e (Rm 0 0 0 0) s m #[(.ref (A 0)), (.int r), (.int x)] below meth c s₁ [] 0 0 := Stand.of_body Bd
 have e0 : s₁.heap = h0 := by rw [← hh, Bd.state]; rfl
 have N0 := Fr.nil n0
 show Goes p e below (Fin s (Q_rns_0 Z r x A f ob nm κ xs ht B xN h0 n0) (Rm 0 0 0 0).cells (Rm 0 0 0 0).slots) _
 refine Goes.via (S' := s₁.setTop (mkF m 0 #[Vr (A 0), Vi r, Vi x, Vu, Vu] [])) (fun tz kz => castTop (ef_34 m (A 0) r x ) kz) ?_
 rcases T.inv with ⟨y1, y2, y3⟩ | ⟨iN, ls, rs, dl, dr, Ii, ib, TL, TR, ex0, e5, eh, b1, b2⟩
 ·skip
  refine Goes.via (S' := s₁.setTop (mkF m 91 #[Vr (A 0), Vi r, Vi x, Vi x, Vu] [(.int x)])) (fun tz kz => ?_) ?_
  ·refine XS.iloadN X0.here hx rfl (hb hby d34_0) rfl ?_
   refine XS.istoreN X0.here hx rfl (hb hby d34_1) rfl (l' := #[Vr (A 0), Vi r, Vi x, Vi x, Vu]) rfl ?_
   refine XS.iloadN X0.here hx rfl (hb hby d34_2) rfl ?_
   refine XS.iconst X0.here hx rfl (hb hby d34_3) ?_
   refine XS.icmpYes X0.here hx rfl (pc0 := 4) (pc' := 90) rfl (hb hby d34_4) rfl (teq y1).1 (by decide) (by decide) ?_
   refine XS.iloadN X0.here hx rfl (hb hby d34_90) rfl ?_
   exact kz
  exact Goes.retI X0 hx Bd.notSynchronized Bd.returns (hb hby d34_91) (nb_ rfl) (nb_ rfl) ⟨f, x, rfl, N0, by rw [e0]; exact Keep.refl h0 (own_ws A), by rw [e0]; exact P, by rw [y2, y3]; exact own_ins0 hxx xb h3 h4 h5⟩
 ·exact absurd hN (by omega)
def Q_rns_1 (Z : State) (r : Int32) (x : Int32) (A : Nat → Addr) (f : Nat → Nat → Int32) (ob nm : Int32) (κ : Nat → Nat) (xs : List Nat) (ht B xN : Nat) (h0 : Heap) (n0 : Nat) : Option Value → Heap → List Loc → Prop := fun v h L => ∃ f' r', v = some (.int r') ∧ Fr n0 L ∧ Keep h0 h (own_ws A) ∧ own_ON Z n0 h A f' ob nm ∧ own_insd f f' κ xN r' xs ht
theorem rns_1 (l : Launch) (Z : State) (a0 : Array Value) (hw : ∀ d ∈ tables_1, d.before a0 Z = true) (ws : List Jvm.Cond) (r : Int32) (x : Int32) (A : Nat → Addr) (f : Nat → Nat → Int32) (ob nm : Int32) (κ : Nat → Nat) (xs : List Nat) (ht B xN : Nat) (h0 : Heap) (n0 : Nat) (Z0 : n0 ≤ h0.size) (P : own_ON Z n0 h0 A f ob nm) (T : own_Tr f r xs ht) (hN : ht ≤ 1) (S : own_so κ xs) (ND : ∀ i ∈ xs, own_nd f κ B i) (hxx : own_I x xN) (xb : xN < 16) (NX : own_nd f κ B xN) (h3 : f 3 xN = -1) (h4 : f 4 xN = -1) (h5 : f 5 xN = 1) (nx : xN ∉ xs) (nk : ¬ own_has κ (κ xN) xs) (Bb : B ≤ 40) (cr : own_cr (f 1)) :
  own_M l Z n_15 (Jvm.Cond.code n_15 prog_33_method_7_code 5 (some .int)) ws (Rm 4 0 0 80) #[(.ref (A 0)), (.int r), (.int x)] h0 (Q_rns_1 Z r x A f ob nm κ xs ht B xN h0 n0) := by
 refine MetFree.of_bodySF (plainFor_of_name pn_34) hisR ?_
 intro p e s m args below meth c s₁ Bd hml0 hP hK
 obtain ⟨rfl, hZ, hh⟩ := hP
 have hx := Bd.exec
 have hby := Bd.bytes
 have hml : c.maxLocals = 5 := hml0
 have hown : s.vm.findClass "com/example/upkeep_window/upkeepwindow/policy/OpenNames" = some m.cls := findClass_of_methodNamed Bd.named
 have hnm := (name_of_methodNamed Bd.named Bd.method).1
 have X0 : Stand p l e (Rm 4 0 0 80) s m #[(.ref (A 0)), (.int r), (.int x)] below meth c s₁ [] 0 0 := Stand.of_body Bd
 have e0 : s₁.heap = h0 := by rw [← hh, Bd.state]; rfl
 have N0 := Fr.nil n0
 show Goes p e below (Fin s (Q_rns_1 Z r x A f ob nm κ xs ht B xN h0 n0) (Rm 4 0 0 80).cells (Rm 4 0 0 80).slots) _
 refine Goes.via (S' := s₁.setTop (mkF m 0 #[Vr (A 0), Vi r, Vi x, Vu, Vu] [])) (fun tz kz => castTop (ef_34 m (A 0) r x ) kz) ?_
 rcases T.inv with ⟨y1, y2, y3⟩ | ⟨iN, ls, rs, dl, dr, Ii, ib, TL, TR, ex0, e5, eh, b1, b2⟩
 ·skip
  refine Goes.via (S' := s₁.setTop (mkF m 91 #[Vr (A 0), Vi r, Vi x, Vi x, Vu] [(.int x)])) (fun tz kz => ?_) ?_
  ·refine XS.iloadN X0.here hx rfl (hb hby d34_0) rfl ?_
   refine XS.istoreN X0.here hx rfl (hb hby d34_1) rfl (l' := #[Vr (A 0), Vi r, Vi x, Vi x, Vu]) rfl ?_
   refine XS.iloadN X0.here hx rfl (hb hby d34_2) rfl ?_
   refine XS.iconst X0.here hx rfl (hb hby d34_3) ?_
   refine XS.icmpYes X0.here hx rfl (pc0 := 4) (pc' := 90) rfl (hb hby d34_4) rfl (teq y1).1 (by decide) (by decide) ?_
   refine XS.iloadN X0.here hx rfl (hb hby d34_90) rfl ?_
   exact kz
  exact Goes.retI X0 hx Bd.notSynchronized Bd.returns (hb hby d34_91) (nb_ rfl) (nb_ rfl) ⟨f, x, rfl, N0, by rw [e0]; exact Keep.refl h0 (own_ws A), by rw [e0]; exact P, by rw [y2, y3]; exact own_ins0 hxx xb h3 h4 h5⟩
 ·have Si : own_so κ (ls ++ iN :: rs) := ex0 ▸ S
  obtain ⟨sN, aN, hs, he, a3, sB, hk⟩ := NX
  obtain ⟨tN, bN, ht_, hu, b3, tB, hk2⟩ := ND iN (by rw [ex0]; simp)
  refine Goes.via (S' := s₁.setTop (mkF m 8 #[Vr (A 0), Vi r, Vi x, Vi x, Vu] [(.ref (A 0))])) (fun tz kz => ?_) ?_
  ·refine XS.iloadN X0.here hx rfl (hb hby d34_0) rfl ?_
   refine XS.istoreN X0.here hx rfl (hb hby d34_1) rfl (l' := #[Vr (A 0), Vi r, Vi x, Vi x, Vu]) rfl ?_
   refine XS.iloadN X0.here hx rfl (hb hby d34_2) rfl ?_
   refine XS.iconst X0.here hx rfl (hb hby d34_3) ?_
   refine XS.icmpNo X0.here hx rfl (hb hby d34_4) rfl (feq (own_Ine Ii)).1 ?_
   refine XS.aloadN X0.here hx rfl (hb hby d34_7) rfl rfl ?_
   exact kz
  obtain ⟨T1, X1, e1, st1⟩ := getF X0 hx hZ hown (host := "") (Or.inl (w_ hw 63 rfl)) Via.refl e0 P.2.1 (g := (mkF m 8 #[Vr (A 0), Vi r, Vi x, Vi x, Vu] [(.ref (A 0))])) rfl rfl (hb hby d34_8)
  refine Goes.via st1 ?_
  refine Goes.via (S' := T1.setTop (mkF m 13 #[Vr (A 0), Vi r, Vi x, Vi x, Vu] [(.int x), (.ref (A 0)), (.ref (A 1))])) (fun tz kz => ?_) ?_
  ·refine XS.aloadN X1.here hx rfl (hb hby d34_11) rfl rfl ?_
   refine XS.iloadN X1.here hx rfl (hb hby d34_12) rfl ?_
   exact kz
  obtain ⟨cq2, q2, q2'⟩ := (P.1).cell
  obtain ⟨_, _, ⟨T2, L2, k2, n2⟩, -, X2, ⟨Lc2, hQ2, l2, y2, z2⟩, st2⟩ := X1.privateBack hx (y := n_0) hown (mvT hZ (w_ hw 115 rfl)) (mvT hZ (w_ hw 116 rfl)) (sel_private hZ (w_ hw 57 rfl) (w_ hw 117 rfl) (w_ hw 116 rfl) (by decide)) (Cond.privateMethod_at (mvP hZ (w_ hw 117 rfl) (args := #[]))) (mvT hZ (w_ hw 118 rfl)) (by decide) (backOf (W := 1) (rst l Z a0 hw [] x A f ob nm xN h0 n0 Z0 P hxx (by omega)) hZ (w_ hw 118 rfl) (w_ hw 58 rfl) (by decide) (by decide)) (g := (mkF m 13 #[Vr (A 0), Vi r, Vi x, Vi x, Vu] [(.int x), (.ref (A 0)), (.ref (A 1))])) rfl (by rw [hml]; rfl) (Steps.refl _) (a := (A 0)) (by rw [e1]; exact q2) q2' (argsL := [(.int x)]) (rest := [(.ref (A 1))]) (lenOf pd_0 rfl) rfl (ww_ rfl rfl) (hb hby d34_13) (fun _ _ => ⟨rfl, e1, (by decide : 0 + 0 ≤ _), (by decide : 0 + 0 ≤ _)⟩)
  dsimp only [Pt.U, Pt.locs, Pt.cells, Pt.slots] at X2 l2 y2 z2 st2 hQ2
  subst l2 y2 z2
  obtain ⟨rfl, N2, e2⟩ := hQ2
  have Nf2 := Fr.app N0 N2
  refine Goes.via (fun _ kz => st2.trans kz) ?_
  refine Goes.via (S' := T2.setTop (mkF m 17 #[Vr (A 0), Vi r, Vi x, Vi x, Vu] [(.ref (A 0)), (.int (own_st f xN)), (.ref (A 1))])) (fun tz kz => ?_) ?_
  ·refine XS.aloadN X2.here hx rfl (hb hby d34_16) rfl rfl ?_
   exact kz
  obtain ⟨T3, X3, e3, st3⟩ := getF X2 hx hZ hown (host := "") (Or.inl (w_ hw 66 rfl)) Via.refl e2 P.2.2.1 (g := (mkF m 17 #[Vr (A 0), Vi r, Vi x, Vi x, Vu] [(.ref (A 0)), (.int (own_st f xN)), (.ref (A 1))])) rfl rfl (hb hby d34_17)
  refine Goes.via st3 ?_
  refine Goes.via (S' := T3.setTop (mkF m 21 #[Vr (A 0), Vi r, Vi x, Vi x, Vu] [(.int x), (.ref (A 2)), (.int (own_st f xN)), (.ref (A 1))])) (fun tz kz => ?_) ?_
  ·refine XS.iloadN X3.here hx rfl (hb hby d34_20) rfl ?_
   exact kz
  obtain ⟨cl4, Ar4, Sz4, Hs4⟩ := P.2.2.2.2.2.2.2.2.2.2.2.1
  refine Goes.via (S' := T3.setTop (mkF m 23 #[Vr (A 0), Vi r, Vi x, Vi x, Vu] [(.ref (A 0)), (.int (f 2 xN)), (.int (own_st f xN)), (.ref (A 1))])) (fun tz kz => ?_) ?_
  ·refine X3.iaload hx (j := x) (v := (.int (f 2 xN))) (by rw [e3]; exact Ar4.1) (State.isArrayOf_alike hZ.alike Ar4.2.1) Ar4.2.2 (own_in Sz4 hxx xb) (own_at Hs4 hxx xb) (g := (mkF m 21 #[Vr (A 0), Vi r, Vi x, Vi x, Vu] [(.int x), (.ref (A 2)), (.int (own_st f xN)), (.ref (A 1))])) rfl rfl (hb hby d34_21) _ ?_
   refine XS.aloadN X3.here hx rfl (hb hby d34_22) rfl rfl ?_
   exact kz
  obtain ⟨T5, X5, e5, st5⟩ := getF X3 hx hZ hown (host := "") (Or.inl (w_ hw 63 rfl)) Via.refl e3 P.2.1 (g := (mkF m 23 #[Vr (A 0), Vi r, Vi x, Vi x, Vu] [(.ref (A 0)), (.int (f 2 xN)), (.int (own_st f xN)), (.ref (A 1))])) rfl rfl (hb hby d34_23)
  refine Goes.via st5 ?_
  refine Goes.via (S' := T5.setTop (mkF m 28 #[Vr (A 0), Vi r, Vi x, Vi x, Vu] [(.int r), (.ref (A 0)), (.ref (A 1)), (.int (f 2 xN)), (.int (own_st f xN)), (.ref (A 1))])) (fun tz kz => ?_) ?_
  ·refine XS.aloadN X5.here hx rfl (hb hby d34_26) rfl rfl ?_
   refine XS.iloadN X5.here hx rfl (hb hby d34_27) rfl ?_
   exact kz
  obtain ⟨cq6, q6, q6'⟩ := (P.1).cell
  obtain ⟨_, _, ⟨T6, L6, k6, n6⟩, -, X6, ⟨Lc6, hQ6, l6, y6, z6⟩, st6⟩ := X5.privateBack hx (y := n_0) hown (mvT hZ (w_ hw 115 rfl)) (mvT hZ (w_ hw 116 rfl)) (sel_private hZ (w_ hw 57 rfl) (w_ hw 117 rfl) (w_ hw 116 rfl) (by decide)) (Cond.privateMethod_at (mvP hZ (w_ hw 117 rfl) (args := #[]))) (mvT hZ (w_ hw 118 rfl)) (by decide) (backOf (W := 4) (rst l Z a0 hw [] r A f ob nm iN h0 n0 Z0 P Ii (by omega)) hZ (w_ hw 118 rfl) (w_ hw 58 rfl) (by decide) (by decide)) (g := (mkF m 28 #[Vr (A 0), Vi r, Vi x, Vi x, Vu] [(.int r), (.ref (A 0)), (.ref (A 1)), (.int (f 2 xN)), (.int (own_st f xN)), (.ref (A 1))])) rfl (by rw [hml]; rfl) (Steps.refl _) (a := (A 0)) (by rw [e5]; exact q6) q6' (argsL := [(.int r)]) (rest := [(.ref (A 1)), (.int (f 2 xN)), (.int (own_st f xN)), (.ref (A 1))]) (lenOf pd_0 rfl) rfl (ww_ rfl rfl) (hb hby d34_28) (fun _ _ => ⟨rfl, e5, (by decide : 0 + 0 ≤ _), (by decide : 0 + 0 ≤ _)⟩)
  dsimp only [Pt.U, Pt.locs, Pt.cells, Pt.slots] at X6 l6 y6 z6 st6 hQ6
  subst l6 y6 z6
  obtain ⟨rfl, N6, e6⟩ := hQ6
  have Nf6 := Fr.app Nf2 N6
  refine Goes.via (fun _ kz => st6.trans kz) ?_
  refine Goes.via (S' := T6.setTop (mkF m 32 #[Vr (A 0), Vi r, Vi x, Vi x, Vu] [(.ref (A 0)), (.int (own_st f iN)), (.ref (A 1)), (.int (f 2 xN)), (.int (own_st f xN)), (.ref (A 1))])) (fun tz kz => ?_) ?_
  ·refine XS.aloadN X6.here hx rfl (hb hby d34_31) rfl rfl ?_
   exact kz
  obtain ⟨T7, X7, e7, st7⟩ := getF X6 hx hZ hown (host := "") (Or.inl (w_ hw 66 rfl)) Via.refl e6 P.2.2.1 (g := (mkF m 32 #[Vr (A 0), Vi r, Vi x, Vi x, Vu] [(.ref (A 0)), (.int (own_st f iN)), (.ref (A 1)), (.int (f 2 xN)), (.int (own_st f xN)), (.ref (A 1))])) rfl rfl (hb hby d34_32)
  refine Goes.via st7 ?_
  refine Goes.via (S' := T7.setTop (mkF m 36 #[Vr (A 0), Vi r, Vi x, Vi x, Vu] [(.int r), (.ref (A 2)), (.int (own_st f iN)), (.ref (A 1)), (.int (f 2 xN)), (.int (own_st f xN)), (.ref (A 1))])) (fun tz kz => ?_) ?_
  ·refine XS.iloadN X7.here hx rfl (hb hby d34_35) rfl ?_
   exact kz
  obtain ⟨cl8, Ar8, Sz8, Hs8⟩ := P.2.2.2.2.2.2.2.2.2.2.2.1
  refine Goes.via (S' := T7.setTop (mkF m 37 #[Vr (A 0), Vi r, Vi x, Vi x, Vu] [(.int (f 2 iN)), (.int (own_st f iN)), (.ref (A 1)), (.int (f 2 xN)), (.int (own_st f xN)), (.ref (A 1))])) (fun tz kz => ?_) ?_
  ·refine X7.iaload hx (j := r) (v := (.int (f 2 iN))) (by rw [e7]; exact Ar8.1) (State.isArrayOf_alike hZ.alike Ar8.2.1) Ar8.2.2 (own_in Sz8 Ii ib) (own_at Hs8 Ii ib) (g := (mkF m 36 #[Vr (A 0), Vi r, Vi x, Vi x, Vu] [(.int r), (.ref (A 2)), (.int (own_st f iN)), (.ref (A 1)), (.int (f 2 xN)), (.int (own_st f xN)), (.ref (A 1))])) rfl rfl (hb hby d34_36) _ ?_
   exact kz
  obtain ⟨_, _, ⟨T9, L9, k9, n9⟩, -, X9, ⟨Lc9, hQ9, l9, y9, z9⟩, st9⟩ := Jvm.LawKit.callS X7 hx (y := n_11) hown (mvT hZ (w_ hw 168 rfl)) (mvT hZ (w_ hw 169 rfl)) (mvT hZ (w_ hw 170 rfl)) (mvT hZ (w_ hw 171 rfl)) (by decide) (backOf (W := 0) (rcm l Z a0 hw [] (A 1) (own_st f xN) (f 2 xN) (own_st f iN) (f 2 iN) (f 1) sN tN aN bN h0 n0 Z0 P.2.2.2.2.2.2.2.2.2.2.1 hs ht_ (by omega) (by omega) he hu a3 b3 (by omega) (by omega) cr) hZ (w_ hw 171 rfl) (w_ hw 170 rfl) (by decide) (by decide)) (g := (mkF m 37 #[Vr (A 0), Vi r, Vi x, Vi x, Vu] [(.int (f 2 iN)), (.int (own_st f iN)), (.ref (A 1)), (.int (f 2 xN)), (.int (own_st f xN)), (.ref (A 1))])) rfl (by rw [hml]; rfl) (argsL := [(.ref (A 1)), (.int (own_st f xN)), (.int (f 2 xN)), (.ref (A 1)), (.int (own_st f iN)), (.int (f 2 iN))]) (rest := []) (lenOf pd_6 rfl) rfl (ww_ rfl rfl) (hb hby d34_37) (fun _ _ => ⟨rfl, e7, (by decide : 0 + 0 ≤ _), (by decide : 0 + 0 ≤ _)⟩)
  dsimp only [Pt.U, Pt.locs, Pt.cells, Pt.slots] at X9 l9 y9 z9 st9 hQ9
  subst l9 y9 z9
  obtain ⟨rr, rfl, N9, e9, q1, q2⟩ := hQ9
  have Nf9 := Fr.app Nf6 N9
  refine Goes.via (st9) ?_
  refine Goes.via (S' := T9.setTop (mkF m 44 #[Vr (A 0), Vi r, Vi x, Vi x, Vi rr] [(.int rr)])) (fun tz kz => ?_) ?_
  ·refine XS.istore X9.here hx rfl (hb hby d34_40) rfl (l' := #[Vr (A 0), Vi r, Vi x, Vi x, Vi rr]) rfl ?_
   refine XS.iload X9.here hx rfl (hb hby d34_42) rfl ?_
   exact kz
  by_cases hc44_10 : rr < (0 : Int32)
  ·refine Goes.via (S' := T9.setTop (mkF m 48 #[Vr (A 0), Vi r, Vi x, Vi x, Vi rr] [(.ref (A 0))])) (fun tz kz => ?_) ?_
   ·refine XS.ifNo X9.here hx rfl (hb hby d34_44) rfl ((if0 _ _).trans (tlt hc44_10).2.1) ?_
    refine XS.aloadN X9.here hx rfl (hb hby d34_47) rfl rfl ?_
    exact kz
   obtain ⟨T11, X11, e11, st11⟩ := getF X9 hx hZ hown (host := "") (Or.inl (w_ hw 68 rfl)) Via.refl e9 P.2.2.2.1 (g := (mkF m 48 #[Vr (A 0), Vi r, Vi x, Vi x, Vi rr] [(.ref (A 0))])) rfl rfl (hb hby d34_48)
   refine Goes.via st11 ?_
   refine Goes.via (S' := T11.setTop (mkF m 54 #[Vr (A 0), Vi r, Vi x, Vi x, Vi rr] [(.ref (A 0)), (.ref (A 0)), (.int r), (.ref (A 3))])) (fun tz kz => ?_) ?_
   ·refine XS.iloadN X11.here hx rfl (hb hby d34_51) rfl ?_
    refine XS.aloadN X11.here hx rfl (hb hby d34_52) rfl rfl ?_
    refine XS.aloadN X11.here hx rfl (hb hby d34_53) rfl rfl ?_
    exact kz
   obtain ⟨T12, X12, e12, st12⟩ := getF X11 hx hZ hown (host := "") (Or.inl (w_ hw 68 rfl)) Via.refl e11 P.2.2.2.1 (g := (mkF m 54 #[Vr (A 0), Vi r, Vi x, Vi x, Vi rr] [(.ref (A 0)), (.ref (A 0)), (.int r), (.ref (A 3))])) rfl rfl (hb hby d34_54)
   refine Goes.via st12 ?_
   refine Goes.via (S' := T12.setTop (mkF m 58 #[Vr (A 0), Vi r, Vi x, Vi x, Vi rr] [(.int r), (.ref (A 3)), (.ref (A 0)), (.int r), (.ref (A 3))])) (fun tz kz => ?_) ?_
   ·refine XS.iloadN X12.here hx rfl (hb hby d34_57) rfl ?_
    exact kz
   obtain ⟨cl13, Ar13, Sz13, Hs13⟩ := P.2.2.2.2.2.2.2.2.2.2.2.2.1
   have mem : ∀ k, k ∈ ls → k ∈ xs := fun k hk => by rw [ex0]; simp [hk]
   have xi : κ xN < κ iN := by rw [← hk, ← hk2]; exact q1.mp hc44_10
   refine Goes.via (S' := T12.setTop (mkF m 60 #[Vr (A 0), Vi r, Vi x, Vi x, Vi rr] [(.int x), (.int (f 3 iN)), (.ref (A 0)), (.int r), (.ref (A 3))])) (fun tz kz => ?_) ?_
   ·refine X12.iaload hx (j := r) (v := (.int (f 3 iN))) (by rw [e12]; exact Ar13.1) (State.isArrayOf_alike hZ.alike Ar13.2.1) Ar13.2.2 (own_in Sz13 Ii ib) (own_at Hs13 Ii ib) (g := (mkF m 58 #[Vr (A 0), Vi r, Vi x, Vi x, Vi rr] [(.int r), (.ref (A 3)), (.ref (A 0)), (.int r), (.ref (A 3))])) rfl rfl (hb hby d34_58) _ ?_
    refine XS.iloadN X12.here hx rfl (hb hby d34_59) rfl ?_
    exact kz
   obtain ⟨cq14, q14, q14'⟩ := (P.1).cell
   obtain ⟨_, _, ⟨T14, L14, k14, n14⟩, -, X14, ⟨Lc14, hQ14, l14, y14, z14⟩, st14⟩ := X12.privateBack hx (y := n_15) hown (mvT hZ (w_ hw 164 rfl)) (mvT hZ (w_ hw 165 rfl)) (sel_private hZ (w_ hw 57 rfl) (w_ hw 166 rfl) (w_ hw 165 rfl) (by decide)) (Cond.privateMethod_at (mvP hZ (w_ hw 166 rfl) (args := #[]))) (mvT hZ (w_ hw 167 rfl)) (by decide) (backOf (W := 2) (rns_0 l Z a0 hw [] (f 3 iN) x A f ob nm κ ls dl B xN h0 n0 Z0 P TL (by omega) Si.inv.1 (fun k hk => ND k (mem k hk)) hxx xb ⟨sN, aN, hs, he, a3, sB, hk⟩ h3 h4 h5 (fun y => nx (mem _ y)) (fun y => nk (y.elim fun k hk => ⟨k, mem k hk.1, hk.2⟩)) Bb cr) hZ (w_ hw 167 rfl) (w_ hw 58 rfl) (by decide) (by decide)) (g := (mkF m 60 #[Vr (A 0), Vi r, Vi x, Vi x, Vi rr] [(.int x), (.int (f 3 iN)), (.ref (A 0)), (.int r), (.ref (A 3))])) rfl (by rw [hml]; rfl) (Steps.refl _) (a := (A 0)) (by rw [e12]; exact q14) q14' (argsL := [(.int (f 3 iN)), (.int x)]) (rest := [(.int r), (.ref (A 3))]) (lenOf pd_1 rfl) rfl (ww_ rfl rfl) (hb hby d34_60) (fun _ _ => ⟨rfl, e12, (by decide : 0 + 0 ≤ _), (by decide : 0 + 0 ≤ _)⟩)
   dsimp only [Pt.U, Pt.locs, Pt.cells, Pt.slots] at X14 l14 y14 z14 st14 hQ14
   subst l14 y14 z14
   obtain ⟨f1, r1, rfl, N14, K14, P14, us, vs, h1, ex, T1, lu, lv, g1, g2, fr⟩ := hQ14
   have Nf14 := Fr.app Nf9 N14
   refine Goes.via (fun _ kz => st14.trans kz) ?_
   obtain ⟨cl15, Ar15, Sz15, Hs15⟩ := P14.2.2.2.2.2.2.2.2.2.2.2.2.1
   obtain ⟨T16, h16, X16, e16, W16, st16⟩ := stI X14 hx hZ rfl Ar15 (j := r) (own_in Sz15 Ii ib) (g := (mkF m 63 #[Vr (A 0), Vi r, Vi x, Vi x, Vi rr] [(.int r1), (.int r), (.ref (A 3))])) rfl rfl (hb hby d34_63)
   refine Goes.via st16 ?_
   have N16 := Fr.snoc X16 Nf14 (P14.2.2.2.2.2.2.2.2.2.2.2.2.2.2.2.2.2.1 3 (by decide))
   rw [show (r).toNatClampNeg = iN from (Ii).nat] at W16
   have P16 := P14.w3 W16
   have K16 := K14.wr W16 (Or.inl own_mem3)
   have pl := own_insPL Si ex lu lv xi fr T1 TR
   refine Goes.via (S' := T16.setTop (mkF m 86 #[Vr (A 0), Vi r, Vi x, Vi x, Vi rr] [(.int r), (.ref (A 0))])) (fun tz kz => ?_) ?_
   ·refine XS.goto X16.here hx rfl (pc0 := 64) (pc' := 84) rfl (hb hby d34_64) (by decide) (by decide) ?_
    refine XS.aloadN X16.here hx rfl (hb hby d34_84) rfl rfl ?_
    refine XS.iloadN X16.here hx rfl (hb hby d34_85) rfl ?_
    exact kz
   obtain ⟨cq17, q17, q17'⟩ := (P16.1).cell
   obtain ⟨_, _, ⟨T17, L17, k17, n17⟩, -, X17, ⟨Lc17, hQ17, l17, y17, z17⟩, st17⟩ := X16.privateBack hx (y := n_14) hown (mvT hZ (w_ hw 180 rfl)) (mvT hZ (w_ hw 181 rfl)) (sel_private hZ (w_ hw 57 rfl) (w_ hw 182 rfl) (w_ hw 181 rfl) (by decide)) (Cond.privateMethod_at (mvP hZ (w_ hw 182 rfl) (args := #[]))) (mvT hZ (w_ hw 183 rfl)) (by decide) (backOf (W := 0) (rba l Z a0 hw [] r A (own_fu f1 3 iN r1) ob nm iN (us ++ xN :: vs) rs h1 dr h16 n0 (Nat.le_trans Z0 K16.1) P16 Ii ib pl.1 pl.2.1 pl.2.2 (by omega) (by omega) (by omega) (by omega)) hZ (w_ hw 183 rfl) (w_ hw 58 rfl) (by decide) (by decide)) (g := (mkF m 86 #[Vr (A 0), Vi r, Vi x, Vi x, Vi rr] [(.int r), (.ref (A 0))])) rfl (by rw [hml]; rfl) (Steps.refl _) (a := (A 0)) (by rw [e16]; exact q17) q17' (argsL := [(.int r)]) (rest := []) (lenOf pd_0 rfl) rfl (ww_ rfl rfl) (hb hby d34_86) (fun _ _ => ⟨rfl, e16, (by decide : 0 + 0 ≤ _), (by decide : 0 + 0 ≤ _)⟩)
   dsimp only [Pt.U, Pt.locs, Pt.cells, Pt.slots] at X17 l17 y17 z17 st17 hQ17
   subst l17 y17 z17
   obtain ⟨f3, r3, rfl, N17, K17, P17, bl⟩ := hQ17
   have Nf17 := Fr.app N16 N17
   refine Goes.via (fun _ kz => st17.trans kz) ?_
   have J17 := K16.trans K17 (fun _ q => Or.inl q)
   refine Goes.via (S' := T17.setTop (mkF m 91 #[Vr (A 0), Vi r, Vi x, Vi r3, Vi rr] [(.int r3)])) (fun tz kz => ?_) ?_
   ·refine XS.istoreN X17.here hx rfl (hb hby d34_89) rfl (l' := #[Vr (A 0), Vi r, Vi x, Vi r3, Vi rr]) rfl ?_
    refine XS.iloadN X17.here hx rfl (hb hby d34_90) rfl ?_
    exact kz
   exact Goes.retI X17 hx Bd.notSynchronized Bd.returns (hb hby d34_91) (nb_ rfl) (nb_ rfl) ⟨f3, r3, rfl, Nf17, J17, P17, by rw [ex0, eh]; exact own_insL ex lu lv xi Si.inv.2.2.2 g1 g2 b1 b2 fr bl⟩
  ·refine Goes.via (S' := T9.setTop (mkF m 68 #[Vr (A 0), Vi r, Vi x, Vi x, Vi rr] [(.ref (A 0))])) (fun tz kz => ?_) ?_
   ·refine XS.ifYes X9.here hx rfl (pc0 := 44) (pc' := 67) rfl (hb hby d34_44) rfl ((if0 _ _).trans (flt hc44_10).2.1) (by decide) (by decide) ?_
    refine XS.aloadN X9.here hx rfl (hb hby d34_67) rfl rfl ?_
    exact kz
   obtain ⟨T18, X18, e18, st18⟩ := getF X9 hx hZ hown (host := "") (Or.inl (w_ hw 70 rfl)) Via.refl e9 P.2.2.2.2.1 (g := (mkF m 68 #[Vr (A 0), Vi r, Vi x, Vi x, Vi rr] [(.ref (A 0))])) rfl rfl (hb hby d34_68)
   refine Goes.via st18 ?_
   refine Goes.via (S' := T18.setTop (mkF m 74 #[Vr (A 0), Vi r, Vi x, Vi x, Vi rr] [(.ref (A 0)), (.ref (A 0)), (.int r), (.ref (A 4))])) (fun tz kz => ?_) ?_
   ·refine XS.iloadN X18.here hx rfl (hb hby d34_71) rfl ?_
    refine XS.aloadN X18.here hx rfl (hb hby d34_72) rfl rfl ?_
    refine XS.aloadN X18.here hx rfl (hb hby d34_73) rfl rfl ?_
    exact kz
   obtain ⟨T19, X19, e19, st19⟩ := getF X18 hx hZ hown (host := "") (Or.inl (w_ hw 70 rfl)) Via.refl e18 P.2.2.2.2.1 (g := (mkF m 74 #[Vr (A 0), Vi r, Vi x, Vi x, Vi rr] [(.ref (A 0)), (.ref (A 0)), (.int r), (.ref (A 4))])) rfl rfl (hb hby d34_74)
   refine Goes.via st19 ?_
   refine Goes.via (S' := T19.setTop (mkF m 78 #[Vr (A 0), Vi r, Vi x, Vi x, Vi rr] [(.int r), (.ref (A 4)), (.ref (A 0)), (.int r), (.ref (A 4))])) (fun tz kz => ?_) ?_
   ·refine XS.iloadN X19.here hx rfl (hb hby d34_77) rfl ?_
    exact kz
   obtain ⟨cl20, Ar20, Sz20, Hs20⟩ := P.2.2.2.2.2.2.2.2.2.2.2.2.2.1
   have mem : ∀ k, k ∈ rs → k ∈ xs := fun k hk => by rw [ex0]; simp [hk]
   have xi : κ iN < κ xN := by
    have y1 := mt q1.mpr hc44_10
    have y2 : ¬ κ iN = κ xN := fun y => nk ⟨iN, by rw [ex0]; simp, y⟩
    rw [hk, hk2] at y1
    omega
   refine Goes.via (S' := T19.setTop (mkF m 80 #[Vr (A 0), Vi r, Vi x, Vi x, Vi rr] [(.int x), (.int (f 4 iN)), (.ref (A 0)), (.int r), (.ref (A 4))])) (fun tz kz => ?_) ?_
   ·refine X19.iaload hx (j := r) (v := (.int (f 4 iN))) (by rw [e19]; exact Ar20.1) (State.isArrayOf_alike hZ.alike Ar20.2.1) Ar20.2.2 (own_in Sz20 Ii ib) (own_at Hs20 Ii ib) (g := (mkF m 78 #[Vr (A 0), Vi r, Vi x, Vi x, Vi rr] [(.int r), (.ref (A 4)), (.ref (A 0)), (.int r), (.ref (A 4))])) rfl rfl (hb hby d34_78) _ ?_
    refine XS.iloadN X19.here hx rfl (hb hby d34_79) rfl ?_
    exact kz
   obtain ⟨cq21, q21, q21'⟩ := (P.1).cell
   obtain ⟨_, _, ⟨T21, L21, k21, n21⟩, -, X21, ⟨Lc21, hQ21, l21, y21, z21⟩, st21⟩ := X19.privateBack hx (y := n_15) hown (mvT hZ (w_ hw 164 rfl)) (mvT hZ (w_ hw 165 rfl)) (sel_private hZ (w_ hw 57 rfl) (w_ hw 166 rfl) (w_ hw 165 rfl) (by decide)) (Cond.privateMethod_at (mvP hZ (w_ hw 166 rfl) (args := #[]))) (mvT hZ (w_ hw 167 rfl)) (by decide) (backOf (W := 2) (rns_0 l Z a0 hw [] (f 4 iN) x A f ob nm κ rs dr B xN h0 n0 Z0 P TR (by omega) Si.inv.2.1 (fun k hk => ND k (mem k hk)) hxx xb ⟨sN, aN, hs, he, a3, sB, hk⟩ h3 h4 h5 (fun y => nx (mem _ y)) (fun y => nk (y.elim fun k hk => ⟨k, mem k hk.1, hk.2⟩)) Bb cr) hZ (w_ hw 167 rfl) (w_ hw 58 rfl) (by decide) (by decide)) (g := (mkF m 80 #[Vr (A 0), Vi r, Vi x, Vi x, Vi rr] [(.int x), (.int (f 4 iN)), (.ref (A 0)), (.int r), (.ref (A 4))])) rfl (by rw [hml]; rfl) (Steps.refl _) (a := (A 0)) (by rw [e19]; exact q21) q21' (argsL := [(.int (f 4 iN)), (.int x)]) (rest := [(.int r), (.ref (A 4))]) (lenOf pd_1 rfl) rfl (ww_ rfl rfl) (hb hby d34_80) (fun _ _ => ⟨rfl, e19, (by decide : 0 + 0 ≤ _), (by decide : 0 + 0 ≤ _)⟩)
   dsimp only [Pt.U, Pt.locs, Pt.cells, Pt.slots] at X21 l21 y21 z21 st21 hQ21
   subst l21 y21 z21
   obtain ⟨f1, r1, rfl, N21, K21, P21, us, vs, h1, ex, T1, lu, lv, g1, g2, fr⟩ := hQ21
   have Nf21 := Fr.app Nf9 N21
   refine Goes.via (fun _ kz => st21.trans kz) ?_
   obtain ⟨cl22, Ar22, Sz22, Hs22⟩ := P21.2.2.2.2.2.2.2.2.2.2.2.2.2.1
   obtain ⟨T23, h23, X23, e23, W23, st23⟩ := stI X21 hx hZ rfl Ar22 (j := r) (own_in Sz22 Ii ib) (g := (mkF m 83 #[Vr (A 0), Vi r, Vi x, Vi x, Vi rr] [(.int r1), (.int r), (.ref (A 4))])) rfl rfl (hb hby d34_83)
   refine Goes.via st23 ?_
   have N23 := Fr.snoc X23 Nf21 (P21.2.2.2.2.2.2.2.2.2.2.2.2.2.2.2.2.2.1 4 (by decide))
   rw [show (r).toNatClampNeg = iN from (Ii).nat] at W23
   have P23 := P21.w4 W23
   have K23 := K21.wr W23 (Or.inl own_mem4)
   have pl := own_insPR Si ex lu lv xi fr T1 TL
   refine Goes.via (S' := T23.setTop (mkF m 86 #[Vr (A 0), Vi r, Vi x, Vi x, Vi rr] [(.int r), (.ref (A 0))])) (fun tz kz => ?_) ?_
   ·refine XS.aloadN X23.here hx rfl (hb hby d34_84) rfl rfl ?_
    refine XS.iloadN X23.here hx rfl (hb hby d34_85) rfl ?_
    exact kz
   obtain ⟨cq24, q24, q24'⟩ := (P23.1).cell
   obtain ⟨_, _, ⟨T24, L24, k24, n24⟩, -, X24, ⟨Lc24, hQ24, l24, y24, z24⟩, st24⟩ := X23.privateBack hx (y := n_14) hown (mvT hZ (w_ hw 180 rfl)) (mvT hZ (w_ hw 181 rfl)) (sel_private hZ (w_ hw 57 rfl) (w_ hw 182 rfl) (w_ hw 181 rfl) (by decide)) (Cond.privateMethod_at (mvP hZ (w_ hw 182 rfl) (args := #[]))) (mvT hZ (w_ hw 183 rfl)) (by decide) (backOf (W := 0) (rba l Z a0 hw [] r A (own_fu f1 4 iN r1) ob nm iN ls (us ++ xN :: vs) dl h1 h23 n0 (Nat.le_trans Z0 K23.1) P23 Ii ib pl.1 pl.2.1 pl.2.2 (by omega) (by omega) (by omega) (by omega)) hZ (w_ hw 183 rfl) (w_ hw 58 rfl) (by decide) (by decide)) (g := (mkF m 86 #[Vr (A 0), Vi r, Vi x, Vi x, Vi rr] [(.int r), (.ref (A 0))])) rfl (by rw [hml]; rfl) (Steps.refl _) (a := (A 0)) (by rw [e23]; exact q24) q24' (argsL := [(.int r)]) (rest := []) (lenOf pd_0 rfl) rfl (ww_ rfl rfl) (hb hby d34_86) (fun _ _ => ⟨rfl, e23, (by decide : 0 + 0 ≤ _), (by decide : 0 + 0 ≤ _)⟩)
   dsimp only [Pt.U, Pt.locs, Pt.cells, Pt.slots] at X24 l24 y24 z24 st24 hQ24
   subst l24 y24 z24
   obtain ⟨f3, r3, rfl, N24, K24, P24, bl⟩ := hQ24
   have Nf24 := Fr.app N23 N24
   refine Goes.via (fun _ kz => st24.trans kz) ?_
   have J24 := K23.trans K24 (fun _ q => Or.inl q)
   refine Goes.via (S' := T24.setTop (mkF m 91 #[Vr (A 0), Vi r, Vi x, Vi r3, Vi rr] [(.int r3)])) (fun tz kz => ?_) ?_
   ·refine XS.istoreN X24.here hx rfl (hb hby d34_89) rfl (l' := #[Vr (A 0), Vi r, Vi x, Vi r3, Vi rr]) rfl ?_
    refine XS.iloadN X24.here hx rfl (hb hby d34_90) rfl ?_
    exact kz
   exact Goes.retI X24 hx Bd.notSynchronized Bd.returns (hb hby d34_91) (nb_ rfl) (nb_ rfl) ⟨f3, r3, rfl, Nf24, J24, P24, by rw [ex0, eh]; exact own_insR ex lu lv xi Si.inv.2.2.1 g1 g2 b1 b2 fr bl⟩
def Q_rns_2 (Z : State) (r : Int32) (x : Int32) (A : Nat → Addr) (f : Nat → Nat → Int32) (ob nm : Int32) (κ : Nat → Nat) (xs : List Nat) (ht B xN : Nat) (h0 : Heap) (n0 : Nat) : Option Value → Heap → List Loc → Prop := fun v h L => ∃ f' r', v = some (.int r') ∧ Fr n0 L ∧ Keep h0 h (own_ws A) ∧ own_ON Z n0 h A f' ob nm ∧ own_insd f f' κ xN r' xs ht
theorem rns_2 (l : Launch) (Z : State) (a0 : Array Value) (hw : ∀ d ∈ tables_1, d.before a0 Z = true) (ws : List Jvm.Cond) (r : Int32) (x : Int32) (A : Nat → Addr) (f : Nat → Nat → Int32) (ob nm : Int32) (κ : Nat → Nat) (xs : List Nat) (ht B xN : Nat) (h0 : Heap) (n0 : Nat) (Z0 : n0 ≤ h0.size) (P : own_ON Z n0 h0 A f ob nm) (T : own_Tr f r xs ht) (hN : ht ≤ 2) (S : own_so κ xs) (ND : ∀ i ∈ xs, own_nd f κ B i) (hxx : own_I x xN) (xb : xN < 16) (NX : own_nd f κ B xN) (h3 : f 3 xN = -1) (h4 : f 4 xN = -1) (h5 : f 5 xN = 1) (nx : xN ∉ xs) (nk : ¬ own_has κ (κ xN) xs) (Bb : B ≤ 40) (cr : own_cr (f 1)) :
  own_M l Z n_15 (Jvm.Cond.code n_15 prog_33_method_7_code 5 (some .int)) ws (Rm 5 0 0 100) #[(.ref (A 0)), (.int r), (.int x)] h0 (Q_rns_2 Z r x A f ob nm κ xs ht B xN h0 n0) := by
 refine MetFree.of_bodySF (plainFor_of_name pn_34) hisR ?_
 intro p e s m args below meth c s₁ Bd hml0 hP hK
 obtain ⟨rfl, hZ, hh⟩ := hP
 have hx := Bd.exec
 have hby := Bd.bytes
 have hml : c.maxLocals = 5 := hml0
 have hown : s.vm.findClass "com/example/upkeep_window/upkeepwindow/policy/OpenNames" = some m.cls := findClass_of_methodNamed Bd.named
 have hnm := (name_of_methodNamed Bd.named Bd.method).1
 have X0 : Stand p l e (Rm 5 0 0 100) s m #[(.ref (A 0)), (.int r), (.int x)] below meth c s₁ [] 0 0 := Stand.of_body Bd
 have e0 : s₁.heap = h0 := by rw [← hh, Bd.state]; rfl
 have N0 := Fr.nil n0
 show Goes p e below (Fin s (Q_rns_2 Z r x A f ob nm κ xs ht B xN h0 n0) (Rm 5 0 0 100).cells (Rm 5 0 0 100).slots) _
 refine Goes.via (S' := s₁.setTop (mkF m 0 #[Vr (A 0), Vi r, Vi x, Vu, Vu] [])) (fun tz kz => castTop (ef_34 m (A 0) r x ) kz) ?_
 rcases T.inv with ⟨y1, y2, y3⟩ | ⟨iN, ls, rs, dl, dr, Ii, ib, TL, TR, ex0, e5, eh, b1, b2⟩
 ·skip
  refine Goes.via (S' := s₁.setTop (mkF m 91 #[Vr (A 0), Vi r, Vi x, Vi x, Vu] [(.int x)])) (fun tz kz => ?_) ?_
  ·refine XS.iloadN X0.here hx rfl (hb hby d34_0) rfl ?_
   refine XS.istoreN X0.here hx rfl (hb hby d34_1) rfl (l' := #[Vr (A 0), Vi r, Vi x, Vi x, Vu]) rfl ?_
   refine XS.iloadN X0.here hx rfl (hb hby d34_2) rfl ?_
   refine XS.iconst X0.here hx rfl (hb hby d34_3) ?_
   refine XS.icmpYes X0.here hx rfl (pc0 := 4) (pc' := 90) rfl (hb hby d34_4) rfl (teq y1).1 (by decide) (by decide) ?_
   refine XS.iloadN X0.here hx rfl (hb hby d34_90) rfl ?_
   exact kz
  exact Goes.retI X0 hx Bd.notSynchronized Bd.returns (hb hby d34_91) (nb_ rfl) (nb_ rfl) ⟨f, x, rfl, N0, by rw [e0]; exact Keep.refl h0 (own_ws A), by rw [e0]; exact P, by rw [y2, y3]; exact own_ins0 hxx xb h3 h4 h5⟩
 ·have Si : own_so κ (ls ++ iN :: rs) := ex0 ▸ S
  obtain ⟨sN, aN, hs, he, a3, sB, hk⟩ := NX
  obtain ⟨tN, bN, ht_, hu, b3, tB, hk2⟩ := ND iN (by rw [ex0]; simp)
  refine Goes.via (S' := s₁.setTop (mkF m 8 #[Vr (A 0), Vi r, Vi x, Vi x, Vu] [(.ref (A 0))])) (fun tz kz => ?_) ?_
  ·refine XS.iloadN X0.here hx rfl (hb hby d34_0) rfl ?_
   refine XS.istoreN X0.here hx rfl (hb hby d34_1) rfl (l' := #[Vr (A 0), Vi r, Vi x, Vi x, Vu]) rfl ?_
   refine XS.iloadN X0.here hx rfl (hb hby d34_2) rfl ?_
   refine XS.iconst X0.here hx rfl (hb hby d34_3) ?_
   refine XS.icmpNo X0.here hx rfl (hb hby d34_4) rfl (feq (own_Ine Ii)).1 ?_
   refine XS.aloadN X0.here hx rfl (hb hby d34_7) rfl rfl ?_
   exact kz
  obtain ⟨T1, X1, e1, st1⟩ := getF X0 hx hZ hown (host := "") (Or.inl (w_ hw 63 rfl)) Via.refl e0 P.2.1 (g := (mkF m 8 #[Vr (A 0), Vi r, Vi x, Vi x, Vu] [(.ref (A 0))])) rfl rfl (hb hby d34_8)
  refine Goes.via st1 ?_
  refine Goes.via (S' := T1.setTop (mkF m 13 #[Vr (A 0), Vi r, Vi x, Vi x, Vu] [(.int x), (.ref (A 0)), (.ref (A 1))])) (fun tz kz => ?_) ?_
  ·refine XS.aloadN X1.here hx rfl (hb hby d34_11) rfl rfl ?_
   refine XS.iloadN X1.here hx rfl (hb hby d34_12) rfl ?_
   exact kz
  obtain ⟨cq2, q2, q2'⟩ := (P.1).cell
  obtain ⟨_, _, ⟨T2, L2, k2, n2⟩, -, X2, ⟨Lc2, hQ2, l2, y2, z2⟩, st2⟩ := X1.privateBack hx (y := n_0) hown (mvT hZ (w_ hw 115 rfl)) (mvT hZ (w_ hw 116 rfl)) (sel_private hZ (w_ hw 57 rfl) (w_ hw 117 rfl) (w_ hw 116 rfl) (by decide)) (Cond.privateMethod_at (mvP hZ (w_ hw 117 rfl) (args := #[]))) (mvT hZ (w_ hw 118 rfl)) (by decide) (backOf (W := 1) (rst l Z a0 hw [] x A f ob nm xN h0 n0 Z0 P hxx (by omega)) hZ (w_ hw 118 rfl) (w_ hw 58 rfl) (by decide) (by decide)) (g := (mkF m 13 #[Vr (A 0), Vi r, Vi x, Vi x, Vu] [(.int x), (.ref (A 0)), (.ref (A 1))])) rfl (by rw [hml]; rfl) (Steps.refl _) (a := (A 0)) (by rw [e1]; exact q2) q2' (argsL := [(.int x)]) (rest := [(.ref (A 1))]) (lenOf pd_0 rfl) rfl (ww_ rfl rfl) (hb hby d34_13) (fun _ _ => ⟨rfl, e1, (by decide : 0 + 0 ≤ _), (by decide : 0 + 0 ≤ _)⟩)
  dsimp only [Pt.U, Pt.locs, Pt.cells, Pt.slots] at X2 l2 y2 z2 st2 hQ2
  subst l2 y2 z2
  obtain ⟨rfl, N2, e2⟩ := hQ2
  have Nf2 := Fr.app N0 N2
  refine Goes.via (fun _ kz => st2.trans kz) ?_
  refine Goes.via (S' := T2.setTop (mkF m 17 #[Vr (A 0), Vi r, Vi x, Vi x, Vu] [(.ref (A 0)), (.int (own_st f xN)), (.ref (A 1))])) (fun tz kz => ?_) ?_
  ·refine XS.aloadN X2.here hx rfl (hb hby d34_16) rfl rfl ?_
   exact kz
  obtain ⟨T3, X3, e3, st3⟩ := getF X2 hx hZ hown (host := "") (Or.inl (w_ hw 66 rfl)) Via.refl e2 P.2.2.1 (g := (mkF m 17 #[Vr (A 0), Vi r, Vi x, Vi x, Vu] [(.ref (A 0)), (.int (own_st f xN)), (.ref (A 1))])) rfl rfl (hb hby d34_17)
  refine Goes.via st3 ?_
  refine Goes.via (S' := T3.setTop (mkF m 21 #[Vr (A 0), Vi r, Vi x, Vi x, Vu] [(.int x), (.ref (A 2)), (.int (own_st f xN)), (.ref (A 1))])) (fun tz kz => ?_) ?_
  ·refine XS.iloadN X3.here hx rfl (hb hby d34_20) rfl ?_
   exact kz
  obtain ⟨cl4, Ar4, Sz4, Hs4⟩ := P.2.2.2.2.2.2.2.2.2.2.2.1
  refine Goes.via (S' := T3.setTop (mkF m 23 #[Vr (A 0), Vi r, Vi x, Vi x, Vu] [(.ref (A 0)), (.int (f 2 xN)), (.int (own_st f xN)), (.ref (A 1))])) (fun tz kz => ?_) ?_
  ·refine X3.iaload hx (j := x) (v := (.int (f 2 xN))) (by rw [e3]; exact Ar4.1) (State.isArrayOf_alike hZ.alike Ar4.2.1) Ar4.2.2 (own_in Sz4 hxx xb) (own_at Hs4 hxx xb) (g := (mkF m 21 #[Vr (A 0), Vi r, Vi x, Vi x, Vu] [(.int x), (.ref (A 2)), (.int (own_st f xN)), (.ref (A 1))])) rfl rfl (hb hby d34_21) _ ?_
   refine XS.aloadN X3.here hx rfl (hb hby d34_22) rfl rfl ?_
   exact kz
  obtain ⟨T5, X5, e5, st5⟩ := getF X3 hx hZ hown (host := "") (Or.inl (w_ hw 63 rfl)) Via.refl e3 P.2.1 (g := (mkF m 23 #[Vr (A 0), Vi r, Vi x, Vi x, Vu] [(.ref (A 0)), (.int (f 2 xN)), (.int (own_st f xN)), (.ref (A 1))])) rfl rfl (hb hby d34_23)
  refine Goes.via st5 ?_
  refine Goes.via (S' := T5.setTop (mkF m 28 #[Vr (A 0), Vi r, Vi x, Vi x, Vu] [(.int r), (.ref (A 0)), (.ref (A 1)), (.int (f 2 xN)), (.int (own_st f xN)), (.ref (A 1))])) (fun tz kz => ?_) ?_
  ·refine XS.aloadN X5.here hx rfl (hb hby d34_26) rfl rfl ?_
   refine XS.iloadN X5.here hx rfl (hb hby d34_27) rfl ?_
   exact kz
  obtain ⟨cq6, q6, q6'⟩ := (P.1).cell
  obtain ⟨_, _, ⟨T6, L6, k6, n6⟩, -, X6, ⟨Lc6, hQ6, l6, y6, z6⟩, st6⟩ := X5.privateBack hx (y := n_0) hown (mvT hZ (w_ hw 115 rfl)) (mvT hZ (w_ hw 116 rfl)) (sel_private hZ (w_ hw 57 rfl) (w_ hw 117 rfl) (w_ hw 116 rfl) (by decide)) (Cond.privateMethod_at (mvP hZ (w_ hw 117 rfl) (args := #[]))) (mvT hZ (w_ hw 118 rfl)) (by decide) (backOf (W := 4) (rst l Z a0 hw [] r A f ob nm iN h0 n0 Z0 P Ii (by omega)) hZ (w_ hw 118 rfl) (w_ hw 58 rfl) (by decide) (by decide)) (g := (mkF m 28 #[Vr (A 0), Vi r, Vi x, Vi x, Vu] [(.int r), (.ref (A 0)), (.ref (A 1)), (.int (f 2 xN)), (.int (own_st f xN)), (.ref (A 1))])) rfl (by rw [hml]; rfl) (Steps.refl _) (a := (A 0)) (by rw [e5]; exact q6) q6' (argsL := [(.int r)]) (rest := [(.ref (A 1)), (.int (f 2 xN)), (.int (own_st f xN)), (.ref (A 1))]) (lenOf pd_0 rfl) rfl (ww_ rfl rfl) (hb hby d34_28) (fun _ _ => ⟨rfl, e5, (by decide : 0 + 0 ≤ _), (by decide : 0 + 0 ≤ _)⟩)
  dsimp only [Pt.U, Pt.locs, Pt.cells, Pt.slots] at X6 l6 y6 z6 st6 hQ6
  subst l6 y6 z6
  obtain ⟨rfl, N6, e6⟩ := hQ6
  have Nf6 := Fr.app Nf2 N6
  refine Goes.via (fun _ kz => st6.trans kz) ?_
  refine Goes.via (S' := T6.setTop (mkF m 32 #[Vr (A 0), Vi r, Vi x, Vi x, Vu] [(.ref (A 0)), (.int (own_st f iN)), (.ref (A 1)), (.int (f 2 xN)), (.int (own_st f xN)), (.ref (A 1))])) (fun tz kz => ?_) ?_
  ·refine XS.aloadN X6.here hx rfl (hb hby d34_31) rfl rfl ?_
   exact kz
  obtain ⟨T7, X7, e7, st7⟩ := getF X6 hx hZ hown (host := "") (Or.inl (w_ hw 66 rfl)) Via.refl e6 P.2.2.1 (g := (mkF m 32 #[Vr (A 0), Vi r, Vi x, Vi x, Vu] [(.ref (A 0)), (.int (own_st f iN)), (.ref (A 1)), (.int (f 2 xN)), (.int (own_st f xN)), (.ref (A 1))])) rfl rfl (hb hby d34_32)
  refine Goes.via st7 ?_
  refine Goes.via (S' := T7.setTop (mkF m 36 #[Vr (A 0), Vi r, Vi x, Vi x, Vu] [(.int r), (.ref (A 2)), (.int (own_st f iN)), (.ref (A 1)), (.int (f 2 xN)), (.int (own_st f xN)), (.ref (A 1))])) (fun tz kz => ?_) ?_
  ·refine XS.iloadN X7.here hx rfl (hb hby d34_35) rfl ?_
   exact kz
  obtain ⟨cl8, Ar8, Sz8, Hs8⟩ := P.2.2.2.2.2.2.2.2.2.2.2.1
  refine Goes.via (S' := T7.setTop (mkF m 37 #[Vr (A 0), Vi r, Vi x, Vi x, Vu] [(.int (f 2 iN)), (.int (own_st f iN)), (.ref (A 1)), (.int (f 2 xN)), (.int (own_st f xN)), (.ref (A 1))])) (fun tz kz => ?_) ?_
  ·refine X7.iaload hx (j := r) (v := (.int (f 2 iN))) (by rw [e7]; exact Ar8.1) (State.isArrayOf_alike hZ.alike Ar8.2.1) Ar8.2.2 (own_in Sz8 Ii ib) (own_at Hs8 Ii ib) (g := (mkF m 36 #[Vr (A 0), Vi r, Vi x, Vi x, Vu] [(.int r), (.ref (A 2)), (.int (own_st f iN)), (.ref (A 1)), (.int (f 2 xN)), (.int (own_st f xN)), (.ref (A 1))])) rfl rfl (hb hby d34_36) _ ?_
   exact kz
  obtain ⟨_, _, ⟨T9, L9, k9, n9⟩, -, X9, ⟨Lc9, hQ9, l9, y9, z9⟩, st9⟩ := Jvm.LawKit.callS X7 hx (y := n_11) hown (mvT hZ (w_ hw 168 rfl)) (mvT hZ (w_ hw 169 rfl)) (mvT hZ (w_ hw 170 rfl)) (mvT hZ (w_ hw 171 rfl)) (by decide) (backOf (W := 0) (rcm l Z a0 hw [] (A 1) (own_st f xN) (f 2 xN) (own_st f iN) (f 2 iN) (f 1) sN tN aN bN h0 n0 Z0 P.2.2.2.2.2.2.2.2.2.2.1 hs ht_ (by omega) (by omega) he hu a3 b3 (by omega) (by omega) cr) hZ (w_ hw 171 rfl) (w_ hw 170 rfl) (by decide) (by decide)) (g := (mkF m 37 #[Vr (A 0), Vi r, Vi x, Vi x, Vu] [(.int (f 2 iN)), (.int (own_st f iN)), (.ref (A 1)), (.int (f 2 xN)), (.int (own_st f xN)), (.ref (A 1))])) rfl (by rw [hml]; rfl) (argsL := [(.ref (A 1)), (.int (own_st f xN)), (.int (f 2 xN)), (.ref (A 1)), (.int (own_st f iN)), (.int (f 2 iN))]) (rest := []) (lenOf pd_6 rfl) rfl (ww_ rfl rfl) (hb hby d34_37) (fun _ _ => ⟨rfl, e7, (by decide : 0 + 0 ≤ _), (by decide : 0 + 0 ≤ _)⟩)
  dsimp only [Pt.U, Pt.locs, Pt.cells, Pt.slots] at X9 l9 y9 z9 st9 hQ9
  subst l9 y9 z9
  obtain ⟨rr, rfl, N9, e9, q1, q2⟩ := hQ9
  have Nf9 := Fr.app Nf6 N9
  refine Goes.via (st9) ?_
  refine Goes.via (S' := T9.setTop (mkF m 44 #[Vr (A 0), Vi r, Vi x, Vi x, Vi rr] [(.int rr)])) (fun tz kz => ?_) ?_
  ·refine XS.istore X9.here hx rfl (hb hby d34_40) rfl (l' := #[Vr (A 0), Vi r, Vi x, Vi x, Vi rr]) rfl ?_
   refine XS.iload X9.here hx rfl (hb hby d34_42) rfl ?_
   exact kz
  by_cases hc44_10 : rr < (0 : Int32)
  ·refine Goes.via (S' := T9.setTop (mkF m 48 #[Vr (A 0), Vi r, Vi x, Vi x, Vi rr] [(.ref (A 0))])) (fun tz kz => ?_) ?_
   ·refine XS.ifNo X9.here hx rfl (hb hby d34_44) rfl ((if0 _ _).trans (tlt hc44_10).2.1) ?_
    refine XS.aloadN X9.here hx rfl (hb hby d34_47) rfl rfl ?_
    exact kz
   obtain ⟨T11, X11, e11, st11⟩ := getF X9 hx hZ hown (host := "") (Or.inl (w_ hw 68 rfl)) Via.refl e9 P.2.2.2.1 (g := (mkF m 48 #[Vr (A 0), Vi r, Vi x, Vi x, Vi rr] [(.ref (A 0))])) rfl rfl (hb hby d34_48)
   refine Goes.via st11 ?_
   refine Goes.via (S' := T11.setTop (mkF m 54 #[Vr (A 0), Vi r, Vi x, Vi x, Vi rr] [(.ref (A 0)), (.ref (A 0)), (.int r), (.ref (A 3))])) (fun tz kz => ?_) ?_
   ·refine XS.iloadN X11.here hx rfl (hb hby d34_51) rfl ?_
    refine XS.aloadN X11.here hx rfl (hb hby d34_52) rfl rfl ?_
    refine XS.aloadN X11.here hx rfl (hb hby d34_53) rfl rfl ?_
    exact kz
   obtain ⟨T12, X12, e12, st12⟩ := getF X11 hx hZ hown (host := "") (Or.inl (w_ hw 68 rfl)) Via.refl e11 P.2.2.2.1 (g := (mkF m 54 #[Vr (A 0), Vi r, Vi x, Vi x, Vi rr] [(.ref (A 0)), (.ref (A 0)), (.int r), (.ref (A 3))])) rfl rfl (hb hby d34_54)
   refine Goes.via st12 ?_
   refine Goes.via (S' := T12.setTop (mkF m 58 #[Vr (A 0), Vi r, Vi x, Vi x, Vi rr] [(.int r), (.ref (A 3)), (.ref (A 0)), (.int r), (.ref (A 3))])) (fun tz kz => ?_) ?_
   ·refine XS.iloadN X12.here hx rfl (hb hby d34_57) rfl ?_
    exact kz
   obtain ⟨cl13, Ar13, Sz13, Hs13⟩ := P.2.2.2.2.2.2.2.2.2.2.2.2.1
   have mem : ∀ k, k ∈ ls → k ∈ xs := fun k hk => by rw [ex0]; simp [hk]
   have xi : κ xN < κ iN := by rw [← hk, ← hk2]; exact q1.mp hc44_10
   refine Goes.via (S' := T12.setTop (mkF m 60 #[Vr (A 0), Vi r, Vi x, Vi x, Vi rr] [(.int x), (.int (f 3 iN)), (.ref (A 0)), (.int r), (.ref (A 3))])) (fun tz kz => ?_) ?_
   ·refine X12.iaload hx (j := r) (v := (.int (f 3 iN))) (by rw [e12]; exact Ar13.1) (State.isArrayOf_alike hZ.alike Ar13.2.1) Ar13.2.2 (own_in Sz13 Ii ib) (own_at Hs13 Ii ib) (g := (mkF m 58 #[Vr (A 0), Vi r, Vi x, Vi x, Vi rr] [(.int r), (.ref (A 3)), (.ref (A 0)), (.int r), (.ref (A 3))])) rfl rfl (hb hby d34_58) _ ?_
    refine XS.iloadN X12.here hx rfl (hb hby d34_59) rfl ?_
    exact kz
   obtain ⟨cq14, q14, q14'⟩ := (P.1).cell
   obtain ⟨_, _, ⟨T14, L14, k14, n14⟩, -, X14, ⟨Lc14, hQ14, l14, y14, z14⟩, st14⟩ := X12.privateBack hx (y := n_15) hown (mvT hZ (w_ hw 164 rfl)) (mvT hZ (w_ hw 165 rfl)) (sel_private hZ (w_ hw 57 rfl) (w_ hw 166 rfl) (w_ hw 165 rfl) (by decide)) (Cond.privateMethod_at (mvP hZ (w_ hw 166 rfl) (args := #[]))) (mvT hZ (w_ hw 167 rfl)) (by decide) (backOf (W := 2) (rns_1 l Z a0 hw [] (f 3 iN) x A f ob nm κ ls dl B xN h0 n0 Z0 P TL (by omega) Si.inv.1 (fun k hk => ND k (mem k hk)) hxx xb ⟨sN, aN, hs, he, a3, sB, hk⟩ h3 h4 h5 (fun y => nx (mem _ y)) (fun y => nk (y.elim fun k hk => ⟨k, mem k hk.1, hk.2⟩)) Bb cr) hZ (w_ hw 167 rfl) (w_ hw 58 rfl) (by decide) (by decide)) (g := (mkF m 60 #[Vr (A 0), Vi r, Vi x, Vi x, Vi rr] [(.int x), (.int (f 3 iN)), (.ref (A 0)), (.int r), (.ref (A 3))])) rfl (by rw [hml]; rfl) (Steps.refl _) (a := (A 0)) (by rw [e12]; exact q14) q14' (argsL := [(.int (f 3 iN)), (.int x)]) (rest := [(.int r), (.ref (A 3))]) (lenOf pd_1 rfl) rfl (ww_ rfl rfl) (hb hby d34_60) (fun _ _ => ⟨rfl, e12, (by decide : 0 + 0 ≤ _), (by decide : 0 + 0 ≤ _)⟩)
   dsimp only [Pt.U, Pt.locs, Pt.cells, Pt.slots] at X14 l14 y14 z14 st14 hQ14
   subst l14 y14 z14
   obtain ⟨f1, r1, rfl, N14, K14, P14, us, vs, h1, ex, T1, lu, lv, g1, g2, fr⟩ := hQ14
   have Nf14 := Fr.app Nf9 N14
   refine Goes.via (fun _ kz => st14.trans kz) ?_
   obtain ⟨cl15, Ar15, Sz15, Hs15⟩ := P14.2.2.2.2.2.2.2.2.2.2.2.2.1
   obtain ⟨T16, h16, X16, e16, W16, st16⟩ := stI X14 hx hZ rfl Ar15 (j := r) (own_in Sz15 Ii ib) (g := (mkF m 63 #[Vr (A 0), Vi r, Vi x, Vi x, Vi rr] [(.int r1), (.int r), (.ref (A 3))])) rfl rfl (hb hby d34_63)
   refine Goes.via st16 ?_
   have N16 := Fr.snoc X16 Nf14 (P14.2.2.2.2.2.2.2.2.2.2.2.2.2.2.2.2.2.1 3 (by decide))
   rw [show (r).toNatClampNeg = iN from (Ii).nat] at W16
   have P16 := P14.w3 W16
   have K16 := K14.wr W16 (Or.inl own_mem3)
   have pl := own_insPL Si ex lu lv xi fr T1 TR
   refine Goes.via (S' := T16.setTop (mkF m 86 #[Vr (A 0), Vi r, Vi x, Vi x, Vi rr] [(.int r), (.ref (A 0))])) (fun tz kz => ?_) ?_
   ·refine XS.goto X16.here hx rfl (pc0 := 64) (pc' := 84) rfl (hb hby d34_64) (by decide) (by decide) ?_
    refine XS.aloadN X16.here hx rfl (hb hby d34_84) rfl rfl ?_
    refine XS.iloadN X16.here hx rfl (hb hby d34_85) rfl ?_
    exact kz
   obtain ⟨cq17, q17, q17'⟩ := (P16.1).cell
   obtain ⟨_, _, ⟨T17, L17, k17, n17⟩, -, X17, ⟨Lc17, hQ17, l17, y17, z17⟩, st17⟩ := X16.privateBack hx (y := n_14) hown (mvT hZ (w_ hw 180 rfl)) (mvT hZ (w_ hw 181 rfl)) (sel_private hZ (w_ hw 57 rfl) (w_ hw 182 rfl) (w_ hw 181 rfl) (by decide)) (Cond.privateMethod_at (mvP hZ (w_ hw 182 rfl) (args := #[]))) (mvT hZ (w_ hw 183 rfl)) (by decide) (backOf (W := 0) (rba l Z a0 hw [] r A (own_fu f1 3 iN r1) ob nm iN (us ++ xN :: vs) rs h1 dr h16 n0 (Nat.le_trans Z0 K16.1) P16 Ii ib pl.1 pl.2.1 pl.2.2 (by omega) (by omega) (by omega) (by omega)) hZ (w_ hw 183 rfl) (w_ hw 58 rfl) (by decide) (by decide)) (g := (mkF m 86 #[Vr (A 0), Vi r, Vi x, Vi x, Vi rr] [(.int r), (.ref (A 0))])) rfl (by rw [hml]; rfl) (Steps.refl _) (a := (A 0)) (by rw [e16]; exact q17) q17' (argsL := [(.int r)]) (rest := []) (lenOf pd_0 rfl) rfl (ww_ rfl rfl) (hb hby d34_86) (fun _ _ => ⟨rfl, e16, (by decide : 0 + 0 ≤ _), (by decide : 0 + 0 ≤ _)⟩)
   dsimp only [Pt.U, Pt.locs, Pt.cells, Pt.slots] at X17 l17 y17 z17 st17 hQ17
   subst l17 y17 z17
   obtain ⟨f3, r3, rfl, N17, K17, P17, bl⟩ := hQ17
   have Nf17 := Fr.app N16 N17
   refine Goes.via (fun _ kz => st17.trans kz) ?_
   have J17 := K16.trans K17 (fun _ q => Or.inl q)
   refine Goes.via (S' := T17.setTop (mkF m 91 #[Vr (A 0), Vi r, Vi x, Vi r3, Vi rr] [(.int r3)])) (fun tz kz => ?_) ?_
   ·refine XS.istoreN X17.here hx rfl (hb hby d34_89) rfl (l' := #[Vr (A 0), Vi r, Vi x, Vi r3, Vi rr]) rfl ?_
    refine XS.iloadN X17.here hx rfl (hb hby d34_90) rfl ?_
    exact kz
   exact Goes.retI X17 hx Bd.notSynchronized Bd.returns (hb hby d34_91) (nb_ rfl) (nb_ rfl) ⟨f3, r3, rfl, Nf17, J17, P17, by rw [ex0, eh]; exact own_insL ex lu lv xi Si.inv.2.2.2 g1 g2 b1 b2 fr bl⟩
  ·refine Goes.via (S' := T9.setTop (mkF m 68 #[Vr (A 0), Vi r, Vi x, Vi x, Vi rr] [(.ref (A 0))])) (fun tz kz => ?_) ?_
   ·refine XS.ifYes X9.here hx rfl (pc0 := 44) (pc' := 67) rfl (hb hby d34_44) rfl ((if0 _ _).trans (flt hc44_10).2.1) (by decide) (by decide) ?_
    refine XS.aloadN X9.here hx rfl (hb hby d34_67) rfl rfl ?_
    exact kz
   obtain ⟨T18, X18, e18, st18⟩ := getF X9 hx hZ hown (host := "") (Or.inl (w_ hw 70 rfl)) Via.refl e9 P.2.2.2.2.1 (g := (mkF m 68 #[Vr (A 0), Vi r, Vi x, Vi x, Vi rr] [(.ref (A 0))])) rfl rfl (hb hby d34_68)
   refine Goes.via st18 ?_
   refine Goes.via (S' := T18.setTop (mkF m 74 #[Vr (A 0), Vi r, Vi x, Vi x, Vi rr] [(.ref (A 0)), (.ref (A 0)), (.int r), (.ref (A 4))])) (fun tz kz => ?_) ?_
   ·refine XS.iloadN X18.here hx rfl (hb hby d34_71) rfl ?_
    refine XS.aloadN X18.here hx rfl (hb hby d34_72) rfl rfl ?_
    refine XS.aloadN X18.here hx rfl (hb hby d34_73) rfl rfl ?_
    exact kz
   obtain ⟨T19, X19, e19, st19⟩ := getF X18 hx hZ hown (host := "") (Or.inl (w_ hw 70 rfl)) Via.refl e18 P.2.2.2.2.1 (g := (mkF m 74 #[Vr (A 0), Vi r, Vi x, Vi x, Vi rr] [(.ref (A 0)), (.ref (A 0)), (.int r), (.ref (A 4))])) rfl rfl (hb hby d34_74)
   refine Goes.via st19 ?_
   refine Goes.via (S' := T19.setTop (mkF m 78 #[Vr (A 0), Vi r, Vi x, Vi x, Vi rr] [(.int r), (.ref (A 4)), (.ref (A 0)), (.int r), (.ref (A 4))])) (fun tz kz => ?_) ?_
   ·refine XS.iloadN X19.here hx rfl (hb hby d34_77) rfl ?_
    exact kz
   obtain ⟨cl20, Ar20, Sz20, Hs20⟩ := P.2.2.2.2.2.2.2.2.2.2.2.2.2.1
   have mem : ∀ k, k ∈ rs → k ∈ xs := fun k hk => by rw [ex0]; simp [hk]
   have xi : κ iN < κ xN := by
    have y1 := mt q1.mpr hc44_10
    have y2 : ¬ κ iN = κ xN := fun y => nk ⟨iN, by rw [ex0]; simp, y⟩
    rw [hk, hk2] at y1
    omega
   refine Goes.via (S' := T19.setTop (mkF m 80 #[Vr (A 0), Vi r, Vi x, Vi x, Vi rr] [(.int x), (.int (f 4 iN)), (.ref (A 0)), (.int r), (.ref (A 4))])) (fun tz kz => ?_) ?_
   ·refine X19.iaload hx (j := r) (v := (.int (f 4 iN))) (by rw [e19]; exact Ar20.1) (State.isArrayOf_alike hZ.alike Ar20.2.1) Ar20.2.2 (own_in Sz20 Ii ib) (own_at Hs20 Ii ib) (g := (mkF m 78 #[Vr (A 0), Vi r, Vi x, Vi x, Vi rr] [(.int r), (.ref (A 4)), (.ref (A 0)), (.int r), (.ref (A 4))])) rfl rfl (hb hby d34_78) _ ?_
    refine XS.iloadN X19.here hx rfl (hb hby d34_79) rfl ?_
    exact kz
   obtain ⟨cq21, q21, q21'⟩ := (P.1).cell
   obtain ⟨_, _, ⟨T21, L21, k21, n21⟩, -, X21, ⟨Lc21, hQ21, l21, y21, z21⟩, st21⟩ := X19.privateBack hx (y := n_15) hown (mvT hZ (w_ hw 164 rfl)) (mvT hZ (w_ hw 165 rfl)) (sel_private hZ (w_ hw 57 rfl) (w_ hw 166 rfl) (w_ hw 165 rfl) (by decide)) (Cond.privateMethod_at (mvP hZ (w_ hw 166 rfl) (args := #[]))) (mvT hZ (w_ hw 167 rfl)) (by decide) (backOf (W := 2) (rns_1 l Z a0 hw [] (f 4 iN) x A f ob nm κ rs dr B xN h0 n0 Z0 P TR (by omega) Si.inv.2.1 (fun k hk => ND k (mem k hk)) hxx xb ⟨sN, aN, hs, he, a3, sB, hk⟩ h3 h4 h5 (fun y => nx (mem _ y)) (fun y => nk (y.elim fun k hk => ⟨k, mem k hk.1, hk.2⟩)) Bb cr) hZ (w_ hw 167 rfl) (w_ hw 58 rfl) (by decide) (by decide)) (g := (mkF m 80 #[Vr (A 0), Vi r, Vi x, Vi x, Vi rr] [(.int x), (.int (f 4 iN)), (.ref (A 0)), (.int r), (.ref (A 4))])) rfl (by rw [hml]; rfl) (Steps.refl _) (a := (A 0)) (by rw [e19]; exact q21) q21' (argsL := [(.int (f 4 iN)), (.int x)]) (rest := [(.int r), (.ref (A 4))]) (lenOf pd_1 rfl) rfl (ww_ rfl rfl) (hb hby d34_80) (fun _ _ => ⟨rfl, e19, (by decide : 0 + 0 ≤ _), (by decide : 0 + 0 ≤ _)⟩)
   dsimp only [Pt.U, Pt.locs, Pt.cells, Pt.slots] at X21 l21 y21 z21 st21 hQ21
   subst l21 y21 z21
   obtain ⟨f1, r1, rfl, N21, K21, P21, us, vs, h1, ex, T1, lu, lv, g1, g2, fr⟩ := hQ21
   have Nf21 := Fr.app Nf9 N21
   refine Goes.via (fun _ kz => st21.trans kz) ?_
   obtain ⟨cl22, Ar22, Sz22, Hs22⟩ := P21.2.2.2.2.2.2.2.2.2.2.2.2.2.1
   obtain ⟨T23, h23, X23, e23, W23, st23⟩ := stI X21 hx hZ rfl Ar22 (j := r) (own_in Sz22 Ii ib) (g := (mkF m 83 #[Vr (A 0), Vi r, Vi x, Vi x, Vi rr] [(.int r1), (.int r), (.ref (A 4))])) rfl rfl (hb hby d34_83)
   refine Goes.via st23 ?_
   have N23 := Fr.snoc X23 Nf21 (P21.2.2.2.2.2.2.2.2.2.2.2.2.2.2.2.2.2.1 4 (by decide))
   rw [show (r).toNatClampNeg = iN from (Ii).nat] at W23
   have P23 := P21.w4 W23
   have K23 := K21.wr W23 (Or.inl own_mem4)
   have pl := own_insPR Si ex lu lv xi fr T1 TL
   refine Goes.via (S' := T23.setTop (mkF m 86 #[Vr (A 0), Vi r, Vi x, Vi x, Vi rr] [(.int r), (.ref (A 0))])) (fun tz kz => ?_) ?_
   ·refine XS.aloadN X23.here hx rfl (hb hby d34_84) rfl rfl ?_
    refine XS.iloadN X23.here hx rfl (hb hby d34_85) rfl ?_
    exact kz
   obtain ⟨cq24, q24, q24'⟩ := (P23.1).cell
   obtain ⟨_, _, ⟨T24, L24, k24, n24⟩, -, X24, ⟨Lc24, hQ24, l24, y24, z24⟩, st24⟩ := X23.privateBack hx (y := n_14) hown (mvT hZ (w_ hw 180 rfl)) (mvT hZ (w_ hw 181 rfl)) (sel_private hZ (w_ hw 57 rfl) (w_ hw 182 rfl) (w_ hw 181 rfl) (by decide)) (Cond.privateMethod_at (mvP hZ (w_ hw 182 rfl) (args := #[]))) (mvT hZ (w_ hw 183 rfl)) (by decide) (backOf (W := 0) (rba l Z a0 hw [] r A (own_fu f1 4 iN r1) ob nm iN ls (us ++ xN :: vs) dl h1 h23 n0 (Nat.le_trans Z0 K23.1) P23 Ii ib pl.1 pl.2.1 pl.2.2 (by omega) (by omega) (by omega) (by omega)) hZ (w_ hw 183 rfl) (w_ hw 58 rfl) (by decide) (by decide)) (g := (mkF m 86 #[Vr (A 0), Vi r, Vi x, Vi x, Vi rr] [(.int r), (.ref (A 0))])) rfl (by rw [hml]; rfl) (Steps.refl _) (a := (A 0)) (by rw [e23]; exact q24) q24' (argsL := [(.int r)]) (rest := []) (lenOf pd_0 rfl) rfl (ww_ rfl rfl) (hb hby d34_86) (fun _ _ => ⟨rfl, e23, (by decide : 0 + 0 ≤ _), (by decide : 0 + 0 ≤ _)⟩)
   dsimp only [Pt.U, Pt.locs, Pt.cells, Pt.slots] at X24 l24 y24 z24 st24 hQ24
   subst l24 y24 z24
   obtain ⟨f3, r3, rfl, N24, K24, P24, bl⟩ := hQ24
   have Nf24 := Fr.app N23 N24
   refine Goes.via (fun _ kz => st24.trans kz) ?_
   have J24 := K23.trans K24 (fun _ q => Or.inl q)
   refine Goes.via (S' := T24.setTop (mkF m 91 #[Vr (A 0), Vi r, Vi x, Vi r3, Vi rr] [(.int r3)])) (fun tz kz => ?_) ?_
   ·refine XS.istoreN X24.here hx rfl (hb hby d34_89) rfl (l' := #[Vr (A 0), Vi r, Vi x, Vi r3, Vi rr]) rfl ?_
    refine XS.iloadN X24.here hx rfl (hb hby d34_90) rfl ?_
    exact kz
   exact Goes.retI X24 hx Bd.notSynchronized Bd.returns (hb hby d34_91) (nb_ rfl) (nb_ rfl) ⟨f3, r3, rfl, Nf24, J24, P24, by rw [ex0, eh]; exact own_insR ex lu lv xi Si.inv.2.2.1 g1 g2 b1 b2 fr bl⟩
def Q_rns_3 (Z : State) (r : Int32) (x : Int32) (A : Nat → Addr) (f : Nat → Nat → Int32) (ob nm : Int32) (κ : Nat → Nat) (xs : List Nat) (ht B xN : Nat) (h0 : Heap) (n0 : Nat) : Option Value → Heap → List Loc → Prop := fun v h L => ∃ f' r', v = some (.int r') ∧ Fr n0 L ∧ Keep h0 h (own_ws A) ∧ own_ON Z n0 h A f' ob nm ∧ own_insd f f' κ xN r' xs ht
theorem rns_3 (l : Launch) (Z : State) (a0 : Array Value) (hw : ∀ d ∈ tables_1, d.before a0 Z = true) (ws : List Jvm.Cond) (r : Int32) (x : Int32) (A : Nat → Addr) (f : Nat → Nat → Int32) (ob nm : Int32) (κ : Nat → Nat) (xs : List Nat) (ht B xN : Nat) (h0 : Heap) (n0 : Nat) (Z0 : n0 ≤ h0.size) (P : own_ON Z n0 h0 A f ob nm) (T : own_Tr f r xs ht) (hN : ht ≤ 3) (S : own_so κ xs) (ND : ∀ i ∈ xs, own_nd f κ B i) (hxx : own_I x xN) (xb : xN < 16) (NX : own_nd f κ B xN) (h3 : f 3 xN = -1) (h4 : f 4 xN = -1) (h5 : f 5 xN = 1) (nx : xN ∉ xs) (nk : ¬ own_has κ (κ xN) xs) (Bb : B ≤ 40) (cr : own_cr (f 1)) :
  own_M l Z n_15 (Jvm.Cond.code n_15 prog_33_method_7_code 5 (some .int)) ws (Rm 6 0 0 120) #[(.ref (A 0)), (.int r), (.int x)] h0 (Q_rns_3 Z r x A f ob nm κ xs ht B xN h0 n0) := by
 refine MetFree.of_bodySF (plainFor_of_name pn_34) hisR ?_
 intro p e s m args below meth c s₁ Bd hml0 hP hK
 obtain ⟨rfl, hZ, hh⟩ := hP
 have hx := Bd.exec
 have hby := Bd.bytes
 have hml : c.maxLocals = 5 := hml0
 have hown : s.vm.findClass "com/example/upkeep_window/upkeepwindow/policy/OpenNames" = some m.cls := findClass_of_methodNamed Bd.named
 have hnm := (name_of_methodNamed Bd.named Bd.method).1
 have X0 : Stand p l e (Rm 6 0 0 120) s m #[(.ref (A 0)), (.int r), (.int x)] below meth c s₁ [] 0 0 := Stand.of_body Bd
 have e0 : s₁.heap = h0 := by rw [← hh, Bd.state]; rfl
 have N0 := Fr.nil n0
 show Goes p e below (Fin s (Q_rns_3 Z r x A f ob nm κ xs ht B xN h0 n0) (Rm 6 0 0 120).cells (Rm 6 0 0 120).slots) _
 refine Goes.via (S' := s₁.setTop (mkF m 0 #[Vr (A 0), Vi r, Vi x, Vu, Vu] [])) (fun tz kz => castTop (ef_34 m (A 0) r x ) kz) ?_
 rcases T.inv with ⟨y1, y2, y3⟩ | ⟨iN, ls, rs, dl, dr, Ii, ib, TL, TR, ex0, e5, eh, b1, b2⟩
 ·skip
  refine Goes.via (S' := s₁.setTop (mkF m 91 #[Vr (A 0), Vi r, Vi x, Vi x, Vu] [(.int x)])) (fun tz kz => ?_) ?_
  ·refine XS.iloadN X0.here hx rfl (hb hby d34_0) rfl ?_
   refine XS.istoreN X0.here hx rfl (hb hby d34_1) rfl (l' := #[Vr (A 0), Vi r, Vi x, Vi x, Vu]) rfl ?_
   refine XS.iloadN X0.here hx rfl (hb hby d34_2) rfl ?_
   refine XS.iconst X0.here hx rfl (hb hby d34_3) ?_
   refine XS.icmpYes X0.here hx rfl (pc0 := 4) (pc' := 90) rfl (hb hby d34_4) rfl (teq y1).1 (by decide) (by decide) ?_
   refine XS.iloadN X0.here hx rfl (hb hby d34_90) rfl ?_
   exact kz
  exact Goes.retI X0 hx Bd.notSynchronized Bd.returns (hb hby d34_91) (nb_ rfl) (nb_ rfl) ⟨f, x, rfl, N0, by rw [e0]; exact Keep.refl h0 (own_ws A), by rw [e0]; exact P, by rw [y2, y3]; exact own_ins0 hxx xb h3 h4 h5⟩
 ·have Si : own_so κ (ls ++ iN :: rs) := ex0 ▸ S
  obtain ⟨sN, aN, hs, he, a3, sB, hk⟩ := NX
  obtain ⟨tN, bN, ht_, hu, b3, tB, hk2⟩ := ND iN (by rw [ex0]; simp)
  refine Goes.via (S' := s₁.setTop (mkF m 8 #[Vr (A 0), Vi r, Vi x, Vi x, Vu] [(.ref (A 0))])) (fun tz kz => ?_) ?_
  ·refine XS.iloadN X0.here hx rfl (hb hby d34_0) rfl ?_
   refine XS.istoreN X0.here hx rfl (hb hby d34_1) rfl (l' := #[Vr (A 0), Vi r, Vi x, Vi x, Vu]) rfl ?_
   refine XS.iloadN X0.here hx rfl (hb hby d34_2) rfl ?_
   refine XS.iconst X0.here hx rfl (hb hby d34_3) ?_
   refine XS.icmpNo X0.here hx rfl (hb hby d34_4) rfl (feq (own_Ine Ii)).1 ?_
   refine XS.aloadN X0.here hx rfl (hb hby d34_7) rfl rfl ?_
   exact kz
  obtain ⟨T1, X1, e1, st1⟩ := getF X0 hx hZ hown (host := "") (Or.inl (w_ hw 63 rfl)) Via.refl e0 P.2.1 (g := (mkF m 8 #[Vr (A 0), Vi r, Vi x, Vi x, Vu] [(.ref (A 0))])) rfl rfl (hb hby d34_8)
  refine Goes.via st1 ?_
  refine Goes.via (S' := T1.setTop (mkF m 13 #[Vr (A 0), Vi r, Vi x, Vi x, Vu] [(.int x), (.ref (A 0)), (.ref (A 1))])) (fun tz kz => ?_) ?_
  ·refine XS.aloadN X1.here hx rfl (hb hby d34_11) rfl rfl ?_
   refine XS.iloadN X1.here hx rfl (hb hby d34_12) rfl ?_
   exact kz
  obtain ⟨cq2, q2, q2'⟩ := (P.1).cell
  obtain ⟨_, _, ⟨T2, L2, k2, n2⟩, -, X2, ⟨Lc2, hQ2, l2, y2, z2⟩, st2⟩ := X1.privateBack hx (y := n_0) hown (mvT hZ (w_ hw 115 rfl)) (mvT hZ (w_ hw 116 rfl)) (sel_private hZ (w_ hw 57 rfl) (w_ hw 117 rfl) (w_ hw 116 rfl) (by decide)) (Cond.privateMethod_at (mvP hZ (w_ hw 117 rfl) (args := #[]))) (mvT hZ (w_ hw 118 rfl)) (by decide) (backOf (W := 1) (rst l Z a0 hw [] x A f ob nm xN h0 n0 Z0 P hxx (by omega)) hZ (w_ hw 118 rfl) (w_ hw 58 rfl) (by decide) (by decide)) (g := (mkF m 13 #[Vr (A 0), Vi r, Vi x, Vi x, Vu] [(.int x), (.ref (A 0)), (.ref (A 1))])) rfl (by rw [hml]; rfl) (Steps.refl _) (a := (A 0)) (by rw [e1]; exact q2) q2' (argsL := [(.int x)]) (rest := [(.ref (A 1))]) (lenOf pd_0 rfl) rfl (ww_ rfl rfl) (hb hby d34_13) (fun _ _ => ⟨rfl, e1, (by decide : 0 + 0 ≤ _), (by decide : 0 + 0 ≤ _)⟩)
  dsimp only [Pt.U, Pt.locs, Pt.cells, Pt.slots] at X2 l2 y2 z2 st2 hQ2
  subst l2 y2 z2
  obtain ⟨rfl, N2, e2⟩ := hQ2
  have Nf2 := Fr.app N0 N2
  refine Goes.via (fun _ kz => st2.trans kz) ?_
  refine Goes.via (S' := T2.setTop (mkF m 17 #[Vr (A 0), Vi r, Vi x, Vi x, Vu] [(.ref (A 0)), (.int (own_st f xN)), (.ref (A 1))])) (fun tz kz => ?_) ?_
  ·refine XS.aloadN X2.here hx rfl (hb hby d34_16) rfl rfl ?_
   exact kz
  obtain ⟨T3, X3, e3, st3⟩ := getF X2 hx hZ hown (host := "") (Or.inl (w_ hw 66 rfl)) Via.refl e2 P.2.2.1 (g := (mkF m 17 #[Vr (A 0), Vi r, Vi x, Vi x, Vu] [(.ref (A 0)), (.int (own_st f xN)), (.ref (A 1))])) rfl rfl (hb hby d34_17)
  refine Goes.via st3 ?_
  refine Goes.via (S' := T3.setTop (mkF m 21 #[Vr (A 0), Vi r, Vi x, Vi x, Vu] [(.int x), (.ref (A 2)), (.int (own_st f xN)), (.ref (A 1))])) (fun tz kz => ?_) ?_
  ·refine XS.iloadN X3.here hx rfl (hb hby d34_20) rfl ?_
   exact kz
  obtain ⟨cl4, Ar4, Sz4, Hs4⟩ := P.2.2.2.2.2.2.2.2.2.2.2.1
  refine Goes.via (S' := T3.setTop (mkF m 23 #[Vr (A 0), Vi r, Vi x, Vi x, Vu] [(.ref (A 0)), (.int (f 2 xN)), (.int (own_st f xN)), (.ref (A 1))])) (fun tz kz => ?_) ?_
  ·refine X3.iaload hx (j := x) (v := (.int (f 2 xN))) (by rw [e3]; exact Ar4.1) (State.isArrayOf_alike hZ.alike Ar4.2.1) Ar4.2.2 (own_in Sz4 hxx xb) (own_at Hs4 hxx xb) (g := (mkF m 21 #[Vr (A 0), Vi r, Vi x, Vi x, Vu] [(.int x), (.ref (A 2)), (.int (own_st f xN)), (.ref (A 1))])) rfl rfl (hb hby d34_21) _ ?_
   refine XS.aloadN X3.here hx rfl (hb hby d34_22) rfl rfl ?_
   exact kz
  obtain ⟨T5, X5, e5, st5⟩ := getF X3 hx hZ hown (host := "") (Or.inl (w_ hw 63 rfl)) Via.refl e3 P.2.1 (g := (mkF m 23 #[Vr (A 0), Vi r, Vi x, Vi x, Vu] [(.ref (A 0)), (.int (f 2 xN)), (.int (own_st f xN)), (.ref (A 1))])) rfl rfl (hb hby d34_23)
  refine Goes.via st5 ?_
  refine Goes.via (S' := T5.setTop (mkF m 28 #[Vr (A 0), Vi r, Vi x, Vi x, Vu] [(.int r), (.ref (A 0)), (.ref (A 1)), (.int (f 2 xN)), (.int (own_st f xN)), (.ref (A 1))])) (fun tz kz => ?_) ?_
  ·refine XS.aloadN X5.here hx rfl (hb hby d34_26) rfl rfl ?_
   refine XS.iloadN X5.here hx rfl (hb hby d34_27) rfl ?_
   exact kz
  obtain ⟨cq6, q6, q6'⟩ := (P.1).cell
  obtain ⟨_, _, ⟨T6, L6, k6, n6⟩, -, X6, ⟨Lc6, hQ6, l6, y6, z6⟩, st6⟩ := X5.privateBack hx (y := n_0) hown (mvT hZ (w_ hw 115 rfl)) (mvT hZ (w_ hw 116 rfl)) (sel_private hZ (w_ hw 57 rfl) (w_ hw 117 rfl) (w_ hw 116 rfl) (by decide)) (Cond.privateMethod_at (mvP hZ (w_ hw 117 rfl) (args := #[]))) (mvT hZ (w_ hw 118 rfl)) (by decide) (backOf (W := 4) (rst l Z a0 hw [] r A f ob nm iN h0 n0 Z0 P Ii (by omega)) hZ (w_ hw 118 rfl) (w_ hw 58 rfl) (by decide) (by decide)) (g := (mkF m 28 #[Vr (A 0), Vi r, Vi x, Vi x, Vu] [(.int r), (.ref (A 0)), (.ref (A 1)), (.int (f 2 xN)), (.int (own_st f xN)), (.ref (A 1))])) rfl (by rw [hml]; rfl) (Steps.refl _) (a := (A 0)) (by rw [e5]; exact q6) q6' (argsL := [(.int r)]) (rest := [(.ref (A 1)), (.int (f 2 xN)), (.int (own_st f xN)), (.ref (A 1))]) (lenOf pd_0 rfl) rfl (ww_ rfl rfl) (hb hby d34_28) (fun _ _ => ⟨rfl, e5, (by decide : 0 + 0 ≤ _), (by decide : 0 + 0 ≤ _)⟩)
  dsimp only [Pt.U, Pt.locs, Pt.cells, Pt.slots] at X6 l6 y6 z6 st6 hQ6
  subst l6 y6 z6
  obtain ⟨rfl, N6, e6⟩ := hQ6
  have Nf6 := Fr.app Nf2 N6
  refine Goes.via (fun _ kz => st6.trans kz) ?_
  refine Goes.via (S' := T6.setTop (mkF m 32 #[Vr (A 0), Vi r, Vi x, Vi x, Vu] [(.ref (A 0)), (.int (own_st f iN)), (.ref (A 1)), (.int (f 2 xN)), (.int (own_st f xN)), (.ref (A 1))])) (fun tz kz => ?_) ?_
  ·refine XS.aloadN X6.here hx rfl (hb hby d34_31) rfl rfl ?_
   exact kz
  obtain ⟨T7, X7, e7, st7⟩ := getF X6 hx hZ hown (host := "") (Or.inl (w_ hw 66 rfl)) Via.refl e6 P.2.2.1 (g := (mkF m 32 #[Vr (A 0), Vi r, Vi x, Vi x, Vu] [(.ref (A 0)), (.int (own_st f iN)), (.ref (A 1)), (.int (f 2 xN)), (.int (own_st f xN)), (.ref (A 1))])) rfl rfl (hb hby d34_32)
  refine Goes.via st7 ?_
  refine Goes.via (S' := T7.setTop (mkF m 36 #[Vr (A 0), Vi r, Vi x, Vi x, Vu] [(.int r), (.ref (A 2)), (.int (own_st f iN)), (.ref (A 1)), (.int (f 2 xN)), (.int (own_st f xN)), (.ref (A 1))])) (fun tz kz => ?_) ?_
  ·refine XS.iloadN X7.here hx rfl (hb hby d34_35) rfl ?_
   exact kz
  obtain ⟨cl8, Ar8, Sz8, Hs8⟩ := P.2.2.2.2.2.2.2.2.2.2.2.1
  refine Goes.via (S' := T7.setTop (mkF m 37 #[Vr (A 0), Vi r, Vi x, Vi x, Vu] [(.int (f 2 iN)), (.int (own_st f iN)), (.ref (A 1)), (.int (f 2 xN)), (.int (own_st f xN)), (.ref (A 1))])) (fun tz kz => ?_) ?_
  ·refine X7.iaload hx (j := r) (v := (.int (f 2 iN))) (by rw [e7]; exact Ar8.1) (State.isArrayOf_alike hZ.alike Ar8.2.1) Ar8.2.2 (own_in Sz8 Ii ib) (own_at Hs8 Ii ib) (g := (mkF m 36 #[Vr (A 0), Vi r, Vi x, Vi x, Vu] [(.int r), (.ref (A 2)), (.int (own_st f iN)), (.ref (A 1)), (.int (f 2 xN)), (.int (own_st f xN)), (.ref (A 1))])) rfl rfl (hb hby d34_36) _ ?_
   exact kz
  obtain ⟨_, _, ⟨T9, L9, k9, n9⟩, -, X9, ⟨Lc9, hQ9, l9, y9, z9⟩, st9⟩ := Jvm.LawKit.callS X7 hx (y := n_11) hown (mvT hZ (w_ hw 168 rfl)) (mvT hZ (w_ hw 169 rfl)) (mvT hZ (w_ hw 170 rfl)) (mvT hZ (w_ hw 171 rfl)) (by decide) (backOf (W := 0) (rcm l Z a0 hw [] (A 1) (own_st f xN) (f 2 xN) (own_st f iN) (f 2 iN) (f 1) sN tN aN bN h0 n0 Z0 P.2.2.2.2.2.2.2.2.2.2.1 hs ht_ (by omega) (by omega) he hu a3 b3 (by omega) (by omega) cr) hZ (w_ hw 171 rfl) (w_ hw 170 rfl) (by decide) (by decide)) (g := (mkF m 37 #[Vr (A 0), Vi r, Vi x, Vi x, Vu] [(.int (f 2 iN)), (.int (own_st f iN)), (.ref (A 1)), (.int (f 2 xN)), (.int (own_st f xN)), (.ref (A 1))])) rfl (by rw [hml]; rfl) (argsL := [(.ref (A 1)), (.int (own_st f xN)), (.int (f 2 xN)), (.ref (A 1)), (.int (own_st f iN)), (.int (f 2 iN))]) (rest := []) (lenOf pd_6 rfl) rfl (ww_ rfl rfl) (hb hby d34_37) (fun _ _ => ⟨rfl, e7, (by decide : 0 + 0 ≤ _), (by decide : 0 + 0 ≤ _)⟩)
  dsimp only [Pt.U, Pt.locs, Pt.cells, Pt.slots] at X9 l9 y9 z9 st9 hQ9
  subst l9 y9 z9
  obtain ⟨rr, rfl, N9, e9, q1, q2⟩ := hQ9
  have Nf9 := Fr.app Nf6 N9
  refine Goes.via (st9) ?_
  refine Goes.via (S' := T9.setTop (mkF m 44 #[Vr (A 0), Vi r, Vi x, Vi x, Vi rr] [(.int rr)])) (fun tz kz => ?_) ?_
  ·refine XS.istore X9.here hx rfl (hb hby d34_40) rfl (l' := #[Vr (A 0), Vi r, Vi x, Vi x, Vi rr]) rfl ?_
   refine XS.iload X9.here hx rfl (hb hby d34_42) rfl ?_
   exact kz
  by_cases hc44_10 : rr < (0 : Int32)
  ·refine Goes.via (S' := T9.setTop (mkF m 48 #[Vr (A 0), Vi r, Vi x, Vi x, Vi rr] [(.ref (A 0))])) (fun tz kz => ?_) ?_
   ·refine XS.ifNo X9.here hx rfl (hb hby d34_44) rfl ((if0 _ _).trans (tlt hc44_10).2.1) ?_
    refine XS.aloadN X9.here hx rfl (hb hby d34_47) rfl rfl ?_
    exact kz
   obtain ⟨T11, X11, e11, st11⟩ := getF X9 hx hZ hown (host := "") (Or.inl (w_ hw 68 rfl)) Via.refl e9 P.2.2.2.1 (g := (mkF m 48 #[Vr (A 0), Vi r, Vi x, Vi x, Vi rr] [(.ref (A 0))])) rfl rfl (hb hby d34_48)
   refine Goes.via st11 ?_
   refine Goes.via (S' := T11.setTop (mkF m 54 #[Vr (A 0), Vi r, Vi x, Vi x, Vi rr] [(.ref (A 0)), (.ref (A 0)), (.int r), (.ref (A 3))])) (fun tz kz => ?_) ?_
   ·refine XS.iloadN X11.here hx rfl (hb hby d34_51) rfl ?_
    refine XS.aloadN X11.here hx rfl (hb hby d34_52) rfl rfl ?_
    refine XS.aloadN X11.here hx rfl (hb hby d34_53) rfl rfl ?_
    exact kz
   obtain ⟨T12, X12, e12, st12⟩ := getF X11 hx hZ hown (host := "") (Or.inl (w_ hw 68 rfl)) Via.refl e11 P.2.2.2.1 (g := (mkF m 54 #[Vr (A 0), Vi r, Vi x, Vi x, Vi rr] [(.ref (A 0)), (.ref (A 0)), (.int r), (.ref (A 3))])) rfl rfl (hb hby d34_54)
   refine Goes.via st12 ?_
   refine Goes.via (S' := T12.setTop (mkF m 58 #[Vr (A 0), Vi r, Vi x, Vi x, Vi rr] [(.int r), (.ref (A 3)), (.ref (A 0)), (.int r), (.ref (A 3))])) (fun tz kz => ?_) ?_
   ·refine XS.iloadN X12.here hx rfl (hb hby d34_57) rfl ?_
    exact kz
   obtain ⟨cl13, Ar13, Sz13, Hs13⟩ := P.2.2.2.2.2.2.2.2.2.2.2.2.1
   have mem : ∀ k, k ∈ ls → k ∈ xs := fun k hk => by rw [ex0]; simp [hk]
   have xi : κ xN < κ iN := by rw [← hk, ← hk2]; exact q1.mp hc44_10
   refine Goes.via (S' := T12.setTop (mkF m 60 #[Vr (A 0), Vi r, Vi x, Vi x, Vi rr] [(.int x), (.int (f 3 iN)), (.ref (A 0)), (.int r), (.ref (A 3))])) (fun tz kz => ?_) ?_
   ·refine X12.iaload hx (j := r) (v := (.int (f 3 iN))) (by rw [e12]; exact Ar13.1) (State.isArrayOf_alike hZ.alike Ar13.2.1) Ar13.2.2 (own_in Sz13 Ii ib) (own_at Hs13 Ii ib) (g := (mkF m 58 #[Vr (A 0), Vi r, Vi x, Vi x, Vi rr] [(.int r), (.ref (A 3)), (.ref (A 0)), (.int r), (.ref (A 3))])) rfl rfl (hb hby d34_58) _ ?_
    refine XS.iloadN X12.here hx rfl (hb hby d34_59) rfl ?_
    exact kz
   obtain ⟨cq14, q14, q14'⟩ := (P.1).cell
   obtain ⟨_, _, ⟨T14, L14, k14, n14⟩, -, X14, ⟨Lc14, hQ14, l14, y14, z14⟩, st14⟩ := X12.privateBack hx (y := n_15) hown (mvT hZ (w_ hw 164 rfl)) (mvT hZ (w_ hw 165 rfl)) (sel_private hZ (w_ hw 57 rfl) (w_ hw 166 rfl) (w_ hw 165 rfl) (by decide)) (Cond.privateMethod_at (mvP hZ (w_ hw 166 rfl) (args := #[]))) (mvT hZ (w_ hw 167 rfl)) (by decide) (backOf (W := 2) (rns_2 l Z a0 hw [] (f 3 iN) x A f ob nm κ ls dl B xN h0 n0 Z0 P TL (by omega) Si.inv.1 (fun k hk => ND k (mem k hk)) hxx xb ⟨sN, aN, hs, he, a3, sB, hk⟩ h3 h4 h5 (fun y => nx (mem _ y)) (fun y => nk (y.elim fun k hk => ⟨k, mem k hk.1, hk.2⟩)) Bb cr) hZ (w_ hw 167 rfl) (w_ hw 58 rfl) (by decide) (by decide)) (g := (mkF m 60 #[Vr (A 0), Vi r, Vi x, Vi x, Vi rr] [(.int x), (.int (f 3 iN)), (.ref (A 0)), (.int r), (.ref (A 3))])) rfl (by rw [hml]; rfl) (Steps.refl _) (a := (A 0)) (by rw [e12]; exact q14) q14' (argsL := [(.int (f 3 iN)), (.int x)]) (rest := [(.int r), (.ref (A 3))]) (lenOf pd_1 rfl) rfl (ww_ rfl rfl) (hb hby d34_60) (fun _ _ => ⟨rfl, e12, (by decide : 0 + 0 ≤ _), (by decide : 0 + 0 ≤ _)⟩)
   dsimp only [Pt.U, Pt.locs, Pt.cells, Pt.slots] at X14 l14 y14 z14 st14 hQ14
   subst l14 y14 z14
   obtain ⟨f1, r1, rfl, N14, K14, P14, us, vs, h1, ex, T1, lu, lv, g1, g2, fr⟩ := hQ14
   have Nf14 := Fr.app Nf9 N14
   refine Goes.via (fun _ kz => st14.trans kz) ?_
   obtain ⟨cl15, Ar15, Sz15, Hs15⟩ := P14.2.2.2.2.2.2.2.2.2.2.2.2.1
   obtain ⟨T16, h16, X16, e16, W16, st16⟩ := stI X14 hx hZ rfl Ar15 (j := r) (own_in Sz15 Ii ib) (g := (mkF m 63 #[Vr (A 0), Vi r, Vi x, Vi x, Vi rr] [(.int r1), (.int r), (.ref (A 3))])) rfl rfl (hb hby d34_63)
   refine Goes.via st16 ?_
   have N16 := Fr.snoc X16 Nf14 (P14.2.2.2.2.2.2.2.2.2.2.2.2.2.2.2.2.2.1 3 (by decide))
   rw [show (r).toNatClampNeg = iN from (Ii).nat] at W16
   have P16 := P14.w3 W16
   have K16 := K14.wr W16 (Or.inl own_mem3)
   have pl := own_insPL Si ex lu lv xi fr T1 TR
   refine Goes.via (S' := T16.setTop (mkF m 86 #[Vr (A 0), Vi r, Vi x, Vi x, Vi rr] [(.int r), (.ref (A 0))])) (fun tz kz => ?_) ?_
   ·refine XS.goto X16.here hx rfl (pc0 := 64) (pc' := 84) rfl (hb hby d34_64) (by decide) (by decide) ?_
    refine XS.aloadN X16.here hx rfl (hb hby d34_84) rfl rfl ?_
    refine XS.iloadN X16.here hx rfl (hb hby d34_85) rfl ?_
    exact kz
   obtain ⟨cq17, q17, q17'⟩ := (P16.1).cell
   obtain ⟨_, _, ⟨T17, L17, k17, n17⟩, -, X17, ⟨Lc17, hQ17, l17, y17, z17⟩, st17⟩ := X16.privateBack hx (y := n_14) hown (mvT hZ (w_ hw 180 rfl)) (mvT hZ (w_ hw 181 rfl)) (sel_private hZ (w_ hw 57 rfl) (w_ hw 182 rfl) (w_ hw 181 rfl) (by decide)) (Cond.privateMethod_at (mvP hZ (w_ hw 182 rfl) (args := #[]))) (mvT hZ (w_ hw 183 rfl)) (by decide) (backOf (W := 0) (rba l Z a0 hw [] r A (own_fu f1 3 iN r1) ob nm iN (us ++ xN :: vs) rs h1 dr h16 n0 (Nat.le_trans Z0 K16.1) P16 Ii ib pl.1 pl.2.1 pl.2.2 (by omega) (by omega) (by omega) (by omega)) hZ (w_ hw 183 rfl) (w_ hw 58 rfl) (by decide) (by decide)) (g := (mkF m 86 #[Vr (A 0), Vi r, Vi x, Vi x, Vi rr] [(.int r), (.ref (A 0))])) rfl (by rw [hml]; rfl) (Steps.refl _) (a := (A 0)) (by rw [e16]; exact q17) q17' (argsL := [(.int r)]) (rest := []) (lenOf pd_0 rfl) rfl (ww_ rfl rfl) (hb hby d34_86) (fun _ _ => ⟨rfl, e16, (by decide : 0 + 0 ≤ _), (by decide : 0 + 0 ≤ _)⟩)
   dsimp only [Pt.U, Pt.locs, Pt.cells, Pt.slots] at X17 l17 y17 z17 st17 hQ17
   subst l17 y17 z17
   obtain ⟨f3, r3, rfl, N17, K17, P17, bl⟩ := hQ17
   have Nf17 := Fr.app N16 N17
   refine Goes.via (fun _ kz => st17.trans kz) ?_
   have J17 := K16.trans K17 (fun _ q => Or.inl q)
   refine Goes.via (S' := T17.setTop (mkF m 91 #[Vr (A 0), Vi r, Vi x, Vi r3, Vi rr] [(.int r3)])) (fun tz kz => ?_) ?_
   ·refine XS.istoreN X17.here hx rfl (hb hby d34_89) rfl (l' := #[Vr (A 0), Vi r, Vi x, Vi r3, Vi rr]) rfl ?_
    refine XS.iloadN X17.here hx rfl (hb hby d34_90) rfl ?_
    exact kz
   exact Goes.retI X17 hx Bd.notSynchronized Bd.returns (hb hby d34_91) (nb_ rfl) (nb_ rfl) ⟨f3, r3, rfl, Nf17, J17, P17, by rw [ex0, eh]; exact own_insL ex lu lv xi Si.inv.2.2.2 g1 g2 b1 b2 fr bl⟩
  ·refine Goes.via (S' := T9.setTop (mkF m 68 #[Vr (A 0), Vi r, Vi x, Vi x, Vi rr] [(.ref (A 0))])) (fun tz kz => ?_) ?_
   ·refine XS.ifYes X9.here hx rfl (pc0 := 44) (pc' := 67) rfl (hb hby d34_44) rfl ((if0 _ _).trans (flt hc44_10).2.1) (by decide) (by decide) ?_
    refine XS.aloadN X9.here hx rfl (hb hby d34_67) rfl rfl ?_
    exact kz
   obtain ⟨T18, X18, e18, st18⟩ := getF X9 hx hZ hown (host := "") (Or.inl (w_ hw 70 rfl)) Via.refl e9 P.2.2.2.2.1 (g := (mkF m 68 #[Vr (A 0), Vi r, Vi x, Vi x, Vi rr] [(.ref (A 0))])) rfl rfl (hb hby d34_68)
   refine Goes.via st18 ?_
   refine Goes.via (S' := T18.setTop (mkF m 74 #[Vr (A 0), Vi r, Vi x, Vi x, Vi rr] [(.ref (A 0)), (.ref (A 0)), (.int r), (.ref (A 4))])) (fun tz kz => ?_) ?_
   ·refine XS.iloadN X18.here hx rfl (hb hby d34_71) rfl ?_
    refine XS.aloadN X18.here hx rfl (hb hby d34_72) rfl rfl ?_
    refine XS.aloadN X18.here hx rfl (hb hby d34_73) rfl rfl ?_
    exact kz
   obtain ⟨T19, X19, e19, st19⟩ := getF X18 hx hZ hown (host := "") (Or.inl (w_ hw 70 rfl)) Via.refl e18 P.2.2.2.2.1 (g := (mkF m 74 #[Vr (A 0), Vi r, Vi x, Vi x, Vi rr] [(.ref (A 0)), (.ref (A 0)), (.int r), (.ref (A 4))])) rfl rfl (hb hby d34_74)
   refine Goes.via st19 ?_
   refine Goes.via (S' := T19.setTop (mkF m 78 #[Vr (A 0), Vi r, Vi x, Vi x, Vi rr] [(.int r), (.ref (A 4)), (.ref (A 0)), (.int r), (.ref (A 4))])) (fun tz kz => ?_) ?_
   ·refine XS.iloadN X19.here hx rfl (hb hby d34_77) rfl ?_
    exact kz
   obtain ⟨cl20, Ar20, Sz20, Hs20⟩ := P.2.2.2.2.2.2.2.2.2.2.2.2.2.1
   have mem : ∀ k, k ∈ rs → k ∈ xs := fun k hk => by rw [ex0]; simp [hk]
   have xi : κ iN < κ xN := by
    have y1 := mt q1.mpr hc44_10
    have y2 : ¬ κ iN = κ xN := fun y => nk ⟨iN, by rw [ex0]; simp, y⟩
    rw [hk, hk2] at y1
    omega
   refine Goes.via (S' := T19.setTop (mkF m 80 #[Vr (A 0), Vi r, Vi x, Vi x, Vi rr] [(.int x), (.int (f 4 iN)), (.ref (A 0)), (.int r), (.ref (A 4))])) (fun tz kz => ?_) ?_
   ·refine X19.iaload hx (j := r) (v := (.int (f 4 iN))) (by rw [e19]; exact Ar20.1) (State.isArrayOf_alike hZ.alike Ar20.2.1) Ar20.2.2 (own_in Sz20 Ii ib) (own_at Hs20 Ii ib) (g := (mkF m 78 #[Vr (A 0), Vi r, Vi x, Vi x, Vi rr] [(.int r), (.ref (A 4)), (.ref (A 0)), (.int r), (.ref (A 4))])) rfl rfl (hb hby d34_78) _ ?_
    refine XS.iloadN X19.here hx rfl (hb hby d34_79) rfl ?_
    exact kz
   obtain ⟨cq21, q21, q21'⟩ := (P.1).cell
   obtain ⟨_, _, ⟨T21, L21, k21, n21⟩, -, X21, ⟨Lc21, hQ21, l21, y21, z21⟩, st21⟩ := X19.privateBack hx (y := n_15) hown (mvT hZ (w_ hw 164 rfl)) (mvT hZ (w_ hw 165 rfl)) (sel_private hZ (w_ hw 57 rfl) (w_ hw 166 rfl) (w_ hw 165 rfl) (by decide)) (Cond.privateMethod_at (mvP hZ (w_ hw 166 rfl) (args := #[]))) (mvT hZ (w_ hw 167 rfl)) (by decide) (backOf (W := 2) (rns_2 l Z a0 hw [] (f 4 iN) x A f ob nm κ rs dr B xN h0 n0 Z0 P TR (by omega) Si.inv.2.1 (fun k hk => ND k (mem k hk)) hxx xb ⟨sN, aN, hs, he, a3, sB, hk⟩ h3 h4 h5 (fun y => nx (mem _ y)) (fun y => nk (y.elim fun k hk => ⟨k, mem k hk.1, hk.2⟩)) Bb cr) hZ (w_ hw 167 rfl) (w_ hw 58 rfl) (by decide) (by decide)) (g := (mkF m 80 #[Vr (A 0), Vi r, Vi x, Vi x, Vi rr] [(.int x), (.int (f 4 iN)), (.ref (A 0)), (.int r), (.ref (A 4))])) rfl (by rw [hml]; rfl) (Steps.refl _) (a := (A 0)) (by rw [e19]; exact q21) q21' (argsL := [(.int (f 4 iN)), (.int x)]) (rest := [(.int r), (.ref (A 4))]) (lenOf pd_1 rfl) rfl (ww_ rfl rfl) (hb hby d34_80) (fun _ _ => ⟨rfl, e19, (by decide : 0 + 0 ≤ _), (by decide : 0 + 0 ≤ _)⟩)
   dsimp only [Pt.U, Pt.locs, Pt.cells, Pt.slots] at X21 l21 y21 z21 st21 hQ21
   subst l21 y21 z21
   obtain ⟨f1, r1, rfl, N21, K21, P21, us, vs, h1, ex, T1, lu, lv, g1, g2, fr⟩ := hQ21
   have Nf21 := Fr.app Nf9 N21
   refine Goes.via (fun _ kz => st21.trans kz) ?_
   obtain ⟨cl22, Ar22, Sz22, Hs22⟩ := P21.2.2.2.2.2.2.2.2.2.2.2.2.2.1
   obtain ⟨T23, h23, X23, e23, W23, st23⟩ := stI X21 hx hZ rfl Ar22 (j := r) (own_in Sz22 Ii ib) (g := (mkF m 83 #[Vr (A 0), Vi r, Vi x, Vi x, Vi rr] [(.int r1), (.int r), (.ref (A 4))])) rfl rfl (hb hby d34_83)
   refine Goes.via st23 ?_
   have N23 := Fr.snoc X23 Nf21 (P21.2.2.2.2.2.2.2.2.2.2.2.2.2.2.2.2.2.1 4 (by decide))
   rw [show (r).toNatClampNeg = iN from (Ii).nat] at W23
   have P23 := P21.w4 W23
   have K23 := K21.wr W23 (Or.inl own_mem4)
   have pl := own_insPR Si ex lu lv xi fr T1 TL
   refine Goes.via (S' := T23.setTop (mkF m 86 #[Vr (A 0), Vi r, Vi x, Vi x, Vi rr] [(.int r), (.ref (A 0))])) (fun tz kz => ?_) ?_
   ·refine XS.aloadN X23.here hx rfl (hb hby d34_84) rfl rfl ?_
    refine XS.iloadN X23.here hx rfl (hb hby d34_85) rfl ?_
    exact kz
   obtain ⟨cq24, q24, q24'⟩ := (P23.1).cell
   obtain ⟨_, _, ⟨T24, L24, k24, n24⟩, -, X24, ⟨Lc24, hQ24, l24, y24, z24⟩, st24⟩ := X23.privateBack hx (y := n_14) hown (mvT hZ (w_ hw 180 rfl)) (mvT hZ (w_ hw 181 rfl)) (sel_private hZ (w_ hw 57 rfl) (w_ hw 182 rfl) (w_ hw 181 rfl) (by decide)) (Cond.privateMethod_at (mvP hZ (w_ hw 182 rfl) (args := #[]))) (mvT hZ (w_ hw 183 rfl)) (by decide) (backOf (W := 0) (rba l Z a0 hw [] r A (own_fu f1 4 iN r1) ob nm iN ls (us ++ xN :: vs) dl h1 h23 n0 (Nat.le_trans Z0 K23.1) P23 Ii ib pl.1 pl.2.1 pl.2.2 (by omega) (by omega) (by omega) (by omega)) hZ (w_ hw 183 rfl) (w_ hw 58 rfl) (by decide) (by decide)) (g := (mkF m 86 #[Vr (A 0), Vi r, Vi x, Vi x, Vi rr] [(.int r), (.ref (A 0))])) rfl (by rw [hml]; rfl) (Steps.refl _) (a := (A 0)) (by rw [e23]; exact q24) q24' (argsL := [(.int r)]) (rest := []) (lenOf pd_0 rfl) rfl (ww_ rfl rfl) (hb hby d34_86) (fun _ _ => ⟨rfl, e23, (by decide : 0 + 0 ≤ _), (by decide : 0 + 0 ≤ _)⟩)
   dsimp only [Pt.U, Pt.locs, Pt.cells, Pt.slots] at X24 l24 y24 z24 st24 hQ24
   subst l24 y24 z24
   obtain ⟨f3, r3, rfl, N24, K24, P24, bl⟩ := hQ24
   have Nf24 := Fr.app N23 N24
   refine Goes.via (fun _ kz => st24.trans kz) ?_
   have J24 := K23.trans K24 (fun _ q => Or.inl q)
   refine Goes.via (S' := T24.setTop (mkF m 91 #[Vr (A 0), Vi r, Vi x, Vi r3, Vi rr] [(.int r3)])) (fun tz kz => ?_) ?_
   ·refine XS.istoreN X24.here hx rfl (hb hby d34_89) rfl (l' := #[Vr (A 0), Vi r, Vi x, Vi r3, Vi rr]) rfl ?_
    refine XS.iloadN X24.here hx rfl (hb hby d34_90) rfl ?_
    exact kz
   exact Goes.retI X24 hx Bd.notSynchronized Bd.returns (hb hby d34_91) (nb_ rfl) (nb_ rfl) ⟨f3, r3, rfl, Nf24, J24, P24, by rw [ex0, eh]; exact own_insR ex lu lv xi Si.inv.2.2.1 g1 g2 b1 b2 fr bl⟩
theorem d33_0 : De c_33 0 (.iload_n 1) 1 := by decide +kernel
theorem d33_1 : De c_33 1 (.istore 4) 2 := by decide +kernel
theorem d33_3 : De c_33 3 (.iconst 1) 1 := by decide +kernel
theorem d33_4 : De c_33 4 (.istore 5) 2 := by decide +kernel
theorem d33_6 : De c_33 6 (.iload 4) 2 := by decide +kernel
theorem d33_8 : De c_33 8 (.iconst (-1)) 1 := by decide +kernel
theorem d33_9 : De c_33 9 (.if_icmp .eq 63) 3 := by decide +kernel
theorem d33_12 : De c_33 12 (.iload 5) 2 := by decide +kernel
theorem d33_14 : De c_33 14 (.ifCond .eq 58) 3 := by decide +kernel
theorem d33_17 : De c_33 17 (.aload_n 0) 1 := by decide +kernel
theorem d33_18 : De c_33 18 (.getfield 7) 3 := by decide +kernel
theorem d33_21 : De c_33 21 (.iload_n 2) 1 := by decide +kernel
theorem d33_22 : De c_33 22 (.iload_n 3) 1 := by decide +kernel
theorem d33_23 : De c_33 23 (.aload_n 0) 1 := by decide +kernel
theorem d33_24 : De c_33 24 (.getfield 7) 3 := by decide +kernel
theorem d33_27 : De c_33 27 (.aload_n 0) 1 := by decide +kernel
theorem d33_28 : De c_33 28 (.iload 4) 2 := by decide +kernel
theorem d33_30 : De c_33 30 (.invokevirtual 46) 3 := by decide +kernel
theorem d33_33 : De c_33 33 (.aload_n 0) 1 := by decide +kernel
theorem d33_34 : De c_33 34 (.getfield 13) 3 := by decide +kernel
theorem d33_37 : De c_33 37 (.iload 4) 2 := by decide +kernel
theorem d33_39 : De c_33 39 .iaload 1 := by decide +kernel
theorem d33_40 : De c_33 40 (.invokestatic 82) 3 := by decide +kernel
theorem d33_43 : De c_33 43 (.istore 5) 2 := by decide +kernel
theorem d33_45 : De c_33 45 (.iload 5) 2 := by decide +kernel
theorem d33_47 : De c_33 47 (.ifCond .ge 13) 3 := by decide +kernel
theorem d33_50 : De c_33 50 (.aload_n 0) 1 := by decide +kernel
theorem d33_51 : De c_33 51 (.getfield 17) 3 := by decide +kernel
theorem d33_54 : De c_33 54 (.iload 4) 2 := by decide +kernel
theorem d33_56 : De c_33 56 .iaload 1 := by decide +kernel
theorem d33_57 : De c_33 57 (.goto 10) 3 := by decide +kernel
theorem d33_60 : De c_33 60 (.aload_n 0) 1 := by decide +kernel
theorem d33_61 : De c_33 61 (.getfield 20) 3 := by decide +kernel
theorem d33_64 : De c_33 64 (.iload 4) 2 := by decide +kernel
theorem d33_66 : De c_33 66 .iaload 1 := by decide +kernel
theorem d33_67 : De c_33 67 (.istore 4) 2 := by decide +kernel
theorem d33_69 : De c_33 69 (.goto (-63)) 3 := by decide +kernel
theorem d33_72 : De c_33 72 (.iload 5) 2 := by decide +kernel
theorem d33_74 : De c_33 74 (.ifCond .ne 7) 3 := by decide +kernel
theorem d33_77 : De c_33 77 (.iconst 1) 1 := by decide +kernel
theorem d33_78 : De c_33 78 (.goto 4) 3 := by decide +kernel
theorem d33_81 : De c_33 81 (.iconst 0) 1 := by decide +kernel
theorem d33_82 : De c_33 82 .ireturn 1 := by decide +kernel
theorem pn_33 : plainName "com/example/upkeep_window/upkeepwindow/policy/OpenNames" = true := by first | (simp [plainName, overriddenIn]; done) | decide +kernel
theorem ef_33 (m : MethodId) (x0 : Addr) (x1 : Int32) (x2 : Int32) (x3 : Int32) : entryFrame m #[(.ref x0), (.int x1), (.int x2), (.int x3)] 6 = mkF m 0 #[Vr x0, Vi x1, Vi x2, Vi x3, Vu, Vu] [] := by first | rfl | simp [entryFrame, mkF, argsToLocals, Value.category]
def Q_rho (Z : State) (r : Int32) (si : Int32) (ei : Int32) (A : Nat → Addr) (f : Nat → Nat → Int32) (ob nm : Int32) (κ : Nat → Nat) (xs : List Nat) (ht B sN aN : Nat) (h0 : Heap) (n0 : Nat) : Option Value → Heap → List Loc → Prop := fun v h L => ∃ b, v = some (.int b) ∧ Fr n0 L ∧ h = h0 ∧ ((b = (1 : Int32) ∧ own_has κ (own_kn (f 1) sN aN) xs) ∨ (b = (0 : Int32) ∧ ¬ own_has κ (own_kn (f 1) sN aN) xs))
theorem rho (l : Launch) (Z : State) (a0 : Array Value) (hw : ∀ d ∈ tables_1, d.before a0 Z = true) (ws : List Jvm.Cond) (r : Int32) (si : Int32) (ei : Int32) (A : Nat → Addr) (f : Nat → Nat → Int32) (ob nm : Int32) (κ : Nat → Nat) (xs : List Nat) (ht B sN aN : Nat) (h0 : Heap) (n0 : Nat) (Z0 : n0 ≤ h0.size) (P : own_ON Z n0 h0 A f ob nm) (T : own_Tr f r xs ht) (hN : ht ≤ 3) (S : own_so κ xs) (ND : ∀ i ∈ xs, own_nd f κ B i) (hs : own_I si sN) (he : own_I ei (sN + aN)) (a3 : aN ≤ 3) (sB : sN + aN ≤ 40) (Bb : B ≤ 40) (cr : own_cr (f 1)) :
  own_M l Z n_16 (Jvm.Cond.code n_16 prog_33_method_6_code 6 (some .boolean)) ws (Rm 2 0 0 48) #[(.ref (A 0)), (.int r), (.int si), (.int ei)] h0 (Q_rho Z r si ei A f ob nm κ xs ht B sN aN h0 n0) := by
 refine MetFree.of_bodySF (plainFor_of_name pn_33) hisR ?_
 intro p e s m args below meth c s₁ Bd hml0 hP hK
 obtain ⟨rfl, hZ, hh⟩ := hP
 have hx := Bd.exec
 have hby := Bd.bytes
 have hml : c.maxLocals = 6 := hml0
 have hown : s.vm.findClass "com/example/upkeep_window/upkeepwindow/policy/OpenNames" = some m.cls := findClass_of_methodNamed Bd.named
 have hnm := (name_of_methodNamed Bd.named Bd.method).1
 have X0 : Stand p l e (Rm 2 0 0 48) s m #[(.ref (A 0)), (.int r), (.int si), (.int ei)] below meth c s₁ [] 0 0 := Stand.of_body Bd
 have e0 : s₁.heap = h0 := by rw [← hh, Bd.state]; rfl
 have N0 := Fr.nil n0
 have sg : ∀ (kq : Nat) (Tq : State) (Lq : List Loc) (rq : Int32) (ys : List Nat) (dq : Nat) (fl : Int32), (Stand p l e (Rm 2 0 0 48) s m #[(.ref (A 0)), (.int r), (.int si), (.int ei)] below meth c Tq Lq 0 0) → (Tq.heap = h0) → (Fr n0 Lq) → (own_Tr f rq ys dq) → (dq ≤ kq) → (own_so κ ys) → (∀ i ∈ ys, own_nd f κ B i) → (¬ fl = (0 : Int32)) → (own_has κ (own_kn (f 1) sN aN) xs ↔ own_has κ (own_kn (f 1) sN aN) ys) → Goes p e below (Fin s (Q_rho Z r si ei A f ob nm κ xs ht B sN aN h0 n0) (Rm 2 0 0 48).cells (Rm 2 0 0 48).slots) (Tq.setTop (mkF m 6 #[Vr (A 0), Vi r, Vi si, Vi ei, Vi rq, Vi fl] [])) := by
  intro kq
  induction kq with
  | zero =>
   intro Tq Lq rq ys dq fl XTq eTq Nq Tz hq Sq Dq fz hi
   rcases Tz.inv with ⟨y1, y2, y3⟩ | ⟨iN, ls, rs, dl, dr, Ii, ib, TL, TR, ex0, e5, eh, b1, b2⟩
   ·skip
    refine Goes.via (S' := Tq.setTop (mkF m 82 #[Vr (A 0), Vi r, Vi si, Vi ei, Vi rq, Vi fl] [(.int 0)])) (fun tz kz => ?_) ?_
    ·refine XS.iload XTq.here hx rfl (hb hby d33_6) rfl ?_
     refine XS.iconst XTq.here hx rfl (hb hby d33_8) ?_
     refine XS.icmpYes XTq.here hx rfl (pc0 := 9) (pc' := 72) rfl (hb hby d33_9) rfl (teq y1).1 (by decide) (by decide) ?_
     refine XS.iload XTq.here hx rfl (hb hby d33_72) rfl ?_
     refine XS.ifYes XTq.here hx rfl (pc0 := 74) (pc' := 81) rfl (hb hby d33_74) rfl ((if0 _ _).trans (feq fz).2) (by decide) (by decide) ?_
     refine XS.iconst XTq.here hx rfl (hb hby d33_81) ?_
     exact kz
    exact Goes.retN XTq hx Bd.notSynchronized (t := .boolean) Bd.returns (by simp) (hb hby d33_82) (nb_ rfl) (nb_ rfl) ⟨_, rfl, Nq, eTq, Or.inr ⟨rfl, fun y => by rw [hi, y2] at y; obtain ⟨_, y, _⟩ := y; exact absurd y List.not_mem_nil⟩⟩
   ·exact absurd hq (by omega)
  | succ kq ih =>
   intro Tq Lq rq ys dq fl XTq eTq Nq Tz hq Sq Dq fz hi
   rcases Tz.inv with ⟨y1, y2, y3⟩ | ⟨iN, ls, rs, dl, dr, Ii, ib, TL, TR, ex0, e5, eh, b1, b2⟩
   ·skip
    refine Goes.via (S' := Tq.setTop (mkF m 82 #[Vr (A 0), Vi r, Vi si, Vi ei, Vi rq, Vi fl] [(.int 0)])) (fun tz kz => ?_) ?_
    ·refine XS.iload XTq.here hx rfl (hb hby d33_6) rfl ?_
     refine XS.iconst XTq.here hx rfl (hb hby d33_8) ?_
     refine XS.icmpYes XTq.here hx rfl (pc0 := 9) (pc' := 72) rfl (hb hby d33_9) rfl (teq y1).1 (by decide) (by decide) ?_
     refine XS.iload XTq.here hx rfl (hb hby d33_72) rfl ?_
     refine XS.ifYes XTq.here hx rfl (pc0 := 74) (pc' := 81) rfl (hb hby d33_74) rfl ((if0 _ _).trans (feq fz).2) (by decide) (by decide) ?_
     refine XS.iconst XTq.here hx rfl (hb hby d33_81) ?_
     exact kz
    exact Goes.retN XTq hx Bd.notSynchronized (t := .boolean) Bd.returns (by simp) (hb hby d33_82) (nb_ rfl) (nb_ rfl) ⟨_, rfl, Nq, eTq, Or.inr ⟨rfl, fun y => by rw [hi, y2] at y; obtain ⟨_, y, _⟩ := y; exact absurd y List.not_mem_nil⟩⟩
   ·have Si : own_so κ (ls ++ iN :: rs) := ex0 ▸ Sq
    obtain ⟨tN, bN, ht_, hu, b3, tB, hk2⟩ := Dq iN (by rw [ex0]; simp)
    refine Goes.via (S' := Tq.setTop (mkF m 18 #[Vr (A 0), Vi r, Vi si, Vi ei, Vi rq, Vi fl] [(.ref (A 0))])) (fun tz kz => ?_) ?_
    ·refine XS.iload XTq.here hx rfl (hb hby d33_6) rfl ?_
     refine XS.iconst XTq.here hx rfl (hb hby d33_8) ?_
     refine XS.icmpNo XTq.here hx rfl (hb hby d33_9) rfl (feq (own_Ine Ii)).1 ?_
     refine XS.iload XTq.here hx rfl (hb hby d33_12) rfl ?_
     refine XS.ifNo XTq.here hx rfl (hb hby d33_14) rfl ((if0 _ _).trans (feq fz).1) ?_
     refine XS.aloadN XTq.here hx rfl (hb hby d33_17) rfl rfl ?_
     exact kz
    obtain ⟨T1, X1, e1, st1⟩ := getF XTq hx hZ hown (host := "") (Or.inl (w_ hw 63 rfl)) Via.refl eTq P.2.1 (g := (mkF m 18 #[Vr (A 0), Vi r, Vi si, Vi ei, Vi rq, Vi fl] [(.ref (A 0))])) rfl rfl (hb hby d33_18)
    refine Goes.via st1 ?_
    refine Goes.via (S' := T1.setTop (mkF m 24 #[Vr (A 0), Vi r, Vi si, Vi ei, Vi rq, Vi fl] [(.ref (A 0)), (.int ei), (.int si), (.ref (A 1))])) (fun tz kz => ?_) ?_
    ·refine XS.iloadN X1.here hx rfl (hb hby d33_21) rfl ?_
     refine XS.iloadN X1.here hx rfl (hb hby d33_22) rfl ?_
     refine XS.aloadN X1.here hx rfl (hb hby d33_23) rfl rfl ?_
     exact kz
    obtain ⟨T2, X2, e2, st2⟩ := getF X1 hx hZ hown (host := "") (Or.inl (w_ hw 63 rfl)) Via.refl e1 P.2.1 (g := (mkF m 24 #[Vr (A 0), Vi r, Vi si, Vi ei, Vi rq, Vi fl] [(.ref (A 0)), (.int ei), (.int si), (.ref (A 1))])) rfl rfl (hb hby d33_24)
    refine Goes.via st2 ?_
    refine Goes.via (S' := T2.setTop (mkF m 30 #[Vr (A 0), Vi r, Vi si, Vi ei, Vi rq, Vi fl] [(.int rq), (.ref (A 0)), (.ref (A 1)), (.int ei), (.int si), (.ref (A 1))])) (fun tz kz => ?_) ?_
    ·refine XS.aloadN X2.here hx rfl (hb hby d33_27) rfl rfl ?_
     refine XS.iload X2.here hx rfl (hb hby d33_28) rfl ?_
     exact kz
    obtain ⟨cq3, q3, q3'⟩ := (P.1).cell
    obtain ⟨_, _, ⟨T3, L3, k3, n3⟩, -, X3, ⟨Lc3, hQ3, l3, y3, z3⟩, st3⟩ := X2.privateBack hx (y := n_0) hown (mvT hZ (w_ hw 115 rfl)) (mvT hZ (w_ hw 116 rfl)) (sel_private hZ (w_ hw 57 rfl) (w_ hw 117 rfl) (w_ hw 116 rfl) (by decide)) (Cond.privateMethod_at (mvP hZ (w_ hw 117 rfl) (args := #[]))) (mvT hZ (w_ hw 118 rfl)) (by decide) (backOf (W := 4) (rst l Z a0 hw [] rq A f ob nm iN h0 n0 Z0 P Ii (by omega)) hZ (w_ hw 118 rfl) (w_ hw 58 rfl) (by decide) (by decide)) (g := (mkF m 30 #[Vr (A 0), Vi r, Vi si, Vi ei, Vi rq, Vi fl] [(.int rq), (.ref (A 0)), (.ref (A 1)), (.int ei), (.int si), (.ref (A 1))])) rfl (by rw [hml]; rfl) (Steps.refl _) (a := (A 0)) (by rw [e2]; exact q3) q3' (argsL := [(.int rq)]) (rest := [(.ref (A 1)), (.int ei), (.int si), (.ref (A 1))]) (lenOf pd_0 rfl) rfl (ww_ rfl rfl) (hb hby d33_30) (fun _ _ => ⟨rfl, e2, (by decide : 0 + 0 ≤ _), (by decide : 0 + 0 ≤ _)⟩)
    dsimp only [Pt.U, Pt.locs, Pt.cells, Pt.slots] at X3 l3 y3 z3 st3 hQ3
    subst l3 y3 z3
    obtain ⟨rfl, N3, e3⟩ := hQ3
    have Nf3 := Fr.app Nq N3
    refine Goes.via (fun _ kz => st3.trans kz) ?_
    refine Goes.via (S' := T3.setTop (mkF m 34 #[Vr (A 0), Vi r, Vi si, Vi ei, Vi rq, Vi fl] [(.ref (A 0)), (.int (own_st f iN)), (.ref (A 1)), (.int ei), (.int si), (.ref (A 1))])) (fun tz kz => ?_) ?_
    ·refine XS.aloadN X3.here hx rfl (hb hby d33_33) rfl rfl ?_
     exact kz
    obtain ⟨T4, X4, e4, st4⟩ := getF X3 hx hZ hown (host := "") (Or.inl (w_ hw 66 rfl)) Via.refl e3 P.2.2.1 (g := (mkF m 34 #[Vr (A 0), Vi r, Vi si, Vi ei, Vi rq, Vi fl] [(.ref (A 0)), (.int (own_st f iN)), (.ref (A 1)), (.int ei), (.int si), (.ref (A 1))])) rfl rfl (hb hby d33_34)
    refine Goes.via st4 ?_
    refine Goes.via (S' := T4.setTop (mkF m 39 #[Vr (A 0), Vi r, Vi si, Vi ei, Vi rq, Vi fl] [(.int rq), (.ref (A 2)), (.int (own_st f iN)), (.ref (A 1)), (.int ei), (.int si), (.ref (A 1))])) (fun tz kz => ?_) ?_
    ·refine XS.iload X4.here hx rfl (hb hby d33_37) rfl ?_
     exact kz
    obtain ⟨cl5, Ar5, Sz5, Hs5⟩ := P.2.2.2.2.2.2.2.2.2.2.2.1
    refine Goes.via (S' := T4.setTop (mkF m 40 #[Vr (A 0), Vi r, Vi si, Vi ei, Vi rq, Vi fl] [(.int (f 2 iN)), (.int (own_st f iN)), (.ref (A 1)), (.int ei), (.int si), (.ref (A 1))])) (fun tz kz => ?_) ?_
    ·refine X4.iaload hx (j := rq) (v := (.int (f 2 iN))) (by rw [e4]; exact Ar5.1) (State.isArrayOf_alike hZ.alike Ar5.2.1) Ar5.2.2 (own_in Sz5 Ii ib) (own_at Hs5 Ii ib) (g := (mkF m 39 #[Vr (A 0), Vi r, Vi si, Vi ei, Vi rq, Vi fl] [(.int rq), (.ref (A 2)), (.int (own_st f iN)), (.ref (A 1)), (.int ei), (.int si), (.ref (A 1))])) rfl rfl (hb hby d33_39) _ ?_
     exact kz
    obtain ⟨_, _, ⟨T6, L6, k6, n6⟩, -, X6, ⟨Lc6, hQ6, l6, y6, z6⟩, st6⟩ := Jvm.LawKit.callS X4 hx (y := n_11) hown (mvT hZ (w_ hw 168 rfl)) (mvT hZ (w_ hw 169 rfl)) (mvT hZ (w_ hw 170 rfl)) (mvT hZ (w_ hw 171 rfl)) (by decide) (backOf (W := 0) (rcm l Z a0 hw [] (A 1) si ei (own_st f iN) (f 2 iN) (f 1) sN tN aN bN h0 n0 Z0 P.2.2.2.2.2.2.2.2.2.2.1 hs ht_ (by omega) (by omega) he hu a3 b3 (by omega) (by omega) cr) hZ (w_ hw 171 rfl) (w_ hw 170 rfl) (by decide) (by decide)) (g := (mkF m 40 #[Vr (A 0), Vi r, Vi si, Vi ei, Vi rq, Vi fl] [(.int (f 2 iN)), (.int (own_st f iN)), (.ref (A 1)), (.int ei), (.int si), (.ref (A 1))])) rfl (by rw [hml]; rfl) (argsL := [(.ref (A 1)), (.int si), (.int ei), (.ref (A 1)), (.int (own_st f iN)), (.int (f 2 iN))]) (rest := []) (lenOf pd_6 rfl) rfl (ww_ rfl rfl) (hb hby d33_40) (fun _ _ => ⟨rfl, e4, (by decide : 0 + 0 ≤ _), (by decide : 0 + 0 ≤ _)⟩)
    dsimp only [Pt.U, Pt.locs, Pt.cells, Pt.slots] at X6 l6 y6 z6 st6 hQ6
    subst l6 y6 z6
    obtain ⟨rr, rfl, N6, e6, q1, q2⟩ := hQ6
    have Nf6 := Fr.app Nf3 N6
    refine Goes.via (st6) ?_
    refine Goes.via (S' := T6.setTop (mkF m 47 #[Vr (A 0), Vi r, Vi si, Vi ei, Vi rq, Vi rr] [(.int rr)])) (fun tz kz => ?_) ?_
    ·refine XS.istore X6.here hx rfl (hb hby d33_43) rfl (l' := #[Vr (A 0), Vi r, Vi si, Vi ei, Vi rq, Vi rr]) rfl ?_
     refine XS.iload X6.here hx rfl (hb hby d33_45) rfl ?_
     exact kz
    by_cases hc47_7 : rr < (0 : Int32)
    ·have xi : (own_kn (f 1) sN aN) < κ iN := by rw [← hk2]; exact q1.mp hc47_7
     have hz : ¬ rr = (0 : Int32) := fun z => by have := q2.mp z; rw [hk2] at this; omega
     refine Goes.via (S' := T6.setTop (mkF m 51 #[Vr (A 0), Vi r, Vi si, Vi ei, Vi rq, Vi rr] [(.ref (A 0))])) (fun tz kz => ?_) ?_
     ·refine XS.ifNo X6.here hx rfl (hb hby d33_47) rfl ((if0 _ _).trans (tlt hc47_7).2.1) ?_
      refine XS.aloadN X6.here hx rfl (hb hby d33_50) rfl rfl ?_
      exact kz
     obtain ⟨T8, X8, e8, st8⟩ := getF X6 hx hZ hown (host := "") (Or.inl (w_ hw 68 rfl)) Via.refl e6 P.2.2.2.1 (g := (mkF m 51 #[Vr (A 0), Vi r, Vi si, Vi ei, Vi rq, Vi rr] [(.ref (A 0))])) rfl rfl (hb hby d33_51)
     refine Goes.via st8 ?_
     refine Goes.via (S' := T8.setTop (mkF m 56 #[Vr (A 0), Vi r, Vi si, Vi ei, Vi rq, Vi rr] [(.int rq), (.ref (A 3))])) (fun tz kz => ?_) ?_
     ·refine XS.iload X8.here hx rfl (hb hby d33_54) rfl ?_
      exact kz
     obtain ⟨cl9, Ar9, Sz9, Hs9⟩ := P.2.2.2.2.2.2.2.2.2.2.2.2.1
     refine Goes.via (S' := T8.setTop (mkF m 6 #[Vr (A 0), Vi r, Vi si, Vi ei, Vi (f 3 iN), Vi rr] [])) (fun tz kz => ?_) ?_
     ·refine X8.iaload hx (j := rq) (v := (.int (f 3 iN))) (by rw [e8]; exact Ar9.1) (State.isArrayOf_alike hZ.alike Ar9.2.1) Ar9.2.2 (own_in Sz9 Ii ib) (own_at Hs9 Ii ib) (g := (mkF m 56 #[Vr (A 0), Vi r, Vi si, Vi ei, Vi rq, Vi rr] [(.int rq), (.ref (A 3))])) rfl rfl (hb hby d33_56) _ ?_
      refine XS.goto X8.here hx rfl (pc0 := 57) (pc' := 67) rfl (hb hby d33_57) (by decide) (by decide) ?_
      refine XS.istore X8.here hx rfl (hb hby d33_67) rfl (l' := #[Vr (A 0), Vi r, Vi si, Vi ei, Vi (f 3 iN), Vi rr]) rfl ?_
      refine XS.goto X8.here hx rfl (pc0 := 69) (pc' := 6) rfl (hb hby d33_69) (by decide) (by decide) ?_
      exact kz
     exact ih _ _ _ _ _ _ X8 e8 Nf6 TL (by omega) Si.inv.1 (fun k hk => Dq k (by rw [ex0]; simp [hk])) hz (hi.trans ((by rw [ex0]) : own_has κ (own_kn (f 1) sN aN) ys ↔ own_has κ (own_kn (f 1) sN aN) (ls ++ iN :: rs)) |>.trans (own_has.left Si xi))
    ·refine Goes.via (S' := T6.setTop (mkF m 61 #[Vr (A 0), Vi r, Vi si, Vi ei, Vi rq, Vi rr] [(.ref (A 0))])) (fun tz kz => ?_) ?_
     ·refine XS.ifYes X6.here hx rfl (pc0 := 47) (pc' := 60) rfl (hb hby d33_47) rfl ((if0 _ _).trans (flt hc47_7).2.1) (by decide) (by decide) ?_
      refine XS.aloadN X6.here hx rfl (hb hby d33_60) rfl rfl ?_
      exact kz
     by_cases hz : rr = (0 : Int32)
     ·skip
      obtain ⟨T10, X10, e10, st10⟩ := getF X6 hx hZ hown (host := "") (Or.inl (w_ hw 70 rfl)) Via.refl e6 P.2.2.2.2.1 (g := (mkF m 61 #[Vr (A 0), Vi r, Vi si, Vi ei, Vi rq, Vi rr] [(.ref (A 0))])) rfl rfl (hb hby d33_61)
      refine Goes.via st10 ?_
      refine Goes.via (S' := T10.setTop (mkF m 66 #[Vr (A 0), Vi r, Vi si, Vi ei, Vi rq, Vi rr] [(.int rq), (.ref (A 4))])) (fun tz kz => ?_) ?_
      ·refine XS.iload X10.here hx rfl (hb hby d33_64) rfl ?_
       exact kz
      obtain ⟨cl11, Ar11, Sz11, Hs11⟩ := P.2.2.2.2.2.2.2.2.2.2.2.2.2.1
      refine Goes.via (S' := T10.setTop (mkF m 6 #[Vr (A 0), Vi r, Vi si, Vi ei, Vi (f 4 iN), Vi rr] [])) (fun tz kz => ?_) ?_
      ·refine X10.iaload hx (j := rq) (v := (.int (f 4 iN))) (by rw [e10]; exact Ar11.1) (State.isArrayOf_alike hZ.alike Ar11.2.1) Ar11.2.2 (own_in Sz11 Ii ib) (own_at Hs11 Ii ib) (g := (mkF m 66 #[Vr (A 0), Vi r, Vi si, Vi ei, Vi rq, Vi rr] [(.int rq), (.ref (A 4))])) rfl rfl (hb hby d33_66) _ ?_
       refine XS.istore X10.here hx rfl (hb hby d33_67) rfl (l' := #[Vr (A 0), Vi r, Vi si, Vi ei, Vi (f 4 iN), Vi rr]) rfl ?_
       refine XS.goto X10.here hx rfl (pc0 := 69) (pc' := 6) rfl (hb hby d33_69) (by decide) (by decide) ?_
       exact kz
      refine Goes.via (S' := T10.setTop (mkF m 9 #[Vr (A 0), Vi r, Vi si, Vi ei, Vi (f 4 iN), Vi rr] [(.int (-1)), (.int (f 4 iN))])) (fun tz kz => ?_) ?_
      ·refine XS.iload X10.here hx rfl (hb hby d33_6) rfl ?_
       refine XS.iconst X10.here hx rfl (hb hby d33_8) ?_
       exact kz
      by_cases hc9_12 : (f 4 iN) = (-1 : Int32)
      ·refine Goes.via (S' := T10.setTop (mkF m 82 #[Vr (A 0), Vi r, Vi si, Vi ei, Vi (f 4 iN), Vi rr] [(.int 1)])) (fun tz kz => ?_) ?_
       ·refine XS.icmpYes X10.here hx rfl (pc0 := 9) (pc' := 72) rfl (hb hby d33_9) rfl (teq hc9_12).1 (by decide) (by decide) ?_
        refine XS.iload X10.here hx rfl (hb hby d33_72) rfl ?_
        refine XS.ifNo X10.here hx rfl (hb hby d33_74) rfl ((if0 _ _).trans (teq hz).2) ?_
        refine XS.iconst X10.here hx rfl (hb hby d33_77) ?_
        refine XS.goto X10.here hx rfl (pc0 := 78) (pc' := 82) rfl (hb hby d33_78) (by decide) (by decide) ?_
        exact kz
       exact Goes.retN X10 hx Bd.notSynchronized (t := .boolean) Bd.returns (by simp) (hb hby d33_82) (nb_ rfl) (nb_ rfl) ⟨_, rfl, Nf6, e10, Or.inl ⟨rfl, hi.mpr ⟨iN, by rw [ex0]; simp, by rw [← hk2]; exact (q2.mp hz).symm⟩⟩⟩
      ·refine Goes.via (S' := T10.setTop (mkF m 82 #[Vr (A 0), Vi r, Vi si, Vi ei, Vi (f 4 iN), Vi rr] [(.int 1)])) (fun tz kz => ?_) ?_
       ·refine XS.icmpNo X10.here hx rfl (hb hby d33_9) rfl (feq hc9_12).1 ?_
        refine XS.iload X10.here hx rfl (hb hby d33_12) rfl ?_
        refine XS.ifYes X10.here hx rfl (pc0 := 14) (pc' := 72) rfl (hb hby d33_14) rfl ((if0 _ _).trans (teq hz).1) (by decide) (by decide) ?_
        refine XS.iload X10.here hx rfl (hb hby d33_72) rfl ?_
        refine XS.ifNo X10.here hx rfl (hb hby d33_74) rfl ((if0 _ _).trans (teq hz).2) ?_
        refine XS.iconst X10.here hx rfl (hb hby d33_77) ?_
        refine XS.goto X10.here hx rfl (pc0 := 78) (pc' := 82) rfl (hb hby d33_78) (by decide) (by decide) ?_
        exact kz
       exact Goes.retN X10 hx Bd.notSynchronized (t := .boolean) Bd.returns (by simp) (hb hby d33_82) (nb_ rfl) (nb_ rfl) ⟨_, rfl, Nf6, e10, Or.inl ⟨rfl, hi.mpr ⟨iN, by rw [ex0]; simp, by rw [← hk2]; exact (q2.mp hz).symm⟩⟩⟩
     ·have xi : κ iN < (own_kn (f 1) sN aN) := by
       have z1 := mt q1.mpr hc47_7
       have z2 := mt q2.mpr hz
       rw [hk2] at z1 z2
       omega
      obtain ⟨T13, X13, e13, st13⟩ := getF X6 hx hZ hown (host := "") (Or.inl (w_ hw 70 rfl)) Via.refl e6 P.2.2.2.2.1 (g := (mkF m 61 #[Vr (A 0), Vi r, Vi si, Vi ei, Vi rq, Vi rr] [(.ref (A 0))])) rfl rfl (hb hby d33_61)
      refine Goes.via st13 ?_
      refine Goes.via (S' := T13.setTop (mkF m 66 #[Vr (A 0), Vi r, Vi si, Vi ei, Vi rq, Vi rr] [(.int rq), (.ref (A 4))])) (fun tz kz => ?_) ?_
      ·refine XS.iload X13.here hx rfl (hb hby d33_64) rfl ?_
       exact kz
      obtain ⟨cl14, Ar14, Sz14, Hs14⟩ := P.2.2.2.2.2.2.2.2.2.2.2.2.2.1
      refine Goes.via (S' := T13.setTop (mkF m 6 #[Vr (A 0), Vi r, Vi si, Vi ei, Vi (f 4 iN), Vi rr] [])) (fun tz kz => ?_) ?_
      ·refine X13.iaload hx (j := rq) (v := (.int (f 4 iN))) (by rw [e13]; exact Ar14.1) (State.isArrayOf_alike hZ.alike Ar14.2.1) Ar14.2.2 (own_in Sz14 Ii ib) (own_at Hs14 Ii ib) (g := (mkF m 66 #[Vr (A 0), Vi r, Vi si, Vi ei, Vi rq, Vi rr] [(.int rq), (.ref (A 4))])) rfl rfl (hb hby d33_66) _ ?_
       refine XS.istore X13.here hx rfl (hb hby d33_67) rfl (l' := #[Vr (A 0), Vi r, Vi si, Vi ei, Vi (f 4 iN), Vi rr]) rfl ?_
       refine XS.goto X13.here hx rfl (pc0 := 69) (pc' := 6) rfl (hb hby d33_69) (by decide) (by decide) ?_
       exact kz
      exact ih _ _ _ _ _ _ X13 e13 Nf6 TR (by omega) Si.inv.2.1 (fun k hk => Dq k (by rw [ex0]; simp [hk])) hz (hi.trans ((by rw [ex0]) : own_has κ (own_kn (f 1) sN aN) ys ↔ own_has κ (own_kn (f 1) sN aN) (ls ++ iN :: rs)) |>.trans (own_has.right Si xi))
 show Goes p e below (Fin s (Q_rho Z r si ei A f ob nm κ xs ht B sN aN h0 n0) (Rm 2 0 0 48).cells (Rm 2 0 0 48).slots) _
 refine Goes.via (S' := s₁.setTop (mkF m 0 #[Vr (A 0), Vi r, Vi si, Vi ei, Vu, Vu] [])) (fun tz kz => castTop (ef_33 m (A 0) r si ei ) kz) ?_
 refine Goes.via (S' := s₁.setTop (mkF m 6 #[Vr (A 0), Vi r, Vi si, Vi ei, Vi r, Vi 1] [])) (fun tz kz => ?_) ?_
 ·refine XS.iloadN X0.here hx rfl (hb hby d33_0) rfl ?_
  refine XS.istore X0.here hx rfl (hb hby d33_1) rfl (l' := #[Vr (A 0), Vi r, Vi si, Vi ei, Vi r, Vu]) rfl ?_
  refine XS.iconst X0.here hx rfl (hb hby d33_3) ?_
  refine XS.istore X0.here hx rfl (hb hby d33_4) rfl (l' := #[Vr (A 0), Vi r, Vi si, Vi ei, Vi r, Vi 1]) rfl ?_
  exact kz
 exact sg 3 _ _ _ _ _ _ X0 e0 N0 T hN S ND (by decide) Iff.rfl
def own_nl (n c0 c1 c2 : Int32) : List Int32 := if n = (0 : Int32) then [] else if n = (1 : Int32) then [c0] else if n = (2 : Int32) then [c0, c1] else [c0, c1, c2]
def own_nm (C : Nat → Int32) (si : Nat) (n : Int32) : List Int32 := if n = (0 : Int32) then [] else if n = (1 : Int32) then [C (si + 0)] else if n = (2 : Int32) then [C (si + 0), C (si + 1)] else [C (si + 0), C (si + 1), C (si + 2)]
def own_len (n : Int32) : Prop := n = (0 : Int32) ∨ n = (1 : Int32) ∨ n = (2 : Int32) ∨ n = (3 : Int32)
def own_put (C : Nat → Int32) (si : Nat) (n c0 c1 c2 : Int32) : Nat → Int32 := if n = (0 : Int32) then C else if n = (1 : Int32) then own_up C (si + 0) c0 else if n = (2 : Int32) then own_up (own_up C (si + 0) c0) (si + 1) c1 else own_up (own_up (own_up C (si + 0) c0) (si + 1) c1) (si + 2) c2
def own_bl (n c0 c1 c2 : Int32) : List Value := (own_nl n c0 c1 c2).map fun c => .int (own_by c)
def own_cv : List Int32 → List Int32 → Int32
 | x :: xs, y :: ys => if x = y then own_cv xs ys else x - y
 | xs, ys => Int32.ofNat xs.length - Int32.ofNat ys.length
theorem own_or3 {si n : Int32} {sN : Nat} (hs : own_I si sN) (hn : 0 ≤ n.toInt) : ¬ (((64 : Int32) ||| si) ||| n) < (0 : Int32) := by
 have z0 : (0 : Int32).toInt = 0 := by decide
 have a := (c_orS 64 si).1 (by decide) (by unfold own_I at hs; omega)
 have b := (c_orS ((64 : Int32) ||| si) n).1 a hn
 rw [Int32.lt_iff_toInt_lt]; omega
theorem own_or4 {si n : Int32} {sN : Nat} (hs : own_I si sN) (hbd : sN ≤ 60) (hn : n.toInt ≤ 4) : ¬ ((64 : Int32) - si) < n := by
 have h := own_I64.sub hs (by omega)
 rw [Int32.lt_iff_toInt_lt]; unfold own_I at h; omega
def own_u8 (x : Int32) : Prop := x &&& (255 : Int32) = x
theorem own_u8.and (x : Int32) : own_u8 (x &&& (255 : Int32)) := by unfold own_u8; rw [Int32.and_assoc, Int32.and_self]
theorem own_u8.le {x : Int32} (h : own_u8 x) : 0 ≤ x.toInt ∧ x.toInt ≤ 255 := by
 have q := c_and x 255 (by decide)
 rw [h] at q
 exact ⟨q.1, Int.le_trans q.2 (by decide)⟩
theorem own_u8.i2c {x : Int32} (h : own_u8 x) : x.toUInt32.toUInt16.toUInt32.toInt32 = x := by
 have q := c_i2c x; have r := h.le
 exact Int32.toInt_inj.mp (by omega)
theorem own_u8.c {x : Int32} (h : own_u8 x) : own_u8 x.toUInt32.toUInt16.toUInt32.toInt32 := by rw [h.i2c]; exact h
theorem own_u8.sm {x : Int32} (h : own_u8 x) : ¬ (255 : Int32) < x := fun q => by
 have q := Int32.lt_iff_toInt_lt.mp q; have r := h.le
 have z : (255 : Int32).toInt = 255 := by decide
 omega
theorem own_u8.nc {x : Int32} (h : own_u8 x) : nar .char x = x := h.i2c
theorem own_byi {x y : Int32} (h : own_u8 x) (k : own_u8 y) : own_by x = own_by y ↔ x = y := by
 constructor
 ·intro q
  have e1 : own_by x = x.toInt8.toInt32 := by show x.toInt8.toInt32.toInt8.toInt32 = _; rw [Int8.toInt8_toInt32]
  have e2 : own_by y = y.toInt8.toInt32 := by show y.toInt8.toInt32.toInt8.toInt32 = _; rw [Int8.toInt8_toInt32]
  rw [e1, e2] at q
  have a := c_i2b x; have b := c_i2b y; have r := h.le; have r' := k.le
  rw [q] at a
  exact Int32.toInt_inj.mp (by omega)
 ·rintro rfl; rfl
theorem own_len.I {n : Int32} (h : own_len n) : own_I n n.toInt.toNat ∧ n.toInt.toNat ≤ 3 := by
 rcases h with rfl | rfl | rfl | rfl <;> exact ⟨by unfold own_I; decide, by decide⟩
theorem own_and4 (x : Int32) : own_len (x &&& (3 : Int32)) := by
 have h := c_and x 3 (by decide)
 have z3 : (3 : Int32).toInt = 3 := by decide
 have z0 : (0 : Int32).toInt = 0 := by decide
 have z1 : (1 : Int32).toInt = 1 := by decide
 have z2 : (2 : Int32).toInt = 2 := by decide
 unfold own_len
 rw [← Int32.toInt_inj, ← Int32.toInt_inj, ← Int32.toInt_inj, ← Int32.toInt_inj, z0, z1, z2, z3]
 omega
theorem own_sh0 {n : Int32} (hn : own_len n) : (n >>> ((0 : Int32) &&& 31)) = n := by rcases hn with rfl | rfl | rfl | rfl <;> decide
theorem own_s0 (n : Int32) : n - (0 : Int32) = n := by simp
theorem own_put_lt {C : Nat → Int32} {si k : Nat} {n c0 c1 c2 : Int32} (h : k < si) : own_put C si n c0 c1 c2 k = C k := by
 unfold own_put
 repeat' split
 ·rfl
 ·rw [own_up_ne (by omega)]
 ·rw [own_up_ne (by omega), own_up_ne (by omega)]
 ·rw [own_up_ne (by omega), own_up_ne (by omega), own_up_ne (by omega)]
theorem own_put_cr {C : Nat → Int32} {si : Nat} {n c0 c1 c2 : Int32} (h : own_cr C) (u0 : own_u8 c0) (u1 : own_u8 c1) (u2 : own_u8 c2) : own_cr (own_put C si n c0 c1 c2) := by
 intro j
 have a := u0.le; have b := u1.le; have c := u2.le; have d := h j
 unfold own_put
 repeat' split
 ·exact d
 all_goals unfold own_up
 all_goals repeat' split
 all_goals first | exact a | exact b | exact c | exact d
/-- a name's key -/
def own_ky (n c0 c1 c2 : Int32) : Nat := own_kn (own_put (fun _ => 0) 0 n c0 c1 c2) 0 n.toInt.toNat
theorem own_put_kn {C : Nat → Int32} {si : Nat} {n c0 c1 c2 : Int32} (hn : own_len n) : own_kn (own_put C si n c0 c1 c2) si n.toInt.toNat = own_ky n c0 c1 c2 := by
 unfold own_ky
 rcases hn with rfl | rfl | rfl | rfl
 ·rfl
 ·simp [own_kn, own_dg, own_put, own_up, show (1 : Int32).toInt.toNat = 1 from by decide]
 ·simp [own_kn, own_dg, own_put, own_up, show (2 : Int32).toInt.toNat = 2 from by decide]
 ·simp [own_kn, own_dg, own_put, own_up, show (3 : Int32).toInt.toNat = 3 from by decide]
theorem own_kn_congr {C C' : Nat → Int32} {si a : Nat} (h : ∀ j, j < si + a → C' j = C j) : own_kn C' si a = own_kn C si a := by
 have g : ∀ k, own_dg C' si a k = own_dg C si a k := fun k => by
  unfold own_dg
  split
  ·rw [h _ (by omega)]
  ·rfl
 unfold own_kn; rw [g, g, g]
theorem own_ky0 (c0 c1 c2 : Int32) : own_ky 0 c0 c1 c2 = 0 := by
 unfold own_ky own_kn
 rw [show own_dg (own_put (fun _ => 0) 0 0 c0 c1 c2) 0 (0 : Int32).toInt.toNat 0 = 0 from rfl, show own_dg (own_put (fun _ => 0) 0 0 c0 c1 c2) 0 (0 : Int32).toInt.toNat 1 = 0 from rfl, show own_dg (own_put (fun _ => 0) 0 0 c0 c1 c2) 0 (0 : Int32).toInt.toNat 2 = 0 from rfl]
 all_goals omega
theorem own_ky1 (c0 c1 c2 : Int32) : own_ky 1 c0 c1 c2 = (c0.toInt.toNat + 1) * 66049 := by
 unfold own_ky own_kn
 rw [show own_dg (own_put (fun _ => 0) 0 1 c0 c1 c2) 0 (1 : Int32).toInt.toNat 0 = c0.toInt.toNat + 1 from rfl, show own_dg (own_put (fun _ => 0) 0 1 c0 c1 c2) 0 (1 : Int32).toInt.toNat 1 = 0 from rfl, show own_dg (own_put (fun _ => 0) 0 1 c0 c1 c2) 0 (1 : Int32).toInt.toNat 2 = 0 from rfl]
 all_goals omega
theorem own_ky2 (c0 c1 c2 : Int32) : own_ky 2 c0 c1 c2 = (c0.toInt.toNat + 1) * 66049 + (c1.toInt.toNat + 1) * 257 := by
 unfold own_ky own_kn
 rw [show own_dg (own_put (fun _ => 0) 0 2 c0 c1 c2) 0 (2 : Int32).toInt.toNat 0 = c0.toInt.toNat + 1 from rfl, show own_dg (own_put (fun _ => 0) 0 2 c0 c1 c2) 0 (2 : Int32).toInt.toNat 1 = c1.toInt.toNat + 1 from rfl, show own_dg (own_put (fun _ => 0) 0 2 c0 c1 c2) 0 (2 : Int32).toInt.toNat 2 = 0 from rfl]
 all_goals omega
theorem own_ky3 (c0 c1 c2 : Int32) : own_ky 3 c0 c1 c2 = (c0.toInt.toNat + 1) * 66049 + (c1.toInt.toNat + 1) * 257 + (c2.toInt.toNat + 1) := by
 unfold own_ky own_kn
 rw [show own_dg (own_put (fun _ => 0) 0 3 c0 c1 c2) 0 (3 : Int32).toInt.toNat 0 = c0.toInt.toNat + 1 from rfl, show own_dg (own_put (fun _ => 0) 0 3 c0 c1 c2) 0 (3 : Int32).toInt.toNat 1 = c1.toInt.toNat + 1 from rfl, show own_dg (own_put (fun _ => 0) 0 3 c0 c1 c2) 0 (3 : Int32).toInt.toNat 2 = c2.toInt.toNat + 1 from rfl]
 all_goals omega
/-- two names are alike if their keys are -/
theorem own_ky_eq {n c0 c1 c2 mi d0 d1 d2 : Int32} (hn : own_len n) (hm : own_len mi) (u0 : own_u8 c0) (u1 : own_u8 c1) (u2 : own_u8 c2) (v0 : own_u8 d0) (v1 : own_u8 d1) (v2 : own_u8 d2) : (own_nl n c0 c1 c2).map own_by = (own_nl mi d0 d1 d2).map own_by ↔ own_ky n c0 c1 c2 = own_ky mi d0 d1 d2 := by
 have i0 := own_byi u0 v0; have i1 := own_byi u1 v1; have i2 := own_byi u2 v2
 have t : ∀ x y : Int32, x = y ↔ x.toInt = y.toInt := fun x y => Int32.toInt_inj.symm
 have a0 := u0.le; have a1 := u1.le; have a2 := u2.le; have b0 := v0.le; have b1 := v1.le; have b2 := v2.le
 obtain ⟨k1, e1⟩ : ∃ z, z = own_ky n c0 c1 c2 := ⟨_, rfl⟩
 obtain ⟨k2, e2⟩ : ∃ z, z = own_ky mi d0 d1 d2 := ⟨_, rfl⟩
 rw [← e1, ← e2]
 rcases hn with rfl | rfl | rfl | rfl <;> rcases hm with rfl | rfl | rfl | rfl <;> simp only [own_ky0, own_ky1, own_ky2, own_ky3] at e1 e2 <;> simp [own_nl, i0, i1, i2]
 all_goals first | done | (simp only [t]; omega) | omega
theorem d24_0 : De c_24 0 (.getstatic 38) 3 := by decide +kernel
theorem d24_3 : De c_24 3 (.ifCond .eq 10) 3 := by decide +kernel
theorem d24_6 : De c_24 6 (.aload_n 0) 1 := by decide +kernel
theorem d24_7 : De c_24 7 (.getfield 15) 3 := by decide +kernel
theorem d24_10 : De c_24 10 (.goto 4) 3 := by decide +kernel
theorem d24_14 : De c_24 14 .ireturn 1 := by decide +kernel
theorem pn_24 : plainName "java/lang/String" = true := by first | (simp [plainName, overriddenIn]; done) | decide +kernel
theorem ef_24 (m : MethodId) (x0 : Addr) : entryFrame m #[(.ref x0)] 1 = mkF m 0 #[Vr x0] [] := by first | rfl | simp [entryFrame, mkF, argsToLocals, Value.category]
def Q_rcd (Z : State) (a1 : Addr) (cs cd : Int32) (h0 : Heap) (n0 : Nat) : Option Value → Heap → List Loc → Prop := fun v h L => v = some (.int cd) ∧ Fr n0 L ∧ h = h0
theorem rcd (l : Launch) (Z : State) (a0 : Array Value) (hw : ∀ d ∈ tables_1, d.before a0 Z = true) (ws : List Jvm.Cond) (a1 : Addr) (cs cd : Int32) (h0 : Heap) (n0 : Nat) (Z0 : n0 ≤ h0.size) (SC : Sta Z Z.heap "java/lang/String" "COMPACT_STRINGS" "Z" (.int cs)) (hcs : ¬ cs = (0 : Int32)) (O0 : Old Z n0 h0) (GC : Fld Z h0 a1 "java/lang/String" "coder" "B" (.int cd)) (hcd : nar .byte cd = cd) :
  own_M l Z n_17 (Jvm.Cond.code n_17 jdk_42_method_152_code 1 (some .byte)) ws (Rm 0 0 0 0) #[(.ref a1)] h0 (Q_rcd Z a1 cs cd h0 n0) := by
 refine MetFree.of_bodySF (plainFor_of_name pn_24) hisR ?_
 intro p e s m args below meth c s₁ Bd hml0 hP hK
 obtain ⟨rfl, hZ, hh⟩ := hP
 have hx := Bd.exec
 have hby := Bd.bytes
 have hml : c.maxLocals = 1 := hml0
 have hown : s.vm.findClass "java/lang/String" = some m.cls := findClass_of_methodNamed Bd.named
 have hnm := (name_of_methodNamed Bd.named Bd.method).1
 have X0 : Stand p l e (Rm 0 0 0 0) s m #[(.ref a1)] below meth c s₁ [] 0 0 := Stand.of_body Bd
 have e0 : s₁.heap = h0 := by rw [← hh, Bd.state]; rfl
 have N0 := Fr.nil n0
 show Goes p e below (Fin s (Q_rcd Z a1 cs cd h0 n0) (Rm 0 0 0 0).cells (Rm 0 0 0 0).slots) _
 refine Goes.via (S' := s₁.setTop (mkF m 0 #[Vr a1] [])) (fun tz kz => castTop (ef_24 m a1 ) kz) ?_
 obtain ⟨T1, X1, e1, st1⟩ := getS2 X0 hx hZ hown (host := "") (Or.inl (w_ hw 25 rfl)) Via.refl e0 (SC.ext O0.2) (g := (mkF m 0 #[Vr a1] [])) rfl (hb hby d24_0)
 refine Goes.via st1 ?_
 refine Goes.via (S' := T1.setTop (mkF m 7 #[Vr a1] [(.ref a1)])) (fun tz kz => ?_) ?_
 ·refine XS.ifNo X1.here hx rfl (hb hby d24_3) rfl ((if0 _ _).trans (feq hcs).1) ?_
  refine XS.aloadN X1.here hx rfl (hb hby d24_6) rfl rfl ?_
  exact kz
 obtain ⟨T2, X2, e2, st2⟩ := getF X1 hx hZ hown (host := "") (Or.inl (w_ hw 36 rfl)) Via.refl e1 GC (g := (mkF m 7 #[Vr a1] [(.ref a1)])) rfl rfl (hb hby d24_7)
 refine Goes.via st2 ?_
 refine Goes.via (S' := T2.setTop (mkF m 14 #[Vr a1] [(.int cd)])) (fun tz kz => ?_) ?_
 ·refine XS.goto X2.here hx rfl (pc0 := 10) (pc' := 14) rfl (hb hby d24_10) (by decide) (by decide) ?_
  exact kz
 exact Goes.retN X2 hx Bd.notSynchronized (t := .byte) Bd.returns (by simp) (hb hby d24_14) (nb_ rfl) (nb_ rfl) ⟨congrArg (fun z => some (Value.int z)) hcd, N0, e2⟩
theorem d30_0 : De c_30 0 (.getstatic 38) 3 := by decide +kernel
theorem d30_3 : De c_30 3 (.ifCond .eq 14) 3 := by decide +kernel
theorem d30_6 : De c_30 6 (.aload_n 0) 1 := by decide +kernel
theorem d30_7 : De c_30 7 (.getfield 15) 3 := by decide +kernel
theorem d30_10 : De c_30 10 (.ifCond .ne 7) 3 := by decide +kernel
theorem d30_13 : De c_30 13 (.iconst 1) 1 := by decide +kernel
theorem d30_14 : De c_30 14 (.goto 4) 3 := by decide +kernel
theorem d30_17 : De c_30 17 (.iconst 0) 1 := by decide +kernel
theorem d30_18 : De c_30 18 .ireturn 1 := by decide +kernel
theorem pn_30 : plainName "java/lang/String" = true := by first | (simp [plainName, overriddenIn]; done) | decide +kernel
theorem ef_30 (m : MethodId) (x0 : Addr) : entryFrame m #[(.ref x0)] 1 = mkF m 0 #[Vr x0] [] := by first | rfl | simp [entryFrame, mkF, argsToLocals, Value.category]
def Q_ril_0 (Z : State) (a1 : Addr) (cs : Int32) (h0 : Heap) (n0 : Nat) : Option Value → Heap → List Loc → Prop := fun v h L => v = some (.int 1) ∧ Fr n0 L ∧ h = h0
theorem ril_0 (l : Launch) (Z : State) (a0 : Array Value) (hw : ∀ d ∈ tables_1, d.before a0 Z = true) (ws : List Jvm.Cond) (a1 : Addr) (cs : Int32) (h0 : Heap) (n0 : Nat) (Z0 : n0 ≤ h0.size) (SC : Sta Z Z.heap "java/lang/String" "COMPACT_STRINGS" "Z" (.int cs)) (hcs : ¬ cs = (0 : Int32)) (O0 : Old Z n0 h0) (GC : Fld Z h0 a1 "java/lang/String" "coder" "B" (.int 0)) :
  own_M l Z n_18 (Jvm.Cond.code n_18 jdk_42_method_154_code 1 (some .boolean)) ws (Rm 0 0 0 0) #[(.ref a1)] h0 (Q_ril_0 Z a1 cs h0 n0) := by
 refine MetFree.of_bodySF (plainFor_of_name pn_30) hisR ?_
 intro p e s m args below meth c s₁ Bd hml0 hP hK
 obtain ⟨rfl, hZ, hh⟩ := hP
 have hx := Bd.exec
 have hby := Bd.bytes
 have hml : c.maxLocals = 1 := hml0
 have hown : s.vm.findClass "java/lang/String" = some m.cls := findClass_of_methodNamed Bd.named
 have hnm := (name_of_methodNamed Bd.named Bd.method).1
 have X0 : Stand p l e (Rm 0 0 0 0) s m #[(.ref a1)] below meth c s₁ [] 0 0 := Stand.of_body Bd
 have e0 : s₁.heap = h0 := by rw [← hh, Bd.state]; rfl
 have N0 := Fr.nil n0
 show Goes p e below (Fin s (Q_ril_0 Z a1 cs h0 n0) (Rm 0 0 0 0).cells (Rm 0 0 0 0).slots) _
 refine Goes.via (S' := s₁.setTop (mkF m 0 #[Vr a1] [])) (fun tz kz => castTop (ef_30 m a1 ) kz) ?_
 obtain ⟨T1, X1, e1, st1⟩ := getS2 X0 hx hZ hown (host := "") (Or.inl (w_ hw 25 rfl)) Via.refl e0 (SC.ext O0.2) (g := (mkF m 0 #[Vr a1] [])) rfl (hb hby d30_0)
 refine Goes.via st1 ?_
 refine Goes.via (S' := T1.setTop (mkF m 7 #[Vr a1] [(.ref a1)])) (fun tz kz => ?_) ?_
 ·refine XS.ifNo X1.here hx rfl (hb hby d30_3) rfl ((if0 _ _).trans (feq hcs).1) ?_
  refine XS.aloadN X1.here hx rfl (hb hby d30_6) rfl rfl ?_
  exact kz
 obtain ⟨T2, X2, e2, st2⟩ := getF X1 hx hZ hown (host := "") (Or.inl (w_ hw 36 rfl)) Via.refl e1 GC (g := (mkF m 7 #[Vr a1] [(.ref a1)])) rfl rfl (hb hby d30_7)
 refine Goes.via st2 ?_
 refine Goes.via (S' := T2.setTop (mkF m 18 #[Vr a1] [(.int 1)])) (fun tz kz => ?_) ?_
 ·refine XS.ifNo X2.here hx rfl (hb hby d30_10) rfl ((if0 _ _).trans (teq (by first | decide | rfl)).2) ?_
  refine XS.iconst X2.here hx rfl (hb hby d30_13) ?_
  refine XS.goto X2.here hx rfl (pc0 := 14) (pc' := 18) rfl (hb hby d30_14) (by decide) (by decide) ?_
  exact kz
 exact Goes.retN X2 hx Bd.notSynchronized (t := .boolean) Bd.returns (by simp) (hb hby d30_18) (nb_ rfl) (nb_ rfl) ⟨rfl, N0, e2⟩
def Q_ril_1 (Z : State) (a1 : Addr) (cs : Int32) (h0 : Heap) (n0 : Nat) : Option Value → Heap → List Loc → Prop := fun v h L => v = some (.int 0) ∧ Fr n0 L ∧ h = h0
theorem ril_1 (l : Launch) (Z : State) (a0 : Array Value) (hw : ∀ d ∈ tables_1, d.before a0 Z = true) (ws : List Jvm.Cond) (a1 : Addr) (cs : Int32) (h0 : Heap) (n0 : Nat) (Z0 : n0 ≤ h0.size) (SC : Sta Z Z.heap "java/lang/String" "COMPACT_STRINGS" "Z" (.int cs)) (hcs : ¬ cs = (0 : Int32)) (O0 : Old Z n0 h0) (GC : Fld Z h0 a1 "java/lang/String" "coder" "B" (.int 1)) :
  own_M l Z n_18 (Jvm.Cond.code n_18 jdk_42_method_154_code 1 (some .boolean)) ws (Rm 0 0 0 0) #[(.ref a1)] h0 (Q_ril_1 Z a1 cs h0 n0) := by
 refine MetFree.of_bodySF (plainFor_of_name pn_30) hisR ?_
 intro p e s m args below meth c s₁ Bd hml0 hP hK
 obtain ⟨rfl, hZ, hh⟩ := hP
 have hx := Bd.exec
 have hby := Bd.bytes
 have hml : c.maxLocals = 1 := hml0
 have hown : s.vm.findClass "java/lang/String" = some m.cls := findClass_of_methodNamed Bd.named
 have hnm := (name_of_methodNamed Bd.named Bd.method).1
 have X0 : Stand p l e (Rm 0 0 0 0) s m #[(.ref a1)] below meth c s₁ [] 0 0 := Stand.of_body Bd
 have e0 : s₁.heap = h0 := by rw [← hh, Bd.state]; rfl
 have N0 := Fr.nil n0
 show Goes p e below (Fin s (Q_ril_1 Z a1 cs h0 n0) (Rm 0 0 0 0).cells (Rm 0 0 0 0).slots) _
 refine Goes.via (S' := s₁.setTop (mkF m 0 #[Vr a1] [])) (fun tz kz => castTop (ef_30 m a1 ) kz) ?_
 obtain ⟨T1, X1, e1, st1⟩ := getS2 X0 hx hZ hown (host := "") (Or.inl (w_ hw 25 rfl)) Via.refl e0 (SC.ext O0.2) (g := (mkF m 0 #[Vr a1] [])) rfl (hb hby d30_0)
 refine Goes.via st1 ?_
 refine Goes.via (S' := T1.setTop (mkF m 7 #[Vr a1] [(.ref a1)])) (fun tz kz => ?_) ?_
 ·refine XS.ifNo X1.here hx rfl (hb hby d30_3) rfl ((if0 _ _).trans (feq hcs).1) ?_
  refine XS.aloadN X1.here hx rfl (hb hby d30_6) rfl rfl ?_
  exact kz
 obtain ⟨T2, X2, e2, st2⟩ := getF X1 hx hZ hown (host := "") (Or.inl (w_ hw 36 rfl)) Via.refl e1 GC (g := (mkF m 7 #[Vr a1] [(.ref a1)])) rfl rfl (hb hby d30_7)
 refine Goes.via st2 ?_
 refine Goes.via (S' := T2.setTop (mkF m 18 #[Vr a1] [(.int 0)])) (fun tz kz => ?_) ?_
 ·refine XS.ifYes X2.here hx rfl (pc0 := 10) (pc' := 17) rfl (hb hby d30_10) rfl ((if0 _ _).trans (feq (by first | decide | rfl)).2) (by decide) (by decide) ?_
  refine XS.iconst X2.here hx rfl (hb hby d30_17) ?_
  exact kz
 exact Goes.retN X2 hx Bd.notSynchronized (t := .boolean) Bd.returns (by simp) (hb hby d30_18) (nb_ rfl) (nb_ rfl) ⟨rfl, N0, e2⟩
theorem d23_0 : De c_23 0 (.aload_n 0) 1 := by decide +kernel
theorem d23_1 : De c_23 1 (.getfield 9) 3 := by decide +kernel
theorem d23_4 : De c_23 4 .arraylength 1 := by decide +kernel
theorem d23_5 : De c_23 5 (.aload_n 0) 1 := by decide +kernel
theorem d23_6 : De c_23 6 (.invokevirtual 335) 3 := by decide +kernel
theorem d23_9 : De c_23 9 .ishr 1 := by decide +kernel
theorem d23_10 : De c_23 10 .ireturn 1 := by decide +kernel
theorem pn_23 : plainName "java/lang/String" = true := by first | (simp [plainName, overriddenIn]; done) | decide +kernel
theorem ef_23 (m : MethodId) (x0 : Addr) : entryFrame m #[(.ref x0)] 1 = mkF m 0 #[Vr x0] [] := by first | rfl | simp [entryFrame, mkF, argsToLocals, Value.category]
def Q_rlen (Z : State) (a1 : Addr) (b : Addr) (k : ClassId) (cs cd N n : Int32) (vs : List Value) (h0 : Heap) (n0 : Nat) : Option Value → Heap → List Loc → Prop := fun v h L => v = some (.int n) ∧ Fr n0 L ∧ h = h0
theorem rlen (l : Launch) (Z : State) (a0 : Array Value) (hw : ∀ d ∈ tables_1, d.before a0 Z = true) (ws : List Jvm.Cond) (a1 : Addr) (b : Addr) (k : ClassId) (cs cd N n : Int32) (vs : List Value) (h0 : Heap) (n0 : Nat) (Z0 : n0 ≤ h0.size) (SC : Sta Z Z.heap "java/lang/String" "COMPACT_STRINGS" "Z" (.int cs)) (hcs : ¬ cs = (0 : Int32)) (O0 : Old Z n0 h0) (E1 : Exa Z h0 a1 "java/lang/String") (GC : Fld Z h0 a1 "java/lang/String" "coder" "B" (.int cd)) (GV : Fld Z h0 a1 "java/lang/String" "value" "[B" (.ref b)) (BV : Arv Z h0 b k .byte N vs (.int 0)) (hcd : nar .byte cd = cd) (hn : (N >>> (cd &&& 31)) = n) :
  own_M l Z n_19 (Jvm.Cond.code n_19 jdk_42_method_54_code 1 (some .int)) ws (Rm 1 0 0 16) #[(.ref a1)] h0 (Q_rlen Z a1 b k cs cd N n vs h0 n0) := by
 refine MetFree.of_bodySF (plainFor_of_name pn_23) hisR ?_
 intro p e s m args below meth c s₁ Bd hml0 hP hK
 obtain ⟨rfl, hZ, hh⟩ := hP
 have hx := Bd.exec
 have hby := Bd.bytes
 have hml : c.maxLocals = 1 := hml0
 have hown : s.vm.findClass "java/lang/String" = some m.cls := findClass_of_methodNamed Bd.named
 have hnm := (name_of_methodNamed Bd.named Bd.method).1
 have X0 : Stand p l e (Rm 1 0 0 16) s m #[(.ref a1)] below meth c s₁ [] 0 0 := Stand.of_body Bd
 have e0 : s₁.heap = h0 := by rw [← hh, Bd.state]; rfl
 have N0 := Fr.nil n0
 show Goes p e below (Fin s (Q_rlen Z a1 b k cs cd N n vs h0 n0) (Rm 1 0 0 16).cells (Rm 1 0 0 16).slots) _
 refine Goes.via (S' := s₁.setTop (mkF m 0 #[Vr a1] [])) (fun tz kz => castTop (ef_23 m a1 ) kz) ?_
 refine Goes.via (S' := s₁.setTop (mkF m 1 #[Vr a1] [(.ref a1)])) (fun tz kz => ?_) ?_
 ·refine XS.aloadN X0.here hx rfl (hb hby d23_0) rfl rfl ?_
  exact kz
 obtain ⟨T1, X1, e1, st1⟩ := getF X0 hx hZ hown (host := "") (Or.inl (w_ hw 37 rfl)) Via.refl e0 GV (g := (mkF m 1 #[Vr a1] [(.ref a1)])) rfl rfl (hb hby d23_1)
 refine Goes.via st1 ?_
 obtain ⟨cl2, Ar2, q2, Sz2, Nn2, Hs2, G2⟩ := (id BV)
 refine Goes.via (S' := T1.setTop (mkF m 6 #[Vr a1] [(.ref a1), (.int N)])) (fun tz kz => ?_) ?_
 ·refine X1.arraylength hx (by rw [e1]; exact Ar2.1) (State.isArrayOf_alike hZ.alike Ar2.2.1) (g := (mkF m 4 #[Vr a1] [(.ref b)])) rfl rfl (hb hby d23_4) _ ?_
  rw [len_of Sz2 Nn2]
  refine XS.aloadN X1.here hx rfl (hb hby d23_5) rfl rfl ?_
  exact kz
 obtain ⟨cq3, kq3, q3a, q3b, q3c⟩ := isOf hZ e1 E1
 obtain ⟨_, _, ⟨T3, L3, k3, n3⟩, -, X3, ⟨Lc3, hQ3, l3, y3, z3⟩, st3⟩ := X1.virtualBack hx (y := n_17) (z := n_17) hown (mvT hZ (w_ hw 124 rfl)) (mvT hZ (w_ hw 125 rfl)) (notFace_of_selects (args := #[]) (mvT hZ (w_ hw 127 rfl))) (mvT hZ (w_ hw 127 rfl)) (mvT hZ (w_ hw 126 rfl)) (by decide) (backOf (W := 1) (rcd l Z a0 hw [] a1 cs cd h0 n0 Z0 SC hcs O0 GC hcd) hZ (w_ hw 128 rfl) (w_ hw 7 rfl) (by decide) (by decide)) q3a q3c (g := (mkF m 6 #[Vr a1] [(.ref a1), (.int N)])) rfl (by rw [hml]; rfl) (Steps.refl _) (argsL := []) (rest := [(.int N)]) (lenOf pd_7 rfl) rfl (ww_ rfl rfl) (hb hby d23_6) (fun _ _ => ⟨rfl, e1, (by decide : 0 + 0 ≤ _), (by decide : 0 + 0 ≤ _)⟩)
 dsimp only [Pt.U, Pt.locs, Pt.cells, Pt.slots] at X3 l3 y3 z3 st3 hQ3
 subst l3 y3 z3
 obtain ⟨rfl, N3, e3⟩ := hQ3
 have Nf3 := Fr.app N0 N3
 refine Goes.via (fun _ kz => st3.trans kz) ?_
 refine Goes.via (S' := T3.setTop (mkF m 10 #[Vr a1] [(.int (N >>> (cd &&& 31)))])) (fun tz kz => ?_) ?_
 ·refine XS.ishr X3.here hx rfl (hb hby d23_9) rfl ?_
  exact kz
 exact Goes.retI X3 hx Bd.notSynchronized Bd.returns (hb hby d23_10) (nb_ rfl) (nb_ rfl) ⟨congrArg (fun z => some (Value.int z)) hn, Nf3, e3⟩
theorem d29_0 : De c_29 0 (.iload_n 2) 1 := by decide +kernel
theorem d29_1 : De c_29 1 (.iload_n 0) 1 := by decide +kernel
theorem d29_2 : De c_29 2 .ior 1 := by decide +kernel
theorem d29_3 : De c_29 3 (.iload_n 1) 1 := by decide +kernel
theorem d29_4 : De c_29 4 .ior 1 := by decide +kernel
theorem d29_5 : De c_29 5 (.ifCond .lt 10) 3 := by decide +kernel
theorem d29_8 : De c_29 8 (.iload_n 1) 1 := by decide +kernel
theorem d29_9 : De c_29 9 (.iload_n 2) 1 := by decide +kernel
theorem d29_10 : De c_29 10 (.iload_n 0) 1 := by decide +kernel
theorem d29_11 : De c_29 11 .isub 1 := by decide +kernel
theorem d29_12 : De c_29 12 (.if_icmp .le 11) 3 := by decide +kernel
theorem d29_23 : De c_29 23 (.iload_n 0) 1 := by decide +kernel
theorem d29_24 : De c_29 24 .ireturn 1 := by decide +kernel
theorem pn_29 : plainName "jdk/internal/util/Preconditions" = true := by first | (simp [plainName, overriddenIn]; done) | decide +kernel
theorem ef_29 (m : MethodId) (x0 : Int32) (x1 : Int32) (x2 : Int32) (x3 : Value) (hx3 : x3.isRef = true) : entryFrame m #[(.int x0), (.int x1), (.int x2), x3] 4 = mkF m 0 #[Vi x0, Vi x1, Vi x2, .val x3] [] := by rcases ref_cases hx3 with rfl | ⟨_, rfl⟩ <;> (first | (simp [entryFrame, mkF, argsToLocals, Value.category]; done) | rfl)
def Q_rfi (Z : State) (si : Int32) (n : Int32) (M : Int32) (fv : Value)  (h0 : Heap) (n0 : Nat) : Option Value → Heap → List Loc → Prop := fun v h L => v = some (.int si) ∧ Fr n0 L ∧ h = h0
theorem rfi (l : Launch) (Z : State) (a0 : Array Value) (hw : ∀ d ∈ tables_1, d.before a0 Z = true) (ws : List Jvm.Cond) (si : Int32) (n : Int32) (M : Int32) (fv : Value)  (h0 : Heap) (n0 : Nat) (Z0 : n0 ≤ h0.size) (hfv : fv.isRef = true) (q1 : ¬ ((M ||| si) ||| n) < (0 : Int32)) (q2 : ¬ (M - si) < n) :
  own_M l Z n_20 (Jvm.Cond.code n_20 jdk_41_method_13_code 4 (some .int)) ws (Rm 0 0 0 0) #[(.int si), (.int n), (.int M), fv] h0 (Q_rfi Z si n M fv h0 n0) := by
 refine MetFree.of_bodySF (plainFor_of_name pn_29) hisR ?_
 intro p e s m args below meth c s₁ Bd hml0 hP hK
 obtain ⟨rfl, hZ, hh⟩ := hP
 have hx := Bd.exec
 have hby := Bd.bytes
 have hml : c.maxLocals = 4 := hml0
 have hown : s.vm.findClass "jdk/internal/util/Preconditions" = some m.cls := findClass_of_methodNamed Bd.named
 have hnm := (name_of_methodNamed Bd.named Bd.method).1
 have X0 : Stand p l e (Rm 0 0 0 0) s m #[(.int si), (.int n), (.int M), fv] below meth c s₁ [] 0 0 := Stand.of_body Bd
 have e0 : s₁.heap = h0 := by rw [← hh, Bd.state]; rfl
 have N0 := Fr.nil n0
 show Goes p e below (Fin s (Q_rfi Z si n M fv h0 n0) (Rm 0 0 0 0).cells (Rm 0 0 0 0).slots) _
 refine Goes.via (S' := s₁.setTop (mkF m 0 #[Vi si, Vi n, Vi M, .val fv] [])) (fun tz kz => castTop (ef_29 m si n M fv hfv) kz) ?_
 refine Goes.via (S' := s₁.setTop (mkF m 24 #[Vi si, Vi n, Vi M, .val fv] [(.int si)])) (fun tz kz => ?_) ?_
 ·refine XS.iloadN X0.here hx rfl (hb hby d29_0) rfl ?_
  refine XS.iloadN X0.here hx rfl (hb hby d29_1) rfl ?_
  refine XS.ior X0.here hx rfl (hb hby d29_2) rfl ?_
  refine XS.iloadN X0.here hx rfl (hb hby d29_3) rfl ?_
  refine XS.ior X0.here hx rfl (hb hby d29_4) rfl ?_
  refine XS.ifNo X0.here hx rfl (hb hby d29_5) rfl ((if0 _ _).trans (flt q1).1) ?_
  refine XS.iloadN X0.here hx rfl (hb hby d29_8) rfl ?_
  refine XS.iloadN X0.here hx rfl (hb hby d29_9) rfl ?_
  refine XS.iloadN X0.here hx rfl (hb hby d29_10) rfl ?_
  refine XS.isub X0.here hx rfl (hb hby d29_11) rfl ?_
  refine XS.icmpYes X0.here hx rfl (pc0 := 12) (pc' := 23) rfl (hb hby d29_12) rfl (flt q2).2.2.2 (by decide) (by decide) ?_
  refine XS.iloadN X0.here hx rfl (hb hby d29_23) rfl ?_
  exact kz
 exact Goes.retI X0 hx Bd.notSynchronized Bd.returns (hb hby d29_24) (nb_ rfl) (nb_ rfl) ⟨rfl, N0, e0⟩
theorem d28_0 : De c_28 0 (.iload_n 0) 1 := by decide +kernel
theorem d28_1 : De c_28 1 (.iload_n 1) 1 := by decide +kernel
theorem d28_2 : De c_28 2 (.iload_n 2) 1 := by decide +kernel
theorem d28_3 : De c_28 3 (.getstatic 1053) 3 := by decide +kernel
theorem d28_6 : De c_28 6 (.invokestatic 1065) 3 := by decide +kernel
theorem d28_9 : De c_28 9 .ireturn 1 := by decide +kernel
theorem pn_28 : plainName "java/lang/String" = true := by first | (simp [plainName, overriddenIn]; done) | decide +kernel
theorem ef_28 (m : MethodId) (x0 : Int32) (x1 : Int32) (x2 : Int32) : entryFrame m #[(.int x0), (.int x1), (.int x2)] 3 = mkF m 0 #[Vi x0, Vi x1, Vi x2] [] := by first | rfl | simp [entryFrame, mkF, argsToLocals, Value.category]
def Q_rbo (Z : State) (si : Int32) (n : Int32) (M : Int32) (fv : Value) (h0 : Heap) (n0 : Nat) : Option Value → Heap → List Loc → Prop := fun v h L => v = some (.int si) ∧ Fr n0 L ∧ h = h0
theorem rbo (l : Launch) (Z : State) (a0 : Array Value) (hw : ∀ d ∈ tables_1, d.before a0 Z = true) (ws : List Jvm.Cond) (si : Int32) (n : Int32) (M : Int32) (fv : Value) (h0 : Heap) (n0 : Nat) (Z0 : n0 ≤ h0.size) (SF : Sta Z Z.heap "jdk/internal/util/Preconditions" "SIOOBE_FORMATTER" "Ljava/util/function/BiFunction;" fv) (hfv : fv.isRef = true) (O0 : Old Z n0 h0) (q1 : ¬ ((M ||| si) ||| n) < (0 : Int32)) (q2 : ¬ (M - si) < n) :
  own_M l Z n_21 (Jvm.Cond.code n_21 jdk_42_method_157_code 3 (some .int)) ws (Rm 1 0 0 16) #[(.int si), (.int n), (.int M)] h0 (Q_rbo Z si n M fv h0 n0) := by
 refine MetFree.of_bodySF (plainFor_of_name pn_28) hisR ?_
 intro p e s m args below meth c s₁ Bd hml0 hP hK
 obtain ⟨rfl, hZ, hh⟩ := hP
 have hx := Bd.exec
 have hby := Bd.bytes
 have hml : c.maxLocals = 3 := hml0
 have hown : s.vm.findClass "java/lang/String" = some m.cls := findClass_of_methodNamed Bd.named
 have hnm := (name_of_methodNamed Bd.named Bd.method).1
 have X0 : Stand p l e (Rm 1 0 0 16) s m #[(.int si), (.int n), (.int M)] below meth c s₁ [] 0 0 := Stand.of_body Bd
 have e0 : s₁.heap = h0 := by rw [← hh, Bd.state]; rfl
 have N0 := Fr.nil n0
 show Goes p e below (Fin s (Q_rbo Z si n M fv h0 n0) (Rm 1 0 0 16).cells (Rm 1 0 0 16).slots) _
 refine Goes.via (S' := s₁.setTop (mkF m 0 #[Vi si, Vi n, Vi M] [])) (fun tz kz => castTop (ef_28 m si n M ) kz) ?_
 refine Goes.via (S' := s₁.setTop (mkF m 3 #[Vi si, Vi n, Vi M] [(.int M), (.int n), (.int si)])) (fun tz kz => ?_) ?_
 ·refine XS.iloadN X0.here hx rfl (hb hby d28_0) rfl ?_
  refine XS.iloadN X0.here hx rfl (hb hby d28_1) rfl ?_
  refine XS.iloadN X0.here hx rfl (hb hby d28_2) rfl ?_
  exact kz
 obtain ⟨T1, X1, e1, st1⟩ := getS2 X0 hx hZ hown (host := "") (Or.inl (w_ hw 138 rfl)) Via.refl e0 (SF.ext O0.2) (g := (mkF m 3 #[Vi si, Vi n, Vi M] [(.int M), (.int n), (.int si)])) rfl (hb hby d28_3)
 refine Goes.via st1 ?_
 obtain ⟨_, _, ⟨T2, L2, k2, n2⟩, -, X2, ⟨Lc2, hQ2, l2, y2, z2⟩, st2⟩ := Jvm.LawKit.callS X1 hx (y := n_20) hown (mvT hZ (w_ hw 146 rfl)) (mvT hZ (w_ hw 147 rfl)) (mvT hZ (w_ hw 139 rfl)) (mvT hZ (w_ hw 148 rfl)) (by decide) (backOf (W := 0) (rfi l Z a0 hw [] si n M fv h0 n0 Z0 hfv q1 q2) hZ (w_ hw 148 rfl) (w_ hw 139 rfl) (by decide) (by decide)) (g := (mkF m 6 #[Vi si, Vi n, Vi M] [fv, (.int M), (.int n), (.int si)])) rfl (by rw [hml]; rfl) (argsL := [(.int si), (.int n), (.int M), fv]) (rest := []) (lenOf pd_8 rfl) rfl (ww_ rfl rfl) (hb hby d28_6) (fun _ _ => ⟨rfl, e1, (by decide : 0 + 0 ≤ _), (by decide : 0 + 0 ≤ _)⟩)
 dsimp only [Pt.U, Pt.locs, Pt.cells, Pt.slots] at X2 l2 y2 z2 st2 hQ2
 subst l2 y2 z2
 obtain ⟨rfl, N2, e2⟩ := hQ2
 have Nf2 := Fr.app N0 N2
 refine Goes.via (st2) ?_
 exact Goes.retI X2 hx Bd.notSynchronized Bd.returns (hb hby d28_9) (nb_ rfl) (nb_ rfl) ⟨rfl, Nf2, e2⟩
theorem d27_0 : De c_27 0 (.iload_n 0) 1 := by decide +kernel
theorem d27_1 : De c_27 1 (.ifCond .lt 13) 3 := by decide +kernel
theorem d27_4 : De c_27 4 (.iload_n 0) 1 := by decide +kernel
theorem d27_5 : De c_27 5 (.iload_n 1) 1 := by decide +kernel
theorem d27_6 : De c_27 6 (.if_icmp .gt 8) 3 := by decide +kernel
theorem d27_9 : De c_27 9 (.iload_n 1) 1 := by decide +kernel
theorem d27_10 : De c_27 10 (.iload_n 2) 1 := by decide +kernel
theorem d27_11 : De c_27 11 (.if_icmp .le 11) 3 := by decide +kernel
theorem d27_22 : De c_27 22 (.iload_n 0) 1 := by decide +kernel
theorem d27_23 : De c_27 23 .ireturn 1 := by decide +kernel
theorem pn_27 : plainName "jdk/internal/util/Preconditions" = true := by first | (simp [plainName, overriddenIn]; done) | decide +kernel
theorem ef_27 (m : MethodId) (x0 : Int32) (x1 : Int32) (x2 : Int32) (x3 : Value) (hx3 : x3.isRef = true) : entryFrame m #[(.int x0), (.int x1), (.int x2), x3] 4 = mkF m 0 #[Vi x0, Vi x1, Vi x2, .val x3] [] := by rcases ref_cases hx3 with rfl | ⟨_, rfl⟩ <;> (first | (simp [entryFrame, mkF, argsToLocals, Value.category]; done) | rfl)
def Q_rft (Z : State) (n : Int32) (fv : Value)  (h0 : Heap) (n0 : Nat) : Option Value → Heap → List Loc → Prop := fun v h L => v = some (.int 0) ∧ Fr n0 L ∧ h = h0
theorem rft (l : Launch) (Z : State) (a0 : Array Value) (hw : ∀ d ∈ tables_1, d.before a0 Z = true) (ws : List Jvm.Cond) (n : Int32) (fv : Value)  (h0 : Heap) (n0 : Nat) (Z0 : n0 ≤ h0.size) (hfv : fv.isRef = true) (q1 : ¬ n < (0 : Int32)) (q2 : ¬ n < n) :
  own_M l Z n_22 (Jvm.Cond.code n_22 jdk_41_method_12_code 4 (some .int)) ws (Rm 0 0 0 0) #[(.int 0), (.int n), (.int (n)), fv] h0 (Q_rft Z n fv h0 n0) := by
 refine MetFree.of_bodySF (plainFor_of_name pn_27) hisR ?_
 intro p e s m args below meth c s₁ Bd hml0 hP hK
 obtain ⟨rfl, hZ, hh⟩ := hP
 have hx := Bd.exec
 have hby := Bd.bytes
 have hml : c.maxLocals = 4 := hml0
 have hown : s.vm.findClass "jdk/internal/util/Preconditions" = some m.cls := findClass_of_methodNamed Bd.named
 have hnm := (name_of_methodNamed Bd.named Bd.method).1
 have X0 : Stand p l e (Rm 0 0 0 0) s m #[(.int 0), (.int n), (.int (n)), fv] below meth c s₁ [] 0 0 := Stand.of_body Bd
 have e0 : s₁.heap = h0 := by rw [← hh, Bd.state]; rfl
 have N0 := Fr.nil n0
 show Goes p e below (Fin s (Q_rft Z n fv h0 n0) (Rm 0 0 0 0).cells (Rm 0 0 0 0).slots) _
 refine Goes.via (S' := s₁.setTop (mkF m 0 #[Vi 0, Vi n, Vi (n), .val fv] [])) (fun tz kz => castTop (ef_27 m (0 : Int32) n (n) fv hfv) kz) ?_
 refine Goes.via (S' := s₁.setTop (mkF m 23 #[Vi 0, Vi n, Vi (n), .val fv] [(.int 0)])) (fun tz kz => ?_) ?_
 ·refine XS.iloadN X0.here hx rfl (hb hby d27_0) rfl ?_
  refine XS.ifNo X0.here hx rfl (hb hby d27_1) rfl ((if0 _ _).trans (flt (by first | decide | rfl)).1) ?_
  refine XS.iloadN X0.here hx rfl (hb hby d27_4) rfl ?_
  refine XS.iloadN X0.here hx rfl (hb hby d27_5) rfl ?_
  refine XS.icmpNo X0.here hx rfl (hb hby d27_6) rfl (flt q1).2.2.1 ?_
  refine XS.iloadN X0.here hx rfl (hb hby d27_9) rfl ?_
  refine XS.iloadN X0.here hx rfl (hb hby d27_10) rfl ?_
  refine XS.icmpYes X0.here hx rfl (pc0 := 11) (pc' := 22) rfl (hb hby d27_11) rfl (flt q2).2.2.2 (by decide) (by decide) ?_
  refine XS.iloadN X0.here hx rfl (hb hby d27_22) rfl ?_
  exact kz
 exact Goes.retI X0 hx Bd.notSynchronized Bd.returns (hb hby d27_23) (nb_ rfl) (nb_ rfl) ⟨rfl, N0, e0⟩
theorem d26_0 : De c_26 0 (.iload_n 0) 1 := by decide +kernel
theorem d26_1 : De c_26 1 (.iload_n 1) 1 := by decide +kernel
theorem d26_2 : De c_26 2 (.iload_n 2) 1 := by decide +kernel
theorem d26_3 : De c_26 3 (.getstatic 1053) 3 := by decide +kernel
theorem d26_6 : De c_26 6 (.invokestatic 1062) 3 := by decide +kernel
theorem d26_9 : De c_26 9 .pop 1 := by decide +kernel
theorem d26_10 : De c_26 10 .return_ 1 := by decide +kernel
theorem pn_26 : plainName "java/lang/String" = true := by first | (simp [plainName, overriddenIn]; done) | decide +kernel
theorem ef_26 (m : MethodId) (x0 : Int32) (x1 : Int32) (x2 : Int32) : entryFrame m #[(.int x0), (.int x1), (.int x2)] 3 = mkF m 0 #[Vi x0, Vi x1, Vi x2] [] := by first | rfl | simp [entryFrame, mkF, argsToLocals, Value.category]
def Q_rbe (Z : State) (n : Int32) (fv : Value) (h0 : Heap) (n0 : Nat) : Option Value → Heap → List Loc → Prop := fun v h L => v = none ∧ Fr n0 L ∧ h = h0
theorem rbe (l : Launch) (Z : State) (a0 : Array Value) (hw : ∀ d ∈ tables_1, d.before a0 Z = true) (ws : List Jvm.Cond) (n : Int32) (fv : Value) (h0 : Heap) (n0 : Nat) (Z0 : n0 ≤ h0.size) (SF : Sta Z Z.heap "jdk/internal/util/Preconditions" "SIOOBE_FORMATTER" "Ljava/util/function/BiFunction;" fv) (hfv : fv.isRef = true) (O0 : Old Z n0 h0) (q1 : ¬ n < (0 : Int32)) (q2 : ¬ n < n) :
  own_M l Z n_23 (Jvm.Cond.code n_23 jdk_42_method_158_code 3 none) ws (Rm 1 0 0 16) #[(.int 0), (.int n), (.int (n))] h0 (Q_rbe Z n fv h0 n0) := by
 refine MetFree.of_bodySF (plainFor_of_name pn_26) hisR ?_
 intro p e s m args below meth c s₁ Bd hml0 hP hK
 obtain ⟨rfl, hZ, hh⟩ := hP
 have hx := Bd.exec
 have hby := Bd.bytes
 have hml : c.maxLocals = 3 := hml0
 have hown : s.vm.findClass "java/lang/String" = some m.cls := findClass_of_methodNamed Bd.named
 have hnm := (name_of_methodNamed Bd.named Bd.method).1
 have X0 : Stand p l e (Rm 1 0 0 16) s m #[(.int 0), (.int n), (.int (n))] below meth c s₁ [] 0 0 := Stand.of_body Bd
 have e0 : s₁.heap = h0 := by rw [← hh, Bd.state]; rfl
 have N0 := Fr.nil n0
 show Goes p e below (Fin s (Q_rbe Z n fv h0 n0) (Rm 1 0 0 16).cells (Rm 1 0 0 16).slots) _
 refine Goes.via (S' := s₁.setTop (mkF m 0 #[Vi 0, Vi n, Vi (n)] [])) (fun tz kz => castTop (ef_26 m (0 : Int32) n (n) ) kz) ?_
 refine Goes.via (S' := s₁.setTop (mkF m 3 #[Vi 0, Vi n, Vi (n)] [(.int (n)), (.int n), (.int 0)])) (fun tz kz => ?_) ?_
 ·refine XS.iloadN X0.here hx rfl (hb hby d26_0) rfl ?_
  refine XS.iloadN X0.here hx rfl (hb hby d26_1) rfl ?_
  refine XS.iloadN X0.here hx rfl (hb hby d26_2) rfl ?_
  exact kz
 obtain ⟨T1, X1, e1, st1⟩ := getS2 X0 hx hZ hown (host := "") (Or.inl (w_ hw 138 rfl)) Via.refl e0 (SF.ext O0.2) (g := (mkF m 3 #[Vi 0, Vi n, Vi (n)] [(.int (n)), (.int n), (.int 0)])) rfl (hb hby d26_3)
 refine Goes.via st1 ?_
 obtain ⟨_, _, ⟨T2, L2, k2, n2⟩, -, X2, ⟨Lc2, hQ2, l2, y2, z2⟩, st2⟩ := Jvm.LawKit.callS X1 hx (y := n_22) hown (mvT hZ (w_ hw 140 rfl)) (mvT hZ (w_ hw 141 rfl)) (mvT hZ (w_ hw 139 rfl)) (mvT hZ (w_ hw 142 rfl)) (by decide) (backOf (W := 0) (rft l Z a0 hw [] n fv h0 n0 Z0 hfv q1 q2) hZ (w_ hw 142 rfl) (w_ hw 139 rfl) (by decide) (by decide)) (g := (mkF m 6 #[Vi 0, Vi n, Vi (n)] [fv, (.int (n)), (.int n), (.int 0)])) rfl (by rw [hml]; rfl) (argsL := [(.int 0), (.int n), (.int (n)), fv]) (rest := []) (lenOf pd_8 rfl) rfl (ww_ rfl rfl) (hb hby d26_6) (fun _ _ => ⟨rfl, e1, (by decide : 0 + 0 ≤ _), (by decide : 0 + 0 ≤ _)⟩)
 dsimp only [Pt.U, Pt.locs, Pt.cells, Pt.slots] at X2 l2 y2 z2 st2 hQ2
 subst l2 y2 z2
 obtain ⟨rfl, N2, e2⟩ := hQ2
 have Nf2 := Fr.app N0 N2
 refine Goes.via (st2) ?_
 refine Goes.via (S' := T2.setTop (mkF m 10 #[Vi 0, Vi n, Vi (n)] [])) (fun tz kz => ?_) ?_
 ·refine XS.pop X2.here hx rfl (hb hby d26_9) rfl rfl ?_
  exact kz
 exact Goes.retV X2 hx Bd.notSynchronized Bd.returns (hb hby d26_10) (nb_ rfl) (nb_ rfl) ⟨rfl, Nf2, e2⟩
theorem d32_0 : De c_32 0 (.iconst 0) 1 := by decide +kernel
theorem d32_1 : De c_32 1 (.istore 5) 2 := by decide +kernel
theorem d32_3 : De c_32 3 (.iload 5) 2 := by decide +kernel
theorem d32_5 : De c_32 5 (.iload 4) 2 := by decide +kernel
theorem d32_7 : De c_32 7 (.if_icmp .ge 26) 3 := by decide +kernel
theorem d32_10 : De c_32 10 (.aload_n 2) 1 := by decide +kernel
theorem d32_11 : De c_32 11 (.iload_n 3) 1 := by decide +kernel
theorem d32_12 : De c_32 12 (.iinc 3 1) 3 := by decide +kernel
theorem d32_15 : De c_32 15 (.aload_n 0) 1 := by decide +kernel
theorem d32_16 : De c_32 16 (.iload_n 1) 1 := by decide +kernel
theorem d32_17 : De c_32 17 (.iinc 1 1) 3 := by decide +kernel
theorem d32_20 : De c_32 20 .baload 1 := by decide +kernel
theorem d32_21 : De c_32 21 (.sipush 255) 3 := by decide +kernel
theorem d32_24 : De c_32 24 .iand 1 := by decide +kernel
theorem d32_25 : De c_32 25 .i2c 1 := by decide +kernel
theorem d32_26 : De c_32 26 .castore 1 := by decide +kernel
theorem d32_27 : De c_32 27 (.iinc 5 1) 3 := by decide +kernel
theorem d32_30 : De c_32 30 (.goto (-27)) 3 := by decide +kernel
theorem d32_33 : De c_32 33 .return_ 1 := by decide +kernel
theorem pn_32 : plainName "java/lang/StringLatin1" = true := by first | (simp [plainName, overriddenIn]; done) | decide +kernel
theorem ef_32 (m : MethodId) (x0 : Addr) (x1 : Int32) (x2 : Addr) (x3 : Int32) (x4 : Int32) : entryFrame m #[(.ref x0), (.int x1), (.ref x2), (.int x3), (.int x4)] 6 = mkF m 0 #[Vr x0, Vi x1, Vr x2, Vi x3, Vi x4, Vu] [] := by first | rfl | simp [entryFrame, mkF, argsToLocals, Value.category]
def Q_rif_0 (Z : State) (va : Addr) (ca : Addr) (si : Int32) (ka : ClassId) (C : Nat → Int32) (sN : Nat) (h0 : Heap) (n0 : Nat) : Option Value → Heap → List Loc → Prop := fun v h L => v = none ∧ Fr n0 L ∧ Keep h0 h [ca] ∧ own_B Z h ca .char 64 C
theorem rif_0 (l : Launch) (Z : State) (a0 : Array Value) (hw : ∀ d ∈ tables_1, d.before a0 Z = true) (ws : List Jvm.Cond) (va : Addr) (ca : Addr) (si : Int32) (ka : ClassId) (C : Nat → Int32) (sN : Nat) (h0 : Heap) (n0 : Nat) (Z0 : n0 ≤ h0.size) (BV : Arv Z h0 va ka .byte (0 : Int32) [] (.int 0)) (CB : own_B Z h0 ca .char 64 C) (hs : own_I si sN) (hbd : sN ≤ 60) (nvc : va ≠ ca) (gb : n0 ≤ ca) :
  own_M l Z n_24 (Jvm.Cond.code n_24 jdk_43_method_49_code 6 none) ws (Rm 0 0 0 0) #[(.ref va), (.int 0), (.ref ca), (.int si), (.int 0)] h0 (Q_rif_0 Z va ca si ka C sN h0 n0) := by
 refine MetFree.of_bodySF (plainFor_of_name pn_32) hisR ?_
 intro p e s m args below meth c s₁ Bd hml0 hP hK
 obtain ⟨rfl, hZ, hh⟩ := hP
 have hx := Bd.exec
 have hby := Bd.bytes
 have hml : c.maxLocals = 6 := hml0
 have hown : s.vm.findClass "java/lang/StringLatin1" = some m.cls := findClass_of_methodNamed Bd.named
 have hnm := (name_of_methodNamed Bd.named Bd.method).1
 have X0 : Stand p l e (Rm 0 0 0 0) s m #[(.ref va), (.int 0), (.ref ca), (.int si), (.int 0)] below meth c s₁ [] 0 0 := Stand.of_body Bd
 have e0 : s₁.heap = h0 := by rw [← hh, Bd.state]; rfl
 have N0 := Fr.nil n0
 show Goes p e below (Fin s (Q_rif_0 Z va ca si ka C sN h0 n0) (Rm 0 0 0 0).cells (Rm 0 0 0 0).slots) _
 refine Goes.via (S' := s₁.setTop (mkF m 0 #[Vr va, Vi 0, Vr ca, Vi si, Vi 0, Vu] [])) (fun tz kz => castTop (ef_32 m va (0 : Int32) ca si (0 : Int32) ) kz) ?_
 refine Goes.via (S' := s₁.setTop (mkF m 33 #[Vr va, Vi 0, Vr ca, Vi si, Vi 0, Vi 0] [])) (fun tz kz => ?_) ?_
 ·refine XS.iconst X0.here hx rfl (hb hby d32_0) ?_
  refine XS.istore X0.here hx rfl (hb hby d32_1) rfl (l' := #[Vr va, Vi 0, Vr ca, Vi si, Vi 0, Vi 0]) rfl ?_
  refine XS.iload X0.here hx rfl (hb hby d32_3) rfl ?_
  refine XS.iload X0.here hx rfl (hb hby d32_5) rfl ?_
  refine XS.icmpYes X0.here hx rfl (pc0 := 7) (pc' := 33) rfl (hb hby d32_7) rfl (flt (by first | decide | rfl)).2.1 (by decide) (by decide) ?_
  exact kz
 exact Goes.retV X0 hx Bd.notSynchronized Bd.returns (hb hby d32_33) (nb_ rfl) (nb_ rfl) (by rw [e0]; exact ⟨rfl, N0, (Keep.refl h0 [ca]), CB⟩)
def Q_rif_1 (Z : State) (va : Addr) (ca : Addr) (si : Int32) (ka : ClassId) (C : Nat → Int32) (sN : Nat) (c0 : Int32) (h0 : Heap) (n0 : Nat) : Option Value → Heap → List Loc → Prop := fun v h L => v = none ∧ Fr n0 L ∧ Keep h0 h [ca] ∧ own_B Z h ca .char 64 (own_up C (sN + 0) c0)
theorem rif_1 (l : Launch) (Z : State) (a0 : Array Value) (hw : ∀ d ∈ tables_1, d.before a0 Z = true) (ws : List Jvm.Cond) (va : Addr) (ca : Addr) (si : Int32) (ka : ClassId) (C : Nat → Int32) (sN : Nat) (c0 : Int32) (h0 : Heap) (n0 : Nat) (Z0 : n0 ≤ h0.size) (BV : Arv Z h0 va ka .byte (1 : Int32) [.int (own_by c0)] (.int 0)) (CB : own_B Z h0 ca .char 64 C) (hs : own_I si sN) (hbd : sN ≤ 60) (nvc : va ≠ ca) (gb : n0 ≤ ca) (z0 : nar .char c0 = c0) (s0 : ¬ (255 : Int32) < c0) :
  own_M l Z n_24 (Jvm.Cond.code n_24 jdk_43_method_49_code 6 none) ws (Rm 0 0 0 0) #[(.ref va), (.int 0), (.ref ca), (.int si), (.int 1)] h0 (Q_rif_1 Z va ca si ka C sN c0 h0 n0) := by
 refine MetFree.of_bodySF (plainFor_of_name pn_32) hisR ?_
 intro p e s m args below meth c s₁ Bd hml0 hP hK
 obtain ⟨rfl, hZ, hh⟩ := hP
 have hx := Bd.exec
 have hby := Bd.bytes
 have hml : c.maxLocals = 6 := hml0
 have hown : s.vm.findClass "java/lang/StringLatin1" = some m.cls := findClass_of_methodNamed Bd.named
 have hnm := (name_of_methodNamed Bd.named Bd.method).1
 have X0 : Stand p l e (Rm 0 0 0 0) s m #[(.ref va), (.int 0), (.ref ca), (.int si), (.int 1)] below meth c s₁ [] 0 0 := Stand.of_body Bd
 have e0 : s₁.heap = h0 := by rw [← hh, Bd.state]; rfl
 have N0 := Fr.nil n0
 show Goes p e below (Fin s (Q_rif_1 Z va ca si ka C sN c0 h0 n0) (Rm 0 0 0 0).cells (Rm 0 0 0 0).slots) _
 refine Goes.via (S' := s₁.setTop (mkF m 0 #[Vr va, Vi 0, Vr ca, Vi si, Vi 1, Vu] [])) (fun tz kz => castTop (ef_32 m va (0 : Int32) ca si (1 : Int32) ) kz) ?_
 refine Goes.via (S' := s₁.setTop (mkF m 20 #[Vr va, Vi 1, Vr ca, Vi (si + (1 : Int32)), Vi 1, Vi 0] [(.int 0), (.ref va), (.int si), (.ref ca)])) (fun tz kz => ?_) ?_
 ·refine XS.iconst X0.here hx rfl (hb hby d32_0) ?_
  refine XS.istore X0.here hx rfl (hb hby d32_1) rfl (l' := #[Vr va, Vi 0, Vr ca, Vi si, Vi 1, Vi 0]) rfl ?_
  refine XS.iload X0.here hx rfl (hb hby d32_3) rfl ?_
  refine XS.iload X0.here hx rfl (hb hby d32_5) rfl ?_
  refine XS.icmpNo X0.here hx rfl (hb hby d32_7) rfl (tlt (by first | decide | rfl)).2.1 ?_
  refine XS.aloadN X0.here hx rfl (hb hby d32_10) rfl rfl ?_
  refine XS.iloadN X0.here hx rfl (hb hby d32_11) rfl ?_
  refine XS.iinc X0.here hx rfl (hb hby d32_12) rfl (l' := #[Vr va, Vi 0, Vr ca, Vi (si + (1 : Int32)), Vi 1, Vi 0]) rfl ?_
  refine XS.aloadN X0.here hx rfl (hb hby d32_15) rfl rfl ?_
  refine XS.iloadN X0.here hx rfl (hb hby d32_16) rfl ?_
  refine XS.iinc X0.here hx rfl (hb hby d32_17) rfl (l' := #[Vr va, Vi 1, Vr ca, Vi (si + (1 : Int32)), Vi 1, Vi 0]) rfl ?_
  exact kz
 obtain ⟨cl1, Ar1, q1, Sz1, Nn1, Hs1, G1⟩ := (id BV)
 refine Goes.via (S' := s₁.setTop (mkF m 26 #[Vr va, Vi 1, Vr ca, Vi (si + (1 : Int32)), Vi 1, Vi 0] [(.int (((own_by c0) &&& (255 : Int32)).toUInt32.toUInt16.toUInt32.toInt32)), (.int si), (.ref ca)])) (fun tz kz => ?_) ?_
 ·refine X0.baloadBytes hx (j := (0 : Int32)) (v := (.int (own_by c0))) (by rw [e0]; exact Ar1.1) (State.isArrayOf_alike hZ.alike Ar1.2.1) Ar1.2.2 (inb_of Sz1 ⟨by decide, by decide⟩) (Has.at Hs1 (inb_of Sz1 ⟨by decide, by decide⟩) rfl) (g := (mkF m 20 #[Vr va, Vi 1, Vr ca, Vi (si + (1 : Int32)), Vi 1, Vi 0] [(.int 0), (.ref va), (.int si), (.ref ca)])) rfl rfl (hb hby d32_20) _ ?_
  refine XS.sipush X0.here hx rfl (hb hby d32_21) ?_
  refine XS.iand X0.here hx rfl (hb hby d32_24) rfl ?_
  refine XS.i2c X0.here hx rfl (hb hby d32_25) rfl ?_
  exact kz
 obtain ⟨cl2, Ar2, Sz2, Hs2⟩ := (id CB)
 obtain ⟨T3, h3, X3, e3, W3, st3⟩ := stC X0 hx hZ e0 Ar2 (j := si) (own_in Sz2 hs (by omega)) (g := (mkF m 26 #[Vr va, Vi 1, Vr ca, Vi (si + (1 : Int32)), Vi 1, Vi 0] [(.int (((own_by c0) &&& (255 : Int32)).toUInt32.toUInt16.toUInt32.toInt32)), (.int si), (.ref ca)])) rfl rfl (hb hby d32_26)
 refine Goes.via st3 ?_
 have N3 := Fr.snoc X3 N0 gb
 rw [show (si).toNatClampNeg = sN + 0 from (hs).nat, own_lc z0 s0] at W3
 have B3 := CB.wr W3
 have V3 := BV.other W3 nvc
 have K3 := (Keep.refl h0 [ca]).wr W3 (Or.inl (List.mem_singleton.mpr rfl))
 refine Goes.via (S' := T3.setTop (mkF m 33 #[Vr va, Vi 1, Vr ca, Vi (si + (1 : Int32)), Vi 1, Vi 1] [])) (fun tz kz => ?_) ?_
 ·refine XS.iinc X3.here hx rfl (hb hby d32_27) rfl (l' := #[Vr va, Vi 1, Vr ca, Vi (si + (1 : Int32)), Vi 1, Vi 1]) rfl ?_
  refine XS.goto X3.here hx rfl (pc0 := 30) (pc' := 3) rfl (hb hby d32_30) (by decide) (by decide) ?_
  refine XS.iload X3.here hx rfl (hb hby d32_3) rfl ?_
  refine XS.iload X3.here hx rfl (hb hby d32_5) rfl ?_
  refine XS.icmpYes X3.here hx rfl (pc0 := 7) (pc' := 33) rfl (hb hby d32_7) rfl (flt (by first | decide | rfl)).2.1 (by decide) (by decide) ?_
  exact kz
 exact Goes.retV X3 hx Bd.notSynchronized Bd.returns (hb hby d32_33) (nb_ rfl) (nb_ rfl) (by rw [e3]; exact ⟨rfl, N3, K3, B3⟩)
def Q_rif_2 (Z : State) (va : Addr) (ca : Addr) (si : Int32) (ka : ClassId) (C : Nat → Int32) (sN : Nat) (c0 c1 : Int32) (h0 : Heap) (n0 : Nat) : Option Value → Heap → List Loc → Prop := fun v h L => v = none ∧ Fr n0 L ∧ Keep h0 h [ca] ∧ own_B Z h ca .char 64 (own_up (own_up C (sN + 0) c0) (sN + 1) c1)
theorem rif_2 (l : Launch) (Z : State) (a0 : Array Value) (hw : ∀ d ∈ tables_1, d.before a0 Z = true) (ws : List Jvm.Cond) (va : Addr) (ca : Addr) (si : Int32) (ka : ClassId) (C : Nat → Int32) (sN : Nat) (c0 c1 : Int32) (h0 : Heap) (n0 : Nat) (Z0 : n0 ≤ h0.size) (BV : Arv Z h0 va ka .byte (2 : Int32) [.int (own_by c0), .int (own_by c1)] (.int 0)) (CB : own_B Z h0 ca .char 64 C) (hs : own_I si sN) (hbd : sN ≤ 60) (nvc : va ≠ ca) (gb : n0 ≤ ca) (z0 : nar .char c0 = c0) (z1 : nar .char c1 = c1) (s0 : ¬ (255 : Int32) < c0) (s1 : ¬ (255 : Int32) < c1) :
  own_M l Z n_24 (Jvm.Cond.code n_24 jdk_43_method_49_code 6 none) ws (Rm 0 0 0 0) #[(.ref va), (.int 0), (.ref ca), (.int si), (.int 2)] h0 (Q_rif_2 Z va ca si ka C sN c0 c1 h0 n0) := by
 refine MetFree.of_bodySF (plainFor_of_name pn_32) hisR ?_
 intro p e s m args below meth c s₁ Bd hml0 hP hK
 obtain ⟨rfl, hZ, hh⟩ := hP
 have hx := Bd.exec
 have hby := Bd.bytes
 have hml : c.maxLocals = 6 := hml0
 have hown : s.vm.findClass "java/lang/StringLatin1" = some m.cls := findClass_of_methodNamed Bd.named
 have hnm := (name_of_methodNamed Bd.named Bd.method).1
 have X0 : Stand p l e (Rm 0 0 0 0) s m #[(.ref va), (.int 0), (.ref ca), (.int si), (.int 2)] below meth c s₁ [] 0 0 := Stand.of_body Bd
 have e0 : s₁.heap = h0 := by rw [← hh, Bd.state]; rfl
 have N0 := Fr.nil n0
 show Goes p e below (Fin s (Q_rif_2 Z va ca si ka C sN c0 c1 h0 n0) (Rm 0 0 0 0).cells (Rm 0 0 0 0).slots) _
 refine Goes.via (S' := s₁.setTop (mkF m 0 #[Vr va, Vi 0, Vr ca, Vi si, Vi 2, Vu] [])) (fun tz kz => castTop (ef_32 m va (0 : Int32) ca si (2 : Int32) ) kz) ?_
 refine Goes.via (S' := s₁.setTop (mkF m 20 #[Vr va, Vi 1, Vr ca, Vi (si + (1 : Int32)), Vi 2, Vi 0] [(.int 0), (.ref va), (.int si), (.ref ca)])) (fun tz kz => ?_) ?_
 ·refine XS.iconst X0.here hx rfl (hb hby d32_0) ?_
  refine XS.istore X0.here hx rfl (hb hby d32_1) rfl (l' := #[Vr va, Vi 0, Vr ca, Vi si, Vi 2, Vi 0]) rfl ?_
  refine XS.iload X0.here hx rfl (hb hby d32_3) rfl ?_
  refine XS.iload X0.here hx rfl (hb hby d32_5) rfl ?_
  refine XS.icmpNo X0.here hx rfl (hb hby d32_7) rfl (tlt (by first | decide | rfl)).2.1 ?_
  refine XS.aloadN X0.here hx rfl (hb hby d32_10) rfl rfl ?_
  refine XS.iloadN X0.here hx rfl (hb hby d32_11) rfl ?_
  refine XS.iinc X0.here hx rfl (hb hby d32_12) rfl (l' := #[Vr va, Vi 0, Vr ca, Vi (si + (1 : Int32)), Vi 2, Vi 0]) rfl ?_
  refine XS.aloadN X0.here hx rfl (hb hby d32_15) rfl rfl ?_
  refine XS.iloadN X0.here hx rfl (hb hby d32_16) rfl ?_
  refine XS.iinc X0.here hx rfl (hb hby d32_17) rfl (l' := #[Vr va, Vi 1, Vr ca, Vi (si + (1 : Int32)), Vi 2, Vi 0]) rfl ?_
  exact kz
 obtain ⟨cl1, Ar1, q1, Sz1, Nn1, Hs1, G1⟩ := (id BV)
 refine Goes.via (S' := s₁.setTop (mkF m 26 #[Vr va, Vi 1, Vr ca, Vi (si + (1 : Int32)), Vi 2, Vi 0] [(.int (((own_by c0) &&& (255 : Int32)).toUInt32.toUInt16.toUInt32.toInt32)), (.int si), (.ref ca)])) (fun tz kz => ?_) ?_
 ·refine X0.baloadBytes hx (j := (0 : Int32)) (v := (.int (own_by c0))) (by rw [e0]; exact Ar1.1) (State.isArrayOf_alike hZ.alike Ar1.2.1) Ar1.2.2 (inb_of Sz1 ⟨by decide, by decide⟩) (Has.at Hs1 (inb_of Sz1 ⟨by decide, by decide⟩) rfl) (g := (mkF m 20 #[Vr va, Vi 1, Vr ca, Vi (si + (1 : Int32)), Vi 2, Vi 0] [(.int 0), (.ref va), (.int si), (.ref ca)])) rfl rfl (hb hby d32_20) _ ?_
  refine XS.sipush X0.here hx rfl (hb hby d32_21) ?_
  refine XS.iand X0.here hx rfl (hb hby d32_24) rfl ?_
  refine XS.i2c X0.here hx rfl (hb hby d32_25) rfl ?_
  exact kz
 obtain ⟨cl2, Ar2, Sz2, Hs2⟩ := (id CB)
 obtain ⟨T3, h3, X3, e3, W3, st3⟩ := stC X0 hx hZ e0 Ar2 (j := si) (own_in Sz2 hs (by omega)) (g := (mkF m 26 #[Vr va, Vi 1, Vr ca, Vi (si + (1 : Int32)), Vi 2, Vi 0] [(.int (((own_by c0) &&& (255 : Int32)).toUInt32.toUInt16.toUInt32.toInt32)), (.int si), (.ref ca)])) rfl rfl (hb hby d32_26)
 refine Goes.via st3 ?_
 have N3 := Fr.snoc X3 N0 gb
 rw [show (si).toNatClampNeg = sN + 0 from (hs).nat, own_lc z0 s0] at W3
 have B3 := CB.wr W3
 have V3 := BV.other W3 nvc
 have K3 := (Keep.refl h0 [ca]).wr W3 (Or.inl (List.mem_singleton.mpr rfl))
 refine Goes.via (S' := T3.setTop (mkF m 20 #[Vr va, Vi 2, Vr ca, Vi ((si + (1 : Int32)) + (1 : Int32)), Vi 2, Vi 1] [(.int 1), (.ref va), (.int (si + (1 : Int32))), (.ref ca)])) (fun tz kz => ?_) ?_
 ·refine XS.iinc X3.here hx rfl (hb hby d32_27) rfl (l' := #[Vr va, Vi 1, Vr ca, Vi (si + (1 : Int32)), Vi 2, Vi 1]) rfl ?_
  refine XS.goto X3.here hx rfl (pc0 := 30) (pc' := 3) rfl (hb hby d32_30) (by decide) (by decide) ?_
  refine XS.iload X3.here hx rfl (hb hby d32_3) rfl ?_
  refine XS.iload X3.here hx rfl (hb hby d32_5) rfl ?_
  refine XS.icmpNo X3.here hx rfl (hb hby d32_7) rfl (tlt (by first | decide | rfl)).2.1 ?_
  refine XS.aloadN X3.here hx rfl (hb hby d32_10) rfl rfl ?_
  refine XS.iloadN X3.here hx rfl (hb hby d32_11) rfl ?_
  refine XS.iinc X3.here hx rfl (hb hby d32_12) rfl (l' := #[Vr va, Vi 1, Vr ca, Vi ((si + (1 : Int32)) + (1 : Int32)), Vi 2, Vi 1]) rfl ?_
  refine XS.aloadN X3.here hx rfl (hb hby d32_15) rfl rfl ?_
  refine XS.iloadN X3.here hx rfl (hb hby d32_16) rfl ?_
  refine XS.iinc X3.here hx rfl (hb hby d32_17) rfl (l' := #[Vr va, Vi 2, Vr ca, Vi ((si + (1 : Int32)) + (1 : Int32)), Vi 2, Vi 1]) rfl ?_
  exact kz
 obtain ⟨cl4, Ar4, q4, Sz4, Nn4, Hs4, G4⟩ := (id V3)
 refine Goes.via (S' := T3.setTop (mkF m 26 #[Vr va, Vi 2, Vr ca, Vi ((si + (1 : Int32)) + (1 : Int32)), Vi 2, Vi 1] [(.int (((own_by c1) &&& (255 : Int32)).toUInt32.toUInt16.toUInt32.toInt32)), (.int (si + (1 : Int32))), (.ref ca)])) (fun tz kz => ?_) ?_
 ·refine X3.baloadBytes hx (j := (1 : Int32)) (v := (.int (own_by c1))) (by rw [e3]; exact Ar4.1) (State.isArrayOf_alike hZ.alike Ar4.2.1) Ar4.2.2 (inb_of Sz4 ⟨by decide, by decide⟩) (Has.at Hs4 (inb_of Sz4 ⟨by decide, by decide⟩) rfl) (g := (mkF m 20 #[Vr va, Vi 2, Vr ca, Vi ((si + (1 : Int32)) + (1 : Int32)), Vi 2, Vi 1] [(.int 1), (.ref va), (.int (si + (1 : Int32))), (.ref ca)])) rfl rfl (hb hby d32_20) _ ?_
  refine XS.sipush X3.here hx rfl (hb hby d32_21) ?_
  refine XS.iand X3.here hx rfl (hb hby d32_24) rfl ?_
  refine XS.i2c X3.here hx rfl (hb hby d32_25) rfl ?_
  exact kz
 obtain ⟨cl5, Ar5, Sz5, Hs5⟩ := (id B3)
 obtain ⟨T6, h6, X6, e6, W6, st6⟩ := stC X3 hx hZ e3 Ar5 (j := (si + (1 : Int32))) (own_in Sz5 (hs.add own_I1 (by omega)) (by omega)) (g := (mkF m 26 #[Vr va, Vi 2, Vr ca, Vi ((si + (1 : Int32)) + (1 : Int32)), Vi 2, Vi 1] [(.int (((own_by c1) &&& (255 : Int32)).toUInt32.toUInt16.toUInt32.toInt32)), (.int (si + (1 : Int32))), (.ref ca)])) rfl rfl (hb hby d32_26)
 refine Goes.via st6 ?_
 have N6 := Fr.snoc X6 N3 gb
 rw [show ((si + (1 : Int32))).toNatClampNeg = sN + 1 from ((hs.add own_I1 (by omega))).nat, own_lc z1 s1] at W6
 have B6 := B3.wr W6
 have V6 := V3.other W6 nvc
 have K6 := K3.wr W6 (Or.inl (List.mem_singleton.mpr rfl))
 refine Goes.via (S' := T6.setTop (mkF m 33 #[Vr va, Vi 2, Vr ca, Vi ((si + (1 : Int32)) + (1 : Int32)), Vi 2, Vi 2] [])) (fun tz kz => ?_) ?_
 ·refine XS.iinc X6.here hx rfl (hb hby d32_27) rfl (l' := #[Vr va, Vi 2, Vr ca, Vi ((si + (1 : Int32)) + (1 : Int32)), Vi 2, Vi 2]) rfl ?_
  refine XS.goto X6.here hx rfl (pc0 := 30) (pc' := 3) rfl (hb hby d32_30) (by decide) (by decide) ?_
  refine XS.iload X6.here hx rfl (hb hby d32_3) rfl ?_
  refine XS.iload X6.here hx rfl (hb hby d32_5) rfl ?_
  refine XS.icmpYes X6.here hx rfl (pc0 := 7) (pc' := 33) rfl (hb hby d32_7) rfl (flt (by first | decide | rfl)).2.1 (by decide) (by decide) ?_
  exact kz
 exact Goes.retV X6 hx Bd.notSynchronized Bd.returns (hb hby d32_33) (nb_ rfl) (nb_ rfl) (by rw [e6]; exact ⟨rfl, N6, K6, B6⟩)
def Q_rif_3 (Z : State) (va : Addr) (ca : Addr) (si : Int32) (ka : ClassId) (C : Nat → Int32) (sN : Nat) (c0 c1 c2 : Int32) (h0 : Heap) (n0 : Nat) : Option Value → Heap → List Loc → Prop := fun v h L => v = none ∧ Fr n0 L ∧ Keep h0 h [ca] ∧ own_B Z h ca .char 64 (own_up (own_up (own_up C (sN + 0) c0) (sN + 1) c1) (sN + 2) c2)
theorem rif_3 (l : Launch) (Z : State) (a0 : Array Value) (hw : ∀ d ∈ tables_1, d.before a0 Z = true) (ws : List Jvm.Cond) (va : Addr) (ca : Addr) (si : Int32) (ka : ClassId) (C : Nat → Int32) (sN : Nat) (c0 c1 c2 : Int32) (h0 : Heap) (n0 : Nat) (Z0 : n0 ≤ h0.size) (BV : Arv Z h0 va ka .byte (3 : Int32) [.int (own_by c0), .int (own_by c1), .int (own_by c2)] (.int 0)) (CB : own_B Z h0 ca .char 64 C) (hs : own_I si sN) (hbd : sN ≤ 60) (nvc : va ≠ ca) (gb : n0 ≤ ca) (z0 : nar .char c0 = c0) (z1 : nar .char c1 = c1) (z2 : nar .char c2 = c2) (s0 : ¬ (255 : Int32) < c0) (s1 : ¬ (255 : Int32) < c1) (s2 : ¬ (255 : Int32) < c2) :
  own_M l Z n_24 (Jvm.Cond.code n_24 jdk_43_method_49_code 6 none) ws (Rm 0 0 0 0) #[(.ref va), (.int 0), (.ref ca), (.int si), (.int 3)] h0 (Q_rif_3 Z va ca si ka C sN c0 c1 c2 h0 n0) := by
 refine MetFree.of_bodySF (plainFor_of_name pn_32) hisR ?_
 intro p e s m args below meth c s₁ Bd hml0 hP hK
 obtain ⟨rfl, hZ, hh⟩ := hP
 have hx := Bd.exec
 have hby := Bd.bytes
 have hml : c.maxLocals = 6 := hml0
 have hown : s.vm.findClass "java/lang/StringLatin1" = some m.cls := findClass_of_methodNamed Bd.named
 have hnm := (name_of_methodNamed Bd.named Bd.method).1
 have X0 : Stand p l e (Rm 0 0 0 0) s m #[(.ref va), (.int 0), (.ref ca), (.int si), (.int 3)] below meth c s₁ [] 0 0 := Stand.of_body Bd
 have e0 : s₁.heap = h0 := by rw [← hh, Bd.state]; rfl
 have N0 := Fr.nil n0
 show Goes p e below (Fin s (Q_rif_3 Z va ca si ka C sN c0 c1 c2 h0 n0) (Rm 0 0 0 0).cells (Rm 0 0 0 0).slots) _
 refine Goes.via (S' := s₁.setTop (mkF m 0 #[Vr va, Vi 0, Vr ca, Vi si, Vi 3, Vu] [])) (fun tz kz => castTop (ef_32 m va (0 : Int32) ca si (3 : Int32) ) kz) ?_
 refine Goes.via (S' := s₁.setTop (mkF m 20 #[Vr va, Vi 1, Vr ca, Vi (si + (1 : Int32)), Vi 3, Vi 0] [(.int 0), (.ref va), (.int si), (.ref ca)])) (fun tz kz => ?_) ?_
 ·refine XS.iconst X0.here hx rfl (hb hby d32_0) ?_
  refine XS.istore X0.here hx rfl (hb hby d32_1) rfl (l' := #[Vr va, Vi 0, Vr ca, Vi si, Vi 3, Vi 0]) rfl ?_
  refine XS.iload X0.here hx rfl (hb hby d32_3) rfl ?_
  refine XS.iload X0.here hx rfl (hb hby d32_5) rfl ?_
  refine XS.icmpNo X0.here hx rfl (hb hby d32_7) rfl (tlt (by first | decide | rfl)).2.1 ?_
  refine XS.aloadN X0.here hx rfl (hb hby d32_10) rfl rfl ?_
  refine XS.iloadN X0.here hx rfl (hb hby d32_11) rfl ?_
  refine XS.iinc X0.here hx rfl (hb hby d32_12) rfl (l' := #[Vr va, Vi 0, Vr ca, Vi (si + (1 : Int32)), Vi 3, Vi 0]) rfl ?_
  refine XS.aloadN X0.here hx rfl (hb hby d32_15) rfl rfl ?_
  refine XS.iloadN X0.here hx rfl (hb hby d32_16) rfl ?_
  refine XS.iinc X0.here hx rfl (hb hby d32_17) rfl (l' := #[Vr va, Vi 1, Vr ca, Vi (si + (1 : Int32)), Vi 3, Vi 0]) rfl ?_
  exact kz
 obtain ⟨cl1, Ar1, q1, Sz1, Nn1, Hs1, G1⟩ := (id BV)
 refine Goes.via (S' := s₁.setTop (mkF m 26 #[Vr va, Vi 1, Vr ca, Vi (si + (1 : Int32)), Vi 3, Vi 0] [(.int (((own_by c0) &&& (255 : Int32)).toUInt32.toUInt16.toUInt32.toInt32)), (.int si), (.ref ca)])) (fun tz kz => ?_) ?_
 ·refine X0.baloadBytes hx (j := (0 : Int32)) (v := (.int (own_by c0))) (by rw [e0]; exact Ar1.1) (State.isArrayOf_alike hZ.alike Ar1.2.1) Ar1.2.2 (inb_of Sz1 ⟨by decide, by decide⟩) (Has.at Hs1 (inb_of Sz1 ⟨by decide, by decide⟩) rfl) (g := (mkF m 20 #[Vr va, Vi 1, Vr ca, Vi (si + (1 : Int32)), Vi 3, Vi 0] [(.int 0), (.ref va), (.int si), (.ref ca)])) rfl rfl (hb hby d32_20) _ ?_
  refine XS.sipush X0.here hx rfl (hb hby d32_21) ?_
  refine XS.iand X0.here hx rfl (hb hby d32_24) rfl ?_
  refine XS.i2c X0.here hx rfl (hb hby d32_25) rfl ?_
  exact kz
 obtain ⟨cl2, Ar2, Sz2, Hs2⟩ := (id CB)
 obtain ⟨T3, h3, X3, e3, W3, st3⟩ := stC X0 hx hZ e0 Ar2 (j := si) (own_in Sz2 hs (by omega)) (g := (mkF m 26 #[Vr va, Vi 1, Vr ca, Vi (si + (1 : Int32)), Vi 3, Vi 0] [(.int (((own_by c0) &&& (255 : Int32)).toUInt32.toUInt16.toUInt32.toInt32)), (.int si), (.ref ca)])) rfl rfl (hb hby d32_26)
 refine Goes.via st3 ?_
 have N3 := Fr.snoc X3 N0 gb
 rw [show (si).toNatClampNeg = sN + 0 from (hs).nat, own_lc z0 s0] at W3
 have B3 := CB.wr W3
 have V3 := BV.other W3 nvc
 have K3 := (Keep.refl h0 [ca]).wr W3 (Or.inl (List.mem_singleton.mpr rfl))
 refine Goes.via (S' := T3.setTop (mkF m 20 #[Vr va, Vi 2, Vr ca, Vi ((si + (1 : Int32)) + (1 : Int32)), Vi 3, Vi 1] [(.int 1), (.ref va), (.int (si + (1 : Int32))), (.ref ca)])) (fun tz kz => ?_) ?_
 ·refine XS.iinc X3.here hx rfl (hb hby d32_27) rfl (l' := #[Vr va, Vi 1, Vr ca, Vi (si + (1 : Int32)), Vi 3, Vi 1]) rfl ?_
  refine XS.goto X3.here hx rfl (pc0 := 30) (pc' := 3) rfl (hb hby d32_30) (by decide) (by decide) ?_
  refine XS.iload X3.here hx rfl (hb hby d32_3) rfl ?_
  refine XS.iload X3.here hx rfl (hb hby d32_5) rfl ?_
  refine XS.icmpNo X3.here hx rfl (hb hby d32_7) rfl (tlt (by first | decide | rfl)).2.1 ?_
  refine XS.aloadN X3.here hx rfl (hb hby d32_10) rfl rfl ?_
  refine XS.iloadN X3.here hx rfl (hb hby d32_11) rfl ?_
  refine XS.iinc X3.here hx rfl (hb hby d32_12) rfl (l' := #[Vr va, Vi 1, Vr ca, Vi ((si + (1 : Int32)) + (1 : Int32)), Vi 3, Vi 1]) rfl ?_
  refine XS.aloadN X3.here hx rfl (hb hby d32_15) rfl rfl ?_
  refine XS.iloadN X3.here hx rfl (hb hby d32_16) rfl ?_
  refine XS.iinc X3.here hx rfl (hb hby d32_17) rfl (l' := #[Vr va, Vi 2, Vr ca, Vi ((si + (1 : Int32)) + (1 : Int32)), Vi 3, Vi 1]) rfl ?_
  exact kz
 obtain ⟨cl4, Ar4, q4, Sz4, Nn4, Hs4, G4⟩ := (id V3)
 refine Goes.via (S' := T3.setTop (mkF m 26 #[Vr va, Vi 2, Vr ca, Vi ((si + (1 : Int32)) + (1 : Int32)), Vi 3, Vi 1] [(.int (((own_by c1) &&& (255 : Int32)).toUInt32.toUInt16.toUInt32.toInt32)), (.int (si + (1 : Int32))), (.ref ca)])) (fun tz kz => ?_) ?_
 ·refine X3.baloadBytes hx (j := (1 : Int32)) (v := (.int (own_by c1))) (by rw [e3]; exact Ar4.1) (State.isArrayOf_alike hZ.alike Ar4.2.1) Ar4.2.2 (inb_of Sz4 ⟨by decide, by decide⟩) (Has.at Hs4 (inb_of Sz4 ⟨by decide, by decide⟩) rfl) (g := (mkF m 20 #[Vr va, Vi 2, Vr ca, Vi ((si + (1 : Int32)) + (1 : Int32)), Vi 3, Vi 1] [(.int 1), (.ref va), (.int (si + (1 : Int32))), (.ref ca)])) rfl rfl (hb hby d32_20) _ ?_
  refine XS.sipush X3.here hx rfl (hb hby d32_21) ?_
  refine XS.iand X3.here hx rfl (hb hby d32_24) rfl ?_
  refine XS.i2c X3.here hx rfl (hb hby d32_25) rfl ?_
  exact kz
 obtain ⟨cl5, Ar5, Sz5, Hs5⟩ := (id B3)
 obtain ⟨T6, h6, X6, e6, W6, st6⟩ := stC X3 hx hZ e3 Ar5 (j := (si + (1 : Int32))) (own_in Sz5 (hs.add own_I1 (by omega)) (by omega)) (g := (mkF m 26 #[Vr va, Vi 2, Vr ca, Vi ((si + (1 : Int32)) + (1 : Int32)), Vi 3, Vi 1] [(.int (((own_by c1) &&& (255 : Int32)).toUInt32.toUInt16.toUInt32.toInt32)), (.int (si + (1 : Int32))), (.ref ca)])) rfl rfl (hb hby d32_26)
 refine Goes.via st6 ?_
 have N6 := Fr.snoc X6 N3 gb
 rw [show ((si + (1 : Int32))).toNatClampNeg = sN + 1 from ((hs.add own_I1 (by omega))).nat, own_lc z1 s1] at W6
 have B6 := B3.wr W6
 have V6 := V3.other W6 nvc
 have K6 := K3.wr W6 (Or.inl (List.mem_singleton.mpr rfl))
 refine Goes.via (S' := T6.setTop (mkF m 20 #[Vr va, Vi 3, Vr ca, Vi (((si + (1 : Int32)) + (1 : Int32)) + (1 : Int32)), Vi 3, Vi 2] [(.int 2), (.ref va), (.int ((si + (1 : Int32)) + (1 : Int32))), (.ref ca)])) (fun tz kz => ?_) ?_
 ·refine XS.iinc X6.here hx rfl (hb hby d32_27) rfl (l' := #[Vr va, Vi 2, Vr ca, Vi ((si + (1 : Int32)) + (1 : Int32)), Vi 3, Vi 2]) rfl ?_
  refine XS.goto X6.here hx rfl (pc0 := 30) (pc' := 3) rfl (hb hby d32_30) (by decide) (by decide) ?_
  refine XS.iload X6.here hx rfl (hb hby d32_3) rfl ?_
  refine XS.iload X6.here hx rfl (hb hby d32_5) rfl ?_
  refine XS.icmpNo X6.here hx rfl (hb hby d32_7) rfl (tlt (by first | decide | rfl)).2.1 ?_
  refine XS.aloadN X6.here hx rfl (hb hby d32_10) rfl rfl ?_
  refine XS.iloadN X6.here hx rfl (hb hby d32_11) rfl ?_
  refine XS.iinc X6.here hx rfl (hb hby d32_12) rfl (l' := #[Vr va, Vi 2, Vr ca, Vi (((si + (1 : Int32)) + (1 : Int32)) + (1 : Int32)), Vi 3, Vi 2]) rfl ?_
  refine XS.aloadN X6.here hx rfl (hb hby d32_15) rfl rfl ?_
  refine XS.iloadN X6.here hx rfl (hb hby d32_16) rfl ?_
  refine XS.iinc X6.here hx rfl (hb hby d32_17) rfl (l' := #[Vr va, Vi 3, Vr ca, Vi (((si + (1 : Int32)) + (1 : Int32)) + (1 : Int32)), Vi 3, Vi 2]) rfl ?_
  exact kz
 obtain ⟨cl7, Ar7, q7, Sz7, Nn7, Hs7, G7⟩ := (id V6)
 refine Goes.via (S' := T6.setTop (mkF m 26 #[Vr va, Vi 3, Vr ca, Vi (((si + (1 : Int32)) + (1 : Int32)) + (1 : Int32)), Vi 3, Vi 2] [(.int (((own_by c2) &&& (255 : Int32)).toUInt32.toUInt16.toUInt32.toInt32)), (.int ((si + (1 : Int32)) + (1 : Int32))), (.ref ca)])) (fun tz kz => ?_) ?_
 ·refine X6.baloadBytes hx (j := (2 : Int32)) (v := (.int (own_by c2))) (by rw [e6]; exact Ar7.1) (State.isArrayOf_alike hZ.alike Ar7.2.1) Ar7.2.2 (inb_of Sz7 ⟨by decide, by decide⟩) (Has.at Hs7 (inb_of Sz7 ⟨by decide, by decide⟩) rfl) (g := (mkF m 20 #[Vr va, Vi 3, Vr ca, Vi (((si + (1 : Int32)) + (1 : Int32)) + (1 : Int32)), Vi 3, Vi 2] [(.int 2), (.ref va), (.int ((si + (1 : Int32)) + (1 : Int32))), (.ref ca)])) rfl rfl (hb hby d32_20) _ ?_
  refine XS.sipush X6.here hx rfl (hb hby d32_21) ?_
  refine XS.iand X6.here hx rfl (hb hby d32_24) rfl ?_
  refine XS.i2c X6.here hx rfl (hb hby d32_25) rfl ?_
  exact kz
 obtain ⟨cl8, Ar8, Sz8, Hs8⟩ := (id B6)
 obtain ⟨T9, h9, X9, e9, W9, st9⟩ := stC X6 hx hZ e6 Ar8 (j := ((si + (1 : Int32)) + (1 : Int32))) (own_in Sz8 ((hs.add own_I1 (by omega)).add own_I1 (by omega)) (by omega)) (g := (mkF m 26 #[Vr va, Vi 3, Vr ca, Vi (((si + (1 : Int32)) + (1 : Int32)) + (1 : Int32)), Vi 3, Vi 2] [(.int (((own_by c2) &&& (255 : Int32)).toUInt32.toUInt16.toUInt32.toInt32)), (.int ((si + (1 : Int32)) + (1 : Int32))), (.ref ca)])) rfl rfl (hb hby d32_26)
 refine Goes.via st9 ?_
 have N9 := Fr.snoc X9 N6 gb
 rw [show (((si + (1 : Int32)) + (1 : Int32))).toNatClampNeg = sN + 2 from (((hs.add own_I1 (by omega)).add own_I1 (by omega))).nat, own_lc z2 s2] at W9
 have B9 := B6.wr W9
 have V9 := V6.other W9 nvc
 have K9 := K6.wr W9 (Or.inl (List.mem_singleton.mpr rfl))
 refine Goes.via (S' := T9.setTop (mkF m 33 #[Vr va, Vi 3, Vr ca, Vi (((si + (1 : Int32)) + (1 : Int32)) + (1 : Int32)), Vi 3, Vi 3] [])) (fun tz kz => ?_) ?_
 ·refine XS.iinc X9.here hx rfl (hb hby d32_27) rfl (l' := #[Vr va, Vi 3, Vr ca, Vi (((si + (1 : Int32)) + (1 : Int32)) + (1 : Int32)), Vi 3, Vi 3]) rfl ?_
  refine XS.goto X9.here hx rfl (pc0 := 30) (pc' := 3) rfl (hb hby d32_30) (by decide) (by decide) ?_
  refine XS.iload X9.here hx rfl (hb hby d32_3) rfl ?_
  refine XS.iload X9.here hx rfl (hb hby d32_5) rfl ?_
  refine XS.icmpYes X9.here hx rfl (pc0 := 7) (pc' := 33) rfl (hb hby d32_7) rfl (flt (by first | decide | rfl)).2.1 (by decide) (by decide) ?_
  exact kz
 exact Goes.retV X9 hx Bd.notSynchronized Bd.returns (hb hby d32_33) (nb_ rfl) (nb_ rfl) (by rw [e9]; exact ⟨rfl, N9, K9, B9⟩)
def Q_rif (Z : State) (ca : Addr) (C : Nat → Int32) (sN : Nat) (n c0 c1 c2 : Int32) (h0 : Heap) (n0 : Nat) : Option Value → Heap → List Loc → Prop := fun v h L => v = none ∧ Fr n0 L ∧ Keep h0 h [ca] ∧ own_B Z h ca .char 64 (own_put C sN n c0 c1 c2)
theorem rif (l : Launch) (Z : State) (a0 : Array Value) (hw : ∀ d ∈ tables_1, d.before a0 Z = true) (ws : List Jvm.Cond) (va ca : Addr) (si n : Int32) (ka : ClassId) (C : Nat → Int32) (sN : Nat) (c0 c1 c2 : Int32) (h0 : Heap) (n0 : Nat) (Z0 : n0 ≤ h0.size) (BV : Arv Z h0 va ka .byte n (own_bl n c0 c1 c2) (.int 0)) (CB : own_B Z h0 ca .char 64 C) (hs : own_I si sN) (hbd : sN ≤ 60) (nvc : va ≠ ca) (gb : n0 ≤ ca) (hn : own_len n) (u0 : own_u8 c0) (u1 : own_u8 c1) (u2 : own_u8 c2) :
  own_M l Z n_24 (Jvm.Cond.code n_24 jdk_43_method_49_code 6 none) ws (Rm 0 0 0 0) #[(.ref va), (.int 0), (.ref ca), (.int si), (.int n)] h0 (Q_rif Z ca C sN n c0 c1 c2 h0 n0) := by
 rcases hn with rfl | rfl | rfl | rfl
 ·exact rif_0 l Z a0 hw ws va ca si ka C sN  h0 n0 Z0 BV CB hs hbd nvc gb  
 ·exact rif_1 l Z a0 hw ws va ca si ka C sN c0 h0 n0 Z0 BV CB hs hbd nvc gb u0.nc u0.sm
 ·exact rif_2 l Z a0 hw ws va ca si ka C sN c0 c1 h0 n0 Z0 BV CB hs hbd nvc gb u0.nc u1.nc u0.sm u1.sm
 ·exact rif_3 l Z a0 hw ws va ca si ka C sN c0 c1 c2 h0 n0 Z0 BV CB hs hbd nvc gb u0.nc u1.nc u2.nc u0.sm u1.sm u2.sm
theorem d31_0 : De c_31 0 (.aload_n 0) 1 := by decide +kernel
theorem d31_1 : De c_31 1 (.iload_n 1) 1 := by decide +kernel
theorem d31_2 : De c_31 2 (.aload_n 3) 1 := by decide +kernel
theorem d31_3 : De c_31 3 (.iload 4) 2 := by decide +kernel
theorem d31_5 : De c_31 5 (.iload_n 2) 1 := by decide +kernel
theorem d31_6 : De c_31 6 (.iload_n 1) 1 := by decide +kernel
theorem d31_7 : De c_31 7 .isub 1 := by decide +kernel
theorem d31_8 : De c_31 8 (.invokestatic 13) 3 := by decide +kernel
theorem d31_11 : De c_31 11 .return_ 1 := by decide +kernel
theorem pn_31 : plainName "java/lang/StringLatin1" = true := by first | (simp [plainName, overriddenIn]; done) | decide +kernel
theorem ef_31 (m : MethodId) (x0 : Addr) (x1 : Int32) (x2 : Int32) (x3 : Addr) (x4 : Int32) : entryFrame m #[(.ref x0), (.int x1), (.int x2), (.ref x3), (.int x4)] 5 = mkF m 0 #[Vr x0, Vi x1, Vi x2, Vr x3, Vi x4] [] := by first | rfl | simp [entryFrame, mkF, argsToLocals, Value.category]
def Q_rlg (Z : State) (va : Addr) (n : Int32) (ca : Addr) (si : Int32) (ka : ClassId) (C : Nat → Int32) (sN : Nat) (c0 c1 c2 : Int32) (h0 : Heap) (n0 : Nat) : Option Value → Heap → List Loc → Prop := fun v h L => v = none ∧ Fr n0 L ∧ Keep h0 h [ca] ∧ own_B Z h ca .char 64 (own_put C sN n c0 c1 c2)
theorem rlg (l : Launch) (Z : State) (a0 : Array Value) (hw : ∀ d ∈ tables_1, d.before a0 Z = true) (ws : List Jvm.Cond) (va : Addr) (n : Int32) (ca : Addr) (si : Int32) (ka : ClassId) (C : Nat → Int32) (sN : Nat) (c0 c1 c2 : Int32) (h0 : Heap) (n0 : Nat) (Z0 : n0 ≤ h0.size) (BV : Arv Z h0 va ka .byte n (own_bl n c0 c1 c2) (.int 0)) (CB : own_B Z h0 ca .char 64 C) (hs : own_I si sN) (hbd : sN ≤ 60) (nvc : va ≠ ca) (gb : n0 ≤ ca) (hn : own_len n) (u0 : own_u8 c0) (u1 : own_u8 c1) (u2 : own_u8 c2) :
  own_M l Z n_25 (Jvm.Cond.code n_25 jdk_43_method_11_code 5 none) ws (Rm 1 0 0 20) #[(.ref va), (.int 0), (.int n), (.ref ca), (.int si)] h0 (Q_rlg Z va n ca si ka C sN c0 c1 c2 h0 n0) := by
 refine MetFree.of_bodySF (plainFor_of_name pn_31) hisR ?_
 intro p e s m args below meth c s₁ Bd hml0 hP hK
 obtain ⟨rfl, hZ, hh⟩ := hP
 have hx := Bd.exec
 have hby := Bd.bytes
 have hml : c.maxLocals = 5 := hml0
 have hown : s.vm.findClass "java/lang/StringLatin1" = some m.cls := findClass_of_methodNamed Bd.named
 have hnm := (name_of_methodNamed Bd.named Bd.method).1
 have X0 : Stand p l e (Rm 1 0 0 20) s m #[(.ref va), (.int 0), (.int n), (.ref ca), (.int si)] below meth c s₁ [] 0 0 := Stand.of_body Bd
 have e0 : s₁.heap = h0 := by rw [← hh, Bd.state]; rfl
 have N0 := Fr.nil n0
 show Goes p e below (Fin s (Q_rlg Z va n ca si ka C sN c0 c1 c2 h0 n0) (Rm 1 0 0 20).cells (Rm 1 0 0 20).slots) _
 refine Goes.via (S' := s₁.setTop (mkF m 0 #[Vr va, Vi 0, Vi n, Vr ca, Vi si] [])) (fun tz kz => castTop (ef_31 m va (0 : Int32) n ca si ) kz) ?_
 refine Goes.via (S' := s₁.setTop (mkF m 8 #[Vr va, Vi 0, Vi n, Vr ca, Vi si] [(.int (n - (0 : Int32))), (.int si), (.ref ca), (.int 0), (.ref va)])) (fun tz kz => ?_) ?_
 ·refine XS.aloadN X0.here hx rfl (hb hby d31_0) rfl rfl ?_
  refine XS.iloadN X0.here hx rfl (hb hby d31_1) rfl ?_
  refine XS.aloadN X0.here hx rfl (hb hby d31_2) rfl rfl ?_
  refine XS.iload X0.here hx rfl (hb hby d31_3) rfl ?_
  refine XS.iloadN X0.here hx rfl (hb hby d31_5) rfl ?_
  refine XS.iloadN X0.here hx rfl (hb hby d31_6) rfl ?_
  refine XS.isub X0.here hx rfl (hb hby d31_7) rfl ?_
  exact kz
 rw [own_s0 n]
 obtain ⟨_, _, ⟨T1, L1, k1, n1⟩, -, X1, ⟨Lc1, hQ1, l1, y1, z1⟩, st1⟩ := Jvm.LawKit.callS X0 hx (y := n_24) hown (mvT hZ (w_ hw 157 rfl)) (mvT hZ (w_ hw 158 rfl)) (mvT hZ (w_ hw 43 rfl)) (mvT hZ (w_ hw 159 rfl)) (by decide) (backOf (W := 0) (rif l Z a0 hw [] va ca si n ka C sN c0 c1 c2 h0 n0 Z0 BV CB hs hbd nvc gb hn u0 u1 u2) hZ (w_ hw 159 rfl) (w_ hw 43 rfl) (by decide) (by decide)) (g := (mkF m 8 #[Vr va, Vi 0, Vi n, Vr ca, Vi si] [(.int n), (.int si), (.ref ca), (.int 0), (.ref va)])) rfl (by rw [hml]; rfl) (argsL := [(.ref va), (.int 0), (.ref ca), (.int si), (.int n)]) (rest := []) (lenOf pd_9 rfl) rfl (ww_ rfl rfl) (hb hby d31_8) (fun _ _ => ⟨rfl, e0, (by decide : 0 + 0 ≤ _), (by decide : 0 + 0 ≤ _)⟩)
 dsimp only [Pt.U, Pt.locs, Pt.cells, Pt.slots] at X1 l1 y1 z1 st1 hQ1
 subst l1 y1 z1
 obtain ⟨rfl, N1, K1, B1⟩ := hQ1
 have Nf1 := Fr.app N0 N1
 refine Goes.via (st1) ?_
 exact Goes.retV X1 hx Bd.notSynchronized Bd.returns (hb hby d31_11) (nb_ rfl) (nb_ rfl) ⟨rfl, Nf1, K1, B1⟩
theorem own_n3 {n : Int32} (hn : own_len n) : 0 ≤ n.toInt ∧ n.toInt ≤ 4 := by rcases hn with rfl | rfl | rfl | rfl <;> decide
theorem d25_0 : De c_25 0 (.iload_n 1) 1 := by decide +kernel
theorem d25_1 : De c_25 1 (.iload_n 2) 1 := by decide +kernel
theorem d25_2 : De c_25 2 (.aload_n 0) 1 := by decide +kernel
theorem d25_3 : De c_25 3 (.invokevirtual 505) 3 := by decide +kernel
theorem d25_6 : De c_25 6 (.invokestatic 521) 3 := by decide +kernel
theorem d25_9 : De c_25 9 (.iload 4) 2 := by decide +kernel
theorem d25_11 : De c_25 11 (.iload_n 2) 1 := by decide +kernel
theorem d25_12 : De c_25 12 (.iload_n 1) 1 := by decide +kernel
theorem d25_13 : De c_25 13 .isub 1 := by decide +kernel
theorem d25_14 : De c_25 14 (.aload_n 3) 1 := by decide +kernel
theorem d25_15 : De c_25 15 .arraylength 1 := by decide +kernel
theorem d25_16 : De c_25 16 (.invokestatic 34) 3 := by decide +kernel
theorem d25_19 : De c_25 19 .pop 1 := by decide +kernel
theorem d25_20 : De c_25 20 (.aload_n 0) 1 := by decide +kernel
theorem d25_21 : De c_25 21 (.invokevirtual 492) 3 := by decide +kernel
theorem d25_24 : De c_25 24 (.ifCond .eq 18) 3 := by decide +kernel
theorem d25_27 : De c_25 27 (.aload_n 0) 1 := by decide +kernel
theorem d25_28 : De c_25 28 (.getfield 9) 3 := by decide +kernel
theorem d25_31 : De c_25 31 (.iload_n 1) 1 := by decide +kernel
theorem d25_32 : De c_25 32 (.iload_n 2) 1 := by decide +kernel
theorem d25_33 : De c_25 33 (.aload_n 3) 1 := by decide +kernel
theorem d25_34 : De c_25 34 (.iload 4) 2 := by decide +kernel
theorem d25_36 : De c_25 36 (.invokestatic 525) 3 := by decide +kernel
theorem d25_39 : De c_25 39 (.goto 15) 3 := by decide +kernel
theorem d25_54 : De c_25 54 .return_ 1 := by decide +kernel
theorem pn_25 : plainName "java/lang/String" = true := by first | (simp [plainName, overriddenIn]; done) | decide +kernel
theorem ef_25 (m : MethodId) (x0 : Addr) (x1 : Int32) (x2 : Int32) (x3 : Addr) (x4 : Int32) : entryFrame m #[(.ref x0), (.int x1), (.int x2), (.ref x3), (.int x4)] 5 = mkF m 0 #[Vr x0, Vi x1, Vi x2, Vr x3, Vi x4] [] := by first | rfl | simp [entryFrame, mkF, argsToLocals, Value.category]
def Q_rgs (Z : State) (a1 : Addr) (n : Int32) (ca : Addr) (si : Int32) (va : Addr) (ka : ClassId) (C : Nat → Int32) (sN : Nat) (cs : Int32) (fv : Value) (c0 c1 c2 : Int32) (h0 : Heap) (n0 : Nat) : Option Value → Heap → List Loc → Prop := fun v h L => v = none ∧ Fr n0 L ∧ Keep h0 h [ca] ∧ own_B Z h ca .char 64 (own_put C sN n c0 c1 c2)
theorem rgs (l : Launch) (Z : State) (a0 : Array Value) (hw : ∀ d ∈ tables_1, d.before a0 Z = true) (ws : List Jvm.Cond) (a1 : Addr) (n : Int32) (ca : Addr) (si : Int32) (va : Addr) (ka : ClassId) (C : Nat → Int32) (sN : Nat) (cs : Int32) (fv : Value) (c0 c1 c2 : Int32) (h0 : Heap) (n0 : Nat) (Z0 : n0 ≤ h0.size) (SC : Sta Z Z.heap "java/lang/String" "COMPACT_STRINGS" "Z" (.int cs)) (hcs : ¬ cs = (0 : Int32)) (O0 : Old Z n0 h0) (SF : Sta Z Z.heap "jdk/internal/util/Preconditions" "SIOOBE_FORMATTER" "Ljava/util/function/BiFunction;" fv) (hfv : fv.isRef = true) (S : own_Str Z h0 a1 va ka n (own_bl n c0 c1 c2)) (CB : own_B Z h0 ca .char 64 C) (hs : own_I si sN) (hbd : sN ≤ 60) (nvc : va ≠ ca) (gb : n0 ≤ ca) (hn : own_len n) (u0 : own_u8 c0) (u1 : own_u8 c1) (u2 : own_u8 c2) :
  own_M l Z n_26 (Jvm.Cond.code n_26 jdk_42_method_61_code 5 none) ws (Rm 2 0 0 40) #[(.ref a1), (.int 0), (.int n), (.ref ca), (.int si)] h0 (Q_rgs Z a1 n ca si va ka C sN cs fv c0 c1 c2 h0 n0) := by
 refine MetFree.of_bodySF (plainFor_of_name pn_25) hisR ?_
 intro p e s m args below meth c s₁ Bd hml0 hP hK
 obtain ⟨rfl, hZ, hh⟩ := hP
 have hx := Bd.exec
 have hby := Bd.bytes
 have hml : c.maxLocals = 5 := hml0
 have hown : s.vm.findClass "java/lang/String" = some m.cls := findClass_of_methodNamed Bd.named
 have hnm := (name_of_methodNamed Bd.named Bd.method).1
 have X0 : Stand p l e (Rm 2 0 0 40) s m #[(.ref a1), (.int 0), (.int n), (.ref ca), (.int si)] below meth c s₁ [] 0 0 := Stand.of_body Bd
 have e0 : s₁.heap = h0 := by rw [← hh, Bd.state]; rfl
 have N0 := Fr.nil n0
 show Goes p e below (Fin s (Q_rgs Z a1 n ca si va ka C sN cs fv c0 c1 c2 h0 n0) (Rm 2 0 0 40).cells (Rm 2 0 0 40).slots) _
 refine Goes.via (S' := s₁.setTop (mkF m 0 #[Vr a1, Vi 0, Vi n, Vr ca, Vi si] [])) (fun tz kz => castTop (ef_25 m a1 (0 : Int32) n ca si ) kz) ?_
 refine Goes.via (S' := s₁.setTop (mkF m 3 #[Vr a1, Vi 0, Vi n, Vr ca, Vi si] [(.ref a1), (.int n), (.int 0)])) (fun tz kz => ?_) ?_
 ·refine XS.iloadN X0.here hx rfl (hb hby d25_0) rfl ?_
  refine XS.iloadN X0.here hx rfl (hb hby d25_1) rfl ?_
  refine XS.aloadN X0.here hx rfl (hb hby d25_2) rfl rfl ?_
  exact kz
 obtain ⟨cq1, kq1, q1a, q1b, q1c⟩ := isOf hZ e0 S.1
 obtain ⟨_, _, ⟨T1, L1, k1, n1⟩, -, X1, ⟨Lc1, hQ1, l1, y1, z1⟩, st1⟩ := X0.virtualBack hx (y := n_19) (z := n_19) hown (mvT hZ (w_ hw 134 rfl)) (mvT hZ (w_ hw 120 rfl)) (notFace_of_selects (args := #[]) (mvT hZ (w_ hw 122 rfl))) (mvT hZ (w_ hw 122 rfl)) (mvT hZ (w_ hw 121 rfl)) (by decide) (backOf (W := 2) (rlen l Z a0 hw [] a1 va ka cs (0 : Int32) n n _ h0 n0 Z0 SC hcs O0 S.1 S.2.1 S.2.2.1 S.2.2.2 rfl (own_sh0 hn)) hZ (w_ hw 123 rfl) (w_ hw 7 rfl) (by decide) (by decide)) q1a q1c (g := (mkF m 3 #[Vr a1, Vi 0, Vi n, Vr ca, Vi si] [(.ref a1), (.int n), (.int 0)])) rfl (by rw [hml]; rfl) (Steps.refl _) (argsL := []) (rest := [(.int n), (.int 0)]) (lenOf pd_10 rfl) rfl (ww_ rfl rfl) (hb hby d25_3) (fun _ _ => ⟨rfl, e0, (by decide : 0 + 0 ≤ _), (by decide : 0 + 0 ≤ _)⟩)
 dsimp only [Pt.U, Pt.locs, Pt.cells, Pt.slots] at X1 l1 y1 z1 st1 hQ1
 subst l1 y1 z1
 obtain ⟨rfl, N1, e1⟩ := hQ1
 have Nf1 := Fr.app N0 N1
 refine Goes.via (fun _ kz => st1.trans kz) ?_
 obtain ⟨_, _, ⟨T2, L2, k2, n2⟩, -, X2, ⟨Lc2, hQ2, l2, y2, z2⟩, st2⟩ := Jvm.LawKit.callS X1 hx (y := n_23) hown (mvT hZ (w_ hw 135 rfl)) (mvT hZ (w_ hw 136 rfl)) (mvT hZ (w_ hw 7 rfl)) (mvT hZ (w_ hw 137 rfl)) (by decide) (backOf (W := 0) (rbe l Z a0 hw [] n fv h0 n0 Z0 SF hfv O0 hn.I.1.nn (fun z => own_nlt hn.I.1 hn.I.1 (Nat.le_refl _) z)) hZ (w_ hw 137 rfl) (w_ hw 7 rfl) (by decide) (by decide)) (g := (mkF m 6 #[Vr a1, Vi 0, Vi n, Vr ca, Vi si] [(.int n), (.int n), (.int 0)])) rfl (by rw [hml]; rfl) (argsL := [(.int 0), (.int n), (.int n)]) (rest := []) (lenOf pd_2 rfl) rfl (ww_ rfl rfl) (hb hby d25_6) (fun _ _ => ⟨rfl, e1, (by decide : 0 + 0 ≤ _), (by decide : 0 + 0 ≤ _)⟩)
 dsimp only [Pt.U, Pt.locs, Pt.cells, Pt.slots] at X2 l2 y2 z2 st2 hQ2
 subst l2 y2 z2
 obtain ⟨rfl, N2, e2⟩ := hQ2
 have Nf2 := Fr.app Nf1 N2
 refine Goes.via (st2) ?_
 refine Goes.via (S' := T2.setTop (mkF m 14 #[Vr a1, Vi 0, Vi n, Vr ca, Vi si] [(.int (n - (0 : Int32))), (.int si)])) (fun tz kz => ?_) ?_
 ·refine XS.iload X2.here hx rfl (hb hby d25_9) rfl ?_
  refine XS.iloadN X2.here hx rfl (hb hby d25_11) rfl ?_
  refine XS.iloadN X2.here hx rfl (hb hby d25_12) rfl ?_
  refine XS.isub X2.here hx rfl (hb hby d25_13) rfl ?_
  exact kz
 rw [own_s0 n]
 refine Goes.via (S' := T2.setTop (mkF m 15 #[Vr a1, Vi 0, Vi n, Vr ca, Vi si] [(.ref ca), (.int n), (.int si)])) (fun tz kz => ?_) ?_
 ·refine XS.aloadN X2.here hx rfl (hb hby d25_14) rfl rfl ?_
  exact kz
 obtain ⟨cl3, Ar3, Sz3, Hs3⟩ := (id CB)
 refine Goes.via (S' := T2.setTop (mkF m 16 #[Vr a1, Vi 0, Vi n, Vr ca, Vi si] [(.int 64), (.int n), (.int si)])) (fun tz kz => ?_) ?_
 ·refine X2.arraylength hx (by rw [e2]; exact Ar3.1) (State.isArrayOf_alike hZ.alike Ar3.2.1) (g := (mkF m 15 #[Vr a1, Vi 0, Vi n, Vr ca, Vi si] [(.ref ca), (.int n), (.int si)])) rfl rfl (hb hby d25_15) _ ?_
  rw [own_l64 Sz3]
  exact kz
 obtain ⟨_, _, ⟨T4, L4, k4, n4⟩, -, X4, ⟨Lc4, hQ4, l4, y4, z4⟩, st4⟩ := Jvm.LawKit.callS X2 hx (y := n_21) hown (mvT hZ (w_ hw 143 rfl)) (mvT hZ (w_ hw 144 rfl)) (mvT hZ (w_ hw 7 rfl)) (mvT hZ (w_ hw 145 rfl)) (by decide) (backOf (W := 0) (rbo l Z a0 hw [] si n (64 : Int32) fv h0 n0 Z0 SF hfv O0 (own_or3 hs (own_n3 hn).1) (own_or4 hs hbd (own_n3 hn).2)) hZ (w_ hw 145 rfl) (w_ hw 7 rfl) (by decide) (by decide)) (g := (mkF m 16 #[Vr a1, Vi 0, Vi n, Vr ca, Vi si] [(.int 64), (.int n), (.int si)])) rfl (by rw [hml]; rfl) (argsL := [(.int si), (.int n), (.int 64)]) (rest := []) (lenOf pd_11 rfl) rfl (ww_ rfl rfl) (hb hby d25_16) (fun _ _ => ⟨rfl, e2, (by decide : 0 + 0 ≤ _), (by decide : 0 + 0 ≤ _)⟩)
 dsimp only [Pt.U, Pt.locs, Pt.cells, Pt.slots] at X4 l4 y4 z4 st4 hQ4
 subst l4 y4 z4
 obtain ⟨rfl, N4, e4⟩ := hQ4
 have Nf4 := Fr.app Nf2 N4
 refine Goes.via (st4) ?_
 refine Goes.via (S' := T4.setTop (mkF m 21 #[Vr a1, Vi 0, Vi n, Vr ca, Vi si] [(.ref a1)])) (fun tz kz => ?_) ?_
 ·refine XS.pop X4.here hx rfl (hb hby d25_19) rfl rfl ?_
  refine XS.aloadN X4.here hx rfl (hb hby d25_20) rfl rfl ?_
  exact kz
 obtain ⟨cq5, kq5, q5a, q5b, q5c⟩ := isOf hZ e4 S.1
 obtain ⟨_, _, ⟨T5, L5, k5, n5⟩, -, X5, ⟨Lc5, hQ5, l5, y5, z5⟩, st5⟩ := X4.virtualBack hx (y := n_18) (z := n_18) hown (mvT hZ (w_ hw 149 rfl)) (mvT hZ (w_ hw 150 rfl)) (notFace_of_selects (args := #[]) (mvT hZ (w_ hw 152 rfl))) (mvT hZ (w_ hw 152 rfl)) (mvT hZ (w_ hw 151 rfl)) (by decide) (backOf (W := 0) (ril_0 l Z a0 hw [] a1 cs h0 n0 Z0 SC hcs O0 S.2.1) hZ (w_ hw 153 rfl) (w_ hw 7 rfl) (by decide) (by decide)) q5a q5c (g := (mkF m 21 #[Vr a1, Vi 0, Vi n, Vr ca, Vi si] [(.ref a1)])) rfl (by rw [hml]; rfl) (Steps.refl _) (argsL := []) (rest := []) (lenOf pd_12 rfl) rfl (ww_ rfl rfl) (hb hby d25_21) (fun _ _ => ⟨rfl, e4, (by decide : 0 + 0 ≤ _), (by decide : 0 + 0 ≤ _)⟩)
 dsimp only [Pt.U, Pt.locs, Pt.cells, Pt.slots] at X5 l5 y5 z5 st5 hQ5
 subst l5 y5 z5
 obtain ⟨rfl, N5, e5⟩ := hQ5
 have Nf5 := Fr.app Nf4 N5
 refine Goes.via (fun _ kz => st5.trans kz) ?_
 refine Goes.via (S' := T5.setTop (mkF m 28 #[Vr a1, Vi 0, Vi n, Vr ca, Vi si] [(.ref a1)])) (fun tz kz => ?_) ?_
 ·refine XS.ifNo X5.here hx rfl (hb hby d25_24) rfl ((if0 _ _).trans (feq (by first | decide | rfl)).1) ?_
  refine XS.aloadN X5.here hx rfl (hb hby d25_27) rfl rfl ?_
  exact kz
 obtain ⟨T6, X6, e6, st6⟩ := getF X5 hx hZ hown (host := "") (Or.inl (w_ hw 37 rfl)) Via.refl e5 S.2.2.1 (g := (mkF m 28 #[Vr a1, Vi 0, Vi n, Vr ca, Vi si] [(.ref a1)])) rfl rfl (hb hby d25_28)
 refine Goes.via st6 ?_
 refine Goes.via (S' := T6.setTop (mkF m 36 #[Vr a1, Vi 0, Vi n, Vr ca, Vi si] [(.int si), (.ref ca), (.int n), (.int 0), (.ref va)])) (fun tz kz => ?_) ?_
 ·refine XS.iloadN X6.here hx rfl (hb hby d25_31) rfl ?_
  refine XS.iloadN X6.here hx rfl (hb hby d25_32) rfl ?_
  refine XS.aloadN X6.here hx rfl (hb hby d25_33) rfl rfl ?_
  refine XS.iload X6.here hx rfl (hb hby d25_34) rfl ?_
  exact kz
 obtain ⟨_, _, ⟨T7, L7, k7, n7⟩, -, X7, ⟨Lc7, hQ7, l7, y7, z7⟩, st7⟩ := Jvm.LawKit.callS X6 hx (y := n_25) hown (mvT hZ (w_ hw 154 rfl)) (mvT hZ (w_ hw 155 rfl)) (mvT hZ (w_ hw 43 rfl)) (mvT hZ (w_ hw 156 rfl)) (by decide) (backOf (W := 0) (rlg l Z a0 hw [] va n ca si ka C sN c0 c1 c2 h0 n0 Z0 S.2.2.2 CB hs hbd nvc gb hn u0 u1 u2) hZ (w_ hw 156 rfl) (w_ hw 43 rfl) (by decide) (by decide)) (g := (mkF m 36 #[Vr a1, Vi 0, Vi n, Vr ca, Vi si] [(.int si), (.ref ca), (.int n), (.int 0), (.ref va)])) rfl (by rw [hml]; rfl) (argsL := [(.ref va), (.int 0), (.int n), (.ref ca), (.int si)]) (rest := []) (lenOf pd_13 rfl) rfl (ww_ rfl rfl) (hb hby d25_36) (fun _ _ => ⟨rfl, e6, (by decide : 0 + 0 ≤ _), (by decide : 0 + 0 ≤ _)⟩)
 dsimp only [Pt.U, Pt.locs, Pt.cells, Pt.slots] at X7 l7 y7 z7 st7 hQ7
 subst l7 y7 z7
 obtain ⟨rfl, N7, K7, B7⟩ := hQ7
 have Nf7 := Fr.app Nf5 N7
 refine Goes.via (st7) ?_
 refine Goes.via (S' := T7.setTop (mkF m 54 #[Vr a1, Vi 0, Vi n, Vr ca, Vi si] [])) (fun tz kz => ?_) ?_
 ·refine XS.goto X7.here hx rfl (pc0 := 39) (pc' := 54) rfl (hb hby d25_39) (by decide) (by decide) ?_
  exact kz
 exact Goes.retV X7 hx Bd.notSynchronized Bd.returns (hb hby d25_54) (nb_ rfl) (nb_ rfl) ⟨rfl, Nf7, K7, B7⟩
theorem own_EW {Z : State} {a0 : Array Value} (hw : ∀ d ∈ tables_1, d.before a0 Z = true) : EW Z a0 consts_1 := by
 intro p hp
 simp only [consts_1, List.mem_cons, List.not_mem_nil, or_false] at hp
 subst hp
 exact ⟨"", (w_ hw 6 rfl), by decide⟩
def own_c0 (x : Int32) : Int32 := ((((x.toUInt32 >>> ((2 : Int32) &&& 31).toUInt32).toInt32) &&& (255 : Int32)).toUInt32.toUInt16.toUInt32.toInt32)
theorem own_c0u (x : Int32) : own_u8 (own_c0 x) := (own_u8.and _).c
def own_c1 (x : Int32) : Int32 := ((((x.toUInt32 >>> ((10 : Int32) &&& 31).toUInt32).toInt32) &&& (255 : Int32)).toUInt32.toUInt16.toUInt32.toInt32)
theorem own_c1u (x : Int32) : own_u8 (own_c1 x) := (own_u8.and _).c
def own_c2 (x : Int32) : Int32 := ((((x.toUInt32 >>> ((18 : Int32) &&& 31).toUInt32).toInt32) &&& (255 : Int32)).toUInt32.toUInt16.toUInt32.toInt32)
theorem own_c2u (x : Int32) : own_u8 (own_c2 x) := (own_u8.and _).c
theorem d6_0 : De c_6 0 (.iconst 0) 1 := by decide +kernel
theorem d6_1 : De c_6 1 (.istore 5) 2 := by decide +kernel
theorem d6_3 : De c_6 3 (.iload 5) 2 := by decide +kernel
theorem d6_5 : De c_6 5 (.iload 4) 2 := by decide +kernel
theorem d6_7 : De c_6 7 (.if_icmp .ge 37) 3 := by decide +kernel
theorem d6_10 : De c_6 10 (.aload_n 0) 1 := by decide +kernel
theorem d6_11 : De c_6 11 (.iload_n 1) 1 := by decide +kernel
theorem d6_12 : De c_6 12 .caload 1 := by decide +kernel
theorem d6_13 : De c_6 13 (.istore 6) 2 := by decide +kernel
theorem d6_15 : De c_6 15 (.iload 6) 2 := by decide +kernel
theorem d6_17 : De c_6 17 (.sipush 255) 3 := by decide +kernel
theorem d6_20 : De c_6 20 (.if_icmp .le 6) 3 := by decide +kernel
theorem d6_26 : De c_6 26 (.aload_n 2) 1 := by decide +kernel
theorem d6_27 : De c_6 27 (.iload_n 3) 1 := by decide +kernel
theorem d6_28 : De c_6 28 (.iload 6) 2 := by decide +kernel
theorem d6_30 : De c_6 30 .i2b 1 := by decide +kernel
theorem d6_31 : De c_6 31 .bastore 1 := by decide +kernel
theorem d6_32 : De c_6 32 (.iinc 1 1) 3 := by decide +kernel
theorem d6_35 : De c_6 35 (.iinc 3 1) 3 := by decide +kernel
theorem d6_38 : De c_6 38 (.iinc 5 1) 3 := by decide +kernel
theorem d6_41 : De c_6 41 (.goto (-38)) 3 := by decide +kernel
theorem d6_44 : De c_6 44 (.iload 4) 2 := by decide +kernel
theorem d6_46 : De c_6 46 .ireturn 1 := by decide +kernel
theorem pn_6 : plainName "java/lang/StringUTF16" = true := by first | (simp [plainName, overriddenIn]; done) | decide +kernel
theorem ef_6 (m : MethodId) (x0 : Addr) (x1 : Int32) (x2 : Addr) (x3 : Int32) (x4 : Int32) : entryFrame m #[(.ref x0), (.int x1), (.ref x2), (.int x3), (.int x4)] 7 = mkF m 0 #[Vr x0, Vi x1, Vr x2, Vi x3, Vi x4, Vu, Vu] [] := by first | rfl | simp [entryFrame, mkF, argsToLocals, Value.category]
def Q_rc5_2 (Z : State) (ca : Addr) (bb : Addr) (ka kz : ClassId) (c0 c1 : Int32) (h0 : Heap) (n0 : Nat) : Option Value → Heap → List Loc → Prop := fun v h L => v = some (.int 2) ∧ Fr n0 L ∧ Keep h0 h [bb] ∧ Arv Z h bb kz .byte (2 : Int32) [.int (own_by c0), .int (own_by c1)] (.int 0)
theorem rc5_2 (l : Launch) (Z : State) (a0 : Array Value) (hw : ∀ d ∈ tables_1, d.before a0 Z = true) (ws : List Jvm.Cond) (ca : Addr) (bb : Addr) (ka kz : ClassId) (c0 c1 : Int32) (h0 : Heap) (n0 : Nat) (Z0 : n0 ≤ h0.size) (C0 : Arv Z h0 ca ka .char (2 : Int32) [.int c0, .int c1] (.int 0)) (B0 : Arv Z h0 bb kz .byte (2 : Int32) [.int 0, .int 0] (.int 0)) (gb : n0 ≤ bb) (nab : ca ≠ bb) (s0 : ¬ (255 : Int32) < c0) (s1 : ¬ (255 : Int32) < c1) :
  own_M l Z n_27 (Jvm.Cond.code n_27 jdk_52_method_21_code 7 (some .int)) ws (Rm 0 0 0 0) #[(.ref ca), (.int 0), (.ref bb), (.int 0), (.int 2)] h0 (Q_rc5_2 Z ca bb ka kz c0 c1 h0 n0) := by
 refine MetFree.of_bodySF (plainFor_of_name pn_6) hisR ?_
 intro p e s m args below meth c s₁ Bd hml0 hP hK
 obtain ⟨rfl, hZ, hh⟩ := hP
 have hx := Bd.exec
 have hby := Bd.bytes
 have hml : c.maxLocals = 7 := hml0
 have hown : s.vm.findClass "java/lang/StringUTF16" = some m.cls := findClass_of_methodNamed Bd.named
 have hnm := (name_of_methodNamed Bd.named Bd.method).1
 have X0 : Stand p l e (Rm 0 0 0 0) s m #[(.ref ca), (.int 0), (.ref bb), (.int 0), (.int 2)] below meth c s₁ [] 0 0 := Stand.of_body Bd
 have e0 : s₁.heap = h0 := by rw [← hh, Bd.state]; rfl
 have N0 := Fr.nil n0
 show Goes p e below (Fin s (Q_rc5_2 Z ca bb ka kz c0 c1 h0 n0) (Rm 0 0 0 0).cells (Rm 0 0 0 0).slots) _
 refine Goes.via (S' := s₁.setTop (mkF m 0 #[Vr ca, Vi 0, Vr bb, Vi 0, Vi 2, Vu, Vu] [])) (fun tz kz => castTop (ef_6 m ca (0 : Int32) bb (0 : Int32) (2 : Int32) ) kz) ?_
 refine Goes.via (S' := s₁.setTop (mkF m 12 #[Vr ca, Vi 0, Vr bb, Vi 0, Vi 2, Vi 0, Vu] [(.int 0), (.ref ca)])) (fun tz kz => ?_) ?_
 ·refine XS.iconst X0.here hx rfl (hb hby d6_0) ?_
  refine XS.istore X0.here hx rfl (hb hby d6_1) rfl (l' := #[Vr ca, Vi 0, Vr bb, Vi 0, Vi 2, Vi 0, Vu]) rfl ?_
  refine XS.iload X0.here hx rfl (hb hby d6_3) rfl ?_
  refine XS.iload X0.here hx rfl (hb hby d6_5) rfl ?_
  refine XS.icmpNo X0.here hx rfl (hb hby d6_7) rfl (tlt (by first | decide | rfl)).2.1 ?_
  refine XS.aloadN X0.here hx rfl (hb hby d6_10) rfl rfl ?_
  refine XS.iloadN X0.here hx rfl (hb hby d6_11) rfl ?_
  exact kz
 obtain ⟨cl1, Ar1, q1, Sz1, Nn1, Hs1, G1⟩ := (id C0)
 refine Goes.via (S' := s₁.setTop (mkF m 31 #[Vr ca, Vi 0, Vr bb, Vi 0, Vi 2, Vi 0, Vi c0] [(.int (c0.toInt8.toInt32)), (.int 0), (.ref bb)])) (fun tz kz => ?_) ?_
 ·refine X0.caload hx (j := (0 : Int32)) (v := (.int c0)) (by rw [e0]; exact Ar1.1) (State.isArrayOf_alike hZ.alike Ar1.2.1) Ar1.2.2 (inb_of Sz1 ⟨by decide, by decide⟩) (Has.at Hs1 (inb_of Sz1 ⟨by decide, by decide⟩) rfl) (g := (mkF m 12 #[Vr ca, Vi 0, Vr bb, Vi 0, Vi 2, Vi 0, Vu] [(.int 0), (.ref ca)])) rfl rfl (hb hby d6_12) _ ?_
  refine XS.istore X0.here hx rfl (hb hby d6_13) rfl (l' := #[Vr ca, Vi 0, Vr bb, Vi 0, Vi 2, Vi 0, Vi c0]) rfl ?_
  refine XS.iload X0.here hx rfl (hb hby d6_15) rfl ?_
  refine XS.sipush X0.here hx rfl (hb hby d6_17) ?_
  refine XS.icmpYes X0.here hx rfl (pc0 := 20) (pc' := 26) rfl (hb hby d6_20) rfl (flt s0).2.2.2 (by decide) (by decide) ?_
  refine XS.aloadN X0.here hx rfl (hb hby d6_26) rfl rfl ?_
  refine XS.iloadN X0.here hx rfl (hb hby d6_27) rfl ?_
  refine XS.iload X0.here hx rfl (hb hby d6_28) rfl ?_
  refine XS.i2b X0.here hx rfl (hb hby d6_30) rfl ?_
  exact kz
 obtain ⟨cl2, Ar2, q2, Sz2, Nn2, Hs2, G2⟩ := (id B0)
 obtain ⟨T3, h3, X3, e3, W3, st3⟩ := stB X0 hx hZ e0 Ar2 (j := (0 : Int32)) (inb_of Sz2 ⟨by decide, by decide⟩) (g := (mkF m 31 #[Vr ca, Vi 0, Vr bb, Vi 0, Vi 2, Vi 0, Vi c0] [(.int (c0.toInt8.toInt32)), (.int 0), (.ref bb)])) rfl rfl (hb hby d6_31)
 refine Goes.via st3 ?_
 have N3 := Fr.snoc X3 N0 gb
 have C3 := (C0).other W3 nab
 have A3 := Arv.set Ar2 q2 Sz2 Nn2 Hs2 G2 (fits_nar_byte _) W3 0 rfl (Nat.le_of_ble_eq_true rfl)
 have K3 := (Keep.refl h0 [bb]).wr W3 (Or.inl (List.mem_singleton.mpr rfl))
 refine Goes.via (S' := T3.setTop (mkF m 12 #[Vr ca, Vi 1, Vr bb, Vi 1, Vi 2, Vi 1, Vi c0] [(.int 1), (.ref ca)])) (fun tz kz => ?_) ?_
 ·refine XS.iinc X3.here hx rfl (hb hby d6_32) rfl (l' := #[Vr ca, Vi 1, Vr bb, Vi 0, Vi 2, Vi 0, Vi c0]) rfl ?_
  refine XS.iinc X3.here hx rfl (hb hby d6_35) rfl (l' := #[Vr ca, Vi 1, Vr bb, Vi 1, Vi 2, Vi 0, Vi c0]) rfl ?_
  refine XS.iinc X3.here hx rfl (hb hby d6_38) rfl (l' := #[Vr ca, Vi 1, Vr bb, Vi 1, Vi 2, Vi 1, Vi c0]) rfl ?_
  refine XS.goto X3.here hx rfl (pc0 := 41) (pc' := 3) rfl (hb hby d6_41) (by decide) (by decide) ?_
  refine XS.iload X3.here hx rfl (hb hby d6_3) rfl ?_
  refine XS.iload X3.here hx rfl (hb hby d6_5) rfl ?_
  refine XS.icmpNo X3.here hx rfl (hb hby d6_7) rfl (tlt (by first | decide | rfl)).2.1 ?_
  refine XS.aloadN X3.here hx rfl (hb hby d6_10) rfl rfl ?_
  refine XS.iloadN X3.here hx rfl (hb hby d6_11) rfl ?_
  exact kz
 obtain ⟨cl4, Ar4, q4, Sz4, Nn4, Hs4, G4⟩ := (id C3)
 refine Goes.via (S' := T3.setTop (mkF m 31 #[Vr ca, Vi 1, Vr bb, Vi 1, Vi 2, Vi 1, Vi c1] [(.int (c1.toInt8.toInt32)), (.int 1), (.ref bb)])) (fun tz kz => ?_) ?_
 ·refine X3.caload hx (j := (1 : Int32)) (v := (.int c1)) (by rw [e3]; exact Ar4.1) (State.isArrayOf_alike hZ.alike Ar4.2.1) Ar4.2.2 (inb_of Sz4 ⟨by decide, by decide⟩) (Has.at Hs4 (inb_of Sz4 ⟨by decide, by decide⟩) rfl) (g := (mkF m 12 #[Vr ca, Vi 1, Vr bb, Vi 1, Vi 2, Vi 1, Vi c0] [(.int 1), (.ref ca)])) rfl rfl (hb hby d6_12) _ ?_
  refine XS.istore X3.here hx rfl (hb hby d6_13) rfl (l' := #[Vr ca, Vi 1, Vr bb, Vi 1, Vi 2, Vi 1, Vi c1]) rfl ?_
  refine XS.iload X3.here hx rfl (hb hby d6_15) rfl ?_
  refine XS.sipush X3.here hx rfl (hb hby d6_17) ?_
  refine XS.icmpYes X3.here hx rfl (pc0 := 20) (pc' := 26) rfl (hb hby d6_20) rfl (flt s1).2.2.2 (by decide) (by decide) ?_
  refine XS.aloadN X3.here hx rfl (hb hby d6_26) rfl rfl ?_
  refine XS.iloadN X3.here hx rfl (hb hby d6_27) rfl ?_
  refine XS.iload X3.here hx rfl (hb hby d6_28) rfl ?_
  refine XS.i2b X3.here hx rfl (hb hby d6_30) rfl ?_
  exact kz
 obtain ⟨cl5, Ar5, q5, Sz5, Nn5, Hs5, G5⟩ := (id A3)
 obtain ⟨T6, h6, X6, e6, W6, st6⟩ := stB X3 hx hZ e3 Ar5 (j := (1 : Int32)) (inb_of Sz5 ⟨by decide, by decide⟩) (g := (mkF m 31 #[Vr ca, Vi 1, Vr bb, Vi 1, Vi 2, Vi 1, Vi c1] [(.int (c1.toInt8.toInt32)), (.int 1), (.ref bb)])) rfl rfl (hb hby d6_31)
 refine Goes.via st6 ?_
 have N6 := Fr.snoc X6 N3 gb
 have C6 := (C3).other W6 nab
 have A6 := Arv.set Ar5 q5 Sz5 Nn5 Hs5 G5 (fits_nar_byte _) W6 1 rfl (Nat.le_of_ble_eq_true rfl)
 have K6 := (K3).wr W6 (Or.inl (List.mem_singleton.mpr rfl))
 refine Goes.via (S' := T6.setTop (mkF m 46 #[Vr ca, Vi 2, Vr bb, Vi 2, Vi 2, Vi 2, Vi c1] [(.int 2)])) (fun tz kz => ?_) ?_
 ·refine XS.iinc X6.here hx rfl (hb hby d6_32) rfl (l' := #[Vr ca, Vi 2, Vr bb, Vi 1, Vi 2, Vi 1, Vi c1]) rfl ?_
  refine XS.iinc X6.here hx rfl (hb hby d6_35) rfl (l' := #[Vr ca, Vi 2, Vr bb, Vi 2, Vi 2, Vi 1, Vi c1]) rfl ?_
  refine XS.iinc X6.here hx rfl (hb hby d6_38) rfl (l' := #[Vr ca, Vi 2, Vr bb, Vi 2, Vi 2, Vi 2, Vi c1]) rfl ?_
  refine XS.goto X6.here hx rfl (pc0 := 41) (pc' := 3) rfl (hb hby d6_41) (by decide) (by decide) ?_
  refine XS.iload X6.here hx rfl (hb hby d6_3) rfl ?_
  refine XS.iload X6.here hx rfl (hb hby d6_5) rfl ?_
  refine XS.icmpYes X6.here hx rfl (pc0 := 7) (pc' := 44) rfl (hb hby d6_7) rfl (flt (by first | decide | rfl)).2.1 (by decide) (by decide) ?_
  refine XS.iload X6.here hx rfl (hb hby d6_44) rfl ?_
  exact kz
 exact Goes.retI X6 hx Bd.notSynchronized Bd.returns (hb hby d6_46) (nb_ rfl) (nb_ rfl) (by rw [e6]; exact ⟨rfl, N6, K6, A6⟩)
theorem d5_0 : De c_5 0 (.iload_n 2) 1 := by decide +kernel
theorem d5_1 : De c_5 1 (.newarray .byte) 2 := by decide +kernel
theorem d5_3 : De c_5 3 (.astore_n 3) 1 := by decide +kernel
theorem d5_4 : De c_5 4 (.aload_n 0) 1 := by decide +kernel
theorem d5_5 : De c_5 5 (.iload_n 1) 1 := by decide +kernel
theorem d5_6 : De c_5 6 (.aload_n 3) 1 := by decide +kernel
theorem d5_7 : De c_5 7 (.iconst 0) 1 := by decide +kernel
theorem d5_8 : De c_5 8 (.iload_n 2) 1 := by decide +kernel
theorem d5_9 : De c_5 9 (.invokestatic 115) 3 := by decide +kernel
theorem d5_12 : De c_5 12 (.istore 4) 2 := by decide +kernel
theorem d5_14 : De c_5 14 (.iload 4) 2 := by decide +kernel
theorem d5_16 : De c_5 16 (.iload_n 2) 1 := by decide +kernel
theorem d5_17 : De c_5 17 (.if_icmp .eq 40) 3 := by decide +kernel
theorem d5_57 : De c_5 57 (.aload_n 3) 1 := by decide +kernel
theorem d5_58 : De c_5 58 .areturn 1 := by decide +kernel
theorem pn_5 : plainName "java/lang/StringUTF16" = true := by first | (simp [plainName, overriddenIn]; done) | decide +kernel
theorem ef_5 (m : MethodId) (x0 : Addr) (x1 : Int32) (x2 : Int32) : entryFrame m #[(.ref x0), (.int x1), (.int x2)] 6 = mkF m 0 #[Vr x0, Vi x1, Vi x2, Vu, Vu, Vu] [] := by first | rfl | simp [entryFrame, mkF, argsToLocals, Value.category]
def Q_rc3_2 (Z : State) (ca : Addr) (ka : ClassId) (c0 c1 : Int32) (h0 : Heap) (n0 : Nat) : Option Value → Heap → List Loc → Prop := fun v h L => ∃ b k, v = some (.ref b) ∧ Fr n0 L ∧ Keep h0 h [] ∧ Arv Z h b k .byte (2 : Int32) [.int (own_by c0), .int (own_by c1)] (.int 0) ∧ @LE.le Nat _ h0.size b
theorem rc3_2 (l : Launch) (Z : State) (a0 : Array Value) (hw : ∀ d ∈ tables_1, d.before a0 Z = true) (ws : List Jvm.Cond) (ca : Addr) (ka : ClassId) (c0 c1 : Int32) (h0 : Heap) (n0 : Nat) (Z0 : n0 ≤ h0.size) (C0 : Arv Z h0 ca ka .char (2 : Int32) [.int c0, .int c1] (.int 0)) (s0 : ¬ (255 : Int32) < c0) (s1 : ¬ (255 : Int32) < c1) :
  own_M l Z n_28 (Jvm.Cond.code n_28 jdk_52_method_16_code 6 (some (.array .byte))) ws (Rm 1 1 2 20) #[(.ref ca), (.int 0), (.int 2)] h0 (Q_rc3_2 Z ca ka c0 c1 h0 n0) := by
 refine MetFree.of_bodySF (plainFor_of_name pn_5) hisR ?_
 intro p e s m args below meth c s₁ Bd hml0 hP hK
 obtain ⟨rfl, hZ, hh⟩ := hP
 have hx := Bd.exec
 have hby := Bd.bytes
 have hml : c.maxLocals = 6 := hml0
 have hown : s.vm.findClass "java/lang/StringUTF16" = some m.cls := findClass_of_methodNamed Bd.named
 have hnm := (name_of_methodNamed Bd.named Bd.method).1
 have X0 : Stand p l e (Rm 1 1 2 20) s m #[(.ref ca), (.int 0), (.int 2)] below meth c s₁ [] 0 0 := Stand.of_body Bd
 have e0 : s₁.heap = h0 := by rw [← hh, Bd.state]; rfl
 have N0 := Fr.nil n0
 show Goes p e below (Fin s (Q_rc3_2 Z ca ka c0 c1 h0 n0) (Rm 1 1 2 20).cells (Rm 1 1 2 20).slots) _
 refine Goes.via (S' := s₁.setTop (mkF m 0 #[Vr ca, Vi 0, Vi 2, Vu, Vu, Vu] [])) (fun tz kz => castTop (ef_5 m ca (0 : Int32) (2 : Int32) ) kz) ?_
 refine Goes.via (S' := s₁.setTop (mkF m 1 #[Vr ca, Vi 0, Vi 2, Vu, Vu, Vu] [(.int 2)])) (fun tz kz => ?_) ?_
 ·refine XS.iloadN X0.here hx rfl (hb hby d5_0) rfl ?_
  exact kz
 obtain ⟨T1, h1, k1, X1, e1, E1, A1, st1⟩ := newP X0 hx hZ (w_ hw 9 rfl) e0 (g := (mkF m 1 #[Vr ca, Vi 0, Vi 2, Vu, Vu, Vu] [(.int 2)])) rfl (hb hby d5_1) rfl (by decide) (cap := 2) (by decide) (by decide) (by decide) (by decide)
 obtain ⟨b1, g1⟩ : ∃ z, z = h0.size := ⟨_, rfl⟩
 rw [← g1] at A1 st1
 refine Goes.via st1 ?_
 have B1 : Arv Z h1 b1 k1 .byte (2 : Int32) [.int 0, .int 0] (.int 0) := (Arv.new A1 (by decide)).pad (pad_rep [] (.int 0) 2)
 have nab : ca ≠ b1 := adr_ne C0.lt g1 (Nat.le_refl _)
 have gb : n0 ≤ b1 := Nat.le_trans Z0 (Nat.le_of_eq g1.symm)
 refine Goes.via (S' := T1.setTop (mkF m 9 #[Vr ca, Vi 0, Vi 2, Vr b1, Vu, Vu] [(.int 2), (.int 0), (.ref b1), (.int 0), (.ref ca)])) (fun tz kz => ?_) ?_
 ·refine XS.astoreN X1.here hx rfl (hb hby d5_3) rfl rfl (l' := #[Vr ca, Vi 0, Vi 2, Vr b1, Vu, Vu]) rfl ?_
  refine XS.aloadN X1.here hx rfl (hb hby d5_4) rfl rfl ?_
  refine XS.iloadN X1.here hx rfl (hb hby d5_5) rfl ?_
  refine XS.aloadN X1.here hx rfl (hb hby d5_6) rfl rfl ?_
  refine XS.iconst X1.here hx rfl (hb hby d5_7) ?_
  refine XS.iloadN X1.here hx rfl (hb hby d5_8) rfl ?_
  exact kz
 obtain ⟨_, _, ⟨T2, L2, k2, n2⟩, -, X2, ⟨Lc2, hQ2, l2, y2, z2⟩, st2⟩ := Jvm.LawKit.callS X1 hx (y := n_27) hown (mvT hZ (w_ hw 30 rfl)) (mvT hZ (w_ hw 31 rfl)) (mvT hZ (w_ hw 28 rfl)) (mvT hZ (w_ hw 32 rfl)) (by decide) (backOf (W := 0) (rc5_2 l Z a0 hw [] ca b1 ka k1 c0 c1 h1 n0 (Nat.le_trans Z0 E1.1) (C0.ext E1) B1 gb nab s0 s1) hZ (w_ hw 32 rfl) (w_ hw 28 rfl) (by decide) (by decide)) (g := (mkF m 9 #[Vr ca, Vi 0, Vi 2, Vr b1, Vu, Vu] [(.int 2), (.int 0), (.ref b1), (.int 0), (.ref ca)])) rfl (by rw [hml]; rfl) (argsL := [(.ref ca), (.int 0), (.ref b1), (.int 0), (.int 2)]) (rest := []) (lenOf pd_14 rfl) rfl (ww_ rfl rfl) (hb hby d5_9) (fun _ _ => ⟨rfl, e1, (by decide : 1 + 0 ≤ _), (by decide : 2 + 0 ≤ _)⟩)
 dsimp only [Pt.U, Pt.locs, Pt.cells, Pt.slots] at X2 l2 y2 z2 st2 hQ2
 subst l2 y2 z2
 obtain ⟨rfl, N2, K2, B2⟩ := hQ2
 have Nf2 := Fr.app N0 N2
 refine Goes.via (st2) ?_
 refine Goes.via (S' := T2.setTop (mkF m 58 #[Vr ca, Vi 0, Vi 2, Vr b1, Vi 2, Vu] [(.ref b1)])) (fun tz kz => ?_) ?_
 ·refine XS.istore X2.here hx rfl (hb hby d5_12) rfl (l' := #[Vr ca, Vi 0, Vi 2, Vr b1, Vi 2, Vu]) rfl ?_
  refine XS.iload X2.here hx rfl (hb hby d5_14) rfl ?_
  refine XS.iloadN X2.here hx rfl (hb hby d5_16) rfl ?_
  refine XS.icmpYes X2.here hx rfl (pc0 := 17) (pc' := 57) rfl (hb hby d5_17) rfl (teq (by first | decide | rfl)).1 (by decide) (by decide) ?_
  refine XS.aloadN X2.here hx rfl (hb hby d5_57) rfl rfl ?_
  exact kz
 exact Goes.retO X2 hx Bd.notSynchronized Bd.returns rfl (Or.inr (Or.inr (Or.inr (Or.inr ⟨rfl, rfl, rfl⟩)))) (hb hby d5_58) (nb_ rfl) (nb_ rfl) ⟨b1, k1, rfl, Nf2, (Keep.refl h0 []).ext E1 |>.trans K2 (allS (Or.inr (Nat.le_of_eq g1.symm)) all0), B2, Nat.le_of_eq g1.symm⟩
theorem d7_0 : De c_7 0 (.iload_n 1) 1 := by decide +kernel
theorem d7_1 : De c_7 1 (.aload_n 0) 1 := by decide +kernel
theorem d7_2 : De c_7 2 .arraylength 1 := by decide +kernel
theorem d7_3 : De c_7 3 .isub 1 := by decide +kernel
theorem d7_4 : De c_7 4 (.bipush 31) 2 := by decide +kernel
theorem d7_6 : De c_7 6 .iushr 1 := by decide +kernel
theorem d7_7 : De c_7 7 .i2b 1 := by decide +kernel
theorem d7_8 : De c_7 8 .ireturn 1 := by decide +kernel
theorem pn_7 : plainName "java/lang/StringUTF16" = true := by first | (simp [plainName, overriddenIn]; done) | decide +kernel
theorem ef_7 (m : MethodId) (x0 : Addr) (x1 : Int32) : entryFrame m #[(.ref x0), (.int x1)] 2 = mkF m 0 #[Vr x0, Vi x1] [] := by first | rfl | simp [entryFrame, mkF, argsToLocals, Value.category]
def Q_rcc_2 (Z : State) (bb : Addr) (k : ClassId) (vs : List Value) (h0 : Heap) (n0 : Nat) : Option Value → Heap → List Loc → Prop := fun v h L => v = some (.int 0) ∧ Fr n0 L ∧ h = h0
theorem rcc_2 (l : Launch) (Z : State) (a0 : Array Value) (hw : ∀ d ∈ tables_1, d.before a0 Z = true) (ws : List Jvm.Cond) (bb : Addr) (k : ClassId) (vs : List Value) (h0 : Heap) (n0 : Nat) (Z0 : n0 ≤ h0.size) (B0 : Arv Z h0 bb k .byte (2 : Int32) vs (.int 0)) :
  own_M l Z n_29 (Jvm.Cond.code n_29 jdk_52_method_15_code 2 (some .byte)) ws (Rm 0 0 0 0) #[(.ref bb), (.int 2)] h0 (Q_rcc_2 Z bb k vs h0 n0) := by
 refine MetFree.of_bodySF (plainFor_of_name pn_7) hisR ?_
 intro p e s m args below meth c s₁ Bd hml0 hP hK
 obtain ⟨rfl, hZ, hh⟩ := hP
 have hx := Bd.exec
 have hby := Bd.bytes
 have hml : c.maxLocals = 2 := hml0
 have hown : s.vm.findClass "java/lang/StringUTF16" = some m.cls := findClass_of_methodNamed Bd.named
 have hnm := (name_of_methodNamed Bd.named Bd.method).1
 have X0 : Stand p l e (Rm 0 0 0 0) s m #[(.ref bb), (.int 2)] below meth c s₁ [] 0 0 := Stand.of_body Bd
 have e0 : s₁.heap = h0 := by rw [← hh, Bd.state]; rfl
 have N0 := Fr.nil n0
 show Goes p e below (Fin s (Q_rcc_2 Z bb k vs h0 n0) (Rm 0 0 0 0).cells (Rm 0 0 0 0).slots) _
 refine Goes.via (S' := s₁.setTop (mkF m 0 #[Vr bb, Vi 2] [])) (fun tz kz => castTop (ef_7 m bb (2 : Int32) ) kz) ?_
 refine Goes.via (S' := s₁.setTop (mkF m 2 #[Vr bb, Vi 2] [(.ref bb), (.int 2)])) (fun tz kz => ?_) ?_
 ·refine XS.iloadN X0.here hx rfl (hb hby d7_0) rfl ?_
  refine XS.aloadN X0.here hx rfl (hb hby d7_1) rfl rfl ?_
  exact kz
 obtain ⟨cl1, Ar1, q1, Sz1, Nn1, Hs1, G1⟩ := (id B0)
 refine Goes.via (S' := s₁.setTop (mkF m 8 #[Vr bb, Vi 2] [(.int ((((0 : Int32).toUInt32 >>> ((31 : Int32) &&& 31).toUInt32).toInt32).toInt8.toInt32))])) (fun tz kz => ?_) ?_
 ·refine X0.arraylength hx (by rw [e0]; exact Ar1.1) (State.isArrayOf_alike hZ.alike Ar1.2.1) (g := (mkF m 2 #[Vr bb, Vi 2] [(.ref bb), (.int 2)])) rfl rfl (hb hby d7_2) _ ?_
  rw [len_of Sz1 Nn1]
  refine XS.isub X0.here hx rfl (hb hby d7_3) rfl ?_
  refine XS.bipush X0.here hx rfl (hb hby d7_4) ?_
  refine XS.iushr X0.here hx rfl (hb hby d7_6) rfl ?_
  refine XS.i2b X0.here hx rfl (hb hby d7_7) rfl ?_
  exact kz
 exact Goes.retN X0 hx Bd.notSynchronized (t := .byte) Bd.returns (by simp) (hb hby d7_8) (nb_ rfl) (nb_ rfl) ⟨congrArg (fun z => some (Value.int z)) (by decide), N0, e0⟩
theorem d3_0 : De c_3 0 (.aload_n 0) 1 := by decide +kernel
theorem d3_1 : De c_3 1 (.invokespecial 1) 3 := by decide +kernel
theorem d3_4 : De c_3 4 (.iload_n 3) 1 := by decide +kernel
theorem d3_5 : De c_3 5 (.ifCond .ne 22) 3 := by decide +kernel
theorem d3_27 : De c_3 27 (.getstatic 38) 3 := by decide +kernel
theorem d3_30 : De c_3 30 (.ifCond .eq 28) 3 := by decide +kernel
theorem d3_33 : De c_3 33 (.aload_n 1) 1 := by decide +kernel
theorem d3_34 : De c_3 34 (.iload_n 2) 1 := by decide +kernel
theorem d3_35 : De c_3 35 (.iload_n 3) 1 := by decide +kernel
theorem d3_36 : De c_3 36 (.invokestatic 177) 3 := by decide +kernel
theorem d3_39 : De c_3 39 (.astore 5) 2 := by decide +kernel
theorem d3_41 : De c_3 41 (.aload_n 0) 1 := by decide +kernel
theorem d3_42 : De c_3 42 (.aload 5) 2 := by decide +kernel
theorem d3_44 : De c_3 44 (.iload_n 3) 1 := by decide +kernel
theorem d3_45 : De c_3 45 (.invokestatic 47) 3 := by decide +kernel
theorem d3_48 : De c_3 48 (.putfield 15) 3 := by decide +kernel
theorem d3_51 : De c_3 51 (.aload_n 0) 1 := by decide +kernel
theorem d3_52 : De c_3 52 (.aload 5) 2 := by decide +kernel
theorem d3_54 : De c_3 54 (.putfield 9) 3 := by decide +kernel
theorem d3_57 : De c_3 57 .return_ 1 := by decide +kernel
theorem pn_3 : plainName "java/lang/String" = true := by first | (simp [plainName, overriddenIn]; done) | decide +kernel
theorem ef_3 (m : MethodId) (x0 : Addr) (x1 : Addr) (x2 : Int32) (x3 : Int32) : entryFrame m #[(.ref x0), (.ref x1), (.int x2), (.int x3), .null] 6 = mkF m 0 #[Vr x0, Vr x1, Vi x2, Vi x3, .val .null, Vu] [] := by first | rfl | simp [entryFrame, mkF, argsToLocals, Value.category]
def Q_rn4_2 (Z : State) (a1 : Addr) (ca : Addr) (cs : Int32) (ka : ClassId) (c0 c1 : Int32) (h0 : Heap) (n0 : Nat) : Option Value → Heap → List Loc → Prop := fun v h L => v = none ∧ Fr n0 L ∧ Keep h0 h [a1] ∧ ∃ b k, own_Str Z h a1 b k (2 : Int32) [.int (own_by c0), .int (own_by c1)] ∧ @LE.le Nat _ h0.size b
theorem rn4_2 (l : Launch) (Z : State) (a0 : Array Value) (hw : ∀ d ∈ tables_1, d.before a0 Z = true) (ws : List Jvm.Cond) (a1 : Addr) (ca : Addr) (cs : Int32) (ka : ClassId) (c0 c1 : Int32) (h0 : Heap) (n0 : Nat) (Z0 : n0 ≤ h0.size) (SC : Sta Z Z.heap "java/lang/String" "COMPACT_STRINGS" "Z" (.int cs)) (hcs : ¬ cs = (0 : Int32)) (O0 : Old Z n0 h0) (FV : Fld Z h0 a1 "java/lang/String" "value" "[B" .null) (FC : Fld Z h0 a1 "java/lang/String" "coder" "B" (.int 0)) (E1 : Exa Z h0 a1 "java/lang/String") (g1 : n0 ≤ a1) (C0 : Arv Z h0 ca ka .char (2 : Int32) [.int c0, .int c1] (.int 0)) (s0 : ¬ (255 : Int32) < c0) (s1 : ¬ (255 : Int32) < c1) :
  own_M l Z n_30 (Jvm.Cond.code n_30 jdk_42_method_149_code 6 none) ws (Rm 2 1 2 40) #[(.ref a1), (.ref ca), (.int 0), (.int 2), .null] h0 (Q_rn4_2 Z a1 ca cs ka c0 c1 h0 n0) := by
 refine MetFree.of_bodySF (plainFor_of_name pn_3) hisR ?_
 intro p e s m args below meth c s₁ Bd hml0 hP hK
 obtain ⟨rfl, hZ, hh⟩ := hP
 have hx := Bd.exec
 have hby := Bd.bytes
 have hml : c.maxLocals = 6 := hml0
 have hown : s.vm.findClass "java/lang/String" = some m.cls := findClass_of_methodNamed Bd.named
 have hnm := (name_of_methodNamed Bd.named Bd.method).1
 have X0 : Stand p l e (Rm 2 1 2 40) s m #[(.ref a1), (.ref ca), (.int 0), (.int 2), .null] below meth c s₁ [] 0 0 := Stand.of_body Bd
 have e0 : s₁.heap = h0 := by rw [← hh, Bd.state]; rfl
 have N0 := Fr.nil n0
 show Goes p e below (Fin s (Q_rn4_2 Z a1 ca cs ka c0 c1 h0 n0) (Rm 2 1 2 40).cells (Rm 2 1 2 40).slots) _
 refine Goes.via (S' := s₁.setTop (mkF m 0 #[Vr a1, Vr ca, Vi 0, Vi 2, .val .null, Vu] [])) (fun tz kz => castTop (ef_3 m a1 ca (0 : Int32) (2 : Int32) ) kz) ?_
 refine Goes.via (S' := s₁.setTop (mkF m 1 #[Vr a1, Vr ca, Vi 0, Vi 2, .val .null, Vu] [(.ref a1)])) (fun tz kz => ?_) ?_
 ·refine XS.aloadN X0.here hx rfl (hb hby d3_0) rfl rfl ?_
  exact kz
 obtain ⟨T1, X1, e1, st1⟩ := initO X0 hx hZ hown (w_ hw 22 rfl) (w_ hw 23 rfl) (w_ hw 24 rfl) e0 (g := (mkF m 1 #[Vr a1, Vr ca, Vi 0, Vi 2, .val .null, Vu] [(.ref a1)])) rfl (by rw [hml]; rfl) rfl (hb hby d3_1) (by decide) (W := 0) (ww_ rfl rfl) (by decide)
 refine Goes.via st1 ?_
 refine Goes.via (S' := T1.setTop (mkF m 27 #[Vr a1, Vr ca, Vi 0, Vi 2, .val .null, Vu] [])) (fun tz kz => ?_) ?_
 ·refine XS.iloadN X1.here hx rfl (hb hby d3_4) rfl ?_
  refine XS.ifYes X1.here hx rfl (pc0 := 5) (pc' := 27) rfl (hb hby d3_5) rfl ((if0 _ _).trans (feq (by first | decide | rfl)).2) (by decide) (by decide) ?_
  exact kz
 obtain ⟨T2, X2, e2, st2⟩ := getS2 X1 hx hZ hown (host := "") (Or.inl (w_ hw 25 rfl)) Via.refl e1 (SC.ext O0.2) (g := (mkF m 27 #[Vr a1, Vr ca, Vi 0, Vi 2, .val .null, Vu] [])) rfl (hb hby d3_27)
 refine Goes.via st2 ?_
 refine Goes.via (S' := T2.setTop (mkF m 36 #[Vr a1, Vr ca, Vi 0, Vi 2, .val .null, Vu] [(.int 2), (.int 0), (.ref ca)])) (fun tz kz => ?_) ?_
 ·refine XS.ifNo X2.here hx rfl (hb hby d3_30) rfl ((if0 _ _).trans (feq hcs).1) ?_
  refine XS.aloadN X2.here hx rfl (hb hby d3_33) rfl rfl ?_
  refine XS.iloadN X2.here hx rfl (hb hby d3_34) rfl ?_
  refine XS.iloadN X2.here hx rfl (hb hby d3_35) rfl ?_
  exact kz
 obtain ⟨_, _, ⟨T3, L3, k3, n3⟩, -, X3, ⟨Lc3, hQ3, l3, y3, z3⟩, st3⟩ := Jvm.LawKit.callS X2 hx (y := n_28) hown (mvT hZ (w_ hw 26 rfl)) (mvT hZ (w_ hw 27 rfl)) (mvT hZ (w_ hw 28 rfl)) (mvT hZ (w_ hw 29 rfl)) (by decide) (backOf (W := 0) (rc3_2 l Z a0 hw [] ca ka c0 c1 h0 n0 Z0 C0 s0 s1) hZ (w_ hw 29 rfl) (w_ hw 28 rfl) (by decide) (by decide)) (g := (mkF m 36 #[Vr a1, Vr ca, Vi 0, Vi 2, .val .null, Vu] [(.int 2), (.int 0), (.ref ca)])) rfl (by rw [hml]; rfl) (argsL := [(.ref ca), (.int 0), (.int 2)]) (rest := []) (lenOf pd_15 rfl) rfl (ww_ rfl rfl) (hb hby d3_36) (fun _ _ => ⟨rfl, e2, (by decide : 0 + 1 ≤ _), (by decide : 0 + 2 ≤ _)⟩)
 dsimp only [Pt.U, Pt.locs, Pt.cells, Pt.slots] at X3 l3 y3 z3 st3 hQ3
 subst l3 y3 z3
 obtain ⟨vb, kb, rfl, N3, K3, B3, gv⟩ := hQ3
 have Nf3 := Fr.app N0 N3
 refine Goes.via (st3) ?_
 refine Goes.via (S' := T3.setTop (mkF m 45 #[Vr a1, Vr ca, Vi 0, Vi 2, .val .null, Vr vb] [(.int 2), (.ref vb), (.ref a1)])) (fun tz kz => ?_) ?_
 ·refine XS.astore X3.here hx rfl (hb hby d3_39) rfl rfl (l' := #[Vr a1, Vr ca, Vi 0, Vi 2, .val .null, Vr vb]) rfl ?_
  refine XS.aloadN X3.here hx rfl (hb hby d3_41) rfl rfl ?_
  refine XS.aload X3.here hx rfl (hb hby d3_42) rfl rfl ?_
  refine XS.iloadN X3.here hx rfl (hb hby d3_44) rfl ?_
  exact kz
 obtain ⟨_, _, ⟨T4, L4, k4, n4⟩, -, X4, ⟨Lc4, hQ4, l4, y4, z4⟩, st4⟩ := Jvm.LawKit.callS X3 hx (y := n_29) hown (mvT hZ (w_ hw 33 rfl)) (mvT hZ (w_ hw 34 rfl)) (mvT hZ (w_ hw 28 rfl)) (mvT hZ (w_ hw 35 rfl)) (by decide) (backOf (W := 1) (rcc_2 l Z a0 hw [] vb kb _ T3.heap n0 (Nat.le_trans Z0 K3.1) B3) hZ (w_ hw 35 rfl) (w_ hw 28 rfl) (by decide) (by decide)) (g := (mkF m 45 #[Vr a1, Vr ca, Vi 0, Vi 2, .val .null, Vr vb] [(.int 2), (.ref vb), (.ref a1)])) rfl (by rw [hml]; rfl) (argsL := [(.ref vb), (.int 2)]) (rest := [(.ref a1)]) (lenOf pd_16 rfl) rfl (ww_ rfl rfl) (hb hby d3_45) (fun _ _ => ⟨rfl, rfl, (by decide : 1 + 0 ≤ _), (by decide : 2 + 0 ≤ _)⟩)
 dsimp only [Pt.U, Pt.locs, Pt.cells, Pt.slots] at X4 l4 y4 z4 st4 hQ4
 subst l4 y4 z4
 obtain ⟨rfl, N4, e4⟩ := hQ4
 have Nf4 := Fr.app Nf3 N4
 refine Goes.via (st4) ?_
 have Ea := E1.keep K3
 have GV := FV.keep K3 nin0
 have GC := FC.keep K3 nin0
 have nb : a1 ≠ vb := Nat.ne_of_lt (Nat.lt_of_lt_of_le E1.lt gv)
 obtain ⟨T5, h5, X5, e5, W5, st5⟩ := putFN X4 hx hZ hown (w_ hw 36 rfl) Via.refl e4 GC Ea (Or.inr ⟨(w_ hw 11 rfl), rfl, hnm⟩) (w_ hw 8 rfl) (ty := .byte) (v' := (.int (nar .byte (0 : Int32)))) (by decide) rfl (fits_nar_byte _) (g := (mkF m 48 #[Vr a1, Vr ca, Vi 0, Vi 2, .val .null, Vr vb] [(.int 0), (.ref a1)])) rfl rfl (hb hby d3_48)
 refine Goes.via st5 ?_
 have N5 := Fr.snoc X5 Nf4 g1
 have HC : Fld Z h5 a1 "java/lang/String" "coder" "B" (.int 0) := GC.same W5
 have HV := GV.other W5 (Or.inr (slot_ne (Or.inr (w_ hw 10 rfl)) (Or.inr (w_ hw 11 rfl)) (by decide) (t := (.array .byte)) (t' := .byte) (by decide) (by decide)))
 have Eb := Ea.wr W5
 have Bb := B3.other W5 (Ne.symm nb)
 refine Goes.via (S' := T5.setTop (mkF m 54 #[Vr a1, Vr ca, Vi 0, Vi 2, .val .null, Vr vb] [(.ref vb), (.ref a1)])) (fun tz kz => ?_) ?_
 ·refine XS.aloadN X5.here hx rfl (hb hby d3_51) rfl rfl ?_
  refine XS.aload X5.here hx rfl (hb hby d3_52) rfl rfl ?_
  exact kz
 obtain ⟨T6, h6, X6, e6, W6, st6⟩ := putF X5 hx hZ hown (host := "") (Or.inl (w_ hw 37 rfl)) Via.refl e5 HV Eb (Or.inr ⟨(w_ hw 10 rfl), rfl, hnm⟩) (w_ hw 8 rfl) (ty := (.array .byte)) (by decide) rfl rfl (g := (mkF m 54 #[Vr a1, Vr ca, Vi 0, Vi 2, .val .null, Vr vb] [(.ref vb), (.ref a1)])) rfl rfl (hb hby d3_54)
 refine Goes.via st6 ?_
 have N6 := Fr.snoc X6 N5 g1
 have JV := HV.same W6
 have JC := HC.other W6 (Or.inr (slot_ne (Or.inr (w_ hw 11 rfl)) (Or.inr (w_ hw 10 rfl)) (by decide) (t := .byte) (t' := (.array .byte)) (by decide) (by decide)))
 have Ec := Eb.wr W6
 have Bc := Bb.other W6 (Ne.symm nb)
 have Kq : Keep h0 h6 [a1] := (((Keep.refl h0 [a1]).trans K3 all0).wr W5 (Or.inl (List.mem_singleton.mpr rfl))).wr W6 (Or.inl (List.mem_singleton.mpr rfl))
 exact Goes.retV X6 hx Bd.notSynchronized Bd.returns (hb hby d3_57) (nb_ rfl) (nb_ rfl) (by rw [e6]; exact ⟨rfl, N6, Kq, vb, kb, ⟨Ec, JC, JV, Bc⟩, gv⟩)
theorem d2_0 : De c_2 0 (.aload_n 0) 1 := by decide +kernel
theorem d2_1 : De c_2 1 (.aload_n 1) 1 := by decide +kernel
theorem d2_2 : De c_2 2 (.iconst 0) 1 := by decide +kernel
theorem d2_3 : De c_2 3 (.aload_n 1) 1 := by decide +kernel
theorem d2_4 : De c_2 4 .arraylength 1 := by decide +kernel
theorem d2_5 : De c_2 5 .aconst_null 1 := by decide +kernel
theorem d2_6 : De c_2 6 (.invokespecial 27) 3 := by decide +kernel
theorem d2_9 : De c_2 9 .return_ 1 := by decide +kernel
theorem pn_2 : plainName "java/lang/String" = true := by first | (simp [plainName, overriddenIn]; done) | decide +kernel
theorem ef_2 (m : MethodId) (x0 : Addr) (x1 : Addr) : entryFrame m #[(.ref x0), (.ref x1)] 2 = mkF m 0 #[Vr x0, Vr x1] [] := by first | rfl | simp [entryFrame, mkF, argsToLocals, Value.category]
def Q_rn1_2 (Z : State) (a1 : Addr) (ca : Addr) (cs : Int32) (ka : ClassId) (c0 c1 : Int32) (h0 : Heap) (n0 : Nat) : Option Value → Heap → List Loc → Prop := fun v h L => v = none ∧ Fr n0 L ∧ Keep h0 h [a1] ∧ ∃ b k, own_Str Z h a1 b k (2 : Int32) [.int (own_by c0), .int (own_by c1)] ∧ @LE.le Nat _ h0.size b
theorem rn1_2 (l : Launch) (Z : State) (a0 : Array Value) (hw : ∀ d ∈ tables_1, d.before a0 Z = true) (ws : List Jvm.Cond) (a1 : Addr) (ca : Addr) (cs : Int32) (ka : ClassId) (c0 c1 : Int32) (h0 : Heap) (n0 : Nat) (Z0 : n0 ≤ h0.size) (SC : Sta Z Z.heap "java/lang/String" "COMPACT_STRINGS" "Z" (.int cs)) (hcs : ¬ cs = (0 : Int32)) (O0 : Old Z n0 h0) (FV : Fld Z h0 a1 "java/lang/String" "value" "[B" .null) (FC : Fld Z h0 a1 "java/lang/String" "coder" "B" (.int 0)) (E1 : Exa Z h0 a1 "java/lang/String") (g1 : n0 ≤ a1) (C0 : Arv Z h0 ca ka .char (2 : Int32) [.int c0, .int c1] (.int 0)) (s0 : ¬ (255 : Int32) < c0) (s1 : ¬ (255 : Int32) < c1) :
  own_M l Z n_31 (Jvm.Cond.code n_31 jdk_42_method_3_code 2 none) ws (Rm 3 1 2 60) #[(.ref a1), (.ref ca)] h0 (Q_rn1_2 Z a1 ca cs ka c0 c1 h0 n0) := by
 refine MetFree.of_bodySF (plainFor_of_name pn_2) hisR ?_
 intro p e s m args below meth c s₁ Bd hml0 hP hK
 obtain ⟨rfl, hZ, hh⟩ := hP
 have hx := Bd.exec
 have hby := Bd.bytes
 have hml : c.maxLocals = 2 := hml0
 have hown : s.vm.findClass "java/lang/String" = some m.cls := findClass_of_methodNamed Bd.named
 have hnm := (name_of_methodNamed Bd.named Bd.method).1
 have X0 : Stand p l e (Rm 3 1 2 60) s m #[(.ref a1), (.ref ca)] below meth c s₁ [] 0 0 := Stand.of_body Bd
 have e0 : s₁.heap = h0 := by rw [← hh, Bd.state]; rfl
 have N0 := Fr.nil n0
 show Goes p e below (Fin s (Q_rn1_2 Z a1 ca cs ka c0 c1 h0 n0) (Rm 3 1 2 60).cells (Rm 3 1 2 60).slots) _
 refine Goes.via (S' := s₁.setTop (mkF m 0 #[Vr a1, Vr ca] [])) (fun tz kz => castTop (ef_2 m a1 ca ) kz) ?_
 refine Goes.via (S' := s₁.setTop (mkF m 4 #[Vr a1, Vr ca] [(.ref ca), (.int 0), (.ref ca), (.ref a1)])) (fun tz kz => ?_) ?_
 ·refine XS.aloadN X0.here hx rfl (hb hby d2_0) rfl rfl ?_
  refine XS.aloadN X0.here hx rfl (hb hby d2_1) rfl rfl ?_
  refine XS.iconst X0.here hx rfl (hb hby d2_2) ?_
  refine XS.aloadN X0.here hx rfl (hb hby d2_3) rfl rfl ?_
  exact kz
 obtain ⟨cl1, Ar1, q1, Sz1, Nn1, Hs1, G1⟩ := (id C0)
 refine Goes.via (S' := s₁.setTop (mkF m 6 #[Vr a1, Vr ca] [.null, (.int 2), (.int 0), (.ref ca), (.ref a1)])) (fun tz kz => ?_) ?_
 ·refine X0.arraylength hx (by rw [e0]; exact Ar1.1) (State.isArrayOf_alike hZ.alike Ar1.2.1) (g := (mkF m 4 #[Vr a1, Vr ca] [(.ref ca), (.int 0), (.ref ca), (.ref a1)])) rfl rfl (hb hby d2_4) _ ?_
  rw [len_of Sz1 Nn1]
  refine XS.aconstNull X0.here hx rfl (hb hby d2_5) ?_
  exact kz
 obtain ⟨_, _, ⟨T2, L2, k2, n2⟩, -, X2, ⟨Lc2, hQ2, l2, y2, z2⟩, st2⟩ := X0.specialBack hx (y := n_30) rfl hown (mvT hZ (w_ hw 19 rfl)) (mvT hZ (w_ hw 20 rfl)) (mvT hZ (w_ hw 21 rfl)) (by decide) (backOf (W := 0) (rn4_2 l Z a0 hw [] a1 ca cs ka c0 c1 h0 n0 Z0 SC hcs O0 FV FC E1 g1 C0 s0 s1) hZ (w_ hw 21 rfl) (w_ hw 7 rfl) (by decide) (by decide)) (g := (mkF m 6 #[Vr a1, Vr ca] [.null, (.int 2), (.int 0), (.ref ca), (.ref a1)])) rfl (by rw [hml]; rfl) (Steps.refl _) (a := a1) (argsL := [(.ref ca), (.int 0), (.int 2), .null]) (rest := []) (lenOf pd_17 rfl) rfl (ww_ rfl rfl) (hb hby d2_6) (fun _ _ => ⟨rfl, e0, (by decide : 0 + 1 ≤ _), (by decide : 0 + 2 ≤ _)⟩)
 dsimp only [Pt.U, Pt.locs, Pt.cells, Pt.slots] at X2 l2 y2 z2 st2 hQ2
 subst l2 y2 z2
 obtain ⟨rfl, N2, K2, vb, kb, S2, gv⟩ := hQ2
 have Nf2 := Fr.app N0 N2
 refine Goes.via (fun _ kz => st2.trans kz) ?_
 exact Goes.retV X2 hx Bd.notSynchronized Bd.returns (hb hby d2_9) (nb_ rfl) (nb_ rfl) ⟨rfl, Nf2, K2, vb, kb, S2, gv⟩
def Q_rc5_3 (Z : State) (ca : Addr) (bb : Addr) (ka kz : ClassId) (c0 c1 c2 : Int32) (h0 : Heap) (n0 : Nat) : Option Value → Heap → List Loc → Prop := fun v h L => v = some (.int 3) ∧ Fr n0 L ∧ Keep h0 h [bb] ∧ Arv Z h bb kz .byte (3 : Int32) [.int (own_by c0), .int (own_by c1), .int (own_by c2)] (.int 0)
theorem rc5_3 (l : Launch) (Z : State) (a0 : Array Value) (hw : ∀ d ∈ tables_1, d.before a0 Z = true) (ws : List Jvm.Cond) (ca : Addr) (bb : Addr) (ka kz : ClassId) (c0 c1 c2 : Int32) (h0 : Heap) (n0 : Nat) (Z0 : n0 ≤ h0.size) (C0 : Arv Z h0 ca ka .char (3 : Int32) [.int c0, .int c1, .int c2] (.int 0)) (B0 : Arv Z h0 bb kz .byte (3 : Int32) [.int 0, .int 0, .int 0] (.int 0)) (gb : n0 ≤ bb) (nab : ca ≠ bb) (s0 : ¬ (255 : Int32) < c0) (s1 : ¬ (255 : Int32) < c1) (s2 : ¬ (255 : Int32) < c2) :
  own_M l Z n_27 (Jvm.Cond.code n_27 jdk_52_method_21_code 7 (some .int)) ws (Rm 0 0 0 0) #[(.ref ca), (.int 0), (.ref bb), (.int 0), (.int 3)] h0 (Q_rc5_3 Z ca bb ka kz c0 c1 c2 h0 n0) := by
 refine MetFree.of_bodySF (plainFor_of_name pn_6) hisR ?_
 intro p e s m args below meth c s₁ Bd hml0 hP hK
 obtain ⟨rfl, hZ, hh⟩ := hP
 have hx := Bd.exec
 have hby := Bd.bytes
 have hml : c.maxLocals = 7 := hml0
 have hown : s.vm.findClass "java/lang/StringUTF16" = some m.cls := findClass_of_methodNamed Bd.named
 have hnm := (name_of_methodNamed Bd.named Bd.method).1
 have X0 : Stand p l e (Rm 0 0 0 0) s m #[(.ref ca), (.int 0), (.ref bb), (.int 0), (.int 3)] below meth c s₁ [] 0 0 := Stand.of_body Bd
 have e0 : s₁.heap = h0 := by rw [← hh, Bd.state]; rfl
 have N0 := Fr.nil n0
 show Goes p e below (Fin s (Q_rc5_3 Z ca bb ka kz c0 c1 c2 h0 n0) (Rm 0 0 0 0).cells (Rm 0 0 0 0).slots) _
 refine Goes.via (S' := s₁.setTop (mkF m 0 #[Vr ca, Vi 0, Vr bb, Vi 0, Vi 3, Vu, Vu] [])) (fun tz kz => castTop (ef_6 m ca (0 : Int32) bb (0 : Int32) (3 : Int32) ) kz) ?_
 refine Goes.via (S' := s₁.setTop (mkF m 12 #[Vr ca, Vi 0, Vr bb, Vi 0, Vi 3, Vi 0, Vu] [(.int 0), (.ref ca)])) (fun tz kz => ?_) ?_
 ·refine XS.iconst X0.here hx rfl (hb hby d6_0) ?_
  refine XS.istore X0.here hx rfl (hb hby d6_1) rfl (l' := #[Vr ca, Vi 0, Vr bb, Vi 0, Vi 3, Vi 0, Vu]) rfl ?_
  refine XS.iload X0.here hx rfl (hb hby d6_3) rfl ?_
  refine XS.iload X0.here hx rfl (hb hby d6_5) rfl ?_
  refine XS.icmpNo X0.here hx rfl (hb hby d6_7) rfl (tlt (by first | decide | rfl)).2.1 ?_
  refine XS.aloadN X0.here hx rfl (hb hby d6_10) rfl rfl ?_
  refine XS.iloadN X0.here hx rfl (hb hby d6_11) rfl ?_
  exact kz
 obtain ⟨cl1, Ar1, q1, Sz1, Nn1, Hs1, G1⟩ := (id C0)
 refine Goes.via (S' := s₁.setTop (mkF m 31 #[Vr ca, Vi 0, Vr bb, Vi 0, Vi 3, Vi 0, Vi c0] [(.int (c0.toInt8.toInt32)), (.int 0), (.ref bb)])) (fun tz kz => ?_) ?_
 ·refine X0.caload hx (j := (0 : Int32)) (v := (.int c0)) (by rw [e0]; exact Ar1.1) (State.isArrayOf_alike hZ.alike Ar1.2.1) Ar1.2.2 (inb_of Sz1 ⟨by decide, by decide⟩) (Has.at Hs1 (inb_of Sz1 ⟨by decide, by decide⟩) rfl) (g := (mkF m 12 #[Vr ca, Vi 0, Vr bb, Vi 0, Vi 3, Vi 0, Vu] [(.int 0), (.ref ca)])) rfl rfl (hb hby d6_12) _ ?_
  refine XS.istore X0.here hx rfl (hb hby d6_13) rfl (l' := #[Vr ca, Vi 0, Vr bb, Vi 0, Vi 3, Vi 0, Vi c0]) rfl ?_
  refine XS.iload X0.here hx rfl (hb hby d6_15) rfl ?_
  refine XS.sipush X0.here hx rfl (hb hby d6_17) ?_
  refine XS.icmpYes X0.here hx rfl (pc0 := 20) (pc' := 26) rfl (hb hby d6_20) rfl (flt s0).2.2.2 (by decide) (by decide) ?_
  refine XS.aloadN X0.here hx rfl (hb hby d6_26) rfl rfl ?_
  refine XS.iloadN X0.here hx rfl (hb hby d6_27) rfl ?_
  refine XS.iload X0.here hx rfl (hb hby d6_28) rfl ?_
  refine XS.i2b X0.here hx rfl (hb hby d6_30) rfl ?_
  exact kz
 obtain ⟨cl2, Ar2, q2, Sz2, Nn2, Hs2, G2⟩ := (id B0)
 obtain ⟨T3, h3, X3, e3, W3, st3⟩ := stB X0 hx hZ e0 Ar2 (j := (0 : Int32)) (inb_of Sz2 ⟨by decide, by decide⟩) (g := (mkF m 31 #[Vr ca, Vi 0, Vr bb, Vi 0, Vi 3, Vi 0, Vi c0] [(.int (c0.toInt8.toInt32)), (.int 0), (.ref bb)])) rfl rfl (hb hby d6_31)
 refine Goes.via st3 ?_
 have N3 := Fr.snoc X3 N0 gb
 have C3 := (C0).other W3 nab
 have A3 := Arv.set Ar2 q2 Sz2 Nn2 Hs2 G2 (fits_nar_byte _) W3 0 rfl (Nat.le_of_ble_eq_true rfl)
 have K3 := (Keep.refl h0 [bb]).wr W3 (Or.inl (List.mem_singleton.mpr rfl))
 refine Goes.via (S' := T3.setTop (mkF m 12 #[Vr ca, Vi 1, Vr bb, Vi 1, Vi 3, Vi 1, Vi c0] [(.int 1), (.ref ca)])) (fun tz kz => ?_) ?_
 ·refine XS.iinc X3.here hx rfl (hb hby d6_32) rfl (l' := #[Vr ca, Vi 1, Vr bb, Vi 0, Vi 3, Vi 0, Vi c0]) rfl ?_
  refine XS.iinc X3.here hx rfl (hb hby d6_35) rfl (l' := #[Vr ca, Vi 1, Vr bb, Vi 1, Vi 3, Vi 0, Vi c0]) rfl ?_
  refine XS.iinc X3.here hx rfl (hb hby d6_38) rfl (l' := #[Vr ca, Vi 1, Vr bb, Vi 1, Vi 3, Vi 1, Vi c0]) rfl ?_
  refine XS.goto X3.here hx rfl (pc0 := 41) (pc' := 3) rfl (hb hby d6_41) (by decide) (by decide) ?_
  refine XS.iload X3.here hx rfl (hb hby d6_3) rfl ?_
  refine XS.iload X3.here hx rfl (hb hby d6_5) rfl ?_
  refine XS.icmpNo X3.here hx rfl (hb hby d6_7) rfl (tlt (by first | decide | rfl)).2.1 ?_
  refine XS.aloadN X3.here hx rfl (hb hby d6_10) rfl rfl ?_
  refine XS.iloadN X3.here hx rfl (hb hby d6_11) rfl ?_
  exact kz
 obtain ⟨cl4, Ar4, q4, Sz4, Nn4, Hs4, G4⟩ := (id C3)
 refine Goes.via (S' := T3.setTop (mkF m 31 #[Vr ca, Vi 1, Vr bb, Vi 1, Vi 3, Vi 1, Vi c1] [(.int (c1.toInt8.toInt32)), (.int 1), (.ref bb)])) (fun tz kz => ?_) ?_
 ·refine X3.caload hx (j := (1 : Int32)) (v := (.int c1)) (by rw [e3]; exact Ar4.1) (State.isArrayOf_alike hZ.alike Ar4.2.1) Ar4.2.2 (inb_of Sz4 ⟨by decide, by decide⟩) (Has.at Hs4 (inb_of Sz4 ⟨by decide, by decide⟩) rfl) (g := (mkF m 12 #[Vr ca, Vi 1, Vr bb, Vi 1, Vi 3, Vi 1, Vi c0] [(.int 1), (.ref ca)])) rfl rfl (hb hby d6_12) _ ?_
  refine XS.istore X3.here hx rfl (hb hby d6_13) rfl (l' := #[Vr ca, Vi 1, Vr bb, Vi 1, Vi 3, Vi 1, Vi c1]) rfl ?_
  refine XS.iload X3.here hx rfl (hb hby d6_15) rfl ?_
  refine XS.sipush X3.here hx rfl (hb hby d6_17) ?_
  refine XS.icmpYes X3.here hx rfl (pc0 := 20) (pc' := 26) rfl (hb hby d6_20) rfl (flt s1).2.2.2 (by decide) (by decide) ?_
  refine XS.aloadN X3.here hx rfl (hb hby d6_26) rfl rfl ?_
  refine XS.iloadN X3.here hx rfl (hb hby d6_27) rfl ?_
  refine XS.iload X3.here hx rfl (hb hby d6_28) rfl ?_
  refine XS.i2b X3.here hx rfl (hb hby d6_30) rfl ?_
  exact kz
 obtain ⟨cl5, Ar5, q5, Sz5, Nn5, Hs5, G5⟩ := (id A3)
 obtain ⟨T6, h6, X6, e6, W6, st6⟩ := stB X3 hx hZ e3 Ar5 (j := (1 : Int32)) (inb_of Sz5 ⟨by decide, by decide⟩) (g := (mkF m 31 #[Vr ca, Vi 1, Vr bb, Vi 1, Vi 3, Vi 1, Vi c1] [(.int (c1.toInt8.toInt32)), (.int 1), (.ref bb)])) rfl rfl (hb hby d6_31)
 refine Goes.via st6 ?_
 have N6 := Fr.snoc X6 N3 gb
 have C6 := (C3).other W6 nab
 have A6 := Arv.set Ar5 q5 Sz5 Nn5 Hs5 G5 (fits_nar_byte _) W6 1 rfl (Nat.le_of_ble_eq_true rfl)
 have K6 := (K3).wr W6 (Or.inl (List.mem_singleton.mpr rfl))
 refine Goes.via (S' := T6.setTop (mkF m 12 #[Vr ca, Vi 2, Vr bb, Vi 2, Vi 3, Vi 2, Vi c1] [(.int 2), (.ref ca)])) (fun tz kz => ?_) ?_
 ·refine XS.iinc X6.here hx rfl (hb hby d6_32) rfl (l' := #[Vr ca, Vi 2, Vr bb, Vi 1, Vi 3, Vi 1, Vi c1]) rfl ?_
  refine XS.iinc X6.here hx rfl (hb hby d6_35) rfl (l' := #[Vr ca, Vi 2, Vr bb, Vi 2, Vi 3, Vi 1, Vi c1]) rfl ?_
  refine XS.iinc X6.here hx rfl (hb hby d6_38) rfl (l' := #[Vr ca, Vi 2, Vr bb, Vi 2, Vi 3, Vi 2, Vi c1]) rfl ?_
  refine XS.goto X6.here hx rfl (pc0 := 41) (pc' := 3) rfl (hb hby d6_41) (by decide) (by decide) ?_
  refine XS.iload X6.here hx rfl (hb hby d6_3) rfl ?_
  refine XS.iload X6.here hx rfl (hb hby d6_5) rfl ?_
  refine XS.icmpNo X6.here hx rfl (hb hby d6_7) rfl (tlt (by first | decide | rfl)).2.1 ?_
  refine XS.aloadN X6.here hx rfl (hb hby d6_10) rfl rfl ?_
  refine XS.iloadN X6.here hx rfl (hb hby d6_11) rfl ?_
  exact kz
 obtain ⟨cl7, Ar7, q7, Sz7, Nn7, Hs7, G7⟩ := (id C6)
 refine Goes.via (S' := T6.setTop (mkF m 31 #[Vr ca, Vi 2, Vr bb, Vi 2, Vi 3, Vi 2, Vi c2] [(.int (c2.toInt8.toInt32)), (.int 2), (.ref bb)])) (fun tz kz => ?_) ?_
 ·refine X6.caload hx (j := (2 : Int32)) (v := (.int c2)) (by rw [e6]; exact Ar7.1) (State.isArrayOf_alike hZ.alike Ar7.2.1) Ar7.2.2 (inb_of Sz7 ⟨by decide, by decide⟩) (Has.at Hs7 (inb_of Sz7 ⟨by decide, by decide⟩) rfl) (g := (mkF m 12 #[Vr ca, Vi 2, Vr bb, Vi 2, Vi 3, Vi 2, Vi c1] [(.int 2), (.ref ca)])) rfl rfl (hb hby d6_12) _ ?_
  refine XS.istore X6.here hx rfl (hb hby d6_13) rfl (l' := #[Vr ca, Vi 2, Vr bb, Vi 2, Vi 3, Vi 2, Vi c2]) rfl ?_
  refine XS.iload X6.here hx rfl (hb hby d6_15) rfl ?_
  refine XS.sipush X6.here hx rfl (hb hby d6_17) ?_
  refine XS.icmpYes X6.here hx rfl (pc0 := 20) (pc' := 26) rfl (hb hby d6_20) rfl (flt s2).2.2.2 (by decide) (by decide) ?_
  refine XS.aloadN X6.here hx rfl (hb hby d6_26) rfl rfl ?_
  refine XS.iloadN X6.here hx rfl (hb hby d6_27) rfl ?_
  refine XS.iload X6.here hx rfl (hb hby d6_28) rfl ?_
  refine XS.i2b X6.here hx rfl (hb hby d6_30) rfl ?_
  exact kz
 obtain ⟨cl8, Ar8, q8, Sz8, Nn8, Hs8, G8⟩ := (id A6)
 obtain ⟨T9, h9, X9, e9, W9, st9⟩ := stB X6 hx hZ e6 Ar8 (j := (2 : Int32)) (inb_of Sz8 ⟨by decide, by decide⟩) (g := (mkF m 31 #[Vr ca, Vi 2, Vr bb, Vi 2, Vi 3, Vi 2, Vi c2] [(.int (c2.toInt8.toInt32)), (.int 2), (.ref bb)])) rfl rfl (hb hby d6_31)
 refine Goes.via st9 ?_
 have N9 := Fr.snoc X9 N6 gb
 have C9 := (C6).other W9 nab
 have A9 := Arv.set Ar8 q8 Sz8 Nn8 Hs8 G8 (fits_nar_byte _) W9 2 rfl (Nat.le_of_ble_eq_true rfl)
 have K9 := (K6).wr W9 (Or.inl (List.mem_singleton.mpr rfl))
 refine Goes.via (S' := T9.setTop (mkF m 46 #[Vr ca, Vi 3, Vr bb, Vi 3, Vi 3, Vi 3, Vi c2] [(.int 3)])) (fun tz kz => ?_) ?_
 ·refine XS.iinc X9.here hx rfl (hb hby d6_32) rfl (l' := #[Vr ca, Vi 3, Vr bb, Vi 2, Vi 3, Vi 2, Vi c2]) rfl ?_
  refine XS.iinc X9.here hx rfl (hb hby d6_35) rfl (l' := #[Vr ca, Vi 3, Vr bb, Vi 3, Vi 3, Vi 2, Vi c2]) rfl ?_
  refine XS.iinc X9.here hx rfl (hb hby d6_38) rfl (l' := #[Vr ca, Vi 3, Vr bb, Vi 3, Vi 3, Vi 3, Vi c2]) rfl ?_
  refine XS.goto X9.here hx rfl (pc0 := 41) (pc' := 3) rfl (hb hby d6_41) (by decide) (by decide) ?_
  refine XS.iload X9.here hx rfl (hb hby d6_3) rfl ?_
  refine XS.iload X9.here hx rfl (hb hby d6_5) rfl ?_
  refine XS.icmpYes X9.here hx rfl (pc0 := 7) (pc' := 44) rfl (hb hby d6_7) rfl (flt (by first | decide | rfl)).2.1 (by decide) (by decide) ?_
  refine XS.iload X9.here hx rfl (hb hby d6_44) rfl ?_
  exact kz
 exact Goes.retI X9 hx Bd.notSynchronized Bd.returns (hb hby d6_46) (nb_ rfl) (nb_ rfl) (by rw [e9]; exact ⟨rfl, N9, K9, A9⟩)
def Q_rc3_3 (Z : State) (ca : Addr) (ka : ClassId) (c0 c1 c2 : Int32) (h0 : Heap) (n0 : Nat) : Option Value → Heap → List Loc → Prop := fun v h L => ∃ b k, v = some (.ref b) ∧ Fr n0 L ∧ Keep h0 h [] ∧ Arv Z h b k .byte (3 : Int32) [.int (own_by c0), .int (own_by c1), .int (own_by c2)] (.int 0) ∧ @LE.le Nat _ h0.size b
theorem rc3_3 (l : Launch) (Z : State) (a0 : Array Value) (hw : ∀ d ∈ tables_1, d.before a0 Z = true) (ws : List Jvm.Cond) (ca : Addr) (ka : ClassId) (c0 c1 c2 : Int32) (h0 : Heap) (n0 : Nat) (Z0 : n0 ≤ h0.size) (C0 : Arv Z h0 ca ka .char (3 : Int32) [.int c0, .int c1, .int c2] (.int 0)) (s0 : ¬ (255 : Int32) < c0) (s1 : ¬ (255 : Int32) < c1) (s2 : ¬ (255 : Int32) < c2) :
  own_M l Z n_28 (Jvm.Cond.code n_28 jdk_52_method_16_code 6 (some (.array .byte))) ws (Rm 1 1 3 20) #[(.ref ca), (.int 0), (.int 3)] h0 (Q_rc3_3 Z ca ka c0 c1 c2 h0 n0) := by
 refine MetFree.of_bodySF (plainFor_of_name pn_5) hisR ?_
 intro p e s m args below meth c s₁ Bd hml0 hP hK
 obtain ⟨rfl, hZ, hh⟩ := hP
 have hx := Bd.exec
 have hby := Bd.bytes
 have hml : c.maxLocals = 6 := hml0
 have hown : s.vm.findClass "java/lang/StringUTF16" = some m.cls := findClass_of_methodNamed Bd.named
 have hnm := (name_of_methodNamed Bd.named Bd.method).1
 have X0 : Stand p l e (Rm 1 1 3 20) s m #[(.ref ca), (.int 0), (.int 3)] below meth c s₁ [] 0 0 := Stand.of_body Bd
 have e0 : s₁.heap = h0 := by rw [← hh, Bd.state]; rfl
 have N0 := Fr.nil n0
 show Goes p e below (Fin s (Q_rc3_3 Z ca ka c0 c1 c2 h0 n0) (Rm 1 1 3 20).cells (Rm 1 1 3 20).slots) _
 refine Goes.via (S' := s₁.setTop (mkF m 0 #[Vr ca, Vi 0, Vi 3, Vu, Vu, Vu] [])) (fun tz kz => castTop (ef_5 m ca (0 : Int32) (3 : Int32) ) kz) ?_
 refine Goes.via (S' := s₁.setTop (mkF m 1 #[Vr ca, Vi 0, Vi 3, Vu, Vu, Vu] [(.int 3)])) (fun tz kz => ?_) ?_
 ·refine XS.iloadN X0.here hx rfl (hb hby d5_0) rfl ?_
  exact kz
 obtain ⟨T1, h1, k1, X1, e1, E1, A1, st1⟩ := newP X0 hx hZ (w_ hw 9 rfl) e0 (g := (mkF m 1 #[Vr ca, Vi 0, Vi 3, Vu, Vu, Vu] [(.int 3)])) rfl (hb hby d5_1) rfl (by decide) (cap := 3) (by decide) (by decide) (by decide) (by decide)
 obtain ⟨b1, g1⟩ : ∃ z, z = h0.size := ⟨_, rfl⟩
 rw [← g1] at A1 st1
 refine Goes.via st1 ?_
 have B1 : Arv Z h1 b1 k1 .byte (3 : Int32) [.int 0, .int 0, .int 0] (.int 0) := (Arv.new A1 (by decide)).pad (pad_rep [] (.int 0) 3)
 have nab : ca ≠ b1 := adr_ne C0.lt g1 (Nat.le_refl _)
 have gb : n0 ≤ b1 := Nat.le_trans Z0 (Nat.le_of_eq g1.symm)
 refine Goes.via (S' := T1.setTop (mkF m 9 #[Vr ca, Vi 0, Vi 3, Vr b1, Vu, Vu] [(.int 3), (.int 0), (.ref b1), (.int 0), (.ref ca)])) (fun tz kz => ?_) ?_
 ·refine XS.astoreN X1.here hx rfl (hb hby d5_3) rfl rfl (l' := #[Vr ca, Vi 0, Vi 3, Vr b1, Vu, Vu]) rfl ?_
  refine XS.aloadN X1.here hx rfl (hb hby d5_4) rfl rfl ?_
  refine XS.iloadN X1.here hx rfl (hb hby d5_5) rfl ?_
  refine XS.aloadN X1.here hx rfl (hb hby d5_6) rfl rfl ?_
  refine XS.iconst X1.here hx rfl (hb hby d5_7) ?_
  refine XS.iloadN X1.here hx rfl (hb hby d5_8) rfl ?_
  exact kz
 obtain ⟨_, _, ⟨T2, L2, k2, n2⟩, -, X2, ⟨Lc2, hQ2, l2, y2, z2⟩, st2⟩ := Jvm.LawKit.callS X1 hx (y := n_27) hown (mvT hZ (w_ hw 30 rfl)) (mvT hZ (w_ hw 31 rfl)) (mvT hZ (w_ hw 28 rfl)) (mvT hZ (w_ hw 32 rfl)) (by decide) (backOf (W := 0) (rc5_3 l Z a0 hw [] ca b1 ka k1 c0 c1 c2 h1 n0 (Nat.le_trans Z0 E1.1) (C0.ext E1) B1 gb nab s0 s1 s2) hZ (w_ hw 32 rfl) (w_ hw 28 rfl) (by decide) (by decide)) (g := (mkF m 9 #[Vr ca, Vi 0, Vi 3, Vr b1, Vu, Vu] [(.int 3), (.int 0), (.ref b1), (.int 0), (.ref ca)])) rfl (by rw [hml]; rfl) (argsL := [(.ref ca), (.int 0), (.ref b1), (.int 0), (.int 3)]) (rest := []) (lenOf pd_14 rfl) rfl (ww_ rfl rfl) (hb hby d5_9) (fun _ _ => ⟨rfl, e1, (by decide : 1 + 0 ≤ _), (by decide : 3 + 0 ≤ _)⟩)
 dsimp only [Pt.U, Pt.locs, Pt.cells, Pt.slots] at X2 l2 y2 z2 st2 hQ2
 subst l2 y2 z2
 obtain ⟨rfl, N2, K2, B2⟩ := hQ2
 have Nf2 := Fr.app N0 N2
 refine Goes.via (st2) ?_
 refine Goes.via (S' := T2.setTop (mkF m 58 #[Vr ca, Vi 0, Vi 3, Vr b1, Vi 3, Vu] [(.ref b1)])) (fun tz kz => ?_) ?_
 ·refine XS.istore X2.here hx rfl (hb hby d5_12) rfl (l' := #[Vr ca, Vi 0, Vi 3, Vr b1, Vi 3, Vu]) rfl ?_
  refine XS.iload X2.here hx rfl (hb hby d5_14) rfl ?_
  refine XS.iloadN X2.here hx rfl (hb hby d5_16) rfl ?_
  refine XS.icmpYes X2.here hx rfl (pc0 := 17) (pc' := 57) rfl (hb hby d5_17) rfl (teq (by first | decide | rfl)).1 (by decide) (by decide) ?_
  refine XS.aloadN X2.here hx rfl (hb hby d5_57) rfl rfl ?_
  exact kz
 exact Goes.retO X2 hx Bd.notSynchronized Bd.returns rfl (Or.inr (Or.inr (Or.inr (Or.inr ⟨rfl, rfl, rfl⟩)))) (hb hby d5_58) (nb_ rfl) (nb_ rfl) ⟨b1, k1, rfl, Nf2, (Keep.refl h0 []).ext E1 |>.trans K2 (allS (Or.inr (Nat.le_of_eq g1.symm)) all0), B2, Nat.le_of_eq g1.symm⟩
def Q_rcc_3 (Z : State) (bb : Addr) (k : ClassId) (vs : List Value) (h0 : Heap) (n0 : Nat) : Option Value → Heap → List Loc → Prop := fun v h L => v = some (.int 0) ∧ Fr n0 L ∧ h = h0
theorem rcc_3 (l : Launch) (Z : State) (a0 : Array Value) (hw : ∀ d ∈ tables_1, d.before a0 Z = true) (ws : List Jvm.Cond) (bb : Addr) (k : ClassId) (vs : List Value) (h0 : Heap) (n0 : Nat) (Z0 : n0 ≤ h0.size) (B0 : Arv Z h0 bb k .byte (3 : Int32) vs (.int 0)) :
  own_M l Z n_29 (Jvm.Cond.code n_29 jdk_52_method_15_code 2 (some .byte)) ws (Rm 0 0 0 0) #[(.ref bb), (.int 3)] h0 (Q_rcc_3 Z bb k vs h0 n0) := by
 refine MetFree.of_bodySF (plainFor_of_name pn_7) hisR ?_
 intro p e s m args below meth c s₁ Bd hml0 hP hK
 obtain ⟨rfl, hZ, hh⟩ := hP
 have hx := Bd.exec
 have hby := Bd.bytes
 have hml : c.maxLocals = 2 := hml0
 have hown : s.vm.findClass "java/lang/StringUTF16" = some m.cls := findClass_of_methodNamed Bd.named
 have hnm := (name_of_methodNamed Bd.named Bd.method).1
 have X0 : Stand p l e (Rm 0 0 0 0) s m #[(.ref bb), (.int 3)] below meth c s₁ [] 0 0 := Stand.of_body Bd
 have e0 : s₁.heap = h0 := by rw [← hh, Bd.state]; rfl
 have N0 := Fr.nil n0
 show Goes p e below (Fin s (Q_rcc_3 Z bb k vs h0 n0) (Rm 0 0 0 0).cells (Rm 0 0 0 0).slots) _
 refine Goes.via (S' := s₁.setTop (mkF m 0 #[Vr bb, Vi 3] [])) (fun tz kz => castTop (ef_7 m bb (3 : Int32) ) kz) ?_
 refine Goes.via (S' := s₁.setTop (mkF m 2 #[Vr bb, Vi 3] [(.ref bb), (.int 3)])) (fun tz kz => ?_) ?_
 ·refine XS.iloadN X0.here hx rfl (hb hby d7_0) rfl ?_
  refine XS.aloadN X0.here hx rfl (hb hby d7_1) rfl rfl ?_
  exact kz
 obtain ⟨cl1, Ar1, q1, Sz1, Nn1, Hs1, G1⟩ := (id B0)
 refine Goes.via (S' := s₁.setTop (mkF m 8 #[Vr bb, Vi 3] [(.int ((((0 : Int32).toUInt32 >>> ((31 : Int32) &&& 31).toUInt32).toInt32).toInt8.toInt32))])) (fun tz kz => ?_) ?_
 ·refine X0.arraylength hx (by rw [e0]; exact Ar1.1) (State.isArrayOf_alike hZ.alike Ar1.2.1) (g := (mkF m 2 #[Vr bb, Vi 3] [(.ref bb), (.int 3)])) rfl rfl (hb hby d7_2) _ ?_
  rw [len_of Sz1 Nn1]
  refine XS.isub X0.here hx rfl (hb hby d7_3) rfl ?_
  refine XS.bipush X0.here hx rfl (hb hby d7_4) ?_
  refine XS.iushr X0.here hx rfl (hb hby d7_6) rfl ?_
  refine XS.i2b X0.here hx rfl (hb hby d7_7) rfl ?_
  exact kz
 exact Goes.retN X0 hx Bd.notSynchronized (t := .byte) Bd.returns (by simp) (hb hby d7_8) (nb_ rfl) (nb_ rfl) ⟨congrArg (fun z => some (Value.int z)) (by decide), N0, e0⟩
def Q_rn4_3 (Z : State) (a1 : Addr) (ca : Addr) (cs : Int32) (ka : ClassId) (c0 c1 c2 : Int32) (h0 : Heap) (n0 : Nat) : Option Value → Heap → List Loc → Prop := fun v h L => v = none ∧ Fr n0 L ∧ Keep h0 h [a1] ∧ ∃ b k, own_Str Z h a1 b k (3 : Int32) [.int (own_by c0), .int (own_by c1), .int (own_by c2)] ∧ @LE.le Nat _ h0.size b
theorem rn4_3 (l : Launch) (Z : State) (a0 : Array Value) (hw : ∀ d ∈ tables_1, d.before a0 Z = true) (ws : List Jvm.Cond) (a1 : Addr) (ca : Addr) (cs : Int32) (ka : ClassId) (c0 c1 c2 : Int32) (h0 : Heap) (n0 : Nat) (Z0 : n0 ≤ h0.size) (SC : Sta Z Z.heap "java/lang/String" "COMPACT_STRINGS" "Z" (.int cs)) (hcs : ¬ cs = (0 : Int32)) (O0 : Old Z n0 h0) (FV : Fld Z h0 a1 "java/lang/String" "value" "[B" .null) (FC : Fld Z h0 a1 "java/lang/String" "coder" "B" (.int 0)) (E1 : Exa Z h0 a1 "java/lang/String") (g1 : n0 ≤ a1) (C0 : Arv Z h0 ca ka .char (3 : Int32) [.int c0, .int c1, .int c2] (.int 0)) (s0 : ¬ (255 : Int32) < c0) (s1 : ¬ (255 : Int32) < c1) (s2 : ¬ (255 : Int32) < c2) :
  own_M l Z n_30 (Jvm.Cond.code n_30 jdk_42_method_149_code 6 none) ws (Rm 2 1 3 40) #[(.ref a1), (.ref ca), (.int 0), (.int 3), .null] h0 (Q_rn4_3 Z a1 ca cs ka c0 c1 c2 h0 n0) := by
 refine MetFree.of_bodySF (plainFor_of_name pn_3) hisR ?_
 intro p e s m args below meth c s₁ Bd hml0 hP hK
 obtain ⟨rfl, hZ, hh⟩ := hP
 have hx := Bd.exec
 have hby := Bd.bytes
 have hml : c.maxLocals = 6 := hml0
 have hown : s.vm.findClass "java/lang/String" = some m.cls := findClass_of_methodNamed Bd.named
 have hnm := (name_of_methodNamed Bd.named Bd.method).1
 have X0 : Stand p l e (Rm 2 1 3 40) s m #[(.ref a1), (.ref ca), (.int 0), (.int 3), .null] below meth c s₁ [] 0 0 := Stand.of_body Bd
 have e0 : s₁.heap = h0 := by rw [← hh, Bd.state]; rfl
 have N0 := Fr.nil n0
 show Goes p e below (Fin s (Q_rn4_3 Z a1 ca cs ka c0 c1 c2 h0 n0) (Rm 2 1 3 40).cells (Rm 2 1 3 40).slots) _
 refine Goes.via (S' := s₁.setTop (mkF m 0 #[Vr a1, Vr ca, Vi 0, Vi 3, .val .null, Vu] [])) (fun tz kz => castTop (ef_3 m a1 ca (0 : Int32) (3 : Int32) ) kz) ?_
 refine Goes.via (S' := s₁.setTop (mkF m 1 #[Vr a1, Vr ca, Vi 0, Vi 3, .val .null, Vu] [(.ref a1)])) (fun tz kz => ?_) ?_
 ·refine XS.aloadN X0.here hx rfl (hb hby d3_0) rfl rfl ?_
  exact kz
 obtain ⟨T1, X1, e1, st1⟩ := initO X0 hx hZ hown (w_ hw 22 rfl) (w_ hw 23 rfl) (w_ hw 24 rfl) e0 (g := (mkF m 1 #[Vr a1, Vr ca, Vi 0, Vi 3, .val .null, Vu] [(.ref a1)])) rfl (by rw [hml]; rfl) rfl (hb hby d3_1) (by decide) (W := 0) (ww_ rfl rfl) (by decide)
 refine Goes.via st1 ?_
 refine Goes.via (S' := T1.setTop (mkF m 27 #[Vr a1, Vr ca, Vi 0, Vi 3, .val .null, Vu] [])) (fun tz kz => ?_) ?_
 ·refine XS.iloadN X1.here hx rfl (hb hby d3_4) rfl ?_
  refine XS.ifYes X1.here hx rfl (pc0 := 5) (pc' := 27) rfl (hb hby d3_5) rfl ((if0 _ _).trans (feq (by first | decide | rfl)).2) (by decide) (by decide) ?_
  exact kz
 obtain ⟨T2, X2, e2, st2⟩ := getS2 X1 hx hZ hown (host := "") (Or.inl (w_ hw 25 rfl)) Via.refl e1 (SC.ext O0.2) (g := (mkF m 27 #[Vr a1, Vr ca, Vi 0, Vi 3, .val .null, Vu] [])) rfl (hb hby d3_27)
 refine Goes.via st2 ?_
 refine Goes.via (S' := T2.setTop (mkF m 36 #[Vr a1, Vr ca, Vi 0, Vi 3, .val .null, Vu] [(.int 3), (.int 0), (.ref ca)])) (fun tz kz => ?_) ?_
 ·refine XS.ifNo X2.here hx rfl (hb hby d3_30) rfl ((if0 _ _).trans (feq hcs).1) ?_
  refine XS.aloadN X2.here hx rfl (hb hby d3_33) rfl rfl ?_
  refine XS.iloadN X2.here hx rfl (hb hby d3_34) rfl ?_
  refine XS.iloadN X2.here hx rfl (hb hby d3_35) rfl ?_
  exact kz
 obtain ⟨_, _, ⟨T3, L3, k3, n3⟩, -, X3, ⟨Lc3, hQ3, l3, y3, z3⟩, st3⟩ := Jvm.LawKit.callS X2 hx (y := n_28) hown (mvT hZ (w_ hw 26 rfl)) (mvT hZ (w_ hw 27 rfl)) (mvT hZ (w_ hw 28 rfl)) (mvT hZ (w_ hw 29 rfl)) (by decide) (backOf (W := 0) (rc3_3 l Z a0 hw [] ca ka c0 c1 c2 h0 n0 Z0 C0 s0 s1 s2) hZ (w_ hw 29 rfl) (w_ hw 28 rfl) (by decide) (by decide)) (g := (mkF m 36 #[Vr a1, Vr ca, Vi 0, Vi 3, .val .null, Vu] [(.int 3), (.int 0), (.ref ca)])) rfl (by rw [hml]; rfl) (argsL := [(.ref ca), (.int 0), (.int 3)]) (rest := []) (lenOf pd_15 rfl) rfl (ww_ rfl rfl) (hb hby d3_36) (fun _ _ => ⟨rfl, e2, (by decide : 0 + 1 ≤ _), (by decide : 0 + 3 ≤ _)⟩)
 dsimp only [Pt.U, Pt.locs, Pt.cells, Pt.slots] at X3 l3 y3 z3 st3 hQ3
 subst l3 y3 z3
 obtain ⟨vb, kb, rfl, N3, K3, B3, gv⟩ := hQ3
 have Nf3 := Fr.app N0 N3
 refine Goes.via (st3) ?_
 refine Goes.via (S' := T3.setTop (mkF m 45 #[Vr a1, Vr ca, Vi 0, Vi 3, .val .null, Vr vb] [(.int 3), (.ref vb), (.ref a1)])) (fun tz kz => ?_) ?_
 ·refine XS.astore X3.here hx rfl (hb hby d3_39) rfl rfl (l' := #[Vr a1, Vr ca, Vi 0, Vi 3, .val .null, Vr vb]) rfl ?_
  refine XS.aloadN X3.here hx rfl (hb hby d3_41) rfl rfl ?_
  refine XS.aload X3.here hx rfl (hb hby d3_42) rfl rfl ?_
  refine XS.iloadN X3.here hx rfl (hb hby d3_44) rfl ?_
  exact kz
 obtain ⟨_, _, ⟨T4, L4, k4, n4⟩, -, X4, ⟨Lc4, hQ4, l4, y4, z4⟩, st4⟩ := Jvm.LawKit.callS X3 hx (y := n_29) hown (mvT hZ (w_ hw 33 rfl)) (mvT hZ (w_ hw 34 rfl)) (mvT hZ (w_ hw 28 rfl)) (mvT hZ (w_ hw 35 rfl)) (by decide) (backOf (W := 1) (rcc_3 l Z a0 hw [] vb kb _ T3.heap n0 (Nat.le_trans Z0 K3.1) B3) hZ (w_ hw 35 rfl) (w_ hw 28 rfl) (by decide) (by decide)) (g := (mkF m 45 #[Vr a1, Vr ca, Vi 0, Vi 3, .val .null, Vr vb] [(.int 3), (.ref vb), (.ref a1)])) rfl (by rw [hml]; rfl) (argsL := [(.ref vb), (.int 3)]) (rest := [(.ref a1)]) (lenOf pd_16 rfl) rfl (ww_ rfl rfl) (hb hby d3_45) (fun _ _ => ⟨rfl, rfl, (by decide : 1 + 0 ≤ _), (by decide : 3 + 0 ≤ _)⟩)
 dsimp only [Pt.U, Pt.locs, Pt.cells, Pt.slots] at X4 l4 y4 z4 st4 hQ4
 subst l4 y4 z4
 obtain ⟨rfl, N4, e4⟩ := hQ4
 have Nf4 := Fr.app Nf3 N4
 refine Goes.via (st4) ?_
 have Ea := E1.keep K3
 have GV := FV.keep K3 nin0
 have GC := FC.keep K3 nin0
 have nb : a1 ≠ vb := Nat.ne_of_lt (Nat.lt_of_lt_of_le E1.lt gv)
 obtain ⟨T5, h5, X5, e5, W5, st5⟩ := putFN X4 hx hZ hown (w_ hw 36 rfl) Via.refl e4 GC Ea (Or.inr ⟨(w_ hw 11 rfl), rfl, hnm⟩) (w_ hw 8 rfl) (ty := .byte) (v' := (.int (nar .byte (0 : Int32)))) (by decide) rfl (fits_nar_byte _) (g := (mkF m 48 #[Vr a1, Vr ca, Vi 0, Vi 3, .val .null, Vr vb] [(.int 0), (.ref a1)])) rfl rfl (hb hby d3_48)
 refine Goes.via st5 ?_
 have N5 := Fr.snoc X5 Nf4 g1
 have HC : Fld Z h5 a1 "java/lang/String" "coder" "B" (.int 0) := GC.same W5
 have HV := GV.other W5 (Or.inr (slot_ne (Or.inr (w_ hw 10 rfl)) (Or.inr (w_ hw 11 rfl)) (by decide) (t := (.array .byte)) (t' := .byte) (by decide) (by decide)))
 have Eb := Ea.wr W5
 have Bb := B3.other W5 (Ne.symm nb)
 refine Goes.via (S' := T5.setTop (mkF m 54 #[Vr a1, Vr ca, Vi 0, Vi 3, .val .null, Vr vb] [(.ref vb), (.ref a1)])) (fun tz kz => ?_) ?_
 ·refine XS.aloadN X5.here hx rfl (hb hby d3_51) rfl rfl ?_
  refine XS.aload X5.here hx rfl (hb hby d3_52) rfl rfl ?_
  exact kz
 obtain ⟨T6, h6, X6, e6, W6, st6⟩ := putF X5 hx hZ hown (host := "") (Or.inl (w_ hw 37 rfl)) Via.refl e5 HV Eb (Or.inr ⟨(w_ hw 10 rfl), rfl, hnm⟩) (w_ hw 8 rfl) (ty := (.array .byte)) (by decide) rfl rfl (g := (mkF m 54 #[Vr a1, Vr ca, Vi 0, Vi 3, .val .null, Vr vb] [(.ref vb), (.ref a1)])) rfl rfl (hb hby d3_54)
 refine Goes.via st6 ?_
 have N6 := Fr.snoc X6 N5 g1
 have JV := HV.same W6
 have JC := HC.other W6 (Or.inr (slot_ne (Or.inr (w_ hw 11 rfl)) (Or.inr (w_ hw 10 rfl)) (by decide) (t := .byte) (t' := (.array .byte)) (by decide) (by decide)))
 have Ec := Eb.wr W6
 have Bc := Bb.other W6 (Ne.symm nb)
 have Kq : Keep h0 h6 [a1] := (((Keep.refl h0 [a1]).trans K3 all0).wr W5 (Or.inl (List.mem_singleton.mpr rfl))).wr W6 (Or.inl (List.mem_singleton.mpr rfl))
 exact Goes.retV X6 hx Bd.notSynchronized Bd.returns (hb hby d3_57) (nb_ rfl) (nb_ rfl) (by rw [e6]; exact ⟨rfl, N6, Kq, vb, kb, ⟨Ec, JC, JV, Bc⟩, gv⟩)
def Q_rn1_3 (Z : State) (a1 : Addr) (ca : Addr) (cs : Int32) (ka : ClassId) (c0 c1 c2 : Int32) (h0 : Heap) (n0 : Nat) : Option Value → Heap → List Loc → Prop := fun v h L => v = none ∧ Fr n0 L ∧ Keep h0 h [a1] ∧ ∃ b k, own_Str Z h a1 b k (3 : Int32) [.int (own_by c0), .int (own_by c1), .int (own_by c2)] ∧ @LE.le Nat _ h0.size b
theorem rn1_3 (l : Launch) (Z : State) (a0 : Array Value) (hw : ∀ d ∈ tables_1, d.before a0 Z = true) (ws : List Jvm.Cond) (a1 : Addr) (ca : Addr) (cs : Int32) (ka : ClassId) (c0 c1 c2 : Int32) (h0 : Heap) (n0 : Nat) (Z0 : n0 ≤ h0.size) (SC : Sta Z Z.heap "java/lang/String" "COMPACT_STRINGS" "Z" (.int cs)) (hcs : ¬ cs = (0 : Int32)) (O0 : Old Z n0 h0) (FV : Fld Z h0 a1 "java/lang/String" "value" "[B" .null) (FC : Fld Z h0 a1 "java/lang/String" "coder" "B" (.int 0)) (E1 : Exa Z h0 a1 "java/lang/String") (g1 : n0 ≤ a1) (C0 : Arv Z h0 ca ka .char (3 : Int32) [.int c0, .int c1, .int c2] (.int 0)) (s0 : ¬ (255 : Int32) < c0) (s1 : ¬ (255 : Int32) < c1) (s2 : ¬ (255 : Int32) < c2) :
  own_M l Z n_31 (Jvm.Cond.code n_31 jdk_42_method_3_code 2 none) ws (Rm 3 1 3 60) #[(.ref a1), (.ref ca)] h0 (Q_rn1_3 Z a1 ca cs ka c0 c1 c2 h0 n0) := by
 refine MetFree.of_bodySF (plainFor_of_name pn_2) hisR ?_
 intro p e s m args below meth c s₁ Bd hml0 hP hK
 obtain ⟨rfl, hZ, hh⟩ := hP
 have hx := Bd.exec
 have hby := Bd.bytes
 have hml : c.maxLocals = 2 := hml0
 have hown : s.vm.findClass "java/lang/String" = some m.cls := findClass_of_methodNamed Bd.named
 have hnm := (name_of_methodNamed Bd.named Bd.method).1
 have X0 : Stand p l e (Rm 3 1 3 60) s m #[(.ref a1), (.ref ca)] below meth c s₁ [] 0 0 := Stand.of_body Bd
 have e0 : s₁.heap = h0 := by rw [← hh, Bd.state]; rfl
 have N0 := Fr.nil n0
 show Goes p e below (Fin s (Q_rn1_3 Z a1 ca cs ka c0 c1 c2 h0 n0) (Rm 3 1 3 60).cells (Rm 3 1 3 60).slots) _
 refine Goes.via (S' := s₁.setTop (mkF m 0 #[Vr a1, Vr ca] [])) (fun tz kz => castTop (ef_2 m a1 ca ) kz) ?_
 refine Goes.via (S' := s₁.setTop (mkF m 4 #[Vr a1, Vr ca] [(.ref ca), (.int 0), (.ref ca), (.ref a1)])) (fun tz kz => ?_) ?_
 ·refine XS.aloadN X0.here hx rfl (hb hby d2_0) rfl rfl ?_
  refine XS.aloadN X0.here hx rfl (hb hby d2_1) rfl rfl ?_
  refine XS.iconst X0.here hx rfl (hb hby d2_2) ?_
  refine XS.aloadN X0.here hx rfl (hb hby d2_3) rfl rfl ?_
  exact kz
 obtain ⟨cl1, Ar1, q1, Sz1, Nn1, Hs1, G1⟩ := (id C0)
 refine Goes.via (S' := s₁.setTop (mkF m 6 #[Vr a1, Vr ca] [.null, (.int 3), (.int 0), (.ref ca), (.ref a1)])) (fun tz kz => ?_) ?_
 ·refine X0.arraylength hx (by rw [e0]; exact Ar1.1) (State.isArrayOf_alike hZ.alike Ar1.2.1) (g := (mkF m 4 #[Vr a1, Vr ca] [(.ref ca), (.int 0), (.ref ca), (.ref a1)])) rfl rfl (hb hby d2_4) _ ?_
  rw [len_of Sz1 Nn1]
  refine XS.aconstNull X0.here hx rfl (hb hby d2_5) ?_
  exact kz
 obtain ⟨_, _, ⟨T2, L2, k2, n2⟩, -, X2, ⟨Lc2, hQ2, l2, y2, z2⟩, st2⟩ := X0.specialBack hx (y := n_30) rfl hown (mvT hZ (w_ hw 19 rfl)) (mvT hZ (w_ hw 20 rfl)) (mvT hZ (w_ hw 21 rfl)) (by decide) (backOf (W := 0) (rn4_3 l Z a0 hw [] a1 ca cs ka c0 c1 c2 h0 n0 Z0 SC hcs O0 FV FC E1 g1 C0 s0 s1 s2) hZ (w_ hw 21 rfl) (w_ hw 7 rfl) (by decide) (by decide)) (g := (mkF m 6 #[Vr a1, Vr ca] [.null, (.int 3), (.int 0), (.ref ca), (.ref a1)])) rfl (by rw [hml]; rfl) (Steps.refl _) (a := a1) (argsL := [(.ref ca), (.int 0), (.int 3), .null]) (rest := []) (lenOf pd_17 rfl) rfl (ww_ rfl rfl) (hb hby d2_6) (fun _ _ => ⟨rfl, e0, (by decide : 0 + 1 ≤ _), (by decide : 0 + 3 ≤ _)⟩)
 dsimp only [Pt.U, Pt.locs, Pt.cells, Pt.slots] at X2 l2 y2 z2 st2 hQ2
 subst l2 y2 z2
 obtain ⟨rfl, N2, K2, vb, kb, S2, gv⟩ := hQ2
 have Nf2 := Fr.app N0 N2
 refine Goes.via (fun _ kz => st2.trans kz) ?_
 exact Goes.retV X2 hx Bd.notSynchronized Bd.returns (hb hby d2_9) (nb_ rfl) (nb_ rfl) ⟨rfl, Nf2, K2, vb, kb, S2, gv⟩
theorem d9_0 : De c_9 0 (.iload_n 0) 1 := by decide +kernel
theorem d9_1 : De c_9 1 (.sipush 255) 3 := by decide +kernel
theorem d9_4 : De c_9 4 (.if_icmp .gt 7) 3 := by decide +kernel
theorem d9_7 : De c_9 7 (.iconst 1) 1 := by decide +kernel
theorem d9_8 : De c_9 8 (.goto 4) 3 := by decide +kernel
theorem d9_12 : De c_9 12 .ireturn 1 := by decide +kernel
theorem pn_9 : plainName "java/lang/StringLatin1" = true := by first | (simp [plainName, overriddenIn]; done) | decide +kernel
theorem ef_9 (m : MethodId) (x0 : Int32) : entryFrame m #[(.int x0)] 1 = mkF m 0 #[Vi x0] [] := by first | rfl | simp [entryFrame, mkF, argsToLocals, Value.category]
def Q_rce (Z : State) (x : Int32)  (h0 : Heap) (n0 : Nat) : Option Value → Heap → List Loc → Prop := fun v h L => v = some (.int 1) ∧ Fr n0 L ∧ h = h0
theorem rce (l : Launch) (Z : State) (a0 : Array Value) (hw : ∀ d ∈ tables_1, d.before a0 Z = true) (ws : List Jvm.Cond) (x : Int32)  (h0 : Heap) (n0 : Nat) (Z0 : n0 ≤ h0.size) (q : ¬ (255 : Int32) < x) :
  own_M l Z n_32 (Jvm.Cond.code n_32 jdk_43_method_3_code 1 (some .boolean)) ws (Rm 0 0 0 0) #[(.int x)] h0 (Q_rce Z x h0 n0) := by
 refine MetFree.of_bodySF (plainFor_of_name pn_9) hisR ?_
 intro p e s m args below meth c s₁ Bd hml0 hP hK
 obtain ⟨rfl, hZ, hh⟩ := hP
 have hx := Bd.exec
 have hby := Bd.bytes
 have hml : c.maxLocals = 1 := hml0
 have hown : s.vm.findClass "java/lang/StringLatin1" = some m.cls := findClass_of_methodNamed Bd.named
 have hnm := (name_of_methodNamed Bd.named Bd.method).1
 have X0 : Stand p l e (Rm 0 0 0 0) s m #[(.int x)] below meth c s₁ [] 0 0 := Stand.of_body Bd
 have e0 : s₁.heap = h0 := by rw [← hh, Bd.state]; rfl
 have N0 := Fr.nil n0
 show Goes p e below (Fin s (Q_rce Z x h0 n0) (Rm 0 0 0 0).cells (Rm 0 0 0 0).slots) _
 refine Goes.via (S' := s₁.setTop (mkF m 0 #[Vi x] [])) (fun tz kz => castTop (ef_9 m x ) kz) ?_
 refine Goes.via (S' := s₁.setTop (mkF m 12 #[Vi x] [(.int 1)])) (fun tz kz => ?_) ?_
 ·refine XS.iloadN X0.here hx rfl (hb hby d9_0) rfl ?_
  refine XS.sipush X0.here hx rfl (hb hby d9_1) ?_
  refine XS.icmpNo X0.here hx rfl (hb hby d9_4) rfl (flt q).2.2.1 ?_
  refine XS.iconst X0.here hx rfl (hb hby d9_7) ?_
  refine XS.goto X0.here hx rfl (pc0 := 8) (pc' := 12) rfl (hb hby d9_8) (by decide) (by decide) ?_
  exact kz
 exact Goes.retN X0 hx Bd.notSynchronized (t := .boolean) Bd.returns (by simp) (hb hby d9_12) (nb_ rfl) (nb_ rfl) ⟨rfl, N0, e0⟩
theorem d10_0 : De c_10 0 (.iconst 1) 1 := by decide +kernel
theorem d10_1 : De c_10 1 (.newarray .byte) 2 := by decide +kernel
theorem d10_3 : De c_10 3 .dup 1 := by decide +kernel
theorem d10_4 : De c_10 4 (.iconst 0) 1 := by decide +kernel
theorem d10_5 : De c_10 5 (.iload_n 0) 1 := by decide +kernel
theorem d10_6 : De c_10 6 .i2b 1 := by decide +kernel
theorem d10_7 : De c_10 7 .bastore 1 := by decide +kernel
theorem d10_8 : De c_10 8 .areturn 1 := by decide +kernel
theorem pn_10 : plainName "java/lang/StringLatin1" = true := by first | (simp [plainName, overriddenIn]; done) | decide +kernel
theorem ef_10 (m : MethodId) (x0 : Int32) : entryFrame m #[(.int x0)] 1 = mkF m 0 #[Vi x0] [] := by first | rfl | simp [entryFrame, mkF, argsToLocals, Value.category]
def Q_rtb1 (Z : State) (x : Int32)  (h0 : Heap) (n0 : Nat) : Option Value → Heap → List Loc → Prop := fun v h L => ∃ b k, v = some (.ref b) ∧ Fr n0 L ∧ Keep h0 h [] ∧ Arv Z h b k .byte (1 : Int32) [.int (own_by x)] (.int 0) ∧ @LE.le Nat _ h0.size b
theorem rtb1 (l : Launch) (Z : State) (a0 : Array Value) (hw : ∀ d ∈ tables_1, d.before a0 Z = true) (ws : List Jvm.Cond) (x : Int32)  (h0 : Heap) (n0 : Nat) (Z0 : n0 ≤ h0.size) :
  own_M l Z n_33 (Jvm.Cond.code n_33 jdk_43_method_46_code 1 (some (.array .byte))) ws (Rm 0 1 1 0) #[(.int x)] h0 (Q_rtb1 Z x h0 n0) := by
 refine MetFree.of_bodySF (plainFor_of_name pn_10) hisR ?_
 intro p e s m args below meth c s₁ Bd hml0 hP hK
 obtain ⟨rfl, hZ, hh⟩ := hP
 have hx := Bd.exec
 have hby := Bd.bytes
 have hml : c.maxLocals = 1 := hml0
 have hown : s.vm.findClass "java/lang/StringLatin1" = some m.cls := findClass_of_methodNamed Bd.named
 have hnm := (name_of_methodNamed Bd.named Bd.method).1
 have X0 : Stand p l e (Rm 0 1 1 0) s m #[(.int x)] below meth c s₁ [] 0 0 := Stand.of_body Bd
 have e0 : s₁.heap = h0 := by rw [← hh, Bd.state]; rfl
 have N0 := Fr.nil n0
 show Goes p e below (Fin s (Q_rtb1 Z x h0 n0) (Rm 0 1 1 0).cells (Rm 0 1 1 0).slots) _
 refine Goes.via (S' := s₁.setTop (mkF m 0 #[Vi x] [])) (fun tz kz => castTop (ef_10 m x ) kz) ?_
 refine Goes.via (S' := s₁.setTop (mkF m 1 #[Vi x] [(.int 1)])) (fun tz kz => ?_) ?_
 ·refine XS.iconst X0.here hx rfl (hb hby d10_0) ?_
  exact kz
 obtain ⟨T1, h1, k1, X1, e1, E1, A1, st1⟩ := newP X0 hx hZ (w_ hw 9 rfl) e0 (g := (mkF m 1 #[Vi x] [(.int 1)])) rfl (hb hby d10_1) rfl (by decide) (cap := 1) (by decide) (by decide) (by decide) (by decide)
 obtain ⟨b1, g1⟩ : ∃ z, z = h0.size := ⟨_, rfl⟩
 rw [← g1] at A1 st1
 refine Goes.via st1 ?_
 have B1 : Arv Z h1 b1 k1 .byte (1 : Int32) [.int 0] (.int 0) := (Arv.new A1 (by decide)).pad (pad_rep [] (.int 0) 1)
 have gb : @LE.le Nat _ h0.size b1 := Nat.le_of_eq g1.symm
 refine Goes.via (S' := T1.setTop (mkF m 7 #[Vi x] [(.int (x.toInt8.toInt32)), (.int 0), (.ref b1), (.ref b1)])) (fun tz kz => ?_) ?_
 ·refine XS.dup X1.here hx rfl (hb hby d10_3) rfl rfl ?_
  refine XS.iconst X1.here hx rfl (hb hby d10_4) ?_
  refine XS.iloadN X1.here hx rfl (hb hby d10_5) rfl ?_
  refine XS.i2b X1.here hx rfl (hb hby d10_6) rfl ?_
  exact kz
 obtain ⟨cl2, Ar2, q2, Sz2, Nn2, Hs2, G2⟩ := (id B1)
 obtain ⟨T3, h3, X3, e3, W3, st3⟩ := stB X1 hx hZ e1 Ar2 (j := (0 : Int32)) (inb_of Sz2 ⟨by decide, by decide⟩) (g := (mkF m 7 #[Vi x] [(.int (x.toInt8.toInt32)), (.int 0), (.ref b1), (.ref b1)])) rfl rfl (hb hby d10_7)
 refine Goes.via st3 ?_
 have N3 := Fr.snoc X3 N0 (Nat.le_trans Z0 gb)
 have B3 := Arv.set Ar2 q2 Sz2 Nn2 Hs2 G2 (fits_nar_byte _) W3 0 rfl (Nat.le_of_ble_eq_true rfl)
 have K3 := ((Keep.refl h0 []).ext E1).wr W3 (Or.inr gb)
 exact Goes.retO X3 hx Bd.notSynchronized Bd.returns rfl (Or.inr (Or.inr (Or.inr (Or.inr ⟨rfl, rfl, rfl⟩)))) (hb hby d10_8) (nb_ rfl) (nb_ rfl) (by rw [e3]; exact ⟨b1, k1, rfl, N3, K3, B3, gb⟩)
theorem d11_0 : De c_11 0 (.aload_n 0) 1 := by decide +kernel
theorem d11_1 : De c_11 1 (.invokespecial 1) 3 := by decide +kernel
theorem d11_4 : De c_11 4 (.aload_n 0) 1 := by decide +kernel
theorem d11_5 : De c_11 5 (.aload_n 1) 1 := by decide +kernel
theorem d11_6 : De c_11 6 (.putfield 9) 3 := by decide +kernel
theorem d11_9 : De c_11 9 (.aload_n 0) 1 := by decide +kernel
theorem d11_10 : De c_11 10 (.iload_n 2) 1 := by decide +kernel
theorem d11_11 : De c_11 11 (.putfield 15) 3 := by decide +kernel
theorem d11_14 : De c_11 14 .return_ 1 := by decide +kernel
theorem pn_11 : plainName "java/lang/String" = true := by first | (simp [plainName, overriddenIn]; done) | decide +kernel
theorem ef_11 (m : MethodId) (x0 : Addr) (x1 : Addr) (x2 : Int32) : entryFrame m #[(.ref x0), (.ref x1), (.int x2)] 3 = mkF m 0 #[Vr x0, Vr x1, Vi x2] [] := by first | rfl | simp [entryFrame, mkF, argsToLocals, Value.category]
def Q_rnb (Z : State) (a1 : Addr) (vb : Addr) (kb : ClassId) (n : Int32) (vs : List Value) (h0 : Heap) (n0 : Nat) : Option Value → Heap → List Loc → Prop := fun v h L => v = none ∧ Fr n0 L ∧ Keep h0 h [a1] ∧ own_Str Z h a1 vb kb n vs
theorem rnb (l : Launch) (Z : State) (a0 : Array Value) (hw : ∀ d ∈ tables_1, d.before a0 Z = true) (ws : List Jvm.Cond) (a1 : Addr) (vb : Addr) (kb : ClassId) (n : Int32) (vs : List Value) (h0 : Heap) (n0 : Nat) (Z0 : n0 ≤ h0.size) (FV : Fld Z h0 a1 "java/lang/String" "value" "[B" .null) (FC : Fld Z h0 a1 "java/lang/String" "coder" "B" (.int 0)) (E1 : Exa Z h0 a1 "java/lang/String") (g1 : n0 ≤ a1) (BV : Arv Z h0 vb kb .byte n vs (.int 0)) (nb : a1 ≠ vb) :
  own_M l Z n_34 (Jvm.Cond.code n_34 jdk_42_method_151_code 3 none) ws (Rm 1 0 0 16) #[(.ref a1), (.ref vb), (.int 0)] h0 (Q_rnb Z a1 vb kb n vs h0 n0) := by
 refine MetFree.of_bodySF (plainFor_of_name pn_11) hisR ?_
 intro p e s m args below meth c s₁ Bd hml0 hP hK
 obtain ⟨rfl, hZ, hh⟩ := hP
 have hx := Bd.exec
 have hby := Bd.bytes
 have hml : c.maxLocals = 3 := hml0
 have hown : s.vm.findClass "java/lang/String" = some m.cls := findClass_of_methodNamed Bd.named
 have hnm := (name_of_methodNamed Bd.named Bd.method).1
 have X0 : Stand p l e (Rm 1 0 0 16) s m #[(.ref a1), (.ref vb), (.int 0)] below meth c s₁ [] 0 0 := Stand.of_body Bd
 have e0 : s₁.heap = h0 := by rw [← hh, Bd.state]; rfl
 have N0 := Fr.nil n0
 show Goes p e below (Fin s (Q_rnb Z a1 vb kb n vs h0 n0) (Rm 1 0 0 16).cells (Rm 1 0 0 16).slots) _
 refine Goes.via (S' := s₁.setTop (mkF m 0 #[Vr a1, Vr vb, Vi 0] [])) (fun tz kz => castTop (ef_11 m a1 vb (0 : Int32) ) kz) ?_
 refine Goes.via (S' := s₁.setTop (mkF m 1 #[Vr a1, Vr vb, Vi 0] [(.ref a1)])) (fun tz kz => ?_) ?_
 ·refine XS.aloadN X0.here hx rfl (hb hby d11_0) rfl rfl ?_
  exact kz
 obtain ⟨T1, X1, e1, st1⟩ := initO X0 hx hZ hown (w_ hw 22 rfl) (w_ hw 23 rfl) (w_ hw 24 rfl) e0 (g := (mkF m 1 #[Vr a1, Vr vb, Vi 0] [(.ref a1)])) rfl (by rw [hml]; rfl) rfl (hb hby d11_1) (by decide) (W := 0) (ww_ rfl rfl) (by decide)
 refine Goes.via st1 ?_
 refine Goes.via (S' := T1.setTop (mkF m 6 #[Vr a1, Vr vb, Vi 0] [(.ref vb), (.ref a1)])) (fun tz kz => ?_) ?_
 ·refine XS.aloadN X1.here hx rfl (hb hby d11_4) rfl rfl ?_
  refine XS.aloadN X1.here hx rfl (hb hby d11_5) rfl rfl ?_
  exact kz
 obtain ⟨T2, h2, X2, e2, W2, st2⟩ := putF X1 hx hZ hown (host := "") (Or.inl (w_ hw 37 rfl)) Via.refl e1 FV E1 (Or.inr ⟨(w_ hw 10 rfl), rfl, hnm⟩) (w_ hw 8 rfl) (ty := (.array .byte)) (by decide) rfl rfl (g := (mkF m 6 #[Vr a1, Vr vb, Vi 0] [(.ref vb), (.ref a1)])) rfl rfl (hb hby d11_6)
 refine Goes.via st2 ?_
 have N2 := Fr.snoc X2 N0 g1
 have HV := FV.same W2
 have HC := FC.other W2 (Or.inr (slot_ne (Or.inr (w_ hw 11 rfl)) (Or.inr (w_ hw 10 rfl)) (by decide) (t := .byte) (t' := (.array .byte)) (by decide) (by decide)))
 have Eb := E1.wr W2
 have Bb := BV.other W2 (Ne.symm nb)
 refine Goes.via (S' := T2.setTop (mkF m 11 #[Vr a1, Vr vb, Vi 0] [(.int 0), (.ref a1)])) (fun tz kz => ?_) ?_
 ·refine XS.aloadN X2.here hx rfl (hb hby d11_9) rfl rfl ?_
  refine XS.iloadN X2.here hx rfl (hb hby d11_10) rfl ?_
  exact kz
 obtain ⟨T3, h3, X3, e3, W3, st3⟩ := putFN X2 hx hZ hown (w_ hw 36 rfl) Via.refl e2 HC Eb (Or.inr ⟨(w_ hw 11 rfl), rfl, hnm⟩) (w_ hw 8 rfl) (ty := .byte) (v' := (.int (nar .byte (0 : Int32)))) (by decide) rfl (fits_nar_byte _) (g := (mkF m 11 #[Vr a1, Vr vb, Vi 0] [(.int 0), (.ref a1)])) rfl rfl (hb hby d11_11)
 refine Goes.via st3 ?_
 have N3 := Fr.snoc X3 N2 g1
 have JC : Fld Z h3 a1 "java/lang/String" "coder" "B" (.int 0) := HC.same W3
 have JV := HV.other W3 (Or.inr (slot_ne (Or.inr (w_ hw 10 rfl)) (Or.inr (w_ hw 11 rfl)) (by decide) (t := (.array .byte)) (t' := .byte) (by decide) (by decide)))
 have Ec := Eb.wr W3
 have Bc := Bb.other W3 (Ne.symm nb)
 have Kq : Keep h0 h3 [a1] := ((Keep.refl h0 [a1]).wr W2 (Or.inl (List.mem_singleton.mpr rfl))).wr W3 (Or.inl (List.mem_singleton.mpr rfl))
 exact Goes.retV X3 hx Bd.notSynchronized Bd.returns (hb hby d11_14) (nb_ rfl) (nb_ rfl) (by rw [e3]; exact ⟨rfl, N3, Kq, Ec, JC, JV, Bc⟩)
theorem d8_0 : De c_8 0 (.getstatic 38) 3 := by decide +kernel
theorem d8_3 : De c_8 3 (.ifCond .eq 23) 3 := by decide +kernel
theorem d8_6 : De c_8 6 (.iload_n 0) 1 := by decide +kernel
theorem d8_7 : De c_8 7 (.invokestatic 1015) 3 := by decide +kernel
theorem d8_10 : De c_8 10 (.ifCond .eq 16) 3 := by decide +kernel
theorem d8_13 : De c_8 13 (.new 10) 3 := by decide +kernel
theorem d8_16 : De c_8 16 .dup 1 := by decide +kernel
theorem d8_17 : De c_8 17 (.iload_n 0) 1 := by decide +kernel
theorem d8_18 : De c_8 18 (.invokestatic 1018) 3 := by decide +kernel
theorem d8_21 : De c_8 21 (.iconst 0) 1 := by decide +kernel
theorem d8_22 : De c_8 22 (.invokespecial 209) 3 := by decide +kernel
theorem d8_25 : De c_8 25 .areturn 1 := by decide +kernel
theorem pn_8 : plainName "java/lang/String" = true := by first | (simp [plainName, overriddenIn]; done) | decide +kernel
theorem ef_8 (m : MethodId) (x0 : Int32) : entryFrame m #[(.int x0)] 1 = mkF m 0 #[Vi x0] [] := by first | rfl | simp [entryFrame, mkF, argsToLocals, Value.category]
def Q_rvo (Z : State) (x : Int32) (cs : Int32) (h0 : Heap) (n0 : Nat) : Option Value → Heap → List Loc → Prop := fun v h L => ∃ a b k, v = some (.ref a) ∧ Fr n0 L ∧ Keep h0 h [] ∧ own_Str Z h a b k (1 : Int32) [.int (own_by x)] ∧ @LE.le Nat _ h0.size a ∧ @LE.le Nat _ h0.size b
theorem rvo (l : Launch) (Z : State) (a0 : Array Value) (hw : ∀ d ∈ tables_1, d.before a0 Z = true) (ws : List Jvm.Cond) (x : Int32) (cs : Int32) (h0 : Heap) (n0 : Nat) (Z0 : n0 ≤ h0.size) (SC : Sta Z Z.heap "java/lang/String" "COMPACT_STRINGS" "Z" (.int cs)) (hcs : ¬ cs = (0 : Int32)) (O0 : Old Z n0 h0) (q : ¬ (255 : Int32) < x) :
  own_M l Z n_35 (Jvm.Cond.code n_35 jdk_42_method_139_code 1 (some (.object "java/lang/String"))) ws (Rm 2 2 5 32) #[(.int x)] h0 (Q_rvo Z x cs h0 n0) := by
 refine MetFree.of_bodySF (plainFor_of_name pn_8) hisR ?_
 intro p e s m args below meth c s₁ Bd hml0 hP hK
 obtain ⟨rfl, hZ, hh⟩ := hP
 have hx := Bd.exec
 have hby := Bd.bytes
 have hml : c.maxLocals = 1 := hml0
 have hown : s.vm.findClass "java/lang/String" = some m.cls := findClass_of_methodNamed Bd.named
 have hnm := (name_of_methodNamed Bd.named Bd.method).1
 have X0 : Stand p l e (Rm 2 2 5 32) s m #[(.int x)] below meth c s₁ [] 0 0 := Stand.of_body Bd
 have e0 : s₁.heap = h0 := by rw [← hh, Bd.state]; rfl
 have N0 := Fr.nil n0
 show Goes p e below (Fin s (Q_rvo Z x cs h0 n0) (Rm 2 2 5 32).cells (Rm 2 2 5 32).slots) _
 refine Goes.via (S' := s₁.setTop (mkF m 0 #[Vi x] [])) (fun tz kz => castTop (ef_8 m x ) kz) ?_
 obtain ⟨T1, X1, e1, st1⟩ := getS2 X0 hx hZ hown (host := "") (Or.inl (w_ hw 25 rfl)) Via.refl e0 (SC.ext O0.2) (g := (mkF m 0 #[Vi x] [])) rfl (hb hby d8_0)
 refine Goes.via st1 ?_
 refine Goes.via (S' := T1.setTop (mkF m 7 #[Vi x] [(.int x)])) (fun tz kz => ?_) ?_
 ·refine XS.ifNo X1.here hx rfl (hb hby d8_3) rfl ((if0 _ _).trans (feq hcs).1) ?_
  refine XS.iloadN X1.here hx rfl (hb hby d8_6) rfl ?_
  exact kz
 obtain ⟨_, _, ⟨T2, L2, k2, n2⟩, -, X2, ⟨Lc2, hQ2, l2, y2, z2⟩, st2⟩ := Jvm.LawKit.callS X1 hx (y := n_32) hown (mvT hZ (w_ hw 41 rfl)) (mvT hZ (w_ hw 42 rfl)) (mvT hZ (w_ hw 43 rfl)) (mvT hZ (w_ hw 44 rfl)) (by decide) (backOf (W := 0) (rce l Z a0 hw [] x h0 n0 Z0 q) hZ (w_ hw 44 rfl) (w_ hw 43 rfl) (by decide) (by decide)) (g := (mkF m 7 #[Vi x] [(.int x)])) rfl (by rw [hml]; rfl) (argsL := [(.int x)]) (rest := []) (lenOf pd_18 rfl) rfl (ww_ rfl rfl) (hb hby d8_7) (fun _ _ => ⟨rfl, e1, (by decide : 0 + 0 ≤ _), (by decide : 0 + 0 ≤ _)⟩)
 dsimp only [Pt.U, Pt.locs, Pt.cells, Pt.slots] at X2 l2 y2 z2 st2 hQ2
 subst l2 y2 z2
 obtain ⟨rfl, N2, e2⟩ := hQ2
 have Nf2 := Fr.app N0 N2
 refine Goes.via (st2) ?_
 refine Goes.via (S' := T2.setTop (mkF m 13 #[Vi x] [])) (fun tz kz => ?_) ?_
 ·refine XS.ifNo X2.here hx rfl (hb hby d8_10) rfl ((if0 _ _).trans (feq (by first | decide | rfl)).1) ?_
  exact kz
 obtain ⟨T3, h3, X3, e3, E3, A3, D3, U3, st3⟩ := newO X2 hx hZ hown (w_ hw 45 rfl) (w_ hw 8 rfl) (w_ hw 7 rfl) e2 (g := (mkF m 13 #[Vi x] [])) rfl (hb hby d8_13) (by decide) (by decide)
 obtain ⟨b3, g3⟩ : ∃ z, z = h0.size := ⟨_, rfl⟩
 rw [← g3] at A3 D3 U3 st3
 refine Goes.via st3 ?_
 have FV : Fld Z h3 b3 "java/lang/String" "value" "[B" .null := D3 (Or.inr (w_ hw 10 rfl)) (ty := (.array .byte)) (by decide)
 have FC : Fld Z h3 b3 "java/lang/String" "coder" "B" (.int 0) := D3 (Or.inr (w_ hw 11 rfl)) (ty := .byte) (by decide)
 have go : @LE.le Nat _ h0.size b3 := Nat.le_of_eq g3.symm
 have Z1 := Nat.le_trans Z0 E3.1
 refine Goes.via (S' := T3.setTop (mkF m 18 #[Vi x] [(.int x), (.ref b3), (.ref b3)])) (fun tz kz => ?_) ?_
 ·refine XS.dup X3.here hx rfl (hb hby d8_16) rfl rfl ?_
  refine XS.iloadN X3.here hx rfl (hb hby d8_17) rfl ?_
  exact kz
 obtain ⟨_, _, ⟨T4, L4, k4, n4⟩, -, X4, ⟨Lc4, hQ4, l4, y4, z4⟩, st4⟩ := Jvm.LawKit.callS X3 hx (y := n_33) hown (mvT hZ (w_ hw 46 rfl)) (mvT hZ (w_ hw 47 rfl)) (mvT hZ (w_ hw 43 rfl)) (mvT hZ (w_ hw 48 rfl)) (by decide) (backOf (W := 2) (rtb1 l Z a0 hw [] x h3 n0 Z1) hZ (w_ hw 48 rfl) (w_ hw 43 rfl) (by decide) (by decide)) (g := (mkF m 18 #[Vi x] [(.int x), (.ref b3), (.ref b3)])) rfl (by rw [hml]; rfl) (argsL := [(.int x)]) (rest := [(.ref b3), (.ref b3)]) (lenOf pd_19 rfl) rfl (ww_ rfl rfl) (hb hby d8_18) (fun _ _ => ⟨rfl, e3, (by decide : 1 + 1 ≤ _), (by decide : 4 + 1 ≤ _)⟩)
 dsimp only [Pt.U, Pt.locs, Pt.cells, Pt.slots] at X4 l4 y4 z4 st4 hQ4
 subst l4 y4 z4
 obtain ⟨vb, kb, rfl, N4, K4, B4, gv⟩ := hQ4
 have Nf4 := Fr.app Nf2 N4
 refine Goes.via (st4) ?_
 have nb : b3 ≠ vb := Nat.ne_of_lt (Nat.lt_of_lt_of_le A3.lt gv)
 have Ka := ((Keep.refl h0 []).ext E3).trans K4 all0
 have gw : @LE.le Nat _ h0.size vb := Nat.le_trans E3.1 gv
 refine Goes.via (S' := T4.setTop (mkF m 22 #[Vi x] [(.int 0), (.ref vb), (.ref b3), (.ref b3)])) (fun tz kz => ?_) ?_
 ·refine XS.iconst X4.here hx rfl (hb hby d8_21) ?_
  exact kz
 obtain ⟨_, _, ⟨T5, L5, k5, n5⟩, -, X5, ⟨Lc5, hQ5, l5, y5, z5⟩, st5⟩ := X4.specialBack hx (y := n_34) rfl hown (mvT hZ (w_ hw 49 rfl)) (mvT hZ (w_ hw 50 rfl)) (mvT hZ (w_ hw 51 rfl)) (by decide) (backOf (W := 1) (rnb l Z a0 hw [] b3 vb kb (1 : Int32) [.int (own_by x)] T4.heap n0 (Nat.le_trans Z0 Ka.1) (FV.keep K4 nin0) (FC.keep K4 nin0) (A3.keep K4) (Nat.le_trans Z0 go) B4 nb) hZ (w_ hw 51 rfl) (w_ hw 7 rfl) (by decide) (by decide)) (g := (mkF m 22 #[Vi x] [(.int 0), (.ref vb), (.ref b3), (.ref b3)])) rfl (by rw [hml]; rfl) (Steps.refl _) (a := b3) (argsL := [(.ref vb), (.int 0)]) (rest := [(.ref b3)]) (lenOf pd_20 rfl) rfl (ww_ rfl rfl) (hb hby d8_22) (fun _ _ => ⟨rfl, rfl, (by decide : 2 + 0 ≤ _), (by decide : 5 + 0 ≤ _)⟩)
 dsimp only [Pt.U, Pt.locs, Pt.cells, Pt.slots] at X5 l5 y5 z5 st5 hQ5
 subst l5 y5 z5
 obtain ⟨rfl, N5, K5, S5⟩ := hQ5
 have Nf5 := Fr.app Nf4 N5
 refine Goes.via (fun _ kz => st5.trans kz) ?_
 have Kf := Ka.trans K5 (allS (Or.inr go) all0)
 exact Goes.retO X5 hx Bd.notSynchronized Bd.returns rfl (Or.inr (Or.inr (Or.inr (Or.inr ⟨rfl, rfl, rfl⟩)))) (hb hby d8_25) (nb_ rfl) (nb_ rfl) ⟨b3, vb, kb, rfl, Nf5, Kf, S5, go, gw⟩
theorem d1_0 : De c_1 0 (.iload_n 0) 1 := by decide +kernel
theorem d1_1 : De c_1 1 (.iconst 3) 1 := by decide +kernel
theorem d1_2 : De c_1 2 .iand 1 := by decide +kernel
theorem d1_3 : De c_1 3 (.istore_n 1) 1 := by decide +kernel
theorem d1_4 : De c_1 4 (.iload_n 0) 1 := by decide +kernel
theorem d1_5 : De c_1 5 (.iconst 2) 1 := by decide +kernel
theorem d1_6 : De c_1 6 .iushr 1 := by decide +kernel
theorem d1_7 : De c_1 7 (.sipush 255) 3 := by decide +kernel
theorem d1_10 : De c_1 10 .iand 1 := by decide +kernel
theorem d1_11 : De c_1 11 .i2c 1 := by decide +kernel
theorem d1_12 : De c_1 12 (.istore_n 2) 1 := by decide +kernel
theorem d1_13 : De c_1 13 (.iload_n 0) 1 := by decide +kernel
theorem d1_14 : De c_1 14 (.bipush 10) 2 := by decide +kernel
theorem d1_16 : De c_1 16 .iushr 1 := by decide +kernel
theorem d1_17 : De c_1 17 (.sipush 255) 3 := by decide +kernel
theorem d1_20 : De c_1 20 .iand 1 := by decide +kernel
theorem d1_21 : De c_1 21 .i2c 1 := by decide +kernel
theorem d1_22 : De c_1 22 (.istore_n 3) 1 := by decide +kernel
theorem d1_23 : De c_1 23 (.iload_n 0) 1 := by decide +kernel
theorem d1_24 : De c_1 24 (.bipush 18) 2 := by decide +kernel
theorem d1_26 : De c_1 26 .iushr 1 := by decide +kernel
theorem d1_27 : De c_1 27 (.sipush 255) 3 := by decide +kernel
theorem d1_30 : De c_1 30 .iand 1 := by decide +kernel
theorem d1_31 : De c_1 31 .i2c 1 := by decide +kernel
theorem d1_32 : De c_1 32 (.istore 4) 2 := by decide +kernel
theorem d1_34 : De c_1 34 (.iload_n 1) 1 := by decide +kernel
theorem d1_35 : De c_1 35 (.ifCond .ne 6) 3 := by decide +kernel
theorem d1_38 : De c_1 38 (.ldc 50) 2 := by decide +kernel
theorem d1_40 : De c_1 40 .areturn 1 := by decide +kernel
theorem d1_41 : De c_1 41 (.iload_n 1) 1 := by decide +kernel
theorem d1_42 : De c_1 42 (.iconst 1) 1 := by decide +kernel
theorem d1_43 : De c_1 43 (.if_icmp .ne 8) 3 := by decide +kernel
theorem d1_46 : De c_1 46 (.iload_n 2) 1 := by decide +kernel
theorem d1_47 : De c_1 47 (.invokestatic 52) 3 := by decide +kernel
theorem d1_50 : De c_1 50 .areturn 1 := by decide +kernel
theorem d1_51 : De c_1 51 (.iload_n 1) 1 := by decide +kernel
theorem d1_52 : De c_1 52 (.iconst 2) 1 := by decide +kernel
theorem d1_53 : De c_1 53 (.if_icmp .ne 22) 3 := by decide +kernel
theorem d1_56 : De c_1 56 (.new 7) 3 := by decide +kernel
theorem d1_59 : De c_1 59 .dup 1 := by decide +kernel
theorem d1_60 : De c_1 60 (.iconst 2) 1 := by decide +kernel
theorem d1_61 : De c_1 61 (.newarray .char) 2 := by decide +kernel
theorem d1_63 : De c_1 63 .dup 1 := by decide +kernel
theorem d1_64 : De c_1 64 (.iconst 0) 1 := by decide +kernel
theorem d1_65 : De c_1 65 (.iload_n 2) 1 := by decide +kernel
theorem d1_66 : De c_1 66 .castore 1 := by decide +kernel
theorem d1_67 : De c_1 67 .dup 1 := by decide +kernel
theorem d1_68 : De c_1 68 (.iconst 1) 1 := by decide +kernel
theorem d1_69 : De c_1 69 (.iload_n 3) 1 := by decide +kernel
theorem d1_70 : De c_1 70 .castore 1 := by decide +kernel
theorem d1_71 : De c_1 71 (.invokespecial 56) 3 := by decide +kernel
theorem d1_74 : De c_1 74 .areturn 1 := by decide +kernel
theorem d1_75 : De c_1 75 (.new 7) 3 := by decide +kernel
theorem d1_78 : De c_1 78 .dup 1 := by decide +kernel
theorem d1_79 : De c_1 79 (.iconst 3) 1 := by decide +kernel
theorem d1_80 : De c_1 80 (.newarray .char) 2 := by decide +kernel
theorem d1_82 : De c_1 82 .dup 1 := by decide +kernel
theorem d1_83 : De c_1 83 (.iconst 0) 1 := by decide +kernel
theorem d1_84 : De c_1 84 (.iload_n 2) 1 := by decide +kernel
theorem d1_85 : De c_1 85 .castore 1 := by decide +kernel
theorem d1_86 : De c_1 86 .dup 1 := by decide +kernel
theorem d1_87 : De c_1 87 (.iconst 1) 1 := by decide +kernel
theorem d1_88 : De c_1 88 (.iload_n 3) 1 := by decide +kernel
theorem d1_89 : De c_1 89 .castore 1 := by decide +kernel
theorem d1_90 : De c_1 90 .dup 1 := by decide +kernel
theorem d1_91 : De c_1 91 (.iconst 2) 1 := by decide +kernel
theorem d1_92 : De c_1 92 (.iload 4) 2 := by decide +kernel
theorem d1_94 : De c_1 94 .castore 1 := by decide +kernel
theorem d1_95 : De c_1 95 (.invokespecial 56) 3 := by decide +kernel
theorem d1_98 : De c_1 98 .areturn 1 := by decide +kernel
theorem pn_1 : plainName "com/example/upkeep_window/upkeepwindow/policy/OpenNamesHeightPinLaw" = true := by first | (simp [plainName, overriddenIn]; done) | decide +kernel
theorem ef_1 (m : MethodId) (x0 : Int32) : entryFrame m #[(.int x0)] 5 = mkF m 0 #[Vi x0, Vu, Vu, Vu, Vu] [] := by first | rfl | simp [entryFrame, mkF, argsToLocals, Value.category]
def Q_rnm_0 (Z : State) (x : Int32) (cs : Int32) (h0 : Heap) (n0 : Nat) : Option Value → Heap → List Loc → Prop := fun v h L => ∃ a b k, v = some (.ref a) ∧ Fr n0 L ∧ Keep h0 h [] ∧ own_Str Z h a b k (0 : Int32) (own_bl (0 : Int32) (own_c0 x) (own_c1 x) (own_c2 x))
theorem rnm_0 (l : Launch) (Z : State) (a0 : Array Value) (hw : ∀ d ∈ tables_1, d.before a0 Z = true) (ws : List Jvm.Cond) (x : Int32) (cs : Int32) (h0 : Heap) (n0 : Nat) (Z0 : n0 ≤ h0.size) (SC : Sta Z Z.heap "java/lang/String" "COMPACT_STRINGS" "Z" (.int cs)) (hcs : ¬ cs = (0 : Int32)) (O0 : Old Z n0 h0) (hq : (x &&& (3 : Int32)) = (0 : Int32)) :
  MetFree l n_36 (head1 (Jvm.Cond.code n_36 method_4_code 5 (some (.object "java/lang/String")) :: ws) (Rm 4 3 12 80)) (fun a U => a = #[(.int x)] ∧ Z.Warmed39 U.vm ∧ U.heap = h0 ∧ CHv Z consts_1 U.vm h0) (fun _ _ _ _ _ => True) (fun _ U oo U' => ∃ vv LL, oo = .returned vv ∧ (Q_rnm_0 Z x cs h0 n0) vv U'.heap LL ∧ CHr Z consts_1 U.vm U.heap U'.vm U'.heap ∧ ReturnedEndW U oo U' LL (Rm 4 3 12 80).cells (Rm 4 3 12 80).slots) := by
 refine MetFree.of_bodySF (plainFor_of_name pn_1) hisR ?_
 intro p e s m args below meth c s₁ Bd hml0 hP hK
 obtain ⟨rfl, hZ, hh, hH⟩ := hP
 have hx := Bd.exec
 have hby := Bd.bytes
 have hml : c.maxLocals = 5 := hml0
 have hown : s.vm.findClass "com/example/upkeep_window/upkeepwindow/policy/OpenNamesHeightPinLaw" = some m.cls := findClass_of_methodNamed Bd.named
 have hnm := (name_of_methodNamed Bd.named Bd.method).1
 have X0 : Stand p l e (Rm 4 3 12 80) s m #[(.int x)] below meth c s₁ [] 0 0 := Stand.of_body Bd
 have e0 : s₁.heap = h0 := by rw [← hh, Bd.state]; rfl
 have N0 := Fr.nil n0
 have hC0 : CHr Z consts_1 s.vm s.heap s.vm h0 := by rw [hh]; exact CHr.refl hH
 have hEL := own_EW hw
 have wS : ∀ d ∈ Bundle.stringAtoms, d.before a0 Z = true := by
  intro d hd
  simp only [Bundle.stringAtoms, List.mem_cons, List.not_mem_nil, or_false] at hd
  rcases hd with rfl | rfl | rfl | rfl | rfl | rfl | rfl
  ·exact (w_ hw 7 rfl)
  ·exact (w_ hw 8 rfl)
  ·exact (w_ hw 9 rfl)
  ·exact (w_ hw 10 rfl)
  ·exact (w_ hw 11 rfl)
  ·exact (w_ hw 12 rfl)
  ·exact (w_ hw 13 rfl)
 show Goes p e below (FinH s Z consts_1 (Q_rnm_0 Z x cs h0 n0) (Rm 4 3 12 80).cells (Rm 4 3 12 80).slots) _
 refine Goes.via (S' := s₁.setTop (mkF m 0 #[Vi x, Vu, Vu, Vu, Vu] [])) (fun tz kz => castTop (ef_1 m x ) kz) ?_
 refine Goes.via (S' := s₁.setTop (mkF m 38 #[Vi x, Vi (x &&& (3 : Int32)), Vi ((((x.toUInt32 >>> ((2 : Int32) &&& 31).toUInt32).toInt32) &&& (255 : Int32)).toUInt32.toUInt16.toUInt32.toInt32), Vi ((((x.toUInt32 >>> ((10 : Int32) &&& 31).toUInt32).toInt32) &&& (255 : Int32)).toUInt32.toUInt16.toUInt32.toInt32), Vi ((((x.toUInt32 >>> ((18 : Int32) &&& 31).toUInt32).toInt32) &&& (255 : Int32)).toUInt32.toUInt16.toUInt32.toInt32)] [])) (fun tz kz => ?_) ?_
 ·refine XS.iloadN X0.here hx rfl (hb hby d1_0) rfl ?_
  refine XS.iconst X0.here hx rfl (hb hby d1_1) ?_
  refine XS.iand X0.here hx rfl (hb hby d1_2) rfl ?_
  refine XS.istoreN X0.here hx rfl (hb hby d1_3) rfl (l' := #[Vi x, Vi (x &&& (3 : Int32)), Vu, Vu, Vu]) rfl ?_
  refine XS.iloadN X0.here hx rfl (hb hby d1_4) rfl ?_
  refine XS.iconst X0.here hx rfl (hb hby d1_5) ?_
  refine XS.iushr X0.here hx rfl (hb hby d1_6) rfl ?_
  refine XS.sipush X0.here hx rfl (hb hby d1_7) ?_
  refine XS.iand X0.here hx rfl (hb hby d1_10) rfl ?_
  refine XS.i2c X0.here hx rfl (hb hby d1_11) rfl ?_
  refine XS.istoreN X0.here hx rfl (hb hby d1_12) rfl (l' := #[Vi x, Vi (x &&& (3 : Int32)), Vi ((((x.toUInt32 >>> ((2 : Int32) &&& 31).toUInt32).toInt32) &&& (255 : Int32)).toUInt32.toUInt16.toUInt32.toInt32), Vu, Vu]) rfl ?_
  refine XS.iloadN X0.here hx rfl (hb hby d1_13) rfl ?_
  show Steps p.tables e below (s₁.setTop (mkF m 14 #[Vi x, Vi (x &&& (3 : Int32)), Vi ((((x.toUInt32 >>> ((2 : Int32) &&& 31).toUInt32).toInt32) &&& (255 : Int32)).toUInt32.toUInt16.toUInt32.toInt32), Vu, Vu] [(.int x)])) _
  refine XS.bipush X0.here hx rfl (hb hby d1_14) ?_
  refine XS.iushr X0.here hx rfl (hb hby d1_16) rfl ?_
  refine XS.sipush X0.here hx rfl (hb hby d1_17) ?_
  refine XS.iand X0.here hx rfl (hb hby d1_20) rfl ?_
  refine XS.i2c X0.here hx rfl (hb hby d1_21) rfl ?_
  refine XS.istoreN X0.here hx rfl (hb hby d1_22) rfl (l' := #[Vi x, Vi (x &&& (3 : Int32)), Vi ((((x.toUInt32 >>> ((2 : Int32) &&& 31).toUInt32).toInt32) &&& (255 : Int32)).toUInt32.toUInt16.toUInt32.toInt32), Vi ((((x.toUInt32 >>> ((10 : Int32) &&& 31).toUInt32).toInt32) &&& (255 : Int32)).toUInt32.toUInt16.toUInt32.toInt32), Vu]) rfl ?_
  refine XS.iloadN X0.here hx rfl (hb hby d1_23) rfl ?_
  refine XS.bipush X0.here hx rfl (hb hby d1_24) ?_
  refine XS.iushr X0.here hx rfl (hb hby d1_26) rfl ?_
  refine XS.sipush X0.here hx rfl (hb hby d1_27) ?_
  refine XS.iand X0.here hx rfl (hb hby d1_30) rfl ?_
  refine XS.i2c X0.here hx rfl (hb hby d1_31) rfl ?_
  show Steps p.tables e below (s₁.setTop (mkF m 32 #[Vi x, Vi (x &&& (3 : Int32)), Vi ((((x.toUInt32 >>> ((2 : Int32) &&& 31).toUInt32).toInt32) &&& (255 : Int32)).toUInt32.toUInt16.toUInt32.toInt32), Vi ((((x.toUInt32 >>> ((10 : Int32) &&& 31).toUInt32).toInt32) &&& (255 : Int32)).toUInt32.toUInt16.toUInt32.toInt32), Vu] [(.int ((((x.toUInt32 >>> ((18 : Int32) &&& 31).toUInt32).toInt32) &&& (255 : Int32)).toUInt32.toUInt16.toUInt32.toInt32))])) _
  refine XS.istore X0.here hx rfl (hb hby d1_32) rfl (l' := #[Vi x, Vi (x &&& (3 : Int32)), Vi ((((x.toUInt32 >>> ((2 : Int32) &&& 31).toUInt32).toInt32) &&& (255 : Int32)).toUInt32.toUInt16.toUInt32.toInt32), Vi ((((x.toUInt32 >>> ((10 : Int32) &&& 31).toUInt32).toInt32) &&& (255 : Int32)).toUInt32.toUInt16.toUInt32.toInt32), Vi ((((x.toUInt32 >>> ((18 : Int32) &&& 31).toUInt32).toInt32) &&& (255 : Int32)).toUInt32.toUInt16.toUInt32.toInt32)]) rfl ?_
  refine XS.iloadN X0.here hx rfl (hb hby d1_34) rfl ?_
  refine XS.ifNo X0.here hx rfl (hb hby d1_35) rfl ((if0 _ _).trans (teq hq).2) ?_
  exact kz
 obtain ⟨a1, T1, h1, k1, b1, kb1, X1, e1, E1, hS1, hk1, hZ, hown, Es1, Fc1, Fv1, Ab1, la1, lb1, hc1, Lt1, sf1, st1⟩   := ldcCH (s := s) (vm0 := s.vm) X0 hx hZ hown (w_ hw 6 rfl) wS e0 ((State.WarmedH.refl s).since 0) (Nat.zero_le _) hEL (by decide) hC0.1 (vs := []) (z := (0 : Int32)) ⟨by decide, by decide⟩ (by decide) (by decide) (g := (mkF m 38 #[Vi x, Vi (x &&& (3 : Int32)), Vi ((((x.toUInt32 >>> ((2 : Int32) &&& 31).toUInt32).toInt32) &&& (255 : Int32)).toUInt32.toUInt16.toUInt32.toInt32), Vi ((((x.toUInt32 >>> ((10 : Int32) &&& 31).toUInt32).toInt32) &&& (255 : Int32)).toUInt32.toUInt16.toUInt32.toInt32), Vi ((((x.toUInt32 >>> ((18 : Int32) &&& 31).toUInt32).toInt32) &&& (255 : Int32)).toUInt32.toUInt16.toUInt32.toInt32)] [])) rfl (hb hby d1_38) (n := 0) (by decide) (by decide) (by decide) (by decide)
 have hC1 := hC0.trans hc1
 refine Goes.via st1 ?_
 have Kf := (Keep.refl h0 []).ext E1
 exact Goes.retOH (s := s) (vm1 := T1.vm) X1 hx Bd.notSynchronized hS1 hk1 e1 hZ hEL hC1 Bd.returns rfl (Or.inr (Or.inr (Or.inr (Or.inr ⟨rfl, rfl, rfl⟩)))) (hb hby d1_40) (nb_ rfl) (nb_ rfl) (by rw [e1]; exact ⟨a1, b1, kb1, rfl, N0, Kf, ⟨Es1, Fc1, Fv1, Ab1⟩⟩)
def Q_rnm_1 (Z : State) (x : Int32) (cs : Int32) (h0 : Heap) (n0 : Nat) : Option Value → Heap → List Loc → Prop := fun v h L => ∃ a b k, v = some (.ref a) ∧ Fr n0 L ∧ Keep h0 h [] ∧ own_Str Z h a b k (1 : Int32) (own_bl (1 : Int32) (own_c0 x) (own_c1 x) (own_c2 x))
theorem rnm_1 (l : Launch) (Z : State) (a0 : Array Value) (hw : ∀ d ∈ tables_1, d.before a0 Z = true) (ws : List Jvm.Cond) (x : Int32) (cs : Int32) (h0 : Heap) (n0 : Nat) (Z0 : n0 ≤ h0.size) (SC : Sta Z Z.heap "java/lang/String" "COMPACT_STRINGS" "Z" (.int cs)) (hcs : ¬ cs = (0 : Int32)) (O0 : Old Z n0 h0) (hq : (x &&& (3 : Int32)) = (1 : Int32)) :
  MetFree l n_36 (head1 (Jvm.Cond.code n_36 method_4_code 5 (some (.object "java/lang/String")) :: ws) (Rm 4 3 12 80)) (fun a U => a = #[(.int x)] ∧ Z.Warmed39 U.vm ∧ U.heap = h0 ∧ CHv Z consts_1 U.vm h0) (fun _ _ _ _ _ => True) (fun _ U oo U' => ∃ vv LL, oo = .returned vv ∧ (Q_rnm_1 Z x cs h0 n0) vv U'.heap LL ∧ CHr Z consts_1 U.vm U.heap U'.vm U'.heap ∧ ReturnedEndW U oo U' LL (Rm 4 3 12 80).cells (Rm 4 3 12 80).slots) := by
 refine MetFree.of_bodySF (plainFor_of_name pn_1) hisR ?_
 intro p e s m args below meth c s₁ Bd hml0 hP hK
 obtain ⟨rfl, hZ, hh, hH⟩ := hP
 have hx := Bd.exec
 have hby := Bd.bytes
 have hml : c.maxLocals = 5 := hml0
 have hown : s.vm.findClass "com/example/upkeep_window/upkeepwindow/policy/OpenNamesHeightPinLaw" = some m.cls := findClass_of_methodNamed Bd.named
 have hnm := (name_of_methodNamed Bd.named Bd.method).1
 have X0 : Stand p l e (Rm 4 3 12 80) s m #[(.int x)] below meth c s₁ [] 0 0 := Stand.of_body Bd
 have e0 : s₁.heap = h0 := by rw [← hh, Bd.state]; rfl
 have N0 := Fr.nil n0
 have hC0 : CHr Z consts_1 s.vm s.heap s.vm h0 := by rw [hh]; exact CHr.refl hH
 have hEL := own_EW hw
 show Goes p e below (FinH s Z consts_1 (Q_rnm_1 Z x cs h0 n0) (Rm 4 3 12 80).cells (Rm 4 3 12 80).slots) _
 refine Goes.via (S' := s₁.setTop (mkF m 0 #[Vi x, Vu, Vu, Vu, Vu] [])) (fun tz kz => castTop (ef_1 m x ) kz) ?_
 refine Goes.via (S' := s₁.setTop (mkF m 47 #[Vi x, Vi (x &&& (3 : Int32)), Vi ((((x.toUInt32 >>> ((2 : Int32) &&& 31).toUInt32).toInt32) &&& (255 : Int32)).toUInt32.toUInt16.toUInt32.toInt32), Vi ((((x.toUInt32 >>> ((10 : Int32) &&& 31).toUInt32).toInt32) &&& (255 : Int32)).toUInt32.toUInt16.toUInt32.toInt32), Vi ((((x.toUInt32 >>> ((18 : Int32) &&& 31).toUInt32).toInt32) &&& (255 : Int32)).toUInt32.toUInt16.toUInt32.toInt32)] [(.int ((((x.toUInt32 >>> ((2 : Int32) &&& 31).toUInt32).toInt32) &&& (255 : Int32)).toUInt32.toUInt16.toUInt32.toInt32))])) (fun tz kz => ?_) ?_
 ·refine XS.iloadN X0.here hx rfl (hb hby d1_0) rfl ?_
  refine XS.iconst X0.here hx rfl (hb hby d1_1) ?_
  refine XS.iand X0.here hx rfl (hb hby d1_2) rfl ?_
  refine XS.istoreN X0.here hx rfl (hb hby d1_3) rfl (l' := #[Vi x, Vi (x &&& (3 : Int32)), Vu, Vu, Vu]) rfl ?_
  refine XS.iloadN X0.here hx rfl (hb hby d1_4) rfl ?_
  refine XS.iconst X0.here hx rfl (hb hby d1_5) ?_
  refine XS.iushr X0.here hx rfl (hb hby d1_6) rfl ?_
  refine XS.sipush X0.here hx rfl (hb hby d1_7) ?_
  refine XS.iand X0.here hx rfl (hb hby d1_10) rfl ?_
  refine XS.i2c X0.here hx rfl (hb hby d1_11) rfl ?_
  refine XS.istoreN X0.here hx rfl (hb hby d1_12) rfl (l' := #[Vi x, Vi (x &&& (3 : Int32)), Vi ((((x.toUInt32 >>> ((2 : Int32) &&& 31).toUInt32).toInt32) &&& (255 : Int32)).toUInt32.toUInt16.toUInt32.toInt32), Vu, Vu]) rfl ?_
  refine XS.iloadN X0.here hx rfl (hb hby d1_13) rfl ?_
  show Steps p.tables e below (s₁.setTop (mkF m 14 #[Vi x, Vi (x &&& (3 : Int32)), Vi ((((x.toUInt32 >>> ((2 : Int32) &&& 31).toUInt32).toInt32) &&& (255 : Int32)).toUInt32.toUInt16.toUInt32.toInt32), Vu, Vu] [(.int x)])) _
  refine XS.bipush X0.here hx rfl (hb hby d1_14) ?_
  refine XS.iushr X0.here hx rfl (hb hby d1_16) rfl ?_
  refine XS.sipush X0.here hx rfl (hb hby d1_17) ?_
  refine XS.iand X0.here hx rfl (hb hby d1_20) rfl ?_
  refine XS.i2c X0.here hx rfl (hb hby d1_21) rfl ?_
  refine XS.istoreN X0.here hx rfl (hb hby d1_22) rfl (l' := #[Vi x, Vi (x &&& (3 : Int32)), Vi ((((x.toUInt32 >>> ((2 : Int32) &&& 31).toUInt32).toInt32) &&& (255 : Int32)).toUInt32.toUInt16.toUInt32.toInt32), Vi ((((x.toUInt32 >>> ((10 : Int32) &&& 31).toUInt32).toInt32) &&& (255 : Int32)).toUInt32.toUInt16.toUInt32.toInt32), Vu]) rfl ?_
  refine XS.iloadN X0.here hx rfl (hb hby d1_23) rfl ?_
  refine XS.bipush X0.here hx rfl (hb hby d1_24) ?_
  refine XS.iushr X0.here hx rfl (hb hby d1_26) rfl ?_
  refine XS.sipush X0.here hx rfl (hb hby d1_27) ?_
  refine XS.iand X0.here hx rfl (hb hby d1_30) rfl ?_
  refine XS.i2c X0.here hx rfl (hb hby d1_31) rfl ?_
  show Steps p.tables e below (s₁.setTop (mkF m 32 #[Vi x, Vi (x &&& (3 : Int32)), Vi ((((x.toUInt32 >>> ((2 : Int32) &&& 31).toUInt32).toInt32) &&& (255 : Int32)).toUInt32.toUInt16.toUInt32.toInt32), Vi ((((x.toUInt32 >>> ((10 : Int32) &&& 31).toUInt32).toInt32) &&& (255 : Int32)).toUInt32.toUInt16.toUInt32.toInt32), Vu] [(.int ((((x.toUInt32 >>> ((18 : Int32) &&& 31).toUInt32).toInt32) &&& (255 : Int32)).toUInt32.toUInt16.toUInt32.toInt32))])) _
  refine XS.istore X0.here hx rfl (hb hby d1_32) rfl (l' := #[Vi x, Vi (x &&& (3 : Int32)), Vi ((((x.toUInt32 >>> ((2 : Int32) &&& 31).toUInt32).toInt32) &&& (255 : Int32)).toUInt32.toUInt16.toUInt32.toInt32), Vi ((((x.toUInt32 >>> ((10 : Int32) &&& 31).toUInt32).toInt32) &&& (255 : Int32)).toUInt32.toUInt16.toUInt32.toInt32), Vi ((((x.toUInt32 >>> ((18 : Int32) &&& 31).toUInt32).toInt32) &&& (255 : Int32)).toUInt32.toUInt16.toUInt32.toInt32)]) rfl ?_
  refine XS.iloadN X0.here hx rfl (hb hby d1_34) rfl ?_
  refine XS.ifYes X0.here hx rfl (pc0 := 35) (pc' := 41) rfl (hb hby d1_35) rfl ((if0 _ _).trans (feq (by rw [hq]; decide)).2) (by decide) (by decide) ?_
  refine XS.iloadN X0.here hx rfl (hb hby d1_41) rfl ?_
  refine XS.iconst X0.here hx rfl (hb hby d1_42) ?_
  refine XS.icmpNo X0.here hx rfl (hb hby d1_43) rfl (teq hq).2 ?_
  refine XS.iloadN X0.here hx rfl (hb hby d1_46) rfl ?_
  exact kz
 obtain ⟨_, _, ⟨T1, L1, k1, n1⟩, -, X1, ⟨Lc1, hQ1, l1, y1, z1⟩, st1⟩ := Jvm.LawKit.callS X0 hx (y := n_35) hown (mvT hZ (w_ hw 38 rfl)) (mvT hZ (w_ hw 39 rfl)) (mvT hZ (w_ hw 7 rfl)) (mvT hZ (w_ hw 40 rfl)) (by decide) (backOf (W := 0) (rvo l Z a0 hw [] (own_c0 x) cs h0 n0 Z0 SC hcs O0 (own_c0u x).sm) hZ (w_ hw 40 rfl) (w_ hw 7 rfl) (by decide) (by decide)) (g := (mkF m 47 #[Vi x, Vi (x &&& (3 : Int32)), Vi ((((x.toUInt32 >>> ((2 : Int32) &&& 31).toUInt32).toInt32) &&& (255 : Int32)).toUInt32.toUInt16.toUInt32.toInt32), Vi ((((x.toUInt32 >>> ((10 : Int32) &&& 31).toUInt32).toInt32) &&& (255 : Int32)).toUInt32.toUInt16.toUInt32.toInt32), Vi ((((x.toUInt32 >>> ((18 : Int32) &&& 31).toUInt32).toInt32) &&& (255 : Int32)).toUInt32.toUInt16.toUInt32.toInt32)] [(.int ((((x.toUInt32 >>> ((2 : Int32) &&& 31).toUInt32).toInt32) &&& (255 : Int32)).toUInt32.toUInt16.toUInt32.toInt32))])) rfl (by rw [hml]; rfl) (argsL := [(.int ((((x.toUInt32 >>> ((2 : Int32) &&& 31).toUInt32).toInt32) &&& (255 : Int32)).toUInt32.toUInt16.toUInt32.toInt32))]) (rest := []) (lenOf pd_21 rfl) rfl (ww_ rfl rfl) (hb hby d1_47) (fun _ _ => ⟨rfl, e0, (by decide : 0 + 2 ≤ _), (by decide : 0 + 5 ≤ _)⟩)
 dsimp only [Pt.U, Pt.locs, Pt.cells, Pt.slots] at X1 l1 y1 z1 st1 hQ1
 subst l1 y1 z1
 obtain ⟨sg, vb, kb, rfl, N1, Kf, S1, go, gw⟩ := hQ1
 have Nf1 := Fr.app N0 N1
 refine Goes.via (st1) ?_
 have hC2 := hC0.trans (CHr.keep (ws := []) Kf (fun _ q => absurd q List.not_mem_nil) hC0.1)
 exact Goes.retOH (s := s) (vm1 := s.vm) X1 hx Bd.notSynchronized ((State.WarmedH.refl s).since 0) (Nat.zero_le _) rfl hZ hEL hC2 Bd.returns rfl (Or.inr (Or.inr (Or.inr (Or.inr ⟨rfl, rfl, rfl⟩)))) (hb hby d1_50) (nb_ rfl) (nb_ rfl) ⟨sg, vb, kb, rfl, Nf1, Kf, S1⟩
def Q_rnm_2 (Z : State) (x : Int32) (cs : Int32) (h0 : Heap) (n0 : Nat) : Option Value → Heap → List Loc → Prop := fun v h L => ∃ a b k, v = some (.ref a) ∧ Fr n0 L ∧ Keep h0 h [] ∧ own_Str Z h a b k (2 : Int32) (own_bl (2 : Int32) (own_c0 x) (own_c1 x) (own_c2 x))
theorem rnm_2 (l : Launch) (Z : State) (a0 : Array Value) (hw : ∀ d ∈ tables_1, d.before a0 Z = true) (ws : List Jvm.Cond) (x : Int32) (cs : Int32) (h0 : Heap) (n0 : Nat) (Z0 : n0 ≤ h0.size) (SC : Sta Z Z.heap "java/lang/String" "COMPACT_STRINGS" "Z" (.int cs)) (hcs : ¬ cs = (0 : Int32)) (O0 : Old Z n0 h0) (hq : (x &&& (3 : Int32)) = (2 : Int32)) :
  MetFree l n_36 (head1 (Jvm.Cond.code n_36 method_4_code 5 (some (.object "java/lang/String")) :: ws) (Rm 4 3 12 80)) (fun a U => a = #[(.int x)] ∧ Z.Warmed39 U.vm ∧ U.heap = h0 ∧ CHv Z consts_1 U.vm h0) (fun _ _ _ _ _ => True) (fun _ U oo U' => ∃ vv LL, oo = .returned vv ∧ (Q_rnm_2 Z x cs h0 n0) vv U'.heap LL ∧ CHr Z consts_1 U.vm U.heap U'.vm U'.heap ∧ ReturnedEndW U oo U' LL (Rm 4 3 12 80).cells (Rm 4 3 12 80).slots) := by
 refine MetFree.of_bodySF (plainFor_of_name pn_1) hisR ?_
 intro p e s m args below meth c s₁ Bd hml0 hP hK
 obtain ⟨rfl, hZ, hh, hH⟩ := hP
 have hx := Bd.exec
 have hby := Bd.bytes
 have hml : c.maxLocals = 5 := hml0
 have hown : s.vm.findClass "com/example/upkeep_window/upkeepwindow/policy/OpenNamesHeightPinLaw" = some m.cls := findClass_of_methodNamed Bd.named
 have hnm := (name_of_methodNamed Bd.named Bd.method).1
 have X0 : Stand p l e (Rm 4 3 12 80) s m #[(.int x)] below meth c s₁ [] 0 0 := Stand.of_body Bd
 have e0 : s₁.heap = h0 := by rw [← hh, Bd.state]; rfl
 have N0 := Fr.nil n0
 have hC0 : CHr Z consts_1 s.vm s.heap s.vm h0 := by rw [hh]; exact CHr.refl hH
 have hEL := own_EW hw
 show Goes p e below (FinH s Z consts_1 (Q_rnm_2 Z x cs h0 n0) (Rm 4 3 12 80).cells (Rm 4 3 12 80).slots) _
 refine Goes.via (S' := s₁.setTop (mkF m 0 #[Vi x, Vu, Vu, Vu, Vu] [])) (fun tz kz => castTop (ef_1 m x ) kz) ?_
 refine Goes.via (S' := s₁.setTop (mkF m 56 #[Vi x, Vi (x &&& (3 : Int32)), Vi ((((x.toUInt32 >>> ((2 : Int32) &&& 31).toUInt32).toInt32) &&& (255 : Int32)).toUInt32.toUInt16.toUInt32.toInt32), Vi ((((x.toUInt32 >>> ((10 : Int32) &&& 31).toUInt32).toInt32) &&& (255 : Int32)).toUInt32.toUInt16.toUInt32.toInt32), Vi ((((x.toUInt32 >>> ((18 : Int32) &&& 31).toUInt32).toInt32) &&& (255 : Int32)).toUInt32.toUInt16.toUInt32.toInt32)] [])) (fun tz kz => ?_) ?_
 ·refine XS.iloadN X0.here hx rfl (hb hby d1_0) rfl ?_
  refine XS.iconst X0.here hx rfl (hb hby d1_1) ?_
  refine XS.iand X0.here hx rfl (hb hby d1_2) rfl ?_
  refine XS.istoreN X0.here hx rfl (hb hby d1_3) rfl (l' := #[Vi x, Vi (x &&& (3 : Int32)), Vu, Vu, Vu]) rfl ?_
  refine XS.iloadN X0.here hx rfl (hb hby d1_4) rfl ?_
  refine XS.iconst X0.here hx rfl (hb hby d1_5) ?_
  refine XS.iushr X0.here hx rfl (hb hby d1_6) rfl ?_
  refine XS.sipush X0.here hx rfl (hb hby d1_7) ?_
  refine XS.iand X0.here hx rfl (hb hby d1_10) rfl ?_
  refine XS.i2c X0.here hx rfl (hb hby d1_11) rfl ?_
  refine XS.istoreN X0.here hx rfl (hb hby d1_12) rfl (l' := #[Vi x, Vi (x &&& (3 : Int32)), Vi ((((x.toUInt32 >>> ((2 : Int32) &&& 31).toUInt32).toInt32) &&& (255 : Int32)).toUInt32.toUInt16.toUInt32.toInt32), Vu, Vu]) rfl ?_
  refine XS.iloadN X0.here hx rfl (hb hby d1_13) rfl ?_
  show Steps p.tables e below (s₁.setTop (mkF m 14 #[Vi x, Vi (x &&& (3 : Int32)), Vi ((((x.toUInt32 >>> ((2 : Int32) &&& 31).toUInt32).toInt32) &&& (255 : Int32)).toUInt32.toUInt16.toUInt32.toInt32), Vu, Vu] [(.int x)])) _
  refine XS.bipush X0.here hx rfl (hb hby d1_14) ?_
  refine XS.iushr X0.here hx rfl (hb hby d1_16) rfl ?_
  refine XS.sipush X0.here hx rfl (hb hby d1_17) ?_
  refine XS.iand X0.here hx rfl (hb hby d1_20) rfl ?_
  refine XS.i2c X0.here hx rfl (hb hby d1_21) rfl ?_
  refine XS.istoreN X0.here hx rfl (hb hby d1_22) rfl (l' := #[Vi x, Vi (x &&& (3 : Int32)), Vi ((((x.toUInt32 >>> ((2 : Int32) &&& 31).toUInt32).toInt32) &&& (255 : Int32)).toUInt32.toUInt16.toUInt32.toInt32), Vi ((((x.toUInt32 >>> ((10 : Int32) &&& 31).toUInt32).toInt32) &&& (255 : Int32)).toUInt32.toUInt16.toUInt32.toInt32), Vu]) rfl ?_
  refine XS.iloadN X0.here hx rfl (hb hby d1_23) rfl ?_
  refine XS.bipush X0.here hx rfl (hb hby d1_24) ?_
  refine XS.iushr X0.here hx rfl (hb hby d1_26) rfl ?_
  refine XS.sipush X0.here hx rfl (hb hby d1_27) ?_
  refine XS.iand X0.here hx rfl (hb hby d1_30) rfl ?_
  refine XS.i2c X0.here hx rfl (hb hby d1_31) rfl ?_
  show Steps p.tables e below (s₁.setTop (mkF m 32 #[Vi x, Vi (x &&& (3 : Int32)), Vi ((((x.toUInt32 >>> ((2 : Int32) &&& 31).toUInt32).toInt32) &&& (255 : Int32)).toUInt32.toUInt16.toUInt32.toInt32), Vi ((((x.toUInt32 >>> ((10 : Int32) &&& 31).toUInt32).toInt32) &&& (255 : Int32)).toUInt32.toUInt16.toUInt32.toInt32), Vu] [(.int ((((x.toUInt32 >>> ((18 : Int32) &&& 31).toUInt32).toInt32) &&& (255 : Int32)).toUInt32.toUInt16.toUInt32.toInt32))])) _
  refine XS.istore X0.here hx rfl (hb hby d1_32) rfl (l' := #[Vi x, Vi (x &&& (3 : Int32)), Vi ((((x.toUInt32 >>> ((2 : Int32) &&& 31).toUInt32).toInt32) &&& (255 : Int32)).toUInt32.toUInt16.toUInt32.toInt32), Vi ((((x.toUInt32 >>> ((10 : Int32) &&& 31).toUInt32).toInt32) &&& (255 : Int32)).toUInt32.toUInt16.toUInt32.toInt32), Vi ((((x.toUInt32 >>> ((18 : Int32) &&& 31).toUInt32).toInt32) &&& (255 : Int32)).toUInt32.toUInt16.toUInt32.toInt32)]) rfl ?_
  refine XS.iloadN X0.here hx rfl (hb hby d1_34) rfl ?_
  refine XS.ifYes X0.here hx rfl (pc0 := 35) (pc' := 41) rfl (hb hby d1_35) rfl ((if0 _ _).trans (feq (by rw [hq]; decide)).2) (by decide) (by decide) ?_
  refine XS.iloadN X0.here hx rfl (hb hby d1_41) rfl ?_
  refine XS.iconst X0.here hx rfl (hb hby d1_42) ?_
  refine XS.icmpYes X0.here hx rfl (pc0 := 43) (pc' := 51) rfl (hb hby d1_43) rfl (feq (by rw [hq]; decide)).2 (by decide) (by decide) ?_
  refine XS.iloadN X0.here hx rfl (hb hby d1_51) rfl ?_
  refine XS.iconst X0.here hx rfl (hb hby d1_52) ?_
  refine XS.icmpNo X0.here hx rfl (hb hby d1_53) rfl (teq hq).2 ?_
  exact kz
 obtain ⟨T1, h1, X1, e1, E1, A1, D1, U1, st1⟩ := newO X0 hx hZ hown (w_ hw 0 rfl) (w_ hw 8 rfl) (w_ hw 7 rfl) e0 (g := (mkF m 56 #[Vi x, Vi (x &&& (3 : Int32)), Vi ((((x.toUInt32 >>> ((2 : Int32) &&& 31).toUInt32).toInt32) &&& (255 : Int32)).toUInt32.toUInt16.toUInt32.toInt32), Vi ((((x.toUInt32 >>> ((10 : Int32) &&& 31).toUInt32).toInt32) &&& (255 : Int32)).toUInt32.toUInt16.toUInt32.toInt32), Vi ((((x.toUInt32 >>> ((18 : Int32) &&& 31).toUInt32).toInt32) &&& (255 : Int32)).toUInt32.toUInt16.toUInt32.toInt32)] [])) rfl (hb hby d1_56) (by decide) (by decide)
 obtain ⟨b1, g1⟩ : ∃ z, z = h0.size := ⟨_, rfl⟩
 rw [← g1] at A1 D1 U1 st1
 refine Goes.via st1 ?_
 have FV : Fld Z h1 b1 "java/lang/String" "value" "[B" .null := D1 (Or.inr (w_ hw 10 rfl)) (ty := (.array .byte)) (by decide)
 have FC : Fld Z h1 b1 "java/lang/String" "coder" "B" (.int 0) := D1 (Or.inr (w_ hw 11 rfl)) (ty := .byte) (by decide)
 have K1 := (Keep.refl h0 []).ext E1
 have ga : n0 ≤ b1 := Nat.le_trans Z0 (Nat.le_of_eq g1.symm)
 refine Goes.via (S' := T1.setTop (mkF m 61 #[Vi x, Vi (x &&& (3 : Int32)), Vi ((((x.toUInt32 >>> ((2 : Int32) &&& 31).toUInt32).toInt32) &&& (255 : Int32)).toUInt32.toUInt16.toUInt32.toInt32), Vi ((((x.toUInt32 >>> ((10 : Int32) &&& 31).toUInt32).toInt32) &&& (255 : Int32)).toUInt32.toUInt16.toUInt32.toInt32), Vi ((((x.toUInt32 >>> ((18 : Int32) &&& 31).toUInt32).toInt32) &&& (255 : Int32)).toUInt32.toUInt16.toUInt32.toInt32)] [(.int 2), (.ref b1), (.ref b1)])) (fun tz kz => ?_) ?_
 ·refine XS.dup X1.here hx rfl (hb hby d1_59) rfl rfl ?_
  refine XS.iconst X1.here hx rfl (hb hby d1_60) ?_
  exact kz
 obtain ⟨T2, h2, k2, X2, e2, E2, A2, st2⟩ := newP X1 hx hZ (w_ hw 15 rfl) e1 (g := (mkF m 61 #[Vi x, Vi (x &&& (3 : Int32)), Vi ((((x.toUInt32 >>> ((2 : Int32) &&& 31).toUInt32).toInt32) &&& (255 : Int32)).toUInt32.toUInt16.toUInt32.toInt32), Vi ((((x.toUInt32 >>> ((10 : Int32) &&& 31).toUInt32).toInt32) &&& (255 : Int32)).toUInt32.toUInt16.toUInt32.toInt32), Vi ((((x.toUInt32 >>> ((18 : Int32) &&& 31).toUInt32).toInt32) &&& (255 : Int32)).toUInt32.toUInt16.toUInt32.toInt32)] [(.int 2), (.ref b1), (.ref b1)])) rfl (hb hby d1_61) rfl (by decide) (cap := 2) (by decide) (by decide) (by decide) (by decide)
 obtain ⟨b2, g2⟩ : ∃ z, z = h1.size := ⟨_, rfl⟩
 rw [← g2] at A2 st2
 refine Goes.via st2 ?_
 have C2 : Arv Z h2 b2 k2 .char (2 : Int32) [.int 0, .int 0] (.int 0) := (Arv.new A2 (by decide)).pad (pad_rep [] (.int 0) 2)
 have K2 := K1.ext E2
 have FV := FV.ext E2
 have FC := FC.ext E2
 have Ea := A1.ext E2
 have nab : b1 ≠ b2 := adr_ne A1.lt g2 (Nat.le_refl _)
 have gc : @LE.le Nat _ h0.size b2 := Nat.le_trans E1.1 (Nat.le_of_eq g2.symm)
 refine Goes.via (S' := T2.setTop (mkF m 66 #[Vi x, Vi (x &&& (3 : Int32)), Vi ((((x.toUInt32 >>> ((2 : Int32) &&& 31).toUInt32).toInt32) &&& (255 : Int32)).toUInt32.toUInt16.toUInt32.toInt32), Vi ((((x.toUInt32 >>> ((10 : Int32) &&& 31).toUInt32).toInt32) &&& (255 : Int32)).toUInt32.toUInt16.toUInt32.toInt32), Vi ((((x.toUInt32 >>> ((18 : Int32) &&& 31).toUInt32).toInt32) &&& (255 : Int32)).toUInt32.toUInt16.toUInt32.toInt32)] [(.int ((((x.toUInt32 >>> ((2 : Int32) &&& 31).toUInt32).toInt32) &&& (255 : Int32)).toUInt32.toUInt16.toUInt32.toInt32)), (.int 0), (.ref b2), (.ref b2), (.ref b1), (.ref b1)])) (fun tz kz => ?_) ?_
 ·refine XS.dup X2.here hx rfl (hb hby d1_63) rfl rfl ?_
  refine XS.iconst X2.here hx rfl (hb hby d1_64) ?_
  refine XS.iloadN X2.here hx rfl (hb hby d1_65) rfl ?_
  exact kz
 obtain ⟨cl3, Ar3, q3, Sz3, Nn3, Hs3, G3⟩ := (id C2)
 obtain ⟨T4, h4, X4, e4, W4, st4⟩ := stC X2 hx hZ e2 Ar3 (j := (0 : Int32)) (inb_of Sz3 ⟨by decide, by decide⟩) (g := (mkF m 66 #[Vi x, Vi (x &&& (3 : Int32)), Vi ((((x.toUInt32 >>> ((2 : Int32) &&& 31).toUInt32).toInt32) &&& (255 : Int32)).toUInt32.toUInt16.toUInt32.toInt32), Vi ((((x.toUInt32 >>> ((10 : Int32) &&& 31).toUInt32).toInt32) &&& (255 : Int32)).toUInt32.toUInt16.toUInt32.toInt32), Vi ((((x.toUInt32 >>> ((18 : Int32) &&& 31).toUInt32).toInt32) &&& (255 : Int32)).toUInt32.toUInt16.toUInt32.toInt32)] [(.int ((((x.toUInt32 >>> ((2 : Int32) &&& 31).toUInt32).toInt32) &&& (255 : Int32)).toUInt32.toUInt16.toUInt32.toInt32)), (.int 0), (.ref b2), (.ref b2), (.ref b1), (.ref b1)])) rfl rfl (hb hby d1_66)
 refine Goes.via st4 ?_
 have N4 := Fr.snoc X4 N0 (Nat.le_trans Z0 gc)
 have C4 := Arv.set Ar3 q3 Sz3 Nn3 Hs3 G3 (fits_nar_char _) W4 0 rfl (Nat.le_of_ble_eq_true rfl)
 rw [own_u8.nc (own_u8.and _).c] at C4
 have FV := FV.other W4 (Or.inl nab)
 have FC := FC.other W4 (Or.inl nab)
 have Ea := Ea.wr W4
 have K4 := K2.wr W4 (Or.inr gc)
 refine Goes.via (S' := T4.setTop (mkF m 70 #[Vi x, Vi (x &&& (3 : Int32)), Vi ((((x.toUInt32 >>> ((2 : Int32) &&& 31).toUInt32).toInt32) &&& (255 : Int32)).toUInt32.toUInt16.toUInt32.toInt32), Vi ((((x.toUInt32 >>> ((10 : Int32) &&& 31).toUInt32).toInt32) &&& (255 : Int32)).toUInt32.toUInt16.toUInt32.toInt32), Vi ((((x.toUInt32 >>> ((18 : Int32) &&& 31).toUInt32).toInt32) &&& (255 : Int32)).toUInt32.toUInt16.toUInt32.toInt32)] [(.int ((((x.toUInt32 >>> ((10 : Int32) &&& 31).toUInt32).toInt32) &&& (255 : Int32)).toUInt32.toUInt16.toUInt32.toInt32)), (.int 1), (.ref b2), (.ref b2), (.ref b1), (.ref b1)])) (fun tz kz => ?_) ?_
 ·refine XS.dup X4.here hx rfl (hb hby d1_67) rfl rfl ?_
  refine XS.iconst X4.here hx rfl (hb hby d1_68) ?_
  refine XS.iloadN X4.here hx rfl (hb hby d1_69) rfl ?_
  exact kz
 obtain ⟨cl5, Ar5, q5, Sz5, Nn5, Hs5, G5⟩ := (id C4)
 obtain ⟨T6, h6, X6, e6, W6, st6⟩ := stC X4 hx hZ e4 Ar5 (j := (1 : Int32)) (inb_of Sz5 ⟨by decide, by decide⟩) (g := (mkF m 70 #[Vi x, Vi (x &&& (3 : Int32)), Vi ((((x.toUInt32 >>> ((2 : Int32) &&& 31).toUInt32).toInt32) &&& (255 : Int32)).toUInt32.toUInt16.toUInt32.toInt32), Vi ((((x.toUInt32 >>> ((10 : Int32) &&& 31).toUInt32).toInt32) &&& (255 : Int32)).toUInt32.toUInt16.toUInt32.toInt32), Vi ((((x.toUInt32 >>> ((18 : Int32) &&& 31).toUInt32).toInt32) &&& (255 : Int32)).toUInt32.toUInt16.toUInt32.toInt32)] [(.int ((((x.toUInt32 >>> ((10 : Int32) &&& 31).toUInt32).toInt32) &&& (255 : Int32)).toUInt32.toUInt16.toUInt32.toInt32)), (.int 1), (.ref b2), (.ref b2), (.ref b1), (.ref b1)])) rfl rfl (hb hby d1_70)
 refine Goes.via st6 ?_
 have N6 := Fr.snoc X6 N4 (Nat.le_trans Z0 gc)
 have C6 := Arv.set Ar5 q5 Sz5 Nn5 Hs5 G5 (fits_nar_char _) W6 1 rfl (Nat.le_of_ble_eq_true rfl)
 rw [own_u8.nc (own_u8.and _).c] at C6
 have FV := FV.other W6 (Or.inl nab)
 have FC := FC.other W6 (Or.inl nab)
 have Ea := Ea.wr W6
 have K6 := K4.wr W6 (Or.inr gc)
 obtain ⟨_, _, ⟨T7, L7, k7, n7⟩, -, X7, ⟨Lc7, hQ7, l7, y7, z7⟩, st7⟩ := X6.specialBack hx (y := n_31) rfl hown (mvT hZ (w_ hw 16 rfl)) (mvT hZ (w_ hw 17 rfl)) (mvT hZ (w_ hw 18 rfl)) (by decide) (backOf (W := 1) (rn1_2 l Z a0 hw [] b1 b2 cs k2 (own_c0 x) (own_c1 x) h6 n0 (Nat.le_trans Z0 K6.1) SC hcs (O0.keep K6 all0) FV FC Ea ga C6 (own_c0u x).sm (own_c1u x).sm) hZ (w_ hw 18 rfl) (w_ hw 7 rfl) (by decide) (by decide)) (g := (mkF m 71 #[Vi x, Vi (x &&& (3 : Int32)), Vi ((((x.toUInt32 >>> ((2 : Int32) &&& 31).toUInt32).toInt32) &&& (255 : Int32)).toUInt32.toUInt16.toUInt32.toInt32), Vi ((((x.toUInt32 >>> ((10 : Int32) &&& 31).toUInt32).toInt32) &&& (255 : Int32)).toUInt32.toUInt16.toUInt32.toInt32), Vi ((((x.toUInt32 >>> ((18 : Int32) &&& 31).toUInt32).toInt32) &&& (255 : Int32)).toUInt32.toUInt16.toUInt32.toInt32)] [(.ref b2), (.ref b1), (.ref b1)])) rfl (by rw [hml]; rfl) (Steps.refl _) (a := b1) (argsL := [(.ref b2)]) (rest := [(.ref b1)]) (lenOf pd_22 rfl) rfl (ww_ rfl rfl) (hb hby d1_71) (fun _ _ => ⟨rfl, e6, (by decide : 2 + 1 ≤ _), (by decide : 6 + 2 ≤ _)⟩)
 dsimp only [Pt.U, Pt.locs, Pt.cells, Pt.slots] at X7 l7 y7 z7 st7 hQ7
 subst l7 y7 z7
 obtain ⟨rfl, N7, K7, vb, kb, S7, gv⟩ := hQ7
 have Nf7 := Fr.app N6 N7
 refine Goes.via (fun _ kz => st7.trans kz) ?_
 have Kf := K6.trans K7 (allS (Or.inr (Nat.le_of_eq g1.symm)) all0)
 have hC8 := hC0.trans (CHr.keep (ws := []) Kf (fun _ q => absurd q List.not_mem_nil) hC0.1)
 exact Goes.retOH (s := s) (vm1 := s.vm) X7 hx Bd.notSynchronized ((State.WarmedH.refl s).since 0) (Nat.zero_le _) rfl hZ hEL hC8 Bd.returns rfl (Or.inr (Or.inr (Or.inr (Or.inr ⟨rfl, rfl, rfl⟩)))) (hb hby d1_74) (nb_ rfl) (nb_ rfl) ⟨b1, vb, kb, rfl, Nf7, Kf, S7⟩
def Q_rnm_3 (Z : State) (x : Int32) (cs : Int32) (h0 : Heap) (n0 : Nat) : Option Value → Heap → List Loc → Prop := fun v h L => ∃ a b k, v = some (.ref a) ∧ Fr n0 L ∧ Keep h0 h [] ∧ own_Str Z h a b k (3 : Int32) (own_bl (3 : Int32) (own_c0 x) (own_c1 x) (own_c2 x))
theorem rnm_3 (l : Launch) (Z : State) (a0 : Array Value) (hw : ∀ d ∈ tables_1, d.before a0 Z = true) (ws : List Jvm.Cond) (x : Int32) (cs : Int32) (h0 : Heap) (n0 : Nat) (Z0 : n0 ≤ h0.size) (SC : Sta Z Z.heap "java/lang/String" "COMPACT_STRINGS" "Z" (.int cs)) (hcs : ¬ cs = (0 : Int32)) (O0 : Old Z n0 h0) (hq : (x &&& (3 : Int32)) = (3 : Int32)) :
  MetFree l n_36 (head1 (Jvm.Cond.code n_36 method_4_code 5 (some (.object "java/lang/String")) :: ws) (Rm 4 3 12 80)) (fun a U => a = #[(.int x)] ∧ Z.Warmed39 U.vm ∧ U.heap = h0 ∧ CHv Z consts_1 U.vm h0) (fun _ _ _ _ _ => True) (fun _ U oo U' => ∃ vv LL, oo = .returned vv ∧ (Q_rnm_3 Z x cs h0 n0) vv U'.heap LL ∧ CHr Z consts_1 U.vm U.heap U'.vm U'.heap ∧ ReturnedEndW U oo U' LL (Rm 4 3 12 80).cells (Rm 4 3 12 80).slots) := by
 refine MetFree.of_bodySF (plainFor_of_name pn_1) hisR ?_
 intro p e s m args below meth c s₁ Bd hml0 hP hK
 obtain ⟨rfl, hZ, hh, hH⟩ := hP
 have hx := Bd.exec
 have hby := Bd.bytes
 have hml : c.maxLocals = 5 := hml0
 have hown : s.vm.findClass "com/example/upkeep_window/upkeepwindow/policy/OpenNamesHeightPinLaw" = some m.cls := findClass_of_methodNamed Bd.named
 have hnm := (name_of_methodNamed Bd.named Bd.method).1
 have X0 : Stand p l e (Rm 4 3 12 80) s m #[(.int x)] below meth c s₁ [] 0 0 := Stand.of_body Bd
 have e0 : s₁.heap = h0 := by rw [← hh, Bd.state]; rfl
 have N0 := Fr.nil n0
 have hC0 : CHr Z consts_1 s.vm s.heap s.vm h0 := by rw [hh]; exact CHr.refl hH
 have hEL := own_EW hw
 show Goes p e below (FinH s Z consts_1 (Q_rnm_3 Z x cs h0 n0) (Rm 4 3 12 80).cells (Rm 4 3 12 80).slots) _
 refine Goes.via (S' := s₁.setTop (mkF m 0 #[Vi x, Vu, Vu, Vu, Vu] [])) (fun tz kz => castTop (ef_1 m x ) kz) ?_
 refine Goes.via (S' := s₁.setTop (mkF m 75 #[Vi x, Vi (x &&& (3 : Int32)), Vi ((((x.toUInt32 >>> ((2 : Int32) &&& 31).toUInt32).toInt32) &&& (255 : Int32)).toUInt32.toUInt16.toUInt32.toInt32), Vi ((((x.toUInt32 >>> ((10 : Int32) &&& 31).toUInt32).toInt32) &&& (255 : Int32)).toUInt32.toUInt16.toUInt32.toInt32), Vi ((((x.toUInt32 >>> ((18 : Int32) &&& 31).toUInt32).toInt32) &&& (255 : Int32)).toUInt32.toUInt16.toUInt32.toInt32)] [])) (fun tz kz => ?_) ?_
 ·refine XS.iloadN X0.here hx rfl (hb hby d1_0) rfl ?_
  refine XS.iconst X0.here hx rfl (hb hby d1_1) ?_
  refine XS.iand X0.here hx rfl (hb hby d1_2) rfl ?_
  refine XS.istoreN X0.here hx rfl (hb hby d1_3) rfl (l' := #[Vi x, Vi (x &&& (3 : Int32)), Vu, Vu, Vu]) rfl ?_
  refine XS.iloadN X0.here hx rfl (hb hby d1_4) rfl ?_
  refine XS.iconst X0.here hx rfl (hb hby d1_5) ?_
  refine XS.iushr X0.here hx rfl (hb hby d1_6) rfl ?_
  refine XS.sipush X0.here hx rfl (hb hby d1_7) ?_
  refine XS.iand X0.here hx rfl (hb hby d1_10) rfl ?_
  refine XS.i2c X0.here hx rfl (hb hby d1_11) rfl ?_
  refine XS.istoreN X0.here hx rfl (hb hby d1_12) rfl (l' := #[Vi x, Vi (x &&& (3 : Int32)), Vi ((((x.toUInt32 >>> ((2 : Int32) &&& 31).toUInt32).toInt32) &&& (255 : Int32)).toUInt32.toUInt16.toUInt32.toInt32), Vu, Vu]) rfl ?_
  refine XS.iloadN X0.here hx rfl (hb hby d1_13) rfl ?_
  show Steps p.tables e below (s₁.setTop (mkF m 14 #[Vi x, Vi (x &&& (3 : Int32)), Vi ((((x.toUInt32 >>> ((2 : Int32) &&& 31).toUInt32).toInt32) &&& (255 : Int32)).toUInt32.toUInt16.toUInt32.toInt32), Vu, Vu] [(.int x)])) _
  refine XS.bipush X0.here hx rfl (hb hby d1_14) ?_
  refine XS.iushr X0.here hx rfl (hb hby d1_16) rfl ?_
  refine XS.sipush X0.here hx rfl (hb hby d1_17) ?_
  refine XS.iand X0.here hx rfl (hb hby d1_20) rfl ?_
  refine XS.i2c X0.here hx rfl (hb hby d1_21) rfl ?_
  refine XS.istoreN X0.here hx rfl (hb hby d1_22) rfl (l' := #[Vi x, Vi (x &&& (3 : Int32)), Vi ((((x.toUInt32 >>> ((2 : Int32) &&& 31).toUInt32).toInt32) &&& (255 : Int32)).toUInt32.toUInt16.toUInt32.toInt32), Vi ((((x.toUInt32 >>> ((10 : Int32) &&& 31).toUInt32).toInt32) &&& (255 : Int32)).toUInt32.toUInt16.toUInt32.toInt32), Vu]) rfl ?_
  refine XS.iloadN X0.here hx rfl (hb hby d1_23) rfl ?_
  refine XS.bipush X0.here hx rfl (hb hby d1_24) ?_
  refine XS.iushr X0.here hx rfl (hb hby d1_26) rfl ?_
  refine XS.sipush X0.here hx rfl (hb hby d1_27) ?_
  refine XS.iand X0.here hx rfl (hb hby d1_30) rfl ?_
  refine XS.i2c X0.here hx rfl (hb hby d1_31) rfl ?_
  show Steps p.tables e below (s₁.setTop (mkF m 32 #[Vi x, Vi (x &&& (3 : Int32)), Vi ((((x.toUInt32 >>> ((2 : Int32) &&& 31).toUInt32).toInt32) &&& (255 : Int32)).toUInt32.toUInt16.toUInt32.toInt32), Vi ((((x.toUInt32 >>> ((10 : Int32) &&& 31).toUInt32).toInt32) &&& (255 : Int32)).toUInt32.toUInt16.toUInt32.toInt32), Vu] [(.int ((((x.toUInt32 >>> ((18 : Int32) &&& 31).toUInt32).toInt32) &&& (255 : Int32)).toUInt32.toUInt16.toUInt32.toInt32))])) _
  refine XS.istore X0.here hx rfl (hb hby d1_32) rfl (l' := #[Vi x, Vi (x &&& (3 : Int32)), Vi ((((x.toUInt32 >>> ((2 : Int32) &&& 31).toUInt32).toInt32) &&& (255 : Int32)).toUInt32.toUInt16.toUInt32.toInt32), Vi ((((x.toUInt32 >>> ((10 : Int32) &&& 31).toUInt32).toInt32) &&& (255 : Int32)).toUInt32.toUInt16.toUInt32.toInt32), Vi ((((x.toUInt32 >>> ((18 : Int32) &&& 31).toUInt32).toInt32) &&& (255 : Int32)).toUInt32.toUInt16.toUInt32.toInt32)]) rfl ?_
  refine XS.iloadN X0.here hx rfl (hb hby d1_34) rfl ?_
  refine XS.ifYes X0.here hx rfl (pc0 := 35) (pc' := 41) rfl (hb hby d1_35) rfl ((if0 _ _).trans (feq (by rw [hq]; decide)).2) (by decide) (by decide) ?_
  refine XS.iloadN X0.here hx rfl (hb hby d1_41) rfl ?_
  refine XS.iconst X0.here hx rfl (hb hby d1_42) ?_
  refine XS.icmpYes X0.here hx rfl (pc0 := 43) (pc' := 51) rfl (hb hby d1_43) rfl (feq (by rw [hq]; decide)).2 (by decide) (by decide) ?_
  refine XS.iloadN X0.here hx rfl (hb hby d1_51) rfl ?_
  refine XS.iconst X0.here hx rfl (hb hby d1_52) ?_
  refine XS.icmpYes X0.here hx rfl (pc0 := 53) (pc' := 75) rfl (hb hby d1_53) rfl (feq (by rw [hq]; decide)).2 (by decide) (by decide) ?_
  exact kz
 obtain ⟨T1, h1, X1, e1, E1, A1, D1, U1, st1⟩ := newO X0 hx hZ hown (w_ hw 0 rfl) (w_ hw 8 rfl) (w_ hw 7 rfl) e0 (g := (mkF m 75 #[Vi x, Vi (x &&& (3 : Int32)), Vi ((((x.toUInt32 >>> ((2 : Int32) &&& 31).toUInt32).toInt32) &&& (255 : Int32)).toUInt32.toUInt16.toUInt32.toInt32), Vi ((((x.toUInt32 >>> ((10 : Int32) &&& 31).toUInt32).toInt32) &&& (255 : Int32)).toUInt32.toUInt16.toUInt32.toInt32), Vi ((((x.toUInt32 >>> ((18 : Int32) &&& 31).toUInt32).toInt32) &&& (255 : Int32)).toUInt32.toUInt16.toUInt32.toInt32)] [])) rfl (hb hby d1_75) (by decide) (by decide)
 obtain ⟨b1, g1⟩ : ∃ z, z = h0.size := ⟨_, rfl⟩
 rw [← g1] at A1 D1 U1 st1
 refine Goes.via st1 ?_
 have FV : Fld Z h1 b1 "java/lang/String" "value" "[B" .null := D1 (Or.inr (w_ hw 10 rfl)) (ty := (.array .byte)) (by decide)
 have FC : Fld Z h1 b1 "java/lang/String" "coder" "B" (.int 0) := D1 (Or.inr (w_ hw 11 rfl)) (ty := .byte) (by decide)
 have K1 := (Keep.refl h0 []).ext E1
 have ga : n0 ≤ b1 := Nat.le_trans Z0 (Nat.le_of_eq g1.symm)
 refine Goes.via (S' := T1.setTop (mkF m 80 #[Vi x, Vi (x &&& (3 : Int32)), Vi ((((x.toUInt32 >>> ((2 : Int32) &&& 31).toUInt32).toInt32) &&& (255 : Int32)).toUInt32.toUInt16.toUInt32.toInt32), Vi ((((x.toUInt32 >>> ((10 : Int32) &&& 31).toUInt32).toInt32) &&& (255 : Int32)).toUInt32.toUInt16.toUInt32.toInt32), Vi ((((x.toUInt32 >>> ((18 : Int32) &&& 31).toUInt32).toInt32) &&& (255 : Int32)).toUInt32.toUInt16.toUInt32.toInt32)] [(.int 3), (.ref b1), (.ref b1)])) (fun tz kz => ?_) ?_
 ·refine XS.dup X1.here hx rfl (hb hby d1_78) rfl rfl ?_
  refine XS.iconst X1.here hx rfl (hb hby d1_79) ?_
  exact kz
 obtain ⟨T2, h2, k2, X2, e2, E2, A2, st2⟩ := newP X1 hx hZ (w_ hw 15 rfl) e1 (g := (mkF m 80 #[Vi x, Vi (x &&& (3 : Int32)), Vi ((((x.toUInt32 >>> ((2 : Int32) &&& 31).toUInt32).toInt32) &&& (255 : Int32)).toUInt32.toUInt16.toUInt32.toInt32), Vi ((((x.toUInt32 >>> ((10 : Int32) &&& 31).toUInt32).toInt32) &&& (255 : Int32)).toUInt32.toUInt16.toUInt32.toInt32), Vi ((((x.toUInt32 >>> ((18 : Int32) &&& 31).toUInt32).toInt32) &&& (255 : Int32)).toUInt32.toUInt16.toUInt32.toInt32)] [(.int 3), (.ref b1), (.ref b1)])) rfl (hb hby d1_80) rfl (by decide) (cap := 3) (by decide) (by decide) (by decide) (by decide)
 obtain ⟨b2, g2⟩ : ∃ z, z = h1.size := ⟨_, rfl⟩
 rw [← g2] at A2 st2
 refine Goes.via st2 ?_
 have C2 : Arv Z h2 b2 k2 .char (3 : Int32) [.int 0, .int 0, .int 0] (.int 0) := (Arv.new A2 (by decide)).pad (pad_rep [] (.int 0) 3)
 have K2 := K1.ext E2
 have FV := FV.ext E2
 have FC := FC.ext E2
 have Ea := A1.ext E2
 have nab : b1 ≠ b2 := adr_ne A1.lt g2 (Nat.le_refl _)
 have gc : @LE.le Nat _ h0.size b2 := Nat.le_trans E1.1 (Nat.le_of_eq g2.symm)
 refine Goes.via (S' := T2.setTop (mkF m 85 #[Vi x, Vi (x &&& (3 : Int32)), Vi ((((x.toUInt32 >>> ((2 : Int32) &&& 31).toUInt32).toInt32) &&& (255 : Int32)).toUInt32.toUInt16.toUInt32.toInt32), Vi ((((x.toUInt32 >>> ((10 : Int32) &&& 31).toUInt32).toInt32) &&& (255 : Int32)).toUInt32.toUInt16.toUInt32.toInt32), Vi ((((x.toUInt32 >>> ((18 : Int32) &&& 31).toUInt32).toInt32) &&& (255 : Int32)).toUInt32.toUInt16.toUInt32.toInt32)] [(.int ((((x.toUInt32 >>> ((2 : Int32) &&& 31).toUInt32).toInt32) &&& (255 : Int32)).toUInt32.toUInt16.toUInt32.toInt32)), (.int 0), (.ref b2), (.ref b2), (.ref b1), (.ref b1)])) (fun tz kz => ?_) ?_
 ·refine XS.dup X2.here hx rfl (hb hby d1_82) rfl rfl ?_
  refine XS.iconst X2.here hx rfl (hb hby d1_83) ?_
  refine XS.iloadN X2.here hx rfl (hb hby d1_84) rfl ?_
  exact kz
 obtain ⟨cl3, Ar3, q3, Sz3, Nn3, Hs3, G3⟩ := (id C2)
 obtain ⟨T4, h4, X4, e4, W4, st4⟩ := stC X2 hx hZ e2 Ar3 (j := (0 : Int32)) (inb_of Sz3 ⟨by decide, by decide⟩) (g := (mkF m 85 #[Vi x, Vi (x &&& (3 : Int32)), Vi ((((x.toUInt32 >>> ((2 : Int32) &&& 31).toUInt32).toInt32) &&& (255 : Int32)).toUInt32.toUInt16.toUInt32.toInt32), Vi ((((x.toUInt32 >>> ((10 : Int32) &&& 31).toUInt32).toInt32) &&& (255 : Int32)).toUInt32.toUInt16.toUInt32.toInt32), Vi ((((x.toUInt32 >>> ((18 : Int32) &&& 31).toUInt32).toInt32) &&& (255 : Int32)).toUInt32.toUInt16.toUInt32.toInt32)] [(.int ((((x.toUInt32 >>> ((2 : Int32) &&& 31).toUInt32).toInt32) &&& (255 : Int32)).toUInt32.toUInt16.toUInt32.toInt32)), (.int 0), (.ref b2), (.ref b2), (.ref b1), (.ref b1)])) rfl rfl (hb hby d1_85)
 refine Goes.via st4 ?_
 have N4 := Fr.snoc X4 N0 (Nat.le_trans Z0 gc)
 have C4 := Arv.set Ar3 q3 Sz3 Nn3 Hs3 G3 (fits_nar_char _) W4 0 rfl (Nat.le_of_ble_eq_true rfl)
 rw [own_u8.nc (own_u8.and _).c] at C4
 have FV := FV.other W4 (Or.inl nab)
 have FC := FC.other W4 (Or.inl nab)
 have Ea := Ea.wr W4
 have K4 := K2.wr W4 (Or.inr gc)
 refine Goes.via (S' := T4.setTop (mkF m 89 #[Vi x, Vi (x &&& (3 : Int32)), Vi ((((x.toUInt32 >>> ((2 : Int32) &&& 31).toUInt32).toInt32) &&& (255 : Int32)).toUInt32.toUInt16.toUInt32.toInt32), Vi ((((x.toUInt32 >>> ((10 : Int32) &&& 31).toUInt32).toInt32) &&& (255 : Int32)).toUInt32.toUInt16.toUInt32.toInt32), Vi ((((x.toUInt32 >>> ((18 : Int32) &&& 31).toUInt32).toInt32) &&& (255 : Int32)).toUInt32.toUInt16.toUInt32.toInt32)] [(.int ((((x.toUInt32 >>> ((10 : Int32) &&& 31).toUInt32).toInt32) &&& (255 : Int32)).toUInt32.toUInt16.toUInt32.toInt32)), (.int 1), (.ref b2), (.ref b2), (.ref b1), (.ref b1)])) (fun tz kz => ?_) ?_
 ·refine XS.dup X4.here hx rfl (hb hby d1_86) rfl rfl ?_
  refine XS.iconst X4.here hx rfl (hb hby d1_87) ?_
  refine XS.iloadN X4.here hx rfl (hb hby d1_88) rfl ?_
  exact kz
 obtain ⟨cl5, Ar5, q5, Sz5, Nn5, Hs5, G5⟩ := (id C4)
 obtain ⟨T6, h6, X6, e6, W6, st6⟩ := stC X4 hx hZ e4 Ar5 (j := (1 : Int32)) (inb_of Sz5 ⟨by decide, by decide⟩) (g := (mkF m 89 #[Vi x, Vi (x &&& (3 : Int32)), Vi ((((x.toUInt32 >>> ((2 : Int32) &&& 31).toUInt32).toInt32) &&& (255 : Int32)).toUInt32.toUInt16.toUInt32.toInt32), Vi ((((x.toUInt32 >>> ((10 : Int32) &&& 31).toUInt32).toInt32) &&& (255 : Int32)).toUInt32.toUInt16.toUInt32.toInt32), Vi ((((x.toUInt32 >>> ((18 : Int32) &&& 31).toUInt32).toInt32) &&& (255 : Int32)).toUInt32.toUInt16.toUInt32.toInt32)] [(.int ((((x.toUInt32 >>> ((10 : Int32) &&& 31).toUInt32).toInt32) &&& (255 : Int32)).toUInt32.toUInt16.toUInt32.toInt32)), (.int 1), (.ref b2), (.ref b2), (.ref b1), (.ref b1)])) rfl rfl (hb hby d1_89)
 refine Goes.via st6 ?_
 have N6 := Fr.snoc X6 N4 (Nat.le_trans Z0 gc)
 have C6 := Arv.set Ar5 q5 Sz5 Nn5 Hs5 G5 (fits_nar_char _) W6 1 rfl (Nat.le_of_ble_eq_true rfl)
 rw [own_u8.nc (own_u8.and _).c] at C6
 have FV := FV.other W6 (Or.inl nab)
 have FC := FC.other W6 (Or.inl nab)
 have Ea := Ea.wr W6
 have K6 := K4.wr W6 (Or.inr gc)
 refine Goes.via (S' := T6.setTop (mkF m 94 #[Vi x, Vi (x &&& (3 : Int32)), Vi ((((x.toUInt32 >>> ((2 : Int32) &&& 31).toUInt32).toInt32) &&& (255 : Int32)).toUInt32.toUInt16.toUInt32.toInt32), Vi ((((x.toUInt32 >>> ((10 : Int32) &&& 31).toUInt32).toInt32) &&& (255 : Int32)).toUInt32.toUInt16.toUInt32.toInt32), Vi ((((x.toUInt32 >>> ((18 : Int32) &&& 31).toUInt32).toInt32) &&& (255 : Int32)).toUInt32.toUInt16.toUInt32.toInt32)] [(.int ((((x.toUInt32 >>> ((18 : Int32) &&& 31).toUInt32).toInt32) &&& (255 : Int32)).toUInt32.toUInt16.toUInt32.toInt32)), (.int 2), (.ref b2), (.ref b2), (.ref b1), (.ref b1)])) (fun tz kz => ?_) ?_
 ·refine XS.dup X6.here hx rfl (hb hby d1_90) rfl rfl ?_
  refine XS.iconst X6.here hx rfl (hb hby d1_91) ?_
  refine XS.iload X6.here hx rfl (hb hby d1_92) rfl ?_
  exact kz
 obtain ⟨cl7, Ar7, q7, Sz7, Nn7, Hs7, G7⟩ := (id C6)
 obtain ⟨T8, h8, X8, e8, W8, st8⟩ := stC X6 hx hZ e6 Ar7 (j := (2 : Int32)) (inb_of Sz7 ⟨by decide, by decide⟩) (g := (mkF m 94 #[Vi x, Vi (x &&& (3 : Int32)), Vi ((((x.toUInt32 >>> ((2 : Int32) &&& 31).toUInt32).toInt32) &&& (255 : Int32)).toUInt32.toUInt16.toUInt32.toInt32), Vi ((((x.toUInt32 >>> ((10 : Int32) &&& 31).toUInt32).toInt32) &&& (255 : Int32)).toUInt32.toUInt16.toUInt32.toInt32), Vi ((((x.toUInt32 >>> ((18 : Int32) &&& 31).toUInt32).toInt32) &&& (255 : Int32)).toUInt32.toUInt16.toUInt32.toInt32)] [(.int ((((x.toUInt32 >>> ((18 : Int32) &&& 31).toUInt32).toInt32) &&& (255 : Int32)).toUInt32.toUInt16.toUInt32.toInt32)), (.int 2), (.ref b2), (.ref b2), (.ref b1), (.ref b1)])) rfl rfl (hb hby d1_94)
 refine Goes.via st8 ?_
 have N8 := Fr.snoc X8 N6 (Nat.le_trans Z0 gc)
 have C8 := Arv.set Ar7 q7 Sz7 Nn7 Hs7 G7 (fits_nar_char _) W8 2 rfl (Nat.le_of_ble_eq_true rfl)
 rw [own_u8.nc (own_u8.and _).c] at C8
 have FV := FV.other W8 (Or.inl nab)
 have FC := FC.other W8 (Or.inl nab)
 have Ea := Ea.wr W8
 have K8 := K6.wr W8 (Or.inr gc)
 obtain ⟨_, _, ⟨T9, L9, k9, n9⟩, -, X9, ⟨Lc9, hQ9, l9, y9, z9⟩, st9⟩ := X8.specialBack hx (y := n_31) rfl hown (mvT hZ (w_ hw 16 rfl)) (mvT hZ (w_ hw 17 rfl)) (mvT hZ (w_ hw 18 rfl)) (by decide) (backOf (W := 1) (rn1_3 l Z a0 hw [] b1 b2 cs k2 (own_c0 x) (own_c1 x) (own_c2 x) h8 n0 (Nat.le_trans Z0 K8.1) SC hcs (O0.keep K8 all0) FV FC Ea ga C8 (own_c0u x).sm (own_c1u x).sm (own_c2u x).sm) hZ (w_ hw 18 rfl) (w_ hw 7 rfl) (by decide) (by decide)) (g := (mkF m 95 #[Vi x, Vi (x &&& (3 : Int32)), Vi ((((x.toUInt32 >>> ((2 : Int32) &&& 31).toUInt32).toInt32) &&& (255 : Int32)).toUInt32.toUInt16.toUInt32.toInt32), Vi ((((x.toUInt32 >>> ((10 : Int32) &&& 31).toUInt32).toInt32) &&& (255 : Int32)).toUInt32.toUInt16.toUInt32.toInt32), Vi ((((x.toUInt32 >>> ((18 : Int32) &&& 31).toUInt32).toInt32) &&& (255 : Int32)).toUInt32.toUInt16.toUInt32.toInt32)] [(.ref b2), (.ref b1), (.ref b1)])) rfl (by rw [hml]; rfl) (Steps.refl _) (a := b1) (argsL := [(.ref b2)]) (rest := [(.ref b1)]) (lenOf pd_22 rfl) rfl (ww_ rfl rfl) (hb hby d1_95) (fun _ _ => ⟨rfl, e8, (by decide : 2 + 1 ≤ _), (by decide : 7 + 3 ≤ _)⟩)
 dsimp only [Pt.U, Pt.locs, Pt.cells, Pt.slots] at X9 l9 y9 z9 st9 hQ9
 subst l9 y9 z9
 obtain ⟨rfl, N9, K9, vb, kb, S9, gv⟩ := hQ9
 have Nf9 := Fr.app N8 N9
 refine Goes.via (fun _ kz => st9.trans kz) ?_
 have Kf := K8.trans K9 (allS (Or.inr (Nat.le_of_eq g1.symm)) all0)
 have hC10 := hC0.trans (CHr.keep (ws := []) Kf (fun _ q => absurd q List.not_mem_nil) hC0.1)
 exact Goes.retOH (s := s) (vm1 := s.vm) X9 hx Bd.notSynchronized ((State.WarmedH.refl s).since 0) (Nat.zero_le _) rfl hZ hEL hC10 Bd.returns rfl (Or.inr (Or.inr (Or.inr (Or.inr ⟨rfl, rfl, rfl⟩)))) (hb hby d1_98) (nb_ rfl) (nb_ rfl) ⟨b1, vb, kb, rfl, Nf9, Kf, S9⟩
def Q_rnm (Z : State) (x n : Int32) (h0 : Heap) (n0 : Nat) : Option Value → Heap → List Loc → Prop := fun v h L => ∃ a b k, v = some (.ref a) ∧ Fr n0 L ∧ Keep h0 h [] ∧ own_Str Z h a b k n (own_bl n (own_c0 x) (own_c1 x) (own_c2 x))
theorem rnm (l : Launch) (Z : State) (a0 : Array Value) (hw : ∀ d ∈ tables_1, d.before a0 Z = true) (x cs : Int32) (h0 : Heap) (n0 : Nat) (Z0 : n0 ≤ h0.size) (SC : Sta Z Z.heap "java/lang/String" "COMPACT_STRINGS" "Z" (.int cs)) (hcs : ¬ cs = (0 : Int32)) (O0 : Old Z n0 h0) :
  MetFree l n_36 (head1 (Jvm.Cond.code n_36 method_4_code 5 (some (.object "java/lang/String")) :: []) (Rm 4 3 12 80)) (fun a U => a = #[.int x] ∧ Z.Warmed39 U.vm ∧ U.heap = h0 ∧ CHv Z consts_1 U.vm h0) (fun _ _ _ _ _ => True) (fun _ U oo U' => ∃ vv LL, oo = .returned vv ∧ (Q_rnm Z x (x &&& (3 : Int32)) h0 n0) vv U'.heap LL ∧ CHr Z consts_1 U.vm U.heap U'.vm U'.heap ∧ ReturnedEndW U oo U' LL (Rm 4 3 12 80).cells (Rm 4 3 12 80).slots) := by
 rcases own_and4 x with hq | hq | hq | hq
 ·rw [hq]; exact rnm_0 l Z a0 hw [] x cs h0 n0 Z0 SC hcs O0 hq
 ·rw [hq]; exact rnm_1 l Z a0 hw [] x cs h0 n0 Z0 SC hcs O0 hq
 ·rw [hq]; exact rnm_2 l Z a0 hw [] x cs h0 n0 Z0 SC hcs O0 hq
 ·rw [hq]; exact rnm_3 l Z a0 hw [] x cs h0 n0 Z0 SC hcs O0 hq
def own_dd (b : Int32) (P : Prop) : Prop := (b = 1 ∧ P) ∨ (b = 0 ∧ ¬ P)
theorem own_dd.yes {b : Int32} {P : Prop} (h : own_dd b P) (q : ¬ b = 0) : P := h.elim (fun z => z.2) (fun z => absurd z.1 q)
theorem own_dd.no {b : Int32} {P : Prop} (h : own_dd b P) (q : b = 0) : ¬ P := h.elim (fun z => absurd (z.1.symm.trans q) (by decide)) (fun z => z.2)
theorem own_ky_len {n c0 c1 c2 mi d0 d1 d2 : Int32} (hn : own_len n) (hm : own_len mi) (u0 : own_u8 c0) (u1 : own_u8 c1) (u2 : own_u8 c2) (v0 : own_u8 d0) (v1 : own_u8 d1) (v2 : own_u8 d2) (h : own_ky n c0 c1 c2 = own_ky mi d0 d1 d2) : n = mi := by
 have q := congrArg List.length ((own_ky_eq hn hm u0 u1 u2 v0 v1 v2).mpr h)
 rcases hn with rfl | rfl | rfl | rfl <;> rcases hm with rfl | rfl | rfl | rfl <;> first | rfl | (simp [own_nl] at q)
theorem own_same {Z : State} {h : Heap} {a1 a2 va vb : Addr} {ka kb : ClassId} {n c0 c1 c2 mi d0 d1 d2 : Int32} (ea : a1 = a2) (SA : own_Str Z h a1 va ka n (own_bl n c0 c1 c2)) (SB : own_Str Z h a2 vb kb mi (own_bl mi d0 d1 d2)) (hn : own_len n) (hm : own_len mi) (u0 : own_u8 c0) (u1 : own_u8 c1) (u2 : own_u8 c2) (v0 : own_u8 d0) (v1 : own_u8 d1) (v2 : own_u8 d2) : own_ky n c0 c1 c2 = own_ky mi d0 d1 d2 := by
 subst ea
 obtain ⟨-, -, FA, c, ⟨A1, -⟩, -, A2, -, A3, -⟩ := SA
 obtain ⟨-, -, FB, d, ⟨B1, -⟩, -, B2, -, B3, -⟩ := SB
 have ev : va = vb := Classical.byContradiction fun q => absurd rfl (FA.ne FB (fun z => q (Value.ref.inj z)))
 subst ev
 cases A1.symm.trans B1
 have en : n = mi := by
  rcases hn with rfl | rfl | rfl | rfl <;> rcases hm with rfl | rfl | rfl | rfl <;> first | rfl | exact absurd (A2.symm.trans B2) (by decide)
 subst en
 apply (own_ky_eq hn hm u0 u1 u2 v0 v1 v2).mp
 have g : ∀ k, k < c.slots.size → (own_bl n c0 c1 c2).getD k (.int 0) = (own_bl n d0 d1 d2).getD k (.int 0) := fun k hk => Option.some.inj ((A3 k hk).symm.trans (B3 k hk))
 rw [A2] at g
 rcases hn with rfl | rfl | rfl | rfl
 ·rfl
 ·have g0 : own_by c0 = own_by d0 := Value.int.inj (g 0 (by decide))
  show [own_by c0] = [own_by d0]
  rw [g0]
 ·have g0 : own_by c0 = own_by d0 := Value.int.inj (g 0 (by decide))
  have g1 : own_by c1 = own_by d1 := Value.int.inj (g 1 (by decide))
  show [own_by c0, own_by c1] = [own_by d0, own_by d1]
  rw [g0, g1]
 ·have g0 : own_by c0 = own_by d0 := Value.int.inj (g 0 (by decide))
  have g1 : own_by c1 = own_by d1 := Value.int.inj (g 1 (by decide))
  have g2 : own_by c2 = own_by d2 := Value.int.inj (g 2 (by decide))
  show [own_by c0, own_by c1, own_by c2] = [own_by d0, own_by d1, own_by d2]
  rw [g0, g1, g2]
theorem own_L0 : own_len 0 := Or.inl rfl
theorem own_L1 : own_len 1 := Or.inr (Or.inl rfl)
theorem own_L2 : own_len 2 := Or.inr (Or.inr (Or.inl rfl))
theorem own_L3 : own_len 3 := Or.inr (Or.inr (Or.inr rfl))
theorem d46_0 : De c_46 0 (.aload_n 0) 1 := by decide +kernel
theorem d46_1 : De c_46 1 .arraylength 1 := by decide +kernel
theorem d46_2 : De c_46 2 (.aload_n 1) 1 := by decide +kernel
theorem d46_3 : De c_46 3 .arraylength 1 := by decide +kernel
theorem d46_4 : De c_46 4 (.if_icmp .ne 30) 3 := by decide +kernel
theorem d46_7 : De c_46 7 (.iconst 0) 1 := by decide +kernel
theorem d46_8 : De c_46 8 (.istore_n 2) 1 := by decide +kernel
theorem d46_9 : De c_46 9 (.iload_n 2) 1 := by decide +kernel
theorem d46_10 : De c_46 10 (.aload_n 0) 1 := by decide +kernel
theorem d46_11 : De c_46 11 .arraylength 1 := by decide +kernel
theorem d46_12 : De c_46 12 (.if_icmp .ge 20) 3 := by decide +kernel
theorem d46_15 : De c_46 15 (.aload_n 0) 1 := by decide +kernel
theorem d46_16 : De c_46 16 (.iload_n 2) 1 := by decide +kernel
theorem d46_17 : De c_46 17 .baload 1 := by decide +kernel
theorem d46_18 : De c_46 18 (.aload_n 1) 1 := by decide +kernel
theorem d46_19 : De c_46 19 (.iload_n 2) 1 := by decide +kernel
theorem d46_20 : De c_46 20 .baload 1 := by decide +kernel
theorem d46_21 : De c_46 21 (.if_icmp .eq 5) 3 := by decide +kernel
theorem d46_24 : De c_46 24 (.iconst 0) 1 := by decide +kernel
theorem d46_25 : De c_46 25 .ireturn 1 := by decide +kernel
theorem d46_26 : De c_46 26 (.iinc 2 1) 3 := by decide +kernel
theorem d46_29 : De c_46 29 (.goto (-20)) 3 := by decide +kernel
theorem d46_32 : De c_46 32 (.iconst 1) 1 := by decide +kernel
theorem d46_33 : De c_46 33 .ireturn 1 := by decide +kernel
theorem d46_34 : De c_46 34 (.iconst 0) 1 := by decide +kernel
theorem d46_35 : De c_46 35 .ireturn 1 := by decide +kernel
theorem pn_46 : plainName "java/lang/StringLatin1" = true := by first | (simp [plainName, overriddenIn]; done) | decide +kernel
theorem ef_46 (m : MethodId) (x0 : Addr) (x1 : Addr) : entryFrame m #[(.ref x0), (.ref x1)] 3 = mkF m 0 #[Vr x0, Vr x1, Vu] [] := by first | rfl | simp [entryFrame, mkF, argsToLocals, Value.category]
def Q_req_0 (Z : State) (ba : Addr) (bb : Addr) (ka kb : ClassId) (c0 c1 c2 d0 d1 d2 : Int32) (h0 : Heap) (n0 : Nat) : Option Value → Heap → List Loc → Prop := fun v h L => ∃ b, v = some (.int b) ∧ Fr n0 L ∧ h = h0 ∧ own_dd b (own_ky (0 : Int32) c0 c1 c2 = own_ky (0 : Int32) d0 d1 d2)
theorem req_0 (l : Launch) (Z : State) (a0 : Array Value) (hw : ∀ d ∈ tables_1, d.before a0 Z = true) (ws : List Jvm.Cond) (ba : Addr) (bb : Addr) (ka kb : ClassId) (c0 c1 c2 d0 d1 d2 : Int32) (h0 : Heap) (n0 : Nat) (Z0 : n0 ≤ h0.size) (A0 : Arv Z h0 ba ka .byte (0 : Int32) [] (.int 0)) (B0 : Arv Z h0 bb kb .byte (0 : Int32) [] (.int 0)) (u0 : own_u8 c0) (u1 : own_u8 c1) (u2 : own_u8 c2) (v0 : own_u8 d0) (v1 : own_u8 d1) (v2 : own_u8 d2) :
  own_M l Z n_37 (Jvm.Cond.code n_37 jdk_43_method_13_code 3 (some .boolean)) ws (Rm 0 0 0 0) #[(.ref ba), (.ref bb)] h0 (Q_req_0 Z ba bb ka kb c0 c1 c2 d0 d1 d2 h0 n0) := by
 refine MetFree.of_bodySF (plainFor_of_name pn_46) hisR ?_
 intro p e s m args below meth c s₁ Bd hml0 hP hK
 obtain ⟨rfl, hZ, hh⟩ := hP
 have hx := Bd.exec
 have hby := Bd.bytes
 have hml : c.maxLocals = 3 := hml0
 have hown : s.vm.findClass "java/lang/StringLatin1" = some m.cls := findClass_of_methodNamed Bd.named
 have hnm := (name_of_methodNamed Bd.named Bd.method).1
 have X0 : Stand p l e (Rm 0 0 0 0) s m #[(.ref ba), (.ref bb)] below meth c s₁ [] 0 0 := Stand.of_body Bd
 have e0 : s₁.heap = h0 := by rw [← hh, Bd.state]; rfl
 have N0 := Fr.nil n0
 show Goes p e below (Fin s (Q_req_0 Z ba bb ka kb c0 c1 c2 d0 d1 d2 h0 n0) (Rm 0 0 0 0).cells (Rm 0 0 0 0).slots) _
 refine Goes.via (S' := s₁.setTop (mkF m 0 #[Vr ba, Vr bb, Vu] [])) (fun tz kz => castTop (ef_46 m ba bb ) kz) ?_
 refine Goes.via (S' := s₁.setTop (mkF m 1 #[Vr ba, Vr bb, Vu] [(.ref ba)])) (fun tz kz => ?_) ?_
 ·refine XS.aloadN X0.here hx rfl (hb hby d46_0) rfl rfl ?_
  exact kz
 obtain ⟨cl1, Ar1, q1, Sz1, Nn1, Hs1, G1⟩ := (id A0)
 refine Goes.via (S' := s₁.setTop (mkF m 3 #[Vr ba, Vr bb, Vu] [(.ref bb), (.int 0)])) (fun tz kz => ?_) ?_
 ·refine X0.arraylength hx (by rw [e0]; exact Ar1.1) (State.isArrayOf_alike hZ.alike Ar1.2.1) (g := (mkF m 1 #[Vr ba, Vr bb, Vu] [(.ref ba)])) rfl rfl (hb hby d46_1) _ ?_
  rw [len_of Sz1 Nn1]
  refine XS.aloadN X0.here hx rfl (hb hby d46_2) rfl rfl ?_
  exact kz
 obtain ⟨cl2, Ar2, q2, Sz2, Nn2, Hs2, G2⟩ := (id B0)
 refine Goes.via (S' := s₁.setTop (mkF m 11 #[Vr ba, Vr bb, Vi 0] [(.ref ba), (.int 0)])) (fun tz kz => ?_) ?_
 ·refine X0.arraylength hx (by rw [e0]; exact Ar2.1) (State.isArrayOf_alike hZ.alike Ar2.2.1) (g := (mkF m 3 #[Vr ba, Vr bb, Vu] [(.ref bb), (.int 0)])) rfl rfl (hb hby d46_3) _ ?_
  rw [len_of Sz2 Nn2]
  refine XS.icmpNo X0.here hx rfl (hb hby d46_4) rfl (teq (by first | decide | rfl)).2 ?_
  refine XS.iconst X0.here hx rfl (hb hby d46_7) ?_
  refine XS.istoreN X0.here hx rfl (hb hby d46_8) rfl (l' := #[Vr ba, Vr bb, Vi 0]) rfl ?_
  refine XS.iloadN X0.here hx rfl (hb hby d46_9) rfl ?_
  refine XS.aloadN X0.here hx rfl (hb hby d46_10) rfl rfl ?_
  exact kz
 obtain ⟨cl3, Ar3, q3, Sz3, Nn3, Hs3, G3⟩ := (id A0)
 refine Goes.via (S' := s₁.setTop (mkF m 33 #[Vr ba, Vr bb, Vi 0] [(.int 1)])) (fun tz kz => ?_) ?_
 ·refine X0.arraylength hx (by rw [e0]; exact Ar3.1) (State.isArrayOf_alike hZ.alike Ar3.2.1) (g := (mkF m 11 #[Vr ba, Vr bb, Vi 0] [(.ref ba), (.int 0)])) rfl rfl (hb hby d46_11) _ ?_
  rw [len_of Sz3 Nn3]
  refine XS.icmpYes X0.here hx rfl (pc0 := 12) (pc' := 32) rfl (hb hby d46_12) rfl (flt (by first | decide | rfl)).2.1 (by decide) (by decide) ?_
  refine XS.iconst X0.here hx rfl (hb hby d46_32) ?_
  exact kz
 exact Goes.retN X0 hx Bd.notSynchronized (t := .boolean) Bd.returns (by simp) (hb hby d46_33) (nb_ rfl) (nb_ rfl) ⟨_, rfl, N0, e0, Or.inl ⟨rfl, (own_ky_eq own_L0 own_L0 u0 u1 u2 v0 v1 v2).mp (show [] = [] by rfl)⟩⟩
def Q_req_1 (Z : State) (ba : Addr) (bb : Addr) (ka kb : ClassId) (c0 c1 c2 d0 d1 d2 : Int32) (h0 : Heap) (n0 : Nat) : Option Value → Heap → List Loc → Prop := fun v h L => ∃ b, v = some (.int b) ∧ Fr n0 L ∧ h = h0 ∧ own_dd b (own_ky (1 : Int32) c0 c1 c2 = own_ky (1 : Int32) d0 d1 d2)
theorem req_1 (l : Launch) (Z : State) (a0 : Array Value) (hw : ∀ d ∈ tables_1, d.before a0 Z = true) (ws : List Jvm.Cond) (ba : Addr) (bb : Addr) (ka kb : ClassId) (c0 c1 c2 d0 d1 d2 : Int32) (h0 : Heap) (n0 : Nat) (Z0 : n0 ≤ h0.size) (A0 : Arv Z h0 ba ka .byte (1 : Int32) [.int (own_by c0)] (.int 0)) (B0 : Arv Z h0 bb kb .byte (1 : Int32) [.int (own_by d0)] (.int 0)) (u0 : own_u8 c0) (u1 : own_u8 c1) (u2 : own_u8 c2) (v0 : own_u8 d0) (v1 : own_u8 d1) (v2 : own_u8 d2) :
  own_M l Z n_37 (Jvm.Cond.code n_37 jdk_43_method_13_code 3 (some .boolean)) ws (Rm 0 0 0 0) #[(.ref ba), (.ref bb)] h0 (Q_req_1 Z ba bb ka kb c0 c1 c2 d0 d1 d2 h0 n0) := by
 refine MetFree.of_bodySF (plainFor_of_name pn_46) hisR ?_
 intro p e s m args below meth c s₁ Bd hml0 hP hK
 obtain ⟨rfl, hZ, hh⟩ := hP
 have hx := Bd.exec
 have hby := Bd.bytes
 have hml : c.maxLocals = 3 := hml0
 have hown : s.vm.findClass "java/lang/StringLatin1" = some m.cls := findClass_of_methodNamed Bd.named
 have hnm := (name_of_methodNamed Bd.named Bd.method).1
 have X0 : Stand p l e (Rm 0 0 0 0) s m #[(.ref ba), (.ref bb)] below meth c s₁ [] 0 0 := Stand.of_body Bd
 have e0 : s₁.heap = h0 := by rw [← hh, Bd.state]; rfl
 have N0 := Fr.nil n0
 show Goes p e below (Fin s (Q_req_1 Z ba bb ka kb c0 c1 c2 d0 d1 d2 h0 n0) (Rm 0 0 0 0).cells (Rm 0 0 0 0).slots) _
 refine Goes.via (S' := s₁.setTop (mkF m 0 #[Vr ba, Vr bb, Vu] [])) (fun tz kz => castTop (ef_46 m ba bb ) kz) ?_
 refine Goes.via (S' := s₁.setTop (mkF m 1 #[Vr ba, Vr bb, Vu] [(.ref ba)])) (fun tz kz => ?_) ?_
 ·refine XS.aloadN X0.here hx rfl (hb hby d46_0) rfl rfl ?_
  exact kz
 obtain ⟨cl1, Ar1, q1, Sz1, Nn1, Hs1, G1⟩ := (id A0)
 refine Goes.via (S' := s₁.setTop (mkF m 3 #[Vr ba, Vr bb, Vu] [(.ref bb), (.int 1)])) (fun tz kz => ?_) ?_
 ·refine X0.arraylength hx (by rw [e0]; exact Ar1.1) (State.isArrayOf_alike hZ.alike Ar1.2.1) (g := (mkF m 1 #[Vr ba, Vr bb, Vu] [(.ref ba)])) rfl rfl (hb hby d46_1) _ ?_
  rw [len_of Sz1 Nn1]
  refine XS.aloadN X0.here hx rfl (hb hby d46_2) rfl rfl ?_
  exact kz
 obtain ⟨cl2, Ar2, q2, Sz2, Nn2, Hs2, G2⟩ := (id B0)
 refine Goes.via (S' := s₁.setTop (mkF m 11 #[Vr ba, Vr bb, Vi 0] [(.ref ba), (.int 0)])) (fun tz kz => ?_) ?_
 ·refine X0.arraylength hx (by rw [e0]; exact Ar2.1) (State.isArrayOf_alike hZ.alike Ar2.2.1) (g := (mkF m 3 #[Vr ba, Vr bb, Vu] [(.ref bb), (.int 1)])) rfl rfl (hb hby d46_3) _ ?_
  rw [len_of Sz2 Nn2]
  refine XS.icmpNo X0.here hx rfl (hb hby d46_4) rfl (teq (by first | decide | rfl)).2 ?_
  refine XS.iconst X0.here hx rfl (hb hby d46_7) ?_
  refine XS.istoreN X0.here hx rfl (hb hby d46_8) rfl (l' := #[Vr ba, Vr bb, Vi 0]) rfl ?_
  refine XS.iloadN X0.here hx rfl (hb hby d46_9) rfl ?_
  refine XS.aloadN X0.here hx rfl (hb hby d46_10) rfl rfl ?_
  exact kz
 obtain ⟨cl3, Ar3, q3, Sz3, Nn3, Hs3, G3⟩ := (id A0)
 refine Goes.via (S' := s₁.setTop (mkF m 17 #[Vr ba, Vr bb, Vi 0] [(.int 0), (.ref ba)])) (fun tz kz => ?_) ?_
 ·refine X0.arraylength hx (by rw [e0]; exact Ar3.1) (State.isArrayOf_alike hZ.alike Ar3.2.1) (g := (mkF m 11 #[Vr ba, Vr bb, Vi 0] [(.ref ba), (.int 0)])) rfl rfl (hb hby d46_11) _ ?_
  rw [len_of Sz3 Nn3]
  refine XS.icmpNo X0.here hx rfl (hb hby d46_12) rfl (tlt (by first | decide | rfl)).2.1 ?_
  refine XS.aloadN X0.here hx rfl (hb hby d46_15) rfl rfl ?_
  refine XS.iloadN X0.here hx rfl (hb hby d46_16) rfl ?_
  exact kz
 obtain ⟨cl4, Ar4, q4, Sz4, Nn4, Hs4, G4⟩ := (id A0)
 refine Goes.via (S' := s₁.setTop (mkF m 20 #[Vr ba, Vr bb, Vi 0] [(.int 0), (.ref bb), (.int (own_by c0))])) (fun tz kz => ?_) ?_
 ·refine X0.baloadBytes hx (j := (0 : Int32)) (v := (.int (own_by c0))) (by rw [e0]; exact Ar4.1) (State.isArrayOf_alike hZ.alike Ar4.2.1) Ar4.2.2 (inb_of Sz4 ⟨by decide, by decide⟩) (Has.at Hs4 (inb_of Sz4 ⟨by decide, by decide⟩) rfl) (g := (mkF m 17 #[Vr ba, Vr bb, Vi 0] [(.int 0), (.ref ba)])) rfl rfl (hb hby d46_17) _ ?_
  refine XS.aloadN X0.here hx rfl (hb hby d46_18) rfl rfl ?_
  refine XS.iloadN X0.here hx rfl (hb hby d46_19) rfl ?_
  exact kz
 obtain ⟨cl5, Ar5, q5, Sz5, Nn5, Hs5, G5⟩ := (id B0)
 refine Goes.via (S' := s₁.setTop (mkF m 21 #[Vr ba, Vr bb, Vi 0] [(.int (own_by d0)), (.int (own_by c0))])) (fun tz kz => ?_) ?_
 ·refine X0.baloadBytes hx (j := (0 : Int32)) (v := (.int (own_by d0))) (by rw [e0]; exact Ar5.1) (State.isArrayOf_alike hZ.alike Ar5.2.1) Ar5.2.2 (inb_of Sz5 ⟨by decide, by decide⟩) (Has.at Hs5 (inb_of Sz5 ⟨by decide, by decide⟩) rfl) (g := (mkF m 20 #[Vr ba, Vr bb, Vi 0] [(.int 0), (.ref bb), (.int (own_by c0))])) rfl rfl (hb hby d46_20) _ ?_
  exact kz
 by_cases hc21_6 : (own_by c0) = (own_by d0)
 ·refine Goes.via (S' := s₁.setTop (mkF m 11 #[Vr ba, Vr bb, Vi 1] [(.ref ba), (.int 1)])) (fun tz kz => ?_) ?_
  ·refine XS.icmpYes X0.here hx rfl (pc0 := 21) (pc' := 26) rfl (hb hby d46_21) rfl (teq hc21_6).1 (by decide) (by decide) ?_
   refine XS.iinc X0.here hx rfl (hb hby d46_26) rfl (l' := #[Vr ba, Vr bb, Vi 1]) rfl ?_
   refine XS.goto X0.here hx rfl (pc0 := 29) (pc' := 9) rfl (hb hby d46_29) (by decide) (by decide) ?_
   refine XS.iloadN X0.here hx rfl (hb hby d46_9) rfl ?_
   refine XS.aloadN X0.here hx rfl (hb hby d46_10) rfl rfl ?_
   exact kz
  obtain ⟨cl7, Ar7, q7, Sz7, Nn7, Hs7, G7⟩ := (id A0)
  refine Goes.via (S' := s₁.setTop (mkF m 33 #[Vr ba, Vr bb, Vi 1] [(.int 1)])) (fun tz kz => ?_) ?_
  ·refine X0.arraylength hx (by rw [e0]; exact Ar7.1) (State.isArrayOf_alike hZ.alike Ar7.2.1) (g := (mkF m 11 #[Vr ba, Vr bb, Vi 1] [(.ref ba), (.int 1)])) rfl rfl (hb hby d46_11) _ ?_
   rw [len_of Sz7 Nn7]
   refine XS.icmpYes X0.here hx rfl (pc0 := 12) (pc' := 32) rfl (hb hby d46_12) rfl (flt (by first | decide | rfl)).2.1 (by decide) (by decide) ?_
   refine XS.iconst X0.here hx rfl (hb hby d46_32) ?_
   exact kz
  exact Goes.retN X0 hx Bd.notSynchronized (t := .boolean) Bd.returns (by simp) (hb hby d46_33) (nb_ rfl) (nb_ rfl) ⟨_, rfl, N0, e0, Or.inl ⟨rfl, (own_ky_eq own_L1 own_L1 u0 u1 u2 v0 v1 v2).mp (show [own_by c0] = [own_by d0] by rw [hc21_6])⟩⟩
 ·refine Goes.via (S' := s₁.setTop (mkF m 25 #[Vr ba, Vr bb, Vi 0] [(.int 0)])) (fun tz kz => ?_) ?_
  ·refine XS.icmpNo X0.here hx rfl (hb hby d46_21) rfl (feq hc21_6).1 ?_
   refine XS.iconst X0.here hx rfl (hb hby d46_24) ?_
   exact kz
  exact Goes.retN X0 hx Bd.notSynchronized (t := .boolean) Bd.returns (by simp) (hb hby d46_25) (nb_ rfl) (nb_ rfl) ⟨_, rfl, N0, e0, Or.inr ⟨rfl, fun z => absurd (show [own_by c0] = [own_by d0] from (own_ky_eq own_L1 own_L1 u0 u1 u2 v0 v1 v2).mpr z) (by simp [hc21_6])⟩⟩
def Q_req_2 (Z : State) (ba : Addr) (bb : Addr) (ka kb : ClassId) (c0 c1 c2 d0 d1 d2 : Int32) (h0 : Heap) (n0 : Nat) : Option Value → Heap → List Loc → Prop := fun v h L => ∃ b, v = some (.int b) ∧ Fr n0 L ∧ h = h0 ∧ own_dd b (own_ky (2 : Int32) c0 c1 c2 = own_ky (2 : Int32) d0 d1 d2)
theorem req_2 (l : Launch) (Z : State) (a0 : Array Value) (hw : ∀ d ∈ tables_1, d.before a0 Z = true) (ws : List Jvm.Cond) (ba : Addr) (bb : Addr) (ka kb : ClassId) (c0 c1 c2 d0 d1 d2 : Int32) (h0 : Heap) (n0 : Nat) (Z0 : n0 ≤ h0.size) (A0 : Arv Z h0 ba ka .byte (2 : Int32) [.int (own_by c0), .int (own_by c1)] (.int 0)) (B0 : Arv Z h0 bb kb .byte (2 : Int32) [.int (own_by d0), .int (own_by d1)] (.int 0)) (u0 : own_u8 c0) (u1 : own_u8 c1) (u2 : own_u8 c2) (v0 : own_u8 d0) (v1 : own_u8 d1) (v2 : own_u8 d2) :
  own_M l Z n_37 (Jvm.Cond.code n_37 jdk_43_method_13_code 3 (some .boolean)) ws (Rm 0 0 0 0) #[(.ref ba), (.ref bb)] h0 (Q_req_2 Z ba bb ka kb c0 c1 c2 d0 d1 d2 h0 n0) := by
 refine MetFree.of_bodySF (plainFor_of_name pn_46) hisR ?_
 intro p e s m args below meth c s₁ Bd hml0 hP hK
 obtain ⟨rfl, hZ, hh⟩ := hP
 have hx := Bd.exec
 have hby := Bd.bytes
 have hml : c.maxLocals = 3 := hml0
 have hown : s.vm.findClass "java/lang/StringLatin1" = some m.cls := findClass_of_methodNamed Bd.named
 have hnm := (name_of_methodNamed Bd.named Bd.method).1
 have X0 : Stand p l e (Rm 0 0 0 0) s m #[(.ref ba), (.ref bb)] below meth c s₁ [] 0 0 := Stand.of_body Bd
 have e0 : s₁.heap = h0 := by rw [← hh, Bd.state]; rfl
 have N0 := Fr.nil n0
 show Goes p e below (Fin s (Q_req_2 Z ba bb ka kb c0 c1 c2 d0 d1 d2 h0 n0) (Rm 0 0 0 0).cells (Rm 0 0 0 0).slots) _
 refine Goes.via (S' := s₁.setTop (mkF m 0 #[Vr ba, Vr bb, Vu] [])) (fun tz kz => castTop (ef_46 m ba bb ) kz) ?_
 refine Goes.via (S' := s₁.setTop (mkF m 1 #[Vr ba, Vr bb, Vu] [(.ref ba)])) (fun tz kz => ?_) ?_
 ·refine XS.aloadN X0.here hx rfl (hb hby d46_0) rfl rfl ?_
  exact kz
 obtain ⟨cl1, Ar1, q1, Sz1, Nn1, Hs1, G1⟩ := (id A0)
 refine Goes.via (S' := s₁.setTop (mkF m 3 #[Vr ba, Vr bb, Vu] [(.ref bb), (.int 2)])) (fun tz kz => ?_) ?_
 ·refine X0.arraylength hx (by rw [e0]; exact Ar1.1) (State.isArrayOf_alike hZ.alike Ar1.2.1) (g := (mkF m 1 #[Vr ba, Vr bb, Vu] [(.ref ba)])) rfl rfl (hb hby d46_1) _ ?_
  rw [len_of Sz1 Nn1]
  refine XS.aloadN X0.here hx rfl (hb hby d46_2) rfl rfl ?_
  exact kz
 obtain ⟨cl2, Ar2, q2, Sz2, Nn2, Hs2, G2⟩ := (id B0)
 refine Goes.via (S' := s₁.setTop (mkF m 11 #[Vr ba, Vr bb, Vi 0] [(.ref ba), (.int 0)])) (fun tz kz => ?_) ?_
 ·refine X0.arraylength hx (by rw [e0]; exact Ar2.1) (State.isArrayOf_alike hZ.alike Ar2.2.1) (g := (mkF m 3 #[Vr ba, Vr bb, Vu] [(.ref bb), (.int 2)])) rfl rfl (hb hby d46_3) _ ?_
  rw [len_of Sz2 Nn2]
  refine XS.icmpNo X0.here hx rfl (hb hby d46_4) rfl (teq (by first | decide | rfl)).2 ?_
  refine XS.iconst X0.here hx rfl (hb hby d46_7) ?_
  refine XS.istoreN X0.here hx rfl (hb hby d46_8) rfl (l' := #[Vr ba, Vr bb, Vi 0]) rfl ?_
  refine XS.iloadN X0.here hx rfl (hb hby d46_9) rfl ?_
  refine XS.aloadN X0.here hx rfl (hb hby d46_10) rfl rfl ?_
  exact kz
 obtain ⟨cl3, Ar3, q3, Sz3, Nn3, Hs3, G3⟩ := (id A0)
 refine Goes.via (S' := s₁.setTop (mkF m 17 #[Vr ba, Vr bb, Vi 0] [(.int 0), (.ref ba)])) (fun tz kz => ?_) ?_
 ·refine X0.arraylength hx (by rw [e0]; exact Ar3.1) (State.isArrayOf_alike hZ.alike Ar3.2.1) (g := (mkF m 11 #[Vr ba, Vr bb, Vi 0] [(.ref ba), (.int 0)])) rfl rfl (hb hby d46_11) _ ?_
  rw [len_of Sz3 Nn3]
  refine XS.icmpNo X0.here hx rfl (hb hby d46_12) rfl (tlt (by first | decide | rfl)).2.1 ?_
  refine XS.aloadN X0.here hx rfl (hb hby d46_15) rfl rfl ?_
  refine XS.iloadN X0.here hx rfl (hb hby d46_16) rfl ?_
  exact kz
 obtain ⟨cl4, Ar4, q4, Sz4, Nn4, Hs4, G4⟩ := (id A0)
 refine Goes.via (S' := s₁.setTop (mkF m 20 #[Vr ba, Vr bb, Vi 0] [(.int 0), (.ref bb), (.int (own_by c0))])) (fun tz kz => ?_) ?_
 ·refine X0.baloadBytes hx (j := (0 : Int32)) (v := (.int (own_by c0))) (by rw [e0]; exact Ar4.1) (State.isArrayOf_alike hZ.alike Ar4.2.1) Ar4.2.2 (inb_of Sz4 ⟨by decide, by decide⟩) (Has.at Hs4 (inb_of Sz4 ⟨by decide, by decide⟩) rfl) (g := (mkF m 17 #[Vr ba, Vr bb, Vi 0] [(.int 0), (.ref ba)])) rfl rfl (hb hby d46_17) _ ?_
  refine XS.aloadN X0.here hx rfl (hb hby d46_18) rfl rfl ?_
  refine XS.iloadN X0.here hx rfl (hb hby d46_19) rfl ?_
  exact kz
 obtain ⟨cl5, Ar5, q5, Sz5, Nn5, Hs5, G5⟩ := (id B0)
 refine Goes.via (S' := s₁.setTop (mkF m 21 #[Vr ba, Vr bb, Vi 0] [(.int (own_by d0)), (.int (own_by c0))])) (fun tz kz => ?_) ?_
 ·refine X0.baloadBytes hx (j := (0 : Int32)) (v := (.int (own_by d0))) (by rw [e0]; exact Ar5.1) (State.isArrayOf_alike hZ.alike Ar5.2.1) Ar5.2.2 (inb_of Sz5 ⟨by decide, by decide⟩) (Has.at Hs5 (inb_of Sz5 ⟨by decide, by decide⟩) rfl) (g := (mkF m 20 #[Vr ba, Vr bb, Vi 0] [(.int 0), (.ref bb), (.int (own_by c0))])) rfl rfl (hb hby d46_20) _ ?_
  exact kz
 by_cases hc21_6 : (own_by c0) = (own_by d0)
 ·refine Goes.via (S' := s₁.setTop (mkF m 11 #[Vr ba, Vr bb, Vi 1] [(.ref ba), (.int 1)])) (fun tz kz => ?_) ?_
  ·refine XS.icmpYes X0.here hx rfl (pc0 := 21) (pc' := 26) rfl (hb hby d46_21) rfl (teq hc21_6).1 (by decide) (by decide) ?_
   refine XS.iinc X0.here hx rfl (hb hby d46_26) rfl (l' := #[Vr ba, Vr bb, Vi 1]) rfl ?_
   refine XS.goto X0.here hx rfl (pc0 := 29) (pc' := 9) rfl (hb hby d46_29) (by decide) (by decide) ?_
   refine XS.iloadN X0.here hx rfl (hb hby d46_9) rfl ?_
   refine XS.aloadN X0.here hx rfl (hb hby d46_10) rfl rfl ?_
   exact kz
  obtain ⟨cl7, Ar7, q7, Sz7, Nn7, Hs7, G7⟩ := (id A0)
  refine Goes.via (S' := s₁.setTop (mkF m 17 #[Vr ba, Vr bb, Vi 1] [(.int 1), (.ref ba)])) (fun tz kz => ?_) ?_
  ·refine X0.arraylength hx (by rw [e0]; exact Ar7.1) (State.isArrayOf_alike hZ.alike Ar7.2.1) (g := (mkF m 11 #[Vr ba, Vr bb, Vi 1] [(.ref ba), (.int 1)])) rfl rfl (hb hby d46_11) _ ?_
   rw [len_of Sz7 Nn7]
   refine XS.icmpNo X0.here hx rfl (hb hby d46_12) rfl (tlt (by first | decide | rfl)).2.1 ?_
   refine XS.aloadN X0.here hx rfl (hb hby d46_15) rfl rfl ?_
   refine XS.iloadN X0.here hx rfl (hb hby d46_16) rfl ?_
   exact kz
  obtain ⟨cl8, Ar8, q8, Sz8, Nn8, Hs8, G8⟩ := (id A0)
  refine Goes.via (S' := s₁.setTop (mkF m 20 #[Vr ba, Vr bb, Vi 1] [(.int 1), (.ref bb), (.int (own_by c1))])) (fun tz kz => ?_) ?_
  ·refine X0.baloadBytes hx (j := (1 : Int32)) (v := (.int (own_by c1))) (by rw [e0]; exact Ar8.1) (State.isArrayOf_alike hZ.alike Ar8.2.1) Ar8.2.2 (inb_of Sz8 ⟨by decide, by decide⟩) (Has.at Hs8 (inb_of Sz8 ⟨by decide, by decide⟩) rfl) (g := (mkF m 17 #[Vr ba, Vr bb, Vi 1] [(.int 1), (.ref ba)])) rfl rfl (hb hby d46_17) _ ?_
   refine XS.aloadN X0.here hx rfl (hb hby d46_18) rfl rfl ?_
   refine XS.iloadN X0.here hx rfl (hb hby d46_19) rfl ?_
   exact kz
  obtain ⟨cl9, Ar9, q9, Sz9, Nn9, Hs9, G9⟩ := (id B0)
  refine Goes.via (S' := s₁.setTop (mkF m 21 #[Vr ba, Vr bb, Vi 1] [(.int (own_by d1)), (.int (own_by c1))])) (fun tz kz => ?_) ?_
  ·refine X0.baloadBytes hx (j := (1 : Int32)) (v := (.int (own_by d1))) (by rw [e0]; exact Ar9.1) (State.isArrayOf_alike hZ.alike Ar9.2.1) Ar9.2.2 (inb_of Sz9 ⟨by decide, by decide⟩) (Has.at Hs9 (inb_of Sz9 ⟨by decide, by decide⟩) rfl) (g := (mkF m 20 #[Vr ba, Vr bb, Vi 1] [(.int 1), (.ref bb), (.int (own_by c1))])) rfl rfl (hb hby d46_20) _ ?_
   exact kz
  by_cases hc21_10 : (own_by c1) = (own_by d1)
  ·refine Goes.via (S' := s₁.setTop (mkF m 11 #[Vr ba, Vr bb, Vi 2] [(.ref ba), (.int 2)])) (fun tz kz => ?_) ?_
   ·refine XS.icmpYes X0.here hx rfl (pc0 := 21) (pc' := 26) rfl (hb hby d46_21) rfl (teq hc21_10).1 (by decide) (by decide) ?_
    refine XS.iinc X0.here hx rfl (hb hby d46_26) rfl (l' := #[Vr ba, Vr bb, Vi 2]) rfl ?_
    refine XS.goto X0.here hx rfl (pc0 := 29) (pc' := 9) rfl (hb hby d46_29) (by decide) (by decide) ?_
    refine XS.iloadN X0.here hx rfl (hb hby d46_9) rfl ?_
    refine XS.aloadN X0.here hx rfl (hb hby d46_10) rfl rfl ?_
    exact kz
   obtain ⟨cl11, Ar11, q11, Sz11, Nn11, Hs11, G11⟩ := (id A0)
   refine Goes.via (S' := s₁.setTop (mkF m 33 #[Vr ba, Vr bb, Vi 2] [(.int 1)])) (fun tz kz => ?_) ?_
   ·refine X0.arraylength hx (by rw [e0]; exact Ar11.1) (State.isArrayOf_alike hZ.alike Ar11.2.1) (g := (mkF m 11 #[Vr ba, Vr bb, Vi 2] [(.ref ba), (.int 2)])) rfl rfl (hb hby d46_11) _ ?_
    rw [len_of Sz11 Nn11]
    refine XS.icmpYes X0.here hx rfl (pc0 := 12) (pc' := 32) rfl (hb hby d46_12) rfl (flt (by first | decide | rfl)).2.1 (by decide) (by decide) ?_
    refine XS.iconst X0.here hx rfl (hb hby d46_32) ?_
    exact kz
   exact Goes.retN X0 hx Bd.notSynchronized (t := .boolean) Bd.returns (by simp) (hb hby d46_33) (nb_ rfl) (nb_ rfl) ⟨_, rfl, N0, e0, Or.inl ⟨rfl, (own_ky_eq own_L2 own_L2 u0 u1 u2 v0 v1 v2).mp (show [own_by c0, own_by c1] = [own_by d0, own_by d1] by rw [hc21_6, hc21_10])⟩⟩
  ·refine Goes.via (S' := s₁.setTop (mkF m 25 #[Vr ba, Vr bb, Vi 1] [(.int 0)])) (fun tz kz => ?_) ?_
   ·refine XS.icmpNo X0.here hx rfl (hb hby d46_21) rfl (feq hc21_10).1 ?_
    refine XS.iconst X0.here hx rfl (hb hby d46_24) ?_
    exact kz
   exact Goes.retN X0 hx Bd.notSynchronized (t := .boolean) Bd.returns (by simp) (hb hby d46_25) (nb_ rfl) (nb_ rfl) ⟨_, rfl, N0, e0, Or.inr ⟨rfl, fun z => absurd (show [own_by c0, own_by c1] = [own_by d0, own_by d1] from (own_ky_eq own_L2 own_L2 u0 u1 u2 v0 v1 v2).mpr z) (by simp [hc21_6, hc21_10])⟩⟩
 ·refine Goes.via (S' := s₁.setTop (mkF m 25 #[Vr ba, Vr bb, Vi 0] [(.int 0)])) (fun tz kz => ?_) ?_
  ·refine XS.icmpNo X0.here hx rfl (hb hby d46_21) rfl (feq hc21_6).1 ?_
   refine XS.iconst X0.here hx rfl (hb hby d46_24) ?_
   exact kz
  exact Goes.retN X0 hx Bd.notSynchronized (t := .boolean) Bd.returns (by simp) (hb hby d46_25) (nb_ rfl) (nb_ rfl) ⟨_, rfl, N0, e0, Or.inr ⟨rfl, fun z => absurd (show [own_by c0, own_by c1] = [own_by d0, own_by d1] from (own_ky_eq own_L2 own_L2 u0 u1 u2 v0 v1 v2).mpr z) (by simp [hc21_6])⟩⟩
def Q_req_3 (Z : State) (ba : Addr) (bb : Addr) (ka kb : ClassId) (c0 c1 c2 d0 d1 d2 : Int32) (h0 : Heap) (n0 : Nat) : Option Value → Heap → List Loc → Prop := fun v h L => ∃ b, v = some (.int b) ∧ Fr n0 L ∧ h = h0 ∧ own_dd b (own_ky (3 : Int32) c0 c1 c2 = own_ky (3 : Int32) d0 d1 d2)
theorem req_3 (l : Launch) (Z : State) (a0 : Array Value) (hw : ∀ d ∈ tables_1, d.before a0 Z = true) (ws : List Jvm.Cond) (ba : Addr) (bb : Addr) (ka kb : ClassId) (c0 c1 c2 d0 d1 d2 : Int32) (h0 : Heap) (n0 : Nat) (Z0 : n0 ≤ h0.size) (A0 : Arv Z h0 ba ka .byte (3 : Int32) [.int (own_by c0), .int (own_by c1), .int (own_by c2)] (.int 0)) (B0 : Arv Z h0 bb kb .byte (3 : Int32) [.int (own_by d0), .int (own_by d1), .int (own_by d2)] (.int 0)) (u0 : own_u8 c0) (u1 : own_u8 c1) (u2 : own_u8 c2) (v0 : own_u8 d0) (v1 : own_u8 d1) (v2 : own_u8 d2) :
  own_M l Z n_37 (Jvm.Cond.code n_37 jdk_43_method_13_code 3 (some .boolean)) ws (Rm 0 0 0 0) #[(.ref ba), (.ref bb)] h0 (Q_req_3 Z ba bb ka kb c0 c1 c2 d0 d1 d2 h0 n0) := by
 refine MetFree.of_bodySF (plainFor_of_name pn_46) hisR ?_
 intro p e s m args below meth c s₁ Bd hml0 hP hK
 obtain ⟨rfl, hZ, hh⟩ := hP
 have hx := Bd.exec
 have hby := Bd.bytes
 have hml : c.maxLocals = 3 := hml0
 have hown : s.vm.findClass "java/lang/StringLatin1" = some m.cls := findClass_of_methodNamed Bd.named
 have hnm := (name_of_methodNamed Bd.named Bd.method).1
 have X0 : Stand p l e (Rm 0 0 0 0) s m #[(.ref ba), (.ref bb)] below meth c s₁ [] 0 0 := Stand.of_body Bd
 have e0 : s₁.heap = h0 := by rw [← hh, Bd.state]; rfl
 have N0 := Fr.nil n0
 show Goes p e below (Fin s (Q_req_3 Z ba bb ka kb c0 c1 c2 d0 d1 d2 h0 n0) (Rm 0 0 0 0).cells (Rm 0 0 0 0).slots) _
 refine Goes.via (S' := s₁.setTop (mkF m 0 #[Vr ba, Vr bb, Vu] [])) (fun tz kz => castTop (ef_46 m ba bb ) kz) ?_
 refine Goes.via (S' := s₁.setTop (mkF m 1 #[Vr ba, Vr bb, Vu] [(.ref ba)])) (fun tz kz => ?_) ?_
 ·refine XS.aloadN X0.here hx rfl (hb hby d46_0) rfl rfl ?_
  exact kz
 obtain ⟨cl1, Ar1, q1, Sz1, Nn1, Hs1, G1⟩ := (id A0)
 refine Goes.via (S' := s₁.setTop (mkF m 3 #[Vr ba, Vr bb, Vu] [(.ref bb), (.int 3)])) (fun tz kz => ?_) ?_
 ·refine X0.arraylength hx (by rw [e0]; exact Ar1.1) (State.isArrayOf_alike hZ.alike Ar1.2.1) (g := (mkF m 1 #[Vr ba, Vr bb, Vu] [(.ref ba)])) rfl rfl (hb hby d46_1) _ ?_
  rw [len_of Sz1 Nn1]
  refine XS.aloadN X0.here hx rfl (hb hby d46_2) rfl rfl ?_
  exact kz
 obtain ⟨cl2, Ar2, q2, Sz2, Nn2, Hs2, G2⟩ := (id B0)
 refine Goes.via (S' := s₁.setTop (mkF m 11 #[Vr ba, Vr bb, Vi 0] [(.ref ba), (.int 0)])) (fun tz kz => ?_) ?_
 ·refine X0.arraylength hx (by rw [e0]; exact Ar2.1) (State.isArrayOf_alike hZ.alike Ar2.2.1) (g := (mkF m 3 #[Vr ba, Vr bb, Vu] [(.ref bb), (.int 3)])) rfl rfl (hb hby d46_3) _ ?_
  rw [len_of Sz2 Nn2]
  refine XS.icmpNo X0.here hx rfl (hb hby d46_4) rfl (teq (by first | decide | rfl)).2 ?_
  refine XS.iconst X0.here hx rfl (hb hby d46_7) ?_
  refine XS.istoreN X0.here hx rfl (hb hby d46_8) rfl (l' := #[Vr ba, Vr bb, Vi 0]) rfl ?_
  refine XS.iloadN X0.here hx rfl (hb hby d46_9) rfl ?_
  refine XS.aloadN X0.here hx rfl (hb hby d46_10) rfl rfl ?_
  exact kz
 obtain ⟨cl3, Ar3, q3, Sz3, Nn3, Hs3, G3⟩ := (id A0)
 refine Goes.via (S' := s₁.setTop (mkF m 17 #[Vr ba, Vr bb, Vi 0] [(.int 0), (.ref ba)])) (fun tz kz => ?_) ?_
 ·refine X0.arraylength hx (by rw [e0]; exact Ar3.1) (State.isArrayOf_alike hZ.alike Ar3.2.1) (g := (mkF m 11 #[Vr ba, Vr bb, Vi 0] [(.ref ba), (.int 0)])) rfl rfl (hb hby d46_11) _ ?_
  rw [len_of Sz3 Nn3]
  refine XS.icmpNo X0.here hx rfl (hb hby d46_12) rfl (tlt (by first | decide | rfl)).2.1 ?_
  refine XS.aloadN X0.here hx rfl (hb hby d46_15) rfl rfl ?_
  refine XS.iloadN X0.here hx rfl (hb hby d46_16) rfl ?_
  exact kz
 obtain ⟨cl4, Ar4, q4, Sz4, Nn4, Hs4, G4⟩ := (id A0)
 refine Goes.via (S' := s₁.setTop (mkF m 20 #[Vr ba, Vr bb, Vi 0] [(.int 0), (.ref bb), (.int (own_by c0))])) (fun tz kz => ?_) ?_
 ·refine X0.baloadBytes hx (j := (0 : Int32)) (v := (.int (own_by c0))) (by rw [e0]; exact Ar4.1) (State.isArrayOf_alike hZ.alike Ar4.2.1) Ar4.2.2 (inb_of Sz4 ⟨by decide, by decide⟩) (Has.at Hs4 (inb_of Sz4 ⟨by decide, by decide⟩) rfl) (g := (mkF m 17 #[Vr ba, Vr bb, Vi 0] [(.int 0), (.ref ba)])) rfl rfl (hb hby d46_17) _ ?_
  refine XS.aloadN X0.here hx rfl (hb hby d46_18) rfl rfl ?_
  refine XS.iloadN X0.here hx rfl (hb hby d46_19) rfl ?_
  exact kz
 obtain ⟨cl5, Ar5, q5, Sz5, Nn5, Hs5, G5⟩ := (id B0)
 refine Goes.via (S' := s₁.setTop (mkF m 21 #[Vr ba, Vr bb, Vi 0] [(.int (own_by d0)), (.int (own_by c0))])) (fun tz kz => ?_) ?_
 ·refine X0.baloadBytes hx (j := (0 : Int32)) (v := (.int (own_by d0))) (by rw [e0]; exact Ar5.1) (State.isArrayOf_alike hZ.alike Ar5.2.1) Ar5.2.2 (inb_of Sz5 ⟨by decide, by decide⟩) (Has.at Hs5 (inb_of Sz5 ⟨by decide, by decide⟩) rfl) (g := (mkF m 20 #[Vr ba, Vr bb, Vi 0] [(.int 0), (.ref bb), (.int (own_by c0))])) rfl rfl (hb hby d46_20) _ ?_
  exact kz
 by_cases hc21_6 : (own_by c0) = (own_by d0)
 ·refine Goes.via (S' := s₁.setTop (mkF m 11 #[Vr ba, Vr bb, Vi 1] [(.ref ba), (.int 1)])) (fun tz kz => ?_) ?_
  ·refine XS.icmpYes X0.here hx rfl (pc0 := 21) (pc' := 26) rfl (hb hby d46_21) rfl (teq hc21_6).1 (by decide) (by decide) ?_
   refine XS.iinc X0.here hx rfl (hb hby d46_26) rfl (l' := #[Vr ba, Vr bb, Vi 1]) rfl ?_
   refine XS.goto X0.here hx rfl (pc0 := 29) (pc' := 9) rfl (hb hby d46_29) (by decide) (by decide) ?_
   refine XS.iloadN X0.here hx rfl (hb hby d46_9) rfl ?_
   refine XS.aloadN X0.here hx rfl (hb hby d46_10) rfl rfl ?_
   exact kz
  obtain ⟨cl7, Ar7, q7, Sz7, Nn7, Hs7, G7⟩ := (id A0)
  refine Goes.via (S' := s₁.setTop (mkF m 17 #[Vr ba, Vr bb, Vi 1] [(.int 1), (.ref ba)])) (fun tz kz => ?_) ?_
  ·refine X0.arraylength hx (by rw [e0]; exact Ar7.1) (State.isArrayOf_alike hZ.alike Ar7.2.1) (g := (mkF m 11 #[Vr ba, Vr bb, Vi 1] [(.ref ba), (.int 1)])) rfl rfl (hb hby d46_11) _ ?_
   rw [len_of Sz7 Nn7]
   refine XS.icmpNo X0.here hx rfl (hb hby d46_12) rfl (tlt (by first | decide | rfl)).2.1 ?_
   refine XS.aloadN X0.here hx rfl (hb hby d46_15) rfl rfl ?_
   refine XS.iloadN X0.here hx rfl (hb hby d46_16) rfl ?_
   exact kz
  obtain ⟨cl8, Ar8, q8, Sz8, Nn8, Hs8, G8⟩ := (id A0)
  refine Goes.via (S' := s₁.setTop (mkF m 20 #[Vr ba, Vr bb, Vi 1] [(.int 1), (.ref bb), (.int (own_by c1))])) (fun tz kz => ?_) ?_
  ·refine X0.baloadBytes hx (j := (1 : Int32)) (v := (.int (own_by c1))) (by rw [e0]; exact Ar8.1) (State.isArrayOf_alike hZ.alike Ar8.2.1) Ar8.2.2 (inb_of Sz8 ⟨by decide, by decide⟩) (Has.at Hs8 (inb_of Sz8 ⟨by decide, by decide⟩) rfl) (g := (mkF m 17 #[Vr ba, Vr bb, Vi 1] [(.int 1), (.ref ba)])) rfl rfl (hb hby d46_17) _ ?_
   refine XS.aloadN X0.here hx rfl (hb hby d46_18) rfl rfl ?_
   refine XS.iloadN X0.here hx rfl (hb hby d46_19) rfl ?_
   exact kz
  obtain ⟨cl9, Ar9, q9, Sz9, Nn9, Hs9, G9⟩ := (id B0)
  refine Goes.via (S' := s₁.setTop (mkF m 21 #[Vr ba, Vr bb, Vi 1] [(.int (own_by d1)), (.int (own_by c1))])) (fun tz kz => ?_) ?_
  ·refine X0.baloadBytes hx (j := (1 : Int32)) (v := (.int (own_by d1))) (by rw [e0]; exact Ar9.1) (State.isArrayOf_alike hZ.alike Ar9.2.1) Ar9.2.2 (inb_of Sz9 ⟨by decide, by decide⟩) (Has.at Hs9 (inb_of Sz9 ⟨by decide, by decide⟩) rfl) (g := (mkF m 20 #[Vr ba, Vr bb, Vi 1] [(.int 1), (.ref bb), (.int (own_by c1))])) rfl rfl (hb hby d46_20) _ ?_
   exact kz
  by_cases hc21_10 : (own_by c1) = (own_by d1)
  ·refine Goes.via (S' := s₁.setTop (mkF m 11 #[Vr ba, Vr bb, Vi 2] [(.ref ba), (.int 2)])) (fun tz kz => ?_) ?_
   ·refine XS.icmpYes X0.here hx rfl (pc0 := 21) (pc' := 26) rfl (hb hby d46_21) rfl (teq hc21_10).1 (by decide) (by decide) ?_
    refine XS.iinc X0.here hx rfl (hb hby d46_26) rfl (l' := #[Vr ba, Vr bb, Vi 2]) rfl ?_
    refine XS.goto X0.here hx rfl (pc0 := 29) (pc' := 9) rfl (hb hby d46_29) (by decide) (by decide) ?_
    refine XS.iloadN X0.here hx rfl (hb hby d46_9) rfl ?_
    refine XS.aloadN X0.here hx rfl (hb hby d46_10) rfl rfl ?_
    exact kz
   obtain ⟨cl11, Ar11, q11, Sz11, Nn11, Hs11, G11⟩ := (id A0)
   refine Goes.via (S' := s₁.setTop (mkF m 17 #[Vr ba, Vr bb, Vi 2] [(.int 2), (.ref ba)])) (fun tz kz => ?_) ?_
   ·refine X0.arraylength hx (by rw [e0]; exact Ar11.1) (State.isArrayOf_alike hZ.alike Ar11.2.1) (g := (mkF m 11 #[Vr ba, Vr bb, Vi 2] [(.ref ba), (.int 2)])) rfl rfl (hb hby d46_11) _ ?_
    rw [len_of Sz11 Nn11]
    refine XS.icmpNo X0.here hx rfl (hb hby d46_12) rfl (tlt (by first | decide | rfl)).2.1 ?_
    refine XS.aloadN X0.here hx rfl (hb hby d46_15) rfl rfl ?_
    refine XS.iloadN X0.here hx rfl (hb hby d46_16) rfl ?_
    exact kz
   obtain ⟨cl12, Ar12, q12, Sz12, Nn12, Hs12, G12⟩ := (id A0)
   refine Goes.via (S' := s₁.setTop (mkF m 20 #[Vr ba, Vr bb, Vi 2] [(.int 2), (.ref bb), (.int (own_by c2))])) (fun tz kz => ?_) ?_
   ·refine X0.baloadBytes hx (j := (2 : Int32)) (v := (.int (own_by c2))) (by rw [e0]; exact Ar12.1) (State.isArrayOf_alike hZ.alike Ar12.2.1) Ar12.2.2 (inb_of Sz12 ⟨by decide, by decide⟩) (Has.at Hs12 (inb_of Sz12 ⟨by decide, by decide⟩) rfl) (g := (mkF m 17 #[Vr ba, Vr bb, Vi 2] [(.int 2), (.ref ba)])) rfl rfl (hb hby d46_17) _ ?_
    refine XS.aloadN X0.here hx rfl (hb hby d46_18) rfl rfl ?_
    refine XS.iloadN X0.here hx rfl (hb hby d46_19) rfl ?_
    exact kz
   obtain ⟨cl13, Ar13, q13, Sz13, Nn13, Hs13, G13⟩ := (id B0)
   refine Goes.via (S' := s₁.setTop (mkF m 21 #[Vr ba, Vr bb, Vi 2] [(.int (own_by d2)), (.int (own_by c2))])) (fun tz kz => ?_) ?_
   ·refine X0.baloadBytes hx (j := (2 : Int32)) (v := (.int (own_by d2))) (by rw [e0]; exact Ar13.1) (State.isArrayOf_alike hZ.alike Ar13.2.1) Ar13.2.2 (inb_of Sz13 ⟨by decide, by decide⟩) (Has.at Hs13 (inb_of Sz13 ⟨by decide, by decide⟩) rfl) (g := (mkF m 20 #[Vr ba, Vr bb, Vi 2] [(.int 2), (.ref bb), (.int (own_by c2))])) rfl rfl (hb hby d46_20) _ ?_
    exact kz
   by_cases hc21_14 : (own_by c2) = (own_by d2)
   ·refine Goes.via (S' := s₁.setTop (mkF m 11 #[Vr ba, Vr bb, Vi 3] [(.ref ba), (.int 3)])) (fun tz kz => ?_) ?_
    ·refine XS.icmpYes X0.here hx rfl (pc0 := 21) (pc' := 26) rfl (hb hby d46_21) rfl (teq hc21_14).1 (by decide) (by decide) ?_
     refine XS.iinc X0.here hx rfl (hb hby d46_26) rfl (l' := #[Vr ba, Vr bb, Vi 3]) rfl ?_
     refine XS.goto X0.here hx rfl (pc0 := 29) (pc' := 9) rfl (hb hby d46_29) (by decide) (by decide) ?_
     refine XS.iloadN X0.here hx rfl (hb hby d46_9) rfl ?_
     refine XS.aloadN X0.here hx rfl (hb hby d46_10) rfl rfl ?_
     exact kz
    obtain ⟨cl15, Ar15, q15, Sz15, Nn15, Hs15, G15⟩ := (id A0)
    refine Goes.via (S' := s₁.setTop (mkF m 33 #[Vr ba, Vr bb, Vi 3] [(.int 1)])) (fun tz kz => ?_) ?_
    ·refine X0.arraylength hx (by rw [e0]; exact Ar15.1) (State.isArrayOf_alike hZ.alike Ar15.2.1) (g := (mkF m 11 #[Vr ba, Vr bb, Vi 3] [(.ref ba), (.int 3)])) rfl rfl (hb hby d46_11) _ ?_
     rw [len_of Sz15 Nn15]
     refine XS.icmpYes X0.here hx rfl (pc0 := 12) (pc' := 32) rfl (hb hby d46_12) rfl (flt (by first | decide | rfl)).2.1 (by decide) (by decide) ?_
     refine XS.iconst X0.here hx rfl (hb hby d46_32) ?_
     exact kz
    exact Goes.retN X0 hx Bd.notSynchronized (t := .boolean) Bd.returns (by simp) (hb hby d46_33) (nb_ rfl) (nb_ rfl) ⟨_, rfl, N0, e0, Or.inl ⟨rfl, (own_ky_eq own_L3 own_L3 u0 u1 u2 v0 v1 v2).mp (show [own_by c0, own_by c1, own_by c2] = [own_by d0, own_by d1, own_by d2] by rw [hc21_6, hc21_10, hc21_14])⟩⟩
   ·refine Goes.via (S' := s₁.setTop (mkF m 25 #[Vr ba, Vr bb, Vi 2] [(.int 0)])) (fun tz kz => ?_) ?_
    ·refine XS.icmpNo X0.here hx rfl (hb hby d46_21) rfl (feq hc21_14).1 ?_
     refine XS.iconst X0.here hx rfl (hb hby d46_24) ?_
     exact kz
    exact Goes.retN X0 hx Bd.notSynchronized (t := .boolean) Bd.returns (by simp) (hb hby d46_25) (nb_ rfl) (nb_ rfl) ⟨_, rfl, N0, e0, Or.inr ⟨rfl, fun z => absurd (show [own_by c0, own_by c1, own_by c2] = [own_by d0, own_by d1, own_by d2] from (own_ky_eq own_L3 own_L3 u0 u1 u2 v0 v1 v2).mpr z) (by simp [hc21_6, hc21_10, hc21_14])⟩⟩
  ·refine Goes.via (S' := s₁.setTop (mkF m 25 #[Vr ba, Vr bb, Vi 1] [(.int 0)])) (fun tz kz => ?_) ?_
   ·refine XS.icmpNo X0.here hx rfl (hb hby d46_21) rfl (feq hc21_10).1 ?_
    refine XS.iconst X0.here hx rfl (hb hby d46_24) ?_
    exact kz
   exact Goes.retN X0 hx Bd.notSynchronized (t := .boolean) Bd.returns (by simp) (hb hby d46_25) (nb_ rfl) (nb_ rfl) ⟨_, rfl, N0, e0, Or.inr ⟨rfl, fun z => absurd (show [own_by c0, own_by c1, own_by c2] = [own_by d0, own_by d1, own_by d2] from (own_ky_eq own_L3 own_L3 u0 u1 u2 v0 v1 v2).mpr z) (by simp [hc21_6, hc21_10])⟩⟩
 ·refine Goes.via (S' := s₁.setTop (mkF m 25 #[Vr ba, Vr bb, Vi 0] [(.int 0)])) (fun tz kz => ?_) ?_
  ·refine XS.icmpNo X0.here hx rfl (hb hby d46_21) rfl (feq hc21_6).1 ?_
   refine XS.iconst X0.here hx rfl (hb hby d46_24) ?_
   exact kz
  exact Goes.retN X0 hx Bd.notSynchronized (t := .boolean) Bd.returns (by simp) (hb hby d46_25) (nb_ rfl) (nb_ rfl) ⟨_, rfl, N0, e0, Or.inr ⟨rfl, fun z => absurd (show [own_by c0, own_by c1, own_by c2] = [own_by d0, own_by d1, own_by d2] from (own_ky_eq own_L3 own_L3 u0 u1 u2 v0 v1 v2).mpr z) (by simp [hc21_6])⟩⟩
def Q_req_ne (Z : State) (ba : Addr) (bb : Addr) (ka kb : ClassId) (n c0 c1 c2 mi d0 d1 d2 : Int32) (h0 : Heap) (n0 : Nat) : Option Value → Heap → List Loc → Prop := fun v h L => ∃ b, v = some (.int b) ∧ Fr n0 L ∧ h = h0 ∧ own_dd b (own_ky n c0 c1 c2 = own_ky mi d0 d1 d2)
theorem req_ne (l : Launch) (Z : State) (a0 : Array Value) (hw : ∀ d ∈ tables_1, d.before a0 Z = true) (ws : List Jvm.Cond) (ba : Addr) (bb : Addr) (ka kb : ClassId) (n c0 c1 c2 mi d0 d1 d2 : Int32) (h0 : Heap) (n0 : Nat) (Z0 : n0 ≤ h0.size) (A0 : Arv Z h0 ba ka .byte n (own_bl n c0 c1 c2) (.int 0)) (B0 : Arv Z h0 bb kb .byte mi (own_bl mi d0 d1 d2) (.int 0)) (hn : own_len n) (hm : own_len mi) (u0 : own_u8 c0) (u1 : own_u8 c1) (u2 : own_u8 c2) (v0 : own_u8 d0) (v1 : own_u8 d1) (v2 : own_u8 d2) (ne : ¬ n = mi) :
  own_M l Z n_37 (Jvm.Cond.code n_37 jdk_43_method_13_code 3 (some .boolean)) ws (Rm 0 0 0 0) #[(.ref ba), (.ref bb)] h0 (Q_req_ne Z ba bb ka kb n c0 c1 c2 mi d0 d1 d2 h0 n0) := by
 refine MetFree.of_bodySF (plainFor_of_name pn_46) hisR ?_
 intro p e s m args below meth c s₁ Bd hml0 hP hK
 obtain ⟨rfl, hZ, hh⟩ := hP
 have hx := Bd.exec
 have hby := Bd.bytes
 have hml : c.maxLocals = 3 := hml0
 have hown : s.vm.findClass "java/lang/StringLatin1" = some m.cls := findClass_of_methodNamed Bd.named
 have hnm := (name_of_methodNamed Bd.named Bd.method).1
 have X0 : Stand p l e (Rm 0 0 0 0) s m #[(.ref ba), (.ref bb)] below meth c s₁ [] 0 0 := Stand.of_body Bd
 have e0 : s₁.heap = h0 := by rw [← hh, Bd.state]; rfl
 have N0 := Fr.nil n0
 show Goes p e below (Fin s (Q_req_ne Z ba bb ka kb n c0 c1 c2 mi d0 d1 d2 h0 n0) (Rm 0 0 0 0).cells (Rm 0 0 0 0).slots) _
 refine Goes.via (S' := s₁.setTop (mkF m 0 #[Vr ba, Vr bb, Vu] [])) (fun tz kz => castTop (ef_46 m ba bb ) kz) ?_
 refine Goes.via (S' := s₁.setTop (mkF m 1 #[Vr ba, Vr bb, Vu] [(.ref ba)])) (fun tz kz => ?_) ?_
 ·refine XS.aloadN X0.here hx rfl (hb hby d46_0) rfl rfl ?_
  exact kz
 obtain ⟨cl1, Ar1, q1, Sz1, Nn1, Hs1, G1⟩ := (id A0)
 refine Goes.via (S' := s₁.setTop (mkF m 3 #[Vr ba, Vr bb, Vu] [(.ref bb), (.int n)])) (fun tz kz => ?_) ?_
 ·refine X0.arraylength hx (by rw [e0]; exact Ar1.1) (State.isArrayOf_alike hZ.alike Ar1.2.1) (g := (mkF m 1 #[Vr ba, Vr bb, Vu] [(.ref ba)])) rfl rfl (hb hby d46_1) _ ?_
  rw [len_of Sz1 Nn1]
  refine XS.aloadN X0.here hx rfl (hb hby d46_2) rfl rfl ?_
  exact kz
 obtain ⟨cl2, Ar2, q2, Sz2, Nn2, Hs2, G2⟩ := (id B0)
 refine Goes.via (S' := s₁.setTop (mkF m 35 #[Vr ba, Vr bb, Vu] [(.int 0)])) (fun tz kz => ?_) ?_
 ·refine X0.arraylength hx (by rw [e0]; exact Ar2.1) (State.isArrayOf_alike hZ.alike Ar2.2.1) (g := (mkF m 3 #[Vr ba, Vr bb, Vu] [(.ref bb), (.int n)])) rfl rfl (hb hby d46_3) _ ?_
  rw [len_of Sz2 Nn2]
  refine XS.icmpYes X0.here hx rfl (pc0 := 4) (pc' := 34) rfl (hb hby d46_4) rfl (feq ne).2 (by decide) (by decide) ?_
  refine XS.iconst X0.here hx rfl (hb hby d46_34) ?_
  exact kz
 exact Goes.retN X0 hx Bd.notSynchronized (t := .boolean) Bd.returns (by simp) (hb hby d46_35) (nb_ rfl) (nb_ rfl) ⟨_, rfl, N0, e0, Or.inr ⟨rfl, fun z => ne (own_ky_len hn hm u0 u1 u2 v0 v1 v2 z)⟩⟩
def Q_req (Z : State) (n c0 c1 c2 mi d0 d1 d2 : Int32) (h0 : Heap) (n0 : Nat) : Option Value → Heap → List Loc → Prop := fun v h L => ∃ b, v = some (.int b) ∧ Fr n0 L ∧ h = h0 ∧ own_dd b (own_ky n c0 c1 c2 = own_ky mi d0 d1 d2)
theorem req (l : Launch) (Z : State) (a0 : Array Value) (hw : ∀ d ∈ tables_1, d.before a0 Z = true) (ws : List Jvm.Cond) (ba bb : Addr) (ka kb : ClassId) (n c0 c1 c2 mi d0 d1 d2 : Int32) (h0 : Heap) (n0 : Nat) (Z0 : n0 ≤ h0.size) (A0 : Arv Z h0 ba ka .byte n (own_bl n c0 c1 c2) (.int 0)) (B0 : Arv Z h0 bb kb .byte mi (own_bl mi d0 d1 d2) (.int 0)) (hn : own_len n) (hm : own_len mi) (u0 : own_u8 c0) (u1 : own_u8 c1) (u2 : own_u8 c2) (v0 : own_u8 d0) (v1 : own_u8 d1) (v2 : own_u8 d2) :
  own_M l Z n_37 (Jvm.Cond.code n_37 jdk_43_method_13_code 3 (some .boolean)) ws (Rm 0 0 0 0) #[(.ref ba), (.ref bb)] h0 (Q_req Z n c0 c1 c2 mi d0 d1 d2 h0 n0) := by
 by_cases eq_ : n = mi
 ·subst eq_
  rcases hn with rfl | rfl | rfl | rfl
  ·exact req_0 l Z a0 hw ws ba bb ka kb c0 c1 c2 d0 d1 d2 h0 n0 Z0 A0 B0 u0 u1 u2 v0 v1 v2
  ·exact req_1 l Z a0 hw ws ba bb ka kb c0 c1 c2 d0 d1 d2 h0 n0 Z0 A0 B0 u0 u1 u2 v0 v1 v2
  ·exact req_2 l Z a0 hw ws ba bb ka kb c0 c1 c2 d0 d1 d2 h0 n0 Z0 A0 B0 u0 u1 u2 v0 v1 v2
  ·exact req_3 l Z a0 hw ws ba bb ka kb c0 c1 c2 d0 d1 d2 h0 n0 Z0 A0 B0 u0 u1 u2 v0 v1 v2
 ·exact req_ne l Z a0 hw ws ba bb ka kb n c0 c1 c2 mi d0 d1 d2 h0 n0 Z0 A0 B0 hn hm u0 u1 u2 v0 v1 v2 eq_
theorem d45_0 : De c_45 0 (.aload_n 0) 1 := by decide +kernel
theorem d45_1 : De c_45 1 (.aload_n 1) 1 := by decide +kernel
theorem d45_2 : De c_45 2 (.if_acmp .ne 5) 3 := by decide +kernel
theorem d45_5 : De c_45 5 (.iconst 1) 1 := by decide +kernel
theorem d45_6 : De c_45 6 .ireturn 1 := by decide +kernel
theorem d45_7 : De c_45 7 (.aload_n 1) 1 := by decide +kernel
theorem d45_8 : De c_45 8 (.instanceof 10) 3 := by decide +kernel
theorem d45_11 : De c_45 11 (.ifCond .eq 43) 3 := by decide +kernel
theorem d45_14 : De c_45 14 (.aload_n 1) 1 := by decide +kernel
theorem d45_15 : De c_45 15 (.checkcast 10) 3 := by decide +kernel
theorem d45_18 : De c_45 18 (.astore_n 2) 1 := by decide +kernel
theorem d45_19 : De c_45 19 (.getstatic 38) 3 := by decide +kernel
theorem d45_22 : De c_45 22 (.ifCond .eq 14) 3 := by decide +kernel
theorem d45_25 : De c_45 25 (.aload_n 0) 1 := by decide +kernel
theorem d45_26 : De c_45 26 (.getfield 15) 3 := by decide +kernel
theorem d45_29 : De c_45 29 (.aload_n 2) 1 := by decide +kernel
theorem d45_30 : De c_45 30 (.getfield 15) 3 := by decide +kernel
theorem d45_33 : De c_45 33 (.if_icmp .ne 21) 3 := by decide +kernel
theorem d45_36 : De c_45 36 (.aload_n 0) 1 := by decide +kernel
theorem d45_37 : De c_45 37 (.getfield 9) 3 := by decide +kernel
theorem d45_40 : De c_45 40 (.aload_n 2) 1 := by decide +kernel
theorem d45_41 : De c_45 41 (.getfield 9) 3 := by decide +kernel
theorem d45_44 : De c_45 44 (.invokestatic 541) 3 := by decide +kernel
theorem d45_47 : De c_45 47 (.ifCond .eq 7) 3 := by decide +kernel
theorem d45_50 : De c_45 50 (.iconst 1) 1 := by decide +kernel
theorem d45_51 : De c_45 51 (.goto 4) 3 := by decide +kernel
theorem d45_54 : De c_45 54 (.iconst 0) 1 := by decide +kernel
theorem d45_55 : De c_45 55 .ireturn 1 := by decide +kernel
theorem pn_45 : plainName "java/lang/String" = true := by first | (simp [plainName, overriddenIn]; done) | decide +kernel
theorem ef_45 (m : MethodId) (x0 : Addr) (x1 : Addr) : entryFrame m #[(.ref x0), (.ref x1)] 3 = mkF m 0 #[Vr x0, Vr x1, Vu] [] := by first | rfl | simp [entryFrame, mkF, argsToLocals, Value.category]
def Q_rqs (Z : State) (a1 : Addr) (a2 : Addr) (va vb : Addr) (ka kb : ClassId) (cs : Int32) (n c0 c1 c2 mi d0 d1 d2 : Int32) (h0 : Heap) (n0 : Nat) : Option Value → Heap → List Loc → Prop := fun v h L => ∃ b, v = some (.int b) ∧ Fr n0 L ∧ h = h0 ∧ own_dd b (own_ky n c0 c1 c2 = own_ky mi d0 d1 d2)
theorem rqs (l : Launch) (Z : State) (a0 : Array Value) (hw : ∀ d ∈ tables_1, d.before a0 Z = true) (ws : List Jvm.Cond) (a1 : Addr) (a2 : Addr) (va vb : Addr) (ka kb : ClassId) (cs : Int32) (n c0 c1 c2 mi d0 d1 d2 : Int32) (h0 : Heap) (n0 : Nat) (Z0 : n0 ≤ h0.size) (SC : Sta Z Z.heap "java/lang/String" "COMPACT_STRINGS" "Z" (.int cs)) (hcs : ¬ cs = (0 : Int32)) (O0 : Old Z n0 h0) (SA : own_Str Z h0 a1 va ka n (own_bl n c0 c1 c2)) (SB : own_Str Z h0 a2 vb kb mi (own_bl mi d0 d1 d2)) (hn : own_len n) (hm : own_len mi) (u0 : own_u8 c0) (u1 : own_u8 c1) (u2 : own_u8 c2) (v0 : own_u8 d0) (v1 : own_u8 d1) (v2 : own_u8 d2) :
  own_M l Z n_38 (Jvm.Cond.code n_38 jdk_42_method_66_code 3 (some .boolean)) ws (Rm 1 0 0 16) #[(.ref a1), (.ref a2)] h0 (Q_rqs Z a1 a2 va vb ka kb cs n c0 c1 c2 mi d0 d1 d2 h0 n0) := by
 refine MetFree.of_bodySF (plainFor_of_name pn_45) hisR ?_
 intro p e s m args below meth c s₁ Bd hml0 hP hK
 obtain ⟨rfl, hZ, hh⟩ := hP
 have hx := Bd.exec
 have hby := Bd.bytes
 have hml : c.maxLocals = 3 := hml0
 have hown : s.vm.findClass "java/lang/String" = some m.cls := findClass_of_methodNamed Bd.named
 have hnm := (name_of_methodNamed Bd.named Bd.method).1
 have X0 : Stand p l e (Rm 1 0 0 16) s m #[(.ref a1), (.ref a2)] below meth c s₁ [] 0 0 := Stand.of_body Bd
 have e0 : s₁.heap = h0 := by rw [← hh, Bd.state]; rfl
 have N0 := Fr.nil n0
 show Goes p e below (Fin s (Q_rqs Z a1 a2 va vb ka kb cs n c0 c1 c2 mi d0 d1 d2 h0 n0) (Rm 1 0 0 16).cells (Rm 1 0 0 16).slots) _
 refine Goes.via (S' := s₁.setTop (mkF m 0 #[Vr a1, Vr a2, Vu] [])) (fun tz kz => castTop (ef_45 m a1 a2 ) kz) ?_
 refine Goes.via (S' := s₁.setTop (mkF m 2 #[Vr a1, Vr a2, Vu] [(.ref a2), (.ref a1)])) (fun tz kz => ?_) ?_
 ·refine XS.aloadN X0.here hx rfl (hb hby d45_0) rfl rfl ?_
  refine XS.aloadN X0.here hx rfl (hb hby d45_1) rfl rfl ?_
  exact kz
 by_cases hc2_1 : a1 = a2
 ·refine Goes.via (S' := s₁.setTop (mkF m 6 #[Vr a1, Vr a2, Vu] [(.int 1)])) (fun tz kz => ?_) ?_
  ·refine Jvm.RoadKit.acmp (g := (mkF m 2 #[Vr a1, Vr a2, Vu] [(.ref a2), (.ref a1)])) X0 hx rfl rfl rfl (pc0 := 2) (pc' := 5) (same := true) rfl (hb hby d45_2) rfl (decide_eq_true (congrArg Value.ref hc2_1)) (by decide) (by decide) ?_
   refine XS.iconst X0.here hx rfl (hb hby d45_5) ?_
   exact kz
  exact Goes.retN X0 hx Bd.notSynchronized (t := .boolean) Bd.returns (by simp) (hb hby d45_6) (nb_ rfl) (nb_ rfl) ⟨_, rfl, N0, e0, Or.inl ⟨rfl, own_same hc2_1 SA SB hn hm u0 u1 u2 v0 v1 v2⟩⟩
 ·refine Goes.via (S' := s₁.setTop (mkF m 8 #[Vr a1, Vr a2, Vu] [(.ref a2)])) (fun tz kz => ?_) ?_
  ·refine Jvm.RoadKit.acmp (g := (mkF m 2 #[Vr a1, Vr a2, Vu] [(.ref a2), (.ref a1)])) X0 hx rfl rfl rfl (pc0 := 2) (pc' := 7) (same := false) rfl (hb hby d45_2) rfl (decide_eq_false fun q => hc2_1 (Value.ref.inj q)) (by decide) (by decide) ?_
   refine XS.aloadN X0.here hx rfl (hb hby d45_7) rfl rfl ?_
   exact kz
  obtain ⟨T2, X2, e2, st2⟩ := instY X0 hx hZ hown (w_ hw 45 rfl) e0 (Ins.self SB.1) (g := (mkF m 8 #[Vr a1, Vr a2, Vu] [(.ref a2)])) rfl rfl (hb hby d45_8)
  refine Goes.via st2 ?_
  refine Goes.via (S' := T2.setTop (mkF m 15 #[Vr a1, Vr a2, Vu] [(.ref a2)])) (fun tz kz => ?_) ?_
  ·refine XS.ifNo X2.here hx rfl (hb hby d45_11) rfl ((if0 _ _).trans (feq (by first | decide | rfl)).1) ?_
   refine XS.aloadN X2.here hx rfl (hb hby d45_14) rfl rfl ?_
   exact kz
  obtain ⟨T3, X3, e3, st3⟩ := castY X2 hx hZ hown (w_ hw 45 rfl) e2 (Ins.self SB.1) (g := (mkF m 15 #[Vr a1, Vr a2, Vu] [(.ref a2)])) rfl rfl (hb hby d45_15)
  refine Goes.via st3 ?_
  refine Goes.via (S' := T3.setTop (mkF m 19 #[Vr a1, Vr a2, Vr a2] [])) (fun tz kz => ?_) ?_
  ·refine XS.astoreN X3.here hx rfl (hb hby d45_18) rfl rfl (l' := #[Vr a1, Vr a2, Vr a2]) rfl ?_
   exact kz
  obtain ⟨T4, X4, e4, st4⟩ := getS2 X3 hx hZ hown (host := "") (Or.inl (w_ hw 25 rfl)) Via.refl e3 (SC.ext O0.2) (g := (mkF m 19 #[Vr a1, Vr a2, Vr a2] [])) rfl (hb hby d45_19)
  refine Goes.via st4 ?_
  refine Goes.via (S' := T4.setTop (mkF m 26 #[Vr a1, Vr a2, Vr a2] [(.ref a1)])) (fun tz kz => ?_) ?_
  ·refine XS.ifNo X4.here hx rfl (hb hby d45_22) rfl ((if0 _ _).trans (feq hcs).1) ?_
   refine XS.aloadN X4.here hx rfl (hb hby d45_25) rfl rfl ?_
   exact kz
  obtain ⟨T5, X5, e5, st5⟩ := getF X4 hx hZ hown (host := "") (Or.inl (w_ hw 36 rfl)) Via.refl e4 SA.2.1 (g := (mkF m 26 #[Vr a1, Vr a2, Vr a2] [(.ref a1)])) rfl rfl (hb hby d45_26)
  refine Goes.via st5 ?_
  refine Goes.via (S' := T5.setTop (mkF m 30 #[Vr a1, Vr a2, Vr a2] [(.ref a2), (.int 0)])) (fun tz kz => ?_) ?_
  ·refine XS.aloadN X5.here hx rfl (hb hby d45_29) rfl rfl ?_
   exact kz
  obtain ⟨T6, X6, e6, st6⟩ := getF X5 hx hZ hown (host := "") (Or.inl (w_ hw 36 rfl)) Via.refl e5 SB.2.1 (g := (mkF m 30 #[Vr a1, Vr a2, Vr a2] [(.ref a2), (.int 0)])) rfl rfl (hb hby d45_30)
  refine Goes.via st6 ?_
  refine Goes.via (S' := T6.setTop (mkF m 37 #[Vr a1, Vr a2, Vr a2] [(.ref a1)])) (fun tz kz => ?_) ?_
  ·refine XS.icmpNo X6.here hx rfl (hb hby d45_33) rfl (teq (by first | decide | rfl)).2 ?_
   refine XS.aloadN X6.here hx rfl (hb hby d45_36) rfl rfl ?_
   exact kz
  obtain ⟨T7, X7, e7, st7⟩ := getF X6 hx hZ hown (host := "") (Or.inl (w_ hw 37 rfl)) Via.refl e6 SA.2.2.1 (g := (mkF m 37 #[Vr a1, Vr a2, Vr a2] [(.ref a1)])) rfl rfl (hb hby d45_37)
  refine Goes.via st7 ?_
  refine Goes.via (S' := T7.setTop (mkF m 41 #[Vr a1, Vr a2, Vr a2] [(.ref a2), (.ref va)])) (fun tz kz => ?_) ?_
  ·refine XS.aloadN X7.here hx rfl (hb hby d45_40) rfl rfl ?_
   exact kz
  obtain ⟨T8, X8, e8, st8⟩ := getF X7 hx hZ hown (host := "") (Or.inl (w_ hw 37 rfl)) Via.refl e7 SB.2.2.1 (g := (mkF m 41 #[Vr a1, Vr a2, Vr a2] [(.ref a2), (.ref va)])) rfl rfl (hb hby d45_41)
  refine Goes.via st8 ?_
  obtain ⟨_, _, ⟨T9, L9, k9, n9⟩, -, X9, ⟨Lc9, hQ9, l9, y9, z9⟩, st9⟩ := Jvm.LawKit.callS X8 hx (y := n_37) hown (mvT hZ (w_ hw 211 rfl)) (mvT hZ (w_ hw 212 rfl)) (mvT hZ (w_ hw 43 rfl)) (mvT hZ (w_ hw 213 rfl)) (by decide) (backOf (W := 0) (req l Z a0 hw [] va vb ka kb n c0 c1 c2 mi d0 d1 d2 h0 n0 Z0 SA.2.2.2 SB.2.2.2 hn hm u0 u1 u2 v0 v1 v2) hZ (w_ hw 213 rfl) (w_ hw 43 rfl) (by decide) (by decide)) (g := (mkF m 44 #[Vr a1, Vr a2, Vr a2] [(.ref vb), (.ref va)])) rfl (by rw [hml]; rfl) (argsL := [(.ref va), (.ref vb)]) (rest := []) (lenOf pd_23 rfl) rfl (ww_ rfl rfl) (hb hby d45_44) (fun _ _ => ⟨rfl, e8, (by decide : 0 + 0 ≤ _), (by decide : 0 + 0 ≤ _)⟩)
  dsimp only [Pt.U, Pt.locs, Pt.cells, Pt.slots] at X9 l9 y9 z9 st9 hQ9
  subst l9 y9 z9
  obtain ⟨bb, rfl, N9, e9, dd⟩ := hQ9
  have Nf9 := Fr.app N0 N9
  refine Goes.via (st9) ?_
  by_cases hc47_10 : bb = (0 : Int32)
  ·refine Goes.via (S' := T9.setTop (mkF m 55 #[Vr a1, Vr a2, Vr a2] [(.int 0)])) (fun tz kz => ?_) ?_
   ·refine XS.ifYes X9.here hx rfl (pc0 := 47) (pc' := 54) rfl (hb hby d45_47) rfl ((if0 _ _).trans (teq hc47_10).1) (by decide) (by decide) ?_
    refine XS.iconst X9.here hx rfl (hb hby d45_54) ?_
    exact kz
   exact Goes.retN X9 hx Bd.notSynchronized (t := .boolean) Bd.returns (by simp) (hb hby d45_55) (nb_ rfl) (nb_ rfl) ⟨_, rfl, Nf9, e9, Or.inr ⟨rfl, dd.no hc47_10⟩⟩
  ·refine Goes.via (S' := T9.setTop (mkF m 55 #[Vr a1, Vr a2, Vr a2] [(.int 1)])) (fun tz kz => ?_) ?_
   ·refine XS.ifNo X9.here hx rfl (hb hby d45_47) rfl ((if0 _ _).trans (feq hc47_10).1) ?_
    refine XS.iconst X9.here hx rfl (hb hby d45_50) ?_
    refine XS.goto X9.here hx rfl (pc0 := 51) (pc' := 55) rfl (hb hby d45_51) (by decide) (by decide) ?_
    exact kz
   exact Goes.retN X9 hx Bd.notSynchronized (t := .boolean) Bd.returns (by simp) (hb hby d45_55) (nb_ rfl) (nb_ rfl) ⟨_, rfl, Nf9, e9, Or.inl ⟨rfl, dd.yes hc47_10⟩⟩
def own_fs (f : Nat → Nat → Int32) (i : Nat) (C : Nat → Int32) : Nat → Nat → Int32 := fun a => if a = i then C else f a
theorem own_ON.put {Z : State} {n0 : Nat} {h h' : Heap} {A : Nat → Addr} {f : Nat → Nat → Int32} {ob nm : Int32} {C : Nat → Int32} (P : own_ON Z n0 h A f ob nm) (K : Keep h h' [A 1]) (B : own_B Z h' (A 1) .char 64 C) : own_ON Z n0 h' A (own_fs f 1 C) ob nm := by
 have ne := P.2.2.2.2.2.2.2.2.2.2.2.2.2.2.2.2.2.2
 have q : ∀ i, i < 8 → i ≠ 1 → A i ∉ [A 1] := fun i hi h1 z => ne i 1 hi (by decide) h1 (List.mem_singleton.mp z)
 exact ⟨(P.1).keep K, (P.2.1).keep K (q 0 (by decide) (by decide)), (P.2.2.1).keep K (q 0 (by decide) (by decide)), (P.2.2.2.1).keep K (q 0 (by decide) (by decide)), (P.2.2.2.2.1).keep K (q 0 (by decide) (by decide)), (P.2.2.2.2.2.1).keep K (q 0 (by decide) (by decide)), (P.2.2.2.2.2.2.1).keep K (q 0 (by decide) (by decide)), (P.2.2.2.2.2.2.2.1).keep K (q 0 (by decide) (by decide)), (P.2.2.2.2.2.2.2.2.1).keep K (q 0 (by decide) (by decide)), (P.2.2.2.2.2.2.2.2.2.1).keep K (q 0 (by decide) (by decide)), B, (P.2.2.2.2.2.2.2.2.2.2.2.1).keep K (q 2 (by decide) (by decide)), (P.2.2.2.2.2.2.2.2.2.2.2.2.1).keep K (q 3 (by decide) (by decide)), (P.2.2.2.2.2.2.2.2.2.2.2.2.2.1).keep K (q 4 (by decide) (by decide)), (P.2.2.2.2.2.2.2.2.2.2.2.2.2.2.1).keep K (q 5 (by decide) (by decide)), (P.2.2.2.2.2.2.2.2.2.2.2.2.2.2.2.1).keep K (q 6 (by decide) (by decide)), (P.2.2.2.2.2.2.2.2.2.2.2.2.2.2.2.2.1).keep K (q 7 (by decide) (by decide)), P.2.2.2.2.2.2.2.2.2.2.2.2.2.2.2.2.2.1, P.2.2.2.2.2.2.2.2.2.2.2.2.2.2.2.2.2.2⟩
/-- one open object: its tree, its names in order, each name's place in the chars -/
def own_ob (f : Nat → Nat → Int32) (κ : Nat → Nat) (B : Nat) (xs : List Nat) (o : Nat) : Prop := ∃ ht, ht ≤ 3 ∧ own_Tr f (f 7 o) xs ht ∧ own_so κ xs ∧ ∀ i ∈ xs, own_nd f κ B i
/-- what a change leaves -/
def own_frm (f f' : Nat → Nat → Int32) (sN nN : Nat) (xs : List Nat) (o : Nat) : Prop := (∀ k, k < sN → f' 1 k = f 1 k) ∧ (∀ k, k < nN → f' 2 k = f 2 k) ∧ (∀ a k, 3 ≤ a → a ≤ 5 → k < nN → k ∉ xs → f' a k = f a k) ∧ (∀ k, f' 6 k = f 6 k) ∧ ∀ k, k ≠ o → f' 7 k = f 7 k
theorem own_st_congr {f f' : Nat → Nat → Int32} {i mi : Nat} (hi : i ≤ mi) (h : ∀ k, k < mi → f' 2 k = f 2 k) : own_st f' i = own_st f i := by
 unfold own_st
 split
 ·rfl
 ·exact h _ (by omega)
theorem own_nd.congr {f f' : Nat → Nat → Int32} {κ κ' : Nat → Nat} {B B' i nN : Nat} (N : own_nd f κ B i) (hi : i < nN) (h2 : ∀ k, k < nN → f' 2 k = f 2 k) (h1 : ∀ j, j < B → f' 1 j = f 1 j) (hk : κ' i = κ i) (hB : B ≤ B') : own_nd f' κ' B' i := by
 obtain ⟨s, a, p, q, a3, sB, hk2⟩ := N
 have es := own_st_congr (Nat.le_of_lt hi) h2
 refine ⟨s, a, by rw [es]; exact p, by rw [h2 i hi]; exact q, a3, by omega, ?_⟩
 rw [own_kn_congr (fun j hj => h1 j (by omega)), hk2, hk]
theorem own_so.congr {κ κ' : Nat → Nat} {xs : List Nat} (h : own_so κ xs) (q : ∀ x ∈ xs, κ' x = κ x) : own_so κ' xs := by
 unfold own_so at *
 exact List.Pairwise.imp_of_mem (fun {a b} ha hb z => by rw [q a ha, q b hb]; exact z) h
theorem own_ob.fr {f f' : Nat → Nat → Int32} {κ κ' : Nat → Nat} {sN sN' nN o o' : Nat} {xs ys : List Nat} (h : own_ob f κ sN xs o) (q : own_frm f f' sN nN ys o') (no : o ≠ o') (hk : ∀ k, k < nN → κ' k = κ k) (hx : ∀ x ∈ xs, x < nN ∧ x ∉ ys) (hB : sN ≤ sN') : own_ob f' κ' sN' xs o := by
 obtain ⟨ht, h3, T, S, N⟩ := h
 obtain ⟨q1, q2, q3, q4, q5⟩ := q
 refine ⟨ht, h3, ?_, S.congr (fun x z => hk x (hx x z).1), fun i hi => (N i hi).congr (hx i hi).1 q2 q1 (hk i (hx i hi).1) hB⟩
 rw [q5 o no]
 exact T.congr fun i hi => ⟨q3 3 i (by omega) (by omega) (hx i hi).1 (hx i hi).2, q3 4 i (by omega) (by omega) (hx i hi).1 (hx i hi).2, q3 5 i (by omega) (by omega) (hx i hi).1 (hx i hi).2⟩
/-- what an add has done -/
def own_adr (f f' : Nat → Nat → Int32) (nm' : Int32) (nN sN : Nat) (κ : Nat → Nat) (xs : List Nat) (o K : Nat) : Prop := ∃ (nN' sN' : Nat) (κ' : Nat → Nat) (xs' : List Nat), own_I nm' nN' ∧ own_I (own_st f' nN') sN' ∧ own_cr (f' 1) ∧ nN ≤ nN' ∧ nN' ≤ nN + 1 ∧ sN ≤ sN' ∧ sN' ≤ sN + 3 ∧ own_frm f f' sN nN xs o ∧ (∀ k, k < nN → κ' k = κ k) ∧ own_ob f' κ' sN' xs' o ∧ (∀ i ∈ xs', i < nN' ∧ (i ∈ xs ∨ i = nN)) ∧ (∀ q, own_has κ' q xs' ↔ (own_has κ q xs ∨ K = q)) ∧ (own_has κ K xs → xs'.length = xs.length) ∧ (¬ own_has κ K xs → xs'.length = xs.length + 1)
section OwnAdd
variable {f f' f6 F : Nat → Nat → Int32} {κ : Nat → Nat} {nN sN o ht : Nat} {xs : List Nat} {n c0 c1 c2 nm ei r' : Int32}
theorem own_fs1 {C : Nat → Int32} {a : Nat} (h : a ≠ 1) : own_fs f 1 C a = f a := if_neg h
/-- the name was there -/
theorem own_adF (T : own_ob f κ sN xs o) (hx : ∀ x ∈ xs, x < nN) (In : own_I nm nN) (hs : own_I (own_st f nN) sN) (cr : own_cr (f 1)) (u0 : own_u8 c0) (u1 : own_u8 c1) (u2 : own_u8 c2) (hh : own_has κ (own_ky n c0 c1 c2) xs) : own_adr f (own_fs f 1 (own_put (f 1) sN n c0 c1 c2)) nm nN sN κ xs o (own_ky n c0 c1 c2) := by
 have fr : ∀ q : List Nat, own_frm f (own_fs f 1 (own_put (f 1) sN n c0 c1 c2)) sN nN q o := fun q => ⟨fun k hk => own_put_lt hk, fun k _ => rfl, fun a k h3 _ _ _ => by rw [own_fs1 (by omega)], fun k => rfl, fun k _ => rfl⟩
 refine ⟨nN, sN, κ, xs, In, hs, own_put_cr cr u0 u1 u2, Nat.le_refl _, by omega, Nat.le_refl _, by omega, fr xs, fun _ _ => rfl, ?_, fun i hi => ⟨hx i hi, Or.inl hi⟩, fun q => ⟨Or.inl, fun z => z.elim id fun e => e ▸ hh⟩, fun _ => rfl, fun z => absurd hh z⟩
 obtain ⟨ht, h3, T, S, N⟩ := T
 exact ⟨ht, h3, T.congr fun i _ => ⟨rfl, rfl, rfl⟩, S, fun i hi => (N i hi).congr (hx i hi) (fun _ _ => rfl) (fun j hj => own_put_lt hj) rfl (Nat.le_refl _)⟩
/-- the fields of a new leaf -/
def own_F5 (f : Nat → Nat → Int32) (nN sN : Nat) (n c0 c1 c2 : Int32) : Nat → Nat → Int32 := own_fu (own_fu (own_fu (own_fu (own_fs f 1 (own_put (f 1) sN n c0 c1 c2)) 2 nN (own_st f nN + n)) 3 nN (-1)) 4 nN (-1)) 5 nN 1
theorem own_F5a {a k : Nat} (h : a ≠ 1) (g : k ≠ nN ∨ a < 2 ∨ 5 < a) : own_F5 f nN sN n c0 c1 c2 a k = f a k := by
 unfold own_F5
 rw [own_fu_ne _ _ _ _ (by omega), own_fu_ne _ _ _ _ (by omega), own_fu_ne _ _ _ _ (by omega), own_fu_ne _ _ _ _ (by omega), own_fs1 h]
theorem own_F5c : own_F5 f nN sN n c0 c1 c2 1 = own_put (f 1) sN n c0 c1 c2 := rfl
theorem own_F52 : own_F5 f nN sN n c0 c1 c2 2 nN = own_st f nN + n := by
 unfold own_F5
 rw [own_fu_ne _ _ _ _ (by omega), own_fu_ne _ _ _ _ (by omega), own_fu_ne _ _ _ _ (by omega), own_fu_same]
theorem own_F53 : own_F5 f nN sN n c0 c1 c2 3 nN = -1 := by
 unfold own_F5
 rw [own_fu_ne _ _ _ _ (by omega), own_fu_ne _ _ _ _ (by omega), own_fu_same]
theorem own_F54 : own_F5 f nN sN n c0 c1 c2 4 nN = -1 := by
 unfold own_F5
 rw [own_fu_ne _ _ _ _ (by omega), own_fu_same]
theorem own_F55 : own_F5 f nN sN n c0 c1 c2 5 nN = 1 := by
 unfold own_F5
 rw [own_fu_same]
/-- the order with the new name's key -/
def own_k1 (κ : Nat → Nat) (nN K : Nat) : Nat → Nat := fun i => if i = nN then K else κ i
theorem own_k1n {K : Nat} : own_k1 κ nN K nN = K := if_pos rfl
theorem own_k1o {K i : Nat} (h : i ≠ nN) : own_k1 κ nN K i = κ i := if_neg h
/-- a node that stands is a node for g -/
theorem own_ndN {g : Nat → Nat → Int32} {B K : Nat} (hn : own_len n) (hs : own_I (own_st f nN) sN) (sb : sN ≤ 36) (h2 : ∀ k, k < nN → g 2 k = f 2 k) (he : g 2 nN = own_st f nN + n) (h1 : ∀ j, g 1 j = own_put (f 1) sN n c0 c1 c2 j) (hK : K = own_ky n c0 c1 c2) (hB : sN + n.toInt.toNat ≤ B) : own_nd g (own_k1 κ nN K) B nN := by
 have hI := hn.I
 refine ⟨sN, n.toInt.toNat, by rw [own_st_congr (Nat.le_refl _) h2]; exact hs, by rw [he]; exact hs.add hI.1 (by omega), hI.2, hB, ?_⟩
 rw [own_kn_congr (fun j _ => h1 j), own_put_kn hn, own_k1n, hK]
/-- what insert asks for -/
theorem own_adP (hn : own_len n) (Tr : own_Tr f (f 7 o) xs ht) (S : own_so κ xs) (N : ∀ i ∈ xs, own_nd f κ sN i) (hx : ∀ x ∈ xs, x < nN) (hs : own_I (own_st f nN) sN) (sb : sN ≤ 36) (nh : ¬ own_has κ (own_ky n c0 c1 c2) xs) : own_Tr (own_F5 f nN sN n c0 c1 c2) (f 7 o) xs ht ∧ own_so (own_k1 κ nN (own_ky n c0 c1 c2)) xs ∧ (∀ i ∈ xs, own_nd (own_F5 f nN sN n c0 c1 c2) (own_k1 κ nN (own_ky n c0 c1 c2)) (sN + n.toInt.toNat) i) ∧ own_nd (own_F5 f nN sN n c0 c1 c2) (own_k1 κ nN (own_ky n c0 c1 c2)) (sN + n.toInt.toNat) nN ∧ nN ∉ xs ∧ ¬ own_has (own_k1 κ nN (own_ky n c0 c1 c2)) (own_k1 κ nN (own_ky n c0 c1 c2) nN) xs := by
 have nx : ∀ i ∈ xs, i ≠ nN := fun i hi => Nat.ne_of_lt (hx i hi)
 refine ⟨Tr.congr fun i hi => ⟨own_F5a (by decide) (Or.inl (nx i hi)), own_F5a (by decide) (Or.inl (nx i hi)), own_F5a (by decide) (Or.inl (nx i hi))⟩, S.congr fun i hi => own_k1o (nx i hi), fun i hi => (N i hi).congr (hx i hi) (fun k hk => own_F5a (by decide) (Or.inl (Nat.ne_of_lt hk))) (fun j hj => by rw [own_F5c]; exact own_put_lt hj) (own_k1o (nx i hi)) (Nat.le_add_right _ _), own_ndN hn hs sb (fun k hk => own_F5a (by decide) (Or.inl (Nat.ne_of_lt hk))) own_F52 (fun j => by rw [own_F5c]) rfl (Nat.le_refl _), fun z => nx _ z rfl, fun z => nh ?_⟩
 obtain ⟨k, hk, e⟩ := z
 rw [own_k1n, own_k1o (nx k hk)] at e
 exact ⟨k, hk, e⟩
/-- the name is new -/
theorem own_adN (hn : own_len n) (S : own_so κ xs) (N : ∀ i ∈ xs, own_nd f κ sN i) (hx : ∀ x ∈ xs, x < nN) (In : own_I nm nN) (hq : nN ≤ 14) (hs : own_I (own_st f nN) sN) (sb : sN ≤ 36) (cr : own_cr (f 1)) (u0 : own_u8 c0) (u1 : own_u8 c1) (u2 : own_u8 c2) (nh : ¬ own_has κ (own_ky n c0 c1 c2) xs) (hl : xs.length ≤ 5)
  (D : own_insd (own_F5 f nN sN n c0 c1 c2) f6 (own_k1 κ nN (own_ky n c0 c1 c2)) nN r' xs ht) : own_adr f (own_fu f6 7 o r') (nm + 1) nN sN κ xs o (own_ky n c0 c1 c2) := by
 obtain ⟨us, vs, h', ex, T6, lu, lv, g1, g2, fr⟩ := D
 have hI := hn.I
 have nx : ∀ i ∈ xs, i ≠ nN := fun i hi => Nat.ne_of_lt (hx i hi)
 have e1 : ∀ j, own_fu f6 7 o r' 1 j = own_put (f 1) sN n c0 c1 c2 j := fun j => by rw [own_fu_ne _ _ _ _ (by omega), fr _ _ (by omega), own_F5c]
 have e2 : ∀ k, k < nN → own_fu f6 7 o r' 2 k = f 2 k := fun k hk => by rw [own_fu_ne _ _ _ _ (by omega), fr _ _ (by omega), own_F5a (by decide) (Or.inl (Nat.ne_of_lt hk))]
 have e3 : own_fu f6 7 o r' 2 nN = own_st f nN + n := by rw [own_fu_ne _ _ _ _ (by omega), fr _ _ (by omega), own_F52]
 have el : (us ++ nN :: vs).length = xs.length + 1 := by rw [ex]; simp; omega
 have mem : ∀ i, i ∈ us ++ nN :: vs ↔ i ∈ xs ∨ i = nN := fun i => by
  rw [ex]; simp only [List.mem_append, List.mem_cons]
  constructor
  ·rintro (z | z | z)
   ·exact Or.inl (Or.inl z)
   ·exact Or.inr z
   ·exact Or.inl (Or.inr z)
  ·rintro ((z | z) | z)
   ·exact Or.inl z
   ·exact Or.inr (Or.inr z)
   ·exact Or.inr (Or.inl z)
 refine ⟨nN + 1, sN + n.toInt.toNat, own_k1 κ nN (own_ky n c0 c1 c2), us ++ nN :: vs, In.add own_I1 (by omega), ?_, ?_, by omega, by omega, by omega, by omega, ⟨fun k hk => by rw [e1]; exact own_put_lt hk, e2, fun a k a3 a5 hk nk => ?_, fun k => ?_, fun k hk => ?_⟩, fun k hk => own_k1o (Nat.ne_of_lt hk), ?_, fun i hi => ?_, fun q => ?_, fun z => absurd z nh, fun _ => el⟩
 ·have : own_st (own_fu f6 7 o r') (nN + 1) = own_fu f6 7 o r' 2 nN := by unfold own_st; rw [if_neg (by omega)]; rfl
  rw [this, e3]; exact hs.add hI.1 (by omega)
 ·intro j; rw [e1]; exact own_put_cr cr u0 u1 u2 j
 ·rw [own_fu_ne _ _ _ _ (by omega), fr _ _ (fun z => (List.mem_cons.mp z.1).elim (fun y => absurd y (Nat.ne_of_lt hk)) nk), own_F5a (by omega) (Or.inl (Nat.ne_of_lt hk))]
 ·rw [own_fu_ne _ _ _ _ (by omega), fr _ _ (by omega), own_F5a (by decide) (by omega)]
 ·rw [own_fu_ne _ _ _ _ (by omega), fr _ _ (by omega), own_F5a (by decide) (by omega)]
 ·have hl' := T6.len
  rw [el] at hl'
  refine ⟨h', by omega, ?_, ?_, fun i hi => ?_⟩
  ·rw [own_fu_same]
   exact T6.congr fun i _ => ⟨own_fu_ne _ _ _ _ (by omega), own_fu_ne _ _ _ _ (by omega), own_fu_ne _ _ _ _ (by omega)⟩
  ·exact own_so.ins (ex ▸ S.congr fun i hi => own_k1o (nx i hi)) lu lv
  ·rcases (mem i).mp hi with z | rfl
   ·exact (N i z).congr (hx i z) e2 (fun j hj => by rw [e1]; exact own_put_lt hj) (own_k1o (nx i z)) (Nat.le_add_right _ _)
   ·exact own_ndN hn hs sb e2 e3 e1 rfl (Nat.le_refl _)
 ·rcases (mem i).mp hi with z | rfl
  ·exact ⟨Nat.lt_succ_of_lt (hx i z), Or.inl z⟩
  ·exact ⟨Nat.lt_succ_self _, Or.inr rfl⟩
 ·constructor
  ·rintro ⟨k, hk, e⟩
   rcases (mem k).mp hk with z | rfl
   ·rw [own_k1o (nx k z)] at e; exact Or.inl ⟨k, z, e⟩
   ·rw [own_k1n] at e; exact Or.inr e
  ·rintro (⟨k, hk, e⟩ | e)
   ·exact ⟨k, (mem k).mpr (Or.inl hk), by rw [own_k1o (nx k hk)]; exact e⟩
   ·exact ⟨nN, (mem nN).mpr (Or.inr rfl), by rw [own_k1n]; exact e⟩
end OwnAdd
/-- is name i counted, among the names from lo on below hi -/
def own_one (K : Nat → Nat) (lo hi i : Nat) : Nat := if lo ≤ i ∧ i < hi ∧ ∀ t, t < i → lo ≤ t → K t ≠ K i then 1 else 0
def own_sum (K : Nat → Nat) (lo hi : Nat) : Nat → Nat
 | 0 => 0
 | i + 1 => own_sum K lo hi i + own_one K lo hi i
section OwnJ
variable {K : Nat → Nat} {lo hi i j k : Nat} {f f' : Nat → Nat → Int32} {nm nm' : Int32}
theorem own_one.yes (h : lo ≤ i) (g : i < hi) (q : ∀ t, lo ≤ t → t < i → K t ≠ K i) : own_one K lo hi i = 1 := if_pos ⟨h, g, fun t a b => q t b a⟩
theorem own_one.no (h : ¬ (lo ≤ i ∧ i < hi ∧ ∀ t, lo ≤ t → t < i → K t ≠ K i)) : own_one K lo hi i = 0 := if_neg fun z => h ⟨z.1, z.2.1, fun t a b => z.2.2 t b a⟩
theorem own_one.le : own_one K lo hi i ≤ 1 := by
 unfold own_one; split <;> omega
theorem own_sum.le : own_sum K lo hi i ≤ i := by
 induction i with
 | zero => exact Nat.le_refl _
 | succ i ih => have := @own_one.le K lo hi i; show own_sum K lo hi i + own_one K lo hi i ≤ i + 1; omega
theorem own_sum.zero (h : i ≤ lo) : own_sum K lo hi i = 0 := by
 induction i with
 | zero => rfl
 | succ i ih => show own_sum K lo hi i + own_one K lo hi i = 0; rw [ih (by omega), own_one.no (by omega)]
/-- an object holds the names from lo on below hi, among the first i -/
def own_hl (K : Nat → Nat) (κ : Nat → Nat) (xs : List Nat) (lo hi i : Nat) : Prop := (∀ q, own_has κ q xs ↔ ∃ t, lo ≤ t ∧ t < hi ∧ t < i ∧ K t = q) ∧ xs.length = own_sum K lo hi i
theorem own_hl.skip {κ : Nat → Nat} {xs : List Nat} (h : own_hl K κ xs lo hi i) (q : ¬ (lo ≤ i ∧ i < hi)) : own_hl K κ xs lo hi (i + 1) := by
 refine ⟨fun p => (h.1 p).trans ⟨fun ⟨t, a, b, c, d⟩ => ⟨t, a, b, by omega, d⟩, fun ⟨t, a, b, c, d⟩ => ⟨t, a, b, ?_, d⟩⟩, ?_⟩
 ·rcases Nat.lt_or_ge t i with z | z
  ·exact z
  ·exact absurd ⟨by omega, by omega⟩ q
 ·show _ = own_sum K lo hi i + own_one K lo hi i
  rw [own_one.no (fun z => q ⟨z.1, z.2.1⟩)]; exact h.2
theorem own_hl.add {κ κ' : Nat → Nat} {xs xs' : List Nat} (h : own_hl K κ xs lo hi i) (a : lo ≤ i) (b : i < hi) (e : ∀ q, own_has κ' q xs' ↔ (own_has κ q xs ∨ K i = q)) (l1 : own_has κ (K i) xs → xs'.length = xs.length) (l2 : ¬ own_has κ (K i) xs → xs'.length = xs.length + 1) : own_hl K κ' xs' lo hi (i + 1) := by
 refine ⟨fun q => (e q).trans ?_, ?_⟩
 ·rw [h.1 q]
  constructor
  ·rintro (⟨t, a, b, c, d⟩ | z)
   ·exact ⟨t, a, b, by omega, d⟩
   ·exact ⟨i, a, b, by omega, z⟩
  ·rintro ⟨t, a, b, c, d⟩
   rcases Nat.lt_or_ge t i with z | z
   ·exact Or.inl ⟨t, a, b, z, d⟩
   ·have : t = i := by omega
    subst this; exact Or.inr d
 ·show _ = own_sum K lo hi i + own_one K lo hi i
  by_cases z : own_has κ (K i) xs
  ·have y0 : own_one K lo hi i = 0 := own_one.no (fun ⟨_, _, y⟩ => by
    obtain ⟨t, a, b, c, d⟩ := (h.1 _).mp z
    exact y t a c d)
   rw [l1 z, y0, h.2]; rfl
  ·have y1 : own_one K lo hi i = 1 := own_one.yes a b (fun t ht h1 h2 => z ((h.1 _).mpr ⟨t, ht, by omega, h1, h2⟩))
   rw [l2 z, y1, h.2]
/-- before the second object -/
def own_JA (f : Nat → Nat → Int32) (ob nm : Int32) (K : Nat → Nat) (j i : Nat) : Prop := ∃ (nN sN : Nat) (κ : Nat → Nat) (xs : List Nat), ob = 1 ∧ own_I nm nN ∧ nN ≤ i ∧ own_I (own_st f nN) sN ∧ sN ≤ 3 * i ∧ own_cr (f 1) ∧ own_ob f κ sN xs 0 ∧ own_hl K κ xs 0 j i ∧ ∀ x ∈ xs, x < nN
/-- behind it -/
def own_JB (f : Nat → Nat → Int32) (ob nm : Int32) (K : Nat → Nat) (j k i : Nat) : Prop := ∃ (nN sN : Nat) (κ : Nat → Nat) (xs : List Nat) (n1 : Nat) (ys : List Nat), ob = 2 ∧ own_I nm nN ∧ nN ≤ i ∧ own_I (own_st f nN) sN ∧ sN ≤ 3 * i ∧ own_cr (f 1) ∧ own_ob f κ sN xs 0 ∧ own_hl K κ xs 0 j i ∧ (∀ x ∈ xs, x < n1) ∧ n1 ≤ nN ∧ own_I (f 6 1) n1 ∧ own_ob f κ sN ys 1 ∧ own_hl K κ ys j k i ∧ ∀ y ∈ ys, n1 ≤ y ∧ y < nN
theorem own_JA.add {nN sN : Nat} {κ : Nat → Nat} {xs : List Nat} (a2 : nN ≤ i) (a4 : sN ≤ 3 * i) (a7 : own_hl K κ xs 0 j i) (D : own_adr f f' nm' nN sN κ xs 0 (K i)) (ij : i < j) : own_JA f' 1 nm' K j (i + 1) := by
 obtain ⟨nN', sN', κ', xs', d1, d2, d3, d4, d5, d6, d7, d8, d9, d10, d11, d12, d13, d14⟩ := D
 exact ⟨nN', sN', κ', xs', rfl, d1, by omega, d2, by omega, d3, d10, a7.add (Nat.zero_le _) ij d12 d13 d14, fun x hx => (d11 x hx).1⟩
theorem own_JB.skip {ob : Int32} (h : own_JB f ob nm K j k i) (ji : j ≤ i) (q : ¬ i < k) : own_JB f ob nm K j k (i + 1) := by
 obtain ⟨nN, sN, κ, xs, n1, ys, b1, b2, b3, b4, b5, b6, b7, b8, b9, b10, b11, b12, b13, b14⟩ := h
 exact ⟨nN, sN, κ, xs, n1, ys, b1, b2, by omega, b4, by omega, b6, b7, b8.skip (by omega), b9, b10, b11, b12, b13.skip (by omega), b14⟩
theorem own_JB.add {nN sN n1 : Nat} {κ : Nat → Nat} {xs ys : List Nat} (a2 : nN ≤ i) (a4 : sN ≤ 3 * i) (b7 : own_ob f κ sN xs 0) (b8 : own_hl K κ xs 0 j i) (b9 : ∀ x ∈ xs, x < n1) (b10 : n1 ≤ nN) (b11 : own_I (f 6 1) n1) (b13 : own_hl K κ ys j k i) (b14 : ∀ y ∈ ys, n1 ≤ y ∧ y < nN) (D : own_adr f f' nm' nN sN κ ys 1 (K i)) (ji : j ≤ i) (ik : i < k) : own_JB f' 2 nm' K j k (i + 1) := by
 obtain ⟨nN', sN', κ', ys', d1, d2, d3, d4, d5, d6, d7, d8, d9, d10, d11, d12, d13, d14⟩ := D
 have hx : ∀ x ∈ xs, x < nN := fun x hx => Nat.lt_of_lt_of_le (b9 x hx) b10
 have hh : ∀ q, own_has κ' q xs ↔ own_has κ q xs := fun q => by
  constructor
  ·rintro ⟨k, hk, e⟩; exact ⟨k, hk, (d9 k (hx k hk)).symm.trans e⟩
  ·rintro ⟨k, hk, e⟩; exact ⟨k, hk, (d9 k (hx k hk)).trans e⟩
 have b8' : own_hl K κ' xs 0 j i := ⟨fun q => (hh q).trans (b8.1 q), b8.2⟩
 refine ⟨nN', sN', κ', xs, n1, ys', rfl, d1, by omega, d2, by omega, d3, b7.fr d8 (by decide) d9 (fun x hq => ⟨hx x hq, fun z => ?_⟩) d6, b8'.skip (by omega), b9, by omega, by rw [d8.2.2.2.1 1]; exact b11, d10, b13.add ji ik d12 d13 d14, fun y hy => ⟨?_, (d11 y hy).1⟩⟩
 ·have := (b14 x z).1; have := b9 x hq; omega
 ·rcases (d11 y hy).2 with z | z
  ·exact (b14 y z).1
  ·omega
theorem own_JA.opn {ob : Int32} (h : own_JA f ob nm K j i) (ji : j = i) : own_JB (own_fu (own_fu f 6 1 nm) 7 1 (-1)) (ob + 1) nm K j k i := by
 obtain ⟨nN, sN, κ, xs, b1, b2, b3, b4, b5, b6, b7, b8, b9⟩ := h
 have e : ∀ a q, a ≠ 6 → a ≠ 7 → own_fu (own_fu f 6 1 nm) 7 1 (-1) a q = f a q := fun a q h6 h7 => by rw [own_fu_ne _ _ _ _ (by omega), own_fu_ne _ _ _ _ (by omega)]
 refine ⟨nN, sN, κ, xs, nN, [], by rw [b1]; decide, b2, b3, ?_, b5, ?_, ?_, b8, b9, Nat.le_refl _, ?_, ⟨0, by omega, ?_, List.Pairwise.nil, fun i hi => absurd hi List.not_mem_nil⟩, ⟨fun q => ⟨fun ⟨_, z, _⟩ => absurd z List.not_mem_nil, fun ⟨t, a, b, c, d⟩ => absurd a (by omega)⟩, ?_⟩, fun y hy => absurd hy List.not_mem_nil⟩
 ·rw [own_st_congr (Nat.le_refl nN) (fun k _ => e 2 k (by decide) (by decide))]; exact b4
 ·intro q; rw [e 1 q (by decide) (by decide)]; exact b6 q
 ·obtain ⟨ht, h3, T, S, N⟩ := b7
  refine ⟨ht, h3, ?_, S, fun i hi => (N i hi).congr (b9 i hi) (fun k _ => e 2 k (by decide) (by decide)) (fun j _ => e 1 j (by decide) (by decide)) rfl (Nat.le_refl _)⟩
  rw [show own_fu (own_fu f 6 1 nm) 7 1 (-1) 7 0 = f 7 0 from by rw [own_fu_ne _ _ _ _ (by omega), own_fu_ne _ _ _ _ (by omega)]]
  exact T.congr fun i _ => ⟨e 3 i (by decide) (by decide), e 4 i (by decide) (by decide), e 5 i (by decide) (by decide)⟩
 ·rw [own_fu_ne _ _ _ _ (by omega), own_fu_same]; exact b2
 ·rw [own_fu_same]; exact own_Tr.nil
 ·rw [own_sum.zero (by omega)]; rfl
/-- the height by the count -/
def own_hx (n : Nat) : Nat := if n = 0 then 0 else if n = 1 then 1 else if n ≤ 3 then 2 else 3
theorem own_ob.hgt {κ : Nat → Nat} {B o : Nat} {xs : List Nat} (h : own_ob f κ B xs o) (l : xs.length ≤ 6) : own_n16 (f 7 o) ∧ own_I (own_ht f (f 7 o)) (own_hx xs.length) := by
 obtain ⟨ht, h3, T, -⟩ := h
 refine ⟨T.n16, ?_⟩
 have e : ht = own_hx xs.length := by
  have hl := T.len
  unfold own_hx
  repeat' split
  all_goals omega
 rw [T.hgt, ← e]
 rcases (show ht = 0 ∨ ht = 1 ∨ ht = 2 ∨ ht = 3 by omega) with rfl | rfl | rfl | rfl <;> (unfold own_I; decide)
end OwnJ
def own_sl {α : Type} (a b c d ei f : α) : Nat → α := fun i => if i = 0 then a else if i = 1 then b else if i = 2 then c else if i = 3 then d else if i = 4 then ei else f
theorem own_six {P : Nat → Prop} (h0 : P 0) (h1 : P 1) (h2 : P 2) (h3 : P 3) (h4 : P 4) (h5 : P 5) : ∀ i, i < 6 → P i := fun i hi => by
 rcases (show i = 0 ∨ i = 1 ∨ i = 2 ∨ i = 3 ∨ i = 4 ∨ i = 5 by omega) with rfl | rfl | rfl | rfl | rfl | rfl <;> assumption
/-- the array of the six names -/
def own_A6 (Z : State) (h : Heap) (b : Addr) (sa : Nat → Addr) : Prop := ∃ cl : Cell, Arr Z h b cl (.object "java/lang/String") ∧ cl.slots.size = 6 ∧ ∀ i, i < 6 → cl.slots[i]? = some (.ref (sa i))
theorem own_A6.ext {Z : State} {h h' : Heap} {b : Addr} {sa : Nat → Addr} (B : own_A6 Z h b sa) (E : Ext h h') : own_A6 Z h' b sa := by obtain ⟨cl, A, r⟩ := B; exact ⟨cl, A.ext E, r⟩
theorem own_A6.keep {Z : State} {h h' : Heap} {b : Addr} {sa : Nat → Addr} {ws : List Addr} (B : own_A6 Z h b sa) (K : Keep h h' ws) (q : b ∉ ws) : own_A6 Z h' b sa := by obtain ⟨cl, A, r⟩ := B; exact ⟨cl, ⟨K.2.1 b cl A.1 q, A.2⟩, r⟩
theorem own_A6.lt {Z : State} {h : Heap} {b : Addr} {sa : Nat → Addr} (B : own_A6 Z h b sa) : b < h.size := by obtain ⟨cl, A, r⟩ := B; exact A.lt
theorem own_atR {cl : Cell} {sa : Nat → Addr} {j : Int32} {a : Nat} (H : ∀ i, i < 6 → cl.slots[i]? = some (.ref (sa i))) (h : own_I j a) (q : a < 6) : cl.slots[j.toNatClampNeg]? = some (.ref (sa a)) := by rw [h.nat]; exact H a q
theorem own_A6.of {Z : State} {h : Heap} {b : Addr} {k : ClassId} {a0 a1 a2 a3 a4 a5 : Addr} (V : Arv Z h b k (.object "java/lang/String") (6 : Int32) [.ref a0, .ref a1, .ref a2, .ref a3, .ref a4, .ref a5] .null) : own_A6 Z h b (own_sl a0 a1 a2 a3 a4 a5) := by
 obtain ⟨c, A, -, S, -, H, -⟩ := V
 have S6 : c.slots.size = 6 := S.trans (by decide)
 exact ⟨c, A, S6, own_six (H 0 (by omega)) (H 1 (by omega)) (H 2 (by omega)) (H 3 (by omega)) (H 4 (by omega)) (H 5 (by omega))⟩
/-- the six names stand -/
def own_ST (Z : State) (h : Heap) (sa va : Nat → Addr) (ka : Nat → ClassId) (pp : Nat → Int32) : Prop := ∀ i, i < 6 → own_Str Z h (sa i) (va i) (ka i) (pp i &&& (3 : Int32)) (own_bl (pp i &&& (3 : Int32)) (own_c0 (pp i)) (own_c1 (pp i)) (own_c2 (pp i)))
theorem own_ST.ext {Z : State} {h h' : Heap} {sa va : Nat → Addr} {ka : Nat → ClassId} {pp : Nat → Int32} (S : own_ST Z h sa va ka pp) (E : Ext h h') : own_ST Z h' sa va ka pp := fun i hi => (S i hi).ext E
theorem own_ST.keep {Z : State} {h h' : Heap} {sa va : Nat → Addr} {ka : Nat → ClassId} {pp : Nat → Int32} {ws : List Addr} (S : own_ST Z h sa va ka pp) (K : Keep h h' ws) (q : ∀ i, i < 6 → sa i ∉ ws ∧ va i ∉ ws) : own_ST Z h' sa va ka pp := fun i hi => (S i hi).keep K (q i hi).1 (q i hi).2
/-- the names' keys -/
def own_Ks (pp : Nat → Int32) : Nat → Nat := fun i => own_ky (pp i &&& (3 : Int32)) (own_c0 (pp i)) (own_c1 (pp i)) (own_c2 (pp i))
theorem own_I4 : own_I 4 4 := by unfold own_I; decide
theorem own_I5 : own_I 5 5 := by unfold own_I; decide
theorem own_I6 : own_I 6 6 := by unfold own_I; decide
theorem own_nor {a b c : Nat} {P : Prop} (h1 : ¬ a < b) (h2 : a < c) (h3 : P) : ¬ (a < b ∨ c ≤ a ∨ ¬ P) := fun z => z.elim h1 (fun z => z.elim (fun y => absurd h2 (Nat.not_lt.mpr y)) (fun y => y h3))
theorem d44_0 : De c_44 0 (.iload_n 1) 1 := by decide +kernel
theorem d44_1 : De c_44 1 (.iload_n 3) 1 := by decide +kernel
theorem d44_2 : De c_44 2 (.if_icmp .lt 20) 3 := by decide +kernel
theorem d44_5 : De c_44 5 (.iload_n 1) 1 := by decide +kernel
theorem d44_6 : De c_44 6 (.iload_n 2) 1 := by decide +kernel
theorem d44_7 : De c_44 7 (.if_icmp .ge 15) 3 := by decide +kernel
theorem d44_10 : De c_44 10 (.aload_n 0) 1 := by decide +kernel
theorem d44_11 : De c_44 11 (.iload_n 1) 1 := by decide +kernel
theorem d44_12 : De c_44 12 .aaload 1 := by decide +kernel
theorem d44_13 : De c_44 13 (.aload_n 0) 1 := by decide +kernel
theorem d44_14 : De c_44 14 (.iload_n 2) 1 := by decide +kernel
theorem d44_15 : De c_44 15 .aaload 1 := by decide +kernel
theorem d44_16 : De c_44 16 (.invokevirtual 59) 3 := by decide +kernel
theorem d44_19 : De c_44 19 (.ifCond .ne 7) 3 := by decide +kernel
theorem d44_22 : De c_44 22 (.iconst 1) 1 := by decide +kernel
theorem d44_23 : De c_44 23 (.goto 4) 3 := by decide +kernel
theorem d44_26 : De c_44 26 (.iconst 0) 1 := by decide +kernel
theorem d44_27 : De c_44 27 .ireturn 1 := by decide +kernel
theorem pn_44 : plainName "com/example/upkeep_window/upkeepwindow/policy/OpenNamesHeightPinLaw" = true := by first | (simp [plainName, overriddenIn]; done) | decide +kernel
theorem ef_44 (m : MethodId) (x0 : Addr) (x1 : Int32) (x2 : Int32) (x3 : Int32) : entryFrame m #[(.ref x0), (.int x1), (.int x2), (.int x3)] 4 = mkF m 0 #[Vr x0, Vi x1, Vi x2, Vi x3] [] := by first | rfl | simp [entryFrame, mkF, argsToLocals, Value.category]
def Q_rdf (Z : State) (nb : Addr) (tt : Int32) (ii : Int32) (lo : Int32) (tN iN lN : Nat) (sa va : Nat → Addr) (ka : Nat → ClassId) (pp : Nat → Int32) (cs : Int32) (h0 : Heap) (n0 : Nat) : Option Value → Heap → List Loc → Prop := fun v h L => ∃ b, v = some (.int b) ∧ Fr n0 L ∧ h = h0 ∧ own_dd b (tN < lN ∨ iN ≤ tN ∨ ¬ own_Ks pp tN = own_Ks pp iN)
theorem rdf (l : Launch) (Z : State) (a0 : Array Value) (hw : ∀ d ∈ tables_1, d.before a0 Z = true) (ws : List Jvm.Cond) (nb : Addr) (tt : Int32) (ii : Int32) (lo : Int32) (tN iN lN : Nat) (sa va : Nat → Addr) (ka : Nat → ClassId) (pp : Nat → Int32) (cs : Int32) (h0 : Heap) (n0 : Nat) (Z0 : n0 ≤ h0.size) (A6 : own_A6 Z h0 nb sa) (ST : own_ST Z h0 sa va ka pp) (SC : Sta Z Z.heap "java/lang/String" "COMPACT_STRINGS" "Z" (.int cs)) (hcs : ¬ cs = (0 : Int32)) (O0 : Old Z n0 h0) (ht : own_I tt tN) (t6 : tN < 6) (hi : own_I ii iN) (i6 : iN < 6) (hl : own_I lo lN) :
  own_M l Z n_39 (Jvm.Cond.code n_39 method_5_code 4 (some .boolean)) ws (Rm 2 0 0 32) #[(.ref nb), (.int tt), (.int ii), (.int lo)] h0 (Q_rdf Z nb tt ii lo tN iN lN sa va ka pp cs h0 n0) := by
 refine MetFree.of_bodySF (plainFor_of_name pn_44) hisR ?_
 intro p e s m args below meth c s₁ Bd hml0 hP hK
 obtain ⟨rfl, hZ, hh⟩ := hP
 have hx := Bd.exec
 have hby := Bd.bytes
 have hml : c.maxLocals = 4 := hml0
 have hown : s.vm.findClass "com/example/upkeep_window/upkeepwindow/policy/OpenNamesHeightPinLaw" = some m.cls := findClass_of_methodNamed Bd.named
 have hnm := (name_of_methodNamed Bd.named Bd.method).1
 have X0 : Stand p l e (Rm 2 0 0 32) s m #[(.ref nb), (.int tt), (.int ii), (.int lo)] below meth c s₁ [] 0 0 := Stand.of_body Bd
 have e0 : s₁.heap = h0 := by rw [← hh, Bd.state]; rfl
 have N0 := Fr.nil n0
 show Goes p e below (Fin s (Q_rdf Z nb tt ii lo tN iN lN sa va ka pp cs h0 n0) (Rm 2 0 0 32).cells (Rm 2 0 0 32).slots) _
 refine Goes.via (S' := s₁.setTop (mkF m 0 #[Vr nb, Vi tt, Vi ii, Vi lo] [])) (fun tz kz => castTop (ef_44 m nb tt ii lo ) kz) ?_
 refine Goes.via (S' := s₁.setTop (mkF m 2 #[Vr nb, Vi tt, Vi ii, Vi lo] [(.int lo), (.int tt)])) (fun tz kz => ?_) ?_
 ·refine XS.iloadN X0.here hx rfl (hb hby d44_0) rfl ?_
  refine XS.iloadN X0.here hx rfl (hb hby d44_1) rfl ?_
  exact kz
 by_cases hc2_1 : tt < lo
 ·refine Goes.via (S' := s₁.setTop (mkF m 27 #[Vr nb, Vi tt, Vi ii, Vi lo] [(.int 1)])) (fun tz kz => ?_) ?_
  ·refine XS.icmpYes X0.here hx rfl (pc0 := 2) (pc' := 22) rfl (hb hby d44_2) rfl (tlt hc2_1).1 (by decide) (by decide) ?_
   refine XS.iconst X0.here hx rfl (hb hby d44_22) ?_
   refine XS.goto X0.here hx rfl (pc0 := 23) (pc' := 27) rfl (hb hby d44_23) (by decide) (by decide) ?_
   exact kz
  exact Goes.retN X0 hx Bd.notSynchronized (t := .boolean) Bd.returns (by simp) (hb hby d44_27) (nb_ rfl) (nb_ rfl) ⟨_, rfl, N0, e0, Or.inl ⟨rfl, Or.inl ((ht.lt hl).mp hc2_1)⟩⟩
 ·refine Goes.via (S' := s₁.setTop (mkF m 7 #[Vr nb, Vi tt, Vi ii, Vi lo] [(.int ii), (.int tt)])) (fun tz kz => ?_) ?_
  ·refine XS.icmpNo X0.here hx rfl (hb hby d44_2) rfl (flt hc2_1).1 ?_
   refine XS.iloadN X0.here hx rfl (hb hby d44_5) rfl ?_
   refine XS.iloadN X0.here hx rfl (hb hby d44_6) rfl ?_
   exact kz
  by_cases hc7_2 : tt < ii
  ·refine Goes.via (S' := s₁.setTop (mkF m 12 #[Vr nb, Vi tt, Vi ii, Vi lo] [(.int tt), (.ref nb)])) (fun tz kz => ?_) ?_
   ·refine XS.icmpNo X0.here hx rfl (hb hby d44_7) rfl (tlt hc7_2).2.1 ?_
    refine XS.aloadN X0.here hx rfl (hb hby d44_10) rfl rfl ?_
    refine XS.iloadN X0.here hx rfl (hb hby d44_11) rfl ?_
    exact kz
   obtain ⟨cl3, Ar3, Sz3, Hs3⟩ := (id A6)
   refine Goes.via (S' := s₁.setTop (mkF m 15 #[Vr nb, Vi tt, Vi ii, Vi lo] [(.int ii), (.ref nb), (.ref (sa tN))])) (fun tz kz => ?_) ?_
   ·refine X0.aaload hx (j := tt) (v := (.ref (sa tN))) (by rw [e0]; exact Ar3.1) (State.isArrayOf_alike hZ.alike Ar3.2.1) rfl Ar3.2.2 (own_in Sz3 ht t6) (own_atR Hs3 ht t6) (g := (mkF m 12 #[Vr nb, Vi tt, Vi ii, Vi lo] [(.int tt), (.ref nb)])) rfl rfl (hb hby d44_12) _ ?_
    refine XS.aloadN X0.here hx rfl (hb hby d44_13) rfl rfl ?_
    refine XS.iloadN X0.here hx rfl (hb hby d44_14) rfl ?_
    exact kz
   obtain ⟨cl4, Ar4, Sz4, Hs4⟩ := (id A6)
   refine Goes.via (S' := s₁.setTop (mkF m 16 #[Vr nb, Vi tt, Vi ii, Vi lo] [(.ref (sa iN)), (.ref (sa tN))])) (fun tz kz => ?_) ?_
   ·refine X0.aaload hx (j := ii) (v := (.ref (sa iN))) (by rw [e0]; exact Ar4.1) (State.isArrayOf_alike hZ.alike Ar4.2.1) rfl Ar4.2.2 (own_in Sz4 hi i6) (own_atR Hs4 hi i6) (g := (mkF m 15 #[Vr nb, Vi tt, Vi ii, Vi lo] [(.int ii), (.ref nb), (.ref (sa tN))])) rfl rfl (hb hby d44_15) _ ?_
    exact kz
   obtain ⟨cq5, kq5, q5a, q5b, q5c⟩ := isOf hZ e0 (ST tN t6).1
   obtain ⟨_, _, ⟨T5, L5, k5, n5⟩, -, X5, ⟨Lc5, hQ5, l5, y5, z5⟩, st5⟩ := X0.virtualBack hx (y := n_38) (z := n_38) hown (mvT hZ (w_ hw 206 rfl)) (mvT hZ (w_ hw 207 rfl)) (notFace_of_selects (args := #[]) (mvT hZ (w_ hw 209 rfl))) (mvT hZ (w_ hw 209 rfl)) (mvT hZ (w_ hw 208 rfl)) (by decide) (backOf (W := 0) (rqs l Z a0 hw [] (sa tN) (sa iN) (va tN) (va iN) (ka tN) (ka iN) cs (pp tN &&& (3 : Int32)) (own_c0 (pp tN)) (own_c1 (pp tN)) (own_c2 (pp tN)) (pp iN &&& (3 : Int32)) (own_c0 (pp iN)) (own_c1 (pp iN)) (own_c2 (pp iN)) h0 n0 Z0 SC hcs O0 (ST tN t6) (ST iN i6) (own_and4 _) (own_and4 _) (own_c0u _) (own_c1u _) (own_c2u _) (own_c0u _) (own_c1u _) (own_c2u _)) hZ (w_ hw 210 rfl) (w_ hw 7 rfl) (by decide) (by decide)) q5a q5c (g := (mkF m 16 #[Vr nb, Vi tt, Vi ii, Vi lo] [(.ref (sa iN)), (.ref (sa tN))])) rfl (by rw [hml]; rfl) (Steps.refl _) (argsL := [(.ref (sa iN))]) (rest := []) (lenOf pd_24 rfl) rfl (ww_ rfl rfl) (hb hby d44_16) (fun _ _ => ⟨rfl, e0, (by decide : 0 + 0 ≤ _), (by decide : 0 + 0 ≤ _)⟩)
   dsimp only [Pt.U, Pt.locs, Pt.cells, Pt.slots] at X5 l5 y5 z5 st5 hQ5
   subst l5 y5 z5
   obtain ⟨bb, rfl, N5, e5, dd⟩ := hQ5
   have Nf5 := Fr.app N0 N5
   refine Goes.via (fun _ kz => st5.trans kz) ?_
   by_cases hc19_6 : bb = (0 : Int32)
   ·refine Goes.via (S' := T5.setTop (mkF m 27 #[Vr nb, Vi tt, Vi ii, Vi lo] [(.int 1)])) (fun tz kz => ?_) ?_
    ·refine XS.ifNo X5.here hx rfl (hb hby d44_19) rfl ((if0 _ _).trans (teq hc19_6).2) ?_
     refine XS.iconst X5.here hx rfl (hb hby d44_22) ?_
     refine XS.goto X5.here hx rfl (pc0 := 23) (pc' := 27) rfl (hb hby d44_23) (by decide) (by decide) ?_
     exact kz
    exact Goes.retN X5 hx Bd.notSynchronized (t := .boolean) Bd.returns (by simp) (hb hby d44_27) (nb_ rfl) (nb_ rfl) ⟨_, rfl, Nf5, e5, Or.inl ⟨rfl, Or.inr (Or.inr (dd.no hc19_6))⟩⟩
   ·refine Goes.via (S' := T5.setTop (mkF m 27 #[Vr nb, Vi tt, Vi ii, Vi lo] [(.int 0)])) (fun tz kz => ?_) ?_
    ·refine XS.ifYes X5.here hx rfl (pc0 := 19) (pc' := 26) rfl (hb hby d44_19) rfl ((if0 _ _).trans (feq hc19_6).2) (by decide) (by decide) ?_
     refine XS.iconst X5.here hx rfl (hb hby d44_26) ?_
     exact kz
    exact Goes.retN X5 hx Bd.notSynchronized (t := .boolean) Bd.returns (by simp) (hb hby d44_27) (nb_ rfl) (nb_ rfl) ⟨_, rfl, Nf5, e5, Or.inr ⟨rfl, own_nor (mt (ht.lt hl).mpr hc2_1) ((ht.lt hi).mp hc7_2) (dd.yes hc19_6)⟩⟩
  ·refine Goes.via (S' := s₁.setTop (mkF m 27 #[Vr nb, Vi tt, Vi ii, Vi lo] [(.int 1)])) (fun tz kz => ?_) ?_
   ·refine XS.icmpYes X0.here hx rfl (pc0 := 7) (pc' := 22) rfl (hb hby d44_7) rfl (flt hc7_2).2.1 (by decide) (by decide) ?_
    refine XS.iconst X0.here hx rfl (hb hby d44_22) ?_
    refine XS.goto X0.here hx rfl (pc0 := 23) (pc' := 27) rfl (hb hby d44_23) (by decide) (by decide) ?_
    exact kz
   exact Goes.retN X0 hx Bd.notSynchronized (t := .boolean) Bd.returns (by simp) (hb hby d44_27) (nb_ rfl) (nb_ rfl) ⟨_, rfl, N0, e0, Or.inl ⟨rfl, Or.inr (Or.inl (Nat.le_of_not_lt (mt (ht.lt hi).mpr hc7_2)))⟩⟩
theorem own_cn {K : Nat → Nat} {lN uN iN : Nat} (h : ¬ (lN ≤ iN ∧ iN < uN ∧ ∀ t, lN ≤ t → t < iN → K t ≠ K iN)) : own_I 0 (own_one K lN uN iN) := by rw [own_one.no h]; exact own_I0
theorem own_c1x {K : Nat → Nat} {lN uN iN t : Nat} (h : ¬ (t < lN ∨ iN ≤ t ∨ ¬ K t = K iN)) : ¬ (lN ≤ iN ∧ iN < uN ∧ ∀ t, lN ≤ t → t < iN → K t ≠ K iN) := fun z => by
 have h1 : ¬ t < lN := fun y => h (Or.inl y)
 have h2 : ¬ iN ≤ t := fun y => h (Or.inr (Or.inl y))
 exact h (Or.inr (Or.inr (z.2.2 t (by omega) (by omega))))
theorem own_cy {K : Nat → Nat} {lN uN iN : Nat} (a : lN ≤ iN) (b : iN < uN) (i6 : iN < 6) (h0 : 0 < lN ∨ iN ≤ 0 ∨ ¬ K 0 = K iN) (h1 : 1 < lN ∨ iN ≤ 1 ∨ ¬ K 1 = K iN) (h2 : 2 < lN ∨ iN ≤ 2 ∨ ¬ K 2 = K iN) (h3 : 3 < lN ∨ iN ≤ 3 ∨ ¬ K 3 = K iN) (h4 : 4 < lN ∨ iN ≤ 4 ∨ ¬ K 4 = K iN) : own_I 1 (own_one K lN uN iN) := by
 rw [own_one.yes a b (fun t y1 y2 => ?_)]
 ·exact own_I1
 ·have g : ∀ t, (t < lN ∨ iN ≤ t ∨ ¬ K t = K iN) → lN ≤ t → t < iN → K t ≠ K iN := fun t z a b => by
   rcases z with z | z | z
   ·omega
   ·omega
   ·exact z
  rcases (show t = 0 ∨ t = 1 ∨ t = 2 ∨ t = 3 ∨ t = 4 by omega) with rfl | rfl | rfl | rfl | rfl
  ·exact g 0 h0 y1 y2
  ·exact g 1 h1 y1 y2
  ·exact g 2 h2 y1 y2
  ·exact g 3 h3 y1 y2
  ·exact g 4 h4 y1 y2
theorem d19_0 : De c_19 0 (.iload_n 1) 1 := by decide +kernel
theorem d19_1 : De c_19 1 (.iload_n 2) 1 := by decide +kernel
theorem d19_2 : De c_19 2 (.if_icmp .lt 8) 3 := by decide +kernel
theorem d19_5 : De c_19 5 (.iload_n 1) 1 := by decide +kernel
theorem d19_6 : De c_19 6 (.iload_n 3) 1 := by decide +kernel
theorem d19_7 : De c_19 7 (.if_icmp .lt 5) 3 := by decide +kernel
theorem d19_10 : De c_19 10 (.iconst 0) 1 := by decide +kernel
theorem d19_11 : De c_19 11 .ireturn 1 := by decide +kernel
theorem d19_12 : De c_19 12 (.aload_n 0) 1 := by decide +kernel
theorem d19_13 : De c_19 13 (.iconst 0) 1 := by decide +kernel
theorem d19_14 : De c_19 14 (.iload_n 1) 1 := by decide +kernel
theorem d19_15 : De c_19 15 (.iload_n 2) 1 := by decide +kernel
theorem d19_16 : De c_19 16 (.invokestatic 63) 3 := by decide +kernel
theorem d19_19 : De c_19 19 (.ifCond .eq 47) 3 := by decide +kernel
theorem d19_22 : De c_19 22 (.aload_n 0) 1 := by decide +kernel
theorem d19_23 : De c_19 23 (.iconst 1) 1 := by decide +kernel
theorem d19_24 : De c_19 24 (.iload_n 1) 1 := by decide +kernel
theorem d19_25 : De c_19 25 (.iload_n 2) 1 := by decide +kernel
theorem d19_26 : De c_19 26 (.invokestatic 63) 3 := by decide +kernel
theorem d19_29 : De c_19 29 (.ifCond .eq 37) 3 := by decide +kernel
theorem d19_32 : De c_19 32 (.aload_n 0) 1 := by decide +kernel
theorem d19_33 : De c_19 33 (.iconst 2) 1 := by decide +kernel
theorem d19_34 : De c_19 34 (.iload_n 1) 1 := by decide +kernel
theorem d19_35 : De c_19 35 (.iload_n 2) 1 := by decide +kernel
theorem d19_36 : De c_19 36 (.invokestatic 63) 3 := by decide +kernel
theorem d19_39 : De c_19 39 (.ifCond .eq 27) 3 := by decide +kernel
theorem d19_42 : De c_19 42 (.aload_n 0) 1 := by decide +kernel
theorem d19_43 : De c_19 43 (.iconst 3) 1 := by decide +kernel
theorem d19_44 : De c_19 44 (.iload_n 1) 1 := by decide +kernel
theorem d19_45 : De c_19 45 (.iload_n 2) 1 := by decide +kernel
theorem d19_46 : De c_19 46 (.invokestatic 63) 3 := by decide +kernel
theorem d19_49 : De c_19 49 (.ifCond .eq 17) 3 := by decide +kernel
theorem d19_52 : De c_19 52 (.aload_n 0) 1 := by decide +kernel
theorem d19_53 : De c_19 53 (.iconst 4) 1 := by decide +kernel
theorem d19_54 : De c_19 54 (.iload_n 1) 1 := by decide +kernel
theorem d19_55 : De c_19 55 (.iload_n 2) 1 := by decide +kernel
theorem d19_56 : De c_19 56 (.invokestatic 63) 3 := by decide +kernel
theorem d19_59 : De c_19 59 (.ifCond .eq 7) 3 := by decide +kernel
theorem d19_62 : De c_19 62 (.iconst 1) 1 := by decide +kernel
theorem d19_63 : De c_19 63 (.goto 4) 3 := by decide +kernel
theorem d19_66 : De c_19 66 (.iconst 0) 1 := by decide +kernel
theorem d19_67 : De c_19 67 (.istore 4) 2 := by decide +kernel
theorem d19_69 : De c_19 69 (.iload 4) 2 := by decide +kernel
theorem d19_71 : De c_19 71 (.ifCond .eq 7) 3 := by decide +kernel
theorem d19_74 : De c_19 74 (.iconst 1) 1 := by decide +kernel
theorem d19_75 : De c_19 75 (.goto 4) 3 := by decide +kernel
theorem d19_78 : De c_19 78 (.iconst 0) 1 := by decide +kernel
theorem d19_79 : De c_19 79 .ireturn 1 := by decide +kernel
theorem pn_19 : plainName "com/example/upkeep_window/upkeepwindow/policy/OpenNamesHeightPinLaw" = true := by first | (simp [plainName, overriddenIn]; done) | decide +kernel
theorem ef_19 (m : MethodId) (x0 : Addr) (x1 : Int32) (x2 : Int32) (x3 : Int32) : entryFrame m #[(.ref x0), (.int x1), (.int x2), (.int x3)] 5 = mkF m 0 #[Vr x0, Vi x1, Vi x2, Vi x3, Vu] [] := by first | rfl | simp [entryFrame, mkF, argsToLocals, Value.category]
def Q_rct (Z : State) (nb : Addr) (ii : Int32) (lo : Int32) (up : Int32) (iN lN uN : Nat) (sa va : Nat → Addr) (ka : Nat → ClassId) (pp : Nat → Int32) (cs : Int32) (h0 : Heap) (n0 : Nat) : Option Value → Heap → List Loc → Prop := fun v h L => ∃ rr, v = some (.int rr) ∧ Fr n0 L ∧ h = h0 ∧ own_I rr (own_one (own_Ks pp) lN uN iN)
theorem rct (l : Launch) (Z : State) (a0 : Array Value) (hw : ∀ d ∈ tables_1, d.before a0 Z = true) (ws : List Jvm.Cond) (nb : Addr) (ii : Int32) (lo : Int32) (up : Int32) (iN lN uN : Nat) (sa va : Nat → Addr) (ka : Nat → ClassId) (pp : Nat → Int32) (cs : Int32) (h0 : Heap) (n0 : Nat) (Z0 : n0 ≤ h0.size) (A6 : own_A6 Z h0 nb sa) (ST : own_ST Z h0 sa va ka pp) (SC : Sta Z Z.heap "java/lang/String" "COMPACT_STRINGS" "Z" (.int cs)) (hcs : ¬ cs = (0 : Int32)) (O0 : Old Z n0 h0) (hi : own_I ii iN) (i6 : iN < 6) (hl : own_I lo lN) (hu : own_I up uN) :
  own_M l Z n_40 (Jvm.Cond.code n_40 method_6_code 5 (some .int)) ws (Rm 3 0 0 48) #[(.ref nb), (.int ii), (.int lo), (.int up)] h0 (Q_rct Z nb ii lo up iN lN uN sa va ka pp cs h0 n0) := by
 refine MetFree.of_bodySF (plainFor_of_name pn_19) hisR ?_
 intro p e s m args below meth c s₁ Bd hml0 hP hK
 obtain ⟨rfl, hZ, hh⟩ := hP
 have hx := Bd.exec
 have hby := Bd.bytes
 have hml : c.maxLocals = 5 := hml0
 have hown : s.vm.findClass "com/example/upkeep_window/upkeepwindow/policy/OpenNamesHeightPinLaw" = some m.cls := findClass_of_methodNamed Bd.named
 have hnm := (name_of_methodNamed Bd.named Bd.method).1
 have X0 : Stand p l e (Rm 3 0 0 48) s m #[(.ref nb), (.int ii), (.int lo), (.int up)] below meth c s₁ [] 0 0 := Stand.of_body Bd
 have e0 : s₁.heap = h0 := by rw [← hh, Bd.state]; rfl
 have N0 := Fr.nil n0
 show Goes p e below (Fin s (Q_rct Z nb ii lo up iN lN uN sa va ka pp cs h0 n0) (Rm 3 0 0 48).cells (Rm 3 0 0 48).slots) _
 refine Goes.via (S' := s₁.setTop (mkF m 0 #[Vr nb, Vi ii, Vi lo, Vi up, Vu] [])) (fun tz kz => castTop (ef_19 m nb ii lo up ) kz) ?_
 refine Goes.via (S' := s₁.setTop (mkF m 2 #[Vr nb, Vi ii, Vi lo, Vi up, Vu] [(.int lo), (.int ii)])) (fun tz kz => ?_) ?_
 ·refine XS.iloadN X0.here hx rfl (hb hby d19_0) rfl ?_
  refine XS.iloadN X0.here hx rfl (hb hby d19_1) rfl ?_
  exact kz
 by_cases hc2_1 : ii < lo
 ·refine Goes.via (S' := s₁.setTop (mkF m 11 #[Vr nb, Vi ii, Vi lo, Vi up, Vu] [(.int 0)])) (fun tz kz => ?_) ?_
  ·refine XS.icmpYes X0.here hx rfl (pc0 := 2) (pc' := 10) rfl (hb hby d19_2) rfl (tlt hc2_1).1 (by decide) (by decide) ?_
   refine XS.iconst X0.here hx rfl (hb hby d19_10) ?_
   exact kz
  exact Goes.retI X0 hx Bd.notSynchronized Bd.returns (hb hby d19_11) (nb_ rfl) (nb_ rfl) ⟨_, rfl, N0, e0, own_cn (fun z => absurd ((hi.lt hl).mp hc2_1) (Nat.not_lt.mpr z.1))⟩
 ·refine Goes.via (S' := s₁.setTop (mkF m 7 #[Vr nb, Vi ii, Vi lo, Vi up, Vu] [(.int up), (.int ii)])) (fun tz kz => ?_) ?_
  ·refine XS.icmpNo X0.here hx rfl (hb hby d19_2) rfl (flt hc2_1).1 ?_
   refine XS.iloadN X0.here hx rfl (hb hby d19_5) rfl ?_
   refine XS.iloadN X0.here hx rfl (hb hby d19_6) rfl ?_
   exact kz
  by_cases hc7_2 : ii < up
  ·refine Goes.via (S' := s₁.setTop (mkF m 16 #[Vr nb, Vi ii, Vi lo, Vi up, Vu] [(.int lo), (.int ii), (.int 0), (.ref nb)])) (fun tz kz => ?_) ?_
   ·refine XS.icmpYes X0.here hx rfl (pc0 := 7) (pc' := 12) rfl (hb hby d19_7) rfl (tlt hc7_2).1 (by decide) (by decide) ?_
    refine XS.aloadN X0.here hx rfl (hb hby d19_12) rfl rfl ?_
    refine XS.iconst X0.here hx rfl (hb hby d19_13) ?_
    refine XS.iloadN X0.here hx rfl (hb hby d19_14) rfl ?_
    refine XS.iloadN X0.here hx rfl (hb hby d19_15) rfl ?_
    exact kz
   obtain ⟨_, _, ⟨T3, L3, k3, n3⟩, -, X3, ⟨Lc3, hQ3, l3, y3, z3⟩, st3⟩ := Jvm.LawKit.callS X0 hx (y := n_39) hown (mvT hZ (w_ hw 203 rfl)) (mvT hZ (w_ hw 204 rfl)) (mvT hZ (w_ hw 4 rfl)) (mvT hZ (w_ hw 205 rfl)) (by decide) (backOf (W := 0) (rdf l Z a0 hw [] nb (0 : Int32) ii lo 0 iN lN sa va ka pp cs h0 n0 Z0 A6 ST SC hcs O0 own_I0 (by decide) hi i6 hl) hZ (w_ hw 205 rfl) (w_ hw 4 rfl) (by decide) (by decide)) (g := (mkF m 16 #[Vr nb, Vi ii, Vi lo, Vi up, Vu] [(.int lo), (.int ii), (.int 0), (.ref nb)])) rfl (by rw [hml]; rfl) (argsL := [(.ref nb), (.int 0), (.int ii), (.int lo)]) (rest := []) (lenOf pd_25 rfl) rfl (ww_ rfl rfl) (hb hby d19_16) (fun _ _ => ⟨rfl, e0, (by decide : 0 + 0 ≤ _), (by decide : 0 + 0 ≤ _)⟩)
   dsimp only [Pt.U, Pt.locs, Pt.cells, Pt.slots] at X3 l3 y3 z3 st3 hQ3
   subst l3 y3 z3
   obtain ⟨bb0, rfl, N3, e3, dd0⟩ := hQ3
   have Nf3 := Fr.app N0 N3
   refine Goes.via (st3) ?_
   by_cases hc19_4 : bb0 = (0 : Int32)
   ·refine Goes.via (S' := T3.setTop (mkF m 79 #[Vr nb, Vi ii, Vi lo, Vi up, Vi 0] [(.int 0)])) (fun tz kz => ?_) ?_
    ·refine XS.ifYes X3.here hx rfl (pc0 := 19) (pc' := 66) rfl (hb hby d19_19) rfl ((if0 _ _).trans (teq hc19_4).1) (by decide) (by decide) ?_
     refine XS.iconst X3.here hx rfl (hb hby d19_66) ?_
     refine XS.istore X3.here hx rfl (hb hby d19_67) rfl (l' := #[Vr nb, Vi ii, Vi lo, Vi up, Vi 0]) rfl ?_
     refine XS.iload X3.here hx rfl (hb hby d19_69) rfl ?_
     refine XS.ifYes X3.here hx rfl (pc0 := 71) (pc' := 78) rfl (hb hby d19_71) rfl ((if0 _ _).trans (teq (by first | decide | rfl)).1) (by decide) (by decide) ?_
     refine XS.iconst X3.here hx rfl (hb hby d19_78) ?_
     exact kz
    exact Goes.retI X3 hx Bd.notSynchronized Bd.returns (hb hby d19_79) (nb_ rfl) (nb_ rfl) ⟨_, rfl, Nf3, e3, own_cn (own_c1x (dd0.no hc19_4))⟩
   ·refine Goes.via (S' := T3.setTop (mkF m 26 #[Vr nb, Vi ii, Vi lo, Vi up, Vu] [(.int lo), (.int ii), (.int 1), (.ref nb)])) (fun tz kz => ?_) ?_
    ·refine XS.ifNo X3.here hx rfl (hb hby d19_19) rfl ((if0 _ _).trans (feq hc19_4).1) ?_
     refine XS.aloadN X3.here hx rfl (hb hby d19_22) rfl rfl ?_
     refine XS.iconst X3.here hx rfl (hb hby d19_23) ?_
     refine XS.iloadN X3.here hx rfl (hb hby d19_24) rfl ?_
     refine XS.iloadN X3.here hx rfl (hb hby d19_25) rfl ?_
     exact kz
    obtain ⟨_, _, ⟨T5, L5, k5, n5⟩, -, X5, ⟨Lc5, hQ5, l5, y5, z5⟩, st5⟩ := Jvm.LawKit.callS X3 hx (y := n_39) hown (mvT hZ (w_ hw 203 rfl)) (mvT hZ (w_ hw 204 rfl)) (mvT hZ (w_ hw 4 rfl)) (mvT hZ (w_ hw 205 rfl)) (by decide) (backOf (W := 0) (rdf l Z a0 hw [] nb (1 : Int32) ii lo 1 iN lN sa va ka pp cs h0 n0 Z0 A6 ST SC hcs O0 own_I1 (by decide) hi i6 hl) hZ (w_ hw 205 rfl) (w_ hw 4 rfl) (by decide) (by decide)) (g := (mkF m 26 #[Vr nb, Vi ii, Vi lo, Vi up, Vu] [(.int lo), (.int ii), (.int 1), (.ref nb)])) rfl (by rw [hml]; rfl) (argsL := [(.ref nb), (.int 1), (.int ii), (.int lo)]) (rest := []) (lenOf pd_25 rfl) rfl (ww_ rfl rfl) (hb hby d19_26) (fun _ _ => ⟨rfl, e3, (by decide : 0 + 0 ≤ _), (by decide : 0 + 0 ≤ _)⟩)
    dsimp only [Pt.U, Pt.locs, Pt.cells, Pt.slots] at X5 l5 y5 z5 st5 hQ5
    subst l5 y5 z5
    obtain ⟨bb1, rfl, N5, e5, dd1⟩ := hQ5
    have Nf5 := Fr.app Nf3 N5
    refine Goes.via (st5) ?_
    by_cases hc29_6 : bb1 = (0 : Int32)
    ·refine Goes.via (S' := T5.setTop (mkF m 79 #[Vr nb, Vi ii, Vi lo, Vi up, Vi 0] [(.int 0)])) (fun tz kz => ?_) ?_
     ·refine XS.ifYes X5.here hx rfl (pc0 := 29) (pc' := 66) rfl (hb hby d19_29) rfl ((if0 _ _).trans (teq hc29_6).1) (by decide) (by decide) ?_
      refine XS.iconst X5.here hx rfl (hb hby d19_66) ?_
      refine XS.istore X5.here hx rfl (hb hby d19_67) rfl (l' := #[Vr nb, Vi ii, Vi lo, Vi up, Vi 0]) rfl ?_
      refine XS.iload X5.here hx rfl (hb hby d19_69) rfl ?_
      refine XS.ifYes X5.here hx rfl (pc0 := 71) (pc' := 78) rfl (hb hby d19_71) rfl ((if0 _ _).trans (teq (by first | decide | rfl)).1) (by decide) (by decide) ?_
      refine XS.iconst X5.here hx rfl (hb hby d19_78) ?_
      exact kz
     exact Goes.retI X5 hx Bd.notSynchronized Bd.returns (hb hby d19_79) (nb_ rfl) (nb_ rfl) ⟨_, rfl, Nf5, e5, own_cn (own_c1x (dd1.no hc29_6))⟩
    ·refine Goes.via (S' := T5.setTop (mkF m 36 #[Vr nb, Vi ii, Vi lo, Vi up, Vu] [(.int lo), (.int ii), (.int 2), (.ref nb)])) (fun tz kz => ?_) ?_
     ·refine XS.ifNo X5.here hx rfl (hb hby d19_29) rfl ((if0 _ _).trans (feq hc29_6).1) ?_
      refine XS.aloadN X5.here hx rfl (hb hby d19_32) rfl rfl ?_
      refine XS.iconst X5.here hx rfl (hb hby d19_33) ?_
      refine XS.iloadN X5.here hx rfl (hb hby d19_34) rfl ?_
      refine XS.iloadN X5.here hx rfl (hb hby d19_35) rfl ?_
      exact kz
     obtain ⟨_, _, ⟨T7, L7, k7, n7⟩, -, X7, ⟨Lc7, hQ7, l7, y7, z7⟩, st7⟩ := Jvm.LawKit.callS X5 hx (y := n_39) hown (mvT hZ (w_ hw 203 rfl)) (mvT hZ (w_ hw 204 rfl)) (mvT hZ (w_ hw 4 rfl)) (mvT hZ (w_ hw 205 rfl)) (by decide) (backOf (W := 0) (rdf l Z a0 hw [] nb (2 : Int32) ii lo 2 iN lN sa va ka pp cs h0 n0 Z0 A6 ST SC hcs O0 own_I2 (by decide) hi i6 hl) hZ (w_ hw 205 rfl) (w_ hw 4 rfl) (by decide) (by decide)) (g := (mkF m 36 #[Vr nb, Vi ii, Vi lo, Vi up, Vu] [(.int lo), (.int ii), (.int 2), (.ref nb)])) rfl (by rw [hml]; rfl) (argsL := [(.ref nb), (.int 2), (.int ii), (.int lo)]) (rest := []) (lenOf pd_25 rfl) rfl (ww_ rfl rfl) (hb hby d19_36) (fun _ _ => ⟨rfl, e5, (by decide : 0 + 0 ≤ _), (by decide : 0 + 0 ≤ _)⟩)
     dsimp only [Pt.U, Pt.locs, Pt.cells, Pt.slots] at X7 l7 y7 z7 st7 hQ7
     subst l7 y7 z7
     obtain ⟨bb2, rfl, N7, e7, dd2⟩ := hQ7
     have Nf7 := Fr.app Nf5 N7
     refine Goes.via (st7) ?_
     by_cases hc39_8 : bb2 = (0 : Int32)
     ·refine Goes.via (S' := T7.setTop (mkF m 79 #[Vr nb, Vi ii, Vi lo, Vi up, Vi 0] [(.int 0)])) (fun tz kz => ?_) ?_
      ·refine XS.ifYes X7.here hx rfl (pc0 := 39) (pc' := 66) rfl (hb hby d19_39) rfl ((if0 _ _).trans (teq hc39_8).1) (by decide) (by decide) ?_
       refine XS.iconst X7.here hx rfl (hb hby d19_66) ?_
       refine XS.istore X7.here hx rfl (hb hby d19_67) rfl (l' := #[Vr nb, Vi ii, Vi lo, Vi up, Vi 0]) rfl ?_
       refine XS.iload X7.here hx rfl (hb hby d19_69) rfl ?_
       refine XS.ifYes X7.here hx rfl (pc0 := 71) (pc' := 78) rfl (hb hby d19_71) rfl ((if0 _ _).trans (teq (by first | decide | rfl)).1) (by decide) (by decide) ?_
       refine XS.iconst X7.here hx rfl (hb hby d19_78) ?_
       exact kz
      exact Goes.retI X7 hx Bd.notSynchronized Bd.returns (hb hby d19_79) (nb_ rfl) (nb_ rfl) ⟨_, rfl, Nf7, e7, own_cn (own_c1x (dd2.no hc39_8))⟩
     ·refine Goes.via (S' := T7.setTop (mkF m 46 #[Vr nb, Vi ii, Vi lo, Vi up, Vu] [(.int lo), (.int ii), (.int 3), (.ref nb)])) (fun tz kz => ?_) ?_
      ·refine XS.ifNo X7.here hx rfl (hb hby d19_39) rfl ((if0 _ _).trans (feq hc39_8).1) ?_
       refine XS.aloadN X7.here hx rfl (hb hby d19_42) rfl rfl ?_
       refine XS.iconst X7.here hx rfl (hb hby d19_43) ?_
       refine XS.iloadN X7.here hx rfl (hb hby d19_44) rfl ?_
       refine XS.iloadN X7.here hx rfl (hb hby d19_45) rfl ?_
       exact kz
      obtain ⟨_, _, ⟨T9, L9, k9, n9⟩, -, X9, ⟨Lc9, hQ9, l9, y9, z9⟩, st9⟩ := Jvm.LawKit.callS X7 hx (y := n_39) hown (mvT hZ (w_ hw 203 rfl)) (mvT hZ (w_ hw 204 rfl)) (mvT hZ (w_ hw 4 rfl)) (mvT hZ (w_ hw 205 rfl)) (by decide) (backOf (W := 0) (rdf l Z a0 hw [] nb (3 : Int32) ii lo 3 iN lN sa va ka pp cs h0 n0 Z0 A6 ST SC hcs O0 own_I3 (by decide) hi i6 hl) hZ (w_ hw 205 rfl) (w_ hw 4 rfl) (by decide) (by decide)) (g := (mkF m 46 #[Vr nb, Vi ii, Vi lo, Vi up, Vu] [(.int lo), (.int ii), (.int 3), (.ref nb)])) rfl (by rw [hml]; rfl) (argsL := [(.ref nb), (.int 3), (.int ii), (.int lo)]) (rest := []) (lenOf pd_25 rfl) rfl (ww_ rfl rfl) (hb hby d19_46) (fun _ _ => ⟨rfl, e7, (by decide : 0 + 0 ≤ _), (by decide : 0 + 0 ≤ _)⟩)
      dsimp only [Pt.U, Pt.locs, Pt.cells, Pt.slots] at X9 l9 y9 z9 st9 hQ9
      subst l9 y9 z9
      obtain ⟨bb3, rfl, N9, e9, dd3⟩ := hQ9
      have Nf9 := Fr.app Nf7 N9
      refine Goes.via (st9) ?_
      by_cases hc49_10 : bb3 = (0 : Int32)
      ·refine Goes.via (S' := T9.setTop (mkF m 79 #[Vr nb, Vi ii, Vi lo, Vi up, Vi 0] [(.int 0)])) (fun tz kz => ?_) ?_
       ·refine XS.ifYes X9.here hx rfl (pc0 := 49) (pc' := 66) rfl (hb hby d19_49) rfl ((if0 _ _).trans (teq hc49_10).1) (by decide) (by decide) ?_
        refine XS.iconst X9.here hx rfl (hb hby d19_66) ?_
        refine XS.istore X9.here hx rfl (hb hby d19_67) rfl (l' := #[Vr nb, Vi ii, Vi lo, Vi up, Vi 0]) rfl ?_
        refine XS.iload X9.here hx rfl (hb hby d19_69) rfl ?_
        refine XS.ifYes X9.here hx rfl (pc0 := 71) (pc' := 78) rfl (hb hby d19_71) rfl ((if0 _ _).trans (teq (by first | decide | rfl)).1) (by decide) (by decide) ?_
        refine XS.iconst X9.here hx rfl (hb hby d19_78) ?_
        exact kz
       exact Goes.retI X9 hx Bd.notSynchronized Bd.returns (hb hby d19_79) (nb_ rfl) (nb_ rfl) ⟨_, rfl, Nf9, e9, own_cn (own_c1x (dd3.no hc49_10))⟩
      ·refine Goes.via (S' := T9.setTop (mkF m 56 #[Vr nb, Vi ii, Vi lo, Vi up, Vu] [(.int lo), (.int ii), (.int 4), (.ref nb)])) (fun tz kz => ?_) ?_
       ·refine XS.ifNo X9.here hx rfl (hb hby d19_49) rfl ((if0 _ _).trans (feq hc49_10).1) ?_
        refine XS.aloadN X9.here hx rfl (hb hby d19_52) rfl rfl ?_
        refine XS.iconst X9.here hx rfl (hb hby d19_53) ?_
        refine XS.iloadN X9.here hx rfl (hb hby d19_54) rfl ?_
        refine XS.iloadN X9.here hx rfl (hb hby d19_55) rfl ?_
        exact kz
       obtain ⟨_, _, ⟨T11, L11, k11, n11⟩, -, X11, ⟨Lc11, hQ11, l11, y11, z11⟩, st11⟩ := Jvm.LawKit.callS X9 hx (y := n_39) hown (mvT hZ (w_ hw 203 rfl)) (mvT hZ (w_ hw 204 rfl)) (mvT hZ (w_ hw 4 rfl)) (mvT hZ (w_ hw 205 rfl)) (by decide) (backOf (W := 0) (rdf l Z a0 hw [] nb (4 : Int32) ii lo 4 iN lN sa va ka pp cs h0 n0 Z0 A6 ST SC hcs O0 own_I4 (by decide) hi i6 hl) hZ (w_ hw 205 rfl) (w_ hw 4 rfl) (by decide) (by decide)) (g := (mkF m 56 #[Vr nb, Vi ii, Vi lo, Vi up, Vu] [(.int lo), (.int ii), (.int 4), (.ref nb)])) rfl (by rw [hml]; rfl) (argsL := [(.ref nb), (.int 4), (.int ii), (.int lo)]) (rest := []) (lenOf pd_25 rfl) rfl (ww_ rfl rfl) (hb hby d19_56) (fun _ _ => ⟨rfl, e9, (by decide : 0 + 0 ≤ _), (by decide : 0 + 0 ≤ _)⟩)
       dsimp only [Pt.U, Pt.locs, Pt.cells, Pt.slots] at X11 l11 y11 z11 st11 hQ11
       subst l11 y11 z11
       obtain ⟨bb4, rfl, N11, e11, dd4⟩ := hQ11
       have Nf11 := Fr.app Nf9 N11
       refine Goes.via (st11) ?_
       by_cases hc59_12 : bb4 = (0 : Int32)
       ·refine Goes.via (S' := T11.setTop (mkF m 79 #[Vr nb, Vi ii, Vi lo, Vi up, Vi 0] [(.int 0)])) (fun tz kz => ?_) ?_
        ·refine XS.ifYes X11.here hx rfl (pc0 := 59) (pc' := 66) rfl (hb hby d19_59) rfl ((if0 _ _).trans (teq hc59_12).1) (by decide) (by decide) ?_
         refine XS.iconst X11.here hx rfl (hb hby d19_66) ?_
         refine XS.istore X11.here hx rfl (hb hby d19_67) rfl (l' := #[Vr nb, Vi ii, Vi lo, Vi up, Vi 0]) rfl ?_
         refine XS.iload X11.here hx rfl (hb hby d19_69) rfl ?_
         refine XS.ifYes X11.here hx rfl (pc0 := 71) (pc' := 78) rfl (hb hby d19_71) rfl ((if0 _ _).trans (teq (by first | decide | rfl)).1) (by decide) (by decide) ?_
         refine XS.iconst X11.here hx rfl (hb hby d19_78) ?_
         exact kz
        exact Goes.retI X11 hx Bd.notSynchronized Bd.returns (hb hby d19_79) (nb_ rfl) (nb_ rfl) ⟨_, rfl, Nf11, e11, own_cn (own_c1x (dd4.no hc59_12))⟩
       ·refine Goes.via (S' := T11.setTop (mkF m 79 #[Vr nb, Vi ii, Vi lo, Vi up, Vi 1] [(.int 1)])) (fun tz kz => ?_) ?_
        ·refine XS.ifNo X11.here hx rfl (hb hby d19_59) rfl ((if0 _ _).trans (feq hc59_12).1) ?_
         refine XS.iconst X11.here hx rfl (hb hby d19_62) ?_
         refine XS.goto X11.here hx rfl (pc0 := 63) (pc' := 67) rfl (hb hby d19_63) (by decide) (by decide) ?_
         refine XS.istore X11.here hx rfl (hb hby d19_67) rfl (l' := #[Vr nb, Vi ii, Vi lo, Vi up, Vi 1]) rfl ?_
         refine XS.iload X11.here hx rfl (hb hby d19_69) rfl ?_
         refine XS.ifNo X11.here hx rfl (hb hby d19_71) rfl ((if0 _ _).trans (feq (by first | decide | rfl)).1) ?_
         refine XS.iconst X11.here hx rfl (hb hby d19_74) ?_
         refine XS.goto X11.here hx rfl (pc0 := 75) (pc' := 79) rfl (hb hby d19_75) (by decide) (by decide) ?_
         exact kz
        exact Goes.retI X11 hx Bd.notSynchronized Bd.returns (hb hby d19_79) (nb_ rfl) (nb_ rfl) ⟨_, rfl, Nf11, e11, own_cy (Nat.le_of_not_lt (mt (hi.lt hl).mpr hc2_1)) ((hi.lt hu).mp hc7_2) i6 (dd0.yes hc19_4) (dd1.yes hc29_6) (dd2.yes hc39_8) (dd3.yes hc49_10) (dd4.yes hc59_12)⟩
  ·refine Goes.via (S' := s₁.setTop (mkF m 11 #[Vr nb, Vi ii, Vi lo, Vi up, Vu] [(.int 0)])) (fun tz kz => ?_) ?_
   ·refine XS.icmpNo X0.here hx rfl (hb hby d19_7) rfl (flt hc7_2).1 ?_
    refine XS.iconst X0.here hx rfl (hb hby d19_10) ?_
    exact kz
   exact Goes.retI X0 hx Bd.notSynchronized Bd.returns (hb hby d19_11) (nb_ rfl) (nb_ rfl) ⟨_, rfl, N0, e0, own_cn (fun z => hc7_2 ((hi.lt hu).mpr z.2.1))⟩
theorem own_hx0 {n : Nat} (h : n = 0) : own_I 0 (own_hx n) := by subst h; exact own_I0
theorem own_hx1 {n : Nat} (h : n = 1) : own_I 1 (own_hx n) := by subst h; exact own_I1
theorem own_hx2 {n : Nat} (h : ¬ n = 0) (g : ¬ n = 1) (q : ¬ 3 < n) : own_I 2 (own_hx n) := by unfold own_hx; rw [if_neg h, if_neg g, if_pos (by omega)]; exact own_I2
theorem own_hx3 {n : Nat} (q : 3 < n) : own_I 3 (own_hx n) := by unfold own_hx; rw [if_neg (by omega), if_neg (by omega), if_neg (by omega)]; exact own_I3
theorem d20_0 : De c_20 0 (.iload_n 0) 1 := by decide +kernel
theorem d20_1 : De c_20 1 (.ifCond .ne 5) 3 := by decide +kernel
theorem d20_4 : De c_20 4 (.iconst 0) 1 := by decide +kernel
theorem d20_5 : De c_20 5 .ireturn 1 := by decide +kernel
theorem d20_6 : De c_20 6 (.iload_n 0) 1 := by decide +kernel
theorem d20_7 : De c_20 7 (.iconst 1) 1 := by decide +kernel
theorem d20_8 : De c_20 8 (.if_icmp .ne 5) 3 := by decide +kernel
theorem d20_11 : De c_20 11 (.iconst 1) 1 := by decide +kernel
theorem d20_12 : De c_20 12 .ireturn 1 := by decide +kernel
theorem d20_13 : De c_20 13 (.iload_n 0) 1 := by decide +kernel
theorem d20_14 : De c_20 14 (.iconst 3) 1 := by decide +kernel
theorem d20_15 : De c_20 15 (.if_icmp .gt 5) 3 := by decide +kernel
theorem d20_18 : De c_20 18 (.iconst 2) 1 := by decide +kernel
theorem d20_19 : De c_20 19 .ireturn 1 := by decide +kernel
theorem d20_20 : De c_20 20 (.iconst 3) 1 := by decide +kernel
theorem d20_21 : De c_20 21 .ireturn 1 := by decide +kernel
theorem pn_20 : plainName "com/example/upkeep_window/upkeepwindow/policy/OpenNamesHeightPinLaw" = true := by first | (simp [plainName, overriddenIn]; done) | decide +kernel
theorem ef_20 (m : MethodId) (x0 : Int32) : entryFrame m #[(.int x0)] 1 = mkF m 0 #[Vi x0] [] := by first | rfl | simp [entryFrame, mkF, argsToLocals, Value.category]
def Q_rex (Z : State) (x : Int32) (xN : Nat) (h0 : Heap) (n0 : Nat) : Option Value → Heap → List Loc → Prop := fun v h L => ∃ rr, v = some (.int rr) ∧ Fr n0 L ∧ h = h0 ∧ own_I rr (own_hx xN)
theorem rex (l : Launch) (Z : State) (a0 : Array Value) (hw : ∀ d ∈ tables_1, d.before a0 Z = true) (ws : List Jvm.Cond) (x : Int32) (xN : Nat) (h0 : Heap) (n0 : Nat) (Z0 : n0 ≤ h0.size) (hq : own_I x xN) :
  own_M l Z n_41 (Jvm.Cond.code n_41 method_7_code 1 (some .int)) ws (Rm 0 0 0 0) #[(.int x)] h0 (Q_rex Z x xN h0 n0) := by
 refine MetFree.of_bodySF (plainFor_of_name pn_20) hisR ?_
 intro p e s m args below meth c s₁ Bd hml0 hP hK
 obtain ⟨rfl, hZ, hh⟩ := hP
 have hx := Bd.exec
 have hby := Bd.bytes
 have hml : c.maxLocals = 1 := hml0
 have hown : s.vm.findClass "com/example/upkeep_window/upkeepwindow/policy/OpenNamesHeightPinLaw" = some m.cls := findClass_of_methodNamed Bd.named
 have hnm := (name_of_methodNamed Bd.named Bd.method).1
 have X0 : Stand p l e (Rm 0 0 0 0) s m #[(.int x)] below meth c s₁ [] 0 0 := Stand.of_body Bd
 have e0 : s₁.heap = h0 := by rw [← hh, Bd.state]; rfl
 have N0 := Fr.nil n0
 show Goes p e below (Fin s (Q_rex Z x xN h0 n0) (Rm 0 0 0 0).cells (Rm 0 0 0 0).slots) _
 refine Goes.via (S' := s₁.setTop (mkF m 0 #[Vi x] [])) (fun tz kz => castTop (ef_20 m x ) kz) ?_
 refine Goes.via (S' := s₁.setTop (mkF m 1 #[Vi x] [(.int x)])) (fun tz kz => ?_) ?_
 ·refine XS.iloadN X0.here hx rfl (hb hby d20_0) rfl ?_
  exact kz
 by_cases hc1_1 : x = (0 : Int32)
 ·refine Goes.via (S' := s₁.setTop (mkF m 5 #[Vi x] [(.int 0)])) (fun tz kz => ?_) ?_
  ·refine XS.ifNo X0.here hx rfl (hb hby d20_1) rfl ((if0 _ _).trans (teq hc1_1).2) ?_
   refine XS.iconst X0.here hx rfl (hb hby d20_4) ?_
   exact kz
  exact Goes.retI X0 hx Bd.notSynchronized Bd.returns (hb hby d20_5) (nb_ rfl) (nb_ rfl) ⟨_, rfl, N0, e0, own_hx0 ((hq.eq own_I0).mp hc1_1)⟩
 ·refine Goes.via (S' := s₁.setTop (mkF m 8 #[Vi x] [(.int 1), (.int x)])) (fun tz kz => ?_) ?_
  ·refine XS.ifYes X0.here hx rfl (pc0 := 1) (pc' := 6) rfl (hb hby d20_1) rfl ((if0 _ _).trans (feq hc1_1).2) (by decide) (by decide) ?_
   refine XS.iloadN X0.here hx rfl (hb hby d20_6) rfl ?_
   refine XS.iconst X0.here hx rfl (hb hby d20_7) ?_
   exact kz
  by_cases hc8_2 : x = (1 : Int32)
  ·refine Goes.via (S' := s₁.setTop (mkF m 12 #[Vi x] [(.int 1)])) (fun tz kz => ?_) ?_
   ·refine XS.icmpNo X0.here hx rfl (hb hby d20_8) rfl (teq hc8_2).2 ?_
    refine XS.iconst X0.here hx rfl (hb hby d20_11) ?_
    exact kz
   exact Goes.retI X0 hx Bd.notSynchronized Bd.returns (hb hby d20_12) (nb_ rfl) (nb_ rfl) ⟨_, rfl, N0, e0, own_hx1 ((hq.eq own_I1).mp hc8_2)⟩
  ·refine Goes.via (S' := s₁.setTop (mkF m 15 #[Vi x] [(.int 3), (.int x)])) (fun tz kz => ?_) ?_
   ·refine XS.icmpYes X0.here hx rfl (pc0 := 8) (pc' := 13) rfl (hb hby d20_8) rfl (feq hc8_2).2 (by decide) (by decide) ?_
    refine XS.iloadN X0.here hx rfl (hb hby d20_13) rfl ?_
    refine XS.iconst X0.here hx rfl (hb hby d20_14) ?_
    exact kz
   by_cases hc15_3 : (3 : Int32) < x
   ·refine Goes.via (S' := s₁.setTop (mkF m 21 #[Vi x] [(.int 3)])) (fun tz kz => ?_) ?_
    ·refine XS.icmpYes X0.here hx rfl (pc0 := 15) (pc' := 20) rfl (hb hby d20_15) rfl (tlt hc15_3).2.2.1 (by decide) (by decide) ?_
     refine XS.iconst X0.here hx rfl (hb hby d20_20) ?_
     exact kz
    exact Goes.retI X0 hx Bd.notSynchronized Bd.returns (hb hby d20_21) (nb_ rfl) (nb_ rfl) ⟨_, rfl, N0, e0, own_hx3 ((own_I3.lt hq).mp hc15_3)⟩
   ·refine Goes.via (S' := s₁.setTop (mkF m 19 #[Vi x] [(.int 2)])) (fun tz kz => ?_) ?_
    ·refine XS.icmpNo X0.here hx rfl (hb hby d20_15) rfl (flt hc15_3).2.2.1 ?_
     refine XS.iconst X0.here hx rfl (hb hby d20_18) ?_
     exact kz
    exact Goes.retI X0 hx Bd.notSynchronized Bd.returns (hb hby d20_19) (nb_ rfl) (nb_ rfl) ⟨_, rfl, N0, e0, own_hx2 (mt (hq.eq own_I0).mpr hc1_1) (mt (hq.eq own_I1).mpr hc8_2) (mt (own_I3.lt hq).mpr hc15_3)⟩
theorem d21_0 : De c_21 0 (.aload_n 0) 1 := by decide +kernel
theorem d21_1 : De c_21 1 (.aload_n 0) 1 := by decide +kernel
theorem d21_2 : De c_21 2 (.getfield 43) 3 := by decide +kernel
theorem d21_5 : De c_21 5 (.invokevirtual 46) 3 := by decide +kernel
theorem d21_8 : De c_21 8 (.istore_n 2) 1 := by decide +kernel
theorem d21_9 : De c_21 9 (.iload_n 2) 1 := by decide +kernel
theorem d21_10 : De c_21 10 (.aload_n 1) 1 := by decide +kernel
theorem d21_11 : De c_21 11 (.invokevirtual 50) 3 := by decide +kernel
theorem d21_14 : De c_21 14 .iadd 1 := by decide +kernel
theorem d21_15 : De c_21 15 (.istore_n 3) 1 := by decide +kernel
theorem d21_16 : De c_21 16 (.iload_n 3) 1 := by decide +kernel
theorem d21_17 : De c_21 17 (.aload_n 0) 1 := by decide +kernel
theorem d21_18 : De c_21 18 (.getfield 7) 3 := by decide +kernel
theorem d21_21 : De c_21 21 .arraylength 1 := by decide +kernel
theorem d21_22 : De c_21 22 (.if_icmp .le 31) 3 := by decide +kernel
theorem d21_53 : De c_21 53 (.aload_n 1) 1 := by decide +kernel
theorem d21_54 : De c_21 54 (.iconst 0) 1 := by decide +kernel
theorem d21_55 : De c_21 55 (.aload_n 1) 1 := by decide +kernel
theorem d21_56 : De c_21 56 (.invokevirtual 50) 3 := by decide +kernel
theorem d21_59 : De c_21 59 (.aload_n 0) 1 := by decide +kernel
theorem d21_60 : De c_21 60 (.getfield 7) 3 := by decide +kernel
theorem d21_63 : De c_21 63 (.iload_n 2) 1 := by decide +kernel
theorem d21_64 : De c_21 64 (.invokevirtual 65) 3 := by decide +kernel
theorem d21_67 : De c_21 67 (.aload_n 0) 1 := by decide +kernel
theorem d21_68 : De c_21 68 (.getfield 30) 3 := by decide +kernel
theorem d21_71 : De c_21 71 (.aload_n 0) 1 := by decide +kernel
theorem d21_72 : De c_21 72 (.getfield 33) 3 := by decide +kernel
theorem d21_75 : De c_21 75 (.iconst 1) 1 := by decide +kernel
theorem d21_76 : De c_21 76 .isub 1 := by decide +kernel
theorem d21_77 : De c_21 77 .iaload 1 := by decide +kernel
theorem d21_78 : De c_21 78 (.istore 4) 2 := by decide +kernel
theorem d21_80 : De c_21 80 (.aload_n 0) 1 := by decide +kernel
theorem d21_81 : De c_21 81 (.iload 4) 2 := by decide +kernel
theorem d21_83 : De c_21 83 (.iload_n 2) 1 := by decide +kernel
theorem d21_84 : De c_21 84 (.iload_n 3) 1 := by decide +kernel
theorem d21_85 : De c_21 85 (.invokevirtual 69) 3 := by decide +kernel
theorem d21_88 : De c_21 88 (.ifCond .ne 7) 3 := by decide +kernel
theorem d21_91 : De c_21 91 (.iconst 1) 1 := by decide +kernel
theorem d21_92 : De c_21 92 (.goto 4) 3 := by decide +kernel
theorem d21_95 : De c_21 95 (.iconst 0) 1 := by decide +kernel
theorem d21_96 : De c_21 96 (.istore 5) 2 := by decide +kernel
theorem d21_98 : De c_21 98 (.iload 5) 2 := by decide +kernel
theorem d21_100 : De c_21 100 (.ifCond .eq 174) 3 := by decide +kernel
theorem d21_103 : De c_21 103 (.aload_n 0) 1 := by decide +kernel
theorem d21_104 : De c_21 104 (.getfield 43) 3 := by decide +kernel
theorem d21_107 : De c_21 107 (.aload_n 0) 1 := by decide +kernel
theorem d21_108 : De c_21 108 (.getfield 13) 3 := by decide +kernel
theorem d21_111 : De c_21 111 .arraylength 1 := by decide +kernel
theorem d21_112 : De c_21 112 (.if_icmp .ne 91) 3 := by decide +kernel
theorem d21_203 : De c_21 203 (.aload_n 0) 1 := by decide +kernel
theorem d21_204 : De c_21 204 (.getfield 13) 3 := by decide +kernel
theorem d21_207 : De c_21 207 (.aload_n 0) 1 := by decide +kernel
theorem d21_208 : De c_21 208 (.getfield 43) 3 := by decide +kernel
theorem d21_211 : De c_21 211 (.iload_n 3) 1 := by decide +kernel
theorem d21_212 : De c_21 212 .iastore 1 := by decide +kernel
theorem d21_213 : De c_21 213 (.aload_n 0) 1 := by decide +kernel
theorem d21_214 : De c_21 214 (.getfield 17) 3 := by decide +kernel
theorem d21_217 : De c_21 217 (.aload_n 0) 1 := by decide +kernel
theorem d21_218 : De c_21 218 (.getfield 43) 3 := by decide +kernel
theorem d21_221 : De c_21 221 (.iconst (-1)) 1 := by decide +kernel
theorem d21_222 : De c_21 222 .iastore 1 := by decide +kernel
theorem d21_223 : De c_21 223 (.aload_n 0) 1 := by decide +kernel
theorem d21_224 : De c_21 224 (.getfield 20) 3 := by decide +kernel
theorem d21_227 : De c_21 227 (.aload_n 0) 1 := by decide +kernel
theorem d21_228 : De c_21 228 (.getfield 43) 3 := by decide +kernel
theorem d21_231 : De c_21 231 (.iconst (-1)) 1 := by decide +kernel
theorem d21_232 : De c_21 232 .iastore 1 := by decide +kernel
theorem d21_233 : De c_21 233 (.aload_n 0) 1 := by decide +kernel
theorem d21_234 : De c_21 234 (.getfield 23) 3 := by decide +kernel
theorem d21_237 : De c_21 237 (.aload_n 0) 1 := by decide +kernel
theorem d21_238 : De c_21 238 (.getfield 43) 3 := by decide +kernel
theorem d21_241 : De c_21 241 (.iconst 1) 1 := by decide +kernel
theorem d21_242 : De c_21 242 .bastore 1 := by decide +kernel
theorem d21_243 : De c_21 243 (.aload_n 0) 1 := by decide +kernel
theorem d21_244 : De c_21 244 (.getfield 30) 3 := by decide +kernel
theorem d21_247 : De c_21 247 (.aload_n 0) 1 := by decide +kernel
theorem d21_248 : De c_21 248 (.getfield 33) 3 := by decide +kernel
theorem d21_251 : De c_21 251 (.iconst 1) 1 := by decide +kernel
theorem d21_252 : De c_21 252 .isub 1 := by decide +kernel
theorem d21_253 : De c_21 253 (.aload_n 0) 1 := by decide +kernel
theorem d21_254 : De c_21 254 (.iload 4) 2 := by decide +kernel
theorem d21_256 : De c_21 256 (.aload_n 0) 1 := by decide +kernel
theorem d21_257 : De c_21 257 (.getfield 43) 3 := by decide +kernel
theorem d21_260 : De c_21 260 (.invokevirtual 76) 3 := by decide +kernel
theorem d21_263 : De c_21 263 .iastore 1 := by decide +kernel
theorem d21_264 : De c_21 264 (.aload_n 0) 1 := by decide +kernel
theorem d21_265 : De c_21 265 .dup 1 := by decide +kernel
theorem d21_266 : De c_21 266 (.getfield 43) 3 := by decide +kernel
theorem d21_269 : De c_21 269 (.iconst 1) 1 := by decide +kernel
theorem d21_270 : De c_21 270 .iadd 1 := by decide +kernel
theorem d21_271 : De c_21 271 (.putfield 43) 3 := by decide +kernel
theorem d21_274 : De c_21 274 (.iload 5) 2 := by decide +kernel
theorem d21_276 : De c_21 276 .ireturn 1 := by decide +kernel
theorem pn_21 : plainName "com/example/upkeep_window/upkeepwindow/policy/OpenNames" = true := by first | (simp [plainName, overriddenIn]; done) | decide +kernel
theorem ef_21 (m : MethodId) (x0 : Addr) (x1 : Addr) : entryFrame m #[(.ref x0), (.ref x1)] 6 = mkF m 0 #[Vr x0, Vr x1, Vu, Vu, Vu, Vu] [] := by first | rfl | simp [entryFrame, mkF, argsToLocals, Value.category]
def Q_rad (Z : State) (a1 : Addr) (A : Nat → Addr) (f : Nat → Nat → Int32) (ob nm : Int32) (obN nmN sN : Nat) (va : Addr) (ka : ClassId) (cs : Int32) (fv : Value) (n c0 c1 c2 : Int32) (κ : Nat → Nat) (xs : List Nat) (h0 : Heap) (n0 : Nat) : Option Value → Heap → List Loc → Prop := fun v h L => ∃ f' b nm', v = some (.int b) ∧ Fr n0 L ∧ Keep h0 h (own_ws A) ∧ own_ON Z n0 h A f' ob nm' ∧ own_adr f f' nm' nmN sN κ xs (obN - 1) (own_ky n c0 c1 c2)
theorem rad (l : Launch) (Z : State) (a0 : Array Value) (hw : ∀ d ∈ tables_1, d.before a0 Z = true) (ws : List Jvm.Cond) (a1 : Addr) (A : Nat → Addr) (f : Nat → Nat → Int32) (ob nm : Int32) (obN nmN sN : Nat) (va : Addr) (ka : ClassId) (cs : Int32) (fv : Value) (n c0 c1 c2 : Int32) (κ : Nat → Nat) (xs : List Nat) (h0 : Heap) (n0 : Nat) (Z0 : n0 ≤ h0.size) (P : own_ON Z n0 h0 A f ob nm) (ho : own_I ob obN) (h1 : 1 ≤ obN) (h2 : obN ≤ 15) (hnmN : own_I nm nmN) (hq : nmN ≤ 14) (hs : own_I (own_st f nmN) sN) (sb : sN ≤ 36) (hn : own_len n) (SC : Sta Z Z.heap "java/lang/String" "COMPACT_STRINGS" "Z" (.int cs)) (hcs : ¬ cs = (0 : Int32)) (O0 : Old Z n0 h0) (SF : Sta Z Z.heap "jdk/internal/util/Preconditions" "SIOOBE_FORMATTER" "Ljava/util/function/BiFunction;" fv) (hfv : fv.isRef = true) (S : own_Str Z h0 a1 va ka n (own_bl n c0 c1 c2)) (u0 : own_u8 c0) (u1 : own_u8 c1) (u2 : own_u8 c2) (nv : va ∉ own_ws A) (T : own_ob f κ sN xs (obN - 1)) (xl : ∀ i ∈ xs, i < nmN) (ll : xs.length ≤ 5) (cr : own_cr (f 1)) :
  own_M l Z n_42 (Jvm.Cond.code n_42 prog_33_method_3_code 6 (some .boolean)) ws (Rm 7 0 0 140) #[(.ref (A 0)), (.ref a1)] h0 (Q_rad Z a1 A f ob nm obN nmN sN va ka cs fv n c0 c1 c2 κ xs h0 n0) := by
 refine MetFree.of_bodySF (plainFor_of_name pn_21) hisR ?_
 intro p e s m args below meth c s₁ Bd hml0 hP hK
 obtain ⟨rfl, hZ, hh⟩ := hP
 have hx := Bd.exec
 have hby := Bd.bytes
 have hml : c.maxLocals = 6 := hml0
 have hown : s.vm.findClass "com/example/upkeep_window/upkeepwindow/policy/OpenNames" = some m.cls := findClass_of_methodNamed Bd.named
 have hnm := (name_of_methodNamed Bd.named Bd.method).1
 have X0 : Stand p l e (Rm 7 0 0 140) s m #[(.ref (A 0)), (.ref a1)] below meth c s₁ [] 0 0 := Stand.of_body Bd
 have e0 : s₁.heap = h0 := by rw [← hh, Bd.state]; rfl
 have N0 := Fr.nil n0
 have hI := hn.I
 have Ie := hs.add hI.1 (by omega)
 have a7 := ho.sub own_I1 h1
 have nv1 : va ≠ A 1 := fun q => nv (q ▸ own_mem1)
 obtain ⟨ht, t3, Tt, So, ND⟩ := (id T)
 have cr1 : own_cr (own_put (f 1) sN n c0 c1 c2) := own_put_cr cr u0 u1 u2
 show Goes p e below (Fin s (Q_rad Z a1 A f ob nm obN nmN sN va ka cs fv n c0 c1 c2 κ xs h0 n0) (Rm 7 0 0 140).cells (Rm 7 0 0 140).slots) _
 refine Goes.via (S' := s₁.setTop (mkF m 0 #[Vr (A 0), Vr a1, Vu, Vu, Vu, Vu] [])) (fun tz kz => castTop (ef_21 m (A 0) a1 ) kz) ?_
 refine Goes.via (S' := s₁.setTop (mkF m 2 #[Vr (A 0), Vr a1, Vu, Vu, Vu, Vu] [(.ref (A 0)), (.ref (A 0))])) (fun tz kz => ?_) ?_
 ·refine XS.aloadN X0.here hx rfl (hb hby d21_0) rfl rfl ?_
  refine XS.aloadN X0.here hx rfl (hb hby d21_1) rfl rfl ?_
  exact kz
 obtain ⟨T1, X1, e1, st1⟩ := getF X0 hx hZ hown (host := "") (Or.inl (w_ hw 85 rfl)) Via.refl e0 P.2.2.2.2.2.2.2.2.2.1 (g := (mkF m 2 #[Vr (A 0), Vr a1, Vu, Vu, Vu, Vu] [(.ref (A 0)), (.ref (A 0))])) rfl rfl (hb hby d21_2)
 refine Goes.via st1 ?_
 obtain ⟨cq2, q2, q2'⟩ := (P.1).cell
 obtain ⟨_, _, ⟨T2, L2, k2, n2⟩, -, X2, ⟨Lc2, hQ2, l2, y2, z2⟩, st2⟩ := X1.privateBack hx (y := n_0) hown (mvT hZ (w_ hw 115 rfl)) (mvT hZ (w_ hw 116 rfl)) (sel_private hZ (w_ hw 57 rfl) (w_ hw 117 rfl) (w_ hw 116 rfl) (by decide)) (Cond.privateMethod_at (mvP hZ (w_ hw 117 rfl) (args := #[]))) (mvT hZ (w_ hw 118 rfl)) (by decide) (backOf (W := 0) (rst l Z a0 hw [] nm A f ob nm nmN h0 n0 Z0 P hnmN (by omega)) hZ (w_ hw 118 rfl) (w_ hw 58 rfl) (by decide) (by decide)) (g := (mkF m 5 #[Vr (A 0), Vr a1, Vu, Vu, Vu, Vu] [(.int nm), (.ref (A 0))])) rfl (by rw [hml]; rfl) (Steps.refl _) (a := (A 0)) (by rw [e1]; exact q2) q2' (argsL := [(.int nm)]) (rest := []) (lenOf pd_0 rfl) rfl (ww_ rfl rfl) (hb hby d21_5) (fun _ _ => ⟨rfl, e1, (by decide : 0 + 0 ≤ _), (by decide : 0 + 0 ≤ _)⟩)
 dsimp only [Pt.U, Pt.locs, Pt.cells, Pt.slots] at X2 l2 y2 z2 st2 hQ2
 subst l2 y2 z2
 obtain ⟨rfl, N2, e2⟩ := hQ2
 have Nf2 := Fr.app N0 N2
 refine Goes.via (fun _ kz => st2.trans kz) ?_
 refine Goes.via (S' := T2.setTop (mkF m 11 #[Vr (A 0), Vr a1, Vi (own_st f nmN), Vu, Vu, Vu] [(.ref a1), (.int (own_st f nmN))])) (fun tz kz => ?_) ?_
 ·refine XS.istoreN X2.here hx rfl (hb hby d21_8) rfl (l' := #[Vr (A 0), Vr a1, Vi (own_st f nmN), Vu, Vu, Vu]) rfl ?_
  refine XS.iloadN X2.here hx rfl (hb hby d21_9) rfl ?_
  refine XS.aloadN X2.here hx rfl (hb hby d21_10) rfl rfl ?_
  exact kz
 obtain ⟨cq3, kq3, q3a, q3b, q3c⟩ := isOf hZ e2 S.1
 obtain ⟨_, _, ⟨T3, L3, k3, n3⟩, -, X3, ⟨Lc3, hQ3, l3, y3, z3⟩, st3⟩ := X2.virtualBack hx (y := n_19) (z := n_19) hown (mvT hZ (w_ hw 119 rfl)) (mvT hZ (w_ hw 120 rfl)) (notFace_of_selects (args := #[]) (mvT hZ (w_ hw 122 rfl))) (mvT hZ (w_ hw 122 rfl)) (mvT hZ (w_ hw 121 rfl)) (by decide) (backOf (W := 1) (rlen l Z a0 hw [] a1 va ka cs (0 : Int32) n n _ h0 n0 Z0 SC hcs O0 S.1 S.2.1 S.2.2.1 S.2.2.2 rfl (own_sh0 hn)) hZ (w_ hw 123 rfl) (w_ hw 7 rfl) (by decide) (by decide)) q3a q3c (g := (mkF m 11 #[Vr (A 0), Vr a1, Vi (own_st f nmN), Vu, Vu, Vu] [(.ref a1), (.int (own_st f nmN))])) rfl (by rw [hml]; rfl) (Steps.refl _) (argsL := []) (rest := [(.int (own_st f nmN))]) (lenOf pd_10 rfl) rfl (ww_ rfl rfl) (hb hby d21_11) (fun _ _ => ⟨rfl, e2, (by decide : 0 + 0 ≤ _), (by decide : 0 + 0 ≤ _)⟩)
 dsimp only [Pt.U, Pt.locs, Pt.cells, Pt.slots] at X3 l3 y3 z3 st3 hQ3
 subst l3 y3 z3
 obtain ⟨rfl, N3, e3⟩ := hQ3
 have Nf3 := Fr.app Nf2 N3
 refine Goes.via (fun _ kz => st3.trans kz) ?_
 refine Goes.via (S' := T3.setTop (mkF m 18 #[Vr (A 0), Vr a1, Vi (own_st f nmN), Vi ((own_st f nmN) + n), Vu, Vu] [(.ref (A 0)), (.int ((own_st f nmN) + n))])) (fun tz kz => ?_) ?_
 ·refine XS.iadd X3.here hx rfl (hb hby d21_14) rfl ?_
  refine XS.istoreN X3.here hx rfl (hb hby d21_15) rfl (l' := #[Vr (A 0), Vr a1, Vi (own_st f nmN), Vi ((own_st f nmN) + n), Vu, Vu]) rfl ?_
  refine XS.iloadN X3.here hx rfl (hb hby d21_16) rfl ?_
  refine XS.aloadN X3.here hx rfl (hb hby d21_17) rfl rfl ?_
  exact kz
 obtain ⟨T4, X4, e4, st4⟩ := getF X3 hx hZ hown (host := "") (Or.inl (w_ hw 63 rfl)) Via.refl e3 P.2.1 (g := (mkF m 18 #[Vr (A 0), Vr a1, Vi (own_st f nmN), Vi ((own_st f nmN) + n), Vu, Vu] [(.ref (A 0)), (.int ((own_st f nmN) + n))])) rfl rfl (hb hby d21_18)
 refine Goes.via st4 ?_
 obtain ⟨cl5, Ar5, Sz5, Hs5⟩ := P.2.2.2.2.2.2.2.2.2.2.1
 refine Goes.via (S' := T4.setTop (mkF m 56 #[Vr (A 0), Vr a1, Vi (own_st f nmN), Vi ((own_st f nmN) + n), Vu, Vu] [(.ref a1), (.int 0), (.ref a1)])) (fun tz kz => ?_) ?_
 ·refine X4.arraylength hx (by rw [e4]; exact Ar5.1) (State.isArrayOf_alike hZ.alike Ar5.2.1) (g := (mkF m 21 #[Vr (A 0), Vr a1, Vi (own_st f nmN), Vi ((own_st f nmN) + n), Vu, Vu] [(.ref (A 1)), (.int ((own_st f nmN) + n))])) rfl rfl (hb hby d21_21) _ ?_
  rw [own_l64 Sz5]
  refine XS.icmpYes X4.here hx rfl (pc0 := 22) (pc' := 53) rfl (hb hby d21_22) rfl (flt (own_nlt own_I64 Ie (by omega))).2.2.2 (by decide) (by decide) ?_
  refine XS.aloadN X4.here hx rfl (hb hby d21_53) rfl rfl ?_
  refine XS.iconst X4.here hx rfl (hb hby d21_54) ?_
  refine XS.aloadN X4.here hx rfl (hb hby d21_55) rfl rfl ?_
  exact kz
 obtain ⟨cq6, kq6, q6a, q6b, q6c⟩ := isOf hZ e4 S.1
 obtain ⟨_, _, ⟨T6, L6, k6, n6⟩, -, X6, ⟨Lc6, hQ6, l6, y6, z6⟩, st6⟩ := X4.virtualBack hx (y := n_19) (z := n_19) hown (mvT hZ (w_ hw 119 rfl)) (mvT hZ (w_ hw 120 rfl)) (notFace_of_selects (args := #[]) (mvT hZ (w_ hw 122 rfl))) (mvT hZ (w_ hw 122 rfl)) (mvT hZ (w_ hw 121 rfl)) (by decide) (backOf (W := 2) (rlen l Z a0 hw [] a1 va ka cs (0 : Int32) n n _ h0 n0 Z0 SC hcs O0 S.1 S.2.1 S.2.2.1 S.2.2.2 rfl (own_sh0 hn)) hZ (w_ hw 123 rfl) (w_ hw 7 rfl) (by decide) (by decide)) q6a q6c (g := (mkF m 56 #[Vr (A 0), Vr a1, Vi (own_st f nmN), Vi ((own_st f nmN) + n), Vu, Vu] [(.ref a1), (.int 0), (.ref a1)])) rfl (by rw [hml]; rfl) (Steps.refl _) (argsL := []) (rest := [(.int 0), (.ref a1)]) (lenOf pd_10 rfl) rfl (ww_ rfl rfl) (hb hby d21_56) (fun _ _ => ⟨rfl, e4, (by decide : 0 + 0 ≤ _), (by decide : 0 + 0 ≤ _)⟩)
 dsimp only [Pt.U, Pt.locs, Pt.cells, Pt.slots] at X6 l6 y6 z6 st6 hQ6
 subst l6 y6 z6
 obtain ⟨rfl, N6, e6⟩ := hQ6
 have Nf6 := Fr.app Nf3 N6
 refine Goes.via (fun _ kz => st6.trans kz) ?_
 refine Goes.via (S' := T6.setTop (mkF m 60 #[Vr (A 0), Vr a1, Vi (own_st f nmN), Vi ((own_st f nmN) + n), Vu, Vu] [(.ref (A 0)), (.int n), (.int 0), (.ref a1)])) (fun tz kz => ?_) ?_
 ·refine XS.aloadN X6.here hx rfl (hb hby d21_59) rfl rfl ?_
  exact kz
 obtain ⟨T7, X7, e7, st7⟩ := getF X6 hx hZ hown (host := "") (Or.inl (w_ hw 63 rfl)) Via.refl e6 P.2.1 (g := (mkF m 60 #[Vr (A 0), Vr a1, Vi (own_st f nmN), Vi ((own_st f nmN) + n), Vu, Vu] [(.ref (A 0)), (.int n), (.int 0), (.ref a1)])) rfl rfl (hb hby d21_60)
 refine Goes.via st7 ?_
 refine Goes.via (S' := T7.setTop (mkF m 64 #[Vr (A 0), Vr a1, Vi (own_st f nmN), Vi ((own_st f nmN) + n), Vu, Vu] [(.int (own_st f nmN)), (.ref (A 1)), (.int n), (.int 0), (.ref a1)])) (fun tz kz => ?_) ?_
 ·refine XS.iloadN X7.here hx rfl (hb hby d21_63) rfl ?_
  exact kz
 obtain ⟨cq8, kq8, q8a, q8b, q8c⟩ := isOf hZ e7 S.1
 obtain ⟨_, _, ⟨T8, L8, k8, n8⟩, -, X8, ⟨Lc8, hQ8, l8, y8, z8⟩, st8⟩ := X7.virtualBack hx (y := n_26) (z := n_26) hown (mvT hZ (w_ hw 129 rfl)) (mvT hZ (w_ hw 130 rfl)) (notFace_of_selects (args := #[]) (mvT hZ (w_ hw 132 rfl))) (mvT hZ (w_ hw 132 rfl)) (mvT hZ (w_ hw 131 rfl)) (by decide) (backOf (W := 0) (rgs l Z a0 hw [] a1 n (A 1) (own_st f nmN) va ka (f 1) sN cs fv c0 c1 c2 h0 n0 Z0 SC hcs O0 SF hfv S P.2.2.2.2.2.2.2.2.2.2.1 hs (by omega) nv1 (P.2.2.2.2.2.2.2.2.2.2.2.2.2.2.2.2.2.1 1 (by decide)) hn u0 u1 u2) hZ (w_ hw 133 rfl) (w_ hw 7 rfl) (by decide) (by decide)) q8a q8c (g := (mkF m 64 #[Vr (A 0), Vr a1, Vi (own_st f nmN), Vi ((own_st f nmN) + n), Vu, Vu] [(.int (own_st f nmN)), (.ref (A 1)), (.int n), (.int 0), (.ref a1)])) rfl (by rw [hml]; rfl) (Steps.refl _) (argsL := [(.int 0), (.int n), (.ref (A 1)), (.int (own_st f nmN))]) (rest := []) (lenOf pd_26 rfl) rfl (ww_ rfl rfl) (hb hby d21_64) (fun _ _ => ⟨rfl, e7, (by decide : 0 + 0 ≤ _), (by decide : 0 + 0 ≤ _)⟩)
 dsimp only [Pt.U, Pt.locs, Pt.cells, Pt.slots] at X8 l8 y8 z8 st8 hQ8
 subst l8 y8 z8
 obtain ⟨rfl, N8, K8, B8⟩ := hQ8
 have Nf8 := Fr.app Nf6 N8
 refine Goes.via (fun _ kz => st8.trans kz) ?_
 have P8 : own_ON Z n0 T8.heap A (own_fs f 1 (own_put (f 1) sN n c0 c1 c2)) ob nm := P.put K8 B8
 have J8 : Keep h0 T8.heap (own_ws A) := (Keep.refl h0 (own_ws A)).trans K8 (allS (Or.inl own_mem1) all0)
 have Z1 := Nat.le_trans Z0 J8.1
 refine Goes.via (S' := T8.setTop (mkF m 68 #[Vr (A 0), Vr a1, Vi (own_st f nmN), Vi ((own_st f nmN) + n), Vu, Vu] [(.ref (A 0))])) (fun tz kz => ?_) ?_
 ·refine XS.aloadN X8.here hx rfl (hb hby d21_67) rfl rfl ?_
  exact kz
 obtain ⟨T9, X9, e9, st9⟩ := getF X8 hx hZ hown (host := "") (Or.inl (w_ hw 76 rfl)) Via.refl rfl P8.2.2.2.2.2.2.2.1 (g := (mkF m 68 #[Vr (A 0), Vr a1, Vi (own_st f nmN), Vi ((own_st f nmN) + n), Vu, Vu] [(.ref (A 0))])) rfl rfl (hb hby d21_68)
 refine Goes.via st9 ?_
 refine Goes.via (S' := T9.setTop (mkF m 72 #[Vr (A 0), Vr a1, Vi (own_st f nmN), Vi ((own_st f nmN) + n), Vu, Vu] [(.ref (A 0)), (.ref (A 7))])) (fun tz kz => ?_) ?_
 ·refine XS.aloadN X9.here hx rfl (hb hby d21_71) rfl rfl ?_
  exact kz
 obtain ⟨T10, X10, e10, st10⟩ := getF X9 hx hZ hown (host := "") (Or.inl (w_ hw 83 rfl)) Via.refl e9 P8.2.2.2.2.2.2.2.2.1 (g := (mkF m 72 #[Vr (A 0), Vr a1, Vi (own_st f nmN), Vi ((own_st f nmN) + n), Vu, Vu] [(.ref (A 0)), (.ref (A 7))])) rfl rfl (hb hby d21_72)
 refine Goes.via st10 ?_
 refine Goes.via (S' := T10.setTop (mkF m 77 #[Vr (A 0), Vr a1, Vi (own_st f nmN), Vi ((own_st f nmN) + n), Vu, Vu] [(.int (ob - (1 : Int32))), (.ref (A 7))])) (fun tz kz => ?_) ?_
 ·refine XS.iconst X10.here hx rfl (hb hby d21_75) ?_
  refine XS.isub X10.here hx rfl (hb hby d21_76) rfl ?_
  exact kz
 obtain ⟨cl11, Ar11, Sz11, Hs11⟩ := P8.2.2.2.2.2.2.2.2.2.2.2.2.2.2.2.2.1
 have ND1 : ∀ i ∈ xs, own_nd (own_fs f 1 (own_put (f 1) sN n c0 c1 c2)) κ sN i := fun i hi => (ND i hi).congr (xl i hi) (fun _ _ => rfl) (fun j hj => own_put_lt hj) rfl (Nat.le_refl _)
 have Tt1 : own_Tr (own_fs f 1 (own_put (f 1) sN n c0 c1 c2)) (f 7 (obN - 1)) xs ht := Tt.congr fun i _ => ⟨rfl, rfl, rfl⟩
 refine Goes.via (S' := T10.setTop (mkF m 85 #[Vr (A 0), Vr a1, Vi (own_st f nmN), Vi ((own_st f nmN) + n), Vi (f 7 (obN - 1)), Vu] [(.int ((own_st f nmN) + n)), (.int (own_st f nmN)), (.int (f 7 (obN - 1))), (.ref (A 0))])) (fun tz kz => ?_) ?_
 ·refine X10.iaload hx (j := (ob - (1 : Int32))) (v := (.int (f 7 (obN - 1)))) (by rw [e10]; exact Ar11.1) (State.isArrayOf_alike hZ.alike Ar11.2.1) Ar11.2.2 (own_in Sz11 a7 (by omega)) (own_at Hs11 a7 (by omega)) (g := (mkF m 77 #[Vr (A 0), Vr a1, Vi (own_st f nmN), Vi ((own_st f nmN) + n), Vu, Vu] [(.int (ob - (1 : Int32))), (.ref (A 7))])) rfl rfl (hb hby d21_77) _ ?_
  refine XS.istore X10.here hx rfl (hb hby d21_78) rfl (l' := #[Vr (A 0), Vr a1, Vi (own_st f nmN), Vi ((own_st f nmN) + n), Vi (f 7 (obN - 1)), Vu]) rfl ?_
  refine XS.aloadN X10.here hx rfl (hb hby d21_80) rfl rfl ?_
  refine XS.iload X10.here hx rfl (hb hby d21_81) rfl ?_
  refine XS.iloadN X10.here hx rfl (hb hby d21_83) rfl ?_
  refine XS.iloadN X10.here hx rfl (hb hby d21_84) rfl ?_
  exact kz
 obtain ⟨cq12, q12, q12'⟩ := (P8.1).cell
 obtain ⟨_, _, ⟨T12, L12, k12, n12⟩, -, X12, ⟨Lc12, hQ12, l12, y12, z12⟩, st12⟩ := X10.privateBack hx (y := n_16) hown (mvT hZ (w_ hw 160 rfl)) (mvT hZ (w_ hw 161 rfl)) (sel_private hZ (w_ hw 57 rfl) (w_ hw 162 rfl) (w_ hw 161 rfl) (by decide)) (Cond.privateMethod_at (mvP hZ (w_ hw 162 rfl) (args := #[]))) (mvT hZ (w_ hw 163 rfl)) (by decide) (backOf (W := 0) (rho l Z a0 hw [] (f 7 (obN - 1)) (own_st f nmN) ((own_st f nmN) + n) A (own_fs f 1 (own_put (f 1) sN n c0 c1 c2)) ob nm κ xs ht sN sN n.toInt.toNat T8.heap n0 Z1 P8 Tt1 t3 So ND1 hs Ie hI.2 (by omega) (by omega) cr1) hZ (w_ hw 163 rfl) (w_ hw 58 rfl) (by decide) (by decide)) (g := (mkF m 85 #[Vr (A 0), Vr a1, Vi (own_st f nmN), Vi ((own_st f nmN) + n), Vi (f 7 (obN - 1)), Vu] [(.int ((own_st f nmN) + n)), (.int (own_st f nmN)), (.int (f 7 (obN - 1))), (.ref (A 0))])) rfl (by rw [hml]; rfl) (Steps.refl _) (a := (A 0)) (by rw [e10]; exact q12) q12' (argsL := [(.int (f 7 (obN - 1))), (.int (own_st f nmN)), (.int ((own_st f nmN) + n))]) (rest := []) (lenOf pd_27 rfl) rfl (ww_ rfl rfl) (hb hby d21_85) (fun _ _ => ⟨rfl, e10, (by decide : 0 + 0 ≤ _), (by decide : 0 + 0 ≤ _)⟩)
 dsimp only [Pt.U, Pt.locs, Pt.cells, Pt.slots] at X12 l12 y12 z12 st12 hQ12
 subst l12 y12 z12
 obtain ⟨bb, rfl, N12, e12, dd⟩ := hQ12
 have Nf12 := Fr.app Nf8 N12
 refine Goes.via (fun _ kz => st12.trans kz) ?_
 rcases dd with ⟨hb1, hd⟩ | ⟨hb0, hd⟩
 ·subst hb1
  have hf : own_has κ (own_ky n c0 c1 c2) xs := by rw [← own_put_kn (C := f 1) (si := sN) hn]; exact hd
  refine Goes.via (S' := T12.setTop (mkF m 276 #[Vr (A 0), Vr a1, Vi (own_st f nmN), Vi ((own_st f nmN) + n), Vi (f 7 (obN - 1)), Vi 0] [(.int 0)])) (fun tz kz => ?_) ?_
  ·refine XS.ifYes X12.here hx rfl (pc0 := 88) (pc' := 95) rfl (hb hby d21_88) rfl ((if0 _ _).trans (feq (by first | decide | rfl)).2) (by decide) (by decide) ?_
   refine XS.iconst X12.here hx rfl (hb hby d21_95) ?_
   refine XS.istore X12.here hx rfl (hb hby d21_96) rfl (l' := #[Vr (A 0), Vr a1, Vi (own_st f nmN), Vi ((own_st f nmN) + n), Vi (f 7 (obN - 1)), Vi 0]) rfl ?_
   refine XS.iload X12.here hx rfl (hb hby d21_98) rfl ?_
   refine XS.ifYes X12.here hx rfl (pc0 := 100) (pc' := 274) rfl (hb hby d21_100) rfl ((if0 _ _).trans (teq (by first | decide | rfl)).1) (by decide) (by decide) ?_
   refine XS.iload X12.here hx rfl (hb hby d21_274) rfl ?_
   exact kz
  exact Goes.retN X12 hx Bd.notSynchronized (t := .boolean) Bd.returns (by simp) (hb hby d21_276) (nb_ rfl) (nb_ rfl) (by rw [e12]; exact ⟨_, _, nm, rfl, Nf12, J8, P8, own_adF T xl hnmN hs cr u0 u1 u2 hf⟩)
 ·subst hb0
  have nh : ¬ own_has κ (own_ky n c0 c1 c2) xs := by rw [← own_put_kn (C := f 1) (si := sN) hn]; exact hd
  refine Goes.via (S' := T12.setTop (mkF m 104 #[Vr (A 0), Vr a1, Vi (own_st f nmN), Vi ((own_st f nmN) + n), Vi (f 7 (obN - 1)), Vi 1] [(.ref (A 0))])) (fun tz kz => ?_) ?_
  ·refine XS.ifNo X12.here hx rfl (hb hby d21_88) rfl ((if0 _ _).trans (teq (by first | decide | rfl)).2) ?_
   refine XS.iconst X12.here hx rfl (hb hby d21_91) ?_
   refine XS.goto X12.here hx rfl (pc0 := 92) (pc' := 96) rfl (hb hby d21_92) (by decide) (by decide) ?_
   refine XS.istore X12.here hx rfl (hb hby d21_96) rfl (l' := #[Vr (A 0), Vr a1, Vi (own_st f nmN), Vi ((own_st f nmN) + n), Vi (f 7 (obN - 1)), Vi 1]) rfl ?_
   refine XS.iload X12.here hx rfl (hb hby d21_98) rfl ?_
   refine XS.ifNo X12.here hx rfl (hb hby d21_100) rfl ((if0 _ _).trans (feq (by first | decide | rfl)).1) ?_
   refine XS.aloadN X12.here hx rfl (hb hby d21_103) rfl rfl ?_
   exact kz
  obtain ⟨T13, X13, e13, st13⟩ := getF X12 hx hZ hown (host := "") (Or.inl (w_ hw 85 rfl)) Via.refl e12 P8.2.2.2.2.2.2.2.2.2.1 (g := (mkF m 104 #[Vr (A 0), Vr a1, Vi (own_st f nmN), Vi ((own_st f nmN) + n), Vi (f 7 (obN - 1)), Vi 1] [(.ref (A 0))])) rfl rfl (hb hby d21_104)
  refine Goes.via st13 ?_
  refine Goes.via (S' := T13.setTop (mkF m 108 #[Vr (A 0), Vr a1, Vi (own_st f nmN), Vi ((own_st f nmN) + n), Vi (f 7 (obN - 1)), Vi 1] [(.ref (A 0)), (.int nm)])) (fun tz kz => ?_) ?_
  ·refine XS.aloadN X13.here hx rfl (hb hby d21_107) rfl rfl ?_
   exact kz
  obtain ⟨T14, X14, e14, st14⟩ := getF X13 hx hZ hown (host := "") (Or.inl (w_ hw 66 rfl)) Via.refl e13 P8.2.2.1 (g := (mkF m 108 #[Vr (A 0), Vr a1, Vi (own_st f nmN), Vi ((own_st f nmN) + n), Vi (f 7 (obN - 1)), Vi 1] [(.ref (A 0)), (.int nm)])) rfl rfl (hb hby d21_108)
  refine Goes.via st14 ?_
  obtain ⟨cl15, Ar15, Sz15, Hs15⟩ := P8.2.2.2.2.2.2.2.2.2.2.2.1
  refine Goes.via (S' := T14.setTop (mkF m 204 #[Vr (A 0), Vr a1, Vi (own_st f nmN), Vi ((own_st f nmN) + n), Vi (f 7 (obN - 1)), Vi 1] [(.ref (A 0))])) (fun tz kz => ?_) ?_
  ·refine X14.arraylength hx (by rw [e14]; exact Ar15.1) (State.isArrayOf_alike hZ.alike Ar15.2.1) (g := (mkF m 111 #[Vr (A 0), Vr a1, Vi (own_st f nmN), Vi ((own_st f nmN) + n), Vi (f 7 (obN - 1)), Vi 1] [(.ref (A 2)), (.int nm)])) rfl rfl (hb hby d21_111) _ ?_
   rw [own_l16 Sz15]
   refine XS.icmpYes X14.here hx rfl (pc0 := 112) (pc' := 203) rfl (hb hby d21_112) rfl (feq (fun q => absurd ((hnmN.eq own_I16).mp q) (by omega))).2 (by decide) (by decide) ?_
   refine XS.aloadN X14.here hx rfl (hb hby d21_203) rfl rfl ?_
   exact kz
  obtain ⟨T16, X16, e16, st16⟩ := getF X14 hx hZ hown (host := "") (Or.inl (w_ hw 66 rfl)) Via.refl e14 P8.2.2.1 (g := (mkF m 204 #[Vr (A 0), Vr a1, Vi (own_st f nmN), Vi ((own_st f nmN) + n), Vi (f 7 (obN - 1)), Vi 1] [(.ref (A 0))])) rfl rfl (hb hby d21_204)
  refine Goes.via st16 ?_
  refine Goes.via (S' := T16.setTop (mkF m 208 #[Vr (A 0), Vr a1, Vi (own_st f nmN), Vi ((own_st f nmN) + n), Vi (f 7 (obN - 1)), Vi 1] [(.ref (A 0)), (.ref (A 2))])) (fun tz kz => ?_) ?_
  ·refine XS.aloadN X16.here hx rfl (hb hby d21_207) rfl rfl ?_
   exact kz
  obtain ⟨T17, X17, e17, st17⟩ := getF X16 hx hZ hown (host := "") (Or.inl (w_ hw 85 rfl)) Via.refl e16 P8.2.2.2.2.2.2.2.2.2.1 (g := (mkF m 208 #[Vr (A 0), Vr a1, Vi (own_st f nmN), Vi ((own_st f nmN) + n), Vi (f 7 (obN - 1)), Vi 1] [(.ref (A 0)), (.ref (A 2))])) rfl rfl (hb hby d21_208)
  refine Goes.via st17 ?_
  refine Goes.via (S' := T17.setTop (mkF m 212 #[Vr (A 0), Vr a1, Vi (own_st f nmN), Vi ((own_st f nmN) + n), Vi (f 7 (obN - 1)), Vi 1] [(.int ((own_st f nmN) + n)), (.int nm), (.ref (A 2))])) (fun tz kz => ?_) ?_
  ·refine XS.iloadN X17.here hx rfl (hb hby d21_211) rfl ?_
   exact kz
  obtain ⟨cl18, Ar18, Sz18, Hs18⟩ := P8.2.2.2.2.2.2.2.2.2.2.2.1
  obtain ⟨T19, h19, X19, e19, W19, st19⟩ := stI X17 hx hZ e17 Ar18 (j := nm) (own_in Sz18 hnmN (by omega)) (g := (mkF m 212 #[Vr (A 0), Vr a1, Vi (own_st f nmN), Vi ((own_st f nmN) + n), Vi (f 7 (obN - 1)), Vi 1] [(.int ((own_st f nmN) + n)), (.int nm), (.ref (A 2))])) rfl rfl (hb hby d21_212)
  refine Goes.via st19 ?_
  have N19 := Fr.snoc X19 Nf12 (P8.2.2.2.2.2.2.2.2.2.2.2.2.2.2.2.2.2.1 2 (by decide))
  rw [show (nm).toNatClampNeg = nmN from (hnmN).nat] at W19
  have P19 := P8.w2 W19
  have K19 := J8.wr W19 (Or.inl own_mem2)
  refine Goes.via (S' := T19.setTop (mkF m 214 #[Vr (A 0), Vr a1, Vi (own_st f nmN), Vi ((own_st f nmN) + n), Vi (f 7 (obN - 1)), Vi 1] [(.ref (A 0))])) (fun tz kz => ?_) ?_
  ·refine XS.aloadN X19.here hx rfl (hb hby d21_213) rfl rfl ?_
   exact kz
  obtain ⟨T20, X20, e20, st20⟩ := getF X19 hx hZ hown (host := "") (Or.inl (w_ hw 68 rfl)) Via.refl e19 P19.2.2.2.1 (g := (mkF m 214 #[Vr (A 0), Vr a1, Vi (own_st f nmN), Vi ((own_st f nmN) + n), Vi (f 7 (obN - 1)), Vi 1] [(.ref (A 0))])) rfl rfl (hb hby d21_214)
  refine Goes.via st20 ?_
  refine Goes.via (S' := T20.setTop (mkF m 218 #[Vr (A 0), Vr a1, Vi (own_st f nmN), Vi ((own_st f nmN) + n), Vi (f 7 (obN - 1)), Vi 1] [(.ref (A 0)), (.ref (A 3))])) (fun tz kz => ?_) ?_
  ·refine XS.aloadN X20.here hx rfl (hb hby d21_217) rfl rfl ?_
   exact kz
  obtain ⟨T21, X21, e21, st21⟩ := getF X20 hx hZ hown (host := "") (Or.inl (w_ hw 85 rfl)) Via.refl e20 P19.2.2.2.2.2.2.2.2.2.1 (g := (mkF m 218 #[Vr (A 0), Vr a1, Vi (own_st f nmN), Vi ((own_st f nmN) + n), Vi (f 7 (obN - 1)), Vi 1] [(.ref (A 0)), (.ref (A 3))])) rfl rfl (hb hby d21_218)
  refine Goes.via st21 ?_
  refine Goes.via (S' := T21.setTop (mkF m 222 #[Vr (A 0), Vr a1, Vi (own_st f nmN), Vi ((own_st f nmN) + n), Vi (f 7 (obN - 1)), Vi 1] [(.int (-1)), (.int nm), (.ref (A 3))])) (fun tz kz => ?_) ?_
  ·refine XS.iconst X21.here hx rfl (hb hby d21_221) ?_
   exact kz
  obtain ⟨cl22, Ar22, Sz22, Hs22⟩ := P19.2.2.2.2.2.2.2.2.2.2.2.2.1
  obtain ⟨T23, h23, X23, e23, W23, st23⟩ := stI X21 hx hZ e21 Ar22 (j := nm) (own_in Sz22 hnmN (by omega)) (g := (mkF m 222 #[Vr (A 0), Vr a1, Vi (own_st f nmN), Vi ((own_st f nmN) + n), Vi (f 7 (obN - 1)), Vi 1] [(.int (-1)), (.int nm), (.ref (A 3))])) rfl rfl (hb hby d21_222)
  refine Goes.via st23 ?_
  have N23 := Fr.snoc X23 N19 (P19.2.2.2.2.2.2.2.2.2.2.2.2.2.2.2.2.2.1 3 (by decide))
  rw [show (nm).toNatClampNeg = nmN from (hnmN).nat] at W23
  have P23 := P19.w3 W23
  have K23 := K19.wr W23 (Or.inl own_mem3)
  refine Goes.via (S' := T23.setTop (mkF m 224 #[Vr (A 0), Vr a1, Vi (own_st f nmN), Vi ((own_st f nmN) + n), Vi (f 7 (obN - 1)), Vi 1] [(.ref (A 0))])) (fun tz kz => ?_) ?_
  ·refine XS.aloadN X23.here hx rfl (hb hby d21_223) rfl rfl ?_
   exact kz
  obtain ⟨T24, X24, e24, st24⟩ := getF X23 hx hZ hown (host := "") (Or.inl (w_ hw 70 rfl)) Via.refl e23 P23.2.2.2.2.1 (g := (mkF m 224 #[Vr (A 0), Vr a1, Vi (own_st f nmN), Vi ((own_st f nmN) + n), Vi (f 7 (obN - 1)), Vi 1] [(.ref (A 0))])) rfl rfl (hb hby d21_224)
  refine Goes.via st24 ?_
  refine Goes.via (S' := T24.setTop (mkF m 228 #[Vr (A 0), Vr a1, Vi (own_st f nmN), Vi ((own_st f nmN) + n), Vi (f 7 (obN - 1)), Vi 1] [(.ref (A 0)), (.ref (A 4))])) (fun tz kz => ?_) ?_
  ·refine XS.aloadN X24.here hx rfl (hb hby d21_227) rfl rfl ?_
   exact kz
  obtain ⟨T25, X25, e25, st25⟩ := getF X24 hx hZ hown (host := "") (Or.inl (w_ hw 85 rfl)) Via.refl e24 P23.2.2.2.2.2.2.2.2.2.1 (g := (mkF m 228 #[Vr (A 0), Vr a1, Vi (own_st f nmN), Vi ((own_st f nmN) + n), Vi (f 7 (obN - 1)), Vi 1] [(.ref (A 0)), (.ref (A 4))])) rfl rfl (hb hby d21_228)
  refine Goes.via st25 ?_
  refine Goes.via (S' := T25.setTop (mkF m 232 #[Vr (A 0), Vr a1, Vi (own_st f nmN), Vi ((own_st f nmN) + n), Vi (f 7 (obN - 1)), Vi 1] [(.int (-1)), (.int nm), (.ref (A 4))])) (fun tz kz => ?_) ?_
  ·refine XS.iconst X25.here hx rfl (hb hby d21_231) ?_
   exact kz
  obtain ⟨cl26, Ar26, Sz26, Hs26⟩ := P23.2.2.2.2.2.2.2.2.2.2.2.2.2.1
  obtain ⟨T27, h27, X27, e27, W27, st27⟩ := stI X25 hx hZ e25 Ar26 (j := nm) (own_in Sz26 hnmN (by omega)) (g := (mkF m 232 #[Vr (A 0), Vr a1, Vi (own_st f nmN), Vi ((own_st f nmN) + n), Vi (f 7 (obN - 1)), Vi 1] [(.int (-1)), (.int nm), (.ref (A 4))])) rfl rfl (hb hby d21_232)
  refine Goes.via st27 ?_
  have N27 := Fr.snoc X27 N23 (P23.2.2.2.2.2.2.2.2.2.2.2.2.2.2.2.2.2.1 4 (by decide))
  rw [show (nm).toNatClampNeg = nmN from (hnmN).nat] at W27
  have P27 := P23.w4 W27
  have K27 := K23.wr W27 (Or.inl own_mem4)
  refine Goes.via (S' := T27.setTop (mkF m 234 #[Vr (A 0), Vr a1, Vi (own_st f nmN), Vi ((own_st f nmN) + n), Vi (f 7 (obN - 1)), Vi 1] [(.ref (A 0))])) (fun tz kz => ?_) ?_
  ·refine XS.aloadN X27.here hx rfl (hb hby d21_233) rfl rfl ?_
   exact kz
  obtain ⟨T28, X28, e28, st28⟩ := getF X27 hx hZ hown (host := "") (Or.inl (w_ hw 72 rfl)) Via.refl e27 P27.2.2.2.2.2.1 (g := (mkF m 234 #[Vr (A 0), Vr a1, Vi (own_st f nmN), Vi ((own_st f nmN) + n), Vi (f 7 (obN - 1)), Vi 1] [(.ref (A 0))])) rfl rfl (hb hby d21_234)
  refine Goes.via st28 ?_
  refine Goes.via (S' := T28.setTop (mkF m 238 #[Vr (A 0), Vr a1, Vi (own_st f nmN), Vi ((own_st f nmN) + n), Vi (f 7 (obN - 1)), Vi 1] [(.ref (A 0)), (.ref (A 5))])) (fun tz kz => ?_) ?_
  ·refine XS.aloadN X28.here hx rfl (hb hby d21_237) rfl rfl ?_
   exact kz
  obtain ⟨T29, X29, e29, st29⟩ := getF X28 hx hZ hown (host := "") (Or.inl (w_ hw 85 rfl)) Via.refl e28 P27.2.2.2.2.2.2.2.2.2.1 (g := (mkF m 238 #[Vr (A 0), Vr a1, Vi (own_st f nmN), Vi ((own_st f nmN) + n), Vi (f 7 (obN - 1)), Vi 1] [(.ref (A 0)), (.ref (A 5))])) rfl rfl (hb hby d21_238)
  refine Goes.via st29 ?_
  refine Goes.via (S' := T29.setTop (mkF m 242 #[Vr (A 0), Vr a1, Vi (own_st f nmN), Vi ((own_st f nmN) + n), Vi (f 7 (obN - 1)), Vi 1] [(.int 1), (.int nm), (.ref (A 5))])) (fun tz kz => ?_) ?_
  ·refine XS.iconst X29.here hx rfl (hb hby d21_241) ?_
   exact kz
  obtain ⟨cl30, Ar30, Sz30, Hs30⟩ := P27.2.2.2.2.2.2.2.2.2.2.2.2.2.2.1
  obtain ⟨T31, h31, X31, e31, W31, st31⟩ := stB X29 hx hZ e29 Ar30 (j := nm) (own_in Sz30 hnmN (by omega)) (g := (mkF m 242 #[Vr (A 0), Vr a1, Vi (own_st f nmN), Vi ((own_st f nmN) + n), Vi (f 7 (obN - 1)), Vi 1] [(.int 1), (.int nm), (.ref (A 5))])) rfl rfl (hb hby d21_242)
  refine Goes.via st31 ?_
  have N31 := Fr.snoc X31 N27 (P27.2.2.2.2.2.2.2.2.2.2.2.2.2.2.2.2.2.1 5 (by decide))
  rw [show (nm).toNatClampNeg = nmN from (hnmN).nat] at W31
  have P31 := P27.w5 W31
  have K31 := K27.wr W31 (Or.inl own_mem5)
  refine Goes.via (S' := T31.setTop (mkF m 244 #[Vr (A 0), Vr a1, Vi (own_st f nmN), Vi ((own_st f nmN) + n), Vi (f 7 (obN - 1)), Vi 1] [(.ref (A 0))])) (fun tz kz => ?_) ?_
  ·refine XS.aloadN X31.here hx rfl (hb hby d21_243) rfl rfl ?_
   exact kz
  obtain ⟨T32, X32, e32, st32⟩ := getF X31 hx hZ hown (host := "") (Or.inl (w_ hw 76 rfl)) Via.refl e31 P31.2.2.2.2.2.2.2.1 (g := (mkF m 244 #[Vr (A 0), Vr a1, Vi (own_st f nmN), Vi ((own_st f nmN) + n), Vi (f 7 (obN - 1)), Vi 1] [(.ref (A 0))])) rfl rfl (hb hby d21_244)
  refine Goes.via st32 ?_
  refine Goes.via (S' := T32.setTop (mkF m 248 #[Vr (A 0), Vr a1, Vi (own_st f nmN), Vi ((own_st f nmN) + n), Vi (f 7 (obN - 1)), Vi 1] [(.ref (A 0)), (.ref (A 7))])) (fun tz kz => ?_) ?_
  ·refine XS.aloadN X32.here hx rfl (hb hby d21_247) rfl rfl ?_
   exact kz
  obtain ⟨T33, X33, e33, st33⟩ := getF X32 hx hZ hown (host := "") (Or.inl (w_ hw 83 rfl)) Via.refl e32 P31.2.2.2.2.2.2.2.2.1 (g := (mkF m 248 #[Vr (A 0), Vr a1, Vi (own_st f nmN), Vi ((own_st f nmN) + n), Vi (f 7 (obN - 1)), Vi 1] [(.ref (A 0)), (.ref (A 7))])) rfl rfl (hb hby d21_248)
  refine Goes.via st33 ?_
  refine Goes.via (S' := T33.setTop (mkF m 257 #[Vr (A 0), Vr a1, Vi (own_st f nmN), Vi ((own_st f nmN) + n), Vi (f 7 (obN - 1)), Vi 1] [(.ref (A 0)), (.int (f 7 (obN - 1))), (.ref (A 0)), (.int (ob - (1 : Int32))), (.ref (A 7))])) (fun tz kz => ?_) ?_
  ·refine XS.iconst X33.here hx rfl (hb hby d21_251) ?_
   refine XS.isub X33.here hx rfl (hb hby d21_252) rfl ?_
   refine XS.aloadN X33.here hx rfl (hb hby d21_253) rfl rfl ?_
   refine XS.iload X33.here hx rfl (hb hby d21_254) rfl ?_
   refine XS.aloadN X33.here hx rfl (hb hby d21_256) rfl rfl ?_
   exact kz
  obtain ⟨T34, X34, e34, st34⟩ := getF X33 hx hZ hown (host := "") (Or.inl (w_ hw 85 rfl)) Via.refl e33 P31.2.2.2.2.2.2.2.2.2.1 (g := (mkF m 257 #[Vr (A 0), Vr a1, Vi (own_st f nmN), Vi ((own_st f nmN) + n), Vi (f 7 (obN - 1)), Vi 1] [(.ref (A 0)), (.int (f 7 (obN - 1))), (.ref (A 0)), (.int (ob - (1 : Int32))), (.ref (A 7))])) rfl rfl (hb hby d21_257)
  refine Goes.via st34 ?_
  have P5 : own_ON Z n0 h31 A (own_F5 f nmN sN n c0 c1 c2) ob nm := P31
  have Z5 := Nat.le_trans Z0 K31.1
  have ap := own_adP (o := obN - 1) hn Tt So ND xl hs sb nh
  obtain ⟨cq35, q35, q35'⟩ := (P5.1).cell
  obtain ⟨_, _, ⟨T35, L35, k35, n35⟩, -, X35, ⟨Lc35, hQ35, l35, y35, z35⟩, st35⟩ := X34.privateBack hx (y := n_15) hown (mvT hZ (w_ hw 164 rfl)) (mvT hZ (w_ hw 165 rfl)) (sel_private hZ (w_ hw 57 rfl) (w_ hw 166 rfl) (w_ hw 165 rfl) (by decide)) (Cond.privateMethod_at (mvP hZ (w_ hw 166 rfl) (args := #[]))) (mvT hZ (w_ hw 167 rfl)) (by decide) (backOf (W := 2) (rns_3 l Z a0 hw [] (f 7 (obN - 1)) nm A (own_F5 f nmN sN n c0 c1 c2) ob nm (own_k1 κ nmN (own_ky n c0 c1 c2)) xs ht (sN + n.toInt.toNat) nmN h31 n0 Z5 P5 ap.1 t3 ap.2.1 ap.2.2.1 hnmN (by omega) ap.2.2.2.1 own_F53 own_F54 own_F55 ap.2.2.2.2.1 ap.2.2.2.2.2 (by omega) cr1) hZ (w_ hw 167 rfl) (w_ hw 58 rfl) (by decide) (by decide)) (g := (mkF m 260 #[Vr (A 0), Vr a1, Vi (own_st f nmN), Vi ((own_st f nmN) + n), Vi (f 7 (obN - 1)), Vi 1] [(.int nm), (.int (f 7 (obN - 1))), (.ref (A 0)), (.int (ob - (1 : Int32))), (.ref (A 7))])) rfl (by rw [hml]; rfl) (Steps.refl _) (a := (A 0)) (by rw [e34]; exact q35) q35' (argsL := [(.int (f 7 (obN - 1))), (.int nm)]) (rest := [(.int (ob - (1 : Int32))), (.ref (A 7))]) (lenOf pd_1 rfl) rfl (ww_ rfl rfl) (hb hby d21_260) (fun _ _ => ⟨rfl, e34, (by decide : 0 + 0 ≤ _), (by decide : 0 + 0 ≤ _)⟩)
  dsimp only [Pt.U, Pt.locs, Pt.cells, Pt.slots] at X35 l35 y35 z35 st35 hQ35
  subst l35 y35 z35
  obtain ⟨f6, rq, rfl, N35, K35, P35, D6⟩ := hQ35
  have Nf35 := Fr.app N31 N35
  refine Goes.via (fun _ kz => st35.trans kz) ?_
  have J35 := K31.trans K35 (fun _ q => Or.inl q)
  obtain ⟨cl36, Ar36, Sz36, Hs36⟩ := P35.2.2.2.2.2.2.2.2.2.2.2.2.2.2.2.2.1
  obtain ⟨T37, h37, X37, e37, W37, st37⟩ := stI X35 hx hZ rfl Ar36 (j := (ob - (1 : Int32))) (own_in Sz36 a7 (by omega)) (g := (mkF m 263 #[Vr (A 0), Vr a1, Vi (own_st f nmN), Vi ((own_st f nmN) + n), Vi (f 7 (obN - 1)), Vi 1] [(.int rq), (.int (ob - (1 : Int32))), (.ref (A 7))])) rfl rfl (hb hby d21_263)
  refine Goes.via st37 ?_
  have N37 := Fr.snoc X37 Nf35 (P35.2.2.2.2.2.2.2.2.2.2.2.2.2.2.2.2.2.1 7 (by decide))
  rw [show ((ob - (1 : Int32))).toNatClampNeg = (obN - 1) from (a7).nat] at W37
  have P37 := P35.w7 W37
  have K37 := J35.wr W37 (Or.inl own_mem7)
  refine Goes.via (S' := T37.setTop (mkF m 266 #[Vr (A 0), Vr a1, Vi (own_st f nmN), Vi ((own_st f nmN) + n), Vi (f 7 (obN - 1)), Vi 1] [(.ref (A 0)), (.ref (A 0))])) (fun tz kz => ?_) ?_
  ·refine XS.aloadN X37.here hx rfl (hb hby d21_264) rfl rfl ?_
   refine XS.dup X37.here hx rfl (hb hby d21_265) rfl rfl ?_
   exact kz
  obtain ⟨T38, X38, e38, st38⟩ := getF X37 hx hZ hown (host := "") (Or.inl (w_ hw 85 rfl)) Via.refl e37 P37.2.2.2.2.2.2.2.2.2.1 (g := (mkF m 266 #[Vr (A 0), Vr a1, Vi (own_st f nmN), Vi ((own_st f nmN) + n), Vi (f 7 (obN - 1)), Vi 1] [(.ref (A 0)), (.ref (A 0))])) rfl rfl (hb hby d21_266)
  refine Goes.via st38 ?_
  refine Goes.via (S' := T38.setTop (mkF m 271 #[Vr (A 0), Vr a1, Vi (own_st f nmN), Vi ((own_st f nmN) + n), Vi (f 7 (obN - 1)), Vi 1] [(.int (nm + (1 : Int32))), (.ref (A 0))])) (fun tz kz => ?_) ?_
  ·refine XS.iconst X38.here hx rfl (hb hby d21_269) ?_
   refine XS.iadd X38.here hx rfl (hb hby d21_270) rfl ?_
   exact kz
  obtain ⟨T39, h39, X39, e39, W39, st39⟩ := putF X38 hx hZ hown (host := "") (Or.inl (w_ hw 85 rfl)) Via.refl e38 P37.2.2.2.2.2.2.2.2.2.1 P37.1 (Or.inl (w_ hw 86 rfl)) (w_ hw 57 rfl) (ty := .int) (by decide) rfl rfl (g := (mkF m 271 #[Vr (A 0), Vr a1, Vi (own_st f nmN), Vi ((own_st f nmN) + n), Vi (f 7 (obN - 1)), Vi 1] [(.int (nm + (1 : Int32))), (.ref (A 0))])) rfl rfl (hb hby d21_271)
  refine Goes.via st39 ?_
  have N39 := Fr.snoc X39 N37 (P37.2.2.2.2.2.2.2.2.2.2.2.2.2.2.2.2.2.1 0 (by decide))
  have P39 := P37.wnm hw W39
  have K39 := K37.wr W39 (Or.inl own_mem0)
  refine Goes.via (S' := T39.setTop (mkF m 276 #[Vr (A 0), Vr a1, Vi (own_st f nmN), Vi ((own_st f nmN) + n), Vi (f 7 (obN - 1)), Vi 1] [(.int 1)])) (fun tz kz => ?_) ?_
  ·refine XS.iload X39.here hx rfl (hb hby d21_274) rfl ?_
   exact kz
  exact Goes.retN X39 hx Bd.notSynchronized (t := .boolean) Bd.returns (by simp) (hb hby d21_276) (nb_ rfl) (nb_ rfl) (by rw [e39]; exact ⟨_, _, nm + 1, rfl, N39, K39, P39, own_adN hn So ND xl hnmN hq hs sb cr u0 u1 u2 nh ll D6⟩)
def own_J (f : Nat → Nat → Int32) (ob nm : Int32) (K : Nat → Nat) (j k i : Nat) : Prop := (i ≤ j ∧ own_JA f ob nm K j i) ∨ (j < i ∧ own_JB f ob nm K j k i)
theorem own_J.cases {f : Nat → Nat → Int32} {ob nm : Int32} {K : Nat → Nat} {j k i : Nat} (h : own_J f ob nm K j k i) : (i < j ∧ own_JA f ob nm K j i) ∨ (i = j ∧ own_JA f ob nm K j i) ∨ (j < i ∧ own_JB f ob nm K j k i) := by
 rcases h with ⟨a, b⟩ | h
 ·rcases Nat.lt_or_ge i j with z | z
  ·exact Or.inl ⟨z, b⟩
  ·exact Or.inr (Or.inl ⟨by omega, b⟩)
 ·exact Or.inr (Or.inr h)
theorem own_JA.start {K : Nat → Nat} {j : Nat} : own_JA (own_fu (own_fu (fun _ _ => 0) 6 0 0) 7 0 (-1)) 1 0 K j 0 := by
 refine ⟨0, 0, fun _ => 0, [], rfl, own_I0, Nat.le_refl _, own_I0, Nat.le_refl _, fun q => ?_, ⟨0, by omega, ?_, List.Pairwise.nil, fun i hi => absurd hi List.not_mem_nil⟩, ⟨fun q => ⟨fun ⟨_, z, _⟩ => absurd z List.not_mem_nil, fun ⟨t, a, b, c, d⟩ => absurd c (by omega)⟩, rfl⟩, fun x hq => absurd hq List.not_mem_nil⟩
 ·have : own_fu (own_fu (fun _ _ => (0 : Int32)) 6 0 0) 7 0 (-1) 1 q = 0 := by rw [own_fu_ne _ _ _ _ (by omega), own_fu_ne _ _ _ _ (by omega)]
  rw [this]; decide
 ·rw [own_fu_same]; exact own_Tr.nil
theorem d15_0 : De c_15 0 (.iload_n 2) 1 := by decide +kernel
theorem d15_1 : De c_15 1 (.iload_n 3) 1 := by decide +kernel
theorem d15_2 : De c_15 2 (.if_icmp .ne 7) 3 := by decide +kernel
theorem d15_5 : De c_15 5 (.aload_n 0) 1 := by decide +kernel
theorem d15_6 : De c_15 6 (.invokevirtual 24) 3 := by decide +kernel
theorem d15_9 : De c_15 9 (.iload_n 2) 1 := by decide +kernel
theorem d15_10 : De c_15 10 (.iload 4) 2 := by decide +kernel
theorem d15_12 : De c_15 12 (.if_icmp .ge 11) 3 := by decide +kernel
theorem d15_15 : De c_15 15 (.aload_n 0) 1 := by decide +kernel
theorem d15_16 : De c_15 16 (.aload_n 1) 1 := by decide +kernel
theorem d15_17 : De c_15 17 (.iload_n 2) 1 := by decide +kernel
theorem d15_18 : De c_15 18 .aaload 1 := by decide +kernel
theorem d15_19 : De c_15 19 (.invokevirtual 46) 3 := by decide +kernel
theorem d15_22 : De c_15 22 .pop 1 := by decide +kernel
theorem d15_23 : De c_15 23 .return_ 1 := by decide +kernel
theorem pn_15 : plainName "com/example/upkeep_window/upkeepwindow/policy/OpenNamesHeightPinLaw" = true := by first | (simp [plainName, overriddenIn]; done) | decide +kernel
theorem ef_15 (m : MethodId) (x0 : Addr) (x1 : Addr) (x2 : Int32) (x3 : Int32) (x4 : Int32) : entryFrame m #[(.ref x0), (.ref x1), (.int x2), (.int x3), (.int x4)] 5 = mkF m 0 #[Vr x0, Vr x1, Vi x2, Vi x3, Vi x4] [] := by first | rfl | simp [entryFrame, mkF, argsToLocals, Value.category]
def Q_rsp (Z : State) (nb : Addr) (ii : Int32) (jj : Int32) (kk : Int32) (A : Nat → Addr) (f : Nat → Nat → Int32) (ob nm : Int32) (iN jN kN : Nat) (sa va : Nat → Addr) (ka : Nat → ClassId) (pp : Nat → Int32) (cs : Int32) (fv : Value) (h0 : Heap) (n0 : Nat) : Option Value → Heap → List Loc → Prop := fun v h L => ∃ f' ob' nm', v = none ∧ Fr n0 L ∧ Keep h0 h (own_ws A) ∧ own_ON Z n0 h A f' ob' nm' ∧ own_J f' ob' nm' (own_Ks pp) jN kN (iN + 1)
theorem rsp (l : Launch) (Z : State) (a0 : Array Value) (hw : ∀ d ∈ tables_1, d.before a0 Z = true) (ws : List Jvm.Cond) (nb : Addr) (ii : Int32) (jj : Int32) (kk : Int32) (A : Nat → Addr) (f : Nat → Nat → Int32) (ob nm : Int32) (iN jN kN : Nat) (sa va : Nat → Addr) (ka : Nat → ClassId) (pp : Nat → Int32) (cs : Int32) (fv : Value) (h0 : Heap) (n0 : Nat) (Z0 : n0 ≤ h0.size) (P : own_ON Z n0 h0 A f ob nm) (hi : own_I ii iN) (hj : own_I jj jN) (hk : own_I kk kN) (i6 : iN < 6) (jk : jN ≤ kN) (SC : Sta Z Z.heap "java/lang/String" "COMPACT_STRINGS" "Z" (.int cs)) (hcs : ¬ cs = (0 : Int32)) (O0 : Old Z n0 h0) (SF : Sta Z Z.heap "jdk/internal/util/Preconditions" "SIOOBE_FORMATTER" "Ljava/util/function/BiFunction;" fv) (hfv : fv.isRef = true) (A6 : own_A6 Z h0 nb sa) (ST : own_ST Z h0 sa va ka pp) (nbw : nb ∉ own_ws A) (vw : ∀ i, i < 6 → sa i ∉ own_ws A ∧ va i ∉ own_ws A) (J : own_J f ob nm (own_Ks pp) jN kN iN) :
  own_M l Z n_43 (Jvm.Cond.code n_43 method_3_code 5 none) ws (Rm 8 0 0 160) #[(.ref (A 0)), (.ref nb), (.int ii), (.int jj), (.int kk)] h0 (Q_rsp Z nb ii jj kk A f ob nm iN jN kN sa va ka pp cs fv h0 n0) := by
 refine MetFree.of_bodySF (plainFor_of_name pn_15) hisR ?_
 intro p e s m args below meth c s₁ Bd hml0 hP hK
 obtain ⟨rfl, hZ, hh⟩ := hP
 have hx := Bd.exec
 have hby := Bd.bytes
 have hml : c.maxLocals = 5 := hml0
 have hown : s.vm.findClass "com/example/upkeep_window/upkeepwindow/policy/OpenNamesHeightPinLaw" = some m.cls := findClass_of_methodNamed Bd.named
 have hnm := (name_of_methodNamed Bd.named Bd.method).1
 have X0 : Stand p l e (Rm 8 0 0 160) s m #[(.ref (A 0)), (.ref nb), (.int ii), (.int jj), (.int kk)] below meth c s₁ [] 0 0 := Stand.of_body Bd
 have e0 : s₁.heap = h0 := by rw [← hh, Bd.state]; rfl
 have N0 := Fr.nil n0
 show Goes p e below (Fin s (Q_rsp Z nb ii jj kk A f ob nm iN jN kN sa va ka pp cs fv h0 n0) (Rm 8 0 0 160).cells (Rm 8 0 0 160).slots) _
 refine Goes.via (S' := s₁.setTop (mkF m 0 #[Vr (A 0), Vr nb, Vi ii, Vi jj, Vi kk] [])) (fun tz kz => castTop (ef_15 m (A 0) nb ii jj kk ) kz) ?_
 rcases own_J.cases J with ⟨ij, JJ⟩ | ⟨ij, JJ⟩ | ⟨ij, JJ⟩
 ·obtain ⟨nN, sN, κ, xs, b1, b2, b3, b4, b5, b6, b7, b8, b9⟩ := JJ
  subst b1
  refine Goes.via (S' := s₁.setTop (mkF m 18 #[Vr (A 0), Vr nb, Vi ii, Vi jj, Vi kk] [(.int ii), (.ref nb), (.ref (A 0))])) (fun tz kz => ?_) ?_
  ·refine XS.iloadN X0.here hx rfl (hb hby d15_0) rfl ?_
   refine XS.iloadN X0.here hx rfl (hb hby d15_1) rfl ?_
   refine XS.icmpYes X0.here hx rfl (pc0 := 2) (pc' := 9) rfl (hb hby d15_2) rfl (feq (fun q => absurd ((hi.eq hj).mp q) (Nat.ne_of_lt ij))).2 (by decide) (by decide) ?_
   refine XS.iloadN X0.here hx rfl (hb hby d15_9) rfl ?_
   refine XS.iload X0.here hx rfl (hb hby d15_10) rfl ?_
   refine XS.icmpNo X0.here hx rfl (hb hby d15_12) rfl (tlt ((hi.lt hk).mpr (Nat.lt_of_lt_of_le ij jk))).2.1 ?_
   refine XS.aloadN X0.here hx rfl (hb hby d15_15) rfl rfl ?_
   refine XS.aloadN X0.here hx rfl (hb hby d15_16) rfl rfl ?_
   refine XS.iloadN X0.here hx rfl (hb hby d15_17) rfl ?_
   exact kz
  obtain ⟨cl1, Ar1, Sz1, Hs1⟩ := (id A6)
  have ll : xs.length ≤ 5 := by rw [b8.2]; exact Nat.le_trans own_sum.le (by omega)
  refine Goes.via (S' := s₁.setTop (mkF m 19 #[Vr (A 0), Vr nb, Vi ii, Vi jj, Vi kk] [(.ref (sa iN)), (.ref (A 0))])) (fun tz kz => ?_) ?_
  ·refine X0.aaload hx (j := ii) (v := (.ref (sa iN))) (by rw [e0]; exact Ar1.1) (State.isArrayOf_alike hZ.alike Ar1.2.1) rfl Ar1.2.2 (own_in Sz1 hi i6) (own_atR Hs1 hi i6) (g := (mkF m 18 #[Vr (A 0), Vr nb, Vi ii, Vi jj, Vi kk] [(.int ii), (.ref nb), (.ref (A 0))])) rfl rfl (hb hby d15_18) _ ?_
   exact kz
  obtain ⟨cq2, kq2, q2a, q2b, q2c⟩ := isOf hZ e0 P.1
  obtain ⟨_, _, ⟨T2, L2, k2, n2⟩, -, X2, ⟨Lc2, hQ2, l2, y2, z2⟩, st2⟩ := X0.virtualBack hx (y := n_42) (z := n_42) hown (mvT hZ (w_ hw 110 rfl)) (mvT hZ (w_ hw 111 rfl)) (notFace_of_selects (args := #[]) (mvT hZ (w_ hw 113 rfl))) (mvT hZ (w_ hw 113 rfl)) (mvT hZ (w_ hw 112 rfl)) (by decide) (backOf (W := 0) (rad l Z a0 hw [] (sa iN) A f (1 : Int32) nm 1 nN sN (va iN) (ka iN) cs fv (pp iN &&& (3 : Int32)) (own_c0 (pp iN)) (own_c1 (pp iN)) (own_c2 (pp iN)) κ xs h0 n0 Z0 P own_I1 (by decide) (by decide) b2 (by omega) b4 (by omega) (own_and4 _) SC hcs O0 SF hfv (ST iN i6) (own_c0u _) (own_c1u _) (own_c2u _) (vw iN i6).2 b7 b9 ll b6) hZ (w_ hw 114 rfl) (w_ hw 58 rfl) (by decide) (by decide)) q2a q2c (g := (mkF m 19 #[Vr (A 0), Vr nb, Vi ii, Vi jj, Vi kk] [(.ref (sa iN)), (.ref (A 0))])) rfl (by rw [hml]; rfl) (Steps.refl _) (argsL := [(.ref (sa iN))]) (rest := []) (lenOf pd_28 rfl) rfl (ww_ rfl rfl) (hb hby d15_19) (fun _ _ => ⟨rfl, e0, (by decide : 0 + 0 ≤ _), (by decide : 0 + 0 ≤ _)⟩)
  dsimp only [Pt.U, Pt.locs, Pt.cells, Pt.slots] at X2 l2 y2 z2 st2 hQ2
  subst l2 y2 z2
  obtain ⟨f9, b9_, nm9, rfl, N2, K2, P2, D9⟩ := hQ2
  have Nf2 := Fr.app N0 N2
  refine Goes.via (fun _ kz => st2.trans kz) ?_
  have J2 := (Keep.refl h0 (own_ws A)).trans K2 (fun _ q => Or.inl q)
  refine Goes.via (S' := T2.setTop (mkF m 23 #[Vr (A 0), Vr nb, Vi ii, Vi jj, Vi kk] [])) (fun tz kz => ?_) ?_
  ·refine XS.pop X2.here hx rfl (hb hby d15_22) rfl rfl ?_
   exact kz
  exact Goes.retV X2 hx Bd.notSynchronized Bd.returns (hb hby d15_23) (nb_ rfl) (nb_ rfl) ⟨_, _, _, rfl, Nf2, J2, P2, Or.inl ⟨by omega, own_JA.add b3 b5 b8 D9 ij⟩⟩
 ·obtain ⟨_, _, _, _, b1, _⟩ := (id JJ)
  subst b1
  refine Goes.via (S' := s₁.setTop (mkF m 6 #[Vr (A 0), Vr nb, Vi ii, Vi jj, Vi kk] [(.ref (A 0))])) (fun tz kz => ?_) ?_
  ·refine XS.iloadN X0.here hx rfl (hb hby d15_0) rfl ?_
   refine XS.iloadN X0.here hx rfl (hb hby d15_1) rfl ?_
   refine XS.icmpNo X0.here hx rfl (hb hby d15_2) rfl (teq ((hi.eq hj).mpr ij)).2 ?_
   refine XS.aloadN X0.here hx rfl (hb hby d15_5) rfl rfl ?_
   exact kz
  obtain ⟨cq3, kq3, q3a, q3b, q3c⟩ := isOf hZ e0 P.1
  obtain ⟨_, _, ⟨T3, L3, k3, n3⟩, -, X3, ⟨Lc3, hQ3, l3, y3, z3⟩, st3⟩ := X0.virtualBack hx (y := n_5) (z := n_5) hown (mvT hZ (w_ hw 78 rfl)) (mvT hZ (w_ hw 79 rfl)) (notFace_of_selects (args := #[]) (mvT hZ (w_ hw 81 rfl))) (mvT hZ (w_ hw 81 rfl)) (mvT hZ (w_ hw 80 rfl)) (by decide) (backOf (W := 0) (rop l Z a0 hw [] A f (1 : Int32) nm 1 h0 n0 Z0 P own_I1 (by decide)) hZ (w_ hw 82 rfl) (w_ hw 58 rfl) (by decide) (by decide)) q3a q3c (g := (mkF m 6 #[Vr (A 0), Vr nb, Vi ii, Vi jj, Vi kk] [(.ref (A 0))])) rfl (by rw [hml]; rfl) (Steps.refl _) (argsL := []) (rest := []) (lenOf pd_29 rfl) rfl (ww_ rfl rfl) (hb hby d15_6) (fun _ _ => ⟨rfl, e0, (by decide : 0 + 0 ≤ _), (by decide : 0 + 0 ≤ _)⟩)
  dsimp only [Pt.U, Pt.locs, Pt.cells, Pt.slots] at X3 l3 y3 z3 st3 hQ3
  subst l3 y3 z3
  obtain ⟨rfl, N3, K3, P3⟩ := hQ3
  have Nf3 := Fr.app N0 N3
  refine Goes.via (fun _ kz => st3.trans kz) ?_
  obtain ⟨fo, hfo⟩ : ∃ z, z = (own_fu (own_fu f 6 1 nm) 7 1 (-1)) := ⟨_, rfl⟩
  have Q3 : own_ON Z n0 T3.heap A fo (2 : Int32) nm := by rw [hfo]; exact P3
  have JB : own_JB fo (2 : Int32) nm (own_Ks pp) jN kN iN := by rw [hfo]; exact own_JA.opn JJ ij.symm
  have ji : jN ≤ iN := Nat.le_of_eq ij.symm
  refine Goes.via (S' := T3.setTop (mkF m 12 #[Vr (A 0), Vr nb, Vi ii, Vi jj, Vi kk] [(.int kk), (.int ii)])) (fun tz kz => ?_) ?_
  ·refine XS.iloadN X3.here hx rfl (hb hby d15_9) rfl ?_
   refine XS.iload X3.here hx rfl (hb hby d15_10) rfl ?_
   exact kz
  by_cases hc12_4 : ii < kk
  ·refine Goes.via (S' := T3.setTop (mkF m 18 #[Vr (A 0), Vr nb, Vi ii, Vi jj, Vi kk] [(.int ii), (.ref nb), (.ref (A 0))])) (fun tz kz => ?_) ?_
   ·refine XS.icmpNo X3.here hx rfl (hb hby d15_12) rfl (tlt hc12_4).2.1 ?_
    refine XS.aloadN X3.here hx rfl (hb hby d15_15) rfl rfl ?_
    refine XS.aloadN X3.here hx rfl (hb hby d15_16) rfl rfl ?_
    refine XS.iloadN X3.here hx rfl (hb hby d15_17) rfl ?_
    exact kz
   obtain ⟨cl5, Ar5, Sz5, Hs5⟩ := (id (A6.keep K3 nbw))
   obtain ⟨nN, sN, κ, xs, n1, ys, b1, b2, b3, b4, b5, b6, b7, b8, b9, b10, b11, b12, b13, b14⟩ := (id JB)
   have ll : ys.length ≤ 5 := by rw [b13.2]; exact Nat.le_trans own_sum.le (by omega)
   refine Goes.via (S' := T3.setTop (mkF m 19 #[Vr (A 0), Vr nb, Vi ii, Vi jj, Vi kk] [(.ref (sa iN)), (.ref (A 0))])) (fun tz kz => ?_) ?_
   ·refine X3.aaload hx (j := ii) (v := (.ref (sa iN))) (by exact Ar5.1) (State.isArrayOf_alike hZ.alike Ar5.2.1) rfl Ar5.2.2 (own_in Sz5 hi i6) (own_atR Hs5 hi i6) (g := (mkF m 18 #[Vr (A 0), Vr nb, Vi ii, Vi jj, Vi kk] [(.int ii), (.ref nb), (.ref (A 0))])) rfl rfl (hb hby d15_18) _ ?_
    exact kz
   obtain ⟨cq6, kq6, q6a, q6b, q6c⟩ := isOf hZ rfl Q3.1
   obtain ⟨_, _, ⟨T6, L6, k6, n6⟩, -, X6, ⟨Lc6, hQ6, l6, y6, z6⟩, st6⟩ := X3.virtualBack hx (y := n_42) (z := n_42) hown (mvT hZ (w_ hw 110 rfl)) (mvT hZ (w_ hw 111 rfl)) (notFace_of_selects (args := #[]) (mvT hZ (w_ hw 113 rfl))) (mvT hZ (w_ hw 113 rfl)) (mvT hZ (w_ hw 112 rfl)) (by decide) (backOf (W := 0) (rad l Z a0 hw [] (sa iN) A fo (2 : Int32) nm 2 nN sN (va iN) (ka iN) cs fv (pp iN &&& (3 : Int32)) (own_c0 (pp iN)) (own_c1 (pp iN)) (own_c2 (pp iN)) κ ys T3.heap n0 (Nat.le_trans Z0 K3.1) Q3 own_I2 (by decide) (by decide) b2 (by omega) b4 (by omega) (own_and4 _) SC hcs (O0.keep K3 P.ge) SF hfv ((ST iN i6).keep K3 (vw iN i6).1 (vw iN i6).2) (own_c0u _) (own_c1u _) (own_c2u _) (vw iN i6).2 b12 (fun y hy => (b14 y hy).2) ll b6) hZ (w_ hw 114 rfl) (w_ hw 58 rfl) (by decide) (by decide)) q6a q6c (g := (mkF m 19 #[Vr (A 0), Vr nb, Vi ii, Vi jj, Vi kk] [(.ref (sa iN)), (.ref (A 0))])) rfl (by rw [hml]; rfl) (Steps.refl _) (argsL := [(.ref (sa iN))]) (rest := []) (lenOf pd_28 rfl) rfl (ww_ rfl rfl) (hb hby d15_19) (fun _ _ => ⟨rfl, rfl, (by decide : 0 + 0 ≤ _), (by decide : 0 + 0 ≤ _)⟩)
   dsimp only [Pt.U, Pt.locs, Pt.cells, Pt.slots] at X6 l6 y6 z6 st6 hQ6
   subst l6 y6 z6
   obtain ⟨f9, b9_, nm9, rfl, N6, K6, P6, D9⟩ := hQ6
   have Nf6 := Fr.app Nf3 N6
   refine Goes.via (fun _ kz => st6.trans kz) ?_
   have J6 := K3.trans K6 (fun _ q => Or.inl q)
   refine Goes.via (S' := T6.setTop (mkF m 23 #[Vr (A 0), Vr nb, Vi ii, Vi jj, Vi kk] [])) (fun tz kz => ?_) ?_
   ·refine XS.pop X6.here hx rfl (hb hby d15_22) rfl rfl ?_
    exact kz
   exact Goes.retV X6 hx Bd.notSynchronized Bd.returns (hb hby d15_23) (nb_ rfl) (nb_ rfl) ⟨_, _, _, rfl, Nf6, J6, P6, Or.inr ⟨by omega, own_JB.add b3 b5 b7 b8 b9 b10 b11 b13 b14 D9 ji ((hi.lt hk).mp hc12_4)⟩⟩
  ·refine Goes.via (S' := T3.setTop (mkF m 23 #[Vr (A 0), Vr nb, Vi ii, Vi jj, Vi kk] [])) (fun tz kz => ?_) ?_
   ·refine XS.icmpYes X3.here hx rfl (pc0 := 12) (pc' := 23) rfl (hb hby d15_12) rfl (flt hc12_4).2.1 (by decide) (by decide) ?_
    exact kz
   exact Goes.retV X3 hx Bd.notSynchronized Bd.returns (hb hby d15_23) (nb_ rfl) (nb_ rfl) ⟨_, _, _, rfl, Nf3, K3, Q3, Or.inr ⟨by omega, own_JB.skip JB ji (mt (hi.lt hk).mpr hc12_4)⟩⟩
 ·obtain ⟨_, _, _, _, _, _, b1, _⟩ := (id JJ)
  subst b1
  have ji : jN ≤ iN := Nat.le_of_lt ij
  refine Goes.via (S' := s₁.setTop (mkF m 12 #[Vr (A 0), Vr nb, Vi ii, Vi jj, Vi kk] [(.int kk), (.int ii)])) (fun tz kz => ?_) ?_
  ·refine XS.iloadN X0.here hx rfl (hb hby d15_0) rfl ?_
   refine XS.iloadN X0.here hx rfl (hb hby d15_1) rfl ?_
   refine XS.icmpYes X0.here hx rfl (pc0 := 2) (pc' := 9) rfl (hb hby d15_2) rfl (feq (fun q => absurd ((hi.eq hj).mp q) (Nat.ne_of_gt ij))).2 (by decide) (by decide) ?_
   refine XS.iloadN X0.here hx rfl (hb hby d15_9) rfl ?_
   refine XS.iload X0.here hx rfl (hb hby d15_10) rfl ?_
   exact kz
  by_cases hc12_7 : ii < kk
  ·refine Goes.via (S' := s₁.setTop (mkF m 18 #[Vr (A 0), Vr nb, Vi ii, Vi jj, Vi kk] [(.int ii), (.ref nb), (.ref (A 0))])) (fun tz kz => ?_) ?_
   ·refine XS.icmpNo X0.here hx rfl (hb hby d15_12) rfl (tlt hc12_7).2.1 ?_
    refine XS.aloadN X0.here hx rfl (hb hby d15_15) rfl rfl ?_
    refine XS.aloadN X0.here hx rfl (hb hby d15_16) rfl rfl ?_
    refine XS.iloadN X0.here hx rfl (hb hby d15_17) rfl ?_
    exact kz
   obtain ⟨cl8, Ar8, Sz8, Hs8⟩ := (id A6)
   obtain ⟨nN, sN, κ, xs, n1, ys, b1, b2, b3, b4, b5, b6, b7, b8, b9, b10, b11, b12, b13, b14⟩ := (id JJ)
   have ll : ys.length ≤ 5 := by rw [b13.2]; exact Nat.le_trans own_sum.le (by omega)
   refine Goes.via (S' := s₁.setTop (mkF m 19 #[Vr (A 0), Vr nb, Vi ii, Vi jj, Vi kk] [(.ref (sa iN)), (.ref (A 0))])) (fun tz kz => ?_) ?_
   ·refine X0.aaload hx (j := ii) (v := (.ref (sa iN))) (by rw [e0]; exact Ar8.1) (State.isArrayOf_alike hZ.alike Ar8.2.1) rfl Ar8.2.2 (own_in Sz8 hi i6) (own_atR Hs8 hi i6) (g := (mkF m 18 #[Vr (A 0), Vr nb, Vi ii, Vi jj, Vi kk] [(.int ii), (.ref nb), (.ref (A 0))])) rfl rfl (hb hby d15_18) _ ?_
    exact kz
   obtain ⟨cq9, kq9, q9a, q9b, q9c⟩ := isOf hZ e0 P.1
   obtain ⟨_, _, ⟨T9, L9, k9, n9⟩, -, X9, ⟨Lc9, hQ9, l9, y9, z9⟩, st9⟩ := X0.virtualBack hx (y := n_42) (z := n_42) hown (mvT hZ (w_ hw 110 rfl)) (mvT hZ (w_ hw 111 rfl)) (notFace_of_selects (args := #[]) (mvT hZ (w_ hw 113 rfl))) (mvT hZ (w_ hw 113 rfl)) (mvT hZ (w_ hw 112 rfl)) (by decide) (backOf (W := 0) (rad l Z a0 hw [] (sa iN) A f (2 : Int32) nm 2 nN sN (va iN) (ka iN) cs fv (pp iN &&& (3 : Int32)) (own_c0 (pp iN)) (own_c1 (pp iN)) (own_c2 (pp iN)) κ ys h0 n0 Z0 P own_I2 (by decide) (by decide) b2 (by omega) b4 (by omega) (own_and4 _) SC hcs O0 SF hfv (ST iN i6) (own_c0u _) (own_c1u _) (own_c2u _) (vw iN i6).2 b12 (fun y hy => (b14 y hy).2) ll b6) hZ (w_ hw 114 rfl) (w_ hw 58 rfl) (by decide) (by decide)) q9a q9c (g := (mkF m 19 #[Vr (A 0), Vr nb, Vi ii, Vi jj, Vi kk] [(.ref (sa iN)), (.ref (A 0))])) rfl (by rw [hml]; rfl) (Steps.refl _) (argsL := [(.ref (sa iN))]) (rest := []) (lenOf pd_28 rfl) rfl (ww_ rfl rfl) (hb hby d15_19) (fun _ _ => ⟨rfl, e0, (by decide : 0 + 0 ≤ _), (by decide : 0 + 0 ≤ _)⟩)
   dsimp only [Pt.U, Pt.locs, Pt.cells, Pt.slots] at X9 l9 y9 z9 st9 hQ9
   subst l9 y9 z9
   obtain ⟨f9, b9_, nm9, rfl, N9, K9, P9, D9⟩ := hQ9
   have Nf9 := Fr.app N0 N9
   refine Goes.via (fun _ kz => st9.trans kz) ?_
   have J9 := (Keep.refl h0 (own_ws A)).trans K9 (fun _ q => Or.inl q)
   refine Goes.via (S' := T9.setTop (mkF m 23 #[Vr (A 0), Vr nb, Vi ii, Vi jj, Vi kk] [])) (fun tz kz => ?_) ?_
   ·refine XS.pop X9.here hx rfl (hb hby d15_22) rfl rfl ?_
    exact kz
   exact Goes.retV X9 hx Bd.notSynchronized Bd.returns (hb hby d15_23) (nb_ rfl) (nb_ rfl) ⟨_, _, _, rfl, Nf9, J9, P9, Or.inr ⟨by omega, own_JB.add b3 b5 b7 b8 b9 b10 b11 b13 b14 D9 ji ((hi.lt hk).mp hc12_7)⟩⟩
  ·refine Goes.via (S' := s₁.setTop (mkF m 23 #[Vr (A 0), Vr nb, Vi ii, Vi jj, Vi kk] [])) (fun tz kz => ?_) ?_
   ·refine XS.icmpYes X0.here hx rfl (pc0 := 12) (pc' := 23) rfl (hb hby d15_12) rfl (flt hc12_7).2.1 (by decide) (by decide) ?_
    exact kz
   exact Goes.retV X0 hx Bd.notSynchronized Bd.returns (hb hby d15_23) (nb_ rfl) (nb_ rfl) (by rw [e0]; exact ⟨_, _, _, rfl, N0, (Keep.refl h0 (own_ws A)), P, Or.inr ⟨by omega, own_JB.skip JJ ji (mt (hi.lt hk).mpr hc12_7)⟩⟩)
def own_ad (a b c d ei f g k : Addr) : Nat → Addr := fun i => if i = 0 then a else if i = 1 then b else if i = 2 then c else if i = 3 then d else if i = 4 then ei else if i = 5 then f else if i = 6 then g else k
theorem own_ad.ne {a b c d ei f g k : Addr} (h1 : a < b) (h2 : b < c) (h3 : c < d) (h4 : d < ei) (h5 : ei < f) (h6 : f < g) (h7 : g < k) : ∀ i j, i < 8 → j < 8 → i ≠ j → own_ad a b c d ei f g k i ≠ own_ad a b c d ei f g k j := by
 intro i j hi hj hne
 have hi' : i = 0 ∨ i = 1 ∨ i = 2 ∨ i = 3 ∨ i = 4 ∨ i = 5 ∨ i = 6 ∨ i = 7 := by omega
 have hj' : j = 0 ∨ j = 1 ∨ j = 2 ∨ j = 3 ∨ j = 4 ∨ j = 5 ∨ j = 6 ∨ j = 7 := by omega
 simp only [Addr] at *
 rcases hi' with rfl | rfl | rfl | rfl | rfl | rfl | rfl | rfl <;> rcases hj' with rfl | rfl | rfl | rfl | rfl | rfl | rfl | rfl <;> simp [own_ad] <;> omega
theorem own_ad.ge {n : Nat} {a b c d ei f g k : Addr} (h0 : n ≤ a) (h1 : a < b) (h2 : b < c) (h3 : c < d) (h4 : d < ei) (h5 : ei < f) (h6 : f < g) (h7 : g < k) : ∀ i, i < 8 → n ≤ own_ad a b c d ei f g k i := by
 intro i hi
 have hi' : i = 0 ∨ i = 1 ∨ i = 2 ∨ i = 3 ∨ i = 4 ∨ i = 5 ∨ i = 6 ∨ i = 7 := by omega
 simp only [Addr] at *
 rcases hi' with rfl | rfl | rfl | rfl | rfl | rfl | rfl | rfl <;> simp [own_ad] <;> omega
theorem own_ad.gh {n : Nat} {a b c d ei f g k : Addr} (h1 : @LE.le Nat _ n b) (h2 : b < c) (h3 : c < d) (h4 : d < ei) (h5 : ei < f) (h6 : f < g) (h7 : g < k) : ∀ i, 1 ≤ i → i < 8 → @LE.le Nat _ n (own_ad a b c d ei f g k i) := by
 intro i h0 hi
 have hi' : i = 1 ∨ i = 2 ∨ i = 3 ∨ i = 4 ∨ i = 5 ∨ i = 6 ∨ i = 7 := by omega
 simp only [Addr] at *
 rcases hi' with rfl | rfl | rfl | rfl | rfl | rfl | rfl <;> simp [own_ad] <;> omega
theorem d13_0 : De c_13 0 (.aload_n 0) 1 := by decide +kernel
theorem d13_1 : De c_13 1 (.invokespecial 1) 3 := by decide +kernel
theorem d13_4 : De c_13 4 (.aload_n 0) 1 := by decide +kernel
theorem d13_5 : De c_13 5 (.bipush 64) 2 := by decide +kernel
theorem d13_7 : De c_13 7 (.newarray .char) 2 := by decide +kernel
theorem d13_9 : De c_13 9 (.putfield 7) 3 := by decide +kernel
theorem d13_12 : De c_13 12 (.aload_n 0) 1 := by decide +kernel
theorem d13_13 : De c_13 13 (.bipush 16) 2 := by decide +kernel
theorem d13_15 : De c_13 15 (.newarray .int) 2 := by decide +kernel
theorem d13_17 : De c_13 17 (.putfield 13) 3 := by decide +kernel
theorem d13_20 : De c_13 20 (.aload_n 0) 1 := by decide +kernel
theorem d13_21 : De c_13 21 (.bipush 16) 2 := by decide +kernel
theorem d13_23 : De c_13 23 (.newarray .int) 2 := by decide +kernel
theorem d13_25 : De c_13 25 (.putfield 17) 3 := by decide +kernel
theorem d13_28 : De c_13 28 (.aload_n 0) 1 := by decide +kernel
theorem d13_29 : De c_13 29 (.bipush 16) 2 := by decide +kernel
theorem d13_31 : De c_13 31 (.newarray .int) 2 := by decide +kernel
theorem d13_33 : De c_13 33 (.putfield 20) 3 := by decide +kernel
theorem d13_36 : De c_13 36 (.aload_n 0) 1 := by decide +kernel
theorem d13_37 : De c_13 37 (.bipush 16) 2 := by decide +kernel
theorem d13_39 : De c_13 39 (.newarray .byte) 2 := by decide +kernel
theorem d13_41 : De c_13 41 (.putfield 23) 3 := by decide +kernel
theorem d13_44 : De c_13 44 (.aload_n 0) 1 := by decide +kernel
theorem d13_45 : De c_13 45 (.bipush 16) 2 := by decide +kernel
theorem d13_47 : De c_13 47 (.newarray .int) 2 := by decide +kernel
theorem d13_49 : De c_13 49 (.putfield 27) 3 := by decide +kernel
theorem d13_52 : De c_13 52 (.aload_n 0) 1 := by decide +kernel
theorem d13_53 : De c_13 53 (.bipush 16) 2 := by decide +kernel
theorem d13_55 : De c_13 55 (.newarray .int) 2 := by decide +kernel
theorem d13_57 : De c_13 57 (.putfield 30) 3 := by decide +kernel
theorem d13_60 : De c_13 60 .return_ 1 := by decide +kernel
theorem pn_13 : plainName "com/example/upkeep_window/upkeepwindow/policy/OpenNames" = true := by first | (simp [plainName, overriddenIn]; done) | decide +kernel
theorem ef_13 (m : MethodId) (x0 : Addr) : entryFrame m #[(.ref x0)] 1 = mkF m 0 #[Vr x0] [] := by first | rfl | simp [entryFrame, mkF, argsToLocals, Value.category]
def Q_rin (Z : State) (a1 : Addr)  (h0 : Heap) (n0 : Nat) : Option Value → Heap → List Loc → Prop := fun v h L => ∃ A, v = none ∧ A 0 = a1 ∧ Fr n0 L ∧ Keep h0 h [a1] ∧ own_ON Z n0 h A (fun _ _ => 0) 0 0 ∧ ∀ i, 1 ≤ i → i < 8 → @LE.le Nat _ h0.size (A i)
theorem rin (l : Launch) (Z : State) (a0 : Array Value) (hw : ∀ d ∈ tables_1, d.before a0 Z = true) (ws : List Jvm.Cond) (a1 : Addr)  (h0 : Heap) (n0 : Nat) (Z0 : n0 ≤ h0.size) (F0 : Fld Z h0 a1 "com/example/upkeep_window/upkeepwindow/policy/OpenNames" "chars" "[C" .null) (F1 : Fld Z h0 a1 "com/example/upkeep_window/upkeepwindow/policy/OpenNames" "ends" "[I" .null) (F2 : Fld Z h0 a1 "com/example/upkeep_window/upkeepwindow/policy/OpenNames" "lefts" "[I" .null) (F3 : Fld Z h0 a1 "com/example/upkeep_window/upkeepwindow/policy/OpenNames" "rights" "[I" .null) (F4 : Fld Z h0 a1 "com/example/upkeep_window/upkeepwindow/policy/OpenNames" "heights" "[B" .null) (F5 : Fld Z h0 a1 "com/example/upkeep_window/upkeepwindow/policy/OpenNames" "firsts" "[I" .null) (F6 : Fld Z h0 a1 "com/example/upkeep_window/upkeepwindow/policy/OpenNames" "roots" "[I" .null) (F7 : Fld Z h0 a1 "com/example/upkeep_window/upkeepwindow/policy/OpenNames" "objects" "I" (.int 0)) (F8 : Fld Z h0 a1 "com/example/upkeep_window/upkeepwindow/policy/OpenNames" "names" "I" (.int 0)) (E1 : Exa Z h0 a1 "com/example/upkeep_window/upkeepwindow/policy/OpenNames") (g1 : n0 ≤ a1) :
  own_M l Z n_44 (Jvm.Cond.code n_44 prog_33_method_1_code 1 none) ws (Rm 1 7 160 16) #[(.ref a1)] h0 (Q_rin Z a1 h0 n0) := by
 refine MetFree.of_bodySF (plainFor_of_name pn_13) hisR ?_
 intro p e s m args below meth c s₁ Bd hml0 hP hK
 obtain ⟨rfl, hZ, hh⟩ := hP
 have hx := Bd.exec
 have hby := Bd.bytes
 have hml : c.maxLocals = 1 := hml0
 have hown : s.vm.findClass "com/example/upkeep_window/upkeepwindow/policy/OpenNames" = some m.cls := findClass_of_methodNamed Bd.named
 have hnm := (name_of_methodNamed Bd.named Bd.method).1
 have X0 : Stand p l e (Rm 1 7 160 16) s m #[(.ref a1)] below meth c s₁ [] 0 0 := Stand.of_body Bd
 have e0 : s₁.heap = h0 := by rw [← hh, Bd.state]; rfl
 have N0 := Fr.nil n0
 show Goes p e below (Fin s (Q_rin Z a1 h0 n0) (Rm 1 7 160 16).cells (Rm 1 7 160 16).slots) _
 refine Goes.via (S' := s₁.setTop (mkF m 0 #[Vr a1] [])) (fun tz kz => castTop (ef_13 m a1 ) kz) ?_
 refine Goes.via (S' := s₁.setTop (mkF m 1 #[Vr a1] [(.ref a1)])) (fun tz kz => ?_) ?_
 ·refine XS.aloadN X0.here hx rfl (hb hby d13_0) rfl rfl ?_
  exact kz
 obtain ⟨T1, X1, e1, st1⟩ := initO X0 hx hZ hown (w_ hw 62 rfl) (w_ hw 23 rfl) (w_ hw 24 rfl) e0 (g := (mkF m 1 #[Vr a1] [(.ref a1)])) rfl (by rw [hml]; rfl) rfl (hb hby d13_1) (by decide) (W := 0) (ww_ rfl rfl) (by decide)
 refine Goes.via st1 ?_
 refine Goes.via (S' := T1.setTop (mkF m 7 #[Vr a1] [(.int 64), (.ref a1)])) (fun tz kz => ?_) ?_
 ·refine XS.aloadN X1.here hx rfl (hb hby d13_4) rfl rfl ?_
  refine XS.bipush X1.here hx rfl (hb hby d13_5) ?_
  exact kz
 obtain ⟨T2, h2, k2, X2, e2, E2, A2, st2⟩ := newP X1 hx hZ (w_ hw 15 rfl) e1 (g := (mkF m 7 #[Vr a1] [(.int 64), (.ref a1)])) rfl (hb hby d13_7) rfl (by decide) (cap := 64) (by decide) (by decide) (by decide) (by decide)
 obtain ⟨b2, g2⟩ : ∃ z, z = h0.size := ⟨_, rfl⟩
 rw [← g2] at A2 st2
 refine Goes.via st2 ?_
 have B2 : own_B Z h2 b2 .char 64 (fun _ => 0) := own_B.new (Arv.new A2 (by decide)) (by decide)
 have lt1 : @LT.lt Nat _ a1 b2 := Nat.lt_of_lt_of_eq E1.lt g2.symm
 have F0 := F0.ext E2
 have F1 := F1.ext E2
 have F2 := F2.ext E2
 have F3 := F3.ext E2
 have F4 := F4.ext E2
 have F5 := F5.ext E2
 have F6 := F6.ext E2
 have F7 := F7.ext E2
 have F8 := F8.ext E2
 have E2' := E1.ext E2
 have K2 := (Keep.refl h0 [a1]).ext E2
 have gq : @LE.le Nat _ h0.size b2 := Nat.le_of_eq g2.symm
 obtain ⟨T3, h3, X3, e3, W3, st3⟩ := putF X2 hx hZ hown (host := "") (Or.inl (w_ hw 63 rfl)) Via.refl e2 F0 E2' (Or.inl (w_ hw 64 rfl)) (w_ hw 57 rfl) (ty := (.array .char)) (by decide) rfl rfl (g := (mkF m 9 #[Vr a1] [(.ref b2), (.ref a1)])) rfl rfl (hb hby d13_9)
 refine Goes.via st3 ?_
 have N3 := Fr.snoc X3 N0 g1
 have F0 := F0.same W3
 have F1 := F1.other W3 (Or.inr (slot_ne (Or.inl (w_ hw 67 rfl)) (Or.inl (w_ hw 64 rfl)) (by decide) (t := (.array .int)) (t' := (.array .char)) (by decide) (by decide)))
 have F2 := F2.other W3 (Or.inr (slot_ne (Or.inl (w_ hw 69 rfl)) (Or.inl (w_ hw 64 rfl)) (by decide) (t := (.array .int)) (t' := (.array .char)) (by decide) (by decide)))
 have F3 := F3.other W3 (Or.inr (slot_ne (Or.inl (w_ hw 71 rfl)) (Or.inl (w_ hw 64 rfl)) (by decide) (t := (.array .int)) (t' := (.array .char)) (by decide) (by decide)))
 have F4 := F4.other W3 (Or.inr (slot_ne (Or.inl (w_ hw 73 rfl)) (Or.inl (w_ hw 64 rfl)) (by decide) (t := (.array .byte)) (t' := (.array .char)) (by decide) (by decide)))
 have F5 := F5.other W3 (Or.inr (slot_ne (Or.inl (w_ hw 75 rfl)) (Or.inl (w_ hw 64 rfl)) (by decide) (t := (.array .int)) (t' := (.array .char)) (by decide) (by decide)))
 have F6 := F6.other W3 (Or.inr (slot_ne (Or.inl (w_ hw 77 rfl)) (Or.inl (w_ hw 64 rfl)) (by decide) (t := (.array .int)) (t' := (.array .char)) (by decide) (by decide)))
 have F7 := F7.other W3 (Or.inr (slot_ne (Or.inl (w_ hw 84 rfl)) (Or.inl (w_ hw 64 rfl)) (by decide) (t := .int) (t' := (.array .char)) (by decide) (by decide)))
 have F8 := F8.other W3 (Or.inr (slot_ne (Or.inl (w_ hw 86 rfl)) (Or.inl (w_ hw 64 rfl)) (by decide) (t := .int) (t' := (.array .char)) (by decide) (by decide)))
 have E3' := E2'.wr W3
 have B3_1 := B2.other W3 (Nat.ne_of_gt (by have := lt1; omega))
 have K3 := K2.wr W3 (Or.inl (List.mem_singleton.mpr rfl))
 refine Goes.via (S' := T3.setTop (mkF m 15 #[Vr a1] [(.int 16), (.ref a1)])) (fun tz kz => ?_) ?_
 ·refine XS.aloadN X3.here hx rfl (hb hby d13_12) rfl rfl ?_
  refine XS.bipush X3.here hx rfl (hb hby d13_13) ?_
  exact kz
 obtain ⟨T4, h4, k4, X4, e4, E4, A4, st4⟩ := newP X3 hx hZ (w_ hw 65 rfl) e3 (g := (mkF m 15 #[Vr a1] [(.int 16), (.ref a1)])) rfl (hb hby d13_15) rfl (by decide) (cap := 16) (by decide) (by decide) (by decide) (by decide)
 obtain ⟨b4, g4⟩ : ∃ z, z = h3.size := ⟨_, rfl⟩
 rw [← g4] at A4 st4
 refine Goes.via st4 ?_
 have B4 : own_B Z h4 b4 .int 16 (fun _ => 0) := own_B.new (Arv.new A4 (by decide)) (by decide)
 have lt2 : @LT.lt Nat _ b2 b4 := Nat.lt_of_lt_of_eq B3_1.lt g4.symm
 have F0 := F0.ext E4
 have F1 := F1.ext E4
 have F2 := F2.ext E4
 have F3 := F3.ext E4
 have F4 := F4.ext E4
 have F5 := F5.ext E4
 have F6 := F6.ext E4
 have F7 := F7.ext E4
 have F8 := F8.ext E4
 have E4' := E3'.ext E4
 have B4_1 := B3_1.ext E4
 have K4 := K3.ext E4
 obtain ⟨T5, h5, X5, e5, W5, st5⟩ := putF X4 hx hZ hown (host := "") (Or.inl (w_ hw 66 rfl)) Via.refl e4 F1 E4' (Or.inl (w_ hw 67 rfl)) (w_ hw 57 rfl) (ty := (.array .int)) (by decide) rfl rfl (g := (mkF m 17 #[Vr a1] [(.ref b4), (.ref a1)])) rfl rfl (hb hby d13_17)
 refine Goes.via st5 ?_
 have N5 := Fr.snoc X5 N3 g1
 have F0 := F0.other W5 (Or.inr (slot_ne (Or.inl (w_ hw 64 rfl)) (Or.inl (w_ hw 67 rfl)) (by decide) (t := (.array .char)) (t' := (.array .int)) (by decide) (by decide)))
 have F1 := F1.same W5
 have F2 := F2.other W5 (Or.inr (slot_ne (Or.inl (w_ hw 69 rfl)) (Or.inl (w_ hw 67 rfl)) (by decide) (t := (.array .int)) (t' := (.array .int)) (by decide) (by decide)))
 have F3 := F3.other W5 (Or.inr (slot_ne (Or.inl (w_ hw 71 rfl)) (Or.inl (w_ hw 67 rfl)) (by decide) (t := (.array .int)) (t' := (.array .int)) (by decide) (by decide)))
 have F4 := F4.other W5 (Or.inr (slot_ne (Or.inl (w_ hw 73 rfl)) (Or.inl (w_ hw 67 rfl)) (by decide) (t := (.array .byte)) (t' := (.array .int)) (by decide) (by decide)))
 have F5 := F5.other W5 (Or.inr (slot_ne (Or.inl (w_ hw 75 rfl)) (Or.inl (w_ hw 67 rfl)) (by decide) (t := (.array .int)) (t' := (.array .int)) (by decide) (by decide)))
 have F6 := F6.other W5 (Or.inr (slot_ne (Or.inl (w_ hw 77 rfl)) (Or.inl (w_ hw 67 rfl)) (by decide) (t := (.array .int)) (t' := (.array .int)) (by decide) (by decide)))
 have F7 := F7.other W5 (Or.inr (slot_ne (Or.inl (w_ hw 84 rfl)) (Or.inl (w_ hw 67 rfl)) (by decide) (t := .int) (t' := (.array .int)) (by decide) (by decide)))
 have F8 := F8.other W5 (Or.inr (slot_ne (Or.inl (w_ hw 86 rfl)) (Or.inl (w_ hw 67 rfl)) (by decide) (t := .int) (t' := (.array .int)) (by decide) (by decide)))
 have E5' := E4'.wr W5
 have B5_1 := B4_1.other W5 (Nat.ne_of_gt (by have := lt1; omega))
 have B5_2 := B4.other W5 (Nat.ne_of_gt (by have := lt1; have := lt2; omega))
 have K5 := K4.wr W5 (Or.inl (List.mem_singleton.mpr rfl))
 refine Goes.via (S' := T5.setTop (mkF m 23 #[Vr a1] [(.int 16), (.ref a1)])) (fun tz kz => ?_) ?_
 ·refine XS.aloadN X5.here hx rfl (hb hby d13_20) rfl rfl ?_
  refine XS.bipush X5.here hx rfl (hb hby d13_21) ?_
  exact kz
 obtain ⟨T6, h6, k6, X6, e6, E6, A6, st6⟩ := newP X5 hx hZ (w_ hw 65 rfl) e5 (g := (mkF m 23 #[Vr a1] [(.int 16), (.ref a1)])) rfl (hb hby d13_23) rfl (by decide) (cap := 16) (by decide) (by decide) (by decide) (by decide)
 obtain ⟨b6, g6⟩ : ∃ z, z = h5.size := ⟨_, rfl⟩
 rw [← g6] at A6 st6
 refine Goes.via st6 ?_
 have B6 : own_B Z h6 b6 .int 16 (fun _ => 0) := own_B.new (Arv.new A6 (by decide)) (by decide)
 have lt3 : @LT.lt Nat _ b4 b6 := Nat.lt_of_lt_of_eq B5_2.lt g6.symm
 have F0 := F0.ext E6
 have F1 := F1.ext E6
 have F2 := F2.ext E6
 have F3 := F3.ext E6
 have F4 := F4.ext E6
 have F5 := F5.ext E6
 have F6 := F6.ext E6
 have F7 := F7.ext E6
 have F8 := F8.ext E6
 have E6' := E5'.ext E6
 have B6_1 := B5_1.ext E6
 have B6_2 := B5_2.ext E6
 have K6 := K5.ext E6
 obtain ⟨T7, h7, X7, e7, W7, st7⟩ := putF X6 hx hZ hown (host := "") (Or.inl (w_ hw 68 rfl)) Via.refl e6 F2 E6' (Or.inl (w_ hw 69 rfl)) (w_ hw 57 rfl) (ty := (.array .int)) (by decide) rfl rfl (g := (mkF m 25 #[Vr a1] [(.ref b6), (.ref a1)])) rfl rfl (hb hby d13_25)
 refine Goes.via st7 ?_
 have N7 := Fr.snoc X7 N5 g1
 have F0 := F0.other W7 (Or.inr (slot_ne (Or.inl (w_ hw 64 rfl)) (Or.inl (w_ hw 69 rfl)) (by decide) (t := (.array .char)) (t' := (.array .int)) (by decide) (by decide)))
 have F1 := F1.other W7 (Or.inr (slot_ne (Or.inl (w_ hw 67 rfl)) (Or.inl (w_ hw 69 rfl)) (by decide) (t := (.array .int)) (t' := (.array .int)) (by decide) (by decide)))
 have F2 := F2.same W7
 have F3 := F3.other W7 (Or.inr (slot_ne (Or.inl (w_ hw 71 rfl)) (Or.inl (w_ hw 69 rfl)) (by decide) (t := (.array .int)) (t' := (.array .int)) (by decide) (by decide)))
 have F4 := F4.other W7 (Or.inr (slot_ne (Or.inl (w_ hw 73 rfl)) (Or.inl (w_ hw 69 rfl)) (by decide) (t := (.array .byte)) (t' := (.array .int)) (by decide) (by decide)))
 have F5 := F5.other W7 (Or.inr (slot_ne (Or.inl (w_ hw 75 rfl)) (Or.inl (w_ hw 69 rfl)) (by decide) (t := (.array .int)) (t' := (.array .int)) (by decide) (by decide)))
 have F6 := F6.other W7 (Or.inr (slot_ne (Or.inl (w_ hw 77 rfl)) (Or.inl (w_ hw 69 rfl)) (by decide) (t := (.array .int)) (t' := (.array .int)) (by decide) (by decide)))
 have F7 := F7.other W7 (Or.inr (slot_ne (Or.inl (w_ hw 84 rfl)) (Or.inl (w_ hw 69 rfl)) (by decide) (t := .int) (t' := (.array .int)) (by decide) (by decide)))
 have F8 := F8.other W7 (Or.inr (slot_ne (Or.inl (w_ hw 86 rfl)) (Or.inl (w_ hw 69 rfl)) (by decide) (t := .int) (t' := (.array .int)) (by decide) (by decide)))
 have E7' := E6'.wr W7
 have B7_1 := B6_1.other W7 (Nat.ne_of_gt (by have := lt1; omega))
 have B7_2 := B6_2.other W7 (Nat.ne_of_gt (by have := lt1; have := lt2; omega))
 have B7_3 := B6.other W7 (Nat.ne_of_gt (by have := lt1; have := lt2; have := lt3; omega))
 have K7 := K6.wr W7 (Or.inl (List.mem_singleton.mpr rfl))
 refine Goes.via (S' := T7.setTop (mkF m 31 #[Vr a1] [(.int 16), (.ref a1)])) (fun tz kz => ?_) ?_
 ·refine XS.aloadN X7.here hx rfl (hb hby d13_28) rfl rfl ?_
  refine XS.bipush X7.here hx rfl (hb hby d13_29) ?_
  exact kz
 obtain ⟨T8, h8, k8, X8, e8, E8, A8, st8⟩ := newP X7 hx hZ (w_ hw 65 rfl) e7 (g := (mkF m 31 #[Vr a1] [(.int 16), (.ref a1)])) rfl (hb hby d13_31) rfl (by decide) (cap := 16) (by decide) (by decide) (by decide) (by decide)
 obtain ⟨b8, g8⟩ : ∃ z, z = h7.size := ⟨_, rfl⟩
 rw [← g8] at A8 st8
 refine Goes.via st8 ?_
 have B8 : own_B Z h8 b8 .int 16 (fun _ => 0) := own_B.new (Arv.new A8 (by decide)) (by decide)
 have lt4 : @LT.lt Nat _ b6 b8 := Nat.lt_of_lt_of_eq B7_3.lt g8.symm
 have F0 := F0.ext E8
 have F1 := F1.ext E8
 have F2 := F2.ext E8
 have F3 := F3.ext E8
 have F4 := F4.ext E8
 have F5 := F5.ext E8
 have F6 := F6.ext E8
 have F7 := F7.ext E8
 have F8 := F8.ext E8
 have E8' := E7'.ext E8
 have B8_1 := B7_1.ext E8
 have B8_2 := B7_2.ext E8
 have B8_3 := B7_3.ext E8
 have K8 := K7.ext E8
 obtain ⟨T9, h9, X9, e9, W9, st9⟩ := putF X8 hx hZ hown (host := "") (Or.inl (w_ hw 70 rfl)) Via.refl e8 F3 E8' (Or.inl (w_ hw 71 rfl)) (w_ hw 57 rfl) (ty := (.array .int)) (by decide) rfl rfl (g := (mkF m 33 #[Vr a1] [(.ref b8), (.ref a1)])) rfl rfl (hb hby d13_33)
 refine Goes.via st9 ?_
 have N9 := Fr.snoc X9 N7 g1
 have F0 := F0.other W9 (Or.inr (slot_ne (Or.inl (w_ hw 64 rfl)) (Or.inl (w_ hw 71 rfl)) (by decide) (t := (.array .char)) (t' := (.array .int)) (by decide) (by decide)))
 have F1 := F1.other W9 (Or.inr (slot_ne (Or.inl (w_ hw 67 rfl)) (Or.inl (w_ hw 71 rfl)) (by decide) (t := (.array .int)) (t' := (.array .int)) (by decide) (by decide)))
 have F2 := F2.other W9 (Or.inr (slot_ne (Or.inl (w_ hw 69 rfl)) (Or.inl (w_ hw 71 rfl)) (by decide) (t := (.array .int)) (t' := (.array .int)) (by decide) (by decide)))
 have F3 := F3.same W9
 have F4 := F4.other W9 (Or.inr (slot_ne (Or.inl (w_ hw 73 rfl)) (Or.inl (w_ hw 71 rfl)) (by decide) (t := (.array .byte)) (t' := (.array .int)) (by decide) (by decide)))
 have F5 := F5.other W9 (Or.inr (slot_ne (Or.inl (w_ hw 75 rfl)) (Or.inl (w_ hw 71 rfl)) (by decide) (t := (.array .int)) (t' := (.array .int)) (by decide) (by decide)))
 have F6 := F6.other W9 (Or.inr (slot_ne (Or.inl (w_ hw 77 rfl)) (Or.inl (w_ hw 71 rfl)) (by decide) (t := (.array .int)) (t' := (.array .int)) (by decide) (by decide)))
 have F7 := F7.other W9 (Or.inr (slot_ne (Or.inl (w_ hw 84 rfl)) (Or.inl (w_ hw 71 rfl)) (by decide) (t := .int) (t' := (.array .int)) (by decide) (by decide)))
 have F8 := F8.other W9 (Or.inr (slot_ne (Or.inl (w_ hw 86 rfl)) (Or.inl (w_ hw 71 rfl)) (by decide) (t := .int) (t' := (.array .int)) (by decide) (by decide)))
 have E9' := E8'.wr W9
 have B9_1 := B8_1.other W9 (Nat.ne_of_gt (by have := lt1; omega))
 have B9_2 := B8_2.other W9 (Nat.ne_of_gt (by have := lt1; have := lt2; omega))
 have B9_3 := B8_3.other W9 (Nat.ne_of_gt (by have := lt1; have := lt2; have := lt3; omega))
 have B9_4 := B8.other W9 (Nat.ne_of_gt (by have := lt1; have := lt2; have := lt3; have := lt4; omega))
 have K9 := K8.wr W9 (Or.inl (List.mem_singleton.mpr rfl))
 refine Goes.via (S' := T9.setTop (mkF m 39 #[Vr a1] [(.int 16), (.ref a1)])) (fun tz kz => ?_) ?_
 ·refine XS.aloadN X9.here hx rfl (hb hby d13_36) rfl rfl ?_
  refine XS.bipush X9.here hx rfl (hb hby d13_37) ?_
  exact kz
 obtain ⟨T10, h10, k10, X10, e10, E10, A10, st10⟩ := newP X9 hx hZ (w_ hw 9 rfl) e9 (g := (mkF m 39 #[Vr a1] [(.int 16), (.ref a1)])) rfl (hb hby d13_39) rfl (by decide) (cap := 16) (by decide) (by decide) (by decide) (by decide)
 obtain ⟨b10, g10⟩ : ∃ z, z = h9.size := ⟨_, rfl⟩
 rw [← g10] at A10 st10
 refine Goes.via st10 ?_
 have B10 : own_B Z h10 b10 .byte 16 (fun _ => 0) := own_B.new (Arv.new A10 (by decide)) (by decide)
 have lt5 : @LT.lt Nat _ b8 b10 := Nat.lt_of_lt_of_eq B9_4.lt g10.symm
 have F0 := F0.ext E10
 have F1 := F1.ext E10
 have F2 := F2.ext E10
 have F3 := F3.ext E10
 have F4 := F4.ext E10
 have F5 := F5.ext E10
 have F6 := F6.ext E10
 have F7 := F7.ext E10
 have F8 := F8.ext E10
 have E10' := E9'.ext E10
 have B10_1 := B9_1.ext E10
 have B10_2 := B9_2.ext E10
 have B10_3 := B9_3.ext E10
 have B10_4 := B9_4.ext E10
 have K10 := K9.ext E10
 obtain ⟨T11, h11, X11, e11, W11, st11⟩ := putF X10 hx hZ hown (host := "") (Or.inl (w_ hw 72 rfl)) Via.refl e10 F4 E10' (Or.inl (w_ hw 73 rfl)) (w_ hw 57 rfl) (ty := (.array .byte)) (by decide) rfl rfl (g := (mkF m 41 #[Vr a1] [(.ref b10), (.ref a1)])) rfl rfl (hb hby d13_41)
 refine Goes.via st11 ?_
 have N11 := Fr.snoc X11 N9 g1
 have F0 := F0.other W11 (Or.inr (slot_ne (Or.inl (w_ hw 64 rfl)) (Or.inl (w_ hw 73 rfl)) (by decide) (t := (.array .char)) (t' := (.array .byte)) (by decide) (by decide)))
 have F1 := F1.other W11 (Or.inr (slot_ne (Or.inl (w_ hw 67 rfl)) (Or.inl (w_ hw 73 rfl)) (by decide) (t := (.array .int)) (t' := (.array .byte)) (by decide) (by decide)))
 have F2 := F2.other W11 (Or.inr (slot_ne (Or.inl (w_ hw 69 rfl)) (Or.inl (w_ hw 73 rfl)) (by decide) (t := (.array .int)) (t' := (.array .byte)) (by decide) (by decide)))
 have F3 := F3.other W11 (Or.inr (slot_ne (Or.inl (w_ hw 71 rfl)) (Or.inl (w_ hw 73 rfl)) (by decide) (t := (.array .int)) (t' := (.array .byte)) (by decide) (by decide)))
 have F4 := F4.same W11
 have F5 := F5.other W11 (Or.inr (slot_ne (Or.inl (w_ hw 75 rfl)) (Or.inl (w_ hw 73 rfl)) (by decide) (t := (.array .int)) (t' := (.array .byte)) (by decide) (by decide)))
 have F6 := F6.other W11 (Or.inr (slot_ne (Or.inl (w_ hw 77 rfl)) (Or.inl (w_ hw 73 rfl)) (by decide) (t := (.array .int)) (t' := (.array .byte)) (by decide) (by decide)))
 have F7 := F7.other W11 (Or.inr (slot_ne (Or.inl (w_ hw 84 rfl)) (Or.inl (w_ hw 73 rfl)) (by decide) (t := .int) (t' := (.array .byte)) (by decide) (by decide)))
 have F8 := F8.other W11 (Or.inr (slot_ne (Or.inl (w_ hw 86 rfl)) (Or.inl (w_ hw 73 rfl)) (by decide) (t := .int) (t' := (.array .byte)) (by decide) (by decide)))
 have E11' := E10'.wr W11
 have B11_1 := B10_1.other W11 (Nat.ne_of_gt (by have := lt1; omega))
 have B11_2 := B10_2.other W11 (Nat.ne_of_gt (by have := lt1; have := lt2; omega))
 have B11_3 := B10_3.other W11 (Nat.ne_of_gt (by have := lt1; have := lt2; have := lt3; omega))
 have B11_4 := B10_4.other W11 (Nat.ne_of_gt (by have := lt1; have := lt2; have := lt3; have := lt4; omega))
 have B11_5 := B10.other W11 (Nat.ne_of_gt (by have := lt1; have := lt2; have := lt3; have := lt4; have := lt5; omega))
 have K11 := K10.wr W11 (Or.inl (List.mem_singleton.mpr rfl))
 refine Goes.via (S' := T11.setTop (mkF m 47 #[Vr a1] [(.int 16), (.ref a1)])) (fun tz kz => ?_) ?_
 ·refine XS.aloadN X11.here hx rfl (hb hby d13_44) rfl rfl ?_
  refine XS.bipush X11.here hx rfl (hb hby d13_45) ?_
  exact kz
 obtain ⟨T12, h12, k12, X12, e12, E12, A12, st12⟩ := newP X11 hx hZ (w_ hw 65 rfl) e11 (g := (mkF m 47 #[Vr a1] [(.int 16), (.ref a1)])) rfl (hb hby d13_47) rfl (by decide) (cap := 16) (by decide) (by decide) (by decide) (by decide)
 obtain ⟨b12, g12⟩ : ∃ z, z = h11.size := ⟨_, rfl⟩
 rw [← g12] at A12 st12
 refine Goes.via st12 ?_
 have B12 : own_B Z h12 b12 .int 16 (fun _ => 0) := own_B.new (Arv.new A12 (by decide)) (by decide)
 have lt6 : @LT.lt Nat _ b10 b12 := Nat.lt_of_lt_of_eq B11_5.lt g12.symm
 have F0 := F0.ext E12
 have F1 := F1.ext E12
 have F2 := F2.ext E12
 have F3 := F3.ext E12
 have F4 := F4.ext E12
 have F5 := F5.ext E12
 have F6 := F6.ext E12
 have F7 := F7.ext E12
 have F8 := F8.ext E12
 have E12' := E11'.ext E12
 have B12_1 := B11_1.ext E12
 have B12_2 := B11_2.ext E12
 have B12_3 := B11_3.ext E12
 have B12_4 := B11_4.ext E12
 have B12_5 := B11_5.ext E12
 have K12 := K11.ext E12
 obtain ⟨T13, h13, X13, e13, W13, st13⟩ := putF X12 hx hZ hown (host := "") (Or.inl (w_ hw 74 rfl)) Via.refl e12 F5 E12' (Or.inl (w_ hw 75 rfl)) (w_ hw 57 rfl) (ty := (.array .int)) (by decide) rfl rfl (g := (mkF m 49 #[Vr a1] [(.ref b12), (.ref a1)])) rfl rfl (hb hby d13_49)
 refine Goes.via st13 ?_
 have N13 := Fr.snoc X13 N11 g1
 have F0 := F0.other W13 (Or.inr (slot_ne (Or.inl (w_ hw 64 rfl)) (Or.inl (w_ hw 75 rfl)) (by decide) (t := (.array .char)) (t' := (.array .int)) (by decide) (by decide)))
 have F1 := F1.other W13 (Or.inr (slot_ne (Or.inl (w_ hw 67 rfl)) (Or.inl (w_ hw 75 rfl)) (by decide) (t := (.array .int)) (t' := (.array .int)) (by decide) (by decide)))
 have F2 := F2.other W13 (Or.inr (slot_ne (Or.inl (w_ hw 69 rfl)) (Or.inl (w_ hw 75 rfl)) (by decide) (t := (.array .int)) (t' := (.array .int)) (by decide) (by decide)))
 have F3 := F3.other W13 (Or.inr (slot_ne (Or.inl (w_ hw 71 rfl)) (Or.inl (w_ hw 75 rfl)) (by decide) (t := (.array .int)) (t' := (.array .int)) (by decide) (by decide)))
 have F4 := F4.other W13 (Or.inr (slot_ne (Or.inl (w_ hw 73 rfl)) (Or.inl (w_ hw 75 rfl)) (by decide) (t := (.array .byte)) (t' := (.array .int)) (by decide) (by decide)))
 have F5 := F5.same W13
 have F6 := F6.other W13 (Or.inr (slot_ne (Or.inl (w_ hw 77 rfl)) (Or.inl (w_ hw 75 rfl)) (by decide) (t := (.array .int)) (t' := (.array .int)) (by decide) (by decide)))
 have F7 := F7.other W13 (Or.inr (slot_ne (Or.inl (w_ hw 84 rfl)) (Or.inl (w_ hw 75 rfl)) (by decide) (t := .int) (t' := (.array .int)) (by decide) (by decide)))
 have F8 := F8.other W13 (Or.inr (slot_ne (Or.inl (w_ hw 86 rfl)) (Or.inl (w_ hw 75 rfl)) (by decide) (t := .int) (t' := (.array .int)) (by decide) (by decide)))
 have E13' := E12'.wr W13
 have B13_1 := B12_1.other W13 (Nat.ne_of_gt (by have := lt1; omega))
 have B13_2 := B12_2.other W13 (Nat.ne_of_gt (by have := lt1; have := lt2; omega))
 have B13_3 := B12_3.other W13 (Nat.ne_of_gt (by have := lt1; have := lt2; have := lt3; omega))
 have B13_4 := B12_4.other W13 (Nat.ne_of_gt (by have := lt1; have := lt2; have := lt3; have := lt4; omega))
 have B13_5 := B12_5.other W13 (Nat.ne_of_gt (by have := lt1; have := lt2; have := lt3; have := lt4; have := lt5; omega))
 have B13_6 := B12.other W13 (Nat.ne_of_gt (by have := lt1; have := lt2; have := lt3; have := lt4; have := lt5; have := lt6; omega))
 have K13 := K12.wr W13 (Or.inl (List.mem_singleton.mpr rfl))
 refine Goes.via (S' := T13.setTop (mkF m 55 #[Vr a1] [(.int 16), (.ref a1)])) (fun tz kz => ?_) ?_
 ·refine XS.aloadN X13.here hx rfl (hb hby d13_52) rfl rfl ?_
  refine XS.bipush X13.here hx rfl (hb hby d13_53) ?_
  exact kz
 obtain ⟨T14, h14, k14, X14, e14, E14, A14, st14⟩ := newP X13 hx hZ (w_ hw 65 rfl) e13 (g := (mkF m 55 #[Vr a1] [(.int 16), (.ref a1)])) rfl (hb hby d13_55) rfl (by decide) (cap := 16) (by decide) (by decide) (by decide) (by decide)
 obtain ⟨b14, g14⟩ : ∃ z, z = h13.size := ⟨_, rfl⟩
 rw [← g14] at A14 st14
 refine Goes.via st14 ?_
 have B14 : own_B Z h14 b14 .int 16 (fun _ => 0) := own_B.new (Arv.new A14 (by decide)) (by decide)
 have lt7 : @LT.lt Nat _ b12 b14 := Nat.lt_of_lt_of_eq B13_6.lt g14.symm
 have F0 := F0.ext E14
 have F1 := F1.ext E14
 have F2 := F2.ext E14
 have F3 := F3.ext E14
 have F4 := F4.ext E14
 have F5 := F5.ext E14
 have F6 := F6.ext E14
 have F7 := F7.ext E14
 have F8 := F8.ext E14
 have E14' := E13'.ext E14
 have B14_1 := B13_1.ext E14
 have B14_2 := B13_2.ext E14
 have B14_3 := B13_3.ext E14
 have B14_4 := B13_4.ext E14
 have B14_5 := B13_5.ext E14
 have B14_6 := B13_6.ext E14
 have K14 := K13.ext E14
 obtain ⟨T15, h15, X15, e15, W15, st15⟩ := putF X14 hx hZ hown (host := "") (Or.inl (w_ hw 76 rfl)) Via.refl e14 F6 E14' (Or.inl (w_ hw 77 rfl)) (w_ hw 57 rfl) (ty := (.array .int)) (by decide) rfl rfl (g := (mkF m 57 #[Vr a1] [(.ref b14), (.ref a1)])) rfl rfl (hb hby d13_57)
 refine Goes.via st15 ?_
 have N15 := Fr.snoc X15 N13 g1
 have F0 := F0.other W15 (Or.inr (slot_ne (Or.inl (w_ hw 64 rfl)) (Or.inl (w_ hw 77 rfl)) (by decide) (t := (.array .char)) (t' := (.array .int)) (by decide) (by decide)))
 have F1 := F1.other W15 (Or.inr (slot_ne (Or.inl (w_ hw 67 rfl)) (Or.inl (w_ hw 77 rfl)) (by decide) (t := (.array .int)) (t' := (.array .int)) (by decide) (by decide)))
 have F2 := F2.other W15 (Or.inr (slot_ne (Or.inl (w_ hw 69 rfl)) (Or.inl (w_ hw 77 rfl)) (by decide) (t := (.array .int)) (t' := (.array .int)) (by decide) (by decide)))
 have F3 := F3.other W15 (Or.inr (slot_ne (Or.inl (w_ hw 71 rfl)) (Or.inl (w_ hw 77 rfl)) (by decide) (t := (.array .int)) (t' := (.array .int)) (by decide) (by decide)))
 have F4 := F4.other W15 (Or.inr (slot_ne (Or.inl (w_ hw 73 rfl)) (Or.inl (w_ hw 77 rfl)) (by decide) (t := (.array .byte)) (t' := (.array .int)) (by decide) (by decide)))
 have F5 := F5.other W15 (Or.inr (slot_ne (Or.inl (w_ hw 75 rfl)) (Or.inl (w_ hw 77 rfl)) (by decide) (t := (.array .int)) (t' := (.array .int)) (by decide) (by decide)))
 have F6 := F6.same W15
 have F7 := F7.other W15 (Or.inr (slot_ne (Or.inl (w_ hw 84 rfl)) (Or.inl (w_ hw 77 rfl)) (by decide) (t := .int) (t' := (.array .int)) (by decide) (by decide)))
 have F8 := F8.other W15 (Or.inr (slot_ne (Or.inl (w_ hw 86 rfl)) (Or.inl (w_ hw 77 rfl)) (by decide) (t := .int) (t' := (.array .int)) (by decide) (by decide)))
 have E15' := E14'.wr W15
 have B15_1 := B14_1.other W15 (Nat.ne_of_gt (by have := lt1; omega))
 have B15_2 := B14_2.other W15 (Nat.ne_of_gt (by have := lt1; have := lt2; omega))
 have B15_3 := B14_3.other W15 (Nat.ne_of_gt (by have := lt1; have := lt2; have := lt3; omega))
 have B15_4 := B14_4.other W15 (Nat.ne_of_gt (by have := lt1; have := lt2; have := lt3; have := lt4; omega))
 have B15_5 := B14_5.other W15 (Nat.ne_of_gt (by have := lt1; have := lt2; have := lt3; have := lt4; have := lt5; omega))
 have B15_6 := B14_6.other W15 (Nat.ne_of_gt (by have := lt1; have := lt2; have := lt3; have := lt4; have := lt5; have := lt6; omega))
 have B15_7 := B14.other W15 (Nat.ne_of_gt (by have := lt1; have := lt2; have := lt3; have := lt4; have := lt5; have := lt6; have := lt7; omega))
 have K15 := K14.wr W15 (Or.inl (List.mem_singleton.mpr rfl))
 exact Goes.retV X15 hx Bd.notSynchronized Bd.returns (hb hby d13_60) (nb_ rfl) (nb_ rfl) (by rw [e15]; exact ⟨own_ad a1 b2 b4 b6 b8 b10 b12 b14, rfl, rfl, N15, K15, ⟨E15', F0, F1, F2, F3, F4, F5, F6, F7, F8, B15_1, B15_2, B15_3, B15_4, B15_5, B15_6, B15_7, own_ad.ge g1 lt1 lt2 lt3 lt4 lt5 lt6 lt7, own_ad.ne lt1 lt2 lt3 lt4 lt5 lt6 lt7⟩, own_ad.gh (Nat.le_trans (Nat.le_refl _) gq) lt2 lt3 lt4 lt5 lt6 lt7⟩)
theorem own_Str.other {Z : State} {h h' : Heap} {a b y : Addr} {k : ClassId} {n : Int32} {vs : List Value} {sl : Nat} {v : Value} (S : own_Str Z h a b k n vs) (W : Wr h h' y sl v) (q1 : a ≠ y) (q2 : b ≠ y) : own_Str Z h' a b k n vs := ⟨S.1.wr W, S.2.1.other W (Or.inl q1), S.2.2.1.other W (Or.inl q1), S.2.2.2.other W q2⟩
theorem own_arr_ne {Z : State} {h : Heap} {a b : Addr} {k k' : ClassId} {n n' : Int32} {vs vs' : List Value} {d d' : Value} {t t' : FieldType} (V : Arv Z h a k t n vs d) (V' : Arv Z h b k' t' n' vs' d') (ne : t ≠ t') : a ≠ b := fun ea => by
 subst ea
 obtain ⟨c, ⟨e1, ⟨-, k1, h1, c1, g1⟩, -⟩, -⟩ := V
 obtain ⟨c', ⟨e2, ⟨-, k2, h2, c2, g2⟩, -⟩, -⟩ := V'
 cases e1.symm.trans e2
 cases h1.symm.trans h2
 rw [g1] at g2
 cases g2
 exact ne rfl
theorem own_mi6 (x : Int32) : ∃ kN, own_I (own_mi (x &&& (7 : Int32)) (6 : Int32)) kN ∧ kN ≤ 6 := ⟨_, own_miI (own_Iof (c_and x 7 (by decide)).1) own_I6, Nat.min_le_right _ _⟩
theorem own_mij (x : Int32) {y : Int32} {kN : Nat} (h : own_I y kN) : ∃ jN, own_I (own_mi (x &&& (7 : Int32)) y) jN ∧ jN ≤ kN := ⟨_, own_miI (own_Iof (c_and x 7 (by decide)).1) h, Nat.min_le_right _ _⟩
theorem own_wsge {A : Nat → Addr} {N M : Nat} (h0 : @LE.le Nat _ N (A 0)) (h : ∀ i, 1 ≤ i → i < 8 → @LE.le Nat _ M (A i)) (nm : N ≤ M) : ∀ x ∈ own_ws A, @LE.le Nat _ N x := by
 intro x q
 simp only [own_ws, List.mem_cons, List.not_mem_nil, or_false] at q
 rcases q with rfl | rfl | rfl | rfl | rfl | rfl | rfl | rfl
 ·exact h0
 all_goals exact Nat.le_trans nm (h _ (by decide) (by decide))
theorem own_nws {A : Nat → Addr} {N : Nat} {x : Addr} (h : ∀ x ∈ own_ws A, @LE.le Nat _ N x) (q : @LT.lt Nat _ x N) : x ∉ own_ws A := fun z => absurd q (Nat.not_lt.mpr (h x z))
theorem own_sum6 {K : Nat → Nat} {lo hi : Nat} : own_one K lo hi 0 + own_one K lo hi 1 + own_one K lo hi 2 + own_one K lo hi 3 + own_one K lo hi 4 + own_one K lo hi 5 = own_sum K lo hi 6 := by
 simp only [own_sum]; omega
theorem own_add6 {K : Nat → Nat} {lo hi : Nat} {x0 x1 x2 x3 x4 x5 : Int32} (h0 : own_I x0 (own_one K lo hi 0)) (h1 : own_I x1 (own_one K lo hi 1)) (h2 : own_I x2 (own_one K lo hi 2)) (h3 : own_I x3 (own_one K lo hi 3)) (h4 : own_I x4 (own_one K lo hi 4)) (h5 : own_I x5 (own_one K lo hi 5)) : own_I (((((x0 + x1) + x2) + x3) + x4) + x5) (own_sum K lo hi 6) := by
 rw [← own_sum6]
 have a0 := @own_one.le K lo hi 0; have a1 := @own_one.le K lo hi 1; have a2 := @own_one.le K lo hi 2; have a3 := @own_one.le K lo hi 3; have a4 := @own_one.le K lo hi 4; have a5 := @own_one.le K lo hi 5
 exact ((((h0.add h1 (by omega)).add h2 (by omega)).add h3 (by omega)).add h4 (by omega)).add h5 (by omega)
theorem own_J.A {f : Nat → Nat → Int32} {ob nm : Int32} {K : Nat → Nat} {j k i : Nat} (h : own_J f ob nm K j k i) (q : i ≤ j) : own_JA f ob nm K j i := h.elim (fun z => z.2) (fun z => absurd z.1 (Nat.not_lt.mpr q))
theorem own_J.B {f : Nat → Nat → Int32} {ob nm : Int32} {K : Nat → Nat} {j k i : Nat} (h : own_J f ob nm K j k i) (q : ¬ i ≤ j) : own_JB f ob nm K j k i := h.elim (fun z => absurd z.1 q) (fun z => z.2)
theorem pn_0 : plainName "com/example/upkeep_window/upkeepwindow/policy/OpenNamesHeightPinLaw" = true := by first | (simp [plainName, overriddenIn]; done) | decide +kernel
theorem ef_0 (m : MethodId) (x0 : Int32) (x1 : Int32) (x2 : Int32) (x3 : Int32) (x4 : Int32) (x5 : Int32) : entryFrame m #[(.int x0), (.int x1), (.int x2), (.int x3), (.int x4), (.int x5)] maxLocals = mkF m 0 #[Vi x0, Vi x1, Vi x2, Vi x3, Vi x4, Vi x5, Vu, Vu, Vu, Vu, Vu, Vu, Vu, Vu] [] := by first | (simp [entryFrame, mkF, argsToLocals, Value.category, maxLocals]; done) | rfl
def Q_rm0 (Z : State) (p1 : Int32) (p2 : Int32) (p3 : Int32) (p4 : Int32) (p5 : Int32) (p6 : Int32) (cs : Int32) (fv : Value) (h0 : Heap) (n0 : Nat) : Option Value → Heap → List Loc → Prop := fun v h L => v = some (.int 1) ∧ Fr n0 L
theorem rm0 (l : Launch) (Z : State) (a0 : Array Value) (hw : ∀ d ∈ tables_1, d.before a0 Z = true) (ws : List Jvm.Cond) (p1 : Int32) (p2 : Int32) (p3 : Int32) (p4 : Int32) (p5 : Int32) (p6 : Int32) (cs : Int32) (fv : Value) (h0 : Heap) (n0 : Nat) (Z0 : n0 ≤ h0.size) (SC : Sta Z Z.heap "java/lang/String" "COMPACT_STRINGS" "Z" (.int cs)) (hcs : ¬ cs = (0 : Int32)) (O0 : Old Z n0 h0) (SF : Sta Z Z.heap "jdk/internal/util/Preconditions" "SIOOBE_FORMATTER" "Ljava/util/function/BiFunction;" fv) (hfv : fv.isRef = true) :
  MetFree l x (head1 (Jvm.Cond.code x code maxLocals ret :: ws) room_1) (fun a U => a = #[(.int p1), (.int p2), (.int p3), (.int p4), (.int p5), (.int p6)] ∧ Z.Warmed39 U.vm ∧ U.heap = h0 ∧ CHv Z consts_1 U.vm h0) (fun _ _ _ _ _ => True) (fun _ U oo U' => ∃ vv LL, oo = .returned vv ∧ (Q_rm0 Z p1 p2 p3 p4 p5 p6 cs fv h0 n0) vv U'.heap LL ∧ CHr Z consts_1 U.vm U.heap U'.vm U'.heap ∧ ReturnedEndW U oo U' LL room_1.cells room_1.slots) := by
 refine MetFree.of_bodySF (plainFor_of_name pn_0) hisR ?_
 intro p e s m args below meth c s₁ Bd hml0 hP hK
 obtain ⟨rfl, hZ, hh, hH⟩ := hP
 have hx := Bd.exec
 have hby := Bd.bytes
 have hml : c.maxLocals = 14 := hml0
 have hown : s.vm.findClass "com/example/upkeep_window/upkeepwindow/policy/OpenNamesHeightPinLaw" = some m.cls := findClass_of_methodNamed Bd.named
 have hnm := (name_of_methodNamed Bd.named Bd.method).1
 have X0 : Stand p l e room_1 s m #[(.int p1), (.int p2), (.int p3), (.int p4), (.int p5), (.int p6)] below meth c s₁ [] 0 0 := Stand.of_body Bd
 have e0 : s₁.heap = h0 := by rw [← hh, Bd.state]; rfl
 have N0 := Fr.nil n0
 have hC0 : CHr Z consts_1 s.vm s.heap s.vm h0 := by rw [hh]; exact CHr.refl hH
 have hEL := own_EW hw
 show Goes p e below (FinH s Z consts_1 (Q_rm0 Z p1 p2 p3 p4 p5 p6 cs fv h0 n0) room_1.cells room_1.slots) _
 refine Goes.via (S' := s₁.setTop (mkF m 0 #[Vi p1, Vi p2, Vi p3, Vi p4, Vi p5, Vi p6, Vu, Vu, Vu, Vu, Vu, Vu, Vu, Vu] [])) (fun tz kz => castTop (ef_0 m p1 p2 p3 p4 p5 p6 ) kz) ?_
 refine Goes.via (S' := s₁.setTop (mkF m 2 #[Vi p1, Vi p2, Vi p3, Vi p4, Vi p5, Vi p6, Vu, Vu, Vu, Vu, Vu, Vu, Vu, Vu] [(.int 6)])) (fun tz kz => ?_) ?_
 ·refine XS.bipush X0.here hx rfl (hb hby at_0) ?_
  exact kz
 obtain ⟨T1, h1, k1, X1, e1, E1, A1, O1, st1⟩ := newR X0 hx hZ hown (w_ hw 0 rfl) (w_ hw 1 rfl) e0 (g := (mkF m 2 #[Vi p1, Vi p2, Vi p3, Vi p4, Vi p5, Vi p6, Vu, Vu, Vu, Vu, Vu, Vu, Vu, Vu] [(.int 6)])) rfl (hb hby at_2) rfl (by decide) (cap := 6) (by decide) (by decide) (by decide) (by decide)
 obtain ⟨b1, g1⟩ : ∃ z, z = h0.size := ⟨_, rfl⟩
 rw [← g1] at A1 st1
 refine Goes.via st1 ?_
 have hC2 := hC0.trans (CHr.ext E1 hC0.1)
 have hk3 := Nat.le_trans (Nat.zero_le _) E1.1
 have V1 : Arv Z h1 b1 k1 (.object "java/lang/String") (6 : Int32) [.null, .null, .null, .null, .null, .null] .null := (Arv.new A1 (by decide)).pad (pad_rep [] .null 6)
 have gb : n0 ≤ b1 := Nat.le_trans Z0 (Nat.le_of_eq g1.symm)
 have Oa := O0.ext E1
 have Za := Nat.le_trans Z0 E1.1
 refine Goes.via (S' := T1.setTop (mkF m 8 #[Vi p1, Vi p2, Vi p3, Vi p4, Vi p5, Vi p6, Vu, Vu, Vu, Vu, Vu, Vu, Vu, Vu] [(.int p1), (.int 0), (.ref b1), (.ref b1)])) (fun tz kz => ?_) ?_
 ·refine XS.dup X1.here hx rfl (hb hby at_5) rfl rfl ?_
  refine XS.iconst X1.here hx rfl (hb hby at_6) ?_
  refine XS.iloadN X1.here hx rfl (hb hby at_7) rfl ?_
  exact kz
 obtain ⟨_, _, ⟨T4, L4, k4, n4⟩, -, X4, hs4, gs4, ⟨Lc4, hQ4, l4, y4, z4, hc4⟩, st4⟩ := callSS (show Stand p l e _ (s.setVm s.vm) m _ below meth c _ _ _ _ from X1) hx (y := n_36) hown (mvT hZ (w_ hw 2 rfl)) (mvT hZ (w_ hw 3 rfl)) (mvT hZ (w_ hw 4 rfl)) (mvT hZ (w_ hw 5 rfl)) (by decide) (backOfSH (s := s) (vm0 := s.vm) (W := 3) (rnm l Z a0 hw p1 cs h1 n0 Za SC hcs Oa) hZ (w_ hw 5 rfl) (w_ hw 4 rfl) (by decide) (by decide) hEL hC2.1) (g := (mkF m 8 #[Vi p1, Vi p2, Vi p3, Vi p4, Vi p5, Vi p6, Vu, Vu, Vu, Vu, Vu, Vu, Vu, Vu] [(.int p1), (.int 0), (.ref b1), (.ref b1)])) rfl (by rw [hml]; rfl) (argsL := [(.int p1)]) (rest := [(.int 0), (.ref b1), (.ref b1)]) (lenOf pd_30 rfl) rfl (ww_ rfl rfl) (hb hby at_8) (fun _ _ => ⟨rfl, e1, (by decide : 1 + 3 ≤ _), (by decide : 6 + 12 ≤ _)⟩)
 dsimp only [Pt.U, Pt.locs, Pt.cells, Pt.slots] at X4 l4 y4 z4 st4 hQ4 hs4 gs4 hc4
 subst l4 y4 z4
 obtain ⟨sa0, va0, ka0, rfl, N4, K4, Sg0⟩ := hQ4
 rw [e1] at gs4
 have hS4 : s.Since T4.vm T4.heap.size := own_fold ((State.WarmedH.refl s).since 0) hk3 hs4 gs4
 have hC4 := hC2.trans hc4
 have hZ : Z.Warmed39 (s.setVm T4.vm).vm := State.Warmed39.trans (t := s.setVm s.vm) hZ hs4.1
 have hown : (s.setVm T4.vm).vm.findClass "com/example/upkeep_window/upkeepwindow/policy/OpenNamesHeightPinLaw" = some m.cls := by rw [show (s.setVm T4.vm).vm = T4.vm from rfl, hs4.1.alike.findClass]; exact hown
 have Nf4 := Fr.app N0 N4
 refine Goes.via (fun _ kz => st4.trans kz) ?_
 have O4_ := Oa.keep K4 all0
 have Z4_ := Nat.le_trans Za K4.1
 have V4 := V1.keep K4 nin0
 have sf0 := Safe.arv (EL := consts_1) hZ.alike V4 (by decide)
 have ne0_0 := Sg0.1.neArv V4 (w_ hw 8 rfl)
 have nv0_0 := own_arr_ne Sg0.2.2.2 V4 (by decide)
 obtain ⟨cl5, Ar5, q5, Sz5, Nn5, Hs5, G5⟩ := (id V4)
 obtain ⟨T6, h6, X6, e6, W6, st6⟩ := stR X4 hx hZ rfl Ar5 (j := (0 : Int32)) (inb_of Sz5 ⟨by decide, by decide⟩) rfl (Sto.ofV Ar5 q5 O1 (Ins.self Sg0.1)) (g := (mkF m 11 #[Vi p1, Vi p2, Vi p3, Vi p4, Vi p5, Vi p6, Vu, Vu, Vu, Vu, Vu, Vu, Vu, Vu] [(.ref sa0), (.int 0), (.ref b1), (.ref b1)])) rfl rfl (hb hby at_11)
 refine Goes.via st6 ?_
 have N6 := Fr.snoc X6 Nf4 gb
 have V6 := Arv.set Ar5 q5 Sz5 Nn5 Hs5 G5 rfl W6 0 rfl (Nat.le_of_ble_eq_true rfl)
 have Sg0 := Sg0.other W6 ne0_0 nv0_0
 have hC7 := hC4.trans (CHr.wr W6 sf0 hC4.1)
 have hk8 := Nat.le_trans (Nat.le_refl _) (Nat.le_of_eq W6.size.symm)
 have O6_ := O4_.wr W6 gb
 have Z6_ := Nat.le_trans Z4_ (Nat.le_of_eq W6.size.symm)
 refine Goes.via (S' := T6.setTop (mkF m 15 #[Vi p1, Vi p2, Vi p3, Vi p4, Vi p5, Vi p6, Vu, Vu, Vu, Vu, Vu, Vu, Vu, Vu] [(.int p2), (.int 1), (.ref b1), (.ref b1)])) (fun tz kz => ?_) ?_
 ·refine XS.dup X6.here hx rfl (hb hby at_12) rfl rfl ?_
  refine XS.iconst X6.here hx rfl (hb hby at_13) ?_
  refine XS.iloadN X6.here hx rfl (hb hby at_14) rfl ?_
  exact kz
 obtain ⟨_, _, ⟨T9, L9, k9, n9⟩, -, X9, hs9, gs9, ⟨Lc9, hQ9, l9, y9, z9, hc9⟩, st9⟩ := callSS (show Stand p l e _ (s.setVm T4.vm) m _ below meth c _ _ _ _ from X6) hx (y := n_36) hown (mvT hZ (w_ hw 2 rfl)) (mvT hZ (w_ hw 3 rfl)) (mvT hZ (w_ hw 4 rfl)) (mvT hZ (w_ hw 5 rfl)) (by decide) (backOfSH (s := s) (vm0 := T4.vm) (W := 3) (rnm l Z a0 hw p2 cs h6 n0 Z6_ SC hcs O6_) hZ (w_ hw 5 rfl) (w_ hw 4 rfl) (by decide) (by decide) hEL hC7.1) (g := (mkF m 15 #[Vi p1, Vi p2, Vi p3, Vi p4, Vi p5, Vi p6, Vu, Vu, Vu, Vu, Vu, Vu, Vu, Vu] [(.int p2), (.int 1), (.ref b1), (.ref b1)])) rfl (by rw [hml]; rfl) (argsL := [(.int p2)]) (rest := [(.int 1), (.ref b1), (.ref b1)]) (lenOf pd_30 rfl) rfl (ww_ rfl rfl) (hb hby at_15) (fun _ _ => ⟨rfl, e6, (by decide : 4 + 3 ≤ _), (by decide : 18 + 12 ≤ _)⟩)
 dsimp only [Pt.U, Pt.locs, Pt.cells, Pt.slots] at X9 l9 y9 z9 st9 hQ9 hs9 gs9 hc9
 subst l9 y9 z9
 obtain ⟨sa1, va1, ka1, rfl, N9, K9, Sg1⟩ := hQ9
 rw [e6] at gs9
 have hS9 : s.Since T9.vm T9.heap.size := own_fold hS4 hk8 hs9 gs9
 have hC9 := hC7.trans hc9
 have hZ : Z.Warmed39 (s.setVm T9.vm).vm := State.Warmed39.trans (t := s.setVm T4.vm) hZ hs9.1
 have hown : (s.setVm T9.vm).vm.findClass "com/example/upkeep_window/upkeepwindow/policy/OpenNamesHeightPinLaw" = some m.cls := by rw [show (s.setVm T9.vm).vm = T9.vm from rfl, hs9.1.alike.findClass]; exact hown
 have Nf9 := Fr.app N6 N9
 refine Goes.via (fun _ kz => st9.trans kz) ?_
 have O9_ := O6_.keep K9 all0
 have Z9_ := Nat.le_trans Z6_ K9.1
 have V9 := V6.keep K9 nin0
 have Sg0 := Sg0.keep K9 nin0 nin0
 have sf1 := Safe.arv (EL := consts_1) hZ.alike V9 (by decide)
 have ne1_0 := Sg0.1.neArv V9 (w_ hw 8 rfl)
 have nv1_0 := own_arr_ne Sg0.2.2.2 V9 (by decide)
 have ne1_1 := Sg1.1.neArv V9 (w_ hw 8 rfl)
 have nv1_1 := own_arr_ne Sg1.2.2.2 V9 (by decide)
 obtain ⟨cl10, Ar10, q10, Sz10, Nn10, Hs10, G10⟩ := (id V9)
 obtain ⟨T11, h11, X11, e11, W11, st11⟩ := stR X9 hx hZ rfl Ar10 (j := (1 : Int32)) (inb_of Sz10 ⟨by decide, by decide⟩) rfl (Sto.ofV Ar10 q10 O1 (Ins.self Sg1.1)) (g := (mkF m 18 #[Vi p1, Vi p2, Vi p3, Vi p4, Vi p5, Vi p6, Vu, Vu, Vu, Vu, Vu, Vu, Vu, Vu] [(.ref sa1), (.int 1), (.ref b1), (.ref b1)])) rfl rfl (hb hby at_18)
 refine Goes.via st11 ?_
 have N11 := Fr.snoc X11 Nf9 gb
 have V11 := Arv.set Ar10 q10 Sz10 Nn10 Hs10 G10 rfl W11 1 rfl (Nat.le_of_ble_eq_true rfl)
 have Sg0 := Sg0.other W11 ne1_0 nv1_0
 have Sg1 := Sg1.other W11 ne1_1 nv1_1
 have hC12 := hC9.trans (CHr.wr W11 sf1 hC9.1)
 have hk13 := Nat.le_trans (Nat.le_refl _) (Nat.le_of_eq W11.size.symm)
 have O11_ := O9_.wr W11 gb
 have Z11_ := Nat.le_trans Z9_ (Nat.le_of_eq W11.size.symm)
 refine Goes.via (S' := T11.setTop (mkF m 22 #[Vi p1, Vi p2, Vi p3, Vi p4, Vi p5, Vi p6, Vu, Vu, Vu, Vu, Vu, Vu, Vu, Vu] [(.int p3), (.int 2), (.ref b1), (.ref b1)])) (fun tz kz => ?_) ?_
 ·refine XS.dup X11.here hx rfl (hb hby at_19) rfl rfl ?_
  refine XS.iconst X11.here hx rfl (hb hby at_20) ?_
  refine XS.iloadN X11.here hx rfl (hb hby at_21) rfl ?_
  exact kz
 obtain ⟨_, _, ⟨T14, L14, k14, n14⟩, -, X14, hs14, gs14, ⟨Lc14, hQ14, l14, y14, z14, hc14⟩, st14⟩ := callSS (show Stand p l e _ (s.setVm T9.vm) m _ below meth c _ _ _ _ from X11) hx (y := n_36) hown (mvT hZ (w_ hw 2 rfl)) (mvT hZ (w_ hw 3 rfl)) (mvT hZ (w_ hw 4 rfl)) (mvT hZ (w_ hw 5 rfl)) (by decide) (backOfSH (s := s) (vm0 := T9.vm) (W := 3) (rnm l Z a0 hw p3 cs h11 n0 Z11_ SC hcs O11_) hZ (w_ hw 5 rfl) (w_ hw 4 rfl) (by decide) (by decide) hEL hC12.1) (g := (mkF m 22 #[Vi p1, Vi p2, Vi p3, Vi p4, Vi p5, Vi p6, Vu, Vu, Vu, Vu, Vu, Vu, Vu, Vu] [(.int p3), (.int 2), (.ref b1), (.ref b1)])) rfl (by rw [hml]; rfl) (argsL := [(.int p3)]) (rest := [(.int 2), (.ref b1), (.ref b1)]) (lenOf pd_30 rfl) rfl (ww_ rfl rfl) (hb hby at_22) (fun _ _ => ⟨rfl, e11, (by decide : 7 + 3 ≤ _), (by decide : 30 + 12 ≤ _)⟩)
 dsimp only [Pt.U, Pt.locs, Pt.cells, Pt.slots] at X14 l14 y14 z14 st14 hQ14 hs14 gs14 hc14
 subst l14 y14 z14
 obtain ⟨sa2, va2, ka2, rfl, N14, K14, Sg2⟩ := hQ14
 rw [e11] at gs14
 have hS14 : s.Since T14.vm T14.heap.size := own_fold hS9 hk13 hs14 gs14
 have hC14 := hC12.trans hc14
 have hZ : Z.Warmed39 (s.setVm T14.vm).vm := State.Warmed39.trans (t := s.setVm T9.vm) hZ hs14.1
 have hown : (s.setVm T14.vm).vm.findClass "com/example/upkeep_window/upkeepwindow/policy/OpenNamesHeightPinLaw" = some m.cls := by rw [show (s.setVm T14.vm).vm = T14.vm from rfl, hs14.1.alike.findClass]; exact hown
 have Nf14 := Fr.app N11 N14
 refine Goes.via (fun _ kz => st14.trans kz) ?_
 have O14_ := O11_.keep K14 all0
 have Z14_ := Nat.le_trans Z11_ K14.1
 have V14 := V11.keep K14 nin0
 have Sg0 := Sg0.keep K14 nin0 nin0
 have Sg1 := Sg1.keep K14 nin0 nin0
 have sf2 := Safe.arv (EL := consts_1) hZ.alike V14 (by decide)
 have ne2_0 := Sg0.1.neArv V14 (w_ hw 8 rfl)
 have nv2_0 := own_arr_ne Sg0.2.2.2 V14 (by decide)
 have ne2_1 := Sg1.1.neArv V14 (w_ hw 8 rfl)
 have nv2_1 := own_arr_ne Sg1.2.2.2 V14 (by decide)
 have ne2_2 := Sg2.1.neArv V14 (w_ hw 8 rfl)
 have nv2_2 := own_arr_ne Sg2.2.2.2 V14 (by decide)
 obtain ⟨cl15, Ar15, q15, Sz15, Nn15, Hs15, G15⟩ := (id V14)
 obtain ⟨T16, h16, X16, e16, W16, st16⟩ := stR X14 hx hZ rfl Ar15 (j := (2 : Int32)) (inb_of Sz15 ⟨by decide, by decide⟩) rfl (Sto.ofV Ar15 q15 O1 (Ins.self Sg2.1)) (g := (mkF m 25 #[Vi p1, Vi p2, Vi p3, Vi p4, Vi p5, Vi p6, Vu, Vu, Vu, Vu, Vu, Vu, Vu, Vu] [(.ref sa2), (.int 2), (.ref b1), (.ref b1)])) rfl rfl (hb hby at_25)
 refine Goes.via st16 ?_
 have N16 := Fr.snoc X16 Nf14 gb
 have V16 := Arv.set Ar15 q15 Sz15 Nn15 Hs15 G15 rfl W16 2 rfl (Nat.le_of_ble_eq_true rfl)
 have Sg0 := Sg0.other W16 ne2_0 nv2_0
 have Sg1 := Sg1.other W16 ne2_1 nv2_1
 have Sg2 := Sg2.other W16 ne2_2 nv2_2
 have hC17 := hC14.trans (CHr.wr W16 sf2 hC14.1)
 have hk18 := Nat.le_trans (Nat.le_refl _) (Nat.le_of_eq W16.size.symm)
 have O16_ := O14_.wr W16 gb
 have Z16_ := Nat.le_trans Z14_ (Nat.le_of_eq W16.size.symm)
 refine Goes.via (S' := T16.setTop (mkF m 29 #[Vi p1, Vi p2, Vi p3, Vi p4, Vi p5, Vi p6, Vu, Vu, Vu, Vu, Vu, Vu, Vu, Vu] [(.int p4), (.int 3), (.ref b1), (.ref b1)])) (fun tz kz => ?_) ?_
 ·refine XS.dup X16.here hx rfl (hb hby at_26) rfl rfl ?_
  refine XS.iconst X16.here hx rfl (hb hby at_27) ?_
  refine XS.iloadN X16.here hx rfl (hb hby at_28) rfl ?_
  exact kz
 obtain ⟨_, _, ⟨T19, L19, k19, n19⟩, -, X19, hs19, gs19, ⟨Lc19, hQ19, l19, y19, z19, hc19⟩, st19⟩ := callSS (show Stand p l e _ (s.setVm T14.vm) m _ below meth c _ _ _ _ from X16) hx (y := n_36) hown (mvT hZ (w_ hw 2 rfl)) (mvT hZ (w_ hw 3 rfl)) (mvT hZ (w_ hw 4 rfl)) (mvT hZ (w_ hw 5 rfl)) (by decide) (backOfSH (s := s) (vm0 := T14.vm) (W := 3) (rnm l Z a0 hw p4 cs h16 n0 Z16_ SC hcs O16_) hZ (w_ hw 5 rfl) (w_ hw 4 rfl) (by decide) (by decide) hEL hC17.1) (g := (mkF m 29 #[Vi p1, Vi p2, Vi p3, Vi p4, Vi p5, Vi p6, Vu, Vu, Vu, Vu, Vu, Vu, Vu, Vu] [(.int p4), (.int 3), (.ref b1), (.ref b1)])) rfl (by rw [hml]; rfl) (argsL := [(.int p4)]) (rest := [(.int 3), (.ref b1), (.ref b1)]) (lenOf pd_30 rfl) rfl (ww_ rfl rfl) (hb hby at_29) (fun _ _ => ⟨rfl, e16, (by decide : 10 + 3 ≤ _), (by decide : 42 + 12 ≤ _)⟩)
 dsimp only [Pt.U, Pt.locs, Pt.cells, Pt.slots] at X19 l19 y19 z19 st19 hQ19 hs19 gs19 hc19
 subst l19 y19 z19
 obtain ⟨sa3, va3, ka3, rfl, N19, K19, Sg3⟩ := hQ19
 rw [e16] at gs19
 have hS19 : s.Since T19.vm T19.heap.size := own_fold hS14 hk18 hs19 gs19
 have hC19 := hC17.trans hc19
 have hZ : Z.Warmed39 (s.setVm T19.vm).vm := State.Warmed39.trans (t := s.setVm T14.vm) hZ hs19.1
 have hown : (s.setVm T19.vm).vm.findClass "com/example/upkeep_window/upkeepwindow/policy/OpenNamesHeightPinLaw" = some m.cls := by rw [show (s.setVm T19.vm).vm = T19.vm from rfl, hs19.1.alike.findClass]; exact hown
 have Nf19 := Fr.app N16 N19
 refine Goes.via (fun _ kz => st19.trans kz) ?_
 have O19_ := O16_.keep K19 all0
 have Z19_ := Nat.le_trans Z16_ K19.1
 have V19 := V16.keep K19 nin0
 have Sg0 := Sg0.keep K19 nin0 nin0
 have Sg1 := Sg1.keep K19 nin0 nin0
 have Sg2 := Sg2.keep K19 nin0 nin0
 have sf3 := Safe.arv (EL := consts_1) hZ.alike V19 (by decide)
 have ne3_0 := Sg0.1.neArv V19 (w_ hw 8 rfl)
 have nv3_0 := own_arr_ne Sg0.2.2.2 V19 (by decide)
 have ne3_1 := Sg1.1.neArv V19 (w_ hw 8 rfl)
 have nv3_1 := own_arr_ne Sg1.2.2.2 V19 (by decide)
 have ne3_2 := Sg2.1.neArv V19 (w_ hw 8 rfl)
 have nv3_2 := own_arr_ne Sg2.2.2.2 V19 (by decide)
 have ne3_3 := Sg3.1.neArv V19 (w_ hw 8 rfl)
 have nv3_3 := own_arr_ne Sg3.2.2.2 V19 (by decide)
 obtain ⟨cl20, Ar20, q20, Sz20, Nn20, Hs20, G20⟩ := (id V19)
 obtain ⟨T21, h21, X21, e21, W21, st21⟩ := stR X19 hx hZ rfl Ar20 (j := (3 : Int32)) (inb_of Sz20 ⟨by decide, by decide⟩) rfl (Sto.ofV Ar20 q20 O1 (Ins.self Sg3.1)) (g := (mkF m 32 #[Vi p1, Vi p2, Vi p3, Vi p4, Vi p5, Vi p6, Vu, Vu, Vu, Vu, Vu, Vu, Vu, Vu] [(.ref sa3), (.int 3), (.ref b1), (.ref b1)])) rfl rfl (hb hby at_32)
 refine Goes.via st21 ?_
 have N21 := Fr.snoc X21 Nf19 gb
 have V21 := Arv.set Ar20 q20 Sz20 Nn20 Hs20 G20 rfl W21 3 rfl (Nat.le_of_ble_eq_true rfl)
 have Sg0 := Sg0.other W21 ne3_0 nv3_0
 have Sg1 := Sg1.other W21 ne3_1 nv3_1
 have Sg2 := Sg2.other W21 ne3_2 nv3_2
 have Sg3 := Sg3.other W21 ne3_3 nv3_3
 have hC22 := hC19.trans (CHr.wr W21 sf3 hC19.1)
 have hk23 := Nat.le_trans (Nat.le_refl _) (Nat.le_of_eq W21.size.symm)
 have O21_ := O19_.wr W21 gb
 have Z21_ := Nat.le_trans Z19_ (Nat.le_of_eq W21.size.symm)
 refine Goes.via (S' := T21.setTop (mkF m 37 #[Vi p1, Vi p2, Vi p3, Vi p4, Vi p5, Vi p6, Vu, Vu, Vu, Vu, Vu, Vu, Vu, Vu] [(.int p5), (.int 4), (.ref b1), (.ref b1)])) (fun tz kz => ?_) ?_
 ·refine XS.dup X21.here hx rfl (hb hby at_33) rfl rfl ?_
  refine XS.iconst X21.here hx rfl (hb hby at_34) ?_
  refine XS.iload X21.here hx rfl (hb hby at_35) rfl ?_
  exact kz
 obtain ⟨_, _, ⟨T24, L24, k24, n24⟩, -, X24, hs24, gs24, ⟨Lc24, hQ24, l24, y24, z24, hc24⟩, st24⟩ := callSS (show Stand p l e _ (s.setVm T19.vm) m _ below meth c _ _ _ _ from X21) hx (y := n_36) hown (mvT hZ (w_ hw 2 rfl)) (mvT hZ (w_ hw 3 rfl)) (mvT hZ (w_ hw 4 rfl)) (mvT hZ (w_ hw 5 rfl)) (by decide) (backOfSH (s := s) (vm0 := T19.vm) (W := 3) (rnm l Z a0 hw p5 cs h21 n0 Z21_ SC hcs O21_) hZ (w_ hw 5 rfl) (w_ hw 4 rfl) (by decide) (by decide) hEL hC22.1) (g := (mkF m 37 #[Vi p1, Vi p2, Vi p3, Vi p4, Vi p5, Vi p6, Vu, Vu, Vu, Vu, Vu, Vu, Vu, Vu] [(.int p5), (.int 4), (.ref b1), (.ref b1)])) rfl (by rw [hml]; rfl) (argsL := [(.int p5)]) (rest := [(.int 4), (.ref b1), (.ref b1)]) (lenOf pd_30 rfl) rfl (ww_ rfl rfl) (hb hby at_37) (fun _ _ => ⟨rfl, e21, (by decide : 13 + 3 ≤ _), (by decide : 54 + 12 ≤ _)⟩)
 dsimp only [Pt.U, Pt.locs, Pt.cells, Pt.slots] at X24 l24 y24 z24 st24 hQ24 hs24 gs24 hc24
 subst l24 y24 z24
 obtain ⟨sa4, va4, ka4, rfl, N24, K24, Sg4⟩ := hQ24
 rw [e21] at gs24
 have hS24 : s.Since T24.vm T24.heap.size := own_fold hS19 hk23 hs24 gs24
 have hC24 := hC22.trans hc24
 have hZ : Z.Warmed39 (s.setVm T24.vm).vm := State.Warmed39.trans (t := s.setVm T19.vm) hZ hs24.1
 have hown : (s.setVm T24.vm).vm.findClass "com/example/upkeep_window/upkeepwindow/policy/OpenNamesHeightPinLaw" = some m.cls := by rw [show (s.setVm T24.vm).vm = T24.vm from rfl, hs24.1.alike.findClass]; exact hown
 have Nf24 := Fr.app N21 N24
 refine Goes.via (fun _ kz => st24.trans kz) ?_
 have O24_ := O21_.keep K24 all0
 have Z24_ := Nat.le_trans Z21_ K24.1
 have V24 := V21.keep K24 nin0
 have Sg0 := Sg0.keep K24 nin0 nin0
 have Sg1 := Sg1.keep K24 nin0 nin0
 have Sg2 := Sg2.keep K24 nin0 nin0
 have Sg3 := Sg3.keep K24 nin0 nin0
 have sf4 := Safe.arv (EL := consts_1) hZ.alike V24 (by decide)
 have ne4_0 := Sg0.1.neArv V24 (w_ hw 8 rfl)
 have nv4_0 := own_arr_ne Sg0.2.2.2 V24 (by decide)
 have ne4_1 := Sg1.1.neArv V24 (w_ hw 8 rfl)
 have nv4_1 := own_arr_ne Sg1.2.2.2 V24 (by decide)
 have ne4_2 := Sg2.1.neArv V24 (w_ hw 8 rfl)
 have nv4_2 := own_arr_ne Sg2.2.2.2 V24 (by decide)
 have ne4_3 := Sg3.1.neArv V24 (w_ hw 8 rfl)
 have nv4_3 := own_arr_ne Sg3.2.2.2 V24 (by decide)
 have ne4_4 := Sg4.1.neArv V24 (w_ hw 8 rfl)
 have nv4_4 := own_arr_ne Sg4.2.2.2 V24 (by decide)
 obtain ⟨cl25, Ar25, q25, Sz25, Nn25, Hs25, G25⟩ := (id V24)
 obtain ⟨T26, h26, X26, e26, W26, st26⟩ := stR X24 hx hZ rfl Ar25 (j := (4 : Int32)) (inb_of Sz25 ⟨by decide, by decide⟩) rfl (Sto.ofV Ar25 q25 O1 (Ins.self Sg4.1)) (g := (mkF m 40 #[Vi p1, Vi p2, Vi p3, Vi p4, Vi p5, Vi p6, Vu, Vu, Vu, Vu, Vu, Vu, Vu, Vu] [(.ref sa4), (.int 4), (.ref b1), (.ref b1)])) rfl rfl (hb hby at_40)
 refine Goes.via st26 ?_
 have N26 := Fr.snoc X26 Nf24 gb
 have V26 := Arv.set Ar25 q25 Sz25 Nn25 Hs25 G25 rfl W26 4 rfl (Nat.le_of_ble_eq_true rfl)
 have Sg0 := Sg0.other W26 ne4_0 nv4_0
 have Sg1 := Sg1.other W26 ne4_1 nv4_1
 have Sg2 := Sg2.other W26 ne4_2 nv4_2
 have Sg3 := Sg3.other W26 ne4_3 nv4_3
 have Sg4 := Sg4.other W26 ne4_4 nv4_4
 have hC27 := hC24.trans (CHr.wr W26 sf4 hC24.1)
 have hk28 := Nat.le_trans (Nat.le_refl _) (Nat.le_of_eq W26.size.symm)
 have O26_ := O24_.wr W26 gb
 have Z26_ := Nat.le_trans Z24_ (Nat.le_of_eq W26.size.symm)
 refine Goes.via (S' := T26.setTop (mkF m 45 #[Vi p1, Vi p2, Vi p3, Vi p4, Vi p5, Vi p6, Vu, Vu, Vu, Vu, Vu, Vu, Vu, Vu] [(.int p6), (.int 5), (.ref b1), (.ref b1)])) (fun tz kz => ?_) ?_
 ·refine XS.dup X26.here hx rfl (hb hby at_41) rfl rfl ?_
  refine XS.iconst X26.here hx rfl (hb hby at_42) ?_
  refine XS.iload X26.here hx rfl (hb hby at_43) rfl ?_
  exact kz
 obtain ⟨_, _, ⟨T29, L29, k29, n29⟩, -, X29, hs29, gs29, ⟨Lc29, hQ29, l29, y29, z29, hc29⟩, st29⟩ := callSS (show Stand p l e _ (s.setVm T24.vm) m _ below meth c _ _ _ _ from X26) hx (y := n_36) hown (mvT hZ (w_ hw 2 rfl)) (mvT hZ (w_ hw 3 rfl)) (mvT hZ (w_ hw 4 rfl)) (mvT hZ (w_ hw 5 rfl)) (by decide) (backOfSH (s := s) (vm0 := T24.vm) (W := 3) (rnm l Z a0 hw p6 cs h26 n0 Z26_ SC hcs O26_) hZ (w_ hw 5 rfl) (w_ hw 4 rfl) (by decide) (by decide) hEL hC27.1) (g := (mkF m 45 #[Vi p1, Vi p2, Vi p3, Vi p4, Vi p5, Vi p6, Vu, Vu, Vu, Vu, Vu, Vu, Vu, Vu] [(.int p6), (.int 5), (.ref b1), (.ref b1)])) rfl (by rw [hml]; rfl) (argsL := [(.int p6)]) (rest := [(.int 5), (.ref b1), (.ref b1)]) (lenOf pd_30 rfl) rfl (ww_ rfl rfl) (hb hby at_45) (fun _ _ => ⟨rfl, e26, (by decide : 16 + 3 ≤ _), (by decide : 66 + 12 ≤ _)⟩)
 dsimp only [Pt.U, Pt.locs, Pt.cells, Pt.slots] at X29 l29 y29 z29 st29 hQ29 hs29 gs29 hc29
 subst l29 y29 z29
 obtain ⟨sa5, va5, ka5, rfl, N29, K29, Sg5⟩ := hQ29
 rw [e26] at gs29
 have hS29 : s.Since T29.vm T29.heap.size := own_fold hS24 hk28 hs29 gs29
 have hC29 := hC27.trans hc29
 have hZ : Z.Warmed39 (s.setVm T29.vm).vm := State.Warmed39.trans (t := s.setVm T24.vm) hZ hs29.1
 have hown : (s.setVm T29.vm).vm.findClass "com/example/upkeep_window/upkeepwindow/policy/OpenNamesHeightPinLaw" = some m.cls := by rw [show (s.setVm T29.vm).vm = T29.vm from rfl, hs29.1.alike.findClass]; exact hown
 have Nf29 := Fr.app N26 N29
 refine Goes.via (fun _ kz => st29.trans kz) ?_
 have O29_ := O26_.keep K29 all0
 have Z29_ := Nat.le_trans Z26_ K29.1
 have V29 := V26.keep K29 nin0
 have Sg0 := Sg0.keep K29 nin0 nin0
 have Sg1 := Sg1.keep K29 nin0 nin0
 have Sg2 := Sg2.keep K29 nin0 nin0
 have Sg3 := Sg3.keep K29 nin0 nin0
 have Sg4 := Sg4.keep K29 nin0 nin0
 have sf5 := Safe.arv (EL := consts_1) hZ.alike V29 (by decide)
 have ne5_0 := Sg0.1.neArv V29 (w_ hw 8 rfl)
 have nv5_0 := own_arr_ne Sg0.2.2.2 V29 (by decide)
 have ne5_1 := Sg1.1.neArv V29 (w_ hw 8 rfl)
 have nv5_1 := own_arr_ne Sg1.2.2.2 V29 (by decide)
 have ne5_2 := Sg2.1.neArv V29 (w_ hw 8 rfl)
 have nv5_2 := own_arr_ne Sg2.2.2.2 V29 (by decide)
 have ne5_3 := Sg3.1.neArv V29 (w_ hw 8 rfl)
 have nv5_3 := own_arr_ne Sg3.2.2.2 V29 (by decide)
 have ne5_4 := Sg4.1.neArv V29 (w_ hw 8 rfl)
 have nv5_4 := own_arr_ne Sg4.2.2.2 V29 (by decide)
 have ne5_5 := Sg5.1.neArv V29 (w_ hw 8 rfl)
 have nv5_5 := own_arr_ne Sg5.2.2.2 V29 (by decide)
 obtain ⟨cl30, Ar30, q30, Sz30, Nn30, Hs30, G30⟩ := (id V29)
 obtain ⟨T31, h31, X31, e31, W31, st31⟩ := stR X29 hx hZ rfl Ar30 (j := (5 : Int32)) (inb_of Sz30 ⟨by decide, by decide⟩) rfl (Sto.ofV Ar30 q30 O1 (Ins.self Sg5.1)) (g := (mkF m 48 #[Vi p1, Vi p2, Vi p3, Vi p4, Vi p5, Vi p6, Vu, Vu, Vu, Vu, Vu, Vu, Vu, Vu] [(.ref sa5), (.int 5), (.ref b1), (.ref b1)])) rfl rfl (hb hby at_48)
 refine Goes.via st31 ?_
 have N31 := Fr.snoc X31 Nf29 gb
 have V31 := Arv.set Ar30 q30 Sz30 Nn30 Hs30 G30 rfl W31 5 rfl (Nat.le_of_ble_eq_true rfl)
 have Sg0 := Sg0.other W31 ne5_0 nv5_0
 have Sg1 := Sg1.other W31 ne5_1 nv5_1
 have Sg2 := Sg2.other W31 ne5_2 nv5_2
 have Sg3 := Sg3.other W31 ne5_3 nv5_3
 have Sg4 := Sg4.other W31 ne5_4 nv5_4
 have Sg5 := Sg5.other W31 ne5_5 nv5_5
 have hC32 := hC29.trans (CHr.wr W31 sf5 hC29.1)
 have hk33 := Nat.le_trans (Nat.le_refl _) (Nat.le_of_eq W31.size.symm)
 have O31_ := O29_.wr W31 gb
 have Z31_ := Nat.le_trans Z29_ (Nat.le_of_eq W31.size.symm)
 refine Goes.via (S' := T31.setTop (mkF m 60 #[Vi p1, Vi p2, Vi p3, Vi p4, Vi p5, Vi p6, Vr b1, Vu, Vu, Vu, Vu, Vu, Vu, Vu] [(.int 6), (.int (((p1.toUInt32 >>> ((26 : Int32) &&& 31).toUInt32).toInt32) &&& (7 : Int32)))])) (fun tz kz => ?_) ?_
 ·refine XS.astore X31.here hx rfl (hb hby at_49) rfl rfl (l' := #[Vi p1, Vi p2, Vi p3, Vi p4, Vi p5, Vi p6, Vr b1, Vu, Vu, Vu, Vu, Vu, Vu, Vu]) rfl ?_
  refine XS.iloadN X31.here hx rfl (hb hby at_51) rfl ?_
  refine XS.bipush X31.here hx rfl (hb hby at_52) ?_
  refine XS.iushr X31.here hx rfl (hb hby at_54) rfl ?_
  refine XS.bipush X31.here hx rfl (hb hby at_55) ?_
  refine XS.iand X31.here hx rfl (hb hby at_57) rfl ?_
  refine XS.bipush X31.here hx rfl (hb hby at_58) ?_
  exact kz
 obtain ⟨_, _, ⟨T34, L34, k34, n34⟩, -, X34, ⟨Lc34, hQ34, l34, y34, z34⟩, st34⟩ := Jvm.LawKit.callS X31 hx (y := n_9) hown (mvT hZ (w_ hw 52 rfl)) (mvT hZ (w_ hw 53 rfl)) (mvT hZ (w_ hw 54 rfl)) (mvT hZ (w_ hw 55 rfl)) (by decide) (backOf (W := 0) (rmi l Z a0 hw [] (((p1.toUInt32 >>> ((26 : Int32) &&& 31).toUInt32).toInt32) &&& (7 : Int32)) (6 : Int32) h31 n0 Z31_) hZ (w_ hw 55 rfl) (w_ hw 54 rfl) (by decide) (by decide)) (g := (mkF m 60 #[Vi p1, Vi p2, Vi p3, Vi p4, Vi p5, Vi p6, Vr b1, Vu, Vu, Vu, Vu, Vu, Vu, Vu] [(.int 6), (.int (((p1.toUInt32 >>> ((26 : Int32) &&& 31).toUInt32).toInt32) &&& (7 : Int32)))])) rfl (by rw [hml]; rfl) (argsL := [(.int (((p1.toUInt32 >>> ((26 : Int32) &&& 31).toUInt32).toInt32) &&& (7 : Int32))), (.int 6)]) (rest := []) (lenOf pd_1 rfl) rfl (ww_ rfl rfl) (hb hby at_60) (fun _ _ => ⟨rfl, e31, (by decide : 19 + 0 ≤ _), (by decide : 78 + 0 ≤ _)⟩)
 dsimp only [Pt.U, Pt.locs, Pt.cells, Pt.slots] at X34 l34 y34 z34 st34 hQ34
 subst l34 y34 z34
 obtain ⟨rfl, N34, e34⟩ := hQ34
 have Nf34 := Fr.app N31 N34
 refine Goes.via (st34) ?_
 obtain ⟨kN, hkN, k6⟩ := own_mi6 ((p1.toUInt32 >>> ((26 : Int32) &&& 31).toUInt32).toInt32)
 generalize own_mi (((p1.toUInt32 >>> ((26 : Int32) &&& 31).toUInt32).toInt32) &&& (7 : Int32)) (6 : Int32) = kI at hkN ⊢
 refine Goes.via (S' := T34.setTop (mkF m 74 #[Vi p1, Vi p2, Vi p3, Vi p4, Vi p5, Vi p6, Vr b1, Vi kI, Vu, Vu, Vu, Vu, Vu, Vu] [(.int kI), (.int (((p1.toUInt32 >>> ((29 : Int32) &&& 31).toUInt32).toInt32) &&& (7 : Int32)))])) (fun tz kz => ?_) ?_
 ·refine XS.istore X34.here hx rfl (hb hby at_63) rfl (l' := #[Vi p1, Vi p2, Vi p3, Vi p4, Vi p5, Vi p6, Vr b1, Vi kI, Vu, Vu, Vu, Vu, Vu, Vu]) rfl ?_
  refine XS.iloadN X34.here hx rfl (hb hby at_65) rfl ?_
  refine XS.bipush X34.here hx rfl (hb hby at_66) ?_
  refine XS.iushr X34.here hx rfl (hb hby at_68) rfl ?_
  refine XS.bipush X34.here hx rfl (hb hby at_69) ?_
  refine XS.iand X34.here hx rfl (hb hby at_71) rfl ?_
  refine XS.iload X34.here hx rfl (hb hby at_72) rfl ?_
  exact kz
 obtain ⟨_, _, ⟨T35, L35, k35, n35⟩, -, X35, ⟨Lc35, hQ35, l35, y35, z35⟩, st35⟩ := Jvm.LawKit.callS X34 hx (y := n_9) hown (mvT hZ (w_ hw 52 rfl)) (mvT hZ (w_ hw 53 rfl)) (mvT hZ (w_ hw 54 rfl)) (mvT hZ (w_ hw 55 rfl)) (by decide) (backOf (W := 0) (rmi l Z a0 hw [] (((p1.toUInt32 >>> ((29 : Int32) &&& 31).toUInt32).toInt32) &&& (7 : Int32)) kI h31 n0 Z31_) hZ (w_ hw 55 rfl) (w_ hw 54 rfl) (by decide) (by decide)) (g := (mkF m 74 #[Vi p1, Vi p2, Vi p3, Vi p4, Vi p5, Vi p6, Vr b1, Vi kI, Vu, Vu, Vu, Vu, Vu, Vu] [(.int kI), (.int (((p1.toUInt32 >>> ((29 : Int32) &&& 31).toUInt32).toInt32) &&& (7 : Int32)))])) rfl (by rw [hml]; rfl) (argsL := [(.int (((p1.toUInt32 >>> ((29 : Int32) &&& 31).toUInt32).toInt32) &&& (7 : Int32))), (.int kI)]) (rest := []) (lenOf pd_1 rfl) rfl (ww_ rfl rfl) (hb hby at_74) (fun _ _ => ⟨rfl, e34, (by decide : 19 + 0 ≤ _), (by decide : 78 + 0 ≤ _)⟩)
 dsimp only [Pt.U, Pt.locs, Pt.cells, Pt.slots] at X35 l35 y35 z35 st35 hQ35
 subst l35 y35 z35
 obtain ⟨rfl, N35, e35⟩ := hQ35
 have Nf35 := Fr.app Nf34 N35
 refine Goes.via (st35) ?_
 obtain ⟨jN, hjN, jk⟩ := own_mij ((p1.toUInt32 >>> ((29 : Int32) &&& 31).toUInt32).toInt32) hkN
 generalize own_mi (((p1.toUInt32 >>> ((29 : Int32) &&& 31).toUInt32).toInt32) &&& (7 : Int32)) kI = jI at hjN ⊢
 refine Goes.via (S' := T35.setTop (mkF m 79 #[Vi p1, Vi p2, Vi p3, Vi p4, Vi p5, Vi p6, Vr b1, Vi kI, Vi jI, Vu, Vu, Vu, Vu, Vu] [])) (fun tz kz => ?_) ?_
 ·refine XS.istore X35.here hx rfl (hb hby at_77) rfl (l' := #[Vi p1, Vi p2, Vi p3, Vi p4, Vi p5, Vi p6, Vr b1, Vi kI, Vi jI, Vu, Vu, Vu, Vu, Vu]) rfl ?_
  exact kz
 obtain ⟨sa, hsa⟩ : ∃ z, z = (own_sl sa0 sa1 sa2 sa3 sa4 sa5) := ⟨_, rfl⟩
 obtain ⟨va, hva⟩ : ∃ z, z = (own_sl va0 va1 va2 va3 va4 va5) := ⟨_, rfl⟩
 obtain ⟨ka, hka⟩ : ∃ z, z = (own_sl ka0 ka1 ka2 ka3 ka4 ka5) := ⟨_, rfl⟩
 obtain ⟨pp, hpp⟩ : ∃ z, z = (own_sl p1 p2 p3 p4 p5 p6) := ⟨_, rfl⟩
 have A6 : own_A6 Z h31 b1 sa := by rw [hsa]; exact own_A6.of V31
 have ST : own_ST Z h31 sa va ka pp := by rw [hsa, hva, hka, hpp]; exact own_six Sg0 Sg1 Sg2 Sg3 Sg4 Sg5
 have lb := A6.lt
 have lS : ∀ i, i < 6 → sa i < (h31).size ∧ va i < (h31).size := fun i hi => (ST i hi).lt
 obtain ⟨T36, h36, X36, e36, E36, A36, D36, U36, st36⟩ := newO X35 hx hZ hown (w_ hw 56 rfl) (w_ hw 57 rfl) (w_ hw 58 rfl) e35 (g := (mkF m 79 #[Vi p1, Vi p2, Vi p3, Vi p4, Vi p5, Vi p6, Vr b1, Vi kI, Vi jI, Vu, Vu, Vu, Vu, Vu] [])) rfl (hb hby at_79) (by decide) (by decide)
 obtain ⟨b36, g36⟩ : ∃ z, z = h31.size := ⟨_, rfl⟩
 rw [← g36] at A36 D36 U36 st36
 refine Goes.via st36 ?_
 have F0 : Fld Z h36 b36 "com/example/upkeep_window/upkeepwindow/policy/OpenNames" "chars" "[C" .null := D36 (Or.inl (w_ hw 64 rfl)) (ty := (.array .char)) (by decide)
 have F1 : Fld Z h36 b36 "com/example/upkeep_window/upkeepwindow/policy/OpenNames" "ends" "[I" .null := D36 (Or.inl (w_ hw 67 rfl)) (ty := (.array .int)) (by decide)
 have F2 : Fld Z h36 b36 "com/example/upkeep_window/upkeepwindow/policy/OpenNames" "lefts" "[I" .null := D36 (Or.inl (w_ hw 69 rfl)) (ty := (.array .int)) (by decide)
 have F3 : Fld Z h36 b36 "com/example/upkeep_window/upkeepwindow/policy/OpenNames" "rights" "[I" .null := D36 (Or.inl (w_ hw 71 rfl)) (ty := (.array .int)) (by decide)
 have F4 : Fld Z h36 b36 "com/example/upkeep_window/upkeepwindow/policy/OpenNames" "heights" "[B" .null := D36 (Or.inl (w_ hw 73 rfl)) (ty := (.array .byte)) (by decide)
 have F5 : Fld Z h36 b36 "com/example/upkeep_window/upkeepwindow/policy/OpenNames" "firsts" "[I" .null := D36 (Or.inl (w_ hw 75 rfl)) (ty := (.array .int)) (by decide)
 have F6 : Fld Z h36 b36 "com/example/upkeep_window/upkeepwindow/policy/OpenNames" "roots" "[I" .null := D36 (Or.inl (w_ hw 77 rfl)) (ty := (.array .int)) (by decide)
 have F7 : Fld Z h36 b36 "com/example/upkeep_window/upkeepwindow/policy/OpenNames" "objects" "I" (.int 0) := D36 (Or.inl (w_ hw 84 rfl)) (ty := .int) (by decide)
 have F8 : Fld Z h36 b36 "com/example/upkeep_window/upkeepwindow/policy/OpenNames" "names" "I" (.int 0) := D36 (Or.inl (w_ hw 86 rfl)) (ty := .int) (by decide)
 have Om := O31_.ext E36
 have Zm := Nat.le_trans Z31_ E36.1
 have gm : n0 ≤ b36 := Nat.le_trans Z31_ (Nat.le_of_eq g36.symm)
 have Km := (Keep.refl h31 []).ext E36
 refine Goes.via (S' := T36.setTop (mkF m 83 #[Vi p1, Vi p2, Vi p3, Vi p4, Vi p5, Vi p6, Vr b1, Vi kI, Vi jI, Vu, Vu, Vu, Vu, Vu] [(.ref b36), (.ref b36)])) (fun tz kz => ?_) ?_
 ·refine XS.dup X36.here hx rfl (hb hby at_82) rfl rfl ?_
  exact kz
 obtain ⟨_, _, ⟨T37, L37, k37, n37⟩, -, X37, ⟨Lc37, hQ37, l37, y37, z37⟩, st37⟩ := X36.specialBack hx (y := n_44) rfl hown (mvT hZ (w_ hw 59 rfl)) (mvT hZ (w_ hw 60 rfl)) (mvT hZ (w_ hw 61 rfl)) (by decide) (backOf (W := 1) (rin l Z a0 hw [] b36 h36 n0 Zm F0 F1 F2 F3 F4 F5 F6 F7 F8 A36 gm) hZ (w_ hw 61 rfl) (w_ hw 58 rfl) (by decide) (by decide)) (g := (mkF m 83 #[Vi p1, Vi p2, Vi p3, Vi p4, Vi p5, Vi p6, Vr b1, Vi kI, Vi jI, Vu, Vu, Vu, Vu, Vu] [(.ref b36), (.ref b36)])) rfl (by rw [hml]; rfl) (Steps.refl _) (a := b36) (argsL := []) (rest := [(.ref b36)]) (lenOf pd_29 rfl) rfl (ww_ rfl rfl) (hb hby at_83) (fun _ _ => ⟨rfl, e36, (by decide : 20 + 7 ≤ _), (by decide : 87 + 160 ≤ _)⟩)
 dsimp only [Pt.U, Pt.locs, Pt.cells, Pt.slots] at X37 l37 y37 z37 st37 hQ37
 subst l37 y37 z37
 obtain ⟨A, rfl, hA0, N37, K37, P0, gA⟩ := hQ37
 have Nf37 := Fr.app Nf35 N37
 refine Goes.via (fun _ kz => st37.trans kz) ?_
 have gW : ∀ x ∈ own_ws A, @LE.le Nat _ (h31).size x := own_wsge (by rw [hA0]; exact Nat.le_of_eq g36.symm) gA E36.1
 have gW0 : ∀ x ∈ own_ws A, n0 ≤ x := P0.ge
 have nbw : b1 ∉ own_ws A := own_nws gW lb
 have vw : ∀ i, i < 6 → sa i ∉ own_ws A ∧ va i ∉ own_ws A := fun i hi => ⟨own_nws gW (lS i hi).1, own_nws gW (lS i hi).2⟩
 have Kb := Km.trans K37 (allS (Or.inr (Nat.le_of_eq g36.symm)) all0)
 have A6 := A6.keep Kb nin0
 have ST := ST.keep Kb (fun _ _ => ⟨nin0, nin0⟩)
 have Ob := Om.keep K37 (allS gm all0)
 have Zb := Nat.le_trans Zm K37.1
 subst hA0
 refine Goes.via (S' := T37.setTop (mkF m 90 #[Vi p1, Vi p2, Vi p3, Vi p4, Vi p5, Vi p6, Vr b1, Vi kI, Vi jI, Vr (A 0), Vu, Vu, Vu, Vu] [(.ref (A 0))])) (fun tz kz => ?_) ?_
 ·refine XS.astore X37.here hx rfl (hb hby at_86) rfl rfl (l' := #[Vi p1, Vi p2, Vi p3, Vi p4, Vi p5, Vi p6, Vr b1, Vi kI, Vi jI, Vr (A 0), Vu, Vu, Vu, Vu]) rfl ?_
  refine XS.aload X37.here hx rfl (hb hby at_88) rfl rfl ?_
  exact kz
 obtain ⟨cq38, kq38, q38a, q38b, q38c⟩ := isOf hZ rfl P0.1
 obtain ⟨_, _, ⟨T38, L38, k38, n38⟩, -, X38, ⟨Lc38, hQ38, l38, y38, z38⟩, st38⟩ := X37.virtualBack hx (y := n_5) (z := n_5) hown (mvT hZ (w_ hw 78 rfl)) (mvT hZ (w_ hw 79 rfl)) (notFace_of_selects (args := #[]) (mvT hZ (w_ hw 81 rfl))) (mvT hZ (w_ hw 81 rfl)) (mvT hZ (w_ hw 80 rfl)) (by decide) (backOf (W := 0) (rop l Z a0 hw [] A (fun _ _ => 0) (0 : Int32) (0 : Int32) 0 T37.heap n0 (Nat.le_trans Zb (Keep.refl T37.heap (own_ws A)).1) P0 own_I0 (by decide)) hZ (w_ hw 82 rfl) (w_ hw 58 rfl) (by decide) (by decide)) q38a q38c (g := (mkF m 90 #[Vi p1, Vi p2, Vi p3, Vi p4, Vi p5, Vi p6, Vr b1, Vi kI, Vi jI, Vr (A 0), Vu, Vu, Vu, Vu] [(.ref (A 0))])) rfl (by rw [hml]; rfl) (Steps.refl _) (argsL := []) (rest := []) (lenOf pd_29 rfl) rfl (ww_ rfl rfl) (hb hby at_90) (fun _ _ => ⟨rfl, rfl, (by decide : 27 + 0 ≤ _), (by decide : 247 + 0 ≤ _)⟩)
 dsimp only [Pt.U, Pt.locs, Pt.cells, Pt.slots] at X38 l38 y38 z38 st38 hQ38
 subst l38 y38 z38
 obtain ⟨rfl, N38, K38, P38⟩ := hQ38
 have Nf38 := Fr.app Nf37 N38
 refine Goes.via (fun _ kz => st38.trans kz) ?_
 obtain ⟨f0_, hf0⟩ : ∃ z, z = (own_fu (own_fu (fun _ _ => (0 : Int32)) 6 0 0) 7 0 (-1)) := ⟨_, rfl⟩
 have Q38 : own_ON Z n0 T38.heap A f0_ (1 : Int32) (0 : Int32) := by rw [hf0]; exact P38
 have J0_ : own_J f0_ (1 : Int32) (0 : Int32) (own_Ks pp) jN kN 0 := Or.inl ⟨Nat.zero_le _, by rw [hf0]; exact own_JA.start⟩
 have I38 := ((Keep.refl T37.heap (own_ws A))).trans K38 (fun _ q => Or.inl q)
 refine Goes.via (S' := T38.setTop (mkF m 102 #[Vi p1, Vi p2, Vi p3, Vi p4, Vi p5, Vi p6, Vr b1, Vi kI, Vi jI, Vr (A 0), Vu, Vu, Vu, Vu] [(.int kI), (.int jI), (.int 0), (.ref b1), (.ref (A 0))])) (fun tz kz => ?_) ?_
 ·refine XS.aload X38.here hx rfl (hb hby at_93) rfl rfl ?_
  refine XS.aload X38.here hx rfl (hb hby at_95) rfl rfl ?_
  refine XS.iconst X38.here hx rfl (hb hby at_97) ?_
  refine XS.iload X38.here hx rfl (hb hby at_98) rfl ?_
  refine XS.iload X38.here hx rfl (hb hby at_100) rfl ?_
  exact kz
 obtain ⟨_, _, ⟨T39, L39, k39, n39⟩, -, X39, ⟨Lc39, hQ39, l39, y39, z39⟩, st39⟩ := Jvm.LawKit.callS X38 hx (y := n_43) hown (mvT hZ (w_ hw 87 rfl)) (mvT hZ (w_ hw 88 rfl)) (mvT hZ (w_ hw 4 rfl)) (mvT hZ (w_ hw 89 rfl)) (by decide) (backOf (W := 0) (rsp l Z a0 hw [] b1 (0 : Int32) jI kI A f0_ (1 : Int32) (0 : Int32) 0 jN kN sa va ka pp cs fv T38.heap n0 (Nat.le_trans Zb I38.1) Q38 own_I0 hjN hkN (by decide) jk SC hcs (Ob.keep I38 gW0) SF hfv (A6.keep I38 nbw) (ST.keep I38 vw) nbw vw J0_) hZ (w_ hw 89 rfl) (w_ hw 4 rfl) (by decide) (by decide)) (g := (mkF m 102 #[Vi p1, Vi p2, Vi p3, Vi p4, Vi p5, Vi p6, Vr b1, Vi kI, Vi jI, Vr (A 0), Vu, Vu, Vu, Vu] [(.int kI), (.int jI), (.int 0), (.ref b1), (.ref (A 0))])) rfl (by rw [hml]; rfl) (argsL := [(.ref (A 0)), (.ref b1), (.int 0), (.int jI), (.int kI)]) (rest := []) (lenOf pd_31 rfl) rfl (ww_ rfl rfl) (hb hby at_102) (fun _ _ => ⟨rfl, rfl, (by decide : 27 + 0 ≤ _), (by decide : 247 + 0 ≤ _)⟩)
 dsimp only [Pt.U, Pt.locs, Pt.cells, Pt.slots] at X39 l39 y39 z39 st39 hQ39
 subst l39 y39 z39
 obtain ⟨f39, ob39, nm39, rfl, N39, K39, P39, J39⟩ := hQ39
 have Nf39 := Fr.app Nf38 N39
 refine Goes.via (st39) ?_
 have I39 := (I38).trans K39 (fun _ q => Or.inl q)
 refine Goes.via (S' := T39.setTop (mkF m 114 #[Vi p1, Vi p2, Vi p3, Vi p4, Vi p5, Vi p6, Vr b1, Vi kI, Vi jI, Vr (A 0), Vu, Vu, Vu, Vu] [(.int kI), (.int jI), (.int 1), (.ref b1), (.ref (A 0))])) (fun tz kz => ?_) ?_
 ·refine XS.aload X39.here hx rfl (hb hby at_105) rfl rfl ?_
  refine XS.aload X39.here hx rfl (hb hby at_107) rfl rfl ?_
  refine XS.iconst X39.here hx rfl (hb hby at_109) ?_
  refine XS.iload X39.here hx rfl (hb hby at_110) rfl ?_
  refine XS.iload X39.here hx rfl (hb hby at_112) rfl ?_
  exact kz
 obtain ⟨_, _, ⟨T40, L40, k40, n40⟩, -, X40, ⟨Lc40, hQ40, l40, y40, z40⟩, st40⟩ := Jvm.LawKit.callS X39 hx (y := n_43) hown (mvT hZ (w_ hw 87 rfl)) (mvT hZ (w_ hw 88 rfl)) (mvT hZ (w_ hw 4 rfl)) (mvT hZ (w_ hw 89 rfl)) (by decide) (backOf (W := 0) (rsp l Z a0 hw [] b1 (1 : Int32) jI kI A f39 ob39 nm39 1 jN kN sa va ka pp cs fv T39.heap n0 (Nat.le_trans Zb I39.1) P39 own_I1 hjN hkN (by decide) jk SC hcs (Ob.keep I39 gW0) SF hfv (A6.keep I39 nbw) (ST.keep I39 vw) nbw vw J39) hZ (w_ hw 89 rfl) (w_ hw 4 rfl) (by decide) (by decide)) (g := (mkF m 114 #[Vi p1, Vi p2, Vi p3, Vi p4, Vi p5, Vi p6, Vr b1, Vi kI, Vi jI, Vr (A 0), Vu, Vu, Vu, Vu] [(.int kI), (.int jI), (.int 1), (.ref b1), (.ref (A 0))])) rfl (by rw [hml]; rfl) (argsL := [(.ref (A 0)), (.ref b1), (.int 1), (.int jI), (.int kI)]) (rest := []) (lenOf pd_31 rfl) rfl (ww_ rfl rfl) (hb hby at_114) (fun _ _ => ⟨rfl, rfl, (by decide : 27 + 0 ≤ _), (by decide : 247 + 0 ≤ _)⟩)
 dsimp only [Pt.U, Pt.locs, Pt.cells, Pt.slots] at X40 l40 y40 z40 st40 hQ40
 subst l40 y40 z40
 obtain ⟨f40, ob40, nm40, rfl, N40, K40, P40, J40⟩ := hQ40
 have Nf40 := Fr.app Nf39 N40
 refine Goes.via (st40) ?_
 have I40 := (I39).trans K40 (fun _ q => Or.inl q)
 refine Goes.via (S' := T40.setTop (mkF m 126 #[Vi p1, Vi p2, Vi p3, Vi p4, Vi p5, Vi p6, Vr b1, Vi kI, Vi jI, Vr (A 0), Vu, Vu, Vu, Vu] [(.int kI), (.int jI), (.int 2), (.ref b1), (.ref (A 0))])) (fun tz kz => ?_) ?_
 ·refine XS.aload X40.here hx rfl (hb hby at_117) rfl rfl ?_
  refine XS.aload X40.here hx rfl (hb hby at_119) rfl rfl ?_
  refine XS.iconst X40.here hx rfl (hb hby at_121) ?_
  refine XS.iload X40.here hx rfl (hb hby at_122) rfl ?_
  refine XS.iload X40.here hx rfl (hb hby at_124) rfl ?_
  exact kz
 obtain ⟨_, _, ⟨T41, L41, k41, n41⟩, -, X41, ⟨Lc41, hQ41, l41, y41, z41⟩, st41⟩ := Jvm.LawKit.callS X40 hx (y := n_43) hown (mvT hZ (w_ hw 87 rfl)) (mvT hZ (w_ hw 88 rfl)) (mvT hZ (w_ hw 4 rfl)) (mvT hZ (w_ hw 89 rfl)) (by decide) (backOf (W := 0) (rsp l Z a0 hw [] b1 (2 : Int32) jI kI A f40 ob40 nm40 2 jN kN sa va ka pp cs fv T40.heap n0 (Nat.le_trans Zb I40.1) P40 own_I2 hjN hkN (by decide) jk SC hcs (Ob.keep I40 gW0) SF hfv (A6.keep I40 nbw) (ST.keep I40 vw) nbw vw J40) hZ (w_ hw 89 rfl) (w_ hw 4 rfl) (by decide) (by decide)) (g := (mkF m 126 #[Vi p1, Vi p2, Vi p3, Vi p4, Vi p5, Vi p6, Vr b1, Vi kI, Vi jI, Vr (A 0), Vu, Vu, Vu, Vu] [(.int kI), (.int jI), (.int 2), (.ref b1), (.ref (A 0))])) rfl (by rw [hml]; rfl) (argsL := [(.ref (A 0)), (.ref b1), (.int 2), (.int jI), (.int kI)]) (rest := []) (lenOf pd_31 rfl) rfl (ww_ rfl rfl) (hb hby at_126) (fun _ _ => ⟨rfl, rfl, (by decide : 27 + 0 ≤ _), (by decide : 247 + 0 ≤ _)⟩)
 dsimp only [Pt.U, Pt.locs, Pt.cells, Pt.slots] at X41 l41 y41 z41 st41 hQ41
 subst l41 y41 z41
 obtain ⟨f41, ob41, nm41, rfl, N41, K41, P41, J41⟩ := hQ41
 have Nf41 := Fr.app Nf40 N41
 refine Goes.via (st41) ?_
 have I41 := (I40).trans K41 (fun _ q => Or.inl q)
 refine Goes.via (S' := T41.setTop (mkF m 138 #[Vi p1, Vi p2, Vi p3, Vi p4, Vi p5, Vi p6, Vr b1, Vi kI, Vi jI, Vr (A 0), Vu, Vu, Vu, Vu] [(.int kI), (.int jI), (.int 3), (.ref b1), (.ref (A 0))])) (fun tz kz => ?_) ?_
 ·refine XS.aload X41.here hx rfl (hb hby at_129) rfl rfl ?_
  refine XS.aload X41.here hx rfl (hb hby at_131) rfl rfl ?_
  refine XS.iconst X41.here hx rfl (hb hby at_133) ?_
  refine XS.iload X41.here hx rfl (hb hby at_134) rfl ?_
  refine XS.iload X41.here hx rfl (hb hby at_136) rfl ?_
  exact kz
 obtain ⟨_, _, ⟨T42, L42, k42, n42⟩, -, X42, ⟨Lc42, hQ42, l42, y42, z42⟩, st42⟩ := Jvm.LawKit.callS X41 hx (y := n_43) hown (mvT hZ (w_ hw 87 rfl)) (mvT hZ (w_ hw 88 rfl)) (mvT hZ (w_ hw 4 rfl)) (mvT hZ (w_ hw 89 rfl)) (by decide) (backOf (W := 0) (rsp l Z a0 hw [] b1 (3 : Int32) jI kI A f41 ob41 nm41 3 jN kN sa va ka pp cs fv T41.heap n0 (Nat.le_trans Zb I41.1) P41 own_I3 hjN hkN (by decide) jk SC hcs (Ob.keep I41 gW0) SF hfv (A6.keep I41 nbw) (ST.keep I41 vw) nbw vw J41) hZ (w_ hw 89 rfl) (w_ hw 4 rfl) (by decide) (by decide)) (g := (mkF m 138 #[Vi p1, Vi p2, Vi p3, Vi p4, Vi p5, Vi p6, Vr b1, Vi kI, Vi jI, Vr (A 0), Vu, Vu, Vu, Vu] [(.int kI), (.int jI), (.int 3), (.ref b1), (.ref (A 0))])) rfl (by rw [hml]; rfl) (argsL := [(.ref (A 0)), (.ref b1), (.int 3), (.int jI), (.int kI)]) (rest := []) (lenOf pd_31 rfl) rfl (ww_ rfl rfl) (hb hby at_138) (fun _ _ => ⟨rfl, rfl, (by decide : 27 + 0 ≤ _), (by decide : 247 + 0 ≤ _)⟩)
 dsimp only [Pt.U, Pt.locs, Pt.cells, Pt.slots] at X42 l42 y42 z42 st42 hQ42
 subst l42 y42 z42
 obtain ⟨f42, ob42, nm42, rfl, N42, K42, P42, J42⟩ := hQ42
 have Nf42 := Fr.app Nf41 N42
 refine Goes.via (st42) ?_
 have I42 := (I41).trans K42 (fun _ q => Or.inl q)
 refine Goes.via (S' := T42.setTop (mkF m 150 #[Vi p1, Vi p2, Vi p3, Vi p4, Vi p5, Vi p6, Vr b1, Vi kI, Vi jI, Vr (A 0), Vu, Vu, Vu, Vu] [(.int kI), (.int jI), (.int 4), (.ref b1), (.ref (A 0))])) (fun tz kz => ?_) ?_
 ·refine XS.aload X42.here hx rfl (hb hby at_141) rfl rfl ?_
  refine XS.aload X42.here hx rfl (hb hby at_143) rfl rfl ?_
  refine XS.iconst X42.here hx rfl (hb hby at_145) ?_
  refine XS.iload X42.here hx rfl (hb hby at_146) rfl ?_
  refine XS.iload X42.here hx rfl (hb hby at_148) rfl ?_
  exact kz
 obtain ⟨_, _, ⟨T43, L43, k43, n43⟩, -, X43, ⟨Lc43, hQ43, l43, y43, z43⟩, st43⟩ := Jvm.LawKit.callS X42 hx (y := n_43) hown (mvT hZ (w_ hw 87 rfl)) (mvT hZ (w_ hw 88 rfl)) (mvT hZ (w_ hw 4 rfl)) (mvT hZ (w_ hw 89 rfl)) (by decide) (backOf (W := 0) (rsp l Z a0 hw [] b1 (4 : Int32) jI kI A f42 ob42 nm42 4 jN kN sa va ka pp cs fv T42.heap n0 (Nat.le_trans Zb I42.1) P42 own_I4 hjN hkN (by decide) jk SC hcs (Ob.keep I42 gW0) SF hfv (A6.keep I42 nbw) (ST.keep I42 vw) nbw vw J42) hZ (w_ hw 89 rfl) (w_ hw 4 rfl) (by decide) (by decide)) (g := (mkF m 150 #[Vi p1, Vi p2, Vi p3, Vi p4, Vi p5, Vi p6, Vr b1, Vi kI, Vi jI, Vr (A 0), Vu, Vu, Vu, Vu] [(.int kI), (.int jI), (.int 4), (.ref b1), (.ref (A 0))])) rfl (by rw [hml]; rfl) (argsL := [(.ref (A 0)), (.ref b1), (.int 4), (.int jI), (.int kI)]) (rest := []) (lenOf pd_31 rfl) rfl (ww_ rfl rfl) (hb hby at_150) (fun _ _ => ⟨rfl, rfl, (by decide : 27 + 0 ≤ _), (by decide : 247 + 0 ≤ _)⟩)
 dsimp only [Pt.U, Pt.locs, Pt.cells, Pt.slots] at X43 l43 y43 z43 st43 hQ43
 subst l43 y43 z43
 obtain ⟨f43, ob43, nm43, rfl, N43, K43, P43, J43⟩ := hQ43
 have Nf43 := Fr.app Nf42 N43
 refine Goes.via (st43) ?_
 have I43 := (I42).trans K43 (fun _ q => Or.inl q)
 refine Goes.via (S' := T43.setTop (mkF m 162 #[Vi p1, Vi p2, Vi p3, Vi p4, Vi p5, Vi p6, Vr b1, Vi kI, Vi jI, Vr (A 0), Vu, Vu, Vu, Vu] [(.int kI), (.int jI), (.int 5), (.ref b1), (.ref (A 0))])) (fun tz kz => ?_) ?_
 ·refine XS.aload X43.here hx rfl (hb hby at_153) rfl rfl ?_
  refine XS.aload X43.here hx rfl (hb hby at_155) rfl rfl ?_
  refine XS.iconst X43.here hx rfl (hb hby at_157) ?_
  refine XS.iload X43.here hx rfl (hb hby at_158) rfl ?_
  refine XS.iload X43.here hx rfl (hb hby at_160) rfl ?_
  exact kz
 obtain ⟨_, _, ⟨T44, L44, k44, n44⟩, -, X44, ⟨Lc44, hQ44, l44, y44, z44⟩, st44⟩ := Jvm.LawKit.callS X43 hx (y := n_43) hown (mvT hZ (w_ hw 87 rfl)) (mvT hZ (w_ hw 88 rfl)) (mvT hZ (w_ hw 4 rfl)) (mvT hZ (w_ hw 89 rfl)) (by decide) (backOf (W := 0) (rsp l Z a0 hw [] b1 (5 : Int32) jI kI A f43 ob43 nm43 5 jN kN sa va ka pp cs fv T43.heap n0 (Nat.le_trans Zb I43.1) P43 own_I5 hjN hkN (by decide) jk SC hcs (Ob.keep I43 gW0) SF hfv (A6.keep I43 nbw) (ST.keep I43 vw) nbw vw J43) hZ (w_ hw 89 rfl) (w_ hw 4 rfl) (by decide) (by decide)) (g := (mkF m 162 #[Vi p1, Vi p2, Vi p3, Vi p4, Vi p5, Vi p6, Vr b1, Vi kI, Vi jI, Vr (A 0), Vu, Vu, Vu, Vu] [(.int kI), (.int jI), (.int 5), (.ref b1), (.ref (A 0))])) rfl (by rw [hml]; rfl) (argsL := [(.ref (A 0)), (.ref b1), (.int 5), (.int jI), (.int kI)]) (rest := []) (lenOf pd_31 rfl) rfl (ww_ rfl rfl) (hb hby at_162) (fun _ _ => ⟨rfl, rfl, (by decide : 27 + 0 ≤ _), (by decide : 247 + 0 ≤ _)⟩)
 dsimp only [Pt.U, Pt.locs, Pt.cells, Pt.slots] at X44 l44 y44 z44 st44 hQ44
 subst l44 y44 z44
 obtain ⟨f44, ob44, nm44, rfl, N44, K44, P44, J44⟩ := hQ44
 have Nf44 := Fr.app Nf43 N44
 refine Goes.via (st44) ?_
 have I44 := (I43).trans K44 (fun _ q => Or.inl q)
 have tail : ∀ (Tq : State) (Lq : List Loc) (hq : Heap) (fq : Nat → Nat → Int32) (nq : Int32), Stand p l e room_1 (s.setVm T29.vm) m #[(.int p1), (.int p2), (.int p3), (.int p4), (.int p5), (.int p6)] below meth c Tq Lq 27 247 → Tq.heap = hq → Fr n0 Lq → Keep T37.heap hq (own_ws A) → own_ON Z n0 hq A fq (2 : Int32) nq → own_JB fq (2 : Int32) nq (own_Ks pp) jN kN 6 → Goes p e below (FinH s Z consts_1 (Q_rm0 Z p1 p2 p3 p4 p5 p6 cs fv h0 n0) room_1.cells room_1.slots) (Tq.setTop (mkF m 177 #[Vi p1, Vi p2, Vi p3, Vi p4, Vi p5, Vi p6, Vr b1, Vi kI, Vi jI, Vr (A 0), Vu, Vu, Vu, Vu] [])) := by
  intro Tq Lq hq fq nq Xq eq_ Nq Kq Pq JBq
  obtain ⟨nN, sN, κ, xs, n1, ys, w1, w2, w3, w4, w5, w6, w7, w8, w9, w10, w11, w12, w13, w14⟩ := JBq
  obtain ⟨hy1, hy2⟩ := w12.hgt (by rw [w13.2]; exact own_sum.le)
  obtain ⟨hx1, hx2⟩ := w7.hgt (by rw [w8.2]; exact own_sum.le)
  have Zq := Nat.le_trans Zb Kq.1
  refine Goes.via (S' := Tq.setTop (mkF m 179 #[Vi p1, Vi p2, Vi p3, Vi p4, Vi p5, Vi p6, Vr b1, Vi kI, Vi jI, Vr (A 0), Vu, Vu, Vu, Vu] [(.ref (A 0))])) (fun tz kz => ?_) ?_
  ·refine XS.aload Xq.here hx rfl (hb hby at_177) rfl rfl ?_
   exact kz
  obtain ⟨cq45, kq45, q45a, q45b, q45c⟩ := isOf hZ eq_ Pq.1
  obtain ⟨_, _, ⟨T45, L45, k45, n45⟩, -, X45, ⟨Lc45, hQ45, l45, y45, z45⟩, st45⟩ := Xq.virtualBack hx (y := n_2) (z := n_2) hown (mvT hZ (w_ hw 90 rfl)) (mvT hZ (w_ hw 91 rfl)) (notFace_of_selects (args := #[]) (mvT hZ (w_ hw 93 rfl))) (mvT hZ (w_ hw 93 rfl)) (mvT hZ (w_ hw 92 rfl)) (by decide) (backOf (W := 0) (rhe l Z a0 hw [] A fq (2 : Int32) nq 2 hq n0 (Nat.le_trans Zb Kq.1) Pq own_I2 (by decide) (by decide) hy1) hZ (w_ hw 94 rfl) (w_ hw 58 rfl) (by decide) (by decide)) q45a q45c (g := (mkF m 179 #[Vi p1, Vi p2, Vi p3, Vi p4, Vi p5, Vi p6, Vr b1, Vi kI, Vi jI, Vr (A 0), Vu, Vu, Vu, Vu] [(.ref (A 0))])) rfl (by rw [hml]; rfl) (Steps.refl _) (argsL := []) (rest := []) (lenOf pd_10 rfl) rfl (ww_ rfl rfl) (hb hby at_179) (fun _ _ => ⟨rfl, eq_, (by decide : 27 + 0 ≤ _), (by decide : 247 + 0 ≤ _)⟩)
  dsimp only [Pt.U, Pt.locs, Pt.cells, Pt.slots] at X45 l45 y45 z45 st45 hQ45
  subst l45 y45 z45
  obtain ⟨rfl, N45, e45⟩ := hQ45
  have Nf45 := Fr.app Nq N45
  refine Goes.via (fun _ kz => st45.trans kz) ?_
  refine Goes.via (S' := T45.setTop (mkF m 186 #[Vi p1, Vi p2, Vi p3, Vi p4, Vi p5, Vi p6, Vr b1, Vi kI, Vi jI, Vr (A 0), Vi (own_ht fq (fq 7 1)), Vu, Vu, Vu] [(.ref (A 0))])) (fun tz kz => ?_) ?_
  ·refine XS.istore X45.here hx rfl (hb hby at_182) rfl (l' := #[Vi p1, Vi p2, Vi p3, Vi p4, Vi p5, Vi p6, Vr b1, Vi kI, Vi jI, Vr (A 0), Vi (own_ht fq (fq 7 1)), Vu, Vu, Vu]) rfl ?_
   refine XS.aload X45.here hx rfl (hb hby at_184) rfl rfl ?_
   exact kz
  obtain ⟨cq46, kq46, q46a, q46b, q46c⟩ := isOf hZ e45 Pq.1
  obtain ⟨_, _, ⟨T46, L46, k46, n46⟩, -, X46, ⟨Lc46, hQ46, l46, y46, z46⟩, st46⟩ := X45.virtualBack hx (y := n_6) (z := n_6) hown (mvT hZ (w_ hw 99 rfl)) (mvT hZ (w_ hw 100 rfl)) (notFace_of_selects (args := #[]) (mvT hZ (w_ hw 102 rfl))) (mvT hZ (w_ hw 102 rfl)) (mvT hZ (w_ hw 101 rfl)) (by decide) (backOf (W := 0) (rcl l Z a0 hw [] A fq (2 : Int32) nq 2 hq n0 (Nat.le_trans Zb Kq.1) Pq own_I2 (by decide) (by decide)) hZ (w_ hw 103 rfl) (w_ hw 58 rfl) (by decide) (by decide)) q46a q46c (g := (mkF m 186 #[Vi p1, Vi p2, Vi p3, Vi p4, Vi p5, Vi p6, Vr b1, Vi kI, Vi jI, Vr (A 0), Vi (own_ht fq (fq 7 1)), Vu, Vu, Vu] [(.ref (A 0))])) rfl (by rw [hml]; rfl) (Steps.refl _) (argsL := []) (rest := []) (lenOf pd_29 rfl) rfl (ww_ rfl rfl) (hb hby at_186) (fun _ _ => ⟨rfl, e45, (by decide : 27 + 0 ≤ _), (by decide : 247 + 0 ≤ _)⟩)
  dsimp only [Pt.U, Pt.locs, Pt.cells, Pt.slots] at X46 l46 y46 z46 st46 hQ46
  subst l46 y46 z46
  obtain ⟨rfl, N46, K46, P46⟩ := hQ46
  have Nf46 := Fr.app Nf45 N46
  refine Goes.via (fun _ kz => st46.trans kz) ?_
  have Q46 : own_ON Z n0 T46.heap A fq (1 : Int32) (fq 6 1) := P46
  have I46 := Kq.trans K46 (fun _ q => Or.inl q)
  have A6c := A6.keep I46 nbw
  have STc := ST.keep I46 vw
  have Oc := Ob.keep I46 gW0
  have Zc := Nat.le_trans Zb I46.1
  refine Goes.via (S' := T46.setTop (mkF m 191 #[Vi p1, Vi p2, Vi p3, Vi p4, Vi p5, Vi p6, Vr b1, Vi kI, Vi jI, Vr (A 0), Vi (own_ht fq (fq 7 1)), Vu, Vu, Vu] [(.ref (A 0))])) (fun tz kz => ?_) ?_
  ·refine XS.aload X46.here hx rfl (hb hby at_189) rfl rfl ?_
   exact kz
  obtain ⟨cq47, kq47, q47a, q47b, q47c⟩ := isOf hZ rfl Q46.1
  obtain ⟨_, _, ⟨T47, L47, k47, n47⟩, -, X47, ⟨Lc47, hQ47, l47, y47, z47⟩, st47⟩ := X46.virtualBack hx (y := n_2) (z := n_2) hown (mvT hZ (w_ hw 90 rfl)) (mvT hZ (w_ hw 91 rfl)) (notFace_of_selects (args := #[]) (mvT hZ (w_ hw 93 rfl))) (mvT hZ (w_ hw 93 rfl)) (mvT hZ (w_ hw 92 rfl)) (by decide) (backOf (W := 0) (rhe l Z a0 hw [] A fq (1 : Int32) (fq 6 1) 1 T46.heap n0 (Nat.le_trans Zb I46.1) Q46 own_I1 (by decide) (by decide) hx1) hZ (w_ hw 94 rfl) (w_ hw 58 rfl) (by decide) (by decide)) q47a q47c (g := (mkF m 191 #[Vi p1, Vi p2, Vi p3, Vi p4, Vi p5, Vi p6, Vr b1, Vi kI, Vi jI, Vr (A 0), Vi (own_ht fq (fq 7 1)), Vu, Vu, Vu] [(.ref (A 0))])) rfl (by rw [hml]; rfl) (Steps.refl _) (argsL := []) (rest := []) (lenOf pd_10 rfl) rfl (ww_ rfl rfl) (hb hby at_191) (fun _ _ => ⟨rfl, rfl, (by decide : 27 + 0 ≤ _), (by decide : 247 + 0 ≤ _)⟩)
  dsimp only [Pt.U, Pt.locs, Pt.cells, Pt.slots] at X47 l47 y47 z47 st47 hQ47
  subst l47 y47 z47
  obtain ⟨rfl, N47, e47⟩ := hQ47
  have Nf47 := Fr.app Nf46 N47
  refine Goes.via (fun _ kz => st47.trans kz) ?_
  refine Goes.via (S' := T47.setTop (mkF m 202 #[Vi p1, Vi p2, Vi p3, Vi p4, Vi p5, Vi p6, Vr b1, Vi kI, Vi jI, Vr (A 0), Vi (own_ht fq (fq 7 1)), Vi (own_ht fq (fq 7 0)), Vu, Vu] [(.int jI), (.int 0), (.int 0), (.ref b1)])) (fun tz kz => ?_) ?_
  ·refine XS.istore X47.here hx rfl (hb hby at_194) rfl (l' := #[Vi p1, Vi p2, Vi p3, Vi p4, Vi p5, Vi p6, Vr b1, Vi kI, Vi jI, Vr (A 0), Vi (own_ht fq (fq 7 1)), Vi (own_ht fq (fq 7 0)), Vu, Vu]) rfl ?_
   refine XS.aload X47.here hx rfl (hb hby at_196) rfl rfl ?_
   refine XS.iconst X47.here hx rfl (hb hby at_198) ?_
   refine XS.iconst X47.here hx rfl (hb hby at_199) ?_
   refine XS.iload X47.here hx rfl (hb hby at_200) rfl ?_
   exact kz
  obtain ⟨_, _, ⟨T48, L48, k48, n48⟩, -, X48, ⟨Lc48, hQ48, l48, y48, z48⟩, st48⟩ := Jvm.LawKit.callS X47 hx (y := n_40) hown (mvT hZ (w_ hw 104 rfl)) (mvT hZ (w_ hw 105 rfl)) (mvT hZ (w_ hw 4 rfl)) (mvT hZ (w_ hw 106 rfl)) (by decide) (backOf (W := 0) (rct l Z a0 hw [] b1 (0 : Int32) (0 : Int32) jI 0 0 jN sa va ka pp cs T46.heap n0 Zc A6c STc SC hcs Oc own_I0 (by decide) own_I0 hjN) hZ (w_ hw 106 rfl) (w_ hw 4 rfl) (by decide) (by decide)) (g := (mkF m 202 #[Vi p1, Vi p2, Vi p3, Vi p4, Vi p5, Vi p6, Vr b1, Vi kI, Vi jI, Vr (A 0), Vi (own_ht fq (fq 7 1)), Vi (own_ht fq (fq 7 0)), Vu, Vu] [(.int jI), (.int 0), (.int 0), (.ref b1)])) rfl (by rw [hml]; rfl) (argsL := [(.ref b1), (.int 0), (.int 0), (.int jI)]) (rest := []) (lenOf pd_32 rfl) rfl (ww_ rfl rfl) (hb hby at_202) (fun _ _ => ⟨rfl, e47, (by decide : 27 + 0 ≤ _), (by decide : 247 + 0 ≤ _)⟩)
  dsimp only [Pt.U, Pt.locs, Pt.cells, Pt.slots] at X48 l48 y48 z48 st48 hQ48
  subst l48 y48 z48
  obtain ⟨xo0, rfl, N48, e48, Io0⟩ := hQ48
  have Nf48 := Fr.app Nf47 N48
  refine Goes.via (st48) ?_
  refine Goes.via (S' := T48.setTop (mkF m 211 #[Vi p1, Vi p2, Vi p3, Vi p4, Vi p5, Vi p6, Vr b1, Vi kI, Vi jI, Vr (A 0), Vi (own_ht fq (fq 7 1)), Vi (own_ht fq (fq 7 0)), Vu, Vu] [(.int jI), (.int 0), (.int 1), (.ref b1), (.int xo0)])) (fun tz kz => ?_) ?_
  ·refine XS.aload X48.here hx rfl (hb hby at_205) rfl rfl ?_
   refine XS.iconst X48.here hx rfl (hb hby at_207) ?_
   refine XS.iconst X48.here hx rfl (hb hby at_208) ?_
   refine XS.iload X48.here hx rfl (hb hby at_209) rfl ?_
   exact kz
  obtain ⟨_, _, ⟨T49, L49, k49, n49⟩, -, X49, ⟨Lc49, hQ49, l49, y49, z49⟩, st49⟩ := Jvm.LawKit.callS X48 hx (y := n_40) hown (mvT hZ (w_ hw 104 rfl)) (mvT hZ (w_ hw 105 rfl)) (mvT hZ (w_ hw 4 rfl)) (mvT hZ (w_ hw 106 rfl)) (by decide) (backOf (W := 1) (rct l Z a0 hw [] b1 (1 : Int32) (0 : Int32) jI 1 0 jN sa va ka pp cs T46.heap n0 Zc A6c STc SC hcs Oc own_I1 (by decide) own_I0 hjN) hZ (w_ hw 106 rfl) (w_ hw 4 rfl) (by decide) (by decide)) (g := (mkF m 211 #[Vi p1, Vi p2, Vi p3, Vi p4, Vi p5, Vi p6, Vr b1, Vi kI, Vi jI, Vr (A 0), Vi (own_ht fq (fq 7 1)), Vi (own_ht fq (fq 7 0)), Vu, Vu] [(.int jI), (.int 0), (.int 1), (.ref b1), (.int xo0)])) rfl (by rw [hml]; rfl) (argsL := [(.ref b1), (.int 1), (.int 0), (.int jI)]) (rest := [(.int xo0)]) (lenOf pd_32 rfl) rfl (ww_ rfl rfl) (hb hby at_211) (fun _ _ => ⟨rfl, e48, (by decide : 27 + 0 ≤ _), (by decide : 247 + 0 ≤ _)⟩)
  dsimp only [Pt.U, Pt.locs, Pt.cells, Pt.slots] at X49 l49 y49 z49 st49 hQ49
  subst l49 y49 z49
  obtain ⟨xo1, rfl, N49, e49, Io1⟩ := hQ49
  have Nf49 := Fr.app Nf48 N49
  refine Goes.via (st49) ?_
  refine Goes.via (S' := T49.setTop (mkF m 221 #[Vi p1, Vi p2, Vi p3, Vi p4, Vi p5, Vi p6, Vr b1, Vi kI, Vi jI, Vr (A 0), Vi (own_ht fq (fq 7 1)), Vi (own_ht fq (fq 7 0)), Vu, Vu] [(.int jI), (.int 0), (.int 2), (.ref b1), (.int (xo0 + xo1))])) (fun tz kz => ?_) ?_
  ·refine XS.iadd X49.here hx rfl (hb hby at_214) rfl ?_
   refine XS.aload X49.here hx rfl (hb hby at_215) rfl rfl ?_
   refine XS.iconst X49.here hx rfl (hb hby at_217) ?_
   refine XS.iconst X49.here hx rfl (hb hby at_218) ?_
   refine XS.iload X49.here hx rfl (hb hby at_219) rfl ?_
   exact kz
  obtain ⟨_, _, ⟨T50, L50, k50, n50⟩, -, X50, ⟨Lc50, hQ50, l50, y50, z50⟩, st50⟩ := Jvm.LawKit.callS X49 hx (y := n_40) hown (mvT hZ (w_ hw 104 rfl)) (mvT hZ (w_ hw 105 rfl)) (mvT hZ (w_ hw 4 rfl)) (mvT hZ (w_ hw 106 rfl)) (by decide) (backOf (W := 1) (rct l Z a0 hw [] b1 (2 : Int32) (0 : Int32) jI 2 0 jN sa va ka pp cs T46.heap n0 Zc A6c STc SC hcs Oc own_I2 (by decide) own_I0 hjN) hZ (w_ hw 106 rfl) (w_ hw 4 rfl) (by decide) (by decide)) (g := (mkF m 221 #[Vi p1, Vi p2, Vi p3, Vi p4, Vi p5, Vi p6, Vr b1, Vi kI, Vi jI, Vr (A 0), Vi (own_ht fq (fq 7 1)), Vi (own_ht fq (fq 7 0)), Vu, Vu] [(.int jI), (.int 0), (.int 2), (.ref b1), (.int (xo0 + xo1))])) rfl (by rw [hml]; rfl) (argsL := [(.ref b1), (.int 2), (.int 0), (.int jI)]) (rest := [(.int (xo0 + xo1))]) (lenOf pd_32 rfl) rfl (ww_ rfl rfl) (hb hby at_221) (fun _ _ => ⟨rfl, e49, (by decide : 27 + 0 ≤ _), (by decide : 247 + 0 ≤ _)⟩)
  dsimp only [Pt.U, Pt.locs, Pt.cells, Pt.slots] at X50 l50 y50 z50 st50 hQ50
  subst l50 y50 z50
  obtain ⟨xo2, rfl, N50, e50, Io2⟩ := hQ50
  have Nf50 := Fr.app Nf49 N50
  refine Goes.via (st50) ?_
  refine Goes.via (S' := T50.setTop (mkF m 231 #[Vi p1, Vi p2, Vi p3, Vi p4, Vi p5, Vi p6, Vr b1, Vi kI, Vi jI, Vr (A 0), Vi (own_ht fq (fq 7 1)), Vi (own_ht fq (fq 7 0)), Vu, Vu] [(.int jI), (.int 0), (.int 3), (.ref b1), (.int ((xo0 + xo1) + xo2))])) (fun tz kz => ?_) ?_
  ·refine XS.iadd X50.here hx rfl (hb hby at_224) rfl ?_
   refine XS.aload X50.here hx rfl (hb hby at_225) rfl rfl ?_
   refine XS.iconst X50.here hx rfl (hb hby at_227) ?_
   refine XS.iconst X50.here hx rfl (hb hby at_228) ?_
   refine XS.iload X50.here hx rfl (hb hby at_229) rfl ?_
   exact kz
  obtain ⟨_, _, ⟨T51, L51, k51, n51⟩, -, X51, ⟨Lc51, hQ51, l51, y51, z51⟩, st51⟩ := Jvm.LawKit.callS X50 hx (y := n_40) hown (mvT hZ (w_ hw 104 rfl)) (mvT hZ (w_ hw 105 rfl)) (mvT hZ (w_ hw 4 rfl)) (mvT hZ (w_ hw 106 rfl)) (by decide) (backOf (W := 1) (rct l Z a0 hw [] b1 (3 : Int32) (0 : Int32) jI 3 0 jN sa va ka pp cs T46.heap n0 Zc A6c STc SC hcs Oc own_I3 (by decide) own_I0 hjN) hZ (w_ hw 106 rfl) (w_ hw 4 rfl) (by decide) (by decide)) (g := (mkF m 231 #[Vi p1, Vi p2, Vi p3, Vi p4, Vi p5, Vi p6, Vr b1, Vi kI, Vi jI, Vr (A 0), Vi (own_ht fq (fq 7 1)), Vi (own_ht fq (fq 7 0)), Vu, Vu] [(.int jI), (.int 0), (.int 3), (.ref b1), (.int ((xo0 + xo1) + xo2))])) rfl (by rw [hml]; rfl) (argsL := [(.ref b1), (.int 3), (.int 0), (.int jI)]) (rest := [(.int ((xo0 + xo1) + xo2))]) (lenOf pd_32 rfl) rfl (ww_ rfl rfl) (hb hby at_231) (fun _ _ => ⟨rfl, e50, (by decide : 27 + 0 ≤ _), (by decide : 247 + 0 ≤ _)⟩)
  dsimp only [Pt.U, Pt.locs, Pt.cells, Pt.slots] at X51 l51 y51 z51 st51 hQ51
  subst l51 y51 z51
  obtain ⟨xo3, rfl, N51, e51, Io3⟩ := hQ51
  have Nf51 := Fr.app Nf50 N51
  refine Goes.via (st51) ?_
  refine Goes.via (S' := T51.setTop (mkF m 241 #[Vi p1, Vi p2, Vi p3, Vi p4, Vi p5, Vi p6, Vr b1, Vi kI, Vi jI, Vr (A 0), Vi (own_ht fq (fq 7 1)), Vi (own_ht fq (fq 7 0)), Vu, Vu] [(.int jI), (.int 0), (.int 4), (.ref b1), (.int (((xo0 + xo1) + xo2) + xo3))])) (fun tz kz => ?_) ?_
  ·refine XS.iadd X51.here hx rfl (hb hby at_234) rfl ?_
   refine XS.aload X51.here hx rfl (hb hby at_235) rfl rfl ?_
   refine XS.iconst X51.here hx rfl (hb hby at_237) ?_
   refine XS.iconst X51.here hx rfl (hb hby at_238) ?_
   refine XS.iload X51.here hx rfl (hb hby at_239) rfl ?_
   exact kz
  obtain ⟨_, _, ⟨T52, L52, k52, n52⟩, -, X52, ⟨Lc52, hQ52, l52, y52, z52⟩, st52⟩ := Jvm.LawKit.callS X51 hx (y := n_40) hown (mvT hZ (w_ hw 104 rfl)) (mvT hZ (w_ hw 105 rfl)) (mvT hZ (w_ hw 4 rfl)) (mvT hZ (w_ hw 106 rfl)) (by decide) (backOf (W := 1) (rct l Z a0 hw [] b1 (4 : Int32) (0 : Int32) jI 4 0 jN sa va ka pp cs T46.heap n0 Zc A6c STc SC hcs Oc own_I4 (by decide) own_I0 hjN) hZ (w_ hw 106 rfl) (w_ hw 4 rfl) (by decide) (by decide)) (g := (mkF m 241 #[Vi p1, Vi p2, Vi p3, Vi p4, Vi p5, Vi p6, Vr b1, Vi kI, Vi jI, Vr (A 0), Vi (own_ht fq (fq 7 1)), Vi (own_ht fq (fq 7 0)), Vu, Vu] [(.int jI), (.int 0), (.int 4), (.ref b1), (.int (((xo0 + xo1) + xo2) + xo3))])) rfl (by rw [hml]; rfl) (argsL := [(.ref b1), (.int 4), (.int 0), (.int jI)]) (rest := [(.int (((xo0 + xo1) + xo2) + xo3))]) (lenOf pd_32 rfl) rfl (ww_ rfl rfl) (hb hby at_241) (fun _ _ => ⟨rfl, e51, (by decide : 27 + 0 ≤ _), (by decide : 247 + 0 ≤ _)⟩)
  dsimp only [Pt.U, Pt.locs, Pt.cells, Pt.slots] at X52 l52 y52 z52 st52 hQ52
  subst l52 y52 z52
  obtain ⟨xo4, rfl, N52, e52, Io4⟩ := hQ52
  have Nf52 := Fr.app Nf51 N52
  refine Goes.via (st52) ?_
  refine Goes.via (S' := T52.setTop (mkF m 251 #[Vi p1, Vi p2, Vi p3, Vi p4, Vi p5, Vi p6, Vr b1, Vi kI, Vi jI, Vr (A 0), Vi (own_ht fq (fq 7 1)), Vi (own_ht fq (fq 7 0)), Vu, Vu] [(.int jI), (.int 0), (.int 5), (.ref b1), (.int ((((xo0 + xo1) + xo2) + xo3) + xo4))])) (fun tz kz => ?_) ?_
  ·refine XS.iadd X52.here hx rfl (hb hby at_244) rfl ?_
   refine XS.aload X52.here hx rfl (hb hby at_245) rfl rfl ?_
   refine XS.iconst X52.here hx rfl (hb hby at_247) ?_
   refine XS.iconst X52.here hx rfl (hb hby at_248) ?_
   refine XS.iload X52.here hx rfl (hb hby at_249) rfl ?_
   exact kz
  obtain ⟨_, _, ⟨T53, L53, k53, n53⟩, -, X53, ⟨Lc53, hQ53, l53, y53, z53⟩, st53⟩ := Jvm.LawKit.callS X52 hx (y := n_40) hown (mvT hZ (w_ hw 104 rfl)) (mvT hZ (w_ hw 105 rfl)) (mvT hZ (w_ hw 4 rfl)) (mvT hZ (w_ hw 106 rfl)) (by decide) (backOf (W := 1) (rct l Z a0 hw [] b1 (5 : Int32) (0 : Int32) jI 5 0 jN sa va ka pp cs T46.heap n0 Zc A6c STc SC hcs Oc own_I5 (by decide) own_I0 hjN) hZ (w_ hw 106 rfl) (w_ hw 4 rfl) (by decide) (by decide)) (g := (mkF m 251 #[Vi p1, Vi p2, Vi p3, Vi p4, Vi p5, Vi p6, Vr b1, Vi kI, Vi jI, Vr (A 0), Vi (own_ht fq (fq 7 1)), Vi (own_ht fq (fq 7 0)), Vu, Vu] [(.int jI), (.int 0), (.int 5), (.ref b1), (.int ((((xo0 + xo1) + xo2) + xo3) + xo4))])) rfl (by rw [hml]; rfl) (argsL := [(.ref b1), (.int 5), (.int 0), (.int jI)]) (rest := [(.int ((((xo0 + xo1) + xo2) + xo3) + xo4))]) (lenOf pd_32 rfl) rfl (ww_ rfl rfl) (hb hby at_251) (fun _ _ => ⟨rfl, e52, (by decide : 27 + 0 ≤ _), (by decide : 247 + 0 ≤ _)⟩)
  dsimp only [Pt.U, Pt.locs, Pt.cells, Pt.slots] at X53 l53 y53 z53 st53 hQ53
  subst l53 y53 z53
  obtain ⟨xo5, rfl, N53, e53, Io5⟩ := hQ53
  have Nf53 := Fr.app Nf52 N53
  refine Goes.via (st53) ?_
  refine Goes.via (S' := T53.setTop (mkF m 264 #[Vi p1, Vi p2, Vi p3, Vi p4, Vi p5, Vi p6, Vr b1, Vi kI, Vi jI, Vr (A 0), Vi (own_ht fq (fq 7 1)), Vi (own_ht fq (fq 7 0)), Vi (((((xo0 + xo1) + xo2) + xo3) + xo4) + xo5), Vu] [(.int kI), (.int jI), (.int 0), (.ref b1)])) (fun tz kz => ?_) ?_
  ·refine XS.iadd X53.here hx rfl (hb hby at_254) rfl ?_
   refine XS.istore X53.here hx rfl (hb hby at_255) rfl (l' := #[Vi p1, Vi p2, Vi p3, Vi p4, Vi p5, Vi p6, Vr b1, Vi kI, Vi jI, Vr (A 0), Vi (own_ht fq (fq 7 1)), Vi (own_ht fq (fq 7 0)), Vi (((((xo0 + xo1) + xo2) + xo3) + xo4) + xo5), Vu]) rfl ?_
   refine XS.aload X53.here hx rfl (hb hby at_257) rfl rfl ?_
   refine XS.iconst X53.here hx rfl (hb hby at_259) ?_
   refine XS.iload X53.here hx rfl (hb hby at_260) rfl ?_
   refine XS.iload X53.here hx rfl (hb hby at_262) rfl ?_
   exact kz
  obtain ⟨_, _, ⟨T54, L54, k54, n54⟩, -, X54, ⟨Lc54, hQ54, l54, y54, z54⟩, st54⟩ := Jvm.LawKit.callS X53 hx (y := n_40) hown (mvT hZ (w_ hw 104 rfl)) (mvT hZ (w_ hw 105 rfl)) (mvT hZ (w_ hw 4 rfl)) (mvT hZ (w_ hw 106 rfl)) (by decide) (backOf (W := 0) (rct l Z a0 hw [] b1 (0 : Int32) jI kI 0 jN kN sa va ka pp cs T46.heap n0 Zc A6c STc SC hcs Oc own_I0 (by decide) hjN hkN) hZ (w_ hw 106 rfl) (w_ hw 4 rfl) (by decide) (by decide)) (g := (mkF m 264 #[Vi p1, Vi p2, Vi p3, Vi p4, Vi p5, Vi p6, Vr b1, Vi kI, Vi jI, Vr (A 0), Vi (own_ht fq (fq 7 1)), Vi (own_ht fq (fq 7 0)), Vi (((((xo0 + xo1) + xo2) + xo3) + xo4) + xo5), Vu] [(.int kI), (.int jI), (.int 0), (.ref b1)])) rfl (by rw [hml]; rfl) (argsL := [(.ref b1), (.int 0), (.int jI), (.int kI)]) (rest := []) (lenOf pd_32 rfl) rfl (ww_ rfl rfl) (hb hby at_264) (fun _ _ => ⟨rfl, e53, (by decide : 27 + 0 ≤ _), (by decide : 247 + 0 ≤ _)⟩)
  dsimp only [Pt.U, Pt.locs, Pt.cells, Pt.slots] at X54 l54 y54 z54 st54 hQ54
  subst l54 y54 z54
  obtain ⟨xi0, rfl, N54, e54, Ii0⟩ := hQ54
  have Nf54 := Fr.app Nf53 N54
  refine Goes.via (st54) ?_
  refine Goes.via (S' := T54.setTop (mkF m 274 #[Vi p1, Vi p2, Vi p3, Vi p4, Vi p5, Vi p6, Vr b1, Vi kI, Vi jI, Vr (A 0), Vi (own_ht fq (fq 7 1)), Vi (own_ht fq (fq 7 0)), Vi (((((xo0 + xo1) + xo2) + xo3) + xo4) + xo5), Vu] [(.int kI), (.int jI), (.int 1), (.ref b1), (.int xi0)])) (fun tz kz => ?_) ?_
  ·refine XS.aload X54.here hx rfl (hb hby at_267) rfl rfl ?_
   refine XS.iconst X54.here hx rfl (hb hby at_269) ?_
   refine XS.iload X54.here hx rfl (hb hby at_270) rfl ?_
   refine XS.iload X54.here hx rfl (hb hby at_272) rfl ?_
   exact kz
  obtain ⟨_, _, ⟨T55, L55, k55, n55⟩, -, X55, ⟨Lc55, hQ55, l55, y55, z55⟩, st55⟩ := Jvm.LawKit.callS X54 hx (y := n_40) hown (mvT hZ (w_ hw 104 rfl)) (mvT hZ (w_ hw 105 rfl)) (mvT hZ (w_ hw 4 rfl)) (mvT hZ (w_ hw 106 rfl)) (by decide) (backOf (W := 1) (rct l Z a0 hw [] b1 (1 : Int32) jI kI 1 jN kN sa va ka pp cs T46.heap n0 Zc A6c STc SC hcs Oc own_I1 (by decide) hjN hkN) hZ (w_ hw 106 rfl) (w_ hw 4 rfl) (by decide) (by decide)) (g := (mkF m 274 #[Vi p1, Vi p2, Vi p3, Vi p4, Vi p5, Vi p6, Vr b1, Vi kI, Vi jI, Vr (A 0), Vi (own_ht fq (fq 7 1)), Vi (own_ht fq (fq 7 0)), Vi (((((xo0 + xo1) + xo2) + xo3) + xo4) + xo5), Vu] [(.int kI), (.int jI), (.int 1), (.ref b1), (.int xi0)])) rfl (by rw [hml]; rfl) (argsL := [(.ref b1), (.int 1), (.int jI), (.int kI)]) (rest := [(.int xi0)]) (lenOf pd_32 rfl) rfl (ww_ rfl rfl) (hb hby at_274) (fun _ _ => ⟨rfl, e54, (by decide : 27 + 0 ≤ _), (by decide : 247 + 0 ≤ _)⟩)
  dsimp only [Pt.U, Pt.locs, Pt.cells, Pt.slots] at X55 l55 y55 z55 st55 hQ55
  subst l55 y55 z55
  obtain ⟨xi1, rfl, N55, e55, Ii1⟩ := hQ55
  have Nf55 := Fr.app Nf54 N55
  refine Goes.via (st55) ?_
  refine Goes.via (S' := T55.setTop (mkF m 285 #[Vi p1, Vi p2, Vi p3, Vi p4, Vi p5, Vi p6, Vr b1, Vi kI, Vi jI, Vr (A 0), Vi (own_ht fq (fq 7 1)), Vi (own_ht fq (fq 7 0)), Vi (((((xo0 + xo1) + xo2) + xo3) + xo4) + xo5), Vu] [(.int kI), (.int jI), (.int 2), (.ref b1), (.int (xi0 + xi1))])) (fun tz kz => ?_) ?_
  ·refine XS.iadd X55.here hx rfl (hb hby at_277) rfl ?_
   refine XS.aload X55.here hx rfl (hb hby at_278) rfl rfl ?_
   refine XS.iconst X55.here hx rfl (hb hby at_280) ?_
   refine XS.iload X55.here hx rfl (hb hby at_281) rfl ?_
   refine XS.iload X55.here hx rfl (hb hby at_283) rfl ?_
   exact kz
  obtain ⟨_, _, ⟨T56, L56, k56, n56⟩, -, X56, ⟨Lc56, hQ56, l56, y56, z56⟩, st56⟩ := Jvm.LawKit.callS X55 hx (y := n_40) hown (mvT hZ (w_ hw 104 rfl)) (mvT hZ (w_ hw 105 rfl)) (mvT hZ (w_ hw 4 rfl)) (mvT hZ (w_ hw 106 rfl)) (by decide) (backOf (W := 1) (rct l Z a0 hw [] b1 (2 : Int32) jI kI 2 jN kN sa va ka pp cs T46.heap n0 Zc A6c STc SC hcs Oc own_I2 (by decide) hjN hkN) hZ (w_ hw 106 rfl) (w_ hw 4 rfl) (by decide) (by decide)) (g := (mkF m 285 #[Vi p1, Vi p2, Vi p3, Vi p4, Vi p5, Vi p6, Vr b1, Vi kI, Vi jI, Vr (A 0), Vi (own_ht fq (fq 7 1)), Vi (own_ht fq (fq 7 0)), Vi (((((xo0 + xo1) + xo2) + xo3) + xo4) + xo5), Vu] [(.int kI), (.int jI), (.int 2), (.ref b1), (.int (xi0 + xi1))])) rfl (by rw [hml]; rfl) (argsL := [(.ref b1), (.int 2), (.int jI), (.int kI)]) (rest := [(.int (xi0 + xi1))]) (lenOf pd_32 rfl) rfl (ww_ rfl rfl) (hb hby at_285) (fun _ _ => ⟨rfl, e55, (by decide : 27 + 0 ≤ _), (by decide : 247 + 0 ≤ _)⟩)
  dsimp only [Pt.U, Pt.locs, Pt.cells, Pt.slots] at X56 l56 y56 z56 st56 hQ56
  subst l56 y56 z56
  obtain ⟨xi2, rfl, N56, e56, Ii2⟩ := hQ56
  have Nf56 := Fr.app Nf55 N56
  refine Goes.via (st56) ?_
  refine Goes.via (S' := T56.setTop (mkF m 296 #[Vi p1, Vi p2, Vi p3, Vi p4, Vi p5, Vi p6, Vr b1, Vi kI, Vi jI, Vr (A 0), Vi (own_ht fq (fq 7 1)), Vi (own_ht fq (fq 7 0)), Vi (((((xo0 + xo1) + xo2) + xo3) + xo4) + xo5), Vu] [(.int kI), (.int jI), (.int 3), (.ref b1), (.int ((xi0 + xi1) + xi2))])) (fun tz kz => ?_) ?_
  ·refine XS.iadd X56.here hx rfl (hb hby at_288) rfl ?_
   refine XS.aload X56.here hx rfl (hb hby at_289) rfl rfl ?_
   refine XS.iconst X56.here hx rfl (hb hby at_291) ?_
   refine XS.iload X56.here hx rfl (hb hby at_292) rfl ?_
   refine XS.iload X56.here hx rfl (hb hby at_294) rfl ?_
   exact kz
  obtain ⟨_, _, ⟨T57, L57, k57, n57⟩, -, X57, ⟨Lc57, hQ57, l57, y57, z57⟩, st57⟩ := Jvm.LawKit.callS X56 hx (y := n_40) hown (mvT hZ (w_ hw 104 rfl)) (mvT hZ (w_ hw 105 rfl)) (mvT hZ (w_ hw 4 rfl)) (mvT hZ (w_ hw 106 rfl)) (by decide) (backOf (W := 1) (rct l Z a0 hw [] b1 (3 : Int32) jI kI 3 jN kN sa va ka pp cs T46.heap n0 Zc A6c STc SC hcs Oc own_I3 (by decide) hjN hkN) hZ (w_ hw 106 rfl) (w_ hw 4 rfl) (by decide) (by decide)) (g := (mkF m 296 #[Vi p1, Vi p2, Vi p3, Vi p4, Vi p5, Vi p6, Vr b1, Vi kI, Vi jI, Vr (A 0), Vi (own_ht fq (fq 7 1)), Vi (own_ht fq (fq 7 0)), Vi (((((xo0 + xo1) + xo2) + xo3) + xo4) + xo5), Vu] [(.int kI), (.int jI), (.int 3), (.ref b1), (.int ((xi0 + xi1) + xi2))])) rfl (by rw [hml]; rfl) (argsL := [(.ref b1), (.int 3), (.int jI), (.int kI)]) (rest := [(.int ((xi0 + xi1) + xi2))]) (lenOf pd_32 rfl) rfl (ww_ rfl rfl) (hb hby at_296) (fun _ _ => ⟨rfl, e56, (by decide : 27 + 0 ≤ _), (by decide : 247 + 0 ≤ _)⟩)
  dsimp only [Pt.U, Pt.locs, Pt.cells, Pt.slots] at X57 l57 y57 z57 st57 hQ57
  subst l57 y57 z57
  obtain ⟨xi3, rfl, N57, e57, Ii3⟩ := hQ57
  have Nf57 := Fr.app Nf56 N57
  refine Goes.via (st57) ?_
  refine Goes.via (S' := T57.setTop (mkF m 307 #[Vi p1, Vi p2, Vi p3, Vi p4, Vi p5, Vi p6, Vr b1, Vi kI, Vi jI, Vr (A 0), Vi (own_ht fq (fq 7 1)), Vi (own_ht fq (fq 7 0)), Vi (((((xo0 + xo1) + xo2) + xo3) + xo4) + xo5), Vu] [(.int kI), (.int jI), (.int 4), (.ref b1), (.int (((xi0 + xi1) + xi2) + xi3))])) (fun tz kz => ?_) ?_
  ·refine XS.iadd X57.here hx rfl (hb hby at_299) rfl ?_
   refine XS.aload X57.here hx rfl (hb hby at_300) rfl rfl ?_
   refine XS.iconst X57.here hx rfl (hb hby at_302) ?_
   refine XS.iload X57.here hx rfl (hb hby at_303) rfl ?_
   refine XS.iload X57.here hx rfl (hb hby at_305) rfl ?_
   exact kz
  obtain ⟨_, _, ⟨T58, L58, k58, n58⟩, -, X58, ⟨Lc58, hQ58, l58, y58, z58⟩, st58⟩ := Jvm.LawKit.callS X57 hx (y := n_40) hown (mvT hZ (w_ hw 104 rfl)) (mvT hZ (w_ hw 105 rfl)) (mvT hZ (w_ hw 4 rfl)) (mvT hZ (w_ hw 106 rfl)) (by decide) (backOf (W := 1) (rct l Z a0 hw [] b1 (4 : Int32) jI kI 4 jN kN sa va ka pp cs T46.heap n0 Zc A6c STc SC hcs Oc own_I4 (by decide) hjN hkN) hZ (w_ hw 106 rfl) (w_ hw 4 rfl) (by decide) (by decide)) (g := (mkF m 307 #[Vi p1, Vi p2, Vi p3, Vi p4, Vi p5, Vi p6, Vr b1, Vi kI, Vi jI, Vr (A 0), Vi (own_ht fq (fq 7 1)), Vi (own_ht fq (fq 7 0)), Vi (((((xo0 + xo1) + xo2) + xo3) + xo4) + xo5), Vu] [(.int kI), (.int jI), (.int 4), (.ref b1), (.int (((xi0 + xi1) + xi2) + xi3))])) rfl (by rw [hml]; rfl) (argsL := [(.ref b1), (.int 4), (.int jI), (.int kI)]) (rest := [(.int (((xi0 + xi1) + xi2) + xi3))]) (lenOf pd_32 rfl) rfl (ww_ rfl rfl) (hb hby at_307) (fun _ _ => ⟨rfl, e57, (by decide : 27 + 0 ≤ _), (by decide : 247 + 0 ≤ _)⟩)
  dsimp only [Pt.U, Pt.locs, Pt.cells, Pt.slots] at X58 l58 y58 z58 st58 hQ58
  subst l58 y58 z58
  obtain ⟨xi4, rfl, N58, e58, Ii4⟩ := hQ58
  have Nf58 := Fr.app Nf57 N58
  refine Goes.via (st58) ?_
  refine Goes.via (S' := T58.setTop (mkF m 318 #[Vi p1, Vi p2, Vi p3, Vi p4, Vi p5, Vi p6, Vr b1, Vi kI, Vi jI, Vr (A 0), Vi (own_ht fq (fq 7 1)), Vi (own_ht fq (fq 7 0)), Vi (((((xo0 + xo1) + xo2) + xo3) + xo4) + xo5), Vu] [(.int kI), (.int jI), (.int 5), (.ref b1), (.int ((((xi0 + xi1) + xi2) + xi3) + xi4))])) (fun tz kz => ?_) ?_
  ·refine XS.iadd X58.here hx rfl (hb hby at_310) rfl ?_
   refine XS.aload X58.here hx rfl (hb hby at_311) rfl rfl ?_
   refine XS.iconst X58.here hx rfl (hb hby at_313) ?_
   refine XS.iload X58.here hx rfl (hb hby at_314) rfl ?_
   refine XS.iload X58.here hx rfl (hb hby at_316) rfl ?_
   exact kz
  obtain ⟨_, _, ⟨T59, L59, k59, n59⟩, -, X59, ⟨Lc59, hQ59, l59, y59, z59⟩, st59⟩ := Jvm.LawKit.callS X58 hx (y := n_40) hown (mvT hZ (w_ hw 104 rfl)) (mvT hZ (w_ hw 105 rfl)) (mvT hZ (w_ hw 4 rfl)) (mvT hZ (w_ hw 106 rfl)) (by decide) (backOf (W := 1) (rct l Z a0 hw [] b1 (5 : Int32) jI kI 5 jN kN sa va ka pp cs T46.heap n0 Zc A6c STc SC hcs Oc own_I5 (by decide) hjN hkN) hZ (w_ hw 106 rfl) (w_ hw 4 rfl) (by decide) (by decide)) (g := (mkF m 318 #[Vi p1, Vi p2, Vi p3, Vi p4, Vi p5, Vi p6, Vr b1, Vi kI, Vi jI, Vr (A 0), Vi (own_ht fq (fq 7 1)), Vi (own_ht fq (fq 7 0)), Vi (((((xo0 + xo1) + xo2) + xo3) + xo4) + xo5), Vu] [(.int kI), (.int jI), (.int 5), (.ref b1), (.int ((((xi0 + xi1) + xi2) + xi3) + xi4))])) rfl (by rw [hml]; rfl) (argsL := [(.ref b1), (.int 5), (.int jI), (.int kI)]) (rest := [(.int ((((xi0 + xi1) + xi2) + xi3) + xi4))]) (lenOf pd_32 rfl) rfl (ww_ rfl rfl) (hb hby at_318) (fun _ _ => ⟨rfl, e58, (by decide : 27 + 0 ≤ _), (by decide : 247 + 0 ≤ _)⟩)
  dsimp only [Pt.U, Pt.locs, Pt.cells, Pt.slots] at X59 l59 y59 z59 st59 hQ59
  subst l59 y59 z59
  obtain ⟨xi5, rfl, N59, e59, Ii5⟩ := hQ59
  have Nf59 := Fr.app Nf58 N59
  refine Goes.via (st59) ?_
  refine Goes.via (S' := T59.setTop (mkF m 328 #[Vi p1, Vi p2, Vi p3, Vi p4, Vi p5, Vi p6, Vr b1, Vi kI, Vi jI, Vr (A 0), Vi (own_ht fq (fq 7 1)), Vi (own_ht fq (fq 7 0)), Vi (((((xo0 + xo1) + xo2) + xo3) + xo4) + xo5), Vi (((((xi0 + xi1) + xi2) + xi3) + xi4) + xi5)] [(.int (((((xi0 + xi1) + xi2) + xi3) + xi4) + xi5)), (.int (own_ht fq (fq 7 1)))])) (fun tz kz => ?_) ?_
  ·refine XS.iadd X59.here hx rfl (hb hby at_321) rfl ?_
   refine XS.istore X59.here hx rfl (hb hby at_322) rfl (l' := #[Vi p1, Vi p2, Vi p3, Vi p4, Vi p5, Vi p6, Vr b1, Vi kI, Vi jI, Vr (A 0), Vi (own_ht fq (fq 7 1)), Vi (own_ht fq (fq 7 0)), Vi (((((xo0 + xo1) + xo2) + xo3) + xo4) + xo5), Vi (((((xi0 + xi1) + xi2) + xi3) + xi4) + xi5)]) rfl ?_
   refine XS.iload X59.here hx rfl (hb hby at_324) rfl ?_
   refine XS.iload X59.here hx rfl (hb hby at_326) rfl ?_
   exact kz
  obtain ⟨_, _, ⟨T60, L60, k60, n60⟩, -, X60, ⟨Lc60, hQ60, l60, y60, z60⟩, st60⟩ := Jvm.LawKit.callS X59 hx (y := n_41) hown (mvT hZ (w_ hw 107 rfl)) (mvT hZ (w_ hw 108 rfl)) (mvT hZ (w_ hw 4 rfl)) (mvT hZ (w_ hw 109 rfl)) (by decide) (backOf (W := 1) (rex l Z a0 hw [] (((((xi0 + xi1) + xi2) + xi3) + xi4) + xi5) (own_sum (own_Ks pp) jN kN 6) T46.heap n0 Zc (own_add6 Ii0 Ii1 Ii2 Ii3 Ii4 Ii5)) hZ (w_ hw 109 rfl) (w_ hw 4 rfl) (by decide) (by decide)) (g := (mkF m 328 #[Vi p1, Vi p2, Vi p3, Vi p4, Vi p5, Vi p6, Vr b1, Vi kI, Vi jI, Vr (A 0), Vi (own_ht fq (fq 7 1)), Vi (own_ht fq (fq 7 0)), Vi (((((xo0 + xo1) + xo2) + xo3) + xo4) + xo5), Vi (((((xi0 + xi1) + xi2) + xi3) + xi4) + xi5)] [(.int (((((xi0 + xi1) + xi2) + xi3) + xi4) + xi5)), (.int (own_ht fq (fq 7 1)))])) rfl (by rw [hml]; rfl) (argsL := [(.int (((((xi0 + xi1) + xi2) + xi3) + xi4) + xi5))]) (rest := [(.int (own_ht fq (fq 7 1)))]) (lenOf pd_0 rfl) rfl (ww_ rfl rfl) (hb hby at_328) (fun _ _ => ⟨rfl, e59, (by decide : 27 + 0 ≤ _), (by decide : 247 + 0 ≤ _)⟩)
  dsimp only [Pt.U, Pt.locs, Pt.cells, Pt.slots] at X60 l60 y60 z60 st60 hQ60
  subst l60 y60 z60
  obtain ⟨exi, rfl, N60, e60, Ixi⟩ := hQ60
  have Nf60 := Fr.app Nf59 N60
  refine Goes.via (st60) ?_
  refine Goes.via (S' := T60.setTop (mkF m 338 #[Vi p1, Vi p2, Vi p3, Vi p4, Vi p5, Vi p6, Vr b1, Vi kI, Vi jI, Vr (A 0), Vi (own_ht fq (fq 7 1)), Vi (own_ht fq (fq 7 0)), Vi (((((xo0 + xo1) + xo2) + xo3) + xo4) + xo5), Vi (((((xi0 + xi1) + xi2) + xi3) + xi4) + xi5)] [(.int (((((xo0 + xo1) + xo2) + xo3) + xo4) + xo5)), (.int (own_ht fq (fq 7 0)))])) (fun tz kz => ?_) ?_
  ·refine XS.icmpNo X60.here hx rfl (hb hby at_331) rfl (teq ((hy2.eq Ixi).mpr (by rw [w13.2]))).2 ?_
   refine XS.iload X60.here hx rfl (hb hby at_334) rfl ?_
   refine XS.iload X60.here hx rfl (hb hby at_336) rfl ?_
   exact kz
  obtain ⟨_, _, ⟨T61, L61, k61, n61⟩, -, X61, ⟨Lc61, hQ61, l61, y61, z61⟩, st61⟩ := Jvm.LawKit.callS X60 hx (y := n_41) hown (mvT hZ (w_ hw 107 rfl)) (mvT hZ (w_ hw 108 rfl)) (mvT hZ (w_ hw 4 rfl)) (mvT hZ (w_ hw 109 rfl)) (by decide) (backOf (W := 1) (rex l Z a0 hw [] (((((xo0 + xo1) + xo2) + xo3) + xo4) + xo5) (own_sum (own_Ks pp) 0 jN 6) T46.heap n0 Zc (own_add6 Io0 Io1 Io2 Io3 Io4 Io5)) hZ (w_ hw 109 rfl) (w_ hw 4 rfl) (by decide) (by decide)) (g := (mkF m 338 #[Vi p1, Vi p2, Vi p3, Vi p4, Vi p5, Vi p6, Vr b1, Vi kI, Vi jI, Vr (A 0), Vi (own_ht fq (fq 7 1)), Vi (own_ht fq (fq 7 0)), Vi (((((xo0 + xo1) + xo2) + xo3) + xo4) + xo5), Vi (((((xi0 + xi1) + xi2) + xi3) + xi4) + xi5)] [(.int (((((xo0 + xo1) + xo2) + xo3) + xo4) + xo5)), (.int (own_ht fq (fq 7 0)))])) rfl (by rw [hml]; rfl) (argsL := [(.int (((((xo0 + xo1) + xo2) + xo3) + xo4) + xo5))]) (rest := [(.int (own_ht fq (fq 7 0)))]) (lenOf pd_0 rfl) rfl (ww_ rfl rfl) (hb hby at_338) (fun _ _ => ⟨rfl, e60, (by decide : 27 + 0 ≤ _), (by decide : 247 + 0 ≤ _)⟩)
  dsimp only [Pt.U, Pt.locs, Pt.cells, Pt.slots] at X61 l61 y61 z61 st61 hQ61
  subst l61 y61 z61
  obtain ⟨exo, rfl, N61, e61, Ixo⟩ := hQ61
  have Nf61 := Fr.app Nf60 N61
  refine Goes.via (st61) ?_
  refine Goes.via (S' := T61.setTop (mkF m 349 #[Vi p1, Vi p2, Vi p3, Vi p4, Vi p5, Vi p6, Vr b1, Vi kI, Vi jI, Vr (A 0), Vi (own_ht fq (fq 7 1)), Vi (own_ht fq (fq 7 0)), Vi (((((xo0 + xo1) + xo2) + xo3) + xo4) + xo5), Vi (((((xi0 + xi1) + xi2) + xi3) + xi4) + xi5)] [(.int 1)])) (fun tz kz => ?_) ?_
  ·refine XS.icmpNo X61.here hx rfl (hb hby at_341) rfl (teq ((hx2.eq Ixo).mpr (by rw [w8.2]))).2 ?_
   refine XS.iconst X61.here hx rfl (hb hby at_344) ?_
   refine XS.goto X61.here hx rfl (pc0 := 345) (pc' := 349) rfl (hb hby at_345) (by decide) (by decide) ?_
   exact kz
  have Kt := Kb.trans I46 (fun x hx => Or.inr (gW x hx))
  have hC62 := hC32.trans (CHr.keep (ws := []) Kt (fun _ q => absurd q List.not_mem_nil) hC32.1)
  have hk63 := Nat.le_trans hk33 Kt.1
  exact Goes.retNH (s := s) (vm1 := T29.vm) X61 hx Bd.notSynchronized hS29 hk63 e61 hZ hEL hC62 (t := .boolean) Bd.returns (by simp) (hb hby at_349) (nb_ rfl) (nb_ rfl) ⟨rfl, Nf61⟩
 refine Goes.via (S' := T44.setTop (mkF m 169 #[Vi p1, Vi p2, Vi p3, Vi p4, Vi p5, Vi p6, Vr b1, Vi kI, Vi jI, Vr (A 0), Vu, Vu, Vu, Vu] [(.int 6), (.int jI)])) (fun tz kz => ?_) ?_
 ·refine XS.iload X44.here hx rfl (hb hby at_165) rfl ?_
  refine XS.bipush X44.here hx rfl (hb hby at_167) ?_
  exact kz
 by_cases hc169_64 : jI = (6 : Int32)
 ·have jy : jN = 6 := (hjN.eq own_I6).mp hc169_64
  have JA6 := own_J.A J44 (Nat.le_of_eq jy.symm)
  obtain ⟨_, _, _, _, c1, _⟩ := (id JA6)
  subst c1
  refine Goes.via (S' := T44.setTop (mkF m 174 #[Vi p1, Vi p2, Vi p3, Vi p4, Vi p5, Vi p6, Vr b1, Vi kI, Vi jI, Vr (A 0), Vu, Vu, Vu, Vu] [(.ref (A 0))])) (fun tz kz => ?_) ?_
  ·refine XS.icmpNo X44.here hx rfl (hb hby at_169) rfl (teq hc169_64).2 ?_
   refine XS.aload X44.here hx rfl (hb hby at_172) rfl rfl ?_
   exact kz
  obtain ⟨cq65, kq65, q65a, q65b, q65c⟩ := isOf hZ rfl P44.1
  obtain ⟨_, _, ⟨T65, L65, k65, n65⟩, -, X65, ⟨Lc65, hQ65, l65, y65, z65⟩, st65⟩ := X44.virtualBack hx (y := n_5) (z := n_5) hown (mvT hZ (w_ hw 78 rfl)) (mvT hZ (w_ hw 79 rfl)) (notFace_of_selects (args := #[]) (mvT hZ (w_ hw 81 rfl))) (mvT hZ (w_ hw 81 rfl)) (mvT hZ (w_ hw 80 rfl)) (by decide) (backOf (W := 0) (rop l Z a0 hw [] A f44 (1 : Int32) nm44 1 T44.heap n0 (Nat.le_trans Zb I44.1) P44 own_I1 (by decide)) hZ (w_ hw 82 rfl) (w_ hw 58 rfl) (by decide) (by decide)) q65a q65c (g := (mkF m 174 #[Vi p1, Vi p2, Vi p3, Vi p4, Vi p5, Vi p6, Vr b1, Vi kI, Vi jI, Vr (A 0), Vu, Vu, Vu, Vu] [(.ref (A 0))])) rfl (by rw [hml]; rfl) (Steps.refl _) (argsL := []) (rest := []) (lenOf pd_29 rfl) rfl (ww_ rfl rfl) (hb hby at_174) (fun _ _ => ⟨rfl, rfl, (by decide : 27 + 0 ≤ _), (by decide : 247 + 0 ≤ _)⟩)
  dsimp only [Pt.U, Pt.locs, Pt.cells, Pt.slots] at X65 l65 y65 z65 st65 hQ65
  subst l65 y65 z65
  obtain ⟨rfl, N65, K65, P65⟩ := hQ65
  have Nf65 := Fr.app Nf44 N65
  refine Goes.via (fun _ kz => st65.trans kz) ?_
  have Q65 : own_ON Z n0 T65.heap A (own_fu (own_fu f44 6 1 nm44) 7 1 (-1)) (2 : Int32) nm44 := P65
  have JB6 : own_JB (own_fu (own_fu f44 6 1 nm44) 7 1 (-1)) (2 : Int32) nm44 (own_Ks pp) jN kN 6 := own_JA.opn JA6 jy
  have I65 := (I44).trans K65 (fun _ q => Or.inl q)
  exact tail _ _ _ _ _ X65 rfl Nf65 I65 Q65 JB6
 ·refine Goes.via (S' := T44.setTop (mkF m 177 #[Vi p1, Vi p2, Vi p3, Vi p4, Vi p5, Vi p6, Vr b1, Vi kI, Vi jI, Vr (A 0), Vu, Vu, Vu, Vu] [])) (fun tz kz => ?_) ?_
  ·refine XS.icmpYes X44.here hx rfl (pc0 := 169) (pc' := 177) rfl (hb hby at_169) rfl (feq hc169_64).2 (by decide) (by decide) ?_
   exact kz
  have JB6 := own_J.B J44 (fun z => hc169_64 ((hjN.eq own_I6).mpr (Nat.le_antisymm (Nat.le_trans jk k6) z)))
  obtain ⟨_, _, _, _, _, _, c1, _⟩ := (id JB6)
  subst c1
  exact tail _ _ _ _ _ X44 rfl Nf44 I44 P44 JB6
theorem own_cs {args : Array Value} {si : State} {t : Jvm.Term} {x : Int32} (ev : t.eval args si none [] si = some (.int x)) (h : (Jvm.Cond.not (Jvm.Cond.eq t (Jvm.Term.int 0))).value args si none si [] = some true) : ¬ x = (0 : Int32) := by
 rintro rfl
 have q := not_v h
 simp [Cond.value, ev, Term.int_eval] at q
theorem own_isr {args : Array Value} {si : State} {t : Jvm.Term} (h : (Jvm.Cond.isRef t).value args si none si [] = some true) : ∃ v, t.eval args si none [] si = some v ∧ v.isRef = true := by
 simp only [Cond.value] at h
 cases ht : t.eval args si none [] si with
 | none => simp [ht] at h
 | some x => exact ⟨x, rfl, by rw [ht] at h; cases x <;> simp [Value.isRef] at h ⊢⟩
set_option maxRecDepth 65536 in
set_option maxHeartbeats 40000000 in
theorem comes_1 {Post : Tables → Env → Array Value → State → Outcome → State → Prop} (hpost : ∀ tb e args s v u, (limb_1_1.after args s (.returned v) u = true ∧ limb_1_2.after args s (.returned v) u = true ∧ True) → ReturnedEndW s (.returned v) u (Jvm.fieldLocs frame_1_writes args s ++ Jvm.arrayLocs frame_1_arrays args s ++ Jvm.staticLocs frame_1_statics s) 64 1600 → Post tb e args s (.returned v) u) :
  ArmFor flags0 classFile x code maxLocals ret World_1 tables_1 room_1 Calls_1 rest_1 Pre_1 Post := by
 intro l hfl _ _ p e ha hc hk s m args below hf hA hF happ hP
 obtain ⟨hcalls, hrest, hpre⟩ := hP
 obtain ⟨-, -, -, hnamed, -, -, -, hat⟩ := (Spec.applies_iff hf).mp happ
 obtain ⟨hg, hn⟩ := and_e (Cond.before_iff.mp (show (Jvm.Cond.and given_1 narrow_1).before args s = true from hpre))
 obtain ⟨hcnt, gg0⟩ := and_e hg
 obtain ⟨ga0, gg1⟩ := and_e gg0
 obtain ⟨ga1, gg2⟩ := and_e gg1
 obtain ⟨ga2, gg3⟩ := and_e gg2
 obtain ⟨ga3, gg4⟩ := and_e gg3
 obtain ⟨ga4, gg5⟩ := and_e gg4
 obtain ⟨w0, w1, w2, w3, w4, w5, rfl⟩ : ∃ w0 w1 w2 w3 w4 w5 : Value, args = #[w0, w1, w2, w3, w4, w5] := by
  have hs : args.size = 6 := by simpa [Cond.value, given_1] using hcnt
  obtain ⟨L⟩ := args
  match L, hs with
  | [w0, w1, w2, w3, w4, w5], _ => exact ⟨w0, w1, w2, w3, w4, w5, rfl⟩
 have hw := fun d (hd : d ∈ tables_1) => atoms_spec (ws := Jvm.Cond.code x code maxLocals ret :: tables_1) hat d (List.mem_cons_of_mem _ hd)
 have hfit : Fit s := fun {y c} hc i hi => by
  obtain ⟨ha, rfl⟩ := Array.getElem?_eq_some_iff.mp hc
  have q := List.all_eq_true.mp ((Array.all_eq_true_iff_forall_mem.mp hF) _ (Array.getElem_mem ha)) i (List.mem_range.mpr hi)
  simpa [Array.getElem?_eq_getElem hi] using q
 obtain ⟨i0, ei0⟩ := is_v ga0
 obtain rfl : w0 = (.int i0) := Option.some.inj ei0
 obtain ⟨i1, ei1⟩ := is_v ga1
 obtain rfl : w1 = (.int i1) := Option.some.inj ei1
 obtain ⟨i2, ei2⟩ := is_v ga2
 obtain rfl : w2 = (.int i2) := Option.some.inj ei2
 obtain ⟨i3, ei3⟩ := is_v ga3
 obtain rfl : w3 = (.int i3) := Option.some.inj ei3
 obtain ⟨i4, ei4⟩ := is_v ga4
 obtain rfl : w4 = (.int i4) := Option.some.inj ei4
 obtain ⟨i5, ei5⟩ := is_v gg5
 obtain rfl : w5 = (.int i5) := Option.some.inj ei5
 obtain ⟨hsets, hown0⟩ := atoms_of _ (rest_1_c_eq ▸ (show rest_1_c.before _ s = true from hrest))
 obtain ⟨cs, evc⟩ := is_v (Cond.before_iff.mp (hsets _ (List.mem_of_getElem? (i := 1) rfl)))
 have SC := Sta.start evc (Or.inl (hsets _ (List.mem_of_getElem? (i := 0) rfl)))
 have hcs : ¬ cs = (0 : Int32) := own_cs evc (Cond.before_iff.mp (hsets _ (List.mem_of_getElem? (i := 2) rfl)))
 obtain ⟨fv, evf, hfv⟩ := own_isr (Cond.before_iff.mp (hsets _ (List.mem_of_getElem? (i := 8) rfl)))
 have SF := Sta.start evf (Or.inl (hsets _ (List.mem_of_getElem? (i := 7) rfl)))
 have hCH := CHv.start (own_EW hw) (fun p hp => hcalls.1 p hp) (hsets _ (List.mem_of_getElem? (i := 2) rfl)) (w_ hw 9 rfl) (w_ hw 8 rfl)
 obtain ⟨n, o, h1, h2, h3, _, L, rfl, ⟨rfl, N⟩, -, hq⟩ := rm0 l s _ hw tables_1 i0 i1 i2 i3 i4 i5 cs fv s.heap s.heap.size (Nat.le_refl _) SC hcs (Old.start s) SF hfv p e ha hc hk s m _ below hf ((Spec.applies_iff_loose hf).mp happ).1 ⟨rfl, State.Warmed39.refl s, rfl, hCH⟩ trivial
 refine ⟨n, _, h1, h2, h3, hpost _ _ _ _ _ _ ⟨Cond.after_iff.mpr rfl, Cond.after_iff.mpr (eq_i res_at (Term.int_eval (1)) rfl), trivial⟩ ⟨hq.1, hq.2.1, hq.2.2.1, (hq.2.2.2.sift fun y hy => Or.inr (N y hy)).mono (by decide) (by decide)⟩⟩
theorem main_1_1 : Claimed_1_1 := comes_1 fun _ _ _ _ _ _ h hF => ⟨h.1, hF⟩
theorem main_1_2 : Claimed_1_2 := comes_1 fun _ _ _ _ _ _ h hF => ⟨h.2.1, hF⟩
end Jvm.Pilot.@@N@@
namespace Jvm.Pilot.@@N@@
open Jvm Jvm.ClassFile Sem Op Lib Jvm.Free Jvm.Stand Jvm.Pilot.@@N@@.Jvm.D
/-! MADE BY PROGRAM (witnessworld.py) out of the Statement's table words and the real class files: 24 classes; the members and pool entries that the words name. The judged class is class 1, her method 1. -/
namespace start1
open Jvm.ClassFile
def u (s : String) : CpInfo := .utf8 (stringToUtf16 s)
/-- a pool by its gaps: so many unusable entries, then the entry; so many at the end -/
def gap : Nat → List CpInfo → List CpInfo
  | 0, r => r
  | n + 1, r => .unusable :: gap n r
def poolList (es : List (Nat × CpInfo)) (last : Nat) : List CpInfo := es.foldr (fun e r => gap e.1 (e.2 :: r)) (gap last [])
def pool (es : List (Nat × CpInfo)) (last : Nat) : Array CpInfo := ⟨poolList es last⟩
def fileOf (pool : Array CpInfo) (this : Nat) (attrs : Array Attribute := #[]) (ms : Array MethodInfo := #[]) (fl : Nat := 33) (sup : Nat := 0) (ifs : Array Nat := #[]) (fds : Array FieldInfo := #[]) : ClassFile where
  minorVersion := 0
  majorVersion := 65
  constantPool := pool
  accessFlags := fl
  thisClass := this
  superClass := sup
  interfaces := ifs
  fields := fds
  methods := ms
  attributes := attrs
def plain (name : String) (sup : Option ClassId) : Class where
  name := name
  kind := .ordinary
  loader := none
  accessFlags := 33
  super := sup
  interfaces := #[]
  cf := none
  fields := #[]
  methods := #[]
  instanceTypes := #[]
  staticTypes := #[]
  resolved := #[]
  callSites := []
  init := .initialized
  statics := none
  mirror := none

def pool0 : Array CpInfo := pool [(5, u "<init>"), (0, u "()V"), (1, .class_ 10), (1, u "java/lang/Object")] 113

def k0c0 : Code := { maxStack := 0, maxLocals := 1, code := object_method_1_code, exceptionTable := #[], attributes := #[] }
def k0m0 : Method := { name := "<init>", desc := "()V", sig := { parameters := [], returnType := none }, accessFlags := 1, code := some k0c0 }
/-- java/lang/Object -/
def k0 : Class := { plain "java/lang/Object" none with
  accessFlags := 33
  interfaces := #[]
  cf := some (fileOf pool0 8 #[] #[{ accessFlags := 1, nameIndex := 5, descriptorIndex := 6, attributes := #[] }] 33 0 #[] #[])
  fields := #[]
  methods := #[k0m0]
  instanceTypes := #[]
  staticTypes := #[]
  resolved := Array.replicate 124 none
  statics := none }

def pool1 : Array CpInfo := pool [(2, .class_ 4), (0, .nameAndType 5 6), (0, u "java/lang/Object"), (0, u "<init>"), (0, u "()V"), (0, .class_ 8), (0, u "java/lang/String"), (0, .methodref 10 11), (0, .class_ 12), (0, .nameAndType 13 14), (0, u "com/example/upkeep_window/upkeepwindow/policy/OpenNamesHeightPinLaw"), (0, u "name"), (0, u "(I)Ljava/lang/String;"), (0, .methodref 16 17), (0, .class_ 18), (0, .nameAndType 19 20), (0, u "java/lang/Math"), (0, u "min"), (0, u "(II)I"), (0, .class_ 22), (0, u "com/example/upkeep_window/upkeepwindow/policy/OpenNames"), (0, .methodref 21 3), (0, .methodref 21 25), (0, .nameAndType 26 6), (0, u "open"), (0, .methodref 10 28), (0, .nameAndType 29 30), (0, u "step"), (0, u "(Lcom/example/upkeep_window/upkeepwindow/policy/OpenNames;[Ljava/lang/String;III)V"), (0, .methodref 21 32), (0, .nameAndType 33 34), (0, u "height"), (0, u "()I"), (0, .methodref 21 36), (0, .nameAndType 37 6), (0, u "close"), (0, .methodref 10 39), (0, .nameAndType 40 41), (0, u "counted"), (0, u "([Ljava/lang/String;III)I"), (0, .methodref 10 43), (0, .nameAndType 44 45), (0, u "expected"), (0, u "(I)I"), (0, .methodref 21 47), (0, .nameAndType 48 49), (0, u "add"), (0, u "(Ljava/lang/String;)Z"), (0, .string 51), (0, u ""), (0, .methodref 7 53), (0, .nameAndType 54 55), (0, u "valueOf"), (0, u "(C)Ljava/lang/String;"), (0, .methodref 7 57), (0, .nameAndType 5 58), (0, u "([C)V"), (0, .methodref 7 60), (0, .nameAndType 61 62), (0, u "equals"), (0, u "(Ljava/lang/Object;)Z"), (0, .methodref 10 64), (0, .nameAndType 65 66), (0, u "differs"), (0, u "([Ljava/lang/String;III)Z"), (2, u "law"), (0, u "(IIIIII)Z")] 5

def k1m0 : Method := { name := "<init>", desc := "()V", sig := { parameters := [], returnType := none }, accessFlags := 1, code := none }
def k1c1 : Code := { maxStack := 5, maxLocals := 14, code := code, exceptionTable := #[], attributes := #[] }
def k1m1 : Method := { name := "law", desc := "(IIIIII)Z", sig := { parameters := [.int, .int, .int, .int, .int, .int], returnType := some .boolean }, accessFlags := 9, code := some k1c1 }
def k1c2 : Code := { maxStack := 3, maxLocals := 5, code := method_3_code, exceptionTable := #[], attributes := #[] }
def k1m2 : Method := { name := "step", desc := "(Lcom/example/upkeep_window/upkeepwindow/policy/OpenNames;[Ljava/lang/String;III)V", sig := { parameters := [(.object "com/example/upkeep_window/upkeepwindow/policy/OpenNames"), (.array (.object "java/lang/String")), .int, .int, .int], returnType := none }, accessFlags := 10, code := some k1c2 }
def k1c3 : Code := { maxStack := 6, maxLocals := 5, code := method_4_code, exceptionTable := #[], attributes := #[] }
def k1m3 : Method := { name := "name", desc := "(I)Ljava/lang/String;", sig := { parameters := [.int], returnType := some (.object "java/lang/String") }, accessFlags := 10, code := some k1c3 }
def k1c4 : Code := { maxStack := 3, maxLocals := 4, code := method_5_code, exceptionTable := #[], attributes := #[] }
def k1m4 : Method := { name := "differs", desc := "([Ljava/lang/String;III)Z", sig := { parameters := [(.array (.object "java/lang/String")), .int, .int, .int], returnType := some .boolean }, accessFlags := 10, code := some k1c4 }
def k1c5 : Code := { maxStack := 4, maxLocals := 5, code := method_6_code, exceptionTable := #[], attributes := #[] }
def k1m5 : Method := { name := "counted", desc := "([Ljava/lang/String;III)I", sig := { parameters := [(.array (.object "java/lang/String")), .int, .int, .int], returnType := some .int }, accessFlags := 10, code := some k1c5 }
def k1c6 : Code := { maxStack := 2, maxLocals := 1, code := method_7_code, exceptionTable := #[], attributes := #[] }
def k1m6 : Method := { name := "expected", desc := "(I)I", sig := { parameters := [.int], returnType := some .int }, accessFlags := 10, code := some k1c6 }
/-- com/example/upkeep_window/upkeepwindow/policy/OpenNamesHeightPinLaw -/
def k1 : Class := { plain "com/example/upkeep_window/upkeepwindow/policy/OpenNamesHeightPinLaw" (some 0) with
  accessFlags := 49
  interfaces := #[]
  cf := some (fileOf pool1 10 #[] #[{ accessFlags := 1, nameIndex := 5, descriptorIndex := 6, attributes := #[] }, { accessFlags := 9, nameIndex := 69, descriptorIndex := 70, attributes := #[] }, { accessFlags := 10, nameIndex := 29, descriptorIndex := 30, attributes := #[] }, { accessFlags := 10, nameIndex := 13, descriptorIndex := 14, attributes := #[] }, { accessFlags := 10, nameIndex := 65, descriptorIndex := 66, attributes := #[] }, { accessFlags := 10, nameIndex := 40, descriptorIndex := 41, attributes := #[] }, { accessFlags := 10, nameIndex := 44, descriptorIndex := 45, attributes := #[] }] 49 2 #[] #[])
  fields := #[]
  methods := #[k1m0, k1m1, k1m2, k1m3, k1m4, k1m5, k1m6]
  instanceTypes := #[]
  staticTypes := #[]
  resolved := Array.replicate 76 none
  statics := none }

def pool2 : Array CpInfo := pool [(1, .class_ 2), (0, u "java/io/Serializable"), (0, .class_ 4), (0, u "java/lang/Object")] 2

/-- java/io/Serializable -/
def k2 : Class := { plain "java/io/Serializable" (some 0) with
  accessFlags := 1537
  interfaces := #[]
  cf := some (fileOf pool2 1 #[] #[] 1537 3 #[] #[])
  fields := #[]
  methods := #[]
  instanceTypes := #[]
  staticTypes := #[]
  resolved := Array.replicate 7 none
  statics := none }

def pool3 : Array CpInfo := pool [(1, .class_ 2), (0, u "java/lang/Comparable"), (0, .class_ 4), (0, u "java/lang/Object")] 7

/-- java/lang/Comparable -/
def k3 : Class := { plain "java/lang/Comparable" (some 0) with
  accessFlags := 1537
  interfaces := #[]
  cf := some (fileOf pool3 1 #[] #[] 1537 3 #[] #[])
  fields := #[]
  methods := #[]
  instanceTypes := #[]
  staticTypes := #[]
  resolved := Array.replicate 12 none
  statics := none }

def pool4 : Array CpInfo := pool [(2, .class_ 4), (1, u "java/lang/CharSequence"), (42, .class_ 48), (0, u "java/lang/CharSequence$1CodePointIterator"), (10, .class_ 60), (0, u "java/lang/CharSequence$1CharIterator"), (5, .class_ 67), (0, u "java/lang/Object")] 63

/-- java/lang/CharSequence -/
def k4 : Class := { plain "java/lang/CharSequence" (some 0) with
  accessFlags := 1537
  interfaces := #[]
  cf := some (fileOf pool4 2 #[.nestMembers #[47, 59]] #[] 1537 66 #[] #[])
  fields := #[]
  methods := #[]
  instanceTypes := #[]
  staticTypes := #[]
  resolved := Array.replicate 131 none
  statics := none }

def pool5 : Array CpInfo := pool [(1, .class_ 2), (0, u "java/lang/constant/Constable"), (0, .class_ 4), (0, u "java/lang/Object")] 6

/-- java/lang/constant/Constable -/
def k5 : Class := { plain "java/lang/constant/Constable" (some 0) with
  accessFlags := 1537
  interfaces := #[]
  cf := some (fileOf pool5 1 #[] #[] 1537 3 #[] #[])
  fields := #[]
  methods := #[]
  instanceTypes := #[]
  staticTypes := #[]
  resolved := Array.replicate 11 none
  statics := none }

def pool6 : Array CpInfo := pool [(1, .class_ 2), (0, u "java/lang/constant/ConstantDesc"), (0, .class_ 4), (0, u "java/lang/Object")] 32

/-- java/lang/constant/ConstantDesc -/
def k6 : Class := { plain "java/lang/constant/ConstantDesc" (some 0) with
  accessFlags := 1537
  interfaces := #[]
  cf := some (fileOf pool6 1 #[] #[] 1537 3 #[] #[])
  fields := #[]
  methods := #[]
  instanceTypes := #[]
  staticTypes := #[]
  resolved := Array.replicate 37 none
  statics := none }

def pool7 : Array CpInfo := pool [(1, .methodref 2 3), (0, .class_ 4), (0, .nameAndType 5 6), (0, u "java/lang/Object"), (0, u "<init>"), (0, u "()V"), (2, .fieldref 10 11), (0, .class_ 12), (0, .nameAndType 13 14), (0, u "java/lang/String"), (0, u "value"), (0, u "[B"), (0, .fieldref 10 16), (0, .nameAndType 17 18), (0, u "coder"), (0, u "B"), (2, u "hash"), (0, u "I"), (2, u "hashIsZero"), (0, u "Z"), (0, .methodref 10 28), (0, .nameAndType 5 29), (0, u "([CIILjava/lang/Void;)V"), (4, .methodref 10 35), (0, .nameAndType 36 37), (0, u "checkBoundsOffCount"), (0, u "(III)I"), (0, .fieldref 10 39), (0, .nameAndType 40 26), (0, u "COMPACT_STRINGS"), (1, .class_ 44), (1, u "java/lang/StringUTF16"), (0, u "compress"), (1, .methodref 42 48), (0, .nameAndType 49 50), (0, u "coderFromArrayLen"), (0, u "([BI)B"), (2, u "toBytes"), (53, .class_ 109), (1, u "java/lang/StringLatin1"), (32, u "()Z"), (34, .methodref 42 178), (0, .nameAndType 45 179), (0, u "([CII)[B"), (29, .methodref 10 210), (0, .nameAndType 5 211), (0, u "([BB)V"), (122, u "()I"), (0, .methodref 10 336), (0, .nameAndType 17 337), (0, u "()B"), (31, u "(C)Z"), (122, .methodref 10 493), (0, .nameAndType 494 142), (0, u "isLatin1"), (10, .methodref 10 506), (0, .nameAndType 507 334), (0, u "length"), (5, u "checkFromToIndex"), (7, .methodref 10 522), (0, .nameAndType 523 524), (0, u "checkBoundsBeginEnd"), (0, u "(III)V"), (0, .methodref 107 526), (0, .nameAndType 527 528), (0, u "getChars"), (0, u "([BII[CI)V"), (12, .methodref 107 542), (0, .nameAndType 543 544), (0, u "equals"), (0, u "([B[B)Z"), (28, u "(Ljava/lang/Object;)Z"), (1, .class_ 576), (0, u "java/lang/CharSequence"), (22, u "CASE_INSENSITIVE_ORDER"), (0, u "Ljava/util/Comparator;"), (181, u "valueOf"), (0, u "(C)Ljava/lang/String;"), (226, u "([C)V"), (4, .methodref 107 1016), (0, .nameAndType 1017 369), (0, u "canEncode"), (0, .methodref 107 1019), (0, .nameAndType 53 1020), (0, u "(C)[B"), (32, .fieldref 1054 1055), (0, .class_ 1056), (0, .nameAndType 1057 1058), (0, u "jdk/internal/util/Preconditions"), (0, u "SIOOBE_FORMATTER"), (0, u "Ljava/util/function/BiFunction;"), (3, .methodref 1054 1063), (0, .nameAndType 513 1064), (0, u "(IIILjava/util/function/BiFunction;)I"), (0, .methodref 1054 1066), (0, .nameAndType 1067 1064), (0, u "checkFromIndexSize"), (33, u "serialPersistentFields"), (0, u "[Ljava/io/ObjectStreamField;"), (0, .class_ 1104), (0, u "java/lang/String$CaseInsensitiveComparator"), (1, .class_ 1107), (0, u "java/io/Serializable"), (0, .class_ 1109), (0, u "java/lang/Comparable"), (0, .class_ 1111), (0, u "java/lang/constant/Constable"), (0, .class_ 1113), (0, u "java/lang/constant/ConstantDesc"), (2, u "serialVersionUID"), (0, u "J"), (3, u "REPL"), (0, u "C"), (2, u "LATIN1"), (1, u "UTF16"), (112, u "(II[CI)V")] 210

def k7m0 : Method := { name := "<init>", desc := "()V", sig := { parameters := [], returnType := none }, accessFlags := 1, code := none }
def k7c1 : Code := { maxStack := 5, maxLocals := 2, code := jdk_42_method_3_code, exceptionTable := #[], attributes := #[] }
def k7m1 : Method := { name := "<init>", desc := "([C)V", sig := { parameters := [(.array .char)], returnType := none }, accessFlags := 1, code := some k7c1 }
def k7c2 : Code := { maxStack := 2, maxLocals := 1, code := jdk_42_method_54_code, exceptionTable := #[], attributes := #[] }
def k7m2 : Method := { name := "length", desc := "()I", sig := { parameters := [], returnType := some .int }, accessFlags := 1, code := some k7c2 }
def k7c3 : Code := { maxStack := 5, maxLocals := 5, code := jdk_42_method_61_code, exceptionTable := #[], attributes := #[] }
def k7m3 : Method := { name := "getChars", desc := "(II[CI)V", sig := { parameters := [.int, .int, (.array .char), .int], returnType := none }, accessFlags := 1, code := some k7c3 }
def k7c4 : Code := { maxStack := 2, maxLocals := 3, code := jdk_42_method_66_code, exceptionTable := #[], attributes := #[] }
def k7m4 : Method := { name := "equals", desc := "(Ljava/lang/Object;)Z", sig := { parameters := [(.object "java/lang/Object")], returnType := some .boolean }, accessFlags := 1, code := some k7c4 }
def k7c5 : Code := { maxStack := 4, maxLocals := 1, code := jdk_42_method_139_code, exceptionTable := #[], attributes := #[] }
def k7m5 : Method := { name := "valueOf", desc := "(C)Ljava/lang/String;", sig := { parameters := [.char], returnType := some (.object "java/lang/String") }, accessFlags := 9, code := some k7c5 }
def k7c6 : Code := { maxStack := 4, maxLocals := 6, code := jdk_42_method_149_code, exceptionTable := #[], attributes := #[] }
def k7m6 : Method := { name := "<init>", desc := "([CIILjava/lang/Void;)V", sig := { parameters := [(.array .char), .int, .int, (.object "java/lang/Void")], returnType := none }, accessFlags := 2, code := some k7c6 }
def k7c7 : Code := { maxStack := 2, maxLocals := 3, code := jdk_42_method_151_code, exceptionTable := #[], attributes := #[] }
def k7m7 : Method := { name := "<init>", desc := "([BB)V", sig := { parameters := [(.array .byte), .byte], returnType := none }, accessFlags := 0, code := some k7c7 }
def k7c8 : Code := { maxStack := 1, maxLocals := 1, code := jdk_42_method_152_code, exceptionTable := #[], attributes := #[] }
def k7m8 : Method := { name := "coder", desc := "()B", sig := { parameters := [], returnType := some .byte }, accessFlags := 0, code := some k7c8 }
def k7c9 : Code := { maxStack := 1, maxLocals := 1, code := jdk_42_method_154_code, exceptionTable := #[], attributes := #[] }
def k7m9 : Method := { name := "isLatin1", desc := "()Z", sig := { parameters := [], returnType := some .boolean }, accessFlags := 0, code := some k7c9 }
def k7c10 : Code := { maxStack := 4, maxLocals := 3, code := jdk_42_method_157_code, exceptionTable := #[], attributes := #[] }
def k7m10 : Method := { name := "checkBoundsOffCount", desc := "(III)I", sig := { parameters := [.int, .int, .int], returnType := some .int }, accessFlags := 8, code := some k7c10 }
def k7c11 : Code := { maxStack := 4, maxLocals := 3, code := jdk_42_method_158_code, exceptionTable := #[], attributes := #[] }
def k7m11 : Method := { name := "checkBoundsBeginEnd", desc := "(III)V", sig := { parameters := [.int, .int, .int], returnType := none }, accessFlags := 8, code := some k7c11 }
/-- java/lang/String -/
def k7 : Class := { plain "java/lang/String" (some 0) with
  accessFlags := 49
  interfaces := #[2, 3, 4, 5, 6]
  cf := some (fileOf pool7 10 #[.nestMembers #[1103]] #[{ accessFlags := 1, nameIndex := 5, descriptorIndex := 6, attributes := #[] }, { accessFlags := 1, nameIndex := 5, descriptorIndex := 1010, attributes := #[] }, { accessFlags := 1, nameIndex := 507, descriptorIndex := 334, attributes := #[] }, { accessFlags := 1, nameIndex := 527, descriptorIndex := 1240, attributes := #[] }, { accessFlags := 1, nameIndex := 543, descriptorIndex := 573, attributes := #[] }, { accessFlags := 9, nameIndex := 782, descriptorIndex := 783, attributes := #[] }, { accessFlags := 2, nameIndex := 5, descriptorIndex := 29, attributes := #[] }, { accessFlags := 0, nameIndex := 5, descriptorIndex := 211, attributes := #[] }, { accessFlags := 0, nameIndex := 17, descriptorIndex := 337, attributes := #[] }, { accessFlags := 0, nameIndex := 494, descriptorIndex := 142, attributes := #[] }, { accessFlags := 8, nameIndex := 36, descriptorIndex := 37, attributes := #[] }, { accessFlags := 8, nameIndex := 523, descriptorIndex := 524, attributes := #[] }] 49 2 #[1106, 1108, 575, 1110, 1112] #[{ accessFlags := 18, nameIndex := 13, descriptorIndex := 14, attributes := #[] }, { accessFlags := 18, nameIndex := 17, descriptorIndex := 18, attributes := #[] }, { accessFlags := 2, nameIndex := 21, descriptorIndex := 22, attributes := #[] }, { accessFlags := 2, nameIndex := 25, descriptorIndex := 26, attributes := #[] }, { accessFlags := 26, nameIndex := 1116, descriptorIndex := 1117, attributes := #[] }, { accessFlags := 24, nameIndex := 40, descriptorIndex := 26, attributes := #[] }, { accessFlags := 26, nameIndex := 1101, descriptorIndex := 1102, attributes := #[] }, { accessFlags := 26, nameIndex := 1121, descriptorIndex := 1122, attributes := #[] }, { accessFlags := 25, nameIndex := 599, descriptorIndex := 600, attributes := #[] }, { accessFlags := 24, nameIndex := 1125, descriptorIndex := 18, attributes := #[] }, { accessFlags := 24, nameIndex := 1127, descriptorIndex := 18, attributes := #[] }])
  fields := #[{ name := "value", type := (.array .byte), accessFlags := 18, slot := 0, constantValue := 0 }, { name := "coder", type := .byte, accessFlags := 18, slot := 1, constantValue := 0 }, { name := "hash", type := .int, accessFlags := 2, slot := 2, constantValue := 0 }, { name := "hashIsZero", type := .boolean, accessFlags := 2, slot := 3, constantValue := 0 }, { name := "serialVersionUID", type := .long, accessFlags := 26, slot := 0, constantValue := 0 }, { name := "COMPACT_STRINGS", type := .boolean, accessFlags := 24, slot := 1, constantValue := 0 }, { name := "serialPersistentFields", type := (.array (.object "java/io/ObjectStreamField")), accessFlags := 26, slot := 2, constantValue := 0 }, { name := "REPL", type := .char, accessFlags := 26, slot := 3, constantValue := 0 }, { name := "CASE_INSENSITIVE_ORDER", type := (.object "java/util/Comparator"), accessFlags := 25, slot := 4, constantValue := 0 }, { name := "LATIN1", type := .byte, accessFlags := 24, slot := 5, constantValue := 0 }, { name := "UTF16", type := .byte, accessFlags := 24, slot := 6, constantValue := 0 }]
  methods := #[k7m0, k7m1, k7m2, k7m3, k7m4, k7m5, k7m6, k7m7, k7m8, k7m9, k7m10, k7m11]
  instanceTypes := #[(.array .byte), .byte, .int, .boolean]
  staticTypes := #[.long, .boolean, (.array (.object "java/io/ObjectStreamField")), .char, (.object "java/util/Comparator"), .byte, .byte]
  resolved := Array.replicate 1451 none
  statics := some 0 }

def pool8 : Array CpInfo := pool [(6, .class_ 8), (1, u "java/lang/Object"), (0, u "<init>"), (0, u "()V"), (1, .class_ 14), (1, u "java/lang/StringUTF16"), (31, u "$assertionsDisabled"), (0, u "Z"), (13, u "HI_BYTE_SHIFT"), (0, u "I"), (2, u "LO_BYTE_SHIFT"), (49, .methodref 12 116), (0, .nameAndType 117 118), (0, u "compress"), (0, u "([CI[BII)I"), (3, u "([CII)[B"), (138, u "coderFromArrayLen"), (0, u "([BI)B"), (106, .class_ 371), (1, u "java/lang/StringUTF16$LinesSpliterator"), (58, u "MAX_LENGTH"), (196, .class_ 628), (0, u "java/lang/StringUTF16$CodePointsSpliterator"), (0, .class_ 630), (0, u "java/lang/StringUTF16$CharsSpliterator")] 4

def k8m0 : Method := { name := "<init>", desc := "()V", sig := { parameters := [], returnType := none }, accessFlags := 0, code := none }
def k8c1 : Code := { maxStack := 2, maxLocals := 2, code := jdk_52_method_15_code, exceptionTable := #[], attributes := #[] }
def k8m1 : Method := { name := "coderFromArrayLen", desc := "([BI)B", sig := { parameters := [(.array .byte), .int], returnType := some .byte }, accessFlags := 8, code := some k8c1 }
def k8c2 : Code := { maxStack := 5, maxLocals := 6, code := jdk_52_method_16_code, exceptionTable := #[], attributes := #[] }
def k8m2 : Method := { name := "compress", desc := "([CII)[B", sig := { parameters := [(.array .char), .int, .int], returnType := some (.array .byte) }, accessFlags := 9, code := some k8c2 }
def k8c3 : Code := { maxStack := 3, maxLocals := 7, code := jdk_52_method_21_code, exceptionTable := #[], attributes := #[] }
def k8m3 : Method := { name := "compress", desc := "([CI[BII)I", sig := { parameters := [(.array .char), .int, (.array .byte), .int, .int], returnType := some .int }, accessFlags := 9, code := some k8c3 }
/-- java/lang/StringUTF16 -/
def k8 : Class := { plain "java/lang/StringUTF16" (some 0) with
  accessFlags := 48
  interfaces := #[]
  cf := some (fileOf pool8 12 #[.nestMembers #[627, 629, 369]] #[{ accessFlags := 0, nameIndex := 9, descriptorIndex := 10, attributes := #[] }, { accessFlags := 8, nameIndex := 261, descriptorIndex := 262, attributes := #[] }, { accessFlags := 9, nameIndex := 117, descriptorIndex := 122, attributes := #[] }, { accessFlags := 9, nameIndex := 117, descriptorIndex := 118, attributes := #[] }] 48 6 #[] #[{ accessFlags := 26, nameIndex := 61, descriptorIndex := 62, attributes := #[] }, { accessFlags := 26, nameIndex := 65, descriptorIndex := 62, attributes := #[] }, { accessFlags := 24, nameIndex := 430, descriptorIndex := 62, attributes := #[] }, { accessFlags := 4120, nameIndex := 46, descriptorIndex := 47, attributes := #[] }])
  fields := #[{ name := "HI_BYTE_SHIFT", type := .int, accessFlags := 26, slot := 0, constantValue := 0 }, { name := "LO_BYTE_SHIFT", type := .int, accessFlags := 26, slot := 1, constantValue := 0 }, { name := "MAX_LENGTH", type := .int, accessFlags := 24, slot := 2, constantValue := 0 }, { name := "$assertionsDisabled", type := .boolean, accessFlags := 4120, slot := 3, constantValue := 0 }]
  methods := #[k8m0, k8m1, k8m2, k8m3]
  instanceTypes := #[]
  staticTypes := #[.int, .int, .int, .boolean]
  resolved := Array.replicate 635 none
  statics := none }

def pool9 : Array CpInfo := pool [(4, .class_ 6), (1, u "java/lang/Object"), (0, u "<init>"), (0, u "()V"), (4, .methodref 14 15), (0, .class_ 16), (0, .nameAndType 17 18), (0, u "java/lang/StringLatin1"), (0, u "inflate"), (0, u "([BI[CII)V"), (71, u "canEncode"), (14, u "(C)Z"), (15, u "$assertionsDisabled"), (0, u "Z"), (98, .class_ 223), (1, u "java/lang/StringLatin1$LinesSpliterator"), (50, u "getChars"), (0, u "([BII[CI)V"), (5, u "equals"), (0, u "([B[B)Z"), (97, u "toBytes"), (1, u "(C)[B"), (7, .class_ 391), (0, u "java/lang/StringLatin1$CharsSpliterator")] 3

def k9m0 : Method := { name := "<init>", desc := "()V", sig := { parameters := [], returnType := none }, accessFlags := 0, code := none }
def k9c1 : Code := { maxStack := 2, maxLocals := 1, code := jdk_43_method_3_code, exceptionTable := #[], attributes := #[] }
def k9m1 : Method := { name := "canEncode", desc := "(C)Z", sig := { parameters := [.char], returnType := some .boolean }, accessFlags := 9, code := some k9c1 }
def k9c2 : Code := { maxStack := 6, maxLocals := 5, code := jdk_43_method_11_code, exceptionTable := #[], attributes := #[] }
def k9m2 : Method := { name := "getChars", desc := "([BII[CI)V", sig := { parameters := [(.array .byte), .int, .int, (.array .char), .int], returnType := none }, accessFlags := 9, code := some k9c2 }
def k9c3 : Code := { maxStack := 3, maxLocals := 3, code := jdk_43_method_13_code, exceptionTable := #[], attributes := #[] }
def k9m3 : Method := { name := "equals", desc := "([B[B)Z", sig := { parameters := [(.array .byte), (.array .byte)], returnType := some .boolean }, accessFlags := 9, code := some k9c3 }
def k9c4 : Code := { maxStack := 4, maxLocals := 1, code := jdk_43_method_46_code, exceptionTable := #[], attributes := #[] }
def k9m4 : Method := { name := "toBytes", desc := "(C)[B", sig := { parameters := [.char], returnType := some (.array .byte) }, accessFlags := 9, code := some k9c4 }
def k9c5 : Code := { maxStack := 4, maxLocals := 6, code := jdk_43_method_49_code, exceptionTable := #[], attributes := #[] }
def k9m5 : Method := { name := "inflate", desc := "([BI[CII)V", sig := { parameters := [(.array .byte), .int, (.array .char), .int, .int], returnType := none }, accessFlags := 9, code := some k9c5 }
/-- java/lang/StringLatin1 -/
def k9 : Class := { plain "java/lang/StringLatin1" (some 0) with
  accessFlags := 48
  interfaces := #[]
  cf := some (fileOf pool9 14 #[.nestMembers #[390, 221]] #[{ accessFlags := 0, nameIndex := 7, descriptorIndex := 8, attributes := #[] }, { accessFlags := 9, nameIndex := 90, descriptorIndex := 105, attributes := #[] }, { accessFlags := 9, nameIndex := 274, descriptorIndex := 275, attributes := #[] }, { accessFlags := 9, nameIndex := 281, descriptorIndex := 282, attributes := #[] }, { accessFlags := 9, nameIndex := 380, descriptorIndex := 382, attributes := #[] }, { accessFlags := 9, nameIndex := 17, descriptorIndex := 18, attributes := #[] }] 48 4 #[] #[{ accessFlags := 4120, nameIndex := 121, descriptorIndex := 122, attributes := #[] }])
  fields := #[{ name := "$assertionsDisabled", type := .boolean, accessFlags := 4120, slot := 0, constantValue := 0 }]
  methods := #[k9m0, k9m1, k9m2, k9m3, k9m4, k9m5]
  instanceTypes := #[]
  staticTypes := #[.boolean]
  resolved := Array.replicate 395 none
  statics := none }

def pool10 : Array CpInfo := pool [(1, .class_ 2), (0, u "java/lang/Math"), (1, .class_ 6), (1, u "java/lang/Object"), (0, u "<init>"), (0, u "()V"), (89, .class_ 100), (1, u "java/lang/Math$RandomNumberGeneratorHolder"), (71, u "negativeZeroFloatBits"), (0, u "J"), (2, u "negativeZeroDoubleBits"), (21, u "max"), (2, u "min"), (43, u "$assertionsDisabled"), (0, u "Z"), (88, u "(II)I"), (2, u "twoToTheDoubleScaleDown"), (0, u "D"), (4, u "twoToTheDoubleScaleUp"), (9, u "E"), (3, u "PI"), (2, u "TAU"), (2, u "DEGREES_TO_RADIANS"), (0, u "RADIANS_TO_DEGREES")] 94

def k10m0 : Method := { name := "<init>", desc := "()V", sig := { parameters := [], returnType := none }, accessFlags := 2, code := none }
def k10c1 : Code := { maxStack := 2, maxLocals := 2, code := jdk_29_method_65_code, exceptionTable := #[], attributes := #[] }
def k10m1 : Method := { name := "max", desc := "(II)I", sig := { parameters := [.int, .int], returnType := some .int }, accessFlags := 9, code := some k10c1 }
def k10c2 : Code := { maxStack := 2, maxLocals := 2, code := jdk_29_method_69_code, exceptionTable := #[], attributes := #[] }
def k10m2 : Method := { name := "min", desc := "(II)I", sig := { parameters := [.int, .int], returnType := some .int }, accessFlags := 9, code := some k10c2 }
/-- java/lang/Math -/
def k10 : Class := { plain "java/lang/Math" (some 0) with
  accessFlags := 49
  interfaces := #[]
  cf := some (fileOf pool10 1 #[.nestMembers #[98]] #[{ accessFlags := 2, nameIndex := 7, descriptorIndex := 8, attributes := #[] }, { accessFlags := 9, nameIndex := 198, descriptorIndex := 335, attributes := #[] }, { accessFlags := 9, nameIndex := 201, descriptorIndex := 335, attributes := #[] }] 49 4 #[] #[{ accessFlags := 25, nameIndex := 354, descriptorIndex := 339, attributes := #[] }, { accessFlags := 25, nameIndex := 358, descriptorIndex := 339, attributes := #[] }, { accessFlags := 25, nameIndex := 361, descriptorIndex := 339, attributes := #[] }, { accessFlags := 26, nameIndex := 364, descriptorIndex := 339, attributes := #[] }, { accessFlags := 26, nameIndex := 365, descriptorIndex := 339, attributes := #[] }, { accessFlags := 26, nameIndex := 172, descriptorIndex := 173, attributes := #[] }, { accessFlags := 26, nameIndex := 176, descriptorIndex := 173, attributes := #[] }, { accessFlags := 8, nameIndex := 344, descriptorIndex := 339, attributes := #[] }, { accessFlags := 8, nameIndex := 338, descriptorIndex := 339, attributes := #[] }, { accessFlags := 4120, nameIndex := 245, descriptorIndex := 246, attributes := #[] }])
  fields := #[{ name := "E", type := .double, accessFlags := 25, slot := 0, constantValue := 0 }, { name := "PI", type := .double, accessFlags := 25, slot := 1, constantValue := 0 }, { name := "TAU", type := .double, accessFlags := 25, slot := 2, constantValue := 0 }, { name := "DEGREES_TO_RADIANS", type := .double, accessFlags := 26, slot := 3, constantValue := 0 }, { name := "RADIANS_TO_DEGREES", type := .double, accessFlags := 26, slot := 4, constantValue := 0 }, { name := "negativeZeroFloatBits", type := .long, accessFlags := 26, slot := 5, constantValue := 0 }, { name := "negativeZeroDoubleBits", type := .long, accessFlags := 26, slot := 6, constantValue := 0 }, { name := "twoToTheDoubleScaleUp", type := .double, accessFlags := 8, slot := 7, constantValue := 0 }, { name := "twoToTheDoubleScaleDown", type := .double, accessFlags := 8, slot := 8, constantValue := 0 }, { name := "$assertionsDisabled", type := .boolean, accessFlags := 4120, slot := 9, constantValue := 0 }]
  methods := #[k10m0, k10m1, k10m2]
  instanceTypes := #[]
  staticTypes := #[.double, .double, .double, .double, .double, .long, .long, .double, .double, .boolean]
  resolved := Array.replicate 460 none
  statics := none }

def pool11 : Array CpInfo := pool [(1, .methodref 2 3), (0, .class_ 4), (0, .nameAndType 5 6), (0, u "java/lang/Object"), (0, u "<init>"), (0, u "()V"), (0, .fieldref 8 9), (0, .class_ 10), (0, .nameAndType 11 12), (0, u "com/example/upkeep_window/upkeepwindow/policy/OpenNames"), (0, u "chars"), (0, u "[C"), (0, .fieldref 8 14), (0, .nameAndType 15 16), (0, u "ends"), (0, u "[I"), (0, .fieldref 8 18), (0, .nameAndType 19 16), (0, u "lefts"), (0, .fieldref 8 21), (0, .nameAndType 22 16), (0, u "rights"), (0, .fieldref 8 24), (0, .nameAndType 25 26), (0, u "heights"), (0, u "[B"), (0, .fieldref 8 28), (0, .nameAndType 29 16), (0, u "firsts"), (0, .fieldref 8 31), (0, .nameAndType 32 16), (0, u "roots"), (0, .fieldref 8 34), (0, .nameAndType 35 36), (0, u "objects"), (0, u "I"), (1, .class_ 40), (1, u "java/util/Arrays"), (2, .fieldref 8 44), (0, .nameAndType 45 36), (0, u "names"), (0, .methodref 8 47), (0, .nameAndType 48 49), (0, u "start"), (0, u "(I)I"), (0, .methodref 51 52), (0, .class_ 53), (0, .nameAndType 54 55), (0, u "java/lang/String"), (0, u "length"), (0, u "()I"), (0, .methodref 57 58), (0, .class_ 59), (0, .nameAndType 60 61), (0, u "java/lang/Math"), (0, u "max"), (0, u "(II)I"), (3, .methodref 51 66), (0, .nameAndType 67 68), (0, u "getChars"), (0, u "(II[CI)V"), (0, .methodref 8 70), (0, .nameAndType 71 72), (0, u "holds"), (0, u "(III)Z"), (3, .methodref 8 77), (0, .nameAndType 78 61), (0, u "insert"), (0, .methodref 8 80), (0, .nameAndType 81 49), (0, u "height"), (0, .methodref 38 83), (0, .nameAndType 84 85), (0, u "compare"), (0, u "([CII[CII)I"), (0, .methodref 8 87), (0, .nameAndType 88 49), (0, u "balanced"), (0, .methodref 8 90), (0, .nameAndType 91 49), (0, u "rotatedLeft"), (0, .methodref 8 93), (0, .nameAndType 94 49), (0, u "rotatedRight"), (0, .methodref 8 96), (0, .nameAndType 97 98), (0, u "measure"), (0, u "(I)V"), (0, u "NONE"), (4, u "open"), (1, u "add"), (0, u "(Ljava/lang/String;)Z"), (0, u "close")] 2

def k11c0 : Code := { maxStack := 2, maxLocals := 1, code := prog_33_method_1_code, exceptionTable := #[], attributes := #[] }
def k11m0 : Method := { name := "<init>", desc := "()V", sig := { parameters := [], returnType := none }, accessFlags := 0, code := some k11c0 }
def k11c1 : Code := { maxStack := 5, maxLocals := 1, code := prog_33_method_2_code, exceptionTable := #[], attributes := #[] }
def k11m1 : Method := { name := "open", desc := "()V", sig := { parameters := [], returnType := none }, accessFlags := 0, code := some k11c1 }
def k11c2 : Code := { maxStack := 5, maxLocals := 6, code := prog_33_method_3_code, exceptionTable := #[], attributes := #[] }
def k11m2 : Method := { name := "add", desc := "(Ljava/lang/String;)Z", sig := { parameters := [(.object "java/lang/String")], returnType := some .boolean }, accessFlags := 0, code := some k11c2 }
def k11c3 : Code := { maxStack := 3, maxLocals := 1, code := prog_33_method_4_code, exceptionTable := #[], attributes := #[] }
def k11m3 : Method := { name := "close", desc := "()V", sig := { parameters := [], returnType := none }, accessFlags := 0, code := some k11c3 }
def k11c4 : Code := { maxStack := 4, maxLocals := 1, code := prog_33_method_5_code, exceptionTable := #[], attributes := #[] }
def k11m4 : Method := { name := "height", desc := "()I", sig := { parameters := [], returnType := some .int }, accessFlags := 0, code := some k11c4 }
def k11c5 : Code := { maxStack := 7, maxLocals := 6, code := prog_33_method_6_code, exceptionTable := #[], attributes := #[] }
def k11m5 : Method := { name := "holds", desc := "(III)Z", sig := { parameters := [.int, .int, .int], returnType := some .boolean }, accessFlags := 2, code := some k11c5 }
def k11c6 : Code := { maxStack := 7, maxLocals := 5, code := prog_33_method_7_code, exceptionTable := #[], attributes := #[] }
def k11m6 : Method := { name := "insert", desc := "(II)I", sig := { parameters := [.int, .int], returnType := some .int }, accessFlags := 2, code := some k11c6 }
def k11c7 : Code := { maxStack := 4, maxLocals := 5, code := prog_33_method_8_code, exceptionTable := #[], attributes := #[] }
def k11m7 : Method := { name := "balanced", desc := "(I)I", sig := { parameters := [.int], returnType := some .int }, accessFlags := 2, code := some k11c7 }
def k11c8 : Code := { maxStack := 4, maxLocals := 3, code := prog_33_method_9_code, exceptionTable := #[], attributes := #[] }
def k11m8 : Method := { name := "rotatedRight", desc := "(I)I", sig := { parameters := [.int], returnType := some .int }, accessFlags := 2, code := some k11c8 }
def k11c9 : Code := { maxStack := 4, maxLocals := 3, code := prog_33_method_10_code, exceptionTable := #[], attributes := #[] }
def k11m9 : Method := { name := "rotatedLeft", desc := "(I)I", sig := { parameters := [.int], returnType := some .int }, accessFlags := 2, code := some k11c9 }
def k11c10 : Code := { maxStack := 7, maxLocals := 2, code := prog_33_method_11_code, exceptionTable := #[], attributes := #[] }
def k11m10 : Method := { name := "measure", desc := "(I)V", sig := { parameters := [.int], returnType := none }, accessFlags := 2, code := some k11c10 }
def k11c11 : Code := { maxStack := 2, maxLocals := 2, code := prog_33_method_12_code, exceptionTable := #[], attributes := #[] }
def k11m11 : Method := { name := "height", desc := "(I)I", sig := { parameters := [.int], returnType := some .int }, accessFlags := 2, code := some k11c11 }
def k11c12 : Code := { maxStack := 3, maxLocals := 2, code := prog_33_method_13_code, exceptionTable := #[], attributes := #[] }
def k11m12 : Method := { name := "start", desc := "(I)I", sig := { parameters := [.int], returnType := some .int }, accessFlags := 2, code := some k11c12 }
/-- com/example/upkeep_window/upkeepwindow/policy/OpenNames -/
def k11 : Class := { plain "com/example/upkeep_window/upkeepwindow/policy/OpenNames" (some 0) with
  accessFlags := 48
  interfaces := #[]
  cf := some (fileOf pool11 8 #[] #[{ accessFlags := 0, nameIndex := 5, descriptorIndex := 6, attributes := #[] }, { accessFlags := 0, nameIndex := 104, descriptorIndex := 6, attributes := #[] }, { accessFlags := 0, nameIndex := 106, descriptorIndex := 107, attributes := #[] }, { accessFlags := 0, nameIndex := 108, descriptorIndex := 6, attributes := #[] }, { accessFlags := 0, nameIndex := 81, descriptorIndex := 55, attributes := #[] }, { accessFlags := 2, nameIndex := 71, descriptorIndex := 72, attributes := #[] }, { accessFlags := 2, nameIndex := 78, descriptorIndex := 61, attributes := #[] }, { accessFlags := 2, nameIndex := 88, descriptorIndex := 49, attributes := #[] }, { accessFlags := 2, nameIndex := 94, descriptorIndex := 49, attributes := #[] }, { accessFlags := 2, nameIndex := 91, descriptorIndex := 49, attributes := #[] }, { accessFlags := 2, nameIndex := 97, descriptorIndex := 98, attributes := #[] }, { accessFlags := 2, nameIndex := 81, descriptorIndex := 49, attributes := #[] }, { accessFlags := 2, nameIndex := 48, descriptorIndex := 49, attributes := #[] }] 48 2 #[] #[{ accessFlags := 26, nameIndex := 99, descriptorIndex := 36, attributes := #[] }, { accessFlags := 2, nameIndex := 11, descriptorIndex := 12, attributes := #[] }, { accessFlags := 2, nameIndex := 15, descriptorIndex := 16, attributes := #[] }, { accessFlags := 2, nameIndex := 19, descriptorIndex := 16, attributes := #[] }, { accessFlags := 2, nameIndex := 22, descriptorIndex := 16, attributes := #[] }, { accessFlags := 2, nameIndex := 25, descriptorIndex := 26, attributes := #[] }, { accessFlags := 2, nameIndex := 45, descriptorIndex := 36, attributes := #[] }, { accessFlags := 2, nameIndex := 29, descriptorIndex := 16, attributes := #[] }, { accessFlags := 2, nameIndex := 32, descriptorIndex := 16, attributes := #[] }, { accessFlags := 2, nameIndex := 35, descriptorIndex := 36, attributes := #[] }])
  fields := #[{ name := "NONE", type := .int, accessFlags := 26, slot := 0, constantValue := 0 }, { name := "chars", type := (.array .char), accessFlags := 2, slot := 0, constantValue := 0 }, { name := "ends", type := (.array .int), accessFlags := 2, slot := 1, constantValue := 0 }, { name := "lefts", type := (.array .int), accessFlags := 2, slot := 2, constantValue := 0 }, { name := "rights", type := (.array .int), accessFlags := 2, slot := 3, constantValue := 0 }, { name := "heights", type := (.array .byte), accessFlags := 2, slot := 4, constantValue := 0 }, { name := "names", type := .int, accessFlags := 2, slot := 5, constantValue := 0 }, { name := "firsts", type := (.array .int), accessFlags := 2, slot := 6, constantValue := 0 }, { name := "roots", type := (.array .int), accessFlags := 2, slot := 7, constantValue := 0 }, { name := "objects", type := .int, accessFlags := 2, slot := 8, constantValue := 0 }]
  methods := #[k11m0, k11m1, k11m2, k11m3, k11m4, k11m5, k11m6, k11m7, k11m8, k11m9, k11m10, k11m11, k11m12]
  instanceTypes := #[(.array .char), (.array .int), (.array .int), (.array .int), (.array .byte), .int, (.array .int), (.array .int), .int]
  staticTypes := #[.int]
  resolved := Array.replicate 111 none
  statics := none }

def pool12 : Array CpInfo := pool [(2, .class_ 4), (1, u "java/lang/Object"), (0, u "<init>"), (0, u "()V"), (17, .class_ 26), (1, u "jdk/internal/util/Preconditions"), (20, u "checkFromToIndex"), (1, u "checkFromIndexSize"), (5, .class_ 56), (0, u "jdk/internal/util/Preconditions$4"), (57, .class_ 115), (0, u "jdk/internal/util/Preconditions$1"), (7, u "SIOOBE_FORMATTER"), (0, u "Ljava/util/function/BiFunction;"), (0, .class_ 126), (0, u "jdk/internal/util/Preconditions$2"), (3, u "AIOOBE_FORMATTER"), (0, .class_ 132), (0, u "jdk/internal/util/Preconditions$3"), (3, u "IOOBE_FORMATTER"), (46, u "(IIILjava/util/function/BiFunction;)I")] 10

def k12m0 : Method := { name := "<init>", desc := "()V", sig := { parameters := [], returnType := none }, accessFlags := 1, code := none }
def k12c1 : Code := { maxStack := 4, maxLocals := 4, code := jdk_41_method_12_code, exceptionTable := #[], attributes := #[] }
def k12m1 : Method := { name := "checkFromToIndex", desc := "(IIILjava/util/function/BiFunction;)I", sig := { parameters := [.int, .int, .int, (.object "java/util/function/BiFunction")], returnType := some .int }, accessFlags := 9, code := some k12c1 }
def k12c2 : Code := { maxStack := 4, maxLocals := 4, code := jdk_41_method_13_code, exceptionTable := #[], attributes := #[] }
def k12m2 : Method := { name := "checkFromIndexSize", desc := "(IIILjava/util/function/BiFunction;)I", sig := { parameters := [.int, .int, .int, (.object "java/util/function/BiFunction")], returnType := some .int }, accessFlags := 9, code := some k12c2 }
/-- jdk/internal/util/Preconditions -/
def k12 : Class := { plain "jdk/internal/util/Preconditions" (some 0) with
  accessFlags := 33
  interfaces := #[]
  cf := some (fileOf pool12 24 #[.nestMembers #[55, 131, 125, 114]] #[{ accessFlags := 1, nameIndex := 5, descriptorIndex := 6, attributes := #[] }, { accessFlags := 9, nameIndex := 47, descriptorIndex := 183, attributes := #[] }, { accessFlags := 9, nameIndex := 49, descriptorIndex := 183, attributes := #[] }] 33 2 #[] #[{ accessFlags := 25, nameIndex := 123, descriptorIndex := 124, attributes := #[] }, { accessFlags := 25, nameIndex := 130, descriptorIndex := 124, attributes := #[] }, { accessFlags := 25, nameIndex := 136, descriptorIndex := 124, attributes := #[] }])
  fields := #[{ name := "SIOOBE_FORMATTER", type := (.object "java/util/function/BiFunction"), accessFlags := 25, slot := 0, constantValue := 0 }, { name := "AIOOBE_FORMATTER", type := (.object "java/util/function/BiFunction"), accessFlags := 25, slot := 1, constantValue := 0 }, { name := "IOOBE_FORMATTER", type := (.object "java/util/function/BiFunction"), accessFlags := 25, slot := 2, constantValue := 0 }]
  methods := #[k12m0, k12m1, k12m2]
  instanceTypes := #[]
  staticTypes := #[(.object "java/util/function/BiFunction"), (.object "java/util/function/BiFunction"), (.object "java/util/function/BiFunction")]
  resolved := Array.replicate 194 none
  statics := some 1 }

def pool13 : Array CpInfo := pool [(2, .class_ 4), (1, u "java/lang/Object"), (0, u "<init>"), (0, u "()V"), (6, .methodref 14 15), (0, .class_ 16), (0, .nameAndType 17 18), (0, u "java/util/Arrays"), (0, u "rangeCheck"), (0, u "(III)V"), (55, .class_ 76), (1, u "java/util/Arrays$NaturalOrder"), (36, .class_ 115), (1, u "java/util/Arrays$LegacyMergeSort"), (1, u "Z"), (55, u "compare"), (72, .class_ 248), (1, u "jdk/internal/util/ArraysSupport"), (0, u "mismatch"), (19, .methodref 246 270), (0, .nameAndType 249 271), (0, u "([CI[CII)I"), (32, .methodref 305 306), (0, .class_ 307), (0, .nameAndType 308 309), (0, u "java/lang/Math"), (0, u "min"), (0, u "(II)I"), (65, .class_ 376), (0, u "java/util/Arrays$ArrayList"), (39, .class_ 417), (0, u "java/lang/Character"), (27, u "$assertionsDisabled"), (248, .methodref 416 695), (0, .nameAndType 173 696), (0, u "(CC)I"), (18, u "MIN_ARRAY_SORT_GRAN"), (0, u "I"), (2, u "INSERTIONSORT_THRESHOLD"), (221, u "([CII[CII)I"), (33, .class_ 976), (0, u "java/util/Arrays$ArrayItr")] 52

def k13m0 : Method := { name := "<init>", desc := "()V", sig := { parameters := [], returnType := none }, accessFlags := 2, code := none }
def k13c1 : Code := { maxStack := 4, maxLocals := 3, code := jdk_65_method_30_code, exceptionTable := #[], attributes := #[] }
def k13m1 : Method := { name := "rangeCheck", desc := "(III)V", sig := { parameters := [.int, .int, .int], returnType := none }, accessFlags := 8, code := some k13c1 }
def k13c2 : Code := { maxStack := 6, maxLocals := 9, code := jdk_65_method_208_code, exceptionTable := #[], attributes := #[] }
def k13m2 : Method := { name := "compare", desc := "([CII[CII)I", sig := { parameters := [(.array .char), .int, .int, (.array .char), .int, .int], returnType := some .int }, accessFlags := 9, code := some k13c2 }
/-- java/util/Arrays -/
def k13 : Class := { plain "java/util/Arrays" (some 0) with
  accessFlags := 49
  interfaces := #[]
  cf := some (fileOf pool13 14 #[.nestMembers #[975, 375, 113, 74]] #[{ accessFlags := 2, nameIndex := 5, descriptorIndex := 6, attributes := #[] }, { accessFlags := 8, nameIndex := 17, descriptorIndex := 18, attributes := #[] }, { accessFlags := 9, nameIndex := 173, descriptorIndex := 941, attributes := #[] }] 49 2 #[] #[{ accessFlags := 26, nameIndex := 715, descriptorIndex := 716, attributes := #[] }, { accessFlags := 26, nameIndex := 719, descriptorIndex := 716, attributes := #[] }, { accessFlags := 4120, nameIndex := 445, descriptorIndex := 117, attributes := #[] }])
  fields := #[{ name := "MIN_ARRAY_SORT_GRAN", type := .int, accessFlags := 26, slot := 0, constantValue := 0 }, { name := "INSERTIONSORT_THRESHOLD", type := .int, accessFlags := 26, slot := 1, constantValue := 0 }, { name := "$assertionsDisabled", type := .boolean, accessFlags := 4120, slot := 2, constantValue := 0 }]
  methods := #[k13m0, k13m1, k13m2]
  instanceTypes := #[]
  staticTypes := #[.int, .int, .boolean]
  resolved := Array.replicate 1029 none
  statics := none }

def pool14 : Array CpInfo := pool [(9, u "<init>"), (6, .class_ 18), (1, u "java/lang/Object"), (0, u "()V"), (1, .class_ 23), (1, u "jdk/internal/util/ArraysSupport"), (0, u "LOG2_ARRAY_LONG_INDEX_SCALE"), (0, u "I"), (2, u "U"), (0, u "Ljdk/internal/misc/Unsafe;"), (8, u "BIG_ENDIAN"), (0, u "Z"), (8, u "LOG2_BYTE_BIT_SIZE"), (4, u "LOG2_ARRAY_INT_INDEX_SCALE"), (54, u "JLA"), (0, u "Ljdk/internal/access/JavaLangAccess;"), (11, u "LOG2_ARRAY_BOOLEAN_INDEX_SCALE"), (9, u "LOG2_ARRAY_BYTE_INDEX_SCALE"), (5, u "LOG2_ARRAY_CHAR_INDEX_SCALE"), (5, u "LOG2_ARRAY_SHORT_INDEX_SCALE"), (5, u "mismatch"), (12, u "LOG2_ARRAY_FLOAT_INDEX_SCALE"), (24, u "LOG2_ARRAY_DOUBLE_INDEX_SCALE"), (89, u "T_BOOLEAN"), (2, u "T_CHAR"), (1, u "T_FLOAT"), (1, u "T_DOUBLE"), (1, u "T_BYTE"), (1, u "T_SHORT"), (1, u "T_INT"), (1, u "T_LONG"), (1, u "SOFT_MAX_ARRAY_LENGTH"), (44, u "([CI[CII)I")] 38

def k14m0 : Method := { name := "<init>", desc := "()V", sig := { parameters := [], returnType := none }, accessFlags := 2, code := none }
def k14c1 : Code := { maxStack := 8, maxLocals := 8, code := jdk_48_method_16_code, exceptionTable := #[], attributes := #[] }
def k14m1 : Method := { name := "mismatch", desc := "([CI[CII)I", sig := { parameters := [(.array .char), .int, (.array .char), .int, .int], returnType := some .int }, accessFlags := 9, code := some k14c1 }
/-- jdk/internal/util/ArraysSupport -/
def k14 : Class := { plain "jdk/internal/util/ArraysSupport" (some 0) with
  accessFlags := 33
  interfaces := #[]
  cf := some (fileOf pool14 21 #[] #[{ accessFlags := 2, nameIndex := 9, descriptorIndex := 19, attributes := #[] }, { accessFlags := 9, nameIndex := 149, descriptorIndex := 339, attributes := #[] }] 33 16 #[] #[{ accessFlags := 24, nameIndex := 28, descriptorIndex := 29, attributes := #[] }, { accessFlags := 26, nameIndex := 38, descriptorIndex := 39, attributes := #[] }, { accessFlags := 25, nameIndex := 121, descriptorIndex := 25, attributes := #[] }, { accessFlags := 25, nameIndex := 131, descriptorIndex := 25, attributes := #[] }, { accessFlags := 25, nameIndex := 137, descriptorIndex := 25, attributes := #[] }, { accessFlags := 25, nameIndex := 143, descriptorIndex := 25, attributes := #[] }, { accessFlags := 25, nameIndex := 53, descriptorIndex := 25, attributes := #[] }, { accessFlags := 25, nameIndex := 24, descriptorIndex := 25, attributes := #[] }, { accessFlags := 25, nameIndex := 162, descriptorIndex := 25, attributes := #[] }, { accessFlags := 25, nameIndex := 187, descriptorIndex := 25, attributes := #[] }, { accessFlags := 26, nameIndex := 48, descriptorIndex := 25, attributes := #[] }, { accessFlags := 25, nameIndex := 277, descriptorIndex := 25, attributes := #[] }, { accessFlags := 25, nameIndex := 280, descriptorIndex := 25, attributes := #[] }, { accessFlags := 25, nameIndex := 282, descriptorIndex := 25, attributes := #[] }, { accessFlags := 25, nameIndex := 284, descriptorIndex := 25, attributes := #[] }, { accessFlags := 25, nameIndex := 286, descriptorIndex := 25, attributes := #[] }, { accessFlags := 25, nameIndex := 288, descriptorIndex := 25, attributes := #[] }, { accessFlags := 25, nameIndex := 290, descriptorIndex := 25, attributes := #[] }, { accessFlags := 25, nameIndex := 292, descriptorIndex := 25, attributes := #[] }, { accessFlags := 26, nameIndex := 108, descriptorIndex := 109, attributes := #[] }, { accessFlags := 25, nameIndex := 294, descriptorIndex := 25, attributes := #[] }])
  fields := #[{ name := "U", type := (.object "jdk/internal/misc/Unsafe"), accessFlags := 24, slot := 0, constantValue := 0 }, { name := "BIG_ENDIAN", type := .boolean, accessFlags := 26, slot := 1, constantValue := 0 }, { name := "LOG2_ARRAY_BOOLEAN_INDEX_SCALE", type := .int, accessFlags := 25, slot := 2, constantValue := 0 }, { name := "LOG2_ARRAY_BYTE_INDEX_SCALE", type := .int, accessFlags := 25, slot := 3, constantValue := 0 }, { name := "LOG2_ARRAY_CHAR_INDEX_SCALE", type := .int, accessFlags := 25, slot := 4, constantValue := 0 }, { name := "LOG2_ARRAY_SHORT_INDEX_SCALE", type := .int, accessFlags := 25, slot := 5, constantValue := 0 }, { name := "LOG2_ARRAY_INT_INDEX_SCALE", type := .int, accessFlags := 25, slot := 6, constantValue := 0 }, { name := "LOG2_ARRAY_LONG_INDEX_SCALE", type := .int, accessFlags := 25, slot := 7, constantValue := 0 }, { name := "LOG2_ARRAY_FLOAT_INDEX_SCALE", type := .int, accessFlags := 25, slot := 8, constantValue := 0 }, { name := "LOG2_ARRAY_DOUBLE_INDEX_SCALE", type := .int, accessFlags := 25, slot := 9, constantValue := 0 }, { name := "LOG2_BYTE_BIT_SIZE", type := .int, accessFlags := 26, slot := 10, constantValue := 0 }, { name := "T_BOOLEAN", type := .int, accessFlags := 25, slot := 11, constantValue := 0 }, { name := "T_CHAR", type := .int, accessFlags := 25, slot := 12, constantValue := 0 }, { name := "T_FLOAT", type := .int, accessFlags := 25, slot := 13, constantValue := 0 }, { name := "T_DOUBLE", type := .int, accessFlags := 25, slot := 14, constantValue := 0 }, { name := "T_BYTE", type := .int, accessFlags := 25, slot := 15, constantValue := 0 }, { name := "T_SHORT", type := .int, accessFlags := 25, slot := 16, constantValue := 0 }, { name := "T_INT", type := .int, accessFlags := 25, slot := 17, constantValue := 0 }, { name := "T_LONG", type := .int, accessFlags := 25, slot := 18, constantValue := 0 }, { name := "JLA", type := (.object "jdk/internal/access/JavaLangAccess"), accessFlags := 26, slot := 19, constantValue := 0 }, { name := "SOFT_MAX_ARRAY_LENGTH", type := .int, accessFlags := 25, slot := 20, constantValue := 0 }]
  methods := #[k14m0, k14m1]
  instanceTypes := #[]
  staticTypes := #[(.object "jdk/internal/misc/Unsafe"), .boolean, .int, .int, .int, .int, .int, .int, .int, .int, .int, .int, .int, .int, .int, .int, .int, .int, .int, (.object "jdk/internal/access/JavaLangAccess"), .int]
  resolved := Array.replicate 378 none
  statics := none }

def pool15 : Array CpInfo := pool [(1, .class_ 2), (0, u "java/lang/Character"), (18, u "value"), (0, u "C"), (19, .class_ 44), (1, u "java/lang/Object"), (3, .class_ 50), (1, u "java/lang/Character$CharacterCache"), (48, u "(CC)I"), (181, u "compare"), (2, u "$assertionsDisabled"), (0, u "Z"), (21, .class_ 309), (1, u "java/lang/Character$UnicodeBlock"), (73, u "TYPE"), (0, u "Ljava/lang/Class;"), (0, .class_ 386), (0, u "java/io/Serializable"), (0, .class_ 388), (0, u "java/lang/Comparable"), (0, .class_ 390), (0, u "java/lang/constant/Constable"), (0, u "MIN_RADIX"), (0, u "I"), (2, u "MAX_RADIX"), (1, u "MIN_VALUE"), (1, u "MAX_VALUE"), (3, u "UNASSIGNED"), (0, u "B"), (0, u "UPPERCASE_LETTER"), (1, u "LOWERCASE_LETTER"), (0, u "TITLECASE_LETTER"), (1, u "MODIFIER_LETTER"), (1, u "OTHER_LETTER"), (1, u "NON_SPACING_MARK"), (1, u "ENCLOSING_MARK"), (1, u "COMBINING_SPACING_MARK"), (1, u "DECIMAL_DIGIT_NUMBER"), (1, u "LETTER_NUMBER"), (1, u "OTHER_NUMBER"), (1, u "SPACE_SEPARATOR"), (1, u "LINE_SEPARATOR"), (1, u "PARAGRAPH_SEPARATOR"), (1, u "CONTROL"), (1, u "FORMAT"), (1, u "PRIVATE_USE"), (1, u "SURROGATE"), (1, u "DASH_PUNCTUATION"), (1, u "START_PUNCTUATION"), (1, u "END_PUNCTUATION"), (1, u "CONNECTOR_PUNCTUATION"), (1, u "OTHER_PUNCTUATION"), (1, u "MATH_SYMBOL"), (1, u "CURRENCY_SYMBOL"), (1, u "MODIFIER_SYMBOL"), (1, u "OTHER_SYMBOL"), (1, u "INITIAL_QUOTE_PUNCTUATION"), (1, u "FINAL_QUOTE_PUNCTUATION"), (1, u "ERROR"), (1, u "DIRECTIONALITY_UNDEFINED"), (0, u "DIRECTIONALITY_LEFT_TO_RIGHT"), (0, u "DIRECTIONALITY_RIGHT_TO_LEFT"), (0, u "DIRECTIONALITY_RIGHT_TO_LEFT_ARABIC"), (0, u "DIRECTIONALITY_EUROPEAN_NUMBER"), (0, u "DIRECTIONALITY_EUROPEAN_NUMBER_SEPARATOR"), (0, u "DIRECTIONALITY_EUROPEAN_NUMBER_TERMINATOR"), (0, u "DIRECTIONALITY_ARABIC_NUMBER"), (0, u "DIRECTIONALITY_COMMON_NUMBER_SEPARATOR"), (0, u "DIRECTIONALITY_NONSPACING_MARK"), (0, u "DIRECTIONALITY_BOUNDARY_NEUTRAL"), (0, u "DIRECTIONALITY_PARAGRAPH_SEPARATOR"), (0, u "DIRECTIONALITY_SEGMENT_SEPARATOR"), (0, u "DIRECTIONALITY_WHITESPACE"), (0, u "DIRECTIONALITY_OTHER_NEUTRALS"), (0, u "DIRECTIONALITY_LEFT_TO_RIGHT_EMBEDDING"), (0, u "DIRECTIONALITY_LEFT_TO_RIGHT_OVERRIDE"), (0, u "DIRECTIONALITY_RIGHT_TO_LEFT_EMBEDDING"), (0, u "DIRECTIONALITY_RIGHT_TO_LEFT_OVERRIDE"), (1, u "DIRECTIONALITY_POP_DIRECTIONAL_FORMAT"), (0, u "DIRECTIONALITY_LEFT_TO_RIGHT_ISOLATE"), (0, u "DIRECTIONALITY_RIGHT_TO_LEFT_ISOLATE"), (0, u "DIRECTIONALITY_FIRST_STRONG_ISOLATE"), (0, u "DIRECTIONALITY_POP_DIRECTIONAL_ISOLATE"), (0, u "MIN_HIGH_SURROGATE"), (0, u "MAX_HIGH_SURROGATE"), (1, u "MIN_LOW_SURROGATE"), (0, u "MAX_LOW_SURROGATE"), (1, u "MIN_SURROGATE"), (0, u "MAX_SURROGATE"), (0, u "MIN_SUPPLEMENTARY_CODE_POINT"), (0, u "MIN_CODE_POINT"), (0, u "MAX_CODE_POINT"), (1, u "serialVersionUID"), (0, u "J"), (2, u "SIZE"), (0, u "BYTES"), (88, .class_ 596), (0, u "java/lang/Character$UnicodeScript"), (0, .class_ 598), (0, u "java/lang/Character$Subset")] 5

def k15c0 : Code := { maxStack := 2, maxLocals := 2, code := jdk_89_method_98_code, exceptionTable := #[], attributes := #[] }
def k15m0 : Method := { name := "compare", desc := "(CC)I", sig := { parameters := [.char, .char], returnType := some .int }, accessFlags := 9, code := some k15c0 }
/-- java/lang/Character -/
def k15 : Class := { plain "java/lang/Character" (some 0) with
  accessFlags := 49
  interfaces := #[2, 3, 5]
  cf := some (fileOf pool15 1 #[.nestMembers #[48, 595, 307, 597]] #[{ accessFlags := 9, nameIndex := 281, descriptorIndex := 99, attributes := #[] }] 49 42 #[385, 387, 389] #[{ accessFlags := 25, nameIndex := 391, descriptorIndex := 392, attributes := #[] }, { accessFlags := 25, nameIndex := 395, descriptorIndex := 392, attributes := #[] }, { accessFlags := 25, nameIndex := 397, descriptorIndex := 22, attributes := #[] }, { accessFlags := 25, nameIndex := 399, descriptorIndex := 22, attributes := #[] }, { accessFlags := 25, nameIndex := 383, descriptorIndex := 384, attributes := #[] }, { accessFlags := 25, nameIndex := 403, descriptorIndex := 404, attributes := #[] }, { accessFlags := 25, nameIndex := 405, descriptorIndex := 404, attributes := #[] }, { accessFlags := 25, nameIndex := 407, descriptorIndex := 404, attributes := #[] }, { accessFlags := 25, nameIndex := 408, descriptorIndex := 404, attributes := #[] }, { accessFlags := 25, nameIndex := 410, descriptorIndex := 404, attributes := #[] }, { accessFlags := 25, nameIndex := 412, descriptorIndex := 404, attributes := #[] }, { accessFlags := 25, nameIndex := 414, descriptorIndex := 404, attributes := #[] }, { accessFlags := 25, nameIndex := 416, descriptorIndex := 404, attributes := #[] }, { accessFlags := 25, nameIndex := 418, descriptorIndex := 404, attributes := #[] }, { accessFlags := 25, nameIndex := 420, descriptorIndex := 404, attributes := #[] }, { accessFlags := 25, nameIndex := 422, descriptorIndex := 404, attributes := #[] }, { accessFlags := 25, nameIndex := 424, descriptorIndex := 404, attributes := #[] }, { accessFlags := 25, nameIndex := 426, descriptorIndex := 404, attributes := #[] }, { accessFlags := 25, nameIndex := 428, descriptorIndex := 404, attributes := #[] }, { accessFlags := 25, nameIndex := 430, descriptorIndex := 404, attributes := #[] }, { accessFlags := 25, nameIndex := 432, descriptorIndex := 404, attributes := #[] }, { accessFlags := 25, nameIndex := 434, descriptorIndex := 404, attributes := #[] }, { accessFlags := 25, nameIndex := 436, descriptorIndex := 404, attributes := #[] }, { accessFlags := 25, nameIndex := 438, descriptorIndex := 404, attributes := #[] }, { accessFlags := 25, nameIndex := 440, descriptorIndex := 404, attributes := #[] }, { accessFlags := 25, nameIndex := 442, descriptorIndex := 404, attributes := #[] }, { accessFlags := 25, nameIndex := 444, descriptorIndex := 404, attributes := #[] }, { accessFlags := 25, nameIndex := 446, descriptorIndex := 404, attributes := #[] }, { accessFlags := 25, nameIndex := 448, descriptorIndex := 404, attributes := #[] }, { accessFlags := 25, nameIndex := 450, descriptorIndex := 404, attributes := #[] }, { accessFlags := 25, nameIndex := 452, descriptorIndex := 404, attributes := #[] }, { accessFlags := 25, nameIndex := 454, descriptorIndex := 404, attributes := #[] }, { accessFlags := 25, nameIndex := 456, descriptorIndex := 404, attributes := #[] }, { accessFlags := 25, nameIndex := 458, descriptorIndex := 404, attributes := #[] }, { accessFlags := 25, nameIndex := 460, descriptorIndex := 404, attributes := #[] }, { accessFlags := 24, nameIndex := 462, descriptorIndex := 392, attributes := #[] }, { accessFlags := 25, nameIndex := 464, descriptorIndex := 404, attributes := #[] }, { accessFlags := 25, nameIndex := 465, descriptorIndex := 404, attributes := #[] }, { accessFlags := 25, nameIndex := 466, descriptorIndex := 404, attributes := #[] }, { accessFlags := 25, nameIndex := 467, descriptorIndex := 404, attributes := #[] }, { accessFlags := 25, nameIndex := 468, descriptorIndex := 404, attributes := #[] }, { accessFlags := 25, nameIndex := 469, descriptorIndex := 404, attributes := #[] }, { accessFlags := 25, nameIndex := 470, descriptorIndex := 404, attributes := #[] }, { accessFlags := 25, nameIndex := 471, descriptorIndex := 404, attributes := #[] }, { accessFlags := 25, nameIndex := 472, descriptorIndex := 404, attributes := #[] }, { accessFlags := 25, nameIndex := 473, descriptorIndex := 404, attributes := #[] }, { accessFlags := 25, nameIndex := 474, descriptorIndex := 404, attributes := #[] }, { accessFlags := 25, nameIndex := 475, descriptorIndex := 404, attributes := #[] }, { accessFlags := 25, nameIndex := 476, descriptorIndex := 404, attributes := #[] }, { accessFlags := 25, nameIndex := 477, descriptorIndex := 404, attributes := #[] }, { accessFlags := 25, nameIndex := 478, descriptorIndex := 404, attributes := #[] }, { accessFlags := 25, nameIndex := 479, descriptorIndex := 404, attributes := #[] }, { accessFlags := 25, nameIndex := 480, descriptorIndex := 404, attributes := #[] }, { accessFlags := 25, nameIndex := 481, descriptorIndex := 404, attributes := #[] }, { accessFlags := 25, nameIndex := 482, descriptorIndex := 404, attributes := #[] }, { accessFlags := 25, nameIndex := 484, descriptorIndex := 404, attributes := #[] }, { accessFlags := 25, nameIndex := 485, descriptorIndex := 404, attributes := #[] }, { accessFlags := 25, nameIndex := 486, descriptorIndex := 404, attributes := #[] }, { accessFlags := 25, nameIndex := 487, descriptorIndex := 404, attributes := #[] }, { accessFlags := 25, nameIndex := 488, descriptorIndex := 404, attributes := #[] }, { accessFlags := 25, nameIndex := 489, descriptorIndex := 22, attributes := #[] }, { accessFlags := 25, nameIndex := 490, descriptorIndex := 22, attributes := #[] }, { accessFlags := 25, nameIndex := 492, descriptorIndex := 22, attributes := #[] }, { accessFlags := 25, nameIndex := 493, descriptorIndex := 22, attributes := #[] }, { accessFlags := 25, nameIndex := 495, descriptorIndex := 22, attributes := #[] }, { accessFlags := 25, nameIndex := 496, descriptorIndex := 22, attributes := #[] }, { accessFlags := 25, nameIndex := 497, descriptorIndex := 392, attributes := #[] }, { accessFlags := 25, nameIndex := 498, descriptorIndex := 392, attributes := #[] }, { accessFlags := 25, nameIndex := 499, descriptorIndex := 392, attributes := #[] }, { accessFlags := 18, nameIndex := 21, descriptorIndex := 22, attributes := #[] }, { accessFlags := 26, nameIndex := 501, descriptorIndex := 502, attributes := #[] }, { accessFlags := 25, nameIndex := 505, descriptorIndex := 392, attributes := #[] }, { accessFlags := 25, nameIndex := 506, descriptorIndex := 392, attributes := #[] }, { accessFlags := 4120, nameIndex := 284, descriptorIndex := 285, attributes := #[] }])
  fields := #[{ name := "MIN_RADIX", type := .int, accessFlags := 25, slot := 0, constantValue := 0 }, { name := "MAX_RADIX", type := .int, accessFlags := 25, slot := 1, constantValue := 0 }, { name := "MIN_VALUE", type := .char, accessFlags := 25, slot := 2, constantValue := 0 }, { name := "MAX_VALUE", type := .char, accessFlags := 25, slot := 3, constantValue := 0 }, { name := "TYPE", type := (.object "java/lang/Class"), accessFlags := 25, slot := 4, constantValue := 0 }, { name := "UNASSIGNED", type := .byte, accessFlags := 25, slot := 5, constantValue := 0 }, { name := "UPPERCASE_LETTER", type := .byte, accessFlags := 25, slot := 6, constantValue := 0 }, { name := "LOWERCASE_LETTER", type := .byte, accessFlags := 25, slot := 7, constantValue := 0 }, { name := "TITLECASE_LETTER", type := .byte, accessFlags := 25, slot := 8, constantValue := 0 }, { name := "MODIFIER_LETTER", type := .byte, accessFlags := 25, slot := 9, constantValue := 0 }, { name := "OTHER_LETTER", type := .byte, accessFlags := 25, slot := 10, constantValue := 0 }, { name := "NON_SPACING_MARK", type := .byte, accessFlags := 25, slot := 11, constantValue := 0 }, { name := "ENCLOSING_MARK", type := .byte, accessFlags := 25, slot := 12, constantValue := 0 }, { name := "COMBINING_SPACING_MARK", type := .byte, accessFlags := 25, slot := 13, constantValue := 0 }, { name := "DECIMAL_DIGIT_NUMBER", type := .byte, accessFlags := 25, slot := 14, constantValue := 0 }, { name := "LETTER_NUMBER", type := .byte, accessFlags := 25, slot := 15, constantValue := 0 }, { name := "OTHER_NUMBER", type := .byte, accessFlags := 25, slot := 16, constantValue := 0 }, { name := "SPACE_SEPARATOR", type := .byte, accessFlags := 25, slot := 17, constantValue := 0 }, { name := "LINE_SEPARATOR", type := .byte, accessFlags := 25, slot := 18, constantValue := 0 }, { name := "PARAGRAPH_SEPARATOR", type := .byte, accessFlags := 25, slot := 19, constantValue := 0 }, { name := "CONTROL", type := .byte, accessFlags := 25, slot := 20, constantValue := 0 }, { name := "FORMAT", type := .byte, accessFlags := 25, slot := 21, constantValue := 0 }, { name := "PRIVATE_USE", type := .byte, accessFlags := 25, slot := 22, constantValue := 0 }, { name := "SURROGATE", type := .byte, accessFlags := 25, slot := 23, constantValue := 0 }, { name := "DASH_PUNCTUATION", type := .byte, accessFlags := 25, slot := 24, constantValue := 0 }, { name := "START_PUNCTUATION", type := .byte, accessFlags := 25, slot := 25, constantValue := 0 }, { name := "END_PUNCTUATION", type := .byte, accessFlags := 25, slot := 26, constantValue := 0 }, { name := "CONNECTOR_PUNCTUATION", type := .byte, accessFlags := 25, slot := 27, constantValue := 0 }, { name := "OTHER_PUNCTUATION", type := .byte, accessFlags := 25, slot := 28, constantValue := 0 }, { name := "MATH_SYMBOL", type := .byte, accessFlags := 25, slot := 29, constantValue := 0 }, { name := "CURRENCY_SYMBOL", type := .byte, accessFlags := 25, slot := 30, constantValue := 0 }, { name := "MODIFIER_SYMBOL", type := .byte, accessFlags := 25, slot := 31, constantValue := 0 }, { name := "OTHER_SYMBOL", type := .byte, accessFlags := 25, slot := 32, constantValue := 0 }, { name := "INITIAL_QUOTE_PUNCTUATION", type := .byte, accessFlags := 25, slot := 33, constantValue := 0 }, { name := "FINAL_QUOTE_PUNCTUATION", type := .byte, accessFlags := 25, slot := 34, constantValue := 0 }, { name := "ERROR", type := .int, accessFlags := 24, slot := 35, constantValue := 0 }, { name := "DIRECTIONALITY_UNDEFINED", type := .byte, accessFlags := 25, slot := 36, constantValue := 0 }, { name := "DIRECTIONALITY_LEFT_TO_RIGHT", type := .byte, accessFlags := 25, slot := 37, constantValue := 0 }, { name := "DIRECTIONALITY_RIGHT_TO_LEFT", type := .byte, accessFlags := 25, slot := 38, constantValue := 0 }, { name := "DIRECTIONALITY_RIGHT_TO_LEFT_ARABIC", type := .byte, accessFlags := 25, slot := 39, constantValue := 0 }, { name := "DIRECTIONALITY_EUROPEAN_NUMBER", type := .byte, accessFlags := 25, slot := 40, constantValue := 0 }, { name := "DIRECTIONALITY_EUROPEAN_NUMBER_SEPARATOR", type := .byte, accessFlags := 25, slot := 41, constantValue := 0 }, { name := "DIRECTIONALITY_EUROPEAN_NUMBER_TERMINATOR", type := .byte, accessFlags := 25, slot := 42, constantValue := 0 }, { name := "DIRECTIONALITY_ARABIC_NUMBER", type := .byte, accessFlags := 25, slot := 43, constantValue := 0 }, { name := "DIRECTIONALITY_COMMON_NUMBER_SEPARATOR", type := .byte, accessFlags := 25, slot := 44, constantValue := 0 }, { name := "DIRECTIONALITY_NONSPACING_MARK", type := .byte, accessFlags := 25, slot := 45, constantValue := 0 }, { name := "DIRECTIONALITY_BOUNDARY_NEUTRAL", type := .byte, accessFlags := 25, slot := 46, constantValue := 0 }, { name := "DIRECTIONALITY_PARAGRAPH_SEPARATOR", type := .byte, accessFlags := 25, slot := 47, constantValue := 0 }, { name := "DIRECTIONALITY_SEGMENT_SEPARATOR", type := .byte, accessFlags := 25, slot := 48, constantValue := 0 }, { name := "DIRECTIONALITY_WHITESPACE", type := .byte, accessFlags := 25, slot := 49, constantValue := 0 }, { name := "DIRECTIONALITY_OTHER_NEUTRALS", type := .byte, accessFlags := 25, slot := 50, constantValue := 0 }, { name := "DIRECTIONALITY_LEFT_TO_RIGHT_EMBEDDING", type := .byte, accessFlags := 25, slot := 51, constantValue := 0 }, { name := "DIRECTIONALITY_LEFT_TO_RIGHT_OVERRIDE", type := .byte, accessFlags := 25, slot := 52, constantValue := 0 }, { name := "DIRECTIONALITY_RIGHT_TO_LEFT_EMBEDDING", type := .byte, accessFlags := 25, slot := 53, constantValue := 0 }, { name := "DIRECTIONALITY_RIGHT_TO_LEFT_OVERRIDE", type := .byte, accessFlags := 25, slot := 54, constantValue := 0 }, { name := "DIRECTIONALITY_POP_DIRECTIONAL_FORMAT", type := .byte, accessFlags := 25, slot := 55, constantValue := 0 }, { name := "DIRECTIONALITY_LEFT_TO_RIGHT_ISOLATE", type := .byte, accessFlags := 25, slot := 56, constantValue := 0 }, { name := "DIRECTIONALITY_RIGHT_TO_LEFT_ISOLATE", type := .byte, accessFlags := 25, slot := 57, constantValue := 0 }, { name := "DIRECTIONALITY_FIRST_STRONG_ISOLATE", type := .byte, accessFlags := 25, slot := 58, constantValue := 0 }, { name := "DIRECTIONALITY_POP_DIRECTIONAL_ISOLATE", type := .byte, accessFlags := 25, slot := 59, constantValue := 0 }, { name := "MIN_HIGH_SURROGATE", type := .char, accessFlags := 25, slot := 60, constantValue := 0 }, { name := "MAX_HIGH_SURROGATE", type := .char, accessFlags := 25, slot := 61, constantValue := 0 }, { name := "MIN_LOW_SURROGATE", type := .char, accessFlags := 25, slot := 62, constantValue := 0 }, { name := "MAX_LOW_SURROGATE", type := .char, accessFlags := 25, slot := 63, constantValue := 0 }, { name := "MIN_SURROGATE", type := .char, accessFlags := 25, slot := 64, constantValue := 0 }, { name := "MAX_SURROGATE", type := .char, accessFlags := 25, slot := 65, constantValue := 0 }, { name := "MIN_SUPPLEMENTARY_CODE_POINT", type := .int, accessFlags := 25, slot := 66, constantValue := 0 }, { name := "MIN_CODE_POINT", type := .int, accessFlags := 25, slot := 67, constantValue := 0 }, { name := "MAX_CODE_POINT", type := .int, accessFlags := 25, slot := 68, constantValue := 0 }, { name := "value", type := .char, accessFlags := 18, slot := 0, constantValue := 0 }, { name := "serialVersionUID", type := .long, accessFlags := 26, slot := 69, constantValue := 0 }, { name := "SIZE", type := .int, accessFlags := 25, slot := 70, constantValue := 0 }, { name := "BYTES", type := .int, accessFlags := 25, slot := 71, constantValue := 0 }, { name := "$assertionsDisabled", type := .boolean, accessFlags := 4120, slot := 72, constantValue := 0 }]
  methods := #[k15m0]
  instanceTypes := #[.char]
  staticTypes := #[.int, .int, .char, .char, (.object "java/lang/Class"), .byte, .byte, .byte, .byte, .byte, .byte, .byte, .byte, .byte, .byte, .byte, .byte, .byte, .byte, .byte, .byte, .byte, .byte, .byte, .byte, .byte, .byte, .byte, .byte, .byte, .byte, .byte, .byte, .byte, .byte, .int, .byte, .byte, .byte, .byte, .byte, .byte, .byte, .byte, .byte, .byte, .byte, .byte, .byte, .byte, .byte, .byte, .byte, .byte, .byte, .byte, .byte, .byte, .byte, .byte, .char, .char, .char, .char, .char, .char, .int, .int, .int, .long, .int, .int, .boolean]
  resolved := Array.replicate 604 none
  statics := none }

def pool16 : Array CpInfo := pool [(1, u "java/lang/Cloneable"), (0, .class_ 1), (0, u "java/lang/Object"), (0, .class_ 3)] 3

/-- java/lang/Cloneable -/
def k16 : Class := { plain "java/lang/Cloneable" (some 0) with
  accessFlags := 1537
  interfaces := #[]
  cf := some (fileOf pool16 2 #[] #[] 1537 4 #[] #[])
  fields := #[]
  methods := #[]
  instanceTypes := #[]
  staticTypes := #[]
  resolved := Array.replicate 8 none
  statics := none }

/-- the primitive byte -/
def k17 : Class := { plain "byte" none with kind := .primitive 'B', accessFlags := 0x411 }
/-- [B -/
def k18 : Class := { plain "[B" (some 0) with kind := .array 17 .byte, interfaces := #[16, 2], accessFlags := 1041 }

/-- the primitive char -/
def k19 : Class := { plain "char" none with kind := .primitive 'C', accessFlags := 0x411 }
/-- [C -/
def k20 : Class := { plain "[C" (some 0) with kind := .array 19 .char, interfaces := #[16, 2], accessFlags := 1041 }

/-- the primitive int -/
def k21 : Class := { plain "int" none with kind := .primitive 'I', accessFlags := 0x411 }
/-- [I -/
def k22 : Class := { plain "[I" (some 0) with kind := .array 21 .int, interfaces := #[16, 2], accessFlags := 1041 }

/-- [Ljava/lang/String; -/
def k23 : Class := { plain "[Ljava/lang/String;" (some 0) with kind := .array 7 (.object "java/lang/String"), interfaces := #[16, 2], accessFlags := 1041 }

def heap : Heap := #[{ cls := 7, slots := #[.long 0, .int 1, .null, .int 0, .null, .int 0, .int 0], vm := .statics 7 },
  { cls := 12, slots := #[.null, .null, .null], vm := .statics 12 }]
def classes : Array Class := #[k0, k1, k2, k3, k4, k5, k6, k7, k8, k9, k10, k11, k12, k13, k14, k15, k16, k17, k18, k19, k20, k21, k22, k23]
def interned : List (Array UInt16 × Addr) := []
def slotsUsed : Nat := 10
def theMethod : MethodId := ⟨1, 1⟩
def args0 : Array Value := #[.int 5, .int 262, .int 7, .int 9, .int 3, .int 4]
def aboutOver (below : List Frame) : State where
  vm := { classes := classes, interned := interned.toArray }
  heap := heap
  slotsUsed := slotsUsed
  threads := #[{ frames := .invoking theMethod args0 :: below }]
def below0 : List Frame := [.native { method := ⟨0, 0⟩, args := #[] }]
def about1 : State := aboutOver below0
def p0 : Program := .bare "" "" ""
def e0 : Env := launch0.env 0 0 0
theorem w_frames : about1.frames = Frame.invoking theMethod args0 :: below0 := rfl
set_option maxRecDepth 65536 in
theorem w_args : argsFit about1.vm theMethod args0 = true := by decide +kernel
set_option maxRecDepth 65536 in
theorem w_heap : heapFits about1 = true := by decide +kernel
set_option maxRecDepth 65536 in
theorem w_runnable : about1.curStatus? = some .runnable := by decide +kernel
set_option maxRecDepth 65536 in
theorem w_alone : about1.alone = true := by decide +kernel
set_option maxRecDepth 65536 in
theorem w_named : about1.methodNamed? x = some theMethod := by decide +kernel
set_option maxRecDepth 65536 in
theorem w_hears : about1.hears theMethod below0 = true := by decide +kernel
set_option maxRecDepth 65536 in
theorem w_ripe : about1.ripe theMethod args0 below0 = true := by decide +kernel
theorem w_running : about1.status = .running := rfl
set_option maxRecDepth 65536 in
theorem w_room : about1.hasRoom e0.platform room_1 = true :=
  launch0.hasRoom_least _ room_1 (by decide +kernel) (by decide +kernel) (by decide +kernel) (by decide +kernel) (by decide +kernel) (by decide +kernel)
theorem allAtoms_all (ts : List Jvm.Cond) (a : Array Jvm.Value) (st : Jvm.State) : (allAtoms ts).before a st = ts.all (fun c => c.before a st) := by
  induction ts with
  | nil => rfl
  | cons c t ih =>
    show (Jvm.Cond.and c (allAtoms t)).before a st = _
    rw [Jvm.Cond.before_and, ih, List.all_cons]
def words1 : List Jvm.Cond := Jvm.Cond.code x code maxLocals ret :: tables_1
/-- a 'code' word, met by the world's own term for the bytes: nothing is compared byte by byte -/
theorem code_word {y : MethodName} {bytes : ByteArray} {mx : Nat} {rt : Option FieldType} {a : Array Value} {s : State} {m : MethodId} {meth : Method} {c : Code} (h1 : s.methodNamed? y = some m) (h2 : s.vm.method? m = some meth) (h3 : meth.code = some c) (h4 : c.code = bytes)
    (h5 : (c.maxLocals == mx && c.exceptionTable.isEmpty && decide (c.maxStack ≤ mostOperands) && decide (meth.sig.returnType = rt) && !meth.locks && decide (parseMethodDescriptor y.desc = some meth.sig)) = true) : (Jvm.Cond.code y bytes mx rt).before a s = true := by
  simp only [Bool.and_eq_true, beq_iff_eq, Bool.not_eq_true', decide_eq_true_eq] at h5
  obtain ⟨⟨⟨⟨⟨g1, g2⟩, g3⟩, g4⟩, g5⟩, g6⟩ := h5
  simp [Cond.before, Cond.holds, Cond.value, h1, h2, h3, h4, g1, g2, g3, g4, g5, g6]
def isCode : Jvm.Cond → Bool
  | .code _ _ _ _ => true
  | _ => false
theorem all_split {L : List Jvm.Cond} {P : Jvm.Cond → Bool} (h1 : L.all (fun c => isCode c || P c) = true) (h2 : ∀ c ∈ L.filter isCode, P c = true) : L.all P = true := by
  refine List.all_eq_true.mpr fun c hc => ?_
  have h := List.all_eq_true.mp h1 c hc
  rcases Bool.eq_false_or_eq_true (isCode c) with hi | hi
  · exact h2 c (List.mem_filter.mpr ⟨hc, hi⟩)
  · simpa [hi] using h
set_option maxRecDepth 65536 in
theorem w_c0 : (Jvm.Cond.code x code maxLocals ret).before args0 about1 = true := code_word (m := ⟨1, 1⟩) (meth := k1m1) (c := k1c1) (by decide +kernel) rfl rfl rfl (by decide +kernel)
set_option maxRecDepth 65536 in
theorem w_c1 : (Jvm.Cond.code ({ cls := "com/example/upkeep_window/upkeepwindow/policy/OpenNamesHeightPinLaw", name := "name", desc := "(I)Ljava/lang/String;" } : Jvm.MethodName) method_4_code (5 : Nat) (Option.some (Jvm.ClassFile.FieldType.object "java/lang/String"))).before args0 about1 = true := code_word (m := ⟨1, 3⟩) (meth := k1m3) (c := k1c3) (by decide +kernel) rfl rfl rfl (by decide +kernel)
set_option maxRecDepth 65536 in
theorem w_c2 : (Jvm.Cond.code ({ cls := "java/lang/String", name := "<init>", desc := "([C)V" } : Jvm.MethodName) jdk_42_method_3_code (2 : Nat) (Option.none : Option Jvm.ClassFile.FieldType)).before args0 about1 = true := code_word (m := ⟨7, 1⟩) (meth := k7m1) (c := k7c1) (by decide +kernel) rfl rfl rfl (by decide +kernel)
set_option maxRecDepth 65536 in
theorem w_c3 : (Jvm.Cond.code ({ cls := "java/lang/String", name := "<init>", desc := "([CIILjava/lang/Void;)V" } : Jvm.MethodName) jdk_42_method_149_code (6 : Nat) (Option.none : Option Jvm.ClassFile.FieldType)).before args0 about1 = true := code_word (m := ⟨7, 6⟩) (meth := k7m6) (c := k7c6) (by decide +kernel) rfl rfl rfl (by decide +kernel)
set_option maxRecDepth 65536 in
theorem w_c4 : (Jvm.Cond.code ({ cls := "java/lang/Object", name := "<init>", desc := "()V" } : Jvm.MethodName) object_method_1_code (1 : Nat) (Option.none : Option Jvm.ClassFile.FieldType)).before args0 about1 = true := code_word (m := ⟨0, 0⟩) (meth := k0m0) (c := k0c0) (by decide +kernel) rfl rfl rfl (by decide +kernel)
set_option maxRecDepth 65536 in
theorem w_c5 : (Jvm.Cond.code ({ cls := "java/lang/StringUTF16", name := "compress", desc := "([CII)[B" } : Jvm.MethodName) jdk_52_method_16_code (6 : Nat) (Option.some (Jvm.ClassFile.FieldType.array Jvm.ClassFile.FieldType.byte))).before args0 about1 = true := code_word (m := ⟨8, 2⟩) (meth := k8m2) (c := k8c2) (by decide +kernel) rfl rfl rfl (by decide +kernel)
set_option maxRecDepth 65536 in
theorem w_c6 : (Jvm.Cond.code ({ cls := "java/lang/StringUTF16", name := "compress", desc := "([CI[BII)I" } : Jvm.MethodName) jdk_52_method_21_code (7 : Nat) (Option.some Jvm.ClassFile.FieldType.int)).before args0 about1 = true := code_word (m := ⟨8, 3⟩) (meth := k8m3) (c := k8c3) (by decide +kernel) rfl rfl rfl (by decide +kernel)
set_option maxRecDepth 65536 in
theorem w_c7 : (Jvm.Cond.code ({ cls := "java/lang/StringUTF16", name := "coderFromArrayLen", desc := "([BI)B" } : Jvm.MethodName) jdk_52_method_15_code (2 : Nat) (Option.some Jvm.ClassFile.FieldType.byte)).before args0 about1 = true := code_word (m := ⟨8, 1⟩) (meth := k8m1) (c := k8c1) (by decide +kernel) rfl rfl rfl (by decide +kernel)
set_option maxRecDepth 65536 in
theorem w_c8 : (Jvm.Cond.code ({ cls := "java/lang/String", name := "valueOf", desc := "(C)Ljava/lang/String;" } : Jvm.MethodName) jdk_42_method_139_code (1 : Nat) (Option.some (Jvm.ClassFile.FieldType.object "java/lang/String"))).before args0 about1 = true := code_word (m := ⟨7, 5⟩) (meth := k7m5) (c := k7c5) (by decide +kernel) rfl rfl rfl (by decide +kernel)
set_option maxRecDepth 65536 in
theorem w_c9 : (Jvm.Cond.code ({ cls := "java/lang/StringLatin1", name := "canEncode", desc := "(C)Z" } : Jvm.MethodName) jdk_43_method_3_code (1 : Nat) (Option.some Jvm.ClassFile.FieldType.boolean)).before args0 about1 = true := code_word (m := ⟨9, 1⟩) (meth := k9m1) (c := k9c1) (by decide +kernel) rfl rfl rfl (by decide +kernel)
set_option maxRecDepth 65536 in
theorem w_c10 : (Jvm.Cond.code ({ cls := "java/lang/StringLatin1", name := "toBytes", desc := "(C)[B" } : Jvm.MethodName) jdk_43_method_46_code (1 : Nat) (Option.some (Jvm.ClassFile.FieldType.array Jvm.ClassFile.FieldType.byte))).before args0 about1 = true := code_word (m := ⟨9, 4⟩) (meth := k9m4) (c := k9c4) (by decide +kernel) rfl rfl rfl (by decide +kernel)
set_option maxRecDepth 65536 in
theorem w_c11 : (Jvm.Cond.code ({ cls := "java/lang/String", name := "<init>", desc := "([BB)V" } : Jvm.MethodName) jdk_42_method_151_code (3 : Nat) (Option.none : Option Jvm.ClassFile.FieldType)).before args0 about1 = true := code_word (m := ⟨7, 7⟩) (meth := k7m7) (c := k7c7) (by decide +kernel) rfl rfl rfl (by decide +kernel)
set_option maxRecDepth 65536 in
theorem w_c12 : (Jvm.Cond.code ({ cls := "java/lang/Math", name := "min", desc := "(II)I" } : Jvm.MethodName) jdk_29_method_69_code (2 : Nat) (Option.some Jvm.ClassFile.FieldType.int)).before args0 about1 = true := code_word (m := ⟨10, 2⟩) (meth := k10m2) (c := k10c2) (by decide +kernel) rfl rfl rfl (by decide +kernel)
set_option maxRecDepth 65536 in
theorem w_c13 : (Jvm.Cond.code ({ cls := "com/example/upkeep_window/upkeepwindow/policy/OpenNames", name := "<init>", desc := "()V" } : Jvm.MethodName) prog_33_method_1_code (1 : Nat) (Option.none : Option Jvm.ClassFile.FieldType)).before args0 about1 = true := code_word (m := ⟨11, 0⟩) (meth := k11m0) (c := k11c0) (by decide +kernel) rfl rfl rfl (by decide +kernel)
set_option maxRecDepth 65536 in
theorem w_c14 : (Jvm.Cond.code ({ cls := "com/example/upkeep_window/upkeepwindow/policy/OpenNames", name := "open", desc := "()V" } : Jvm.MethodName) prog_33_method_2_code (1 : Nat) (Option.none : Option Jvm.ClassFile.FieldType)).before args0 about1 = true := code_word (m := ⟨11, 1⟩) (meth := k11m1) (c := k11c1) (by decide +kernel) rfl rfl rfl (by decide +kernel)
set_option maxRecDepth 65536 in
theorem w_c15 : (Jvm.Cond.code ({ cls := "com/example/upkeep_window/upkeepwindow/policy/OpenNamesHeightPinLaw", name := "step", desc := "(Lcom/example/upkeep_window/upkeepwindow/policy/OpenNames;[Ljava/lang/String;III)V" } : Jvm.MethodName) method_3_code (5 : Nat) (Option.none : Option Jvm.ClassFile.FieldType)).before args0 about1 = true := code_word (m := ⟨1, 2⟩) (meth := k1m2) (c := k1c2) (by decide +kernel) rfl rfl rfl (by decide +kernel)
set_option maxRecDepth 65536 in
theorem w_c16 : (Jvm.Cond.code ({ cls := "com/example/upkeep_window/upkeepwindow/policy/OpenNames", name := "height", desc := "()I" } : Jvm.MethodName) prog_33_method_5_code (1 : Nat) (Option.some Jvm.ClassFile.FieldType.int)).before args0 about1 = true := code_word (m := ⟨11, 4⟩) (meth := k11m4) (c := k11c4) (by decide +kernel) rfl rfl rfl (by decide +kernel)
set_option maxRecDepth 65536 in
theorem w_c17 : (Jvm.Cond.code ({ cls := "com/example/upkeep_window/upkeepwindow/policy/OpenNames", name := "height", desc := "(I)I" } : Jvm.MethodName) prog_33_method_12_code (2 : Nat) (Option.some Jvm.ClassFile.FieldType.int)).before args0 about1 = true := code_word (m := ⟨11, 11⟩) (meth := k11m11) (c := k11c11) (by decide +kernel) rfl rfl rfl (by decide +kernel)
set_option maxRecDepth 65536 in
theorem w_c18 : (Jvm.Cond.code ({ cls := "com/example/upkeep_window/upkeepwindow/policy/OpenNames", name := "close", desc := "()V" } : Jvm.MethodName) prog_33_method_4_code (1 : Nat) (Option.none : Option Jvm.ClassFile.FieldType)).before args0 about1 = true := code_word (m := ⟨11, 3⟩) (meth := k11m3) (c := k11c3) (by decide +kernel) rfl rfl rfl (by decide +kernel)
set_option maxRecDepth 65536 in
theorem w_c19 : (Jvm.Cond.code ({ cls := "com/example/upkeep_window/upkeepwindow/policy/OpenNamesHeightPinLaw", name := "counted", desc := "([Ljava/lang/String;III)I" } : Jvm.MethodName) method_6_code (5 : Nat) (Option.some Jvm.ClassFile.FieldType.int)).before args0 about1 = true := code_word (m := ⟨1, 5⟩) (meth := k1m5) (c := k1c5) (by decide +kernel) rfl rfl rfl (by decide +kernel)
set_option maxRecDepth 65536 in
theorem w_c20 : (Jvm.Cond.code ({ cls := "com/example/upkeep_window/upkeepwindow/policy/OpenNamesHeightPinLaw", name := "expected", desc := "(I)I" } : Jvm.MethodName) method_7_code (1 : Nat) (Option.some Jvm.ClassFile.FieldType.int)).before args0 about1 = true := code_word (m := ⟨1, 6⟩) (meth := k1m6) (c := k1c6) (by decide +kernel) rfl rfl rfl (by decide +kernel)
set_option maxRecDepth 65536 in
theorem w_c21 : (Jvm.Cond.code ({ cls := "com/example/upkeep_window/upkeepwindow/policy/OpenNames", name := "add", desc := "(Ljava/lang/String;)Z" } : Jvm.MethodName) prog_33_method_3_code (6 : Nat) (Option.some Jvm.ClassFile.FieldType.boolean)).before args0 about1 = true := code_word (m := ⟨11, 2⟩) (meth := k11m2) (c := k11c2) (by decide +kernel) rfl rfl rfl (by decide +kernel)
set_option maxRecDepth 65536 in
theorem w_c22 : (Jvm.Cond.code ({ cls := "com/example/upkeep_window/upkeepwindow/policy/OpenNames", name := "start", desc := "(I)I" } : Jvm.MethodName) prog_33_method_13_code (2 : Nat) (Option.some Jvm.ClassFile.FieldType.int)).before args0 about1 = true := code_word (m := ⟨11, 12⟩) (meth := k11m12) (c := k11c12) (by decide +kernel) rfl rfl rfl (by decide +kernel)
set_option maxRecDepth 65536 in
theorem w_c23 : (Jvm.Cond.code ({ cls := "java/lang/String", name := "length", desc := "()I" } : Jvm.MethodName) jdk_42_method_54_code (1 : Nat) (Option.some Jvm.ClassFile.FieldType.int)).before args0 about1 = true := code_word (m := ⟨7, 2⟩) (meth := k7m2) (c := k7c2) (by decide +kernel) rfl rfl rfl (by decide +kernel)
set_option maxRecDepth 65536 in
theorem w_c24 : (Jvm.Cond.code ({ cls := "java/lang/String", name := "coder", desc := "()B" } : Jvm.MethodName) jdk_42_method_152_code (1 : Nat) (Option.some Jvm.ClassFile.FieldType.byte)).before args0 about1 = true := code_word (m := ⟨7, 8⟩) (meth := k7m8) (c := k7c8) (by decide +kernel) rfl rfl rfl (by decide +kernel)
set_option maxRecDepth 65536 in
theorem w_c25 : (Jvm.Cond.code ({ cls := "java/lang/String", name := "getChars", desc := "(II[CI)V" } : Jvm.MethodName) jdk_42_method_61_code (5 : Nat) (Option.none : Option Jvm.ClassFile.FieldType)).before args0 about1 = true := code_word (m := ⟨7, 3⟩) (meth := k7m3) (c := k7c3) (by decide +kernel) rfl rfl rfl (by decide +kernel)
set_option maxRecDepth 65536 in
theorem w_c26 : (Jvm.Cond.code ({ cls := "java/lang/String", name := "checkBoundsBeginEnd", desc := "(III)V" } : Jvm.MethodName) jdk_42_method_158_code (3 : Nat) (Option.none : Option Jvm.ClassFile.FieldType)).before args0 about1 = true := code_word (m := ⟨7, 11⟩) (meth := k7m11) (c := k7c11) (by decide +kernel) rfl rfl rfl (by decide +kernel)
set_option maxRecDepth 65536 in
theorem w_c27 : (Jvm.Cond.code ({ cls := "jdk/internal/util/Preconditions", name := "checkFromToIndex", desc := "(IIILjava/util/function/BiFunction;)I" } : Jvm.MethodName) jdk_41_method_12_code (4 : Nat) (Option.some Jvm.ClassFile.FieldType.int)).before args0 about1 = true := code_word (m := ⟨12, 1⟩) (meth := k12m1) (c := k12c1) (by decide +kernel) rfl rfl rfl (by decide +kernel)
set_option maxRecDepth 65536 in
theorem w_c28 : (Jvm.Cond.code ({ cls := "java/lang/String", name := "checkBoundsOffCount", desc := "(III)I" } : Jvm.MethodName) jdk_42_method_157_code (3 : Nat) (Option.some Jvm.ClassFile.FieldType.int)).before args0 about1 = true := code_word (m := ⟨7, 10⟩) (meth := k7m10) (c := k7c10) (by decide +kernel) rfl rfl rfl (by decide +kernel)
set_option maxRecDepth 65536 in
theorem w_c29 : (Jvm.Cond.code ({ cls := "jdk/internal/util/Preconditions", name := "checkFromIndexSize", desc := "(IIILjava/util/function/BiFunction;)I" } : Jvm.MethodName) jdk_41_method_13_code (4 : Nat) (Option.some Jvm.ClassFile.FieldType.int)).before args0 about1 = true := code_word (m := ⟨12, 2⟩) (meth := k12m2) (c := k12c2) (by decide +kernel) rfl rfl rfl (by decide +kernel)
set_option maxRecDepth 65536 in
theorem w_c30 : (Jvm.Cond.code ({ cls := "java/lang/String", name := "isLatin1", desc := "()Z" } : Jvm.MethodName) jdk_42_method_154_code (1 : Nat) (Option.some Jvm.ClassFile.FieldType.boolean)).before args0 about1 = true := code_word (m := ⟨7, 9⟩) (meth := k7m9) (c := k7c9) (by decide +kernel) rfl rfl rfl (by decide +kernel)
set_option maxRecDepth 65536 in
theorem w_c31 : (Jvm.Cond.code ({ cls := "java/lang/StringLatin1", name := "getChars", desc := "([BII[CI)V" } : Jvm.MethodName) jdk_43_method_11_code (5 : Nat) (Option.none : Option Jvm.ClassFile.FieldType)).before args0 about1 = true := code_word (m := ⟨9, 2⟩) (meth := k9m2) (c := k9c2) (by decide +kernel) rfl rfl rfl (by decide +kernel)
set_option maxRecDepth 65536 in
theorem w_c32 : (Jvm.Cond.code ({ cls := "java/lang/StringLatin1", name := "inflate", desc := "([BI[CII)V" } : Jvm.MethodName) jdk_43_method_49_code (6 : Nat) (Option.none : Option Jvm.ClassFile.FieldType)).before args0 about1 = true := code_word (m := ⟨9, 5⟩) (meth := k9m5) (c := k9c5) (by decide +kernel) rfl rfl rfl (by decide +kernel)
set_option maxRecDepth 65536 in
theorem w_c33 : (Jvm.Cond.code ({ cls := "com/example/upkeep_window/upkeepwindow/policy/OpenNames", name := "holds", desc := "(III)Z" } : Jvm.MethodName) prog_33_method_6_code (6 : Nat) (Option.some Jvm.ClassFile.FieldType.boolean)).before args0 about1 = true := code_word (m := ⟨11, 5⟩) (meth := k11m5) (c := k11c5) (by decide +kernel) rfl rfl rfl (by decide +kernel)
set_option maxRecDepth 65536 in
theorem w_c34 : (Jvm.Cond.code ({ cls := "com/example/upkeep_window/upkeepwindow/policy/OpenNames", name := "insert", desc := "(II)I" } : Jvm.MethodName) prog_33_method_7_code (5 : Nat) (Option.some Jvm.ClassFile.FieldType.int)).before args0 about1 = true := code_word (m := ⟨11, 6⟩) (meth := k11m6) (c := k11c6) (by decide +kernel) rfl rfl rfl (by decide +kernel)
set_option maxRecDepth 65536 in
theorem w_c35 : (Jvm.Cond.code ({ cls := "java/util/Arrays", name := "compare", desc := "([CII[CII)I" } : Jvm.MethodName) jdk_65_method_208_code (9 : Nat) (Option.some Jvm.ClassFile.FieldType.int)).before args0 about1 = true := code_word (m := ⟨13, 2⟩) (meth := k13m2) (c := k13c2) (by decide +kernel) rfl rfl rfl (by decide +kernel)
set_option maxRecDepth 65536 in
theorem w_c36 : (Jvm.Cond.code ({ cls := "java/util/Arrays", name := "rangeCheck", desc := "(III)V" } : Jvm.MethodName) jdk_65_method_30_code (3 : Nat) (Option.none : Option Jvm.ClassFile.FieldType)).before args0 about1 = true := code_word (m := ⟨13, 1⟩) (meth := k13m1) (c := k13c1) (by decide +kernel) rfl rfl rfl (by decide +kernel)
set_option maxRecDepth 65536 in
theorem w_c37 : (Jvm.Cond.code ({ cls := "jdk/internal/util/ArraysSupport", name := "mismatch", desc := "([CI[CII)I" } : Jvm.MethodName) jdk_48_method_16_code (8 : Nat) (Option.some Jvm.ClassFile.FieldType.int)).before args0 about1 = true := code_word (m := ⟨14, 1⟩) (meth := k14m1) (c := k14c1) (by decide +kernel) rfl rfl rfl (by decide +kernel)
set_option maxRecDepth 65536 in
theorem w_c38 : (Jvm.Cond.code ({ cls := "com/example/upkeep_window/upkeepwindow/policy/OpenNames", name := "balanced", desc := "(I)I" } : Jvm.MethodName) prog_33_method_8_code (5 : Nat) (Option.some Jvm.ClassFile.FieldType.int)).before args0 about1 = true := code_word (m := ⟨11, 7⟩) (meth := k11m7) (c := k11c7) (by decide +kernel) rfl rfl rfl (by decide +kernel)
set_option maxRecDepth 65536 in
theorem w_c39 : (Jvm.Cond.code ({ cls := "com/example/upkeep_window/upkeepwindow/policy/OpenNames", name := "measure", desc := "(I)V" } : Jvm.MethodName) prog_33_method_11_code (2 : Nat) (Option.none : Option Jvm.ClassFile.FieldType)).before args0 about1 = true := code_word (m := ⟨11, 10⟩) (meth := k11m10) (c := k11c10) (by decide +kernel) rfl rfl rfl (by decide +kernel)
set_option maxRecDepth 65536 in
theorem w_c40 : (Jvm.Cond.code ({ cls := "java/lang/Math", name := "max", desc := "(II)I" } : Jvm.MethodName) jdk_29_method_65_code (2 : Nat) (Option.some Jvm.ClassFile.FieldType.int)).before args0 about1 = true := code_word (m := ⟨10, 1⟩) (meth := k10m1) (c := k10c1) (by decide +kernel) rfl rfl rfl (by decide +kernel)
set_option maxRecDepth 65536 in
theorem w_c41 : (Jvm.Cond.code ({ cls := "java/lang/Character", name := "compare", desc := "(CC)I" } : Jvm.MethodName) jdk_89_method_98_code (2 : Nat) (Option.some Jvm.ClassFile.FieldType.int)).before args0 about1 = true := code_word (m := ⟨15, 0⟩) (meth := k15m0) (c := k15c0) (by decide +kernel) rfl rfl rfl (by decide +kernel)
set_option maxRecDepth 65536 in
theorem w_c42 : (Jvm.Cond.code ({ cls := "com/example/upkeep_window/upkeepwindow/policy/OpenNames", name := "rotatedRight", desc := "(I)I" } : Jvm.MethodName) prog_33_method_9_code (3 : Nat) (Option.some Jvm.ClassFile.FieldType.int)).before args0 about1 = true := code_word (m := ⟨11, 8⟩) (meth := k11m8) (c := k11c8) (by decide +kernel) rfl rfl rfl (by decide +kernel)
set_option maxRecDepth 65536 in
theorem w_c43 : (Jvm.Cond.code ({ cls := "com/example/upkeep_window/upkeepwindow/policy/OpenNames", name := "rotatedLeft", desc := "(I)I" } : Jvm.MethodName) prog_33_method_10_code (3 : Nat) (Option.some Jvm.ClassFile.FieldType.int)).before args0 about1 = true := code_word (m := ⟨11, 9⟩) (meth := k11m9) (c := k11c9) (by decide +kernel) rfl rfl rfl (by decide +kernel)
set_option maxRecDepth 65536 in
theorem w_c44 : (Jvm.Cond.code ({ cls := "com/example/upkeep_window/upkeepwindow/policy/OpenNamesHeightPinLaw", name := "differs", desc := "([Ljava/lang/String;III)Z" } : Jvm.MethodName) method_5_code (4 : Nat) (Option.some Jvm.ClassFile.FieldType.boolean)).before args0 about1 = true := code_word (m := ⟨1, 4⟩) (meth := k1m4) (c := k1c4) (by decide +kernel) rfl rfl rfl (by decide +kernel)
set_option maxRecDepth 65536 in
theorem w_c45 : (Jvm.Cond.code ({ cls := "java/lang/String", name := "equals", desc := "(Ljava/lang/Object;)Z" } : Jvm.MethodName) jdk_42_method_66_code (3 : Nat) (Option.some Jvm.ClassFile.FieldType.boolean)).before args0 about1 = true := code_word (m := ⟨7, 4⟩) (meth := k7m4) (c := k7c4) (by decide +kernel) rfl rfl rfl (by decide +kernel)
set_option maxRecDepth 65536 in
theorem w_c46 : (Jvm.Cond.code ({ cls := "java/lang/StringLatin1", name := "equals", desc := "([B[B)Z" } : Jvm.MethodName) jdk_43_method_13_code (3 : Nat) (Option.some Jvm.ClassFile.FieldType.boolean)).before args0 about1 = true := code_word (m := ⟨9, 3⟩) (meth := k9m3) (c := k9c3) (by decide +kernel) rfl rfl rfl (by decide +kernel)
def codes1 : List Jvm.Cond := [Jvm.Cond.code x code maxLocals ret, Jvm.Cond.code ({ cls := "com/example/upkeep_window/upkeepwindow/policy/OpenNamesHeightPinLaw", name := "name", desc := "(I)Ljava/lang/String;" } : Jvm.MethodName) method_4_code (5 : Nat) (Option.some (Jvm.ClassFile.FieldType.object "java/lang/String")), Jvm.Cond.code ({ cls := "java/lang/String", name := "<init>", desc := "([C)V" } : Jvm.MethodName) jdk_42_method_3_code (2 : Nat) (Option.none : Option Jvm.ClassFile.FieldType), Jvm.Cond.code ({ cls := "java/lang/String", name := "<init>", desc := "([CIILjava/lang/Void;)V" } : Jvm.MethodName) jdk_42_method_149_code (6 : Nat) (Option.none : Option Jvm.ClassFile.FieldType), Jvm.Cond.code ({ cls := "java/lang/Object", name := "<init>", desc := "()V" } : Jvm.MethodName) object_method_1_code (1 : Nat) (Option.none : Option Jvm.ClassFile.FieldType), Jvm.Cond.code ({ cls := "java/lang/StringUTF16", name := "compress", desc := "([CII)[B" } : Jvm.MethodName) jdk_52_method_16_code (6 : Nat) (Option.some (Jvm.ClassFile.FieldType.array Jvm.ClassFile.FieldType.byte)), Jvm.Cond.code ({ cls := "java/lang/StringUTF16", name := "compress", desc := "([CI[BII)I" } : Jvm.MethodName) jdk_52_method_21_code (7 : Nat) (Option.some Jvm.ClassFile.FieldType.int), Jvm.Cond.code ({ cls := "java/lang/StringUTF16", name := "coderFromArrayLen", desc := "([BI)B" } : Jvm.MethodName) jdk_52_method_15_code (2 : Nat) (Option.some Jvm.ClassFile.FieldType.byte), Jvm.Cond.code ({ cls := "java/lang/String", name := "valueOf", desc := "(C)Ljava/lang/String;" } : Jvm.MethodName) jdk_42_method_139_code (1 : Nat) (Option.some (Jvm.ClassFile.FieldType.object "java/lang/String")), Jvm.Cond.code ({ cls := "java/lang/StringLatin1", name := "canEncode", desc := "(C)Z" } : Jvm.MethodName) jdk_43_method_3_code (1 : Nat) (Option.some Jvm.ClassFile.FieldType.boolean), Jvm.Cond.code ({ cls := "java/lang/StringLatin1", name := "toBytes", desc := "(C)[B" } : Jvm.MethodName) jdk_43_method_46_code (1 : Nat) (Option.some (Jvm.ClassFile.FieldType.array Jvm.ClassFile.FieldType.byte)), Jvm.Cond.code ({ cls := "java/lang/String", name := "<init>", desc := "([BB)V" } : Jvm.MethodName) jdk_42_method_151_code (3 : Nat) (Option.none : Option Jvm.ClassFile.FieldType), Jvm.Cond.code ({ cls := "java/lang/Math", name := "min", desc := "(II)I" } : Jvm.MethodName) jdk_29_method_69_code (2 : Nat) (Option.some Jvm.ClassFile.FieldType.int), Jvm.Cond.code ({ cls := "com/example/upkeep_window/upkeepwindow/policy/OpenNames", name := "<init>", desc := "()V" } : Jvm.MethodName) prog_33_method_1_code (1 : Nat) (Option.none : Option Jvm.ClassFile.FieldType), Jvm.Cond.code ({ cls := "com/example/upkeep_window/upkeepwindow/policy/OpenNames", name := "open", desc := "()V" } : Jvm.MethodName) prog_33_method_2_code (1 : Nat) (Option.none : Option Jvm.ClassFile.FieldType), Jvm.Cond.code ({ cls := "com/example/upkeep_window/upkeepwindow/policy/OpenNamesHeightPinLaw", name := "step", desc := "(Lcom/example/upkeep_window/upkeepwindow/policy/OpenNames;[Ljava/lang/String;III)V" } : Jvm.MethodName) method_3_code (5 : Nat) (Option.none : Option Jvm.ClassFile.FieldType), Jvm.Cond.code ({ cls := "com/example/upkeep_window/upkeepwindow/policy/OpenNames", name := "height", desc := "()I" } : Jvm.MethodName) prog_33_method_5_code (1 : Nat) (Option.some Jvm.ClassFile.FieldType.int), Jvm.Cond.code ({ cls := "com/example/upkeep_window/upkeepwindow/policy/OpenNames", name := "height", desc := "(I)I" } : Jvm.MethodName) prog_33_method_12_code (2 : Nat) (Option.some Jvm.ClassFile.FieldType.int), Jvm.Cond.code ({ cls := "com/example/upkeep_window/upkeepwindow/policy/OpenNames", name := "close", desc := "()V" } : Jvm.MethodName) prog_33_method_4_code (1 : Nat) (Option.none : Option Jvm.ClassFile.FieldType), Jvm.Cond.code ({ cls := "com/example/upkeep_window/upkeepwindow/policy/OpenNamesHeightPinLaw", name := "counted", desc := "([Ljava/lang/String;III)I" } : Jvm.MethodName) method_6_code (5 : Nat) (Option.some Jvm.ClassFile.FieldType.int), Jvm.Cond.code ({ cls := "com/example/upkeep_window/upkeepwindow/policy/OpenNamesHeightPinLaw", name := "expected", desc := "(I)I" } : Jvm.MethodName) method_7_code (1 : Nat) (Option.some Jvm.ClassFile.FieldType.int), Jvm.Cond.code ({ cls := "com/example/upkeep_window/upkeepwindow/policy/OpenNames", name := "add", desc := "(Ljava/lang/String;)Z" } : Jvm.MethodName) prog_33_method_3_code (6 : Nat) (Option.some Jvm.ClassFile.FieldType.boolean), Jvm.Cond.code ({ cls := "com/example/upkeep_window/upkeepwindow/policy/OpenNames", name := "start", desc := "(I)I" } : Jvm.MethodName) prog_33_method_13_code (2 : Nat) (Option.some Jvm.ClassFile.FieldType.int), Jvm.Cond.code ({ cls := "java/lang/String", name := "length", desc := "()I" } : Jvm.MethodName) jdk_42_method_54_code (1 : Nat) (Option.some Jvm.ClassFile.FieldType.int), Jvm.Cond.code ({ cls := "java/lang/String", name := "coder", desc := "()B" } : Jvm.MethodName) jdk_42_method_152_code (1 : Nat) (Option.some Jvm.ClassFile.FieldType.byte), Jvm.Cond.code ({ cls := "java/lang/String", name := "getChars", desc := "(II[CI)V" } : Jvm.MethodName) jdk_42_method_61_code (5 : Nat) (Option.none : Option Jvm.ClassFile.FieldType), Jvm.Cond.code ({ cls := "java/lang/String", name := "checkBoundsBeginEnd", desc := "(III)V" } : Jvm.MethodName) jdk_42_method_158_code (3 : Nat) (Option.none : Option Jvm.ClassFile.FieldType), Jvm.Cond.code ({ cls := "jdk/internal/util/Preconditions", name := "checkFromToIndex", desc := "(IIILjava/util/function/BiFunction;)I" } : Jvm.MethodName) jdk_41_method_12_code (4 : Nat) (Option.some Jvm.ClassFile.FieldType.int), Jvm.Cond.code ({ cls := "java/lang/String", name := "checkBoundsOffCount", desc := "(III)I" } : Jvm.MethodName) jdk_42_method_157_code (3 : Nat) (Option.some Jvm.ClassFile.FieldType.int), Jvm.Cond.code ({ cls := "jdk/internal/util/Preconditions", name := "checkFromIndexSize", desc := "(IIILjava/util/function/BiFunction;)I" } : Jvm.MethodName) jdk_41_method_13_code (4 : Nat) (Option.some Jvm.ClassFile.FieldType.int), Jvm.Cond.code ({ cls := "java/lang/String", name := "isLatin1", desc := "()Z" } : Jvm.MethodName) jdk_42_method_154_code (1 : Nat) (Option.some Jvm.ClassFile.FieldType.boolean), Jvm.Cond.code ({ cls := "java/lang/StringLatin1", name := "getChars", desc := "([BII[CI)V" } : Jvm.MethodName) jdk_43_method_11_code (5 : Nat) (Option.none : Option Jvm.ClassFile.FieldType), Jvm.Cond.code ({ cls := "java/lang/StringLatin1", name := "inflate", desc := "([BI[CII)V" } : Jvm.MethodName) jdk_43_method_49_code (6 : Nat) (Option.none : Option Jvm.ClassFile.FieldType), Jvm.Cond.code ({ cls := "com/example/upkeep_window/upkeepwindow/policy/OpenNames", name := "holds", desc := "(III)Z" } : Jvm.MethodName) prog_33_method_6_code (6 : Nat) (Option.some Jvm.ClassFile.FieldType.boolean), Jvm.Cond.code ({ cls := "com/example/upkeep_window/upkeepwindow/policy/OpenNames", name := "insert", desc := "(II)I" } : Jvm.MethodName) prog_33_method_7_code (5 : Nat) (Option.some Jvm.ClassFile.FieldType.int), Jvm.Cond.code ({ cls := "java/util/Arrays", name := "compare", desc := "([CII[CII)I" } : Jvm.MethodName) jdk_65_method_208_code (9 : Nat) (Option.some Jvm.ClassFile.FieldType.int), Jvm.Cond.code ({ cls := "java/util/Arrays", name := "rangeCheck", desc := "(III)V" } : Jvm.MethodName) jdk_65_method_30_code (3 : Nat) (Option.none : Option Jvm.ClassFile.FieldType), Jvm.Cond.code ({ cls := "jdk/internal/util/ArraysSupport", name := "mismatch", desc := "([CI[CII)I" } : Jvm.MethodName) jdk_48_method_16_code (8 : Nat) (Option.some Jvm.ClassFile.FieldType.int), Jvm.Cond.code ({ cls := "com/example/upkeep_window/upkeepwindow/policy/OpenNames", name := "balanced", desc := "(I)I" } : Jvm.MethodName) prog_33_method_8_code (5 : Nat) (Option.some Jvm.ClassFile.FieldType.int), Jvm.Cond.code ({ cls := "com/example/upkeep_window/upkeepwindow/policy/OpenNames", name := "measure", desc := "(I)V" } : Jvm.MethodName) prog_33_method_11_code (2 : Nat) (Option.none : Option Jvm.ClassFile.FieldType), Jvm.Cond.code ({ cls := "java/lang/Math", name := "max", desc := "(II)I" } : Jvm.MethodName) jdk_29_method_65_code (2 : Nat) (Option.some Jvm.ClassFile.FieldType.int), Jvm.Cond.code ({ cls := "java/lang/Character", name := "compare", desc := "(CC)I" } : Jvm.MethodName) jdk_89_method_98_code (2 : Nat) (Option.some Jvm.ClassFile.FieldType.int), Jvm.Cond.code ({ cls := "com/example/upkeep_window/upkeepwindow/policy/OpenNames", name := "rotatedRight", desc := "(I)I" } : Jvm.MethodName) prog_33_method_9_code (3 : Nat) (Option.some Jvm.ClassFile.FieldType.int), Jvm.Cond.code ({ cls := "com/example/upkeep_window/upkeepwindow/policy/OpenNames", name := "rotatedLeft", desc := "(I)I" } : Jvm.MethodName) prog_33_method_10_code (3 : Nat) (Option.some Jvm.ClassFile.FieldType.int), Jvm.Cond.code ({ cls := "com/example/upkeep_window/upkeepwindow/policy/OpenNamesHeightPinLaw", name := "differs", desc := "([Ljava/lang/String;III)Z" } : Jvm.MethodName) method_5_code (4 : Nat) (Option.some Jvm.ClassFile.FieldType.boolean), Jvm.Cond.code ({ cls := "java/lang/String", name := "equals", desc := "(Ljava/lang/Object;)Z" } : Jvm.MethodName) jdk_42_method_66_code (3 : Nat) (Option.some Jvm.ClassFile.FieldType.boolean), Jvm.Cond.code ({ cls := "java/lang/StringLatin1", name := "equals", desc := "([B[B)Z" } : Jvm.MethodName) jdk_43_method_13_code (3 : Nat) (Option.some Jvm.ClassFile.FieldType.boolean)]
set_option maxRecDepth 65536 in
theorem codes_eq : words1.filter isCode = codes1 := rfl
theorem w_codes : ∀ c ∈ words1.filter isCode, c.before args0 about1 = true := by
  rw [codes_eq]
  intro c hc
  simp only [codes1, List.mem_cons, List.not_mem_nil, or_false] at hc
  rcases hc with rfl | rfl | rfl | rfl | rfl | rfl | rfl | rfl | rfl | rfl | rfl | rfl | rfl | rfl | rfl | rfl | rfl | rfl | rfl | rfl | rfl | rfl | rfl | rfl | rfl | rfl | rfl | rfl | rfl | rfl | rfl | rfl | rfl | rfl | rfl | rfl | rfl | rfl | rfl | rfl | rfl | rfl | rfl | rfl | rfl | rfl | rfl
  · exact w_c0
  · exact w_c1
  · exact w_c2
  · exact w_c3
  · exact w_c4
  · exact w_c5
  · exact w_c6
  · exact w_c7
  · exact w_c8
  · exact w_c9
  · exact w_c10
  · exact w_c11
  · exact w_c12
  · exact w_c13
  · exact w_c14
  · exact w_c15
  · exact w_c16
  · exact w_c17
  · exact w_c18
  · exact w_c19
  · exact w_c20
  · exact w_c21
  · exact w_c22
  · exact w_c23
  · exact w_c24
  · exact w_c25
  · exact w_c26
  · exact w_c27
  · exact w_c28
  · exact w_c29
  · exact w_c30
  · exact w_c31
  · exact w_c32
  · exact w_c33
  · exact w_c34
  · exact w_c35
  · exact w_c36
  · exact w_c37
  · exact w_c38
  · exact w_c39
  · exact w_c40
  · exact w_c41
  · exact w_c42
  · exact w_c43
  · exact w_c44
  · exact w_c45
  · exact w_c46
set_option maxRecDepth 65536 in
theorem w_t1 : (words1.take 24).all (fun c => isCode c || c.before args0 about1) = true := by decide +kernel
set_option maxRecDepth 65536 in
theorem w_t2 : ((words1.drop 24).take 24).all (fun c => isCode c || c.before args0 about1) = true := by decide +kernel
set_option maxRecDepth 65536 in
theorem w_t3 : (((words1.drop 24).drop 24).take 24).all (fun c => isCode c || c.before args0 about1) = true := by decide +kernel
set_option maxRecDepth 65536 in
theorem w_t4 : ((((words1.drop 24).drop 24).drop 24).take 24).all (fun c => isCode c || c.before args0 about1) = true := by decide +kernel
set_option maxRecDepth 65536 in
theorem w_t5 : (((((words1.drop 24).drop 24).drop 24).drop 24).take 24).all (fun c => isCode c || c.before args0 about1) = true := by decide +kernel
set_option maxRecDepth 65536 in
theorem w_t6 : ((((((words1.drop 24).drop 24).drop 24).drop 24).drop 24).take 24).all (fun c => isCode c || c.before args0 about1) = true := by decide +kernel
set_option maxRecDepth 65536 in
theorem w_t7 : (((((((words1.drop 24).drop 24).drop 24).drop 24).drop 24).drop 24).take 24).all (fun c => isCode c || c.before args0 about1) = true := by decide +kernel
set_option maxRecDepth 65536 in
theorem w_t8 : ((((((((words1.drop 24).drop 24).drop 24).drop 24).drop 24).drop 24).drop 24).take 24).all (fun c => isCode c || c.before args0 about1) = true := by decide +kernel
set_option maxRecDepth 65536 in
theorem w_t9 : ((((((((words1.drop 24).drop 24).drop 24).drop 24).drop 24).drop 24).drop 24).drop 24).all (fun c => isCode c || c.before args0 about1) = true := by decide +kernel
theorem w_tables : (allAtoms (Jvm.Cond.code x code maxLocals ret :: tables_1)).before args0 about1 = true := by
  rw [allAtoms_all]
  show words1.all (fun c => c.before args0 about1) = true
  refine all_split ?_ w_codes
  rw [← List.take_append_drop 24 words1, List.all_append, w_t1, ← List.take_append_drop 24 (words1.drop 24), List.all_append, w_t2, ← List.take_append_drop 24 ((words1.drop 24).drop 24), List.all_append, w_t3, ← List.take_append_drop 24 (((words1.drop 24).drop 24).drop 24), List.all_append, w_t4, ← List.take_append_drop 24 ((((words1.drop 24).drop 24).drop 24).drop 24), List.all_append, w_t5, ← List.take_append_drop 24 (((((words1.drop 24).drop 24).drop 24).drop 24).drop 24), List.all_append, w_t6, ← List.take_append_drop 24 ((((((words1.drop 24).drop 24).drop 24).drop 24).drop 24).drop 24), List.all_append, w_t7, ← List.take_append_drop 24 (((((((words1.drop 24).drop 24).drop 24).drop 24).drop 24).drop 24).drop 24), List.all_append, w_t8, w_t9]
  rfl
set_option maxRecDepth 65536 in
theorem w_rest : rest_1_c.before args0 about1 = true := by decide +kernel
set_option maxRecDepth 65536 in
theorem w_case : (Jvm.Cond.and given_1 narrow_1).before args0 about1 = true := by decide +kernel
set_option maxRecDepth 65536 in
theorem w_consts : constsHeld consts_1 about1 := Jvm.Lit.constsHeldB_iff.mp (by decide +kernel)
theorem w_applies : (headSpec (Jvm.Cond.code x code maxLocals ret :: tables_1) room_1).applies x e0.platform about1 = true :=
  (Spec.applies_iff w_frames).mpr ⟨w_running, w_runnable, w_alone, w_named, w_hears, w_ripe, w_room, w_tables⟩
theorem atStart : AtStart classFile x code maxLocals ret World_1 tables_1 room_1 Calls_1 rest_1 Pre_1 launch0 p0 e0 about1 theMethod args0 below0 :=
  ⟨lists_1, trivial, launch0.admits_env _ _ _, launch0.least_env, fairChoices_fair.cas, fairChoices_fair.clock, w_frames, w_args, w_heap, w_applies, ⟨w_consts, trivial⟩, w_rest, w_case⟩
end start1
theorem witness_1 : WitnessClaimed_1 := ⟨start1.p0, start1.e0, start1.about1, start1.theMethod, start1.args0, start1.below0, start1.atStart⟩
end Jvm.Pilot.@@N@@
