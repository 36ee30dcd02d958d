import JvmDerived
import JvmDerived.Pilot.@@N@@Statement
import JvmDerived.Pilot.@@N@@Code
set_option linter.unusedVariables false
set_option linter.unusedSimpArgs false
namespace Jvm.RoadKit
open Sem ClassFile Op Lib Jvm.Stand Jvm.Free Jvm.LawKit
section Own
variable {p : Program} {l : Launch} {e : Env} {R : Room} {s : State} {m : MethodId} {args : Array Value} {below : List Frame} {meth : Method} {c : Code} {T : State} {locs : List Loc} {cells slots : Nat}
theorem retI (X : Stand p l e R s m args below meth c T locs cells slots) (hx : p.tables.exec = Jvm.exec) {pc : Nat} {Ls : Array Slot} {z : Int32} {rest : List Value} (hret : meth.sig.returnType = some .int) (hd : decode c.code pc = .ok (.ireturn, 1)) {fs : List Frame}
    (hl : ∀ (f : JFrame) (acts : List Action), f.method = m → f.locked = none → f.entered = [] → (doReturn e (T.setTop f) acts (some (.int z))).1 = T.setFrames fs) : Steps p.tables e below (T.setTop (mkF m pc Ls (.int z :: rest))) (T.setFrames fs) := by
  have hm' : T.vm.method? m = some meth := X.method'
  have hn : narrow .int (.int z) = .int z := rfl
  show Steps p.tables e below (T.setTop { method := m, pc := pc, locals := Ls, stack := _ :: rest, locked := none }) _
  jvm_step X.here [X.here.top, hx, hd, hm', hret, hn]
  first | (intro acts; rw [hl _ acts rfl rfl rfl]) | rw [hl _ _ rfl rfl rfl]
  exact Steps.refl _
/-- the walk comes to an end, with what Φ says there -/
def Goes (p : Program) (e : Env) (below : List Frame) (Φ : State → Outcome → Prop) (S : State) : Prop := ∃ s₂ o, Steps p.tables e below S s₂ ∧ s₂.status = .running ∧ Ended s₂ below o ∧ Φ s₂ o
theorem Goes.via {Φ : State → Outcome → Prop} {S S' : State} (k : ∀ t, Steps p.tables e below S' t → Steps p.tables e below S t) (h : Goes p e below Φ S') : Goes p e below Φ S := by
  obtain ⟨s₂, o, h1, h2, h3, h4⟩ := h
  exact ⟨s₂, o, k _ h1, h2, h3, h4⟩
/-- what a contract's end says -/
def Fin (s : State) (Q : Option Value → Heap → List Loc → Prop) (C S : Nat) : State → Outcome → Prop := fun s₂ o => ∃ v L, o = .returned v ∧ Q v s₂.heap L ∧ FrameEnd s o s₂ L C S
theorem Goes.retN (X : Stand p l e R s m args below meth c T locs cells slots) (hx : p.tables.exec = Jvm.exec) (hlocks : meth.locks = false) {pc : Nat} {Ls : Array Slot} {z : Int32} {t : FieldType} {rest : List Value} (hret : meth.sig.returnType = some t) (ht : t = .boolean ∨ t = .byte ∨ t = .char ∨ t = .short)
    (hd : decode c.code pc = .ok (.ireturn, 1)) {Q : Option Value → Heap → List Loc → Prop} {C S : Nat} (hc : cells ≤ C) (hs : slots ≤ S) (hQ : Q (some (.int (nar t z))) T.heap locs) : Goes p e below (Fin s Q C S) (T.setTop (mkF m pc Ls (.int z :: rest))) := by
  obtain ⟨fs, hr, hrun, hended, hW, hsame⟩ := X.leave (v := some (.int (nar t z))) (fun h => by rw [hret] at h; cases h) hlocks
  exact ⟨_, _, Jvm.RoadKit.retN X hx hret ht hd hr, hrun, hended, _, _, rfl, hQ, ⟨_, rfl⟩, hW, hsame.mono hc hs⟩
theorem Goes.retI (X : Stand p l e R s m args below meth c T locs cells slots) (hx : p.tables.exec = Jvm.exec) (hlocks : meth.locks = false) {pc : Nat} {Ls : Array Slot} {z : Int32} {rest : List Value} (hret : meth.sig.returnType = some .int)
    (hd : decode c.code pc = .ok (.ireturn, 1)) {Q : Option Value → Heap → List Loc → Prop} {C S : Nat} (hc : cells ≤ C) (hs : slots ≤ S) (hQ : Q (some (.int z)) T.heap locs) : Goes p e below (Fin s Q C S) (T.setTop (mkF m pc Ls (.int z :: rest))) := by
  obtain ⟨fs, hr, hrun, hended, hW, hsame⟩ := X.leave (v := some (.int z)) (fun h => by rw [hret] at h; cases h) hlocks
  exact ⟨_, _, Jvm.RoadKit.retI X hx hret hd hr, hrun, hended, _, _, rfl, hQ, ⟨_, rfl⟩, hW, hsame.mono hc hs⟩
theorem Goes.retO (X : Stand p l e R s m args below meth c T locs cells slots) (hx : p.tables.exec = Jvm.exec) (hlocks : meth.locks = false) {pc : Nat} {Ls : Array Slot} {w : Value} {t : FieldType} {i : Instr} {rest : List Value} (hret : meth.sig.returnType = some t) (hn : narrow t w = w)
    (hi : (i = .ireturn ∧ (t = .int ∨ t = .boolean ∨ t = .byte ∨ t = .char ∨ t = .short) ∧ ∃ z, w = .int z) ∨ (i = .lreturn ∧ t = .long ∧ ∃ z, w = .long z) ∨ (i = .dreturn ∧ t = .double ∧ ∃ z, w = .double z) ∨ (i = .freturn ∧ t = .float ∧ ∃ z, w = .float z) ∨ (i = .areturn ∧ t.isReference = true ∧ w.isRef = true))
    (hd : decode c.code pc = .ok (i, 1)) {Q : Option Value → Heap → List Loc → Prop} {C S : Nat} (hc : cells ≤ C) (hs : slots ≤ S) (hQ : Q (some w) T.heap locs) : Goes p e below (Fin s Q C S) (T.setTop (mkF m pc Ls (w :: rest))) := by
  obtain ⟨fs, hr, hrun, hended, hW, hsame⟩ := X.leave (v := some w) (fun h => by rw [hret] at h; cases h) hlocks
  exact ⟨_, _, Jvm.RoadKit.retOut X hx hret hn hi hd hr, hrun, hended, _, _, rfl, hQ, ⟨_, rfl⟩, hW, hsame.mono hc hs⟩
theorem Goes.retV (X : Stand p l e R s m args below meth c T locs cells slots) (hx : p.tables.exec = Jvm.exec) (hlocks : meth.locks = false) {pc : Nat} {Ls : Array Slot} (hret : meth.sig.returnType = none)
    (hd : decode c.code pc = .ok (.return_, 1)) {Q : Option Value → Heap → List Loc → Prop} {C S : Nat} (hc : cells ≤ C) (hs : slots ≤ S) (hQ : Q none T.heap locs) : Goes p e below (Fin s Q C S) (T.setTop (mkF m pc Ls [])) := by
  obtain ⟨fs, hr, hrun, hended, hW, hsame⟩ := X.leave (v := none) (fun _ => rfl) hlocks
  exact ⟨_, _, X.returnOut hx hret hd hr, hrun, hended, _, _, rfl, hQ, ⟨_, rfl⟩, hW, hsame.mono hc hs⟩
/-- room counted generously -/
theorem moreRoom (X : Stand p l e R s m args below meth c T locs cells slots) {k n : Nat} (h1 : cells ≤ k) (h2 : slots ≤ n) : Stand p l e R s m args below meth c T locs k n := { X with same := X.same.mono h1 h2 }
theorem exa_static {args : Array Value} {s : State} {C n d K : String} (h : (Jvm.Cond.exactly (Jvm.Term.static C n d) K).value args s none s [] = some true) : ∃ b, (Jvm.Term.static C n d).eval args s none [] s = some (.ref b) ∧ Exa s s.heap b K := by
  obtain ⟨b, e1⟩ := exa_v h
  exact ⟨b, e1, Exa.start e1 h⟩
theorem fld_static {args : Array Value} {s : State} {t : Jvm.Term} {b : Addr} {C n d : String} {k : Int32} (ev : t.eval args s none [] s = some (.ref b)) (h : (Jvm.Cond.eq (Jvm.Term.field t C n d) (Jvm.Term.int k)).value args s none s [] = some true) : Fld s s.heap b C n d (.int k) := by
  exact Fld.start ((fld_at ev).symm.trans (eqv_i (Term.int_eval k) h))
theorem adr_ne {a b k k' : Nat} (h : a < k) (g : b = k') (q : k ≤ k') : a ≠ b := by omega
theorem cat_ref {v : Value} (h : v.isRef = true) : v.category = 1 := by rcases ref_cases h with rfl | ⟨_, rfl⟩ <;> rfl
theorem narrow_ref {v : Value} {t : FieldType} (h : v.isRef = true) : narrow t v = v := by rcases ref_cases h with rfl | ⟨_, rfl⟩ <;> cases t <;> rfl
theorem fits_refO {v : Value} {C : String} (h : v.isRef = true) : fits (.object C) v = true := by rcases ref_cases h with rfl | ⟨_, rfl⟩ <;> rfl
theorem fld_null {args : Array Value} {s : State} {t : Jvm.Term} {b : Addr} {C n d : String} (ev : t.eval args s none [] s = some (.ref b)) (h : (Jvm.Cond.eq (Jvm.Term.field t C n d) Jvm.Term.null).value args s none s [] = some true) : Fld s s.heap b C n d .null := Fld.start ((fld_at ev).symm.trans (null_v h))
theorem ret1 {z : Int32} (h : z = 1) : some (Value.int (nar .boolean z)) = some (.int 1) := by subst h; rfl
end Own
end Jvm.RoadKit
namespace Jvm.RoadKit
open Sem ClassFile Op Lib Jvm.Stand Jvm.Free Jvm.LawKit
section OwnH
variable {p : Program} {l : Launch} {e : Env} {R : Room} {s : State} {m : MethodId} {args : Array Value} {below : List Frame} {meth : Method} {c : Code} {T : State} {locs : List Loc} {cells slots : Nat} {Z : State} {a0 : Array Value} {EL : List (String × Nat)} {h : Heap}
/-- what a contract's end says where held constants are used -/
def FinH (s Z : State) (EL : List (String × Nat)) (Q : Option Value → Heap → List Loc → Prop) (C S : Nat) : State → Outcome → Prop := fun s₂ o => ∃ v L, o = .returned v ∧ Q v s₂.heap L ∧ CHr Z EL s.vm s.heap s₂.vm s₂.heap ∧ ReturnedEndW s o s₂ L C S
theorem Goes.retOH {vm1 : Vm} (X : Stand p l e R (s.setVm vm1) m args below meth c T locs cells slots) (hx : p.tables.exec = Jvm.exec) (hlocks : meth.locks = false) {k : Nat} (hS : s.Since vm1 k) (hk : k ≤ h.size) (eT : T.heap = h) (hZ : Z.Warmed39 vm1) (hEL : EW Z a0 EL) (hC : CHr Z EL s.vm s.heap vm1 h) {pc : Nat} {Ls : Array Slot} {w : Value} {t : FieldType} {i : Instr} {rest : List Value} (hret : meth.sig.returnType = some t) (hn : narrow t w = w)
    (hi : (i = .ireturn ∧ (t = .int ∨ t = .boolean ∨ t = .byte ∨ t = .char ∨ t = .short) ∧ ∃ z, w = .int z) ∨ (i = .lreturn ∧ t = .long ∧ ∃ z, w = .long z) ∨ (i = .dreturn ∧ t = .double ∧ ∃ z, w = .double z) ∨ (i = .freturn ∧ t = .float ∧ ∃ z, w = .float z) ∨ (i = .areturn ∧ t.isReference = true ∧ w.isRef = true))
    (hd : decode c.code pc = .ok (i, 1)) {Q : Option Value → Heap → List Loc → Prop} {C S : Nat} (hc : cells ≤ C) (hs : slots ≤ S) (hQ : Q (some w) T.heap locs) : Goes p e below (FinH s Z EL Q C S) (T.setTop (mkF m pc Ls (w :: rest))) := by
  subst eT
  have hf : CHr Z EL s.vm s.heap T.vm T.heap := hC.trans (CHv.at X hZ hEL hC.1)
  obtain ⟨fs, hr, hrun, hended, h1, h2, h3, h4⟩ := X.leaveW hS hk (v := some w) (fun h => by rw [hret] at h; cases h) hlocks
  exact ⟨_, _, Jvm.RoadKit.retOut X hx hret hn hi hd hr, hrun, hended, _, _, rfl, hQ, hf, h1, h2, h3, h4.mono hc hs⟩
theorem Goes.retVH {vm1 : Vm} (X : Stand p l e R (s.setVm vm1) m args below meth c T locs cells slots) (hx : p.tables.exec = Jvm.exec) (hlocks : meth.locks = false) {k : Nat} (hS : s.Since vm1 k) (hk : k ≤ h.size) (eT : T.heap = h) (hZ : Z.Warmed39 vm1) (hEL : EW Z a0 EL) (hC : CHr Z EL s.vm s.heap vm1 h) {pc : Nat} {Ls : Array Slot} (hret : meth.sig.returnType = none)
    (hd : decode c.code pc = .ok (.return_, 1)) {Q : Option Value → Heap → List Loc → Prop} {C S : Nat} (hc : cells ≤ C) (hs : slots ≤ S) (hQ : Q none T.heap locs) : Goes p e below (FinH s Z EL Q C S) (T.setTop (mkF m pc Ls [])) := by
  subst eT
  have hf : CHr Z EL s.vm s.heap T.vm T.heap := hC.trans (CHv.at X hZ hEL hC.1)
  obtain ⟨fs, hr, hrun, hended, h1, h2, h3, h4⟩ := X.leaveW hS hk (v := none) (fun _ => rfl) hlocks
  exact ⟨_, _, X.returnOut hx hret hd hr, hrun, hended, _, _, rfl, hQ, hf, h1, h2, h3, h4.mono hc hs⟩
theorem Goes.retNH {vm1 : Vm} (X : Stand p l e R (s.setVm vm1) m args below meth c T locs cells slots) (hx : p.tables.exec = Jvm.exec) (hlocks : meth.locks = false) {k : Nat} (hS : s.Since vm1 k) (hk : k ≤ h.size) (eT : T.heap = h) (hZ : Z.Warmed39 vm1) (hEL : EW Z a0 EL) (hC : CHr Z EL s.vm s.heap vm1 h) {pc : Nat} {Ls : Array Slot} {z : Int32} {t : FieldType} {rest : List Value} (hret : meth.sig.returnType = some t) (ht : t = .boolean ∨ t = .byte ∨ t = .char ∨ t = .short)
    (hd : decode c.code pc = .ok (.ireturn, 1)) {Q : Option Value → Heap → List Loc → Prop} {C S : Nat} (hc : cells ≤ C) (hs : slots ≤ S) (hQ : Q (some (.int (nar t z))) T.heap locs) : Goes p e below (FinH s Z EL Q C S) (T.setTop (mkF m pc Ls (.int z :: rest))) := by
  subst eT
  have hf : CHr Z EL s.vm s.heap T.vm T.heap := hC.trans (CHv.at X hZ hEL hC.1)
  obtain ⟨fs, hr, hrun, hended, h1, h2, h3, h4⟩ := X.leaveW hS hk (v := some (.int (nar t z))) (fun h => by rw [hret] at h; cases h) hlocks
  exact ⟨_, _, Jvm.RoadKit.retN X hx hret ht hd hr, hrun, hended, _, _, rfl, hQ, hf, h1, h2, h3, h4.mono hc hs⟩
/-- two stretches that may intern, as one -/
theorem own_fold {vm0 : Vm} {k0 : Nat} {U : State} {h0 : Heap} (hS : s.Since vm0 k0) (hk : k0 ≤ h0.size) (h2 : (s.setVm vm0).Since U.vm U.heap.size) (g : h0.size ≤ U.heap.size) : s.Since U.vm U.heap.size := hS.trans h2 (Nat.le_trans hk g)
end OwnH
end Jvm.RoadKit
namespace Jvm.RoadKit
open Sem ClassFile Op Lib Bundle Jvm.Stand Jvm.Free Jvm.LawKit Jvm.Free.SB Jvm.Free.SBG
/-- a String whose value is still null is no booked one -/
theorem own_safe {Z : State} {EL : List (String × Nat)} {vm : Vm} {h : Heap} {x : Addr} (hal : Z.vm.Alike vm) (E : Exa Z h x "java/lang/String") (F : Fld Z h x "java/lang/String" "value" "[B" .null) : Safe Z EL vm h x := fun B => by
  obtain ⟨p, -, u, a, -, q, -, S, rfl | rfl⟩ := B
  · obtain ⟨cS, ⟨⟨s1, s2, s3, ⟨cv, kv, iv, s4, s4'⟩, s5, s6, s7, s8, r⟩, hfS, hcS⟩, -⟩ := S
    obtain ⟨cell, c0, k0, i0, f0, e1, e2, e3, e4, e5, e6, e7⟩ := F
    cases (show h[q.sa]? = some q.sC from s1).symm.trans e1
    obtain ⟨k', g1, -⟩ := State.fieldFound?_setVm (s := Z) hal e2
    have g2 : (Wst Z vm h).fieldFound? "java/lang/String" "value" "[B" = some (cv, kv, iv, q.fSV) := s4
    have g3 : (Wst Z vm h).fieldFound? "java/lang/String" "value" "[B" = some (c0, k', i0, f0) := g1
    cases g2.symm.trans g3
    cases s8.symm.trans e7
  · obtain ⟨cell, k, e1, e2, e3, -, -⟩ := E
    cases (show h[q.sd]? = some q.SA from S.hd).symm.trans e1
    obtain ⟨cS, -, -, f, -⟩ := S
    have f : vm.findClass "[B" = some q.SA.cls := f
    rw [hal.findClass] at f
    obtain ⟨k1, q1, q2⟩ := Vm.findClass_spec f
    obtain ⟨k2, q3, q4⟩ := Vm.findClass_spec e2
    cases q1.symm.trans q3
    exact absurd (q2.symm.trans q4) (by decide)
end Jvm.RoadKit
namespace Jvm.RoadKit
open Sem ClassFile Op Lib Jvm.Stand Jvm.Free Jvm.LawKit
section OwnW
variable {p : Program} {l : Launch} {e : Env} {R : Room} {s : State} {m : MethodId} {args : Array Value} {below : List Frame} {meth : Method} {c : Code} {T : State} {locs : List Loc} {cells slots : Nat}
/-- what a contract's end says where constants may have been interned -/
def FinW (s : State) (Q : Option Value → Heap → List Loc → Prop) (C S : Nat) : State → Outcome → Prop := fun s₂ o => ∃ v L, o = .returned v ∧ Q v s₂.heap L ∧ ReturnedEndW s o s₂ L C S
theorem Goes.retNW {vm1 : Vm} (X : Stand p l e R (s.setVm vm1) m args below meth c T locs cells slots) (hx : p.tables.exec = Jvm.exec) (hlocks : meth.locks = false) {k : Nat} (hS : s.Since vm1 k) (hk : k ≤ T.heap.size) {pc : Nat} {Ls : Array Slot} {z : Int32} {t : FieldType} {rest : List Value} (hret : meth.sig.returnType = some t) (ht : t = .boolean ∨ t = .byte ∨ t = .char ∨ t = .short)
    (hd : decode c.code pc = .ok (.ireturn, 1)) {Q : Option Value → Heap → List Loc → Prop} {C S : Nat} (hc : cells ≤ C) (hs : slots ≤ S) (hQ : Q (some (.int (nar t z))) T.heap locs) : Goes p e below (FinW s Q C S) (T.setTop (mkF m pc Ls (.int z :: rest))) := by
  obtain ⟨fs, hr, hrun, hended, h1, h2, h3, h4⟩ := X.leaveW hS hk (v := some (.int (nar t z))) (fun h => by rw [hret] at h; cases h) hlocks
  exact ⟨_, _, Jvm.RoadKit.retN X hx hret ht hd hr, hrun, hended, _, _, rfl, hQ, h1, h2, h3, h4.mono hc hs⟩
end OwnW
end Jvm.RoadKit
namespace Jvm.RoadKit
open Sem ClassFile Op Lib Jvm.Stand Jvm.Free Jvm.LawKit
section OwnT
variable {p : Program} {l : Launch} {e : Env} {R : Room} {s : State} {m : MethodId} {args : Array Value} {below : List Frame} {meth : Method} {c : Code} {U : State} {Ls : List Loc} {c0 s0 : Nat}
theorem own_ext_same {s s' : State} {k n : Nat} (h : s.sameButNew s' [] k n) : Ext s.heap s'.heap := by
  refine ⟨h.2.1, fun a cl q => ?_⟩
  obtain ⟨c', q1, q2, q3, q4⟩ := h.2.2.2.2.2 a cl q
  rw [q1, q2]
  have : c'.slots = cl.slots := by
    apply Array.ext_getElem?
    intro i; exact q4 i (by simp)
  rw [this]
/-- a callee by its free law, whatever its end -/
theorem own_calls (X : Stand p l e R s m args below meth c U Ls c0 s0) {y : MethodName} {S : Spec} {P : Array Value → State → Prop} {K : Program → Env → List Frame → State → Array Value → Prop} {Q : Array Value → State → Outcome → State → Prop} (hM : MetFree l y S P K Q)
    {g : JFrame} (hg : g.method = m) (hsize : g.locals.size = c.maxLocals) {ig : Instr} {len : Nat} (hdg : decode c.code g.pc = .ok (ig, len)) {mk : MethodId} (hn : U.methodNamed? y = some mk) {methY : Method} {cY : Code} (hmY : U.vm.method? mk = some methY) (hcY : methY.code = some cY) {a : Array Value} (hz : (Cond.initialized y.cls).before a U = true)
    (hframes : S.room.frames + 1 ≤ R.frames) (hlocals : 2 * g.monitorRoom + (g.stack.map fun v => v.category).sum + (cY.maxLocals + 11) + S.room.locals ≤ R.locals) (h4 : c0 + S.room.cells ≤ R.cells) (h5 : s0 + S.room.slots ≤ R.slots) (h1 : S.pre.before a U = true) (hP : P a (U.calling g mk a)) (hK : K p e (U.setTop g).frames (U.calling g mk a) a) :
    ∃ o s₂, Steps p.tables e below (doInvoke e (U.setTop g) [] mk a).1 s₂ ∧ Ended s₂ (.java g :: U.frames.tail) o ∧ Q a (U.calling g mk a) o s₂ := by
  have hAt : At U g.method c below := by rw [hg]; exact X.here
  obtain ⟨kY, hkY, -⟩ := className_of_methodNamed hn
  have happ : S.appliesLoose y e.platform (U.calling g mk a) = true :=
    Spec.appliesLoose_calling (g := g) hAt hdg hn hkY (Cond.initialized_spec (findClass_of_methodNamed hn) hkY hz) (X.room_calling (g := g) (R' := S.room) hsize hmY hcY hframes (by omega) h4 h5) h1
  obtain ⟨mid, hmid⟩ := hAt.above
  obtain ⟨o, s₂, hsteps, -, hend, hq⟩ := Steps.callFree hM p X.admits X.cas X.clock (acts := []) (show (U.setTop g).frames = (.java g :: mid) ++ below by rw [State.frames_setTop' g hAt.top, hmid]; rfl) happ hP hK
  rw [State.frames_setTop' g hAt.top] at hend
  exact ⟨o, s₂, hsteps, hend, hq⟩
/-- it threw: the caller's frame beneath what is thrown; constants may have been interned -/
theorem own_thrown (X : Stand p l e R s m args below meth c U Ls c0 s0) {g : JFrame} (hg : g.method = m) {mk : MethodId} {a : Array Value} {s₂ : State} {v : Addr} {L : List Loc} {k n : Nat} (hend : Ended s₂ (.java g :: U.frames.tail) (.threw v))
    (hW : U.Warmed39 s₂.vm) (hB : U.Booked s₂.vm s₂.heap.size) (hsm : (U.calling g mk a).sameButNew ({ s₂ with vm := (U.calling g mk a).vm } : State) L k n) :
    ∃ T', T'.heap = s₂.heap ∧ T'.vm = s₂.vm ∧ Stand p l e R (s.setVm T'.vm) m args below meth c T' (Ls ++ L) (c0 + k) (s0 + n) ∧ s.Since T'.vm T'.heap.size ∧ s₂ = (T'.setTop g).pushFrame (.throwing v) := by
  have hAt : At U g.method c below := by rw [hg]; exact X.here
  obtain ⟨e2, q⟩ := hsm
  have hf : s₂.frames = .throwing v :: .java g :: U.frames.tail := hend
  obtain ⟨g₀, hg0⟩ := Option.isSome_iff_exists.mp hAt.top
  obtain ⟨r, hr⟩ := State.topJava?_eq_some.mp hg0
  obtain ⟨T', hT⟩ : ∃ T', T' = ({ U with heap := s₂.heap, slotsUsed := s₂.slotsUsed } : State).setVm s₂.vm := ⟨_, rfl⟩
  have hsame : U.sameButNew ({ U with heap := s₂.heap, slotsUsed := s₂.slotsUsed } : State) L k n := by
    obtain ⟨t, ht, -⟩ := State.frames_cons hr
    exact ⟨by show ({ U with heap := s₂.heap, slotsUsed := s₂.slotsUsed } : State) = { U.setFrames U.frames with heap := s₂.heap, slotsUsed := s₂.slotsUsed }; rw [State.setFrames_self ht], q⟩
  subst hg
  obtain ⟨X', hS⟩ := X.movedW (T₂ := T') (by rw [hT]; exact (X.here.setHeapUsed s₂.heap s₂.slotsUsed).setVm hW.alike) (by rw [hT]; exact X.tail) (by rw [hT]; rfl) (by rw [hT]; rfl) (by rw [hT]; exact hW) (by rw [hT]; exact hB) (by rw [hT]; exact hsame)
  refine ⟨T', by rw [hT]; rfl, by rw [hT]; rfl, X', hS, ?_⟩
  have e3 : s₂ = ({ (U.calling g mk a).setFrames s₂.frames with heap := s₂.heap, slotsUsed := s₂.slotsUsed } : State).setVm s₂.vm := by
    have : s₂ = ({ s₂ with vm := (U.calling g mk a).vm } : State).setVm s₂.vm := rfl
    rw [e2] at this; exact this
  have hr' : T'.frames = .java g₀ :: r := by rw [hT]; exact hr
  refine e3.trans ?_
  rw [hf, State.calling_eq hAt.top, State.setFrames_setFrames, State.pushFrame, State.frames_setTop _ hr', State.setTop_of_frames _ hr', State.setFrames_setFrames, hr, hT]
  rfl
end OwnT
end Jvm.RoadKit
namespace Jvm.RoadKit
open Sem ClassFile Op Lib Jvm.Stand Jvm.Free Jvm.LawKit
section OwnE2
variable {p : Program} {l : Launch} {e : Env} {R : Room} {s : State} {m : MethodId} {args : Array Value} {below : List Frame} {meth : Method} {c : Code} {T : State} {locs : List Loc} {cells slots : Nat}
/-- what changed at one object alone -/
theorem own_keep_same {s s' : State} {L : List Loc} {k n : Nat} {a : Addr} (h : s.sameButNew s' L k n) (hL : ∀ y ∈ L, y.base = a) : Keep s.heap s'.heap [a] := by
  refine ⟨h.2.1, fun x cl q hx => ?_, fun x cl q => ?_⟩
  · obtain ⟨c', q1, q2, q3, q4⟩ := h.2.2.2.2.2 x cl q
    rw [q1, q2]
    have : c'.slots = cl.slots := by
      apply Array.ext_getElem?
      intro i
      refine q4 i fun hm => hx (List.mem_singleton.mpr (hL _ hm))
    rw [this]
  · obtain ⟨c', q1, q2, q3, q4⟩ := h.2.2.2.2.2 x cl q
    exact ⟨c', q1, by rw [q2], by rw [q2], q3⟩
/-- a body without handlers -/
theorem own_noexc {x : MethodName} {code : ByteArray} {ml : Nat} {ret : Option FieldType} {ws : List Cond} {rm : Room} {s₁ : State} (Bd : BodyLoose p l x (head1 (Cond.code x code ml ret :: ws) rm) code ml ret e s m args below meth c s₁) : c.exceptionTable.toList = [] := by
  obtain ⟨meth', c', h1, h2, -, -, -, -, h7, -⟩ := Cond.code_spec Bd.named (atoms_spec (ws := Cond.code x code ml ret :: ws) Bd.pre _ (List.mem_cons_self ..))
  have hc := Bd.here.code
  rw [Bd.state] at hc
  have hc' : s.code? m = some c := hc
  have e1 : meth'.code = some c := by
    have h9 := h1
    simp only [Vm.method?, Option.bind_eq_bind, Option.bind_eq_some_iff] at h9
    obtain ⟨k9, hk9, hm9⟩ := h9
    simpa [State.code?, hk9, hm9] using hc'
  cases h2.symm.trans e1
  simpa using h7
theorem own_exc {x : MethodName} {code : ByteArray} {ml : Nat} {ret : Option FieldType} {hs : List (Nat × Nat × Nat × Nat)} {ws : List Cond} {rm : Room} {s₁ : State} (Bd : BodyLoose p l x (head1 (Cond.codeWith x code ml ret hs :: ws) rm) code ml ret e s m args below meth c s₁) : c.exceptionTable.toList.map (fun h => (h.startPc, h.endPc, h.handlerPc, h.catchType)) = hs := by
  obtain ⟨m', meth', c', h0, h1, h2, -, -, h7, -⟩ := Cond.codeWith_spec (atoms_spec (ws := Cond.codeWith x code ml ret hs :: ws) Bd.pre _ (List.mem_cons_self ..))
  cases Bd.named.symm.trans h0
  have hc := Bd.here.code
  rw [Bd.state] at hc
  have hc' : s.code? m = some c := hc
  have e1 : meth'.code = some c := by
    have h9 := h1
    simp only [Vm.method?, Option.bind_eq_bind, Option.bind_eq_some_iff] at h9
    obtain ⟨k9, hk9, hm9⟩ := h9
    simpa [State.code?, hk9, hm9] using hc'
  cases h2.symm.trans e1
  exact h7
/-- what a contract's end says where it throws -/
def FinT (s : State) (Q : Addr → Heap → List Loc → Prop) (C S : Nat) : State → Outcome → Prop := fun s₂ o => ∃ x L, o = .threw x ∧ Q x s₂.heap L ∧ s.Warmed39 s₂.vm ∧ s.Booked s₂.vm s₂.heap.size ∧ s.sameButNew ({ s₂ with vm := s.vm } : State) L C S
theorem Goes.throwT {vm1 : Vm} (X : Stand p l e R (s.setVm vm1) m args below meth c T locs cells slots) (hx : p.tables.exec = Jvm.exec) (hlocks : meth.locks = false) {k : Nat} (hS : s.Since vm1 k) (hk : k ≤ T.heap.size) (hno : c.exceptionTable.toList = []) {pc : Nat} {Ls : Array Slot} {a : Addr} {rest : List Value}
    (hd : decode c.code pc = .ok (.athrow, 1)) {Q : Addr → Heap → List Loc → Prop} {C S : Nat} (hc : cells ≤ C) (hs : slots ≤ S) (hQ : Q a T.heap locs) : Goes p e below (FinT s Q C S) (T.setTop (mkF m pc Ls (.ref a :: rest))) := by
  obtain ⟨h1, h2, h3, h4, h5⟩ := X.athrowLeaves hx (g := mkF m pc Ls (.ref a :: rest)) rfl rfl rfl (by rw [hno]; intro x hx; cases hx) rfl hd hlocks
  obtain ⟨q1, q2, q3⟩ := hS.ended (U := T.setFrames (.throwing a :: below)) h4 hk h5
  exact ⟨_, _, h1, h2, h3, a, locs, rfl, hQ, q1, q2, q3.mono hc hs⟩
/-- a static callee by a contract that throws: the caller's frame beneath what is thrown -/
theorem own_tcall {Z : State} {h : Heap} {own : String} {index : Nat} {y : MethodName} {bytes : ByteArray} {maxL : Nat} {ret : Option FieldType} {rm : Room} {as' : Array Value} {a0 : Array Value} {Q : Addr → Heap → List Loc → Prop}
    (X : Stand p l e R s m args below meth c T locs cells slots) (hx : p.tables.exec = Jvm.exec) (hZ : Z.Warmed39 s.vm)
    (hM : MetFree l y (head1 [Cond.code y bytes maxL ret] rm) (fun a U => a = as' ∧ Z.Warmed39 U.vm ∧ U.heap = h) (fun _ _ bl s _ => s.vm.MethodsKnown ∧ s.vm.FramesKnown bl) (fun _ U o U' => FinT U Q rm.cells rm.slots U' o))
    (hown : s.vm.findClass own = some m.cls) (wl : (Cond.methodLink own index y).before a0 Z = true) (ws : (Cond.static y).before a0 Z = true) (wi : (Cond.initialized y.cls).before a0 Z = true) (wc : (Cond.code y bytes maxL ret).before a0 Z = true) (hy : y.cls ≠ "java/lang/invoke/MethodHandle" ∧ y.cls ≠ "java/lang/invoke/VarHandle")
    (hTK : s.vm.MethodsKnown) (hBelow : s.vm.FramesKnown below) (eT : T.heap = h) {W : Nat} (hf : rm.frames + 1 ≤ R.frames) (hlo : W + (maxL + 11) + rm.locals ≤ R.locals) (hc : cells + rm.cells ≤ R.cells) (hsl : slots + rm.slots ≤ R.slots)
    {g : JFrame} (hg : g.method = m) (hsize : g.locals.size = c.maxLocals) {argsL rest : List Value} (hlen : ∀ sig, parseMethodDescriptor y.desc = some sig → argsL.length = sig.parameters.length) (hstack : g.stack = argsL.reverse ++ rest) (ha : argsL.toArray = as') (hW : 2 * g.monitorRoom + (rest.map fun v => v.category).sum ≤ W) (hdg : decode c.code g.pc = .ok (.invokestatic index, 3)) :
    ∃ (x : Addr) (T' : State) (L : List Loc), Q x T'.heap L ∧ Stand p l e R (s.setVm T'.vm) m args below meth c T' (locs ++ L) (cells + rm.cells) (slots + rm.slots) ∧ s.Since T'.vm T'.heap.size ∧ Z.Warmed39 (s.setVm T'.vm).vm ∧ (s.setVm T'.vm).vm.findClass own = some m.cls ∧
      Steps p.tables e below (T.setTop g) ((T'.setTop { g with stack := rest }).pushFrame (.throwing x)) := by
  have hcode : (Cond.code y bytes maxL ret).before args s = true := mvT hZ wc
  obtain ⟨mk, hnamed⟩ := Cond.code_named hcode
  obtain ⟨methM, cM, hmethM, hcM, -, hmlM, -, -, -, hsigM⟩ := Cond.code_spec hnamed hcode
  have hstatic : methM.isStatic = true := Cond.static_spec hnamed hmethM (mvT (args := args) hZ ws)
  obtain ⟨kP, hkP, -⟩ := className_of_methodNamed hnamed
  have hinitP : kP.init = .initialized := Cond.initialized_spec (findClass_of_methodNamed hnamed) hkP (mvT (args := args) hZ wi)
  obtain ⟨vm₁, X₁, hstep⟩ := X.invokestatic hx hown (mvT hZ wl) hnamed hmethM hstatic hkP hinitP hy (g := g) hg (argsL := argsL) (rest := rest) (hlen _ hsigM) hstack hdg
  have hU : Z.Warmed39 (T.setVm vm₁).vm := wtrans hZ X₁.warmed
  obtain ⟨meth2, c2, g1, g2, -, g4, -⟩ := Cond.code_spec (X₁.named hnamed) (mv hU wc (args := argsL.toArray))
  obtain ⟨o, s₂, st, hend, x, L, rfl, hq, hw9, hb9, hsm⟩ := own_calls X₁ hM (g := { g with stack := rest }) hg hsize (ig := .invokestatic index) (len := 3) hdg (X₁.named hnamed) g1 g2 (a := argsL.toArray) (mv hU wi) hf (by rw [g4]; show 2 * g.monitorRoom + (rest.map fun v => v.category).sum + (maxL + 11) + rm.locals ≤ _; omega) hc hsl (by show (Cond.and _ .tt).before _ _ = true; rw [Cond.before_and, mv hU wc]; rfl) ⟨ha, hU, eT⟩ (known_frames X₁ (g := { g with stack := rest }) hg hTK hBelow)
  obtain ⟨T', e1, e2, X', hS, e3⟩ := own_thrown X₁ (g := { g with stack := rest }) hg hend hw9 hb9 hsm
  refine ⟨x, T', L, by rw [e1]; exact hq, X', hS, State.Warmed39.trans (t := s) hZ hS.1, by rw [show (s.setVm T'.vm).vm = T'.vm from rfl, hS.1.alike.findClass]; exact hown, ?_⟩
  exact hstep _ fun acts => by rw [doInvoke_state]; rw [← e3]; exact st
/-- it is caught: one handler, of the very class -/
theorem own_caught {Z : State} {a0 : Array Value} (X : Stand p l e R s m args below meth c T locs cells slots) (hZ : Z.Warmed39 s.vm) {own name : String} (hown : s.vm.findClass own = some m.cls) {a1 b1 hp ct : Nat} (hex : c.exceptionTable.toList.map (fun h => (h.startPc, h.endPc, h.handlerPc, h.catchType)) = [(a1, b1, hp, ct)])
    {x : Addr} {g : JFrame} (hg : g.method = m) {s₀ : State} (hcome : Steps p.tables e below s₀ ((T.setTop g).pushFrame (.throwing x))) (h1 : a1 ≤ g.pc) (h2 : g.pc < b1) (h0 : ct ≠ 0) (wl : (Cond.classLink own ct name).before a0 Z = true) (E : Exa Z T.heap x name) :
    ∃ T' : State, Stand p l e R s m args below meth c T' locs cells slots ∧ T'.heap = T.heap ∧ Steps p.tables e below s₀ (T'.setTop { g with pc := hp, stack := [.ref x] }) := by
  obtain ⟨en, hen, q⟩ : ∃ en, c.exceptionTable.toList = [en] ∧ (en.startPc, en.endPc, en.handlerPc, en.catchType) = (a1, b1, hp, ct) := by
    cases hL : c.exceptionTable.toList with
    | nil => rw [hL] at hex; simp at hex
    | cons y ys =>
      rw [hL] at hex
      cases ys with
      | nil => exact ⟨y, rfl, by simpa using hex⟩
      | cons z zs => simp at hex
  simp only [Prod.mk.injEq] at q
  obtain ⟨q1, q2, q3, q4⟩ := q
  obtain ⟨cell, k, e1, e2, e3, e4, -⟩ := id E
  obtain ⟨cell', cT, i1, i2, i3⟩ := Ins.self E
  cases e1.symm.trans i1
  simp only [Bool.and_eq_true] at i3
  obtain ⟨vm', X', st⟩ := X.thenCaughtLink x hg hcome hown [] en [] hen (by intro y hy; cases hy) (by simp [covers, q1, q2, h1, h2]) (by rw [q4]; exact h0) (by rw [q4]; exact mvT hZ wl) (by rw [hZ.alike.findClass]; exact i2) e1 e4 (by rw [hZ.alike.assignable]; exact i3.2)
  rw [q3] at st
  exact ⟨_, X', rfl, st⟩
/-- it returned; constants may have been interned -/
theorem own_returned {U : State} {Ls : List Loc} {c0 s0 : Nat} (X : Stand p l e R s m args below meth c U Ls c0 s0) {g : JFrame} (hg : g.method = m) {ig : Instr} {len : Nat} (hdg : decode c.code g.pc = .ok (ig, len)) {mk : MethodId} {a : Array Value} {s₂ : State} {v : Option Value} {L : List Loc} {k n : Nat} (hend : Ended s₂ (.java g :: U.frames.tail) (.returned v))
    (hW : U.Warmed39 s₂.vm) (hB : U.Booked s₂.vm s₂.heap.size) (hsm : (U.calling g mk a).sameButNew ({ s₂ with vm := (U.calling g mk a).vm } : State) L k n) :
    ∃ T', T'.heap = s₂.heap ∧ T'.vm = s₂.vm ∧ Stand p l e R (s.setVm T'.vm) m args below meth c T' (Ls ++ L) (c0 + k) (s0 + n) ∧ s.Since T'.vm T'.heap.size ∧ U.heap.size ≤ T'.heap.size ∧ s₂ = T'.setTop { g with pc := g.pc + len, stack := v.toList ++ g.stack } := by
  have hAt : At U g.method c below := by rw [hg]; exact X.here
  obtain ⟨e2, q⟩ := hsm
  obtain ⟨c₂, i₂, len₂, w1, w2, w3⟩ := hend
  have ec : c₂ = c := by
    have h9 : s₂.code? g.method = U.code? g.method := by rw [State.code?_eq, State.code?_eq, hW.alike.method?]
    exact Option.some.inj ((w1.symm.trans h9).trans hAt.code)
  subst ec
  have el : len₂ = len := by rw [hdg] at w2; cases w2; rfl
  subst el
  obtain ⟨g₀, hg0⟩ := Option.isSome_iff_exists.mp hAt.top
  obtain ⟨r, hr⟩ := State.topJava?_eq_some.mp hg0
  obtain ⟨T', hT⟩ : ∃ T', T' = ({ U with heap := s₂.heap, slotsUsed := s₂.slotsUsed } : State).setVm s₂.vm := ⟨_, rfl⟩
  have hsame : U.sameButNew ({ U with heap := s₂.heap, slotsUsed := s₂.slotsUsed } : State) L k n := by
    obtain ⟨t, ht, -⟩ := State.frames_cons hr
    exact ⟨by show ({ U with heap := s₂.heap, slotsUsed := s₂.slotsUsed } : State) = { U.setFrames U.frames with heap := s₂.heap, slotsUsed := s₂.slotsUsed }; rw [State.setFrames_self ht], q⟩
  subst hg
  obtain ⟨X', hS⟩ := X.movedW (T₂ := T') (by rw [hT]; exact (X.here.setHeapUsed s₂.heap s₂.slotsUsed).setVm hW.alike) (by rw [hT]; exact X.tail) (by rw [hT]; rfl) (by rw [hT]; rfl) (by rw [hT]; exact hW) (by rw [hT]; exact hB) (by rw [hT]; exact hsame)
  refine ⟨T', by rw [hT]; rfl, by rw [hT]; rfl, X', hS, by rw [hT]; exact hsame.2.1, ?_⟩
  have e3 : s₂ = ({ (U.calling g mk a).setFrames s₂.frames with heap := s₂.heap, slotsUsed := s₂.slotsUsed } : State).setVm s₂.vm := by
    have : s₂ = ({ s₂ with vm := (U.calling g mk a).vm } : State).setVm s₂.vm := rfl
    rw [e2] at this; exact this
  have hr' : T'.frames = .java g₀ :: r := by rw [hT]; exact hr
  refine e3.trans ?_
  rw [w3, State.calling_eq hAt.top, State.setFrames_setFrames, State.setTop_of_frames _ hr', hr, hT]
  rfl
/-- 'backOfSKL' for a callee with handlers -/
theorem own_backW {Z : State} {a0 : Array Value} {h : Heap} {y : MethodName} {bytes : ByteArray} {maxL : Nat} {ret : Option FieldType} {hs : List (Nat × Nat × Nat × Nat)} {rm : Room} {len W : Nat} {as' : Array Value} {Q : Option Value → Heap → List Loc → Prop}
    (hM : MetFree l y (head1 [Cond.codeWith y bytes maxL ret hs] rm) (fun a U => a = as' ∧ Z.Warmed39 U.vm ∧ U.heap = h) (fun _ _ bl s _ => s.vm.MethodsKnown ∧ s.vm.FramesKnown bl) (fun _ U o U' => ∃ v L, o = .returned v ∧ Q v U'.heap L ∧ ReturnedEndW U o U' L rm.cells rm.slots))
    (hZ : Z.Warmed39 s.vm) (wc : (Cond.codeWith y bytes maxL ret hs).before a0 Z = true) (wz : (Cond.initialized y.cls).before a0 Z = true) (hf : rm.frames + 1 ≤ R.frames) (hl : W + (maxL + 11) + rm.locals ≤ R.locals) (hTK : s.vm.MethodsKnown) (hBelow : s.vm.FramesKnown below) :
    BackS l R p e below s args y len W (fun A a => a = as' ∧ A.U.heap = h ∧ A.cells + rm.cells ≤ R.cells ∧ A.slots + rm.slots ≤ R.slots)
      (fun A _ v B => ∃ L, Q v B.U.heap L ∧ B.locs = A.locs ++ L ∧ B.cells = A.cells + rm.cells ∧ B.slots = A.slots + rm.slots) := by
  intro m meth c A g ig mk a X hg hsize hdg hW hn hp
  obtain ⟨U, Ls, c0, s0⟩ := A
  dsimp only [Pt.U, Pt.locs, Pt.cells, Pt.slots] at X hn hp ⊢
  have hU : Z.Warmed39 U.vm := wtrans hZ X.warmed
  obtain ⟨m1, meth2, c2, g0, g1, g2, -, g4, -⟩ := Cond.codeWith_spec (mv hU wc (args := a))
  cases hn.symm.trans g0
  obtain ⟨o, s₂, st, hend, v, L, rfl, hq, -, hw9, hb9, hsm⟩ := own_calls X hM (g := g) hg hsize (ig := ig) (len := len) hdg hn g1 g2 (a := a) (mv hU wz) hf (by rw [g4]; show 2 * g.monitorRoom + (g.stack.map fun v => v.category).sum + (maxL + 11) + rm.locals ≤ _; omega) hp.2.2.1 hp.2.2.2 (by show (Cond.and _ .tt).before _ _ = true; rw [Cond.before_and, mv hU wc]; rfl) ⟨hp.1, hU, hp.2.1⟩ (known_frames X hg hTK hBelow)
  obtain ⟨T', e1, e2, X', hS, hgr, e3⟩ := own_returned X hg hdg hend hw9 hb9 hsm
  refine ⟨v, ⟨T', Ls ++ L, c0 + rm.cells, s0 + rm.slots⟩, X', hS, hgr, ⟨L, by show Q v T'.heap L; rw [e1]; exact hq, rfl, rfl, rfl⟩, ?_⟩
  show Steps p.tables e below _ (T'.setTop _)
  rw [← e3]; exact st
end OwnE2
end Jvm.RoadKit
namespace Jvm.RoadKit
open Sem ClassFile Op Lib Jvm.Stand Jvm.Free Jvm.LawKit
section OwnE3
variable {p : Program} {l : Launch} {e : Env} {R : Room} {s : State} {m : MethodId} {args : Array Value} {below : List Frame} {meth : Method} {c : Code} {T : State} {locs : List Loc} {cells slots : Nat}
theorem Goes.retOW {vm1 : Vm} (X : Stand p l e R (s.setVm vm1) m args below meth c T locs cells slots) (hx : p.tables.exec = Jvm.exec) (hlocks : meth.locks = false) {k : Nat} (hS : s.Since vm1 k) (hk : k ≤ T.heap.size) {pc : Nat} {Ls : Array Slot} {w : Value} {t : FieldType} {i : Instr} {rest : List Value} (hret : meth.sig.returnType = some t) (hn : narrow t w = w)
    (hi : (i = .ireturn ∧ (t = .int ∨ t = .boolean ∨ t = .byte ∨ t = .char ∨ t = .short) ∧ ∃ z, w = .int z) ∨ (i = .lreturn ∧ t = .long ∧ ∃ z, w = .long z) ∨ (i = .dreturn ∧ t = .double ∧ ∃ z, w = .double z) ∨ (i = .freturn ∧ t = .float ∧ ∃ z, w = .float z) ∨ (i = .areturn ∧ t.isReference = true ∧ w.isRef = true))
    (hd : decode c.code pc = .ok (i, 1)) {Q : Option Value → Heap → List Loc → Prop} {C S : Nat} (hc : cells ≤ C) (hs : slots ≤ S) (hQ : Q (some w) T.heap locs) : Goes p e below (FinW s Q C S) (T.setTop (mkF m pc Ls (w :: rest))) := by
  obtain ⟨fs, hr, hrun, hended, h1, h2, h3, h4⟩ := X.leaveW hS hk (v := some w) (fun h => by rw [hret] at h; cases h) hlocks
  exact ⟨_, _, Jvm.RoadKit.retOut X hx hret hn hi hd hr, hrun, hended, _, _, rfl, hQ, h1, h2, h3, h4.mono hc hs⟩
theorem Goes.retVW {vm1 : Vm} (X : Stand p l e R (s.setVm vm1) m args below meth c T locs cells slots) (hx : p.tables.exec = Jvm.exec) (hlocks : meth.locks = false) {k : Nat} (hS : s.Since vm1 k) (hk : k ≤ T.heap.size) {pc : Nat} {Ls : Array Slot} (hret : meth.sig.returnType = none)
    (hd : decode c.code pc = .ok (.return_, 1)) {Q : Option Value → Heap → List Loc → Prop} {C S : Nat} (hc : cells ≤ C) (hs : slots ≤ S) (hQ : Q none T.heap locs) : Goes p e below (FinW s Q C S) (T.setTop (mkF m pc Ls [])) := by
  obtain ⟨fs, hr, hrun, hended, h1, h2, h3, h4⟩ := X.leaveW hS hk (v := none) (fun _ => rfl) hlocks
  exact ⟨_, _, X.returnOut hx hret hd hr, hrun, hended, _, _, rfl, hQ, h1, h2, h3, h4.mono hc hs⟩
/-- all that was written lies in one object -/
def own_ba (a : Addr) (L : List Loc) : Prop := ∀ y ∈ L, y.base = a
theorem own_ba.nil (a : Addr) : own_ba a [] := fun y hy => by cases hy
theorem own_ba.of {a : Addr} {i : Nat} (X : Stand p l e R s m args below meth c T (locs ++ [⟨a, i⟩]) cells slots) (B : own_ba a locs) : own_ba a (locs ++ [⟨a, i⟩]) := fun y hy => by
  rcases List.mem_append.mp hy with h | h
  · exact B y h
  · rw [List.mem_singleton.mp h]
theorem own_ba.app {a : Addr} {L L3 : List Loc} (B : own_ba a L) (C : ∀ y ∈ L3, y.base = a) : own_ba a (L ++ L3) := fun y hy => (List.mem_append.mp hy).elim (B y) (C y)
theorem own_ba.fr {a : Addr} {L : List Loc} {n0 : Nat} (B : own_ba a L) (h : n0 ≤ a) : Fr n0 L := fun y hy => by rw [B y hy]; exact h
theorem fits_refA {v : Value} {t : FieldType} (h : v.isRef = true) : fits (.array t) v = true := by rcases ref_cases h with rfl | ⟨_, rfl⟩ <;> rfl
end OwnE3
end Jvm.RoadKit
namespace Jvm.RoadKit
open Sem ClassFile Op Lib Bundle Jvm.Stand Jvm.Free Jvm.LawKit Jvm.Free.Exc LibCode.Throwable
/-- the word that the sheets lack -/
abbrev own_no : Cond := .lays tN tN "suppressedExceptions" listD
def own_tw (rc : String) (args : Array Value) (s : State) : Prop := ∀ d ∈ excAtoms rc, d ≠ own_no → d.before args s = true
/-- Throwable's parts, found by the words of a class rc below her -/
theorem own_thr {args : Array Value} {s : State} {pl : Platform} {rc : String} (hrc : rc ≠ tN) (ho : pl.frameOwnsMonitors = true) (hf : pl.finalization = false) (hp : pl.magicAccessors = ({} : Platform).magicAccessors) (W : own_tw rc args s) :
    ∃ T : ThrowableC, T.Links pl s ∧ s.vm.findClass tN = some T.cT ∧ s.methodNamed? tFill = some T.fill ∧ s.methodNamed? tFill0 = some T.fill0 ∧ s.fieldFound? tN "stackTrace" steD = some (T.cT, T.kT, T.i17, T.fStack) ∧ T.fStack.name = "stackTrace" ∧ T.fStack.type = .array (.object "java/lang/StackTraceElement") ∧ s.fieldFound? tN "UNASSIGNED_STACK" steD = some (T.cT, T.kT, T.i13, T.fUnassigned) ∧ ∃ cell, s.heap[T.aS]? = some cell ∧ cell.vm.isStatics = true := by
  have q : ∀ d ∈ excAtoms rc, d ≠ own_no → d.holds args s none s [] = true := fun d h1 h2 => W d h1 h2
  obtain ⟨⟨cT, j0⟩, g0, n0, e0, hnat, hnc, hnl, hns⟩ := Cond.native_spec (q (.native tFill0) (by simp [excAtoms, throwableAtoms]) (by simp))
  have hcT : s.vm.findClass tN = some cT := findClass_of_methodNamed n0
  obtain ⟨-, kT, -, -, hkT, -, -, -, -, hni⟩ := Cond.superclass_spec hcT (q (.superclass tN "java/lang/Object") (by simp [excAtoms, throwableAtoms]) (by simp))
  obtain ⟨kT', hkT', hnm⟩ := Vm.findClass_spec hcT
  cases hkT.symm.trans hkT'
  obtain ⟨a7, i7, f7, l7, r7, p7, s7, u7, m7, t7, x7⟩ := Cond.ownField (t := .object tN) hcT hkT (by decide +kernel) (q (.fieldLink tN 7 tN "cause" thD) (by simp [excAtoms, throwableAtoms]) (by simp)) (q (.lays rc tN "cause" thD) (by simp [excAtoms, throwableAtoms]) (by simp)) pl hp
  obtain ⟨a17, i17, f17, l17, r17, p17, s17, u17, m17, t17, x17⟩ := Cond.ownField (t := .array (.object "java/lang/StackTraceElement")) hcT hkT (by decide +kernel) (q (.fieldLink tN 17 tN "stackTrace" steD) (by simp [excAtoms, throwableAtoms]) (by simp)) (q (.lays rc tN "stackTrace" steD) (by simp [excAtoms, throwableAtoms]) (by simp)) pl hp
  have wsu := q (.lays rc tN "suppressedExceptions" listD) (by simp [excAtoms, throwableAtoms]) (by simp [hrc])
  obtain ⟨a24, i24, f24, l24, r24, p24, s24, u24, m24, t24, x24⟩ := Cond.ownField (t := .object "java/util/List") hcT hkT (by decide +kernel) (q (.fieldLink tN 24 tN "suppressedExceptions" listD) (by simp [excAtoms, throwableAtoms]) (by simp)) wsu pl hp
  obtain ⟨a13, i13, f13, aS, cS, l13, r13, p13, s13, -, -, hst, hcS, hiS, -, -, x13⟩ := Cond.ownStatic (t := .array (.object "java/lang/StackTraceElement")) hcT hkT (by decide +kernel) (q (.fieldLink tN 13 tN "UNASSIGNED_STACK" steD) (by simp [excAtoms, throwableAtoms]) (by simp)) (q (.laysStatic tN "UNASSIGNED_STACK" steD) (by simp [excAtoms, throwableAtoms]) (by simp)) pl hp
  obtain ⟨a20, i20, f20, _, _, l20, r20, p20, s20, -, -, -, -, -, -, -, x20⟩ := Cond.ownStatic (t := .object "java/util/List") hcT hkT (by decide +kernel) (q (.fieldLink tN 20 tN "SUPPRESSED_SENTINEL" listD) (by simp [excAtoms, throwableAtoms]) (by simp)) (q (.laysStatic tN "SUPPRESSED_SENTINEL" listD) (by simp [excAtoms, throwableAtoms]) (by simp)) pl hp
  -- her message's field
  obtain ⟨crc, krc, c1, k1, iM, fM, hcr, hkr, xM, sM, uM, -⟩ := Cond.lays_spec (q (.lays rc tN "detailMessage" msgD) (by simp [excAtoms, throwableAtoms]) (by simp))
  -- two fields, two slots: by the layout of rc
  have apart : f17.slot ≠ f24.slot := by
    obtain ⟨-, d1, y1, z1⟩ := Cond.laysAt hcr hkr x17 (q (.lays rc tN "stackTrace" steD) (by simp [excAtoms, throwableAtoms]) (by simp))
    obtain ⟨-, d2, y2, z2⟩ := Cond.laysAt hcr hkr x24 wsu
    exact Cond.laysApart y1 y2 z1 z2 (by rw [m17, m24]; decide)
  -- methods
  obtain ⟨jF, gF, nF, eF, atF, stF, abF, -, -⟩ := Cond.ownMethod (x := tFill) hcT hkT (q (.instanceMethod tFill) (by simp [excAtoms, throwableAtoms]) (by simp))
  obtain ⟨gF', kF, eF', cF, bF, lF, rF, lkF, -, sgF⟩ := Cond.codeSync_spec nF (q (.codeSync tFill Fill.code 1 (some (.object tN))) (by simp [excAtoms, throwableAtoms]) (by simp))
  cases eF.symm.trans eF'
  obtain ⟨j0', g0', n0', e0', at0, st0, ab0, nm0, ds0⟩ := Cond.ownMethod (x := tFill0) hcT hkT (q (.instanceMethod tFill0) (by simp [excAtoms, throwableAtoms]) (by simp))
  cases n0.symm.trans n0'
  cases e0.symm.trans e0'
  obtain ⟨mO, gO, nO, eO, stO, abO⟩ := Cond.instanceMethod_spec (q (.instanceMethod oInit) (by simp [excAtoms, throwableAtoms]) (by simp))
  obtain ⟨gO', kO, eO', cO, bO, lO, -, lkO, -, sgO⟩ := Cond.code_spec nO (q (.code oInit ⟨#[0xb1]⟩ 1 none) (by simp [excAtoms, throwableAtoms]) (by simp))
  cases eO.symm.trans eO'
  obtain ⟨clO, hclO, nmO⟩ := Vm.findClass_spec (findClass_of_methodNamed nO)
  obtain ⟨nO1, nO2⟩ := name_of_methodNamed nO eO
  obtain ⟨b1, v1, cf, L1, R1, hcf, P1⟩ := Cond.linkedMethod hcT hkT nO (q (.methodLink tN 1 oInit) (by simp [excAtoms, throwableAtoms]) (by simp)) pl hp
  obtain ⟨b27, v27, cf2, L27, R27, hcf2, P27⟩ := Cond.linkedMethod hcT hkT nF (q (.methodLink tN 27 tFill) (by simp [excAtoms, throwableAtoms]) (by simp)) pl hp
  obtain ⟨b202, v202, cf3, L202, R202, hcf3, P202⟩ := Cond.linkedMethod hcT hkT n0 (q (.methodLink tN 202 tFill0) (by simp [excAtoms, throwableAtoms]) (by simp)) pl hp
  cases hcf.symm.trans hcf2
  cases hcf.symm.trans hcf3
  have sig : ∀ {d : String} {x : MethodDescriptor} {ps : List FieldType} {r : Option FieldType}, parseMethodDescriptor d = some x → parseMethodDescriptor d = some ⟨ps, r⟩ → x.parameters = ps := fun h1 h2 => by cases h1.symm.trans h2; rfl
  refine ⟨{ cT := cT, kT := kT, cO := cT, aS := aS, fillIdx := jF, fill0Idx := j0, initSIdx := jF, obj := mO, kObj := clO, methFill := gF, methFill0 := g0, methInitS := gF, methObj := gO, codeFill := kF, codeInitS := kF, codeObj := kO, fBack := f7, fDepth := f7, fStack := f17, fCause := f7, fSupp := f24, fMsg := fM, fUnassigned := f13, fSentinel := f20, cfT := cf, ci1 := b1, n1 := v1, ci27 := b27, n27 := v27, ci202 := b202, n202 := v202, ci7 := a7, i7 := i7, ci13 := a13, i13 := i13, ci17 := a17, i17 := i17, ci20 := a20, i20 := i20, ci24 := a24, i24 := i24 }, ?_, hcT, nF, n0, x17, m17, t17, x13, cS, hcS, hiS⟩
  constructor
  case owns => exact ho
  case noFinalization => exact hf
  case cls => exact hkT
  case name => exact hnm
  case boot => exact Vm.findClass_boot hcT hkT
  case notInterface => exact hni
  case initialized => exact Cond.initialized_spec hcT hkT (q (.initialized tN) (by simp [excAtoms, throwableAtoms]) (by simp))
  case fillParams => exact sig sgF (by decide +kernel : parseMethodDescriptor tFill.desc = some ⟨[], some (.object tN)⟩)
  case fill0Params => exact sig hns (by decide +kernel : parseMethodDescriptor tFill0.desc = some ⟨[.int], some (.object tN)⟩)
  case objParams => rw [sig sgO (by decide +kernel : parseMethodDescriptor oInit.desc = some ⟨[], none⟩)]; rfl
  case objFound => rw [show gO.desc = oInit.desc from nO2]; exact lookupSpecial_of_named nO eO stO
  all_goals first | assumption | exact apart

/-- fillInStackTrace(), called of an exception's constructor -/
theorem own_fill {p : Program} {l : Launch} {e : Env} {R : Room} {s : State} {m : MethodId} {args : Array Value} {below : List Frame} {meth : Method} {c : Code} {T : State} {locs : List Loc} {cells slots : Nat} {Z : State} {a0 : Array Value} {h : Heap}
    (X : Stand p l e R s m args below meth c T locs cells slots) (hx : p.tables.exec = Jvm.exec) (hl : l.stackTraces = true) (hZ : Z.Warmed39 s.vm) {rc : String} (hrc : rc ≠ tN) (hown : s.vm.findClass tN = some m.cls) (W : own_tw rc args s)
    (hTK : s.vm.MethodsKnown) (hBelow : s.vm.FramesKnown below) (eT : T.heap = h) {a : Addr} {n : Nat} (wi : (Cond.instantiable rc n).before a0 Z = true) (E : Exa Z h a rc) (N : Unt h a) (FB : Fld Z h a tN "backtrace" obD .null) {u : Value} (hu : u.isRef = true) (FS : Fld Z h a tN "stackTrace" steD u) (FM : Fld Z h a tN "detailMessage" msgD .null)
    (SU : Sta Z h tN "UNASSIGNED_STACK" steD u)
    {g : JFrame} (hg : g.method = m) (hsize : g.locals.size = c.maxLocals) (hs : g.stack = [.ref a]) (hmr : g.monitorRoom = 0) (hd : decode c.code g.pc = .ok (.invokevirtual 27, 3)) (hf : 3 ≤ R.frames) (hlo : 42 ≤ R.locals) (hc : cells + 1 ≤ R.cells) (hsl : slots + 2752 ≤ R.slots) :
    ∃ (T' : State) (L3 : List Loc), Stand p l e R s m args below meth c T' (locs ++ L3) (cells + 1) (slots + 2752) ∧ (∀ y ∈ L3, y.base = a) ∧ Exa Z T'.heap a rc ∧ Fld Z T'.heap a tN "detailMessage" msgD .null ∧
      ∀ target, Steps p.tables e below (T'.setTop { g with pc := g.pc + 3, stack := [.ref a] }) target → Steps p.tables e below (T.setTop g) target := by
  have htr : e.platform.stackTraces = true := by rw [X.admits.platform]; exact hl
  have ho : e.platform.frameOwnsMonitors = true := by rw [X.admits.platform]
  have hfi : e.platform.finalization = false := by rw [X.admits.platform]
  have hp : e.platform.magicAccessors = ({} : Platform).magicAccessors := by rw [X.admits.platform]
  obtain ⟨TT, L, hfT, nF, n0, xS, nmS, tyS, xU, cS0, hcS0, hiS0⟩ := own_thr hrc ho hfi hp W
  have q : ∀ d ∈ excAtoms rc, d ≠ own_no → d.holds args s none s [] = true := fun d h1 h2 => W d h1 h2
  have ride : ∀ {C N D : String} {cf : ClassId} {k : Class} {i : Nat} {f : Field}, Z.fieldFound? C N D = some (cf, k, i, f) → ∃ k', s.fieldFound? C N D = some (cf, k', i, f) := fun hz => by
    obtain ⟨k', h1, -⟩ := State.fieldFound?_setVm (s := Z) hZ.alike hz
    exact ⟨k', h1⟩
  -- the object's cell
  obtain ⟨C, c1, c2, c3⟩ := N
  obtain ⟨C', kz, e1, e2, e3, e4, e5⟩ := id E
  cases c1.symm.trans e1
  have hfr : s.vm.findClass rc = some C.cls := by rw [hZ.alike.findClass]; exact e2
  obtain ⟨kX, hkX, hek⟩ := hZ.alike.2.2 _ _ e3
  have hord : kz.kind = .ordinary := by
    obtain ⟨c9, k9, g1, g2, g3, -⟩ := Cond.instantiable_spec wi
    cases e2.symm.trans g1
    cases e3.symm.trans g2
    exact g3
  have hordX : kX.kind = .ordinary := by rw [hek]; exact hord
  have hszX : C.slots.size = kX.instanceTypes.size := by rw [hek]; exact e5 hord
  have tk : ∀ {f : Field} {v : Value}, kX.instanceTypes[f.slot]? = some f.type → fits f.type v = true → Jvm.Takes s C f v := fun {f v} h1 h2 => by
    obtain ⟨q1, q2⟩ := Takes.of_laid (v := v) hkX hordX h1 h2
    exact ⟨by rw [hszX]; simpa using q1, by rw [c2]; exact q2⟩
  -- its fields
  obtain ⟨yS, dS, dS1, dS2⟩ := Cond.laysAt hfr hkX xS (q (.lays rc tN "stackTrace" steD) (by simp [excAtoms, throwableAtoms]) (by simp))
  obtain ⟨bi, ib, fB, lB, rB, pB, sB, -, nB, tB, xB⟩ := Cond.ownField (t := .object "java/lang/Object") hfT L.cls (by decide +kernel) (q (.fieldLink tN 198 tN "backtrace" obD) (by simp [excAtoms, throwableAtoms]) (by simp)) (q (.lays rc tN "backtrace" obD) (by simp [excAtoms, throwableAtoms]) (by simp)) e.platform hp
  obtain ⟨yB, dB, dB1, dB2⟩ := Cond.laysAt hfr hkX xB (q (.lays rc tN "backtrace" obD) (by simp [excAtoms, throwableAtoms]) (by simp))
  obtain ⟨-, -, cD, kD, iD, fD, -, -, xD, sD, -⟩ := Cond.lays_spec (q (.lays rc tN "depth" "I") (by simp [excAtoms, throwableAtoms]) (by simp))
  cases Option.some.inj ((Cond.lays_declared (q (.lays rc tN "depth" "I") (by simp [excAtoms, throwableAtoms]) (by simp)) xD).symm.trans hfT)
  obtain ⟨hkD, pD⟩ := State.fieldFound?_spec xD
  cases Option.some.inj (hkD.symm.trans L.cls)
  obtain ⟨nD, tD⟩ := State.fieldFound?_type xD (t := .int) (by decide +kernel)
  obtain ⟨yD, dD, dD1, dD2⟩ := Cond.laysAt hfr hkX xD (q (.lays rc tN "depth" "I") (by simp [excAtoms, throwableAtoms]) (by simp))
  obtain ⟨comp, cO, kO, -, -, hkO, hkindO, hO⟩ := Cond.arrayOver_spec (W (.arrayOver (.object "java/lang/Object")) (by simp [excAtoms, throwableAtoms]) (by simp))
  have hfb := Cond.soleField_find hfT L.cls (q (.soleField tN "backtrace") (by simp [excAtoms, throwableAtoms]) (by simp)) pB nB sB
  have hfd := Cond.soleField_find hfT L.cls (q (.soleField tN "depth") (by simp [excAtoms, throwableAtoms]) (by simp)) pD nD sD
  have hsel0 : selectMethod e.platform s.vm C.cls TT.fill0 = .method TT.fill0 := by
    obtain ⟨v2, w2, m2, q1, q2, q3, q4, -⟩ := Cond.selects_spec (q (.selects rc tFill0 tFill0) (by simp [excAtoms, throwableAtoms]) (by simp))
    cases Option.some.inj (q1.symm.trans hfr)
    cases Option.some.inj (q2.symm.trans (State.methodFound?_of_named n0 (by decide)))
    cases Option.some.inj (q3.symm.trans n0)
    rw [Launch.admits_selectMethod X.admits]; exact q4
  have vS : C.slots[TT.fStack.slot]? = some u := by
    obtain ⟨C2, cf, k, i, f, h1, h2, -, -, -, -, h7⟩ := FS
    cases c1.symm.trans h1
    obtain ⟨k', h2'⟩ := ride h2
    cases xS.symm.trans h2'
    exact h7
  have vB : C.slots[fB.slot]? = some .null := by
    obtain ⟨C2, cf, k, i, f, h1, h2, -, -, -, -, h7⟩ := FB
    cases c1.symm.trans h1
    obtain ⟨k', h2'⟩ := ride h2
    cases xB.symm.trans h2'
    exact h7
  -- the statics' cell
  obtain ⟨cf, i, k, f, st, cellS, s1, s2, s3, s4, s5, s6, s7⟩ := id SU
  obtain ⟨k', s1', hek'⟩ := State.fieldFound?_setVm (s := Z) hZ.alike s1
  have xx : some (TT.cT, TT.kT, TT.i13, TT.fUnassigned) = some (cf, k', i, f) := xU.symm.trans s1'
  have hst : TT.aS = st := by
    have h1 : TT.kT = k' := by simpa using congrArg (fun z => (z.map fun w => w.2.1)) xx
    have h2 := L.statics
    rw [h1, hek'] at h2
    exact Option.some.inj (h2.symm.trans s4)
  have hfu : TT.fUnassigned = f := by simpa using congrArg (fun z => (z.map fun w => w.2.2.2)) xx
  have hneS : TT.aS ≠ a := fun q1 => by
    rw [hst] at q1
    rw [q1] at s5
    cases c1.symm.trans s5
    rw [c2] at s6
    cases s6
  have fitsS : fits TT.fStack.type u = true := by rw [tyS]; exact fits_refV_array _ ⟨u, hu⟩
  have pay := fillPaysAny (l := l) (R := R) (p := p) (e := e) (below := below) (s := s) (sargs := args) (len := 3) (W := 0) hx htr TT L nF (u0 := ⟨u, hu⟩) (self := a) (cell := C) (cellS := cellS) (fun _ => by rw [c2]; simp) (by rw [c2]; simp) (by rw [c3]) (by rw [c3]) vS hsel0 hneS (by intro q1; rw [q1] at s6; cases s6) (by rw [hfu]; exact s7) (tk yS fitsS)
    ⟨{ ci198 := bi, i198 := ib, fBack := fB }, ⟨lB, rB, pB, sB⟩, vB⟩ hTK hBelow hfT hO hkO hkindO hfb hfd (fun x => tk yB (by rw [tB]; rfl)) (fun x => tk yD (by rw [tD]; rfl)) (by omega) (by omega)
  have hSE := (W (.selects rc tFill tFill) (by simp [excAtoms, throwableAtoms]) (by simp))
  have hgg : (T.setTop g) = T.setTop g := rfl
  obtain ⟨v6, vm6, ⟨T6, L6, n6, k6⟩, hW6, X6, ⟨hv6, C6, n', hn', hD6, q1, q2, q3, q4, hL6, hc6, hn6⟩, st6⟩ := X.virtualBack hx (own := tN) (C := rc) (index := 27) (y := tFill) (z := tFill) hown (W (.methodLink tN 27 tFill) (by simp [excAtoms, throwableAtoms]) (by simp)) (W (.declares tFill) (by simp [excAtoms, throwableAtoms]) (by simp)) (notFace_of_selects hSE) hSE (W (.instanceMethod tFill) (by simp [excAtoms, throwableAtoms]) (by simp)) (by decide) pay
    (b := a) (cB := C.cls) hfr ⟨C, by rw [eT]; exact c1, rfl, by rw [c2]; rfl⟩ hg hsize (Steps.refl _) (argsL := []) (rest := [])
    (fun sig hh => by rw [show parseMethodDescriptor tFill.desc = some ⟨[], some (.object tN)⟩ from by decide +kernel] at hh; rw [← Option.some.inj hh]; rfl) (by rw [hs]; rfl) (by rw [hmr]; decide) hd
    (fun vmx hWx => ⟨rfl, hc, hsl, by show T.heap[a]? = _; rw [eT]; exact c1, by show T.heap[TT.aS]? = _; rw [eT, hst]; exact s5⟩)
  dsimp only [Pt.U, Pt.locs, Pt.cells, Pt.slots] at X6 hD6 hL6 hc6 hn6 st6
  subst hv6 hL6 hc6 hn6
  refine ⟨T6, _, { X6 with same := X6.same.mono (Nat.le_refl _) (Nat.add_le_add_left hn' _) }, fun y hy => ?_, ⟨C6, kz, hD6, by rw [q1]; exact e2, by rw [q1]; exact e3, by rw [q2]; exact e4, fun hk0 => by rw [q3]; exact e5 hk0⟩, ?_, fun target kk => st6.trans kk⟩
  · simp only [List.mem_cons, List.not_mem_nil, or_false] at hy
    rcases hy with rfl | rfl | rfl <;> rfl
  · obtain ⟨C2, cf, k, i, f, h1, h2, h3, h4, h5, h6, h7⟩ := FM
    cases c1.symm.trans h1
    obtain ⟨k9, h2'⟩ := ride h2
    obtain ⟨-, dM, dM1, dM2⟩ := Cond.laysAt hfr hkX h2' (q (.lays rc tN "detailMessage" msgD) (by simp [excAtoms, throwableAtoms]) (by simp))
    have nM : f.name = "detailMessage" := (State.fieldFound?_type h2' (t := .object "java/lang/String") (by decide +kernel)).1
    have aB := Cond.laysApart dM1 dB1 dM2 dB2 (by rw [nM, nB]; decide)
    have aD := Cond.laysApart dM1 dD1 dM2 dD2 (by rw [nM, nD]; decide)
    have aS' := Cond.laysApart dM1 dS1 dM2 dS2 (by rw [nM, nmS]; decide)
    exact ⟨C6, _, _, _, f, hD6, h2, h3, by rw [q2]; exact h4, by rw [q2]; exact h5, by rw [q1]; exact h6, by rw [q4 _ aB aD aS']; exact h7⟩
end Jvm.RoadKit
@@BLOCK:TracedD.lean.txt@@
namespace Jvm.Pilot.@@N@@
open Jvm Jvm.ClassFile Sem Op Lib Jvm.Free Jvm.Stand Jvm.LawKit Jvm.RoadKit Bundle Jvm.Pilot.@@N@@.Jvm.D
theorem w_ {Z : State} {a0 : Array Value} {d : Jvm.Cond} (hw : ∀ d ∈ tables_1, d.before a0 Z = true) (i : Nat) (h : tables_1[i]? = some d) : d.before a0 Z = true := hw _ (List.mem_of_getElem? h)
abbrev own_M (l : Launch) (Z : State) (y : MethodName) (c : Jvm.Cond) (ws : List Jvm.Cond) (R : Room) (a : Array Value) (h0 : Heap) (Q : Option Value → Heap → List Loc → Prop) : Prop := MetFree l y (head1 (c :: ws) R) (fun a' U => a' = a ∧ Z.Warmed39 U.vm ∧ U.heap = h0) (fun _ _ _ _ _ => True) (fun _ U oo U' => ∃ vv LL, oo = .returned vv ∧ Q vv U'.heap LL ∧ FrameEnd U oo U' LL R.cells R.slots)
theorem pd_0 : parseMethodDescriptor "(Ljava/lang/String;)V" = some ⟨[(.object "java/lang/String")], none⟩ := by decide +kernel
theorem pd_1 : parseMethodDescriptor "(JJ)J" = some ⟨[.long, .long], some .long⟩ := by decide +kernel
theorem pd_2 : parseMethodDescriptor "(J)V" = some ⟨[.long], none⟩ := by decide +kernel
theorem pd_3 : parseMethodDescriptor "(II)I" = some ⟨[.int, .int], some .int⟩ := by decide +kernel
theorem pd_4 : parseMethodDescriptor "(IIJ)J" = some ⟨[.int, .int, .long], some .long⟩ := by decide +kernel
theorem pd_5 : parseMethodDescriptor "(IJ)J" = some ⟨[.int, .long], some .long⟩ := by decide +kernel
theorem pd_6 : parseMethodDescriptor "()V" = some ⟨[], none⟩ := by decide +kernel
theorem pd_7 : parseMethodDescriptor "(JI)J" = some ⟨[.long, .int], some .long⟩ := by decide +kernel
theorem pd_8 : parseMethodDescriptor "()J" = some ⟨[], some .long⟩ := by decide +kernel
theorem own_twx {Z s : State} {a0 args : Array Value} (hw : ∀ d ∈ tables_1, d.before a0 Z = true) (hT : ThS Z s.heap) (hZ : Z.Warmed39 s.vm) : own_tw "java/lang/ArithmeticException" args s := by
  intro d hd hne
  simp only [Jvm.Free.Exc.excAtoms, Bundle.throwableAtoms, List.cons_append, List.nil_append, List.mem_cons, List.not_mem_nil, or_false] at hd
  rcases hd with rfl | rfl | rfl | rfl | rfl | rfl | rfl | rfl | rfl | rfl | rfl | rfl | rfl | rfl | rfl | rfl | rfl | rfl | rfl | rfl | rfl | rfl | rfl | rfl | rfl | rfl | rfl | rfl | rfl | rfl | rfl | rfl | rfl | rfl | rfl | rfl | rfl | rfl
  · exact mvX hT hZ rfl (w_ hw 84 rfl)
  · exact mvX hT hZ rfl (w_ hw 102 rfl)
  · exact mvX hT hZ rfl (w_ hw 97 rfl)
  · exact mvX hT hZ rfl (w_ hw 103 rfl)
  · exact mvX hT hZ rfl (w_ hw 104 rfl)
  · exact mvX hT hZ rfl (w_ hw 105 rfl)
  · exact mvX hT hZ rfl (w_ hw 106 rfl)
  · exact mvX hT hZ rfl (w_ hw 107 rfl)
  · exact mvX hT hZ rfl (w_ hw 14 rfl)
  · exact mvX hT hZ rfl (w_ hw 15 rfl)
  · exact mvX hT hZ rfl (w_ hw 86 rfl)
  · exact mvX hT hZ rfl (w_ hw 95 rfl)
  · exact mvX hT hZ rfl (w_ hw 108 rfl)
  · exact mvX hT hZ rfl (w_ hw 87 rfl)
  · exact mvX hT hZ rfl (w_ hw 109 rfl)
  · exact mvX hT hZ rfl (w_ hw 90 rfl)
  · exact mvX hT hZ rfl (w_ hw 110 rfl)
  · exact mvX hT hZ rfl (w_ hw 93 rfl)
  · exact absurd rfl hne
  · exact mvX hT hZ rfl (w_ hw 89 rfl)
  · exact mvX hT hZ rfl (w_ hw 115 rfl)
  · exact mvX hT hZ rfl (w_ hw 92 rfl)
  · exact mvX hT hZ rfl (w_ hw 116 rfl)
  · exact mvX hT hZ rfl (w_ hw 111 rfl)
  · exact mvX hT hZ rfl (w_ hw 96 rfl)
  · exact mvX hT hZ rfl (w_ hw 117 rfl)
  · exact mvX hT hZ rfl (w_ hw 98 rfl)
  · exact mvX hT hZ rfl (w_ hw 88 rfl)
  · exact mvX hT hZ rfl (w_ hw 91 rfl)
  · exact mvX hT hZ rfl (w_ hw 94 rfl)
  · exact mvX hT hZ rfl (w_ hw 118 rfl)
  · exact mvX hT hZ rfl (w_ hw 113 rfl)
  · exact mvX hT hZ rfl (w_ hw 114 rfl)
  · exact mvX hT hZ rfl (w_ hw 119 rfl)
  · exact mvX hT hZ rfl (w_ hw 99 rfl)
  · exact mvX hT hZ rfl (w_ hw 100 rfl)
  · exact mvX hT hZ rfl (w_ hw 101 rfl)
  · exact mvX hT hZ rfl (w_ hw 120 rfl)
theorem d14_0 : decode jdk_78_method_2_code 0 = .ok (.aload_n 0, 1) := by decide +kernel
theorem d14_1 : decode jdk_78_method_2_code 1 = .ok (.invokespecial 1, 3) := by decide +kernel
theorem d14_4 : decode jdk_78_method_2_code 4 = .ok (.aload_n 0, 1) := by decide +kernel
theorem d14_5 : decode jdk_78_method_2_code 5 = .ok (.aload_n 0, 1) := by decide +kernel
theorem d14_6 : decode jdk_78_method_2_code 6 = .ok (.putfield 7, 3) := by decide +kernel
theorem d14_9 : decode jdk_78_method_2_code 9 = .ok (.aload_n 0, 1) := by decide +kernel
theorem d14_10 : decode jdk_78_method_2_code 10 = .ok (.getstatic 13, 3) := by decide +kernel
theorem d14_13 : decode jdk_78_method_2_code 13 = .ok (.putfield 17, 3) := by decide +kernel
theorem d14_16 : decode jdk_78_method_2_code 16 = .ok (.aload_n 0, 1) := by decide +kernel
theorem d14_17 : decode jdk_78_method_2_code 17 = .ok (.getstatic 20, 3) := by decide +kernel
theorem d14_20 : decode jdk_78_method_2_code 20 = .ok (.putfield 24, 3) := by decide +kernel
theorem d14_23 : decode jdk_78_method_2_code 23 = .ok (.aload_n 0, 1) := by decide +kernel
theorem d14_24 : decode jdk_78_method_2_code 24 = .ok (.invokevirtual 27, 3) := by decide +kernel
theorem d14_27 : decode jdk_78_method_2_code 27 = .ok (.pop, 1) := by decide +kernel
theorem d14_28 : decode jdk_78_method_2_code 28 = .ok (.aload_n 0, 1) := by decide +kernel
theorem d14_29 : decode jdk_78_method_2_code 29 = .ok (.aload_n 1, 1) := by decide +kernel
theorem d14_30 : decode jdk_78_method_2_code 30 = .ok (.putfield 31, 3) := by decide +kernel
theorem d14_33 : decode jdk_78_method_2_code 33 = .ok (.return_, 1) := by decide +kernel
theorem pn_14 : plainName "java/lang/Throwable" = true := by first | (simp [plainName, overriddenIn]; done) | decide +kernel
theorem ef_14 (m : MethodId) (x0 : Addr) (x1 : Addr) : entryFrame m #[(.ref x0), (.ref x1)] 2 = mkF m 0 #[.val (.ref x0), .val (.ref x1)] [] := by first | (simp [entryFrame, mkF, argsToLocals, Value.category]; done) | rfl
def Q_rtc0 (Z : State) (a1 : Addr) (ms : Addr) (us ss : Value) (h0 : Heap) (n0 : Nat) : Option Value → Heap → List Loc → Prop := fun v h L => v = none ∧ Fr n0 L ∧ Keep h0 h [a1] ∧ Exa Z h a1 "java/lang/ArithmeticException"
set_option maxRecDepth 65536 in
set_option maxHeartbeats 40000000 in
theorem rtc0 (l : Launch) (Z : State) (a0 : Array Value) (hw : ∀ d ∈ tables_1, d.before a0 Z = true) (ws : List Jvm.Cond) (a1 : Addr) (ms : Addr) (us ss : Value) (h0 : Heap) (n0 : Nat) (Z0 : n0 ≤ h0.size) (SU : Sta Z Z.heap "java/lang/Throwable" "UNASSIGNED_STACK" "[Ljava/lang/StackTraceElement;" us) (hus : us.isRef = true) (SQ : Sta Z Z.heap "java/lang/Throwable" "SUPPRESSED_SENTINEL" "Ljava/util/List;" ss) (hss : ss.isRef = true) (hl : l.stackTraces = true) (O0 : Old Z n0 h0) (F0 : Fld Z h0 a1 "java/lang/Throwable" "cause" "Ljava/lang/Throwable;" .null) (F1 : Fld Z h0 a1 "java/lang/Throwable" "stackTrace" "[Ljava/lang/StackTraceElement;" .null) (F2 : Fld Z h0 a1 "java/lang/Throwable" "suppressedExceptions" "Ljava/util/List;" .null) (F3 : Fld Z h0 a1 "java/lang/Throwable" "backtrace" "Ljava/lang/Object;" .null) (F4 : Fld Z h0 a1 "java/lang/Throwable" "detailMessage" "Ljava/lang/String;" .null) (E1 : Exa Z h0 a1 "java/lang/ArithmeticException") (U1 : Unt h0 a1) (g1 : n0 ≤ a1) :
    MetFree l (⟨"java/lang/Throwable", "<init>", "(Ljava/lang/String;)V"⟩ : MethodName) (head1 (Jvm.Cond.code (⟨"java/lang/Throwable", "<init>", "(Ljava/lang/String;)V"⟩ : MethodName) jdk_78_method_2_code 2 none :: ws) ({ frames := 3, cells := 1, slots := 2752, locals := 44 } : Room)) (fun a U => a = #[(.ref a1), (.ref ms)] ∧ Z.Warmed39 U.vm ∧ U.heap = h0) (fun _ _ bl s _ => s.vm.MethodsKnown ∧ s.vm.FramesKnown bl) (fun _ U oo U' => ∃ vv LL, oo = .returned vv ∧ (Q_rtc0 Z a1 ms us ss h0 n0) vv U'.heap LL ∧ FrameEnd U oo U' LL ({ frames := 3, cells := 1, slots := 2752, locals := 44 } : Room).cells ({ frames := 3, cells := 1, slots := 2752, locals := 44 } : Room).slots) := by
  refine MetFree.of_bodySF (plainFor_of_name pn_14) hisR ?_
  intro p e s m args below meth c s₁ Bd hml0 hP hK
  obtain ⟨rfl, hZ, hh⟩ := hP
  have hx := Bd.exec
  have hby := Bd.bytes
  have hml : c.maxLocals = 2 := hml0
  have hown : s.vm.findClass "java/lang/Throwable" = some m.cls := findClass_of_methodNamed Bd.named
  have hnm := (name_of_methodNamed Bd.named Bd.method).1
  have X0 : Stand p l e ({ frames := 3, cells := 1, slots := 2752, locals := 44 } : Room) s m #[(.ref a1), (.ref ms)] below meth c s₁ [] 0 0 := Stand.of_body Bd
  have e0 : s₁.heap = h0 := by rw [← hh, Bd.state]; rfl
  have N0 := Fr.nil n0
  show Goes p e below (Fin s (Q_rtc0 Z a1 ms us ss h0 n0) ({ frames := 3, cells := 1, slots := 2752, locals := 44 } : Room).cells ({ frames := 3, cells := 1, slots := 2752, locals := 44 } : Room).slots) _
  refine Goes.via (S' := s₁.setTop (mkF m 0 #[.val (.ref a1), .val (.ref ms)] [])) (fun tz kz => castTop (ef_14 m a1 ms ) kz) ?_
  refine Goes.via (S' := s₁.setTop (mkF m 1 #[.val (.ref a1), .val (.ref ms)] [(.ref a1)])) (fun tz kz => ?_) ?_
  · show Steps p.tables e below (s₁.setTop (mkF m 0 #[.val (.ref a1), .val (.ref ms)] [])) _
    refine XS.aloadN X0.here hx rfl (hb hby d14_0) rfl rfl ?_
    exact kz
  obtain ⟨T1, X1, e1, st1⟩ := initO X0 hx hZ hown (w_ hw 86 rfl) (w_ hw 14 rfl) (w_ hw 15 rfl) e0 (g := (mkF m 1 #[.val (.ref a1), .val (.ref ms)] [(.ref a1)])) rfl (by rw [hml]; rfl) rfl (hb hby d14_1) (by decide) (W := 0) (by show 2 * 0 + _ ≤ _; exact Nat.le_of_eq rfl) (by decide)
  refine Goes.via (S' := T1.setTop (mkF m 4 #[.val (.ref a1), .val (.ref ms)] [])) st1 ?_
  refine Goes.via (S' := T1.setTop (mkF m 6 #[.val (.ref a1), .val (.ref ms)] [(.ref a1), (.ref a1)])) (fun tz kz => ?_) ?_
  · show Steps p.tables e below (T1.setTop (mkF m 4 #[.val (.ref a1), .val (.ref ms)] [])) _
    refine XS.aloadN X1.here hx rfl (hb hby d14_4) rfl rfl ?_
    refine XS.aloadN X1.here hx rfl (hb hby d14_5) rfl rfl ?_
    exact kz
  obtain ⟨T2, h2, X2, e2, W2, st2⟩ := putF X1 hx hZ hown (host := "") (Or.inl (w_ hw 87 rfl)) Via.refl e1 F0 E1 (Or.inl (w_ hw 88 rfl)) (w_ hw 54 rfl) (ty := (.object "java/lang/Throwable")) (by decide) rfl rfl (g := (mkF m 6 #[.val (.ref a1), .val (.ref ms)] [(.ref a1), (.ref a1)])) rfl rfl (hb hby d14_6)
  refine Goes.via (S' := T2.setTop (mkF m 9 #[.val (.ref a1), .val (.ref ms)] [])) st2 ?_
  have N2 := Fr.snoc X2 N0 g1
  have Fcause_2 := F0.same W2
  have FstackTrace_2 := F1.other W2 (Or.inr (slot_ne (Or.inl (w_ hw 91 rfl)) (Or.inl (w_ hw 88 rfl)) (by decide) (t := (.array (.object "java/lang/StackTraceElement"))) (t' := (.object "java/lang/Throwable")) (by decide) (by decide)))
  have FsuppressedExceptions_2 := F2.other W2 (Or.inr (slot_ne (Or.inl (w_ hw 94 rfl)) (Or.inl (w_ hw 88 rfl)) (by decide) (t := (.object "java/util/List")) (t' := (.object "java/lang/Throwable")) (by decide) (by decide)))
  have Fbacktrace_2 := F3.other W2 (Or.inr (slot_ne (Or.inl (w_ hw 119 rfl)) (Or.inl (w_ hw 88 rfl)) (by decide) (t := (.object "java/lang/Object")) (t' := (.object "java/lang/Throwable")) (by decide) (by decide)))
  have FdetailMessage_2 := F4.other W2 (Or.inr (slot_ne (Or.inl (w_ hw 118 rfl)) (Or.inl (w_ hw 88 rfl)) (by decide) (t := (.object "java/lang/String")) (t' := (.object "java/lang/Throwable")) (by decide) (by decide)))
  have E_2 := E1.wr W2
  have O_2 := O0.wr W2 g1
  have B_2 := own_ba.of X2 (own_ba.nil a1)
  have U_2 := U1.wr W2
  refine Goes.via (S' := T2.setTop (mkF m 10 #[.val (.ref a1), .val (.ref ms)] [(.ref a1)])) (fun tz kz => ?_) ?_
  · show Steps p.tables e below (T2.setTop (mkF m 9 #[.val (.ref a1), .val (.ref ms)] [])) _
    refine XS.aloadN X2.here hx rfl (hb hby d14_9) rfl rfl ?_
    exact kz
  obtain ⟨T3, X3, e3, st3⟩ := getS2 X2 hx hZ hown (host := "") (Or.inl (w_ hw 89 rfl)) Via.refl e2 (SU.ext O_2.2) (g := (mkF m 10 #[.val (.ref a1), .val (.ref ms)] [(.ref a1)])) rfl (hb hby d14_10)
  refine Goes.via (S' := T3.setTop (mkF m 13 #[.val (.ref a1), .val (.ref ms)] [us, (.ref a1)])) st3 ?_
  obtain ⟨T4, h4, X4, e4, W4, st4⟩ := putF X3 hx hZ hown (host := "") (Or.inl (w_ hw 90 rfl)) Via.refl e3 FstackTrace_2 E_2 (Or.inl (w_ hw 91 rfl)) (w_ hw 54 rfl) (ty := (.array (.object "java/lang/StackTraceElement"))) (by decide) (Jvm.RoadKit.narrow_ref hus) (fits_refA hus) (g := (mkF m 13 #[.val (.ref a1), .val (.ref ms)] [us, (.ref a1)])) rfl rfl (hb hby d14_13)
  refine Goes.via (S' := T4.setTop (mkF m 16 #[.val (.ref a1), .val (.ref ms)] [])) st4 ?_
  have N4 := Fr.snoc X4 N2 g1
  have Fcause_4 := Fcause_2.other W4 (Or.inr (slot_ne (Or.inl (w_ hw 88 rfl)) (Or.inl (w_ hw 91 rfl)) (by decide) (t := (.object "java/lang/Throwable")) (t' := (.array (.object "java/lang/StackTraceElement"))) (by decide) (by decide)))
  have FstackTrace_4 := FstackTrace_2.same W4
  have FsuppressedExceptions_4 := FsuppressedExceptions_2.other W4 (Or.inr (slot_ne (Or.inl (w_ hw 94 rfl)) (Or.inl (w_ hw 91 rfl)) (by decide) (t := (.object "java/util/List")) (t' := (.array (.object "java/lang/StackTraceElement"))) (by decide) (by decide)))
  have Fbacktrace_4 := Fbacktrace_2.other W4 (Or.inr (slot_ne (Or.inl (w_ hw 119 rfl)) (Or.inl (w_ hw 91 rfl)) (by decide) (t := (.object "java/lang/Object")) (t' := (.array (.object "java/lang/StackTraceElement"))) (by decide) (by decide)))
  have FdetailMessage_4 := FdetailMessage_2.other W4 (Or.inr (slot_ne (Or.inl (w_ hw 118 rfl)) (Or.inl (w_ hw 91 rfl)) (by decide) (t := (.object "java/lang/String")) (t' := (.array (.object "java/lang/StackTraceElement"))) (by decide) (by decide)))
  have E_4 := E_2.wr W4
  have O_4 := O_2.wr W4 g1
  have B_4 := own_ba.of X4 B_2
  have U_4 := U_2.wr W4
  refine Goes.via (S' := T4.setTop (mkF m 17 #[.val (.ref a1), .val (.ref ms)] [(.ref a1)])) (fun tz kz => ?_) ?_
  · show Steps p.tables e below (T4.setTop (mkF m 16 #[.val (.ref a1), .val (.ref ms)] [])) _
    refine XS.aloadN X4.here hx rfl (hb hby d14_16) rfl rfl ?_
    exact kz
  obtain ⟨T5, X5, e5, st5⟩ := getS2 X4 hx hZ hown (host := "") (Or.inl (w_ hw 92 rfl)) Via.refl e4 (SQ.ext O_4.2) (g := (mkF m 17 #[.val (.ref a1), .val (.ref ms)] [(.ref a1)])) rfl (hb hby d14_17)
  refine Goes.via (S' := T5.setTop (mkF m 20 #[.val (.ref a1), .val (.ref ms)] [ss, (.ref a1)])) st5 ?_
  obtain ⟨T6, h6, X6, e6, W6, st6⟩ := putF X5 hx hZ hown (host := "") (Or.inl (w_ hw 93 rfl)) Via.refl e5 FsuppressedExceptions_4 E_4 (Or.inl (w_ hw 94 rfl)) (w_ hw 54 rfl) (ty := (.object "java/util/List")) (by decide) (Jvm.RoadKit.narrow_ref hss) (fits_refO hss) (g := (mkF m 20 #[.val (.ref a1), .val (.ref ms)] [ss, (.ref a1)])) rfl rfl (hb hby d14_20)
  refine Goes.via (S' := T6.setTop (mkF m 23 #[.val (.ref a1), .val (.ref ms)] [])) st6 ?_
  have N6 := Fr.snoc X6 N4 g1
  have Fcause_6 := Fcause_4.other W6 (Or.inr (slot_ne (Or.inl (w_ hw 88 rfl)) (Or.inl (w_ hw 94 rfl)) (by decide) (t := (.object "java/lang/Throwable")) (t' := (.object "java/util/List")) (by decide) (by decide)))
  have FstackTrace_6 := FstackTrace_4.other W6 (Or.inr (slot_ne (Or.inl (w_ hw 91 rfl)) (Or.inl (w_ hw 94 rfl)) (by decide) (t := (.array (.object "java/lang/StackTraceElement"))) (t' := (.object "java/util/List")) (by decide) (by decide)))
  have FsuppressedExceptions_6 := FsuppressedExceptions_4.same W6
  have Fbacktrace_6 := Fbacktrace_4.other W6 (Or.inr (slot_ne (Or.inl (w_ hw 119 rfl)) (Or.inl (w_ hw 94 rfl)) (by decide) (t := (.object "java/lang/Object")) (t' := (.object "java/util/List")) (by decide) (by decide)))
  have FdetailMessage_6 := FdetailMessage_4.other W6 (Or.inr (slot_ne (Or.inl (w_ hw 118 rfl)) (Or.inl (w_ hw 94 rfl)) (by decide) (t := (.object "java/lang/String")) (t' := (.object "java/util/List")) (by decide) (by decide)))
  have E_6 := E_4.wr W6
  have O_6 := O_4.wr W6 g1
  have B_6 := own_ba.of X6 B_4
  have U_6 := U_4.wr W6
  refine Goes.via (S' := T6.setTop (mkF m 24 #[.val (.ref a1), .val (.ref ms)] [(.ref a1)])) (fun tz kz => ?_) ?_
  · show Steps p.tables e below (T6.setTop (mkF m 23 #[.val (.ref a1), .val (.ref ms)] [])) _
    refine XS.aloadN X6.here hx rfl (hb hby d14_23) rfl rfl ?_
    exact kz
  obtain ⟨T7, L7, X7, hL7, E7, Fm7, st7⟩ := own_fill X6 hx hl hZ (by decide) hown (own_twx hw (by rw [hh]; exact ThS.start.ext O0.2) hZ) hK.1 hK.2 e6 (w_ hw 54 rfl) E_6 U_6 Fbacktrace_6 hus FstackTrace_6 FdetailMessage_6 (SU.ext O_6.2) (g := (mkF m 24 #[.val (.ref a1), .val (.ref ms)] [(.ref a1)])) rfl (by rw [hml]; rfl) rfl rfl (hb hby d14_24) (by decide) (by decide) (by decide) (by decide)
  have B_7 := own_ba.app B_6 hL7
  have N7 := own_ba.fr B_7 g1
  refine Goes.via (S' := T7.setTop (mkF m 27 #[.val (.ref a1), .val (.ref ms)] [(.ref a1)])) st7 ?_
  refine Goes.via (S' := T7.setTop (mkF m 30 #[.val (.ref a1), .val (.ref ms)] [(.ref ms), (.ref a1)])) (fun tz kz => ?_) ?_
  · show Steps p.tables e below (T7.setTop (mkF m 27 #[.val (.ref a1), .val (.ref ms)] [(.ref a1)])) _
    refine XS.pop X7.here hx rfl (hb hby d14_27) rfl rfl ?_
    refine XS.aloadN X7.here hx rfl (hb hby d14_28) rfl rfl ?_
    refine XS.aloadN X7.here hx rfl (hb hby d14_29) rfl rfl ?_
    exact kz
  obtain ⟨T8, h8, X8, e8, W8, st8⟩ := putF X7 hx hZ hown (host := "") (Or.inl (w_ hw 121 rfl)) Via.refl rfl Fm7 E7 (Or.inl (w_ hw 118 rfl)) (w_ hw 54 rfl) (ty := (.object "java/lang/String")) (by decide) rfl rfl (g := (mkF m 30 #[.val (.ref a1), .val (.ref ms)] [(.ref ms), (.ref a1)])) rfl rfl (hb hby d14_30)
  refine Goes.via (S' := T8.setTop (mkF m 33 #[.val (.ref a1), .val (.ref ms)] [])) st8 ?_
  have N8 := Fr.snoc X8 N7 g1
  have E_8 := E7.wr W8
  have B_8 := own_ba.of X8 B_7
  exact Goes.retV X8 hx Bd.notSynchronized Bd.returns (hb hby d14_33) (Nat.le_of_ble_eq_true rfl) (Nat.le_of_ble_eq_true rfl) (by have Kx := own_keep_same X8.same B_8; rw [hh] at Kx; refine ⟨rfl, N8, Kx, ?_⟩; rw [e8]; exact E_8)
theorem d13_0 : decode jdk_59_method_2_code 0 = .ok (.aload_n 0, 1) := by decide +kernel
theorem d13_1 : decode jdk_59_method_2_code 1 = .ok (.aload_n 1, 1) := by decide +kernel
theorem d13_2 : decode jdk_59_method_2_code 2 = .ok (.invokespecial 7, 3) := by decide +kernel
theorem d13_5 : decode jdk_59_method_2_code 5 = .ok (.return_, 1) := by decide +kernel
theorem pn_13 : plainName "java/lang/Exception" = true := by first | (simp [plainName, overriddenIn]; done) | decide +kernel
theorem ef_13 (m : MethodId) (x0 : Addr) (x1 : Addr) : entryFrame m #[(.ref x0), (.ref x1)] 2 = mkF m 0 #[.val (.ref x0), .val (.ref x1)] [] := by first | (simp [entryFrame, mkF, argsToLocals, Value.category]; done) | rfl
def Q_rtc1 (Z : State) (a1 : Addr) (ms : Addr) (us ss : Value) (h0 : Heap) (n0 : Nat) : Option Value → Heap → List Loc → Prop := fun v h L => v = none ∧ Fr n0 L ∧ Keep h0 h [a1] ∧ Exa Z h a1 "java/lang/ArithmeticException"
set_option maxRecDepth 65536 in
set_option maxHeartbeats 40000000 in
theorem rtc1 (l : Launch) (Z : State) (a0 : Array Value) (hw : ∀ d ∈ tables_1, d.before a0 Z = true) (ws : List Jvm.Cond) (a1 : Addr) (ms : Addr) (us ss : Value) (h0 : Heap) (n0 : Nat) (Z0 : n0 ≤ h0.size) (SU : Sta Z Z.heap "java/lang/Throwable" "UNASSIGNED_STACK" "[Ljava/lang/StackTraceElement;" us) (hus : us.isRef = true) (SQ : Sta Z Z.heap "java/lang/Throwable" "SUPPRESSED_SENTINEL" "Ljava/util/List;" ss) (hss : ss.isRef = true) (hl : l.stackTraces = true) (O0 : Old Z n0 h0) (F0 : Fld Z h0 a1 "java/lang/Throwable" "cause" "Ljava/lang/Throwable;" .null) (F1 : Fld Z h0 a1 "java/lang/Throwable" "stackTrace" "[Ljava/lang/StackTraceElement;" .null) (F2 : Fld Z h0 a1 "java/lang/Throwable" "suppressedExceptions" "Ljava/util/List;" .null) (F3 : Fld Z h0 a1 "java/lang/Throwable" "backtrace" "Ljava/lang/Object;" .null) (F4 : Fld Z h0 a1 "java/lang/Throwable" "detailMessage" "Ljava/lang/String;" .null) (E1 : Exa Z h0 a1 "java/lang/ArithmeticException") (U1 : Unt h0 a1) (g1 : n0 ≤ a1) :
    MetFree l (⟨"java/lang/Exception", "<init>", "(Ljava/lang/String;)V"⟩ : MethodName) (head1 (Jvm.Cond.code (⟨"java/lang/Exception", "<init>", "(Ljava/lang/String;)V"⟩ : MethodName) jdk_59_method_2_code 2 none :: ws) ({ frames := 4, cells := 1, slots := 2752, locals := 60 } : Room)) (fun a U => a = #[(.ref a1), (.ref ms)] ∧ Z.Warmed39 U.vm ∧ U.heap = h0) (fun _ _ bl s _ => s.vm.MethodsKnown ∧ s.vm.FramesKnown bl) (fun _ U oo U' => ∃ vv LL, oo = .returned vv ∧ (Q_rtc1 Z a1 ms us ss h0 n0) vv U'.heap LL ∧ FrameEnd U oo U' LL ({ frames := 4, cells := 1, slots := 2752, locals := 60 } : Room).cells ({ frames := 4, cells := 1, slots := 2752, locals := 60 } : Room).slots) := by
  refine MetFree.of_bodySF (plainFor_of_name pn_13) hisR ?_
  intro p e s m args below meth c s₁ Bd hml0 hP hK
  obtain ⟨rfl, hZ, hh⟩ := hP
  have hx := Bd.exec
  have hby := Bd.bytes
  have hml : c.maxLocals = 2 := hml0
  have hown : s.vm.findClass "java/lang/Exception" = some m.cls := findClass_of_methodNamed Bd.named
  have hnm := (name_of_methodNamed Bd.named Bd.method).1
  have X0 : Stand p l e ({ frames := 4, cells := 1, slots := 2752, locals := 60 } : Room) s m #[(.ref a1), (.ref ms)] below meth c s₁ [] 0 0 := Stand.of_body Bd
  have e0 : s₁.heap = h0 := by rw [← hh, Bd.state]; rfl
  have N0 := Fr.nil n0
  show Goes p e below (Fin s (Q_rtc1 Z a1 ms us ss h0 n0) ({ frames := 4, cells := 1, slots := 2752, locals := 60 } : Room).cells ({ frames := 4, cells := 1, slots := 2752, locals := 60 } : Room).slots) _
  refine Goes.via (S' := s₁.setTop (mkF m 0 #[.val (.ref a1), .val (.ref ms)] [])) (fun tz kz => castTop (ef_13 m a1 ms ) kz) ?_
  refine Goes.via (S' := s₁.setTop (mkF m 2 #[.val (.ref a1), .val (.ref ms)] [(.ref ms), (.ref a1)])) (fun tz kz => ?_) ?_
  · show Steps p.tables e below (s₁.setTop (mkF m 0 #[.val (.ref a1), .val (.ref ms)] [])) _
    refine XS.aloadN X0.here hx rfl (hb hby d13_0) rfl rfl ?_
    refine XS.aloadN X0.here hx rfl (hb hby d13_1) rfl rfl ?_
    exact kz
  obtain ⟨_, _, ⟨T1, L1, k1, n1⟩, -, X1, ⟨Lc1, hQ1, l1, y1, z1⟩, st1⟩ := X0.specialBack hx (y := (⟨"java/lang/Throwable", "<init>", "(Ljava/lang/String;)V"⟩ : MethodName)) rfl hown (mvT hZ (w_ hw 80 rfl)) (mvT hZ (w_ hw 81 rfl)) (mvT hZ (w_ hw 85 rfl)) (by decide) (backOfKL (W := 0) (rtc0 l Z a0 hw [] a1 ms us ss h0 n0 Z0 SU hus SQ hss hl O0 F0 F1 F2 F3 F4 E1 U1 g1) hZ (w_ hw 85 rfl) (w_ hw 84 rfl) (by decide) (by decide) hK.1 hK.2) (g := (mkF m 2 #[.val (.ref a1), .val (.ref ms)] [(.ref ms), (.ref a1)])) rfl (by rw [hml]; rfl) (Steps.refl _) (a := a1) (argsL := [(.ref ms)]) (rest := []) (lenOf pd_0 rfl) rfl (by show 2 * 0 + _ ≤ _; exact Nat.le_of_eq rfl) (hb hby d13_2) (fun _ _ => ⟨rfl, e0, (by decide : 0 + 1 ≤ _), (by decide : 0 + 2752 ≤ _)⟩)
  dsimp only [Pt.U, Pt.locs, Pt.cells, Pt.slots] at X1 l1 y1 z1 st1 hQ1
  subst l1 y1 z1
  obtain ⟨rfl, N1, K1, E1_⟩ := hQ1
  have Nf1 := Fr.app N0 N1
  refine Goes.via (S' := T1.setTop (mkF m 5 #[.val (.ref a1), .val (.ref ms)] [])) (fun _ kz => st1.trans kz) ?_
  exact Goes.retV X1 hx Bd.notSynchronized Bd.returns (hb hby d13_5) (Nat.le_of_ble_eq_true rfl) (Nat.le_of_ble_eq_true rfl) ⟨rfl, Nf1, K1, E1_⟩
theorem d12_0 : decode jdk_58_method_2_code 0 = .ok (.aload_n 0, 1) := by decide +kernel
theorem d12_1 : decode jdk_58_method_2_code 1 = .ok (.aload_n 1, 1) := by decide +kernel
theorem d12_2 : decode jdk_58_method_2_code 2 = .ok (.invokespecial 7, 3) := by decide +kernel
theorem d12_5 : decode jdk_58_method_2_code 5 = .ok (.return_, 1) := by decide +kernel
theorem pn_12 : plainName "java/lang/RuntimeException" = true := by first | (simp [plainName, overriddenIn]; done) | decide +kernel
theorem ef_12 (m : MethodId) (x0 : Addr) (x1 : Addr) : entryFrame m #[(.ref x0), (.ref x1)] 2 = mkF m 0 #[.val (.ref x0), .val (.ref x1)] [] := by first | (simp [entryFrame, mkF, argsToLocals, Value.category]; done) | rfl
def Q_rtc2 (Z : State) (a1 : Addr) (ms : Addr) (us ss : Value) (h0 : Heap) (n0 : Nat) : Option Value → Heap → List Loc → Prop := fun v h L => v = none ∧ Fr n0 L ∧ Keep h0 h [a1] ∧ Exa Z h a1 "java/lang/ArithmeticException"
set_option maxRecDepth 65536 in
set_option maxHeartbeats 40000000 in
theorem rtc2 (l : Launch) (Z : State) (a0 : Array Value) (hw : ∀ d ∈ tables_1, d.before a0 Z = true) (ws : List Jvm.Cond) (a1 : Addr) (ms : Addr) (us ss : Value) (h0 : Heap) (n0 : Nat) (Z0 : n0 ≤ h0.size) (SU : Sta Z Z.heap "java/lang/Throwable" "UNASSIGNED_STACK" "[Ljava/lang/StackTraceElement;" us) (hus : us.isRef = true) (SQ : Sta Z Z.heap "java/lang/Throwable" "SUPPRESSED_SENTINEL" "Ljava/util/List;" ss) (hss : ss.isRef = true) (hl : l.stackTraces = true) (O0 : Old Z n0 h0) (F0 : Fld Z h0 a1 "java/lang/Throwable" "cause" "Ljava/lang/Throwable;" .null) (F1 : Fld Z h0 a1 "java/lang/Throwable" "stackTrace" "[Ljava/lang/StackTraceElement;" .null) (F2 : Fld Z h0 a1 "java/lang/Throwable" "suppressedExceptions" "Ljava/util/List;" .null) (F3 : Fld Z h0 a1 "java/lang/Throwable" "backtrace" "Ljava/lang/Object;" .null) (F4 : Fld Z h0 a1 "java/lang/Throwable" "detailMessage" "Ljava/lang/String;" .null) (E1 : Exa Z h0 a1 "java/lang/ArithmeticException") (U1 : Unt h0 a1) (g1 : n0 ≤ a1) :
    MetFree l (⟨"java/lang/RuntimeException", "<init>", "(Ljava/lang/String;)V"⟩ : MethodName) (head1 (Jvm.Cond.code (⟨"java/lang/RuntimeException", "<init>", "(Ljava/lang/String;)V"⟩ : MethodName) jdk_58_method_2_code 2 none :: ws) ({ frames := 5, cells := 1, slots := 2752, locals := 76 } : Room)) (fun a U => a = #[(.ref a1), (.ref ms)] ∧ Z.Warmed39 U.vm ∧ U.heap = h0) (fun _ _ bl s _ => s.vm.MethodsKnown ∧ s.vm.FramesKnown bl) (fun _ U oo U' => ∃ vv LL, oo = .returned vv ∧ (Q_rtc2 Z a1 ms us ss h0 n0) vv U'.heap LL ∧ FrameEnd U oo U' LL ({ frames := 5, cells := 1, slots := 2752, locals := 76 } : Room).cells ({ frames := 5, cells := 1, slots := 2752, locals := 76 } : Room).slots) := by
  refine MetFree.of_bodySF (plainFor_of_name pn_12) hisR ?_
  intro p e s m args below meth c s₁ Bd hml0 hP hK
  obtain ⟨rfl, hZ, hh⟩ := hP
  have hx := Bd.exec
  have hby := Bd.bytes
  have hml : c.maxLocals = 2 := hml0
  have hown : s.vm.findClass "java/lang/RuntimeException" = some m.cls := findClass_of_methodNamed Bd.named
  have hnm := (name_of_methodNamed Bd.named Bd.method).1
  have X0 : Stand p l e ({ frames := 5, cells := 1, slots := 2752, locals := 76 } : Room) s m #[(.ref a1), (.ref ms)] below meth c s₁ [] 0 0 := Stand.of_body Bd
  have e0 : s₁.heap = h0 := by rw [← hh, Bd.state]; rfl
  have N0 := Fr.nil n0
  show Goes p e below (Fin s (Q_rtc2 Z a1 ms us ss h0 n0) ({ frames := 5, cells := 1, slots := 2752, locals := 76 } : Room).cells ({ frames := 5, cells := 1, slots := 2752, locals := 76 } : Room).slots) _
  refine Goes.via (S' := s₁.setTop (mkF m 0 #[.val (.ref a1), .val (.ref ms)] [])) (fun tz kz => castTop (ef_12 m a1 ms ) kz) ?_
  refine Goes.via (S' := s₁.setTop (mkF m 2 #[.val (.ref a1), .val (.ref ms)] [(.ref ms), (.ref a1)])) (fun tz kz => ?_) ?_
  · show Steps p.tables e below (s₁.setTop (mkF m 0 #[.val (.ref a1), .val (.ref ms)] [])) _
    refine XS.aloadN X0.here hx rfl (hb hby d12_0) rfl rfl ?_
    refine XS.aloadN X0.here hx rfl (hb hby d12_1) rfl rfl ?_
    exact kz
  obtain ⟨_, _, ⟨T1, L1, k1, n1⟩, -, X1, ⟨Lc1, hQ1, l1, y1, z1⟩, st1⟩ := X0.specialBack hx (y := (⟨"java/lang/Exception", "<init>", "(Ljava/lang/String;)V"⟩ : MethodName)) rfl hown (mvT hZ (w_ hw 74 rfl)) (mvT hZ (w_ hw 75 rfl)) (mvT hZ (w_ hw 79 rfl)) (by decide) (backOfKL (W := 0) (rtc1 l Z a0 hw [] a1 ms us ss h0 n0 Z0 SU hus SQ hss hl O0 F0 F1 F2 F3 F4 E1 U1 g1) hZ (w_ hw 79 rfl) (w_ hw 78 rfl) (by decide) (by decide) hK.1 hK.2) (g := (mkF m 2 #[.val (.ref a1), .val (.ref ms)] [(.ref ms), (.ref a1)])) rfl (by rw [hml]; rfl) (Steps.refl _) (a := a1) (argsL := [(.ref ms)]) (rest := []) (lenOf pd_0 rfl) rfl (by show 2 * 0 + _ ≤ _; exact Nat.le_of_eq rfl) (hb hby d12_2) (fun _ _ => ⟨rfl, e0, (by decide : 0 + 1 ≤ _), (by decide : 0 + 2752 ≤ _)⟩)
  dsimp only [Pt.U, Pt.locs, Pt.cells, Pt.slots] at X1 l1 y1 z1 st1 hQ1
  subst l1 y1 z1
  obtain ⟨rfl, N1, K1, E1_⟩ := hQ1
  have Nf1 := Fr.app N0 N1
  refine Goes.via (S' := T1.setTop (mkF m 5 #[.val (.ref a1), .val (.ref ms)] [])) (fun _ kz => st1.trans kz) ?_
  exact Goes.retV X1 hx Bd.notSynchronized Bd.returns (hb hby d12_5) (Nat.le_of_ble_eq_true rfl) (Nat.le_of_ble_eq_true rfl) ⟨rfl, Nf1, K1, E1_⟩
theorem d11_0 : decode jdk_84_method_2_code 0 = .ok (.aload_n 0, 1) := by decide +kernel
theorem d11_1 : decode jdk_84_method_2_code 1 = .ok (.aload_n 1, 1) := by decide +kernel
theorem d11_2 : decode jdk_84_method_2_code 2 = .ok (.invokespecial 7, 3) := by decide +kernel
theorem d11_5 : decode jdk_84_method_2_code 5 = .ok (.return_, 1) := by decide +kernel
theorem pn_11 : plainName "java/lang/ArithmeticException" = true := by first | (simp [plainName, overriddenIn]; done) | decide +kernel
theorem ef_11 (m : MethodId) (x0 : Addr) (x1 : Addr) : entryFrame m #[(.ref x0), (.ref x1)] 2 = mkF m 0 #[.val (.ref x0), .val (.ref x1)] [] := by first | (simp [entryFrame, mkF, argsToLocals, Value.category]; done) | rfl
def Q_rtc3 (Z : State) (a1 : Addr) (ms : Addr) (us ss : Value) (h0 : Heap) (n0 : Nat) : Option Value → Heap → List Loc → Prop := fun v h L => v = none ∧ Fr n0 L ∧ Keep h0 h [a1] ∧ Exa Z h a1 "java/lang/ArithmeticException"
set_option maxRecDepth 65536 in
set_option maxHeartbeats 40000000 in
theorem rtc3 (l : Launch) (Z : State) (a0 : Array Value) (hw : ∀ d ∈ tables_1, d.before a0 Z = true) (ws : List Jvm.Cond) (a1 : Addr) (ms : Addr) (us ss : Value) (h0 : Heap) (n0 : Nat) (Z0 : n0 ≤ h0.size) (SU : Sta Z Z.heap "java/lang/Throwable" "UNASSIGNED_STACK" "[Ljava/lang/StackTraceElement;" us) (hus : us.isRef = true) (SQ : Sta Z Z.heap "java/lang/Throwable" "SUPPRESSED_SENTINEL" "Ljava/util/List;" ss) (hss : ss.isRef = true) (hl : l.stackTraces = true) (O0 : Old Z n0 h0) (F0 : Fld Z h0 a1 "java/lang/Throwable" "cause" "Ljava/lang/Throwable;" .null) (F1 : Fld Z h0 a1 "java/lang/Throwable" "stackTrace" "[Ljava/lang/StackTraceElement;" .null) (F2 : Fld Z h0 a1 "java/lang/Throwable" "suppressedExceptions" "Ljava/util/List;" .null) (F3 : Fld Z h0 a1 "java/lang/Throwable" "backtrace" "Ljava/lang/Object;" .null) (F4 : Fld Z h0 a1 "java/lang/Throwable" "detailMessage" "Ljava/lang/String;" .null) (E1 : Exa Z h0 a1 "java/lang/ArithmeticException") (U1 : Unt h0 a1) (g1 : n0 ≤ a1) :
    MetFree l (⟨"java/lang/ArithmeticException", "<init>", "(Ljava/lang/String;)V"⟩ : MethodName) (head1 (Jvm.Cond.code (⟨"java/lang/ArithmeticException", "<init>", "(Ljava/lang/String;)V"⟩ : MethodName) jdk_84_method_2_code 2 none :: ws) ({ frames := 6, cells := 1, slots := 2752, locals := 92 } : Room)) (fun a U => a = #[(.ref a1), (.ref ms)] ∧ Z.Warmed39 U.vm ∧ U.heap = h0) (fun _ _ bl s _ => s.vm.MethodsKnown ∧ s.vm.FramesKnown bl) (fun _ U oo U' => ∃ vv LL, oo = .returned vv ∧ (Q_rtc3 Z a1 ms us ss h0 n0) vv U'.heap LL ∧ FrameEnd U oo U' LL ({ frames := 6, cells := 1, slots := 2752, locals := 92 } : Room).cells ({ frames := 6, cells := 1, slots := 2752, locals := 92 } : Room).slots) := by
  refine MetFree.of_bodySF (plainFor_of_name pn_11) hisR ?_
  intro p e s m args below meth c s₁ Bd hml0 hP hK
  obtain ⟨rfl, hZ, hh⟩ := hP
  have hx := Bd.exec
  have hby := Bd.bytes
  have hml : c.maxLocals = 2 := hml0
  have hown : s.vm.findClass "java/lang/ArithmeticException" = some m.cls := findClass_of_methodNamed Bd.named
  have hnm := (name_of_methodNamed Bd.named Bd.method).1
  have X0 : Stand p l e ({ frames := 6, cells := 1, slots := 2752, locals := 92 } : Room) s m #[(.ref a1), (.ref ms)] below meth c s₁ [] 0 0 := Stand.of_body Bd
  have e0 : s₁.heap = h0 := by rw [← hh, Bd.state]; rfl
  have N0 := Fr.nil n0
  show Goes p e below (Fin s (Q_rtc3 Z a1 ms us ss h0 n0) ({ frames := 6, cells := 1, slots := 2752, locals := 92 } : Room).cells ({ frames := 6, cells := 1, slots := 2752, locals := 92 } : Room).slots) _
  refine Goes.via (S' := s₁.setTop (mkF m 0 #[.val (.ref a1), .val (.ref ms)] [])) (fun tz kz => castTop (ef_11 m a1 ms ) kz) ?_
  refine Goes.via (S' := s₁.setTop (mkF m 2 #[.val (.ref a1), .val (.ref ms)] [(.ref ms), (.ref a1)])) (fun tz kz => ?_) ?_
  · show Steps p.tables e below (s₁.setTop (mkF m 0 #[.val (.ref a1), .val (.ref ms)] [])) _
    refine XS.aloadN X0.here hx rfl (hb hby d11_0) rfl rfl ?_
    refine XS.aloadN X0.here hx rfl (hb hby d11_1) rfl rfl ?_
    exact kz
  obtain ⟨_, _, ⟨T1, L1, k1, n1⟩, -, X1, ⟨Lc1, hQ1, l1, y1, z1⟩, st1⟩ := X0.specialBack hx (y := (⟨"java/lang/RuntimeException", "<init>", "(Ljava/lang/String;)V"⟩ : MethodName)) rfl hown (mvT hZ (w_ hw 68 rfl)) (mvT hZ (w_ hw 69 rfl)) (mvT hZ (w_ hw 73 rfl)) (by decide) (backOfKL (W := 0) (rtc2 l Z a0 hw [] a1 ms us ss h0 n0 Z0 SU hus SQ hss hl O0 F0 F1 F2 F3 F4 E1 U1 g1) hZ (w_ hw 73 rfl) (w_ hw 72 rfl) (by decide) (by decide) hK.1 hK.2) (g := (mkF m 2 #[.val (.ref a1), .val (.ref ms)] [(.ref ms), (.ref a1)])) rfl (by rw [hml]; rfl) (Steps.refl _) (a := a1) (argsL := [(.ref ms)]) (rest := []) (lenOf pd_0 rfl) rfl (by show 2 * 0 + _ ≤ _; exact Nat.le_of_eq rfl) (hb hby d11_2) (fun _ _ => ⟨rfl, e0, (by decide : 0 + 1 ≤ _), (by decide : 0 + 2752 ≤ _)⟩)
  dsimp only [Pt.U, Pt.locs, Pt.cells, Pt.slots] at X1 l1 y1 z1 st1 hQ1
  subst l1 y1 z1
  obtain ⟨rfl, N1, K1, E1_⟩ := hQ1
  have Nf1 := Fr.app N0 N1
  refine Goes.via (S' := T1.setTop (mkF m 5 #[.val (.ref a1), .val (.ref ms)] [])) (fun _ kz => st1.trans kz) ?_
  exact Goes.retV X1 hx Bd.notSynchronized Bd.returns (hb hby d11_5) (Nat.le_of_ble_eq_true rfl) (Nat.le_of_ble_eq_true rfl) ⟨rfl, Nf1, K1, E1_⟩
theorem d10_0 : decode jdk_29_method_25_code 0 = .ok (.lload_n 0, 1) := by decide +kernel
theorem d10_1 : decode jdk_29_method_25_code 1 = .ok (.lload_n 2, 1) := by decide +kernel
theorem d10_2 : decode jdk_29_method_25_code 2 = .ok (.ladd, 1) := by decide +kernel
theorem d10_3 : decode jdk_29_method_25_code 3 = .ok (.lstore 4, 2) := by decide +kernel
theorem d10_5 : decode jdk_29_method_25_code 5 = .ok (.lload_n 0, 1) := by decide +kernel
theorem d10_6 : decode jdk_29_method_25_code 6 = .ok (.lload 4, 2) := by decide +kernel
theorem d10_8 : decode jdk_29_method_25_code 8 = .ok (.lxor, 1) := by decide +kernel
theorem d10_9 : decode jdk_29_method_25_code 9 = .ok (.lload_n 2, 1) := by decide +kernel
theorem d10_10 : decode jdk_29_method_25_code 10 = .ok (.lload 4, 2) := by decide +kernel
theorem d10_12 : decode jdk_29_method_25_code 12 = .ok (.lxor, 1) := by decide +kernel
theorem d10_13 : decode jdk_29_method_25_code 13 = .ok (.land, 1) := by decide +kernel
theorem d10_14 : decode jdk_29_method_25_code 14 = .ok (.lconst 0, 1) := by decide +kernel
theorem d10_15 : decode jdk_29_method_25_code 15 = .ok (.lcmp, 1) := by decide +kernel
theorem d10_16 : decode jdk_29_method_25_code 16 = .ok (.ifCond .ge 13, 3) := by decide +kernel
theorem d10_19 : decode jdk_29_method_25_code 19 = .ok (.new 109, 3) := by decide +kernel
theorem d10_22 : decode jdk_29_method_25_code 22 = .ok (.dup, 1) := by decide +kernel
theorem d10_23 : decode jdk_29_method_25_code 23 = .ok (.ldc 116, 2) := by decide +kernel
theorem d10_25 : decode jdk_29_method_25_code 25 = .ok (.invokespecial 113, 3) := by decide +kernel
theorem d10_28 : decode jdk_29_method_25_code 28 = .ok (.athrow, 1) := by decide +kernel
theorem d10_29 : decode jdk_29_method_25_code 29 = .ok (.lload 4, 2) := by decide +kernel
theorem d10_31 : decode jdk_29_method_25_code 31 = .ok (.lreturn, 1) := by decide +kernel
theorem pn_10 : plainFor (⟨"java/lang/Math", "addExact", "(JJ)J"⟩ : MethodName) = true := by decide +kernel
theorem ef_10 (m : MethodId) (x0 : Int64) (x1 : Int64) : entryFrame m #[(.long x0), (.long x1)] 6 = mkF m 0 #[.val (.long x0), .second, .val (.long x1), .second, .unset, .unset] [] := by first | (simp [entryFrame, mkF, argsToLocals, Value.category]; done) | rfl
def Q_rax (Z : State) (x : Int64) (y : Int64)  (h0 : Heap) (n0 : Nat) : Option Value → Heap → List Loc → Prop := fun v h L => v = some (.long (x + y)) ∧ Fr n0 L ∧ h = h0
set_option maxRecDepth 65536 in
set_option maxHeartbeats 40000000 in
theorem rax (l : Launch) (Z : State) (a0 : Array Value) (hw : ∀ d ∈ tables_1, d.before a0 Z = true) (ws : List Jvm.Cond) (x : Int64) (y : Int64)  (h0 : Heap) (n0 : Nat) (Z0 : n0 ≤ h0.size) (q : ¬ ((x ^^^ (x + y)) &&& (y ^^^ (x + y))) < (0 : Int64)) :
    own_M l Z (⟨"java/lang/Math", "addExact", "(JJ)J"⟩ : MethodName) (Jvm.Cond.code (⟨"java/lang/Math", "addExact", "(JJ)J"⟩ : MethodName) jdk_29_method_25_code 6 (some .long)) ws ({ frames := 0, cells := 0, slots := 0, locals := 0 } : Room) #[(.long x), (.long y)] h0 (Q_rax Z x y h0 n0) := by
  refine MetFree.of_bodySF (Jvm.Free.JP.mathPlain rfl (by decide +kernel)) hisR ?_
  intro p e s m args below meth c s₁ Bd hml0 hP hK
  obtain ⟨rfl, hZ, hh⟩ := hP
  have hx := Bd.exec
  have hby := Bd.bytes
  have hml : c.maxLocals = 6 := hml0
  have hown : s.vm.findClass "java/lang/Math" = some m.cls := findClass_of_methodNamed Bd.named
  have hnm := (name_of_methodNamed Bd.named Bd.method).1
  have X0 : Stand p l e ({ frames := 0, cells := 0, slots := 0, locals := 0 } : Room) s m #[(.long x), (.long y)] below meth c s₁ [] 0 0 := Stand.of_body Bd
  have e0 : s₁.heap = h0 := by rw [← hh, Bd.state]; rfl
  have N0 := Fr.nil n0
  show Goes p e below (Fin s (Q_rax Z x y h0 n0) ({ frames := 0, cells := 0, slots := 0, locals := 0 } : Room).cells ({ frames := 0, cells := 0, slots := 0, locals := 0 } : Room).slots) _
  refine Goes.via (S' := s₁.setTop (mkF m 0 #[.val (.long x), .second, .val (.long y), .second, .unset, .unset] [])) (fun tz kz => castTop (ef_10 m x y ) kz) ?_
  refine Goes.via (S' := s₁.setTop (mkF m 31 #[.val (.long x), .second, .val (.long y), .second, .val (.long (x + y)), .second] [(.long (x + y))])) (fun tz kz => ?_) ?_
  · show Steps p.tables e below (s₁.setTop (mkF m 0 #[.val (.long x), .second, .val (.long y), .second, .unset, .unset] [])) _
    refine XS.lloadN X0.here hx rfl (hb hby d10_0) rfl ?_
    refine XS.lloadN X0.here hx rfl (hb hby d10_1) rfl ?_
    refine XS.ladd X0.here hx rfl (hb hby d10_2) rfl ?_
    refine XS.lstore X0.here hx rfl (hb hby d10_3) rfl (l' := #[.val (.long x), .second, .val (.long y), .second, .val (.long (x + y)), .second]) rfl ?_
    show Steps p.tables e below (s₁.setTop (mkF m 5 #[.val (.long x), .second, .val (.long y), .second, .val (.long (x + y)), .second] [])) _
    refine XS.lloadN X0.here hx rfl (hb hby d10_5) rfl ?_
    refine XS.lload X0.here hx rfl (hb hby d10_6) rfl ?_
    refine XS.lxor X0.here hx rfl (hb hby d10_8) rfl ?_
    refine XS.lloadN X0.here hx rfl (hb hby d10_9) rfl ?_
    show Steps p.tables e below (s₁.setTop (mkF m 10 #[.val (.long x), .second, .val (.long y), .second, .val (.long (x + y)), .second] [(.long y), (.long (x ^^^ (x + y)))])) _
    refine XS.lload X0.here hx rfl (hb hby d10_10) rfl ?_
    refine XS.lxor X0.here hx rfl (hb hby d10_12) rfl ?_
    refine XS.land X0.here hx rfl (hb hby d10_13) rfl ?_
    refine XS.lconst X0.here hx rfl (hb hby d10_14) ?_
    show Steps p.tables e below (s₁.setTop (mkF m 15 #[.val (.long x), .second, .val (.long y), .second, .val (.long (x + y)), .second] [(.long (0 : Int64)), (.long ((x ^^^ (x + y)) &&& (y ^^^ (x + y))))])) _
    refine XS.lcmp X0.here hx rfl (hb hby d10_15) rfl ?_
    refine XS.ifYes X0.here hx rfl (pc0 := 16) (pc' := 29) rfl (hb hby d10_16) rfl ((if0 _ _).trans (flt (mt (lw_lt _ _).mp q)).2.1) (by decide) (by decide) ?_
    refine XS.lload X0.here hx rfl (hb hby d10_29) rfl ?_
    exact kz
  exact Goes.retO X0 hx Bd.notSynchronized Bd.returns rfl (Or.inr (Or.inl ⟨rfl, rfl, _, rfl⟩)) (hb hby d10_31) (Nat.le_of_ble_eq_true rfl) (Nat.le_of_ble_eq_true rfl) ⟨rfl, N0, e0⟩
def Q_raxt (Z : State) (x : Int64) (y : Int64) (us ss : Value) (h0 : Heap) (n0 : Nat) : Addr → Heap → List Loc → Prop := fun xx h L => Exa Z h xx "java/lang/ArithmeticException" ∧ Fr n0 L ∧ Keep h0 h [] ∧ @LE.le Nat _ h0.size xx
set_option maxRecDepth 65536 in
set_option maxHeartbeats 40000000 in
theorem raxt (l : Launch) (Z : State) (a0 : Array Value) (hw : ∀ d ∈ tables_1, d.before a0 Z = true) (ws : List Jvm.Cond) (x : Int64) (y : Int64) (us ss : Value) (h0 : Heap) (n0 : Nat) (Z0 : n0 ≤ h0.size) (q : ((x ^^^ (x + y)) &&& (y ^^^ (x + y))) < (0 : Int64)) (SU : Sta Z Z.heap "java/lang/Throwable" "UNASSIGNED_STACK" "[Ljava/lang/StackTraceElement;" us) (hus : us.isRef = true) (SQ : Sta Z Z.heap "java/lang/Throwable" "SUPPRESSED_SENTINEL" "Ljava/util/List;" ss) (hss : ss.isRef = true) (hl : l.stackTraces = true) (O0 : Old Z n0 h0) :
    MetFree l (⟨"java/lang/Math", "addExact", "(JJ)J"⟩ : MethodName) (head1 (Jvm.Cond.code (⟨"java/lang/Math", "addExact", "(JJ)J"⟩ : MethodName) jdk_29_method_25_code 6 (some .long) :: ws) ({ frames := 7, cells := 4, slots := 2820, locals := 108 } : Room)) (fun a U => a = #[(.long x), (.long y)] ∧ Z.Warmed39 U.vm ∧ U.heap = h0) (fun _ _ bl s _ => s.vm.MethodsKnown ∧ s.vm.FramesKnown bl) (fun _ U oo U' => FinT U (Q_raxt Z x y us ss h0 n0) ({ frames := 7, cells := 4, slots := 2820, locals := 108 } : Room).cells ({ frames := 7, cells := 4, slots := 2820, locals := 108 } : Room).slots U' oo) := by
  refine MetFree.of_bodySF (Jvm.Free.JP.mathPlain rfl (by decide +kernel)) hisR ?_
  intro p e s m args below meth c s₁ Bd hml0 hP hK
  obtain ⟨rfl, hZ, hh⟩ := hP
  have hx := Bd.exec
  have hby := Bd.bytes
  have hml : c.maxLocals = 6 := hml0
  have hown : s.vm.findClass "java/lang/Math" = some m.cls := findClass_of_methodNamed Bd.named
  have hnm := (name_of_methodNamed Bd.named Bd.method).1
  have X0 : Stand p l e ({ frames := 7, cells := 4, slots := 2820, locals := 108 } : Room) s m #[(.long x), (.long y)] below meth c s₁ [] 0 0 := Stand.of_body Bd
  have e0 : s₁.heap = h0 := by rw [← hh, Bd.state]; rfl
  have N0 := Fr.nil n0
  have wS : ∀ d ∈ Bundle.stringAtoms, d.before a0 Z = true := by
    intro d hd
    simp only [Bundle.stringAtoms, List.mem_cons, List.not_mem_nil, or_false] at hd
    rcases hd with rfl | rfl | rfl | rfl | rfl | rfl | rfl
    · exact (w_ hw 57 rfl)
    · exact (w_ hw 58 rfl)
    · exact (w_ hw 59 rfl)
    · exact (w_ hw 60 rfl)
    · exact (w_ hw 61 rfl)
    · exact (w_ hw 62 rfl)
    · exact (w_ hw 63 rfl)
  show Goes p e below (FinT s (Q_raxt Z x y us ss h0 n0) ({ frames := 7, cells := 4, slots := 2820, locals := 108 } : Room).cells ({ frames := 7, cells := 4, slots := 2820, locals := 108 } : Room).slots) _
  refine Goes.via (S' := s₁.setTop (mkF m 0 #[.val (.long x), .second, .val (.long y), .second, .unset, .unset] [])) (fun tz kz => castTop (ef_10 m x y ) kz) ?_
  refine Goes.via (S' := s₁.setTop (mkF m 19 #[.val (.long x), .second, .val (.long y), .second, .val (.long (x + y)), .second] [])) (fun tz kz => ?_) ?_
  · show Steps p.tables e below (s₁.setTop (mkF m 0 #[.val (.long x), .second, .val (.long y), .second, .unset, .unset] [])) _
    refine XS.lloadN X0.here hx rfl (hb hby d10_0) rfl ?_
    refine XS.lloadN X0.here hx rfl (hb hby d10_1) rfl ?_
    refine XS.ladd X0.here hx rfl (hb hby d10_2) rfl ?_
    refine XS.lstore X0.here hx rfl (hb hby d10_3) rfl (l' := #[.val (.long x), .second, .val (.long y), .second, .val (.long (x + y)), .second]) rfl ?_
    show Steps p.tables e below (s₁.setTop (mkF m 5 #[.val (.long x), .second, .val (.long y), .second, .val (.long (x + y)), .second] [])) _
    refine XS.lloadN X0.here hx rfl (hb hby d10_5) rfl ?_
    refine XS.lload X0.here hx rfl (hb hby d10_6) rfl ?_
    refine XS.lxor X0.here hx rfl (hb hby d10_8) rfl ?_
    refine XS.lloadN X0.here hx rfl (hb hby d10_9) rfl ?_
    show Steps p.tables e below (s₁.setTop (mkF m 10 #[.val (.long x), .second, .val (.long y), .second, .val (.long (x + y)), .second] [(.long y), (.long (x ^^^ (x + y)))])) _
    refine XS.lload X0.here hx rfl (hb hby d10_10) rfl ?_
    refine XS.lxor X0.here hx rfl (hb hby d10_12) rfl ?_
    refine XS.land X0.here hx rfl (hb hby d10_13) rfl ?_
    refine XS.lconst X0.here hx rfl (hb hby d10_14) ?_
    show Steps p.tables e below (s₁.setTop (mkF m 15 #[.val (.long x), .second, .val (.long y), .second, .val (.long (x + y)), .second] [(.long (0 : Int64)), (.long ((x ^^^ (x + y)) &&& (y ^^^ (x + y))))])) _
    refine XS.lcmp X0.here hx rfl (hb hby d10_15) rfl ?_
    refine XS.ifNo X0.here hx rfl (hb hby d10_16) rfl ((if0 _ _).trans (tlt ((lw_lt _ _).mpr q)).2.1) ?_
    exact kz
  obtain ⟨T1, h1, X1, e1, E1, A1, D1, U1, st1⟩ := newO X0 hx hZ hown (w_ hw 53 rfl) (w_ hw 54 rfl) (w_ hw 55 rfl) e0 (g := (mkF m 19 #[.val (.long x), .second, .val (.long y), .second, .val (.long (x + y)), .second] [])) rfl (hb hby d10_19) (by decide) (by decide)
  obtain ⟨b1, g1⟩ : ∃ z, z = h0.size := ⟨_, rfl⟩
  rw [← g1] at A1 D1 U1 st1
  refine Goes.via (S' := T1.setTop (mkF m 22 #[.val (.long x), .second, .val (.long y), .second, .val (.long (x + y)), .second] [(.ref b1)])) st1 ?_
  have G0 : Fld Z h1 b1 "java/lang/Throwable" "cause" "Ljava/lang/Throwable;" .null := D1 (Or.inl (w_ hw 88 rfl)) (ty := (.object "java/lang/Throwable")) (by decide)
  have G1 : Fld Z h1 b1 "java/lang/Throwable" "stackTrace" "[Ljava/lang/StackTraceElement;" .null := D1 (Or.inl (w_ hw 91 rfl)) (ty := (.array (.object "java/lang/StackTraceElement"))) (by decide)
  have G2 : Fld Z h1 b1 "java/lang/Throwable" "suppressedExceptions" "Ljava/util/List;" .null := D1 (Or.inl (w_ hw 94 rfl)) (ty := (.object "java/util/List")) (by decide)
  have G3 : Fld Z h1 b1 "java/lang/Throwable" "backtrace" "Ljava/lang/Object;" .null := D1 (Or.inl (w_ hw 119 rfl)) (ty := (.object "java/lang/Object")) (by decide)
  have G4 : Fld Z h1 b1 "java/lang/Throwable" "detailMessage" "Ljava/lang/String;" .null := D1 (Or.inl (w_ hw 118 rfl)) (ty := (.object "java/lang/String")) (by decide)
  have UU : Unt h1 b1 := U1
  have gq : @LE.le Nat _ h0.size b1 := Nat.le_of_eq g1.symm
  refine Goes.via (S' := T1.setTop (mkF m 23 #[.val (.long x), .second, .val (.long y), .second, .val (.long (x + y)), .second] [(.ref b1), (.ref b1)])) (fun tz kz => ?_) ?_
  · show Steps p.tables e below (T1.setTop (mkF m 22 #[.val (.long x), .second, .val (.long y), .second, .val (.long (x + y)), .second] [(.ref b1)])) _
    refine XS.dup X1.here hx rfl (hb hby d10_22) rfl rfl ?_
    exact kz
  obtain ⟨a2, T2, h2, k2, X2, e2, E2, hS2, hk2, hZ, hown, st2⟩ := ldcS (s := s) (vm0 := s.vm) X1 hx hZ hown (w_ hw 56 rfl) wS e1 ((State.WarmedH.refl s).since 0) (Nat.zero_le _) (g := (mkF m 23 #[.val (.long x), .second, .val (.long y), .second, .val (.long (x + y)), .second] [(.ref b1), (.ref b1)])) rfl (hb hby d10_23) (n := 52) (by decide) (by decide) (by decide) (by decide)
  refine Goes.via (S' := T2.setTop (mkF m 25 #[.val (.long x), .second, .val (.long y), .second, .val (.long (x + y)), .second] [(.ref a2), (.ref b1), (.ref b1)])) st2 ?_
  have G0 := G0.ext E2
  have G1 := G1.ext E2
  have G2 := G2.ext E2
  have G3 := G3.ext E2
  have G4 := G4.ext E2
  have EE := A1.ext E2
  have UU := UU.ext E2
  have O1 := (O0.ext E1).ext E2
  have Z1 := Nat.le_trans (Nat.le_trans Z0 E1.1) E2.1
  have K1 := ((Keep.refl h0 []).ext E1).ext E2
  have hK : (s.setVm T2.vm).vm.MethodsKnown ∧ (s.setVm T2.vm).vm.FramesKnown below := ⟨Vm.MethodsKnown.alikeC hS2.1.alike hK.1, Vm.FramesKnown.alikeC hS2.1.alike hK.2⟩
  have gz : n0 ≤ b1 := Nat.le_trans Z0 gq
  obtain ⟨_, _, ⟨T3, L3, k3, n3⟩, -, X3, ⟨Lc3, hQ3, l3, y3, z3⟩, st3⟩ := X2.specialBack hx (y := (⟨"java/lang/ArithmeticException", "<init>", "(Ljava/lang/String;)V"⟩ : MethodName)) rfl hown (mvT hZ (w_ hw 64 rfl)) (mvT hZ (w_ hw 65 rfl)) (mvT hZ (w_ hw 67 rfl)) (by decide) (backOfKL (W := 1) (rtc3 l Z a0 hw [] b1 a2 us ss h2 n0 Z1 SU hus SQ hss hl O1 G0 G1 G2 G3 G4 EE UU gz) hZ (w_ hw 67 rfl) (w_ hw 55 rfl) (by decide) (by decide) hK.1 hK.2) (g := (mkF m 25 #[.val (.long x), .second, .val (.long y), .second, .val (.long (x + y)), .second] [(.ref a2), (.ref b1), (.ref b1)])) rfl (by rw [hml]; rfl) (Steps.refl _) (a := b1) (argsL := [(.ref a2)]) (rest := [(.ref b1)]) (lenOf pd_0 rfl) rfl (by show 2 * 0 + _ ≤ _; exact Nat.le_of_eq rfl) (hb hby d10_25) (fun _ _ => ⟨rfl, e2, (by decide : 3 + 1 ≤ _), (by decide : 62 + 2752 ≤ _)⟩)
  dsimp only [Pt.U, Pt.locs, Pt.cells, Pt.slots] at X3 l3 y3 z3 st3 hQ3
  subst l3 y3 z3
  obtain ⟨rfl, N3, K3, E3_⟩ := hQ3
  have Nf3 := Fr.app N0 N3
  refine Goes.via (S' := T3.setTop (mkF m 28 #[.val (.long x), .second, .val (.long y), .second, .val (.long (x + y)), .second] [(.ref b1)])) (fun _ kz => st3.trans kz) ?_
  have K2 := K1.trans K3 (allS (Or.inr gq) all0)
  exact Goes.throwT (s := s) (vm1 := T2.vm) X3 hx Bd.notSynchronized hS2 (Nat.le_trans hk2 K3.1) (own_noexc Bd) (hb hby d10_28) (Nat.le_of_ble_eq_true rfl) (Nat.le_of_ble_eq_true rfl) ⟨E3_, Nf3, K2, gq⟩
theorem d3_0 : decode prog_120_method_1_code 0 = .ok (.aload_n 0, 1) := by decide +kernel
theorem d3_1 : decode prog_120_method_1_code 1 = .ok (.invokespecial 1, 3) := by decide +kernel
theorem d3_4 : decode prog_120_method_1_code 4 = .ok (.aload_n 0, 1) := by decide +kernel
theorem d3_5 : decode prog_120_method_1_code 5 = .ok (.iconst 1, 1) := by decide +kernel
theorem d3_6 : decode prog_120_method_1_code 6 = .ok (.putfield 7, 3) := by decide +kernel
theorem d3_9 : decode prog_120_method_1_code 9 = .ok (.return_, 1) := by decide +kernel
theorem pn_3 : plainName "lambdary/statistics/IntegralSum" = true := by first | (simp [plainName, overriddenIn]; done) | decide +kernel
theorem ef_3 (m : MethodId) (x0 : Addr) : entryFrame m #[(.ref x0)] 1 = mkF m 0 #[.val (.ref x0)] [] := by first | (simp [entryFrame, mkF, argsToLocals, Value.category]; done) | rfl
def Q_rin (Z : State) (a1 : Addr)  (h0 : Heap) (n0 : Nat) : Option Value → Heap → List Loc → Prop := fun v h L => v = none ∧ Fr n0 L ∧ Keep h0 h [a1] ∧ Exa Z h a1 "lambdary/statistics/IntegralSum" ∧ Fld Z h a1 "lambdary/statistics/IntegralSum" "low" "J" (.long (0 : Int64)) ∧ Fld Z h a1 "lambdary/statistics/IntegralSum" "turns" "J" (.long (0 : Int64)) ∧ Fld Z h a1 "lambdary/statistics/IntegralSum" "wrapped" "Z" (.int (0 : Int32)) ∧ Fld Z h a1 "lambdary/statistics/IntegralSum" "checkInts" "Z" (.int (1 : Int32))
set_option maxRecDepth 65536 in
set_option maxHeartbeats 40000000 in
theorem rin (l : Launch) (Z : State) (a0 : Array Value) (hw : ∀ d ∈ tables_1, d.before a0 Z = true) (ws : List Jvm.Cond) (a1 : Addr)  (h0 : Heap) (n0 : Nat) (Z0 : n0 ≤ h0.size) (E1 : Exa Z h0 a1 "lambdary/statistics/IntegralSum") (F0 : Fld Z h0 a1 "lambdary/statistics/IntegralSum" "low" "J" (.long (0 : Int64))) (F1 : Fld Z h0 a1 "lambdary/statistics/IntegralSum" "turns" "J" (.long (0 : Int64))) (F2 : Fld Z h0 a1 "lambdary/statistics/IntegralSum" "wrapped" "Z" (.int (0 : Int32))) (F3 : Fld Z h0 a1 "lambdary/statistics/IntegralSum" "checkInts" "Z" (.int (0 : Int32))) (g1 : n0 ≤ a1) :
    own_M l Z (⟨"lambdary/statistics/IntegralSum", "<init>", "()V"⟩ : MethodName) (Jvm.Cond.code (⟨"lambdary/statistics/IntegralSum", "<init>", "()V"⟩ : MethodName) prog_120_method_1_code 1 none) ws ({ frames := 1, cells := 0, slots := 0, locals := 12 } : Room) #[(.ref a1)] h0 (Q_rin Z a1 h0 n0) := by
  refine MetFree.of_bodySF (plainFor_of_name pn_3) hisR ?_
  intro p e s m args below meth c s₁ Bd hml0 hP hK
  obtain ⟨rfl, hZ, hh⟩ := hP
  have hx := Bd.exec
  have hby := Bd.bytes
  have hml : c.maxLocals = 1 := hml0
  have hown : s.vm.findClass "lambdary/statistics/IntegralSum" = some m.cls := findClass_of_methodNamed Bd.named
  have hnm := (name_of_methodNamed Bd.named Bd.method).1
  have X0 : Stand p l e ({ frames := 1, cells := 0, slots := 0, locals := 12 } : Room) s m #[(.ref a1)] below meth c s₁ [] 0 0 := Stand.of_body Bd
  have e0 : s₁.heap = h0 := by rw [← hh, Bd.state]; rfl
  have N0 := Fr.nil n0
  show Goes p e below (Fin s (Q_rin Z a1 h0 n0) ({ frames := 1, cells := 0, slots := 0, locals := 12 } : Room).cells ({ frames := 1, cells := 0, slots := 0, locals := 12 } : Room).slots) _
  refine Goes.via (S' := s₁.setTop (mkF m 0 #[.val (.ref a1)] [])) (fun tz kz => castTop (ef_3 m a1 ) kz) ?_
  refine Goes.via (S' := s₁.setTop (mkF m 1 #[.val (.ref a1)] [(.ref a1)])) (fun tz kz => ?_) ?_
  · show Steps p.tables e below (s₁.setTop (mkF m 0 #[.val (.ref a1)] [])) _
    refine XS.aloadN X0.here hx rfl (hb hby d3_0) rfl rfl ?_
    exact kz
  obtain ⟨T1, X1, e1, st1⟩ := initO X0 hx hZ hown (w_ hw 13 rfl) (w_ hw 14 rfl) (w_ hw 15 rfl) e0 (g := (mkF m 1 #[.val (.ref a1)] [(.ref a1)])) rfl (by rw [hml]; rfl) rfl (hb hby d3_1) (by decide) (W := 0) (by show 2 * 0 + _ ≤ _; exact Nat.le_of_eq rfl) (by decide)
  refine Goes.via (S' := T1.setTop (mkF m 4 #[.val (.ref a1)] [])) st1 ?_
  refine Goes.via (S' := T1.setTop (mkF m 6 #[.val (.ref a1)] [(.int (1 : Int32)), (.ref a1)])) (fun tz kz => ?_) ?_
  · show Steps p.tables e below (T1.setTop (mkF m 4 #[.val (.ref a1)] [])) _
    refine XS.aloadN X1.here hx rfl (hb hby d3_4) rfl rfl ?_
    refine XS.iconst X1.here hx rfl (hb hby d3_5) ?_
    exact kz
  obtain ⟨T2, h2, X2, e2, W2, st2⟩ := putFN X1 hx hZ hown (w_ hw 16 rfl) Via.refl e1 F3 E1 (Or.inl (w_ hw 17 rfl)) (w_ hw 8 rfl) (ty := .boolean) (v' := (.int (nar .boolean (1 : Int32)))) (by decide) rfl (fits_nar_bool _) (g := (mkF m 6 #[.val (.ref a1)] [(.int (1 : Int32)), (.ref a1)])) rfl rfl (hb hby d3_6)
  refine Goes.via (S' := T2.setTop (mkF m 9 #[.val (.ref a1)] [])) st2 ?_
  have N2 := Fr.snoc X2 N0 g1
  have Flow_2 := F0.other W2 (Or.inr (slot_ne (Or.inl (w_ hw 37 rfl)) (Or.inl (w_ hw 17 rfl)) (by decide) (t := .long) (t' := .boolean) (by decide) (by decide)))
  have Fturns_2 := F1.other W2 (Or.inr (slot_ne (Or.inl (w_ hw 35 rfl)) (Or.inl (w_ hw 17 rfl)) (by decide) (t := .long) (t' := .boolean) (by decide) (by decide)))
  have Fwrapped_2 := F2.other W2 (Or.inr (slot_ne (Or.inl (w_ hw 129 rfl)) (Or.inl (w_ hw 17 rfl)) (by decide) (t := .boolean) (t' := .boolean) (by decide) (by decide)))
  have FcheckInts_2 := F3.same W2
  have E_2 := E1.wr W2
  have K_2 := (Keep.refl h0 [a1]).wr W2 (Or.inl (List.mem_singleton.mpr rfl))
  exact Goes.retV X2 hx Bd.notSynchronized Bd.returns (hb hby d3_9) (Nat.le_of_ble_eq_true rfl) (Nat.le_of_ble_eq_true rfl) (by rw [e2]; exact ⟨rfl, N2, K_2, E_2, Flow_2, Fturns_2, Fwrapped_2, FcheckInts_2⟩)
def own_ck (x : Int64) : Int32 := (if (4294967296 : Int64) < x then (1 : Int32) else (0 : Int32))
theorem d5_0 : decode prog_120_method_4_code 0 = .ok (.aload_n 0, 1) := by decide +kernel
theorem d5_1 : decode prog_120_method_4_code 1 = .ok (.lload_n 1, 1) := by decide +kernel
theorem d5_2 : decode prog_120_method_4_code 2 = .ok (.ldc2_w 54, 3) := by decide +kernel
theorem d5_5 : decode prog_120_method_4_code 5 = .ok (.lcmp, 1) := by decide +kernel
theorem d5_6 : decode prog_120_method_4_code 6 = .ok (.ifCond .le 7, 3) := by decide +kernel
theorem d5_9 : decode prog_120_method_4_code 9 = .ok (.iconst 1, 1) := by decide +kernel
theorem d5_10 : decode prog_120_method_4_code 10 = .ok (.goto 4, 3) := by decide +kernel
theorem d5_13 : decode prog_120_method_4_code 13 = .ok (.iconst 0, 1) := by decide +kernel
theorem d5_14 : decode prog_120_method_4_code 14 = .ok (.putfield 7, 3) := by decide +kernel
theorem d5_17 : decode prog_120_method_4_code 17 = .ok (.return_, 1) := by decide +kernel
theorem pn_5 : plainName "lambdary/statistics/IntegralSum" = true := by first | (simp [plainName, overriddenIn]; done) | decide +kernel
theorem ef_5 (m : MethodId) (x0 : Addr) (x1 : Int64) : entryFrame m #[(.ref x0), (.long x1)] 3 = mkF m 0 #[.val (.ref x0), .val (.long x1), .second] [] := by first | (simp [entryFrame, mkF, argsToLocals, Value.category]; done) | rfl
def Q_rbg (Z : State) (a1 : Addr) (x : Int64) (lo tu : Int64) (wr ck : Int32) (h0 : Heap) (n0 : Nat) : Option Value → Heap → List Loc → Prop := fun v h L => v = none ∧ Fr n0 L ∧ Keep h0 h [a1] ∧ Exa Z h a1 "lambdary/statistics/IntegralSum" ∧ Fld Z h a1 "lambdary/statistics/IntegralSum" "low" "J" (.long lo) ∧ Fld Z h a1 "lambdary/statistics/IntegralSum" "turns" "J" (.long tu) ∧ Fld Z h a1 "lambdary/statistics/IntegralSum" "wrapped" "Z" (.int wr) ∧ Fld Z h a1 "lambdary/statistics/IntegralSum" "checkInts" "Z" (.int (nar .boolean (own_ck x)))
set_option maxRecDepth 65536 in
set_option maxHeartbeats 40000000 in
theorem rbg (l : Launch) (Z : State) (a0 : Array Value) (hw : ∀ d ∈ tables_1, d.before a0 Z = true) (ws : List Jvm.Cond) (a1 : Addr) (x : Int64) (lo tu : Int64) (wr ck : Int32) (h0 : Heap) (n0 : Nat) (Z0 : n0 ≤ h0.size) (E1 : Exa Z h0 a1 "lambdary/statistics/IntegralSum") (F0 : Fld Z h0 a1 "lambdary/statistics/IntegralSum" "low" "J" (.long lo)) (F1 : Fld Z h0 a1 "lambdary/statistics/IntegralSum" "turns" "J" (.long tu)) (F2 : Fld Z h0 a1 "lambdary/statistics/IntegralSum" "wrapped" "Z" (.int wr)) (F3 : Fld Z h0 a1 "lambdary/statistics/IntegralSum" "checkInts" "Z" (.int ck)) (g1 : n0 ≤ a1) :
    own_M l Z (⟨"lambdary/statistics/IntegralSum", "begin", "(J)V"⟩ : MethodName) (Jvm.Cond.code (⟨"lambdary/statistics/IntegralSum", "begin", "(J)V"⟩ : MethodName) prog_120_method_4_code 3 none) ws ({ frames := 0, cells := 0, slots := 0, locals := 0 } : Room) #[(.ref a1), (.long x)] h0 (Q_rbg Z a1 x lo tu wr ck h0 n0) := by
  refine MetFree.of_bodySF (plainFor_of_name pn_5) hisR ?_
  intro p e s m args below meth c s₁ Bd hml0 hP hK
  obtain ⟨rfl, hZ, hh⟩ := hP
  have hx := Bd.exec
  have hby := Bd.bytes
  have hml : c.maxLocals = 3 := hml0
  have hown : s.vm.findClass "lambdary/statistics/IntegralSum" = some m.cls := findClass_of_methodNamed Bd.named
  have hnm := (name_of_methodNamed Bd.named Bd.method).1
  have X0 : Stand p l e ({ frames := 0, cells := 0, slots := 0, locals := 0 } : Room) s m #[(.ref a1), (.long x)] below meth c s₁ [] 0 0 := Stand.of_body Bd
  have e0 : s₁.heap = h0 := by rw [← hh, Bd.state]; rfl
  have N0 := Fr.nil n0
  show Goes p e below (Fin s (Q_rbg Z a1 x lo tu wr ck h0 n0) ({ frames := 0, cells := 0, slots := 0, locals := 0 } : Room).cells ({ frames := 0, cells := 0, slots := 0, locals := 0 } : Room).slots) _
  refine Goes.via (S' := s₁.setTop (mkF m 0 #[.val (.ref a1), .val (.long x), .second] [])) (fun tz kz => castTop (ef_5 m a1 x ) kz) ?_
  refine Goes.via (S' := s₁.setTop (mkF m 6 #[.val (.ref a1), .val (.long x), .second] [(.int (lcmpW x (4294967296 : Int64))), (.ref a1)])) (fun tz kz => ?_) ?_
  · show Steps p.tables e below (s₁.setTop (mkF m 0 #[.val (.ref a1), .val (.long x), .second] [])) _
    refine XS.aloadN X0.here hx rfl (hb hby d5_0) rfl rfl ?_
    refine XS.lloadN X0.here hx rfl (hb hby d5_1) rfl ?_
    refine X0.ldc2Long hx hown (mvT hZ (w_ hw 23 rfl)) (g := (mkF m 2 #[.val (.ref a1), .val (.long x), .second] [(.long x), (.ref a1)])) rfl (hb hby d5_2) _ ?_
    refine XS.lcmp X0.here hx rfl (hb hby d5_5) rfl ?_
    exact kz
  obtain ⟨r2, hr2⟩ : ∃ zz_ : Int32, zz_ = (if (4294967296 : Int64) < x then (1 : Int32) else (0 : Int32)) := ⟨_, rfl⟩
  have j6_3 : ∀ t, Steps p.tables e below (s₁.setTop (mkF m 14 #[.val (.ref a1), .val (.long x), .second] [(.int r2), (.ref a1)])) t → Steps p.tables e below (s₁.setTop (mkF m 6 #[.val (.ref a1), .val (.long x), .second] [(.int (lcmpW x (4294967296 : Int64))), (.ref a1)])) t := by
    intro tz kz
    by_cases hc6_1 : (4294967296 : Int64) < x
    · rw [if_pos hc6_1] at hr2
      show Steps p.tables e below (s₁.setTop (mkF m 6 #[.val (.ref a1), .val (.long x), .second] [(.int (lcmpW x (4294967296 : Int64))), (.ref a1)])) _
      refine XS.ifNo X0.here hx rfl (hb hby d5_6) rfl ((if0 _ _).trans (tlt ((lw_gt _ _).mpr hc6_1)).2.2.2) ?_
      refine XS.iconst X0.here hx rfl (hb hby d5_9) ?_
      refine XS.goto X0.here hx rfl (pc0 := 10) (pc' := 14) rfl (hb hby d5_10) (by decide) (by decide) ?_
      subst hr2
      exact kz
    · rw [if_neg hc6_1] at hr2
      show Steps p.tables e below (s₁.setTop (mkF m 6 #[.val (.ref a1), .val (.long x), .second] [(.int (lcmpW x (4294967296 : Int64))), (.ref a1)])) _
      refine XS.ifYes X0.here hx rfl (pc0 := 6) (pc' := 13) rfl (hb hby d5_6) rfl ((if0 _ _).trans (flt (mt (lw_gt _ _).mp hc6_1)).2.2.2) (by decide) (by decide) ?_
      refine XS.iconst X0.here hx rfl (hb hby d5_13) ?_
      subst hr2
      exact kz
  refine Goes.via j6_3 ?_
  rw [hr2]
  show Goes p e below _ (s₁.setTop (mkF m 14 #[.val (.ref a1), .val (.long x), .second] [(.int (own_ck x)), (.ref a1)]))
  obtain ⟨T4, h4, X4, e4, W4, st4⟩ := putFN X0 hx hZ hown (w_ hw 16 rfl) Via.refl e0 F3 E1 (Or.inl (w_ hw 17 rfl)) (w_ hw 8 rfl) (ty := .boolean) (v' := (.int (nar .boolean (own_ck x)))) (by decide) rfl (fits_nar_bool _) (g := (mkF m 14 #[.val (.ref a1), .val (.long x), .second] [(.int (own_ck x)), (.ref a1)])) rfl rfl (hb hby d5_14)
  refine Goes.via (S' := T4.setTop (mkF m 17 #[.val (.ref a1), .val (.long x), .second] [])) st4 ?_
  have N4 := Fr.snoc X4 N0 g1
  have Flow_4 := F0.other W4 (Or.inr (slot_ne (Or.inl (w_ hw 37 rfl)) (Or.inl (w_ hw 17 rfl)) (by decide) (t := .long) (t' := .boolean) (by decide) (by decide)))
  have Fturns_4 := F1.other W4 (Or.inr (slot_ne (Or.inl (w_ hw 35 rfl)) (Or.inl (w_ hw 17 rfl)) (by decide) (t := .long) (t' := .boolean) (by decide) (by decide)))
  have Fwrapped_4 := F2.other W4 (Or.inr (slot_ne (Or.inl (w_ hw 129 rfl)) (Or.inl (w_ hw 17 rfl)) (by decide) (t := .boolean) (t' := .boolean) (by decide) (by decide)))
  have FcheckInts_4 := F3.same W4
  have E_4 := E1.wr W4
  have K_4 := (Keep.refl h0 [a1]).wr W4 (Or.inl (List.mem_singleton.mpr rfl))
  exact Goes.retV X4 hx Bd.notSynchronized Bd.returns (hb hby d5_17) (Nat.le_of_ble_eq_true rfl) (Nat.le_of_ble_eq_true rfl) (by rw [e4]; exact ⟨rfl, N4, K_4, E_4, Flow_4, Fturns_4, Fwrapped_4, FcheckInts_4⟩)
theorem d7_0 : decode prog_120_method_2_code 0 = .ok (.aload_n 0, 1) := by decide +kernel
theorem d7_1 : decode prog_120_method_2_code 1 = .ok (.getfield 13, 3) := by decide +kernel
theorem d7_4 : decode prog_120_method_2_code 4 = .ok (.lconst 0, 1) := by decide +kernel
theorem d7_5 : decode prog_120_method_2_code 5 = .ok (.lcmp, 1) := by decide +kernel
theorem d7_6 : decode prog_120_method_2_code 6 = .ok (.ifCond .eq 43, 3) := by decide +kernel
theorem d7_49 : decode prog_120_method_2_code 49 = .ok (.aload_n 0, 1) := by decide +kernel
theorem d7_50 : decode prog_120_method_2_code 50 = .ok (.getfield 29, 3) := by decide +kernel
theorem d7_53 : decode prog_120_method_2_code 53 = .ok (.lreturn, 1) := by decide +kernel
theorem pn_7 : plainName "lambdary/statistics/IntegralSum" = true := by first | (simp [plainName, overriddenIn]; done) | decide +kernel
theorem ef_7 (m : MethodId) (x0 : Addr) : entryFrame m #[(.ref x0)] 2 = mkF m 0 #[.val (.ref x0), .unset] [] := by first | (simp [entryFrame, mkF, argsToLocals, Value.category]; done) | rfl
def Q_rsm (Z : State) (a1 : Addr) (lo tu : Int64) (wr ck : Int32) (h0 : Heap) (n0 : Nat) : Option Value → Heap → List Loc → Prop := fun v h L => v = some (.long lo) ∧ Fr n0 L ∧ h = h0
set_option maxRecDepth 65536 in
set_option maxHeartbeats 40000000 in
theorem rsm (l : Launch) (Z : State) (a0 : Array Value) (hw : ∀ d ∈ tables_1, d.before a0 Z = true) (ws : List Jvm.Cond) (a1 : Addr) (lo tu : Int64) (wr ck : Int32) (h0 : Heap) (n0 : Nat) (Z0 : n0 ≤ h0.size) (E1 : Exa Z h0 a1 "lambdary/statistics/IntegralSum") (F0 : Fld Z h0 a1 "lambdary/statistics/IntegralSum" "low" "J" (.long lo)) (F1 : Fld Z h0 a1 "lambdary/statistics/IntegralSum" "turns" "J" (.long (0 : Int64))) (F2 : Fld Z h0 a1 "lambdary/statistics/IntegralSum" "wrapped" "Z" (.int wr)) (F3 : Fld Z h0 a1 "lambdary/statistics/IntegralSum" "checkInts" "Z" (.int ck)) (g1 : n0 ≤ a1) :
    own_M l Z (⟨"lambdary/statistics/IntegralSum", "sum", "()J"⟩ : MethodName) (Jvm.Cond.code (⟨"lambdary/statistics/IntegralSum", "sum", "()J"⟩ : MethodName) prog_120_method_2_code 2 (some .long)) ws ({ frames := 0, cells := 0, slots := 0, locals := 0 } : Room) #[(.ref a1)] h0 (Q_rsm Z a1 lo tu wr ck h0 n0) := by
  refine MetFree.of_bodySF (plainFor_of_name pn_7) hisR ?_
  intro p e s m args below meth c s₁ Bd hml0 hP hK
  obtain ⟨rfl, hZ, hh⟩ := hP
  have hx := Bd.exec
  have hby := Bd.bytes
  have hml : c.maxLocals = 2 := hml0
  have hown : s.vm.findClass "lambdary/statistics/IntegralSum" = some m.cls := findClass_of_methodNamed Bd.named
  have hnm := (name_of_methodNamed Bd.named Bd.method).1
  have X0 : Stand p l e ({ frames := 0, cells := 0, slots := 0, locals := 0 } : Room) s m #[(.ref a1)] below meth c s₁ [] 0 0 := Stand.of_body Bd
  have e0 : s₁.heap = h0 := by rw [← hh, Bd.state]; rfl
  have N0 := Fr.nil n0
  show Goes p e below (Fin s (Q_rsm Z a1 lo tu wr ck h0 n0) ({ frames := 0, cells := 0, slots := 0, locals := 0 } : Room).cells ({ frames := 0, cells := 0, slots := 0, locals := 0 } : Room).slots) _
  refine Goes.via (S' := s₁.setTop (mkF m 0 #[.val (.ref a1), .unset] [])) (fun tz kz => castTop (ef_7 m a1 ) kz) ?_
  refine Goes.via (S' := s₁.setTop (mkF m 1 #[.val (.ref a1), .unset] [(.ref a1)])) (fun tz kz => ?_) ?_
  · show Steps p.tables e below (s₁.setTop (mkF m 0 #[.val (.ref a1), .unset] [])) _
    refine XS.aloadN X0.here hx rfl (hb hby d7_0) rfl rfl ?_
    exact kz
  obtain ⟨T1, X1, e1, st1⟩ := getF X0 hx hZ hown (host := "") (Or.inl (w_ hw 34 rfl)) Via.refl e0 F1 (g := (mkF m 1 #[.val (.ref a1), .unset] [(.ref a1)])) rfl rfl (hb hby d7_1)
  refine Goes.via (S' := T1.setTop (mkF m 4 #[.val (.ref a1), .unset] [(.long (0 : Int64))])) st1 ?_
  refine Goes.via (S' := T1.setTop (mkF m 50 #[.val (.ref a1), .unset] [(.ref a1)])) (fun tz kz => ?_) ?_
  · show Steps p.tables e below (T1.setTop (mkF m 4 #[.val (.ref a1), .unset] [(.long (0 : Int64))])) _
    refine XS.lconst X1.here hx rfl (hb hby d7_4) ?_
    refine XS.lcmp X1.here hx rfl (hb hby d7_5) rfl ?_
    refine XS.ifYes X1.here hx rfl (pc0 := 6) (pc' := 49) rfl (hb hby d7_6) rfl ((if0 _ _).trans (teq ((lw_eq _ _).mpr rfl)).1) (by decide) (by decide) ?_
    refine XS.aloadN X1.here hx rfl (hb hby d7_49) rfl rfl ?_
    exact kz
  obtain ⟨T2, X2, e2, st2⟩ := getF X1 hx hZ hown (host := "") (Or.inl (w_ hw 36 rfl)) Via.refl e1 F0 (g := (mkF m 50 #[.val (.ref a1), .unset] [(.ref a1)])) rfl rfl (hb hby d7_50)
  refine Goes.via (S' := T2.setTop (mkF m 53 #[.val (.ref a1), .unset] [(.long lo)])) st2 ?_
  exact Goes.retO X2 hx Bd.notSynchronized Bd.returns rfl (Or.inr (Or.inl ⟨rfl, rfl, _, rfl⟩)) (hb hby d7_53) (Nat.le_of_ble_eq_true rfl) (Nat.le_of_ble_eq_true rfl) ⟨rfl, N0, e2⟩
theorem d17_0 : decode prog_120_method_5_code 0 = .ok (.aload_n 0, 1) := by decide +kernel
theorem d17_1 : decode prog_120_method_5_code 1 = .ok (.getfield 56, 3) := by decide +kernel
theorem d17_4 : decode prog_120_method_5_code 4 = .ok (.ifCond .eq 9, 3) := by decide +kernel
theorem d17_13 : decode prog_120_method_5_code 13 = .ok (.aload_n 0, 1) := by decide +kernel
theorem d17_14 : decode prog_120_method_5_code 14 = .ok (.aload_n 0, 1) := by decide +kernel
theorem d17_15 : decode prog_120_method_5_code 15 = .ok (.getfield 29, 3) := by decide +kernel
theorem d17_18 : decode prog_120_method_5_code 18 = .ok (.lload_n 1, 1) := by decide +kernel
theorem d17_19 : decode prog_120_method_5_code 19 = .ok (.invokestatic 59, 3) := by decide +kernel
theorem d17_22 : decode prog_120_method_5_code 22 = .ok (.putfield 29, 3) := by decide +kernel
theorem d17_25 : decode prog_120_method_5_code 25 = .ok (.goto 14, 3) := by decide +kernel
theorem d17_39 : decode prog_120_method_5_code 39 = .ok (.return_, 1) := by decide +kernel
theorem pn_17 : plainName "lambdary/statistics/IntegralSum" = true := by first | (simp [plainName, overriddenIn]; done) | decide +kernel
theorem ef_17 (m : MethodId) (x0 : Addr) (x1 : Int64) : entryFrame m #[(.ref x0), (.long x1)] 4 = mkF m 0 #[.val (.ref x0), .val (.long x1), .second, .unset] [] := by first | (simp [entryFrame, mkF, argsToLocals, Value.category]; done) | rfl
def Q_rac (Z : State) (a1 : Addr) (z : Int64) (lo tu : Int64) (wr ck : Int32) (h0 : Heap) (n0 : Nat) : Option Value → Heap → List Loc → Prop := fun v h L => v = none ∧ Fr n0 L ∧ Keep h0 h [a1] ∧ Exa Z h a1 "lambdary/statistics/IntegralSum" ∧ Fld Z h a1 "lambdary/statistics/IntegralSum" "low" "J" (.long (lo + z)) ∧ Fld Z h a1 "lambdary/statistics/IntegralSum" "turns" "J" (.long tu) ∧ Fld Z h a1 "lambdary/statistics/IntegralSum" "wrapped" "Z" (.int (0 : Int32)) ∧ Fld Z h a1 "lambdary/statistics/IntegralSum" "checkInts" "Z" (.int ck)
set_option maxRecDepth 65536 in
set_option maxHeartbeats 40000000 in
theorem rac (l : Launch) (Z : State) (a0 : Array Value) (hw : ∀ d ∈ tables_1, d.before a0 Z = true) (ws : List Jvm.Cond) (a1 : Addr) (z : Int64) (lo tu : Int64) (wr ck : Int32) (h0 : Heap) (n0 : Nat) (Z0 : n0 ≤ h0.size) (E1 : Exa Z h0 a1 "lambdary/statistics/IntegralSum") (F0 : Fld Z h0 a1 "lambdary/statistics/IntegralSum" "low" "J" (.long lo)) (F1 : Fld Z h0 a1 "lambdary/statistics/IntegralSum" "turns" "J" (.long tu)) (F2 : Fld Z h0 a1 "lambdary/statistics/IntegralSum" "wrapped" "Z" (.int (0 : Int32))) (F3 : Fld Z h0 a1 "lambdary/statistics/IntegralSum" "checkInts" "Z" (.int ck)) (g1 : n0 ≤ a1) (q : ¬ ((lo ^^^ (lo + z)) &&& (z ^^^ (lo + z))) < (0 : Int64)) :
    own_M l Z (⟨"lambdary/statistics/IntegralSum", "accept", "(J)V"⟩ : MethodName) (Jvm.Cond.codeWith (⟨"lambdary/statistics/IntegralSum", "accept", "(J)V"⟩ : MethodName) prog_120_method_5_code 4 none [((13 : Nat), (25 : Nat), (28 : Nat), (36 : Nat))]) ws ({ frames := 1, cells := 0, slots := 0, locals := 20 } : Room) #[(.ref a1), (.long z)] h0 (Q_rac Z a1 z lo tu wr ck h0 n0) := by
  refine MetFree.of_bodySF (plainFor_of_name pn_17) hisWith ?_
  intro p e s m args below meth c s₁ Bd hml0 hP hK
  obtain ⟨rfl, hZ, hh⟩ := hP
  have hx := Bd.exec
  have hby := Bd.bytes
  have hml : c.maxLocals = 4 := hml0
  have hown : s.vm.findClass "lambdary/statistics/IntegralSum" = some m.cls := findClass_of_methodNamed Bd.named
  have hnm := (name_of_methodNamed Bd.named Bd.method).1
  have X0 : Stand p l e ({ frames := 1, cells := 0, slots := 0, locals := 20 } : Room) s m #[(.ref a1), (.long z)] below meth c s₁ [] 0 0 := Stand.of_body Bd
  have e0 : s₁.heap = h0 := by rw [← hh, Bd.state]; rfl
  have N0 := Fr.nil n0
  show Goes p e below (Fin s (Q_rac Z a1 z lo tu wr ck h0 n0) ({ frames := 1, cells := 0, slots := 0, locals := 20 } : Room).cells ({ frames := 1, cells := 0, slots := 0, locals := 20 } : Room).slots) _
  refine Goes.via (S' := s₁.setTop (mkF m 0 #[.val (.ref a1), .val (.long z), .second, .unset] [])) (fun tz kz => castTop (ef_17 m a1 z ) kz) ?_
  refine Goes.via (S' := s₁.setTop (mkF m 1 #[.val (.ref a1), .val (.long z), .second, .unset] [(.ref a1)])) (fun tz kz => ?_) ?_
  · show Steps p.tables e below (s₁.setTop (mkF m 0 #[.val (.ref a1), .val (.long z), .second, .unset] [])) _
    refine XS.aloadN X0.here hx rfl (hb hby d17_0) rfl rfl ?_
    exact kz
  obtain ⟨T1, X1, e1, st1⟩ := getF X0 hx hZ hown (host := "") (Or.inl (w_ hw 128 rfl)) Via.refl e0 F2 (g := (mkF m 1 #[.val (.ref a1), .val (.long z), .second, .unset] [(.ref a1)])) rfl rfl (hb hby d17_1)
  refine Goes.via (S' := T1.setTop (mkF m 4 #[.val (.ref a1), .val (.long z), .second, .unset] [(.int (0 : Int32))])) st1 ?_
  refine Goes.via (S' := T1.setTop (mkF m 15 #[.val (.ref a1), .val (.long z), .second, .unset] [(.ref a1), (.ref a1)])) (fun tz kz => ?_) ?_
  · show Steps p.tables e below (T1.setTop (mkF m 4 #[.val (.ref a1), .val (.long z), .second, .unset] [(.int (0 : Int32))])) _
    refine XS.ifYes X1.here hx rfl (pc0 := 4) (pc' := 13) rfl (hb hby d17_4) rfl ((if0 _ _).trans (teq (by first | decide | rfl)).1) (by decide) (by decide) ?_
    refine XS.aloadN X1.here hx rfl (hb hby d17_13) rfl rfl ?_
    refine XS.aloadN X1.here hx rfl (hb hby d17_14) rfl rfl ?_
    exact kz
  obtain ⟨T2, X2, e2, st2⟩ := getF X1 hx hZ hown (host := "") (Or.inl (w_ hw 36 rfl)) Via.refl e1 F0 (g := (mkF m 15 #[.val (.ref a1), .val (.long z), .second, .unset] [(.ref a1), (.ref a1)])) rfl rfl (hb hby d17_15)
  refine Goes.via (S' := T2.setTop (mkF m 18 #[.val (.ref a1), .val (.long z), .second, .unset] [(.long lo), (.ref a1)])) st2 ?_
  refine Goes.via (S' := T2.setTop (mkF m 19 #[.val (.ref a1), .val (.long z), .second, .unset] [(.long z), (.long lo), (.ref a1)])) (fun tz kz => ?_) ?_
  · show Steps p.tables e below (T2.setTop (mkF m 18 #[.val (.ref a1), .val (.long z), .second, .unset] [(.long lo), (.ref a1)])) _
    refine XS.lloadN X2.here hx rfl (hb hby d17_18) rfl ?_
    exact kz
  obtain ⟨_, _, ⟨T3, L3, k3, n3⟩, -, X3, ⟨Lc3, hQ3, l3, y3, z3⟩, st3⟩ := Jvm.LawKit.callS X2 hx (y := (⟨"java/lang/Math", "addExact", "(JJ)J"⟩ : MethodName)) hown (mvT hZ (w_ hw 50 rfl)) (mvT hZ (w_ hw 51 rfl)) (mvT hZ (w_ hw 43 rfl)) (mvT hZ (w_ hw 52 rfl)) (by decide) (backOf (W := 1) (rax l Z a0 hw [] lo z h0 n0 Z0 q) hZ (w_ hw 52 rfl) (w_ hw 43 rfl) (by decide) (by decide)) (g := (mkF m 19 #[.val (.ref a1), .val (.long z), .second, .unset] [(.long z), (.long lo), (.ref a1)])) rfl (by rw [hml]; rfl) (argsL := [(.long lo), (.long z)]) (rest := [(.ref a1)]) (lenOf pd_1 rfl) rfl (by show 2 * 0 + _ ≤ _; exact Nat.le_of_eq rfl) (hb hby d17_19) (fun _ _ => ⟨rfl, e2, (by decide : 0 + 0 ≤ _), (by decide : 0 + 0 ≤ _)⟩)
  dsimp only [Pt.U, Pt.locs, Pt.cells, Pt.slots] at X3 l3 y3 z3 st3 hQ3
  subst l3 y3 z3
  obtain ⟨rfl, N3, e3⟩ := hQ3
  have Nf3 := Fr.app N0 N3
  refine Goes.via (S' := T3.setTop (mkF m 22 #[.val (.ref a1), .val (.long z), .second, .unset] [(.long (lo + z)), (.ref a1)])) (st3) ?_
  obtain ⟨T4, h4, X4, e4, W4, st4⟩ := putF X3 hx hZ hown (host := "") (Or.inl (w_ hw 36 rfl)) Via.refl e3 F0 E1 (Or.inl (w_ hw 37 rfl)) (w_ hw 8 rfl) (ty := .long) (by decide) rfl rfl (g := (mkF m 22 #[.val (.ref a1), .val (.long z), .second, .unset] [(.long (lo + z)), (.ref a1)])) rfl rfl (hb hby d17_22)
  refine Goes.via (S' := T4.setTop (mkF m 25 #[.val (.ref a1), .val (.long z), .second, .unset] [])) st4 ?_
  have N4 := Fr.snoc X4 Nf3 g1
  have Flow_4 := F0.same W4
  have Fturns_4 := F1.other W4 (Or.inr (slot_ne (Or.inl (w_ hw 35 rfl)) (Or.inl (w_ hw 37 rfl)) (by decide) (t := .long) (t' := .long) (by decide) (by decide)))
  have Fwrapped_4 := F2.other W4 (Or.inr (slot_ne (Or.inl (w_ hw 129 rfl)) (Or.inl (w_ hw 37 rfl)) (by decide) (t := .boolean) (t' := .long) (by decide) (by decide)))
  have FcheckInts_4 := F3.other W4 (Or.inr (slot_ne (Or.inl (w_ hw 17 rfl)) (Or.inl (w_ hw 37 rfl)) (by decide) (t := .boolean) (t' := .long) (by decide) (by decide)))
  have E_4 := E1.wr W4
  have K_4 := (Keep.refl h0 [a1]).wr W4 (Or.inl (List.mem_singleton.mpr rfl))
  refine Goes.via (S' := T4.setTop (mkF m 39 #[.val (.ref a1), .val (.long z), .second, .unset] [])) (fun tz kz => ?_) ?_
  · show Steps p.tables e below (T4.setTop (mkF m 25 #[.val (.ref a1), .val (.long z), .second, .unset] [])) _
    refine XS.goto X4.here hx rfl (pc0 := 25) (pc' := 39) rfl (hb hby d17_25) (by decide) (by decide) ?_
    exact kz
  exact Goes.retV X4 hx Bd.notSynchronized Bd.returns (hb hby d17_39) (Nat.le_of_ble_eq_true rfl) (Nat.le_of_ble_eq_true rfl) (by rw [e4]; exact ⟨rfl, N4, K_4, E_4, Flow_4, Fturns_4, Fwrapped_4, FcheckInts_4⟩)
theorem d9_0 : decode prog_120_method_8_code 0 = .ok (.lload_n 1, 1) := by decide +kernel
theorem d9_1 : decode prog_120_method_8_code 1 = .ok (.lload_n 3, 1) := by decide +kernel
theorem d9_2 : decode prog_120_method_8_code 2 = .ok (.invokestatic 59, 3) := by decide +kernel
theorem d9_5 : decode prog_120_method_8_code 5 = .ok (.lreturn, 1) := by decide +kernel
theorem d9_6 : decode prog_120_method_8_code 6 = .ok (.astore 5, 2) := by decide +kernel
theorem d9_8 : decode prog_120_method_8_code 8 = .ok (.aload_n 0, 1) := by decide +kernel
theorem d9_9 : decode prog_120_method_8_code 9 = .ok (.lload_n 3, 1) := by decide +kernel
theorem d9_10 : decode prog_120_method_8_code 10 = .ok (.invokevirtual 65, 3) := by decide +kernel
theorem d9_13 : decode prog_120_method_8_code 13 = .ok (.lload_n 1, 1) := by decide +kernel
theorem d9_14 : decode prog_120_method_8_code 14 = .ok (.lreturn, 1) := by decide +kernel
theorem pn_9 : plainName "lambdary/statistics/IntegralSum" = true := by first | (simp [plainName, overriddenIn]; done) | decide +kernel
theorem ef_9 (m : MethodId) (x0 : Addr) (x1 : Int64) (x2 : Int64) : entryFrame m #[(.ref x0), (.long x1), (.long x2)] 6 = mkF m 0 #[.val (.ref x0), .val (.long x1), .second, .val (.long x2), .second, .unset] [] := by first | (simp [entryFrame, mkF, argsToLocals, Value.category]; done) | rfl
def Q_rfj (Z : State) (a1 : Addr) (t : Int64) (z : Int64) (lo tu : Int64) (wr ck : Int32) (h0 : Heap) (n0 : Nat) : Option Value → Heap → List Loc → Prop := fun v h L => v = some (.long (t + z)) ∧ Fr n0 L ∧ h = h0
set_option maxRecDepth 65536 in
set_option maxHeartbeats 40000000 in
theorem rfj (l : Launch) (Z : State) (a0 : Array Value) (hw : ∀ d ∈ tables_1, d.before a0 Z = true) (ws : List Jvm.Cond) (a1 : Addr) (t : Int64) (z : Int64) (lo tu : Int64) (wr ck : Int32) (h0 : Heap) (n0 : Nat) (Z0 : n0 ≤ h0.size) (E1 : Exa Z h0 a1 "lambdary/statistics/IntegralSum") (F0 : Fld Z h0 a1 "lambdary/statistics/IntegralSum" "low" "J" (.long lo)) (F1 : Fld Z h0 a1 "lambdary/statistics/IntegralSum" "turns" "J" (.long tu)) (F2 : Fld Z h0 a1 "lambdary/statistics/IntegralSum" "wrapped" "Z" (.int wr)) (F3 : Fld Z h0 a1 "lambdary/statistics/IntegralSum" "checkInts" "Z" (.int ck)) (g1 : n0 ≤ a1) (q : ¬ ((t ^^^ (t + z)) &&& (z ^^^ (t + z))) < (0 : Int64)) :
    own_M l Z (⟨"lambdary/statistics/IntegralSum", "fold", "(JJ)J"⟩ : MethodName) (Jvm.Cond.codeWith (⟨"lambdary/statistics/IntegralSum", "fold", "(JJ)J"⟩ : MethodName) prog_120_method_8_code 6 (some .long) [((0 : Nat), (5 : Nat), (6 : Nat), (36 : Nat))]) ws ({ frames := 1, cells := 0, slots := 0, locals := 20 } : Room) #[(.ref a1), (.long t), (.long z)] h0 (Q_rfj Z a1 t z lo tu wr ck h0 n0) := by
  refine MetFree.of_bodySF (plainFor_of_name pn_9) hisWith ?_
  intro p e s m args below meth c s₁ Bd hml0 hP hK
  obtain ⟨rfl, hZ, hh⟩ := hP
  have hx := Bd.exec
  have hby := Bd.bytes
  have hml : c.maxLocals = 6 := hml0
  have hown : s.vm.findClass "lambdary/statistics/IntegralSum" = some m.cls := findClass_of_methodNamed Bd.named
  have hnm := (name_of_methodNamed Bd.named Bd.method).1
  have X0 : Stand p l e ({ frames := 1, cells := 0, slots := 0, locals := 20 } : Room) s m #[(.ref a1), (.long t), (.long z)] below meth c s₁ [] 0 0 := Stand.of_body Bd
  have e0 : s₁.heap = h0 := by rw [← hh, Bd.state]; rfl
  have N0 := Fr.nil n0
  show Goes p e below (Fin s (Q_rfj Z a1 t z lo tu wr ck h0 n0) ({ frames := 1, cells := 0, slots := 0, locals := 20 } : Room).cells ({ frames := 1, cells := 0, slots := 0, locals := 20 } : Room).slots) _
  refine Goes.via (S' := s₁.setTop (mkF m 0 #[.val (.ref a1), .val (.long t), .second, .val (.long z), .second, .unset] [])) (fun tz kz => castTop (ef_9 m a1 t z ) kz) ?_
  refine Goes.via (S' := s₁.setTop (mkF m 2 #[.val (.ref a1), .val (.long t), .second, .val (.long z), .second, .unset] [(.long z), (.long t)])) (fun tz kz => ?_) ?_
  · show Steps p.tables e below (s₁.setTop (mkF m 0 #[.val (.ref a1), .val (.long t), .second, .val (.long z), .second, .unset] [])) _
    refine XS.lloadN X0.here hx rfl (hb hby d9_0) rfl ?_
    refine XS.lloadN X0.here hx rfl (hb hby d9_1) rfl ?_
    exact kz
  obtain ⟨_, _, ⟨T1, L1, k1, n1⟩, -, X1, ⟨Lc1, hQ1, l1, y1, z1⟩, st1⟩ := Jvm.LawKit.callS X0 hx (y := (⟨"java/lang/Math", "addExact", "(JJ)J"⟩ : MethodName)) hown (mvT hZ (w_ hw 50 rfl)) (mvT hZ (w_ hw 51 rfl)) (mvT hZ (w_ hw 43 rfl)) (mvT hZ (w_ hw 52 rfl)) (by decide) (backOf (W := 0) (rax l Z a0 hw [] t z h0 n0 Z0 q) hZ (w_ hw 52 rfl) (w_ hw 43 rfl) (by decide) (by decide)) (g := (mkF m 2 #[.val (.ref a1), .val (.long t), .second, .val (.long z), .second, .unset] [(.long z), (.long t)])) rfl (by rw [hml]; rfl) (argsL := [(.long t), (.long z)]) (rest := []) (lenOf pd_1 rfl) rfl (by show 2 * 0 + _ ≤ _; exact Nat.le_of_eq rfl) (hb hby d9_2) (fun _ _ => ⟨rfl, e0, (by decide : 0 + 0 ≤ _), (by decide : 0 + 0 ≤ _)⟩)
  dsimp only [Pt.U, Pt.locs, Pt.cells, Pt.slots] at X1 l1 y1 z1 st1 hQ1
  subst l1 y1 z1
  obtain ⟨rfl, N1, e1⟩ := hQ1
  have Nf1 := Fr.app N0 N1
  refine Goes.via (S' := T1.setTop (mkF m 5 #[.val (.ref a1), .val (.long t), .second, .val (.long z), .second, .unset] [(.long (t + z))])) (st1) ?_
  exact Goes.retO X1 hx Bd.notSynchronized Bd.returns rfl (Or.inr (Or.inl ⟨rfl, rfl, _, rfl⟩)) (hb hby d9_5) (Nat.le_of_ble_eq_true rfl) (Nat.le_of_ble_eq_true rfl) ⟨rfl, Nf1, e1⟩
theorem own_ov0 (z : Int64) : ¬ (((0 : Int64) ^^^ ((0 : Int64) + z)) &&& (z ^^^ ((0 : Int64) + z))) < (0 : Int64) := by
  have e : ((0 : Int64) + z) = z := by simp
  rw [e, Int64.xor_self, Int64.and_zero]; decide
def Q_rfjt (Z : State) (a1 : Addr) (t : Int64) (z : Int64) (lo tu : Int64) (wr ck : Int32) (us ss : Value) (h0 : Heap) (n0 : Nat) : Option Value → Heap → List Loc → Prop := fun v h L => v = some (.long t) ∧ Fr n0 L ∧ Keep h0 h [a1] ∧ Exa Z h a1 "lambdary/statistics/IntegralSum" ∧ Fld Z h a1 "lambdary/statistics/IntegralSum" "low" "J" (.long z) ∧ Fld Z h a1 "lambdary/statistics/IntegralSum" "turns" "J" (.long tu) ∧ Fld Z h a1 "lambdary/statistics/IntegralSum" "wrapped" "Z" (.int (0 : Int32)) ∧ Fld Z h a1 "lambdary/statistics/IntegralSum" "checkInts" "Z" (.int ck)
set_option maxRecDepth 65536 in
set_option maxHeartbeats 40000000 in
theorem rfjt (l : Launch) (Z : State) (a0 : Array Value) (hw : ∀ d ∈ tables_1, d.before a0 Z = true) (ws : List Jvm.Cond) (a1 : Addr) (t : Int64) (z : Int64) (lo tu : Int64) (wr ck : Int32) (us ss : Value) (h0 : Heap) (n0 : Nat) (Z0 : n0 ≤ h0.size) (E1 : Exa Z h0 a1 "lambdary/statistics/IntegralSum") (F0 : Fld Z h0 a1 "lambdary/statistics/IntegralSum" "low" "J" (.long (0 : Int64))) (F1 : Fld Z h0 a1 "lambdary/statistics/IntegralSum" "turns" "J" (.long tu)) (F2 : Fld Z h0 a1 "lambdary/statistics/IntegralSum" "wrapped" "Z" (.int (0 : Int32))) (F3 : Fld Z h0 a1 "lambdary/statistics/IntegralSum" "checkInts" "Z" (.int ck)) (g1 : n0 ≤ a1) (q : ((t ^^^ (t + z)) &&& (z ^^^ (t + z))) < (0 : Int64)) (SU : Sta Z Z.heap "java/lang/Throwable" "UNASSIGNED_STACK" "[Ljava/lang/StackTraceElement;" us) (hus : us.isRef = true) (SQ : Sta Z Z.heap "java/lang/Throwable" "SUPPRESSED_SENTINEL" "Ljava/util/List;" ss) (hss : ss.isRef = true) (hl : l.stackTraces = true) (O0 : Old Z n0 h0) :
    MetFree l (⟨"lambdary/statistics/IntegralSum", "fold", "(JJ)J"⟩ : MethodName) (head1 (Jvm.Cond.codeWith (⟨"lambdary/statistics/IntegralSum", "fold", "(JJ)J"⟩ : MethodName) prog_120_method_8_code 6 (some .long) [((0 : Nat), (5 : Nat), (6 : Nat), (36 : Nat))] :: ws) ({ frames := 8, cells := 4, slots := 2820, locals := 130 } : Room)) (fun a U => a = #[(.ref a1), (.long t), (.long z)] ∧ Z.Warmed39 U.vm ∧ U.heap = h0) (fun _ _ bl s _ => s.vm.MethodsKnown ∧ s.vm.FramesKnown bl) (fun _ U oo U' => ∃ vv LL, oo = .returned vv ∧ (Q_rfjt Z a1 t z lo tu wr ck us ss h0 n0) vv U'.heap LL ∧ ReturnedEndW U oo U' LL ({ frames := 8, cells := 4, slots := 2820, locals := 130 } : Room).cells ({ frames := 8, cells := 4, slots := 2820, locals := 130 } : Room).slots) := by
  refine MetFree.of_bodySF (plainFor_of_name pn_9) hisWith ?_
  intro p e s m args below meth c s₁ Bd hml0 hP hK
  obtain ⟨rfl, hZ, hh⟩ := hP
  have hx := Bd.exec
  have hby := Bd.bytes
  have hml : c.maxLocals = 6 := hml0
  have hown : s.vm.findClass "lambdary/statistics/IntegralSum" = some m.cls := findClass_of_methodNamed Bd.named
  have hnm := (name_of_methodNamed Bd.named Bd.method).1
  have X0 : Stand p l e ({ frames := 8, cells := 4, slots := 2820, locals := 130 } : Room) s m #[(.ref a1), (.long t), (.long z)] below meth c s₁ [] 0 0 := Stand.of_body Bd
  have e0 : s₁.heap = h0 := by rw [← hh, Bd.state]; rfl
  have N0 := Fr.nil n0
  show Goes p e below (FinW s (Q_rfjt Z a1 t z lo tu wr ck us ss h0 n0) ({ frames := 8, cells := 4, slots := 2820, locals := 130 } : Room).cells ({ frames := 8, cells := 4, slots := 2820, locals := 130 } : Room).slots) _
  refine Goes.via (S' := s₁.setTop (mkF m 0 #[.val (.ref a1), .val (.long t), .second, .val (.long z), .second, .unset] [])) (fun tz kz => castTop (ef_9 m a1 t z ) kz) ?_
  refine Goes.via (S' := s₁.setTop (mkF m 2 #[.val (.ref a1), .val (.long t), .second, .val (.long z), .second, .unset] [(.long z), (.long t)])) (fun tz kz => ?_) ?_
  · show Steps p.tables e below (s₁.setTop (mkF m 0 #[.val (.ref a1), .val (.long t), .second, .val (.long z), .second, .unset] [])) _
    refine XS.lloadN X0.here hx rfl (hb hby d9_0) rfl ?_
    refine XS.lloadN X0.here hx rfl (hb hby d9_1) rfl ?_
    exact kz
  obtain ⟨xx, T1, Lx, ⟨Ex, Nx, Kx, gx⟩, X1, hS1, hZ, hown, st1⟩ := own_tcall (W := 0) X0 hx hZ (raxt l Z a0 hw [] t z us ss h0 n0 Z0 q SU hus SQ hss hl O0) hown (w_ hw 50 rfl) (w_ hw 51 rfl) (w_ hw 43 rfl) (w_ hw 52 rfl) (by decide) hK.1 hK.2 e0 (by decide) (by decide) (by decide : 0 + 4 ≤ _) (by decide : 0 + 2820 ≤ _) (g := (mkF m 2 #[.val (.ref a1), .val (.long t), .second, .val (.long z), .second, .unset] [(.long z), (.long t)])) rfl (by rw [hml]; rfl) (argsL := [(.long t), (.long z)]) (rest := []) (lenOf pd_1 rfl) rfl rfl (by show 2 * 0 + _ ≤ _; exact Nat.le_of_eq rfl) (hb hby d9_2)
  have hKo := hK
  have hK : (s.setVm T1.vm).vm.MethodsKnown ∧ (s.setVm T1.vm).vm.FramesKnown below := ⟨Vm.MethodsKnown.alikeC hS1.1.alike hKo.1, Vm.FramesKnown.alikeC hS1.1.alike hKo.2⟩
  obtain ⟨T2, X2, e2, st2⟩ := own_caught X1 hZ hown (own_exc Bd) rfl st1 (Nat.le_of_ble_eq_true rfl) (Nat.le_of_ble_eq_true rfl) (by decide) (w_ hw 122 rfl) Ex
  have Nf2 := Fr.app N0 Nx
  refine Goes.via (S' := T2.setTop (mkF m 6 #[.val (.ref a1), .val (.long t), .second, .val (.long z), .second, .unset] [(.ref xx)])) (fun _ kz => st2.trans kz) ?_
  have G_low := F0.keep Kx nin0
  have G_turns := F1.keep Kx nin0
  have G_wrapped := F2.keep Kx nin0
  have G_checkInts := F3.keep Kx nin0
  have G_E := E1.keep Kx
  have Z1 := Nat.le_trans Z0 Kx.1
  refine Goes.via (S' := T2.setTop (mkF m 10 #[.val (.ref a1), .val (.long t), .second, .val (.long z), .second, .val (.ref xx)] [(.long z), (.ref a1)])) (fun tz kz => ?_) ?_
  · show Steps p.tables e below (T2.setTop (mkF m 6 #[.val (.ref a1), .val (.long t), .second, .val (.long z), .second, .unset] [(.ref xx)])) _
    refine XS.astore X2.here hx rfl (hb hby d9_6) rfl rfl (l' := #[.val (.ref a1), .val (.long t), .second, .val (.long z), .second, .val (.ref xx)]) rfl ?_
    refine XS.aloadN X2.here hx rfl (hb hby d9_8) rfl rfl ?_
    refine XS.lloadN X2.here hx rfl (hb hby d9_9) rfl ?_
    exact kz
  obtain ⟨cq3, kq3, q3a, q3b, q3c⟩ := isOf hZ e2 G_E
  obtain ⟨_, _, ⟨T3, L3, k3, n3⟩, -, X3, ⟨Lc3, hQ3, l3, y3, z3⟩, st3⟩ := X2.virtualBack hx (y := (⟨"lambdary/statistics/IntegralSum", "accept", "(J)V"⟩ : MethodName)) (z := (⟨"lambdary/statistics/IntegralSum", "accept", "(J)V"⟩ : MethodName)) hown (mvT hZ (w_ hw 123 rfl)) (mvT hZ (w_ hw 124 rfl)) (notFace_of_selects (args := #[]) (mvT hZ (w_ hw 126 rfl))) (mvT hZ (w_ hw 126 rfl)) (mvT hZ (w_ hw 125 rfl)) (by decide) (backOfWith (W := 0) (rac l Z a0 hw [] a1 z (0 : Int64) tu (0 : Int32) ck T1.heap n0 Z1 G_E G_low G_turns G_wrapped G_checkInts g1 (own_ov0 z)) hZ (w_ hw 127 rfl) (w_ hw 9 rfl) (by decide) (by decide)) q3a q3c (g := (mkF m 10 #[.val (.ref a1), .val (.long t), .second, .val (.long z), .second, .val (.ref xx)] [(.long z), (.ref a1)])) rfl (by rw [hml]; rfl) (Steps.refl _) (argsL := [(.long z)]) (rest := []) (lenOf pd_2 rfl) rfl (by show 2 * 0 + _ ≤ _; exact Nat.le_of_eq rfl) (hb hby d9_10) (fun _ _ => ⟨rfl, e2, (by decide : 4 + 0 ≤ _), (by decide : 2820 + 0 ≤ _)⟩)
  dsimp only [Pt.U, Pt.locs, Pt.cells, Pt.slots] at X3 l3 y3 z3 st3 hQ3
  subst l3 y3 z3
  obtain ⟨rfl, N3, K3, E3_, Fa3, Fb3, Fc3, Fd3⟩ := hQ3
  have Nf3 := Fr.app Nf2 N3
  refine Goes.via (S' := T3.setTop (mkF m 13 #[.val (.ref a1), .val (.long t), .second, .val (.long z), .second, .val (.ref xx)] [])) (fun _ kz => st3.trans kz) ?_
  have Kf : Keep h0 T3.heap [a1] := ((Keep.refl h0 [a1]).trans Kx all0).trans K3 (fun _ q => Or.inl q)
  rw [show ((0 : Int64) + z) = z by simp] at Fa3
  refine Goes.via (S' := T3.setTop (mkF m 14 #[.val (.ref a1), .val (.long t), .second, .val (.long z), .second, .val (.ref xx)] [(.long t)])) (fun tz kz => ?_) ?_
  · show Steps p.tables e below (T3.setTop (mkF m 13 #[.val (.ref a1), .val (.long t), .second, .val (.long z), .second, .val (.ref xx)] [])) _
    refine XS.lloadN X3.here hx rfl (hb hby d9_13) rfl ?_
    exact kz
  exact Goes.retOW (s := s) (vm1 := T1.vm) X3 hx Bd.notSynchronized hS1 (Nat.le_trans (Nat.le_refl _) K3.1) Bd.returns rfl (Or.inr (Or.inl ⟨rfl, rfl, _, rfl⟩)) (hb hby d9_14) (Nat.le_of_ble_eq_true rfl) (Nat.le_of_ble_eq_true rfl) ⟨rfl, Nf3, Kf, E3_, Fa3, Fb3, Fc3, Fd3⟩
theorem d6_0 : decode prog_120_method_7_code 0 = .ok (.aload_n 0, 1) := by decide +kernel
theorem d6_1 : decode prog_120_method_7_code 1 = .ok (.getfield 7, 3) := by decide +kernel
theorem d6_4 : decode prog_120_method_7_code 4 = .ok (.ifCond .eq 11, 3) := by decide +kernel
theorem d6_7 : decode prog_120_method_7_code 7 = .ok (.aload_n 0, 1) := by decide +kernel
theorem d6_8 : decode prog_120_method_7_code 8 = .ok (.lload_n 1, 1) := by decide +kernel
theorem d6_9 : decode prog_120_method_7_code 9 = .ok (.iload_n 3, 1) := by decide +kernel
theorem d6_10 : decode prog_120_method_7_code 10 = .ok (.i2l, 1) := by decide +kernel
theorem d6_11 : decode prog_120_method_7_code 11 = .ok (.invokevirtual 68, 3) := by decide +kernel
theorem d6_14 : decode prog_120_method_7_code 14 = .ok (.lreturn, 1) := by decide +kernel
theorem d6_15 : decode prog_120_method_7_code 15 = .ok (.lload_n 1, 1) := by decide +kernel
theorem d6_16 : decode prog_120_method_7_code 16 = .ok (.iload_n 3, 1) := by decide +kernel
theorem d6_17 : decode prog_120_method_7_code 17 = .ok (.i2l, 1) := by decide +kernel
theorem d6_18 : decode prog_120_method_7_code 18 = .ok (.ladd, 1) := by decide +kernel
theorem d6_19 : decode prog_120_method_7_code 19 = .ok (.lreturn, 1) := by decide +kernel
theorem pn_6 : plainName "lambdary/statistics/IntegralSum" = true := by first | (simp [plainName, overriddenIn]; done) | decide +kernel
theorem ef_6 (m : MethodId) (x0 : Addr) (x1 : Int64) (x2 : Int32) : entryFrame m #[(.ref x0), (.long x1), (.int x2)] 4 = mkF m 0 #[.val (.ref x0), .val (.long x1), .second, .val (.int x2)] [] := by first | (simp [entryFrame, mkF, argsToLocals, Value.category]; done) | rfl
def Q_rfi_u (Z : State) (a1 : Addr) (t : Int64) (el : Int32) (lo tu : Int64) (wr ck : Int32) (h0 : Heap) (n0 : Nat) : Option Value → Heap → List Loc → Prop := fun v h L => v = some (.long (t + (el.toInt64))) ∧ Fr n0 L ∧ h = h0
set_option maxRecDepth 65536 in
set_option maxHeartbeats 40000000 in
theorem rfi_u (l : Launch) (Z : State) (a0 : Array Value) (hw : ∀ d ∈ tables_1, d.before a0 Z = true) (ws : List Jvm.Cond) (a1 : Addr) (t : Int64) (el : Int32) (lo tu : Int64) (wr ck : Int32) (h0 : Heap) (n0 : Nat) (Z0 : n0 ≤ h0.size) (E1 : Exa Z h0 a1 "lambdary/statistics/IntegralSum") (F0 : Fld Z h0 a1 "lambdary/statistics/IntegralSum" "low" "J" (.long lo)) (F1 : Fld Z h0 a1 "lambdary/statistics/IntegralSum" "turns" "J" (.long tu)) (F2 : Fld Z h0 a1 "lambdary/statistics/IntegralSum" "wrapped" "Z" (.int wr)) (F3 : Fld Z h0 a1 "lambdary/statistics/IntegralSum" "checkInts" "Z" (.int (0 : Int32))) (g1 : n0 ≤ a1) :
    own_M l Z (⟨"lambdary/statistics/IntegralSum", "fold", "(JI)J"⟩ : MethodName) (Jvm.Cond.code (⟨"lambdary/statistics/IntegralSum", "fold", "(JI)J"⟩ : MethodName) prog_120_method_7_code 4 (some .long)) ws ({ frames := 2, cells := 0, slots := 0, locals := 40 } : Room) #[(.ref a1), (.long t), (.int el)] h0 (Q_rfi_u Z a1 t el lo tu wr ck h0 n0) := by
  refine MetFree.of_bodySF (plainFor_of_name pn_6) hisR ?_
  intro p e s m args below meth c s₁ Bd hml0 hP hK
  obtain ⟨rfl, hZ, hh⟩ := hP
  have hx := Bd.exec
  have hby := Bd.bytes
  have hml : c.maxLocals = 4 := hml0
  have hown : s.vm.findClass "lambdary/statistics/IntegralSum" = some m.cls := findClass_of_methodNamed Bd.named
  have hnm := (name_of_methodNamed Bd.named Bd.method).1
  have X0 : Stand p l e ({ frames := 2, cells := 0, slots := 0, locals := 40 } : Room) s m #[(.ref a1), (.long t), (.int el)] below meth c s₁ [] 0 0 := Stand.of_body Bd
  have e0 : s₁.heap = h0 := by rw [← hh, Bd.state]; rfl
  have N0 := Fr.nil n0
  show Goes p e below (Fin s (Q_rfi_u Z a1 t el lo tu wr ck h0 n0) ({ frames := 2, cells := 0, slots := 0, locals := 40 } : Room).cells ({ frames := 2, cells := 0, slots := 0, locals := 40 } : Room).slots) _
  refine Goes.via (S' := s₁.setTop (mkF m 0 #[.val (.ref a1), .val (.long t), .second, .val (.int el)] [])) (fun tz kz => castTop (ef_6 m a1 t el ) kz) ?_
  refine Goes.via (S' := s₁.setTop (mkF m 1 #[.val (.ref a1), .val (.long t), .second, .val (.int el)] [(.ref a1)])) (fun tz kz => ?_) ?_
  · show Steps p.tables e below (s₁.setTop (mkF m 0 #[.val (.ref a1), .val (.long t), .second, .val (.int el)] [])) _
    refine XS.aloadN X0.here hx rfl (hb hby d6_0) rfl rfl ?_
    exact kz
  obtain ⟨T1, X1, e1, st1⟩ := getF X0 hx hZ hown (host := "") (Or.inl (w_ hw 16 rfl)) Via.refl e0 F3 (g := (mkF m 1 #[.val (.ref a1), .val (.long t), .second, .val (.int el)] [(.ref a1)])) rfl rfl (hb hby d6_1)
  refine Goes.via (S' := T1.setTop (mkF m 4 #[.val (.ref a1), .val (.long t), .second, .val (.int el)] [(.int (0 : Int32))])) st1 ?_
  refine Goes.via (S' := T1.setTop (mkF m 19 #[.val (.ref a1), .val (.long t), .second, .val (.int el)] [(.long (t + (el.toInt64)))])) (fun tz kz => ?_) ?_
  · show Steps p.tables e below (T1.setTop (mkF m 4 #[.val (.ref a1), .val (.long t), .second, .val (.int el)] [(.int (0 : Int32))])) _
    refine XS.ifYes X1.here hx rfl (pc0 := 4) (pc' := 15) rfl (hb hby d6_4) rfl ((if0 _ _).trans (teq (by first | decide | rfl)).1) (by decide) (by decide) ?_
    refine XS.lloadN X1.here hx rfl (hb hby d6_15) rfl ?_
    refine XS.iloadN X1.here hx rfl (hb hby d6_16) rfl ?_
    refine XS.i2l X1.here hx rfl (hb hby d6_17) rfl ?_
    show Steps p.tables e below (T1.setTop (mkF m 18 #[.val (.ref a1), .val (.long t), .second, .val (.int el)] [(.long (el.toInt64)), (.long t)])) _
    refine XS.ladd X1.here hx rfl (hb hby d6_18) rfl ?_
    exact kz
  exact Goes.retO X1 hx Bd.notSynchronized Bd.returns rfl (Or.inr (Or.inl ⟨rfl, rfl, _, rfl⟩)) (hb hby d6_19) (Nat.le_of_ble_eq_true rfl) (Nat.le_of_ble_eq_true rfl) ⟨rfl, N0, e1⟩
def Q_rfi_a (Z : State) (a1 : Addr) (t : Int64) (el : Int32) (lo tu : Int64) (wr ck : Int32) (h0 : Heap) (n0 : Nat) : Option Value → Heap → List Loc → Prop := fun v h L => v = some (.long (t + (el.toInt64))) ∧ Fr n0 L ∧ h = h0
set_option maxRecDepth 65536 in
set_option maxHeartbeats 40000000 in
theorem rfi_a (l : Launch) (Z : State) (a0 : Array Value) (hw : ∀ d ∈ tables_1, d.before a0 Z = true) (ws : List Jvm.Cond) (a1 : Addr) (t : Int64) (el : Int32) (lo tu : Int64) (wr ck : Int32) (h0 : Heap) (n0 : Nat) (Z0 : n0 ≤ h0.size) (E1 : Exa Z h0 a1 "lambdary/statistics/IntegralSum") (F0 : Fld Z h0 a1 "lambdary/statistics/IntegralSum" "low" "J" (.long lo)) (F1 : Fld Z h0 a1 "lambdary/statistics/IntegralSum" "turns" "J" (.long tu)) (F2 : Fld Z h0 a1 "lambdary/statistics/IntegralSum" "wrapped" "Z" (.int wr)) (F3 : Fld Z h0 a1 "lambdary/statistics/IntegralSum" "checkInts" "Z" (.int (1 : Int32))) (g1 : n0 ≤ a1) (q : ¬ ((t ^^^ (t + (el.toInt64))) &&& ((el.toInt64) ^^^ (t + (el.toInt64)))) < (0 : Int64)) :
    own_M l Z (⟨"lambdary/statistics/IntegralSum", "fold", "(JI)J"⟩ : MethodName) (Jvm.Cond.code (⟨"lambdary/statistics/IntegralSum", "fold", "(JI)J"⟩ : MethodName) prog_120_method_7_code 4 (some .long)) ws ({ frames := 2, cells := 0, slots := 0, locals := 40 } : Room) #[(.ref a1), (.long t), (.int el)] h0 (Q_rfi_a Z a1 t el lo tu wr ck h0 n0) := by
  refine MetFree.of_bodySF (plainFor_of_name pn_6) hisR ?_
  intro p e s m args below meth c s₁ Bd hml0 hP hK
  obtain ⟨rfl, hZ, hh⟩ := hP
  have hx := Bd.exec
  have hby := Bd.bytes
  have hml : c.maxLocals = 4 := hml0
  have hown : s.vm.findClass "lambdary/statistics/IntegralSum" = some m.cls := findClass_of_methodNamed Bd.named
  have hnm := (name_of_methodNamed Bd.named Bd.method).1
  have X0 : Stand p l e ({ frames := 2, cells := 0, slots := 0, locals := 40 } : Room) s m #[(.ref a1), (.long t), (.int el)] below meth c s₁ [] 0 0 := Stand.of_body Bd
  have e0 : s₁.heap = h0 := by rw [← hh, Bd.state]; rfl
  have N0 := Fr.nil n0
  show Goes p e below (Fin s (Q_rfi_a Z a1 t el lo tu wr ck h0 n0) ({ frames := 2, cells := 0, slots := 0, locals := 40 } : Room).cells ({ frames := 2, cells := 0, slots := 0, locals := 40 } : Room).slots) _
  refine Goes.via (S' := s₁.setTop (mkF m 0 #[.val (.ref a1), .val (.long t), .second, .val (.int el)] [])) (fun tz kz => castTop (ef_6 m a1 t el ) kz) ?_
  refine Goes.via (S' := s₁.setTop (mkF m 1 #[.val (.ref a1), .val (.long t), .second, .val (.int el)] [(.ref a1)])) (fun tz kz => ?_) ?_
  · show Steps p.tables e below (s₁.setTop (mkF m 0 #[.val (.ref a1), .val (.long t), .second, .val (.int el)] [])) _
    refine XS.aloadN X0.here hx rfl (hb hby d6_0) rfl rfl ?_
    exact kz
  obtain ⟨T1, X1, e1, st1⟩ := getF X0 hx hZ hown (host := "") (Or.inl (w_ hw 16 rfl)) Via.refl e0 F3 (g := (mkF m 1 #[.val (.ref a1), .val (.long t), .second, .val (.int el)] [(.ref a1)])) rfl rfl (hb hby d6_1)
  refine Goes.via (S' := T1.setTop (mkF m 4 #[.val (.ref a1), .val (.long t), .second, .val (.int el)] [(.int (1 : Int32))])) st1 ?_
  refine Goes.via (S' := T1.setTop (mkF m 11 #[.val (.ref a1), .val (.long t), .second, .val (.int el)] [(.long (el.toInt64)), (.long t), (.ref a1)])) (fun tz kz => ?_) ?_
  · show Steps p.tables e below (T1.setTop (mkF m 4 #[.val (.ref a1), .val (.long t), .second, .val (.int el)] [(.int (1 : Int32))])) _
    refine XS.ifNo X1.here hx rfl (hb hby d6_4) rfl ((if0 _ _).trans (feq (by first | decide | rfl)).1) ?_
    refine XS.aloadN X1.here hx rfl (hb hby d6_7) rfl rfl ?_
    refine XS.lloadN X1.here hx rfl (hb hby d6_8) rfl ?_
    refine XS.iloadN X1.here hx rfl (hb hby d6_9) rfl ?_
    show Steps p.tables e below (T1.setTop (mkF m 10 #[.val (.ref a1), .val (.long t), .second, .val (.int el)] [(.int el), (.long t), (.ref a1)])) _
    refine XS.i2l X1.here hx rfl (hb hby d6_10) rfl ?_
    exact kz
  obtain ⟨cq2, kq2, q2a, q2b, q2c⟩ := isOf hZ e1 E1
  obtain ⟨_, _, ⟨T2, L2, k2, n2⟩, -, X2, ⟨Lc2, hQ2, l2, y2, z2⟩, st2⟩ := X1.virtualBack hx (y := (⟨"lambdary/statistics/IntegralSum", "fold", "(JJ)J"⟩ : MethodName)) (z := (⟨"lambdary/statistics/IntegralSum", "fold", "(JJ)J"⟩ : MethodName)) hown (mvT hZ (w_ hw 45 rfl)) (mvT hZ (w_ hw 46 rfl)) (notFace_of_selects (args := #[]) (mvT hZ (w_ hw 48 rfl))) (mvT hZ (w_ hw 48 rfl)) (mvT hZ (w_ hw 47 rfl)) (by decide) (backOfWith (W := 0) (rfj l Z a0 hw [] a1 t (el.toInt64) lo tu wr (1 : Int32) h0 n0 Z0 E1 F0 F1 F2 F3 g1 q) hZ (w_ hw 49 rfl) (w_ hw 9 rfl) (by decide) (by decide)) q2a q2c (g := (mkF m 11 #[.val (.ref a1), .val (.long t), .second, .val (.int el)] [(.long (el.toInt64)), (.long t), (.ref a1)])) rfl (by rw [hml]; rfl) (Steps.refl _) (argsL := [(.long t), (.long (el.toInt64))]) (rest := []) (lenOf pd_1 rfl) rfl (by show 2 * 0 + _ ≤ _; exact Nat.le_of_eq rfl) (hb hby d6_11) (fun _ _ => ⟨rfl, e1, (by decide : 0 + 0 ≤ _), (by decide : 0 + 0 ≤ _)⟩)
  dsimp only [Pt.U, Pt.locs, Pt.cells, Pt.slots] at X2 l2 y2 z2 st2 hQ2
  subst l2 y2 z2
  obtain ⟨rfl, N2, e2⟩ := hQ2
  have Nf2 := Fr.app N0 N2
  refine Goes.via (S' := T2.setTop (mkF m 14 #[.val (.ref a1), .val (.long t), .second, .val (.int el)] [(.long (t + (el.toInt64)))])) (fun _ kz => st2.trans kz) ?_
  exact Goes.retO X2 hx Bd.notSynchronized Bd.returns rfl (Or.inr (Or.inl ⟨rfl, rfl, _, rfl⟩)) (hb hby d6_14) (Nat.le_of_ble_eq_true rfl) (Nat.le_of_ble_eq_true rfl) ⟨rfl, Nf2, e2⟩
def Q_rfi_t (Z : State) (a1 : Addr) (t : Int64) (el : Int32) (lo tu : Int64) (wr ck : Int32) (us ss : Value) (h0 : Heap) (n0 : Nat) : Option Value → Heap → List Loc → Prop := fun v h L => v = some (.long t) ∧ Fr n0 L ∧ Keep h0 h [a1] ∧ Exa Z h a1 "lambdary/statistics/IntegralSum" ∧ Fld Z h a1 "lambdary/statistics/IntegralSum" "low" "J" (.long (el.toInt64)) ∧ Fld Z h a1 "lambdary/statistics/IntegralSum" "turns" "J" (.long tu) ∧ Fld Z h a1 "lambdary/statistics/IntegralSum" "wrapped" "Z" (.int (0 : Int32)) ∧ Fld Z h a1 "lambdary/statistics/IntegralSum" "checkInts" "Z" (.int (1 : Int32))
set_option maxRecDepth 65536 in
set_option maxHeartbeats 40000000 in
theorem rfi_t (l : Launch) (Z : State) (a0 : Array Value) (hw : ∀ d ∈ tables_1, d.before a0 Z = true) (ws : List Jvm.Cond) (a1 : Addr) (t : Int64) (el : Int32) (lo tu : Int64) (wr ck : Int32) (us ss : Value) (h0 : Heap) (n0 : Nat) (Z0 : n0 ≤ h0.size) (E1 : Exa Z h0 a1 "lambdary/statistics/IntegralSum") (F0 : Fld Z h0 a1 "lambdary/statistics/IntegralSum" "low" "J" (.long (0 : Int64))) (F1 : Fld Z h0 a1 "lambdary/statistics/IntegralSum" "turns" "J" (.long tu)) (F2 : Fld Z h0 a1 "lambdary/statistics/IntegralSum" "wrapped" "Z" (.int (0 : Int32))) (F3 : Fld Z h0 a1 "lambdary/statistics/IntegralSum" "checkInts" "Z" (.int (1 : Int32))) (g1 : n0 ≤ a1) (q : ((t ^^^ (t + (el.toInt64))) &&& ((el.toInt64) ^^^ (t + (el.toInt64)))) < (0 : Int64)) (SU : Sta Z Z.heap "java/lang/Throwable" "UNASSIGNED_STACK" "[Ljava/lang/StackTraceElement;" us) (hus : us.isRef = true) (SQ : Sta Z Z.heap "java/lang/Throwable" "SUPPRESSED_SENTINEL" "Ljava/util/List;" ss) (hss : ss.isRef = true) (hl : l.stackTraces = true) (O0 : Old Z n0 h0) :
    MetFree l (⟨"lambdary/statistics/IntegralSum", "fold", "(JI)J"⟩ : MethodName) (head1 (Jvm.Cond.code (⟨"lambdary/statistics/IntegralSum", "fold", "(JI)J"⟩ : MethodName) prog_120_method_7_code 4 (some .long) :: ws) ({ frames := 9, cells := 4, slots := 2820, locals := 150 } : Room)) (fun a U => a = #[(.ref a1), (.long t), (.int el)] ∧ Z.Warmed39 U.vm ∧ U.heap = h0) (fun _ _ bl s _ => s.vm.MethodsKnown ∧ s.vm.FramesKnown bl) (fun _ U oo U' => ∃ vv LL, oo = .returned vv ∧ (Q_rfi_t Z a1 t el lo tu wr ck us ss h0 n0) vv U'.heap LL ∧ ReturnedEndW U oo U' LL ({ frames := 9, cells := 4, slots := 2820, locals := 150 } : Room).cells ({ frames := 9, cells := 4, slots := 2820, locals := 150 } : Room).slots) := by
  refine MetFree.of_bodySF (plainFor_of_name pn_6) hisR ?_
  intro p e s m args below meth c s₁ Bd hml0 hP hK
  obtain ⟨rfl, hZ, hh⟩ := hP
  have hx := Bd.exec
  have hby := Bd.bytes
  have hml : c.maxLocals = 4 := hml0
  have hown : s.vm.findClass "lambdary/statistics/IntegralSum" = some m.cls := findClass_of_methodNamed Bd.named
  have hnm := (name_of_methodNamed Bd.named Bd.method).1
  have X0 : Stand p l e ({ frames := 9, cells := 4, slots := 2820, locals := 150 } : Room) s m #[(.ref a1), (.long t), (.int el)] below meth c s₁ [] 0 0 := Stand.of_body Bd
  have e0 : s₁.heap = h0 := by rw [← hh, Bd.state]; rfl
  have N0 := Fr.nil n0
  show Goes p e below (FinW s (Q_rfi_t Z a1 t el lo tu wr ck us ss h0 n0) ({ frames := 9, cells := 4, slots := 2820, locals := 150 } : Room).cells ({ frames := 9, cells := 4, slots := 2820, locals := 150 } : Room).slots) _
  refine Goes.via (S' := s₁.setTop (mkF m 0 #[.val (.ref a1), .val (.long t), .second, .val (.int el)] [])) (fun tz kz => castTop (ef_6 m a1 t el ) kz) ?_
  refine Goes.via (S' := s₁.setTop (mkF m 1 #[.val (.ref a1), .val (.long t), .second, .val (.int el)] [(.ref a1)])) (fun tz kz => ?_) ?_
  · show Steps p.tables e below (s₁.setTop (mkF m 0 #[.val (.ref a1), .val (.long t), .second, .val (.int el)] [])) _
    refine XS.aloadN X0.here hx rfl (hb hby d6_0) rfl rfl ?_
    exact kz
  obtain ⟨T1, X1, e1, st1⟩ := getF X0 hx hZ hown (host := "") (Or.inl (w_ hw 16 rfl)) Via.refl e0 F3 (g := (mkF m 1 #[.val (.ref a1), .val (.long t), .second, .val (.int el)] [(.ref a1)])) rfl rfl (hb hby d6_1)
  refine Goes.via (S' := T1.setTop (mkF m 4 #[.val (.ref a1), .val (.long t), .second, .val (.int el)] [(.int (1 : Int32))])) st1 ?_
  refine Goes.via (S' := T1.setTop (mkF m 11 #[.val (.ref a1), .val (.long t), .second, .val (.int el)] [(.long (el.toInt64)), (.long t), (.ref a1)])) (fun tz kz => ?_) ?_
  · show Steps p.tables e below (T1.setTop (mkF m 4 #[.val (.ref a1), .val (.long t), .second, .val (.int el)] [(.int (1 : Int32))])) _
    refine XS.ifNo X1.here hx rfl (hb hby d6_4) rfl ((if0 _ _).trans (feq (by first | decide | rfl)).1) ?_
    refine XS.aloadN X1.here hx rfl (hb hby d6_7) rfl rfl ?_
    refine XS.lloadN X1.here hx rfl (hb hby d6_8) rfl ?_
    refine XS.iloadN X1.here hx rfl (hb hby d6_9) rfl ?_
    show Steps p.tables e below (T1.setTop (mkF m 10 #[.val (.ref a1), .val (.long t), .second, .val (.int el)] [(.int el), (.long t), (.ref a1)])) _
    refine XS.i2l X1.here hx rfl (hb hby d6_10) rfl ?_
    exact kz
  obtain ⟨cq2, kq2, q2a, q2b, q2c⟩ := isOf hZ e1 E1
  obtain ⟨_, _, ⟨T2, L2, k2, n2⟩, -, X2, hs2, gs2, ⟨Lc2, hQ2, l2, y2, z2⟩, st2⟩ := Stand.virtualBackS (show Stand p l e _ (s.setVm s.vm) m _ below meth c _ _ _ _ from X1) hx (y := (⟨"lambdary/statistics/IntegralSum", "fold", "(JJ)J"⟩ : MethodName)) (z := (⟨"lambdary/statistics/IntegralSum", "fold", "(JJ)J"⟩ : MethodName)) hown (mvT hZ (w_ hw 45 rfl)) (mvT hZ (w_ hw 46 rfl)) (notFace_of_selects (args := #[]) (mvT hZ (w_ hw 48 rfl))) (mvT hZ (w_ hw 48 rfl)) (mvT hZ (w_ hw 47 rfl)) (by decide) (own_backW (W := 0) (rfjt l Z a0 hw [] a1 t (el.toInt64) (0 : Int64) tu (0 : Int32) (1 : Int32) us ss h0 n0 Z0 E1 F0 F1 F2 F3 g1 q SU hus SQ hss hl O0) hZ (w_ hw 49 rfl) (w_ hw 9 rfl) (by decide) (by decide) hK.1 hK.2) q2a q2c (g := (mkF m 11 #[.val (.ref a1), .val (.long t), .second, .val (.int el)] [(.long (el.toInt64)), (.long t), (.ref a1)])) rfl (by rw [hml]; rfl) (Steps.refl _) (argsL := [(.long t), (.long (el.toInt64))]) (rest := []) (lenOf pd_1 rfl) rfl (by show 2 * 0 + _ ≤ _; exact Nat.le_of_eq rfl) (hb hby d6_11) (fun _ _ => ⟨rfl, e1, (by decide : 0 + 4 ≤ _), (by decide : 0 + 2820 ≤ _)⟩)
  dsimp only [Pt.U, Pt.locs, Pt.cells, Pt.slots] at X2 l2 y2 z2 st2 hQ2 hs2 gs2
  subst l2 y2 z2
  obtain ⟨rfl, N2, K2, E2_, Fa2, Fb2, Fc2, Fd2⟩ := hQ2
  rw [e1] at gs2
  have hS2 : s.Since T2.vm T2.heap.size := own_fold ((State.WarmedH.refl s).since 0) (Nat.zero_le _) hs2 gs2
  have hK : (s.setVm T2.vm).vm.MethodsKnown ∧ (s.setVm T2.vm).vm.FramesKnown below := ⟨Vm.MethodsKnown.alikeC hs2.1.alike hK.1, Vm.FramesKnown.alikeC hs2.1.alike hK.2⟩
  have hZ : Z.Warmed39 (s.setVm T2.vm).vm := State.Warmed39.trans (t := s.setVm s.vm) hZ hs2.1
  have hown : (s.setVm T2.vm).vm.findClass "lambdary/statistics/IntegralSum" = some m.cls := by rw [show (s.setVm T2.vm).vm = T2.vm from rfl, hs2.1.alike.findClass]; exact hown
  have Nf2 := Fr.app N0 N2
  refine Goes.via (S' := T2.setTop (mkF m 14 #[.val (.ref a1), .val (.long t), .second, .val (.int el)] [(.long t)])) (fun _ kz => st2.trans kz) ?_
  exact Goes.retOW (s := s) (vm1 := T2.vm) X2 hx Bd.notSynchronized hS2 (Nat.le_refl _) Bd.returns rfl (Or.inr (Or.inl ⟨rfl, rfl, _, rfl⟩)) (hb hby d6_14) (Nat.le_of_ble_eq_true rfl) (Nat.le_of_ble_eq_true rfl) ⟨rfl, Nf2, K2, E2_, Fa2, Fb2, Fc2, Fd2⟩
theorem d8_0 : decode jdk_29_method_69_code 0 = .ok (.iload_n 0, 1) := by decide +kernel
theorem d8_1 : decode jdk_29_method_69_code 1 = .ok (.iload_n 1, 1) := by decide +kernel
theorem d8_2 : decode jdk_29_method_69_code 2 = .ok (.if_icmp .gt 7, 3) := by decide +kernel
theorem d8_5 : decode jdk_29_method_69_code 5 = .ok (.iload_n 0, 1) := by decide +kernel
theorem d8_6 : decode jdk_29_method_69_code 6 = .ok (.goto 4, 3) := by decide +kernel
theorem d8_9 : decode jdk_29_method_69_code 9 = .ok (.iload_n 1, 1) := by decide +kernel
theorem d8_10 : decode jdk_29_method_69_code 10 = .ok (.ireturn, 1) := by decide +kernel
theorem pn_8 : plainFor (⟨"java/lang/Math", "min", "(II)I"⟩ : MethodName) = true := by decide +kernel
theorem ef_8 (m : MethodId) (x0 : Int32) (x1 : Int32) : entryFrame m #[(.int x0), (.int x1)] 2 = mkF m 0 #[.val (.int x0), .val (.int x1)] [] := by first | (simp [entryFrame, mkF, argsToLocals, Value.category]; done) | rfl
def Q_rmn (Z : State) (x : Int32) (y : Int32)  (h0 : Heap) (n0 : Nat) : Option Value → Heap → List Loc → Prop := fun v h L => ∃ r, v = some (.int r) ∧ Fr n0 L ∧ h = h0
set_option maxRecDepth 65536 in
set_option maxHeartbeats 40000000 in
theorem rmn (l : Launch) (Z : State) (a0 : Array Value) (hw : ∀ d ∈ tables_1, d.before a0 Z = true) (ws : List Jvm.Cond) (x : Int32) (y : Int32)  (h0 : Heap) (n0 : Nat) (Z0 : n0 ≤ h0.size) :
    own_M l Z (⟨"java/lang/Math", "min", "(II)I"⟩ : MethodName) (Jvm.Cond.code (⟨"java/lang/Math", "min", "(II)I"⟩ : MethodName) jdk_29_method_69_code 2 (some .int)) ws ({ frames := 0, cells := 0, slots := 0, locals := 0 } : Room) #[(.int x), (.int y)] h0 (Q_rmn Z x y h0 n0) := by
  refine MetFree.of_bodySF (Jvm.Free.JP.mathPlain rfl (by decide +kernel)) hisR ?_
  intro p e s m args below meth c s₁ Bd hml0 hP hK
  obtain ⟨rfl, hZ, hh⟩ := hP
  have hx := Bd.exec
  have hby := Bd.bytes
  have hml : c.maxLocals = 2 := hml0
  have hown : s.vm.findClass "java/lang/Math" = some m.cls := findClass_of_methodNamed Bd.named
  have hnm := (name_of_methodNamed Bd.named Bd.method).1
  have X0 : Stand p l e ({ frames := 0, cells := 0, slots := 0, locals := 0 } : Room) s m #[(.int x), (.int y)] below meth c s₁ [] 0 0 := Stand.of_body Bd
  have e0 : s₁.heap = h0 := by rw [← hh, Bd.state]; rfl
  have N0 := Fr.nil n0
  show Goes p e below (Fin s (Q_rmn Z x y h0 n0) ({ frames := 0, cells := 0, slots := 0, locals := 0 } : Room).cells ({ frames := 0, cells := 0, slots := 0, locals := 0 } : Room).slots) _
  refine Goes.via (S' := s₁.setTop (mkF m 0 #[.val (.int x), .val (.int y)] [])) (fun tz kz => castTop (ef_8 m x y ) kz) ?_
  refine Goes.via (S' := s₁.setTop (mkF m 2 #[.val (.int x), .val (.int y)] [(.int y), (.int x)])) (fun tz kz => ?_) ?_
  · show Steps p.tables e below (s₁.setTop (mkF m 0 #[.val (.int x), .val (.int y)] [])) _
    refine XS.iloadN X0.here hx rfl (hb hby d8_0) rfl ?_
    refine XS.iloadN X0.here hx rfl (hb hby d8_1) rfl ?_
    exact kz
  obtain ⟨r2, hr2⟩ : ∃ zz_ : Int32, zz_ = (if y < x then y else x) := ⟨_, rfl⟩
  have j2_3 : ∀ t, Steps p.tables e below (s₁.setTop (mkF m 10 #[.val (.int x), .val (.int y)] [(.int r2)])) t → Steps p.tables e below (s₁.setTop (mkF m 2 #[.val (.int x), .val (.int y)] [(.int y), (.int x)])) t := by
    intro tz kz
    by_cases hc2_1 : y < x
    · rw [if_pos hc2_1] at hr2
      show Steps p.tables e below (s₁.setTop (mkF m 2 #[.val (.int x), .val (.int y)] [(.int y), (.int x)])) _
      refine XS.icmpYes X0.here hx rfl (pc0 := 2) (pc' := 9) rfl (hb hby d8_2) rfl (tlt hc2_1).2.2.1 (by decide) (by decide) ?_
      refine XS.iloadN X0.here hx rfl (hb hby d8_9) rfl ?_
      subst hr2
      exact kz
    · rw [if_neg hc2_1] at hr2
      show Steps p.tables e below (s₁.setTop (mkF m 2 #[.val (.int x), .val (.int y)] [(.int y), (.int x)])) _
      refine XS.icmpNo X0.here hx rfl (hb hby d8_2) rfl (flt hc2_1).2.2.1 ?_
      refine XS.iloadN X0.here hx rfl (hb hby d8_5) rfl ?_
      refine XS.goto X0.here hx rfl (pc0 := 6) (pc' := 10) rfl (hb hby d8_6) (by decide) (by decide) ?_
      subst hr2
      exact kz
  refine Goes.via j2_3 ?_
  exact Goes.retI X0 hx Bd.notSynchronized Bd.returns (hb hby d8_10) (Nat.le_of_ble_eq_true rfl) (Nat.le_of_ble_eq_true rfl) ⟨_, rfl, N0, e0⟩
theorem d1_0 : decode method_3_code 0 = .ok (.iload_n 0, 1) := by decide +kernel
theorem d1_1 : decode method_3_code 1 = .ok (.ifCond .ne 5, 3) := by decide +kernel
theorem d1_4 : decode method_3_code 4 = .ok (.lload_n 2, 1) := by decide +kernel
theorem d1_5 : decode method_3_code 5 = .ok (.lreturn, 1) := by decide +kernel
theorem d1_6 : decode method_3_code 6 = .ok (.iload_n 0, 1) := by decide +kernel
theorem d1_7 : decode method_3_code 7 = .ok (.iconst 1, 1) := by decide +kernel
theorem d1_8 : decode method_3_code 8 = .ok (.if_icmp .ne 14, 3) := by decide +kernel
theorem d1_11 : decode method_3_code 11 = .ok (.ldc2_w 40, 3) := by decide +kernel
theorem d1_14 : decode method_3_code 14 = .ok (.iload_n 1, 1) := by decide +kernel
theorem d1_15 : decode method_3_code 15 = .ok (.iconst 2, 1) := by decide +kernel
theorem d1_16 : decode method_3_code 16 = .ok (.invokestatic 42, 3) := by decide +kernel
theorem d1_19 : decode method_3_code 19 = .ok (.i2l, 1) := by decide +kernel
theorem d1_20 : decode method_3_code 20 = .ok (.ladd, 1) := by decide +kernel
theorem d1_21 : decode method_3_code 21 = .ok (.lreturn, 1) := by decide +kernel
theorem d1_22 : decode method_3_code 22 = .ok (.iload_n 0, 1) := by decide +kernel
theorem d1_23 : decode method_3_code 23 = .ok (.iconst 2, 1) := by decide +kernel
theorem d1_24 : decode method_3_code 24 = .ok (.if_icmp .ne 7, 3) := by decide +kernel
theorem d1_27 : decode method_3_code 27 = .ok (.ldc2_w 36, 3) := by decide +kernel
theorem d1_30 : decode method_3_code 30 = .ok (.lreturn, 1) := by decide +kernel
theorem d1_31 : decode method_3_code 31 = .ok (.lload_n 2, 1) := by decide +kernel
theorem d1_32 : decode method_3_code 32 = .ok (.ldc2_w 40, 3) := by decide +kernel
theorem d1_35 : decode method_3_code 35 = .ok (.land, 1) := by decide +kernel
theorem d1_36 : decode method_3_code 36 = .ok (.lreturn, 1) := by decide +kernel
theorem pn_1 : plainName "lambdary/statistics/IntegralSumBeginPinLaw" = true := by first | (simp [plainName, overriddenIn]; done) | decide +kernel
theorem ef_1 (m : MethodId) (x0 : Int32) (x1 : Int32) (x2 : Int64) : entryFrame m #[(.int x0), (.int x1), (.long x2)] 4 = mkF m 0 #[.val (.int x0), .val (.int x1), .val (.long x2), .second] [] := by first | (simp [entryFrame, mkF, argsToLocals, Value.category]; done) | rfl
def Q_rpa (Z : State) (x : Int32) (y : Int32) (a : Int64)  (h0 : Heap) (n0 : Nat) : Option Value → Heap → List Loc → Prop := fun v h L => ∃ r, v = some (.long r) ∧ Fr n0 L ∧ h = h0
set_option maxRecDepth 65536 in
set_option maxHeartbeats 40000000 in
theorem rpa (l : Launch) (Z : State) (a0 : Array Value) (hw : ∀ d ∈ tables_1, d.before a0 Z = true) (ws : List Jvm.Cond) (x : Int32) (y : Int32) (a : Int64)  (h0 : Heap) (n0 : Nat) (Z0 : n0 ≤ h0.size) :
    own_M l Z (⟨"lambdary/statistics/IntegralSumBeginPinLaw", "pickAtMost", "(IIJ)J"⟩ : MethodName) (Jvm.Cond.code (⟨"lambdary/statistics/IntegralSumBeginPinLaw", "pickAtMost", "(IIJ)J"⟩ : MethodName) method_3_code 4 (some .long)) ws ({ frames := 1, cells := 0, slots := 0, locals := 16 } : Room) #[(.int x), (.int y), (.long a)] h0 (Q_rpa Z x y a h0 n0) := by
  refine MetFree.of_bodySF (plainFor_of_name pn_1) hisR ?_
  intro p e s m args below meth c s₁ Bd hml0 hP hK
  obtain ⟨rfl, hZ, hh⟩ := hP
  have hx := Bd.exec
  have hby := Bd.bytes
  have hml : c.maxLocals = 4 := hml0
  have hown : s.vm.findClass "lambdary/statistics/IntegralSumBeginPinLaw" = some m.cls := findClass_of_methodNamed Bd.named
  have hnm := (name_of_methodNamed Bd.named Bd.method).1
  have X0 : Stand p l e ({ frames := 1, cells := 0, slots := 0, locals := 16 } : Room) s m #[(.int x), (.int y), (.long a)] below meth c s₁ [] 0 0 := Stand.of_body Bd
  have e0 : s₁.heap = h0 := by rw [← hh, Bd.state]; rfl
  have N0 := Fr.nil n0
  show Goes p e below (Fin s (Q_rpa Z x y a h0 n0) ({ frames := 1, cells := 0, slots := 0, locals := 16 } : Room).cells ({ frames := 1, cells := 0, slots := 0, locals := 16 } : Room).slots) _
  refine Goes.via (S' := s₁.setTop (mkF m 0 #[.val (.int x), .val (.int y), .val (.long a), .second] [])) (fun tz kz => castTop (ef_1 m x y a ) kz) ?_
  refine Goes.via (S' := s₁.setTop (mkF m 1 #[.val (.int x), .val (.int y), .val (.long a), .second] [(.int x)])) (fun tz kz => ?_) ?_
  · show Steps p.tables e below (s₁.setTop (mkF m 0 #[.val (.int x), .val (.int y), .val (.long a), .second] [])) _
    refine XS.iloadN X0.here hx rfl (hb hby d1_0) rfl ?_
    exact kz
  by_cases hc1_1 : x = (0 : Int32)
  · refine Goes.via (S' := s₁.setTop (mkF m 5 #[.val (.int x), .val (.int y), .val (.long a), .second] [(.long a)])) (fun tz kz => ?_) ?_
    · show Steps p.tables e below (s₁.setTop (mkF m 1 #[.val (.int x), .val (.int y), .val (.long a), .second] [(.int x)])) _
      refine XS.ifNo X0.here hx rfl (hb hby d1_1) rfl ((if0 _ _).trans (teq hc1_1).2) ?_
      refine XS.lloadN X0.here hx rfl (hb hby d1_4) rfl ?_
      exact kz
    exact Goes.retO X0 hx Bd.notSynchronized Bd.returns rfl (Or.inr (Or.inl ⟨rfl, rfl, _, rfl⟩)) (hb hby d1_5) (Nat.le_of_ble_eq_true rfl) (Nat.le_of_ble_eq_true rfl) ⟨_, rfl, N0, e0⟩
  · refine Goes.via (S' := s₁.setTop (mkF m 8 #[.val (.int x), .val (.int y), .val (.long a), .second] [(.int (1 : Int32)), (.int x)])) (fun tz kz => ?_) ?_
    · show Steps p.tables e below (s₁.setTop (mkF m 1 #[.val (.int x), .val (.int y), .val (.long a), .second] [(.int x)])) _
      refine XS.ifYes X0.here hx rfl (pc0 := 1) (pc' := 6) rfl (hb hby d1_1) rfl ((if0 _ _).trans (feq hc1_1).2) (by decide) (by decide) ?_
      refine XS.iloadN X0.here hx rfl (hb hby d1_6) rfl ?_
      refine XS.iconst X0.here hx rfl (hb hby d1_7) ?_
      exact kz
    by_cases hc8_2 : x = (1 : Int32)
    · refine Goes.via (S' := s₁.setTop (mkF m 16 #[.val (.int x), .val (.int y), .val (.long a), .second] [(.int (2 : Int32)), (.int y), (.long (4294967295 : Int64))])) (fun tz kz => ?_) ?_
      · show Steps p.tables e below (s₁.setTop (mkF m 8 #[.val (.int x), .val (.int y), .val (.long a), .second] [(.int (1 : Int32)), (.int x)])) _
        refine XS.icmpNo X0.here hx rfl (hb hby d1_8) rfl (teq hc8_2).2 ?_
        refine X0.ldc2Long hx hown (mvT hZ (w_ hw 40 rfl)) (g := (mkF m 11 #[.val (.int x), .val (.int y), .val (.long a), .second] [])) rfl (hb hby d1_11) _ ?_
        refine XS.iloadN X0.here hx rfl (hb hby d1_14) rfl ?_
        refine XS.iconst X0.here hx rfl (hb hby d1_15) ?_
        exact kz
      obtain ⟨_, _, ⟨T3, L3, k3, n3⟩, -, X3, ⟨Lc3, hQ3, l3, y3, z3⟩, st3⟩ := Jvm.LawKit.callS X0 hx (y := (⟨"java/lang/Math", "min", "(II)I"⟩ : MethodName)) hown (mvT hZ (w_ hw 41 rfl)) (mvT hZ (w_ hw 42 rfl)) (mvT hZ (w_ hw 43 rfl)) (mvT hZ (w_ hw 44 rfl)) (by decide) (backOf (W := 2) (rmn l Z a0 hw [] y (2 : Int32) h0 n0 Z0) hZ (w_ hw 44 rfl) (w_ hw 43 rfl) (by decide) (by decide)) (g := (mkF m 16 #[.val (.int x), .val (.int y), .val (.long a), .second] [(.int (2 : Int32)), (.int y), (.long (4294967295 : Int64))])) rfl (by rw [hml]; rfl) (argsL := [(.int y), (.int (2 : Int32))]) (rest := [(.long (4294967295 : Int64))]) (lenOf pd_3 rfl) rfl (by show 2 * 0 + _ ≤ _; exact Nat.le_of_eq rfl) (hb hby d1_16) (fun _ _ => ⟨rfl, e0, (by decide : 0 + 0 ≤ _), (by decide : 0 + 0 ≤ _)⟩)
      dsimp only [Pt.U, Pt.locs, Pt.cells, Pt.slots] at X3 l3 y3 z3 st3 hQ3
      subst l3 y3 z3
      obtain ⟨rr, rfl, N3, e3⟩ := hQ3
      have Nf3 := Fr.app N0 N3
      refine Goes.via (S' := T3.setTop (mkF m 19 #[.val (.int x), .val (.int y), .val (.long a), .second] [(.int rr), (.long (4294967295 : Int64))])) (st3) ?_
      refine Goes.via (S' := T3.setTop (mkF m 21 #[.val (.int x), .val (.int y), .val (.long a), .second] [(.long ((4294967295 : Int64) + (rr.toInt64)))])) (fun tz kz => ?_) ?_
      · show Steps p.tables e below (T3.setTop (mkF m 19 #[.val (.int x), .val (.int y), .val (.long a), .second] [(.int rr), (.long (4294967295 : Int64))])) _
        refine XS.i2l X3.here hx rfl (hb hby d1_19) rfl ?_
        refine XS.ladd X3.here hx rfl (hb hby d1_20) rfl ?_
        exact kz
      exact Goes.retO X3 hx Bd.notSynchronized Bd.returns rfl (Or.inr (Or.inl ⟨rfl, rfl, _, rfl⟩)) (hb hby d1_21) (Nat.le_of_ble_eq_true rfl) (Nat.le_of_ble_eq_true rfl) ⟨_, rfl, Nf3, e3⟩
    · refine Goes.via (S' := s₁.setTop (mkF m 24 #[.val (.int x), .val (.int y), .val (.long a), .second] [(.int (2 : Int32)), (.int x)])) (fun tz kz => ?_) ?_
      · show Steps p.tables e below (s₁.setTop (mkF m 8 #[.val (.int x), .val (.int y), .val (.long a), .second] [(.int (1 : Int32)), (.int x)])) _
        refine XS.icmpYes X0.here hx rfl (pc0 := 8) (pc' := 22) rfl (hb hby d1_8) rfl (feq hc8_2).2 (by decide) (by decide) ?_
        refine XS.iloadN X0.here hx rfl (hb hby d1_22) rfl ?_
        refine XS.iconst X0.here hx rfl (hb hby d1_23) ?_
        exact kz
      by_cases hc24_4 : x = (2 : Int32)
      · refine Goes.via (S' := s₁.setTop (mkF m 30 #[.val (.int x), .val (.int y), .val (.long a), .second] [(.long (9223372036854775807 : Int64))])) (fun tz kz => ?_) ?_
        · show Steps p.tables e below (s₁.setTop (mkF m 24 #[.val (.int x), .val (.int y), .val (.long a), .second] [(.int (2 : Int32)), (.int x)])) _
          refine XS.icmpNo X0.here hx rfl (hb hby d1_24) rfl (teq hc24_4).2 ?_
          refine X0.ldc2Long hx hown (mvT hZ (w_ hw 39 rfl)) (g := (mkF m 27 #[.val (.int x), .val (.int y), .val (.long a), .second] [])) rfl (hb hby d1_27) _ ?_
          exact kz
        exact Goes.retO X0 hx Bd.notSynchronized Bd.returns rfl (Or.inr (Or.inl ⟨rfl, rfl, _, rfl⟩)) (hb hby d1_30) (Nat.le_of_ble_eq_true rfl) (Nat.le_of_ble_eq_true rfl) ⟨_, rfl, N0, e0⟩
      · refine Goes.via (S' := s₁.setTop (mkF m 36 #[.val (.int x), .val (.int y), .val (.long a), .second] [(.long (a &&& (4294967295 : Int64)))])) (fun tz kz => ?_) ?_
        · show Steps p.tables e below (s₁.setTop (mkF m 24 #[.val (.int x), .val (.int y), .val (.long a), .second] [(.int (2 : Int32)), (.int x)])) _
          refine XS.icmpYes X0.here hx rfl (pc0 := 24) (pc' := 31) rfl (hb hby d1_24) rfl (feq hc24_4).2 (by decide) (by decide) ?_
          refine XS.lloadN X0.here hx rfl (hb hby d1_31) rfl ?_
          refine X0.ldc2Long hx hown (mvT hZ (w_ hw 40 rfl)) (g := (mkF m 32 #[.val (.int x), .val (.int y), .val (.long a), .second] [(.long a)])) rfl (hb hby d1_32) _ ?_
          refine XS.land X0.here hx rfl (hb hby d1_35) rfl ?_
          exact kz
        exact Goes.retO X0 hx Bd.notSynchronized Bd.returns rfl (Or.inr (Or.inl ⟨rfl, rfl, _, rfl⟩)) (hb hby d1_36) (Nat.le_of_ble_eq_true rfl) (Nat.le_of_ble_eq_true rfl) ⟨_, rfl, N0, e0⟩
theorem d2_0 : decode method_4_code 0 = .ok (.iload_n 0, 1) := by decide +kernel
theorem d2_1 : decode method_4_code 1 = .ok (.ifCond .ne 5, 3) := by decide +kernel
theorem d2_4 : decode method_4_code 4 = .ok (.lload_n 1, 1) := by decide +kernel
theorem d2_5 : decode method_4_code 5 = .ok (.lreturn, 1) := by decide +kernel
theorem d2_6 : decode method_4_code 6 = .ok (.iload_n 0, 1) := by decide +kernel
theorem d2_7 : decode method_4_code 7 = .ok (.iconst 1, 1) := by decide +kernel
theorem d2_8 : decode method_4_code 8 = .ok (.if_icmp .ne 13, 3) := by decide +kernel
theorem d2_11 : decode method_4_code 11 = .ok (.ldc2_w 36, 3) := by decide +kernel
theorem d2_14 : decode method_4_code 14 = .ok (.lload_n 1, 1) := by decide +kernel
theorem d2_15 : decode method_4_code 15 = .ok (.ldc2_w 40, 3) := by decide +kernel
theorem d2_18 : decode method_4_code 18 = .ok (.land, 1) := by decide +kernel
theorem d2_19 : decode method_4_code 19 = .ok (.lsub, 1) := by decide +kernel
theorem d2_20 : decode method_4_code 20 = .ok (.lreturn, 1) := by decide +kernel
theorem d2_21 : decode method_4_code 21 = .ok (.iload_n 0, 1) := by decide +kernel
theorem d2_22 : decode method_4_code 22 = .ok (.iconst 2, 1) := by decide +kernel
theorem d2_23 : decode method_4_code 23 = .ok (.if_icmp .ne 13, 3) := by decide +kernel
theorem d2_26 : decode method_4_code 26 = .ok (.ldc2_w 38, 3) := by decide +kernel
theorem d2_29 : decode method_4_code 29 = .ok (.lload_n 1, 1) := by decide +kernel
theorem d2_30 : decode method_4_code 30 = .ok (.ldc2_w 40, 3) := by decide +kernel
theorem d2_33 : decode method_4_code 33 = .ok (.land, 1) := by decide +kernel
theorem d2_34 : decode method_4_code 34 = .ok (.ladd, 1) := by decide +kernel
theorem d2_35 : decode method_4_code 35 = .ok (.lreturn, 1) := by decide +kernel
theorem d2_36 : decode method_4_code 36 = .ok (.lload_n 1, 1) := by decide +kernel
theorem d2_37 : decode method_4_code 37 = .ok (.bipush 32, 2) := by decide +kernel
theorem d2_39 : decode method_4_code 39 = .ok (.lshr, 1) := by decide +kernel
theorem d2_40 : decode method_4_code 40 = .ok (.lreturn, 1) := by decide +kernel
theorem pn_2 : plainName "lambdary/statistics/IntegralSumBeginPinLaw" = true := by first | (simp [plainName, overriddenIn]; done) | decide +kernel
theorem ef_2 (m : MethodId) (x0 : Int32) (x1 : Int64) : entryFrame m #[(.int x0), (.long x1)] 3 = mkF m 0 #[.val (.int x0), .val (.long x1), .second] [] := by first | (simp [entryFrame, mkF, argsToLocals, Value.category]; done) | rfl
def Q_rpt (Z : State) (x : Int32) (a : Int64)  (h0 : Heap) (n0 : Nat) : Option Value → Heap → List Loc → Prop := fun v h L => ∃ r, v = some (.long r) ∧ Fr n0 L ∧ h = h0
set_option maxRecDepth 65536 in
set_option maxHeartbeats 40000000 in
theorem rpt (l : Launch) (Z : State) (a0 : Array Value) (hw : ∀ d ∈ tables_1, d.before a0 Z = true) (ws : List Jvm.Cond) (x : Int32) (a : Int64)  (h0 : Heap) (n0 : Nat) (Z0 : n0 ≤ h0.size) :
    own_M l Z (⟨"lambdary/statistics/IntegralSumBeginPinLaw", "pickTotal", "(IJ)J"⟩ : MethodName) (Jvm.Cond.code (⟨"lambdary/statistics/IntegralSumBeginPinLaw", "pickTotal", "(IJ)J"⟩ : MethodName) method_4_code 3 (some .long)) ws ({ frames := 1, cells := 0, slots := 0, locals := 16 } : Room) #[(.int x), (.long a)] h0 (Q_rpt Z x a h0 n0) := by
  refine MetFree.of_bodySF (plainFor_of_name pn_2) hisR ?_
  intro p e s m args below meth c s₁ Bd hml0 hP hK
  obtain ⟨rfl, hZ, hh⟩ := hP
  have hx := Bd.exec
  have hby := Bd.bytes
  have hml : c.maxLocals = 3 := hml0
  have hown : s.vm.findClass "lambdary/statistics/IntegralSumBeginPinLaw" = some m.cls := findClass_of_methodNamed Bd.named
  have hnm := (name_of_methodNamed Bd.named Bd.method).1
  have X0 : Stand p l e ({ frames := 1, cells := 0, slots := 0, locals := 16 } : Room) s m #[(.int x), (.long a)] below meth c s₁ [] 0 0 := Stand.of_body Bd
  have e0 : s₁.heap = h0 := by rw [← hh, Bd.state]; rfl
  have N0 := Fr.nil n0
  show Goes p e below (Fin s (Q_rpt Z x a h0 n0) ({ frames := 1, cells := 0, slots := 0, locals := 16 } : Room).cells ({ frames := 1, cells := 0, slots := 0, locals := 16 } : Room).slots) _
  refine Goes.via (S' := s₁.setTop (mkF m 0 #[.val (.int x), .val (.long a), .second] [])) (fun tz kz => castTop (ef_2 m x a ) kz) ?_
  refine Goes.via (S' := s₁.setTop (mkF m 1 #[.val (.int x), .val (.long a), .second] [(.int x)])) (fun tz kz => ?_) ?_
  · show Steps p.tables e below (s₁.setTop (mkF m 0 #[.val (.int x), .val (.long a), .second] [])) _
    refine XS.iloadN X0.here hx rfl (hb hby d2_0) rfl ?_
    exact kz
  by_cases hc1_1 : x = (0 : Int32)
  · refine Goes.via (S' := s₁.setTop (mkF m 5 #[.val (.int x), .val (.long a), .second] [(.long a)])) (fun tz kz => ?_) ?_
    · show Steps p.tables e below (s₁.setTop (mkF m 1 #[.val (.int x), .val (.long a), .second] [(.int x)])) _
      refine XS.ifNo X0.here hx rfl (hb hby d2_1) rfl ((if0 _ _).trans (teq hc1_1).2) ?_
      refine XS.lloadN X0.here hx rfl (hb hby d2_4) rfl ?_
      exact kz
    exact Goes.retO X0 hx Bd.notSynchronized Bd.returns rfl (Or.inr (Or.inl ⟨rfl, rfl, _, rfl⟩)) (hb hby d2_5) (Nat.le_of_ble_eq_true rfl) (Nat.le_of_ble_eq_true rfl) ⟨_, rfl, N0, e0⟩
  · refine Goes.via (S' := s₁.setTop (mkF m 8 #[.val (.int x), .val (.long a), .second] [(.int (1 : Int32)), (.int x)])) (fun tz kz => ?_) ?_
    · show Steps p.tables e below (s₁.setTop (mkF m 1 #[.val (.int x), .val (.long a), .second] [(.int x)])) _
      refine XS.ifYes X0.here hx rfl (pc0 := 1) (pc' := 6) rfl (hb hby d2_1) rfl ((if0 _ _).trans (feq hc1_1).2) (by decide) (by decide) ?_
      refine XS.iloadN X0.here hx rfl (hb hby d2_6) rfl ?_
      refine XS.iconst X0.here hx rfl (hb hby d2_7) ?_
      exact kz
    by_cases hc8_2 : x = (1 : Int32)
    · refine Goes.via (S' := s₁.setTop (mkF m 20 #[.val (.int x), .val (.long a), .second] [(.long ((9223372036854775807 : Int64) - (a &&& (4294967295 : Int64))))])) (fun tz kz => ?_) ?_
      · show Steps p.tables e below (s₁.setTop (mkF m 8 #[.val (.int x), .val (.long a), .second] [(.int (1 : Int32)), (.int x)])) _
        refine XS.icmpNo X0.here hx rfl (hb hby d2_8) rfl (teq hc8_2).2 ?_
        refine X0.ldc2Long hx hown (mvT hZ (w_ hw 39 rfl)) (g := (mkF m 11 #[.val (.int x), .val (.long a), .second] [])) rfl (hb hby d2_11) _ ?_
        refine XS.lloadN X0.here hx rfl (hb hby d2_14) rfl ?_
        refine X0.ldc2Long hx hown (mvT hZ (w_ hw 40 rfl)) (g := (mkF m 15 #[.val (.int x), .val (.long a), .second] [(.long a), (.long (9223372036854775807 : Int64))])) rfl (hb hby d2_15) _ ?_
        show Steps p.tables e below (s₁.setTop (mkF m 18 #[.val (.int x), .val (.long a), .second] [(.long (4294967295 : Int64)), (.long a), (.long (9223372036854775807 : Int64))])) _
        refine XS.land X0.here hx rfl (hb hby d2_18) rfl ?_
        refine XS.lsub X0.here hx rfl (hb hby d2_19) rfl ?_
        exact kz
      exact Goes.retO X0 hx Bd.notSynchronized Bd.returns rfl (Or.inr (Or.inl ⟨rfl, rfl, _, rfl⟩)) (hb hby d2_20) (Nat.le_of_ble_eq_true rfl) (Nat.le_of_ble_eq_true rfl) ⟨_, rfl, N0, e0⟩
    · refine Goes.via (S' := s₁.setTop (mkF m 23 #[.val (.int x), .val (.long a), .second] [(.int (2 : Int32)), (.int x)])) (fun tz kz => ?_) ?_
      · show Steps p.tables e below (s₁.setTop (mkF m 8 #[.val (.int x), .val (.long a), .second] [(.int (1 : Int32)), (.int x)])) _
        refine XS.icmpYes X0.here hx rfl (pc0 := 8) (pc' := 21) rfl (hb hby d2_8) rfl (feq hc8_2).2 (by decide) (by decide) ?_
        refine XS.iloadN X0.here hx rfl (hb hby d2_21) rfl ?_
        refine XS.iconst X0.here hx rfl (hb hby d2_22) ?_
        exact kz
      by_cases hc23_3 : x = (2 : Int32)
      · refine Goes.via (S' := s₁.setTop (mkF m 35 #[.val (.int x), .val (.long a), .second] [(.long ((-9223372036854775808 : Int64) + (a &&& (4294967295 : Int64))))])) (fun tz kz => ?_) ?_
        · show Steps p.tables e below (s₁.setTop (mkF m 23 #[.val (.int x), .val (.long a), .second] [(.int (2 : Int32)), (.int x)])) _
          refine XS.icmpNo X0.here hx rfl (hb hby d2_23) rfl (teq hc23_3).2 ?_
          refine X0.ldc2Long hx hown (mvT hZ (w_ hw 130 rfl)) (g := (mkF m 26 #[.val (.int x), .val (.long a), .second] [])) rfl (hb hby d2_26) _ ?_
          refine XS.lloadN X0.here hx rfl (hb hby d2_29) rfl ?_
          refine X0.ldc2Long hx hown (mvT hZ (w_ hw 40 rfl)) (g := (mkF m 30 #[.val (.int x), .val (.long a), .second] [(.long a), (.long (-9223372036854775808 : Int64))])) rfl (hb hby d2_30) _ ?_
          show Steps p.tables e below (s₁.setTop (mkF m 33 #[.val (.int x), .val (.long a), .second] [(.long (4294967295 : Int64)), (.long a), (.long (-9223372036854775808 : Int64))])) _
          refine XS.land X0.here hx rfl (hb hby d2_33) rfl ?_
          refine XS.ladd X0.here hx rfl (hb hby d2_34) rfl ?_
          exact kz
        exact Goes.retO X0 hx Bd.notSynchronized Bd.returns rfl (Or.inr (Or.inl ⟨rfl, rfl, _, rfl⟩)) (hb hby d2_35) (Nat.le_of_ble_eq_true rfl) (Nat.le_of_ble_eq_true rfl) ⟨_, rfl, N0, e0⟩
      · refine Goes.via (S' := s₁.setTop (mkF m 40 #[.val (.int x), .val (.long a), .second] [(.long (a >>> ((32 : Int32) &&& 0x3f).toInt64))])) (fun tz kz => ?_) ?_
        · show Steps p.tables e below (s₁.setTop (mkF m 23 #[.val (.int x), .val (.long a), .second] [(.int (2 : Int32)), (.int x)])) _
          refine XS.icmpYes X0.here hx rfl (pc0 := 23) (pc' := 36) rfl (hb hby d2_23) rfl (feq hc23_3).2 (by decide) (by decide) ?_
          refine XS.lloadN X0.here hx rfl (hb hby d2_36) rfl ?_
          refine XS.bipush X0.here hx rfl (hb hby d2_37) ?_
          refine XS.lshr X0.here hx rfl (hb hby d2_39) rfl ?_
          exact kz
        exact Goes.retO X0 hx Bd.notSynchronized Bd.returns rfl (Or.inr (Or.inl ⟨rfl, rfl, _, rfl⟩)) (hb hby d2_40) (Nat.le_of_ble_eq_true rfl) (Nat.le_of_ble_eq_true rfl) ⟨_, rfl, N0, e0⟩
theorem own_ovI (x y : Int64) : ((x ^^^ (x + y)) &&& (y ^^^ (x + y))) < (0 : Int64) ↔ ¬ (-9223372036854775808 ≤ x.toInt + y.toInt ∧ x.toInt + y.toInt < 9223372036854775808) := by
  have h := c_ladd x y
  have z0 : (0 : Int64).toInt = 0 := by decide
  have rx := rng64 x; have ry := rng64 y; have rr := rng64 (x + y)
  generalize x + y = r at *
  have a := c_xorSL x r; have b := c_xorSL y r; have c := c_andSL (x ^^^ r) (y ^^^ r)
  rw [Int64.lt_iff_toInt_lt, z0]
  constructor
  · intro q ⟨q1, q2⟩
    have e : r.toInt = x.toInt + y.toInt := by omega
    by_cases s1 : x.toInt < 0 <;> by_cases s2 : y.toInt < 0 <;> by_cases s3 : r.toInt < 0 <;> omega
  · intro q
    by_cases s1 : x.toInt < 0 <;> by_cases s2 : y.toInt < 0 <;> by_cases s3 : r.toInt < 0 <;> omega
theorem own_ck1 {x : Int64} (h : (4294967296 : Int64) < x) : nar .boolean (own_ck x) = 1 := by unfold own_ck; rw [if_pos h]; rfl
theorem own_ck0 {x : Int64} (h : ¬ (4294967296 : Int64) < x) : nar .boolean (own_ck x) = 0 := by unfold own_ck; rw [if_neg h]; rfl
theorem own_law (t : Int64) (el r : Int32) (hr : r = (if (0 : Int32) < el then (if ((9223372036854775807 : Int64) - el.toInt64) < t then (1 : Int32) else (0 : Int32)) else (if t < ((-9223372036854775808 : Int64) - el.toInt64) then (1 : Int32) else (0 : Int32)))) : r = 0 ↔ ¬ ((t ^^^ (t + el.toInt64)) &&& (el.toInt64 ^^^ (t + el.toInt64))) < (0 : Int64) := by
  rw [own_ovI, c_i2l]
  have z0 : (0 : Int32).toInt = 0 := by decide
  have zM : (9223372036854775807 : Int64).toInt = 9223372036854775807 := by decide
  have zm : (-9223372036854775808 : Int64).toInt = -9223372036854775808 := by decide
  have re := rng32 el; have rt := rng64 t
  have a := c_lsub (9223372036854775807 : Int64) el.toInt64; have b := c_lsub (-9223372036854775808 : Int64) el.toInt64
  have ra := rng64 ((9223372036854775807 : Int64) - el.toInt64); have rb := rng64 ((-9223372036854775808 : Int64) - el.toInt64)
  rw [c_i2l] at a b
  rw [hr]
  by_cases h1 : (0 : Int32) < el
  · rw [if_pos h1]
    rw [Int32.lt_iff_toInt_lt] at h1
    by_cases h2 : ((9223372036854775807 : Int64) - el.toInt64) < t
    · rw [if_pos h2]; rw [Int64.lt_iff_toInt_lt] at h2
      constructor
      · intro q; exact absurd q (by decide)
      · intro q; exfalso; exact q (by omega)
    · rw [if_neg h2]; rw [Int64.lt_iff_toInt_lt] at h2
      exact ⟨fun _ => by omega, fun _ => rfl⟩
  · rw [if_neg h1]
    rw [Int32.lt_iff_toInt_lt] at h1
    by_cases h2 : t < ((-9223372036854775808 : Int64) - el.toInt64)
    · rw [if_pos h2]; rw [Int64.lt_iff_toInt_lt] at h2
      constructor
      · intro q; exact absurd q (by decide)
      · intro q; exfalso; exact q (by omega)
    · rw [if_neg h2]; rw [Int64.lt_iff_toInt_lt] at h2
      exact ⟨fun _ => by omega, fun _ => rfl⟩
theorem pn_0 : plainName "lambdary/statistics/IntegralSumBeginPinLaw" = true := by first | (simp [plainName, overriddenIn]; done) | decide +kernel
theorem ef_0 (m : MethodId) (x0 : Int32) (x1 : Int64) (x2 : Int64) (x3 : Int64) (x4 : Int32) : entryFrame m #[(.int x0), (.long x1), (.long x2), (.long x3), (.int x4)] maxLocals = mkF m 0 #[.val (.int x0), .val (.long x1), .second, .val (.long x2), .second, .val (.long x3), .second, .val (.int x4), .unset, .unset, .unset, .unset, .unset, .unset, .unset, .unset, .unset, .unset, .unset] [] := by first | (simp [entryFrame, mkF, argsToLocals, Value.category, maxLocals]; done) | rfl
def Q_rm0 (Z : State) (p1 : Int32) (p2 : Int64) (p3 : Int64) (p4 : Int64) (p5 : Int32) (us ss : Value) (h0 : Heap) (n0 : Nat) : Option Value → Heap → List Loc → Prop := fun v h L => v = some (.int 1) ∧ Fr n0 L
set_option maxRecDepth 65536 in
set_option maxHeartbeats 40000000 in
theorem rm0 (l : Launch) (Z : State) (a0 : Array Value) (hw : ∀ d ∈ tables_1, d.before a0 Z = true) (ws : List Jvm.Cond) (p1 : Int32) (p2 : Int64) (p3 : Int64) (p4 : Int64) (p5 : Int32) (us ss : Value) (h0 : Heap) (n0 : Nat) (Z0 : n0 ≤ h0.size) (SU : Sta Z Z.heap "java/lang/Throwable" "UNASSIGNED_STACK" "[Ljava/lang/StackTraceElement;" us) (hus : us.isRef = true) (SQ : Sta Z Z.heap "java/lang/Throwable" "SUPPRESSED_SENTINEL" "Ljava/util/List;" ss) (hss : ss.isRef = true) (hl : l.stackTraces = true) (O0 : Old Z n0 h0) :
    MetFree l x (head1 (Jvm.Cond.code x code maxLocals ret :: ws) room_1) (fun a U => a = #[(.int p1), (.long p2), (.long p3), (.long p4), (.int p5)] ∧ Z.Warmed39 U.vm ∧ U.heap = h0) (fun _ _ bl s _ => s.vm.MethodsKnown ∧ s.vm.FramesKnown bl) (fun _ U oo U' => ∃ vv LL, oo = .returned vv ∧ (Q_rm0 Z p1 p2 p3 p4 p5 us ss h0 n0) vv U'.heap LL ∧ ReturnedEndW U oo U' LL room_1.cells room_1.slots) := by
  refine MetFree.of_bodySF (plainFor_of_name pn_0) hisR ?_
  intro p e s m args below meth c s₁ Bd hml0 hP hK
  obtain ⟨rfl, hZ, hh⟩ := hP
  have hx := Bd.exec
  have hby := Bd.bytes
  have hml : c.maxLocals = 19 := hml0
  have hown : s.vm.findClass "lambdary/statistics/IntegralSumBeginPinLaw" = some m.cls := findClass_of_methodNamed Bd.named
  have hnm := (name_of_methodNamed Bd.named Bd.method).1
  have X0 : Stand p l e room_1 s m #[(.int p1), (.long p2), (.long p3), (.long p4), (.int p5)] below meth c s₁ [] 0 0 := Stand.of_body Bd
  have e0 : s₁.heap = h0 := by rw [← hh, Bd.state]; rfl
  have N0 := Fr.nil n0
  show Goes p e below (FinW s (Q_rm0 Z p1 p2 p3 p4 p5 us ss h0 n0) room_1.cells room_1.slots) _
  refine Goes.via (S' := s₁.setTop (mkF m 0 #[.val (.int p1), .val (.long p2), .second, .val (.long p3), .second, .val (.long p4), .second, .val (.int p5), .unset, .unset, .unset, .unset, .unset, .unset, .unset, .unset, .unset, .unset, .unset] [])) (fun tz kz => castTop (ef_0 m p1 p2 p3 p4 p5 ) kz) ?_
  refine Goes.via (S' := s₁.setTop (mkF m 9 #[.val (.int p1), .val (.long p2), .second, .val (.long p3), .second, .val (.long p4), .second, .val (.int p5), .unset, .unset, .unset, .unset, .unset, .unset, .unset, .unset, .unset, .unset, .unset] [(.long p2), (.int (((p1.toUInt32 >>> ((2 : Int32) &&& 31).toUInt32).toInt32) &&& (3 : Int32))), (.int (p1 &&& (3 : Int32)))])) (fun tz kz => ?_) ?_
  · show Steps p.tables e below (s₁.setTop (mkF m 0 #[.val (.int p1), .val (.long p2), .second, .val (.long p3), .second, .val (.long p4), .second, .val (.int p5), .unset, .unset, .unset, .unset, .unset, .unset, .unset, .unset, .unset, .unset, .unset] [])) _
    refine XS.iloadN X0.here hx rfl (hb hby at_0) rfl ?_
    refine XS.iconst X0.here hx rfl (hb hby at_1) ?_
    refine XS.iand X0.here hx rfl (hb hby at_2) rfl ?_
    refine XS.iloadN X0.here hx rfl (hb hby at_3) rfl ?_
    show Steps p.tables e below (s₁.setTop (mkF m 4 #[.val (.int p1), .val (.long p2), .second, .val (.long p3), .second, .val (.long p4), .second, .val (.int p5), .unset, .unset, .unset, .unset, .unset, .unset, .unset, .unset, .unset, .unset, .unset] [(.int p1), (.int (p1 &&& (3 : Int32)))])) _
    refine XS.iconst X0.here hx rfl (hb hby at_4) ?_
    refine XS.iushr X0.here hx rfl (hb hby at_5) rfl ?_
    refine XS.iconst X0.here hx rfl (hb hby at_6) ?_
    refine XS.iand X0.here hx rfl (hb hby at_7) rfl ?_
    show Steps p.tables e below (s₁.setTop (mkF m 8 #[.val (.int p1), .val (.long p2), .second, .val (.long p3), .second, .val (.long p4), .second, .val (.int p5), .unset, .unset, .unset, .unset, .unset, .unset, .unset, .unset, .unset, .unset, .unset] [(.int (((p1.toUInt32 >>> ((2 : Int32) &&& 31).toUInt32).toInt32) &&& (3 : Int32))), (.int (p1 &&& (3 : Int32)))])) _
    refine XS.lloadN X0.here hx rfl (hb hby at_8) rfl ?_
    exact kz
  obtain ⟨_, _, ⟨T1, L1, k1, n1⟩, -, X1, ⟨Lc1, hQ1, l1, y1, z1⟩, st1⟩ := Jvm.LawKit.callS X0 hx (y := (⟨"lambdary/statistics/IntegralSumBeginPinLaw", "pickAtMost", "(IIJ)J"⟩ : MethodName)) hown (mvT hZ (w_ hw 0 rfl)) (mvT hZ (w_ hw 1 rfl)) (mvT hZ (w_ hw 2 rfl)) (mvT hZ (w_ hw 3 rfl)) (by decide) (backOf (W := 0) (rpa l Z a0 hw [] (p1 &&& (3 : Int32)) (((p1.toUInt32 >>> ((2 : Int32) &&& 31).toUInt32).toInt32) &&& (3 : Int32)) p2 h0 n0 Z0) hZ (w_ hw 3 rfl) (w_ hw 2 rfl) (by decide) (by decide)) (g := (mkF m 9 #[.val (.int p1), .val (.long p2), .second, .val (.long p3), .second, .val (.long p4), .second, .val (.int p5), .unset, .unset, .unset, .unset, .unset, .unset, .unset, .unset, .unset, .unset, .unset] [(.long p2), (.int (((p1.toUInt32 >>> ((2 : Int32) &&& 31).toUInt32).toInt32) &&& (3 : Int32))), (.int (p1 &&& (3 : Int32)))])) rfl (by rw [hml]; rfl) (argsL := [(.int (p1 &&& (3 : Int32))), (.int (((p1.toUInt32 >>> ((2 : Int32) &&& 31).toUInt32).toInt32) &&& (3 : Int32))), (.long p2)]) (rest := []) (lenOf pd_4 rfl) rfl (by show 2 * 0 + _ ≤ _; exact Nat.le_of_eq rfl) (hb hby at_9) (fun _ _ => ⟨rfl, e0, (by decide : 0 + 0 ≤ _), (by decide : 0 + 0 ≤ _)⟩)
  dsimp only [Pt.U, Pt.locs, Pt.cells, Pt.slots] at X1 l1 y1 z1 st1 hQ1
  subst l1 y1 z1
  obtain ⟨am, rfl, N1, e1⟩ := hQ1
  have Nf1 := Fr.app N0 N1
  refine Goes.via (S' := T1.setTop (mkF m 12 #[.val (.int p1), .val (.long p2), .second, .val (.long p3), .second, .val (.long p4), .second, .val (.int p5), .unset, .unset, .unset, .unset, .unset, .unset, .unset, .unset, .unset, .unset, .unset] [(.long am)])) (st1) ?_
  refine Goes.via (S' := T1.setTop (mkF m 21 #[.val (.int p1), .val (.long p2), .second, .val (.long p3), .second, .val (.long p4), .second, .val (.int p5), .val (.long am), .second, .unset, .unset, .unset, .unset, .unset, .unset, .unset, .unset, .unset] [(.long p4), (.int (((p1.toUInt32 >>> ((4 : Int32) &&& 31).toUInt32).toInt32) &&& (3 : Int32)))])) (fun tz kz => ?_) ?_
  · show Steps p.tables e below (T1.setTop (mkF m 12 #[.val (.int p1), .val (.long p2), .second, .val (.long p3), .second, .val (.long p4), .second, .val (.int p5), .unset, .unset, .unset, .unset, .unset, .unset, .unset, .unset, .unset, .unset, .unset] [(.long am)])) _
    refine XS.lstore X1.here hx rfl (hb hby at_12) rfl (l' := #[.val (.int p1), .val (.long p2), .second, .val (.long p3), .second, .val (.long p4), .second, .val (.int p5), .val (.long am), .second, .unset, .unset, .unset, .unset, .unset, .unset, .unset, .unset, .unset]) rfl ?_
    refine XS.iloadN X1.here hx rfl (hb hby at_14) rfl ?_
    refine XS.iconst X1.here hx rfl (hb hby at_15) ?_
    refine XS.iushr X1.here hx rfl (hb hby at_16) rfl ?_
    show Steps p.tables e below (T1.setTop (mkF m 17 #[.val (.int p1), .val (.long p2), .second, .val (.long p3), .second, .val (.long p4), .second, .val (.int p5), .val (.long am), .second, .unset, .unset, .unset, .unset, .unset, .unset, .unset, .unset, .unset] [(.int ((p1.toUInt32 >>> ((4 : Int32) &&& 31).toUInt32).toInt32))])) _
    refine XS.iconst X1.here hx rfl (hb hby at_17) ?_
    refine XS.iand X1.here hx rfl (hb hby at_18) rfl ?_
    refine XS.lload X1.here hx rfl (hb hby at_19) rfl ?_
    exact kz
  obtain ⟨_, _, ⟨T2, L2, k2, n2⟩, -, X2, ⟨Lc2, hQ2, l2, y2, z2⟩, st2⟩ := Jvm.LawKit.callS X1 hx (y := (⟨"lambdary/statistics/IntegralSumBeginPinLaw", "pickTotal", "(IJ)J"⟩ : MethodName)) hown (mvT hZ (w_ hw 4 rfl)) (mvT hZ (w_ hw 5 rfl)) (mvT hZ (w_ hw 2 rfl)) (mvT hZ (w_ hw 6 rfl)) (by decide) (backOf (W := 0) (rpt l Z a0 hw [] (((p1.toUInt32 >>> ((4 : Int32) &&& 31).toUInt32).toInt32) &&& (3 : Int32)) p4 h0 n0 Z0) hZ (w_ hw 6 rfl) (w_ hw 2 rfl) (by decide) (by decide)) (g := (mkF m 21 #[.val (.int p1), .val (.long p2), .second, .val (.long p3), .second, .val (.long p4), .second, .val (.int p5), .val (.long am), .second, .unset, .unset, .unset, .unset, .unset, .unset, .unset, .unset, .unset] [(.long p4), (.int (((p1.toUInt32 >>> ((4 : Int32) &&& 31).toUInt32).toInt32) &&& (3 : Int32)))])) rfl (by rw [hml]; rfl) (argsL := [(.int (((p1.toUInt32 >>> ((4 : Int32) &&& 31).toUInt32).toInt32) &&& (3 : Int32))), (.long p4)]) (rest := []) (lenOf pd_5 rfl) rfl (by show 2 * 0 + _ ≤ _; exact Nat.le_of_eq rfl) (hb hby at_21) (fun _ _ => ⟨rfl, e1, (by decide : 0 + 0 ≤ _), (by decide : 0 + 0 ≤ _)⟩)
  dsimp only [Pt.U, Pt.locs, Pt.cells, Pt.slots] at X2 l2 y2 z2 st2 hQ2
  subst l2 y2 z2
  obtain ⟨tt, rfl, N2, e2⟩ := hQ2
  have Nf2 := Fr.app Nf1 N2
  refine Goes.via (S' := T2.setTop (mkF m 24 #[.val (.int p1), .val (.long p2), .second, .val (.long p3), .second, .val (.long p4), .second, .val (.int p5), .val (.long am), .second, .unset, .unset, .unset, .unset, .unset, .unset, .unset, .unset, .unset] [(.long tt)])) (st2) ?_
  refine Goes.via (S' := T2.setTop (mkF m 26 #[.val (.int p1), .val (.long p2), .second, .val (.long p3), .second, .val (.long p4), .second, .val (.int p5), .val (.long am), .second, .val (.long tt), .second, .unset, .unset, .unset, .unset, .unset, .unset, .unset] [])) (fun tz kz => ?_) ?_
  · show Steps p.tables e below (T2.setTop (mkF m 24 #[.val (.int p1), .val (.long p2), .second, .val (.long p3), .second, .val (.long p4), .second, .val (.int p5), .val (.long am), .second, .unset, .unset, .unset, .unset, .unset, .unset, .unset, .unset, .unset] [(.long tt)])) _
    refine XS.lstore X2.here hx rfl (hb hby at_24) rfl (l' := #[.val (.int p1), .val (.long p2), .second, .val (.long p3), .second, .val (.long p4), .second, .val (.int p5), .val (.long am), .second, .val (.long tt), .second, .unset, .unset, .unset, .unset, .unset, .unset, .unset]) rfl ?_
    exact kz
  obtain ⟨T3, h3, X3, e3, E3, A3, D3, U3, st3⟩ := newO X2 hx hZ hown (w_ hw 7 rfl) (w_ hw 8 rfl) (w_ hw 9 rfl) e2 (g := (mkF m 26 #[.val (.int p1), .val (.long p2), .second, .val (.long p3), .second, .val (.long p4), .second, .val (.int p5), .val (.long am), .second, .val (.long tt), .second, .unset, .unset, .unset, .unset, .unset, .unset, .unset] [])) rfl (hb hby at_26) (by decide) (by decide)
  obtain ⟨b3, g3⟩ : ∃ z, z = h0.size := ⟨_, rfl⟩
  rw [← g3] at A3 D3 U3 st3
  refine Goes.via (S' := T3.setTop (mkF m 29 #[.val (.int p1), .val (.long p2), .second, .val (.long p3), .second, .val (.long p4), .second, .val (.int p5), .val (.long am), .second, .val (.long tt), .second, .unset, .unset, .unset, .unset, .unset, .unset, .unset] [(.ref b3)])) st3 ?_
  have D_0 : Fld Z h3 b3 "lambdary/statistics/IntegralSum" "low" "J" (.long (0 : Int64)) := D3 (Or.inl (w_ hw 37 rfl)) (ty := .long) (by decide)
  have D_1 : Fld Z h3 b3 "lambdary/statistics/IntegralSum" "turns" "J" (.long (0 : Int64)) := D3 (Or.inl (w_ hw 35 rfl)) (ty := .long) (by decide)
  have D_2 : Fld Z h3 b3 "lambdary/statistics/IntegralSum" "wrapped" "Z" (.int (0 : Int32)) := D3 (Or.inl (w_ hw 129 rfl)) (ty := .boolean) (by decide)
  have D_3 : Fld Z h3 b3 "lambdary/statistics/IntegralSum" "checkInts" "Z" (.int (0 : Int32)) := D3 (Or.inl (w_ hw 17 rfl)) (ty := .boolean) (by decide)
  have Z1 := Nat.le_trans Z0 E3.1
  have g1 : n0 ≤ b3 := Nat.le_trans Z0 (Nat.le_of_eq g3.symm)
  have O1 := O0.ext E3
  refine Goes.via (S' := T3.setTop (mkF m 30 #[.val (.int p1), .val (.long p2), .second, .val (.long p3), .second, .val (.long p4), .second, .val (.int p5), .val (.long am), .second, .val (.long tt), .second, .unset, .unset, .unset, .unset, .unset, .unset, .unset] [(.ref b3), (.ref b3)])) (fun tz kz => ?_) ?_
  · show Steps p.tables e below (T3.setTop (mkF m 29 #[.val (.int p1), .val (.long p2), .second, .val (.long p3), .second, .val (.long p4), .second, .val (.int p5), .val (.long am), .second, .val (.long tt), .second, .unset, .unset, .unset, .unset, .unset, .unset, .unset] [(.ref b3)])) _
    refine XS.dup X3.here hx rfl (hb hby at_29) rfl rfl ?_
    exact kz
  obtain ⟨_, _, ⟨T4, L4, k4, n4⟩, -, X4, ⟨Lc4, hQ4, l4, y4, z4⟩, st4⟩ := X3.specialBack hx (y := (⟨"lambdary/statistics/IntegralSum", "<init>", "()V"⟩ : MethodName)) rfl hown (mvT hZ (w_ hw 10 rfl)) (mvT hZ (w_ hw 11 rfl)) (mvT hZ (w_ hw 12 rfl)) (by decide) (backOf (W := 1) (rin l Z a0 hw [] b3 h3 n0 Z1 A3 D_0 D_1 D_2 D_3 g1) hZ (w_ hw 12 rfl) (w_ hw 9 rfl) (by decide) (by decide)) (g := (mkF m 30 #[.val (.int p1), .val (.long p2), .second, .val (.long p3), .second, .val (.long p4), .second, .val (.int p5), .val (.long am), .second, .val (.long tt), .second, .unset, .unset, .unset, .unset, .unset, .unset, .unset] [(.ref b3), (.ref b3)])) rfl (by rw [hml]; rfl) (Steps.refl _) (a := b3) (argsL := []) (rest := [(.ref b3)]) (lenOf pd_6 rfl) rfl (by show 2 * 0 + _ ≤ _; exact Nat.le_of_eq rfl) (hb hby at_30) (fun _ _ => ⟨rfl, e3, (by decide : 1 + 0 ≤ _), (by decide : 4 + 0 ≤ _)⟩)
  dsimp only [Pt.U, Pt.locs, Pt.cells, Pt.slots] at X4 l4 y4 z4 st4 hQ4
  subst l4 y4 z4
  obtain ⟨rfl, N4, K4, E4_, Fa4, Fb4, Fc4, Fd4⟩ := hQ4
  have Nf4 := Fr.app Nf2 N4
  refine Goes.via (S' := T4.setTop (mkF m 33 #[.val (.int p1), .val (.long p2), .second, .val (.long p3), .second, .val (.long p4), .second, .val (.int p5), .val (.long am), .second, .val (.long tt), .second, .unset, .unset, .unset, .unset, .unset, .unset, .unset] [(.ref b3)])) (fun _ kz => st4.trans kz) ?_
  have Z_4 := Nat.le_trans Z1 K4.1
  have O_4 := O1.keep K4 (allS g1 all0)
  refine Goes.via (S' := T4.setTop (mkF m 41 #[.val (.int p1), .val (.long p2), .second, .val (.long p3), .second, .val (.long p4), .second, .val (.int p5), .val (.long am), .second, .val (.long tt), .second, .val (.ref b3), .unset, .unset, .unset, .unset, .unset, .unset] [(.int (((p1.toUInt32 >>> ((6 : Int32) &&& 31).toUInt32).toInt32) &&& (1 : Int32)))])) (fun tz kz => ?_) ?_
  · show Steps p.tables e below (T4.setTop (mkF m 33 #[.val (.int p1), .val (.long p2), .second, .val (.long p3), .second, .val (.long p4), .second, .val (.int p5), .val (.long am), .second, .val (.long tt), .second, .unset, .unset, .unset, .unset, .unset, .unset, .unset] [(.ref b3)])) _
    refine XS.astore X4.here hx rfl (hb hby at_33) rfl rfl (l' := #[.val (.int p1), .val (.long p2), .second, .val (.long p3), .second, .val (.long p4), .second, .val (.int p5), .val (.long am), .second, .val (.long tt), .second, .val (.ref b3), .unset, .unset, .unset, .unset, .unset, .unset]) rfl ?_
    refine XS.iloadN X4.here hx rfl (hb hby at_35) rfl ?_
    refine XS.bipush X4.here hx rfl (hb hby at_36) ?_
    refine XS.iushr X4.here hx rfl (hb hby at_38) rfl ?_
    show Steps p.tables e below (T4.setTop (mkF m 39 #[.val (.int p1), .val (.long p2), .second, .val (.long p3), .second, .val (.long p4), .second, .val (.int p5), .val (.long am), .second, .val (.long tt), .second, .val (.ref b3), .unset, .unset, .unset, .unset, .unset, .unset] [(.int ((p1.toUInt32 >>> ((6 : Int32) &&& 31).toUInt32).toInt32))])) _
    refine XS.iconst X4.here hx rfl (hb hby at_39) ?_
    refine XS.iand X4.here hx rfl (hb hby at_40) rfl ?_
    exact kz
  by_cases hc41_5 : (((p1.toUInt32 >>> ((6 : Int32) &&& 31).toUInt32).toInt32) &&& (1 : Int32)) = (0 : Int32)
  · refine Goes.via (S' := T4.setTop (mkF m 54 #[.val (.int p1), .val (.long p2), .second, .val (.long p3), .second, .val (.long p4), .second, .val (.int p5), .val (.long am), .second, .val (.long tt), .second, .val (.ref b3), .unset, .unset, .unset, .unset, .unset, .unset] [(.long am), (.ref b3)])) (fun tz kz => ?_) ?_
    · show Steps p.tables e below (T4.setTop (mkF m 41 #[.val (.int p1), .val (.long p2), .second, .val (.long p3), .second, .val (.long p4), .second, .val (.int p5), .val (.long am), .second, .val (.long tt), .second, .val (.ref b3), .unset, .unset, .unset, .unset, .unset, .unset] [(.int (((p1.toUInt32 >>> ((6 : Int32) &&& 31).toUInt32).toInt32) &&& (1 : Int32)))])) _
      refine XS.ifYes X4.here hx rfl (pc0 := 41) (pc' := 50) rfl (hb hby at_41) rfl ((if0 _ _).trans (teq hc41_5).1) (by decide) (by decide) ?_
      refine XS.aload X4.here hx rfl (hb hby at_50) rfl rfl ?_
      refine XS.lload X4.here hx rfl (hb hby at_52) rfl ?_
      exact kz
    obtain ⟨cq6, kq6, q6a, q6b, q6c⟩ := isOf hZ rfl E4_
    obtain ⟨_, _, ⟨T6, L6, k6, n6⟩, -, X6, ⟨Lc6, hQ6, l6, y6, z6⟩, st6⟩ := X4.virtualBack hx (y := (⟨"lambdary/statistics/IntegralSum", "begin", "(J)V"⟩ : MethodName)) (z := (⟨"lambdary/statistics/IntegralSum", "begin", "(J)V"⟩ : MethodName)) hown (mvT hZ (w_ hw 18 rfl)) (mvT hZ (w_ hw 19 rfl)) (notFace_of_selects (args := #[]) (mvT hZ (w_ hw 21 rfl))) (mvT hZ (w_ hw 21 rfl)) (mvT hZ (w_ hw 20 rfl)) (by decide) (backOf (W := 0) (rbg l Z a0 hw [] b3 am (0 : Int64) (0 : Int64) (0 : Int32) (1 : Int32) T4.heap n0 Z_4 E4_ Fa4 Fb4 Fc4 Fd4 g1) hZ (w_ hw 22 rfl) (w_ hw 9 rfl) (by decide) (by decide)) q6a q6c (g := (mkF m 54 #[.val (.int p1), .val (.long p2), .second, .val (.long p3), .second, .val (.long p4), .second, .val (.int p5), .val (.long am), .second, .val (.long tt), .second, .val (.ref b3), .unset, .unset, .unset, .unset, .unset, .unset] [(.long am), (.ref b3)])) rfl (by rw [hml]; rfl) (Steps.refl _) (argsL := [(.long am)]) (rest := []) (lenOf pd_2 rfl) rfl (by show 2 * 0 + _ ≤ _; exact Nat.le_of_eq rfl) (hb hby at_54) (fun _ _ => ⟨rfl, rfl, (by decide : 1 + 0 ≤ _), (by decide : 4 + 0 ≤ _)⟩)
    dsimp only [Pt.U, Pt.locs, Pt.cells, Pt.slots] at X6 l6 y6 z6 st6 hQ6
    subst l6 y6 z6
    obtain ⟨rfl, N6, K6, E6_, Fa6, Fb6, Fc6, Fd6⟩ := hQ6
    have Nf6 := Fr.app Nf4 N6
    refine Goes.via (S' := T6.setTop (mkF m 57 #[.val (.int p1), .val (.long p2), .second, .val (.long p3), .second, .val (.long p4), .second, .val (.int p5), .val (.long am), .second, .val (.long tt), .second, .val (.ref b3), .unset, .unset, .unset, .unset, .unset, .unset] [])) (fun _ kz => st6.trans kz) ?_
    have Z_6 := Nat.le_trans Z_4 K6.1
    have O_6 := O_4.keep K6 (allS g1 all0)
    refine Goes.via (S' := T6.setTop (mkF m 63 #[.val (.int p1), .val (.long p2), .second, .val (.long p3), .second, .val (.long p4), .second, .val (.int p5), .val (.long am), .second, .val (.long tt), .second, .val (.ref b3), .unset, .unset, .unset, .unset, .unset, .unset] [(.int p5), (.long tt), (.ref b3)])) (fun tz kz => ?_) ?_
    · show Steps p.tables e below (T6.setTop (mkF m 57 #[.val (.int p1), .val (.long p2), .second, .val (.long p3), .second, .val (.long p4), .second, .val (.int p5), .val (.long am), .second, .val (.long tt), .second, .val (.ref b3), .unset, .unset, .unset, .unset, .unset, .unset] [])) _
      refine XS.aload X6.here hx rfl (hb hby at_57) rfl rfl ?_
      refine XS.lload X6.here hx rfl (hb hby at_59) rfl ?_
      refine XS.iload X6.here hx rfl (hb hby at_61) rfl ?_
      exact kz
    by_cases hc : (4294967296 : Int64) < am
    · rw [own_ck1 hc] at Fd6
      by_cases ho : ((tt ^^^ (tt + p5.toInt64)) &&& (p5.toInt64 ^^^ (tt + p5.toInt64))) < (0 : Int64)
      · skip
        obtain ⟨cq7, kq7, q7a, q7b, q7c⟩ := isOf hZ rfl E6_
        obtain ⟨_, _, ⟨T7, L7, k7, n7⟩, -, X7, hs7, gs7, ⟨Lc7, hQ7, l7, y7, z7⟩, st7⟩ := Stand.virtualBackS (show Stand p l e _ (s.setVm s.vm) m _ below meth c _ _ _ _ from X6) hx (y := (⟨"lambdary/statistics/IntegralSum", "fold", "(JI)J"⟩ : MethodName)) (z := (⟨"lambdary/statistics/IntegralSum", "fold", "(JI)J"⟩ : MethodName)) hown (mvT hZ (w_ hw 24 rfl)) (mvT hZ (w_ hw 25 rfl)) (notFace_of_selects (args := #[]) (mvT hZ (w_ hw 27 rfl))) (mvT hZ (w_ hw 27 rfl)) (mvT hZ (w_ hw 26 rfl)) (by decide) (backOfSKL (W := 0) (rfi_t l Z a0 hw [] b3 tt p5 (0 : Int64) (0 : Int64) (0 : Int32) (1 : Int32) us ss T6.heap n0 Z_6 E6_ Fa6 Fb6 Fc6 Fd6 g1 ho SU hus SQ hss hl O_6) hZ (w_ hw 28 rfl) (w_ hw 9 rfl) (by decide) (by decide) hK.1 hK.2) q7a q7c (g := (mkF m 63 #[.val (.int p1), .val (.long p2), .second, .val (.long p3), .second, .val (.long p4), .second, .val (.int p5), .val (.long am), .second, .val (.long tt), .second, .val (.ref b3), .unset, .unset, .unset, .unset, .unset, .unset] [(.int p5), (.long tt), (.ref b3)])) rfl (by rw [hml]; rfl) (Steps.refl _) (argsL := [(.long tt), (.int p5)]) (rest := []) (lenOf pd_7 rfl) rfl (by show 2 * 0 + _ ≤ _; exact Nat.le_of_eq rfl) (hb hby at_63) (fun _ _ => ⟨rfl, rfl, (by decide : 1 + 4 ≤ _), (by decide : 4 + 2820 ≤ _)⟩)
        dsimp only [Pt.U, Pt.locs, Pt.cells, Pt.slots] at X7 l7 y7 z7 st7 hQ7 hs7 gs7
        subst l7 y7 z7
        obtain ⟨rfl, N7, K7, E7_, Fa7, Fb7, Fc7, Fd7⟩ := hQ7
        skip
        have hS7 : s.Since T7.vm T7.heap.size := own_fold ((State.WarmedH.refl s).since 0) (Nat.zero_le _) hs7 gs7
        have hK : (s.setVm T7.vm).vm.MethodsKnown ∧ (s.setVm T7.vm).vm.FramesKnown below := ⟨Vm.MethodsKnown.alikeC hs7.1.alike hK.1, Vm.FramesKnown.alikeC hs7.1.alike hK.2⟩
        have hZ : Z.Warmed39 (s.setVm T7.vm).vm := State.Warmed39.trans (t := s.setVm s.vm) hZ hs7.1
        have hown : (s.setVm T7.vm).vm.findClass "lambdary/statistics/IntegralSumBeginPinLaw" = some m.cls := by rw [show (s.setVm T7.vm).vm = T7.vm from rfl, hs7.1.alike.findClass]; exact hown
        have Nf7 := Fr.app Nf6 N7
        refine Goes.via (S' := T7.setTop (mkF m 66 #[.val (.int p1), .val (.long p2), .second, .val (.long p3), .second, .val (.long p4), .second, .val (.int p5), .val (.long am), .second, .val (.long tt), .second, .val (.ref b3), .unset, .unset, .unset, .unset, .unset, .unset] [(.long tt)])) (fun _ kz => st7.trans kz) ?_
        have Z_7 := Nat.le_trans Z_6 K7.1
        have O_7 := O_6.keep K7 (allS g1 all0)
        refine Goes.via (S' := T7.setTop (mkF m 70 #[.val (.int p1), .val (.long p2), .second, .val (.long p3), .second, .val (.long p4), .second, .val (.int p5), .val (.long am), .second, .val (.long tt), .second, .val (.ref b3), .val (.long tt), .second, .unset, .unset, .unset, .unset] [(.ref b3)])) (fun tz kz => ?_) ?_
        · show Steps p.tables e below (T7.setTop (mkF m 66 #[.val (.int p1), .val (.long p2), .second, .val (.long p3), .second, .val (.long p4), .second, .val (.int p5), .val (.long am), .second, .val (.long tt), .second, .val (.ref b3), .unset, .unset, .unset, .unset, .unset, .unset] [(.long tt)])) _
          refine XS.lstore X7.here hx rfl (hb hby at_66) rfl (l' := #[.val (.int p1), .val (.long p2), .second, .val (.long p3), .second, .val (.long p4), .second, .val (.int p5), .val (.long am), .second, .val (.long tt), .second, .val (.ref b3), .val (.long tt), .second, .unset, .unset, .unset, .unset]) rfl ?_
          refine XS.aload X7.here hx rfl (hb hby at_68) rfl rfl ?_
          exact kz
        obtain ⟨cq8, kq8, q8a, q8b, q8c⟩ := isOf hZ rfl E7_
        obtain ⟨_, _, ⟨T8, L8, k8, n8⟩, -, X8, ⟨Lc8, hQ8, l8, y8, z8⟩, st8⟩ := X7.virtualBack hx (y := (⟨"lambdary/statistics/IntegralSum", "sum", "()J"⟩ : MethodName)) (z := (⟨"lambdary/statistics/IntegralSum", "sum", "()J"⟩ : MethodName)) hown (mvT hZ (w_ hw 29 rfl)) (mvT hZ (w_ hw 30 rfl)) (notFace_of_selects (args := #[]) (mvT hZ (w_ hw 32 rfl))) (mvT hZ (w_ hw 32 rfl)) (mvT hZ (w_ hw 31 rfl)) (by decide) (backOf (W := 0) (rsm l Z a0 hw [] b3 (p5.toInt64) (0 : Int64) (0 : Int32) (1 : Int32) T7.heap n0 Z_7 E7_ Fa7 Fb7 Fc7 Fd7 g1) hZ (w_ hw 33 rfl) (w_ hw 9 rfl) (by decide) (by decide)) q8a q8c (g := (mkF m 70 #[.val (.int p1), .val (.long p2), .second, .val (.long p3), .second, .val (.long p4), .second, .val (.int p5), .val (.long am), .second, .val (.long tt), .second, .val (.ref b3), .val (.long tt), .second, .unset, .unset, .unset, .unset] [(.ref b3)])) rfl (by rw [hml]; rfl) (Steps.refl _) (argsL := []) (rest := []) (lenOf pd_8 rfl) rfl (by show 2 * 0 + _ ≤ _; exact Nat.le_of_eq rfl) (hb hby at_70) (fun _ _ => ⟨rfl, rfl, (by decide : 5 + 0 ≤ _), (by decide : 2824 + 0 ≤ _)⟩)
        dsimp only [Pt.U, Pt.locs, Pt.cells, Pt.slots] at X8 l8 y8 z8 st8 hQ8
        subst l8 y8 z8
        obtain ⟨rfl, N8, e8⟩ := hQ8
        have Nf8 := Fr.app Nf7 N8
        refine Goes.via (S' := T8.setTop (mkF m 73 #[.val (.int p1), .val (.long p2), .second, .val (.long p3), .second, .val (.long p4), .second, .val (.int p5), .val (.long am), .second, .val (.long tt), .second, .val (.ref b3), .val (.long tt), .second, .unset, .unset, .unset, .unset] [(.long (p5.toInt64))])) (fun _ kz => st8.trans kz) ?_
        refine Goes.via (S' := T8.setTop (mkF m 93 #[.val (.int p1), .val (.long p2), .second, .val (.long p3), .second, .val (.long p4), .second, .val (.int p5), .val (.long am), .second, .val (.long tt), .second, .val (.ref b3), .val (.long tt), .second, .val (.long (p5.toInt64)), .second, .val (.int (1 : Int32)), .unset] [(.int p5)])) (fun tz kz => ?_) ?_
        · show Steps p.tables e below (T8.setTop (mkF m 73 #[.val (.int p1), .val (.long p2), .second, .val (.long p3), .second, .val (.long p4), .second, .val (.int p5), .val (.long am), .second, .val (.long tt), .second, .val (.ref b3), .val (.long tt), .second, .unset, .unset, .unset, .unset] [(.long (p5.toInt64))])) _
          refine XS.lstore X8.here hx rfl (hb hby at_73) rfl (l' := #[.val (.int p1), .val (.long p2), .second, .val (.long p3), .second, .val (.long p4), .second, .val (.int p5), .val (.long am), .second, .val (.long tt), .second, .val (.ref b3), .val (.long tt), .second, .val (.long (p5.toInt64)), .second, .unset, .unset]) rfl ?_
          refine XS.lload X8.here hx rfl (hb hby at_75) rfl ?_
          refine X8.ldc2Long hx hown (mvT hZ (w_ hw 38 rfl)) (g := (mkF m 77 #[.val (.int p1), .val (.long p2), .second, .val (.long p3), .second, .val (.long p4), .second, .val (.int p5), .val (.long am), .second, .val (.long tt), .second, .val (.ref b3), .val (.long tt), .second, .val (.long (p5.toInt64)), .second, .unset, .unset] [(.long am)])) rfl (hb hby at_77) _ ?_
          refine XS.lcmp X8.here hx rfl (hb hby at_80) rfl ?_
          show Steps p.tables e below (T8.setTop (mkF m 81 #[.val (.int p1), .val (.long p2), .second, .val (.long p3), .second, .val (.long p4), .second, .val (.int p5), .val (.long am), .second, .val (.long tt), .second, .val (.ref b3), .val (.long tt), .second, .val (.long (p5.toInt64)), .second, .unset, .unset] [(.int (lcmpW am (4294967296 : Int64)))])) _
          refine XS.ifNo X8.here hx rfl (hb hby at_81) rfl ((if0 _ _).trans (tlt ((lw_gt _ _).mpr hc)).2.2.2) ?_
          refine XS.iconst X8.here hx rfl (hb hby at_84) ?_
          refine XS.goto X8.here hx rfl (pc0 := 85) (pc' := 89) rfl (hb hby at_85) (by decide) (by decide) ?_
          refine XS.istore X8.here hx rfl (hb hby at_89) rfl (l' := #[.val (.int p1), .val (.long p2), .second, .val (.long p3), .second, .val (.long p4), .second, .val (.int p5), .val (.long am), .second, .val (.long tt), .second, .val (.ref b3), .val (.long tt), .second, .val (.long (p5.toInt64)), .second, .val (.int (1 : Int32)), .unset]) rfl ?_
          show Steps p.tables e below (T8.setTop (mkF m 91 #[.val (.int p1), .val (.long p2), .second, .val (.long p3), .second, .val (.long p4), .second, .val (.int p5), .val (.long am), .second, .val (.long tt), .second, .val (.ref b3), .val (.long tt), .second, .val (.long (p5.toInt64)), .second, .val (.int (1 : Int32)), .unset] [])) _
          refine XS.iload X8.here hx rfl (hb hby at_91) rfl ?_
          exact kz
        obtain ⟨r12, hr12⟩ : ∃ zz_ : Int32, zz_ = (if (0 : Int32) < p5 then (if ((9223372036854775807 : Int64) - (p5.toInt64)) < tt then (1 : Int32) else (0 : Int32)) else (if tt < ((-9223372036854775808 : Int64) - (p5.toInt64)) then (1 : Int32) else (0 : Int32))) := ⟨_, rfl⟩
        have j93_13 : ∀ t, Steps p.tables e below (T8.setTop (mkF m 139 #[.val (.int p1), .val (.long p2), .second, .val (.long p3), .second, .val (.long p4), .second, .val (.int p5), .val (.long am), .second, .val (.long tt), .second, .val (.ref b3), .val (.long tt), .second, .val (.long (p5.toInt64)), .second, .val (.int (1 : Int32)), .val (.int r12)] [])) t → Steps p.tables e below (T8.setTop (mkF m 93 #[.val (.int p1), .val (.long p2), .second, .val (.long p3), .second, .val (.long p4), .second, .val (.int p5), .val (.long am), .second, .val (.long tt), .second, .val (.ref b3), .val (.long tt), .second, .val (.long (p5.toInt64)), .second, .val (.int (1 : Int32)), .unset] [(.int p5)])) t := by
          intro tz kz
          by_cases hc93_9 : (0 : Int32) < p5
          · rw [if_pos hc93_9] at hr12
            show Steps p.tables e below (T8.setTop (mkF m 93 #[.val (.int p1), .val (.long p2), .second, .val (.long p3), .second, .val (.long p4), .second, .val (.int p5), .val (.long am), .second, .val (.long tt), .second, .val (.ref b3), .val (.long tt), .second, .val (.long (p5.toInt64)), .second, .val (.int (1 : Int32)), .unset] [(.int p5)])) _
            refine XS.ifNo X8.here hx rfl (hb hby at_93) rfl ((if0 _ _).trans (tlt hc93_9).2.2.2) ?_
            refine XS.lload X8.here hx rfl (hb hby at_96) rfl ?_
            refine X8.ldc2Long hx hown (mvT hZ (w_ hw 39 rfl)) (g := (mkF m 98 #[.val (.int p1), .val (.long p2), .second, .val (.long p3), .second, .val (.long p4), .second, .val (.int p5), .val (.long am), .second, .val (.long tt), .second, .val (.ref b3), .val (.long tt), .second, .val (.long (p5.toInt64)), .second, .val (.int (1 : Int32)), .unset] [(.long tt)])) rfl (hb hby at_98) _ ?_
            refine XS.iload X8.here hx rfl (hb hby at_101) rfl ?_
            show Steps p.tables e below (T8.setTop (mkF m 103 #[.val (.int p1), .val (.long p2), .second, .val (.long p3), .second, .val (.long p4), .second, .val (.int p5), .val (.long am), .second, .val (.long tt), .second, .val (.ref b3), .val (.long tt), .second, .val (.long (p5.toInt64)), .second, .val (.int (1 : Int32)), .unset] [(.int p5), (.long (9223372036854775807 : Int64)), (.long tt)])) _
            refine XS.i2l X8.here hx rfl (hb hby at_103) rfl ?_
            refine XS.lsub X8.here hx rfl (hb hby at_104) rfl ?_
            refine XS.lcmp X8.here hx rfl (hb hby at_105) rfl ?_
            by_cases hc106_10 : ((9223372036854775807 : Int64) - (p5.toInt64)) < tt
            · rw [if_pos hc106_10] at hr12
              show Steps p.tables e below (T8.setTop (mkF m 106 #[.val (.int p1), .val (.long p2), .second, .val (.long p3), .second, .val (.long p4), .second, .val (.int p5), .val (.long am), .second, .val (.long tt), .second, .val (.ref b3), .val (.long tt), .second, .val (.long (p5.toInt64)), .second, .val (.int (1 : Int32)), .unset] [(.int (lcmpW tt ((9223372036854775807 : Int64) - (p5.toInt64))))])) _
              refine XS.ifNo X8.here hx rfl (hb hby at_106) rfl ((if0 _ _).trans (tlt ((lw_gt _ _).mpr hc106_10)).2.2.2) ?_
              refine XS.iconst X8.here hx rfl (hb hby at_109) ?_
              refine XS.goto X8.here hx rfl (pc0 := 110) (pc' := 114) rfl (hb hby at_110) (by decide) (by decide) ?_
              refine XS.istore X8.here hx rfl (hb hby at_114) rfl (l' := #[.val (.int p1), .val (.long p2), .second, .val (.long p3), .second, .val (.long p4), .second, .val (.int p5), .val (.long am), .second, .val (.long tt), .second, .val (.ref b3), .val (.long tt), .second, .val (.long (p5.toInt64)), .second, .val (.int (1 : Int32)), .val (.int (1 : Int32))]) rfl ?_
              show Steps p.tables e below (T8.setTop (mkF m 116 #[.val (.int p1), .val (.long p2), .second, .val (.long p3), .second, .val (.long p4), .second, .val (.int p5), .val (.long am), .second, .val (.long tt), .second, .val (.ref b3), .val (.long tt), .second, .val (.long (p5.toInt64)), .second, .val (.int (1 : Int32)), .val (.int (1 : Int32))] [])) _
              refine XS.goto X8.here hx rfl (pc0 := 116) (pc' := 139) rfl (hb hby at_116) (by decide) (by decide) ?_
              subst hr12
              exact kz
            · rw [if_neg hc106_10] at hr12
              show Steps p.tables e below (T8.setTop (mkF m 106 #[.val (.int p1), .val (.long p2), .second, .val (.long p3), .second, .val (.long p4), .second, .val (.int p5), .val (.long am), .second, .val (.long tt), .second, .val (.ref b3), .val (.long tt), .second, .val (.long (p5.toInt64)), .second, .val (.int (1 : Int32)), .unset] [(.int (lcmpW tt ((9223372036854775807 : Int64) - (p5.toInt64))))])) _
              refine XS.ifYes X8.here hx rfl (pc0 := 106) (pc' := 113) rfl (hb hby at_106) rfl ((if0 _ _).trans (flt (mt (lw_gt _ _).mp hc106_10)).2.2.2) (by decide) (by decide) ?_
              refine XS.iconst X8.here hx rfl (hb hby at_113) ?_
              refine XS.istore X8.here hx rfl (hb hby at_114) rfl (l' := #[.val (.int p1), .val (.long p2), .second, .val (.long p3), .second, .val (.long p4), .second, .val (.int p5), .val (.long am), .second, .val (.long tt), .second, .val (.ref b3), .val (.long tt), .second, .val (.long (p5.toInt64)), .second, .val (.int (1 : Int32)), .val (.int (0 : Int32))]) rfl ?_
              refine XS.goto X8.here hx rfl (pc0 := 116) (pc' := 139) rfl (hb hby at_116) (by decide) (by decide) ?_
              subst hr12
              exact kz
          · rw [if_neg hc93_9] at hr12
            show Steps p.tables e below (T8.setTop (mkF m 93 #[.val (.int p1), .val (.long p2), .second, .val (.long p3), .second, .val (.long p4), .second, .val (.int p5), .val (.long am), .second, .val (.long tt), .second, .val (.ref b3), .val (.long tt), .second, .val (.long (p5.toInt64)), .second, .val (.int (1 : Int32)), .unset] [(.int p5)])) _
            refine XS.ifYes X8.here hx rfl (pc0 := 93) (pc' := 119) rfl (hb hby at_93) rfl ((if0 _ _).trans (flt hc93_9).2.2.2) (by decide) (by decide) ?_
            refine XS.lload X8.here hx rfl (hb hby at_119) rfl ?_
            refine X8.ldc2Long hx hown (mvT hZ (w_ hw 130 rfl)) (g := (mkF m 121 #[.val (.int p1), .val (.long p2), .second, .val (.long p3), .second, .val (.long p4), .second, .val (.int p5), .val (.long am), .second, .val (.long tt), .second, .val (.ref b3), .val (.long tt), .second, .val (.long (p5.toInt64)), .second, .val (.int (1 : Int32)), .unset] [(.long tt)])) rfl (hb hby at_121) _ ?_
            refine XS.iload X8.here hx rfl (hb hby at_124) rfl ?_
            show Steps p.tables e below (T8.setTop (mkF m 126 #[.val (.int p1), .val (.long p2), .second, .val (.long p3), .second, .val (.long p4), .second, .val (.int p5), .val (.long am), .second, .val (.long tt), .second, .val (.ref b3), .val (.long tt), .second, .val (.long (p5.toInt64)), .second, .val (.int (1 : Int32)), .unset] [(.int p5), (.long (-9223372036854775808 : Int64)), (.long tt)])) _
            refine XS.i2l X8.here hx rfl (hb hby at_126) rfl ?_
            refine XS.lsub X8.here hx rfl (hb hby at_127) rfl ?_
            refine XS.lcmp X8.here hx rfl (hb hby at_128) rfl ?_
            by_cases hc129_11 : tt < ((-9223372036854775808 : Int64) - (p5.toInt64))
            · rw [if_pos hc129_11] at hr12
              show Steps p.tables e below (T8.setTop (mkF m 129 #[.val (.int p1), .val (.long p2), .second, .val (.long p3), .second, .val (.long p4), .second, .val (.int p5), .val (.long am), .second, .val (.long tt), .second, .val (.ref b3), .val (.long tt), .second, .val (.long (p5.toInt64)), .second, .val (.int (1 : Int32)), .unset] [(.int (lcmpW tt ((-9223372036854775808 : Int64) - (p5.toInt64))))])) _
              refine XS.ifNo X8.here hx rfl (hb hby at_129) rfl ((if0 _ _).trans (tlt ((lw_lt _ _).mpr hc129_11)).2.1) ?_
              refine XS.iconst X8.here hx rfl (hb hby at_132) ?_
              refine XS.goto X8.here hx rfl (pc0 := 133) (pc' := 137) rfl (hb hby at_133) (by decide) (by decide) ?_
              refine XS.istore X8.here hx rfl (hb hby at_137) rfl (l' := #[.val (.int p1), .val (.long p2), .second, .val (.long p3), .second, .val (.long p4), .second, .val (.int p5), .val (.long am), .second, .val (.long tt), .second, .val (.ref b3), .val (.long tt), .second, .val (.long (p5.toInt64)), .second, .val (.int (1 : Int32)), .val (.int (1 : Int32))]) rfl ?_
              subst hr12
              exact kz
            · rw [if_neg hc129_11] at hr12
              show Steps p.tables e below (T8.setTop (mkF m 129 #[.val (.int p1), .val (.long p2), .second, .val (.long p3), .second, .val (.long p4), .second, .val (.int p5), .val (.long am), .second, .val (.long tt), .second, .val (.ref b3), .val (.long tt), .second, .val (.long (p5.toInt64)), .second, .val (.int (1 : Int32)), .unset] [(.int (lcmpW tt ((-9223372036854775808 : Int64) - (p5.toInt64))))])) _
              refine XS.ifYes X8.here hx rfl (pc0 := 129) (pc' := 136) rfl (hb hby at_129) rfl ((if0 _ _).trans (flt (mt (lw_lt _ _).mp hc129_11)).2.1) (by decide) (by decide) ?_
              refine XS.iconst X8.here hx rfl (hb hby at_136) ?_
              refine XS.istore X8.here hx rfl (hb hby at_137) rfl (l' := #[.val (.int p1), .val (.long p2), .second, .val (.long p3), .second, .val (.long p4), .second, .val (.int p5), .val (.long am), .second, .val (.long tt), .second, .val (.ref b3), .val (.long tt), .second, .val (.long (p5.toInt64)), .second, .val (.int (1 : Int32)), .val (.int (0 : Int32))]) rfl ?_
              subst hr12
              exact kz
        refine Goes.via j93_13 ?_
        refine Goes.via (S' := T8.setTop (mkF m 171 #[.val (.int p1), .val (.long p2), .second, .val (.long p3), .second, .val (.long p4), .second, .val (.int p5), .val (.long am), .second, .val (.long tt), .second, .val (.ref b3), .val (.long tt), .second, .val (.long (p5.toInt64)), .second, .val (.int (1 : Int32)), .val (.int r12)] [(.int (1 : Int32))])) (fun tz kz => ?_) ?_
        · show Steps p.tables e below (T8.setTop (mkF m 139 #[.val (.int p1), .val (.long p2), .second, .val (.long p3), .second, .val (.long p4), .second, .val (.int p5), .val (.long am), .second, .val (.long tt), .second, .val (.ref b3), .val (.long tt), .second, .val (.long (p5.toInt64)), .second, .val (.int (1 : Int32)), .val (.int r12)] [])) _
          refine XS.iload X8.here hx rfl (hb hby at_139) rfl ?_
          refine XS.ifNo X8.here hx rfl (hb hby at_141) rfl ((if0 _ _).trans (feq (by first | decide | rfl)).1) ?_
          refine XS.iload X8.here hx rfl (hb hby at_144) rfl ?_
          refine XS.ifNo X8.here hx rfl (hb hby at_146) rfl ((if0 _ _).trans (feq (fun q => (own_law tt p5 r12 hr12).mp q ho)).1) ?_
          show Steps p.tables e below (T8.setTop (mkF m 149 #[.val (.int p1), .val (.long p2), .second, .val (.long p3), .second, .val (.long p4), .second, .val (.int p5), .val (.long am), .second, .val (.long tt), .second, .val (.ref b3), .val (.long tt), .second, .val (.long (p5.toInt64)), .second, .val (.int (1 : Int32)), .val (.int r12)] [])) _
          refine XS.lload X8.here hx rfl (hb hby at_149) rfl ?_
          refine XS.lload X8.here hx rfl (hb hby at_151) rfl ?_
          refine XS.lcmp X8.here hx rfl (hb hby at_153) rfl ?_
          refine XS.ifNo X8.here hx rfl (hb hby at_154) rfl ((if0 _ _).trans (teq ((lw_eq _ _).mpr rfl)).2) ?_
          show Steps p.tables e below (T8.setTop (mkF m 157 #[.val (.int p1), .val (.long p2), .second, .val (.long p3), .second, .val (.long p4), .second, .val (.int p5), .val (.long am), .second, .val (.long tt), .second, .val (.ref b3), .val (.long tt), .second, .val (.long (p5.toInt64)), .second, .val (.int (1 : Int32)), .val (.int r12)] [])) _
          refine XS.lload X8.here hx rfl (hb hby at_157) rfl ?_
          refine XS.iload X8.here hx rfl (hb hby at_159) rfl ?_
          refine XS.i2l X8.here hx rfl (hb hby at_161) rfl ?_
          refine XS.lcmp X8.here hx rfl (hb hby at_162) rfl ?_
          show Steps p.tables e below (T8.setTop (mkF m 163 #[.val (.int p1), .val (.long p2), .second, .val (.long p3), .second, .val (.long p4), .second, .val (.int p5), .val (.long am), .second, .val (.long tt), .second, .val (.ref b3), .val (.long tt), .second, .val (.long (p5.toInt64)), .second, .val (.int (1 : Int32)), .val (.int r12)] [(.int (lcmpW (p5.toInt64) (p5.toInt64)))])) _
          refine XS.ifNo X8.here hx rfl (hb hby at_163) rfl ((if0 _ _).trans (teq ((lw_eq _ _).mpr rfl)).2) ?_
          refine XS.iconst X8.here hx rfl (hb hby at_166) ?_
          refine XS.goto X8.here hx rfl (pc0 := 167) (pc' := 171) rfl (hb hby at_167) (by decide) (by decide) ?_
          exact kz
        exact Goes.retNW (s := s) (vm1 := T7.vm) X8 hx Bd.notSynchronized hS7 (by rw [e8]; exact (Nat.le_refl _)) (t := .boolean) Bd.returns (by simp) (hb hby at_171) (Nat.le_of_ble_eq_true rfl) (Nat.le_of_ble_eq_true rfl) ⟨rfl, Nf8⟩
      · skip
        obtain ⟨cq14, kq14, q14a, q14b, q14c⟩ := isOf hZ rfl E6_
        obtain ⟨_, _, ⟨T14, L14, k14, n14⟩, -, X14, ⟨Lc14, hQ14, l14, y14, z14⟩, st14⟩ := X6.virtualBack hx (y := (⟨"lambdary/statistics/IntegralSum", "fold", "(JI)J"⟩ : MethodName)) (z := (⟨"lambdary/statistics/IntegralSum", "fold", "(JI)J"⟩ : MethodName)) hown (mvT hZ (w_ hw 24 rfl)) (mvT hZ (w_ hw 25 rfl)) (notFace_of_selects (args := #[]) (mvT hZ (w_ hw 27 rfl))) (mvT hZ (w_ hw 27 rfl)) (mvT hZ (w_ hw 26 rfl)) (by decide) (backOf (W := 0) (rfi_a l Z a0 hw [] b3 tt p5 (0 : Int64) (0 : Int64) (0 : Int32) (1 : Int32) T6.heap n0 Z_6 E6_ Fa6 Fb6 Fc6 Fd6 g1 ho) hZ (w_ hw 28 rfl) (w_ hw 9 rfl) (by decide) (by decide)) q14a q14c (g := (mkF m 63 #[.val (.int p1), .val (.long p2), .second, .val (.long p3), .second, .val (.long p4), .second, .val (.int p5), .val (.long am), .second, .val (.long tt), .second, .val (.ref b3), .unset, .unset, .unset, .unset, .unset, .unset] [(.int p5), (.long tt), (.ref b3)])) rfl (by rw [hml]; rfl) (Steps.refl _) (argsL := [(.long tt), (.int p5)]) (rest := []) (lenOf pd_7 rfl) rfl (by show 2 * 0 + _ ≤ _; exact Nat.le_of_eq rfl) (hb hby at_63) (fun _ _ => ⟨rfl, rfl, (by decide : 1 + 0 ≤ _), (by decide : 4 + 0 ≤ _)⟩)
        dsimp only [Pt.U, Pt.locs, Pt.cells, Pt.slots] at X14 l14 y14 z14 st14 hQ14
        subst l14 y14 z14
        obtain ⟨rfl, N14, e14⟩ := hQ14
        have Nf14 := Fr.app Nf6 N14
        refine Goes.via (S' := T14.setTop (mkF m 66 #[.val (.int p1), .val (.long p2), .second, .val (.long p3), .second, .val (.long p4), .second, .val (.int p5), .val (.long am), .second, .val (.long tt), .second, .val (.ref b3), .unset, .unset, .unset, .unset, .unset, .unset] [(.long (tt + (p5.toInt64)))])) (fun _ kz => st14.trans kz) ?_
        refine Goes.via (S' := T14.setTop (mkF m 70 #[.val (.int p1), .val (.long p2), .second, .val (.long p3), .second, .val (.long p4), .second, .val (.int p5), .val (.long am), .second, .val (.long tt), .second, .val (.ref b3), .val (.long (tt + (p5.toInt64))), .second, .unset, .unset, .unset, .unset] [(.ref b3)])) (fun tz kz => ?_) ?_
        · show Steps p.tables e below (T14.setTop (mkF m 66 #[.val (.int p1), .val (.long p2), .second, .val (.long p3), .second, .val (.long p4), .second, .val (.int p5), .val (.long am), .second, .val (.long tt), .second, .val (.ref b3), .unset, .unset, .unset, .unset, .unset, .unset] [(.long (tt + (p5.toInt64)))])) _
          refine XS.lstore X14.here hx rfl (hb hby at_66) rfl (l' := #[.val (.int p1), .val (.long p2), .second, .val (.long p3), .second, .val (.long p4), .second, .val (.int p5), .val (.long am), .second, .val (.long tt), .second, .val (.ref b3), .val (.long (tt + (p5.toInt64))), .second, .unset, .unset, .unset, .unset]) rfl ?_
          refine XS.aload X14.here hx rfl (hb hby at_68) rfl rfl ?_
          exact kz
        obtain ⟨cq15, kq15, q15a, q15b, q15c⟩ := isOf hZ e14 E6_
        obtain ⟨_, _, ⟨T15, L15, k15, n15⟩, -, X15, ⟨Lc15, hQ15, l15, y15, z15⟩, st15⟩ := X14.virtualBack hx (y := (⟨"lambdary/statistics/IntegralSum", "sum", "()J"⟩ : MethodName)) (z := (⟨"lambdary/statistics/IntegralSum", "sum", "()J"⟩ : MethodName)) hown (mvT hZ (w_ hw 29 rfl)) (mvT hZ (w_ hw 30 rfl)) (notFace_of_selects (args := #[]) (mvT hZ (w_ hw 32 rfl))) (mvT hZ (w_ hw 32 rfl)) (mvT hZ (w_ hw 31 rfl)) (by decide) (backOf (W := 0) (rsm l Z a0 hw [] b3 (0 : Int64) (0 : Int64) (0 : Int32) (1 : Int32) T6.heap n0 Z_6 E6_ Fa6 Fb6 Fc6 Fd6 g1) hZ (w_ hw 33 rfl) (w_ hw 9 rfl) (by decide) (by decide)) q15a q15c (g := (mkF m 70 #[.val (.int p1), .val (.long p2), .second, .val (.long p3), .second, .val (.long p4), .second, .val (.int p5), .val (.long am), .second, .val (.long tt), .second, .val (.ref b3), .val (.long (tt + (p5.toInt64))), .second, .unset, .unset, .unset, .unset] [(.ref b3)])) rfl (by rw [hml]; rfl) (Steps.refl _) (argsL := []) (rest := []) (lenOf pd_8 rfl) rfl (by show 2 * 0 + _ ≤ _; exact Nat.le_of_eq rfl) (hb hby at_70) (fun _ _ => ⟨rfl, e14, (by decide : 1 + 0 ≤ _), (by decide : 4 + 0 ≤ _)⟩)
        dsimp only [Pt.U, Pt.locs, Pt.cells, Pt.slots] at X15 l15 y15 z15 st15 hQ15
        subst l15 y15 z15
        obtain ⟨rfl, N15, e15⟩ := hQ15
        have Nf15 := Fr.app Nf14 N15
        refine Goes.via (S' := T15.setTop (mkF m 73 #[.val (.int p1), .val (.long p2), .second, .val (.long p3), .second, .val (.long p4), .second, .val (.int p5), .val (.long am), .second, .val (.long tt), .second, .val (.ref b3), .val (.long (tt + (p5.toInt64))), .second, .unset, .unset, .unset, .unset] [(.long (0 : Int64))])) (fun _ kz => st15.trans kz) ?_
        refine Goes.via (S' := T15.setTop (mkF m 93 #[.val (.int p1), .val (.long p2), .second, .val (.long p3), .second, .val (.long p4), .second, .val (.int p5), .val (.long am), .second, .val (.long tt), .second, .val (.ref b3), .val (.long (tt + (p5.toInt64))), .second, .val (.long (0 : Int64)), .second, .val (.int (1 : Int32)), .unset] [(.int p5)])) (fun tz kz => ?_) ?_
        · show Steps p.tables e below (T15.setTop (mkF m 73 #[.val (.int p1), .val (.long p2), .second, .val (.long p3), .second, .val (.long p4), .second, .val (.int p5), .val (.long am), .second, .val (.long tt), .second, .val (.ref b3), .val (.long (tt + (p5.toInt64))), .second, .unset, .unset, .unset, .unset] [(.long (0 : Int64))])) _
          refine XS.lstore X15.here hx rfl (hb hby at_73) rfl (l' := #[.val (.int p1), .val (.long p2), .second, .val (.long p3), .second, .val (.long p4), .second, .val (.int p5), .val (.long am), .second, .val (.long tt), .second, .val (.ref b3), .val (.long (tt + (p5.toInt64))), .second, .val (.long (0 : Int64)), .second, .unset, .unset]) rfl ?_
          refine XS.lload X15.here hx rfl (hb hby at_75) rfl ?_
          refine X15.ldc2Long hx hown (mvT hZ (w_ hw 38 rfl)) (g := (mkF m 77 #[.val (.int p1), .val (.long p2), .second, .val (.long p3), .second, .val (.long p4), .second, .val (.int p5), .val (.long am), .second, .val (.long tt), .second, .val (.ref b3), .val (.long (tt + (p5.toInt64))), .second, .val (.long (0 : Int64)), .second, .unset, .unset] [(.long am)])) rfl (hb hby at_77) _ ?_
          refine XS.lcmp X15.here hx rfl (hb hby at_80) rfl ?_
          show Steps p.tables e below (T15.setTop (mkF m 81 #[.val (.int p1), .val (.long p2), .second, .val (.long p3), .second, .val (.long p4), .second, .val (.int p5), .val (.long am), .second, .val (.long tt), .second, .val (.ref b3), .val (.long (tt + (p5.toInt64))), .second, .val (.long (0 : Int64)), .second, .unset, .unset] [(.int (lcmpW am (4294967296 : Int64)))])) _
          refine XS.ifNo X15.here hx rfl (hb hby at_81) rfl ((if0 _ _).trans (tlt ((lw_gt _ _).mpr hc)).2.2.2) ?_
          refine XS.iconst X15.here hx rfl (hb hby at_84) ?_
          refine XS.goto X15.here hx rfl (pc0 := 85) (pc' := 89) rfl (hb hby at_85) (by decide) (by decide) ?_
          refine XS.istore X15.here hx rfl (hb hby at_89) rfl (l' := #[.val (.int p1), .val (.long p2), .second, .val (.long p3), .second, .val (.long p4), .second, .val (.int p5), .val (.long am), .second, .val (.long tt), .second, .val (.ref b3), .val (.long (tt + (p5.toInt64))), .second, .val (.long (0 : Int64)), .second, .val (.int (1 : Int32)), .unset]) rfl ?_
          show Steps p.tables e below (T15.setTop (mkF m 91 #[.val (.int p1), .val (.long p2), .second, .val (.long p3), .second, .val (.long p4), .second, .val (.int p5), .val (.long am), .second, .val (.long tt), .second, .val (.ref b3), .val (.long (tt + (p5.toInt64))), .second, .val (.long (0 : Int64)), .second, .val (.int (1 : Int32)), .unset] [])) _
          refine XS.iload X15.here hx rfl (hb hby at_91) rfl ?_
          exact kz
        obtain ⟨r19, hr19⟩ : ∃ zz_ : Int32, zz_ = (if (0 : Int32) < p5 then (if ((9223372036854775807 : Int64) - (p5.toInt64)) < tt then (1 : Int32) else (0 : Int32)) else (if tt < ((-9223372036854775808 : Int64) - (p5.toInt64)) then (1 : Int32) else (0 : Int32))) := ⟨_, rfl⟩
        have j93_20 : ∀ t, Steps p.tables e below (T15.setTop (mkF m 139 #[.val (.int p1), .val (.long p2), .second, .val (.long p3), .second, .val (.long p4), .second, .val (.int p5), .val (.long am), .second, .val (.long tt), .second, .val (.ref b3), .val (.long (tt + (p5.toInt64))), .second, .val (.long (0 : Int64)), .second, .val (.int (1 : Int32)), .val (.int r19)] [])) t → Steps p.tables e below (T15.setTop (mkF m 93 #[.val (.int p1), .val (.long p2), .second, .val (.long p3), .second, .val (.long p4), .second, .val (.int p5), .val (.long am), .second, .val (.long tt), .second, .val (.ref b3), .val (.long (tt + (p5.toInt64))), .second, .val (.long (0 : Int64)), .second, .val (.int (1 : Int32)), .unset] [(.int p5)])) t := by
          intro tz kz
          by_cases hc93_16 : (0 : Int32) < p5
          · rw [if_pos hc93_16] at hr19
            show Steps p.tables e below (T15.setTop (mkF m 93 #[.val (.int p1), .val (.long p2), .second, .val (.long p3), .second, .val (.long p4), .second, .val (.int p5), .val (.long am), .second, .val (.long tt), .second, .val (.ref b3), .val (.long (tt + (p5.toInt64))), .second, .val (.long (0 : Int64)), .second, .val (.int (1 : Int32)), .unset] [(.int p5)])) _
            refine XS.ifNo X15.here hx rfl (hb hby at_93) rfl ((if0 _ _).trans (tlt hc93_16).2.2.2) ?_
            refine XS.lload X15.here hx rfl (hb hby at_96) rfl ?_
            refine X15.ldc2Long hx hown (mvT hZ (w_ hw 39 rfl)) (g := (mkF m 98 #[.val (.int p1), .val (.long p2), .second, .val (.long p3), .second, .val (.long p4), .second, .val (.int p5), .val (.long am), .second, .val (.long tt), .second, .val (.ref b3), .val (.long (tt + (p5.toInt64))), .second, .val (.long (0 : Int64)), .second, .val (.int (1 : Int32)), .unset] [(.long tt)])) rfl (hb hby at_98) _ ?_
            refine XS.iload X15.here hx rfl (hb hby at_101) rfl ?_
            show Steps p.tables e below (T15.setTop (mkF m 103 #[.val (.int p1), .val (.long p2), .second, .val (.long p3), .second, .val (.long p4), .second, .val (.int p5), .val (.long am), .second, .val (.long tt), .second, .val (.ref b3), .val (.long (tt + (p5.toInt64))), .second, .val (.long (0 : Int64)), .second, .val (.int (1 : Int32)), .unset] [(.int p5), (.long (9223372036854775807 : Int64)), (.long tt)])) _
            refine XS.i2l X15.here hx rfl (hb hby at_103) rfl ?_
            refine XS.lsub X15.here hx rfl (hb hby at_104) rfl ?_
            refine XS.lcmp X15.here hx rfl (hb hby at_105) rfl ?_
            by_cases hc106_17 : ((9223372036854775807 : Int64) - (p5.toInt64)) < tt
            · rw [if_pos hc106_17] at hr19
              show Steps p.tables e below (T15.setTop (mkF m 106 #[.val (.int p1), .val (.long p2), .second, .val (.long p3), .second, .val (.long p4), .second, .val (.int p5), .val (.long am), .second, .val (.long tt), .second, .val (.ref b3), .val (.long (tt + (p5.toInt64))), .second, .val (.long (0 : Int64)), .second, .val (.int (1 : Int32)), .unset] [(.int (lcmpW tt ((9223372036854775807 : Int64) - (p5.toInt64))))])) _
              refine XS.ifNo X15.here hx rfl (hb hby at_106) rfl ((if0 _ _).trans (tlt ((lw_gt _ _).mpr hc106_17)).2.2.2) ?_
              refine XS.iconst X15.here hx rfl (hb hby at_109) ?_
              refine XS.goto X15.here hx rfl (pc0 := 110) (pc' := 114) rfl (hb hby at_110) (by decide) (by decide) ?_
              refine XS.istore X15.here hx rfl (hb hby at_114) rfl (l' := #[.val (.int p1), .val (.long p2), .second, .val (.long p3), .second, .val (.long p4), .second, .val (.int p5), .val (.long am), .second, .val (.long tt), .second, .val (.ref b3), .val (.long (tt + (p5.toInt64))), .second, .val (.long (0 : Int64)), .second, .val (.int (1 : Int32)), .val (.int (1 : Int32))]) rfl ?_
              show Steps p.tables e below (T15.setTop (mkF m 116 #[.val (.int p1), .val (.long p2), .second, .val (.long p3), .second, .val (.long p4), .second, .val (.int p5), .val (.long am), .second, .val (.long tt), .second, .val (.ref b3), .val (.long (tt + (p5.toInt64))), .second, .val (.long (0 : Int64)), .second, .val (.int (1 : Int32)), .val (.int (1 : Int32))] [])) _
              refine XS.goto X15.here hx rfl (pc0 := 116) (pc' := 139) rfl (hb hby at_116) (by decide) (by decide) ?_
              subst hr19
              exact kz
            · rw [if_neg hc106_17] at hr19
              show Steps p.tables e below (T15.setTop (mkF m 106 #[.val (.int p1), .val (.long p2), .second, .val (.long p3), .second, .val (.long p4), .second, .val (.int p5), .val (.long am), .second, .val (.long tt), .second, .val (.ref b3), .val (.long (tt + (p5.toInt64))), .second, .val (.long (0 : Int64)), .second, .val (.int (1 : Int32)), .unset] [(.int (lcmpW tt ((9223372036854775807 : Int64) - (p5.toInt64))))])) _
              refine XS.ifYes X15.here hx rfl (pc0 := 106) (pc' := 113) rfl (hb hby at_106) rfl ((if0 _ _).trans (flt (mt (lw_gt _ _).mp hc106_17)).2.2.2) (by decide) (by decide) ?_
              refine XS.iconst X15.here hx rfl (hb hby at_113) ?_
              refine XS.istore X15.here hx rfl (hb hby at_114) rfl (l' := #[.val (.int p1), .val (.long p2), .second, .val (.long p3), .second, .val (.long p4), .second, .val (.int p5), .val (.long am), .second, .val (.long tt), .second, .val (.ref b3), .val (.long (tt + (p5.toInt64))), .second, .val (.long (0 : Int64)), .second, .val (.int (1 : Int32)), .val (.int (0 : Int32))]) rfl ?_
              refine XS.goto X15.here hx rfl (pc0 := 116) (pc' := 139) rfl (hb hby at_116) (by decide) (by decide) ?_
              subst hr19
              exact kz
          · rw [if_neg hc93_16] at hr19
            show Steps p.tables e below (T15.setTop (mkF m 93 #[.val (.int p1), .val (.long p2), .second, .val (.long p3), .second, .val (.long p4), .second, .val (.int p5), .val (.long am), .second, .val (.long tt), .second, .val (.ref b3), .val (.long (tt + (p5.toInt64))), .second, .val (.long (0 : Int64)), .second, .val (.int (1 : Int32)), .unset] [(.int p5)])) _
            refine XS.ifYes X15.here hx rfl (pc0 := 93) (pc' := 119) rfl (hb hby at_93) rfl ((if0 _ _).trans (flt hc93_16).2.2.2) (by decide) (by decide) ?_
            refine XS.lload X15.here hx rfl (hb hby at_119) rfl ?_
            refine X15.ldc2Long hx hown (mvT hZ (w_ hw 130 rfl)) (g := (mkF m 121 #[.val (.int p1), .val (.long p2), .second, .val (.long p3), .second, .val (.long p4), .second, .val (.int p5), .val (.long am), .second, .val (.long tt), .second, .val (.ref b3), .val (.long (tt + (p5.toInt64))), .second, .val (.long (0 : Int64)), .second, .val (.int (1 : Int32)), .unset] [(.long tt)])) rfl (hb hby at_121) _ ?_
            refine XS.iload X15.here hx rfl (hb hby at_124) rfl ?_
            show Steps p.tables e below (T15.setTop (mkF m 126 #[.val (.int p1), .val (.long p2), .second, .val (.long p3), .second, .val (.long p4), .second, .val (.int p5), .val (.long am), .second, .val (.long tt), .second, .val (.ref b3), .val (.long (tt + (p5.toInt64))), .second, .val (.long (0 : Int64)), .second, .val (.int (1 : Int32)), .unset] [(.int p5), (.long (-9223372036854775808 : Int64)), (.long tt)])) _
            refine XS.i2l X15.here hx rfl (hb hby at_126) rfl ?_
            refine XS.lsub X15.here hx rfl (hb hby at_127) rfl ?_
            refine XS.lcmp X15.here hx rfl (hb hby at_128) rfl ?_
            by_cases hc129_18 : tt < ((-9223372036854775808 : Int64) - (p5.toInt64))
            · rw [if_pos hc129_18] at hr19
              show Steps p.tables e below (T15.setTop (mkF m 129 #[.val (.int p1), .val (.long p2), .second, .val (.long p3), .second, .val (.long p4), .second, .val (.int p5), .val (.long am), .second, .val (.long tt), .second, .val (.ref b3), .val (.long (tt + (p5.toInt64))), .second, .val (.long (0 : Int64)), .second, .val (.int (1 : Int32)), .unset] [(.int (lcmpW tt ((-9223372036854775808 : Int64) - (p5.toInt64))))])) _
              refine XS.ifNo X15.here hx rfl (hb hby at_129) rfl ((if0 _ _).trans (tlt ((lw_lt _ _).mpr hc129_18)).2.1) ?_
              refine XS.iconst X15.here hx rfl (hb hby at_132) ?_
              refine XS.goto X15.here hx rfl (pc0 := 133) (pc' := 137) rfl (hb hby at_133) (by decide) (by decide) ?_
              refine XS.istore X15.here hx rfl (hb hby at_137) rfl (l' := #[.val (.int p1), .val (.long p2), .second, .val (.long p3), .second, .val (.long p4), .second, .val (.int p5), .val (.long am), .second, .val (.long tt), .second, .val (.ref b3), .val (.long (tt + (p5.toInt64))), .second, .val (.long (0 : Int64)), .second, .val (.int (1 : Int32)), .val (.int (1 : Int32))]) rfl ?_
              subst hr19
              exact kz
            · rw [if_neg hc129_18] at hr19
              show Steps p.tables e below (T15.setTop (mkF m 129 #[.val (.int p1), .val (.long p2), .second, .val (.long p3), .second, .val (.long p4), .second, .val (.int p5), .val (.long am), .second, .val (.long tt), .second, .val (.ref b3), .val (.long (tt + (p5.toInt64))), .second, .val (.long (0 : Int64)), .second, .val (.int (1 : Int32)), .unset] [(.int (lcmpW tt ((-9223372036854775808 : Int64) - (p5.toInt64))))])) _
              refine XS.ifYes X15.here hx rfl (pc0 := 129) (pc' := 136) rfl (hb hby at_129) rfl ((if0 _ _).trans (flt (mt (lw_lt _ _).mp hc129_18)).2.1) (by decide) (by decide) ?_
              refine XS.iconst X15.here hx rfl (hb hby at_136) ?_
              refine XS.istore X15.here hx rfl (hb hby at_137) rfl (l' := #[.val (.int p1), .val (.long p2), .second, .val (.long p3), .second, .val (.long p4), .second, .val (.int p5), .val (.long am), .second, .val (.long tt), .second, .val (.ref b3), .val (.long (tt + (p5.toInt64))), .second, .val (.long (0 : Int64)), .second, .val (.int (1 : Int32)), .val (.int (0 : Int32))]) rfl ?_
              subst hr19
              exact kz
        refine Goes.via j93_20 ?_
        refine Goes.via (S' := T15.setTop (mkF m 196 #[.val (.int p1), .val (.long p2), .second, .val (.long p3), .second, .val (.long p4), .second, .val (.int p5), .val (.long am), .second, .val (.long tt), .second, .val (.ref b3), .val (.long (tt + (p5.toInt64))), .second, .val (.long (0 : Int64)), .second, .val (.int (1 : Int32)), .val (.int r19)] [(.int (1 : Int32))])) (fun tz kz => ?_) ?_
        · show Steps p.tables e below (T15.setTop (mkF m 139 #[.val (.int p1), .val (.long p2), .second, .val (.long p3), .second, .val (.long p4), .second, .val (.int p5), .val (.long am), .second, .val (.long tt), .second, .val (.ref b3), .val (.long (tt + (p5.toInt64))), .second, .val (.long (0 : Int64)), .second, .val (.int (1 : Int32)), .val (.int r19)] [])) _
          refine XS.iload X15.here hx rfl (hb hby at_139) rfl ?_
          refine XS.ifNo X15.here hx rfl (hb hby at_141) rfl ((if0 _ _).trans (feq (by first | decide | rfl)).1) ?_
          refine XS.iload X15.here hx rfl (hb hby at_144) rfl ?_
          refine XS.ifYes X15.here hx rfl (pc0 := 146) (pc' := 172) rfl (hb hby at_146) rfl ((if0 _ _).trans (teq ((own_law tt p5 r19 hr19).mpr ho)).1) (by decide) (by decide) ?_
          show Steps p.tables e below (T15.setTop (mkF m 172 #[.val (.int p1), .val (.long p2), .second, .val (.long p3), .second, .val (.long p4), .second, .val (.int p5), .val (.long am), .second, .val (.long tt), .second, .val (.ref b3), .val (.long (tt + (p5.toInt64))), .second, .val (.long (0 : Int64)), .second, .val (.int (1 : Int32)), .val (.int r19)] [])) _
          refine XS.lload X15.here hx rfl (hb hby at_172) rfl ?_
          refine XS.lload X15.here hx rfl (hb hby at_174) rfl ?_
          refine XS.iload X15.here hx rfl (hb hby at_176) rfl ?_
          refine XS.i2l X15.here hx rfl (hb hby at_178) rfl ?_
          show Steps p.tables e below (T15.setTop (mkF m 179 #[.val (.int p1), .val (.long p2), .second, .val (.long p3), .second, .val (.long p4), .second, .val (.int p5), .val (.long am), .second, .val (.long tt), .second, .val (.ref b3), .val (.long (tt + (p5.toInt64))), .second, .val (.long (0 : Int64)), .second, .val (.int (1 : Int32)), .val (.int r19)] [(.long (p5.toInt64)), (.long tt), (.long (tt + (p5.toInt64)))])) _
          refine XS.ladd X15.here hx rfl (hb hby at_179) rfl ?_
          refine XS.lcmp X15.here hx rfl (hb hby at_180) rfl ?_
          refine XS.ifNo X15.here hx rfl (hb hby at_181) rfl ((if0 _ _).trans (teq ((lw_eq _ _).mpr rfl)).2) ?_
          refine XS.lload X15.here hx rfl (hb hby at_184) rfl ?_
          show Steps p.tables e below (T15.setTop (mkF m 186 #[.val (.int p1), .val (.long p2), .second, .val (.long p3), .second, .val (.long p4), .second, .val (.int p5), .val (.long am), .second, .val (.long tt), .second, .val (.ref b3), .val (.long (tt + (p5.toInt64))), .second, .val (.long (0 : Int64)), .second, .val (.int (1 : Int32)), .val (.int r19)] [(.long (0 : Int64))])) _
          refine XS.lconst X15.here hx rfl (hb hby at_186) ?_
          refine XS.lcmp X15.here hx rfl (hb hby at_187) rfl ?_
          refine XS.ifNo X15.here hx rfl (hb hby at_188) rfl ((if0 _ _).trans (teq ((lw_eq _ _).mpr rfl)).2) ?_
          refine XS.iconst X15.here hx rfl (hb hby at_191) ?_
          show Steps p.tables e below (T15.setTop (mkF m 192 #[.val (.int p1), .val (.long p2), .second, .val (.long p3), .second, .val (.long p4), .second, .val (.int p5), .val (.long am), .second, .val (.long tt), .second, .val (.ref b3), .val (.long (tt + (p5.toInt64))), .second, .val (.long (0 : Int64)), .second, .val (.int (1 : Int32)), .val (.int r19)] [(.int (1 : Int32))])) _
          refine XS.goto X15.here hx rfl (pc0 := 192) (pc' := 196) rfl (hb hby at_192) (by decide) (by decide) ?_
          exact kz
        exact Goes.retNW (s := s) (vm1 := s.vm) X15 hx Bd.notSynchronized ((State.WarmedH.refl s).since 0) (Nat.zero_le _) (t := .boolean) Bd.returns (by simp) (hb hby at_196) (Nat.le_of_ble_eq_true rfl) (Nat.le_of_ble_eq_true rfl) ⟨rfl, Nf15⟩
    · rw [own_ck0 hc] at Fd6
      obtain ⟨cq21, kq21, q21a, q21b, q21c⟩ := isOf hZ rfl E6_
      obtain ⟨_, _, ⟨T21, L21, k21, n21⟩, -, X21, ⟨Lc21, hQ21, l21, y21, z21⟩, st21⟩ := X6.virtualBack hx (y := (⟨"lambdary/statistics/IntegralSum", "fold", "(JI)J"⟩ : MethodName)) (z := (⟨"lambdary/statistics/IntegralSum", "fold", "(JI)J"⟩ : MethodName)) hown (mvT hZ (w_ hw 24 rfl)) (mvT hZ (w_ hw 25 rfl)) (notFace_of_selects (args := #[]) (mvT hZ (w_ hw 27 rfl))) (mvT hZ (w_ hw 27 rfl)) (mvT hZ (w_ hw 26 rfl)) (by decide) (backOf (W := 0) (rfi_u l Z a0 hw [] b3 tt p5 (0 : Int64) (0 : Int64) (0 : Int32) (0 : Int32) T6.heap n0 Z_6 E6_ Fa6 Fb6 Fc6 Fd6 g1) hZ (w_ hw 28 rfl) (w_ hw 9 rfl) (by decide) (by decide)) q21a q21c (g := (mkF m 63 #[.val (.int p1), .val (.long p2), .second, .val (.long p3), .second, .val (.long p4), .second, .val (.int p5), .val (.long am), .second, .val (.long tt), .second, .val (.ref b3), .unset, .unset, .unset, .unset, .unset, .unset] [(.int p5), (.long tt), (.ref b3)])) rfl (by rw [hml]; rfl) (Steps.refl _) (argsL := [(.long tt), (.int p5)]) (rest := []) (lenOf pd_7 rfl) rfl (by show 2 * 0 + _ ≤ _; exact Nat.le_of_eq rfl) (hb hby at_63) (fun _ _ => ⟨rfl, rfl, (by decide : 1 + 0 ≤ _), (by decide : 4 + 0 ≤ _)⟩)
      dsimp only [Pt.U, Pt.locs, Pt.cells, Pt.slots] at X21 l21 y21 z21 st21 hQ21
      subst l21 y21 z21
      obtain ⟨rfl, N21, e21⟩ := hQ21
      have Nf21 := Fr.app Nf6 N21
      refine Goes.via (S' := T21.setTop (mkF m 66 #[.val (.int p1), .val (.long p2), .second, .val (.long p3), .second, .val (.long p4), .second, .val (.int p5), .val (.long am), .second, .val (.long tt), .second, .val (.ref b3), .unset, .unset, .unset, .unset, .unset, .unset] [(.long (tt + (p5.toInt64)))])) (fun _ kz => st21.trans kz) ?_
      refine Goes.via (S' := T21.setTop (mkF m 70 #[.val (.int p1), .val (.long p2), .second, .val (.long p3), .second, .val (.long p4), .second, .val (.int p5), .val (.long am), .second, .val (.long tt), .second, .val (.ref b3), .val (.long (tt + (p5.toInt64))), .second, .unset, .unset, .unset, .unset] [(.ref b3)])) (fun tz kz => ?_) ?_
      · show Steps p.tables e below (T21.setTop (mkF m 66 #[.val (.int p1), .val (.long p2), .second, .val (.long p3), .second, .val (.long p4), .second, .val (.int p5), .val (.long am), .second, .val (.long tt), .second, .val (.ref b3), .unset, .unset, .unset, .unset, .unset, .unset] [(.long (tt + (p5.toInt64)))])) _
        refine XS.lstore X21.here hx rfl (hb hby at_66) rfl (l' := #[.val (.int p1), .val (.long p2), .second, .val (.long p3), .second, .val (.long p4), .second, .val (.int p5), .val (.long am), .second, .val (.long tt), .second, .val (.ref b3), .val (.long (tt + (p5.toInt64))), .second, .unset, .unset, .unset, .unset]) rfl ?_
        refine XS.aload X21.here hx rfl (hb hby at_68) rfl rfl ?_
        exact kz
      obtain ⟨cq22, kq22, q22a, q22b, q22c⟩ := isOf hZ e21 E6_
      obtain ⟨_, _, ⟨T22, L22, k22, n22⟩, -, X22, ⟨Lc22, hQ22, l22, y22, z22⟩, st22⟩ := X21.virtualBack hx (y := (⟨"lambdary/statistics/IntegralSum", "sum", "()J"⟩ : MethodName)) (z := (⟨"lambdary/statistics/IntegralSum", "sum", "()J"⟩ : MethodName)) hown (mvT hZ (w_ hw 29 rfl)) (mvT hZ (w_ hw 30 rfl)) (notFace_of_selects (args := #[]) (mvT hZ (w_ hw 32 rfl))) (mvT hZ (w_ hw 32 rfl)) (mvT hZ (w_ hw 31 rfl)) (by decide) (backOf (W := 0) (rsm l Z a0 hw [] b3 (0 : Int64) (0 : Int64) (0 : Int32) (0 : Int32) T6.heap n0 Z_6 E6_ Fa6 Fb6 Fc6 Fd6 g1) hZ (w_ hw 33 rfl) (w_ hw 9 rfl) (by decide) (by decide)) q22a q22c (g := (mkF m 70 #[.val (.int p1), .val (.long p2), .second, .val (.long p3), .second, .val (.long p4), .second, .val (.int p5), .val (.long am), .second, .val (.long tt), .second, .val (.ref b3), .val (.long (tt + (p5.toInt64))), .second, .unset, .unset, .unset, .unset] [(.ref b3)])) rfl (by rw [hml]; rfl) (Steps.refl _) (argsL := []) (rest := []) (lenOf pd_8 rfl) rfl (by show 2 * 0 + _ ≤ _; exact Nat.le_of_eq rfl) (hb hby at_70) (fun _ _ => ⟨rfl, e21, (by decide : 1 + 0 ≤ _), (by decide : 4 + 0 ≤ _)⟩)
      dsimp only [Pt.U, Pt.locs, Pt.cells, Pt.slots] at X22 l22 y22 z22 st22 hQ22
      subst l22 y22 z22
      obtain ⟨rfl, N22, e22⟩ := hQ22
      have Nf22 := Fr.app Nf21 N22
      refine Goes.via (S' := T22.setTop (mkF m 73 #[.val (.int p1), .val (.long p2), .second, .val (.long p3), .second, .val (.long p4), .second, .val (.int p5), .val (.long am), .second, .val (.long tt), .second, .val (.ref b3), .val (.long (tt + (p5.toInt64))), .second, .unset, .unset, .unset, .unset] [(.long (0 : Int64))])) (fun _ kz => st22.trans kz) ?_
      refine Goes.via (S' := T22.setTop (mkF m 93 #[.val (.int p1), .val (.long p2), .second, .val (.long p3), .second, .val (.long p4), .second, .val (.int p5), .val (.long am), .second, .val (.long tt), .second, .val (.ref b3), .val (.long (tt + (p5.toInt64))), .second, .val (.long (0 : Int64)), .second, .val (.int (0 : Int32)), .unset] [(.int p5)])) (fun tz kz => ?_) ?_
      · show Steps p.tables e below (T22.setTop (mkF m 73 #[.val (.int p1), .val (.long p2), .second, .val (.long p3), .second, .val (.long p4), .second, .val (.int p5), .val (.long am), .second, .val (.long tt), .second, .val (.ref b3), .val (.long (tt + (p5.toInt64))), .second, .unset, .unset, .unset, .unset] [(.long (0 : Int64))])) _
        refine XS.lstore X22.here hx rfl (hb hby at_73) rfl (l' := #[.val (.int p1), .val (.long p2), .second, .val (.long p3), .second, .val (.long p4), .second, .val (.int p5), .val (.long am), .second, .val (.long tt), .second, .val (.ref b3), .val (.long (tt + (p5.toInt64))), .second, .val (.long (0 : Int64)), .second, .unset, .unset]) rfl ?_
        refine XS.lload X22.here hx rfl (hb hby at_75) rfl ?_
        refine X22.ldc2Long hx hown (mvT hZ (w_ hw 38 rfl)) (g := (mkF m 77 #[.val (.int p1), .val (.long p2), .second, .val (.long p3), .second, .val (.long p4), .second, .val (.int p5), .val (.long am), .second, .val (.long tt), .second, .val (.ref b3), .val (.long (tt + (p5.toInt64))), .second, .val (.long (0 : Int64)), .second, .unset, .unset] [(.long am)])) rfl (hb hby at_77) _ ?_
        refine XS.lcmp X22.here hx rfl (hb hby at_80) rfl ?_
        show Steps p.tables e below (T22.setTop (mkF m 81 #[.val (.int p1), .val (.long p2), .second, .val (.long p3), .second, .val (.long p4), .second, .val (.int p5), .val (.long am), .second, .val (.long tt), .second, .val (.ref b3), .val (.long (tt + (p5.toInt64))), .second, .val (.long (0 : Int64)), .second, .unset, .unset] [(.int (lcmpW am (4294967296 : Int64)))])) _
        refine XS.ifYes X22.here hx rfl (pc0 := 81) (pc' := 88) rfl (hb hby at_81) rfl ((if0 _ _).trans (flt (mt (lw_gt _ _).mp hc)).2.2.2) (by decide) (by decide) ?_
        refine XS.iconst X22.here hx rfl (hb hby at_88) ?_
        refine XS.istore X22.here hx rfl (hb hby at_89) rfl (l' := #[.val (.int p1), .val (.long p2), .second, .val (.long p3), .second, .val (.long p4), .second, .val (.int p5), .val (.long am), .second, .val (.long tt), .second, .val (.ref b3), .val (.long (tt + (p5.toInt64))), .second, .val (.long (0 : Int64)), .second, .val (.int (0 : Int32)), .unset]) rfl ?_
        refine XS.iload X22.here hx rfl (hb hby at_91) rfl ?_
        exact kz
      obtain ⟨r26, hr26⟩ : ∃ zz_ : Int32, zz_ = (if (0 : Int32) < p5 then (if ((9223372036854775807 : Int64) - (p5.toInt64)) < tt then (1 : Int32) else (0 : Int32)) else (if tt < ((-9223372036854775808 : Int64) - (p5.toInt64)) then (1 : Int32) else (0 : Int32))) := ⟨_, rfl⟩
      have j93_27 : ∀ t, Steps p.tables e below (T22.setTop (mkF m 139 #[.val (.int p1), .val (.long p2), .second, .val (.long p3), .second, .val (.long p4), .second, .val (.int p5), .val (.long am), .second, .val (.long tt), .second, .val (.ref b3), .val (.long (tt + (p5.toInt64))), .second, .val (.long (0 : Int64)), .second, .val (.int (0 : Int32)), .val (.int r26)] [])) t → Steps p.tables e below (T22.setTop (mkF m 93 #[.val (.int p1), .val (.long p2), .second, .val (.long p3), .second, .val (.long p4), .second, .val (.int p5), .val (.long am), .second, .val (.long tt), .second, .val (.ref b3), .val (.long (tt + (p5.toInt64))), .second, .val (.long (0 : Int64)), .second, .val (.int (0 : Int32)), .unset] [(.int p5)])) t := by
        intro tz kz
        by_cases hc93_23 : (0 : Int32) < p5
        · rw [if_pos hc93_23] at hr26
          show Steps p.tables e below (T22.setTop (mkF m 93 #[.val (.int p1), .val (.long p2), .second, .val (.long p3), .second, .val (.long p4), .second, .val (.int p5), .val (.long am), .second, .val (.long tt), .second, .val (.ref b3), .val (.long (tt + (p5.toInt64))), .second, .val (.long (0 : Int64)), .second, .val (.int (0 : Int32)), .unset] [(.int p5)])) _
          refine XS.ifNo X22.here hx rfl (hb hby at_93) rfl ((if0 _ _).trans (tlt hc93_23).2.2.2) ?_
          refine XS.lload X22.here hx rfl (hb hby at_96) rfl ?_
          refine X22.ldc2Long hx hown (mvT hZ (w_ hw 39 rfl)) (g := (mkF m 98 #[.val (.int p1), .val (.long p2), .second, .val (.long p3), .second, .val (.long p4), .second, .val (.int p5), .val (.long am), .second, .val (.long tt), .second, .val (.ref b3), .val (.long (tt + (p5.toInt64))), .second, .val (.long (0 : Int64)), .second, .val (.int (0 : Int32)), .unset] [(.long tt)])) rfl (hb hby at_98) _ ?_
          refine XS.iload X22.here hx rfl (hb hby at_101) rfl ?_
          show Steps p.tables e below (T22.setTop (mkF m 103 #[.val (.int p1), .val (.long p2), .second, .val (.long p3), .second, .val (.long p4), .second, .val (.int p5), .val (.long am), .second, .val (.long tt), .second, .val (.ref b3), .val (.long (tt + (p5.toInt64))), .second, .val (.long (0 : Int64)), .second, .val (.int (0 : Int32)), .unset] [(.int p5), (.long (9223372036854775807 : Int64)), (.long tt)])) _
          refine XS.i2l X22.here hx rfl (hb hby at_103) rfl ?_
          refine XS.lsub X22.here hx rfl (hb hby at_104) rfl ?_
          refine XS.lcmp X22.here hx rfl (hb hby at_105) rfl ?_
          by_cases hc106_24 : ((9223372036854775807 : Int64) - (p5.toInt64)) < tt
          · rw [if_pos hc106_24] at hr26
            show Steps p.tables e below (T22.setTop (mkF m 106 #[.val (.int p1), .val (.long p2), .second, .val (.long p3), .second, .val (.long p4), .second, .val (.int p5), .val (.long am), .second, .val (.long tt), .second, .val (.ref b3), .val (.long (tt + (p5.toInt64))), .second, .val (.long (0 : Int64)), .second, .val (.int (0 : Int32)), .unset] [(.int (lcmpW tt ((9223372036854775807 : Int64) - (p5.toInt64))))])) _
            refine XS.ifNo X22.here hx rfl (hb hby at_106) rfl ((if0 _ _).trans (tlt ((lw_gt _ _).mpr hc106_24)).2.2.2) ?_
            refine XS.iconst X22.here hx rfl (hb hby at_109) ?_
            refine XS.goto X22.here hx rfl (pc0 := 110) (pc' := 114) rfl (hb hby at_110) (by decide) (by decide) ?_
            refine XS.istore X22.here hx rfl (hb hby at_114) rfl (l' := #[.val (.int p1), .val (.long p2), .second, .val (.long p3), .second, .val (.long p4), .second, .val (.int p5), .val (.long am), .second, .val (.long tt), .second, .val (.ref b3), .val (.long (tt + (p5.toInt64))), .second, .val (.long (0 : Int64)), .second, .val (.int (0 : Int32)), .val (.int (1 : Int32))]) rfl ?_
            show Steps p.tables e below (T22.setTop (mkF m 116 #[.val (.int p1), .val (.long p2), .second, .val (.long p3), .second, .val (.long p4), .second, .val (.int p5), .val (.long am), .second, .val (.long tt), .second, .val (.ref b3), .val (.long (tt + (p5.toInt64))), .second, .val (.long (0 : Int64)), .second, .val (.int (0 : Int32)), .val (.int (1 : Int32))] [])) _
            refine XS.goto X22.here hx rfl (pc0 := 116) (pc' := 139) rfl (hb hby at_116) (by decide) (by decide) ?_
            subst hr26
            exact kz
          · rw [if_neg hc106_24] at hr26
            show Steps p.tables e below (T22.setTop (mkF m 106 #[.val (.int p1), .val (.long p2), .second, .val (.long p3), .second, .val (.long p4), .second, .val (.int p5), .val (.long am), .second, .val (.long tt), .second, .val (.ref b3), .val (.long (tt + (p5.toInt64))), .second, .val (.long (0 : Int64)), .second, .val (.int (0 : Int32)), .unset] [(.int (lcmpW tt ((9223372036854775807 : Int64) - (p5.toInt64))))])) _
            refine XS.ifYes X22.here hx rfl (pc0 := 106) (pc' := 113) rfl (hb hby at_106) rfl ((if0 _ _).trans (flt (mt (lw_gt _ _).mp hc106_24)).2.2.2) (by decide) (by decide) ?_
            refine XS.iconst X22.here hx rfl (hb hby at_113) ?_
            refine XS.istore X22.here hx rfl (hb hby at_114) rfl (l' := #[.val (.int p1), .val (.long p2), .second, .val (.long p3), .second, .val (.long p4), .second, .val (.int p5), .val (.long am), .second, .val (.long tt), .second, .val (.ref b3), .val (.long (tt + (p5.toInt64))), .second, .val (.long (0 : Int64)), .second, .val (.int (0 : Int32)), .val (.int (0 : Int32))]) rfl ?_
            refine XS.goto X22.here hx rfl (pc0 := 116) (pc' := 139) rfl (hb hby at_116) (by decide) (by decide) ?_
            subst hr26
            exact kz
        · rw [if_neg hc93_23] at hr26
          show Steps p.tables e below (T22.setTop (mkF m 93 #[.val (.int p1), .val (.long p2), .second, .val (.long p3), .second, .val (.long p4), .second, .val (.int p5), .val (.long am), .second, .val (.long tt), .second, .val (.ref b3), .val (.long (tt + (p5.toInt64))), .second, .val (.long (0 : Int64)), .second, .val (.int (0 : Int32)), .unset] [(.int p5)])) _
          refine XS.ifYes X22.here hx rfl (pc0 := 93) (pc' := 119) rfl (hb hby at_93) rfl ((if0 _ _).trans (flt hc93_23).2.2.2) (by decide) (by decide) ?_
          refine XS.lload X22.here hx rfl (hb hby at_119) rfl ?_
          refine X22.ldc2Long hx hown (mvT hZ (w_ hw 130 rfl)) (g := (mkF m 121 #[.val (.int p1), .val (.long p2), .second, .val (.long p3), .second, .val (.long p4), .second, .val (.int p5), .val (.long am), .second, .val (.long tt), .second, .val (.ref b3), .val (.long (tt + (p5.toInt64))), .second, .val (.long (0 : Int64)), .second, .val (.int (0 : Int32)), .unset] [(.long tt)])) rfl (hb hby at_121) _ ?_
          refine XS.iload X22.here hx rfl (hb hby at_124) rfl ?_
          show Steps p.tables e below (T22.setTop (mkF m 126 #[.val (.int p1), .val (.long p2), .second, .val (.long p3), .second, .val (.long p4), .second, .val (.int p5), .val (.long am), .second, .val (.long tt), .second, .val (.ref b3), .val (.long (tt + (p5.toInt64))), .second, .val (.long (0 : Int64)), .second, .val (.int (0 : Int32)), .unset] [(.int p5), (.long (-9223372036854775808 : Int64)), (.long tt)])) _
          refine XS.i2l X22.here hx rfl (hb hby at_126) rfl ?_
          refine XS.lsub X22.here hx rfl (hb hby at_127) rfl ?_
          refine XS.lcmp X22.here hx rfl (hb hby at_128) rfl ?_
          by_cases hc129_25 : tt < ((-9223372036854775808 : Int64) - (p5.toInt64))
          · rw [if_pos hc129_25] at hr26
            show Steps p.tables e below (T22.setTop (mkF m 129 #[.val (.int p1), .val (.long p2), .second, .val (.long p3), .second, .val (.long p4), .second, .val (.int p5), .val (.long am), .second, .val (.long tt), .second, .val (.ref b3), .val (.long (tt + (p5.toInt64))), .second, .val (.long (0 : Int64)), .second, .val (.int (0 : Int32)), .unset] [(.int (lcmpW tt ((-9223372036854775808 : Int64) - (p5.toInt64))))])) _
            refine XS.ifNo X22.here hx rfl (hb hby at_129) rfl ((if0 _ _).trans (tlt ((lw_lt _ _).mpr hc129_25)).2.1) ?_
            refine XS.iconst X22.here hx rfl (hb hby at_132) ?_
            refine XS.goto X22.here hx rfl (pc0 := 133) (pc' := 137) rfl (hb hby at_133) (by decide) (by decide) ?_
            refine XS.istore X22.here hx rfl (hb hby at_137) rfl (l' := #[.val (.int p1), .val (.long p2), .second, .val (.long p3), .second, .val (.long p4), .second, .val (.int p5), .val (.long am), .second, .val (.long tt), .second, .val (.ref b3), .val (.long (tt + (p5.toInt64))), .second, .val (.long (0 : Int64)), .second, .val (.int (0 : Int32)), .val (.int (1 : Int32))]) rfl ?_
            subst hr26
            exact kz
          · rw [if_neg hc129_25] at hr26
            show Steps p.tables e below (T22.setTop (mkF m 129 #[.val (.int p1), .val (.long p2), .second, .val (.long p3), .second, .val (.long p4), .second, .val (.int p5), .val (.long am), .second, .val (.long tt), .second, .val (.ref b3), .val (.long (tt + (p5.toInt64))), .second, .val (.long (0 : Int64)), .second, .val (.int (0 : Int32)), .unset] [(.int (lcmpW tt ((-9223372036854775808 : Int64) - (p5.toInt64))))])) _
            refine XS.ifYes X22.here hx rfl (pc0 := 129) (pc' := 136) rfl (hb hby at_129) rfl ((if0 _ _).trans (flt (mt (lw_lt _ _).mp hc129_25)).2.1) (by decide) (by decide) ?_
            refine XS.iconst X22.here hx rfl (hb hby at_136) ?_
            refine XS.istore X22.here hx rfl (hb hby at_137) rfl (l' := #[.val (.int p1), .val (.long p2), .second, .val (.long p3), .second, .val (.long p4), .second, .val (.int p5), .val (.long am), .second, .val (.long tt), .second, .val (.ref b3), .val (.long (tt + (p5.toInt64))), .second, .val (.long (0 : Int64)), .second, .val (.int (0 : Int32)), .val (.int (0 : Int32))]) rfl ?_
            subst hr26
            exact kz
      refine Goes.via j93_27 ?_
      refine Goes.via (S' := T22.setTop (mkF m 196 #[.val (.int p1), .val (.long p2), .second, .val (.long p3), .second, .val (.long p4), .second, .val (.int p5), .val (.long am), .second, .val (.long tt), .second, .val (.ref b3), .val (.long (tt + (p5.toInt64))), .second, .val (.long (0 : Int64)), .second, .val (.int (0 : Int32)), .val (.int r26)] [(.int (1 : Int32))])) (fun tz kz => ?_) ?_
      · show Steps p.tables e below (T22.setTop (mkF m 139 #[.val (.int p1), .val (.long p2), .second, .val (.long p3), .second, .val (.long p4), .second, .val (.int p5), .val (.long am), .second, .val (.long tt), .second, .val (.ref b3), .val (.long (tt + (p5.toInt64))), .second, .val (.long (0 : Int64)), .second, .val (.int (0 : Int32)), .val (.int r26)] [])) _
        refine XS.iload X22.here hx rfl (hb hby at_139) rfl ?_
        refine XS.ifYes X22.here hx rfl (pc0 := 141) (pc' := 172) rfl (hb hby at_141) rfl ((if0 _ _).trans (teq (by first | decide | rfl)).1) (by decide) (by decide) ?_
        refine XS.lload X22.here hx rfl (hb hby at_172) rfl ?_
        refine XS.lload X22.here hx rfl (hb hby at_174) rfl ?_
        show Steps p.tables e below (T22.setTop (mkF m 176 #[.val (.int p1), .val (.long p2), .second, .val (.long p3), .second, .val (.long p4), .second, .val (.int p5), .val (.long am), .second, .val (.long tt), .second, .val (.ref b3), .val (.long (tt + (p5.toInt64))), .second, .val (.long (0 : Int64)), .second, .val (.int (0 : Int32)), .val (.int r26)] [(.long tt), (.long (tt + (p5.toInt64)))])) _
        refine XS.iload X22.here hx rfl (hb hby at_176) rfl ?_
        refine XS.i2l X22.here hx rfl (hb hby at_178) rfl ?_
        refine XS.ladd X22.here hx rfl (hb hby at_179) rfl ?_
        refine XS.lcmp X22.here hx rfl (hb hby at_180) rfl ?_
        show Steps p.tables e below (T22.setTop (mkF m 181 #[.val (.int p1), .val (.long p2), .second, .val (.long p3), .second, .val (.long p4), .second, .val (.int p5), .val (.long am), .second, .val (.long tt), .second, .val (.ref b3), .val (.long (tt + (p5.toInt64))), .second, .val (.long (0 : Int64)), .second, .val (.int (0 : Int32)), .val (.int r26)] [(.int (lcmpW (tt + (p5.toInt64)) (tt + (p5.toInt64))))])) _
        refine XS.ifNo X22.here hx rfl (hb hby at_181) rfl ((if0 _ _).trans (teq ((lw_eq _ _).mpr rfl)).2) ?_
        refine XS.lload X22.here hx rfl (hb hby at_184) rfl ?_
        refine XS.lconst X22.here hx rfl (hb hby at_186) ?_
        refine XS.lcmp X22.here hx rfl (hb hby at_187) rfl ?_
        show Steps p.tables e below (T22.setTop (mkF m 188 #[.val (.int p1), .val (.long p2), .second, .val (.long p3), .second, .val (.long p4), .second, .val (.int p5), .val (.long am), .second, .val (.long tt), .second, .val (.ref b3), .val (.long (tt + (p5.toInt64))), .second, .val (.long (0 : Int64)), .second, .val (.int (0 : Int32)), .val (.int r26)] [(.int (lcmpW (0 : Int64) (0 : Int64)))])) _
        refine XS.ifNo X22.here hx rfl (hb hby at_188) rfl ((if0 _ _).trans (teq ((lw_eq _ _).mpr rfl)).2) ?_
        refine XS.iconst X22.here hx rfl (hb hby at_191) ?_
        refine XS.goto X22.here hx rfl (pc0 := 192) (pc' := 196) rfl (hb hby at_192) (by decide) (by decide) ?_
        exact kz
      exact Goes.retNW (s := s) (vm1 := s.vm) X22 hx Bd.notSynchronized ((State.WarmedH.refl s).since 0) (Nat.zero_le _) (t := .boolean) Bd.returns (by simp) (hb hby at_196) (Nat.le_of_ble_eq_true rfl) (Nat.le_of_ble_eq_true rfl) ⟨rfl, Nf22⟩
  · refine Goes.via (S' := T4.setTop (mkF m 47 #[.val (.int p1), .val (.long p2), .second, .val (.long p3), .second, .val (.long p4), .second, .val (.int p5), .val (.long am), .second, .val (.long tt), .second, .val (.ref b3), .unset, .unset, .unset, .unset, .unset, .unset] [(.long p3), (.ref b3)])) (fun tz kz => ?_) ?_
    · show Steps p.tables e below (T4.setTop (mkF m 41 #[.val (.int p1), .val (.long p2), .second, .val (.long p3), .second, .val (.long p4), .second, .val (.int p5), .val (.long am), .second, .val (.long tt), .second, .val (.ref b3), .unset, .unset, .unset, .unset, .unset, .unset] [(.int (((p1.toUInt32 >>> ((6 : Int32) &&& 31).toUInt32).toInt32) &&& (1 : Int32)))])) _
      refine XS.ifNo X4.here hx rfl (hb hby at_41) rfl ((if0 _ _).trans (feq hc41_5).1) ?_
      refine XS.aload X4.here hx rfl (hb hby at_44) rfl rfl ?_
      refine XS.lloadN X4.here hx rfl (hb hby at_46) rfl ?_
      exact kz
    obtain ⟨cq28, kq28, q28a, q28b, q28c⟩ := isOf hZ rfl E4_
    obtain ⟨_, _, ⟨T28, L28, k28, n28⟩, -, X28, ⟨Lc28, hQ28, l28, y28, z28⟩, st28⟩ := X4.virtualBack hx (y := (⟨"lambdary/statistics/IntegralSum", "begin", "(J)V"⟩ : MethodName)) (z := (⟨"lambdary/statistics/IntegralSum", "begin", "(J)V"⟩ : MethodName)) hown (mvT hZ (w_ hw 18 rfl)) (mvT hZ (w_ hw 19 rfl)) (notFace_of_selects (args := #[]) (mvT hZ (w_ hw 21 rfl))) (mvT hZ (w_ hw 21 rfl)) (mvT hZ (w_ hw 20 rfl)) (by decide) (backOf (W := 0) (rbg l Z a0 hw [] b3 p3 (0 : Int64) (0 : Int64) (0 : Int32) (1 : Int32) T4.heap n0 Z_4 E4_ Fa4 Fb4 Fc4 Fd4 g1) hZ (w_ hw 22 rfl) (w_ hw 9 rfl) (by decide) (by decide)) q28a q28c (g := (mkF m 47 #[.val (.int p1), .val (.long p2), .second, .val (.long p3), .second, .val (.long p4), .second, .val (.int p5), .val (.long am), .second, .val (.long tt), .second, .val (.ref b3), .unset, .unset, .unset, .unset, .unset, .unset] [(.long p3), (.ref b3)])) rfl (by rw [hml]; rfl) (Steps.refl _) (argsL := [(.long p3)]) (rest := []) (lenOf pd_2 rfl) rfl (by show 2 * 0 + _ ≤ _; exact Nat.le_of_eq rfl) (hb hby at_47) (fun _ _ => ⟨rfl, rfl, (by decide : 1 + 0 ≤ _), (by decide : 4 + 0 ≤ _)⟩)
    dsimp only [Pt.U, Pt.locs, Pt.cells, Pt.slots] at X28 l28 y28 z28 st28 hQ28
    subst l28 y28 z28
    obtain ⟨rfl, N28, K28, E28_, Fa28, Fb28, Fc28, Fd28⟩ := hQ28
    have Nf28 := Fr.app Nf4 N28
    refine Goes.via (S' := T28.setTop (mkF m 50 #[.val (.int p1), .val (.long p2), .second, .val (.long p3), .second, .val (.long p4), .second, .val (.int p5), .val (.long am), .second, .val (.long tt), .second, .val (.ref b3), .unset, .unset, .unset, .unset, .unset, .unset] [])) (fun _ kz => st28.trans kz) ?_
    have Z_28 := Nat.le_trans Z_4 K28.1
    have O_28 := O_4.keep K28 (allS g1 all0)
    refine Goes.via (S' := T28.setTop (mkF m 54 #[.val (.int p1), .val (.long p2), .second, .val (.long p3), .second, .val (.long p4), .second, .val (.int p5), .val (.long am), .second, .val (.long tt), .second, .val (.ref b3), .unset, .unset, .unset, .unset, .unset, .unset] [(.long am), (.ref b3)])) (fun tz kz => ?_) ?_
    · show Steps p.tables e below (T28.setTop (mkF m 50 #[.val (.int p1), .val (.long p2), .second, .val (.long p3), .second, .val (.long p4), .second, .val (.int p5), .val (.long am), .second, .val (.long tt), .second, .val (.ref b3), .unset, .unset, .unset, .unset, .unset, .unset] [])) _
      refine XS.aload X28.here hx rfl (hb hby at_50) rfl rfl ?_
      refine XS.lload X28.here hx rfl (hb hby at_52) rfl ?_
      exact kz
    obtain ⟨cq29, kq29, q29a, q29b, q29c⟩ := isOf hZ rfl E28_
    obtain ⟨_, _, ⟨T29, L29, k29, n29⟩, -, X29, ⟨Lc29, hQ29, l29, y29, z29⟩, st29⟩ := X28.virtualBack hx (y := (⟨"lambdary/statistics/IntegralSum", "begin", "(J)V"⟩ : MethodName)) (z := (⟨"lambdary/statistics/IntegralSum", "begin", "(J)V"⟩ : MethodName)) hown (mvT hZ (w_ hw 18 rfl)) (mvT hZ (w_ hw 19 rfl)) (notFace_of_selects (args := #[]) (mvT hZ (w_ hw 21 rfl))) (mvT hZ (w_ hw 21 rfl)) (mvT hZ (w_ hw 20 rfl)) (by decide) (backOf (W := 0) (rbg l Z a0 hw [] b3 am (0 : Int64) (0 : Int64) (0 : Int32) (nar .boolean (own_ck p3)) T28.heap n0 Z_28 E28_ Fa28 Fb28 Fc28 Fd28 g1) hZ (w_ hw 22 rfl) (w_ hw 9 rfl) (by decide) (by decide)) q29a q29c (g := (mkF m 54 #[.val (.int p1), .val (.long p2), .second, .val (.long p3), .second, .val (.long p4), .second, .val (.int p5), .val (.long am), .second, .val (.long tt), .second, .val (.ref b3), .unset, .unset, .unset, .unset, .unset, .unset] [(.long am), (.ref b3)])) rfl (by rw [hml]; rfl) (Steps.refl _) (argsL := [(.long am)]) (rest := []) (lenOf pd_2 rfl) rfl (by show 2 * 0 + _ ≤ _; exact Nat.le_of_eq rfl) (hb hby at_54) (fun _ _ => ⟨rfl, rfl, (by decide : 1 + 0 ≤ _), (by decide : 4 + 0 ≤ _)⟩)
    dsimp only [Pt.U, Pt.locs, Pt.cells, Pt.slots] at X29 l29 y29 z29 st29 hQ29
    subst l29 y29 z29
    obtain ⟨rfl, N29, K29, E29_, Fa29, Fb29, Fc29, Fd29⟩ := hQ29
    have Nf29 := Fr.app Nf28 N29
    refine Goes.via (S' := T29.setTop (mkF m 57 #[.val (.int p1), .val (.long p2), .second, .val (.long p3), .second, .val (.long p4), .second, .val (.int p5), .val (.long am), .second, .val (.long tt), .second, .val (.ref b3), .unset, .unset, .unset, .unset, .unset, .unset] [])) (fun _ kz => st29.trans kz) ?_
    have Z_29 := Nat.le_trans Z_28 K29.1
    have O_29 := O_28.keep K29 (allS g1 all0)
    refine Goes.via (S' := T29.setTop (mkF m 63 #[.val (.int p1), .val (.long p2), .second, .val (.long p3), .second, .val (.long p4), .second, .val (.int p5), .val (.long am), .second, .val (.long tt), .second, .val (.ref b3), .unset, .unset, .unset, .unset, .unset, .unset] [(.int p5), (.long tt), (.ref b3)])) (fun tz kz => ?_) ?_
    · show Steps p.tables e below (T29.setTop (mkF m 57 #[.val (.int p1), .val (.long p2), .second, .val (.long p3), .second, .val (.long p4), .second, .val (.int p5), .val (.long am), .second, .val (.long tt), .second, .val (.ref b3), .unset, .unset, .unset, .unset, .unset, .unset] [])) _
      refine XS.aload X29.here hx rfl (hb hby at_57) rfl rfl ?_
      refine XS.lload X29.here hx rfl (hb hby at_59) rfl ?_
      refine XS.iload X29.here hx rfl (hb hby at_61) rfl ?_
      exact kz
    by_cases hc : (4294967296 : Int64) < am
    · rw [own_ck1 hc] at Fd29
      by_cases ho : ((tt ^^^ (tt + p5.toInt64)) &&& (p5.toInt64 ^^^ (tt + p5.toInt64))) < (0 : Int64)
      · skip
        obtain ⟨cq30, kq30, q30a, q30b, q30c⟩ := isOf hZ rfl E29_
        obtain ⟨_, _, ⟨T30, L30, k30, n30⟩, -, X30, hs30, gs30, ⟨Lc30, hQ30, l30, y30, z30⟩, st30⟩ := Stand.virtualBackS (show Stand p l e _ (s.setVm s.vm) m _ below meth c _ _ _ _ from X29) hx (y := (⟨"lambdary/statistics/IntegralSum", "fold", "(JI)J"⟩ : MethodName)) (z := (⟨"lambdary/statistics/IntegralSum", "fold", "(JI)J"⟩ : MethodName)) hown (mvT hZ (w_ hw 24 rfl)) (mvT hZ (w_ hw 25 rfl)) (notFace_of_selects (args := #[]) (mvT hZ (w_ hw 27 rfl))) (mvT hZ (w_ hw 27 rfl)) (mvT hZ (w_ hw 26 rfl)) (by decide) (backOfSKL (W := 0) (rfi_t l Z a0 hw [] b3 tt p5 (0 : Int64) (0 : Int64) (0 : Int32) (1 : Int32) us ss T29.heap n0 Z_29 E29_ Fa29 Fb29 Fc29 Fd29 g1 ho SU hus SQ hss hl O_29) hZ (w_ hw 28 rfl) (w_ hw 9 rfl) (by decide) (by decide) hK.1 hK.2) q30a q30c (g := (mkF m 63 #[.val (.int p1), .val (.long p2), .second, .val (.long p3), .second, .val (.long p4), .second, .val (.int p5), .val (.long am), .second, .val (.long tt), .second, .val (.ref b3), .unset, .unset, .unset, .unset, .unset, .unset] [(.int p5), (.long tt), (.ref b3)])) rfl (by rw [hml]; rfl) (Steps.refl _) (argsL := [(.long tt), (.int p5)]) (rest := []) (lenOf pd_7 rfl) rfl (by show 2 * 0 + _ ≤ _; exact Nat.le_of_eq rfl) (hb hby at_63) (fun _ _ => ⟨rfl, rfl, (by decide : 1 + 4 ≤ _), (by decide : 4 + 2820 ≤ _)⟩)
        dsimp only [Pt.U, Pt.locs, Pt.cells, Pt.slots] at X30 l30 y30 z30 st30 hQ30 hs30 gs30
        subst l30 y30 z30
        obtain ⟨rfl, N30, K30, E30_, Fa30, Fb30, Fc30, Fd30⟩ := hQ30
        skip
        have hS30 : s.Since T30.vm T30.heap.size := own_fold ((State.WarmedH.refl s).since 0) (Nat.zero_le _) hs30 gs30
        have hK : (s.setVm T30.vm).vm.MethodsKnown ∧ (s.setVm T30.vm).vm.FramesKnown below := ⟨Vm.MethodsKnown.alikeC hs30.1.alike hK.1, Vm.FramesKnown.alikeC hs30.1.alike hK.2⟩
        have hZ : Z.Warmed39 (s.setVm T30.vm).vm := State.Warmed39.trans (t := s.setVm s.vm) hZ hs30.1
        have hown : (s.setVm T30.vm).vm.findClass "lambdary/statistics/IntegralSumBeginPinLaw" = some m.cls := by rw [show (s.setVm T30.vm).vm = T30.vm from rfl, hs30.1.alike.findClass]; exact hown
        have Nf30 := Fr.app Nf29 N30
        refine Goes.via (S' := T30.setTop (mkF m 66 #[.val (.int p1), .val (.long p2), .second, .val (.long p3), .second, .val (.long p4), .second, .val (.int p5), .val (.long am), .second, .val (.long tt), .second, .val (.ref b3), .unset, .unset, .unset, .unset, .unset, .unset] [(.long tt)])) (fun _ kz => st30.trans kz) ?_
        have Z_30 := Nat.le_trans Z_29 K30.1
        have O_30 := O_29.keep K30 (allS g1 all0)
        refine Goes.via (S' := T30.setTop (mkF m 70 #[.val (.int p1), .val (.long p2), .second, .val (.long p3), .second, .val (.long p4), .second, .val (.int p5), .val (.long am), .second, .val (.long tt), .second, .val (.ref b3), .val (.long tt), .second, .unset, .unset, .unset, .unset] [(.ref b3)])) (fun tz kz => ?_) ?_
        · show Steps p.tables e below (T30.setTop (mkF m 66 #[.val (.int p1), .val (.long p2), .second, .val (.long p3), .second, .val (.long p4), .second, .val (.int p5), .val (.long am), .second, .val (.long tt), .second, .val (.ref b3), .unset, .unset, .unset, .unset, .unset, .unset] [(.long tt)])) _
          refine XS.lstore X30.here hx rfl (hb hby at_66) rfl (l' := #[.val (.int p1), .val (.long p2), .second, .val (.long p3), .second, .val (.long p4), .second, .val (.int p5), .val (.long am), .second, .val (.long tt), .second, .val (.ref b3), .val (.long tt), .second, .unset, .unset, .unset, .unset]) rfl ?_
          refine XS.aload X30.here hx rfl (hb hby at_68) rfl rfl ?_
          exact kz
        obtain ⟨cq31, kq31, q31a, q31b, q31c⟩ := isOf hZ rfl E30_
        obtain ⟨_, _, ⟨T31, L31, k31, n31⟩, -, X31, ⟨Lc31, hQ31, l31, y31, z31⟩, st31⟩ := X30.virtualBack hx (y := (⟨"lambdary/statistics/IntegralSum", "sum", "()J"⟩ : MethodName)) (z := (⟨"lambdary/statistics/IntegralSum", "sum", "()J"⟩ : MethodName)) hown (mvT hZ (w_ hw 29 rfl)) (mvT hZ (w_ hw 30 rfl)) (notFace_of_selects (args := #[]) (mvT hZ (w_ hw 32 rfl))) (mvT hZ (w_ hw 32 rfl)) (mvT hZ (w_ hw 31 rfl)) (by decide) (backOf (W := 0) (rsm l Z a0 hw [] b3 (p5.toInt64) (0 : Int64) (0 : Int32) (1 : Int32) T30.heap n0 Z_30 E30_ Fa30 Fb30 Fc30 Fd30 g1) hZ (w_ hw 33 rfl) (w_ hw 9 rfl) (by decide) (by decide)) q31a q31c (g := (mkF m 70 #[.val (.int p1), .val (.long p2), .second, .val (.long p3), .second, .val (.long p4), .second, .val (.int p5), .val (.long am), .second, .val (.long tt), .second, .val (.ref b3), .val (.long tt), .second, .unset, .unset, .unset, .unset] [(.ref b3)])) rfl (by rw [hml]; rfl) (Steps.refl _) (argsL := []) (rest := []) (lenOf pd_8 rfl) rfl (by show 2 * 0 + _ ≤ _; exact Nat.le_of_eq rfl) (hb hby at_70) (fun _ _ => ⟨rfl, rfl, (by decide : 5 + 0 ≤ _), (by decide : 2824 + 0 ≤ _)⟩)
        dsimp only [Pt.U, Pt.locs, Pt.cells, Pt.slots] at X31 l31 y31 z31 st31 hQ31
        subst l31 y31 z31
        obtain ⟨rfl, N31, e31⟩ := hQ31
        have Nf31 := Fr.app Nf30 N31
        refine Goes.via (S' := T31.setTop (mkF m 73 #[.val (.int p1), .val (.long p2), .second, .val (.long p3), .second, .val (.long p4), .second, .val (.int p5), .val (.long am), .second, .val (.long tt), .second, .val (.ref b3), .val (.long tt), .second, .unset, .unset, .unset, .unset] [(.long (p5.toInt64))])) (fun _ kz => st31.trans kz) ?_
        refine Goes.via (S' := T31.setTop (mkF m 93 #[.val (.int p1), .val (.long p2), .second, .val (.long p3), .second, .val (.long p4), .second, .val (.int p5), .val (.long am), .second, .val (.long tt), .second, .val (.ref b3), .val (.long tt), .second, .val (.long (p5.toInt64)), .second, .val (.int (1 : Int32)), .unset] [(.int p5)])) (fun tz kz => ?_) ?_
        · show Steps p.tables e below (T31.setTop (mkF m 73 #[.val (.int p1), .val (.long p2), .second, .val (.long p3), .second, .val (.long p4), .second, .val (.int p5), .val (.long am), .second, .val (.long tt), .second, .val (.ref b3), .val (.long tt), .second, .unset, .unset, .unset, .unset] [(.long (p5.toInt64))])) _
          refine XS.lstore X31.here hx rfl (hb hby at_73) rfl (l' := #[.val (.int p1), .val (.long p2), .second, .val (.long p3), .second, .val (.long p4), .second, .val (.int p5), .val (.long am), .second, .val (.long tt), .second, .val (.ref b3), .val (.long tt), .second, .val (.long (p5.toInt64)), .second, .unset, .unset]) rfl ?_
          refine XS.lload X31.here hx rfl (hb hby at_75) rfl ?_
          refine X31.ldc2Long hx hown (mvT hZ (w_ hw 38 rfl)) (g := (mkF m 77 #[.val (.int p1), .val (.long p2), .second, .val (.long p3), .second, .val (.long p4), .second, .val (.int p5), .val (.long am), .second, .val (.long tt), .second, .val (.ref b3), .val (.long tt), .second, .val (.long (p5.toInt64)), .second, .unset, .unset] [(.long am)])) rfl (hb hby at_77) _ ?_
          refine XS.lcmp X31.here hx rfl (hb hby at_80) rfl ?_
          show Steps p.tables e below (T31.setTop (mkF m 81 #[.val (.int p1), .val (.long p2), .second, .val (.long p3), .second, .val (.long p4), .second, .val (.int p5), .val (.long am), .second, .val (.long tt), .second, .val (.ref b3), .val (.long tt), .second, .val (.long (p5.toInt64)), .second, .unset, .unset] [(.int (lcmpW am (4294967296 : Int64)))])) _
          refine XS.ifNo X31.here hx rfl (hb hby at_81) rfl ((if0 _ _).trans (tlt ((lw_gt _ _).mpr hc)).2.2.2) ?_
          refine XS.iconst X31.here hx rfl (hb hby at_84) ?_
          refine XS.goto X31.here hx rfl (pc0 := 85) (pc' := 89) rfl (hb hby at_85) (by decide) (by decide) ?_
          refine XS.istore X31.here hx rfl (hb hby at_89) rfl (l' := #[.val (.int p1), .val (.long p2), .second, .val (.long p3), .second, .val (.long p4), .second, .val (.int p5), .val (.long am), .second, .val (.long tt), .second, .val (.ref b3), .val (.long tt), .second, .val (.long (p5.toInt64)), .second, .val (.int (1 : Int32)), .unset]) rfl ?_
          show Steps p.tables e below (T31.setTop (mkF m 91 #[.val (.int p1), .val (.long p2), .second, .val (.long p3), .second, .val (.long p4), .second, .val (.int p5), .val (.long am), .second, .val (.long tt), .second, .val (.ref b3), .val (.long tt), .second, .val (.long (p5.toInt64)), .second, .val (.int (1 : Int32)), .unset] [])) _
          refine XS.iload X31.here hx rfl (hb hby at_91) rfl ?_
          exact kz
        obtain ⟨r35, hr35⟩ : ∃ zz_ : Int32, zz_ = (if (0 : Int32) < p5 then (if ((9223372036854775807 : Int64) - (p5.toInt64)) < tt then (1 : Int32) else (0 : Int32)) else (if tt < ((-9223372036854775808 : Int64) - (p5.toInt64)) then (1 : Int32) else (0 : Int32))) := ⟨_, rfl⟩
        have j93_36 : ∀ t, Steps p.tables e below (T31.setTop (mkF m 139 #[.val (.int p1), .val (.long p2), .second, .val (.long p3), .second, .val (.long p4), .second, .val (.int p5), .val (.long am), .second, .val (.long tt), .second, .val (.ref b3), .val (.long tt), .second, .val (.long (p5.toInt64)), .second, .val (.int (1 : Int32)), .val (.int r35)] [])) t → Steps p.tables e below (T31.setTop (mkF m 93 #[.val (.int p1), .val (.long p2), .second, .val (.long p3), .second, .val (.long p4), .second, .val (.int p5), .val (.long am), .second, .val (.long tt), .second, .val (.ref b3), .val (.long tt), .second, .val (.long (p5.toInt64)), .second, .val (.int (1 : Int32)), .unset] [(.int p5)])) t := by
          intro tz kz
          by_cases hc93_32 : (0 : Int32) < p5
          · rw [if_pos hc93_32] at hr35
            show Steps p.tables e below (T31.setTop (mkF m 93 #[.val (.int p1), .val (.long p2), .second, .val (.long p3), .second, .val (.long p4), .second, .val (.int p5), .val (.long am), .second, .val (.long tt), .second, .val (.ref b3), .val (.long tt), .second, .val (.long (p5.toInt64)), .second, .val (.int (1 : Int32)), .unset] [(.int p5)])) _
            refine XS.ifNo X31.here hx rfl (hb hby at_93) rfl ((if0 _ _).trans (tlt hc93_32).2.2.2) ?_
            refine XS.lload X31.here hx rfl (hb hby at_96) rfl ?_
            refine X31.ldc2Long hx hown (mvT hZ (w_ hw 39 rfl)) (g := (mkF m 98 #[.val (.int p1), .val (.long p2), .second, .val (.long p3), .second, .val (.long p4), .second, .val (.int p5), .val (.long am), .second, .val (.long tt), .second, .val (.ref b3), .val (.long tt), .second, .val (.long (p5.toInt64)), .second, .val (.int (1 : Int32)), .unset] [(.long tt)])) rfl (hb hby at_98) _ ?_
            refine XS.iload X31.here hx rfl (hb hby at_101) rfl ?_
            show Steps p.tables e below (T31.setTop (mkF m 103 #[.val (.int p1), .val (.long p2), .second, .val (.long p3), .second, .val (.long p4), .second, .val (.int p5), .val (.long am), .second, .val (.long tt), .second, .val (.ref b3), .val (.long tt), .second, .val (.long (p5.toInt64)), .second, .val (.int (1 : Int32)), .unset] [(.int p5), (.long (9223372036854775807 : Int64)), (.long tt)])) _
            refine XS.i2l X31.here hx rfl (hb hby at_103) rfl ?_
            refine XS.lsub X31.here hx rfl (hb hby at_104) rfl ?_
            refine XS.lcmp X31.here hx rfl (hb hby at_105) rfl ?_
            by_cases hc106_33 : ((9223372036854775807 : Int64) - (p5.toInt64)) < tt
            · rw [if_pos hc106_33] at hr35
              show Steps p.tables e below (T31.setTop (mkF m 106 #[.val (.int p1), .val (.long p2), .second, .val (.long p3), .second, .val (.long p4), .second, .val (.int p5), .val (.long am), .second, .val (.long tt), .second, .val (.ref b3), .val (.long tt), .second, .val (.long (p5.toInt64)), .second, .val (.int (1 : Int32)), .unset] [(.int (lcmpW tt ((9223372036854775807 : Int64) - (p5.toInt64))))])) _
              refine XS.ifNo X31.here hx rfl (hb hby at_106) rfl ((if0 _ _).trans (tlt ((lw_gt _ _).mpr hc106_33)).2.2.2) ?_
              refine XS.iconst X31.here hx rfl (hb hby at_109) ?_
              refine XS.goto X31.here hx rfl (pc0 := 110) (pc' := 114) rfl (hb hby at_110) (by decide) (by decide) ?_
              refine XS.istore X31.here hx rfl (hb hby at_114) rfl (l' := #[.val (.int p1), .val (.long p2), .second, .val (.long p3), .second, .val (.long p4), .second, .val (.int p5), .val (.long am), .second, .val (.long tt), .second, .val (.ref b3), .val (.long tt), .second, .val (.long (p5.toInt64)), .second, .val (.int (1 : Int32)), .val (.int (1 : Int32))]) rfl ?_
              show Steps p.tables e below (T31.setTop (mkF m 116 #[.val (.int p1), .val (.long p2), .second, .val (.long p3), .second, .val (.long p4), .second, .val (.int p5), .val (.long am), .second, .val (.long tt), .second, .val (.ref b3), .val (.long tt), .second, .val (.long (p5.toInt64)), .second, .val (.int (1 : Int32)), .val (.int (1 : Int32))] [])) _
              refine XS.goto X31.here hx rfl (pc0 := 116) (pc' := 139) rfl (hb hby at_116) (by decide) (by decide) ?_
              subst hr35
              exact kz
            · rw [if_neg hc106_33] at hr35
              show Steps p.tables e below (T31.setTop (mkF m 106 #[.val (.int p1), .val (.long p2), .second, .val (.long p3), .second, .val (.long p4), .second, .val (.int p5), .val (.long am), .second, .val (.long tt), .second, .val (.ref b3), .val (.long tt), .second, .val (.long (p5.toInt64)), .second, .val (.int (1 : Int32)), .unset] [(.int (lcmpW tt ((9223372036854775807 : Int64) - (p5.toInt64))))])) _
              refine XS.ifYes X31.here hx rfl (pc0 := 106) (pc' := 113) rfl (hb hby at_106) rfl ((if0 _ _).trans (flt (mt (lw_gt _ _).mp hc106_33)).2.2.2) (by decide) (by decide) ?_
              refine XS.iconst X31.here hx rfl (hb hby at_113) ?_
              refine XS.istore X31.here hx rfl (hb hby at_114) rfl (l' := #[.val (.int p1), .val (.long p2), .second, .val (.long p3), .second, .val (.long p4), .second, .val (.int p5), .val (.long am), .second, .val (.long tt), .second, .val (.ref b3), .val (.long tt), .second, .val (.long (p5.toInt64)), .second, .val (.int (1 : Int32)), .val (.int (0 : Int32))]) rfl ?_
              refine XS.goto X31.here hx rfl (pc0 := 116) (pc' := 139) rfl (hb hby at_116) (by decide) (by decide) ?_
              subst hr35
              exact kz
          · rw [if_neg hc93_32] at hr35
            show Steps p.tables e below (T31.setTop (mkF m 93 #[.val (.int p1), .val (.long p2), .second, .val (.long p3), .second, .val (.long p4), .second, .val (.int p5), .val (.long am), .second, .val (.long tt), .second, .val (.ref b3), .val (.long tt), .second, .val (.long (p5.toInt64)), .second, .val (.int (1 : Int32)), .unset] [(.int p5)])) _
            refine XS.ifYes X31.here hx rfl (pc0 := 93) (pc' := 119) rfl (hb hby at_93) rfl ((if0 _ _).trans (flt hc93_32).2.2.2) (by decide) (by decide) ?_
            refine XS.lload X31.here hx rfl (hb hby at_119) rfl ?_
            refine X31.ldc2Long hx hown (mvT hZ (w_ hw 130 rfl)) (g := (mkF m 121 #[.val (.int p1), .val (.long p2), .second, .val (.long p3), .second, .val (.long p4), .second, .val (.int p5), .val (.long am), .second, .val (.long tt), .second, .val (.ref b3), .val (.long tt), .second, .val (.long (p5.toInt64)), .second, .val (.int (1 : Int32)), .unset] [(.long tt)])) rfl (hb hby at_121) _ ?_
            refine XS.iload X31.here hx rfl (hb hby at_124) rfl ?_
            show Steps p.tables e below (T31.setTop (mkF m 126 #[.val (.int p1), .val (.long p2), .second, .val (.long p3), .second, .val (.long p4), .second, .val (.int p5), .val (.long am), .second, .val (.long tt), .second, .val (.ref b3), .val (.long tt), .second, .val (.long (p5.toInt64)), .second, .val (.int (1 : Int32)), .unset] [(.int p5), (.long (-9223372036854775808 : Int64)), (.long tt)])) _
            refine XS.i2l X31.here hx rfl (hb hby at_126) rfl ?_
            refine XS.lsub X31.here hx rfl (hb hby at_127) rfl ?_
            refine XS.lcmp X31.here hx rfl (hb hby at_128) rfl ?_
            by_cases hc129_34 : tt < ((-9223372036854775808 : Int64) - (p5.toInt64))
            · rw [if_pos hc129_34] at hr35
              show Steps p.tables e below (T31.setTop (mkF m 129 #[.val (.int p1), .val (.long p2), .second, .val (.long p3), .second, .val (.long p4), .second, .val (.int p5), .val (.long am), .second, .val (.long tt), .second, .val (.ref b3), .val (.long tt), .second, .val (.long (p5.toInt64)), .second, .val (.int (1 : Int32)), .unset] [(.int (lcmpW tt ((-9223372036854775808 : Int64) - (p5.toInt64))))])) _
              refine XS.ifNo X31.here hx rfl (hb hby at_129) rfl ((if0 _ _).trans (tlt ((lw_lt _ _).mpr hc129_34)).2.1) ?_
              refine XS.iconst X31.here hx rfl (hb hby at_132) ?_
              refine XS.goto X31.here hx rfl (pc0 := 133) (pc' := 137) rfl (hb hby at_133) (by decide) (by decide) ?_
              refine XS.istore X31.here hx rfl (hb hby at_137) rfl (l' := #[.val (.int p1), .val (.long p2), .second, .val (.long p3), .second, .val (.long p4), .second, .val (.int p5), .val (.long am), .second, .val (.long tt), .second, .val (.ref b3), .val (.long tt), .second, .val (.long (p5.toInt64)), .second, .val (.int (1 : Int32)), .val (.int (1 : Int32))]) rfl ?_
              subst hr35
              exact kz
            · rw [if_neg hc129_34] at hr35
              show Steps p.tables e below (T31.setTop (mkF m 129 #[.val (.int p1), .val (.long p2), .second, .val (.long p3), .second, .val (.long p4), .second, .val (.int p5), .val (.long am), .second, .val (.long tt), .second, .val (.ref b3), .val (.long tt), .second, .val (.long (p5.toInt64)), .second, .val (.int (1 : Int32)), .unset] [(.int (lcmpW tt ((-9223372036854775808 : Int64) - (p5.toInt64))))])) _
              refine XS.ifYes X31.here hx rfl (pc0 := 129) (pc' := 136) rfl (hb hby at_129) rfl ((if0 _ _).trans (flt (mt (lw_lt _ _).mp hc129_34)).2.1) (by decide) (by decide) ?_
              refine XS.iconst X31.here hx rfl (hb hby at_136) ?_
              refine XS.istore X31.here hx rfl (hb hby at_137) rfl (l' := #[.val (.int p1), .val (.long p2), .second, .val (.long p3), .second, .val (.long p4), .second, .val (.int p5), .val (.long am), .second, .val (.long tt), .second, .val (.ref b3), .val (.long tt), .second, .val (.long (p5.toInt64)), .second, .val (.int (1 : Int32)), .val (.int (0 : Int32))]) rfl ?_
              subst hr35
              exact kz
        refine Goes.via j93_36 ?_
        refine Goes.via (S' := T31.setTop (mkF m 171 #[.val (.int p1), .val (.long p2), .second, .val (.long p3), .second, .val (.long p4), .second, .val (.int p5), .val (.long am), .second, .val (.long tt), .second, .val (.ref b3), .val (.long tt), .second, .val (.long (p5.toInt64)), .second, .val (.int (1 : Int32)), .val (.int r35)] [(.int (1 : Int32))])) (fun tz kz => ?_) ?_
        · show Steps p.tables e below (T31.setTop (mkF m 139 #[.val (.int p1), .val (.long p2), .second, .val (.long p3), .second, .val (.long p4), .second, .val (.int p5), .val (.long am), .second, .val (.long tt), .second, .val (.ref b3), .val (.long tt), .second, .val (.long (p5.toInt64)), .second, .val (.int (1 : Int32)), .val (.int r35)] [])) _
          refine XS.iload X31.here hx rfl (hb hby at_139) rfl ?_
          refine XS.ifNo X31.here hx rfl (hb hby at_141) rfl ((if0 _ _).trans (feq (by first | decide | rfl)).1) ?_
          refine XS.iload X31.here hx rfl (hb hby at_144) rfl ?_
          refine XS.ifNo X31.here hx rfl (hb hby at_146) rfl ((if0 _ _).trans (feq (fun q => (own_law tt p5 r35 hr35).mp q ho)).1) ?_
          show Steps p.tables e below (T31.setTop (mkF m 149 #[.val (.int p1), .val (.long p2), .second, .val (.long p3), .second, .val (.long p4), .second, .val (.int p5), .val (.long am), .second, .val (.long tt), .second, .val (.ref b3), .val (.long tt), .second, .val (.long (p5.toInt64)), .second, .val (.int (1 : Int32)), .val (.int r35)] [])) _
          refine XS.lload X31.here hx rfl (hb hby at_149) rfl ?_
          refine XS.lload X31.here hx rfl (hb hby at_151) rfl ?_
          refine XS.lcmp X31.here hx rfl (hb hby at_153) rfl ?_
          refine XS.ifNo X31.here hx rfl (hb hby at_154) rfl ((if0 _ _).trans (teq ((lw_eq _ _).mpr rfl)).2) ?_
          show Steps p.tables e below (T31.setTop (mkF m 157 #[.val (.int p1), .val (.long p2), .second, .val (.long p3), .second, .val (.long p4), .second, .val (.int p5), .val (.long am), .second, .val (.long tt), .second, .val (.ref b3), .val (.long tt), .second, .val (.long (p5.toInt64)), .second, .val (.int (1 : Int32)), .val (.int r35)] [])) _
          refine XS.lload X31.here hx rfl (hb hby at_157) rfl ?_
          refine XS.iload X31.here hx rfl (hb hby at_159) rfl ?_
          refine XS.i2l X31.here hx rfl (hb hby at_161) rfl ?_
          refine XS.lcmp X31.here hx rfl (hb hby at_162) rfl ?_
          show Steps p.tables e below (T31.setTop (mkF m 163 #[.val (.int p1), .val (.long p2), .second, .val (.long p3), .second, .val (.long p4), .second, .val (.int p5), .val (.long am), .second, .val (.long tt), .second, .val (.ref b3), .val (.long tt), .second, .val (.long (p5.toInt64)), .second, .val (.int (1 : Int32)), .val (.int r35)] [(.int (lcmpW (p5.toInt64) (p5.toInt64)))])) _
          refine XS.ifNo X31.here hx rfl (hb hby at_163) rfl ((if0 _ _).trans (teq ((lw_eq _ _).mpr rfl)).2) ?_
          refine XS.iconst X31.here hx rfl (hb hby at_166) ?_
          refine XS.goto X31.here hx rfl (pc0 := 167) (pc' := 171) rfl (hb hby at_167) (by decide) (by decide) ?_
          exact kz
        exact Goes.retNW (s := s) (vm1 := T30.vm) X31 hx Bd.notSynchronized hS30 (by rw [e31]; exact (Nat.le_refl _)) (t := .boolean) Bd.returns (by simp) (hb hby at_171) (Nat.le_of_ble_eq_true rfl) (Nat.le_of_ble_eq_true rfl) ⟨rfl, Nf31⟩
      · skip
        obtain ⟨cq37, kq37, q37a, q37b, q37c⟩ := isOf hZ rfl E29_
        obtain ⟨_, _, ⟨T37, L37, k37, n37⟩, -, X37, ⟨Lc37, hQ37, l37, y37, z37⟩, st37⟩ := X29.virtualBack hx (y := (⟨"lambdary/statistics/IntegralSum", "fold", "(JI)J"⟩ : MethodName)) (z := (⟨"lambdary/statistics/IntegralSum", "fold", "(JI)J"⟩ : MethodName)) hown (mvT hZ (w_ hw 24 rfl)) (mvT hZ (w_ hw 25 rfl)) (notFace_of_selects (args := #[]) (mvT hZ (w_ hw 27 rfl))) (mvT hZ (w_ hw 27 rfl)) (mvT hZ (w_ hw 26 rfl)) (by decide) (backOf (W := 0) (rfi_a l Z a0 hw [] b3 tt p5 (0 : Int64) (0 : Int64) (0 : Int32) (1 : Int32) T29.heap n0 Z_29 E29_ Fa29 Fb29 Fc29 Fd29 g1 ho) hZ (w_ hw 28 rfl) (w_ hw 9 rfl) (by decide) (by decide)) q37a q37c (g := (mkF m 63 #[.val (.int p1), .val (.long p2), .second, .val (.long p3), .second, .val (.long p4), .second, .val (.int p5), .val (.long am), .second, .val (.long tt), .second, .val (.ref b3), .unset, .unset, .unset, .unset, .unset, .unset] [(.int p5), (.long tt), (.ref b3)])) rfl (by rw [hml]; rfl) (Steps.refl _) (argsL := [(.long tt), (.int p5)]) (rest := []) (lenOf pd_7 rfl) rfl (by show 2 * 0 + _ ≤ _; exact Nat.le_of_eq rfl) (hb hby at_63) (fun _ _ => ⟨rfl, rfl, (by decide : 1 + 0 ≤ _), (by decide : 4 + 0 ≤ _)⟩)
        dsimp only [Pt.U, Pt.locs, Pt.cells, Pt.slots] at X37 l37 y37 z37 st37 hQ37
        subst l37 y37 z37
        obtain ⟨rfl, N37, e37⟩ := hQ37
        have Nf37 := Fr.app Nf29 N37
        refine Goes.via (S' := T37.setTop (mkF m 66 #[.val (.int p1), .val (.long p2), .second, .val (.long p3), .second, .val (.long p4), .second, .val (.int p5), .val (.long am), .second, .val (.long tt), .second, .val (.ref b3), .unset, .unset, .unset, .unset, .unset, .unset] [(.long (tt + (p5.toInt64)))])) (fun _ kz => st37.trans kz) ?_
        refine Goes.via (S' := T37.setTop (mkF m 70 #[.val (.int p1), .val (.long p2), .second, .val (.long p3), .second, .val (.long p4), .second, .val (.int p5), .val (.long am), .second, .val (.long tt), .second, .val (.ref b3), .val (.long (tt + (p5.toInt64))), .second, .unset, .unset, .unset, .unset] [(.ref b3)])) (fun tz kz => ?_) ?_
        · show Steps p.tables e below (T37.setTop (mkF m 66 #[.val (.int p1), .val (.long p2), .second, .val (.long p3), .second, .val (.long p4), .second, .val (.int p5), .val (.long am), .second, .val (.long tt), .second, .val (.ref b3), .unset, .unset, .unset, .unset, .unset, .unset] [(.long (tt + (p5.toInt64)))])) _
          refine XS.lstore X37.here hx rfl (hb hby at_66) rfl (l' := #[.val (.int p1), .val (.long p2), .second, .val (.long p3), .second, .val (.long p4), .second, .val (.int p5), .val (.long am), .second, .val (.long tt), .second, .val (.ref b3), .val (.long (tt + (p5.toInt64))), .second, .unset, .unset, .unset, .unset]) rfl ?_
          refine XS.aload X37.here hx rfl (hb hby at_68) rfl rfl ?_
          exact kz
        obtain ⟨cq38, kq38, q38a, q38b, q38c⟩ := isOf hZ e37 E29_
        obtain ⟨_, _, ⟨T38, L38, k38, n38⟩, -, X38, ⟨Lc38, hQ38, l38, y38, z38⟩, st38⟩ := X37.virtualBack hx (y := (⟨"lambdary/statistics/IntegralSum", "sum", "()J"⟩ : MethodName)) (z := (⟨"lambdary/statistics/IntegralSum", "sum", "()J"⟩ : MethodName)) hown (mvT hZ (w_ hw 29 rfl)) (mvT hZ (w_ hw 30 rfl)) (notFace_of_selects (args := #[]) (mvT hZ (w_ hw 32 rfl))) (mvT hZ (w_ hw 32 rfl)) (mvT hZ (w_ hw 31 rfl)) (by decide) (backOf (W := 0) (rsm l Z a0 hw [] b3 (0 : Int64) (0 : Int64) (0 : Int32) (1 : Int32) T29.heap n0 Z_29 E29_ Fa29 Fb29 Fc29 Fd29 g1) hZ (w_ hw 33 rfl) (w_ hw 9 rfl) (by decide) (by decide)) q38a q38c (g := (mkF m 70 #[.val (.int p1), .val (.long p2), .second, .val (.long p3), .second, .val (.long p4), .second, .val (.int p5), .val (.long am), .second, .val (.long tt), .second, .val (.ref b3), .val (.long (tt + (p5.toInt64))), .second, .unset, .unset, .unset, .unset] [(.ref b3)])) rfl (by rw [hml]; rfl) (Steps.refl _) (argsL := []) (rest := []) (lenOf pd_8 rfl) rfl (by show 2 * 0 + _ ≤ _; exact Nat.le_of_eq rfl) (hb hby at_70) (fun _ _ => ⟨rfl, e37, (by decide : 1 + 0 ≤ _), (by decide : 4 + 0 ≤ _)⟩)
        dsimp only [Pt.U, Pt.locs, Pt.cells, Pt.slots] at X38 l38 y38 z38 st38 hQ38
        subst l38 y38 z38
        obtain ⟨rfl, N38, e38⟩ := hQ38
        have Nf38 := Fr.app Nf37 N38
        refine Goes.via (S' := T38.setTop (mkF m 73 #[.val (.int p1), .val (.long p2), .second, .val (.long p3), .second, .val (.long p4), .second, .val (.int p5), .val (.long am), .second, .val (.long tt), .second, .val (.ref b3), .val (.long (tt + (p5.toInt64))), .second, .unset, .unset, .unset, .unset] [(.long (0 : Int64))])) (fun _ kz => st38.trans kz) ?_
        refine Goes.via (S' := T38.setTop (mkF m 93 #[.val (.int p1), .val (.long p2), .second, .val (.long p3), .second, .val (.long p4), .second, .val (.int p5), .val (.long am), .second, .val (.long tt), .second, .val (.ref b3), .val (.long (tt + (p5.toInt64))), .second, .val (.long (0 : Int64)), .second, .val (.int (1 : Int32)), .unset] [(.int p5)])) (fun tz kz => ?_) ?_
        · show Steps p.tables e below (T38.setTop (mkF m 73 #[.val (.int p1), .val (.long p2), .second, .val (.long p3), .second, .val (.long p4), .second, .val (.int p5), .val (.long am), .second, .val (.long tt), .second, .val (.ref b3), .val (.long (tt + (p5.toInt64))), .second, .unset, .unset, .unset, .unset] [(.long (0 : Int64))])) _
          refine XS.lstore X38.here hx rfl (hb hby at_73) rfl (l' := #[.val (.int p1), .val (.long p2), .second, .val (.long p3), .second, .val (.long p4), .second, .val (.int p5), .val (.long am), .second, .val (.long tt), .second, .val (.ref b3), .val (.long (tt + (p5.toInt64))), .second, .val (.long (0 : Int64)), .second, .unset, .unset]) rfl ?_
          refine XS.lload X38.here hx rfl (hb hby at_75) rfl ?_
          refine X38.ldc2Long hx hown (mvT hZ (w_ hw 38 rfl)) (g := (mkF m 77 #[.val (.int p1), .val (.long p2), .second, .val (.long p3), .second, .val (.long p4), .second, .val (.int p5), .val (.long am), .second, .val (.long tt), .second, .val (.ref b3), .val (.long (tt + (p5.toInt64))), .second, .val (.long (0 : Int64)), .second, .unset, .unset] [(.long am)])) rfl (hb hby at_77) _ ?_
          refine XS.lcmp X38.here hx rfl (hb hby at_80) rfl ?_
          show Steps p.tables e below (T38.setTop (mkF m 81 #[.val (.int p1), .val (.long p2), .second, .val (.long p3), .second, .val (.long p4), .second, .val (.int p5), .val (.long am), .second, .val (.long tt), .second, .val (.ref b3), .val (.long (tt + (p5.toInt64))), .second, .val (.long (0 : Int64)), .second, .unset, .unset] [(.int (lcmpW am (4294967296 : Int64)))])) _
          refine XS.ifNo X38.here hx rfl (hb hby at_81) rfl ((if0 _ _).trans (tlt ((lw_gt _ _).mpr hc)).2.2.2) ?_
          refine XS.iconst X38.here hx rfl (hb hby at_84) ?_
          refine XS.goto X38.here hx rfl (pc0 := 85) (pc' := 89) rfl (hb hby at_85) (by decide) (by decide) ?_
          refine XS.istore X38.here hx rfl (hb hby at_89) rfl (l' := #[.val (.int p1), .val (.long p2), .second, .val (.long p3), .second, .val (.long p4), .second, .val (.int p5), .val (.long am), .second, .val (.long tt), .second, .val (.ref b3), .val (.long (tt + (p5.toInt64))), .second, .val (.long (0 : Int64)), .second, .val (.int (1 : Int32)), .unset]) rfl ?_
          show Steps p.tables e below (T38.setTop (mkF m 91 #[.val (.int p1), .val (.long p2), .second, .val (.long p3), .second, .val (.long p4), .second, .val (.int p5), .val (.long am), .second, .val (.long tt), .second, .val (.ref b3), .val (.long (tt + (p5.toInt64))), .second, .val (.long (0 : Int64)), .second, .val (.int (1 : Int32)), .unset] [])) _
          refine XS.iload X38.here hx rfl (hb hby at_91) rfl ?_
          exact kz
        obtain ⟨r42, hr42⟩ : ∃ zz_ : Int32, zz_ = (if (0 : Int32) < p5 then (if ((9223372036854775807 : Int64) - (p5.toInt64)) < tt then (1 : Int32) else (0 : Int32)) else (if tt < ((-9223372036854775808 : Int64) - (p5.toInt64)) then (1 : Int32) else (0 : Int32))) := ⟨_, rfl⟩
        have j93_43 : ∀ t, Steps p.tables e below (T38.setTop (mkF m 139 #[.val (.int p1), .val (.long p2), .second, .val (.long p3), .second, .val (.long p4), .second, .val (.int p5), .val (.long am), .second, .val (.long tt), .second, .val (.ref b3), .val (.long (tt + (p5.toInt64))), .second, .val (.long (0 : Int64)), .second, .val (.int (1 : Int32)), .val (.int r42)] [])) t → Steps p.tables e below (T38.setTop (mkF m 93 #[.val (.int p1), .val (.long p2), .second, .val (.long p3), .second, .val (.long p4), .second, .val (.int p5), .val (.long am), .second, .val (.long tt), .second, .val (.ref b3), .val (.long (tt + (p5.toInt64))), .second, .val (.long (0 : Int64)), .second, .val (.int (1 : Int32)), .unset] [(.int p5)])) t := by
          intro tz kz
          by_cases hc93_39 : (0 : Int32) < p5
          · rw [if_pos hc93_39] at hr42
            show Steps p.tables e below (T38.setTop (mkF m 93 #[.val (.int p1), .val (.long p2), .second, .val (.long p3), .second, .val (.long p4), .second, .val (.int p5), .val (.long am), .second, .val (.long tt), .second, .val (.ref b3), .val (.long (tt + (p5.toInt64))), .second, .val (.long (0 : Int64)), .second, .val (.int (1 : Int32)), .unset] [(.int p5)])) _
            refine XS.ifNo X38.here hx rfl (hb hby at_93) rfl ((if0 _ _).trans (tlt hc93_39).2.2.2) ?_
            refine XS.lload X38.here hx rfl (hb hby at_96) rfl ?_
            refine X38.ldc2Long hx hown (mvT hZ (w_ hw 39 rfl)) (g := (mkF m 98 #[.val (.int p1), .val (.long p2), .second, .val (.long p3), .second, .val (.long p4), .second, .val (.int p5), .val (.long am), .second, .val (.long tt), .second, .val (.ref b3), .val (.long (tt + (p5.toInt64))), .second, .val (.long (0 : Int64)), .second, .val (.int (1 : Int32)), .unset] [(.long tt)])) rfl (hb hby at_98) _ ?_
            refine XS.iload X38.here hx rfl (hb hby at_101) rfl ?_
            show Steps p.tables e below (T38.setTop (mkF m 103 #[.val (.int p1), .val (.long p2), .second, .val (.long p3), .second, .val (.long p4), .second, .val (.int p5), .val (.long am), .second, .val (.long tt), .second, .val (.ref b3), .val (.long (tt + (p5.toInt64))), .second, .val (.long (0 : Int64)), .second, .val (.int (1 : Int32)), .unset] [(.int p5), (.long (9223372036854775807 : Int64)), (.long tt)])) _
            refine XS.i2l X38.here hx rfl (hb hby at_103) rfl ?_
            refine XS.lsub X38.here hx rfl (hb hby at_104) rfl ?_
            refine XS.lcmp X38.here hx rfl (hb hby at_105) rfl ?_
            by_cases hc106_40 : ((9223372036854775807 : Int64) - (p5.toInt64)) < tt
            · rw [if_pos hc106_40] at hr42
              show Steps p.tables e below (T38.setTop (mkF m 106 #[.val (.int p1), .val (.long p2), .second, .val (.long p3), .second, .val (.long p4), .second, .val (.int p5), .val (.long am), .second, .val (.long tt), .second, .val (.ref b3), .val (.long (tt + (p5.toInt64))), .second, .val (.long (0 : Int64)), .second, .val (.int (1 : Int32)), .unset] [(.int (lcmpW tt ((9223372036854775807 : Int64) - (p5.toInt64))))])) _
              refine XS.ifNo X38.here hx rfl (hb hby at_106) rfl ((if0 _ _).trans (tlt ((lw_gt _ _).mpr hc106_40)).2.2.2) ?_
              refine XS.iconst X38.here hx rfl (hb hby at_109) ?_
              refine XS.goto X38.here hx rfl (pc0 := 110) (pc' := 114) rfl (hb hby at_110) (by decide) (by decide) ?_
              refine XS.istore X38.here hx rfl (hb hby at_114) rfl (l' := #[.val (.int p1), .val (.long p2), .second, .val (.long p3), .second, .val (.long p4), .second, .val (.int p5), .val (.long am), .second, .val (.long tt), .second, .val (.ref b3), .val (.long (tt + (p5.toInt64))), .second, .val (.long (0 : Int64)), .second, .val (.int (1 : Int32)), .val (.int (1 : Int32))]) rfl ?_
              show Steps p.tables e below (T38.setTop (mkF m 116 #[.val (.int p1), .val (.long p2), .second, .val (.long p3), .second, .val (.long p4), .second, .val (.int p5), .val (.long am), .second, .val (.long tt), .second, .val (.ref b3), .val (.long (tt + (p5.toInt64))), .second, .val (.long (0 : Int64)), .second, .val (.int (1 : Int32)), .val (.int (1 : Int32))] [])) _
              refine XS.goto X38.here hx rfl (pc0 := 116) (pc' := 139) rfl (hb hby at_116) (by decide) (by decide) ?_
              subst hr42
              exact kz
            · rw [if_neg hc106_40] at hr42
              show Steps p.tables e below (T38.setTop (mkF m 106 #[.val (.int p1), .val (.long p2), .second, .val (.long p3), .second, .val (.long p4), .second, .val (.int p5), .val (.long am), .second, .val (.long tt), .second, .val (.ref b3), .val (.long (tt + (p5.toInt64))), .second, .val (.long (0 : Int64)), .second, .val (.int (1 : Int32)), .unset] [(.int (lcmpW tt ((9223372036854775807 : Int64) - (p5.toInt64))))])) _
              refine XS.ifYes X38.here hx rfl (pc0 := 106) (pc' := 113) rfl (hb hby at_106) rfl ((if0 _ _).trans (flt (mt (lw_gt _ _).mp hc106_40)).2.2.2) (by decide) (by decide) ?_
              refine XS.iconst X38.here hx rfl (hb hby at_113) ?_
              refine XS.istore X38.here hx rfl (hb hby at_114) rfl (l' := #[.val (.int p1), .val (.long p2), .second, .val (.long p3), .second, .val (.long p4), .second, .val (.int p5), .val (.long am), .second, .val (.long tt), .second, .val (.ref b3), .val (.long (tt + (p5.toInt64))), .second, .val (.long (0 : Int64)), .second, .val (.int (1 : Int32)), .val (.int (0 : Int32))]) rfl ?_
              refine XS.goto X38.here hx rfl (pc0 := 116) (pc' := 139) rfl (hb hby at_116) (by decide) (by decide) ?_
              subst hr42
              exact kz
          · rw [if_neg hc93_39] at hr42
            show Steps p.tables e below (T38.setTop (mkF m 93 #[.val (.int p1), .val (.long p2), .second, .val (.long p3), .second, .val (.long p4), .second, .val (.int p5), .val (.long am), .second, .val (.long tt), .second, .val (.ref b3), .val (.long (tt + (p5.toInt64))), .second, .val (.long (0 : Int64)), .second, .val (.int (1 : Int32)), .unset] [(.int p5)])) _
            refine XS.ifYes X38.here hx rfl (pc0 := 93) (pc' := 119) rfl (hb hby at_93) rfl ((if0 _ _).trans (flt hc93_39).2.2.2) (by decide) (by decide) ?_
            refine XS.lload X38.here hx rfl (hb hby at_119) rfl ?_
            refine X38.ldc2Long hx hown (mvT hZ (w_ hw 130 rfl)) (g := (mkF m 121 #[.val (.int p1), .val (.long p2), .second, .val (.long p3), .second, .val (.long p4), .second, .val (.int p5), .val (.long am), .second, .val (.long tt), .second, .val (.ref b3), .val (.long (tt + (p5.toInt64))), .second, .val (.long (0 : Int64)), .second, .val (.int (1 : Int32)), .unset] [(.long tt)])) rfl (hb hby at_121) _ ?_
            refine XS.iload X38.here hx rfl (hb hby at_124) rfl ?_
            show Steps p.tables e below (T38.setTop (mkF m 126 #[.val (.int p1), .val (.long p2), .second, .val (.long p3), .second, .val (.long p4), .second, .val (.int p5), .val (.long am), .second, .val (.long tt), .second, .val (.ref b3), .val (.long (tt + (p5.toInt64))), .second, .val (.long (0 : Int64)), .second, .val (.int (1 : Int32)), .unset] [(.int p5), (.long (-9223372036854775808 : Int64)), (.long tt)])) _
            refine XS.i2l X38.here hx rfl (hb hby at_126) rfl ?_
            refine XS.lsub X38.here hx rfl (hb hby at_127) rfl ?_
            refine XS.lcmp X38.here hx rfl (hb hby at_128) rfl ?_
            by_cases hc129_41 : tt < ((-9223372036854775808 : Int64) - (p5.toInt64))
            · rw [if_pos hc129_41] at hr42
              show Steps p.tables e below (T38.setTop (mkF m 129 #[.val (.int p1), .val (.long p2), .second, .val (.long p3), .second, .val (.long p4), .second, .val (.int p5), .val (.long am), .second, .val (.long tt), .second, .val (.ref b3), .val (.long (tt + (p5.toInt64))), .second, .val (.long (0 : Int64)), .second, .val (.int (1 : Int32)), .unset] [(.int (lcmpW tt ((-9223372036854775808 : Int64) - (p5.toInt64))))])) _
              refine XS.ifNo X38.here hx rfl (hb hby at_129) rfl ((if0 _ _).trans (tlt ((lw_lt _ _).mpr hc129_41)).2.1) ?_
              refine XS.iconst X38.here hx rfl (hb hby at_132) ?_
              refine XS.goto X38.here hx rfl (pc0 := 133) (pc' := 137) rfl (hb hby at_133) (by decide) (by decide) ?_
              refine XS.istore X38.here hx rfl (hb hby at_137) rfl (l' := #[.val (.int p1), .val (.long p2), .second, .val (.long p3), .second, .val (.long p4), .second, .val (.int p5), .val (.long am), .second, .val (.long tt), .second, .val (.ref b3), .val (.long (tt + (p5.toInt64))), .second, .val (.long (0 : Int64)), .second, .val (.int (1 : Int32)), .val (.int (1 : Int32))]) rfl ?_
              subst hr42
              exact kz
            · rw [if_neg hc129_41] at hr42
              show Steps p.tables e below (T38.setTop (mkF m 129 #[.val (.int p1), .val (.long p2), .second, .val (.long p3), .second, .val (.long p4), .second, .val (.int p5), .val (.long am), .second, .val (.long tt), .second, .val (.ref b3), .val (.long (tt + (p5.toInt64))), .second, .val (.long (0 : Int64)), .second, .val (.int (1 : Int32)), .unset] [(.int (lcmpW tt ((-9223372036854775808 : Int64) - (p5.toInt64))))])) _
              refine XS.ifYes X38.here hx rfl (pc0 := 129) (pc' := 136) rfl (hb hby at_129) rfl ((if0 _ _).trans (flt (mt (lw_lt _ _).mp hc129_41)).2.1) (by decide) (by decide) ?_
              refine XS.iconst X38.here hx rfl (hb hby at_136) ?_
              refine XS.istore X38.here hx rfl (hb hby at_137) rfl (l' := #[.val (.int p1), .val (.long p2), .second, .val (.long p3), .second, .val (.long p4), .second, .val (.int p5), .val (.long am), .second, .val (.long tt), .second, .val (.ref b3), .val (.long (tt + (p5.toInt64))), .second, .val (.long (0 : Int64)), .second, .val (.int (1 : Int32)), .val (.int (0 : Int32))]) rfl ?_
              subst hr42
              exact kz
        refine Goes.via j93_43 ?_
        refine Goes.via (S' := T38.setTop (mkF m 196 #[.val (.int p1), .val (.long p2), .second, .val (.long p3), .second, .val (.long p4), .second, .val (.int p5), .val (.long am), .second, .val (.long tt), .second, .val (.ref b3), .val (.long (tt + (p5.toInt64))), .second, .val (.long (0 : Int64)), .second, .val (.int (1 : Int32)), .val (.int r42)] [(.int (1 : Int32))])) (fun tz kz => ?_) ?_
        · show Steps p.tables e below (T38.setTop (mkF m 139 #[.val (.int p1), .val (.long p2), .second, .val (.long p3), .second, .val (.long p4), .second, .val (.int p5), .val (.long am), .second, .val (.long tt), .second, .val (.ref b3), .val (.long (tt + (p5.toInt64))), .second, .val (.long (0 : Int64)), .second, .val (.int (1 : Int32)), .val (.int r42)] [])) _
          refine XS.iload X38.here hx rfl (hb hby at_139) rfl ?_
          refine XS.ifNo X38.here hx rfl (hb hby at_141) rfl ((if0 _ _).trans (feq (by first | decide | rfl)).1) ?_
          refine XS.iload X38.here hx rfl (hb hby at_144) rfl ?_
          refine XS.ifYes X38.here hx rfl (pc0 := 146) (pc' := 172) rfl (hb hby at_146) rfl ((if0 _ _).trans (teq ((own_law tt p5 r42 hr42).mpr ho)).1) (by decide) (by decide) ?_
          show Steps p.tables e below (T38.setTop (mkF m 172 #[.val (.int p1), .val (.long p2), .second, .val (.long p3), .second, .val (.long p4), .second, .val (.int p5), .val (.long am), .second, .val (.long tt), .second, .val (.ref b3), .val (.long (tt + (p5.toInt64))), .second, .val (.long (0 : Int64)), .second, .val (.int (1 : Int32)), .val (.int r42)] [])) _
          refine XS.lload X38.here hx rfl (hb hby at_172) rfl ?_
          refine XS.lload X38.here hx rfl (hb hby at_174) rfl ?_
          refine XS.iload X38.here hx rfl (hb hby at_176) rfl ?_
          refine XS.i2l X38.here hx rfl (hb hby at_178) rfl ?_
          show Steps p.tables e below (T38.setTop (mkF m 179 #[.val (.int p1), .val (.long p2), .second, .val (.long p3), .second, .val (.long p4), .second, .val (.int p5), .val (.long am), .second, .val (.long tt), .second, .val (.ref b3), .val (.long (tt + (p5.toInt64))), .second, .val (.long (0 : Int64)), .second, .val (.int (1 : Int32)), .val (.int r42)] [(.long (p5.toInt64)), (.long tt), (.long (tt + (p5.toInt64)))])) _
          refine XS.ladd X38.here hx rfl (hb hby at_179) rfl ?_
          refine XS.lcmp X38.here hx rfl (hb hby at_180) rfl ?_
          refine XS.ifNo X38.here hx rfl (hb hby at_181) rfl ((if0 _ _).trans (teq ((lw_eq _ _).mpr rfl)).2) ?_
          refine XS.lload X38.here hx rfl (hb hby at_184) rfl ?_
          show Steps p.tables e below (T38.setTop (mkF m 186 #[.val (.int p1), .val (.long p2), .second, .val (.long p3), .second, .val (.long p4), .second, .val (.int p5), .val (.long am), .second, .val (.long tt), .second, .val (.ref b3), .val (.long (tt + (p5.toInt64))), .second, .val (.long (0 : Int64)), .second, .val (.int (1 : Int32)), .val (.int r42)] [(.long (0 : Int64))])) _
          refine XS.lconst X38.here hx rfl (hb hby at_186) ?_
          refine XS.lcmp X38.here hx rfl (hb hby at_187) rfl ?_
          refine XS.ifNo X38.here hx rfl (hb hby at_188) rfl ((if0 _ _).trans (teq ((lw_eq _ _).mpr rfl)).2) ?_
          refine XS.iconst X38.here hx rfl (hb hby at_191) ?_
          show Steps p.tables e below (T38.setTop (mkF m 192 #[.val (.int p1), .val (.long p2), .second, .val (.long p3), .second, .val (.long p4), .second, .val (.int p5), .val (.long am), .second, .val (.long tt), .second, .val (.ref b3), .val (.long (tt + (p5.toInt64))), .second, .val (.long (0 : Int64)), .second, .val (.int (1 : Int32)), .val (.int r42)] [(.int (1 : Int32))])) _
          refine XS.goto X38.here hx rfl (pc0 := 192) (pc' := 196) rfl (hb hby at_192) (by decide) (by decide) ?_
          exact kz
        exact Goes.retNW (s := s) (vm1 := s.vm) X38 hx Bd.notSynchronized ((State.WarmedH.refl s).since 0) (Nat.zero_le _) (t := .boolean) Bd.returns (by simp) (hb hby at_196) (Nat.le_of_ble_eq_true rfl) (Nat.le_of_ble_eq_true rfl) ⟨rfl, Nf38⟩
    · rw [own_ck0 hc] at Fd29
      obtain ⟨cq44, kq44, q44a, q44b, q44c⟩ := isOf hZ rfl E29_
      obtain ⟨_, _, ⟨T44, L44, k44, n44⟩, -, X44, ⟨Lc44, hQ44, l44, y44, z44⟩, st44⟩ := X29.virtualBack hx (y := (⟨"lambdary/statistics/IntegralSum", "fold", "(JI)J"⟩ : MethodName)) (z := (⟨"lambdary/statistics/IntegralSum", "fold", "(JI)J"⟩ : MethodName)) hown (mvT hZ (w_ hw 24 rfl)) (mvT hZ (w_ hw 25 rfl)) (notFace_of_selects (args := #[]) (mvT hZ (w_ hw 27 rfl))) (mvT hZ (w_ hw 27 rfl)) (mvT hZ (w_ hw 26 rfl)) (by decide) (backOf (W := 0) (rfi_u l Z a0 hw [] b3 tt p5 (0 : Int64) (0 : Int64) (0 : Int32) (0 : Int32) T29.heap n0 Z_29 E29_ Fa29 Fb29 Fc29 Fd29 g1) hZ (w_ hw 28 rfl) (w_ hw 9 rfl) (by decide) (by decide)) q44a q44c (g := (mkF m 63 #[.val (.int p1), .val (.long p2), .second, .val (.long p3), .second, .val (.long p4), .second, .val (.int p5), .val (.long am), .second, .val (.long tt), .second, .val (.ref b3), .unset, .unset, .unset, .unset, .unset, .unset] [(.int p5), (.long tt), (.ref b3)])) rfl (by rw [hml]; rfl) (Steps.refl _) (argsL := [(.long tt), (.int p5)]) (rest := []) (lenOf pd_7 rfl) rfl (by show 2 * 0 + _ ≤ _; exact Nat.le_of_eq rfl) (hb hby at_63) (fun _ _ => ⟨rfl, rfl, (by decide : 1 + 0 ≤ _), (by decide : 4 + 0 ≤ _)⟩)
      dsimp only [Pt.U, Pt.locs, Pt.cells, Pt.slots] at X44 l44 y44 z44 st44 hQ44
      subst l44 y44 z44
      obtain ⟨rfl, N44, e44⟩ := hQ44
      have Nf44 := Fr.app Nf29 N44
      refine Goes.via (S' := T44.setTop (mkF m 66 #[.val (.int p1), .val (.long p2), .second, .val (.long p3), .second, .val (.long p4), .second, .val (.int p5), .val (.long am), .second, .val (.long tt), .second, .val (.ref b3), .unset, .unset, .unset, .unset, .unset, .unset] [(.long (tt + (p5.toInt64)))])) (fun _ kz => st44.trans kz) ?_
      refine Goes.via (S' := T44.setTop (mkF m 70 #[.val (.int p1), .val (.long p2), .second, .val (.long p3), .second, .val (.long p4), .second, .val (.int p5), .val (.long am), .second, .val (.long tt), .second, .val (.ref b3), .val (.long (tt + (p5.toInt64))), .second, .unset, .unset, .unset, .unset] [(.ref b3)])) (fun tz kz => ?_) ?_
      · show Steps p.tables e below (T44.setTop (mkF m 66 #[.val (.int p1), .val (.long p2), .second, .val (.long p3), .second, .val (.long p4), .second, .val (.int p5), .val (.long am), .second, .val (.long tt), .second, .val (.ref b3), .unset, .unset, .unset, .unset, .unset, .unset] [(.long (tt + (p5.toInt64)))])) _
        refine XS.lstore X44.here hx rfl (hb hby at_66) rfl (l' := #[.val (.int p1), .val (.long p2), .second, .val (.long p3), .second, .val (.long p4), .second, .val (.int p5), .val (.long am), .second, .val (.long tt), .second, .val (.ref b3), .val (.long (tt + (p5.toInt64))), .second, .unset, .unset, .unset, .unset]) rfl ?_
        refine XS.aload X44.here hx rfl (hb hby at_68) rfl rfl ?_
        exact kz
      obtain ⟨cq45, kq45, q45a, q45b, q45c⟩ := isOf hZ e44 E29_
      obtain ⟨_, _, ⟨T45, L45, k45, n45⟩, -, X45, ⟨Lc45, hQ45, l45, y45, z45⟩, st45⟩ := X44.virtualBack hx (y := (⟨"lambdary/statistics/IntegralSum", "sum", "()J"⟩ : MethodName)) (z := (⟨"lambdary/statistics/IntegralSum", "sum", "()J"⟩ : MethodName)) hown (mvT hZ (w_ hw 29 rfl)) (mvT hZ (w_ hw 30 rfl)) (notFace_of_selects (args := #[]) (mvT hZ (w_ hw 32 rfl))) (mvT hZ (w_ hw 32 rfl)) (mvT hZ (w_ hw 31 rfl)) (by decide) (backOf (W := 0) (rsm l Z a0 hw [] b3 (0 : Int64) (0 : Int64) (0 : Int32) (0 : Int32) T29.heap n0 Z_29 E29_ Fa29 Fb29 Fc29 Fd29 g1) hZ (w_ hw 33 rfl) (w_ hw 9 rfl) (by decide) (by decide)) q45a q45c (g := (mkF m 70 #[.val (.int p1), .val (.long p2), .second, .val (.long p3), .second, .val (.long p4), .second, .val (.int p5), .val (.long am), .second, .val (.long tt), .second, .val (.ref b3), .val (.long (tt + (p5.toInt64))), .second, .unset, .unset, .unset, .unset] [(.ref b3)])) rfl (by rw [hml]; rfl) (Steps.refl _) (argsL := []) (rest := []) (lenOf pd_8 rfl) rfl (by show 2 * 0 + _ ≤ _; exact Nat.le_of_eq rfl) (hb hby at_70) (fun _ _ => ⟨rfl, e44, (by decide : 1 + 0 ≤ _), (by decide : 4 + 0 ≤ _)⟩)
      dsimp only [Pt.U, Pt.locs, Pt.cells, Pt.slots] at X45 l45 y45 z45 st45 hQ45
      subst l45 y45 z45
      obtain ⟨rfl, N45, e45⟩ := hQ45
      have Nf45 := Fr.app Nf44 N45
      refine Goes.via (S' := T45.setTop (mkF m 73 #[.val (.int p1), .val (.long p2), .second, .val (.long p3), .second, .val (.long p4), .second, .val (.int p5), .val (.long am), .second, .val (.long tt), .second, .val (.ref b3), .val (.long (tt + (p5.toInt64))), .second, .unset, .unset, .unset, .unset] [(.long (0 : Int64))])) (fun _ kz => st45.trans kz) ?_
      refine Goes.via (S' := T45.setTop (mkF m 93 #[.val (.int p1), .val (.long p2), .second, .val (.long p3), .second, .val (.long p4), .second, .val (.int p5), .val (.long am), .second, .val (.long tt), .second, .val (.ref b3), .val (.long (tt + (p5.toInt64))), .second, .val (.long (0 : Int64)), .second, .val (.int (0 : Int32)), .unset] [(.int p5)])) (fun tz kz => ?_) ?_
      · show Steps p.tables e below (T45.setTop (mkF m 73 #[.val (.int p1), .val (.long p2), .second, .val (.long p3), .second, .val (.long p4), .second, .val (.int p5), .val (.long am), .second, .val (.long tt), .second, .val (.ref b3), .val (.long (tt + (p5.toInt64))), .second, .unset, .unset, .unset, .unset] [(.long (0 : Int64))])) _
        refine XS.lstore X45.here hx rfl (hb hby at_73) rfl (l' := #[.val (.int p1), .val (.long p2), .second, .val (.long p3), .second, .val (.long p4), .second, .val (.int p5), .val (.long am), .second, .val (.long tt), .second, .val (.ref b3), .val (.long (tt + (p5.toInt64))), .second, .val (.long (0 : Int64)), .second, .unset, .unset]) rfl ?_
        refine XS.lload X45.here hx rfl (hb hby at_75) rfl ?_
        refine X45.ldc2Long hx hown (mvT hZ (w_ hw 38 rfl)) (g := (mkF m 77 #[.val (.int p1), .val (.long p2), .second, .val (.long p3), .second, .val (.long p4), .second, .val (.int p5), .val (.long am), .second, .val (.long tt), .second, .val (.ref b3), .val (.long (tt + (p5.toInt64))), .second, .val (.long (0 : Int64)), .second, .unset, .unset] [(.long am)])) rfl (hb hby at_77) _ ?_
        refine XS.lcmp X45.here hx rfl (hb hby at_80) rfl ?_
        show Steps p.tables e below (T45.setTop (mkF m 81 #[.val (.int p1), .val (.long p2), .second, .val (.long p3), .second, .val (.long p4), .second, .val (.int p5), .val (.long am), .second, .val (.long tt), .second, .val (.ref b3), .val (.long (tt + (p5.toInt64))), .second, .val (.long (0 : Int64)), .second, .unset, .unset] [(.int (lcmpW am (4294967296 : Int64)))])) _
        refine XS.ifYes X45.here hx rfl (pc0 := 81) (pc' := 88) rfl (hb hby at_81) rfl ((if0 _ _).trans (flt (mt (lw_gt _ _).mp hc)).2.2.2) (by decide) (by decide) ?_
        refine XS.iconst X45.here hx rfl (hb hby at_88) ?_
        refine XS.istore X45.here hx rfl (hb hby at_89) rfl (l' := #[.val (.int p1), .val (.long p2), .second, .val (.long p3), .second, .val (.long p4), .second, .val (.int p5), .val (.long am), .second, .val (.long tt), .second, .val (.ref b3), .val (.long (tt + (p5.toInt64))), .second, .val (.long (0 : Int64)), .second, .val (.int (0 : Int32)), .unset]) rfl ?_
        refine XS.iload X45.here hx rfl (hb hby at_91) rfl ?_
        exact kz
      obtain ⟨r49, hr49⟩ : ∃ zz_ : Int32, zz_ = (if (0 : Int32) < p5 then (if ((9223372036854775807 : Int64) - (p5.toInt64)) < tt then (1 : Int32) else (0 : Int32)) else (if tt < ((-9223372036854775808 : Int64) - (p5.toInt64)) then (1 : Int32) else (0 : Int32))) := ⟨_, rfl⟩
      have j93_50 : ∀ t, Steps p.tables e below (T45.setTop (mkF m 139 #[.val (.int p1), .val (.long p2), .second, .val (.long p3), .second, .val (.long p4), .second, .val (.int p5), .val (.long am), .second, .val (.long tt), .second, .val (.ref b3), .val (.long (tt + (p5.toInt64))), .second, .val (.long (0 : Int64)), .second, .val (.int (0 : Int32)), .val (.int r49)] [])) t → Steps p.tables e below (T45.setTop (mkF m 93 #[.val (.int p1), .val (.long p2), .second, .val (.long p3), .second, .val (.long p4), .second, .val (.int p5), .val (.long am), .second, .val (.long tt), .second, .val (.ref b3), .val (.long (tt + (p5.toInt64))), .second, .val (.long (0 : Int64)), .second, .val (.int (0 : Int32)), .unset] [(.int p5)])) t := by
        intro tz kz
        by_cases hc93_46 : (0 : Int32) < p5
        · rw [if_pos hc93_46] at hr49
          show Steps p.tables e below (T45.setTop (mkF m 93 #[.val (.int p1), .val (.long p2), .second, .val (.long p3), .second, .val (.long p4), .second, .val (.int p5), .val (.long am), .second, .val (.long tt), .second, .val (.ref b3), .val (.long (tt + (p5.toInt64))), .second, .val (.long (0 : Int64)), .second, .val (.int (0 : Int32)), .unset] [(.int p5)])) _
          refine XS.ifNo X45.here hx rfl (hb hby at_93) rfl ((if0 _ _).trans (tlt hc93_46).2.2.2) ?_
          refine XS.lload X45.here hx rfl (hb hby at_96) rfl ?_
          refine X45.ldc2Long hx hown (mvT hZ (w_ hw 39 rfl)) (g := (mkF m 98 #[.val (.int p1), .val (.long p2), .second, .val (.long p3), .second, .val (.long p4), .second, .val (.int p5), .val (.long am), .second, .val (.long tt), .second, .val (.ref b3), .val (.long (tt + (p5.toInt64))), .second, .val (.long (0 : Int64)), .second, .val (.int (0 : Int32)), .unset] [(.long tt)])) rfl (hb hby at_98) _ ?_
          refine XS.iload X45.here hx rfl (hb hby at_101) rfl ?_
          show Steps p.tables e below (T45.setTop (mkF m 103 #[.val (.int p1), .val (.long p2), .second, .val (.long p3), .second, .val (.long p4), .second, .val (.int p5), .val (.long am), .second, .val (.long tt), .second, .val (.ref b3), .val (.long (tt + (p5.toInt64))), .second, .val (.long (0 : Int64)), .second, .val (.int (0 : Int32)), .unset] [(.int p5), (.long (9223372036854775807 : Int64)), (.long tt)])) _
          refine XS.i2l X45.here hx rfl (hb hby at_103) rfl ?_
          refine XS.lsub X45.here hx rfl (hb hby at_104) rfl ?_
          refine XS.lcmp X45.here hx rfl (hb hby at_105) rfl ?_
          by_cases hc106_47 : ((9223372036854775807 : Int64) - (p5.toInt64)) < tt
          · rw [if_pos hc106_47] at hr49
            show Steps p.tables e below (T45.setTop (mkF m 106 #[.val (.int p1), .val (.long p2), .second, .val (.long p3), .second, .val (.long p4), .second, .val (.int p5), .val (.long am), .second, .val (.long tt), .second, .val (.ref b3), .val (.long (tt + (p5.toInt64))), .second, .val (.long (0 : Int64)), .second, .val (.int (0 : Int32)), .unset] [(.int (lcmpW tt ((9223372036854775807 : Int64) - (p5.toInt64))))])) _
            refine XS.ifNo X45.here hx rfl (hb hby at_106) rfl ((if0 _ _).trans (tlt ((lw_gt _ _).mpr hc106_47)).2.2.2) ?_
            refine XS.iconst X45.here hx rfl (hb hby at_109) ?_
            refine XS.goto X45.here hx rfl (pc0 := 110) (pc' := 114) rfl (hb hby at_110) (by decide) (by decide) ?_
            refine XS.istore X45.here hx rfl (hb hby at_114) rfl (l' := #[.val (.int p1), .val (.long p2), .second, .val (.long p3), .second, .val (.long p4), .second, .val (.int p5), .val (.long am), .second, .val (.long tt), .second, .val (.ref b3), .val (.long (tt + (p5.toInt64))), .second, .val (.long (0 : Int64)), .second, .val (.int (0 : Int32)), .val (.int (1 : Int32))]) rfl ?_
            show Steps p.tables e below (T45.setTop (mkF m 116 #[.val (.int p1), .val (.long p2), .second, .val (.long p3), .second, .val (.long p4), .second, .val (.int p5), .val (.long am), .second, .val (.long tt), .second, .val (.ref b3), .val (.long (tt + (p5.toInt64))), .second, .val (.long (0 : Int64)), .second, .val (.int (0 : Int32)), .val (.int (1 : Int32))] [])) _
            refine XS.goto X45.here hx rfl (pc0 := 116) (pc' := 139) rfl (hb hby at_116) (by decide) (by decide) ?_
            subst hr49
            exact kz
          · rw [if_neg hc106_47] at hr49
            show Steps p.tables e below (T45.setTop (mkF m 106 #[.val (.int p1), .val (.long p2), .second, .val (.long p3), .second, .val (.long p4), .second, .val (.int p5), .val (.long am), .second, .val (.long tt), .second, .val (.ref b3), .val (.long (tt + (p5.toInt64))), .second, .val (.long (0 : Int64)), .second, .val (.int (0 : Int32)), .unset] [(.int (lcmpW tt ((9223372036854775807 : Int64) - (p5.toInt64))))])) _
            refine XS.ifYes X45.here hx rfl (pc0 := 106) (pc' := 113) rfl (hb hby at_106) rfl ((if0 _ _).trans (flt (mt (lw_gt _ _).mp hc106_47)).2.2.2) (by decide) (by decide) ?_
            refine XS.iconst X45.here hx rfl (hb hby at_113) ?_
            refine XS.istore X45.here hx rfl (hb hby at_114) rfl (l' := #[.val (.int p1), .val (.long p2), .second, .val (.long p3), .second, .val (.long p4), .second, .val (.int p5), .val (.long am), .second, .val (.long tt), .second, .val (.ref b3), .val (.long (tt + (p5.toInt64))), .second, .val (.long (0 : Int64)), .second, .val (.int (0 : Int32)), .val (.int (0 : Int32))]) rfl ?_
            refine XS.goto X45.here hx rfl (pc0 := 116) (pc' := 139) rfl (hb hby at_116) (by decide) (by decide) ?_
            subst hr49
            exact kz
        · rw [if_neg hc93_46] at hr49
          show Steps p.tables e below (T45.setTop (mkF m 93 #[.val (.int p1), .val (.long p2), .second, .val (.long p3), .second, .val (.long p4), .second, .val (.int p5), .val (.long am), .second, .val (.long tt), .second, .val (.ref b3), .val (.long (tt + (p5.toInt64))), .second, .val (.long (0 : Int64)), .second, .val (.int (0 : Int32)), .unset] [(.int p5)])) _
          refine XS.ifYes X45.here hx rfl (pc0 := 93) (pc' := 119) rfl (hb hby at_93) rfl ((if0 _ _).trans (flt hc93_46).2.2.2) (by decide) (by decide) ?_
          refine XS.lload X45.here hx rfl (hb hby at_119) rfl ?_
          refine X45.ldc2Long hx hown (mvT hZ (w_ hw 130 rfl)) (g := (mkF m 121 #[.val (.int p1), .val (.long p2), .second, .val (.long p3), .second, .val (.long p4), .second, .val (.int p5), .val (.long am), .second, .val (.long tt), .second, .val (.ref b3), .val (.long (tt + (p5.toInt64))), .second, .val (.long (0 : Int64)), .second, .val (.int (0 : Int32)), .unset] [(.long tt)])) rfl (hb hby at_121) _ ?_
          refine XS.iload X45.here hx rfl (hb hby at_124) rfl ?_
          show Steps p.tables e below (T45.setTop (mkF m 126 #[.val (.int p1), .val (.long p2), .second, .val (.long p3), .second, .val (.long p4), .second, .val (.int p5), .val (.long am), .second, .val (.long tt), .second, .val (.ref b3), .val (.long (tt + (p5.toInt64))), .second, .val (.long (0 : Int64)), .second, .val (.int (0 : Int32)), .unset] [(.int p5), (.long (-9223372036854775808 : Int64)), (.long tt)])) _
          refine XS.i2l X45.here hx rfl (hb hby at_126) rfl ?_
          refine XS.lsub X45.here hx rfl (hb hby at_127) rfl ?_
          refine XS.lcmp X45.here hx rfl (hb hby at_128) rfl ?_
          by_cases hc129_48 : tt < ((-9223372036854775808 : Int64) - (p5.toInt64))
          · rw [if_pos hc129_48] at hr49
            show Steps p.tables e below (T45.setTop (mkF m 129 #[.val (.int p1), .val (.long p2), .second, .val (.long p3), .second, .val (.long p4), .second, .val (.int p5), .val (.long am), .second, .val (.long tt), .second, .val (.ref b3), .val (.long (tt + (p5.toInt64))), .second, .val (.long (0 : Int64)), .second, .val (.int (0 : Int32)), .unset] [(.int (lcmpW tt ((-9223372036854775808 : Int64) - (p5.toInt64))))])) _
            refine XS.ifNo X45.here hx rfl (hb hby at_129) rfl ((if0 _ _).trans (tlt ((lw_lt _ _).mpr hc129_48)).2.1) ?_
            refine XS.iconst X45.here hx rfl (hb hby at_132) ?_
            refine XS.goto X45.here hx rfl (pc0 := 133) (pc' := 137) rfl (hb hby at_133) (by decide) (by decide) ?_
            refine XS.istore X45.here hx rfl (hb hby at_137) rfl (l' := #[.val (.int p1), .val (.long p2), .second, .val (.long p3), .second, .val (.long p4), .second, .val (.int p5), .val (.long am), .second, .val (.long tt), .second, .val (.ref b3), .val (.long (tt + (p5.toInt64))), .second, .val (.long (0 : Int64)), .second, .val (.int (0 : Int32)), .val (.int (1 : Int32))]) rfl ?_
            subst hr49
            exact kz
          · rw [if_neg hc129_48] at hr49
            show Steps p.tables e below (T45.setTop (mkF m 129 #[.val (.int p1), .val (.long p2), .second, .val (.long p3), .second, .val (.long p4), .second, .val (.int p5), .val (.long am), .second, .val (.long tt), .second, .val (.ref b3), .val (.long (tt + (p5.toInt64))), .second, .val (.long (0 : Int64)), .second, .val (.int (0 : Int32)), .unset] [(.int (lcmpW tt ((-9223372036854775808 : Int64) - (p5.toInt64))))])) _
            refine XS.ifYes X45.here hx rfl (pc0 := 129) (pc' := 136) rfl (hb hby at_129) rfl ((if0 _ _).trans (flt (mt (lw_lt _ _).mp hc129_48)).2.1) (by decide) (by decide) ?_
            refine XS.iconst X45.here hx rfl (hb hby at_136) ?_
            refine XS.istore X45.here hx rfl (hb hby at_137) rfl (l' := #[.val (.int p1), .val (.long p2), .second, .val (.long p3), .second, .val (.long p4), .second, .val (.int p5), .val (.long am), .second, .val (.long tt), .second, .val (.ref b3), .val (.long (tt + (p5.toInt64))), .second, .val (.long (0 : Int64)), .second, .val (.int (0 : Int32)), .val (.int (0 : Int32))]) rfl ?_
            subst hr49
            exact kz
      refine Goes.via j93_50 ?_
      refine Goes.via (S' := T45.setTop (mkF m 196 #[.val (.int p1), .val (.long p2), .second, .val (.long p3), .second, .val (.long p4), .second, .val (.int p5), .val (.long am), .second, .val (.long tt), .second, .val (.ref b3), .val (.long (tt + (p5.toInt64))), .second, .val (.long (0 : Int64)), .second, .val (.int (0 : Int32)), .val (.int r49)] [(.int (1 : Int32))])) (fun tz kz => ?_) ?_
      · show Steps p.tables e below (T45.setTop (mkF m 139 #[.val (.int p1), .val (.long p2), .second, .val (.long p3), .second, .val (.long p4), .second, .val (.int p5), .val (.long am), .second, .val (.long tt), .second, .val (.ref b3), .val (.long (tt + (p5.toInt64))), .second, .val (.long (0 : Int64)), .second, .val (.int (0 : Int32)), .val (.int r49)] [])) _
        refine XS.iload X45.here hx rfl (hb hby at_139) rfl ?_
        refine XS.ifYes X45.here hx rfl (pc0 := 141) (pc' := 172) rfl (hb hby at_141) rfl ((if0 _ _).trans (teq (by first | decide | rfl)).1) (by decide) (by decide) ?_
        refine XS.lload X45.here hx rfl (hb hby at_172) rfl ?_
        refine XS.lload X45.here hx rfl (hb hby at_174) rfl ?_
        show Steps p.tables e below (T45.setTop (mkF m 176 #[.val (.int p1), .val (.long p2), .second, .val (.long p3), .second, .val (.long p4), .second, .val (.int p5), .val (.long am), .second, .val (.long tt), .second, .val (.ref b3), .val (.long (tt + (p5.toInt64))), .second, .val (.long (0 : Int64)), .second, .val (.int (0 : Int32)), .val (.int r49)] [(.long tt), (.long (tt + (p5.toInt64)))])) _
        refine XS.iload X45.here hx rfl (hb hby at_176) rfl ?_
        refine XS.i2l X45.here hx rfl (hb hby at_178) rfl ?_
        refine XS.ladd X45.here hx rfl (hb hby at_179) rfl ?_
        refine XS.lcmp X45.here hx rfl (hb hby at_180) rfl ?_
        show Steps p.tables e below (T45.setTop (mkF m 181 #[.val (.int p1), .val (.long p2), .second, .val (.long p3), .second, .val (.long p4), .second, .val (.int p5), .val (.long am), .second, .val (.long tt), .second, .val (.ref b3), .val (.long (tt + (p5.toInt64))), .second, .val (.long (0 : Int64)), .second, .val (.int (0 : Int32)), .val (.int r49)] [(.int (lcmpW (tt + (p5.toInt64)) (tt + (p5.toInt64))))])) _
        refine XS.ifNo X45.here hx rfl (hb hby at_181) rfl ((if0 _ _).trans (teq ((lw_eq _ _).mpr rfl)).2) ?_
        refine XS.lload X45.here hx rfl (hb hby at_184) rfl ?_
        refine XS.lconst X45.here hx rfl (hb hby at_186) ?_
        refine XS.lcmp X45.here hx rfl (hb hby at_187) rfl ?_
        show Steps p.tables e below (T45.setTop (mkF m 188 #[.val (.int p1), .val (.long p2), .second, .val (.long p3), .second, .val (.long p4), .second, .val (.int p5), .val (.long am), .second, .val (.long tt), .second, .val (.ref b3), .val (.long (tt + (p5.toInt64))), .second, .val (.long (0 : Int64)), .second, .val (.int (0 : Int32)), .val (.int r49)] [(.int (lcmpW (0 : Int64) (0 : Int64)))])) _
        refine XS.ifNo X45.here hx rfl (hb hby at_188) rfl ((if0 _ _).trans (teq ((lw_eq _ _).mpr rfl)).2) ?_
        refine XS.iconst X45.here hx rfl (hb hby at_191) ?_
        refine XS.goto X45.here hx rfl (pc0 := 192) (pc' := 196) rfl (hb hby at_192) (by decide) (by decide) ?_
        exact kz
      exact Goes.retNW (s := s) (vm1 := s.vm) X45 hx Bd.notSynchronized ((State.WarmedH.refl s).since 0) (Nat.zero_le _) (t := .boolean) Bd.returns (by simp) (hb hby at_196) (Nat.le_of_ble_eq_true rfl) (Nat.le_of_ble_eq_true rfl) ⟨rfl, Nf45⟩
theorem own_isr {args : Array Value} {s : State} {t : Jvm.Term} (h : (Jvm.Cond.isRef t).value args s none s [] = some true) : ∃ v, t.eval args s none [] s = some v ∧ v.isRef = true := by
  simp only [Cond.value] at h
  cases ht : t.eval args s none [] s with
  | none => simp [ht] at h
  | some x => exact ⟨x, rfl, by rw [ht] at h; cases x <;> simp [Value.isRef] at h ⊢⟩
set_option maxRecDepth 65536 in
set_option maxHeartbeats 40000000 in
theorem comes_1 {Post : Tables → Env → Array Value → State → Outcome → State → Prop} (hpost : ∀ tb e args s v u, (limb_1_1.after args s (.returned v) u = true ∧ limb_1_2.after args s (.returned v) u = true ∧ True) → ReturnedEndW s (.returned v) u (Jvm.fieldLocs frame_1_writes args s ++ Jvm.arrayLocs frame_1_arrays args s ++ Jvm.staticLocs frame_1_statics s) 16 6656 → Post tb e args s (.returned v) u) :
    ArmFor flags0 classFile x code maxLocals ret World_1 tables_1 room_1 Calls_1 rest_1 Pre_1 Post := by
  intro l hfl _ _ p e ha hc hk s m args below hf hA hF happ hP
  obtain ⟨hcalls, hrest, hpre⟩ := hP
  obtain ⟨-, -, -, hnamed, -, -, -, hat⟩ := (Spec.applies_iff hf).mp happ
  obtain ⟨hg, hn⟩ := and_e (Cond.before_iff.mp (show (Jvm.Cond.and given_1 narrow_1).before args s = true from hpre))
  obtain ⟨hcnt, gg0⟩ := and_e hg
  obtain ⟨ga0, gg1⟩ := and_e gg0
  obtain ⟨ga1, gg2⟩ := and_e gg1
  obtain ⟨ga2, gg3⟩ := and_e gg2
  obtain ⟨ga3, gg4⟩ := and_e gg3
  obtain ⟨w0, w1, w2, w3, w4, rfl⟩ : ∃ w0 w1 w2 w3 w4 : Value, args = #[w0, w1, w2, w3, w4] := by
    have hs : args.size = 5 := by simpa [Cond.value, given_1] using hcnt
    obtain ⟨L⟩ := args
    match L, hs with
    | [w0, w1, w2, w3, w4], _ => exact ⟨w0, w1, w2, w3, w4, rfl⟩
  have hw := fun d (hd : d ∈ tables_1) => atoms_spec (ws := Jvm.Cond.code x code maxLocals ret :: tables_1) hat d (List.mem_cons_of_mem _ hd)
  have hfit : Fit s := fun {y c} hc i hi => by
    obtain ⟨ha, rfl⟩ := Array.getElem?_eq_some_iff.mp hc
    have q := List.all_eq_true.mp ((Array.all_eq_true_iff_forall_mem.mp hF) _ (Array.getElem_mem ha)) i (List.mem_range.mpr hi)
    simpa [Array.getElem?_eq_getElem hi] using q
  obtain ⟨i0, ei0⟩ := is_v ga0
  obtain rfl : w0 = (.int i0) := Option.some.inj ei0
  obtain ⟨i1, ei1⟩ := isL_v ga1
  obtain rfl : w1 = (.long i1) := Option.some.inj ei1
  obtain ⟨i2, ei2⟩ := isL_v ga2
  obtain rfl : w2 = (.long i2) := Option.some.inj ei2
  obtain ⟨i3, ei3⟩ := isL_v ga3
  obtain rfl : w3 = (.long i3) := Option.some.inj ei3
  obtain ⟨i4, ei4⟩ := is_v gg4
  obtain rfl : w4 = (.int i4) := Option.some.inj ei4
  obtain ⟨hsets, hown0⟩ := atoms_of _ (rest_1_c_eq ▸ (show rest_1_c.before _ s = true from hrest))
  obtain ⟨us, evus, hus⟩ := own_isr (Cond.before_iff.mp (hsets _ (List.mem_of_getElem? (i := 7) rfl)))
  have SU := Sta.start evus (Or.inl (hsets _ (List.mem_of_getElem? (i := 6) rfl)))
  obtain ⟨ss, evss, hss⟩ := own_isr (Cond.before_iff.mp (hsets _ (List.mem_of_getElem? (i := 12) rfl)))
  have SQ := Sta.start evss (Or.inl (hsets _ (List.mem_of_getElem? (i := 11) rfl)))
  have hl : l.stackTraces = true := by unfold Launch.stackTraces; rw [show l.flags = Jvm.pinnedFlags from hfl]; decide
  obtain ⟨n, o, h1, h2, h3, _, L, rfl, ⟨rfl, N⟩, hq⟩ := rm0 l s _ hw tables_1 i0 i1 i2 i3 i4 us ss s.heap s.heap.size (Nat.le_refl _) SU hus SQ hss hl (Old.start s) p e ha hc hk s m _ below hf ((Spec.applies_iff_loose hf).mp happ).1 ⟨rfl, State.Warmed39.refl s, rfl⟩ ⟨MethodsKnown_of_tablesKnown hcalls.2.1, FramesKnown_of_framesKnown hcalls.1 hf⟩
  refine ⟨n, _, h1, h2, h3, hpost _ _ _ _ _ _ ⟨Cond.after_iff.mpr rfl, Cond.after_iff.mpr (eq_i res_at (Term.int_eval (1)) rfl), trivial⟩ ⟨hq.1, hq.2.1, hq.2.2.1, (hq.2.2.2.sift fun y hy => Or.inr (N y hy)).mono (by decide) (by decide)⟩⟩
theorem main_1_1 : Claimed_1_1 := comes_1 fun _ _ _ _ _ _ h hF => ⟨h.1, hF⟩
theorem main_1_2 : Claimed_1_2 := comes_1 fun _ _ _ _ _ _ h hF => ⟨h.2.1, hF⟩
end Jvm.Pilot.@@N@@
namespace Jvm.Pilot.@@N@@
open Jvm Jvm.ClassFile Sem Op Lib Jvm.Free Jvm.Stand Jvm.Pilot.@@N@@.Jvm.D
/-! MADE BY PROGRAM (witnessworld.py) out of the Statement's table words and the real class files: 34 classes; the members and pool entries that the words name. The judged class is class 1, her method 1. -/
namespace start1
open Jvm.ClassFile
def u (s : String) : CpInfo := .utf8 (stringToUtf16 s)
/-- a pool by its gaps: so many unusable entries, then the entry; so many at the end -/
def gap : Nat → List CpInfo → List CpInfo
  | 0, r => r
  | n + 1, r => .unusable :: gap n r
def poolList (es : List (Nat × CpInfo)) (last : Nat) : List CpInfo := es.foldr (fun e r => gap e.1 (e.2 :: r)) (gap last [])
def pool (es : List (Nat × CpInfo)) (last : Nat) : Array CpInfo := ⟨poolList es last⟩
def fileOf (pool : Array CpInfo) (this : Nat) (attrs : Array Attribute := #[]) (ms : Array MethodInfo := #[]) (fl : Nat := 33) (sup : Nat := 0) (ifs : Array Nat := #[]) (fds : Array FieldInfo := #[]) : ClassFile where
  minorVersion := 0
  majorVersion := 65
  constantPool := pool
  accessFlags := fl
  thisClass := this
  superClass := sup
  interfaces := ifs
  fields := fds
  methods := ms
  attributes := attrs
def plain (name : String) (sup : Option ClassId) : Class where
  name := name
  kind := .ordinary
  loader := none
  accessFlags := 33
  super := sup
  interfaces := #[]
  cf := none
  fields := #[]
  methods := #[]
  instanceTypes := #[]
  staticTypes := #[]
  resolved := #[]
  callSites := []
  init := .initialized
  statics := none
  mirror := none

def pool0 : Array CpInfo := pool [(5, u "<init>"), (0, u "()V"), (1, .class_ 10), (1, u "java/lang/Object")] 113

def k0c0 : Code := { maxStack := 0, maxLocals := 1, code := object_method_1_code, exceptionTable := #[], attributes := #[] }
def k0m0 : Method := { name := "<init>", desc := "()V", sig := { parameters := [], returnType := none }, accessFlags := 1, code := some k0c0 }
/-- java/lang/Object -/
def k0 : Class := { plain "java/lang/Object" none with
  accessFlags := 33
  interfaces := #[]
  cf := some (fileOf pool0 8 #[] #[{ accessFlags := 1, nameIndex := 5, descriptorIndex := 6, attributes := #[] }] 33 0 #[] #[])
  fields := #[]
  methods := #[k0m0]
  instanceTypes := #[]
  staticTypes := #[]
  resolved := Array.replicate 124 none
  statics := none }

def pool1 : Array CpInfo := pool [(2, .class_ 4), (0, .nameAndType 5 6), (0, u "java/lang/Object"), (0, u "<init>"), (0, u "()V"), (0, .methodref 8 9), (0, .class_ 10), (0, .nameAndType 11 12), (0, u "lambdary/statistics/IntegralSumBeginPinLaw"), (0, u "pickAtMost"), (0, u "(IIJ)J"), (0, .methodref 8 14), (0, .nameAndType 15 16), (0, u "pickTotal"), (0, u "(IJ)J"), (0, .class_ 18), (0, u "lambdary/statistics/IntegralSum"), (0, .methodref 17 3), (0, .methodref 17 21), (0, .nameAndType 22 23), (0, u "begin"), (0, u "(J)V"), (0, .methodref 17 25), (0, .nameAndType 26 27), (0, u "fold"), (0, u "(JI)J"), (0, .methodref 17 29), (0, .nameAndType 30 31), (0, u "sum"), (0, u "()J"), (0, .long 4294967296), (3, .long 9223372036854775807), (1, .long 9223372036854775808), (1, .long 4294967295), (1, .methodref 43 44), (0, .class_ 45), (0, .nameAndType 46 47), (0, u "java/lang/Math"), (0, u "min"), (0, u "(II)I"), (2, u "law"), (0, u "(IJJJI)Z")] 3

def k1m0 : Method := { name := "<init>", desc := "()V", sig := { parameters := [], returnType := none }, accessFlags := 1, code := none }
def k1c1 : Code := { maxStack := 6, maxLocals := 19, code := code, exceptionTable := #[], attributes := #[] }
def k1m1 : Method := { name := "law", desc := "(IJJJI)Z", sig := { parameters := [.int, .long, .long, .long, .int], returnType := some .boolean }, accessFlags := 9, code := some k1c1 }
def k1c2 : Code := { maxStack := 4, maxLocals := 4, code := method_3_code, exceptionTable := #[], attributes := #[] }
def k1m2 : Method := { name := "pickAtMost", desc := "(IIJ)J", sig := { parameters := [.int, .int, .long], returnType := some .long }, accessFlags := 10, code := some k1c2 }
def k1c3 : Code := { maxStack := 6, maxLocals := 3, code := method_4_code, exceptionTable := #[], attributes := #[] }
def k1m3 : Method := { name := "pickTotal", desc := "(IJ)J", sig := { parameters := [.int, .long], returnType := some .long }, accessFlags := 10, code := some k1c3 }
/-- lambdary/statistics/IntegralSumBeginPinLaw -/
def k1 : Class := { plain "lambdary/statistics/IntegralSumBeginPinLaw" (some 0) with
  accessFlags := 49
  interfaces := #[]
  cf := some (fileOf pool1 8 #[] #[{ accessFlags := 1, nameIndex := 5, descriptorIndex := 6, attributes := #[] }, { accessFlags := 9, nameIndex := 50, descriptorIndex := 51, attributes := #[] }, { accessFlags := 10, nameIndex := 11, descriptorIndex := 12, attributes := #[] }, { accessFlags := 10, nameIndex := 15, descriptorIndex := 16, attributes := #[] }] 49 2 #[] #[])
  fields := #[]
  methods := #[k1m0, k1m1, k1m2, k1m3]
  instanceTypes := #[]
  staticTypes := #[]
  resolved := Array.replicate 55 none
  statics := none }

def pool2 : Array CpInfo := pool [(12, .class_ 14), (1, u "java/util/function/Consumer"), (1, .class_ 17), (0, u "java/lang/Object")] 41

/-- java/util/function/Consumer -/
def k2 : Class := { plain "java/util/function/Consumer" (some 0) with
  accessFlags := 1537
  interfaces := #[]
  cf := some (fileOf pool2 12 #[] #[] 1537 16 #[] #[])
  fields := #[]
  methods := #[]
  instanceTypes := #[]
  staticTypes := #[]
  resolved := Array.replicate 59 none
  statics := none }

def pool3 : Array CpInfo := pool [(10, .class_ 12), (1, u "lambdary/pipeline/Sink"), (41, .class_ 55), (0, u "java/lang/Object"), (0, .class_ 57), (0, u "java/util/function/Consumer"), (0, u "UNBOUNDED"), (0, u "J")] 27

/-- lambdary/pipeline/Sink -/
def k3 : Class := { plain "lambdary/pipeline/Sink" (some 0) with
  accessFlags := 1537
  interfaces := #[2]
  cf := some (fileOf pool3 10 #[] #[] 1537 54 #[56] #[{ accessFlags := 25, nameIndex := 58, descriptorIndex := 59, attributes := #[] }])
  fields := #[{ name := "UNBOUNDED", type := .long, accessFlags := 25, slot := 0, constantValue := 0 }]
  methods := #[]
  instanceTypes := #[]
  staticTypes := #[.long]
  resolved := Array.replicate 87 none
  statics := none }

def pool4 : Array CpInfo := pool [(1, .methodref 2 3), (0, .class_ 4), (0, .nameAndType 5 6), (0, u "java/lang/Object"), (0, u "<init>"), (0, u "()V"), (0, .fieldref 8 9), (0, .class_ 10), (0, .nameAndType 11 12), (0, u "lambdary/statistics/IntegralSum"), (0, u "checkInts"), (0, u "Z"), (0, .fieldref 8 14), (0, .nameAndType 15 16), (0, u "turns"), (0, u "J"), (12, .fieldref 8 30), (0, .nameAndType 31 16), (0, u "low"), (4, .class_ 37), (0, u "java/lang/ArithmeticException"), (15, u "(J)V"), (0, .long 4294967296), (1, .fieldref 8 57), (0, .nameAndType 58 12), (0, u "wrapped"), (0, .methodref 60 61), (0, .class_ 62), (0, .nameAndType 63 64), (0, u "java/lang/Math"), (0, u "addExact"), (0, u "(JJ)J"), (0, .methodref 8 66), (0, .nameAndType 67 53), (0, u "accept"), (0, .methodref 8 69), (0, .nameAndType 70 64), (0, u "fold"), (5, u "()J"), (7, .class_ 85), (0, u "lambdary/pipeline/Sink"), (0, u "UNCHECKED_INTS"), (3, u "sum"), (2, u "begin"), (1, u "(JI)J")] 24

def k4c0 : Code := { maxStack := 2, maxLocals := 1, code := prog_120_method_1_code, exceptionTable := #[], attributes := #[] }
def k4m0 : Method := { name := "<init>", desc := "()V", sig := { parameters := [], returnType := none }, accessFlags := 1, code := some k4c0 }
def k4c1 : Code := { maxStack := 4, maxLocals := 2, code := prog_120_method_2_code, exceptionTable := #[], attributes := #[] }
def k4m1 : Method := { name := "sum", desc := "()J", sig := { parameters := [], returnType := some .long }, accessFlags := 17, code := some k4c1 }
def k4c2 : Code := { maxStack := 5, maxLocals := 3, code := prog_120_method_4_code, exceptionTable := #[], attributes := #[] }
def k4m2 : Method := { name := "begin", desc := "(J)V", sig := { parameters := [.long], returnType := none }, accessFlags := 1, code := some k4c2 }
def k4c3 : Code := { maxStack := 5, maxLocals := 4, code := prog_120_method_5_code, exceptionTable := #[{ startPc := 13, endPc := 25, handlerPc := 28, catchType := 36 }], attributes := #[] }
def k4m3 : Method := { name := "accept", desc := "(J)V", sig := { parameters := [.long], returnType := none }, accessFlags := 1, code := some k4c3 }
def k4c4 : Code := { maxStack := 5, maxLocals := 4, code := prog_120_method_7_code, exceptionTable := #[], attributes := #[] }
def k4m4 : Method := { name := "fold", desc := "(JI)J", sig := { parameters := [.long, .int], returnType := some .long }, accessFlags := 1, code := some k4c4 }
def k4c5 : Code := { maxStack := 4, maxLocals := 6, code := prog_120_method_8_code, exceptionTable := #[{ startPc := 0, endPc := 5, handlerPc := 6, catchType := 36 }], attributes := #[] }
def k4m5 : Method := { name := "fold", desc := "(JJ)J", sig := { parameters := [.long, .long], returnType := some .long }, accessFlags := 1, code := some k4c5 }
/-- lambdary/statistics/IntegralSum -/
def k4 : Class := { plain "lambdary/statistics/IntegralSum" (some 0) with
  accessFlags := 33
  interfaces := #[3]
  cf := some (fileOf pool4 8 #[] #[{ accessFlags := 1, nameIndex := 5, descriptorIndex := 6, attributes := #[] }, { accessFlags := 17, nameIndex := 90, descriptorIndex := 76, attributes := #[] }, { accessFlags := 1, nameIndex := 93, descriptorIndex := 53, attributes := #[] }, { accessFlags := 1, nameIndex := 67, descriptorIndex := 53, attributes := #[] }, { accessFlags := 1, nameIndex := 70, descriptorIndex := 95, attributes := #[] }, { accessFlags := 1, nameIndex := 70, descriptorIndex := 64, attributes := #[] }] 33 2 #[84] #[{ accessFlags := 26, nameIndex := 86, descriptorIndex := 16, attributes := #[] }, { accessFlags := 2, nameIndex := 31, descriptorIndex := 16, attributes := #[] }, { accessFlags := 2, nameIndex := 15, descriptorIndex := 16, attributes := #[] }, { accessFlags := 2, nameIndex := 11, descriptorIndex := 12, attributes := #[] }, { accessFlags := 2, nameIndex := 58, descriptorIndex := 12, attributes := #[] }])
  fields := #[{ name := "UNCHECKED_INTS", type := .long, accessFlags := 26, slot := 0, constantValue := 0 }, { name := "low", type := .long, accessFlags := 2, slot := 0, constantValue := 0 }, { name := "turns", type := .long, accessFlags := 2, slot := 1, constantValue := 0 }, { name := "checkInts", type := .boolean, accessFlags := 2, slot := 2, constantValue := 0 }, { name := "wrapped", type := .boolean, accessFlags := 2, slot := 3, constantValue := 0 }]
  methods := #[k4m0, k4m1, k4m2, k4m3, k4m4, k4m5]
  instanceTypes := #[.long, .long, .boolean, .boolean]
  staticTypes := #[.long]
  resolved := Array.replicate 120 none
  statics := none }

def pool5 : Array CpInfo := pool [(1, .class_ 2), (0, u "java/lang/Math"), (1, .class_ 6), (1, u "java/lang/Object"), (0, u "<init>"), (0, u "()V"), (89, .class_ 100), (1, u "java/lang/Math$RandomNumberGeneratorHolder"), (8, .class_ 110), (0, u "java/lang/ArithmeticException"), (2, .methodref 109 114), (0, .nameAndType 7 115), (0, u "(Ljava/lang/String;)V"), (0, .string 117), (0, u "long overflow"), (3, u "(JJ)J"), (50, u "negativeZeroFloatBits"), (0, u "J"), (2, u "negativeZeroDoubleBits"), (24, u "min"), (43, u "$assertionsDisabled"), (0, u "Z"), (88, u "(II)I"), (2, u "twoToTheDoubleScaleDown"), (0, u "D"), (4, u "twoToTheDoubleScaleUp"), (9, u "E"), (3, u "PI"), (2, u "TAU"), (2, u "DEGREES_TO_RADIANS"), (0, u "RADIANS_TO_DEGREES"), (27, u "addExact")] 66

def k5m0 : Method := { name := "<init>", desc := "()V", sig := { parameters := [], returnType := none }, accessFlags := 2, code := none }
def k5c1 : Code := { maxStack := 6, maxLocals := 6, code := jdk_29_method_25_code, exceptionTable := #[], attributes := #[] }
def k5m1 : Method := { name := "addExact", desc := "(JJ)J", sig := { parameters := [.long, .long], returnType := some .long }, accessFlags := 9, code := some k5c1 }
def k5c2 : Code := { maxStack := 2, maxLocals := 2, code := jdk_29_method_69_code, exceptionTable := #[], attributes := #[] }
def k5m2 : Method := { name := "min", desc := "(II)I", sig := { parameters := [.int, .int], returnType := some .int }, accessFlags := 9, code := some k5c2 }
/-- java/lang/Math -/
def k5 : Class := { plain "java/lang/Math" (some 0) with
  accessFlags := 49
  interfaces := #[]
  cf := some (fileOf pool5 1 #[.nestMembers #[98]] #[{ accessFlags := 2, nameIndex := 7, descriptorIndex := 8, attributes := #[] }, { accessFlags := 9, nameIndex := 393, descriptorIndex := 121, attributes := #[] }, { accessFlags := 9, nameIndex := 201, descriptorIndex := 335, attributes := #[] }] 49 4 #[] #[{ accessFlags := 25, nameIndex := 354, descriptorIndex := 339, attributes := #[] }, { accessFlags := 25, nameIndex := 358, descriptorIndex := 339, attributes := #[] }, { accessFlags := 25, nameIndex := 361, descriptorIndex := 339, attributes := #[] }, { accessFlags := 26, nameIndex := 364, descriptorIndex := 339, attributes := #[] }, { accessFlags := 26, nameIndex := 365, descriptorIndex := 339, attributes := #[] }, { accessFlags := 26, nameIndex := 172, descriptorIndex := 173, attributes := #[] }, { accessFlags := 26, nameIndex := 176, descriptorIndex := 173, attributes := #[] }, { accessFlags := 8, nameIndex := 344, descriptorIndex := 339, attributes := #[] }, { accessFlags := 8, nameIndex := 338, descriptorIndex := 339, attributes := #[] }, { accessFlags := 4120, nameIndex := 245, descriptorIndex := 246, attributes := #[] }])
  fields := #[{ name := "E", type := .double, accessFlags := 25, slot := 0, constantValue := 0 }, { name := "PI", type := .double, accessFlags := 25, slot := 1, constantValue := 0 }, { name := "TAU", type := .double, accessFlags := 25, slot := 2, constantValue := 0 }, { name := "DEGREES_TO_RADIANS", type := .double, accessFlags := 26, slot := 3, constantValue := 0 }, { name := "RADIANS_TO_DEGREES", type := .double, accessFlags := 26, slot := 4, constantValue := 0 }, { name := "negativeZeroFloatBits", type := .long, accessFlags := 26, slot := 5, constantValue := 0 }, { name := "negativeZeroDoubleBits", type := .long, accessFlags := 26, slot := 6, constantValue := 0 }, { name := "twoToTheDoubleScaleUp", type := .double, accessFlags := 8, slot := 7, constantValue := 0 }, { name := "twoToTheDoubleScaleDown", type := .double, accessFlags := 8, slot := 8, constantValue := 0 }, { name := "$assertionsDisabled", type := .boolean, accessFlags := 4120, slot := 9, constantValue := 0 }]
  methods := #[k5m0, k5m1, k5m2]
  instanceTypes := #[]
  staticTypes := #[.double, .double, .double, .double, .double, .long, .long, .double, .double, .boolean]
  resolved := Array.replicate 460 none
  statics := none }

def pool6 : Array CpInfo := pool [(1, .class_ 2), (0, u "java/io/Serializable"), (0, .class_ 4), (0, u "java/lang/Object")] 2

/-- java/io/Serializable -/
def k6 : Class := { plain "java/io/Serializable" (some 0) with
  accessFlags := 1537
  interfaces := #[]
  cf := some (fileOf pool6 1 #[] #[] 1537 3 #[] #[])
  fields := #[]
  methods := #[]
  instanceTypes := #[]
  staticTypes := #[]
  resolved := Array.replicate 7 none
  statics := none }

def pool7 : Array CpInfo := pool [(1, .methodref 2 3), (0, .class_ 4), (0, .nameAndType 5 6), (0, u "java/lang/Object"), (0, u "<init>"), (0, u "()V"), (0, .fieldref 8 9), (0, .class_ 10), (0, .nameAndType 11 12), (0, u "java/lang/Throwable"), (0, u "cause"), (0, u "Ljava/lang/Throwable;"), (0, .fieldref 8 14), (0, .nameAndType 15 16), (0, u "UNASSIGNED_STACK"), (0, u "[Ljava/lang/StackTraceElement;"), (0, .fieldref 8 18), (0, .nameAndType 19 16), (0, u "stackTrace"), (0, .fieldref 8 21), (0, .nameAndType 22 23), (0, u "SUPPRESSED_SENTINEL"), (0, u "Ljava/util/List;"), (0, .fieldref 8 25), (0, .nameAndType 26 23), (0, u "suppressedExceptions"), (0, .methodref 8 28), (0, .nameAndType 29 30), (0, u "fillInStackTrace"), (0, u "()Ljava/lang/Throwable;"), (0, .fieldref 8 32), (0, .nameAndType 33 34), (0, u "detailMessage"), (0, u "Ljava/lang/String;"), (58, .class_ 94), (0, u "java/lang/Throwable$WrappedPrintStream"), (6, .class_ 103), (1, u "java/lang/Throwable$PrintStreamOrWriter"), (61, u "$assertionsDisabled"), (0, u "Z"), (26, .class_ 194), (0, u "java/lang/Throwable$WrappedPrintWriter"), (3, .fieldref 8 199), (0, .nameAndType 200 201), (0, u "backtrace"), (0, u "Ljava/lang/Object;"), (0, .methodref 8 203), (0, .nameAndType 29 204), (0, u "(I)Ljava/lang/Throwable;"), (6, u "depth"), (0, u "I"), (10, u "(Ljava/lang/String;)V"), (45, .class_ 271), (1, u "java/lang/Throwable$SentinelHolder"), (32, u "EMPTY_THROWABLE_ARRAY"), (0, u "[Ljava/lang/Throwable;"), (12, .class_ 319), (0, u "java/io/Serializable"), (0, u "serialVersionUID"), (0, u "J"), (5, u "NULL_CAUSE_MESSAGE"), (0, u "SELF_SUPPRESSION_MESSAGE"), (0, u "CAUSE_CAPTION"), (0, u "SUPPRESSED_CAPTION")] 73

def k7c0 : Code := { maxStack := 2, maxLocals := 1, code := jdk_78_method_1_code, exceptionTable := #[], attributes := #[] }
def k7m0 : Method := { name := "<init>", desc := "()V", sig := { parameters := [], returnType := none }, accessFlags := 1, code := some k7c0 }
def k7c1 : Code := { maxStack := 2, maxLocals := 2, code := jdk_78_method_2_code, exceptionTable := #[], attributes := #[] }
def k7m1 : Method := { name := "<init>", desc := "(Ljava/lang/String;)V", sig := { parameters := [(.object "java/lang/String")], returnType := none }, accessFlags := 1, code := some k7c1 }
def k7c2 : Code := { maxStack := 2, maxLocals := 1, code := ⟨#[0x2a, 0xb4, 0x00, 0x11, 0xc7, 0x00, 0x0a, 0x2a, 0xb4, 0x00, 0xc6, 0xc6, 0x00, 0x10, 0x2a, 0x03, 0xb6, 0x00, 0xca, 0x57, 0x2a, 0xb2, 0x00, 0x0d, 0xb5, 0x00, 0x11, 0x2a, 0xb0]⟩, exceptionTable := #[], attributes := #[] }
def k7m2 : Method := { name := "fillInStackTrace", desc := "()Ljava/lang/Throwable;", sig := { parameters := [], returnType := some (.object "java/lang/Throwable") }, accessFlags := 33, code := some k7c2 }
def k7m3 : Method := { name := "fillInStackTrace", desc := "(I)Ljava/lang/Throwable;", sig := { parameters := [.int], returnType := some (.object "java/lang/Throwable") }, accessFlags := 258, code := none }
/-- java/lang/Throwable -/
def k7 : Class := { plain "java/lang/Throwable" (some 0) with
  accessFlags := 33
  interfaces := #[6]
  cf := some (fileOf pool7 8 #[.nestMembers #[193, 93, 101, 269]] #[{ accessFlags := 1, nameIndex := 5, descriptorIndex := 6, attributes := #[] }, { accessFlags := 1, nameIndex := 5, descriptorIndex := 223, attributes := #[] }, { accessFlags := 33, nameIndex := 29, descriptorIndex := 30, attributes := #[] }, { accessFlags := 258, nameIndex := 29, descriptorIndex := 204, attributes := #[] }] 33 2 #[318] #[{ accessFlags := 26, nameIndex := 320, descriptorIndex := 321, attributes := #[] }, { accessFlags := 130, nameIndex := 200, descriptorIndex := 201, attributes := #[] }, { accessFlags := 2, nameIndex := 33, descriptorIndex := 34, attributes := #[] }, { accessFlags := 26, nameIndex := 15, descriptorIndex := 16, attributes := #[] }, { accessFlags := 2, nameIndex := 11, descriptorIndex := 12, attributes := #[] }, { accessFlags := 2, nameIndex := 19, descriptorIndex := 16, attributes := #[] }, { accessFlags := 130, nameIndex := 211, descriptorIndex := 212, attributes := #[] }, { accessFlags := 26, nameIndex := 22, descriptorIndex := 23, attributes := #[] }, { accessFlags := 2, nameIndex := 26, descriptorIndex := 23, attributes := #[] }, { accessFlags := 26, nameIndex := 327, descriptorIndex := 34, attributes := #[] }, { accessFlags := 26, nameIndex := 328, descriptorIndex := 34, attributes := #[] }, { accessFlags := 26, nameIndex := 329, descriptorIndex := 34, attributes := #[] }, { accessFlags := 26, nameIndex := 330, descriptorIndex := 34, attributes := #[] }, { accessFlags := 26, nameIndex := 304, descriptorIndex := 305, attributes := #[] }, { accessFlags := 4120, nameIndex := 165, descriptorIndex := 166, attributes := #[] }])
  fields := #[{ name := "serialVersionUID", type := .long, accessFlags := 26, slot := 0, constantValue := 0 }, { name := "backtrace", type := (.object "java/lang/Object"), accessFlags := 130, slot := 0, constantValue := 0 }, { name := "detailMessage", type := (.object "java/lang/String"), accessFlags := 2, slot := 1, constantValue := 0 }, { name := "UNASSIGNED_STACK", type := (.array (.object "java/lang/StackTraceElement")), accessFlags := 26, slot := 1, constantValue := 0 }, { name := "cause", type := (.object "java/lang/Throwable"), accessFlags := 2, slot := 2, constantValue := 0 }, { name := "stackTrace", type := (.array (.object "java/lang/StackTraceElement")), accessFlags := 2, slot := 3, constantValue := 0 }, { name := "depth", type := .int, accessFlags := 130, slot := 4, constantValue := 0 }, { name := "SUPPRESSED_SENTINEL", type := (.object "java/util/List"), accessFlags := 26, slot := 2, constantValue := 0 }, { name := "suppressedExceptions", type := (.object "java/util/List"), accessFlags := 2, slot := 5, constantValue := 0 }, { name := "NULL_CAUSE_MESSAGE", type := (.object "java/lang/String"), accessFlags := 26, slot := 3, constantValue := 0 }, { name := "SELF_SUPPRESSION_MESSAGE", type := (.object "java/lang/String"), accessFlags := 26, slot := 4, constantValue := 0 }, { name := "CAUSE_CAPTION", type := (.object "java/lang/String"), accessFlags := 26, slot := 5, constantValue := 0 }, { name := "SUPPRESSED_CAPTION", type := (.object "java/lang/String"), accessFlags := 26, slot := 6, constantValue := 0 }, { name := "EMPTY_THROWABLE_ARRAY", type := (.array (.object "java/lang/Throwable")), accessFlags := 26, slot := 7, constantValue := 0 }, { name := "$assertionsDisabled", type := .boolean, accessFlags := 4120, slot := 8, constantValue := 0 }]
  methods := #[k7m0, k7m1, k7m2, k7m3]
  instanceTypes := #[(.object "java/lang/Object"), (.object "java/lang/String"), (.object "java/lang/Throwable"), (.array (.object "java/lang/StackTraceElement")), .int, (.object "java/util/List")]
  staticTypes := #[.long, (.array (.object "java/lang/StackTraceElement")), (.object "java/util/List"), (.object "java/lang/String"), (.object "java/lang/String"), (.object "java/lang/String"), (.object "java/lang/String"), (.array (.object "java/lang/Throwable")), .boolean]
  resolved := Array.replicate 404 none
  statics := some 0 }

def pool8 : Array CpInfo := pool [(2, .class_ 4), (1, u "java/lang/Throwable"), (0, u "<init>"), (0, u "()V"), (0, .methodref 2 8), (0, .nameAndType 5 9), (0, u "(Ljava/lang/String;)V"), (9, .class_ 20), (0, u "java/lang/Exception"), (0, u "serialVersionUID"), (0, u "J")] 17

def k8m0 : Method := { name := "<init>", desc := "()V", sig := { parameters := [], returnType := none }, accessFlags := 1, code := none }
def k8c1 : Code := { maxStack := 2, maxLocals := 2, code := jdk_59_method_2_code, exceptionTable := #[], attributes := #[] }
def k8m1 : Method := { name := "<init>", desc := "(Ljava/lang/String;)V", sig := { parameters := [(.object "java/lang/String")], returnType := none }, accessFlags := 1, code := some k8c1 }
/-- java/lang/Exception -/
def k8 : Class := { plain "java/lang/Exception" (some 7) with
  accessFlags := 33
  interfaces := #[]
  cf := some (fileOf pool8 19 #[] #[{ accessFlags := 1, nameIndex := 5, descriptorIndex := 6, attributes := #[] }, { accessFlags := 1, nameIndex := 5, descriptorIndex := 9, attributes := #[] }] 33 2 #[] #[{ accessFlags := 24, nameIndex := 21, descriptorIndex := 22, attributes := #[] }])
  fields := #[{ name := "serialVersionUID", type := .long, accessFlags := 24, slot := 0, constantValue := 0 }]
  methods := #[k8m0, k8m1]
  instanceTypes := #[(.object "java/lang/Object"), (.object "java/lang/String"), (.object "java/lang/Throwable"), (.array (.object "java/lang/StackTraceElement")), .int, (.object "java/util/List")]
  staticTypes := #[.long]
  resolved := Array.replicate 40 none
  statics := none }

def pool9 : Array CpInfo := pool [(2, .class_ 4), (1, u "java/lang/Exception"), (0, u "<init>"), (0, u "()V"), (0, .methodref 2 8), (0, .nameAndType 5 9), (0, u "(Ljava/lang/String;)V"), (9, .class_ 20), (0, u "java/lang/RuntimeException"), (0, u "serialVersionUID"), (0, u "J")] 17

def k9m0 : Method := { name := "<init>", desc := "()V", sig := { parameters := [], returnType := none }, accessFlags := 1, code := none }
def k9c1 : Code := { maxStack := 2, maxLocals := 2, code := jdk_58_method_2_code, exceptionTable := #[], attributes := #[] }
def k9m1 : Method := { name := "<init>", desc := "(Ljava/lang/String;)V", sig := { parameters := [(.object "java/lang/String")], returnType := none }, accessFlags := 1, code := some k9c1 }
/-- java/lang/RuntimeException -/
def k9 : Class := { plain "java/lang/RuntimeException" (some 8) with
  accessFlags := 33
  interfaces := #[]
  cf := some (fileOf pool9 19 #[] #[{ accessFlags := 1, nameIndex := 5, descriptorIndex := 6, attributes := #[] }, { accessFlags := 1, nameIndex := 5, descriptorIndex := 9, attributes := #[] }] 33 2 #[] #[{ accessFlags := 24, nameIndex := 21, descriptorIndex := 22, attributes := #[] }])
  fields := #[{ name := "serialVersionUID", type := .long, accessFlags := 24, slot := 0, constantValue := 0 }]
  methods := #[k9m0, k9m1]
  instanceTypes := #[(.object "java/lang/Object"), (.object "java/lang/String"), (.object "java/lang/Throwable"), (.array (.object "java/lang/StackTraceElement")), .int, (.object "java/util/List")]
  staticTypes := #[.long]
  resolved := Array.replicate 40 none
  statics := none }

def pool10 : Array CpInfo := pool [(2, .class_ 4), (1, u "java/lang/RuntimeException"), (0, u "<init>"), (0, u "()V"), (0, .methodref 2 8), (0, .nameAndType 5 9), (0, u "(Ljava/lang/String;)V"), (0, .class_ 11), (0, u "java/lang/ArithmeticException"), (0, u "serialVersionUID"), (0, u "J")] 12

def k10m0 : Method := { name := "<init>", desc := "()V", sig := { parameters := [], returnType := none }, accessFlags := 1, code := none }
def k10c1 : Code := { maxStack := 2, maxLocals := 2, code := jdk_84_method_2_code, exceptionTable := #[], attributes := #[] }
def k10m1 : Method := { name := "<init>", desc := "(Ljava/lang/String;)V", sig := { parameters := [(.object "java/lang/String")], returnType := none }, accessFlags := 1, code := some k10c1 }
/-- java/lang/ArithmeticException -/
def k10 : Class := { plain "java/lang/ArithmeticException" (some 9) with
  accessFlags := 33
  interfaces := #[]
  cf := some (fileOf pool10 10 #[] #[{ accessFlags := 1, nameIndex := 5, descriptorIndex := 6, attributes := #[] }, { accessFlags := 1, nameIndex := 5, descriptorIndex := 9, attributes := #[] }] 33 2 #[] #[{ accessFlags := 26, nameIndex := 12, descriptorIndex := 13, attributes := #[] }])
  fields := #[{ name := "serialVersionUID", type := .long, accessFlags := 26, slot := 0, constantValue := 0 }]
  methods := #[k10m0, k10m1]
  instanceTypes := #[(.object "java/lang/Object"), (.object "java/lang/String"), (.object "java/lang/Throwable"), (.array (.object "java/lang/StackTraceElement")), .int, (.object "java/util/List")]
  staticTypes := #[.long]
  resolved := Array.replicate 26 none
  statics := none }

def pool11 : Array CpInfo := pool [(1, .class_ 2), (0, u "java/lang/Comparable"), (0, .class_ 4), (0, u "java/lang/Object")] 7

/-- java/lang/Comparable -/
def k11 : Class := { plain "java/lang/Comparable" (some 0) with
  accessFlags := 1537
  interfaces := #[]
  cf := some (fileOf pool11 1 #[] #[] 1537 3 #[] #[])
  fields := #[]
  methods := #[]
  instanceTypes := #[]
  staticTypes := #[]
  resolved := Array.replicate 12 none
  statics := none }

def pool12 : Array CpInfo := pool [(2, .class_ 4), (1, u "java/lang/CharSequence"), (42, .class_ 48), (0, u "java/lang/CharSequence$1CodePointIterator"), (10, .class_ 60), (0, u "java/lang/CharSequence$1CharIterator"), (5, .class_ 67), (0, u "java/lang/Object")] 63

/-- java/lang/CharSequence -/
def k12 : Class := { plain "java/lang/CharSequence" (some 0) with
  accessFlags := 1537
  interfaces := #[]
  cf := some (fileOf pool12 2 #[.nestMembers #[47, 59]] #[] 1537 66 #[] #[])
  fields := #[]
  methods := #[]
  instanceTypes := #[]
  staticTypes := #[]
  resolved := Array.replicate 131 none
  statics := none }

def pool13 : Array CpInfo := pool [(1, .class_ 2), (0, u "java/lang/constant/Constable"), (0, .class_ 4), (0, u "java/lang/Object")] 6

/-- java/lang/constant/Constable -/
def k13 : Class := { plain "java/lang/constant/Constable" (some 0) with
  accessFlags := 1537
  interfaces := #[]
  cf := some (fileOf pool13 1 #[] #[] 1537 3 #[] #[])
  fields := #[]
  methods := #[]
  instanceTypes := #[]
  staticTypes := #[]
  resolved := Array.replicate 11 none
  statics := none }

def pool14 : Array CpInfo := pool [(1, .class_ 2), (0, u "java/lang/constant/ConstantDesc"), (0, .class_ 4), (0, u "java/lang/Object")] 32

/-- java/lang/constant/ConstantDesc -/
def k14 : Class := { plain "java/lang/constant/ConstantDesc" (some 0) with
  accessFlags := 1537
  interfaces := #[]
  cf := some (fileOf pool14 1 #[] #[] 1537 3 #[] #[])
  fields := #[]
  methods := #[]
  instanceTypes := #[]
  staticTypes := #[]
  resolved := Array.replicate 37 none
  statics := none }

def pool15 : Array CpInfo := pool [(2, .class_ 4), (1, u "java/lang/Object"), (0, u "<init>"), (0, u "()V"), (3, .class_ 12), (1, u "java/lang/String"), (0, u "value"), (0, u "[B"), (2, u "coder"), (0, u "B"), (2, u "hash"), (0, u "I"), (2, u "hashIsZero"), (0, u "Z"), (13, u "COMPACT_STRINGS"), (534, .class_ 576), (0, u "java/lang/CharSequence"), (22, u "CASE_INSENSITIVE_ORDER"), (0, u "Ljava/util/Comparator;"), (500, u "serialPersistentFields"), (0, u "[Ljava/io/ObjectStreamField;"), (0, .class_ 1104), (0, u "java/lang/String$CaseInsensitiveComparator"), (1, .class_ 1107), (0, u "java/io/Serializable"), (0, .class_ 1109), (0, u "java/lang/Comparable"), (0, .class_ 1111), (0, u "java/lang/constant/Constable"), (0, .class_ 1113), (0, u "java/lang/constant/ConstantDesc"), (2, u "serialVersionUID"), (0, u "J"), (3, u "REPL"), (0, u "C"), (2, u "LATIN1"), (1, u "UTF16")] 323

def k15m0 : Method := { name := "<init>", desc := "()V", sig := { parameters := [], returnType := none }, accessFlags := 1, code := none }
/-- java/lang/String -/
def k15 : Class := { plain "java/lang/String" (some 0) with
  accessFlags := 49
  interfaces := #[6, 11, 12, 13, 14]
  cf := some (fileOf pool15 10 #[.nestMembers #[1103]] #[{ accessFlags := 1, nameIndex := 5, descriptorIndex := 6, attributes := #[] }] 49 2 #[1106, 1108, 575, 1110, 1112] #[{ accessFlags := 18, nameIndex := 13, descriptorIndex := 14, attributes := #[] }, { accessFlags := 18, nameIndex := 17, descriptorIndex := 18, attributes := #[] }, { accessFlags := 2, nameIndex := 21, descriptorIndex := 22, attributes := #[] }, { accessFlags := 2, nameIndex := 25, descriptorIndex := 26, attributes := #[] }, { accessFlags := 26, nameIndex := 1116, descriptorIndex := 1117, attributes := #[] }, { accessFlags := 24, nameIndex := 40, descriptorIndex := 26, attributes := #[] }, { accessFlags := 26, nameIndex := 1101, descriptorIndex := 1102, attributes := #[] }, { accessFlags := 26, nameIndex := 1121, descriptorIndex := 1122, attributes := #[] }, { accessFlags := 25, nameIndex := 599, descriptorIndex := 600, attributes := #[] }, { accessFlags := 24, nameIndex := 1125, descriptorIndex := 18, attributes := #[] }, { accessFlags := 24, nameIndex := 1127, descriptorIndex := 18, attributes := #[] }])
  fields := #[{ name := "value", type := (.array .byte), accessFlags := 18, slot := 0, constantValue := 0 }, { name := "coder", type := .byte, accessFlags := 18, slot := 1, constantValue := 0 }, { name := "hash", type := .int, accessFlags := 2, slot := 2, constantValue := 0 }, { name := "hashIsZero", type := .boolean, accessFlags := 2, slot := 3, constantValue := 0 }, { name := "serialVersionUID", type := .long, accessFlags := 26, slot := 0, constantValue := 0 }, { name := "COMPACT_STRINGS", type := .boolean, accessFlags := 24, slot := 1, constantValue := 0 }, { name := "serialPersistentFields", type := (.array (.object "java/io/ObjectStreamField")), accessFlags := 26, slot := 2, constantValue := 0 }, { name := "REPL", type := .char, accessFlags := 26, slot := 3, constantValue := 0 }, { name := "CASE_INSENSITIVE_ORDER", type := (.object "java/util/Comparator"), accessFlags := 25, slot := 4, constantValue := 0 }, { name := "LATIN1", type := .byte, accessFlags := 24, slot := 5, constantValue := 0 }, { name := "UTF16", type := .byte, accessFlags := 24, slot := 6, constantValue := 0 }]
  methods := #[k15m0]
  instanceTypes := #[(.array .byte), .byte, .int, .boolean]
  staticTypes := #[.long, .boolean, (.array (.object "java/io/ObjectStreamField")), .char, (.object "java/util/Comparator"), .byte, .byte]
  resolved := Array.replicate 1451 none
  statics := none }

def pool16 : Array CpInfo := pool [(2, .class_ 4), (1, u "java/lang/Object"), (0, u "<init>"), (0, u "()V"), (12, .class_ 20), (0, u "java/util/Collections"), (63, u "r"), (0, u "Ljava/util/Random;"), (80, .class_ 167), (0, u "java/util/Collections$UnmodifiableCollection"), (6, .class_ 175), (0, u "java/util/Collections$UnmodifiableSequencedCollection"), (6, .class_ 183), (0, u "java/util/Collections$UnmodifiableSet"), (6, .class_ 191), (0, u "java/util/Collections$UnmodifiableSequencedSet"), (6, .class_ 199), (0, u "java/util/Collections$UnmodifiableSortedSet"), (6, .class_ 207), (0, u "java/util/Collections$UnmodifiableNavigableSet"), (4, .class_ 213), (0, u "java/util/Collections$UnmodifiableList"), (1, .class_ 216), (0, u "java/util/Collections$UnmodifiableRandomAccessList"), (6, .class_ 224), (0, u "java/util/Collections$UnmodifiableMap"), (6, .class_ 232), (0, u "java/util/Collections$UnmodifiableSequencedMap"), (4, .class_ 238), (0, u "java/util/Collections$UnmodifiableSortedMap"), (6, .class_ 246), (0, u "java/util/Collections$UnmodifiableNavigableMap"), (3, .class_ 251), (0, u "java/util/Collections$SynchronizedCollection"), (4, .class_ 257), (0, u "java/util/Collections$SynchronizedSet"), (4, .class_ 263), (0, u "java/util/Collections$SynchronizedSortedSet"), (1, .class_ 266), (0, u "java/util/Collections$SynchronizedNavigableSet"), (1, .class_ 269), (0, u "java/util/Collections$SynchronizedRandomAccessList"), (1, .class_ 272), (0, u "java/util/Collections$SynchronizedList"), (5, .class_ 279), (0, u "java/util/Collections$SynchronizedMap"), (1, .class_ 282), (0, u "java/util/Collections$SynchronizedSortedMap"), (1, .class_ 285), (0, u "java/util/Collections$SynchronizedNavigableMap"), (1, .class_ 288), (0, u "java/util/Collections$CheckedCollection"), (11, .class_ 301), (0, u "java/util/Collections$CheckedQueue"), (3, .class_ 306), (0, u "java/util/Collections$CheckedSet"), (3, .class_ 311), (0, u "java/util/Collections$CheckedSortedSet"), (3, .class_ 316), (0, u "java/util/Collections$CheckedNavigableSet"), (3, .class_ 321), (0, u "java/util/Collections$CheckedRandomAccessList"), (3, .class_ 326), (0, u "java/util/Collections$CheckedList"), (1, .class_ 329), (0, u "java/util/Collections$CheckedMap"), (3, .class_ 334), (0, u "java/util/Collections$CheckedSortedMap"), (3, .class_ 339), (0, u "java/util/Collections$CheckedNavigableMap"), (4, .class_ 346), (1, u "java/util/Collections$EmptyIterator"), (3, .class_ 352), (1, u "java/util/Collections$EmptyListIterator"), (2, .class_ 357), (1, u "java/util/Collections$EmptyEnumeration"), (4, u "EMPTY_SET"), (0, u "Ljava/util/Set;"), (6, u "EMPTY_LIST"), (0, u "Ljava/util/List;"), (2, u "EMPTY_MAP"), (0, u "Ljava/util/Map;"), (4, .class_ 381), (0, u "java/util/Collections$SingletonSet"), (2, .class_ 385), (0, u "java/util/Collections$1"), (1, .class_ 388), (0, u "java/util/Collections$2"), (1, .class_ 391), (0, u "java/util/Collections$SingletonList"), (1, .class_ 394), (0, u "java/util/Collections$SingletonMap"), (22, .class_ 418), (0, u "java/util/Collections$CopiesList"), (4, .class_ 425), (1, u "java/util/Collections$ReverseComparator"), (8, .class_ 435), (0, u "java/util/Collections$ReverseComparator2"), (6, .class_ 443), (0, u "java/util/Collections$3"), (25, .class_ 470), (0, u "java/util/Collections$SetFromMap"), (2, .class_ 474), (0, u "java/util/Collections$SequencedSetFromMap"), (3, .class_ 479), (0, u "java/util/Collections$AsLIFOQueue"), (11, .class_ 492), (0, u "java/util/Collections$EmptySet"), (1, .class_ 495), (0, u "java/util/Collections$EmptyList"), (1, .class_ 498), (0, u "java/util/Collections$EmptyMap"), (1, u "BINARYSEARCH_THRESHOLD"), (0, u "I"), (2, u "REVERSE_THRESHOLD"), (1, u "SHUFFLE_THRESHOLD"), (1, u "FILL_THRESHOLD"), (1, u "ROTATE_THRESHOLD"), (1, u "COPY_THRESHOLD"), (1, u "REPLACEALL_THRESHOLD"), (1, u "INDEXOFSUBLIST_THRESHOLD"), (333, .class_ 851), (0, u "java/util/Collections$CheckedMap$CheckedEntrySet"), (0, .class_ 853), (0, u "java/util/Collections$CheckedMap$CheckedEntrySet$CheckedEntry"), (0, .class_ 855), (0, u "java/util/Collections$CheckedMap$CheckedEntrySet$1"), (0, .class_ 857), (0, u "java/util/Collections$CheckedList$1"), (0, .class_ 859), (0, u "java/util/Collections$CheckedCollection$1"), (0, .class_ 861), (0, u "java/util/Collections$UnmodifiableNavigableMap$EmptyNavigableMap"), (0, .class_ 863), (0, u "java/util/Collections$UnmodifiableMap$UnmodifiableEntrySet"), (0, .class_ 865), (0, u "java/util/Collections$UnmodifiableMap$UnmodifiableEntrySet$UnmodifiableEntry"), (0, .class_ 867), (0, u "java/util/Collections$UnmodifiableMap$UnmodifiableEntrySet$UnmodifiableEntrySetSpliterator"), (0, .class_ 869), (0, u "java/util/Collections$UnmodifiableMap$UnmodifiableEntrySet$1"), (0, .class_ 871), (0, u "java/util/Collections$UnmodifiableList$1"), (0, .class_ 873), (0, u "java/util/Collections$UnmodifiableNavigableSet$EmptyNavigableSet"), (0, .class_ 875), (0, u "java/util/Collections$UnmodifiableCollection$1")] 57

def k16m0 : Method := { name := "<init>", desc := "()V", sig := { parameters := [], returnType := none }, accessFlags := 2, code := none }
/-- java/util/Collections -/
def k16 : Class := { plain "java/util/Collections" (some 0) with
  accessFlags := 33
  interfaces := #[]
  cf := some (fileOf pool16 19 #[.nestMembers #[478, 473, 469, 434, 423, 417, 393, 390, 380, 497, 494, 491, 355, 350, 344, 338, 333, 328, 850, 852, 854, 320, 325, 856, 315, 310, 305, 300, 287, 858, 284, 281, 278, 268, 271, 265, 262, 256, 250, 245, 860, 237, 231, 223, 862, 864, 866, 868, 215, 212, 870, 206, 872, 198, 190, 182, 174, 166, 874, 442, 387, 384]] #[{ accessFlags := 2, nameIndex := 5, descriptorIndex := 6, attributes := #[] }] 33 2 #[] #[{ accessFlags := 26, nameIndex := 500, descriptorIndex := 501, attributes := #[] }, { accessFlags := 26, nameIndex := 504, descriptorIndex := 501, attributes := #[] }, { accessFlags := 26, nameIndex := 506, descriptorIndex := 501, attributes := #[] }, { accessFlags := 26, nameIndex := 508, descriptorIndex := 501, attributes := #[] }, { accessFlags := 26, nameIndex := 510, descriptorIndex := 501, attributes := #[] }, { accessFlags := 26, nameIndex := 512, descriptorIndex := 501, attributes := #[] }, { accessFlags := 26, nameIndex := 514, descriptorIndex := 501, attributes := #[] }, { accessFlags := 26, nameIndex := 516, descriptorIndex := 501, attributes := #[] }, { accessFlags := 10, nameIndex := 84, descriptorIndex := 85, attributes := #[] }, { accessFlags := 25, nameIndex := 362, descriptorIndex := 363, attributes := #[] }, { accessFlags := 25, nameIndex := 370, descriptorIndex := 371, attributes := #[] }, { accessFlags := 25, nameIndex := 374, descriptorIndex := 375, attributes := #[] }])
  fields := #[{ name := "BINARYSEARCH_THRESHOLD", type := .int, accessFlags := 26, slot := 0, constantValue := 0 }, { name := "REVERSE_THRESHOLD", type := .int, accessFlags := 26, slot := 1, constantValue := 0 }, { name := "SHUFFLE_THRESHOLD", type := .int, accessFlags := 26, slot := 2, constantValue := 0 }, { name := "FILL_THRESHOLD", type := .int, accessFlags := 26, slot := 3, constantValue := 0 }, { name := "ROTATE_THRESHOLD", type := .int, accessFlags := 26, slot := 4, constantValue := 0 }, { name := "COPY_THRESHOLD", type := .int, accessFlags := 26, slot := 5, constantValue := 0 }, { name := "REPLACEALL_THRESHOLD", type := .int, accessFlags := 26, slot := 6, constantValue := 0 }, { name := "INDEXOFSUBLIST_THRESHOLD", type := .int, accessFlags := 26, slot := 7, constantValue := 0 }, { name := "r", type := (.object "java/util/Random"), accessFlags := 10, slot := 8, constantValue := 0 }, { name := "EMPTY_SET", type := (.object "java/util/Set"), accessFlags := 25, slot := 9, constantValue := 0 }, { name := "EMPTY_LIST", type := (.object "java/util/List"), accessFlags := 25, slot := 10, constantValue := 0 }, { name := "EMPTY_MAP", type := (.object "java/util/Map"), accessFlags := 25, slot := 11, constantValue := 0 }]
  methods := #[k16m0]
  instanceTypes := #[]
  staticTypes := #[.int, .int, .int, .int, .int, .int, .int, .int, (.object "java/util/Random"), (.object "java/util/Set"), (.object "java/util/List"), (.object "java/util/Map")]
  resolved := Array.replicate 933 none
  statics := some 1 }

def pool17 : Array CpInfo := pool [(8, .class_ 10), (1, u "java/lang/Iterable"), (24, .class_ 36), (0, u "java/lang/Object")] 25

/-- java/lang/Iterable -/
def k17 : Class := { plain "java/lang/Iterable" (some 0) with
  accessFlags := 1537
  interfaces := #[]
  cf := some (fileOf pool17 8 #[] #[] 1537 35 #[] #[])
  fields := #[]
  methods := #[]
  instanceTypes := #[]
  staticTypes := #[]
  resolved := Array.replicate 62 none
  statics := none }

def pool18 : Array CpInfo := pool [(10, .class_ 12), (1, u "java/util/Collection"), (47, .class_ 61), (0, u "java/lang/Object"), (0, .class_ 63), (0, u "java/lang/Iterable")] 51

/-- java/util/Collection -/
def k18 : Class := { plain "java/util/Collection" (some 0) with
  accessFlags := 1537
  interfaces := #[17]
  cf := some (fileOf pool18 10 #[] #[] 1537 60 #[62] #[])
  fields := #[]
  methods := #[]
  instanceTypes := #[]
  staticTypes := #[]
  resolved := Array.replicate 115 none
  statics := none }

def pool19 : Array CpInfo := pool [(2, .class_ 4), (1, u "java/lang/Object"), (0, u "<init>"), (0, u "()V"), (1, .class_ 10), (1, u "java/util/AbstractCollection"), (66, .class_ 78), (0, u "java/util/Collection")] 81

def k19m0 : Method := { name := "<init>", desc := "()V", sig := { parameters := [], returnType := none }, accessFlags := 4, code := none }
/-- java/util/AbstractCollection -/
def k19 : Class := { plain "java/util/AbstractCollection" (some 0) with
  accessFlags := 1057
  interfaces := #[18]
  cf := some (fileOf pool19 8 #[] #[{ accessFlags := 4, nameIndex := 5, descriptorIndex := 6, attributes := #[] }] 1057 2 #[77] #[])
  fields := #[]
  methods := #[k19m0]
  instanceTypes := #[]
  staticTypes := #[]
  resolved := Array.replicate 160 none
  statics := none }

def pool20 : Array CpInfo := pool [(8, .class_ 10), (1, u "java/util/SequencedCollection"), (15, .class_ 27), (0, u "java/lang/Object"), (0, .class_ 29), (0, u "java/util/Collection")] 27

/-- java/util/SequencedCollection -/
def k20 : Class := { plain "java/util/SequencedCollection" (some 0) with
  accessFlags := 1537
  interfaces := #[18]
  cf := some (fileOf pool20 8 #[] #[] 1537 26 #[28] #[])
  fields := #[]
  methods := #[]
  instanceTypes := #[]
  staticTypes := #[]
  resolved := Array.replicate 57 none
  statics := none }

def pool21 : Array CpInfo := pool [(8, .class_ 10), (1, u "java/util/List"), (92, .class_ 104), (0, u "java/lang/Object"), (15, .class_ 121), (0, u "java/util/SequencedCollection")] 129

/-- java/util/List -/
def k21 : Class := { plain "java/util/List" (some 0) with
  accessFlags := 1537
  interfaces := #[20]
  cf := some (fileOf pool21 8 #[] #[] 1537 103 #[120] #[])
  fields := #[]
  methods := #[]
  instanceTypes := #[]
  staticTypes := #[]
  resolved := Array.replicate 251 none
  statics := none }

def pool22 : Array CpInfo := pool [(2, .class_ 4), (1, u "java/util/AbstractCollection"), (0, u "<init>"), (0, u "()V"), (1, .class_ 10), (1, u "java/util/AbstractList"), (0, u "modCount"), (0, u "I"), (64, .class_ 78), (0, u "java/util/AbstractList$Itr"), (3, .class_ 83), (0, u "java/util/AbstractList$ListItr"), (9, .class_ 94), (0, u "java/util/AbstractList$RandomAccessSubList"), (3, .class_ 99), (0, u "java/util/AbstractList$SubList"), (33, .class_ 134), (0, u "java/util/List"), (73, .class_ 209), (0, u "java/util/AbstractList$SubList$1"), (0, .class_ 211), (0, u "java/util/AbstractList$RandomAccessSpliterator")] 6

def k22m0 : Method := { name := "<init>", desc := "()V", sig := { parameters := [], returnType := none }, accessFlags := 4, code := none }
/-- java/util/AbstractList -/
def k22 : Class := { plain "java/util/AbstractList" (some 19) with
  accessFlags := 1057
  interfaces := #[21]
  cf := some (fileOf pool22 8 #[.nestMembers #[93, 98, 208, 210, 82, 77]] #[{ accessFlags := 4, nameIndex := 5, descriptorIndex := 6, attributes := #[] }] 1057 2 #[133] #[{ accessFlags := 132, nameIndex := 11, descriptorIndex := 12, attributes := #[] }])
  fields := #[{ name := "modCount", type := .int, accessFlags := 132, slot := 0, constantValue := 0 }]
  methods := #[k22m0]
  instanceTypes := #[.int]
  staticTypes := #[]
  resolved := Array.replicate 218 none
  statics := none }

def pool23 : Array CpInfo := pool [(1, .class_ 2), (0, u "java/util/RandomAccess"), (0, .class_ 4), (0, u "java/lang/Object")] 2

/-- java/util/RandomAccess -/
def k23 : Class := { plain "java/util/RandomAccess" (some 0) with
  accessFlags := 1537
  interfaces := #[]
  cf := some (fileOf pool23 1 #[] #[] 1537 3 #[] #[])
  fields := #[]
  methods := #[]
  instanceTypes := #[]
  staticTypes := #[]
  resolved := Array.replicate 7 none
  statics := none }

def pool24 : Array CpInfo := pool [(2, .class_ 4), (1, u "java/util/AbstractList"), (0, u "<init>"), (0, u "()V"), (1, .class_ 10), (1, u "java/util/Collections"), (54, .class_ 66), (0, u "java/util/Collections$EmptyList"), (0, .class_ 68), (0, u "java/util/RandomAccess"), (0, .class_ 70), (0, u "java/io/Serializable"), (0, u "serialVersionUID"), (0, u "J")] 77

def k24m0 : Method := { name := "<init>", desc := "()V", sig := { parameters := [], returnType := none }, accessFlags := 2, code := none }
/-- java/util/Collections$EmptyList -/
def k24 : Class := { plain "java/util/Collections$EmptyList" (some 22) with
  accessFlags := 32
  interfaces := #[23, 6]
  cf := some (fileOf pool24 65 #[.nestHost 8] #[{ accessFlags := 2, nameIndex := 5, descriptorIndex := 6, attributes := #[] }] 32 2 #[67, 69] #[{ accessFlags := 26, nameIndex := 71, descriptorIndex := 72, attributes := #[] }])
  fields := #[{ name := "serialVersionUID", type := .long, accessFlags := 26, slot := 0, constantValue := 0 }]
  methods := #[k24m0]
  instanceTypes := #[.int]
  staticTypes := #[.long]
  resolved := Array.replicate 150 none
  statics := none }

def pool25 : Array CpInfo := pool [(2, .class_ 4), (1, u "java/lang/StackTraceElement"), (0, u "<init>"), (2, .class_ 10), (1, u "java/lang/Object"), (0, u "()V"), (2, u "format"), (0, u "B"), (2, u "classLoaderName"), (0, u "Ljava/lang/String;"), (2, u "moduleName"), (2, u "moduleVersion"), (12, u "declaringClass"), (4, u "methodName"), (2, u "fileName"), (2, u "lineNumber"), (0, u "I"), (65, u "declaringClassObject"), (0, u "Ljava/lang/Class;"), (33, .class_ 153), (1, u "java/lang/StackTraceElement$HashedModules"), (17, .class_ 172), (0, u "java/io/Serializable"), (0, u "NATIVE_METHOD"), (1, u "UNKNOWN_SOURCE"), (2, u "BUILTIN_CLASS_LOADER"), (1, u "JDK_NON_UPGRADEABLE_MODULE"), (1, u "serialVersionUID"), (0, u "J")] 51

def k25m0 : Method := { name := "<init>", desc := "()V", sig := { parameters := [], returnType := none }, accessFlags := 2, code := none }
/-- java/lang/StackTraceElement -/
def k25 : Class := { plain "java/lang/StackTraceElement" (some 0) with
  accessFlags := 49
  interfaces := #[6]
  cf := some (fileOf pool25 2 #[.nestMembers #[151]] #[{ accessFlags := 2, nameIndex := 5, descriptorIndex := 11, attributes := #[] }] 49 8 #[171] #[{ accessFlags := 26, nameIndex := 173, descriptorIndex := 19, attributes := #[] }, { accessFlags := 26, nameIndex := 175, descriptorIndex := 19, attributes := #[] }, { accessFlags := 130, nameIndex := 116, descriptorIndex := 117, attributes := #[] }, { accessFlags := 2, nameIndex := 18, descriptorIndex := 19, attributes := #[] }, { accessFlags := 2, nameIndex := 22, descriptorIndex := 19, attributes := #[] }, { accessFlags := 2, nameIndex := 25, descriptorIndex := 19, attributes := #[] }, { accessFlags := 2, nameIndex := 38, descriptorIndex := 19, attributes := #[] }, { accessFlags := 2, nameIndex := 43, descriptorIndex := 19, attributes := #[] }, { accessFlags := 2, nameIndex := 46, descriptorIndex := 19, attributes := #[] }, { accessFlags := 2, nameIndex := 49, descriptorIndex := 50, attributes := #[] }, { accessFlags := 2, nameIndex := 14, descriptorIndex := 15, attributes := #[] }, { accessFlags := 26, nameIndex := 178, descriptorIndex := 15, attributes := #[] }, { accessFlags := 26, nameIndex := 180, descriptorIndex := 15, attributes := #[] }, { accessFlags := 26, nameIndex := 182, descriptorIndex := 183, attributes := #[] }])
  fields := #[{ name := "NATIVE_METHOD", type := (.object "java/lang/String"), accessFlags := 26, slot := 0, constantValue := 0 }, { name := "UNKNOWN_SOURCE", type := (.object "java/lang/String"), accessFlags := 26, slot := 1, constantValue := 0 }, { name := "declaringClassObject", type := (.object "java/lang/Class"), accessFlags := 130, slot := 0, constantValue := 0 }, { name := "classLoaderName", type := (.object "java/lang/String"), accessFlags := 2, slot := 1, constantValue := 0 }, { name := "moduleName", type := (.object "java/lang/String"), accessFlags := 2, slot := 2, constantValue := 0 }, { name := "moduleVersion", type := (.object "java/lang/String"), accessFlags := 2, slot := 3, constantValue := 0 }, { name := "declaringClass", type := (.object "java/lang/String"), accessFlags := 2, slot := 4, constantValue := 0 }, { name := "methodName", type := (.object "java/lang/String"), accessFlags := 2, slot := 5, constantValue := 0 }, { name := "fileName", type := (.object "java/lang/String"), accessFlags := 2, slot := 6, constantValue := 0 }, { name := "lineNumber", type := .int, accessFlags := 2, slot := 7, constantValue := 0 }, { name := "format", type := .byte, accessFlags := 2, slot := 8, constantValue := 0 }, { name := "BUILTIN_CLASS_LOADER", type := .byte, accessFlags := 26, slot := 2, constantValue := 0 }, { name := "JDK_NON_UPGRADEABLE_MODULE", type := .byte, accessFlags := 26, slot := 3, constantValue := 0 }, { name := "serialVersionUID", type := .long, accessFlags := 26, slot := 4, constantValue := 0 }]
  methods := #[k25m0]
  instanceTypes := #[(.object "java/lang/Class"), (.object "java/lang/String"), (.object "java/lang/String"), (.object "java/lang/String"), (.object "java/lang/String"), (.object "java/lang/String"), (.object "java/lang/String"), .int, .byte]
  staticTypes := #[(.object "java/lang/String"), (.object "java/lang/String"), .byte, .byte, .long]
  resolved := Array.replicate 235 none
  statics := none }

def pool26 : Array CpInfo := pool [(1, u "java/lang/Cloneable"), (0, .class_ 1), (0, u "java/lang/Object"), (0, .class_ 3)] 3

/-- java/lang/Cloneable -/
def k26 : Class := { plain "java/lang/Cloneable" (some 0) with
  accessFlags := 1537
  interfaces := #[]
  cf := some (fileOf pool26 2 #[] #[] 1537 4 #[] #[])
  fields := #[]
  methods := #[]
  instanceTypes := #[]
  staticTypes := #[]
  resolved := Array.replicate 8 none
  statics := none }

/-- the primitive byte -/
def k27 : Class := { plain "byte" none with kind := .primitive 'B', accessFlags := 0x411 }
/-- [B -/
def k28 : Class := { plain "[B" (some 0) with kind := .array 27 .byte, interfaces := #[26, 6], accessFlags := 1041 }

/-- the primitive int -/
def k29 : Class := { plain "int" none with kind := .primitive 'I', accessFlags := 0x411 }
/-- [I -/
def k30 : Class := { plain "[I" (some 0) with kind := .array 29 .int, interfaces := #[26, 6], accessFlags := 1041 }

/-- [Ljava/lang/Object; -/
def k31 : Class := { plain "[Ljava/lang/Object;" (some 0) with kind := .array 0 (.object "java/lang/Object"), interfaces := #[26, 6], accessFlags := 1041 }

/-- [Ljava/lang/StackTraceElement; -/
def k32 : Class := { plain "[Ljava/lang/StackTraceElement;" (some 0) with kind := .array 25 (.object "java/lang/StackTraceElement"), interfaces := #[26, 6], accessFlags := 1041 }

/-- [Ljava/lang/Throwable; -/
def k33 : Class := { plain "[Ljava/lang/Throwable;" (some 0) with kind := .array 7 (.object "java/lang/Throwable"), interfaces := #[26, 6], accessFlags := 1041 }

def heap : Heap := #[{ cls := 7, slots := #[.long 0, .ref 2, .ref 3, .null, .null, .null, .null, .ref 4, .int 1], vm := .statics 7 },
  { cls := 16, slots := #[.int 0, .int 0, .int 0, .int 0, .int 0, .int 0, .int 0, .int 0, .null, .null, .ref 3, .null], vm := .statics 16 },
  { cls := 32, slots := #[], vm := .none },
  { cls := 24, slots := #[.int 0], vm := .none },
  { cls := 33, slots := #[], vm := .none }]
def classes : Array Class := #[k0, k1, k2, k3, k4, k5, k6, k7, k8, k9, k10, k11, k12, k13, k14, k15, k16, k17, k18, k19, k20, k21, k22, k23, k24, k25, k26, k27, k28, k29, k30, k31, k32, k33]
def interned : List (Array UInt16 × Addr) := []
def slotsUsed : Nat := 22
def theMethod : MethodId := ⟨1, 1⟩
def args0 : Array Value := #[.int 1, .long 2, .long 3, .long 4, .int 5]
def aboutOver (below : List Frame) : State where
  vm := { classes := classes, interned := interned.toArray }
  heap := heap
  slotsUsed := slotsUsed
  threads := #[{ frames := .invoking theMethod args0 :: below }]
def below0 : List Frame := [.native { method := ⟨0, 0⟩, args := #[] }]
def about1 : State := aboutOver below0
def p0 : Program := .bare "" "" ""
def e0 : Env := launch0.env 0 0 0
theorem w_frames : about1.frames = Frame.invoking theMethod args0 :: below0 := rfl
set_option maxRecDepth 65536 in
theorem w_args : argsFit about1.vm theMethod args0 = true := by decide +kernel
set_option maxRecDepth 65536 in
theorem w_heap : heapFits about1 = true := by decide +kernel
set_option maxRecDepth 65536 in
theorem w_runnable : about1.curStatus? = some .runnable := by decide +kernel
set_option maxRecDepth 65536 in
theorem w_alone : about1.alone = true := by decide +kernel
set_option maxRecDepth 65536 in
theorem w_named : about1.methodNamed? x = some theMethod := by decide +kernel
set_option maxRecDepth 65536 in
theorem w_hears : about1.hears theMethod below0 = true := by decide +kernel
set_option maxRecDepth 65536 in
theorem w_ripe : about1.ripe theMethod args0 below0 = true := by decide +kernel
theorem w_running : about1.status = .running := rfl
set_option maxRecDepth 65536 in
theorem w_room : about1.hasRoom e0.platform room_1 = true :=
  launch0.hasRoom_least _ room_1 (by decide +kernel) (by decide +kernel) (by decide +kernel) (by decide +kernel) (by decide +kernel) (by decide +kernel)
theorem allAtoms_all (ts : List Jvm.Cond) (a : Array Jvm.Value) (st : Jvm.State) : (allAtoms ts).before a st = ts.all (fun c => c.before a st) := by
  induction ts with
  | nil => rfl
  | cons c t ih =>
    show (Jvm.Cond.and c (allAtoms t)).before a st = _
    rw [Jvm.Cond.before_and, ih, List.all_cons]
def words1 : List Jvm.Cond := Jvm.Cond.code x code maxLocals ret :: tables_1
/-- a 'code' word, met by the world's own term for the bytes: nothing is compared byte by byte -/
theorem code_word {y : MethodName} {bytes : ByteArray} {mx : Nat} {rt : Option FieldType} {a : Array Value} {s : State} {m : MethodId} {meth : Method} {c : Code} (h1 : s.methodNamed? y = some m) (h2 : s.vm.method? m = some meth) (h3 : meth.code = some c) (h4 : c.code = bytes)
    (h5 : (c.maxLocals == mx && c.exceptionTable.isEmpty && decide (c.maxStack ≤ mostOperands) && decide (meth.sig.returnType = rt) && !meth.locks && decide (parseMethodDescriptor y.desc = some meth.sig)) = true) : (Jvm.Cond.code y bytes mx rt).before a s = true := by
  simp only [Bool.and_eq_true, beq_iff_eq, Bool.not_eq_true', decide_eq_true_eq] at h5
  obtain ⟨⟨⟨⟨⟨g1, g2⟩, g3⟩, g4⟩, g5⟩, g6⟩ := h5
  simp [Cond.before, Cond.holds, Cond.value, h1, h2, h3, h4, g1, g2, g3, g4, g5, g6]
def isCode : Jvm.Cond → Bool
  | .code _ _ _ _ => true
  | _ => false
theorem all_split {L : List Jvm.Cond} {P : Jvm.Cond → Bool} (h1 : L.all (fun c => isCode c || P c) = true) (h2 : ∀ c ∈ L.filter isCode, P c = true) : L.all P = true := by
  refine List.all_eq_true.mpr fun c hc => ?_
  have h := List.all_eq_true.mp h1 c hc
  rcases Bool.eq_false_or_eq_true (isCode c) with hi | hi
  · exact h2 c (List.mem_filter.mpr ⟨hc, hi⟩)
  · simpa [hi] using h
set_option maxRecDepth 65536 in
theorem w_c0 : (Jvm.Cond.code x code maxLocals ret).before args0 about1 = true := code_word (m := ⟨1, 1⟩) (meth := k1m1) (c := k1c1) (by decide +kernel) rfl rfl rfl (by decide +kernel)
set_option maxRecDepth 65536 in
theorem w_c1 : (Jvm.Cond.code ({ cls := "lambdary/statistics/IntegralSumBeginPinLaw", name := "pickAtMost", desc := "(IIJ)J" } : Jvm.MethodName) method_3_code (4 : Nat) (Option.some Jvm.ClassFile.FieldType.long)).before args0 about1 = true := code_word (m := ⟨1, 2⟩) (meth := k1m2) (c := k1c2) (by decide +kernel) rfl rfl rfl (by decide +kernel)
set_option maxRecDepth 65536 in
theorem w_c2 : (Jvm.Cond.code ({ cls := "lambdary/statistics/IntegralSumBeginPinLaw", name := "pickTotal", desc := "(IJ)J" } : Jvm.MethodName) method_4_code (3 : Nat) (Option.some Jvm.ClassFile.FieldType.long)).before args0 about1 = true := code_word (m := ⟨1, 3⟩) (meth := k1m3) (c := k1c3) (by decide +kernel) rfl rfl rfl (by decide +kernel)
set_option maxRecDepth 65536 in
theorem w_c3 : (Jvm.Cond.code ({ cls := "lambdary/statistics/IntegralSum", name := "<init>", desc := "()V" } : Jvm.MethodName) prog_120_method_1_code (1 : Nat) (Option.none : Option Jvm.ClassFile.FieldType)).before args0 about1 = true := code_word (m := ⟨4, 0⟩) (meth := k4m0) (c := k4c0) (by decide +kernel) rfl rfl rfl (by decide +kernel)
set_option maxRecDepth 65536 in
theorem w_c4 : (Jvm.Cond.code ({ cls := "java/lang/Object", name := "<init>", desc := "()V" } : Jvm.MethodName) object_method_1_code (1 : Nat) (Option.none : Option Jvm.ClassFile.FieldType)).before args0 about1 = true := code_word (m := ⟨0, 0⟩) (meth := k0m0) (c := k0c0) (by decide +kernel) rfl rfl rfl (by decide +kernel)
set_option maxRecDepth 65536 in
theorem w_c5 : (Jvm.Cond.code ({ cls := "lambdary/statistics/IntegralSum", name := "begin", desc := "(J)V" } : Jvm.MethodName) prog_120_method_4_code (3 : Nat) (Option.none : Option Jvm.ClassFile.FieldType)).before args0 about1 = true := code_word (m := ⟨4, 2⟩) (meth := k4m2) (c := k4c2) (by decide +kernel) rfl rfl rfl (by decide +kernel)
set_option maxRecDepth 65536 in
theorem w_c6 : (Jvm.Cond.code ({ cls := "lambdary/statistics/IntegralSum", name := "fold", desc := "(JI)J" } : Jvm.MethodName) prog_120_method_7_code (4 : Nat) (Option.some Jvm.ClassFile.FieldType.long)).before args0 about1 = true := code_word (m := ⟨4, 4⟩) (meth := k4m4) (c := k4c4) (by decide +kernel) rfl rfl rfl (by decide +kernel)
set_option maxRecDepth 65536 in
theorem w_c7 : (Jvm.Cond.code ({ cls := "lambdary/statistics/IntegralSum", name := "sum", desc := "()J" } : Jvm.MethodName) prog_120_method_2_code (2 : Nat) (Option.some Jvm.ClassFile.FieldType.long)).before args0 about1 = true := code_word (m := ⟨4, 1⟩) (meth := k4m1) (c := k4c1) (by decide +kernel) rfl rfl rfl (by decide +kernel)
set_option maxRecDepth 65536 in
theorem w_c8 : (Jvm.Cond.code ({ cls := "java/lang/Math", name := "min", desc := "(II)I" } : Jvm.MethodName) jdk_29_method_69_code (2 : Nat) (Option.some Jvm.ClassFile.FieldType.int)).before args0 about1 = true := code_word (m := ⟨5, 2⟩) (meth := k5m2) (c := k5c2) (by decide +kernel) rfl rfl rfl (by decide +kernel)
set_option maxRecDepth 65536 in
theorem w_c9 : (Jvm.Cond.code ({ cls := "java/lang/Math", name := "addExact", desc := "(JJ)J" } : Jvm.MethodName) jdk_29_method_25_code (6 : Nat) (Option.some Jvm.ClassFile.FieldType.long)).before args0 about1 = true := code_word (m := ⟨5, 1⟩) (meth := k5m1) (c := k5c1) (by decide +kernel) rfl rfl rfl (by decide +kernel)
set_option maxRecDepth 65536 in
theorem w_c10 : (Jvm.Cond.code ({ cls := "java/lang/ArithmeticException", name := "<init>", desc := "(Ljava/lang/String;)V" } : Jvm.MethodName) jdk_84_method_2_code (2 : Nat) (Option.none : Option Jvm.ClassFile.FieldType)).before args0 about1 = true := code_word (m := ⟨10, 1⟩) (meth := k10m1) (c := k10c1) (by decide +kernel) rfl rfl rfl (by decide +kernel)
set_option maxRecDepth 65536 in
theorem w_c11 : (Jvm.Cond.code ({ cls := "java/lang/RuntimeException", name := "<init>", desc := "(Ljava/lang/String;)V" } : Jvm.MethodName) jdk_58_method_2_code (2 : Nat) (Option.none : Option Jvm.ClassFile.FieldType)).before args0 about1 = true := code_word (m := ⟨9, 1⟩) (meth := k9m1) (c := k9c1) (by decide +kernel) rfl rfl rfl (by decide +kernel)
set_option maxRecDepth 65536 in
theorem w_c12 : (Jvm.Cond.code ({ cls := "java/lang/Exception", name := "<init>", desc := "(Ljava/lang/String;)V" } : Jvm.MethodName) jdk_59_method_2_code (2 : Nat) (Option.none : Option Jvm.ClassFile.FieldType)).before args0 about1 = true := code_word (m := ⟨8, 1⟩) (meth := k8m1) (c := k8c1) (by decide +kernel) rfl rfl rfl (by decide +kernel)
set_option maxRecDepth 65536 in
theorem w_c13 : (Jvm.Cond.code ({ cls := "java/lang/Throwable", name := "<init>", desc := "(Ljava/lang/String;)V" } : Jvm.MethodName) jdk_78_method_2_code (2 : Nat) (Option.none : Option Jvm.ClassFile.FieldType)).before args0 about1 = true := code_word (m := ⟨7, 1⟩) (meth := k7m1) (c := k7c1) (by decide +kernel) rfl rfl rfl (by decide +kernel)
set_option maxRecDepth 65536 in
theorem w_c14 : (Jvm.Cond.code ({ cls := "java/lang/Throwable", name := "<init>", desc := "()V" } : Jvm.MethodName) jdk_78_method_1_code (1 : Nat) (Option.none : Option Jvm.ClassFile.FieldType)).before args0 about1 = true := code_word (m := ⟨7, 0⟩) (meth := k7m0) (c := k7c0) (by decide +kernel) rfl rfl rfl (by decide +kernel)
def codes1 : List Jvm.Cond := [Jvm.Cond.code x code maxLocals ret, Jvm.Cond.code ({ cls := "lambdary/statistics/IntegralSumBeginPinLaw", name := "pickAtMost", desc := "(IIJ)J" } : Jvm.MethodName) method_3_code (4 : Nat) (Option.some Jvm.ClassFile.FieldType.long), Jvm.Cond.code ({ cls := "lambdary/statistics/IntegralSumBeginPinLaw", name := "pickTotal", desc := "(IJ)J" } : Jvm.MethodName) method_4_code (3 : Nat) (Option.some Jvm.ClassFile.FieldType.long), Jvm.Cond.code ({ cls := "lambdary/statistics/IntegralSum", name := "<init>", desc := "()V" } : Jvm.MethodName) prog_120_method_1_code (1 : Nat) (Option.none : Option Jvm.ClassFile.FieldType), Jvm.Cond.code ({ cls := "java/lang/Object", name := "<init>", desc := "()V" } : Jvm.MethodName) object_method_1_code (1 : Nat) (Option.none : Option Jvm.ClassFile.FieldType), Jvm.Cond.code ({ cls := "lambdary/statistics/IntegralSum", name := "begin", desc := "(J)V" } : Jvm.MethodName) prog_120_method_4_code (3 : Nat) (Option.none : Option Jvm.ClassFile.FieldType), Jvm.Cond.code ({ cls := "lambdary/statistics/IntegralSum", name := "fold", desc := "(JI)J" } : Jvm.MethodName) prog_120_method_7_code (4 : Nat) (Option.some Jvm.ClassFile.FieldType.long), Jvm.Cond.code ({ cls := "lambdary/statistics/IntegralSum", name := "sum", desc := "()J" } : Jvm.MethodName) prog_120_method_2_code (2 : Nat) (Option.some Jvm.ClassFile.FieldType.long), Jvm.Cond.code ({ cls := "java/lang/Math", name := "min", desc := "(II)I" } : Jvm.MethodName) jdk_29_method_69_code (2 : Nat) (Option.some Jvm.ClassFile.FieldType.int), Jvm.Cond.code ({ cls := "java/lang/Math", name := "addExact", desc := "(JJ)J" } : Jvm.MethodName) jdk_29_method_25_code (6 : Nat) (Option.some Jvm.ClassFile.FieldType.long), Jvm.Cond.code ({ cls := "java/lang/ArithmeticException", name := "<init>", desc := "(Ljava/lang/String;)V" } : Jvm.MethodName) jdk_84_method_2_code (2 : Nat) (Option.none : Option Jvm.ClassFile.FieldType), Jvm.Cond.code ({ cls := "java/lang/RuntimeException", name := "<init>", desc := "(Ljava/lang/String;)V" } : Jvm.MethodName) jdk_58_method_2_code (2 : Nat) (Option.none : Option Jvm.ClassFile.FieldType), Jvm.Cond.code ({ cls := "java/lang/Exception", name := "<init>", desc := "(Ljava/lang/String;)V" } : Jvm.MethodName) jdk_59_method_2_code (2 : Nat) (Option.none : Option Jvm.ClassFile.FieldType), Jvm.Cond.code ({ cls := "java/lang/Throwable", name := "<init>", desc := "(Ljava/lang/String;)V" } : Jvm.MethodName) jdk_78_method_2_code (2 : Nat) (Option.none : Option Jvm.ClassFile.FieldType), Jvm.Cond.code ({ cls := "java/lang/Throwable", name := "<init>", desc := "()V" } : Jvm.MethodName) jdk_78_method_1_code (1 : Nat) (Option.none : Option Jvm.ClassFile.FieldType)]
set_option maxRecDepth 65536 in
theorem codes_eq : words1.filter isCode = codes1 := rfl
theorem w_codes : ∀ c ∈ words1.filter isCode, c.before args0 about1 = true := by
  rw [codes_eq]
  intro c hc
  simp only [codes1, List.mem_cons, List.not_mem_nil, or_false] at hc
  rcases hc with rfl | rfl | rfl | rfl | rfl | rfl | rfl | rfl | rfl | rfl | rfl | rfl | rfl | rfl | rfl
  · exact w_c0
  · exact w_c1
  · exact w_c2
  · exact w_c3
  · exact w_c4
  · exact w_c5
  · exact w_c6
  · exact w_c7
  · exact w_c8
  · exact w_c9
  · exact w_c10
  · exact w_c11
  · exact w_c12
  · exact w_c13
  · exact w_c14
set_option maxRecDepth 65536 in
theorem w_t1 : (words1.take 24).all (fun c => isCode c || c.before args0 about1) = true := by decide +kernel
set_option maxRecDepth 65536 in
theorem w_t2 : ((words1.drop 24).take 24).all (fun c => isCode c || c.before args0 about1) = true := by decide +kernel
set_option maxRecDepth 65536 in
theorem w_t3 : (((words1.drop 24).drop 24).take 24).all (fun c => isCode c || c.before args0 about1) = true := by decide +kernel
set_option maxRecDepth 65536 in
theorem w_t4 : ((((words1.drop 24).drop 24).drop 24).take 24).all (fun c => isCode c || c.before args0 about1) = true := by decide +kernel
set_option maxRecDepth 65536 in
theorem w_t5 : (((((words1.drop 24).drop 24).drop 24).drop 24).take 24).all (fun c => isCode c || c.before args0 about1) = true := by decide +kernel
set_option maxRecDepth 65536 in
theorem w_t6 : (((((words1.drop 24).drop 24).drop 24).drop 24).drop 24).all (fun c => isCode c || c.before args0 about1) = true := by decide +kernel
theorem w_tables : (allAtoms (Jvm.Cond.code x code maxLocals ret :: tables_1)).before args0 about1 = true := by
  rw [allAtoms_all]
  show words1.all (fun c => c.before args0 about1) = true
  refine all_split ?_ w_codes
  rw [← List.take_append_drop 24 words1, List.all_append, w_t1, ← List.take_append_drop 24 (words1.drop 24), List.all_append, w_t2, ← List.take_append_drop 24 ((words1.drop 24).drop 24), List.all_append, w_t3, ← List.take_append_drop 24 (((words1.drop 24).drop 24).drop 24), List.all_append, w_t4, ← List.take_append_drop 24 ((((words1.drop 24).drop 24).drop 24).drop 24), List.all_append, w_t5, w_t6]
  rfl
set_option maxRecDepth 65536 in
theorem w_rest : rest_1_c.before args0 about1 = true := by decide +kernel
set_option maxRecDepth 65536 in
theorem w_case : (Jvm.Cond.and given_1 narrow_1).before args0 about1 = true := by decide +kernel
theorem w_applies : (headSpec (Jvm.Cond.code x code maxLocals ret :: tables_1) room_1).applies x e0.platform about1 = true :=
  (Spec.applies_iff w_frames).mpr ⟨w_running, w_runnable, w_alone, w_named, w_hears, w_ripe, w_room, w_tables⟩
theorem atStart : AtStart classFile x code maxLocals ret World_1 tables_1 room_1 Calls_1 rest_1 Pre_1 launch0 p0 e0 about1 theMethod args0 below0 :=
  ⟨lists_1, trivial, launch0.admits_env _ _ _, launch0.least_env, fairChoices_fair.cas, fairChoices_fair.clock, w_frames, w_args, w_heap, w_applies, ⟨(by decide +kernel : framesKnown about1 = true), ⟨(by decide +kernel : tablesKnown about1 = true), trivial⟩⟩, w_rest, w_case⟩
end start1
theorem witness_1 : WitnessClaimed_1 := ⟨start1.p0, start1.e0, start1.about1, start1.theMethod, start1.args0, start1.below0, start1.atStart⟩
end Jvm.Pilot.@@N@@
