import JvmDerived
import JvmDerived.Pilot.@@N@@Statement
import JvmDerived.Pilot.@@N@@Code
set_option linter.unusedVariables false
set_option linter.unusedSimpArgs false
namespace Jvm.RoadKit
open Sem ClassFile Op Lib Jvm.Stand Jvm.Free Jvm.LawKit
section Own
variable {p : Program} {l : Launch} {e : Env} {R : Room} {s : State} {m : MethodId} {args : Array Value} {below : List Frame} {meth : Method} {c : Code} {T : State} {locs : List Loc} {cells slots : Nat}
theorem retI (X : Stand p l e R s m args below meth c T locs cells slots) (hx : p.tables.exec = Jvm.exec) {pc : Nat} {Ls : Array Slot} {z : Int32} {rest : List Value} (hret : meth.sig.returnType = some .int) (hd : decode c.code pc = .ok (.ireturn, 1)) {fs : List Frame}
    (hl : ∀ (f : JFrame) (acts : List Action), f.method = m → f.locked = none → f.entered = [] → (doReturn e (T.setTop f) acts (some (.int z))).1 = T.setFrames fs) : Steps p.tables e below (T.setTop (mkF m pc Ls (.int z :: rest))) (T.setFrames fs) := by
  have hm' : T.vm.method? m = some meth := X.method'
  have hn : narrow .int (.int z) = .int z := rfl
  show Steps p.tables e below (T.setTop { method := m, pc := pc, locals := Ls, stack := _ :: rest, locked := none }) _
  jvm_step X.here [X.here.top, hx, hd, hm', hret, hn]
  first | (intro acts; rw [hl _ acts rfl rfl rfl]) | rw [hl _ _ rfl rfl rfl]
  exact Steps.refl _
/-- the walk comes to an end, with what Φ says there -/
def Goes (p : Program) (e : Env) (below : List Frame) (Φ : State → Outcome → Prop) (S : State) : Prop := ∃ s₂ o, Steps p.tables e below S s₂ ∧ s₂.status = .running ∧ Ended s₂ below o ∧ Φ s₂ o
theorem Goes.via {Φ : State → Outcome → Prop} {S S' : State} (k : ∀ t, Steps p.tables e below S' t → Steps p.tables e below S t) (h : Goes p e below Φ S') : Goes p e below Φ S := by
  obtain ⟨s₂, o, h1, h2, h3, h4⟩ := h
  exact ⟨s₂, o, k _ h1, h2, h3, h4⟩
/-- what a contract's end says -/
def Fin (s : State) (Q : Option Value → Heap → List Loc → Prop) (C S : Nat) : State → Outcome → Prop := fun s₂ o => ∃ v L, o = .returned v ∧ Q v s₂.heap L ∧ FrameEnd s o s₂ L C S
theorem Goes.retN (X : Stand p l e R s m args below meth c T locs cells slots) (hx : p.tables.exec = Jvm.exec) (hlocks : meth.locks = false) {pc : Nat} {Ls : Array Slot} {z : Int32} {t : FieldType} {rest : List Value} (hret : meth.sig.returnType = some t) (ht : t = .boolean ∨ t = .byte ∨ t = .char ∨ t = .short)
    (hd : decode c.code pc = .ok (.ireturn, 1)) {Q : Option Value → Heap → List Loc → Prop} {C S : Nat} (hc : cells ≤ C) (hs : slots ≤ S) (hQ : Q (some (.int (nar t z))) T.heap locs) : Goes p e below (Fin s Q C S) (T.setTop (mkF m pc Ls (.int z :: rest))) := by
  obtain ⟨fs, hr, hrun, hended, hW, hsame⟩ := X.leave (v := some (.int (nar t z))) (fun h => by rw [hret] at h; cases h) hlocks
  exact ⟨_, _, Jvm.RoadKit.retN X hx hret ht hd hr, hrun, hended, _, _, rfl, hQ, ⟨_, rfl⟩, hW, hsame.mono hc hs⟩
theorem Goes.retI (X : Stand p l e R s m args below meth c T locs cells slots) (hx : p.tables.exec = Jvm.exec) (hlocks : meth.locks = false) {pc : Nat} {Ls : Array Slot} {z : Int32} {rest : List Value} (hret : meth.sig.returnType = some .int)
    (hd : decode c.code pc = .ok (.ireturn, 1)) {Q : Option Value → Heap → List Loc → Prop} {C S : Nat} (hc : cells ≤ C) (hs : slots ≤ S) (hQ : Q (some (.int z)) T.heap locs) : Goes p e below (Fin s Q C S) (T.setTop (mkF m pc Ls (.int z :: rest))) := by
  obtain ⟨fs, hr, hrun, hended, hW, hsame⟩ := X.leave (v := some (.int z)) (fun h => by rw [hret] at h; cases h) hlocks
  exact ⟨_, _, Jvm.RoadKit.retI X hx hret hd hr, hrun, hended, _, _, rfl, hQ, ⟨_, rfl⟩, hW, hsame.mono hc hs⟩
theorem Goes.retO (X : Stand p l e R s m args below meth c T locs cells slots) (hx : p.tables.exec = Jvm.exec) (hlocks : meth.locks = false) {pc : Nat} {Ls : Array Slot} {w : Value} {t : FieldType} {i : Instr} {rest : List Value} (hret : meth.sig.returnType = some t) (hn : narrow t w = w)
    (hi : (i = .ireturn ∧ (t = .int ∨ t = .boolean ∨ t = .byte ∨ t = .char ∨ t = .short) ∧ ∃ z, w = .int z) ∨ (i = .lreturn ∧ t = .long ∧ ∃ z, w = .long z) ∨ (i = .dreturn ∧ t = .double ∧ ∃ z, w = .double z) ∨ (i = .freturn ∧ t = .float ∧ ∃ z, w = .float z) ∨ (i = .areturn ∧ t.isReference = true ∧ w.isRef = true))
    (hd : decode c.code pc = .ok (i, 1)) {Q : Option Value → Heap → List Loc → Prop} {C S : Nat} (hc : cells ≤ C) (hs : slots ≤ S) (hQ : Q (some w) T.heap locs) : Goes p e below (Fin s Q C S) (T.setTop (mkF m pc Ls (w :: rest))) := by
  obtain ⟨fs, hr, hrun, hended, hW, hsame⟩ := X.leave (v := some w) (fun h => by rw [hret] at h; cases h) hlocks
  exact ⟨_, _, Jvm.RoadKit.retOut X hx hret hn hi hd hr, hrun, hended, _, _, rfl, hQ, ⟨_, rfl⟩, hW, hsame.mono hc hs⟩
theorem Goes.retV (X : Stand p l e R s m args below meth c T locs cells slots) (hx : p.tables.exec = Jvm.exec) (hlocks : meth.locks = false) {pc : Nat} {Ls : Array Slot} (hret : meth.sig.returnType = none)
    (hd : decode c.code pc = .ok (.return_, 1)) {Q : Option Value → Heap → List Loc → Prop} {C S : Nat} (hc : cells ≤ C) (hs : slots ≤ S) (hQ : Q none T.heap locs) : Goes p e below (Fin s Q C S) (T.setTop (mkF m pc Ls [])) := by
  obtain ⟨fs, hr, hrun, hended, hW, hsame⟩ := X.leave (v := none) (fun _ => rfl) hlocks
  exact ⟨_, _, X.returnOut hx hret hd hr, hrun, hended, _, _, rfl, hQ, ⟨_, rfl⟩, hW, hsame.mono hc hs⟩
/-- room counted generously -/
theorem moreRoom (X : Stand p l e R s m args below meth c T locs cells slots) {k n : Nat} (h1 : cells ≤ k) (h2 : slots ≤ n) : Stand p l e R s m args below meth c T locs k n := { X with same := X.same.mono h1 h2 }
theorem exa_static {args : Array Value} {s : State} {C n d K : String} (h : (Jvm.Cond.exactly (Jvm.Term.static C n d) K).value args s none s [] = some true) : ∃ b, (Jvm.Term.static C n d).eval args s none [] s = some (.ref b) ∧ Exa s s.heap b K := by
  obtain ⟨b, e1⟩ := exa_v h
  exact ⟨b, e1, Exa.start e1 h⟩
theorem fld_static {args : Array Value} {s : State} {t : Jvm.Term} {b : Addr} {C n d : String} {k : Int32} (ev : t.eval args s none [] s = some (.ref b)) (h : (Jvm.Cond.eq (Jvm.Term.field t C n d) (Jvm.Term.int k)).value args s none s [] = some true) : Fld s s.heap b C n d (.int k) := by
  exact Fld.start ((fld_at ev).symm.trans (eqv_i (Term.int_eval k) h))
theorem adr_ne {a b k k' : Nat} (h : a < k) (g : b = k') (q : k ≤ k') : a ≠ b := by omega
theorem cat_ref {v : Value} (h : v.isRef = true) : v.category = 1 := by rcases ref_cases h with rfl | ⟨_, rfl⟩ <;> rfl
theorem narrow_ref {v : Value} {t : FieldType} (h : v.isRef = true) : narrow t v = v := by rcases ref_cases h with rfl | ⟨_, rfl⟩ <;> cases t <;> rfl
theorem fits_refO {v : Value} {C : String} (h : v.isRef = true) : fits (.object C) v = true := by rcases ref_cases h with rfl | ⟨_, rfl⟩ <;> rfl
theorem fld_null {args : Array Value} {s : State} {t : Jvm.Term} {b : Addr} {C n d : String} (ev : t.eval args s none [] s = some (.ref b)) (h : (Jvm.Cond.eq (Jvm.Term.field t C n d) Jvm.Term.null).value args s none s [] = some true) : Fld s s.heap b C n d .null := Fld.start ((fld_at ev).symm.trans (null_v h))
theorem ret1 {z : Int32} (h : z = 1) : some (Value.int (nar .boolean z)) = some (.int 1) := by subst h; rfl
end Own
end Jvm.RoadKit
namespace Jvm.RoadKit
open Sem ClassFile Op Lib Jvm.Stand Jvm.Free Jvm.LawKit
section OwnR
variable {p : Program} {l : Launch} {e : Env} {R : Room} {s : State} {m : MethodId} {args : Array Value} {below : List Frame} {meth : Method} {c : Code} {T : State} {locs : List Loc} {cells slots : Nat} {Z : State} {a0 : Array Value} {h : Heap}
/-- getfield through an entry that is said resolved -/
theorem getFR (X : Stand p l e R s m args below meth c T locs cells slots) (hx : p.tables.exec = Jvm.exec) (hZ : Z.Warmed39 s.vm) {own O n d : String} {index : Nat} (hown : s.vm.findClass own = some m.cls) (w : (Cond.fieldRef own index O n d).before a0 Z = true)
    (eT : T.heap = h) {a : Addr} {v : Value} (F : Fld Z h a O n d v) {g : JFrame} (hg : g.method = m) {rest : List Value} (hs : g.stack = .ref a :: rest) (hd : decode c.code g.pc = .ok (.getfield index, 3)) : ∀ target, Steps p.tables e below (T.setTop { g with pc := g.pc + 3, stack := v :: rest }) target → Steps p.tables e below (T.setTop g) target := by
  obtain ⟨cell, cf, k, i, f, h1, h2, h3, h4, -, -, h7⟩ := F
  have hZT : Z.Warmed39 T.vm := wtrans hZ X.warmed
  have w' := Cond.fieldRef_warmed39 hZT w
  have hownT : (Z.setVm T.vm).vm.findClass own = some m.cls := by
    show T.vm.findClass own = _
    rw [X.warmed.alike.findClass]; exact hown
  obtain ⟨c2, k2, i2, f2, hf2, hready⟩ := Cond.fieldRef_spec hownT w'
  obtain ⟨k', hi, -⟩ := State.fieldFound?_setVm (s := Z) hZT.alike h2
  have e2 : some (c2, k2, i2, f2) = some (cf, k', i, f) := hf2.symm.trans hi
  cases e2
  intro target hrest
  subst hg
  jvm_step X.here [hx, hd, getfield.wp_ready (e := e) (s := T) (f := g) X.here.top hready h3 hs (by rw [eT]; exact h1) h4 h7]
  exact hrest
/-- a constructor by its contract, through an entry that is said resolved -/
theorem specialRefBack (X : Stand p l e R s m args below meth c T locs cells slots) (hexec : p.tables.exec = Jvm.exec) (hZ : Z.Warmed39 s.vm) {own : String} {index : Nat} {y : MethodName} (hy1 : y.name = "<init>")
    (hown : s.vm.findClass own = some m.cls) (w : (Cond.methodRef own index y).before a0 Z = true) (hinstZ : (Cond.instanceMethod y).before a0 Z = true) (hinst : (Cond.instanceMethod y).before args s = true)
    {bytes : ByteArray} {maxL : Nat} (hcode : (Cond.code y bytes maxL none).before args s = true) (hy : y.cls ≠ "java/lang/invoke/MethodHandle" ∧ y.cls ≠ "java/lang/invoke/VarHandle")
    {W : Nat} {Pre : Pt → Array Value → Prop} {Post : Pt → Array Value → Option Value → Pt → Prop} (hK : Back l R p e below s args y 3 W Pre Post)
    {g : JFrame} (hg : g.method = m) (hsize : g.locals.size = c.maxLocals) {a : Addr} {argsL rest : List Value}
    (hlen : ∀ sig, parseMethodDescriptor y.desc = some sig → argsL.length = sig.parameters.length) (hstack : g.stack = argsL.reverse ++ .ref a :: rest) (hW : 2 * g.monitorRoom + (rest.map fun v => v.category).sum ≤ W)
    (hdg : decode c.code g.pc = .ok (.invokespecial index, 3)) (hpre : Pre ⟨T, locs, cells, slots⟩ (.ref a :: argsL).toArray) :
    ∃ (v : Option Value) (B : Pt), Stand p l e R s m args below meth c B.U B.locs B.cells B.slots ∧ Post ⟨T, locs, cells, slots⟩ (.ref a :: argsL).toArray v B ∧
      Steps p.tables e below (T.setTop g) (B.U.setTop { g with pc := g.pc + 3, stack := v.toList ++ rest }) := by
  obtain ⟨obj, methO, hnO, hmO, hstO, habO⟩ := Cond.instanceMethod_spec hinst
  obtain ⟨methO', cO, hmO', hcO, hbO, hlO, -, hlockO, -, hsigO⟩ := Cond.code_spec hnO hcode
  cases hmO.symm.trans hmO'
  obtain ⟨kO, hkO, hnameO⟩ := className_of_methodNamed hnO
  obtain ⟨hnameMO, hdescO⟩ := name_of_methodNamed hnO hmO
  have hZT : Z.Warmed39 T.vm := wtrans hZ X.warmed
  obtain ⟨objZ, _, hnZ, _, _, _⟩ := Cond.instanceMethod_spec hinstZ
  have w' := Cond.methodRef_warmed39 hZT hnZ hy w
  have hownT : (Z.setVm T.vm).vm.findClass own = some m.cls := by
    show T.vm.findClass own = _
    rw [X.warmed.alike.findClass]; exact hown
  obtain ⟨m2, c2, hm2, hready, hfind, hres⟩ := Cond.methodRef_named e hownT w'
  have hnT : (Z.setVm T.vm).methodNamed? y = some obj := by
    have q : T.methodNamed? y = some obj := X.named hnO
    exact q
  have em : m2 = obj := Option.some.inj (hm2.symm.trans (State.methodFound?_of_named hnT hy))
  subst em
  have ec : c2 = m2.cls := Option.some.inj (hfind.symm.trans (findClass_of_methodNamed hnT))
  subst ec
  obtain ⟨kO₂, hkO₂, heO₂⟩ := X.warmed.alike.2.2 _ _ hkO
  have hmO₂ : T.vm.method? m2 = some methO := by rw [X.warmed.alike.method?]; exact hmO
  have hfound : lookupSpecial T.vm m2.cls "<init>" methO.desc = .method m2 := by
    rw [X.warmed.alike.lookupSpecial, hdescO, ← hy1]; exact lookupSpecial_of_named hnO hmO hstO
  obtain ⟨v, B, X', hpost, hsteps⟩ := hK m meth c ⟨T, locs, cells, slots⟩ { g with stack := rest } (.invokespecial index) m2 (.ref a :: argsL).toArray X hg hsize hdg hW (X.named hnO) hpre
  refine ⟨v, B, X', hpost, ?_⟩
  have st : ∀ target, (∀ acts, Steps p.tables e below (doInvoke e (T.setTop { g with stack := rest }) acts m2 (.ref a :: argsL).toArray).1 target) → Steps p.tables e below (T.setTop g) target := by
    intro target hrest
    subst hg
    jvm_step X.here [hexec, hdg, invokespecial.wp_init (e := e) (s := T) (k := kO₂) (meth := methO) (m := m2) (a := a) (args := argsL) (rest := rest) (f := g) X.here.top hres hready hkO₂ hmO₂ (by rw [hnameMO]; exact hy1) hstO habO hfound (hlen _ hsigO) hstack]
    exact hrest
  exact (st _ fun acts => by rw [doInvoke_state]; exact Steps.refl _).trans hsteps
/-- a private method is what its own class's objects select -/
theorem sel_private (hZ : Z.Warmed39 s.vm) {n : Nat} {y : MethodName} (wi : (Cond.instantiable y.cls n).before a0 Z = true) (wp : (Cond.privateMethod y).before a0 Z = true) (wm : (Cond.instanceMethod y).before a0 Z = true) (hy : y.cls ≠ "java/lang/invoke/MethodHandle" ∧ y.cls ≠ "java/lang/invoke/VarHandle") : (Cond.selects y.cls y y).before args s = true := by
  have wi' : (Cond.instantiable y.cls n).before args s = true := mvT hZ wi
  obtain ⟨c, k, h1, h2, h3, h4, -⟩ := Cond.instantiable_spec wi'
  have h5 : k.isInterface = false := by
    cases q : k.isInterface
    · rfl
    · rw [q] at h4; simp at h4
  exact selects_self_of_private h1 h2 h5 (Cond.privateMethod_at (mvP hZ wp (args := #[]))) (mvT hZ wm) hy
end OwnR
end Jvm.RoadKit
namespace Jvm.Pilot.@@N@@
open Jvm Jvm.ClassFile Sem Op Lib Jvm.Free Jvm.Stand Jvm.LawKit Jvm.RoadKit Bundle Jvm.Pilot.@@N@@.Jvm.D
theorem pd_0 : parseMethodDescriptor "()V" = some ⟨[], none⟩ := by decide +kernel
theorem pd_1 : parseMethodDescriptor "(JJ)D" = some ⟨[.long, .long], some .double⟩ := by decide +kernel
theorem pd_2 : parseMethodDescriptor "(IJD)D" = some ⟨[.int, .long, .double], some .double⟩ := by decide +kernel
theorem pd_3 : parseMethodDescriptor "(JD)V" = some ⟨[.long, .double], none⟩ := by decide +kernel
theorem pd_4 : parseMethodDescriptor "()Z" = some ⟨[], some .boolean⟩ := by decide +kernel
open Jvm.Free.Fl
/-- a chain as it stands -/
def own_C (Z : State) (h : Heap) (c tb rb : Addr) (k1 k2 : ClassId) (ts rs : List Value) (n : Int32) : Prop := Exa Z h c "com/example/fewbits/fewbits/store/SegmentHull$Chain" ∧ Fld Z h c "com/example/fewbits/fewbits/store/SegmentHull$Chain" "timestamps" "[J" (.ref tb) ∧ Fld Z h c "com/example/fewbits/fewbits/store/SegmentHull$Chain" "rises" "[D" (.ref rb) ∧ Fld Z h c "com/example/fewbits/fewbits/store/SegmentHull$Chain" "size" "I" (.int n) ∧ Arv Z h tb k1 .long 16 ts (.long 0) ∧ Arv Z h rb k2 .double 16 rs (.double 0)
theorem own_C.ext {Z : State} {h h' : Heap} {c tb rb : Addr} {k1 k2 : ClassId} {ts rs : List Value} {n : Int32} (C : own_C Z h c tb rb k1 k2 ts rs n) (E : Ext h h') : own_C Z h' c tb rb k1 k2 ts rs n := ⟨C.1.ext E, C.2.1.ext E, C.2.2.1.ext E, C.2.2.2.1.ext E, C.2.2.2.2.1.ext E, C.2.2.2.2.2.ext E⟩
theorem own_C.keep {Z : State} {h h' : Heap} {c tb rb : Addr} {k1 k2 : ClassId} {ts rs : List Value} {n : Int32} {ws : List Addr} (C : own_C Z h c tb rb k1 k2 ts rs n) (K : Keep h h' ws) (q1 : c ∉ ws) (q2 : tb ∉ ws) (q3 : rb ∉ ws) : own_C Z h' c tb rb k1 k2 ts rs n := ⟨C.1.keep K, C.2.1.keep K q1, C.2.2.1.keep K q1, C.2.2.2.1.keep K q1, C.2.2.2.2.1.keep K q2, C.2.2.2.2.2.keep K q3⟩
theorem own_C.other {Z : State} {h h' : Heap} {c tb rb b : Addr} {k1 k2 : ClassId} {ts rs : List Value} {n : Int32} {sl : Nat} {v : Value} (C : own_C Z h c tb rb k1 k2 ts rs n) (W : Wr h h' b sl v) (q1 : c ≠ b) (q2 : tb ≠ b) (q3 : rb ≠ b) : own_C Z h' c tb rb k1 k2 ts rs n := C.keep (Keep.of_wr W) (ninS q1 nin0) (ninS q2 nin0) (ninS q3 nin0)
theorem own_lt {x y : Nat} (h : x < y) : x ≠ y := Nat.ne_of_lt h
theorem own_gt {x y : Nat} (h : y < x) : x ≠ y := Nat.ne_of_gt h
/-- the seven objects, in the order in which they were made -/
def own_O (n0 a u tu ru l tl rl : Nat) : Prop := n0 ≤ a ∧ a < u ∧ u < tu ∧ tu < ru ∧ ru < l ∧ l < tl ∧ tl < rl
theorem own_neg {x : UInt64} (h : Fin64 x) : Fin64 (FP.dneg x) := by
  have e : (x ^^^ 0x8000000000000000) &&& 0x7fffffffffffffff = x &&& 0x7fffffffffffffff := by
    apply UInt64.toBitVec_inj.mp
    rw [UInt64.toBitVec_and, UInt64.toBitVec_xor, UInt64.toBitVec_and]
    generalize x.toBitVec = b
    apply BitVec.eq_of_getLsbD_eq
    intro i hi
    rw [BitVec.getLsbD_and, BitVec.getLsbD_xor, BitVec.getLsbD_and]
    by_cases q : i = 63
    · subst q
      rw [show (UInt64.toBitVec 0x7fffffffffffffff).getLsbD 63 = false by decide]; simp
    · have : (UInt64.toBitVec 0x8000000000000000).getLsbD i = false := by
        have : ∀ j : Fin 64, j.val ≠ 63 → (UInt64.toBitVec 0x8000000000000000).getLsbD j.val = false := by decide
        exact this ⟨i, hi⟩ q
      rw [this, Bool.xor_false]
  unfold Fin64 at *
  rw [show FP.dneg x = x ^^^ 0x8000000000000000 from rfl, e]; exact h
theorem own_rise (x y : Int32) : Fin64 (FP.dsub (FP.i2d x) (FP.i2d y)) := by
  rw [Jvm.RoadKit.i2d_w, Jvm.RoadKit.i2d_w, Jvm.RoadKit.dsub_w]
  · exact l2d_fin _
  · unfold Jvm.RoadKit.B53; rw [Int32.toInt_toInt64]; have := Jvm.RoadKit.rng32 x; omega
  · unfold Jvm.RoadKit.B53; rw [Int32.toInt_toInt64]; have := Jvm.RoadKit.rng32 y; omega
/-- a later timestamp: how much later it is, is told by the difference -/
def own_later (a b : Int64) : Prop := ¬ (b - a) < 0 ∧ (b - a) ≠ 0
theorem own_step (t : Int64) (x : Int32) : own_later t (t + 1 + (x &&& (65535 : Int32)).toInt64) := by
  have h1 := c_and x 65535 (by decide)
  have h2 : (65535 : Int32).toInt = 65535 := by decide
  have e1 := c_ladd t 1
  have e2 := c_ladd (t + 1) (x &&& (65535 : Int32)).toInt64
  have e3 := c_lsub (t + 1 + (x &&& (65535 : Int32)).toInt64) t
  have e4 := c_i2l (x &&& (65535 : Int32))
  have r := rng64 (t + 1 + (x &&& (65535 : Int32)).toInt64 - t)
  have z0 : (0 : Int64).toInt = 0 := by decide
  have z1 : (1 : Int64).toInt = 1 := by decide
  have k : (t + 1 + (x &&& (65535 : Int32)).toInt64 - t).toInt = 1 + (x &&& (65535 : Int32)).toInt := by omega
  refine ⟨?_, fun q => ?_⟩
  · rw [Int64.lt_iff_toInt_lt]; omega
  · rw [q] at k; omega
theorem d3_0 : decode prog_36_method_1_code 0 = .ok (.aload_n 0, 1) := by decide +kernel
theorem d3_1 : decode prog_36_method_1_code 1 = .ok (.invokespecial 1, 3) := by decide +kernel
theorem d3_4 : decode prog_36_method_1_code 4 = .ok (.aload_n 0, 1) := by decide +kernel
theorem d3_5 : decode prog_36_method_1_code 5 = .ok (.bipush 16, 2) := by decide +kernel
theorem d3_7 : decode prog_36_method_1_code 7 = .ok (.newarray .long, 2) := by decide +kernel
theorem d3_9 : decode prog_36_method_1_code 9 = .ok (.putfield 7, 3) := by decide +kernel
theorem d3_12 : decode prog_36_method_1_code 12 = .ok (.aload_n 0, 1) := by decide +kernel
theorem d3_13 : decode prog_36_method_1_code 13 = .ok (.bipush 16, 2) := by decide +kernel
theorem d3_15 : decode prog_36_method_1_code 15 = .ok (.newarray .double, 2) := by decide +kernel
theorem d3_17 : decode prog_36_method_1_code 17 = .ok (.putfield 13, 3) := by decide +kernel
theorem d3_20 : decode prog_36_method_1_code 20 = .ok (.return_, 1) := by decide +kernel
theorem pn_3 : plainName "com/example/fewbits/fewbits/store/SegmentHull$Chain" = true := by first | (simp [plainName, overriddenIn]; done) | decide +kernel
theorem ef_3 (m : MethodId) (x0 : Addr) : entryFrame m #[(.ref x0)] 1 = mkF m 0 #[.val (.ref x0)] [] := by first | (simp [entryFrame, mkF, argsToLocals, Value.category]; done) | rfl
def Q_rm3 (Z : State) (a1 : Addr)  (h0 : Heap) (n0 : Nat) : Option Value → Heap → List Loc → Prop := fun v h L => v = none ∧ Fr n0 L ∧ Keep h0 h [a1] ∧ ∃ tb rb k1 k2, own_C Z h a1 tb rb k1 k2 [.long 0, .long 0, .long 0] [.double 0, .double 0, .double 0] 0 ∧ @LE.le Nat _ h0.size tb ∧ @LT.lt Nat _ tb rb ∧ @LT.lt Nat _ rb h.size
set_option maxRecDepth 65536 in
set_option maxHeartbeats 40000000 in
theorem rm3 (l : Launch) (Z : State) (a0 : Array Value) (hw : ∀ d ∈ tables_1, d.before a0 Z = true) (ws : List Jvm.Cond) (a1 : Addr)  (h0 : Heap) (n0 : Nat) (Z0 : n0 ≤ h0.size) (F1 : Fld Z h0 a1 "com/example/fewbits/fewbits/store/SegmentHull$Chain" "timestamps" "[J" .null) (F2 : Fld Z h0 a1 "com/example/fewbits/fewbits/store/SegmentHull$Chain" "rises" "[D" .null) (F3 : Fld Z h0 a1 "com/example/fewbits/fewbits/store/SegmentHull$Chain" "size" "I" (.int (0 : Int32))) (E1 : Exa Z h0 a1 "com/example/fewbits/fewbits/store/SegmentHull$Chain") (g1 : n0 ≤ a1) :
    MetFree l (⟨"com/example/fewbits/fewbits/store/SegmentHull$Chain", "<init>", "()V"⟩ : MethodName) (head1 (Jvm.Cond.code (⟨"com/example/fewbits/fewbits/store/SegmentHull$Chain", "<init>", "()V"⟩ : MethodName) prog_36_method_1_code 1 none :: ws) ({ frames := 1, cells := 2, slots := 32, locals := 12 } : Room)) (fun a U => a = #[(.ref a1)] ∧ Z.Warmed39 U.vm ∧ U.heap = h0) (fun _ _ _ _ _ => True) (fun _ U oo U' => ∃ vv LL, oo = .returned vv ∧ (Q_rm3 Z a1 h0 n0) vv U'.heap LL ∧ FrameEnd U oo U' LL ({ frames := 1, cells := 2, slots := 32, locals := 12 } : Room).cells ({ frames := 1, cells := 2, slots := 32, locals := 12 } : Room).slots) := by
  refine MetFree.of_bodySF (plainFor_of_name pn_3) hisR ?_
  intro p e s m args below meth c s₁ Bd hml0 hP hK
  obtain ⟨rfl, hZ, hh⟩ := hP
  have hx := Bd.exec
  have hby := Bd.bytes
  have hml : c.maxLocals = 1 := hml0
  have hown : s.vm.findClass "com/example/fewbits/fewbits/store/SegmentHull$Chain" = some m.cls := findClass_of_methodNamed Bd.named
  have hnm := (name_of_methodNamed Bd.named Bd.method).1
  have X0 : Stand p l e ({ frames := 1, cells := 2, slots := 32, locals := 12 } : Room) s m #[(.ref a1)] below meth c s₁ [] 0 0 := Stand.of_body Bd
  have e0 : s₁.heap = h0 := by rw [← hh, Bd.state]; rfl
  have N0 := Fr.nil n0
  show Goes p e below (Fin s (Q_rm3 Z a1 h0 n0) ({ frames := 1, cells := 2, slots := 32, locals := 12 } : Room).cells ({ frames := 1, cells := 2, slots := 32, locals := 12 } : Room).slots) _
  refine Goes.via (S' := s₁.setTop (mkF m 0 #[.val (.ref a1)] [])) (fun tz kz => castTop (ef_3 m a1 ) kz) ?_
  refine Goes.via (S' := s₁.setTop (mkF m 1 #[.val (.ref a1)] [(.ref a1)])) (fun tz kz => ?_) ?_
  · show Steps p.tables e below (s₁.setTop (mkF m 0 #[.val (.ref a1)] [])) _
    refine XS.aloadN X0.here hx rfl (hb hby d3_0) rfl rfl ?_
    exact kz
  obtain ⟨T1, X1, e1, st1⟩ := initO X0 hx hZ hown (hw _ (List.mem_of_getElem? (i := 15) rfl)) (hw _ (List.mem_of_getElem? (i := 7) rfl)) (hw _ (List.mem_of_getElem? (i := 8) rfl)) e0 (g := (mkF m 1 #[.val (.ref a1)] [(.ref a1)])) rfl (by rw [hml]; rfl) rfl (hb hby d3_1) (by decide) (W := 0) (by show 2 * 0 + _ ≤ _; exact Nat.le_of_eq rfl) (by decide)
  refine Goes.via (S' := T1.setTop (mkF m 4 #[.val (.ref a1)] [])) st1 ?_
  refine Goes.via (S' := T1.setTop (mkF m 7 #[.val (.ref a1)] [(.int (16 : Int32)), (.ref a1)])) (fun tz kz => ?_) ?_
  · show Steps p.tables e below (T1.setTop (mkF m 4 #[.val (.ref a1)] [])) _
    refine XS.aloadN X1.here hx rfl (hb hby d3_4) rfl rfl ?_
    show Steps p.tables e below (T1.setTop (mkF m 5 #[.val (.ref a1)] [(.ref a1)])) _
    refine XS.bipush X1.here hx rfl (hb hby d3_5) ?_
    exact kz
  obtain ⟨T2, h2, k2, X2, e2, E2, A2, st2⟩ := newP X1 hx hZ (hw _ (List.mem_of_getElem? (i := 16) rfl)) e1 (g := (mkF m 7 #[.val (.ref a1)] [(.int (16 : Int32)), (.ref a1)])) rfl (hb hby d3_7) rfl (by decide) (cap := 16) (by decide) (by decide) (by decide) (by decide)
  obtain ⟨b2, g2⟩ : ∃ z, z = h0.size := ⟨_, rfl⟩
  rw [← g2] at A2 st2
  refine Goes.via (S' := T2.setTop (mkF m 9 #[.val (.ref a1)] [(.ref b2), (.ref a1)])) st2 ?_
  obtain ⟨T3, h3, X3, e3, W3, st3⟩ := putF X2 hx hZ hown (host := "") (Or.inl (hw _ (List.mem_of_getElem? (i := 17) rfl))) Via.refl e2 (F1.ext E2) (E1.ext E2) (Or.inl (hw _ (List.mem_of_getElem? (i := 18) rfl))) (hw _ (List.mem_of_getElem? (i := 10) rfl)) (ty := (.array .long)) (by decide) rfl rfl (g := (mkF m 9 #[.val (.ref a1)] [(.ref b2), (.ref a1)])) rfl rfl (hb hby d3_9)
  refine Goes.via (S' := T3.setTop (mkF m 12 #[.val (.ref a1)] [])) st3 ?_
  have N3 := Fr.snoc X3 N0 g1
  refine Goes.via (S' := T3.setTop (mkF m 15 #[.val (.ref a1)] [(.int (16 : Int32)), (.ref a1)])) (fun tz kz => ?_) ?_
  · show Steps p.tables e below (T3.setTop (mkF m 12 #[.val (.ref a1)] [])) _
    refine XS.aloadN X3.here hx rfl (hb hby d3_12) rfl rfl ?_
    show Steps p.tables e below (T3.setTop (mkF m 13 #[.val (.ref a1)] [(.ref a1)])) _
    refine XS.bipush X3.here hx rfl (hb hby d3_13) ?_
    exact kz
  obtain ⟨T4, h4, k4, X4, e4, E4, A4, st4⟩ := newP X3 hx hZ (hw _ (List.mem_of_getElem? (i := 19) rfl)) e3 (g := (mkF m 15 #[.val (.ref a1)] [(.int (16 : Int32)), (.ref a1)])) rfl (hb hby d3_15) rfl (by decide) (cap := 16) (by decide) (by decide) (by decide) (by decide)
  obtain ⟨b4, g4⟩ : ∃ z, z = h3.size := ⟨_, rfl⟩
  rw [← g4] at A4 st4
  refine Goes.via (S' := T4.setTop (mkF m 17 #[.val (.ref a1)] [(.ref b4), (.ref a1)])) st4 ?_
  have Fr2 := (((F2.ext E2).other W3 (Or.inr (slot_ne (Or.inl (hw _ (List.mem_of_getElem? (i := 21) rfl))) (Or.inl (hw _ (List.mem_of_getElem? (i := 18) rfl))) (by decide) (t := (.array .double)) (t' := (.array .long)) (by decide) (by decide)))).ext E4)
  have Ex := (((E1.ext E2).wr W3).ext E4)
  obtain ⟨T5, h5, X5, e5, W5, st5⟩ := putF X4 hx hZ hown (host := "") (Or.inl (hw _ (List.mem_of_getElem? (i := 20) rfl))) Via.refl e4 Fr2 Ex (Or.inl (hw _ (List.mem_of_getElem? (i := 21) rfl))) (hw _ (List.mem_of_getElem? (i := 10) rfl)) (ty := (.array .double)) (by decide) rfl rfl (g := (mkF m 17 #[.val (.ref a1)] [(.ref b4), (.ref a1)])) rfl rfl (hb hby d3_17)
  refine Goes.via (S' := T5.setTop (mkF m 20 #[.val (.ref a1)] [])) st5 ?_
  have N5 := Fr.snoc X5 N3 g1
  have na : a1 ≠ b2 := adr_ne E1.lt g2 (Nat.le_refl _)
  have sz := Nat.le_trans E2.1 (Nat.le_of_eq W3.size.symm)
  have nb : a1 ≠ b4 := adr_ne E1.lt g4 sz
  have lab : @LT.lt Nat _ b2 b4 := Nat.lt_of_lt_of_le A2.lt (Nat.le_trans (Nat.le_of_eq W3.size.symm) (Nat.le_of_eq g4.symm))
  have At := ((((Arv.new A2 (by decide)).pad (pad_rep [] (.long 0) 3)).other W3 (Ne.symm na)).ext E4).other W5 (Ne.symm nb |> fun _ => Ne.symm na)
  have Ab := ((Arv.new A4 (by decide)).pad (pad_rep [] (.double 0) 3)).other W5 (Ne.symm nb)
  have Ft := (((F1.ext E2).same W3).ext E4).other W5 (Or.inr (slot_ne (Or.inl (hw _ (List.mem_of_getElem? (i := 18) rfl))) (Or.inl (hw _ (List.mem_of_getElem? (i := 21) rfl))) (by decide) (t := (.array .long)) (t' := (.array .double)) (by decide) (by decide)))
  have Fz := (((F3.ext E2).other W3 (Or.inr (slot_ne (Or.inl (hw _ (List.mem_of_getElem? (i := 32) rfl))) (Or.inl (hw _ (List.mem_of_getElem? (i := 18) rfl))) (by decide) (t := .int) (t' := (.array .long)) (by decide) (by decide)))).ext E4).other W5 (Or.inr (slot_ne (Or.inl (hw _ (List.mem_of_getElem? (i := 32) rfl))) (Or.inl (hw _ (List.mem_of_getElem? (i := 21) rfl))) (by decide) (t := .int) (t' := (.array .double)) (by decide) (by decide)))
  have Kp : Keep h0 h5 [a1] := ((((Keep.refl h0 [a1]).ext E2).wr W3 (Or.inl (List.mem_singleton.mpr rfl))).ext E4).wr W5 (Or.inl (List.mem_singleton.mpr rfl))
  have hlt : @LT.lt Nat _ b4 h5.size := Nat.lt_of_lt_of_le A4.lt (Nat.le_of_eq W5.size.symm)
  exact Goes.retV X5 hx Bd.notSynchronized Bd.returns (hb hby d3_20) (Nat.le_of_ble_eq_true rfl) (Nat.le_of_ble_eq_true rfl) (by rw [e5]; exact ⟨rfl, N5, Kp, b2, b4, _, _, ⟨Ex.wr W5, Ft, Fr2.same W5, Fz, At, Ab⟩, Nat.le_of_eq g2.symm, lab, hlt⟩)
/-- the hull as it stands: its two chains, its start's value -/
def own_H (Z : State) (h : Heap) (a u tu ru l1 tl rl : Addr) (ku1 ku2 kl1 kl2 : ClassId) (tsu rsu : List Value) (nu : Int32) (tsl rsl : List Value) (nl : Int32) (sv : UInt64) : Prop := Exa Z h a "com/example/fewbits/fewbits/store/SegmentHull" ∧ Fld Z h a "com/example/fewbits/fewbits/store/SegmentHull" "upper" "Lcom/example/fewbits/fewbits/store/SegmentHull$Chain;" (.ref u) ∧ Fld Z h a "com/example/fewbits/fewbits/store/SegmentHull" "lower" "Lcom/example/fewbits/fewbits/store/SegmentHull$Chain;" (.ref l1) ∧ (∃ x : Value, Fld Z h a "com/example/fewbits/fewbits/store/SegmentHull" "startTimestamp" "J" x) ∧ Fld Z h a "com/example/fewbits/fewbits/store/SegmentHull" "startValue" "D" (.double sv) ∧ own_C Z h u tu ru ku1 ku2 tsu rsu nu ∧ own_C Z h l1 tl rl kl1 kl2 tsl rsl nl
theorem d1_0 : decode prog_35_method_1_code 0 = .ok (.aload_n 0, 1) := by decide +kernel
theorem d1_1 : decode prog_35_method_1_code 1 = .ok (.invokespecial 1, 3) := by decide +kernel
theorem d1_4 : decode prog_35_method_1_code 4 = .ok (.aload_n 0, 1) := by decide +kernel
theorem d1_5 : decode prog_35_method_1_code 5 = .ok (.new 7, 3) := by decide +kernel
theorem d1_8 : decode prog_35_method_1_code 8 = .ok (.dup, 1) := by decide +kernel
theorem d1_9 : decode prog_35_method_1_code 9 = .ok (.invokespecial 9, 3) := by decide +kernel
theorem d1_12 : decode prog_35_method_1_code 12 = .ok (.putfield 10, 3) := by decide +kernel
theorem d1_15 : decode prog_35_method_1_code 15 = .ok (.aload_n 0, 1) := by decide +kernel
theorem d1_16 : decode prog_35_method_1_code 16 = .ok (.new 7, 3) := by decide +kernel
theorem d1_19 : decode prog_35_method_1_code 19 = .ok (.dup, 1) := by decide +kernel
theorem d1_20 : decode prog_35_method_1_code 20 = .ok (.invokespecial 9, 3) := by decide +kernel
theorem d1_23 : decode prog_35_method_1_code 23 = .ok (.putfield 16, 3) := by decide +kernel
theorem d1_26 : decode prog_35_method_1_code 26 = .ok (.return_, 1) := by decide +kernel
theorem pn_1 : plainName "com/example/fewbits/fewbits/store/SegmentHull" = true := by first | (simp [plainName, overriddenIn]; done) | decide +kernel
theorem ef_1 (m : MethodId) (x0 : Addr) : entryFrame m #[(.ref x0)] 1 = mkF m 0 #[.val (.ref x0)] [] := by first | (simp [entryFrame, mkF, argsToLocals, Value.category]; done) | rfl
def Q_rm1 (Z : State) (a1 : Addr)  (h0 : Heap) (n0 : Nat) : Option Value → Heap → List Loc → Prop := fun v h L => v = none ∧ Fr n0 L ∧ Keep h0 h [a1] ∧ ∃ u tu ru l1 tl rl ku1 ku2 kl1 kl2, own_H Z h a1 u tu ru l1 tl rl ku1 ku2 kl1 kl2 [.long 0, .long 0, .long 0] [.double 0, .double 0, .double 0] 0 [.long 0, .long 0, .long 0] [.double 0, .double 0, .double 0] 0 0 ∧ own_O n0 a1 u tu ru l1 tl rl
set_option maxRecDepth 65536 in
set_option maxHeartbeats 40000000 in
theorem rm1 (l : Launch) (Z : State) (a0 : Array Value) (hw : ∀ d ∈ tables_1, d.before a0 Z = true) (ws : List Jvm.Cond) (a1 : Addr)  (h0 : Heap) (n0 : Nat) (Z0 : n0 ≤ h0.size) (FU : Fld Z h0 a1 "com/example/fewbits/fewbits/store/SegmentHull" "upper" "Lcom/example/fewbits/fewbits/store/SegmentHull$Chain;" .null) (FL : Fld Z h0 a1 "com/example/fewbits/fewbits/store/SegmentHull" "lower" "Lcom/example/fewbits/fewbits/store/SegmentHull$Chain;" .null) (FT : Fld Z h0 a1 "com/example/fewbits/fewbits/store/SegmentHull" "startTimestamp" "J" (.long (0 : Int64))) (FV : Fld Z h0 a1 "com/example/fewbits/fewbits/store/SegmentHull" "startValue" "D" (.double 0)) (E1 : Exa Z h0 a1 "com/example/fewbits/fewbits/store/SegmentHull") (g1 : n0 ≤ a1) :
    MetFree l (⟨"com/example/fewbits/fewbits/store/SegmentHull", "<init>", "()V"⟩ : MethodName) (head1 (Jvm.Cond.code (⟨"com/example/fewbits/fewbits/store/SegmentHull", "<init>", "()V"⟩ : MethodName) prog_35_method_1_code 1 none :: ws) ({ frames := 2, cells := 6, slots := 70, locals := 40 } : Room)) (fun a U => a = #[(.ref a1)] ∧ Z.Warmed39 U.vm ∧ U.heap = h0) (fun _ _ _ _ _ => True) (fun _ U oo U' => ∃ vv LL, oo = .returned vv ∧ (Q_rm1 Z a1 h0 n0) vv U'.heap LL ∧ FrameEnd U oo U' LL ({ frames := 2, cells := 6, slots := 70, locals := 40 } : Room).cells ({ frames := 2, cells := 6, slots := 70, locals := 40 } : Room).slots) := by
  refine MetFree.of_bodySF (plainFor_of_name pn_1) hisR ?_
  intro p e s m args below meth c s₁ Bd hml0 hP hK
  obtain ⟨rfl, hZ, hh⟩ := hP
  have hx := Bd.exec
  have hby := Bd.bytes
  have hml : c.maxLocals = 1 := hml0
  have hown : s.vm.findClass "com/example/fewbits/fewbits/store/SegmentHull" = some m.cls := findClass_of_methodNamed Bd.named
  have hnm := (name_of_methodNamed Bd.named Bd.method).1
  have X0 : Stand p l e ({ frames := 2, cells := 6, slots := 70, locals := 40 } : Room) s m #[(.ref a1)] below meth c s₁ [] 0 0 := Stand.of_body Bd
  have e0 : s₁.heap = h0 := by rw [← hh, Bd.state]; rfl
  have N0 := Fr.nil n0
  show Goes p e below (Fin s (Q_rm1 Z a1 h0 n0) ({ frames := 2, cells := 6, slots := 70, locals := 40 } : Room).cells ({ frames := 2, cells := 6, slots := 70, locals := 40 } : Room).slots) _
  refine Goes.via (S' := s₁.setTop (mkF m 0 #[.val (.ref a1)] [])) (fun tz kz => castTop (ef_1 m a1 ) kz) ?_
  refine Goes.via (S' := s₁.setTop (mkF m 1 #[.val (.ref a1)] [(.ref a1)])) (fun tz kz => ?_) ?_
  · show Steps p.tables e below (s₁.setTop (mkF m 0 #[.val (.ref a1)] [])) _
    refine XS.aloadN X0.here hx rfl (hb hby d1_0) rfl rfl ?_
    exact kz
  obtain ⟨T1, X1, e1, st1⟩ := initO X0 hx hZ hown (hw _ (List.mem_of_getElem? (i := 6) rfl)) (hw _ (List.mem_of_getElem? (i := 7) rfl)) (hw _ (List.mem_of_getElem? (i := 8) rfl)) e0 (g := (mkF m 1 #[.val (.ref a1)] [(.ref a1)])) rfl (by rw [hml]; rfl) rfl (hb hby d1_1) (by decide) (W := 0) (by show 2 * 0 + _ ≤ _; exact Nat.le_of_eq rfl) (by decide)
  refine Goes.via (S' := T1.setTop (mkF m 4 #[.val (.ref a1)] [])) st1 ?_
  refine Goes.via (S' := T1.setTop (mkF m 5 #[.val (.ref a1)] [(.ref a1)])) (fun tz kz => ?_) ?_
  · show Steps p.tables e below (T1.setTop (mkF m 4 #[.val (.ref a1)] [])) _
    refine XS.aloadN X1.here hx rfl (hb hby d1_4) rfl rfl ?_
    exact kz
  obtain ⟨T2, h2, X2, e2, E2, A2, D2, -, st2⟩ := newO X1 hx hZ hown (hw _ (List.mem_of_getElem? (i := 9) rfl)) (hw _ (List.mem_of_getElem? (i := 10) rfl)) (hw _ (List.mem_of_getElem? (i := 11) rfl)) e1 (g := (mkF m 5 #[.val (.ref a1)] [(.ref a1)])) rfl (hb hby d1_5) (by decide) (by decide)
  obtain ⟨b2, g2⟩ : ∃ z, z = h0.size := ⟨_, rfl⟩
  rw [← g2] at A2 D2 st2
  refine Goes.via (S' := T2.setTop (mkF m 8 #[.val (.ref a1)] [(.ref b2), (.ref a1)])) st2 ?_
  have Fu0 : Fld Z h2 b2 "com/example/fewbits/fewbits/store/SegmentHull$Chain" "timestamps" "[J" .null := D2 (Or.inl (hw _ (List.mem_of_getElem? (i := 18) rfl))) (ty := (.array .long)) (by decide)
  have Fu1 : Fld Z h2 b2 "com/example/fewbits/fewbits/store/SegmentHull$Chain" "rises" "[D" .null := D2 (Or.inl (hw _ (List.mem_of_getElem? (i := 21) rfl))) (ty := (.array .double)) (by decide)
  have Fu2 : Fld Z h2 b2 "com/example/fewbits/fewbits/store/SegmentHull$Chain" "size" "I" (.int (0 : Int32)) := D2 (Or.inl (hw _ (List.mem_of_getElem? (i := 32) rfl))) (ty := .int) (by decide)
  have Zu : n0 ≤ h2.size := Nat.le_trans Z0 E2.1
  have gu : n0 ≤ b2 := Nat.le_trans Z0 (Nat.le_of_eq g2.symm)
  refine Goes.via (S' := T2.setTop (mkF m 9 #[.val (.ref a1)] [(.ref b2), (.ref b2), (.ref a1)])) (fun tz kz => ?_) ?_
  · show Steps p.tables e below (T2.setTop (mkF m 8 #[.val (.ref a1)] [(.ref b2), (.ref a1)])) _
    refine XS.dup X2.here hx rfl (hb hby d1_8) rfl rfl ?_
    exact kz
  obtain ⟨_, ⟨T3, L3, k3, n3⟩, X3, ⟨Lc3, hQ3, l3, y3, z3⟩, st3⟩ := specialRefBack X2 hx hZ (y := (⟨"com/example/fewbits/fewbits/store/SegmentHull$Chain", "<init>", "()V"⟩ : MethodName)) rfl hown (hw _ (List.mem_of_getElem? (i := 12) rfl)) (hw _ (List.mem_of_getElem? (i := 13) rfl)) (mvT hZ (hw _ (List.mem_of_getElem? (i := 13) rfl))) (mvT hZ (hw _ (List.mem_of_getElem? (i := 14) rfl))) (by decide) (backOf (W := 2) (rm3 l Z a0 hw [] b2 h2 n0 Zu Fu0 Fu1 Fu2 A2 gu) hZ (hw _ (List.mem_of_getElem? (i := 14) rfl)) (hw _ (List.mem_of_getElem? (i := 11) rfl)) (by decide) (by decide)) (g := (mkF m 9 #[.val (.ref a1)] [(.ref b2), (.ref b2), (.ref a1)])) rfl (by rw [hml]; rfl) (a := b2) (argsL := []) (rest := [(.ref b2), (.ref a1)]) (lenOf pd_0 rfl) rfl (by show 2 * 0 + _ ≤ _; exact Nat.le_of_eq rfl) (hb hby d1_9) ⟨rfl, e2, (by decide : 1 + 2 ≤ _), (by decide : 3 + 32 ≤ _)⟩
  dsimp only [Pt.U, Pt.locs, Pt.cells, Pt.slots] at X3 l3 y3 z3 st3 hQ3
  subst l3 y3 z3
  obtain ⟨rfl, N3, K3, tu, ru, k1u, k2u, Cu, o1u, o2u, o3u⟩ := hQ3
  have Nf3 := Fr.app N0 N3
  refine Goes.via (S' := T3.setTop (mkF m 12 #[.val (.ref a1)] [(.ref b2), (.ref a1)])) (fun _ kz => st3.trans kz) ?_
  have Zuc := Nat.le_trans Zu K3.1
  have Ea := (E1.ext E2).keep K3
  have na : a1 ≠ b2 := adr_ne E1.lt g2 (Nat.le_refl _)
  have G1 := (FU.ext E2).keep K3 (ninS na nin0)
  have G2 := (FL.ext E2).keep K3 (ninS na nin0)
  have G3 := (FT.ext E2).keep K3 (ninS na nin0)
  have G4 := (FV.ext E2).keep K3 (ninS na nin0)
  have lu : @LT.lt Nat _ a1 b2 := Nat.lt_of_lt_of_le E1.lt (Nat.le_of_eq g2.symm)
  have lut : @LT.lt Nat _ b2 tu := Nat.lt_of_lt_of_le A2.lt o1u
  obtain ⟨T4, h4, X4, e4, W4, st4⟩ := putF X3 hx hZ hown (host := "") (Or.inl (hw _ (List.mem_of_getElem? (i := 22) rfl))) Via.refl rfl G1 Ea (Or.inr ⟨(hw _ (List.mem_of_getElem? (i := 23) rfl)), rfl, hnm⟩) (hw _ (List.mem_of_getElem? (i := 1) rfl)) (ty := (.object "com/example/fewbits/fewbits/store/SegmentHull$Chain")) (by decide) rfl rfl (g := (mkF m 12 #[.val (.ref a1)] [(.ref b2), (.ref a1)])) rfl rfl (hb hby d1_12)
  refine Goes.via (S' := T4.setTop (mkF m 15 #[.val (.ref a1)] [])) st4 ?_
  have N4 := Fr.snoc X4 Nf3 g1
  have Cu2 := Cu.other W4 (own_gt lu) (own_gt (Nat.lt_trans lu lut)) (own_gt (Nat.lt_trans (Nat.lt_trans lu lut) o2u))
  have H1 := G1.same W4
  have H2 := G2.other W4 (Or.inr (slot_ne (Or.inr (hw _ (List.mem_of_getElem? (i := 25) rfl))) (Or.inr (hw _ (List.mem_of_getElem? (i := 23) rfl))) (by decide) (t := (.object "com/example/fewbits/fewbits/store/SegmentHull$Chain")) (t' := (.object "com/example/fewbits/fewbits/store/SegmentHull$Chain")) (by decide) (by decide)))
  have H3 := G3.other W4 (Or.inr (slot_ne (Or.inl (hw _ (List.mem_of_getElem? (i := 40) rfl))) (Or.inr (hw _ (List.mem_of_getElem? (i := 23) rfl))) (by decide) (t := .long) (t' := (.object "com/example/fewbits/fewbits/store/SegmentHull$Chain")) (by decide) (by decide)))
  have H4 := G4.other W4 (Or.inr (slot_ne (Or.inl (hw _ (List.mem_of_getElem? (i := 42) rfl))) (Or.inr (hw _ (List.mem_of_getElem? (i := 23) rfl))) (by decide) (t := .double) (t' := (.object "com/example/fewbits/fewbits/store/SegmentHull$Chain")) (by decide) (by decide)))
  have Eb := Ea.wr W4
  have Zp : n0 ≤ h4.size := Nat.le_trans Zuc (Nat.le_of_eq W4.size.symm)
  refine Goes.via (S' := T4.setTop (mkF m 16 #[.val (.ref a1)] [(.ref a1)])) (fun tz kz => ?_) ?_
  · show Steps p.tables e below (T4.setTop (mkF m 15 #[.val (.ref a1)] [])) _
    refine XS.aloadN X4.here hx rfl (hb hby d1_15) rfl rfl ?_
    exact kz
  obtain ⟨T5, h5, X5, e5, E5, A5, D5, -, st5⟩ := newO X4 hx hZ hown (hw _ (List.mem_of_getElem? (i := 9) rfl)) (hw _ (List.mem_of_getElem? (i := 10) rfl)) (hw _ (List.mem_of_getElem? (i := 11) rfl)) e4 (g := (mkF m 16 #[.val (.ref a1)] [(.ref a1)])) rfl (hb hby d1_16) (by decide) (by decide)
  obtain ⟨b5, g5⟩ : ∃ z, z = h4.size := ⟨_, rfl⟩
  rw [← g5] at A5 D5 st5
  refine Goes.via (S' := T5.setTop (mkF m 19 #[.val (.ref a1)] [(.ref b5), (.ref a1)])) st5 ?_
  have Fl0 : Fld Z h5 b5 "com/example/fewbits/fewbits/store/SegmentHull$Chain" "timestamps" "[J" .null := D5 (Or.inl (hw _ (List.mem_of_getElem? (i := 18) rfl))) (ty := (.array .long)) (by decide)
  have Fl1 : Fld Z h5 b5 "com/example/fewbits/fewbits/store/SegmentHull$Chain" "rises" "[D" .null := D5 (Or.inl (hw _ (List.mem_of_getElem? (i := 21) rfl))) (ty := (.array .double)) (by decide)
  have Fl2 : Fld Z h5 b5 "com/example/fewbits/fewbits/store/SegmentHull$Chain" "size" "I" (.int (0 : Int32)) := D5 (Or.inl (hw _ (List.mem_of_getElem? (i := 32) rfl))) (ty := .int) (by decide)
  have Zl : n0 ≤ h5.size := Nat.le_trans Zp E5.1
  have gl : n0 ≤ b5 := Nat.le_trans Zp (Nat.le_of_eq g5.symm)
  refine Goes.via (S' := T5.setTop (mkF m 20 #[.val (.ref a1)] [(.ref b5), (.ref b5), (.ref a1)])) (fun tz kz => ?_) ?_
  · show Steps p.tables e below (T5.setTop (mkF m 19 #[.val (.ref a1)] [(.ref b5), (.ref a1)])) _
    refine XS.dup X5.here hx rfl (hb hby d1_19) rfl rfl ?_
    exact kz
  obtain ⟨_, ⟨T6, L6, k6, n6⟩, X6, ⟨Lc6, hQ6, l6, y6, z6⟩, st6⟩ := specialRefBack X5 hx hZ (y := (⟨"com/example/fewbits/fewbits/store/SegmentHull$Chain", "<init>", "()V"⟩ : MethodName)) rfl hown (hw _ (List.mem_of_getElem? (i := 12) rfl)) (hw _ (List.mem_of_getElem? (i := 13) rfl)) (mvT hZ (hw _ (List.mem_of_getElem? (i := 13) rfl))) (mvT hZ (hw _ (List.mem_of_getElem? (i := 14) rfl))) (by decide) (backOf (W := 2) (rm3 l Z a0 hw [] b5 h5 n0 Zl Fl0 Fl1 Fl2 A5 gl) hZ (hw _ (List.mem_of_getElem? (i := 14) rfl)) (hw _ (List.mem_of_getElem? (i := 11) rfl)) (by decide) (by decide)) (g := (mkF m 20 #[.val (.ref a1)] [(.ref b5), (.ref b5), (.ref a1)])) rfl (by rw [hml]; rfl) (a := b5) (argsL := []) (rest := [(.ref b5), (.ref a1)]) (lenOf pd_0 rfl) rfl (by show 2 * 0 + _ ≤ _; exact Nat.le_of_eq rfl) (hb hby d1_20) ⟨rfl, e5, (by decide : 4 + 2 ≤ _), (by decide : 38 + 32 ≤ _)⟩
  dsimp only [Pt.U, Pt.locs, Pt.cells, Pt.slots] at X6 l6 y6 z6 st6 hQ6
  subst l6 y6 z6
  obtain ⟨rfl, N6, K6, tl, rl, k1l, k2l, Cl, o1l, o2l, o3l⟩ := hQ6
  have Nf6 := Fr.app N4 N6
  refine Goes.via (S' := T6.setTop (mkF m 23 #[.val (.ref a1)] [(.ref b5), (.ref a1)])) (fun _ kz => st6.trans kz) ?_
  have Zlc := Nat.le_trans Zl K6.1
  have Ec := (Eb.ext E5).keep K6
  have la : @LT.lt Nat _ a1 b5 := Nat.lt_of_lt_of_le Eb.lt (Nat.le_of_eq g5.symm)
  have nl : a1 ≠ b5 := own_lt la
  have lrl : @LT.lt Nat _ ru b5 := Nat.lt_of_lt_of_le (Nat.lt_of_lt_of_le o3u (Nat.le_of_eq W4.size.symm)) (Nat.le_of_eq g5.symm)
  have I1 := (H1.ext E5).keep K6 (ninS nl nin0)
  have I2 := (H2.ext E5).keep K6 (ninS nl nin0)
  have I3 := (H3.ext E5).keep K6 (ninS nl nin0)
  have I4 := (H4.ext E5).keep K6 (ninS nl nin0)
  have Cu3 := (Cu2.ext E5).keep K6 (ninS (own_lt (Nat.lt_trans (Nat.lt_trans lut o2u) lrl)) nin0) (ninS (own_lt (Nat.lt_trans o2u lrl)) nin0) (ninS (own_lt lrl) nin0)
  have llt : @LT.lt Nat _ b5 tl := Nat.lt_of_lt_of_le A5.lt o1l
  obtain ⟨T7, h7, X7, e7, W7, st7⟩ := putF X6 hx hZ hown (host := "") (Or.inl (hw _ (List.mem_of_getElem? (i := 24) rfl))) Via.refl rfl I2 Ec (Or.inr ⟨(hw _ (List.mem_of_getElem? (i := 25) rfl)), rfl, hnm⟩) (hw _ (List.mem_of_getElem? (i := 1) rfl)) (ty := (.object "com/example/fewbits/fewbits/store/SegmentHull$Chain")) (by decide) rfl rfl (g := (mkF m 23 #[.val (.ref a1)] [(.ref b5), (.ref a1)])) rfl rfl (hb hby d1_23)
  refine Goes.via (S' := T7.setTop (mkF m 26 #[.val (.ref a1)] [])) st7 ?_
  have N7 := Fr.snoc X7 Nf6 g1
  have Cu4 := Cu3.other W7 (own_gt lu) (own_gt (Nat.lt_trans lu lut)) (own_gt (Nat.lt_trans (Nat.lt_trans lu lut) o2u))
  have Cl4 := Cl.other W7 (own_gt la) (own_gt (Nat.lt_trans la llt)) (own_gt (Nat.lt_trans (Nat.lt_trans la llt) o2l))
  have J1 := I1.other W7 (Or.inr (slot_ne (Or.inr (hw _ (List.mem_of_getElem? (i := 23) rfl))) (Or.inr (hw _ (List.mem_of_getElem? (i := 25) rfl))) (by decide) (t := (.object "com/example/fewbits/fewbits/store/SegmentHull$Chain")) (t' := (.object "com/example/fewbits/fewbits/store/SegmentHull$Chain")) (by decide) (by decide)))
  have J2 := I2.same W7
  have J3 := I3.other W7 (Or.inr (slot_ne (Or.inl (hw _ (List.mem_of_getElem? (i := 40) rfl))) (Or.inr (hw _ (List.mem_of_getElem? (i := 25) rfl))) (by decide) (t := .long) (t' := (.object "com/example/fewbits/fewbits/store/SegmentHull$Chain")) (by decide) (by decide)))
  have J4 := I4.other W7 (Or.inr (slot_ne (Or.inl (hw _ (List.mem_of_getElem? (i := 42) rfl))) (Or.inr (hw _ (List.mem_of_getElem? (i := 25) rfl))) (by decide) (t := .double) (t' := (.object "com/example/fewbits/fewbits/store/SegmentHull$Chain")) (by decide) (by decide)))
  have K0 : Keep h0 T3.heap [a1] := ((Keep.refl h0 [a1]).ext E2).trans K3 (allS (Or.inr (Nat.le_of_eq g2.symm)) all0)
  have K1 := K0.wr W4 (Or.inl (List.mem_singleton.mpr rfl))
  have K2 := (K1.ext E5).trans K6 (allS (Or.inr (Nat.le_trans K1.1 (Nat.le_of_eq g5.symm))) all0)
  have K3 := K2.wr W7 (Or.inl (List.mem_singleton.mpr rfl))
  exact Goes.retV X7 hx Bd.notSynchronized Bd.returns (hb hby d1_26) (Nat.le_of_ble_eq_true rfl) (Nat.le_of_ble_eq_true rfl) (by rw [e7]; exact ⟨rfl, N7, K3, b2, tu, ru, b5, tl, rl, k1u, k2u, k1l, k2l, ⟨Ec.wr W7, J1, J2, ⟨_, J3⟩, J4, Cu4, Cl4⟩, ⟨g1, lu, lut, o2u, lrl, llt, o2l⟩⟩)
theorem d4_0 : decode prog_35_method_3_code 0 = .ok (.aload_n 0, 1) := by decide +kernel
theorem d4_1 : decode prog_35_method_3_code 1 = .ok (.getfield 10, 3) := by decide +kernel
theorem d4_4 : decode prog_35_method_3_code 4 = .ok (.getfield 30, 3) := by decide +kernel
theorem d4_7 : decode prog_35_method_3_code 7 = .ok (.ldc 34, 2) := by decide +kernel
theorem d4_9 : decode prog_35_method_3_code 9 = .ok (.if_icmp .eq 15, 3) := by decide +kernel
theorem d4_12 : decode prog_35_method_3_code 12 = .ok (.aload_n 0, 1) := by decide +kernel
theorem d4_13 : decode prog_35_method_3_code 13 = .ok (.getfield 16, 3) := by decide +kernel
theorem d4_16 : decode prog_35_method_3_code 16 = .ok (.getfield 30, 3) := by decide +kernel
theorem d4_19 : decode prog_35_method_3_code 19 = .ok (.ldc 34, 2) := by decide +kernel
theorem d4_21 : decode prog_35_method_3_code 21 = .ok (.if_icmp .ne 7, 3) := by decide +kernel
theorem d4_24 : decode prog_35_method_3_code 24 = .ok (.iconst 1, 1) := by decide +kernel
theorem d4_25 : decode prog_35_method_3_code 25 = .ok (.goto 4, 3) := by decide +kernel
theorem d4_28 : decode prog_35_method_3_code 28 = .ok (.iconst 0, 1) := by decide +kernel
theorem d4_29 : decode prog_35_method_3_code 29 = .ok (.ireturn, 1) := by decide +kernel
theorem pn_4 : plainName "com/example/fewbits/fewbits/store/SegmentHull" = true := by first | (simp [plainName, overriddenIn]; done) | decide +kernel
theorem ef_4 (m : MethodId) (x0 : Addr) : entryFrame m #[(.ref x0)] 1 = mkF m 0 #[.val (.ref x0)] [] := by first | (simp [entryFrame, mkF, argsToLocals, Value.category]; done) | rfl
def Q_rm4 (Z : State) (a1 : Addr) (u tu ru l1 tl rl : Addr) (ku1 ku2 kl1 kl2 : ClassId) (tsu rsu : List Value) (nu : Int32) (tsl rsl : List Value) (nl : Int32) (sv : UInt64) (h0 : Heap) (n0 : Nat) : Option Value → Heap → List Loc → Prop := fun v h L => v = some (.int 0) ∧ Fr n0 L ∧ h = h0
set_option maxRecDepth 65536 in
set_option maxHeartbeats 40000000 in
theorem rm4 (l : Launch) (Z : State) (a0 : Array Value) (hw : ∀ d ∈ tables_1, d.before a0 Z = true) (ws : List Jvm.Cond) (a1 : Addr) (u tu ru l1 tl rl : Addr) (ku1 ku2 kl1 kl2 : ClassId) (tsu rsu : List Value) (nu : Int32) (tsl rsl : List Value) (nl : Int32) (sv : UInt64) (h0 : Heap) (n0 : Nat) (Z0 : n0 ≤ h0.size) (H : own_H Z h0 a1 u tu ru l1 tl rl ku1 ku2 kl1 kl2 tsu rsu nu tsl rsl nl sv) (q1 : nu ≠ 65536) (q2 : nl ≠ 65536) :
    MetFree l (⟨"com/example/fewbits/fewbits/store/SegmentHull", "isFull", "()Z"⟩ : MethodName) (head1 (Jvm.Cond.code (⟨"com/example/fewbits/fewbits/store/SegmentHull", "isFull", "()Z"⟩ : MethodName) prog_35_method_3_code 1 (some .boolean) :: ws) ({ frames := 0, cells := 0, slots := 0, locals := 0 } : Room)) (fun a U => a = #[(.ref a1)] ∧ Z.Warmed39 U.vm ∧ U.heap = h0) (fun _ _ _ _ _ => True) (fun _ U oo U' => ∃ vv LL, oo = .returned vv ∧ (Q_rm4 Z a1 u tu ru l1 tl rl ku1 ku2 kl1 kl2 tsu rsu nu tsl rsl nl sv h0 n0) vv U'.heap LL ∧ FrameEnd U oo U' LL ({ frames := 0, cells := 0, slots := 0, locals := 0 } : Room).cells ({ frames := 0, cells := 0, slots := 0, locals := 0 } : Room).slots) := by
  refine MetFree.of_bodySF (plainFor_of_name pn_4) hisR ?_
  intro p e s m args below meth c s₁ Bd hml0 hP hK
  obtain ⟨rfl, hZ, hh⟩ := hP
  have hx := Bd.exec
  have hby := Bd.bytes
  have hml : c.maxLocals = 1 := hml0
  have hown : s.vm.findClass "com/example/fewbits/fewbits/store/SegmentHull" = some m.cls := findClass_of_methodNamed Bd.named
  have hnm := (name_of_methodNamed Bd.named Bd.method).1
  have X0 : Stand p l e ({ frames := 0, cells := 0, slots := 0, locals := 0 } : Room) s m #[(.ref a1)] below meth c s₁ [] 0 0 := Stand.of_body Bd
  have e0 : s₁.heap = h0 := by rw [← hh, Bd.state]; rfl
  have N0 := Fr.nil n0
  show Goes p e below (Fin s (Q_rm4 Z a1 u tu ru l1 tl rl ku1 ku2 kl1 kl2 tsu rsu nu tsl rsl nl sv h0 n0) ({ frames := 0, cells := 0, slots := 0, locals := 0 } : Room).cells ({ frames := 0, cells := 0, slots := 0, locals := 0 } : Room).slots) _
  refine Goes.via (S' := s₁.setTop (mkF m 0 #[.val (.ref a1)] [])) (fun tz kz => castTop (ef_4 m a1 ) kz) ?_
  refine Goes.via (S' := s₁.setTop (mkF m 1 #[.val (.ref a1)] [(.ref a1)])) (fun tz kz => ?_) ?_
  · show Steps p.tables e below (s₁.setTop (mkF m 0 #[.val (.ref a1)] [])) _
    refine XS.aloadN X0.here hx rfl (hb hby d4_0) rfl rfl ?_
    exact kz
  obtain ⟨T1, X1, e1, st1⟩ := getF X0 hx hZ hown (host := "") (Or.inl (hw _ (List.mem_of_getElem? (i := 22) rfl))) Via.refl e0 H.2.1 (g := (mkF m 1 #[.val (.ref a1)] [(.ref a1)])) rfl rfl (hb hby d4_1)
  refine Goes.via (S' := T1.setTop (mkF m 4 #[.val (.ref a1)] [(.ref u)])) st1 ?_
  refine Goes.via (S' := T1.setTop (mkF m 13 #[.val (.ref a1)] [(.ref a1)])) (fun tz kz => ?_) ?_
  · show Steps p.tables e below (T1.setTop (mkF m 4 #[.val (.ref a1)] [(.ref u)])) _
    refine getFR (g := (mkF m 4 #[.val (.ref a1)] [(.ref u)])) X1 hx hZ hown (hw _ (List.mem_of_getElem? (i := 31) rfl)) e1 H.2.2.2.2.2.1.2.2.2.1 rfl rfl (hb hby d4_4) _ ?_
    show Steps p.tables e below (T1.setTop (mkF m 7 #[.val (.ref a1)] [(.int nu)])) _
    refine X1.ldcInt hx hown (mvT hZ (hw _ (List.mem_of_getElem? (i := 33) rfl))) (g := (mkF m 7 #[.val (.ref a1)] [(.int nu)])) rfl (hb hby d4_7) _ ?_
    show Steps p.tables e below (T1.setTop (mkF m 9 #[.val (.ref a1)] [(.int (65536 : Int32)), (.int nu)])) _
    refine XS.icmpNo X1.here hx rfl (hb hby d4_9) rfl (feq q1).1 ?_
    show Steps p.tables e below (T1.setTop (mkF m 12 #[.val (.ref a1)] [])) _
    refine XS.aloadN X1.here hx rfl (hb hby d4_12) rfl rfl ?_
    exact kz
  obtain ⟨T2, X2, e2, st2⟩ := getF X1 hx hZ hown (host := "") (Or.inl (hw _ (List.mem_of_getElem? (i := 24) rfl))) Via.refl e1 H.2.2.1 (g := (mkF m 13 #[.val (.ref a1)] [(.ref a1)])) rfl rfl (hb hby d4_13)
  refine Goes.via (S' := T2.setTop (mkF m 16 #[.val (.ref a1)] [(.ref l1)])) st2 ?_
  refine Goes.via (S' := T2.setTop (mkF m 29 #[.val (.ref a1)] [(.int (0 : Int32))])) (fun tz kz => ?_) ?_
  · show Steps p.tables e below (T2.setTop (mkF m 16 #[.val (.ref a1)] [(.ref l1)])) _
    refine getFR (g := (mkF m 16 #[.val (.ref a1)] [(.ref l1)])) X2 hx hZ hown (hw _ (List.mem_of_getElem? (i := 31) rfl)) e2 H.2.2.2.2.2.2.2.2.2.1 rfl rfl (hb hby d4_16) _ ?_
    show Steps p.tables e below (T2.setTop (mkF m 19 #[.val (.ref a1)] [(.int nl)])) _
    refine X2.ldcInt hx hown (mvT hZ (hw _ (List.mem_of_getElem? (i := 33) rfl))) (g := (mkF m 19 #[.val (.ref a1)] [(.int nl)])) rfl (hb hby d4_19) _ ?_
    show Steps p.tables e below (T2.setTop (mkF m 21 #[.val (.ref a1)] [(.int (65536 : Int32)), (.int nl)])) _
    refine XS.icmpYes X2.here hx rfl (pc0 := 21) (pc' := 28) rfl (hb hby d4_21) rfl (feq q2).2 (by decide) (by decide) ?_
    show Steps p.tables e below (T2.setTop (mkF m 28 #[.val (.ref a1)] [])) _
    refine XS.iconst X2.here hx rfl (hb hby d4_28) ?_
    exact kz
  exact Goes.retN X2 hx Bd.notSynchronized (t := .boolean) Bd.returns (by simp) (hb hby d4_29) (Nat.le_of_ble_eq_true rfl) (Nat.le_of_ble_eq_true rfl) ⟨rfl, N0, e2⟩
theorem d6_0 : decode prog_36_method_2_code 0 = .ok (.aload_n 0, 1) := by decide +kernel
theorem d6_1 : decode prog_36_method_2_code 1 = .ok (.iconst 0, 1) := by decide +kernel
theorem d6_2 : decode prog_36_method_2_code 2 = .ok (.putfield 17, 3) := by decide +kernel
theorem d6_5 : decode prog_36_method_2_code 5 = .ok (.return_, 1) := by decide +kernel
theorem pn_6 : plainName "com/example/fewbits/fewbits/store/SegmentHull$Chain" = true := by first | (simp [plainName, overriddenIn]; done) | decide +kernel
theorem ef_6 (m : MethodId) (x0 : Addr) : entryFrame m #[(.ref x0)] 1 = mkF m 0 #[.val (.ref x0)] [] := by first | (simp [entryFrame, mkF, argsToLocals, Value.category]; done) | rfl
def Q_rm6 (Z : State) (cc : Addr) (tb rb : Addr) (k1 k2 : ClassId) (ts rs : List Value) (n : Int32) (h0 : Heap) (n0 : Nat) : Option Value → Heap → List Loc → Prop := fun v h L => v = none ∧ Fr n0 L ∧ Keep h0 h [cc] ∧ own_C Z h cc tb rb k1 k2 ts rs 0
set_option maxRecDepth 65536 in
set_option maxHeartbeats 40000000 in
theorem rm6 (l : Launch) (Z : State) (a0 : Array Value) (hw : ∀ d ∈ tables_1, d.before a0 Z = true) (ws : List Jvm.Cond) (cc : Addr) (tb rb : Addr) (k1 k2 : ClassId) (ts rs : List Value) (n : Int32) (h0 : Heap) (n0 : Nat) (Z0 : n0 ≤ h0.size) (C0 : own_C Z h0 cc tb rb k1 k2 ts rs n) (g1 : n0 ≤ cc) (q1 : @LT.lt Nat _ cc tb) (q2 : @LT.lt Nat _ tb rb) :
    MetFree l (⟨"com/example/fewbits/fewbits/store/SegmentHull$Chain", "clear", "()V"⟩ : MethodName) (head1 (Jvm.Cond.code (⟨"com/example/fewbits/fewbits/store/SegmentHull$Chain", "clear", "()V"⟩ : MethodName) prog_36_method_2_code 1 none :: ws) ({ frames := 0, cells := 0, slots := 0, locals := 0 } : Room)) (fun a U => a = #[(.ref cc)] ∧ Z.Warmed39 U.vm ∧ U.heap = h0) (fun _ _ _ _ _ => True) (fun _ U oo U' => ∃ vv LL, oo = .returned vv ∧ (Q_rm6 Z cc tb rb k1 k2 ts rs n h0 n0) vv U'.heap LL ∧ FrameEnd U oo U' LL ({ frames := 0, cells := 0, slots := 0, locals := 0 } : Room).cells ({ frames := 0, cells := 0, slots := 0, locals := 0 } : Room).slots) := by
  refine MetFree.of_bodySF (plainFor_of_name pn_6) hisR ?_
  intro p e s m args below meth c s₁ Bd hml0 hP hK
  obtain ⟨rfl, hZ, hh⟩ := hP
  have hx := Bd.exec
  have hby := Bd.bytes
  have hml : c.maxLocals = 1 := hml0
  have hown : s.vm.findClass "com/example/fewbits/fewbits/store/SegmentHull$Chain" = some m.cls := findClass_of_methodNamed Bd.named
  have hnm := (name_of_methodNamed Bd.named Bd.method).1
  have X0 : Stand p l e ({ frames := 0, cells := 0, slots := 0, locals := 0 } : Room) s m #[(.ref cc)] below meth c s₁ [] 0 0 := Stand.of_body Bd
  have e0 : s₁.heap = h0 := by rw [← hh, Bd.state]; rfl
  have N0 := Fr.nil n0
  show Goes p e below (Fin s (Q_rm6 Z cc tb rb k1 k2 ts rs n h0 n0) ({ frames := 0, cells := 0, slots := 0, locals := 0 } : Room).cells ({ frames := 0, cells := 0, slots := 0, locals := 0 } : Room).slots) _
  refine Goes.via (S' := s₁.setTop (mkF m 0 #[.val (.ref cc)] [])) (fun tz kz => castTop (ef_6 m cc ) kz) ?_
  refine Goes.via (S' := s₁.setTop (mkF m 2 #[.val (.ref cc)] [(.int (0 : Int32)), (.ref cc)])) (fun tz kz => ?_) ?_
  · show Steps p.tables e below (s₁.setTop (mkF m 0 #[.val (.ref cc)] [])) _
    refine XS.aloadN X0.here hx rfl (hb hby d6_0) rfl rfl ?_
    show Steps p.tables e below (s₁.setTop (mkF m 1 #[.val (.ref cc)] [(.ref cc)])) _
    refine XS.iconst X0.here hx rfl (hb hby d6_1) ?_
    exact kz
  obtain ⟨T1, h1, X1, e1, W1, st1⟩ := putF X0 hx hZ hown (host := "") (Or.inl (hw _ (List.mem_of_getElem? (i := 48) rfl))) Via.refl e0 C0.2.2.2.1 C0.1 (Or.inl (hw _ (List.mem_of_getElem? (i := 32) rfl))) (hw _ (List.mem_of_getElem? (i := 10) rfl)) (ty := .int) (by decide) rfl rfl (g := (mkF m 2 #[.val (.ref cc)] [(.int (0 : Int32)), (.ref cc)])) rfl rfl (hb hby d6_2)
  refine Goes.via (S' := T1.setTop (mkF m 5 #[.val (.ref cc)] [])) st1 ?_
  have N1 := Fr.snoc X1 N0 g1
  have C1 : own_C Z h1 cc tb rb k1 k2 _ _ _ := ⟨C0.1.wr W1, C0.2.1.other W1 (Or.inr (slot_ne (Or.inl (hw _ (List.mem_of_getElem? (i := 18) rfl))) (Or.inl (hw _ (List.mem_of_getElem? (i := 32) rfl))) (by decide) (t := (.array .long)) (t' := .int) (by decide) (by decide))), C0.2.2.1.other W1 (Or.inr (slot_ne (Or.inl (hw _ (List.mem_of_getElem? (i := 21) rfl))) (Or.inl (hw _ (List.mem_of_getElem? (i := 32) rfl))) (by decide) (t := (.array .double)) (t' := .int) (by decide) (by decide))), C0.2.2.2.1.same W1, C0.2.2.2.2.1.other W1 (own_gt q1), C0.2.2.2.2.2.other W1 (own_gt (Nat.lt_trans q1 q2))⟩
  exact Goes.retV X1 hx Bd.notSynchronized Bd.returns (hb hby d6_5) (Nat.le_of_ble_eq_true rfl) (Nat.le_of_ble_eq_true rfl) (by rw [e1]; exact ⟨rfl, N1, (Keep.refl h0 [cc]).wr W1 (Or.inl (List.mem_singleton.mpr rfl)), C1⟩)
theorem d5_0 : decode prog_35_method_2_code 0 = .ok (.aload_n 0, 1) := by decide +kernel
theorem d5_1 : decode prog_35_method_2_code 1 = .ok (.lload_n 1, 1) := by decide +kernel
theorem d5_2 : decode prog_35_method_2_code 2 = .ok (.putfield 19, 3) := by decide +kernel
theorem d5_5 : decode prog_35_method_2_code 5 = .ok (.aload_n 0, 1) := by decide +kernel
theorem d5_6 : decode prog_35_method_2_code 6 = .ok (.dload_n 3, 1) := by decide +kernel
theorem d5_7 : decode prog_35_method_2_code 7 = .ok (.putfield 23, 3) := by decide +kernel
theorem d5_10 : decode prog_35_method_2_code 10 = .ok (.aload_n 0, 1) := by decide +kernel
theorem d5_11 : decode prog_35_method_2_code 11 = .ok (.getfield 10, 3) := by decide +kernel
theorem d5_14 : decode prog_35_method_2_code 14 = .ok (.invokevirtual 27, 3) := by decide +kernel
theorem d5_17 : decode prog_35_method_2_code 17 = .ok (.aload_n 0, 1) := by decide +kernel
theorem d5_18 : decode prog_35_method_2_code 18 = .ok (.getfield 16, 3) := by decide +kernel
theorem d5_21 : decode prog_35_method_2_code 21 = .ok (.invokevirtual 27, 3) := by decide +kernel
theorem d5_24 : decode prog_35_method_2_code 24 = .ok (.return_, 1) := by decide +kernel
theorem pn_5 : plainName "com/example/fewbits/fewbits/store/SegmentHull" = true := by first | (simp [plainName, overriddenIn]; done) | decide +kernel
theorem ef_5 (m : MethodId) (x0 : Addr) (x1 : Int64) (x2 : UInt64) : entryFrame m #[(.ref x0), (.long x1), (.double x2)] 5 = mkF m 0 #[.val (.ref x0), .val (.long x1), .second, .val (.double x2), .second] [] := by first | (simp [entryFrame, mkF, argsToLocals, Value.category]; done) | rfl
def Q_rm5 (Z : State) (a1 : Addr) (p2 : Int64) (p3 : UInt64) (u tu ru l1 tl rl : Addr) (ku1 ku2 kl1 kl2 : ClassId) (tsu rsu : List Value) (nu : Int32) (tsl rsl : List Value) (nl : Int32) (sv : UInt64) (h0 : Heap) (n0 : Nat) : Option Value → Heap → List Loc → Prop := fun v h L => v = none ∧ Fr n0 L ∧ Keep h0 h [a1, u, l1] ∧ own_H Z h a1 u tu ru l1 tl rl ku1 ku2 kl1 kl2 tsu rsu 0 tsl rsl 0 p3
set_option maxRecDepth 65536 in
set_option maxHeartbeats 40000000 in
theorem rm5 (l : Launch) (Z : State) (a0 : Array Value) (hw : ∀ d ∈ tables_1, d.before a0 Z = true) (ws : List Jvm.Cond) (a1 : Addr) (p2 : Int64) (p3 : UInt64) (u tu ru l1 tl rl : Addr) (ku1 ku2 kl1 kl2 : ClassId) (tsu rsu : List Value) (nu : Int32) (tsl rsl : List Value) (nl : Int32) (sv : UInt64) (h0 : Heap) (n0 : Nat) (Z0 : n0 ≤ h0.size) (H : own_H Z h0 a1 u tu ru l1 tl rl ku1 ku2 kl1 kl2 tsu rsu nu tsl rsl nl sv) (O : own_O n0 a1 u tu ru l1 tl rl) :
    MetFree l (⟨"com/example/fewbits/fewbits/store/SegmentHull", "start", "(JD)V"⟩ : MethodName) (head1 (Jvm.Cond.code (⟨"com/example/fewbits/fewbits/store/SegmentHull", "start", "(JD)V"⟩ : MethodName) prog_35_method_2_code 5 none :: ws) ({ frames := 1, cells := 0, slots := 0, locals := 14 } : Room)) (fun a U => a = #[(.ref a1), (.long p2), (.double p3)] ∧ Z.Warmed39 U.vm ∧ U.heap = h0) (fun _ _ _ _ _ => True) (fun _ U oo U' => ∃ vv LL, oo = .returned vv ∧ (Q_rm5 Z a1 p2 p3 u tu ru l1 tl rl ku1 ku2 kl1 kl2 tsu rsu nu tsl rsl nl sv h0 n0) vv U'.heap LL ∧ FrameEnd U oo U' LL ({ frames := 1, cells := 0, slots := 0, locals := 14 } : Room).cells ({ frames := 1, cells := 0, slots := 0, locals := 14 } : Room).slots) := by
  refine MetFree.of_bodySF (plainFor_of_name pn_5) hisR ?_
  intro p e s m args below meth c s₁ Bd hml0 hP hK
  obtain ⟨rfl, hZ, hh⟩ := hP
  have hx := Bd.exec
  have hby := Bd.bytes
  have hml : c.maxLocals = 5 := hml0
  have hown : s.vm.findClass "com/example/fewbits/fewbits/store/SegmentHull" = some m.cls := findClass_of_methodNamed Bd.named
  have hnm := (name_of_methodNamed Bd.named Bd.method).1
  have X0 : Stand p l e ({ frames := 1, cells := 0, slots := 0, locals := 14 } : Room) s m #[(.ref a1), (.long p2), (.double p3)] below meth c s₁ [] 0 0 := Stand.of_body Bd
  have e0 : s₁.heap = h0 := by rw [← hh, Bd.state]; rfl
  have N0 := Fr.nil n0
  obtain ⟨⟨xT, HT⟩, -⟩ := And.intro H.2.2.2.1 trivial
  have o1 := O.2.1; have o2 := O.2.2.1; have o3 := O.2.2.2.1; have o4 := O.2.2.2.2.1; have o5 := O.2.2.2.2.2.1; have o6 := O.2.2.2.2.2.2
  show Goes p e below (Fin s (Q_rm5 Z a1 p2 p3 u tu ru l1 tl rl ku1 ku2 kl1 kl2 tsu rsu nu tsl rsl nl sv h0 n0) ({ frames := 1, cells := 0, slots := 0, locals := 14 } : Room).cells ({ frames := 1, cells := 0, slots := 0, locals := 14 } : Room).slots) _
  refine Goes.via (S' := s₁.setTop (mkF m 0 #[.val (.ref a1), .val (.long p2), .second, .val (.double p3), .second] [])) (fun tz kz => castTop (ef_5 m a1 p2 p3 ) kz) ?_
  refine Goes.via (S' := s₁.setTop (mkF m 2 #[.val (.ref a1), .val (.long p2), .second, .val (.double p3), .second] [(.long p2), (.ref a1)])) (fun tz kz => ?_) ?_
  · show Steps p.tables e below (s₁.setTop (mkF m 0 #[.val (.ref a1), .val (.long p2), .second, .val (.double p3), .second] [])) _
    refine XS.aloadN X0.here hx rfl (hb hby d5_0) rfl rfl ?_
    show Steps p.tables e below (s₁.setTop (mkF m 1 #[.val (.ref a1), .val (.long p2), .second, .val (.double p3), .second] [(.ref a1)])) _
    refine XS.lloadN X0.here hx rfl (hb hby d5_1) rfl ?_
    exact kz
  obtain ⟨T1, h1, X1, e1, W1, st1⟩ := putF X0 hx hZ hown (host := "") (Or.inl (hw _ (List.mem_of_getElem? (i := 39) rfl))) Via.refl e0 HT H.1 (Or.inl (hw _ (List.mem_of_getElem? (i := 40) rfl))) (hw _ (List.mem_of_getElem? (i := 1) rfl)) (ty := .long) (by decide) rfl rfl (g := (mkF m 2 #[.val (.ref a1), .val (.long p2), .second, .val (.double p3), .second] [(.long p2), (.ref a1)])) rfl rfl (hb hby d5_2)
  refine Goes.via (S' := T1.setTop (mkF m 5 #[.val (.ref a1), .val (.long p2), .second, .val (.double p3), .second] [])) st1 ?_
  have N1 := Fr.snoc X1 N0 O.1
  have Ea := H.1.wr W1
  have U1 := H.2.1.other W1 (Or.inr (slot_ne (Or.inr (hw _ (List.mem_of_getElem? (i := 23) rfl))) (Or.inl (hw _ (List.mem_of_getElem? (i := 40) rfl))) (by decide) (t := (.object "com/example/fewbits/fewbits/store/SegmentHull$Chain")) (t' := .long) (by decide) (by decide)))
  have L1 := H.2.2.1.other W1 (Or.inr (slot_ne (Or.inr (hw _ (List.mem_of_getElem? (i := 25) rfl))) (Or.inl (hw _ (List.mem_of_getElem? (i := 40) rfl))) (by decide) (t := (.object "com/example/fewbits/fewbits/store/SegmentHull$Chain")) (t' := .long) (by decide) (by decide)))
  have V1 := H.2.2.2.2.1.other W1 (Or.inr (slot_ne (Or.inl (hw _ (List.mem_of_getElem? (i := 42) rfl))) (Or.inl (hw _ (List.mem_of_getElem? (i := 40) rfl))) (by decide) (t := .double) (t' := .long) (by decide) (by decide)))
  have T1' := HT.same W1
  have Cu1 := H.2.2.2.2.2.1.other W1 (own_gt O.2.1) (own_gt (by omega)) (own_gt (by omega))
  have Cl1 := H.2.2.2.2.2.2.other W1 (own_gt (by omega)) (own_gt (by omega)) (own_gt (by omega))
  refine Goes.via (S' := T1.setTop (mkF m 7 #[.val (.ref a1), .val (.long p2), .second, .val (.double p3), .second] [(.double p3), (.ref a1)])) (fun tz kz => ?_) ?_
  · show Steps p.tables e below (T1.setTop (mkF m 5 #[.val (.ref a1), .val (.long p2), .second, .val (.double p3), .second] [])) _
    refine XS.aloadN X1.here hx rfl (hb hby d5_5) rfl rfl ?_
    show Steps p.tables e below (T1.setTop (mkF m 6 #[.val (.ref a1), .val (.long p2), .second, .val (.double p3), .second] [(.ref a1)])) _
    refine XS.dloadN X1.here hx rfl (hb hby d5_6) rfl ?_
    exact kz
  obtain ⟨T2, h2, X2, e2, W2, st2⟩ := putF X1 hx hZ hown (host := "") (Or.inl (hw _ (List.mem_of_getElem? (i := 41) rfl))) Via.refl e1 V1 Ea (Or.inl (hw _ (List.mem_of_getElem? (i := 42) rfl))) (hw _ (List.mem_of_getElem? (i := 1) rfl)) (ty := .double) (by decide) rfl rfl (g := (mkF m 7 #[.val (.ref a1), .val (.long p2), .second, .val (.double p3), .second] [(.double p3), (.ref a1)])) rfl rfl (hb hby d5_7)
  refine Goes.via (S' := T2.setTop (mkF m 10 #[.val (.ref a1), .val (.long p2), .second, .val (.double p3), .second] [])) st2 ?_
  have N2 := Fr.snoc X2 N1 O.1
  have Eb := Ea.wr W2
  have U2 := U1.other W2 (Or.inr (slot_ne (Or.inr (hw _ (List.mem_of_getElem? (i := 23) rfl))) (Or.inl (hw _ (List.mem_of_getElem? (i := 42) rfl))) (by decide) (t := (.object "com/example/fewbits/fewbits/store/SegmentHull$Chain")) (t' := .double) (by decide) (by decide)))
  have L2 := L1.other W2 (Or.inr (slot_ne (Or.inr (hw _ (List.mem_of_getElem? (i := 25) rfl))) (Or.inl (hw _ (List.mem_of_getElem? (i := 42) rfl))) (by decide) (t := (.object "com/example/fewbits/fewbits/store/SegmentHull$Chain")) (t' := .double) (by decide) (by decide)))
  have T2' := T1'.other W2 (Or.inr (slot_ne (Or.inl (hw _ (List.mem_of_getElem? (i := 40) rfl))) (Or.inl (hw _ (List.mem_of_getElem? (i := 42) rfl))) (by decide) (t := .long) (t' := .double) (by decide) (by decide)))
  have V2 := V1.same W2
  have Cu2 := Cu1.other W2 (own_gt O.2.1) (own_gt (by omega)) (own_gt (by omega))
  have Cl2 := Cl1.other W2 (own_gt (by omega)) (own_gt (by omega)) (own_gt (by omega))
  have K2 : Keep h0 h2 [a1, u, l1] := ((Keep.refl h0 [a1, u, l1]).wr W1 (Or.inl (by simp))).wr W2 (Or.inl (by simp))
  refine Goes.via (S' := T2.setTop (mkF m 11 #[.val (.ref a1), .val (.long p2), .second, .val (.double p3), .second] [(.ref a1)])) (fun tz kz => ?_) ?_
  · show Steps p.tables e below (T2.setTop (mkF m 10 #[.val (.ref a1), .val (.long p2), .second, .val (.double p3), .second] [])) _
    refine XS.aloadN X2.here hx rfl (hb hby d5_10) rfl rfl ?_
    exact kz
  obtain ⟨T3, X3, e3, st3⟩ := getF X2 hx hZ hown (host := "") (Or.inl (hw _ (List.mem_of_getElem? (i := 22) rfl))) Via.refl e2 U2 (g := (mkF m 11 #[.val (.ref a1), .val (.long p2), .second, .val (.double p3), .second] [(.ref a1)])) rfl rfl (hb hby d5_11)
  refine Goes.via (S' := T3.setTop (mkF m 14 #[.val (.ref a1), .val (.long p2), .second, .val (.double p3), .second] [(.ref u)])) st3 ?_
  obtain ⟨cq4, kq4, q4a, q4b, q4c⟩ := isOf hZ e3 Cu2.1
  obtain ⟨_, _, ⟨T4, L4, k4, n4⟩, -, X4, ⟨Lc4, hQ4, l4, y4, z4⟩, st4⟩ := X3.virtualBack hx (y := (⟨"com/example/fewbits/fewbits/store/SegmentHull$Chain", "clear", "()V"⟩ : MethodName)) (z := (⟨"com/example/fewbits/fewbits/store/SegmentHull$Chain", "clear", "()V"⟩ : MethodName)) hown (mvT hZ (hw _ (List.mem_of_getElem? (i := 43) rfl))) (mvT hZ (hw _ (List.mem_of_getElem? (i := 44) rfl))) (notFace_of_selects (args := #[]) (mvT hZ (hw _ (List.mem_of_getElem? (i := 46) rfl)))) (mvT hZ (hw _ (List.mem_of_getElem? (i := 46) rfl))) (mvT hZ (hw _ (List.mem_of_getElem? (i := 45) rfl))) (by decide) (backOf (W := 0) (rm6 l Z a0 hw [] u tu ru ku1 ku2 tsu rsu nu h2 n0 (Nat.le_trans Z0 K2.1) Cu2 (Nat.le_trans O.1 (Nat.le_of_lt O.2.1)) O.2.2.1 O.2.2.2.1) hZ (hw _ (List.mem_of_getElem? (i := 47) rfl)) (hw _ (List.mem_of_getElem? (i := 11) rfl)) (by decide) (by decide)) q4a q4c (g := (mkF m 14 #[.val (.ref a1), .val (.long p2), .second, .val (.double p3), .second] [(.ref u)])) rfl (by rw [hml]; rfl) (Steps.refl _) (argsL := []) (rest := []) (lenOf pd_0 rfl) rfl (by show 2 * 0 + _ ≤ _; exact Nat.le_of_eq rfl) (hb hby d5_14) (fun _ _ => ⟨rfl, e3, (by decide : 0 + 0 ≤ _), (by decide : 0 + 0 ≤ _)⟩)
  dsimp only [Pt.U, Pt.locs, Pt.cells, Pt.slots] at X4 l4 y4 z4 st4 hQ4
  subst l4 y4 z4
  obtain ⟨rfl, N4, K4, C4⟩ := hQ4
  have Nf4 := Fr.app N2 N4
  refine Goes.via (S' := T4.setTop (mkF m 17 #[.val (.ref a1), .val (.long p2), .second, .val (.double p3), .second] [])) (fun _ kz => st4.trans kz) ?_
  have Ec := Eb.keep K4
  have U3 := U2.keep K4 (ninS (own_lt O.2.1) nin0)
  have L3 := L2.keep K4 (ninS (own_lt O.2.1) nin0)
  have T3' := T2'.keep K4 (ninS (own_lt O.2.1) nin0)
  have V3 := V2.keep K4 (ninS (own_lt O.2.1) nin0)
  have Cl3 := Cl2.keep K4 (ninS (own_gt (by omega)) nin0) (ninS (own_gt (by omega)) nin0) (ninS (own_gt (by omega)) nin0)
  have K3 := K2.trans K4 (allS (Or.inl (by simp)) all0)
  refine Goes.via (S' := T4.setTop (mkF m 18 #[.val (.ref a1), .val (.long p2), .second, .val (.double p3), .second] [(.ref a1)])) (fun tz kz => ?_) ?_
  · show Steps p.tables e below (T4.setTop (mkF m 17 #[.val (.ref a1), .val (.long p2), .second, .val (.double p3), .second] [])) _
    refine XS.aloadN X4.here hx rfl (hb hby d5_17) rfl rfl ?_
    exact kz
  obtain ⟨T5, X5, e5, st5⟩ := getF X4 hx hZ hown (host := "") (Or.inl (hw _ (List.mem_of_getElem? (i := 24) rfl))) Via.refl rfl L3 (g := (mkF m 18 #[.val (.ref a1), .val (.long p2), .second, .val (.double p3), .second] [(.ref a1)])) rfl rfl (hb hby d5_18)
  refine Goes.via (S' := T5.setTop (mkF m 21 #[.val (.ref a1), .val (.long p2), .second, .val (.double p3), .second] [(.ref l1)])) st5 ?_
  obtain ⟨cq6, kq6, q6a, q6b, q6c⟩ := isOf hZ e5 Cl3.1
  obtain ⟨_, _, ⟨T6, L6, k6, n6⟩, -, X6, ⟨Lc6, hQ6, l6, y6, z6⟩, st6⟩ := X5.virtualBack hx (y := (⟨"com/example/fewbits/fewbits/store/SegmentHull$Chain", "clear", "()V"⟩ : MethodName)) (z := (⟨"com/example/fewbits/fewbits/store/SegmentHull$Chain", "clear", "()V"⟩ : MethodName)) hown (mvT hZ (hw _ (List.mem_of_getElem? (i := 43) rfl))) (mvT hZ (hw _ (List.mem_of_getElem? (i := 44) rfl))) (notFace_of_selects (args := #[]) (mvT hZ (hw _ (List.mem_of_getElem? (i := 46) rfl)))) (mvT hZ (hw _ (List.mem_of_getElem? (i := 46) rfl))) (mvT hZ (hw _ (List.mem_of_getElem? (i := 45) rfl))) (by decide) (backOf (W := 0) (rm6 l Z a0 hw [] l1 tl rl kl1 kl2 tsl rsl nl T4.heap n0 (Nat.le_trans Z0 K3.1) Cl3 (Nat.le_trans O.1 (by omega)) O.2.2.2.2.2.1 O.2.2.2.2.2.2) hZ (hw _ (List.mem_of_getElem? (i := 47) rfl)) (hw _ (List.mem_of_getElem? (i := 11) rfl)) (by decide) (by decide)) q6a q6c (g := (mkF m 21 #[.val (.ref a1), .val (.long p2), .second, .val (.double p3), .second] [(.ref l1)])) rfl (by rw [hml]; rfl) (Steps.refl _) (argsL := []) (rest := []) (lenOf pd_0 rfl) rfl (by show 2 * 0 + _ ≤ _; exact Nat.le_of_eq rfl) (hb hby d5_21) (fun _ _ => ⟨rfl, e5, (by decide : 0 + 0 ≤ _), (by decide : 0 + 0 ≤ _)⟩)
  dsimp only [Pt.U, Pt.locs, Pt.cells, Pt.slots] at X6 l6 y6 z6 st6 hQ6
  subst l6 y6 z6
  obtain ⟨rfl, N6, K6, C6⟩ := hQ6
  have Nf6 := Fr.app Nf4 N6
  refine Goes.via (S' := T6.setTop (mkF m 24 #[.val (.ref a1), .val (.long p2), .second, .val (.double p3), .second] [])) (fun _ kz => st6.trans kz) ?_
  have Ed := Ec.keep K6
  have U4 := U3.keep K6 (ninS (own_lt (by omega)) nin0)
  have L4 := L3.keep K6 (ninS (own_lt (by omega)) nin0)
  have T4' := T3'.keep K6 (ninS (own_lt (by omega)) nin0)
  have V4 := V3.keep K6 (ninS (own_lt (by omega)) nin0)
  have Cu4 := C4.keep K6 (ninS (own_lt (by omega)) nin0) (ninS (own_lt (by omega)) nin0) (ninS (own_lt (by omega)) nin0)
  have K4 := K3.trans K6 (allS (Or.inl (by simp)) all0)
  exact Goes.retV X6 hx Bd.notSynchronized Bd.returns (hb hby d5_24) (Nat.le_of_ble_eq_true rfl) (Nat.le_of_ble_eq_true rfl) ⟨rfl, Nf6, K4, Ed, U4, L4, ⟨_, T4'⟩, V4, Cu4, C6⟩
theorem d10_0 : decode prog_35_method_6_code 0 = .ok (.lload_n 2, 1) := by decide +kernel
theorem d10_1 : decode prog_35_method_6_code 1 = .ok (.lload_n 0, 1) := by decide +kernel
theorem d10_2 : decode prog_35_method_6_code 2 = .ok (.lsub, 1) := by decide +kernel
theorem d10_3 : decode prog_35_method_6_code 3 = .ok (.lstore 4, 2) := by decide +kernel
theorem d10_5 : decode prog_35_method_6_code 5 = .ok (.lload 4, 2) := by decide +kernel
theorem d10_7 : decode prog_35_method_6_code 7 = .ok (.lconst 0, 1) := by decide +kernel
theorem d10_8 : decode prog_35_method_6_code 8 = .ok (.lcmp, 1) := by decide +kernel
theorem d10_9 : decode prog_35_method_6_code 9 = .ok (.ifCond .lt 9, 3) := by decide +kernel
theorem d10_12 : decode prog_35_method_6_code 12 = .ok (.lload 4, 2) := by decide +kernel
theorem d10_14 : decode prog_35_method_6_code 14 = .ok (.l2d, 1) := by decide +kernel
theorem d10_15 : decode prog_35_method_6_code 15 = .ok (.goto 10, 3) := by decide +kernel
theorem d10_18 : decode prog_35_method_6_code 18 = .ok (.ldc2_w 53, 3) := by decide +kernel
theorem d10_21 : decode prog_35_method_6_code 21 = .ok (.lload 4, 2) := by decide +kernel
theorem d10_23 : decode prog_35_method_6_code 23 = .ok (.l2d, 1) := by decide +kernel
theorem d10_24 : decode prog_35_method_6_code 24 = .ok (.dadd, 1) := by decide +kernel
theorem d10_25 : decode prog_35_method_6_code 25 = .ok (.dreturn, 1) := by decide +kernel
theorem pn_10 : plainName "com/example/fewbits/fewbits/store/SegmentHull" = true := by first | (simp [plainName, overriddenIn]; done) | decide +kernel
theorem ef_10 (m : MethodId) (x0 : Int64) (x1 : Int64) : entryFrame m #[(.long x0), (.long x1)] 6 = mkF m 0 #[.val (.long x0), .second, .val (.long x1), .second, .unset, .unset] [] := by first | (simp [entryFrame, mkF, argsToLocals, Value.category]; done) | rfl
def Q_rm10 (Z : State) (p1 : Int64) (p2 : Int64)  (h0 : Heap) (n0 : Nat) : Option Value → Heap → List Loc → Prop := fun v h L => v = some (.double (FP.l2d (p2 - p1))) ∧ Fr n0 L ∧ h = h0
set_option maxRecDepth 65536 in
set_option maxHeartbeats 40000000 in
theorem rm10 (l : Launch) (Z : State) (a0 : Array Value) (hw : ∀ d ∈ tables_1, d.before a0 Z = true) (ws : List Jvm.Cond) (p1 : Int64) (p2 : Int64)  (h0 : Heap) (n0 : Nat) (Z0 : n0 ≤ h0.size) (hd : own_later p1 p2) :
    MetFree l (⟨"com/example/fewbits/fewbits/store/SegmentHull", "span", "(JJ)D"⟩ : MethodName) (head1 (Jvm.Cond.code (⟨"com/example/fewbits/fewbits/store/SegmentHull", "span", "(JJ)D"⟩ : MethodName) prog_35_method_6_code 6 (some .double) :: ws) ({ frames := 0, cells := 0, slots := 0, locals := 0 } : Room)) (fun a U => a = #[(.long p1), (.long p2)] ∧ Z.Warmed39 U.vm ∧ U.heap = h0) (fun _ _ _ _ _ => True) (fun _ U oo U' => ∃ vv LL, oo = .returned vv ∧ (Q_rm10 Z p1 p2 h0 n0) vv U'.heap LL ∧ FrameEnd U oo U' LL ({ frames := 0, cells := 0, slots := 0, locals := 0 } : Room).cells ({ frames := 0, cells := 0, slots := 0, locals := 0 } : Room).slots) := by
  refine MetFree.of_bodySF (plainFor_of_name pn_10) hisR ?_
  intro p e s m args below meth c s₁ Bd hml0 hP hK
  obtain ⟨rfl, hZ, hh⟩ := hP
  have hx := Bd.exec
  have hby := Bd.bytes
  have hml : c.maxLocals = 6 := hml0
  have hown : s.vm.findClass "com/example/fewbits/fewbits/store/SegmentHull" = some m.cls := findClass_of_methodNamed Bd.named
  have hnm := (name_of_methodNamed Bd.named Bd.method).1
  have X0 : Stand p l e ({ frames := 0, cells := 0, slots := 0, locals := 0 } : Room) s m #[(.long p1), (.long p2)] below meth c s₁ [] 0 0 := Stand.of_body Bd
  have e0 : s₁.heap = h0 := by rw [← hh, Bd.state]; rfl
  have N0 := Fr.nil n0
  show Goes p e below (Fin s (Q_rm10 Z p1 p2 h0 n0) ({ frames := 0, cells := 0, slots := 0, locals := 0 } : Room).cells ({ frames := 0, cells := 0, slots := 0, locals := 0 } : Room).slots) _
  refine Goes.via (S' := s₁.setTop (mkF m 0 #[.val (.long p1), .second, .val (.long p2), .second, .unset, .unset] [])) (fun tz kz => castTop (ef_10 m p1 p2 ) kz) ?_
  refine Goes.via (S' := s₁.setTop (mkF m 25 #[.val (.long p1), .second, .val (.long p2), .second, .val (.long (p2 - p1)), .second] [(.double (FP.l2d (p2 - p1)))])) (fun tz kz => ?_) ?_
  · show Steps p.tables e below (s₁.setTop (mkF m 0 #[.val (.long p1), .second, .val (.long p2), .second, .unset, .unset] [])) _
    refine XS.lloadN X0.here hx rfl (hb hby d10_0) rfl ?_
    show Steps p.tables e below (s₁.setTop (mkF m 1 #[.val (.long p1), .second, .val (.long p2), .second, .unset, .unset] [(.long p2)])) _
    refine XS.lloadN X0.here hx rfl (hb hby d10_1) rfl ?_
    show Steps p.tables e below (s₁.setTop (mkF m 2 #[.val (.long p1), .second, .val (.long p2), .second, .unset, .unset] [(.long p1), (.long p2)])) _
    refine XS.lsub X0.here hx rfl (hb hby d10_2) rfl ?_
    show Steps p.tables e below (s₁.setTop (mkF m 3 #[.val (.long p1), .second, .val (.long p2), .second, .unset, .unset] [(.long (p2 - p1))])) _
    refine XS.lstore X0.here hx rfl (hb hby d10_3) rfl (l' := #[.val (.long p1), .second, .val (.long p2), .second, .val (.long (p2 - p1)), .second]) rfl ?_
    show Steps p.tables e below (s₁.setTop (mkF m 5 #[.val (.long p1), .second, .val (.long p2), .second, .val (.long (p2 - p1)), .second] [])) _
    refine XS.lload X0.here hx rfl (hb hby d10_5) rfl ?_
    show Steps p.tables e below (s₁.setTop (mkF m 7 #[.val (.long p1), .second, .val (.long p2), .second, .val (.long (p2 - p1)), .second] [(.long (p2 - p1))])) _
    refine XS.lconst X0.here hx rfl (hb hby d10_7) ?_
    show Steps p.tables e below (s₁.setTop (mkF m 8 #[.val (.long p1), .second, .val (.long p2), .second, .val (.long (p2 - p1)), .second] [(.long (0 : Int64)), (.long (p2 - p1))])) _
    refine XS.lcmp X0.here hx rfl (hb hby d10_8) rfl ?_
    show Steps p.tables e below (s₁.setTop (mkF m 9 #[.val (.long p1), .second, .val (.long p2), .second, .val (.long (p2 - p1)), .second] [(.int (lcmpW (p2 - p1) (0 : Int64)))])) _
    refine XS.ifNo X0.here hx rfl (hb hby d10_9) rfl ((if0 _ _).trans (flt (mt (lw_lt _ _).mp hd.1)).1) ?_
    show Steps p.tables e below (s₁.setTop (mkF m 12 #[.val (.long p1), .second, .val (.long p2), .second, .val (.long (p2 - p1)), .second] [])) _
    refine XS.lload X0.here hx rfl (hb hby d10_12) rfl ?_
    show Steps p.tables e below (s₁.setTop (mkF m 14 #[.val (.long p1), .second, .val (.long p2), .second, .val (.long (p2 - p1)), .second] [(.long (p2 - p1))])) _
    refine XS.l2dS X0.here hx rfl (hb hby d10_14) rfl (v := FP.l2d (p2 - p1)) rfl ?_
    show Steps p.tables e below (s₁.setTop (mkF m 15 #[.val (.long p1), .second, .val (.long p2), .second, .val (.long (p2 - p1)), .second] [(.double (FP.l2d (p2 - p1)))])) _
    refine XS.goto X0.here hx rfl (pc0 := 15) (pc' := 25) rfl (hb hby d10_15) (by decide) (by decide) ?_
    exact kz
  exact Goes.retO X0 hx Bd.notSynchronized Bd.returns rfl (Or.inr (Or.inr (Or.inl ⟨rfl, rfl, _, rfl⟩))) (hb hby d10_25) (Nat.le_of_ble_eq_true rfl) (Nat.le_of_ble_eq_true rfl) ⟨rfl, N0, e0⟩
theorem d9_0 : decode prog_36_method_4_code 0 = .ok (.dload 4, 2) := by decide +kernel
theorem d9_2 : decode prog_36_method_4_code 2 = .ok (.aload_n 0, 1) := by decide +kernel
theorem d9_3 : decode prog_36_method_4_code 3 = .ok (.getfield 13, 3) := by decide +kernel
theorem d9_6 : decode prog_36_method_4_code 6 = .ok (.iload_n 1, 1) := by decide +kernel
theorem d9_7 : decode prog_36_method_4_code 7 = .ok (.daload, 1) := by decide +kernel
theorem d9_8 : decode prog_36_method_4_code 8 = .ok (.dsub, 1) := by decide +kernel
theorem d9_9 : decode prog_36_method_4_code 9 = .ok (.aload_n 0, 1) := by decide +kernel
theorem d9_10 : decode prog_36_method_4_code 10 = .ok (.getfield 7, 3) := by decide +kernel
theorem d9_13 : decode prog_36_method_4_code 13 = .ok (.iload_n 1, 1) := by decide +kernel
theorem d9_14 : decode prog_36_method_4_code 14 = .ok (.laload, 1) := by decide +kernel
theorem d9_15 : decode prog_36_method_4_code 15 = .ok (.lload_n 2, 1) := by decide +kernel
theorem d9_16 : decode prog_36_method_4_code 16 = .ok (.invokestatic 34, 3) := by decide +kernel
theorem d9_19 : decode prog_36_method_4_code 19 = .ok (.ddiv, 1) := by decide +kernel
theorem d9_20 : decode prog_36_method_4_code 20 = .ok (.dreturn, 1) := by decide +kernel
theorem pn_9 : plainName "com/example/fewbits/fewbits/store/SegmentHull$Chain" = true := by first | (simp [plainName, overriddenIn]; done) | decide +kernel
theorem ef_9 (m : MethodId) (x0 : Addr) (x1 : Int32) (x2 : Int64) (x3 : UInt64) : entryFrame m #[(.ref x0), (.int x1), (.long x2), (.double x3)] 6 = mkF m 0 #[.val (.ref x0), .val (.int x1), .val (.long x2), .second, .val (.double x3), .second] [] := by first | (simp [entryFrame, mkF, argsToLocals, Value.category]; done) | rfl
def Q_rm9_0 (Z : State) (cc : Addr) (ii : Int32) (p3 : Int64) (p4 : UInt64) (tb rb : Addr) (k1 k2 : ClassId) (n : Int32) (x0 x1 x2 : Int64) (y0 y1 y2 : UInt64) (h0 : Heap) (n0 : Nat) : Option Value → Heap → List Loc → Prop := fun v h L => (∃ z : UInt64, v = some (.double z)) ∧ Fr n0 L ∧ h = h0
set_option maxRecDepth 65536 in
set_option maxHeartbeats 40000000 in
theorem rm9_0 (l : Launch) (Z : State) (a0 : Array Value) (hw : ∀ d ∈ tables_1, d.before a0 Z = true) (ws : List Jvm.Cond) (cc : Addr) (ii : Int32) (p3 : Int64) (p4 : UInt64) (tb rb : Addr) (k1 k2 : ClassId) (n : Int32) (x0 x1 x2 : Int64) (y0 y1 y2 : UInt64) (h0 : Heap) (n0 : Nat) (Z0 : n0 ≤ h0.size) (hi : ii = (0 : Int32)) (C0 : own_C Z h0 cc tb rb k1 k2 [.long x0, .long x1, .long x2] [.double y0, .double y1, .double y2] n) (f1 : Fin64 y0) (f2 : Fin64 p4) (hd : own_later x0 p3) :
    MetFree l (⟨"com/example/fewbits/fewbits/store/SegmentHull$Chain", "slope", "(IJD)D"⟩ : MethodName) (head1 (Jvm.Cond.code (⟨"com/example/fewbits/fewbits/store/SegmentHull$Chain", "slope", "(IJD)D"⟩ : MethodName) prog_36_method_4_code 6 (some .double) :: ws) ({ frames := 1, cells := 0, slots := 0, locals := 24 } : Room)) (fun a U => a = #[(.ref cc), (.int ii), (.long p3), (.double p4)] ∧ Z.Warmed39 U.vm ∧ U.heap = h0) (fun _ _ _ _ _ => True) (fun _ U oo U' => ∃ vv LL, oo = .returned vv ∧ (Q_rm9_0 Z cc ii p3 p4 tb rb k1 k2 n x0 x1 x2 y0 y1 y2 h0 n0) vv U'.heap LL ∧ FrameEnd U oo U' LL ({ frames := 1, cells := 0, slots := 0, locals := 24 } : Room).cells ({ frames := 1, cells := 0, slots := 0, locals := 24 } : Room).slots) := by
  refine MetFree.of_bodySF (plainFor_of_name pn_9) hisR ?_
  intro p e s m args below meth c s₁ Bd hml0 hP hK
  obtain ⟨rfl, hZ, hh⟩ := hP
  have hx := Bd.exec
  have hby := Bd.bytes
  have hml : c.maxLocals = 6 := hml0
  have hown : s.vm.findClass "com/example/fewbits/fewbits/store/SegmentHull$Chain" = some m.cls := findClass_of_methodNamed Bd.named
  have hnm := (name_of_methodNamed Bd.named Bd.method).1
  have X0 : Stand p l e ({ frames := 1, cells := 0, slots := 0, locals := 24 } : Room) s m #[(.ref cc), (.int ii), (.long p3), (.double p4)] below meth c s₁ [] 0 0 := Stand.of_body Bd
  have e0 : s₁.heap = h0 := by rw [← hh, Bd.state]; rfl
  have N0 := Fr.nil n0
  subst hi
  show Goes p e below (Fin s (Q_rm9_0 Z cc (0 : Int32) p3 p4 tb rb k1 k2 n x0 x1 x2 y0 y1 y2 h0 n0) ({ frames := 1, cells := 0, slots := 0, locals := 24 } : Room).cells ({ frames := 1, cells := 0, slots := 0, locals := 24 } : Room).slots) _
  refine Goes.via (S' := s₁.setTop (mkF m 0 #[.val (.ref cc), .val (.int (0 : Int32)), .val (.long p3), .second, .val (.double p4), .second] [])) (fun tz kz => castTop (ef_9 m cc (0 : Int32) p3 p4 ) kz) ?_
  refine Goes.via (S' := s₁.setTop (mkF m 3 #[.val (.ref cc), .val (.int (0 : Int32)), .val (.long p3), .second, .val (.double p4), .second] [(.ref cc), (.double p4)])) (fun tz kz => ?_) ?_
  · show Steps p.tables e below (s₁.setTop (mkF m 0 #[.val (.ref cc), .val (.int (0 : Int32)), .val (.long p3), .second, .val (.double p4), .second] [])) _
    refine XS.dload X0.here hx rfl (hb hby d9_0) rfl ?_
    show Steps p.tables e below (s₁.setTop (mkF m 2 #[.val (.ref cc), .val (.int (0 : Int32)), .val (.long p3), .second, .val (.double p4), .second] [(.double p4)])) _
    refine XS.aloadN X0.here hx rfl (hb hby d9_2) rfl rfl ?_
    exact kz
  obtain ⟨T1, X1, e1, st1⟩ := getF X0 hx hZ hown (host := "") (Or.inl (hw _ (List.mem_of_getElem? (i := 20) rfl))) Via.refl e0 C0.2.2.1 (g := (mkF m 3 #[.val (.ref cc), .val (.int (0 : Int32)), .val (.long p3), .second, .val (.double p4), .second] [(.ref cc), (.double p4)])) rfl rfl (hb hby d9_3)
  refine Goes.via (S' := T1.setTop (mkF m 6 #[.val (.ref cc), .val (.int (0 : Int32)), .val (.long p3), .second, .val (.double p4), .second] [(.ref rb), (.double p4)])) st1 ?_
  refine Goes.via (S' := T1.setTop (mkF m 7 #[.val (.ref cc), .val (.int (0 : Int32)), .val (.long p3), .second, .val (.double p4), .second] [(.int (0 : Int32)), (.ref rb), (.double p4)])) (fun tz kz => ?_) ?_
  · show Steps p.tables e below (T1.setTop (mkF m 6 #[.val (.ref cc), .val (.int (0 : Int32)), .val (.long p3), .second, .val (.double p4), .second] [(.ref rb), (.double p4)])) _
    refine XS.iloadN X1.here hx rfl (hb hby d9_6) rfl ?_
    exact kz
  obtain ⟨cl2, Ar2, q2, Sz2, Nn2, Hs2, G2⟩ := C0.2.2.2.2.2
  refine Goes.via (S' := T1.setTop (mkF m 10 #[.val (.ref cc), .val (.int (0 : Int32)), .val (.long p3), .second, .val (.double p4), .second] [(.ref cc), (.double (FP.dsub p4 y0))])) (fun tz kz => ?_) ?_
  · show Steps p.tables e below (T1.setTop (mkF m 7 #[.val (.ref cc), .val (.int (0 : Int32)), .val (.long p3), .second, .val (.double p4), .second] [(.int (0 : Int32)), (.ref rb), (.double p4)])) _
    refine X1.daload hx (j := (0 : Int32)) (v := (.double y0)) (by rw [e1]; exact Ar2.1) (State.isArrayOf_alike hZ.alike Ar2.2.1) Ar2.2.2 (inb_of Sz2 ⟨by decide, by decide⟩) (Has.at Hs2 (inb_of Sz2 ⟨by decide, by decide⟩) rfl) (g := (mkF m 7 #[.val (.ref cc), .val (.int (0 : Int32)), .val (.long p3), .second, .val (.double p4), .second] [(.int (0 : Int32)), (.ref rb), (.double p4)])) rfl rfl (hb hby d9_7) _ ?_
    show Steps p.tables e below (T1.setTop (mkF m 8 #[.val (.ref cc), .val (.int (0 : Int32)), .val (.long p3), .second, .val (.double p4), .second] [(.double y0), (.double p4)])) _
    refine XS.dsubS X1.here hx rfl (hb hby d9_8) rfl (dsub_out f2.noNaN f1) (v := (FP.dsub p4 y0)) rfl ?_
    show Steps p.tables e below (T1.setTop (mkF m 9 #[.val (.ref cc), .val (.int (0 : Int32)), .val (.long p3), .second, .val (.double p4), .second] [(.double (FP.dsub p4 y0))])) _
    refine XS.aloadN X1.here hx rfl (hb hby d9_9) rfl rfl ?_
    exact kz
  obtain ⟨T3, X3, e3, st3⟩ := getF X1 hx hZ hown (host := "") (Or.inl (hw _ (List.mem_of_getElem? (i := 17) rfl))) Via.refl e1 C0.2.1 (g := (mkF m 10 #[.val (.ref cc), .val (.int (0 : Int32)), .val (.long p3), .second, .val (.double p4), .second] [(.ref cc), (.double (FP.dsub p4 y0))])) rfl rfl (hb hby d9_10)
  refine Goes.via (S' := T3.setTop (mkF m 13 #[.val (.ref cc), .val (.int (0 : Int32)), .val (.long p3), .second, .val (.double p4), .second] [(.ref tb), (.double (FP.dsub p4 y0))])) st3 ?_
  refine Goes.via (S' := T3.setTop (mkF m 14 #[.val (.ref cc), .val (.int (0 : Int32)), .val (.long p3), .second, .val (.double p4), .second] [(.int (0 : Int32)), (.ref tb), (.double (FP.dsub p4 y0))])) (fun tz kz => ?_) ?_
  · show Steps p.tables e below (T3.setTop (mkF m 13 #[.val (.ref cc), .val (.int (0 : Int32)), .val (.long p3), .second, .val (.double p4), .second] [(.ref tb), (.double (FP.dsub p4 y0))])) _
    refine XS.iloadN X3.here hx rfl (hb hby d9_13) rfl ?_
    exact kz
  obtain ⟨cl4, Ar4, q4, Sz4, Nn4, Hs4, G4⟩ := C0.2.2.2.2.1
  refine Goes.via (S' := T3.setTop (mkF m 16 #[.val (.ref cc), .val (.int (0 : Int32)), .val (.long p3), .second, .val (.double p4), .second] [(.long p3), (.long x0), (.double (FP.dsub p4 y0))])) (fun tz kz => ?_) ?_
  · show Steps p.tables e below (T3.setTop (mkF m 14 #[.val (.ref cc), .val (.int (0 : Int32)), .val (.long p3), .second, .val (.double p4), .second] [(.int (0 : Int32)), (.ref tb), (.double (FP.dsub p4 y0))])) _
    refine X3.laload hx (j := (0 : Int32)) (v := (.long x0)) (by rw [e3]; exact Ar4.1) (State.isArrayOf_alike hZ.alike Ar4.2.1) Ar4.2.2 (inb_of Sz4 ⟨by decide, by decide⟩) (Has.at Hs4 (inb_of Sz4 ⟨by decide, by decide⟩) rfl) (g := (mkF m 14 #[.val (.ref cc), .val (.int (0 : Int32)), .val (.long p3), .second, .val (.double p4), .second] [(.int (0 : Int32)), (.ref tb), (.double (FP.dsub p4 y0))])) rfl rfl (hb hby d9_14) _ ?_
    show Steps p.tables e below (T3.setTop (mkF m 15 #[.val (.ref cc), .val (.int (0 : Int32)), .val (.long p3), .second, .val (.double p4), .second] [(.long x0), (.double (FP.dsub p4 y0))])) _
    refine XS.lloadN X3.here hx rfl (hb hby d9_15) rfl ?_
    exact kz
  obtain ⟨_, _, ⟨T5, L5, k5, n5⟩, -, X5, ⟨Lc5, hQ5, l5, y5, z5⟩, st5⟩ := Jvm.LawKit.callS X3 hx (y := (⟨"com/example/fewbits/fewbits/store/SegmentHull", "span", "(JJ)D"⟩ : MethodName)) hown (mvT hZ (hw _ (List.mem_of_getElem? (i := 64) rfl))) (mvT hZ (hw _ (List.mem_of_getElem? (i := 65) rfl))) (mvT hZ (hw _ (List.mem_of_getElem? (i := 2) rfl))) (mvT hZ (hw _ (List.mem_of_getElem? (i := 66) rfl))) (by decide) (backOf (W := 2) (rm10 l Z a0 hw [] x0 p3 h0 n0 Z0 hd) hZ (hw _ (List.mem_of_getElem? (i := 66) rfl)) (hw _ (List.mem_of_getElem? (i := 2) rfl)) (by decide) (by decide)) (g := (mkF m 16 #[.val (.ref cc), .val (.int (0 : Int32)), .val (.long p3), .second, .val (.double p4), .second] [(.long p3), (.long x0), (.double (FP.dsub p4 y0))])) rfl (by rw [hml]; rfl) (argsL := [(.long x0), (.long p3)]) (rest := [(.double (FP.dsub p4 y0))]) (lenOf pd_1 rfl) rfl (by show 2 * 0 + _ ≤ _; exact Nat.le_of_eq rfl) (hb hby d9_16) (fun _ _ => ⟨rfl, e3, (by decide : 0 + 0 ≤ _), (by decide : 0 + 0 ≤ _)⟩)
  dsimp only [Pt.U, Pt.locs, Pt.cells, Pt.slots] at X5 l5 y5 z5 st5 hQ5
  subst l5 y5 z5
  obtain ⟨rfl, N5, e5⟩ := hQ5
  have Nf5 := Fr.app N0 N5
  refine Goes.via (S' := T5.setTop (mkF m 19 #[.val (.ref cc), .val (.int (0 : Int32)), .val (.long p3), .second, .val (.double p4), .second] [(.double (FP.l2d (p3 - x0))), (.double (FP.dsub p4 y0))])) (st5) ?_
  refine Goes.via (S' := T5.setTop (mkF m 20 #[.val (.ref cc), .val (.int (0 : Int32)), .val (.long p3), .second, .val (.double p4), .second] [(.double (FP.ddiv (FP.dsub p4 y0) (FP.l2d (p3 - x0))))])) (fun tz kz => ?_) ?_
  · show Steps p.tables e below (T5.setTop (mkF m 19 #[.val (.ref cc), .val (.int (0 : Int32)), .val (.long p3), .second, .val (.double p4), .second] [(.double (FP.l2d (p3 - x0))), (.double (FP.dsub p4 y0))])) _
    refine XS.ddivS X5.here hx rfl (hb hby d9_19) rfl (ddiv_out (dsub_out f2.noNaN f1) (l2d_fin _) (l2d_nz hd.2)) (v := (FP.ddiv (FP.dsub p4 y0) (FP.l2d (p3 - x0)))) rfl ?_
    exact kz
  exact Goes.retO X5 hx Bd.notSynchronized Bd.returns rfl (Or.inr (Or.inr (Or.inl ⟨rfl, rfl, _, rfl⟩))) (hb hby d9_20) (Nat.le_of_ble_eq_true rfl) (Nat.le_of_ble_eq_true rfl) ⟨⟨_, rfl⟩, Nf5, e5⟩
def Q_rm9_1 (Z : State) (cc : Addr) (ii : Int32) (p3 : Int64) (p4 : UInt64) (tb rb : Addr) (k1 k2 : ClassId) (n : Int32) (x0 x1 x2 : Int64) (y0 y1 y2 : UInt64) (h0 : Heap) (n0 : Nat) : Option Value → Heap → List Loc → Prop := fun v h L => (∃ z : UInt64, v = some (.double z)) ∧ Fr n0 L ∧ h = h0
set_option maxRecDepth 65536 in
set_option maxHeartbeats 40000000 in
theorem rm9_1 (l : Launch) (Z : State) (a0 : Array Value) (hw : ∀ d ∈ tables_1, d.before a0 Z = true) (ws : List Jvm.Cond) (cc : Addr) (ii : Int32) (p3 : Int64) (p4 : UInt64) (tb rb : Addr) (k1 k2 : ClassId) (n : Int32) (x0 x1 x2 : Int64) (y0 y1 y2 : UInt64) (h0 : Heap) (n0 : Nat) (Z0 : n0 ≤ h0.size) (hi : ii = (1 : Int32)) (C0 : own_C Z h0 cc tb rb k1 k2 [.long x0, .long x1, .long x2] [.double y0, .double y1, .double y2] n) (f1 : Fin64 y1) (f2 : Fin64 p4) (hd : own_later x1 p3) :
    MetFree l (⟨"com/example/fewbits/fewbits/store/SegmentHull$Chain", "slope", "(IJD)D"⟩ : MethodName) (head1 (Jvm.Cond.code (⟨"com/example/fewbits/fewbits/store/SegmentHull$Chain", "slope", "(IJD)D"⟩ : MethodName) prog_36_method_4_code 6 (some .double) :: ws) ({ frames := 1, cells := 0, slots := 0, locals := 24 } : Room)) (fun a U => a = #[(.ref cc), (.int ii), (.long p3), (.double p4)] ∧ Z.Warmed39 U.vm ∧ U.heap = h0) (fun _ _ _ _ _ => True) (fun _ U oo U' => ∃ vv LL, oo = .returned vv ∧ (Q_rm9_1 Z cc ii p3 p4 tb rb k1 k2 n x0 x1 x2 y0 y1 y2 h0 n0) vv U'.heap LL ∧ FrameEnd U oo U' LL ({ frames := 1, cells := 0, slots := 0, locals := 24 } : Room).cells ({ frames := 1, cells := 0, slots := 0, locals := 24 } : Room).slots) := by
  refine MetFree.of_bodySF (plainFor_of_name pn_9) hisR ?_
  intro p e s m args below meth c s₁ Bd hml0 hP hK
  obtain ⟨rfl, hZ, hh⟩ := hP
  have hx := Bd.exec
  have hby := Bd.bytes
  have hml : c.maxLocals = 6 := hml0
  have hown : s.vm.findClass "com/example/fewbits/fewbits/store/SegmentHull$Chain" = some m.cls := findClass_of_methodNamed Bd.named
  have hnm := (name_of_methodNamed Bd.named Bd.method).1
  have X0 : Stand p l e ({ frames := 1, cells := 0, slots := 0, locals := 24 } : Room) s m #[(.ref cc), (.int ii), (.long p3), (.double p4)] below meth c s₁ [] 0 0 := Stand.of_body Bd
  have e0 : s₁.heap = h0 := by rw [← hh, Bd.state]; rfl
  have N0 := Fr.nil n0
  subst hi
  show Goes p e below (Fin s (Q_rm9_1 Z cc (1 : Int32) p3 p4 tb rb k1 k2 n x0 x1 x2 y0 y1 y2 h0 n0) ({ frames := 1, cells := 0, slots := 0, locals := 24 } : Room).cells ({ frames := 1, cells := 0, slots := 0, locals := 24 } : Room).slots) _
  refine Goes.via (S' := s₁.setTop (mkF m 0 #[.val (.ref cc), .val (.int (1 : Int32)), .val (.long p3), .second, .val (.double p4), .second] [])) (fun tz kz => castTop (ef_9 m cc (1 : Int32) p3 p4 ) kz) ?_
  refine Goes.via (S' := s₁.setTop (mkF m 3 #[.val (.ref cc), .val (.int (1 : Int32)), .val (.long p3), .second, .val (.double p4), .second] [(.ref cc), (.double p4)])) (fun tz kz => ?_) ?_
  · show Steps p.tables e below (s₁.setTop (mkF m 0 #[.val (.ref cc), .val (.int (1 : Int32)), .val (.long p3), .second, .val (.double p4), .second] [])) _
    refine XS.dload X0.here hx rfl (hb hby d9_0) rfl ?_
    show Steps p.tables e below (s₁.setTop (mkF m 2 #[.val (.ref cc), .val (.int (1 : Int32)), .val (.long p3), .second, .val (.double p4), .second] [(.double p4)])) _
    refine XS.aloadN X0.here hx rfl (hb hby d9_2) rfl rfl ?_
    exact kz
  obtain ⟨T1, X1, e1, st1⟩ := getF X0 hx hZ hown (host := "") (Or.inl (hw _ (List.mem_of_getElem? (i := 20) rfl))) Via.refl e0 C0.2.2.1 (g := (mkF m 3 #[.val (.ref cc), .val (.int (1 : Int32)), .val (.long p3), .second, .val (.double p4), .second] [(.ref cc), (.double p4)])) rfl rfl (hb hby d9_3)
  refine Goes.via (S' := T1.setTop (mkF m 6 #[.val (.ref cc), .val (.int (1 : Int32)), .val (.long p3), .second, .val (.double p4), .second] [(.ref rb), (.double p4)])) st1 ?_
  refine Goes.via (S' := T1.setTop (mkF m 7 #[.val (.ref cc), .val (.int (1 : Int32)), .val (.long p3), .second, .val (.double p4), .second] [(.int (1 : Int32)), (.ref rb), (.double p4)])) (fun tz kz => ?_) ?_
  · show Steps p.tables e below (T1.setTop (mkF m 6 #[.val (.ref cc), .val (.int (1 : Int32)), .val (.long p3), .second, .val (.double p4), .second] [(.ref rb), (.double p4)])) _
    refine XS.iloadN X1.here hx rfl (hb hby d9_6) rfl ?_
    exact kz
  obtain ⟨cl2, Ar2, q2, Sz2, Nn2, Hs2, G2⟩ := C0.2.2.2.2.2
  refine Goes.via (S' := T1.setTop (mkF m 10 #[.val (.ref cc), .val (.int (1 : Int32)), .val (.long p3), .second, .val (.double p4), .second] [(.ref cc), (.double (FP.dsub p4 y1))])) (fun tz kz => ?_) ?_
  · show Steps p.tables e below (T1.setTop (mkF m 7 #[.val (.ref cc), .val (.int (1 : Int32)), .val (.long p3), .second, .val (.double p4), .second] [(.int (1 : Int32)), (.ref rb), (.double p4)])) _
    refine X1.daload hx (j := (1 : Int32)) (v := (.double y1)) (by rw [e1]; exact Ar2.1) (State.isArrayOf_alike hZ.alike Ar2.2.1) Ar2.2.2 (inb_of Sz2 ⟨by decide, by decide⟩) (Has.at Hs2 (inb_of Sz2 ⟨by decide, by decide⟩) rfl) (g := (mkF m 7 #[.val (.ref cc), .val (.int (1 : Int32)), .val (.long p3), .second, .val (.double p4), .second] [(.int (1 : Int32)), (.ref rb), (.double p4)])) rfl rfl (hb hby d9_7) _ ?_
    show Steps p.tables e below (T1.setTop (mkF m 8 #[.val (.ref cc), .val (.int (1 : Int32)), .val (.long p3), .second, .val (.double p4), .second] [(.double y1), (.double p4)])) _
    refine XS.dsubS X1.here hx rfl (hb hby d9_8) rfl (dsub_out f2.noNaN f1) (v := (FP.dsub p4 y1)) rfl ?_
    show Steps p.tables e below (T1.setTop (mkF m 9 #[.val (.ref cc), .val (.int (1 : Int32)), .val (.long p3), .second, .val (.double p4), .second] [(.double (FP.dsub p4 y1))])) _
    refine XS.aloadN X1.here hx rfl (hb hby d9_9) rfl rfl ?_
    exact kz
  obtain ⟨T3, X3, e3, st3⟩ := getF X1 hx hZ hown (host := "") (Or.inl (hw _ (List.mem_of_getElem? (i := 17) rfl))) Via.refl e1 C0.2.1 (g := (mkF m 10 #[.val (.ref cc), .val (.int (1 : Int32)), .val (.long p3), .second, .val (.double p4), .second] [(.ref cc), (.double (FP.dsub p4 y1))])) rfl rfl (hb hby d9_10)
  refine Goes.via (S' := T3.setTop (mkF m 13 #[.val (.ref cc), .val (.int (1 : Int32)), .val (.long p3), .second, .val (.double p4), .second] [(.ref tb), (.double (FP.dsub p4 y1))])) st3 ?_
  refine Goes.via (S' := T3.setTop (mkF m 14 #[.val (.ref cc), .val (.int (1 : Int32)), .val (.long p3), .second, .val (.double p4), .second] [(.int (1 : Int32)), (.ref tb), (.double (FP.dsub p4 y1))])) (fun tz kz => ?_) ?_
  · show Steps p.tables e below (T3.setTop (mkF m 13 #[.val (.ref cc), .val (.int (1 : Int32)), .val (.long p3), .second, .val (.double p4), .second] [(.ref tb), (.double (FP.dsub p4 y1))])) _
    refine XS.iloadN X3.here hx rfl (hb hby d9_13) rfl ?_
    exact kz
  obtain ⟨cl4, Ar4, q4, Sz4, Nn4, Hs4, G4⟩ := C0.2.2.2.2.1
  refine Goes.via (S' := T3.setTop (mkF m 16 #[.val (.ref cc), .val (.int (1 : Int32)), .val (.long p3), .second, .val (.double p4), .second] [(.long p3), (.long x1), (.double (FP.dsub p4 y1))])) (fun tz kz => ?_) ?_
  · show Steps p.tables e below (T3.setTop (mkF m 14 #[.val (.ref cc), .val (.int (1 : Int32)), .val (.long p3), .second, .val (.double p4), .second] [(.int (1 : Int32)), (.ref tb), (.double (FP.dsub p4 y1))])) _
    refine X3.laload hx (j := (1 : Int32)) (v := (.long x1)) (by rw [e3]; exact Ar4.1) (State.isArrayOf_alike hZ.alike Ar4.2.1) Ar4.2.2 (inb_of Sz4 ⟨by decide, by decide⟩) (Has.at Hs4 (inb_of Sz4 ⟨by decide, by decide⟩) rfl) (g := (mkF m 14 #[.val (.ref cc), .val (.int (1 : Int32)), .val (.long p3), .second, .val (.double p4), .second] [(.int (1 : Int32)), (.ref tb), (.double (FP.dsub p4 y1))])) rfl rfl (hb hby d9_14) _ ?_
    show Steps p.tables e below (T3.setTop (mkF m 15 #[.val (.ref cc), .val (.int (1 : Int32)), .val (.long p3), .second, .val (.double p4), .second] [(.long x1), (.double (FP.dsub p4 y1))])) _
    refine XS.lloadN X3.here hx rfl (hb hby d9_15) rfl ?_
    exact kz
  obtain ⟨_, _, ⟨T5, L5, k5, n5⟩, -, X5, ⟨Lc5, hQ5, l5, y5, z5⟩, st5⟩ := Jvm.LawKit.callS X3 hx (y := (⟨"com/example/fewbits/fewbits/store/SegmentHull", "span", "(JJ)D"⟩ : MethodName)) hown (mvT hZ (hw _ (List.mem_of_getElem? (i := 64) rfl))) (mvT hZ (hw _ (List.mem_of_getElem? (i := 65) rfl))) (mvT hZ (hw _ (List.mem_of_getElem? (i := 2) rfl))) (mvT hZ (hw _ (List.mem_of_getElem? (i := 66) rfl))) (by decide) (backOf (W := 2) (rm10 l Z a0 hw [] x1 p3 h0 n0 Z0 hd) hZ (hw _ (List.mem_of_getElem? (i := 66) rfl)) (hw _ (List.mem_of_getElem? (i := 2) rfl)) (by decide) (by decide)) (g := (mkF m 16 #[.val (.ref cc), .val (.int (1 : Int32)), .val (.long p3), .second, .val (.double p4), .second] [(.long p3), (.long x1), (.double (FP.dsub p4 y1))])) rfl (by rw [hml]; rfl) (argsL := [(.long x1), (.long p3)]) (rest := [(.double (FP.dsub p4 y1))]) (lenOf pd_1 rfl) rfl (by show 2 * 0 + _ ≤ _; exact Nat.le_of_eq rfl) (hb hby d9_16) (fun _ _ => ⟨rfl, e3, (by decide : 0 + 0 ≤ _), (by decide : 0 + 0 ≤ _)⟩)
  dsimp only [Pt.U, Pt.locs, Pt.cells, Pt.slots] at X5 l5 y5 z5 st5 hQ5
  subst l5 y5 z5
  obtain ⟨rfl, N5, e5⟩ := hQ5
  have Nf5 := Fr.app N0 N5
  refine Goes.via (S' := T5.setTop (mkF m 19 #[.val (.ref cc), .val (.int (1 : Int32)), .val (.long p3), .second, .val (.double p4), .second] [(.double (FP.l2d (p3 - x1))), (.double (FP.dsub p4 y1))])) (st5) ?_
  refine Goes.via (S' := T5.setTop (mkF m 20 #[.val (.ref cc), .val (.int (1 : Int32)), .val (.long p3), .second, .val (.double p4), .second] [(.double (FP.ddiv (FP.dsub p4 y1) (FP.l2d (p3 - x1))))])) (fun tz kz => ?_) ?_
  · show Steps p.tables e below (T5.setTop (mkF m 19 #[.val (.ref cc), .val (.int (1 : Int32)), .val (.long p3), .second, .val (.double p4), .second] [(.double (FP.l2d (p3 - x1))), (.double (FP.dsub p4 y1))])) _
    refine XS.ddivS X5.here hx rfl (hb hby d9_19) rfl (ddiv_out (dsub_out f2.noNaN f1) (l2d_fin _) (l2d_nz hd.2)) (v := (FP.ddiv (FP.dsub p4 y1) (FP.l2d (p3 - x1)))) rfl ?_
    exact kz
  exact Goes.retO X5 hx Bd.notSynchronized Bd.returns rfl (Or.inr (Or.inr (Or.inl ⟨rfl, rfl, _, rfl⟩))) (hb hby d9_20) (Nat.le_of_ble_eq_true rfl) (Nat.le_of_ble_eq_true rfl) ⟨⟨_, rfl⟩, Nf5, e5⟩
theorem d8_0 : decode prog_36_method_3_code 0 = .ok (.aload_n 0, 1) := by decide +kernel
theorem d8_1 : decode prog_36_method_3_code 1 = .ok (.getfield 17, 3) := by decide +kernel
theorem d8_4 : decode prog_36_method_3_code 4 = .ok (.iconst 2, 1) := by decide +kernel
theorem d8_5 : decode prog_36_method_3_code 5 = .ok (.if_icmp .lt 64, 3) := by decide +kernel
theorem d8_8 : decode prog_36_method_3_code 8 = .ok (.aload_n 0, 1) := by decide +kernel
theorem d8_9 : decode prog_36_method_3_code 9 = .ok (.aload_n 0, 1) := by decide +kernel
theorem d8_10 : decode prog_36_method_3_code 10 = .ok (.getfield 17, 3) := by decide +kernel
theorem d8_13 : decode prog_36_method_3_code 13 = .ok (.iconst 2, 1) := by decide +kernel
theorem d8_14 : decode prog_36_method_3_code 14 = .ok (.isub, 1) := by decide +kernel
theorem d8_15 : decode prog_36_method_3_code 15 = .ok (.aload_n 0, 1) := by decide +kernel
theorem d8_16 : decode prog_36_method_3_code 16 = .ok (.getfield 7, 3) := by decide +kernel
theorem d8_19 : decode prog_36_method_3_code 19 = .ok (.aload_n 0, 1) := by decide +kernel
theorem d8_20 : decode prog_36_method_3_code 20 = .ok (.getfield 17, 3) := by decide +kernel
theorem d8_23 : decode prog_36_method_3_code 23 = .ok (.iconst 1, 1) := by decide +kernel
theorem d8_24 : decode prog_36_method_3_code 24 = .ok (.isub, 1) := by decide +kernel
theorem d8_25 : decode prog_36_method_3_code 25 = .ok (.laload, 1) := by decide +kernel
theorem d8_26 : decode prog_36_method_3_code 26 = .ok (.aload_n 0, 1) := by decide +kernel
theorem d8_27 : decode prog_36_method_3_code 27 = .ok (.getfield 13, 3) := by decide +kernel
theorem d8_30 : decode prog_36_method_3_code 30 = .ok (.aload_n 0, 1) := by decide +kernel
theorem d8_31 : decode prog_36_method_3_code 31 = .ok (.getfield 17, 3) := by decide +kernel
theorem d8_34 : decode prog_36_method_3_code 34 = .ok (.iconst 1, 1) := by decide +kernel
theorem d8_35 : decode prog_36_method_3_code 35 = .ok (.isub, 1) := by decide +kernel
theorem d8_36 : decode prog_36_method_3_code 36 = .ok (.daload, 1) := by decide +kernel
theorem d8_37 : decode prog_36_method_3_code 37 = .ok (.invokevirtual 21, 3) := by decide +kernel
theorem d8_40 : decode prog_36_method_3_code 40 = .ok (.aload_n 0, 1) := by decide +kernel
theorem d8_41 : decode prog_36_method_3_code 41 = .ok (.aload_n 0, 1) := by decide +kernel
theorem d8_42 : decode prog_36_method_3_code 42 = .ok (.getfield 17, 3) := by decide +kernel
theorem d8_45 : decode prog_36_method_3_code 45 = .ok (.iconst 1, 1) := by decide +kernel
theorem d8_46 : decode prog_36_method_3_code 46 = .ok (.isub, 1) := by decide +kernel
theorem d8_47 : decode prog_36_method_3_code 47 = .ok (.lload_n 1, 1) := by decide +kernel
theorem d8_48 : decode prog_36_method_3_code 48 = .ok (.dload_n 3, 1) := by decide +kernel
theorem d8_49 : decode prog_36_method_3_code 49 = .ok (.invokevirtual 21, 3) := by decide +kernel
theorem d8_52 : decode prog_36_method_3_code 52 = .ok (.dcmp .g, 1) := by decide +kernel
theorem d8_53 : decode prog_36_method_3_code 53 = .ok (.ifCond .gt 16, 3) := by decide +kernel
theorem d8_56 : decode prog_36_method_3_code 56 = .ok (.aload_n 0, 1) := by decide +kernel
theorem d8_57 : decode prog_36_method_3_code 57 = .ok (.dup, 1) := by decide +kernel
theorem d8_58 : decode prog_36_method_3_code 58 = .ok (.getfield 17, 3) := by decide +kernel
theorem d8_61 : decode prog_36_method_3_code 61 = .ok (.iconst 1, 1) := by decide +kernel
theorem d8_62 : decode prog_36_method_3_code 62 = .ok (.isub, 1) := by decide +kernel
theorem d8_63 : decode prog_36_method_3_code 63 = .ok (.putfield 17, 3) := by decide +kernel
theorem d8_66 : decode prog_36_method_3_code 66 = .ok (.goto (-66), 3) := by decide +kernel
theorem d8_69 : decode prog_36_method_3_code 69 = .ok (.aload_n 0, 1) := by decide +kernel
theorem d8_70 : decode prog_36_method_3_code 70 = .ok (.getfield 17, 3) := by decide +kernel
theorem d8_73 : decode prog_36_method_3_code 73 = .ok (.aload_n 0, 1) := by decide +kernel
theorem d8_74 : decode prog_36_method_3_code 74 = .ok (.getfield 7, 3) := by decide +kernel
theorem d8_77 : decode prog_36_method_3_code 77 = .ok (.arraylength, 1) := by decide +kernel
theorem d8_78 : decode prog_36_method_3_code 78 = .ok (.if_icmp .ne 37, 3) := by decide +kernel
theorem d8_81 : decode prog_36_method_3_code 81 = .ok (.aload_n 0, 1) := by decide +kernel
theorem d8_82 : decode prog_36_method_3_code 82 = .ok (.aload_n 0, 1) := by decide +kernel
theorem d8_83 : decode prog_36_method_3_code 83 = .ok (.getfield 7, 3) := by decide +kernel
theorem d8_86 : decode prog_36_method_3_code 86 = .ok (.iconst 2, 1) := by decide +kernel
theorem d8_87 : decode prog_36_method_3_code 87 = .ok (.aload_n 0, 1) := by decide +kernel
theorem d8_88 : decode prog_36_method_3_code 88 = .ok (.getfield 17, 3) := by decide +kernel
theorem d8_91 : decode prog_36_method_3_code 91 = .ok (.imul, 1) := by decide +kernel
theorem d8_92 : decode prog_36_method_3_code 92 = .ok (.invokestatic 25, 3) := by decide +kernel
theorem d8_95 : decode prog_36_method_3_code 95 = .ok (.putfield 7, 3) := by decide +kernel
theorem d8_98 : decode prog_36_method_3_code 98 = .ok (.aload_n 0, 1) := by decide +kernel
theorem d8_99 : decode prog_36_method_3_code 99 = .ok (.aload_n 0, 1) := by decide +kernel
theorem d8_100 : decode prog_36_method_3_code 100 = .ok (.getfield 13, 3) := by decide +kernel
theorem d8_103 : decode prog_36_method_3_code 103 = .ok (.iconst 2, 1) := by decide +kernel
theorem d8_104 : decode prog_36_method_3_code 104 = .ok (.aload_n 0, 1) := by decide +kernel
theorem d8_105 : decode prog_36_method_3_code 105 = .ok (.getfield 17, 3) := by decide +kernel
theorem d8_108 : decode prog_36_method_3_code 108 = .ok (.imul, 1) := by decide +kernel
theorem d8_109 : decode prog_36_method_3_code 109 = .ok (.invokestatic 31, 3) := by decide +kernel
theorem d8_112 : decode prog_36_method_3_code 112 = .ok (.putfield 13, 3) := by decide +kernel
theorem d8_115 : decode prog_36_method_3_code 115 = .ok (.aload_n 0, 1) := by decide +kernel
theorem d8_116 : decode prog_36_method_3_code 116 = .ok (.getfield 7, 3) := by decide +kernel
theorem d8_119 : decode prog_36_method_3_code 119 = .ok (.aload_n 0, 1) := by decide +kernel
theorem d8_120 : decode prog_36_method_3_code 120 = .ok (.getfield 17, 3) := by decide +kernel
theorem d8_123 : decode prog_36_method_3_code 123 = .ok (.lload_n 1, 1) := by decide +kernel
theorem d8_124 : decode prog_36_method_3_code 124 = .ok (.lastore, 1) := by decide +kernel
theorem d8_125 : decode prog_36_method_3_code 125 = .ok (.aload_n 0, 1) := by decide +kernel
theorem d8_126 : decode prog_36_method_3_code 126 = .ok (.getfield 13, 3) := by decide +kernel
theorem d8_129 : decode prog_36_method_3_code 129 = .ok (.aload_n 0, 1) := by decide +kernel
theorem d8_130 : decode prog_36_method_3_code 130 = .ok (.getfield 17, 3) := by decide +kernel
theorem d8_133 : decode prog_36_method_3_code 133 = .ok (.dload_n 3, 1) := by decide +kernel
theorem d8_134 : decode prog_36_method_3_code 134 = .ok (.dastore, 1) := by decide +kernel
theorem d8_135 : decode prog_36_method_3_code 135 = .ok (.aload_n 0, 1) := by decide +kernel
theorem d8_136 : decode prog_36_method_3_code 136 = .ok (.dup, 1) := by decide +kernel
theorem d8_137 : decode prog_36_method_3_code 137 = .ok (.getfield 17, 3) := by decide +kernel
theorem d8_140 : decode prog_36_method_3_code 140 = .ok (.iconst 1, 1) := by decide +kernel
theorem d8_141 : decode prog_36_method_3_code 141 = .ok (.iadd, 1) := by decide +kernel
theorem d8_142 : decode prog_36_method_3_code 142 = .ok (.putfield 17, 3) := by decide +kernel
theorem d8_145 : decode prog_36_method_3_code 145 = .ok (.return_, 1) := by decide +kernel
theorem pn_8 : plainName "com/example/fewbits/fewbits/store/SegmentHull$Chain" = true := by first | (simp [plainName, overriddenIn]; done) | decide +kernel
theorem ef_8 (m : MethodId) (x0 : Addr) (x1 : Int64) (x2 : UInt64) : entryFrame m #[(.ref x0), (.long x1), (.double x2)] 5 = mkF m 0 #[.val (.ref x0), .val (.long x1), .second, .val (.double x2), .second] [] := by first | (simp [entryFrame, mkF, argsToLocals, Value.category]; done) | rfl
def Q_rm8_0 (Z : State) (cc : Addr) (p2 : Int64) (p3 : UInt64) (tb rb : Addr) (k1 k2 : ClassId) (x0 x1 x2 : Int64) (y0 y1 y2 : UInt64) (h0 : Heap) (n0 : Nat) : Option Value → Heap → List Loc → Prop := fun v h L => v = none ∧ Fr n0 L ∧ Keep h0 h [cc, tb, rb] ∧ own_C Z h cc tb rb k1 k2 [.long p2, .long x1, .long x2] [.double p3, .double y1, .double y2] 1
set_option maxRecDepth 65536 in
set_option maxHeartbeats 40000000 in
theorem rm8_0 (l : Launch) (Z : State) (a0 : Array Value) (hw : ∀ d ∈ tables_1, d.before a0 Z = true) (ws : List Jvm.Cond) (cc : Addr) (p2 : Int64) (p3 : UInt64) (tb rb : Addr) (k1 k2 : ClassId) (x0 x1 x2 : Int64) (y0 y1 y2 : UInt64) (h0 : Heap) (n0 : Nat) (Z0 : n0 ≤ h0.size) (C0 : own_C Z h0 cc tb rb k1 k2 [.long x0, .long x1, .long x2] [.double y0, .double y1, .double y2] (0 : Int32)) (g1 : n0 ≤ cc) (q1 : @LT.lt Nat _ cc tb) (q2 : @LT.lt Nat _ tb rb) :
    MetFree l (⟨"com/example/fewbits/fewbits/store/SegmentHull$Chain", "add", "(JD)V"⟩ : MethodName) (head1 (Jvm.Cond.code (⟨"com/example/fewbits/fewbits/store/SegmentHull$Chain", "add", "(JD)V"⟩ : MethodName) prog_36_method_3_code 5 none :: ws) ({ frames := 2, cells := 0, slots := 0, locals := 48 } : Room)) (fun a U => a = #[(.ref cc), (.long p2), (.double p3)] ∧ Z.Warmed39 U.vm ∧ U.heap = h0) (fun _ _ _ _ _ => True) (fun _ U oo U' => ∃ vv LL, oo = .returned vv ∧ (Q_rm8_0 Z cc p2 p3 tb rb k1 k2 x0 x1 x2 y0 y1 y2 h0 n0) vv U'.heap LL ∧ FrameEnd U oo U' LL ({ frames := 2, cells := 0, slots := 0, locals := 48 } : Room).cells ({ frames := 2, cells := 0, slots := 0, locals := 48 } : Room).slots) := by
  refine MetFree.of_bodySF (plainFor_of_name pn_8) hisR ?_
  intro p e s m args below meth c s₁ Bd hml0 hP hK
  obtain ⟨rfl, hZ, hh⟩ := hP
  have hx := Bd.exec
  have hby := Bd.bytes
  have hml : c.maxLocals = 5 := hml0
  have hown : s.vm.findClass "com/example/fewbits/fewbits/store/SegmentHull$Chain" = some m.cls := findClass_of_methodNamed Bd.named
  have hnm := (name_of_methodNamed Bd.named Bd.method).1
  have X0 : Stand p l e ({ frames := 2, cells := 0, slots := 0, locals := 48 } : Room) s m #[(.ref cc), (.long p2), (.double p3)] below meth c s₁ [] 0 0 := Stand.of_body Bd
  have e0 : s₁.heap = h0 := by rw [← hh, Bd.state]; rfl
  have N0 := Fr.nil n0
  show Goes p e below (Fin s (Q_rm8_0 Z cc p2 p3 tb rb k1 k2 x0 x1 x2 y0 y1 y2 h0 n0) ({ frames := 2, cells := 0, slots := 0, locals := 48 } : Room).cells ({ frames := 2, cells := 0, slots := 0, locals := 48 } : Room).slots) _
  refine Goes.via (S' := s₁.setTop (mkF m 0 #[.val (.ref cc), .val (.long p2), .second, .val (.double p3), .second] [])) (fun tz kz => castTop (ef_8 m cc p2 p3 ) kz) ?_
  refine Goes.via (S' := s₁.setTop (mkF m 1 #[.val (.ref cc), .val (.long p2), .second, .val (.double p3), .second] [(.ref cc)])) (fun tz kz => ?_) ?_
  · show Steps p.tables e below (s₁.setTop (mkF m 0 #[.val (.ref cc), .val (.long p2), .second, .val (.double p3), .second] [])) _
    refine XS.aloadN X0.here hx rfl (hb hby d8_0) rfl rfl ?_
    exact kz
  obtain ⟨T1, X1, e1, st1⟩ := getF X0 hx hZ hown (host := "") (Or.inl (hw _ (List.mem_of_getElem? (i := 48) rfl))) Via.refl e0 C0.2.2.2.1 (g := (mkF m 1 #[.val (.ref cc), .val (.long p2), .second, .val (.double p3), .second] [(.ref cc)])) rfl rfl (hb hby d8_1)
  refine Goes.via (S' := T1.setTop (mkF m 4 #[.val (.ref cc), .val (.long p2), .second, .val (.double p3), .second] [(.int (0 : Int32))])) st1 ?_
  refine Goes.via (S' := T1.setTop (mkF m 70 #[.val (.ref cc), .val (.long p2), .second, .val (.double p3), .second] [(.ref cc)])) (fun tz kz => ?_) ?_
  · show Steps p.tables e below (T1.setTop (mkF m 4 #[.val (.ref cc), .val (.long p2), .second, .val (.double p3), .second] [(.int (0 : Int32))])) _
    refine XS.iconst X1.here hx rfl (hb hby d8_4) ?_
    show Steps p.tables e below (T1.setTop (mkF m 5 #[.val (.ref cc), .val (.long p2), .second, .val (.double p3), .second] [(.int (2 : Int32)), (.int (0 : Int32))])) _
    refine XS.icmpYes X1.here hx rfl (pc0 := 5) (pc' := 69) rfl (hb hby d8_5) rfl (tlt (by decide)).1 (by decide) (by decide) ?_
    show Steps p.tables e below (T1.setTop (mkF m 69 #[.val (.ref cc), .val (.long p2), .second, .val (.double p3), .second] [])) _
    refine XS.aloadN X1.here hx rfl (hb hby d8_69) rfl rfl ?_
    exact kz
  obtain ⟨T2, X2, e2, st2⟩ := getF X1 hx hZ hown (host := "") (Or.inl (hw _ (List.mem_of_getElem? (i := 48) rfl))) Via.refl e1 C0.2.2.2.1 (g := (mkF m 70 #[.val (.ref cc), .val (.long p2), .second, .val (.double p3), .second] [(.ref cc)])) rfl rfl (hb hby d8_70)
  refine Goes.via (S' := T2.setTop (mkF m 73 #[.val (.ref cc), .val (.long p2), .second, .val (.double p3), .second] [(.int (0 : Int32))])) st2 ?_
  refine Goes.via (S' := T2.setTop (mkF m 74 #[.val (.ref cc), .val (.long p2), .second, .val (.double p3), .second] [(.ref cc), (.int (0 : Int32))])) (fun tz kz => ?_) ?_
  · show Steps p.tables e below (T2.setTop (mkF m 73 #[.val (.ref cc), .val (.long p2), .second, .val (.double p3), .second] [(.int (0 : Int32))])) _
    refine XS.aloadN X2.here hx rfl (hb hby d8_73) rfl rfl ?_
    exact kz
  obtain ⟨T3, X3, e3, st3⟩ := getF X2 hx hZ hown (host := "") (Or.inl (hw _ (List.mem_of_getElem? (i := 17) rfl))) Via.refl e2 C0.2.1 (g := (mkF m 74 #[.val (.ref cc), .val (.long p2), .second, .val (.double p3), .second] [(.ref cc), (.int (0 : Int32))])) rfl rfl (hb hby d8_74)
  refine Goes.via (S' := T3.setTop (mkF m 77 #[.val (.ref cc), .val (.long p2), .second, .val (.double p3), .second] [(.ref tb), (.int (0 : Int32))])) st3 ?_
  obtain ⟨cl4, Ar4, q4, Sz4, Nn4, Hs4, G4⟩ := C0.2.2.2.2.1
  refine Goes.via (S' := T3.setTop (mkF m 116 #[.val (.ref cc), .val (.long p2), .second, .val (.double p3), .second] [(.ref cc)])) (fun tz kz => ?_) ?_
  · show Steps p.tables e below (T3.setTop (mkF m 77 #[.val (.ref cc), .val (.long p2), .second, .val (.double p3), .second] [(.ref tb), (.int (0 : Int32))])) _
    refine X3.arraylength hx (by rw [e3]; exact Ar4.1) (State.isArrayOf_alike hZ.alike Ar4.2.1) (g := (mkF m 77 #[.val (.ref cc), .val (.long p2), .second, .val (.double p3), .second] [(.ref tb), (.int (0 : Int32))])) rfl rfl (hb hby d8_77) _ ?_
    rw [len_of Sz4 Nn4]
    show Steps p.tables e below (T3.setTop (mkF m 78 #[.val (.ref cc), .val (.long p2), .second, .val (.double p3), .second] [(.int (16 : Int32)), (.int (0 : Int32))])) _
    refine XS.icmpYes X3.here hx rfl (pc0 := 78) (pc' := 115) rfl (hb hby d8_78) rfl (feq (by decide)).2 (by decide) (by decide) ?_
    show Steps p.tables e below (T3.setTop (mkF m 115 #[.val (.ref cc), .val (.long p2), .second, .val (.double p3), .second] [])) _
    refine XS.aloadN X3.here hx rfl (hb hby d8_115) rfl rfl ?_
    exact kz
  obtain ⟨T5, X5, e5, st5⟩ := getF X3 hx hZ hown (host := "") (Or.inl (hw _ (List.mem_of_getElem? (i := 17) rfl))) Via.refl e3 C0.2.1 (g := (mkF m 116 #[.val (.ref cc), .val (.long p2), .second, .val (.double p3), .second] [(.ref cc)])) rfl rfl (hb hby d8_116)
  refine Goes.via (S' := T5.setTop (mkF m 119 #[.val (.ref cc), .val (.long p2), .second, .val (.double p3), .second] [(.ref tb)])) st5 ?_
  refine Goes.via (S' := T5.setTop (mkF m 120 #[.val (.ref cc), .val (.long p2), .second, .val (.double p3), .second] [(.ref cc), (.ref tb)])) (fun tz kz => ?_) ?_
  · show Steps p.tables e below (T5.setTop (mkF m 119 #[.val (.ref cc), .val (.long p2), .second, .val (.double p3), .second] [(.ref tb)])) _
    refine XS.aloadN X5.here hx rfl (hb hby d8_119) rfl rfl ?_
    exact kz
  obtain ⟨T6, X6, e6, st6⟩ := getF X5 hx hZ hown (host := "") (Or.inl (hw _ (List.mem_of_getElem? (i := 48) rfl))) Via.refl e5 C0.2.2.2.1 (g := (mkF m 120 #[.val (.ref cc), .val (.long p2), .second, .val (.double p3), .second] [(.ref cc), (.ref tb)])) rfl rfl (hb hby d8_120)
  refine Goes.via (S' := T6.setTop (mkF m 123 #[.val (.ref cc), .val (.long p2), .second, .val (.double p3), .second] [(.int (0 : Int32)), (.ref tb)])) st6 ?_
  refine Goes.via (S' := T6.setTop (mkF m 124 #[.val (.ref cc), .val (.long p2), .second, .val (.double p3), .second] [(.long p2), (.int (0 : Int32)), (.ref tb)])) (fun tz kz => ?_) ?_
  · show Steps p.tables e below (T6.setTop (mkF m 123 #[.val (.ref cc), .val (.long p2), .second, .val (.double p3), .second] [(.int (0 : Int32)), (.ref tb)])) _
    refine XS.lloadN X6.here hx rfl (hb hby d8_123) rfl ?_
    exact kz
  obtain ⟨cl7, Ar7, q7, Sz7, Nn7, Hs7, G7⟩ := C0.2.2.2.2.1
  obtain ⟨T8, h8, X8, e8, W8, st8⟩ := stJ X6 hx hZ e6 Ar7 (j := (0 : Int32)) (inb_of Sz7 ⟨by decide, by decide⟩) (g := (mkF m 124 #[.val (.ref cc), .val (.long p2), .second, .val (.double p3), .second] [(.long p2), (.int (0 : Int32)), (.ref tb)])) rfl rfl (hb hby d8_124)
  refine Goes.via (S' := T8.setTop (mkF m 125 #[.val (.ref cc), .val (.long p2), .second, .val (.double p3), .second] [])) st8 ?_
  have N8 := Fr.snoc X8 N0 (Nat.le_trans g1 (Nat.le_of_lt q1))
  have A8 := Arv.set Ar7 q7 Sz7 Nn7 Hs7 G7 rfl W8 0 rfl (Nat.le_of_ble_eq_true rfl)
  have C8 : own_C Z h8 cc tb rb k1 k2 _ _ _ := ⟨C0.1.wr W8, C0.2.1.other W8 (Or.inl (own_lt q1)), C0.2.2.1.other W8 (Or.inl (own_lt q1)), C0.2.2.2.1.other W8 (Or.inl (own_lt q1)), A8, C0.2.2.2.2.2.other W8 (own_gt q2)⟩
  have K8 := (Keep.refl h0 [cc, tb, rb]).wr W8 (Or.inl (by simp))
  refine Goes.via (S' := T8.setTop (mkF m 126 #[.val (.ref cc), .val (.long p2), .second, .val (.double p3), .second] [(.ref cc)])) (fun tz kz => ?_) ?_
  · show Steps p.tables e below (T8.setTop (mkF m 125 #[.val (.ref cc), .val (.long p2), .second, .val (.double p3), .second] [])) _
    refine XS.aloadN X8.here hx rfl (hb hby d8_125) rfl rfl ?_
    exact kz
  obtain ⟨T9, X9, e9, st9⟩ := getF X8 hx hZ hown (host := "") (Or.inl (hw _ (List.mem_of_getElem? (i := 20) rfl))) Via.refl e8 C8.2.2.1 (g := (mkF m 126 #[.val (.ref cc), .val (.long p2), .second, .val (.double p3), .second] [(.ref cc)])) rfl rfl (hb hby d8_126)
  refine Goes.via (S' := T9.setTop (mkF m 129 #[.val (.ref cc), .val (.long p2), .second, .val (.double p3), .second] [(.ref rb)])) st9 ?_
  refine Goes.via (S' := T9.setTop (mkF m 130 #[.val (.ref cc), .val (.long p2), .second, .val (.double p3), .second] [(.ref cc), (.ref rb)])) (fun tz kz => ?_) ?_
  · show Steps p.tables e below (T9.setTop (mkF m 129 #[.val (.ref cc), .val (.long p2), .second, .val (.double p3), .second] [(.ref rb)])) _
    refine XS.aloadN X9.here hx rfl (hb hby d8_129) rfl rfl ?_
    exact kz
  obtain ⟨T10, X10, e10, st10⟩ := getF X9 hx hZ hown (host := "") (Or.inl (hw _ (List.mem_of_getElem? (i := 48) rfl))) Via.refl e9 C8.2.2.2.1 (g := (mkF m 130 #[.val (.ref cc), .val (.long p2), .second, .val (.double p3), .second] [(.ref cc), (.ref rb)])) rfl rfl (hb hby d8_130)
  refine Goes.via (S' := T10.setTop (mkF m 133 #[.val (.ref cc), .val (.long p2), .second, .val (.double p3), .second] [(.int (0 : Int32)), (.ref rb)])) st10 ?_
  refine Goes.via (S' := T10.setTop (mkF m 134 #[.val (.ref cc), .val (.long p2), .second, .val (.double p3), .second] [(.double p3), (.int (0 : Int32)), (.ref rb)])) (fun tz kz => ?_) ?_
  · show Steps p.tables e below (T10.setTop (mkF m 133 #[.val (.ref cc), .val (.long p2), .second, .val (.double p3), .second] [(.int (0 : Int32)), (.ref rb)])) _
    refine XS.dloadN X10.here hx rfl (hb hby d8_133) rfl ?_
    exact kz
  obtain ⟨cl11, Ar11, q11, Sz11, Nn11, Hs11, G11⟩ := C8.2.2.2.2.2
  obtain ⟨T12, h12, X12, e12, W12, st12⟩ := stD X10 hx hZ e10 Ar11 (j := (0 : Int32)) (inb_of Sz11 ⟨by decide, by decide⟩) (g := (mkF m 134 #[.val (.ref cc), .val (.long p2), .second, .val (.double p3), .second] [(.double p3), (.int (0 : Int32)), (.ref rb)])) rfl rfl (hb hby d8_134)
  refine Goes.via (S' := T12.setTop (mkF m 135 #[.val (.ref cc), .val (.long p2), .second, .val (.double p3), .second] [])) st12 ?_
  have N12 := Fr.snoc X12 N8 (Nat.le_trans g1 (Nat.le_of_lt (Nat.lt_trans q1 q2)))
  have A12 := Arv.set Ar11 q11 Sz11 Nn11 Hs11 G11 rfl W12 0 rfl (Nat.le_of_ble_eq_true rfl)
  have C12 : own_C Z h12 cc tb rb k1 k2 _ _ _ := ⟨C8.1.wr W12, C8.2.1.other W12 (Or.inl (own_lt (Nat.lt_trans q1 q2))), C8.2.2.1.other W12 (Or.inl (own_lt (Nat.lt_trans q1 q2))), C8.2.2.2.1.other W12 (Or.inl (own_lt (Nat.lt_trans q1 q2))), C8.2.2.2.2.1.other W12 (own_lt q2), A12⟩
  have K12 := (K8).wr W12 (Or.inl (by simp))
  refine Goes.via (S' := T12.setTop (mkF m 137 #[.val (.ref cc), .val (.long p2), .second, .val (.double p3), .second] [(.ref cc), (.ref cc)])) (fun tz kz => ?_) ?_
  · show Steps p.tables e below (T12.setTop (mkF m 135 #[.val (.ref cc), .val (.long p2), .second, .val (.double p3), .second] [])) _
    refine XS.aloadN X12.here hx rfl (hb hby d8_135) rfl rfl ?_
    show Steps p.tables e below (T12.setTop (mkF m 136 #[.val (.ref cc), .val (.long p2), .second, .val (.double p3), .second] [(.ref cc)])) _
    refine XS.dup X12.here hx rfl (hb hby d8_136) rfl rfl ?_
    exact kz
  obtain ⟨T13, X13, e13, st13⟩ := getF X12 hx hZ hown (host := "") (Or.inl (hw _ (List.mem_of_getElem? (i := 48) rfl))) Via.refl e12 C12.2.2.2.1 (g := (mkF m 137 #[.val (.ref cc), .val (.long p2), .second, .val (.double p3), .second] [(.ref cc), (.ref cc)])) rfl rfl (hb hby d8_137)
  refine Goes.via (S' := T13.setTop (mkF m 140 #[.val (.ref cc), .val (.long p2), .second, .val (.double p3), .second] [(.int (0 : Int32)), (.ref cc)])) st13 ?_
  refine Goes.via (S' := T13.setTop (mkF m 142 #[.val (.ref cc), .val (.long p2), .second, .val (.double p3), .second] [(.int (1 : Int32)), (.ref cc)])) (fun tz kz => ?_) ?_
  · show Steps p.tables e below (T13.setTop (mkF m 140 #[.val (.ref cc), .val (.long p2), .second, .val (.double p3), .second] [(.int (0 : Int32)), (.ref cc)])) _
    refine XS.iconst X13.here hx rfl (hb hby d8_140) ?_
    show Steps p.tables e below (T13.setTop (mkF m 141 #[.val (.ref cc), .val (.long p2), .second, .val (.double p3), .second] [(.int (1 : Int32)), (.int (0 : Int32)), (.ref cc)])) _
    refine XS.iadd X13.here hx rfl (hb hby d8_141) rfl ?_
    exact kz
  obtain ⟨T14, h14, X14, e14, W14, st14⟩ := putF X13 hx hZ hown (host := "") (Or.inl (hw _ (List.mem_of_getElem? (i := 48) rfl))) Via.refl e13 C12.2.2.2.1 C12.1 (Or.inl (hw _ (List.mem_of_getElem? (i := 32) rfl))) (hw _ (List.mem_of_getElem? (i := 10) rfl)) (ty := .int) (by decide) rfl rfl (g := (mkF m 142 #[.val (.ref cc), .val (.long p2), .second, .val (.double p3), .second] [(.int (1 : Int32)), (.ref cc)])) rfl rfl (hb hby d8_142)
  refine Goes.via (S' := T14.setTop (mkF m 145 #[.val (.ref cc), .val (.long p2), .second, .val (.double p3), .second] [])) st14 ?_
  have N14 := Fr.snoc X14 N12 g1
  have C14 : own_C Z h14 cc tb rb k1 k2 _ _ _ := ⟨C12.1.wr W14, C12.2.1.other W14 (Or.inr (slot_ne (Or.inl (hw _ (List.mem_of_getElem? (i := 18) rfl))) (Or.inl (hw _ (List.mem_of_getElem? (i := 32) rfl))) (by decide) (t := (.array .long)) (t' := .int) (by decide) (by decide))), C12.2.2.1.other W14 (Or.inr (slot_ne (Or.inl (hw _ (List.mem_of_getElem? (i := 21) rfl))) (Or.inl (hw _ (List.mem_of_getElem? (i := 32) rfl))) (by decide) (t := (.array .double)) (t' := .int) (by decide) (by decide))), C12.2.2.2.1.same W14, C12.2.2.2.2.1.other W14 (own_gt q1), C12.2.2.2.2.2.other W14 (own_gt (Nat.lt_trans q1 q2))⟩
  have K14 := (K12).wr W14 (Or.inl (by simp))
  exact Goes.retV X14 hx Bd.notSynchronized Bd.returns (hb hby d8_145) (Nat.le_of_ble_eq_true rfl) (Nat.le_of_ble_eq_true rfl) (by rw [e14]; exact ⟨rfl, N14, K14, C14⟩)
def Q_rm8_1 (Z : State) (cc : Addr) (p2 : Int64) (p3 : UInt64) (tb rb : Addr) (k1 k2 : ClassId) (x0 x1 x2 : Int64) (y0 y1 y2 : UInt64) (h0 : Heap) (n0 : Nat) : Option Value → Heap → List Loc → Prop := fun v h L => v = none ∧ Fr n0 L ∧ Keep h0 h [cc, tb, rb] ∧ own_C Z h cc tb rb k1 k2 [.long x0, .long p2, .long x2] [.double y0, .double p3, .double y2] 2
set_option maxRecDepth 65536 in
set_option maxHeartbeats 40000000 in
theorem rm8_1 (l : Launch) (Z : State) (a0 : Array Value) (hw : ∀ d ∈ tables_1, d.before a0 Z = true) (ws : List Jvm.Cond) (cc : Addr) (p2 : Int64) (p3 : UInt64) (tb rb : Addr) (k1 k2 : ClassId) (x0 x1 x2 : Int64) (y0 y1 y2 : UInt64) (h0 : Heap) (n0 : Nat) (Z0 : n0 ≤ h0.size) (C0 : own_C Z h0 cc tb rb k1 k2 [.long x0, .long x1, .long x2] [.double y0, .double y1, .double y2] (1 : Int32)) (g1 : n0 ≤ cc) (q1 : @LT.lt Nat _ cc tb) (q2 : @LT.lt Nat _ tb rb) :
    MetFree l (⟨"com/example/fewbits/fewbits/store/SegmentHull$Chain", "add", "(JD)V"⟩ : MethodName) (head1 (Jvm.Cond.code (⟨"com/example/fewbits/fewbits/store/SegmentHull$Chain", "add", "(JD)V"⟩ : MethodName) prog_36_method_3_code 5 none :: ws) ({ frames := 2, cells := 0, slots := 0, locals := 48 } : Room)) (fun a U => a = #[(.ref cc), (.long p2), (.double p3)] ∧ Z.Warmed39 U.vm ∧ U.heap = h0) (fun _ _ _ _ _ => True) (fun _ U oo U' => ∃ vv LL, oo = .returned vv ∧ (Q_rm8_1 Z cc p2 p3 tb rb k1 k2 x0 x1 x2 y0 y1 y2 h0 n0) vv U'.heap LL ∧ FrameEnd U oo U' LL ({ frames := 2, cells := 0, slots := 0, locals := 48 } : Room).cells ({ frames := 2, cells := 0, slots := 0, locals := 48 } : Room).slots) := by
  refine MetFree.of_bodySF (plainFor_of_name pn_8) hisR ?_
  intro p e s m args below meth c s₁ Bd hml0 hP hK
  obtain ⟨rfl, hZ, hh⟩ := hP
  have hx := Bd.exec
  have hby := Bd.bytes
  have hml : c.maxLocals = 5 := hml0
  have hown : s.vm.findClass "com/example/fewbits/fewbits/store/SegmentHull$Chain" = some m.cls := findClass_of_methodNamed Bd.named
  have hnm := (name_of_methodNamed Bd.named Bd.method).1
  have X0 : Stand p l e ({ frames := 2, cells := 0, slots := 0, locals := 48 } : Room) s m #[(.ref cc), (.long p2), (.double p3)] below meth c s₁ [] 0 0 := Stand.of_body Bd
  have e0 : s₁.heap = h0 := by rw [← hh, Bd.state]; rfl
  have N0 := Fr.nil n0
  show Goes p e below (Fin s (Q_rm8_1 Z cc p2 p3 tb rb k1 k2 x0 x1 x2 y0 y1 y2 h0 n0) ({ frames := 2, cells := 0, slots := 0, locals := 48 } : Room).cells ({ frames := 2, cells := 0, slots := 0, locals := 48 } : Room).slots) _
  refine Goes.via (S' := s₁.setTop (mkF m 0 #[.val (.ref cc), .val (.long p2), .second, .val (.double p3), .second] [])) (fun tz kz => castTop (ef_8 m cc p2 p3 ) kz) ?_
  refine Goes.via (S' := s₁.setTop (mkF m 1 #[.val (.ref cc), .val (.long p2), .second, .val (.double p3), .second] [(.ref cc)])) (fun tz kz => ?_) ?_
  · show Steps p.tables e below (s₁.setTop (mkF m 0 #[.val (.ref cc), .val (.long p2), .second, .val (.double p3), .second] [])) _
    refine XS.aloadN X0.here hx rfl (hb hby d8_0) rfl rfl ?_
    exact kz
  obtain ⟨T1, X1, e1, st1⟩ := getF X0 hx hZ hown (host := "") (Or.inl (hw _ (List.mem_of_getElem? (i := 48) rfl))) Via.refl e0 C0.2.2.2.1 (g := (mkF m 1 #[.val (.ref cc), .val (.long p2), .second, .val (.double p3), .second] [(.ref cc)])) rfl rfl (hb hby d8_1)
  refine Goes.via (S' := T1.setTop (mkF m 4 #[.val (.ref cc), .val (.long p2), .second, .val (.double p3), .second] [(.int (1 : Int32))])) st1 ?_
  refine Goes.via (S' := T1.setTop (mkF m 70 #[.val (.ref cc), .val (.long p2), .second, .val (.double p3), .second] [(.ref cc)])) (fun tz kz => ?_) ?_
  · show Steps p.tables e below (T1.setTop (mkF m 4 #[.val (.ref cc), .val (.long p2), .second, .val (.double p3), .second] [(.int (1 : Int32))])) _
    refine XS.iconst X1.here hx rfl (hb hby d8_4) ?_
    show Steps p.tables e below (T1.setTop (mkF m 5 #[.val (.ref cc), .val (.long p2), .second, .val (.double p3), .second] [(.int (2 : Int32)), (.int (1 : Int32))])) _
    refine XS.icmpYes X1.here hx rfl (pc0 := 5) (pc' := 69) rfl (hb hby d8_5) rfl (tlt (by decide)).1 (by decide) (by decide) ?_
    show Steps p.tables e below (T1.setTop (mkF m 69 #[.val (.ref cc), .val (.long p2), .second, .val (.double p3), .second] [])) _
    refine XS.aloadN X1.here hx rfl (hb hby d8_69) rfl rfl ?_
    exact kz
  obtain ⟨T2, X2, e2, st2⟩ := getF X1 hx hZ hown (host := "") (Or.inl (hw _ (List.mem_of_getElem? (i := 48) rfl))) Via.refl e1 C0.2.2.2.1 (g := (mkF m 70 #[.val (.ref cc), .val (.long p2), .second, .val (.double p3), .second] [(.ref cc)])) rfl rfl (hb hby d8_70)
  refine Goes.via (S' := T2.setTop (mkF m 73 #[.val (.ref cc), .val (.long p2), .second, .val (.double p3), .second] [(.int (1 : Int32))])) st2 ?_
  refine Goes.via (S' := T2.setTop (mkF m 74 #[.val (.ref cc), .val (.long p2), .second, .val (.double p3), .second] [(.ref cc), (.int (1 : Int32))])) (fun tz kz => ?_) ?_
  · show Steps p.tables e below (T2.setTop (mkF m 73 #[.val (.ref cc), .val (.long p2), .second, .val (.double p3), .second] [(.int (1 : Int32))])) _
    refine XS.aloadN X2.here hx rfl (hb hby d8_73) rfl rfl ?_
    exact kz
  obtain ⟨T3, X3, e3, st3⟩ := getF X2 hx hZ hown (host := "") (Or.inl (hw _ (List.mem_of_getElem? (i := 17) rfl))) Via.refl e2 C0.2.1 (g := (mkF m 74 #[.val (.ref cc), .val (.long p2), .second, .val (.double p3), .second] [(.ref cc), (.int (1 : Int32))])) rfl rfl (hb hby d8_74)
  refine Goes.via (S' := T3.setTop (mkF m 77 #[.val (.ref cc), .val (.long p2), .second, .val (.double p3), .second] [(.ref tb), (.int (1 : Int32))])) st3 ?_
  obtain ⟨cl4, Ar4, q4, Sz4, Nn4, Hs4, G4⟩ := C0.2.2.2.2.1
  refine Goes.via (S' := T3.setTop (mkF m 116 #[.val (.ref cc), .val (.long p2), .second, .val (.double p3), .second] [(.ref cc)])) (fun tz kz => ?_) ?_
  · show Steps p.tables e below (T3.setTop (mkF m 77 #[.val (.ref cc), .val (.long p2), .second, .val (.double p3), .second] [(.ref tb), (.int (1 : Int32))])) _
    refine X3.arraylength hx (by rw [e3]; exact Ar4.1) (State.isArrayOf_alike hZ.alike Ar4.2.1) (g := (mkF m 77 #[.val (.ref cc), .val (.long p2), .second, .val (.double p3), .second] [(.ref tb), (.int (1 : Int32))])) rfl rfl (hb hby d8_77) _ ?_
    rw [len_of Sz4 Nn4]
    show Steps p.tables e below (T3.setTop (mkF m 78 #[.val (.ref cc), .val (.long p2), .second, .val (.double p3), .second] [(.int (16 : Int32)), (.int (1 : Int32))])) _
    refine XS.icmpYes X3.here hx rfl (pc0 := 78) (pc' := 115) rfl (hb hby d8_78) rfl (feq (by decide)).2 (by decide) (by decide) ?_
    show Steps p.tables e below (T3.setTop (mkF m 115 #[.val (.ref cc), .val (.long p2), .second, .val (.double p3), .second] [])) _
    refine XS.aloadN X3.here hx rfl (hb hby d8_115) rfl rfl ?_
    exact kz
  obtain ⟨T5, X5, e5, st5⟩ := getF X3 hx hZ hown (host := "") (Or.inl (hw _ (List.mem_of_getElem? (i := 17) rfl))) Via.refl e3 C0.2.1 (g := (mkF m 116 #[.val (.ref cc), .val (.long p2), .second, .val (.double p3), .second] [(.ref cc)])) rfl rfl (hb hby d8_116)
  refine Goes.via (S' := T5.setTop (mkF m 119 #[.val (.ref cc), .val (.long p2), .second, .val (.double p3), .second] [(.ref tb)])) st5 ?_
  refine Goes.via (S' := T5.setTop (mkF m 120 #[.val (.ref cc), .val (.long p2), .second, .val (.double p3), .second] [(.ref cc), (.ref tb)])) (fun tz kz => ?_) ?_
  · show Steps p.tables e below (T5.setTop (mkF m 119 #[.val (.ref cc), .val (.long p2), .second, .val (.double p3), .second] [(.ref tb)])) _
    refine XS.aloadN X5.here hx rfl (hb hby d8_119) rfl rfl ?_
    exact kz
  obtain ⟨T6, X6, e6, st6⟩ := getF X5 hx hZ hown (host := "") (Or.inl (hw _ (List.mem_of_getElem? (i := 48) rfl))) Via.refl e5 C0.2.2.2.1 (g := (mkF m 120 #[.val (.ref cc), .val (.long p2), .second, .val (.double p3), .second] [(.ref cc), (.ref tb)])) rfl rfl (hb hby d8_120)
  refine Goes.via (S' := T6.setTop (mkF m 123 #[.val (.ref cc), .val (.long p2), .second, .val (.double p3), .second] [(.int (1 : Int32)), (.ref tb)])) st6 ?_
  refine Goes.via (S' := T6.setTop (mkF m 124 #[.val (.ref cc), .val (.long p2), .second, .val (.double p3), .second] [(.long p2), (.int (1 : Int32)), (.ref tb)])) (fun tz kz => ?_) ?_
  · show Steps p.tables e below (T6.setTop (mkF m 123 #[.val (.ref cc), .val (.long p2), .second, .val (.double p3), .second] [(.int (1 : Int32)), (.ref tb)])) _
    refine XS.lloadN X6.here hx rfl (hb hby d8_123) rfl ?_
    exact kz
  obtain ⟨cl7, Ar7, q7, Sz7, Nn7, Hs7, G7⟩ := C0.2.2.2.2.1
  obtain ⟨T8, h8, X8, e8, W8, st8⟩ := stJ X6 hx hZ e6 Ar7 (j := (1 : Int32)) (inb_of Sz7 ⟨by decide, by decide⟩) (g := (mkF m 124 #[.val (.ref cc), .val (.long p2), .second, .val (.double p3), .second] [(.long p2), (.int (1 : Int32)), (.ref tb)])) rfl rfl (hb hby d8_124)
  refine Goes.via (S' := T8.setTop (mkF m 125 #[.val (.ref cc), .val (.long p2), .second, .val (.double p3), .second] [])) st8 ?_
  have N8 := Fr.snoc X8 N0 (Nat.le_trans g1 (Nat.le_of_lt q1))
  have A8 := Arv.set Ar7 q7 Sz7 Nn7 Hs7 G7 rfl W8 1 rfl (Nat.le_of_ble_eq_true rfl)
  have C8 : own_C Z h8 cc tb rb k1 k2 _ _ _ := ⟨C0.1.wr W8, C0.2.1.other W8 (Or.inl (own_lt q1)), C0.2.2.1.other W8 (Or.inl (own_lt q1)), C0.2.2.2.1.other W8 (Or.inl (own_lt q1)), A8, C0.2.2.2.2.2.other W8 (own_gt q2)⟩
  have K8 := (Keep.refl h0 [cc, tb, rb]).wr W8 (Or.inl (by simp))
  refine Goes.via (S' := T8.setTop (mkF m 126 #[.val (.ref cc), .val (.long p2), .second, .val (.double p3), .second] [(.ref cc)])) (fun tz kz => ?_) ?_
  · show Steps p.tables e below (T8.setTop (mkF m 125 #[.val (.ref cc), .val (.long p2), .second, .val (.double p3), .second] [])) _
    refine XS.aloadN X8.here hx rfl (hb hby d8_125) rfl rfl ?_
    exact kz
  obtain ⟨T9, X9, e9, st9⟩ := getF X8 hx hZ hown (host := "") (Or.inl (hw _ (List.mem_of_getElem? (i := 20) rfl))) Via.refl e8 C8.2.2.1 (g := (mkF m 126 #[.val (.ref cc), .val (.long p2), .second, .val (.double p3), .second] [(.ref cc)])) rfl rfl (hb hby d8_126)
  refine Goes.via (S' := T9.setTop (mkF m 129 #[.val (.ref cc), .val (.long p2), .second, .val (.double p3), .second] [(.ref rb)])) st9 ?_
  refine Goes.via (S' := T9.setTop (mkF m 130 #[.val (.ref cc), .val (.long p2), .second, .val (.double p3), .second] [(.ref cc), (.ref rb)])) (fun tz kz => ?_) ?_
  · show Steps p.tables e below (T9.setTop (mkF m 129 #[.val (.ref cc), .val (.long p2), .second, .val (.double p3), .second] [(.ref rb)])) _
    refine XS.aloadN X9.here hx rfl (hb hby d8_129) rfl rfl ?_
    exact kz
  obtain ⟨T10, X10, e10, st10⟩ := getF X9 hx hZ hown (host := "") (Or.inl (hw _ (List.mem_of_getElem? (i := 48) rfl))) Via.refl e9 C8.2.2.2.1 (g := (mkF m 130 #[.val (.ref cc), .val (.long p2), .second, .val (.double p3), .second] [(.ref cc), (.ref rb)])) rfl rfl (hb hby d8_130)
  refine Goes.via (S' := T10.setTop (mkF m 133 #[.val (.ref cc), .val (.long p2), .second, .val (.double p3), .second] [(.int (1 : Int32)), (.ref rb)])) st10 ?_
  refine Goes.via (S' := T10.setTop (mkF m 134 #[.val (.ref cc), .val (.long p2), .second, .val (.double p3), .second] [(.double p3), (.int (1 : Int32)), (.ref rb)])) (fun tz kz => ?_) ?_
  · show Steps p.tables e below (T10.setTop (mkF m 133 #[.val (.ref cc), .val (.long p2), .second, .val (.double p3), .second] [(.int (1 : Int32)), (.ref rb)])) _
    refine XS.dloadN X10.here hx rfl (hb hby d8_133) rfl ?_
    exact kz
  obtain ⟨cl11, Ar11, q11, Sz11, Nn11, Hs11, G11⟩ := C8.2.2.2.2.2
  obtain ⟨T12, h12, X12, e12, W12, st12⟩ := stD X10 hx hZ e10 Ar11 (j := (1 : Int32)) (inb_of Sz11 ⟨by decide, by decide⟩) (g := (mkF m 134 #[.val (.ref cc), .val (.long p2), .second, .val (.double p3), .second] [(.double p3), (.int (1 : Int32)), (.ref rb)])) rfl rfl (hb hby d8_134)
  refine Goes.via (S' := T12.setTop (mkF m 135 #[.val (.ref cc), .val (.long p2), .second, .val (.double p3), .second] [])) st12 ?_
  have N12 := Fr.snoc X12 N8 (Nat.le_trans g1 (Nat.le_of_lt (Nat.lt_trans q1 q2)))
  have A12 := Arv.set Ar11 q11 Sz11 Nn11 Hs11 G11 rfl W12 1 rfl (Nat.le_of_ble_eq_true rfl)
  have C12 : own_C Z h12 cc tb rb k1 k2 _ _ _ := ⟨C8.1.wr W12, C8.2.1.other W12 (Or.inl (own_lt (Nat.lt_trans q1 q2))), C8.2.2.1.other W12 (Or.inl (own_lt (Nat.lt_trans q1 q2))), C8.2.2.2.1.other W12 (Or.inl (own_lt (Nat.lt_trans q1 q2))), C8.2.2.2.2.1.other W12 (own_lt q2), A12⟩
  have K12 := (K8).wr W12 (Or.inl (by simp))
  refine Goes.via (S' := T12.setTop (mkF m 137 #[.val (.ref cc), .val (.long p2), .second, .val (.double p3), .second] [(.ref cc), (.ref cc)])) (fun tz kz => ?_) ?_
  · show Steps p.tables e below (T12.setTop (mkF m 135 #[.val (.ref cc), .val (.long p2), .second, .val (.double p3), .second] [])) _
    refine XS.aloadN X12.here hx rfl (hb hby d8_135) rfl rfl ?_
    show Steps p.tables e below (T12.setTop (mkF m 136 #[.val (.ref cc), .val (.long p2), .second, .val (.double p3), .second] [(.ref cc)])) _
    refine XS.dup X12.here hx rfl (hb hby d8_136) rfl rfl ?_
    exact kz
  obtain ⟨T13, X13, e13, st13⟩ := getF X12 hx hZ hown (host := "") (Or.inl (hw _ (List.mem_of_getElem? (i := 48) rfl))) Via.refl e12 C12.2.2.2.1 (g := (mkF m 137 #[.val (.ref cc), .val (.long p2), .second, .val (.double p3), .second] [(.ref cc), (.ref cc)])) rfl rfl (hb hby d8_137)
  refine Goes.via (S' := T13.setTop (mkF m 140 #[.val (.ref cc), .val (.long p2), .second, .val (.double p3), .second] [(.int (1 : Int32)), (.ref cc)])) st13 ?_
  refine Goes.via (S' := T13.setTop (mkF m 142 #[.val (.ref cc), .val (.long p2), .second, .val (.double p3), .second] [(.int (2 : Int32)), (.ref cc)])) (fun tz kz => ?_) ?_
  · show Steps p.tables e below (T13.setTop (mkF m 140 #[.val (.ref cc), .val (.long p2), .second, .val (.double p3), .second] [(.int (1 : Int32)), (.ref cc)])) _
    refine XS.iconst X13.here hx rfl (hb hby d8_140) ?_
    show Steps p.tables e below (T13.setTop (mkF m 141 #[.val (.ref cc), .val (.long p2), .second, .val (.double p3), .second] [(.int (1 : Int32)), (.int (1 : Int32)), (.ref cc)])) _
    refine XS.iadd X13.here hx rfl (hb hby d8_141) rfl ?_
    exact kz
  obtain ⟨T14, h14, X14, e14, W14, st14⟩ := putF X13 hx hZ hown (host := "") (Or.inl (hw _ (List.mem_of_getElem? (i := 48) rfl))) Via.refl e13 C12.2.2.2.1 C12.1 (Or.inl (hw _ (List.mem_of_getElem? (i := 32) rfl))) (hw _ (List.mem_of_getElem? (i := 10) rfl)) (ty := .int) (by decide) rfl rfl (g := (mkF m 142 #[.val (.ref cc), .val (.long p2), .second, .val (.double p3), .second] [(.int (2 : Int32)), (.ref cc)])) rfl rfl (hb hby d8_142)
  refine Goes.via (S' := T14.setTop (mkF m 145 #[.val (.ref cc), .val (.long p2), .second, .val (.double p3), .second] [])) st14 ?_
  have N14 := Fr.snoc X14 N12 g1
  have C14 : own_C Z h14 cc tb rb k1 k2 _ _ _ := ⟨C12.1.wr W14, C12.2.1.other W14 (Or.inr (slot_ne (Or.inl (hw _ (List.mem_of_getElem? (i := 18) rfl))) (Or.inl (hw _ (List.mem_of_getElem? (i := 32) rfl))) (by decide) (t := (.array .long)) (t' := .int) (by decide) (by decide))), C12.2.2.1.other W14 (Or.inr (slot_ne (Or.inl (hw _ (List.mem_of_getElem? (i := 21) rfl))) (Or.inl (hw _ (List.mem_of_getElem? (i := 32) rfl))) (by decide) (t := (.array .double)) (t' := .int) (by decide) (by decide))), C12.2.2.2.1.same W14, C12.2.2.2.2.1.other W14 (own_gt q1), C12.2.2.2.2.2.other W14 (own_gt (Nat.lt_trans q1 q2))⟩
  have K14 := (K12).wr W14 (Or.inl (by simp))
  exact Goes.retV X14 hx Bd.notSynchronized Bd.returns (hb hby d8_145) (Nat.le_of_ble_eq_true rfl) (Nat.le_of_ble_eq_true rfl) (by rw [e14]; exact ⟨rfl, N14, K14, C14⟩)
def Q_rm8_2 (Z : State) (cc : Addr) (p2 : Int64) (p3 : UInt64) (tb rb : Addr) (k1 k2 : ClassId) (x0 x1 x2 : Int64) (y0 y1 y2 : UInt64) (h0 : Heap) (n0 : Nat) : Option Value → Heap → List Loc → Prop := fun v h L => v = none ∧ Fr n0 L ∧ Keep h0 h [cc, tb, rb] ∧ ∃ m : Int32, (m = 2 ∨ m = 3) ∧ ∃ ts rs : List Value, own_C Z h cc tb rb k1 k2 ts rs m
set_option maxRecDepth 65536 in
set_option maxHeartbeats 40000000 in
theorem rm8_2 (l : Launch) (Z : State) (a0 : Array Value) (hw : ∀ d ∈ tables_1, d.before a0 Z = true) (ws : List Jvm.Cond) (cc : Addr) (p2 : Int64) (p3 : UInt64) (tb rb : Addr) (k1 k2 : ClassId) (x0 x1 x2 : Int64) (y0 y1 y2 : UInt64) (h0 : Heap) (n0 : Nat) (Z0 : n0 ≤ h0.size) (C0 : own_C Z h0 cc tb rb k1 k2 [.long x0, .long x1, .long x2] [.double y0, .double y1, .double y2] (2 : Int32)) (g1 : n0 ≤ cc) (q1 : @LT.lt Nat _ cc tb) (q2 : @LT.lt Nat _ tb rb) (f0 : Fin64 y0) (f1 : Fin64 y1) (f2 : Fin64 p3) (hd1 : own_later x0 x1) (hd2 : own_later x1 p2) :
    MetFree l (⟨"com/example/fewbits/fewbits/store/SegmentHull$Chain", "add", "(JD)V"⟩ : MethodName) (head1 (Jvm.Cond.code (⟨"com/example/fewbits/fewbits/store/SegmentHull$Chain", "add", "(JD)V"⟩ : MethodName) prog_36_method_3_code 5 none :: ws) ({ frames := 2, cells := 0, slots := 0, locals := 48 } : Room)) (fun a U => a = #[(.ref cc), (.long p2), (.double p3)] ∧ Z.Warmed39 U.vm ∧ U.heap = h0) (fun _ _ _ _ _ => True) (fun _ U oo U' => ∃ vv LL, oo = .returned vv ∧ (Q_rm8_2 Z cc p2 p3 tb rb k1 k2 x0 x1 x2 y0 y1 y2 h0 n0) vv U'.heap LL ∧ FrameEnd U oo U' LL ({ frames := 2, cells := 0, slots := 0, locals := 48 } : Room).cells ({ frames := 2, cells := 0, slots := 0, locals := 48 } : Room).slots) := by
  refine MetFree.of_bodySF (plainFor_of_name pn_8) hisR ?_
  intro p e s m args below meth c s₁ Bd hml0 hP hK
  obtain ⟨rfl, hZ, hh⟩ := hP
  have hx := Bd.exec
  have hby := Bd.bytes
  have hml : c.maxLocals = 5 := hml0
  have hown : s.vm.findClass "com/example/fewbits/fewbits/store/SegmentHull$Chain" = some m.cls := findClass_of_methodNamed Bd.named
  have hnm := (name_of_methodNamed Bd.named Bd.method).1
  have X0 : Stand p l e ({ frames := 2, cells := 0, slots := 0, locals := 48 } : Room) s m #[(.ref cc), (.long p2), (.double p3)] below meth c s₁ [] 0 0 := Stand.of_body Bd
  have e0 : s₁.heap = h0 := by rw [← hh, Bd.state]; rfl
  have N0 := Fr.nil n0
  show Goes p e below (Fin s (Q_rm8_2 Z cc p2 p3 tb rb k1 k2 x0 x1 x2 y0 y1 y2 h0 n0) ({ frames := 2, cells := 0, slots := 0, locals := 48 } : Room).cells ({ frames := 2, cells := 0, slots := 0, locals := 48 } : Room).slots) _
  refine Goes.via (S' := s₁.setTop (mkF m 0 #[.val (.ref cc), .val (.long p2), .second, .val (.double p3), .second] [])) (fun tz kz => castTop (ef_8 m cc p2 p3 ) kz) ?_
  refine Goes.via (S' := s₁.setTop (mkF m 1 #[.val (.ref cc), .val (.long p2), .second, .val (.double p3), .second] [(.ref cc)])) (fun tz kz => ?_) ?_
  · show Steps p.tables e below (s₁.setTop (mkF m 0 #[.val (.ref cc), .val (.long p2), .second, .val (.double p3), .second] [])) _
    refine XS.aloadN X0.here hx rfl (hb hby d8_0) rfl rfl ?_
    exact kz
  obtain ⟨T1, X1, e1, st1⟩ := getF X0 hx hZ hown (host := "") (Or.inl (hw _ (List.mem_of_getElem? (i := 48) rfl))) Via.refl e0 C0.2.2.2.1 (g := (mkF m 1 #[.val (.ref cc), .val (.long p2), .second, .val (.double p3), .second] [(.ref cc)])) rfl rfl (hb hby d8_1)
  refine Goes.via (S' := T1.setTop (mkF m 4 #[.val (.ref cc), .val (.long p2), .second, .val (.double p3), .second] [(.int (2 : Int32))])) st1 ?_
  refine Goes.via (S' := T1.setTop (mkF m 10 #[.val (.ref cc), .val (.long p2), .second, .val (.double p3), .second] [(.ref cc), (.ref cc)])) (fun tz kz => ?_) ?_
  · show Steps p.tables e below (T1.setTop (mkF m 4 #[.val (.ref cc), .val (.long p2), .second, .val (.double p3), .second] [(.int (2 : Int32))])) _
    refine XS.iconst X1.here hx rfl (hb hby d8_4) ?_
    show Steps p.tables e below (T1.setTop (mkF m 5 #[.val (.ref cc), .val (.long p2), .second, .val (.double p3), .second] [(.int (2 : Int32)), (.int (2 : Int32))])) _
    refine XS.icmpNo X1.here hx rfl (hb hby d8_5) rfl (flt (by decide)).1 ?_
    show Steps p.tables e below (T1.setTop (mkF m 8 #[.val (.ref cc), .val (.long p2), .second, .val (.double p3), .second] [])) _
    refine XS.aloadN X1.here hx rfl (hb hby d8_8) rfl rfl ?_
    show Steps p.tables e below (T1.setTop (mkF m 9 #[.val (.ref cc), .val (.long p2), .second, .val (.double p3), .second] [(.ref cc)])) _
    refine XS.aloadN X1.here hx rfl (hb hby d8_9) rfl rfl ?_
    exact kz
  obtain ⟨T2, X2, e2, st2⟩ := getF X1 hx hZ hown (host := "") (Or.inl (hw _ (List.mem_of_getElem? (i := 48) rfl))) Via.refl e1 C0.2.2.2.1 (g := (mkF m 10 #[.val (.ref cc), .val (.long p2), .second, .val (.double p3), .second] [(.ref cc), (.ref cc)])) rfl rfl (hb hby d8_10)
  refine Goes.via (S' := T2.setTop (mkF m 13 #[.val (.ref cc), .val (.long p2), .second, .val (.double p3), .second] [(.int (2 : Int32)), (.ref cc)])) st2 ?_
  refine Goes.via (S' := T2.setTop (mkF m 16 #[.val (.ref cc), .val (.long p2), .second, .val (.double p3), .second] [(.ref cc), (.int (0 : Int32)), (.ref cc)])) (fun tz kz => ?_) ?_
  · show Steps p.tables e below (T2.setTop (mkF m 13 #[.val (.ref cc), .val (.long p2), .second, .val (.double p3), .second] [(.int (2 : Int32)), (.ref cc)])) _
    refine XS.iconst X2.here hx rfl (hb hby d8_13) ?_
    show Steps p.tables e below (T2.setTop (mkF m 14 #[.val (.ref cc), .val (.long p2), .second, .val (.double p3), .second] [(.int (2 : Int32)), (.int (2 : Int32)), (.ref cc)])) _
    refine XS.isub X2.here hx rfl (hb hby d8_14) rfl ?_
    show Steps p.tables e below (T2.setTop (mkF m 15 #[.val (.ref cc), .val (.long p2), .second, .val (.double p3), .second] [(.int (0 : Int32)), (.ref cc)])) _
    refine XS.aloadN X2.here hx rfl (hb hby d8_15) rfl rfl ?_
    exact kz
  obtain ⟨T3, X3, e3, st3⟩ := getF X2 hx hZ hown (host := "") (Or.inl (hw _ (List.mem_of_getElem? (i := 17) rfl))) Via.refl e2 C0.2.1 (g := (mkF m 16 #[.val (.ref cc), .val (.long p2), .second, .val (.double p3), .second] [(.ref cc), (.int (0 : Int32)), (.ref cc)])) rfl rfl (hb hby d8_16)
  refine Goes.via (S' := T3.setTop (mkF m 19 #[.val (.ref cc), .val (.long p2), .second, .val (.double p3), .second] [(.ref tb), (.int (0 : Int32)), (.ref cc)])) st3 ?_
  refine Goes.via (S' := T3.setTop (mkF m 20 #[.val (.ref cc), .val (.long p2), .second, .val (.double p3), .second] [(.ref cc), (.ref tb), (.int (0 : Int32)), (.ref cc)])) (fun tz kz => ?_) ?_
  · show Steps p.tables e below (T3.setTop (mkF m 19 #[.val (.ref cc), .val (.long p2), .second, .val (.double p3), .second] [(.ref tb), (.int (0 : Int32)), (.ref cc)])) _
    refine XS.aloadN X3.here hx rfl (hb hby d8_19) rfl rfl ?_
    exact kz
  obtain ⟨T4, X4, e4, st4⟩ := getF X3 hx hZ hown (host := "") (Or.inl (hw _ (List.mem_of_getElem? (i := 48) rfl))) Via.refl e3 C0.2.2.2.1 (g := (mkF m 20 #[.val (.ref cc), .val (.long p2), .second, .val (.double p3), .second] [(.ref cc), (.ref tb), (.int (0 : Int32)), (.ref cc)])) rfl rfl (hb hby d8_20)
  refine Goes.via (S' := T4.setTop (mkF m 23 #[.val (.ref cc), .val (.long p2), .second, .val (.double p3), .second] [(.int (2 : Int32)), (.ref tb), (.int (0 : Int32)), (.ref cc)])) st4 ?_
  refine Goes.via (S' := T4.setTop (mkF m 25 #[.val (.ref cc), .val (.long p2), .second, .val (.double p3), .second] [(.int (1 : Int32)), (.ref tb), (.int (0 : Int32)), (.ref cc)])) (fun tz kz => ?_) ?_
  · show Steps p.tables e below (T4.setTop (mkF m 23 #[.val (.ref cc), .val (.long p2), .second, .val (.double p3), .second] [(.int (2 : Int32)), (.ref tb), (.int (0 : Int32)), (.ref cc)])) _
    refine XS.iconst X4.here hx rfl (hb hby d8_23) ?_
    show Steps p.tables e below (T4.setTop (mkF m 24 #[.val (.ref cc), .val (.long p2), .second, .val (.double p3), .second] [(.int (1 : Int32)), (.int (2 : Int32)), (.ref tb), (.int (0 : Int32)), (.ref cc)])) _
    refine XS.isub X4.here hx rfl (hb hby d8_24) rfl ?_
    exact kz
  obtain ⟨cl5, Ar5, q5, Sz5, Nn5, Hs5, G5⟩ := C0.2.2.2.2.1
  refine Goes.via (S' := T4.setTop (mkF m 27 #[.val (.ref cc), .val (.long p2), .second, .val (.double p3), .second] [(.ref cc), (.long x1), (.int (0 : Int32)), (.ref cc)])) (fun tz kz => ?_) ?_
  · show Steps p.tables e below (T4.setTop (mkF m 25 #[.val (.ref cc), .val (.long p2), .second, .val (.double p3), .second] [(.int (1 : Int32)), (.ref tb), (.int (0 : Int32)), (.ref cc)])) _
    refine X4.laload hx (j := (1 : Int32)) (v := (.long x1)) (by rw [e4]; exact Ar5.1) (State.isArrayOf_alike hZ.alike Ar5.2.1) Ar5.2.2 (inb_of Sz5 ⟨by decide, by decide⟩) (Has.at Hs5 (inb_of Sz5 ⟨by decide, by decide⟩) rfl) (g := (mkF m 25 #[.val (.ref cc), .val (.long p2), .second, .val (.double p3), .second] [(.int (1 : Int32)), (.ref tb), (.int (0 : Int32)), (.ref cc)])) rfl rfl (hb hby d8_25) _ ?_
    show Steps p.tables e below (T4.setTop (mkF m 26 #[.val (.ref cc), .val (.long p2), .second, .val (.double p3), .second] [(.long x1), (.int (0 : Int32)), (.ref cc)])) _
    refine XS.aloadN X4.here hx rfl (hb hby d8_26) rfl rfl ?_
    exact kz
  obtain ⟨T6, X6, e6, st6⟩ := getF X4 hx hZ hown (host := "") (Or.inl (hw _ (List.mem_of_getElem? (i := 20) rfl))) Via.refl e4 C0.2.2.1 (g := (mkF m 27 #[.val (.ref cc), .val (.long p2), .second, .val (.double p3), .second] [(.ref cc), (.long x1), (.int (0 : Int32)), (.ref cc)])) rfl rfl (hb hby d8_27)
  refine Goes.via (S' := T6.setTop (mkF m 30 #[.val (.ref cc), .val (.long p2), .second, .val (.double p3), .second] [(.ref rb), (.long x1), (.int (0 : Int32)), (.ref cc)])) st6 ?_
  refine Goes.via (S' := T6.setTop (mkF m 31 #[.val (.ref cc), .val (.long p2), .second, .val (.double p3), .second] [(.ref cc), (.ref rb), (.long x1), (.int (0 : Int32)), (.ref cc)])) (fun tz kz => ?_) ?_
  · show Steps p.tables e below (T6.setTop (mkF m 30 #[.val (.ref cc), .val (.long p2), .second, .val (.double p3), .second] [(.ref rb), (.long x1), (.int (0 : Int32)), (.ref cc)])) _
    refine XS.aloadN X6.here hx rfl (hb hby d8_30) rfl rfl ?_
    exact kz
  obtain ⟨T7, X7, e7, st7⟩ := getF X6 hx hZ hown (host := "") (Or.inl (hw _ (List.mem_of_getElem? (i := 48) rfl))) Via.refl e6 C0.2.2.2.1 (g := (mkF m 31 #[.val (.ref cc), .val (.long p2), .second, .val (.double p3), .second] [(.ref cc), (.ref rb), (.long x1), (.int (0 : Int32)), (.ref cc)])) rfl rfl (hb hby d8_31)
  refine Goes.via (S' := T7.setTop (mkF m 34 #[.val (.ref cc), .val (.long p2), .second, .val (.double p3), .second] [(.int (2 : Int32)), (.ref rb), (.long x1), (.int (0 : Int32)), (.ref cc)])) st7 ?_
  refine Goes.via (S' := T7.setTop (mkF m 36 #[.val (.ref cc), .val (.long p2), .second, .val (.double p3), .second] [(.int (1 : Int32)), (.ref rb), (.long x1), (.int (0 : Int32)), (.ref cc)])) (fun tz kz => ?_) ?_
  · show Steps p.tables e below (T7.setTop (mkF m 34 #[.val (.ref cc), .val (.long p2), .second, .val (.double p3), .second] [(.int (2 : Int32)), (.ref rb), (.long x1), (.int (0 : Int32)), (.ref cc)])) _
    refine XS.iconst X7.here hx rfl (hb hby d8_34) ?_
    show Steps p.tables e below (T7.setTop (mkF m 35 #[.val (.ref cc), .val (.long p2), .second, .val (.double p3), .second] [(.int (1 : Int32)), (.int (2 : Int32)), (.ref rb), (.long x1), (.int (0 : Int32)), (.ref cc)])) _
    refine XS.isub X7.here hx rfl (hb hby d8_35) rfl ?_
    exact kz
  obtain ⟨cl8, Ar8, q8, Sz8, Nn8, Hs8, G8⟩ := C0.2.2.2.2.2
  refine Goes.via (S' := T7.setTop (mkF m 37 #[.val (.ref cc), .val (.long p2), .second, .val (.double p3), .second] [(.double y1), (.long x1), (.int (0 : Int32)), (.ref cc)])) (fun tz kz => ?_) ?_
  · show Steps p.tables e below (T7.setTop (mkF m 36 #[.val (.ref cc), .val (.long p2), .second, .val (.double p3), .second] [(.int (1 : Int32)), (.ref rb), (.long x1), (.int (0 : Int32)), (.ref cc)])) _
    refine X7.daload hx (j := (1 : Int32)) (v := (.double y1)) (by rw [e7]; exact Ar8.1) (State.isArrayOf_alike hZ.alike Ar8.2.1) Ar8.2.2 (inb_of Sz8 ⟨by decide, by decide⟩) (Has.at Hs8 (inb_of Sz8 ⟨by decide, by decide⟩) rfl) (g := (mkF m 36 #[.val (.ref cc), .val (.long p2), .second, .val (.double p3), .second] [(.int (1 : Int32)), (.ref rb), (.long x1), (.int (0 : Int32)), (.ref cc)])) rfl rfl (hb hby d8_36) _ ?_
    exact kz
  obtain ⟨cq9, q9, q9'⟩ := (C0.1).cell
  obtain ⟨_, _, ⟨T9, L9, k9, n9⟩, -, X9, ⟨Lc9, hQ9, l9, y9, z9⟩, st9⟩ := X7.privateBack hx (y := (⟨"com/example/fewbits/fewbits/store/SegmentHull$Chain", "slope", "(IJD)D"⟩ : MethodName)) hown (mvT hZ (hw _ (List.mem_of_getElem? (i := 60) rfl))) (mvT hZ (hw _ (List.mem_of_getElem? (i := 61) rfl))) (sel_private hZ (hw _ (List.mem_of_getElem? (i := 10) rfl)) (hw _ (List.mem_of_getElem? (i := 62) rfl)) (hw _ (List.mem_of_getElem? (i := 61) rfl)) (by decide)) (Cond.privateMethod_at (mvP hZ (hw _ (List.mem_of_getElem? (i := 62) rfl)) (args := #[]))) (mvT hZ (hw _ (List.mem_of_getElem? (i := 63) rfl))) (by decide) (backOf (W := 0) (rm9_0 l Z a0 hw [] cc (0 : Int32) x1 y1 tb rb k1 k2 2 x0 x1 x2 y0 y1 y2 h0 n0 Z0 rfl C0 f0 f1 hd1) hZ (hw _ (List.mem_of_getElem? (i := 63) rfl)) (hw _ (List.mem_of_getElem? (i := 11) rfl)) (by decide) (by decide)) (g := (mkF m 37 #[.val (.ref cc), .val (.long p2), .second, .val (.double p3), .second] [(.double y1), (.long x1), (.int (0 : Int32)), (.ref cc)])) rfl (by rw [hml]; rfl) (Steps.refl _) (a := cc) (by rw [e7]; exact q9) q9' (argsL := [(.int (0 : Int32)), (.long x1), (.double y1)]) (rest := []) (lenOf pd_2 rfl) rfl (by show 2 * 0 + _ ≤ _; exact Nat.le_of_eq rfl) (hb hby d8_37) (fun _ _ => ⟨rfl, e7, (by decide : 0 + 0 ≤ _), (by decide : 0 + 0 ≤ _)⟩)
  dsimp only [Pt.U, Pt.locs, Pt.cells, Pt.slots] at X9 l9 y9 z9 st9 hQ9
  subst l9 y9 z9
  obtain ⟨⟨s1, rfl⟩, N9, e9⟩ := hQ9
  have Nf9 := Fr.app N0 N9
  refine Goes.via (S' := T9.setTop (mkF m 40 #[.val (.ref cc), .val (.long p2), .second, .val (.double p3), .second] [(.double s1)])) (fun _ kz => st9.trans kz) ?_
  refine Goes.via (S' := T9.setTop (mkF m 42 #[.val (.ref cc), .val (.long p2), .second, .val (.double p3), .second] [(.ref cc), (.ref cc), (.double s1)])) (fun tz kz => ?_) ?_
  · show Steps p.tables e below (T9.setTop (mkF m 40 #[.val (.ref cc), .val (.long p2), .second, .val (.double p3), .second] [(.double s1)])) _
    refine XS.aloadN X9.here hx rfl (hb hby d8_40) rfl rfl ?_
    show Steps p.tables e below (T9.setTop (mkF m 41 #[.val (.ref cc), .val (.long p2), .second, .val (.double p3), .second] [(.ref cc), (.double s1)])) _
    refine XS.aloadN X9.here hx rfl (hb hby d8_41) rfl rfl ?_
    exact kz
  obtain ⟨T10, X10, e10, st10⟩ := getF X9 hx hZ hown (host := "") (Or.inl (hw _ (List.mem_of_getElem? (i := 48) rfl))) Via.refl e9 C0.2.2.2.1 (g := (mkF m 42 #[.val (.ref cc), .val (.long p2), .second, .val (.double p3), .second] [(.ref cc), (.ref cc), (.double s1)])) rfl rfl (hb hby d8_42)
  refine Goes.via (S' := T10.setTop (mkF m 45 #[.val (.ref cc), .val (.long p2), .second, .val (.double p3), .second] [(.int (2 : Int32)), (.ref cc), (.double s1)])) st10 ?_
  refine Goes.via (S' := T10.setTop (mkF m 49 #[.val (.ref cc), .val (.long p2), .second, .val (.double p3), .second] [(.double p3), (.long p2), (.int (1 : Int32)), (.ref cc), (.double s1)])) (fun tz kz => ?_) ?_
  · show Steps p.tables e below (T10.setTop (mkF m 45 #[.val (.ref cc), .val (.long p2), .second, .val (.double p3), .second] [(.int (2 : Int32)), (.ref cc), (.double s1)])) _
    refine XS.iconst X10.here hx rfl (hb hby d8_45) ?_
    show Steps p.tables e below (T10.setTop (mkF m 46 #[.val (.ref cc), .val (.long p2), .second, .val (.double p3), .second] [(.int (1 : Int32)), (.int (2 : Int32)), (.ref cc), (.double s1)])) _
    refine XS.isub X10.here hx rfl (hb hby d8_46) rfl ?_
    show Steps p.tables e below (T10.setTop (mkF m 47 #[.val (.ref cc), .val (.long p2), .second, .val (.double p3), .second] [(.int (1 : Int32)), (.ref cc), (.double s1)])) _
    refine XS.lloadN X10.here hx rfl (hb hby d8_47) rfl ?_
    show Steps p.tables e below (T10.setTop (mkF m 48 #[.val (.ref cc), .val (.long p2), .second, .val (.double p3), .second] [(.long p2), (.int (1 : Int32)), (.ref cc), (.double s1)])) _
    refine XS.dloadN X10.here hx rfl (hb hby d8_48) rfl ?_
    exact kz
  obtain ⟨cq11, q11, q11'⟩ := (C0.1).cell
  obtain ⟨_, _, ⟨T11, L11, k11, n11⟩, -, X11, ⟨Lc11, hQ11, l11, y11, z11⟩, st11⟩ := X10.privateBack hx (y := (⟨"com/example/fewbits/fewbits/store/SegmentHull$Chain", "slope", "(IJD)D"⟩ : MethodName)) hown (mvT hZ (hw _ (List.mem_of_getElem? (i := 60) rfl))) (mvT hZ (hw _ (List.mem_of_getElem? (i := 61) rfl))) (sel_private hZ (hw _ (List.mem_of_getElem? (i := 10) rfl)) (hw _ (List.mem_of_getElem? (i := 62) rfl)) (hw _ (List.mem_of_getElem? (i := 61) rfl)) (by decide)) (Cond.privateMethod_at (mvP hZ (hw _ (List.mem_of_getElem? (i := 62) rfl)) (args := #[]))) (mvT hZ (hw _ (List.mem_of_getElem? (i := 63) rfl))) (by decide) (backOf (W := 2) (rm9_1 l Z a0 hw [] cc (1 : Int32) p2 p3 tb rb k1 k2 2 x0 x1 x2 y0 y1 y2 h0 n0 Z0 rfl C0 f1 f2 hd2) hZ (hw _ (List.mem_of_getElem? (i := 63) rfl)) (hw _ (List.mem_of_getElem? (i := 11) rfl)) (by decide) (by decide)) (g := (mkF m 49 #[.val (.ref cc), .val (.long p2), .second, .val (.double p3), .second] [(.double p3), (.long p2), (.int (1 : Int32)), (.ref cc), (.double s1)])) rfl (by rw [hml]; rfl) (Steps.refl _) (a := cc) (by rw [e10]; exact q11) q11' (argsL := [(.int (1 : Int32)), (.long p2), (.double p3)]) (rest := [(.double s1)]) (lenOf pd_2 rfl) rfl (by show 2 * 0 + _ ≤ _; exact Nat.le_of_eq rfl) (hb hby d8_49) (fun _ _ => ⟨rfl, e10, (by decide : 0 + 0 ≤ _), (by decide : 0 + 0 ≤ _)⟩)
  dsimp only [Pt.U, Pt.locs, Pt.cells, Pt.slots] at X11 l11 y11 z11 st11 hQ11
  subst l11 y11 z11
  obtain ⟨⟨s2, rfl⟩, N11, e11⟩ := hQ11
  have Nf11 := Fr.app Nf9 N11
  refine Goes.via (S' := T11.setTop (mkF m 52 #[.val (.ref cc), .val (.long p2), .second, .val (.double p3), .second] [(.double s2), (.double s1)])) (fun _ kz => st11.trans kz) ?_
  refine Goes.via (S' := T11.setTop (mkF m 53 #[.val (.ref cc), .val (.long p2), .second, .val (.double p3), .second] [(.int (cmpValue (FP.dcmp s1 s2) .g))])) (fun tz kz => ?_) ?_
  · show Steps p.tables e below (T11.setTop (mkF m 52 #[.val (.ref cc), .val (.long p2), .second, .val (.double p3), .second] [(.double s2), (.double s1)])) _
    refine XS.dcmpS X11.here hx rfl (hb hby d8_52) rfl (v := (cmpValue (FP.dcmp s1 s2) .g)) rfl ?_
    exact kz
  by_cases hc53_12 : (0 : Int32) < (cmpValue (FP.dcmp s1 s2) .g)
  · refine Goes.via (S' := T11.setTop (mkF m 70 #[.val (.ref cc), .val (.long p2), .second, .val (.double p3), .second] [(.ref cc)])) (fun tz kz => ?_) ?_
    · show Steps p.tables e below (T11.setTop (mkF m 53 #[.val (.ref cc), .val (.long p2), .second, .val (.double p3), .second] [(.int (cmpValue (FP.dcmp s1 s2) .g))])) _
      refine XS.ifYes X11.here hx rfl (pc0 := 53) (pc' := 69) rfl (hb hby d8_53) rfl ((if0 _ _).trans (tlt hc53_12).2.2.1) (by decide) (by decide) ?_
      show Steps p.tables e below (T11.setTop (mkF m 69 #[.val (.ref cc), .val (.long p2), .second, .val (.double p3), .second] [])) _
      refine XS.aloadN X11.here hx rfl (hb hby d8_69) rfl rfl ?_
      exact kz
    obtain ⟨T13, X13, e13, st13⟩ := getF X11 hx hZ hown (host := "") (Or.inl (hw _ (List.mem_of_getElem? (i := 48) rfl))) Via.refl e11 C0.2.2.2.1 (g := (mkF m 70 #[.val (.ref cc), .val (.long p2), .second, .val (.double p3), .second] [(.ref cc)])) rfl rfl (hb hby d8_70)
    refine Goes.via (S' := T13.setTop (mkF m 73 #[.val (.ref cc), .val (.long p2), .second, .val (.double p3), .second] [(.int (2 : Int32))])) st13 ?_
    refine Goes.via (S' := T13.setTop (mkF m 74 #[.val (.ref cc), .val (.long p2), .second, .val (.double p3), .second] [(.ref cc), (.int (2 : Int32))])) (fun tz kz => ?_) ?_
    · show Steps p.tables e below (T13.setTop (mkF m 73 #[.val (.ref cc), .val (.long p2), .second, .val (.double p3), .second] [(.int (2 : Int32))])) _
      refine XS.aloadN X13.here hx rfl (hb hby d8_73) rfl rfl ?_
      exact kz
    obtain ⟨T14, X14, e14, st14⟩ := getF X13 hx hZ hown (host := "") (Or.inl (hw _ (List.mem_of_getElem? (i := 17) rfl))) Via.refl e13 C0.2.1 (g := (mkF m 74 #[.val (.ref cc), .val (.long p2), .second, .val (.double p3), .second] [(.ref cc), (.int (2 : Int32))])) rfl rfl (hb hby d8_74)
    refine Goes.via (S' := T14.setTop (mkF m 77 #[.val (.ref cc), .val (.long p2), .second, .val (.double p3), .second] [(.ref tb), (.int (2 : Int32))])) st14 ?_
    obtain ⟨cl15, Ar15, q15, Sz15, Nn15, Hs15, G15⟩ := C0.2.2.2.2.1
    refine Goes.via (S' := T14.setTop (mkF m 116 #[.val (.ref cc), .val (.long p2), .second, .val (.double p3), .second] [(.ref cc)])) (fun tz kz => ?_) ?_
    · show Steps p.tables e below (T14.setTop (mkF m 77 #[.val (.ref cc), .val (.long p2), .second, .val (.double p3), .second] [(.ref tb), (.int (2 : Int32))])) _
      refine X14.arraylength hx (by rw [e14]; exact Ar15.1) (State.isArrayOf_alike hZ.alike Ar15.2.1) (g := (mkF m 77 #[.val (.ref cc), .val (.long p2), .second, .val (.double p3), .second] [(.ref tb), (.int (2 : Int32))])) rfl rfl (hb hby d8_77) _ ?_
      rw [len_of Sz15 Nn15]
      show Steps p.tables e below (T14.setTop (mkF m 78 #[.val (.ref cc), .val (.long p2), .second, .val (.double p3), .second] [(.int (16 : Int32)), (.int (2 : Int32))])) _
      refine XS.icmpYes X14.here hx rfl (pc0 := 78) (pc' := 115) rfl (hb hby d8_78) rfl (feq (by decide)).2 (by decide) (by decide) ?_
      show Steps p.tables e below (T14.setTop (mkF m 115 #[.val (.ref cc), .val (.long p2), .second, .val (.double p3), .second] [])) _
      refine XS.aloadN X14.here hx rfl (hb hby d8_115) rfl rfl ?_
      exact kz
    obtain ⟨T16, X16, e16, st16⟩ := getF X14 hx hZ hown (host := "") (Or.inl (hw _ (List.mem_of_getElem? (i := 17) rfl))) Via.refl e14 C0.2.1 (g := (mkF m 116 #[.val (.ref cc), .val (.long p2), .second, .val (.double p3), .second] [(.ref cc)])) rfl rfl (hb hby d8_116)
    refine Goes.via (S' := T16.setTop (mkF m 119 #[.val (.ref cc), .val (.long p2), .second, .val (.double p3), .second] [(.ref tb)])) st16 ?_
    refine Goes.via (S' := T16.setTop (mkF m 120 #[.val (.ref cc), .val (.long p2), .second, .val (.double p3), .second] [(.ref cc), (.ref tb)])) (fun tz kz => ?_) ?_
    · show Steps p.tables e below (T16.setTop (mkF m 119 #[.val (.ref cc), .val (.long p2), .second, .val (.double p3), .second] [(.ref tb)])) _
      refine XS.aloadN X16.here hx rfl (hb hby d8_119) rfl rfl ?_
      exact kz
    obtain ⟨T17, X17, e17, st17⟩ := getF X16 hx hZ hown (host := "") (Or.inl (hw _ (List.mem_of_getElem? (i := 48) rfl))) Via.refl e16 C0.2.2.2.1 (g := (mkF m 120 #[.val (.ref cc), .val (.long p2), .second, .val (.double p3), .second] [(.ref cc), (.ref tb)])) rfl rfl (hb hby d8_120)
    refine Goes.via (S' := T17.setTop (mkF m 123 #[.val (.ref cc), .val (.long p2), .second, .val (.double p3), .second] [(.int (2 : Int32)), (.ref tb)])) st17 ?_
    refine Goes.via (S' := T17.setTop (mkF m 124 #[.val (.ref cc), .val (.long p2), .second, .val (.double p3), .second] [(.long p2), (.int (2 : Int32)), (.ref tb)])) (fun tz kz => ?_) ?_
    · show Steps p.tables e below (T17.setTop (mkF m 123 #[.val (.ref cc), .val (.long p2), .second, .val (.double p3), .second] [(.int (2 : Int32)), (.ref tb)])) _
      refine XS.lloadN X17.here hx rfl (hb hby d8_123) rfl ?_
      exact kz
    obtain ⟨cl18, Ar18, q18, Sz18, Nn18, Hs18, G18⟩ := C0.2.2.2.2.1
    obtain ⟨T19, h19, X19, e19, W19, st19⟩ := stJ X17 hx hZ e17 Ar18 (j := (2 : Int32)) (inb_of Sz18 ⟨by decide, by decide⟩) (g := (mkF m 124 #[.val (.ref cc), .val (.long p2), .second, .val (.double p3), .second] [(.long p2), (.int (2 : Int32)), (.ref tb)])) rfl rfl (hb hby d8_124)
    refine Goes.via (S' := T19.setTop (mkF m 125 #[.val (.ref cc), .val (.long p2), .second, .val (.double p3), .second] [])) st19 ?_
    have N19 := Fr.snoc X19 Nf11 (Nat.le_trans g1 (Nat.le_of_lt q1))
    have A19 := Arv.set Ar18 q18 Sz18 Nn18 Hs18 G18 rfl W19 2 rfl (Nat.le_of_ble_eq_true rfl)
    have C19 : own_C Z h19 cc tb rb k1 k2 _ _ _ := ⟨C0.1.wr W19, C0.2.1.other W19 (Or.inl (own_lt q1)), C0.2.2.1.other W19 (Or.inl (own_lt q1)), C0.2.2.2.1.other W19 (Or.inl (own_lt q1)), A19, C0.2.2.2.2.2.other W19 (own_gt q2)⟩
    have K19 := (Keep.refl h0 [cc, tb, rb]).wr W19 (Or.inl (by simp))
    refine Goes.via (S' := T19.setTop (mkF m 126 #[.val (.ref cc), .val (.long p2), .second, .val (.double p3), .second] [(.ref cc)])) (fun tz kz => ?_) ?_
    · show Steps p.tables e below (T19.setTop (mkF m 125 #[.val (.ref cc), .val (.long p2), .second, .val (.double p3), .second] [])) _
      refine XS.aloadN X19.here hx rfl (hb hby d8_125) rfl rfl ?_
      exact kz
    obtain ⟨T20, X20, e20, st20⟩ := getF X19 hx hZ hown (host := "") (Or.inl (hw _ (List.mem_of_getElem? (i := 20) rfl))) Via.refl e19 C19.2.2.1 (g := (mkF m 126 #[.val (.ref cc), .val (.long p2), .second, .val (.double p3), .second] [(.ref cc)])) rfl rfl (hb hby d8_126)
    refine Goes.via (S' := T20.setTop (mkF m 129 #[.val (.ref cc), .val (.long p2), .second, .val (.double p3), .second] [(.ref rb)])) st20 ?_
    refine Goes.via (S' := T20.setTop (mkF m 130 #[.val (.ref cc), .val (.long p2), .second, .val (.double p3), .second] [(.ref cc), (.ref rb)])) (fun tz kz => ?_) ?_
    · show Steps p.tables e below (T20.setTop (mkF m 129 #[.val (.ref cc), .val (.long p2), .second, .val (.double p3), .second] [(.ref rb)])) _
      refine XS.aloadN X20.here hx rfl (hb hby d8_129) rfl rfl ?_
      exact kz
    obtain ⟨T21, X21, e21, st21⟩ := getF X20 hx hZ hown (host := "") (Or.inl (hw _ (List.mem_of_getElem? (i := 48) rfl))) Via.refl e20 C19.2.2.2.1 (g := (mkF m 130 #[.val (.ref cc), .val (.long p2), .second, .val (.double p3), .second] [(.ref cc), (.ref rb)])) rfl rfl (hb hby d8_130)
    refine Goes.via (S' := T21.setTop (mkF m 133 #[.val (.ref cc), .val (.long p2), .second, .val (.double p3), .second] [(.int (2 : Int32)), (.ref rb)])) st21 ?_
    refine Goes.via (S' := T21.setTop (mkF m 134 #[.val (.ref cc), .val (.long p2), .second, .val (.double p3), .second] [(.double p3), (.int (2 : Int32)), (.ref rb)])) (fun tz kz => ?_) ?_
    · show Steps p.tables e below (T21.setTop (mkF m 133 #[.val (.ref cc), .val (.long p2), .second, .val (.double p3), .second] [(.int (2 : Int32)), (.ref rb)])) _
      refine XS.dloadN X21.here hx rfl (hb hby d8_133) rfl ?_
      exact kz
    obtain ⟨cl22, Ar22, q22, Sz22, Nn22, Hs22, G22⟩ := C19.2.2.2.2.2
    obtain ⟨T23, h23, X23, e23, W23, st23⟩ := stD X21 hx hZ e21 Ar22 (j := (2 : Int32)) (inb_of Sz22 ⟨by decide, by decide⟩) (g := (mkF m 134 #[.val (.ref cc), .val (.long p2), .second, .val (.double p3), .second] [(.double p3), (.int (2 : Int32)), (.ref rb)])) rfl rfl (hb hby d8_134)
    refine Goes.via (S' := T23.setTop (mkF m 135 #[.val (.ref cc), .val (.long p2), .second, .val (.double p3), .second] [])) st23 ?_
    have N23 := Fr.snoc X23 N19 (Nat.le_trans g1 (Nat.le_of_lt (Nat.lt_trans q1 q2)))
    have A23 := Arv.set Ar22 q22 Sz22 Nn22 Hs22 G22 rfl W23 2 rfl (Nat.le_of_ble_eq_true rfl)
    have C23 : own_C Z h23 cc tb rb k1 k2 _ _ _ := ⟨C19.1.wr W23, C19.2.1.other W23 (Or.inl (own_lt (Nat.lt_trans q1 q2))), C19.2.2.1.other W23 (Or.inl (own_lt (Nat.lt_trans q1 q2))), C19.2.2.2.1.other W23 (Or.inl (own_lt (Nat.lt_trans q1 q2))), C19.2.2.2.2.1.other W23 (own_lt q2), A23⟩
    have K23 := (K19).wr W23 (Or.inl (by simp))
    refine Goes.via (S' := T23.setTop (mkF m 137 #[.val (.ref cc), .val (.long p2), .second, .val (.double p3), .second] [(.ref cc), (.ref cc)])) (fun tz kz => ?_) ?_
    · show Steps p.tables e below (T23.setTop (mkF m 135 #[.val (.ref cc), .val (.long p2), .second, .val (.double p3), .second] [])) _
      refine XS.aloadN X23.here hx rfl (hb hby d8_135) rfl rfl ?_
      show Steps p.tables e below (T23.setTop (mkF m 136 #[.val (.ref cc), .val (.long p2), .second, .val (.double p3), .second] [(.ref cc)])) _
      refine XS.dup X23.here hx rfl (hb hby d8_136) rfl rfl ?_
      exact kz
    obtain ⟨T24, X24, e24, st24⟩ := getF X23 hx hZ hown (host := "") (Or.inl (hw _ (List.mem_of_getElem? (i := 48) rfl))) Via.refl e23 C23.2.2.2.1 (g := (mkF m 137 #[.val (.ref cc), .val (.long p2), .second, .val (.double p3), .second] [(.ref cc), (.ref cc)])) rfl rfl (hb hby d8_137)
    refine Goes.via (S' := T24.setTop (mkF m 140 #[.val (.ref cc), .val (.long p2), .second, .val (.double p3), .second] [(.int (2 : Int32)), (.ref cc)])) st24 ?_
    refine Goes.via (S' := T24.setTop (mkF m 142 #[.val (.ref cc), .val (.long p2), .second, .val (.double p3), .second] [(.int (3 : Int32)), (.ref cc)])) (fun tz kz => ?_) ?_
    · show Steps p.tables e below (T24.setTop (mkF m 140 #[.val (.ref cc), .val (.long p2), .second, .val (.double p3), .second] [(.int (2 : Int32)), (.ref cc)])) _
      refine XS.iconst X24.here hx rfl (hb hby d8_140) ?_
      show Steps p.tables e below (T24.setTop (mkF m 141 #[.val (.ref cc), .val (.long p2), .second, .val (.double p3), .second] [(.int (1 : Int32)), (.int (2 : Int32)), (.ref cc)])) _
      refine XS.iadd X24.here hx rfl (hb hby d8_141) rfl ?_
      exact kz
    obtain ⟨T25, h25, X25, e25, W25, st25⟩ := putF X24 hx hZ hown (host := "") (Or.inl (hw _ (List.mem_of_getElem? (i := 48) rfl))) Via.refl e24 C23.2.2.2.1 C23.1 (Or.inl (hw _ (List.mem_of_getElem? (i := 32) rfl))) (hw _ (List.mem_of_getElem? (i := 10) rfl)) (ty := .int) (by decide) rfl rfl (g := (mkF m 142 #[.val (.ref cc), .val (.long p2), .second, .val (.double p3), .second] [(.int (3 : Int32)), (.ref cc)])) rfl rfl (hb hby d8_142)
    refine Goes.via (S' := T25.setTop (mkF m 145 #[.val (.ref cc), .val (.long p2), .second, .val (.double p3), .second] [])) st25 ?_
    have N25 := Fr.snoc X25 N23 g1
    have C25 : own_C Z h25 cc tb rb k1 k2 _ _ _ := ⟨C23.1.wr W25, C23.2.1.other W25 (Or.inr (slot_ne (Or.inl (hw _ (List.mem_of_getElem? (i := 18) rfl))) (Or.inl (hw _ (List.mem_of_getElem? (i := 32) rfl))) (by decide) (t := (.array .long)) (t' := .int) (by decide) (by decide))), C23.2.2.1.other W25 (Or.inr (slot_ne (Or.inl (hw _ (List.mem_of_getElem? (i := 21) rfl))) (Or.inl (hw _ (List.mem_of_getElem? (i := 32) rfl))) (by decide) (t := (.array .double)) (t' := .int) (by decide) (by decide))), C23.2.2.2.1.same W25, C23.2.2.2.2.1.other W25 (own_gt q1), C23.2.2.2.2.2.other W25 (own_gt (Nat.lt_trans q1 q2))⟩
    have K25 := (K23).wr W25 (Or.inl (by simp))
    exact Goes.retV X25 hx Bd.notSynchronized Bd.returns (hb hby d8_145) (Nat.le_of_ble_eq_true rfl) (Nat.le_of_ble_eq_true rfl) (by rw [e25]; exact ⟨rfl, N25, K25, _, Or.inr rfl, _, _, C25⟩)
  · refine Goes.via (S' := T11.setTop (mkF m 58 #[.val (.ref cc), .val (.long p2), .second, .val (.double p3), .second] [(.ref cc), (.ref cc)])) (fun tz kz => ?_) ?_
    · show Steps p.tables e below (T11.setTop (mkF m 53 #[.val (.ref cc), .val (.long p2), .second, .val (.double p3), .second] [(.int (cmpValue (FP.dcmp s1 s2) .g))])) _
      refine XS.ifNo X11.here hx rfl (hb hby d8_53) rfl ((if0 _ _).trans (flt hc53_12).2.2.1) ?_
      show Steps p.tables e below (T11.setTop (mkF m 56 #[.val (.ref cc), .val (.long p2), .second, .val (.double p3), .second] [])) _
      refine XS.aloadN X11.here hx rfl (hb hby d8_56) rfl rfl ?_
      show Steps p.tables e below (T11.setTop (mkF m 57 #[.val (.ref cc), .val (.long p2), .second, .val (.double p3), .second] [(.ref cc)])) _
      refine XS.dup X11.here hx rfl (hb hby d8_57) rfl rfl ?_
      exact kz
    obtain ⟨T26, X26, e26, st26⟩ := getF X11 hx hZ hown (host := "") (Or.inl (hw _ (List.mem_of_getElem? (i := 48) rfl))) Via.refl e11 C0.2.2.2.1 (g := (mkF m 58 #[.val (.ref cc), .val (.long p2), .second, .val (.double p3), .second] [(.ref cc), (.ref cc)])) rfl rfl (hb hby d8_58)
    refine Goes.via (S' := T26.setTop (mkF m 61 #[.val (.ref cc), .val (.long p2), .second, .val (.double p3), .second] [(.int (2 : Int32)), (.ref cc)])) st26 ?_
    refine Goes.via (S' := T26.setTop (mkF m 63 #[.val (.ref cc), .val (.long p2), .second, .val (.double p3), .second] [(.int (1 : Int32)), (.ref cc)])) (fun tz kz => ?_) ?_
    · show Steps p.tables e below (T26.setTop (mkF m 61 #[.val (.ref cc), .val (.long p2), .second, .val (.double p3), .second] [(.int (2 : Int32)), (.ref cc)])) _
      refine XS.iconst X26.here hx rfl (hb hby d8_61) ?_
      show Steps p.tables e below (T26.setTop (mkF m 62 #[.val (.ref cc), .val (.long p2), .second, .val (.double p3), .second] [(.int (1 : Int32)), (.int (2 : Int32)), (.ref cc)])) _
      refine XS.isub X26.here hx rfl (hb hby d8_62) rfl ?_
      exact kz
    obtain ⟨T27, h27, X27, e27, W27, st27⟩ := putF X26 hx hZ hown (host := "") (Or.inl (hw _ (List.mem_of_getElem? (i := 48) rfl))) Via.refl e26 C0.2.2.2.1 C0.1 (Or.inl (hw _ (List.mem_of_getElem? (i := 32) rfl))) (hw _ (List.mem_of_getElem? (i := 10) rfl)) (ty := .int) (by decide) rfl rfl (g := (mkF m 63 #[.val (.ref cc), .val (.long p2), .second, .val (.double p3), .second] [(.int (1 : Int32)), (.ref cc)])) rfl rfl (hb hby d8_63)
    refine Goes.via (S' := T27.setTop (mkF m 66 #[.val (.ref cc), .val (.long p2), .second, .val (.double p3), .second] [])) st27 ?_
    have N27 := Fr.snoc X27 Nf11 g1
    have C27 : own_C Z h27 cc tb rb k1 k2 _ _ _ := ⟨C0.1.wr W27, C0.2.1.other W27 (Or.inr (slot_ne (Or.inl (hw _ (List.mem_of_getElem? (i := 18) rfl))) (Or.inl (hw _ (List.mem_of_getElem? (i := 32) rfl))) (by decide) (t := (.array .long)) (t' := .int) (by decide) (by decide))), C0.2.2.1.other W27 (Or.inr (slot_ne (Or.inl (hw _ (List.mem_of_getElem? (i := 21) rfl))) (Or.inl (hw _ (List.mem_of_getElem? (i := 32) rfl))) (by decide) (t := (.array .double)) (t' := .int) (by decide) (by decide))), C0.2.2.2.1.same W27, C0.2.2.2.2.1.other W27 (own_gt q1), C0.2.2.2.2.2.other W27 (own_gt (Nat.lt_trans q1 q2))⟩
    have K27 := (Keep.refl h0 [cc, tb, rb]).wr W27 (Or.inl (by simp))
    refine Goes.via (S' := T27.setTop (mkF m 1 #[.val (.ref cc), .val (.long p2), .second, .val (.double p3), .second] [(.ref cc)])) (fun tz kz => ?_) ?_
    · show Steps p.tables e below (T27.setTop (mkF m 66 #[.val (.ref cc), .val (.long p2), .second, .val (.double p3), .second] [])) _
      refine XS.goto X27.here hx rfl (pc0 := 66) (pc' := 0) rfl (hb hby d8_66) (by decide) (by decide) ?_
      show Steps p.tables e below (T27.setTop (mkF m 0 #[.val (.ref cc), .val (.long p2), .second, .val (.double p3), .second] [])) _
      refine XS.aloadN X27.here hx rfl (hb hby d8_0) rfl rfl ?_
      exact kz
    obtain ⟨T28, X28, e28, st28⟩ := getF X27 hx hZ hown (host := "") (Or.inl (hw _ (List.mem_of_getElem? (i := 48) rfl))) Via.refl e27 C27.2.2.2.1 (g := (mkF m 1 #[.val (.ref cc), .val (.long p2), .second, .val (.double p3), .second] [(.ref cc)])) rfl rfl (hb hby d8_1)
    refine Goes.via (S' := T28.setTop (mkF m 4 #[.val (.ref cc), .val (.long p2), .second, .val (.double p3), .second] [(.int (1 : Int32))])) st28 ?_
    refine Goes.via (S' := T28.setTop (mkF m 70 #[.val (.ref cc), .val (.long p2), .second, .val (.double p3), .second] [(.ref cc)])) (fun tz kz => ?_) ?_
    · show Steps p.tables e below (T28.setTop (mkF m 4 #[.val (.ref cc), .val (.long p2), .second, .val (.double p3), .second] [(.int (1 : Int32))])) _
      refine XS.iconst X28.here hx rfl (hb hby d8_4) ?_
      show Steps p.tables e below (T28.setTop (mkF m 5 #[.val (.ref cc), .val (.long p2), .second, .val (.double p3), .second] [(.int (2 : Int32)), (.int (1 : Int32))])) _
      refine XS.icmpYes X28.here hx rfl (pc0 := 5) (pc' := 69) rfl (hb hby d8_5) rfl (tlt (by decide)).1 (by decide) (by decide) ?_
      show Steps p.tables e below (T28.setTop (mkF m 69 #[.val (.ref cc), .val (.long p2), .second, .val (.double p3), .second] [])) _
      refine XS.aloadN X28.here hx rfl (hb hby d8_69) rfl rfl ?_
      exact kz
    obtain ⟨T29, X29, e29, st29⟩ := getF X28 hx hZ hown (host := "") (Or.inl (hw _ (List.mem_of_getElem? (i := 48) rfl))) Via.refl e28 C27.2.2.2.1 (g := (mkF m 70 #[.val (.ref cc), .val (.long p2), .second, .val (.double p3), .second] [(.ref cc)])) rfl rfl (hb hby d8_70)
    refine Goes.via (S' := T29.setTop (mkF m 73 #[.val (.ref cc), .val (.long p2), .second, .val (.double p3), .second] [(.int (1 : Int32))])) st29 ?_
    refine Goes.via (S' := T29.setTop (mkF m 74 #[.val (.ref cc), .val (.long p2), .second, .val (.double p3), .second] [(.ref cc), (.int (1 : Int32))])) (fun tz kz => ?_) ?_
    · show Steps p.tables e below (T29.setTop (mkF m 73 #[.val (.ref cc), .val (.long p2), .second, .val (.double p3), .second] [(.int (1 : Int32))])) _
      refine XS.aloadN X29.here hx rfl (hb hby d8_73) rfl rfl ?_
      exact kz
    obtain ⟨T30, X30, e30, st30⟩ := getF X29 hx hZ hown (host := "") (Or.inl (hw _ (List.mem_of_getElem? (i := 17) rfl))) Via.refl e29 C27.2.1 (g := (mkF m 74 #[.val (.ref cc), .val (.long p2), .second, .val (.double p3), .second] [(.ref cc), (.int (1 : Int32))])) rfl rfl (hb hby d8_74)
    refine Goes.via (S' := T30.setTop (mkF m 77 #[.val (.ref cc), .val (.long p2), .second, .val (.double p3), .second] [(.ref tb), (.int (1 : Int32))])) st30 ?_
    obtain ⟨cl31, Ar31, q31, Sz31, Nn31, Hs31, G31⟩ := C27.2.2.2.2.1
    refine Goes.via (S' := T30.setTop (mkF m 116 #[.val (.ref cc), .val (.long p2), .second, .val (.double p3), .second] [(.ref cc)])) (fun tz kz => ?_) ?_
    · show Steps p.tables e below (T30.setTop (mkF m 77 #[.val (.ref cc), .val (.long p2), .second, .val (.double p3), .second] [(.ref tb), (.int (1 : Int32))])) _
      refine X30.arraylength hx (by rw [e30]; exact Ar31.1) (State.isArrayOf_alike hZ.alike Ar31.2.1) (g := (mkF m 77 #[.val (.ref cc), .val (.long p2), .second, .val (.double p3), .second] [(.ref tb), (.int (1 : Int32))])) rfl rfl (hb hby d8_77) _ ?_
      rw [len_of Sz31 Nn31]
      show Steps p.tables e below (T30.setTop (mkF m 78 #[.val (.ref cc), .val (.long p2), .second, .val (.double p3), .second] [(.int (16 : Int32)), (.int (1 : Int32))])) _
      refine XS.icmpYes X30.here hx rfl (pc0 := 78) (pc' := 115) rfl (hb hby d8_78) rfl (feq (by decide)).2 (by decide) (by decide) ?_
      show Steps p.tables e below (T30.setTop (mkF m 115 #[.val (.ref cc), .val (.long p2), .second, .val (.double p3), .second] [])) _
      refine XS.aloadN X30.here hx rfl (hb hby d8_115) rfl rfl ?_
      exact kz
    obtain ⟨T32, X32, e32, st32⟩ := getF X30 hx hZ hown (host := "") (Or.inl (hw _ (List.mem_of_getElem? (i := 17) rfl))) Via.refl e30 C27.2.1 (g := (mkF m 116 #[.val (.ref cc), .val (.long p2), .second, .val (.double p3), .second] [(.ref cc)])) rfl rfl (hb hby d8_116)
    refine Goes.via (S' := T32.setTop (mkF m 119 #[.val (.ref cc), .val (.long p2), .second, .val (.double p3), .second] [(.ref tb)])) st32 ?_
    refine Goes.via (S' := T32.setTop (mkF m 120 #[.val (.ref cc), .val (.long p2), .second, .val (.double p3), .second] [(.ref cc), (.ref tb)])) (fun tz kz => ?_) ?_
    · show Steps p.tables e below (T32.setTop (mkF m 119 #[.val (.ref cc), .val (.long p2), .second, .val (.double p3), .second] [(.ref tb)])) _
      refine XS.aloadN X32.here hx rfl (hb hby d8_119) rfl rfl ?_
      exact kz
    obtain ⟨T33, X33, e33, st33⟩ := getF X32 hx hZ hown (host := "") (Or.inl (hw _ (List.mem_of_getElem? (i := 48) rfl))) Via.refl e32 C27.2.2.2.1 (g := (mkF m 120 #[.val (.ref cc), .val (.long p2), .second, .val (.double p3), .second] [(.ref cc), (.ref tb)])) rfl rfl (hb hby d8_120)
    refine Goes.via (S' := T33.setTop (mkF m 123 #[.val (.ref cc), .val (.long p2), .second, .val (.double p3), .second] [(.int (1 : Int32)), (.ref tb)])) st33 ?_
    refine Goes.via (S' := T33.setTop (mkF m 124 #[.val (.ref cc), .val (.long p2), .second, .val (.double p3), .second] [(.long p2), (.int (1 : Int32)), (.ref tb)])) (fun tz kz => ?_) ?_
    · show Steps p.tables e below (T33.setTop (mkF m 123 #[.val (.ref cc), .val (.long p2), .second, .val (.double p3), .second] [(.int (1 : Int32)), (.ref tb)])) _
      refine XS.lloadN X33.here hx rfl (hb hby d8_123) rfl ?_
      exact kz
    obtain ⟨cl34, Ar34, q34, Sz34, Nn34, Hs34, G34⟩ := C27.2.2.2.2.1
    obtain ⟨T35, h35, X35, e35, W35, st35⟩ := stJ X33 hx hZ e33 Ar34 (j := (1 : Int32)) (inb_of Sz34 ⟨by decide, by decide⟩) (g := (mkF m 124 #[.val (.ref cc), .val (.long p2), .second, .val (.double p3), .second] [(.long p2), (.int (1 : Int32)), (.ref tb)])) rfl rfl (hb hby d8_124)
    refine Goes.via (S' := T35.setTop (mkF m 125 #[.val (.ref cc), .val (.long p2), .second, .val (.double p3), .second] [])) st35 ?_
    have N35 := Fr.snoc X35 N27 (Nat.le_trans g1 (Nat.le_of_lt q1))
    have A35 := Arv.set Ar34 q34 Sz34 Nn34 Hs34 G34 rfl W35 1 rfl (Nat.le_of_ble_eq_true rfl)
    have C35 : own_C Z h35 cc tb rb k1 k2 _ _ _ := ⟨C27.1.wr W35, C27.2.1.other W35 (Or.inl (own_lt q1)), C27.2.2.1.other W35 (Or.inl (own_lt q1)), C27.2.2.2.1.other W35 (Or.inl (own_lt q1)), A35, C27.2.2.2.2.2.other W35 (own_gt q2)⟩
    have K35 := (K27).wr W35 (Or.inl (by simp))
    refine Goes.via (S' := T35.setTop (mkF m 126 #[.val (.ref cc), .val (.long p2), .second, .val (.double p3), .second] [(.ref cc)])) (fun tz kz => ?_) ?_
    · show Steps p.tables e below (T35.setTop (mkF m 125 #[.val (.ref cc), .val (.long p2), .second, .val (.double p3), .second] [])) _
      refine XS.aloadN X35.here hx rfl (hb hby d8_125) rfl rfl ?_
      exact kz
    obtain ⟨T36, X36, e36, st36⟩ := getF X35 hx hZ hown (host := "") (Or.inl (hw _ (List.mem_of_getElem? (i := 20) rfl))) Via.refl e35 C35.2.2.1 (g := (mkF m 126 #[.val (.ref cc), .val (.long p2), .second, .val (.double p3), .second] [(.ref cc)])) rfl rfl (hb hby d8_126)
    refine Goes.via (S' := T36.setTop (mkF m 129 #[.val (.ref cc), .val (.long p2), .second, .val (.double p3), .second] [(.ref rb)])) st36 ?_
    refine Goes.via (S' := T36.setTop (mkF m 130 #[.val (.ref cc), .val (.long p2), .second, .val (.double p3), .second] [(.ref cc), (.ref rb)])) (fun tz kz => ?_) ?_
    · show Steps p.tables e below (T36.setTop (mkF m 129 #[.val (.ref cc), .val (.long p2), .second, .val (.double p3), .second] [(.ref rb)])) _
      refine XS.aloadN X36.here hx rfl (hb hby d8_129) rfl rfl ?_
      exact kz
    obtain ⟨T37, X37, e37, st37⟩ := getF X36 hx hZ hown (host := "") (Or.inl (hw _ (List.mem_of_getElem? (i := 48) rfl))) Via.refl e36 C35.2.2.2.1 (g := (mkF m 130 #[.val (.ref cc), .val (.long p2), .second, .val (.double p3), .second] [(.ref cc), (.ref rb)])) rfl rfl (hb hby d8_130)
    refine Goes.via (S' := T37.setTop (mkF m 133 #[.val (.ref cc), .val (.long p2), .second, .val (.double p3), .second] [(.int (1 : Int32)), (.ref rb)])) st37 ?_
    refine Goes.via (S' := T37.setTop (mkF m 134 #[.val (.ref cc), .val (.long p2), .second, .val (.double p3), .second] [(.double p3), (.int (1 : Int32)), (.ref rb)])) (fun tz kz => ?_) ?_
    · show Steps p.tables e below (T37.setTop (mkF m 133 #[.val (.ref cc), .val (.long p2), .second, .val (.double p3), .second] [(.int (1 : Int32)), (.ref rb)])) _
      refine XS.dloadN X37.here hx rfl (hb hby d8_133) rfl ?_
      exact kz
    obtain ⟨cl38, Ar38, q38, Sz38, Nn38, Hs38, G38⟩ := C35.2.2.2.2.2
    obtain ⟨T39, h39, X39, e39, W39, st39⟩ := stD X37 hx hZ e37 Ar38 (j := (1 : Int32)) (inb_of Sz38 ⟨by decide, by decide⟩) (g := (mkF m 134 #[.val (.ref cc), .val (.long p2), .second, .val (.double p3), .second] [(.double p3), (.int (1 : Int32)), (.ref rb)])) rfl rfl (hb hby d8_134)
    refine Goes.via (S' := T39.setTop (mkF m 135 #[.val (.ref cc), .val (.long p2), .second, .val (.double p3), .second] [])) st39 ?_
    have N39 := Fr.snoc X39 N35 (Nat.le_trans g1 (Nat.le_of_lt (Nat.lt_trans q1 q2)))
    have A39 := Arv.set Ar38 q38 Sz38 Nn38 Hs38 G38 rfl W39 1 rfl (Nat.le_of_ble_eq_true rfl)
    have C39 : own_C Z h39 cc tb rb k1 k2 _ _ _ := ⟨C35.1.wr W39, C35.2.1.other W39 (Or.inl (own_lt (Nat.lt_trans q1 q2))), C35.2.2.1.other W39 (Or.inl (own_lt (Nat.lt_trans q1 q2))), C35.2.2.2.1.other W39 (Or.inl (own_lt (Nat.lt_trans q1 q2))), C35.2.2.2.2.1.other W39 (own_lt q2), A39⟩
    have K39 := (K35).wr W39 (Or.inl (by simp))
    refine Goes.via (S' := T39.setTop (mkF m 137 #[.val (.ref cc), .val (.long p2), .second, .val (.double p3), .second] [(.ref cc), (.ref cc)])) (fun tz kz => ?_) ?_
    · show Steps p.tables e below (T39.setTop (mkF m 135 #[.val (.ref cc), .val (.long p2), .second, .val (.double p3), .second] [])) _
      refine XS.aloadN X39.here hx rfl (hb hby d8_135) rfl rfl ?_
      show Steps p.tables e below (T39.setTop (mkF m 136 #[.val (.ref cc), .val (.long p2), .second, .val (.double p3), .second] [(.ref cc)])) _
      refine XS.dup X39.here hx rfl (hb hby d8_136) rfl rfl ?_
      exact kz
    obtain ⟨T40, X40, e40, st40⟩ := getF X39 hx hZ hown (host := "") (Or.inl (hw _ (List.mem_of_getElem? (i := 48) rfl))) Via.refl e39 C39.2.2.2.1 (g := (mkF m 137 #[.val (.ref cc), .val (.long p2), .second, .val (.double p3), .second] [(.ref cc), (.ref cc)])) rfl rfl (hb hby d8_137)
    refine Goes.via (S' := T40.setTop (mkF m 140 #[.val (.ref cc), .val (.long p2), .second, .val (.double p3), .second] [(.int (1 : Int32)), (.ref cc)])) st40 ?_
    refine Goes.via (S' := T40.setTop (mkF m 142 #[.val (.ref cc), .val (.long p2), .second, .val (.double p3), .second] [(.int (2 : Int32)), (.ref cc)])) (fun tz kz => ?_) ?_
    · show Steps p.tables e below (T40.setTop (mkF m 140 #[.val (.ref cc), .val (.long p2), .second, .val (.double p3), .second] [(.int (1 : Int32)), (.ref cc)])) _
      refine XS.iconst X40.here hx rfl (hb hby d8_140) ?_
      show Steps p.tables e below (T40.setTop (mkF m 141 #[.val (.ref cc), .val (.long p2), .second, .val (.double p3), .second] [(.int (1 : Int32)), (.int (1 : Int32)), (.ref cc)])) _
      refine XS.iadd X40.here hx rfl (hb hby d8_141) rfl ?_
      exact kz
    obtain ⟨T41, h41, X41, e41, W41, st41⟩ := putF X40 hx hZ hown (host := "") (Or.inl (hw _ (List.mem_of_getElem? (i := 48) rfl))) Via.refl e40 C39.2.2.2.1 C39.1 (Or.inl (hw _ (List.mem_of_getElem? (i := 32) rfl))) (hw _ (List.mem_of_getElem? (i := 10) rfl)) (ty := .int) (by decide) rfl rfl (g := (mkF m 142 #[.val (.ref cc), .val (.long p2), .second, .val (.double p3), .second] [(.int (2 : Int32)), (.ref cc)])) rfl rfl (hb hby d8_142)
    refine Goes.via (S' := T41.setTop (mkF m 145 #[.val (.ref cc), .val (.long p2), .second, .val (.double p3), .second] [])) st41 ?_
    have N41 := Fr.snoc X41 N39 g1
    have C41 : own_C Z h41 cc tb rb k1 k2 _ _ _ := ⟨C39.1.wr W41, C39.2.1.other W41 (Or.inr (slot_ne (Or.inl (hw _ (List.mem_of_getElem? (i := 18) rfl))) (Or.inl (hw _ (List.mem_of_getElem? (i := 32) rfl))) (by decide) (t := (.array .long)) (t' := .int) (by decide) (by decide))), C39.2.2.1.other W41 (Or.inr (slot_ne (Or.inl (hw _ (List.mem_of_getElem? (i := 21) rfl))) (Or.inl (hw _ (List.mem_of_getElem? (i := 32) rfl))) (by decide) (t := (.array .double)) (t' := .int) (by decide) (by decide))), C39.2.2.2.1.same W41, C39.2.2.2.2.1.other W41 (own_gt q1), C39.2.2.2.2.2.other W41 (own_gt (Nat.lt_trans q1 q2))⟩
    have K41 := (K39).wr W41 (Or.inl (by simp))
    exact Goes.retV X41 hx Bd.notSynchronized Bd.returns (hb hby d8_145) (Nat.le_of_ble_eq_true rfl) (Nat.le_of_ble_eq_true rfl) (by rw [e41]; exact ⟨rfl, N41, K41, _, Or.inl rfl, _, _, C41⟩)
theorem d7_0 : decode prog_35_method_4_code 0 = .ok (.dload_n 3, 1) := by decide +kernel
theorem d7_1 : decode prog_35_method_4_code 1 = .ok (.aload_n 0, 1) := by decide +kernel
theorem d7_2 : decode prog_35_method_4_code 2 = .ok (.getfield 23, 3) := by decide +kernel
theorem d7_5 : decode prog_35_method_4_code 5 = .ok (.dsub, 1) := by decide +kernel
theorem d7_6 : decode prog_35_method_4_code 6 = .ok (.dstore 5, 2) := by decide +kernel
theorem d7_8 : decode prog_35_method_4_code 8 = .ok (.aload_n 0, 1) := by decide +kernel
theorem d7_9 : decode prog_35_method_4_code 9 = .ok (.getfield 10, 3) := by decide +kernel
theorem d7_12 : decode prog_35_method_4_code 12 = .ok (.lload_n 1, 1) := by decide +kernel
theorem d7_13 : decode prog_35_method_4_code 13 = .ok (.dload 5, 2) := by decide +kernel
theorem d7_15 : decode prog_35_method_4_code 15 = .ok (.invokevirtual 35, 3) := by decide +kernel
theorem d7_18 : decode prog_35_method_4_code 18 = .ok (.aload_n 0, 1) := by decide +kernel
theorem d7_19 : decode prog_35_method_4_code 19 = .ok (.getfield 16, 3) := by decide +kernel
theorem d7_22 : decode prog_35_method_4_code 22 = .ok (.lload_n 1, 1) := by decide +kernel
theorem d7_23 : decode prog_35_method_4_code 23 = .ok (.dload 5, 2) := by decide +kernel
theorem d7_25 : decode prog_35_method_4_code 25 = .ok (.dneg, 1) := by decide +kernel
theorem d7_26 : decode prog_35_method_4_code 26 = .ok (.invokevirtual 35, 3) := by decide +kernel
theorem d7_29 : decode prog_35_method_4_code 29 = .ok (.return_, 1) := by decide +kernel
theorem pn_7 : plainName "com/example/fewbits/fewbits/store/SegmentHull" = true := by first | (simp [plainName, overriddenIn]; done) | decide +kernel
theorem ef_7 (m : MethodId) (x0 : Addr) (x1 : Int64) (x2 : UInt64) : entryFrame m #[(.ref x0), (.long x1), (.double x2)] 7 = mkF m 0 #[.val (.ref x0), .val (.long x1), .second, .val (.double x2), .second, .unset, .unset] [] := by first | (simp [entryFrame, mkF, argsToLocals, Value.category]; done) | rfl
def Q_rm7_0 (Z : State) (a1 : Addr) (p2 : Int64) (p3 : UInt64) (u tu ru l1 tl rl : Addr) (ku1 ku2 kl1 kl2 : ClassId) (x0 x1 x2 : Int64) (y0 y1 y2 : UInt64) (z0 z1 z2 : UInt64) (sv : UInt64) (h0 : Heap) (n0 : Nat) : Option Value → Heap → List Loc → Prop := fun v h L => v = none ∧ Fr n0 L ∧ Keep h0 h [u, tu, ru, l1, tl, rl] ∧ own_H Z h a1 u tu ru l1 tl rl ku1 ku2 kl1 kl2 [.long p2, .long x1, .long x2] [.double (FP.dsub p3 sv), .double y1, .double y2] 1 [.long p2, .long x1, .long x2] [.double (FP.dneg (FP.dsub p3 sv)), .double z1, .double z2] 1 sv
set_option maxRecDepth 65536 in
set_option maxHeartbeats 40000000 in
theorem rm7_0 (l : Launch) (Z : State) (a0 : Array Value) (hw : ∀ d ∈ tables_1, d.before a0 Z = true) (ws : List Jvm.Cond) (a1 : Addr) (p2 : Int64) (p3 : UInt64) (u tu ru l1 tl rl : Addr) (ku1 ku2 kl1 kl2 : ClassId) (x0 x1 x2 : Int64) (y0 y1 y2 : UInt64) (z0 z1 z2 : UInt64) (sv : UInt64) (h0 : Heap) (n0 : Nat) (Z0 : n0 ≤ h0.size) (H : own_H Z h0 a1 u tu ru l1 tl rl ku1 ku2 kl1 kl2 [.long x0, .long x1, .long x2] [.double y0, .double y1, .double y2] (0 : Int32) [.long x0, .long x1, .long x2] [.double z0, .double z1, .double z2] (0 : Int32) sv) (O : own_O n0 a1 u tu ru l1 tl rl) (fr : Fin64 (FP.dsub p3 sv)) :
    MetFree l (⟨"com/example/fewbits/fewbits/store/SegmentHull", "add", "(JD)V"⟩ : MethodName) (head1 (Jvm.Cond.code (⟨"com/example/fewbits/fewbits/store/SegmentHull", "add", "(JD)V"⟩ : MethodName) prog_35_method_4_code 7 none :: ws) ({ frames := 3, cells := 0, slots := 0, locals := 72 } : Room)) (fun a U => a = #[(.ref a1), (.long p2), (.double p3)] ∧ Z.Warmed39 U.vm ∧ U.heap = h0) (fun _ _ _ _ _ => True) (fun _ U oo U' => ∃ vv LL, oo = .returned vv ∧ (Q_rm7_0 Z a1 p2 p3 u tu ru l1 tl rl ku1 ku2 kl1 kl2 x0 x1 x2 y0 y1 y2 z0 z1 z2 sv h0 n0) vv U'.heap LL ∧ FrameEnd U oo U' LL ({ frames := 3, cells := 0, slots := 0, locals := 72 } : Room).cells ({ frames := 3, cells := 0, slots := 0, locals := 72 } : Room).slots) := by
  refine MetFree.of_bodySF (plainFor_of_name pn_7) hisR ?_
  intro p e s m args below meth c s₁ Bd hml0 hP hK
  obtain ⟨rfl, hZ, hh⟩ := hP
  have hx := Bd.exec
  have hby := Bd.bytes
  have hml : c.maxLocals = 7 := hml0
  have hown : s.vm.findClass "com/example/fewbits/fewbits/store/SegmentHull" = some m.cls := findClass_of_methodNamed Bd.named
  have hnm := (name_of_methodNamed Bd.named Bd.method).1
  have X0 : Stand p l e ({ frames := 3, cells := 0, slots := 0, locals := 72 } : Room) s m #[(.ref a1), (.long p2), (.double p3)] below meth c s₁ [] 0 0 := Stand.of_body Bd
  have e0 : s₁.heap = h0 := by rw [← hh, Bd.state]; rfl
  have N0 := Fr.nil n0
  obtain ⟨⟨xT, HT⟩, -⟩ := And.intro H.2.2.2.1 trivial
  have o1 := O.2.1; have o2 := O.2.2.1; have o3 := O.2.2.2.1; have o4 := O.2.2.2.2.1; have o5 := O.2.2.2.2.2.1; have o6 := O.2.2.2.2.2.2
  show Goes p e below (Fin s (Q_rm7_0 Z a1 p2 p3 u tu ru l1 tl rl ku1 ku2 kl1 kl2 x0 x1 x2 y0 y1 y2 z0 z1 z2 sv h0 n0) ({ frames := 3, cells := 0, slots := 0, locals := 72 } : Room).cells ({ frames := 3, cells := 0, slots := 0, locals := 72 } : Room).slots) _
  refine Goes.via (S' := s₁.setTop (mkF m 0 #[.val (.ref a1), .val (.long p2), .second, .val (.double p3), .second, .unset, .unset] [])) (fun tz kz => castTop (ef_7 m a1 p2 p3 ) kz) ?_
  refine Goes.via (S' := s₁.setTop (mkF m 2 #[.val (.ref a1), .val (.long p2), .second, .val (.double p3), .second, .unset, .unset] [(.ref a1), (.double p3)])) (fun tz kz => ?_) ?_
  · show Steps p.tables e below (s₁.setTop (mkF m 0 #[.val (.ref a1), .val (.long p2), .second, .val (.double p3), .second, .unset, .unset] [])) _
    refine XS.dloadN X0.here hx rfl (hb hby d7_0) rfl ?_
    show Steps p.tables e below (s₁.setTop (mkF m 1 #[.val (.ref a1), .val (.long p2), .second, .val (.double p3), .second, .unset, .unset] [(.double p3)])) _
    refine XS.aloadN X0.here hx rfl (hb hby d7_1) rfl rfl ?_
    exact kz
  obtain ⟨T1, X1, e1, st1⟩ := getF X0 hx hZ hown (host := "") (Or.inl (hw _ (List.mem_of_getElem? (i := 41) rfl))) Via.refl e0 H.2.2.2.2.1 (g := (mkF m 2 #[.val (.ref a1), .val (.long p2), .second, .val (.double p3), .second, .unset, .unset] [(.ref a1), (.double p3)])) rfl rfl (hb hby d7_2)
  refine Goes.via (S' := T1.setTop (mkF m 5 #[.val (.ref a1), .val (.long p2), .second, .val (.double p3), .second, .unset, .unset] [(.double sv), (.double p3)])) st1 ?_
  refine Goes.via (S' := T1.setTop (mkF m 9 #[.val (.ref a1), .val (.long p2), .second, .val (.double p3), .second, .val (.double (FP.dsub p3 sv)), .second] [(.ref a1)])) (fun tz kz => ?_) ?_
  · show Steps p.tables e below (T1.setTop (mkF m 5 #[.val (.ref a1), .val (.long p2), .second, .val (.double p3), .second, .unset, .unset] [(.double sv), (.double p3)])) _
    refine XS.dsubS X1.here hx rfl (hb hby d7_5) rfl fr.noNaN (v := (FP.dsub p3 sv)) rfl ?_
    show Steps p.tables e below (T1.setTop (mkF m 6 #[.val (.ref a1), .val (.long p2), .second, .val (.double p3), .second, .unset, .unset] [(.double (FP.dsub p3 sv))])) _
    refine XS.dstore X1.here hx rfl (hb hby d7_6) rfl (l' := #[.val (.ref a1), .val (.long p2), .second, .val (.double p3), .second, .val (.double (FP.dsub p3 sv)), .second]) rfl ?_
    show Steps p.tables e below (T1.setTop (mkF m 8 #[.val (.ref a1), .val (.long p2), .second, .val (.double p3), .second, .val (.double (FP.dsub p3 sv)), .second] [])) _
    refine XS.aloadN X1.here hx rfl (hb hby d7_8) rfl rfl ?_
    exact kz
  obtain ⟨T2, X2, e2, st2⟩ := getF X1 hx hZ hown (host := "") (Or.inl (hw _ (List.mem_of_getElem? (i := 22) rfl))) Via.refl e1 H.2.1 (g := (mkF m 9 #[.val (.ref a1), .val (.long p2), .second, .val (.double p3), .second, .val (.double (FP.dsub p3 sv)), .second] [(.ref a1)])) rfl rfl (hb hby d7_9)
  refine Goes.via (S' := T2.setTop (mkF m 12 #[.val (.ref a1), .val (.long p2), .second, .val (.double p3), .second, .val (.double (FP.dsub p3 sv)), .second] [(.ref u)])) st2 ?_
  refine Goes.via (S' := T2.setTop (mkF m 15 #[.val (.ref a1), .val (.long p2), .second, .val (.double p3), .second, .val (.double (FP.dsub p3 sv)), .second] [(.double (FP.dsub p3 sv)), (.long p2), (.ref u)])) (fun tz kz => ?_) ?_
  · show Steps p.tables e below (T2.setTop (mkF m 12 #[.val (.ref a1), .val (.long p2), .second, .val (.double p3), .second, .val (.double (FP.dsub p3 sv)), .second] [(.ref u)])) _
    refine XS.lloadN X2.here hx rfl (hb hby d7_12) rfl ?_
    show Steps p.tables e below (T2.setTop (mkF m 13 #[.val (.ref a1), .val (.long p2), .second, .val (.double p3), .second, .val (.double (FP.dsub p3 sv)), .second] [(.long p2), (.ref u)])) _
    refine XS.dload X2.here hx rfl (hb hby d7_13) rfl ?_
    exact kz
  obtain ⟨cq3, kq3, q3a, q3b, q3c⟩ := isOf hZ e2 H.2.2.2.2.2.1.1
  obtain ⟨_, _, ⟨T3, L3, k3, n3⟩, -, X3, ⟨Lc3, hQ3, l3, y3, z3⟩, st3⟩ := X2.virtualBack hx (y := (⟨"com/example/fewbits/fewbits/store/SegmentHull$Chain", "add", "(JD)V"⟩ : MethodName)) (z := (⟨"com/example/fewbits/fewbits/store/SegmentHull$Chain", "add", "(JD)V"⟩ : MethodName)) hown (mvT hZ (hw _ (List.mem_of_getElem? (i := 55) rfl))) (mvT hZ (hw _ (List.mem_of_getElem? (i := 56) rfl))) (notFace_of_selects (args := #[]) (mvT hZ (hw _ (List.mem_of_getElem? (i := 58) rfl)))) (mvT hZ (hw _ (List.mem_of_getElem? (i := 58) rfl))) (mvT hZ (hw _ (List.mem_of_getElem? (i := 57) rfl))) (by decide) (backOf (W := 0) (rm8_0 l Z a0 hw [] u p2 (FP.dsub p3 sv) tu ru ku1 ku2 x0 x1 x2 y0 y1 y2 h0 n0 Z0 H.2.2.2.2.2.1 (Nat.le_trans O.1 (Nat.le_of_lt o1)) o2 o3) hZ (hw _ (List.mem_of_getElem? (i := 59) rfl)) (hw _ (List.mem_of_getElem? (i := 11) rfl)) (by decide) (by decide)) q3a q3c (g := (mkF m 15 #[.val (.ref a1), .val (.long p2), .second, .val (.double p3), .second, .val (.double (FP.dsub p3 sv)), .second] [(.double (FP.dsub p3 sv)), (.long p2), (.ref u)])) rfl (by rw [hml]; rfl) (Steps.refl _) (argsL := [(.long p2), (.double (FP.dsub p3 sv))]) (rest := []) (lenOf pd_3 rfl) rfl (by show 2 * 0 + _ ≤ _; exact Nat.le_of_eq rfl) (hb hby d7_15) (fun _ _ => ⟨rfl, e2, (by decide : 0 + 0 ≤ _), (by decide : 0 + 0 ≤ _)⟩)
  dsimp only [Pt.U, Pt.locs, Pt.cells, Pt.slots] at X3 l3 y3 z3 st3 hQ3
  subst l3 y3 z3
  obtain ⟨rfl, N3, K3, C3⟩ := hQ3
  have Nf3 := Fr.app N0 N3
  refine Goes.via (S' := T3.setTop (mkF m 18 #[.val (.ref a1), .val (.long p2), .second, .val (.double p3), .second, .val (.double (FP.dsub p3 sv)), .second] [])) (fun _ kz => st3.trans kz) ?_
  have Ea := H.1.keep K3
  have U1 := H.2.1.keep K3 (ninS (own_lt (by omega)) (ninS (own_lt (by omega)) (ninS (own_lt (by omega)) nin0)))
  have L1 := H.2.2.1.keep K3 (ninS (own_lt (by omega)) (ninS (own_lt (by omega)) (ninS (own_lt (by omega)) nin0)))
  have T1' := HT.keep K3 (ninS (own_lt (by omega)) (ninS (own_lt (by omega)) (ninS (own_lt (by omega)) nin0)))
  have V1 := H.2.2.2.2.1.keep K3 (ninS (own_lt (by omega)) (ninS (own_lt (by omega)) (ninS (own_lt (by omega)) nin0)))
  have Cl1 := H.2.2.2.2.2.2.keep K3 (ninS (own_gt (by omega)) (ninS (own_gt (by omega)) (ninS (own_gt (by omega)) nin0))) (ninS (own_gt (by omega)) (ninS (own_gt (by omega)) (ninS (own_gt (by omega)) nin0))) (ninS (own_gt (by omega)) (ninS (own_gt (by omega)) (ninS (own_gt (by omega)) nin0)))
  have K1 := (Keep.refl h0 [u, tu, ru, l1, tl, rl]).trans K3 (allS (Or.inl (by simp)) (allS (Or.inl (by simp)) (allS (Or.inl (by simp)) all0)))
  refine Goes.via (S' := T3.setTop (mkF m 19 #[.val (.ref a1), .val (.long p2), .second, .val (.double p3), .second, .val (.double (FP.dsub p3 sv)), .second] [(.ref a1)])) (fun tz kz => ?_) ?_
  · show Steps p.tables e below (T3.setTop (mkF m 18 #[.val (.ref a1), .val (.long p2), .second, .val (.double p3), .second, .val (.double (FP.dsub p3 sv)), .second] [])) _
    refine XS.aloadN X3.here hx rfl (hb hby d7_18) rfl rfl ?_
    exact kz
  obtain ⟨T4, X4, e4, st4⟩ := getF X3 hx hZ hown (host := "") (Or.inl (hw _ (List.mem_of_getElem? (i := 24) rfl))) Via.refl rfl L1 (g := (mkF m 19 #[.val (.ref a1), .val (.long p2), .second, .val (.double p3), .second, .val (.double (FP.dsub p3 sv)), .second] [(.ref a1)])) rfl rfl (hb hby d7_19)
  refine Goes.via (S' := T4.setTop (mkF m 22 #[.val (.ref a1), .val (.long p2), .second, .val (.double p3), .second, .val (.double (FP.dsub p3 sv)), .second] [(.ref l1)])) st4 ?_
  refine Goes.via (S' := T4.setTop (mkF m 26 #[.val (.ref a1), .val (.long p2), .second, .val (.double p3), .second, .val (.double (FP.dsub p3 sv)), .second] [(.double (FP.dneg (FP.dsub p3 sv))), (.long p2), (.ref l1)])) (fun tz kz => ?_) ?_
  · show Steps p.tables e below (T4.setTop (mkF m 22 #[.val (.ref a1), .val (.long p2), .second, .val (.double p3), .second, .val (.double (FP.dsub p3 sv)), .second] [(.ref l1)])) _
    refine XS.lloadN X4.here hx rfl (hb hby d7_22) rfl ?_
    show Steps p.tables e below (T4.setTop (mkF m 23 #[.val (.ref a1), .val (.long p2), .second, .val (.double p3), .second, .val (.double (FP.dsub p3 sv)), .second] [(.long p2), (.ref l1)])) _
    refine XS.dload X4.here hx rfl (hb hby d7_23) rfl ?_
    show Steps p.tables e below (T4.setTop (mkF m 25 #[.val (.ref a1), .val (.long p2), .second, .val (.double p3), .second, .val (.double (FP.dsub p3 sv)), .second] [(.double (FP.dsub p3 sv)), (.long p2), (.ref l1)])) _
    refine XS.dnegS X4.here hx rfl (hb hby d7_25) rfl (v := (FP.dneg (FP.dsub p3 sv))) rfl ?_
    exact kz
  obtain ⟨cq5, kq5, q5a, q5b, q5c⟩ := isOf hZ e4 Cl1.1
  obtain ⟨_, _, ⟨T5, L5, k5, n5⟩, -, X5, ⟨Lc5, hQ5, l5, y5, z5⟩, st5⟩ := X4.virtualBack hx (y := (⟨"com/example/fewbits/fewbits/store/SegmentHull$Chain", "add", "(JD)V"⟩ : MethodName)) (z := (⟨"com/example/fewbits/fewbits/store/SegmentHull$Chain", "add", "(JD)V"⟩ : MethodName)) hown (mvT hZ (hw _ (List.mem_of_getElem? (i := 55) rfl))) (mvT hZ (hw _ (List.mem_of_getElem? (i := 56) rfl))) (notFace_of_selects (args := #[]) (mvT hZ (hw _ (List.mem_of_getElem? (i := 58) rfl)))) (mvT hZ (hw _ (List.mem_of_getElem? (i := 58) rfl))) (mvT hZ (hw _ (List.mem_of_getElem? (i := 57) rfl))) (by decide) (backOf (W := 0) (rm8_0 l Z a0 hw [] l1 p2 (FP.dneg (FP.dsub p3 sv)) tl rl kl1 kl2 x0 x1 x2 z0 z1 z2 T3.heap n0 (Nat.le_trans Z0 K1.1) Cl1 (Nat.le_trans O.1 (by omega)) o5 o6) hZ (hw _ (List.mem_of_getElem? (i := 59) rfl)) (hw _ (List.mem_of_getElem? (i := 11) rfl)) (by decide) (by decide)) q5a q5c (g := (mkF m 26 #[.val (.ref a1), .val (.long p2), .second, .val (.double p3), .second, .val (.double (FP.dsub p3 sv)), .second] [(.double (FP.dneg (FP.dsub p3 sv))), (.long p2), (.ref l1)])) rfl (by rw [hml]; rfl) (Steps.refl _) (argsL := [(.long p2), (.double (FP.dneg (FP.dsub p3 sv)))]) (rest := []) (lenOf pd_3 rfl) rfl (by show 2 * 0 + _ ≤ _; exact Nat.le_of_eq rfl) (hb hby d7_26) (fun _ _ => ⟨rfl, e4, (by decide : 0 + 0 ≤ _), (by decide : 0 + 0 ≤ _)⟩)
  dsimp only [Pt.U, Pt.locs, Pt.cells, Pt.slots] at X5 l5 y5 z5 st5 hQ5
  subst l5 y5 z5
  obtain ⟨rfl, N5, K5, C5⟩ := hQ5
  have Nf5 := Fr.app Nf3 N5
  refine Goes.via (S' := T5.setTop (mkF m 29 #[.val (.ref a1), .val (.long p2), .second, .val (.double p3), .second, .val (.double (FP.dsub p3 sv)), .second] [])) (fun _ kz => st5.trans kz) ?_
  have Eb := Ea.keep K5
  have U2 := U1.keep K5 (ninS (own_lt (by omega)) (ninS (own_lt (by omega)) (ninS (own_lt (by omega)) nin0)))
  have L2 := L1.keep K5 (ninS (own_lt (by omega)) (ninS (own_lt (by omega)) (ninS (own_lt (by omega)) nin0)))
  have T2' := T1'.keep K5 (ninS (own_lt (by omega)) (ninS (own_lt (by omega)) (ninS (own_lt (by omega)) nin0)))
  have V2 := V1.keep K5 (ninS (own_lt (by omega)) (ninS (own_lt (by omega)) (ninS (own_lt (by omega)) nin0)))
  have Cu2 := C3.keep K5 (ninS (own_lt (by omega)) (ninS (own_lt (by omega)) (ninS (own_lt (by omega)) nin0))) (ninS (own_lt (by omega)) (ninS (own_lt (by omega)) (ninS (own_lt (by omega)) nin0))) (ninS (own_lt (by omega)) (ninS (own_lt (by omega)) (ninS (own_lt (by omega)) nin0)))
  have K2 := K1.trans K5 (allS (Or.inl (by simp)) (allS (Or.inl (by simp)) (allS (Or.inl (by simp)) all0)))
  exact Goes.retV X5 hx Bd.notSynchronized Bd.returns (hb hby d7_29) (Nat.le_of_ble_eq_true rfl) (Nat.le_of_ble_eq_true rfl) ⟨rfl, Nf5, K2, Eb, U2, L2, ⟨_, T2'⟩, V2, Cu2, C5⟩
def Q_rm7_1 (Z : State) (a1 : Addr) (p2 : Int64) (p3 : UInt64) (u tu ru l1 tl rl : Addr) (ku1 ku2 kl1 kl2 : ClassId) (x0 x1 x2 : Int64) (y0 y1 y2 : UInt64) (z0 z1 z2 : UInt64) (sv : UInt64) (h0 : Heap) (n0 : Nat) : Option Value → Heap → List Loc → Prop := fun v h L => v = none ∧ Fr n0 L ∧ Keep h0 h [u, tu, ru, l1, tl, rl] ∧ own_H Z h a1 u tu ru l1 tl rl ku1 ku2 kl1 kl2 [.long x0, .long p2, .long x2] [.double y0, .double (FP.dsub p3 sv), .double y2] 2 [.long x0, .long p2, .long x2] [.double z0, .double (FP.dneg (FP.dsub p3 sv)), .double z2] 2 sv
set_option maxRecDepth 65536 in
set_option maxHeartbeats 40000000 in
theorem rm7_1 (l : Launch) (Z : State) (a0 : Array Value) (hw : ∀ d ∈ tables_1, d.before a0 Z = true) (ws : List Jvm.Cond) (a1 : Addr) (p2 : Int64) (p3 : UInt64) (u tu ru l1 tl rl : Addr) (ku1 ku2 kl1 kl2 : ClassId) (x0 x1 x2 : Int64) (y0 y1 y2 : UInt64) (z0 z1 z2 : UInt64) (sv : UInt64) (h0 : Heap) (n0 : Nat) (Z0 : n0 ≤ h0.size) (H : own_H Z h0 a1 u tu ru l1 tl rl ku1 ku2 kl1 kl2 [.long x0, .long x1, .long x2] [.double y0, .double y1, .double y2] (1 : Int32) [.long x0, .long x1, .long x2] [.double z0, .double z1, .double z2] (1 : Int32) sv) (O : own_O n0 a1 u tu ru l1 tl rl) (fr : Fin64 (FP.dsub p3 sv)) :
    MetFree l (⟨"com/example/fewbits/fewbits/store/SegmentHull", "add", "(JD)V"⟩ : MethodName) (head1 (Jvm.Cond.code (⟨"com/example/fewbits/fewbits/store/SegmentHull", "add", "(JD)V"⟩ : MethodName) prog_35_method_4_code 7 none :: ws) ({ frames := 3, cells := 0, slots := 0, locals := 72 } : Room)) (fun a U => a = #[(.ref a1), (.long p2), (.double p3)] ∧ Z.Warmed39 U.vm ∧ U.heap = h0) (fun _ _ _ _ _ => True) (fun _ U oo U' => ∃ vv LL, oo = .returned vv ∧ (Q_rm7_1 Z a1 p2 p3 u tu ru l1 tl rl ku1 ku2 kl1 kl2 x0 x1 x2 y0 y1 y2 z0 z1 z2 sv h0 n0) vv U'.heap LL ∧ FrameEnd U oo U' LL ({ frames := 3, cells := 0, slots := 0, locals := 72 } : Room).cells ({ frames := 3, cells := 0, slots := 0, locals := 72 } : Room).slots) := by
  refine MetFree.of_bodySF (plainFor_of_name pn_7) hisR ?_
  intro p e s m args below meth c s₁ Bd hml0 hP hK
  obtain ⟨rfl, hZ, hh⟩ := hP
  have hx := Bd.exec
  have hby := Bd.bytes
  have hml : c.maxLocals = 7 := hml0
  have hown : s.vm.findClass "com/example/fewbits/fewbits/store/SegmentHull" = some m.cls := findClass_of_methodNamed Bd.named
  have hnm := (name_of_methodNamed Bd.named Bd.method).1
  have X0 : Stand p l e ({ frames := 3, cells := 0, slots := 0, locals := 72 } : Room) s m #[(.ref a1), (.long p2), (.double p3)] below meth c s₁ [] 0 0 := Stand.of_body Bd
  have e0 : s₁.heap = h0 := by rw [← hh, Bd.state]; rfl
  have N0 := Fr.nil n0
  obtain ⟨⟨xT, HT⟩, -⟩ := And.intro H.2.2.2.1 trivial
  have o1 := O.2.1; have o2 := O.2.2.1; have o3 := O.2.2.2.1; have o4 := O.2.2.2.2.1; have o5 := O.2.2.2.2.2.1; have o6 := O.2.2.2.2.2.2
  show Goes p e below (Fin s (Q_rm7_1 Z a1 p2 p3 u tu ru l1 tl rl ku1 ku2 kl1 kl2 x0 x1 x2 y0 y1 y2 z0 z1 z2 sv h0 n0) ({ frames := 3, cells := 0, slots := 0, locals := 72 } : Room).cells ({ frames := 3, cells := 0, slots := 0, locals := 72 } : Room).slots) _
  refine Goes.via (S' := s₁.setTop (mkF m 0 #[.val (.ref a1), .val (.long p2), .second, .val (.double p3), .second, .unset, .unset] [])) (fun tz kz => castTop (ef_7 m a1 p2 p3 ) kz) ?_
  refine Goes.via (S' := s₁.setTop (mkF m 2 #[.val (.ref a1), .val (.long p2), .second, .val (.double p3), .second, .unset, .unset] [(.ref a1), (.double p3)])) (fun tz kz => ?_) ?_
  · show Steps p.tables e below (s₁.setTop (mkF m 0 #[.val (.ref a1), .val (.long p2), .second, .val (.double p3), .second, .unset, .unset] [])) _
    refine XS.dloadN X0.here hx rfl (hb hby d7_0) rfl ?_
    show Steps p.tables e below (s₁.setTop (mkF m 1 #[.val (.ref a1), .val (.long p2), .second, .val (.double p3), .second, .unset, .unset] [(.double p3)])) _
    refine XS.aloadN X0.here hx rfl (hb hby d7_1) rfl rfl ?_
    exact kz
  obtain ⟨T1, X1, e1, st1⟩ := getF X0 hx hZ hown (host := "") (Or.inl (hw _ (List.mem_of_getElem? (i := 41) rfl))) Via.refl e0 H.2.2.2.2.1 (g := (mkF m 2 #[.val (.ref a1), .val (.long p2), .second, .val (.double p3), .second, .unset, .unset] [(.ref a1), (.double p3)])) rfl rfl (hb hby d7_2)
  refine Goes.via (S' := T1.setTop (mkF m 5 #[.val (.ref a1), .val (.long p2), .second, .val (.double p3), .second, .unset, .unset] [(.double sv), (.double p3)])) st1 ?_
  refine Goes.via (S' := T1.setTop (mkF m 9 #[.val (.ref a1), .val (.long p2), .second, .val (.double p3), .second, .val (.double (FP.dsub p3 sv)), .second] [(.ref a1)])) (fun tz kz => ?_) ?_
  · show Steps p.tables e below (T1.setTop (mkF m 5 #[.val (.ref a1), .val (.long p2), .second, .val (.double p3), .second, .unset, .unset] [(.double sv), (.double p3)])) _
    refine XS.dsubS X1.here hx rfl (hb hby d7_5) rfl fr.noNaN (v := (FP.dsub p3 sv)) rfl ?_
    show Steps p.tables e below (T1.setTop (mkF m 6 #[.val (.ref a1), .val (.long p2), .second, .val (.double p3), .second, .unset, .unset] [(.double (FP.dsub p3 sv))])) _
    refine XS.dstore X1.here hx rfl (hb hby d7_6) rfl (l' := #[.val (.ref a1), .val (.long p2), .second, .val (.double p3), .second, .val (.double (FP.dsub p3 sv)), .second]) rfl ?_
    show Steps p.tables e below (T1.setTop (mkF m 8 #[.val (.ref a1), .val (.long p2), .second, .val (.double p3), .second, .val (.double (FP.dsub p3 sv)), .second] [])) _
    refine XS.aloadN X1.here hx rfl (hb hby d7_8) rfl rfl ?_
    exact kz
  obtain ⟨T2, X2, e2, st2⟩ := getF X1 hx hZ hown (host := "") (Or.inl (hw _ (List.mem_of_getElem? (i := 22) rfl))) Via.refl e1 H.2.1 (g := (mkF m 9 #[.val (.ref a1), .val (.long p2), .second, .val (.double p3), .second, .val (.double (FP.dsub p3 sv)), .second] [(.ref a1)])) rfl rfl (hb hby d7_9)
  refine Goes.via (S' := T2.setTop (mkF m 12 #[.val (.ref a1), .val (.long p2), .second, .val (.double p3), .second, .val (.double (FP.dsub p3 sv)), .second] [(.ref u)])) st2 ?_
  refine Goes.via (S' := T2.setTop (mkF m 15 #[.val (.ref a1), .val (.long p2), .second, .val (.double p3), .second, .val (.double (FP.dsub p3 sv)), .second] [(.double (FP.dsub p3 sv)), (.long p2), (.ref u)])) (fun tz kz => ?_) ?_
  · show Steps p.tables e below (T2.setTop (mkF m 12 #[.val (.ref a1), .val (.long p2), .second, .val (.double p3), .second, .val (.double (FP.dsub p3 sv)), .second] [(.ref u)])) _
    refine XS.lloadN X2.here hx rfl (hb hby d7_12) rfl ?_
    show Steps p.tables e below (T2.setTop (mkF m 13 #[.val (.ref a1), .val (.long p2), .second, .val (.double p3), .second, .val (.double (FP.dsub p3 sv)), .second] [(.long p2), (.ref u)])) _
    refine XS.dload X2.here hx rfl (hb hby d7_13) rfl ?_
    exact kz
  obtain ⟨cq3, kq3, q3a, q3b, q3c⟩ := isOf hZ e2 H.2.2.2.2.2.1.1
  obtain ⟨_, _, ⟨T3, L3, k3, n3⟩, -, X3, ⟨Lc3, hQ3, l3, y3, z3⟩, st3⟩ := X2.virtualBack hx (y := (⟨"com/example/fewbits/fewbits/store/SegmentHull$Chain", "add", "(JD)V"⟩ : MethodName)) (z := (⟨"com/example/fewbits/fewbits/store/SegmentHull$Chain", "add", "(JD)V"⟩ : MethodName)) hown (mvT hZ (hw _ (List.mem_of_getElem? (i := 55) rfl))) (mvT hZ (hw _ (List.mem_of_getElem? (i := 56) rfl))) (notFace_of_selects (args := #[]) (mvT hZ (hw _ (List.mem_of_getElem? (i := 58) rfl)))) (mvT hZ (hw _ (List.mem_of_getElem? (i := 58) rfl))) (mvT hZ (hw _ (List.mem_of_getElem? (i := 57) rfl))) (by decide) (backOf (W := 0) (rm8_1 l Z a0 hw [] u p2 (FP.dsub p3 sv) tu ru ku1 ku2 x0 x1 x2 y0 y1 y2 h0 n0 Z0 H.2.2.2.2.2.1 (Nat.le_trans O.1 (Nat.le_of_lt o1)) o2 o3) hZ (hw _ (List.mem_of_getElem? (i := 59) rfl)) (hw _ (List.mem_of_getElem? (i := 11) rfl)) (by decide) (by decide)) q3a q3c (g := (mkF m 15 #[.val (.ref a1), .val (.long p2), .second, .val (.double p3), .second, .val (.double (FP.dsub p3 sv)), .second] [(.double (FP.dsub p3 sv)), (.long p2), (.ref u)])) rfl (by rw [hml]; rfl) (Steps.refl _) (argsL := [(.long p2), (.double (FP.dsub p3 sv))]) (rest := []) (lenOf pd_3 rfl) rfl (by show 2 * 0 + _ ≤ _; exact Nat.le_of_eq rfl) (hb hby d7_15) (fun _ _ => ⟨rfl, e2, (by decide : 0 + 0 ≤ _), (by decide : 0 + 0 ≤ _)⟩)
  dsimp only [Pt.U, Pt.locs, Pt.cells, Pt.slots] at X3 l3 y3 z3 st3 hQ3
  subst l3 y3 z3
  obtain ⟨rfl, N3, K3, C3⟩ := hQ3
  have Nf3 := Fr.app N0 N3
  refine Goes.via (S' := T3.setTop (mkF m 18 #[.val (.ref a1), .val (.long p2), .second, .val (.double p3), .second, .val (.double (FP.dsub p3 sv)), .second] [])) (fun _ kz => st3.trans kz) ?_
  have Ea := H.1.keep K3
  have U1 := H.2.1.keep K3 (ninS (own_lt (by omega)) (ninS (own_lt (by omega)) (ninS (own_lt (by omega)) nin0)))
  have L1 := H.2.2.1.keep K3 (ninS (own_lt (by omega)) (ninS (own_lt (by omega)) (ninS (own_lt (by omega)) nin0)))
  have T1' := HT.keep K3 (ninS (own_lt (by omega)) (ninS (own_lt (by omega)) (ninS (own_lt (by omega)) nin0)))
  have V1 := H.2.2.2.2.1.keep K3 (ninS (own_lt (by omega)) (ninS (own_lt (by omega)) (ninS (own_lt (by omega)) nin0)))
  have Cl1 := H.2.2.2.2.2.2.keep K3 (ninS (own_gt (by omega)) (ninS (own_gt (by omega)) (ninS (own_gt (by omega)) nin0))) (ninS (own_gt (by omega)) (ninS (own_gt (by omega)) (ninS (own_gt (by omega)) nin0))) (ninS (own_gt (by omega)) (ninS (own_gt (by omega)) (ninS (own_gt (by omega)) nin0)))
  have K1 := (Keep.refl h0 [u, tu, ru, l1, tl, rl]).trans K3 (allS (Or.inl (by simp)) (allS (Or.inl (by simp)) (allS (Or.inl (by simp)) all0)))
  refine Goes.via (S' := T3.setTop (mkF m 19 #[.val (.ref a1), .val (.long p2), .second, .val (.double p3), .second, .val (.double (FP.dsub p3 sv)), .second] [(.ref a1)])) (fun tz kz => ?_) ?_
  · show Steps p.tables e below (T3.setTop (mkF m 18 #[.val (.ref a1), .val (.long p2), .second, .val (.double p3), .second, .val (.double (FP.dsub p3 sv)), .second] [])) _
    refine XS.aloadN X3.here hx rfl (hb hby d7_18) rfl rfl ?_
    exact kz
  obtain ⟨T4, X4, e4, st4⟩ := getF X3 hx hZ hown (host := "") (Or.inl (hw _ (List.mem_of_getElem? (i := 24) rfl))) Via.refl rfl L1 (g := (mkF m 19 #[.val (.ref a1), .val (.long p2), .second, .val (.double p3), .second, .val (.double (FP.dsub p3 sv)), .second] [(.ref a1)])) rfl rfl (hb hby d7_19)
  refine Goes.via (S' := T4.setTop (mkF m 22 #[.val (.ref a1), .val (.long p2), .second, .val (.double p3), .second, .val (.double (FP.dsub p3 sv)), .second] [(.ref l1)])) st4 ?_
  refine Goes.via (S' := T4.setTop (mkF m 26 #[.val (.ref a1), .val (.long p2), .second, .val (.double p3), .second, .val (.double (FP.dsub p3 sv)), .second] [(.double (FP.dneg (FP.dsub p3 sv))), (.long p2), (.ref l1)])) (fun tz kz => ?_) ?_
  · show Steps p.tables e below (T4.setTop (mkF m 22 #[.val (.ref a1), .val (.long p2), .second, .val (.double p3), .second, .val (.double (FP.dsub p3 sv)), .second] [(.ref l1)])) _
    refine XS.lloadN X4.here hx rfl (hb hby d7_22) rfl ?_
    show Steps p.tables e below (T4.setTop (mkF m 23 #[.val (.ref a1), .val (.long p2), .second, .val (.double p3), .second, .val (.double (FP.dsub p3 sv)), .second] [(.long p2), (.ref l1)])) _
    refine XS.dload X4.here hx rfl (hb hby d7_23) rfl ?_
    show Steps p.tables e below (T4.setTop (mkF m 25 #[.val (.ref a1), .val (.long p2), .second, .val (.double p3), .second, .val (.double (FP.dsub p3 sv)), .second] [(.double (FP.dsub p3 sv)), (.long p2), (.ref l1)])) _
    refine XS.dnegS X4.here hx rfl (hb hby d7_25) rfl (v := (FP.dneg (FP.dsub p3 sv))) rfl ?_
    exact kz
  obtain ⟨cq5, kq5, q5a, q5b, q5c⟩ := isOf hZ e4 Cl1.1
  obtain ⟨_, _, ⟨T5, L5, k5, n5⟩, -, X5, ⟨Lc5, hQ5, l5, y5, z5⟩, st5⟩ := X4.virtualBack hx (y := (⟨"com/example/fewbits/fewbits/store/SegmentHull$Chain", "add", "(JD)V"⟩ : MethodName)) (z := (⟨"com/example/fewbits/fewbits/store/SegmentHull$Chain", "add", "(JD)V"⟩ : MethodName)) hown (mvT hZ (hw _ (List.mem_of_getElem? (i := 55) rfl))) (mvT hZ (hw _ (List.mem_of_getElem? (i := 56) rfl))) (notFace_of_selects (args := #[]) (mvT hZ (hw _ (List.mem_of_getElem? (i := 58) rfl)))) (mvT hZ (hw _ (List.mem_of_getElem? (i := 58) rfl))) (mvT hZ (hw _ (List.mem_of_getElem? (i := 57) rfl))) (by decide) (backOf (W := 0) (rm8_1 l Z a0 hw [] l1 p2 (FP.dneg (FP.dsub p3 sv)) tl rl kl1 kl2 x0 x1 x2 z0 z1 z2 T3.heap n0 (Nat.le_trans Z0 K1.1) Cl1 (Nat.le_trans O.1 (by omega)) o5 o6) hZ (hw _ (List.mem_of_getElem? (i := 59) rfl)) (hw _ (List.mem_of_getElem? (i := 11) rfl)) (by decide) (by decide)) q5a q5c (g := (mkF m 26 #[.val (.ref a1), .val (.long p2), .second, .val (.double p3), .second, .val (.double (FP.dsub p3 sv)), .second] [(.double (FP.dneg (FP.dsub p3 sv))), (.long p2), (.ref l1)])) rfl (by rw [hml]; rfl) (Steps.refl _) (argsL := [(.long p2), (.double (FP.dneg (FP.dsub p3 sv)))]) (rest := []) (lenOf pd_3 rfl) rfl (by show 2 * 0 + _ ≤ _; exact Nat.le_of_eq rfl) (hb hby d7_26) (fun _ _ => ⟨rfl, e4, (by decide : 0 + 0 ≤ _), (by decide : 0 + 0 ≤ _)⟩)
  dsimp only [Pt.U, Pt.locs, Pt.cells, Pt.slots] at X5 l5 y5 z5 st5 hQ5
  subst l5 y5 z5
  obtain ⟨rfl, N5, K5, C5⟩ := hQ5
  have Nf5 := Fr.app Nf3 N5
  refine Goes.via (S' := T5.setTop (mkF m 29 #[.val (.ref a1), .val (.long p2), .second, .val (.double p3), .second, .val (.double (FP.dsub p3 sv)), .second] [])) (fun _ kz => st5.trans kz) ?_
  have Eb := Ea.keep K5
  have U2 := U1.keep K5 (ninS (own_lt (by omega)) (ninS (own_lt (by omega)) (ninS (own_lt (by omega)) nin0)))
  have L2 := L1.keep K5 (ninS (own_lt (by omega)) (ninS (own_lt (by omega)) (ninS (own_lt (by omega)) nin0)))
  have T2' := T1'.keep K5 (ninS (own_lt (by omega)) (ninS (own_lt (by omega)) (ninS (own_lt (by omega)) nin0)))
  have V2 := V1.keep K5 (ninS (own_lt (by omega)) (ninS (own_lt (by omega)) (ninS (own_lt (by omega)) nin0)))
  have Cu2 := C3.keep K5 (ninS (own_lt (by omega)) (ninS (own_lt (by omega)) (ninS (own_lt (by omega)) nin0))) (ninS (own_lt (by omega)) (ninS (own_lt (by omega)) (ninS (own_lt (by omega)) nin0))) (ninS (own_lt (by omega)) (ninS (own_lt (by omega)) (ninS (own_lt (by omega)) nin0)))
  have K2 := K1.trans K5 (allS (Or.inl (by simp)) (allS (Or.inl (by simp)) (allS (Or.inl (by simp)) all0)))
  exact Goes.retV X5 hx Bd.notSynchronized Bd.returns (hb hby d7_29) (Nat.le_of_ble_eq_true rfl) (Nat.le_of_ble_eq_true rfl) ⟨rfl, Nf5, K2, Eb, U2, L2, ⟨_, T2'⟩, V2, Cu2, C5⟩
def Q_rm7_2 (Z : State) (a1 : Addr) (p2 : Int64) (p3 : UInt64) (u tu ru l1 tl rl : Addr) (ku1 ku2 kl1 kl2 : ClassId) (x0 x1 x2 : Int64) (y0 y1 y2 : UInt64) (z0 z1 z2 : UInt64) (sv : UInt64) (h0 : Heap) (n0 : Nat) : Option Value → Heap → List Loc → Prop := fun v h L => v = none ∧ Fr n0 L ∧ Keep h0 h [u, tu, ru, l1, tl, rl] ∧ ∃ mu ml : Int32, (mu = 2 ∨ mu = 3) ∧ (ml = 2 ∨ ml = 3) ∧ ∃ a b c d : List Value, own_H Z h a1 u tu ru l1 tl rl ku1 ku2 kl1 kl2 a b mu c d ml sv
set_option maxRecDepth 65536 in
set_option maxHeartbeats 40000000 in
theorem rm7_2 (l : Launch) (Z : State) (a0 : Array Value) (hw : ∀ d ∈ tables_1, d.before a0 Z = true) (ws : List Jvm.Cond) (a1 : Addr) (p2 : Int64) (p3 : UInt64) (u tu ru l1 tl rl : Addr) (ku1 ku2 kl1 kl2 : ClassId) (x0 x1 x2 : Int64) (y0 y1 y2 : UInt64) (z0 z1 z2 : UInt64) (sv : UInt64) (h0 : Heap) (n0 : Nat) (Z0 : n0 ≤ h0.size) (H : own_H Z h0 a1 u tu ru l1 tl rl ku1 ku2 kl1 kl2 [.long x0, .long x1, .long x2] [.double y0, .double y1, .double y2] (2 : Int32) [.long x0, .long x1, .long x2] [.double z0, .double z1, .double z2] (2 : Int32) sv) (O : own_O n0 a1 u tu ru l1 tl rl) (fr : Fin64 (FP.dsub p3 sv)) (f0 : Fin64 y0) (f1 : Fin64 y1) (f3 : Fin64 z0) (f4 : Fin64 z1) (hd1 : own_later x0 x1) (hd2 : own_later x1 p2) :
    MetFree l (⟨"com/example/fewbits/fewbits/store/SegmentHull", "add", "(JD)V"⟩ : MethodName) (head1 (Jvm.Cond.code (⟨"com/example/fewbits/fewbits/store/SegmentHull", "add", "(JD)V"⟩ : MethodName) prog_35_method_4_code 7 none :: ws) ({ frames := 3, cells := 0, slots := 0, locals := 72 } : Room)) (fun a U => a = #[(.ref a1), (.long p2), (.double p3)] ∧ Z.Warmed39 U.vm ∧ U.heap = h0) (fun _ _ _ _ _ => True) (fun _ U oo U' => ∃ vv LL, oo = .returned vv ∧ (Q_rm7_2 Z a1 p2 p3 u tu ru l1 tl rl ku1 ku2 kl1 kl2 x0 x1 x2 y0 y1 y2 z0 z1 z2 sv h0 n0) vv U'.heap LL ∧ FrameEnd U oo U' LL ({ frames := 3, cells := 0, slots := 0, locals := 72 } : Room).cells ({ frames := 3, cells := 0, slots := 0, locals := 72 } : Room).slots) := by
  refine MetFree.of_bodySF (plainFor_of_name pn_7) hisR ?_
  intro p e s m args below meth c s₁ Bd hml0 hP hK
  obtain ⟨rfl, hZ, hh⟩ := hP
  have hx := Bd.exec
  have hby := Bd.bytes
  have hml : c.maxLocals = 7 := hml0
  have hown : s.vm.findClass "com/example/fewbits/fewbits/store/SegmentHull" = some m.cls := findClass_of_methodNamed Bd.named
  have hnm := (name_of_methodNamed Bd.named Bd.method).1
  have X0 : Stand p l e ({ frames := 3, cells := 0, slots := 0, locals := 72 } : Room) s m #[(.ref a1), (.long p2), (.double p3)] below meth c s₁ [] 0 0 := Stand.of_body Bd
  have e0 : s₁.heap = h0 := by rw [← hh, Bd.state]; rfl
  have N0 := Fr.nil n0
  obtain ⟨⟨xT, HT⟩, -⟩ := And.intro H.2.2.2.1 trivial
  have o1 := O.2.1; have o2 := O.2.2.1; have o3 := O.2.2.2.1; have o4 := O.2.2.2.2.1; have o5 := O.2.2.2.2.2.1; have o6 := O.2.2.2.2.2.2
  show Goes p e below (Fin s (Q_rm7_2 Z a1 p2 p3 u tu ru l1 tl rl ku1 ku2 kl1 kl2 x0 x1 x2 y0 y1 y2 z0 z1 z2 sv h0 n0) ({ frames := 3, cells := 0, slots := 0, locals := 72 } : Room).cells ({ frames := 3, cells := 0, slots := 0, locals := 72 } : Room).slots) _
  refine Goes.via (S' := s₁.setTop (mkF m 0 #[.val (.ref a1), .val (.long p2), .second, .val (.double p3), .second, .unset, .unset] [])) (fun tz kz => castTop (ef_7 m a1 p2 p3 ) kz) ?_
  refine Goes.via (S' := s₁.setTop (mkF m 2 #[.val (.ref a1), .val (.long p2), .second, .val (.double p3), .second, .unset, .unset] [(.ref a1), (.double p3)])) (fun tz kz => ?_) ?_
  · show Steps p.tables e below (s₁.setTop (mkF m 0 #[.val (.ref a1), .val (.long p2), .second, .val (.double p3), .second, .unset, .unset] [])) _
    refine XS.dloadN X0.here hx rfl (hb hby d7_0) rfl ?_
    show Steps p.tables e below (s₁.setTop (mkF m 1 #[.val (.ref a1), .val (.long p2), .second, .val (.double p3), .second, .unset, .unset] [(.double p3)])) _
    refine XS.aloadN X0.here hx rfl (hb hby d7_1) rfl rfl ?_
    exact kz
  obtain ⟨T1, X1, e1, st1⟩ := getF X0 hx hZ hown (host := "") (Or.inl (hw _ (List.mem_of_getElem? (i := 41) rfl))) Via.refl e0 H.2.2.2.2.1 (g := (mkF m 2 #[.val (.ref a1), .val (.long p2), .second, .val (.double p3), .second, .unset, .unset] [(.ref a1), (.double p3)])) rfl rfl (hb hby d7_2)
  refine Goes.via (S' := T1.setTop (mkF m 5 #[.val (.ref a1), .val (.long p2), .second, .val (.double p3), .second, .unset, .unset] [(.double sv), (.double p3)])) st1 ?_
  refine Goes.via (S' := T1.setTop (mkF m 9 #[.val (.ref a1), .val (.long p2), .second, .val (.double p3), .second, .val (.double (FP.dsub p3 sv)), .second] [(.ref a1)])) (fun tz kz => ?_) ?_
  · show Steps p.tables e below (T1.setTop (mkF m 5 #[.val (.ref a1), .val (.long p2), .second, .val (.double p3), .second, .unset, .unset] [(.double sv), (.double p3)])) _
    refine XS.dsubS X1.here hx rfl (hb hby d7_5) rfl fr.noNaN (v := (FP.dsub p3 sv)) rfl ?_
    show Steps p.tables e below (T1.setTop (mkF m 6 #[.val (.ref a1), .val (.long p2), .second, .val (.double p3), .second, .unset, .unset] [(.double (FP.dsub p3 sv))])) _
    refine XS.dstore X1.here hx rfl (hb hby d7_6) rfl (l' := #[.val (.ref a1), .val (.long p2), .second, .val (.double p3), .second, .val (.double (FP.dsub p3 sv)), .second]) rfl ?_
    show Steps p.tables e below (T1.setTop (mkF m 8 #[.val (.ref a1), .val (.long p2), .second, .val (.double p3), .second, .val (.double (FP.dsub p3 sv)), .second] [])) _
    refine XS.aloadN X1.here hx rfl (hb hby d7_8) rfl rfl ?_
    exact kz
  obtain ⟨T2, X2, e2, st2⟩ := getF X1 hx hZ hown (host := "") (Or.inl (hw _ (List.mem_of_getElem? (i := 22) rfl))) Via.refl e1 H.2.1 (g := (mkF m 9 #[.val (.ref a1), .val (.long p2), .second, .val (.double p3), .second, .val (.double (FP.dsub p3 sv)), .second] [(.ref a1)])) rfl rfl (hb hby d7_9)
  refine Goes.via (S' := T2.setTop (mkF m 12 #[.val (.ref a1), .val (.long p2), .second, .val (.double p3), .second, .val (.double (FP.dsub p3 sv)), .second] [(.ref u)])) st2 ?_
  refine Goes.via (S' := T2.setTop (mkF m 15 #[.val (.ref a1), .val (.long p2), .second, .val (.double p3), .second, .val (.double (FP.dsub p3 sv)), .second] [(.double (FP.dsub p3 sv)), (.long p2), (.ref u)])) (fun tz kz => ?_) ?_
  · show Steps p.tables e below (T2.setTop (mkF m 12 #[.val (.ref a1), .val (.long p2), .second, .val (.double p3), .second, .val (.double (FP.dsub p3 sv)), .second] [(.ref u)])) _
    refine XS.lloadN X2.here hx rfl (hb hby d7_12) rfl ?_
    show Steps p.tables e below (T2.setTop (mkF m 13 #[.val (.ref a1), .val (.long p2), .second, .val (.double p3), .second, .val (.double (FP.dsub p3 sv)), .second] [(.long p2), (.ref u)])) _
    refine XS.dload X2.here hx rfl (hb hby d7_13) rfl ?_
    exact kz
  obtain ⟨cq3, kq3, q3a, q3b, q3c⟩ := isOf hZ e2 H.2.2.2.2.2.1.1
  obtain ⟨_, _, ⟨T3, L3, k3, n3⟩, -, X3, ⟨Lc3, hQ3, l3, y3, z3⟩, st3⟩ := X2.virtualBack hx (y := (⟨"com/example/fewbits/fewbits/store/SegmentHull$Chain", "add", "(JD)V"⟩ : MethodName)) (z := (⟨"com/example/fewbits/fewbits/store/SegmentHull$Chain", "add", "(JD)V"⟩ : MethodName)) hown (mvT hZ (hw _ (List.mem_of_getElem? (i := 55) rfl))) (mvT hZ (hw _ (List.mem_of_getElem? (i := 56) rfl))) (notFace_of_selects (args := #[]) (mvT hZ (hw _ (List.mem_of_getElem? (i := 58) rfl)))) (mvT hZ (hw _ (List.mem_of_getElem? (i := 58) rfl))) (mvT hZ (hw _ (List.mem_of_getElem? (i := 57) rfl))) (by decide) (backOf (W := 0) (rm8_2 l Z a0 hw [] u p2 (FP.dsub p3 sv) tu ru ku1 ku2 x0 x1 x2 y0 y1 y2 h0 n0 Z0 H.2.2.2.2.2.1 (Nat.le_trans O.1 (Nat.le_of_lt o1)) o2 o3 f0 f1 fr hd1 hd2) hZ (hw _ (List.mem_of_getElem? (i := 59) rfl)) (hw _ (List.mem_of_getElem? (i := 11) rfl)) (by decide) (by decide)) q3a q3c (g := (mkF m 15 #[.val (.ref a1), .val (.long p2), .second, .val (.double p3), .second, .val (.double (FP.dsub p3 sv)), .second] [(.double (FP.dsub p3 sv)), (.long p2), (.ref u)])) rfl (by rw [hml]; rfl) (Steps.refl _) (argsL := [(.long p2), (.double (FP.dsub p3 sv))]) (rest := []) (lenOf pd_3 rfl) rfl (by show 2 * 0 + _ ≤ _; exact Nat.le_of_eq rfl) (hb hby d7_15) (fun _ _ => ⟨rfl, e2, (by decide : 0 + 0 ≤ _), (by decide : 0 + 0 ≤ _)⟩)
  dsimp only [Pt.U, Pt.locs, Pt.cells, Pt.slots] at X3 l3 y3 z3 st3 hQ3
  subst l3 y3 z3
  obtain ⟨rfl, N3, K3, mu, hmu, tsu', rsu', C3⟩ := hQ3
  have Nf3 := Fr.app N0 N3
  refine Goes.via (S' := T3.setTop (mkF m 18 #[.val (.ref a1), .val (.long p2), .second, .val (.double p3), .second, .val (.double (FP.dsub p3 sv)), .second] [])) (fun _ kz => st3.trans kz) ?_
  have Ea := H.1.keep K3
  have U1 := H.2.1.keep K3 (ninS (own_lt (by omega)) (ninS (own_lt (by omega)) (ninS (own_lt (by omega)) nin0)))
  have L1 := H.2.2.1.keep K3 (ninS (own_lt (by omega)) (ninS (own_lt (by omega)) (ninS (own_lt (by omega)) nin0)))
  have T1' := HT.keep K3 (ninS (own_lt (by omega)) (ninS (own_lt (by omega)) (ninS (own_lt (by omega)) nin0)))
  have V1 := H.2.2.2.2.1.keep K3 (ninS (own_lt (by omega)) (ninS (own_lt (by omega)) (ninS (own_lt (by omega)) nin0)))
  have Cl1 := H.2.2.2.2.2.2.keep K3 (ninS (own_gt (by omega)) (ninS (own_gt (by omega)) (ninS (own_gt (by omega)) nin0))) (ninS (own_gt (by omega)) (ninS (own_gt (by omega)) (ninS (own_gt (by omega)) nin0))) (ninS (own_gt (by omega)) (ninS (own_gt (by omega)) (ninS (own_gt (by omega)) nin0)))
  have K1 := (Keep.refl h0 [u, tu, ru, l1, tl, rl]).trans K3 (allS (Or.inl (by simp)) (allS (Or.inl (by simp)) (allS (Or.inl (by simp)) all0)))
  refine Goes.via (S' := T3.setTop (mkF m 19 #[.val (.ref a1), .val (.long p2), .second, .val (.double p3), .second, .val (.double (FP.dsub p3 sv)), .second] [(.ref a1)])) (fun tz kz => ?_) ?_
  · show Steps p.tables e below (T3.setTop (mkF m 18 #[.val (.ref a1), .val (.long p2), .second, .val (.double p3), .second, .val (.double (FP.dsub p3 sv)), .second] [])) _
    refine XS.aloadN X3.here hx rfl (hb hby d7_18) rfl rfl ?_
    exact kz
  obtain ⟨T4, X4, e4, st4⟩ := getF X3 hx hZ hown (host := "") (Or.inl (hw _ (List.mem_of_getElem? (i := 24) rfl))) Via.refl rfl L1 (g := (mkF m 19 #[.val (.ref a1), .val (.long p2), .second, .val (.double p3), .second, .val (.double (FP.dsub p3 sv)), .second] [(.ref a1)])) rfl rfl (hb hby d7_19)
  refine Goes.via (S' := T4.setTop (mkF m 22 #[.val (.ref a1), .val (.long p2), .second, .val (.double p3), .second, .val (.double (FP.dsub p3 sv)), .second] [(.ref l1)])) st4 ?_
  refine Goes.via (S' := T4.setTop (mkF m 26 #[.val (.ref a1), .val (.long p2), .second, .val (.double p3), .second, .val (.double (FP.dsub p3 sv)), .second] [(.double (FP.dneg (FP.dsub p3 sv))), (.long p2), (.ref l1)])) (fun tz kz => ?_) ?_
  · show Steps p.tables e below (T4.setTop (mkF m 22 #[.val (.ref a1), .val (.long p2), .second, .val (.double p3), .second, .val (.double (FP.dsub p3 sv)), .second] [(.ref l1)])) _
    refine XS.lloadN X4.here hx rfl (hb hby d7_22) rfl ?_
    show Steps p.tables e below (T4.setTop (mkF m 23 #[.val (.ref a1), .val (.long p2), .second, .val (.double p3), .second, .val (.double (FP.dsub p3 sv)), .second] [(.long p2), (.ref l1)])) _
    refine XS.dload X4.here hx rfl (hb hby d7_23) rfl ?_
    show Steps p.tables e below (T4.setTop (mkF m 25 #[.val (.ref a1), .val (.long p2), .second, .val (.double p3), .second, .val (.double (FP.dsub p3 sv)), .second] [(.double (FP.dsub p3 sv)), (.long p2), (.ref l1)])) _
    refine XS.dnegS X4.here hx rfl (hb hby d7_25) rfl (v := (FP.dneg (FP.dsub p3 sv))) rfl ?_
    exact kz
  obtain ⟨cq5, kq5, q5a, q5b, q5c⟩ := isOf hZ e4 Cl1.1
  obtain ⟨_, _, ⟨T5, L5, k5, n5⟩, -, X5, ⟨Lc5, hQ5, l5, y5, z5⟩, st5⟩ := X4.virtualBack hx (y := (⟨"com/example/fewbits/fewbits/store/SegmentHull$Chain", "add", "(JD)V"⟩ : MethodName)) (z := (⟨"com/example/fewbits/fewbits/store/SegmentHull$Chain", "add", "(JD)V"⟩ : MethodName)) hown (mvT hZ (hw _ (List.mem_of_getElem? (i := 55) rfl))) (mvT hZ (hw _ (List.mem_of_getElem? (i := 56) rfl))) (notFace_of_selects (args := #[]) (mvT hZ (hw _ (List.mem_of_getElem? (i := 58) rfl)))) (mvT hZ (hw _ (List.mem_of_getElem? (i := 58) rfl))) (mvT hZ (hw _ (List.mem_of_getElem? (i := 57) rfl))) (by decide) (backOf (W := 0) (rm8_2 l Z a0 hw [] l1 p2 (FP.dneg (FP.dsub p3 sv)) tl rl kl1 kl2 x0 x1 x2 z0 z1 z2 T3.heap n0 (Nat.le_trans Z0 K1.1) Cl1 (Nat.le_trans O.1 (by omega)) o5 o6 f3 f4 (own_neg fr) hd1 hd2) hZ (hw _ (List.mem_of_getElem? (i := 59) rfl)) (hw _ (List.mem_of_getElem? (i := 11) rfl)) (by decide) (by decide)) q5a q5c (g := (mkF m 26 #[.val (.ref a1), .val (.long p2), .second, .val (.double p3), .second, .val (.double (FP.dsub p3 sv)), .second] [(.double (FP.dneg (FP.dsub p3 sv))), (.long p2), (.ref l1)])) rfl (by rw [hml]; rfl) (Steps.refl _) (argsL := [(.long p2), (.double (FP.dneg (FP.dsub p3 sv)))]) (rest := []) (lenOf pd_3 rfl) rfl (by show 2 * 0 + _ ≤ _; exact Nat.le_of_eq rfl) (hb hby d7_26) (fun _ _ => ⟨rfl, e4, (by decide : 0 + 0 ≤ _), (by decide : 0 + 0 ≤ _)⟩)
  dsimp only [Pt.U, Pt.locs, Pt.cells, Pt.slots] at X5 l5 y5 z5 st5 hQ5
  subst l5 y5 z5
  obtain ⟨rfl, N5, K5, ml, hml', tsl', rsl', C5⟩ := hQ5
  have Nf5 := Fr.app Nf3 N5
  refine Goes.via (S' := T5.setTop (mkF m 29 #[.val (.ref a1), .val (.long p2), .second, .val (.double p3), .second, .val (.double (FP.dsub p3 sv)), .second] [])) (fun _ kz => st5.trans kz) ?_
  have Eb := Ea.keep K5
  have U2 := U1.keep K5 (ninS (own_lt (by omega)) (ninS (own_lt (by omega)) (ninS (own_lt (by omega)) nin0)))
  have L2 := L1.keep K5 (ninS (own_lt (by omega)) (ninS (own_lt (by omega)) (ninS (own_lt (by omega)) nin0)))
  have T2' := T1'.keep K5 (ninS (own_lt (by omega)) (ninS (own_lt (by omega)) (ninS (own_lt (by omega)) nin0)))
  have V2 := V1.keep K5 (ninS (own_lt (by omega)) (ninS (own_lt (by omega)) (ninS (own_lt (by omega)) nin0)))
  have Cu2 := C3.keep K5 (ninS (own_lt (by omega)) (ninS (own_lt (by omega)) (ninS (own_lt (by omega)) nin0))) (ninS (own_lt (by omega)) (ninS (own_lt (by omega)) (ninS (own_lt (by omega)) nin0))) (ninS (own_lt (by omega)) (ninS (own_lt (by omega)) (ninS (own_lt (by omega)) nin0)))
  have K2 := K1.trans K5 (allS (Or.inl (by simp)) (allS (Or.inl (by simp)) (allS (Or.inl (by simp)) all0)))
  exact Goes.retV X5 hx Bd.notSynchronized Bd.returns (hb hby d7_29) (Nat.le_of_ble_eq_true rfl) (Nat.le_of_ble_eq_true rfl) ⟨rfl, Nf5, K2, mu, ml, hmu, hml', _, _, _, _, Eb, U2, L2, ⟨_, T2'⟩, V2, Cu2, C5⟩
theorem own_lts {x a b : Int32} (h : x < a) (k : a < b) : x < b := by rw [Int32.lt_iff_toInt_lt] at *; omega
theorem pn_0 : plainName "com/example/fewbits/fewbits/store/SegmentHullIsFullPinLaw" = true := by first | (simp [plainName, overriddenIn]; done) | decide +kernel
theorem ef_0 (m : MethodId) (x0 : Int64) (x1 : Int32) (x2 : Int32) (x3 : Int32) (x4 : Int32) (x5 : Int32) : entryFrame m #[(.long x0), (.int x1), (.int x2), (.int x3), (.int x4), (.int x5)] maxLocals = mkF m 0 #[.val (.long x0), .second, .val (.int x1), .val (.int x2), .val (.int x3), .val (.int x4), .val (.int x5), .unset, .unset, .unset, .unset, .unset, .unset, .unset, .unset, .unset] [] := by first | (simp [entryFrame, mkF, argsToLocals, Value.category, maxLocals]; done) | rfl
def Q_rm0 (Z : State) (p1 : Int64) (p2 : Int32) (p3 : Int32) (p4 : Int32) (p5 : Int32) (p6 : Int32)  (h0 : Heap) (n0 : Nat) : Option Value → Heap → List Loc → Prop := fun v h L => v = some (.int 1) ∧ Fr n0 L
set_option maxRecDepth 65536 in
set_option maxHeartbeats 40000000 in
theorem rm0 (l : Launch) (Z : State) (a0 : Array Value) (hw : ∀ d ∈ tables_1, d.before a0 Z = true) (ws : List Jvm.Cond) (p1 : Int64) (p2 : Int32) (p3 : Int32) (p4 : Int32) (p5 : Int32) (p6 : Int32)  (h0 : Heap) (n0 : Nat) (Z0 : n0 ≤ h0.size) :
    MetFree l x (head1 (Jvm.Cond.code x code maxLocals ret :: ws) room_1) (fun a U => a = #[(.long p1), (.int p2), (.int p3), (.int p4), (.int p5), (.int p6)] ∧ Z.Warmed39 U.vm ∧ U.heap = h0) (fun _ _ _ _ _ => True) (fun _ U oo U' => ∃ vv LL, oo = .returned vv ∧ (Q_rm0 Z p1 p2 p3 p4 p5 p6 h0 n0) vv U'.heap LL ∧ FrameEnd U oo U' LL room_1.cells room_1.slots) := by
  refine MetFree.of_bodySF (plainFor_of_name pn_0) hisR ?_
  intro p e s m args below meth c s₁ Bd hml0 hP hK
  obtain ⟨rfl, hZ, hh⟩ := hP
  have hx := Bd.exec
  have hby := Bd.bytes
  have hml : c.maxLocals = 16 := hml0
  have hown : s.vm.findClass "com/example/fewbits/fewbits/store/SegmentHullIsFullPinLaw" = some m.cls := findClass_of_methodNamed Bd.named
  have hnm := (name_of_methodNamed Bd.named Bd.method).1
  have X0 : Stand p l e room_1 s m #[(.long p1), (.int p2), (.int p3), (.int p4), (.int p5), (.int p6)] below meth c s₁ [] 0 0 := Stand.of_body Bd
  have e0 : s₁.heap = h0 := by rw [← hh, Bd.state]; rfl
  have N0 := Fr.nil n0
  show Goes p e below (Fin s (Q_rm0 Z p1 p2 p3 p4 p5 p6 h0 n0) room_1.cells room_1.slots) _
  refine Goes.via (S' := s₁.setTop (mkF m 0 #[.val (.long p1), .second, .val (.int p2), .val (.int p3), .val (.int p4), .val (.int p5), .val (.int p6), .unset, .unset, .unset, .unset, .unset, .unset, .unset, .unset, .unset] [])) (fun tz kz => castTop (ef_0 m p1 p2 p3 p4 p5 p6 ) kz) ?_
  obtain ⟨T1, h1, X1, e1, E1, A1, D1, -, st1⟩ := newO X0 hx hZ hown (hw _ (List.mem_of_getElem? (i := 0) rfl)) (hw _ (List.mem_of_getElem? (i := 1) rfl)) (hw _ (List.mem_of_getElem? (i := 2) rfl)) e0 (g := (mkF m 0 #[.val (.long p1), .second, .val (.int p2), .val (.int p3), .val (.int p4), .val (.int p5), .val (.int p6), .unset, .unset, .unset, .unset, .unset, .unset, .unset, .unset, .unset] [])) rfl (hb hby at_0) (by decide) (by decide)
  obtain ⟨b1, g1⟩ : ∃ z, z = h0.size := ⟨_, rfl⟩
  rw [← g1] at A1 D1 st1
  refine Goes.via (S' := T1.setTop (mkF m 3 #[.val (.long p1), .second, .val (.int p2), .val (.int p3), .val (.int p4), .val (.int p5), .val (.int p6), .unset, .unset, .unset, .unset, .unset, .unset, .unset, .unset, .unset] [(.ref b1)])) st1 ?_
  have FU : Fld Z h1 b1 "com/example/fewbits/fewbits/store/SegmentHull" "upper" "Lcom/example/fewbits/fewbits/store/SegmentHull$Chain;" .null := D1 (Or.inr (hw _ (List.mem_of_getElem? (i := 23) rfl))) (ty := (.object "com/example/fewbits/fewbits/store/SegmentHull$Chain")) (by decide)
  have FL : Fld Z h1 b1 "com/example/fewbits/fewbits/store/SegmentHull" "lower" "Lcom/example/fewbits/fewbits/store/SegmentHull$Chain;" .null := D1 (Or.inr (hw _ (List.mem_of_getElem? (i := 25) rfl))) (ty := (.object "com/example/fewbits/fewbits/store/SegmentHull$Chain")) (by decide)
  have FT : Fld Z h1 b1 "com/example/fewbits/fewbits/store/SegmentHull" "startTimestamp" "J" (.long (0 : Int64)) := D1 (Or.inl (hw _ (List.mem_of_getElem? (i := 40) rfl))) (ty := .long) (by decide)
  have FV : Fld Z h1 b1 "com/example/fewbits/fewbits/store/SegmentHull" "startValue" "D" (.double 0) := D1 (Or.inl (hw _ (List.mem_of_getElem? (i := 42) rfl))) (ty := .double) (by decide)
  have Z1 : n0 ≤ h1.size := Nat.le_trans Z0 E1.1
  have ga : n0 ≤ b1 := Nat.le_trans Z0 (Nat.le_of_eq g1.symm)
  refine Goes.via (S' := T1.setTop (mkF m 4 #[.val (.long p1), .second, .val (.int p2), .val (.int p3), .val (.int p4), .val (.int p5), .val (.int p6), .unset, .unset, .unset, .unset, .unset, .unset, .unset, .unset, .unset] [(.ref b1), (.ref b1)])) (fun tz kz => ?_) ?_
  · show Steps p.tables e below (T1.setTop (mkF m 3 #[.val (.long p1), .second, .val (.int p2), .val (.int p3), .val (.int p4), .val (.int p5), .val (.int p6), .unset, .unset, .unset, .unset, .unset, .unset, .unset, .unset, .unset] [(.ref b1)])) _
    refine XS.dup X1.here hx rfl (hb hby at_3) rfl rfl ?_
    exact kz
  obtain ⟨_, _, ⟨T2, L2, k2, n2⟩, -, X2, ⟨Lc2, hQ2, l2, y2, z2⟩, st2⟩ := X1.specialBack hx (y := (⟨"com/example/fewbits/fewbits/store/SegmentHull", "<init>", "()V"⟩ : MethodName)) rfl hown (mvT hZ (hw _ (List.mem_of_getElem? (i := 3) rfl))) (mvT hZ (hw _ (List.mem_of_getElem? (i := 4) rfl))) (mvT hZ (hw _ (List.mem_of_getElem? (i := 5) rfl))) (by decide) (backOf (W := 1) (rm1 l Z a0 hw [] b1 h1 n0 Z1 FU FL FT FV A1 ga) hZ (hw _ (List.mem_of_getElem? (i := 5) rfl)) (hw _ (List.mem_of_getElem? (i := 2) rfl)) (by decide) (by decide)) (g := (mkF m 4 #[.val (.long p1), .second, .val (.int p2), .val (.int p3), .val (.int p4), .val (.int p5), .val (.int p6), .unset, .unset, .unset, .unset, .unset, .unset, .unset, .unset, .unset] [(.ref b1), (.ref b1)])) rfl (by rw [hml]; rfl) (Steps.refl _) (a := b1) (argsL := []) (rest := [(.ref b1)]) (lenOf pd_0 rfl) rfl (by show 2 * 0 + _ ≤ _; exact Nat.le_of_eq rfl) (hb hby at_4) (fun _ _ => ⟨rfl, e1, (by decide : 1 + 6 ≤ _), (by decide : 4 + 70 ≤ _)⟩)
  dsimp only [Pt.U, Pt.locs, Pt.cells, Pt.slots] at X2 l2 y2 z2 st2 hQ2
  subst l2 y2 z2
  obtain ⟨rfl, N2, K2, u, tu, ru, l1, tl, rl, ku1, ku2, kl1, kl2, H2, O⟩ := hQ2
  have Nf2 := Fr.app N0 N2
  refine Goes.via (S' := T2.setTop (mkF m 7 #[.val (.long p1), .second, .val (.int p2), .val (.int p3), .val (.int p4), .val (.int p5), .val (.int p6), .unset, .unset, .unset, .unset, .unset, .unset, .unset, .unset, .unset] [(.ref b1)])) (fun _ kz => st2.trans kz) ?_
  have Z2 := Nat.le_trans Z1 K2.1
  refine Goes.via (S' := T2.setTop (mkF m 11 #[.val (.long p1), .second, .val (.int p2), .val (.int p3), .val (.int p4), .val (.int p5), .val (.int p6), .val (.ref b1), .unset, .unset, .unset, .unset, .unset, .unset, .unset, .unset] [(.ref b1)])) (fun tz kz => ?_) ?_
  · show Steps p.tables e below (T2.setTop (mkF m 7 #[.val (.long p1), .second, .val (.int p2), .val (.int p3), .val (.int p4), .val (.int p5), .val (.int p6), .unset, .unset, .unset, .unset, .unset, .unset, .unset, .unset, .unset] [(.ref b1)])) _
    refine XS.astore X2.here hx rfl (hb hby at_7) rfl rfl (l' := #[.val (.long p1), .second, .val (.int p2), .val (.int p3), .val (.int p4), .val (.int p5), .val (.int p6), .val (.ref b1), .unset, .unset, .unset, .unset, .unset, .unset, .unset, .unset]) rfl ?_
    show Steps p.tables e below (T2.setTop (mkF m 9 #[.val (.long p1), .second, .val (.int p2), .val (.int p3), .val (.int p4), .val (.int p5), .val (.int p6), .val (.ref b1), .unset, .unset, .unset, .unset, .unset, .unset, .unset, .unset] [])) _
    refine XS.aload X2.here hx rfl (hb hby at_9) rfl rfl ?_
    exact kz
  obtain ⟨cq3, kq3, q3a, q3b, q3c⟩ := isOf hZ rfl H2.1
  obtain ⟨_, _, ⟨T3, L3, k3, n3⟩, -, X3, ⟨Lc3, hQ3, l3, y3, z3⟩, st3⟩ := X2.virtualBack hx (y := (⟨"com/example/fewbits/fewbits/store/SegmentHull", "isFull", "()Z"⟩ : MethodName)) (z := (⟨"com/example/fewbits/fewbits/store/SegmentHull", "isFull", "()Z"⟩ : MethodName)) hown (mvT hZ (hw _ (List.mem_of_getElem? (i := 26) rfl))) (mvT hZ (hw _ (List.mem_of_getElem? (i := 27) rfl))) (notFace_of_selects (args := #[]) (mvT hZ (hw _ (List.mem_of_getElem? (i := 29) rfl)))) (mvT hZ (hw _ (List.mem_of_getElem? (i := 29) rfl))) (mvT hZ (hw _ (List.mem_of_getElem? (i := 28) rfl))) (by decide) (backOf (W := 0) (rm4 l Z a0 hw [] b1 u tu ru l1 tl rl ku1 ku2 kl1 kl2 [.long 0, .long 0, .long 0] [.double 0, .double 0, .double 0] 0 [.long 0, .long 0, .long 0] [.double 0, .double 0, .double 0] 0 0 T2.heap n0 Z2 H2 (by decide) (by decide)) hZ (hw _ (List.mem_of_getElem? (i := 30) rfl)) (hw _ (List.mem_of_getElem? (i := 2) rfl)) (by decide) (by decide)) q3a q3c (g := (mkF m 11 #[.val (.long p1), .second, .val (.int p2), .val (.int p3), .val (.int p4), .val (.int p5), .val (.int p6), .val (.ref b1), .unset, .unset, .unset, .unset, .unset, .unset, .unset, .unset] [(.ref b1)])) rfl (by rw [hml]; rfl) (Steps.refl _) (argsL := []) (rest := []) (lenOf pd_4 rfl) rfl (by show 2 * 0 + _ ≤ _; exact Nat.le_of_eq rfl) (hb hby at_11) (fun _ _ => ⟨rfl, rfl, (by decide : 7 + 0 ≤ _), (by decide : 74 + 0 ≤ _)⟩)
  dsimp only [Pt.U, Pt.locs, Pt.cells, Pt.slots] at X3 l3 y3 z3 st3 hQ3
  subst l3 y3 z3
  obtain ⟨rfl, N3, e3⟩ := hQ3
  have Nf3 := Fr.app Nf2 N3
  refine Goes.via (S' := T3.setTop (mkF m 14 #[.val (.long p1), .second, .val (.int p2), .val (.int p3), .val (.int p4), .val (.int p5), .val (.int p6), .val (.ref b1), .unset, .unset, .unset, .unset, .unset, .unset, .unset, .unset] [(.int (0 : Int32))])) (fun _ kz => st3.trans kz) ?_
  refine Goes.via (S' := T3.setTop (mkF m 29 #[.val (.long p1), .second, .val (.int p2), .val (.int p3), .val (.int p4), .val (.int p5), .val (.int p6), .val (.ref b1), .val (.int (1 : Int32)), .unset, .unset, .unset, .unset, .unset, .unset, .unset] [(.double (FP.i2d p2)), (.long p1), (.ref b1)])) (fun tz kz => ?_) ?_
  · show Steps p.tables e below (T3.setTop (mkF m 14 #[.val (.long p1), .second, .val (.int p2), .val (.int p3), .val (.int p4), .val (.int p5), .val (.int p6), .val (.ref b1), .unset, .unset, .unset, .unset, .unset, .unset, .unset, .unset] [(.int (0 : Int32))])) _
    refine XS.ifNo X3.here hx rfl (hb hby at_14) rfl ((if0 _ _).trans (teq (by decide)).2) ?_
    show Steps p.tables e below (T3.setTop (mkF m 17 #[.val (.long p1), .second, .val (.int p2), .val (.int p3), .val (.int p4), .val (.int p5), .val (.int p6), .val (.ref b1), .unset, .unset, .unset, .unset, .unset, .unset, .unset, .unset] [])) _
    refine XS.iconst X3.here hx rfl (hb hby at_17) ?_
    show Steps p.tables e below (T3.setTop (mkF m 18 #[.val (.long p1), .second, .val (.int p2), .val (.int p3), .val (.int p4), .val (.int p5), .val (.int p6), .val (.ref b1), .unset, .unset, .unset, .unset, .unset, .unset, .unset, .unset] [(.int (1 : Int32))])) _
    refine XS.goto X3.here hx rfl (pc0 := 18) (pc' := 22) rfl (hb hby at_18) (by decide) (by decide) ?_
    show Steps p.tables e below (T3.setTop (mkF m 22 #[.val (.long p1), .second, .val (.int p2), .val (.int p3), .val (.int p4), .val (.int p5), .val (.int p6), .val (.ref b1), .unset, .unset, .unset, .unset, .unset, .unset, .unset, .unset] [(.int (1 : Int32))])) _
    refine XS.istore X3.here hx rfl (hb hby at_22) rfl (l' := #[.val (.long p1), .second, .val (.int p2), .val (.int p3), .val (.int p4), .val (.int p5), .val (.int p6), .val (.ref b1), .val (.int (1 : Int32)), .unset, .unset, .unset, .unset, .unset, .unset, .unset]) rfl ?_
    show Steps p.tables e below (T3.setTop (mkF m 24 #[.val (.long p1), .second, .val (.int p2), .val (.int p3), .val (.int p4), .val (.int p5), .val (.int p6), .val (.ref b1), .val (.int (1 : Int32)), .unset, .unset, .unset, .unset, .unset, .unset, .unset] [])) _
    refine XS.aload X3.here hx rfl (hb hby at_24) rfl rfl ?_
    show Steps p.tables e below (T3.setTop (mkF m 26 #[.val (.long p1), .second, .val (.int p2), .val (.int p3), .val (.int p4), .val (.int p5), .val (.int p6), .val (.ref b1), .val (.int (1 : Int32)), .unset, .unset, .unset, .unset, .unset, .unset, .unset] [(.ref b1)])) _
    refine XS.lloadN X3.here hx rfl (hb hby at_26) rfl ?_
    show Steps p.tables e below (T3.setTop (mkF m 27 #[.val (.long p1), .second, .val (.int p2), .val (.int p3), .val (.int p4), .val (.int p5), .val (.int p6), .val (.ref b1), .val (.int (1 : Int32)), .unset, .unset, .unset, .unset, .unset, .unset, .unset] [(.long p1), (.ref b1)])) _
    refine XS.iloadN X3.here hx rfl (hb hby at_27) rfl ?_
    show Steps p.tables e below (T3.setTop (mkF m 28 #[.val (.long p1), .second, .val (.int p2), .val (.int p3), .val (.int p4), .val (.int p5), .val (.int p6), .val (.ref b1), .val (.int (1 : Int32)), .unset, .unset, .unset, .unset, .unset, .unset, .unset] [(.int p2), (.long p1), (.ref b1)])) _
    refine XS.i2dS X3.here hx rfl (hb hby at_28) rfl (v := FP.i2d p2) rfl ?_
    exact kz
  obtain ⟨cq4, kq4, q4a, q4b, q4c⟩ := isOf hZ e3 H2.1
  obtain ⟨_, _, ⟨T4, L4, k4, n4⟩, -, X4, ⟨Lc4, hQ4, l4, y4, z4⟩, st4⟩ := X3.virtualBack hx (y := (⟨"com/example/fewbits/fewbits/store/SegmentHull", "start", "(JD)V"⟩ : MethodName)) (z := (⟨"com/example/fewbits/fewbits/store/SegmentHull", "start", "(JD)V"⟩ : MethodName)) hown (mvT hZ (hw _ (List.mem_of_getElem? (i := 34) rfl))) (mvT hZ (hw _ (List.mem_of_getElem? (i := 35) rfl))) (notFace_of_selects (args := #[]) (mvT hZ (hw _ (List.mem_of_getElem? (i := 37) rfl)))) (mvT hZ (hw _ (List.mem_of_getElem? (i := 37) rfl))) (mvT hZ (hw _ (List.mem_of_getElem? (i := 36) rfl))) (by decide) (backOf (W := 0) (rm5 l Z a0 hw [] b1 p1 (FP.i2d p2) u tu ru l1 tl rl ku1 ku2 kl1 kl2 [.long 0, .long 0, .long 0] [.double 0, .double 0, .double 0] 0 [.long 0, .long 0, .long 0] [.double 0, .double 0, .double 0] 0 0 T2.heap n0 Z2 H2 O) hZ (hw _ (List.mem_of_getElem? (i := 38) rfl)) (hw _ (List.mem_of_getElem? (i := 2) rfl)) (by decide) (by decide)) q4a q4c (g := (mkF m 29 #[.val (.long p1), .second, .val (.int p2), .val (.int p3), .val (.int p4), .val (.int p5), .val (.int p6), .val (.ref b1), .val (.int (1 : Int32)), .unset, .unset, .unset, .unset, .unset, .unset, .unset] [(.double (FP.i2d p2)), (.long p1), (.ref b1)])) rfl (by rw [hml]; rfl) (Steps.refl _) (argsL := [(.long p1), (.double (FP.i2d p2))]) (rest := []) (lenOf pd_3 rfl) rfl (by show 2 * 0 + _ ≤ _; exact Nat.le_of_eq rfl) (hb hby at_29) (fun _ _ => ⟨rfl, e3, (by decide : 7 + 0 ≤ _), (by decide : 74 + 0 ≤ _)⟩)
  dsimp only [Pt.U, Pt.locs, Pt.cells, Pt.slots] at X4 l4 y4 z4 st4 hQ4
  subst l4 y4 z4
  obtain ⟨rfl, N4, K4, H4⟩ := hQ4
  have Nf4 := Fr.app Nf3 N4
  refine Goes.via (S' := T4.setTop (mkF m 32 #[.val (.long p1), .second, .val (.int p2), .val (.int p3), .val (.int p4), .val (.int p5), .val (.int p6), .val (.ref b1), .val (.int (1 : Int32)), .unset, .unset, .unset, .unset, .unset, .unset, .unset] [])) (fun _ kz => st4.trans kz) ?_
  have Z4 := Nat.le_trans Z2 K4.1
  refine Goes.via (S' := T4.setTop (mkF m 39 #[.val (.long p1), .second, .val (.int p2), .val (.int p3), .val (.int p4), .val (.int p5), .val (.int p6), .val (.ref b1), .val (.int (1 : Int32)), .unset, .unset, .unset, .unset, .unset, .unset, .unset] [(.ref b1)])) (fun tz kz => ?_) ?_
  · show Steps p.tables e below (T4.setTop (mkF m 32 #[.val (.long p1), .second, .val (.int p2), .val (.int p3), .val (.int p4), .val (.int p5), .val (.int p6), .val (.ref b1), .val (.int (1 : Int32)), .unset, .unset, .unset, .unset, .unset, .unset, .unset] [])) _
    refine XS.iload X4.here hx rfl (hb hby at_32) rfl ?_
    show Steps p.tables e below (T4.setTop (mkF m 34 #[.val (.long p1), .second, .val (.int p2), .val (.int p3), .val (.int p4), .val (.int p5), .val (.int p6), .val (.ref b1), .val (.int (1 : Int32)), .unset, .unset, .unset, .unset, .unset, .unset, .unset] [(.int (1 : Int32))])) _
    refine XS.ifNo X4.here hx rfl (hb hby at_34) rfl ((if0 _ _).trans (feq (by decide)).1) ?_
    show Steps p.tables e below (T4.setTop (mkF m 37 #[.val (.long p1), .second, .val (.int p2), .val (.int p3), .val (.int p4), .val (.int p5), .val (.int p6), .val (.ref b1), .val (.int (1 : Int32)), .unset, .unset, .unset, .unset, .unset, .unset, .unset] [])) _
    refine XS.aload X4.here hx rfl (hb hby at_37) rfl rfl ?_
    exact kz
  obtain ⟨cq5, kq5, q5a, q5b, q5c⟩ := isOf hZ rfl H4.1
  obtain ⟨_, _, ⟨T5, L5, k5, n5⟩, -, X5, ⟨Lc5, hQ5, l5, y5, z5⟩, st5⟩ := X4.virtualBack hx (y := (⟨"com/example/fewbits/fewbits/store/SegmentHull", "isFull", "()Z"⟩ : MethodName)) (z := (⟨"com/example/fewbits/fewbits/store/SegmentHull", "isFull", "()Z"⟩ : MethodName)) hown (mvT hZ (hw _ (List.mem_of_getElem? (i := 26) rfl))) (mvT hZ (hw _ (List.mem_of_getElem? (i := 27) rfl))) (notFace_of_selects (args := #[]) (mvT hZ (hw _ (List.mem_of_getElem? (i := 29) rfl)))) (mvT hZ (hw _ (List.mem_of_getElem? (i := 29) rfl))) (mvT hZ (hw _ (List.mem_of_getElem? (i := 28) rfl))) (by decide) (backOf (W := 0) (rm4 l Z a0 hw [] b1 u tu ru l1 tl rl ku1 ku2 kl1 kl2 [.long 0, .long 0, .long 0] [.double 0, .double 0, .double 0] 0 [.long 0, .long 0, .long 0] [.double 0, .double 0, .double 0] 0 (FP.i2d p2) T4.heap n0 Z4 H4 (by decide) (by decide)) hZ (hw _ (List.mem_of_getElem? (i := 30) rfl)) (hw _ (List.mem_of_getElem? (i := 2) rfl)) (by decide) (by decide)) q5a q5c (g := (mkF m 39 #[.val (.long p1), .second, .val (.int p2), .val (.int p3), .val (.int p4), .val (.int p5), .val (.int p6), .val (.ref b1), .val (.int (1 : Int32)), .unset, .unset, .unset, .unset, .unset, .unset, .unset] [(.ref b1)])) rfl (by rw [hml]; rfl) (Steps.refl _) (argsL := []) (rest := []) (lenOf pd_4 rfl) rfl (by show 2 * 0 + _ ≤ _; exact Nat.le_of_eq rfl) (hb hby at_39) (fun _ _ => ⟨rfl, rfl, (by decide : 7 + 0 ≤ _), (by decide : 74 + 0 ≤ _)⟩)
  dsimp only [Pt.U, Pt.locs, Pt.cells, Pt.slots] at X5 l5 y5 z5 st5 hQ5
  subst l5 y5 z5
  obtain ⟨rfl, N5, e5⟩ := hQ5
  have Nf5 := Fr.app Nf4 N5
  refine Goes.via (S' := T5.setTop (mkF m 42 #[.val (.long p1), .second, .val (.int p2), .val (.int p3), .val (.int p4), .val (.int p5), .val (.int p6), .val (.ref b1), .val (.int (1 : Int32)), .unset, .unset, .unset, .unset, .unset, .unset, .unset] [(.int (0 : Int32))])) (fun _ kz => st5.trans kz) ?_
  refine Goes.via (S' := T5.setTop (mkF m 98 #[.val (.long p1), .second, .val (.int p2), .val (.int p3), .val (.int p4), .val (.int p5), .val (.int p6), .val (.ref b1), .val (.int (1 : Int32)), .val (.int (p6 &&& (3 : Int32))), .val (.long ((p1 + (1 : Int64)) + ((p3 &&& (65535 : Int32)).toInt64))), .second, .val (.long ((((p1 + (1 : Int64)) + ((p3 &&& (65535 : Int32)).toInt64)) + (1 : Int64)) + ((p4 &&& (65535 : Int32)).toInt64))), .second, .val (.long ((((((p1 + (1 : Int64)) + ((p3 &&& (65535 : Int32)).toInt64)) + (1 : Int64)) + ((p4 &&& (65535 : Int32)).toInt64)) + (1 : Int64)) + ((p5 &&& (65535 : Int32)).toInt64))), .second] [(.int (1 : Int32)), (.int (p6 &&& (3 : Int32)))])) (fun tz kz => ?_) ?_
  · show Steps p.tables e below (T5.setTop (mkF m 42 #[.val (.long p1), .second, .val (.int p2), .val (.int p3), .val (.int p4), .val (.int p5), .val (.int p6), .val (.ref b1), .val (.int (1 : Int32)), .unset, .unset, .unset, .unset, .unset, .unset, .unset] [(.int (0 : Int32))])) _
    refine XS.ifNo X5.here hx rfl (hb hby at_42) rfl ((if0 _ _).trans (teq (by decide)).2) ?_
    show Steps p.tables e below (T5.setTop (mkF m 45 #[.val (.long p1), .second, .val (.int p2), .val (.int p3), .val (.int p4), .val (.int p5), .val (.int p6), .val (.ref b1), .val (.int (1 : Int32)), .unset, .unset, .unset, .unset, .unset, .unset, .unset] [])) _
    refine XS.iconst X5.here hx rfl (hb hby at_45) ?_
    show Steps p.tables e below (T5.setTop (mkF m 46 #[.val (.long p1), .second, .val (.int p2), .val (.int p3), .val (.int p4), .val (.int p5), .val (.int p6), .val (.ref b1), .val (.int (1 : Int32)), .unset, .unset, .unset, .unset, .unset, .unset, .unset] [(.int (1 : Int32))])) _
    refine XS.goto X5.here hx rfl (pc0 := 46) (pc' := 50) rfl (hb hby at_46) (by decide) (by decide) ?_
    show Steps p.tables e below (T5.setTop (mkF m 50 #[.val (.long p1), .second, .val (.int p2), .val (.int p3), .val (.int p4), .val (.int p5), .val (.int p6), .val (.ref b1), .val (.int (1 : Int32)), .unset, .unset, .unset, .unset, .unset, .unset, .unset] [(.int (1 : Int32))])) _
    refine XS.istore X5.here hx rfl (hb hby at_50) rfl (l' := #[.val (.long p1), .second, .val (.int p2), .val (.int p3), .val (.int p4), .val (.int p5), .val (.int p6), .val (.ref b1), .val (.int (1 : Int32)), .unset, .unset, .unset, .unset, .unset, .unset, .unset]) rfl ?_
    show Steps p.tables e below (T5.setTop (mkF m 52 #[.val (.long p1), .second, .val (.int p2), .val (.int p3), .val (.int p4), .val (.int p5), .val (.int p6), .val (.ref b1), .val (.int (1 : Int32)), .unset, .unset, .unset, .unset, .unset, .unset, .unset] [])) _
    refine XS.iload X5.here hx rfl (hb hby at_52) rfl ?_
    show Steps p.tables e below (T5.setTop (mkF m 54 #[.val (.long p1), .second, .val (.int p2), .val (.int p3), .val (.int p4), .val (.int p5), .val (.int p6), .val (.ref b1), .val (.int (1 : Int32)), .unset, .unset, .unset, .unset, .unset, .unset, .unset] [(.int p6)])) _
    refine XS.iconst X5.here hx rfl (hb hby at_54) ?_
    show Steps p.tables e below (T5.setTop (mkF m 55 #[.val (.long p1), .second, .val (.int p2), .val (.int p3), .val (.int p4), .val (.int p5), .val (.int p6), .val (.ref b1), .val (.int (1 : Int32)), .unset, .unset, .unset, .unset, .unset, .unset, .unset] [(.int (3 : Int32)), (.int p6)])) _
    refine XS.iand X5.here hx rfl (hb hby at_55) rfl ?_
    show Steps p.tables e below (T5.setTop (mkF m 56 #[.val (.long p1), .second, .val (.int p2), .val (.int p3), .val (.int p4), .val (.int p5), .val (.int p6), .val (.ref b1), .val (.int (1 : Int32)), .unset, .unset, .unset, .unset, .unset, .unset, .unset] [(.int (p6 &&& (3 : Int32)))])) _
    refine XS.istore X5.here hx rfl (hb hby at_56) rfl (l' := #[.val (.long p1), .second, .val (.int p2), .val (.int p3), .val (.int p4), .val (.int p5), .val (.int p6), .val (.ref b1), .val (.int (1 : Int32)), .val (.int (p6 &&& (3 : Int32))), .unset, .unset, .unset, .unset, .unset, .unset]) rfl ?_
    show Steps p.tables e below (T5.setTop (mkF m 58 #[.val (.long p1), .second, .val (.int p2), .val (.int p3), .val (.int p4), .val (.int p5), .val (.int p6), .val (.ref b1), .val (.int (1 : Int32)), .val (.int (p6 &&& (3 : Int32))), .unset, .unset, .unset, .unset, .unset, .unset] [])) _
    refine XS.lloadN X5.here hx rfl (hb hby at_58) rfl ?_
    show Steps p.tables e below (T5.setTop (mkF m 59 #[.val (.long p1), .second, .val (.int p2), .val (.int p3), .val (.int p4), .val (.int p5), .val (.int p6), .val (.ref b1), .val (.int (1 : Int32)), .val (.int (p6 &&& (3 : Int32))), .unset, .unset, .unset, .unset, .unset, .unset] [(.long p1)])) _
    refine XS.lconst X5.here hx rfl (hb hby at_59) ?_
    show Steps p.tables e below (T5.setTop (mkF m 60 #[.val (.long p1), .second, .val (.int p2), .val (.int p3), .val (.int p4), .val (.int p5), .val (.int p6), .val (.ref b1), .val (.int (1 : Int32)), .val (.int (p6 &&& (3 : Int32))), .unset, .unset, .unset, .unset, .unset, .unset] [(.long (1 : Int64)), (.long p1)])) _
    refine XS.ladd X5.here hx rfl (hb hby at_60) rfl ?_
    show Steps p.tables e below (T5.setTop (mkF m 61 #[.val (.long p1), .second, .val (.int p2), .val (.int p3), .val (.int p4), .val (.int p5), .val (.int p6), .val (.ref b1), .val (.int (1 : Int32)), .val (.int (p6 &&& (3 : Int32))), .unset, .unset, .unset, .unset, .unset, .unset] [(.long (p1 + (1 : Int64)))])) _
    refine XS.iloadN X5.here hx rfl (hb hby at_61) rfl ?_
    show Steps p.tables e below (T5.setTop (mkF m 62 #[.val (.long p1), .second, .val (.int p2), .val (.int p3), .val (.int p4), .val (.int p5), .val (.int p6), .val (.ref b1), .val (.int (1 : Int32)), .val (.int (p6 &&& (3 : Int32))), .unset, .unset, .unset, .unset, .unset, .unset] [(.int p3), (.long (p1 + (1 : Int64)))])) _
    refine X5.ldcInt hx hown (mvT hZ (hw _ (List.mem_of_getElem? (i := 49) rfl))) (g := (mkF m 62 #[.val (.long p1), .second, .val (.int p2), .val (.int p3), .val (.int p4), .val (.int p5), .val (.int p6), .val (.ref b1), .val (.int (1 : Int32)), .val (.int (p6 &&& (3 : Int32))), .unset, .unset, .unset, .unset, .unset, .unset] [(.int p3), (.long (p1 + (1 : Int64)))])) rfl (hb hby at_62) _ ?_
    show Steps p.tables e below (T5.setTop (mkF m 64 #[.val (.long p1), .second, .val (.int p2), .val (.int p3), .val (.int p4), .val (.int p5), .val (.int p6), .val (.ref b1), .val (.int (1 : Int32)), .val (.int (p6 &&& (3 : Int32))), .unset, .unset, .unset, .unset, .unset, .unset] [(.int (65535 : Int32)), (.int p3), (.long (p1 + (1 : Int64)))])) _
    refine XS.iand X5.here hx rfl (hb hby at_64) rfl ?_
    show Steps p.tables e below (T5.setTop (mkF m 65 #[.val (.long p1), .second, .val (.int p2), .val (.int p3), .val (.int p4), .val (.int p5), .val (.int p6), .val (.ref b1), .val (.int (1 : Int32)), .val (.int (p6 &&& (3 : Int32))), .unset, .unset, .unset, .unset, .unset, .unset] [(.int (p3 &&& (65535 : Int32))), (.long (p1 + (1 : Int64)))])) _
    refine XS.i2l X5.here hx rfl (hb hby at_65) rfl ?_
    show Steps p.tables e below (T5.setTop (mkF m 66 #[.val (.long p1), .second, .val (.int p2), .val (.int p3), .val (.int p4), .val (.int p5), .val (.int p6), .val (.ref b1), .val (.int (1 : Int32)), .val (.int (p6 &&& (3 : Int32))), .unset, .unset, .unset, .unset, .unset, .unset] [(.long ((p3 &&& (65535 : Int32)).toInt64)), (.long (p1 + (1 : Int64)))])) _
    refine XS.ladd X5.here hx rfl (hb hby at_66) rfl ?_
    show Steps p.tables e below (T5.setTop (mkF m 67 #[.val (.long p1), .second, .val (.int p2), .val (.int p3), .val (.int p4), .val (.int p5), .val (.int p6), .val (.ref b1), .val (.int (1 : Int32)), .val (.int (p6 &&& (3 : Int32))), .unset, .unset, .unset, .unset, .unset, .unset] [(.long ((p1 + (1 : Int64)) + ((p3 &&& (65535 : Int32)).toInt64)))])) _
    refine XS.lstore X5.here hx rfl (hb hby at_67) rfl (l' := #[.val (.long p1), .second, .val (.int p2), .val (.int p3), .val (.int p4), .val (.int p5), .val (.int p6), .val (.ref b1), .val (.int (1 : Int32)), .val (.int (p6 &&& (3 : Int32))), .val (.long ((p1 + (1 : Int64)) + ((p3 &&& (65535 : Int32)).toInt64))), .second, .unset, .unset, .unset, .unset]) rfl ?_
    show Steps p.tables e below (T5.setTop (mkF m 69 #[.val (.long p1), .second, .val (.int p2), .val (.int p3), .val (.int p4), .val (.int p5), .val (.int p6), .val (.ref b1), .val (.int (1 : Int32)), .val (.int (p6 &&& (3 : Int32))), .val (.long ((p1 + (1 : Int64)) + ((p3 &&& (65535 : Int32)).toInt64))), .second, .unset, .unset, .unset, .unset] [])) _
    refine XS.lload X5.here hx rfl (hb hby at_69) rfl ?_
    show Steps p.tables e below (T5.setTop (mkF m 71 #[.val (.long p1), .second, .val (.int p2), .val (.int p3), .val (.int p4), .val (.int p5), .val (.int p6), .val (.ref b1), .val (.int (1 : Int32)), .val (.int (p6 &&& (3 : Int32))), .val (.long ((p1 + (1 : Int64)) + ((p3 &&& (65535 : Int32)).toInt64))), .second, .unset, .unset, .unset, .unset] [(.long ((p1 + (1 : Int64)) + ((p3 &&& (65535 : Int32)).toInt64)))])) _
    refine XS.lconst X5.here hx rfl (hb hby at_71) ?_
    show Steps p.tables e below (T5.setTop (mkF m 72 #[.val (.long p1), .second, .val (.int p2), .val (.int p3), .val (.int p4), .val (.int p5), .val (.int p6), .val (.ref b1), .val (.int (1 : Int32)), .val (.int (p6 &&& (3 : Int32))), .val (.long ((p1 + (1 : Int64)) + ((p3 &&& (65535 : Int32)).toInt64))), .second, .unset, .unset, .unset, .unset] [(.long (1 : Int64)), (.long ((p1 + (1 : Int64)) + ((p3 &&& (65535 : Int32)).toInt64)))])) _
    refine XS.ladd X5.here hx rfl (hb hby at_72) rfl ?_
    show Steps p.tables e below (T5.setTop (mkF m 73 #[.val (.long p1), .second, .val (.int p2), .val (.int p3), .val (.int p4), .val (.int p5), .val (.int p6), .val (.ref b1), .val (.int (1 : Int32)), .val (.int (p6 &&& (3 : Int32))), .val (.long ((p1 + (1 : Int64)) + ((p3 &&& (65535 : Int32)).toInt64))), .second, .unset, .unset, .unset, .unset] [(.long (((p1 + (1 : Int64)) + ((p3 &&& (65535 : Int32)).toInt64)) + (1 : Int64)))])) _
    refine XS.iload X5.here hx rfl (hb hby at_73) rfl ?_
    show Steps p.tables e below (T5.setTop (mkF m 75 #[.val (.long p1), .second, .val (.int p2), .val (.int p3), .val (.int p4), .val (.int p5), .val (.int p6), .val (.ref b1), .val (.int (1 : Int32)), .val (.int (p6 &&& (3 : Int32))), .val (.long ((p1 + (1 : Int64)) + ((p3 &&& (65535 : Int32)).toInt64))), .second, .unset, .unset, .unset, .unset] [(.int p4), (.long (((p1 + (1 : Int64)) + ((p3 &&& (65535 : Int32)).toInt64)) + (1 : Int64)))])) _
    refine X5.ldcInt hx hown (mvT hZ (hw _ (List.mem_of_getElem? (i := 49) rfl))) (g := (mkF m 75 #[.val (.long p1), .second, .val (.int p2), .val (.int p3), .val (.int p4), .val (.int p5), .val (.int p6), .val (.ref b1), .val (.int (1 : Int32)), .val (.int (p6 &&& (3 : Int32))), .val (.long ((p1 + (1 : Int64)) + ((p3 &&& (65535 : Int32)).toInt64))), .second, .unset, .unset, .unset, .unset] [(.int p4), (.long (((p1 + (1 : Int64)) + ((p3 &&& (65535 : Int32)).toInt64)) + (1 : Int64)))])) rfl (hb hby at_75) _ ?_
    show Steps p.tables e below (T5.setTop (mkF m 77 #[.val (.long p1), .second, .val (.int p2), .val (.int p3), .val (.int p4), .val (.int p5), .val (.int p6), .val (.ref b1), .val (.int (1 : Int32)), .val (.int (p6 &&& (3 : Int32))), .val (.long ((p1 + (1 : Int64)) + ((p3 &&& (65535 : Int32)).toInt64))), .second, .unset, .unset, .unset, .unset] [(.int (65535 : Int32)), (.int p4), (.long (((p1 + (1 : Int64)) + ((p3 &&& (65535 : Int32)).toInt64)) + (1 : Int64)))])) _
    refine XS.iand X5.here hx rfl (hb hby at_77) rfl ?_
    show Steps p.tables e below (T5.setTop (mkF m 78 #[.val (.long p1), .second, .val (.int p2), .val (.int p3), .val (.int p4), .val (.int p5), .val (.int p6), .val (.ref b1), .val (.int (1 : Int32)), .val (.int (p6 &&& (3 : Int32))), .val (.long ((p1 + (1 : Int64)) + ((p3 &&& (65535 : Int32)).toInt64))), .second, .unset, .unset, .unset, .unset] [(.int (p4 &&& (65535 : Int32))), (.long (((p1 + (1 : Int64)) + ((p3 &&& (65535 : Int32)).toInt64)) + (1 : Int64)))])) _
    refine XS.i2l X5.here hx rfl (hb hby at_78) rfl ?_
    show Steps p.tables e below (T5.setTop (mkF m 79 #[.val (.long p1), .second, .val (.int p2), .val (.int p3), .val (.int p4), .val (.int p5), .val (.int p6), .val (.ref b1), .val (.int (1 : Int32)), .val (.int (p6 &&& (3 : Int32))), .val (.long ((p1 + (1 : Int64)) + ((p3 &&& (65535 : Int32)).toInt64))), .second, .unset, .unset, .unset, .unset] [(.long ((p4 &&& (65535 : Int32)).toInt64)), (.long (((p1 + (1 : Int64)) + ((p3 &&& (65535 : Int32)).toInt64)) + (1 : Int64)))])) _
    refine XS.ladd X5.here hx rfl (hb hby at_79) rfl ?_
    show Steps p.tables e below (T5.setTop (mkF m 80 #[.val (.long p1), .second, .val (.int p2), .val (.int p3), .val (.int p4), .val (.int p5), .val (.int p6), .val (.ref b1), .val (.int (1 : Int32)), .val (.int (p6 &&& (3 : Int32))), .val (.long ((p1 + (1 : Int64)) + ((p3 &&& (65535 : Int32)).toInt64))), .second, .unset, .unset, .unset, .unset] [(.long ((((p1 + (1 : Int64)) + ((p3 &&& (65535 : Int32)).toInt64)) + (1 : Int64)) + ((p4 &&& (65535 : Int32)).toInt64)))])) _
    refine XS.lstore X5.here hx rfl (hb hby at_80) rfl (l' := #[.val (.long p1), .second, .val (.int p2), .val (.int p3), .val (.int p4), .val (.int p5), .val (.int p6), .val (.ref b1), .val (.int (1 : Int32)), .val (.int (p6 &&& (3 : Int32))), .val (.long ((p1 + (1 : Int64)) + ((p3 &&& (65535 : Int32)).toInt64))), .second, .val (.long ((((p1 + (1 : Int64)) + ((p3 &&& (65535 : Int32)).toInt64)) + (1 : Int64)) + ((p4 &&& (65535 : Int32)).toInt64))), .second, .unset, .unset]) rfl ?_
    show Steps p.tables e below (T5.setTop (mkF m 82 #[.val (.long p1), .second, .val (.int p2), .val (.int p3), .val (.int p4), .val (.int p5), .val (.int p6), .val (.ref b1), .val (.int (1 : Int32)), .val (.int (p6 &&& (3 : Int32))), .val (.long ((p1 + (1 : Int64)) + ((p3 &&& (65535 : Int32)).toInt64))), .second, .val (.long ((((p1 + (1 : Int64)) + ((p3 &&& (65535 : Int32)).toInt64)) + (1 : Int64)) + ((p4 &&& (65535 : Int32)).toInt64))), .second, .unset, .unset] [])) _
    refine XS.lload X5.here hx rfl (hb hby at_82) rfl ?_
    show Steps p.tables e below (T5.setTop (mkF m 84 #[.val (.long p1), .second, .val (.int p2), .val (.int p3), .val (.int p4), .val (.int p5), .val (.int p6), .val (.ref b1), .val (.int (1 : Int32)), .val (.int (p6 &&& (3 : Int32))), .val (.long ((p1 + (1 : Int64)) + ((p3 &&& (65535 : Int32)).toInt64))), .second, .val (.long ((((p1 + (1 : Int64)) + ((p3 &&& (65535 : Int32)).toInt64)) + (1 : Int64)) + ((p4 &&& (65535 : Int32)).toInt64))), .second, .unset, .unset] [(.long ((((p1 + (1 : Int64)) + ((p3 &&& (65535 : Int32)).toInt64)) + (1 : Int64)) + ((p4 &&& (65535 : Int32)).toInt64)))])) _
    refine XS.lconst X5.here hx rfl (hb hby at_84) ?_
    show Steps p.tables e below (T5.setTop (mkF m 85 #[.val (.long p1), .second, .val (.int p2), .val (.int p3), .val (.int p4), .val (.int p5), .val (.int p6), .val (.ref b1), .val (.int (1 : Int32)), .val (.int (p6 &&& (3 : Int32))), .val (.long ((p1 + (1 : Int64)) + ((p3 &&& (65535 : Int32)).toInt64))), .second, .val (.long ((((p1 + (1 : Int64)) + ((p3 &&& (65535 : Int32)).toInt64)) + (1 : Int64)) + ((p4 &&& (65535 : Int32)).toInt64))), .second, .unset, .unset] [(.long (1 : Int64)), (.long ((((p1 + (1 : Int64)) + ((p3 &&& (65535 : Int32)).toInt64)) + (1 : Int64)) + ((p4 &&& (65535 : Int32)).toInt64)))])) _
    refine XS.ladd X5.here hx rfl (hb hby at_85) rfl ?_
    show Steps p.tables e below (T5.setTop (mkF m 86 #[.val (.long p1), .second, .val (.int p2), .val (.int p3), .val (.int p4), .val (.int p5), .val (.int p6), .val (.ref b1), .val (.int (1 : Int32)), .val (.int (p6 &&& (3 : Int32))), .val (.long ((p1 + (1 : Int64)) + ((p3 &&& (65535 : Int32)).toInt64))), .second, .val (.long ((((p1 + (1 : Int64)) + ((p3 &&& (65535 : Int32)).toInt64)) + (1 : Int64)) + ((p4 &&& (65535 : Int32)).toInt64))), .second, .unset, .unset] [(.long (((((p1 + (1 : Int64)) + ((p3 &&& (65535 : Int32)).toInt64)) + (1 : Int64)) + ((p4 &&& (65535 : Int32)).toInt64)) + (1 : Int64)))])) _
    refine XS.iload X5.here hx rfl (hb hby at_86) rfl ?_
    show Steps p.tables e below (T5.setTop (mkF m 88 #[.val (.long p1), .second, .val (.int p2), .val (.int p3), .val (.int p4), .val (.int p5), .val (.int p6), .val (.ref b1), .val (.int (1 : Int32)), .val (.int (p6 &&& (3 : Int32))), .val (.long ((p1 + (1 : Int64)) + ((p3 &&& (65535 : Int32)).toInt64))), .second, .val (.long ((((p1 + (1 : Int64)) + ((p3 &&& (65535 : Int32)).toInt64)) + (1 : Int64)) + ((p4 &&& (65535 : Int32)).toInt64))), .second, .unset, .unset] [(.int p5), (.long (((((p1 + (1 : Int64)) + ((p3 &&& (65535 : Int32)).toInt64)) + (1 : Int64)) + ((p4 &&& (65535 : Int32)).toInt64)) + (1 : Int64)))])) _
    refine X5.ldcInt hx hown (mvT hZ (hw _ (List.mem_of_getElem? (i := 49) rfl))) (g := (mkF m 88 #[.val (.long p1), .second, .val (.int p2), .val (.int p3), .val (.int p4), .val (.int p5), .val (.int p6), .val (.ref b1), .val (.int (1 : Int32)), .val (.int (p6 &&& (3 : Int32))), .val (.long ((p1 + (1 : Int64)) + ((p3 &&& (65535 : Int32)).toInt64))), .second, .val (.long ((((p1 + (1 : Int64)) + ((p3 &&& (65535 : Int32)).toInt64)) + (1 : Int64)) + ((p4 &&& (65535 : Int32)).toInt64))), .second, .unset, .unset] [(.int p5), (.long (((((p1 + (1 : Int64)) + ((p3 &&& (65535 : Int32)).toInt64)) + (1 : Int64)) + ((p4 &&& (65535 : Int32)).toInt64)) + (1 : Int64)))])) rfl (hb hby at_88) _ ?_
    show Steps p.tables e below (T5.setTop (mkF m 90 #[.val (.long p1), .second, .val (.int p2), .val (.int p3), .val (.int p4), .val (.int p5), .val (.int p6), .val (.ref b1), .val (.int (1 : Int32)), .val (.int (p6 &&& (3 : Int32))), .val (.long ((p1 + (1 : Int64)) + ((p3 &&& (65535 : Int32)).toInt64))), .second, .val (.long ((((p1 + (1 : Int64)) + ((p3 &&& (65535 : Int32)).toInt64)) + (1 : Int64)) + ((p4 &&& (65535 : Int32)).toInt64))), .second, .unset, .unset] [(.int (65535 : Int32)), (.int p5), (.long (((((p1 + (1 : Int64)) + ((p3 &&& (65535 : Int32)).toInt64)) + (1 : Int64)) + ((p4 &&& (65535 : Int32)).toInt64)) + (1 : Int64)))])) _
    refine XS.iand X5.here hx rfl (hb hby at_90) rfl ?_
    show Steps p.tables e below (T5.setTop (mkF m 91 #[.val (.long p1), .second, .val (.int p2), .val (.int p3), .val (.int p4), .val (.int p5), .val (.int p6), .val (.ref b1), .val (.int (1 : Int32)), .val (.int (p6 &&& (3 : Int32))), .val (.long ((p1 + (1 : Int64)) + ((p3 &&& (65535 : Int32)).toInt64))), .second, .val (.long ((((p1 + (1 : Int64)) + ((p3 &&& (65535 : Int32)).toInt64)) + (1 : Int64)) + ((p4 &&& (65535 : Int32)).toInt64))), .second, .unset, .unset] [(.int (p5 &&& (65535 : Int32))), (.long (((((p1 + (1 : Int64)) + ((p3 &&& (65535 : Int32)).toInt64)) + (1 : Int64)) + ((p4 &&& (65535 : Int32)).toInt64)) + (1 : Int64)))])) _
    refine XS.i2l X5.here hx rfl (hb hby at_91) rfl ?_
    show Steps p.tables e below (T5.setTop (mkF m 92 #[.val (.long p1), .second, .val (.int p2), .val (.int p3), .val (.int p4), .val (.int p5), .val (.int p6), .val (.ref b1), .val (.int (1 : Int32)), .val (.int (p6 &&& (3 : Int32))), .val (.long ((p1 + (1 : Int64)) + ((p3 &&& (65535 : Int32)).toInt64))), .second, .val (.long ((((p1 + (1 : Int64)) + ((p3 &&& (65535 : Int32)).toInt64)) + (1 : Int64)) + ((p4 &&& (65535 : Int32)).toInt64))), .second, .unset, .unset] [(.long ((p5 &&& (65535 : Int32)).toInt64)), (.long (((((p1 + (1 : Int64)) + ((p3 &&& (65535 : Int32)).toInt64)) + (1 : Int64)) + ((p4 &&& (65535 : Int32)).toInt64)) + (1 : Int64)))])) _
    refine XS.ladd X5.here hx rfl (hb hby at_92) rfl ?_
    show Steps p.tables e below (T5.setTop (mkF m 93 #[.val (.long p1), .second, .val (.int p2), .val (.int p3), .val (.int p4), .val (.int p5), .val (.int p6), .val (.ref b1), .val (.int (1 : Int32)), .val (.int (p6 &&& (3 : Int32))), .val (.long ((p1 + (1 : Int64)) + ((p3 &&& (65535 : Int32)).toInt64))), .second, .val (.long ((((p1 + (1 : Int64)) + ((p3 &&& (65535 : Int32)).toInt64)) + (1 : Int64)) + ((p4 &&& (65535 : Int32)).toInt64))), .second, .unset, .unset] [(.long ((((((p1 + (1 : Int64)) + ((p3 &&& (65535 : Int32)).toInt64)) + (1 : Int64)) + ((p4 &&& (65535 : Int32)).toInt64)) + (1 : Int64)) + ((p5 &&& (65535 : Int32)).toInt64)))])) _
    refine XS.lstore X5.here hx rfl (hb hby at_93) rfl (l' := #[.val (.long p1), .second, .val (.int p2), .val (.int p3), .val (.int p4), .val (.int p5), .val (.int p6), .val (.ref b1), .val (.int (1 : Int32)), .val (.int (p6 &&& (3 : Int32))), .val (.long ((p1 + (1 : Int64)) + ((p3 &&& (65535 : Int32)).toInt64))), .second, .val (.long ((((p1 + (1 : Int64)) + ((p3 &&& (65535 : Int32)).toInt64)) + (1 : Int64)) + ((p4 &&& (65535 : Int32)).toInt64))), .second, .val (.long ((((((p1 + (1 : Int64)) + ((p3 &&& (65535 : Int32)).toInt64)) + (1 : Int64)) + ((p4 &&& (65535 : Int32)).toInt64)) + (1 : Int64)) + ((p5 &&& (65535 : Int32)).toInt64))), .second]) rfl ?_
    show Steps p.tables e below (T5.setTop (mkF m 95 #[.val (.long p1), .second, .val (.int p2), .val (.int p3), .val (.int p4), .val (.int p5), .val (.int p6), .val (.ref b1), .val (.int (1 : Int32)), .val (.int (p6 &&& (3 : Int32))), .val (.long ((p1 + (1 : Int64)) + ((p3 &&& (65535 : Int32)).toInt64))), .second, .val (.long ((((p1 + (1 : Int64)) + ((p3 &&& (65535 : Int32)).toInt64)) + (1 : Int64)) + ((p4 &&& (65535 : Int32)).toInt64))), .second, .val (.long ((((((p1 + (1 : Int64)) + ((p3 &&& (65535 : Int32)).toInt64)) + (1 : Int64)) + ((p4 &&& (65535 : Int32)).toInt64)) + (1 : Int64)) + ((p5 &&& (65535 : Int32)).toInt64))), .second] [])) _
    refine XS.iload X5.here hx rfl (hb hby at_95) rfl ?_
    show Steps p.tables e below (T5.setTop (mkF m 97 #[.val (.long p1), .second, .val (.int p2), .val (.int p3), .val (.int p4), .val (.int p5), .val (.int p6), .val (.ref b1), .val (.int (1 : Int32)), .val (.int (p6 &&& (3 : Int32))), .val (.long ((p1 + (1 : Int64)) + ((p3 &&& (65535 : Int32)).toInt64))), .second, .val (.long ((((p1 + (1 : Int64)) + ((p3 &&& (65535 : Int32)).toInt64)) + (1 : Int64)) + ((p4 &&& (65535 : Int32)).toInt64))), .second, .val (.long ((((((p1 + (1 : Int64)) + ((p3 &&& (65535 : Int32)).toInt64)) + (1 : Int64)) + ((p4 &&& (65535 : Int32)).toInt64)) + (1 : Int64)) + ((p5 &&& (65535 : Int32)).toInt64))), .second] [(.int (p6 &&& (3 : Int32)))])) _
    refine XS.iconst X5.here hx rfl (hb hby at_97) ?_
    exact kz
  by_cases hc98_6 : (p6 &&& (3 : Int32)) < (1 : Int32)
  · refine Goes.via (S' := T5.setTop (mkF m 215 #[.val (.long p1), .second, .val (.int p2), .val (.int p3), .val (.int p4), .val (.int p5), .val (.int p6), .val (.ref b1), .val (.int (1 : Int32)), .val (.int (p6 &&& (3 : Int32))), .val (.long ((p1 + (1 : Int64)) + ((p3 &&& (65535 : Int32)).toInt64))), .second, .val (.long ((((p1 + (1 : Int64)) + ((p3 &&& (65535 : Int32)).toInt64)) + (1 : Int64)) + ((p4 &&& (65535 : Int32)).toInt64))), .second, .val (.long ((((((p1 + (1 : Int64)) + ((p3 &&& (65535 : Int32)).toInt64)) + (1 : Int64)) + ((p4 &&& (65535 : Int32)).toInt64)) + (1 : Int64)) + ((p5 &&& (65535 : Int32)).toInt64))), .second] [(.int (p6 &&& (4 : Int32)))])) (fun tz kz => ?_) ?_
    · show Steps p.tables e below (T5.setTop (mkF m 98 #[.val (.long p1), .second, .val (.int p2), .val (.int p3), .val (.int p4), .val (.int p5), .val (.int p6), .val (.ref b1), .val (.int (1 : Int32)), .val (.int (p6 &&& (3 : Int32))), .val (.long ((p1 + (1 : Int64)) + ((p3 &&& (65535 : Int32)).toInt64))), .second, .val (.long ((((p1 + (1 : Int64)) + ((p3 &&& (65535 : Int32)).toInt64)) + (1 : Int64)) + ((p4 &&& (65535 : Int32)).toInt64))), .second, .val (.long ((((((p1 + (1 : Int64)) + ((p3 &&& (65535 : Int32)).toInt64)) + (1 : Int64)) + ((p4 &&& (65535 : Int32)).toInt64)) + (1 : Int64)) + ((p5 &&& (65535 : Int32)).toInt64))), .second] [(.int (1 : Int32)), (.int (p6 &&& (3 : Int32)))])) _
      refine XS.icmpYes X5.here hx rfl (pc0 := 98) (pc' := 133) rfl (hb hby at_98) rfl (tlt hc98_6).1 (by decide) (by decide) ?_
      show Steps p.tables e below (T5.setTop (mkF m 133 #[.val (.long p1), .second, .val (.int p2), .val (.int p3), .val (.int p4), .val (.int p5), .val (.int p6), .val (.ref b1), .val (.int (1 : Int32)), .val (.int (p6 &&& (3 : Int32))), .val (.long ((p1 + (1 : Int64)) + ((p3 &&& (65535 : Int32)).toInt64))), .second, .val (.long ((((p1 + (1 : Int64)) + ((p3 &&& (65535 : Int32)).toInt64)) + (1 : Int64)) + ((p4 &&& (65535 : Int32)).toInt64))), .second, .val (.long ((((((p1 + (1 : Int64)) + ((p3 &&& (65535 : Int32)).toInt64)) + (1 : Int64)) + ((p4 &&& (65535 : Int32)).toInt64)) + (1 : Int64)) + ((p5 &&& (65535 : Int32)).toInt64))), .second] [])) _
      refine XS.iload X5.here hx rfl (hb hby at_133) rfl ?_
      show Steps p.tables e below (T5.setTop (mkF m 135 #[.val (.long p1), .second, .val (.int p2), .val (.int p3), .val (.int p4), .val (.int p5), .val (.int p6), .val (.ref b1), .val (.int (1 : Int32)), .val (.int (p6 &&& (3 : Int32))), .val (.long ((p1 + (1 : Int64)) + ((p3 &&& (65535 : Int32)).toInt64))), .second, .val (.long ((((p1 + (1 : Int64)) + ((p3 &&& (65535 : Int32)).toInt64)) + (1 : Int64)) + ((p4 &&& (65535 : Int32)).toInt64))), .second, .val (.long ((((((p1 + (1 : Int64)) + ((p3 &&& (65535 : Int32)).toInt64)) + (1 : Int64)) + ((p4 &&& (65535 : Int32)).toInt64)) + (1 : Int64)) + ((p5 &&& (65535 : Int32)).toInt64))), .second] [(.int (p6 &&& (3 : Int32)))])) _
      refine XS.iconst X5.here hx rfl (hb hby at_135) ?_
      show Steps p.tables e below (T5.setTop (mkF m 136 #[.val (.long p1), .second, .val (.int p2), .val (.int p3), .val (.int p4), .val (.int p5), .val (.int p6), .val (.ref b1), .val (.int (1 : Int32)), .val (.int (p6 &&& (3 : Int32))), .val (.long ((p1 + (1 : Int64)) + ((p3 &&& (65535 : Int32)).toInt64))), .second, .val (.long ((((p1 + (1 : Int64)) + ((p3 &&& (65535 : Int32)).toInt64)) + (1 : Int64)) + ((p4 &&& (65535 : Int32)).toInt64))), .second, .val (.long ((((((p1 + (1 : Int64)) + ((p3 &&& (65535 : Int32)).toInt64)) + (1 : Int64)) + ((p4 &&& (65535 : Int32)).toInt64)) + (1 : Int64)) + ((p5 &&& (65535 : Int32)).toInt64))), .second] [(.int (2 : Int32)), (.int (p6 &&& (3 : Int32)))])) _
      refine XS.icmpYes X5.here hx rfl (pc0 := 136) (pc' := 172) rfl (hb hby at_136) rfl (tlt (own_lts hc98_6 (by decide))).1 (by decide) (by decide) ?_
      show Steps p.tables e below (T5.setTop (mkF m 172 #[.val (.long p1), .second, .val (.int p2), .val (.int p3), .val (.int p4), .val (.int p5), .val (.int p6), .val (.ref b1), .val (.int (1 : Int32)), .val (.int (p6 &&& (3 : Int32))), .val (.long ((p1 + (1 : Int64)) + ((p3 &&& (65535 : Int32)).toInt64))), .second, .val (.long ((((p1 + (1 : Int64)) + ((p3 &&& (65535 : Int32)).toInt64)) + (1 : Int64)) + ((p4 &&& (65535 : Int32)).toInt64))), .second, .val (.long ((((((p1 + (1 : Int64)) + ((p3 &&& (65535 : Int32)).toInt64)) + (1 : Int64)) + ((p4 &&& (65535 : Int32)).toInt64)) + (1 : Int64)) + ((p5 &&& (65535 : Int32)).toInt64))), .second] [])) _
      refine XS.iload X5.here hx rfl (hb hby at_172) rfl ?_
      show Steps p.tables e below (T5.setTop (mkF m 174 #[.val (.long p1), .second, .val (.int p2), .val (.int p3), .val (.int p4), .val (.int p5), .val (.int p6), .val (.ref b1), .val (.int (1 : Int32)), .val (.int (p6 &&& (3 : Int32))), .val (.long ((p1 + (1 : Int64)) + ((p3 &&& (65535 : Int32)).toInt64))), .second, .val (.long ((((p1 + (1 : Int64)) + ((p3 &&& (65535 : Int32)).toInt64)) + (1 : Int64)) + ((p4 &&& (65535 : Int32)).toInt64))), .second, .val (.long ((((((p1 + (1 : Int64)) + ((p3 &&& (65535 : Int32)).toInt64)) + (1 : Int64)) + ((p4 &&& (65535 : Int32)).toInt64)) + (1 : Int64)) + ((p5 &&& (65535 : Int32)).toInt64))), .second] [(.int (p6 &&& (3 : Int32)))])) _
      refine XS.iconst X5.here hx rfl (hb hby at_174) ?_
      show Steps p.tables e below (T5.setTop (mkF m 175 #[.val (.long p1), .second, .val (.int p2), .val (.int p3), .val (.int p4), .val (.int p5), .val (.int p6), .val (.ref b1), .val (.int (1 : Int32)), .val (.int (p6 &&& (3 : Int32))), .val (.long ((p1 + (1 : Int64)) + ((p3 &&& (65535 : Int32)).toInt64))), .second, .val (.long ((((p1 + (1 : Int64)) + ((p3 &&& (65535 : Int32)).toInt64)) + (1 : Int64)) + ((p4 &&& (65535 : Int32)).toInt64))), .second, .val (.long ((((((p1 + (1 : Int64)) + ((p3 &&& (65535 : Int32)).toInt64)) + (1 : Int64)) + ((p4 &&& (65535 : Int32)).toInt64)) + (1 : Int64)) + ((p5 &&& (65535 : Int32)).toInt64))), .second] [(.int (3 : Int32)), (.int (p6 &&& (3 : Int32)))])) _
      refine XS.icmpYes X5.here hx rfl (pc0 := 175) (pc' := 211) rfl (hb hby at_175) rfl (tlt (own_lts hc98_6 (by decide))).1 (by decide) (by decide) ?_
      show Steps p.tables e below (T5.setTop (mkF m 211 #[.val (.long p1), .second, .val (.int p2), .val (.int p3), .val (.int p4), .val (.int p5), .val (.int p6), .val (.ref b1), .val (.int (1 : Int32)), .val (.int (p6 &&& (3 : Int32))), .val (.long ((p1 + (1 : Int64)) + ((p3 &&& (65535 : Int32)).toInt64))), .second, .val (.long ((((p1 + (1 : Int64)) + ((p3 &&& (65535 : Int32)).toInt64)) + (1 : Int64)) + ((p4 &&& (65535 : Int32)).toInt64))), .second, .val (.long ((((((p1 + (1 : Int64)) + ((p3 &&& (65535 : Int32)).toInt64)) + (1 : Int64)) + ((p4 &&& (65535 : Int32)).toInt64)) + (1 : Int64)) + ((p5 &&& (65535 : Int32)).toInt64))), .second] [])) _
      refine XS.iload X5.here hx rfl (hb hby at_211) rfl ?_
      show Steps p.tables e below (T5.setTop (mkF m 213 #[.val (.long p1), .second, .val (.int p2), .val (.int p3), .val (.int p4), .val (.int p5), .val (.int p6), .val (.ref b1), .val (.int (1 : Int32)), .val (.int (p6 &&& (3 : Int32))), .val (.long ((p1 + (1 : Int64)) + ((p3 &&& (65535 : Int32)).toInt64))), .second, .val (.long ((((p1 + (1 : Int64)) + ((p3 &&& (65535 : Int32)).toInt64)) + (1 : Int64)) + ((p4 &&& (65535 : Int32)).toInt64))), .second, .val (.long ((((((p1 + (1 : Int64)) + ((p3 &&& (65535 : Int32)).toInt64)) + (1 : Int64)) + ((p4 &&& (65535 : Int32)).toInt64)) + (1 : Int64)) + ((p5 &&& (65535 : Int32)).toInt64))), .second] [(.int p6)])) _
      refine XS.iconst X5.here hx rfl (hb hby at_213) ?_
      show Steps p.tables e below (T5.setTop (mkF m 214 #[.val (.long p1), .second, .val (.int p2), .val (.int p3), .val (.int p4), .val (.int p5), .val (.int p6), .val (.ref b1), .val (.int (1 : Int32)), .val (.int (p6 &&& (3 : Int32))), .val (.long ((p1 + (1 : Int64)) + ((p3 &&& (65535 : Int32)).toInt64))), .second, .val (.long ((((p1 + (1 : Int64)) + ((p3 &&& (65535 : Int32)).toInt64)) + (1 : Int64)) + ((p4 &&& (65535 : Int32)).toInt64))), .second, .val (.long ((((((p1 + (1 : Int64)) + ((p3 &&& (65535 : Int32)).toInt64)) + (1 : Int64)) + ((p4 &&& (65535 : Int32)).toInt64)) + (1 : Int64)) + ((p5 &&& (65535 : Int32)).toInt64))), .second] [(.int (4 : Int32)), (.int p6)])) _
      refine XS.iand X5.here hx rfl (hb hby at_214) rfl ?_
      exact kz
    by_cases hc215_7 : (p6 &&& (4 : Int32)) = (0 : Int32)
    · refine Goes.via (S' := T5.setTop (mkF m 262 #[.val (.long p1), .second, .val (.int p2), .val (.int p3), .val (.int p4), .val (.int p5), .val (.int p6), .val (.ref b1), .val (.int (1 : Int32)), .val (.int (p6 &&& (3 : Int32))), .val (.long ((p1 + (1 : Int64)) + ((p3 &&& (65535 : Int32)).toInt64))), .second, .val (.long ((((p1 + (1 : Int64)) + ((p3 &&& (65535 : Int32)).toInt64)) + (1 : Int64)) + ((p4 &&& (65535 : Int32)).toInt64))), .second, .val (.long ((((((p1 + (1 : Int64)) + ((p3 &&& (65535 : Int32)).toInt64)) + (1 : Int64)) + ((p4 &&& (65535 : Int32)).toInt64)) + (1 : Int64)) + ((p5 &&& (65535 : Int32)).toInt64))), .second] [(.int (1 : Int32))])) (fun tz kz => ?_) ?_
      · show Steps p.tables e below (T5.setTop (mkF m 215 #[.val (.long p1), .second, .val (.int p2), .val (.int p3), .val (.int p4), .val (.int p5), .val (.int p6), .val (.ref b1), .val (.int (1 : Int32)), .val (.int (p6 &&& (3 : Int32))), .val (.long ((p1 + (1 : Int64)) + ((p3 &&& (65535 : Int32)).toInt64))), .second, .val (.long ((((p1 + (1 : Int64)) + ((p3 &&& (65535 : Int32)).toInt64)) + (1 : Int64)) + ((p4 &&& (65535 : Int32)).toInt64))), .second, .val (.long ((((((p1 + (1 : Int64)) + ((p3 &&& (65535 : Int32)).toInt64)) + (1 : Int64)) + ((p4 &&& (65535 : Int32)).toInt64)) + (1 : Int64)) + ((p5 &&& (65535 : Int32)).toInt64))), .second] [(.int (p6 &&& (4 : Int32)))])) _
        refine XS.ifYes X5.here hx rfl (pc0 := 215) (pc' := 252) rfl (hb hby at_215) rfl ((if0 _ _).trans (teq hc215_7).1) (by decide) (by decide) ?_
        show Steps p.tables e below (T5.setTop (mkF m 252 #[.val (.long p1), .second, .val (.int p2), .val (.int p3), .val (.int p4), .val (.int p5), .val (.int p6), .val (.ref b1), .val (.int (1 : Int32)), .val (.int (p6 &&& (3 : Int32))), .val (.long ((p1 + (1 : Int64)) + ((p3 &&& (65535 : Int32)).toInt64))), .second, .val (.long ((((p1 + (1 : Int64)) + ((p3 &&& (65535 : Int32)).toInt64)) + (1 : Int64)) + ((p4 &&& (65535 : Int32)).toInt64))), .second, .val (.long ((((((p1 + (1 : Int64)) + ((p3 &&& (65535 : Int32)).toInt64)) + (1 : Int64)) + ((p4 &&& (65535 : Int32)).toInt64)) + (1 : Int64)) + ((p5 &&& (65535 : Int32)).toInt64))), .second] [])) _
        refine XS.iload X5.here hx rfl (hb hby at_252) rfl ?_
        show Steps p.tables e below (T5.setTop (mkF m 254 #[.val (.long p1), .second, .val (.int p2), .val (.int p3), .val (.int p4), .val (.int p5), .val (.int p6), .val (.ref b1), .val (.int (1 : Int32)), .val (.int (p6 &&& (3 : Int32))), .val (.long ((p1 + (1 : Int64)) + ((p3 &&& (65535 : Int32)).toInt64))), .second, .val (.long ((((p1 + (1 : Int64)) + ((p3 &&& (65535 : Int32)).toInt64)) + (1 : Int64)) + ((p4 &&& (65535 : Int32)).toInt64))), .second, .val (.long ((((((p1 + (1 : Int64)) + ((p3 &&& (65535 : Int32)).toInt64)) + (1 : Int64)) + ((p4 &&& (65535 : Int32)).toInt64)) + (1 : Int64)) + ((p5 &&& (65535 : Int32)).toInt64))), .second] [(.int (1 : Int32))])) _
        refine XS.ifNo X5.here hx rfl (hb hby at_254) rfl ((if0 _ _).trans (feq (by decide)).1) ?_
        show Steps p.tables e below (T5.setTop (mkF m 257 #[.val (.long p1), .second, .val (.int p2), .val (.int p3), .val (.int p4), .val (.int p5), .val (.int p6), .val (.ref b1), .val (.int (1 : Int32)), .val (.int (p6 &&& (3 : Int32))), .val (.long ((p1 + (1 : Int64)) + ((p3 &&& (65535 : Int32)).toInt64))), .second, .val (.long ((((p1 + (1 : Int64)) + ((p3 &&& (65535 : Int32)).toInt64)) + (1 : Int64)) + ((p4 &&& (65535 : Int32)).toInt64))), .second, .val (.long ((((((p1 + (1 : Int64)) + ((p3 &&& (65535 : Int32)).toInt64)) + (1 : Int64)) + ((p4 &&& (65535 : Int32)).toInt64)) + (1 : Int64)) + ((p5 &&& (65535 : Int32)).toInt64))), .second] [])) _
        refine XS.iconst X5.here hx rfl (hb hby at_257) ?_
        show Steps p.tables e below (T5.setTop (mkF m 258 #[.val (.long p1), .second, .val (.int p2), .val (.int p3), .val (.int p4), .val (.int p5), .val (.int p6), .val (.ref b1), .val (.int (1 : Int32)), .val (.int (p6 &&& (3 : Int32))), .val (.long ((p1 + (1 : Int64)) + ((p3 &&& (65535 : Int32)).toInt64))), .second, .val (.long ((((p1 + (1 : Int64)) + ((p3 &&& (65535 : Int32)).toInt64)) + (1 : Int64)) + ((p4 &&& (65535 : Int32)).toInt64))), .second, .val (.long ((((((p1 + (1 : Int64)) + ((p3 &&& (65535 : Int32)).toInt64)) + (1 : Int64)) + ((p4 &&& (65535 : Int32)).toInt64)) + (1 : Int64)) + ((p5 &&& (65535 : Int32)).toInt64))), .second] [(.int (1 : Int32))])) _
        refine XS.goto X5.here hx rfl (pc0 := 258) (pc' := 262) rfl (hb hby at_258) (by decide) (by decide) ?_
        exact kz
      exact Goes.retN X5 hx Bd.notSynchronized (t := .boolean) Bd.returns (by simp) (hb hby at_262) (Nat.le_of_ble_eq_true rfl) (Nat.le_of_ble_eq_true rfl) ⟨rfl, Nf5⟩
    · refine Goes.via (S' := T5.setTop (mkF m 229 #[.val (.long p1), .second, .val (.int p2), .val (.int p3), .val (.int p4), .val (.int p5), .val (.int p6), .val (.ref b1), .val (.int (1 : Int32)), .val (.int (p6 &&& (3 : Int32))), .val (.long ((p1 + (1 : Int64)) + ((p3 &&& (65535 : Int32)).toInt64))), .second, .val (.long ((((p1 + (1 : Int64)) + ((p3 &&& (65535 : Int32)).toInt64)) + (1 : Int64)) + ((p4 &&& (65535 : Int32)).toInt64))), .second, .val (.long ((((((p1 + (1 : Int64)) + ((p3 &&& (65535 : Int32)).toInt64)) + (1 : Int64)) + ((p4 &&& (65535 : Int32)).toInt64)) + (1 : Int64)) + ((p5 &&& (65535 : Int32)).toInt64))), .second] [(.double (FP.i2d (p6 >>> ((3 : Int32) &&& 31)))), (.long (((((((p1 + (1 : Int64)) + ((p3 &&& (65535 : Int32)).toInt64)) + (1 : Int64)) + ((p4 &&& (65535 : Int32)).toInt64)) + (1 : Int64)) + ((p5 &&& (65535 : Int32)).toInt64)) + (1 : Int64))), (.ref b1)])) (fun tz kz => ?_) ?_
      · show Steps p.tables e below (T5.setTop (mkF m 215 #[.val (.long p1), .second, .val (.int p2), .val (.int p3), .val (.int p4), .val (.int p5), .val (.int p6), .val (.ref b1), .val (.int (1 : Int32)), .val (.int (p6 &&& (3 : Int32))), .val (.long ((p1 + (1 : Int64)) + ((p3 &&& (65535 : Int32)).toInt64))), .second, .val (.long ((((p1 + (1 : Int64)) + ((p3 &&& (65535 : Int32)).toInt64)) + (1 : Int64)) + ((p4 &&& (65535 : Int32)).toInt64))), .second, .val (.long ((((((p1 + (1 : Int64)) + ((p3 &&& (65535 : Int32)).toInt64)) + (1 : Int64)) + ((p4 &&& (65535 : Int32)).toInt64)) + (1 : Int64)) + ((p5 &&& (65535 : Int32)).toInt64))), .second] [(.int (p6 &&& (4 : Int32)))])) _
        refine XS.ifNo X5.here hx rfl (hb hby at_215) rfl ((if0 _ _).trans (feq hc215_7).1) ?_
        show Steps p.tables e below (T5.setTop (mkF m 218 #[.val (.long p1), .second, .val (.int p2), .val (.int p3), .val (.int p4), .val (.int p5), .val (.int p6), .val (.ref b1), .val (.int (1 : Int32)), .val (.int (p6 &&& (3 : Int32))), .val (.long ((p1 + (1 : Int64)) + ((p3 &&& (65535 : Int32)).toInt64))), .second, .val (.long ((((p1 + (1 : Int64)) + ((p3 &&& (65535 : Int32)).toInt64)) + (1 : Int64)) + ((p4 &&& (65535 : Int32)).toInt64))), .second, .val (.long ((((((p1 + (1 : Int64)) + ((p3 &&& (65535 : Int32)).toInt64)) + (1 : Int64)) + ((p4 &&& (65535 : Int32)).toInt64)) + (1 : Int64)) + ((p5 &&& (65535 : Int32)).toInt64))), .second] [])) _
        refine XS.aload X5.here hx rfl (hb hby at_218) rfl rfl ?_
        show Steps p.tables e below (T5.setTop (mkF m 220 #[.val (.long p1), .second, .val (.int p2), .val (.int p3), .val (.int p4), .val (.int p5), .val (.int p6), .val (.ref b1), .val (.int (1 : Int32)), .val (.int (p6 &&& (3 : Int32))), .val (.long ((p1 + (1 : Int64)) + ((p3 &&& (65535 : Int32)).toInt64))), .second, .val (.long ((((p1 + (1 : Int64)) + ((p3 &&& (65535 : Int32)).toInt64)) + (1 : Int64)) + ((p4 &&& (65535 : Int32)).toInt64))), .second, .val (.long ((((((p1 + (1 : Int64)) + ((p3 &&& (65535 : Int32)).toInt64)) + (1 : Int64)) + ((p4 &&& (65535 : Int32)).toInt64)) + (1 : Int64)) + ((p5 &&& (65535 : Int32)).toInt64))), .second] [(.ref b1)])) _
        refine XS.lload X5.here hx rfl (hb hby at_220) rfl ?_
        show Steps p.tables e below (T5.setTop (mkF m 222 #[.val (.long p1), .second, .val (.int p2), .val (.int p3), .val (.int p4), .val (.int p5), .val (.int p6), .val (.ref b1), .val (.int (1 : Int32)), .val (.int (p6 &&& (3 : Int32))), .val (.long ((p1 + (1 : Int64)) + ((p3 &&& (65535 : Int32)).toInt64))), .second, .val (.long ((((p1 + (1 : Int64)) + ((p3 &&& (65535 : Int32)).toInt64)) + (1 : Int64)) + ((p4 &&& (65535 : Int32)).toInt64))), .second, .val (.long ((((((p1 + (1 : Int64)) + ((p3 &&& (65535 : Int32)).toInt64)) + (1 : Int64)) + ((p4 &&& (65535 : Int32)).toInt64)) + (1 : Int64)) + ((p5 &&& (65535 : Int32)).toInt64))), .second] [(.long ((((((p1 + (1 : Int64)) + ((p3 &&& (65535 : Int32)).toInt64)) + (1 : Int64)) + ((p4 &&& (65535 : Int32)).toInt64)) + (1 : Int64)) + ((p5 &&& (65535 : Int32)).toInt64))), (.ref b1)])) _
        refine XS.lconst X5.here hx rfl (hb hby at_222) ?_
        show Steps p.tables e below (T5.setTop (mkF m 223 #[.val (.long p1), .second, .val (.int p2), .val (.int p3), .val (.int p4), .val (.int p5), .val (.int p6), .val (.ref b1), .val (.int (1 : Int32)), .val (.int (p6 &&& (3 : Int32))), .val (.long ((p1 + (1 : Int64)) + ((p3 &&& (65535 : Int32)).toInt64))), .second, .val (.long ((((p1 + (1 : Int64)) + ((p3 &&& (65535 : Int32)).toInt64)) + (1 : Int64)) + ((p4 &&& (65535 : Int32)).toInt64))), .second, .val (.long ((((((p1 + (1 : Int64)) + ((p3 &&& (65535 : Int32)).toInt64)) + (1 : Int64)) + ((p4 &&& (65535 : Int32)).toInt64)) + (1 : Int64)) + ((p5 &&& (65535 : Int32)).toInt64))), .second] [(.long (1 : Int64)), (.long ((((((p1 + (1 : Int64)) + ((p3 &&& (65535 : Int32)).toInt64)) + (1 : Int64)) + ((p4 &&& (65535 : Int32)).toInt64)) + (1 : Int64)) + ((p5 &&& (65535 : Int32)).toInt64))), (.ref b1)])) _
        refine XS.ladd X5.here hx rfl (hb hby at_223) rfl ?_
        show Steps p.tables e below (T5.setTop (mkF m 224 #[.val (.long p1), .second, .val (.int p2), .val (.int p3), .val (.int p4), .val (.int p5), .val (.int p6), .val (.ref b1), .val (.int (1 : Int32)), .val (.int (p6 &&& (3 : Int32))), .val (.long ((p1 + (1 : Int64)) + ((p3 &&& (65535 : Int32)).toInt64))), .second, .val (.long ((((p1 + (1 : Int64)) + ((p3 &&& (65535 : Int32)).toInt64)) + (1 : Int64)) + ((p4 &&& (65535 : Int32)).toInt64))), .second, .val (.long ((((((p1 + (1 : Int64)) + ((p3 &&& (65535 : Int32)).toInt64)) + (1 : Int64)) + ((p4 &&& (65535 : Int32)).toInt64)) + (1 : Int64)) + ((p5 &&& (65535 : Int32)).toInt64))), .second] [(.long (((((((p1 + (1 : Int64)) + ((p3 &&& (65535 : Int32)).toInt64)) + (1 : Int64)) + ((p4 &&& (65535 : Int32)).toInt64)) + (1 : Int64)) + ((p5 &&& (65535 : Int32)).toInt64)) + (1 : Int64))), (.ref b1)])) _
        refine XS.iload X5.here hx rfl (hb hby at_224) rfl ?_
        show Steps p.tables e below (T5.setTop (mkF m 226 #[.val (.long p1), .second, .val (.int p2), .val (.int p3), .val (.int p4), .val (.int p5), .val (.int p6), .val (.ref b1), .val (.int (1 : Int32)), .val (.int (p6 &&& (3 : Int32))), .val (.long ((p1 + (1 : Int64)) + ((p3 &&& (65535 : Int32)).toInt64))), .second, .val (.long ((((p1 + (1 : Int64)) + ((p3 &&& (65535 : Int32)).toInt64)) + (1 : Int64)) + ((p4 &&& (65535 : Int32)).toInt64))), .second, .val (.long ((((((p1 + (1 : Int64)) + ((p3 &&& (65535 : Int32)).toInt64)) + (1 : Int64)) + ((p4 &&& (65535 : Int32)).toInt64)) + (1 : Int64)) + ((p5 &&& (65535 : Int32)).toInt64))), .second] [(.int p6), (.long (((((((p1 + (1 : Int64)) + ((p3 &&& (65535 : Int32)).toInt64)) + (1 : Int64)) + ((p4 &&& (65535 : Int32)).toInt64)) + (1 : Int64)) + ((p5 &&& (65535 : Int32)).toInt64)) + (1 : Int64))), (.ref b1)])) _
        refine XS.iconst X5.here hx rfl (hb hby at_226) ?_
        show Steps p.tables e below (T5.setTop (mkF m 227 #[.val (.long p1), .second, .val (.int p2), .val (.int p3), .val (.int p4), .val (.int p5), .val (.int p6), .val (.ref b1), .val (.int (1 : Int32)), .val (.int (p6 &&& (3 : Int32))), .val (.long ((p1 + (1 : Int64)) + ((p3 &&& (65535 : Int32)).toInt64))), .second, .val (.long ((((p1 + (1 : Int64)) + ((p3 &&& (65535 : Int32)).toInt64)) + (1 : Int64)) + ((p4 &&& (65535 : Int32)).toInt64))), .second, .val (.long ((((((p1 + (1 : Int64)) + ((p3 &&& (65535 : Int32)).toInt64)) + (1 : Int64)) + ((p4 &&& (65535 : Int32)).toInt64)) + (1 : Int64)) + ((p5 &&& (65535 : Int32)).toInt64))), .second] [(.int (3 : Int32)), (.int p6), (.long (((((((p1 + (1 : Int64)) + ((p3 &&& (65535 : Int32)).toInt64)) + (1 : Int64)) + ((p4 &&& (65535 : Int32)).toInt64)) + (1 : Int64)) + ((p5 &&& (65535 : Int32)).toInt64)) + (1 : Int64))), (.ref b1)])) _
        refine XS.ishr X5.here hx rfl (hb hby at_227) rfl ?_
        show Steps p.tables e below (T5.setTop (mkF m 228 #[.val (.long p1), .second, .val (.int p2), .val (.int p3), .val (.int p4), .val (.int p5), .val (.int p6), .val (.ref b1), .val (.int (1 : Int32)), .val (.int (p6 &&& (3 : Int32))), .val (.long ((p1 + (1 : Int64)) + ((p3 &&& (65535 : Int32)).toInt64))), .second, .val (.long ((((p1 + (1 : Int64)) + ((p3 &&& (65535 : Int32)).toInt64)) + (1 : Int64)) + ((p4 &&& (65535 : Int32)).toInt64))), .second, .val (.long ((((((p1 + (1 : Int64)) + ((p3 &&& (65535 : Int32)).toInt64)) + (1 : Int64)) + ((p4 &&& (65535 : Int32)).toInt64)) + (1 : Int64)) + ((p5 &&& (65535 : Int32)).toInt64))), .second] [(.int (p6 >>> ((3 : Int32) &&& 31))), (.long (((((((p1 + (1 : Int64)) + ((p3 &&& (65535 : Int32)).toInt64)) + (1 : Int64)) + ((p4 &&& (65535 : Int32)).toInt64)) + (1 : Int64)) + ((p5 &&& (65535 : Int32)).toInt64)) + (1 : Int64))), (.ref b1)])) _
        refine XS.i2dS X5.here hx rfl (hb hby at_228) rfl (v := FP.i2d (p6 >>> ((3 : Int32) &&& 31))) rfl ?_
        exact kz
      obtain ⟨cq8, kq8, q8a, q8b, q8c⟩ := isOf hZ e5 H4.1
      obtain ⟨_, _, ⟨T8, L8, k8, n8⟩, -, X8, ⟨Lc8, hQ8, l8, y8, z8⟩, st8⟩ := X5.virtualBack hx (y := (⟨"com/example/fewbits/fewbits/store/SegmentHull", "start", "(JD)V"⟩ : MethodName)) (z := (⟨"com/example/fewbits/fewbits/store/SegmentHull", "start", "(JD)V"⟩ : MethodName)) hown (mvT hZ (hw _ (List.mem_of_getElem? (i := 34) rfl))) (mvT hZ (hw _ (List.mem_of_getElem? (i := 35) rfl))) (notFace_of_selects (args := #[]) (mvT hZ (hw _ (List.mem_of_getElem? (i := 37) rfl)))) (mvT hZ (hw _ (List.mem_of_getElem? (i := 37) rfl))) (mvT hZ (hw _ (List.mem_of_getElem? (i := 36) rfl))) (by decide) (backOf (W := 0) (rm5 l Z a0 hw [] b1 (((((((p1 + (1 : Int64)) + ((p3 &&& (65535 : Int32)).toInt64)) + (1 : Int64)) + ((p4 &&& (65535 : Int32)).toInt64)) + (1 : Int64)) + ((p5 &&& (65535 : Int32)).toInt64)) + (1 : Int64)) (FP.i2d (p6 >>> ((3 : Int32) &&& 31))) u tu ru l1 tl rl ku1 ku2 kl1 kl2 [.long 0, .long 0, .long 0] [.double 0, .double 0, .double 0] 0 [.long 0, .long 0, .long 0] [.double 0, .double 0, .double 0] 0 (FP.i2d p2) T4.heap n0 Z4 H4 O) hZ (hw _ (List.mem_of_getElem? (i := 38) rfl)) (hw _ (List.mem_of_getElem? (i := 2) rfl)) (by decide) (by decide)) q8a q8c (g := (mkF m 229 #[.val (.long p1), .second, .val (.int p2), .val (.int p3), .val (.int p4), .val (.int p5), .val (.int p6), .val (.ref b1), .val (.int (1 : Int32)), .val (.int (p6 &&& (3 : Int32))), .val (.long ((p1 + (1 : Int64)) + ((p3 &&& (65535 : Int32)).toInt64))), .second, .val (.long ((((p1 + (1 : Int64)) + ((p3 &&& (65535 : Int32)).toInt64)) + (1 : Int64)) + ((p4 &&& (65535 : Int32)).toInt64))), .second, .val (.long ((((((p1 + (1 : Int64)) + ((p3 &&& (65535 : Int32)).toInt64)) + (1 : Int64)) + ((p4 &&& (65535 : Int32)).toInt64)) + (1 : Int64)) + ((p5 &&& (65535 : Int32)).toInt64))), .second] [(.double (FP.i2d (p6 >>> ((3 : Int32) &&& 31)))), (.long (((((((p1 + (1 : Int64)) + ((p3 &&& (65535 : Int32)).toInt64)) + (1 : Int64)) + ((p4 &&& (65535 : Int32)).toInt64)) + (1 : Int64)) + ((p5 &&& (65535 : Int32)).toInt64)) + (1 : Int64))), (.ref b1)])) rfl (by rw [hml]; rfl) (Steps.refl _) (argsL := [(.long (((((((p1 + (1 : Int64)) + ((p3 &&& (65535 : Int32)).toInt64)) + (1 : Int64)) + ((p4 &&& (65535 : Int32)).toInt64)) + (1 : Int64)) + ((p5 &&& (65535 : Int32)).toInt64)) + (1 : Int64))), (.double (FP.i2d (p6 >>> ((3 : Int32) &&& 31))))]) (rest := []) (lenOf pd_3 rfl) rfl (by show 2 * 0 + _ ≤ _; exact Nat.le_of_eq rfl) (hb hby at_229) (fun _ _ => ⟨rfl, e5, (by decide : 7 + 0 ≤ _), (by decide : 74 + 0 ≤ _)⟩)
      dsimp only [Pt.U, Pt.locs, Pt.cells, Pt.slots] at X8 l8 y8 z8 st8 hQ8
      subst l8 y8 z8
      obtain ⟨rfl, N8, K8, H8⟩ := hQ8
      have Nf8 := Fr.app Nf5 N8
      refine Goes.via (S' := T8.setTop (mkF m 232 #[.val (.long p1), .second, .val (.int p2), .val (.int p3), .val (.int p4), .val (.int p5), .val (.int p6), .val (.ref b1), .val (.int (1 : Int32)), .val (.int (p6 &&& (3 : Int32))), .val (.long ((p1 + (1 : Int64)) + ((p3 &&& (65535 : Int32)).toInt64))), .second, .val (.long ((((p1 + (1 : Int64)) + ((p3 &&& (65535 : Int32)).toInt64)) + (1 : Int64)) + ((p4 &&& (65535 : Int32)).toInt64))), .second, .val (.long ((((((p1 + (1 : Int64)) + ((p3 &&& (65535 : Int32)).toInt64)) + (1 : Int64)) + ((p4 &&& (65535 : Int32)).toInt64)) + (1 : Int64)) + ((p5 &&& (65535 : Int32)).toInt64))), .second] [])) (fun _ kz => st8.trans kz) ?_
      have Z8 := Nat.le_trans Z4 K8.1
      refine Goes.via (S' := T8.setTop (mkF m 239 #[.val (.long p1), .second, .val (.int p2), .val (.int p3), .val (.int p4), .val (.int p5), .val (.int p6), .val (.ref b1), .val (.int (1 : Int32)), .val (.int (p6 &&& (3 : Int32))), .val (.long ((p1 + (1 : Int64)) + ((p3 &&& (65535 : Int32)).toInt64))), .second, .val (.long ((((p1 + (1 : Int64)) + ((p3 &&& (65535 : Int32)).toInt64)) + (1 : Int64)) + ((p4 &&& (65535 : Int32)).toInt64))), .second, .val (.long ((((((p1 + (1 : Int64)) + ((p3 &&& (65535 : Int32)).toInt64)) + (1 : Int64)) + ((p4 &&& (65535 : Int32)).toInt64)) + (1 : Int64)) + ((p5 &&& (65535 : Int32)).toInt64))), .second] [(.ref b1)])) (fun tz kz => ?_) ?_
      · show Steps p.tables e below (T8.setTop (mkF m 232 #[.val (.long p1), .second, .val (.int p2), .val (.int p3), .val (.int p4), .val (.int p5), .val (.int p6), .val (.ref b1), .val (.int (1 : Int32)), .val (.int (p6 &&& (3 : Int32))), .val (.long ((p1 + (1 : Int64)) + ((p3 &&& (65535 : Int32)).toInt64))), .second, .val (.long ((((p1 + (1 : Int64)) + ((p3 &&& (65535 : Int32)).toInt64)) + (1 : Int64)) + ((p4 &&& (65535 : Int32)).toInt64))), .second, .val (.long ((((((p1 + (1 : Int64)) + ((p3 &&& (65535 : Int32)).toInt64)) + (1 : Int64)) + ((p4 &&& (65535 : Int32)).toInt64)) + (1 : Int64)) + ((p5 &&& (65535 : Int32)).toInt64))), .second] [])) _
        refine XS.iload X8.here hx rfl (hb hby at_232) rfl ?_
        show Steps p.tables e below (T8.setTop (mkF m 234 #[.val (.long p1), .second, .val (.int p2), .val (.int p3), .val (.int p4), .val (.int p5), .val (.int p6), .val (.ref b1), .val (.int (1 : Int32)), .val (.int (p6 &&& (3 : Int32))), .val (.long ((p1 + (1 : Int64)) + ((p3 &&& (65535 : Int32)).toInt64))), .second, .val (.long ((((p1 + (1 : Int64)) + ((p3 &&& (65535 : Int32)).toInt64)) + (1 : Int64)) + ((p4 &&& (65535 : Int32)).toInt64))), .second, .val (.long ((((((p1 + (1 : Int64)) + ((p3 &&& (65535 : Int32)).toInt64)) + (1 : Int64)) + ((p4 &&& (65535 : Int32)).toInt64)) + (1 : Int64)) + ((p5 &&& (65535 : Int32)).toInt64))), .second] [(.int (1 : Int32))])) _
        refine XS.ifNo X8.here hx rfl (hb hby at_234) rfl ((if0 _ _).trans (feq (by decide)).1) ?_
        show Steps p.tables e below (T8.setTop (mkF m 237 #[.val (.long p1), .second, .val (.int p2), .val (.int p3), .val (.int p4), .val (.int p5), .val (.int p6), .val (.ref b1), .val (.int (1 : Int32)), .val (.int (p6 &&& (3 : Int32))), .val (.long ((p1 + (1 : Int64)) + ((p3 &&& (65535 : Int32)).toInt64))), .second, .val (.long ((((p1 + (1 : Int64)) + ((p3 &&& (65535 : Int32)).toInt64)) + (1 : Int64)) + ((p4 &&& (65535 : Int32)).toInt64))), .second, .val (.long ((((((p1 + (1 : Int64)) + ((p3 &&& (65535 : Int32)).toInt64)) + (1 : Int64)) + ((p4 &&& (65535 : Int32)).toInt64)) + (1 : Int64)) + ((p5 &&& (65535 : Int32)).toInt64))), .second] [])) _
        refine XS.aload X8.here hx rfl (hb hby at_237) rfl rfl ?_
        exact kz
      obtain ⟨cq9, kq9, q9a, q9b, q9c⟩ := isOf hZ rfl H8.1
      obtain ⟨_, _, ⟨T9, L9, k9, n9⟩, -, X9, ⟨Lc9, hQ9, l9, y9, z9⟩, st9⟩ := X8.virtualBack hx (y := (⟨"com/example/fewbits/fewbits/store/SegmentHull", "isFull", "()Z"⟩ : MethodName)) (z := (⟨"com/example/fewbits/fewbits/store/SegmentHull", "isFull", "()Z"⟩ : MethodName)) hown (mvT hZ (hw _ (List.mem_of_getElem? (i := 26) rfl))) (mvT hZ (hw _ (List.mem_of_getElem? (i := 27) rfl))) (notFace_of_selects (args := #[]) (mvT hZ (hw _ (List.mem_of_getElem? (i := 29) rfl)))) (mvT hZ (hw _ (List.mem_of_getElem? (i := 29) rfl))) (mvT hZ (hw _ (List.mem_of_getElem? (i := 28) rfl))) (by decide) (backOf (W := 0) (rm4 l Z a0 hw [] b1 u tu ru l1 tl rl ku1 ku2 kl1 kl2 [.long 0, .long 0, .long 0] [.double 0, .double 0, .double 0] 0 [.long 0, .long 0, .long 0] [.double 0, .double 0, .double 0] 0 (FP.i2d (p6 >>> ((3 : Int32) &&& 31))) T8.heap n0 Z8 H8 (by decide) (by decide)) hZ (hw _ (List.mem_of_getElem? (i := 30) rfl)) (hw _ (List.mem_of_getElem? (i := 2) rfl)) (by decide) (by decide)) q9a q9c (g := (mkF m 239 #[.val (.long p1), .second, .val (.int p2), .val (.int p3), .val (.int p4), .val (.int p5), .val (.int p6), .val (.ref b1), .val (.int (1 : Int32)), .val (.int (p6 &&& (3 : Int32))), .val (.long ((p1 + (1 : Int64)) + ((p3 &&& (65535 : Int32)).toInt64))), .second, .val (.long ((((p1 + (1 : Int64)) + ((p3 &&& (65535 : Int32)).toInt64)) + (1 : Int64)) + ((p4 &&& (65535 : Int32)).toInt64))), .second, .val (.long ((((((p1 + (1 : Int64)) + ((p3 &&& (65535 : Int32)).toInt64)) + (1 : Int64)) + ((p4 &&& (65535 : Int32)).toInt64)) + (1 : Int64)) + ((p5 &&& (65535 : Int32)).toInt64))), .second] [(.ref b1)])) rfl (by rw [hml]; rfl) (Steps.refl _) (argsL := []) (rest := []) (lenOf pd_4 rfl) rfl (by show 2 * 0 + _ ≤ _; exact Nat.le_of_eq rfl) (hb hby at_239) (fun _ _ => ⟨rfl, rfl, (by decide : 7 + 0 ≤ _), (by decide : 74 + 0 ≤ _)⟩)
      dsimp only [Pt.U, Pt.locs, Pt.cells, Pt.slots] at X9 l9 y9 z9 st9 hQ9
      subst l9 y9 z9
      obtain ⟨rfl, N9, e9⟩ := hQ9
      have Nf9 := Fr.app Nf8 N9
      refine Goes.via (S' := T9.setTop (mkF m 242 #[.val (.long p1), .second, .val (.int p2), .val (.int p3), .val (.int p4), .val (.int p5), .val (.int p6), .val (.ref b1), .val (.int (1 : Int32)), .val (.int (p6 &&& (3 : Int32))), .val (.long ((p1 + (1 : Int64)) + ((p3 &&& (65535 : Int32)).toInt64))), .second, .val (.long ((((p1 + (1 : Int64)) + ((p3 &&& (65535 : Int32)).toInt64)) + (1 : Int64)) + ((p4 &&& (65535 : Int32)).toInt64))), .second, .val (.long ((((((p1 + (1 : Int64)) + ((p3 &&& (65535 : Int32)).toInt64)) + (1 : Int64)) + ((p4 &&& (65535 : Int32)).toInt64)) + (1 : Int64)) + ((p5 &&& (65535 : Int32)).toInt64))), .second] [(.int (0 : Int32))])) (fun _ kz => st9.trans kz) ?_
      refine Goes.via (S' := T9.setTop (mkF m 262 #[.val (.long p1), .second, .val (.int p2), .val (.int p3), .val (.int p4), .val (.int p5), .val (.int p6), .val (.ref b1), .val (.int (1 : Int32)), .val (.int (p6 &&& (3 : Int32))), .val (.long ((p1 + (1 : Int64)) + ((p3 &&& (65535 : Int32)).toInt64))), .second, .val (.long ((((p1 + (1 : Int64)) + ((p3 &&& (65535 : Int32)).toInt64)) + (1 : Int64)) + ((p4 &&& (65535 : Int32)).toInt64))), .second, .val (.long ((((((p1 + (1 : Int64)) + ((p3 &&& (65535 : Int32)).toInt64)) + (1 : Int64)) + ((p4 &&& (65535 : Int32)).toInt64)) + (1 : Int64)) + ((p5 &&& (65535 : Int32)).toInt64))), .second] [(.int (1 : Int32))])) (fun tz kz => ?_) ?_
      · show Steps p.tables e below (T9.setTop (mkF m 242 #[.val (.long p1), .second, .val (.int p2), .val (.int p3), .val (.int p4), .val (.int p5), .val (.int p6), .val (.ref b1), .val (.int (1 : Int32)), .val (.int (p6 &&& (3 : Int32))), .val (.long ((p1 + (1 : Int64)) + ((p3 &&& (65535 : Int32)).toInt64))), .second, .val (.long ((((p1 + (1 : Int64)) + ((p3 &&& (65535 : Int32)).toInt64)) + (1 : Int64)) + ((p4 &&& (65535 : Int32)).toInt64))), .second, .val (.long ((((((p1 + (1 : Int64)) + ((p3 &&& (65535 : Int32)).toInt64)) + (1 : Int64)) + ((p4 &&& (65535 : Int32)).toInt64)) + (1 : Int64)) + ((p5 &&& (65535 : Int32)).toInt64))), .second] [(.int (0 : Int32))])) _
        refine XS.ifNo X9.here hx rfl (hb hby at_242) rfl ((if0 _ _).trans (teq (by decide)).2) ?_
        show Steps p.tables e below (T9.setTop (mkF m 245 #[.val (.long p1), .second, .val (.int p2), .val (.int p3), .val (.int p4), .val (.int p5), .val (.int p6), .val (.ref b1), .val (.int (1 : Int32)), .val (.int (p6 &&& (3 : Int32))), .val (.long ((p1 + (1 : Int64)) + ((p3 &&& (65535 : Int32)).toInt64))), .second, .val (.long ((((p1 + (1 : Int64)) + ((p3 &&& (65535 : Int32)).toInt64)) + (1 : Int64)) + ((p4 &&& (65535 : Int32)).toInt64))), .second, .val (.long ((((((p1 + (1 : Int64)) + ((p3 &&& (65535 : Int32)).toInt64)) + (1 : Int64)) + ((p4 &&& (65535 : Int32)).toInt64)) + (1 : Int64)) + ((p5 &&& (65535 : Int32)).toInt64))), .second] [])) _
        refine XS.iconst X9.here hx rfl (hb hby at_245) ?_
        show Steps p.tables e below (T9.setTop (mkF m 246 #[.val (.long p1), .second, .val (.int p2), .val (.int p3), .val (.int p4), .val (.int p5), .val (.int p6), .val (.ref b1), .val (.int (1 : Int32)), .val (.int (p6 &&& (3 : Int32))), .val (.long ((p1 + (1 : Int64)) + ((p3 &&& (65535 : Int32)).toInt64))), .second, .val (.long ((((p1 + (1 : Int64)) + ((p3 &&& (65535 : Int32)).toInt64)) + (1 : Int64)) + ((p4 &&& (65535 : Int32)).toInt64))), .second, .val (.long ((((((p1 + (1 : Int64)) + ((p3 &&& (65535 : Int32)).toInt64)) + (1 : Int64)) + ((p4 &&& (65535 : Int32)).toInt64)) + (1 : Int64)) + ((p5 &&& (65535 : Int32)).toInt64))), .second] [(.int (1 : Int32))])) _
        refine XS.goto X9.here hx rfl (pc0 := 246) (pc' := 250) rfl (hb hby at_246) (by decide) (by decide) ?_
        show Steps p.tables e below (T9.setTop (mkF m 250 #[.val (.long p1), .second, .val (.int p2), .val (.int p3), .val (.int p4), .val (.int p5), .val (.int p6), .val (.ref b1), .val (.int (1 : Int32)), .val (.int (p6 &&& (3 : Int32))), .val (.long ((p1 + (1 : Int64)) + ((p3 &&& (65535 : Int32)).toInt64))), .second, .val (.long ((((p1 + (1 : Int64)) + ((p3 &&& (65535 : Int32)).toInt64)) + (1 : Int64)) + ((p4 &&& (65535 : Int32)).toInt64))), .second, .val (.long ((((((p1 + (1 : Int64)) + ((p3 &&& (65535 : Int32)).toInt64)) + (1 : Int64)) + ((p4 &&& (65535 : Int32)).toInt64)) + (1 : Int64)) + ((p5 &&& (65535 : Int32)).toInt64))), .second] [(.int (1 : Int32))])) _
        refine XS.istore X9.here hx rfl (hb hby at_250) rfl (l' := #[.val (.long p1), .second, .val (.int p2), .val (.int p3), .val (.int p4), .val (.int p5), .val (.int p6), .val (.ref b1), .val (.int (1 : Int32)), .val (.int (p6 &&& (3 : Int32))), .val (.long ((p1 + (1 : Int64)) + ((p3 &&& (65535 : Int32)).toInt64))), .second, .val (.long ((((p1 + (1 : Int64)) + ((p3 &&& (65535 : Int32)).toInt64)) + (1 : Int64)) + ((p4 &&& (65535 : Int32)).toInt64))), .second, .val (.long ((((((p1 + (1 : Int64)) + ((p3 &&& (65535 : Int32)).toInt64)) + (1 : Int64)) + ((p4 &&& (65535 : Int32)).toInt64)) + (1 : Int64)) + ((p5 &&& (65535 : Int32)).toInt64))), .second]) rfl ?_
        show Steps p.tables e below (T9.setTop (mkF m 252 #[.val (.long p1), .second, .val (.int p2), .val (.int p3), .val (.int p4), .val (.int p5), .val (.int p6), .val (.ref b1), .val (.int (1 : Int32)), .val (.int (p6 &&& (3 : Int32))), .val (.long ((p1 + (1 : Int64)) + ((p3 &&& (65535 : Int32)).toInt64))), .second, .val (.long ((((p1 + (1 : Int64)) + ((p3 &&& (65535 : Int32)).toInt64)) + (1 : Int64)) + ((p4 &&& (65535 : Int32)).toInt64))), .second, .val (.long ((((((p1 + (1 : Int64)) + ((p3 &&& (65535 : Int32)).toInt64)) + (1 : Int64)) + ((p4 &&& (65535 : Int32)).toInt64)) + (1 : Int64)) + ((p5 &&& (65535 : Int32)).toInt64))), .second] [])) _
        refine XS.iload X9.here hx rfl (hb hby at_252) rfl ?_
        show Steps p.tables e below (T9.setTop (mkF m 254 #[.val (.long p1), .second, .val (.int p2), .val (.int p3), .val (.int p4), .val (.int p5), .val (.int p6), .val (.ref b1), .val (.int (1 : Int32)), .val (.int (p6 &&& (3 : Int32))), .val (.long ((p1 + (1 : Int64)) + ((p3 &&& (65535 : Int32)).toInt64))), .second, .val (.long ((((p1 + (1 : Int64)) + ((p3 &&& (65535 : Int32)).toInt64)) + (1 : Int64)) + ((p4 &&& (65535 : Int32)).toInt64))), .second, .val (.long ((((((p1 + (1 : Int64)) + ((p3 &&& (65535 : Int32)).toInt64)) + (1 : Int64)) + ((p4 &&& (65535 : Int32)).toInt64)) + (1 : Int64)) + ((p5 &&& (65535 : Int32)).toInt64))), .second] [(.int (1 : Int32))])) _
        refine XS.ifNo X9.here hx rfl (hb hby at_254) rfl ((if0 _ _).trans (feq (by decide)).1) ?_
        show Steps p.tables e below (T9.setTop (mkF m 257 #[.val (.long p1), .second, .val (.int p2), .val (.int p3), .val (.int p4), .val (.int p5), .val (.int p6), .val (.ref b1), .val (.int (1 : Int32)), .val (.int (p6 &&& (3 : Int32))), .val (.long ((p1 + (1 : Int64)) + ((p3 &&& (65535 : Int32)).toInt64))), .second, .val (.long ((((p1 + (1 : Int64)) + ((p3 &&& (65535 : Int32)).toInt64)) + (1 : Int64)) + ((p4 &&& (65535 : Int32)).toInt64))), .second, .val (.long ((((((p1 + (1 : Int64)) + ((p3 &&& (65535 : Int32)).toInt64)) + (1 : Int64)) + ((p4 &&& (65535 : Int32)).toInt64)) + (1 : Int64)) + ((p5 &&& (65535 : Int32)).toInt64))), .second] [])) _
        refine XS.iconst X9.here hx rfl (hb hby at_257) ?_
        show Steps p.tables e below (T9.setTop (mkF m 258 #[.val (.long p1), .second, .val (.int p2), .val (.int p3), .val (.int p4), .val (.int p5), .val (.int p6), .val (.ref b1), .val (.int (1 : Int32)), .val (.int (p6 &&& (3 : Int32))), .val (.long ((p1 + (1 : Int64)) + ((p3 &&& (65535 : Int32)).toInt64))), .second, .val (.long ((((p1 + (1 : Int64)) + ((p3 &&& (65535 : Int32)).toInt64)) + (1 : Int64)) + ((p4 &&& (65535 : Int32)).toInt64))), .second, .val (.long ((((((p1 + (1 : Int64)) + ((p3 &&& (65535 : Int32)).toInt64)) + (1 : Int64)) + ((p4 &&& (65535 : Int32)).toInt64)) + (1 : Int64)) + ((p5 &&& (65535 : Int32)).toInt64))), .second] [(.int (1 : Int32))])) _
        refine XS.goto X9.here hx rfl (pc0 := 258) (pc' := 262) rfl (hb hby at_258) (by decide) (by decide) ?_
        exact kz
      exact Goes.retN X9 hx Bd.notSynchronized (t := .boolean) Bd.returns (by simp) (hb hby at_262) (Nat.le_of_ble_eq_true rfl) (Nat.le_of_ble_eq_true rfl) ⟨rfl, Nf9⟩
  · refine Goes.via (S' := T5.setTop (mkF m 110 #[.val (.long p1), .second, .val (.int p2), .val (.int p3), .val (.int p4), .val (.int p5), .val (.int p6), .val (.ref b1), .val (.int (1 : Int32)), .val (.int (p6 &&& (3 : Int32))), .val (.long ((p1 + (1 : Int64)) + ((p3 &&& (65535 : Int32)).toInt64))), .second, .val (.long ((((p1 + (1 : Int64)) + ((p3 &&& (65535 : Int32)).toInt64)) + (1 : Int64)) + ((p4 &&& (65535 : Int32)).toInt64))), .second, .val (.long ((((((p1 + (1 : Int64)) + ((p3 &&& (65535 : Int32)).toInt64)) + (1 : Int64)) + ((p4 &&& (65535 : Int32)).toInt64)) + (1 : Int64)) + ((p5 &&& (65535 : Int32)).toInt64))), .second] [(.double (FP.i2d (p3 >>> ((16 : Int32) &&& 31)))), (.long ((p1 + (1 : Int64)) + ((p3 &&& (65535 : Int32)).toInt64))), (.ref b1)])) (fun tz kz => ?_) ?_
    · show Steps p.tables e below (T5.setTop (mkF m 98 #[.val (.long p1), .second, .val (.int p2), .val (.int p3), .val (.int p4), .val (.int p5), .val (.int p6), .val (.ref b1), .val (.int (1 : Int32)), .val (.int (p6 &&& (3 : Int32))), .val (.long ((p1 + (1 : Int64)) + ((p3 &&& (65535 : Int32)).toInt64))), .second, .val (.long ((((p1 + (1 : Int64)) + ((p3 &&& (65535 : Int32)).toInt64)) + (1 : Int64)) + ((p4 &&& (65535 : Int32)).toInt64))), .second, .val (.long ((((((p1 + (1 : Int64)) + ((p3 &&& (65535 : Int32)).toInt64)) + (1 : Int64)) + ((p4 &&& (65535 : Int32)).toInt64)) + (1 : Int64)) + ((p5 &&& (65535 : Int32)).toInt64))), .second] [(.int (1 : Int32)), (.int (p6 &&& (3 : Int32)))])) _
      refine XS.icmpNo X5.here hx rfl (hb hby at_98) rfl (flt hc98_6).1 ?_
      show Steps p.tables e below (T5.setTop (mkF m 101 #[.val (.long p1), .second, .val (.int p2), .val (.int p3), .val (.int p4), .val (.int p5), .val (.int p6), .val (.ref b1), .val (.int (1 : Int32)), .val (.int (p6 &&& (3 : Int32))), .val (.long ((p1 + (1 : Int64)) + ((p3 &&& (65535 : Int32)).toInt64))), .second, .val (.long ((((p1 + (1 : Int64)) + ((p3 &&& (65535 : Int32)).toInt64)) + (1 : Int64)) + ((p4 &&& (65535 : Int32)).toInt64))), .second, .val (.long ((((((p1 + (1 : Int64)) + ((p3 &&& (65535 : Int32)).toInt64)) + (1 : Int64)) + ((p4 &&& (65535 : Int32)).toInt64)) + (1 : Int64)) + ((p5 &&& (65535 : Int32)).toInt64))), .second] [])) _
      refine XS.aload X5.here hx rfl (hb hby at_101) rfl rfl ?_
      show Steps p.tables e below (T5.setTop (mkF m 103 #[.val (.long p1), .second, .val (.int p2), .val (.int p3), .val (.int p4), .val (.int p5), .val (.int p6), .val (.ref b1), .val (.int (1 : Int32)), .val (.int (p6 &&& (3 : Int32))), .val (.long ((p1 + (1 : Int64)) + ((p3 &&& (65535 : Int32)).toInt64))), .second, .val (.long ((((p1 + (1 : Int64)) + ((p3 &&& (65535 : Int32)).toInt64)) + (1 : Int64)) + ((p4 &&& (65535 : Int32)).toInt64))), .second, .val (.long ((((((p1 + (1 : Int64)) + ((p3 &&& (65535 : Int32)).toInt64)) + (1 : Int64)) + ((p4 &&& (65535 : Int32)).toInt64)) + (1 : Int64)) + ((p5 &&& (65535 : Int32)).toInt64))), .second] [(.ref b1)])) _
      refine XS.lload X5.here hx rfl (hb hby at_103) rfl ?_
      show Steps p.tables e below (T5.setTop (mkF m 105 #[.val (.long p1), .second, .val (.int p2), .val (.int p3), .val (.int p4), .val (.int p5), .val (.int p6), .val (.ref b1), .val (.int (1 : Int32)), .val (.int (p6 &&& (3 : Int32))), .val (.long ((p1 + (1 : Int64)) + ((p3 &&& (65535 : Int32)).toInt64))), .second, .val (.long ((((p1 + (1 : Int64)) + ((p3 &&& (65535 : Int32)).toInt64)) + (1 : Int64)) + ((p4 &&& (65535 : Int32)).toInt64))), .second, .val (.long ((((((p1 + (1 : Int64)) + ((p3 &&& (65535 : Int32)).toInt64)) + (1 : Int64)) + ((p4 &&& (65535 : Int32)).toInt64)) + (1 : Int64)) + ((p5 &&& (65535 : Int32)).toInt64))), .second] [(.long ((p1 + (1 : Int64)) + ((p3 &&& (65535 : Int32)).toInt64))), (.ref b1)])) _
      refine XS.iloadN X5.here hx rfl (hb hby at_105) rfl ?_
      show Steps p.tables e below (T5.setTop (mkF m 106 #[.val (.long p1), .second, .val (.int p2), .val (.int p3), .val (.int p4), .val (.int p5), .val (.int p6), .val (.ref b1), .val (.int (1 : Int32)), .val (.int (p6 &&& (3 : Int32))), .val (.long ((p1 + (1 : Int64)) + ((p3 &&& (65535 : Int32)).toInt64))), .second, .val (.long ((((p1 + (1 : Int64)) + ((p3 &&& (65535 : Int32)).toInt64)) + (1 : Int64)) + ((p4 &&& (65535 : Int32)).toInt64))), .second, .val (.long ((((((p1 + (1 : Int64)) + ((p3 &&& (65535 : Int32)).toInt64)) + (1 : Int64)) + ((p4 &&& (65535 : Int32)).toInt64)) + (1 : Int64)) + ((p5 &&& (65535 : Int32)).toInt64))), .second] [(.int p3), (.long ((p1 + (1 : Int64)) + ((p3 &&& (65535 : Int32)).toInt64))), (.ref b1)])) _
      refine XS.bipush X5.here hx rfl (hb hby at_106) ?_
      show Steps p.tables e below (T5.setTop (mkF m 108 #[.val (.long p1), .second, .val (.int p2), .val (.int p3), .val (.int p4), .val (.int p5), .val (.int p6), .val (.ref b1), .val (.int (1 : Int32)), .val (.int (p6 &&& (3 : Int32))), .val (.long ((p1 + (1 : Int64)) + ((p3 &&& (65535 : Int32)).toInt64))), .second, .val (.long ((((p1 + (1 : Int64)) + ((p3 &&& (65535 : Int32)).toInt64)) + (1 : Int64)) + ((p4 &&& (65535 : Int32)).toInt64))), .second, .val (.long ((((((p1 + (1 : Int64)) + ((p3 &&& (65535 : Int32)).toInt64)) + (1 : Int64)) + ((p4 &&& (65535 : Int32)).toInt64)) + (1 : Int64)) + ((p5 &&& (65535 : Int32)).toInt64))), .second] [(.int (16 : Int32)), (.int p3), (.long ((p1 + (1 : Int64)) + ((p3 &&& (65535 : Int32)).toInt64))), (.ref b1)])) _
      refine XS.ishr X5.here hx rfl (hb hby at_108) rfl ?_
      show Steps p.tables e below (T5.setTop (mkF m 109 #[.val (.long p1), .second, .val (.int p2), .val (.int p3), .val (.int p4), .val (.int p5), .val (.int p6), .val (.ref b1), .val (.int (1 : Int32)), .val (.int (p6 &&& (3 : Int32))), .val (.long ((p1 + (1 : Int64)) + ((p3 &&& (65535 : Int32)).toInt64))), .second, .val (.long ((((p1 + (1 : Int64)) + ((p3 &&& (65535 : Int32)).toInt64)) + (1 : Int64)) + ((p4 &&& (65535 : Int32)).toInt64))), .second, .val (.long ((((((p1 + (1 : Int64)) + ((p3 &&& (65535 : Int32)).toInt64)) + (1 : Int64)) + ((p4 &&& (65535 : Int32)).toInt64)) + (1 : Int64)) + ((p5 &&& (65535 : Int32)).toInt64))), .second] [(.int (p3 >>> ((16 : Int32) &&& 31))), (.long ((p1 + (1 : Int64)) + ((p3 &&& (65535 : Int32)).toInt64))), (.ref b1)])) _
      refine XS.i2dS X5.here hx rfl (hb hby at_109) rfl (v := FP.i2d (p3 >>> ((16 : Int32) &&& 31))) rfl ?_
      exact kz
    obtain ⟨cq10, kq10, q10a, q10b, q10c⟩ := isOf hZ e5 H4.1
    obtain ⟨_, _, ⟨T10, L10, k10, n10⟩, -, X10, ⟨Lc10, hQ10, l10, y10, z10⟩, st10⟩ := X5.virtualBack hx (y := (⟨"com/example/fewbits/fewbits/store/SegmentHull", "add", "(JD)V"⟩ : MethodName)) (z := (⟨"com/example/fewbits/fewbits/store/SegmentHull", "add", "(JD)V"⟩ : MethodName)) hown (mvT hZ (hw _ (List.mem_of_getElem? (i := 50) rfl))) (mvT hZ (hw _ (List.mem_of_getElem? (i := 51) rfl))) (notFace_of_selects (args := #[]) (mvT hZ (hw _ (List.mem_of_getElem? (i := 53) rfl)))) (mvT hZ (hw _ (List.mem_of_getElem? (i := 53) rfl))) (mvT hZ (hw _ (List.mem_of_getElem? (i := 52) rfl))) (by decide) (backOf (W := 0) (rm7_0 l Z a0 hw [] b1 ((p1 + (1 : Int64)) + ((p3 &&& (65535 : Int32)).toInt64)) (FP.i2d (p3 >>> ((16 : Int32) &&& 31))) u tu ru l1 tl rl ku1 ku2 kl1 kl2 (0 : Int64) (0 : Int64) (0 : Int64) (0 : UInt64) (0 : UInt64) (0 : UInt64) (0 : UInt64) (0 : UInt64) (0 : UInt64) (FP.i2d p2) T4.heap n0 Z4 H4 O (own_rise _ _)) hZ (hw _ (List.mem_of_getElem? (i := 54) rfl)) (hw _ (List.mem_of_getElem? (i := 2) rfl)) (by decide) (by decide)) q10a q10c (g := (mkF m 110 #[.val (.long p1), .second, .val (.int p2), .val (.int p3), .val (.int p4), .val (.int p5), .val (.int p6), .val (.ref b1), .val (.int (1 : Int32)), .val (.int (p6 &&& (3 : Int32))), .val (.long ((p1 + (1 : Int64)) + ((p3 &&& (65535 : Int32)).toInt64))), .second, .val (.long ((((p1 + (1 : Int64)) + ((p3 &&& (65535 : Int32)).toInt64)) + (1 : Int64)) + ((p4 &&& (65535 : Int32)).toInt64))), .second, .val (.long ((((((p1 + (1 : Int64)) + ((p3 &&& (65535 : Int32)).toInt64)) + (1 : Int64)) + ((p4 &&& (65535 : Int32)).toInt64)) + (1 : Int64)) + ((p5 &&& (65535 : Int32)).toInt64))), .second] [(.double (FP.i2d (p3 >>> ((16 : Int32) &&& 31)))), (.long ((p1 + (1 : Int64)) + ((p3 &&& (65535 : Int32)).toInt64))), (.ref b1)])) rfl (by rw [hml]; rfl) (Steps.refl _) (argsL := [(.long ((p1 + (1 : Int64)) + ((p3 &&& (65535 : Int32)).toInt64))), (.double (FP.i2d (p3 >>> ((16 : Int32) &&& 31))))]) (rest := []) (lenOf pd_3 rfl) rfl (by show 2 * 0 + _ ≤ _; exact Nat.le_of_eq rfl) (hb hby at_110) (fun _ _ => ⟨rfl, e5, (by decide : 7 + 0 ≤ _), (by decide : 74 + 0 ≤ _)⟩)
    dsimp only [Pt.U, Pt.locs, Pt.cells, Pt.slots] at X10 l10 y10 z10 st10 hQ10
    subst l10 y10 z10
    obtain ⟨rfl, N10, K10, H10⟩ := hQ10
    have Nf10 := Fr.app Nf5 N10
    refine Goes.via (S' := T10.setTop (mkF m 113 #[.val (.long p1), .second, .val (.int p2), .val (.int p3), .val (.int p4), .val (.int p5), .val (.int p6), .val (.ref b1), .val (.int (1 : Int32)), .val (.int (p6 &&& (3 : Int32))), .val (.long ((p1 + (1 : Int64)) + ((p3 &&& (65535 : Int32)).toInt64))), .second, .val (.long ((((p1 + (1 : Int64)) + ((p3 &&& (65535 : Int32)).toInt64)) + (1 : Int64)) + ((p4 &&& (65535 : Int32)).toInt64))), .second, .val (.long ((((((p1 + (1 : Int64)) + ((p3 &&& (65535 : Int32)).toInt64)) + (1 : Int64)) + ((p4 &&& (65535 : Int32)).toInt64)) + (1 : Int64)) + ((p5 &&& (65535 : Int32)).toInt64))), .second] [])) (fun _ kz => st10.trans kz) ?_
    have Z10 := Nat.le_trans Z4 K10.1
    refine Goes.via (S' := T10.setTop (mkF m 120 #[.val (.long p1), .second, .val (.int p2), .val (.int p3), .val (.int p4), .val (.int p5), .val (.int p6), .val (.ref b1), .val (.int (1 : Int32)), .val (.int (p6 &&& (3 : Int32))), .val (.long ((p1 + (1 : Int64)) + ((p3 &&& (65535 : Int32)).toInt64))), .second, .val (.long ((((p1 + (1 : Int64)) + ((p3 &&& (65535 : Int32)).toInt64)) + (1 : Int64)) + ((p4 &&& (65535 : Int32)).toInt64))), .second, .val (.long ((((((p1 + (1 : Int64)) + ((p3 &&& (65535 : Int32)).toInt64)) + (1 : Int64)) + ((p4 &&& (65535 : Int32)).toInt64)) + (1 : Int64)) + ((p5 &&& (65535 : Int32)).toInt64))), .second] [(.ref b1)])) (fun tz kz => ?_) ?_
    · show Steps p.tables e below (T10.setTop (mkF m 113 #[.val (.long p1), .second, .val (.int p2), .val (.int p3), .val (.int p4), .val (.int p5), .val (.int p6), .val (.ref b1), .val (.int (1 : Int32)), .val (.int (p6 &&& (3 : Int32))), .val (.long ((p1 + (1 : Int64)) + ((p3 &&& (65535 : Int32)).toInt64))), .second, .val (.long ((((p1 + (1 : Int64)) + ((p3 &&& (65535 : Int32)).toInt64)) + (1 : Int64)) + ((p4 &&& (65535 : Int32)).toInt64))), .second, .val (.long ((((((p1 + (1 : Int64)) + ((p3 &&& (65535 : Int32)).toInt64)) + (1 : Int64)) + ((p4 &&& (65535 : Int32)).toInt64)) + (1 : Int64)) + ((p5 &&& (65535 : Int32)).toInt64))), .second] [])) _
      refine XS.iload X10.here hx rfl (hb hby at_113) rfl ?_
      show Steps p.tables e below (T10.setTop (mkF m 115 #[.val (.long p1), .second, .val (.int p2), .val (.int p3), .val (.int p4), .val (.int p5), .val (.int p6), .val (.ref b1), .val (.int (1 : Int32)), .val (.int (p6 &&& (3 : Int32))), .val (.long ((p1 + (1 : Int64)) + ((p3 &&& (65535 : Int32)).toInt64))), .second, .val (.long ((((p1 + (1 : Int64)) + ((p3 &&& (65535 : Int32)).toInt64)) + (1 : Int64)) + ((p4 &&& (65535 : Int32)).toInt64))), .second, .val (.long ((((((p1 + (1 : Int64)) + ((p3 &&& (65535 : Int32)).toInt64)) + (1 : Int64)) + ((p4 &&& (65535 : Int32)).toInt64)) + (1 : Int64)) + ((p5 &&& (65535 : Int32)).toInt64))), .second] [(.int (1 : Int32))])) _
      refine XS.ifNo X10.here hx rfl (hb hby at_115) rfl ((if0 _ _).trans (feq (by decide)).1) ?_
      show Steps p.tables e below (T10.setTop (mkF m 118 #[.val (.long p1), .second, .val (.int p2), .val (.int p3), .val (.int p4), .val (.int p5), .val (.int p6), .val (.ref b1), .val (.int (1 : Int32)), .val (.int (p6 &&& (3 : Int32))), .val (.long ((p1 + (1 : Int64)) + ((p3 &&& (65535 : Int32)).toInt64))), .second, .val (.long ((((p1 + (1 : Int64)) + ((p3 &&& (65535 : Int32)).toInt64)) + (1 : Int64)) + ((p4 &&& (65535 : Int32)).toInt64))), .second, .val (.long ((((((p1 + (1 : Int64)) + ((p3 &&& (65535 : Int32)).toInt64)) + (1 : Int64)) + ((p4 &&& (65535 : Int32)).toInt64)) + (1 : Int64)) + ((p5 &&& (65535 : Int32)).toInt64))), .second] [])) _
      refine XS.aload X10.here hx rfl (hb hby at_118) rfl rfl ?_
      exact kz
    obtain ⟨cq11, kq11, q11a, q11b, q11c⟩ := isOf hZ rfl H10.1
    obtain ⟨_, _, ⟨T11, L11, k11, n11⟩, -, X11, ⟨Lc11, hQ11, l11, y11, z11⟩, st11⟩ := X10.virtualBack hx (y := (⟨"com/example/fewbits/fewbits/store/SegmentHull", "isFull", "()Z"⟩ : MethodName)) (z := (⟨"com/example/fewbits/fewbits/store/SegmentHull", "isFull", "()Z"⟩ : MethodName)) hown (mvT hZ (hw _ (List.mem_of_getElem? (i := 26) rfl))) (mvT hZ (hw _ (List.mem_of_getElem? (i := 27) rfl))) (notFace_of_selects (args := #[]) (mvT hZ (hw _ (List.mem_of_getElem? (i := 29) rfl)))) (mvT hZ (hw _ (List.mem_of_getElem? (i := 29) rfl))) (mvT hZ (hw _ (List.mem_of_getElem? (i := 28) rfl))) (by decide) (backOf (W := 0) (rm4 l Z a0 hw [] b1 u tu ru l1 tl rl ku1 ku2 kl1 kl2 [.long ((p1 + (1 : Int64)) + ((p3 &&& (65535 : Int32)).toInt64)), .long (0 : Int64), .long (0 : Int64)] [.double (FP.dsub (FP.i2d (p3 >>> ((16 : Int32) &&& 31))) (FP.i2d p2)), .double (0 : UInt64), .double (0 : UInt64)] 1 [.long ((p1 + (1 : Int64)) + ((p3 &&& (65535 : Int32)).toInt64)), .long (0 : Int64), .long (0 : Int64)] [.double (FP.dneg (FP.dsub (FP.i2d (p3 >>> ((16 : Int32) &&& 31))) (FP.i2d p2))), .double (0 : UInt64), .double (0 : UInt64)] 1 (FP.i2d p2) T10.heap n0 Z10 H10 (by decide) (by decide)) hZ (hw _ (List.mem_of_getElem? (i := 30) rfl)) (hw _ (List.mem_of_getElem? (i := 2) rfl)) (by decide) (by decide)) q11a q11c (g := (mkF m 120 #[.val (.long p1), .second, .val (.int p2), .val (.int p3), .val (.int p4), .val (.int p5), .val (.int p6), .val (.ref b1), .val (.int (1 : Int32)), .val (.int (p6 &&& (3 : Int32))), .val (.long ((p1 + (1 : Int64)) + ((p3 &&& (65535 : Int32)).toInt64))), .second, .val (.long ((((p1 + (1 : Int64)) + ((p3 &&& (65535 : Int32)).toInt64)) + (1 : Int64)) + ((p4 &&& (65535 : Int32)).toInt64))), .second, .val (.long ((((((p1 + (1 : Int64)) + ((p3 &&& (65535 : Int32)).toInt64)) + (1 : Int64)) + ((p4 &&& (65535 : Int32)).toInt64)) + (1 : Int64)) + ((p5 &&& (65535 : Int32)).toInt64))), .second] [(.ref b1)])) rfl (by rw [hml]; rfl) (Steps.refl _) (argsL := []) (rest := []) (lenOf pd_4 rfl) rfl (by show 2 * 0 + _ ≤ _; exact Nat.le_of_eq rfl) (hb hby at_120) (fun _ _ => ⟨rfl, rfl, (by decide : 7 + 0 ≤ _), (by decide : 74 + 0 ≤ _)⟩)
    dsimp only [Pt.U, Pt.locs, Pt.cells, Pt.slots] at X11 l11 y11 z11 st11 hQ11
    subst l11 y11 z11
    obtain ⟨rfl, N11, e11⟩ := hQ11
    have Nf11 := Fr.app Nf10 N11
    refine Goes.via (S' := T11.setTop (mkF m 123 #[.val (.long p1), .second, .val (.int p2), .val (.int p3), .val (.int p4), .val (.int p5), .val (.int p6), .val (.ref b1), .val (.int (1 : Int32)), .val (.int (p6 &&& (3 : Int32))), .val (.long ((p1 + (1 : Int64)) + ((p3 &&& (65535 : Int32)).toInt64))), .second, .val (.long ((((p1 + (1 : Int64)) + ((p3 &&& (65535 : Int32)).toInt64)) + (1 : Int64)) + ((p4 &&& (65535 : Int32)).toInt64))), .second, .val (.long ((((((p1 + (1 : Int64)) + ((p3 &&& (65535 : Int32)).toInt64)) + (1 : Int64)) + ((p4 &&& (65535 : Int32)).toInt64)) + (1 : Int64)) + ((p5 &&& (65535 : Int32)).toInt64))), .second] [(.int (0 : Int32))])) (fun _ kz => st11.trans kz) ?_
    refine Goes.via (S' := T11.setTop (mkF m 136 #[.val (.long p1), .second, .val (.int p2), .val (.int p3), .val (.int p4), .val (.int p5), .val (.int p6), .val (.ref b1), .val (.int (1 : Int32)), .val (.int (p6 &&& (3 : Int32))), .val (.long ((p1 + (1 : Int64)) + ((p3 &&& (65535 : Int32)).toInt64))), .second, .val (.long ((((p1 + (1 : Int64)) + ((p3 &&& (65535 : Int32)).toInt64)) + (1 : Int64)) + ((p4 &&& (65535 : Int32)).toInt64))), .second, .val (.long ((((((p1 + (1 : Int64)) + ((p3 &&& (65535 : Int32)).toInt64)) + (1 : Int64)) + ((p4 &&& (65535 : Int32)).toInt64)) + (1 : Int64)) + ((p5 &&& (65535 : Int32)).toInt64))), .second] [(.int (2 : Int32)), (.int (p6 &&& (3 : Int32)))])) (fun tz kz => ?_) ?_
    · show Steps p.tables e below (T11.setTop (mkF m 123 #[.val (.long p1), .second, .val (.int p2), .val (.int p3), .val (.int p4), .val (.int p5), .val (.int p6), .val (.ref b1), .val (.int (1 : Int32)), .val (.int (p6 &&& (3 : Int32))), .val (.long ((p1 + (1 : Int64)) + ((p3 &&& (65535 : Int32)).toInt64))), .second, .val (.long ((((p1 + (1 : Int64)) + ((p3 &&& (65535 : Int32)).toInt64)) + (1 : Int64)) + ((p4 &&& (65535 : Int32)).toInt64))), .second, .val (.long ((((((p1 + (1 : Int64)) + ((p3 &&& (65535 : Int32)).toInt64)) + (1 : Int64)) + ((p4 &&& (65535 : Int32)).toInt64)) + (1 : Int64)) + ((p5 &&& (65535 : Int32)).toInt64))), .second] [(.int (0 : Int32))])) _
      refine XS.ifNo X11.here hx rfl (hb hby at_123) rfl ((if0 _ _).trans (teq (by decide)).2) ?_
      show Steps p.tables e below (T11.setTop (mkF m 126 #[.val (.long p1), .second, .val (.int p2), .val (.int p3), .val (.int p4), .val (.int p5), .val (.int p6), .val (.ref b1), .val (.int (1 : Int32)), .val (.int (p6 &&& (3 : Int32))), .val (.long ((p1 + (1 : Int64)) + ((p3 &&& (65535 : Int32)).toInt64))), .second, .val (.long ((((p1 + (1 : Int64)) + ((p3 &&& (65535 : Int32)).toInt64)) + (1 : Int64)) + ((p4 &&& (65535 : Int32)).toInt64))), .second, .val (.long ((((((p1 + (1 : Int64)) + ((p3 &&& (65535 : Int32)).toInt64)) + (1 : Int64)) + ((p4 &&& (65535 : Int32)).toInt64)) + (1 : Int64)) + ((p5 &&& (65535 : Int32)).toInt64))), .second] [])) _
      refine XS.iconst X11.here hx rfl (hb hby at_126) ?_
      show Steps p.tables e below (T11.setTop (mkF m 127 #[.val (.long p1), .second, .val (.int p2), .val (.int p3), .val (.int p4), .val (.int p5), .val (.int p6), .val (.ref b1), .val (.int (1 : Int32)), .val (.int (p6 &&& (3 : Int32))), .val (.long ((p1 + (1 : Int64)) + ((p3 &&& (65535 : Int32)).toInt64))), .second, .val (.long ((((p1 + (1 : Int64)) + ((p3 &&& (65535 : Int32)).toInt64)) + (1 : Int64)) + ((p4 &&& (65535 : Int32)).toInt64))), .second, .val (.long ((((((p1 + (1 : Int64)) + ((p3 &&& (65535 : Int32)).toInt64)) + (1 : Int64)) + ((p4 &&& (65535 : Int32)).toInt64)) + (1 : Int64)) + ((p5 &&& (65535 : Int32)).toInt64))), .second] [(.int (1 : Int32))])) _
      refine XS.goto X11.here hx rfl (pc0 := 127) (pc' := 131) rfl (hb hby at_127) (by decide) (by decide) ?_
      show Steps p.tables e below (T11.setTop (mkF m 131 #[.val (.long p1), .second, .val (.int p2), .val (.int p3), .val (.int p4), .val (.int p5), .val (.int p6), .val (.ref b1), .val (.int (1 : Int32)), .val (.int (p6 &&& (3 : Int32))), .val (.long ((p1 + (1 : Int64)) + ((p3 &&& (65535 : Int32)).toInt64))), .second, .val (.long ((((p1 + (1 : Int64)) + ((p3 &&& (65535 : Int32)).toInt64)) + (1 : Int64)) + ((p4 &&& (65535 : Int32)).toInt64))), .second, .val (.long ((((((p1 + (1 : Int64)) + ((p3 &&& (65535 : Int32)).toInt64)) + (1 : Int64)) + ((p4 &&& (65535 : Int32)).toInt64)) + (1 : Int64)) + ((p5 &&& (65535 : Int32)).toInt64))), .second] [(.int (1 : Int32))])) _
      refine XS.istore X11.here hx rfl (hb hby at_131) rfl (l' := #[.val (.long p1), .second, .val (.int p2), .val (.int p3), .val (.int p4), .val (.int p5), .val (.int p6), .val (.ref b1), .val (.int (1 : Int32)), .val (.int (p6 &&& (3 : Int32))), .val (.long ((p1 + (1 : Int64)) + ((p3 &&& (65535 : Int32)).toInt64))), .second, .val (.long ((((p1 + (1 : Int64)) + ((p3 &&& (65535 : Int32)).toInt64)) + (1 : Int64)) + ((p4 &&& (65535 : Int32)).toInt64))), .second, .val (.long ((((((p1 + (1 : Int64)) + ((p3 &&& (65535 : Int32)).toInt64)) + (1 : Int64)) + ((p4 &&& (65535 : Int32)).toInt64)) + (1 : Int64)) + ((p5 &&& (65535 : Int32)).toInt64))), .second]) rfl ?_
      show Steps p.tables e below (T11.setTop (mkF m 133 #[.val (.long p1), .second, .val (.int p2), .val (.int p3), .val (.int p4), .val (.int p5), .val (.int p6), .val (.ref b1), .val (.int (1 : Int32)), .val (.int (p6 &&& (3 : Int32))), .val (.long ((p1 + (1 : Int64)) + ((p3 &&& (65535 : Int32)).toInt64))), .second, .val (.long ((((p1 + (1 : Int64)) + ((p3 &&& (65535 : Int32)).toInt64)) + (1 : Int64)) + ((p4 &&& (65535 : Int32)).toInt64))), .second, .val (.long ((((((p1 + (1 : Int64)) + ((p3 &&& (65535 : Int32)).toInt64)) + (1 : Int64)) + ((p4 &&& (65535 : Int32)).toInt64)) + (1 : Int64)) + ((p5 &&& (65535 : Int32)).toInt64))), .second] [])) _
      refine XS.iload X11.here hx rfl (hb hby at_133) rfl ?_
      show Steps p.tables e below (T11.setTop (mkF m 135 #[.val (.long p1), .second, .val (.int p2), .val (.int p3), .val (.int p4), .val (.int p5), .val (.int p6), .val (.ref b1), .val (.int (1 : Int32)), .val (.int (p6 &&& (3 : Int32))), .val (.long ((p1 + (1 : Int64)) + ((p3 &&& (65535 : Int32)).toInt64))), .second, .val (.long ((((p1 + (1 : Int64)) + ((p3 &&& (65535 : Int32)).toInt64)) + (1 : Int64)) + ((p4 &&& (65535 : Int32)).toInt64))), .second, .val (.long ((((((p1 + (1 : Int64)) + ((p3 &&& (65535 : Int32)).toInt64)) + (1 : Int64)) + ((p4 &&& (65535 : Int32)).toInt64)) + (1 : Int64)) + ((p5 &&& (65535 : Int32)).toInt64))), .second] [(.int (p6 &&& (3 : Int32)))])) _
      refine XS.iconst X11.here hx rfl (hb hby at_135) ?_
      exact kz
    by_cases hc136_12 : (p6 &&& (3 : Int32)) < (2 : Int32)
    · refine Goes.via (S' := T11.setTop (mkF m 215 #[.val (.long p1), .second, .val (.int p2), .val (.int p3), .val (.int p4), .val (.int p5), .val (.int p6), .val (.ref b1), .val (.int (1 : Int32)), .val (.int (p6 &&& (3 : Int32))), .val (.long ((p1 + (1 : Int64)) + ((p3 &&& (65535 : Int32)).toInt64))), .second, .val (.long ((((p1 + (1 : Int64)) + ((p3 &&& (65535 : Int32)).toInt64)) + (1 : Int64)) + ((p4 &&& (65535 : Int32)).toInt64))), .second, .val (.long ((((((p1 + (1 : Int64)) + ((p3 &&& (65535 : Int32)).toInt64)) + (1 : Int64)) + ((p4 &&& (65535 : Int32)).toInt64)) + (1 : Int64)) + ((p5 &&& (65535 : Int32)).toInt64))), .second] [(.int (p6 &&& (4 : Int32)))])) (fun tz kz => ?_) ?_
      · show Steps p.tables e below (T11.setTop (mkF m 136 #[.val (.long p1), .second, .val (.int p2), .val (.int p3), .val (.int p4), .val (.int p5), .val (.int p6), .val (.ref b1), .val (.int (1 : Int32)), .val (.int (p6 &&& (3 : Int32))), .val (.long ((p1 + (1 : Int64)) + ((p3 &&& (65535 : Int32)).toInt64))), .second, .val (.long ((((p1 + (1 : Int64)) + ((p3 &&& (65535 : Int32)).toInt64)) + (1 : Int64)) + ((p4 &&& (65535 : Int32)).toInt64))), .second, .val (.long ((((((p1 + (1 : Int64)) + ((p3 &&& (65535 : Int32)).toInt64)) + (1 : Int64)) + ((p4 &&& (65535 : Int32)).toInt64)) + (1 : Int64)) + ((p5 &&& (65535 : Int32)).toInt64))), .second] [(.int (2 : Int32)), (.int (p6 &&& (3 : Int32)))])) _
        refine XS.icmpYes X11.here hx rfl (pc0 := 136) (pc' := 172) rfl (hb hby at_136) rfl (tlt hc136_12).1 (by decide) (by decide) ?_
        show Steps p.tables e below (T11.setTop (mkF m 172 #[.val (.long p1), .second, .val (.int p2), .val (.int p3), .val (.int p4), .val (.int p5), .val (.int p6), .val (.ref b1), .val (.int (1 : Int32)), .val (.int (p6 &&& (3 : Int32))), .val (.long ((p1 + (1 : Int64)) + ((p3 &&& (65535 : Int32)).toInt64))), .second, .val (.long ((((p1 + (1 : Int64)) + ((p3 &&& (65535 : Int32)).toInt64)) + (1 : Int64)) + ((p4 &&& (65535 : Int32)).toInt64))), .second, .val (.long ((((((p1 + (1 : Int64)) + ((p3 &&& (65535 : Int32)).toInt64)) + (1 : Int64)) + ((p4 &&& (65535 : Int32)).toInt64)) + (1 : Int64)) + ((p5 &&& (65535 : Int32)).toInt64))), .second] [])) _
        refine XS.iload X11.here hx rfl (hb hby at_172) rfl ?_
        show Steps p.tables e below (T11.setTop (mkF m 174 #[.val (.long p1), .second, .val (.int p2), .val (.int p3), .val (.int p4), .val (.int p5), .val (.int p6), .val (.ref b1), .val (.int (1 : Int32)), .val (.int (p6 &&& (3 : Int32))), .val (.long ((p1 + (1 : Int64)) + ((p3 &&& (65535 : Int32)).toInt64))), .second, .val (.long ((((p1 + (1 : Int64)) + ((p3 &&& (65535 : Int32)).toInt64)) + (1 : Int64)) + ((p4 &&& (65535 : Int32)).toInt64))), .second, .val (.long ((((((p1 + (1 : Int64)) + ((p3 &&& (65535 : Int32)).toInt64)) + (1 : Int64)) + ((p4 &&& (65535 : Int32)).toInt64)) + (1 : Int64)) + ((p5 &&& (65535 : Int32)).toInt64))), .second] [(.int (p6 &&& (3 : Int32)))])) _
        refine XS.iconst X11.here hx rfl (hb hby at_174) ?_
        show Steps p.tables e below (T11.setTop (mkF m 175 #[.val (.long p1), .second, .val (.int p2), .val (.int p3), .val (.int p4), .val (.int p5), .val (.int p6), .val (.ref b1), .val (.int (1 : Int32)), .val (.int (p6 &&& (3 : Int32))), .val (.long ((p1 + (1 : Int64)) + ((p3 &&& (65535 : Int32)).toInt64))), .second, .val (.long ((((p1 + (1 : Int64)) + ((p3 &&& (65535 : Int32)).toInt64)) + (1 : Int64)) + ((p4 &&& (65535 : Int32)).toInt64))), .second, .val (.long ((((((p1 + (1 : Int64)) + ((p3 &&& (65535 : Int32)).toInt64)) + (1 : Int64)) + ((p4 &&& (65535 : Int32)).toInt64)) + (1 : Int64)) + ((p5 &&& (65535 : Int32)).toInt64))), .second] [(.int (3 : Int32)), (.int (p6 &&& (3 : Int32)))])) _
        refine XS.icmpYes X11.here hx rfl (pc0 := 175) (pc' := 211) rfl (hb hby at_175) rfl (tlt (own_lts hc136_12 (by decide))).1 (by decide) (by decide) ?_
        show Steps p.tables e below (T11.setTop (mkF m 211 #[.val (.long p1), .second, .val (.int p2), .val (.int p3), .val (.int p4), .val (.int p5), .val (.int p6), .val (.ref b1), .val (.int (1 : Int32)), .val (.int (p6 &&& (3 : Int32))), .val (.long ((p1 + (1 : Int64)) + ((p3 &&& (65535 : Int32)).toInt64))), .second, .val (.long ((((p1 + (1 : Int64)) + ((p3 &&& (65535 : Int32)).toInt64)) + (1 : Int64)) + ((p4 &&& (65535 : Int32)).toInt64))), .second, .val (.long ((((((p1 + (1 : Int64)) + ((p3 &&& (65535 : Int32)).toInt64)) + (1 : Int64)) + ((p4 &&& (65535 : Int32)).toInt64)) + (1 : Int64)) + ((p5 &&& (65535 : Int32)).toInt64))), .second] [])) _
        refine XS.iload X11.here hx rfl (hb hby at_211) rfl ?_
        show Steps p.tables e below (T11.setTop (mkF m 213 #[.val (.long p1), .second, .val (.int p2), .val (.int p3), .val (.int p4), .val (.int p5), .val (.int p6), .val (.ref b1), .val (.int (1 : Int32)), .val (.int (p6 &&& (3 : Int32))), .val (.long ((p1 + (1 : Int64)) + ((p3 &&& (65535 : Int32)).toInt64))), .second, .val (.long ((((p1 + (1 : Int64)) + ((p3 &&& (65535 : Int32)).toInt64)) + (1 : Int64)) + ((p4 &&& (65535 : Int32)).toInt64))), .second, .val (.long ((((((p1 + (1 : Int64)) + ((p3 &&& (65535 : Int32)).toInt64)) + (1 : Int64)) + ((p4 &&& (65535 : Int32)).toInt64)) + (1 : Int64)) + ((p5 &&& (65535 : Int32)).toInt64))), .second] [(.int p6)])) _
        refine XS.iconst X11.here hx rfl (hb hby at_213) ?_
        show Steps p.tables e below (T11.setTop (mkF m 214 #[.val (.long p1), .second, .val (.int p2), .val (.int p3), .val (.int p4), .val (.int p5), .val (.int p6), .val (.ref b1), .val (.int (1 : Int32)), .val (.int (p6 &&& (3 : Int32))), .val (.long ((p1 + (1 : Int64)) + ((p3 &&& (65535 : Int32)).toInt64))), .second, .val (.long ((((p1 + (1 : Int64)) + ((p3 &&& (65535 : Int32)).toInt64)) + (1 : Int64)) + ((p4 &&& (65535 : Int32)).toInt64))), .second, .val (.long ((((((p1 + (1 : Int64)) + ((p3 &&& (65535 : Int32)).toInt64)) + (1 : Int64)) + ((p4 &&& (65535 : Int32)).toInt64)) + (1 : Int64)) + ((p5 &&& (65535 : Int32)).toInt64))), .second] [(.int (4 : Int32)), (.int p6)])) _
        refine XS.iand X11.here hx rfl (hb hby at_214) rfl ?_
        exact kz
      by_cases hc215_13 : (p6 &&& (4 : Int32)) = (0 : Int32)
      · refine Goes.via (S' := T11.setTop (mkF m 262 #[.val (.long p1), .second, .val (.int p2), .val (.int p3), .val (.int p4), .val (.int p5), .val (.int p6), .val (.ref b1), .val (.int (1 : Int32)), .val (.int (p6 &&& (3 : Int32))), .val (.long ((p1 + (1 : Int64)) + ((p3 &&& (65535 : Int32)).toInt64))), .second, .val (.long ((((p1 + (1 : Int64)) + ((p3 &&& (65535 : Int32)).toInt64)) + (1 : Int64)) + ((p4 &&& (65535 : Int32)).toInt64))), .second, .val (.long ((((((p1 + (1 : Int64)) + ((p3 &&& (65535 : Int32)).toInt64)) + (1 : Int64)) + ((p4 &&& (65535 : Int32)).toInt64)) + (1 : Int64)) + ((p5 &&& (65535 : Int32)).toInt64))), .second] [(.int (1 : Int32))])) (fun tz kz => ?_) ?_
        · show Steps p.tables e below (T11.setTop (mkF m 215 #[.val (.long p1), .second, .val (.int p2), .val (.int p3), .val (.int p4), .val (.int p5), .val (.int p6), .val (.ref b1), .val (.int (1 : Int32)), .val (.int (p6 &&& (3 : Int32))), .val (.long ((p1 + (1 : Int64)) + ((p3 &&& (65535 : Int32)).toInt64))), .second, .val (.long ((((p1 + (1 : Int64)) + ((p3 &&& (65535 : Int32)).toInt64)) + (1 : Int64)) + ((p4 &&& (65535 : Int32)).toInt64))), .second, .val (.long ((((((p1 + (1 : Int64)) + ((p3 &&& (65535 : Int32)).toInt64)) + (1 : Int64)) + ((p4 &&& (65535 : Int32)).toInt64)) + (1 : Int64)) + ((p5 &&& (65535 : Int32)).toInt64))), .second] [(.int (p6 &&& (4 : Int32)))])) _
          refine XS.ifYes X11.here hx rfl (pc0 := 215) (pc' := 252) rfl (hb hby at_215) rfl ((if0 _ _).trans (teq hc215_13).1) (by decide) (by decide) ?_
          show Steps p.tables e below (T11.setTop (mkF m 252 #[.val (.long p1), .second, .val (.int p2), .val (.int p3), .val (.int p4), .val (.int p5), .val (.int p6), .val (.ref b1), .val (.int (1 : Int32)), .val (.int (p6 &&& (3 : Int32))), .val (.long ((p1 + (1 : Int64)) + ((p3 &&& (65535 : Int32)).toInt64))), .second, .val (.long ((((p1 + (1 : Int64)) + ((p3 &&& (65535 : Int32)).toInt64)) + (1 : Int64)) + ((p4 &&& (65535 : Int32)).toInt64))), .second, .val (.long ((((((p1 + (1 : Int64)) + ((p3 &&& (65535 : Int32)).toInt64)) + (1 : Int64)) + ((p4 &&& (65535 : Int32)).toInt64)) + (1 : Int64)) + ((p5 &&& (65535 : Int32)).toInt64))), .second] [])) _
          refine XS.iload X11.here hx rfl (hb hby at_252) rfl ?_
          show Steps p.tables e below (T11.setTop (mkF m 254 #[.val (.long p1), .second, .val (.int p2), .val (.int p3), .val (.int p4), .val (.int p5), .val (.int p6), .val (.ref b1), .val (.int (1 : Int32)), .val (.int (p6 &&& (3 : Int32))), .val (.long ((p1 + (1 : Int64)) + ((p3 &&& (65535 : Int32)).toInt64))), .second, .val (.long ((((p1 + (1 : Int64)) + ((p3 &&& (65535 : Int32)).toInt64)) + (1 : Int64)) + ((p4 &&& (65535 : Int32)).toInt64))), .second, .val (.long ((((((p1 + (1 : Int64)) + ((p3 &&& (65535 : Int32)).toInt64)) + (1 : Int64)) + ((p4 &&& (65535 : Int32)).toInt64)) + (1 : Int64)) + ((p5 &&& (65535 : Int32)).toInt64))), .second] [(.int (1 : Int32))])) _
          refine XS.ifNo X11.here hx rfl (hb hby at_254) rfl ((if0 _ _).trans (feq (by decide)).1) ?_
          show Steps p.tables e below (T11.setTop (mkF m 257 #[.val (.long p1), .second, .val (.int p2), .val (.int p3), .val (.int p4), .val (.int p5), .val (.int p6), .val (.ref b1), .val (.int (1 : Int32)), .val (.int (p6 &&& (3 : Int32))), .val (.long ((p1 + (1 : Int64)) + ((p3 &&& (65535 : Int32)).toInt64))), .second, .val (.long ((((p1 + (1 : Int64)) + ((p3 &&& (65535 : Int32)).toInt64)) + (1 : Int64)) + ((p4 &&& (65535 : Int32)).toInt64))), .second, .val (.long ((((((p1 + (1 : Int64)) + ((p3 &&& (65535 : Int32)).toInt64)) + (1 : Int64)) + ((p4 &&& (65535 : Int32)).toInt64)) + (1 : Int64)) + ((p5 &&& (65535 : Int32)).toInt64))), .second] [])) _
          refine XS.iconst X11.here hx rfl (hb hby at_257) ?_
          show Steps p.tables e below (T11.setTop (mkF m 258 #[.val (.long p1), .second, .val (.int p2), .val (.int p3), .val (.int p4), .val (.int p5), .val (.int p6), .val (.ref b1), .val (.int (1 : Int32)), .val (.int (p6 &&& (3 : Int32))), .val (.long ((p1 + (1 : Int64)) + ((p3 &&& (65535 : Int32)).toInt64))), .second, .val (.long ((((p1 + (1 : Int64)) + ((p3 &&& (65535 : Int32)).toInt64)) + (1 : Int64)) + ((p4 &&& (65535 : Int32)).toInt64))), .second, .val (.long ((((((p1 + (1 : Int64)) + ((p3 &&& (65535 : Int32)).toInt64)) + (1 : Int64)) + ((p4 &&& (65535 : Int32)).toInt64)) + (1 : Int64)) + ((p5 &&& (65535 : Int32)).toInt64))), .second] [(.int (1 : Int32))])) _
          refine XS.goto X11.here hx rfl (pc0 := 258) (pc' := 262) rfl (hb hby at_258) (by decide) (by decide) ?_
          exact kz
        exact Goes.retN X11 hx Bd.notSynchronized (t := .boolean) Bd.returns (by simp) (hb hby at_262) (Nat.le_of_ble_eq_true rfl) (Nat.le_of_ble_eq_true rfl) ⟨rfl, Nf11⟩
      · refine Goes.via (S' := T11.setTop (mkF m 229 #[.val (.long p1), .second, .val (.int p2), .val (.int p3), .val (.int p4), .val (.int p5), .val (.int p6), .val (.ref b1), .val (.int (1 : Int32)), .val (.int (p6 &&& (3 : Int32))), .val (.long ((p1 + (1 : Int64)) + ((p3 &&& (65535 : Int32)).toInt64))), .second, .val (.long ((((p1 + (1 : Int64)) + ((p3 &&& (65535 : Int32)).toInt64)) + (1 : Int64)) + ((p4 &&& (65535 : Int32)).toInt64))), .second, .val (.long ((((((p1 + (1 : Int64)) + ((p3 &&& (65535 : Int32)).toInt64)) + (1 : Int64)) + ((p4 &&& (65535 : Int32)).toInt64)) + (1 : Int64)) + ((p5 &&& (65535 : Int32)).toInt64))), .second] [(.double (FP.i2d (p6 >>> ((3 : Int32) &&& 31)))), (.long (((((((p1 + (1 : Int64)) + ((p3 &&& (65535 : Int32)).toInt64)) + (1 : Int64)) + ((p4 &&& (65535 : Int32)).toInt64)) + (1 : Int64)) + ((p5 &&& (65535 : Int32)).toInt64)) + (1 : Int64))), (.ref b1)])) (fun tz kz => ?_) ?_
        · show Steps p.tables e below (T11.setTop (mkF m 215 #[.val (.long p1), .second, .val (.int p2), .val (.int p3), .val (.int p4), .val (.int p5), .val (.int p6), .val (.ref b1), .val (.int (1 : Int32)), .val (.int (p6 &&& (3 : Int32))), .val (.long ((p1 + (1 : Int64)) + ((p3 &&& (65535 : Int32)).toInt64))), .second, .val (.long ((((p1 + (1 : Int64)) + ((p3 &&& (65535 : Int32)).toInt64)) + (1 : Int64)) + ((p4 &&& (65535 : Int32)).toInt64))), .second, .val (.long ((((((p1 + (1 : Int64)) + ((p3 &&& (65535 : Int32)).toInt64)) + (1 : Int64)) + ((p4 &&& (65535 : Int32)).toInt64)) + (1 : Int64)) + ((p5 &&& (65535 : Int32)).toInt64))), .second] [(.int (p6 &&& (4 : Int32)))])) _
          refine XS.ifNo X11.here hx rfl (hb hby at_215) rfl ((if0 _ _).trans (feq hc215_13).1) ?_
          show Steps p.tables e below (T11.setTop (mkF m 218 #[.val (.long p1), .second, .val (.int p2), .val (.int p3), .val (.int p4), .val (.int p5), .val (.int p6), .val (.ref b1), .val (.int (1 : Int32)), .val (.int (p6 &&& (3 : Int32))), .val (.long ((p1 + (1 : Int64)) + ((p3 &&& (65535 : Int32)).toInt64))), .second, .val (.long ((((p1 + (1 : Int64)) + ((p3 &&& (65535 : Int32)).toInt64)) + (1 : Int64)) + ((p4 &&& (65535 : Int32)).toInt64))), .second, .val (.long ((((((p1 + (1 : Int64)) + ((p3 &&& (65535 : Int32)).toInt64)) + (1 : Int64)) + ((p4 &&& (65535 : Int32)).toInt64)) + (1 : Int64)) + ((p5 &&& (65535 : Int32)).toInt64))), .second] [])) _
          refine XS.aload X11.here hx rfl (hb hby at_218) rfl rfl ?_
          show Steps p.tables e below (T11.setTop (mkF m 220 #[.val (.long p1), .second, .val (.int p2), .val (.int p3), .val (.int p4), .val (.int p5), .val (.int p6), .val (.ref b1), .val (.int (1 : Int32)), .val (.int (p6 &&& (3 : Int32))), .val (.long ((p1 + (1 : Int64)) + ((p3 &&& (65535 : Int32)).toInt64))), .second, .val (.long ((((p1 + (1 : Int64)) + ((p3 &&& (65535 : Int32)).toInt64)) + (1 : Int64)) + ((p4 &&& (65535 : Int32)).toInt64))), .second, .val (.long ((((((p1 + (1 : Int64)) + ((p3 &&& (65535 : Int32)).toInt64)) + (1 : Int64)) + ((p4 &&& (65535 : Int32)).toInt64)) + (1 : Int64)) + ((p5 &&& (65535 : Int32)).toInt64))), .second] [(.ref b1)])) _
          refine XS.lload X11.here hx rfl (hb hby at_220) rfl ?_
          show Steps p.tables e below (T11.setTop (mkF m 222 #[.val (.long p1), .second, .val (.int p2), .val (.int p3), .val (.int p4), .val (.int p5), .val (.int p6), .val (.ref b1), .val (.int (1 : Int32)), .val (.int (p6 &&& (3 : Int32))), .val (.long ((p1 + (1 : Int64)) + ((p3 &&& (65535 : Int32)).toInt64))), .second, .val (.long ((((p1 + (1 : Int64)) + ((p3 &&& (65535 : Int32)).toInt64)) + (1 : Int64)) + ((p4 &&& (65535 : Int32)).toInt64))), .second, .val (.long ((((((p1 + (1 : Int64)) + ((p3 &&& (65535 : Int32)).toInt64)) + (1 : Int64)) + ((p4 &&& (65535 : Int32)).toInt64)) + (1 : Int64)) + ((p5 &&& (65535 : Int32)).toInt64))), .second] [(.long ((((((p1 + (1 : Int64)) + ((p3 &&& (65535 : Int32)).toInt64)) + (1 : Int64)) + ((p4 &&& (65535 : Int32)).toInt64)) + (1 : Int64)) + ((p5 &&& (65535 : Int32)).toInt64))), (.ref b1)])) _
          refine XS.lconst X11.here hx rfl (hb hby at_222) ?_
          show Steps p.tables e below (T11.setTop (mkF m 223 #[.val (.long p1), .second, .val (.int p2), .val (.int p3), .val (.int p4), .val (.int p5), .val (.int p6), .val (.ref b1), .val (.int (1 : Int32)), .val (.int (p6 &&& (3 : Int32))), .val (.long ((p1 + (1 : Int64)) + ((p3 &&& (65535 : Int32)).toInt64))), .second, .val (.long ((((p1 + (1 : Int64)) + ((p3 &&& (65535 : Int32)).toInt64)) + (1 : Int64)) + ((p4 &&& (65535 : Int32)).toInt64))), .second, .val (.long ((((((p1 + (1 : Int64)) + ((p3 &&& (65535 : Int32)).toInt64)) + (1 : Int64)) + ((p4 &&& (65535 : Int32)).toInt64)) + (1 : Int64)) + ((p5 &&& (65535 : Int32)).toInt64))), .second] [(.long (1 : Int64)), (.long ((((((p1 + (1 : Int64)) + ((p3 &&& (65535 : Int32)).toInt64)) + (1 : Int64)) + ((p4 &&& (65535 : Int32)).toInt64)) + (1 : Int64)) + ((p5 &&& (65535 : Int32)).toInt64))), (.ref b1)])) _
          refine XS.ladd X11.here hx rfl (hb hby at_223) rfl ?_
          show Steps p.tables e below (T11.setTop (mkF m 224 #[.val (.long p1), .second, .val (.int p2), .val (.int p3), .val (.int p4), .val (.int p5), .val (.int p6), .val (.ref b1), .val (.int (1 : Int32)), .val (.int (p6 &&& (3 : Int32))), .val (.long ((p1 + (1 : Int64)) + ((p3 &&& (65535 : Int32)).toInt64))), .second, .val (.long ((((p1 + (1 : Int64)) + ((p3 &&& (65535 : Int32)).toInt64)) + (1 : Int64)) + ((p4 &&& (65535 : Int32)).toInt64))), .second, .val (.long ((((((p1 + (1 : Int64)) + ((p3 &&& (65535 : Int32)).toInt64)) + (1 : Int64)) + ((p4 &&& (65535 : Int32)).toInt64)) + (1 : Int64)) + ((p5 &&& (65535 : Int32)).toInt64))), .second] [(.long (((((((p1 + (1 : Int64)) + ((p3 &&& (65535 : Int32)).toInt64)) + (1 : Int64)) + ((p4 &&& (65535 : Int32)).toInt64)) + (1 : Int64)) + ((p5 &&& (65535 : Int32)).toInt64)) + (1 : Int64))), (.ref b1)])) _
          refine XS.iload X11.here hx rfl (hb hby at_224) rfl ?_
          show Steps p.tables e below (T11.setTop (mkF m 226 #[.val (.long p1), .second, .val (.int p2), .val (.int p3), .val (.int p4), .val (.int p5), .val (.int p6), .val (.ref b1), .val (.int (1 : Int32)), .val (.int (p6 &&& (3 : Int32))), .val (.long ((p1 + (1 : Int64)) + ((p3 &&& (65535 : Int32)).toInt64))), .second, .val (.long ((((p1 + (1 : Int64)) + ((p3 &&& (65535 : Int32)).toInt64)) + (1 : Int64)) + ((p4 &&& (65535 : Int32)).toInt64))), .second, .val (.long ((((((p1 + (1 : Int64)) + ((p3 &&& (65535 : Int32)).toInt64)) + (1 : Int64)) + ((p4 &&& (65535 : Int32)).toInt64)) + (1 : Int64)) + ((p5 &&& (65535 : Int32)).toInt64))), .second] [(.int p6), (.long (((((((p1 + (1 : Int64)) + ((p3 &&& (65535 : Int32)).toInt64)) + (1 : Int64)) + ((p4 &&& (65535 : Int32)).toInt64)) + (1 : Int64)) + ((p5 &&& (65535 : Int32)).toInt64)) + (1 : Int64))), (.ref b1)])) _
          refine XS.iconst X11.here hx rfl (hb hby at_226) ?_
          show Steps p.tables e below (T11.setTop (mkF m 227 #[.val (.long p1), .second, .val (.int p2), .val (.int p3), .val (.int p4), .val (.int p5), .val (.int p6), .val (.ref b1), .val (.int (1 : Int32)), .val (.int (p6 &&& (3 : Int32))), .val (.long ((p1 + (1 : Int64)) + ((p3 &&& (65535 : Int32)).toInt64))), .second, .val (.long ((((p1 + (1 : Int64)) + ((p3 &&& (65535 : Int32)).toInt64)) + (1 : Int64)) + ((p4 &&& (65535 : Int32)).toInt64))), .second, .val (.long ((((((p1 + (1 : Int64)) + ((p3 &&& (65535 : Int32)).toInt64)) + (1 : Int64)) + ((p4 &&& (65535 : Int32)).toInt64)) + (1 : Int64)) + ((p5 &&& (65535 : Int32)).toInt64))), .second] [(.int (3 : Int32)), (.int p6), (.long (((((((p1 + (1 : Int64)) + ((p3 &&& (65535 : Int32)).toInt64)) + (1 : Int64)) + ((p4 &&& (65535 : Int32)).toInt64)) + (1 : Int64)) + ((p5 &&& (65535 : Int32)).toInt64)) + (1 : Int64))), (.ref b1)])) _
          refine XS.ishr X11.here hx rfl (hb hby at_227) rfl ?_
          show Steps p.tables e below (T11.setTop (mkF m 228 #[.val (.long p1), .second, .val (.int p2), .val (.int p3), .val (.int p4), .val (.int p5), .val (.int p6), .val (.ref b1), .val (.int (1 : Int32)), .val (.int (p6 &&& (3 : Int32))), .val (.long ((p1 + (1 : Int64)) + ((p3 &&& (65535 : Int32)).toInt64))), .second, .val (.long ((((p1 + (1 : Int64)) + ((p3 &&& (65535 : Int32)).toInt64)) + (1 : Int64)) + ((p4 &&& (65535 : Int32)).toInt64))), .second, .val (.long ((((((p1 + (1 : Int64)) + ((p3 &&& (65535 : Int32)).toInt64)) + (1 : Int64)) + ((p4 &&& (65535 : Int32)).toInt64)) + (1 : Int64)) + ((p5 &&& (65535 : Int32)).toInt64))), .second] [(.int (p6 >>> ((3 : Int32) &&& 31))), (.long (((((((p1 + (1 : Int64)) + ((p3 &&& (65535 : Int32)).toInt64)) + (1 : Int64)) + ((p4 &&& (65535 : Int32)).toInt64)) + (1 : Int64)) + ((p5 &&& (65535 : Int32)).toInt64)) + (1 : Int64))), (.ref b1)])) _
          refine XS.i2dS X11.here hx rfl (hb hby at_228) rfl (v := FP.i2d (p6 >>> ((3 : Int32) &&& 31))) rfl ?_
          exact kz
        obtain ⟨cq14, kq14, q14a, q14b, q14c⟩ := isOf hZ e11 H10.1
        obtain ⟨_, _, ⟨T14, L14, k14, n14⟩, -, X14, ⟨Lc14, hQ14, l14, y14, z14⟩, st14⟩ := X11.virtualBack hx (y := (⟨"com/example/fewbits/fewbits/store/SegmentHull", "start", "(JD)V"⟩ : MethodName)) (z := (⟨"com/example/fewbits/fewbits/store/SegmentHull", "start", "(JD)V"⟩ : MethodName)) hown (mvT hZ (hw _ (List.mem_of_getElem? (i := 34) rfl))) (mvT hZ (hw _ (List.mem_of_getElem? (i := 35) rfl))) (notFace_of_selects (args := #[]) (mvT hZ (hw _ (List.mem_of_getElem? (i := 37) rfl)))) (mvT hZ (hw _ (List.mem_of_getElem? (i := 37) rfl))) (mvT hZ (hw _ (List.mem_of_getElem? (i := 36) rfl))) (by decide) (backOf (W := 0) (rm5 l Z a0 hw [] b1 (((((((p1 + (1 : Int64)) + ((p3 &&& (65535 : Int32)).toInt64)) + (1 : Int64)) + ((p4 &&& (65535 : Int32)).toInt64)) + (1 : Int64)) + ((p5 &&& (65535 : Int32)).toInt64)) + (1 : Int64)) (FP.i2d (p6 >>> ((3 : Int32) &&& 31))) u tu ru l1 tl rl ku1 ku2 kl1 kl2 [.long ((p1 + (1 : Int64)) + ((p3 &&& (65535 : Int32)).toInt64)), .long (0 : Int64), .long (0 : Int64)] [.double (FP.dsub (FP.i2d (p3 >>> ((16 : Int32) &&& 31))) (FP.i2d p2)), .double (0 : UInt64), .double (0 : UInt64)] 1 [.long ((p1 + (1 : Int64)) + ((p3 &&& (65535 : Int32)).toInt64)), .long (0 : Int64), .long (0 : Int64)] [.double (FP.dneg (FP.dsub (FP.i2d (p3 >>> ((16 : Int32) &&& 31))) (FP.i2d p2))), .double (0 : UInt64), .double (0 : UInt64)] 1 (FP.i2d p2) T10.heap n0 Z10 H10 O) hZ (hw _ (List.mem_of_getElem? (i := 38) rfl)) (hw _ (List.mem_of_getElem? (i := 2) rfl)) (by decide) (by decide)) q14a q14c (g := (mkF m 229 #[.val (.long p1), .second, .val (.int p2), .val (.int p3), .val (.int p4), .val (.int p5), .val (.int p6), .val (.ref b1), .val (.int (1 : Int32)), .val (.int (p6 &&& (3 : Int32))), .val (.long ((p1 + (1 : Int64)) + ((p3 &&& (65535 : Int32)).toInt64))), .second, .val (.long ((((p1 + (1 : Int64)) + ((p3 &&& (65535 : Int32)).toInt64)) + (1 : Int64)) + ((p4 &&& (65535 : Int32)).toInt64))), .second, .val (.long ((((((p1 + (1 : Int64)) + ((p3 &&& (65535 : Int32)).toInt64)) + (1 : Int64)) + ((p4 &&& (65535 : Int32)).toInt64)) + (1 : Int64)) + ((p5 &&& (65535 : Int32)).toInt64))), .second] [(.double (FP.i2d (p6 >>> ((3 : Int32) &&& 31)))), (.long (((((((p1 + (1 : Int64)) + ((p3 &&& (65535 : Int32)).toInt64)) + (1 : Int64)) + ((p4 &&& (65535 : Int32)).toInt64)) + (1 : Int64)) + ((p5 &&& (65535 : Int32)).toInt64)) + (1 : Int64))), (.ref b1)])) rfl (by rw [hml]; rfl) (Steps.refl _) (argsL := [(.long (((((((p1 + (1 : Int64)) + ((p3 &&& (65535 : Int32)).toInt64)) + (1 : Int64)) + ((p4 &&& (65535 : Int32)).toInt64)) + (1 : Int64)) + ((p5 &&& (65535 : Int32)).toInt64)) + (1 : Int64))), (.double (FP.i2d (p6 >>> ((3 : Int32) &&& 31))))]) (rest := []) (lenOf pd_3 rfl) rfl (by show 2 * 0 + _ ≤ _; exact Nat.le_of_eq rfl) (hb hby at_229) (fun _ _ => ⟨rfl, e11, (by decide : 7 + 0 ≤ _), (by decide : 74 + 0 ≤ _)⟩)
        dsimp only [Pt.U, Pt.locs, Pt.cells, Pt.slots] at X14 l14 y14 z14 st14 hQ14
        subst l14 y14 z14
        obtain ⟨rfl, N14, K14, H14⟩ := hQ14
        have Nf14 := Fr.app Nf11 N14
        refine Goes.via (S' := T14.setTop (mkF m 232 #[.val (.long p1), .second, .val (.int p2), .val (.int p3), .val (.int p4), .val (.int p5), .val (.int p6), .val (.ref b1), .val (.int (1 : Int32)), .val (.int (p6 &&& (3 : Int32))), .val (.long ((p1 + (1 : Int64)) + ((p3 &&& (65535 : Int32)).toInt64))), .second, .val (.long ((((p1 + (1 : Int64)) + ((p3 &&& (65535 : Int32)).toInt64)) + (1 : Int64)) + ((p4 &&& (65535 : Int32)).toInt64))), .second, .val (.long ((((((p1 + (1 : Int64)) + ((p3 &&& (65535 : Int32)).toInt64)) + (1 : Int64)) + ((p4 &&& (65535 : Int32)).toInt64)) + (1 : Int64)) + ((p5 &&& (65535 : Int32)).toInt64))), .second] [])) (fun _ kz => st14.trans kz) ?_
        have Z14 := Nat.le_trans Z10 K14.1
        refine Goes.via (S' := T14.setTop (mkF m 239 #[.val (.long p1), .second, .val (.int p2), .val (.int p3), .val (.int p4), .val (.int p5), .val (.int p6), .val (.ref b1), .val (.int (1 : Int32)), .val (.int (p6 &&& (3 : Int32))), .val (.long ((p1 + (1 : Int64)) + ((p3 &&& (65535 : Int32)).toInt64))), .second, .val (.long ((((p1 + (1 : Int64)) + ((p3 &&& (65535 : Int32)).toInt64)) + (1 : Int64)) + ((p4 &&& (65535 : Int32)).toInt64))), .second, .val (.long ((((((p1 + (1 : Int64)) + ((p3 &&& (65535 : Int32)).toInt64)) + (1 : Int64)) + ((p4 &&& (65535 : Int32)).toInt64)) + (1 : Int64)) + ((p5 &&& (65535 : Int32)).toInt64))), .second] [(.ref b1)])) (fun tz kz => ?_) ?_
        · show Steps p.tables e below (T14.setTop (mkF m 232 #[.val (.long p1), .second, .val (.int p2), .val (.int p3), .val (.int p4), .val (.int p5), .val (.int p6), .val (.ref b1), .val (.int (1 : Int32)), .val (.int (p6 &&& (3 : Int32))), .val (.long ((p1 + (1 : Int64)) + ((p3 &&& (65535 : Int32)).toInt64))), .second, .val (.long ((((p1 + (1 : Int64)) + ((p3 &&& (65535 : Int32)).toInt64)) + (1 : Int64)) + ((p4 &&& (65535 : Int32)).toInt64))), .second, .val (.long ((((((p1 + (1 : Int64)) + ((p3 &&& (65535 : Int32)).toInt64)) + (1 : Int64)) + ((p4 &&& (65535 : Int32)).toInt64)) + (1 : Int64)) + ((p5 &&& (65535 : Int32)).toInt64))), .second] [])) _
          refine XS.iload X14.here hx rfl (hb hby at_232) rfl ?_
          show Steps p.tables e below (T14.setTop (mkF m 234 #[.val (.long p1), .second, .val (.int p2), .val (.int p3), .val (.int p4), .val (.int p5), .val (.int p6), .val (.ref b1), .val (.int (1 : Int32)), .val (.int (p6 &&& (3 : Int32))), .val (.long ((p1 + (1 : Int64)) + ((p3 &&& (65535 : Int32)).toInt64))), .second, .val (.long ((((p1 + (1 : Int64)) + ((p3 &&& (65535 : Int32)).toInt64)) + (1 : Int64)) + ((p4 &&& (65535 : Int32)).toInt64))), .second, .val (.long ((((((p1 + (1 : Int64)) + ((p3 &&& (65535 : Int32)).toInt64)) + (1 : Int64)) + ((p4 &&& (65535 : Int32)).toInt64)) + (1 : Int64)) + ((p5 &&& (65535 : Int32)).toInt64))), .second] [(.int (1 : Int32))])) _
          refine XS.ifNo X14.here hx rfl (hb hby at_234) rfl ((if0 _ _).trans (feq (by decide)).1) ?_
          show Steps p.tables e below (T14.setTop (mkF m 237 #[.val (.long p1), .second, .val (.int p2), .val (.int p3), .val (.int p4), .val (.int p5), .val (.int p6), .val (.ref b1), .val (.int (1 : Int32)), .val (.int (p6 &&& (3 : Int32))), .val (.long ((p1 + (1 : Int64)) + ((p3 &&& (65535 : Int32)).toInt64))), .second, .val (.long ((((p1 + (1 : Int64)) + ((p3 &&& (65535 : Int32)).toInt64)) + (1 : Int64)) + ((p4 &&& (65535 : Int32)).toInt64))), .second, .val (.long ((((((p1 + (1 : Int64)) + ((p3 &&& (65535 : Int32)).toInt64)) + (1 : Int64)) + ((p4 &&& (65535 : Int32)).toInt64)) + (1 : Int64)) + ((p5 &&& (65535 : Int32)).toInt64))), .second] [])) _
          refine XS.aload X14.here hx rfl (hb hby at_237) rfl rfl ?_
          exact kz
        obtain ⟨cq15, kq15, q15a, q15b, q15c⟩ := isOf hZ rfl H14.1
        obtain ⟨_, _, ⟨T15, L15, k15, n15⟩, -, X15, ⟨Lc15, hQ15, l15, y15, z15⟩, st15⟩ := X14.virtualBack hx (y := (⟨"com/example/fewbits/fewbits/store/SegmentHull", "isFull", "()Z"⟩ : MethodName)) (z := (⟨"com/example/fewbits/fewbits/store/SegmentHull", "isFull", "()Z"⟩ : MethodName)) hown (mvT hZ (hw _ (List.mem_of_getElem? (i := 26) rfl))) (mvT hZ (hw _ (List.mem_of_getElem? (i := 27) rfl))) (notFace_of_selects (args := #[]) (mvT hZ (hw _ (List.mem_of_getElem? (i := 29) rfl)))) (mvT hZ (hw _ (List.mem_of_getElem? (i := 29) rfl))) (mvT hZ (hw _ (List.mem_of_getElem? (i := 28) rfl))) (by decide) (backOf (W := 0) (rm4 l Z a0 hw [] b1 u tu ru l1 tl rl ku1 ku2 kl1 kl2 [.long ((p1 + (1 : Int64)) + ((p3 &&& (65535 : Int32)).toInt64)), .long (0 : Int64), .long (0 : Int64)] [.double (FP.dsub (FP.i2d (p3 >>> ((16 : Int32) &&& 31))) (FP.i2d p2)), .double (0 : UInt64), .double (0 : UInt64)] 0 [.long ((p1 + (1 : Int64)) + ((p3 &&& (65535 : Int32)).toInt64)), .long (0 : Int64), .long (0 : Int64)] [.double (FP.dneg (FP.dsub (FP.i2d (p3 >>> ((16 : Int32) &&& 31))) (FP.i2d p2))), .double (0 : UInt64), .double (0 : UInt64)] 0 (FP.i2d (p6 >>> ((3 : Int32) &&& 31))) T14.heap n0 Z14 H14 (by decide) (by decide)) hZ (hw _ (List.mem_of_getElem? (i := 30) rfl)) (hw _ (List.mem_of_getElem? (i := 2) rfl)) (by decide) (by decide)) q15a q15c (g := (mkF m 239 #[.val (.long p1), .second, .val (.int p2), .val (.int p3), .val (.int p4), .val (.int p5), .val (.int p6), .val (.ref b1), .val (.int (1 : Int32)), .val (.int (p6 &&& (3 : Int32))), .val (.long ((p1 + (1 : Int64)) + ((p3 &&& (65535 : Int32)).toInt64))), .second, .val (.long ((((p1 + (1 : Int64)) + ((p3 &&& (65535 : Int32)).toInt64)) + (1 : Int64)) + ((p4 &&& (65535 : Int32)).toInt64))), .second, .val (.long ((((((p1 + (1 : Int64)) + ((p3 &&& (65535 : Int32)).toInt64)) + (1 : Int64)) + ((p4 &&& (65535 : Int32)).toInt64)) + (1 : Int64)) + ((p5 &&& (65535 : Int32)).toInt64))), .second] [(.ref b1)])) rfl (by rw [hml]; rfl) (Steps.refl _) (argsL := []) (rest := []) (lenOf pd_4 rfl) rfl (by show 2 * 0 + _ ≤ _; exact Nat.le_of_eq rfl) (hb hby at_239) (fun _ _ => ⟨rfl, rfl, (by decide : 7 + 0 ≤ _), (by decide : 74 + 0 ≤ _)⟩)
        dsimp only [Pt.U, Pt.locs, Pt.cells, Pt.slots] at X15 l15 y15 z15 st15 hQ15
        subst l15 y15 z15
        obtain ⟨rfl, N15, e15⟩ := hQ15
        have Nf15 := Fr.app Nf14 N15
        refine Goes.via (S' := T15.setTop (mkF m 242 #[.val (.long p1), .second, .val (.int p2), .val (.int p3), .val (.int p4), .val (.int p5), .val (.int p6), .val (.ref b1), .val (.int (1 : Int32)), .val (.int (p6 &&& (3 : Int32))), .val (.long ((p1 + (1 : Int64)) + ((p3 &&& (65535 : Int32)).toInt64))), .second, .val (.long ((((p1 + (1 : Int64)) + ((p3 &&& (65535 : Int32)).toInt64)) + (1 : Int64)) + ((p4 &&& (65535 : Int32)).toInt64))), .second, .val (.long ((((((p1 + (1 : Int64)) + ((p3 &&& (65535 : Int32)).toInt64)) + (1 : Int64)) + ((p4 &&& (65535 : Int32)).toInt64)) + (1 : Int64)) + ((p5 &&& (65535 : Int32)).toInt64))), .second] [(.int (0 : Int32))])) (fun _ kz => st15.trans kz) ?_
        refine Goes.via (S' := T15.setTop (mkF m 262 #[.val (.long p1), .second, .val (.int p2), .val (.int p3), .val (.int p4), .val (.int p5), .val (.int p6), .val (.ref b1), .val (.int (1 : Int32)), .val (.int (p6 &&& (3 : Int32))), .val (.long ((p1 + (1 : Int64)) + ((p3 &&& (65535 : Int32)).toInt64))), .second, .val (.long ((((p1 + (1 : Int64)) + ((p3 &&& (65535 : Int32)).toInt64)) + (1 : Int64)) + ((p4 &&& (65535 : Int32)).toInt64))), .second, .val (.long ((((((p1 + (1 : Int64)) + ((p3 &&& (65535 : Int32)).toInt64)) + (1 : Int64)) + ((p4 &&& (65535 : Int32)).toInt64)) + (1 : Int64)) + ((p5 &&& (65535 : Int32)).toInt64))), .second] [(.int (1 : Int32))])) (fun tz kz => ?_) ?_
        · show Steps p.tables e below (T15.setTop (mkF m 242 #[.val (.long p1), .second, .val (.int p2), .val (.int p3), .val (.int p4), .val (.int p5), .val (.int p6), .val (.ref b1), .val (.int (1 : Int32)), .val (.int (p6 &&& (3 : Int32))), .val (.long ((p1 + (1 : Int64)) + ((p3 &&& (65535 : Int32)).toInt64))), .second, .val (.long ((((p1 + (1 : Int64)) + ((p3 &&& (65535 : Int32)).toInt64)) + (1 : Int64)) + ((p4 &&& (65535 : Int32)).toInt64))), .second, .val (.long ((((((p1 + (1 : Int64)) + ((p3 &&& (65535 : Int32)).toInt64)) + (1 : Int64)) + ((p4 &&& (65535 : Int32)).toInt64)) + (1 : Int64)) + ((p5 &&& (65535 : Int32)).toInt64))), .second] [(.int (0 : Int32))])) _
          refine XS.ifNo X15.here hx rfl (hb hby at_242) rfl ((if0 _ _).trans (teq (by decide)).2) ?_
          show Steps p.tables e below (T15.setTop (mkF m 245 #[.val (.long p1), .second, .val (.int p2), .val (.int p3), .val (.int p4), .val (.int p5), .val (.int p6), .val (.ref b1), .val (.int (1 : Int32)), .val (.int (p6 &&& (3 : Int32))), .val (.long ((p1 + (1 : Int64)) + ((p3 &&& (65535 : Int32)).toInt64))), .second, .val (.long ((((p1 + (1 : Int64)) + ((p3 &&& (65535 : Int32)).toInt64)) + (1 : Int64)) + ((p4 &&& (65535 : Int32)).toInt64))), .second, .val (.long ((((((p1 + (1 : Int64)) + ((p3 &&& (65535 : Int32)).toInt64)) + (1 : Int64)) + ((p4 &&& (65535 : Int32)).toInt64)) + (1 : Int64)) + ((p5 &&& (65535 : Int32)).toInt64))), .second] [])) _
          refine XS.iconst X15.here hx rfl (hb hby at_245) ?_
          show Steps p.tables e below (T15.setTop (mkF m 246 #[.val (.long p1), .second, .val (.int p2), .val (.int p3), .val (.int p4), .val (.int p5), .val (.int p6), .val (.ref b1), .val (.int (1 : Int32)), .val (.int (p6 &&& (3 : Int32))), .val (.long ((p1 + (1 : Int64)) + ((p3 &&& (65535 : Int32)).toInt64))), .second, .val (.long ((((p1 + (1 : Int64)) + ((p3 &&& (65535 : Int32)).toInt64)) + (1 : Int64)) + ((p4 &&& (65535 : Int32)).toInt64))), .second, .val (.long ((((((p1 + (1 : Int64)) + ((p3 &&& (65535 : Int32)).toInt64)) + (1 : Int64)) + ((p4 &&& (65535 : Int32)).toInt64)) + (1 : Int64)) + ((p5 &&& (65535 : Int32)).toInt64))), .second] [(.int (1 : Int32))])) _
          refine XS.goto X15.here hx rfl (pc0 := 246) (pc' := 250) rfl (hb hby at_246) (by decide) (by decide) ?_
          show Steps p.tables e below (T15.setTop (mkF m 250 #[.val (.long p1), .second, .val (.int p2), .val (.int p3), .val (.int p4), .val (.int p5), .val (.int p6), .val (.ref b1), .val (.int (1 : Int32)), .val (.int (p6 &&& (3 : Int32))), .val (.long ((p1 + (1 : Int64)) + ((p3 &&& (65535 : Int32)).toInt64))), .second, .val (.long ((((p1 + (1 : Int64)) + ((p3 &&& (65535 : Int32)).toInt64)) + (1 : Int64)) + ((p4 &&& (65535 : Int32)).toInt64))), .second, .val (.long ((((((p1 + (1 : Int64)) + ((p3 &&& (65535 : Int32)).toInt64)) + (1 : Int64)) + ((p4 &&& (65535 : Int32)).toInt64)) + (1 : Int64)) + ((p5 &&& (65535 : Int32)).toInt64))), .second] [(.int (1 : Int32))])) _
          refine XS.istore X15.here hx rfl (hb hby at_250) rfl (l' := #[.val (.long p1), .second, .val (.int p2), .val (.int p3), .val (.int p4), .val (.int p5), .val (.int p6), .val (.ref b1), .val (.int (1 : Int32)), .val (.int (p6 &&& (3 : Int32))), .val (.long ((p1 + (1 : Int64)) + ((p3 &&& (65535 : Int32)).toInt64))), .second, .val (.long ((((p1 + (1 : Int64)) + ((p3 &&& (65535 : Int32)).toInt64)) + (1 : Int64)) + ((p4 &&& (65535 : Int32)).toInt64))), .second, .val (.long ((((((p1 + (1 : Int64)) + ((p3 &&& (65535 : Int32)).toInt64)) + (1 : Int64)) + ((p4 &&& (65535 : Int32)).toInt64)) + (1 : Int64)) + ((p5 &&& (65535 : Int32)).toInt64))), .second]) rfl ?_
          show Steps p.tables e below (T15.setTop (mkF m 252 #[.val (.long p1), .second, .val (.int p2), .val (.int p3), .val (.int p4), .val (.int p5), .val (.int p6), .val (.ref b1), .val (.int (1 : Int32)), .val (.int (p6 &&& (3 : Int32))), .val (.long ((p1 + (1 : Int64)) + ((p3 &&& (65535 : Int32)).toInt64))), .second, .val (.long ((((p1 + (1 : Int64)) + ((p3 &&& (65535 : Int32)).toInt64)) + (1 : Int64)) + ((p4 &&& (65535 : Int32)).toInt64))), .second, .val (.long ((((((p1 + (1 : Int64)) + ((p3 &&& (65535 : Int32)).toInt64)) + (1 : Int64)) + ((p4 &&& (65535 : Int32)).toInt64)) + (1 : Int64)) + ((p5 &&& (65535 : Int32)).toInt64))), .second] [])) _
          refine XS.iload X15.here hx rfl (hb hby at_252) rfl ?_
          show Steps p.tables e below (T15.setTop (mkF m 254 #[.val (.long p1), .second, .val (.int p2), .val (.int p3), .val (.int p4), .val (.int p5), .val (.int p6), .val (.ref b1), .val (.int (1 : Int32)), .val (.int (p6 &&& (3 : Int32))), .val (.long ((p1 + (1 : Int64)) + ((p3 &&& (65535 : Int32)).toInt64))), .second, .val (.long ((((p1 + (1 : Int64)) + ((p3 &&& (65535 : Int32)).toInt64)) + (1 : Int64)) + ((p4 &&& (65535 : Int32)).toInt64))), .second, .val (.long ((((((p1 + (1 : Int64)) + ((p3 &&& (65535 : Int32)).toInt64)) + (1 : Int64)) + ((p4 &&& (65535 : Int32)).toInt64)) + (1 : Int64)) + ((p5 &&& (65535 : Int32)).toInt64))), .second] [(.int (1 : Int32))])) _
          refine XS.ifNo X15.here hx rfl (hb hby at_254) rfl ((if0 _ _).trans (feq (by decide)).1) ?_
          show Steps p.tables e below (T15.setTop (mkF m 257 #[.val (.long p1), .second, .val (.int p2), .val (.int p3), .val (.int p4), .val (.int p5), .val (.int p6), .val (.ref b1), .val (.int (1 : Int32)), .val (.int (p6 &&& (3 : Int32))), .val (.long ((p1 + (1 : Int64)) + ((p3 &&& (65535 : Int32)).toInt64))), .second, .val (.long ((((p1 + (1 : Int64)) + ((p3 &&& (65535 : Int32)).toInt64)) + (1 : Int64)) + ((p4 &&& (65535 : Int32)).toInt64))), .second, .val (.long ((((((p1 + (1 : Int64)) + ((p3 &&& (65535 : Int32)).toInt64)) + (1 : Int64)) + ((p4 &&& (65535 : Int32)).toInt64)) + (1 : Int64)) + ((p5 &&& (65535 : Int32)).toInt64))), .second] [])) _
          refine XS.iconst X15.here hx rfl (hb hby at_257) ?_
          show Steps p.tables e below (T15.setTop (mkF m 258 #[.val (.long p1), .second, .val (.int p2), .val (.int p3), .val (.int p4), .val (.int p5), .val (.int p6), .val (.ref b1), .val (.int (1 : Int32)), .val (.int (p6 &&& (3 : Int32))), .val (.long ((p1 + (1 : Int64)) + ((p3 &&& (65535 : Int32)).toInt64))), .second, .val (.long ((((p1 + (1 : Int64)) + ((p3 &&& (65535 : Int32)).toInt64)) + (1 : Int64)) + ((p4 &&& (65535 : Int32)).toInt64))), .second, .val (.long ((((((p1 + (1 : Int64)) + ((p3 &&& (65535 : Int32)).toInt64)) + (1 : Int64)) + ((p4 &&& (65535 : Int32)).toInt64)) + (1 : Int64)) + ((p5 &&& (65535 : Int32)).toInt64))), .second] [(.int (1 : Int32))])) _
          refine XS.goto X15.here hx rfl (pc0 := 258) (pc' := 262) rfl (hb hby at_258) (by decide) (by decide) ?_
          exact kz
        exact Goes.retN X15 hx Bd.notSynchronized (t := .boolean) Bd.returns (by simp) (hb hby at_262) (Nat.le_of_ble_eq_true rfl) (Nat.le_of_ble_eq_true rfl) ⟨rfl, Nf15⟩
    · refine Goes.via (S' := T11.setTop (mkF m 149 #[.val (.long p1), .second, .val (.int p2), .val (.int p3), .val (.int p4), .val (.int p5), .val (.int p6), .val (.ref b1), .val (.int (1 : Int32)), .val (.int (p6 &&& (3 : Int32))), .val (.long ((p1 + (1 : Int64)) + ((p3 &&& (65535 : Int32)).toInt64))), .second, .val (.long ((((p1 + (1 : Int64)) + ((p3 &&& (65535 : Int32)).toInt64)) + (1 : Int64)) + ((p4 &&& (65535 : Int32)).toInt64))), .second, .val (.long ((((((p1 + (1 : Int64)) + ((p3 &&& (65535 : Int32)).toInt64)) + (1 : Int64)) + ((p4 &&& (65535 : Int32)).toInt64)) + (1 : Int64)) + ((p5 &&& (65535 : Int32)).toInt64))), .second] [(.double (FP.i2d (p4 >>> ((16 : Int32) &&& 31)))), (.long ((((p1 + (1 : Int64)) + ((p3 &&& (65535 : Int32)).toInt64)) + (1 : Int64)) + ((p4 &&& (65535 : Int32)).toInt64))), (.ref b1)])) (fun tz kz => ?_) ?_
      · show Steps p.tables e below (T11.setTop (mkF m 136 #[.val (.long p1), .second, .val (.int p2), .val (.int p3), .val (.int p4), .val (.int p5), .val (.int p6), .val (.ref b1), .val (.int (1 : Int32)), .val (.int (p6 &&& (3 : Int32))), .val (.long ((p1 + (1 : Int64)) + ((p3 &&& (65535 : Int32)).toInt64))), .second, .val (.long ((((p1 + (1 : Int64)) + ((p3 &&& (65535 : Int32)).toInt64)) + (1 : Int64)) + ((p4 &&& (65535 : Int32)).toInt64))), .second, .val (.long ((((((p1 + (1 : Int64)) + ((p3 &&& (65535 : Int32)).toInt64)) + (1 : Int64)) + ((p4 &&& (65535 : Int32)).toInt64)) + (1 : Int64)) + ((p5 &&& (65535 : Int32)).toInt64))), .second] [(.int (2 : Int32)), (.int (p6 &&& (3 : Int32)))])) _
        refine XS.icmpNo X11.here hx rfl (hb hby at_136) rfl (flt hc136_12).1 ?_
        show Steps p.tables e below (T11.setTop (mkF m 139 #[.val (.long p1), .second, .val (.int p2), .val (.int p3), .val (.int p4), .val (.int p5), .val (.int p6), .val (.ref b1), .val (.int (1 : Int32)), .val (.int (p6 &&& (3 : Int32))), .val (.long ((p1 + (1 : Int64)) + ((p3 &&& (65535 : Int32)).toInt64))), .second, .val (.long ((((p1 + (1 : Int64)) + ((p3 &&& (65535 : Int32)).toInt64)) + (1 : Int64)) + ((p4 &&& (65535 : Int32)).toInt64))), .second, .val (.long ((((((p1 + (1 : Int64)) + ((p3 &&& (65535 : Int32)).toInt64)) + (1 : Int64)) + ((p4 &&& (65535 : Int32)).toInt64)) + (1 : Int64)) + ((p5 &&& (65535 : Int32)).toInt64))), .second] [])) _
        refine XS.aload X11.here hx rfl (hb hby at_139) rfl rfl ?_
        show Steps p.tables e below (T11.setTop (mkF m 141 #[.val (.long p1), .second, .val (.int p2), .val (.int p3), .val (.int p4), .val (.int p5), .val (.int p6), .val (.ref b1), .val (.int (1 : Int32)), .val (.int (p6 &&& (3 : Int32))), .val (.long ((p1 + (1 : Int64)) + ((p3 &&& (65535 : Int32)).toInt64))), .second, .val (.long ((((p1 + (1 : Int64)) + ((p3 &&& (65535 : Int32)).toInt64)) + (1 : Int64)) + ((p4 &&& (65535 : Int32)).toInt64))), .second, .val (.long ((((((p1 + (1 : Int64)) + ((p3 &&& (65535 : Int32)).toInt64)) + (1 : Int64)) + ((p4 &&& (65535 : Int32)).toInt64)) + (1 : Int64)) + ((p5 &&& (65535 : Int32)).toInt64))), .second] [(.ref b1)])) _
        refine XS.lload X11.here hx rfl (hb hby at_141) rfl ?_
        show Steps p.tables e below (T11.setTop (mkF m 143 #[.val (.long p1), .second, .val (.int p2), .val (.int p3), .val (.int p4), .val (.int p5), .val (.int p6), .val (.ref b1), .val (.int (1 : Int32)), .val (.int (p6 &&& (3 : Int32))), .val (.long ((p1 + (1 : Int64)) + ((p3 &&& (65535 : Int32)).toInt64))), .second, .val (.long ((((p1 + (1 : Int64)) + ((p3 &&& (65535 : Int32)).toInt64)) + (1 : Int64)) + ((p4 &&& (65535 : Int32)).toInt64))), .second, .val (.long ((((((p1 + (1 : Int64)) + ((p3 &&& (65535 : Int32)).toInt64)) + (1 : Int64)) + ((p4 &&& (65535 : Int32)).toInt64)) + (1 : Int64)) + ((p5 &&& (65535 : Int32)).toInt64))), .second] [(.long ((((p1 + (1 : Int64)) + ((p3 &&& (65535 : Int32)).toInt64)) + (1 : Int64)) + ((p4 &&& (65535 : Int32)).toInt64))), (.ref b1)])) _
        refine XS.iload X11.here hx rfl (hb hby at_143) rfl ?_
        show Steps p.tables e below (T11.setTop (mkF m 145 #[.val (.long p1), .second, .val (.int p2), .val (.int p3), .val (.int p4), .val (.int p5), .val (.int p6), .val (.ref b1), .val (.int (1 : Int32)), .val (.int (p6 &&& (3 : Int32))), .val (.long ((p1 + (1 : Int64)) + ((p3 &&& (65535 : Int32)).toInt64))), .second, .val (.long ((((p1 + (1 : Int64)) + ((p3 &&& (65535 : Int32)).toInt64)) + (1 : Int64)) + ((p4 &&& (65535 : Int32)).toInt64))), .second, .val (.long ((((((p1 + (1 : Int64)) + ((p3 &&& (65535 : Int32)).toInt64)) + (1 : Int64)) + ((p4 &&& (65535 : Int32)).toInt64)) + (1 : Int64)) + ((p5 &&& (65535 : Int32)).toInt64))), .second] [(.int p4), (.long ((((p1 + (1 : Int64)) + ((p3 &&& (65535 : Int32)).toInt64)) + (1 : Int64)) + ((p4 &&& (65535 : Int32)).toInt64))), (.ref b1)])) _
        refine XS.bipush X11.here hx rfl (hb hby at_145) ?_
        show Steps p.tables e below (T11.setTop (mkF m 147 #[.val (.long p1), .second, .val (.int p2), .val (.int p3), .val (.int p4), .val (.int p5), .val (.int p6), .val (.ref b1), .val (.int (1 : Int32)), .val (.int (p6 &&& (3 : Int32))), .val (.long ((p1 + (1 : Int64)) + ((p3 &&& (65535 : Int32)).toInt64))), .second, .val (.long ((((p1 + (1 : Int64)) + ((p3 &&& (65535 : Int32)).toInt64)) + (1 : Int64)) + ((p4 &&& (65535 : Int32)).toInt64))), .second, .val (.long ((((((p1 + (1 : Int64)) + ((p3 &&& (65535 : Int32)).toInt64)) + (1 : Int64)) + ((p4 &&& (65535 : Int32)).toInt64)) + (1 : Int64)) + ((p5 &&& (65535 : Int32)).toInt64))), .second] [(.int (16 : Int32)), (.int p4), (.long ((((p1 + (1 : Int64)) + ((p3 &&& (65535 : Int32)).toInt64)) + (1 : Int64)) + ((p4 &&& (65535 : Int32)).toInt64))), (.ref b1)])) _
        refine XS.ishr X11.here hx rfl (hb hby at_147) rfl ?_
        show Steps p.tables e below (T11.setTop (mkF m 148 #[.val (.long p1), .second, .val (.int p2), .val (.int p3), .val (.int p4), .val (.int p5), .val (.int p6), .val (.ref b1), .val (.int (1 : Int32)), .val (.int (p6 &&& (3 : Int32))), .val (.long ((p1 + (1 : Int64)) + ((p3 &&& (65535 : Int32)).toInt64))), .second, .val (.long ((((p1 + (1 : Int64)) + ((p3 &&& (65535 : Int32)).toInt64)) + (1 : Int64)) + ((p4 &&& (65535 : Int32)).toInt64))), .second, .val (.long ((((((p1 + (1 : Int64)) + ((p3 &&& (65535 : Int32)).toInt64)) + (1 : Int64)) + ((p4 &&& (65535 : Int32)).toInt64)) + (1 : Int64)) + ((p5 &&& (65535 : Int32)).toInt64))), .second] [(.int (p4 >>> ((16 : Int32) &&& 31))), (.long ((((p1 + (1 : Int64)) + ((p3 &&& (65535 : Int32)).toInt64)) + (1 : Int64)) + ((p4 &&& (65535 : Int32)).toInt64))), (.ref b1)])) _
        refine XS.i2dS X11.here hx rfl (hb hby at_148) rfl (v := FP.i2d (p4 >>> ((16 : Int32) &&& 31))) rfl ?_
        exact kz
      obtain ⟨cq16, kq16, q16a, q16b, q16c⟩ := isOf hZ e11 H10.1
      obtain ⟨_, _, ⟨T16, L16, k16, n16⟩, -, X16, ⟨Lc16, hQ16, l16, y16, z16⟩, st16⟩ := X11.virtualBack hx (y := (⟨"com/example/fewbits/fewbits/store/SegmentHull", "add", "(JD)V"⟩ : MethodName)) (z := (⟨"com/example/fewbits/fewbits/store/SegmentHull", "add", "(JD)V"⟩ : MethodName)) hown (mvT hZ (hw _ (List.mem_of_getElem? (i := 50) rfl))) (mvT hZ (hw _ (List.mem_of_getElem? (i := 51) rfl))) (notFace_of_selects (args := #[]) (mvT hZ (hw _ (List.mem_of_getElem? (i := 53) rfl)))) (mvT hZ (hw _ (List.mem_of_getElem? (i := 53) rfl))) (mvT hZ (hw _ (List.mem_of_getElem? (i := 52) rfl))) (by decide) (backOf (W := 0) (rm7_1 l Z a0 hw [] b1 ((((p1 + (1 : Int64)) + ((p3 &&& (65535 : Int32)).toInt64)) + (1 : Int64)) + ((p4 &&& (65535 : Int32)).toInt64)) (FP.i2d (p4 >>> ((16 : Int32) &&& 31))) u tu ru l1 tl rl ku1 ku2 kl1 kl2 ((p1 + (1 : Int64)) + ((p3 &&& (65535 : Int32)).toInt64)) (0 : Int64) (0 : Int64) (FP.dsub (FP.i2d (p3 >>> ((16 : Int32) &&& 31))) (FP.i2d p2)) (0 : UInt64) (0 : UInt64) (FP.dneg (FP.dsub (FP.i2d (p3 >>> ((16 : Int32) &&& 31))) (FP.i2d p2))) (0 : UInt64) (0 : UInt64) (FP.i2d p2) T10.heap n0 Z10 H10 O (own_rise _ _)) hZ (hw _ (List.mem_of_getElem? (i := 54) rfl)) (hw _ (List.mem_of_getElem? (i := 2) rfl)) (by decide) (by decide)) q16a q16c (g := (mkF m 149 #[.val (.long p1), .second, .val (.int p2), .val (.int p3), .val (.int p4), .val (.int p5), .val (.int p6), .val (.ref b1), .val (.int (1 : Int32)), .val (.int (p6 &&& (3 : Int32))), .val (.long ((p1 + (1 : Int64)) + ((p3 &&& (65535 : Int32)).toInt64))), .second, .val (.long ((((p1 + (1 : Int64)) + ((p3 &&& (65535 : Int32)).toInt64)) + (1 : Int64)) + ((p4 &&& (65535 : Int32)).toInt64))), .second, .val (.long ((((((p1 + (1 : Int64)) + ((p3 &&& (65535 : Int32)).toInt64)) + (1 : Int64)) + ((p4 &&& (65535 : Int32)).toInt64)) + (1 : Int64)) + ((p5 &&& (65535 : Int32)).toInt64))), .second] [(.double (FP.i2d (p4 >>> ((16 : Int32) &&& 31)))), (.long ((((p1 + (1 : Int64)) + ((p3 &&& (65535 : Int32)).toInt64)) + (1 : Int64)) + ((p4 &&& (65535 : Int32)).toInt64))), (.ref b1)])) rfl (by rw [hml]; rfl) (Steps.refl _) (argsL := [(.long ((((p1 + (1 : Int64)) + ((p3 &&& (65535 : Int32)).toInt64)) + (1 : Int64)) + ((p4 &&& (65535 : Int32)).toInt64))), (.double (FP.i2d (p4 >>> ((16 : Int32) &&& 31))))]) (rest := []) (lenOf pd_3 rfl) rfl (by show 2 * 0 + _ ≤ _; exact Nat.le_of_eq rfl) (hb hby at_149) (fun _ _ => ⟨rfl, e11, (by decide : 7 + 0 ≤ _), (by decide : 74 + 0 ≤ _)⟩)
      dsimp only [Pt.U, Pt.locs, Pt.cells, Pt.slots] at X16 l16 y16 z16 st16 hQ16
      subst l16 y16 z16
      obtain ⟨rfl, N16, K16, H16⟩ := hQ16
      have Nf16 := Fr.app Nf11 N16
      refine Goes.via (S' := T16.setTop (mkF m 152 #[.val (.long p1), .second, .val (.int p2), .val (.int p3), .val (.int p4), .val (.int p5), .val (.int p6), .val (.ref b1), .val (.int (1 : Int32)), .val (.int (p6 &&& (3 : Int32))), .val (.long ((p1 + (1 : Int64)) + ((p3 &&& (65535 : Int32)).toInt64))), .second, .val (.long ((((p1 + (1 : Int64)) + ((p3 &&& (65535 : Int32)).toInt64)) + (1 : Int64)) + ((p4 &&& (65535 : Int32)).toInt64))), .second, .val (.long ((((((p1 + (1 : Int64)) + ((p3 &&& (65535 : Int32)).toInt64)) + (1 : Int64)) + ((p4 &&& (65535 : Int32)).toInt64)) + (1 : Int64)) + ((p5 &&& (65535 : Int32)).toInt64))), .second] [])) (fun _ kz => st16.trans kz) ?_
      have Z16 := Nat.le_trans Z10 K16.1
      refine Goes.via (S' := T16.setTop (mkF m 159 #[.val (.long p1), .second, .val (.int p2), .val (.int p3), .val (.int p4), .val (.int p5), .val (.int p6), .val (.ref b1), .val (.int (1 : Int32)), .val (.int (p6 &&& (3 : Int32))), .val (.long ((p1 + (1 : Int64)) + ((p3 &&& (65535 : Int32)).toInt64))), .second, .val (.long ((((p1 + (1 : Int64)) + ((p3 &&& (65535 : Int32)).toInt64)) + (1 : Int64)) + ((p4 &&& (65535 : Int32)).toInt64))), .second, .val (.long ((((((p1 + (1 : Int64)) + ((p3 &&& (65535 : Int32)).toInt64)) + (1 : Int64)) + ((p4 &&& (65535 : Int32)).toInt64)) + (1 : Int64)) + ((p5 &&& (65535 : Int32)).toInt64))), .second] [(.ref b1)])) (fun tz kz => ?_) ?_
      · show Steps p.tables e below (T16.setTop (mkF m 152 #[.val (.long p1), .second, .val (.int p2), .val (.int p3), .val (.int p4), .val (.int p5), .val (.int p6), .val (.ref b1), .val (.int (1 : Int32)), .val (.int (p6 &&& (3 : Int32))), .val (.long ((p1 + (1 : Int64)) + ((p3 &&& (65535 : Int32)).toInt64))), .second, .val (.long ((((p1 + (1 : Int64)) + ((p3 &&& (65535 : Int32)).toInt64)) + (1 : Int64)) + ((p4 &&& (65535 : Int32)).toInt64))), .second, .val (.long ((((((p1 + (1 : Int64)) + ((p3 &&& (65535 : Int32)).toInt64)) + (1 : Int64)) + ((p4 &&& (65535 : Int32)).toInt64)) + (1 : Int64)) + ((p5 &&& (65535 : Int32)).toInt64))), .second] [])) _
        refine XS.iload X16.here hx rfl (hb hby at_152) rfl ?_
        show Steps p.tables e below (T16.setTop (mkF m 154 #[.val (.long p1), .second, .val (.int p2), .val (.int p3), .val (.int p4), .val (.int p5), .val (.int p6), .val (.ref b1), .val (.int (1 : Int32)), .val (.int (p6 &&& (3 : Int32))), .val (.long ((p1 + (1 : Int64)) + ((p3 &&& (65535 : Int32)).toInt64))), .second, .val (.long ((((p1 + (1 : Int64)) + ((p3 &&& (65535 : Int32)).toInt64)) + (1 : Int64)) + ((p4 &&& (65535 : Int32)).toInt64))), .second, .val (.long ((((((p1 + (1 : Int64)) + ((p3 &&& (65535 : Int32)).toInt64)) + (1 : Int64)) + ((p4 &&& (65535 : Int32)).toInt64)) + (1 : Int64)) + ((p5 &&& (65535 : Int32)).toInt64))), .second] [(.int (1 : Int32))])) _
        refine XS.ifNo X16.here hx rfl (hb hby at_154) rfl ((if0 _ _).trans (feq (by decide)).1) ?_
        show Steps p.tables e below (T16.setTop (mkF m 157 #[.val (.long p1), .second, .val (.int p2), .val (.int p3), .val (.int p4), .val (.int p5), .val (.int p6), .val (.ref b1), .val (.int (1 : Int32)), .val (.int (p6 &&& (3 : Int32))), .val (.long ((p1 + (1 : Int64)) + ((p3 &&& (65535 : Int32)).toInt64))), .second, .val (.long ((((p1 + (1 : Int64)) + ((p3 &&& (65535 : Int32)).toInt64)) + (1 : Int64)) + ((p4 &&& (65535 : Int32)).toInt64))), .second, .val (.long ((((((p1 + (1 : Int64)) + ((p3 &&& (65535 : Int32)).toInt64)) + (1 : Int64)) + ((p4 &&& (65535 : Int32)).toInt64)) + (1 : Int64)) + ((p5 &&& (65535 : Int32)).toInt64))), .second] [])) _
        refine XS.aload X16.here hx rfl (hb hby at_157) rfl rfl ?_
        exact kz
      obtain ⟨cq17, kq17, q17a, q17b, q17c⟩ := isOf hZ rfl H16.1
      obtain ⟨_, _, ⟨T17, L17, k17, n17⟩, -, X17, ⟨Lc17, hQ17, l17, y17, z17⟩, st17⟩ := X16.virtualBack hx (y := (⟨"com/example/fewbits/fewbits/store/SegmentHull", "isFull", "()Z"⟩ : MethodName)) (z := (⟨"com/example/fewbits/fewbits/store/SegmentHull", "isFull", "()Z"⟩ : MethodName)) hown (mvT hZ (hw _ (List.mem_of_getElem? (i := 26) rfl))) (mvT hZ (hw _ (List.mem_of_getElem? (i := 27) rfl))) (notFace_of_selects (args := #[]) (mvT hZ (hw _ (List.mem_of_getElem? (i := 29) rfl)))) (mvT hZ (hw _ (List.mem_of_getElem? (i := 29) rfl))) (mvT hZ (hw _ (List.mem_of_getElem? (i := 28) rfl))) (by decide) (backOf (W := 0) (rm4 l Z a0 hw [] b1 u tu ru l1 tl rl ku1 ku2 kl1 kl2 [.long ((p1 + (1 : Int64)) + ((p3 &&& (65535 : Int32)).toInt64)), .long ((((p1 + (1 : Int64)) + ((p3 &&& (65535 : Int32)).toInt64)) + (1 : Int64)) + ((p4 &&& (65535 : Int32)).toInt64)), .long (0 : Int64)] [.double (FP.dsub (FP.i2d (p3 >>> ((16 : Int32) &&& 31))) (FP.i2d p2)), .double (FP.dsub (FP.i2d (p4 >>> ((16 : Int32) &&& 31))) (FP.i2d p2)), .double (0 : UInt64)] 2 [.long ((p1 + (1 : Int64)) + ((p3 &&& (65535 : Int32)).toInt64)), .long ((((p1 + (1 : Int64)) + ((p3 &&& (65535 : Int32)).toInt64)) + (1 : Int64)) + ((p4 &&& (65535 : Int32)).toInt64)), .long (0 : Int64)] [.double (FP.dneg (FP.dsub (FP.i2d (p3 >>> ((16 : Int32) &&& 31))) (FP.i2d p2))), .double (FP.dneg (FP.dsub (FP.i2d (p4 >>> ((16 : Int32) &&& 31))) (FP.i2d p2))), .double (0 : UInt64)] 2 (FP.i2d p2) T16.heap n0 Z16 H16 (by decide) (by decide)) hZ (hw _ (List.mem_of_getElem? (i := 30) rfl)) (hw _ (List.mem_of_getElem? (i := 2) rfl)) (by decide) (by decide)) q17a q17c (g := (mkF m 159 #[.val (.long p1), .second, .val (.int p2), .val (.int p3), .val (.int p4), .val (.int p5), .val (.int p6), .val (.ref b1), .val (.int (1 : Int32)), .val (.int (p6 &&& (3 : Int32))), .val (.long ((p1 + (1 : Int64)) + ((p3 &&& (65535 : Int32)).toInt64))), .second, .val (.long ((((p1 + (1 : Int64)) + ((p3 &&& (65535 : Int32)).toInt64)) + (1 : Int64)) + ((p4 &&& (65535 : Int32)).toInt64))), .second, .val (.long ((((((p1 + (1 : Int64)) + ((p3 &&& (65535 : Int32)).toInt64)) + (1 : Int64)) + ((p4 &&& (65535 : Int32)).toInt64)) + (1 : Int64)) + ((p5 &&& (65535 : Int32)).toInt64))), .second] [(.ref b1)])) rfl (by rw [hml]; rfl) (Steps.refl _) (argsL := []) (rest := []) (lenOf pd_4 rfl) rfl (by show 2 * 0 + _ ≤ _; exact Nat.le_of_eq rfl) (hb hby at_159) (fun _ _ => ⟨rfl, rfl, (by decide : 7 + 0 ≤ _), (by decide : 74 + 0 ≤ _)⟩)
      dsimp only [Pt.U, Pt.locs, Pt.cells, Pt.slots] at X17 l17 y17 z17 st17 hQ17
      subst l17 y17 z17
      obtain ⟨rfl, N17, e17⟩ := hQ17
      have Nf17 := Fr.app Nf16 N17
      refine Goes.via (S' := T17.setTop (mkF m 162 #[.val (.long p1), .second, .val (.int p2), .val (.int p3), .val (.int p4), .val (.int p5), .val (.int p6), .val (.ref b1), .val (.int (1 : Int32)), .val (.int (p6 &&& (3 : Int32))), .val (.long ((p1 + (1 : Int64)) + ((p3 &&& (65535 : Int32)).toInt64))), .second, .val (.long ((((p1 + (1 : Int64)) + ((p3 &&& (65535 : Int32)).toInt64)) + (1 : Int64)) + ((p4 &&& (65535 : Int32)).toInt64))), .second, .val (.long ((((((p1 + (1 : Int64)) + ((p3 &&& (65535 : Int32)).toInt64)) + (1 : Int64)) + ((p4 &&& (65535 : Int32)).toInt64)) + (1 : Int64)) + ((p5 &&& (65535 : Int32)).toInt64))), .second] [(.int (0 : Int32))])) (fun _ kz => st17.trans kz) ?_
      refine Goes.via (S' := T17.setTop (mkF m 175 #[.val (.long p1), .second, .val (.int p2), .val (.int p3), .val (.int p4), .val (.int p5), .val (.int p6), .val (.ref b1), .val (.int (1 : Int32)), .val (.int (p6 &&& (3 : Int32))), .val (.long ((p1 + (1 : Int64)) + ((p3 &&& (65535 : Int32)).toInt64))), .second, .val (.long ((((p1 + (1 : Int64)) + ((p3 &&& (65535 : Int32)).toInt64)) + (1 : Int64)) + ((p4 &&& (65535 : Int32)).toInt64))), .second, .val (.long ((((((p1 + (1 : Int64)) + ((p3 &&& (65535 : Int32)).toInt64)) + (1 : Int64)) + ((p4 &&& (65535 : Int32)).toInt64)) + (1 : Int64)) + ((p5 &&& (65535 : Int32)).toInt64))), .second] [(.int (3 : Int32)), (.int (p6 &&& (3 : Int32)))])) (fun tz kz => ?_) ?_
      · show Steps p.tables e below (T17.setTop (mkF m 162 #[.val (.long p1), .second, .val (.int p2), .val (.int p3), .val (.int p4), .val (.int p5), .val (.int p6), .val (.ref b1), .val (.int (1 : Int32)), .val (.int (p6 &&& (3 : Int32))), .val (.long ((p1 + (1 : Int64)) + ((p3 &&& (65535 : Int32)).toInt64))), .second, .val (.long ((((p1 + (1 : Int64)) + ((p3 &&& (65535 : Int32)).toInt64)) + (1 : Int64)) + ((p4 &&& (65535 : Int32)).toInt64))), .second, .val (.long ((((((p1 + (1 : Int64)) + ((p3 &&& (65535 : Int32)).toInt64)) + (1 : Int64)) + ((p4 &&& (65535 : Int32)).toInt64)) + (1 : Int64)) + ((p5 &&& (65535 : Int32)).toInt64))), .second] [(.int (0 : Int32))])) _
        refine XS.ifNo X17.here hx rfl (hb hby at_162) rfl ((if0 _ _).trans (teq (by decide)).2) ?_
        show Steps p.tables e below (T17.setTop (mkF m 165 #[.val (.long p1), .second, .val (.int p2), .val (.int p3), .val (.int p4), .val (.int p5), .val (.int p6), .val (.ref b1), .val (.int (1 : Int32)), .val (.int (p6 &&& (3 : Int32))), .val (.long ((p1 + (1 : Int64)) + ((p3 &&& (65535 : Int32)).toInt64))), .second, .val (.long ((((p1 + (1 : Int64)) + ((p3 &&& (65535 : Int32)).toInt64)) + (1 : Int64)) + ((p4 &&& (65535 : Int32)).toInt64))), .second, .val (.long ((((((p1 + (1 : Int64)) + ((p3 &&& (65535 : Int32)).toInt64)) + (1 : Int64)) + ((p4 &&& (65535 : Int32)).toInt64)) + (1 : Int64)) + ((p5 &&& (65535 : Int32)).toInt64))), .second] [])) _
        refine XS.iconst X17.here hx rfl (hb hby at_165) ?_
        show Steps p.tables e below (T17.setTop (mkF m 166 #[.val (.long p1), .second, .val (.int p2), .val (.int p3), .val (.int p4), .val (.int p5), .val (.int p6), .val (.ref b1), .val (.int (1 : Int32)), .val (.int (p6 &&& (3 : Int32))), .val (.long ((p1 + (1 : Int64)) + ((p3 &&& (65535 : Int32)).toInt64))), .second, .val (.long ((((p1 + (1 : Int64)) + ((p3 &&& (65535 : Int32)).toInt64)) + (1 : Int64)) + ((p4 &&& (65535 : Int32)).toInt64))), .second, .val (.long ((((((p1 + (1 : Int64)) + ((p3 &&& (65535 : Int32)).toInt64)) + (1 : Int64)) + ((p4 &&& (65535 : Int32)).toInt64)) + (1 : Int64)) + ((p5 &&& (65535 : Int32)).toInt64))), .second] [(.int (1 : Int32))])) _
        refine XS.goto X17.here hx rfl (pc0 := 166) (pc' := 170) rfl (hb hby at_166) (by decide) (by decide) ?_
        show Steps p.tables e below (T17.setTop (mkF m 170 #[.val (.long p1), .second, .val (.int p2), .val (.int p3), .val (.int p4), .val (.int p5), .val (.int p6), .val (.ref b1), .val (.int (1 : Int32)), .val (.int (p6 &&& (3 : Int32))), .val (.long ((p1 + (1 : Int64)) + ((p3 &&& (65535 : Int32)).toInt64))), .second, .val (.long ((((p1 + (1 : Int64)) + ((p3 &&& (65535 : Int32)).toInt64)) + (1 : Int64)) + ((p4 &&& (65535 : Int32)).toInt64))), .second, .val (.long ((((((p1 + (1 : Int64)) + ((p3 &&& (65535 : Int32)).toInt64)) + (1 : Int64)) + ((p4 &&& (65535 : Int32)).toInt64)) + (1 : Int64)) + ((p5 &&& (65535 : Int32)).toInt64))), .second] [(.int (1 : Int32))])) _
        refine XS.istore X17.here hx rfl (hb hby at_170) rfl (l' := #[.val (.long p1), .second, .val (.int p2), .val (.int p3), .val (.int p4), .val (.int p5), .val (.int p6), .val (.ref b1), .val (.int (1 : Int32)), .val (.int (p6 &&& (3 : Int32))), .val (.long ((p1 + (1 : Int64)) + ((p3 &&& (65535 : Int32)).toInt64))), .second, .val (.long ((((p1 + (1 : Int64)) + ((p3 &&& (65535 : Int32)).toInt64)) + (1 : Int64)) + ((p4 &&& (65535 : Int32)).toInt64))), .second, .val (.long ((((((p1 + (1 : Int64)) + ((p3 &&& (65535 : Int32)).toInt64)) + (1 : Int64)) + ((p4 &&& (65535 : Int32)).toInt64)) + (1 : Int64)) + ((p5 &&& (65535 : Int32)).toInt64))), .second]) rfl ?_
        show Steps p.tables e below (T17.setTop (mkF m 172 #[.val (.long p1), .second, .val (.int p2), .val (.int p3), .val (.int p4), .val (.int p5), .val (.int p6), .val (.ref b1), .val (.int (1 : Int32)), .val (.int (p6 &&& (3 : Int32))), .val (.long ((p1 + (1 : Int64)) + ((p3 &&& (65535 : Int32)).toInt64))), .second, .val (.long ((((p1 + (1 : Int64)) + ((p3 &&& (65535 : Int32)).toInt64)) + (1 : Int64)) + ((p4 &&& (65535 : Int32)).toInt64))), .second, .val (.long ((((((p1 + (1 : Int64)) + ((p3 &&& (65535 : Int32)).toInt64)) + (1 : Int64)) + ((p4 &&& (65535 : Int32)).toInt64)) + (1 : Int64)) + ((p5 &&& (65535 : Int32)).toInt64))), .second] [])) _
        refine XS.iload X17.here hx rfl (hb hby at_172) rfl ?_
        show Steps p.tables e below (T17.setTop (mkF m 174 #[.val (.long p1), .second, .val (.int p2), .val (.int p3), .val (.int p4), .val (.int p5), .val (.int p6), .val (.ref b1), .val (.int (1 : Int32)), .val (.int (p6 &&& (3 : Int32))), .val (.long ((p1 + (1 : Int64)) + ((p3 &&& (65535 : Int32)).toInt64))), .second, .val (.long ((((p1 + (1 : Int64)) + ((p3 &&& (65535 : Int32)).toInt64)) + (1 : Int64)) + ((p4 &&& (65535 : Int32)).toInt64))), .second, .val (.long ((((((p1 + (1 : Int64)) + ((p3 &&& (65535 : Int32)).toInt64)) + (1 : Int64)) + ((p4 &&& (65535 : Int32)).toInt64)) + (1 : Int64)) + ((p5 &&& (65535 : Int32)).toInt64))), .second] [(.int (p6 &&& (3 : Int32)))])) _
        refine XS.iconst X17.here hx rfl (hb hby at_174) ?_
        exact kz
      by_cases hc175_18 : (p6 &&& (3 : Int32)) < (3 : Int32)
      · refine Goes.via (S' := T17.setTop (mkF m 215 #[.val (.long p1), .second, .val (.int p2), .val (.int p3), .val (.int p4), .val (.int p5), .val (.int p6), .val (.ref b1), .val (.int (1 : Int32)), .val (.int (p6 &&& (3 : Int32))), .val (.long ((p1 + (1 : Int64)) + ((p3 &&& (65535 : Int32)).toInt64))), .second, .val (.long ((((p1 + (1 : Int64)) + ((p3 &&& (65535 : Int32)).toInt64)) + (1 : Int64)) + ((p4 &&& (65535 : Int32)).toInt64))), .second, .val (.long ((((((p1 + (1 : Int64)) + ((p3 &&& (65535 : Int32)).toInt64)) + (1 : Int64)) + ((p4 &&& (65535 : Int32)).toInt64)) + (1 : Int64)) + ((p5 &&& (65535 : Int32)).toInt64))), .second] [(.int (p6 &&& (4 : Int32)))])) (fun tz kz => ?_) ?_
        · show Steps p.tables e below (T17.setTop (mkF m 175 #[.val (.long p1), .second, .val (.int p2), .val (.int p3), .val (.int p4), .val (.int p5), .val (.int p6), .val (.ref b1), .val (.int (1 : Int32)), .val (.int (p6 &&& (3 : Int32))), .val (.long ((p1 + (1 : Int64)) + ((p3 &&& (65535 : Int32)).toInt64))), .second, .val (.long ((((p1 + (1 : Int64)) + ((p3 &&& (65535 : Int32)).toInt64)) + (1 : Int64)) + ((p4 &&& (65535 : Int32)).toInt64))), .second, .val (.long ((((((p1 + (1 : Int64)) + ((p3 &&& (65535 : Int32)).toInt64)) + (1 : Int64)) + ((p4 &&& (65535 : Int32)).toInt64)) + (1 : Int64)) + ((p5 &&& (65535 : Int32)).toInt64))), .second] [(.int (3 : Int32)), (.int (p6 &&& (3 : Int32)))])) _
          refine XS.icmpYes X17.here hx rfl (pc0 := 175) (pc' := 211) rfl (hb hby at_175) rfl (tlt hc175_18).1 (by decide) (by decide) ?_
          show Steps p.tables e below (T17.setTop (mkF m 211 #[.val (.long p1), .second, .val (.int p2), .val (.int p3), .val (.int p4), .val (.int p5), .val (.int p6), .val (.ref b1), .val (.int (1 : Int32)), .val (.int (p6 &&& (3 : Int32))), .val (.long ((p1 + (1 : Int64)) + ((p3 &&& (65535 : Int32)).toInt64))), .second, .val (.long ((((p1 + (1 : Int64)) + ((p3 &&& (65535 : Int32)).toInt64)) + (1 : Int64)) + ((p4 &&& (65535 : Int32)).toInt64))), .second, .val (.long ((((((p1 + (1 : Int64)) + ((p3 &&& (65535 : Int32)).toInt64)) + (1 : Int64)) + ((p4 &&& (65535 : Int32)).toInt64)) + (1 : Int64)) + ((p5 &&& (65535 : Int32)).toInt64))), .second] [])) _
          refine XS.iload X17.here hx rfl (hb hby at_211) rfl ?_
          show Steps p.tables e below (T17.setTop (mkF m 213 #[.val (.long p1), .second, .val (.int p2), .val (.int p3), .val (.int p4), .val (.int p5), .val (.int p6), .val (.ref b1), .val (.int (1 : Int32)), .val (.int (p6 &&& (3 : Int32))), .val (.long ((p1 + (1 : Int64)) + ((p3 &&& (65535 : Int32)).toInt64))), .second, .val (.long ((((p1 + (1 : Int64)) + ((p3 &&& (65535 : Int32)).toInt64)) + (1 : Int64)) + ((p4 &&& (65535 : Int32)).toInt64))), .second, .val (.long ((((((p1 + (1 : Int64)) + ((p3 &&& (65535 : Int32)).toInt64)) + (1 : Int64)) + ((p4 &&& (65535 : Int32)).toInt64)) + (1 : Int64)) + ((p5 &&& (65535 : Int32)).toInt64))), .second] [(.int p6)])) _
          refine XS.iconst X17.here hx rfl (hb hby at_213) ?_
          show Steps p.tables e below (T17.setTop (mkF m 214 #[.val (.long p1), .second, .val (.int p2), .val (.int p3), .val (.int p4), .val (.int p5), .val (.int p6), .val (.ref b1), .val (.int (1 : Int32)), .val (.int (p6 &&& (3 : Int32))), .val (.long ((p1 + (1 : Int64)) + ((p3 &&& (65535 : Int32)).toInt64))), .second, .val (.long ((((p1 + (1 : Int64)) + ((p3 &&& (65535 : Int32)).toInt64)) + (1 : Int64)) + ((p4 &&& (65535 : Int32)).toInt64))), .second, .val (.long ((((((p1 + (1 : Int64)) + ((p3 &&& (65535 : Int32)).toInt64)) + (1 : Int64)) + ((p4 &&& (65535 : Int32)).toInt64)) + (1 : Int64)) + ((p5 &&& (65535 : Int32)).toInt64))), .second] [(.int (4 : Int32)), (.int p6)])) _
          refine XS.iand X17.here hx rfl (hb hby at_214) rfl ?_
          exact kz
        by_cases hc215_19 : (p6 &&& (4 : Int32)) = (0 : Int32)
        · refine Goes.via (S' := T17.setTop (mkF m 262 #[.val (.long p1), .second, .val (.int p2), .val (.int p3), .val (.int p4), .val (.int p5), .val (.int p6), .val (.ref b1), .val (.int (1 : Int32)), .val (.int (p6 &&& (3 : Int32))), .val (.long ((p1 + (1 : Int64)) + ((p3 &&& (65535 : Int32)).toInt64))), .second, .val (.long ((((p1 + (1 : Int64)) + ((p3 &&& (65535 : Int32)).toInt64)) + (1 : Int64)) + ((p4 &&& (65535 : Int32)).toInt64))), .second, .val (.long ((((((p1 + (1 : Int64)) + ((p3 &&& (65535 : Int32)).toInt64)) + (1 : Int64)) + ((p4 &&& (65535 : Int32)).toInt64)) + (1 : Int64)) + ((p5 &&& (65535 : Int32)).toInt64))), .second] [(.int (1 : Int32))])) (fun tz kz => ?_) ?_
          · show Steps p.tables e below (T17.setTop (mkF m 215 #[.val (.long p1), .second, .val (.int p2), .val (.int p3), .val (.int p4), .val (.int p5), .val (.int p6), .val (.ref b1), .val (.int (1 : Int32)), .val (.int (p6 &&& (3 : Int32))), .val (.long ((p1 + (1 : Int64)) + ((p3 &&& (65535 : Int32)).toInt64))), .second, .val (.long ((((p1 + (1 : Int64)) + ((p3 &&& (65535 : Int32)).toInt64)) + (1 : Int64)) + ((p4 &&& (65535 : Int32)).toInt64))), .second, .val (.long ((((((p1 + (1 : Int64)) + ((p3 &&& (65535 : Int32)).toInt64)) + (1 : Int64)) + ((p4 &&& (65535 : Int32)).toInt64)) + (1 : Int64)) + ((p5 &&& (65535 : Int32)).toInt64))), .second] [(.int (p6 &&& (4 : Int32)))])) _
            refine XS.ifYes X17.here hx rfl (pc0 := 215) (pc' := 252) rfl (hb hby at_215) rfl ((if0 _ _).trans (teq hc215_19).1) (by decide) (by decide) ?_
            show Steps p.tables e below (T17.setTop (mkF m 252 #[.val (.long p1), .second, .val (.int p2), .val (.int p3), .val (.int p4), .val (.int p5), .val (.int p6), .val (.ref b1), .val (.int (1 : Int32)), .val (.int (p6 &&& (3 : Int32))), .val (.long ((p1 + (1 : Int64)) + ((p3 &&& (65535 : Int32)).toInt64))), .second, .val (.long ((((p1 + (1 : Int64)) + ((p3 &&& (65535 : Int32)).toInt64)) + (1 : Int64)) + ((p4 &&& (65535 : Int32)).toInt64))), .second, .val (.long ((((((p1 + (1 : Int64)) + ((p3 &&& (65535 : Int32)).toInt64)) + (1 : Int64)) + ((p4 &&& (65535 : Int32)).toInt64)) + (1 : Int64)) + ((p5 &&& (65535 : Int32)).toInt64))), .second] [])) _
            refine XS.iload X17.here hx rfl (hb hby at_252) rfl ?_
            show Steps p.tables e below (T17.setTop (mkF m 254 #[.val (.long p1), .second, .val (.int p2), .val (.int p3), .val (.int p4), .val (.int p5), .val (.int p6), .val (.ref b1), .val (.int (1 : Int32)), .val (.int (p6 &&& (3 : Int32))), .val (.long ((p1 + (1 : Int64)) + ((p3 &&& (65535 : Int32)).toInt64))), .second, .val (.long ((((p1 + (1 : Int64)) + ((p3 &&& (65535 : Int32)).toInt64)) + (1 : Int64)) + ((p4 &&& (65535 : Int32)).toInt64))), .second, .val (.long ((((((p1 + (1 : Int64)) + ((p3 &&& (65535 : Int32)).toInt64)) + (1 : Int64)) + ((p4 &&& (65535 : Int32)).toInt64)) + (1 : Int64)) + ((p5 &&& (65535 : Int32)).toInt64))), .second] [(.int (1 : Int32))])) _
            refine XS.ifNo X17.here hx rfl (hb hby at_254) rfl ((if0 _ _).trans (feq (by decide)).1) ?_
            show Steps p.tables e below (T17.setTop (mkF m 257 #[.val (.long p1), .second, .val (.int p2), .val (.int p3), .val (.int p4), .val (.int p5), .val (.int p6), .val (.ref b1), .val (.int (1 : Int32)), .val (.int (p6 &&& (3 : Int32))), .val (.long ((p1 + (1 : Int64)) + ((p3 &&& (65535 : Int32)).toInt64))), .second, .val (.long ((((p1 + (1 : Int64)) + ((p3 &&& (65535 : Int32)).toInt64)) + (1 : Int64)) + ((p4 &&& (65535 : Int32)).toInt64))), .second, .val (.long ((((((p1 + (1 : Int64)) + ((p3 &&& (65535 : Int32)).toInt64)) + (1 : Int64)) + ((p4 &&& (65535 : Int32)).toInt64)) + (1 : Int64)) + ((p5 &&& (65535 : Int32)).toInt64))), .second] [])) _
            refine XS.iconst X17.here hx rfl (hb hby at_257) ?_
            show Steps p.tables e below (T17.setTop (mkF m 258 #[.val (.long p1), .second, .val (.int p2), .val (.int p3), .val (.int p4), .val (.int p5), .val (.int p6), .val (.ref b1), .val (.int (1 : Int32)), .val (.int (p6 &&& (3 : Int32))), .val (.long ((p1 + (1 : Int64)) + ((p3 &&& (65535 : Int32)).toInt64))), .second, .val (.long ((((p1 + (1 : Int64)) + ((p3 &&& (65535 : Int32)).toInt64)) + (1 : Int64)) + ((p4 &&& (65535 : Int32)).toInt64))), .second, .val (.long ((((((p1 + (1 : Int64)) + ((p3 &&& (65535 : Int32)).toInt64)) + (1 : Int64)) + ((p4 &&& (65535 : Int32)).toInt64)) + (1 : Int64)) + ((p5 &&& (65535 : Int32)).toInt64))), .second] [(.int (1 : Int32))])) _
            refine XS.goto X17.here hx rfl (pc0 := 258) (pc' := 262) rfl (hb hby at_258) (by decide) (by decide) ?_
            exact kz
          exact Goes.retN X17 hx Bd.notSynchronized (t := .boolean) Bd.returns (by simp) (hb hby at_262) (Nat.le_of_ble_eq_true rfl) (Nat.le_of_ble_eq_true rfl) ⟨rfl, Nf17⟩
        · refine Goes.via (S' := T17.setTop (mkF m 229 #[.val (.long p1), .second, .val (.int p2), .val (.int p3), .val (.int p4), .val (.int p5), .val (.int p6), .val (.ref b1), .val (.int (1 : Int32)), .val (.int (p6 &&& (3 : Int32))), .val (.long ((p1 + (1 : Int64)) + ((p3 &&& (65535 : Int32)).toInt64))), .second, .val (.long ((((p1 + (1 : Int64)) + ((p3 &&& (65535 : Int32)).toInt64)) + (1 : Int64)) + ((p4 &&& (65535 : Int32)).toInt64))), .second, .val (.long ((((((p1 + (1 : Int64)) + ((p3 &&& (65535 : Int32)).toInt64)) + (1 : Int64)) + ((p4 &&& (65535 : Int32)).toInt64)) + (1 : Int64)) + ((p5 &&& (65535 : Int32)).toInt64))), .second] [(.double (FP.i2d (p6 >>> ((3 : Int32) &&& 31)))), (.long (((((((p1 + (1 : Int64)) + ((p3 &&& (65535 : Int32)).toInt64)) + (1 : Int64)) + ((p4 &&& (65535 : Int32)).toInt64)) + (1 : Int64)) + ((p5 &&& (65535 : Int32)).toInt64)) + (1 : Int64))), (.ref b1)])) (fun tz kz => ?_) ?_
          · show Steps p.tables e below (T17.setTop (mkF m 215 #[.val (.long p1), .second, .val (.int p2), .val (.int p3), .val (.int p4), .val (.int p5), .val (.int p6), .val (.ref b1), .val (.int (1 : Int32)), .val (.int (p6 &&& (3 : Int32))), .val (.long ((p1 + (1 : Int64)) + ((p3 &&& (65535 : Int32)).toInt64))), .second, .val (.long ((((p1 + (1 : Int64)) + ((p3 &&& (65535 : Int32)).toInt64)) + (1 : Int64)) + ((p4 &&& (65535 : Int32)).toInt64))), .second, .val (.long ((((((p1 + (1 : Int64)) + ((p3 &&& (65535 : Int32)).toInt64)) + (1 : Int64)) + ((p4 &&& (65535 : Int32)).toInt64)) + (1 : Int64)) + ((p5 &&& (65535 : Int32)).toInt64))), .second] [(.int (p6 &&& (4 : Int32)))])) _
            refine XS.ifNo X17.here hx rfl (hb hby at_215) rfl ((if0 _ _).trans (feq hc215_19).1) ?_
            show Steps p.tables e below (T17.setTop (mkF m 218 #[.val (.long p1), .second, .val (.int p2), .val (.int p3), .val (.int p4), .val (.int p5), .val (.int p6), .val (.ref b1), .val (.int (1 : Int32)), .val (.int (p6 &&& (3 : Int32))), .val (.long ((p1 + (1 : Int64)) + ((p3 &&& (65535 : Int32)).toInt64))), .second, .val (.long ((((p1 + (1 : Int64)) + ((p3 &&& (65535 : Int32)).toInt64)) + (1 : Int64)) + ((p4 &&& (65535 : Int32)).toInt64))), .second, .val (.long ((((((p1 + (1 : Int64)) + ((p3 &&& (65535 : Int32)).toInt64)) + (1 : Int64)) + ((p4 &&& (65535 : Int32)).toInt64)) + (1 : Int64)) + ((p5 &&& (65535 : Int32)).toInt64))), .second] [])) _
            refine XS.aload X17.here hx rfl (hb hby at_218) rfl rfl ?_
            show Steps p.tables e below (T17.setTop (mkF m 220 #[.val (.long p1), .second, .val (.int p2), .val (.int p3), .val (.int p4), .val (.int p5), .val (.int p6), .val (.ref b1), .val (.int (1 : Int32)), .val (.int (p6 &&& (3 : Int32))), .val (.long ((p1 + (1 : Int64)) + ((p3 &&& (65535 : Int32)).toInt64))), .second, .val (.long ((((p1 + (1 : Int64)) + ((p3 &&& (65535 : Int32)).toInt64)) + (1 : Int64)) + ((p4 &&& (65535 : Int32)).toInt64))), .second, .val (.long ((((((p1 + (1 : Int64)) + ((p3 &&& (65535 : Int32)).toInt64)) + (1 : Int64)) + ((p4 &&& (65535 : Int32)).toInt64)) + (1 : Int64)) + ((p5 &&& (65535 : Int32)).toInt64))), .second] [(.ref b1)])) _
            refine XS.lload X17.here hx rfl (hb hby at_220) rfl ?_
            show Steps p.tables e below (T17.setTop (mkF m 222 #[.val (.long p1), .second, .val (.int p2), .val (.int p3), .val (.int p4), .val (.int p5), .val (.int p6), .val (.ref b1), .val (.int (1 : Int32)), .val (.int (p6 &&& (3 : Int32))), .val (.long ((p1 + (1 : Int64)) + ((p3 &&& (65535 : Int32)).toInt64))), .second, .val (.long ((((p1 + (1 : Int64)) + ((p3 &&& (65535 : Int32)).toInt64)) + (1 : Int64)) + ((p4 &&& (65535 : Int32)).toInt64))), .second, .val (.long ((((((p1 + (1 : Int64)) + ((p3 &&& (65535 : Int32)).toInt64)) + (1 : Int64)) + ((p4 &&& (65535 : Int32)).toInt64)) + (1 : Int64)) + ((p5 &&& (65535 : Int32)).toInt64))), .second] [(.long ((((((p1 + (1 : Int64)) + ((p3 &&& (65535 : Int32)).toInt64)) + (1 : Int64)) + ((p4 &&& (65535 : Int32)).toInt64)) + (1 : Int64)) + ((p5 &&& (65535 : Int32)).toInt64))), (.ref b1)])) _
            refine XS.lconst X17.here hx rfl (hb hby at_222) ?_
            show Steps p.tables e below (T17.setTop (mkF m 223 #[.val (.long p1), .second, .val (.int p2), .val (.int p3), .val (.int p4), .val (.int p5), .val (.int p6), .val (.ref b1), .val (.int (1 : Int32)), .val (.int (p6 &&& (3 : Int32))), .val (.long ((p1 + (1 : Int64)) + ((p3 &&& (65535 : Int32)).toInt64))), .second, .val (.long ((((p1 + (1 : Int64)) + ((p3 &&& (65535 : Int32)).toInt64)) + (1 : Int64)) + ((p4 &&& (65535 : Int32)).toInt64))), .second, .val (.long ((((((p1 + (1 : Int64)) + ((p3 &&& (65535 : Int32)).toInt64)) + (1 : Int64)) + ((p4 &&& (65535 : Int32)).toInt64)) + (1 : Int64)) + ((p5 &&& (65535 : Int32)).toInt64))), .second] [(.long (1 : Int64)), (.long ((((((p1 + (1 : Int64)) + ((p3 &&& (65535 : Int32)).toInt64)) + (1 : Int64)) + ((p4 &&& (65535 : Int32)).toInt64)) + (1 : Int64)) + ((p5 &&& (65535 : Int32)).toInt64))), (.ref b1)])) _
            refine XS.ladd X17.here hx rfl (hb hby at_223) rfl ?_
            show Steps p.tables e below (T17.setTop (mkF m 224 #[.val (.long p1), .second, .val (.int p2), .val (.int p3), .val (.int p4), .val (.int p5), .val (.int p6), .val (.ref b1), .val (.int (1 : Int32)), .val (.int (p6 &&& (3 : Int32))), .val (.long ((p1 + (1 : Int64)) + ((p3 &&& (65535 : Int32)).toInt64))), .second, .val (.long ((((p1 + (1 : Int64)) + ((p3 &&& (65535 : Int32)).toInt64)) + (1 : Int64)) + ((p4 &&& (65535 : Int32)).toInt64))), .second, .val (.long ((((((p1 + (1 : Int64)) + ((p3 &&& (65535 : Int32)).toInt64)) + (1 : Int64)) + ((p4 &&& (65535 : Int32)).toInt64)) + (1 : Int64)) + ((p5 &&& (65535 : Int32)).toInt64))), .second] [(.long (((((((p1 + (1 : Int64)) + ((p3 &&& (65535 : Int32)).toInt64)) + (1 : Int64)) + ((p4 &&& (65535 : Int32)).toInt64)) + (1 : Int64)) + ((p5 &&& (65535 : Int32)).toInt64)) + (1 : Int64))), (.ref b1)])) _
            refine XS.iload X17.here hx rfl (hb hby at_224) rfl ?_
            show Steps p.tables e below (T17.setTop (mkF m 226 #[.val (.long p1), .second, .val (.int p2), .val (.int p3), .val (.int p4), .val (.int p5), .val (.int p6), .val (.ref b1), .val (.int (1 : Int32)), .val (.int (p6 &&& (3 : Int32))), .val (.long ((p1 + (1 : Int64)) + ((p3 &&& (65535 : Int32)).toInt64))), .second, .val (.long ((((p1 + (1 : Int64)) + ((p3 &&& (65535 : Int32)).toInt64)) + (1 : Int64)) + ((p4 &&& (65535 : Int32)).toInt64))), .second, .val (.long ((((((p1 + (1 : Int64)) + ((p3 &&& (65535 : Int32)).toInt64)) + (1 : Int64)) + ((p4 &&& (65535 : Int32)).toInt64)) + (1 : Int64)) + ((p5 &&& (65535 : Int32)).toInt64))), .second] [(.int p6), (.long (((((((p1 + (1 : Int64)) + ((p3 &&& (65535 : Int32)).toInt64)) + (1 : Int64)) + ((p4 &&& (65535 : Int32)).toInt64)) + (1 : Int64)) + ((p5 &&& (65535 : Int32)).toInt64)) + (1 : Int64))), (.ref b1)])) _
            refine XS.iconst X17.here hx rfl (hb hby at_226) ?_
            show Steps p.tables e below (T17.setTop (mkF m 227 #[.val (.long p1), .second, .val (.int p2), .val (.int p3), .val (.int p4), .val (.int p5), .val (.int p6), .val (.ref b1), .val (.int (1 : Int32)), .val (.int (p6 &&& (3 : Int32))), .val (.long ((p1 + (1 : Int64)) + ((p3 &&& (65535 : Int32)).toInt64))), .second, .val (.long ((((p1 + (1 : Int64)) + ((p3 &&& (65535 : Int32)).toInt64)) + (1 : Int64)) + ((p4 &&& (65535 : Int32)).toInt64))), .second, .val (.long ((((((p1 + (1 : Int64)) + ((p3 &&& (65535 : Int32)).toInt64)) + (1 : Int64)) + ((p4 &&& (65535 : Int32)).toInt64)) + (1 : Int64)) + ((p5 &&& (65535 : Int32)).toInt64))), .second] [(.int (3 : Int32)), (.int p6), (.long (((((((p1 + (1 : Int64)) + ((p3 &&& (65535 : Int32)).toInt64)) + (1 : Int64)) + ((p4 &&& (65535 : Int32)).toInt64)) + (1 : Int64)) + ((p5 &&& (65535 : Int32)).toInt64)) + (1 : Int64))), (.ref b1)])) _
            refine XS.ishr X17.here hx rfl (hb hby at_227) rfl ?_
            show Steps p.tables e below (T17.setTop (mkF m 228 #[.val (.long p1), .second, .val (.int p2), .val (.int p3), .val (.int p4), .val (.int p5), .val (.int p6), .val (.ref b1), .val (.int (1 : Int32)), .val (.int (p6 &&& (3 : Int32))), .val (.long ((p1 + (1 : Int64)) + ((p3 &&& (65535 : Int32)).toInt64))), .second, .val (.long ((((p1 + (1 : Int64)) + ((p3 &&& (65535 : Int32)).toInt64)) + (1 : Int64)) + ((p4 &&& (65535 : Int32)).toInt64))), .second, .val (.long ((((((p1 + (1 : Int64)) + ((p3 &&& (65535 : Int32)).toInt64)) + (1 : Int64)) + ((p4 &&& (65535 : Int32)).toInt64)) + (1 : Int64)) + ((p5 &&& (65535 : Int32)).toInt64))), .second] [(.int (p6 >>> ((3 : Int32) &&& 31))), (.long (((((((p1 + (1 : Int64)) + ((p3 &&& (65535 : Int32)).toInt64)) + (1 : Int64)) + ((p4 &&& (65535 : Int32)).toInt64)) + (1 : Int64)) + ((p5 &&& (65535 : Int32)).toInt64)) + (1 : Int64))), (.ref b1)])) _
            refine XS.i2dS X17.here hx rfl (hb hby at_228) rfl (v := FP.i2d (p6 >>> ((3 : Int32) &&& 31))) rfl ?_
            exact kz
          obtain ⟨cq20, kq20, q20a, q20b, q20c⟩ := isOf hZ e17 H16.1
          obtain ⟨_, _, ⟨T20, L20, k20, n20⟩, -, X20, ⟨Lc20, hQ20, l20, y20, z20⟩, st20⟩ := X17.virtualBack hx (y := (⟨"com/example/fewbits/fewbits/store/SegmentHull", "start", "(JD)V"⟩ : MethodName)) (z := (⟨"com/example/fewbits/fewbits/store/SegmentHull", "start", "(JD)V"⟩ : MethodName)) hown (mvT hZ (hw _ (List.mem_of_getElem? (i := 34) rfl))) (mvT hZ (hw _ (List.mem_of_getElem? (i := 35) rfl))) (notFace_of_selects (args := #[]) (mvT hZ (hw _ (List.mem_of_getElem? (i := 37) rfl)))) (mvT hZ (hw _ (List.mem_of_getElem? (i := 37) rfl))) (mvT hZ (hw _ (List.mem_of_getElem? (i := 36) rfl))) (by decide) (backOf (W := 0) (rm5 l Z a0 hw [] b1 (((((((p1 + (1 : Int64)) + ((p3 &&& (65535 : Int32)).toInt64)) + (1 : Int64)) + ((p4 &&& (65535 : Int32)).toInt64)) + (1 : Int64)) + ((p5 &&& (65535 : Int32)).toInt64)) + (1 : Int64)) (FP.i2d (p6 >>> ((3 : Int32) &&& 31))) u tu ru l1 tl rl ku1 ku2 kl1 kl2 [.long ((p1 + (1 : Int64)) + ((p3 &&& (65535 : Int32)).toInt64)), .long ((((p1 + (1 : Int64)) + ((p3 &&& (65535 : Int32)).toInt64)) + (1 : Int64)) + ((p4 &&& (65535 : Int32)).toInt64)), .long (0 : Int64)] [.double (FP.dsub (FP.i2d (p3 >>> ((16 : Int32) &&& 31))) (FP.i2d p2)), .double (FP.dsub (FP.i2d (p4 >>> ((16 : Int32) &&& 31))) (FP.i2d p2)), .double (0 : UInt64)] 2 [.long ((p1 + (1 : Int64)) + ((p3 &&& (65535 : Int32)).toInt64)), .long ((((p1 + (1 : Int64)) + ((p3 &&& (65535 : Int32)).toInt64)) + (1 : Int64)) + ((p4 &&& (65535 : Int32)).toInt64)), .long (0 : Int64)] [.double (FP.dneg (FP.dsub (FP.i2d (p3 >>> ((16 : Int32) &&& 31))) (FP.i2d p2))), .double (FP.dneg (FP.dsub (FP.i2d (p4 >>> ((16 : Int32) &&& 31))) (FP.i2d p2))), .double (0 : UInt64)] 2 (FP.i2d p2) T16.heap n0 Z16 H16 O) hZ (hw _ (List.mem_of_getElem? (i := 38) rfl)) (hw _ (List.mem_of_getElem? (i := 2) rfl)) (by decide) (by decide)) q20a q20c (g := (mkF m 229 #[.val (.long p1), .second, .val (.int p2), .val (.int p3), .val (.int p4), .val (.int p5), .val (.int p6), .val (.ref b1), .val (.int (1 : Int32)), .val (.int (p6 &&& (3 : Int32))), .val (.long ((p1 + (1 : Int64)) + ((p3 &&& (65535 : Int32)).toInt64))), .second, .val (.long ((((p1 + (1 : Int64)) + ((p3 &&& (65535 : Int32)).toInt64)) + (1 : Int64)) + ((p4 &&& (65535 : Int32)).toInt64))), .second, .val (.long ((((((p1 + (1 : Int64)) + ((p3 &&& (65535 : Int32)).toInt64)) + (1 : Int64)) + ((p4 &&& (65535 : Int32)).toInt64)) + (1 : Int64)) + ((p5 &&& (65535 : Int32)).toInt64))), .second] [(.double (FP.i2d (p6 >>> ((3 : Int32) &&& 31)))), (.long (((((((p1 + (1 : Int64)) + ((p3 &&& (65535 : Int32)).toInt64)) + (1 : Int64)) + ((p4 &&& (65535 : Int32)).toInt64)) + (1 : Int64)) + ((p5 &&& (65535 : Int32)).toInt64)) + (1 : Int64))), (.ref b1)])) rfl (by rw [hml]; rfl) (Steps.refl _) (argsL := [(.long (((((((p1 + (1 : Int64)) + ((p3 &&& (65535 : Int32)).toInt64)) + (1 : Int64)) + ((p4 &&& (65535 : Int32)).toInt64)) + (1 : Int64)) + ((p5 &&& (65535 : Int32)).toInt64)) + (1 : Int64))), (.double (FP.i2d (p6 >>> ((3 : Int32) &&& 31))))]) (rest := []) (lenOf pd_3 rfl) rfl (by show 2 * 0 + _ ≤ _; exact Nat.le_of_eq rfl) (hb hby at_229) (fun _ _ => ⟨rfl, e17, (by decide : 7 + 0 ≤ _), (by decide : 74 + 0 ≤ _)⟩)
          dsimp only [Pt.U, Pt.locs, Pt.cells, Pt.slots] at X20 l20 y20 z20 st20 hQ20
          subst l20 y20 z20
          obtain ⟨rfl, N20, K20, H20⟩ := hQ20
          have Nf20 := Fr.app Nf17 N20
          refine Goes.via (S' := T20.setTop (mkF m 232 #[.val (.long p1), .second, .val (.int p2), .val (.int p3), .val (.int p4), .val (.int p5), .val (.int p6), .val (.ref b1), .val (.int (1 : Int32)), .val (.int (p6 &&& (3 : Int32))), .val (.long ((p1 + (1 : Int64)) + ((p3 &&& (65535 : Int32)).toInt64))), .second, .val (.long ((((p1 + (1 : Int64)) + ((p3 &&& (65535 : Int32)).toInt64)) + (1 : Int64)) + ((p4 &&& (65535 : Int32)).toInt64))), .second, .val (.long ((((((p1 + (1 : Int64)) + ((p3 &&& (65535 : Int32)).toInt64)) + (1 : Int64)) + ((p4 &&& (65535 : Int32)).toInt64)) + (1 : Int64)) + ((p5 &&& (65535 : Int32)).toInt64))), .second] [])) (fun _ kz => st20.trans kz) ?_
          have Z20 := Nat.le_trans Z16 K20.1
          refine Goes.via (S' := T20.setTop (mkF m 239 #[.val (.long p1), .second, .val (.int p2), .val (.int p3), .val (.int p4), .val (.int p5), .val (.int p6), .val (.ref b1), .val (.int (1 : Int32)), .val (.int (p6 &&& (3 : Int32))), .val (.long ((p1 + (1 : Int64)) + ((p3 &&& (65535 : Int32)).toInt64))), .second, .val (.long ((((p1 + (1 : Int64)) + ((p3 &&& (65535 : Int32)).toInt64)) + (1 : Int64)) + ((p4 &&& (65535 : Int32)).toInt64))), .second, .val (.long ((((((p1 + (1 : Int64)) + ((p3 &&& (65535 : Int32)).toInt64)) + (1 : Int64)) + ((p4 &&& (65535 : Int32)).toInt64)) + (1 : Int64)) + ((p5 &&& (65535 : Int32)).toInt64))), .second] [(.ref b1)])) (fun tz kz => ?_) ?_
          · show Steps p.tables e below (T20.setTop (mkF m 232 #[.val (.long p1), .second, .val (.int p2), .val (.int p3), .val (.int p4), .val (.int p5), .val (.int p6), .val (.ref b1), .val (.int (1 : Int32)), .val (.int (p6 &&& (3 : Int32))), .val (.long ((p1 + (1 : Int64)) + ((p3 &&& (65535 : Int32)).toInt64))), .second, .val (.long ((((p1 + (1 : Int64)) + ((p3 &&& (65535 : Int32)).toInt64)) + (1 : Int64)) + ((p4 &&& (65535 : Int32)).toInt64))), .second, .val (.long ((((((p1 + (1 : Int64)) + ((p3 &&& (65535 : Int32)).toInt64)) + (1 : Int64)) + ((p4 &&& (65535 : Int32)).toInt64)) + (1 : Int64)) + ((p5 &&& (65535 : Int32)).toInt64))), .second] [])) _
            refine XS.iload X20.here hx rfl (hb hby at_232) rfl ?_
            show Steps p.tables e below (T20.setTop (mkF m 234 #[.val (.long p1), .second, .val (.int p2), .val (.int p3), .val (.int p4), .val (.int p5), .val (.int p6), .val (.ref b1), .val (.int (1 : Int32)), .val (.int (p6 &&& (3 : Int32))), .val (.long ((p1 + (1 : Int64)) + ((p3 &&& (65535 : Int32)).toInt64))), .second, .val (.long ((((p1 + (1 : Int64)) + ((p3 &&& (65535 : Int32)).toInt64)) + (1 : Int64)) + ((p4 &&& (65535 : Int32)).toInt64))), .second, .val (.long ((((((p1 + (1 : Int64)) + ((p3 &&& (65535 : Int32)).toInt64)) + (1 : Int64)) + ((p4 &&& (65535 : Int32)).toInt64)) + (1 : Int64)) + ((p5 &&& (65535 : Int32)).toInt64))), .second] [(.int (1 : Int32))])) _
            refine XS.ifNo X20.here hx rfl (hb hby at_234) rfl ((if0 _ _).trans (feq (by decide)).1) ?_
            show Steps p.tables e below (T20.setTop (mkF m 237 #[.val (.long p1), .second, .val (.int p2), .val (.int p3), .val (.int p4), .val (.int p5), .val (.int p6), .val (.ref b1), .val (.int (1 : Int32)), .val (.int (p6 &&& (3 : Int32))), .val (.long ((p1 + (1 : Int64)) + ((p3 &&& (65535 : Int32)).toInt64))), .second, .val (.long ((((p1 + (1 : Int64)) + ((p3 &&& (65535 : Int32)).toInt64)) + (1 : Int64)) + ((p4 &&& (65535 : Int32)).toInt64))), .second, .val (.long ((((((p1 + (1 : Int64)) + ((p3 &&& (65535 : Int32)).toInt64)) + (1 : Int64)) + ((p4 &&& (65535 : Int32)).toInt64)) + (1 : Int64)) + ((p5 &&& (65535 : Int32)).toInt64))), .second] [])) _
            refine XS.aload X20.here hx rfl (hb hby at_237) rfl rfl ?_
            exact kz
          obtain ⟨cq21, kq21, q21a, q21b, q21c⟩ := isOf hZ rfl H20.1
          obtain ⟨_, _, ⟨T21, L21, k21, n21⟩, -, X21, ⟨Lc21, hQ21, l21, y21, z21⟩, st21⟩ := X20.virtualBack hx (y := (⟨"com/example/fewbits/fewbits/store/SegmentHull", "isFull", "()Z"⟩ : MethodName)) (z := (⟨"com/example/fewbits/fewbits/store/SegmentHull", "isFull", "()Z"⟩ : MethodName)) hown (mvT hZ (hw _ (List.mem_of_getElem? (i := 26) rfl))) (mvT hZ (hw _ (List.mem_of_getElem? (i := 27) rfl))) (notFace_of_selects (args := #[]) (mvT hZ (hw _ (List.mem_of_getElem? (i := 29) rfl)))) (mvT hZ (hw _ (List.mem_of_getElem? (i := 29) rfl))) (mvT hZ (hw _ (List.mem_of_getElem? (i := 28) rfl))) (by decide) (backOf (W := 0) (rm4 l Z a0 hw [] b1 u tu ru l1 tl rl ku1 ku2 kl1 kl2 [.long ((p1 + (1 : Int64)) + ((p3 &&& (65535 : Int32)).toInt64)), .long ((((p1 + (1 : Int64)) + ((p3 &&& (65535 : Int32)).toInt64)) + (1 : Int64)) + ((p4 &&& (65535 : Int32)).toInt64)), .long (0 : Int64)] [.double (FP.dsub (FP.i2d (p3 >>> ((16 : Int32) &&& 31))) (FP.i2d p2)), .double (FP.dsub (FP.i2d (p4 >>> ((16 : Int32) &&& 31))) (FP.i2d p2)), .double (0 : UInt64)] 0 [.long ((p1 + (1 : Int64)) + ((p3 &&& (65535 : Int32)).toInt64)), .long ((((p1 + (1 : Int64)) + ((p3 &&& (65535 : Int32)).toInt64)) + (1 : Int64)) + ((p4 &&& (65535 : Int32)).toInt64)), .long (0 : Int64)] [.double (FP.dneg (FP.dsub (FP.i2d (p3 >>> ((16 : Int32) &&& 31))) (FP.i2d p2))), .double (FP.dneg (FP.dsub (FP.i2d (p4 >>> ((16 : Int32) &&& 31))) (FP.i2d p2))), .double (0 : UInt64)] 0 (FP.i2d (p6 >>> ((3 : Int32) &&& 31))) T20.heap n0 Z20 H20 (by decide) (by decide)) hZ (hw _ (List.mem_of_getElem? (i := 30) rfl)) (hw _ (List.mem_of_getElem? (i := 2) rfl)) (by decide) (by decide)) q21a q21c (g := (mkF m 239 #[.val (.long p1), .second, .val (.int p2), .val (.int p3), .val (.int p4), .val (.int p5), .val (.int p6), .val (.ref b1), .val (.int (1 : Int32)), .val (.int (p6 &&& (3 : Int32))), .val (.long ((p1 + (1 : Int64)) + ((p3 &&& (65535 : Int32)).toInt64))), .second, .val (.long ((((p1 + (1 : Int64)) + ((p3 &&& (65535 : Int32)).toInt64)) + (1 : Int64)) + ((p4 &&& (65535 : Int32)).toInt64))), .second, .val (.long ((((((p1 + (1 : Int64)) + ((p3 &&& (65535 : Int32)).toInt64)) + (1 : Int64)) + ((p4 &&& (65535 : Int32)).toInt64)) + (1 : Int64)) + ((p5 &&& (65535 : Int32)).toInt64))), .second] [(.ref b1)])) rfl (by rw [hml]; rfl) (Steps.refl _) (argsL := []) (rest := []) (lenOf pd_4 rfl) rfl (by show 2 * 0 + _ ≤ _; exact Nat.le_of_eq rfl) (hb hby at_239) (fun _ _ => ⟨rfl, rfl, (by decide : 7 + 0 ≤ _), (by decide : 74 + 0 ≤ _)⟩)
          dsimp only [Pt.U, Pt.locs, Pt.cells, Pt.slots] at X21 l21 y21 z21 st21 hQ21
          subst l21 y21 z21
          obtain ⟨rfl, N21, e21⟩ := hQ21
          have Nf21 := Fr.app Nf20 N21
          refine Goes.via (S' := T21.setTop (mkF m 242 #[.val (.long p1), .second, .val (.int p2), .val (.int p3), .val (.int p4), .val (.int p5), .val (.int p6), .val (.ref b1), .val (.int (1 : Int32)), .val (.int (p6 &&& (3 : Int32))), .val (.long ((p1 + (1 : Int64)) + ((p3 &&& (65535 : Int32)).toInt64))), .second, .val (.long ((((p1 + (1 : Int64)) + ((p3 &&& (65535 : Int32)).toInt64)) + (1 : Int64)) + ((p4 &&& (65535 : Int32)).toInt64))), .second, .val (.long ((((((p1 + (1 : Int64)) + ((p3 &&& (65535 : Int32)).toInt64)) + (1 : Int64)) + ((p4 &&& (65535 : Int32)).toInt64)) + (1 : Int64)) + ((p5 &&& (65535 : Int32)).toInt64))), .second] [(.int (0 : Int32))])) (fun _ kz => st21.trans kz) ?_
          refine Goes.via (S' := T21.setTop (mkF m 262 #[.val (.long p1), .second, .val (.int p2), .val (.int p3), .val (.int p4), .val (.int p5), .val (.int p6), .val (.ref b1), .val (.int (1 : Int32)), .val (.int (p6 &&& (3 : Int32))), .val (.long ((p1 + (1 : Int64)) + ((p3 &&& (65535 : Int32)).toInt64))), .second, .val (.long ((((p1 + (1 : Int64)) + ((p3 &&& (65535 : Int32)).toInt64)) + (1 : Int64)) + ((p4 &&& (65535 : Int32)).toInt64))), .second, .val (.long ((((((p1 + (1 : Int64)) + ((p3 &&& (65535 : Int32)).toInt64)) + (1 : Int64)) + ((p4 &&& (65535 : Int32)).toInt64)) + (1 : Int64)) + ((p5 &&& (65535 : Int32)).toInt64))), .second] [(.int (1 : Int32))])) (fun tz kz => ?_) ?_
          · show Steps p.tables e below (T21.setTop (mkF m 242 #[.val (.long p1), .second, .val (.int p2), .val (.int p3), .val (.int p4), .val (.int p5), .val (.int p6), .val (.ref b1), .val (.int (1 : Int32)), .val (.int (p6 &&& (3 : Int32))), .val (.long ((p1 + (1 : Int64)) + ((p3 &&& (65535 : Int32)).toInt64))), .second, .val (.long ((((p1 + (1 : Int64)) + ((p3 &&& (65535 : Int32)).toInt64)) + (1 : Int64)) + ((p4 &&& (65535 : Int32)).toInt64))), .second, .val (.long ((((((p1 + (1 : Int64)) + ((p3 &&& (65535 : Int32)).toInt64)) + (1 : Int64)) + ((p4 &&& (65535 : Int32)).toInt64)) + (1 : Int64)) + ((p5 &&& (65535 : Int32)).toInt64))), .second] [(.int (0 : Int32))])) _
            refine XS.ifNo X21.here hx rfl (hb hby at_242) rfl ((if0 _ _).trans (teq (by decide)).2) ?_
            show Steps p.tables e below (T21.setTop (mkF m 245 #[.val (.long p1), .second, .val (.int p2), .val (.int p3), .val (.int p4), .val (.int p5), .val (.int p6), .val (.ref b1), .val (.int (1 : Int32)), .val (.int (p6 &&& (3 : Int32))), .val (.long ((p1 + (1 : Int64)) + ((p3 &&& (65535 : Int32)).toInt64))), .second, .val (.long ((((p1 + (1 : Int64)) + ((p3 &&& (65535 : Int32)).toInt64)) + (1 : Int64)) + ((p4 &&& (65535 : Int32)).toInt64))), .second, .val (.long ((((((p1 + (1 : Int64)) + ((p3 &&& (65535 : Int32)).toInt64)) + (1 : Int64)) + ((p4 &&& (65535 : Int32)).toInt64)) + (1 : Int64)) + ((p5 &&& (65535 : Int32)).toInt64))), .second] [])) _
            refine XS.iconst X21.here hx rfl (hb hby at_245) ?_
            show Steps p.tables e below (T21.setTop (mkF m 246 #[.val (.long p1), .second, .val (.int p2), .val (.int p3), .val (.int p4), .val (.int p5), .val (.int p6), .val (.ref b1), .val (.int (1 : Int32)), .val (.int (p6 &&& (3 : Int32))), .val (.long ((p1 + (1 : Int64)) + ((p3 &&& (65535 : Int32)).toInt64))), .second, .val (.long ((((p1 + (1 : Int64)) + ((p3 &&& (65535 : Int32)).toInt64)) + (1 : Int64)) + ((p4 &&& (65535 : Int32)).toInt64))), .second, .val (.long ((((((p1 + (1 : Int64)) + ((p3 &&& (65535 : Int32)).toInt64)) + (1 : Int64)) + ((p4 &&& (65535 : Int32)).toInt64)) + (1 : Int64)) + ((p5 &&& (65535 : Int32)).toInt64))), .second] [(.int (1 : Int32))])) _
            refine XS.goto X21.here hx rfl (pc0 := 246) (pc' := 250) rfl (hb hby at_246) (by decide) (by decide) ?_
            show Steps p.tables e below (T21.setTop (mkF m 250 #[.val (.long p1), .second, .val (.int p2), .val (.int p3), .val (.int p4), .val (.int p5), .val (.int p6), .val (.ref b1), .val (.int (1 : Int32)), .val (.int (p6 &&& (3 : Int32))), .val (.long ((p1 + (1 : Int64)) + ((p3 &&& (65535 : Int32)).toInt64))), .second, .val (.long ((((p1 + (1 : Int64)) + ((p3 &&& (65535 : Int32)).toInt64)) + (1 : Int64)) + ((p4 &&& (65535 : Int32)).toInt64))), .second, .val (.long ((((((p1 + (1 : Int64)) + ((p3 &&& (65535 : Int32)).toInt64)) + (1 : Int64)) + ((p4 &&& (65535 : Int32)).toInt64)) + (1 : Int64)) + ((p5 &&& (65535 : Int32)).toInt64))), .second] [(.int (1 : Int32))])) _
            refine XS.istore X21.here hx rfl (hb hby at_250) rfl (l' := #[.val (.long p1), .second, .val (.int p2), .val (.int p3), .val (.int p4), .val (.int p5), .val (.int p6), .val (.ref b1), .val (.int (1 : Int32)), .val (.int (p6 &&& (3 : Int32))), .val (.long ((p1 + (1 : Int64)) + ((p3 &&& (65535 : Int32)).toInt64))), .second, .val (.long ((((p1 + (1 : Int64)) + ((p3 &&& (65535 : Int32)).toInt64)) + (1 : Int64)) + ((p4 &&& (65535 : Int32)).toInt64))), .second, .val (.long ((((((p1 + (1 : Int64)) + ((p3 &&& (65535 : Int32)).toInt64)) + (1 : Int64)) + ((p4 &&& (65535 : Int32)).toInt64)) + (1 : Int64)) + ((p5 &&& (65535 : Int32)).toInt64))), .second]) rfl ?_
            show Steps p.tables e below (T21.setTop (mkF m 252 #[.val (.long p1), .second, .val (.int p2), .val (.int p3), .val (.int p4), .val (.int p5), .val (.int p6), .val (.ref b1), .val (.int (1 : Int32)), .val (.int (p6 &&& (3 : Int32))), .val (.long ((p1 + (1 : Int64)) + ((p3 &&& (65535 : Int32)).toInt64))), .second, .val (.long ((((p1 + (1 : Int64)) + ((p3 &&& (65535 : Int32)).toInt64)) + (1 : Int64)) + ((p4 &&& (65535 : Int32)).toInt64))), .second, .val (.long ((((((p1 + (1 : Int64)) + ((p3 &&& (65535 : Int32)).toInt64)) + (1 : Int64)) + ((p4 &&& (65535 : Int32)).toInt64)) + (1 : Int64)) + ((p5 &&& (65535 : Int32)).toInt64))), .second] [])) _
            refine XS.iload X21.here hx rfl (hb hby at_252) rfl ?_
            show Steps p.tables e below (T21.setTop (mkF m 254 #[.val (.long p1), .second, .val (.int p2), .val (.int p3), .val (.int p4), .val (.int p5), .val (.int p6), .val (.ref b1), .val (.int (1 : Int32)), .val (.int (p6 &&& (3 : Int32))), .val (.long ((p1 + (1 : Int64)) + ((p3 &&& (65535 : Int32)).toInt64))), .second, .val (.long ((((p1 + (1 : Int64)) + ((p3 &&& (65535 : Int32)).toInt64)) + (1 : Int64)) + ((p4 &&& (65535 : Int32)).toInt64))), .second, .val (.long ((((((p1 + (1 : Int64)) + ((p3 &&& (65535 : Int32)).toInt64)) + (1 : Int64)) + ((p4 &&& (65535 : Int32)).toInt64)) + (1 : Int64)) + ((p5 &&& (65535 : Int32)).toInt64))), .second] [(.int (1 : Int32))])) _
            refine XS.ifNo X21.here hx rfl (hb hby at_254) rfl ((if0 _ _).trans (feq (by decide)).1) ?_
            show Steps p.tables e below (T21.setTop (mkF m 257 #[.val (.long p1), .second, .val (.int p2), .val (.int p3), .val (.int p4), .val (.int p5), .val (.int p6), .val (.ref b1), .val (.int (1 : Int32)), .val (.int (p6 &&& (3 : Int32))), .val (.long ((p1 + (1 : Int64)) + ((p3 &&& (65535 : Int32)).toInt64))), .second, .val (.long ((((p1 + (1 : Int64)) + ((p3 &&& (65535 : Int32)).toInt64)) + (1 : Int64)) + ((p4 &&& (65535 : Int32)).toInt64))), .second, .val (.long ((((((p1 + (1 : Int64)) + ((p3 &&& (65535 : Int32)).toInt64)) + (1 : Int64)) + ((p4 &&& (65535 : Int32)).toInt64)) + (1 : Int64)) + ((p5 &&& (65535 : Int32)).toInt64))), .second] [])) _
            refine XS.iconst X21.here hx rfl (hb hby at_257) ?_
            show Steps p.tables e below (T21.setTop (mkF m 258 #[.val (.long p1), .second, .val (.int p2), .val (.int p3), .val (.int p4), .val (.int p5), .val (.int p6), .val (.ref b1), .val (.int (1 : Int32)), .val (.int (p6 &&& (3 : Int32))), .val (.long ((p1 + (1 : Int64)) + ((p3 &&& (65535 : Int32)).toInt64))), .second, .val (.long ((((p1 + (1 : Int64)) + ((p3 &&& (65535 : Int32)).toInt64)) + (1 : Int64)) + ((p4 &&& (65535 : Int32)).toInt64))), .second, .val (.long ((((((p1 + (1 : Int64)) + ((p3 &&& (65535 : Int32)).toInt64)) + (1 : Int64)) + ((p4 &&& (65535 : Int32)).toInt64)) + (1 : Int64)) + ((p5 &&& (65535 : Int32)).toInt64))), .second] [(.int (1 : Int32))])) _
            refine XS.goto X21.here hx rfl (pc0 := 258) (pc' := 262) rfl (hb hby at_258) (by decide) (by decide) ?_
            exact kz
          exact Goes.retN X21 hx Bd.notSynchronized (t := .boolean) Bd.returns (by simp) (hb hby at_262) (Nat.le_of_ble_eq_true rfl) (Nat.le_of_ble_eq_true rfl) ⟨rfl, Nf21⟩
      · refine Goes.via (S' := T17.setTop (mkF m 188 #[.val (.long p1), .second, .val (.int p2), .val (.int p3), .val (.int p4), .val (.int p5), .val (.int p6), .val (.ref b1), .val (.int (1 : Int32)), .val (.int (p6 &&& (3 : Int32))), .val (.long ((p1 + (1 : Int64)) + ((p3 &&& (65535 : Int32)).toInt64))), .second, .val (.long ((((p1 + (1 : Int64)) + ((p3 &&& (65535 : Int32)).toInt64)) + (1 : Int64)) + ((p4 &&& (65535 : Int32)).toInt64))), .second, .val (.long ((((((p1 + (1 : Int64)) + ((p3 &&& (65535 : Int32)).toInt64)) + (1 : Int64)) + ((p4 &&& (65535 : Int32)).toInt64)) + (1 : Int64)) + ((p5 &&& (65535 : Int32)).toInt64))), .second] [(.double (FP.i2d (p5 >>> ((16 : Int32) &&& 31)))), (.long ((((((p1 + (1 : Int64)) + ((p3 &&& (65535 : Int32)).toInt64)) + (1 : Int64)) + ((p4 &&& (65535 : Int32)).toInt64)) + (1 : Int64)) + ((p5 &&& (65535 : Int32)).toInt64))), (.ref b1)])) (fun tz kz => ?_) ?_
        · show Steps p.tables e below (T17.setTop (mkF m 175 #[.val (.long p1), .second, .val (.int p2), .val (.int p3), .val (.int p4), .val (.int p5), .val (.int p6), .val (.ref b1), .val (.int (1 : Int32)), .val (.int (p6 &&& (3 : Int32))), .val (.long ((p1 + (1 : Int64)) + ((p3 &&& (65535 : Int32)).toInt64))), .second, .val (.long ((((p1 + (1 : Int64)) + ((p3 &&& (65535 : Int32)).toInt64)) + (1 : Int64)) + ((p4 &&& (65535 : Int32)).toInt64))), .second, .val (.long ((((((p1 + (1 : Int64)) + ((p3 &&& (65535 : Int32)).toInt64)) + (1 : Int64)) + ((p4 &&& (65535 : Int32)).toInt64)) + (1 : Int64)) + ((p5 &&& (65535 : Int32)).toInt64))), .second] [(.int (3 : Int32)), (.int (p6 &&& (3 : Int32)))])) _
          refine XS.icmpNo X17.here hx rfl (hb hby at_175) rfl (flt hc175_18).1 ?_
          show Steps p.tables e below (T17.setTop (mkF m 178 #[.val (.long p1), .second, .val (.int p2), .val (.int p3), .val (.int p4), .val (.int p5), .val (.int p6), .val (.ref b1), .val (.int (1 : Int32)), .val (.int (p6 &&& (3 : Int32))), .val (.long ((p1 + (1 : Int64)) + ((p3 &&& (65535 : Int32)).toInt64))), .second, .val (.long ((((p1 + (1 : Int64)) + ((p3 &&& (65535 : Int32)).toInt64)) + (1 : Int64)) + ((p4 &&& (65535 : Int32)).toInt64))), .second, .val (.long ((((((p1 + (1 : Int64)) + ((p3 &&& (65535 : Int32)).toInt64)) + (1 : Int64)) + ((p4 &&& (65535 : Int32)).toInt64)) + (1 : Int64)) + ((p5 &&& (65535 : Int32)).toInt64))), .second] [])) _
          refine XS.aload X17.here hx rfl (hb hby at_178) rfl rfl ?_
          show Steps p.tables e below (T17.setTop (mkF m 180 #[.val (.long p1), .second, .val (.int p2), .val (.int p3), .val (.int p4), .val (.int p5), .val (.int p6), .val (.ref b1), .val (.int (1 : Int32)), .val (.int (p6 &&& (3 : Int32))), .val (.long ((p1 + (1 : Int64)) + ((p3 &&& (65535 : Int32)).toInt64))), .second, .val (.long ((((p1 + (1 : Int64)) + ((p3 &&& (65535 : Int32)).toInt64)) + (1 : Int64)) + ((p4 &&& (65535 : Int32)).toInt64))), .second, .val (.long ((((((p1 + (1 : Int64)) + ((p3 &&& (65535 : Int32)).toInt64)) + (1 : Int64)) + ((p4 &&& (65535 : Int32)).toInt64)) + (1 : Int64)) + ((p5 &&& (65535 : Int32)).toInt64))), .second] [(.ref b1)])) _
          refine XS.lload X17.here hx rfl (hb hby at_180) rfl ?_
          show Steps p.tables e below (T17.setTop (mkF m 182 #[.val (.long p1), .second, .val (.int p2), .val (.int p3), .val (.int p4), .val (.int p5), .val (.int p6), .val (.ref b1), .val (.int (1 : Int32)), .val (.int (p6 &&& (3 : Int32))), .val (.long ((p1 + (1 : Int64)) + ((p3 &&& (65535 : Int32)).toInt64))), .second, .val (.long ((((p1 + (1 : Int64)) + ((p3 &&& (65535 : Int32)).toInt64)) + (1 : Int64)) + ((p4 &&& (65535 : Int32)).toInt64))), .second, .val (.long ((((((p1 + (1 : Int64)) + ((p3 &&& (65535 : Int32)).toInt64)) + (1 : Int64)) + ((p4 &&& (65535 : Int32)).toInt64)) + (1 : Int64)) + ((p5 &&& (65535 : Int32)).toInt64))), .second] [(.long ((((((p1 + (1 : Int64)) + ((p3 &&& (65535 : Int32)).toInt64)) + (1 : Int64)) + ((p4 &&& (65535 : Int32)).toInt64)) + (1 : Int64)) + ((p5 &&& (65535 : Int32)).toInt64))), (.ref b1)])) _
          refine XS.iload X17.here hx rfl (hb hby at_182) rfl ?_
          show Steps p.tables e below (T17.setTop (mkF m 184 #[.val (.long p1), .second, .val (.int p2), .val (.int p3), .val (.int p4), .val (.int p5), .val (.int p6), .val (.ref b1), .val (.int (1 : Int32)), .val (.int (p6 &&& (3 : Int32))), .val (.long ((p1 + (1 : Int64)) + ((p3 &&& (65535 : Int32)).toInt64))), .second, .val (.long ((((p1 + (1 : Int64)) + ((p3 &&& (65535 : Int32)).toInt64)) + (1 : Int64)) + ((p4 &&& (65535 : Int32)).toInt64))), .second, .val (.long ((((((p1 + (1 : Int64)) + ((p3 &&& (65535 : Int32)).toInt64)) + (1 : Int64)) + ((p4 &&& (65535 : Int32)).toInt64)) + (1 : Int64)) + ((p5 &&& (65535 : Int32)).toInt64))), .second] [(.int p5), (.long ((((((p1 + (1 : Int64)) + ((p3 &&& (65535 : Int32)).toInt64)) + (1 : Int64)) + ((p4 &&& (65535 : Int32)).toInt64)) + (1 : Int64)) + ((p5 &&& (65535 : Int32)).toInt64))), (.ref b1)])) _
          refine XS.bipush X17.here hx rfl (hb hby at_184) ?_
          show Steps p.tables e below (T17.setTop (mkF m 186 #[.val (.long p1), .second, .val (.int p2), .val (.int p3), .val (.int p4), .val (.int p5), .val (.int p6), .val (.ref b1), .val (.int (1 : Int32)), .val (.int (p6 &&& (3 : Int32))), .val (.long ((p1 + (1 : Int64)) + ((p3 &&& (65535 : Int32)).toInt64))), .second, .val (.long ((((p1 + (1 : Int64)) + ((p3 &&& (65535 : Int32)).toInt64)) + (1 : Int64)) + ((p4 &&& (65535 : Int32)).toInt64))), .second, .val (.long ((((((p1 + (1 : Int64)) + ((p3 &&& (65535 : Int32)).toInt64)) + (1 : Int64)) + ((p4 &&& (65535 : Int32)).toInt64)) + (1 : Int64)) + ((p5 &&& (65535 : Int32)).toInt64))), .second] [(.int (16 : Int32)), (.int p5), (.long ((((((p1 + (1 : Int64)) + ((p3 &&& (65535 : Int32)).toInt64)) + (1 : Int64)) + ((p4 &&& (65535 : Int32)).toInt64)) + (1 : Int64)) + ((p5 &&& (65535 : Int32)).toInt64))), (.ref b1)])) _
          refine XS.ishr X17.here hx rfl (hb hby at_186) rfl ?_
          show Steps p.tables e below (T17.setTop (mkF m 187 #[.val (.long p1), .second, .val (.int p2), .val (.int p3), .val (.int p4), .val (.int p5), .val (.int p6), .val (.ref b1), .val (.int (1 : Int32)), .val (.int (p6 &&& (3 : Int32))), .val (.long ((p1 + (1 : Int64)) + ((p3 &&& (65535 : Int32)).toInt64))), .second, .val (.long ((((p1 + (1 : Int64)) + ((p3 &&& (65535 : Int32)).toInt64)) + (1 : Int64)) + ((p4 &&& (65535 : Int32)).toInt64))), .second, .val (.long ((((((p1 + (1 : Int64)) + ((p3 &&& (65535 : Int32)).toInt64)) + (1 : Int64)) + ((p4 &&& (65535 : Int32)).toInt64)) + (1 : Int64)) + ((p5 &&& (65535 : Int32)).toInt64))), .second] [(.int (p5 >>> ((16 : Int32) &&& 31))), (.long ((((((p1 + (1 : Int64)) + ((p3 &&& (65535 : Int32)).toInt64)) + (1 : Int64)) + ((p4 &&& (65535 : Int32)).toInt64)) + (1 : Int64)) + ((p5 &&& (65535 : Int32)).toInt64))), (.ref b1)])) _
          refine XS.i2dS X17.here hx rfl (hb hby at_187) rfl (v := FP.i2d (p5 >>> ((16 : Int32) &&& 31))) rfl ?_
          exact kz
        obtain ⟨cq22, kq22, q22a, q22b, q22c⟩ := isOf hZ e17 H16.1
        obtain ⟨_, _, ⟨T22, L22, k22, n22⟩, -, X22, ⟨Lc22, hQ22, l22, y22, z22⟩, st22⟩ := X17.virtualBack hx (y := (⟨"com/example/fewbits/fewbits/store/SegmentHull", "add", "(JD)V"⟩ : MethodName)) (z := (⟨"com/example/fewbits/fewbits/store/SegmentHull", "add", "(JD)V"⟩ : MethodName)) hown (mvT hZ (hw _ (List.mem_of_getElem? (i := 50) rfl))) (mvT hZ (hw _ (List.mem_of_getElem? (i := 51) rfl))) (notFace_of_selects (args := #[]) (mvT hZ (hw _ (List.mem_of_getElem? (i := 53) rfl)))) (mvT hZ (hw _ (List.mem_of_getElem? (i := 53) rfl))) (mvT hZ (hw _ (List.mem_of_getElem? (i := 52) rfl))) (by decide) (backOf (W := 0) (rm7_2 l Z a0 hw [] b1 ((((((p1 + (1 : Int64)) + ((p3 &&& (65535 : Int32)).toInt64)) + (1 : Int64)) + ((p4 &&& (65535 : Int32)).toInt64)) + (1 : Int64)) + ((p5 &&& (65535 : Int32)).toInt64)) (FP.i2d (p5 >>> ((16 : Int32) &&& 31))) u tu ru l1 tl rl ku1 ku2 kl1 kl2 ((p1 + (1 : Int64)) + ((p3 &&& (65535 : Int32)).toInt64)) ((((p1 + (1 : Int64)) + ((p3 &&& (65535 : Int32)).toInt64)) + (1 : Int64)) + ((p4 &&& (65535 : Int32)).toInt64)) (0 : Int64) (FP.dsub (FP.i2d (p3 >>> ((16 : Int32) &&& 31))) (FP.i2d p2)) (FP.dsub (FP.i2d (p4 >>> ((16 : Int32) &&& 31))) (FP.i2d p2)) (0 : UInt64) (FP.dneg (FP.dsub (FP.i2d (p3 >>> ((16 : Int32) &&& 31))) (FP.i2d p2))) (FP.dneg (FP.dsub (FP.i2d (p4 >>> ((16 : Int32) &&& 31))) (FP.i2d p2))) (0 : UInt64) (FP.i2d p2) T16.heap n0 Z16 H16 O (own_rise _ _) (own_rise _ _) (own_rise _ _) (own_neg (own_rise _ _)) (own_neg (own_rise _ _)) (own_step _ _) (own_step _ _)) hZ (hw _ (List.mem_of_getElem? (i := 54) rfl)) (hw _ (List.mem_of_getElem? (i := 2) rfl)) (by decide) (by decide)) q22a q22c (g := (mkF m 188 #[.val (.long p1), .second, .val (.int p2), .val (.int p3), .val (.int p4), .val (.int p5), .val (.int p6), .val (.ref b1), .val (.int (1 : Int32)), .val (.int (p6 &&& (3 : Int32))), .val (.long ((p1 + (1 : Int64)) + ((p3 &&& (65535 : Int32)).toInt64))), .second, .val (.long ((((p1 + (1 : Int64)) + ((p3 &&& (65535 : Int32)).toInt64)) + (1 : Int64)) + ((p4 &&& (65535 : Int32)).toInt64))), .second, .val (.long ((((((p1 + (1 : Int64)) + ((p3 &&& (65535 : Int32)).toInt64)) + (1 : Int64)) + ((p4 &&& (65535 : Int32)).toInt64)) + (1 : Int64)) + ((p5 &&& (65535 : Int32)).toInt64))), .second] [(.double (FP.i2d (p5 >>> ((16 : Int32) &&& 31)))), (.long ((((((p1 + (1 : Int64)) + ((p3 &&& (65535 : Int32)).toInt64)) + (1 : Int64)) + ((p4 &&& (65535 : Int32)).toInt64)) + (1 : Int64)) + ((p5 &&& (65535 : Int32)).toInt64))), (.ref b1)])) rfl (by rw [hml]; rfl) (Steps.refl _) (argsL := [(.long ((((((p1 + (1 : Int64)) + ((p3 &&& (65535 : Int32)).toInt64)) + (1 : Int64)) + ((p4 &&& (65535 : Int32)).toInt64)) + (1 : Int64)) + ((p5 &&& (65535 : Int32)).toInt64))), (.double (FP.i2d (p5 >>> ((16 : Int32) &&& 31))))]) (rest := []) (lenOf pd_3 rfl) rfl (by show 2 * 0 + _ ≤ _; exact Nat.le_of_eq rfl) (hb hby at_188) (fun _ _ => ⟨rfl, e17, (by decide : 7 + 0 ≤ _), (by decide : 74 + 0 ≤ _)⟩)
        dsimp only [Pt.U, Pt.locs, Pt.cells, Pt.slots] at X22 l22 y22 z22 st22 hQ22
        subst l22 y22 z22
        obtain ⟨rfl, N22, K22, mu, ml, hmu, hml2, au, bu, al, bl, H22⟩ := hQ22
        have Nf22 := Fr.app Nf17 N22
        refine Goes.via (S' := T22.setTop (mkF m 191 #[.val (.long p1), .second, .val (.int p2), .val (.int p3), .val (.int p4), .val (.int p5), .val (.int p6), .val (.ref b1), .val (.int (1 : Int32)), .val (.int (p6 &&& (3 : Int32))), .val (.long ((p1 + (1 : Int64)) + ((p3 &&& (65535 : Int32)).toInt64))), .second, .val (.long ((((p1 + (1 : Int64)) + ((p3 &&& (65535 : Int32)).toInt64)) + (1 : Int64)) + ((p4 &&& (65535 : Int32)).toInt64))), .second, .val (.long ((((((p1 + (1 : Int64)) + ((p3 &&& (65535 : Int32)).toInt64)) + (1 : Int64)) + ((p4 &&& (65535 : Int32)).toInt64)) + (1 : Int64)) + ((p5 &&& (65535 : Int32)).toInt64))), .second] [])) (fun _ kz => st22.trans kz) ?_
        have Z22 := Nat.le_trans Z16 K22.1
        refine Goes.via (S' := T22.setTop (mkF m 198 #[.val (.long p1), .second, .val (.int p2), .val (.int p3), .val (.int p4), .val (.int p5), .val (.int p6), .val (.ref b1), .val (.int (1 : Int32)), .val (.int (p6 &&& (3 : Int32))), .val (.long ((p1 + (1 : Int64)) + ((p3 &&& (65535 : Int32)).toInt64))), .second, .val (.long ((((p1 + (1 : Int64)) + ((p3 &&& (65535 : Int32)).toInt64)) + (1 : Int64)) + ((p4 &&& (65535 : Int32)).toInt64))), .second, .val (.long ((((((p1 + (1 : Int64)) + ((p3 &&& (65535 : Int32)).toInt64)) + (1 : Int64)) + ((p4 &&& (65535 : Int32)).toInt64)) + (1 : Int64)) + ((p5 &&& (65535 : Int32)).toInt64))), .second] [(.ref b1)])) (fun tz kz => ?_) ?_
        · show Steps p.tables e below (T22.setTop (mkF m 191 #[.val (.long p1), .second, .val (.int p2), .val (.int p3), .val (.int p4), .val (.int p5), .val (.int p6), .val (.ref b1), .val (.int (1 : Int32)), .val (.int (p6 &&& (3 : Int32))), .val (.long ((p1 + (1 : Int64)) + ((p3 &&& (65535 : Int32)).toInt64))), .second, .val (.long ((((p1 + (1 : Int64)) + ((p3 &&& (65535 : Int32)).toInt64)) + (1 : Int64)) + ((p4 &&& (65535 : Int32)).toInt64))), .second, .val (.long ((((((p1 + (1 : Int64)) + ((p3 &&& (65535 : Int32)).toInt64)) + (1 : Int64)) + ((p4 &&& (65535 : Int32)).toInt64)) + (1 : Int64)) + ((p5 &&& (65535 : Int32)).toInt64))), .second] [])) _
          refine XS.iload X22.here hx rfl (hb hby at_191) rfl ?_
          show Steps p.tables e below (T22.setTop (mkF m 193 #[.val (.long p1), .second, .val (.int p2), .val (.int p3), .val (.int p4), .val (.int p5), .val (.int p6), .val (.ref b1), .val (.int (1 : Int32)), .val (.int (p6 &&& (3 : Int32))), .val (.long ((p1 + (1 : Int64)) + ((p3 &&& (65535 : Int32)).toInt64))), .second, .val (.long ((((p1 + (1 : Int64)) + ((p3 &&& (65535 : Int32)).toInt64)) + (1 : Int64)) + ((p4 &&& (65535 : Int32)).toInt64))), .second, .val (.long ((((((p1 + (1 : Int64)) + ((p3 &&& (65535 : Int32)).toInt64)) + (1 : Int64)) + ((p4 &&& (65535 : Int32)).toInt64)) + (1 : Int64)) + ((p5 &&& (65535 : Int32)).toInt64))), .second] [(.int (1 : Int32))])) _
          refine XS.ifNo X22.here hx rfl (hb hby at_193) rfl ((if0 _ _).trans (feq (by decide)).1) ?_
          show Steps p.tables e below (T22.setTop (mkF m 196 #[.val (.long p1), .second, .val (.int p2), .val (.int p3), .val (.int p4), .val (.int p5), .val (.int p6), .val (.ref b1), .val (.int (1 : Int32)), .val (.int (p6 &&& (3 : Int32))), .val (.long ((p1 + (1 : Int64)) + ((p3 &&& (65535 : Int32)).toInt64))), .second, .val (.long ((((p1 + (1 : Int64)) + ((p3 &&& (65535 : Int32)).toInt64)) + (1 : Int64)) + ((p4 &&& (65535 : Int32)).toInt64))), .second, .val (.long ((((((p1 + (1 : Int64)) + ((p3 &&& (65535 : Int32)).toInt64)) + (1 : Int64)) + ((p4 &&& (65535 : Int32)).toInt64)) + (1 : Int64)) + ((p5 &&& (65535 : Int32)).toInt64))), .second] [])) _
          refine XS.aload X22.here hx rfl (hb hby at_196) rfl rfl ?_
          exact kz
        obtain ⟨cq23, kq23, q23a, q23b, q23c⟩ := isOf hZ rfl H22.1
        obtain ⟨_, _, ⟨T23, L23, k23, n23⟩, -, X23, ⟨Lc23, hQ23, l23, y23, z23⟩, st23⟩ := X22.virtualBack hx (y := (⟨"com/example/fewbits/fewbits/store/SegmentHull", "isFull", "()Z"⟩ : MethodName)) (z := (⟨"com/example/fewbits/fewbits/store/SegmentHull", "isFull", "()Z"⟩ : MethodName)) hown (mvT hZ (hw _ (List.mem_of_getElem? (i := 26) rfl))) (mvT hZ (hw _ (List.mem_of_getElem? (i := 27) rfl))) (notFace_of_selects (args := #[]) (mvT hZ (hw _ (List.mem_of_getElem? (i := 29) rfl)))) (mvT hZ (hw _ (List.mem_of_getElem? (i := 29) rfl))) (mvT hZ (hw _ (List.mem_of_getElem? (i := 28) rfl))) (by decide) (backOf (W := 0) (rm4 l Z a0 hw [] b1 u tu ru l1 tl rl ku1 ku2 kl1 kl2 au bu mu al bl ml (FP.i2d p2) T22.heap n0 Z22 H22 (by rcases hmu with rfl | rfl <;> decide) (by rcases hml2 with rfl | rfl <;> decide)) hZ (hw _ (List.mem_of_getElem? (i := 30) rfl)) (hw _ (List.mem_of_getElem? (i := 2) rfl)) (by decide) (by decide)) q23a q23c (g := (mkF m 198 #[.val (.long p1), .second, .val (.int p2), .val (.int p3), .val (.int p4), .val (.int p5), .val (.int p6), .val (.ref b1), .val (.int (1 : Int32)), .val (.int (p6 &&& (3 : Int32))), .val (.long ((p1 + (1 : Int64)) + ((p3 &&& (65535 : Int32)).toInt64))), .second, .val (.long ((((p1 + (1 : Int64)) + ((p3 &&& (65535 : Int32)).toInt64)) + (1 : Int64)) + ((p4 &&& (65535 : Int32)).toInt64))), .second, .val (.long ((((((p1 + (1 : Int64)) + ((p3 &&& (65535 : Int32)).toInt64)) + (1 : Int64)) + ((p4 &&& (65535 : Int32)).toInt64)) + (1 : Int64)) + ((p5 &&& (65535 : Int32)).toInt64))), .second] [(.ref b1)])) rfl (by rw [hml]; rfl) (Steps.refl _) (argsL := []) (rest := []) (lenOf pd_4 rfl) rfl (by show 2 * 0 + _ ≤ _; exact Nat.le_of_eq rfl) (hb hby at_198) (fun _ _ => ⟨rfl, rfl, (by decide : 7 + 0 ≤ _), (by decide : 74 + 0 ≤ _)⟩)
        dsimp only [Pt.U, Pt.locs, Pt.cells, Pt.slots] at X23 l23 y23 z23 st23 hQ23
        subst l23 y23 z23
        obtain ⟨rfl, N23, e23⟩ := hQ23
        have Nf23 := Fr.app Nf22 N23
        refine Goes.via (S' := T23.setTop (mkF m 201 #[.val (.long p1), .second, .val (.int p2), .val (.int p3), .val (.int p4), .val (.int p5), .val (.int p6), .val (.ref b1), .val (.int (1 : Int32)), .val (.int (p6 &&& (3 : Int32))), .val (.long ((p1 + (1 : Int64)) + ((p3 &&& (65535 : Int32)).toInt64))), .second, .val (.long ((((p1 + (1 : Int64)) + ((p3 &&& (65535 : Int32)).toInt64)) + (1 : Int64)) + ((p4 &&& (65535 : Int32)).toInt64))), .second, .val (.long ((((((p1 + (1 : Int64)) + ((p3 &&& (65535 : Int32)).toInt64)) + (1 : Int64)) + ((p4 &&& (65535 : Int32)).toInt64)) + (1 : Int64)) + ((p5 &&& (65535 : Int32)).toInt64))), .second] [(.int (0 : Int32))])) (fun _ kz => st23.trans kz) ?_
        refine Goes.via (S' := T23.setTop (mkF m 215 #[.val (.long p1), .second, .val (.int p2), .val (.int p3), .val (.int p4), .val (.int p5), .val (.int p6), .val (.ref b1), .val (.int (1 : Int32)), .val (.int (p6 &&& (3 : Int32))), .val (.long ((p1 + (1 : Int64)) + ((p3 &&& (65535 : Int32)).toInt64))), .second, .val (.long ((((p1 + (1 : Int64)) + ((p3 &&& (65535 : Int32)).toInt64)) + (1 : Int64)) + ((p4 &&& (65535 : Int32)).toInt64))), .second, .val (.long ((((((p1 + (1 : Int64)) + ((p3 &&& (65535 : Int32)).toInt64)) + (1 : Int64)) + ((p4 &&& (65535 : Int32)).toInt64)) + (1 : Int64)) + ((p5 &&& (65535 : Int32)).toInt64))), .second] [(.int (p6 &&& (4 : Int32)))])) (fun tz kz => ?_) ?_
        · show Steps p.tables e below (T23.setTop (mkF m 201 #[.val (.long p1), .second, .val (.int p2), .val (.int p3), .val (.int p4), .val (.int p5), .val (.int p6), .val (.ref b1), .val (.int (1 : Int32)), .val (.int (p6 &&& (3 : Int32))), .val (.long ((p1 + (1 : Int64)) + ((p3 &&& (65535 : Int32)).toInt64))), .second, .val (.long ((((p1 + (1 : Int64)) + ((p3 &&& (65535 : Int32)).toInt64)) + (1 : Int64)) + ((p4 &&& (65535 : Int32)).toInt64))), .second, .val (.long ((((((p1 + (1 : Int64)) + ((p3 &&& (65535 : Int32)).toInt64)) + (1 : Int64)) + ((p4 &&& (65535 : Int32)).toInt64)) + (1 : Int64)) + ((p5 &&& (65535 : Int32)).toInt64))), .second] [(.int (0 : Int32))])) _
          refine XS.ifNo X23.here hx rfl (hb hby at_201) rfl ((if0 _ _).trans (teq (by decide)).2) ?_
          show Steps p.tables e below (T23.setTop (mkF m 204 #[.val (.long p1), .second, .val (.int p2), .val (.int p3), .val (.int p4), .val (.int p5), .val (.int p6), .val (.ref b1), .val (.int (1 : Int32)), .val (.int (p6 &&& (3 : Int32))), .val (.long ((p1 + (1 : Int64)) + ((p3 &&& (65535 : Int32)).toInt64))), .second, .val (.long ((((p1 + (1 : Int64)) + ((p3 &&& (65535 : Int32)).toInt64)) + (1 : Int64)) + ((p4 &&& (65535 : Int32)).toInt64))), .second, .val (.long ((((((p1 + (1 : Int64)) + ((p3 &&& (65535 : Int32)).toInt64)) + (1 : Int64)) + ((p4 &&& (65535 : Int32)).toInt64)) + (1 : Int64)) + ((p5 &&& (65535 : Int32)).toInt64))), .second] [])) _
          refine XS.iconst X23.here hx rfl (hb hby at_204) ?_
          show Steps p.tables e below (T23.setTop (mkF m 205 #[.val (.long p1), .second, .val (.int p2), .val (.int p3), .val (.int p4), .val (.int p5), .val (.int p6), .val (.ref b1), .val (.int (1 : Int32)), .val (.int (p6 &&& (3 : Int32))), .val (.long ((p1 + (1 : Int64)) + ((p3 &&& (65535 : Int32)).toInt64))), .second, .val (.long ((((p1 + (1 : Int64)) + ((p3 &&& (65535 : Int32)).toInt64)) + (1 : Int64)) + ((p4 &&& (65535 : Int32)).toInt64))), .second, .val (.long ((((((p1 + (1 : Int64)) + ((p3 &&& (65535 : Int32)).toInt64)) + (1 : Int64)) + ((p4 &&& (65535 : Int32)).toInt64)) + (1 : Int64)) + ((p5 &&& (65535 : Int32)).toInt64))), .second] [(.int (1 : Int32))])) _
          refine XS.goto X23.here hx rfl (pc0 := 205) (pc' := 209) rfl (hb hby at_205) (by decide) (by decide) ?_
          show Steps p.tables e below (T23.setTop (mkF m 209 #[.val (.long p1), .second, .val (.int p2), .val (.int p3), .val (.int p4), .val (.int p5), .val (.int p6), .val (.ref b1), .val (.int (1 : Int32)), .val (.int (p6 &&& (3 : Int32))), .val (.long ((p1 + (1 : Int64)) + ((p3 &&& (65535 : Int32)).toInt64))), .second, .val (.long ((((p1 + (1 : Int64)) + ((p3 &&& (65535 : Int32)).toInt64)) + (1 : Int64)) + ((p4 &&& (65535 : Int32)).toInt64))), .second, .val (.long ((((((p1 + (1 : Int64)) + ((p3 &&& (65535 : Int32)).toInt64)) + (1 : Int64)) + ((p4 &&& (65535 : Int32)).toInt64)) + (1 : Int64)) + ((p5 &&& (65535 : Int32)).toInt64))), .second] [(.int (1 : Int32))])) _
          refine XS.istore X23.here hx rfl (hb hby at_209) rfl (l' := #[.val (.long p1), .second, .val (.int p2), .val (.int p3), .val (.int p4), .val (.int p5), .val (.int p6), .val (.ref b1), .val (.int (1 : Int32)), .val (.int (p6 &&& (3 : Int32))), .val (.long ((p1 + (1 : Int64)) + ((p3 &&& (65535 : Int32)).toInt64))), .second, .val (.long ((((p1 + (1 : Int64)) + ((p3 &&& (65535 : Int32)).toInt64)) + (1 : Int64)) + ((p4 &&& (65535 : Int32)).toInt64))), .second, .val (.long ((((((p1 + (1 : Int64)) + ((p3 &&& (65535 : Int32)).toInt64)) + (1 : Int64)) + ((p4 &&& (65535 : Int32)).toInt64)) + (1 : Int64)) + ((p5 &&& (65535 : Int32)).toInt64))), .second]) rfl ?_
          show Steps p.tables e below (T23.setTop (mkF m 211 #[.val (.long p1), .second, .val (.int p2), .val (.int p3), .val (.int p4), .val (.int p5), .val (.int p6), .val (.ref b1), .val (.int (1 : Int32)), .val (.int (p6 &&& (3 : Int32))), .val (.long ((p1 + (1 : Int64)) + ((p3 &&& (65535 : Int32)).toInt64))), .second, .val (.long ((((p1 + (1 : Int64)) + ((p3 &&& (65535 : Int32)).toInt64)) + (1 : Int64)) + ((p4 &&& (65535 : Int32)).toInt64))), .second, .val (.long ((((((p1 + (1 : Int64)) + ((p3 &&& (65535 : Int32)).toInt64)) + (1 : Int64)) + ((p4 &&& (65535 : Int32)).toInt64)) + (1 : Int64)) + ((p5 &&& (65535 : Int32)).toInt64))), .second] [])) _
          refine XS.iload X23.here hx rfl (hb hby at_211) rfl ?_
          show Steps p.tables e below (T23.setTop (mkF m 213 #[.val (.long p1), .second, .val (.int p2), .val (.int p3), .val (.int p4), .val (.int p5), .val (.int p6), .val (.ref b1), .val (.int (1 : Int32)), .val (.int (p6 &&& (3 : Int32))), .val (.long ((p1 + (1 : Int64)) + ((p3 &&& (65535 : Int32)).toInt64))), .second, .val (.long ((((p1 + (1 : Int64)) + ((p3 &&& (65535 : Int32)).toInt64)) + (1 : Int64)) + ((p4 &&& (65535 : Int32)).toInt64))), .second, .val (.long ((((((p1 + (1 : Int64)) + ((p3 &&& (65535 : Int32)).toInt64)) + (1 : Int64)) + ((p4 &&& (65535 : Int32)).toInt64)) + (1 : Int64)) + ((p5 &&& (65535 : Int32)).toInt64))), .second] [(.int p6)])) _
          refine XS.iconst X23.here hx rfl (hb hby at_213) ?_
          show Steps p.tables e below (T23.setTop (mkF m 214 #[.val (.long p1), .second, .val (.int p2), .val (.int p3), .val (.int p4), .val (.int p5), .val (.int p6), .val (.ref b1), .val (.int (1 : Int32)), .val (.int (p6 &&& (3 : Int32))), .val (.long ((p1 + (1 : Int64)) + ((p3 &&& (65535 : Int32)).toInt64))), .second, .val (.long ((((p1 + (1 : Int64)) + ((p3 &&& (65535 : Int32)).toInt64)) + (1 : Int64)) + ((p4 &&& (65535 : Int32)).toInt64))), .second, .val (.long ((((((p1 + (1 : Int64)) + ((p3 &&& (65535 : Int32)).toInt64)) + (1 : Int64)) + ((p4 &&& (65535 : Int32)).toInt64)) + (1 : Int64)) + ((p5 &&& (65535 : Int32)).toInt64))), .second] [(.int (4 : Int32)), (.int p6)])) _
          refine XS.iand X23.here hx rfl (hb hby at_214) rfl ?_
          exact kz
        by_cases hc215_24 : (p6 &&& (4 : Int32)) = (0 : Int32)
        · refine Goes.via (S' := T23.setTop (mkF m 262 #[.val (.long p1), .second, .val (.int p2), .val (.int p3), .val (.int p4), .val (.int p5), .val (.int p6), .val (.ref b1), .val (.int (1 : Int32)), .val (.int (p6 &&& (3 : Int32))), .val (.long ((p1 + (1 : Int64)) + ((p3 &&& (65535 : Int32)).toInt64))), .second, .val (.long ((((p1 + (1 : Int64)) + ((p3 &&& (65535 : Int32)).toInt64)) + (1 : Int64)) + ((p4 &&& (65535 : Int32)).toInt64))), .second, .val (.long ((((((p1 + (1 : Int64)) + ((p3 &&& (65535 : Int32)).toInt64)) + (1 : Int64)) + ((p4 &&& (65535 : Int32)).toInt64)) + (1 : Int64)) + ((p5 &&& (65535 : Int32)).toInt64))), .second] [(.int (1 : Int32))])) (fun tz kz => ?_) ?_
          · show Steps p.tables e below (T23.setTop (mkF m 215 #[.val (.long p1), .second, .val (.int p2), .val (.int p3), .val (.int p4), .val (.int p5), .val (.int p6), .val (.ref b1), .val (.int (1 : Int32)), .val (.int (p6 &&& (3 : Int32))), .val (.long ((p1 + (1 : Int64)) + ((p3 &&& (65535 : Int32)).toInt64))), .second, .val (.long ((((p1 + (1 : Int64)) + ((p3 &&& (65535 : Int32)).toInt64)) + (1 : Int64)) + ((p4 &&& (65535 : Int32)).toInt64))), .second, .val (.long ((((((p1 + (1 : Int64)) + ((p3 &&& (65535 : Int32)).toInt64)) + (1 : Int64)) + ((p4 &&& (65535 : Int32)).toInt64)) + (1 : Int64)) + ((p5 &&& (65535 : Int32)).toInt64))), .second] [(.int (p6 &&& (4 : Int32)))])) _
            refine XS.ifYes X23.here hx rfl (pc0 := 215) (pc' := 252) rfl (hb hby at_215) rfl ((if0 _ _).trans (teq hc215_24).1) (by decide) (by decide) ?_
            show Steps p.tables e below (T23.setTop (mkF m 252 #[.val (.long p1), .second, .val (.int p2), .val (.int p3), .val (.int p4), .val (.int p5), .val (.int p6), .val (.ref b1), .val (.int (1 : Int32)), .val (.int (p6 &&& (3 : Int32))), .val (.long ((p1 + (1 : Int64)) + ((p3 &&& (65535 : Int32)).toInt64))), .second, .val (.long ((((p1 + (1 : Int64)) + ((p3 &&& (65535 : Int32)).toInt64)) + (1 : Int64)) + ((p4 &&& (65535 : Int32)).toInt64))), .second, .val (.long ((((((p1 + (1 : Int64)) + ((p3 &&& (65535 : Int32)).toInt64)) + (1 : Int64)) + ((p4 &&& (65535 : Int32)).toInt64)) + (1 : Int64)) + ((p5 &&& (65535 : Int32)).toInt64))), .second] [])) _
            refine XS.iload X23.here hx rfl (hb hby at_252) rfl ?_
            show Steps p.tables e below (T23.setTop (mkF m 254 #[.val (.long p1), .second, .val (.int p2), .val (.int p3), .val (.int p4), .val (.int p5), .val (.int p6), .val (.ref b1), .val (.int (1 : Int32)), .val (.int (p6 &&& (3 : Int32))), .val (.long ((p1 + (1 : Int64)) + ((p3 &&& (65535 : Int32)).toInt64))), .second, .val (.long ((((p1 + (1 : Int64)) + ((p3 &&& (65535 : Int32)).toInt64)) + (1 : Int64)) + ((p4 &&& (65535 : Int32)).toInt64))), .second, .val (.long ((((((p1 + (1 : Int64)) + ((p3 &&& (65535 : Int32)).toInt64)) + (1 : Int64)) + ((p4 &&& (65535 : Int32)).toInt64)) + (1 : Int64)) + ((p5 &&& (65535 : Int32)).toInt64))), .second] [(.int (1 : Int32))])) _
            refine XS.ifNo X23.here hx rfl (hb hby at_254) rfl ((if0 _ _).trans (feq (by decide)).1) ?_
            show Steps p.tables e below (T23.setTop (mkF m 257 #[.val (.long p1), .second, .val (.int p2), .val (.int p3), .val (.int p4), .val (.int p5), .val (.int p6), .val (.ref b1), .val (.int (1 : Int32)), .val (.int (p6 &&& (3 : Int32))), .val (.long ((p1 + (1 : Int64)) + ((p3 &&& (65535 : Int32)).toInt64))), .second, .val (.long ((((p1 + (1 : Int64)) + ((p3 &&& (65535 : Int32)).toInt64)) + (1 : Int64)) + ((p4 &&& (65535 : Int32)).toInt64))), .second, .val (.long ((((((p1 + (1 : Int64)) + ((p3 &&& (65535 : Int32)).toInt64)) + (1 : Int64)) + ((p4 &&& (65535 : Int32)).toInt64)) + (1 : Int64)) + ((p5 &&& (65535 : Int32)).toInt64))), .second] [])) _
            refine XS.iconst X23.here hx rfl (hb hby at_257) ?_
            show Steps p.tables e below (T23.setTop (mkF m 258 #[.val (.long p1), .second, .val (.int p2), .val (.int p3), .val (.int p4), .val (.int p5), .val (.int p6), .val (.ref b1), .val (.int (1 : Int32)), .val (.int (p6 &&& (3 : Int32))), .val (.long ((p1 + (1 : Int64)) + ((p3 &&& (65535 : Int32)).toInt64))), .second, .val (.long ((((p1 + (1 : Int64)) + ((p3 &&& (65535 : Int32)).toInt64)) + (1 : Int64)) + ((p4 &&& (65535 : Int32)).toInt64))), .second, .val (.long ((((((p1 + (1 : Int64)) + ((p3 &&& (65535 : Int32)).toInt64)) + (1 : Int64)) + ((p4 &&& (65535 : Int32)).toInt64)) + (1 : Int64)) + ((p5 &&& (65535 : Int32)).toInt64))), .second] [(.int (1 : Int32))])) _
            refine XS.goto X23.here hx rfl (pc0 := 258) (pc' := 262) rfl (hb hby at_258) (by decide) (by decide) ?_
            exact kz
          exact Goes.retN X23 hx Bd.notSynchronized (t := .boolean) Bd.returns (by simp) (hb hby at_262) (Nat.le_of_ble_eq_true rfl) (Nat.le_of_ble_eq_true rfl) ⟨rfl, Nf23⟩
        · refine Goes.via (S' := T23.setTop (mkF m 229 #[.val (.long p1), .second, .val (.int p2), .val (.int p3), .val (.int p4), .val (.int p5), .val (.int p6), .val (.ref b1), .val (.int (1 : Int32)), .val (.int (p6 &&& (3 : Int32))), .val (.long ((p1 + (1 : Int64)) + ((p3 &&& (65535 : Int32)).toInt64))), .second, .val (.long ((((p1 + (1 : Int64)) + ((p3 &&& (65535 : Int32)).toInt64)) + (1 : Int64)) + ((p4 &&& (65535 : Int32)).toInt64))), .second, .val (.long ((((((p1 + (1 : Int64)) + ((p3 &&& (65535 : Int32)).toInt64)) + (1 : Int64)) + ((p4 &&& (65535 : Int32)).toInt64)) + (1 : Int64)) + ((p5 &&& (65535 : Int32)).toInt64))), .second] [(.double (FP.i2d (p6 >>> ((3 : Int32) &&& 31)))), (.long (((((((p1 + (1 : Int64)) + ((p3 &&& (65535 : Int32)).toInt64)) + (1 : Int64)) + ((p4 &&& (65535 : Int32)).toInt64)) + (1 : Int64)) + ((p5 &&& (65535 : Int32)).toInt64)) + (1 : Int64))), (.ref b1)])) (fun tz kz => ?_) ?_
          · show Steps p.tables e below (T23.setTop (mkF m 215 #[.val (.long p1), .second, .val (.int p2), .val (.int p3), .val (.int p4), .val (.int p5), .val (.int p6), .val (.ref b1), .val (.int (1 : Int32)), .val (.int (p6 &&& (3 : Int32))), .val (.long ((p1 + (1 : Int64)) + ((p3 &&& (65535 : Int32)).toInt64))), .second, .val (.long ((((p1 + (1 : Int64)) + ((p3 &&& (65535 : Int32)).toInt64)) + (1 : Int64)) + ((p4 &&& (65535 : Int32)).toInt64))), .second, .val (.long ((((((p1 + (1 : Int64)) + ((p3 &&& (65535 : Int32)).toInt64)) + (1 : Int64)) + ((p4 &&& (65535 : Int32)).toInt64)) + (1 : Int64)) + ((p5 &&& (65535 : Int32)).toInt64))), .second] [(.int (p6 &&& (4 : Int32)))])) _
            refine XS.ifNo X23.here hx rfl (hb hby at_215) rfl ((if0 _ _).trans (feq hc215_24).1) ?_
            show Steps p.tables e below (T23.setTop (mkF m 218 #[.val (.long p1), .second, .val (.int p2), .val (.int p3), .val (.int p4), .val (.int p5), .val (.int p6), .val (.ref b1), .val (.int (1 : Int32)), .val (.int (p6 &&& (3 : Int32))), .val (.long ((p1 + (1 : Int64)) + ((p3 &&& (65535 : Int32)).toInt64))), .second, .val (.long ((((p1 + (1 : Int64)) + ((p3 &&& (65535 : Int32)).toInt64)) + (1 : Int64)) + ((p4 &&& (65535 : Int32)).toInt64))), .second, .val (.long ((((((p1 + (1 : Int64)) + ((p3 &&& (65535 : Int32)).toInt64)) + (1 : Int64)) + ((p4 &&& (65535 : Int32)).toInt64)) + (1 : Int64)) + ((p5 &&& (65535 : Int32)).toInt64))), .second] [])) _
            refine XS.aload X23.here hx rfl (hb hby at_218) rfl rfl ?_
            show Steps p.tables e below (T23.setTop (mkF m 220 #[.val (.long p1), .second, .val (.int p2), .val (.int p3), .val (.int p4), .val (.int p5), .val (.int p6), .val (.ref b1), .val (.int (1 : Int32)), .val (.int (p6 &&& (3 : Int32))), .val (.long ((p1 + (1 : Int64)) + ((p3 &&& (65535 : Int32)).toInt64))), .second, .val (.long ((((p1 + (1 : Int64)) + ((p3 &&& (65535 : Int32)).toInt64)) + (1 : Int64)) + ((p4 &&& (65535 : Int32)).toInt64))), .second, .val (.long ((((((p1 + (1 : Int64)) + ((p3 &&& (65535 : Int32)).toInt64)) + (1 : Int64)) + ((p4 &&& (65535 : Int32)).toInt64)) + (1 : Int64)) + ((p5 &&& (65535 : Int32)).toInt64))), .second] [(.ref b1)])) _
            refine XS.lload X23.here hx rfl (hb hby at_220) rfl ?_
            show Steps p.tables e below (T23.setTop (mkF m 222 #[.val (.long p1), .second, .val (.int p2), .val (.int p3), .val (.int p4), .val (.int p5), .val (.int p6), .val (.ref b1), .val (.int (1 : Int32)), .val (.int (p6 &&& (3 : Int32))), .val (.long ((p1 + (1 : Int64)) + ((p3 &&& (65535 : Int32)).toInt64))), .second, .val (.long ((((p1 + (1 : Int64)) + ((p3 &&& (65535 : Int32)).toInt64)) + (1 : Int64)) + ((p4 &&& (65535 : Int32)).toInt64))), .second, .val (.long ((((((p1 + (1 : Int64)) + ((p3 &&& (65535 : Int32)).toInt64)) + (1 : Int64)) + ((p4 &&& (65535 : Int32)).toInt64)) + (1 : Int64)) + ((p5 &&& (65535 : Int32)).toInt64))), .second] [(.long ((((((p1 + (1 : Int64)) + ((p3 &&& (65535 : Int32)).toInt64)) + (1 : Int64)) + ((p4 &&& (65535 : Int32)).toInt64)) + (1 : Int64)) + ((p5 &&& (65535 : Int32)).toInt64))), (.ref b1)])) _
            refine XS.lconst X23.here hx rfl (hb hby at_222) ?_
            show Steps p.tables e below (T23.setTop (mkF m 223 #[.val (.long p1), .second, .val (.int p2), .val (.int p3), .val (.int p4), .val (.int p5), .val (.int p6), .val (.ref b1), .val (.int (1 : Int32)), .val (.int (p6 &&& (3 : Int32))), .val (.long ((p1 + (1 : Int64)) + ((p3 &&& (65535 : Int32)).toInt64))), .second, .val (.long ((((p1 + (1 : Int64)) + ((p3 &&& (65535 : Int32)).toInt64)) + (1 : Int64)) + ((p4 &&& (65535 : Int32)).toInt64))), .second, .val (.long ((((((p1 + (1 : Int64)) + ((p3 &&& (65535 : Int32)).toInt64)) + (1 : Int64)) + ((p4 &&& (65535 : Int32)).toInt64)) + (1 : Int64)) + ((p5 &&& (65535 : Int32)).toInt64))), .second] [(.long (1 : Int64)), (.long ((((((p1 + (1 : Int64)) + ((p3 &&& (65535 : Int32)).toInt64)) + (1 : Int64)) + ((p4 &&& (65535 : Int32)).toInt64)) + (1 : Int64)) + ((p5 &&& (65535 : Int32)).toInt64))), (.ref b1)])) _
            refine XS.ladd X23.here hx rfl (hb hby at_223) rfl ?_
            show Steps p.tables e below (T23.setTop (mkF m 224 #[.val (.long p1), .second, .val (.int p2), .val (.int p3), .val (.int p4), .val (.int p5), .val (.int p6), .val (.ref b1), .val (.int (1 : Int32)), .val (.int (p6 &&& (3 : Int32))), .val (.long ((p1 + (1 : Int64)) + ((p3 &&& (65535 : Int32)).toInt64))), .second, .val (.long ((((p1 + (1 : Int64)) + ((p3 &&& (65535 : Int32)).toInt64)) + (1 : Int64)) + ((p4 &&& (65535 : Int32)).toInt64))), .second, .val (.long ((((((p1 + (1 : Int64)) + ((p3 &&& (65535 : Int32)).toInt64)) + (1 : Int64)) + ((p4 &&& (65535 : Int32)).toInt64)) + (1 : Int64)) + ((p5 &&& (65535 : Int32)).toInt64))), .second] [(.long (((((((p1 + (1 : Int64)) + ((p3 &&& (65535 : Int32)).toInt64)) + (1 : Int64)) + ((p4 &&& (65535 : Int32)).toInt64)) + (1 : Int64)) + ((p5 &&& (65535 : Int32)).toInt64)) + (1 : Int64))), (.ref b1)])) _
            refine XS.iload X23.here hx rfl (hb hby at_224) rfl ?_
            show Steps p.tables e below (T23.setTop (mkF m 226 #[.val (.long p1), .second, .val (.int p2), .val (.int p3), .val (.int p4), .val (.int p5), .val (.int p6), .val (.ref b1), .val (.int (1 : Int32)), .val (.int (p6 &&& (3 : Int32))), .val (.long ((p1 + (1 : Int64)) + ((p3 &&& (65535 : Int32)).toInt64))), .second, .val (.long ((((p1 + (1 : Int64)) + ((p3 &&& (65535 : Int32)).toInt64)) + (1 : Int64)) + ((p4 &&& (65535 : Int32)).toInt64))), .second, .val (.long ((((((p1 + (1 : Int64)) + ((p3 &&& (65535 : Int32)).toInt64)) + (1 : Int64)) + ((p4 &&& (65535 : Int32)).toInt64)) + (1 : Int64)) + ((p5 &&& (65535 : Int32)).toInt64))), .second] [(.int p6), (.long (((((((p1 + (1 : Int64)) + ((p3 &&& (65535 : Int32)).toInt64)) + (1 : Int64)) + ((p4 &&& (65535 : Int32)).toInt64)) + (1 : Int64)) + ((p5 &&& (65535 : Int32)).toInt64)) + (1 : Int64))), (.ref b1)])) _
            refine XS.iconst X23.here hx rfl (hb hby at_226) ?_
            show Steps p.tables e below (T23.setTop (mkF m 227 #[.val (.long p1), .second, .val (.int p2), .val (.int p3), .val (.int p4), .val (.int p5), .val (.int p6), .val (.ref b1), .val (.int (1 : Int32)), .val (.int (p6 &&& (3 : Int32))), .val (.long ((p1 + (1 : Int64)) + ((p3 &&& (65535 : Int32)).toInt64))), .second, .val (.long ((((p1 + (1 : Int64)) + ((p3 &&& (65535 : Int32)).toInt64)) + (1 : Int64)) + ((p4 &&& (65535 : Int32)).toInt64))), .second, .val (.long ((((((p1 + (1 : Int64)) + ((p3 &&& (65535 : Int32)).toInt64)) + (1 : Int64)) + ((p4 &&& (65535 : Int32)).toInt64)) + (1 : Int64)) + ((p5 &&& (65535 : Int32)).toInt64))), .second] [(.int (3 : Int32)), (.int p6), (.long (((((((p1 + (1 : Int64)) + ((p3 &&& (65535 : Int32)).toInt64)) + (1 : Int64)) + ((p4 &&& (65535 : Int32)).toInt64)) + (1 : Int64)) + ((p5 &&& (65535 : Int32)).toInt64)) + (1 : Int64))), (.ref b1)])) _
            refine XS.ishr X23.here hx rfl (hb hby at_227) rfl ?_
            show Steps p.tables e below (T23.setTop (mkF m 228 #[.val (.long p1), .second, .val (.int p2), .val (.int p3), .val (.int p4), .val (.int p5), .val (.int p6), .val (.ref b1), .val (.int (1 : Int32)), .val (.int (p6 &&& (3 : Int32))), .val (.long ((p1 + (1 : Int64)) + ((p3 &&& (65535 : Int32)).toInt64))), .second, .val (.long ((((p1 + (1 : Int64)) + ((p3 &&& (65535 : Int32)).toInt64)) + (1 : Int64)) + ((p4 &&& (65535 : Int32)).toInt64))), .second, .val (.long ((((((p1 + (1 : Int64)) + ((p3 &&& (65535 : Int32)).toInt64)) + (1 : Int64)) + ((p4 &&& (65535 : Int32)).toInt64)) + (1 : Int64)) + ((p5 &&& (65535 : Int32)).toInt64))), .second] [(.int (p6 >>> ((3 : Int32) &&& 31))), (.long (((((((p1 + (1 : Int64)) + ((p3 &&& (65535 : Int32)).toInt64)) + (1 : Int64)) + ((p4 &&& (65535 : Int32)).toInt64)) + (1 : Int64)) + ((p5 &&& (65535 : Int32)).toInt64)) + (1 : Int64))), (.ref b1)])) _
            refine XS.i2dS X23.here hx rfl (hb hby at_228) rfl (v := FP.i2d (p6 >>> ((3 : Int32) &&& 31))) rfl ?_
            exact kz
          obtain ⟨cq25, kq25, q25a, q25b, q25c⟩ := isOf hZ e23 H22.1
          obtain ⟨_, _, ⟨T25, L25, k25, n25⟩, -, X25, ⟨Lc25, hQ25, l25, y25, z25⟩, st25⟩ := X23.virtualBack hx (y := (⟨"com/example/fewbits/fewbits/store/SegmentHull", "start", "(JD)V"⟩ : MethodName)) (z := (⟨"com/example/fewbits/fewbits/store/SegmentHull", "start", "(JD)V"⟩ : MethodName)) hown (mvT hZ (hw _ (List.mem_of_getElem? (i := 34) rfl))) (mvT hZ (hw _ (List.mem_of_getElem? (i := 35) rfl))) (notFace_of_selects (args := #[]) (mvT hZ (hw _ (List.mem_of_getElem? (i := 37) rfl)))) (mvT hZ (hw _ (List.mem_of_getElem? (i := 37) rfl))) (mvT hZ (hw _ (List.mem_of_getElem? (i := 36) rfl))) (by decide) (backOf (W := 0) (rm5 l Z a0 hw [] b1 (((((((p1 + (1 : Int64)) + ((p3 &&& (65535 : Int32)).toInt64)) + (1 : Int64)) + ((p4 &&& (65535 : Int32)).toInt64)) + (1 : Int64)) + ((p5 &&& (65535 : Int32)).toInt64)) + (1 : Int64)) (FP.i2d (p6 >>> ((3 : Int32) &&& 31))) u tu ru l1 tl rl ku1 ku2 kl1 kl2 au bu mu al bl ml (FP.i2d p2) T22.heap n0 Z22 H22 O) hZ (hw _ (List.mem_of_getElem? (i := 38) rfl)) (hw _ (List.mem_of_getElem? (i := 2) rfl)) (by decide) (by decide)) q25a q25c (g := (mkF m 229 #[.val (.long p1), .second, .val (.int p2), .val (.int p3), .val (.int p4), .val (.int p5), .val (.int p6), .val (.ref b1), .val (.int (1 : Int32)), .val (.int (p6 &&& (3 : Int32))), .val (.long ((p1 + (1 : Int64)) + ((p3 &&& (65535 : Int32)).toInt64))), .second, .val (.long ((((p1 + (1 : Int64)) + ((p3 &&& (65535 : Int32)).toInt64)) + (1 : Int64)) + ((p4 &&& (65535 : Int32)).toInt64))), .second, .val (.long ((((((p1 + (1 : Int64)) + ((p3 &&& (65535 : Int32)).toInt64)) + (1 : Int64)) + ((p4 &&& (65535 : Int32)).toInt64)) + (1 : Int64)) + ((p5 &&& (65535 : Int32)).toInt64))), .second] [(.double (FP.i2d (p6 >>> ((3 : Int32) &&& 31)))), (.long (((((((p1 + (1 : Int64)) + ((p3 &&& (65535 : Int32)).toInt64)) + (1 : Int64)) + ((p4 &&& (65535 : Int32)).toInt64)) + (1 : Int64)) + ((p5 &&& (65535 : Int32)).toInt64)) + (1 : Int64))), (.ref b1)])) rfl (by rw [hml]; rfl) (Steps.refl _) (argsL := [(.long (((((((p1 + (1 : Int64)) + ((p3 &&& (65535 : Int32)).toInt64)) + (1 : Int64)) + ((p4 &&& (65535 : Int32)).toInt64)) + (1 : Int64)) + ((p5 &&& (65535 : Int32)).toInt64)) + (1 : Int64))), (.double (FP.i2d (p6 >>> ((3 : Int32) &&& 31))))]) (rest := []) (lenOf pd_3 rfl) rfl (by show 2 * 0 + _ ≤ _; exact Nat.le_of_eq rfl) (hb hby at_229) (fun _ _ => ⟨rfl, e23, (by decide : 7 + 0 ≤ _), (by decide : 74 + 0 ≤ _)⟩)
          dsimp only [Pt.U, Pt.locs, Pt.cells, Pt.slots] at X25 l25 y25 z25 st25 hQ25
          subst l25 y25 z25
          obtain ⟨rfl, N25, K25, H25⟩ := hQ25
          have Nf25 := Fr.app Nf23 N25
          refine Goes.via (S' := T25.setTop (mkF m 232 #[.val (.long p1), .second, .val (.int p2), .val (.int p3), .val (.int p4), .val (.int p5), .val (.int p6), .val (.ref b1), .val (.int (1 : Int32)), .val (.int (p6 &&& (3 : Int32))), .val (.long ((p1 + (1 : Int64)) + ((p3 &&& (65535 : Int32)).toInt64))), .second, .val (.long ((((p1 + (1 : Int64)) + ((p3 &&& (65535 : Int32)).toInt64)) + (1 : Int64)) + ((p4 &&& (65535 : Int32)).toInt64))), .second, .val (.long ((((((p1 + (1 : Int64)) + ((p3 &&& (65535 : Int32)).toInt64)) + (1 : Int64)) + ((p4 &&& (65535 : Int32)).toInt64)) + (1 : Int64)) + ((p5 &&& (65535 : Int32)).toInt64))), .second] [])) (fun _ kz => st25.trans kz) ?_
          have Z25 := Nat.le_trans Z22 K25.1
          refine Goes.via (S' := T25.setTop (mkF m 239 #[.val (.long p1), .second, .val (.int p2), .val (.int p3), .val (.int p4), .val (.int p5), .val (.int p6), .val (.ref b1), .val (.int (1 : Int32)), .val (.int (p6 &&& (3 : Int32))), .val (.long ((p1 + (1 : Int64)) + ((p3 &&& (65535 : Int32)).toInt64))), .second, .val (.long ((((p1 + (1 : Int64)) + ((p3 &&& (65535 : Int32)).toInt64)) + (1 : Int64)) + ((p4 &&& (65535 : Int32)).toInt64))), .second, .val (.long ((((((p1 + (1 : Int64)) + ((p3 &&& (65535 : Int32)).toInt64)) + (1 : Int64)) + ((p4 &&& (65535 : Int32)).toInt64)) + (1 : Int64)) + ((p5 &&& (65535 : Int32)).toInt64))), .second] [(.ref b1)])) (fun tz kz => ?_) ?_
          · show Steps p.tables e below (T25.setTop (mkF m 232 #[.val (.long p1), .second, .val (.int p2), .val (.int p3), .val (.int p4), .val (.int p5), .val (.int p6), .val (.ref b1), .val (.int (1 : Int32)), .val (.int (p6 &&& (3 : Int32))), .val (.long ((p1 + (1 : Int64)) + ((p3 &&& (65535 : Int32)).toInt64))), .second, .val (.long ((((p1 + (1 : Int64)) + ((p3 &&& (65535 : Int32)).toInt64)) + (1 : Int64)) + ((p4 &&& (65535 : Int32)).toInt64))), .second, .val (.long ((((((p1 + (1 : Int64)) + ((p3 &&& (65535 : Int32)).toInt64)) + (1 : Int64)) + ((p4 &&& (65535 : Int32)).toInt64)) + (1 : Int64)) + ((p5 &&& (65535 : Int32)).toInt64))), .second] [])) _
            refine XS.iload X25.here hx rfl (hb hby at_232) rfl ?_
            show Steps p.tables e below (T25.setTop (mkF m 234 #[.val (.long p1), .second, .val (.int p2), .val (.int p3), .val (.int p4), .val (.int p5), .val (.int p6), .val (.ref b1), .val (.int (1 : Int32)), .val (.int (p6 &&& (3 : Int32))), .val (.long ((p1 + (1 : Int64)) + ((p3 &&& (65535 : Int32)).toInt64))), .second, .val (.long ((((p1 + (1 : Int64)) + ((p3 &&& (65535 : Int32)).toInt64)) + (1 : Int64)) + ((p4 &&& (65535 : Int32)).toInt64))), .second, .val (.long ((((((p1 + (1 : Int64)) + ((p3 &&& (65535 : Int32)).toInt64)) + (1 : Int64)) + ((p4 &&& (65535 : Int32)).toInt64)) + (1 : Int64)) + ((p5 &&& (65535 : Int32)).toInt64))), .second] [(.int (1 : Int32))])) _
            refine XS.ifNo X25.here hx rfl (hb hby at_234) rfl ((if0 _ _).trans (feq (by decide)).1) ?_
            show Steps p.tables e below (T25.setTop (mkF m 237 #[.val (.long p1), .second, .val (.int p2), .val (.int p3), .val (.int p4), .val (.int p5), .val (.int p6), .val (.ref b1), .val (.int (1 : Int32)), .val (.int (p6 &&& (3 : Int32))), .val (.long ((p1 + (1 : Int64)) + ((p3 &&& (65535 : Int32)).toInt64))), .second, .val (.long ((((p1 + (1 : Int64)) + ((p3 &&& (65535 : Int32)).toInt64)) + (1 : Int64)) + ((p4 &&& (65535 : Int32)).toInt64))), .second, .val (.long ((((((p1 + (1 : Int64)) + ((p3 &&& (65535 : Int32)).toInt64)) + (1 : Int64)) + ((p4 &&& (65535 : Int32)).toInt64)) + (1 : Int64)) + ((p5 &&& (65535 : Int32)).toInt64))), .second] [])) _
            refine XS.aload X25.here hx rfl (hb hby at_237) rfl rfl ?_
            exact kz
          obtain ⟨cq26, kq26, q26a, q26b, q26c⟩ := isOf hZ rfl H25.1
          obtain ⟨_, _, ⟨T26, L26, k26, n26⟩, -, X26, ⟨Lc26, hQ26, l26, y26, z26⟩, st26⟩ := X25.virtualBack hx (y := (⟨"com/example/fewbits/fewbits/store/SegmentHull", "isFull", "()Z"⟩ : MethodName)) (z := (⟨"com/example/fewbits/fewbits/store/SegmentHull", "isFull", "()Z"⟩ : MethodName)) hown (mvT hZ (hw _ (List.mem_of_getElem? (i := 26) rfl))) (mvT hZ (hw _ (List.mem_of_getElem? (i := 27) rfl))) (notFace_of_selects (args := #[]) (mvT hZ (hw _ (List.mem_of_getElem? (i := 29) rfl)))) (mvT hZ (hw _ (List.mem_of_getElem? (i := 29) rfl))) (mvT hZ (hw _ (List.mem_of_getElem? (i := 28) rfl))) (by decide) (backOf (W := 0) (rm4 l Z a0 hw [] b1 u tu ru l1 tl rl ku1 ku2 kl1 kl2 au bu 0 al bl 0 (FP.i2d (p6 >>> ((3 : Int32) &&& 31))) T25.heap n0 Z25 H25 (by decide) (by decide)) hZ (hw _ (List.mem_of_getElem? (i := 30) rfl)) (hw _ (List.mem_of_getElem? (i := 2) rfl)) (by decide) (by decide)) q26a q26c (g := (mkF m 239 #[.val (.long p1), .second, .val (.int p2), .val (.int p3), .val (.int p4), .val (.int p5), .val (.int p6), .val (.ref b1), .val (.int (1 : Int32)), .val (.int (p6 &&& (3 : Int32))), .val (.long ((p1 + (1 : Int64)) + ((p3 &&& (65535 : Int32)).toInt64))), .second, .val (.long ((((p1 + (1 : Int64)) + ((p3 &&& (65535 : Int32)).toInt64)) + (1 : Int64)) + ((p4 &&& (65535 : Int32)).toInt64))), .second, .val (.long ((((((p1 + (1 : Int64)) + ((p3 &&& (65535 : Int32)).toInt64)) + (1 : Int64)) + ((p4 &&& (65535 : Int32)).toInt64)) + (1 : Int64)) + ((p5 &&& (65535 : Int32)).toInt64))), .second] [(.ref b1)])) rfl (by rw [hml]; rfl) (Steps.refl _) (argsL := []) (rest := []) (lenOf pd_4 rfl) rfl (by show 2 * 0 + _ ≤ _; exact Nat.le_of_eq rfl) (hb hby at_239) (fun _ _ => ⟨rfl, rfl, (by decide : 7 + 0 ≤ _), (by decide : 74 + 0 ≤ _)⟩)
          dsimp only [Pt.U, Pt.locs, Pt.cells, Pt.slots] at X26 l26 y26 z26 st26 hQ26
          subst l26 y26 z26
          obtain ⟨rfl, N26, e26⟩ := hQ26
          have Nf26 := Fr.app Nf25 N26
          refine Goes.via (S' := T26.setTop (mkF m 242 #[.val (.long p1), .second, .val (.int p2), .val (.int p3), .val (.int p4), .val (.int p5), .val (.int p6), .val (.ref b1), .val (.int (1 : Int32)), .val (.int (p6 &&& (3 : Int32))), .val (.long ((p1 + (1 : Int64)) + ((p3 &&& (65535 : Int32)).toInt64))), .second, .val (.long ((((p1 + (1 : Int64)) + ((p3 &&& (65535 : Int32)).toInt64)) + (1 : Int64)) + ((p4 &&& (65535 : Int32)).toInt64))), .second, .val (.long ((((((p1 + (1 : Int64)) + ((p3 &&& (65535 : Int32)).toInt64)) + (1 : Int64)) + ((p4 &&& (65535 : Int32)).toInt64)) + (1 : Int64)) + ((p5 &&& (65535 : Int32)).toInt64))), .second] [(.int (0 : Int32))])) (fun _ kz => st26.trans kz) ?_
          refine Goes.via (S' := T26.setTop (mkF m 262 #[.val (.long p1), .second, .val (.int p2), .val (.int p3), .val (.int p4), .val (.int p5), .val (.int p6), .val (.ref b1), .val (.int (1 : Int32)), .val (.int (p6 &&& (3 : Int32))), .val (.long ((p1 + (1 : Int64)) + ((p3 &&& (65535 : Int32)).toInt64))), .second, .val (.long ((((p1 + (1 : Int64)) + ((p3 &&& (65535 : Int32)).toInt64)) + (1 : Int64)) + ((p4 &&& (65535 : Int32)).toInt64))), .second, .val (.long ((((((p1 + (1 : Int64)) + ((p3 &&& (65535 : Int32)).toInt64)) + (1 : Int64)) + ((p4 &&& (65535 : Int32)).toInt64)) + (1 : Int64)) + ((p5 &&& (65535 : Int32)).toInt64))), .second] [(.int (1 : Int32))])) (fun tz kz => ?_) ?_
          · show Steps p.tables e below (T26.setTop (mkF m 242 #[.val (.long p1), .second, .val (.int p2), .val (.int p3), .val (.int p4), .val (.int p5), .val (.int p6), .val (.ref b1), .val (.int (1 : Int32)), .val (.int (p6 &&& (3 : Int32))), .val (.long ((p1 + (1 : Int64)) + ((p3 &&& (65535 : Int32)).toInt64))), .second, .val (.long ((((p1 + (1 : Int64)) + ((p3 &&& (65535 : Int32)).toInt64)) + (1 : Int64)) + ((p4 &&& (65535 : Int32)).toInt64))), .second, .val (.long ((((((p1 + (1 : Int64)) + ((p3 &&& (65535 : Int32)).toInt64)) + (1 : Int64)) + ((p4 &&& (65535 : Int32)).toInt64)) + (1 : Int64)) + ((p5 &&& (65535 : Int32)).toInt64))), .second] [(.int (0 : Int32))])) _
            refine XS.ifNo X26.here hx rfl (hb hby at_242) rfl ((if0 _ _).trans (teq (by decide)).2) ?_
            show Steps p.tables e below (T26.setTop (mkF m 245 #[.val (.long p1), .second, .val (.int p2), .val (.int p3), .val (.int p4), .val (.int p5), .val (.int p6), .val (.ref b1), .val (.int (1 : Int32)), .val (.int (p6 &&& (3 : Int32))), .val (.long ((p1 + (1 : Int64)) + ((p3 &&& (65535 : Int32)).toInt64))), .second, .val (.long ((((p1 + (1 : Int64)) + ((p3 &&& (65535 : Int32)).toInt64)) + (1 : Int64)) + ((p4 &&& (65535 : Int32)).toInt64))), .second, .val (.long ((((((p1 + (1 : Int64)) + ((p3 &&& (65535 : Int32)).toInt64)) + (1 : Int64)) + ((p4 &&& (65535 : Int32)).toInt64)) + (1 : Int64)) + ((p5 &&& (65535 : Int32)).toInt64))), .second] [])) _
            refine XS.iconst X26.here hx rfl (hb hby at_245) ?_
            show Steps p.tables e below (T26.setTop (mkF m 246 #[.val (.long p1), .second, .val (.int p2), .val (.int p3), .val (.int p4), .val (.int p5), .val (.int p6), .val (.ref b1), .val (.int (1 : Int32)), .val (.int (p6 &&& (3 : Int32))), .val (.long ((p1 + (1 : Int64)) + ((p3 &&& (65535 : Int32)).toInt64))), .second, .val (.long ((((p1 + (1 : Int64)) + ((p3 &&& (65535 : Int32)).toInt64)) + (1 : Int64)) + ((p4 &&& (65535 : Int32)).toInt64))), .second, .val (.long ((((((p1 + (1 : Int64)) + ((p3 &&& (65535 : Int32)).toInt64)) + (1 : Int64)) + ((p4 &&& (65535 : Int32)).toInt64)) + (1 : Int64)) + ((p5 &&& (65535 : Int32)).toInt64))), .second] [(.int (1 : Int32))])) _
            refine XS.goto X26.here hx rfl (pc0 := 246) (pc' := 250) rfl (hb hby at_246) (by decide) (by decide) ?_
            show Steps p.tables e below (T26.setTop (mkF m 250 #[.val (.long p1), .second, .val (.int p2), .val (.int p3), .val (.int p4), .val (.int p5), .val (.int p6), .val (.ref b1), .val (.int (1 : Int32)), .val (.int (p6 &&& (3 : Int32))), .val (.long ((p1 + (1 : Int64)) + ((p3 &&& (65535 : Int32)).toInt64))), .second, .val (.long ((((p1 + (1 : Int64)) + ((p3 &&& (65535 : Int32)).toInt64)) + (1 : Int64)) + ((p4 &&& (65535 : Int32)).toInt64))), .second, .val (.long ((((((p1 + (1 : Int64)) + ((p3 &&& (65535 : Int32)).toInt64)) + (1 : Int64)) + ((p4 &&& (65535 : Int32)).toInt64)) + (1 : Int64)) + ((p5 &&& (65535 : Int32)).toInt64))), .second] [(.int (1 : Int32))])) _
            refine XS.istore X26.here hx rfl (hb hby at_250) rfl (l' := #[.val (.long p1), .second, .val (.int p2), .val (.int p3), .val (.int p4), .val (.int p5), .val (.int p6), .val (.ref b1), .val (.int (1 : Int32)), .val (.int (p6 &&& (3 : Int32))), .val (.long ((p1 + (1 : Int64)) + ((p3 &&& (65535 : Int32)).toInt64))), .second, .val (.long ((((p1 + (1 : Int64)) + ((p3 &&& (65535 : Int32)).toInt64)) + (1 : Int64)) + ((p4 &&& (65535 : Int32)).toInt64))), .second, .val (.long ((((((p1 + (1 : Int64)) + ((p3 &&& (65535 : Int32)).toInt64)) + (1 : Int64)) + ((p4 &&& (65535 : Int32)).toInt64)) + (1 : Int64)) + ((p5 &&& (65535 : Int32)).toInt64))), .second]) rfl ?_
            show Steps p.tables e below (T26.setTop (mkF m 252 #[.val (.long p1), .second, .val (.int p2), .val (.int p3), .val (.int p4), .val (.int p5), .val (.int p6), .val (.ref b1), .val (.int (1 : Int32)), .val (.int (p6 &&& (3 : Int32))), .val (.long ((p1 + (1 : Int64)) + ((p3 &&& (65535 : Int32)).toInt64))), .second, .val (.long ((((p1 + (1 : Int64)) + ((p3 &&& (65535 : Int32)).toInt64)) + (1 : Int64)) + ((p4 &&& (65535 : Int32)).toInt64))), .second, .val (.long ((((((p1 + (1 : Int64)) + ((p3 &&& (65535 : Int32)).toInt64)) + (1 : Int64)) + ((p4 &&& (65535 : Int32)).toInt64)) + (1 : Int64)) + ((p5 &&& (65535 : Int32)).toInt64))), .second] [])) _
            refine XS.iload X26.here hx rfl (hb hby at_252) rfl ?_
            show Steps p.tables e below (T26.setTop (mkF m 254 #[.val (.long p1), .second, .val (.int p2), .val (.int p3), .val (.int p4), .val (.int p5), .val (.int p6), .val (.ref b1), .val (.int (1 : Int32)), .val (.int (p6 &&& (3 : Int32))), .val (.long ((p1 + (1 : Int64)) + ((p3 &&& (65535 : Int32)).toInt64))), .second, .val (.long ((((p1 + (1 : Int64)) + ((p3 &&& (65535 : Int32)).toInt64)) + (1 : Int64)) + ((p4 &&& (65535 : Int32)).toInt64))), .second, .val (.long ((((((p1 + (1 : Int64)) + ((p3 &&& (65535 : Int32)).toInt64)) + (1 : Int64)) + ((p4 &&& (65535 : Int32)).toInt64)) + (1 : Int64)) + ((p5 &&& (65535 : Int32)).toInt64))), .second] [(.int (1 : Int32))])) _
            refine XS.ifNo X26.here hx rfl (hb hby at_254) rfl ((if0 _ _).trans (feq (by decide)).1) ?_
            show Steps p.tables e below (T26.setTop (mkF m 257 #[.val (.long p1), .second, .val (.int p2), .val (.int p3), .val (.int p4), .val (.int p5), .val (.int p6), .val (.ref b1), .val (.int (1 : Int32)), .val (.int (p6 &&& (3 : Int32))), .val (.long ((p1 + (1 : Int64)) + ((p3 &&& (65535 : Int32)).toInt64))), .second, .val (.long ((((p1 + (1 : Int64)) + ((p3 &&& (65535 : Int32)).toInt64)) + (1 : Int64)) + ((p4 &&& (65535 : Int32)).toInt64))), .second, .val (.long ((((((p1 + (1 : Int64)) + ((p3 &&& (65535 : Int32)).toInt64)) + (1 : Int64)) + ((p4 &&& (65535 : Int32)).toInt64)) + (1 : Int64)) + ((p5 &&& (65535 : Int32)).toInt64))), .second] [])) _
            refine XS.iconst X26.here hx rfl (hb hby at_257) ?_
            show Steps p.tables e below (T26.setTop (mkF m 258 #[.val (.long p1), .second, .val (.int p2), .val (.int p3), .val (.int p4), .val (.int p5), .val (.int p6), .val (.ref b1), .val (.int (1 : Int32)), .val (.int (p6 &&& (3 : Int32))), .val (.long ((p1 + (1 : Int64)) + ((p3 &&& (65535 : Int32)).toInt64))), .second, .val (.long ((((p1 + (1 : Int64)) + ((p3 &&& (65535 : Int32)).toInt64)) + (1 : Int64)) + ((p4 &&& (65535 : Int32)).toInt64))), .second, .val (.long ((((((p1 + (1 : Int64)) + ((p3 &&& (65535 : Int32)).toInt64)) + (1 : Int64)) + ((p4 &&& (65535 : Int32)).toInt64)) + (1 : Int64)) + ((p5 &&& (65535 : Int32)).toInt64))), .second] [(.int (1 : Int32))])) _
            refine XS.goto X26.here hx rfl (pc0 := 258) (pc' := 262) rfl (hb hby at_258) (by decide) (by decide) ?_
            exact kz
          exact Goes.retN X26 hx Bd.notSynchronized (t := .boolean) Bd.returns (by simp) (hb hby at_262) (Nat.le_of_ble_eq_true rfl) (Nat.le_of_ble_eq_true rfl) ⟨rfl, Nf26⟩
set_option maxRecDepth 65536 in
set_option maxHeartbeats 40000000 in
theorem comes_1 {Post : Tables → Env → Array Value → State → Outcome → State → Prop} (hpost : ∀ tb e args s v u, (limb_1_1.after args s (.returned v) u = true ∧ limb_1_2.after args s (.returned v) u = true ∧ True) → FrameEnd s (.returned v) u (Jvm.fieldLocs frame_1_writes args s ++ Jvm.arrayLocs frame_1_arrays args s ++ Jvm.staticLocs frame_1_statics s) 24 256 → Post tb e args s (.returned v) u) :
    ArmFor flags0 classFile x code maxLocals ret World_1 tables_1 room_1 Calls_1 rest_1 Pre_1 Post := by
  intro l hfl _ _ p e ha hc hk s m args below hf hA hF happ hP
  obtain ⟨hcalls, hrest, hpre⟩ := hP
  obtain ⟨-, -, -, hnamed, -, -, -, hat⟩ := (Spec.applies_iff hf).mp happ
  obtain ⟨hg, hn⟩ := and_e (Cond.before_iff.mp (show (Jvm.Cond.and given_1 narrow_1).before args s = true from hpre))
  obtain ⟨hcnt, gg0⟩ := and_e hg
  obtain ⟨ga0, gg1⟩ := and_e gg0
  obtain ⟨ga1, gg2⟩ := and_e gg1
  obtain ⟨ga2, gg3⟩ := and_e gg2
  obtain ⟨ga3, gg4⟩ := and_e gg3
  obtain ⟨ga4, gg5⟩ := and_e gg4
  obtain ⟨w0, w1, w2, w3, w4, w5, rfl⟩ : ∃ w0 w1 w2 w3 w4 w5 : Value, args = #[w0, w1, w2, w3, w4, w5] := by
    have hs : args.size = 6 := by simpa [Cond.value, given_1] using hcnt
    obtain ⟨L⟩ := args
    match L, hs with
    | [w0, w1, w2, w3, w4, w5], _ => exact ⟨w0, w1, w2, w3, w4, w5, rfl⟩
  have hw := fun d (hd : d ∈ tables_1) => atoms_spec (ws := Jvm.Cond.code x code maxLocals ret :: tables_1) hat d (List.mem_cons_of_mem _ hd)
  have hfit : Fit s := fun {y c} hc i hi => by
    obtain ⟨ha, rfl⟩ := Array.getElem?_eq_some_iff.mp hc
    have q := List.all_eq_true.mp ((Array.all_eq_true_iff_forall_mem.mp hF) _ (Array.getElem_mem ha)) i (List.mem_range.mpr hi)
    simpa [Array.getElem?_eq_getElem hi] using q
  obtain ⟨i0, ei0⟩ := isL_v ga0
  obtain rfl : w0 = (.long i0) := Option.some.inj ei0
  obtain ⟨i1, ei1⟩ := is_v ga1
  obtain rfl : w1 = (.int i1) := Option.some.inj ei1
  obtain ⟨i2, ei2⟩ := is_v ga2
  obtain rfl : w2 = (.int i2) := Option.some.inj ei2
  obtain ⟨i3, ei3⟩ := is_v ga3
  obtain rfl : w3 = (.int i3) := Option.some.inj ei3
  obtain ⟨i4, ei4⟩ := is_v ga4
  obtain rfl : w4 = (.int i4) := Option.some.inj ei4
  obtain ⟨i5, ei5⟩ := is_v gg5
  obtain rfl : w5 = (.int i5) := Option.some.inj ei5
  obtain ⟨n, o, h1, h2, h3, _, L, rfl, ⟨rfl, N⟩, hq⟩ := rm0 l s _ hw tables_1 i0 i1 i2 i3 i4 i5 s.heap s.heap.size (Nat.le_refl _) p e ha hc hk s m _ below hf ((Spec.applies_iff_loose hf).mp happ).1 ⟨rfl, State.Warmed39.refl s, rfl⟩ trivial
  refine ⟨n, _, h1, h2, h3, hpost _ _ _ _ _ _ ⟨Cond.after_iff.mpr rfl, Cond.after_iff.mpr (eq_i res_at (Term.int_eval (1)) rfl), trivial⟩ ⟨hq.1, hq.2.1, (hq.2.2.sift fun y hy => Or.inr (N y hy)).mono (by decide) (by decide)⟩⟩
theorem main_1_1 : Claimed_1_1 := comes_1 fun _ _ _ _ _ _ h hF => ⟨h.1, hF⟩
theorem main_1_2 : Claimed_1_2 := comes_1 fun _ _ _ _ _ _ h hF => ⟨h.2.1, hF⟩
end Jvm.Pilot.@@N@@
namespace Jvm.Pilot.@@N@@
open Jvm Jvm.ClassFile Sem Op Lib Jvm.Free Jvm.Stand Jvm.Pilot.@@N@@.Jvm.D
/-! MADE BY PROGRAM (witnessworld.py) out of the Statement's table words and the real class files: 14 classes; the members and pool entries that the words name. The judged class is class 1, her method 1. -/
namespace start1
open Jvm.ClassFile
def u (s : String) : CpInfo := .utf8 (stringToUtf16 s)
/-- a pool by its gaps: so many unusable entries, then the entry; so many at the end -/
def gap : Nat → List CpInfo → List CpInfo
  | 0, r => r
  | n + 1, r => .unusable :: gap n r
def poolList (es : List (Nat × CpInfo)) (last : Nat) : List CpInfo := es.foldr (fun e r => gap e.1 (e.2 :: r)) (gap last [])
def pool (es : List (Nat × CpInfo)) (last : Nat) : Array CpInfo := ⟨poolList es last⟩
def fileOf (pool : Array CpInfo) (this : Nat) (attrs : Array Attribute := #[]) (ms : Array MethodInfo := #[]) (fl : Nat := 33) (sup : Nat := 0) (ifs : Array Nat := #[]) (fds : Array FieldInfo := #[]) : ClassFile where
  minorVersion := 0
  majorVersion := 65
  constantPool := pool
  accessFlags := fl
  thisClass := this
  superClass := sup
  interfaces := ifs
  fields := fds
  methods := ms
  attributes := attrs
def plain (name : String) (sup : Option ClassId) : Class where
  name := name
  kind := .ordinary
  loader := none
  accessFlags := 33
  super := sup
  interfaces := #[]
  cf := none
  fields := #[]
  methods := #[]
  instanceTypes := #[]
  staticTypes := #[]
  resolved := #[]
  callSites := []
  init := .initialized
  statics := none
  mirror := none

def pool0 : Array CpInfo := pool [(5, u "<init>"), (0, u "()V"), (1, .class_ 10), (1, u "java/lang/Object")] 113

def k0c0 : Code := { maxStack := 0, maxLocals := 1, code := object_method_1_code, exceptionTable := #[], attributes := #[] }
def k0m0 : Method := { name := "<init>", desc := "()V", sig := { parameters := [], returnType := none }, accessFlags := 1, code := some k0c0 }
/-- java/lang/Object -/
def k0 : Class := { plain "java/lang/Object" none with
  accessFlags := 33
  interfaces := #[]
  cf := some (fileOf pool0 8 #[] #[{ accessFlags := 1, nameIndex := 5, descriptorIndex := 6, attributes := #[] }] 33 0 #[] #[])
  fields := #[]
  methods := #[k0m0]
  instanceTypes := #[]
  staticTypes := #[]
  resolved := Array.replicate 124 none
  statics := none }

def pool1 : Array CpInfo := pool [(2, .class_ 4), (0, .nameAndType 5 6), (0, u "java/lang/Object"), (0, u "<init>"), (0, u "()V"), (0, .class_ 8), (0, u "com/example/fewbits/fewbits/store/SegmentHull"), (0, .methodref 7 3), (0, .methodref 7 11), (0, .nameAndType 12 13), (0, u "isFull"), (0, u "()Z"), (0, .methodref 7 15), (0, .nameAndType 16 17), (0, u "start"), (0, u "(JD)V"), (0, .integer 65535), (0, .methodref 7 20), (0, .nameAndType 21 17), (0, u "add"), (0, .class_ 23), (0, u "com/example/fewbits/fewbits/store/SegmentHullIsFullPinLaw"), (2, u "law"), (0, u "(JIIIII)Z")] 3

def k1m0 : Method := { name := "<init>", desc := "()V", sig := { parameters := [], returnType := none }, accessFlags := 1, code := none }
def k1c1 : Code := { maxStack := 5, maxLocals := 16, code := code, exceptionTable := #[], attributes := #[] }
def k1m1 : Method := { name := "law", desc := "(JIIIII)Z", sig := { parameters := [.long, .int, .int, .int, .int, .int], returnType := some .boolean }, accessFlags := 9, code := some k1c1 }
/-- com/example/fewbits/fewbits/store/SegmentHullIsFullPinLaw -/
def k1 : Class := { plain "com/example/fewbits/fewbits/store/SegmentHullIsFullPinLaw" (some 0) with
  accessFlags := 49
  interfaces := #[]
  cf := some (fileOf pool1 22 #[] #[{ accessFlags := 1, nameIndex := 5, descriptorIndex := 6, attributes := #[] }, { accessFlags := 9, nameIndex := 26, descriptorIndex := 27, attributes := #[] }] 49 2 #[] #[])
  fields := #[]
  methods := #[k1m0, k1m1]
  instanceTypes := #[]
  staticTypes := #[]
  resolved := Array.replicate 31 none
  statics := none }

def pool2 : Array CpInfo := pool [(1, .methodref 2 3), (0, .class_ 4), (0, .nameAndType 5 6), (0, u "java/lang/Object"), (0, u "<init>"), (0, u "()V"), (0, .class_ 8), (0, u "com/example/fewbits/fewbits/store/SegmentHull$Chain"), (0, .methodref 7 3), (0, .fieldref 11 12), (0, .class_ 13), (0, .nameAndType 14 15), (0, u "com/example/fewbits/fewbits/store/SegmentHull"), (0, u "upper"), (0, u "Lcom/example/fewbits/fewbits/store/SegmentHull$Chain;"), (0, .fieldref 11 17), (0, .nameAndType 18 15), (0, u "lower"), (0, .fieldref 11 20), (0, .nameAndType 21 22), (0, u "startTimestamp"), (0, u "J"), (0, .fieldref 11 24), (0, .nameAndType 25 26), (0, u "startValue"), (0, u "D"), (0, .methodref 7 28), (0, .nameAndType 29 6), (0, u "clear"), (0, .fieldref 7 31), (0, .nameAndType 32 33), (0, u "size"), (0, u "I"), (0, .integer 65536), (0, .methodref 7 36), (0, .nameAndType 37 38), (0, u "add"), (0, u "(JD)V"), (2, u "span"), (0, u "(JJ)D"), (10, .double 4895412794951729152), (1, u "MOST_CORNERS"), (3, u "start"), (0, u "isFull"), (0, u "()Z")] 8

def k2c0 : Code := { maxStack := 3, maxLocals := 1, code := prog_35_method_1_code, exceptionTable := #[], attributes := #[] }
def k2m0 : Method := { name := "<init>", desc := "()V", sig := { parameters := [], returnType := none }, accessFlags := 0, code := some k2c0 }
def k2c1 : Code := { maxStack := 3, maxLocals := 5, code := prog_35_method_2_code, exceptionTable := #[], attributes := #[] }
def k2m1 : Method := { name := "start", desc := "(JD)V", sig := { parameters := [.long, .double], returnType := none }, accessFlags := 0, code := some k2c1 }
def k2c2 : Code := { maxStack := 2, maxLocals := 1, code := prog_35_method_3_code, exceptionTable := #[], attributes := #[] }
def k2m2 : Method := { name := "isFull", desc := "()Z", sig := { parameters := [], returnType := some .boolean }, accessFlags := 0, code := some k2c2 }
def k2c3 : Code := { maxStack := 5, maxLocals := 7, code := prog_35_method_4_code, exceptionTable := #[], attributes := #[] }
def k2m3 : Method := { name := "add", desc := "(JD)V", sig := { parameters := [.long, .double], returnType := none }, accessFlags := 0, code := some k2c3 }
def k2c4 : Code := { maxStack := 4, maxLocals := 6, code := prog_35_method_6_code, exceptionTable := #[], attributes := #[] }
def k2m4 : Method := { name := "span", desc := "(JJ)D", sig := { parameters := [.long, .long], returnType := some .double }, accessFlags := 8, code := some k2c4 }
/-- com/example/fewbits/fewbits/store/SegmentHull -/
def k2 : Class := { plain "com/example/fewbits/fewbits/store/SegmentHull" (some 0) with
  accessFlags := 48
  interfaces := #[]
  cf := some (fileOf pool2 11 #[.nestMembers #[7]] #[{ accessFlags := 0, nameIndex := 5, descriptorIndex := 6, attributes := #[] }, { accessFlags := 0, nameIndex := 59, descriptorIndex := 38, attributes := #[] }, { accessFlags := 0, nameIndex := 60, descriptorIndex := 61, attributes := #[] }, { accessFlags := 0, nameIndex := 37, descriptorIndex := 38, attributes := #[] }, { accessFlags := 8, nameIndex := 41, descriptorIndex := 42, attributes := #[] }] 48 2 #[] #[{ accessFlags := 24, nameIndex := 55, descriptorIndex := 33, attributes := #[] }, { accessFlags := 2, nameIndex := 21, descriptorIndex := 22, attributes := #[] }, { accessFlags := 2, nameIndex := 25, descriptorIndex := 26, attributes := #[] }, { accessFlags := 18, nameIndex := 14, descriptorIndex := 15, attributes := #[] }, { accessFlags := 18, nameIndex := 18, descriptorIndex := 15, attributes := #[] }])
  fields := #[{ name := "MOST_CORNERS", type := .int, accessFlags := 24, slot := 0, constantValue := 0 }, { name := "startTimestamp", type := .long, accessFlags := 2, slot := 0, constantValue := 0 }, { name := "startValue", type := .double, accessFlags := 2, slot := 1, constantValue := 0 }, { name := "upper", type := (.object "com/example/fewbits/fewbits/store/SegmentHull$Chain"), accessFlags := 18, slot := 2, constantValue := 0 }, { name := "lower", type := (.object "com/example/fewbits/fewbits/store/SegmentHull$Chain"), accessFlags := 18, slot := 3, constantValue := 0 }]
  methods := #[k2m0, k2m1, k2m2, k2m3, k2m4]
  instanceTypes := #[.long, .double, (.object "com/example/fewbits/fewbits/store/SegmentHull$Chain"), (.object "com/example/fewbits/fewbits/store/SegmentHull$Chain")]
  staticTypes := #[.int]
  resolved := ⟨(((List.replicate 70 none).set 7 (some (.cls 3))).set 9 (some (.method ⟨3, 0⟩))).set 30 (some (.field 3 2))⟩
  statics := none }

def pool3 : Array CpInfo := pool [(1, .methodref 2 3), (0, .class_ 4), (0, .nameAndType 5 6), (0, u "java/lang/Object"), (0, u "<init>"), (0, u "()V"), (0, .fieldref 8 9), (0, .class_ 10), (0, .nameAndType 11 12), (0, u "com/example/fewbits/fewbits/store/SegmentHull$Chain"), (0, u "timestamps"), (0, u "[J"), (0, .fieldref 8 14), (0, .nameAndType 15 16), (0, u "rises"), (0, u "[D"), (0, .fieldref 8 18), (0, .nameAndType 19 20), (0, u "size"), (0, u "I"), (0, .methodref 8 22), (0, .nameAndType 23 24), (0, u "slope"), (0, u "(IJD)D"), (9, .methodref 35 36), (0, .class_ 37), (0, .nameAndType 38 39), (0, u "com/example/fewbits/fewbits/store/SegmentHull"), (0, u "span"), (0, u "(JJ)D"), (12, u "clear"), (0, u "add"), (0, u "(JD)V")] 8

def k3c0 : Code := { maxStack := 2, maxLocals := 1, code := prog_36_method_1_code, exceptionTable := #[], attributes := #[] }
def k3m0 : Method := { name := "<init>", desc := "()V", sig := { parameters := [], returnType := none }, accessFlags := 2, code := some k3c0 }
def k3c1 : Code := { maxStack := 2, maxLocals := 1, code := prog_36_method_2_code, exceptionTable := #[], attributes := #[] }
def k3m1 : Method := { name := "clear", desc := "()V", sig := { parameters := [], returnType := none }, accessFlags := 0, code := some k3c1 }
def k3c2 : Code := { maxStack := 8, maxLocals := 5, code := prog_36_method_3_code, exceptionTable := #[], attributes := #[] }
def k3m2 : Method := { name := "add", desc := "(JD)V", sig := { parameters := [.long, .double], returnType := none }, accessFlags := 0, code := some k3c2 }
def k3c3 : Code := { maxStack := 6, maxLocals := 6, code := prog_36_method_4_code, exceptionTable := #[], attributes := #[] }
def k3m3 : Method := { name := "slope", desc := "(IJD)D", sig := { parameters := [.int, .long, .double], returnType := some .double }, accessFlags := 2, code := some k3c3 }
/-- com/example/fewbits/fewbits/store/SegmentHull$Chain -/
def k3 : Class := { plain "com/example/fewbits/fewbits/store/SegmentHull$Chain" (some 0) with
  accessFlags := 48
  interfaces := #[]
  cf := some (fileOf pool3 8 #[.nestHost 35] #[{ accessFlags := 2, nameIndex := 5, descriptorIndex := 6, attributes := #[] }, { accessFlags := 0, nameIndex := 52, descriptorIndex := 6, attributes := #[] }, { accessFlags := 0, nameIndex := 53, descriptorIndex := 54, attributes := #[] }, { accessFlags := 2, nameIndex := 23, descriptorIndex := 24, attributes := #[] }] 48 2 #[] #[{ accessFlags := 2, nameIndex := 11, descriptorIndex := 12, attributes := #[] }, { accessFlags := 2, nameIndex := 15, descriptorIndex := 16, attributes := #[] }, { accessFlags := 2, nameIndex := 19, descriptorIndex := 20, attributes := #[] }])
  fields := #[{ name := "timestamps", type := (.array .long), accessFlags := 2, slot := 0, constantValue := 0 }, { name := "rises", type := (.array .double), accessFlags := 2, slot := 1, constantValue := 0 }, { name := "size", type := .int, accessFlags := 2, slot := 2, constantValue := 0 }]
  methods := #[k3m0, k3m1, k3m2, k3m3]
  instanceTypes := #[(.array .long), (.array .double), .int]
  staticTypes := #[]
  resolved := Array.replicate 63 none
  statics := none }

def pool4 : Array CpInfo := pool [(1, u "java/lang/Cloneable"), (0, .class_ 1), (0, u "java/lang/Object"), (0, .class_ 3)] 3

/-- java/lang/Cloneable -/
def k4 : Class := { plain "java/lang/Cloneable" (some 0) with
  accessFlags := 1537
  interfaces := #[]
  cf := some (fileOf pool4 2 #[] #[] 1537 4 #[] #[])
  fields := #[]
  methods := #[]
  instanceTypes := #[]
  staticTypes := #[]
  resolved := Array.replicate 8 none
  statics := none }

def pool5 : Array CpInfo := pool [(1, u "java/io/Serializable"), (0, .class_ 1), (0, u "java/lang/Object"), (0, .class_ 3)] 3

/-- java/io/Serializable -/
def k5 : Class := { plain "java/io/Serializable" (some 0) with
  accessFlags := 1537
  interfaces := #[]
  cf := some (fileOf pool5 2 #[] #[] 1537 4 #[] #[])
  fields := #[]
  methods := #[]
  instanceTypes := #[]
  staticTypes := #[]
  resolved := Array.replicate 8 none
  statics := none }

/-- the primitive byte -/
def k6 : Class := { plain "byte" none with kind := .primitive 'B', accessFlags := 0x411 }
/-- [B -/
def k7 : Class := { plain "[B" (some 0) with kind := .array 6 .byte, interfaces := #[4, 5], accessFlags := 1041 }

/-- the primitive double -/
def k8 : Class := { plain "double" none with kind := .primitive 'D', accessFlags := 0x411 }
/-- [D -/
def k9 : Class := { plain "[D" (some 0) with kind := .array 8 .double, interfaces := #[4, 5], accessFlags := 1041 }

/-- the primitive int -/
def k10 : Class := { plain "int" none with kind := .primitive 'I', accessFlags := 0x411 }
/-- [I -/
def k11 : Class := { plain "[I" (some 0) with kind := .array 10 .int, interfaces := #[4, 5], accessFlags := 1041 }

/-- the primitive long -/
def k12 : Class := { plain "long" none with kind := .primitive 'J', accessFlags := 0x411 }
/-- [J -/
def k13 : Class := { plain "[J" (some 0) with kind := .array 12 .long, interfaces := #[4, 5], accessFlags := 1041 }

def heap : Heap := #[]
def classes : Array Class := #[k0, k1, k2, k3, k4, k5, k6, k7, k8, k9, k10, k11, k12, k13]
def interned : List (Array UInt16 × Addr) := []
def slotsUsed : Nat := 0
def theMethod : MethodId := ⟨1, 1⟩
def args0 : Array Value := #[.long 5, .int 1, .int 2, .int 3, .int 4, .int 5]
def aboutOver (below : List Frame) : State where
  vm := { classes := classes, interned := interned.toArray }
  heap := heap
  slotsUsed := slotsUsed
  threads := #[{ frames := .invoking theMethod args0 :: below }]
def below0 : List Frame := [.native { method := ⟨0, 0⟩, args := #[] }]
def about1 : State := aboutOver below0
def p0 : Program := .bare "" "" ""
def e0 : Env := launch0.env 0 0 0
theorem w_frames : about1.frames = Frame.invoking theMethod args0 :: below0 := rfl
set_option maxRecDepth 65536 in
theorem w_args : argsFit about1.vm theMethod args0 = true := by decide +kernel
set_option maxRecDepth 65536 in
theorem w_heap : heapFits about1 = true := by decide +kernel
set_option maxRecDepth 65536 in
theorem w_runnable : about1.curStatus? = some .runnable := by decide +kernel
set_option maxRecDepth 65536 in
theorem w_alone : about1.alone = true := by decide +kernel
set_option maxRecDepth 65536 in
theorem w_named : about1.methodNamed? x = some theMethod := by decide +kernel
set_option maxRecDepth 65536 in
theorem w_hears : about1.hears theMethod below0 = true := by decide +kernel
set_option maxRecDepth 65536 in
theorem w_ripe : about1.ripe theMethod args0 below0 = true := by decide +kernel
theorem w_running : about1.status = .running := rfl
set_option maxRecDepth 65536 in
theorem w_room : about1.hasRoom e0.platform room_1 = true :=
  launch0.hasRoom_least _ room_1 (by decide +kernel) (by decide +kernel) (by decide +kernel) (by decide +kernel) (by decide +kernel) (by decide +kernel)
theorem allAtoms_all (ts : List Jvm.Cond) (a : Array Jvm.Value) (st : Jvm.State) : (allAtoms ts).before a st = ts.all (fun c => c.before a st) := by
  induction ts with
  | nil => rfl
  | cons c t ih =>
    show (Jvm.Cond.and c (allAtoms t)).before a st = _
    rw [Jvm.Cond.before_and, ih, List.all_cons]
def words1 : List Jvm.Cond := Jvm.Cond.code x code maxLocals ret :: tables_1
/-- a 'code' word, met by the world's own term for the bytes: nothing is compared byte by byte -/
theorem code_word {y : MethodName} {bytes : ByteArray} {mx : Nat} {rt : Option FieldType} {a : Array Value} {s : State} {m : MethodId} {meth : Method} {c : Code} (h1 : s.methodNamed? y = some m) (h2 : s.vm.method? m = some meth) (h3 : meth.code = some c) (h4 : c.code = bytes)
    (h5 : (c.maxLocals == mx && c.exceptionTable.isEmpty && decide (c.maxStack ≤ mostOperands) && decide (meth.sig.returnType = rt) && !meth.locks && decide (parseMethodDescriptor y.desc = some meth.sig)) = true) : (Jvm.Cond.code y bytes mx rt).before a s = true := by
  simp only [Bool.and_eq_true, beq_iff_eq, Bool.not_eq_true', decide_eq_true_eq] at h5
  obtain ⟨⟨⟨⟨⟨g1, g2⟩, g3⟩, g4⟩, g5⟩, g6⟩ := h5
  simp [Cond.before, Cond.holds, Cond.value, h1, h2, h3, h4, g1, g2, g3, g4, g5, g6]
def isCode : Jvm.Cond → Bool
  | .code _ _ _ _ => true
  | _ => false
theorem all_split {L : List Jvm.Cond} {P : Jvm.Cond → Bool} (h1 : L.all (fun c => isCode c || P c) = true) (h2 : ∀ c ∈ L.filter isCode, P c = true) : L.all P = true := by
  refine List.all_eq_true.mpr fun c hc => ?_
  have h := List.all_eq_true.mp h1 c hc
  rcases Bool.eq_false_or_eq_true (isCode c) with hi | hi
  · exact h2 c (List.mem_filter.mpr ⟨hc, hi⟩)
  · simpa [hi] using h
set_option maxRecDepth 65536 in
theorem w_c0 : (Jvm.Cond.code x code maxLocals ret).before args0 about1 = true := code_word (m := ⟨1, 1⟩) (meth := k1m1) (c := k1c1) (by decide +kernel) rfl rfl rfl (by decide +kernel)
set_option maxRecDepth 65536 in
theorem w_c1 : (Jvm.Cond.code ({ cls := "com/example/fewbits/fewbits/store/SegmentHull", name := "<init>", desc := "()V" } : Jvm.MethodName) prog_35_method_1_code (1 : Nat) (Option.none : Option Jvm.ClassFile.FieldType)).before args0 about1 = true := code_word (m := ⟨2, 0⟩) (meth := k2m0) (c := k2c0) (by decide +kernel) rfl rfl rfl (by decide +kernel)
set_option maxRecDepth 65536 in
theorem w_c2 : (Jvm.Cond.code ({ cls := "java/lang/Object", name := "<init>", desc := "()V" } : Jvm.MethodName) object_method_1_code (1 : Nat) (Option.none : Option Jvm.ClassFile.FieldType)).before args0 about1 = true := code_word (m := ⟨0, 0⟩) (meth := k0m0) (c := k0c0) (by decide +kernel) rfl rfl rfl (by decide +kernel)
set_option maxRecDepth 65536 in
theorem w_c3 : (Jvm.Cond.code ({ cls := "com/example/fewbits/fewbits/store/SegmentHull$Chain", name := "<init>", desc := "()V" } : Jvm.MethodName) prog_36_method_1_code (1 : Nat) (Option.none : Option Jvm.ClassFile.FieldType)).before args0 about1 = true := code_word (m := ⟨3, 0⟩) (meth := k3m0) (c := k3c0) (by decide +kernel) rfl rfl rfl (by decide +kernel)
set_option maxRecDepth 65536 in
theorem w_c4 : (Jvm.Cond.code ({ cls := "com/example/fewbits/fewbits/store/SegmentHull", name := "isFull", desc := "()Z" } : Jvm.MethodName) prog_35_method_3_code (1 : Nat) (Option.some Jvm.ClassFile.FieldType.boolean)).before args0 about1 = true := code_word (m := ⟨2, 2⟩) (meth := k2m2) (c := k2c2) (by decide +kernel) rfl rfl rfl (by decide +kernel)
set_option maxRecDepth 65536 in
theorem w_c5 : (Jvm.Cond.code ({ cls := "com/example/fewbits/fewbits/store/SegmentHull", name := "start", desc := "(JD)V" } : Jvm.MethodName) prog_35_method_2_code (5 : Nat) (Option.none : Option Jvm.ClassFile.FieldType)).before args0 about1 = true := code_word (m := ⟨2, 1⟩) (meth := k2m1) (c := k2c1) (by decide +kernel) rfl rfl rfl (by decide +kernel)
set_option maxRecDepth 65536 in
theorem w_c6 : (Jvm.Cond.code ({ cls := "com/example/fewbits/fewbits/store/SegmentHull$Chain", name := "clear", desc := "()V" } : Jvm.MethodName) prog_36_method_2_code (1 : Nat) (Option.none : Option Jvm.ClassFile.FieldType)).before args0 about1 = true := code_word (m := ⟨3, 1⟩) (meth := k3m1) (c := k3c1) (by decide +kernel) rfl rfl rfl (by decide +kernel)
set_option maxRecDepth 65536 in
theorem w_c7 : (Jvm.Cond.code ({ cls := "com/example/fewbits/fewbits/store/SegmentHull", name := "add", desc := "(JD)V" } : Jvm.MethodName) prog_35_method_4_code (7 : Nat) (Option.none : Option Jvm.ClassFile.FieldType)).before args0 about1 = true := code_word (m := ⟨2, 3⟩) (meth := k2m3) (c := k2c3) (by decide +kernel) rfl rfl rfl (by decide +kernel)
set_option maxRecDepth 65536 in
theorem w_c8 : (Jvm.Cond.code ({ cls := "com/example/fewbits/fewbits/store/SegmentHull$Chain", name := "add", desc := "(JD)V" } : Jvm.MethodName) prog_36_method_3_code (5 : Nat) (Option.none : Option Jvm.ClassFile.FieldType)).before args0 about1 = true := code_word (m := ⟨3, 2⟩) (meth := k3m2) (c := k3c2) (by decide +kernel) rfl rfl rfl (by decide +kernel)
set_option maxRecDepth 65536 in
theorem w_c9 : (Jvm.Cond.code ({ cls := "com/example/fewbits/fewbits/store/SegmentHull$Chain", name := "slope", desc := "(IJD)D" } : Jvm.MethodName) prog_36_method_4_code (6 : Nat) (Option.some Jvm.ClassFile.FieldType.double)).before args0 about1 = true := code_word (m := ⟨3, 3⟩) (meth := k3m3) (c := k3c3) (by decide +kernel) rfl rfl rfl (by decide +kernel)
set_option maxRecDepth 65536 in
theorem w_c10 : (Jvm.Cond.code ({ cls := "com/example/fewbits/fewbits/store/SegmentHull", name := "span", desc := "(JJ)D" } : Jvm.MethodName) prog_35_method_6_code (6 : Nat) (Option.some Jvm.ClassFile.FieldType.double)).before args0 about1 = true := code_word (m := ⟨2, 4⟩) (meth := k2m4) (c := k2c4) (by decide +kernel) rfl rfl rfl (by decide +kernel)
def codes1 : List Jvm.Cond := [Jvm.Cond.code x code maxLocals ret, Jvm.Cond.code ({ cls := "com/example/fewbits/fewbits/store/SegmentHull", name := "<init>", desc := "()V" } : Jvm.MethodName) prog_35_method_1_code (1 : Nat) (Option.none : Option Jvm.ClassFile.FieldType), Jvm.Cond.code ({ cls := "java/lang/Object", name := "<init>", desc := "()V" } : Jvm.MethodName) object_method_1_code (1 : Nat) (Option.none : Option Jvm.ClassFile.FieldType), Jvm.Cond.code ({ cls := "com/example/fewbits/fewbits/store/SegmentHull$Chain", name := "<init>", desc := "()V" } : Jvm.MethodName) prog_36_method_1_code (1 : Nat) (Option.none : Option Jvm.ClassFile.FieldType), Jvm.Cond.code ({ cls := "com/example/fewbits/fewbits/store/SegmentHull", name := "isFull", desc := "()Z" } : Jvm.MethodName) prog_35_method_3_code (1 : Nat) (Option.some Jvm.ClassFile.FieldType.boolean), Jvm.Cond.code ({ cls := "com/example/fewbits/fewbits/store/SegmentHull", name := "start", desc := "(JD)V" } : Jvm.MethodName) prog_35_method_2_code (5 : Nat) (Option.none : Option Jvm.ClassFile.FieldType), Jvm.Cond.code ({ cls := "com/example/fewbits/fewbits/store/SegmentHull$Chain", name := "clear", desc := "()V" } : Jvm.MethodName) prog_36_method_2_code (1 : Nat) (Option.none : Option Jvm.ClassFile.FieldType), Jvm.Cond.code ({ cls := "com/example/fewbits/fewbits/store/SegmentHull", name := "add", desc := "(JD)V" } : Jvm.MethodName) prog_35_method_4_code (7 : Nat) (Option.none : Option Jvm.ClassFile.FieldType), Jvm.Cond.code ({ cls := "com/example/fewbits/fewbits/store/SegmentHull$Chain", name := "add", desc := "(JD)V" } : Jvm.MethodName) prog_36_method_3_code (5 : Nat) (Option.none : Option Jvm.ClassFile.FieldType), Jvm.Cond.code ({ cls := "com/example/fewbits/fewbits/store/SegmentHull$Chain", name := "slope", desc := "(IJD)D" } : Jvm.MethodName) prog_36_method_4_code (6 : Nat) (Option.some Jvm.ClassFile.FieldType.double), Jvm.Cond.code ({ cls := "com/example/fewbits/fewbits/store/SegmentHull", name := "span", desc := "(JJ)D" } : Jvm.MethodName) prog_35_method_6_code (6 : Nat) (Option.some Jvm.ClassFile.FieldType.double)]
set_option maxRecDepth 65536 in
theorem codes_eq : words1.filter isCode = codes1 := rfl
theorem w_codes : ∀ c ∈ words1.filter isCode, c.before args0 about1 = true := by
  rw [codes_eq]
  intro c hc
  simp only [codes1, List.mem_cons, List.not_mem_nil, or_false] at hc
  rcases hc with rfl | rfl | rfl | rfl | rfl | rfl | rfl | rfl | rfl | rfl | rfl
  · exact w_c0
  · exact w_c1
  · exact w_c2
  · exact w_c3
  · exact w_c4
  · exact w_c5
  · exact w_c6
  · exact w_c7
  · exact w_c8
  · exact w_c9
  · exact w_c10
set_option maxRecDepth 65536 in
theorem w_t1 : (words1.take 24).all (fun c => isCode c || c.before args0 about1) = true := by decide +kernel
set_option maxRecDepth 65536 in
theorem w_t2 : ((words1.drop 24).take 24).all (fun c => isCode c || c.before args0 about1) = true := by decide +kernel
set_option maxRecDepth 65536 in
theorem w_t3 : ((words1.drop 24).drop 24).all (fun c => isCode c || c.before args0 about1) = true := by decide +kernel
theorem w_tables : (allAtoms (Jvm.Cond.code x code maxLocals ret :: tables_1)).before args0 about1 = true := by
  rw [allAtoms_all]
  show words1.all (fun c => c.before args0 about1) = true
  refine all_split ?_ w_codes
  rw [← List.take_append_drop 24 words1, List.all_append, w_t1, ← List.take_append_drop 24 (words1.drop 24), List.all_append, w_t2, w_t3]
  rfl
set_option maxRecDepth 65536 in
theorem w_case : (Jvm.Cond.and given_1 narrow_1).before args0 about1 = true := by decide +kernel
theorem w_applies : (headSpec (Jvm.Cond.code x code maxLocals ret :: tables_1) room_1).applies x e0.platform about1 = true :=
  (Spec.applies_iff w_frames).mpr ⟨w_running, w_runnable, w_alone, w_named, w_hears, w_ripe, w_room, w_tables⟩
theorem atStart : AtStart classFile x code maxLocals ret World_1 tables_1 room_1 Calls_1 rest_1 Pre_1 launch0 p0 e0 about1 theMethod args0 below0 :=
  ⟨lists_1, trivial, launch0.admits_env _ _ _, launch0.least_env, fairChoices_fair.cas, fairChoices_fair.clock, w_frames, w_args, w_heap, w_applies, trivial, trivial, w_case⟩
end start1
theorem witness_1 : WitnessClaimed_1 := ⟨start1.p0, start1.e0, start1.about1, start1.theMethod, start1.args0, start1.below0, start1.atStart⟩
end Jvm.Pilot.@@N@@
