import JvmDerived
import JvmDerived.Pilot.@@N@@Statement
import JvmDerived.Pilot.@@N@@Code
set_option linter.unusedVariables false
set_option linter.unusedSimpArgs false
namespace Jvm.RoadKit
open Sem ClassFile Op Lib Jvm.Stand Jvm.Free Jvm.LawKit
section Own
variable {p : Program} {l : Launch} {e : Env} {R : Room} {s : State} {m : MethodId} {args : Array Value} {below : List Frame} {meth : Method} {c : Code} {T : State} {locs : List Loc} {cells slots : Nat}
theorem retI (X : Stand p l e R s m args below meth c T locs cells slots) (hx : p.tables.exec = Jvm.exec) {pc : Nat} {Ls : Array Slot} {z : Int32} {rest : List Value} (hret : meth.sig.returnType = some .int) (hd : decode c.code pc = .ok (.ireturn, 1)) {fs : List Frame}
    (hl : ∀ (f : JFrame) (acts : List Action), f.method = m → f.locked = none → f.entered = [] → (doReturn e (T.setTop f) acts (some (.int z))).1 = T.setFrames fs) : Steps p.tables e below (T.setTop (mkF m pc Ls (.int z :: rest))) (T.setFrames fs) := by
  have hm' : T.vm.method? m = some meth := X.method'
  have hn : narrow .int (.int z) = .int z := rfl
  show Steps p.tables e below (T.setTop { method := m, pc := pc, locals := Ls, stack := _ :: rest, locked := none }) _
  jvm_step X.here [X.here.top, hx, hd, hm', hret, hn]
  first | (intro acts; rw [hl _ acts rfl rfl rfl]) | rw [hl _ _ rfl rfl rfl]
  exact Steps.refl _
/-- the walk comes to an end, with what Φ says there -/
def Goes (p : Program) (e : Env) (below : List Frame) (Φ : State → Outcome → Prop) (S : State) : Prop := ∃ s₂ o, Steps p.tables e below S s₂ ∧ s₂.status = .running ∧ Ended s₂ below o ∧ Φ s₂ o
theorem Goes.via {Φ : State → Outcome → Prop} {S S' : State} (k : ∀ t, Steps p.tables e below S' t → Steps p.tables e below S t) (h : Goes p e below Φ S') : Goes p e below Φ S := by
  obtain ⟨s₂, o, h1, h2, h3, h4⟩ := h
  exact ⟨s₂, o, k _ h1, h2, h3, h4⟩
/-- what a contract's end says -/
def Fin (s : State) (Q : Option Value → Heap → List Loc → Prop) (C S : Nat) : State → Outcome → Prop := fun s₂ o => ∃ v L, o = .returned v ∧ Q v s₂.heap L ∧ FrameEnd s o s₂ L C S
theorem Goes.retN (X : Stand p l e R s m args below meth c T locs cells slots) (hx : p.tables.exec = Jvm.exec) (hlocks : meth.locks = false) {pc : Nat} {Ls : Array Slot} {z : Int32} {t : FieldType} {rest : List Value} (hret : meth.sig.returnType = some t) (ht : t = .boolean ∨ t = .byte ∨ t = .char ∨ t = .short)
    (hd : decode c.code pc = .ok (.ireturn, 1)) {Q : Option Value → Heap → List Loc → Prop} {C S : Nat} (hc : cells ≤ C) (hs : slots ≤ S) (hQ : Q (some (.int (nar t z))) T.heap locs) : Goes p e below (Fin s Q C S) (T.setTop (mkF m pc Ls (.int z :: rest))) := by
  obtain ⟨fs, hr, hrun, hended, hW, hsame⟩ := X.leave (v := some (.int (nar t z))) (fun h => by rw [hret] at h; cases h) hlocks
  exact ⟨_, _, Jvm.RoadKit.retN X hx hret ht hd hr, hrun, hended, _, _, rfl, hQ, ⟨_, rfl⟩, hW, hsame.mono hc hs⟩
theorem Goes.retI (X : Stand p l e R s m args below meth c T locs cells slots) (hx : p.tables.exec = Jvm.exec) (hlocks : meth.locks = false) {pc : Nat} {Ls : Array Slot} {z : Int32} {rest : List Value} (hret : meth.sig.returnType = some .int)
    (hd : decode c.code pc = .ok (.ireturn, 1)) {Q : Option Value → Heap → List Loc → Prop} {C S : Nat} (hc : cells ≤ C) (hs : slots ≤ S) (hQ : Q (some (.int z)) T.heap locs) : Goes p e below (Fin s Q C S) (T.setTop (mkF m pc Ls (.int z :: rest))) := by
  obtain ⟨fs, hr, hrun, hended, hW, hsame⟩ := X.leave (v := some (.int z)) (fun h => by rw [hret] at h; cases h) hlocks
  exact ⟨_, _, Jvm.RoadKit.retI X hx hret hd hr, hrun, hended, _, _, rfl, hQ, ⟨_, rfl⟩, hW, hsame.mono hc hs⟩
theorem Goes.retO (X : Stand p l e R s m args below meth c T locs cells slots) (hx : p.tables.exec = Jvm.exec) (hlocks : meth.locks = false) {pc : Nat} {Ls : Array Slot} {w : Value} {t : FieldType} {i : Instr} {rest : List Value} (hret : meth.sig.returnType = some t) (hn : narrow t w = w)
    (hi : (i = .ireturn ∧ (t = .int ∨ t = .boolean ∨ t = .byte ∨ t = .char ∨ t = .short) ∧ ∃ z, w = .int z) ∨ (i = .lreturn ∧ t = .long ∧ ∃ z, w = .long z) ∨ (i = .dreturn ∧ t = .double ∧ ∃ z, w = .double z) ∨ (i = .freturn ∧ t = .float ∧ ∃ z, w = .float z) ∨ (i = .areturn ∧ t.isReference = true ∧ w.isRef = true))
    (hd : decode c.code pc = .ok (i, 1)) {Q : Option Value → Heap → List Loc → Prop} {C S : Nat} (hc : cells ≤ C) (hs : slots ≤ S) (hQ : Q (some w) T.heap locs) : Goes p e below (Fin s Q C S) (T.setTop (mkF m pc Ls (w :: rest))) := by
  obtain ⟨fs, hr, hrun, hended, hW, hsame⟩ := X.leave (v := some w) (fun h => by rw [hret] at h; cases h) hlocks
  exact ⟨_, _, Jvm.RoadKit.retOut X hx hret hn hi hd hr, hrun, hended, _, _, rfl, hQ, ⟨_, rfl⟩, hW, hsame.mono hc hs⟩
theorem Goes.retV (X : Stand p l e R s m args below meth c T locs cells slots) (hx : p.tables.exec = Jvm.exec) (hlocks : meth.locks = false) {pc : Nat} {Ls : Array Slot} (hret : meth.sig.returnType = none)
    (hd : decode c.code pc = .ok (.return_, 1)) {Q : Option Value → Heap → List Loc → Prop} {C S : Nat} (hc : cells ≤ C) (hs : slots ≤ S) (hQ : Q none T.heap locs) : Goes p e below (Fin s Q C S) (T.setTop (mkF m pc Ls [])) := by
  obtain ⟨fs, hr, hrun, hended, hW, hsame⟩ := X.leave (v := none) (fun _ => rfl) hlocks
  exact ⟨_, _, X.returnOut hx hret hd hr, hrun, hended, _, _, rfl, hQ, ⟨_, rfl⟩, hW, hsame.mono hc hs⟩
/-- room counted generously -/
theorem moreRoom (X : Stand p l e R s m args below meth c T locs cells slots) {k n : Nat} (h1 : cells ≤ k) (h2 : slots ≤ n) : Stand p l e R s m args below meth c T locs k n := { X with same := X.same.mono h1 h2 }
theorem exa_static {args : Array Value} {s : State} {C n d K : String} (h : (Jvm.Cond.exactly (Jvm.Term.static C n d) K).value args s none s [] = some true) : ∃ b, (Jvm.Term.static C n d).eval args s none [] s = some (.ref b) ∧ Exa s s.heap b K := by
  obtain ⟨b, e1⟩ := exa_v h
  exact ⟨b, e1, Exa.start e1 h⟩
theorem fld_static {args : Array Value} {s : State} {t : Jvm.Term} {b : Addr} {C n d : String} {k : Int32} (ev : t.eval args s none [] s = some (.ref b)) (h : (Jvm.Cond.eq (Jvm.Term.field t C n d) (Jvm.Term.int k)).value args s none s [] = some true) : Fld s s.heap b C n d (.int k) := by
  exact Fld.start ((fld_at ev).symm.trans (eqv_i (Term.int_eval k) h))
theorem adr_ne {a b k k' : Nat} (h : a < k) (g : b = k') (q : k ≤ k') : a ≠ b := by omega
theorem cat_ref {v : Value} (h : v.isRef = true) : v.category = 1 := by rcases ref_cases h with rfl | ⟨_, rfl⟩ <;> rfl
theorem narrow_ref {v : Value} {t : FieldType} (h : v.isRef = true) : narrow t v = v := by rcases ref_cases h with rfl | ⟨_, rfl⟩ <;> cases t <;> rfl
theorem fits_refO {v : Value} {C : String} (h : v.isRef = true) : fits (.object C) v = true := by rcases ref_cases h with rfl | ⟨_, rfl⟩ <;> rfl
theorem fld_null {args : Array Value} {s : State} {t : Jvm.Term} {b : Addr} {C n d : String} (ev : t.eval args s none [] s = some (.ref b)) (h : (Jvm.Cond.eq (Jvm.Term.field t C n d) Jvm.Term.null).value args s none s [] = some true) : Fld s s.heap b C n d .null := Fld.start ((fld_at ev).symm.trans (null_v h))
theorem ret1 {z : Int32} (h : z = 1) : some (Value.int (nar .boolean z)) = some (.int 1) := by subst h; rfl
end Own
end Jvm.RoadKit
namespace Jvm.RoadKit
open Sem ClassFile Op Lib Jvm.Stand Jvm.Free Jvm.LawKit
section OwnW
variable {p : Program} {l : Launch} {e : Env} {R : Room} {s : State} {m : MethodId} {args : Array Value} {below : List Frame} {meth : Method} {c : Code} {T : State} {locs : List Loc} {cells slots : Nat}
/-- what a contract's end says where constants may have been interned -/
def FinW (s : State) (Q : Option Value → Heap → List Loc → Prop) (C S : Nat) : State → Outcome → Prop := fun s₂ o => ∃ v L, o = .returned v ∧ Q v s₂.heap L ∧ ReturnedEndW s o s₂ L C S
theorem Goes.retNW {vm1 : Vm} (X : Stand p l e R (s.setVm vm1) m args below meth c T locs cells slots) (hx : p.tables.exec = Jvm.exec) (hlocks : meth.locks = false) {k : Nat} (hS : s.Since vm1 k) (hk : k ≤ T.heap.size) {pc : Nat} {Ls : Array Slot} {z : Int32} {t : FieldType} {rest : List Value} (hret : meth.sig.returnType = some t) (ht : t = .boolean ∨ t = .byte ∨ t = .char ∨ t = .short)
    (hd : decode c.code pc = .ok (.ireturn, 1)) {Q : Option Value → Heap → List Loc → Prop} {C S : Nat} (hc : cells ≤ C) (hs : slots ≤ S) (hQ : Q (some (.int (nar t z))) T.heap locs) : Goes p e below (FinW s Q C S) (T.setTop (mkF m pc Ls (.int z :: rest))) := by
  obtain ⟨fs, hr, hrun, hended, h1, h2, h3, h4⟩ := X.leaveW hS hk (v := some (.int (nar t z))) (fun h => by rw [hret] at h; cases h) hlocks
  exact ⟨_, _, Jvm.RoadKit.retN X hx hret ht hd hr, hrun, hended, _, _, rfl, hQ, h1, h2, h3, h4.mono hc hs⟩
end OwnW
end Jvm.RoadKit
namespace Jvm.Pilot.@@N@@
open Jvm Jvm.ClassFile Sem Op Lib Jvm.Free Jvm.Stand Jvm.LawKit Jvm.RoadKit Bundle Jvm.Pilot.@@N@@.Jvm.D
theorem pd_0 : parseMethodDescriptor "(I)B" = some ⟨[.int], some .byte⟩ := by decide +kernel
theorem pd_1 : parseMethodDescriptor "()V" = some ⟨[], none⟩ := by decide +kernel
theorem pd_2 : parseMethodDescriptor "()I" = some ⟨[], some .int⟩ := by decide +kernel
theorem pd_3 : parseMethodDescriptor "(Lcom/example/loopwright/loopwright/Lexer$Kind;Ljava/lang/String;II)V" = some ⟨[(.object "com/example/loopwright/loopwright/Lexer$Kind"), (.object "java/lang/String"), .int, .int], none⟩ := by decide +kernel
theorem pd_4 : parseMethodDescriptor "([BLcom/example/loopwright/loopwright/Lexer$Token;Ljava/lang/String;)I" = some ⟨[(.array .byte), (.object "com/example/loopwright/loopwright/Lexer$Token"), (.object "java/lang/String")], some .int⟩ := by decide +kernel
theorem pd_5 : parseMethodDescriptor "([BIII)I" = some ⟨[(.array .byte), .int, .int, .int], some .int⟩ := by decide +kernel
def own_I (x : Int32) (a : Nat) : Prop := x.toInt = (a : Int)
theorem own_I.nn {x : Int32} {a : Nat} (h : own_I x a) : ¬ x < 0 := by
  unfold own_I at h
  rw [Int32.lt_iff_toInt_lt]
  have : (0 : Int32).toInt = 0 := by decide
  omega
theorem own_I.nat {x : Int32} {a : Nat} (h : own_I x a) : x.toNatClampNeg = a := by
  unfold own_I at h
  simp [Int32.toNatClampNeg, h]
theorem own_I.add {x y : Int32} {a b : Nat} (h : own_I x a) (k : own_I y b) (q : a + b < 2147483648) : own_I (x + y) (a + b) := by
  unfold own_I at *
  have h1 := c_iadd x y
  have h2 := rng32 (x + y)
  omega
theorem own_I.inj {x y : Int32} {a : Nat} (h : own_I x a) (k : own_I y a) : x = y := Int32.toInt_inj.mp (Eq.trans h (Eq.symm k))
theorem own_I.lt {x y : Int32} {a b : Nat} (h : own_I x a) (k : own_I y b) : x < y ↔ a < b := by
  unfold own_I at *
  rw [Int32.lt_iff_toInt_lt]; omega
theorem own_I.eq {x y : Int32} {a b : Nat} (h : own_I x a) (k : own_I y b) : x = y ↔ a = b := by
  unfold own_I at *
  rw [← Int32.toInt_inj]; omega
theorem own_I0 : own_I 0 0 := by unfold own_I; decide
theorem own_I1 : own_I 1 1 := by unfold own_I; decide
theorem own_I2 : own_I 2 2 := by unfold own_I; decide
theorem own_I3 : own_I 3 3 := by unfold own_I; decide
theorem own_I.lit {x : Int32} {a : Nat} (h : own_I x a) (q : a ≤ 3) : (a = 0 ∧ x = 0) ∨ (a = 1 ∧ x = 1) ∨ (a = 2 ∧ x = 2) ∨ (a = 3 ∧ x = 3) := by
  rcases (show a = 0 ∨ a = 1 ∨ a = 2 ∨ a = 3 by omega) with rfl | rfl | rfl | rfl
  · exact Or.inl ⟨rfl, h.inj own_I0⟩
  · exact Or.inr (Or.inl ⟨rfl, h.inj own_I1⟩)
  · exact Or.inr (Or.inr (Or.inl ⟨rfl, h.inj own_I2⟩))
  · exact Or.inr (Or.inr (Or.inr ⟨rfl, h.inj own_I3⟩))
theorem own_and3 (x : Int32) : ∃ a, a ≤ 3 ∧ own_I (x &&& (3 : Int32)) a := by
  have h1 := c_and x 3 (by decide)
  have h2 : (3 : Int32).toInt = 3 := by decide
  exact ⟨(x &&& (3 : Int32)).toInt.toNat, by omega, by unfold own_I; omega⟩
/-- the bytes at b, by their places -/
def own_B (Z : State) (h : Heap) (b : Addr) (f : Nat → Int32) : Prop := ∃ cl : Cell, Arr Z h b cl .byte ∧ cl.slots.size = 20 ∧ ∀ i, i < 20 → cl.slots[i]? = some (.int (f i))
theorem own_B.lt {Z : State} {h : Heap} {b : Addr} {f : Nat → Int32} (B : own_B Z h b f) : b < h.size := by obtain ⟨cl, A, -⟩ := B; exact A.lt
theorem own_B.ext {Z : State} {h h' : Heap} {b : Addr} {f : Nat → Int32} (B : own_B Z h b f) (E : Ext h h') : own_B Z h' b f := by obtain ⟨cl, A, r⟩ := B; exact ⟨cl, A.ext E, r⟩
theorem own_B.keep {Z : State} {h h' : Heap} {b : Addr} {f : Nat → Int32} {ws : List Addr} (B : own_B Z h b f) (K : Keep h h' ws) (q : b ∉ ws) : own_B Z h' b f := by obtain ⟨cl, A, r⟩ := B; exact ⟨cl, ⟨K.2.1 b cl A.1 q, A.2⟩, r⟩
def own_up (f : Nat → Int32) (j : Nat) (v : Int32) : Nat → Int32 := fun i => if i = j then v else f i
theorem own_up_eq {f : Nat → Int32} {i j : Nat} {v : Int32} (h : i = j) : own_up f j v i = v := if_pos h
theorem own_up_ne {f : Nat → Int32} {i j : Nat} {v : Int32} (h : i ≠ j) : own_up f j v i = f i := if_neg h
theorem own_B.set {Z : State} {h h' : Heap} {b : Addr} {f : Nat → Int32} {cl : Cell} {j : Nat} {v : Int32} (A : Arr Z h b cl .byte) (S : cl.slots.size = 20) (H : ∀ i, i < 20 → cl.slots[i]? = some (.int (f i))) (W : Wr h h' b j (.int v)) : own_B Z h' b (own_up f j v) := by
  refine ⟨cl.setSlot j (.int v), A.same W, by simp [Cell.setSlot, S], fun i hi => ?_⟩
  by_cases e : i = j
  · subst e; rw [own_up_eq rfl]; simp [Cell.setSlot, S, hi]
  · rw [own_up_ne e, show (cl.setSlot j (.int v)).slots[i]? = cl.slots[i]? from Array.getElem?_setIfInBounds_ne (Ne.symm e)]; exact H i hi
theorem own_in {cl : Cell} {j : Int32} {a : Nat} (S : cl.slots.size = 20) (h : own_I j a) (q : a < 20) : ¬ (j < 0 ∨ cl.slots.size ≤ j.toNatClampNeg) := by
  rw [S, h.nat]; intro y; rcases y with y | y
  · exact h.nn y
  · omega
theorem own_at {cl : Cell} {j : Int32} {a : Nat} {f : Nat → Int32} (H : ∀ i, i < 20 → cl.slots[i]? = some (.int (f i))) (h : own_I j a) (q : a < 20) : cl.slots[j.toNatClampNeg]? = some (.int (f a)) := by rw [h.nat]; exact H a q
/-- lines of these lengths stand from a on -/
def own_L (f : Nat → Int32) : Nat → List Nat → Prop
  | _, [] => True
  | a, d :: ds => (∀ t, t < d → f (a + t) ≠ 10) ∧ f (a + d) = 10 ∧ a + d < 20 ∧ own_L f (a + d + 1) ds
def own_T : List Nat → Nat
  | [] => 0
  | d :: ds => d + 1 + own_T ds
theorem own_L.congr {f f' : Nat → Int32} : ∀ (ds : List Nat) (a : Nat), (∀ i, i < a + own_T ds → f' i = f i) → own_L f a ds → own_L f' a ds
  | [], _, _, _ => trivial
  | d :: ds, a, q, h => by
    obtain ⟨h1, h2, h3, h4⟩ := h
    have hT : own_T (d :: ds) = d + 1 + own_T ds := rfl
    refine ⟨fun t ht => ?_, ?_, h3, own_L.congr ds _ (fun i hi => q i (by omega)) h4⟩
    · rw [q _ (by omega)]; exact h1 t ht
    · rw [q _ (by omega)]; exact h2
theorem own_L.app {f : Nat → Int32} {d : Nat} : ∀ (ds : List Nat) (a : Nat), own_L f a ds → own_L f (a + own_T ds) [d] → own_L f a (ds ++ [d])
  | [], a, _, h => by simpa [own_T] using h
  | x :: ds, a, h, k => by
    obtain ⟨h1, h2, h3, h4⟩ := h
    refine ⟨h1, h2, h3, own_L.app ds _ h4 ?_⟩
    have hT : own_T (x :: ds) = x + 1 + own_T ds := rfl
    rw [hT] at k
    rwa [show a + x + 1 + own_T ds = a + (x + 1 + own_T ds) by omega]
theorem own_T_app {d : Nat} : ∀ ds : List Nat, own_T (ds ++ [d]) = own_T ds + (d + 1)
  | [] => by simp [own_T]
  | x :: ds => by show x + 1 + own_T (ds ++ [d]) = _; rw [own_T_app ds]; show _ = x + 1 + own_T ds + _; omega
theorem own_n10 {x : Int32} (h1 : 0 ≤ x.toInt) (h2 : x.toInt < 256) (h3 : x.toInt ≠ 10) : nar .byte (nar .byte (x.toInt8.toInt32)) ≠ 10 := by
  intro q
  have q' := congrArg Int32.toInt q
  have a1 := c_i2b x
  have a2 := c_i2b (x.toInt8.toInt32)
  have a3 := c_i2b (x.toInt8.toInt32.toInt8.toInt32)
  have e : (10 : Int32).toInt = 10 := by decide
  rw [e] at q'
  have q2 : (x.toInt8.toInt32.toInt8.toInt32.toInt8.toInt32).toInt = 10 := q'
  omega
theorem own_content (p1 : Int32) {r : Int32} (hr : r = (if (p1 &&& (255 : Int32)) = (10 : Int32) then (110 : Int32) else (p1 &&& (255 : Int32)))) : nar .byte (nar .byte (r.toInt8.toInt32)) ≠ 10 := by
  have h1 := c_and p1 255 (by decide)
  have h2 : (255 : Int32).toInt = 255 := by decide
  by_cases q : (p1 &&& (255 : Int32)) = (10 : Int32)
  · rw [if_pos q] at hr; subst hr; decide
  · rw [if_neg q] at hr; subst hr
    refine own_n10 h1.1 (by omega) (fun y => q (Int32.toInt_inj.mp ?_))
    rw [y]; decide
theorem d9_0 : decode method_2_code 0 = .ok (.iload_n 0, 1) := by decide +kernel
theorem d9_1 : decode method_2_code 1 = .ok (.sipush 255, 3) := by decide +kernel
theorem d9_4 : decode method_2_code 4 = .ok (.iand, 1) := by decide +kernel
theorem d9_5 : decode method_2_code 5 = .ok (.istore_n 1, 1) := by decide +kernel
theorem d9_6 : decode method_2_code 6 = .ok (.iload_n 1, 1) := by decide +kernel
theorem d9_7 : decode method_2_code 7 = .ok (.bipush 10, 2) := by decide +kernel
theorem d9_9 : decode method_2_code 9 = .ok (.if_icmp .ne 6, 3) := by decide +kernel
theorem d9_12 : decode method_2_code 12 = .ok (.bipush 110, 2) := by decide +kernel
theorem d9_14 : decode method_2_code 14 = .ok (.istore_n 1, 1) := by decide +kernel
theorem d9_15 : decode method_2_code 15 = .ok (.iload_n 1, 1) := by decide +kernel
theorem d9_16 : decode method_2_code 16 = .ok (.i2b, 1) := by decide +kernel
theorem d9_17 : decode method_2_code 17 = .ok (.ireturn, 1) := by decide +kernel
theorem pn_9 : plainName "com/example/loopwright/loopwright/AnnotateCommandLoopLineStartPinLaw" = true := by first | (simp [plainName, overriddenIn]; done) | decide +kernel
theorem ef_9 (m : MethodId) (x0 : Int32) : entryFrame m #[(.int x0)] 2 = mkF m 0 #[.val (.int x0), .unset] [] := by first | (simp [entryFrame, mkF, argsToLocals, Value.category]; done) | rfl
def Q_rm9 (Z : State) (p1 : Int32)  (h0 : Heap) (n0 : Nat) : Option Value → Heap → List Loc → Prop := fun v h L => (∃ c : Int32, v = some (.int c) ∧ nar .byte c ≠ 10) ∧ Fr n0 L ∧ h = h0
set_option maxRecDepth 65536 in
set_option maxHeartbeats 40000000 in
theorem rm9 (l : Launch) (Z : State) (a0 : Array Value) (hw : ∀ d ∈ tables_1, d.before a0 Z = true) (ws : List Jvm.Cond) (p1 : Int32)  (h0 : Heap) (n0 : Nat) (Z0 : n0 ≤ h0.size) :
    MetFree l (⟨"com/example/loopwright/loopwright/AnnotateCommandLoopLineStartPinLaw", "content", "(I)B"⟩ : MethodName) (head1 (Jvm.Cond.code (⟨"com/example/loopwright/loopwright/AnnotateCommandLoopLineStartPinLaw", "content", "(I)B"⟩ : MethodName) method_2_code 2 (some .byte) :: ws) ({ frames := 0, cells := 0, slots := 0, locals := 0 } : Room)) (fun a U => a = #[(.int p1)] ∧ Z.Warmed39 U.vm ∧ U.heap = h0) (fun _ _ _ _ _ => True) (fun _ U oo U' => ∃ vv LL, oo = .returned vv ∧ (Q_rm9 Z p1 h0 n0) vv U'.heap LL ∧ FrameEnd U oo U' LL ({ frames := 0, cells := 0, slots := 0, locals := 0 } : Room).cells ({ frames := 0, cells := 0, slots := 0, locals := 0 } : Room).slots) := by
  refine MetFree.of_bodySF (plainFor_of_name pn_9) hisR ?_
  intro p e s m args below meth c s₁ Bd hml0 hP hK
  obtain ⟨rfl, hZ, hh⟩ := hP
  have hx := Bd.exec
  have hby := Bd.bytes
  have hml : c.maxLocals = 2 := hml0
  have hown : s.vm.findClass "com/example/loopwright/loopwright/AnnotateCommandLoopLineStartPinLaw" = some m.cls := findClass_of_methodNamed Bd.named
  have hnm := (name_of_methodNamed Bd.named Bd.method).1
  have X0 : Stand p l e ({ frames := 0, cells := 0, slots := 0, locals := 0 } : Room) s m #[(.int p1)] below meth c s₁ [] 0 0 := Stand.of_body Bd
  have e0 : s₁.heap = h0 := by rw [← hh, Bd.state]; rfl
  have N0 := Fr.nil n0
  show Goes p e below (Fin s (Q_rm9 Z p1 h0 n0) ({ frames := 0, cells := 0, slots := 0, locals := 0 } : Room).cells ({ frames := 0, cells := 0, slots := 0, locals := 0 } : Room).slots) _
  refine Goes.via (S' := s₁.setTop (mkF m 0 #[.val (.int p1), .unset] [])) (fun tz kz => castTop (ef_9 m p1 ) kz) ?_
  refine Goes.via (S' := s₁.setTop (mkF m 9 #[.val (.int p1), .val (.int (p1 &&& (255 : Int32)))] [(.int (10 : Int32)), (.int (p1 &&& (255 : Int32)))])) (fun tz kz => ?_) ?_
  · show Steps p.tables e below (s₁.setTop (mkF m 0 #[.val (.int p1), .unset] [])) _
    refine XS.iloadN X0.here hx rfl (hb hby d9_0) rfl ?_
    show Steps p.tables e below (s₁.setTop (mkF m 1 #[.val (.int p1), .unset] [(.int p1)])) _
    refine XS.sipush X0.here hx rfl (hb hby d9_1) ?_
    show Steps p.tables e below (s₁.setTop (mkF m 4 #[.val (.int p1), .unset] [(.int (255 : Int32)), (.int p1)])) _
    refine XS.iand X0.here hx rfl (hb hby d9_4) rfl ?_
    show Steps p.tables e below (s₁.setTop (mkF m 5 #[.val (.int p1), .unset] [(.int (p1 &&& (255 : Int32)))])) _
    refine XS.istoreN X0.here hx rfl (hb hby d9_5) rfl (l' := #[.val (.int p1), .val (.int (p1 &&& (255 : Int32)))]) rfl ?_
    show Steps p.tables e below (s₁.setTop (mkF m 6 #[.val (.int p1), .val (.int (p1 &&& (255 : Int32)))] [])) _
    refine XS.iloadN X0.here hx rfl (hb hby d9_6) rfl ?_
    show Steps p.tables e below (s₁.setTop (mkF m 7 #[.val (.int p1), .val (.int (p1 &&& (255 : Int32)))] [(.int (p1 &&& (255 : Int32)))])) _
    refine XS.bipush X0.here hx rfl (hb hby d9_7) ?_
    exact kz
  obtain ⟨r2, hr2⟩ : ∃ zz_ : Int32, zz_ = (if (p1 &&& (255 : Int32)) = (10 : Int32) then (110 : Int32) else (p1 &&& (255 : Int32))) := ⟨_, rfl⟩
  have j9_3 : ∀ t, Steps p.tables e below (s₁.setTop (mkF m 15 #[.val (.int p1), .val (.int r2)] [])) t → Steps p.tables e below (s₁.setTop (mkF m 9 #[.val (.int p1), .val (.int (p1 &&& (255 : Int32)))] [(.int (10 : Int32)), (.int (p1 &&& (255 : Int32)))])) t := by
    intro tz kz
    by_cases hc9_1 : (p1 &&& (255 : Int32)) = (10 : Int32)
    · rw [if_pos hc9_1] at hr2
      show Steps p.tables e below (s₁.setTop (mkF m 9 #[.val (.int p1), .val (.int (p1 &&& (255 : Int32)))] [(.int (10 : Int32)), (.int (p1 &&& (255 : Int32)))])) _
      refine XS.icmpNo X0.here hx rfl (hb hby d9_9) rfl (teq hc9_1).2 ?_
      show Steps p.tables e below (s₁.setTop (mkF m 12 #[.val (.int p1), .val (.int (p1 &&& (255 : Int32)))] [])) _
      refine XS.bipush X0.here hx rfl (hb hby d9_12) ?_
      show Steps p.tables e below (s₁.setTop (mkF m 14 #[.val (.int p1), .val (.int (p1 &&& (255 : Int32)))] [(.int (110 : Int32))])) _
      refine XS.istoreN X0.here hx rfl (hb hby d9_14) rfl (l' := #[.val (.int p1), .val (.int (110 : Int32))]) rfl ?_
      subst hr2
      exact kz
    · rw [if_neg hc9_1] at hr2
      show Steps p.tables e below (s₁.setTop (mkF m 9 #[.val (.int p1), .val (.int (p1 &&& (255 : Int32)))] [(.int (10 : Int32)), (.int (p1 &&& (255 : Int32)))])) _
      refine XS.icmpYes X0.here hx rfl (pc0 := 9) (pc' := 15) rfl (hb hby d9_9) rfl (feq hc9_1).2 (by decide) (by decide) ?_
      subst hr2
      exact kz
  refine Goes.via j9_3 ?_
  refine Goes.via (S' := s₁.setTop (mkF m 17 #[.val (.int p1), .val (.int r2)] [(.int (r2.toInt8.toInt32))])) (fun tz kz => ?_) ?_
  · show Steps p.tables e below (s₁.setTop (mkF m 15 #[.val (.int p1), .val (.int r2)] [])) _
    refine XS.iloadN X0.here hx rfl (hb hby d9_15) rfl ?_
    show Steps p.tables e below (s₁.setTop (mkF m 16 #[.val (.int p1), .val (.int r2)] [(.int r2)])) _
    refine XS.i2b X0.here hx rfl (hb hby d9_16) rfl ?_
    exact kz
  exact Goes.retN X0 hx Bd.notSynchronized (t := .byte) Bd.returns (by simp) (hb hby d9_17) (Nat.le_of_ble_eq_true rfl) (Nat.le_of_ble_eq_true rfl) ⟨⟨_, rfl, own_content p1 hr2⟩, N0, e0⟩
theorem d8_0 : decode method_3_code 0 = .ok (.iload_n 0, 1) := by decide +kernel
theorem d8_1 : decode method_3_code 1 = .ok (.iconst 1, 1) := by decide +kernel
theorem d8_2 : decode method_3_code 2 = .ok (.iand, 1) := by decide +kernel
theorem d8_3 : decode method_3_code 3 = .ok (.ifCond .eq 8, 3) := by decide +kernel
theorem d8_6 : decode method_3_code 6 = .ok (.bipush 9, 2) := by decide +kernel
theorem d8_8 : decode method_3_code 8 = .ok (.goto 5, 3) := by decide +kernel
theorem d8_11 : decode method_3_code 11 = .ok (.bipush 32, 2) := by decide +kernel
theorem d8_13 : decode method_3_code 13 = .ok (.ireturn, 1) := by decide +kernel
theorem pn_8 : plainName "com/example/loopwright/loopwright/AnnotateCommandLoopLineStartPinLaw" = true := by first | (simp [plainName, overriddenIn]; done) | decide +kernel
theorem ef_8 (m : MethodId) (x0 : Int32) : entryFrame m #[(.int x0)] 1 = mkF m 0 #[.val (.int x0)] [] := by first | (simp [entryFrame, mkF, argsToLocals, Value.category]; done) | rfl
def Q_rm8 (Z : State) (p1 : Int32)  (h0 : Heap) (n0 : Nat) : Option Value → Heap → List Loc → Prop := fun v h L => (∃ c : Int32, v = some (.int c) ∧ (nar .byte c = 32 ∨ nar .byte c = 9)) ∧ Fr n0 L ∧ h = h0
set_option maxRecDepth 65536 in
set_option maxHeartbeats 40000000 in
theorem rm8 (l : Launch) (Z : State) (a0 : Array Value) (hw : ∀ d ∈ tables_1, d.before a0 Z = true) (ws : List Jvm.Cond) (p1 : Int32)  (h0 : Heap) (n0 : Nat) (Z0 : n0 ≤ h0.size) :
    MetFree l (⟨"com/example/loopwright/loopwright/AnnotateCommandLoopLineStartPinLaw", "blank", "(I)B"⟩ : MethodName) (head1 (Jvm.Cond.code (⟨"com/example/loopwright/loopwright/AnnotateCommandLoopLineStartPinLaw", "blank", "(I)B"⟩ : MethodName) method_3_code 1 (some .byte) :: ws) ({ frames := 0, cells := 0, slots := 0, locals := 0 } : Room)) (fun a U => a = #[(.int p1)] ∧ Z.Warmed39 U.vm ∧ U.heap = h0) (fun _ _ _ _ _ => True) (fun _ U oo U' => ∃ vv LL, oo = .returned vv ∧ (Q_rm8 Z p1 h0 n0) vv U'.heap LL ∧ FrameEnd U oo U' LL ({ frames := 0, cells := 0, slots := 0, locals := 0 } : Room).cells ({ frames := 0, cells := 0, slots := 0, locals := 0 } : Room).slots) := by
  refine MetFree.of_bodySF (plainFor_of_name pn_8) hisR ?_
  intro p e s m args below meth c s₁ Bd hml0 hP hK
  obtain ⟨rfl, hZ, hh⟩ := hP
  have hx := Bd.exec
  have hby := Bd.bytes
  have hml : c.maxLocals = 1 := hml0
  have hown : s.vm.findClass "com/example/loopwright/loopwright/AnnotateCommandLoopLineStartPinLaw" = some m.cls := findClass_of_methodNamed Bd.named
  have hnm := (name_of_methodNamed Bd.named Bd.method).1
  have X0 : Stand p l e ({ frames := 0, cells := 0, slots := 0, locals := 0 } : Room) s m #[(.int p1)] below meth c s₁ [] 0 0 := Stand.of_body Bd
  have e0 : s₁.heap = h0 := by rw [← hh, Bd.state]; rfl
  have N0 := Fr.nil n0
  show Goes p e below (Fin s (Q_rm8 Z p1 h0 n0) ({ frames := 0, cells := 0, slots := 0, locals := 0 } : Room).cells ({ frames := 0, cells := 0, slots := 0, locals := 0 } : Room).slots) _
  refine Goes.via (S' := s₁.setTop (mkF m 0 #[.val (.int p1)] [])) (fun tz kz => castTop (ef_8 m p1 ) kz) ?_
  refine Goes.via (S' := s₁.setTop (mkF m 3 #[.val (.int p1)] [(.int (p1 &&& (1 : Int32)))])) (fun tz kz => ?_) ?_
  · show Steps p.tables e below (s₁.setTop (mkF m 0 #[.val (.int p1)] [])) _
    refine XS.iloadN X0.here hx rfl (hb hby d8_0) rfl ?_
    show Steps p.tables e below (s₁.setTop (mkF m 1 #[.val (.int p1)] [(.int p1)])) _
    refine XS.iconst X0.here hx rfl (hb hby d8_1) ?_
    show Steps p.tables e below (s₁.setTop (mkF m 2 #[.val (.int p1)] [(.int (1 : Int32)), (.int p1)])) _
    refine XS.iand X0.here hx rfl (hb hby d8_2) rfl ?_
    exact kz
  by_cases hc3_1 : (p1 &&& (1 : Int32)) = (0 : Int32)
  · refine Goes.via (S' := s₁.setTop (mkF m 13 #[.val (.int p1)] [(.int (32 : Int32))])) (fun tz kz => ?_) ?_
    · show Steps p.tables e below (s₁.setTop (mkF m 3 #[.val (.int p1)] [(.int (p1 &&& (1 : Int32)))])) _
      refine XS.ifYes X0.here hx rfl (pc0 := 3) (pc' := 11) rfl (hb hby d8_3) rfl ((if0 _ _).trans (teq hc3_1).1) (by decide) (by decide) ?_
      show Steps p.tables e below (s₁.setTop (mkF m 11 #[.val (.int p1)] [])) _
      refine XS.bipush X0.here hx rfl (hb hby d8_11) ?_
      exact kz
    exact Goes.retN X0 hx Bd.notSynchronized (t := .byte) Bd.returns (by simp) (hb hby d8_13) (Nat.le_of_ble_eq_true rfl) (Nat.le_of_ble_eq_true rfl) ⟨⟨_, rfl, Or.inl (by decide)⟩, N0, e0⟩
  · refine Goes.via (S' := s₁.setTop (mkF m 13 #[.val (.int p1)] [(.int (9 : Int32))])) (fun tz kz => ?_) ?_
    · show Steps p.tables e below (s₁.setTop (mkF m 3 #[.val (.int p1)] [(.int (p1 &&& (1 : Int32)))])) _
      refine XS.ifNo X0.here hx rfl (hb hby d8_3) rfl ((if0 _ _).trans (feq hc3_1).1) ?_
      show Steps p.tables e below (s₁.setTop (mkF m 6 #[.val (.int p1)] [])) _
      refine XS.bipush X0.here hx rfl (hb hby d8_6) ?_
      show Steps p.tables e below (s₁.setTop (mkF m 8 #[.val (.int p1)] [(.int (9 : Int32))])) _
      refine XS.goto X0.here hx rfl (pc0 := 8) (pc' := 13) rfl (hb hby d8_8) (by decide) (by decide) ?_
      exact kz
    exact Goes.retN X0 hx Bd.notSynchronized (t := .byte) Bd.returns (by simp) (hb hby d8_13) (Nat.le_of_ble_eq_true rfl) (Nat.le_of_ble_eq_true rfl) ⟨⟨_, rfl, Or.inr (by decide)⟩, N0, e0⟩
theorem d7_0 : decode method_4_code 0 = .ok (.iload_n 2, 1) := by decide +kernel
theorem d7_1 : decode method_4_code 1 = .ok (.ifCond .le 10, 3) := by decide +kernel
theorem d7_4 : decode method_4_code 4 = .ok (.aload_n 0, 1) := by decide +kernel
theorem d7_5 : decode method_4_code 5 = .ok (.iload_n 1, 1) := by decide +kernel
theorem d7_6 : decode method_4_code 6 = .ok (.iload_n 3, 1) := by decide +kernel
theorem d7_7 : decode method_4_code 7 = .ok (.invokestatic 7, 3) := by decide +kernel
theorem d7_10 : decode method_4_code 10 = .ok (.bastore, 1) := by decide +kernel
theorem d7_11 : decode method_4_code 11 = .ok (.iload_n 2, 1) := by decide +kernel
theorem d7_12 : decode method_4_code 12 = .ok (.iconst 1, 1) := by decide +kernel
theorem d7_13 : decode method_4_code 13 = .ok (.if_icmp .le 15, 3) := by decide +kernel
theorem d7_16 : decode method_4_code 16 = .ok (.aload_n 0, 1) := by decide +kernel
theorem d7_17 : decode method_4_code 17 = .ok (.iload_n 1, 1) := by decide +kernel
theorem d7_18 : decode method_4_code 18 = .ok (.iconst 1, 1) := by decide +kernel
theorem d7_19 : decode method_4_code 19 = .ok (.iadd, 1) := by decide +kernel
theorem d7_20 : decode method_4_code 20 = .ok (.iload_n 3, 1) := by decide +kernel
theorem d7_21 : decode method_4_code 21 = .ok (.bipush 8, 2) := by decide +kernel
theorem d7_23 : decode method_4_code 23 = .ok (.iushr, 1) := by decide +kernel
theorem d7_24 : decode method_4_code 24 = .ok (.invokestatic 7, 3) := by decide +kernel
theorem d7_27 : decode method_4_code 27 = .ok (.bastore, 1) := by decide +kernel
theorem d7_28 : decode method_4_code 28 = .ok (.iload_n 2, 1) := by decide +kernel
theorem d7_29 : decode method_4_code 29 = .ok (.iconst 2, 1) := by decide +kernel
theorem d7_30 : decode method_4_code 30 = .ok (.if_icmp .le 15, 3) := by decide +kernel
theorem d7_33 : decode method_4_code 33 = .ok (.aload_n 0, 1) := by decide +kernel
theorem d7_34 : decode method_4_code 34 = .ok (.iload_n 1, 1) := by decide +kernel
theorem d7_35 : decode method_4_code 35 = .ok (.iconst 2, 1) := by decide +kernel
theorem d7_36 : decode method_4_code 36 = .ok (.iadd, 1) := by decide +kernel
theorem d7_37 : decode method_4_code 37 = .ok (.iload_n 3, 1) := by decide +kernel
theorem d7_38 : decode method_4_code 38 = .ok (.bipush 16, 2) := by decide +kernel
theorem d7_40 : decode method_4_code 40 = .ok (.iushr, 1) := by decide +kernel
theorem d7_41 : decode method_4_code 41 = .ok (.invokestatic 7, 3) := by decide +kernel
theorem d7_44 : decode method_4_code 44 = .ok (.bastore, 1) := by decide +kernel
theorem d7_45 : decode method_4_code 45 = .ok (.aload_n 0, 1) := by decide +kernel
theorem d7_46 : decode method_4_code 46 = .ok (.iload_n 1, 1) := by decide +kernel
theorem d7_47 : decode method_4_code 47 = .ok (.iload_n 2, 1) := by decide +kernel
theorem d7_48 : decode method_4_code 48 = .ok (.iadd, 1) := by decide +kernel
theorem d7_49 : decode method_4_code 49 = .ok (.bipush 10, 2) := by decide +kernel
theorem d7_51 : decode method_4_code 51 = .ok (.bastore, 1) := by decide +kernel
theorem d7_52 : decode method_4_code 52 = .ok (.iload_n 1, 1) := by decide +kernel
theorem d7_53 : decode method_4_code 53 = .ok (.iload_n 2, 1) := by decide +kernel
theorem d7_54 : decode method_4_code 54 = .ok (.iadd, 1) := by decide +kernel
theorem d7_55 : decode method_4_code 55 = .ok (.iconst 1, 1) := by decide +kernel
theorem d7_56 : decode method_4_code 56 = .ok (.iadd, 1) := by decide +kernel
theorem d7_57 : decode method_4_code 57 = .ok (.ireturn, 1) := by decide +kernel
theorem pn_7 : plainName "com/example/loopwright/loopwright/AnnotateCommandLoopLineStartPinLaw" = true := by first | (simp [plainName, overriddenIn]; done) | decide +kernel
theorem ef_7 (m : MethodId) (x0 : Addr) (x1 : Int32) (x2 : Int32) (x3 : Int32) : entryFrame m #[(.ref x0), (.int x1), (.int x2), (.int x3)] 4 = mkF m 0 #[.val (.ref x0), .val (.int x1), .val (.int x2), .val (.int x3)] [] := by first | (simp [entryFrame, mkF, argsToLocals, Value.category]; done) | rfl
def Q_rm7_0 (Z : State) (b : Addr) (p2 : Int32) (p3 : Int32) (p4 : Int32) (f : Nat → Int32) (a : Nat) (h0 : Heap) (n0 : Nat) : Option Value → Heap → List Loc → Prop := fun v h L => v = some (.int ((p2 + p3) + (1 : Int32))) ∧ Fr n0 L ∧ Keep h0 h [b] ∧ ∃ f' : Nat → Int32, own_B Z h b f' ∧ (∀ i, i < a → f' i = f i) ∧ own_L f' a [0]
set_option maxRecDepth 65536 in
set_option maxHeartbeats 40000000 in
theorem rm7_0 (l : Launch) (Z : State) (a0 : Array Value) (hw : ∀ d ∈ tables_1, d.before a0 Z = true) (ws : List Jvm.Cond) (b : Addr) (p2 : Int32) (p3 : Int32) (p4 : Int32) (f : Nat → Int32) (a : Nat) (h0 : Heap) (n0 : Nat) (Z0 : n0 ≤ h0.size) (hd : p3 = (0 : Int32)) (hp : own_I p2 a) (ha : a + 0 < 20) (B0 : own_B Z h0 b f) (gb : n0 ≤ b) :
    MetFree l (⟨"com/example/loopwright/loopwright/AnnotateCommandLoopLineStartPinLaw", "line", "([BIII)I"⟩ : MethodName) (head1 (Jvm.Cond.code (⟨"com/example/loopwright/loopwright/AnnotateCommandLoopLineStartPinLaw", "line", "([BIII)I"⟩ : MethodName) method_4_code 4 (some .int) :: ws) ({ frames := 1, cells := 0, slots := 0, locals := 20 } : Room)) (fun a U => a = #[(.ref b), (.int p2), (.int p3), (.int p4)] ∧ Z.Warmed39 U.vm ∧ U.heap = h0) (fun _ _ _ _ _ => True) (fun _ U oo U' => ∃ vv LL, oo = .returned vv ∧ (Q_rm7_0 Z b p2 p3 p4 f a h0 n0) vv U'.heap LL ∧ FrameEnd U oo U' LL ({ frames := 1, cells := 0, slots := 0, locals := 20 } : Room).cells ({ frames := 1, cells := 0, slots := 0, locals := 20 } : Room).slots) := by
  refine MetFree.of_bodySF (plainFor_of_name pn_7) hisR ?_
  intro p e s m args below meth c s₁ Bd hml0 hP hK
  obtain ⟨rfl, hZ, hh⟩ := hP
  have hx := Bd.exec
  have hby := Bd.bytes
  have hml : c.maxLocals = 4 := hml0
  have hown : s.vm.findClass "com/example/loopwright/loopwright/AnnotateCommandLoopLineStartPinLaw" = some m.cls := findClass_of_methodNamed Bd.named
  have hnm := (name_of_methodNamed Bd.named Bd.method).1
  have X0 : Stand p l e ({ frames := 1, cells := 0, slots := 0, locals := 20 } : Room) s m #[(.ref b), (.int p2), (.int p3), (.int p4)] below meth c s₁ [] 0 0 := Stand.of_body Bd
  have e0 : s₁.heap = h0 := by rw [← hh, Bd.state]; rfl
  have N0 := Fr.nil n0
  subst hd
  show Goes p e below (Fin s (Q_rm7_0 Z b p2 (0 : Int32) p4 f a h0 n0) ({ frames := 1, cells := 0, slots := 0, locals := 20 } : Room).cells ({ frames := 1, cells := 0, slots := 0, locals := 20 } : Room).slots) _
  refine Goes.via (S' := s₁.setTop (mkF m 0 #[.val (.ref b), .val (.int p2), .val (.int (0 : Int32)), .val (.int p4)] [])) (fun tz kz => castTop (ef_7 m b p2 (0 : Int32) p4 ) kz) ?_
  refine Goes.via (S' := s₁.setTop (mkF m 51 #[.val (.ref b), .val (.int p2), .val (.int (0 : Int32)), .val (.int p4)] [(.int (10 : Int32)), (.int (p2 + (0 : Int32))), (.ref b)])) (fun tz kz => ?_) ?_
  · show Steps p.tables e below (s₁.setTop (mkF m 0 #[.val (.ref b), .val (.int p2), .val (.int (0 : Int32)), .val (.int p4)] [])) _
    refine XS.iloadN X0.here hx rfl (hb hby d7_0) rfl ?_
    show Steps p.tables e below (s₁.setTop (mkF m 1 #[.val (.ref b), .val (.int p2), .val (.int (0 : Int32)), .val (.int p4)] [(.int (0 : Int32))])) _
    refine XS.ifYes X0.here hx rfl (pc0 := 1) (pc' := 11) rfl (hb hby d7_1) rfl ((if0 _ _).trans (flt (by decide)).2.2.2) (by decide) (by decide) ?_
    show Steps p.tables e below (s₁.setTop (mkF m 11 #[.val (.ref b), .val (.int p2), .val (.int (0 : Int32)), .val (.int p4)] [])) _
    refine XS.iloadN X0.here hx rfl (hb hby d7_11) rfl ?_
    show Steps p.tables e below (s₁.setTop (mkF m 12 #[.val (.ref b), .val (.int p2), .val (.int (0 : Int32)), .val (.int p4)] [(.int (0 : Int32))])) _
    refine XS.iconst X0.here hx rfl (hb hby d7_12) ?_
    show Steps p.tables e below (s₁.setTop (mkF m 13 #[.val (.ref b), .val (.int p2), .val (.int (0 : Int32)), .val (.int p4)] [(.int (1 : Int32)), (.int (0 : Int32))])) _
    refine XS.icmpYes X0.here hx rfl (pc0 := 13) (pc' := 28) rfl (hb hby d7_13) rfl (flt (by decide)).2.2.2 (by decide) (by decide) ?_
    show Steps p.tables e below (s₁.setTop (mkF m 28 #[.val (.ref b), .val (.int p2), .val (.int (0 : Int32)), .val (.int p4)] [])) _
    refine XS.iloadN X0.here hx rfl (hb hby d7_28) rfl ?_
    show Steps p.tables e below (s₁.setTop (mkF m 29 #[.val (.ref b), .val (.int p2), .val (.int (0 : Int32)), .val (.int p4)] [(.int (0 : Int32))])) _
    refine XS.iconst X0.here hx rfl (hb hby d7_29) ?_
    show Steps p.tables e below (s₁.setTop (mkF m 30 #[.val (.ref b), .val (.int p2), .val (.int (0 : Int32)), .val (.int p4)] [(.int (2 : Int32)), (.int (0 : Int32))])) _
    refine XS.icmpYes X0.here hx rfl (pc0 := 30) (pc' := 45) rfl (hb hby d7_30) rfl (flt (by decide)).2.2.2 (by decide) (by decide) ?_
    show Steps p.tables e below (s₁.setTop (mkF m 45 #[.val (.ref b), .val (.int p2), .val (.int (0 : Int32)), .val (.int p4)] [])) _
    refine XS.aloadN X0.here hx rfl (hb hby d7_45) rfl rfl ?_
    show Steps p.tables e below (s₁.setTop (mkF m 46 #[.val (.ref b), .val (.int p2), .val (.int (0 : Int32)), .val (.int p4)] [(.ref b)])) _
    refine XS.iloadN X0.here hx rfl (hb hby d7_46) rfl ?_
    show Steps p.tables e below (s₁.setTop (mkF m 47 #[.val (.ref b), .val (.int p2), .val (.int (0 : Int32)), .val (.int p4)] [(.int p2), (.ref b)])) _
    refine XS.iloadN X0.here hx rfl (hb hby d7_47) rfl ?_
    show Steps p.tables e below (s₁.setTop (mkF m 48 #[.val (.ref b), .val (.int p2), .val (.int (0 : Int32)), .val (.int p4)] [(.int (0 : Int32)), (.int p2), (.ref b)])) _
    refine XS.iadd X0.here hx rfl (hb hby d7_48) rfl ?_
    show Steps p.tables e below (s₁.setTop (mkF m 49 #[.val (.ref b), .val (.int p2), .val (.int (0 : Int32)), .val (.int p4)] [(.int (p2 + (0 : Int32))), (.ref b)])) _
    refine XS.bipush X0.here hx rfl (hb hby d7_49) ?_
    exact kz
  obtain ⟨cl1, Ar1, Sz1, Hs1⟩ := B0
  obtain ⟨T2, h2, X2, e2, W2, st2⟩ := stB X0 hx hZ e0 Ar1 (j := (p2 + (0 : Int32))) (own_in Sz1 (hp.add own_I0 (by omega)) (by omega)) (g := (mkF m 51 #[.val (.ref b), .val (.int p2), .val (.int (0 : Int32)), .val (.int p4)] [(.int (10 : Int32)), (.int (p2 + (0 : Int32))), (.ref b)])) rfl rfl (hb hby d7_51)
  refine Goes.via (S' := T2.setTop (mkF m 52 #[.val (.ref b), .val (.int p2), .val (.int (0 : Int32)), .val (.int p4)] [])) st2 ?_
  have N2 := Fr.snoc X2 N0 gb
  rw [show ((p2 + (0 : Int32))).toNatClampNeg = (a + 0) from ((hp.add own_I0 (by omega))).nat] at W2
  have B2 := own_B.set Ar1 Sz1 Hs1 W2
  have K2 := ((Keep.refl h0 [b])).wr W2 (Or.inl (List.mem_singleton.mpr rfl))
  refine Goes.via (S' := T2.setTop (mkF m 57 #[.val (.ref b), .val (.int p2), .val (.int (0 : Int32)), .val (.int p4)] [(.int ((p2 + (0 : Int32)) + (1 : Int32)))])) (fun tz kz => ?_) ?_
  · show Steps p.tables e below (T2.setTop (mkF m 52 #[.val (.ref b), .val (.int p2), .val (.int (0 : Int32)), .val (.int p4)] [])) _
    refine XS.iloadN X2.here hx rfl (hb hby d7_52) rfl ?_
    show Steps p.tables e below (T2.setTop (mkF m 53 #[.val (.ref b), .val (.int p2), .val (.int (0 : Int32)), .val (.int p4)] [(.int p2)])) _
    refine XS.iloadN X2.here hx rfl (hb hby d7_53) rfl ?_
    show Steps p.tables e below (T2.setTop (mkF m 54 #[.val (.ref b), .val (.int p2), .val (.int (0 : Int32)), .val (.int p4)] [(.int (0 : Int32)), (.int p2)])) _
    refine XS.iadd X2.here hx rfl (hb hby d7_54) rfl ?_
    show Steps p.tables e below (T2.setTop (mkF m 55 #[.val (.ref b), .val (.int p2), .val (.int (0 : Int32)), .val (.int p4)] [(.int (p2 + (0 : Int32)))])) _
    refine XS.iconst X2.here hx rfl (hb hby d7_55) ?_
    show Steps p.tables e below (T2.setTop (mkF m 56 #[.val (.ref b), .val (.int p2), .val (.int (0 : Int32)), .val (.int p4)] [(.int (1 : Int32)), (.int (p2 + (0 : Int32)))])) _
    refine XS.iadd X2.here hx rfl (hb hby d7_56) rfl ?_
    exact kz
  have f1 : ∀ i, i < a → (own_up f (a + 0) (nar .byte (10 : Int32))) i = f i := by
    intro i hi
    rw [own_up_ne (by omega)]
  have f2 : own_L (own_up f (a + 0) (nar .byte (10 : Int32))) a [0] := by
    refine ⟨fun t ht => ?_, ?_, by omega, trivial⟩
    · omega
    · rw [own_up_eq rfl]; decide
  exact Goes.retI X2 hx Bd.notSynchronized Bd.returns (hb hby d7_57) (Nat.le_of_ble_eq_true rfl) (Nat.le_of_ble_eq_true rfl) (by rw [e2]; exact ⟨rfl, N2, K2, _, B2, f1, f2⟩)
def Q_rm7_1 (Z : State) (b : Addr) (p2 : Int32) (p3 : Int32) (p4 : Int32) (f : Nat → Int32) (a : Nat) (h0 : Heap) (n0 : Nat) : Option Value → Heap → List Loc → Prop := fun v h L => v = some (.int ((p2 + p3) + (1 : Int32))) ∧ Fr n0 L ∧ Keep h0 h [b] ∧ ∃ f' : Nat → Int32, own_B Z h b f' ∧ (∀ i, i < a → f' i = f i) ∧ own_L f' a [1]
set_option maxRecDepth 65536 in
set_option maxHeartbeats 40000000 in
theorem rm7_1 (l : Launch) (Z : State) (a0 : Array Value) (hw : ∀ d ∈ tables_1, d.before a0 Z = true) (ws : List Jvm.Cond) (b : Addr) (p2 : Int32) (p3 : Int32) (p4 : Int32) (f : Nat → Int32) (a : Nat) (h0 : Heap) (n0 : Nat) (Z0 : n0 ≤ h0.size) (hd : p3 = (1 : Int32)) (hp : own_I p2 a) (ha : a + 1 < 20) (B0 : own_B Z h0 b f) (gb : n0 ≤ b) :
    MetFree l (⟨"com/example/loopwright/loopwright/AnnotateCommandLoopLineStartPinLaw", "line", "([BIII)I"⟩ : MethodName) (head1 (Jvm.Cond.code (⟨"com/example/loopwright/loopwright/AnnotateCommandLoopLineStartPinLaw", "line", "([BIII)I"⟩ : MethodName) method_4_code 4 (some .int) :: ws) ({ frames := 1, cells := 0, slots := 0, locals := 20 } : Room)) (fun a U => a = #[(.ref b), (.int p2), (.int p3), (.int p4)] ∧ Z.Warmed39 U.vm ∧ U.heap = h0) (fun _ _ _ _ _ => True) (fun _ U oo U' => ∃ vv LL, oo = .returned vv ∧ (Q_rm7_1 Z b p2 p3 p4 f a h0 n0) vv U'.heap LL ∧ FrameEnd U oo U' LL ({ frames := 1, cells := 0, slots := 0, locals := 20 } : Room).cells ({ frames := 1, cells := 0, slots := 0, locals := 20 } : Room).slots) := by
  refine MetFree.of_bodySF (plainFor_of_name pn_7) hisR ?_
  intro p e s m args below meth c s₁ Bd hml0 hP hK
  obtain ⟨rfl, hZ, hh⟩ := hP
  have hx := Bd.exec
  have hby := Bd.bytes
  have hml : c.maxLocals = 4 := hml0
  have hown : s.vm.findClass "com/example/loopwright/loopwright/AnnotateCommandLoopLineStartPinLaw" = some m.cls := findClass_of_methodNamed Bd.named
  have hnm := (name_of_methodNamed Bd.named Bd.method).1
  have X0 : Stand p l e ({ frames := 1, cells := 0, slots := 0, locals := 20 } : Room) s m #[(.ref b), (.int p2), (.int p3), (.int p4)] below meth c s₁ [] 0 0 := Stand.of_body Bd
  have e0 : s₁.heap = h0 := by rw [← hh, Bd.state]; rfl
  have N0 := Fr.nil n0
  subst hd
  show Goes p e below (Fin s (Q_rm7_1 Z b p2 (1 : Int32) p4 f a h0 n0) ({ frames := 1, cells := 0, slots := 0, locals := 20 } : Room).cells ({ frames := 1, cells := 0, slots := 0, locals := 20 } : Room).slots) _
  refine Goes.via (S' := s₁.setTop (mkF m 0 #[.val (.ref b), .val (.int p2), .val (.int (1 : Int32)), .val (.int p4)] [])) (fun tz kz => castTop (ef_7 m b p2 (1 : Int32) p4 ) kz) ?_
  refine Goes.via (S' := s₁.setTop (mkF m 7 #[.val (.ref b), .val (.int p2), .val (.int (1 : Int32)), .val (.int p4)] [(.int p4), (.int p2), (.ref b)])) (fun tz kz => ?_) ?_
  · show Steps p.tables e below (s₁.setTop (mkF m 0 #[.val (.ref b), .val (.int p2), .val (.int (1 : Int32)), .val (.int p4)] [])) _
    refine XS.iloadN X0.here hx rfl (hb hby d7_0) rfl ?_
    show Steps p.tables e below (s₁.setTop (mkF m 1 #[.val (.ref b), .val (.int p2), .val (.int (1 : Int32)), .val (.int p4)] [(.int (1 : Int32))])) _
    refine XS.ifNo X0.here hx rfl (hb hby d7_1) rfl ((if0 _ _).trans (tlt (by decide)).2.2.2) ?_
    show Steps p.tables e below (s₁.setTop (mkF m 4 #[.val (.ref b), .val (.int p2), .val (.int (1 : Int32)), .val (.int p4)] [])) _
    refine XS.aloadN X0.here hx rfl (hb hby d7_4) rfl rfl ?_
    show Steps p.tables e below (s₁.setTop (mkF m 5 #[.val (.ref b), .val (.int p2), .val (.int (1 : Int32)), .val (.int p4)] [(.ref b)])) _
    refine XS.iloadN X0.here hx rfl (hb hby d7_5) rfl ?_
    show Steps p.tables e below (s₁.setTop (mkF m 6 #[.val (.ref b), .val (.int p2), .val (.int (1 : Int32)), .val (.int p4)] [(.int p2), (.ref b)])) _
    refine XS.iloadN X0.here hx rfl (hb hby d7_6) rfl ?_
    exact kz
  obtain ⟨_, _, ⟨T1, L1, k1, n1⟩, -, X1, ⟨Lc1, hQ1, l1, y1, z1⟩, st1⟩ := Jvm.LawKit.callS X0 hx (y := (⟨"com/example/loopwright/loopwright/AnnotateCommandLoopLineStartPinLaw", "content", "(I)B"⟩ : MethodName)) hown (mvT hZ (hw _ (List.mem_of_getElem? (i := 55) rfl))) (mvT hZ (hw _ (List.mem_of_getElem? (i := 56) rfl))) (mvT hZ (hw _ (List.mem_of_getElem? (i := 50) rfl))) (mvT hZ (hw _ (List.mem_of_getElem? (i := 57) rfl))) (by decide) (backOf (W := 2) (rm9 l Z a0 hw [] p4 h0 n0 (Nat.le_trans Z0 ((Keep.refl h0 [b])).1)) hZ (hw _ (List.mem_of_getElem? (i := 57) rfl)) (hw _ (List.mem_of_getElem? (i := 50) rfl)) (by decide) (by decide)) (g := (mkF m 7 #[.val (.ref b), .val (.int p2), .val (.int (1 : Int32)), .val (.int p4)] [(.int p4), (.int p2), (.ref b)])) rfl (by rw [hml]; rfl) (argsL := [(.int p4)]) (rest := [(.int p2), (.ref b)]) (lenOf pd_0 rfl) rfl (by show 2 * 0 + _ ≤ _; exact Nat.le_of_eq rfl) (hb hby d7_7) (fun _ _ => ⟨rfl, e0, (by decide : 0 + 0 ≤ _), (by decide : 0 + 0 ≤ _)⟩)
  dsimp only [Pt.U, Pt.locs, Pt.cells, Pt.slots] at X1 l1 y1 z1 st1 hQ1
  subst l1 y1 z1
  obtain ⟨⟨c1, rfl, hc1⟩, N1, e1⟩ := hQ1
  have Nf1 := Fr.app N0 N1
  refine Goes.via (S' := T1.setTop (mkF m 10 #[.val (.ref b), .val (.int p2), .val (.int (1 : Int32)), .val (.int p4)] [(.int c1), (.int p2), (.ref b)])) (st1) ?_
  obtain ⟨cl2, Ar2, Sz2, Hs2⟩ := B0
  obtain ⟨T3, h3, X3, e3, W3, st3⟩ := stB X1 hx hZ e1 Ar2 (j := p2) (own_in Sz2 hp (by omega)) (g := (mkF m 10 #[.val (.ref b), .val (.int p2), .val (.int (1 : Int32)), .val (.int p4)] [(.int c1), (.int p2), (.ref b)])) rfl rfl (hb hby d7_10)
  refine Goes.via (S' := T3.setTop (mkF m 11 #[.val (.ref b), .val (.int p2), .val (.int (1 : Int32)), .val (.int p4)] [])) st3 ?_
  have N3 := Fr.snoc X3 Nf1 gb
  rw [show (p2).toNatClampNeg = a from (hp).nat] at W3
  have B3 := own_B.set Ar2 Sz2 Hs2 W3
  have K3 := ((Keep.refl h0 [b])).wr W3 (Or.inl (List.mem_singleton.mpr rfl))
  refine Goes.via (S' := T3.setTop (mkF m 51 #[.val (.ref b), .val (.int p2), .val (.int (1 : Int32)), .val (.int p4)] [(.int (10 : Int32)), (.int (p2 + (1 : Int32))), (.ref b)])) (fun tz kz => ?_) ?_
  · show Steps p.tables e below (T3.setTop (mkF m 11 #[.val (.ref b), .val (.int p2), .val (.int (1 : Int32)), .val (.int p4)] [])) _
    refine XS.iloadN X3.here hx rfl (hb hby d7_11) rfl ?_
    show Steps p.tables e below (T3.setTop (mkF m 12 #[.val (.ref b), .val (.int p2), .val (.int (1 : Int32)), .val (.int p4)] [(.int (1 : Int32))])) _
    refine XS.iconst X3.here hx rfl (hb hby d7_12) ?_
    show Steps p.tables e below (T3.setTop (mkF m 13 #[.val (.ref b), .val (.int p2), .val (.int (1 : Int32)), .val (.int p4)] [(.int (1 : Int32)), (.int (1 : Int32))])) _
    refine XS.icmpYes X3.here hx rfl (pc0 := 13) (pc' := 28) rfl (hb hby d7_13) rfl (flt (by decide)).2.2.2 (by decide) (by decide) ?_
    show Steps p.tables e below (T3.setTop (mkF m 28 #[.val (.ref b), .val (.int p2), .val (.int (1 : Int32)), .val (.int p4)] [])) _
    refine XS.iloadN X3.here hx rfl (hb hby d7_28) rfl ?_
    show Steps p.tables e below (T3.setTop (mkF m 29 #[.val (.ref b), .val (.int p2), .val (.int (1 : Int32)), .val (.int p4)] [(.int (1 : Int32))])) _
    refine XS.iconst X3.here hx rfl (hb hby d7_29) ?_
    show Steps p.tables e below (T3.setTop (mkF m 30 #[.val (.ref b), .val (.int p2), .val (.int (1 : Int32)), .val (.int p4)] [(.int (2 : Int32)), (.int (1 : Int32))])) _
    refine XS.icmpYes X3.here hx rfl (pc0 := 30) (pc' := 45) rfl (hb hby d7_30) rfl (flt (by decide)).2.2.2 (by decide) (by decide) ?_
    show Steps p.tables e below (T3.setTop (mkF m 45 #[.val (.ref b), .val (.int p2), .val (.int (1 : Int32)), .val (.int p4)] [])) _
    refine XS.aloadN X3.here hx rfl (hb hby d7_45) rfl rfl ?_
    show Steps p.tables e below (T3.setTop (mkF m 46 #[.val (.ref b), .val (.int p2), .val (.int (1 : Int32)), .val (.int p4)] [(.ref b)])) _
    refine XS.iloadN X3.here hx rfl (hb hby d7_46) rfl ?_
    show Steps p.tables e below (T3.setTop (mkF m 47 #[.val (.ref b), .val (.int p2), .val (.int (1 : Int32)), .val (.int p4)] [(.int p2), (.ref b)])) _
    refine XS.iloadN X3.here hx rfl (hb hby d7_47) rfl ?_
    show Steps p.tables e below (T3.setTop (mkF m 48 #[.val (.ref b), .val (.int p2), .val (.int (1 : Int32)), .val (.int p4)] [(.int (1 : Int32)), (.int p2), (.ref b)])) _
    refine XS.iadd X3.here hx rfl (hb hby d7_48) rfl ?_
    show Steps p.tables e below (T3.setTop (mkF m 49 #[.val (.ref b), .val (.int p2), .val (.int (1 : Int32)), .val (.int p4)] [(.int (p2 + (1 : Int32))), (.ref b)])) _
    refine XS.bipush X3.here hx rfl (hb hby d7_49) ?_
    exact kz
  obtain ⟨cl4, Ar4, Sz4, Hs4⟩ := B3
  obtain ⟨T5, h5, X5, e5, W5, st5⟩ := stB X3 hx hZ e3 Ar4 (j := (p2 + (1 : Int32))) (own_in Sz4 (hp.add own_I1 (by omega)) (by omega)) (g := (mkF m 51 #[.val (.ref b), .val (.int p2), .val (.int (1 : Int32)), .val (.int p4)] [(.int (10 : Int32)), (.int (p2 + (1 : Int32))), (.ref b)])) rfl rfl (hb hby d7_51)
  refine Goes.via (S' := T5.setTop (mkF m 52 #[.val (.ref b), .val (.int p2), .val (.int (1 : Int32)), .val (.int p4)] [])) st5 ?_
  have N5 := Fr.snoc X5 N3 gb
  rw [show ((p2 + (1 : Int32))).toNatClampNeg = (a + 1) from ((hp.add own_I1 (by omega))).nat] at W5
  have B5 := own_B.set Ar4 Sz4 Hs4 W5
  have K5 := (K3).wr W5 (Or.inl (List.mem_singleton.mpr rfl))
  refine Goes.via (S' := T5.setTop (mkF m 57 #[.val (.ref b), .val (.int p2), .val (.int (1 : Int32)), .val (.int p4)] [(.int ((p2 + (1 : Int32)) + (1 : Int32)))])) (fun tz kz => ?_) ?_
  · show Steps p.tables e below (T5.setTop (mkF m 52 #[.val (.ref b), .val (.int p2), .val (.int (1 : Int32)), .val (.int p4)] [])) _
    refine XS.iloadN X5.here hx rfl (hb hby d7_52) rfl ?_
    show Steps p.tables e below (T5.setTop (mkF m 53 #[.val (.ref b), .val (.int p2), .val (.int (1 : Int32)), .val (.int p4)] [(.int p2)])) _
    refine XS.iloadN X5.here hx rfl (hb hby d7_53) rfl ?_
    show Steps p.tables e below (T5.setTop (mkF m 54 #[.val (.ref b), .val (.int p2), .val (.int (1 : Int32)), .val (.int p4)] [(.int (1 : Int32)), (.int p2)])) _
    refine XS.iadd X5.here hx rfl (hb hby d7_54) rfl ?_
    show Steps p.tables e below (T5.setTop (mkF m 55 #[.val (.ref b), .val (.int p2), .val (.int (1 : Int32)), .val (.int p4)] [(.int (p2 + (1 : Int32)))])) _
    refine XS.iconst X5.here hx rfl (hb hby d7_55) ?_
    show Steps p.tables e below (T5.setTop (mkF m 56 #[.val (.ref b), .val (.int p2), .val (.int (1 : Int32)), .val (.int p4)] [(.int (1 : Int32)), (.int (p2 + (1 : Int32)))])) _
    refine XS.iadd X5.here hx rfl (hb hby d7_56) rfl ?_
    exact kz
  have f1 : ∀ i, i < a → (own_up (own_up f a (nar .byte c1)) (a + 1) (nar .byte (10 : Int32))) i = f i := by
    intro i hi
    rw [own_up_ne (by omega), own_up_ne (by omega)]
  have f2 : own_L (own_up (own_up f a (nar .byte c1)) (a + 1) (nar .byte (10 : Int32))) a [1] := by
    refine ⟨fun t ht => ?_, ?_, by omega, trivial⟩
    · rcases (show t = 0 by omega) with rfl
      · rw [own_up_ne (by omega), own_up_eq (by omega)]
        exact hc1
    · rw [own_up_eq rfl]; decide
  exact Goes.retI X5 hx Bd.notSynchronized Bd.returns (hb hby d7_57) (Nat.le_of_ble_eq_true rfl) (Nat.le_of_ble_eq_true rfl) (by rw [e5]; exact ⟨rfl, N5, K5, _, B5, f1, f2⟩)
def Q_rm7_2 (Z : State) (b : Addr) (p2 : Int32) (p3 : Int32) (p4 : Int32) (f : Nat → Int32) (a : Nat) (h0 : Heap) (n0 : Nat) : Option Value → Heap → List Loc → Prop := fun v h L => v = some (.int ((p2 + p3) + (1 : Int32))) ∧ Fr n0 L ∧ Keep h0 h [b] ∧ ∃ f' : Nat → Int32, own_B Z h b f' ∧ (∀ i, i < a → f' i = f i) ∧ own_L f' a [2]
set_option maxRecDepth 65536 in
set_option maxHeartbeats 40000000 in
theorem rm7_2 (l : Launch) (Z : State) (a0 : Array Value) (hw : ∀ d ∈ tables_1, d.before a0 Z = true) (ws : List Jvm.Cond) (b : Addr) (p2 : Int32) (p3 : Int32) (p4 : Int32) (f : Nat → Int32) (a : Nat) (h0 : Heap) (n0 : Nat) (Z0 : n0 ≤ h0.size) (hd : p3 = (2 : Int32)) (hp : own_I p2 a) (ha : a + 2 < 20) (B0 : own_B Z h0 b f) (gb : n0 ≤ b) :
    MetFree l (⟨"com/example/loopwright/loopwright/AnnotateCommandLoopLineStartPinLaw", "line", "([BIII)I"⟩ : MethodName) (head1 (Jvm.Cond.code (⟨"com/example/loopwright/loopwright/AnnotateCommandLoopLineStartPinLaw", "line", "([BIII)I"⟩ : MethodName) method_4_code 4 (some .int) :: ws) ({ frames := 1, cells := 0, slots := 0, locals := 20 } : Room)) (fun a U => a = #[(.ref b), (.int p2), (.int p3), (.int p4)] ∧ Z.Warmed39 U.vm ∧ U.heap = h0) (fun _ _ _ _ _ => True) (fun _ U oo U' => ∃ vv LL, oo = .returned vv ∧ (Q_rm7_2 Z b p2 p3 p4 f a h0 n0) vv U'.heap LL ∧ FrameEnd U oo U' LL ({ frames := 1, cells := 0, slots := 0, locals := 20 } : Room).cells ({ frames := 1, cells := 0, slots := 0, locals := 20 } : Room).slots) := by
  refine MetFree.of_bodySF (plainFor_of_name pn_7) hisR ?_
  intro p e s m args below meth c s₁ Bd hml0 hP hK
  obtain ⟨rfl, hZ, hh⟩ := hP
  have hx := Bd.exec
  have hby := Bd.bytes
  have hml : c.maxLocals = 4 := hml0
  have hown : s.vm.findClass "com/example/loopwright/loopwright/AnnotateCommandLoopLineStartPinLaw" = some m.cls := findClass_of_methodNamed Bd.named
  have hnm := (name_of_methodNamed Bd.named Bd.method).1
  have X0 : Stand p l e ({ frames := 1, cells := 0, slots := 0, locals := 20 } : Room) s m #[(.ref b), (.int p2), (.int p3), (.int p4)] below meth c s₁ [] 0 0 := Stand.of_body Bd
  have e0 : s₁.heap = h0 := by rw [← hh, Bd.state]; rfl
  have N0 := Fr.nil n0
  subst hd
  show Goes p e below (Fin s (Q_rm7_2 Z b p2 (2 : Int32) p4 f a h0 n0) ({ frames := 1, cells := 0, slots := 0, locals := 20 } : Room).cells ({ frames := 1, cells := 0, slots := 0, locals := 20 } : Room).slots) _
  refine Goes.via (S' := s₁.setTop (mkF m 0 #[.val (.ref b), .val (.int p2), .val (.int (2 : Int32)), .val (.int p4)] [])) (fun tz kz => castTop (ef_7 m b p2 (2 : Int32) p4 ) kz) ?_
  refine Goes.via (S' := s₁.setTop (mkF m 7 #[.val (.ref b), .val (.int p2), .val (.int (2 : Int32)), .val (.int p4)] [(.int p4), (.int p2), (.ref b)])) (fun tz kz => ?_) ?_
  · show Steps p.tables e below (s₁.setTop (mkF m 0 #[.val (.ref b), .val (.int p2), .val (.int (2 : Int32)), .val (.int p4)] [])) _
    refine XS.iloadN X0.here hx rfl (hb hby d7_0) rfl ?_
    show Steps p.tables e below (s₁.setTop (mkF m 1 #[.val (.ref b), .val (.int p2), .val (.int (2 : Int32)), .val (.int p4)] [(.int (2 : Int32))])) _
    refine XS.ifNo X0.here hx rfl (hb hby d7_1) rfl ((if0 _ _).trans (tlt (by decide)).2.2.2) ?_
    show Steps p.tables e below (s₁.setTop (mkF m 4 #[.val (.ref b), .val (.int p2), .val (.int (2 : Int32)), .val (.int p4)] [])) _
    refine XS.aloadN X0.here hx rfl (hb hby d7_4) rfl rfl ?_
    show Steps p.tables e below (s₁.setTop (mkF m 5 #[.val (.ref b), .val (.int p2), .val (.int (2 : Int32)), .val (.int p4)] [(.ref b)])) _
    refine XS.iloadN X0.here hx rfl (hb hby d7_5) rfl ?_
    show Steps p.tables e below (s₁.setTop (mkF m 6 #[.val (.ref b), .val (.int p2), .val (.int (2 : Int32)), .val (.int p4)] [(.int p2), (.ref b)])) _
    refine XS.iloadN X0.here hx rfl (hb hby d7_6) rfl ?_
    exact kz
  obtain ⟨_, _, ⟨T1, L1, k1, n1⟩, -, X1, ⟨Lc1, hQ1, l1, y1, z1⟩, st1⟩ := Jvm.LawKit.callS X0 hx (y := (⟨"com/example/loopwright/loopwright/AnnotateCommandLoopLineStartPinLaw", "content", "(I)B"⟩ : MethodName)) hown (mvT hZ (hw _ (List.mem_of_getElem? (i := 55) rfl))) (mvT hZ (hw _ (List.mem_of_getElem? (i := 56) rfl))) (mvT hZ (hw _ (List.mem_of_getElem? (i := 50) rfl))) (mvT hZ (hw _ (List.mem_of_getElem? (i := 57) rfl))) (by decide) (backOf (W := 2) (rm9 l Z a0 hw [] p4 h0 n0 (Nat.le_trans Z0 ((Keep.refl h0 [b])).1)) hZ (hw _ (List.mem_of_getElem? (i := 57) rfl)) (hw _ (List.mem_of_getElem? (i := 50) rfl)) (by decide) (by decide)) (g := (mkF m 7 #[.val (.ref b), .val (.int p2), .val (.int (2 : Int32)), .val (.int p4)] [(.int p4), (.int p2), (.ref b)])) rfl (by rw [hml]; rfl) (argsL := [(.int p4)]) (rest := [(.int p2), (.ref b)]) (lenOf pd_0 rfl) rfl (by show 2 * 0 + _ ≤ _; exact Nat.le_of_eq rfl) (hb hby d7_7) (fun _ _ => ⟨rfl, e0, (by decide : 0 + 0 ≤ _), (by decide : 0 + 0 ≤ _)⟩)
  dsimp only [Pt.U, Pt.locs, Pt.cells, Pt.slots] at X1 l1 y1 z1 st1 hQ1
  subst l1 y1 z1
  obtain ⟨⟨c1, rfl, hc1⟩, N1, e1⟩ := hQ1
  have Nf1 := Fr.app N0 N1
  refine Goes.via (S' := T1.setTop (mkF m 10 #[.val (.ref b), .val (.int p2), .val (.int (2 : Int32)), .val (.int p4)] [(.int c1), (.int p2), (.ref b)])) (st1) ?_
  obtain ⟨cl2, Ar2, Sz2, Hs2⟩ := B0
  obtain ⟨T3, h3, X3, e3, W3, st3⟩ := stB X1 hx hZ e1 Ar2 (j := p2) (own_in Sz2 hp (by omega)) (g := (mkF m 10 #[.val (.ref b), .val (.int p2), .val (.int (2 : Int32)), .val (.int p4)] [(.int c1), (.int p2), (.ref b)])) rfl rfl (hb hby d7_10)
  refine Goes.via (S' := T3.setTop (mkF m 11 #[.val (.ref b), .val (.int p2), .val (.int (2 : Int32)), .val (.int p4)] [])) st3 ?_
  have N3 := Fr.snoc X3 Nf1 gb
  rw [show (p2).toNatClampNeg = a from (hp).nat] at W3
  have B3 := own_B.set Ar2 Sz2 Hs2 W3
  have K3 := ((Keep.refl h0 [b])).wr W3 (Or.inl (List.mem_singleton.mpr rfl))
  refine Goes.via (S' := T3.setTop (mkF m 24 #[.val (.ref b), .val (.int p2), .val (.int (2 : Int32)), .val (.int p4)] [(.int ((p4.toUInt32 >>> ((8 : Int32) &&& 31).toUInt32).toInt32)), (.int (p2 + (1 : Int32))), (.ref b)])) (fun tz kz => ?_) ?_
  · show Steps p.tables e below (T3.setTop (mkF m 11 #[.val (.ref b), .val (.int p2), .val (.int (2 : Int32)), .val (.int p4)] [])) _
    refine XS.iloadN X3.here hx rfl (hb hby d7_11) rfl ?_
    show Steps p.tables e below (T3.setTop (mkF m 12 #[.val (.ref b), .val (.int p2), .val (.int (2 : Int32)), .val (.int p4)] [(.int (2 : Int32))])) _
    refine XS.iconst X3.here hx rfl (hb hby d7_12) ?_
    show Steps p.tables e below (T3.setTop (mkF m 13 #[.val (.ref b), .val (.int p2), .val (.int (2 : Int32)), .val (.int p4)] [(.int (1 : Int32)), (.int (2 : Int32))])) _
    refine XS.icmpNo X3.here hx rfl (hb hby d7_13) rfl (tlt (by decide)).2.2.2 ?_
    show Steps p.tables e below (T3.setTop (mkF m 16 #[.val (.ref b), .val (.int p2), .val (.int (2 : Int32)), .val (.int p4)] [])) _
    refine XS.aloadN X3.here hx rfl (hb hby d7_16) rfl rfl ?_
    show Steps p.tables e below (T3.setTop (mkF m 17 #[.val (.ref b), .val (.int p2), .val (.int (2 : Int32)), .val (.int p4)] [(.ref b)])) _
    refine XS.iloadN X3.here hx rfl (hb hby d7_17) rfl ?_
    show Steps p.tables e below (T3.setTop (mkF m 18 #[.val (.ref b), .val (.int p2), .val (.int (2 : Int32)), .val (.int p4)] [(.int p2), (.ref b)])) _
    refine XS.iconst X3.here hx rfl (hb hby d7_18) ?_
    show Steps p.tables e below (T3.setTop (mkF m 19 #[.val (.ref b), .val (.int p2), .val (.int (2 : Int32)), .val (.int p4)] [(.int (1 : Int32)), (.int p2), (.ref b)])) _
    refine XS.iadd X3.here hx rfl (hb hby d7_19) rfl ?_
    show Steps p.tables e below (T3.setTop (mkF m 20 #[.val (.ref b), .val (.int p2), .val (.int (2 : Int32)), .val (.int p4)] [(.int (p2 + (1 : Int32))), (.ref b)])) _
    refine XS.iloadN X3.here hx rfl (hb hby d7_20) rfl ?_
    show Steps p.tables e below (T3.setTop (mkF m 21 #[.val (.ref b), .val (.int p2), .val (.int (2 : Int32)), .val (.int p4)] [(.int p4), (.int (p2 + (1 : Int32))), (.ref b)])) _
    refine XS.bipush X3.here hx rfl (hb hby d7_21) ?_
    show Steps p.tables e below (T3.setTop (mkF m 23 #[.val (.ref b), .val (.int p2), .val (.int (2 : Int32)), .val (.int p4)] [(.int (8 : Int32)), (.int p4), (.int (p2 + (1 : Int32))), (.ref b)])) _
    refine XS.iushr X3.here hx rfl (hb hby d7_23) rfl ?_
    exact kz
  obtain ⟨_, _, ⟨T4, L4, k4, n4⟩, -, X4, ⟨Lc4, hQ4, l4, y4, z4⟩, st4⟩ := Jvm.LawKit.callS X3 hx (y := (⟨"com/example/loopwright/loopwright/AnnotateCommandLoopLineStartPinLaw", "content", "(I)B"⟩ : MethodName)) hown (mvT hZ (hw _ (List.mem_of_getElem? (i := 55) rfl))) (mvT hZ (hw _ (List.mem_of_getElem? (i := 56) rfl))) (mvT hZ (hw _ (List.mem_of_getElem? (i := 50) rfl))) (mvT hZ (hw _ (List.mem_of_getElem? (i := 57) rfl))) (by decide) (backOf (W := 2) (rm9 l Z a0 hw [] ((p4.toUInt32 >>> ((8 : Int32) &&& 31).toUInt32).toInt32) h3 n0 (Nat.le_trans Z0 (K3).1)) hZ (hw _ (List.mem_of_getElem? (i := 57) rfl)) (hw _ (List.mem_of_getElem? (i := 50) rfl)) (by decide) (by decide)) (g := (mkF m 24 #[.val (.ref b), .val (.int p2), .val (.int (2 : Int32)), .val (.int p4)] [(.int ((p4.toUInt32 >>> ((8 : Int32) &&& 31).toUInt32).toInt32)), (.int (p2 + (1 : Int32))), (.ref b)])) rfl (by rw [hml]; rfl) (argsL := [(.int ((p4.toUInt32 >>> ((8 : Int32) &&& 31).toUInt32).toInt32))]) (rest := [(.int (p2 + (1 : Int32))), (.ref b)]) (lenOf pd_0 rfl) rfl (by show 2 * 0 + _ ≤ _; exact Nat.le_of_eq rfl) (hb hby d7_24) (fun _ _ => ⟨rfl, e3, (by decide : 0 + 0 ≤ _), (by decide : 0 + 0 ≤ _)⟩)
  dsimp only [Pt.U, Pt.locs, Pt.cells, Pt.slots] at X4 l4 y4 z4 st4 hQ4
  subst l4 y4 z4
  obtain ⟨⟨c4, rfl, hc4⟩, N4, e4⟩ := hQ4
  have Nf4 := Fr.app N3 N4
  refine Goes.via (S' := T4.setTop (mkF m 27 #[.val (.ref b), .val (.int p2), .val (.int (2 : Int32)), .val (.int p4)] [(.int c4), (.int (p2 + (1 : Int32))), (.ref b)])) (st4) ?_
  obtain ⟨cl5, Ar5, Sz5, Hs5⟩ := B3
  obtain ⟨T6, h6, X6, e6, W6, st6⟩ := stB X4 hx hZ e4 Ar5 (j := (p2 + (1 : Int32))) (own_in Sz5 (hp.add own_I1 (by omega)) (by omega)) (g := (mkF m 27 #[.val (.ref b), .val (.int p2), .val (.int (2 : Int32)), .val (.int p4)] [(.int c4), (.int (p2 + (1 : Int32))), (.ref b)])) rfl rfl (hb hby d7_27)
  refine Goes.via (S' := T6.setTop (mkF m 28 #[.val (.ref b), .val (.int p2), .val (.int (2 : Int32)), .val (.int p4)] [])) st6 ?_
  have N6 := Fr.snoc X6 Nf4 gb
  rw [show ((p2 + (1 : Int32))).toNatClampNeg = (a + 1) from ((hp.add own_I1 (by omega))).nat] at W6
  have B6 := own_B.set Ar5 Sz5 Hs5 W6
  have K6 := (K3).wr W6 (Or.inl (List.mem_singleton.mpr rfl))
  refine Goes.via (S' := T6.setTop (mkF m 51 #[.val (.ref b), .val (.int p2), .val (.int (2 : Int32)), .val (.int p4)] [(.int (10 : Int32)), (.int (p2 + (2 : Int32))), (.ref b)])) (fun tz kz => ?_) ?_
  · show Steps p.tables e below (T6.setTop (mkF m 28 #[.val (.ref b), .val (.int p2), .val (.int (2 : Int32)), .val (.int p4)] [])) _
    refine XS.iloadN X6.here hx rfl (hb hby d7_28) rfl ?_
    show Steps p.tables e below (T6.setTop (mkF m 29 #[.val (.ref b), .val (.int p2), .val (.int (2 : Int32)), .val (.int p4)] [(.int (2 : Int32))])) _
    refine XS.iconst X6.here hx rfl (hb hby d7_29) ?_
    show Steps p.tables e below (T6.setTop (mkF m 30 #[.val (.ref b), .val (.int p2), .val (.int (2 : Int32)), .val (.int p4)] [(.int (2 : Int32)), (.int (2 : Int32))])) _
    refine XS.icmpYes X6.here hx rfl (pc0 := 30) (pc' := 45) rfl (hb hby d7_30) rfl (flt (by decide)).2.2.2 (by decide) (by decide) ?_
    show Steps p.tables e below (T6.setTop (mkF m 45 #[.val (.ref b), .val (.int p2), .val (.int (2 : Int32)), .val (.int p4)] [])) _
    refine XS.aloadN X6.here hx rfl (hb hby d7_45) rfl rfl ?_
    show Steps p.tables e below (T6.setTop (mkF m 46 #[.val (.ref b), .val (.int p2), .val (.int (2 : Int32)), .val (.int p4)] [(.ref b)])) _
    refine XS.iloadN X6.here hx rfl (hb hby d7_46) rfl ?_
    show Steps p.tables e below (T6.setTop (mkF m 47 #[.val (.ref b), .val (.int p2), .val (.int (2 : Int32)), .val (.int p4)] [(.int p2), (.ref b)])) _
    refine XS.iloadN X6.here hx rfl (hb hby d7_47) rfl ?_
    show Steps p.tables e below (T6.setTop (mkF m 48 #[.val (.ref b), .val (.int p2), .val (.int (2 : Int32)), .val (.int p4)] [(.int (2 : Int32)), (.int p2), (.ref b)])) _
    refine XS.iadd X6.here hx rfl (hb hby d7_48) rfl ?_
    show Steps p.tables e below (T6.setTop (mkF m 49 #[.val (.ref b), .val (.int p2), .val (.int (2 : Int32)), .val (.int p4)] [(.int (p2 + (2 : Int32))), (.ref b)])) _
    refine XS.bipush X6.here hx rfl (hb hby d7_49) ?_
    exact kz
  obtain ⟨cl7, Ar7, Sz7, Hs7⟩ := B6
  obtain ⟨T8, h8, X8, e8, W8, st8⟩ := stB X6 hx hZ e6 Ar7 (j := (p2 + (2 : Int32))) (own_in Sz7 (hp.add own_I2 (by omega)) (by omega)) (g := (mkF m 51 #[.val (.ref b), .val (.int p2), .val (.int (2 : Int32)), .val (.int p4)] [(.int (10 : Int32)), (.int (p2 + (2 : Int32))), (.ref b)])) rfl rfl (hb hby d7_51)
  refine Goes.via (S' := T8.setTop (mkF m 52 #[.val (.ref b), .val (.int p2), .val (.int (2 : Int32)), .val (.int p4)] [])) st8 ?_
  have N8 := Fr.snoc X8 N6 gb
  rw [show ((p2 + (2 : Int32))).toNatClampNeg = (a + 2) from ((hp.add own_I2 (by omega))).nat] at W8
  have B8 := own_B.set Ar7 Sz7 Hs7 W8
  have K8 := (K6).wr W8 (Or.inl (List.mem_singleton.mpr rfl))
  refine Goes.via (S' := T8.setTop (mkF m 57 #[.val (.ref b), .val (.int p2), .val (.int (2 : Int32)), .val (.int p4)] [(.int ((p2 + (2 : Int32)) + (1 : Int32)))])) (fun tz kz => ?_) ?_
  · show Steps p.tables e below (T8.setTop (mkF m 52 #[.val (.ref b), .val (.int p2), .val (.int (2 : Int32)), .val (.int p4)] [])) _
    refine XS.iloadN X8.here hx rfl (hb hby d7_52) rfl ?_
    show Steps p.tables e below (T8.setTop (mkF m 53 #[.val (.ref b), .val (.int p2), .val (.int (2 : Int32)), .val (.int p4)] [(.int p2)])) _
    refine XS.iloadN X8.here hx rfl (hb hby d7_53) rfl ?_
    show Steps p.tables e below (T8.setTop (mkF m 54 #[.val (.ref b), .val (.int p2), .val (.int (2 : Int32)), .val (.int p4)] [(.int (2 : Int32)), (.int p2)])) _
    refine XS.iadd X8.here hx rfl (hb hby d7_54) rfl ?_
    show Steps p.tables e below (T8.setTop (mkF m 55 #[.val (.ref b), .val (.int p2), .val (.int (2 : Int32)), .val (.int p4)] [(.int (p2 + (2 : Int32)))])) _
    refine XS.iconst X8.here hx rfl (hb hby d7_55) ?_
    show Steps p.tables e below (T8.setTop (mkF m 56 #[.val (.ref b), .val (.int p2), .val (.int (2 : Int32)), .val (.int p4)] [(.int (1 : Int32)), (.int (p2 + (2 : Int32)))])) _
    refine XS.iadd X8.here hx rfl (hb hby d7_56) rfl ?_
    exact kz
  have f1 : ∀ i, i < a → (own_up (own_up (own_up f a (nar .byte c1)) (a + 1) (nar .byte c4)) (a + 2) (nar .byte (10 : Int32))) i = f i := by
    intro i hi
    rw [own_up_ne (by omega), own_up_ne (by omega), own_up_ne (by omega)]
  have f2 : own_L (own_up (own_up (own_up f a (nar .byte c1)) (a + 1) (nar .byte c4)) (a + 2) (nar .byte (10 : Int32))) a [2] := by
    refine ⟨fun t ht => ?_, ?_, by omega, trivial⟩
    · rcases (show t = 0 ∨ t = 1 by omega) with rfl | rfl
      · rw [own_up_ne (by omega), own_up_ne (by omega), own_up_eq (by omega)]
        exact hc1
      · rw [own_up_ne (by omega), own_up_eq (by omega)]
        exact hc4
    · rw [own_up_eq rfl]; decide
  exact Goes.retI X8 hx Bd.notSynchronized Bd.returns (hb hby d7_57) (Nat.le_of_ble_eq_true rfl) (Nat.le_of_ble_eq_true rfl) (by rw [e8]; exact ⟨rfl, N8, K8, _, B8, f1, f2⟩)
def Q_rm7_3 (Z : State) (b : Addr) (p2 : Int32) (p3 : Int32) (p4 : Int32) (f : Nat → Int32) (a : Nat) (h0 : Heap) (n0 : Nat) : Option Value → Heap → List Loc → Prop := fun v h L => v = some (.int ((p2 + p3) + (1 : Int32))) ∧ Fr n0 L ∧ Keep h0 h [b] ∧ ∃ f' : Nat → Int32, own_B Z h b f' ∧ (∀ i, i < a → f' i = f i) ∧ own_L f' a [3]
set_option maxRecDepth 65536 in
set_option maxHeartbeats 40000000 in
theorem rm7_3 (l : Launch) (Z : State) (a0 : Array Value) (hw : ∀ d ∈ tables_1, d.before a0 Z = true) (ws : List Jvm.Cond) (b : Addr) (p2 : Int32) (p3 : Int32) (p4 : Int32) (f : Nat → Int32) (a : Nat) (h0 : Heap) (n0 : Nat) (Z0 : n0 ≤ h0.size) (hd : p3 = (3 : Int32)) (hp : own_I p2 a) (ha : a + 3 < 20) (B0 : own_B Z h0 b f) (gb : n0 ≤ b) :
    MetFree l (⟨"com/example/loopwright/loopwright/AnnotateCommandLoopLineStartPinLaw", "line", "([BIII)I"⟩ : MethodName) (head1 (Jvm.Cond.code (⟨"com/example/loopwright/loopwright/AnnotateCommandLoopLineStartPinLaw", "line", "([BIII)I"⟩ : MethodName) method_4_code 4 (some .int) :: ws) ({ frames := 1, cells := 0, slots := 0, locals := 20 } : Room)) (fun a U => a = #[(.ref b), (.int p2), (.int p3), (.int p4)] ∧ Z.Warmed39 U.vm ∧ U.heap = h0) (fun _ _ _ _ _ => True) (fun _ U oo U' => ∃ vv LL, oo = .returned vv ∧ (Q_rm7_3 Z b p2 p3 p4 f a h0 n0) vv U'.heap LL ∧ FrameEnd U oo U' LL ({ frames := 1, cells := 0, slots := 0, locals := 20 } : Room).cells ({ frames := 1, cells := 0, slots := 0, locals := 20 } : Room).slots) := by
  refine MetFree.of_bodySF (plainFor_of_name pn_7) hisR ?_
  intro p e s m args below meth c s₁ Bd hml0 hP hK
  obtain ⟨rfl, hZ, hh⟩ := hP
  have hx := Bd.exec
  have hby := Bd.bytes
  have hml : c.maxLocals = 4 := hml0
  have hown : s.vm.findClass "com/example/loopwright/loopwright/AnnotateCommandLoopLineStartPinLaw" = some m.cls := findClass_of_methodNamed Bd.named
  have hnm := (name_of_methodNamed Bd.named Bd.method).1
  have X0 : Stand p l e ({ frames := 1, cells := 0, slots := 0, locals := 20 } : Room) s m #[(.ref b), (.int p2), (.int p3), (.int p4)] below meth c s₁ [] 0 0 := Stand.of_body Bd
  have e0 : s₁.heap = h0 := by rw [← hh, Bd.state]; rfl
  have N0 := Fr.nil n0
  subst hd
  show Goes p e below (Fin s (Q_rm7_3 Z b p2 (3 : Int32) p4 f a h0 n0) ({ frames := 1, cells := 0, slots := 0, locals := 20 } : Room).cells ({ frames := 1, cells := 0, slots := 0, locals := 20 } : Room).slots) _
  refine Goes.via (S' := s₁.setTop (mkF m 0 #[.val (.ref b), .val (.int p2), .val (.int (3 : Int32)), .val (.int p4)] [])) (fun tz kz => castTop (ef_7 m b p2 (3 : Int32) p4 ) kz) ?_
  refine Goes.via (S' := s₁.setTop (mkF m 7 #[.val (.ref b), .val (.int p2), .val (.int (3 : Int32)), .val (.int p4)] [(.int p4), (.int p2), (.ref b)])) (fun tz kz => ?_) ?_
  · show Steps p.tables e below (s₁.setTop (mkF m 0 #[.val (.ref b), .val (.int p2), .val (.int (3 : Int32)), .val (.int p4)] [])) _
    refine XS.iloadN X0.here hx rfl (hb hby d7_0) rfl ?_
    show Steps p.tables e below (s₁.setTop (mkF m 1 #[.val (.ref b), .val (.int p2), .val (.int (3 : Int32)), .val (.int p4)] [(.int (3 : Int32))])) _
    refine XS.ifNo X0.here hx rfl (hb hby d7_1) rfl ((if0 _ _).trans (tlt (by decide)).2.2.2) ?_
    show Steps p.tables e below (s₁.setTop (mkF m 4 #[.val (.ref b), .val (.int p2), .val (.int (3 : Int32)), .val (.int p4)] [])) _
    refine XS.aloadN X0.here hx rfl (hb hby d7_4) rfl rfl ?_
    show Steps p.tables e below (s₁.setTop (mkF m 5 #[.val (.ref b), .val (.int p2), .val (.int (3 : Int32)), .val (.int p4)] [(.ref b)])) _
    refine XS.iloadN X0.here hx rfl (hb hby d7_5) rfl ?_
    show Steps p.tables e below (s₁.setTop (mkF m 6 #[.val (.ref b), .val (.int p2), .val (.int (3 : Int32)), .val (.int p4)] [(.int p2), (.ref b)])) _
    refine XS.iloadN X0.here hx rfl (hb hby d7_6) rfl ?_
    exact kz
  obtain ⟨_, _, ⟨T1, L1, k1, n1⟩, -, X1, ⟨Lc1, hQ1, l1, y1, z1⟩, st1⟩ := Jvm.LawKit.callS X0 hx (y := (⟨"com/example/loopwright/loopwright/AnnotateCommandLoopLineStartPinLaw", "content", "(I)B"⟩ : MethodName)) hown (mvT hZ (hw _ (List.mem_of_getElem? (i := 55) rfl))) (mvT hZ (hw _ (List.mem_of_getElem? (i := 56) rfl))) (mvT hZ (hw _ (List.mem_of_getElem? (i := 50) rfl))) (mvT hZ (hw _ (List.mem_of_getElem? (i := 57) rfl))) (by decide) (backOf (W := 2) (rm9 l Z a0 hw [] p4 h0 n0 (Nat.le_trans Z0 ((Keep.refl h0 [b])).1)) hZ (hw _ (List.mem_of_getElem? (i := 57) rfl)) (hw _ (List.mem_of_getElem? (i := 50) rfl)) (by decide) (by decide)) (g := (mkF m 7 #[.val (.ref b), .val (.int p2), .val (.int (3 : Int32)), .val (.int p4)] [(.int p4), (.int p2), (.ref b)])) rfl (by rw [hml]; rfl) (argsL := [(.int p4)]) (rest := [(.int p2), (.ref b)]) (lenOf pd_0 rfl) rfl (by show 2 * 0 + _ ≤ _; exact Nat.le_of_eq rfl) (hb hby d7_7) (fun _ _ => ⟨rfl, e0, (by decide : 0 + 0 ≤ _), (by decide : 0 + 0 ≤ _)⟩)
  dsimp only [Pt.U, Pt.locs, Pt.cells, Pt.slots] at X1 l1 y1 z1 st1 hQ1
  subst l1 y1 z1
  obtain ⟨⟨c1, rfl, hc1⟩, N1, e1⟩ := hQ1
  have Nf1 := Fr.app N0 N1
  refine Goes.via (S' := T1.setTop (mkF m 10 #[.val (.ref b), .val (.int p2), .val (.int (3 : Int32)), .val (.int p4)] [(.int c1), (.int p2), (.ref b)])) (st1) ?_
  obtain ⟨cl2, Ar2, Sz2, Hs2⟩ := B0
  obtain ⟨T3, h3, X3, e3, W3, st3⟩ := stB X1 hx hZ e1 Ar2 (j := p2) (own_in Sz2 hp (by omega)) (g := (mkF m 10 #[.val (.ref b), .val (.int p2), .val (.int (3 : Int32)), .val (.int p4)] [(.int c1), (.int p2), (.ref b)])) rfl rfl (hb hby d7_10)
  refine Goes.via (S' := T3.setTop (mkF m 11 #[.val (.ref b), .val (.int p2), .val (.int (3 : Int32)), .val (.int p4)] [])) st3 ?_
  have N3 := Fr.snoc X3 Nf1 gb
  rw [show (p2).toNatClampNeg = a from (hp).nat] at W3
  have B3 := own_B.set Ar2 Sz2 Hs2 W3
  have K3 := ((Keep.refl h0 [b])).wr W3 (Or.inl (List.mem_singleton.mpr rfl))
  refine Goes.via (S' := T3.setTop (mkF m 24 #[.val (.ref b), .val (.int p2), .val (.int (3 : Int32)), .val (.int p4)] [(.int ((p4.toUInt32 >>> ((8 : Int32) &&& 31).toUInt32).toInt32)), (.int (p2 + (1 : Int32))), (.ref b)])) (fun tz kz => ?_) ?_
  · show Steps p.tables e below (T3.setTop (mkF m 11 #[.val (.ref b), .val (.int p2), .val (.int (3 : Int32)), .val (.int p4)] [])) _
    refine XS.iloadN X3.here hx rfl (hb hby d7_11) rfl ?_
    show Steps p.tables e below (T3.setTop (mkF m 12 #[.val (.ref b), .val (.int p2), .val (.int (3 : Int32)), .val (.int p4)] [(.int (3 : Int32))])) _
    refine XS.iconst X3.here hx rfl (hb hby d7_12) ?_
    show Steps p.tables e below (T3.setTop (mkF m 13 #[.val (.ref b), .val (.int p2), .val (.int (3 : Int32)), .val (.int p4)] [(.int (1 : Int32)), (.int (3 : Int32))])) _
    refine XS.icmpNo X3.here hx rfl (hb hby d7_13) rfl (tlt (by decide)).2.2.2 ?_
    show Steps p.tables e below (T3.setTop (mkF m 16 #[.val (.ref b), .val (.int p2), .val (.int (3 : Int32)), .val (.int p4)] [])) _
    refine XS.aloadN X3.here hx rfl (hb hby d7_16) rfl rfl ?_
    show Steps p.tables e below (T3.setTop (mkF m 17 #[.val (.ref b), .val (.int p2), .val (.int (3 : Int32)), .val (.int p4)] [(.ref b)])) _
    refine XS.iloadN X3.here hx rfl (hb hby d7_17) rfl ?_
    show Steps p.tables e below (T3.setTop (mkF m 18 #[.val (.ref b), .val (.int p2), .val (.int (3 : Int32)), .val (.int p4)] [(.int p2), (.ref b)])) _
    refine XS.iconst X3.here hx rfl (hb hby d7_18) ?_
    show Steps p.tables e below (T3.setTop (mkF m 19 #[.val (.ref b), .val (.int p2), .val (.int (3 : Int32)), .val (.int p4)] [(.int (1 : Int32)), (.int p2), (.ref b)])) _
    refine XS.iadd X3.here hx rfl (hb hby d7_19) rfl ?_
    show Steps p.tables e below (T3.setTop (mkF m 20 #[.val (.ref b), .val (.int p2), .val (.int (3 : Int32)), .val (.int p4)] [(.int (p2 + (1 : Int32))), (.ref b)])) _
    refine XS.iloadN X3.here hx rfl (hb hby d7_20) rfl ?_
    show Steps p.tables e below (T3.setTop (mkF m 21 #[.val (.ref b), .val (.int p2), .val (.int (3 : Int32)), .val (.int p4)] [(.int p4), (.int (p2 + (1 : Int32))), (.ref b)])) _
    refine XS.bipush X3.here hx rfl (hb hby d7_21) ?_
    show Steps p.tables e below (T3.setTop (mkF m 23 #[.val (.ref b), .val (.int p2), .val (.int (3 : Int32)), .val (.int p4)] [(.int (8 : Int32)), (.int p4), (.int (p2 + (1 : Int32))), (.ref b)])) _
    refine XS.iushr X3.here hx rfl (hb hby d7_23) rfl ?_
    exact kz
  obtain ⟨_, _, ⟨T4, L4, k4, n4⟩, -, X4, ⟨Lc4, hQ4, l4, y4, z4⟩, st4⟩ := Jvm.LawKit.callS X3 hx (y := (⟨"com/example/loopwright/loopwright/AnnotateCommandLoopLineStartPinLaw", "content", "(I)B"⟩ : MethodName)) hown (mvT hZ (hw _ (List.mem_of_getElem? (i := 55) rfl))) (mvT hZ (hw _ (List.mem_of_getElem? (i := 56) rfl))) (mvT hZ (hw _ (List.mem_of_getElem? (i := 50) rfl))) (mvT hZ (hw _ (List.mem_of_getElem? (i := 57) rfl))) (by decide) (backOf (W := 2) (rm9 l Z a0 hw [] ((p4.toUInt32 >>> ((8 : Int32) &&& 31).toUInt32).toInt32) h3 n0 (Nat.le_trans Z0 (K3).1)) hZ (hw _ (List.mem_of_getElem? (i := 57) rfl)) (hw _ (List.mem_of_getElem? (i := 50) rfl)) (by decide) (by decide)) (g := (mkF m 24 #[.val (.ref b), .val (.int p2), .val (.int (3 : Int32)), .val (.int p4)] [(.int ((p4.toUInt32 >>> ((8 : Int32) &&& 31).toUInt32).toInt32)), (.int (p2 + (1 : Int32))), (.ref b)])) rfl (by rw [hml]; rfl) (argsL := [(.int ((p4.toUInt32 >>> ((8 : Int32) &&& 31).toUInt32).toInt32))]) (rest := [(.int (p2 + (1 : Int32))), (.ref b)]) (lenOf pd_0 rfl) rfl (by show 2 * 0 + _ ≤ _; exact Nat.le_of_eq rfl) (hb hby d7_24) (fun _ _ => ⟨rfl, e3, (by decide : 0 + 0 ≤ _), (by decide : 0 + 0 ≤ _)⟩)
  dsimp only [Pt.U, Pt.locs, Pt.cells, Pt.slots] at X4 l4 y4 z4 st4 hQ4
  subst l4 y4 z4
  obtain ⟨⟨c4, rfl, hc4⟩, N4, e4⟩ := hQ4
  have Nf4 := Fr.app N3 N4
  refine Goes.via (S' := T4.setTop (mkF m 27 #[.val (.ref b), .val (.int p2), .val (.int (3 : Int32)), .val (.int p4)] [(.int c4), (.int (p2 + (1 : Int32))), (.ref b)])) (st4) ?_
  obtain ⟨cl5, Ar5, Sz5, Hs5⟩ := B3
  obtain ⟨T6, h6, X6, e6, W6, st6⟩ := stB X4 hx hZ e4 Ar5 (j := (p2 + (1 : Int32))) (own_in Sz5 (hp.add own_I1 (by omega)) (by omega)) (g := (mkF m 27 #[.val (.ref b), .val (.int p2), .val (.int (3 : Int32)), .val (.int p4)] [(.int c4), (.int (p2 + (1 : Int32))), (.ref b)])) rfl rfl (hb hby d7_27)
  refine Goes.via (S' := T6.setTop (mkF m 28 #[.val (.ref b), .val (.int p2), .val (.int (3 : Int32)), .val (.int p4)] [])) st6 ?_
  have N6 := Fr.snoc X6 Nf4 gb
  rw [show ((p2 + (1 : Int32))).toNatClampNeg = (a + 1) from ((hp.add own_I1 (by omega))).nat] at W6
  have B6 := own_B.set Ar5 Sz5 Hs5 W6
  have K6 := (K3).wr W6 (Or.inl (List.mem_singleton.mpr rfl))
  refine Goes.via (S' := T6.setTop (mkF m 41 #[.val (.ref b), .val (.int p2), .val (.int (3 : Int32)), .val (.int p4)] [(.int ((p4.toUInt32 >>> ((16 : Int32) &&& 31).toUInt32).toInt32)), (.int (p2 + (2 : Int32))), (.ref b)])) (fun tz kz => ?_) ?_
  · show Steps p.tables e below (T6.setTop (mkF m 28 #[.val (.ref b), .val (.int p2), .val (.int (3 : Int32)), .val (.int p4)] [])) _
    refine XS.iloadN X6.here hx rfl (hb hby d7_28) rfl ?_
    show Steps p.tables e below (T6.setTop (mkF m 29 #[.val (.ref b), .val (.int p2), .val (.int (3 : Int32)), .val (.int p4)] [(.int (3 : Int32))])) _
    refine XS.iconst X6.here hx rfl (hb hby d7_29) ?_
    show Steps p.tables e below (T6.setTop (mkF m 30 #[.val (.ref b), .val (.int p2), .val (.int (3 : Int32)), .val (.int p4)] [(.int (2 : Int32)), (.int (3 : Int32))])) _
    refine XS.icmpNo X6.here hx rfl (hb hby d7_30) rfl (tlt (by decide)).2.2.2 ?_
    show Steps p.tables e below (T6.setTop (mkF m 33 #[.val (.ref b), .val (.int p2), .val (.int (3 : Int32)), .val (.int p4)] [])) _
    refine XS.aloadN X6.here hx rfl (hb hby d7_33) rfl rfl ?_
    show Steps p.tables e below (T6.setTop (mkF m 34 #[.val (.ref b), .val (.int p2), .val (.int (3 : Int32)), .val (.int p4)] [(.ref b)])) _
    refine XS.iloadN X6.here hx rfl (hb hby d7_34) rfl ?_
    show Steps p.tables e below (T6.setTop (mkF m 35 #[.val (.ref b), .val (.int p2), .val (.int (3 : Int32)), .val (.int p4)] [(.int p2), (.ref b)])) _
    refine XS.iconst X6.here hx rfl (hb hby d7_35) ?_
    show Steps p.tables e below (T6.setTop (mkF m 36 #[.val (.ref b), .val (.int p2), .val (.int (3 : Int32)), .val (.int p4)] [(.int (2 : Int32)), (.int p2), (.ref b)])) _
    refine XS.iadd X6.here hx rfl (hb hby d7_36) rfl ?_
    show Steps p.tables e below (T6.setTop (mkF m 37 #[.val (.ref b), .val (.int p2), .val (.int (3 : Int32)), .val (.int p4)] [(.int (p2 + (2 : Int32))), (.ref b)])) _
    refine XS.iloadN X6.here hx rfl (hb hby d7_37) rfl ?_
    show Steps p.tables e below (T6.setTop (mkF m 38 #[.val (.ref b), .val (.int p2), .val (.int (3 : Int32)), .val (.int p4)] [(.int p4), (.int (p2 + (2 : Int32))), (.ref b)])) _
    refine XS.bipush X6.here hx rfl (hb hby d7_38) ?_
    show Steps p.tables e below (T6.setTop (mkF m 40 #[.val (.ref b), .val (.int p2), .val (.int (3 : Int32)), .val (.int p4)] [(.int (16 : Int32)), (.int p4), (.int (p2 + (2 : Int32))), (.ref b)])) _
    refine XS.iushr X6.here hx rfl (hb hby d7_40) rfl ?_
    exact kz
  obtain ⟨_, _, ⟨T7, L7, k7, n7⟩, -, X7, ⟨Lc7, hQ7, l7, y7, z7⟩, st7⟩ := Jvm.LawKit.callS X6 hx (y := (⟨"com/example/loopwright/loopwright/AnnotateCommandLoopLineStartPinLaw", "content", "(I)B"⟩ : MethodName)) hown (mvT hZ (hw _ (List.mem_of_getElem? (i := 55) rfl))) (mvT hZ (hw _ (List.mem_of_getElem? (i := 56) rfl))) (mvT hZ (hw _ (List.mem_of_getElem? (i := 50) rfl))) (mvT hZ (hw _ (List.mem_of_getElem? (i := 57) rfl))) (by decide) (backOf (W := 2) (rm9 l Z a0 hw [] ((p4.toUInt32 >>> ((16 : Int32) &&& 31).toUInt32).toInt32) h6 n0 (Nat.le_trans Z0 (K6).1)) hZ (hw _ (List.mem_of_getElem? (i := 57) rfl)) (hw _ (List.mem_of_getElem? (i := 50) rfl)) (by decide) (by decide)) (g := (mkF m 41 #[.val (.ref b), .val (.int p2), .val (.int (3 : Int32)), .val (.int p4)] [(.int ((p4.toUInt32 >>> ((16 : Int32) &&& 31).toUInt32).toInt32)), (.int (p2 + (2 : Int32))), (.ref b)])) rfl (by rw [hml]; rfl) (argsL := [(.int ((p4.toUInt32 >>> ((16 : Int32) &&& 31).toUInt32).toInt32))]) (rest := [(.int (p2 + (2 : Int32))), (.ref b)]) (lenOf pd_0 rfl) rfl (by show 2 * 0 + _ ≤ _; exact Nat.le_of_eq rfl) (hb hby d7_41) (fun _ _ => ⟨rfl, e6, (by decide : 0 + 0 ≤ _), (by decide : 0 + 0 ≤ _)⟩)
  dsimp only [Pt.U, Pt.locs, Pt.cells, Pt.slots] at X7 l7 y7 z7 st7 hQ7
  subst l7 y7 z7
  obtain ⟨⟨c7, rfl, hc7⟩, N7, e7⟩ := hQ7
  have Nf7 := Fr.app N6 N7
  refine Goes.via (S' := T7.setTop (mkF m 44 #[.val (.ref b), .val (.int p2), .val (.int (3 : Int32)), .val (.int p4)] [(.int c7), (.int (p2 + (2 : Int32))), (.ref b)])) (st7) ?_
  obtain ⟨cl8, Ar8, Sz8, Hs8⟩ := B6
  obtain ⟨T9, h9, X9, e9, W9, st9⟩ := stB X7 hx hZ e7 Ar8 (j := (p2 + (2 : Int32))) (own_in Sz8 (hp.add own_I2 (by omega)) (by omega)) (g := (mkF m 44 #[.val (.ref b), .val (.int p2), .val (.int (3 : Int32)), .val (.int p4)] [(.int c7), (.int (p2 + (2 : Int32))), (.ref b)])) rfl rfl (hb hby d7_44)
  refine Goes.via (S' := T9.setTop (mkF m 45 #[.val (.ref b), .val (.int p2), .val (.int (3 : Int32)), .val (.int p4)] [])) st9 ?_
  have N9 := Fr.snoc X9 Nf7 gb
  rw [show ((p2 + (2 : Int32))).toNatClampNeg = (a + 2) from ((hp.add own_I2 (by omega))).nat] at W9
  have B9 := own_B.set Ar8 Sz8 Hs8 W9
  have K9 := (K6).wr W9 (Or.inl (List.mem_singleton.mpr rfl))
  refine Goes.via (S' := T9.setTop (mkF m 51 #[.val (.ref b), .val (.int p2), .val (.int (3 : Int32)), .val (.int p4)] [(.int (10 : Int32)), (.int (p2 + (3 : Int32))), (.ref b)])) (fun tz kz => ?_) ?_
  · show Steps p.tables e below (T9.setTop (mkF m 45 #[.val (.ref b), .val (.int p2), .val (.int (3 : Int32)), .val (.int p4)] [])) _
    refine XS.aloadN X9.here hx rfl (hb hby d7_45) rfl rfl ?_
    show Steps p.tables e below (T9.setTop (mkF m 46 #[.val (.ref b), .val (.int p2), .val (.int (3 : Int32)), .val (.int p4)] [(.ref b)])) _
    refine XS.iloadN X9.here hx rfl (hb hby d7_46) rfl ?_
    show Steps p.tables e below (T9.setTop (mkF m 47 #[.val (.ref b), .val (.int p2), .val (.int (3 : Int32)), .val (.int p4)] [(.int p2), (.ref b)])) _
    refine XS.iloadN X9.here hx rfl (hb hby d7_47) rfl ?_
    show Steps p.tables e below (T9.setTop (mkF m 48 #[.val (.ref b), .val (.int p2), .val (.int (3 : Int32)), .val (.int p4)] [(.int (3 : Int32)), (.int p2), (.ref b)])) _
    refine XS.iadd X9.here hx rfl (hb hby d7_48) rfl ?_
    show Steps p.tables e below (T9.setTop (mkF m 49 #[.val (.ref b), .val (.int p2), .val (.int (3 : Int32)), .val (.int p4)] [(.int (p2 + (3 : Int32))), (.ref b)])) _
    refine XS.bipush X9.here hx rfl (hb hby d7_49) ?_
    exact kz
  obtain ⟨cl10, Ar10, Sz10, Hs10⟩ := B9
  obtain ⟨T11, h11, X11, e11, W11, st11⟩ := stB X9 hx hZ e9 Ar10 (j := (p2 + (3 : Int32))) (own_in Sz10 (hp.add own_I3 (by omega)) (by omega)) (g := (mkF m 51 #[.val (.ref b), .val (.int p2), .val (.int (3 : Int32)), .val (.int p4)] [(.int (10 : Int32)), (.int (p2 + (3 : Int32))), (.ref b)])) rfl rfl (hb hby d7_51)
  refine Goes.via (S' := T11.setTop (mkF m 52 #[.val (.ref b), .val (.int p2), .val (.int (3 : Int32)), .val (.int p4)] [])) st11 ?_
  have N11 := Fr.snoc X11 N9 gb
  rw [show ((p2 + (3 : Int32))).toNatClampNeg = (a + 3) from ((hp.add own_I3 (by omega))).nat] at W11
  have B11 := own_B.set Ar10 Sz10 Hs10 W11
  have K11 := (K9).wr W11 (Or.inl (List.mem_singleton.mpr rfl))
  refine Goes.via (S' := T11.setTop (mkF m 57 #[.val (.ref b), .val (.int p2), .val (.int (3 : Int32)), .val (.int p4)] [(.int ((p2 + (3 : Int32)) + (1 : Int32)))])) (fun tz kz => ?_) ?_
  · show Steps p.tables e below (T11.setTop (mkF m 52 #[.val (.ref b), .val (.int p2), .val (.int (3 : Int32)), .val (.int p4)] [])) _
    refine XS.iloadN X11.here hx rfl (hb hby d7_52) rfl ?_
    show Steps p.tables e below (T11.setTop (mkF m 53 #[.val (.ref b), .val (.int p2), .val (.int (3 : Int32)), .val (.int p4)] [(.int p2)])) _
    refine XS.iloadN X11.here hx rfl (hb hby d7_53) rfl ?_
    show Steps p.tables e below (T11.setTop (mkF m 54 #[.val (.ref b), .val (.int p2), .val (.int (3 : Int32)), .val (.int p4)] [(.int (3 : Int32)), (.int p2)])) _
    refine XS.iadd X11.here hx rfl (hb hby d7_54) rfl ?_
    show Steps p.tables e below (T11.setTop (mkF m 55 #[.val (.ref b), .val (.int p2), .val (.int (3 : Int32)), .val (.int p4)] [(.int (p2 + (3 : Int32)))])) _
    refine XS.iconst X11.here hx rfl (hb hby d7_55) ?_
    show Steps p.tables e below (T11.setTop (mkF m 56 #[.val (.ref b), .val (.int p2), .val (.int (3 : Int32)), .val (.int p4)] [(.int (1 : Int32)), (.int (p2 + (3 : Int32)))])) _
    refine XS.iadd X11.here hx rfl (hb hby d7_56) rfl ?_
    exact kz
  have f1 : ∀ i, i < a → (own_up (own_up (own_up (own_up f a (nar .byte c1)) (a + 1) (nar .byte c4)) (a + 2) (nar .byte c7)) (a + 3) (nar .byte (10 : Int32))) i = f i := by
    intro i hi
    rw [own_up_ne (by omega), own_up_ne (by omega), own_up_ne (by omega), own_up_ne (by omega)]
  have f2 : own_L (own_up (own_up (own_up (own_up f a (nar .byte c1)) (a + 1) (nar .byte c4)) (a + 2) (nar .byte c7)) (a + 3) (nar .byte (10 : Int32))) a [3] := by
    refine ⟨fun t ht => ?_, ?_, by omega, trivial⟩
    · rcases (show t = 0 ∨ t = 1 ∨ t = 2 by omega) with rfl | rfl | rfl
      · rw [own_up_ne (by omega), own_up_ne (by omega), own_up_ne (by omega), own_up_eq (by omega)]
        exact hc1
      · rw [own_up_ne (by omega), own_up_ne (by omega), own_up_eq (by omega)]
        exact hc4
      · rw [own_up_ne (by omega), own_up_eq (by omega)]
        exact hc7
    · rw [own_up_eq rfl]; decide
  exact Goes.retI X11 hx Bd.notSynchronized Bd.returns (hb hby d7_57) (Nat.le_of_ble_eq_true rfl) (Nat.le_of_ble_eq_true rfl) (by rw [e11]; exact ⟨rfl, N11, K11, _, B11, f1, f2⟩)
def Q_rm7 (Z : State) (b : Addr) (p2 p3 p4 : Int32) (f : Nat → Int32) (a d : Nat) (h0 : Heap) (n0 : Nat) : Option Value → Heap → List Loc → Prop := fun v h L => v = some (.int ((p2 + p3) + (1 : Int32))) ∧ Fr n0 L ∧ Keep h0 h [b] ∧ ∃ f' : Nat → Int32, own_B Z h b f' ∧ (∀ i, i < a → f' i = f i) ∧ own_L f' a [d]
theorem rm7 (l : Launch) (Z : State) (a0 : Array Value) (hw : ∀ d ∈ tables_1, d.before a0 Z = true) (ws : List Jvm.Cond) (b : Addr) (p2 p3 p4 : Int32) (f : Nat → Int32) (a d : Nat) (h0 : Heap) (n0 : Nat) (Z0 : n0 ≤ h0.size) (hd : own_I p3 d) (hd3 : d ≤ 3) (hp : own_I p2 a) (ha : a + d < 20) (B0 : own_B Z h0 b f) (gb : n0 ≤ b) :
    MetFree l (⟨"com/example/loopwright/loopwright/AnnotateCommandLoopLineStartPinLaw", "line", "([BIII)I"⟩ : MethodName) (head1 (Jvm.Cond.code (⟨"com/example/loopwright/loopwright/AnnotateCommandLoopLineStartPinLaw", "line", "([BIII)I"⟩ : MethodName) method_4_code 4 (some .int) :: ws) ({ frames := 1, cells := 0, slots := 0, locals := 20 } : Room)) (fun a U => a = #[(.ref b), (.int p2), (.int p3), (.int p4)] ∧ Z.Warmed39 U.vm ∧ U.heap = h0) (fun _ _ _ _ _ => True) (fun _ U o U' => ∃ v L, o = .returned v ∧ (Q_rm7 Z b p2 p3 p4 f a d h0 n0) v U'.heap L ∧ FrameEnd U o U' L ({ frames := 1, cells := 0, slots := 0, locals := 20 } : Room).cells ({ frames := 1, cells := 0, slots := 0, locals := 20 } : Room).slots) := by
  rcases hd.lit hd3 with ⟨rfl, q⟩ | ⟨rfl, q⟩ | ⟨rfl, q⟩ | ⟨rfl, q⟩
  · exact rm7_0 l Z a0 hw ws b p2 p3 p4 f a h0 n0 Z0 q hp ha B0 gb
  · exact rm7_1 l Z a0 hw ws b p2 p3 p4 f a h0 n0 Z0 q hp ha B0 gb
  · exact rm7_2 l Z a0 hw ws b p2 p3 p4 f a h0 n0 Z0 q hp ha B0 gb
  · exact rm7_3 l Z a0 hw ws b p2 p3 p4 f a h0 n0 Z0 q hp ha B0 gb
theorem d2_0 : decode jdk_30_method_1_code 0 = .ok (.aload_n 0, 1) := by decide +kernel
theorem d2_1 : decode jdk_30_method_1_code 1 = .ok (.invokespecial 1, 3) := by decide +kernel
theorem d2_4 : decode jdk_30_method_1_code 4 = .ok (.return_, 1) := by decide +kernel
theorem pn_2 : plainName "java/lang/Record" = true := by first | (simp [plainName, overriddenIn]; done) | decide +kernel
theorem ef_2 (m : MethodId) (x0 : Addr) : entryFrame m #[(.ref x0)] 1 = mkF m 0 #[.val (.ref x0)] [] := by first | (simp [entryFrame, mkF, argsToLocals, Value.category]; done) | rfl
def Q_rm2 (Z : State) (a1 : Addr)  (h0 : Heap) (n0 : Nat) : Option Value → Heap → List Loc → Prop := fun v h L => v = none ∧ Fr n0 L ∧ h = h0
set_option maxRecDepth 65536 in
set_option maxHeartbeats 40000000 in
theorem rm2 (l : Launch) (Z : State) (a0 : Array Value) (hw : ∀ d ∈ tables_1, d.before a0 Z = true) (ws : List Jvm.Cond) (a1 : Addr)  (h0 : Heap) (n0 : Nat) (Z0 : n0 ≤ h0.size) :
    MetFree l (⟨"java/lang/Record", "<init>", "()V"⟩ : MethodName) (head1 (Jvm.Cond.code (⟨"java/lang/Record", "<init>", "()V"⟩ : MethodName) jdk_30_method_1_code 1 none :: ws) ({ frames := 1, cells := 0, slots := 0, locals := 12 } : Room)) (fun a U => a = #[(.ref a1)] ∧ Z.Warmed39 U.vm ∧ U.heap = h0) (fun _ _ _ _ _ => True) (fun _ U oo U' => ∃ vv LL, oo = .returned vv ∧ (Q_rm2 Z a1 h0 n0) vv U'.heap LL ∧ FrameEnd U oo U' LL ({ frames := 1, cells := 0, slots := 0, locals := 12 } : Room).cells ({ frames := 1, cells := 0, slots := 0, locals := 12 } : Room).slots) := by
  refine MetFree.of_bodySF (plainFor_of_name pn_2) hisR ?_
  intro p e s m args below meth c s₁ Bd hml0 hP hK
  obtain ⟨rfl, hZ, hh⟩ := hP
  have hx := Bd.exec
  have hby := Bd.bytes
  have hml : c.maxLocals = 1 := hml0
  have hown : s.vm.findClass "java/lang/Record" = some m.cls := findClass_of_methodNamed Bd.named
  have hnm := (name_of_methodNamed Bd.named Bd.method).1
  have X0 : Stand p l e ({ frames := 1, cells := 0, slots := 0, locals := 12 } : Room) s m #[(.ref a1)] below meth c s₁ [] 0 0 := Stand.of_body Bd
  have e0 : s₁.heap = h0 := by rw [← hh, Bd.state]; rfl
  have N0 := Fr.nil n0
  show Goes p e below (Fin s (Q_rm2 Z a1 h0 n0) ({ frames := 1, cells := 0, slots := 0, locals := 12 } : Room).cells ({ frames := 1, cells := 0, slots := 0, locals := 12 } : Room).slots) _
  refine Goes.via (S' := s₁.setTop (mkF m 0 #[.val (.ref a1)] [])) (fun tz kz => castTop (ef_2 m a1 ) kz) ?_
  refine Goes.via (S' := s₁.setTop (mkF m 1 #[.val (.ref a1)] [(.ref a1)])) (fun tz kz => ?_) ?_
  · show Steps p.tables e below (s₁.setTop (mkF m 0 #[.val (.ref a1)] [])) _
    refine XS.aloadN X0.here hx rfl (hb hby d2_0) rfl rfl ?_
    exact kz
  obtain ⟨T1, X1, e1, st1⟩ := initO X0 hx hZ hown (hw _ (List.mem_of_getElem? (i := 22) rfl)) (hw _ (List.mem_of_getElem? (i := 23) rfl)) (hw _ (List.mem_of_getElem? (i := 24) rfl)) e0 (g := (mkF m 1 #[.val (.ref a1)] [(.ref a1)])) rfl (by rw [hml]; rfl) rfl (hb hby d2_1) (by decide) (W := 0) (by show 2 * 0 + _ ≤ _; exact Nat.le_of_eq rfl) (by decide)
  refine Goes.via (S' := T1.setTop (mkF m 4 #[.val (.ref a1)] [])) st1 ?_
  exact Goes.retV X1 hx Bd.notSynchronized Bd.returns (hb hby d2_4) (Nat.le_of_ble_eq_true rfl) (Nat.le_of_ble_eq_true rfl) ⟨rfl, N0, e1⟩
theorem d1_0 : decode prog_56_method_1_code 0 = .ok (.aload_n 0, 1) := by decide +kernel
theorem d1_1 : decode prog_56_method_1_code 1 = .ok (.invokespecial 1, 3) := by decide +kernel
theorem d1_4 : decode prog_56_method_1_code 4 = .ok (.aload_n 0, 1) := by decide +kernel
theorem d1_5 : decode prog_56_method_1_code 5 = .ok (.aload_n 1, 1) := by decide +kernel
theorem d1_6 : decode prog_56_method_1_code 6 = .ok (.putfield 7, 3) := by decide +kernel
theorem d1_9 : decode prog_56_method_1_code 9 = .ok (.aload_n 0, 1) := by decide +kernel
theorem d1_10 : decode prog_56_method_1_code 10 = .ok (.aload_n 2, 1) := by decide +kernel
theorem d1_11 : decode prog_56_method_1_code 11 = .ok (.putfield 13, 3) := by decide +kernel
theorem d1_14 : decode prog_56_method_1_code 14 = .ok (.aload_n 0, 1) := by decide +kernel
theorem d1_15 : decode prog_56_method_1_code 15 = .ok (.iload_n 3, 1) := by decide +kernel
theorem d1_16 : decode prog_56_method_1_code 16 = .ok (.putfield 17, 3) := by decide +kernel
theorem d1_19 : decode prog_56_method_1_code 19 = .ok (.aload_n 0, 1) := by decide +kernel
theorem d1_20 : decode prog_56_method_1_code 20 = .ok (.iload 4, 2) := by decide +kernel
theorem d1_22 : decode prog_56_method_1_code 22 = .ok (.putfield 21, 3) := by decide +kernel
theorem d1_25 : decode prog_56_method_1_code 25 = .ok (.return_, 1) := by decide +kernel
theorem pn_1 : plainName "com/example/loopwright/loopwright/Lexer$Token" = true := by first | (simp [plainName, overriddenIn]; done) | decide +kernel
theorem ef_1 (m : MethodId) (x0 : Addr) (x1 : Addr) (x2 : Addr) (x3 : Int32) (x4 : Int32) : entryFrame m #[(.ref x0), (.ref x1), (.ref x2), (.int x3), (.int x4)] 5 = mkF m 0 #[.val (.ref x0), .val (.ref x1), .val (.ref x2), .val (.int x3), .val (.int x4)] [] := by first | (simp [entryFrame, mkF, argsToLocals, Value.category]; done) | rfl
def Q_rm1 (Z : State) (a1 : Addr) (a2 : Addr) (a3 : Addr) (p4 : Int32) (p5 : Int32)  (h0 : Heap) (n0 : Nat) : Option Value → Heap → List Loc → Prop := fun v h L => v = none ∧ Fr n0 L ∧ Keep h0 h [a1] ∧ Exa Z h a1 "com/example/loopwright/loopwright/Lexer$Token" ∧ Fld Z h a1 "com/example/loopwright/loopwright/Lexer$Token" "line" "I" (.int p4) ∧ Fld Z h a1 "com/example/loopwright/loopwright/Lexer$Token" "column" "I" (.int p5)
set_option maxRecDepth 65536 in
set_option maxHeartbeats 40000000 in
theorem rm1 (l : Launch) (Z : State) (a0 : Array Value) (hw : ∀ d ∈ tables_1, d.before a0 Z = true) (ws : List Jvm.Cond) (a1 : Addr) (a2 : Addr) (a3 : Addr) (p4 : Int32) (p5 : Int32)  (h0 : Heap) (n0 : Nat) (Z0 : n0 ≤ h0.size) (F0 : Fld Z h0 a1 "com/example/loopwright/loopwright/Lexer$Token" "kind" "Lcom/example/loopwright/loopwright/Lexer$Kind;" .null) (F1 : Fld Z h0 a1 "com/example/loopwright/loopwright/Lexer$Token" "text" "Ljava/lang/String;" .null) (F2 : Fld Z h0 a1 "com/example/loopwright/loopwright/Lexer$Token" "line" "I" (.int (0 : Int32))) (F3 : Fld Z h0 a1 "com/example/loopwright/loopwright/Lexer$Token" "column" "I" (.int (0 : Int32))) (E : Exa Z h0 a1 "com/example/loopwright/loopwright/Lexer$Token") (g1 : n0 ≤ a1) :
    MetFree l (⟨"com/example/loopwright/loopwright/Lexer$Token", "<init>", "(Lcom/example/loopwright/loopwright/Lexer$Kind;Ljava/lang/String;II)V"⟩ : MethodName) (head1 (Jvm.Cond.code (⟨"com/example/loopwright/loopwright/Lexer$Token", "<init>", "(Lcom/example/loopwright/loopwright/Lexer$Kind;Ljava/lang/String;II)V"⟩ : MethodName) prog_56_method_1_code 5 none :: ws) ({ frames := 2, cells := 0, slots := 0, locals := 24 } : Room)) (fun a U => a = #[(.ref a1), (.ref a2), (.ref a3), (.int p4), (.int p5)] ∧ Z.Warmed39 U.vm ∧ U.heap = h0) (fun _ _ _ _ _ => True) (fun _ U oo U' => ∃ vv LL, oo = .returned vv ∧ (Q_rm1 Z a1 a2 a3 p4 p5 h0 n0) vv U'.heap LL ∧ FrameEnd U oo U' LL ({ frames := 2, cells := 0, slots := 0, locals := 24 } : Room).cells ({ frames := 2, cells := 0, slots := 0, locals := 24 } : Room).slots) := by
  refine MetFree.of_bodySF (plainFor_of_name pn_1) hisR ?_
  intro p e s m args below meth c s₁ Bd hml0 hP hK
  obtain ⟨rfl, hZ, hh⟩ := hP
  have hx := Bd.exec
  have hby := Bd.bytes
  have hml : c.maxLocals = 5 := hml0
  have hown : s.vm.findClass "com/example/loopwright/loopwright/Lexer$Token" = some m.cls := findClass_of_methodNamed Bd.named
  have hnm := (name_of_methodNamed Bd.named Bd.method).1
  have X0 : Stand p l e ({ frames := 2, cells := 0, slots := 0, locals := 24 } : Room) s m #[(.ref a1), (.ref a2), (.ref a3), (.int p4), (.int p5)] below meth c s₁ [] 0 0 := Stand.of_body Bd
  have e0 : s₁.heap = h0 := by rw [← hh, Bd.state]; rfl
  have N0 := Fr.nil n0
  show Goes p e below (Fin s (Q_rm1 Z a1 a2 a3 p4 p5 h0 n0) ({ frames := 2, cells := 0, slots := 0, locals := 24 } : Room).cells ({ frames := 2, cells := 0, slots := 0, locals := 24 } : Room).slots) _
  refine Goes.via (S' := s₁.setTop (mkF m 0 #[.val (.ref a1), .val (.ref a2), .val (.ref a3), .val (.int p4), .val (.int p5)] [])) (fun tz kz => castTop (ef_1 m a1 a2 a3 p4 p5 ) kz) ?_
  refine Goes.via (S' := s₁.setTop (mkF m 1 #[.val (.ref a1), .val (.ref a2), .val (.ref a3), .val (.int p4), .val (.int p5)] [(.ref a1)])) (fun tz kz => ?_) ?_
  · show Steps p.tables e below (s₁.setTop (mkF m 0 #[.val (.ref a1), .val (.ref a2), .val (.ref a3), .val (.int p4), .val (.int p5)] [])) _
    refine XS.aloadN X0.here hx rfl (hb hby d1_0) rfl rfl ?_
    exact kz
  obtain ⟨_, _, ⟨T1, L1, k1, n1⟩, -, X1, ⟨Lc1, hQ1, l1, y1, z1⟩, st1⟩ := X0.specialBack hx (y := (⟨"java/lang/Record", "<init>", "()V"⟩ : MethodName)) rfl hown (mvT hZ (hw _ (List.mem_of_getElem? (i := 17) rfl))) (mvT hZ (hw _ (List.mem_of_getElem? (i := 18) rfl))) (mvT hZ (hw _ (List.mem_of_getElem? (i := 21) rfl))) (by decide) (backOf (W := 0) (rm2 l Z a0 hw [] a1 h0 n0 Z0) hZ (hw _ (List.mem_of_getElem? (i := 21) rfl)) (hw _ (List.mem_of_getElem? (i := 20) rfl)) (by decide) (by decide)) (g := (mkF m 1 #[.val (.ref a1), .val (.ref a2), .val (.ref a3), .val (.int p4), .val (.int p5)] [(.ref a1)])) rfl (by rw [hml]; rfl) (Steps.refl _) (a := a1) (argsL := []) (rest := []) (lenOf pd_1 rfl) rfl (by show 2 * 0 + _ ≤ _; exact Nat.le_of_eq rfl) (hb hby d1_1) (fun _ _ => ⟨rfl, e0, (by decide : 0 + 0 ≤ _), (by decide : 0 + 0 ≤ _)⟩)
  dsimp only [Pt.U, Pt.locs, Pt.cells, Pt.slots] at X1 l1 y1 z1 st1 hQ1
  subst l1 y1 z1
  obtain ⟨rfl, N1, e1⟩ := hQ1
  have Nf1 := Fr.app N0 N1
  refine Goes.via (S' := T1.setTop (mkF m 4 #[.val (.ref a1), .val (.ref a2), .val (.ref a3), .val (.int p4), .val (.int p5)] [])) (fun _ kz => st1.trans kz) ?_
  refine Goes.via (S' := T1.setTop (mkF m 6 #[.val (.ref a1), .val (.ref a2), .val (.ref a3), .val (.int p4), .val (.int p5)] [(.ref a2), (.ref a1)])) (fun tz kz => ?_) ?_
  · show Steps p.tables e below (T1.setTop (mkF m 4 #[.val (.ref a1), .val (.ref a2), .val (.ref a3), .val (.int p4), .val (.int p5)] [])) _
    refine XS.aloadN X1.here hx rfl (hb hby d1_4) rfl rfl ?_
    show Steps p.tables e below (T1.setTop (mkF m 5 #[.val (.ref a1), .val (.ref a2), .val (.ref a3), .val (.int p4), .val (.int p5)] [(.ref a1)])) _
    refine XS.aloadN X1.here hx rfl (hb hby d1_5) rfl rfl ?_
    exact kz
  obtain ⟨T2, h2, X2, e2, W2, st2⟩ := putF X1 hx hZ hown (host := "") (Or.inl (hw _ (List.mem_of_getElem? (i := 25) rfl))) Via.refl e1 F0 E (Or.inr ⟨(hw _ (List.mem_of_getElem? (i := 26) rfl)), rfl, hnm⟩) (hw _ (List.mem_of_getElem? (i := 2) rfl)) (ty := (.object "com/example/loopwright/loopwright/Lexer$Kind")) (by decide) rfl rfl (g := (mkF m 6 #[.val (.ref a1), .val (.ref a2), .val (.ref a3), .val (.int p4), .val (.int p5)] [(.ref a2), (.ref a1)])) rfl rfl (hb hby d1_6)
  refine Goes.via (S' := T2.setTop (mkF m 9 #[.val (.ref a1), .val (.ref a2), .val (.ref a3), .val (.int p4), .val (.int p5)] [])) st2 ?_
  have N2 := Fr.snoc X2 Nf1 g1
  have F0_2 := F0.same W2
  have F1_2 := F1.other W2 (Or.inr (slot_ne (Or.inr (hw _ (List.mem_of_getElem? (i := 28) rfl))) (Or.inr (hw _ (List.mem_of_getElem? (i := 26) rfl))) (by decide) (t := (.object "java/lang/String")) (t' := (.object "com/example/loopwright/loopwright/Lexer$Kind")) (by decide) (by decide)))
  have F2_2 := F2.other W2 (Or.inr (slot_ne (Or.inr (hw _ (List.mem_of_getElem? (i := 30) rfl))) (Or.inr (hw _ (List.mem_of_getElem? (i := 26) rfl))) (by decide) (t := .int) (t' := (.object "com/example/loopwright/loopwright/Lexer$Kind")) (by decide) (by decide)))
  have F3_2 := F3.other W2 (Or.inr (slot_ne (Or.inr (hw _ (List.mem_of_getElem? (i := 32) rfl))) (Or.inr (hw _ (List.mem_of_getElem? (i := 26) rfl))) (by decide) (t := .int) (t' := (.object "com/example/loopwright/loopwright/Lexer$Kind")) (by decide) (by decide)))
  have E_2 := E.wr W2
  have K_2 := (Keep.refl h0 [a1]).wr W2 (Or.inl (List.mem_singleton.mpr rfl))
  refine Goes.via (S' := T2.setTop (mkF m 11 #[.val (.ref a1), .val (.ref a2), .val (.ref a3), .val (.int p4), .val (.int p5)] [(.ref a3), (.ref a1)])) (fun tz kz => ?_) ?_
  · show Steps p.tables e below (T2.setTop (mkF m 9 #[.val (.ref a1), .val (.ref a2), .val (.ref a3), .val (.int p4), .val (.int p5)] [])) _
    refine XS.aloadN X2.here hx rfl (hb hby d1_9) rfl rfl ?_
    show Steps p.tables e below (T2.setTop (mkF m 10 #[.val (.ref a1), .val (.ref a2), .val (.ref a3), .val (.int p4), .val (.int p5)] [(.ref a1)])) _
    refine XS.aloadN X2.here hx rfl (hb hby d1_10) rfl rfl ?_
    exact kz
  obtain ⟨T3, h3, X3, e3, W3, st3⟩ := putF X2 hx hZ hown (host := "") (Or.inl (hw _ (List.mem_of_getElem? (i := 27) rfl))) Via.refl e2 F1_2 E_2 (Or.inr ⟨(hw _ (List.mem_of_getElem? (i := 28) rfl)), rfl, hnm⟩) (hw _ (List.mem_of_getElem? (i := 2) rfl)) (ty := (.object "java/lang/String")) (by decide) rfl rfl (g := (mkF m 11 #[.val (.ref a1), .val (.ref a2), .val (.ref a3), .val (.int p4), .val (.int p5)] [(.ref a3), (.ref a1)])) rfl rfl (hb hby d1_11)
  refine Goes.via (S' := T3.setTop (mkF m 14 #[.val (.ref a1), .val (.ref a2), .val (.ref a3), .val (.int p4), .val (.int p5)] [])) st3 ?_
  have N3 := Fr.snoc X3 N2 g1
  have F0_3 := F0_2.other W3 (Or.inr (slot_ne (Or.inr (hw _ (List.mem_of_getElem? (i := 26) rfl))) (Or.inr (hw _ (List.mem_of_getElem? (i := 28) rfl))) (by decide) (t := (.object "com/example/loopwright/loopwright/Lexer$Kind")) (t' := (.object "java/lang/String")) (by decide) (by decide)))
  have F1_3 := F1_2.same W3
  have F2_3 := F2_2.other W3 (Or.inr (slot_ne (Or.inr (hw _ (List.mem_of_getElem? (i := 30) rfl))) (Or.inr (hw _ (List.mem_of_getElem? (i := 28) rfl))) (by decide) (t := .int) (t' := (.object "java/lang/String")) (by decide) (by decide)))
  have F3_3 := F3_2.other W3 (Or.inr (slot_ne (Or.inr (hw _ (List.mem_of_getElem? (i := 32) rfl))) (Or.inr (hw _ (List.mem_of_getElem? (i := 28) rfl))) (by decide) (t := .int) (t' := (.object "java/lang/String")) (by decide) (by decide)))
  have E_3 := E_2.wr W3
  have K_3 := (K_2).wr W3 (Or.inl (List.mem_singleton.mpr rfl))
  refine Goes.via (S' := T3.setTop (mkF m 16 #[.val (.ref a1), .val (.ref a2), .val (.ref a3), .val (.int p4), .val (.int p5)] [(.int p4), (.ref a1)])) (fun tz kz => ?_) ?_
  · show Steps p.tables e below (T3.setTop (mkF m 14 #[.val (.ref a1), .val (.ref a2), .val (.ref a3), .val (.int p4), .val (.int p5)] [])) _
    refine XS.aloadN X3.here hx rfl (hb hby d1_14) rfl rfl ?_
    show Steps p.tables e below (T3.setTop (mkF m 15 #[.val (.ref a1), .val (.ref a2), .val (.ref a3), .val (.int p4), .val (.int p5)] [(.ref a1)])) _
    refine XS.iloadN X3.here hx rfl (hb hby d1_15) rfl ?_
    exact kz
  obtain ⟨T4, h4, X4, e4, W4, st4⟩ := putF X3 hx hZ hown (host := "") (Or.inl (hw _ (List.mem_of_getElem? (i := 29) rfl))) Via.refl e3 F2_3 E_3 (Or.inr ⟨(hw _ (List.mem_of_getElem? (i := 30) rfl)), rfl, hnm⟩) (hw _ (List.mem_of_getElem? (i := 2) rfl)) (ty := .int) (by decide) rfl rfl (g := (mkF m 16 #[.val (.ref a1), .val (.ref a2), .val (.ref a3), .val (.int p4), .val (.int p5)] [(.int p4), (.ref a1)])) rfl rfl (hb hby d1_16)
  refine Goes.via (S' := T4.setTop (mkF m 19 #[.val (.ref a1), .val (.ref a2), .val (.ref a3), .val (.int p4), .val (.int p5)] [])) st4 ?_
  have N4 := Fr.snoc X4 N3 g1
  have F0_4 := F0_3.other W4 (Or.inr (slot_ne (Or.inr (hw _ (List.mem_of_getElem? (i := 26) rfl))) (Or.inr (hw _ (List.mem_of_getElem? (i := 30) rfl))) (by decide) (t := (.object "com/example/loopwright/loopwright/Lexer$Kind")) (t' := .int) (by decide) (by decide)))
  have F1_4 := F1_3.other W4 (Or.inr (slot_ne (Or.inr (hw _ (List.mem_of_getElem? (i := 28) rfl))) (Or.inr (hw _ (List.mem_of_getElem? (i := 30) rfl))) (by decide) (t := (.object "java/lang/String")) (t' := .int) (by decide) (by decide)))
  have F2_4 := F2_3.same W4
  have F3_4 := F3_3.other W4 (Or.inr (slot_ne (Or.inr (hw _ (List.mem_of_getElem? (i := 32) rfl))) (Or.inr (hw _ (List.mem_of_getElem? (i := 30) rfl))) (by decide) (t := .int) (t' := .int) (by decide) (by decide)))
  have E_4 := E_3.wr W4
  have K_4 := (K_3).wr W4 (Or.inl (List.mem_singleton.mpr rfl))
  refine Goes.via (S' := T4.setTop (mkF m 22 #[.val (.ref a1), .val (.ref a2), .val (.ref a3), .val (.int p4), .val (.int p5)] [(.int p5), (.ref a1)])) (fun tz kz => ?_) ?_
  · show Steps p.tables e below (T4.setTop (mkF m 19 #[.val (.ref a1), .val (.ref a2), .val (.ref a3), .val (.int p4), .val (.int p5)] [])) _
    refine XS.aloadN X4.here hx rfl (hb hby d1_19) rfl rfl ?_
    show Steps p.tables e below (T4.setTop (mkF m 20 #[.val (.ref a1), .val (.ref a2), .val (.ref a3), .val (.int p4), .val (.int p5)] [(.ref a1)])) _
    refine XS.iload X4.here hx rfl (hb hby d1_20) rfl ?_
    exact kz
  obtain ⟨T5, h5, X5, e5, W5, st5⟩ := putF X4 hx hZ hown (host := "") (Or.inl (hw _ (List.mem_of_getElem? (i := 31) rfl))) Via.refl e4 F3_4 E_4 (Or.inr ⟨(hw _ (List.mem_of_getElem? (i := 32) rfl)), rfl, hnm⟩) (hw _ (List.mem_of_getElem? (i := 2) rfl)) (ty := .int) (by decide) rfl rfl (g := (mkF m 22 #[.val (.ref a1), .val (.ref a2), .val (.ref a3), .val (.int p4), .val (.int p5)] [(.int p5), (.ref a1)])) rfl rfl (hb hby d1_22)
  refine Goes.via (S' := T5.setTop (mkF m 25 #[.val (.ref a1), .val (.ref a2), .val (.ref a3), .val (.int p4), .val (.int p5)] [])) st5 ?_
  have N5 := Fr.snoc X5 N4 g1
  have F0_5 := F0_4.other W5 (Or.inr (slot_ne (Or.inr (hw _ (List.mem_of_getElem? (i := 26) rfl))) (Or.inr (hw _ (List.mem_of_getElem? (i := 32) rfl))) (by decide) (t := (.object "com/example/loopwright/loopwright/Lexer$Kind")) (t' := .int) (by decide) (by decide)))
  have F1_5 := F1_4.other W5 (Or.inr (slot_ne (Or.inr (hw _ (List.mem_of_getElem? (i := 28) rfl))) (Or.inr (hw _ (List.mem_of_getElem? (i := 32) rfl))) (by decide) (t := (.object "java/lang/String")) (t' := .int) (by decide) (by decide)))
  have F2_5 := F2_4.other W5 (Or.inr (slot_ne (Or.inr (hw _ (List.mem_of_getElem? (i := 30) rfl))) (Or.inr (hw _ (List.mem_of_getElem? (i := 32) rfl))) (by decide) (t := .int) (t' := .int) (by decide) (by decide)))
  have F3_5 := F3_4.same W5
  have E_5 := E_4.wr W5
  have K_5 := (K_4).wr W5 (Or.inl (List.mem_singleton.mpr rfl))
  exact Goes.retV X5 hx Bd.notSynchronized Bd.returns (hb hby d1_25) (Nat.le_of_ble_eq_true rfl) (Nat.le_of_ble_eq_true rfl) (by rw [e5]; exact ⟨rfl, N5, K_5, E_5, F2_5, F3_5⟩)
theorem d5_0 : decode prog_56_method_9_code 0 = .ok (.aload_n 0, 1) := by decide +kernel
theorem d5_1 : decode prog_56_method_9_code 1 = .ok (.getfield 17, 3) := by decide +kernel
theorem d5_4 : decode prog_56_method_9_code 4 = .ok (.ireturn, 1) := by decide +kernel
theorem pn_5 : plainName "com/example/loopwright/loopwright/Lexer$Token" = true := by first | (simp [plainName, overriddenIn]; done) | decide +kernel
theorem ef_5 (m : MethodId) (x0 : Addr) : entryFrame m #[(.ref x0)] 1 = mkF m 0 #[.val (.ref x0)] [] := by first | (simp [entryFrame, mkF, argsToLocals, Value.category]; done) | rfl
def Q_rm5 (Z : State) (a1 : Addr) (x : Int32) (h0 : Heap) (n0 : Nat) : Option Value → Heap → List Loc → Prop := fun v h L => v = some (.int x) ∧ Fr n0 L ∧ h = h0
set_option maxRecDepth 65536 in
set_option maxHeartbeats 40000000 in
theorem rm5 (l : Launch) (Z : State) (a0 : Array Value) (hw : ∀ d ∈ tables_1, d.before a0 Z = true) (ws : List Jvm.Cond) (a1 : Addr) (x : Int32) (h0 : Heap) (n0 : Nat) (Z0 : n0 ≤ h0.size) (F : Fld Z h0 a1 "com/example/loopwright/loopwright/Lexer$Token" "line" "I" (.int x)) :
    MetFree l (⟨"com/example/loopwright/loopwright/Lexer$Token", "line", "()I"⟩ : MethodName) (head1 (Jvm.Cond.code (⟨"com/example/loopwright/loopwright/Lexer$Token", "line", "()I"⟩ : MethodName) prog_56_method_9_code 1 (some .int) :: ws) ({ frames := 0, cells := 0, slots := 0, locals := 0 } : Room)) (fun a U => a = #[(.ref a1)] ∧ Z.Warmed39 U.vm ∧ U.heap = h0) (fun _ _ _ _ _ => True) (fun _ U oo U' => ∃ vv LL, oo = .returned vv ∧ (Q_rm5 Z a1 x h0 n0) vv U'.heap LL ∧ FrameEnd U oo U' LL ({ frames := 0, cells := 0, slots := 0, locals := 0 } : Room).cells ({ frames := 0, cells := 0, slots := 0, locals := 0 } : Room).slots) := by
  refine MetFree.of_bodySF (plainFor_of_name pn_5) hisR ?_
  intro p e s m args below meth c s₁ Bd hml0 hP hK
  obtain ⟨rfl, hZ, hh⟩ := hP
  have hx := Bd.exec
  have hby := Bd.bytes
  have hml : c.maxLocals = 1 := hml0
  have hown : s.vm.findClass "com/example/loopwright/loopwright/Lexer$Token" = some m.cls := findClass_of_methodNamed Bd.named
  have hnm := (name_of_methodNamed Bd.named Bd.method).1
  have X0 : Stand p l e ({ frames := 0, cells := 0, slots := 0, locals := 0 } : Room) s m #[(.ref a1)] below meth c s₁ [] 0 0 := Stand.of_body Bd
  have e0 : s₁.heap = h0 := by rw [← hh, Bd.state]; rfl
  have N0 := Fr.nil n0
  show Goes p e below (Fin s (Q_rm5 Z a1 x h0 n0) ({ frames := 0, cells := 0, slots := 0, locals := 0 } : Room).cells ({ frames := 0, cells := 0, slots := 0, locals := 0 } : Room).slots) _
  refine Goes.via (S' := s₁.setTop (mkF m 0 #[.val (.ref a1)] [])) (fun tz kz => castTop (ef_5 m a1 ) kz) ?_
  refine Goes.via (S' := s₁.setTop (mkF m 1 #[.val (.ref a1)] [(.ref a1)])) (fun tz kz => ?_) ?_
  · show Steps p.tables e below (s₁.setTop (mkF m 0 #[.val (.ref a1)] [])) _
    refine XS.aloadN X0.here hx rfl (hb hby d5_0) rfl rfl ?_
    exact kz
  obtain ⟨T1, X1, e1, st1⟩ := getF X0 hx hZ hown (host := "") (Or.inl (hw _ (List.mem_of_getElem? (i := 29) rfl))) Via.refl e0 F (g := (mkF m 1 #[.val (.ref a1)] [(.ref a1)])) rfl rfl (hb hby d5_1)
  refine Goes.via (S' := T1.setTop (mkF m 4 #[.val (.ref a1)] [(.int x)])) st1 ?_
  exact Goes.retI X1 hx Bd.notSynchronized Bd.returns (hb hby d5_4) (Nat.le_of_ble_eq_true rfl) (Nat.le_of_ble_eq_true rfl) ⟨rfl, N0, e1⟩
theorem d6_0 : decode prog_56_method_10_code 0 = .ok (.aload_n 0, 1) := by decide +kernel
theorem d6_1 : decode prog_56_method_10_code 1 = .ok (.getfield 21, 3) := by decide +kernel
theorem d6_4 : decode prog_56_method_10_code 4 = .ok (.ireturn, 1) := by decide +kernel
theorem pn_6 : plainName "com/example/loopwright/loopwright/Lexer$Token" = true := by first | (simp [plainName, overriddenIn]; done) | decide +kernel
theorem ef_6 (m : MethodId) (x0 : Addr) : entryFrame m #[(.ref x0)] 1 = mkF m 0 #[.val (.ref x0)] [] := by first | (simp [entryFrame, mkF, argsToLocals, Value.category]; done) | rfl
def Q_rm6 (Z : State) (a1 : Addr) (x : Int32) (h0 : Heap) (n0 : Nat) : Option Value → Heap → List Loc → Prop := fun v h L => v = some (.int x) ∧ Fr n0 L ∧ h = h0
set_option maxRecDepth 65536 in
set_option maxHeartbeats 40000000 in
theorem rm6 (l : Launch) (Z : State) (a0 : Array Value) (hw : ∀ d ∈ tables_1, d.before a0 Z = true) (ws : List Jvm.Cond) (a1 : Addr) (x : Int32) (h0 : Heap) (n0 : Nat) (Z0 : n0 ≤ h0.size) (F : Fld Z h0 a1 "com/example/loopwright/loopwright/Lexer$Token" "column" "I" (.int x)) :
    MetFree l (⟨"com/example/loopwright/loopwright/Lexer$Token", "column", "()I"⟩ : MethodName) (head1 (Jvm.Cond.code (⟨"com/example/loopwright/loopwright/Lexer$Token", "column", "()I"⟩ : MethodName) prog_56_method_10_code 1 (some .int) :: ws) ({ frames := 0, cells := 0, slots := 0, locals := 0 } : Room)) (fun a U => a = #[(.ref a1)] ∧ Z.Warmed39 U.vm ∧ U.heap = h0) (fun _ _ _ _ _ => True) (fun _ U oo U' => ∃ vv LL, oo = .returned vv ∧ (Q_rm6 Z a1 x h0 n0) vv U'.heap LL ∧ FrameEnd U oo U' LL ({ frames := 0, cells := 0, slots := 0, locals := 0 } : Room).cells ({ frames := 0, cells := 0, slots := 0, locals := 0 } : Room).slots) := by
  refine MetFree.of_bodySF (plainFor_of_name pn_6) hisR ?_
  intro p e s m args below meth c s₁ Bd hml0 hP hK
  obtain ⟨rfl, hZ, hh⟩ := hP
  have hx := Bd.exec
  have hby := Bd.bytes
  have hml : c.maxLocals = 1 := hml0
  have hown : s.vm.findClass "com/example/loopwright/loopwright/Lexer$Token" = some m.cls := findClass_of_methodNamed Bd.named
  have hnm := (name_of_methodNamed Bd.named Bd.method).1
  have X0 : Stand p l e ({ frames := 0, cells := 0, slots := 0, locals := 0 } : Room) s m #[(.ref a1)] below meth c s₁ [] 0 0 := Stand.of_body Bd
  have e0 : s₁.heap = h0 := by rw [← hh, Bd.state]; rfl
  have N0 := Fr.nil n0
  show Goes p e below (Fin s (Q_rm6 Z a1 x h0 n0) ({ frames := 0, cells := 0, slots := 0, locals := 0 } : Room).cells ({ frames := 0, cells := 0, slots := 0, locals := 0 } : Room).slots) _
  refine Goes.via (S' := s₁.setTop (mkF m 0 #[.val (.ref a1)] [])) (fun tz kz => castTop (ef_6 m a1 ) kz) ?_
  refine Goes.via (S' := s₁.setTop (mkF m 1 #[.val (.ref a1)] [(.ref a1)])) (fun tz kz => ?_) ?_
  · show Steps p.tables e below (s₁.setTop (mkF m 0 #[.val (.ref a1)] [])) _
    refine XS.aloadN X0.here hx rfl (hb hby d6_0) rfl rfl ?_
    exact kz
  obtain ⟨T1, X1, e1, st1⟩ := getF X0 hx hZ hown (host := "") (Or.inl (hw _ (List.mem_of_getElem? (i := 31) rfl))) Via.refl e0 F (g := (mkF m 1 #[.val (.ref a1)] [(.ref a1)])) rfl rfl (hb hby d6_1)
  refine Goes.via (S' := T1.setTop (mkF m 4 #[.val (.ref a1)] [(.int x)])) st1 ?_
  exact Goes.retI X1 hx Bd.notSynchronized Bd.returns (hb hby d6_4) (Nat.le_of_ble_eq_true rfl) (Nat.le_of_ble_eq_true rfl) ⟨rfl, N0, e1⟩
theorem own_sub1 {x : Int32} {a : Nat} (h : own_I x (a + 1)) (q : a < 2147483640) : own_I (x - (1 : Int32)) a := by
  unfold own_I at *
  have h1 := c_isub x 1
  have h2 := rng32 (x - 1)
  have h3 : (1 : Int32).toInt = 1 := by decide
  omega
theorem d4_0 : decode prog_4_method_5_code 0 = .ok (.iconst 0, 1) := by decide +kernel
theorem d4_1 : decode prog_4_method_5_code 1 = .ok (.istore_n 3, 1) := by decide +kernel
theorem d4_2 : decode prog_4_method_5_code 2 = .ok (.iconst 1, 1) := by decide +kernel
theorem d4_3 : decode prog_4_method_5_code 3 = .ok (.istore 4, 2) := by decide +kernel
theorem d4_5 : decode prog_4_method_5_code 5 = .ok (.iload 4, 2) := by decide +kernel
theorem d4_7 : decode prog_4_method_5_code 7 = .ok (.aload_n 1, 1) := by decide +kernel
theorem d4_8 : decode prog_4_method_5_code 8 = .ok (.invokevirtual 144, 3) := by decide +kernel
theorem d4_11 : decode prog_4_method_5_code 11 = .ok (.if_icmp .ge 26, 3) := by decide +kernel
theorem d4_14 : decode prog_4_method_5_code 14 = .ok (.aload_n 0, 1) := by decide +kernel
theorem d4_15 : decode prog_4_method_5_code 15 = .ok (.iload_n 3, 1) := by decide +kernel
theorem d4_16 : decode prog_4_method_5_code 16 = .ok (.baload, 1) := by decide +kernel
theorem d4_17 : decode prog_4_method_5_code 17 = .ok (.bipush 10, 2) := by decide +kernel
theorem d4_19 : decode prog_4_method_5_code 19 = .ok (.if_icmp .eq 9, 3) := by decide +kernel
theorem d4_22 : decode prog_4_method_5_code 22 = .ok (.iinc 3 1, 3) := by decide +kernel
theorem d4_25 : decode prog_4_method_5_code 25 = .ok (.goto (-11), 3) := by decide +kernel
theorem d4_28 : decode prog_4_method_5_code 28 = .ok (.iinc 3 1, 3) := by decide +kernel
theorem d4_31 : decode prog_4_method_5_code 31 = .ok (.iinc 4 1, 3) := by decide +kernel
theorem d4_34 : decode prog_4_method_5_code 34 = .ok (.goto (-29), 3) := by decide +kernel
theorem d4_37 : decode prog_4_method_5_code 37 = .ok (.iload_n 3, 1) := by decide +kernel
theorem d4_38 : decode prog_4_method_5_code 38 = .ok (.istore 4, 2) := by decide +kernel
theorem d4_40 : decode prog_4_method_5_code 40 = .ok (.iload 4, 2) := by decide +kernel
theorem d4_42 : decode prog_4_method_5_code 42 = .ok (.iload_n 3, 1) := by decide +kernel
theorem d4_43 : decode prog_4_method_5_code 43 = .ok (.aload_n 1, 1) := by decide +kernel
theorem d4_44 : decode prog_4_method_5_code 44 = .ok (.invokevirtual 150, 3) := by decide +kernel
theorem d4_47 : decode prog_4_method_5_code 47 = .ok (.iadd, 1) := by decide +kernel
theorem d4_48 : decode prog_4_method_5_code 48 = .ok (.iconst 1, 1) := by decide +kernel
theorem d4_49 : decode prog_4_method_5_code 49 = .ok (.isub, 1) := by decide +kernel
theorem d4_50 : decode prog_4_method_5_code 50 = .ok (.if_icmp .ge 49, 3) := by decide +kernel
theorem d4_53 : decode prog_4_method_5_code 53 = .ok (.aload_n 0, 1) := by decide +kernel
theorem d4_54 : decode prog_4_method_5_code 54 = .ok (.iload 4, 2) := by decide +kernel
theorem d4_56 : decode prog_4_method_5_code 56 = .ok (.baload, 1) := by decide +kernel
theorem d4_57 : decode prog_4_method_5_code 57 = .ok (.bipush 32, 2) := by decide +kernel
theorem d4_59 : decode prog_4_method_5_code 59 = .ok (.if_icmp .eq 34, 3) := by decide +kernel
theorem d4_62 : decode prog_4_method_5_code 62 = .ok (.aload_n 0, 1) := by decide +kernel
theorem d4_63 : decode prog_4_method_5_code 63 = .ok (.iload 4, 2) := by decide +kernel
theorem d4_65 : decode prog_4_method_5_code 65 = .ok (.baload, 1) := by decide +kernel
theorem d4_66 : decode prog_4_method_5_code 66 = .ok (.bipush 9, 2) := by decide +kernel
theorem d4_68 : decode prog_4_method_5_code 68 = .ok (.if_icmp .eq 25, 3) := by decide +kernel
theorem d4_71 : decode prog_4_method_5_code 71 = .ok (.new 153, 3) := by decide +kernel
theorem d4_74 : decode prog_4_method_5_code 74 = .ok (.dup, 1) := by decide +kernel
theorem d4_75 : decode prog_4_method_5_code 75 = .ok (.aload_n 2, 1) := by decide +kernel
theorem d4_76 : decode prog_4_method_5_code 76 = .ok (.aload_n 1, 1) := by decide +kernel
theorem d4_77 : decode prog_4_method_5_code 77 = .ok (.invokevirtual 144, 3) := by decide +kernel
theorem d4_80 : decode prog_4_method_5_code 80 = .ok (.aload_n 1, 1) := by decide +kernel
theorem d4_81 : decode prog_4_method_5_code 81 = .ok (.invokevirtual 150, 3) := by decide +kernel
theorem d4_84 : decode prog_4_method_5_code 84 = .ok (.invokedynamic 155, 5) := by decide +kernel
theorem d4_89 : decode prog_4_method_5_code 89 = .ok (.invokespecial 159, 3) := by decide +kernel
theorem d4_92 : decode prog_4_method_5_code 92 = .ok (.athrow, 1) := by decide +kernel
theorem d4_93 : decode prog_4_method_5_code 93 = .ok (.iinc 4 1, 3) := by decide +kernel
theorem d4_96 : decode prog_4_method_5_code 96 = .ok (.goto (-56), 3) := by decide +kernel
theorem d4_99 : decode prog_4_method_5_code 99 = .ok (.iload_n 3, 1) := by decide +kernel
theorem d4_100 : decode prog_4_method_5_code 100 = .ok (.ireturn, 1) := by decide +kernel
theorem pn_4 : plainName "com/example/loopwright/loopwright/AnnotateCommand" = true := by first | (simp [plainName, overriddenIn]; done) | decide +kernel
theorem ef_4 (m : MethodId) (x0 : Addr) (x1 : Addr) (x2 : Addr) : entryFrame m #[(.ref x0), (.ref x1), (.ref x2)] 5 = mkF m 0 #[.val (.ref x0), .val (.ref x1), .val (.ref x2), .unset, .unset] [] := by first | (simp [entryFrame, mkF, argsToLocals, Value.category]; done) | rfl
def Q_rm4 (Z : State) (b : Addr) (tk : Addr) (fs : Addr) (f : Nat → Int32) (ds : List Nat) (n1 c1 : Int32) (cN : Nat) (h0 : Heap) (n0 : Nat) : Option Value → Heap → List Loc → Prop := fun v h L => (∃ r : Int32, v = some (.int r) ∧ own_I r (own_T ds)) ∧ Fr n0 L ∧ h = h0
set_option maxRecDepth 65536 in
set_option maxHeartbeats 40000000 in
theorem rm4 (l : Launch) (Z : State) (a0 : Array Value) (hw : ∀ d ∈ tables_1, d.before a0 Z = true) (ws : List Jvm.Cond) (b : Addr) (tk : Addr) (fs : Addr) (f : Nat → Int32) (ds : List Nat) (n1 c1 : Int32) (cN : Nat) (h0 : Heap) (n0 : Nat) (Z0 : n0 ≤ h0.size) (B0 : own_B Z h0 b f) (ET : Exa Z h0 tk "com/example/loopwright/loopwright/Lexer$Token") (FL : Fld Z h0 tk "com/example/loopwright/loopwright/Lexer$Token" "line" "I" (.int n1)) (FC : Fld Z h0 tk "com/example/loopwright/loopwright/Lexer$Token" "column" "I" (.int c1)) (hL : own_L f 0 ds) (hn : own_I n1 (ds.length + 1)) (hc : own_I c1 (cN + 1)) (hbl : ∀ t, t < cN → f (own_T ds + t) = 32 ∨ f (own_T ds + t) = 9) (hb20 : own_T ds + cN < 20) (hl20 : ds.length < 20) :
    MetFree l (⟨"com/example/loopwright/loopwright/AnnotateCommand", "loopLineStart", "([BLcom/example/loopwright/loopwright/Lexer$Token;Ljava/lang/String;)I"⟩ : MethodName) (head1 (Jvm.Cond.code (⟨"com/example/loopwright/loopwright/AnnotateCommand", "loopLineStart", "([BLcom/example/loopwright/loopwright/Lexer$Token;Ljava/lang/String;)I"⟩ : MethodName) prog_4_method_5_code 5 (some .int) :: ws) ({ frames := 1, cells := 0, slots := 0, locals := 16 } : Room)) (fun a U => a = #[(.ref b), (.ref tk), (.ref fs)] ∧ Z.Warmed39 U.vm ∧ U.heap = h0) (fun _ _ _ _ _ => True) (fun _ U oo U' => ∃ vv LL, oo = .returned vv ∧ (Q_rm4 Z b tk fs f ds n1 c1 cN h0 n0) vv U'.heap LL ∧ FrameEnd U oo U' LL ({ frames := 1, cells := 0, slots := 0, locals := 16 } : Room).cells ({ frames := 1, cells := 0, slots := 0, locals := 16 } : Room).slots) := by
  refine MetFree.of_bodySF (plainFor_of_name pn_4) hisR ?_
  intro p e s m args below meth c s₁ Bd hml0 hP hK
  obtain ⟨rfl, hZ, hh⟩ := hP
  have hx := Bd.exec
  have hby := Bd.bytes
  have hml : c.maxLocals = 5 := hml0
  have hown : s.vm.findClass "com/example/loopwright/loopwright/AnnotateCommand" = some m.cls := findClass_of_methodNamed Bd.named
  have hnm := (name_of_methodNamed Bd.named Bd.method).1
  have X0 : Stand p l e ({ frames := 1, cells := 0, slots := 0, locals := 16 } : Room) s m #[(.ref b), (.ref tk), (.ref fs)] below meth c s₁ [] 0 0 := Stand.of_body Bd
  have e0 : s₁.heap = h0 := by rw [← hh, Bd.state]; rfl
  have N0 := Fr.nil n0
  obtain ⟨cl, Ar, Sz, Hs⟩ := B0
  have seg40 : ∀ (r : Nat) (Tq : State) (Lq : List Loc) (x ln : Int32) (i : Nat), (Stand p l e ({ frames := 1, cells := 0, slots := 0, locals := 16 } : Room) s m #[(.ref b), (.ref tk), (.ref fs)] below meth c Tq Lq 0 0) → (Tq.heap = h0) → Fr n0 Lq → own_I x (own_T ds) → own_I ln (own_T ds + i) → i + r = cN → Goes p e below (Fin s (Q_rm4 Z b tk fs f ds n1 c1 cN h0 n0) ({ frames := 1, cells := 0, slots := 0, locals := 16 } : Room).cells ({ frames := 1, cells := 0, slots := 0, locals := 16 } : Room).slots) (Tq.setTop (mkF m 40 #[.val (.ref b), .val (.ref tk), .val (.ref fs), .val (.int x), .val (.int ln)] [])) := by
    intro r
    induction r with
    | zero =>
      intro Tq Lq x ln i XTq eTq Nq hx1 hx2 hr
      have hcol : own_I (x + c1 - (1 : Int32)) (own_T ds + cN) := own_sub1 (hx1.add hc (by omega)) (by omega)
      refine Goes.via (S' := Tq.setTop (mkF m 44 #[.val (.ref b), .val (.ref tk), .val (.ref fs), .val (.int x), .val (.int ln)] [(.ref tk), (.int x), (.int ln)])) (fun tz kz => ?_) ?_
      · show Steps p.tables e below (Tq.setTop (mkF m 40 #[.val (.ref b), .val (.ref tk), .val (.ref fs), .val (.int x), .val (.int ln)] [])) _
        refine XS.iload XTq.here hx rfl (hb hby d4_40) rfl ?_
        show Steps p.tables e below (Tq.setTop (mkF m 42 #[.val (.ref b), .val (.ref tk), .val (.ref fs), .val (.int x), .val (.int ln)] [(.int ln)])) _
        refine XS.iloadN XTq.here hx rfl (hb hby d4_42) rfl ?_
        show Steps p.tables e below (Tq.setTop (mkF m 43 #[.val (.ref b), .val (.ref tk), .val (.ref fs), .val (.int x), .val (.int ln)] [(.int x), (.int ln)])) _
        refine XS.aloadN XTq.here hx rfl (hb hby d4_43) rfl rfl ?_
        exact kz
      obtain ⟨cq1, kq1, q1a, q1b, q1c⟩ := isOf hZ eTq ET
      obtain ⟨_, _, ⟨T1, L1, k1, n1⟩, -, X1, ⟨Lc1, hQ1, l1, y1, z1⟩, st1⟩ := XTq.virtualBack hx (y := (⟨"com/example/loopwright/loopwright/Lexer$Token", "column", "()I"⟩ : MethodName)) (z := (⟨"com/example/loopwright/loopwright/Lexer$Token", "column", "()I"⟩ : MethodName)) hown (mvT hZ (hw _ (List.mem_of_getElem? (i := 43) rfl))) (mvT hZ (hw _ (List.mem_of_getElem? (i := 44) rfl))) (notFace_of_selects (args := #[]) (mvT hZ (hw _ (List.mem_of_getElem? (i := 46) rfl)))) (mvT hZ (hw _ (List.mem_of_getElem? (i := 46) rfl))) (mvT hZ (hw _ (List.mem_of_getElem? (i := 45) rfl))) (by decide) (backOf (W := 2) (rm6 l Z a0 hw [] tk c1 h0 n0 Z0 FC) hZ (hw _ (List.mem_of_getElem? (i := 47) rfl)) (hw _ (List.mem_of_getElem? (i := 3) rfl)) (by decide) (by decide)) q1a q1c (g := (mkF m 44 #[.val (.ref b), .val (.ref tk), .val (.ref fs), .val (.int x), .val (.int ln)] [(.ref tk), (.int x), (.int ln)])) rfl (by rw [hml]; rfl) (Steps.refl _) (argsL := []) (rest := [(.int x), (.int ln)]) (lenOf pd_2 rfl) rfl (by show 2 * 0 + _ ≤ _; exact Nat.le_of_eq rfl) (hb hby d4_44) (fun _ _ => ⟨rfl, eTq, (by decide : 0 + 0 ≤ _), (by decide : 0 + 0 ≤ _)⟩)
      dsimp only [Pt.U, Pt.locs, Pt.cells, Pt.slots] at X1 l1 y1 z1 st1 hQ1
      subst l1 y1 z1
      obtain ⟨rfl, N1, e1⟩ := hQ1
      have Nf1 := Fr.app Nq N1
      refine Goes.via (S' := T1.setTop (mkF m 47 #[.val (.ref b), .val (.ref tk), .val (.ref fs), .val (.int x), .val (.int ln)] [(.int c1), (.int x), (.int ln)])) (fun _ kz => st1.trans kz) ?_
      refine Goes.via (S' := T1.setTop (mkF m 100 #[.val (.ref b), .val (.ref tk), .val (.ref fs), .val (.int x), .val (.int ln)] [(.int x)])) (fun tz kz => ?_) ?_
      · show Steps p.tables e below (T1.setTop (mkF m 47 #[.val (.ref b), .val (.ref tk), .val (.ref fs), .val (.int x), .val (.int ln)] [(.int c1), (.int x), (.int ln)])) _
        refine XS.iadd X1.here hx rfl (hb hby d4_47) rfl ?_
        show Steps p.tables e below (T1.setTop (mkF m 48 #[.val (.ref b), .val (.ref tk), .val (.ref fs), .val (.int x), .val (.int ln)] [(.int (x + c1)), (.int ln)])) _
        refine XS.iconst X1.here hx rfl (hb hby d4_48) ?_
        show Steps p.tables e below (T1.setTop (mkF m 49 #[.val (.ref b), .val (.ref tk), .val (.ref fs), .val (.int x), .val (.int ln)] [(.int (1 : Int32)), (.int (x + c1)), (.int ln)])) _
        refine XS.isub X1.here hx rfl (hb hby d4_49) rfl ?_
        show Steps p.tables e below (T1.setTop (mkF m 50 #[.val (.ref b), .val (.ref tk), .val (.ref fs), .val (.int x), .val (.int ln)] [(.int ((x + c1) - (1 : Int32))), (.int ln)])) _
        refine XS.icmpYes X1.here hx rfl (pc0 := 50) (pc' := 99) rfl (hb hby d4_50) rfl (flt (by rw [hx2.lt hcol]; omega)).2.1 (by decide) (by decide) ?_
        show Steps p.tables e below (T1.setTop (mkF m 99 #[.val (.ref b), .val (.ref tk), .val (.ref fs), .val (.int x), .val (.int ln)] [])) _
        refine XS.iloadN X1.here hx rfl (hb hby d4_99) rfl ?_
        exact kz
      exact Goes.retI X1 hx Bd.notSynchronized Bd.returns (hb hby d4_100) (Nat.le_of_ble_eq_true rfl) (Nat.le_of_ble_eq_true rfl) ⟨⟨_, rfl, hx1⟩, Nf1, e1⟩
    | succ r ih =>
      intro Tq Lq x ln i XTq eTq Nq hx1 hx2 hr
      have hcol : own_I (x + c1 - (1 : Int32)) (own_T ds + cN) := own_sub1 (hx1.add hc (by omega)) (by omega)
      refine Goes.via (S' := Tq.setTop (mkF m 44 #[.val (.ref b), .val (.ref tk), .val (.ref fs), .val (.int x), .val (.int ln)] [(.ref tk), (.int x), (.int ln)])) (fun tz kz => ?_) ?_
      · show Steps p.tables e below (Tq.setTop (mkF m 40 #[.val (.ref b), .val (.ref tk), .val (.ref fs), .val (.int x), .val (.int ln)] [])) _
        refine XS.iload XTq.here hx rfl (hb hby d4_40) rfl ?_
        show Steps p.tables e below (Tq.setTop (mkF m 42 #[.val (.ref b), .val (.ref tk), .val (.ref fs), .val (.int x), .val (.int ln)] [(.int ln)])) _
        refine XS.iloadN XTq.here hx rfl (hb hby d4_42) rfl ?_
        show Steps p.tables e below (Tq.setTop (mkF m 43 #[.val (.ref b), .val (.ref tk), .val (.ref fs), .val (.int x), .val (.int ln)] [(.int x), (.int ln)])) _
        refine XS.aloadN XTq.here hx rfl (hb hby d4_43) rfl rfl ?_
        exact kz
      obtain ⟨cq2, kq2, q2a, q2b, q2c⟩ := isOf hZ eTq ET
      obtain ⟨_, _, ⟨T2, L2, k2, n2⟩, -, X2, ⟨Lc2, hQ2, l2, y2, z2⟩, st2⟩ := XTq.virtualBack hx (y := (⟨"com/example/loopwright/loopwright/Lexer$Token", "column", "()I"⟩ : MethodName)) (z := (⟨"com/example/loopwright/loopwright/Lexer$Token", "column", "()I"⟩ : MethodName)) hown (mvT hZ (hw _ (List.mem_of_getElem? (i := 43) rfl))) (mvT hZ (hw _ (List.mem_of_getElem? (i := 44) rfl))) (notFace_of_selects (args := #[]) (mvT hZ (hw _ (List.mem_of_getElem? (i := 46) rfl)))) (mvT hZ (hw _ (List.mem_of_getElem? (i := 46) rfl))) (mvT hZ (hw _ (List.mem_of_getElem? (i := 45) rfl))) (by decide) (backOf (W := 2) (rm6 l Z a0 hw [] tk c1 h0 n0 Z0 FC) hZ (hw _ (List.mem_of_getElem? (i := 47) rfl)) (hw _ (List.mem_of_getElem? (i := 3) rfl)) (by decide) (by decide)) q2a q2c (g := (mkF m 44 #[.val (.ref b), .val (.ref tk), .val (.ref fs), .val (.int x), .val (.int ln)] [(.ref tk), (.int x), (.int ln)])) rfl (by rw [hml]; rfl) (Steps.refl _) (argsL := []) (rest := [(.int x), (.int ln)]) (lenOf pd_2 rfl) rfl (by show 2 * 0 + _ ≤ _; exact Nat.le_of_eq rfl) (hb hby d4_44) (fun _ _ => ⟨rfl, eTq, (by decide : 0 + 0 ≤ _), (by decide : 0 + 0 ≤ _)⟩)
      dsimp only [Pt.U, Pt.locs, Pt.cells, Pt.slots] at X2 l2 y2 z2 st2 hQ2
      subst l2 y2 z2
      obtain ⟨rfl, N2, e2⟩ := hQ2
      have Nf2 := Fr.app Nq N2
      refine Goes.via (S' := T2.setTop (mkF m 47 #[.val (.ref b), .val (.ref tk), .val (.ref fs), .val (.int x), .val (.int ln)] [(.int c1), (.int x), (.int ln)])) (fun _ kz => st2.trans kz) ?_
      refine Goes.via (S' := T2.setTop (mkF m 59 #[.val (.ref b), .val (.ref tk), .val (.ref fs), .val (.int x), .val (.int ln)] [(.int (32 : Int32)), (.int (f (own_T ds + i)))])) (fun tz kz => ?_) ?_
      · show Steps p.tables e below (T2.setTop (mkF m 47 #[.val (.ref b), .val (.ref tk), .val (.ref fs), .val (.int x), .val (.int ln)] [(.int c1), (.int x), (.int ln)])) _
        refine XS.iadd X2.here hx rfl (hb hby d4_47) rfl ?_
        show Steps p.tables e below (T2.setTop (mkF m 48 #[.val (.ref b), .val (.ref tk), .val (.ref fs), .val (.int x), .val (.int ln)] [(.int (x + c1)), (.int ln)])) _
        refine XS.iconst X2.here hx rfl (hb hby d4_48) ?_
        show Steps p.tables e below (T2.setTop (mkF m 49 #[.val (.ref b), .val (.ref tk), .val (.ref fs), .val (.int x), .val (.int ln)] [(.int (1 : Int32)), (.int (x + c1)), (.int ln)])) _
        refine XS.isub X2.here hx rfl (hb hby d4_49) rfl ?_
        show Steps p.tables e below (T2.setTop (mkF m 50 #[.val (.ref b), .val (.ref tk), .val (.ref fs), .val (.int x), .val (.int ln)] [(.int ((x + c1) - (1 : Int32))), (.int ln)])) _
        refine XS.icmpNo X2.here hx rfl (hb hby d4_50) rfl (tlt (by rw [hx2.lt hcol]; omega)).2.1 ?_
        show Steps p.tables e below (T2.setTop (mkF m 53 #[.val (.ref b), .val (.ref tk), .val (.ref fs), .val (.int x), .val (.int ln)] [])) _
        refine XS.aloadN X2.here hx rfl (hb hby d4_53) rfl rfl ?_
        show Steps p.tables e below (T2.setTop (mkF m 54 #[.val (.ref b), .val (.ref tk), .val (.ref fs), .val (.int x), .val (.int ln)] [(.ref b)])) _
        refine XS.iload X2.here hx rfl (hb hby d4_54) rfl ?_
        show Steps p.tables e below (T2.setTop (mkF m 56 #[.val (.ref b), .val (.ref tk), .val (.ref fs), .val (.int x), .val (.int ln)] [(.int ln), (.ref b)])) _
        refine X2.baloadBytes hx (j := ln) (v := (.int (f (own_T ds + i)))) (by rw [e2]; exact Ar.1) (State.isArrayOf_alike hZ.alike Ar.2.1) Ar.2.2 (own_in Sz hx2 (by omega)) (own_at Hs hx2 (by omega)) (g := (mkF m 56 #[.val (.ref b), .val (.ref tk), .val (.ref fs), .val (.int x), .val (.int ln)] [(.int ln), (.ref b)])) rfl rfl (hb hby d4_56) _ ?_
        show Steps p.tables e below (T2.setTop (mkF m 57 #[.val (.ref b), .val (.ref tk), .val (.ref fs), .val (.int x), .val (.int ln)] [(.int (f (own_T ds + i)))])) _
        refine XS.bipush X2.here hx rfl (hb hby d4_57) ?_
        exact kz
      by_cases hc59_3 : (f (own_T ds + i)) = (32 : Int32)
      · refine Goes.via (S' := T2.setTop (mkF m 40 #[.val (.ref b), .val (.ref tk), .val (.ref fs), .val (.int x), .val (.int (ln + (1 : Int32)))] [])) (fun tz kz => ?_) ?_
        · show Steps p.tables e below (T2.setTop (mkF m 59 #[.val (.ref b), .val (.ref tk), .val (.ref fs), .val (.int x), .val (.int ln)] [(.int (32 : Int32)), (.int (f (own_T ds + i)))])) _
          refine XS.icmpYes X2.here hx rfl (pc0 := 59) (pc' := 93) rfl (hb hby d4_59) rfl (teq hc59_3).1 (by decide) (by decide) ?_
          show Steps p.tables e below (T2.setTop (mkF m 93 #[.val (.ref b), .val (.ref tk), .val (.ref fs), .val (.int x), .val (.int ln)] [])) _
          refine XS.iinc X2.here hx rfl (hb hby d4_93) rfl (l' := #[.val (.ref b), .val (.ref tk), .val (.ref fs), .val (.int x), .val (.int (ln + (1 : Int32)))]) rfl ?_
          show Steps p.tables e below (T2.setTop (mkF m 96 #[.val (.ref b), .val (.ref tk), .val (.ref fs), .val (.int x), .val (.int (ln + (1 : Int32)))] [])) _
          refine XS.goto X2.here hx rfl (pc0 := 96) (pc' := 40) rfl (hb hby d4_96) (by decide) (by decide) ?_
          exact kz
        exact ih _ _ _ _ (i + 1) X2 e2 Nf2 hx1 (hx2.add own_I1 (by omega)) (by omega)
      · refine Goes.via (S' := T2.setTop (mkF m 68 #[.val (.ref b), .val (.ref tk), .val (.ref fs), .val (.int x), .val (.int ln)] [(.int (9 : Int32)), (.int (f (own_T ds + i)))])) (fun tz kz => ?_) ?_
        · show Steps p.tables e below (T2.setTop (mkF m 59 #[.val (.ref b), .val (.ref tk), .val (.ref fs), .val (.int x), .val (.int ln)] [(.int (32 : Int32)), (.int (f (own_T ds + i)))])) _
          refine XS.icmpNo X2.here hx rfl (hb hby d4_59) rfl (feq hc59_3).1 ?_
          show Steps p.tables e below (T2.setTop (mkF m 62 #[.val (.ref b), .val (.ref tk), .val (.ref fs), .val (.int x), .val (.int ln)] [])) _
          refine XS.aloadN X2.here hx rfl (hb hby d4_62) rfl rfl ?_
          show Steps p.tables e below (T2.setTop (mkF m 63 #[.val (.ref b), .val (.ref tk), .val (.ref fs), .val (.int x), .val (.int ln)] [(.ref b)])) _
          refine XS.iload X2.here hx rfl (hb hby d4_63) rfl ?_
          show Steps p.tables e below (T2.setTop (mkF m 65 #[.val (.ref b), .val (.ref tk), .val (.ref fs), .val (.int x), .val (.int ln)] [(.int ln), (.ref b)])) _
          refine X2.baloadBytes hx (j := ln) (v := (.int (f (own_T ds + i)))) (by rw [e2]; exact Ar.1) (State.isArrayOf_alike hZ.alike Ar.2.1) Ar.2.2 (own_in Sz hx2 (by omega)) (own_at Hs hx2 (by omega)) (g := (mkF m 65 #[.val (.ref b), .val (.ref tk), .val (.ref fs), .val (.int x), .val (.int ln)] [(.int ln), (.ref b)])) rfl rfl (hb hby d4_65) _ ?_
          show Steps p.tables e below (T2.setTop (mkF m 66 #[.val (.ref b), .val (.ref tk), .val (.ref fs), .val (.int x), .val (.int ln)] [(.int (f (own_T ds + i)))])) _
          refine XS.bipush X2.here hx rfl (hb hby d4_66) ?_
          exact kz
        by_cases hc68_4 : (f (own_T ds + i)) = (9 : Int32)
        · refine Goes.via (S' := T2.setTop (mkF m 40 #[.val (.ref b), .val (.ref tk), .val (.ref fs), .val (.int x), .val (.int (ln + (1 : Int32)))] [])) (fun tz kz => ?_) ?_
          · show Steps p.tables e below (T2.setTop (mkF m 68 #[.val (.ref b), .val (.ref tk), .val (.ref fs), .val (.int x), .val (.int ln)] [(.int (9 : Int32)), (.int (f (own_T ds + i)))])) _
            refine XS.icmpYes X2.here hx rfl (pc0 := 68) (pc' := 93) rfl (hb hby d4_68) rfl (teq hc68_4).1 (by decide) (by decide) ?_
            show Steps p.tables e below (T2.setTop (mkF m 93 #[.val (.ref b), .val (.ref tk), .val (.ref fs), .val (.int x), .val (.int ln)] [])) _
            refine XS.iinc X2.here hx rfl (hb hby d4_93) rfl (l' := #[.val (.ref b), .val (.ref tk), .val (.ref fs), .val (.int x), .val (.int (ln + (1 : Int32)))]) rfl ?_
            show Steps p.tables e below (T2.setTop (mkF m 96 #[.val (.ref b), .val (.ref tk), .val (.ref fs), .val (.int x), .val (.int (ln + (1 : Int32)))] [])) _
            refine XS.goto X2.here hx rfl (pc0 := 96) (pc' := 40) rfl (hb hby d4_96) (by decide) (by decide) ?_
            exact kz
          exact ih _ _ _ _ (i + 1) X2 e2 Nf2 hx1 (hx2.add own_I1 (by omega)) (by omega)
        · refine Goes.via (S' := T2.setTop (mkF m 71 #[.val (.ref b), .val (.ref tk), .val (.ref fs), .val (.int x), .val (.int ln)] [])) (fun tz kz => ?_) ?_
          · show Steps p.tables e below (T2.setTop (mkF m 68 #[.val (.ref b), .val (.ref tk), .val (.ref fs), .val (.int x), .val (.int ln)] [(.int (9 : Int32)), (.int (f (own_T ds + i)))])) _
            refine XS.icmpNo X2.here hx rfl (hb hby d4_68) rfl (feq hc68_4).1 ?_
            exact kz
          exact absurd (hbl i (by omega)) (fun y => y.elim hc59_3 hc68_4)
  have seg5 : ∀ (es : List Nat) (Tq : State) (Lq : List Loc) (x ln : Int32) (a i : Nat), (Stand p l e ({ frames := 1, cells := 0, slots := 0, locals := 16 } : Room) s m #[(.ref b), (.ref tk), (.ref fs)] below meth c Tq Lq 0 0) → (Tq.heap = h0) → Fr n0 Lq → own_I x a → own_I ln (i + 1) → i + es.length = ds.length → own_L f a es → a + own_T es = own_T ds → Goes p e below (Fin s (Q_rm4 Z b tk fs f ds n1 c1 cN h0 n0) ({ frames := 1, cells := 0, slots := 0, locals := 16 } : Room).cells ({ frames := 1, cells := 0, slots := 0, locals := 16 } : Room).slots) (Tq.setTop (mkF m 5 #[.val (.ref b), .val (.ref tk), .val (.ref fs), .val (.int x), .val (.int ln)] [])) := by
    intro es
    induction es with
    | nil =>
      intro Tq Lq x ln a i XTq eTq Nq hx1 hx2 hi hL hT
      have hi' : i = ds.length := by simpa using hi
      have hT' : a = own_T ds := by simpa [own_T] using hT
      subst hi' hT'
      refine Goes.via (S' := Tq.setTop (mkF m 8 #[.val (.ref b), .val (.ref tk), .val (.ref fs), .val (.int x), .val (.int ln)] [(.ref tk), (.int ln)])) (fun tz kz => ?_) ?_
      · show Steps p.tables e below (Tq.setTop (mkF m 5 #[.val (.ref b), .val (.ref tk), .val (.ref fs), .val (.int x), .val (.int ln)] [])) _
        refine XS.iload XTq.here hx rfl (hb hby d4_5) rfl ?_
        show Steps p.tables e below (Tq.setTop (mkF m 7 #[.val (.ref b), .val (.ref tk), .val (.ref fs), .val (.int x), .val (.int ln)] [(.int ln)])) _
        refine XS.aloadN XTq.here hx rfl (hb hby d4_7) rfl rfl ?_
        exact kz
      obtain ⟨cq5, kq5, q5a, q5b, q5c⟩ := isOf hZ eTq ET
      obtain ⟨_, _, ⟨T5, L5, k5, n5⟩, -, X5, ⟨Lc5, hQ5, l5, y5, z5⟩, st5⟩ := XTq.virtualBack hx (y := (⟨"com/example/loopwright/loopwright/Lexer$Token", "line", "()I"⟩ : MethodName)) (z := (⟨"com/example/loopwright/loopwright/Lexer$Token", "line", "()I"⟩ : MethodName)) hown (mvT hZ (hw _ (List.mem_of_getElem? (i := 38) rfl))) (mvT hZ (hw _ (List.mem_of_getElem? (i := 39) rfl))) (notFace_of_selects (args := #[]) (mvT hZ (hw _ (List.mem_of_getElem? (i := 41) rfl)))) (mvT hZ (hw _ (List.mem_of_getElem? (i := 41) rfl))) (mvT hZ (hw _ (List.mem_of_getElem? (i := 40) rfl))) (by decide) (backOf (W := 1) (rm5 l Z a0 hw [] tk n1 h0 n0 Z0 FL) hZ (hw _ (List.mem_of_getElem? (i := 42) rfl)) (hw _ (List.mem_of_getElem? (i := 3) rfl)) (by decide) (by decide)) q5a q5c (g := (mkF m 8 #[.val (.ref b), .val (.ref tk), .val (.ref fs), .val (.int x), .val (.int ln)] [(.ref tk), (.int ln)])) rfl (by rw [hml]; rfl) (Steps.refl _) (argsL := []) (rest := [(.int ln)]) (lenOf pd_2 rfl) rfl (by show 2 * 0 + _ ≤ _; exact Nat.le_of_eq rfl) (hb hby d4_8) (fun _ _ => ⟨rfl, eTq, (by decide : 0 + 0 ≤ _), (by decide : 0 + 0 ≤ _)⟩)
      dsimp only [Pt.U, Pt.locs, Pt.cells, Pt.slots] at X5 l5 y5 z5 st5 hQ5
      subst l5 y5 z5
      obtain ⟨rfl, N5, e5⟩ := hQ5
      have Nf5 := Fr.app Nq N5
      refine Goes.via (S' := T5.setTop (mkF m 11 #[.val (.ref b), .val (.ref tk), .val (.ref fs), .val (.int x), .val (.int ln)] [(.int n1), (.int ln)])) (fun _ kz => st5.trans kz) ?_
      refine Goes.via (S' := T5.setTop (mkF m 40 #[.val (.ref b), .val (.ref tk), .val (.ref fs), .val (.int x), .val (.int x)] [])) (fun tz kz => ?_) ?_
      · show Steps p.tables e below (T5.setTop (mkF m 11 #[.val (.ref b), .val (.ref tk), .val (.ref fs), .val (.int x), .val (.int ln)] [(.int n1), (.int ln)])) _
        refine XS.icmpYes X5.here hx rfl (pc0 := 11) (pc' := 37) rfl (hb hby d4_11) rfl (flt (by rw [hx2.lt hn]; omega)).2.1 (by decide) (by decide) ?_
        show Steps p.tables e below (T5.setTop (mkF m 37 #[.val (.ref b), .val (.ref tk), .val (.ref fs), .val (.int x), .val (.int ln)] [])) _
        refine XS.iloadN X5.here hx rfl (hb hby d4_37) rfl ?_
        show Steps p.tables e below (T5.setTop (mkF m 38 #[.val (.ref b), .val (.ref tk), .val (.ref fs), .val (.int x), .val (.int ln)] [(.int x)])) _
        refine XS.istore X5.here hx rfl (hb hby d4_38) rfl (l' := #[.val (.ref b), .val (.ref tk), .val (.ref fs), .val (.int x), .val (.int x)]) rfl ?_
        exact kz
      exact seg40 cN _ _ _ _ 0 X5 e5 Nf5 hx1 hx1 (by omega)
    | cons d es ih =>
      intro Tq Lq x ln a i XTq eTq Nq hx1 hx2 hi hL hT
      obtain ⟨hL1, hL2, hL3, hL4⟩ := hL
      have hi' : i + 1 + es.length = ds.length := by simp at hi; omega
      have hT' : a + d + 1 + own_T es = own_T ds := by simp only [own_T] at hT; omega
      have seg14 : ∀ (r : Nat) (Tq : State) (Lq : List Loc) (x : Int32) (j : Nat), (Stand p l e ({ frames := 1, cells := 0, slots := 0, locals := 16 } : Room) s m #[(.ref b), (.ref tk), (.ref fs)] below meth c Tq Lq 0 0) → (Tq.heap = h0) → Fr n0 Lq → own_I x (a + j) → j + r = d → Goes p e below (Fin s (Q_rm4 Z b tk fs f ds n1 c1 cN h0 n0) ({ frames := 1, cells := 0, slots := 0, locals := 16 } : Room).cells ({ frames := 1, cells := 0, slots := 0, locals := 16 } : Room).slots) (Tq.setTop (mkF m 14 #[.val (.ref b), .val (.ref tk), .val (.ref fs), .val (.int x), .val (.int ln)] [])) := by
        intro r
        induction r with
        | zero =>
          intro Tq Lq x j XTq eTq Nq hx1 hj
          have hj' : j = d := by omega
          subst hj'
          refine Goes.via (S' := Tq.setTop (mkF m 5 #[.val (.ref b), .val (.ref tk), .val (.ref fs), .val (.int (x + (1 : Int32))), .val (.int (ln + (1 : Int32)))] [])) (fun tz kz => ?_) ?_
          · show Steps p.tables e below (Tq.setTop (mkF m 14 #[.val (.ref b), .val (.ref tk), .val (.ref fs), .val (.int x), .val (.int ln)] [])) _
            refine XS.aloadN XTq.here hx rfl (hb hby d4_14) rfl rfl ?_
            show Steps p.tables e below (Tq.setTop (mkF m 15 #[.val (.ref b), .val (.ref tk), .val (.ref fs), .val (.int x), .val (.int ln)] [(.ref b)])) _
            refine XS.iloadN XTq.here hx rfl (hb hby d4_15) rfl ?_
            show Steps p.tables e below (Tq.setTop (mkF m 16 #[.val (.ref b), .val (.ref tk), .val (.ref fs), .val (.int x), .val (.int ln)] [(.int x), (.ref b)])) _
            refine XTq.baloadBytes hx (j := x) (v := (.int (f (a + j)))) (by rw [eTq]; exact Ar.1) (State.isArrayOf_alike hZ.alike Ar.2.1) Ar.2.2 (own_in Sz hx1 (by omega)) (own_at Hs hx1 (by omega)) (g := (mkF m 16 #[.val (.ref b), .val (.ref tk), .val (.ref fs), .val (.int x), .val (.int ln)] [(.int x), (.ref b)])) rfl rfl (hb hby d4_16) _ ?_
            show Steps p.tables e below (Tq.setTop (mkF m 17 #[.val (.ref b), .val (.ref tk), .val (.ref fs), .val (.int x), .val (.int ln)] [(.int (f (a + j)))])) _
            refine XS.bipush XTq.here hx rfl (hb hby d4_17) ?_
            show Steps p.tables e below (Tq.setTop (mkF m 19 #[.val (.ref b), .val (.ref tk), .val (.ref fs), .val (.int x), .val (.int ln)] [(.int (10 : Int32)), (.int (f (a + j)))])) _
            refine XS.icmpYes XTq.here hx rfl (pc0 := 19) (pc' := 28) rfl (hb hby d4_19) rfl (teq hL2).1 (by decide) (by decide) ?_
            show Steps p.tables e below (Tq.setTop (mkF m 28 #[.val (.ref b), .val (.ref tk), .val (.ref fs), .val (.int x), .val (.int ln)] [])) _
            refine XS.iinc XTq.here hx rfl (hb hby d4_28) rfl (l' := #[.val (.ref b), .val (.ref tk), .val (.ref fs), .val (.int (x + (1 : Int32))), .val (.int ln)]) rfl ?_
            show Steps p.tables e below (Tq.setTop (mkF m 31 #[.val (.ref b), .val (.ref tk), .val (.ref fs), .val (.int (x + (1 : Int32))), .val (.int ln)] [])) _
            refine XS.iinc XTq.here hx rfl (hb hby d4_31) rfl (l' := #[.val (.ref b), .val (.ref tk), .val (.ref fs), .val (.int (x + (1 : Int32))), .val (.int (ln + (1 : Int32)))]) rfl ?_
            show Steps p.tables e below (Tq.setTop (mkF m 34 #[.val (.ref b), .val (.ref tk), .val (.ref fs), .val (.int (x + (1 : Int32))), .val (.int (ln + (1 : Int32)))] [])) _
            refine XS.goto XTq.here hx rfl (pc0 := 34) (pc' := 5) rfl (hb hby d4_34) (by decide) (by decide) ?_
            exact kz
          exact ih _ _ _ _ (a + j + 1) (i + 1) XTq eTq Nq (hx1.add own_I1 (by omega)) (hx2.add own_I1 (by omega)) hi' hL4 hT'
        | succ r ih2 =>
          intro Tq Lq x j XTq eTq Nq hx1 hj
          refine Goes.via (S' := Tq.setTop (mkF m 14 #[.val (.ref b), .val (.ref tk), .val (.ref fs), .val (.int (x + (1 : Int32))), .val (.int ln)] [])) (fun tz kz => ?_) ?_
          · show Steps p.tables e below (Tq.setTop (mkF m 14 #[.val (.ref b), .val (.ref tk), .val (.ref fs), .val (.int x), .val (.int ln)] [])) _
            refine XS.aloadN XTq.here hx rfl (hb hby d4_14) rfl rfl ?_
            show Steps p.tables e below (Tq.setTop (mkF m 15 #[.val (.ref b), .val (.ref tk), .val (.ref fs), .val (.int x), .val (.int ln)] [(.ref b)])) _
            refine XS.iloadN XTq.here hx rfl (hb hby d4_15) rfl ?_
            show Steps p.tables e below (Tq.setTop (mkF m 16 #[.val (.ref b), .val (.ref tk), .val (.ref fs), .val (.int x), .val (.int ln)] [(.int x), (.ref b)])) _
            refine XTq.baloadBytes hx (j := x) (v := (.int (f (a + j)))) (by rw [eTq]; exact Ar.1) (State.isArrayOf_alike hZ.alike Ar.2.1) Ar.2.2 (own_in Sz hx1 (by omega)) (own_at Hs hx1 (by omega)) (g := (mkF m 16 #[.val (.ref b), .val (.ref tk), .val (.ref fs), .val (.int x), .val (.int ln)] [(.int x), (.ref b)])) rfl rfl (hb hby d4_16) _ ?_
            show Steps p.tables e below (Tq.setTop (mkF m 17 #[.val (.ref b), .val (.ref tk), .val (.ref fs), .val (.int x), .val (.int ln)] [(.int (f (a + j)))])) _
            refine XS.bipush XTq.here hx rfl (hb hby d4_17) ?_
            show Steps p.tables e below (Tq.setTop (mkF m 19 #[.val (.ref b), .val (.ref tk), .val (.ref fs), .val (.int x), .val (.int ln)] [(.int (10 : Int32)), (.int (f (a + j)))])) _
            refine XS.icmpNo XTq.here hx rfl (hb hby d4_19) rfl (feq (hL1 j (by omega))).1 ?_
            show Steps p.tables e below (Tq.setTop (mkF m 22 #[.val (.ref b), .val (.ref tk), .val (.ref fs), .val (.int x), .val (.int ln)] [])) _
            refine XS.iinc XTq.here hx rfl (hb hby d4_22) rfl (l' := #[.val (.ref b), .val (.ref tk), .val (.ref fs), .val (.int (x + (1 : Int32))), .val (.int ln)]) rfl ?_
            show Steps p.tables e below (Tq.setTop (mkF m 25 #[.val (.ref b), .val (.ref tk), .val (.ref fs), .val (.int (x + (1 : Int32))), .val (.int ln)] [])) _
            refine XS.goto XTq.here hx rfl (pc0 := 25) (pc' := 14) rfl (hb hby d4_25) (by decide) (by decide) ?_
            exact kz
          exact ih2 _ _ _ (j + 1) XTq eTq Nq (hx1.add own_I1 (by omega)) (by omega)
      refine Goes.via (S' := Tq.setTop (mkF m 8 #[.val (.ref b), .val (.ref tk), .val (.ref fs), .val (.int x), .val (.int ln)] [(.ref tk), (.int ln)])) (fun tz kz => ?_) ?_
      · show Steps p.tables e below (Tq.setTop (mkF m 5 #[.val (.ref b), .val (.ref tk), .val (.ref fs), .val (.int x), .val (.int ln)] [])) _
        refine XS.iload XTq.here hx rfl (hb hby d4_5) rfl ?_
        show Steps p.tables e below (Tq.setTop (mkF m 7 #[.val (.ref b), .val (.ref tk), .val (.ref fs), .val (.int x), .val (.int ln)] [(.int ln)])) _
        refine XS.aloadN XTq.here hx rfl (hb hby d4_7) rfl rfl ?_
        exact kz
      obtain ⟨cq6, kq6, q6a, q6b, q6c⟩ := isOf hZ eTq ET
      obtain ⟨_, _, ⟨T6, L6, k6, n6⟩, -, X6, ⟨Lc6, hQ6, l6, y6, z6⟩, st6⟩ := XTq.virtualBack hx (y := (⟨"com/example/loopwright/loopwright/Lexer$Token", "line", "()I"⟩ : MethodName)) (z := (⟨"com/example/loopwright/loopwright/Lexer$Token", "line", "()I"⟩ : MethodName)) hown (mvT hZ (hw _ (List.mem_of_getElem? (i := 38) rfl))) (mvT hZ (hw _ (List.mem_of_getElem? (i := 39) rfl))) (notFace_of_selects (args := #[]) (mvT hZ (hw _ (List.mem_of_getElem? (i := 41) rfl)))) (mvT hZ (hw _ (List.mem_of_getElem? (i := 41) rfl))) (mvT hZ (hw _ (List.mem_of_getElem? (i := 40) rfl))) (by decide) (backOf (W := 1) (rm5 l Z a0 hw [] tk n1 h0 n0 Z0 FL) hZ (hw _ (List.mem_of_getElem? (i := 42) rfl)) (hw _ (List.mem_of_getElem? (i := 3) rfl)) (by decide) (by decide)) q6a q6c (g := (mkF m 8 #[.val (.ref b), .val (.ref tk), .val (.ref fs), .val (.int x), .val (.int ln)] [(.ref tk), (.int ln)])) rfl (by rw [hml]; rfl) (Steps.refl _) (argsL := []) (rest := [(.int ln)]) (lenOf pd_2 rfl) rfl (by show 2 * 0 + _ ≤ _; exact Nat.le_of_eq rfl) (hb hby d4_8) (fun _ _ => ⟨rfl, eTq, (by decide : 0 + 0 ≤ _), (by decide : 0 + 0 ≤ _)⟩)
      dsimp only [Pt.U, Pt.locs, Pt.cells, Pt.slots] at X6 l6 y6 z6 st6 hQ6
      subst l6 y6 z6
      obtain ⟨rfl, N6, e6⟩ := hQ6
      have Nf6 := Fr.app Nq N6
      refine Goes.via (S' := T6.setTop (mkF m 11 #[.val (.ref b), .val (.ref tk), .val (.ref fs), .val (.int x), .val (.int ln)] [(.int n1), (.int ln)])) (fun _ kz => st6.trans kz) ?_
      refine Goes.via (S' := T6.setTop (mkF m 14 #[.val (.ref b), .val (.ref tk), .val (.ref fs), .val (.int x), .val (.int ln)] [])) (fun tz kz => ?_) ?_
      · show Steps p.tables e below (T6.setTop (mkF m 11 #[.val (.ref b), .val (.ref tk), .val (.ref fs), .val (.int x), .val (.int ln)] [(.int n1), (.int ln)])) _
        refine XS.icmpNo X6.here hx rfl (hb hby d4_11) rfl (tlt (by rw [hx2.lt hn]; omega)).2.1 ?_
        exact kz
      exact seg14 d _ _ _ 0 X6 e6 Nf6 hx1 (by omega)
  show Goes p e below (Fin s (Q_rm4 Z b tk fs f ds n1 c1 cN h0 n0) ({ frames := 1, cells := 0, slots := 0, locals := 16 } : Room).cells ({ frames := 1, cells := 0, slots := 0, locals := 16 } : Room).slots) _
  refine Goes.via (S' := s₁.setTop (mkF m 0 #[.val (.ref b), .val (.ref tk), .val (.ref fs), .unset, .unset] [])) (fun tz kz => castTop (ef_4 m b tk fs ) kz) ?_
  refine Goes.via (S' := s₁.setTop (mkF m 5 #[.val (.ref b), .val (.ref tk), .val (.ref fs), .val (.int (0 : Int32)), .val (.int (1 : Int32))] [])) (fun tz kz => ?_) ?_
  · show Steps p.tables e below (s₁.setTop (mkF m 0 #[.val (.ref b), .val (.ref tk), .val (.ref fs), .unset, .unset] [])) _
    refine XS.iconst X0.here hx rfl (hb hby d4_0) ?_
    show Steps p.tables e below (s₁.setTop (mkF m 1 #[.val (.ref b), .val (.ref tk), .val (.ref fs), .unset, .unset] [(.int (0 : Int32))])) _
    refine XS.istoreN X0.here hx rfl (hb hby d4_1) rfl (l' := #[.val (.ref b), .val (.ref tk), .val (.ref fs), .val (.int (0 : Int32)), .unset]) rfl ?_
    show Steps p.tables e below (s₁.setTop (mkF m 2 #[.val (.ref b), .val (.ref tk), .val (.ref fs), .val (.int (0 : Int32)), .unset] [])) _
    refine XS.iconst X0.here hx rfl (hb hby d4_2) ?_
    show Steps p.tables e below (s₁.setTop (mkF m 3 #[.val (.ref b), .val (.ref tk), .val (.ref fs), .val (.int (0 : Int32)), .unset] [(.int (1 : Int32))])) _
    refine XS.istore X0.here hx rfl (hb hby d4_3) rfl (l' := #[.val (.ref b), .val (.ref tk), .val (.ref fs), .val (.int (0 : Int32)), .val (.int (1 : Int32))]) rfl ?_
    exact kz
  exact seg5 ds _ _ _ _ 0 0 X0 e0 N0 own_I0 own_I1 (by omega) hL (by omega)
theorem own_exp {n l1 l2 l3 r1 r2 r3 : Int32} {nN a1 a2 a3 : Nat} (hn : own_I n nN) (h1 : own_I l1 a1) (h2 : own_I l2 a2) (h3 : own_I l3 a3) (m1 : a1 ≤ 3) (m2 : a2 ≤ 3) (m3 : a3 ≤ 3) (e1 : r1 = (if (0 : Int32) < n then (l1 + (1 : Int32)) else (0 : Int32))) (e2 : r2 = (if (1 : Int32) < n then (l2 + (1 : Int32)) else (0 : Int32))) (e3 : r3 = (if (2 : Int32) < n then (l3 + (1 : Int32)) else (0 : Int32))) :
    own_I (r1 + r2 + r3) ((if 0 < nN then a1 + 1 else 0) + (if 1 < nN then a2 + 1 else 0) + (if 2 < nN then a3 + 1 else 0)) := by
  have f : ∀ {k : Int32} {kN : Nat} {x r : Int32} {a : Nat}, own_I k kN → own_I x a → a ≤ 3 → r = (if k < n then (x + (1 : Int32)) else (0 : Int32)) → own_I r (if kN < nN then a + 1 else 0) := by
    intro k kN x r a hk hx ha e
    by_cases q : k < n
    · rw [if_pos q] at e; rw [if_pos ((hk.lt hn).mp q), e]; exact hx.add own_I1 (by omega)
    · rw [if_neg q] at e; rw [if_neg (fun y => q ((hk.lt hn).mpr y)), e]; exact own_I0
  have g1 := f own_I0 h1 m1 e1
  have g2 := f own_I1 h2 m2 e2
  have g3 := f own_I2 h3 m3 e3
  refine (g1.add g2 ?_).add g3 ?_ <;> (split <;> (try split) <;> (try split) <;> omega)
theorem own_B.new {Z : State} {h : Heap} {b : Addr} {k : ClassId} (A : Arr Z h b (newA k .byte (20 : Int32)) .byte) : own_B Z h b (fun _ => 0) := by
  obtain ⟨c, A', -, S, -, H, -⟩ := Arv.new A (by decide)
  refine ⟨c, A', by rw [S]; decide, fun i hi => ?_⟩
  rw [H i (by rw [S]; exact Nat.lt_of_lt_of_eq hi (by decide))]
  simp [defaultValue]
theorem own_w {P : Prop} [Decidable P] {a : Nat} (h : a ≤ 3) : (if P then a + 1 else 0) ≤ 4 := by split <;> omega
theorem own_rem {x y : Int32} {a b : Nat} (h : own_I x a) (h3 : a ≤ 3) (k : own_I y (b + 1)) : ∃ c, c ≤ b ∧ own_I (x % y + (1 : Int32)) (c + 1) ∧ y ≠ 0 := by
  have h' := h; have k' := k
  unfold own_I at h' k'
  have r := (c_iremV x y).1 (by omega) (by omega)
  refine ⟨(x % y).toInt.toNat, by omega, own_I.add (by unfold own_I; omega) own_I1 (by omega), fun q => ?_⟩
  rw [q] at k'
  have : (0 : Int32).toInt = 0 := by decide
  omega
theorem pn_0 : plainName "com/example/loopwright/loopwright/AnnotateCommandLoopLineStartPinLaw" = true := by first | (simp [plainName, overriddenIn]; done) | decide +kernel
theorem ef_0 (m : MethodId) (x0 : Int32) (x1 : Int32) (x2 : Int32) (x3 : Int32) (x4 : Int32) : entryFrame m #[(.int x0), (.int x1), (.int x2), (.int x3), (.int x4)] maxLocals = mkF m 0 #[.val (.int x0), .val (.int x1), .val (.int x2), .val (.int x3), .val (.int x4), .unset, .unset, .unset, .unset, .unset, .unset, .unset, .unset, .unset, .unset] [] := by first | (simp [entryFrame, mkF, argsToLocals, Value.category, maxLocals]; done) | rfl
def Q_rm0 (Z : State) (p1 : Int32) (p2 : Int32) (p3 : Int32) (p4 : Int32) (p5 : Int32) (bK : Addr) (h0 : Heap) (n0 : Nat) : Option Value → Heap → List Loc → Prop := fun v h L => v = some (.int 1) ∧ Fr n0 L
set_option maxRecDepth 65536 in
set_option maxHeartbeats 40000000 in
theorem rm0 (l : Launch) (Z : State) (a0 : Array Value) (hw : ∀ d ∈ tables_1, d.before a0 Z = true) (ws : List Jvm.Cond) (p1 : Int32) (p2 : Int32) (p3 : Int32) (p4 : Int32) (p5 : Int32) (bK : Addr) (h0 : Heap) (n0 : Nat) (Z0 : n0 ≤ h0.size) (SK : Sta Z Z.heap "com/example/loopwright/loopwright/Lexer$Kind" "IDENTIFIER" "Lcom/example/loopwright/loopwright/Lexer$Kind;" (.ref bK)) (O0 : Old Z n0 h0) :
    MetFree l x (head1 (Jvm.Cond.code x code maxLocals ret :: ws) room_1) (fun a U => a = #[(.int p1), (.int p2), (.int p3), (.int p4), (.int p5)] ∧ Z.Warmed39 U.vm ∧ U.heap = h0) (fun _ _ _ _ _ => True) (fun _ U oo U' => ∃ vv LL, oo = .returned vv ∧ (Q_rm0 Z p1 p2 p3 p4 p5 bK h0 n0) vv U'.heap LL ∧ ReturnedEndW U oo U' LL room_1.cells room_1.slots) := by
  refine MetFree.of_bodySF (plainFor_of_name pn_0) hisR ?_
  intro p e s m args below meth c s₁ Bd hml0 hP hK
  obtain ⟨rfl, hZ, hh⟩ := hP
  have hx := Bd.exec
  have hby := Bd.bytes
  have hml : c.maxLocals = 15 := hml0
  have hown : s.vm.findClass "com/example/loopwright/loopwright/AnnotateCommandLoopLineStartPinLaw" = some m.cls := findClass_of_methodNamed Bd.named
  have hnm := (name_of_methodNamed Bd.named Bd.method).1
  have X0 : Stand p l e room_1 s m #[(.int p1), (.int p2), (.int p3), (.int p4), (.int p5)] below meth c s₁ [] 0 0 := Stand.of_body Bd
  have e0 : s₁.heap = h0 := by rw [← hh, Bd.state]; rfl
  have N0 := Fr.nil n0
  have wS : ∀ d ∈ Bundle.stringAtoms, d.before a0 Z = true := by
    intro d hd
    simp only [Bundle.stringAtoms, List.mem_cons, List.not_mem_nil, or_false] at hd
    rcases hd with rfl | rfl | rfl | rfl | rfl | rfl | rfl
    · exact (hw _ (List.mem_of_getElem? (i := 8) rfl))
    · exact (hw _ (List.mem_of_getElem? (i := 9) rfl))
    · exact (hw _ (List.mem_of_getElem? (i := 0) rfl))
    · exact (hw _ (List.mem_of_getElem? (i := 10) rfl))
    · exact (hw _ (List.mem_of_getElem? (i := 11) rfl))
    · exact (hw _ (List.mem_of_getElem? (i := 12) rfl))
    · exact (hw _ (List.mem_of_getElem? (i := 13) rfl))
  have seg167 : ∀ (Tq : State) (hq : Heap) (Lq : List Loc) (n l1 l2 l3 k col : Int32) (nN a1 a2 a3 kN cN : Nat) (b : Addr) (pos : Int32) (f : Nat → Int32) (ds : List Nat), (Stand p l e room_1 s m #[(.int p1), (.int p2), (.int p3), (.int p4), (.int p5)] below meth c Tq Lq 1 20) → (Tq.heap = hq) → (Fr n0 Lq) → (Old Z n0 hq) → (own_I n nN) → (own_I l1 a1) → (own_I l2 a2) → (own_I l3 a3) → (own_I k kN) → (own_I col (cN + 1)) → (nN ≤ 3) → (a1 ≤ 3) → (a2 ≤ 3) → (a3 ≤ 3) → (kN ≤ 3) → (cN ≤ kN) → (n0 ≤ b) → (own_I pos (own_T ds)) → (own_B Z hq b f) → (own_L f 0 ds) → (own_T ds = (if 0 < nN then a1 + 1 else 0) + (if 1 < nN then a2 + 1 else 0) + (if 2 < nN then a3 + 1 else 0)) → (ds.length = min nN 3) → (∀ t, t < min kN 3 → f (own_T ds + t) = 32 ∨ f (own_T ds + t) = 9) → Goes p e below (FinW s (Q_rm0 Z p1 p2 p3 p4 p5 bK h0 n0) room_1.cells room_1.slots) (Tq.setTop (mkF m 167 #[.val (.int p1), .val (.int p2), .val (.int p3), .val (.int p4), .val (.int p5), .val (.int n), .val (.int l1), .val (.int l2), .val (.int l3), .val (.int k), .val (.int col), .val (.ref b), .val (.int pos), .unset, .unset] [])) := by
    intro Tq hq Lq n l1 l2 l3 k col nN a1 a2 a3 kN cN b pos f ds XTq eTq Nq Oq hn hl1 hl2 hl3 hk hcol m0 m1 m2 m3 mk mc gb hpos Bq hL hT hlen hbk
    have hn1 : own_I (n + (1 : Int32)) (min nN 3 + 1) := by rw [show min nN 3 = nN by omega]; exact hn.add own_I1 (by omega)
    have hT12 : own_T ds ≤ 12 := by rw [hT]; have w1 := own_w (P := 0 < nN) m1; have w2 := own_w (P := 1 < nN) m2; have w3 := own_w (P := 2 < nN) m3; omega
    have hds : ds.length ≤ 3 := by rw [hlen]; omega
    refine Goes.via (S' := Tq.setTop (mkF m 176 #[.val (.int p1), .val (.int p2), .val (.int p3), .val (.int p4), .val (.int p5), .val (.int n), .val (.int l1), .val (.int l2), .val (.int l3), .val (.int k), .val (.int col), .val (.ref b), .val (.int pos), .unset, .unset] [(.int (119 : Int32)), (.int (pos + k)), (.ref b)])) (fun tz kz => ?_) ?_
    · show Steps p.tables e below (Tq.setTop (mkF m 167 #[.val (.int p1), .val (.int p2), .val (.int p3), .val (.int p4), .val (.int p5), .val (.int n), .val (.int l1), .val (.int l2), .val (.int l3), .val (.int k), .val (.int col), .val (.ref b), .val (.int pos), .unset, .unset] [])) _
      refine XS.aload XTq.here hx rfl (hb hby at_167) rfl rfl ?_
      show Steps p.tables e below (Tq.setTop (mkF m 169 #[.val (.int p1), .val (.int p2), .val (.int p3), .val (.int p4), .val (.int p5), .val (.int n), .val (.int l1), .val (.int l2), .val (.int l3), .val (.int k), .val (.int col), .val (.ref b), .val (.int pos), .unset, .unset] [(.ref b)])) _
      refine XS.iload XTq.here hx rfl (hb hby at_169) rfl ?_
      show Steps p.tables e below (Tq.setTop (mkF m 171 #[.val (.int p1), .val (.int p2), .val (.int p3), .val (.int p4), .val (.int p5), .val (.int n), .val (.int l1), .val (.int l2), .val (.int l3), .val (.int k), .val (.int col), .val (.ref b), .val (.int pos), .unset, .unset] [(.int pos), (.ref b)])) _
      refine XS.iload XTq.here hx rfl (hb hby at_171) rfl ?_
      show Steps p.tables e below (Tq.setTop (mkF m 173 #[.val (.int p1), .val (.int p2), .val (.int p3), .val (.int p4), .val (.int p5), .val (.int n), .val (.int l1), .val (.int l2), .val (.int l3), .val (.int k), .val (.int col), .val (.ref b), .val (.int pos), .unset, .unset] [(.int k), (.int pos), (.ref b)])) _
      refine XS.iadd XTq.here hx rfl (hb hby at_173) rfl ?_
      show Steps p.tables e below (Tq.setTop (mkF m 174 #[.val (.int p1), .val (.int p2), .val (.int p3), .val (.int p4), .val (.int p5), .val (.int n), .val (.int l1), .val (.int l2), .val (.int l3), .val (.int k), .val (.int col), .val (.ref b), .val (.int pos), .unset, .unset] [(.int (pos + k)), (.ref b)])) _
      refine XS.bipush XTq.here hx rfl (hb hby at_174) ?_
      exact kz
    obtain ⟨cl1, Ar1, Sz1, Hs1⟩ := Bq
    obtain ⟨T2, h2, X2, e2, W2, st2⟩ := stB XTq hx hZ eTq Ar1 (j := (pos + k)) (own_in Sz1 (hpos.add hk (by omega)) (by omega)) (g := (mkF m 176 #[.val (.int p1), .val (.int p2), .val (.int p3), .val (.int p4), .val (.int p5), .val (.int n), .val (.int l1), .val (.int l2), .val (.int l3), .val (.int k), .val (.int col), .val (.ref b), .val (.int pos), .unset, .unset] [(.int (119 : Int32)), (.int (pos + k)), (.ref b)])) rfl rfl (hb hby at_176)
    refine Goes.via (S' := T2.setTop (mkF m 177 #[.val (.int p1), .val (.int p2), .val (.int p3), .val (.int p4), .val (.int p5), .val (.int n), .val (.int l1), .val (.int l2), .val (.int l3), .val (.int k), .val (.int col), .val (.ref b), .val (.int pos), .unset, .unset] [])) st2 ?_
    have N2 := Fr.snoc X2 Nq gb
    rw [show ((pos + k)).toNatClampNeg = (own_T ds + kN) from ((hpos.add hk (by omega))).nat] at W2
    have B2 := own_B.set Ar1 Sz1 Hs1 W2
    have O2 := Oq.wr W2 gb
    refine Goes.via (S' := T2.setTop (mkF m 192 #[.val (.int p1), .val (.int p2), .val (.int p3), .val (.int p4), .val (.int p5), .val (.int n), .val (.int l1), .val (.int l2), .val (.int l3), .val (.int k), .val (.int col), .val (.ref b), .val (.int pos), .unset, .unset] [(.int (((p5.toUInt32 >>> ((8 : Int32) &&& 31).toUInt32).toInt32).toInt8.toInt32)), (.int ((pos + k) + (1 : Int32))), (.ref b)])) (fun tz kz => ?_) ?_
    · show Steps p.tables e below (T2.setTop (mkF m 177 #[.val (.int p1), .val (.int p2), .val (.int p3), .val (.int p4), .val (.int p5), .val (.int n), .val (.int l1), .val (.int l2), .val (.int l3), .val (.int k), .val (.int col), .val (.ref b), .val (.int pos), .unset, .unset] [])) _
      refine XS.aload X2.here hx rfl (hb hby at_177) rfl rfl ?_
      show Steps p.tables e below (T2.setTop (mkF m 179 #[.val (.int p1), .val (.int p2), .val (.int p3), .val (.int p4), .val (.int p5), .val (.int n), .val (.int l1), .val (.int l2), .val (.int l3), .val (.int k), .val (.int col), .val (.ref b), .val (.int pos), .unset, .unset] [(.ref b)])) _
      refine XS.iload X2.here hx rfl (hb hby at_179) rfl ?_
      show Steps p.tables e below (T2.setTop (mkF m 181 #[.val (.int p1), .val (.int p2), .val (.int p3), .val (.int p4), .val (.int p5), .val (.int n), .val (.int l1), .val (.int l2), .val (.int l3), .val (.int k), .val (.int col), .val (.ref b), .val (.int pos), .unset, .unset] [(.int pos), (.ref b)])) _
      refine XS.iload X2.here hx rfl (hb hby at_181) rfl ?_
      show Steps p.tables e below (T2.setTop (mkF m 183 #[.val (.int p1), .val (.int p2), .val (.int p3), .val (.int p4), .val (.int p5), .val (.int n), .val (.int l1), .val (.int l2), .val (.int l3), .val (.int k), .val (.int col), .val (.ref b), .val (.int pos), .unset, .unset] [(.int k), (.int pos), (.ref b)])) _
      refine XS.iadd X2.here hx rfl (hb hby at_183) rfl ?_
      show Steps p.tables e below (T2.setTop (mkF m 184 #[.val (.int p1), .val (.int p2), .val (.int p3), .val (.int p4), .val (.int p5), .val (.int n), .val (.int l1), .val (.int l2), .val (.int l3), .val (.int k), .val (.int col), .val (.ref b), .val (.int pos), .unset, .unset] [(.int (pos + k)), (.ref b)])) _
      refine XS.iconst X2.here hx rfl (hb hby at_184) ?_
      show Steps p.tables e below (T2.setTop (mkF m 185 #[.val (.int p1), .val (.int p2), .val (.int p3), .val (.int p4), .val (.int p5), .val (.int n), .val (.int l1), .val (.int l2), .val (.int l3), .val (.int k), .val (.int col), .val (.ref b), .val (.int pos), .unset, .unset] [(.int (1 : Int32)), (.int (pos + k)), (.ref b)])) _
      refine XS.iadd X2.here hx rfl (hb hby at_185) rfl ?_
      show Steps p.tables e below (T2.setTop (mkF m 186 #[.val (.int p1), .val (.int p2), .val (.int p3), .val (.int p4), .val (.int p5), .val (.int n), .val (.int l1), .val (.int l2), .val (.int l3), .val (.int k), .val (.int col), .val (.ref b), .val (.int pos), .unset, .unset] [(.int ((pos + k) + (1 : Int32))), (.ref b)])) _
      refine XS.iload X2.here hx rfl (hb hby at_186) rfl ?_
      show Steps p.tables e below (T2.setTop (mkF m 188 #[.val (.int p1), .val (.int p2), .val (.int p3), .val (.int p4), .val (.int p5), .val (.int n), .val (.int l1), .val (.int l2), .val (.int l3), .val (.int k), .val (.int col), .val (.ref b), .val (.int pos), .unset, .unset] [(.int p5), (.int ((pos + k) + (1 : Int32))), (.ref b)])) _
      refine XS.bipush X2.here hx rfl (hb hby at_188) ?_
      show Steps p.tables e below (T2.setTop (mkF m 190 #[.val (.int p1), .val (.int p2), .val (.int p3), .val (.int p4), .val (.int p5), .val (.int n), .val (.int l1), .val (.int l2), .val (.int l3), .val (.int k), .val (.int col), .val (.ref b), .val (.int pos), .unset, .unset] [(.int (8 : Int32)), (.int p5), (.int ((pos + k) + (1 : Int32))), (.ref b)])) _
      refine XS.iushr X2.here hx rfl (hb hby at_190) rfl ?_
      show Steps p.tables e below (T2.setTop (mkF m 191 #[.val (.int p1), .val (.int p2), .val (.int p3), .val (.int p4), .val (.int p5), .val (.int n), .val (.int l1), .val (.int l2), .val (.int l3), .val (.int k), .val (.int col), .val (.ref b), .val (.int pos), .unset, .unset] [(.int ((p5.toUInt32 >>> ((8 : Int32) &&& 31).toUInt32).toInt32)), (.int ((pos + k) + (1 : Int32))), (.ref b)])) _
      refine XS.i2b X2.here hx rfl (hb hby at_191) rfl ?_
      exact kz
    obtain ⟨cl3, Ar3, Sz3, Hs3⟩ := B2
    obtain ⟨T4, h4, X4, e4, W4, st4⟩ := stB X2 hx hZ e2 Ar3 (j := ((pos + k) + (1 : Int32))) (own_in Sz3 ((hpos.add hk (by omega)).add own_I1 (by omega)) (by omega)) (g := (mkF m 192 #[.val (.int p1), .val (.int p2), .val (.int p3), .val (.int p4), .val (.int p5), .val (.int n), .val (.int l1), .val (.int l2), .val (.int l3), .val (.int k), .val (.int col), .val (.ref b), .val (.int pos), .unset, .unset] [(.int (((p5.toUInt32 >>> ((8 : Int32) &&& 31).toUInt32).toInt32).toInt8.toInt32)), (.int ((pos + k) + (1 : Int32))), (.ref b)])) rfl rfl (hb hby at_192)
    refine Goes.via (S' := T4.setTop (mkF m 193 #[.val (.int p1), .val (.int p2), .val (.int p3), .val (.int p4), .val (.int p5), .val (.int n), .val (.int l1), .val (.int l2), .val (.int l3), .val (.int k), .val (.int col), .val (.ref b), .val (.int pos), .unset, .unset] [])) st4 ?_
    have N4 := Fr.snoc X4 N2 gb
    rw [show (((pos + k) + (1 : Int32))).toNatClampNeg = (own_T ds + kN + 1) from (((hpos.add hk (by omega)).add own_I1 (by omega))).nat] at W4
    have B4 := own_B.set Ar3 Sz3 Hs3 W4
    have O4 := O2.wr W4 gb
    refine Goes.via (S' := T4.setTop (mkF m 195 #[.val (.int p1), .val (.int p2), .val (.int p3), .val (.int p4), .val (.int p5), .val (.int n), .val (.int l1), .val (.int l2), .val (.int l3), .val (.int k), .val (.int col), .val (.ref b), .val (.int pos), .unset, .unset] [(.int n)])) (fun tz kz => ?_) ?_
    · show Steps p.tables e below (T4.setTop (mkF m 193 #[.val (.int p1), .val (.int p2), .val (.int p3), .val (.int p4), .val (.int p5), .val (.int n), .val (.int l1), .val (.int l2), .val (.int l3), .val (.int k), .val (.int col), .val (.ref b), .val (.int pos), .unset, .unset] [])) _
      refine XS.iload X4.here hx rfl (hb hby at_193) rfl ?_
      exact kz
    obtain ⟨r6, hr6⟩ : ∃ zz_ : Int32, zz_ = (if (0 : Int32) < n then (l1 + (1 : Int32)) else (0 : Int32)) := ⟨_, rfl⟩
    have j195_7 : ∀ t, Steps p.tables e below (T4.setTop (mkF m 206 #[.val (.int p1), .val (.int p2), .val (.int p3), .val (.int p4), .val (.int p5), .val (.int n), .val (.int l1), .val (.int l2), .val (.int l3), .val (.int k), .val (.int col), .val (.ref b), .val (.int pos), .unset, .unset] [(.int r6)])) t → Steps p.tables e below (T4.setTop (mkF m 195 #[.val (.int p1), .val (.int p2), .val (.int p3), .val (.int p4), .val (.int p5), .val (.int n), .val (.int l1), .val (.int l2), .val (.int l3), .val (.int k), .val (.int col), .val (.ref b), .val (.int pos), .unset, .unset] [(.int n)])) t := by
      intro tz kz
      by_cases hc195_5 : (0 : Int32) < n
      · rw [if_pos hc195_5] at hr6
        show Steps p.tables e below (T4.setTop (mkF m 195 #[.val (.int p1), .val (.int p2), .val (.int p3), .val (.int p4), .val (.int p5), .val (.int n), .val (.int l1), .val (.int l2), .val (.int l3), .val (.int k), .val (.int col), .val (.ref b), .val (.int pos), .unset, .unset] [(.int n)])) _
        refine XS.ifNo X4.here hx rfl (hb hby at_195) rfl ((if0 _ _).trans (tlt hc195_5).2.2.2) ?_
        show Steps p.tables e below (T4.setTop (mkF m 198 #[.val (.int p1), .val (.int p2), .val (.int p3), .val (.int p4), .val (.int p5), .val (.int n), .val (.int l1), .val (.int l2), .val (.int l3), .val (.int k), .val (.int col), .val (.ref b), .val (.int pos), .unset, .unset] [])) _
        refine XS.iload X4.here hx rfl (hb hby at_198) rfl ?_
        show Steps p.tables e below (T4.setTop (mkF m 200 #[.val (.int p1), .val (.int p2), .val (.int p3), .val (.int p4), .val (.int p5), .val (.int n), .val (.int l1), .val (.int l2), .val (.int l3), .val (.int k), .val (.int col), .val (.ref b), .val (.int pos), .unset, .unset] [(.int l1)])) _
        refine XS.iconst X4.here hx rfl (hb hby at_200) ?_
        show Steps p.tables e below (T4.setTop (mkF m 201 #[.val (.int p1), .val (.int p2), .val (.int p3), .val (.int p4), .val (.int p5), .val (.int n), .val (.int l1), .val (.int l2), .val (.int l3), .val (.int k), .val (.int col), .val (.ref b), .val (.int pos), .unset, .unset] [(.int (1 : Int32)), (.int l1)])) _
        refine XS.iadd X4.here hx rfl (hb hby at_201) rfl ?_
        show Steps p.tables e below (T4.setTop (mkF m 202 #[.val (.int p1), .val (.int p2), .val (.int p3), .val (.int p4), .val (.int p5), .val (.int n), .val (.int l1), .val (.int l2), .val (.int l3), .val (.int k), .val (.int col), .val (.ref b), .val (.int pos), .unset, .unset] [(.int (l1 + (1 : Int32)))])) _
        refine XS.goto X4.here hx rfl (pc0 := 202) (pc' := 206) rfl (hb hby at_202) (by decide) (by decide) ?_
        subst hr6
        exact kz
      · rw [if_neg hc195_5] at hr6
        show Steps p.tables e below (T4.setTop (mkF m 195 #[.val (.int p1), .val (.int p2), .val (.int p3), .val (.int p4), .val (.int p5), .val (.int n), .val (.int l1), .val (.int l2), .val (.int l3), .val (.int k), .val (.int col), .val (.ref b), .val (.int pos), .unset, .unset] [(.int n)])) _
        refine XS.ifYes X4.here hx rfl (pc0 := 195) (pc' := 205) rfl (hb hby at_195) rfl ((if0 _ _).trans (flt hc195_5).2.2.2) (by decide) (by decide) ?_
        show Steps p.tables e below (T4.setTop (mkF m 205 #[.val (.int p1), .val (.int p2), .val (.int p3), .val (.int p4), .val (.int p5), .val (.int n), .val (.int l1), .val (.int l2), .val (.int l3), .val (.int k), .val (.int col), .val (.ref b), .val (.int pos), .unset, .unset] [])) _
        refine XS.iconst X4.here hx rfl (hb hby at_205) ?_
        subst hr6
        exact kz
    refine Goes.via j195_7 ?_
    refine Goes.via (S' := T4.setTop (mkF m 209 #[.val (.int p1), .val (.int p2), .val (.int p3), .val (.int p4), .val (.int p5), .val (.int n), .val (.int l1), .val (.int l2), .val (.int l3), .val (.int k), .val (.int col), .val (.ref b), .val (.int pos), .unset, .unset] [(.int (1 : Int32)), (.int n), (.int r6)])) (fun tz kz => ?_) ?_
    · show Steps p.tables e below (T4.setTop (mkF m 206 #[.val (.int p1), .val (.int p2), .val (.int p3), .val (.int p4), .val (.int p5), .val (.int n), .val (.int l1), .val (.int l2), .val (.int l3), .val (.int k), .val (.int col), .val (.ref b), .val (.int pos), .unset, .unset] [(.int r6)])) _
      refine XS.iload X4.here hx rfl (hb hby at_206) rfl ?_
      show Steps p.tables e below (T4.setTop (mkF m 208 #[.val (.int p1), .val (.int p2), .val (.int p3), .val (.int p4), .val (.int p5), .val (.int n), .val (.int l1), .val (.int l2), .val (.int l3), .val (.int k), .val (.int col), .val (.ref b), .val (.int pos), .unset, .unset] [(.int n), (.int r6)])) _
      refine XS.iconst X4.here hx rfl (hb hby at_208) ?_
      exact kz
    obtain ⟨r9, hr9⟩ : ∃ zz_ : Int32, zz_ = (if (1 : Int32) < n then (l2 + (1 : Int32)) else (0 : Int32)) := ⟨_, rfl⟩
    have j209_10 : ∀ t, Steps p.tables e below (T4.setTop (mkF m 220 #[.val (.int p1), .val (.int p2), .val (.int p3), .val (.int p4), .val (.int p5), .val (.int n), .val (.int l1), .val (.int l2), .val (.int l3), .val (.int k), .val (.int col), .val (.ref b), .val (.int pos), .unset, .unset] [(.int r9), (.int r6)])) t → Steps p.tables e below (T4.setTop (mkF m 209 #[.val (.int p1), .val (.int p2), .val (.int p3), .val (.int p4), .val (.int p5), .val (.int n), .val (.int l1), .val (.int l2), .val (.int l3), .val (.int k), .val (.int col), .val (.ref b), .val (.int pos), .unset, .unset] [(.int (1 : Int32)), (.int n), (.int r6)])) t := by
      intro tz kz
      by_cases hc209_8 : (1 : Int32) < n
      · rw [if_pos hc209_8] at hr9
        show Steps p.tables e below (T4.setTop (mkF m 209 #[.val (.int p1), .val (.int p2), .val (.int p3), .val (.int p4), .val (.int p5), .val (.int n), .val (.int l1), .val (.int l2), .val (.int l3), .val (.int k), .val (.int col), .val (.ref b), .val (.int pos), .unset, .unset] [(.int (1 : Int32)), (.int n), (.int r6)])) _
        refine XS.icmpNo X4.here hx rfl (hb hby at_209) rfl (tlt hc209_8).2.2.2 ?_
        show Steps p.tables e below (T4.setTop (mkF m 212 #[.val (.int p1), .val (.int p2), .val (.int p3), .val (.int p4), .val (.int p5), .val (.int n), .val (.int l1), .val (.int l2), .val (.int l3), .val (.int k), .val (.int col), .val (.ref b), .val (.int pos), .unset, .unset] [(.int r6)])) _
        refine XS.iload X4.here hx rfl (hb hby at_212) rfl ?_
        show Steps p.tables e below (T4.setTop (mkF m 214 #[.val (.int p1), .val (.int p2), .val (.int p3), .val (.int p4), .val (.int p5), .val (.int n), .val (.int l1), .val (.int l2), .val (.int l3), .val (.int k), .val (.int col), .val (.ref b), .val (.int pos), .unset, .unset] [(.int l2), (.int r6)])) _
        refine XS.iconst X4.here hx rfl (hb hby at_214) ?_
        show Steps p.tables e below (T4.setTop (mkF m 215 #[.val (.int p1), .val (.int p2), .val (.int p3), .val (.int p4), .val (.int p5), .val (.int n), .val (.int l1), .val (.int l2), .val (.int l3), .val (.int k), .val (.int col), .val (.ref b), .val (.int pos), .unset, .unset] [(.int (1 : Int32)), (.int l2), (.int r6)])) _
        refine XS.iadd X4.here hx rfl (hb hby at_215) rfl ?_
        show Steps p.tables e below (T4.setTop (mkF m 216 #[.val (.int p1), .val (.int p2), .val (.int p3), .val (.int p4), .val (.int p5), .val (.int n), .val (.int l1), .val (.int l2), .val (.int l3), .val (.int k), .val (.int col), .val (.ref b), .val (.int pos), .unset, .unset] [(.int (l2 + (1 : Int32))), (.int r6)])) _
        refine XS.goto X4.here hx rfl (pc0 := 216) (pc' := 220) rfl (hb hby at_216) (by decide) (by decide) ?_
        subst hr9
        exact kz
      · rw [if_neg hc209_8] at hr9
        show Steps p.tables e below (T4.setTop (mkF m 209 #[.val (.int p1), .val (.int p2), .val (.int p3), .val (.int p4), .val (.int p5), .val (.int n), .val (.int l1), .val (.int l2), .val (.int l3), .val (.int k), .val (.int col), .val (.ref b), .val (.int pos), .unset, .unset] [(.int (1 : Int32)), (.int n), (.int r6)])) _
        refine XS.icmpYes X4.here hx rfl (pc0 := 209) (pc' := 219) rfl (hb hby at_209) rfl (flt hc209_8).2.2.2 (by decide) (by decide) ?_
        show Steps p.tables e below (T4.setTop (mkF m 219 #[.val (.int p1), .val (.int p2), .val (.int p3), .val (.int p4), .val (.int p5), .val (.int n), .val (.int l1), .val (.int l2), .val (.int l3), .val (.int k), .val (.int col), .val (.ref b), .val (.int pos), .unset, .unset] [(.int r6)])) _
        refine XS.iconst X4.here hx rfl (hb hby at_219) ?_
        subst hr9
        exact kz
    refine Goes.via j209_10 ?_
    refine Goes.via (S' := T4.setTop (mkF m 224 #[.val (.int p1), .val (.int p2), .val (.int p3), .val (.int p4), .val (.int p5), .val (.int n), .val (.int l1), .val (.int l2), .val (.int l3), .val (.int k), .val (.int col), .val (.ref b), .val (.int pos), .unset, .unset] [(.int (2 : Int32)), (.int n), (.int (r6 + r9))])) (fun tz kz => ?_) ?_
    · show Steps p.tables e below (T4.setTop (mkF m 220 #[.val (.int p1), .val (.int p2), .val (.int p3), .val (.int p4), .val (.int p5), .val (.int n), .val (.int l1), .val (.int l2), .val (.int l3), .val (.int k), .val (.int col), .val (.ref b), .val (.int pos), .unset, .unset] [(.int r9), (.int r6)])) _
      refine XS.iadd X4.here hx rfl (hb hby at_220) rfl ?_
      show Steps p.tables e below (T4.setTop (mkF m 221 #[.val (.int p1), .val (.int p2), .val (.int p3), .val (.int p4), .val (.int p5), .val (.int n), .val (.int l1), .val (.int l2), .val (.int l3), .val (.int k), .val (.int col), .val (.ref b), .val (.int pos), .unset, .unset] [(.int (r6 + r9))])) _
      refine XS.iload X4.here hx rfl (hb hby at_221) rfl ?_
      show Steps p.tables e below (T4.setTop (mkF m 223 #[.val (.int p1), .val (.int p2), .val (.int p3), .val (.int p4), .val (.int p5), .val (.int n), .val (.int l1), .val (.int l2), .val (.int l3), .val (.int k), .val (.int col), .val (.ref b), .val (.int pos), .unset, .unset] [(.int n), (.int (r6 + r9))])) _
      refine XS.iconst X4.here hx rfl (hb hby at_223) ?_
      exact kz
    obtain ⟨r12, hr12⟩ : ∃ zz_ : Int32, zz_ = (if (2 : Int32) < n then (l3 + (1 : Int32)) else (0 : Int32)) := ⟨_, rfl⟩
    have j224_13 : ∀ t, Steps p.tables e below (T4.setTop (mkF m 235 #[.val (.int p1), .val (.int p2), .val (.int p3), .val (.int p4), .val (.int p5), .val (.int n), .val (.int l1), .val (.int l2), .val (.int l3), .val (.int k), .val (.int col), .val (.ref b), .val (.int pos), .unset, .unset] [(.int r12), (.int (r6 + r9))])) t → Steps p.tables e below (T4.setTop (mkF m 224 #[.val (.int p1), .val (.int p2), .val (.int p3), .val (.int p4), .val (.int p5), .val (.int n), .val (.int l1), .val (.int l2), .val (.int l3), .val (.int k), .val (.int col), .val (.ref b), .val (.int pos), .unset, .unset] [(.int (2 : Int32)), (.int n), (.int (r6 + r9))])) t := by
      intro tz kz
      by_cases hc224_11 : (2 : Int32) < n
      · rw [if_pos hc224_11] at hr12
        show Steps p.tables e below (T4.setTop (mkF m 224 #[.val (.int p1), .val (.int p2), .val (.int p3), .val (.int p4), .val (.int p5), .val (.int n), .val (.int l1), .val (.int l2), .val (.int l3), .val (.int k), .val (.int col), .val (.ref b), .val (.int pos), .unset, .unset] [(.int (2 : Int32)), (.int n), (.int (r6 + r9))])) _
        refine XS.icmpNo X4.here hx rfl (hb hby at_224) rfl (tlt hc224_11).2.2.2 ?_
        show Steps p.tables e below (T4.setTop (mkF m 227 #[.val (.int p1), .val (.int p2), .val (.int p3), .val (.int p4), .val (.int p5), .val (.int n), .val (.int l1), .val (.int l2), .val (.int l3), .val (.int k), .val (.int col), .val (.ref b), .val (.int pos), .unset, .unset] [(.int (r6 + r9))])) _
        refine XS.iload X4.here hx rfl (hb hby at_227) rfl ?_
        show Steps p.tables e below (T4.setTop (mkF m 229 #[.val (.int p1), .val (.int p2), .val (.int p3), .val (.int p4), .val (.int p5), .val (.int n), .val (.int l1), .val (.int l2), .val (.int l3), .val (.int k), .val (.int col), .val (.ref b), .val (.int pos), .unset, .unset] [(.int l3), (.int (r6 + r9))])) _
        refine XS.iconst X4.here hx rfl (hb hby at_229) ?_
        show Steps p.tables e below (T4.setTop (mkF m 230 #[.val (.int p1), .val (.int p2), .val (.int p3), .val (.int p4), .val (.int p5), .val (.int n), .val (.int l1), .val (.int l2), .val (.int l3), .val (.int k), .val (.int col), .val (.ref b), .val (.int pos), .unset, .unset] [(.int (1 : Int32)), (.int l3), (.int (r6 + r9))])) _
        refine XS.iadd X4.here hx rfl (hb hby at_230) rfl ?_
        show Steps p.tables e below (T4.setTop (mkF m 231 #[.val (.int p1), .val (.int p2), .val (.int p3), .val (.int p4), .val (.int p5), .val (.int n), .val (.int l1), .val (.int l2), .val (.int l3), .val (.int k), .val (.int col), .val (.ref b), .val (.int pos), .unset, .unset] [(.int (l3 + (1 : Int32))), (.int (r6 + r9))])) _
        refine XS.goto X4.here hx rfl (pc0 := 231) (pc' := 235) rfl (hb hby at_231) (by decide) (by decide) ?_
        subst hr12
        exact kz
      · rw [if_neg hc224_11] at hr12
        show Steps p.tables e below (T4.setTop (mkF m 224 #[.val (.int p1), .val (.int p2), .val (.int p3), .val (.int p4), .val (.int p5), .val (.int n), .val (.int l1), .val (.int l2), .val (.int l3), .val (.int k), .val (.int col), .val (.ref b), .val (.int pos), .unset, .unset] [(.int (2 : Int32)), (.int n), (.int (r6 + r9))])) _
        refine XS.icmpYes X4.here hx rfl (pc0 := 224) (pc' := 234) rfl (hb hby at_224) rfl (flt hc224_11).2.2.2 (by decide) (by decide) ?_
        show Steps p.tables e below (T4.setTop (mkF m 234 #[.val (.int p1), .val (.int p2), .val (.int p3), .val (.int p4), .val (.int p5), .val (.int n), .val (.int l1), .val (.int l2), .val (.int l3), .val (.int k), .val (.int col), .val (.ref b), .val (.int pos), .unset, .unset] [(.int (r6 + r9))])) _
        refine XS.iconst X4.here hx rfl (hb hby at_234) ?_
        subst hr12
        exact kz
    refine Goes.via j224_13 ?_
    refine Goes.via (S' := T4.setTop (mkF m 238 #[.val (.int p1), .val (.int p2), .val (.int p3), .val (.int p4), .val (.int p5), .val (.int n), .val (.int l1), .val (.int l2), .val (.int l3), .val (.int k), .val (.int col), .val (.ref b), .val (.int pos), .val (.int ((r6 + r9) + r12)), .unset] [])) (fun tz kz => ?_) ?_
    · show Steps p.tables e below (T4.setTop (mkF m 235 #[.val (.int p1), .val (.int p2), .val (.int p3), .val (.int p4), .val (.int p5), .val (.int n), .val (.int l1), .val (.int l2), .val (.int l3), .val (.int k), .val (.int col), .val (.ref b), .val (.int pos), .unset, .unset] [(.int r12), (.int (r6 + r9))])) _
      refine XS.iadd X4.here hx rfl (hb hby at_235) rfl ?_
      show Steps p.tables e below (T4.setTop (mkF m 236 #[.val (.int p1), .val (.int p2), .val (.int p3), .val (.int p4), .val (.int p5), .val (.int n), .val (.int l1), .val (.int l2), .val (.int l3), .val (.int k), .val (.int col), .val (.ref b), .val (.int pos), .unset, .unset] [(.int ((r6 + r9) + r12))])) _
      refine XS.istore X4.here hx rfl (hb hby at_236) rfl (l' := #[.val (.int p1), .val (.int p2), .val (.int p3), .val (.int p4), .val (.int p5), .val (.int n), .val (.int l1), .val (.int l2), .val (.int l3), .val (.int k), .val (.int col), .val (.ref b), .val (.int pos), .val (.int ((r6 + r9) + r12)), .unset]) rfl ?_
      exact kz
    obtain ⟨T14, h14, X14, e14, E14, A14, D14, -, st14⟩ := newO X4 hx hZ hown (hw _ (List.mem_of_getElem? (i := 1) rfl)) (hw _ (List.mem_of_getElem? (i := 2) rfl)) (hw _ (List.mem_of_getElem? (i := 3) rfl)) e4 (g := (mkF m 238 #[.val (.int p1), .val (.int p2), .val (.int p3), .val (.int p4), .val (.int p5), .val (.int n), .val (.int l1), .val (.int l2), .val (.int l3), .val (.int k), .val (.int col), .val (.ref b), .val (.int pos), .val (.int ((r6 + r9) + r12)), .unset] [])) rfl (hb hby at_238) (by decide) (by decide)
    obtain ⟨b14, g14⟩ : ∃ z, z = h4.size := ⟨_, rfl⟩
    rw [← g14] at A14 D14 st14
    refine Goes.via (S' := T14.setTop (mkF m 241 #[.val (.int p1), .val (.int p2), .val (.int p3), .val (.int p4), .val (.int p5), .val (.int n), .val (.int l1), .val (.int l2), .val (.int l3), .val (.int k), .val (.int col), .val (.ref b), .val (.int pos), .val (.int ((r6 + r9) + r12)), .unset] [(.ref b14)])) st14 ?_
    have gt : n0 ≤ b14 := Nat.le_trans (O4.1 ▸ O4.2.1) (Nat.le_of_eq g14.symm)
    have O14 := O4.ext E14
    have Bt := B4.ext E14
    have nbt : b ≠ b14 := adr_ne (B4).lt g14 (Nat.le_refl _)
    have F0 : Fld Z h14 b14 "com/example/loopwright/loopwright/Lexer$Token" "kind" "Lcom/example/loopwright/loopwright/Lexer$Kind;" .null := D14 (Or.inr (hw _ (List.mem_of_getElem? (i := 26) rfl))) (ty := (.object "com/example/loopwright/loopwright/Lexer$Kind")) (by decide)
    have F1 : Fld Z h14 b14 "com/example/loopwright/loopwright/Lexer$Token" "text" "Ljava/lang/String;" .null := D14 (Or.inr (hw _ (List.mem_of_getElem? (i := 28) rfl))) (ty := (.object "java/lang/String")) (by decide)
    have F2 : Fld Z h14 b14 "com/example/loopwright/loopwright/Lexer$Token" "line" "I" (.int (0 : Int32)) := D14 (Or.inr (hw _ (List.mem_of_getElem? (i := 30) rfl))) (ty := .int) (by decide)
    have F3 : Fld Z h14 b14 "com/example/loopwright/loopwright/Lexer$Token" "column" "I" (.int (0 : Int32)) := D14 (Or.inr (hw _ (List.mem_of_getElem? (i := 32) rfl))) (ty := .int) (by decide)
    refine Goes.via (S' := T14.setTop (mkF m 242 #[.val (.int p1), .val (.int p2), .val (.int p3), .val (.int p4), .val (.int p5), .val (.int n), .val (.int l1), .val (.int l2), .val (.int l3), .val (.int k), .val (.int col), .val (.ref b), .val (.int pos), .val (.int ((r6 + r9) + r12)), .unset] [(.ref b14), (.ref b14)])) (fun tz kz => ?_) ?_
    · show Steps p.tables e below (T14.setTop (mkF m 241 #[.val (.int p1), .val (.int p2), .val (.int p3), .val (.int p4), .val (.int p5), .val (.int n), .val (.int l1), .val (.int l2), .val (.int l3), .val (.int k), .val (.int col), .val (.ref b), .val (.int pos), .val (.int ((r6 + r9) + r12)), .unset] [(.ref b14)])) _
      refine XS.dup X14.here hx rfl (hb hby at_241) rfl rfl ?_
      exact kz
    obtain ⟨T15, X15, e15, st15⟩ := getS2 X14 hx hZ hown (host := "") (Or.inl (hw _ (List.mem_of_getElem? (i := 4) rfl))) Via.refl e14 (SK.ext O14.2) (g := (mkF m 242 #[.val (.int p1), .val (.int p2), .val (.int p3), .val (.int p4), .val (.int p5), .val (.int n), .val (.int l1), .val (.int l2), .val (.int l3), .val (.int k), .val (.int col), .val (.ref b), .val (.int pos), .val (.int ((r6 + r9) + r12)), .unset] [(.ref b14), (.ref b14)])) rfl (hb hby at_242)
    refine Goes.via (S' := T15.setTop (mkF m 245 #[.val (.int p1), .val (.int p2), .val (.int p3), .val (.int p4), .val (.int p5), .val (.int n), .val (.int l1), .val (.int l2), .val (.int l3), .val (.int k), .val (.int col), .val (.ref b), .val (.int pos), .val (.int ((r6 + r9) + r12)), .unset] [(.ref bK), (.ref b14), (.ref b14)])) st15 ?_
    obtain ⟨a16, T16, h16, k16, X16, e16, E16, hS16, hk16, hZ, hown, st16⟩ := ldcS (vm0 := s.vm) X15 hx hZ hown (hw _ (List.mem_of_getElem? (i := 7) rfl)) wS e15 ((State.WarmedH.refl s).since 0) (Nat.zero_le _) (g := (mkF m 245 #[.val (.int p1), .val (.int p2), .val (.int p3), .val (.int p4), .val (.int p5), .val (.int n), .val (.int l1), .val (.int l2), .val (.int l3), .val (.int k), .val (.int col), .val (.ref b), .val (.int pos), .val (.int ((r6 + r9) + r12)), .unset] [(.ref bK), (.ref b14), (.ref b14)])) rfl (hb hby at_245) (n := 20) (by decide) (by decide) (by decide) (by decide)
    refine Goes.via (S' := T16.setTop (mkF m 247 #[.val (.int p1), .val (.int p2), .val (.int p3), .val (.int p4), .val (.int p5), .val (.int n), .val (.int l1), .val (.int l2), .val (.int l3), .val (.int k), .val (.int col), .val (.ref b), .val (.int pos), .val (.int ((r6 + r9) + r12)), .unset] [(.ref a16), (.ref bK), (.ref b14), (.ref b14)])) st16 ?_
    have O16 := O14.ext E16
    have B_16 := Bt.ext E16
    have Et := A14.ext E16
    have G0 := F0.ext E16
    have G1 := F1.ext E16
    have G2 := F2.ext E16
    have G3 := F3.ext E16
    refine Goes.via (S' := T16.setTop (mkF m 253 #[.val (.int p1), .val (.int p2), .val (.int p3), .val (.int p4), .val (.int p5), .val (.int n), .val (.int l1), .val (.int l2), .val (.int l3), .val (.int k), .val (.int col), .val (.ref b), .val (.int pos), .val (.int ((r6 + r9) + r12)), .unset] [(.int col), (.int (n + (1 : Int32))), (.ref a16), (.ref bK), (.ref b14), (.ref b14)])) (fun tz kz => ?_) ?_
    · show Steps p.tables e below (T16.setTop (mkF m 247 #[.val (.int p1), .val (.int p2), .val (.int p3), .val (.int p4), .val (.int p5), .val (.int n), .val (.int l1), .val (.int l2), .val (.int l3), .val (.int k), .val (.int col), .val (.ref b), .val (.int pos), .val (.int ((r6 + r9) + r12)), .unset] [(.ref a16), (.ref bK), (.ref b14), (.ref b14)])) _
      refine XS.iload X16.here hx rfl (hb hby at_247) rfl ?_
      show Steps p.tables e below (T16.setTop (mkF m 249 #[.val (.int p1), .val (.int p2), .val (.int p3), .val (.int p4), .val (.int p5), .val (.int n), .val (.int l1), .val (.int l2), .val (.int l3), .val (.int k), .val (.int col), .val (.ref b), .val (.int pos), .val (.int ((r6 + r9) + r12)), .unset] [(.int n), (.ref a16), (.ref bK), (.ref b14), (.ref b14)])) _
      refine XS.iconst X16.here hx rfl (hb hby at_249) ?_
      show Steps p.tables e below (T16.setTop (mkF m 250 #[.val (.int p1), .val (.int p2), .val (.int p3), .val (.int p4), .val (.int p5), .val (.int n), .val (.int l1), .val (.int l2), .val (.int l3), .val (.int k), .val (.int col), .val (.ref b), .val (.int pos), .val (.int ((r6 + r9) + r12)), .unset] [(.int (1 : Int32)), (.int n), (.ref a16), (.ref bK), (.ref b14), (.ref b14)])) _
      refine XS.iadd X16.here hx rfl (hb hby at_250) rfl ?_
      show Steps p.tables e below (T16.setTop (mkF m 251 #[.val (.int p1), .val (.int p2), .val (.int p3), .val (.int p4), .val (.int p5), .val (.int n), .val (.int l1), .val (.int l2), .val (.int l3), .val (.int k), .val (.int col), .val (.ref b), .val (.int pos), .val (.int ((r6 + r9) + r12)), .unset] [(.int (n + (1 : Int32))), (.ref a16), (.ref bK), (.ref b14), (.ref b14)])) _
      refine XS.iload X16.here hx rfl (hb hby at_251) rfl ?_
      exact kz
    obtain ⟨_, _, ⟨T17, L17, k17, n17⟩, -, X17, ⟨Lc17, hQ17, l17, y17, z17⟩, st17⟩ := X16.specialBack hx (y := (⟨"com/example/loopwright/loopwright/Lexer$Token", "<init>", "(Lcom/example/loopwright/loopwright/Lexer$Kind;Ljava/lang/String;II)V"⟩ : MethodName)) rfl hown (mvT hZ (hw _ (List.mem_of_getElem? (i := 14) rfl))) (mvT hZ (hw _ (List.mem_of_getElem? (i := 15) rfl))) (mvT hZ (hw _ (List.mem_of_getElem? (i := 16) rfl))) (by decide) (backOf (W := 1) (rm1 l Z a0 hw [] b14 bK a16 (n + (1 : Int32)) col h16 n0 (O16.1 ▸ O16.2.1) G0 G1 G2 G3 Et gt) hZ (hw _ (List.mem_of_getElem? (i := 16) rfl)) (hw _ (List.mem_of_getElem? (i := 3) rfl)) (by decide) (by decide)) (g := (mkF m 253 #[.val (.int p1), .val (.int p2), .val (.int p3), .val (.int p4), .val (.int p5), .val (.int n), .val (.int l1), .val (.int l2), .val (.int l3), .val (.int k), .val (.int col), .val (.ref b), .val (.int pos), .val (.int ((r6 + r9) + r12)), .unset] [(.int col), (.int (n + (1 : Int32))), (.ref a16), (.ref bK), (.ref b14), (.ref b14)])) rfl (by rw [hml]; rfl) (Steps.refl _) (a := b14) (argsL := [(.ref bK), (.ref a16), (.int (n + (1 : Int32))), (.int col)]) (rest := [(.ref b14)]) (lenOf pd_3 rfl) rfl (by show 2 * 0 + _ ≤ _; exact Nat.le_of_eq rfl) (hb hby at_253) (fun _ _ => ⟨rfl, e16, (by decide : 4 + 0 ≤ _), (by decide : 48 + 0 ≤ _)⟩)
    dsimp only [Pt.U, Pt.locs, Pt.cells, Pt.slots] at X17 l17 y17 z17 st17 hQ17
    subst l17 y17 z17
    obtain ⟨rfl, N17, K17, E17, FL17, FC17⟩ := hQ17
    have Nf17 := Fr.app N4 N17
    refine Goes.via (S' := T17.setTop (mkF m 256 #[.val (.int p1), .val (.int p2), .val (.int p3), .val (.int p4), .val (.int p5), .val (.int n), .val (.int l1), .val (.int l2), .val (.int l3), .val (.int k), .val (.int col), .val (.ref b), .val (.int pos), .val (.int ((r6 + r9) + r12)), .unset] [(.ref b14)])) (fun _ kz => st17.trans kz) ?_
    have O17 := O16.keep K17 (allS gt all0)
    have B_17 := B_16.keep K17 (ninS nbt nin0)
    have hk17 := Nat.le_trans hk16 K17.1
    refine Goes.via (S' := T17.setTop (mkF m 262 #[.val (.int p1), .val (.int p2), .val (.int p3), .val (.int p4), .val (.int p5), .val (.int n), .val (.int l1), .val (.int l2), .val (.int l3), .val (.int k), .val (.int col), .val (.ref b), .val (.int pos), .val (.int ((r6 + r9) + r12)), .val (.ref b14)] [(.ref b14), (.ref b)])) (fun tz kz => ?_) ?_
    · show Steps p.tables e below (T17.setTop (mkF m 256 #[.val (.int p1), .val (.int p2), .val (.int p3), .val (.int p4), .val (.int p5), .val (.int n), .val (.int l1), .val (.int l2), .val (.int l3), .val (.int k), .val (.int col), .val (.ref b), .val (.int pos), .val (.int ((r6 + r9) + r12)), .unset] [(.ref b14)])) _
      refine XS.astore X17.here hx rfl (hb hby at_256) rfl rfl (l' := #[.val (.int p1), .val (.int p2), .val (.int p3), .val (.int p4), .val (.int p5), .val (.int n), .val (.int l1), .val (.int l2), .val (.int l3), .val (.int k), .val (.int col), .val (.ref b), .val (.int pos), .val (.int ((r6 + r9) + r12)), .val (.ref b14)]) rfl ?_
      show Steps p.tables e below (T17.setTop (mkF m 258 #[.val (.int p1), .val (.int p2), .val (.int p3), .val (.int p4), .val (.int p5), .val (.int n), .val (.int l1), .val (.int l2), .val (.int l3), .val (.int k), .val (.int col), .val (.ref b), .val (.int pos), .val (.int ((r6 + r9) + r12)), .val (.ref b14)] [])) _
      refine XS.aload X17.here hx rfl (hb hby at_258) rfl rfl ?_
      show Steps p.tables e below (T17.setTop (mkF m 260 #[.val (.int p1), .val (.int p2), .val (.int p3), .val (.int p4), .val (.int p5), .val (.int n), .val (.int l1), .val (.int l2), .val (.int l3), .val (.int k), .val (.int col), .val (.ref b), .val (.int pos), .val (.int ((r6 + r9) + r12)), .val (.ref b14)] [(.ref b)])) _
      refine XS.aload X17.here hx rfl (hb hby at_260) rfl rfl ?_
      exact kz
    obtain ⟨a18, T18, h18, k18, X18, e18, E18, hS18, hk18, hZ, hown, st18⟩ := ldcS X17 hx hZ hown (hw _ (List.mem_of_getElem? (i := 33) rfl)) wS rfl hS16 hk17 (g := (mkF m 262 #[.val (.int p1), .val (.int p2), .val (.int p3), .val (.int p4), .val (.int p5), .val (.int n), .val (.int l1), .val (.int l2), .val (.int l3), .val (.int k), .val (.int col), .val (.ref b), .val (.int pos), .val (.int ((r6 + r9) + r12)), .val (.ref b14)] [(.ref b14), (.ref b)])) rfl (hb hby at_262) (n := 12) (by decide) (by decide) (by decide) (by decide)
    refine Goes.via (S' := T18.setTop (mkF m 264 #[.val (.int p1), .val (.int p2), .val (.int p3), .val (.int p4), .val (.int p5), .val (.int n), .val (.int l1), .val (.int l2), .val (.int l3), .val (.int k), .val (.int col), .val (.ref b), .val (.int pos), .val (.int ((r6 + r9) + r12)), .val (.ref b14)] [(.ref a18), (.ref b14), (.ref b)])) st18 ?_
    have O18 := O17.ext E18
    have B_18 := B_17.ext E18
    have Eu := E17.ext E18
    have FLu := FL17.ext E18
    have FCu := FC17.ext E18
    have hf2 : ∀ i, i < own_T ds + kN → (own_up (own_up f (own_T ds + kN) (nar .byte (119 : Int32))) (own_T ds + kN + 1) (nar .byte (((p5.toUInt32 >>> ((8 : Int32) &&& 31).toUInt32).toInt32).toInt8.toInt32))) i = f i := by
      intro i hi
      rw [own_up_ne (by omega), own_up_ne (by omega)]
    have hL' : own_L (own_up (own_up f (own_T ds + kN) (nar .byte (119 : Int32))) (own_T ds + kN + 1) (nar .byte (((p5.toUInt32 >>> ((8 : Int32) &&& 31).toUInt32).toInt32).toInt8.toInt32))) 0 ds := own_L.congr ds 0 (fun i hi => hf2 i (by omega)) hL
    have hb' : ∀ t, t < cN → (own_up (own_up f (own_T ds + kN) (nar .byte (119 : Int32))) (own_T ds + kN + 1) (nar .byte (((p5.toUInt32 >>> ((8 : Int32) &&& 31).toUInt32).toInt32).toInt8.toInt32))) (own_T ds + t) = 32 ∨ (own_up (own_up f (own_T ds + kN) (nar .byte (119 : Int32))) (own_T ds + kN + 1) (nar .byte (((p5.toUInt32 >>> ((8 : Int32) &&& 31).toUInt32).toInt32).toInt8.toInt32))) (own_T ds + t) = 9 := fun t ht => by rw [hf2 _ (by omega)]; exact hbk t (by omega)
    obtain ⟨_, _, ⟨T19, L19, k19, n19⟩, -, X19, ⟨Lc19, hQ19, l19, y19, z19⟩, st19⟩ := Jvm.LawKit.callS X18 hx (y := (⟨"com/example/loopwright/loopwright/AnnotateCommand", "loopLineStart", "([BLcom/example/loopwright/loopwright/Lexer$Token;Ljava/lang/String;)I"⟩ : MethodName)) hown (mvT hZ (hw _ (List.mem_of_getElem? (i := 34) rfl))) (mvT hZ (hw _ (List.mem_of_getElem? (i := 35) rfl))) (mvT hZ (hw _ (List.mem_of_getElem? (i := 36) rfl))) (mvT hZ (hw _ (List.mem_of_getElem? (i := 37) rfl))) (by decide) (backOf (W := 0) (rm4 l Z a0 hw [] b b14 a18 _ ds (n + (1 : Int32)) col cN h18 n0 (O18.1 ▸ O18.2.1) B_18 Eu FLu FCu hL' (by rw [hlen]; exact hn1) hcol hb' (by omega) (by omega)) hZ (hw _ (List.mem_of_getElem? (i := 37) rfl)) (hw _ (List.mem_of_getElem? (i := 36) rfl)) (by decide) (by decide)) (g := (mkF m 264 #[.val (.int p1), .val (.int p2), .val (.int p3), .val (.int p4), .val (.int p5), .val (.int n), .val (.int l1), .val (.int l2), .val (.int l3), .val (.int k), .val (.int col), .val (.ref b), .val (.int pos), .val (.int ((r6 + r9) + r12)), .val (.ref b14)] [(.ref a18), (.ref b14), (.ref b)])) rfl (by rw [hml]; rfl) (argsL := [(.ref b), (.ref b14), (.ref a18)]) (rest := []) (lenOf pd_4 rfl) rfl (by show 2 * 0 + _ ≤ _; exact Nat.le_of_eq rfl) (hb hby at_264) (fun _ _ => ⟨rfl, e18, (by decide : 6 + 0 ≤ _), (by decide : 64 + 0 ≤ _)⟩)
    dsimp only [Pt.U, Pt.locs, Pt.cells, Pt.slots] at X19 l19 y19 z19 st19 hQ19
    subst l19 y19 z19
    obtain ⟨⟨rr, rfl, hrr⟩, N19, e19⟩ := hQ19
    have Nf19 := Fr.app Nf17 N19
    refine Goes.via (S' := T19.setTop (mkF m 267 #[.val (.int p1), .val (.int p2), .val (.int p3), .val (.int p4), .val (.int p5), .val (.int n), .val (.int l1), .val (.int l2), .val (.int l3), .val (.int k), .val (.int col), .val (.ref b), .val (.int pos), .val (.int ((r6 + r9) + r12)), .val (.ref b14)] [(.int rr)])) (st19) ?_
    have hk19 : k18 ≤ T19.heap.size := by rw [e19]; exact hk18
    refine Goes.via (S' := T19.setTop (mkF m 277 #[.val (.int p1), .val (.int p2), .val (.int p3), .val (.int p4), .val (.int p5), .val (.int n), .val (.int l1), .val (.int l2), .val (.int l3), .val (.int k), .val (.int col), .val (.ref b), .val (.int pos), .val (.int ((r6 + r9) + r12)), .val (.ref b14)] [(.int (1 : Int32))])) (fun tz kz => ?_) ?_
    · show Steps p.tables e below (T19.setTop (mkF m 267 #[.val (.int p1), .val (.int p2), .val (.int p3), .val (.int p4), .val (.int p5), .val (.int n), .val (.int l1), .val (.int l2), .val (.int l3), .val (.int k), .val (.int col), .val (.ref b), .val (.int pos), .val (.int ((r6 + r9) + r12)), .val (.ref b14)] [(.int rr)])) _
      refine XS.iload X19.here hx rfl (hb hby at_267) rfl ?_
      show Steps p.tables e below (T19.setTop (mkF m 269 #[.val (.int p1), .val (.int p2), .val (.int p3), .val (.int p4), .val (.int p5), .val (.int n), .val (.int l1), .val (.int l2), .val (.int l3), .val (.int k), .val (.int col), .val (.ref b), .val (.int pos), .val (.int ((r6 + r9) + r12)), .val (.ref b14)] [(.int ((r6 + r9) + r12)), (.int rr)])) _
      refine XS.icmpNo X19.here hx rfl (hb hby at_269) rfl (teq (hrr.inj (by rw [hT]; exact own_exp hn hl1 hl2 hl3 m1 m2 m3 hr6 hr9 hr12))).2 ?_
      show Steps p.tables e below (T19.setTop (mkF m 272 #[.val (.int p1), .val (.int p2), .val (.int p3), .val (.int p4), .val (.int p5), .val (.int n), .val (.int l1), .val (.int l2), .val (.int l3), .val (.int k), .val (.int col), .val (.ref b), .val (.int pos), .val (.int ((r6 + r9) + r12)), .val (.ref b14)] [])) _
      refine XS.iconst X19.here hx rfl (hb hby at_272) ?_
      show Steps p.tables e below (T19.setTop (mkF m 273 #[.val (.int p1), .val (.int p2), .val (.int p3), .val (.int p4), .val (.int p5), .val (.int n), .val (.int l1), .val (.int l2), .val (.int l3), .val (.int k), .val (.int col), .val (.ref b), .val (.int pos), .val (.int ((r6 + r9) + r12)), .val (.ref b14)] [(.int (1 : Int32))])) _
      refine XS.goto X19.here hx rfl (pc0 := 273) (pc' := 277) rfl (hb hby at_273) (by decide) (by decide) ?_
      exact kz
    exact Goes.retNW X19 hx Bd.notSynchronized hS18 hk19 (t := .boolean) Bd.returns (by simp) (hb hby at_277) (Nat.le_of_ble_eq_true rfl) (Nat.le_of_ble_eq_true rfl) ⟨rfl, Nf19⟩
  have seg147 : ∀ (Tq : State) (hq : Heap) (Lq : List Loc) (n l1 l2 l3 k col : Int32) (nN a1 a2 a3 kN cN : Nat) (b : Addr) (pos : Int32) (f : Nat → Int32) (ds : List Nat), (Stand p l e room_1 s m #[(.int p1), (.int p2), (.int p3), (.int p4), (.int p5)] below meth c Tq Lq 1 20) → (Tq.heap = hq) → (Fr n0 Lq) → (Old Z n0 hq) → (own_I n nN) → (own_I l1 a1) → (own_I l2 a2) → (own_I l3 a3) → (own_I k kN) → (own_I col (cN + 1)) → (nN ≤ 3) → (a1 ≤ 3) → (a2 ≤ 3) → (a3 ≤ 3) → (kN ≤ 3) → (cN ≤ kN) → (n0 ≤ b) → (own_I pos (own_T ds)) → (own_B Z hq b f) → (own_L f 0 ds) → (own_T ds = (if 0 < nN then a1 + 1 else 0) + (if 1 < nN then a2 + 1 else 0) + (if 2 < nN then a3 + 1 else 0)) → (ds.length = min nN 3) → (∀ t, t < min kN 2 → f (own_T ds + t) = 32 ∨ f (own_T ds + t) = 9) → Goes p e below (FinW s (Q_rm0 Z p1 p2 p3 p4 p5 bK h0 n0) room_1.cells room_1.slots) (Tq.setTop (mkF m 147 #[.val (.int p1), .val (.int p2), .val (.int p3), .val (.int p4), .val (.int p5), .val (.int n), .val (.int l1), .val (.int l2), .val (.int l3), .val (.int k), .val (.int col), .val (.ref b), .val (.int pos), .unset, .unset] [])) := by
    intro Tq hq Lq n l1 l2 l3 k col nN a1 a2 a3 kN cN b pos f ds XTq eTq Nq Oq hn hl1 hl2 hl3 hk hcol m0 m1 m2 m3 mk mc gb hpos Bq hL hT hlen hbk
    have hT12 : own_T ds ≤ 12 := by rw [hT]; have w1 := own_w (P := 0 < nN) m1; have w2 := own_w (P := 1 < nN) m2; have w3 := own_w (P := 2 < nN) m3; omega
    refine Goes.via (S' := Tq.setTop (mkF m 150 #[.val (.int p1), .val (.int p2), .val (.int p3), .val (.int p4), .val (.int p5), .val (.int n), .val (.int l1), .val (.int l2), .val (.int l3), .val (.int k), .val (.int col), .val (.ref b), .val (.int pos), .unset, .unset] [(.int (2 : Int32)), (.int k)])) (fun tz kz => ?_) ?_
    · show Steps p.tables e below (Tq.setTop (mkF m 147 #[.val (.int p1), .val (.int p2), .val (.int p3), .val (.int p4), .val (.int p5), .val (.int n), .val (.int l1), .val (.int l2), .val (.int l3), .val (.int k), .val (.int col), .val (.ref b), .val (.int pos), .unset, .unset] [])) _
      refine XS.iload XTq.here hx rfl (hb hby at_147) rfl ?_
      show Steps p.tables e below (Tq.setTop (mkF m 149 #[.val (.int p1), .val (.int p2), .val (.int p3), .val (.int p4), .val (.int p5), .val (.int n), .val (.int l1), .val (.int l2), .val (.int l3), .val (.int k), .val (.int col), .val (.ref b), .val (.int pos), .unset, .unset] [(.int k)])) _
      refine XS.iconst XTq.here hx rfl (hb hby at_149) ?_
      exact kz
    by_cases hc150_20 : (2 : Int32) < k
    · refine Goes.via (S' := Tq.setTop (mkF m 163 #[.val (.int p1), .val (.int p2), .val (.int p3), .val (.int p4), .val (.int p5), .val (.int n), .val (.int l1), .val (.int l2), .val (.int l3), .val (.int k), .val (.int col), .val (.ref b), .val (.int pos), .unset, .unset] [(.int ((p5.toUInt32 >>> ((2 : Int32) &&& 31).toUInt32).toInt32)), (.int (pos + (2 : Int32))), (.ref b)])) (fun tz kz => ?_) ?_
      · show Steps p.tables e below (Tq.setTop (mkF m 150 #[.val (.int p1), .val (.int p2), .val (.int p3), .val (.int p4), .val (.int p5), .val (.int n), .val (.int l1), .val (.int l2), .val (.int l3), .val (.int k), .val (.int col), .val (.ref b), .val (.int pos), .unset, .unset] [(.int (2 : Int32)), (.int k)])) _
        refine XS.icmpNo XTq.here hx rfl (hb hby at_150) rfl (tlt hc150_20).2.2.2 ?_
        show Steps p.tables e below (Tq.setTop (mkF m 153 #[.val (.int p1), .val (.int p2), .val (.int p3), .val (.int p4), .val (.int p5), .val (.int n), .val (.int l1), .val (.int l2), .val (.int l3), .val (.int k), .val (.int col), .val (.ref b), .val (.int pos), .unset, .unset] [])) _
        refine XS.aload XTq.here hx rfl (hb hby at_153) rfl rfl ?_
        show Steps p.tables e below (Tq.setTop (mkF m 155 #[.val (.int p1), .val (.int p2), .val (.int p3), .val (.int p4), .val (.int p5), .val (.int n), .val (.int l1), .val (.int l2), .val (.int l3), .val (.int k), .val (.int col), .val (.ref b), .val (.int pos), .unset, .unset] [(.ref b)])) _
        refine XS.iload XTq.here hx rfl (hb hby at_155) rfl ?_
        show Steps p.tables e below (Tq.setTop (mkF m 157 #[.val (.int p1), .val (.int p2), .val (.int p3), .val (.int p4), .val (.int p5), .val (.int n), .val (.int l1), .val (.int l2), .val (.int l3), .val (.int k), .val (.int col), .val (.ref b), .val (.int pos), .unset, .unset] [(.int pos), (.ref b)])) _
        refine XS.iconst XTq.here hx rfl (hb hby at_157) ?_
        show Steps p.tables e below (Tq.setTop (mkF m 158 #[.val (.int p1), .val (.int p2), .val (.int p3), .val (.int p4), .val (.int p5), .val (.int n), .val (.int l1), .val (.int l2), .val (.int l3), .val (.int k), .val (.int col), .val (.ref b), .val (.int pos), .unset, .unset] [(.int (2 : Int32)), (.int pos), (.ref b)])) _
        refine XS.iadd XTq.here hx rfl (hb hby at_158) rfl ?_
        show Steps p.tables e below (Tq.setTop (mkF m 159 #[.val (.int p1), .val (.int p2), .val (.int p3), .val (.int p4), .val (.int p5), .val (.int n), .val (.int l1), .val (.int l2), .val (.int l3), .val (.int k), .val (.int col), .val (.ref b), .val (.int pos), .unset, .unset] [(.int (pos + (2 : Int32))), (.ref b)])) _
        refine XS.iload XTq.here hx rfl (hb hby at_159) rfl ?_
        show Steps p.tables e below (Tq.setTop (mkF m 161 #[.val (.int p1), .val (.int p2), .val (.int p3), .val (.int p4), .val (.int p5), .val (.int n), .val (.int l1), .val (.int l2), .val (.int l3), .val (.int k), .val (.int col), .val (.ref b), .val (.int pos), .unset, .unset] [(.int p5), (.int (pos + (2 : Int32))), (.ref b)])) _
        refine XS.iconst XTq.here hx rfl (hb hby at_161) ?_
        show Steps p.tables e below (Tq.setTop (mkF m 162 #[.val (.int p1), .val (.int p2), .val (.int p3), .val (.int p4), .val (.int p5), .val (.int n), .val (.int l1), .val (.int l2), .val (.int l3), .val (.int k), .val (.int col), .val (.ref b), .val (.int pos), .unset, .unset] [(.int (2 : Int32)), (.int p5), (.int (pos + (2 : Int32))), (.ref b)])) _
        refine XS.iushr XTq.here hx rfl (hb hby at_162) rfl ?_
        exact kz
      obtain ⟨_, _, ⟨T21, L21, k21, n21⟩, -, X21, ⟨Lc21, hQ21, l21, y21, z21⟩, st21⟩ := Jvm.LawKit.callS XTq hx (y := (⟨"com/example/loopwright/loopwright/AnnotateCommandLoopLineStartPinLaw", "blank", "(I)B"⟩ : MethodName)) hown (mvT hZ (hw _ (List.mem_of_getElem? (i := 52) rfl))) (mvT hZ (hw _ (List.mem_of_getElem? (i := 53) rfl))) (mvT hZ (hw _ (List.mem_of_getElem? (i := 50) rfl))) (mvT hZ (hw _ (List.mem_of_getElem? (i := 54) rfl))) (by decide) (backOf (W := 2) (rm8 l Z a0 hw [] ((p5.toUInt32 >>> ((2 : Int32) &&& 31).toUInt32).toInt32) hq n0 (Oq.1 ▸ Oq.2.1)) hZ (hw _ (List.mem_of_getElem? (i := 54) rfl)) (hw _ (List.mem_of_getElem? (i := 50) rfl)) (by decide) (by decide)) (g := (mkF m 163 #[.val (.int p1), .val (.int p2), .val (.int p3), .val (.int p4), .val (.int p5), .val (.int n), .val (.int l1), .val (.int l2), .val (.int l3), .val (.int k), .val (.int col), .val (.ref b), .val (.int pos), .unset, .unset] [(.int ((p5.toUInt32 >>> ((2 : Int32) &&& 31).toUInt32).toInt32)), (.int (pos + (2 : Int32))), (.ref b)])) rfl (by rw [hml]; rfl) (argsL := [(.int ((p5.toUInt32 >>> ((2 : Int32) &&& 31).toUInt32).toInt32))]) (rest := [(.int (pos + (2 : Int32))), (.ref b)]) (lenOf pd_0 rfl) rfl (by show 2 * 0 + _ ≤ _; exact Nat.le_of_eq rfl) (hb hby at_163) (fun _ _ => ⟨rfl, eTq, (by decide : 1 + 0 ≤ _), (by decide : 20 + 0 ≤ _)⟩)
      dsimp only [Pt.U, Pt.locs, Pt.cells, Pt.slots] at X21 l21 y21 z21 st21 hQ21
      subst l21 y21 z21
      obtain ⟨⟨c21, rfl, hc21⟩, N21, e21⟩ := hQ21
      have Nf21 := Fr.app Nq N21
      refine Goes.via (S' := T21.setTop (mkF m 166 #[.val (.int p1), .val (.int p2), .val (.int p3), .val (.int p4), .val (.int p5), .val (.int n), .val (.int l1), .val (.int l2), .val (.int l3), .val (.int k), .val (.int col), .val (.ref b), .val (.int pos), .unset, .unset] [(.int c21), (.int (pos + (2 : Int32))), (.ref b)])) (st21) ?_
      obtain ⟨cl22, Ar22, Sz22, Hs22⟩ := Bq
      obtain ⟨T23, h23, X23, e23, W23, st23⟩ := stB X21 hx hZ e21 Ar22 (j := (pos + (2 : Int32))) (own_in Sz22 (hpos.add own_I2 (by omega)) (by omega)) (g := (mkF m 166 #[.val (.int p1), .val (.int p2), .val (.int p3), .val (.int p4), .val (.int p5), .val (.int n), .val (.int l1), .val (.int l2), .val (.int l3), .val (.int k), .val (.int col), .val (.ref b), .val (.int pos), .unset, .unset] [(.int c21), (.int (pos + (2 : Int32))), (.ref b)])) rfl rfl (hb hby at_166)
      refine Goes.via (S' := T23.setTop (mkF m 167 #[.val (.int p1), .val (.int p2), .val (.int p3), .val (.int p4), .val (.int p5), .val (.int n), .val (.int l1), .val (.int l2), .val (.int l3), .val (.int k), .val (.int col), .val (.ref b), .val (.int pos), .unset, .unset] [])) st23 ?_
      have N23 := Fr.snoc X23 Nf21 gb
      rw [show ((pos + (2 : Int32))).toNatClampNeg = (own_T ds + 2) from ((hpos.add own_I2 (by omega))).nat] at W23
      have B23 := own_B.set Ar22 Sz22 Hs22 W23
      have O23 := Oq.wr W23 gb
      have q2 : 2 < kN := (own_I2.lt hk).mp hc150_20
      have L1 : own_L (own_up f (own_T ds + 2) (nar .byte c21)) 0 ds := own_L.congr ds 0 (fun i hi => own_up_ne (by omega)) hL
      have b1 : ∀ t, t < min kN 3 → own_up f (own_T ds + 2) (nar .byte c21) (own_T ds + t) = 32 ∨ own_up f (own_T ds + 2) (nar .byte c21) (own_T ds + t) = 9 := by
        intro t ht
        by_cases e : t = 2
        · rw [own_up_eq (by omega)]; exact hc21
        · rw [own_up_ne (by omega)]; exact hbk t (by omega)
      exact seg167 _ _ _ n l1 l2 l3 k col nN a1 a2 a3 kN cN b _ _ ds X23 e23 N23 O23 hn hl1 hl2 hl3 hk hcol m0 m1 m2 m3 mk mc gb hpos B23 L1 hT hlen b1
    · refine Goes.via (S' := Tq.setTop (mkF m 167 #[.val (.int p1), .val (.int p2), .val (.int p3), .val (.int p4), .val (.int p5), .val (.int n), .val (.int l1), .val (.int l2), .val (.int l3), .val (.int k), .val (.int col), .val (.ref b), .val (.int pos), .unset, .unset] [])) (fun tz kz => ?_) ?_
      · show Steps p.tables e below (Tq.setTop (mkF m 150 #[.val (.int p1), .val (.int p2), .val (.int p3), .val (.int p4), .val (.int p5), .val (.int n), .val (.int l1), .val (.int l2), .val (.int l3), .val (.int k), .val (.int col), .val (.ref b), .val (.int pos), .unset, .unset] [(.int (2 : Int32)), (.int k)])) _
        refine XS.icmpYes XTq.here hx rfl (pc0 := 150) (pc' := 167) rfl (hb hby at_150) rfl (flt hc150_20).2.2.2 (by decide) (by decide) ?_
        exact kz
      have q2 : ¬ 2 < kN := fun y => hc150_20 ((own_I2.lt hk).mpr y)
      exact seg167 _ _ _ n l1 l2 l3 k col nN a1 a2 a3 kN cN b _ f ds XTq eTq Nq Oq hn hl1 hl2 hl3 hk hcol m0 m1 m2 m3 mk mc gb hpos Bq hL hT hlen (fun t ht => hbk t (by omega))
  have seg127 : ∀ (Tq : State) (hq : Heap) (Lq : List Loc) (n l1 l2 l3 k col : Int32) (nN a1 a2 a3 kN cN : Nat) (b : Addr) (pos : Int32) (f : Nat → Int32) (ds : List Nat), (Stand p l e room_1 s m #[(.int p1), (.int p2), (.int p3), (.int p4), (.int p5)] below meth c Tq Lq 1 20) → (Tq.heap = hq) → (Fr n0 Lq) → (Old Z n0 hq) → (own_I n nN) → (own_I l1 a1) → (own_I l2 a2) → (own_I l3 a3) → (own_I k kN) → (own_I col (cN + 1)) → (nN ≤ 3) → (a1 ≤ 3) → (a2 ≤ 3) → (a3 ≤ 3) → (kN ≤ 3) → (cN ≤ kN) → (n0 ≤ b) → (own_I pos (own_T ds)) → (own_B Z hq b f) → (own_L f 0 ds) → (own_T ds = (if 0 < nN then a1 + 1 else 0) + (if 1 < nN then a2 + 1 else 0) + (if 2 < nN then a3 + 1 else 0)) → (ds.length = min nN 3) → (∀ t, t < min kN 1 → f (own_T ds + t) = 32 ∨ f (own_T ds + t) = 9) → Goes p e below (FinW s (Q_rm0 Z p1 p2 p3 p4 p5 bK h0 n0) room_1.cells room_1.slots) (Tq.setTop (mkF m 127 #[.val (.int p1), .val (.int p2), .val (.int p3), .val (.int p4), .val (.int p5), .val (.int n), .val (.int l1), .val (.int l2), .val (.int l3), .val (.int k), .val (.int col), .val (.ref b), .val (.int pos), .unset, .unset] [])) := by
    intro Tq hq Lq n l1 l2 l3 k col nN a1 a2 a3 kN cN b pos f ds XTq eTq Nq Oq hn hl1 hl2 hl3 hk hcol m0 m1 m2 m3 mk mc gb hpos Bq hL hT hlen hbk
    have hT12 : own_T ds ≤ 12 := by rw [hT]; have w1 := own_w (P := 0 < nN) m1; have w2 := own_w (P := 1 < nN) m2; have w3 := own_w (P := 2 < nN) m3; omega
    refine Goes.via (S' := Tq.setTop (mkF m 130 #[.val (.int p1), .val (.int p2), .val (.int p3), .val (.int p4), .val (.int p5), .val (.int n), .val (.int l1), .val (.int l2), .val (.int l3), .val (.int k), .val (.int col), .val (.ref b), .val (.int pos), .unset, .unset] [(.int (1 : Int32)), (.int k)])) (fun tz kz => ?_) ?_
    · show Steps p.tables e below (Tq.setTop (mkF m 127 #[.val (.int p1), .val (.int p2), .val (.int p3), .val (.int p4), .val (.int p5), .val (.int n), .val (.int l1), .val (.int l2), .val (.int l3), .val (.int k), .val (.int col), .val (.ref b), .val (.int pos), .unset, .unset] [])) _
      refine XS.iload XTq.here hx rfl (hb hby at_127) rfl ?_
      show Steps p.tables e below (Tq.setTop (mkF m 129 #[.val (.int p1), .val (.int p2), .val (.int p3), .val (.int p4), .val (.int p5), .val (.int n), .val (.int l1), .val (.int l2), .val (.int l3), .val (.int k), .val (.int col), .val (.ref b), .val (.int pos), .unset, .unset] [(.int k)])) _
      refine XS.iconst XTq.here hx rfl (hb hby at_129) ?_
      exact kz
    by_cases hc130_24 : (1 : Int32) < k
    · refine Goes.via (S' := Tq.setTop (mkF m 143 #[.val (.int p1), .val (.int p2), .val (.int p3), .val (.int p4), .val (.int p5), .val (.int n), .val (.int l1), .val (.int l2), .val (.int l3), .val (.int k), .val (.int col), .val (.ref b), .val (.int pos), .unset, .unset] [(.int ((p5.toUInt32 >>> ((1 : Int32) &&& 31).toUInt32).toInt32)), (.int (pos + (1 : Int32))), (.ref b)])) (fun tz kz => ?_) ?_
      · show Steps p.tables e below (Tq.setTop (mkF m 130 #[.val (.int p1), .val (.int p2), .val (.int p3), .val (.int p4), .val (.int p5), .val (.int n), .val (.int l1), .val (.int l2), .val (.int l3), .val (.int k), .val (.int col), .val (.ref b), .val (.int pos), .unset, .unset] [(.int (1 : Int32)), (.int k)])) _
        refine XS.icmpNo XTq.here hx rfl (hb hby at_130) rfl (tlt hc130_24).2.2.2 ?_
        show Steps p.tables e below (Tq.setTop (mkF m 133 #[.val (.int p1), .val (.int p2), .val (.int p3), .val (.int p4), .val (.int p5), .val (.int n), .val (.int l1), .val (.int l2), .val (.int l3), .val (.int k), .val (.int col), .val (.ref b), .val (.int pos), .unset, .unset] [])) _
        refine XS.aload XTq.here hx rfl (hb hby at_133) rfl rfl ?_
        show Steps p.tables e below (Tq.setTop (mkF m 135 #[.val (.int p1), .val (.int p2), .val (.int p3), .val (.int p4), .val (.int p5), .val (.int n), .val (.int l1), .val (.int l2), .val (.int l3), .val (.int k), .val (.int col), .val (.ref b), .val (.int pos), .unset, .unset] [(.ref b)])) _
        refine XS.iload XTq.here hx rfl (hb hby at_135) rfl ?_
        show Steps p.tables e below (Tq.setTop (mkF m 137 #[.val (.int p1), .val (.int p2), .val (.int p3), .val (.int p4), .val (.int p5), .val (.int n), .val (.int l1), .val (.int l2), .val (.int l3), .val (.int k), .val (.int col), .val (.ref b), .val (.int pos), .unset, .unset] [(.int pos), (.ref b)])) _
        refine XS.iconst XTq.here hx rfl (hb hby at_137) ?_
        show Steps p.tables e below (Tq.setTop (mkF m 138 #[.val (.int p1), .val (.int p2), .val (.int p3), .val (.int p4), .val (.int p5), .val (.int n), .val (.int l1), .val (.int l2), .val (.int l3), .val (.int k), .val (.int col), .val (.ref b), .val (.int pos), .unset, .unset] [(.int (1 : Int32)), (.int pos), (.ref b)])) _
        refine XS.iadd XTq.here hx rfl (hb hby at_138) rfl ?_
        show Steps p.tables e below (Tq.setTop (mkF m 139 #[.val (.int p1), .val (.int p2), .val (.int p3), .val (.int p4), .val (.int p5), .val (.int n), .val (.int l1), .val (.int l2), .val (.int l3), .val (.int k), .val (.int col), .val (.ref b), .val (.int pos), .unset, .unset] [(.int (pos + (1 : Int32))), (.ref b)])) _
        refine XS.iload XTq.here hx rfl (hb hby at_139) rfl ?_
        show Steps p.tables e below (Tq.setTop (mkF m 141 #[.val (.int p1), .val (.int p2), .val (.int p3), .val (.int p4), .val (.int p5), .val (.int n), .val (.int l1), .val (.int l2), .val (.int l3), .val (.int k), .val (.int col), .val (.ref b), .val (.int pos), .unset, .unset] [(.int p5), (.int (pos + (1 : Int32))), (.ref b)])) _
        refine XS.iconst XTq.here hx rfl (hb hby at_141) ?_
        show Steps p.tables e below (Tq.setTop (mkF m 142 #[.val (.int p1), .val (.int p2), .val (.int p3), .val (.int p4), .val (.int p5), .val (.int n), .val (.int l1), .val (.int l2), .val (.int l3), .val (.int k), .val (.int col), .val (.ref b), .val (.int pos), .unset, .unset] [(.int (1 : Int32)), (.int p5), (.int (pos + (1 : Int32))), (.ref b)])) _
        refine XS.iushr XTq.here hx rfl (hb hby at_142) rfl ?_
        exact kz
      obtain ⟨_, _, ⟨T25, L25, k25, n25⟩, -, X25, ⟨Lc25, hQ25, l25, y25, z25⟩, st25⟩ := Jvm.LawKit.callS XTq hx (y := (⟨"com/example/loopwright/loopwright/AnnotateCommandLoopLineStartPinLaw", "blank", "(I)B"⟩ : MethodName)) hown (mvT hZ (hw _ (List.mem_of_getElem? (i := 52) rfl))) (mvT hZ (hw _ (List.mem_of_getElem? (i := 53) rfl))) (mvT hZ (hw _ (List.mem_of_getElem? (i := 50) rfl))) (mvT hZ (hw _ (List.mem_of_getElem? (i := 54) rfl))) (by decide) (backOf (W := 2) (rm8 l Z a0 hw [] ((p5.toUInt32 >>> ((1 : Int32) &&& 31).toUInt32).toInt32) hq n0 (Oq.1 ▸ Oq.2.1)) hZ (hw _ (List.mem_of_getElem? (i := 54) rfl)) (hw _ (List.mem_of_getElem? (i := 50) rfl)) (by decide) (by decide)) (g := (mkF m 143 #[.val (.int p1), .val (.int p2), .val (.int p3), .val (.int p4), .val (.int p5), .val (.int n), .val (.int l1), .val (.int l2), .val (.int l3), .val (.int k), .val (.int col), .val (.ref b), .val (.int pos), .unset, .unset] [(.int ((p5.toUInt32 >>> ((1 : Int32) &&& 31).toUInt32).toInt32)), (.int (pos + (1 : Int32))), (.ref b)])) rfl (by rw [hml]; rfl) (argsL := [(.int ((p5.toUInt32 >>> ((1 : Int32) &&& 31).toUInt32).toInt32))]) (rest := [(.int (pos + (1 : Int32))), (.ref b)]) (lenOf pd_0 rfl) rfl (by show 2 * 0 + _ ≤ _; exact Nat.le_of_eq rfl) (hb hby at_143) (fun _ _ => ⟨rfl, eTq, (by decide : 1 + 0 ≤ _), (by decide : 20 + 0 ≤ _)⟩)
      dsimp only [Pt.U, Pt.locs, Pt.cells, Pt.slots] at X25 l25 y25 z25 st25 hQ25
      subst l25 y25 z25
      obtain ⟨⟨c25, rfl, hc25⟩, N25, e25⟩ := hQ25
      have Nf25 := Fr.app Nq N25
      refine Goes.via (S' := T25.setTop (mkF m 146 #[.val (.int p1), .val (.int p2), .val (.int p3), .val (.int p4), .val (.int p5), .val (.int n), .val (.int l1), .val (.int l2), .val (.int l3), .val (.int k), .val (.int col), .val (.ref b), .val (.int pos), .unset, .unset] [(.int c25), (.int (pos + (1 : Int32))), (.ref b)])) (st25) ?_
      obtain ⟨cl26, Ar26, Sz26, Hs26⟩ := Bq
      obtain ⟨T27, h27, X27, e27, W27, st27⟩ := stB X25 hx hZ e25 Ar26 (j := (pos + (1 : Int32))) (own_in Sz26 (hpos.add own_I1 (by omega)) (by omega)) (g := (mkF m 146 #[.val (.int p1), .val (.int p2), .val (.int p3), .val (.int p4), .val (.int p5), .val (.int n), .val (.int l1), .val (.int l2), .val (.int l3), .val (.int k), .val (.int col), .val (.ref b), .val (.int pos), .unset, .unset] [(.int c25), (.int (pos + (1 : Int32))), (.ref b)])) rfl rfl (hb hby at_146)
      refine Goes.via (S' := T27.setTop (mkF m 147 #[.val (.int p1), .val (.int p2), .val (.int p3), .val (.int p4), .val (.int p5), .val (.int n), .val (.int l1), .val (.int l2), .val (.int l3), .val (.int k), .val (.int col), .val (.ref b), .val (.int pos), .unset, .unset] [])) st27 ?_
      have N27 := Fr.snoc X27 Nf25 gb
      rw [show ((pos + (1 : Int32))).toNatClampNeg = (own_T ds + 1) from ((hpos.add own_I1 (by omega))).nat] at W27
      have B27 := own_B.set Ar26 Sz26 Hs26 W27
      have O27 := Oq.wr W27 gb
      have q1 : 1 < kN := (own_I1.lt hk).mp hc130_24
      have L1 : own_L (own_up f (own_T ds + 1) (nar .byte c25)) 0 ds := own_L.congr ds 0 (fun i hi => own_up_ne (by omega)) hL
      have b1 : ∀ t, t < min kN 2 → own_up f (own_T ds + 1) (nar .byte c25) (own_T ds + t) = 32 ∨ own_up f (own_T ds + 1) (nar .byte c25) (own_T ds + t) = 9 := by
        intro t ht
        by_cases e : t = 1
        · rw [own_up_eq (by omega)]; exact hc25
        · rw [own_up_ne (by omega)]; exact hbk t (by omega)
      exact seg147 _ _ _ n l1 l2 l3 k col nN a1 a2 a3 kN cN b _ _ ds X27 e27 N27 O27 hn hl1 hl2 hl3 hk hcol m0 m1 m2 m3 mk mc gb hpos B27 L1 hT hlen b1
    · refine Goes.via (S' := Tq.setTop (mkF m 147 #[.val (.int p1), .val (.int p2), .val (.int p3), .val (.int p4), .val (.int p5), .val (.int n), .val (.int l1), .val (.int l2), .val (.int l3), .val (.int k), .val (.int col), .val (.ref b), .val (.int pos), .unset, .unset] [])) (fun tz kz => ?_) ?_
      · show Steps p.tables e below (Tq.setTop (mkF m 130 #[.val (.int p1), .val (.int p2), .val (.int p3), .val (.int p4), .val (.int p5), .val (.int n), .val (.int l1), .val (.int l2), .val (.int l3), .val (.int k), .val (.int col), .val (.ref b), .val (.int pos), .unset, .unset] [(.int (1 : Int32)), (.int k)])) _
        refine XS.icmpYes XTq.here hx rfl (pc0 := 130) (pc' := 147) rfl (hb hby at_130) rfl (flt hc130_24).2.2.2 (by decide) (by decide) ?_
        exact kz
      have q1 : ¬ 1 < kN := fun y => hc130_24 ((own_I1.lt hk).mpr y)
      exact seg147 _ _ _ n l1 l2 l3 k col nN a1 a2 a3 kN cN b _ f ds XTq eTq Nq Oq hn hl1 hl2 hl3 hk hcol m0 m1 m2 m3 mk mc gb hpos Bq hL hT hlen (fun t ht => hbk t (by omega))
  have seg112 : ∀ (Tq : State) (hq : Heap) (Lq : List Loc) (n l1 l2 l3 k col : Int32) (nN a1 a2 a3 kN cN : Nat) (b : Addr) (pos : Int32) (f : Nat → Int32) (ds : List Nat), (Stand p l e room_1 s m #[(.int p1), (.int p2), (.int p3), (.int p4), (.int p5)] below meth c Tq Lq 1 20) → (Tq.heap = hq) → (Fr n0 Lq) → (Old Z n0 hq) → (own_I n nN) → (own_I l1 a1) → (own_I l2 a2) → (own_I l3 a3) → (own_I k kN) → (own_I col (cN + 1)) → (nN ≤ 3) → (a1 ≤ 3) → (a2 ≤ 3) → (a3 ≤ 3) → (kN ≤ 3) → (cN ≤ kN) → (n0 ≤ b) → (own_I pos (own_T ds)) → (own_B Z hq b f) → (own_L f 0 ds) → (own_T ds = (if 0 < nN then a1 + 1 else 0) + (if 1 < nN then a2 + 1 else 0) + (if 2 < nN then a3 + 1 else 0)) → (ds.length = min nN 3) → Goes p e below (FinW s (Q_rm0 Z p1 p2 p3 p4 p5 bK h0 n0) room_1.cells room_1.slots) (Tq.setTop (mkF m 112 #[.val (.int p1), .val (.int p2), .val (.int p3), .val (.int p4), .val (.int p5), .val (.int n), .val (.int l1), .val (.int l2), .val (.int l3), .val (.int k), .val (.int col), .val (.ref b), .val (.int pos), .unset, .unset] [])) := by
    intro Tq hq Lq n l1 l2 l3 k col nN a1 a2 a3 kN cN b pos f ds XTq eTq Nq Oq hn hl1 hl2 hl3 hk hcol m0 m1 m2 m3 mk mc gb hpos Bq hL hT hlen
    have hT12 : own_T ds ≤ 12 := by rw [hT]; have w1 := own_w (P := 0 < nN) m1; have w2 := own_w (P := 1 < nN) m2; have w3 := own_w (P := 2 < nN) m3; omega
    refine Goes.via (S' := Tq.setTop (mkF m 114 #[.val (.int p1), .val (.int p2), .val (.int p3), .val (.int p4), .val (.int p5), .val (.int n), .val (.int l1), .val (.int l2), .val (.int l3), .val (.int k), .val (.int col), .val (.ref b), .val (.int pos), .unset, .unset] [(.int k)])) (fun tz kz => ?_) ?_
    · show Steps p.tables e below (Tq.setTop (mkF m 112 #[.val (.int p1), .val (.int p2), .val (.int p3), .val (.int p4), .val (.int p5), .val (.int n), .val (.int l1), .val (.int l2), .val (.int l3), .val (.int k), .val (.int col), .val (.ref b), .val (.int pos), .unset, .unset] [])) _
      refine XS.iload XTq.here hx rfl (hb hby at_112) rfl ?_
      exact kz
    by_cases hc114_28 : (0 : Int32) < k
    · refine Goes.via (S' := Tq.setTop (mkF m 123 #[.val (.int p1), .val (.int p2), .val (.int p3), .val (.int p4), .val (.int p5), .val (.int n), .val (.int l1), .val (.int l2), .val (.int l3), .val (.int k), .val (.int col), .val (.ref b), .val (.int pos), .unset, .unset] [(.int p5), (.int pos), (.ref b)])) (fun tz kz => ?_) ?_
      · show Steps p.tables e below (Tq.setTop (mkF m 114 #[.val (.int p1), .val (.int p2), .val (.int p3), .val (.int p4), .val (.int p5), .val (.int n), .val (.int l1), .val (.int l2), .val (.int l3), .val (.int k), .val (.int col), .val (.ref b), .val (.int pos), .unset, .unset] [(.int k)])) _
        refine XS.ifNo XTq.here hx rfl (hb hby at_114) rfl ((if0 _ _).trans (tlt hc114_28).2.2.2) ?_
        show Steps p.tables e below (Tq.setTop (mkF m 117 #[.val (.int p1), .val (.int p2), .val (.int p3), .val (.int p4), .val (.int p5), .val (.int n), .val (.int l1), .val (.int l2), .val (.int l3), .val (.int k), .val (.int col), .val (.ref b), .val (.int pos), .unset, .unset] [])) _
        refine XS.aload XTq.here hx rfl (hb hby at_117) rfl rfl ?_
        show Steps p.tables e below (Tq.setTop (mkF m 119 #[.val (.int p1), .val (.int p2), .val (.int p3), .val (.int p4), .val (.int p5), .val (.int n), .val (.int l1), .val (.int l2), .val (.int l3), .val (.int k), .val (.int col), .val (.ref b), .val (.int pos), .unset, .unset] [(.ref b)])) _
        refine XS.iload XTq.here hx rfl (hb hby at_119) rfl ?_
        show Steps p.tables e below (Tq.setTop (mkF m 121 #[.val (.int p1), .val (.int p2), .val (.int p3), .val (.int p4), .val (.int p5), .val (.int n), .val (.int l1), .val (.int l2), .val (.int l3), .val (.int k), .val (.int col), .val (.ref b), .val (.int pos), .unset, .unset] [(.int pos), (.ref b)])) _
        refine XS.iload XTq.here hx rfl (hb hby at_121) rfl ?_
        exact kz
      obtain ⟨_, _, ⟨T29, L29, k29, n29⟩, -, X29, ⟨Lc29, hQ29, l29, y29, z29⟩, st29⟩ := Jvm.LawKit.callS XTq hx (y := (⟨"com/example/loopwright/loopwright/AnnotateCommandLoopLineStartPinLaw", "blank", "(I)B"⟩ : MethodName)) hown (mvT hZ (hw _ (List.mem_of_getElem? (i := 52) rfl))) (mvT hZ (hw _ (List.mem_of_getElem? (i := 53) rfl))) (mvT hZ (hw _ (List.mem_of_getElem? (i := 50) rfl))) (mvT hZ (hw _ (List.mem_of_getElem? (i := 54) rfl))) (by decide) (backOf (W := 2) (rm8 l Z a0 hw [] p5 hq n0 (Oq.1 ▸ Oq.2.1)) hZ (hw _ (List.mem_of_getElem? (i := 54) rfl)) (hw _ (List.mem_of_getElem? (i := 50) rfl)) (by decide) (by decide)) (g := (mkF m 123 #[.val (.int p1), .val (.int p2), .val (.int p3), .val (.int p4), .val (.int p5), .val (.int n), .val (.int l1), .val (.int l2), .val (.int l3), .val (.int k), .val (.int col), .val (.ref b), .val (.int pos), .unset, .unset] [(.int p5), (.int pos), (.ref b)])) rfl (by rw [hml]; rfl) (argsL := [(.int p5)]) (rest := [(.int pos), (.ref b)]) (lenOf pd_0 rfl) rfl (by show 2 * 0 + _ ≤ _; exact Nat.le_of_eq rfl) (hb hby at_123) (fun _ _ => ⟨rfl, eTq, (by decide : 1 + 0 ≤ _), (by decide : 20 + 0 ≤ _)⟩)
      dsimp only [Pt.U, Pt.locs, Pt.cells, Pt.slots] at X29 l29 y29 z29 st29 hQ29
      subst l29 y29 z29
      obtain ⟨⟨c29, rfl, hc29⟩, N29, e29⟩ := hQ29
      have Nf29 := Fr.app Nq N29
      refine Goes.via (S' := T29.setTop (mkF m 126 #[.val (.int p1), .val (.int p2), .val (.int p3), .val (.int p4), .val (.int p5), .val (.int n), .val (.int l1), .val (.int l2), .val (.int l3), .val (.int k), .val (.int col), .val (.ref b), .val (.int pos), .unset, .unset] [(.int c29), (.int pos), (.ref b)])) (st29) ?_
      obtain ⟨cl30, Ar30, Sz30, Hs30⟩ := Bq
      obtain ⟨T31, h31, X31, e31, W31, st31⟩ := stB X29 hx hZ e29 Ar30 (j := pos) (own_in Sz30 hpos (by omega)) (g := (mkF m 126 #[.val (.int p1), .val (.int p2), .val (.int p3), .val (.int p4), .val (.int p5), .val (.int n), .val (.int l1), .val (.int l2), .val (.int l3), .val (.int k), .val (.int col), .val (.ref b), .val (.int pos), .unset, .unset] [(.int c29), (.int pos), (.ref b)])) rfl rfl (hb hby at_126)
      refine Goes.via (S' := T31.setTop (mkF m 127 #[.val (.int p1), .val (.int p2), .val (.int p3), .val (.int p4), .val (.int p5), .val (.int n), .val (.int l1), .val (.int l2), .val (.int l3), .val (.int k), .val (.int col), .val (.ref b), .val (.int pos), .unset, .unset] [])) st31 ?_
      have N31 := Fr.snoc X31 Nf29 gb
      rw [show (pos).toNatClampNeg = (own_T ds) from (hpos).nat] at W31
      have B31 := own_B.set Ar30 Sz30 Hs30 W31
      have O31 := Oq.wr W31 gb
      have q0 : 0 < kN := (own_I0.lt hk).mp hc114_28
      have L1 : own_L (own_up f (own_T ds) (nar .byte c29)) 0 ds := own_L.congr ds 0 (fun i hi => own_up_ne (by omega)) hL
      have b1 : ∀ t, t < min kN 1 → own_up f (own_T ds) (nar .byte c29) (own_T ds + t) = 32 ∨ own_up f (own_T ds) (nar .byte c29) (own_T ds + t) = 9 := by
        intro t ht
        by_cases e : t = 0
        · rw [own_up_eq (by omega)]; exact hc29
        · rw [own_up_ne (by omega)]; exact absurd ht (by omega)
      exact seg127 _ _ _ n l1 l2 l3 k col nN a1 a2 a3 kN cN b _ _ ds X31 e31 N31 O31 hn hl1 hl2 hl3 hk hcol m0 m1 m2 m3 mk mc gb hpos B31 L1 hT hlen b1
    · refine Goes.via (S' := Tq.setTop (mkF m 127 #[.val (.int p1), .val (.int p2), .val (.int p3), .val (.int p4), .val (.int p5), .val (.int n), .val (.int l1), .val (.int l2), .val (.int l3), .val (.int k), .val (.int col), .val (.ref b), .val (.int pos), .unset, .unset] [])) (fun tz kz => ?_) ?_
      · show Steps p.tables e below (Tq.setTop (mkF m 114 #[.val (.int p1), .val (.int p2), .val (.int p3), .val (.int p4), .val (.int p5), .val (.int n), .val (.int l1), .val (.int l2), .val (.int l3), .val (.int k), .val (.int col), .val (.ref b), .val (.int pos), .unset, .unset] [(.int k)])) _
        refine XS.ifYes XTq.here hx rfl (pc0 := 114) (pc' := 127) rfl (hb hby at_114) rfl ((if0 _ _).trans (flt hc114_28).2.2.2) (by decide) (by decide) ?_
        exact kz
      have q0 : ¬ 0 < kN := fun y => hc114_28 ((own_I0.lt hk).mpr y)
      exact seg127 _ _ _ n l1 l2 l3 k col nN a1 a2 a3 kN cN b _ f ds XTq eTq Nq Oq hn hl1 hl2 hl3 hk hcol m0 m1 m2 m3 mk mc gb hpos Bq hL hT hlen (fun t ht => absurd ht (by omega))
  have seg94 : ∀ (Tq : State) (hq : Heap) (Lq : List Loc) (n l1 l2 l3 k col : Int32) (nN a1 a2 a3 kN cN : Nat) (b : Addr) (pos : Int32) (f : Nat → Int32) (ds : List Nat), (Stand p l e room_1 s m #[(.int p1), (.int p2), (.int p3), (.int p4), (.int p5)] below meth c Tq Lq 1 20) → (Tq.heap = hq) → (Fr n0 Lq) → (Old Z n0 hq) → (own_I n nN) → (own_I l1 a1) → (own_I l2 a2) → (own_I l3 a3) → (own_I k kN) → (own_I col (cN + 1)) → (nN ≤ 3) → (a1 ≤ 3) → (a2 ≤ 3) → (a3 ≤ 3) → (kN ≤ 3) → (cN ≤ kN) → (n0 ≤ b) → (own_I pos (own_T ds)) → (own_B Z hq b f) → (own_L f 0 ds) → (own_T ds = (if 0 < nN then a1 + 1 else 0) + (if 1 < nN then a2 + 1 else 0)) → (ds.length = min nN 2) → Goes p e below (FinW s (Q_rm0 Z p1 p2 p3 p4 p5 bK h0 n0) room_1.cells room_1.slots) (Tq.setTop (mkF m 94 #[.val (.int p1), .val (.int p2), .val (.int p3), .val (.int p4), .val (.int p5), .val (.int n), .val (.int l1), .val (.int l2), .val (.int l3), .val (.int k), .val (.int col), .val (.ref b), .val (.int pos), .unset, .unset] [])) := by
    intro Tq hq Lq n l1 l2 l3 k col nN a1 a2 a3 kN cN b pos f ds XTq eTq Nq Oq hn hl1 hl2 hl3 hk hcol m0 m1 m2 m3 mk mc gb hpos Bq hL hT hlen
    have hT8 : own_T ds ≤ 8 := by rw [hT]; have w1 := own_w (P := 0 < nN) m1; have w2 := own_w (P := 1 < nN) m2; have w3 := own_w (P := 2 < nN) m3; omega
    refine Goes.via (S' := Tq.setTop (mkF m 97 #[.val (.int p1), .val (.int p2), .val (.int p3), .val (.int p4), .val (.int p5), .val (.int n), .val (.int l1), .val (.int l2), .val (.int l3), .val (.int k), .val (.int col), .val (.ref b), .val (.int pos), .unset, .unset] [(.int (2 : Int32)), (.int n)])) (fun tz kz => ?_) ?_
    · show Steps p.tables e below (Tq.setTop (mkF m 94 #[.val (.int p1), .val (.int p2), .val (.int p3), .val (.int p4), .val (.int p5), .val (.int n), .val (.int l1), .val (.int l2), .val (.int l3), .val (.int k), .val (.int col), .val (.ref b), .val (.int pos), .unset, .unset] [])) _
      refine XS.iload XTq.here hx rfl (hb hby at_94) rfl ?_
      show Steps p.tables e below (Tq.setTop (mkF m 96 #[.val (.int p1), .val (.int p2), .val (.int p3), .val (.int p4), .val (.int p5), .val (.int n), .val (.int l1), .val (.int l2), .val (.int l3), .val (.int k), .val (.int col), .val (.ref b), .val (.int pos), .unset, .unset] [(.int n)])) _
      refine XS.iconst XTq.here hx rfl (hb hby at_96) ?_
      exact kz
    by_cases hc97_32 : (2 : Int32) < n
    · refine Goes.via (S' := Tq.setTop (mkF m 107 #[.val (.int p1), .val (.int p2), .val (.int p3), .val (.int p4), .val (.int p5), .val (.int n), .val (.int l1), .val (.int l2), .val (.int l3), .val (.int k), .val (.int col), .val (.ref b), .val (.int pos), .unset, .unset] [(.int p4), (.int l3), (.int pos), (.ref b)])) (fun tz kz => ?_) ?_
      · show Steps p.tables e below (Tq.setTop (mkF m 97 #[.val (.int p1), .val (.int p2), .val (.int p3), .val (.int p4), .val (.int p5), .val (.int n), .val (.int l1), .val (.int l2), .val (.int l3), .val (.int k), .val (.int col), .val (.ref b), .val (.int pos), .unset, .unset] [(.int (2 : Int32)), (.int n)])) _
        refine XS.icmpNo XTq.here hx rfl (hb hby at_97) rfl (tlt hc97_32).2.2.2 ?_
        show Steps p.tables e below (Tq.setTop (mkF m 100 #[.val (.int p1), .val (.int p2), .val (.int p3), .val (.int p4), .val (.int p5), .val (.int n), .val (.int l1), .val (.int l2), .val (.int l3), .val (.int k), .val (.int col), .val (.ref b), .val (.int pos), .unset, .unset] [])) _
        refine XS.aload XTq.here hx rfl (hb hby at_100) rfl rfl ?_
        show Steps p.tables e below (Tq.setTop (mkF m 102 #[.val (.int p1), .val (.int p2), .val (.int p3), .val (.int p4), .val (.int p5), .val (.int n), .val (.int l1), .val (.int l2), .val (.int l3), .val (.int k), .val (.int col), .val (.ref b), .val (.int pos), .unset, .unset] [(.ref b)])) _
        refine XS.iload XTq.here hx rfl (hb hby at_102) rfl ?_
        show Steps p.tables e below (Tq.setTop (mkF m 104 #[.val (.int p1), .val (.int p2), .val (.int p3), .val (.int p4), .val (.int p5), .val (.int n), .val (.int l1), .val (.int l2), .val (.int l3), .val (.int k), .val (.int col), .val (.ref b), .val (.int pos), .unset, .unset] [(.int pos), (.ref b)])) _
        refine XS.iload XTq.here hx rfl (hb hby at_104) rfl ?_
        show Steps p.tables e below (Tq.setTop (mkF m 106 #[.val (.int p1), .val (.int p2), .val (.int p3), .val (.int p4), .val (.int p5), .val (.int n), .val (.int l1), .val (.int l2), .val (.int l3), .val (.int k), .val (.int col), .val (.ref b), .val (.int pos), .unset, .unset] [(.int l3), (.int pos), (.ref b)])) _
        refine XS.iloadN XTq.here hx rfl (hb hby at_106) rfl ?_
        exact kz
      obtain ⟨_, _, ⟨T33, L33, k33, n33⟩, -, X33, ⟨Lc33, hQ33, l33, y33, z33⟩, st33⟩ := Jvm.LawKit.callS XTq hx (y := (⟨"com/example/loopwright/loopwright/AnnotateCommandLoopLineStartPinLaw", "line", "([BIII)I"⟩ : MethodName)) hown (mvT hZ (hw _ (List.mem_of_getElem? (i := 48) rfl))) (mvT hZ (hw _ (List.mem_of_getElem? (i := 49) rfl))) (mvT hZ (hw _ (List.mem_of_getElem? (i := 50) rfl))) (mvT hZ (hw _ (List.mem_of_getElem? (i := 51) rfl))) (by decide) (backOf (W := 0) (rm7 l Z a0 hw [] b pos l3 p4 f (own_T ds) a3 hq n0 (Oq.1 ▸ Oq.2.1) hl3 m3 hpos (by omega) Bq gb) hZ (hw _ (List.mem_of_getElem? (i := 51) rfl)) (hw _ (List.mem_of_getElem? (i := 50) rfl)) (by decide) (by decide)) (g := (mkF m 107 #[.val (.int p1), .val (.int p2), .val (.int p3), .val (.int p4), .val (.int p5), .val (.int n), .val (.int l1), .val (.int l2), .val (.int l3), .val (.int k), .val (.int col), .val (.ref b), .val (.int pos), .unset, .unset] [(.int p4), (.int l3), (.int pos), (.ref b)])) rfl (by rw [hml]; rfl) (argsL := [(.ref b), (.int pos), (.int l3), (.int p4)]) (rest := []) (lenOf pd_5 rfl) rfl (by show 2 * 0 + _ ≤ _; exact Nat.le_of_eq rfl) (hb hby at_107) (fun _ _ => ⟨rfl, eTq, (by decide : 1 + 0 ≤ _), (by decide : 20 + 0 ≤ _)⟩)
      dsimp only [Pt.U, Pt.locs, Pt.cells, Pt.slots] at X33 l33 y33 z33 st33 hQ33
      subst l33 y33 z33
      obtain ⟨rfl, N33, K33, f33, B33, fa33, fb33⟩ := hQ33
      have Nf33 := Fr.app Nq N33
      refine Goes.via (S' := T33.setTop (mkF m 110 #[.val (.int p1), .val (.int p2), .val (.int p3), .val (.int p4), .val (.int p5), .val (.int n), .val (.int l1), .val (.int l2), .val (.int l3), .val (.int k), .val (.int col), .val (.ref b), .val (.int pos), .unset, .unset] [(.int ((pos + l3) + (1 : Int32)))])) (st33) ?_
      have O33 := Oq.keep K33 (allS gb all0)
      refine Goes.via (S' := T33.setTop (mkF m 112 #[.val (.int p1), .val (.int p2), .val (.int p3), .val (.int p4), .val (.int p5), .val (.int n), .val (.int l1), .val (.int l2), .val (.int l3), .val (.int k), .val (.int col), .val (.ref b), .val (.int ((pos + l3) + (1 : Int32))), .unset, .unset] [])) (fun tz kz => ?_) ?_
      · show Steps p.tables e below (T33.setTop (mkF m 110 #[.val (.int p1), .val (.int p2), .val (.int p3), .val (.int p4), .val (.int p5), .val (.int n), .val (.int l1), .val (.int l2), .val (.int l3), .val (.int k), .val (.int col), .val (.ref b), .val (.int pos), .unset, .unset] [(.int ((pos + l3) + (1 : Int32)))])) _
        refine XS.istore X33.here hx rfl (hb hby at_110) rfl (l' := #[.val (.int p1), .val (.int p2), .val (.int p3), .val (.int p4), .val (.int p5), .val (.int n), .val (.int l1), .val (.int l2), .val (.int l3), .val (.int k), .val (.int col), .val (.ref b), .val (.int ((pos + l3) + (1 : Int32))), .unset, .unset]) rfl ?_
        exact kz
      have q2 : 2 < nN := (own_I2.lt hn).mp hc97_32
      have L1 : own_L f33 0 (ds ++ [a3]) := own_L.app ds 0 (own_L.congr ds 0 (fun i hi => fa33 i (by omega)) hL) (by rw [Nat.zero_add]; exact fb33)
      exact seg112 _ _ _ n l1 l2 l3 k col nN a1 a2 a3 kN cN b _ f33 (ds ++ [a3]) X33 rfl Nf33 O33 hn hl1 hl2 hl3 hk hcol m0 m1 m2 m3 mk mc gb (by rw [own_T_app]; exact ((hpos.add hl3 (by omega)).add own_I1 (by omega))) B33 L1 (by rw [own_T_app, hT, if_pos q2]) (by rw [List.length_append, hlen]; simp; omega)
    · refine Goes.via (S' := Tq.setTop (mkF m 112 #[.val (.int p1), .val (.int p2), .val (.int p3), .val (.int p4), .val (.int p5), .val (.int n), .val (.int l1), .val (.int l2), .val (.int l3), .val (.int k), .val (.int col), .val (.ref b), .val (.int pos), .unset, .unset] [])) (fun tz kz => ?_) ?_
      · show Steps p.tables e below (Tq.setTop (mkF m 97 #[.val (.int p1), .val (.int p2), .val (.int p3), .val (.int p4), .val (.int p5), .val (.int n), .val (.int l1), .val (.int l2), .val (.int l3), .val (.int k), .val (.int col), .val (.ref b), .val (.int pos), .unset, .unset] [(.int (2 : Int32)), (.int n)])) _
        refine XS.icmpYes XTq.here hx rfl (pc0 := 97) (pc' := 112) rfl (hb hby at_97) rfl (flt hc97_32).2.2.2 (by decide) (by decide) ?_
        exact kz
      have q2 : ¬ 2 < nN := fun y => hc97_32 ((own_I2.lt hn).mpr y)
      exact seg112 _ _ _ n l1 l2 l3 k col nN a1 a2 a3 kN cN b _ f ds XTq eTq Nq Oq hn hl1 hl2 hl3 hk hcol m0 m1 m2 m3 mk mc gb hpos Bq hL (by rw [hT, if_neg q2]; omega) (by rw [hlen]; omega)
  have seg76 : ∀ (Tq : State) (hq : Heap) (Lq : List Loc) (n l1 l2 l3 k col : Int32) (nN a1 a2 a3 kN cN : Nat) (b : Addr) (pos : Int32) (f : Nat → Int32) (ds : List Nat), (Stand p l e room_1 s m #[(.int p1), (.int p2), (.int p3), (.int p4), (.int p5)] below meth c Tq Lq 1 20) → (Tq.heap = hq) → (Fr n0 Lq) → (Old Z n0 hq) → (own_I n nN) → (own_I l1 a1) → (own_I l2 a2) → (own_I l3 a3) → (own_I k kN) → (own_I col (cN + 1)) → (nN ≤ 3) → (a1 ≤ 3) → (a2 ≤ 3) → (a3 ≤ 3) → (kN ≤ 3) → (cN ≤ kN) → (n0 ≤ b) → (own_I pos (own_T ds)) → (own_B Z hq b f) → (own_L f 0 ds) → (own_T ds = (if 0 < nN then a1 + 1 else 0)) → (ds.length = min nN 1) → Goes p e below (FinW s (Q_rm0 Z p1 p2 p3 p4 p5 bK h0 n0) room_1.cells room_1.slots) (Tq.setTop (mkF m 76 #[.val (.int p1), .val (.int p2), .val (.int p3), .val (.int p4), .val (.int p5), .val (.int n), .val (.int l1), .val (.int l2), .val (.int l3), .val (.int k), .val (.int col), .val (.ref b), .val (.int pos), .unset, .unset] [])) := by
    intro Tq hq Lq n l1 l2 l3 k col nN a1 a2 a3 kN cN b pos f ds XTq eTq Nq Oq hn hl1 hl2 hl3 hk hcol m0 m1 m2 m3 mk mc gb hpos Bq hL hT hlen
    have hT8 : own_T ds ≤ 4 := by rw [hT]; have w1 := own_w (P := 0 < nN) m1; have w2 := own_w (P := 1 < nN) m2; have w3 := own_w (P := 2 < nN) m3; omega
    refine Goes.via (S' := Tq.setTop (mkF m 79 #[.val (.int p1), .val (.int p2), .val (.int p3), .val (.int p4), .val (.int p5), .val (.int n), .val (.int l1), .val (.int l2), .val (.int l3), .val (.int k), .val (.int col), .val (.ref b), .val (.int pos), .unset, .unset] [(.int (1 : Int32)), (.int n)])) (fun tz kz => ?_) ?_
    · show Steps p.tables e below (Tq.setTop (mkF m 76 #[.val (.int p1), .val (.int p2), .val (.int p3), .val (.int p4), .val (.int p5), .val (.int n), .val (.int l1), .val (.int l2), .val (.int l3), .val (.int k), .val (.int col), .val (.ref b), .val (.int pos), .unset, .unset] [])) _
      refine XS.iload XTq.here hx rfl (hb hby at_76) rfl ?_
      show Steps p.tables e below (Tq.setTop (mkF m 78 #[.val (.int p1), .val (.int p2), .val (.int p3), .val (.int p4), .val (.int p5), .val (.int n), .val (.int l1), .val (.int l2), .val (.int l3), .val (.int k), .val (.int col), .val (.ref b), .val (.int pos), .unset, .unset] [(.int n)])) _
      refine XS.iconst XTq.here hx rfl (hb hby at_78) ?_
      exact kz
    by_cases hc79_34 : (1 : Int32) < n
    · refine Goes.via (S' := Tq.setTop (mkF m 89 #[.val (.int p1), .val (.int p2), .val (.int p3), .val (.int p4), .val (.int p5), .val (.int n), .val (.int l1), .val (.int l2), .val (.int l3), .val (.int k), .val (.int col), .val (.ref b), .val (.int pos), .unset, .unset] [(.int p3), (.int l2), (.int pos), (.ref b)])) (fun tz kz => ?_) ?_
      · show Steps p.tables e below (Tq.setTop (mkF m 79 #[.val (.int p1), .val (.int p2), .val (.int p3), .val (.int p4), .val (.int p5), .val (.int n), .val (.int l1), .val (.int l2), .val (.int l3), .val (.int k), .val (.int col), .val (.ref b), .val (.int pos), .unset, .unset] [(.int (1 : Int32)), (.int n)])) _
        refine XS.icmpNo XTq.here hx rfl (hb hby at_79) rfl (tlt hc79_34).2.2.2 ?_
        show Steps p.tables e below (Tq.setTop (mkF m 82 #[.val (.int p1), .val (.int p2), .val (.int p3), .val (.int p4), .val (.int p5), .val (.int n), .val (.int l1), .val (.int l2), .val (.int l3), .val (.int k), .val (.int col), .val (.ref b), .val (.int pos), .unset, .unset] [])) _
        refine XS.aload XTq.here hx rfl (hb hby at_82) rfl rfl ?_
        show Steps p.tables e below (Tq.setTop (mkF m 84 #[.val (.int p1), .val (.int p2), .val (.int p3), .val (.int p4), .val (.int p5), .val (.int n), .val (.int l1), .val (.int l2), .val (.int l3), .val (.int k), .val (.int col), .val (.ref b), .val (.int pos), .unset, .unset] [(.ref b)])) _
        refine XS.iload XTq.here hx rfl (hb hby at_84) rfl ?_
        show Steps p.tables e below (Tq.setTop (mkF m 86 #[.val (.int p1), .val (.int p2), .val (.int p3), .val (.int p4), .val (.int p5), .val (.int n), .val (.int l1), .val (.int l2), .val (.int l3), .val (.int k), .val (.int col), .val (.ref b), .val (.int pos), .unset, .unset] [(.int pos), (.ref b)])) _
        refine XS.iload XTq.here hx rfl (hb hby at_86) rfl ?_
        show Steps p.tables e below (Tq.setTop (mkF m 88 #[.val (.int p1), .val (.int p2), .val (.int p3), .val (.int p4), .val (.int p5), .val (.int n), .val (.int l1), .val (.int l2), .val (.int l3), .val (.int k), .val (.int col), .val (.ref b), .val (.int pos), .unset, .unset] [(.int l2), (.int pos), (.ref b)])) _
        refine XS.iloadN XTq.here hx rfl (hb hby at_88) rfl ?_
        exact kz
      obtain ⟨_, _, ⟨T35, L35, k35, n35⟩, -, X35, ⟨Lc35, hQ35, l35, y35, z35⟩, st35⟩ := Jvm.LawKit.callS XTq hx (y := (⟨"com/example/loopwright/loopwright/AnnotateCommandLoopLineStartPinLaw", "line", "([BIII)I"⟩ : MethodName)) hown (mvT hZ (hw _ (List.mem_of_getElem? (i := 48) rfl))) (mvT hZ (hw _ (List.mem_of_getElem? (i := 49) rfl))) (mvT hZ (hw _ (List.mem_of_getElem? (i := 50) rfl))) (mvT hZ (hw _ (List.mem_of_getElem? (i := 51) rfl))) (by decide) (backOf (W := 0) (rm7 l Z a0 hw [] b pos l2 p3 f (own_T ds) a2 hq n0 (Oq.1 ▸ Oq.2.1) hl2 m2 hpos (by omega) Bq gb) hZ (hw _ (List.mem_of_getElem? (i := 51) rfl)) (hw _ (List.mem_of_getElem? (i := 50) rfl)) (by decide) (by decide)) (g := (mkF m 89 #[.val (.int p1), .val (.int p2), .val (.int p3), .val (.int p4), .val (.int p5), .val (.int n), .val (.int l1), .val (.int l2), .val (.int l3), .val (.int k), .val (.int col), .val (.ref b), .val (.int pos), .unset, .unset] [(.int p3), (.int l2), (.int pos), (.ref b)])) rfl (by rw [hml]; rfl) (argsL := [(.ref b), (.int pos), (.int l2), (.int p3)]) (rest := []) (lenOf pd_5 rfl) rfl (by show 2 * 0 + _ ≤ _; exact Nat.le_of_eq rfl) (hb hby at_89) (fun _ _ => ⟨rfl, eTq, (by decide : 1 + 0 ≤ _), (by decide : 20 + 0 ≤ _)⟩)
      dsimp only [Pt.U, Pt.locs, Pt.cells, Pt.slots] at X35 l35 y35 z35 st35 hQ35
      subst l35 y35 z35
      obtain ⟨rfl, N35, K35, f35, B35, fa35, fb35⟩ := hQ35
      have Nf35 := Fr.app Nq N35
      refine Goes.via (S' := T35.setTop (mkF m 92 #[.val (.int p1), .val (.int p2), .val (.int p3), .val (.int p4), .val (.int p5), .val (.int n), .val (.int l1), .val (.int l2), .val (.int l3), .val (.int k), .val (.int col), .val (.ref b), .val (.int pos), .unset, .unset] [(.int ((pos + l2) + (1 : Int32)))])) (st35) ?_
      have O35 := Oq.keep K35 (allS gb all0)
      refine Goes.via (S' := T35.setTop (mkF m 94 #[.val (.int p1), .val (.int p2), .val (.int p3), .val (.int p4), .val (.int p5), .val (.int n), .val (.int l1), .val (.int l2), .val (.int l3), .val (.int k), .val (.int col), .val (.ref b), .val (.int ((pos + l2) + (1 : Int32))), .unset, .unset] [])) (fun tz kz => ?_) ?_
      · show Steps p.tables e below (T35.setTop (mkF m 92 #[.val (.int p1), .val (.int p2), .val (.int p3), .val (.int p4), .val (.int p5), .val (.int n), .val (.int l1), .val (.int l2), .val (.int l3), .val (.int k), .val (.int col), .val (.ref b), .val (.int pos), .unset, .unset] [(.int ((pos + l2) + (1 : Int32)))])) _
        refine XS.istore X35.here hx rfl (hb hby at_92) rfl (l' := #[.val (.int p1), .val (.int p2), .val (.int p3), .val (.int p4), .val (.int p5), .val (.int n), .val (.int l1), .val (.int l2), .val (.int l3), .val (.int k), .val (.int col), .val (.ref b), .val (.int ((pos + l2) + (1 : Int32))), .unset, .unset]) rfl ?_
        exact kz
      have q1 : 1 < nN := (own_I1.lt hn).mp hc79_34
      have L1 : own_L f35 0 (ds ++ [a2]) := own_L.app ds 0 (own_L.congr ds 0 (fun i hi => fa35 i (by omega)) hL) (by rw [Nat.zero_add]; exact fb35)
      exact seg94 _ _ _ n l1 l2 l3 k col nN a1 a2 a3 kN cN b _ f35 (ds ++ [a2]) X35 rfl Nf35 O35 hn hl1 hl2 hl3 hk hcol m0 m1 m2 m3 mk mc gb (by rw [own_T_app]; exact ((hpos.add hl2 (by omega)).add own_I1 (by omega))) B35 L1 (by rw [own_T_app, hT, if_pos q1]) (by rw [List.length_append, hlen]; simp; omega)
    · refine Goes.via (S' := Tq.setTop (mkF m 94 #[.val (.int p1), .val (.int p2), .val (.int p3), .val (.int p4), .val (.int p5), .val (.int n), .val (.int l1), .val (.int l2), .val (.int l3), .val (.int k), .val (.int col), .val (.ref b), .val (.int pos), .unset, .unset] [])) (fun tz kz => ?_) ?_
      · show Steps p.tables e below (Tq.setTop (mkF m 79 #[.val (.int p1), .val (.int p2), .val (.int p3), .val (.int p4), .val (.int p5), .val (.int n), .val (.int l1), .val (.int l2), .val (.int l3), .val (.int k), .val (.int col), .val (.ref b), .val (.int pos), .unset, .unset] [(.int (1 : Int32)), (.int n)])) _
        refine XS.icmpYes XTq.here hx rfl (pc0 := 79) (pc' := 94) rfl (hb hby at_79) rfl (flt hc79_34).2.2.2 (by decide) (by decide) ?_
        exact kz
      have q1 : ¬ 1 < nN := fun y => hc79_34 ((own_I1.lt hn).mpr y)
      exact seg94 _ _ _ n l1 l2 l3 k col nN a1 a2 a3 kN cN b _ f ds XTq eTq Nq Oq hn hl1 hl2 hl3 hk hcol m0 m1 m2 m3 mk mc gb hpos Bq hL (by rw [hT, if_neg q1]; omega) (by rw [hlen]; omega)
  show Goes p e below (FinW s (Q_rm0 Z p1 p2 p3 p4 p5 bK h0 n0) room_1.cells room_1.slots) _
  refine Goes.via (S' := s₁.setTop (mkF m 0 #[.val (.int p1), .val (.int p2), .val (.int p3), .val (.int p4), .val (.int p5), .unset, .unset, .unset, .unset, .unset, .unset, .unset, .unset, .unset, .unset] [])) (fun tz kz => castTop (ef_0 m p1 p2 p3 p4 p5 ) kz) ?_
  refine Goes.via (S' := s₁.setTop (mkF m 45 #[.val (.int p1), .val (.int p2), .val (.int p3), .val (.int p4), .val (.int p5), .val (.int (p1 &&& (3 : Int32))), .val (.int (((p1.toUInt32 >>> ((2 : Int32) &&& 31).toUInt32).toInt32) &&& (3 : Int32))), .val (.int (((p1.toUInt32 >>> ((4 : Int32) &&& 31).toUInt32).toInt32) &&& (3 : Int32))), .val (.int (((p1.toUInt32 >>> ((6 : Int32) &&& 31).toUInt32).toInt32) &&& (3 : Int32))), .val (.int (((p1.toUInt32 >>> ((8 : Int32) &&& 31).toUInt32).toInt32) &&& (3 : Int32))), .unset, .unset, .unset, .unset, .unset] [(.int ((((p1.toUInt32 >>> ((8 : Int32) &&& 31).toUInt32).toInt32) &&& (3 : Int32)) + (1 : Int32))), (.int (((p1.toUInt32 >>> ((10 : Int32) &&& 31).toUInt32).toInt32) &&& (3 : Int32)))])) (fun tz kz => ?_) ?_
  · show Steps p.tables e below (s₁.setTop (mkF m 0 #[.val (.int p1), .val (.int p2), .val (.int p3), .val (.int p4), .val (.int p5), .unset, .unset, .unset, .unset, .unset, .unset, .unset, .unset, .unset, .unset] [])) _
    refine XS.iloadN X0.here hx rfl (hb hby at_0) rfl ?_
    show Steps p.tables e below (s₁.setTop (mkF m 1 #[.val (.int p1), .val (.int p2), .val (.int p3), .val (.int p4), .val (.int p5), .unset, .unset, .unset, .unset, .unset, .unset, .unset, .unset, .unset, .unset] [(.int p1)])) _
    refine XS.iconst X0.here hx rfl (hb hby at_1) ?_
    show Steps p.tables e below (s₁.setTop (mkF m 2 #[.val (.int p1), .val (.int p2), .val (.int p3), .val (.int p4), .val (.int p5), .unset, .unset, .unset, .unset, .unset, .unset, .unset, .unset, .unset, .unset] [(.int (3 : Int32)), (.int p1)])) _
    refine XS.iand X0.here hx rfl (hb hby at_2) rfl ?_
    show Steps p.tables e below (s₁.setTop (mkF m 3 #[.val (.int p1), .val (.int p2), .val (.int p3), .val (.int p4), .val (.int p5), .unset, .unset, .unset, .unset, .unset, .unset, .unset, .unset, .unset, .unset] [(.int (p1 &&& (3 : Int32)))])) _
    refine XS.istore X0.here hx rfl (hb hby at_3) rfl (l' := #[.val (.int p1), .val (.int p2), .val (.int p3), .val (.int p4), .val (.int p5), .val (.int (p1 &&& (3 : Int32))), .unset, .unset, .unset, .unset, .unset, .unset, .unset, .unset, .unset]) rfl ?_
    show Steps p.tables e below (s₁.setTop (mkF m 5 #[.val (.int p1), .val (.int p2), .val (.int p3), .val (.int p4), .val (.int p5), .val (.int (p1 &&& (3 : Int32))), .unset, .unset, .unset, .unset, .unset, .unset, .unset, .unset, .unset] [])) _
    refine XS.iloadN X0.here hx rfl (hb hby at_5) rfl ?_
    show Steps p.tables e below (s₁.setTop (mkF m 6 #[.val (.int p1), .val (.int p2), .val (.int p3), .val (.int p4), .val (.int p5), .val (.int (p1 &&& (3 : Int32))), .unset, .unset, .unset, .unset, .unset, .unset, .unset, .unset, .unset] [(.int p1)])) _
    refine XS.iconst X0.here hx rfl (hb hby at_6) ?_
    show Steps p.tables e below (s₁.setTop (mkF m 7 #[.val (.int p1), .val (.int p2), .val (.int p3), .val (.int p4), .val (.int p5), .val (.int (p1 &&& (3 : Int32))), .unset, .unset, .unset, .unset, .unset, .unset, .unset, .unset, .unset] [(.int (2 : Int32)), (.int p1)])) _
    refine XS.iushr X0.here hx rfl (hb hby at_7) rfl ?_
    show Steps p.tables e below (s₁.setTop (mkF m 8 #[.val (.int p1), .val (.int p2), .val (.int p3), .val (.int p4), .val (.int p5), .val (.int (p1 &&& (3 : Int32))), .unset, .unset, .unset, .unset, .unset, .unset, .unset, .unset, .unset] [(.int ((p1.toUInt32 >>> ((2 : Int32) &&& 31).toUInt32).toInt32))])) _
    refine XS.iconst X0.here hx rfl (hb hby at_8) ?_
    show Steps p.tables e below (s₁.setTop (mkF m 9 #[.val (.int p1), .val (.int p2), .val (.int p3), .val (.int p4), .val (.int p5), .val (.int (p1 &&& (3 : Int32))), .unset, .unset, .unset, .unset, .unset, .unset, .unset, .unset, .unset] [(.int (3 : Int32)), (.int ((p1.toUInt32 >>> ((2 : Int32) &&& 31).toUInt32).toInt32))])) _
    refine XS.iand X0.here hx rfl (hb hby at_9) rfl ?_
    show Steps p.tables e below (s₁.setTop (mkF m 10 #[.val (.int p1), .val (.int p2), .val (.int p3), .val (.int p4), .val (.int p5), .val (.int (p1 &&& (3 : Int32))), .unset, .unset, .unset, .unset, .unset, .unset, .unset, .unset, .unset] [(.int (((p1.toUInt32 >>> ((2 : Int32) &&& 31).toUInt32).toInt32) &&& (3 : Int32)))])) _
    refine XS.istore X0.here hx rfl (hb hby at_10) rfl (l' := #[.val (.int p1), .val (.int p2), .val (.int p3), .val (.int p4), .val (.int p5), .val (.int (p1 &&& (3 : Int32))), .val (.int (((p1.toUInt32 >>> ((2 : Int32) &&& 31).toUInt32).toInt32) &&& (3 : Int32))), .unset, .unset, .unset, .unset, .unset, .unset, .unset, .unset]) rfl ?_
    show Steps p.tables e below (s₁.setTop (mkF m 12 #[.val (.int p1), .val (.int p2), .val (.int p3), .val (.int p4), .val (.int p5), .val (.int (p1 &&& (3 : Int32))), .val (.int (((p1.toUInt32 >>> ((2 : Int32) &&& 31).toUInt32).toInt32) &&& (3 : Int32))), .unset, .unset, .unset, .unset, .unset, .unset, .unset, .unset] [])) _
    refine XS.iloadN X0.here hx rfl (hb hby at_12) rfl ?_
    show Steps p.tables e below (s₁.setTop (mkF m 13 #[.val (.int p1), .val (.int p2), .val (.int p3), .val (.int p4), .val (.int p5), .val (.int (p1 &&& (3 : Int32))), .val (.int (((p1.toUInt32 >>> ((2 : Int32) &&& 31).toUInt32).toInt32) &&& (3 : Int32))), .unset, .unset, .unset, .unset, .unset, .unset, .unset, .unset] [(.int p1)])) _
    refine XS.iconst X0.here hx rfl (hb hby at_13) ?_
    show Steps p.tables e below (s₁.setTop (mkF m 14 #[.val (.int p1), .val (.int p2), .val (.int p3), .val (.int p4), .val (.int p5), .val (.int (p1 &&& (3 : Int32))), .val (.int (((p1.toUInt32 >>> ((2 : Int32) &&& 31).toUInt32).toInt32) &&& (3 : Int32))), .unset, .unset, .unset, .unset, .unset, .unset, .unset, .unset] [(.int (4 : Int32)), (.int p1)])) _
    refine XS.iushr X0.here hx rfl (hb hby at_14) rfl ?_
    show Steps p.tables e below (s₁.setTop (mkF m 15 #[.val (.int p1), .val (.int p2), .val (.int p3), .val (.int p4), .val (.int p5), .val (.int (p1 &&& (3 : Int32))), .val (.int (((p1.toUInt32 >>> ((2 : Int32) &&& 31).toUInt32).toInt32) &&& (3 : Int32))), .unset, .unset, .unset, .unset, .unset, .unset, .unset, .unset] [(.int ((p1.toUInt32 >>> ((4 : Int32) &&& 31).toUInt32).toInt32))])) _
    refine XS.iconst X0.here hx rfl (hb hby at_15) ?_
    show Steps p.tables e below (s₁.setTop (mkF m 16 #[.val (.int p1), .val (.int p2), .val (.int p3), .val (.int p4), .val (.int p5), .val (.int (p1 &&& (3 : Int32))), .val (.int (((p1.toUInt32 >>> ((2 : Int32) &&& 31).toUInt32).toInt32) &&& (3 : Int32))), .unset, .unset, .unset, .unset, .unset, .unset, .unset, .unset] [(.int (3 : Int32)), (.int ((p1.toUInt32 >>> ((4 : Int32) &&& 31).toUInt32).toInt32))])) _
    refine XS.iand X0.here hx rfl (hb hby at_16) rfl ?_
    show Steps p.tables e below (s₁.setTop (mkF m 17 #[.val (.int p1), .val (.int p2), .val (.int p3), .val (.int p4), .val (.int p5), .val (.int (p1 &&& (3 : Int32))), .val (.int (((p1.toUInt32 >>> ((2 : Int32) &&& 31).toUInt32).toInt32) &&& (3 : Int32))), .unset, .unset, .unset, .unset, .unset, .unset, .unset, .unset] [(.int (((p1.toUInt32 >>> ((4 : Int32) &&& 31).toUInt32).toInt32) &&& (3 : Int32)))])) _
    refine XS.istore X0.here hx rfl (hb hby at_17) rfl (l' := #[.val (.int p1), .val (.int p2), .val (.int p3), .val (.int p4), .val (.int p5), .val (.int (p1 &&& (3 : Int32))), .val (.int (((p1.toUInt32 >>> ((2 : Int32) &&& 31).toUInt32).toInt32) &&& (3 : Int32))), .val (.int (((p1.toUInt32 >>> ((4 : Int32) &&& 31).toUInt32).toInt32) &&& (3 : Int32))), .unset, .unset, .unset, .unset, .unset, .unset, .unset]) rfl ?_
    show Steps p.tables e below (s₁.setTop (mkF m 19 #[.val (.int p1), .val (.int p2), .val (.int p3), .val (.int p4), .val (.int p5), .val (.int (p1 &&& (3 : Int32))), .val (.int (((p1.toUInt32 >>> ((2 : Int32) &&& 31).toUInt32).toInt32) &&& (3 : Int32))), .val (.int (((p1.toUInt32 >>> ((4 : Int32) &&& 31).toUInt32).toInt32) &&& (3 : Int32))), .unset, .unset, .unset, .unset, .unset, .unset, .unset] [])) _
    refine XS.iloadN X0.here hx rfl (hb hby at_19) rfl ?_
    show Steps p.tables e below (s₁.setTop (mkF m 20 #[.val (.int p1), .val (.int p2), .val (.int p3), .val (.int p4), .val (.int p5), .val (.int (p1 &&& (3 : Int32))), .val (.int (((p1.toUInt32 >>> ((2 : Int32) &&& 31).toUInt32).toInt32) &&& (3 : Int32))), .val (.int (((p1.toUInt32 >>> ((4 : Int32) &&& 31).toUInt32).toInt32) &&& (3 : Int32))), .unset, .unset, .unset, .unset, .unset, .unset, .unset] [(.int p1)])) _
    refine XS.bipush X0.here hx rfl (hb hby at_20) ?_
    show Steps p.tables e below (s₁.setTop (mkF m 22 #[.val (.int p1), .val (.int p2), .val (.int p3), .val (.int p4), .val (.int p5), .val (.int (p1 &&& (3 : Int32))), .val (.int (((p1.toUInt32 >>> ((2 : Int32) &&& 31).toUInt32).toInt32) &&& (3 : Int32))), .val (.int (((p1.toUInt32 >>> ((4 : Int32) &&& 31).toUInt32).toInt32) &&& (3 : Int32))), .unset, .unset, .unset, .unset, .unset, .unset, .unset] [(.int (6 : Int32)), (.int p1)])) _
    refine XS.iushr X0.here hx rfl (hb hby at_22) rfl ?_
    show Steps p.tables e below (s₁.setTop (mkF m 23 #[.val (.int p1), .val (.int p2), .val (.int p3), .val (.int p4), .val (.int p5), .val (.int (p1 &&& (3 : Int32))), .val (.int (((p1.toUInt32 >>> ((2 : Int32) &&& 31).toUInt32).toInt32) &&& (3 : Int32))), .val (.int (((p1.toUInt32 >>> ((4 : Int32) &&& 31).toUInt32).toInt32) &&& (3 : Int32))), .unset, .unset, .unset, .unset, .unset, .unset, .unset] [(.int ((p1.toUInt32 >>> ((6 : Int32) &&& 31).toUInt32).toInt32))])) _
    refine XS.iconst X0.here hx rfl (hb hby at_23) ?_
    show Steps p.tables e below (s₁.setTop (mkF m 24 #[.val (.int p1), .val (.int p2), .val (.int p3), .val (.int p4), .val (.int p5), .val (.int (p1 &&& (3 : Int32))), .val (.int (((p1.toUInt32 >>> ((2 : Int32) &&& 31).toUInt32).toInt32) &&& (3 : Int32))), .val (.int (((p1.toUInt32 >>> ((4 : Int32) &&& 31).toUInt32).toInt32) &&& (3 : Int32))), .unset, .unset, .unset, .unset, .unset, .unset, .unset] [(.int (3 : Int32)), (.int ((p1.toUInt32 >>> ((6 : Int32) &&& 31).toUInt32).toInt32))])) _
    refine XS.iand X0.here hx rfl (hb hby at_24) rfl ?_
    show Steps p.tables e below (s₁.setTop (mkF m 25 #[.val (.int p1), .val (.int p2), .val (.int p3), .val (.int p4), .val (.int p5), .val (.int (p1 &&& (3 : Int32))), .val (.int (((p1.toUInt32 >>> ((2 : Int32) &&& 31).toUInt32).toInt32) &&& (3 : Int32))), .val (.int (((p1.toUInt32 >>> ((4 : Int32) &&& 31).toUInt32).toInt32) &&& (3 : Int32))), .unset, .unset, .unset, .unset, .unset, .unset, .unset] [(.int (((p1.toUInt32 >>> ((6 : Int32) &&& 31).toUInt32).toInt32) &&& (3 : Int32)))])) _
    refine XS.istore X0.here hx rfl (hb hby at_25) rfl (l' := #[.val (.int p1), .val (.int p2), .val (.int p3), .val (.int p4), .val (.int p5), .val (.int (p1 &&& (3 : Int32))), .val (.int (((p1.toUInt32 >>> ((2 : Int32) &&& 31).toUInt32).toInt32) &&& (3 : Int32))), .val (.int (((p1.toUInt32 >>> ((4 : Int32) &&& 31).toUInt32).toInt32) &&& (3 : Int32))), .val (.int (((p1.toUInt32 >>> ((6 : Int32) &&& 31).toUInt32).toInt32) &&& (3 : Int32))), .unset, .unset, .unset, .unset, .unset, .unset]) rfl ?_
    show Steps p.tables e below (s₁.setTop (mkF m 27 #[.val (.int p1), .val (.int p2), .val (.int p3), .val (.int p4), .val (.int p5), .val (.int (p1 &&& (3 : Int32))), .val (.int (((p1.toUInt32 >>> ((2 : Int32) &&& 31).toUInt32).toInt32) &&& (3 : Int32))), .val (.int (((p1.toUInt32 >>> ((4 : Int32) &&& 31).toUInt32).toInt32) &&& (3 : Int32))), .val (.int (((p1.toUInt32 >>> ((6 : Int32) &&& 31).toUInt32).toInt32) &&& (3 : Int32))), .unset, .unset, .unset, .unset, .unset, .unset] [])) _
    refine XS.iloadN X0.here hx rfl (hb hby at_27) rfl ?_
    show Steps p.tables e below (s₁.setTop (mkF m 28 #[.val (.int p1), .val (.int p2), .val (.int p3), .val (.int p4), .val (.int p5), .val (.int (p1 &&& (3 : Int32))), .val (.int (((p1.toUInt32 >>> ((2 : Int32) &&& 31).toUInt32).toInt32) &&& (3 : Int32))), .val (.int (((p1.toUInt32 >>> ((4 : Int32) &&& 31).toUInt32).toInt32) &&& (3 : Int32))), .val (.int (((p1.toUInt32 >>> ((6 : Int32) &&& 31).toUInt32).toInt32) &&& (3 : Int32))), .unset, .unset, .unset, .unset, .unset, .unset] [(.int p1)])) _
    refine XS.bipush X0.here hx rfl (hb hby at_28) ?_
    show Steps p.tables e below (s₁.setTop (mkF m 30 #[.val (.int p1), .val (.int p2), .val (.int p3), .val (.int p4), .val (.int p5), .val (.int (p1 &&& (3 : Int32))), .val (.int (((p1.toUInt32 >>> ((2 : Int32) &&& 31).toUInt32).toInt32) &&& (3 : Int32))), .val (.int (((p1.toUInt32 >>> ((4 : Int32) &&& 31).toUInt32).toInt32) &&& (3 : Int32))), .val (.int (((p1.toUInt32 >>> ((6 : Int32) &&& 31).toUInt32).toInt32) &&& (3 : Int32))), .unset, .unset, .unset, .unset, .unset, .unset] [(.int (8 : Int32)), (.int p1)])) _
    refine XS.iushr X0.here hx rfl (hb hby at_30) rfl ?_
    show Steps p.tables e below (s₁.setTop (mkF m 31 #[.val (.int p1), .val (.int p2), .val (.int p3), .val (.int p4), .val (.int p5), .val (.int (p1 &&& (3 : Int32))), .val (.int (((p1.toUInt32 >>> ((2 : Int32) &&& 31).toUInt32).toInt32) &&& (3 : Int32))), .val (.int (((p1.toUInt32 >>> ((4 : Int32) &&& 31).toUInt32).toInt32) &&& (3 : Int32))), .val (.int (((p1.toUInt32 >>> ((6 : Int32) &&& 31).toUInt32).toInt32) &&& (3 : Int32))), .unset, .unset, .unset, .unset, .unset, .unset] [(.int ((p1.toUInt32 >>> ((8 : Int32) &&& 31).toUInt32).toInt32))])) _
    refine XS.iconst X0.here hx rfl (hb hby at_31) ?_
    show Steps p.tables e below (s₁.setTop (mkF m 32 #[.val (.int p1), .val (.int p2), .val (.int p3), .val (.int p4), .val (.int p5), .val (.int (p1 &&& (3 : Int32))), .val (.int (((p1.toUInt32 >>> ((2 : Int32) &&& 31).toUInt32).toInt32) &&& (3 : Int32))), .val (.int (((p1.toUInt32 >>> ((4 : Int32) &&& 31).toUInt32).toInt32) &&& (3 : Int32))), .val (.int (((p1.toUInt32 >>> ((6 : Int32) &&& 31).toUInt32).toInt32) &&& (3 : Int32))), .unset, .unset, .unset, .unset, .unset, .unset] [(.int (3 : Int32)), (.int ((p1.toUInt32 >>> ((8 : Int32) &&& 31).toUInt32).toInt32))])) _
    refine XS.iand X0.here hx rfl (hb hby at_32) rfl ?_
    show Steps p.tables e below (s₁.setTop (mkF m 33 #[.val (.int p1), .val (.int p2), .val (.int p3), .val (.int p4), .val (.int p5), .val (.int (p1 &&& (3 : Int32))), .val (.int (((p1.toUInt32 >>> ((2 : Int32) &&& 31).toUInt32).toInt32) &&& (3 : Int32))), .val (.int (((p1.toUInt32 >>> ((4 : Int32) &&& 31).toUInt32).toInt32) &&& (3 : Int32))), .val (.int (((p1.toUInt32 >>> ((6 : Int32) &&& 31).toUInt32).toInt32) &&& (3 : Int32))), .unset, .unset, .unset, .unset, .unset, .unset] [(.int (((p1.toUInt32 >>> ((8 : Int32) &&& 31).toUInt32).toInt32) &&& (3 : Int32)))])) _
    refine XS.istore X0.here hx rfl (hb hby at_33) rfl (l' := #[.val (.int p1), .val (.int p2), .val (.int p3), .val (.int p4), .val (.int p5), .val (.int (p1 &&& (3 : Int32))), .val (.int (((p1.toUInt32 >>> ((2 : Int32) &&& 31).toUInt32).toInt32) &&& (3 : Int32))), .val (.int (((p1.toUInt32 >>> ((4 : Int32) &&& 31).toUInt32).toInt32) &&& (3 : Int32))), .val (.int (((p1.toUInt32 >>> ((6 : Int32) &&& 31).toUInt32).toInt32) &&& (3 : Int32))), .val (.int (((p1.toUInt32 >>> ((8 : Int32) &&& 31).toUInt32).toInt32) &&& (3 : Int32))), .unset, .unset, .unset, .unset, .unset]) rfl ?_
    show Steps p.tables e below (s₁.setTop (mkF m 35 #[.val (.int p1), .val (.int p2), .val (.int p3), .val (.int p4), .val (.int p5), .val (.int (p1 &&& (3 : Int32))), .val (.int (((p1.toUInt32 >>> ((2 : Int32) &&& 31).toUInt32).toInt32) &&& (3 : Int32))), .val (.int (((p1.toUInt32 >>> ((4 : Int32) &&& 31).toUInt32).toInt32) &&& (3 : Int32))), .val (.int (((p1.toUInt32 >>> ((6 : Int32) &&& 31).toUInt32).toInt32) &&& (3 : Int32))), .val (.int (((p1.toUInt32 >>> ((8 : Int32) &&& 31).toUInt32).toInt32) &&& (3 : Int32))), .unset, .unset, .unset, .unset, .unset] [])) _
    refine XS.iloadN X0.here hx rfl (hb hby at_35) rfl ?_
    show Steps p.tables e below (s₁.setTop (mkF m 36 #[.val (.int p1), .val (.int p2), .val (.int p3), .val (.int p4), .val (.int p5), .val (.int (p1 &&& (3 : Int32))), .val (.int (((p1.toUInt32 >>> ((2 : Int32) &&& 31).toUInt32).toInt32) &&& (3 : Int32))), .val (.int (((p1.toUInt32 >>> ((4 : Int32) &&& 31).toUInt32).toInt32) &&& (3 : Int32))), .val (.int (((p1.toUInt32 >>> ((6 : Int32) &&& 31).toUInt32).toInt32) &&& (3 : Int32))), .val (.int (((p1.toUInt32 >>> ((8 : Int32) &&& 31).toUInt32).toInt32) &&& (3 : Int32))), .unset, .unset, .unset, .unset, .unset] [(.int p1)])) _
    refine XS.bipush X0.here hx rfl (hb hby at_36) ?_
    show Steps p.tables e below (s₁.setTop (mkF m 38 #[.val (.int p1), .val (.int p2), .val (.int p3), .val (.int p4), .val (.int p5), .val (.int (p1 &&& (3 : Int32))), .val (.int (((p1.toUInt32 >>> ((2 : Int32) &&& 31).toUInt32).toInt32) &&& (3 : Int32))), .val (.int (((p1.toUInt32 >>> ((4 : Int32) &&& 31).toUInt32).toInt32) &&& (3 : Int32))), .val (.int (((p1.toUInt32 >>> ((6 : Int32) &&& 31).toUInt32).toInt32) &&& (3 : Int32))), .val (.int (((p1.toUInt32 >>> ((8 : Int32) &&& 31).toUInt32).toInt32) &&& (3 : Int32))), .unset, .unset, .unset, .unset, .unset] [(.int (10 : Int32)), (.int p1)])) _
    refine XS.iushr X0.here hx rfl (hb hby at_38) rfl ?_
    show Steps p.tables e below (s₁.setTop (mkF m 39 #[.val (.int p1), .val (.int p2), .val (.int p3), .val (.int p4), .val (.int p5), .val (.int (p1 &&& (3 : Int32))), .val (.int (((p1.toUInt32 >>> ((2 : Int32) &&& 31).toUInt32).toInt32) &&& (3 : Int32))), .val (.int (((p1.toUInt32 >>> ((4 : Int32) &&& 31).toUInt32).toInt32) &&& (3 : Int32))), .val (.int (((p1.toUInt32 >>> ((6 : Int32) &&& 31).toUInt32).toInt32) &&& (3 : Int32))), .val (.int (((p1.toUInt32 >>> ((8 : Int32) &&& 31).toUInt32).toInt32) &&& (3 : Int32))), .unset, .unset, .unset, .unset, .unset] [(.int ((p1.toUInt32 >>> ((10 : Int32) &&& 31).toUInt32).toInt32))])) _
    refine XS.iconst X0.here hx rfl (hb hby at_39) ?_
    show Steps p.tables e below (s₁.setTop (mkF m 40 #[.val (.int p1), .val (.int p2), .val (.int p3), .val (.int p4), .val (.int p5), .val (.int (p1 &&& (3 : Int32))), .val (.int (((p1.toUInt32 >>> ((2 : Int32) &&& 31).toUInt32).toInt32) &&& (3 : Int32))), .val (.int (((p1.toUInt32 >>> ((4 : Int32) &&& 31).toUInt32).toInt32) &&& (3 : Int32))), .val (.int (((p1.toUInt32 >>> ((6 : Int32) &&& 31).toUInt32).toInt32) &&& (3 : Int32))), .val (.int (((p1.toUInt32 >>> ((8 : Int32) &&& 31).toUInt32).toInt32) &&& (3 : Int32))), .unset, .unset, .unset, .unset, .unset] [(.int (3 : Int32)), (.int ((p1.toUInt32 >>> ((10 : Int32) &&& 31).toUInt32).toInt32))])) _
    refine XS.iand X0.here hx rfl (hb hby at_40) rfl ?_
    show Steps p.tables e below (s₁.setTop (mkF m 41 #[.val (.int p1), .val (.int p2), .val (.int p3), .val (.int p4), .val (.int p5), .val (.int (p1 &&& (3 : Int32))), .val (.int (((p1.toUInt32 >>> ((2 : Int32) &&& 31).toUInt32).toInt32) &&& (3 : Int32))), .val (.int (((p1.toUInt32 >>> ((4 : Int32) &&& 31).toUInt32).toInt32) &&& (3 : Int32))), .val (.int (((p1.toUInt32 >>> ((6 : Int32) &&& 31).toUInt32).toInt32) &&& (3 : Int32))), .val (.int (((p1.toUInt32 >>> ((8 : Int32) &&& 31).toUInt32).toInt32) &&& (3 : Int32))), .unset, .unset, .unset, .unset, .unset] [(.int (((p1.toUInt32 >>> ((10 : Int32) &&& 31).toUInt32).toInt32) &&& (3 : Int32)))])) _
    refine XS.iload X0.here hx rfl (hb hby at_41) rfl ?_
    show Steps p.tables e below (s₁.setTop (mkF m 43 #[.val (.int p1), .val (.int p2), .val (.int p3), .val (.int p4), .val (.int p5), .val (.int (p1 &&& (3 : Int32))), .val (.int (((p1.toUInt32 >>> ((2 : Int32) &&& 31).toUInt32).toInt32) &&& (3 : Int32))), .val (.int (((p1.toUInt32 >>> ((4 : Int32) &&& 31).toUInt32).toInt32) &&& (3 : Int32))), .val (.int (((p1.toUInt32 >>> ((6 : Int32) &&& 31).toUInt32).toInt32) &&& (3 : Int32))), .val (.int (((p1.toUInt32 >>> ((8 : Int32) &&& 31).toUInt32).toInt32) &&& (3 : Int32))), .unset, .unset, .unset, .unset, .unset] [(.int (((p1.toUInt32 >>> ((8 : Int32) &&& 31).toUInt32).toInt32) &&& (3 : Int32))), (.int (((p1.toUInt32 >>> ((10 : Int32) &&& 31).toUInt32).toInt32) &&& (3 : Int32)))])) _
    refine XS.iconst X0.here hx rfl (hb hby at_43) ?_
    show Steps p.tables e below (s₁.setTop (mkF m 44 #[.val (.int p1), .val (.int p2), .val (.int p3), .val (.int p4), .val (.int p5), .val (.int (p1 &&& (3 : Int32))), .val (.int (((p1.toUInt32 >>> ((2 : Int32) &&& 31).toUInt32).toInt32) &&& (3 : Int32))), .val (.int (((p1.toUInt32 >>> ((4 : Int32) &&& 31).toUInt32).toInt32) &&& (3 : Int32))), .val (.int (((p1.toUInt32 >>> ((6 : Int32) &&& 31).toUInt32).toInt32) &&& (3 : Int32))), .val (.int (((p1.toUInt32 >>> ((8 : Int32) &&& 31).toUInt32).toInt32) &&& (3 : Int32))), .unset, .unset, .unset, .unset, .unset] [(.int (1 : Int32)), (.int (((p1.toUInt32 >>> ((8 : Int32) &&& 31).toUInt32).toInt32) &&& (3 : Int32))), (.int (((p1.toUInt32 >>> ((10 : Int32) &&& 31).toUInt32).toInt32) &&& (3 : Int32)))])) _
    refine XS.iadd X0.here hx rfl (hb hby at_44) rfl ?_
    exact kz
  obtain ⟨nN, m0, hn⟩ := own_and3 p1
  obtain ⟨a1, m1, hl1⟩ : ∃ a, a ≤ 3 ∧ own_I (((p1.toUInt32 >>> ((2 : Int32) &&& 31).toUInt32).toInt32) &&& (3 : Int32)) a := own_and3 _
  obtain ⟨a2, m2, hl2⟩ : ∃ a, a ≤ 3 ∧ own_I (((p1.toUInt32 >>> ((4 : Int32) &&& 31).toUInt32).toInt32) &&& (3 : Int32)) a := own_and3 _
  obtain ⟨a3, m3, hl3⟩ : ∃ a, a ≤ 3 ∧ own_I (((p1.toUInt32 >>> ((6 : Int32) &&& 31).toUInt32).toInt32) &&& (3 : Int32)) a := own_and3 _
  obtain ⟨kN, mk, hk⟩ : ∃ a, a ≤ 3 ∧ own_I (((p1.toUInt32 >>> ((8 : Int32) &&& 31).toUInt32).toInt32) &&& (3 : Int32)) a := own_and3 _
  obtain ⟨q, mq, hq⟩ : ∃ a, a ≤ 3 ∧ own_I (((p1.toUInt32 >>> ((10 : Int32) &&& 31).toUInt32).toInt32) &&& (3 : Int32)) a := own_and3 _
  obtain ⟨cN, mc, hcol, hnz⟩ := own_rem hq mq (hk.add own_I1 (by omega))
  refine Goes.via (S' := s₁.setTop (mkF m 52 #[.val (.int p1), .val (.int p2), .val (.int p3), .val (.int p4), .val (.int p5), .val (.int (p1 &&& (3 : Int32))), .val (.int (((p1.toUInt32 >>> ((2 : Int32) &&& 31).toUInt32).toInt32) &&& (3 : Int32))), .val (.int (((p1.toUInt32 >>> ((4 : Int32) &&& 31).toUInt32).toInt32) &&& (3 : Int32))), .val (.int (((p1.toUInt32 >>> ((6 : Int32) &&& 31).toUInt32).toInt32) &&& (3 : Int32))), .val (.int (((p1.toUInt32 >>> ((8 : Int32) &&& 31).toUInt32).toInt32) &&& (3 : Int32))), .val (.int (((((p1.toUInt32 >>> ((10 : Int32) &&& 31).toUInt32).toInt32) &&& (3 : Int32)) % ((((p1.toUInt32 >>> ((8 : Int32) &&& 31).toUInt32).toInt32) &&& (3 : Int32)) + (1 : Int32))) + (1 : Int32))), .unset, .unset, .unset, .unset] [(.int (20 : Int32))])) (fun tz kz => ?_) ?_
  · show Steps p.tables e below (s₁.setTop (mkF m 45 #[.val (.int p1), .val (.int p2), .val (.int p3), .val (.int p4), .val (.int p5), .val (.int (p1 &&& (3 : Int32))), .val (.int (((p1.toUInt32 >>> ((2 : Int32) &&& 31).toUInt32).toInt32) &&& (3 : Int32))), .val (.int (((p1.toUInt32 >>> ((4 : Int32) &&& 31).toUInt32).toInt32) &&& (3 : Int32))), .val (.int (((p1.toUInt32 >>> ((6 : Int32) &&& 31).toUInt32).toInt32) &&& (3 : Int32))), .val (.int (((p1.toUInt32 >>> ((8 : Int32) &&& 31).toUInt32).toInt32) &&& (3 : Int32))), .unset, .unset, .unset, .unset, .unset] [(.int ((((p1.toUInt32 >>> ((8 : Int32) &&& 31).toUInt32).toInt32) &&& (3 : Int32)) + (1 : Int32))), (.int (((p1.toUInt32 >>> ((10 : Int32) &&& 31).toUInt32).toInt32) &&& (3 : Int32)))])) _
    refine iremM (g := (mkF m 45 #[.val (.int p1), .val (.int p2), .val (.int p3), .val (.int p4), .val (.int p5), .val (.int (p1 &&& (3 : Int32))), .val (.int (((p1.toUInt32 >>> ((2 : Int32) &&& 31).toUInt32).toInt32) &&& (3 : Int32))), .val (.int (((p1.toUInt32 >>> ((4 : Int32) &&& 31).toUInt32).toInt32) &&& (3 : Int32))), .val (.int (((p1.toUInt32 >>> ((6 : Int32) &&& 31).toUInt32).toInt32) &&& (3 : Int32))), .val (.int (((p1.toUInt32 >>> ((8 : Int32) &&& 31).toUInt32).toInt32) &&& (3 : Int32))), .unset, .unset, .unset, .unset, .unset] [(.int ((((p1.toUInt32 >>> ((8 : Int32) &&& 31).toUInt32).toInt32) &&& (3 : Int32)) + (1 : Int32))), (.int (((p1.toUInt32 >>> ((10 : Int32) &&& 31).toUInt32).toInt32) &&& (3 : Int32)))])) X0 hx rfl (hb hby at_45) rfl hnz ?_
    show Steps p.tables e below (s₁.setTop (mkF m 46 #[.val (.int p1), .val (.int p2), .val (.int p3), .val (.int p4), .val (.int p5), .val (.int (p1 &&& (3 : Int32))), .val (.int (((p1.toUInt32 >>> ((2 : Int32) &&& 31).toUInt32).toInt32) &&& (3 : Int32))), .val (.int (((p1.toUInt32 >>> ((4 : Int32) &&& 31).toUInt32).toInt32) &&& (3 : Int32))), .val (.int (((p1.toUInt32 >>> ((6 : Int32) &&& 31).toUInt32).toInt32) &&& (3 : Int32))), .val (.int (((p1.toUInt32 >>> ((8 : Int32) &&& 31).toUInt32).toInt32) &&& (3 : Int32))), .unset, .unset, .unset, .unset, .unset] [(.int ((((p1.toUInt32 >>> ((10 : Int32) &&& 31).toUInt32).toInt32) &&& (3 : Int32)) % ((((p1.toUInt32 >>> ((8 : Int32) &&& 31).toUInt32).toInt32) &&& (3 : Int32)) + (1 : Int32))))])) _
    refine XS.iconst X0.here hx rfl (hb hby at_46) ?_
    show Steps p.tables e below (s₁.setTop (mkF m 47 #[.val (.int p1), .val (.int p2), .val (.int p3), .val (.int p4), .val (.int p5), .val (.int (p1 &&& (3 : Int32))), .val (.int (((p1.toUInt32 >>> ((2 : Int32) &&& 31).toUInt32).toInt32) &&& (3 : Int32))), .val (.int (((p1.toUInt32 >>> ((4 : Int32) &&& 31).toUInt32).toInt32) &&& (3 : Int32))), .val (.int (((p1.toUInt32 >>> ((6 : Int32) &&& 31).toUInt32).toInt32) &&& (3 : Int32))), .val (.int (((p1.toUInt32 >>> ((8 : Int32) &&& 31).toUInt32).toInt32) &&& (3 : Int32))), .unset, .unset, .unset, .unset, .unset] [(.int (1 : Int32)), (.int ((((p1.toUInt32 >>> ((10 : Int32) &&& 31).toUInt32).toInt32) &&& (3 : Int32)) % ((((p1.toUInt32 >>> ((8 : Int32) &&& 31).toUInt32).toInt32) &&& (3 : Int32)) + (1 : Int32))))])) _
    refine XS.iadd X0.here hx rfl (hb hby at_47) rfl ?_
    show Steps p.tables e below (s₁.setTop (mkF m 48 #[.val (.int p1), .val (.int p2), .val (.int p3), .val (.int p4), .val (.int p5), .val (.int (p1 &&& (3 : Int32))), .val (.int (((p1.toUInt32 >>> ((2 : Int32) &&& 31).toUInt32).toInt32) &&& (3 : Int32))), .val (.int (((p1.toUInt32 >>> ((4 : Int32) &&& 31).toUInt32).toInt32) &&& (3 : Int32))), .val (.int (((p1.toUInt32 >>> ((6 : Int32) &&& 31).toUInt32).toInt32) &&& (3 : Int32))), .val (.int (((p1.toUInt32 >>> ((8 : Int32) &&& 31).toUInt32).toInt32) &&& (3 : Int32))), .unset, .unset, .unset, .unset, .unset] [(.int (((((p1.toUInt32 >>> ((10 : Int32) &&& 31).toUInt32).toInt32) &&& (3 : Int32)) % ((((p1.toUInt32 >>> ((8 : Int32) &&& 31).toUInt32).toInt32) &&& (3 : Int32)) + (1 : Int32))) + (1 : Int32)))])) _
    refine XS.istore X0.here hx rfl (hb hby at_48) rfl (l' := #[.val (.int p1), .val (.int p2), .val (.int p3), .val (.int p4), .val (.int p5), .val (.int (p1 &&& (3 : Int32))), .val (.int (((p1.toUInt32 >>> ((2 : Int32) &&& 31).toUInt32).toInt32) &&& (3 : Int32))), .val (.int (((p1.toUInt32 >>> ((4 : Int32) &&& 31).toUInt32).toInt32) &&& (3 : Int32))), .val (.int (((p1.toUInt32 >>> ((6 : Int32) &&& 31).toUInt32).toInt32) &&& (3 : Int32))), .val (.int (((p1.toUInt32 >>> ((8 : Int32) &&& 31).toUInt32).toInt32) &&& (3 : Int32))), .val (.int (((((p1.toUInt32 >>> ((10 : Int32) &&& 31).toUInt32).toInt32) &&& (3 : Int32)) % ((((p1.toUInt32 >>> ((8 : Int32) &&& 31).toUInt32).toInt32) &&& (3 : Int32)) + (1 : Int32))) + (1 : Int32))), .unset, .unset, .unset, .unset]) rfl ?_
    show Steps p.tables e below (s₁.setTop (mkF m 50 #[.val (.int p1), .val (.int p2), .val (.int p3), .val (.int p4), .val (.int p5), .val (.int (p1 &&& (3 : Int32))), .val (.int (((p1.toUInt32 >>> ((2 : Int32) &&& 31).toUInt32).toInt32) &&& (3 : Int32))), .val (.int (((p1.toUInt32 >>> ((4 : Int32) &&& 31).toUInt32).toInt32) &&& (3 : Int32))), .val (.int (((p1.toUInt32 >>> ((6 : Int32) &&& 31).toUInt32).toInt32) &&& (3 : Int32))), .val (.int (((p1.toUInt32 >>> ((8 : Int32) &&& 31).toUInt32).toInt32) &&& (3 : Int32))), .val (.int (((((p1.toUInt32 >>> ((10 : Int32) &&& 31).toUInt32).toInt32) &&& (3 : Int32)) % ((((p1.toUInt32 >>> ((8 : Int32) &&& 31).toUInt32).toInt32) &&& (3 : Int32)) + (1 : Int32))) + (1 : Int32))), .unset, .unset, .unset, .unset] [])) _
    refine XS.bipush X0.here hx rfl (hb hby at_50) ?_
    exact kz
  obtain ⟨T36, h36, k36, X36, e36, E36, A36, st36⟩ := newP X0 hx hZ (hw _ (List.mem_of_getElem? (i := 0) rfl)) e0 (g := (mkF m 52 #[.val (.int p1), .val (.int p2), .val (.int p3), .val (.int p4), .val (.int p5), .val (.int (p1 &&& (3 : Int32))), .val (.int (((p1.toUInt32 >>> ((2 : Int32) &&& 31).toUInt32).toInt32) &&& (3 : Int32))), .val (.int (((p1.toUInt32 >>> ((4 : Int32) &&& 31).toUInt32).toInt32) &&& (3 : Int32))), .val (.int (((p1.toUInt32 >>> ((6 : Int32) &&& 31).toUInt32).toInt32) &&& (3 : Int32))), .val (.int (((p1.toUInt32 >>> ((8 : Int32) &&& 31).toUInt32).toInt32) &&& (3 : Int32))), .val (.int (((((p1.toUInt32 >>> ((10 : Int32) &&& 31).toUInt32).toInt32) &&& (3 : Int32)) % ((((p1.toUInt32 >>> ((8 : Int32) &&& 31).toUInt32).toInt32) &&& (3 : Int32)) + (1 : Int32))) + (1 : Int32))), .unset, .unset, .unset, .unset] [(.int (20 : Int32))])) rfl (hb hby at_52) rfl (by decide) (cap := 20) (by decide) (by decide) (by decide) (by decide)
  obtain ⟨b36, g36⟩ : ∃ z, z = h0.size := ⟨_, rfl⟩
  rw [← g36] at A36 st36
  refine Goes.via (S' := T36.setTop (mkF m 54 #[.val (.int p1), .val (.int p2), .val (.int p3), .val (.int p4), .val (.int p5), .val (.int (p1 &&& (3 : Int32))), .val (.int (((p1.toUInt32 >>> ((2 : Int32) &&& 31).toUInt32).toInt32) &&& (3 : Int32))), .val (.int (((p1.toUInt32 >>> ((4 : Int32) &&& 31).toUInt32).toInt32) &&& (3 : Int32))), .val (.int (((p1.toUInt32 >>> ((6 : Int32) &&& 31).toUInt32).toInt32) &&& (3 : Int32))), .val (.int (((p1.toUInt32 >>> ((8 : Int32) &&& 31).toUInt32).toInt32) &&& (3 : Int32))), .val (.int (((((p1.toUInt32 >>> ((10 : Int32) &&& 31).toUInt32).toInt32) &&& (3 : Int32)) % ((((p1.toUInt32 >>> ((8 : Int32) &&& 31).toUInt32).toInt32) &&& (3 : Int32)) + (1 : Int32))) + (1 : Int32))), .unset, .unset, .unset, .unset] [(.ref b36)])) st36 ?_
  have O1 := O0.ext E36
  have B1 : own_B Z h36 b36 (fun _ => 0) := own_B.new A36
  have gb : n0 ≤ b36 := Nat.le_trans Z0 (Nat.le_of_eq g36.symm)
  refine Goes.via (S' := T36.setTop (mkF m 61 #[.val (.int p1), .val (.int p2), .val (.int p3), .val (.int p4), .val (.int p5), .val (.int (p1 &&& (3 : Int32))), .val (.int (((p1.toUInt32 >>> ((2 : Int32) &&& 31).toUInt32).toInt32) &&& (3 : Int32))), .val (.int (((p1.toUInt32 >>> ((4 : Int32) &&& 31).toUInt32).toInt32) &&& (3 : Int32))), .val (.int (((p1.toUInt32 >>> ((6 : Int32) &&& 31).toUInt32).toInt32) &&& (3 : Int32))), .val (.int (((p1.toUInt32 >>> ((8 : Int32) &&& 31).toUInt32).toInt32) &&& (3 : Int32))), .val (.int (((((p1.toUInt32 >>> ((10 : Int32) &&& 31).toUInt32).toInt32) &&& (3 : Int32)) % ((((p1.toUInt32 >>> ((8 : Int32) &&& 31).toUInt32).toInt32) &&& (3 : Int32)) + (1 : Int32))) + (1 : Int32))), .val (.ref b36), .val (.int (0 : Int32)), .unset, .unset] [(.int (p1 &&& (3 : Int32)))])) (fun tz kz => ?_) ?_
  · show Steps p.tables e below (T36.setTop (mkF m 54 #[.val (.int p1), .val (.int p2), .val (.int p3), .val (.int p4), .val (.int p5), .val (.int (p1 &&& (3 : Int32))), .val (.int (((p1.toUInt32 >>> ((2 : Int32) &&& 31).toUInt32).toInt32) &&& (3 : Int32))), .val (.int (((p1.toUInt32 >>> ((4 : Int32) &&& 31).toUInt32).toInt32) &&& (3 : Int32))), .val (.int (((p1.toUInt32 >>> ((6 : Int32) &&& 31).toUInt32).toInt32) &&& (3 : Int32))), .val (.int (((p1.toUInt32 >>> ((8 : Int32) &&& 31).toUInt32).toInt32) &&& (3 : Int32))), .val (.int (((((p1.toUInt32 >>> ((10 : Int32) &&& 31).toUInt32).toInt32) &&& (3 : Int32)) % ((((p1.toUInt32 >>> ((8 : Int32) &&& 31).toUInt32).toInt32) &&& (3 : Int32)) + (1 : Int32))) + (1 : Int32))), .unset, .unset, .unset, .unset] [(.ref b36)])) _
    refine XS.astore X36.here hx rfl (hb hby at_54) rfl rfl (l' := #[.val (.int p1), .val (.int p2), .val (.int p3), .val (.int p4), .val (.int p5), .val (.int (p1 &&& (3 : Int32))), .val (.int (((p1.toUInt32 >>> ((2 : Int32) &&& 31).toUInt32).toInt32) &&& (3 : Int32))), .val (.int (((p1.toUInt32 >>> ((4 : Int32) &&& 31).toUInt32).toInt32) &&& (3 : Int32))), .val (.int (((p1.toUInt32 >>> ((6 : Int32) &&& 31).toUInt32).toInt32) &&& (3 : Int32))), .val (.int (((p1.toUInt32 >>> ((8 : Int32) &&& 31).toUInt32).toInt32) &&& (3 : Int32))), .val (.int (((((p1.toUInt32 >>> ((10 : Int32) &&& 31).toUInt32).toInt32) &&& (3 : Int32)) % ((((p1.toUInt32 >>> ((8 : Int32) &&& 31).toUInt32).toInt32) &&& (3 : Int32)) + (1 : Int32))) + (1 : Int32))), .val (.ref b36), .unset, .unset, .unset]) rfl ?_
    show Steps p.tables e below (T36.setTop (mkF m 56 #[.val (.int p1), .val (.int p2), .val (.int p3), .val (.int p4), .val (.int p5), .val (.int (p1 &&& (3 : Int32))), .val (.int (((p1.toUInt32 >>> ((2 : Int32) &&& 31).toUInt32).toInt32) &&& (3 : Int32))), .val (.int (((p1.toUInt32 >>> ((4 : Int32) &&& 31).toUInt32).toInt32) &&& (3 : Int32))), .val (.int (((p1.toUInt32 >>> ((6 : Int32) &&& 31).toUInt32).toInt32) &&& (3 : Int32))), .val (.int (((p1.toUInt32 >>> ((8 : Int32) &&& 31).toUInt32).toInt32) &&& (3 : Int32))), .val (.int (((((p1.toUInt32 >>> ((10 : Int32) &&& 31).toUInt32).toInt32) &&& (3 : Int32)) % ((((p1.toUInt32 >>> ((8 : Int32) &&& 31).toUInt32).toInt32) &&& (3 : Int32)) + (1 : Int32))) + (1 : Int32))), .val (.ref b36), .unset, .unset, .unset] [])) _
    refine XS.iconst X36.here hx rfl (hb hby at_56) ?_
    show Steps p.tables e below (T36.setTop (mkF m 57 #[.val (.int p1), .val (.int p2), .val (.int p3), .val (.int p4), .val (.int p5), .val (.int (p1 &&& (3 : Int32))), .val (.int (((p1.toUInt32 >>> ((2 : Int32) &&& 31).toUInt32).toInt32) &&& (3 : Int32))), .val (.int (((p1.toUInt32 >>> ((4 : Int32) &&& 31).toUInt32).toInt32) &&& (3 : Int32))), .val (.int (((p1.toUInt32 >>> ((6 : Int32) &&& 31).toUInt32).toInt32) &&& (3 : Int32))), .val (.int (((p1.toUInt32 >>> ((8 : Int32) &&& 31).toUInt32).toInt32) &&& (3 : Int32))), .val (.int (((((p1.toUInt32 >>> ((10 : Int32) &&& 31).toUInt32).toInt32) &&& (3 : Int32)) % ((((p1.toUInt32 >>> ((8 : Int32) &&& 31).toUInt32).toInt32) &&& (3 : Int32)) + (1 : Int32))) + (1 : Int32))), .val (.ref b36), .unset, .unset, .unset] [(.int (0 : Int32))])) _
    refine XS.istore X36.here hx rfl (hb hby at_57) rfl (l' := #[.val (.int p1), .val (.int p2), .val (.int p3), .val (.int p4), .val (.int p5), .val (.int (p1 &&& (3 : Int32))), .val (.int (((p1.toUInt32 >>> ((2 : Int32) &&& 31).toUInt32).toInt32) &&& (3 : Int32))), .val (.int (((p1.toUInt32 >>> ((4 : Int32) &&& 31).toUInt32).toInt32) &&& (3 : Int32))), .val (.int (((p1.toUInt32 >>> ((6 : Int32) &&& 31).toUInt32).toInt32) &&& (3 : Int32))), .val (.int (((p1.toUInt32 >>> ((8 : Int32) &&& 31).toUInt32).toInt32) &&& (3 : Int32))), .val (.int (((((p1.toUInt32 >>> ((10 : Int32) &&& 31).toUInt32).toInt32) &&& (3 : Int32)) % ((((p1.toUInt32 >>> ((8 : Int32) &&& 31).toUInt32).toInt32) &&& (3 : Int32)) + (1 : Int32))) + (1 : Int32))), .val (.ref b36), .val (.int (0 : Int32)), .unset, .unset]) rfl ?_
    show Steps p.tables e below (T36.setTop (mkF m 59 #[.val (.int p1), .val (.int p2), .val (.int p3), .val (.int p4), .val (.int p5), .val (.int (p1 &&& (3 : Int32))), .val (.int (((p1.toUInt32 >>> ((2 : Int32) &&& 31).toUInt32).toInt32) &&& (3 : Int32))), .val (.int (((p1.toUInt32 >>> ((4 : Int32) &&& 31).toUInt32).toInt32) &&& (3 : Int32))), .val (.int (((p1.toUInt32 >>> ((6 : Int32) &&& 31).toUInt32).toInt32) &&& (3 : Int32))), .val (.int (((p1.toUInt32 >>> ((8 : Int32) &&& 31).toUInt32).toInt32) &&& (3 : Int32))), .val (.int (((((p1.toUInt32 >>> ((10 : Int32) &&& 31).toUInt32).toInt32) &&& (3 : Int32)) % ((((p1.toUInt32 >>> ((8 : Int32) &&& 31).toUInt32).toInt32) &&& (3 : Int32)) + (1 : Int32))) + (1 : Int32))), .val (.ref b36), .val (.int (0 : Int32)), .unset, .unset] [])) _
    refine XS.iload X36.here hx rfl (hb hby at_59) rfl ?_
    exact kz
  by_cases hc61_37 : (0 : Int32) < (p1 &&& (3 : Int32))
  · refine Goes.via (S' := T36.setTop (mkF m 71 #[.val (.int p1), .val (.int p2), .val (.int p3), .val (.int p4), .val (.int p5), .val (.int (p1 &&& (3 : Int32))), .val (.int (((p1.toUInt32 >>> ((2 : Int32) &&& 31).toUInt32).toInt32) &&& (3 : Int32))), .val (.int (((p1.toUInt32 >>> ((4 : Int32) &&& 31).toUInt32).toInt32) &&& (3 : Int32))), .val (.int (((p1.toUInt32 >>> ((6 : Int32) &&& 31).toUInt32).toInt32) &&& (3 : Int32))), .val (.int (((p1.toUInt32 >>> ((8 : Int32) &&& 31).toUInt32).toInt32) &&& (3 : Int32))), .val (.int (((((p1.toUInt32 >>> ((10 : Int32) &&& 31).toUInt32).toInt32) &&& (3 : Int32)) % ((((p1.toUInt32 >>> ((8 : Int32) &&& 31).toUInt32).toInt32) &&& (3 : Int32)) + (1 : Int32))) + (1 : Int32))), .val (.ref b36), .val (.int (0 : Int32)), .unset, .unset] [(.int p2), (.int (((p1.toUInt32 >>> ((2 : Int32) &&& 31).toUInt32).toInt32) &&& (3 : Int32))), (.int (0 : Int32)), (.ref b36)])) (fun tz kz => ?_) ?_
    · show Steps p.tables e below (T36.setTop (mkF m 61 #[.val (.int p1), .val (.int p2), .val (.int p3), .val (.int p4), .val (.int p5), .val (.int (p1 &&& (3 : Int32))), .val (.int (((p1.toUInt32 >>> ((2 : Int32) &&& 31).toUInt32).toInt32) &&& (3 : Int32))), .val (.int (((p1.toUInt32 >>> ((4 : Int32) &&& 31).toUInt32).toInt32) &&& (3 : Int32))), .val (.int (((p1.toUInt32 >>> ((6 : Int32) &&& 31).toUInt32).toInt32) &&& (3 : Int32))), .val (.int (((p1.toUInt32 >>> ((8 : Int32) &&& 31).toUInt32).toInt32) &&& (3 : Int32))), .val (.int (((((p1.toUInt32 >>> ((10 : Int32) &&& 31).toUInt32).toInt32) &&& (3 : Int32)) % ((((p1.toUInt32 >>> ((8 : Int32) &&& 31).toUInt32).toInt32) &&& (3 : Int32)) + (1 : Int32))) + (1 : Int32))), .val (.ref b36), .val (.int (0 : Int32)), .unset, .unset] [(.int (p1 &&& (3 : Int32)))])) _
      refine XS.ifNo X36.here hx rfl (hb hby at_61) rfl ((if0 _ _).trans (tlt hc61_37).2.2.2) ?_
      show Steps p.tables e below (T36.setTop (mkF m 64 #[.val (.int p1), .val (.int p2), .val (.int p3), .val (.int p4), .val (.int p5), .val (.int (p1 &&& (3 : Int32))), .val (.int (((p1.toUInt32 >>> ((2 : Int32) &&& 31).toUInt32).toInt32) &&& (3 : Int32))), .val (.int (((p1.toUInt32 >>> ((4 : Int32) &&& 31).toUInt32).toInt32) &&& (3 : Int32))), .val (.int (((p1.toUInt32 >>> ((6 : Int32) &&& 31).toUInt32).toInt32) &&& (3 : Int32))), .val (.int (((p1.toUInt32 >>> ((8 : Int32) &&& 31).toUInt32).toInt32) &&& (3 : Int32))), .val (.int (((((p1.toUInt32 >>> ((10 : Int32) &&& 31).toUInt32).toInt32) &&& (3 : Int32)) % ((((p1.toUInt32 >>> ((8 : Int32) &&& 31).toUInt32).toInt32) &&& (3 : Int32)) + (1 : Int32))) + (1 : Int32))), .val (.ref b36), .val (.int (0 : Int32)), .unset, .unset] [])) _
      refine XS.aload X36.here hx rfl (hb hby at_64) rfl rfl ?_
      show Steps p.tables e below (T36.setTop (mkF m 66 #[.val (.int p1), .val (.int p2), .val (.int p3), .val (.int p4), .val (.int p5), .val (.int (p1 &&& (3 : Int32))), .val (.int (((p1.toUInt32 >>> ((2 : Int32) &&& 31).toUInt32).toInt32) &&& (3 : Int32))), .val (.int (((p1.toUInt32 >>> ((4 : Int32) &&& 31).toUInt32).toInt32) &&& (3 : Int32))), .val (.int (((p1.toUInt32 >>> ((6 : Int32) &&& 31).toUInt32).toInt32) &&& (3 : Int32))), .val (.int (((p1.toUInt32 >>> ((8 : Int32) &&& 31).toUInt32).toInt32) &&& (3 : Int32))), .val (.int (((((p1.toUInt32 >>> ((10 : Int32) &&& 31).toUInt32).toInt32) &&& (3 : Int32)) % ((((p1.toUInt32 >>> ((8 : Int32) &&& 31).toUInt32).toInt32) &&& (3 : Int32)) + (1 : Int32))) + (1 : Int32))), .val (.ref b36), .val (.int (0 : Int32)), .unset, .unset] [(.ref b36)])) _
      refine XS.iload X36.here hx rfl (hb hby at_66) rfl ?_
      show Steps p.tables e below (T36.setTop (mkF m 68 #[.val (.int p1), .val (.int p2), .val (.int p3), .val (.int p4), .val (.int p5), .val (.int (p1 &&& (3 : Int32))), .val (.int (((p1.toUInt32 >>> ((2 : Int32) &&& 31).toUInt32).toInt32) &&& (3 : Int32))), .val (.int (((p1.toUInt32 >>> ((4 : Int32) &&& 31).toUInt32).toInt32) &&& (3 : Int32))), .val (.int (((p1.toUInt32 >>> ((6 : Int32) &&& 31).toUInt32).toInt32) &&& (3 : Int32))), .val (.int (((p1.toUInt32 >>> ((8 : Int32) &&& 31).toUInt32).toInt32) &&& (3 : Int32))), .val (.int (((((p1.toUInt32 >>> ((10 : Int32) &&& 31).toUInt32).toInt32) &&& (3 : Int32)) % ((((p1.toUInt32 >>> ((8 : Int32) &&& 31).toUInt32).toInt32) &&& (3 : Int32)) + (1 : Int32))) + (1 : Int32))), .val (.ref b36), .val (.int (0 : Int32)), .unset, .unset] [(.int (0 : Int32)), (.ref b36)])) _
      refine XS.iload X36.here hx rfl (hb hby at_68) rfl ?_
      show Steps p.tables e below (T36.setTop (mkF m 70 #[.val (.int p1), .val (.int p2), .val (.int p3), .val (.int p4), .val (.int p5), .val (.int (p1 &&& (3 : Int32))), .val (.int (((p1.toUInt32 >>> ((2 : Int32) &&& 31).toUInt32).toInt32) &&& (3 : Int32))), .val (.int (((p1.toUInt32 >>> ((4 : Int32) &&& 31).toUInt32).toInt32) &&& (3 : Int32))), .val (.int (((p1.toUInt32 >>> ((6 : Int32) &&& 31).toUInt32).toInt32) &&& (3 : Int32))), .val (.int (((p1.toUInt32 >>> ((8 : Int32) &&& 31).toUInt32).toInt32) &&& (3 : Int32))), .val (.int (((((p1.toUInt32 >>> ((10 : Int32) &&& 31).toUInt32).toInt32) &&& (3 : Int32)) % ((((p1.toUInt32 >>> ((8 : Int32) &&& 31).toUInt32).toInt32) &&& (3 : Int32)) + (1 : Int32))) + (1 : Int32))), .val (.ref b36), .val (.int (0 : Int32)), .unset, .unset] [(.int (((p1.toUInt32 >>> ((2 : Int32) &&& 31).toUInt32).toInt32) &&& (3 : Int32))), (.int (0 : Int32)), (.ref b36)])) _
      refine XS.iloadN X36.here hx rfl (hb hby at_70) rfl ?_
      exact kz
    obtain ⟨_, _, ⟨T38, L38, k38, n38⟩, -, X38, ⟨Lc38, hQ38, l38, y38, z38⟩, st38⟩ := Jvm.LawKit.callS X36 hx (y := (⟨"com/example/loopwright/loopwright/AnnotateCommandLoopLineStartPinLaw", "line", "([BIII)I"⟩ : MethodName)) hown (mvT hZ (hw _ (List.mem_of_getElem? (i := 48) rfl))) (mvT hZ (hw _ (List.mem_of_getElem? (i := 49) rfl))) (mvT hZ (hw _ (List.mem_of_getElem? (i := 50) rfl))) (mvT hZ (hw _ (List.mem_of_getElem? (i := 51) rfl))) (by decide) (backOf (W := 0) (rm7 l Z a0 hw [] b36 (0 : Int32) (((p1.toUInt32 >>> ((2 : Int32) &&& 31).toUInt32).toInt32) &&& (3 : Int32)) p2 (fun _ => 0) 0 _ h36 n0 (O1.1 ▸ O1.2.1) hl1 m1 own_I0 (by omega) B1 gb) hZ (hw _ (List.mem_of_getElem? (i := 51) rfl)) (hw _ (List.mem_of_getElem? (i := 50) rfl)) (by decide) (by decide)) (g := (mkF m 71 #[.val (.int p1), .val (.int p2), .val (.int p3), .val (.int p4), .val (.int p5), .val (.int (p1 &&& (3 : Int32))), .val (.int (((p1.toUInt32 >>> ((2 : Int32) &&& 31).toUInt32).toInt32) &&& (3 : Int32))), .val (.int (((p1.toUInt32 >>> ((4 : Int32) &&& 31).toUInt32).toInt32) &&& (3 : Int32))), .val (.int (((p1.toUInt32 >>> ((6 : Int32) &&& 31).toUInt32).toInt32) &&& (3 : Int32))), .val (.int (((p1.toUInt32 >>> ((8 : Int32) &&& 31).toUInt32).toInt32) &&& (3 : Int32))), .val (.int (((((p1.toUInt32 >>> ((10 : Int32) &&& 31).toUInt32).toInt32) &&& (3 : Int32)) % ((((p1.toUInt32 >>> ((8 : Int32) &&& 31).toUInt32).toInt32) &&& (3 : Int32)) + (1 : Int32))) + (1 : Int32))), .val (.ref b36), .val (.int (0 : Int32)), .unset, .unset] [(.int p2), (.int (((p1.toUInt32 >>> ((2 : Int32) &&& 31).toUInt32).toInt32) &&& (3 : Int32))), (.int (0 : Int32)), (.ref b36)])) rfl (by rw [hml]; rfl) (argsL := [(.ref b36), (.int (0 : Int32)), (.int (((p1.toUInt32 >>> ((2 : Int32) &&& 31).toUInt32).toInt32) &&& (3 : Int32))), (.int p2)]) (rest := []) (lenOf pd_5 rfl) rfl (by show 2 * 0 + _ ≤ _; exact Nat.le_of_eq rfl) (hb hby at_71) (fun _ _ => ⟨rfl, e36, (by decide : 1 + 0 ≤ _), (by decide : 20 + 0 ≤ _)⟩)
    dsimp only [Pt.U, Pt.locs, Pt.cells, Pt.slots] at X38 l38 y38 z38 st38 hQ38
    subst l38 y38 z38
    obtain ⟨rfl, N38, K38, f38, B38, fa38, fb38⟩ := hQ38
    have Nf38 := Fr.app N0 N38
    refine Goes.via (S' := T38.setTop (mkF m 74 #[.val (.int p1), .val (.int p2), .val (.int p3), .val (.int p4), .val (.int p5), .val (.int (p1 &&& (3 : Int32))), .val (.int (((p1.toUInt32 >>> ((2 : Int32) &&& 31).toUInt32).toInt32) &&& (3 : Int32))), .val (.int (((p1.toUInt32 >>> ((4 : Int32) &&& 31).toUInt32).toInt32) &&& (3 : Int32))), .val (.int (((p1.toUInt32 >>> ((6 : Int32) &&& 31).toUInt32).toInt32) &&& (3 : Int32))), .val (.int (((p1.toUInt32 >>> ((8 : Int32) &&& 31).toUInt32).toInt32) &&& (3 : Int32))), .val (.int (((((p1.toUInt32 >>> ((10 : Int32) &&& 31).toUInt32).toInt32) &&& (3 : Int32)) % ((((p1.toUInt32 >>> ((8 : Int32) &&& 31).toUInt32).toInt32) &&& (3 : Int32)) + (1 : Int32))) + (1 : Int32))), .val (.ref b36), .val (.int (0 : Int32)), .unset, .unset] [(.int (((0 : Int32) + (((p1.toUInt32 >>> ((2 : Int32) &&& 31).toUInt32).toInt32) &&& (3 : Int32))) + (1 : Int32)))])) (st38) ?_
    have O38 := O1.keep K38 (allS gb all0)
    refine Goes.via (S' := T38.setTop (mkF m 76 #[.val (.int p1), .val (.int p2), .val (.int p3), .val (.int p4), .val (.int p5), .val (.int (p1 &&& (3 : Int32))), .val (.int (((p1.toUInt32 >>> ((2 : Int32) &&& 31).toUInt32).toInt32) &&& (3 : Int32))), .val (.int (((p1.toUInt32 >>> ((4 : Int32) &&& 31).toUInt32).toInt32) &&& (3 : Int32))), .val (.int (((p1.toUInt32 >>> ((6 : Int32) &&& 31).toUInt32).toInt32) &&& (3 : Int32))), .val (.int (((p1.toUInt32 >>> ((8 : Int32) &&& 31).toUInt32).toInt32) &&& (3 : Int32))), .val (.int (((((p1.toUInt32 >>> ((10 : Int32) &&& 31).toUInt32).toInt32) &&& (3 : Int32)) % ((((p1.toUInt32 >>> ((8 : Int32) &&& 31).toUInt32).toInt32) &&& (3 : Int32)) + (1 : Int32))) + (1 : Int32))), .val (.ref b36), .val (.int (((0 : Int32) + (((p1.toUInt32 >>> ((2 : Int32) &&& 31).toUInt32).toInt32) &&& (3 : Int32))) + (1 : Int32))), .unset, .unset] [])) (fun tz kz => ?_) ?_
    · show Steps p.tables e below (T38.setTop (mkF m 74 #[.val (.int p1), .val (.int p2), .val (.int p3), .val (.int p4), .val (.int p5), .val (.int (p1 &&& (3 : Int32))), .val (.int (((p1.toUInt32 >>> ((2 : Int32) &&& 31).toUInt32).toInt32) &&& (3 : Int32))), .val (.int (((p1.toUInt32 >>> ((4 : Int32) &&& 31).toUInt32).toInt32) &&& (3 : Int32))), .val (.int (((p1.toUInt32 >>> ((6 : Int32) &&& 31).toUInt32).toInt32) &&& (3 : Int32))), .val (.int (((p1.toUInt32 >>> ((8 : Int32) &&& 31).toUInt32).toInt32) &&& (3 : Int32))), .val (.int (((((p1.toUInt32 >>> ((10 : Int32) &&& 31).toUInt32).toInt32) &&& (3 : Int32)) % ((((p1.toUInt32 >>> ((8 : Int32) &&& 31).toUInt32).toInt32) &&& (3 : Int32)) + (1 : Int32))) + (1 : Int32))), .val (.ref b36), .val (.int (0 : Int32)), .unset, .unset] [(.int (((0 : Int32) + (((p1.toUInt32 >>> ((2 : Int32) &&& 31).toUInt32).toInt32) &&& (3 : Int32))) + (1 : Int32)))])) _
      refine XS.istore X38.here hx rfl (hb hby at_74) rfl (l' := #[.val (.int p1), .val (.int p2), .val (.int p3), .val (.int p4), .val (.int p5), .val (.int (p1 &&& (3 : Int32))), .val (.int (((p1.toUInt32 >>> ((2 : Int32) &&& 31).toUInt32).toInt32) &&& (3 : Int32))), .val (.int (((p1.toUInt32 >>> ((4 : Int32) &&& 31).toUInt32).toInt32) &&& (3 : Int32))), .val (.int (((p1.toUInt32 >>> ((6 : Int32) &&& 31).toUInt32).toInt32) &&& (3 : Int32))), .val (.int (((p1.toUInt32 >>> ((8 : Int32) &&& 31).toUInt32).toInt32) &&& (3 : Int32))), .val (.int (((((p1.toUInt32 >>> ((10 : Int32) &&& 31).toUInt32).toInt32) &&& (3 : Int32)) % ((((p1.toUInt32 >>> ((8 : Int32) &&& 31).toUInt32).toInt32) &&& (3 : Int32)) + (1 : Int32))) + (1 : Int32))), .val (.ref b36), .val (.int (((0 : Int32) + (((p1.toUInt32 >>> ((2 : Int32) &&& 31).toUInt32).toInt32) &&& (3 : Int32))) + (1 : Int32))), .unset, .unset]) rfl ?_
      exact kz
    have q0 : 0 < nN := (own_I0.lt hn).mp hc61_37
    exact seg76 _ _ _ (p1 &&& (3 : Int32)) (((p1.toUInt32 >>> ((2 : Int32) &&& 31).toUInt32).toInt32) &&& (3 : Int32)) (((p1.toUInt32 >>> ((4 : Int32) &&& 31).toUInt32).toInt32) &&& (3 : Int32)) (((p1.toUInt32 >>> ((6 : Int32) &&& 31).toUInt32).toInt32) &&& (3 : Int32)) (((p1.toUInt32 >>> ((8 : Int32) &&& 31).toUInt32).toInt32) &&& (3 : Int32)) (((((p1.toUInt32 >>> ((10 : Int32) &&& 31).toUInt32).toInt32) &&& (3 : Int32)) % ((((p1.toUInt32 >>> ((8 : Int32) &&& 31).toUInt32).toInt32) &&& (3 : Int32)) + (1 : Int32))) + (1 : Int32)) nN a1 a2 a3 kN cN _ _ f38 [a1] X38 rfl Nf38 O38 hn hl1 hl2 hl3 hk hcol m0 m1 m2 m3 mk mc gb (by show own_I _ (a1 + 1 + 0); exact (own_I.add (own_I.add own_I0 hl1 (by omega)) own_I1 (by omega) : own_I _ (0 + a1 + 1)) |> fun h => by simpa using h) B38 fb38 (by rw [if_pos q0]; rfl) (by simp; omega)
  · refine Goes.via (S' := T36.setTop (mkF m 76 #[.val (.int p1), .val (.int p2), .val (.int p3), .val (.int p4), .val (.int p5), .val (.int (p1 &&& (3 : Int32))), .val (.int (((p1.toUInt32 >>> ((2 : Int32) &&& 31).toUInt32).toInt32) &&& (3 : Int32))), .val (.int (((p1.toUInt32 >>> ((4 : Int32) &&& 31).toUInt32).toInt32) &&& (3 : Int32))), .val (.int (((p1.toUInt32 >>> ((6 : Int32) &&& 31).toUInt32).toInt32) &&& (3 : Int32))), .val (.int (((p1.toUInt32 >>> ((8 : Int32) &&& 31).toUInt32).toInt32) &&& (3 : Int32))), .val (.int (((((p1.toUInt32 >>> ((10 : Int32) &&& 31).toUInt32).toInt32) &&& (3 : Int32)) % ((((p1.toUInt32 >>> ((8 : Int32) &&& 31).toUInt32).toInt32) &&& (3 : Int32)) + (1 : Int32))) + (1 : Int32))), .val (.ref b36), .val (.int (0 : Int32)), .unset, .unset] [])) (fun tz kz => ?_) ?_
    · show Steps p.tables e below (T36.setTop (mkF m 61 #[.val (.int p1), .val (.int p2), .val (.int p3), .val (.int p4), .val (.int p5), .val (.int (p1 &&& (3 : Int32))), .val (.int (((p1.toUInt32 >>> ((2 : Int32) &&& 31).toUInt32).toInt32) &&& (3 : Int32))), .val (.int (((p1.toUInt32 >>> ((4 : Int32) &&& 31).toUInt32).toInt32) &&& (3 : Int32))), .val (.int (((p1.toUInt32 >>> ((6 : Int32) &&& 31).toUInt32).toInt32) &&& (3 : Int32))), .val (.int (((p1.toUInt32 >>> ((8 : Int32) &&& 31).toUInt32).toInt32) &&& (3 : Int32))), .val (.int (((((p1.toUInt32 >>> ((10 : Int32) &&& 31).toUInt32).toInt32) &&& (3 : Int32)) % ((((p1.toUInt32 >>> ((8 : Int32) &&& 31).toUInt32).toInt32) &&& (3 : Int32)) + (1 : Int32))) + (1 : Int32))), .val (.ref b36), .val (.int (0 : Int32)), .unset, .unset] [(.int (p1 &&& (3 : Int32)))])) _
      refine XS.ifYes X36.here hx rfl (pc0 := 61) (pc' := 76) rfl (hb hby at_61) rfl ((if0 _ _).trans (flt hc61_37).2.2.2) (by decide) (by decide) ?_
      exact kz
    have q0 : ¬ 0 < nN := fun y => hc61_37 ((own_I0.lt hn).mpr y)
    exact seg76 _ _ _ (p1 &&& (3 : Int32)) (((p1.toUInt32 >>> ((2 : Int32) &&& 31).toUInt32).toInt32) &&& (3 : Int32)) (((p1.toUInt32 >>> ((4 : Int32) &&& 31).toUInt32).toInt32) &&& (3 : Int32)) (((p1.toUInt32 >>> ((6 : Int32) &&& 31).toUInt32).toInt32) &&& (3 : Int32)) (((p1.toUInt32 >>> ((8 : Int32) &&& 31).toUInt32).toInt32) &&& (3 : Int32)) (((((p1.toUInt32 >>> ((10 : Int32) &&& 31).toUInt32).toInt32) &&& (3 : Int32)) % ((((p1.toUInt32 >>> ((8 : Int32) &&& 31).toUInt32).toInt32) &&& (3 : Int32)) + (1 : Int32))) + (1 : Int32)) nN a1 a2 a3 kN cN _ _ (fun _ => 0) [] X36 e36 N0 O1 hn hl1 hl2 hl3 hk hcol m0 m1 m2 m3 mk mc gb own_I0 B1 trivial (by rw [if_neg q0]; rfl) (by simp; omega)
set_option maxRecDepth 65536 in
set_option maxHeartbeats 40000000 in
theorem comes_1 {Post : Tables → Env → Array Value → State → Outcome → State → Prop} (hpost : ∀ tb e args s v u, (limb_1_1.after args s (.returned v) u = true ∧ limb_1_2.after args s (.returned v) u = true ∧ True) → ReturnedEndW s (.returned v) u (Jvm.fieldLocs frame_1_writes args s ++ Jvm.arrayLocs frame_1_arrays args s ++ Jvm.staticLocs frame_1_statics s) 16 2176 → Post tb e args s (.returned v) u) :
    ArmFor flags0 classFile x code maxLocals ret World_1 tables_1 room_1 Calls_1 rest_1 Pre_1 Post := by
  intro l hfl _ _ p e ha hc hk s m args below hf hA hF happ hP
  obtain ⟨hcalls, hrest, hpre⟩ := hP
  obtain ⟨-, -, -, hnamed, -, -, -, hat⟩ := (Spec.applies_iff hf).mp happ
  obtain ⟨hg, hn⟩ := and_e (Cond.before_iff.mp (show (Jvm.Cond.and given_1 narrow_1).before args s = true from hpre))
  obtain ⟨hcnt, gg0⟩ := and_e hg
  obtain ⟨ga0, gg1⟩ := and_e gg0
  obtain ⟨ga1, gg2⟩ := and_e gg1
  obtain ⟨ga2, gg3⟩ := and_e gg2
  obtain ⟨ga3, gg4⟩ := and_e gg3
  obtain ⟨w0, w1, w2, w3, w4, rfl⟩ : ∃ w0 w1 w2 w3 w4 : Value, args = #[w0, w1, w2, w3, w4] := by
    have hs : args.size = 5 := by simpa [Cond.value, given_1] using hcnt
    obtain ⟨L⟩ := args
    match L, hs with
    | [w0, w1, w2, w3, w4], _ => exact ⟨w0, w1, w2, w3, w4, rfl⟩
  have hw := fun d (hd : d ∈ tables_1) => atoms_spec (ws := Jvm.Cond.code x code maxLocals ret :: tables_1) hat d (List.mem_cons_of_mem _ hd)
  have hfit : Fit s := fun {y c} hc i hi => by
    obtain ⟨ha, rfl⟩ := Array.getElem?_eq_some_iff.mp hc
    have q := List.all_eq_true.mp ((Array.all_eq_true_iff_forall_mem.mp hF) _ (Array.getElem_mem ha)) i (List.mem_range.mpr hi)
    simpa [Array.getElem?_eq_getElem hi] using q
  obtain ⟨i0, ei0⟩ := is_v ga0
  obtain rfl : w0 = (.int i0) := Option.some.inj ei0
  obtain ⟨i1, ei1⟩ := is_v ga1
  obtain rfl : w1 = (.int i1) := Option.some.inj ei1
  obtain ⟨i2, ei2⟩ := is_v ga2
  obtain rfl : w2 = (.int i2) := Option.some.inj ei2
  obtain ⟨i3, ei3⟩ := is_v ga3
  obtain rfl : w3 = (.int i3) := Option.some.inj ei3
  obtain ⟨i4, ei4⟩ := is_v gg4
  obtain rfl : w4 = (.int i4) := Option.some.inj ei4
  obtain ⟨bK, evK, EK⟩ := exa_static hn
  have SK := Sta.start evK (Or.inr ⟨(hw _ (List.mem_of_getElem? (i := 5) rfl)), (hw _ (List.mem_of_getElem? (i := 6) rfl))⟩)
  obtain ⟨n, o, h1, h2, h3, _, L, rfl, ⟨rfl, N⟩, hq⟩ := rm0 l s _ hw tables_1 i0 i1 i2 i3 i4 bK s.heap s.heap.size (Nat.le_refl _) SK (Old.start s) p e ha hc hk s m _ below hf ((Spec.applies_iff_loose hf).mp happ).1 ⟨rfl, State.Warmed39.refl s, rfl⟩ trivial
  refine ⟨n, _, h1, h2, h3, hpost _ _ _ _ _ _ ⟨Cond.after_iff.mpr rfl, Cond.after_iff.mpr (eq_i res_at (Term.int_eval (1)) rfl), trivial⟩ ⟨hq.1, hq.2.1, hq.2.2.1, (hq.2.2.2.sift fun y hy => Or.inr (N y hy)).mono (by decide) (by decide)⟩⟩
theorem main_1_1 : Claimed_1_1 := comes_1 fun _ _ _ _ _ _ h hF => ⟨h.1, hF⟩
theorem main_1_2 : Claimed_1_2 := comes_1 fun _ _ _ _ _ _ h hF => ⟨h.2.1, hF⟩
end Jvm.Pilot.@@N@@
namespace Jvm.Pilot.@@N@@
open Jvm Jvm.ClassFile Sem Op Lib Jvm.Free Jvm.Stand Jvm.Pilot.@@N@@.Jvm.D
/-! MADE BY PROGRAM (witnessworld.py) out of the Statement's table words and the real class files: 19 classes; the members and pool entries that the words name. The judged class is class 1, her method 4. -/
namespace start1
open Jvm.ClassFile
def u (s : String) : CpInfo := .utf8 (stringToUtf16 s)
/-- a pool by its gaps: so many unusable entries, then the entry; so many at the end -/
def gap : Nat → List CpInfo → List CpInfo
  | 0, r => r
  | n + 1, r => .unusable :: gap n r
def poolList (es : List (Nat × CpInfo)) (last : Nat) : List CpInfo := es.foldr (fun e r => gap e.1 (e.2 :: r)) (gap last [])
def pool (es : List (Nat × CpInfo)) (last : Nat) : Array CpInfo := ⟨poolList es last⟩
def fileOf (pool : Array CpInfo) (this : Nat) (attrs : Array Attribute := #[]) (ms : Array MethodInfo := #[]) (fl : Nat := 33) (sup : Nat := 0) (ifs : Array Nat := #[]) (fds : Array FieldInfo := #[]) : ClassFile where
  minorVersion := 0
  majorVersion := 65
  constantPool := pool
  accessFlags := fl
  thisClass := this
  superClass := sup
  interfaces := ifs
  fields := fds
  methods := ms
  attributes := attrs
def plain (name : String) (sup : Option ClassId) : Class where
  name := name
  kind := .ordinary
  loader := none
  accessFlags := 33
  super := sup
  interfaces := #[]
  cf := none
  fields := #[]
  methods := #[]
  instanceTypes := #[]
  staticTypes := #[]
  resolved := #[]
  callSites := []
  init := .initialized
  statics := none
  mirror := none

def pool0 : Array CpInfo := pool [(5, u "<init>"), (0, u "()V"), (1, .class_ 10), (1, u "java/lang/Object")] 113

def k0c0 : Code := { maxStack := 0, maxLocals := 1, code := object_method_1_code, exceptionTable := #[], attributes := #[] }
def k0m0 : Method := { name := "<init>", desc := "()V", sig := { parameters := [], returnType := none }, accessFlags := 1, code := some k0c0 }
/-- java/lang/Object -/
def k0 : Class := { plain "java/lang/Object" none with
  accessFlags := 33
  interfaces := #[]
  cf := some (fileOf pool0 8 #[] #[{ accessFlags := 1, nameIndex := 5, descriptorIndex := 6, attributes := #[] }] 33 0 #[] #[])
  fields := #[]
  methods := #[k0m0]
  instanceTypes := #[]
  staticTypes := #[]
  resolved := Array.replicate 124 none
  statics := none }

def pool1 : Array CpInfo := pool [(2, .class_ 4), (1, u "java/lang/Object"), (0, u "<init>"), (0, u "()V"), (0, .methodref 8 9), (0, .class_ 10), (0, .nameAndType 11 12), (0, u "com/example/loopwright/loopwright/AnnotateCommandLoopLineStartPinLaw"), (0, u "content"), (0, u "(I)B"), (0, .methodref 8 14), (0, .nameAndType 15 16), (0, u "line"), (0, u "([BIII)I"), (0, .methodref 8 18), (0, .nameAndType 19 12), (0, u "blank"), (0, .class_ 21), (0, u "com/example/loopwright/loopwright/Lexer$Token"), (0, .fieldref 23 24), (0, .class_ 25), (0, .nameAndType 26 27), (0, u "com/example/loopwright/loopwright/Lexer$Kind"), (0, u "IDENTIFIER"), (0, u "Lcom/example/loopwright/loopwright/Lexer$Kind;"), (0, .string 29), (0, u "while"), (0, .methodref 20 31), (0, .nameAndType 5 32), (0, u "(Lcom/example/loopwright/loopwright/Lexer$Kind;Ljava/lang/String;II)V"), (0, .string 34), (0, u "f.c"), (0, .methodref 36 37), (0, .class_ 38), (0, .nameAndType 39 40), (0, u "com/example/loopwright/loopwright/AnnotateCommand"), (0, u "loopLineStart"), (0, u "([BLcom/example/loopwright/loopwright/Lexer$Token;Ljava/lang/String;)I"), (3, u "law"), (0, u "(IIIII)Z")] 12

def k1m0 : Method := { name := "<init>", desc := "()V", sig := { parameters := [], returnType := none }, accessFlags := 2, code := none }
def k1c1 : Code := { maxStack := 2, maxLocals := 2, code := method_2_code, exceptionTable := #[], attributes := #[] }
def k1m1 : Method := { name := "content", desc := "(I)B", sig := { parameters := [.int], returnType := some .byte }, accessFlags := 10, code := some k1c1 }
def k1c2 : Code := { maxStack := 2, maxLocals := 1, code := method_3_code, exceptionTable := #[], attributes := #[] }
def k1m2 : Method := { name := "blank", desc := "(I)B", sig := { parameters := [.int], returnType := some .byte }, accessFlags := 10, code := some k1c2 }
def k1c3 : Code := { maxStack := 4, maxLocals := 4, code := method_4_code, exceptionTable := #[], attributes := #[] }
def k1m3 : Method := { name := "line", desc := "([BIII)I", sig := { parameters := [(.array .byte), .int, .int, .int], returnType := some .int }, accessFlags := 10, code := some k1c3 }
def k1c4 : Code := { maxStack := 6, maxLocals := 15, code := code, exceptionTable := #[], attributes := #[] }
def k1m4 : Method := { name := "law", desc := "(IIIII)Z", sig := { parameters := [.int, .int, .int, .int, .int], returnType := some .boolean }, accessFlags := 9, code := some k1c4 }
/-- com/example/loopwright/loopwright/AnnotateCommandLoopLineStartPinLaw -/
def k1 : Class := { plain "com/example/loopwright/loopwright/AnnotateCommandLoopLineStartPinLaw" (some 0) with
  accessFlags := 49
  interfaces := #[]
  cf := some (fileOf pool1 8 #[] #[{ accessFlags := 2, nameIndex := 5, descriptorIndex := 6, attributes := #[] }, { accessFlags := 10, nameIndex := 11, descriptorIndex := 12, attributes := #[] }, { accessFlags := 10, nameIndex := 19, descriptorIndex := 12, attributes := #[] }, { accessFlags := 10, nameIndex := 15, descriptorIndex := 16, attributes := #[] }, { accessFlags := 9, nameIndex := 44, descriptorIndex := 45, attributes := #[] }] 49 2 #[] #[])
  fields := #[]
  methods := #[k1m0, k1m1, k1m2, k1m3, k1m4]
  instanceTypes := #[]
  staticTypes := #[]
  resolved := Array.replicate 58 none
  statics := none }

def pool2 : Array CpInfo := pool [(1, .methodref 2 3), (0, .class_ 4), (0, .nameAndType 5 6), (0, u "java/lang/Object"), (0, u "<init>"), (0, u "()V"), (0, .class_ 8), (0, u "java/lang/Record")] 13

def k2c0 : Code := { maxStack := 1, maxLocals := 1, code := jdk_30_method_1_code, exceptionTable := #[], attributes := #[] }
def k2m0 : Method := { name := "<init>", desc := "()V", sig := { parameters := [], returnType := none }, accessFlags := 4, code := some k2c0 }
/-- java/lang/Record -/
def k2 : Class := { plain "java/lang/Record" (some 0) with
  accessFlags := 1057
  interfaces := #[]
  cf := some (fileOf pool2 7 #[] #[{ accessFlags := 4, nameIndex := 5, descriptorIndex := 6, attributes := #[] }] 1057 2 #[] #[])
  fields := #[]
  methods := #[k2m0]
  instanceTypes := #[]
  staticTypes := #[]
  resolved := Array.replicate 22 none
  statics := none }

def pool3 : Array CpInfo := pool [(1, .methodref 2 3), (0, .class_ 4), (0, .nameAndType 5 6), (0, u "java/lang/Record"), (0, u "<init>"), (0, u "()V"), (0, .fieldref 8 9), (0, .class_ 10), (0, .nameAndType 11 12), (0, u "com/example/loopwright/loopwright/Lexer$Token"), (0, u "kind"), (0, u "Lcom/example/loopwright/loopwright/Lexer$Kind;"), (0, .fieldref 8 14), (0, .nameAndType 15 16), (0, u "text"), (0, u "Ljava/lang/String;"), (0, .fieldref 8 18), (0, .nameAndType 19 20), (0, u "line"), (0, u "I"), (0, .fieldref 8 22), (0, .nameAndType 23 20), (0, u "column"), (25, u "(Lcom/example/loopwright/loopwright/Lexer$Kind;Ljava/lang/String;II)V"), (8, u "()I"), (4, .class_ 64), (0, u "com/example/loopwright/loopwright/Lexer")] 23

def k3c0 : Code := { maxStack := 2, maxLocals := 5, code := prog_56_method_1_code, exceptionTable := #[], attributes := #[] }
def k3m0 : Method := { name := "<init>", desc := "(Lcom/example/loopwright/loopwright/Lexer$Kind;Ljava/lang/String;II)V", sig := { parameters := [(.object "com/example/loopwright/loopwright/Lexer$Kind"), (.object "java/lang/String"), .int, .int], returnType := none }, accessFlags := 0, code := some k3c0 }
def k3c1 : Code := { maxStack := 1, maxLocals := 1, code := prog_56_method_9_code, exceptionTable := #[], attributes := #[] }
def k3m1 : Method := { name := "line", desc := "()I", sig := { parameters := [], returnType := some .int }, accessFlags := 1, code := some k3c1 }
def k3c2 : Code := { maxStack := 1, maxLocals := 1, code := prog_56_method_10_code, exceptionTable := #[], attributes := #[] }
def k3m2 : Method := { name := "column", desc := "()I", sig := { parameters := [], returnType := some .int }, accessFlags := 1, code := some k3c2 }
/-- com/example/loopwright/loopwright/Lexer$Token -/
def k3 : Class := { plain "com/example/loopwright/loopwright/Lexer$Token" (some 2) with
  accessFlags := 48
  interfaces := #[]
  cf := some (fileOf pool3 8 #[.nestHost 63] #[{ accessFlags := 0, nameIndex := 5, descriptorIndex := 49, attributes := #[] }, { accessFlags := 1, nameIndex := 19, descriptorIndex := 58, attributes := #[] }, { accessFlags := 1, nameIndex := 23, descriptorIndex := 58, attributes := #[] }] 48 2 #[] #[{ accessFlags := 18, nameIndex := 11, descriptorIndex := 12, attributes := #[] }, { accessFlags := 18, nameIndex := 15, descriptorIndex := 16, attributes := #[] }, { accessFlags := 18, nameIndex := 19, descriptorIndex := 20, attributes := #[] }, { accessFlags := 18, nameIndex := 23, descriptorIndex := 20, attributes := #[] }])
  fields := #[{ name := "kind", type := (.object "com/example/loopwright/loopwright/Lexer$Kind"), accessFlags := 18, slot := 0, constantValue := 0 }, { name := "text", type := (.object "java/lang/String"), accessFlags := 18, slot := 1, constantValue := 0 }, { name := "line", type := .int, accessFlags := 18, slot := 2, constantValue := 0 }, { name := "column", type := .int, accessFlags := 18, slot := 3, constantValue := 0 }]
  methods := #[k3m0, k3m1, k3m2]
  instanceTypes := #[(.object "com/example/loopwright/loopwright/Lexer$Kind"), (.object "java/lang/String"), .int, .int]
  staticTypes := #[]
  resolved := Array.replicate 88 none
  statics := none }

def pool4 : Array CpInfo := pool [(1, .class_ 2), (0, u "java/lang/constant/Constable"), (0, .class_ 4), (0, u "java/lang/Object")] 6

/-- java/lang/constant/Constable -/
def k4 : Class := { plain "java/lang/constant/Constable" (some 0) with
  accessFlags := 1537
  interfaces := #[]
  cf := some (fileOf pool4 1 #[] #[] 1537 3 #[] #[])
  fields := #[]
  methods := #[]
  instanceTypes := #[]
  staticTypes := #[]
  resolved := Array.replicate 11 none
  statics := none }

def pool5 : Array CpInfo := pool [(1, .class_ 2), (0, u "java/lang/Comparable"), (0, .class_ 4), (0, u "java/lang/Object")] 7

/-- java/lang/Comparable -/
def k5 : Class := { plain "java/lang/Comparable" (some 0) with
  accessFlags := 1537
  interfaces := #[]
  cf := some (fileOf pool5 1 #[] #[] 1537 3 #[] #[])
  fields := #[]
  methods := #[]
  instanceTypes := #[]
  staticTypes := #[]
  resolved := Array.replicate 12 none
  statics := none }

def pool6 : Array CpInfo := pool [(1, .class_ 2), (0, u "java/io/Serializable"), (0, .class_ 4), (0, u "java/lang/Object")] 2

/-- java/io/Serializable -/
def k6 : Class := { plain "java/io/Serializable" (some 0) with
  accessFlags := 1537
  interfaces := #[]
  cf := some (fileOf pool6 1 #[] #[] 1537 3 #[] #[])
  fields := #[]
  methods := #[]
  instanceTypes := #[]
  staticTypes := #[]
  resolved := Array.replicate 7 none
  statics := none }

def pool7 : Array CpInfo := pool [(2, .class_ 4), (1, u "java/lang/Enum"), (0, u "name"), (0, u "Ljava/lang/String;"), (2, u "ordinal"), (0, u "I"), (1, .class_ 14), (1, u "java/lang/Object"), (4, u "hash"), (86, .class_ 108), (1, u "java/lang/Enum$EnumDesc"), (2, .class_ 112), (0, u "java/lang/constant/Constable"), (0, .class_ 114), (0, u "java/lang/Comparable"), (0, .class_ 116), (0, u "java/io/Serializable")] 87

/-- java/lang/Enum -/
def k7 : Class := { plain "java/lang/Enum" (some 0) with
  accessFlags := 1057
  interfaces := #[4, 5, 6]
  cf := some (fileOf pool7 2 #[.nestMembers #[106]] #[] 1057 12 #[111, 113, 115] #[{ accessFlags := 18, nameIndex := 5, descriptorIndex := 6, attributes := #[] }, { accessFlags := 18, nameIndex := 9, descriptorIndex := 10, attributes := #[] }, { accessFlags := 2, nameIndex := 19, descriptorIndex := 10, attributes := #[] }])
  fields := #[{ name := "name", type := (.object "java/lang/String"), accessFlags := 18, slot := 0, constantValue := 0 }, { name := "ordinal", type := .int, accessFlags := 18, slot := 1, constantValue := 0 }, { name := "hash", type := .int, accessFlags := 2, slot := 2, constantValue := 0 }]
  methods := #[]
  instanceTypes := #[(.object "java/lang/String"), .int, .int]
  staticTypes := #[]
  resolved := Array.replicate 204 none
  statics := none }

def pool8 : Array CpInfo := pool [(1, .class_ 2), (0, u "com/example/loopwright/loopwright/Lexer$Kind"), (2, u "IDENTIFIER"), (0, u "Lcom/example/loopwright/loopwright/Lexer$Kind;"), (2, u "NUMBER"), (2, u "SYMBOL"), (2, u "ANNOTATION"), (2, u "ANNOTATION_END"), (2, u "END"), (2, u "$VALUES"), (0, u "[Lcom/example/loopwright/loopwright/Lexer$Kind;"), (6, .class_ 34), (1, u "java/lang/Enum"), (29, .class_ 65), (0, u "com/example/loopwright/loopwright/Lexer")] 2

/-- com/example/loopwright/loopwright/Lexer$Kind -/
def k8 : Class := { plain "com/example/loopwright/loopwright/Lexer$Kind" (some 7) with
  accessFlags := 16432
  interfaces := #[]
  cf := some (fileOf pool8 1 #[.nestHost 64] #[] 16432 32 #[] #[{ accessFlags := 16409, nameIndex := 5, descriptorIndex := 6, attributes := #[] }, { accessFlags := 16409, nameIndex := 9, descriptorIndex := 6, attributes := #[] }, { accessFlags := 16409, nameIndex := 12, descriptorIndex := 6, attributes := #[] }, { accessFlags := 16409, nameIndex := 15, descriptorIndex := 6, attributes := #[] }, { accessFlags := 16409, nameIndex := 18, descriptorIndex := 6, attributes := #[] }, { accessFlags := 16409, nameIndex := 21, descriptorIndex := 6, attributes := #[] }, { accessFlags := 4122, nameIndex := 24, descriptorIndex := 25, attributes := #[] }])
  fields := #[{ name := "IDENTIFIER", type := (.object "com/example/loopwright/loopwright/Lexer$Kind"), accessFlags := 16409, slot := 0, constantValue := 0 }, { name := "NUMBER", type := (.object "com/example/loopwright/loopwright/Lexer$Kind"), accessFlags := 16409, slot := 1, constantValue := 0 }, { name := "SYMBOL", type := (.object "com/example/loopwright/loopwright/Lexer$Kind"), accessFlags := 16409, slot := 2, constantValue := 0 }, { name := "ANNOTATION", type := (.object "com/example/loopwright/loopwright/Lexer$Kind"), accessFlags := 16409, slot := 3, constantValue := 0 }, { name := "ANNOTATION_END", type := (.object "com/example/loopwright/loopwright/Lexer$Kind"), accessFlags := 16409, slot := 4, constantValue := 0 }, { name := "END", type := (.object "com/example/loopwright/loopwright/Lexer$Kind"), accessFlags := 16409, slot := 5, constantValue := 0 }, { name := "$VALUES", type := (.array (.object "com/example/loopwright/loopwright/Lexer$Kind")), accessFlags := 4122, slot := 6, constantValue := 0 }]
  methods := #[]
  instanceTypes := #[(.object "java/lang/String"), .int, .int]
  staticTypes := #[(.object "com/example/loopwright/loopwright/Lexer$Kind"), (.object "com/example/loopwright/loopwright/Lexer$Kind"), (.object "com/example/loopwright/loopwright/Lexer$Kind"), (.object "com/example/loopwright/loopwright/Lexer$Kind"), (.object "com/example/loopwright/loopwright/Lexer$Kind"), (.object "com/example/loopwright/loopwright/Lexer$Kind"), (.array (.object "com/example/loopwright/loopwright/Lexer$Kind"))]
  resolved := Array.replicate 68 none
  statics := some 0 }

def pool9 : Array CpInfo := pool [(2, .class_ 4), (1, u "java/lang/CharSequence"), (42, .class_ 48), (0, u "java/lang/CharSequence$1CodePointIterator"), (10, .class_ 60), (0, u "java/lang/CharSequence$1CharIterator"), (5, .class_ 67), (0, u "java/lang/Object")] 63

/-- java/lang/CharSequence -/
def k9 : Class := { plain "java/lang/CharSequence" (some 0) with
  accessFlags := 1537
  interfaces := #[]
  cf := some (fileOf pool9 2 #[.nestMembers #[47, 59]] #[] 1537 66 #[] #[])
  fields := #[]
  methods := #[]
  instanceTypes := #[]
  staticTypes := #[]
  resolved := Array.replicate 131 none
  statics := none }

def pool10 : Array CpInfo := pool [(1, .class_ 2), (0, u "java/lang/constant/ConstantDesc"), (0, .class_ 4), (0, u "java/lang/Object")] 32

/-- java/lang/constant/ConstantDesc -/
def k10 : Class := { plain "java/lang/constant/ConstantDesc" (some 0) with
  accessFlags := 1537
  interfaces := #[]
  cf := some (fileOf pool10 1 #[] #[] 1537 3 #[] #[])
  fields := #[]
  methods := #[]
  instanceTypes := #[]
  staticTypes := #[]
  resolved := Array.replicate 37 none
  statics := none }

def pool11 : Array CpInfo := pool [(2, .class_ 4), (1, u "java/lang/Object"), (0, u "<init>"), (0, u "()V"), (3, .class_ 12), (1, u "java/lang/String"), (0, u "value"), (0, u "[B"), (2, u "coder"), (0, u "B"), (2, u "hash"), (0, u "I"), (2, u "hashIsZero"), (0, u "Z"), (13, u "COMPACT_STRINGS"), (534, .class_ 576), (0, u "java/lang/CharSequence"), (22, u "CASE_INSENSITIVE_ORDER"), (0, u "Ljava/util/Comparator;"), (500, u "serialPersistentFields"), (0, u "[Ljava/io/ObjectStreamField;"), (0, .class_ 1104), (0, u "java/lang/String$CaseInsensitiveComparator"), (1, .class_ 1107), (0, u "java/io/Serializable"), (0, .class_ 1109), (0, u "java/lang/Comparable"), (0, .class_ 1111), (0, u "java/lang/constant/Constable"), (0, .class_ 1113), (0, u "java/lang/constant/ConstantDesc"), (2, u "serialVersionUID"), (0, u "J"), (3, u "REPL"), (0, u "C"), (2, u "LATIN1"), (1, u "UTF16")] 323

def k11m0 : Method := { name := "<init>", desc := "()V", sig := { parameters := [], returnType := none }, accessFlags := 1, code := none }
/-- java/lang/String -/
def k11 : Class := { plain "java/lang/String" (some 0) with
  accessFlags := 49
  interfaces := #[6, 5, 9, 4, 10]
  cf := some (fileOf pool11 10 #[.nestMembers #[1103]] #[{ accessFlags := 1, nameIndex := 5, descriptorIndex := 6, attributes := #[] }] 49 2 #[1106, 1108, 575, 1110, 1112] #[{ accessFlags := 18, nameIndex := 13, descriptorIndex := 14, attributes := #[] }, { accessFlags := 18, nameIndex := 17, descriptorIndex := 18, attributes := #[] }, { accessFlags := 2, nameIndex := 21, descriptorIndex := 22, attributes := #[] }, { accessFlags := 2, nameIndex := 25, descriptorIndex := 26, attributes := #[] }, { accessFlags := 26, nameIndex := 1116, descriptorIndex := 1117, attributes := #[] }, { accessFlags := 24, nameIndex := 40, descriptorIndex := 26, attributes := #[] }, { accessFlags := 26, nameIndex := 1101, descriptorIndex := 1102, attributes := #[] }, { accessFlags := 26, nameIndex := 1121, descriptorIndex := 1122, attributes := #[] }, { accessFlags := 25, nameIndex := 599, descriptorIndex := 600, attributes := #[] }, { accessFlags := 24, nameIndex := 1125, descriptorIndex := 18, attributes := #[] }, { accessFlags := 24, nameIndex := 1127, descriptorIndex := 18, attributes := #[] }])
  fields := #[{ name := "value", type := (.array .byte), accessFlags := 18, slot := 0, constantValue := 0 }, { name := "coder", type := .byte, accessFlags := 18, slot := 1, constantValue := 0 }, { name := "hash", type := .int, accessFlags := 2, slot := 2, constantValue := 0 }, { name := "hashIsZero", type := .boolean, accessFlags := 2, slot := 3, constantValue := 0 }, { name := "serialVersionUID", type := .long, accessFlags := 26, slot := 0, constantValue := 0 }, { name := "COMPACT_STRINGS", type := .boolean, accessFlags := 24, slot := 1, constantValue := 0 }, { name := "serialPersistentFields", type := (.array (.object "java/io/ObjectStreamField")), accessFlags := 26, slot := 2, constantValue := 0 }, { name := "REPL", type := .char, accessFlags := 26, slot := 3, constantValue := 0 }, { name := "CASE_INSENSITIVE_ORDER", type := (.object "java/util/Comparator"), accessFlags := 25, slot := 4, constantValue := 0 }, { name := "LATIN1", type := .byte, accessFlags := 24, slot := 5, constantValue := 0 }, { name := "UTF16", type := .byte, accessFlags := 24, slot := 6, constantValue := 0 }]
  methods := #[k11m0]
  instanceTypes := #[(.array .byte), .byte, .int, .boolean]
  staticTypes := #[.long, .boolean, (.array (.object "java/io/ObjectStreamField")), .char, (.object "java/util/Comparator"), .byte, .byte]
  resolved := Array.replicate 1451 none
  statics := none }

def pool12 : Array CpInfo := pool [(1, .class_ 2), (0, u "com/example/loopwright/loopwright/Command"), (0, .class_ 4), (0, u "java/lang/Object")] 16

/-- com/example/loopwright/loopwright/Command -/
def k12 : Class := { plain "com/example/loopwright/loopwright/Command" (some 0) with
  accessFlags := 1537
  interfaces := #[]
  cf := some (fileOf pool12 1 #[] #[] 1537 3 #[] #[])
  fields := #[]
  methods := #[]
  instanceTypes := #[]
  staticTypes := #[]
  resolved := Array.replicate 21 none
  statics := none }

def pool13 : Array CpInfo := pool [(2, .class_ 4), (1, u "java/lang/Object"), (0, u "<init>"), (0, u "()V"), (5, .class_ 14), (1, u "com/example/loopwright/loopwright/AnnotateCommand"), (3, .class_ 20), (1, u "com/example/loopwright/loopwright/AnnotateCommand$Request"), (49, u "loopLineStart"), (0, u "([BLcom/example/loopwright/loopwright/Lexer$Token;Ljava/lang/String;)I"), (72, .methodref 145 146), (0, .class_ 147), (0, .nameAndType 148 149), (0, u "com/example/loopwright/loopwright/Lexer$Token"), (0, u "line"), (0, u "()I"), (0, .methodref 145 151), (0, .nameAndType 152 149), (0, u "column"), (181, .class_ 335), (0, u "com/example/loopwright/loopwright/Command"), (0, u "USAGE"), (0, u "Ljava/lang/String;"), (1, u "ORIGIN"), (0, u "CONTINUATION")] 52

def k13m0 : Method := { name := "<init>", desc := "()V", sig := { parameters := [], returnType := none }, accessFlags := 1, code := none }
def k13c1 : Code := { maxStack := 5, maxLocals := 5, code := prog_4_method_5_code, exceptionTable := #[], attributes := #[] }
def k13m1 : Method := { name := "loopLineStart", desc := "([BLcom/example/loopwright/loopwright/Lexer$Token;Ljava/lang/String;)I", sig := { parameters := [(.array .byte), (.object "com/example/loopwright/loopwright/Lexer$Token"), (.object "java/lang/String")], returnType := some .int }, accessFlags := 8, code := some k13c1 }
/-- com/example/loopwright/loopwright/AnnotateCommand -/
def k13 : Class := { plain "com/example/loopwright/loopwright/AnnotateCommand" (some 0) with
  accessFlags := 49
  interfaces := #[12]
  cf := some (fileOf pool13 12 #[.nestMembers #[18]] #[{ accessFlags := 1, nameIndex := 5, descriptorIndex := 6, attributes := #[] }, { accessFlags := 8, nameIndex := 70, descriptorIndex := 71, attributes := #[] }] 49 2 #[334] #[{ accessFlags := 26, nameIndex := 336, descriptorIndex := 337, attributes := #[] }, { accessFlags := 26, nameIndex := 339, descriptorIndex := 337, attributes := #[] }, { accessFlags := 26, nameIndex := 340, descriptorIndex := 337, attributes := #[] }])
  fields := #[{ name := "USAGE", type := (.object "java/lang/String"), accessFlags := 26, slot := 0, constantValue := 0 }, { name := "ORIGIN", type := (.object "java/lang/String"), accessFlags := 26, slot := 1, constantValue := 0 }, { name := "CONTINUATION", type := (.object "java/lang/String"), accessFlags := 26, slot := 2, constantValue := 0 }]
  methods := #[k13m0, k13m1]
  instanceTypes := #[]
  staticTypes := #[(.object "java/lang/String"), (.object "java/lang/String"), (.object "java/lang/String")]
  resolved := Array.replicate 393 none
  statics := none }

def pool14 : Array CpInfo := pool [(1, u "java/lang/Cloneable"), (0, .class_ 1), (0, u "java/lang/Object"), (0, .class_ 3)] 3

/-- java/lang/Cloneable -/
def k14 : Class := { plain "java/lang/Cloneable" (some 0) with
  accessFlags := 1537
  interfaces := #[]
  cf := some (fileOf pool14 2 #[] #[] 1537 4 #[] #[])
  fields := #[]
  methods := #[]
  instanceTypes := #[]
  staticTypes := #[]
  resolved := Array.replicate 8 none
  statics := none }

/-- the primitive byte -/
def k15 : Class := { plain "byte" none with kind := .primitive 'B', accessFlags := 0x411 }
/-- [B -/
def k16 : Class := { plain "[B" (some 0) with kind := .array 15 .byte, interfaces := #[14, 6], accessFlags := 1041 }

/-- the primitive int -/
def k17 : Class := { plain "int" none with kind := .primitive 'I', accessFlags := 0x411 }
/-- [I -/
def k18 : Class := { plain "[I" (some 0) with kind := .array 17 .int, interfaces := #[14, 6], accessFlags := 1041 }

def heap : Heap := #[{ cls := 8, slots := #[.ref 1, .null, .null, .null, .null, .null, .null], vm := .statics 8 },
  { cls := 8, slots := #[.null, .int 0, .int 0], vm := .none }]
def classes : Array Class := #[k0, k1, k2, k3, k4, k5, k6, k7, k8, k9, k10, k11, k12, k13, k14, k15, k16, k17, k18]
def interned : List (Array UInt16 × Addr) := []
def slotsUsed : Nat := 10
def theMethod : MethodId := ⟨1, 4⟩
def args0 : Array Value := #[.int 1, .int 2, .int 3, .int 4, .int 5]
def aboutOver (below : List Frame) : State where
  vm := { classes := classes, interned := interned.toArray }
  heap := heap
  slotsUsed := slotsUsed
  threads := #[{ frames := .invoking theMethod args0 :: below }]
def below0 : List Frame := [.native { method := ⟨0, 0⟩, args := #[] }]
def about1 : State := aboutOver below0
def p0 : Program := .bare "" "" ""
def e0 : Env := launch0.env 0 0 0
theorem w_frames : about1.frames = Frame.invoking theMethod args0 :: below0 := rfl
set_option maxRecDepth 65536 in
theorem w_args : argsFit about1.vm theMethod args0 = true := by decide +kernel
set_option maxRecDepth 65536 in
theorem w_heap : heapFits about1 = true := by decide +kernel
set_option maxRecDepth 65536 in
theorem w_runnable : about1.curStatus? = some .runnable := by decide +kernel
set_option maxRecDepth 65536 in
theorem w_alone : about1.alone = true := by decide +kernel
set_option maxRecDepth 65536 in
theorem w_named : about1.methodNamed? x = some theMethod := by decide +kernel
set_option maxRecDepth 65536 in
theorem w_hears : about1.hears theMethod below0 = true := by decide +kernel
set_option maxRecDepth 65536 in
theorem w_ripe : about1.ripe theMethod args0 below0 = true := by decide +kernel
theorem w_running : about1.status = .running := rfl
set_option maxRecDepth 65536 in
theorem w_room : about1.hasRoom e0.platform room_1 = true :=
  launch0.hasRoom_least _ room_1 (by decide +kernel) (by decide +kernel) (by decide +kernel) (by decide +kernel) (by decide +kernel) (by decide +kernel)
theorem allAtoms_all (ts : List Jvm.Cond) (a : Array Jvm.Value) (st : Jvm.State) : (allAtoms ts).before a st = ts.all (fun c => c.before a st) := by
  induction ts with
  | nil => rfl
  | cons c t ih =>
    show (Jvm.Cond.and c (allAtoms t)).before a st = _
    rw [Jvm.Cond.before_and, ih, List.all_cons]
def words1 : List Jvm.Cond := Jvm.Cond.code x code maxLocals ret :: tables_1
/-- a 'code' word, met by the world's own term for the bytes: nothing is compared byte by byte -/
theorem code_word {y : MethodName} {bytes : ByteArray} {mx : Nat} {rt : Option FieldType} {a : Array Value} {s : State} {m : MethodId} {meth : Method} {c : Code} (h1 : s.methodNamed? y = some m) (h2 : s.vm.method? m = some meth) (h3 : meth.code = some c) (h4 : c.code = bytes)
    (h5 : (c.maxLocals == mx && c.exceptionTable.isEmpty && decide (c.maxStack ≤ mostOperands) && decide (meth.sig.returnType = rt) && !meth.locks && decide (parseMethodDescriptor y.desc = some meth.sig)) = true) : (Jvm.Cond.code y bytes mx rt).before a s = true := by
  simp only [Bool.and_eq_true, beq_iff_eq, Bool.not_eq_true', decide_eq_true_eq] at h5
  obtain ⟨⟨⟨⟨⟨g1, g2⟩, g3⟩, g4⟩, g5⟩, g6⟩ := h5
  simp [Cond.before, Cond.holds, Cond.value, h1, h2, h3, h4, g1, g2, g3, g4, g5, g6]
def isCode : Jvm.Cond → Bool
  | .code _ _ _ _ => true
  | _ => false
theorem all_split {L : List Jvm.Cond} {P : Jvm.Cond → Bool} (h1 : L.all (fun c => isCode c || P c) = true) (h2 : ∀ c ∈ L.filter isCode, P c = true) : L.all P = true := by
  refine List.all_eq_true.mpr fun c hc => ?_
  have h := List.all_eq_true.mp h1 c hc
  rcases Bool.eq_false_or_eq_true (isCode c) with hi | hi
  · exact h2 c (List.mem_filter.mpr ⟨hc, hi⟩)
  · simpa [hi] using h
set_option maxRecDepth 65536 in
theorem w_c0 : (Jvm.Cond.code x code maxLocals ret).before args0 about1 = true := code_word (m := ⟨1, 4⟩) (meth := k1m4) (c := k1c4) (by decide +kernel) rfl rfl rfl (by decide +kernel)
set_option maxRecDepth 65536 in
theorem w_c1 : (Jvm.Cond.code ({ cls := "com/example/loopwright/loopwright/Lexer$Token", name := "<init>", desc := "(Lcom/example/loopwright/loopwright/Lexer$Kind;Ljava/lang/String;II)V" } : Jvm.MethodName) prog_56_method_1_code (5 : Nat) (Option.none : Option Jvm.ClassFile.FieldType)).before args0 about1 = true := code_word (m := ⟨3, 0⟩) (meth := k3m0) (c := k3c0) (by decide +kernel) rfl rfl rfl (by decide +kernel)
set_option maxRecDepth 65536 in
theorem w_c2 : (Jvm.Cond.code ({ cls := "java/lang/Record", name := "<init>", desc := "()V" } : Jvm.MethodName) jdk_30_method_1_code (1 : Nat) (Option.none : Option Jvm.ClassFile.FieldType)).before args0 about1 = true := code_word (m := ⟨2, 0⟩) (meth := k2m0) (c := k2c0) (by decide +kernel) rfl rfl rfl (by decide +kernel)
set_option maxRecDepth 65536 in
theorem w_c3 : (Jvm.Cond.code ({ cls := "java/lang/Object", name := "<init>", desc := "()V" } : Jvm.MethodName) object_method_1_code (1 : Nat) (Option.none : Option Jvm.ClassFile.FieldType)).before args0 about1 = true := code_word (m := ⟨0, 0⟩) (meth := k0m0) (c := k0c0) (by decide +kernel) rfl rfl rfl (by decide +kernel)
set_option maxRecDepth 65536 in
theorem w_c4 : (Jvm.Cond.code ({ cls := "com/example/loopwright/loopwright/AnnotateCommand", name := "loopLineStart", desc := "([BLcom/example/loopwright/loopwright/Lexer$Token;Ljava/lang/String;)I" } : Jvm.MethodName) prog_4_method_5_code (5 : Nat) (Option.some Jvm.ClassFile.FieldType.int)).before args0 about1 = true := code_word (m := ⟨13, 1⟩) (meth := k13m1) (c := k13c1) (by decide +kernel) rfl rfl rfl (by decide +kernel)
set_option maxRecDepth 65536 in
theorem w_c5 : (Jvm.Cond.code ({ cls := "com/example/loopwright/loopwright/Lexer$Token", name := "line", desc := "()I" } : Jvm.MethodName) prog_56_method_9_code (1 : Nat) (Option.some Jvm.ClassFile.FieldType.int)).before args0 about1 = true := code_word (m := ⟨3, 1⟩) (meth := k3m1) (c := k3c1) (by decide +kernel) rfl rfl rfl (by decide +kernel)
set_option maxRecDepth 65536 in
theorem w_c6 : (Jvm.Cond.code ({ cls := "com/example/loopwright/loopwright/Lexer$Token", name := "column", desc := "()I" } : Jvm.MethodName) prog_56_method_10_code (1 : Nat) (Option.some Jvm.ClassFile.FieldType.int)).before args0 about1 = true := code_word (m := ⟨3, 2⟩) (meth := k3m2) (c := k3c2) (by decide +kernel) rfl rfl rfl (by decide +kernel)
set_option maxRecDepth 65536 in
theorem w_c7 : (Jvm.Cond.code ({ cls := "com/example/loopwright/loopwright/AnnotateCommandLoopLineStartPinLaw", name := "line", desc := "([BIII)I" } : Jvm.MethodName) method_4_code (4 : Nat) (Option.some Jvm.ClassFile.FieldType.int)).before args0 about1 = true := code_word (m := ⟨1, 3⟩) (meth := k1m3) (c := k1c3) (by decide +kernel) rfl rfl rfl (by decide +kernel)
set_option maxRecDepth 65536 in
theorem w_c8 : (Jvm.Cond.code ({ cls := "com/example/loopwright/loopwright/AnnotateCommandLoopLineStartPinLaw", name := "blank", desc := "(I)B" } : Jvm.MethodName) method_3_code (1 : Nat) (Option.some Jvm.ClassFile.FieldType.byte)).before args0 about1 = true := code_word (m := ⟨1, 2⟩) (meth := k1m2) (c := k1c2) (by decide +kernel) rfl rfl rfl (by decide +kernel)
set_option maxRecDepth 65536 in
theorem w_c9 : (Jvm.Cond.code ({ cls := "com/example/loopwright/loopwright/AnnotateCommandLoopLineStartPinLaw", name := "content", desc := "(I)B" } : Jvm.MethodName) method_2_code (2 : Nat) (Option.some Jvm.ClassFile.FieldType.byte)).before args0 about1 = true := code_word (m := ⟨1, 1⟩) (meth := k1m1) (c := k1c1) (by decide +kernel) rfl rfl rfl (by decide +kernel)
def codes1 : List Jvm.Cond := [Jvm.Cond.code x code maxLocals ret, Jvm.Cond.code ({ cls := "com/example/loopwright/loopwright/Lexer$Token", name := "<init>", desc := "(Lcom/example/loopwright/loopwright/Lexer$Kind;Ljava/lang/String;II)V" } : Jvm.MethodName) prog_56_method_1_code (5 : Nat) (Option.none : Option Jvm.ClassFile.FieldType), Jvm.Cond.code ({ cls := "java/lang/Record", name := "<init>", desc := "()V" } : Jvm.MethodName) jdk_30_method_1_code (1 : Nat) (Option.none : Option Jvm.ClassFile.FieldType), Jvm.Cond.code ({ cls := "java/lang/Object", name := "<init>", desc := "()V" } : Jvm.MethodName) object_method_1_code (1 : Nat) (Option.none : Option Jvm.ClassFile.FieldType), Jvm.Cond.code ({ cls := "com/example/loopwright/loopwright/AnnotateCommand", name := "loopLineStart", desc := "([BLcom/example/loopwright/loopwright/Lexer$Token;Ljava/lang/String;)I" } : Jvm.MethodName) prog_4_method_5_code (5 : Nat) (Option.some Jvm.ClassFile.FieldType.int), Jvm.Cond.code ({ cls := "com/example/loopwright/loopwright/Lexer$Token", name := "line", desc := "()I" } : Jvm.MethodName) prog_56_method_9_code (1 : Nat) (Option.some Jvm.ClassFile.FieldType.int), Jvm.Cond.code ({ cls := "com/example/loopwright/loopwright/Lexer$Token", name := "column", desc := "()I" } : Jvm.MethodName) prog_56_method_10_code (1 : Nat) (Option.some Jvm.ClassFile.FieldType.int), Jvm.Cond.code ({ cls := "com/example/loopwright/loopwright/AnnotateCommandLoopLineStartPinLaw", name := "line", desc := "([BIII)I" } : Jvm.MethodName) method_4_code (4 : Nat) (Option.some Jvm.ClassFile.FieldType.int), Jvm.Cond.code ({ cls := "com/example/loopwright/loopwright/AnnotateCommandLoopLineStartPinLaw", name := "blank", desc := "(I)B" } : Jvm.MethodName) method_3_code (1 : Nat) (Option.some Jvm.ClassFile.FieldType.byte), Jvm.Cond.code ({ cls := "com/example/loopwright/loopwright/AnnotateCommandLoopLineStartPinLaw", name := "content", desc := "(I)B" } : Jvm.MethodName) method_2_code (2 : Nat) (Option.some Jvm.ClassFile.FieldType.byte)]
set_option maxRecDepth 65536 in
theorem codes_eq : words1.filter isCode = codes1 := rfl
theorem w_codes : ∀ c ∈ words1.filter isCode, c.before args0 about1 = true := by
  rw [codes_eq]
  intro c hc
  simp only [codes1, List.mem_cons, List.not_mem_nil, or_false] at hc
  rcases hc with rfl | rfl | rfl | rfl | rfl | rfl | rfl | rfl | rfl | rfl
  · exact w_c0
  · exact w_c1
  · exact w_c2
  · exact w_c3
  · exact w_c4
  · exact w_c5
  · exact w_c6
  · exact w_c7
  · exact w_c8
  · exact w_c9
set_option maxRecDepth 65536 in
theorem w_t1 : (words1.take 24).all (fun c => isCode c || c.before args0 about1) = true := by decide +kernel
set_option maxRecDepth 65536 in
theorem w_t2 : ((words1.drop 24).take 24).all (fun c => isCode c || c.before args0 about1) = true := by decide +kernel
set_option maxRecDepth 65536 in
theorem w_t3 : ((words1.drop 24).drop 24).all (fun c => isCode c || c.before args0 about1) = true := by decide +kernel
theorem w_tables : (allAtoms (Jvm.Cond.code x code maxLocals ret :: tables_1)).before args0 about1 = true := by
  rw [allAtoms_all]
  show words1.all (fun c => c.before args0 about1) = true
  refine all_split ?_ w_codes
  rw [← List.take_append_drop 24 words1, List.all_append, w_t1, ← List.take_append_drop 24 (words1.drop 24), List.all_append, w_t2, w_t3]
  rfl
set_option maxRecDepth 65536 in
theorem w_case : (Jvm.Cond.and given_1 narrow_1).before args0 about1 = true := by decide +kernel
theorem w_applies : (headSpec (Jvm.Cond.code x code maxLocals ret :: tables_1) room_1).applies x e0.platform about1 = true :=
  (Spec.applies_iff w_frames).mpr ⟨w_running, w_runnable, w_alone, w_named, w_hears, w_ripe, w_room, w_tables⟩
theorem atStart : AtStart classFile x code maxLocals ret World_1 tables_1 room_1 Calls_1 rest_1 Pre_1 launch0 p0 e0 about1 theMethod args0 below0 :=
  ⟨lists_1, trivial, launch0.admits_env _ _ _, launch0.least_env, fairChoices_fair.cas, fairChoices_fair.clock, w_frames, w_args, w_heap, w_applies, trivial, trivial, w_case⟩
end start1
theorem witness_1 : WitnessClaimed_1 := ⟨start1.p0, start1.e0, start1.about1, start1.theMethod, start1.args0, start1.below0, start1.atStart⟩
end Jvm.Pilot.@@N@@
