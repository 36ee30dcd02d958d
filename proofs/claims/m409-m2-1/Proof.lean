import JvmDerived
import JvmDerived.Pilot.@@N@@Statement
import JvmDerived.Pilot.@@N@@Code
set_option linter.unusedVariables false
set_option linter.unusedSimpArgs false
namespace Jvm.RoadKit
open Sem ClassFile Op Lib Jvm.Stand Jvm.Free Jvm.LawKit
section Own
variable {p : Program} {l : Launch} {e : Env} {R : Room} {s : State} {m : MethodId} {args : Array Value} {below : List Frame} {meth : Method} {c : Code} {T : State} {locs : List Loc} {cells slots : Nat}
theorem retI (X : Stand p l e R s m args below meth c T locs cells slots) (hx : p.tables.exec = Jvm.exec) {pc : Nat} {Ls : Array Slot} {z : Int32} {rest : List Value} (hret : meth.sig.returnType = some .int) (hd : decode c.code pc = .ok (.ireturn, 1)) {fs : List Frame}
    (hl : ∀ (f : JFrame) (acts : List Action), f.method = m → f.locked = none → f.entered = [] → (doReturn e (T.setTop f) acts (some (.int z))).1 = T.setFrames fs) : Steps p.tables e below (T.setTop (mkF m pc Ls (.int z :: rest))) (T.setFrames fs) := by
  have hm' : T.vm.method? m = some meth := X.method'
  have hn : narrow .int (.int z) = .int z := rfl
  show Steps p.tables e below (T.setTop { method := m, pc := pc, locals := Ls, stack := _ :: rest, locked := none }) _
  jvm_step X.here [X.here.top, hx, hd, hm', hret, hn]
  first | (intro acts; rw [hl _ acts rfl rfl rfl]) | rw [hl _ _ rfl rfl rfl]
  exact Steps.refl _
/-- the walk comes to an end, with what Φ says there -/
def Goes (p : Program) (e : Env) (below : List Frame) (Φ : State → Outcome → Prop) (S : State) : Prop := ∃ s₂ o, Steps p.tables e below S s₂ ∧ s₂.status = .running ∧ Ended s₂ below o ∧ Φ s₂ o
theorem Goes.via {Φ : State → Outcome → Prop} {S S' : State} (k : ∀ t, Steps p.tables e below S' t → Steps p.tables e below S t) (h : Goes p e below Φ S') : Goes p e below Φ S := by
  obtain ⟨s₂, o, h1, h2, h3, h4⟩ := h
  exact ⟨s₂, o, k _ h1, h2, h3, h4⟩
/-- what a contract's end says -/
def Fin (s : State) (Q : Option Value → Heap → List Loc → Prop) (C S : Nat) : State → Outcome → Prop := fun s₂ o => ∃ v L, o = .returned v ∧ Q v s₂.heap L ∧ FrameEnd s o s₂ L C S
theorem Goes.retN (X : Stand p l e R s m args below meth c T locs cells slots) (hx : p.tables.exec = Jvm.exec) (hlocks : meth.locks = false) {pc : Nat} {Ls : Array Slot} {z : Int32} {t : FieldType} {rest : List Value} (hret : meth.sig.returnType = some t) (ht : t = .boolean ∨ t = .byte ∨ t = .char ∨ t = .short)
    (hd : decode c.code pc = .ok (.ireturn, 1)) {Q : Option Value → Heap → List Loc → Prop} {C S : Nat} (hc : cells ≤ C) (hs : slots ≤ S) (hQ : Q (some (.int (nar t z))) T.heap locs) : Goes p e below (Fin s Q C S) (T.setTop (mkF m pc Ls (.int z :: rest))) := by
  obtain ⟨fs, hr, hrun, hended, hW, hsame⟩ := X.leave (v := some (.int (nar t z))) (fun h => by rw [hret] at h; cases h) hlocks
  exact ⟨_, _, Jvm.RoadKit.retN X hx hret ht hd hr, hrun, hended, _, _, rfl, hQ, ⟨_, rfl⟩, hW, hsame.mono hc hs⟩
theorem Goes.retI (X : Stand p l e R s m args below meth c T locs cells slots) (hx : p.tables.exec = Jvm.exec) (hlocks : meth.locks = false) {pc : Nat} {Ls : Array Slot} {z : Int32} {rest : List Value} (hret : meth.sig.returnType = some .int)
    (hd : decode c.code pc = .ok (.ireturn, 1)) {Q : Option Value → Heap → List Loc → Prop} {C S : Nat} (hc : cells ≤ C) (hs : slots ≤ S) (hQ : Q (some (.int z)) T.heap locs) : Goes p e below (Fin s Q C S) (T.setTop (mkF m pc Ls (.int z :: rest))) := by
  obtain ⟨fs, hr, hrun, hended, hW, hsame⟩ := X.leave (v := some (.int z)) (fun h => by rw [hret] at h; cases h) hlocks
  exact ⟨_, _, Jvm.RoadKit.retI X hx hret hd hr, hrun, hended, _, _, rfl, hQ, ⟨_, rfl⟩, hW, hsame.mono hc hs⟩
theorem Goes.retO (X : Stand p l e R s m args below meth c T locs cells slots) (hx : p.tables.exec = Jvm.exec) (hlocks : meth.locks = false) {pc : Nat} {Ls : Array Slot} {w : Value} {t : FieldType} {i : Instr} {rest : List Value} (hret : meth.sig.returnType = some t) (hn : narrow t w = w)
    (hi : (i = .ireturn ∧ (t = .int ∨ t = .boolean ∨ t = .byte ∨ t = .char ∨ t = .short) ∧ ∃ z, w = .int z) ∨ (i = .lreturn ∧ t = .long ∧ ∃ z, w = .long z) ∨ (i = .dreturn ∧ t = .double ∧ ∃ z, w = .double z) ∨ (i = .freturn ∧ t = .float ∧ ∃ z, w = .float z) ∨ (i = .areturn ∧ t.isReference = true ∧ w.isRef = true))
    (hd : decode c.code pc = .ok (i, 1)) {Q : Option Value → Heap → List Loc → Prop} {C S : Nat} (hc : cells ≤ C) (hs : slots ≤ S) (hQ : Q (some w) T.heap locs) : Goes p e below (Fin s Q C S) (T.setTop (mkF m pc Ls (w :: rest))) := by
  obtain ⟨fs, hr, hrun, hended, hW, hsame⟩ := X.leave (v := some w) (fun h => by rw [hret] at h; cases h) hlocks
  exact ⟨_, _, Jvm.RoadKit.retOut X hx hret hn hi hd hr, hrun, hended, _, _, rfl, hQ, ⟨_, rfl⟩, hW, hsame.mono hc hs⟩
theorem Goes.retV (X : Stand p l e R s m args below meth c T locs cells slots) (hx : p.tables.exec = Jvm.exec) (hlocks : meth.locks = false) {pc : Nat} {Ls : Array Slot} (hret : meth.sig.returnType = none)
    (hd : decode c.code pc = .ok (.return_, 1)) {Q : Option Value → Heap → List Loc → Prop} {C S : Nat} (hc : cells ≤ C) (hs : slots ≤ S) (hQ : Q none T.heap locs) : Goes p e below (Fin s Q C S) (T.setTop (mkF m pc Ls [])) := by
  obtain ⟨fs, hr, hrun, hended, hW, hsame⟩ := X.leave (v := none) (fun _ => rfl) hlocks
  exact ⟨_, _, X.returnOut hx hret hd hr, hrun, hended, _, _, rfl, hQ, ⟨_, rfl⟩, hW, hsame.mono hc hs⟩
/-- room counted generously -/
theorem moreRoom (X : Stand p l e R s m args below meth c T locs cells slots) {k n : Nat} (h1 : cells ≤ k) (h2 : slots ≤ n) : Stand p l e R s m args below meth c T locs k n := { X with same := X.same.mono h1 h2 }
theorem exa_static {args : Array Value} {s : State} {C n d K : String} (h : (Jvm.Cond.exactly (Jvm.Term.static C n d) K).value args s none s [] = some true) : ∃ b, (Jvm.Term.static C n d).eval args s none [] s = some (.ref b) ∧ Exa s s.heap b K := by
  obtain ⟨b, e1⟩ := exa_v h
  exact ⟨b, e1, Exa.start e1 h⟩
theorem fld_static {args : Array Value} {s : State} {t : Jvm.Term} {b : Addr} {C n d : String} {k : Int32} (ev : t.eval args s none [] s = some (.ref b)) (h : (Jvm.Cond.eq (Jvm.Term.field t C n d) (Jvm.Term.int k)).value args s none s [] = some true) : Fld s s.heap b C n d (.int k) := by
  exact Fld.start ((fld_at ev).symm.trans (eqv_i (Term.int_eval k) h))
theorem adr_ne {a b k k' : Nat} (h : a < k) (g : b = k') (q : k ≤ k') : a ≠ b := by omega
theorem cat_ref {v : Value} (h : v.isRef = true) : v.category = 1 := by rcases ref_cases h with rfl | ⟨_, rfl⟩ <;> rfl
theorem narrow_ref {v : Value} {t : FieldType} (h : v.isRef = true) : narrow t v = v := by rcases ref_cases h with rfl | ⟨_, rfl⟩ <;> cases t <;> rfl
theorem fits_refO {v : Value} {C : String} (h : v.isRef = true) : fits (.object C) v = true := by rcases ref_cases h with rfl | ⟨_, rfl⟩ <;> rfl
theorem fld_null {args : Array Value} {s : State} {t : Jvm.Term} {b : Addr} {C n d : String} (ev : t.eval args s none [] s = some (.ref b)) (h : (Jvm.Cond.eq (Jvm.Term.field t C n d) Jvm.Term.null).value args s none s [] = some true) : Fld s s.heap b C n d .null := Fld.start ((fld_at ev).symm.trans (null_v h))
theorem ret1 {z : Int32} (h : z = 1) : some (Value.int (nar .boolean z)) = some (.int 1) := by subst h; rfl
end Own
end Jvm.RoadKit
namespace Jvm.RoadKit
open Sem ClassFile Op Lib Jvm.Stand Jvm.Free Jvm.LawKit
open Jvm.FP Jvm.FP.Core in
theorem own_rr (n : Nat) (K : Nat) (hK : K ≤ 60) (hn : n < 2 ^ (53 + K)) (s : Bool) : ∃ (r q : Nat), q ≤ K ∧ (∀ j, 2 ^ (52 + j) ≤ n → j ≤ q) ∧ (q = 0 ∨ 2 ^ (52 + q) ≤ n) ∧ (∃ (c : Nat) (t : Int), roundRatio b64 s n 1 0 = .fin s c t ∧ c * 2 ^ t.toNat = r * 2 ^ (-t).toNat) ∧ 2 ^ q ∣ r ∧ 2 * r ≤ 2 * n + 2 ^ q ∧ 2 * n ≤ 2 * r + 2 ^ q ∧ (2 ^ q ∣ n → r = n) := by
  by_cases h53 : n < 2 ^ 53
  · refine ⟨n, 0, Nat.zero_le _, ?_, .inl rfl, ?_, ?_, ?_, ?_, fun _ => rfl⟩
    · intro j hj
      have : 52 + j < 53 := (Nat.pow_lt_pow_iff_right (by decide : 1 < 2)).mp (Nat.lt_of_le_of_lt hj h53)
      omega
    · obtain ⟨c, q, hfit, hv⟩ := natFit good_b64 wide_b64 s (n := n) (Nat.le_of_lt h53)
      refine ⟨c, q, roundRatio_exact good_b64 (by decide) hfit hv, ?_⟩
      rw [show (0 - q).toNat = (-q).toNat by omega, show (q - 0).toNat = q.toNat by omega, Nat.mul_one] at hv
      exact hv.symm
    · simp
    · omega
    · omega
  · have n0 : n ≠ 0 := by omega
    have l1 : 2 ^ n.log2 ≤ n := Nat.log2_self_le n0
    have l2 : n < 2 ^ (n.log2 + 1) := Nat.lt_log2_self
    have l3 : 53 < n.log2 + 1 := (Nat.pow_lt_pow_iff_right (by decide : 1 < 2)).mp (Nat.lt_of_le_of_lt (Nat.le_of_not_lt h53) l2)
    have l4 : n.log2 < 53 + K := (Nat.pow_lt_pow_iff_right (by decide : 1 < 2)).mp (Nat.lt_of_le_of_lt l1 hn)
    have l5 : ∀ j, 2 ^ (52 + j) ≤ n → j ≤ n.log2 - 52 := by
      intro j hj
      have : 52 + j < n.log2 + 1 := (Nat.pow_lt_pow_iff_right (by decide : 1 < 2)).mp (Nat.lt_of_le_of_lt hj l2)
      omega
    generalize n.log2 = L at l1 l2 l3 l4 l5
    obtain ⟨q, rfl⟩ : ∃ q, L = 52 + q := ⟨L - 52, by omega⟩
    have p0 := Nat.two_pow_pos q
    have hq : quantum b64 n 1 0 = (q : Int) := by
      refine quantum_eq (by omega) (by decide) ?_ ?_ (.inr ?_)
      · show (2 - ((2 ^ 10 - 1 : Nat) : Int) - (53 : Nat) : Int) ≤ q; omega
      · rw [show ((q : Int) - 0 + (b64.p : Nat)) = ((q + 53 : Nat) : Int) - ((0 : Nat) : Int) by show (q : Int) - 0 + (53 : Nat) = _; omega, below_iff]
        rw [Nat.pow_zero, Nat.mul_one, Nat.one_mul]; rw [show q + 53 = 52 + q + 1 by omega]; exact l2
      · rw [show ((q : Int) - 0 + ((b64.p : Int) - 1)) = ((q + 52 : Nat) : Int) - ((0 : Nat) : Int) by show (q : Int) - 0 + (((53 : Nat) : Int) - 1) = _; omega, below_iff]
        rw [Nat.pow_zero, Nat.mul_one, Nat.one_mul, show q + 52 = 52 + q by omega]; omega
    have hr : roundRatio b64 s n 1 0 = settle b64 s (nearest n (2 ^ q)) q := by
      unfold roundRatio
      rw [if_neg n0]
      unfold roundAt
      rw [hq]
      unfold unitsNum unitsDen
      rw [show ((0 : Int) - (q : Int)).toNat = 0 by omega, show ((q : Int) - 0).toNat = q by omega, Nat.pow_zero, Nat.mul_one, Nat.one_mul]
    have hs := nearest_spec n (2 ^ q) p0
    have hle : nearest n (2 ^ q) ≤ 2 ^ 53 := nearest_le p0 (by rw [← Nat.pow_add]; rw [show 53 + q = 52 + q + 1 by omega]; exact Nat.le_of_lt l2)
    refine ⟨nearest n (2 ^ q) * 2 ^ q, q, by omega, ?_, .inr l1, ?_, Nat.dvd_mul_left _ _, ?_, ?_, ?_⟩
    · intro j hj; have := l5 j hj; omega
    · rw [hr]
      unfold settle
      have qm : (q : Int) + 1 ≤ b64.qmax := by show (q : Int) + 1 ≤ ((2 ^ 10 - 1 : Nat) : Int) - (53 : Nat) + 1; omega
      by_cases hc : nearest n (2 ^ q) < 2 ^ b64.p
      · rw [if_pos hc]; unfold bound; rw [if_pos (by omega)]
        exact ⟨_, _, rfl, by rw [show ((q : Int)).toNat = q by omega, show (-(q : Int)).toNat = 0 by omega, Nat.pow_zero, Nat.mul_one]⟩
      · rw [if_neg hc]; unfold bound; rw [if_pos qm]
        refine ⟨_, _, rfl, ?_⟩
        have e : nearest n (2 ^ q) = 2 ^ 53 := Nat.le_antisymm hle (Nat.le_of_not_lt hc)
        rw [e, show ((q : Int) + 1).toNat = q + 1 by omega, show (-((q : Int) + 1)).toNat = 0 by omega, Nat.pow_zero, Nat.mul_one]
        show 2 ^ 52 * 2 ^ (q + 1) = 2 ^ 53 * 2 ^ q
        rw [← Nat.pow_add, ← Nat.pow_add]; congr 1; omega
    · have := hs.2.1; rw [Nat.mul_assoc] at this; omega
    · have := hs.1; rw [Nat.add_mul, Nat.mul_assoc, Nat.one_mul] at this; omega
    · rintro ⟨k, rfl⟩
      rw [Nat.mul_comm (2 ^ q) k, nearest_exact k p0]
open Jvm.FP Jvm.FP.Core in
theorem own_rnd {i : Int} {d : Datum} (h : Whole i d) (K : Nat) (hK : K ≤ 60) (hi : i.natAbs < 2 ^ (53 + K)) : ∃ (R : Int) (q : Nat), q ≤ K ∧ (∀ j, 2 ^ (52 + j) ≤ i.natAbs → j ≤ q) ∧ (q = 0 ∨ 2 ^ (52 + q) ≤ i.natAbs) ∧ Whole R (round b64 d) ∧ ((2 ^ q : Nat) : Int) ∣ R ∧ 2 * R ≤ 2 * i + ((2 ^ q : Nat) : Int) ∧ 2 * i ≤ 2 * R + ((2 ^ q : Nat) : Int) ∧ (((2 ^ q : Nat) : Int) ∣ i → R = i) := by
  cases d with
  | nan => exact h.elim
  | inf => exact h.elim
  | fin s c q0 =>
    by_cases i0 : i = 0
    · subst i0
      exact ⟨0, 0, Nat.zero_le _, fun j hj => absurd hj (by have := Nat.two_pow_pos (52 + j); simp), .inl rfl, whole_round good_b64 wide_b64 (by decide) h, by simp, by omega, by omega, fun _ => rfl⟩
    · obtain ⟨r, q, h1, h2, h2', ⟨c', t, h3, h4⟩, h5, h6, h7, h8⟩ := own_rr i.natAbs K hK hi s
      have hs := whole_sign h i0
      rw [round_whole h, h3]
      refine ⟨signed s r, q, h1, h2, h2', ?_, ?_, ?_, ?_, ?_⟩
      · show signed s (c' * 2 ^ t.toNat) = signed s r * _
        rw [h4, signed_mul]
      · obtain ⟨k, rfl⟩ := h5
        rw [Nat.mul_comm, signed_mul]; exact Int.dvd_mul_left _ _
      · subst hs; unfold signed; generalize 2 ^ q = Q at *; by_cases hi : i < 0 <;> simp only [hi, decide_true, decide_false, if_true, if_false, Bool.false_eq_true] <;> omega
      · subst hs; unfold signed; generalize 2 ^ q = Q at *; by_cases hi : i < 0 <;> simp only [hi, decide_true, decide_false, if_true, if_false, Bool.false_eq_true] <;> omega
      · intro hd
        have := h8 (Int.natCast_dvd_natCast.mp (by rw [Int.dvd_natAbs]; exact hd))
        subst hs; unfold signed; by_cases hi : i < 0 <;> simp only [hi, decide_true, decide_false, if_true, if_false, Bool.false_eq_true] <;> omega
open Jvm.FP Jvm.FP.Core in
theorem own_again {R : Int} {x : UInt64} (h : Whole R (val64 x)) : Whole R (round b64 (ofInt R)) := by
  by_cases h0 : R = 0
  · subst h0; exact whole_round good_b64 wide_b64 (by decide) (whole_ofInt 0)
  · have hf := round_of_fits good_b64 (val64_fits x)
    generalize val64 x = d at h hf
    cases d with
    | nan => exact h.elim
    | inf => exact h.elim
    | fin s c q =>
      have hs := whole_sign h h0
      rw [round_whole h] at hf
      have e : round b64 (ofInt R) = roundRatio b64 (decide (R < 0)) R.natAbs 1 0 := by
        show round b64 (.fin _ _ _) = _
        rw [round_whole (whole_ofInt R)]
      rw [e, ← hs, hf]; exact h
open Jvm.FP Jvm.FP.Core in
theorem own_64 : Whole 18446744073709551616 (val64 4895412794951729152) := by
  rw [show val64 4895412794951729152 = .fin false 4503599627370496 12 by decide +kernel]; show (signed _ _ : Int) = _; decide +kernel
open Jvm.FP Jvm.FP.Core in
theorem own_63 : Whole 9223372036854775808 (val64 4890909195324358656) := by
  rw [show val64 4890909195324358656 = .fin false 4503599627370496 11 by decide +kernel]; show (signed _ _ : Int) = _; decide +kernel
open Jvm.FP Jvm.FP.Core in
theorem own_z0 : Whole 0 (val64 0) := by
  rw [show val64 0 = .fin false 0 (-1074) by decide +kernel]; show (signed _ _ : Int) = _; decide +kernel
def own_span (k : Int64) : UInt64 := if k < 0 then FP.dadd 4895412794951729152 (FP.l2d k) else FP.l2d k
/-- a whole number below 2^53, up to eleven times doubled -/
def own_ex (D : Int) : Prop := ∃ M j : Nat, M < 2 ^ 53 ∧ j ≤ 11 ∧ D = ((M * 2 ^ j : Nat) : Int)
def own_u (d : Int64) : Int := if d < 0 then d.toInt + 18446744073709551616 else d.toInt
theorem own_p10 {q : Nat} (h : q ≤ 10) : ((2 ^ q : Nat) : Int) ∣ 1024 := by
  rw [show (1024 : Int) = ((2 ^ 10 : Nat) : Int) by decide]; exact Int.natCast_dvd_natCast.mpr (Nat.pow_dvd_pow 2 h)
theorem own_p11 {q : Nat} (h : q ≤ 11) : ((2 ^ q : Nat) : Int) ∣ 2048 := by
  rw [show (2048 : Int) = ((2 ^ 11 : Nat) : Int) by decide]; exact Int.natCast_dvd_natCast.mpr (Nat.pow_dvd_pow 2 h)
theorem own_le {Q a b : Int} (hQ : 0 < Q) (ha : Q ∣ a) (hb : Q ∣ b) (h : 2 * a ≤ 2 * b + Q) : a ≤ b := by
  obtain ⟨x, rfl⟩ := ha; obtain ⟨y, rfl⟩ := hb
  refine Int.mul_le_mul_of_nonneg_left (Int.le_of_not_gt fun hlt => ?_) (Int.le_of_lt hQ)
  have : Q * (y + 1) ≤ Q * x := Int.mul_le_mul_of_nonneg_left hlt (Int.le_of_lt hQ)
  rw [Int.mul_add, Int.mul_one] at this
  omega
open Jvm.FP Jvm.FP.Core in
theorem own_R (d : Int64) : ∃ R : Int, Whole R (val64 (own_span d)) ∧ 0 ≤ R ∧ R ≤ 18446744073709551616 ∧ own_u d - 2048 ≤ R ∧ R ≤ own_u d + 2048 ∧ (9223372036854775808 ≤ R → (2048 : Int) ∣ R) ∧ (own_ex (own_u d) → R = own_u d) := by
  have b1 := d.toInt_lt
  have b2 := d.le_toInt
  have z0 : (0 : Int64).toInt = 0 := by decide
  by_cases hd : d < 0
  · have hn : d.toInt < 0 := by rw [Int64.lt_iff_toInt_lt] at hd; omega
    have eu : own_u d = d.toInt + 18446744073709551616 := by unfold own_u; rw [if_pos hd]
    have es : own_span d = Core.dadd 4895412794951729152 (Core.l2d d) := by unfold own_span; rw [if_pos hd]
    rw [eu, es, val64_dadd, val64_l2d]
    obtain ⟨R1, q1, k1, _, _, w1, v1, l1, g1, x1⟩ := own_rnd (whole_ofInt d.toInt) 11 (by decide) (show _ < 2 ^ 64 by omega)
    have p1 : (0 : Int) < ((2 ^ q1 : Nat) : Int) := by have := Nat.two_pow_pos q1; omega
    have t1 : ((2 ^ q1 : Nat) : Int) ≤ 2048 := Int.le_of_dvd (by decide) (own_p11 k1)
    have n1 : R1 ≤ 0 := own_le p1 v1 (Int.dvd_zero _) (by omega)
    have m1 : -9223372036854775808 ≤ R1 := own_le p1 (Int.dvd_trans (own_p11 k1) (by decide)) v1 (by omega)
    have hsum := whole_sum own_64 w1
    by_cases hz : R1 = 0
    · -- the rounded number is zero only where it is small, and then it is whole
      exfalso
      subst hz
      by_cases sm : d.toInt.natAbs < 2 ^ 53
      · have h2 := whole_round good_b64 wide_b64 (i := d.toInt) (show _ ≤ 2 ^ 53 by omega) (whole_ofInt d.toInt)
        generalize round b64 (ofInt d.toInt) = y at h2 w1
        have := order_whole h2 w1
        have h3 := order_whole w1 w1
        have h4 := order_whole h2 h2
        cases y with
        | nan => exact w1.elim
        | inf => exact w1.elim
        | fin s c q =>
          have c0 := (whole_zero w1).mpr rfl
          have := (whole_zero h2).mp c0
          omega
      · omega
    · obtain ⟨R2, q2, k2, j2, _, w2, v2, l2, g2, x2⟩ := own_rnd hsum 11 (by decide) (show _ < 2 ^ 64 by omega)
      have p2 : (0 : Int) < ((2 ^ q2 : Nat) : Int) := by have := Nat.two_pow_pos q2; omega
      have t2 : ((2 ^ q2 : Nat) : Int) ≤ 2048 := Int.le_of_dvd (by decide) (own_p11 k2)
      have q11 : 11 ≤ q2 := j2 11 (show 2 ^ 63 ≤ _ by omega)
      have d2 : (2048 : Int) ∣ R2 := by
        have : q2 = 11 := by omega
        subst this; exact v2
      refine ⟨R2, w2, ?_, ?_, by omega, by omega, fun _ => d2, ?_⟩
      · omega
      · exact own_le p2 v2 (Int.dvd_trans (own_p11 k2) (by decide)) (by omega)
      · rintro ⟨M, j, hM, hj, e⟩
        have hj11 : j = 11 := by
          refine Nat.le_antisymm hj (Nat.le_of_not_lt fun hlt => ?_)
          have : M * 2 ^ j ≤ 2 ^ 53 * 2 ^ 10 := Nat.mul_le_mul (Nat.le_of_lt hM) (Nat.pow_le_pow_right (by decide) (by omega))
          have e2 : (2 : Nat) ^ 53 * 2 ^ 10 = 9223372036854775808 := by decide
          have : M * 2 ^ j < 2 ^ 53 * 2 ^ 10 := Nat.lt_of_lt_of_le (Nat.mul_lt_mul_of_pos_right hM (Nat.two_pow_pos j)) (Nat.mul_le_mul_left _ (Nat.pow_le_pow_right (by decide) (by omega)))
          omega
        subst hj11
        have dd : (2048 : Int) ∣ d.toInt := by rw [show (2:Nat) ^ 11 = 2048 by decide] at e; omega
        have r1 := x1 (Int.dvd_trans (own_p11 k1) dd)
        have r2 := x2 (Int.dvd_trans (own_p11 k2) (by omega))
        omega
  · have hn : ¬ d.toInt < 0 := by rw [Int64.lt_iff_toInt_lt] at hd; omega
    have eu : own_u d = d.toInt := by unfold own_u; rw [if_neg hd]
    have es : own_span d = Core.l2d d := by unfold own_span; rw [if_neg hd]
    rw [eu, es, val64_l2d]
    obtain ⟨R, q, k, _, hq, w, v, l, g, x⟩ := own_rnd (whole_ofInt d.toInt) 10 (by decide) (show _ < 2 ^ 63 by omega)
    have p1 : (0 : Int) < ((2 ^ q : Nat) : Int) := by have := Nat.two_pow_pos q; omega
    have t1 : ((2 ^ q : Nat) : Int) ≤ 1024 := Int.le_of_dvd (by decide) (own_p10 k)
    have up : R ≤ 9223372036854775808 := own_le p1 v (Int.dvd_trans (own_p10 k) (by decide)) (by omega)
    refine ⟨R, w, own_le p1 (Int.dvd_zero _) v (by omega), by omega, by omega, by omega, fun h => by omega, ?_⟩
    rintro ⟨M, j, hM, hj, e⟩
    refine x ?_
    rcases hq with rfl | hq
    · exact Int.one_dvd _
    · have : q ≤ j := by
        have h1 : M * 2 ^ j < 2 ^ 53 * 2 ^ j := Nat.mul_lt_mul_of_pos_right hM (Nat.two_pow_pos j)
        rw [← Nat.pow_add] at h1
        have h2 : 2 ^ (52 + q) < 2 ^ (53 + j) := by omega
        have := (Nat.pow_lt_pow_iff_right (by decide : 1 < 2)).mp h2
        omega
      rw [e]
      exact Int.natCast_dvd_natCast.mpr (Nat.dvd_trans (Nat.pow_dvd_pow 2 this) (Nat.dvd_mul_left _ _))
theorem own_addsub (a b : Int64) : a + b - a = b := by
  apply Int64.toInt_inj.mp
  have h1 := c_ladd a b
  have h2 := c_lsub (a + b) a
  have r1 := rng64 b
  have r2 := rng64 (a + b - a)
  omega
open Jvm.FP Jvm.FP.Core in
theorem own_cv {X Y : Int} {x y : UInt64} (hx : Whole X (val64 x)) (hy : Whole Y (val64 y)) (o : CmpOp) : cmpValue (FP.dcmp x y) o = if X < Y then -1 else if X = Y then 0 else 1 := by
  have e : FP.dcmp x y = some (compare X Y) := order_whole hx hy
  rw [e, compare_ite]
  by_cases h1 : X < Y
  · rw [if_pos h1, if_pos h1]; cases o <;> rfl
  · rw [if_neg h1, if_neg h1]
    by_cases h2 : X = Y
    · rw [if_pos h2, if_pos h2]; cases o <;> rfl
    · rw [if_neg h2, if_neg h2]; cases o <;> rfl
open Jvm.FP Jvm.FP.Core in
theorem own_clt {X Y : Int} {x y : UInt64} (hx : Whole X (val64 x)) (hy : Whole Y (val64 y)) (o : CmpOp) : cmpValue (FP.dcmp x y) o < (0 : Int32) ↔ X < Y := by
  rw [own_cv hx hy]
  by_cases h1 : X < Y
  · rw [if_pos h1]; exact ⟨fun _ => h1, fun _ => by decide⟩
  · rw [if_neg h1]
    by_cases h2 : X = Y
    · rw [if_pos h2]; exact ⟨fun h => absurd h (by decide), fun h => absurd h h1⟩
    · rw [if_neg h2]; exact ⟨fun h => absurd h (by decide), fun h => absurd h h1⟩
open Jvm.FP Jvm.FP.Core in
theorem own_cgt {X Y : Int} {x y : UInt64} (hx : Whole X (val64 x)) (hy : Whole Y (val64 y)) (o : CmpOp) : (0 : Int32) < cmpValue (FP.dcmp x y) o ↔ Y < X := by
  rw [own_cv hx hy]
  by_cases h1 : X < Y
  · rw [if_pos h1]; exact ⟨fun h => absurd h (by decide), fun h => by omega⟩
  · rw [if_neg h1]
    by_cases h2 : X = Y
    · rw [if_pos h2]; exact ⟨fun h => absurd h (by decide), fun h => by omega⟩
    · rw [if_neg h2]; exact ⟨fun _ => by omega, fun _ => by decide⟩
theorem own_ofm (R : Int) : ((Int64.ofInt R).toInt - R) % 18446744073709551616 = 0 := by
  rw [Int64.toInt_ofInt]; exact bm64 R
theorem own_of {R : Int} (h1 : -9223372036854775808 ≤ R) (h2 : R < 9223372036854775808) : (Int64.ofInt R).toInt = R := by
  have := own_ofm R
  have := rng64 (Int64.ofInt R)
  omega
open Jvm.FP Jvm.FP.Core in
theorem own_d2l {R : Int} {x : UInt64} (hW : Whole R (val64 x)) (h1 : -9223372036854775808 ≤ R) (h2 : R < 9223372036854775808) : FP.d2l x = Int64.ofInt R :=
  d2l_int (show Whole _ _ by rw [own_of h1 h2]; exact hW)
open Jvm.FP Jvm.FP.Core in
/-- a whole double below 2^63: there and back -/
theorem own_same {R : Int} {x : UInt64} (hW : Whole R (val64 x)) (h1 : 0 ≤ R) (h2 : R < 9223372036854775808) (o : CmpOp) : cmpValue (FP.dcmp (FP.l2d (FP.d2l x)) x) o = 0 := by
  have e : Whole R (val64 (FP.l2d (FP.d2l x))) := by
    rw [own_d2l hW (by omega) h2]
    show Whole R (val64 (Core.l2d _))
    rw [val64_l2d, own_of (by omega) h2]
    exact own_again hW
  rw [own_cv e hW, if_neg (by omega), if_pos rfl]
open Jvm.FP Jvm.FP.Core in
theorem own_nn {R : Int} {x : UInt64} (hW : Whole R (val64 x)) : Jvm.Free.Fl.NoNaN64 x := Jvm.Free.Fl.noNaN64_no.mpr ((notNaN_iff x).mpr (Whole.ne_nan hW))
open Jvm.FP Jvm.FP.Core in
theorem own_hi {R : Int} {x : UInt64} (hW : Whole R (val64 x)) (h1 : 9223372036854775808 ≤ R) (h2 : R < 18446744073709551616) (hd : (2048 : Int) ∣ R) : FP.d2l (FP.dsub x 4890909195324358656) + (-9223372036854775808 : Int64) = Int64.ofInt R := by
  have hs : Whole (R - 9223372036854775808) (val64 (Core.dsub x 4890909195324358656)) := by
    rw [val64_dsub]
    have hsum := whole_sum hW (whole_negate own_63)
    obtain ⟨R2, q2, k2, _, _, w2, _, _, _, x2⟩ := own_rnd hsum 10 (by decide) (show _ < 2 ^ 63 by omega)
    have := x2 (Int.dvd_trans (own_p11 (Nat.le_succ_of_le k2)) (by omega))
    rw [this] at w2; exact w2
  have e : FP.d2l (FP.dsub x 4890909195324358656) = Int64.ofInt (R - 9223372036854775808) := own_d2l hs (by omega) (by omega)
  rw [e]
  apply Int64.toInt_inj.mp
  have c1 := c_ladd (Int64.ofInt (R - 9223372036854775808)) (-9223372036854775808)
  have c2 := own_ofm (R - 9223372036854775808)
  have c3 := own_ofm R
  have r1 := rng64 (Int64.ofInt R)
  have r2 := rng64 (Int64.ofInt (R - 9223372036854775808) + (-9223372036854775808))
  have k : (-9223372036854775808 : Int64).toInt = -9223372036854775808 := by decide
  omega
theorem own_um (d : Int64) : (own_u d - d.toInt) % 18446744073709551616 = 0 := by unfold own_u; split <;> omega
theorem own_e0 {R : Int} {d : Int64} (h : R = own_u d) : Int64.ofInt R - d = 0 := by
  apply Int64.toInt_inj.mp
  have c1 := c_lsub (Int64.ofInt R) d
  have c2 := own_ofm R
  have c3 := own_um d
  have r2 := rng64 (Int64.ofInt R - d)
  have z0 : (0 : Int64).toInt = 0 := by decide
  omega
theorem own_e1 {R : Int} {d : Int64} (h1 : own_u d - 2048 ≤ R) (h2 : R ≤ own_u d + 2048) : ¬ Int64.ofInt R - d < -2048 ∧ ¬ 2048 < Int64.ofInt R - d := by
  have c1 := c_lsub (Int64.ofInt R) d
  have c2 := own_ofm R
  have c3 := own_um d
  have r2 := rng64 (Int64.ofInt R - d)
  have z1 : (2048 : Int64).toInt = 2048 := by decide
  have z2 : (-2048 : Int64).toInt = -2048 := by decide
  have k : (Int64.ofInt R - d).toInt = R - own_u d := by omega
  rw [Int64.lt_iff_toInt_lt, Int64.lt_iff_toInt_lt]; omega
theorem own_land (x : Int64) : 0 ≤ (x &&& 9007199254740991).toInt ∧ (x &&& 9007199254740991).toInt < 9007199254740992 := by
  have h0 := (c_andSL x 9007199254740991).2.2 (by decide)
  refine ⟨h0, ?_⟩
  have e : (x &&& 9007199254740991).toBitVec.toNat ≤ 9007199254740991 := by
    rw [Int64.toBitVec_and, BitVec.toNat_and]
    exact Nat.le_trans Nat.and_le_right (by decide)
  have e2 : (x &&& 9007199254740991).toInt = (x &&& 9007199254740991).toBitVec.toInt := rfl
  rw [e2, BitVec.toInt_eq_toNat_of_lt (by omega)]; omega
theorem own_exact (x : Int64) (s : Int32) : own_ex (own_u ((x &&& 9007199254740991) <<< (((s &&& (2147483647 : Int32)) % (12 : Int32)) &&& 0x3f).toInt64)) := by
  have hs := c_and s 2147483647 (by decide)
  have hr := (c_irem (s &&& 2147483647) 12 12 (by decide)).1 hs.1
  have hm := own_land x
  generalize (x &&& 9007199254740991) = y at *
  have h12 : 0 ≤ ((s &&& (2147483647 : Int32)) % (12 : Int32)).toInt ∧ ((s &&& (2147483647 : Int32)) % (12 : Int32)).toInt ≤ 11 := by omega
  generalize ((s &&& (2147483647 : Int32)) % (12 : Int32)) = t at *
  have et : t.toInt = (t.toBitVec.toNat : Int) := by
    have e2 : t.toInt = t.toBitVec.toInt := rfl
    have := BitVec.toInt_eq_toNat_cond t.toBitVec
    rw [e2] at h12 ⊢
    rw [this] at h12 ⊢
    have := t.toBitVec.isLt
    split at h12 <;> split <;> omega
  have hk : t.toBitVec.toNat % 64 = t.toBitVec.toNat := by omega
  have c1 := c_lshl y t _ hk
  have hj : t.toBitVec.toNat ≤ 11 := by omega
  generalize t.toBitVec.toNat = j at *
  refine ⟨y.toInt.toNat, j, by omega, hj, ?_⟩
  have um := own_um (y <<< (t &&& 0x3f).toInt64)
  have ub : 0 ≤ own_u (y <<< (t &&& 0x3f).toInt64) ∧ own_u (y <<< (t &&& 0x3f).toInt64) < 18446744073709551616 := by
    have r := rng64 (y <<< (t &&& 0x3f).toInt64)
    unfold own_u
    by_cases hn : (y <<< (t &&& 0x3f).toInt64) < 0
    · rw [if_pos hn]; rw [Int64.lt_iff_toInt_lt] at hn; have : (0 : Int64).toInt = 0 := by decide
      omega
    · rw [if_neg hn]; rw [Int64.lt_iff_toInt_lt] at hn; have : (0 : Int64).toInt = 0 := by decide
      omega
  have e1 : y.toInt * ((2 ^ j : Nat) : Int) = ((y.toInt.toNat * 2 ^ j : Nat) : Int) := by rw [Int.natCast_mul, Int.toNat_of_nonneg hm.1]
  have e2 : y.toInt.toNat * 2 ^ j ≤ 9007199254740991 * 2 ^ 11 := Nat.mul_le_mul (by omega) (Nat.pow_le_pow_right (by decide) hj)
  rw [e1] at c1
  generalize (y.toInt.toNat * 2 ^ j) = P at *
  have e3 : (9007199254740991 : Nat) * 2 ^ 11 = 18446744073709549568 := by decide
  omega
open Jvm.FP Jvm.FP.Core in
theorem own_top {R : Int} {x : UInt64} (hW : Whole R (val64 x)) (gT : R ≤ 18446744073709551616) (h : ¬ cmpValue (FP.dcmp x 4895412794951729152) .l < (0 : Int32)) : (0 : Int64) = Int64.ofInt R := by
  have q := mt (own_clt hW own_64 .l).mpr h
  have q2 : R = 18446744073709551616 := by omega
  rw [q2]; decide
end Jvm.RoadKit
namespace Jvm.Pilot.@@N@@
open Jvm Jvm.ClassFile Sem Op Lib Jvm.Free Jvm.Stand Jvm.LawKit Jvm.RoadKit Bundle Jvm.Pilot.@@N@@.Jvm.D
theorem pd_0 : parseMethodDescriptor "(JJ)D" = some ⟨[.long, .long], some .double⟩ := by decide +kernel
theorem pd_1 : parseMethodDescriptor "(D)J" = some ⟨[.double], some .long⟩ := by decide +kernel
open Jvm.RoadKit
theorem d1_0 : decode prog_35_method_6_code 0 = .ok (.lload_n 2, 1) := by decide +kernel
theorem d1_1 : decode prog_35_method_6_code 1 = .ok (.lload_n 0, 1) := by decide +kernel
theorem d1_2 : decode prog_35_method_6_code 2 = .ok (.lsub, 1) := by decide +kernel
theorem d1_3 : decode prog_35_method_6_code 3 = .ok (.lstore 4, 2) := by decide +kernel
theorem d1_5 : decode prog_35_method_6_code 5 = .ok (.lload 4, 2) := by decide +kernel
theorem d1_7 : decode prog_35_method_6_code 7 = .ok (.lconst 0, 1) := by decide +kernel
theorem d1_8 : decode prog_35_method_6_code 8 = .ok (.lcmp, 1) := by decide +kernel
theorem d1_9 : decode prog_35_method_6_code 9 = .ok (.ifCond .lt 9, 3) := by decide +kernel
theorem d1_12 : decode prog_35_method_6_code 12 = .ok (.lload 4, 2) := by decide +kernel
theorem d1_14 : decode prog_35_method_6_code 14 = .ok (.l2d, 1) := by decide +kernel
theorem d1_15 : decode prog_35_method_6_code 15 = .ok (.goto 10, 3) := by decide +kernel
theorem d1_18 : decode prog_35_method_6_code 18 = .ok (.ldc2_w 53, 3) := by decide +kernel
theorem d1_21 : decode prog_35_method_6_code 21 = .ok (.lload 4, 2) := by decide +kernel
theorem d1_23 : decode prog_35_method_6_code 23 = .ok (.l2d, 1) := by decide +kernel
theorem d1_24 : decode prog_35_method_6_code 24 = .ok (.dadd, 1) := by decide +kernel
theorem d1_25 : decode prog_35_method_6_code 25 = .ok (.dreturn, 1) := by decide +kernel
theorem pn_1 : plainName "com/example/fewbits/fewbits/store/SegmentHull" = true := by first | (simp [plainName, overriddenIn]; done) | decide +kernel
theorem ef_1 (m : MethodId) (x0 : Int64) (x1 : Int64) : entryFrame m #[(.long x0), (.long x1)] 6 = mkF m 0 #[.val (.long x0), .second, .val (.long x1), .second, .unset, .unset] [] := by first | (simp [entryFrame, mkF, argsToLocals, Value.category]; done) | rfl
def Q_rm1 (Z : State) (p1 : Int64) (p2 : Int64) (kk : Int64) (h0 : Heap) (n0 : Nat) : Option Value → Heap → List Loc → Prop := fun v h L => v = some (.double (own_span kk)) ∧ Fr n0 L ∧ h = h0
set_option maxRecDepth 65536 in
set_option maxHeartbeats 40000000 in
theorem rm1 (l : Launch) (Z : State) (a0 : Array Value) (hw : ∀ d ∈ tables_1, d.before a0 Z = true) (ws : List Jvm.Cond) (p1 : Int64) (p2 : Int64) (kk : Int64) (h0 : Heap) (n0 : Nat) (Z0 : n0 ≤ h0.size) (hk : p2 - p1 = kk) :
    MetFree l (⟨"com/example/fewbits/fewbits/store/SegmentHull", "span", "(JJ)D"⟩ : MethodName) (head1 (Jvm.Cond.code (⟨"com/example/fewbits/fewbits/store/SegmentHull", "span", "(JJ)D"⟩ : MethodName) prog_35_method_6_code 6 (some .double) :: ws) ({ frames := 0, cells := 0, slots := 0, locals := 0 } : Room)) (fun a U => a = #[(.long p1), (.long p2)] ∧ Z.Warmed39 U.vm ∧ U.heap = h0) (fun _ _ _ _ _ => True) (fun _ U oo U' => ∃ vv LL, oo = .returned vv ∧ (Q_rm1 Z p1 p2 kk h0 n0) vv U'.heap LL ∧ FrameEnd U oo U' LL ({ frames := 0, cells := 0, slots := 0, locals := 0 } : Room).cells ({ frames := 0, cells := 0, slots := 0, locals := 0 } : Room).slots) := by
  refine MetFree.of_bodySF (plainFor_of_name pn_1) hisR ?_
  intro p e s m args below meth c s₁ Bd hml0 hP hK
  obtain ⟨rfl, hZ, hh⟩ := hP
  have hx := Bd.exec
  have hby := Bd.bytes
  have hml : c.maxLocals = 6 := hml0
  have hown : s.vm.findClass "com/example/fewbits/fewbits/store/SegmentHull" = some m.cls := findClass_of_methodNamed Bd.named
  have hnm := (name_of_methodNamed Bd.named Bd.method).1
  have X0 : Stand p l e ({ frames := 0, cells := 0, slots := 0, locals := 0 } : Room) s m #[(.long p1), (.long p2)] below meth c s₁ [] 0 0 := Stand.of_body Bd
  have e0 : s₁.heap = h0 := by rw [← hh, Bd.state]; rfl
  have N0 := Fr.nil n0
  show Goes p e below (Fin s (Q_rm1 Z p1 p2 kk h0 n0) ({ frames := 0, cells := 0, slots := 0, locals := 0 } : Room).cells ({ frames := 0, cells := 0, slots := 0, locals := 0 } : Room).slots) _
  refine Goes.via (S' := s₁.setTop (mkF m 0 #[.val (.long p1), .second, .val (.long p2), .second, .unset, .unset] [])) (fun tz kz => castTop (ef_1 m p1 p2 ) kz) ?_
  refine Goes.via (S' := s₁.setTop (mkF m 9 #[.val (.long p1), .second, .val (.long p2), .second, .val (.long (p2 - p1)), .second] [(.int (lcmpW (p2 - p1) (0 : Int64)))])) (fun tz kz => ?_) ?_
  · show Steps p.tables e below (s₁.setTop (mkF m 0 #[.val (.long p1), .second, .val (.long p2), .second, .unset, .unset] [])) _
    refine XS.lloadN X0.here hx rfl (hb hby d1_0) rfl ?_
    show Steps p.tables e below (s₁.setTop (mkF m 1 #[.val (.long p1), .second, .val (.long p2), .second, .unset, .unset] [(.long p2)])) _
    refine XS.lloadN X0.here hx rfl (hb hby d1_1) rfl ?_
    show Steps p.tables e below (s₁.setTop (mkF m 2 #[.val (.long p1), .second, .val (.long p2), .second, .unset, .unset] [(.long p1), (.long p2)])) _
    refine XS.lsub X0.here hx rfl (hb hby d1_2) rfl ?_
    show Steps p.tables e below (s₁.setTop (mkF m 3 #[.val (.long p1), .second, .val (.long p2), .second, .unset, .unset] [(.long (p2 - p1))])) _
    refine XS.lstore X0.here hx rfl (hb hby d1_3) rfl (l' := #[.val (.long p1), .second, .val (.long p2), .second, .val (.long (p2 - p1)), .second]) rfl ?_
    show Steps p.tables e below (s₁.setTop (mkF m 5 #[.val (.long p1), .second, .val (.long p2), .second, .val (.long (p2 - p1)), .second] [])) _
    refine XS.lload X0.here hx rfl (hb hby d1_5) rfl ?_
    show Steps p.tables e below (s₁.setTop (mkF m 7 #[.val (.long p1), .second, .val (.long p2), .second, .val (.long (p2 - p1)), .second] [(.long (p2 - p1))])) _
    refine XS.lconst X0.here hx rfl (hb hby d1_7) ?_
    show Steps p.tables e below (s₁.setTop (mkF m 8 #[.val (.long p1), .second, .val (.long p2), .second, .val (.long (p2 - p1)), .second] [(.long (0 : Int64)), (.long (p2 - p1))])) _
    refine XS.lcmp X0.here hx rfl (hb hby d1_8) rfl ?_
    exact kz
  by_cases hc9_1 : (p2 - p1) < (0 : Int64)
  · refine Goes.via (S' := s₁.setTop (mkF m 25 #[.val (.long p1), .second, .val (.long p2), .second, .val (.long (p2 - p1)), .second] [(.double (FP.dadd (4895412794951729152 : UInt64) (FP.l2d (p2 - p1))))])) (fun tz kz => ?_) ?_
    · show Steps p.tables e below (s₁.setTop (mkF m 9 #[.val (.long p1), .second, .val (.long p2), .second, .val (.long (p2 - p1)), .second] [(.int (lcmpW (p2 - p1) (0 : Int64)))])) _
      refine XS.ifYes X0.here hx rfl (pc0 := 9) (pc' := 18) rfl (hb hby d1_9) rfl ((if0 _ _).trans (tlt ((lw_lt _ _).mpr hc9_1)).1) (by decide) (by decide) ?_
      show Steps p.tables e below (s₁.setTop (mkF m 18 #[.val (.long p1), .second, .val (.long p2), .second, .val (.long (p2 - p1)), .second] [])) _
      refine X0.ldc2DoubleC hx hown (mvT hZ (hw _ (List.mem_of_getElem? (i := 15) rfl))) (g := (mkF m 18 #[.val (.long p1), .second, .val (.long p2), .second, .val (.long (p2 - p1)), .second] [])) rfl (hb hby d1_18) _ ?_
      show Steps p.tables e below (s₁.setTop (mkF m 21 #[.val (.long p1), .second, .val (.long p2), .second, .val (.long (p2 - p1)), .second] [(.double (4895412794951729152 : UInt64))])) _
      refine XS.lload X0.here hx rfl (hb hby d1_21) rfl ?_
      show Steps p.tables e below (s₁.setTop (mkF m 23 #[.val (.long p1), .second, .val (.long p2), .second, .val (.long (p2 - p1)), .second] [(.long (p2 - p1)), (.double (4895412794951729152 : UInt64))])) _
      refine XS.l2dS X0.here hx rfl (hb hby d1_23) rfl (v := FP.l2d (p2 - p1)) rfl ?_
      show Steps p.tables e below (s₁.setTop (mkF m 24 #[.val (.long p1), .second, .val (.long p2), .second, .val (.long (p2 - p1)), .second] [(.double (FP.l2d (p2 - p1))), (.double (4895412794951729152 : UInt64))])) _
      refine XS.daddS X0.here hx rfl (hb hby d1_24) rfl (Jvm.Free.Fl.dadd_out (by unfold Jvm.Free.Fl.NoNaN64; decide) (Jvm.Free.Fl.l2d_fin _)) (v := (FP.dadd (4895412794951729152 : UInt64) (FP.l2d (p2 - p1)))) rfl ?_
      exact kz
    exact Goes.retO X0 hx Bd.notSynchronized Bd.returns rfl (Or.inr (Or.inr (Or.inl ⟨rfl, rfl, _, rfl⟩))) (hb hby d1_25) (Nat.le_of_ble_eq_true rfl) (Nat.le_of_ble_eq_true rfl) ⟨congrArg (fun z => some (Value.double z)) (by unfold own_span; rw [← hk, if_pos hc9_1]), N0, e0⟩
  · refine Goes.via (S' := s₁.setTop (mkF m 25 #[.val (.long p1), .second, .val (.long p2), .second, .val (.long (p2 - p1)), .second] [(.double (FP.l2d (p2 - p1)))])) (fun tz kz => ?_) ?_
    · show Steps p.tables e below (s₁.setTop (mkF m 9 #[.val (.long p1), .second, .val (.long p2), .second, .val (.long (p2 - p1)), .second] [(.int (lcmpW (p2 - p1) (0 : Int64)))])) _
      refine XS.ifNo X0.here hx rfl (hb hby d1_9) rfl ((if0 _ _).trans (flt (mt (lw_lt _ _).mp hc9_1)).1) ?_
      show Steps p.tables e below (s₁.setTop (mkF m 12 #[.val (.long p1), .second, .val (.long p2), .second, .val (.long (p2 - p1)), .second] [])) _
      refine XS.lload X0.here hx rfl (hb hby d1_12) rfl ?_
      show Steps p.tables e below (s₁.setTop (mkF m 14 #[.val (.long p1), .second, .val (.long p2), .second, .val (.long (p2 - p1)), .second] [(.long (p2 - p1))])) _
      refine XS.l2dS X0.here hx rfl (hb hby d1_14) rfl (v := FP.l2d (p2 - p1)) rfl ?_
      show Steps p.tables e below (s₁.setTop (mkF m 15 #[.val (.long p1), .second, .val (.long p2), .second, .val (.long (p2 - p1)), .second] [(.double (FP.l2d (p2 - p1)))])) _
      refine XS.goto X0.here hx rfl (pc0 := 15) (pc' := 25) rfl (hb hby d1_15) (by decide) (by decide) ?_
      exact kz
    exact Goes.retO X0 hx Bd.notSynchronized Bd.returns rfl (Or.inr (Or.inr (Or.inl ⟨rfl, rfl, _, rfl⟩))) (hb hby d1_25) (Nat.le_of_ble_eq_true rfl) (Nat.le_of_ble_eq_true rfl) ⟨congrArg (fun z => some (Value.double z)) (by unfold own_span; rw [← hk, if_neg hc9_1]), N0, e0⟩
theorem d2_0 : decode method_2_code 0 = .ok (.dload_n 0, 1) := by decide +kernel
theorem d2_1 : decode method_2_code 1 = .ok (.ldc2_w 7, 3) := by decide +kernel
theorem d2_4 : decode method_2_code 4 = .ok (.dcmp .l, 1) := by decide +kernel
theorem d2_5 : decode method_2_code 5 = .ok (.ifCond .lt 5, 3) := by decide +kernel
theorem d2_8 : decode method_2_code 8 = .ok (.lconst 0, 1) := by decide +kernel
theorem d2_9 : decode method_2_code 9 = .ok (.lreturn, 1) := by decide +kernel
theorem d2_10 : decode method_2_code 10 = .ok (.dload_n 0, 1) := by decide +kernel
theorem d2_11 : decode method_2_code 11 = .ok (.ldc2_w 9, 3) := by decide +kernel
theorem d2_14 : decode method_2_code 14 = .ok (.dcmp .l, 1) := by decide +kernel
theorem d2_15 : decode method_2_code 15 = .ok (.ifCond .lt 14, 3) := by decide +kernel
theorem d2_18 : decode method_2_code 18 = .ok (.dload_n 0, 1) := by decide +kernel
theorem d2_19 : decode method_2_code 19 = .ok (.ldc2_w 9, 3) := by decide +kernel
theorem d2_22 : decode method_2_code 22 = .ok (.dsub, 1) := by decide +kernel
theorem d2_23 : decode method_2_code 23 = .ok (.d2l, 1) := by decide +kernel
theorem d2_24 : decode method_2_code 24 = .ok (.ldc2_w 13, 3) := by decide +kernel
theorem d2_27 : decode method_2_code 27 = .ok (.ladd, 1) := by decide +kernel
theorem d2_28 : decode method_2_code 28 = .ok (.lreturn, 1) := by decide +kernel
theorem d2_29 : decode method_2_code 29 = .ok (.dload_n 0, 1) := by decide +kernel
theorem d2_30 : decode method_2_code 30 = .ok (.d2l, 1) := by decide +kernel
theorem d2_31 : decode method_2_code 31 = .ok (.lreturn, 1) := by decide +kernel
theorem pn_2 : plainName "com/example/fewbits/fewbits/store/SegmentHullSpanPinLaw" = true := by first | (simp [plainName, overriddenIn]; done) | decide +kernel
theorem ef_2 (m : MethodId) (x0 : UInt64) : entryFrame m #[(.double x0)] 2 = mkF m 0 #[.val (.double x0), .second] [] := by first | (simp [entryFrame, mkF, argsToLocals, Value.category]; done) | rfl
def Q_rm2 (Z : State) (p1 : UInt64) (R : Int) (h0 : Heap) (n0 : Nat) : Option Value → Heap → List Loc → Prop := fun v h L => v = some (.long (Int64.ofInt R)) ∧ Fr n0 L ∧ h = h0
set_option maxRecDepth 65536 in
set_option maxHeartbeats 40000000 in
theorem rm2 (l : Launch) (Z : State) (a0 : Array Value) (hw : ∀ d ∈ tables_1, d.before a0 Z = true) (ws : List Jvm.Cond) (p1 : UInt64) (R : Int) (h0 : Heap) (n0 : Nat) (Z0 : n0 ≤ h0.size) (hW : Jvm.FP.Core.Whole R (Jvm.FP.Core.val64 p1)) (g0 : 0 ≤ R) (gT : R ≤ 18446744073709551616) (hdv : 9223372036854775808 ≤ R → (2048 : Int) ∣ R) :
    MetFree l (⟨"com/example/fewbits/fewbits/store/SegmentHullSpanPinLaw", "bits", "(D)J"⟩ : MethodName) (head1 (Jvm.Cond.code (⟨"com/example/fewbits/fewbits/store/SegmentHullSpanPinLaw", "bits", "(D)J"⟩ : MethodName) method_2_code 2 (some .long) :: ws) ({ frames := 0, cells := 0, slots := 0, locals := 0 } : Room)) (fun a U => a = #[(.double p1)] ∧ Z.Warmed39 U.vm ∧ U.heap = h0) (fun _ _ _ _ _ => True) (fun _ U oo U' => ∃ vv LL, oo = .returned vv ∧ (Q_rm2 Z p1 R h0 n0) vv U'.heap LL ∧ FrameEnd U oo U' LL ({ frames := 0, cells := 0, slots := 0, locals := 0 } : Room).cells ({ frames := 0, cells := 0, slots := 0, locals := 0 } : Room).slots) := by
  refine MetFree.of_bodySF (plainFor_of_name pn_2) hisR ?_
  intro p e s m args below meth c s₁ Bd hml0 hP hK
  obtain ⟨rfl, hZ, hh⟩ := hP
  have hx := Bd.exec
  have hby := Bd.bytes
  have hml : c.maxLocals = 2 := hml0
  have hown : s.vm.findClass "com/example/fewbits/fewbits/store/SegmentHullSpanPinLaw" = some m.cls := findClass_of_methodNamed Bd.named
  have hnm := (name_of_methodNamed Bd.named Bd.method).1
  have X0 : Stand p l e ({ frames := 0, cells := 0, slots := 0, locals := 0 } : Room) s m #[(.double p1)] below meth c s₁ [] 0 0 := Stand.of_body Bd
  have e0 : s₁.heap = h0 := by rw [← hh, Bd.state]; rfl
  have N0 := Fr.nil n0
  show Goes p e below (Fin s (Q_rm2 Z p1 R h0 n0) ({ frames := 0, cells := 0, slots := 0, locals := 0 } : Room).cells ({ frames := 0, cells := 0, slots := 0, locals := 0 } : Room).slots) _
  refine Goes.via (S' := s₁.setTop (mkF m 0 #[.val (.double p1), .second] [])) (fun tz kz => castTop (ef_2 m p1 ) kz) ?_
  refine Goes.via (S' := s₁.setTop (mkF m 5 #[.val (.double p1), .second] [(.int (cmpValue (FP.dcmp p1 (4895412794951729152 : UInt64)) .l))])) (fun tz kz => ?_) ?_
  · show Steps p.tables e below (s₁.setTop (mkF m 0 #[.val (.double p1), .second] [])) _
    refine XS.dloadN X0.here hx rfl (hb hby d2_0) rfl ?_
    show Steps p.tables e below (s₁.setTop (mkF m 1 #[.val (.double p1), .second] [(.double p1)])) _
    refine X0.ldc2DoubleC hx hown (mvT hZ (hw _ (List.mem_of_getElem? (i := 6) rfl))) (g := (mkF m 1 #[.val (.double p1), .second] [(.double p1)])) rfl (hb hby d2_1) _ ?_
    show Steps p.tables e below (s₁.setTop (mkF m 4 #[.val (.double p1), .second] [(.double (4895412794951729152 : UInt64)), (.double p1)])) _
    refine XS.dcmpS X0.here hx rfl (hb hby d2_4) rfl (v := (cmpValue (FP.dcmp p1 (4895412794951729152 : UInt64)) .l)) rfl ?_
    exact kz
  by_cases hc5_1 : (cmpValue (FP.dcmp p1 (4895412794951729152 : UInt64)) .l) < (0 : Int32)
  · refine Goes.via (S' := s₁.setTop (mkF m 15 #[.val (.double p1), .second] [(.int (cmpValue (FP.dcmp p1 (4890909195324358656 : UInt64)) .l))])) (fun tz kz => ?_) ?_
    · show Steps p.tables e below (s₁.setTop (mkF m 5 #[.val (.double p1), .second] [(.int (cmpValue (FP.dcmp p1 (4895412794951729152 : UInt64)) .l))])) _
      refine XS.ifYes X0.here hx rfl (pc0 := 5) (pc' := 10) rfl (hb hby d2_5) rfl ((if0 _ _).trans (tlt hc5_1).1) (by decide) (by decide) ?_
      show Steps p.tables e below (s₁.setTop (mkF m 10 #[.val (.double p1), .second] [])) _
      refine XS.dloadN X0.here hx rfl (hb hby d2_10) rfl ?_
      show Steps p.tables e below (s₁.setTop (mkF m 11 #[.val (.double p1), .second] [(.double p1)])) _
      refine X0.ldc2DoubleC hx hown (mvT hZ (hw _ (List.mem_of_getElem? (i := 7) rfl))) (g := (mkF m 11 #[.val (.double p1), .second] [(.double p1)])) rfl (hb hby d2_11) _ ?_
      show Steps p.tables e below (s₁.setTop (mkF m 14 #[.val (.double p1), .second] [(.double (4890909195324358656 : UInt64)), (.double p1)])) _
      refine XS.dcmpS X0.here hx rfl (hb hby d2_14) rfl (v := (cmpValue (FP.dcmp p1 (4890909195324358656 : UInt64)) .l)) rfl ?_
      exact kz
    by_cases hc15_2 : (cmpValue (FP.dcmp p1 (4890909195324358656 : UInt64)) .l) < (0 : Int32)
    · refine Goes.via (S' := s₁.setTop (mkF m 31 #[.val (.double p1), .second] [(.long (FP.d2l p1))])) (fun tz kz => ?_) ?_
      · show Steps p.tables e below (s₁.setTop (mkF m 15 #[.val (.double p1), .second] [(.int (cmpValue (FP.dcmp p1 (4890909195324358656 : UInt64)) .l))])) _
        refine XS.ifYes X0.here hx rfl (pc0 := 15) (pc' := 29) rfl (hb hby d2_15) rfl ((if0 _ _).trans (tlt hc15_2).1) (by decide) (by decide) ?_
        show Steps p.tables e below (s₁.setTop (mkF m 29 #[.val (.double p1), .second] [])) _
        refine XS.dloadN X0.here hx rfl (hb hby d2_29) rfl ?_
        show Steps p.tables e below (s₁.setTop (mkF m 30 #[.val (.double p1), .second] [(.double p1)])) _
        refine XS.d2lS X0.here hx rfl (hb hby d2_30) rfl (v := FP.d2l p1) rfl ?_
        exact kz
      exact Goes.retO X0 hx Bd.notSynchronized Bd.returns rfl (Or.inr (Or.inl ⟨rfl, rfl, _, rfl⟩)) (hb hby d2_31) (Nat.le_of_ble_eq_true rfl) (Nat.le_of_ble_eq_true rfl) ⟨congrArg (fun z => some (Value.long z)) (own_d2l hW (by omega) ((own_clt hW own_63 .l).mp hc15_2)), N0, e0⟩
    · refine Goes.via (S' := s₁.setTop (mkF m 28 #[.val (.double p1), .second] [(.long ((FP.d2l (FP.dsub p1 (4890909195324358656 : UInt64))) + (-9223372036854775808 : Int64)))])) (fun tz kz => ?_) ?_
      · show Steps p.tables e below (s₁.setTop (mkF m 15 #[.val (.double p1), .second] [(.int (cmpValue (FP.dcmp p1 (4890909195324358656 : UInt64)) .l))])) _
        refine XS.ifNo X0.here hx rfl (hb hby d2_15) rfl ((if0 _ _).trans (flt hc15_2).1) ?_
        show Steps p.tables e below (s₁.setTop (mkF m 18 #[.val (.double p1), .second] [])) _
        refine XS.dloadN X0.here hx rfl (hb hby d2_18) rfl ?_
        show Steps p.tables e below (s₁.setTop (mkF m 19 #[.val (.double p1), .second] [(.double p1)])) _
        refine X0.ldc2DoubleC hx hown (mvT hZ (hw _ (List.mem_of_getElem? (i := 7) rfl))) (g := (mkF m 19 #[.val (.double p1), .second] [(.double p1)])) rfl (hb hby d2_19) _ ?_
        show Steps p.tables e below (s₁.setTop (mkF m 22 #[.val (.double p1), .second] [(.double (4890909195324358656 : UInt64)), (.double p1)])) _
        refine XS.dsubS X0.here hx rfl (hb hby d2_22) rfl (Jvm.Free.Fl.dsub_out (own_nn hW) (by unfold Jvm.Free.Fl.Fin64; decide)) (v := (FP.dsub p1 (4890909195324358656 : UInt64))) rfl ?_
        show Steps p.tables e below (s₁.setTop (mkF m 23 #[.val (.double p1), .second] [(.double (FP.dsub p1 (4890909195324358656 : UInt64)))])) _
        refine XS.d2lS X0.here hx rfl (hb hby d2_23) rfl (v := FP.d2l (FP.dsub p1 (4890909195324358656 : UInt64))) rfl ?_
        show Steps p.tables e below (s₁.setTop (mkF m 24 #[.val (.double p1), .second] [(.long (FP.d2l (FP.dsub p1 (4890909195324358656 : UInt64))))])) _
        refine X0.ldc2Long hx hown (mvT hZ (hw _ (List.mem_of_getElem? (i := 14) rfl))) (g := (mkF m 24 #[.val (.double p1), .second] [(.long (FP.d2l (FP.dsub p1 (4890909195324358656 : UInt64))))])) rfl (hb hby d2_24) _ ?_
        show Steps p.tables e below (s₁.setTop (mkF m 27 #[.val (.double p1), .second] [(.long (-9223372036854775808 : Int64)), (.long (FP.d2l (FP.dsub p1 (4890909195324358656 : UInt64))))])) _
        refine XS.ladd X0.here hx rfl (hb hby d2_27) rfl ?_
        exact kz
      exact Goes.retO X0 hx Bd.notSynchronized Bd.returns rfl (Or.inr (Or.inl ⟨rfl, rfl, _, rfl⟩)) (hb hby d2_28) (Nat.le_of_ble_eq_true rfl) (Nat.le_of_ble_eq_true rfl) ⟨congrArg (fun z => some (Value.long z)) (own_hi hW (by have q := mt (own_clt hW own_63 .l).mpr hc15_2; omega) ((own_clt hW own_64 .l).mp hc5_1) (hdv (by have q := mt (own_clt hW own_63 .l).mpr hc15_2; omega))), N0, e0⟩
  · refine Goes.via (S' := s₁.setTop (mkF m 9 #[.val (.double p1), .second] [(.long (0 : Int64))])) (fun tz kz => ?_) ?_
    · show Steps p.tables e below (s₁.setTop (mkF m 5 #[.val (.double p1), .second] [(.int (cmpValue (FP.dcmp p1 (4895412794951729152 : UInt64)) .l))])) _
      refine XS.ifNo X0.here hx rfl (hb hby d2_5) rfl ((if0 _ _).trans (flt hc5_1).1) ?_
      show Steps p.tables e below (s₁.setTop (mkF m 8 #[.val (.double p1), .second] [])) _
      refine XS.lconst X0.here hx rfl (hb hby d2_8) ?_
      exact kz
    exact Goes.retO X0 hx Bd.notSynchronized Bd.returns rfl (Or.inr (Or.inl ⟨rfl, rfl, _, rfl⟩)) (hb hby d2_9) (Nat.le_of_ble_eq_true rfl) (Nat.le_of_ble_eq_true rfl) ⟨congrArg (fun z => some (Value.long z)) (own_top hW gT hc5_1), N0, e0⟩
theorem pn_0 : plainName "com/example/fewbits/fewbits/store/SegmentHullSpanPinLaw" = true := by first | (simp [plainName, overriddenIn]; done) | decide +kernel
theorem ef_0 (m : MethodId) (x0 : Int64) (x1 : Int64) (x2 : Int32) (x3 : Int32) : entryFrame m #[(.long x0), (.long x1), (.int x2), (.int x3)] maxLocals = mkF m 0 #[.val (.long x0), .second, .val (.long x1), .second, .val (.int x2), .val (.int x3), .unset, .unset, .unset, .unset, .unset, .unset, .unset, .unset, .unset, .unset, .unset] [] := by first | (simp [entryFrame, mkF, argsToLocals, Value.category, maxLocals]; done) | rfl
def Q_rm0 (Z : State) (p1 : Int64) (p2 : Int64) (p3 : Int32) (p4 : Int32)  (h0 : Heap) (n0 : Nat) : Option Value → Heap → List Loc → Prop := fun v h L => v = some (.int 1) ∧ Fr n0 L
set_option maxRecDepth 65536 in
set_option maxHeartbeats 40000000 in
theorem rm0 (l : Launch) (Z : State) (a0 : Array Value) (hw : ∀ d ∈ tables_1, d.before a0 Z = true) (ws : List Jvm.Cond) (p1 : Int64) (p2 : Int64) (p3 : Int32) (p4 : Int32)  (h0 : Heap) (n0 : Nat) (Z0 : n0 ≤ h0.size) :
    MetFree l x (head1 (Jvm.Cond.code x code maxLocals ret :: ws) room_1) (fun a U => a = #[(.long p1), (.long p2), (.int p3), (.int p4)] ∧ Z.Warmed39 U.vm ∧ U.heap = h0) (fun _ _ _ _ _ => True) (fun _ U oo U' => ∃ vv LL, oo = .returned vv ∧ (Q_rm0 Z p1 p2 p3 p4 h0 n0) vv U'.heap LL ∧ FrameEnd U oo U' LL room_1.cells room_1.slots) := by
  refine MetFree.of_bodySF (plainFor_of_name pn_0) hisR ?_
  intro p e s m args below meth c s₁ Bd hml0 hP hK
  obtain ⟨rfl, hZ, hh⟩ := hP
  have hx := Bd.exec
  have hby := Bd.bytes
  have hml : c.maxLocals = 17 := hml0
  have hown : s.vm.findClass "com/example/fewbits/fewbits/store/SegmentHullSpanPinLaw" = some m.cls := findClass_of_methodNamed Bd.named
  have hnm := (name_of_methodNamed Bd.named Bd.method).1
  have X0 : Stand p l e room_1 s m #[(.long p1), (.long p2), (.int p3), (.int p4)] below meth c s₁ [] 0 0 := Stand.of_body Bd
  have e0 : s₁.heap = h0 := by rw [← hh, Bd.state]; rfl
  have N0 := Fr.nil n0
  show Goes p e below (Fin s (Q_rm0 Z p1 p2 p3 p4 h0 n0) room_1.cells room_1.slots) _
  refine Goes.via (S' := s₁.setTop (mkF m 0 #[.val (.long p1), .second, .val (.long p2), .second, .val (.int p3), .val (.int p4), .unset, .unset, .unset, .unset, .unset, .unset, .unset, .unset, .unset, .unset, .unset] [])) (fun tz kz => castTop (ef_0 m p1 p2 p3 p4 ) kz) ?_
  refine Goes.via (S' := s₁.setTop (mkF m 4 #[.val (.long p1), .second, .val (.long p2), .second, .val (.int p3), .val (.int p4), .unset, .unset, .unset, .unset, .unset, .unset, .unset, .unset, .unset, .unset, .unset] [(.int (p4 &&& (1 : Int32)))])) (fun tz kz => ?_) ?_
  · show Steps p.tables e below (s₁.setTop (mkF m 0 #[.val (.long p1), .second, .val (.long p2), .second, .val (.int p3), .val (.int p4), .unset, .unset, .unset, .unset, .unset, .unset, .unset, .unset, .unset, .unset, .unset] [])) _
    refine XS.iload X0.here hx rfl (hb hby at_0) rfl ?_
    show Steps p.tables e below (s₁.setTop (mkF m 2 #[.val (.long p1), .second, .val (.long p2), .second, .val (.int p3), .val (.int p4), .unset, .unset, .unset, .unset, .unset, .unset, .unset, .unset, .unset, .unset, .unset] [(.int p4)])) _
    refine XS.iconst X0.here hx rfl (hb hby at_2) ?_
    show Steps p.tables e below (s₁.setTop (mkF m 3 #[.val (.long p1), .second, .val (.long p2), .second, .val (.int p3), .val (.int p4), .unset, .unset, .unset, .unset, .unset, .unset, .unset, .unset, .unset, .unset, .unset] [(.int (1 : Int32)), (.int p4)])) _
    refine XS.iand X0.here hx rfl (hb hby at_3) rfl ?_
    exact kz
  obtain ⟨r2, hr2⟩ : ∃ zz_ : Int32, zz_ = (if (p4 &&& (1 : Int32)) = (0 : Int32) then (0 : Int32) else (1 : Int32)) := ⟨_, rfl⟩
  have j4_3 : ∀ t, Steps p.tables e below (s₁.setTop (mkF m 12 #[.val (.long p1), .second, .val (.long p2), .second, .val (.int p3), .val (.int p4), .unset, .unset, .unset, .unset, .unset, .unset, .unset, .unset, .unset, .unset, .unset] [(.int r2)])) t → Steps p.tables e below (s₁.setTop (mkF m 4 #[.val (.long p1), .second, .val (.long p2), .second, .val (.int p3), .val (.int p4), .unset, .unset, .unset, .unset, .unset, .unset, .unset, .unset, .unset, .unset, .unset] [(.int (p4 &&& (1 : Int32)))])) t := by
    intro tz kz
    by_cases hc4_1 : (p4 &&& (1 : Int32)) = (0 : Int32)
    · rw [if_pos hc4_1] at hr2
      show Steps p.tables e below (s₁.setTop (mkF m 4 #[.val (.long p1), .second, .val (.long p2), .second, .val (.int p3), .val (.int p4), .unset, .unset, .unset, .unset, .unset, .unset, .unset, .unset, .unset, .unset, .unset] [(.int (p4 &&& (1 : Int32)))])) _
      refine XS.ifYes X0.here hx rfl (pc0 := 4) (pc' := 11) rfl (hb hby at_4) rfl ((if0 _ _).trans (teq hc4_1).1) (by decide) (by decide) ?_
      show Steps p.tables e below (s₁.setTop (mkF m 11 #[.val (.long p1), .second, .val (.long p2), .second, .val (.int p3), .val (.int p4), .unset, .unset, .unset, .unset, .unset, .unset, .unset, .unset, .unset, .unset, .unset] [])) _
      refine XS.iconst X0.here hx rfl (hb hby at_11) ?_
      subst hr2
      exact kz
    · rw [if_neg hc4_1] at hr2
      show Steps p.tables e below (s₁.setTop (mkF m 4 #[.val (.long p1), .second, .val (.long p2), .second, .val (.int p3), .val (.int p4), .unset, .unset, .unset, .unset, .unset, .unset, .unset, .unset, .unset, .unset, .unset] [(.int (p4 &&& (1 : Int32)))])) _
      refine XS.ifNo X0.here hx rfl (hb hby at_4) rfl ((if0 _ _).trans (feq hc4_1).1) ?_
      show Steps p.tables e below (s₁.setTop (mkF m 7 #[.val (.long p1), .second, .val (.long p2), .second, .val (.int p3), .val (.int p4), .unset, .unset, .unset, .unset, .unset, .unset, .unset, .unset, .unset, .unset, .unset] [])) _
      refine XS.iconst X0.here hx rfl (hb hby at_7) ?_
      show Steps p.tables e below (s₁.setTop (mkF m 8 #[.val (.long p1), .second, .val (.long p2), .second, .val (.int p3), .val (.int p4), .unset, .unset, .unset, .unset, .unset, .unset, .unset, .unset, .unset, .unset, .unset] [(.int (1 : Int32))])) _
      refine XS.goto X0.here hx rfl (pc0 := 8) (pc' := 12) rfl (hb hby at_8) (by decide) (by decide) ?_
      subst hr2
      exact kz
  refine Goes.via j4_3 ?_
  refine Goes.via (S' := s₁.setTop (mkF m 16 #[.val (.long p1), .second, .val (.long p2), .second, .val (.int p3), .val (.int p4), .val (.int r2), .unset, .unset, .unset, .unset, .unset, .unset, .unset, .unset, .unset, .unset] [(.int r2)])) (fun tz kz => ?_) ?_
  · show Steps p.tables e below (s₁.setTop (mkF m 12 #[.val (.long p1), .second, .val (.long p2), .second, .val (.int p3), .val (.int p4), .unset, .unset, .unset, .unset, .unset, .unset, .unset, .unset, .unset, .unset, .unset] [(.int r2)])) _
    refine XS.istore X0.here hx rfl (hb hby at_12) rfl (l' := #[.val (.long p1), .second, .val (.long p2), .second, .val (.int p3), .val (.int p4), .val (.int r2), .unset, .unset, .unset, .unset, .unset, .unset, .unset, .unset, .unset, .unset]) rfl ?_
    show Steps p.tables e below (s₁.setTop (mkF m 14 #[.val (.long p1), .second, .val (.long p2), .second, .val (.int p3), .val (.int p4), .val (.int r2), .unset, .unset, .unset, .unset, .unset, .unset, .unset, .unset, .unset, .unset] [])) _
    refine XS.iload X0.here hx rfl (hb hby at_14) rfl ?_
    exact kz
  obtain ⟨r5, hr5⟩ : ∃ zz_ : Int64, zz_ = (if r2 = (0 : Int32) then p2 else ((p2 &&& (9007199254740991 : Int64)) <<< (((p3 &&& (2147483647 : Int32)) % (12 : Int32)) &&& 0x3f).toInt64)) := ⟨_, rfl⟩
  have j16_6 : ∀ t, Steps p.tables e below (s₁.setTop (mkF m 37 #[.val (.long p1), .second, .val (.long p2), .second, .val (.int p3), .val (.int p4), .val (.int r2), .unset, .unset, .unset, .unset, .unset, .unset, .unset, .unset, .unset, .unset] [(.long r5)])) t → Steps p.tables e below (s₁.setTop (mkF m 16 #[.val (.long p1), .second, .val (.long p2), .second, .val (.int p3), .val (.int p4), .val (.int r2), .unset, .unset, .unset, .unset, .unset, .unset, .unset, .unset, .unset, .unset] [(.int r2)])) t := by
    intro tz kz
    by_cases hc16_4 : r2 = (0 : Int32)
    · rw [if_pos hc16_4] at hr5
      show Steps p.tables e below (s₁.setTop (mkF m 16 #[.val (.long p1), .second, .val (.long p2), .second, .val (.int p3), .val (.int p4), .val (.int r2), .unset, .unset, .unset, .unset, .unset, .unset, .unset, .unset, .unset, .unset] [(.int r2)])) _
      refine XS.ifYes X0.here hx rfl (pc0 := 16) (pc' := 36) rfl (hb hby at_16) rfl ((if0 _ _).trans (teq hc16_4).1) (by decide) (by decide) ?_
      show Steps p.tables e below (s₁.setTop (mkF m 36 #[.val (.long p1), .second, .val (.long p2), .second, .val (.int p3), .val (.int p4), .val (.int r2), .unset, .unset, .unset, .unset, .unset, .unset, .unset, .unset, .unset, .unset] [])) _
      refine XS.lloadN X0.here hx rfl (hb hby at_36) rfl ?_
      subst hr5
      exact kz
    · rw [if_neg hc16_4] at hr5
      show Steps p.tables e below (s₁.setTop (mkF m 16 #[.val (.long p1), .second, .val (.long p2), .second, .val (.int p3), .val (.int p4), .val (.int r2), .unset, .unset, .unset, .unset, .unset, .unset, .unset, .unset, .unset, .unset] [(.int r2)])) _
      refine XS.ifNo X0.here hx rfl (hb hby at_16) rfl ((if0 _ _).trans (feq hc16_4).1) ?_
      show Steps p.tables e below (s₁.setTop (mkF m 19 #[.val (.long p1), .second, .val (.long p2), .second, .val (.int p3), .val (.int p4), .val (.int r2), .unset, .unset, .unset, .unset, .unset, .unset, .unset, .unset, .unset, .unset] [])) _
      refine XS.lloadN X0.here hx rfl (hb hby at_19) rfl ?_
      show Steps p.tables e below (s₁.setTop (mkF m 20 #[.val (.long p1), .second, .val (.long p2), .second, .val (.int p3), .val (.int p4), .val (.int r2), .unset, .unset, .unset, .unset, .unset, .unset, .unset, .unset, .unset, .unset] [(.long p2)])) _
      refine X0.ldc2Long hx hown (mvT hZ (hw _ (List.mem_of_getElem? (i := 0) rfl))) (g := (mkF m 20 #[.val (.long p1), .second, .val (.long p2), .second, .val (.int p3), .val (.int p4), .val (.int r2), .unset, .unset, .unset, .unset, .unset, .unset, .unset, .unset, .unset, .unset] [(.long p2)])) rfl (hb hby at_20) _ ?_
      show Steps p.tables e below (s₁.setTop (mkF m 23 #[.val (.long p1), .second, .val (.long p2), .second, .val (.int p3), .val (.int p4), .val (.int r2), .unset, .unset, .unset, .unset, .unset, .unset, .unset, .unset, .unset, .unset] [(.long (9007199254740991 : Int64)), (.long p2)])) _
      refine XS.land X0.here hx rfl (hb hby at_23) rfl ?_
      show Steps p.tables e below (s₁.setTop (mkF m 24 #[.val (.long p1), .second, .val (.long p2), .second, .val (.int p3), .val (.int p4), .val (.int r2), .unset, .unset, .unset, .unset, .unset, .unset, .unset, .unset, .unset, .unset] [(.long (p2 &&& (9007199254740991 : Int64)))])) _
      refine XS.iload X0.here hx rfl (hb hby at_24) rfl ?_
      show Steps p.tables e below (s₁.setTop (mkF m 26 #[.val (.long p1), .second, .val (.long p2), .second, .val (.int p3), .val (.int p4), .val (.int r2), .unset, .unset, .unset, .unset, .unset, .unset, .unset, .unset, .unset, .unset] [(.int p3), (.long (p2 &&& (9007199254740991 : Int64)))])) _
      refine X0.ldcInt hx hown (mvT hZ (hw _ (List.mem_of_getElem? (i := 1) rfl))) (g := (mkF m 26 #[.val (.long p1), .second, .val (.long p2), .second, .val (.int p3), .val (.int p4), .val (.int r2), .unset, .unset, .unset, .unset, .unset, .unset, .unset, .unset, .unset, .unset] [(.int p3), (.long (p2 &&& (9007199254740991 : Int64)))])) rfl (hb hby at_26) _ ?_
      show Steps p.tables e below (s₁.setTop (mkF m 28 #[.val (.long p1), .second, .val (.long p2), .second, .val (.int p3), .val (.int p4), .val (.int r2), .unset, .unset, .unset, .unset, .unset, .unset, .unset, .unset, .unset, .unset] [(.int (2147483647 : Int32)), (.int p3), (.long (p2 &&& (9007199254740991 : Int64)))])) _
      refine XS.iand X0.here hx rfl (hb hby at_28) rfl ?_
      show Steps p.tables e below (s₁.setTop (mkF m 29 #[.val (.long p1), .second, .val (.long p2), .second, .val (.int p3), .val (.int p4), .val (.int r2), .unset, .unset, .unset, .unset, .unset, .unset, .unset, .unset, .unset, .unset] [(.int (p3 &&& (2147483647 : Int32))), (.long (p2 &&& (9007199254740991 : Int64)))])) _
      refine XS.bipush X0.here hx rfl (hb hby at_29) ?_
      show Steps p.tables e below (s₁.setTop (mkF m 31 #[.val (.long p1), .second, .val (.long p2), .second, .val (.int p3), .val (.int p4), .val (.int r2), .unset, .unset, .unset, .unset, .unset, .unset, .unset, .unset, .unset, .unset] [(.int (12 : Int32)), (.int (p3 &&& (2147483647 : Int32))), (.long (p2 &&& (9007199254740991 : Int64)))])) _
      refine iremM (g := (mkF m 31 #[.val (.long p1), .second, .val (.long p2), .second, .val (.int p3), .val (.int p4), .val (.int r2), .unset, .unset, .unset, .unset, .unset, .unset, .unset, .unset, .unset, .unset] [(.int (12 : Int32)), (.int (p3 &&& (2147483647 : Int32))), (.long (p2 &&& (9007199254740991 : Int64)))])) X0 hx rfl (hb hby at_31) rfl (by decide) ?_
      show Steps p.tables e below (s₁.setTop (mkF m 32 #[.val (.long p1), .second, .val (.long p2), .second, .val (.int p3), .val (.int p4), .val (.int r2), .unset, .unset, .unset, .unset, .unset, .unset, .unset, .unset, .unset, .unset] [(.int ((p3 &&& (2147483647 : Int32)) % (12 : Int32))), (.long (p2 &&& (9007199254740991 : Int64)))])) _
      refine XS.lshl X0.here hx rfl (hb hby at_32) rfl ?_
      show Steps p.tables e below (s₁.setTop (mkF m 33 #[.val (.long p1), .second, .val (.long p2), .second, .val (.int p3), .val (.int p4), .val (.int r2), .unset, .unset, .unset, .unset, .unset, .unset, .unset, .unset, .unset, .unset] [(.long ((p2 &&& (9007199254740991 : Int64)) <<< (((p3 &&& (2147483647 : Int32)) % (12 : Int32)) &&& 0x3f).toInt64))])) _
      refine XS.goto X0.here hx rfl (pc0 := 33) (pc' := 37) rfl (hb hby at_33) (by decide) (by decide) ?_
      subst hr5
      exact kz
  refine Goes.via j16_6 ?_
  refine Goes.via (S' := s₁.setTop (mkF m 54 #[.val (.long p1), .second, .val (.long p2), .second, .val (.int p3), .val (.int p4), .val (.int r2), .val (.long r5), .second, .val (.long p1), .second, .val (.long (p1 + r5)), .second, .unset, .unset, .unset, .unset] [(.int (lcmpW (p1 + r5) p1))])) (fun tz kz => ?_) ?_
  · show Steps p.tables e below (s₁.setTop (mkF m 37 #[.val (.long p1), .second, .val (.long p2), .second, .val (.int p3), .val (.int p4), .val (.int r2), .unset, .unset, .unset, .unset, .unset, .unset, .unset, .unset, .unset, .unset] [(.long r5)])) _
    refine XS.lstore X0.here hx rfl (hb hby at_37) rfl (l' := #[.val (.long p1), .second, .val (.long p2), .second, .val (.int p3), .val (.int p4), .val (.int r2), .val (.long r5), .second, .unset, .unset, .unset, .unset, .unset, .unset, .unset, .unset]) rfl ?_
    show Steps p.tables e below (s₁.setTop (mkF m 39 #[.val (.long p1), .second, .val (.long p2), .second, .val (.int p3), .val (.int p4), .val (.int r2), .val (.long r5), .second, .unset, .unset, .unset, .unset, .unset, .unset, .unset, .unset] [])) _
    refine XS.lloadN X0.here hx rfl (hb hby at_39) rfl ?_
    show Steps p.tables e below (s₁.setTop (mkF m 40 #[.val (.long p1), .second, .val (.long p2), .second, .val (.int p3), .val (.int p4), .val (.int r2), .val (.long r5), .second, .unset, .unset, .unset, .unset, .unset, .unset, .unset, .unset] [(.long p1)])) _
    refine XS.lstore X0.here hx rfl (hb hby at_40) rfl (l' := #[.val (.long p1), .second, .val (.long p2), .second, .val (.int p3), .val (.int p4), .val (.int r2), .val (.long r5), .second, .val (.long p1), .second, .unset, .unset, .unset, .unset, .unset, .unset]) rfl ?_
    show Steps p.tables e below (s₁.setTop (mkF m 42 #[.val (.long p1), .second, .val (.long p2), .second, .val (.int p3), .val (.int p4), .val (.int r2), .val (.long r5), .second, .val (.long p1), .second, .unset, .unset, .unset, .unset, .unset, .unset] [])) _
    refine XS.lload X0.here hx rfl (hb hby at_42) rfl ?_
    show Steps p.tables e below (s₁.setTop (mkF m 44 #[.val (.long p1), .second, .val (.long p2), .second, .val (.int p3), .val (.int p4), .val (.int r2), .val (.long r5), .second, .val (.long p1), .second, .unset, .unset, .unset, .unset, .unset, .unset] [(.long p1)])) _
    refine XS.lload X0.here hx rfl (hb hby at_44) rfl ?_
    show Steps p.tables e below (s₁.setTop (mkF m 46 #[.val (.long p1), .second, .val (.long p2), .second, .val (.int p3), .val (.int p4), .val (.int r2), .val (.long r5), .second, .val (.long p1), .second, .unset, .unset, .unset, .unset, .unset, .unset] [(.long r5), (.long p1)])) _
    refine XS.ladd X0.here hx rfl (hb hby at_46) rfl ?_
    show Steps p.tables e below (s₁.setTop (mkF m 47 #[.val (.long p1), .second, .val (.long p2), .second, .val (.int p3), .val (.int p4), .val (.int r2), .val (.long r5), .second, .val (.long p1), .second, .unset, .unset, .unset, .unset, .unset, .unset] [(.long (p1 + r5))])) _
    refine XS.lstore X0.here hx rfl (hb hby at_47) rfl (l' := #[.val (.long p1), .second, .val (.long p2), .second, .val (.int p3), .val (.int p4), .val (.int r2), .val (.long r5), .second, .val (.long p1), .second, .val (.long (p1 + r5)), .second, .unset, .unset, .unset, .unset]) rfl ?_
    show Steps p.tables e below (s₁.setTop (mkF m 49 #[.val (.long p1), .second, .val (.long p2), .second, .val (.int p3), .val (.int p4), .val (.int r2), .val (.long r5), .second, .val (.long p1), .second, .val (.long (p1 + r5)), .second, .unset, .unset, .unset, .unset] [])) _
    refine XS.lload X0.here hx rfl (hb hby at_49) rfl ?_
    show Steps p.tables e below (s₁.setTop (mkF m 51 #[.val (.long p1), .second, .val (.long p2), .second, .val (.int p3), .val (.int p4), .val (.int r2), .val (.long r5), .second, .val (.long p1), .second, .val (.long (p1 + r5)), .second, .unset, .unset, .unset, .unset] [(.long (p1 + r5))])) _
    refine XS.lload X0.here hx rfl (hb hby at_51) rfl ?_
    show Steps p.tables e below (s₁.setTop (mkF m 53 #[.val (.long p1), .second, .val (.long p2), .second, .val (.int p3), .val (.int p4), .val (.int r2), .val (.long r5), .second, .val (.long p1), .second, .val (.long (p1 + r5)), .second, .unset, .unset, .unset, .unset] [(.long p1), (.long (p1 + r5))])) _
    refine XS.lcmp X0.here hx rfl (hb hby at_53) rfl ?_
    exact kz
  obtain ⟨r8, hr8⟩ : ∃ zz_ : Int64, zz_ = (if (p1 + r5) < p1 then (-9223372036854775808 : Int64) else p1) := ⟨_, rfl⟩
  obtain ⟨r9, hr9⟩ : ∃ zz_ : Int64, zz_ = (if (p1 + r5) < p1 then ((-9223372036854775808 : Int64) + r5) else (p1 + r5)) := ⟨_, rfl⟩
  have j54_10 : ∀ t, Steps p.tables e below (s₁.setTop (mkF m 69 #[.val (.long p1), .second, .val (.long p2), .second, .val (.int p3), .val (.int p4), .val (.int r2), .val (.long r5), .second, .val (.long r8), .second, .val (.long r9), .second, .unset, .unset, .unset, .unset] [])) t → Steps p.tables e below (s₁.setTop (mkF m 54 #[.val (.long p1), .second, .val (.long p2), .second, .val (.int p3), .val (.int p4), .val (.int r2), .val (.long r5), .second, .val (.long p1), .second, .val (.long (p1 + r5)), .second, .unset, .unset, .unset, .unset] [(.int (lcmpW (p1 + r5) p1))])) t := by
    intro tz kz
    by_cases hc54_7 : (p1 + r5) < p1
    · rw [if_pos hc54_7] at hr8
      rw [if_pos hc54_7] at hr9
      show Steps p.tables e below (s₁.setTop (mkF m 54 #[.val (.long p1), .second, .val (.long p2), .second, .val (.int p3), .val (.int p4), .val (.int r2), .val (.long r5), .second, .val (.long p1), .second, .val (.long (p1 + r5)), .second, .unset, .unset, .unset, .unset] [(.int (lcmpW (p1 + r5) p1))])) _
      refine XS.ifNo X0.here hx rfl (hb hby at_54) rfl ((if0 _ _).trans (tlt ((lw_lt _ _).mpr hc54_7)).2.1) ?_
      show Steps p.tables e below (s₁.setTop (mkF m 57 #[.val (.long p1), .second, .val (.long p2), .second, .val (.int p3), .val (.int p4), .val (.int r2), .val (.long r5), .second, .val (.long p1), .second, .val (.long (p1 + r5)), .second, .unset, .unset, .unset, .unset] [])) _
      refine X0.ldc2Long hx hown (mvT hZ (hw _ (List.mem_of_getElem? (i := 14) rfl))) (g := (mkF m 57 #[.val (.long p1), .second, .val (.long p2), .second, .val (.int p3), .val (.int p4), .val (.int r2), .val (.long r5), .second, .val (.long p1), .second, .val (.long (p1 + r5)), .second, .unset, .unset, .unset, .unset] [])) rfl (hb hby at_57) _ ?_
      show Steps p.tables e below (s₁.setTop (mkF m 60 #[.val (.long p1), .second, .val (.long p2), .second, .val (.int p3), .val (.int p4), .val (.int r2), .val (.long r5), .second, .val (.long p1), .second, .val (.long (p1 + r5)), .second, .unset, .unset, .unset, .unset] [(.long (-9223372036854775808 : Int64))])) _
      refine XS.lstore X0.here hx rfl (hb hby at_60) rfl (l' := #[.val (.long p1), .second, .val (.long p2), .second, .val (.int p3), .val (.int p4), .val (.int r2), .val (.long r5), .second, .val (.long (-9223372036854775808 : Int64)), .second, .val (.long (p1 + r5)), .second, .unset, .unset, .unset, .unset]) rfl ?_
      show Steps p.tables e below (s₁.setTop (mkF m 62 #[.val (.long p1), .second, .val (.long p2), .second, .val (.int p3), .val (.int p4), .val (.int r2), .val (.long r5), .second, .val (.long (-9223372036854775808 : Int64)), .second, .val (.long (p1 + r5)), .second, .unset, .unset, .unset, .unset] [])) _
      refine XS.lload X0.here hx rfl (hb hby at_62) rfl ?_
      show Steps p.tables e below (s₁.setTop (mkF m 64 #[.val (.long p1), .second, .val (.long p2), .second, .val (.int p3), .val (.int p4), .val (.int r2), .val (.long r5), .second, .val (.long (-9223372036854775808 : Int64)), .second, .val (.long (p1 + r5)), .second, .unset, .unset, .unset, .unset] [(.long (-9223372036854775808 : Int64))])) _
      refine XS.lload X0.here hx rfl (hb hby at_64) rfl ?_
      show Steps p.tables e below (s₁.setTop (mkF m 66 #[.val (.long p1), .second, .val (.long p2), .second, .val (.int p3), .val (.int p4), .val (.int r2), .val (.long r5), .second, .val (.long (-9223372036854775808 : Int64)), .second, .val (.long (p1 + r5)), .second, .unset, .unset, .unset, .unset] [(.long r5), (.long (-9223372036854775808 : Int64))])) _
      refine XS.ladd X0.here hx rfl (hb hby at_66) rfl ?_
      show Steps p.tables e below (s₁.setTop (mkF m 67 #[.val (.long p1), .second, .val (.long p2), .second, .val (.int p3), .val (.int p4), .val (.int r2), .val (.long r5), .second, .val (.long (-9223372036854775808 : Int64)), .second, .val (.long (p1 + r5)), .second, .unset, .unset, .unset, .unset] [(.long ((-9223372036854775808 : Int64) + r5))])) _
      refine XS.lstore X0.here hx rfl (hb hby at_67) rfl (l' := #[.val (.long p1), .second, .val (.long p2), .second, .val (.int p3), .val (.int p4), .val (.int r2), .val (.long r5), .second, .val (.long (-9223372036854775808 : Int64)), .second, .val (.long ((-9223372036854775808 : Int64) + r5)), .second, .unset, .unset, .unset, .unset]) rfl ?_
      subst hr8
      subst hr9
      exact kz
    · rw [if_neg hc54_7] at hr8
      rw [if_neg hc54_7] at hr9
      show Steps p.tables e below (s₁.setTop (mkF m 54 #[.val (.long p1), .second, .val (.long p2), .second, .val (.int p3), .val (.int p4), .val (.int r2), .val (.long r5), .second, .val (.long p1), .second, .val (.long (p1 + r5)), .second, .unset, .unset, .unset, .unset] [(.int (lcmpW (p1 + r5) p1))])) _
      refine XS.ifYes X0.here hx rfl (pc0 := 54) (pc' := 69) rfl (hb hby at_54) rfl ((if0 _ _).trans (flt (mt (lw_lt _ _).mp hc54_7)).2.1) (by decide) (by decide) ?_
      subst hr8
      subst hr9
      exact kz
  refine Goes.via j54_10 ?_
  obtain ⟨R, hW, g0, gT, glo, ghi, hdv, hex⟩ := own_R r5
  refine Goes.via (S' := s₁.setTop (mkF m 73 #[.val (.long p1), .second, .val (.long p2), .second, .val (.int p3), .val (.int p4), .val (.int r2), .val (.long r5), .second, .val (.long r8), .second, .val (.long r9), .second, .unset, .unset, .unset, .unset] [(.long r9), (.long r8)])) (fun tz kz => ?_) ?_
  · show Steps p.tables e below (s₁.setTop (mkF m 69 #[.val (.long p1), .second, .val (.long p2), .second, .val (.int p3), .val (.int p4), .val (.int r2), .val (.long r5), .second, .val (.long r8), .second, .val (.long r9), .second, .unset, .unset, .unset, .unset] [])) _
    refine XS.lload X0.here hx rfl (hb hby at_69) rfl ?_
    show Steps p.tables e below (s₁.setTop (mkF m 71 #[.val (.long p1), .second, .val (.long p2), .second, .val (.int p3), .val (.int p4), .val (.int r2), .val (.long r5), .second, .val (.long r8), .second, .val (.long r9), .second, .unset, .unset, .unset, .unset] [(.long r8)])) _
    refine XS.lload X0.here hx rfl (hb hby at_71) rfl ?_
    exact kz
  obtain ⟨_, _, ⟨T11, L11, k11, n11⟩, -, X11, ⟨Lc11, hQ11, l11, y11, z11⟩, st11⟩ := Jvm.LawKit.callS X0 hx (y := (⟨"com/example/fewbits/fewbits/store/SegmentHull", "span", "(JJ)D"⟩ : MethodName)) hown (mvT hZ (hw _ (List.mem_of_getElem? (i := 2) rfl))) (mvT hZ (hw _ (List.mem_of_getElem? (i := 3) rfl))) (mvT hZ (hw _ (List.mem_of_getElem? (i := 4) rfl))) (mvT hZ (hw _ (List.mem_of_getElem? (i := 5) rfl))) (by decide) (backOf (W := 0) (rm1 l Z a0 hw [] r8 r9 r5 h0 n0 Z0 (by rw [hr8, hr9]; split <;> exact own_addsub _ _)) hZ (hw _ (List.mem_of_getElem? (i := 5) rfl)) (hw _ (List.mem_of_getElem? (i := 4) rfl)) (by decide) (by decide)) (g := (mkF m 73 #[.val (.long p1), .second, .val (.long p2), .second, .val (.int p3), .val (.int p4), .val (.int r2), .val (.long r5), .second, .val (.long r8), .second, .val (.long r9), .second, .unset, .unset, .unset, .unset] [(.long r9), (.long r8)])) rfl (by rw [hml]; rfl) (argsL := [(.long r8), (.long r9)]) (rest := []) (lenOf pd_0 rfl) rfl (by show 2 * 0 + _ ≤ _; exact Nat.le_of_eq rfl) (hb hby at_73) (fun _ _ => ⟨rfl, e0, (by decide : 0 + 0 ≤ _), (by decide : 0 + 0 ≤ _)⟩)
  dsimp only [Pt.U, Pt.locs, Pt.cells, Pt.slots] at X11 l11 y11 z11 st11 hQ11
  subst l11 y11 z11
  obtain ⟨rfl, N11, e11⟩ := hQ11
  have Nf11 := Fr.app N0 N11
  refine Goes.via (S' := T11.setTop (mkF m 76 #[.val (.long p1), .second, .val (.long p2), .second, .val (.int p3), .val (.int p4), .val (.int r2), .val (.long r5), .second, .val (.long r8), .second, .val (.long r9), .second, .unset, .unset, .unset, .unset] [(.double (own_span r5))])) (st11) ?_
  refine Goes.via (S' := T11.setTop (mkF m 102 #[.val (.long p1), .second, .val (.long p2), .second, .val (.int p3), .val (.int p4), .val (.int r2), .val (.long r5), .second, .val (.long r8), .second, .val (.long r9), .second, .val (.double (own_span r5)), .second, .unset, .unset] [(.int (cmpValue (FP.dcmp (own_span r5) (4890909195324358656 : UInt64)) .g))])) (fun tz kz => ?_) ?_
  · show Steps p.tables e below (T11.setTop (mkF m 76 #[.val (.long p1), .second, .val (.long p2), .second, .val (.int p3), .val (.int p4), .val (.int r2), .val (.long r5), .second, .val (.long r8), .second, .val (.long r9), .second, .unset, .unset, .unset, .unset] [(.double (own_span r5))])) _
    refine XS.dstore X11.here hx rfl (hb hby at_76) rfl (l' := #[.val (.long p1), .second, .val (.long p2), .second, .val (.int p3), .val (.int p4), .val (.int r2), .val (.long r5), .second, .val (.long r8), .second, .val (.long r9), .second, .val (.double (own_span r5)), .second, .unset, .unset]) rfl ?_
    show Steps p.tables e below (T11.setTop (mkF m 78 #[.val (.long p1), .second, .val (.long p2), .second, .val (.int p3), .val (.int p4), .val (.int r2), .val (.long r5), .second, .val (.long r8), .second, .val (.long r9), .second, .val (.double (own_span r5)), .second, .unset, .unset] [])) _
    refine XS.dload X11.here hx rfl (hb hby at_78) rfl ?_
    show Steps p.tables e below (T11.setTop (mkF m 80 #[.val (.long p1), .second, .val (.long p2), .second, .val (.int p3), .val (.int p4), .val (.int r2), .val (.long r5), .second, .val (.long r8), .second, .val (.long r9), .second, .val (.double (own_span r5)), .second, .unset, .unset] [(.double (own_span r5))])) _
    refine XS.dconst0 X11.here hx rfl (hb hby at_80) (v := FP.dconst0) rfl ?_
    show Steps p.tables e below (T11.setTop (mkF m 81 #[.val (.long p1), .second, .val (.long p2), .second, .val (.int p3), .val (.int p4), .val (.int r2), .val (.long r5), .second, .val (.long r8), .second, .val (.long r9), .second, .val (.double (own_span r5)), .second, .unset, .unset] [(.double FP.dconst0), (.double (own_span r5))])) _
    refine XS.dcmpS X11.here hx rfl (hb hby at_81) rfl (v := (cmpValue (FP.dcmp (own_span r5) FP.dconst0) .l)) rfl ?_
    show Steps p.tables e below (T11.setTop (mkF m 82 #[.val (.long p1), .second, .val (.long p2), .second, .val (.int p3), .val (.int p4), .val (.int r2), .val (.long r5), .second, .val (.long r8), .second, .val (.long r9), .second, .val (.double (own_span r5)), .second, .unset, .unset] [(.int (cmpValue (FP.dcmp (own_span r5) FP.dconst0) .l))])) _
    refine XS.ifNo X11.here hx rfl (hb hby at_82) rfl ((if0 _ _).trans (flt (mt (own_clt hW own_z0 .l).mp (by omega))).1) ?_
    show Steps p.tables e below (T11.setTop (mkF m 85 #[.val (.long p1), .second, .val (.long p2), .second, .val (.int p3), .val (.int p4), .val (.int r2), .val (.long r5), .second, .val (.long r8), .second, .val (.long r9), .second, .val (.double (own_span r5)), .second, .unset, .unset] [])) _
    refine XS.dload X11.here hx rfl (hb hby at_85) rfl ?_
    show Steps p.tables e below (T11.setTop (mkF m 87 #[.val (.long p1), .second, .val (.long p2), .second, .val (.int p3), .val (.int p4), .val (.int r2), .val (.long r5), .second, .val (.long r8), .second, .val (.long r9), .second, .val (.double (own_span r5)), .second, .unset, .unset] [(.double (own_span r5))])) _
    refine X11.ldc2DoubleC hx hown (mvT hZ (hw _ (List.mem_of_getElem? (i := 6) rfl))) (g := (mkF m 87 #[.val (.long p1), .second, .val (.long p2), .second, .val (.int p3), .val (.int p4), .val (.int r2), .val (.long r5), .second, .val (.long r8), .second, .val (.long r9), .second, .val (.double (own_span r5)), .second, .unset, .unset] [(.double (own_span r5))])) rfl (hb hby at_87) _ ?_
    show Steps p.tables e below (T11.setTop (mkF m 90 #[.val (.long p1), .second, .val (.long p2), .second, .val (.int p3), .val (.int p4), .val (.int r2), .val (.long r5), .second, .val (.long r8), .second, .val (.long r9), .second, .val (.double (own_span r5)), .second, .unset, .unset] [(.double (4895412794951729152 : UInt64)), (.double (own_span r5))])) _
    refine XS.dcmpS X11.here hx rfl (hb hby at_90) rfl (v := (cmpValue (FP.dcmp (own_span r5) (4895412794951729152 : UInt64)) .g)) rfl ?_
    show Steps p.tables e below (T11.setTop (mkF m 91 #[.val (.long p1), .second, .val (.long p2), .second, .val (.int p3), .val (.int p4), .val (.int r2), .val (.long r5), .second, .val (.long r8), .second, .val (.long r9), .second, .val (.double (own_span r5)), .second, .unset, .unset] [(.int (cmpValue (FP.dcmp (own_span r5) (4895412794951729152 : UInt64)) .g))])) _
    refine XS.ifYes X11.here hx rfl (pc0 := 91) (pc' := 96) rfl (hb hby at_91) rfl ((if0 _ _).trans (flt (mt (own_cgt hW own_64 .g).mp (by omega))).2.2.2) (by decide) (by decide) ?_
    show Steps p.tables e below (T11.setTop (mkF m 96 #[.val (.long p1), .second, .val (.long p2), .second, .val (.int p3), .val (.int p4), .val (.int r2), .val (.long r5), .second, .val (.long r8), .second, .val (.long r9), .second, .val (.double (own_span r5)), .second, .unset, .unset] [])) _
    refine XS.dload X11.here hx rfl (hb hby at_96) rfl ?_
    show Steps p.tables e below (T11.setTop (mkF m 98 #[.val (.long p1), .second, .val (.long p2), .second, .val (.int p3), .val (.int p4), .val (.int r2), .val (.long r5), .second, .val (.long r8), .second, .val (.long r9), .second, .val (.double (own_span r5)), .second, .unset, .unset] [(.double (own_span r5))])) _
    refine X11.ldc2DoubleC hx hown (mvT hZ (hw _ (List.mem_of_getElem? (i := 7) rfl))) (g := (mkF m 98 #[.val (.long p1), .second, .val (.long p2), .second, .val (.int p3), .val (.int p4), .val (.int r2), .val (.long r5), .second, .val (.long r8), .second, .val (.long r9), .second, .val (.double (own_span r5)), .second, .unset, .unset] [(.double (own_span r5))])) rfl (hb hby at_98) _ ?_
    show Steps p.tables e below (T11.setTop (mkF m 101 #[.val (.long p1), .second, .val (.long p2), .second, .val (.int p3), .val (.int p4), .val (.int r2), .val (.long r5), .second, .val (.long r8), .second, .val (.long r9), .second, .val (.double (own_span r5)), .second, .unset, .unset] [(.double (4890909195324358656 : UInt64)), (.double (own_span r5))])) _
    refine XS.dcmpS X11.here hx rfl (hb hby at_101) rfl (v := (cmpValue (FP.dcmp (own_span r5) (4890909195324358656 : UInt64)) .g)) rfl ?_
    exact kz
  by_cases hc102_12 : (cmpValue (FP.dcmp (own_span r5) (4890909195324358656 : UInt64)) .g) < (0 : Int32)
  · refine Goes.via (S' := T11.setTop (mkF m 119 #[.val (.long p1), .second, .val (.long p2), .second, .val (.int p3), .val (.int p4), .val (.int r2), .val (.long r5), .second, .val (.long r8), .second, .val (.long r9), .second, .val (.double (own_span r5)), .second, .unset, .unset] [(.double (own_span r5))])) (fun tz kz => ?_) ?_
    · show Steps p.tables e below (T11.setTop (mkF m 102 #[.val (.long p1), .second, .val (.long p2), .second, .val (.int p3), .val (.int p4), .val (.int r2), .val (.long r5), .second, .val (.long r8), .second, .val (.long r9), .second, .val (.double (own_span r5)), .second, .unset, .unset] [(.int (cmpValue (FP.dcmp (own_span r5) (4890909195324358656 : UInt64)) .g))])) _
      refine XS.ifNo X11.here hx rfl (hb hby at_102) rfl ((if0 _ _).trans (tlt hc102_12).2.1) ?_
      show Steps p.tables e below (T11.setTop (mkF m 105 #[.val (.long p1), .second, .val (.long p2), .second, .val (.int p3), .val (.int p4), .val (.int r2), .val (.long r5), .second, .val (.long r8), .second, .val (.long r9), .second, .val (.double (own_span r5)), .second, .unset, .unset] [])) _
      refine XS.dload X11.here hx rfl (hb hby at_105) rfl ?_
      show Steps p.tables e below (T11.setTop (mkF m 107 #[.val (.long p1), .second, .val (.long p2), .second, .val (.int p3), .val (.int p4), .val (.int r2), .val (.long r5), .second, .val (.long r8), .second, .val (.long r9), .second, .val (.double (own_span r5)), .second, .unset, .unset] [(.double (own_span r5))])) _
      refine XS.d2lS X11.here hx rfl (hb hby at_107) rfl (v := FP.d2l (own_span r5)) rfl ?_
      show Steps p.tables e below (T11.setTop (mkF m 108 #[.val (.long p1), .second, .val (.long p2), .second, .val (.int p3), .val (.int p4), .val (.int r2), .val (.long r5), .second, .val (.long r8), .second, .val (.long r9), .second, .val (.double (own_span r5)), .second, .unset, .unset] [(.long (FP.d2l (own_span r5)))])) _
      refine XS.l2dS X11.here hx rfl (hb hby at_108) rfl (v := FP.l2d (FP.d2l (own_span r5))) rfl ?_
      show Steps p.tables e below (T11.setTop (mkF m 109 #[.val (.long p1), .second, .val (.long p2), .second, .val (.int p3), .val (.int p4), .val (.int r2), .val (.long r5), .second, .val (.long r8), .second, .val (.long r9), .second, .val (.double (own_span r5)), .second, .unset, .unset] [(.double (FP.l2d (FP.d2l (own_span r5))))])) _
      refine XS.dload X11.here hx rfl (hb hby at_109) rfl ?_
      show Steps p.tables e below (T11.setTop (mkF m 111 #[.val (.long p1), .second, .val (.long p2), .second, .val (.int p3), .val (.int p4), .val (.int r2), .val (.long r5), .second, .val (.long r8), .second, .val (.long r9), .second, .val (.double (own_span r5)), .second, .unset, .unset] [(.double (own_span r5)), (.double (FP.l2d (FP.d2l (own_span r5))))])) _
      refine XS.dcmpS X11.here hx rfl (hb hby at_111) rfl (v := (cmpValue (FP.dcmp (FP.l2d (FP.d2l (own_span r5))) (own_span r5)) .l)) rfl ?_
      show Steps p.tables e below (T11.setTop (mkF m 112 #[.val (.long p1), .second, .val (.long p2), .second, .val (.int p3), .val (.int p4), .val (.int r2), .val (.long r5), .second, .val (.long r8), .second, .val (.long r9), .second, .val (.double (own_span r5)), .second, .unset, .unset] [(.int (cmpValue (FP.dcmp (FP.l2d (FP.d2l (own_span r5))) (own_span r5)) .l))])) _
      refine XS.ifYes X11.here hx rfl (pc0 := 112) (pc' := 117) rfl (hb hby at_112) rfl ((if0 _ _).trans (teq (own_same hW g0 ((own_clt hW own_63 .g).mp hc102_12) .l)).1) (by decide) (by decide) ?_
      show Steps p.tables e below (T11.setTop (mkF m 117 #[.val (.long p1), .second, .val (.long p2), .second, .val (.int p3), .val (.int p4), .val (.int r2), .val (.long r5), .second, .val (.long r8), .second, .val (.long r9), .second, .val (.double (own_span r5)), .second, .unset, .unset] [])) _
      refine XS.dload X11.here hx rfl (hb hby at_117) rfl ?_
      exact kz
    obtain ⟨_, _, ⟨T13, L13, k13, n13⟩, -, X13, ⟨Lc13, hQ13, l13, y13, z13⟩, st13⟩ := Jvm.LawKit.callS X11 hx (y := (⟨"com/example/fewbits/fewbits/store/SegmentHullSpanPinLaw", "bits", "(D)J"⟩ : MethodName)) hown (mvT hZ (hw _ (List.mem_of_getElem? (i := 8) rfl))) (mvT hZ (hw _ (List.mem_of_getElem? (i := 9) rfl))) (mvT hZ (hw _ (List.mem_of_getElem? (i := 10) rfl))) (mvT hZ (hw _ (List.mem_of_getElem? (i := 11) rfl))) (by decide) (backOf (W := 0) (rm2 l Z a0 hw [] (own_span r5) R h0 n0 Z0 hW g0 gT hdv) hZ (hw _ (List.mem_of_getElem? (i := 11) rfl)) (hw _ (List.mem_of_getElem? (i := 10) rfl)) (by decide) (by decide)) (g := (mkF m 119 #[.val (.long p1), .second, .val (.long p2), .second, .val (.int p3), .val (.int p4), .val (.int r2), .val (.long r5), .second, .val (.long r8), .second, .val (.long r9), .second, .val (.double (own_span r5)), .second, .unset, .unset] [(.double (own_span r5))])) rfl (by rw [hml]; rfl) (argsL := [(.double (own_span r5))]) (rest := []) (lenOf pd_1 rfl) rfl (by show 2 * 0 + _ ≤ _; exact Nat.le_of_eq rfl) (hb hby at_119) (fun _ _ => ⟨rfl, e11, (by decide : 0 + 0 ≤ _), (by decide : 0 + 0 ≤ _)⟩)
    dsimp only [Pt.U, Pt.locs, Pt.cells, Pt.slots] at X13 l13 y13 z13 st13 hQ13
    subst l13 y13 z13
    obtain ⟨rfl, N13, e13⟩ := hQ13
    have Nf13 := Fr.app Nf11 N13
    refine Goes.via (S' := T13.setTop (mkF m 122 #[.val (.long p1), .second, .val (.long p2), .second, .val (.int p3), .val (.int p4), .val (.int r2), .val (.long r5), .second, .val (.long r8), .second, .val (.long r9), .second, .val (.double (own_span r5)), .second, .unset, .unset] [(.long (Int64.ofInt R))])) (st13) ?_
    refine Goes.via (S' := T13.setTop (mkF m 129 #[.val (.long p1), .second, .val (.long p2), .second, .val (.int p3), .val (.int p4), .val (.int r2), .val (.long r5), .second, .val (.long r8), .second, .val (.long r9), .second, .val (.double (own_span r5)), .second, .val (.long ((Int64.ofInt R) - r5)), .second] [(.int r2)])) (fun tz kz => ?_) ?_
    · show Steps p.tables e below (T13.setTop (mkF m 122 #[.val (.long p1), .second, .val (.long p2), .second, .val (.int p3), .val (.int p4), .val (.int r2), .val (.long r5), .second, .val (.long r8), .second, .val (.long r9), .second, .val (.double (own_span r5)), .second, .unset, .unset] [(.long (Int64.ofInt R))])) _
      refine XS.lload X13.here hx rfl (hb hby at_122) rfl ?_
      show Steps p.tables e below (T13.setTop (mkF m 124 #[.val (.long p1), .second, .val (.long p2), .second, .val (.int p3), .val (.int p4), .val (.int r2), .val (.long r5), .second, .val (.long r8), .second, .val (.long r9), .second, .val (.double (own_span r5)), .second, .unset, .unset] [(.long r5), (.long (Int64.ofInt R))])) _
      refine XS.lsub X13.here hx rfl (hb hby at_124) rfl ?_
      show Steps p.tables e below (T13.setTop (mkF m 125 #[.val (.long p1), .second, .val (.long p2), .second, .val (.int p3), .val (.int p4), .val (.int r2), .val (.long r5), .second, .val (.long r8), .second, .val (.long r9), .second, .val (.double (own_span r5)), .second, .unset, .unset] [(.long ((Int64.ofInt R) - r5))])) _
      refine XS.lstore X13.here hx rfl (hb hby at_125) rfl (l' := #[.val (.long p1), .second, .val (.long p2), .second, .val (.int p3), .val (.int p4), .val (.int r2), .val (.long r5), .second, .val (.long r8), .second, .val (.long r9), .second, .val (.double (own_span r5)), .second, .val (.long ((Int64.ofInt R) - r5)), .second]) rfl ?_
      show Steps p.tables e below (T13.setTop (mkF m 127 #[.val (.long p1), .second, .val (.long p2), .second, .val (.int p3), .val (.int p4), .val (.int r2), .val (.long r5), .second, .val (.long r8), .second, .val (.long r9), .second, .val (.double (own_span r5)), .second, .val (.long ((Int64.ofInt R) - r5)), .second] [])) _
      refine XS.iload X13.here hx rfl (hb hby at_127) rfl ?_
      exact kz
    by_cases hc129_14 : r2 = (0 : Int32)
    · refine Goes.via (S' := T13.setTop (mkF m 168 #[.val (.long p1), .second, .val (.long p2), .second, .val (.int p3), .val (.int p4), .val (.int r2), .val (.long r5), .second, .val (.long r8), .second, .val (.long r9), .second, .val (.double (own_span r5)), .second, .val (.long ((Int64.ofInt R) - r5)), .second] [(.int (1 : Int32))])) (fun tz kz => ?_) ?_
      · show Steps p.tables e below (T13.setTop (mkF m 129 #[.val (.long p1), .second, .val (.long p2), .second, .val (.int p3), .val (.int p4), .val (.int r2), .val (.long r5), .second, .val (.long r8), .second, .val (.long r9), .second, .val (.double (own_span r5)), .second, .val (.long ((Int64.ofInt R) - r5)), .second] [(.int r2)])) _
        refine XS.ifYes X13.here hx rfl (pc0 := 129) (pc' := 145) rfl (hb hby at_129) rfl ((if0 _ _).trans (teq hc129_14).1) (by decide) (by decide) ?_
        show Steps p.tables e below (T13.setTop (mkF m 145 #[.val (.long p1), .second, .val (.long p2), .second, .val (.int p3), .val (.int p4), .val (.int r2), .val (.long r5), .second, .val (.long r8), .second, .val (.long r9), .second, .val (.double (own_span r5)), .second, .val (.long ((Int64.ofInt R) - r5)), .second] [])) _
        refine XS.lload X13.here hx rfl (hb hby at_145) rfl ?_
        show Steps p.tables e below (T13.setTop (mkF m 147 #[.val (.long p1), .second, .val (.long p2), .second, .val (.int p3), .val (.int p4), .val (.int r2), .val (.long r5), .second, .val (.long r8), .second, .val (.long r9), .second, .val (.double (own_span r5)), .second, .val (.long ((Int64.ofInt R) - r5)), .second] [(.long ((Int64.ofInt R) - r5))])) _
        refine X13.ldc2Long hx hown (mvT hZ (hw _ (List.mem_of_getElem? (i := 12) rfl))) (g := (mkF m 147 #[.val (.long p1), .second, .val (.long p2), .second, .val (.int p3), .val (.int p4), .val (.int r2), .val (.long r5), .second, .val (.long r8), .second, .val (.long r9), .second, .val (.double (own_span r5)), .second, .val (.long ((Int64.ofInt R) - r5)), .second] [(.long ((Int64.ofInt R) - r5))])) rfl (hb hby at_147) _ ?_
        show Steps p.tables e below (T13.setTop (mkF m 150 #[.val (.long p1), .second, .val (.long p2), .second, .val (.int p3), .val (.int p4), .val (.int r2), .val (.long r5), .second, .val (.long r8), .second, .val (.long r9), .second, .val (.double (own_span r5)), .second, .val (.long ((Int64.ofInt R) - r5)), .second] [(.long (-2048 : Int64)), (.long ((Int64.ofInt R) - r5))])) _
        refine XS.lcmp X13.here hx rfl (hb hby at_150) rfl ?_
        show Steps p.tables e below (T13.setTop (mkF m 151 #[.val (.long p1), .second, .val (.long p2), .second, .val (.int p3), .val (.int p4), .val (.int r2), .val (.long r5), .second, .val (.long r8), .second, .val (.long r9), .second, .val (.double (own_span r5)), .second, .val (.long ((Int64.ofInt R) - r5)), .second] [(.int (lcmpW ((Int64.ofInt R) - r5) (-2048 : Int64)))])) _
        refine XS.ifNo X13.here hx rfl (hb hby at_151) rfl ((if0 _ _).trans (flt (mt (lw_lt _ _).mp (own_e1 glo ghi).1)).1) ?_
        show Steps p.tables e below (T13.setTop (mkF m 154 #[.val (.long p1), .second, .val (.long p2), .second, .val (.int p3), .val (.int p4), .val (.int r2), .val (.long r5), .second, .val (.long r8), .second, .val (.long r9), .second, .val (.double (own_span r5)), .second, .val (.long ((Int64.ofInt R) - r5)), .second] [])) _
        refine XS.lload X13.here hx rfl (hb hby at_154) rfl ?_
        show Steps p.tables e below (T13.setTop (mkF m 156 #[.val (.long p1), .second, .val (.long p2), .second, .val (.int p3), .val (.int p4), .val (.int r2), .val (.long r5), .second, .val (.long r8), .second, .val (.long r9), .second, .val (.double (own_span r5)), .second, .val (.long ((Int64.ofInt R) - r5)), .second] [(.long ((Int64.ofInt R) - r5))])) _
        refine X13.ldc2Long hx hown (mvT hZ (hw _ (List.mem_of_getElem? (i := 13) rfl))) (g := (mkF m 156 #[.val (.long p1), .second, .val (.long p2), .second, .val (.int p3), .val (.int p4), .val (.int r2), .val (.long r5), .second, .val (.long r8), .second, .val (.long r9), .second, .val (.double (own_span r5)), .second, .val (.long ((Int64.ofInt R) - r5)), .second] [(.long ((Int64.ofInt R) - r5))])) rfl (hb hby at_156) _ ?_
        show Steps p.tables e below (T13.setTop (mkF m 159 #[.val (.long p1), .second, .val (.long p2), .second, .val (.int p3), .val (.int p4), .val (.int r2), .val (.long r5), .second, .val (.long r8), .second, .val (.long r9), .second, .val (.double (own_span r5)), .second, .val (.long ((Int64.ofInt R) - r5)), .second] [(.long (2048 : Int64)), (.long ((Int64.ofInt R) - r5))])) _
        refine XS.lcmp X13.here hx rfl (hb hby at_159) rfl ?_
        show Steps p.tables e below (T13.setTop (mkF m 160 #[.val (.long p1), .second, .val (.long p2), .second, .val (.int p3), .val (.int p4), .val (.int r2), .val (.long r5), .second, .val (.long r8), .second, .val (.long r9), .second, .val (.double (own_span r5)), .second, .val (.long ((Int64.ofInt R) - r5)), .second] [(.int (lcmpW ((Int64.ofInt R) - r5) (2048 : Int64)))])) _
        refine XS.ifNo X13.here hx rfl (hb hby at_160) rfl ((if0 _ _).trans (flt (mt (lw_gt _ _).mp (own_e1 glo ghi).2)).2.2.1) ?_
        show Steps p.tables e below (T13.setTop (mkF m 163 #[.val (.long p1), .second, .val (.long p2), .second, .val (.int p3), .val (.int p4), .val (.int r2), .val (.long r5), .second, .val (.long r8), .second, .val (.long r9), .second, .val (.double (own_span r5)), .second, .val (.long ((Int64.ofInt R) - r5)), .second] [])) _
        refine XS.iconst X13.here hx rfl (hb hby at_163) ?_
        show Steps p.tables e below (T13.setTop (mkF m 164 #[.val (.long p1), .second, .val (.long p2), .second, .val (.int p3), .val (.int p4), .val (.int r2), .val (.long r5), .second, .val (.long r8), .second, .val (.long r9), .second, .val (.double (own_span r5)), .second, .val (.long ((Int64.ofInt R) - r5)), .second] [(.int (1 : Int32))])) _
        refine XS.goto X13.here hx rfl (pc0 := 164) (pc' := 168) rfl (hb hby at_164) (by decide) (by decide) ?_
        exact kz
      exact Goes.retN X13 hx Bd.notSynchronized (t := .boolean) Bd.returns (by simp) (hb hby at_168) (Nat.le_of_ble_eq_true rfl) (Nat.le_of_ble_eq_true rfl) ⟨rfl, Nf13⟩
    · refine Goes.via (S' := T13.setTop (mkF m 144 #[.val (.long p1), .second, .val (.long p2), .second, .val (.int p3), .val (.int p4), .val (.int r2), .val (.long r5), .second, .val (.long r8), .second, .val (.long r9), .second, .val (.double (own_span r5)), .second, .val (.long ((Int64.ofInt R) - r5)), .second] [(.int (1 : Int32))])) (fun tz kz => ?_) ?_
      · show Steps p.tables e below (T13.setTop (mkF m 129 #[.val (.long p1), .second, .val (.long p2), .second, .val (.int p3), .val (.int p4), .val (.int r2), .val (.long r5), .second, .val (.long r8), .second, .val (.long r9), .second, .val (.double (own_span r5)), .second, .val (.long ((Int64.ofInt R) - r5)), .second] [(.int r2)])) _
        refine XS.ifNo X13.here hx rfl (hb hby at_129) rfl ((if0 _ _).trans (feq hc129_14).1) ?_
        show Steps p.tables e below (T13.setTop (mkF m 132 #[.val (.long p1), .second, .val (.long p2), .second, .val (.int p3), .val (.int p4), .val (.int r2), .val (.long r5), .second, .val (.long r8), .second, .val (.long r9), .second, .val (.double (own_span r5)), .second, .val (.long ((Int64.ofInt R) - r5)), .second] [])) _
        refine XS.lload X13.here hx rfl (hb hby at_132) rfl ?_
        show Steps p.tables e below (T13.setTop (mkF m 134 #[.val (.long p1), .second, .val (.long p2), .second, .val (.int p3), .val (.int p4), .val (.int r2), .val (.long r5), .second, .val (.long r8), .second, .val (.long r9), .second, .val (.double (own_span r5)), .second, .val (.long ((Int64.ofInt R) - r5)), .second] [(.long ((Int64.ofInt R) - r5))])) _
        refine XS.lconst X13.here hx rfl (hb hby at_134) ?_
        show Steps p.tables e below (T13.setTop (mkF m 135 #[.val (.long p1), .second, .val (.long p2), .second, .val (.int p3), .val (.int p4), .val (.int r2), .val (.long r5), .second, .val (.long r8), .second, .val (.long r9), .second, .val (.double (own_span r5)), .second, .val (.long ((Int64.ofInt R) - r5)), .second] [(.long (0 : Int64)), (.long ((Int64.ofInt R) - r5))])) _
        refine XS.lcmp X13.here hx rfl (hb hby at_135) rfl ?_
        show Steps p.tables e below (T13.setTop (mkF m 136 #[.val (.long p1), .second, .val (.long p2), .second, .val (.int p3), .val (.int p4), .val (.int r2), .val (.long r5), .second, .val (.long r8), .second, .val (.long r9), .second, .val (.double (own_span r5)), .second, .val (.long ((Int64.ofInt R) - r5)), .second] [(.int (lcmpW ((Int64.ofInt R) - r5) (0 : Int64)))])) _
        refine XS.ifNo X13.here hx rfl (hb hby at_136) rfl ((if0 _ _).trans (teq ((lw_eq _ _).mpr (own_e0 (hex (by rw [hr5, if_neg hc129_14]; exact own_exact _ _))))).2) ?_
        show Steps p.tables e below (T13.setTop (mkF m 139 #[.val (.long p1), .second, .val (.long p2), .second, .val (.int p3), .val (.int p4), .val (.int r2), .val (.long r5), .second, .val (.long r8), .second, .val (.long r9), .second, .val (.double (own_span r5)), .second, .val (.long ((Int64.ofInt R) - r5)), .second] [])) _
        refine XS.iconst X13.here hx rfl (hb hby at_139) ?_
        show Steps p.tables e below (T13.setTop (mkF m 140 #[.val (.long p1), .second, .val (.long p2), .second, .val (.int p3), .val (.int p4), .val (.int r2), .val (.long r5), .second, .val (.long r8), .second, .val (.long r9), .second, .val (.double (own_span r5)), .second, .val (.long ((Int64.ofInt R) - r5)), .second] [(.int (1 : Int32))])) _
        refine XS.goto X13.here hx rfl (pc0 := 140) (pc' := 144) rfl (hb hby at_140) (by decide) (by decide) ?_
        exact kz
      exact Goes.retN X13 hx Bd.notSynchronized (t := .boolean) Bd.returns (by simp) (hb hby at_144) (Nat.le_of_ble_eq_true rfl) (Nat.le_of_ble_eq_true rfl) ⟨rfl, Nf13⟩
  · refine Goes.via (S' := T11.setTop (mkF m 119 #[.val (.long p1), .second, .val (.long p2), .second, .val (.int p3), .val (.int p4), .val (.int r2), .val (.long r5), .second, .val (.long r8), .second, .val (.long r9), .second, .val (.double (own_span r5)), .second, .unset, .unset] [(.double (own_span r5))])) (fun tz kz => ?_) ?_
    · show Steps p.tables e below (T11.setTop (mkF m 102 #[.val (.long p1), .second, .val (.long p2), .second, .val (.int p3), .val (.int p4), .val (.int r2), .val (.long r5), .second, .val (.long r8), .second, .val (.long r9), .second, .val (.double (own_span r5)), .second, .unset, .unset] [(.int (cmpValue (FP.dcmp (own_span r5) (4890909195324358656 : UInt64)) .g))])) _
      refine XS.ifYes X11.here hx rfl (pc0 := 102) (pc' := 117) rfl (hb hby at_102) rfl ((if0 _ _).trans (flt hc102_12).2.1) (by decide) (by decide) ?_
      show Steps p.tables e below (T11.setTop (mkF m 117 #[.val (.long p1), .second, .val (.long p2), .second, .val (.int p3), .val (.int p4), .val (.int r2), .val (.long r5), .second, .val (.long r8), .second, .val (.long r9), .second, .val (.double (own_span r5)), .second, .unset, .unset] [])) _
      refine XS.dload X11.here hx rfl (hb hby at_117) rfl ?_
      exact kz
    obtain ⟨_, _, ⟨T15, L15, k15, n15⟩, -, X15, ⟨Lc15, hQ15, l15, y15, z15⟩, st15⟩ := Jvm.LawKit.callS X11 hx (y := (⟨"com/example/fewbits/fewbits/store/SegmentHullSpanPinLaw", "bits", "(D)J"⟩ : MethodName)) hown (mvT hZ (hw _ (List.mem_of_getElem? (i := 8) rfl))) (mvT hZ (hw _ (List.mem_of_getElem? (i := 9) rfl))) (mvT hZ (hw _ (List.mem_of_getElem? (i := 10) rfl))) (mvT hZ (hw _ (List.mem_of_getElem? (i := 11) rfl))) (by decide) (backOf (W := 0) (rm2 l Z a0 hw [] (own_span r5) R h0 n0 Z0 hW g0 gT hdv) hZ (hw _ (List.mem_of_getElem? (i := 11) rfl)) (hw _ (List.mem_of_getElem? (i := 10) rfl)) (by decide) (by decide)) (g := (mkF m 119 #[.val (.long p1), .second, .val (.long p2), .second, .val (.int p3), .val (.int p4), .val (.int r2), .val (.long r5), .second, .val (.long r8), .second, .val (.long r9), .second, .val (.double (own_span r5)), .second, .unset, .unset] [(.double (own_span r5))])) rfl (by rw [hml]; rfl) (argsL := [(.double (own_span r5))]) (rest := []) (lenOf pd_1 rfl) rfl (by show 2 * 0 + _ ≤ _; exact Nat.le_of_eq rfl) (hb hby at_119) (fun _ _ => ⟨rfl, e11, (by decide : 0 + 0 ≤ _), (by decide : 0 + 0 ≤ _)⟩)
    dsimp only [Pt.U, Pt.locs, Pt.cells, Pt.slots] at X15 l15 y15 z15 st15 hQ15
    subst l15 y15 z15
    obtain ⟨rfl, N15, e15⟩ := hQ15
    have Nf15 := Fr.app Nf11 N15
    refine Goes.via (S' := T15.setTop (mkF m 122 #[.val (.long p1), .second, .val (.long p2), .second, .val (.int p3), .val (.int p4), .val (.int r2), .val (.long r5), .second, .val (.long r8), .second, .val (.long r9), .second, .val (.double (own_span r5)), .second, .unset, .unset] [(.long (Int64.ofInt R))])) (st15) ?_
    refine Goes.via (S' := T15.setTop (mkF m 129 #[.val (.long p1), .second, .val (.long p2), .second, .val (.int p3), .val (.int p4), .val (.int r2), .val (.long r5), .second, .val (.long r8), .second, .val (.long r9), .second, .val (.double (own_span r5)), .second, .val (.long ((Int64.ofInt R) - r5)), .second] [(.int r2)])) (fun tz kz => ?_) ?_
    · show Steps p.tables e below (T15.setTop (mkF m 122 #[.val (.long p1), .second, .val (.long p2), .second, .val (.int p3), .val (.int p4), .val (.int r2), .val (.long r5), .second, .val (.long r8), .second, .val (.long r9), .second, .val (.double (own_span r5)), .second, .unset, .unset] [(.long (Int64.ofInt R))])) _
      refine XS.lload X15.here hx rfl (hb hby at_122) rfl ?_
      show Steps p.tables e below (T15.setTop (mkF m 124 #[.val (.long p1), .second, .val (.long p2), .second, .val (.int p3), .val (.int p4), .val (.int r2), .val (.long r5), .second, .val (.long r8), .second, .val (.long r9), .second, .val (.double (own_span r5)), .second, .unset, .unset] [(.long r5), (.long (Int64.ofInt R))])) _
      refine XS.lsub X15.here hx rfl (hb hby at_124) rfl ?_
      show Steps p.tables e below (T15.setTop (mkF m 125 #[.val (.long p1), .second, .val (.long p2), .second, .val (.int p3), .val (.int p4), .val (.int r2), .val (.long r5), .second, .val (.long r8), .second, .val (.long r9), .second, .val (.double (own_span r5)), .second, .unset, .unset] [(.long ((Int64.ofInt R) - r5))])) _
      refine XS.lstore X15.here hx rfl (hb hby at_125) rfl (l' := #[.val (.long p1), .second, .val (.long p2), .second, .val (.int p3), .val (.int p4), .val (.int r2), .val (.long r5), .second, .val (.long r8), .second, .val (.long r9), .second, .val (.double (own_span r5)), .second, .val (.long ((Int64.ofInt R) - r5)), .second]) rfl ?_
      show Steps p.tables e below (T15.setTop (mkF m 127 #[.val (.long p1), .second, .val (.long p2), .second, .val (.int p3), .val (.int p4), .val (.int r2), .val (.long r5), .second, .val (.long r8), .second, .val (.long r9), .second, .val (.double (own_span r5)), .second, .val (.long ((Int64.ofInt R) - r5)), .second] [])) _
      refine XS.iload X15.here hx rfl (hb hby at_127) rfl ?_
      exact kz
    by_cases hc129_16 : r2 = (0 : Int32)
    · refine Goes.via (S' := T15.setTop (mkF m 168 #[.val (.long p1), .second, .val (.long p2), .second, .val (.int p3), .val (.int p4), .val (.int r2), .val (.long r5), .second, .val (.long r8), .second, .val (.long r9), .second, .val (.double (own_span r5)), .second, .val (.long ((Int64.ofInt R) - r5)), .second] [(.int (1 : Int32))])) (fun tz kz => ?_) ?_
      · show Steps p.tables e below (T15.setTop (mkF m 129 #[.val (.long p1), .second, .val (.long p2), .second, .val (.int p3), .val (.int p4), .val (.int r2), .val (.long r5), .second, .val (.long r8), .second, .val (.long r9), .second, .val (.double (own_span r5)), .second, .val (.long ((Int64.ofInt R) - r5)), .second] [(.int r2)])) _
        refine XS.ifYes X15.here hx rfl (pc0 := 129) (pc' := 145) rfl (hb hby at_129) rfl ((if0 _ _).trans (teq hc129_16).1) (by decide) (by decide) ?_
        show Steps p.tables e below (T15.setTop (mkF m 145 #[.val (.long p1), .second, .val (.long p2), .second, .val (.int p3), .val (.int p4), .val (.int r2), .val (.long r5), .second, .val (.long r8), .second, .val (.long r9), .second, .val (.double (own_span r5)), .second, .val (.long ((Int64.ofInt R) - r5)), .second] [])) _
        refine XS.lload X15.here hx rfl (hb hby at_145) rfl ?_
        show Steps p.tables e below (T15.setTop (mkF m 147 #[.val (.long p1), .second, .val (.long p2), .second, .val (.int p3), .val (.int p4), .val (.int r2), .val (.long r5), .second, .val (.long r8), .second, .val (.long r9), .second, .val (.double (own_span r5)), .second, .val (.long ((Int64.ofInt R) - r5)), .second] [(.long ((Int64.ofInt R) - r5))])) _
        refine X15.ldc2Long hx hown (mvT hZ (hw _ (List.mem_of_getElem? (i := 12) rfl))) (g := (mkF m 147 #[.val (.long p1), .second, .val (.long p2), .second, .val (.int p3), .val (.int p4), .val (.int r2), .val (.long r5), .second, .val (.long r8), .second, .val (.long r9), .second, .val (.double (own_span r5)), .second, .val (.long ((Int64.ofInt R) - r5)), .second] [(.long ((Int64.ofInt R) - r5))])) rfl (hb hby at_147) _ ?_
        show Steps p.tables e below (T15.setTop (mkF m 150 #[.val (.long p1), .second, .val (.long p2), .second, .val (.int p3), .val (.int p4), .val (.int r2), .val (.long r5), .second, .val (.long r8), .second, .val (.long r9), .second, .val (.double (own_span r5)), .second, .val (.long ((Int64.ofInt R) - r5)), .second] [(.long (-2048 : Int64)), (.long ((Int64.ofInt R) - r5))])) _
        refine XS.lcmp X15.here hx rfl (hb hby at_150) rfl ?_
        show Steps p.tables e below (T15.setTop (mkF m 151 #[.val (.long p1), .second, .val (.long p2), .second, .val (.int p3), .val (.int p4), .val (.int r2), .val (.long r5), .second, .val (.long r8), .second, .val (.long r9), .second, .val (.double (own_span r5)), .second, .val (.long ((Int64.ofInt R) - r5)), .second] [(.int (lcmpW ((Int64.ofInt R) - r5) (-2048 : Int64)))])) _
        refine XS.ifNo X15.here hx rfl (hb hby at_151) rfl ((if0 _ _).trans (flt (mt (lw_lt _ _).mp (own_e1 glo ghi).1)).1) ?_
        show Steps p.tables e below (T15.setTop (mkF m 154 #[.val (.long p1), .second, .val (.long p2), .second, .val (.int p3), .val (.int p4), .val (.int r2), .val (.long r5), .second, .val (.long r8), .second, .val (.long r9), .second, .val (.double (own_span r5)), .second, .val (.long ((Int64.ofInt R) - r5)), .second] [])) _
        refine XS.lload X15.here hx rfl (hb hby at_154) rfl ?_
        show Steps p.tables e below (T15.setTop (mkF m 156 #[.val (.long p1), .second, .val (.long p2), .second, .val (.int p3), .val (.int p4), .val (.int r2), .val (.long r5), .second, .val (.long r8), .second, .val (.long r9), .second, .val (.double (own_span r5)), .second, .val (.long ((Int64.ofInt R) - r5)), .second] [(.long ((Int64.ofInt R) - r5))])) _
        refine X15.ldc2Long hx hown (mvT hZ (hw _ (List.mem_of_getElem? (i := 13) rfl))) (g := (mkF m 156 #[.val (.long p1), .second, .val (.long p2), .second, .val (.int p3), .val (.int p4), .val (.int r2), .val (.long r5), .second, .val (.long r8), .second, .val (.long r9), .second, .val (.double (own_span r5)), .second, .val (.long ((Int64.ofInt R) - r5)), .second] [(.long ((Int64.ofInt R) - r5))])) rfl (hb hby at_156) _ ?_
        show Steps p.tables e below (T15.setTop (mkF m 159 #[.val (.long p1), .second, .val (.long p2), .second, .val (.int p3), .val (.int p4), .val (.int r2), .val (.long r5), .second, .val (.long r8), .second, .val (.long r9), .second, .val (.double (own_span r5)), .second, .val (.long ((Int64.ofInt R) - r5)), .second] [(.long (2048 : Int64)), (.long ((Int64.ofInt R) - r5))])) _
        refine XS.lcmp X15.here hx rfl (hb hby at_159) rfl ?_
        show Steps p.tables e below (T15.setTop (mkF m 160 #[.val (.long p1), .second, .val (.long p2), .second, .val (.int p3), .val (.int p4), .val (.int r2), .val (.long r5), .second, .val (.long r8), .second, .val (.long r9), .second, .val (.double (own_span r5)), .second, .val (.long ((Int64.ofInt R) - r5)), .second] [(.int (lcmpW ((Int64.ofInt R) - r5) (2048 : Int64)))])) _
        refine XS.ifNo X15.here hx rfl (hb hby at_160) rfl ((if0 _ _).trans (flt (mt (lw_gt _ _).mp (own_e1 glo ghi).2)).2.2.1) ?_
        show Steps p.tables e below (T15.setTop (mkF m 163 #[.val (.long p1), .second, .val (.long p2), .second, .val (.int p3), .val (.int p4), .val (.int r2), .val (.long r5), .second, .val (.long r8), .second, .val (.long r9), .second, .val (.double (own_span r5)), .second, .val (.long ((Int64.ofInt R) - r5)), .second] [])) _
        refine XS.iconst X15.here hx rfl (hb hby at_163) ?_
        show Steps p.tables e below (T15.setTop (mkF m 164 #[.val (.long p1), .second, .val (.long p2), .second, .val (.int p3), .val (.int p4), .val (.int r2), .val (.long r5), .second, .val (.long r8), .second, .val (.long r9), .second, .val (.double (own_span r5)), .second, .val (.long ((Int64.ofInt R) - r5)), .second] [(.int (1 : Int32))])) _
        refine XS.goto X15.here hx rfl (pc0 := 164) (pc' := 168) rfl (hb hby at_164) (by decide) (by decide) ?_
        exact kz
      exact Goes.retN X15 hx Bd.notSynchronized (t := .boolean) Bd.returns (by simp) (hb hby at_168) (Nat.le_of_ble_eq_true rfl) (Nat.le_of_ble_eq_true rfl) ⟨rfl, Nf15⟩
    · refine Goes.via (S' := T15.setTop (mkF m 144 #[.val (.long p1), .second, .val (.long p2), .second, .val (.int p3), .val (.int p4), .val (.int r2), .val (.long r5), .second, .val (.long r8), .second, .val (.long r9), .second, .val (.double (own_span r5)), .second, .val (.long ((Int64.ofInt R) - r5)), .second] [(.int (1 : Int32))])) (fun tz kz => ?_) ?_
      · show Steps p.tables e below (T15.setTop (mkF m 129 #[.val (.long p1), .second, .val (.long p2), .second, .val (.int p3), .val (.int p4), .val (.int r2), .val (.long r5), .second, .val (.long r8), .second, .val (.long r9), .second, .val (.double (own_span r5)), .second, .val (.long ((Int64.ofInt R) - r5)), .second] [(.int r2)])) _
        refine XS.ifNo X15.here hx rfl (hb hby at_129) rfl ((if0 _ _).trans (feq hc129_16).1) ?_
        show Steps p.tables e below (T15.setTop (mkF m 132 #[.val (.long p1), .second, .val (.long p2), .second, .val (.int p3), .val (.int p4), .val (.int r2), .val (.long r5), .second, .val (.long r8), .second, .val (.long r9), .second, .val (.double (own_span r5)), .second, .val (.long ((Int64.ofInt R) - r5)), .second] [])) _
        refine XS.lload X15.here hx rfl (hb hby at_132) rfl ?_
        show Steps p.tables e below (T15.setTop (mkF m 134 #[.val (.long p1), .second, .val (.long p2), .second, .val (.int p3), .val (.int p4), .val (.int r2), .val (.long r5), .second, .val (.long r8), .second, .val (.long r9), .second, .val (.double (own_span r5)), .second, .val (.long ((Int64.ofInt R) - r5)), .second] [(.long ((Int64.ofInt R) - r5))])) _
        refine XS.lconst X15.here hx rfl (hb hby at_134) ?_
        show Steps p.tables e below (T15.setTop (mkF m 135 #[.val (.long p1), .second, .val (.long p2), .second, .val (.int p3), .val (.int p4), .val (.int r2), .val (.long r5), .second, .val (.long r8), .second, .val (.long r9), .second, .val (.double (own_span r5)), .second, .val (.long ((Int64.ofInt R) - r5)), .second] [(.long (0 : Int64)), (.long ((Int64.ofInt R) - r5))])) _
        refine XS.lcmp X15.here hx rfl (hb hby at_135) rfl ?_
        show Steps p.tables e below (T15.setTop (mkF m 136 #[.val (.long p1), .second, .val (.long p2), .second, .val (.int p3), .val (.int p4), .val (.int r2), .val (.long r5), .second, .val (.long r8), .second, .val (.long r9), .second, .val (.double (own_span r5)), .second, .val (.long ((Int64.ofInt R) - r5)), .second] [(.int (lcmpW ((Int64.ofInt R) - r5) (0 : Int64)))])) _
        refine XS.ifNo X15.here hx rfl (hb hby at_136) rfl ((if0 _ _).trans (teq ((lw_eq _ _).mpr (own_e0 (hex (by rw [hr5, if_neg hc129_16]; exact own_exact _ _))))).2) ?_
        show Steps p.tables e below (T15.setTop (mkF m 139 #[.val (.long p1), .second, .val (.long p2), .second, .val (.int p3), .val (.int p4), .val (.int r2), .val (.long r5), .second, .val (.long r8), .second, .val (.long r9), .second, .val (.double (own_span r5)), .second, .val (.long ((Int64.ofInt R) - r5)), .second] [])) _
        refine XS.iconst X15.here hx rfl (hb hby at_139) ?_
        show Steps p.tables e below (T15.setTop (mkF m 140 #[.val (.long p1), .second, .val (.long p2), .second, .val (.int p3), .val (.int p4), .val (.int r2), .val (.long r5), .second, .val (.long r8), .second, .val (.long r9), .second, .val (.double (own_span r5)), .second, .val (.long ((Int64.ofInt R) - r5)), .second] [(.int (1 : Int32))])) _
        refine XS.goto X15.here hx rfl (pc0 := 140) (pc' := 144) rfl (hb hby at_140) (by decide) (by decide) ?_
        exact kz
      exact Goes.retN X15 hx Bd.notSynchronized (t := .boolean) Bd.returns (by simp) (hb hby at_144) (Nat.le_of_ble_eq_true rfl) (Nat.le_of_ble_eq_true rfl) ⟨rfl, Nf15⟩
set_option maxRecDepth 65536 in
set_option maxHeartbeats 40000000 in
theorem comes_1 {Post : Tables → Env → Array Value → State → Outcome → State → Prop} (hpost : ∀ tb e args s v u, (limb_1_1.after args s (.returned v) u = true ∧ limb_1_2.after args s (.returned v) u = true ∧ True) → FrameEnd s (.returned v) u (Jvm.fieldLocs frame_1_writes args s ++ Jvm.arrayLocs frame_1_arrays args s ++ Jvm.staticLocs frame_1_statics s) 0 0 → Post tb e args s (.returned v) u) :
    ArmFor flags0 classFile x code maxLocals ret World_1 tables_1 room_1 Calls_1 rest_1 Pre_1 Post := by
  intro l hfl _ _ p e ha hc hk s m args below hf hA hF happ hP
  obtain ⟨hcalls, hrest, hpre⟩ := hP
  obtain ⟨-, -, -, hnamed, -, -, -, hat⟩ := (Spec.applies_iff hf).mp happ
  obtain ⟨hg, hn⟩ := and_e (Cond.before_iff.mp (show (Jvm.Cond.and given_1 narrow_1).before args s = true from hpre))
  obtain ⟨hcnt, gg0⟩ := and_e hg
  obtain ⟨ga0, gg1⟩ := and_e gg0
  obtain ⟨ga1, gg2⟩ := and_e gg1
  obtain ⟨ga2, gg3⟩ := and_e gg2
  obtain ⟨w0, w1, w2, w3, rfl⟩ : ∃ w0 w1 w2 w3 : Value, args = #[w0, w1, w2, w3] := by
    have hs : args.size = 4 := by simpa [Cond.value, given_1] using hcnt
    obtain ⟨L⟩ := args
    match L, hs with
    | [w0, w1, w2, w3], _ => exact ⟨w0, w1, w2, w3, rfl⟩
  have hw := fun d (hd : d ∈ tables_1) => atoms_spec (ws := Jvm.Cond.code x code maxLocals ret :: tables_1) hat d (List.mem_cons_of_mem _ hd)
  have hfit : Fit s := fun {y c} hc i hi => by
    obtain ⟨ha, rfl⟩ := Array.getElem?_eq_some_iff.mp hc
    have q := List.all_eq_true.mp ((Array.all_eq_true_iff_forall_mem.mp hF) _ (Array.getElem_mem ha)) i (List.mem_range.mpr hi)
    simpa [Array.getElem?_eq_getElem hi] using q
  obtain ⟨i0, ei0⟩ := isL_v ga0
  obtain rfl : w0 = (.long i0) := Option.some.inj ei0
  obtain ⟨i1, ei1⟩ := isL_v ga1
  obtain rfl : w1 = (.long i1) := Option.some.inj ei1
  obtain ⟨i2, ei2⟩ := is_v ga2
  obtain rfl : w2 = (.int i2) := Option.some.inj ei2
  obtain ⟨i3, ei3⟩ := is_v gg3
  obtain rfl : w3 = (.int i3) := Option.some.inj ei3
  obtain ⟨n, o, h1, h2, h3, _, L, rfl, ⟨rfl, N⟩, hq⟩ := rm0 l s _ hw tables_1 i0 i1 i2 i3 s.heap s.heap.size (Nat.le_refl _) p e ha hc hk s m _ below hf ((Spec.applies_iff_loose hf).mp happ).1 ⟨rfl, State.Warmed39.refl s, rfl⟩ trivial
  refine ⟨n, _, h1, h2, h3, hpost _ _ _ _ _ _ ⟨Cond.after_iff.mpr rfl, Cond.after_iff.mpr (eq_i res_at (Term.int_eval (1)) rfl), trivial⟩ ⟨hq.1, hq.2.1, (hq.2.2.sift fun y hy => Or.inr (N y hy)).mono (by decide) (by decide)⟩⟩
theorem main_1_1 : Claimed_1_1 := comes_1 fun _ _ _ _ _ _ h hF => ⟨h.1, hF⟩
theorem main_1_2 : Claimed_1_2 := comes_1 fun _ _ _ _ _ _ h hF => ⟨h.2.1, hF⟩
end Jvm.Pilot.@@N@@
namespace Jvm.Pilot.@@N@@
open Jvm Jvm.ClassFile Sem Op Lib Jvm.Free Jvm.Stand Jvm.Pilot.@@N@@.Jvm.D
/-! MADE BY PROGRAM (witnessworld.py) out of the Statement's table words and the real class files: 9 classes; the members and pool entries that the words name. The judged class is class 1, her method 2. -/
namespace start1
open Jvm.ClassFile
def u (s : String) : CpInfo := .utf8 (stringToUtf16 s)
/-- a pool by its gaps: so many unusable entries, then the entry; so many at the end -/
def gap : Nat → List CpInfo → List CpInfo
  | 0, r => r
  | n + 1, r => .unusable :: gap n r
def poolList (es : List (Nat × CpInfo)) (last : Nat) : List CpInfo := es.foldr (fun e r => gap e.1 (e.2 :: r)) (gap last [])
def pool (es : List (Nat × CpInfo)) (last : Nat) : Array CpInfo := ⟨poolList es last⟩
def fileOf (pool : Array CpInfo) (this : Nat) (attrs : Array Attribute := #[]) (ms : Array MethodInfo := #[]) (fl : Nat := 33) (sup : Nat := 0) (ifs : Array Nat := #[]) (fds : Array FieldInfo := #[]) : ClassFile where
  minorVersion := 0
  majorVersion := 65
  constantPool := pool
  accessFlags := fl
  thisClass := this
  superClass := sup
  interfaces := ifs
  fields := fds
  methods := ms
  attributes := attrs
def plain (name : String) (sup : Option ClassId) : Class where
  name := name
  kind := .ordinary
  loader := none
  accessFlags := 33
  super := sup
  interfaces := #[]
  cf := none
  fields := #[]
  methods := #[]
  instanceTypes := #[]
  staticTypes := #[]
  resolved := #[]
  callSites := []
  init := .initialized
  statics := none
  mirror := none

def pool0 : Array CpInfo := pool [(5, u "<init>"), (0, u "()V"), (1, .class_ 10), (1, u "java/lang/Object")] 113

def k0m0 : Method := { name := "<init>", desc := "()V", sig := { parameters := [], returnType := none }, accessFlags := 1, code := none }
/-- java/lang/Object -/
def k0 : Class := { plain "java/lang/Object" none with
  accessFlags := 33
  interfaces := #[]
  cf := some (fileOf pool0 8 #[] #[{ accessFlags := 1, nameIndex := 5, descriptorIndex := 6, attributes := #[] }] 33 0 #[] #[])
  fields := #[]
  methods := #[k0m0]
  instanceTypes := #[]
  staticTypes := #[]
  resolved := Array.replicate 124 none
  statics := none }

def pool1 : Array CpInfo := pool [(2, .class_ 4), (1, u "java/lang/Object"), (0, u "<init>"), (0, u "()V"), (0, .double 4895412794951729152), (1, .double 4890909195324358656), (3, .long 9223372036854775808), (1, .long 9007199254740991), (1, .integer 2147483647), (0, .methodref 19 20), (0, .class_ 21), (0, .nameAndType 22 23), (0, u "com/example/fewbits/fewbits/store/SegmentHull"), (0, u "span"), (0, u "(JJ)D"), (0, .methodref 25 26), (0, .class_ 27), (0, .nameAndType 28 29), (0, u "com/example/fewbits/fewbits/store/SegmentHullSpanPinLaw"), (0, u "bits"), (0, u "(D)J"), (0, .long 18446744073709549568), (1, .long 2048), (4, u "law"), (0, u "(JJII)Z")] 2

def k1m0 : Method := { name := "<init>", desc := "()V", sig := { parameters := [], returnType := none }, accessFlags := 1, code := none }
def k1c1 : Code := { maxStack := 4, maxLocals := 2, code := method_2_code, exceptionTable := #[], attributes := #[] }
def k1m1 : Method := { name := "bits", desc := "(D)J", sig := { parameters := [.double], returnType := some .long }, accessFlags := 10, code := some k1c1 }
def k1c2 : Code := { maxStack := 4, maxLocals := 17, code := code, exceptionTable := #[], attributes := #[] }
def k1m2 : Method := { name := "law", desc := "(JJII)Z", sig := { parameters := [.long, .long, .int, .int], returnType := some .boolean }, accessFlags := 9, code := some k1c2 }
/-- com/example/fewbits/fewbits/store/SegmentHullSpanPinLaw -/
def k1 : Class := { plain "com/example/fewbits/fewbits/store/SegmentHullSpanPinLaw" (some 0) with
  accessFlags := 49
  interfaces := #[]
  cf := some (fileOf pool1 25 #[] #[{ accessFlags := 1, nameIndex := 5, descriptorIndex := 6, attributes := #[] }, { accessFlags := 10, nameIndex := 28, descriptorIndex := 29, attributes := #[] }, { accessFlags := 9, nameIndex := 37, descriptorIndex := 38, attributes := #[] }] 49 2 #[] #[])
  fields := #[]
  methods := #[k1m0, k1m1, k1m2]
  instanceTypes := #[]
  staticTypes := #[]
  resolved := Array.replicate 41 none
  statics := none }

def pool2 : Array CpInfo := pool [(2, .class_ 4), (1, u "java/lang/Object"), (0, u "<init>"), (0, u "()V"), (0, .class_ 8), (0, u "com/example/fewbits/fewbits/store/SegmentHull$Chain"), (2, .class_ 13), (1, u "com/example/fewbits/fewbits/store/SegmentHull"), (0, u "upper"), (0, u "Lcom/example/fewbits/fewbits/store/SegmentHull$Chain;"), (2, u "lower"), (2, u "startTimestamp"), (0, u "J"), (2, u "startValue"), (0, u "D"), (6, u "I"), (7, u "span"), (0, u "(JJ)D"), (10, .double 4895412794951729152), (1, u "MOST_CORNERS")] 14

def k2m0 : Method := { name := "<init>", desc := "()V", sig := { parameters := [], returnType := none }, accessFlags := 0, code := none }
def k2c1 : Code := { maxStack := 4, maxLocals := 6, code := prog_35_method_6_code, exceptionTable := #[], attributes := #[] }
def k2m1 : Method := { name := "span", desc := "(JJ)D", sig := { parameters := [.long, .long], returnType := some .double }, accessFlags := 8, code := some k2c1 }
/-- com/example/fewbits/fewbits/store/SegmentHull -/
def k2 : Class := { plain "com/example/fewbits/fewbits/store/SegmentHull" (some 0) with
  accessFlags := 48
  interfaces := #[]
  cf := some (fileOf pool2 11 #[.nestMembers #[7]] #[{ accessFlags := 0, nameIndex := 5, descriptorIndex := 6, attributes := #[] }, { accessFlags := 8, nameIndex := 41, descriptorIndex := 42, attributes := #[] }] 48 2 #[] #[{ accessFlags := 24, nameIndex := 55, descriptorIndex := 33, attributes := #[] }, { accessFlags := 2, nameIndex := 21, descriptorIndex := 22, attributes := #[] }, { accessFlags := 2, nameIndex := 25, descriptorIndex := 26, attributes := #[] }, { accessFlags := 18, nameIndex := 14, descriptorIndex := 15, attributes := #[] }, { accessFlags := 18, nameIndex := 18, descriptorIndex := 15, attributes := #[] }])
  fields := #[{ name := "MOST_CORNERS", type := .int, accessFlags := 24, slot := 0, constantValue := 0 }, { name := "startTimestamp", type := .long, accessFlags := 2, slot := 0, constantValue := 0 }, { name := "startValue", type := .double, accessFlags := 2, slot := 1, constantValue := 0 }, { name := "upper", type := (.object "com/example/fewbits/fewbits/store/SegmentHull$Chain"), accessFlags := 18, slot := 2, constantValue := 0 }, { name := "lower", type := (.object "com/example/fewbits/fewbits/store/SegmentHull$Chain"), accessFlags := 18, slot := 3, constantValue := 0 }]
  methods := #[k2m0, k2m1]
  instanceTypes := #[.long, .double, (.object "com/example/fewbits/fewbits/store/SegmentHull$Chain"), (.object "com/example/fewbits/fewbits/store/SegmentHull$Chain")]
  staticTypes := #[.int]
  resolved := Array.replicate 70 none
  statics := none }

def pool3 : Array CpInfo := pool [(1, u "java/lang/Cloneable"), (0, .class_ 1), (0, u "java/lang/Object"), (0, .class_ 3)] 3

/-- java/lang/Cloneable -/
def k3 : Class := { plain "java/lang/Cloneable" (some 0) with
  accessFlags := 1537
  interfaces := #[]
  cf := some (fileOf pool3 2 #[] #[] 1537 4 #[] #[])
  fields := #[]
  methods := #[]
  instanceTypes := #[]
  staticTypes := #[]
  resolved := Array.replicate 8 none
  statics := none }

def pool4 : Array CpInfo := pool [(1, u "java/io/Serializable"), (0, .class_ 1), (0, u "java/lang/Object"), (0, .class_ 3)] 3

/-- java/io/Serializable -/
def k4 : Class := { plain "java/io/Serializable" (some 0) with
  accessFlags := 1537
  interfaces := #[]
  cf := some (fileOf pool4 2 #[] #[] 1537 4 #[] #[])
  fields := #[]
  methods := #[]
  instanceTypes := #[]
  staticTypes := #[]
  resolved := Array.replicate 8 none
  statics := none }

/-- the primitive byte -/
def k5 : Class := { plain "byte" none with kind := .primitive 'B', accessFlags := 0x411 }
/-- [B -/
def k6 : Class := { plain "[B" (some 0) with kind := .array 5 .byte, interfaces := #[3, 4], accessFlags := 1041 }

/-- the primitive int -/
def k7 : Class := { plain "int" none with kind := .primitive 'I', accessFlags := 0x411 }
/-- [I -/
def k8 : Class := { plain "[I" (some 0) with kind := .array 7 .int, interfaces := #[3, 4], accessFlags := 1041 }

def heap : Heap := #[]
def classes : Array Class := #[k0, k1, k2, k3, k4, k5, k6, k7, k8]
def interned : List (Array UInt16 × Addr) := []
def slotsUsed : Nat := 0
def theMethod : MethodId := ⟨1, 2⟩
def args0 : Array Value := #[.long 5, .long 7, .int 3, .int 1]
def aboutOver (below : List Frame) : State where
  vm := { classes := classes, interned := interned.toArray }
  heap := heap
  slotsUsed := slotsUsed
  threads := #[{ frames := .invoking theMethod args0 :: below }]
def below0 : List Frame := [.native { method := ⟨0, 0⟩, args := #[] }]
def about1 : State := aboutOver below0
def p0 : Program := .bare "" "" ""
def e0 : Env := launch0.env 0 0 0
theorem w_frames : about1.frames = Frame.invoking theMethod args0 :: below0 := rfl
set_option maxRecDepth 65536 in
theorem w_args : argsFit about1.vm theMethod args0 = true := by decide +kernel
set_option maxRecDepth 65536 in
theorem w_heap : heapFits about1 = true := by decide +kernel
set_option maxRecDepth 65536 in
theorem w_runnable : about1.curStatus? = some .runnable := by decide +kernel
set_option maxRecDepth 65536 in
theorem w_alone : about1.alone = true := by decide +kernel
set_option maxRecDepth 65536 in
theorem w_named : about1.methodNamed? x = some theMethod := by decide +kernel
set_option maxRecDepth 65536 in
theorem w_hears : about1.hears theMethod below0 = true := by decide +kernel
set_option maxRecDepth 65536 in
theorem w_ripe : about1.ripe theMethod args0 below0 = true := by decide +kernel
theorem w_running : about1.status = .running := rfl
set_option maxRecDepth 65536 in
theorem w_room : about1.hasRoom e0.platform room_1 = true :=
  launch0.hasRoom_least _ room_1 (by decide +kernel) (by decide +kernel) (by decide +kernel) (by decide +kernel) (by decide +kernel) (by decide +kernel)
theorem allAtoms_all (ts : List Jvm.Cond) (a : Array Jvm.Value) (st : Jvm.State) : (allAtoms ts).before a st = ts.all (fun c => c.before a st) := by
  induction ts with
  | nil => rfl
  | cons c t ih =>
    show (Jvm.Cond.and c (allAtoms t)).before a st = _
    rw [Jvm.Cond.before_and, ih, List.all_cons]
def words1 : List Jvm.Cond := Jvm.Cond.code x code maxLocals ret :: tables_1
/-- a 'code' word, met by the world's own term for the bytes: nothing is compared byte by byte -/
theorem code_word {y : MethodName} {bytes : ByteArray} {mx : Nat} {rt : Option FieldType} {a : Array Value} {s : State} {m : MethodId} {meth : Method} {c : Code} (h1 : s.methodNamed? y = some m) (h2 : s.vm.method? m = some meth) (h3 : meth.code = some c) (h4 : c.code = bytes)
    (h5 : (c.maxLocals == mx && c.exceptionTable.isEmpty && decide (c.maxStack ≤ mostOperands) && decide (meth.sig.returnType = rt) && !meth.locks && decide (parseMethodDescriptor y.desc = some meth.sig)) = true) : (Jvm.Cond.code y bytes mx rt).before a s = true := by
  simp only [Bool.and_eq_true, beq_iff_eq, Bool.not_eq_true', decide_eq_true_eq] at h5
  obtain ⟨⟨⟨⟨⟨g1, g2⟩, g3⟩, g4⟩, g5⟩, g6⟩ := h5
  simp [Cond.before, Cond.holds, Cond.value, h1, h2, h3, h4, g1, g2, g3, g4, g5, g6]
def isCode : Jvm.Cond → Bool
  | .code _ _ _ _ => true
  | _ => false
theorem all_split {L : List Jvm.Cond} {P : Jvm.Cond → Bool} (h1 : L.all (fun c => isCode c || P c) = true) (h2 : ∀ c ∈ L.filter isCode, P c = true) : L.all P = true := by
  refine List.all_eq_true.mpr fun c hc => ?_
  have h := List.all_eq_true.mp h1 c hc
  rcases Bool.eq_false_or_eq_true (isCode c) with hi | hi
  · exact h2 c (List.mem_filter.mpr ⟨hc, hi⟩)
  · simpa [hi] using h
set_option maxRecDepth 65536 in
theorem w_c0 : (Jvm.Cond.code x code maxLocals ret).before args0 about1 = true := code_word (m := ⟨1, 2⟩) (meth := k1m2) (c := k1c2) (by decide +kernel) rfl rfl rfl (by decide +kernel)
set_option maxRecDepth 65536 in
theorem w_c1 : (Jvm.Cond.code ({ cls := "com/example/fewbits/fewbits/store/SegmentHull", name := "span", desc := "(JJ)D" } : Jvm.MethodName) prog_35_method_6_code (6 : Nat) (Option.some Jvm.ClassFile.FieldType.double)).before args0 about1 = true := code_word (m := ⟨2, 1⟩) (meth := k2m1) (c := k2c1) (by decide +kernel) rfl rfl rfl (by decide +kernel)
set_option maxRecDepth 65536 in
theorem w_c2 : (Jvm.Cond.code ({ cls := "com/example/fewbits/fewbits/store/SegmentHullSpanPinLaw", name := "bits", desc := "(D)J" } : Jvm.MethodName) method_2_code (2 : Nat) (Option.some Jvm.ClassFile.FieldType.long)).before args0 about1 = true := code_word (m := ⟨1, 1⟩) (meth := k1m1) (c := k1c1) (by decide +kernel) rfl rfl rfl (by decide +kernel)
def codes1 : List Jvm.Cond := [Jvm.Cond.code x code maxLocals ret, Jvm.Cond.code ({ cls := "com/example/fewbits/fewbits/store/SegmentHull", name := "span", desc := "(JJ)D" } : Jvm.MethodName) prog_35_method_6_code (6 : Nat) (Option.some Jvm.ClassFile.FieldType.double), Jvm.Cond.code ({ cls := "com/example/fewbits/fewbits/store/SegmentHullSpanPinLaw", name := "bits", desc := "(D)J" } : Jvm.MethodName) method_2_code (2 : Nat) (Option.some Jvm.ClassFile.FieldType.long)]
set_option maxRecDepth 65536 in
theorem codes_eq : words1.filter isCode = codes1 := rfl
theorem w_codes : ∀ c ∈ words1.filter isCode, c.before args0 about1 = true := by
  rw [codes_eq]
  intro c hc
  simp only [codes1, List.mem_cons, List.not_mem_nil, or_false] at hc
  rcases hc with rfl | rfl | rfl
  · exact w_c0
  · exact w_c1
  · exact w_c2
set_option maxRecDepth 65536 in
theorem w_t1 : words1.all (fun c => isCode c || c.before args0 about1) = true := by decide +kernel
theorem w_tables : (allAtoms (Jvm.Cond.code x code maxLocals ret :: tables_1)).before args0 about1 = true := by
  rw [allAtoms_all]
  show words1.all (fun c => c.before args0 about1) = true
  refine all_split ?_ w_codes
  rw [w_t1]
set_option maxRecDepth 65536 in
theorem w_case : (Jvm.Cond.and given_1 narrow_1).before args0 about1 = true := by decide +kernel
theorem w_applies : (headSpec (Jvm.Cond.code x code maxLocals ret :: tables_1) room_1).applies x e0.platform about1 = true :=
  (Spec.applies_iff w_frames).mpr ⟨w_running, w_runnable, w_alone, w_named, w_hears, w_ripe, w_room, w_tables⟩
theorem atStart : AtStart classFile x code maxLocals ret World_1 tables_1 room_1 Calls_1 rest_1 Pre_1 launch0 p0 e0 about1 theMethod args0 below0 :=
  ⟨lists_1, trivial, launch0.admits_env _ _ _, launch0.least_env, fairChoices_fair.cas, fairChoices_fair.clock, w_frames, w_args, w_heap, w_applies, trivial, trivial, w_case⟩
end start1
theorem witness_1 : WitnessClaimed_1 := ⟨start1.p0, start1.e0, start1.about1, start1.theMethod, start1.args0, start1.below0, start1.atStart⟩
end Jvm.Pilot.@@N@@
