import JvmDerived
import JvmDerived.Pilot.@@N@@Statement
import JvmDerived.Pilot.@@N@@Code
set_option linter.unusedVariables false
set_option linter.unusedSimpArgs false
namespace Jvm.RoadKit
open Sem ClassFile Op Lib Jvm.Stand Jvm.Free Jvm.LawKit
section Own
variable {p : Program} {l : Launch} {e : Env} {R : Room} {s : State} {m : MethodId} {args : Array Value} {below : List Frame} {meth : Method} {c : Code} {T : State} {locs : List Loc} {cells slots : Nat}
theorem retI (X : Stand p l e R s m args below meth c T locs cells slots) (hx : p.tables.exec = Jvm.exec) {pc : Nat} {Ls : Array Slot} {z : Int32} {rest : List Value} (hret : meth.sig.returnType = some .int) (hd : decode c.code pc = .ok (.ireturn, 1)) {fs : List Frame}
    (hl : ∀ (f : JFrame) (acts : List Action), f.method = m → f.locked = none → f.entered = [] → (doReturn e (T.setTop f) acts (some (.int z))).1 = T.setFrames fs) : Steps p.tables e below (T.setTop (mkF m pc Ls (.int z :: rest))) (T.setFrames fs) := by
  have hm' : T.vm.method? m = some meth := X.method'
  have hn : narrow .int (.int z) = .int z := rfl
  show Steps p.tables e below (T.setTop { method := m, pc := pc, locals := Ls, stack := _ :: rest, locked := none }) _
  jvm_step X.here [X.here.top, hx, hd, hm', hret, hn]
  first | (intro acts; rw [hl _ acts rfl rfl rfl]) | rw [hl _ _ rfl rfl rfl]
  exact Steps.refl _
/-- the walk comes to an end, with what Φ says there -/
def Goes (p : Program) (e : Env) (below : List Frame) (Φ : State → Outcome → Prop) (S : State) : Prop := ∃ s₂ o, Steps p.tables e below S s₂ ∧ s₂.status = .running ∧ Ended s₂ below o ∧ Φ s₂ o
theorem Goes.via {Φ : State → Outcome → Prop} {S S' : State} (k : ∀ t, Steps p.tables e below S' t → Steps p.tables e below S t) (h : Goes p e below Φ S') : Goes p e below Φ S := by
  obtain ⟨s₂, o, h1, h2, h3, h4⟩ := h
  exact ⟨s₂, o, k _ h1, h2, h3, h4⟩
/-- what a contract's end says -/
def Fin (s : State) (Q : Option Value → Heap → List Loc → Prop) (C S : Nat) : State → Outcome → Prop := fun s₂ o => ∃ v L, o = .returned v ∧ Q v s₂.heap L ∧ FrameEnd s o s₂ L C S
theorem Goes.retN (X : Stand p l e R s m args below meth c T locs cells slots) (hx : p.tables.exec = Jvm.exec) (hlocks : meth.locks = false) {pc : Nat} {Ls : Array Slot} {z : Int32} {t : FieldType} {rest : List Value} (hret : meth.sig.returnType = some t) (ht : t = .boolean ∨ t = .byte ∨ t = .char ∨ t = .short)
    (hd : decode c.code pc = .ok (.ireturn, 1)) {Q : Option Value → Heap → List Loc → Prop} {C S : Nat} (hc : cells ≤ C) (hs : slots ≤ S) (hQ : Q (some (.int (nar t z))) T.heap locs) : Goes p e below (Fin s Q C S) (T.setTop (mkF m pc Ls (.int z :: rest))) := by
  obtain ⟨fs, hr, hrun, hended, hW, hsame⟩ := X.leave (v := some (.int (nar t z))) (fun h => by rw [hret] at h; cases h) hlocks
  exact ⟨_, _, Jvm.RoadKit.retN X hx hret ht hd hr, hrun, hended, _, _, rfl, hQ, ⟨_, rfl⟩, hW, hsame.mono hc hs⟩
theorem Goes.retI (X : Stand p l e R s m args below meth c T locs cells slots) (hx : p.tables.exec = Jvm.exec) (hlocks : meth.locks = false) {pc : Nat} {Ls : Array Slot} {z : Int32} {rest : List Value} (hret : meth.sig.returnType = some .int)
    (hd : decode c.code pc = .ok (.ireturn, 1)) {Q : Option Value → Heap → List Loc → Prop} {C S : Nat} (hc : cells ≤ C) (hs : slots ≤ S) (hQ : Q (some (.int z)) T.heap locs) : Goes p e below (Fin s Q C S) (T.setTop (mkF m pc Ls (.int z :: rest))) := by
  obtain ⟨fs, hr, hrun, hended, hW, hsame⟩ := X.leave (v := some (.int z)) (fun h => by rw [hret] at h; cases h) hlocks
  exact ⟨_, _, Jvm.RoadKit.retI X hx hret hd hr, hrun, hended, _, _, rfl, hQ, ⟨_, rfl⟩, hW, hsame.mono hc hs⟩
theorem Goes.retO (X : Stand p l e R s m args below meth c T locs cells slots) (hx : p.tables.exec = Jvm.exec) (hlocks : meth.locks = false) {pc : Nat} {Ls : Array Slot} {w : Value} {t : FieldType} {i : Instr} {rest : List Value} (hret : meth.sig.returnType = some t) (hn : narrow t w = w)
    (hi : (i = .ireturn ∧ (t = .int ∨ t = .boolean ∨ t = .byte ∨ t = .char ∨ t = .short) ∧ ∃ z, w = .int z) ∨ (i = .lreturn ∧ t = .long ∧ ∃ z, w = .long z) ∨ (i = .dreturn ∧ t = .double ∧ ∃ z, w = .double z) ∨ (i = .freturn ∧ t = .float ∧ ∃ z, w = .float z) ∨ (i = .areturn ∧ t.isReference = true ∧ w.isRef = true))
    (hd : decode c.code pc = .ok (i, 1)) {Q : Option Value → Heap → List Loc → Prop} {C S : Nat} (hc : cells ≤ C) (hs : slots ≤ S) (hQ : Q (some w) T.heap locs) : Goes p e below (Fin s Q C S) (T.setTop (mkF m pc Ls (w :: rest))) := by
  obtain ⟨fs, hr, hrun, hended, hW, hsame⟩ := X.leave (v := some w) (fun h => by rw [hret] at h; cases h) hlocks
  exact ⟨_, _, Jvm.RoadKit.retOut X hx hret hn hi hd hr, hrun, hended, _, _, rfl, hQ, ⟨_, rfl⟩, hW, hsame.mono hc hs⟩
theorem Goes.retV (X : Stand p l e R s m args below meth c T locs cells slots) (hx : p.tables.exec = Jvm.exec) (hlocks : meth.locks = false) {pc : Nat} {Ls : Array Slot} (hret : meth.sig.returnType = none)
    (hd : decode c.code pc = .ok (.return_, 1)) {Q : Option Value → Heap → List Loc → Prop} {C S : Nat} (hc : cells ≤ C) (hs : slots ≤ S) (hQ : Q none T.heap locs) : Goes p e below (Fin s Q C S) (T.setTop (mkF m pc Ls [])) := by
  obtain ⟨fs, hr, hrun, hended, hW, hsame⟩ := X.leave (v := none) (fun _ => rfl) hlocks
  exact ⟨_, _, X.returnOut hx hret hd hr, hrun, hended, _, _, rfl, hQ, ⟨_, rfl⟩, hW, hsame.mono hc hs⟩
/-- room counted generously -/
theorem moreRoom (X : Stand p l e R s m args below meth c T locs cells slots) {k n : Nat} (h1 : cells ≤ k) (h2 : slots ≤ n) : Stand p l e R s m args below meth c T locs k n := { X with same := X.same.mono h1 h2 }
theorem exa_static {args : Array Value} {s : State} {C n d K : String} (h : (Jvm.Cond.exactly (Jvm.Term.static C n d) K).value args s none s [] = some true) : ∃ b, (Jvm.Term.static C n d).eval args s none [] s = some (.ref b) ∧ Exa s s.heap b K := by
  obtain ⟨b, e1⟩ := exa_v h
  exact ⟨b, e1, Exa.start e1 h⟩
theorem fld_static {args : Array Value} {s : State} {t : Jvm.Term} {b : Addr} {C n d : String} {k : Int32} (ev : t.eval args s none [] s = some (.ref b)) (h : (Jvm.Cond.eq (Jvm.Term.field t C n d) (Jvm.Term.int k)).value args s none s [] = some true) : Fld s s.heap b C n d (.int k) := by
  exact Fld.start ((fld_at ev).symm.trans (eqv_i (Term.int_eval k) h))
theorem adr_ne {a b k k' : Nat} (h : a < k) (g : b = k') (q : k ≤ k') : a ≠ b := by omega
theorem cat_ref {v : Value} (h : v.isRef = true) : v.category = 1 := by rcases ref_cases h with rfl | ⟨_, rfl⟩ <;> rfl
theorem narrow_ref {v : Value} {t : FieldType} (h : v.isRef = true) : narrow t v = v := by rcases ref_cases h with rfl | ⟨_, rfl⟩ <;> cases t <;> rfl
theorem fits_refO {v : Value} {C : String} (h : v.isRef = true) : fits (.object C) v = true := by rcases ref_cases h with rfl | ⟨_, rfl⟩ <;> rfl
theorem fld_null {args : Array Value} {s : State} {t : Jvm.Term} {b : Addr} {C n d : String} (ev : t.eval args s none [] s = some (.ref b)) (h : (Jvm.Cond.eq (Jvm.Term.field t C n d) Jvm.Term.null).value args s none s [] = some true) : Fld s s.heap b C n d .null := Fld.start ((fld_at ev).symm.trans (null_v h))
theorem ret1 {z : Int32} (h : z = 1) : some (Value.int (nar .boolean z)) = some (.int 1) := by subst h; rfl
end Own
end Jvm.RoadKit
namespace Jvm.Pilot.@@N@@
open Jvm Jvm.ClassFile Sem Op Lib Jvm.Free Jvm.Stand Jvm.LawKit Jvm.RoadKit Bundle Jvm.Pilot.@@N@@.Jvm.D
theorem pd_0 : parseMethodDescriptor "(I)D" = some ⟨[.int], some .double⟩ := by decide +kernel
theorem pd_1 : parseMethodDescriptor "(DD)Z" = some ⟨[.double, .double], some .boolean⟩ := by decide +kernel
def own_m (d : Int32) : UInt64 := FP.dmul (FP.i2d (d - (1 : Int32))) (4625309407300183654 : UInt64)
def own_q (d : Int32) : UInt64 := FP.ddiv (own_m d) (4660374592328564736 : UInt64)
def own_a (d : Int32) : UInt64 := FP.dadd (own_q d) (4603579539098121011 : UInt64)
def own_sk (d : Int32) : UInt64 := if d = 0 then FP.dconst0 else own_a d
def own_r (d : Int32) : UInt64 := FP.ddiv (FP.i2d (((d - (1 : Int32)) * (164 : Int32)) + (22254 : Int32))) (4675330424367480832 : UInt64)
def own_rf (d : Int32) : UInt64 := if d = 0 then FP.dconst0 else own_r d
def own_nn (x : UInt64) : Bool := decide (x &&& 9223372036854775807 ≤ 9218868437227405312)
def own_nr (x y : UInt64) : Bool := own_nn (FP.dsub x y) && own_nn (FP.dsub y x) && (FP.dcmp (FP.dsub x y) (4472406533629990549 : UInt64) == some .lt) && (FP.dcmp (FP.dsub y x) (4472406533629990549 : UInt64) == some .lt)
def own_ok (d : Int32) : Bool := own_nn (own_m d) && own_nn (own_q d) && own_nn (own_a d) && own_nn (own_r d) && own_nn (own_sk d) && own_nr (own_sk d) (own_rf d)
def own_all (f : Nat → Bool) : Nat → Bool
  | 0 => true
  | n + 1 => f n && own_all f n
theorem own_all_at {f : Nat → Bool} : ∀ {n : Nat}, own_all f n = true → ∀ k, k < n → f k = true
  | 0, _, k, h => absurd h (Nat.not_lt_zero k)
  | n + 1, q, k, h => by
    have q' : (f n && own_all f n) = true := q
    rw [Bool.and_eq_true] at q'
    rcases Nat.lt_succ_iff_lt_or_eq.mp h with h | rfl
    · exact own_all_at q'.2 k h
    · exact q'.1
set_option maxRecDepth 100000 in
theorem own_t1 : own_all (fun k => own_ok k.toInt32) 3711 = true := by decide +kernel
set_option maxRecDepth 100000 in
theorem own_t2 : own_all (fun k => FP.dcmp (own_sk k.toInt32) (own_sk (k + 1).toInt32) == some .lt) 3710 = true := by decide +kernel
theorem own_step (k : Nat) (h : k < 3710) : FP.dcmp (own_sk k.toInt32) (own_sk (k + 1).toInt32) = some .lt := by
  have q : (FP.dcmp (own_sk k.toInt32) (own_sk (k + 1).toInt32) == some .lt) = true := own_all_at own_t2 k h
  exact beq_iff_eq.mp q
theorem own_tr {a b c : UInt64} (h : FP.dcmp a b = some .lt) (k : FP.dcmp b c = some .lt) : FP.dcmp a c = some .lt := by
  have h' := FP.Core.dcmp_lt.mp h
  have k' := FP.Core.dcmp_lt.mp k
  exact FP.Core.dcmp_lt.mpr ⟨h'.1, k'.2.1, by have := h'.2.2; have := k'.2.2; omega⟩
theorem own_lt (j : Nat) : ∀ k, j < k → k < 3711 → FP.dcmp (own_sk j.toInt32) (own_sk k.toInt32) = some .lt
  | 0, h, _ => absurd h (Nat.not_lt_zero j)
  | k + 1, h, q => by
    rcases Nat.lt_succ_iff_lt_or_eq.mp h with h | rfl
    · exact own_tr (own_lt j k h (by omega)) (own_step k (by omega))
    · exact own_step j (by omega)
def own_D (d : Int32) : Prop := ∃ k : Nat, k < 3711 ∧ d = k.toInt32
theorem own_D.ok {d : Int32} (h : own_D d) : own_ok d = true := by obtain ⟨k, q, rfl⟩ := h; exact own_all_at own_t1 k q
theorem own_nn_of {x : UInt64} (h : own_nn x = true) : Jvm.Free.Fl.NoNaN64 x := of_decide_eq_true h
theorem own_D.parts {d : Int32} (h : own_D d) : Jvm.Free.Fl.NoNaN64 (own_m d) ∧ Jvm.Free.Fl.NoNaN64 (own_q d) ∧ Jvm.Free.Fl.NoNaN64 (own_a d) ∧ Jvm.Free.Fl.NoNaN64 (own_r d) ∧ Jvm.Free.Fl.NoNaN64 (own_sk d) ∧ own_nr (own_sk d) (own_rf d) = true := by
  have q := h.ok
  unfold own_ok at q
  simp only [Bool.and_eq_true] at q
  obtain ⟨⟨⟨⟨⟨q1, q2⟩, q3⟩, q4⟩, q5⟩, q6⟩ := q
  exact ⟨own_nn_of q1, own_nn_of q2, own_nn_of q3, own_nn_of q4, own_nn_of q5, q6⟩
theorem own_nr_parts {x y : UInt64} (h : own_nr x y = true) : Jvm.Free.Fl.NoNaN64 (FP.dsub x y) ∧ Jvm.Free.Fl.NoNaN64 (FP.dsub y x) ∧ cmpValue (FP.dcmp (FP.dsub x y) (4472406533629990549 : UInt64)) .g < 0 ∧ cmpValue (FP.dcmp (FP.dsub y x) (4472406533629990549 : UInt64)) .g < 0 := by
  unfold own_nr at h
  simp only [Bool.and_eq_true, beq_iff_eq] at h
  obtain ⟨⟨⟨q1, q2⟩, q3⟩, q4⟩ := h
  exact ⟨own_nn_of q1, own_nn_of q2, by rw [q3]; decide, by rw [q4]; decide⟩
theorem own_D.of (k : Int32) : own_D ((k &&& (2147483647 : Int32)) % (3711 : Int32)) := by
  have h1 := c_and k 2147483647 (by decide)
  have h2 := (c_irem (k &&& (2147483647 : Int32)) 3711 3711 (by decide)).1 h1.1
  refine ⟨((k &&& (2147483647 : Int32)) % (3711 : Int32)).toInt.toNat, by omega, Int32.toInt_inj.mp ?_⟩
  rw [len_toInt (by omega)]; omega
theorem own_D.lt {d e : Int32} (hd : own_D d) (he : own_D e) (h : d < e) : cmpValue (FP.dcmp (own_sk d) (own_sk e)) .g < 0 := by
  obtain ⟨j, q, rfl⟩ := hd
  obtain ⟨k, q', rfl⟩ := he
  rw [Int32.lt_iff_toInt_lt, len_toInt (by omega), len_toInt (by omega)] at h
  rw [own_lt j k (by omega) q']; decide
theorem own_z0 : cmpValue (FP.dcmp (own_sk 0) FP.dconst0) .l = 0 := by decide +kernel
theorem own_z1 : cmpValue (FP.dcmp (own_sk 1) (4603579539098121011 : UInt64)) .l = 0 := by decide +kernel
theorem own_z17 : own_nr (own_sk 3710) (4625478292286210048 : UInt64) = true := by decide +kernel
theorem own_e1 {d r : Int32} (h : r = (if d = (0 : Int32) then (if (cmpValue (FP.dcmp (own_sk d) FP.dconst0) .l) = (0 : Int32) then (1 : Int32) else (0 : Int32)) else (1 : Int32))) : r = 1 := by
  by_cases q : d = 0
  · subst q; rw [if_pos rfl, if_pos own_z0] at h; exact h
  · rw [if_neg q] at h; exact h
theorem own_e2 {d r : Int32} (h : r = (if d = (1 : Int32) then (if (cmpValue (FP.dcmp (own_sk d) (4603579539098121011 : UInt64)) .l) = (0 : Int32) then (1 : Int32) else (0 : Int32)) else (1 : Int32))) : r = 1 := by
  by_cases q : d = 1
  · subst q; rw [if_pos rfl, if_pos own_z1] at h; exact h
  · rw [if_neg q] at h; exact h
theorem own_e3 {d e r : Int32} (hd : own_D d) (he : own_D e) (h : r = (if d < e then (if (cmpValue (FP.dcmp (own_sk d) (own_sk e)) .g) < (0 : Int32) then (1 : Int32) else (0 : Int32)) else (1 : Int32))) : r = 1 := by
  by_cases q : d < e
  · rw [if_pos q, if_pos (hd.lt he q)] at h; exact h
  · rw [if_neg q] at h; exact h
theorem own_e4 {d e r : Int32} (hd : own_D d) (h : r = (if d = e then (if (cmpValue (FP.dcmp (own_sk d) (own_sk e)) .l) = (0 : Int32) then (1 : Int32) else (0 : Int32)) else (1 : Int32))) : r = 1 := by
  by_cases q : d = e
  · subst q; rw [if_pos rfl, if_pos (dcmpV_self hd.parts.2.2.2.2.1 .l)] at h; exact h
  · rw [if_neg q] at h; exact h
theorem d1_0 : decode prog_85_method_4_code 0 = .ok (.iload_n 0, 1) := by decide +kernel
theorem d1_1 : decode prog_85_method_4_code 1 = .ok (.ifCond .ne 5, 3) := by decide +kernel
theorem d1_4 : decode prog_85_method_4_code 4 = .ok (.dconst 0, 1) := by decide +kernel
theorem d1_5 : decode prog_85_method_4_code 5 = .ok (.dreturn, 1) := by decide +kernel
theorem d1_6 : decode prog_85_method_4_code 6 = .ok (.iload_n 0, 1) := by decide +kernel
theorem d1_7 : decode prog_85_method_4_code 7 = .ok (.iconst 1, 1) := by decide +kernel
theorem d1_8 : decode prog_85_method_4_code 8 = .ok (.isub, 1) := by decide +kernel
theorem d1_9 : decode prog_85_method_4_code 9 = .ok (.i2d, 1) := by decide +kernel
theorem d1_10 : decode prog_85_method_4_code 10 = .ok (.ldc2_w 76, 3) := by decide +kernel
theorem d1_13 : decode prog_85_method_4_code 13 = .ok (.dmul, 1) := by decide +kernel
theorem d1_14 : decode prog_85_method_4_code 14 = .ok (.ldc2_w 78, 3) := by decide +kernel
theorem d1_17 : decode prog_85_method_4_code 17 = .ok (.ddiv, 1) := by decide +kernel
theorem d1_18 : decode prog_85_method_4_code 18 = .ok (.ldc2_w 80, 3) := by decide +kernel
theorem d1_21 : decode prog_85_method_4_code 21 = .ok (.dadd, 1) := by decide +kernel
theorem d1_22 : decode prog_85_method_4_code 22 = .ok (.dreturn, 1) := by decide +kernel
theorem pn_1 : plainName "com/example/embercast/embercast/sim/Disk" = true := by first | (simp [plainName, overriddenIn]; done) | decide +kernel
theorem ef_1 (m : MethodId) (x0 : Int32) : entryFrame m #[(.int x0)] 1 = mkF m 0 #[.val (.int x0)] [] := by first | (simp [entryFrame, mkF, argsToLocals, Value.category]; done) | rfl
def Q_rm1 (Z : State) (d : Int32)  (h0 : Heap) (n0 : Nat) : Option Value → Heap → List Loc → Prop := fun v h L => v = some (.double (own_sk d)) ∧ Fr n0 L ∧ h = h0
set_option maxRecDepth 65536 in
set_option maxHeartbeats 40000000 in
theorem rm1 (l : Launch) (Z : State) (a0 : Array Value) (hw : ∀ d ∈ tables_1, d.before a0 Z = true) (ws : List Jvm.Cond) (d : Int32)  (h0 : Heap) (n0 : Nat) (Z0 : n0 ≤ h0.size) (hd : own_D d) :
    MetFree l (⟨"com/example/embercast/embercast/sim/Disk", "seekMs", "(I)D"⟩ : MethodName) (head1 (Jvm.Cond.code (⟨"com/example/embercast/embercast/sim/Disk", "seekMs", "(I)D"⟩ : MethodName) prog_85_method_4_code 1 (some .double) :: ws) ({ frames := 0, cells := 0, slots := 0, locals := 0 } : Room)) (fun a U => a = #[(.int d)] ∧ Z.Warmed39 U.vm ∧ U.heap = h0) (fun _ _ _ _ _ => True) (fun _ U oo U' => ∃ vv LL, oo = .returned vv ∧ (Q_rm1 Z d h0 n0) vv U'.heap LL ∧ FrameEnd U oo U' LL ({ frames := 0, cells := 0, slots := 0, locals := 0 } : Room).cells ({ frames := 0, cells := 0, slots := 0, locals := 0 } : Room).slots) := by
  refine MetFree.of_bodySF (plainFor_of_name pn_1) hisR ?_
  intro p e s m args below meth c s₁ Bd hml0 hP hK
  obtain ⟨rfl, hZ, hh⟩ := hP
  have hx := Bd.exec
  have hby := Bd.bytes
  have hml : c.maxLocals = 1 := hml0
  have hown : s.vm.findClass "com/example/embercast/embercast/sim/Disk" = some m.cls := findClass_of_methodNamed Bd.named
  have hnm := (name_of_methodNamed Bd.named Bd.method).1
  have X0 : Stand p l e ({ frames := 0, cells := 0, slots := 0, locals := 0 } : Room) s m #[(.int d)] below meth c s₁ [] 0 0 := Stand.of_body Bd
  have e0 : s₁.heap = h0 := by rw [← hh, Bd.state]; rfl
  have N0 := Fr.nil n0
  show Goes p e below (Fin s (Q_rm1 Z d h0 n0) ({ frames := 0, cells := 0, slots := 0, locals := 0 } : Room).cells ({ frames := 0, cells := 0, slots := 0, locals := 0 } : Room).slots) _
  refine Goes.via (S' := s₁.setTop (mkF m 0 #[.val (.int d)] [])) (fun tz kz => castTop (ef_1 m d ) kz) ?_
  refine Goes.via (S' := s₁.setTop (mkF m 1 #[.val (.int d)] [(.int d)])) (fun tz kz => ?_) ?_
  · show Steps p.tables e below (s₁.setTop (mkF m 0 #[.val (.int d)] [])) _
    refine XS.iloadN X0.here hx rfl (hb hby d1_0) rfl ?_
    exact kz
  by_cases hc1_1 : d = (0 : Int32)
  · refine Goes.via (S' := s₁.setTop (mkF m 5 #[.val (.int d)] [(.double FP.dconst0)])) (fun tz kz => ?_) ?_
    · show Steps p.tables e below (s₁.setTop (mkF m 1 #[.val (.int d)] [(.int d)])) _
      refine XS.ifNo X0.here hx rfl (hb hby d1_1) rfl ((if0 _ _).trans (teq hc1_1).2) ?_
      show Steps p.tables e below (s₁.setTop (mkF m 4 #[.val (.int d)] [])) _
      refine XS.dconst0 X0.here hx rfl (hb hby d1_4) (v := FP.dconst0) rfl ?_
      exact kz
    exact Goes.retO X0 hx Bd.notSynchronized Bd.returns rfl (Or.inr (Or.inr (Or.inl ⟨rfl, rfl, _, rfl⟩))) (hb hby d1_5) (Nat.le_of_ble_eq_true rfl) (Nat.le_of_ble_eq_true rfl) ⟨congrArg (fun z => some (Value.double z)) (by unfold own_sk; rw [if_pos hc1_1]), N0, e0⟩
  · refine Goes.via (S' := s₁.setTop (mkF m 22 #[.val (.int d)] [(.double (FP.dadd (FP.ddiv (FP.dmul (FP.i2d (d - (1 : Int32))) (4625309407300183654 : UInt64)) (4660374592328564736 : UInt64)) (4603579539098121011 : UInt64)))])) (fun tz kz => ?_) ?_
    · show Steps p.tables e below (s₁.setTop (mkF m 1 #[.val (.int d)] [(.int d)])) _
      refine XS.ifYes X0.here hx rfl (pc0 := 1) (pc' := 6) rfl (hb hby d1_1) rfl ((if0 _ _).trans (feq hc1_1).2) (by decide) (by decide) ?_
      show Steps p.tables e below (s₁.setTop (mkF m 6 #[.val (.int d)] [])) _
      refine XS.iloadN X0.here hx rfl (hb hby d1_6) rfl ?_
      show Steps p.tables e below (s₁.setTop (mkF m 7 #[.val (.int d)] [(.int d)])) _
      refine XS.iconst X0.here hx rfl (hb hby d1_7) ?_
      show Steps p.tables e below (s₁.setTop (mkF m 8 #[.val (.int d)] [(.int (1 : Int32)), (.int d)])) _
      refine XS.isub X0.here hx rfl (hb hby d1_8) rfl ?_
      show Steps p.tables e below (s₁.setTop (mkF m 9 #[.val (.int d)] [(.int (d - (1 : Int32)))])) _
      refine XS.i2dS X0.here hx rfl (hb hby d1_9) rfl (v := FP.i2d (d - (1 : Int32))) rfl ?_
      show Steps p.tables e below (s₁.setTop (mkF m 10 #[.val (.int d)] [(.double (FP.i2d (d - (1 : Int32))))])) _
      refine X0.ldc2DoubleC hx hown (mvT hZ (hw _ (List.mem_of_getElem? (i := 5) rfl))) (g := (mkF m 10 #[.val (.int d)] [(.double (FP.i2d (d - (1 : Int32))))])) rfl (hb hby d1_10) _ ?_
      show Steps p.tables e below (s₁.setTop (mkF m 13 #[.val (.int d)] [(.double (4625309407300183654 : UInt64)), (.double (FP.i2d (d - (1 : Int32))))])) _
      refine XS.dmulS X0.here hx rfl (hb hby d1_13) rfl hd.parts.1 (v := (FP.dmul (FP.i2d (d - (1 : Int32))) (4625309407300183654 : UInt64))) rfl ?_
      show Steps p.tables e below (s₁.setTop (mkF m 14 #[.val (.int d)] [(.double (FP.dmul (FP.i2d (d - (1 : Int32))) (4625309407300183654 : UInt64)))])) _
      refine X0.ldc2DoubleC hx hown (mvT hZ (hw _ (List.mem_of_getElem? (i := 6) rfl))) (g := (mkF m 14 #[.val (.int d)] [(.double (FP.dmul (FP.i2d (d - (1 : Int32))) (4625309407300183654 : UInt64)))])) rfl (hb hby d1_14) _ ?_
      show Steps p.tables e below (s₁.setTop (mkF m 17 #[.val (.int d)] [(.double (4660374592328564736 : UInt64)), (.double (FP.dmul (FP.i2d (d - (1 : Int32))) (4625309407300183654 : UInt64)))])) _
      refine XS.ddivS X0.here hx rfl (hb hby d1_17) rfl hd.parts.2.1 (v := (FP.ddiv (FP.dmul (FP.i2d (d - (1 : Int32))) (4625309407300183654 : UInt64)) (4660374592328564736 : UInt64))) rfl ?_
      show Steps p.tables e below (s₁.setTop (mkF m 18 #[.val (.int d)] [(.double (FP.ddiv (FP.dmul (FP.i2d (d - (1 : Int32))) (4625309407300183654 : UInt64)) (4660374592328564736 : UInt64)))])) _
      refine X0.ldc2DoubleC hx hown (mvT hZ (hw _ (List.mem_of_getElem? (i := 7) rfl))) (g := (mkF m 18 #[.val (.int d)] [(.double (FP.ddiv (FP.dmul (FP.i2d (d - (1 : Int32))) (4625309407300183654 : UInt64)) (4660374592328564736 : UInt64)))])) rfl (hb hby d1_18) _ ?_
      show Steps p.tables e below (s₁.setTop (mkF m 21 #[.val (.int d)] [(.double (4603579539098121011 : UInt64)), (.double (FP.ddiv (FP.dmul (FP.i2d (d - (1 : Int32))) (4625309407300183654 : UInt64)) (4660374592328564736 : UInt64)))])) _
      refine XS.daddS X0.here hx rfl (hb hby d1_21) rfl hd.parts.2.2.1 (v := (FP.dadd (FP.ddiv (FP.dmul (FP.i2d (d - (1 : Int32))) (4625309407300183654 : UInt64)) (4660374592328564736 : UInt64)) (4603579539098121011 : UInt64))) rfl ?_
      exact kz
    exact Goes.retO X0 hx Bd.notSynchronized Bd.returns rfl (Or.inr (Or.inr (Or.inl ⟨rfl, rfl, _, rfl⟩))) (hb hby d1_22) (Nat.le_of_ble_eq_true rfl) (Nat.le_of_ble_eq_true rfl) ⟨congrArg (fun z => some (Value.double z)) (by unfold own_sk; rw [if_neg hc1_1] <;> rfl), N0, e0⟩
theorem d2_0 : decode method_2_code 0 = .ok (.iload_n 0, 1) := by decide +kernel
theorem d2_1 : decode method_2_code 1 = .ok (.ifCond .ne 5, 3) := by decide +kernel
theorem d2_4 : decode method_2_code 4 = .ok (.dconst 0, 1) := by decide +kernel
theorem d2_5 : decode method_2_code 5 = .ok (.dreturn, 1) := by decide +kernel
theorem d2_6 : decode method_2_code 6 = .ok (.iload_n 0, 1) := by decide +kernel
theorem d2_7 : decode method_2_code 7 = .ok (.iconst 1, 1) := by decide +kernel
theorem d2_8 : decode method_2_code 8 = .ok (.isub, 1) := by decide +kernel
theorem d2_9 : decode method_2_code 9 = .ok (.sipush 164, 3) := by decide +kernel
theorem d2_12 : decode method_2_code 12 = .ok (.imul, 1) := by decide +kernel
theorem d2_13 : decode method_2_code 13 = .ok (.sipush 22254, 3) := by decide +kernel
theorem d2_16 : decode method_2_code 16 = .ok (.iadd, 1) := by decide +kernel
theorem d2_17 : decode method_2_code 17 = .ok (.i2d, 1) := by decide +kernel
theorem d2_18 : decode method_2_code 18 = .ok (.dstore_n 1, 1) := by decide +kernel
theorem d2_19 : decode method_2_code 19 = .ok (.dload_n 1, 1) := by decide +kernel
theorem d2_20 : decode method_2_code 20 = .ok (.ldc2_w 7, 3) := by decide +kernel
theorem d2_23 : decode method_2_code 23 = .ok (.ddiv, 1) := by decide +kernel
theorem d2_24 : decode method_2_code 24 = .ok (.dreturn, 1) := by decide +kernel
theorem pn_2 : plainName "com/example/embercast/embercast/sim/DiskSeekMsPinLaw" = true := by first | (simp [plainName, overriddenIn]; done) | decide +kernel
theorem ef_2 (m : MethodId) (x0 : Int32) : entryFrame m #[(.int x0)] 3 = mkF m 0 #[.val (.int x0), .unset, .unset] [] := by first | (simp [entryFrame, mkF, argsToLocals, Value.category]; done) | rfl
def Q_rm2 (Z : State) (d : Int32)  (h0 : Heap) (n0 : Nat) : Option Value → Heap → List Loc → Prop := fun v h L => v = some (.double (own_rf d)) ∧ Fr n0 L ∧ h = h0
set_option maxRecDepth 65536 in
set_option maxHeartbeats 40000000 in
theorem rm2 (l : Launch) (Z : State) (a0 : Array Value) (hw : ∀ d ∈ tables_1, d.before a0 Z = true) (ws : List Jvm.Cond) (d : Int32)  (h0 : Heap) (n0 : Nat) (Z0 : n0 ≤ h0.size) (hd : own_D d) :
    MetFree l (⟨"com/example/embercast/embercast/sim/DiskSeekMsPinLaw", "ref", "(I)D"⟩ : MethodName) (head1 (Jvm.Cond.code (⟨"com/example/embercast/embercast/sim/DiskSeekMsPinLaw", "ref", "(I)D"⟩ : MethodName) method_2_code 3 (some .double) :: ws) ({ frames := 0, cells := 0, slots := 0, locals := 0 } : Room)) (fun a U => a = #[(.int d)] ∧ Z.Warmed39 U.vm ∧ U.heap = h0) (fun _ _ _ _ _ => True) (fun _ U oo U' => ∃ vv LL, oo = .returned vv ∧ (Q_rm2 Z d h0 n0) vv U'.heap LL ∧ FrameEnd U oo U' LL ({ frames := 0, cells := 0, slots := 0, locals := 0 } : Room).cells ({ frames := 0, cells := 0, slots := 0, locals := 0 } : Room).slots) := by
  refine MetFree.of_bodySF (plainFor_of_name pn_2) hisR ?_
  intro p e s m args below meth c s₁ Bd hml0 hP hK
  obtain ⟨rfl, hZ, hh⟩ := hP
  have hx := Bd.exec
  have hby := Bd.bytes
  have hml : c.maxLocals = 3 := hml0
  have hown : s.vm.findClass "com/example/embercast/embercast/sim/DiskSeekMsPinLaw" = some m.cls := findClass_of_methodNamed Bd.named
  have hnm := (name_of_methodNamed Bd.named Bd.method).1
  have X0 : Stand p l e ({ frames := 0, cells := 0, slots := 0, locals := 0 } : Room) s m #[(.int d)] below meth c s₁ [] 0 0 := Stand.of_body Bd
  have e0 : s₁.heap = h0 := by rw [← hh, Bd.state]; rfl
  have N0 := Fr.nil n0
  show Goes p e below (Fin s (Q_rm2 Z d h0 n0) ({ frames := 0, cells := 0, slots := 0, locals := 0 } : Room).cells ({ frames := 0, cells := 0, slots := 0, locals := 0 } : Room).slots) _
  refine Goes.via (S' := s₁.setTop (mkF m 0 #[.val (.int d), .unset, .unset] [])) (fun tz kz => castTop (ef_2 m d ) kz) ?_
  refine Goes.via (S' := s₁.setTop (mkF m 1 #[.val (.int d), .unset, .unset] [(.int d)])) (fun tz kz => ?_) ?_
  · show Steps p.tables e below (s₁.setTop (mkF m 0 #[.val (.int d), .unset, .unset] [])) _
    refine XS.iloadN X0.here hx rfl (hb hby d2_0) rfl ?_
    exact kz
  by_cases hc1_1 : d = (0 : Int32)
  · refine Goes.via (S' := s₁.setTop (mkF m 5 #[.val (.int d), .unset, .unset] [(.double FP.dconst0)])) (fun tz kz => ?_) ?_
    · show Steps p.tables e below (s₁.setTop (mkF m 1 #[.val (.int d), .unset, .unset] [(.int d)])) _
      refine XS.ifNo X0.here hx rfl (hb hby d2_1) rfl ((if0 _ _).trans (teq hc1_1).2) ?_
      show Steps p.tables e below (s₁.setTop (mkF m 4 #[.val (.int d), .unset, .unset] [])) _
      refine XS.dconst0 X0.here hx rfl (hb hby d2_4) (v := FP.dconst0) rfl ?_
      exact kz
    exact Goes.retO X0 hx Bd.notSynchronized Bd.returns rfl (Or.inr (Or.inr (Or.inl ⟨rfl, rfl, _, rfl⟩))) (hb hby d2_5) (Nat.le_of_ble_eq_true rfl) (Nat.le_of_ble_eq_true rfl) ⟨congrArg (fun z => some (Value.double z)) (by unfold own_rf; rw [if_pos hc1_1]), N0, e0⟩
  · refine Goes.via (S' := s₁.setTop (mkF m 24 #[.val (.int d), .val (.double (FP.i2d (((d - (1 : Int32)) * (164 : Int32)) + (22254 : Int32)))), .second] [(.double (FP.ddiv (FP.i2d (((d - (1 : Int32)) * (164 : Int32)) + (22254 : Int32))) (4675330424367480832 : UInt64)))])) (fun tz kz => ?_) ?_
    · show Steps p.tables e below (s₁.setTop (mkF m 1 #[.val (.int d), .unset, .unset] [(.int d)])) _
      refine XS.ifYes X0.here hx rfl (pc0 := 1) (pc' := 6) rfl (hb hby d2_1) rfl ((if0 _ _).trans (feq hc1_1).2) (by decide) (by decide) ?_
      show Steps p.tables e below (s₁.setTop (mkF m 6 #[.val (.int d), .unset, .unset] [])) _
      refine XS.iloadN X0.here hx rfl (hb hby d2_6) rfl ?_
      show Steps p.tables e below (s₁.setTop (mkF m 7 #[.val (.int d), .unset, .unset] [(.int d)])) _
      refine XS.iconst X0.here hx rfl (hb hby d2_7) ?_
      show Steps p.tables e below (s₁.setTop (mkF m 8 #[.val (.int d), .unset, .unset] [(.int (1 : Int32)), (.int d)])) _
      refine XS.isub X0.here hx rfl (hb hby d2_8) rfl ?_
      show Steps p.tables e below (s₁.setTop (mkF m 9 #[.val (.int d), .unset, .unset] [(.int (d - (1 : Int32)))])) _
      refine XS.sipush X0.here hx rfl (hb hby d2_9) ?_
      show Steps p.tables e below (s₁.setTop (mkF m 12 #[.val (.int d), .unset, .unset] [(.int (164 : Int32)), (.int (d - (1 : Int32)))])) _
      refine XS.imul X0.here hx rfl (hb hby d2_12) rfl ?_
      show Steps p.tables e below (s₁.setTop (mkF m 13 #[.val (.int d), .unset, .unset] [(.int ((d - (1 : Int32)) * (164 : Int32)))])) _
      refine XS.sipush X0.here hx rfl (hb hby d2_13) ?_
      show Steps p.tables e below (s₁.setTop (mkF m 16 #[.val (.int d), .unset, .unset] [(.int (22254 : Int32)), (.int ((d - (1 : Int32)) * (164 : Int32)))])) _
      refine XS.iadd X0.here hx rfl (hb hby d2_16) rfl ?_
      show Steps p.tables e below (s₁.setTop (mkF m 17 #[.val (.int d), .unset, .unset] [(.int (((d - (1 : Int32)) * (164 : Int32)) + (22254 : Int32)))])) _
      refine XS.i2dS X0.here hx rfl (hb hby d2_17) rfl (v := FP.i2d (((d - (1 : Int32)) * (164 : Int32)) + (22254 : Int32))) rfl ?_
      show Steps p.tables e below (s₁.setTop (mkF m 18 #[.val (.int d), .unset, .unset] [(.double (FP.i2d (((d - (1 : Int32)) * (164 : Int32)) + (22254 : Int32))))])) _
      refine XS.dstoreN X0.here hx rfl (hb hby d2_18) rfl (l' := #[.val (.int d), .val (.double (FP.i2d (((d - (1 : Int32)) * (164 : Int32)) + (22254 : Int32)))), .second]) rfl ?_
      show Steps p.tables e below (s₁.setTop (mkF m 19 #[.val (.int d), .val (.double (FP.i2d (((d - (1 : Int32)) * (164 : Int32)) + (22254 : Int32)))), .second] [])) _
      refine XS.dloadN X0.here hx rfl (hb hby d2_19) rfl ?_
      show Steps p.tables e below (s₁.setTop (mkF m 20 #[.val (.int d), .val (.double (FP.i2d (((d - (1 : Int32)) * (164 : Int32)) + (22254 : Int32)))), .second] [(.double (FP.i2d (((d - (1 : Int32)) * (164 : Int32)) + (22254 : Int32))))])) _
      refine X0.ldc2DoubleC hx hown (mvT hZ (hw _ (List.mem_of_getElem? (i := 16) rfl))) (g := (mkF m 20 #[.val (.int d), .val (.double (FP.i2d (((d - (1 : Int32)) * (164 : Int32)) + (22254 : Int32)))), .second] [(.double (FP.i2d (((d - (1 : Int32)) * (164 : Int32)) + (22254 : Int32))))])) rfl (hb hby d2_20) _ ?_
      show Steps p.tables e below (s₁.setTop (mkF m 23 #[.val (.int d), .val (.double (FP.i2d (((d - (1 : Int32)) * (164 : Int32)) + (22254 : Int32)))), .second] [(.double (4675330424367480832 : UInt64)), (.double (FP.i2d (((d - (1 : Int32)) * (164 : Int32)) + (22254 : Int32))))])) _
      refine XS.ddivS X0.here hx rfl (hb hby d2_23) rfl hd.parts.2.2.2.1 (v := (FP.ddiv (FP.i2d (((d - (1 : Int32)) * (164 : Int32)) + (22254 : Int32))) (4675330424367480832 : UInt64))) rfl ?_
      exact kz
    exact Goes.retO X0 hx Bd.notSynchronized Bd.returns rfl (Or.inr (Or.inr (Or.inl ⟨rfl, rfl, _, rfl⟩))) (hb hby d2_24) (Nat.le_of_ble_eq_true rfl) (Nat.le_of_ble_eq_true rfl) ⟨congrArg (fun z => some (Value.double z)) (by unfold own_rf; rw [if_neg hc1_1] <;> rfl), N0, e0⟩
theorem d3_0 : decode method_3_code 0 = .ok (.dload_n 0, 1) := by decide +kernel
theorem d3_1 : decode method_3_code 1 = .ok (.dload_n 2, 1) := by decide +kernel
theorem d3_2 : decode method_3_code 2 = .ok (.dsub, 1) := by decide +kernel
theorem d3_3 : decode method_3_code 3 = .ok (.ldc2_w 9, 3) := by decide +kernel
theorem d3_6 : decode method_3_code 6 = .ok (.dcmp .g, 1) := by decide +kernel
theorem d3_7 : decode method_3_code 7 = .ok (.ifCond .ge 17, 3) := by decide +kernel
theorem d3_10 : decode method_3_code 10 = .ok (.dload_n 2, 1) := by decide +kernel
theorem d3_11 : decode method_3_code 11 = .ok (.dload_n 0, 1) := by decide +kernel
theorem d3_12 : decode method_3_code 12 = .ok (.dsub, 1) := by decide +kernel
theorem d3_13 : decode method_3_code 13 = .ok (.ldc2_w 9, 3) := by decide +kernel
theorem d3_16 : decode method_3_code 16 = .ok (.dcmp .g, 1) := by decide +kernel
theorem d3_17 : decode method_3_code 17 = .ok (.ifCond .ge 7, 3) := by decide +kernel
theorem d3_20 : decode method_3_code 20 = .ok (.iconst 1, 1) := by decide +kernel
theorem d3_21 : decode method_3_code 21 = .ok (.goto 4, 3) := by decide +kernel
theorem d3_24 : decode method_3_code 24 = .ok (.iconst 0, 1) := by decide +kernel
theorem d3_25 : decode method_3_code 25 = .ok (.ireturn, 1) := by decide +kernel
theorem pn_3 : plainName "com/example/embercast/embercast/sim/DiskSeekMsPinLaw" = true := by first | (simp [plainName, overriddenIn]; done) | decide +kernel
theorem ef_3 (m : MethodId) (x0 : UInt64) (x1 : UInt64) : entryFrame m #[(.double x0), (.double x1)] 4 = mkF m 0 #[.val (.double x0), .second, .val (.double x1), .second] [] := by first | (simp [entryFrame, mkF, argsToLocals, Value.category]; done) | rfl
def Q_rm3 (Z : State) (x : UInt64) (y : UInt64)  (h0 : Heap) (n0 : Nat) : Option Value → Heap → List Loc → Prop := fun v h L => v = some (.int 1) ∧ Fr n0 L ∧ h = h0
set_option maxRecDepth 65536 in
set_option maxHeartbeats 40000000 in
theorem rm3 (l : Launch) (Z : State) (a0 : Array Value) (hw : ∀ d ∈ tables_1, d.before a0 Z = true) (ws : List Jvm.Cond) (x : UInt64) (y : UInt64)  (h0 : Heap) (n0 : Nat) (Z0 : n0 ≤ h0.size) (hq : own_nr x y = true) :
    MetFree l (⟨"com/example/embercast/embercast/sim/DiskSeekMsPinLaw", "near", "(DD)Z"⟩ : MethodName) (head1 (Jvm.Cond.code (⟨"com/example/embercast/embercast/sim/DiskSeekMsPinLaw", "near", "(DD)Z"⟩ : MethodName) method_3_code 4 (some .boolean) :: ws) ({ frames := 0, cells := 0, slots := 0, locals := 0 } : Room)) (fun a U => a = #[(.double x), (.double y)] ∧ Z.Warmed39 U.vm ∧ U.heap = h0) (fun _ _ _ _ _ => True) (fun _ U oo U' => ∃ vv LL, oo = .returned vv ∧ (Q_rm3 Z x y h0 n0) vv U'.heap LL ∧ FrameEnd U oo U' LL ({ frames := 0, cells := 0, slots := 0, locals := 0 } : Room).cells ({ frames := 0, cells := 0, slots := 0, locals := 0 } : Room).slots) := by
  refine MetFree.of_bodySF (plainFor_of_name pn_3) hisR ?_
  intro p e s m args below meth c s₁ Bd hml0 hP hK
  obtain ⟨rfl, hZ, hh⟩ := hP
  have hx := Bd.exec
  have hby := Bd.bytes
  have hml : c.maxLocals = 4 := hml0
  have hown : s.vm.findClass "com/example/embercast/embercast/sim/DiskSeekMsPinLaw" = some m.cls := findClass_of_methodNamed Bd.named
  have hnm := (name_of_methodNamed Bd.named Bd.method).1
  have X0 : Stand p l e ({ frames := 0, cells := 0, slots := 0, locals := 0 } : Room) s m #[(.double x), (.double y)] below meth c s₁ [] 0 0 := Stand.of_body Bd
  have e0 : s₁.heap = h0 := by rw [← hh, Bd.state]; rfl
  have N0 := Fr.nil n0
  show Goes p e below (Fin s (Q_rm3 Z x y h0 n0) ({ frames := 0, cells := 0, slots := 0, locals := 0 } : Room).cells ({ frames := 0, cells := 0, slots := 0, locals := 0 } : Room).slots) _
  refine Goes.via (S' := s₁.setTop (mkF m 0 #[.val (.double x), .second, .val (.double y), .second] [])) (fun tz kz => castTop (ef_3 m x y ) kz) ?_
  refine Goes.via (S' := s₁.setTop (mkF m 25 #[.val (.double x), .second, .val (.double y), .second] [(.int (1 : Int32))])) (fun tz kz => ?_) ?_
  · show Steps p.tables e below (s₁.setTop (mkF m 0 #[.val (.double x), .second, .val (.double y), .second] [])) _
    refine XS.dloadN X0.here hx rfl (hb hby d3_0) rfl ?_
    show Steps p.tables e below (s₁.setTop (mkF m 1 #[.val (.double x), .second, .val (.double y), .second] [(.double x)])) _
    refine XS.dloadN X0.here hx rfl (hb hby d3_1) rfl ?_
    show Steps p.tables e below (s₁.setTop (mkF m 2 #[.val (.double x), .second, .val (.double y), .second] [(.double y), (.double x)])) _
    refine XS.dsubS X0.here hx rfl (hb hby d3_2) rfl (own_nr_parts hq).1 (v := (FP.dsub x y)) rfl ?_
    show Steps p.tables e below (s₁.setTop (mkF m 3 #[.val (.double x), .second, .val (.double y), .second] [(.double (FP.dsub x y))])) _
    refine X0.ldc2DoubleC hx hown (mvT hZ (hw _ (List.mem_of_getElem? (i := 15) rfl))) (g := (mkF m 3 #[.val (.double x), .second, .val (.double y), .second] [(.double (FP.dsub x y))])) rfl (hb hby d3_3) _ ?_
    show Steps p.tables e below (s₁.setTop (mkF m 6 #[.val (.double x), .second, .val (.double y), .second] [(.double (4472406533629990549 : UInt64)), (.double (FP.dsub x y))])) _
    refine XS.dcmpS X0.here hx rfl (hb hby d3_6) rfl (v := (cmpValue (FP.dcmp (FP.dsub x y) (4472406533629990549 : UInt64)) .g)) rfl ?_
    show Steps p.tables e below (s₁.setTop (mkF m 7 #[.val (.double x), .second, .val (.double y), .second] [(.int (cmpValue (FP.dcmp (FP.dsub x y) (4472406533629990549 : UInt64)) .g))])) _
    refine XS.ifNo X0.here hx rfl (hb hby d3_7) rfl ((if0 _ _).trans (tlt (own_nr_parts hq).2.2.1).2.1) ?_
    show Steps p.tables e below (s₁.setTop (mkF m 10 #[.val (.double x), .second, .val (.double y), .second] [])) _
    refine XS.dloadN X0.here hx rfl (hb hby d3_10) rfl ?_
    show Steps p.tables e below (s₁.setTop (mkF m 11 #[.val (.double x), .second, .val (.double y), .second] [(.double y)])) _
    refine XS.dloadN X0.here hx rfl (hb hby d3_11) rfl ?_
    show Steps p.tables e below (s₁.setTop (mkF m 12 #[.val (.double x), .second, .val (.double y), .second] [(.double x), (.double y)])) _
    refine XS.dsubS X0.here hx rfl (hb hby d3_12) rfl (own_nr_parts hq).2.1 (v := (FP.dsub y x)) rfl ?_
    show Steps p.tables e below (s₁.setTop (mkF m 13 #[.val (.double x), .second, .val (.double y), .second] [(.double (FP.dsub y x))])) _
    refine X0.ldc2DoubleC hx hown (mvT hZ (hw _ (List.mem_of_getElem? (i := 15) rfl))) (g := (mkF m 13 #[.val (.double x), .second, .val (.double y), .second] [(.double (FP.dsub y x))])) rfl (hb hby d3_13) _ ?_
    show Steps p.tables e below (s₁.setTop (mkF m 16 #[.val (.double x), .second, .val (.double y), .second] [(.double (4472406533629990549 : UInt64)), (.double (FP.dsub y x))])) _
    refine XS.dcmpS X0.here hx rfl (hb hby d3_16) rfl (v := (cmpValue (FP.dcmp (FP.dsub y x) (4472406533629990549 : UInt64)) .g)) rfl ?_
    show Steps p.tables e below (s₁.setTop (mkF m 17 #[.val (.double x), .second, .val (.double y), .second] [(.int (cmpValue (FP.dcmp (FP.dsub y x) (4472406533629990549 : UInt64)) .g))])) _
    refine XS.ifNo X0.here hx rfl (hb hby d3_17) rfl ((if0 _ _).trans (tlt (own_nr_parts hq).2.2.2).2.1) ?_
    show Steps p.tables e below (s₁.setTop (mkF m 20 #[.val (.double x), .second, .val (.double y), .second] [])) _
    refine XS.iconst X0.here hx rfl (hb hby d3_20) ?_
    show Steps p.tables e below (s₁.setTop (mkF m 21 #[.val (.double x), .second, .val (.double y), .second] [(.int (1 : Int32))])) _
    refine XS.goto X0.here hx rfl (pc0 := 21) (pc' := 25) rfl (hb hby d3_21) (by decide) (by decide) ?_
    exact kz
  exact Goes.retN X0 hx Bd.notSynchronized (t := .boolean) Bd.returns (by simp) (hb hby d3_25) (Nat.le_of_ble_eq_true rfl) (Nat.le_of_ble_eq_true rfl) ⟨rfl, N0, e0⟩
theorem pn_0 : plainName "com/example/embercast/embercast/sim/DiskSeekMsPinLaw" = true := by first | (simp [plainName, overriddenIn]; done) | decide +kernel
theorem ef_0 (m : MethodId) (x0 : Int32) (x1 : Int32) : entryFrame m #[(.int x0), (.int x1)] maxLocals = mkF m 0 #[.val (.int x0), .val (.int x1), .unset, .unset, .unset, .unset, .unset, .unset, .unset] [] := by first | (simp [entryFrame, mkF, argsToLocals, Value.category, maxLocals]; done) | rfl
def Q_rm0 (Z : State) (p1 : Int32) (p2 : Int32)  (h0 : Heap) (n0 : Nat) : Option Value → Heap → List Loc → Prop := fun v h L => v = some (.int 1) ∧ Fr n0 L
set_option maxRecDepth 65536 in
set_option maxHeartbeats 40000000 in
theorem rm0 (l : Launch) (Z : State) (a0 : Array Value) (hw : ∀ d ∈ tables_1, d.before a0 Z = true) (ws : List Jvm.Cond) (p1 : Int32) (p2 : Int32)  (h0 : Heap) (n0 : Nat) (Z0 : n0 ≤ h0.size) :
    MetFree l x (head1 (Jvm.Cond.code x code maxLocals ret :: ws) room_1) (fun a U => a = #[(.int p1), (.int p2)] ∧ Z.Warmed39 U.vm ∧ U.heap = h0) (fun _ _ _ _ _ => True) (fun _ U oo U' => ∃ vv LL, oo = .returned vv ∧ (Q_rm0 Z p1 p2 h0 n0) vv U'.heap LL ∧ FrameEnd U oo U' LL room_1.cells room_1.slots) := by
  refine MetFree.of_bodySF (plainFor_of_name pn_0) hisR ?_
  intro p e s m args below meth c s₁ Bd hml0 hP hK
  obtain ⟨rfl, hZ, hh⟩ := hP
  have hx := Bd.exec
  have hby := Bd.bytes
  have hml : c.maxLocals = 9 := hml0
  have hown : s.vm.findClass "com/example/embercast/embercast/sim/DiskSeekMsPinLaw" = some m.cls := findClass_of_methodNamed Bd.named
  have hnm := (name_of_methodNamed Bd.named Bd.method).1
  have X0 : Stand p l e room_1 s m #[(.int p1), (.int p2)] below meth c s₁ [] 0 0 := Stand.of_body Bd
  have e0 : s₁.heap = h0 := by rw [← hh, Bd.state]; rfl
  have N0 := Fr.nil n0
  have seg18 : ∀ (Tq : State) (d ee : Int32), (Stand p l e room_1 s m #[(.int p1), (.int p2)] below meth c Tq [] 0 0) → (Tq.heap = h0) → (own_D d) → (own_D ee) → Goes p e below (Fin s (Q_rm0 Z p1 p2 h0 n0) room_1.cells room_1.slots) (Tq.setTop (mkF m 18 #[.val (.int p1), .val (.int p2), .val (.int d), .val (.int ee), .unset, .unset, .unset, .unset, .unset] [])) := by
    intro Tq d ee XTq eTq hd he
    refine Goes.via (S' := Tq.setTop (mkF m 19 #[.val (.int p1), .val (.int p2), .val (.int d), .val (.int ee), .unset, .unset, .unset, .unset, .unset] [(.int d)])) (fun tz kz => ?_) ?_
    · show Steps p.tables e below (Tq.setTop (mkF m 18 #[.val (.int p1), .val (.int p2), .val (.int d), .val (.int ee), .unset, .unset, .unset, .unset, .unset] [])) _
      refine XS.iloadN XTq.here hx rfl (hb hby at_18) rfl ?_
      exact kz
    obtain ⟨_, _, ⟨T1, L1, k1, n1⟩, -, X1, ⟨Lc1, hQ1, l1, y1, z1⟩, st1⟩ := Jvm.LawKit.callS XTq hx (y := (⟨"com/example/embercast/embercast/sim/Disk", "seekMs", "(I)D"⟩ : MethodName)) hown (mvT hZ (hw _ (List.mem_of_getElem? (i := 1) rfl))) (mvT hZ (hw _ (List.mem_of_getElem? (i := 2) rfl))) (mvT hZ (hw _ (List.mem_of_getElem? (i := 3) rfl))) (mvT hZ (hw _ (List.mem_of_getElem? (i := 4) rfl))) (by decide) (backOf (W := 0) (rm1 l Z a0 hw [] d h0 n0 Z0 hd) hZ (hw _ (List.mem_of_getElem? (i := 4) rfl)) (hw _ (List.mem_of_getElem? (i := 3) rfl)) (by decide) (by decide)) (g := (mkF m 19 #[.val (.int p1), .val (.int p2), .val (.int d), .val (.int ee), .unset, .unset, .unset, .unset, .unset] [(.int d)])) rfl (by rw [hml]; rfl) (argsL := [(.int d)]) (rest := []) (lenOf pd_0 rfl) rfl (by show 2 * 0 + _ ≤ _; exact Nat.le_of_eq rfl) (hb hby at_19) (fun _ _ => ⟨rfl, eTq, (by decide : 0 + 0 ≤ _), (by decide : 0 + 0 ≤ _)⟩)
    dsimp only [Pt.U, Pt.locs, Pt.cells, Pt.slots] at X1 l1 y1 z1 st1 hQ1
    subst l1 y1 z1
    obtain ⟨rfl, N1, e1⟩ := hQ1
    have Nf1 := Fr.app N0 N1
    refine Goes.via (S' := T1.setTop (mkF m 22 #[.val (.int p1), .val (.int p2), .val (.int d), .val (.int ee), .unset, .unset, .unset, .unset, .unset] [(.double (own_sk d))])) (st1) ?_
    refine Goes.via (S' := T1.setTop (mkF m 25 #[.val (.int p1), .val (.int p2), .val (.int d), .val (.int ee), .val (.double (own_sk d)), .second, .unset, .unset, .unset] [(.int ee)])) (fun tz kz => ?_) ?_
    · show Steps p.tables e below (T1.setTop (mkF m 22 #[.val (.int p1), .val (.int p2), .val (.int d), .val (.int ee), .unset, .unset, .unset, .unset, .unset] [(.double (own_sk d))])) _
      refine XS.dstore X1.here hx rfl (hb hby at_22) rfl (l' := #[.val (.int p1), .val (.int p2), .val (.int d), .val (.int ee), .val (.double (own_sk d)), .second, .unset, .unset, .unset]) rfl ?_
      show Steps p.tables e below (T1.setTop (mkF m 24 #[.val (.int p1), .val (.int p2), .val (.int d), .val (.int ee), .val (.double (own_sk d)), .second, .unset, .unset, .unset] [])) _
      refine XS.iloadN X1.here hx rfl (hb hby at_24) rfl ?_
      exact kz
    obtain ⟨_, _, ⟨T2, L2, k2, n2⟩, -, X2, ⟨Lc2, hQ2, l2, y2, z2⟩, st2⟩ := Jvm.LawKit.callS X1 hx (y := (⟨"com/example/embercast/embercast/sim/Disk", "seekMs", "(I)D"⟩ : MethodName)) hown (mvT hZ (hw _ (List.mem_of_getElem? (i := 1) rfl))) (mvT hZ (hw _ (List.mem_of_getElem? (i := 2) rfl))) (mvT hZ (hw _ (List.mem_of_getElem? (i := 3) rfl))) (mvT hZ (hw _ (List.mem_of_getElem? (i := 4) rfl))) (by decide) (backOf (W := 0) (rm1 l Z a0 hw [] ee h0 n0 Z0 he) hZ (hw _ (List.mem_of_getElem? (i := 4) rfl)) (hw _ (List.mem_of_getElem? (i := 3) rfl)) (by decide) (by decide)) (g := (mkF m 25 #[.val (.int p1), .val (.int p2), .val (.int d), .val (.int ee), .val (.double (own_sk d)), .second, .unset, .unset, .unset] [(.int ee)])) rfl (by rw [hml]; rfl) (argsL := [(.int ee)]) (rest := []) (lenOf pd_0 rfl) rfl (by show 2 * 0 + _ ≤ _; exact Nat.le_of_eq rfl) (hb hby at_25) (fun _ _ => ⟨rfl, e1, (by decide : 0 + 0 ≤ _), (by decide : 0 + 0 ≤ _)⟩)
    dsimp only [Pt.U, Pt.locs, Pt.cells, Pt.slots] at X2 l2 y2 z2 st2 hQ2
    subst l2 y2 z2
    obtain ⟨rfl, N2, e2⟩ := hQ2
    have Nf2 := Fr.app Nf1 N2
    refine Goes.via (S' := T2.setTop (mkF m 28 #[.val (.int p1), .val (.int p2), .val (.int d), .val (.int ee), .val (.double (own_sk d)), .second, .unset, .unset, .unset] [(.double (own_sk ee))])) (st2) ?_
    refine Goes.via (S' := T2.setTop (mkF m 33 #[.val (.int p1), .val (.int p2), .val (.int d), .val (.int ee), .val (.double (own_sk d)), .second, .val (.double (own_sk ee)), .second, .unset] [(.int d), (.double (own_sk d))])) (fun tz kz => ?_) ?_
    · show Steps p.tables e below (T2.setTop (mkF m 28 #[.val (.int p1), .val (.int p2), .val (.int d), .val (.int ee), .val (.double (own_sk d)), .second, .unset, .unset, .unset] [(.double (own_sk ee))])) _
      refine XS.dstore X2.here hx rfl (hb hby at_28) rfl (l' := #[.val (.int p1), .val (.int p2), .val (.int d), .val (.int ee), .val (.double (own_sk d)), .second, .val (.double (own_sk ee)), .second, .unset]) rfl ?_
      show Steps p.tables e below (T2.setTop (mkF m 30 #[.val (.int p1), .val (.int p2), .val (.int d), .val (.int ee), .val (.double (own_sk d)), .second, .val (.double (own_sk ee)), .second, .unset] [])) _
      refine XS.dload X2.here hx rfl (hb hby at_30) rfl ?_
      show Steps p.tables e below (T2.setTop (mkF m 32 #[.val (.int p1), .val (.int p2), .val (.int d), .val (.int ee), .val (.double (own_sk d)), .second, .val (.double (own_sk ee)), .second, .unset] [(.double (own_sk d))])) _
      refine XS.iloadN X2.here hx rfl (hb hby at_32) rfl ?_
      exact kz
    obtain ⟨_, _, ⟨T3, L3, k3, n3⟩, -, X3, ⟨Lc3, hQ3, l3, y3, z3⟩, st3⟩ := Jvm.LawKit.callS X2 hx (y := (⟨"com/example/embercast/embercast/sim/DiskSeekMsPinLaw", "ref", "(I)D"⟩ : MethodName)) hown (mvT hZ (hw _ (List.mem_of_getElem? (i := 8) rfl))) (mvT hZ (hw _ (List.mem_of_getElem? (i := 9) rfl))) (mvT hZ (hw _ (List.mem_of_getElem? (i := 10) rfl))) (mvT hZ (hw _ (List.mem_of_getElem? (i := 11) rfl))) (by decide) (backOf (W := 2) (rm2 l Z a0 hw [] d h0 n0 Z0 hd) hZ (hw _ (List.mem_of_getElem? (i := 11) rfl)) (hw _ (List.mem_of_getElem? (i := 10) rfl)) (by decide) (by decide)) (g := (mkF m 33 #[.val (.int p1), .val (.int p2), .val (.int d), .val (.int ee), .val (.double (own_sk d)), .second, .val (.double (own_sk ee)), .second, .unset] [(.int d), (.double (own_sk d))])) rfl (by rw [hml]; rfl) (argsL := [(.int d)]) (rest := [(.double (own_sk d))]) (lenOf pd_0 rfl) rfl (by show 2 * 0 + _ ≤ _; exact Nat.le_of_eq rfl) (hb hby at_33) (fun _ _ => ⟨rfl, e2, (by decide : 0 + 0 ≤ _), (by decide : 0 + 0 ≤ _)⟩)
    dsimp only [Pt.U, Pt.locs, Pt.cells, Pt.slots] at X3 l3 y3 z3 st3 hQ3
    subst l3 y3 z3
    obtain ⟨rfl, N3, e3⟩ := hQ3
    have Nf3 := Fr.app Nf2 N3
    refine Goes.via (S' := T3.setTop (mkF m 36 #[.val (.int p1), .val (.int p2), .val (.int d), .val (.int ee), .val (.double (own_sk d)), .second, .val (.double (own_sk ee)), .second, .unset] [(.double (own_rf d)), (.double (own_sk d))])) (st3) ?_
    obtain ⟨_, _, ⟨T4, L4, k4, n4⟩, -, X4, ⟨Lc4, hQ4, l4, y4, z4⟩, st4⟩ := Jvm.LawKit.callS X3 hx (y := (⟨"com/example/embercast/embercast/sim/DiskSeekMsPinLaw", "near", "(DD)Z"⟩ : MethodName)) hown (mvT hZ (hw _ (List.mem_of_getElem? (i := 12) rfl))) (mvT hZ (hw _ (List.mem_of_getElem? (i := 13) rfl))) (mvT hZ (hw _ (List.mem_of_getElem? (i := 10) rfl))) (mvT hZ (hw _ (List.mem_of_getElem? (i := 14) rfl))) (by decide) (backOf (W := 0) (rm3 l Z a0 hw [] (own_sk d) (own_rf d) h0 n0 Z0 hd.parts.2.2.2.2.2) hZ (hw _ (List.mem_of_getElem? (i := 14) rfl)) (hw _ (List.mem_of_getElem? (i := 10) rfl)) (by decide) (by decide)) (g := (mkF m 36 #[.val (.int p1), .val (.int p2), .val (.int d), .val (.int ee), .val (.double (own_sk d)), .second, .val (.double (own_sk ee)), .second, .unset] [(.double (own_rf d)), (.double (own_sk d))])) rfl (by rw [hml]; rfl) (argsL := [(.double (own_sk d)), (.double (own_rf d))]) (rest := []) (lenOf pd_1 rfl) rfl (by show 2 * 0 + _ ≤ _; exact Nat.le_of_eq rfl) (hb hby at_36) (fun _ _ => ⟨rfl, e3, (by decide : 0 + 0 ≤ _), (by decide : 0 + 0 ≤ _)⟩)
    dsimp only [Pt.U, Pt.locs, Pt.cells, Pt.slots] at X4 l4 y4 z4 st4 hQ4
    subst l4 y4 z4
    obtain ⟨rfl, N4, e4⟩ := hQ4
    have Nf4 := Fr.app Nf3 N4
    refine Goes.via (S' := T4.setTop (mkF m 39 #[.val (.int p1), .val (.int p2), .val (.int d), .val (.int ee), .val (.double (own_sk d)), .second, .val (.double (own_sk ee)), .second, .unset] [(.int (1 : Int32))])) (st4) ?_
    refine Goes.via (S' := T4.setTop (mkF m 45 #[.val (.int p1), .val (.int p2), .val (.int d), .val (.int ee), .val (.double (own_sk d)), .second, .val (.double (own_sk ee)), .second, .unset] [(.int ee), (.double (own_sk ee))])) (fun tz kz => ?_) ?_
    · show Steps p.tables e below (T4.setTop (mkF m 39 #[.val (.int p1), .val (.int p2), .val (.int d), .val (.int ee), .val (.double (own_sk d)), .second, .val (.double (own_sk ee)), .second, .unset] [(.int (1 : Int32))])) _
      refine XS.ifNo X4.here hx rfl (hb hby at_39) rfl ((if0 _ _).trans (feq (by decide)).1) ?_
      show Steps p.tables e below (T4.setTop (mkF m 42 #[.val (.int p1), .val (.int p2), .val (.int d), .val (.int ee), .val (.double (own_sk d)), .second, .val (.double (own_sk ee)), .second, .unset] [])) _
      refine XS.dload X4.here hx rfl (hb hby at_42) rfl ?_
      show Steps p.tables e below (T4.setTop (mkF m 44 #[.val (.int p1), .val (.int p2), .val (.int d), .val (.int ee), .val (.double (own_sk d)), .second, .val (.double (own_sk ee)), .second, .unset] [(.double (own_sk ee))])) _
      refine XS.iloadN X4.here hx rfl (hb hby at_44) rfl ?_
      exact kz
    obtain ⟨_, _, ⟨T5, L5, k5, n5⟩, -, X5, ⟨Lc5, hQ5, l5, y5, z5⟩, st5⟩ := Jvm.LawKit.callS X4 hx (y := (⟨"com/example/embercast/embercast/sim/DiskSeekMsPinLaw", "ref", "(I)D"⟩ : MethodName)) hown (mvT hZ (hw _ (List.mem_of_getElem? (i := 8) rfl))) (mvT hZ (hw _ (List.mem_of_getElem? (i := 9) rfl))) (mvT hZ (hw _ (List.mem_of_getElem? (i := 10) rfl))) (mvT hZ (hw _ (List.mem_of_getElem? (i := 11) rfl))) (by decide) (backOf (W := 2) (rm2 l Z a0 hw [] ee h0 n0 Z0 he) hZ (hw _ (List.mem_of_getElem? (i := 11) rfl)) (hw _ (List.mem_of_getElem? (i := 10) rfl)) (by decide) (by decide)) (g := (mkF m 45 #[.val (.int p1), .val (.int p2), .val (.int d), .val (.int ee), .val (.double (own_sk d)), .second, .val (.double (own_sk ee)), .second, .unset] [(.int ee), (.double (own_sk ee))])) rfl (by rw [hml]; rfl) (argsL := [(.int ee)]) (rest := [(.double (own_sk ee))]) (lenOf pd_0 rfl) rfl (by show 2 * 0 + _ ≤ _; exact Nat.le_of_eq rfl) (hb hby at_45) (fun _ _ => ⟨rfl, e4, (by decide : 0 + 0 ≤ _), (by decide : 0 + 0 ≤ _)⟩)
    dsimp only [Pt.U, Pt.locs, Pt.cells, Pt.slots] at X5 l5 y5 z5 st5 hQ5
    subst l5 y5 z5
    obtain ⟨rfl, N5, e5⟩ := hQ5
    have Nf5 := Fr.app Nf4 N5
    refine Goes.via (S' := T5.setTop (mkF m 48 #[.val (.int p1), .val (.int p2), .val (.int d), .val (.int ee), .val (.double (own_sk d)), .second, .val (.double (own_sk ee)), .second, .unset] [(.double (own_rf ee)), (.double (own_sk ee))])) (st5) ?_
    obtain ⟨_, _, ⟨T6, L6, k6, n6⟩, -, X6, ⟨Lc6, hQ6, l6, y6, z6⟩, st6⟩ := Jvm.LawKit.callS X5 hx (y := (⟨"com/example/embercast/embercast/sim/DiskSeekMsPinLaw", "near", "(DD)Z"⟩ : MethodName)) hown (mvT hZ (hw _ (List.mem_of_getElem? (i := 12) rfl))) (mvT hZ (hw _ (List.mem_of_getElem? (i := 13) rfl))) (mvT hZ (hw _ (List.mem_of_getElem? (i := 10) rfl))) (mvT hZ (hw _ (List.mem_of_getElem? (i := 14) rfl))) (by decide) (backOf (W := 0) (rm3 l Z a0 hw [] (own_sk ee) (own_rf ee) h0 n0 Z0 he.parts.2.2.2.2.2) hZ (hw _ (List.mem_of_getElem? (i := 14) rfl)) (hw _ (List.mem_of_getElem? (i := 10) rfl)) (by decide) (by decide)) (g := (mkF m 48 #[.val (.int p1), .val (.int p2), .val (.int d), .val (.int ee), .val (.double (own_sk d)), .second, .val (.double (own_sk ee)), .second, .unset] [(.double (own_rf ee)), (.double (own_sk ee))])) rfl (by rw [hml]; rfl) (argsL := [(.double (own_sk ee)), (.double (own_rf ee))]) (rest := []) (lenOf pd_1 rfl) rfl (by show 2 * 0 + _ ≤ _; exact Nat.le_of_eq rfl) (hb hby at_48) (fun _ _ => ⟨rfl, e5, (by decide : 0 + 0 ≤ _), (by decide : 0 + 0 ≤ _)⟩)
    dsimp only [Pt.U, Pt.locs, Pt.cells, Pt.slots] at X6 l6 y6 z6 st6 hQ6
    subst l6 y6 z6
    obtain ⟨rfl, N6, e6⟩ := hQ6
    have Nf6 := Fr.app Nf5 N6
    refine Goes.via (S' := T6.setTop (mkF m 51 #[.val (.int p1), .val (.int p2), .val (.int d), .val (.int ee), .val (.double (own_sk d)), .second, .val (.double (own_sk ee)), .second, .unset] [(.int (1 : Int32))])) (st6) ?_
    refine Goes.via (S' := T6.setTop (mkF m 62 #[.val (.int p1), .val (.int p2), .val (.int d), .val (.int ee), .val (.double (own_sk d)), .second, .val (.double (own_sk ee)), .second, .val (.int (1 : Int32))] [(.int d)])) (fun tz kz => ?_) ?_
    · show Steps p.tables e below (T6.setTop (mkF m 51 #[.val (.int p1), .val (.int p2), .val (.int d), .val (.int ee), .val (.double (own_sk d)), .second, .val (.double (own_sk ee)), .second, .unset] [(.int (1 : Int32))])) _
      refine XS.ifNo X6.here hx rfl (hb hby at_51) rfl ((if0 _ _).trans (feq (by decide)).1) ?_
      show Steps p.tables e below (T6.setTop (mkF m 54 #[.val (.int p1), .val (.int p2), .val (.int d), .val (.int ee), .val (.double (own_sk d)), .second, .val (.double (own_sk ee)), .second, .unset] [])) _
      refine XS.iconst X6.here hx rfl (hb hby at_54) ?_
      show Steps p.tables e below (T6.setTop (mkF m 55 #[.val (.int p1), .val (.int p2), .val (.int d), .val (.int ee), .val (.double (own_sk d)), .second, .val (.double (own_sk ee)), .second, .unset] [(.int (1 : Int32))])) _
      refine XS.goto X6.here hx rfl (pc0 := 55) (pc' := 59) rfl (hb hby at_55) (by decide) (by decide) ?_
      show Steps p.tables e below (T6.setTop (mkF m 59 #[.val (.int p1), .val (.int p2), .val (.int d), .val (.int ee), .val (.double (own_sk d)), .second, .val (.double (own_sk ee)), .second, .unset] [(.int (1 : Int32))])) _
      refine XS.istore X6.here hx rfl (hb hby at_59) rfl (l' := #[.val (.int p1), .val (.int p2), .val (.int d), .val (.int ee), .val (.double (own_sk d)), .second, .val (.double (own_sk ee)), .second, .val (.int (1 : Int32))]) rfl ?_
      show Steps p.tables e below (T6.setTop (mkF m 61 #[.val (.int p1), .val (.int p2), .val (.int d), .val (.int ee), .val (.double (own_sk d)), .second, .val (.double (own_sk ee)), .second, .val (.int (1 : Int32))] [])) _
      refine XS.iloadN X6.here hx rfl (hb hby at_61) rfl ?_
      exact kz
    obtain ⟨r9, hr9⟩ : ∃ zz_ : Int32, zz_ = (if d = (0 : Int32) then (if (cmpValue (FP.dcmp (own_sk d) FP.dconst0) .l) = (0 : Int32) then (1 : Int32) else (0 : Int32)) else (1 : Int32)) := ⟨_, rfl⟩
    have j62_10 : ∀ t, Steps p.tables e below (T6.setTop (mkF m 84 #[.val (.int p1), .val (.int p2), .val (.int d), .val (.int ee), .val (.double (own_sk d)), .second, .val (.double (own_sk ee)), .second, .val (.int r9)] [])) t → Steps p.tables e below (T6.setTop (mkF m 62 #[.val (.int p1), .val (.int p2), .val (.int d), .val (.int ee), .val (.double (own_sk d)), .second, .val (.double (own_sk ee)), .second, .val (.int (1 : Int32))] [(.int d)])) t := by
      intro tz kz
      by_cases hc62_7 : d = (0 : Int32)
      · rw [if_pos hc62_7] at hr9
        show Steps p.tables e below (T6.setTop (mkF m 62 #[.val (.int p1), .val (.int p2), .val (.int d), .val (.int ee), .val (.double (own_sk d)), .second, .val (.double (own_sk ee)), .second, .val (.int (1 : Int32))] [(.int d)])) _
        refine XS.ifNo X6.here hx rfl (hb hby at_62) rfl ((if0 _ _).trans (teq hc62_7).2) ?_
        show Steps p.tables e below (T6.setTop (mkF m 65 #[.val (.int p1), .val (.int p2), .val (.int d), .val (.int ee), .val (.double (own_sk d)), .second, .val (.double (own_sk ee)), .second, .val (.int (1 : Int32))] [])) _
        refine XS.iload X6.here hx rfl (hb hby at_65) rfl ?_
        show Steps p.tables e below (T6.setTop (mkF m 67 #[.val (.int p1), .val (.int p2), .val (.int d), .val (.int ee), .val (.double (own_sk d)), .second, .val (.double (own_sk ee)), .second, .val (.int (1 : Int32))] [(.int (1 : Int32))])) _
        refine XS.ifNo X6.here hx rfl (hb hby at_67) rfl ((if0 _ _).trans (feq (by decide)).1) ?_
        show Steps p.tables e below (T6.setTop (mkF m 70 #[.val (.int p1), .val (.int p2), .val (.int d), .val (.int ee), .val (.double (own_sk d)), .second, .val (.double (own_sk ee)), .second, .val (.int (1 : Int32))] [])) _
        refine XS.dload X6.here hx rfl (hb hby at_70) rfl ?_
        show Steps p.tables e below (T6.setTop (mkF m 72 #[.val (.int p1), .val (.int p2), .val (.int d), .val (.int ee), .val (.double (own_sk d)), .second, .val (.double (own_sk ee)), .second, .val (.int (1 : Int32))] [(.double (own_sk d))])) _
        refine XS.dconst0 X6.here hx rfl (hb hby at_72) (v := FP.dconst0) rfl ?_
        show Steps p.tables e below (T6.setTop (mkF m 73 #[.val (.int p1), .val (.int p2), .val (.int d), .val (.int ee), .val (.double (own_sk d)), .second, .val (.double (own_sk ee)), .second, .val (.int (1 : Int32))] [(.double FP.dconst0), (.double (own_sk d))])) _
        refine XS.dcmpS X6.here hx rfl (hb hby at_73) rfl (v := (cmpValue (FP.dcmp (own_sk d) FP.dconst0) .l)) rfl ?_
        by_cases hc74_8 : (cmpValue (FP.dcmp (own_sk d) FP.dconst0) .l) = (0 : Int32)
        · rw [if_pos hc74_8] at hr9
          show Steps p.tables e below (T6.setTop (mkF m 74 #[.val (.int p1), .val (.int p2), .val (.int d), .val (.int ee), .val (.double (own_sk d)), .second, .val (.double (own_sk ee)), .second, .val (.int (1 : Int32))] [(.int (cmpValue (FP.dcmp (own_sk d) FP.dconst0) .l))])) _
          refine XS.ifNo X6.here hx rfl (hb hby at_74) rfl ((if0 _ _).trans (teq hc74_8).2) ?_
          show Steps p.tables e below (T6.setTop (mkF m 77 #[.val (.int p1), .val (.int p2), .val (.int d), .val (.int ee), .val (.double (own_sk d)), .second, .val (.double (own_sk ee)), .second, .val (.int (1 : Int32))] [])) _
          refine XS.iconst X6.here hx rfl (hb hby at_77) ?_
          show Steps p.tables e below (T6.setTop (mkF m 78 #[.val (.int p1), .val (.int p2), .val (.int d), .val (.int ee), .val (.double (own_sk d)), .second, .val (.double (own_sk ee)), .second, .val (.int (1 : Int32))] [(.int (1 : Int32))])) _
          refine XS.goto X6.here hx rfl (pc0 := 78) (pc' := 82) rfl (hb hby at_78) (by decide) (by decide) ?_
          show Steps p.tables e below (T6.setTop (mkF m 82 #[.val (.int p1), .val (.int p2), .val (.int d), .val (.int ee), .val (.double (own_sk d)), .second, .val (.double (own_sk ee)), .second, .val (.int (1 : Int32))] [(.int (1 : Int32))])) _
          refine XS.istore X6.here hx rfl (hb hby at_82) rfl (l' := #[.val (.int p1), .val (.int p2), .val (.int d), .val (.int ee), .val (.double (own_sk d)), .second, .val (.double (own_sk ee)), .second, .val (.int (1 : Int32))]) rfl ?_
          subst hr9
          exact kz
        · rw [if_neg hc74_8] at hr9
          show Steps p.tables e below (T6.setTop (mkF m 74 #[.val (.int p1), .val (.int p2), .val (.int d), .val (.int ee), .val (.double (own_sk d)), .second, .val (.double (own_sk ee)), .second, .val (.int (1 : Int32))] [(.int (cmpValue (FP.dcmp (own_sk d) FP.dconst0) .l))])) _
          refine XS.ifYes X6.here hx rfl (pc0 := 74) (pc' := 81) rfl (hb hby at_74) rfl ((if0 _ _).trans (feq hc74_8).2) (by decide) (by decide) ?_
          show Steps p.tables e below (T6.setTop (mkF m 81 #[.val (.int p1), .val (.int p2), .val (.int d), .val (.int ee), .val (.double (own_sk d)), .second, .val (.double (own_sk ee)), .second, .val (.int (1 : Int32))] [])) _
          refine XS.iconst X6.here hx rfl (hb hby at_81) ?_
          show Steps p.tables e below (T6.setTop (mkF m 82 #[.val (.int p1), .val (.int p2), .val (.int d), .val (.int ee), .val (.double (own_sk d)), .second, .val (.double (own_sk ee)), .second, .val (.int (1 : Int32))] [(.int (0 : Int32))])) _
          refine XS.istore X6.here hx rfl (hb hby at_82) rfl (l' := #[.val (.int p1), .val (.int p2), .val (.int d), .val (.int ee), .val (.double (own_sk d)), .second, .val (.double (own_sk ee)), .second, .val (.int (0 : Int32))]) rfl ?_
          subst hr9
          exact kz
      · rw [if_neg hc62_7] at hr9
        show Steps p.tables e below (T6.setTop (mkF m 62 #[.val (.int p1), .val (.int p2), .val (.int d), .val (.int ee), .val (.double (own_sk d)), .second, .val (.double (own_sk ee)), .second, .val (.int (1 : Int32))] [(.int d)])) _
        refine XS.ifYes X6.here hx rfl (pc0 := 62) (pc' := 84) rfl (hb hby at_62) rfl ((if0 _ _).trans (feq hc62_7).2) (by decide) (by decide) ?_
        subst hr9
        exact kz
    refine Goes.via j62_10 ?_
    have er9 : r9 = 1 := own_e1 hr9
    subst er9
    refine Goes.via (S' := T6.setTop (mkF m 86 #[.val (.int p1), .val (.int p2), .val (.int d), .val (.int ee), .val (.double (own_sk d)), .second, .val (.double (own_sk ee)), .second, .val (.int (1 : Int32))] [(.int (1 : Int32)), (.int d)])) (fun tz kz => ?_) ?_
    · show Steps p.tables e below (T6.setTop (mkF m 84 #[.val (.int p1), .val (.int p2), .val (.int d), .val (.int ee), .val (.double (own_sk d)), .second, .val (.double (own_sk ee)), .second, .val (.int (1 : Int32))] [])) _
      refine XS.iloadN X6.here hx rfl (hb hby at_84) rfl ?_
      show Steps p.tables e below (T6.setTop (mkF m 85 #[.val (.int p1), .val (.int p2), .val (.int d), .val (.int ee), .val (.double (own_sk d)), .second, .val (.double (own_sk ee)), .second, .val (.int (1 : Int32))] [(.int d)])) _
      refine XS.iconst X6.here hx rfl (hb hby at_85) ?_
      exact kz
    obtain ⟨r13, hr13⟩ : ∃ zz_ : Int32, zz_ = (if d = (1 : Int32) then (if (cmpValue (FP.dcmp (own_sk d) (4603579539098121011 : UInt64)) .l) = (0 : Int32) then (1 : Int32) else (0 : Int32)) else (1 : Int32)) := ⟨_, rfl⟩
    have j86_14 : ∀ t, Steps p.tables e below (T6.setTop (mkF m 110 #[.val (.int p1), .val (.int p2), .val (.int d), .val (.int ee), .val (.double (own_sk d)), .second, .val (.double (own_sk ee)), .second, .val (.int r13)] [])) t → Steps p.tables e below (T6.setTop (mkF m 86 #[.val (.int p1), .val (.int p2), .val (.int d), .val (.int ee), .val (.double (own_sk d)), .second, .val (.double (own_sk ee)), .second, .val (.int (1 : Int32))] [(.int (1 : Int32)), (.int d)])) t := by
      intro tz kz
      by_cases hc86_11 : d = (1 : Int32)
      · rw [if_pos hc86_11] at hr13
        show Steps p.tables e below (T6.setTop (mkF m 86 #[.val (.int p1), .val (.int p2), .val (.int d), .val (.int ee), .val (.double (own_sk d)), .second, .val (.double (own_sk ee)), .second, .val (.int (1 : Int32))] [(.int (1 : Int32)), (.int d)])) _
        refine XS.icmpNo X6.here hx rfl (hb hby at_86) rfl (teq hc86_11).2 ?_
        show Steps p.tables e below (T6.setTop (mkF m 89 #[.val (.int p1), .val (.int p2), .val (.int d), .val (.int ee), .val (.double (own_sk d)), .second, .val (.double (own_sk ee)), .second, .val (.int (1 : Int32))] [])) _
        refine XS.iload X6.here hx rfl (hb hby at_89) rfl ?_
        show Steps p.tables e below (T6.setTop (mkF m 91 #[.val (.int p1), .val (.int p2), .val (.int d), .val (.int ee), .val (.double (own_sk d)), .second, .val (.double (own_sk ee)), .second, .val (.int (1 : Int32))] [(.int (1 : Int32))])) _
        refine XS.ifNo X6.here hx rfl (hb hby at_91) rfl ((if0 _ _).trans (feq (by decide)).1) ?_
        show Steps p.tables e below (T6.setTop (mkF m 94 #[.val (.int p1), .val (.int p2), .val (.int d), .val (.int ee), .val (.double (own_sk d)), .second, .val (.double (own_sk ee)), .second, .val (.int (1 : Int32))] [])) _
        refine XS.dload X6.here hx rfl (hb hby at_94) rfl ?_
        show Steps p.tables e below (T6.setTop (mkF m 96 #[.val (.int p1), .val (.int p2), .val (.int d), .val (.int ee), .val (.double (own_sk d)), .second, .val (.double (own_sk ee)), .second, .val (.int (1 : Int32))] [(.double (own_sk d))])) _
        refine X6.ldc2DoubleC hx hown (mvT hZ (hw _ (List.mem_of_getElem? (i := 17) rfl))) (g := (mkF m 96 #[.val (.int p1), .val (.int p2), .val (.int d), .val (.int ee), .val (.double (own_sk d)), .second, .val (.double (own_sk ee)), .second, .val (.int (1 : Int32))] [(.double (own_sk d))])) rfl (hb hby at_96) _ ?_
        show Steps p.tables e below (T6.setTop (mkF m 99 #[.val (.int p1), .val (.int p2), .val (.int d), .val (.int ee), .val (.double (own_sk d)), .second, .val (.double (own_sk ee)), .second, .val (.int (1 : Int32))] [(.double (4603579539098121011 : UInt64)), (.double (own_sk d))])) _
        refine XS.dcmpS X6.here hx rfl (hb hby at_99) rfl (v := (cmpValue (FP.dcmp (own_sk d) (4603579539098121011 : UInt64)) .l)) rfl ?_
        by_cases hc100_12 : (cmpValue (FP.dcmp (own_sk d) (4603579539098121011 : UInt64)) .l) = (0 : Int32)
        · rw [if_pos hc100_12] at hr13
          show Steps p.tables e below (T6.setTop (mkF m 100 #[.val (.int p1), .val (.int p2), .val (.int d), .val (.int ee), .val (.double (own_sk d)), .second, .val (.double (own_sk ee)), .second, .val (.int (1 : Int32))] [(.int (cmpValue (FP.dcmp (own_sk d) (4603579539098121011 : UInt64)) .l))])) _
          refine XS.ifNo X6.here hx rfl (hb hby at_100) rfl ((if0 _ _).trans (teq hc100_12).2) ?_
          show Steps p.tables e below (T6.setTop (mkF m 103 #[.val (.int p1), .val (.int p2), .val (.int d), .val (.int ee), .val (.double (own_sk d)), .second, .val (.double (own_sk ee)), .second, .val (.int (1 : Int32))] [])) _
          refine XS.iconst X6.here hx rfl (hb hby at_103) ?_
          show Steps p.tables e below (T6.setTop (mkF m 104 #[.val (.int p1), .val (.int p2), .val (.int d), .val (.int ee), .val (.double (own_sk d)), .second, .val (.double (own_sk ee)), .second, .val (.int (1 : Int32))] [(.int (1 : Int32))])) _
          refine XS.goto X6.here hx rfl (pc0 := 104) (pc' := 108) rfl (hb hby at_104) (by decide) (by decide) ?_
          show Steps p.tables e below (T6.setTop (mkF m 108 #[.val (.int p1), .val (.int p2), .val (.int d), .val (.int ee), .val (.double (own_sk d)), .second, .val (.double (own_sk ee)), .second, .val (.int (1 : Int32))] [(.int (1 : Int32))])) _
          refine XS.istore X6.here hx rfl (hb hby at_108) rfl (l' := #[.val (.int p1), .val (.int p2), .val (.int d), .val (.int ee), .val (.double (own_sk d)), .second, .val (.double (own_sk ee)), .second, .val (.int (1 : Int32))]) rfl ?_
          subst hr13
          exact kz
        · rw [if_neg hc100_12] at hr13
          show Steps p.tables e below (T6.setTop (mkF m 100 #[.val (.int p1), .val (.int p2), .val (.int d), .val (.int ee), .val (.double (own_sk d)), .second, .val (.double (own_sk ee)), .second, .val (.int (1 : Int32))] [(.int (cmpValue (FP.dcmp (own_sk d) (4603579539098121011 : UInt64)) .l))])) _
          refine XS.ifYes X6.here hx rfl (pc0 := 100) (pc' := 107) rfl (hb hby at_100) rfl ((if0 _ _).trans (feq hc100_12).2) (by decide) (by decide) ?_
          show Steps p.tables e below (T6.setTop (mkF m 107 #[.val (.int p1), .val (.int p2), .val (.int d), .val (.int ee), .val (.double (own_sk d)), .second, .val (.double (own_sk ee)), .second, .val (.int (1 : Int32))] [])) _
          refine XS.iconst X6.here hx rfl (hb hby at_107) ?_
          show Steps p.tables e below (T6.setTop (mkF m 108 #[.val (.int p1), .val (.int p2), .val (.int d), .val (.int ee), .val (.double (own_sk d)), .second, .val (.double (own_sk ee)), .second, .val (.int (1 : Int32))] [(.int (0 : Int32))])) _
          refine XS.istore X6.here hx rfl (hb hby at_108) rfl (l' := #[.val (.int p1), .val (.int p2), .val (.int d), .val (.int ee), .val (.double (own_sk d)), .second, .val (.double (own_sk ee)), .second, .val (.int (0 : Int32))]) rfl ?_
          subst hr13
          exact kz
      · rw [if_neg hc86_11] at hr13
        show Steps p.tables e below (T6.setTop (mkF m 86 #[.val (.int p1), .val (.int p2), .val (.int d), .val (.int ee), .val (.double (own_sk d)), .second, .val (.double (own_sk ee)), .second, .val (.int (1 : Int32))] [(.int (1 : Int32)), (.int d)])) _
        refine XS.icmpYes X6.here hx rfl (pc0 := 86) (pc' := 110) rfl (hb hby at_86) rfl (feq hc86_11).2 (by decide) (by decide) ?_
        subst hr13
        exact kz
    refine Goes.via j86_14 ?_
    have er13 : r13 = 1 := own_e2 hr13
    subst er13
    refine Goes.via (S' := T6.setTop (mkF m 112 #[.val (.int p1), .val (.int p2), .val (.int d), .val (.int ee), .val (.double (own_sk d)), .second, .val (.double (own_sk ee)), .second, .val (.int (1 : Int32))] [(.int ee), (.int d)])) (fun tz kz => ?_) ?_
    · show Steps p.tables e below (T6.setTop (mkF m 110 #[.val (.int p1), .val (.int p2), .val (.int d), .val (.int ee), .val (.double (own_sk d)), .second, .val (.double (own_sk ee)), .second, .val (.int (1 : Int32))] [])) _
      refine XS.iloadN X6.here hx rfl (hb hby at_110) rfl ?_
      show Steps p.tables e below (T6.setTop (mkF m 111 #[.val (.int p1), .val (.int p2), .val (.int d), .val (.int ee), .val (.double (own_sk d)), .second, .val (.double (own_sk ee)), .second, .val (.int (1 : Int32))] [(.int d)])) _
      refine XS.iloadN X6.here hx rfl (hb hby at_111) rfl ?_
      exact kz
    obtain ⟨r17, hr17⟩ : ∃ zz_ : Int32, zz_ = (if d < ee then (if (cmpValue (FP.dcmp (own_sk d) (own_sk ee)) .g) < (0 : Int32) then (1 : Int32) else (0 : Int32)) else (1 : Int32)) := ⟨_, rfl⟩
    have j112_18 : ∀ t, Steps p.tables e below (T6.setTop (mkF m 135 #[.val (.int p1), .val (.int p2), .val (.int d), .val (.int ee), .val (.double (own_sk d)), .second, .val (.double (own_sk ee)), .second, .val (.int r17)] [])) t → Steps p.tables e below (T6.setTop (mkF m 112 #[.val (.int p1), .val (.int p2), .val (.int d), .val (.int ee), .val (.double (own_sk d)), .second, .val (.double (own_sk ee)), .second, .val (.int (1 : Int32))] [(.int ee), (.int d)])) t := by
      intro tz kz
      by_cases hc112_15 : d < ee
      · rw [if_pos hc112_15] at hr17
        show Steps p.tables e below (T6.setTop (mkF m 112 #[.val (.int p1), .val (.int p2), .val (.int d), .val (.int ee), .val (.double (own_sk d)), .second, .val (.double (own_sk ee)), .second, .val (.int (1 : Int32))] [(.int ee), (.int d)])) _
        refine XS.icmpNo X6.here hx rfl (hb hby at_112) rfl (tlt hc112_15).2.1 ?_
        show Steps p.tables e below (T6.setTop (mkF m 115 #[.val (.int p1), .val (.int p2), .val (.int d), .val (.int ee), .val (.double (own_sk d)), .second, .val (.double (own_sk ee)), .second, .val (.int (1 : Int32))] [])) _
        refine XS.iload X6.here hx rfl (hb hby at_115) rfl ?_
        show Steps p.tables e below (T6.setTop (mkF m 117 #[.val (.int p1), .val (.int p2), .val (.int d), .val (.int ee), .val (.double (own_sk d)), .second, .val (.double (own_sk ee)), .second, .val (.int (1 : Int32))] [(.int (1 : Int32))])) _
        refine XS.ifNo X6.here hx rfl (hb hby at_117) rfl ((if0 _ _).trans (feq (by decide)).1) ?_
        show Steps p.tables e below (T6.setTop (mkF m 120 #[.val (.int p1), .val (.int p2), .val (.int d), .val (.int ee), .val (.double (own_sk d)), .second, .val (.double (own_sk ee)), .second, .val (.int (1 : Int32))] [])) _
        refine XS.dload X6.here hx rfl (hb hby at_120) rfl ?_
        show Steps p.tables e below (T6.setTop (mkF m 122 #[.val (.int p1), .val (.int p2), .val (.int d), .val (.int ee), .val (.double (own_sk d)), .second, .val (.double (own_sk ee)), .second, .val (.int (1 : Int32))] [(.double (own_sk d))])) _
        refine XS.dload X6.here hx rfl (hb hby at_122) rfl ?_
        show Steps p.tables e below (T6.setTop (mkF m 124 #[.val (.int p1), .val (.int p2), .val (.int d), .val (.int ee), .val (.double (own_sk d)), .second, .val (.double (own_sk ee)), .second, .val (.int (1 : Int32))] [(.double (own_sk ee)), (.double (own_sk d))])) _
        refine XS.dcmpS X6.here hx rfl (hb hby at_124) rfl (v := (cmpValue (FP.dcmp (own_sk d) (own_sk ee)) .g)) rfl ?_
        by_cases hc125_16 : (cmpValue (FP.dcmp (own_sk d) (own_sk ee)) .g) < (0 : Int32)
        · rw [if_pos hc125_16] at hr17
          show Steps p.tables e below (T6.setTop (mkF m 125 #[.val (.int p1), .val (.int p2), .val (.int d), .val (.int ee), .val (.double (own_sk d)), .second, .val (.double (own_sk ee)), .second, .val (.int (1 : Int32))] [(.int (cmpValue (FP.dcmp (own_sk d) (own_sk ee)) .g))])) _
          refine XS.ifNo X6.here hx rfl (hb hby at_125) rfl ((if0 _ _).trans (tlt hc125_16).2.1) ?_
          show Steps p.tables e below (T6.setTop (mkF m 128 #[.val (.int p1), .val (.int p2), .val (.int d), .val (.int ee), .val (.double (own_sk d)), .second, .val (.double (own_sk ee)), .second, .val (.int (1 : Int32))] [])) _
          refine XS.iconst X6.here hx rfl (hb hby at_128) ?_
          show Steps p.tables e below (T6.setTop (mkF m 129 #[.val (.int p1), .val (.int p2), .val (.int d), .val (.int ee), .val (.double (own_sk d)), .second, .val (.double (own_sk ee)), .second, .val (.int (1 : Int32))] [(.int (1 : Int32))])) _
          refine XS.goto X6.here hx rfl (pc0 := 129) (pc' := 133) rfl (hb hby at_129) (by decide) (by decide) ?_
          show Steps p.tables e below (T6.setTop (mkF m 133 #[.val (.int p1), .val (.int p2), .val (.int d), .val (.int ee), .val (.double (own_sk d)), .second, .val (.double (own_sk ee)), .second, .val (.int (1 : Int32))] [(.int (1 : Int32))])) _
          refine XS.istore X6.here hx rfl (hb hby at_133) rfl (l' := #[.val (.int p1), .val (.int p2), .val (.int d), .val (.int ee), .val (.double (own_sk d)), .second, .val (.double (own_sk ee)), .second, .val (.int (1 : Int32))]) rfl ?_
          subst hr17
          exact kz
        · rw [if_neg hc125_16] at hr17
          show Steps p.tables e below (T6.setTop (mkF m 125 #[.val (.int p1), .val (.int p2), .val (.int d), .val (.int ee), .val (.double (own_sk d)), .second, .val (.double (own_sk ee)), .second, .val (.int (1 : Int32))] [(.int (cmpValue (FP.dcmp (own_sk d) (own_sk ee)) .g))])) _
          refine XS.ifYes X6.here hx rfl (pc0 := 125) (pc' := 132) rfl (hb hby at_125) rfl ((if0 _ _).trans (flt hc125_16).2.1) (by decide) (by decide) ?_
          show Steps p.tables e below (T6.setTop (mkF m 132 #[.val (.int p1), .val (.int p2), .val (.int d), .val (.int ee), .val (.double (own_sk d)), .second, .val (.double (own_sk ee)), .second, .val (.int (1 : Int32))] [])) _
          refine XS.iconst X6.here hx rfl (hb hby at_132) ?_
          show Steps p.tables e below (T6.setTop (mkF m 133 #[.val (.int p1), .val (.int p2), .val (.int d), .val (.int ee), .val (.double (own_sk d)), .second, .val (.double (own_sk ee)), .second, .val (.int (1 : Int32))] [(.int (0 : Int32))])) _
          refine XS.istore X6.here hx rfl (hb hby at_133) rfl (l' := #[.val (.int p1), .val (.int p2), .val (.int d), .val (.int ee), .val (.double (own_sk d)), .second, .val (.double (own_sk ee)), .second, .val (.int (0 : Int32))]) rfl ?_
          subst hr17
          exact kz
      · rw [if_neg hc112_15] at hr17
        show Steps p.tables e below (T6.setTop (mkF m 112 #[.val (.int p1), .val (.int p2), .val (.int d), .val (.int ee), .val (.double (own_sk d)), .second, .val (.double (own_sk ee)), .second, .val (.int (1 : Int32))] [(.int ee), (.int d)])) _
        refine XS.icmpYes X6.here hx rfl (pc0 := 112) (pc' := 135) rfl (hb hby at_112) rfl (flt hc112_15).2.1 (by decide) (by decide) ?_
        subst hr17
        exact kz
    refine Goes.via j112_18 ?_
    have er17 : r17 = 1 := own_e3 hd he hr17
    subst er17
    refine Goes.via (S' := T6.setTop (mkF m 137 #[.val (.int p1), .val (.int p2), .val (.int d), .val (.int ee), .val (.double (own_sk d)), .second, .val (.double (own_sk ee)), .second, .val (.int (1 : Int32))] [(.int ee), (.int d)])) (fun tz kz => ?_) ?_
    · show Steps p.tables e below (T6.setTop (mkF m 135 #[.val (.int p1), .val (.int p2), .val (.int d), .val (.int ee), .val (.double (own_sk d)), .second, .val (.double (own_sk ee)), .second, .val (.int (1 : Int32))] [])) _
      refine XS.iloadN X6.here hx rfl (hb hby at_135) rfl ?_
      show Steps p.tables e below (T6.setTop (mkF m 136 #[.val (.int p1), .val (.int p2), .val (.int d), .val (.int ee), .val (.double (own_sk d)), .second, .val (.double (own_sk ee)), .second, .val (.int (1 : Int32))] [(.int d)])) _
      refine XS.iloadN X6.here hx rfl (hb hby at_136) rfl ?_
      exact kz
    obtain ⟨r21, hr21⟩ : ∃ zz_ : Int32, zz_ = (if d = ee then (if (cmpValue (FP.dcmp (own_sk d) (own_sk ee)) .l) = (0 : Int32) then (1 : Int32) else (0 : Int32)) else (1 : Int32)) := ⟨_, rfl⟩
    have j137_22 : ∀ t, Steps p.tables e below (T6.setTop (mkF m 160 #[.val (.int p1), .val (.int p2), .val (.int d), .val (.int ee), .val (.double (own_sk d)), .second, .val (.double (own_sk ee)), .second, .val (.int r21)] [])) t → Steps p.tables e below (T6.setTop (mkF m 137 #[.val (.int p1), .val (.int p2), .val (.int d), .val (.int ee), .val (.double (own_sk d)), .second, .val (.double (own_sk ee)), .second, .val (.int (1 : Int32))] [(.int ee), (.int d)])) t := by
      intro tz kz
      by_cases hc137_19 : d = ee
      · rw [if_pos hc137_19] at hr21
        show Steps p.tables e below (T6.setTop (mkF m 137 #[.val (.int p1), .val (.int p2), .val (.int d), .val (.int ee), .val (.double (own_sk d)), .second, .val (.double (own_sk ee)), .second, .val (.int (1 : Int32))] [(.int ee), (.int d)])) _
        refine XS.icmpNo X6.here hx rfl (hb hby at_137) rfl (teq hc137_19).2 ?_
        show Steps p.tables e below (T6.setTop (mkF m 140 #[.val (.int p1), .val (.int p2), .val (.int d), .val (.int ee), .val (.double (own_sk d)), .second, .val (.double (own_sk ee)), .second, .val (.int (1 : Int32))] [])) _
        refine XS.iload X6.here hx rfl (hb hby at_140) rfl ?_
        show Steps p.tables e below (T6.setTop (mkF m 142 #[.val (.int p1), .val (.int p2), .val (.int d), .val (.int ee), .val (.double (own_sk d)), .second, .val (.double (own_sk ee)), .second, .val (.int (1 : Int32))] [(.int (1 : Int32))])) _
        refine XS.ifNo X6.here hx rfl (hb hby at_142) rfl ((if0 _ _).trans (feq (by decide)).1) ?_
        show Steps p.tables e below (T6.setTop (mkF m 145 #[.val (.int p1), .val (.int p2), .val (.int d), .val (.int ee), .val (.double (own_sk d)), .second, .val (.double (own_sk ee)), .second, .val (.int (1 : Int32))] [])) _
        refine XS.dload X6.here hx rfl (hb hby at_145) rfl ?_
        show Steps p.tables e below (T6.setTop (mkF m 147 #[.val (.int p1), .val (.int p2), .val (.int d), .val (.int ee), .val (.double (own_sk d)), .second, .val (.double (own_sk ee)), .second, .val (.int (1 : Int32))] [(.double (own_sk d))])) _
        refine XS.dload X6.here hx rfl (hb hby at_147) rfl ?_
        show Steps p.tables e below (T6.setTop (mkF m 149 #[.val (.int p1), .val (.int p2), .val (.int d), .val (.int ee), .val (.double (own_sk d)), .second, .val (.double (own_sk ee)), .second, .val (.int (1 : Int32))] [(.double (own_sk ee)), (.double (own_sk d))])) _
        refine XS.dcmpS X6.here hx rfl (hb hby at_149) rfl (v := (cmpValue (FP.dcmp (own_sk d) (own_sk ee)) .l)) rfl ?_
        by_cases hc150_20 : (cmpValue (FP.dcmp (own_sk d) (own_sk ee)) .l) = (0 : Int32)
        · rw [if_pos hc150_20] at hr21
          show Steps p.tables e below (T6.setTop (mkF m 150 #[.val (.int p1), .val (.int p2), .val (.int d), .val (.int ee), .val (.double (own_sk d)), .second, .val (.double (own_sk ee)), .second, .val (.int (1 : Int32))] [(.int (cmpValue (FP.dcmp (own_sk d) (own_sk ee)) .l))])) _
          refine XS.ifNo X6.here hx rfl (hb hby at_150) rfl ((if0 _ _).trans (teq hc150_20).2) ?_
          show Steps p.tables e below (T6.setTop (mkF m 153 #[.val (.int p1), .val (.int p2), .val (.int d), .val (.int ee), .val (.double (own_sk d)), .second, .val (.double (own_sk ee)), .second, .val (.int (1 : Int32))] [])) _
          refine XS.iconst X6.here hx rfl (hb hby at_153) ?_
          show Steps p.tables e below (T6.setTop (mkF m 154 #[.val (.int p1), .val (.int p2), .val (.int d), .val (.int ee), .val (.double (own_sk d)), .second, .val (.double (own_sk ee)), .second, .val (.int (1 : Int32))] [(.int (1 : Int32))])) _
          refine XS.goto X6.here hx rfl (pc0 := 154) (pc' := 158) rfl (hb hby at_154) (by decide) (by decide) ?_
          show Steps p.tables e below (T6.setTop (mkF m 158 #[.val (.int p1), .val (.int p2), .val (.int d), .val (.int ee), .val (.double (own_sk d)), .second, .val (.double (own_sk ee)), .second, .val (.int (1 : Int32))] [(.int (1 : Int32))])) _
          refine XS.istore X6.here hx rfl (hb hby at_158) rfl (l' := #[.val (.int p1), .val (.int p2), .val (.int d), .val (.int ee), .val (.double (own_sk d)), .second, .val (.double (own_sk ee)), .second, .val (.int (1 : Int32))]) rfl ?_
          subst hr21
          exact kz
        · rw [if_neg hc150_20] at hr21
          show Steps p.tables e below (T6.setTop (mkF m 150 #[.val (.int p1), .val (.int p2), .val (.int d), .val (.int ee), .val (.double (own_sk d)), .second, .val (.double (own_sk ee)), .second, .val (.int (1 : Int32))] [(.int (cmpValue (FP.dcmp (own_sk d) (own_sk ee)) .l))])) _
          refine XS.ifYes X6.here hx rfl (pc0 := 150) (pc' := 157) rfl (hb hby at_150) rfl ((if0 _ _).trans (feq hc150_20).2) (by decide) (by decide) ?_
          show Steps p.tables e below (T6.setTop (mkF m 157 #[.val (.int p1), .val (.int p2), .val (.int d), .val (.int ee), .val (.double (own_sk d)), .second, .val (.double (own_sk ee)), .second, .val (.int (1 : Int32))] [])) _
          refine XS.iconst X6.here hx rfl (hb hby at_157) ?_
          show Steps p.tables e below (T6.setTop (mkF m 158 #[.val (.int p1), .val (.int p2), .val (.int d), .val (.int ee), .val (.double (own_sk d)), .second, .val (.double (own_sk ee)), .second, .val (.int (1 : Int32))] [(.int (0 : Int32))])) _
          refine XS.istore X6.here hx rfl (hb hby at_158) rfl (l' := #[.val (.int p1), .val (.int p2), .val (.int d), .val (.int ee), .val (.double (own_sk d)), .second, .val (.double (own_sk ee)), .second, .val (.int (0 : Int32))]) rfl ?_
          subst hr21
          exact kz
      · rw [if_neg hc137_19] at hr21
        show Steps p.tables e below (T6.setTop (mkF m 137 #[.val (.int p1), .val (.int p2), .val (.int d), .val (.int ee), .val (.double (own_sk d)), .second, .val (.double (own_sk ee)), .second, .val (.int (1 : Int32))] [(.int ee), (.int d)])) _
        refine XS.icmpYes X6.here hx rfl (pc0 := 137) (pc' := 160) rfl (hb hby at_137) rfl (feq hc137_19).2 (by decide) (by decide) ?_
        subst hr21
        exact kz
    refine Goes.via j137_22 ?_
    have er21 : r21 = 1 := own_e4 hd hr21
    subst er21
    refine Goes.via (S' := T6.setTop (mkF m 166 #[.val (.int p1), .val (.int p2), .val (.int d), .val (.int ee), .val (.double (own_sk d)), .second, .val (.double (own_sk ee)), .second, .val (.int (1 : Int32))] [(.int (0 : Int32))])) (fun tz kz => ?_) ?_
    · show Steps p.tables e below (T6.setTop (mkF m 160 #[.val (.int p1), .val (.int p2), .val (.int d), .val (.int ee), .val (.double (own_sk d)), .second, .val (.double (own_sk ee)), .second, .val (.int (1 : Int32))] [])) _
      refine XS.iload X6.here hx rfl (hb hby at_160) rfl ?_
      show Steps p.tables e below (T6.setTop (mkF m 162 #[.val (.int p1), .val (.int p2), .val (.int d), .val (.int ee), .val (.double (own_sk d)), .second, .val (.double (own_sk ee)), .second, .val (.int (1 : Int32))] [(.int (1 : Int32))])) _
      refine XS.ifNo X6.here hx rfl (hb hby at_162) rfl ((if0 _ _).trans (feq (by decide)).1) ?_
      show Steps p.tables e below (T6.setTop (mkF m 165 #[.val (.int p1), .val (.int p2), .val (.int d), .val (.int ee), .val (.double (own_sk d)), .second, .val (.double (own_sk ee)), .second, .val (.int (1 : Int32))] [])) _
      refine XS.iconst X6.here hx rfl (hb hby at_165) ?_
      exact kz
    obtain ⟨_, _, ⟨T23, L23, k23, n23⟩, -, X23, ⟨Lc23, hQ23, l23, y23, z23⟩, st23⟩ := Jvm.LawKit.callS X6 hx (y := (⟨"com/example/embercast/embercast/sim/Disk", "seekMs", "(I)D"⟩ : MethodName)) hown (mvT hZ (hw _ (List.mem_of_getElem? (i := 1) rfl))) (mvT hZ (hw _ (List.mem_of_getElem? (i := 2) rfl))) (mvT hZ (hw _ (List.mem_of_getElem? (i := 3) rfl))) (mvT hZ (hw _ (List.mem_of_getElem? (i := 4) rfl))) (by decide) (backOf (W := 0) (rm1 l Z a0 hw [] (0 : Int32) h0 n0 Z0 ⟨0, by decide, rfl⟩) hZ (hw _ (List.mem_of_getElem? (i := 4) rfl)) (hw _ (List.mem_of_getElem? (i := 3) rfl)) (by decide) (by decide)) (g := (mkF m 166 #[.val (.int p1), .val (.int p2), .val (.int d), .val (.int ee), .val (.double (own_sk d)), .second, .val (.double (own_sk ee)), .second, .val (.int (1 : Int32))] [(.int (0 : Int32))])) rfl (by rw [hml]; rfl) (argsL := [(.int (0 : Int32))]) (rest := []) (lenOf pd_0 rfl) rfl (by show 2 * 0 + _ ≤ _; exact Nat.le_of_eq rfl) (hb hby at_166) (fun _ _ => ⟨rfl, e6, (by decide : 0 + 0 ≤ _), (by decide : 0 + 0 ≤ _)⟩)
    dsimp only [Pt.U, Pt.locs, Pt.cells, Pt.slots] at X23 l23 y23 z23 st23 hQ23
    subst l23 y23 z23
    obtain ⟨rfl, N23, e23⟩ := hQ23
    have Nf23 := Fr.app Nf6 N23
    refine Goes.via (S' := T23.setTop (mkF m 169 #[.val (.int p1), .val (.int p2), .val (.int d), .val (.int ee), .val (.double (own_sk d)), .second, .val (.double (own_sk ee)), .second, .val (.int (1 : Int32))] [(.double (own_sk (0 : Int32)))])) (st23) ?_
    refine Goes.via (S' := T23.setTop (mkF m 187 #[.val (.int p1), .val (.int p2), .val (.int d), .val (.int ee), .val (.double (own_sk d)), .second, .val (.double (own_sk ee)), .second, .val (.int (1 : Int32))] [(.int (1 : Int32))])) (fun tz kz => ?_) ?_
    · show Steps p.tables e below (T23.setTop (mkF m 169 #[.val (.int p1), .val (.int p2), .val (.int d), .val (.int ee), .val (.double (own_sk d)), .second, .val (.double (own_sk ee)), .second, .val (.int (1 : Int32))] [(.double (own_sk (0 : Int32)))])) _
      refine XS.dconst0 X23.here hx rfl (hb hby at_169) (v := FP.dconst0) rfl ?_
      show Steps p.tables e below (T23.setTop (mkF m 170 #[.val (.int p1), .val (.int p2), .val (.int d), .val (.int ee), .val (.double (own_sk d)), .second, .val (.double (own_sk ee)), .second, .val (.int (1 : Int32))] [(.double FP.dconst0), (.double (own_sk (0 : Int32)))])) _
      refine XS.dcmpS X23.here hx rfl (hb hby at_170) rfl (v := (cmpValue (FP.dcmp (own_sk (0 : Int32)) FP.dconst0) .l)) rfl ?_
      show Steps p.tables e below (T23.setTop (mkF m 171 #[.val (.int p1), .val (.int p2), .val (.int d), .val (.int ee), .val (.double (own_sk d)), .second, .val (.double (own_sk ee)), .second, .val (.int (1 : Int32))] [(.int (cmpValue (FP.dcmp (own_sk (0 : Int32)) FP.dconst0) .l))])) _
      refine XS.ifNo X23.here hx rfl (hb hby at_171) rfl ((if0 _ _).trans (teq own_z0).2) ?_
      show Steps p.tables e below (T23.setTop (mkF m 174 #[.val (.int p1), .val (.int p2), .val (.int d), .val (.int ee), .val (.double (own_sk d)), .second, .val (.double (own_sk ee)), .second, .val (.int (1 : Int32))] [])) _
      refine XS.iconst X23.here hx rfl (hb hby at_174) ?_
      show Steps p.tables e below (T23.setTop (mkF m 175 #[.val (.int p1), .val (.int p2), .val (.int d), .val (.int ee), .val (.double (own_sk d)), .second, .val (.double (own_sk ee)), .second, .val (.int (1 : Int32))] [(.int (1 : Int32))])) _
      refine XS.goto X23.here hx rfl (pc0 := 175) (pc' := 179) rfl (hb hby at_175) (by decide) (by decide) ?_
      show Steps p.tables e below (T23.setTop (mkF m 179 #[.val (.int p1), .val (.int p2), .val (.int d), .val (.int ee), .val (.double (own_sk d)), .second, .val (.double (own_sk ee)), .second, .val (.int (1 : Int32))] [(.int (1 : Int32))])) _
      refine XS.istore X23.here hx rfl (hb hby at_179) rfl (l' := #[.val (.int p1), .val (.int p2), .val (.int d), .val (.int ee), .val (.double (own_sk d)), .second, .val (.double (own_sk ee)), .second, .val (.int (1 : Int32))]) rfl ?_
      show Steps p.tables e below (T23.setTop (mkF m 181 #[.val (.int p1), .val (.int p2), .val (.int d), .val (.int ee), .val (.double (own_sk d)), .second, .val (.double (own_sk ee)), .second, .val (.int (1 : Int32))] [])) _
      refine XS.iload X23.here hx rfl (hb hby at_181) rfl ?_
      show Steps p.tables e below (T23.setTop (mkF m 183 #[.val (.int p1), .val (.int p2), .val (.int d), .val (.int ee), .val (.double (own_sk d)), .second, .val (.double (own_sk ee)), .second, .val (.int (1 : Int32))] [(.int (1 : Int32))])) _
      refine XS.ifNo X23.here hx rfl (hb hby at_183) rfl ((if0 _ _).trans (feq (by decide)).1) ?_
      show Steps p.tables e below (T23.setTop (mkF m 186 #[.val (.int p1), .val (.int p2), .val (.int d), .val (.int ee), .val (.double (own_sk d)), .second, .val (.double (own_sk ee)), .second, .val (.int (1 : Int32))] [])) _
      refine XS.iconst X23.here hx rfl (hb hby at_186) ?_
      exact kz
    obtain ⟨_, _, ⟨T24, L24, k24, n24⟩, -, X24, ⟨Lc24, hQ24, l24, y24, z24⟩, st24⟩ := Jvm.LawKit.callS X23 hx (y := (⟨"com/example/embercast/embercast/sim/Disk", "seekMs", "(I)D"⟩ : MethodName)) hown (mvT hZ (hw _ (List.mem_of_getElem? (i := 1) rfl))) (mvT hZ (hw _ (List.mem_of_getElem? (i := 2) rfl))) (mvT hZ (hw _ (List.mem_of_getElem? (i := 3) rfl))) (mvT hZ (hw _ (List.mem_of_getElem? (i := 4) rfl))) (by decide) (backOf (W := 0) (rm1 l Z a0 hw [] (1 : Int32) h0 n0 Z0 ⟨1, by decide, rfl⟩) hZ (hw _ (List.mem_of_getElem? (i := 4) rfl)) (hw _ (List.mem_of_getElem? (i := 3) rfl)) (by decide) (by decide)) (g := (mkF m 187 #[.val (.int p1), .val (.int p2), .val (.int d), .val (.int ee), .val (.double (own_sk d)), .second, .val (.double (own_sk ee)), .second, .val (.int (1 : Int32))] [(.int (1 : Int32))])) rfl (by rw [hml]; rfl) (argsL := [(.int (1 : Int32))]) (rest := []) (lenOf pd_0 rfl) rfl (by show 2 * 0 + _ ≤ _; exact Nat.le_of_eq rfl) (hb hby at_187) (fun _ _ => ⟨rfl, e23, (by decide : 0 + 0 ≤ _), (by decide : 0 + 0 ≤ _)⟩)
    dsimp only [Pt.U, Pt.locs, Pt.cells, Pt.slots] at X24 l24 y24 z24 st24 hQ24
    subst l24 y24 z24
    obtain ⟨rfl, N24, e24⟩ := hQ24
    have Nf24 := Fr.app Nf23 N24
    refine Goes.via (S' := T24.setTop (mkF m 190 #[.val (.int p1), .val (.int p2), .val (.int d), .val (.int ee), .val (.double (own_sk d)), .second, .val (.double (own_sk ee)), .second, .val (.int (1 : Int32))] [(.double (own_sk (1 : Int32)))])) (st24) ?_
    refine Goes.via (S' := T24.setTop (mkF m 212 #[.val (.int p1), .val (.int p2), .val (.int d), .val (.int ee), .val (.double (own_sk d)), .second, .val (.double (own_sk ee)), .second, .val (.int (1 : Int32))] [(.int (3710 : Int32))])) (fun tz kz => ?_) ?_
    · show Steps p.tables e below (T24.setTop (mkF m 190 #[.val (.int p1), .val (.int p2), .val (.int d), .val (.int ee), .val (.double (own_sk d)), .second, .val (.double (own_sk ee)), .second, .val (.int (1 : Int32))] [(.double (own_sk (1 : Int32)))])) _
      refine X24.ldc2DoubleC hx hown (mvT hZ (hw _ (List.mem_of_getElem? (i := 17) rfl))) (g := (mkF m 190 #[.val (.int p1), .val (.int p2), .val (.int d), .val (.int ee), .val (.double (own_sk d)), .second, .val (.double (own_sk ee)), .second, .val (.int (1 : Int32))] [(.double (own_sk (1 : Int32)))])) rfl (hb hby at_190) _ ?_
      show Steps p.tables e below (T24.setTop (mkF m 193 #[.val (.int p1), .val (.int p2), .val (.int d), .val (.int ee), .val (.double (own_sk d)), .second, .val (.double (own_sk ee)), .second, .val (.int (1 : Int32))] [(.double (4603579539098121011 : UInt64)), (.double (own_sk (1 : Int32)))])) _
      refine XS.dcmpS X24.here hx rfl (hb hby at_193) rfl (v := (cmpValue (FP.dcmp (own_sk (1 : Int32)) (4603579539098121011 : UInt64)) .l)) rfl ?_
      show Steps p.tables e below (T24.setTop (mkF m 194 #[.val (.int p1), .val (.int p2), .val (.int d), .val (.int ee), .val (.double (own_sk d)), .second, .val (.double (own_sk ee)), .second, .val (.int (1 : Int32))] [(.int (cmpValue (FP.dcmp (own_sk (1 : Int32)) (4603579539098121011 : UInt64)) .l))])) _
      refine XS.ifNo X24.here hx rfl (hb hby at_194) rfl ((if0 _ _).trans (teq own_z1).2) ?_
      show Steps p.tables e below (T24.setTop (mkF m 197 #[.val (.int p1), .val (.int p2), .val (.int d), .val (.int ee), .val (.double (own_sk d)), .second, .val (.double (own_sk ee)), .second, .val (.int (1 : Int32))] [])) _
      refine XS.iconst X24.here hx rfl (hb hby at_197) ?_
      show Steps p.tables e below (T24.setTop (mkF m 198 #[.val (.int p1), .val (.int p2), .val (.int d), .val (.int ee), .val (.double (own_sk d)), .second, .val (.double (own_sk ee)), .second, .val (.int (1 : Int32))] [(.int (1 : Int32))])) _
      refine XS.goto X24.here hx rfl (pc0 := 198) (pc' := 202) rfl (hb hby at_198) (by decide) (by decide) ?_
      show Steps p.tables e below (T24.setTop (mkF m 202 #[.val (.int p1), .val (.int p2), .val (.int d), .val (.int ee), .val (.double (own_sk d)), .second, .val (.double (own_sk ee)), .second, .val (.int (1 : Int32))] [(.int (1 : Int32))])) _
      refine XS.istore X24.here hx rfl (hb hby at_202) rfl (l' := #[.val (.int p1), .val (.int p2), .val (.int d), .val (.int ee), .val (.double (own_sk d)), .second, .val (.double (own_sk ee)), .second, .val (.int (1 : Int32))]) rfl ?_
      show Steps p.tables e below (T24.setTop (mkF m 204 #[.val (.int p1), .val (.int p2), .val (.int d), .val (.int ee), .val (.double (own_sk d)), .second, .val (.double (own_sk ee)), .second, .val (.int (1 : Int32))] [])) _
      refine XS.iload X24.here hx rfl (hb hby at_204) rfl ?_
      show Steps p.tables e below (T24.setTop (mkF m 206 #[.val (.int p1), .val (.int p2), .val (.int d), .val (.int ee), .val (.double (own_sk d)), .second, .val (.double (own_sk ee)), .second, .val (.int (1 : Int32))] [(.int (1 : Int32))])) _
      refine XS.ifNo X24.here hx rfl (hb hby at_206) rfl ((if0 _ _).trans (feq (by decide)).1) ?_
      show Steps p.tables e below (T24.setTop (mkF m 209 #[.val (.int p1), .val (.int p2), .val (.int d), .val (.int ee), .val (.double (own_sk d)), .second, .val (.double (own_sk ee)), .second, .val (.int (1 : Int32))] [])) _
      refine XS.sipush X24.here hx rfl (hb hby at_209) ?_
      exact kz
    obtain ⟨_, _, ⟨T25, L25, k25, n25⟩, -, X25, ⟨Lc25, hQ25, l25, y25, z25⟩, st25⟩ := Jvm.LawKit.callS X24 hx (y := (⟨"com/example/embercast/embercast/sim/Disk", "seekMs", "(I)D"⟩ : MethodName)) hown (mvT hZ (hw _ (List.mem_of_getElem? (i := 1) rfl))) (mvT hZ (hw _ (List.mem_of_getElem? (i := 2) rfl))) (mvT hZ (hw _ (List.mem_of_getElem? (i := 3) rfl))) (mvT hZ (hw _ (List.mem_of_getElem? (i := 4) rfl))) (by decide) (backOf (W := 0) (rm1 l Z a0 hw [] (3710 : Int32) h0 n0 Z0 ⟨3710, by decide, rfl⟩) hZ (hw _ (List.mem_of_getElem? (i := 4) rfl)) (hw _ (List.mem_of_getElem? (i := 3) rfl)) (by decide) (by decide)) (g := (mkF m 212 #[.val (.int p1), .val (.int p2), .val (.int d), .val (.int ee), .val (.double (own_sk d)), .second, .val (.double (own_sk ee)), .second, .val (.int (1 : Int32))] [(.int (3710 : Int32))])) rfl (by rw [hml]; rfl) (argsL := [(.int (3710 : Int32))]) (rest := []) (lenOf pd_0 rfl) rfl (by show 2 * 0 + _ ≤ _; exact Nat.le_of_eq rfl) (hb hby at_212) (fun _ _ => ⟨rfl, e24, (by decide : 0 + 0 ≤ _), (by decide : 0 + 0 ≤ _)⟩)
    dsimp only [Pt.U, Pt.locs, Pt.cells, Pt.slots] at X25 l25 y25 z25 st25 hQ25
    subst l25 y25 z25
    obtain ⟨rfl, N25, e25⟩ := hQ25
    have Nf25 := Fr.app Nf24 N25
    refine Goes.via (S' := T25.setTop (mkF m 215 #[.val (.int p1), .val (.int p2), .val (.int d), .val (.int ee), .val (.double (own_sk d)), .second, .val (.double (own_sk ee)), .second, .val (.int (1 : Int32))] [(.double (own_sk (3710 : Int32)))])) (st25) ?_
    refine Goes.via (S' := T25.setTop (mkF m 218 #[.val (.int p1), .val (.int p2), .val (.int d), .val (.int ee), .val (.double (own_sk d)), .second, .val (.double (own_sk ee)), .second, .val (.int (1 : Int32))] [(.double (4625478292286210048 : UInt64)), (.double (own_sk (3710 : Int32)))])) (fun tz kz => ?_) ?_
    · show Steps p.tables e below (T25.setTop (mkF m 215 #[.val (.int p1), .val (.int p2), .val (.int d), .val (.int ee), .val (.double (own_sk d)), .second, .val (.double (own_sk ee)), .second, .val (.int (1 : Int32))] [(.double (own_sk (3710 : Int32)))])) _
      refine X25.ldc2DoubleC hx hown (mvT hZ (hw _ (List.mem_of_getElem? (i := 18) rfl))) (g := (mkF m 215 #[.val (.int p1), .val (.int p2), .val (.int d), .val (.int ee), .val (.double (own_sk d)), .second, .val (.double (own_sk ee)), .second, .val (.int (1 : Int32))] [(.double (own_sk (3710 : Int32)))])) rfl (hb hby at_215) _ ?_
      exact kz
    obtain ⟨_, _, ⟨T26, L26, k26, n26⟩, -, X26, ⟨Lc26, hQ26, l26, y26, z26⟩, st26⟩ := Jvm.LawKit.callS X25 hx (y := (⟨"com/example/embercast/embercast/sim/DiskSeekMsPinLaw", "near", "(DD)Z"⟩ : MethodName)) hown (mvT hZ (hw _ (List.mem_of_getElem? (i := 12) rfl))) (mvT hZ (hw _ (List.mem_of_getElem? (i := 13) rfl))) (mvT hZ (hw _ (List.mem_of_getElem? (i := 10) rfl))) (mvT hZ (hw _ (List.mem_of_getElem? (i := 14) rfl))) (by decide) (backOf (W := 0) (rm3 l Z a0 hw [] (own_sk (3710 : Int32)) (4625478292286210048 : UInt64) h0 n0 Z0 own_z17) hZ (hw _ (List.mem_of_getElem? (i := 14) rfl)) (hw _ (List.mem_of_getElem? (i := 10) rfl)) (by decide) (by decide)) (g := (mkF m 218 #[.val (.int p1), .val (.int p2), .val (.int d), .val (.int ee), .val (.double (own_sk d)), .second, .val (.double (own_sk ee)), .second, .val (.int (1 : Int32))] [(.double (4625478292286210048 : UInt64)), (.double (own_sk (3710 : Int32)))])) rfl (by rw [hml]; rfl) (argsL := [(.double (own_sk (3710 : Int32))), (.double (4625478292286210048 : UInt64))]) (rest := []) (lenOf pd_1 rfl) rfl (by show 2 * 0 + _ ≤ _; exact Nat.le_of_eq rfl) (hb hby at_218) (fun _ _ => ⟨rfl, e25, (by decide : 0 + 0 ≤ _), (by decide : 0 + 0 ≤ _)⟩)
    dsimp only [Pt.U, Pt.locs, Pt.cells, Pt.slots] at X26 l26 y26 z26 st26 hQ26
    subst l26 y26 z26
    obtain ⟨rfl, N26, e26⟩ := hQ26
    have Nf26 := Fr.app Nf25 N26
    refine Goes.via (S' := T26.setTop (mkF m 221 #[.val (.int p1), .val (.int p2), .val (.int d), .val (.int ee), .val (.double (own_sk d)), .second, .val (.double (own_sk ee)), .second, .val (.int (1 : Int32))] [(.int (1 : Int32))])) (st26) ?_
    refine Goes.via (S' := T26.setTop (mkF m 233 #[.val (.int p1), .val (.int p2), .val (.int d), .val (.int ee), .val (.double (own_sk d)), .second, .val (.double (own_sk ee)), .second, .val (.int (1 : Int32))] [(.int (1 : Int32))])) (fun tz kz => ?_) ?_
    · show Steps p.tables e below (T26.setTop (mkF m 221 #[.val (.int p1), .val (.int p2), .val (.int d), .val (.int ee), .val (.double (own_sk d)), .second, .val (.double (own_sk ee)), .second, .val (.int (1 : Int32))] [(.int (1 : Int32))])) _
      refine XS.ifNo X26.here hx rfl (hb hby at_221) rfl ((if0 _ _).trans (feq (by decide)).1) ?_
      show Steps p.tables e below (T26.setTop (mkF m 224 #[.val (.int p1), .val (.int p2), .val (.int d), .val (.int ee), .val (.double (own_sk d)), .second, .val (.double (own_sk ee)), .second, .val (.int (1 : Int32))] [])) _
      refine XS.iconst X26.here hx rfl (hb hby at_224) ?_
      show Steps p.tables e below (T26.setTop (mkF m 225 #[.val (.int p1), .val (.int p2), .val (.int d), .val (.int ee), .val (.double (own_sk d)), .second, .val (.double (own_sk ee)), .second, .val (.int (1 : Int32))] [(.int (1 : Int32))])) _
      refine XS.goto X26.here hx rfl (pc0 := 225) (pc' := 229) rfl (hb hby at_225) (by decide) (by decide) ?_
      show Steps p.tables e below (T26.setTop (mkF m 229 #[.val (.int p1), .val (.int p2), .val (.int d), .val (.int ee), .val (.double (own_sk d)), .second, .val (.double (own_sk ee)), .second, .val (.int (1 : Int32))] [(.int (1 : Int32))])) _
      refine XS.istore X26.here hx rfl (hb hby at_229) rfl (l' := #[.val (.int p1), .val (.int p2), .val (.int d), .val (.int ee), .val (.double (own_sk d)), .second, .val (.double (own_sk ee)), .second, .val (.int (1 : Int32))]) rfl ?_
      show Steps p.tables e below (T26.setTop (mkF m 231 #[.val (.int p1), .val (.int p2), .val (.int d), .val (.int ee), .val (.double (own_sk d)), .second, .val (.double (own_sk ee)), .second, .val (.int (1 : Int32))] [])) _
      refine XS.iload X26.here hx rfl (hb hby at_231) rfl ?_
      exact kz
    exact Goes.retN X26 hx Bd.notSynchronized (t := .boolean) Bd.returns (by simp) (hb hby at_233) (Nat.le_of_ble_eq_true rfl) (Nat.le_of_ble_eq_true rfl) ⟨rfl, Nf26⟩
  show Goes p e below (Fin s (Q_rm0 Z p1 p2 h0 n0) room_1.cells room_1.slots) _
  refine Goes.via (S' := s₁.setTop (mkF m 0 #[.val (.int p1), .val (.int p2), .unset, .unset, .unset, .unset, .unset, .unset, .unset] [])) (fun tz kz => castTop (ef_0 m p1 p2 ) kz) ?_
  refine Goes.via (S' := s₁.setTop (mkF m 18 #[.val (.int p1), .val (.int p2), .val (.int ((p1 &&& (2147483647 : Int32)) % (3711 : Int32))), .val (.int ((p2 &&& (2147483647 : Int32)) % (3711 : Int32))), .unset, .unset, .unset, .unset, .unset] [])) (fun tz kz => ?_) ?_
  · show Steps p.tables e below (s₁.setTop (mkF m 0 #[.val (.int p1), .val (.int p2), .unset, .unset, .unset, .unset, .unset, .unset, .unset] [])) _
    refine XS.iloadN X0.here hx rfl (hb hby at_0) rfl ?_
    show Steps p.tables e below (s₁.setTop (mkF m 1 #[.val (.int p1), .val (.int p2), .unset, .unset, .unset, .unset, .unset, .unset, .unset] [(.int p1)])) _
    refine X0.ldcInt hx hown (mvT hZ (hw _ (List.mem_of_getElem? (i := 0) rfl))) (g := (mkF m 1 #[.val (.int p1), .val (.int p2), .unset, .unset, .unset, .unset, .unset, .unset, .unset] [(.int p1)])) rfl (hb hby at_1) _ ?_
    show Steps p.tables e below (s₁.setTop (mkF m 3 #[.val (.int p1), .val (.int p2), .unset, .unset, .unset, .unset, .unset, .unset, .unset] [(.int (2147483647 : Int32)), (.int p1)])) _
    refine XS.iand X0.here hx rfl (hb hby at_3) rfl ?_
    show Steps p.tables e below (s₁.setTop (mkF m 4 #[.val (.int p1), .val (.int p2), .unset, .unset, .unset, .unset, .unset, .unset, .unset] [(.int (p1 &&& (2147483647 : Int32)))])) _
    refine XS.sipush X0.here hx rfl (hb hby at_4) ?_
    show Steps p.tables e below (s₁.setTop (mkF m 7 #[.val (.int p1), .val (.int p2), .unset, .unset, .unset, .unset, .unset, .unset, .unset] [(.int (3711 : Int32)), (.int (p1 &&& (2147483647 : Int32)))])) _
    refine iremM (g := (mkF m 7 #[.val (.int p1), .val (.int p2), .unset, .unset, .unset, .unset, .unset, .unset, .unset] [(.int (3711 : Int32)), (.int (p1 &&& (2147483647 : Int32)))])) X0 hx rfl (hb hby at_7) rfl (by decide) ?_
    show Steps p.tables e below (s₁.setTop (mkF m 8 #[.val (.int p1), .val (.int p2), .unset, .unset, .unset, .unset, .unset, .unset, .unset] [(.int ((p1 &&& (2147483647 : Int32)) % (3711 : Int32)))])) _
    refine XS.istoreN X0.here hx rfl (hb hby at_8) rfl (l' := #[.val (.int p1), .val (.int p2), .val (.int ((p1 &&& (2147483647 : Int32)) % (3711 : Int32))), .unset, .unset, .unset, .unset, .unset, .unset]) rfl ?_
    show Steps p.tables e below (s₁.setTop (mkF m 9 #[.val (.int p1), .val (.int p2), .val (.int ((p1 &&& (2147483647 : Int32)) % (3711 : Int32))), .unset, .unset, .unset, .unset, .unset, .unset] [])) _
    refine XS.iloadN X0.here hx rfl (hb hby at_9) rfl ?_
    show Steps p.tables e below (s₁.setTop (mkF m 10 #[.val (.int p1), .val (.int p2), .val (.int ((p1 &&& (2147483647 : Int32)) % (3711 : Int32))), .unset, .unset, .unset, .unset, .unset, .unset] [(.int p2)])) _
    refine X0.ldcInt hx hown (mvT hZ (hw _ (List.mem_of_getElem? (i := 0) rfl))) (g := (mkF m 10 #[.val (.int p1), .val (.int p2), .val (.int ((p1 &&& (2147483647 : Int32)) % (3711 : Int32))), .unset, .unset, .unset, .unset, .unset, .unset] [(.int p2)])) rfl (hb hby at_10) _ ?_
    show Steps p.tables e below (s₁.setTop (mkF m 12 #[.val (.int p1), .val (.int p2), .val (.int ((p1 &&& (2147483647 : Int32)) % (3711 : Int32))), .unset, .unset, .unset, .unset, .unset, .unset] [(.int (2147483647 : Int32)), (.int p2)])) _
    refine XS.iand X0.here hx rfl (hb hby at_12) rfl ?_
    show Steps p.tables e below (s₁.setTop (mkF m 13 #[.val (.int p1), .val (.int p2), .val (.int ((p1 &&& (2147483647 : Int32)) % (3711 : Int32))), .unset, .unset, .unset, .unset, .unset, .unset] [(.int (p2 &&& (2147483647 : Int32)))])) _
    refine XS.sipush X0.here hx rfl (hb hby at_13) ?_
    show Steps p.tables e below (s₁.setTop (mkF m 16 #[.val (.int p1), .val (.int p2), .val (.int ((p1 &&& (2147483647 : Int32)) % (3711 : Int32))), .unset, .unset, .unset, .unset, .unset, .unset] [(.int (3711 : Int32)), (.int (p2 &&& (2147483647 : Int32)))])) _
    refine iremM (g := (mkF m 16 #[.val (.int p1), .val (.int p2), .val (.int ((p1 &&& (2147483647 : Int32)) % (3711 : Int32))), .unset, .unset, .unset, .unset, .unset, .unset] [(.int (3711 : Int32)), (.int (p2 &&& (2147483647 : Int32)))])) X0 hx rfl (hb hby at_16) rfl (by decide) ?_
    show Steps p.tables e below (s₁.setTop (mkF m 17 #[.val (.int p1), .val (.int p2), .val (.int ((p1 &&& (2147483647 : Int32)) % (3711 : Int32))), .unset, .unset, .unset, .unset, .unset, .unset] [(.int ((p2 &&& (2147483647 : Int32)) % (3711 : Int32)))])) _
    refine XS.istoreN X0.here hx rfl (hb hby at_17) rfl (l' := #[.val (.int p1), .val (.int p2), .val (.int ((p1 &&& (2147483647 : Int32)) % (3711 : Int32))), .val (.int ((p2 &&& (2147483647 : Int32)) % (3711 : Int32))), .unset, .unset, .unset, .unset, .unset]) rfl ?_
    exact kz
  exact seg18 _ _ _ X0 e0 (own_D.of p1) (own_D.of p2)
set_option maxRecDepth 65536 in
set_option maxHeartbeats 40000000 in
theorem comes_1 {Post : Tables → Env → Array Value → State → Outcome → State → Prop} (hpost : ∀ tb e args s v u, (limb_1_1.after args s (.returned v) u = true ∧ limb_1_2.after args s (.returned v) u = true ∧ True) → FrameEnd s (.returned v) u (Jvm.fieldLocs frame_1_writes args s ++ Jvm.arrayLocs frame_1_arrays args s ++ Jvm.staticLocs frame_1_statics s) 0 0 → Post tb e args s (.returned v) u) :
    ArmFor flags0 classFile x code maxLocals ret World_1 tables_1 room_1 Calls_1 rest_1 Pre_1 Post := by
  intro l hfl _ _ p e ha hc hk s m args below hf hA hF happ hP
  obtain ⟨hcalls, hrest, hpre⟩ := hP
  obtain ⟨-, -, -, hnamed, -, -, -, hat⟩ := (Spec.applies_iff hf).mp happ
  obtain ⟨hg, hn⟩ := and_e (Cond.before_iff.mp (show (Jvm.Cond.and given_1 narrow_1).before args s = true from hpre))
  obtain ⟨hcnt, gg0⟩ := and_e hg
  obtain ⟨ga0, gg1⟩ := and_e gg0
  obtain ⟨w0, w1, rfl⟩ : ∃ w0 w1 : Value, args = #[w0, w1] := by
    have hs : args.size = 2 := by simpa [Cond.value, given_1] using hcnt
    obtain ⟨L⟩ := args
    match L, hs with
    | [w0, w1], _ => exact ⟨w0, w1, rfl⟩
  have hw := fun d (hd : d ∈ tables_1) => atoms_spec (ws := Jvm.Cond.code x code maxLocals ret :: tables_1) hat d (List.mem_cons_of_mem _ hd)
  have hfit : Fit s := fun {y c} hc i hi => by
    obtain ⟨ha, rfl⟩ := Array.getElem?_eq_some_iff.mp hc
    have q := List.all_eq_true.mp ((Array.all_eq_true_iff_forall_mem.mp hF) _ (Array.getElem_mem ha)) i (List.mem_range.mpr hi)
    simpa [Array.getElem?_eq_getElem hi] using q
  obtain ⟨i0, ei0⟩ := is_v ga0
  obtain rfl : w0 = (.int i0) := Option.some.inj ei0
  obtain ⟨i1, ei1⟩ := is_v gg1
  obtain rfl : w1 = (.int i1) := Option.some.inj ei1
  obtain ⟨n, o, h1, h2, h3, _, L, rfl, ⟨rfl, N⟩, hq⟩ := rm0 l s _ hw tables_1 i0 i1 s.heap s.heap.size (Nat.le_refl _) p e ha hc hk s m _ below hf ((Spec.applies_iff_loose hf).mp happ).1 ⟨rfl, State.Warmed39.refl s, rfl⟩ trivial
  refine ⟨n, _, h1, h2, h3, hpost _ _ _ _ _ _ ⟨Cond.after_iff.mpr rfl, Cond.after_iff.mpr (eq_i res_at (Term.int_eval (1)) rfl), trivial⟩ ⟨hq.1, hq.2.1, (hq.2.2.sift fun y hy => Or.inr (N y hy)).mono (by decide) (by decide)⟩⟩
theorem main_1_1 : Claimed_1_1 := comes_1 fun _ _ _ _ _ _ h hF => ⟨h.1, hF⟩
theorem main_1_2 : Claimed_1_2 := comes_1 fun _ _ _ _ _ _ h hF => ⟨h.2.1, hF⟩
end Jvm.Pilot.@@N@@
namespace Jvm.Pilot.@@N@@
open Jvm Jvm.ClassFile Sem Op Lib Jvm.Free Jvm.Stand Jvm.Pilot.@@N@@.Jvm.D
/-! MADE BY PROGRAM (witnessworld.py) out of the Statement's table words and the real class files: 9 classes; the members and pool entries that the words name. The judged class is class 1, her method 3. -/
namespace start1
open Jvm.ClassFile
def u (s : String) : CpInfo := .utf8 (stringToUtf16 s)
/-- a pool by its gaps: so many unusable entries, then the entry; so many at the end -/
def gap : Nat → List CpInfo → List CpInfo
  | 0, r => r
  | n + 1, r => .unusable :: gap n r
def poolList (es : List (Nat × CpInfo)) (last : Nat) : List CpInfo := es.foldr (fun e r => gap e.1 (e.2 :: r)) (gap last [])
def pool (es : List (Nat × CpInfo)) (last : Nat) : Array CpInfo := ⟨poolList es last⟩
def fileOf (pool : Array CpInfo) (this : Nat) (attrs : Array Attribute := #[]) (ms : Array MethodInfo := #[]) (fl : Nat := 33) (sup : Nat := 0) (ifs : Array Nat := #[]) (fds : Array FieldInfo := #[]) : ClassFile where
  minorVersion := 0
  majorVersion := 65
  constantPool := pool
  accessFlags := fl
  thisClass := this
  superClass := sup
  interfaces := ifs
  fields := fds
  methods := ms
  attributes := attrs
def plain (name : String) (sup : Option ClassId) : Class where
  name := name
  kind := .ordinary
  loader := none
  accessFlags := 33
  super := sup
  interfaces := #[]
  cf := none
  fields := #[]
  methods := #[]
  instanceTypes := #[]
  staticTypes := #[]
  resolved := #[]
  callSites := []
  init := .initialized
  statics := none
  mirror := none

def pool0 : Array CpInfo := pool [(5, u "<init>"), (0, u "()V"), (1, .class_ 10), (1, u "java/lang/Object")] 113

def k0m0 : Method := { name := "<init>", desc := "()V", sig := { parameters := [], returnType := none }, accessFlags := 1, code := none }
/-- java/lang/Object -/
def k0 : Class := { plain "java/lang/Object" none with
  accessFlags := 33
  interfaces := #[]
  cf := some (fileOf pool0 8 #[] #[{ accessFlags := 1, nameIndex := 5, descriptorIndex := 6, attributes := #[] }] 33 0 #[] #[])
  fields := #[]
  methods := #[k0m0]
  instanceTypes := #[]
  staticTypes := #[]
  resolved := Array.replicate 124 none
  statics := none }

def pool1 : Array CpInfo := pool [(2, .class_ 4), (1, u "java/lang/Object"), (0, u "<init>"), (0, u "()V"), (0, .double 4675330424367480832), (1, .double 4472406533629990549), (1, .integer 2147483647), (0, .methodref 13 14), (0, .class_ 15), (0, .nameAndType 16 17), (0, u "com/example/embercast/embercast/sim/Disk"), (0, u "seekMs"), (0, u "(I)D"), (0, .methodref 19 20), (0, .class_ 21), (0, .nameAndType 22 17), (0, u "com/example/embercast/embercast/sim/DiskSeekMsPinLaw"), (0, u "ref"), (0, .methodref 19 24), (0, .nameAndType 25 26), (0, u "near"), (0, u "(DD)Z"), (0, .double 4603579539098121011), (1, .double 4625478292286210048), (4, u "law"), (0, u "(II)Z")] 2

def k1m0 : Method := { name := "<init>", desc := "()V", sig := { parameters := [], returnType := none }, accessFlags := 2, code := none }
def k1c1 : Code := { maxStack := 4, maxLocals := 3, code := method_2_code, exceptionTable := #[], attributes := #[] }
def k1m1 : Method := { name := "ref", desc := "(I)D", sig := { parameters := [.int], returnType := some .double }, accessFlags := 10, code := some k1c1 }
def k1c2 : Code := { maxStack := 4, maxLocals := 4, code := method_3_code, exceptionTable := #[], attributes := #[] }
def k1m2 : Method := { name := "near", desc := "(DD)Z", sig := { parameters := [.double, .double], returnType := some .boolean }, accessFlags := 10, code := some k1c2 }
def k1c3 : Code := { maxStack := 4, maxLocals := 9, code := code, exceptionTable := #[], attributes := #[] }
def k1m3 : Method := { name := "law", desc := "(II)Z", sig := { parameters := [.int, .int], returnType := some .boolean }, accessFlags := 9, code := some k1c3 }
/-- com/example/embercast/embercast/sim/DiskSeekMsPinLaw -/
def k1 : Class := { plain "com/example/embercast/embercast/sim/DiskSeekMsPinLaw" (some 0) with
  accessFlags := 49
  interfaces := #[]
  cf := some (fileOf pool1 19 #[] #[{ accessFlags := 2, nameIndex := 5, descriptorIndex := 6, attributes := #[] }, { accessFlags := 10, nameIndex := 22, descriptorIndex := 17, attributes := #[] }, { accessFlags := 10, nameIndex := 25, descriptorIndex := 26, attributes := #[] }, { accessFlags := 9, nameIndex := 34, descriptorIndex := 35, attributes := #[] }] 49 2 #[] #[])
  fields := #[]
  methods := #[k1m0, k1m1, k1m2, k1m3]
  instanceTypes := #[]
  staticTypes := #[]
  resolved := Array.replicate 38 none
  statics := none }

def pool2 : Array CpInfo := pool [(1, .class_ 2), (0, u "com/example/embercast/embercast/sim/Disk"), (1, .class_ 6), (1, u "java/lang/Object"), (28, u "server"), (0, u "Lcom/example/embercast/embercast/sim/Server;"), (2, u "random"), (0, u "Ljava/util/Random;"), (6, u "transferMs"), (0, u "D"), (2, u "cylinders"), (0, u "[S"), (8, u "head"), (0, u "I"), (0, .class_ 64), (0, u "com/example/embercast/embercast/sim/Disk$1"), (11, .double 4625309407300183654), (1, .double 4660374592328564736), (1, .double 4603579539098121011), (1, u "CYLINDERS"), (2, u "SHORTEST_SEEK_MS"), (0, u "LONGEST_SEEK_MS"), (2, u "TURNS_PER_MINUTE"), (1, u "BYTES_PER_SECOND"), (1, u "TURN_MS"), (10, u "seekMs"), (0, u "(I)D")] 7

def k2c0 : Code := { maxStack := 4, maxLocals := 1, code := prog_85_method_4_code, exceptionTable := #[], attributes := #[] }
def k2m0 : Method := { name := "seekMs", desc := "(I)D", sig := { parameters := [.int], returnType := some .double }, accessFlags := 8, code := some k2c0 }
/-- com/example/embercast/embercast/sim/Disk -/
def k2 : Class := { plain "com/example/embercast/embercast/sim/Disk" (some 0) with
  accessFlags := 49
  interfaces := #[]
  cf := some (fileOf pool2 1 #[.nestMembers #[63]] #[{ accessFlags := 8, nameIndex := 104, descriptorIndex := 105, attributes := #[] }] 49 4 #[] #[{ accessFlags := 24, nameIndex := 82, descriptorIndex := 62, attributes := #[] }, { accessFlags := 24, nameIndex := 85, descriptorIndex := 48, attributes := #[] }, { accessFlags := 24, nameIndex := 86, descriptorIndex := 48, attributes := #[] }, { accessFlags := 24, nameIndex := 89, descriptorIndex := 62, attributes := #[] }, { accessFlags := 24, nameIndex := 91, descriptorIndex := 62, attributes := #[] }, { accessFlags := 26, nameIndex := 93, descriptorIndex := 48, attributes := #[] }, { accessFlags := 18, nameIndex := 35, descriptorIndex := 36, attributes := #[] }, { accessFlags := 18, nameIndex := 39, descriptorIndex := 40, attributes := #[] }, { accessFlags := 18, nameIndex := 47, descriptorIndex := 48, attributes := #[] }, { accessFlags := 18, nameIndex := 51, descriptorIndex := 52, attributes := #[] }, { accessFlags := 2, nameIndex := 61, descriptorIndex := 62, attributes := #[] }])
  fields := #[{ name := "CYLINDERS", type := .int, accessFlags := 24, slot := 0, constantValue := 0 }, { name := "SHORTEST_SEEK_MS", type := .double, accessFlags := 24, slot := 1, constantValue := 0 }, { name := "LONGEST_SEEK_MS", type := .double, accessFlags := 24, slot := 2, constantValue := 0 }, { name := "TURNS_PER_MINUTE", type := .int, accessFlags := 24, slot := 3, constantValue := 0 }, { name := "BYTES_PER_SECOND", type := .int, accessFlags := 24, slot := 4, constantValue := 0 }, { name := "TURN_MS", type := .double, accessFlags := 26, slot := 5, constantValue := 0 }, { name := "server", type := (.object "com/example/embercast/embercast/sim/Server"), accessFlags := 18, slot := 0, constantValue := 0 }, { name := "random", type := (.object "java/util/Random"), accessFlags := 18, slot := 1, constantValue := 0 }, { name := "transferMs", type := .double, accessFlags := 18, slot := 2, constantValue := 0 }, { name := "cylinders", type := (.array .short), accessFlags := 18, slot := 3, constantValue := 0 }, { name := "head", type := .int, accessFlags := 2, slot := 4, constantValue := 0 }]
  methods := #[k2m0]
  instanceTypes := #[(.object "com/example/embercast/embercast/sim/Server"), (.object "java/util/Random"), .double, (.array .short), .int]
  staticTypes := #[.int, .double, .double, .int, .int, .double]
  resolved := Array.replicate 113 none
  statics := none }

def pool3 : Array CpInfo := pool [(1, u "java/lang/Cloneable"), (0, .class_ 1), (0, u "java/lang/Object"), (0, .class_ 3)] 3

/-- java/lang/Cloneable -/
def k3 : Class := { plain "java/lang/Cloneable" (some 0) with
  accessFlags := 1537
  interfaces := #[]
  cf := some (fileOf pool3 2 #[] #[] 1537 4 #[] #[])
  fields := #[]
  methods := #[]
  instanceTypes := #[]
  staticTypes := #[]
  resolved := Array.replicate 8 none
  statics := none }

def pool4 : Array CpInfo := pool [(1, u "java/io/Serializable"), (0, .class_ 1), (0, u "java/lang/Object"), (0, .class_ 3)] 3

/-- java/io/Serializable -/
def k4 : Class := { plain "java/io/Serializable" (some 0) with
  accessFlags := 1537
  interfaces := #[]
  cf := some (fileOf pool4 2 #[] #[] 1537 4 #[] #[])
  fields := #[]
  methods := #[]
  instanceTypes := #[]
  staticTypes := #[]
  resolved := Array.replicate 8 none
  statics := none }

/-- the primitive byte -/
def k5 : Class := { plain "byte" none with kind := .primitive 'B', accessFlags := 0x411 }
/-- [B -/
def k6 : Class := { plain "[B" (some 0) with kind := .array 5 .byte, interfaces := #[3, 4], accessFlags := 1041 }

/-- the primitive int -/
def k7 : Class := { plain "int" none with kind := .primitive 'I', accessFlags := 0x411 }
/-- [I -/
def k8 : Class := { plain "[I" (some 0) with kind := .array 7 .int, interfaces := #[3, 4], accessFlags := 1041 }

def heap : Heap := #[]
def classes : Array Class := #[k0, k1, k2, k3, k4, k5, k6, k7, k8]
def interned : List (Array UInt16 × Addr) := []
def slotsUsed : Nat := 0
def theMethod : MethodId := ⟨1, 3⟩
def args0 : Array Value := #[.int 5, .int 7]
def aboutOver (below : List Frame) : State where
  vm := { classes := classes, interned := interned.toArray }
  heap := heap
  slotsUsed := slotsUsed
  threads := #[{ frames := .invoking theMethod args0 :: below }]
def below0 : List Frame := [.native { method := ⟨0, 0⟩, args := #[] }]
def about1 : State := aboutOver below0
def p0 : Program := .bare "" "" ""
def e0 : Env := launch0.env 0 0 0
theorem w_frames : about1.frames = Frame.invoking theMethod args0 :: below0 := rfl
set_option maxRecDepth 65536 in
theorem w_args : argsFit about1.vm theMethod args0 = true := by decide +kernel
set_option maxRecDepth 65536 in
theorem w_heap : heapFits about1 = true := by decide +kernel
set_option maxRecDepth 65536 in
theorem w_runnable : about1.curStatus? = some .runnable := by decide +kernel
set_option maxRecDepth 65536 in
theorem w_alone : about1.alone = true := by decide +kernel
set_option maxRecDepth 65536 in
theorem w_named : about1.methodNamed? x = some theMethod := by decide +kernel
set_option maxRecDepth 65536 in
theorem w_hears : about1.hears theMethod below0 = true := by decide +kernel
set_option maxRecDepth 65536 in
theorem w_ripe : about1.ripe theMethod args0 below0 = true := by decide +kernel
theorem w_running : about1.status = .running := rfl
set_option maxRecDepth 65536 in
theorem w_room : about1.hasRoom e0.platform room_1 = true :=
  launch0.hasRoom_least _ room_1 (by decide +kernel) (by decide +kernel) (by decide +kernel) (by decide +kernel) (by decide +kernel) (by decide +kernel)
theorem allAtoms_all (ts : List Jvm.Cond) (a : Array Jvm.Value) (st : Jvm.State) : (allAtoms ts).before a st = ts.all (fun c => c.before a st) := by
  induction ts with
  | nil => rfl
  | cons c t ih =>
    show (Jvm.Cond.and c (allAtoms t)).before a st = _
    rw [Jvm.Cond.before_and, ih, List.all_cons]
def words1 : List Jvm.Cond := Jvm.Cond.code x code maxLocals ret :: tables_1
/-- a 'code' word, met by the world's own term for the bytes: nothing is compared byte by byte -/
theorem code_word {y : MethodName} {bytes : ByteArray} {mx : Nat} {rt : Option FieldType} {a : Array Value} {s : State} {m : MethodId} {meth : Method} {c : Code} (h1 : s.methodNamed? y = some m) (h2 : s.vm.method? m = some meth) (h3 : meth.code = some c) (h4 : c.code = bytes)
    (h5 : (c.maxLocals == mx && c.exceptionTable.isEmpty && decide (c.maxStack ≤ mostOperands) && decide (meth.sig.returnType = rt) && !meth.locks && decide (parseMethodDescriptor y.desc = some meth.sig)) = true) : (Jvm.Cond.code y bytes mx rt).before a s = true := by
  simp only [Bool.and_eq_true, beq_iff_eq, Bool.not_eq_true', decide_eq_true_eq] at h5
  obtain ⟨⟨⟨⟨⟨g1, g2⟩, g3⟩, g4⟩, g5⟩, g6⟩ := h5
  simp [Cond.before, Cond.holds, Cond.value, h1, h2, h3, h4, g1, g2, g3, g4, g5, g6]
def isCode : Jvm.Cond → Bool
  | .code _ _ _ _ => true
  | _ => false
theorem all_split {L : List Jvm.Cond} {P : Jvm.Cond → Bool} (h1 : L.all (fun c => isCode c || P c) = true) (h2 : ∀ c ∈ L.filter isCode, P c = true) : L.all P = true := by
  refine List.all_eq_true.mpr fun c hc => ?_
  have h := List.all_eq_true.mp h1 c hc
  rcases Bool.eq_false_or_eq_true (isCode c) with hi | hi
  · exact h2 c (List.mem_filter.mpr ⟨hc, hi⟩)
  · simpa [hi] using h
set_option maxRecDepth 65536 in
theorem w_c0 : (Jvm.Cond.code x code maxLocals ret).before args0 about1 = true := code_word (m := ⟨1, 3⟩) (meth := k1m3) (c := k1c3) (by decide +kernel) rfl rfl rfl (by decide +kernel)
set_option maxRecDepth 65536 in
theorem w_c1 : (Jvm.Cond.code ({ cls := "com/example/embercast/embercast/sim/Disk", name := "seekMs", desc := "(I)D" } : Jvm.MethodName) prog_85_method_4_code (1 : Nat) (Option.some Jvm.ClassFile.FieldType.double)).before args0 about1 = true := code_word (m := ⟨2, 0⟩) (meth := k2m0) (c := k2c0) (by decide +kernel) rfl rfl rfl (by decide +kernel)
set_option maxRecDepth 65536 in
theorem w_c2 : (Jvm.Cond.code ({ cls := "com/example/embercast/embercast/sim/DiskSeekMsPinLaw", name := "ref", desc := "(I)D" } : Jvm.MethodName) method_2_code (3 : Nat) (Option.some Jvm.ClassFile.FieldType.double)).before args0 about1 = true := code_word (m := ⟨1, 1⟩) (meth := k1m1) (c := k1c1) (by decide +kernel) rfl rfl rfl (by decide +kernel)
set_option maxRecDepth 65536 in
theorem w_c3 : (Jvm.Cond.code ({ cls := "com/example/embercast/embercast/sim/DiskSeekMsPinLaw", name := "near", desc := "(DD)Z" } : Jvm.MethodName) method_3_code (4 : Nat) (Option.some Jvm.ClassFile.FieldType.boolean)).before args0 about1 = true := code_word (m := ⟨1, 2⟩) (meth := k1m2) (c := k1c2) (by decide +kernel) rfl rfl rfl (by decide +kernel)
def codes1 : List Jvm.Cond := [Jvm.Cond.code x code maxLocals ret, Jvm.Cond.code ({ cls := "com/example/embercast/embercast/sim/Disk", name := "seekMs", desc := "(I)D" } : Jvm.MethodName) prog_85_method_4_code (1 : Nat) (Option.some Jvm.ClassFile.FieldType.double), Jvm.Cond.code ({ cls := "com/example/embercast/embercast/sim/DiskSeekMsPinLaw", name := "ref", desc := "(I)D" } : Jvm.MethodName) method_2_code (3 : Nat) (Option.some Jvm.ClassFile.FieldType.double), Jvm.Cond.code ({ cls := "com/example/embercast/embercast/sim/DiskSeekMsPinLaw", name := "near", desc := "(DD)Z" } : Jvm.MethodName) method_3_code (4 : Nat) (Option.some Jvm.ClassFile.FieldType.boolean)]
set_option maxRecDepth 65536 in
theorem codes_eq : words1.filter isCode = codes1 := rfl
theorem w_codes : ∀ c ∈ words1.filter isCode, c.before args0 about1 = true := by
  rw [codes_eq]
  intro c hc
  simp only [codes1, List.mem_cons, List.not_mem_nil, or_false] at hc
  rcases hc with rfl | rfl | rfl | rfl
  · exact w_c0
  · exact w_c1
  · exact w_c2
  · exact w_c3
set_option maxRecDepth 65536 in
theorem w_t1 : words1.all (fun c => isCode c || c.before args0 about1) = true := by decide +kernel
theorem w_tables : (allAtoms (Jvm.Cond.code x code maxLocals ret :: tables_1)).before args0 about1 = true := by
  rw [allAtoms_all]
  show words1.all (fun c => c.before args0 about1) = true
  refine all_split ?_ w_codes
  rw [w_t1]
set_option maxRecDepth 65536 in
theorem w_case : (Jvm.Cond.and given_1 narrow_1).before args0 about1 = true := by decide +kernel
theorem w_applies : (headSpec (Jvm.Cond.code x code maxLocals ret :: tables_1) room_1).applies x e0.platform about1 = true :=
  (Spec.applies_iff w_frames).mpr ⟨w_running, w_runnable, w_alone, w_named, w_hears, w_ripe, w_room, w_tables⟩
theorem atStart : AtStart classFile x code maxLocals ret World_1 tables_1 room_1 Calls_1 rest_1 Pre_1 launch0 p0 e0 about1 theMethod args0 below0 :=
  ⟨lists_1, trivial, launch0.admits_env _ _ _, launch0.least_env, fairChoices_fair.cas, fairChoices_fair.clock, w_frames, w_args, w_heap, w_applies, trivial, trivial, w_case⟩
end start1
theorem witness_1 : WitnessClaimed_1 := ⟨start1.p0, start1.e0, start1.about1, start1.theMethod, start1.args0, start1.below0, start1.atStart⟩
end Jvm.Pilot.@@N@@
