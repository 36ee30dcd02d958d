import JvmDerived
import JvmDerived.Pilot.@@N@@Statement
import JvmDerived.Pilot.@@N@@Code
set_option linter.unusedVariables false
set_option linter.unusedSimpArgs false
namespace Jvm.RoadKit
open Sem ClassFile Op Lib Jvm.Stand Jvm.Free Jvm.LawKit
section Own
variable {p : Program} {l : Launch} {e : Env} {R : Room} {s : State} {m : MethodId} {args : Array Value} {below : List Frame} {meth : Method} {c : Code} {T : State} {locs : List Loc} {cells slots : Nat}
theorem retI (X : Stand p l e R s m args below meth c T locs cells slots) (hx : p.tables.exec = Jvm.exec) {pc : Nat} {Ls : Array Slot} {z : Int32} {rest : List Value} (hret : meth.sig.returnType = some .int) (hd : decode c.code pc = .ok (.ireturn, 1)) {fs : List Frame}
    (hl : ∀ (f : JFrame) (acts : List Action), f.method = m → f.locked = none → f.entered = [] → (doReturn e (T.setTop f) acts (some (.int z))).1 = T.setFrames fs) : Steps p.tables e below (T.setTop (mkF m pc Ls (.int z :: rest))) (T.setFrames fs) := by
  have hm' : T.vm.method? m = some meth := X.method'
  have hn : narrow .int (.int z) = .int z := rfl
  show Steps p.tables e below (T.setTop { method := m, pc := pc, locals := Ls, stack := _ :: rest, locked := none }) _
  jvm_step X.here [X.here.top, hx, hd, hm', hret, hn]
  first | (intro acts; rw [hl _ acts rfl rfl rfl]) | rw [hl _ _ rfl rfl rfl]
  exact Steps.refl _
/-- the walk comes to an end, with what Φ says there -/
def Goes (p : Program) (e : Env) (below : List Frame) (Φ : State → Outcome → Prop) (S : State) : Prop := ∃ s₂ o, Steps p.tables e below S s₂ ∧ s₂.status = .running ∧ Ended s₂ below o ∧ Φ s₂ o
theorem Goes.via {Φ : State → Outcome → Prop} {S S' : State} (k : ∀ t, Steps p.tables e below S' t → Steps p.tables e below S t) (h : Goes p e below Φ S') : Goes p e below Φ S := by
  obtain ⟨s₂, o, h1, h2, h3, h4⟩ := h
  exact ⟨s₂, o, k _ h1, h2, h3, h4⟩
/-- what a contract's end says -/
def Fin (s : State) (Q : Option Value → Heap → List Loc → Prop) (C S : Nat) : State → Outcome → Prop := fun s₂ o => ∃ v L, o = .returned v ∧ Q v s₂.heap L ∧ FrameEnd s o s₂ L C S
theorem Goes.retN (X : Stand p l e R s m args below meth c T locs cells slots) (hx : p.tables.exec = Jvm.exec) (hlocks : meth.locks = false) {pc : Nat} {Ls : Array Slot} {z : Int32} {t : FieldType} {rest : List Value} (hret : meth.sig.returnType = some t) (ht : t = .boolean ∨ t = .byte ∨ t = .char ∨ t = .short)
    (hd : decode c.code pc = .ok (.ireturn, 1)) {Q : Option Value → Heap → List Loc → Prop} {C S : Nat} (hc : cells ≤ C) (hs : slots ≤ S) (hQ : Q (some (.int (nar t z))) T.heap locs) : Goes p e below (Fin s Q C S) (T.setTop (mkF m pc Ls (.int z :: rest))) := by
  obtain ⟨fs, hr, hrun, hended, hW, hsame⟩ := X.leave (v := some (.int (nar t z))) (fun h => by rw [hret] at h; cases h) hlocks
  exact ⟨_, _, Jvm.RoadKit.retN X hx hret ht hd hr, hrun, hended, _, _, rfl, hQ, ⟨_, rfl⟩, hW, hsame.mono hc hs⟩
theorem Goes.retI (X : Stand p l e R s m args below meth c T locs cells slots) (hx : p.tables.exec = Jvm.exec) (hlocks : meth.locks = false) {pc : Nat} {Ls : Array Slot} {z : Int32} {rest : List Value} (hret : meth.sig.returnType = some .int)
    (hd : decode c.code pc = .ok (.ireturn, 1)) {Q : Option Value → Heap → List Loc → Prop} {C S : Nat} (hc : cells ≤ C) (hs : slots ≤ S) (hQ : Q (some (.int z)) T.heap locs) : Goes p e below (Fin s Q C S) (T.setTop (mkF m pc Ls (.int z :: rest))) := by
  obtain ⟨fs, hr, hrun, hended, hW, hsame⟩ := X.leave (v := some (.int z)) (fun h => by rw [hret] at h; cases h) hlocks
  exact ⟨_, _, Jvm.RoadKit.retI X hx hret hd hr, hrun, hended, _, _, rfl, hQ, ⟨_, rfl⟩, hW, hsame.mono hc hs⟩
theorem Goes.retO (X : Stand p l e R s m args below meth c T locs cells slots) (hx : p.tables.exec = Jvm.exec) (hlocks : meth.locks = false) {pc : Nat} {Ls : Array Slot} {w : Value} {t : FieldType} {i : Instr} {rest : List Value} (hret : meth.sig.returnType = some t) (hn : narrow t w = w)
    (hi : (i = .ireturn ∧ (t = .int ∨ t = .boolean ∨ t = .byte ∨ t = .char ∨ t = .short) ∧ ∃ z, w = .int z) ∨ (i = .lreturn ∧ t = .long ∧ ∃ z, w = .long z) ∨ (i = .dreturn ∧ t = .double ∧ ∃ z, w = .double z) ∨ (i = .freturn ∧ t = .float ∧ ∃ z, w = .float z) ∨ (i = .areturn ∧ t.isReference = true ∧ w.isRef = true))
    (hd : decode c.code pc = .ok (i, 1)) {Q : Option Value → Heap → List Loc → Prop} {C S : Nat} (hc : cells ≤ C) (hs : slots ≤ S) (hQ : Q (some w) T.heap locs) : Goes p e below (Fin s Q C S) (T.setTop (mkF m pc Ls (w :: rest))) := by
  obtain ⟨fs, hr, hrun, hended, hW, hsame⟩ := X.leave (v := some w) (fun h => by rw [hret] at h; cases h) hlocks
  exact ⟨_, _, Jvm.RoadKit.retOut X hx hret hn hi hd hr, hrun, hended, _, _, rfl, hQ, ⟨_, rfl⟩, hW, hsame.mono hc hs⟩
theorem Goes.retV (X : Stand p l e R s m args below meth c T locs cells slots) (hx : p.tables.exec = Jvm.exec) (hlocks : meth.locks = false) {pc : Nat} {Ls : Array Slot} (hret : meth.sig.returnType = none)
    (hd : decode c.code pc = .ok (.return_, 1)) {Q : Option Value → Heap → List Loc → Prop} {C S : Nat} (hc : cells ≤ C) (hs : slots ≤ S) (hQ : Q none T.heap locs) : Goes p e below (Fin s Q C S) (T.setTop (mkF m pc Ls [])) := by
  obtain ⟨fs, hr, hrun, hended, hW, hsame⟩ := X.leave (v := none) (fun _ => rfl) hlocks
  exact ⟨_, _, X.returnOut hx hret hd hr, hrun, hended, _, _, rfl, hQ, ⟨_, rfl⟩, hW, hsame.mono hc hs⟩
/-- room counted generously -/
theorem moreRoom (X : Stand p l e R s m args below meth c T locs cells slots) {k n : Nat} (h1 : cells ≤ k) (h2 : slots ≤ n) : Stand p l e R s m args below meth c T locs k n := { X with same := X.same.mono h1 h2 }
theorem exa_static {args : Array Value} {s : State} {C n d K : String} (h : (Jvm.Cond.exactly (Jvm.Term.static C n d) K).value args s none s [] = some true) : ∃ b, (Jvm.Term.static C n d).eval args s none [] s = some (.ref b) ∧ Exa s s.heap b K := by
  obtain ⟨b, e1⟩ := exa_v h
  exact ⟨b, e1, Exa.start e1 h⟩
theorem fld_static {args : Array Value} {s : State} {t : Jvm.Term} {b : Addr} {C n d : String} {k : Int32} (ev : t.eval args s none [] s = some (.ref b)) (h : (Jvm.Cond.eq (Jvm.Term.field t C n d) (Jvm.Term.int k)).value args s none s [] = some true) : Fld s s.heap b C n d (.int k) := by
  exact Fld.start ((fld_at ev).symm.trans (eqv_i (Term.int_eval k) h))
theorem adr_ne {a b k k' : Nat} (h : a < k) (g : b = k') (q : k ≤ k') : a ≠ b := by omega
theorem cat_ref {v : Value} (h : v.isRef = true) : v.category = 1 := by rcases ref_cases h with rfl | ⟨_, rfl⟩ <;> rfl
theorem narrow_ref {v : Value} {t : FieldType} (h : v.isRef = true) : narrow t v = v := by rcases ref_cases h with rfl | ⟨_, rfl⟩ <;> cases t <;> rfl
theorem fits_refO {v : Value} {C : String} (h : v.isRef = true) : fits (.object C) v = true := by rcases ref_cases h with rfl | ⟨_, rfl⟩ <;> rfl
theorem fld_null {args : Array Value} {s : State} {t : Jvm.Term} {b : Addr} {C n d : String} (ev : t.eval args s none [] s = some (.ref b)) (h : (Jvm.Cond.eq (Jvm.Term.field t C n d) Jvm.Term.null).value args s none s [] = some true) : Fld s s.heap b C n d .null := Fld.start ((fld_at ev).symm.trans (null_v h))
theorem ret1 {z : Int32} (h : z = 1) : some (Value.int (nar .boolean z)) = some (.int 1) := by subst h; rfl
end Own
end Jvm.RoadKit
namespace Jvm.Pilot.@@N@@
open Jvm Jvm.ClassFile Sem Op Lib Jvm.Free Jvm.Stand Jvm.LawKit Jvm.RoadKit Bundle Jvm.Pilot.@@N@@.Jvm.D
theorem pd_0 : parseMethodDescriptor "(IIII)I" = some ⟨[.int, .int, .int, .int], some .int⟩ := by decide +kernel
theorem pd_1 : parseMethodDescriptor "()Z" = some ⟨[], some .boolean⟩ := by decide +kernel
theorem pd_2 : parseMethodDescriptor "(Lcom/example/upkeep_window/upkeepwindow/policy/InstallOption;)I" = some ⟨[(.object "com/example/upkeep_window/upkeepwindow/policy/InstallOption")], some .int⟩ := by decide +kernel
theorem pd_3 : parseMethodDescriptor "(IIIII)I" = some ⟨[.int, .int, .int, .int, .int], some .int⟩ := by decide +kernel
theorem pd_4 : parseMethodDescriptor "(I)Lcom/example/upkeep_window/upkeepwindow/policy/InstallOption;" = some ⟨[.int], some (.object "com/example/upkeep_window/upkeepwindow/policy/InstallOption")⟩ := by decide +kernel
theorem pd_5 : parseMethodDescriptor "()Ljava/util/Optional;" = some ⟨[], some (.object "java/util/Optional")⟩ := by decide +kernel
theorem pd_6 : parseMethodDescriptor "(ILcom/example/upkeep_window/upkeepwindow/policy/InstallOption;Ljava/util/Optional;)V" = some ⟨[.int, (.object "com/example/upkeep_window/upkeepwindow/policy/InstallOption"), (.object "java/util/Optional")], none⟩ := by decide +kernel
theorem pd_7 : parseMethodDescriptor "(I)V" = some ⟨[.int], none⟩ := by decide +kernel
/-- the answers' object as it stands: its two arrays, the options' places -/
def own_KA (Z : State) (n0 : Nat) (h : Heap) (a ob ub : Addr) (k1 k2 : ClassId) (z : Int32) (vs : List Value) : Prop :=
  Exa Z h a "com/example/upkeep_window/upkeepwindow/bench/KeptAnswers" ∧ Fld Z h a "com/example/upkeep_window/upkeepwindow/bench/KeptAnswers" "options" "[Lcom/example/upkeep_window/upkeepwindow/policy/InstallOption;" (.ref ob) ∧ Fld Z h a "com/example/upkeep_window/upkeepwindow/bench/KeptAnswers" "untils" "[J" (.ref ub) ∧ Arv Z h ob k1 (.object "com/example/upkeep_window/upkeepwindow/policy/InstallOption") z vs .null ∧ Ovr Z k1 "com/example/upkeep_window/upkeepwindow/policy/InstallOption" ∧ (∃ us : List Value, us.length = 3 ∧ Arv Z h ub k2 .long z us (.long 0)) ∧ n0 ≤ a ∧ n0 ≤ ob ∧ n0 ≤ ub ∧ ob ≠ ub ∧ a ≠ ob ∧ a ≠ ub
def own_pk (bI bP bS : Addr) (c : Int32) : Value := if c = 1 then .ref bI else if c = 2 then .ref bP else if c = 3 then .ref bS else .null
def own_c (v o : Value) (acc : Int32) : Int32 := if v = o then acc + 1 else acc
def own_cnt (z : Int32) (v0 v1 v2 o : Value) : Int32 := if z = 0 then 0 else if z = 1 then own_c v0 o 0 else if z = 2 then own_c v1 o (own_c v0 o 0) else own_c v2 o (own_c v1 o (own_c v0 o 0))
def own_hit (i z s k : Int32) : Int32 := if i < z then (if s = k then 1 else 0) else 0
def own_4 (z : Int32) : Prop := z = 0 ∨ z = 1 ∨ z = 2 ∨ z = 3
theorem own_and3 (x : Int32) : own_4 (x &&& (3 : Int32)) := by
  have h1 := c_and x 3 (by decide)
  have h3 : (x &&& (3 : Int32)).toInt = 0 ∨ (x &&& (3 : Int32)).toInt = 1 ∨ (x &&& (3 : Int32)).toInt = 2 ∨ (x &&& (3 : Int32)).toInt = 3 := by
    have : (3 : Int32).toInt = 3 := by decide
    omega
  rcases h3 with h | h | h | h
  · exact Or.inl (Int32.toInt_inj.mp h)
  · exact Or.inr (Or.inl (Int32.toInt_inj.mp h))
  · exact Or.inr (Or.inr (Or.inl (Int32.toInt_inj.mp h)))
  · exact Or.inr (Or.inr (Or.inr (Int32.toInt_inj.mp h)))
theorem own_pk_ref (bI bP bS : Addr) (c : Int32) : (own_pk bI bP bS c).isRef = true := by unfold own_pk; split <;> (try split) <;> (try split) <;> rfl
theorem own_pk_sto {Z : State} {h : Heap} {bI bP bS : Addr} {C : String} (c : Int32) (h1 : Exa Z h bI C) (h2 : Exa Z h bP C) (h3 : Exa Z h bS C) : own_pk bI bP bS c = .null ∨ ∃ y, own_pk bI bP bS c = .ref y ∧ Exa Z h y C := by
  unfold own_pk
  split
  · exact Or.inr ⟨_, rfl, h1⟩
  split
  · exact Or.inr ⟨_, rfl, h2⟩
  split
  · exact Or.inr ⟨_, rfl, h3⟩
  exact Or.inl rfl
theorem own_pk_inj {bI bP bS : Addr} (h1 : bI ≠ bP) (h2 : bI ≠ bS) (h3 : bP ≠ bS) {c k : Int32} (hc : own_4 c) (hk : own_4 k) : own_pk bI bP bS c = own_pk bI bP bS k ↔ c = k := by
  rcases hc with rfl | rfl | rfl | rfl <;> rcases hk with rfl | rfl | rfl | rfl <;> simp [own_pk, h1, h2, h3, Ne.symm h1, Ne.symm h2, Ne.symm h3]
theorem own_s {over j cj c z i s : Int32} (ho : over = (if j < z then (if cj = 0 then 0 else 1) else 0)) (hs : s = (if over = 0 then c else if j = i then cj else c)) : s = (if j < z ∧ cj ≠ 0 ∧ j = i then cj else c) := by
  subst ho hs
  by_cases h3 : j = i
  · subst h3
    by_cases h1 : j < z <;> by_cases h2 : cj = 0 <;> simp [h1, h2]
  · by_cases h1 : j < z <;> by_cases h2 : cj = 0 <;> simp [h1, h2, h3]
theorem own_4ite {P : Prop} [Decidable P] {a b : Int32} (ha : own_4 a) (hb : own_4 b) : own_4 (if P then a else b) := by split <;> assumption
theorem own_one {bI bP bS : Addr} (h1 : bI ≠ bP) (h2 : bI ≠ bS) (h3 : bP ≠ bS) {i z s k : Int32} {v : Value} (hs : own_4 s) (hk : own_4 k) (hv : i < z → v = own_pk bI bP bS s) : i < z → ∀ acc, own_c v (own_pk bI bP bS k) acc = acc + own_hit i z s k := by
  intro q acc
  rw [hv q]
  unfold own_c own_hit
  rw [if_pos q]
  by_cases e : s = k
  · rw [if_pos e, if_pos (by rw [e])]
  · rw [if_neg e, if_neg (fun y => e ((own_pk_inj h1 h2 h3 hs hk).mp y))]; simp
theorem own_fin {bI bP bS : Addr} (h1 : bI ≠ bP) (h2 : bI ≠ bS) (h3 : bP ≠ bS) {z s0 s1 s2 k : Int32} {v0 v1 v2 o : Value} (ho : o = own_pk bI bP bS k) (hz : own_4 z) (q0 : own_4 s0) (q1 : own_4 s1) (q2 : own_4 s2) (hk : own_4 k) (e0 : 0 < z → v0 = own_pk bI bP bS s0) (e1 : 1 < z → v1 = own_pk bI bP bS s1) (e2 : 2 < z → v2 = own_pk bI bP bS s2) :
    own_cnt z v0 v1 v2 o = own_hit 0 z s0 k + own_hit 1 z s1 k + own_hit 2 z s2 k := by
  subst ho
  have f0 := own_one h1 h2 h3 q0 hk e0
  have f1 := own_one h1 h2 h3 q1 hk e1
  have f2 := own_one h1 h2 h3 q2 hk e2
  rcases hz with rfl | rfl | rfl | rfl
  · have a0 : own_hit 0 0 s0 k = 0 := if_neg (by decide)
    have a1 : own_hit 1 0 s1 k = 0 := if_neg (by decide)
    have a2 : own_hit 2 0 s2 k = 0 := if_neg (by decide)
    rw [a0, a1, a2]; rfl
  · have a1 : own_hit 1 1 s1 k = 0 := if_neg (by decide)
    have a2 : own_hit 2 1 s2 k = 0 := if_neg (by decide)
    rw [a1, a2, show own_cnt 1 v0 v1 v2 (own_pk bI bP bS k) = own_c v0 (own_pk bI bP bS k) 0 from rfl, f0 (by decide)]; simp
  · have a2 : own_hit 2 2 s2 k = 0 := if_neg (by decide)
    rw [a2, show own_cnt 2 v0 v1 v2 (own_pk bI bP bS k) = own_c v1 (own_pk bI bP bS k) (own_c v0 (own_pk bI bP bS k) 0) from rfl, f0 (by decide), f1 (by decide)]; simp
  · rw [show own_cnt 3 v0 v1 v2 (own_pk bI bP bS k) = own_c v2 (own_pk bI bP bS k) (own_c v1 (own_pk bI bP bS k) (own_c v0 (own_pk bI bP bS k) 0)) from rfl, f0 (by decide), f1 (by decide), f2 (by decide)]; simp
theorem own_lt {z : Int32} (hz : own_4 z) : ¬ z < 0 ∧ z.toNatClampNeg ≤ 3 := by rcases hz with rfl | rfl | rfl | rfl <;> decide
theorem own_j3 {j z : Int32} (hj : own_4 j) (hz : own_4 z) (h : j < z) : j = 0 ∨ j = 1 ∨ j = 2 := by
  rcases hj with rfl | rfl | rfl | rfl
  · exact Or.inl rfl
  · exact Or.inr (Or.inl rfl)
  · exact Or.inr (Or.inr rfl)
  · exfalso; revert h; rcases hz with rfl | rfl | rfl | rfl <;> decide
theorem d1_0 : decode prog_3_method_1_code 0 = .ok (.aload_n 0, 1) := by decide +kernel
theorem d1_1 : decode prog_3_method_1_code 1 = .ok (.invokespecial 3, 3) := by decide +kernel
theorem d1_4 : decode prog_3_method_1_code 4 = .ok (.aload_n 0, 1) := by decide +kernel
theorem d1_5 : decode prog_3_method_1_code 5 = .ok (.iload_n 1, 1) := by decide +kernel
theorem d1_6 : decode prog_3_method_1_code 6 = .ok (.anewarray 9, 3) := by decide +kernel
theorem d1_9 : decode prog_3_method_1_code 9 = .ok (.putfield 11, 3) := by decide +kernel
theorem d1_12 : decode prog_3_method_1_code 12 = .ok (.aload_n 0, 1) := by decide +kernel
theorem d1_13 : decode prog_3_method_1_code 13 = .ok (.iload_n 1, 1) := by decide +kernel
theorem d1_14 : decode prog_3_method_1_code 14 = .ok (.newarray .long, 2) := by decide +kernel
theorem d1_16 : decode prog_3_method_1_code 16 = .ok (.putfield 17, 3) := by decide +kernel
theorem d1_19 : decode prog_3_method_1_code 19 = .ok (.return_, 1) := by decide +kernel
theorem pn_1 : plainName "com/example/upkeep_window/upkeepwindow/bench/KeptAnswers" = true := by first | (simp [plainName, overriddenIn]; done) | decide +kernel
theorem ef_1 (m : MethodId) (x0 : Addr) (x1 : Int32) : entryFrame m #[(.ref x0), (.int x1)] 2 = mkF m 0 #[.val (.ref x0), .val (.int x1)] [] := by first | (simp [entryFrame, mkF, argsToLocals, Value.category]; done) | rfl
def Q_rm1 (Z : State) (a1 : Addr) (z : Int32)  (h0 : Heap) (n0 : Nat) : Option Value → Heap → List Loc → Prop := fun v h L => v = none ∧ Fr n0 L ∧ Keep h0 h [a1] ∧ ∃ ob ub k1 k2, own_KA Z n0 h a1 ob ub k1 k2 z [.null, .null, .null]
set_option maxRecDepth 65536 in
set_option maxHeartbeats 40000000 in
theorem rm1 (l : Launch) (Z : State) (a0 : Array Value) (hw : ∀ d ∈ tables_1, d.before a0 Z = true) (ws : List Jvm.Cond) (a1 : Addr) (z : Int32)  (h0 : Heap) (n0 : Nat) (Z0 : n0 ≤ h0.size) (F1 : Fld Z h0 a1 "com/example/upkeep_window/upkeepwindow/bench/KeptAnswers" "options" "[Lcom/example/upkeep_window/upkeepwindow/policy/InstallOption;" .null) (F2 : Fld Z h0 a1 "com/example/upkeep_window/upkeepwindow/bench/KeptAnswers" "untils" "[J" .null) (E1 : Exa Z h0 a1 "com/example/upkeep_window/upkeepwindow/bench/KeptAnswers") (g1 : n0 ≤ a1) (hz0 : ¬ z < 0) (hz3 : z.toNatClampNeg ≤ 3) :
    MetFree l (⟨"com/example/upkeep_window/upkeepwindow/bench/KeptAnswers", "<init>", "(I)V"⟩ : MethodName) (head1 (Jvm.Cond.code (⟨"com/example/upkeep_window/upkeepwindow/bench/KeptAnswers", "<init>", "(I)V"⟩ : MethodName) prog_3_method_1_code 2 none :: ws) ({ frames := 1, cells := 2, slots := 6, locals := 12 } : Room)) (fun a U => a = #[(.ref a1), (.int z)] ∧ Z.Warmed39 U.vm ∧ U.heap = h0) (fun _ _ _ _ _ => True) (fun _ U oo U' => ∃ vv LL, oo = .returned vv ∧ (Q_rm1 Z a1 z h0 n0) vv U'.heap LL ∧ FrameEnd U oo U' LL ({ frames := 1, cells := 2, slots := 6, locals := 12 } : Room).cells ({ frames := 1, cells := 2, slots := 6, locals := 12 } : Room).slots) := by
  refine MetFree.of_bodySF (plainFor_of_name pn_1) hisR ?_
  intro p e s m args below meth c s₁ Bd hml0 hP hK
  obtain ⟨rfl, hZ, hh⟩ := hP
  have hx := Bd.exec
  have hby := Bd.bytes
  have hml : c.maxLocals = 2 := hml0
  have hown : s.vm.findClass "com/example/upkeep_window/upkeepwindow/bench/KeptAnswers" = some m.cls := findClass_of_methodNamed Bd.named
  have hnm := (name_of_methodNamed Bd.named Bd.method).1
  have X0 : Stand p l e ({ frames := 1, cells := 2, slots := 6, locals := 12 } : Room) s m #[(.ref a1), (.int z)] below meth c s₁ [] 0 0 := Stand.of_body Bd
  have e0 : s₁.heap = h0 := by rw [← hh, Bd.state]; rfl
  have N0 := Fr.nil n0
  show Goes p e below (Fin s (Q_rm1 Z a1 z h0 n0) ({ frames := 1, cells := 2, slots := 6, locals := 12 } : Room).cells ({ frames := 1, cells := 2, slots := 6, locals := 12 } : Room).slots) _
  refine Goes.via (S' := s₁.setTop (mkF m 0 #[.val (.ref a1), .val (.int z)] [])) (fun tz kz => castTop (ef_1 m a1 z ) kz) ?_
  refine Goes.via (S' := s₁.setTop (mkF m 1 #[.val (.ref a1), .val (.int z)] [(.ref a1)])) (fun tz kz => ?_) ?_
  · show Steps p.tables e below (s₁.setTop (mkF m 0 #[.val (.ref a1), .val (.int z)] [])) _
    refine XS.aloadN X0.here hx rfl (hb hby d1_0) rfl rfl ?_
    exact kz
  obtain ⟨T1, X1, e1, st1⟩ := initO X0 hx hZ hown (hw _ (List.mem_of_getElem? (i := 6) rfl)) (hw _ (List.mem_of_getElem? (i := 7) rfl)) (hw _ (List.mem_of_getElem? (i := 8) rfl)) e0 (g := (mkF m 1 #[.val (.ref a1), .val (.int z)] [(.ref a1)])) rfl (by rw [hml]; rfl) rfl (hb hby d1_1) (by decide) (W := 0) (by show 2 * 0 + _ ≤ _; exact Nat.le_of_eq rfl) (by decide)
  refine Goes.via (S' := T1.setTop (mkF m 4 #[.val (.ref a1), .val (.int z)] [])) st1 ?_
  refine Goes.via (S' := T1.setTop (mkF m 6 #[.val (.ref a1), .val (.int z)] [(.int z), (.ref a1)])) (fun tz kz => ?_) ?_
  · show Steps p.tables e below (T1.setTop (mkF m 4 #[.val (.ref a1), .val (.int z)] [])) _
    refine XS.aloadN X1.here hx rfl (hb hby d1_4) rfl rfl ?_
    show Steps p.tables e below (T1.setTop (mkF m 5 #[.val (.ref a1), .val (.int z)] [(.ref a1)])) _
    refine XS.iloadN X1.here hx rfl (hb hby d1_5) rfl ?_
    exact kz
  obtain ⟨T2, h2, k2, X2, e2, E2, A2, O2, st2⟩ := newR X1 hx hZ hown (hw _ (List.mem_of_getElem? (i := 9) rfl)) (hw _ (List.mem_of_getElem? (i := 10) rfl)) e1 (g := (mkF m 6 #[.val (.ref a1), .val (.int z)] [(.int z), (.ref a1)])) rfl (hb hby d1_6) rfl hz0 (cap := 3) hz3 (by decide) (by decide) (by decide)
  obtain ⟨b2, g2⟩ : ∃ z, z = h0.size := ⟨_, rfl⟩
  rw [← g2] at A2 st2
  refine Goes.via (S' := T2.setTop (mkF m 9 #[.val (.ref a1), .val (.int z)] [(.ref b2), (.ref a1)])) st2 ?_
  obtain ⟨T3, h3, X3, e3, W3, st3⟩ := putF X2 hx hZ hown (host := "") (Or.inl (hw _ (List.mem_of_getElem? (i := 11) rfl))) Via.refl e2 (F1.ext E2) (E1.ext E2) (Or.inr ⟨(hw _ (List.mem_of_getElem? (i := 12) rfl)), rfl, hnm⟩) (hw _ (List.mem_of_getElem? (i := 1) rfl)) (ty := (.array (.object "com/example/upkeep_window/upkeepwindow/policy/InstallOption"))) (by decide) rfl rfl (g := (mkF m 9 #[.val (.ref a1), .val (.int z)] [(.ref b2), (.ref a1)])) rfl rfl (hb hby d1_9)
  refine Goes.via (S' := T3.setTop (mkF m 12 #[.val (.ref a1), .val (.int z)] [])) st3 ?_
  have N3 := Fr.snoc X3 N0 g1
  refine Goes.via (S' := T3.setTop (mkF m 14 #[.val (.ref a1), .val (.int z)] [(.int z), (.ref a1)])) (fun tz kz => ?_) ?_
  · show Steps p.tables e below (T3.setTop (mkF m 12 #[.val (.ref a1), .val (.int z)] [])) _
    refine XS.aloadN X3.here hx rfl (hb hby d1_12) rfl rfl ?_
    show Steps p.tables e below (T3.setTop (mkF m 13 #[.val (.ref a1), .val (.int z)] [(.ref a1)])) _
    refine XS.iloadN X3.here hx rfl (hb hby d1_13) rfl ?_
    exact kz
  obtain ⟨T4, h4, k4, X4, e4, E4, A4, st4⟩ := newP X3 hx hZ (hw _ (List.mem_of_getElem? (i := 13) rfl)) e3 (g := (mkF m 14 #[.val (.ref a1), .val (.int z)] [(.int z), (.ref a1)])) rfl (hb hby d1_14) rfl hz0 (cap := 3) hz3 (by decide) (by decide) (by decide)
  obtain ⟨b4, g4⟩ : ∃ z, z = h3.size := ⟨_, rfl⟩
  rw [← g4] at A4 st4
  refine Goes.via (S' := T4.setTop (mkF m 16 #[.val (.ref a1), .val (.int z)] [(.ref b4), (.ref a1)])) st4 ?_
  have Fu := (((F2.ext E2).other W3 (Or.inr (slot_ne (Or.inr (hw _ (List.mem_of_getElem? (i := 15) rfl))) (Or.inr (hw _ (List.mem_of_getElem? (i := 12) rfl))) (by decide) (t := (.array .long)) (t' := (.array (.object "com/example/upkeep_window/upkeepwindow/policy/InstallOption"))) (by decide) (by decide)))).ext E4)
  have Ex := (((E1.ext E2).wr W3).ext E4)
  obtain ⟨T5, h5, X5, e5, W5, st5⟩ := putF X4 hx hZ hown (host := "") (Or.inl (hw _ (List.mem_of_getElem? (i := 14) rfl))) Via.refl e4 Fu Ex (Or.inr ⟨(hw _ (List.mem_of_getElem? (i := 15) rfl)), rfl, hnm⟩) (hw _ (List.mem_of_getElem? (i := 1) rfl)) (ty := (.array .long)) (by decide) rfl rfl (g := (mkF m 16 #[.val (.ref a1), .val (.int z)] [(.ref b4), (.ref a1)])) rfl rfl (hb hby d1_16)
  refine Goes.via (S' := T5.setTop (mkF m 19 #[.val (.ref a1), .val (.int z)] [])) st5 ?_
  have N5 := Fr.snoc X5 N3 g1
  have na : a1 ≠ b2 := adr_ne E1.lt g2 (Nat.le_refl _)
  have sz := Nat.le_trans E2.1 (Nat.le_of_eq W3.size.symm)
  have nb : a1 ≠ b4 := adr_ne E1.lt g4 sz
  have nab : b2 ≠ b4 := adr_ne A2.lt g4 (Nat.le_of_eq W3.size.symm)
  have ga : n0 ≤ b2 := Nat.le_trans Z0 (Nat.le_of_eq g2.symm)
  have gu : n0 ≤ b4 := Nat.le_trans (Nat.le_trans Z0 sz) (Nat.le_of_eq g4.symm)
  have Ao := ((((Arv.new A2 hz0).pad (pad_rep [] .null 3)).other W3 (Ne.symm na)).ext E4).other W5 (Ne.symm na)
  have Au := ((Arv.new A4 hz0).pad (pad_rep [] (.long 0) 3)).other W5 (Ne.symm nb)
  have Fo := (((F1.ext E2).same W3).ext E4).other W5 (Or.inr (slot_ne (Or.inr (hw _ (List.mem_of_getElem? (i := 12) rfl))) (Or.inr (hw _ (List.mem_of_getElem? (i := 15) rfl))) (by decide) (t := (.array (.object "com/example/upkeep_window/upkeepwindow/policy/InstallOption"))) (t' := (.array .long)) (by decide) (by decide)))
  have Kp : Keep h0 h5 [a1] := ((((Keep.refl h0 [a1]).ext E2).wr W3 (Or.inl (List.mem_singleton.mpr rfl))).ext E4).wr W5 (Or.inl (List.mem_singleton.mpr rfl))
  exact Goes.retV X5 hx Bd.notSynchronized Bd.returns (hb hby d1_19) (Nat.le_of_ble_eq_true rfl) (Nat.le_of_ble_eq_true rfl) (by rw [e5]; exact ⟨rfl, N5, Kp, b2, b4, _, _, Ex.wr W5, Fo, Fu.same W5, Ao, O2, ⟨_, rfl, Au⟩, g1, ga, gu, nab, na, nb⟩)
theorem d5_0 : decode method_3_code 0 = .ok (.iload_n 0, 1) := by decide +kernel
theorem d5_1 : decode method_3_code 1 = .ok (.iload_n 1, 1) := by decide +kernel
theorem d5_2 : decode method_3_code 2 = .ok (.if_icmp .ge 12, 3) := by decide +kernel
theorem d5_5 : decode method_3_code 5 = .ok (.iload_n 2, 1) := by decide +kernel
theorem d5_6 : decode method_3_code 6 = .ok (.iload_n 3, 1) := by decide +kernel
theorem d5_7 : decode method_3_code 7 = .ok (.if_icmp .ne 7, 3) := by decide +kernel
theorem d5_10 : decode method_3_code 10 = .ok (.iconst 1, 1) := by decide +kernel
theorem d5_11 : decode method_3_code 11 = .ok (.goto 4, 3) := by decide +kernel
theorem d5_14 : decode method_3_code 14 = .ok (.iconst 0, 1) := by decide +kernel
theorem d5_15 : decode method_3_code 15 = .ok (.ireturn, 1) := by decide +kernel
theorem pn_5 : plainName "com/example/upkeep_window/upkeepwindow/bench/KeptAnswersCountPinLaw" = true := by first | (simp [plainName, overriddenIn]; done) | decide +kernel
theorem ef_5 (m : MethodId) (x0 : Int32) (x1 : Int32) (x2 : Int32) (x3 : Int32) : entryFrame m #[(.int x0), (.int x1), (.int x2), (.int x3)] 4 = mkF m 0 #[.val (.int x0), .val (.int x1), .val (.int x2), .val (.int x3)] [] := by first | (simp [entryFrame, mkF, argsToLocals, Value.category]; done) | rfl
def Q_rm5 (Z : State) (p1 : Int32) (p2 : Int32) (p3 : Int32) (p4 : Int32)  (h0 : Heap) (n0 : Nat) : Option Value → Heap → List Loc → Prop := fun v h L => v = some (.int (own_hit p1 p2 p3 p4)) ∧ Fr n0 L ∧ h = h0
set_option maxRecDepth 65536 in
set_option maxHeartbeats 40000000 in
theorem rm5 (l : Launch) (Z : State) (a0 : Array Value) (hw : ∀ d ∈ tables_1, d.before a0 Z = true) (ws : List Jvm.Cond) (p1 : Int32) (p2 : Int32) (p3 : Int32) (p4 : Int32)  (h0 : Heap) (n0 : Nat) (Z0 : n0 ≤ h0.size) :
    MetFree l (⟨"com/example/upkeep_window/upkeepwindow/bench/KeptAnswersCountPinLaw", "hit", "(IIII)I"⟩ : MethodName) (head1 (Jvm.Cond.code (⟨"com/example/upkeep_window/upkeepwindow/bench/KeptAnswersCountPinLaw", "hit", "(IIII)I"⟩ : MethodName) method_3_code 4 (some .int) :: ws) ({ frames := 0, cells := 0, slots := 0, locals := 0 } : Room)) (fun a U => a = #[(.int p1), (.int p2), (.int p3), (.int p4)] ∧ Z.Warmed39 U.vm ∧ U.heap = h0) (fun _ _ _ _ _ => True) (fun _ U oo U' => ∃ vv LL, oo = .returned vv ∧ (Q_rm5 Z p1 p2 p3 p4 h0 n0) vv U'.heap LL ∧ FrameEnd U oo U' LL ({ frames := 0, cells := 0, slots := 0, locals := 0 } : Room).cells ({ frames := 0, cells := 0, slots := 0, locals := 0 } : Room).slots) := by
  refine MetFree.of_bodySF (plainFor_of_name pn_5) hisR ?_
  intro p e s m args below meth c s₁ Bd hml0 hP hK
  obtain ⟨rfl, hZ, hh⟩ := hP
  have hx := Bd.exec
  have hby := Bd.bytes
  have hml : c.maxLocals = 4 := hml0
  have hown : s.vm.findClass "com/example/upkeep_window/upkeepwindow/bench/KeptAnswersCountPinLaw" = some m.cls := findClass_of_methodNamed Bd.named
  have hnm := (name_of_methodNamed Bd.named Bd.method).1
  have X0 : Stand p l e ({ frames := 0, cells := 0, slots := 0, locals := 0 } : Room) s m #[(.int p1), (.int p2), (.int p3), (.int p4)] below meth c s₁ [] 0 0 := Stand.of_body Bd
  have e0 : s₁.heap = h0 := by rw [← hh, Bd.state]; rfl
  have N0 := Fr.nil n0
  show Goes p e below (Fin s (Q_rm5 Z p1 p2 p3 p4 h0 n0) ({ frames := 0, cells := 0, slots := 0, locals := 0 } : Room).cells ({ frames := 0, cells := 0, slots := 0, locals := 0 } : Room).slots) _
  refine Goes.via (S' := s₁.setTop (mkF m 0 #[.val (.int p1), .val (.int p2), .val (.int p3), .val (.int p4)] [])) (fun tz kz => castTop (ef_5 m p1 p2 p3 p4 ) kz) ?_
  refine Goes.via (S' := s₁.setTop (mkF m 2 #[.val (.int p1), .val (.int p2), .val (.int p3), .val (.int p4)] [(.int p2), (.int p1)])) (fun tz kz => ?_) ?_
  · show Steps p.tables e below (s₁.setTop (mkF m 0 #[.val (.int p1), .val (.int p2), .val (.int p3), .val (.int p4)] [])) _
    refine XS.iloadN X0.here hx rfl (hb hby d5_0) rfl ?_
    show Steps p.tables e below (s₁.setTop (mkF m 1 #[.val (.int p1), .val (.int p2), .val (.int p3), .val (.int p4)] [(.int p1)])) _
    refine XS.iloadN X0.here hx rfl (hb hby d5_1) rfl ?_
    exact kz
  by_cases hc2_1 : p1 < p2
  · refine Goes.via (S' := s₁.setTop (mkF m 7 #[.val (.int p1), .val (.int p2), .val (.int p3), .val (.int p4)] [(.int p4), (.int p3)])) (fun tz kz => ?_) ?_
    · show Steps p.tables e below (s₁.setTop (mkF m 2 #[.val (.int p1), .val (.int p2), .val (.int p3), .val (.int p4)] [(.int p2), (.int p1)])) _
      refine XS.icmpNo X0.here hx rfl (hb hby d5_2) rfl (tlt hc2_1).2.1 ?_
      show Steps p.tables e below (s₁.setTop (mkF m 5 #[.val (.int p1), .val (.int p2), .val (.int p3), .val (.int p4)] [])) _
      refine XS.iloadN X0.here hx rfl (hb hby d5_5) rfl ?_
      show Steps p.tables e below (s₁.setTop (mkF m 6 #[.val (.int p1), .val (.int p2), .val (.int p3), .val (.int p4)] [(.int p3)])) _
      refine XS.iloadN X0.here hx rfl (hb hby d5_6) rfl ?_
      exact kz
    by_cases hc7_2 : p3 = p4
    · refine Goes.via (S' := s₁.setTop (mkF m 15 #[.val (.int p1), .val (.int p2), .val (.int p3), .val (.int p4)] [(.int (1 : Int32))])) (fun tz kz => ?_) ?_
      · show Steps p.tables e below (s₁.setTop (mkF m 7 #[.val (.int p1), .val (.int p2), .val (.int p3), .val (.int p4)] [(.int p4), (.int p3)])) _
        refine XS.icmpNo X0.here hx rfl (hb hby d5_7) rfl (teq hc7_2).2 ?_
        show Steps p.tables e below (s₁.setTop (mkF m 10 #[.val (.int p1), .val (.int p2), .val (.int p3), .val (.int p4)] [])) _
        refine XS.iconst X0.here hx rfl (hb hby d5_10) ?_
        show Steps p.tables e below (s₁.setTop (mkF m 11 #[.val (.int p1), .val (.int p2), .val (.int p3), .val (.int p4)] [(.int (1 : Int32))])) _
        refine XS.goto X0.here hx rfl (pc0 := 11) (pc' := 15) rfl (hb hby d5_11) (by decide) (by decide) ?_
        exact kz
      exact Goes.retI X0 hx Bd.notSynchronized Bd.returns (hb hby d5_15) (Nat.le_of_ble_eq_true rfl) (Nat.le_of_ble_eq_true rfl) ⟨congrArg (fun z => some (Value.int z)) (by unfold own_hit; rw [if_pos hc2_1, if_pos hc7_2]), N0, e0⟩
    · refine Goes.via (S' := s₁.setTop (mkF m 15 #[.val (.int p1), .val (.int p2), .val (.int p3), .val (.int p4)] [(.int (0 : Int32))])) (fun tz kz => ?_) ?_
      · show Steps p.tables e below (s₁.setTop (mkF m 7 #[.val (.int p1), .val (.int p2), .val (.int p3), .val (.int p4)] [(.int p4), (.int p3)])) _
        refine XS.icmpYes X0.here hx rfl (pc0 := 7) (pc' := 14) rfl (hb hby d5_7) rfl (feq hc7_2).2 (by decide) (by decide) ?_
        show Steps p.tables e below (s₁.setTop (mkF m 14 #[.val (.int p1), .val (.int p2), .val (.int p3), .val (.int p4)] [])) _
        refine XS.iconst X0.here hx rfl (hb hby d5_14) ?_
        exact kz
      exact Goes.retI X0 hx Bd.notSynchronized Bd.returns (hb hby d5_15) (Nat.le_of_ble_eq_true rfl) (Nat.le_of_ble_eq_true rfl) ⟨congrArg (fun z => some (Value.int z)) (by unfold own_hit; rw [if_pos hc2_1, if_neg hc7_2]), N0, e0⟩
  · refine Goes.via (S' := s₁.setTop (mkF m 15 #[.val (.int p1), .val (.int p2), .val (.int p3), .val (.int p4)] [(.int (0 : Int32))])) (fun tz kz => ?_) ?_
    · show Steps p.tables e below (s₁.setTop (mkF m 2 #[.val (.int p1), .val (.int p2), .val (.int p3), .val (.int p4)] [(.int p2), (.int p1)])) _
      refine XS.icmpYes X0.here hx rfl (pc0 := 2) (pc' := 14) rfl (hb hby d5_2) rfl (flt hc2_1).2.1 (by decide) (by decide) ?_
      show Steps p.tables e below (s₁.setTop (mkF m 14 #[.val (.int p1), .val (.int p2), .val (.int p3), .val (.int p4)] [])) _
      refine XS.iconst X0.here hx rfl (hb hby d5_14) ?_
      exact kz
    exact Goes.retI X0 hx Bd.notSynchronized Bd.returns (hb hby d5_15) (Nat.le_of_ble_eq_true rfl) (Nat.le_of_ble_eq_true rfl) ⟨congrArg (fun z => some (Value.int z)) (by unfold own_hit; rw [if_neg hc2_1]), N0, e0⟩
theorem d4_0 : decode method_4_code 0 = .ok (.iconst 0, 1) := by decide +kernel
theorem d4_1 : decode method_4_code 1 = .ok (.iload_n 1, 1) := by decide +kernel
theorem d4_2 : decode method_4_code 2 = .ok (.iload_n 2, 1) := by decide +kernel
theorem d4_3 : decode method_4_code 3 = .ok (.iload_n 0, 1) := by decide +kernel
theorem d4_4 : decode method_4_code 4 = .ok (.invokestatic 19, 3) := by decide +kernel
theorem d4_7 : decode method_4_code 7 = .ok (.iconst 1, 1) := by decide +kernel
theorem d4_8 : decode method_4_code 8 = .ok (.iload_n 1, 1) := by decide +kernel
theorem d4_9 : decode method_4_code 9 = .ok (.iload_n 3, 1) := by decide +kernel
theorem d4_10 : decode method_4_code 10 = .ok (.iload_n 0, 1) := by decide +kernel
theorem d4_11 : decode method_4_code 11 = .ok (.invokestatic 19, 3) := by decide +kernel
theorem d4_14 : decode method_4_code 14 = .ok (.iadd, 1) := by decide +kernel
theorem d4_15 : decode method_4_code 15 = .ok (.iconst 2, 1) := by decide +kernel
theorem d4_16 : decode method_4_code 16 = .ok (.iload_n 1, 1) := by decide +kernel
theorem d4_17 : decode method_4_code 17 = .ok (.iload 4, 2) := by decide +kernel
theorem d4_19 : decode method_4_code 19 = .ok (.iload_n 0, 1) := by decide +kernel
theorem d4_20 : decode method_4_code 20 = .ok (.invokestatic 19, 3) := by decide +kernel
theorem d4_23 : decode method_4_code 23 = .ok (.iadd, 1) := by decide +kernel
theorem d4_24 : decode method_4_code 24 = .ok (.ireturn, 1) := by decide +kernel
theorem pn_4 : plainName "com/example/upkeep_window/upkeepwindow/bench/KeptAnswersCountPinLaw" = true := by first | (simp [plainName, overriddenIn]; done) | decide +kernel
theorem ef_4 (m : MethodId) (x0 : Int32) (x1 : Int32) (x2 : Int32) (x3 : Int32) (x4 : Int32) : entryFrame m #[(.int x0), (.int x1), (.int x2), (.int x3), (.int x4)] 5 = mkF m 0 #[.val (.int x0), .val (.int x1), .val (.int x2), .val (.int x3), .val (.int x4)] [] := by first | (simp [entryFrame, mkF, argsToLocals, Value.category]; done) | rfl
def Q_rm4 (Z : State) (p1 : Int32) (p2 : Int32) (p3 : Int32) (p4 : Int32) (p5 : Int32)  (h0 : Heap) (n0 : Nat) : Option Value → Heap → List Loc → Prop := fun v h L => v = some (.int (own_hit 0 p2 p3 p1 + own_hit 1 p2 p4 p1 + own_hit 2 p2 p5 p1)) ∧ Fr n0 L ∧ h = h0
set_option maxRecDepth 65536 in
set_option maxHeartbeats 40000000 in
theorem rm4 (l : Launch) (Z : State) (a0 : Array Value) (hw : ∀ d ∈ tables_1, d.before a0 Z = true) (ws : List Jvm.Cond) (p1 : Int32) (p2 : Int32) (p3 : Int32) (p4 : Int32) (p5 : Int32)  (h0 : Heap) (n0 : Nat) (Z0 : n0 ≤ h0.size) :
    MetFree l (⟨"com/example/upkeep_window/upkeepwindow/bench/KeptAnswersCountPinLaw", "expected", "(IIIII)I"⟩ : MethodName) (head1 (Jvm.Cond.code (⟨"com/example/upkeep_window/upkeepwindow/bench/KeptAnswersCountPinLaw", "expected", "(IIIII)I"⟩ : MethodName) method_4_code 5 (some .int) :: ws) ({ frames := 1, cells := 0, slots := 0, locals := 16 } : Room)) (fun a U => a = #[(.int p1), (.int p2), (.int p3), (.int p4), (.int p5)] ∧ Z.Warmed39 U.vm ∧ U.heap = h0) (fun _ _ _ _ _ => True) (fun _ U oo U' => ∃ vv LL, oo = .returned vv ∧ (Q_rm4 Z p1 p2 p3 p4 p5 h0 n0) vv U'.heap LL ∧ FrameEnd U oo U' LL ({ frames := 1, cells := 0, slots := 0, locals := 16 } : Room).cells ({ frames := 1, cells := 0, slots := 0, locals := 16 } : Room).slots) := by
  refine MetFree.of_bodySF (plainFor_of_name pn_4) hisR ?_
  intro p e s m args below meth c s₁ Bd hml0 hP hK
  obtain ⟨rfl, hZ, hh⟩ := hP
  have hx := Bd.exec
  have hby := Bd.bytes
  have hml : c.maxLocals = 5 := hml0
  have hown : s.vm.findClass "com/example/upkeep_window/upkeepwindow/bench/KeptAnswersCountPinLaw" = some m.cls := findClass_of_methodNamed Bd.named
  have hnm := (name_of_methodNamed Bd.named Bd.method).1
  have X0 : Stand p l e ({ frames := 1, cells := 0, slots := 0, locals := 16 } : Room) s m #[(.int p1), (.int p2), (.int p3), (.int p4), (.int p5)] below meth c s₁ [] 0 0 := Stand.of_body Bd
  have e0 : s₁.heap = h0 := by rw [← hh, Bd.state]; rfl
  have N0 := Fr.nil n0
  show Goes p e below (Fin s (Q_rm4 Z p1 p2 p3 p4 p5 h0 n0) ({ frames := 1, cells := 0, slots := 0, locals := 16 } : Room).cells ({ frames := 1, cells := 0, slots := 0, locals := 16 } : Room).slots) _
  refine Goes.via (S' := s₁.setTop (mkF m 0 #[.val (.int p1), .val (.int p2), .val (.int p3), .val (.int p4), .val (.int p5)] [])) (fun tz kz => castTop (ef_4 m p1 p2 p3 p4 p5 ) kz) ?_
  refine Goes.via (S' := s₁.setTop (mkF m 4 #[.val (.int p1), .val (.int p2), .val (.int p3), .val (.int p4), .val (.int p5)] [(.int p1), (.int p3), (.int p2), (.int (0 : Int32))])) (fun tz kz => ?_) ?_
  · show Steps p.tables e below (s₁.setTop (mkF m 0 #[.val (.int p1), .val (.int p2), .val (.int p3), .val (.int p4), .val (.int p5)] [])) _
    refine XS.iconst X0.here hx rfl (hb hby d4_0) ?_
    show Steps p.tables e below (s₁.setTop (mkF m 1 #[.val (.int p1), .val (.int p2), .val (.int p3), .val (.int p4), .val (.int p5)] [(.int (0 : Int32))])) _
    refine XS.iloadN X0.here hx rfl (hb hby d4_1) rfl ?_
    show Steps p.tables e below (s₁.setTop (mkF m 2 #[.val (.int p1), .val (.int p2), .val (.int p3), .val (.int p4), .val (.int p5)] [(.int p2), (.int (0 : Int32))])) _
    refine XS.iloadN X0.here hx rfl (hb hby d4_2) rfl ?_
    show Steps p.tables e below (s₁.setTop (mkF m 3 #[.val (.int p1), .val (.int p2), .val (.int p3), .val (.int p4), .val (.int p5)] [(.int p3), (.int p2), (.int (0 : Int32))])) _
    refine XS.iloadN X0.here hx rfl (hb hby d4_3) rfl ?_
    exact kz
  obtain ⟨_, _, ⟨T1, L1, k1, n1⟩, -, X1, ⟨Lc1, hQ1, l1, y1, z1⟩, st1⟩ := Jvm.LawKit.callS X0 hx (y := (⟨"com/example/upkeep_window/upkeepwindow/bench/KeptAnswersCountPinLaw", "hit", "(IIII)I"⟩ : MethodName)) hown (mvT hZ (hw _ (List.mem_of_getElem? (i := 25) rfl))) (mvT hZ (hw _ (List.mem_of_getElem? (i := 26) rfl))) (mvT hZ (hw _ (List.mem_of_getElem? (i := 23) rfl))) (mvT hZ (hw _ (List.mem_of_getElem? (i := 27) rfl))) (by decide) (backOf (W := 0) (rm5 l Z a0 hw [] (0 : Int32) p2 p3 p1 h0 n0 Z0) hZ (hw _ (List.mem_of_getElem? (i := 27) rfl)) (hw _ (List.mem_of_getElem? (i := 23) rfl)) (by decide) (by decide)) (g := (mkF m 4 #[.val (.int p1), .val (.int p2), .val (.int p3), .val (.int p4), .val (.int p5)] [(.int p1), (.int p3), (.int p2), (.int (0 : Int32))])) rfl (by rw [hml]; rfl) (argsL := [(.int (0 : Int32)), (.int p2), (.int p3), (.int p1)]) (rest := []) (lenOf pd_0 rfl) rfl (by show 2 * 0 + _ ≤ _; exact Nat.le_of_eq rfl) (hb hby d4_4) (fun _ _ => ⟨rfl, e0, (by decide : 0 + 0 ≤ _), (by decide : 0 + 0 ≤ _)⟩)
  dsimp only [Pt.U, Pt.locs, Pt.cells, Pt.slots] at X1 l1 y1 z1 st1 hQ1
  subst l1 y1 z1
  obtain ⟨rfl, N1, e1⟩ := hQ1
  have Nf1 := Fr.app N0 N1
  refine Goes.via (S' := T1.setTop (mkF m 7 #[.val (.int p1), .val (.int p2), .val (.int p3), .val (.int p4), .val (.int p5)] [(.int (own_hit (0 : Int32) p2 p3 p1))])) (st1) ?_
  refine Goes.via (S' := T1.setTop (mkF m 11 #[.val (.int p1), .val (.int p2), .val (.int p3), .val (.int p4), .val (.int p5)] [(.int p1), (.int p4), (.int p2), (.int (1 : Int32)), (.int (own_hit (0 : Int32) p2 p3 p1))])) (fun tz kz => ?_) ?_
  · show Steps p.tables e below (T1.setTop (mkF m 7 #[.val (.int p1), .val (.int p2), .val (.int p3), .val (.int p4), .val (.int p5)] [(.int (own_hit (0 : Int32) p2 p3 p1))])) _
    refine XS.iconst X1.here hx rfl (hb hby d4_7) ?_
    show Steps p.tables e below (T1.setTop (mkF m 8 #[.val (.int p1), .val (.int p2), .val (.int p3), .val (.int p4), .val (.int p5)] [(.int (1 : Int32)), (.int (own_hit (0 : Int32) p2 p3 p1))])) _
    refine XS.iloadN X1.here hx rfl (hb hby d4_8) rfl ?_
    show Steps p.tables e below (T1.setTop (mkF m 9 #[.val (.int p1), .val (.int p2), .val (.int p3), .val (.int p4), .val (.int p5)] [(.int p2), (.int (1 : Int32)), (.int (own_hit (0 : Int32) p2 p3 p1))])) _
    refine XS.iloadN X1.here hx rfl (hb hby d4_9) rfl ?_
    show Steps p.tables e below (T1.setTop (mkF m 10 #[.val (.int p1), .val (.int p2), .val (.int p3), .val (.int p4), .val (.int p5)] [(.int p4), (.int p2), (.int (1 : Int32)), (.int (own_hit (0 : Int32) p2 p3 p1))])) _
    refine XS.iloadN X1.here hx rfl (hb hby d4_10) rfl ?_
    exact kz
  obtain ⟨_, _, ⟨T2, L2, k2, n2⟩, -, X2, ⟨Lc2, hQ2, l2, y2, z2⟩, st2⟩ := Jvm.LawKit.callS X1 hx (y := (⟨"com/example/upkeep_window/upkeepwindow/bench/KeptAnswersCountPinLaw", "hit", "(IIII)I"⟩ : MethodName)) hown (mvT hZ (hw _ (List.mem_of_getElem? (i := 25) rfl))) (mvT hZ (hw _ (List.mem_of_getElem? (i := 26) rfl))) (mvT hZ (hw _ (List.mem_of_getElem? (i := 23) rfl))) (mvT hZ (hw _ (List.mem_of_getElem? (i := 27) rfl))) (by decide) (backOf (W := 1) (rm5 l Z a0 hw [] (1 : Int32) p2 p4 p1 h0 n0 Z0) hZ (hw _ (List.mem_of_getElem? (i := 27) rfl)) (hw _ (List.mem_of_getElem? (i := 23) rfl)) (by decide) (by decide)) (g := (mkF m 11 #[.val (.int p1), .val (.int p2), .val (.int p3), .val (.int p4), .val (.int p5)] [(.int p1), (.int p4), (.int p2), (.int (1 : Int32)), (.int (own_hit (0 : Int32) p2 p3 p1))])) rfl (by rw [hml]; rfl) (argsL := [(.int (1 : Int32)), (.int p2), (.int p4), (.int p1)]) (rest := [(.int (own_hit (0 : Int32) p2 p3 p1))]) (lenOf pd_0 rfl) rfl (by show 2 * 0 + _ ≤ _; exact Nat.le_of_eq rfl) (hb hby d4_11) (fun _ _ => ⟨rfl, e1, (by decide : 0 + 0 ≤ _), (by decide : 0 + 0 ≤ _)⟩)
  dsimp only [Pt.U, Pt.locs, Pt.cells, Pt.slots] at X2 l2 y2 z2 st2 hQ2
  subst l2 y2 z2
  obtain ⟨rfl, N2, e2⟩ := hQ2
  have Nf2 := Fr.app Nf1 N2
  refine Goes.via (S' := T2.setTop (mkF m 14 #[.val (.int p1), .val (.int p2), .val (.int p3), .val (.int p4), .val (.int p5)] [(.int (own_hit (1 : Int32) p2 p4 p1)), (.int (own_hit (0 : Int32) p2 p3 p1))])) (st2) ?_
  refine Goes.via (S' := T2.setTop (mkF m 20 #[.val (.int p1), .val (.int p2), .val (.int p3), .val (.int p4), .val (.int p5)] [(.int p1), (.int p5), (.int p2), (.int (2 : Int32)), (.int ((own_hit (0 : Int32) p2 p3 p1) + (own_hit (1 : Int32) p2 p4 p1)))])) (fun tz kz => ?_) ?_
  · show Steps p.tables e below (T2.setTop (mkF m 14 #[.val (.int p1), .val (.int p2), .val (.int p3), .val (.int p4), .val (.int p5)] [(.int (own_hit (1 : Int32) p2 p4 p1)), (.int (own_hit (0 : Int32) p2 p3 p1))])) _
    refine XS.iadd X2.here hx rfl (hb hby d4_14) rfl ?_
    show Steps p.tables e below (T2.setTop (mkF m 15 #[.val (.int p1), .val (.int p2), .val (.int p3), .val (.int p4), .val (.int p5)] [(.int ((own_hit (0 : Int32) p2 p3 p1) + (own_hit (1 : Int32) p2 p4 p1)))])) _
    refine XS.iconst X2.here hx rfl (hb hby d4_15) ?_
    show Steps p.tables e below (T2.setTop (mkF m 16 #[.val (.int p1), .val (.int p2), .val (.int p3), .val (.int p4), .val (.int p5)] [(.int (2 : Int32)), (.int ((own_hit (0 : Int32) p2 p3 p1) + (own_hit (1 : Int32) p2 p4 p1)))])) _
    refine XS.iloadN X2.here hx rfl (hb hby d4_16) rfl ?_
    show Steps p.tables e below (T2.setTop (mkF m 17 #[.val (.int p1), .val (.int p2), .val (.int p3), .val (.int p4), .val (.int p5)] [(.int p2), (.int (2 : Int32)), (.int ((own_hit (0 : Int32) p2 p3 p1) + (own_hit (1 : Int32) p2 p4 p1)))])) _
    refine XS.iload X2.here hx rfl (hb hby d4_17) rfl ?_
    show Steps p.tables e below (T2.setTop (mkF m 19 #[.val (.int p1), .val (.int p2), .val (.int p3), .val (.int p4), .val (.int p5)] [(.int p5), (.int p2), (.int (2 : Int32)), (.int ((own_hit (0 : Int32) p2 p3 p1) + (own_hit (1 : Int32) p2 p4 p1)))])) _
    refine XS.iloadN X2.here hx rfl (hb hby d4_19) rfl ?_
    exact kz
  obtain ⟨_, _, ⟨T3, L3, k3, n3⟩, -, X3, ⟨Lc3, hQ3, l3, y3, z3⟩, st3⟩ := Jvm.LawKit.callS X2 hx (y := (⟨"com/example/upkeep_window/upkeepwindow/bench/KeptAnswersCountPinLaw", "hit", "(IIII)I"⟩ : MethodName)) hown (mvT hZ (hw _ (List.mem_of_getElem? (i := 25) rfl))) (mvT hZ (hw _ (List.mem_of_getElem? (i := 26) rfl))) (mvT hZ (hw _ (List.mem_of_getElem? (i := 23) rfl))) (mvT hZ (hw _ (List.mem_of_getElem? (i := 27) rfl))) (by decide) (backOf (W := 1) (rm5 l Z a0 hw [] (2 : Int32) p2 p5 p1 h0 n0 Z0) hZ (hw _ (List.mem_of_getElem? (i := 27) rfl)) (hw _ (List.mem_of_getElem? (i := 23) rfl)) (by decide) (by decide)) (g := (mkF m 20 #[.val (.int p1), .val (.int p2), .val (.int p3), .val (.int p4), .val (.int p5)] [(.int p1), (.int p5), (.int p2), (.int (2 : Int32)), (.int ((own_hit (0 : Int32) p2 p3 p1) + (own_hit (1 : Int32) p2 p4 p1)))])) rfl (by rw [hml]; rfl) (argsL := [(.int (2 : Int32)), (.int p2), (.int p5), (.int p1)]) (rest := [(.int ((own_hit (0 : Int32) p2 p3 p1) + (own_hit (1 : Int32) p2 p4 p1)))]) (lenOf pd_0 rfl) rfl (by show 2 * 0 + _ ≤ _; exact Nat.le_of_eq rfl) (hb hby d4_20) (fun _ _ => ⟨rfl, e2, (by decide : 0 + 0 ≤ _), (by decide : 0 + 0 ≤ _)⟩)
  dsimp only [Pt.U, Pt.locs, Pt.cells, Pt.slots] at X3 l3 y3 z3 st3 hQ3
  subst l3 y3 z3
  obtain ⟨rfl, N3, e3⟩ := hQ3
  have Nf3 := Fr.app Nf2 N3
  refine Goes.via (S' := T3.setTop (mkF m 23 #[.val (.int p1), .val (.int p2), .val (.int p3), .val (.int p4), .val (.int p5)] [(.int (own_hit (2 : Int32) p2 p5 p1)), (.int ((own_hit (0 : Int32) p2 p3 p1) + (own_hit (1 : Int32) p2 p4 p1)))])) (st3) ?_
  refine Goes.via (S' := T3.setTop (mkF m 24 #[.val (.int p1), .val (.int p2), .val (.int p3), .val (.int p4), .val (.int p5)] [(.int (((own_hit (0 : Int32) p2 p3 p1) + (own_hit (1 : Int32) p2 p4 p1)) + (own_hit (2 : Int32) p2 p5 p1)))])) (fun tz kz => ?_) ?_
  · show Steps p.tables e below (T3.setTop (mkF m 23 #[.val (.int p1), .val (.int p2), .val (.int p3), .val (.int p4), .val (.int p5)] [(.int (own_hit (2 : Int32) p2 p5 p1)), (.int ((own_hit (0 : Int32) p2 p3 p1) + (own_hit (1 : Int32) p2 p4 p1)))])) _
    refine XS.iadd X3.here hx rfl (hb hby d4_23) rfl ?_
    exact kz
  exact Goes.retI X3 hx Bd.notSynchronized Bd.returns (hb hby d4_24) (Nat.le_of_ble_eq_true rfl) (Nat.le_of_ble_eq_true rfl) ⟨rfl, Nf3, e3⟩
theorem d6_0 : decode method_2_code 0 = .ok (.iload_n 0, 1) := by decide +kernel
theorem d6_1 : decode method_2_code 1 = .ok (.iconst 1, 1) := by decide +kernel
theorem d6_2 : decode method_2_code 2 = .ok (.if_icmp .ne 7, 3) := by decide +kernel
theorem d6_5 : decode method_2_code 5 = .ok (.getstatic 7, 3) := by decide +kernel
theorem d6_8 : decode method_2_code 8 = .ok (.areturn, 1) := by decide +kernel
theorem d6_9 : decode method_2_code 9 = .ok (.iload_n 0, 1) := by decide +kernel
theorem d6_10 : decode method_2_code 10 = .ok (.iconst 2, 1) := by decide +kernel
theorem d6_11 : decode method_2_code 11 = .ok (.if_icmp .ne 7, 3) := by decide +kernel
theorem d6_14 : decode method_2_code 14 = .ok (.getstatic 13, 3) := by decide +kernel
theorem d6_17 : decode method_2_code 17 = .ok (.areturn, 1) := by decide +kernel
theorem d6_18 : decode method_2_code 18 = .ok (.iload_n 0, 1) := by decide +kernel
theorem d6_19 : decode method_2_code 19 = .ok (.iconst 3, 1) := by decide +kernel
theorem d6_20 : decode method_2_code 20 = .ok (.if_icmp .ne 7, 3) := by decide +kernel
theorem d6_23 : decode method_2_code 23 = .ok (.getstatic 16, 3) := by decide +kernel
theorem d6_26 : decode method_2_code 26 = .ok (.areturn, 1) := by decide +kernel
theorem d6_27 : decode method_2_code 27 = .ok (.aconst_null, 1) := by decide +kernel
theorem d6_28 : decode method_2_code 28 = .ok (.areturn, 1) := by decide +kernel
theorem pn_6 : plainName "com/example/upkeep_window/upkeepwindow/bench/KeptAnswersCountPinLaw" = true := by first | (simp [plainName, overriddenIn]; done) | decide +kernel
theorem ef_6 (m : MethodId) (x0 : Int32) : entryFrame m #[(.int x0)] 1 = mkF m 0 #[.val (.int x0)] [] := by first | (simp [entryFrame, mkF, argsToLocals, Value.category]; done) | rfl
def Q_rm6 (Z : State) (p1 : Int32) (bI bP bS : Addr) (h0 : Heap) (n0 : Nat) : Option Value → Heap → List Loc → Prop := fun v h L => v = some (own_pk bI bP bS p1) ∧ Fr n0 L ∧ h = h0
set_option maxRecDepth 65536 in
set_option maxHeartbeats 40000000 in
theorem rm6 (l : Launch) (Z : State) (a0 : Array Value) (hw : ∀ d ∈ tables_1, d.before a0 Z = true) (ws : List Jvm.Cond) (p1 : Int32) (bI bP bS : Addr) (h0 : Heap) (n0 : Nat) (Z0 : n0 ≤ h0.size) (S_bI : Sta Z h0 "com/example/upkeep_window/upkeepwindow/policy/InstallOption" "INSTALL_AUTOMATIC" "Lcom/example/upkeep_window/upkeepwindow/policy/InstallOption;" (.ref bI)) (S_bP : Sta Z h0 "com/example/upkeep_window/upkeepwindow/policy/InstallOption" "POSTPONE" "Lcom/example/upkeep_window/upkeepwindow/policy/InstallOption;" (.ref bP)) (S_bS : Sta Z h0 "com/example/upkeep_window/upkeepwindow/policy/InstallOption" "PAUSE" "Lcom/example/upkeep_window/upkeepwindow/policy/InstallOption;" (.ref bS)) :
    MetFree l (⟨"com/example/upkeep_window/upkeepwindow/bench/KeptAnswersCountPinLaw", "pick", "(I)Lcom/example/upkeep_window/upkeepwindow/policy/InstallOption;"⟩ : MethodName) (head1 (Jvm.Cond.code (⟨"com/example/upkeep_window/upkeepwindow/bench/KeptAnswersCountPinLaw", "pick", "(I)Lcom/example/upkeep_window/upkeepwindow/policy/InstallOption;"⟩ : MethodName) method_2_code 1 (some (.object "com/example/upkeep_window/upkeepwindow/policy/InstallOption")) :: ws) ({ frames := 0, cells := 0, slots := 0, locals := 0 } : Room)) (fun a U => a = #[(.int p1)] ∧ Z.Warmed39 U.vm ∧ U.heap = h0) (fun _ _ _ _ _ => True) (fun _ U oo U' => ∃ vv LL, oo = .returned vv ∧ (Q_rm6 Z p1 bI bP bS h0 n0) vv U'.heap LL ∧ FrameEnd U oo U' LL ({ frames := 0, cells := 0, slots := 0, locals := 0 } : Room).cells ({ frames := 0, cells := 0, slots := 0, locals := 0 } : Room).slots) := by
  refine MetFree.of_bodySF (plainFor_of_name pn_6) hisR ?_
  intro p e s m args below meth c s₁ Bd hml0 hP hK
  obtain ⟨rfl, hZ, hh⟩ := hP
  have hx := Bd.exec
  have hby := Bd.bytes
  have hml : c.maxLocals = 1 := hml0
  have hown : s.vm.findClass "com/example/upkeep_window/upkeepwindow/bench/KeptAnswersCountPinLaw" = some m.cls := findClass_of_methodNamed Bd.named
  have hnm := (name_of_methodNamed Bd.named Bd.method).1
  have X0 : Stand p l e ({ frames := 0, cells := 0, slots := 0, locals := 0 } : Room) s m #[(.int p1)] below meth c s₁ [] 0 0 := Stand.of_body Bd
  have e0 : s₁.heap = h0 := by rw [← hh, Bd.state]; rfl
  have N0 := Fr.nil n0
  show Goes p e below (Fin s (Q_rm6 Z p1 bI bP bS h0 n0) ({ frames := 0, cells := 0, slots := 0, locals := 0 } : Room).cells ({ frames := 0, cells := 0, slots := 0, locals := 0 } : Room).slots) _
  refine Goes.via (S' := s₁.setTop (mkF m 0 #[.val (.int p1)] [])) (fun tz kz => castTop (ef_6 m p1 ) kz) ?_
  refine Goes.via (S' := s₁.setTop (mkF m 2 #[.val (.int p1)] [(.int (1 : Int32)), (.int p1)])) (fun tz kz => ?_) ?_
  · show Steps p.tables e below (s₁.setTop (mkF m 0 #[.val (.int p1)] [])) _
    refine XS.iloadN X0.here hx rfl (hb hby d6_0) rfl ?_
    show Steps p.tables e below (s₁.setTop (mkF m 1 #[.val (.int p1)] [(.int p1)])) _
    refine XS.iconst X0.here hx rfl (hb hby d6_1) ?_
    exact kz
  by_cases hc2_1 : p1 = (1 : Int32)
  · refine Goes.via (S' := s₁.setTop (mkF m 5 #[.val (.int p1)] [])) (fun tz kz => ?_) ?_
    · show Steps p.tables e below (s₁.setTop (mkF m 2 #[.val (.int p1)] [(.int (1 : Int32)), (.int p1)])) _
      refine XS.icmpNo X0.here hx rfl (hb hby d6_2) rfl (teq hc2_1).2 ?_
      exact kz
    obtain ⟨T2, X2, e2, st2⟩ := getS2 X0 hx hZ hown (host := "") (Or.inl (hw _ (List.mem_of_getElem? (i := 28) rfl))) Via.refl e0 S_bI (g := (mkF m 5 #[.val (.int p1)] [])) rfl (hb hby d6_5)
    refine Goes.via (S' := T2.setTop (mkF m 8 #[.val (.int p1)] [(.ref bI)])) st2 ?_
    exact Goes.retO X2 hx Bd.notSynchronized Bd.returns rfl (Or.inr (Or.inr (Or.inr (Or.inr ⟨rfl, rfl, rfl⟩)))) (hb hby d6_8) (Nat.le_of_ble_eq_true rfl) (Nat.le_of_ble_eq_true rfl) ⟨congrArg some (by unfold own_pk; rw [if_pos hc2_1]), N0, e2⟩
  · refine Goes.via (S' := s₁.setTop (mkF m 11 #[.val (.int p1)] [(.int (2 : Int32)), (.int p1)])) (fun tz kz => ?_) ?_
    · show Steps p.tables e below (s₁.setTop (mkF m 2 #[.val (.int p1)] [(.int (1 : Int32)), (.int p1)])) _
      refine XS.icmpYes X0.here hx rfl (pc0 := 2) (pc' := 9) rfl (hb hby d6_2) rfl (feq hc2_1).2 (by decide) (by decide) ?_
      show Steps p.tables e below (s₁.setTop (mkF m 9 #[.val (.int p1)] [])) _
      refine XS.iloadN X0.here hx rfl (hb hby d6_9) rfl ?_
      show Steps p.tables e below (s₁.setTop (mkF m 10 #[.val (.int p1)] [(.int p1)])) _
      refine XS.iconst X0.here hx rfl (hb hby d6_10) ?_
      exact kz
    by_cases hc11_3 : p1 = (2 : Int32)
    · refine Goes.via (S' := s₁.setTop (mkF m 14 #[.val (.int p1)] [])) (fun tz kz => ?_) ?_
      · show Steps p.tables e below (s₁.setTop (mkF m 11 #[.val (.int p1)] [(.int (2 : Int32)), (.int p1)])) _
        refine XS.icmpNo X0.here hx rfl (hb hby d6_11) rfl (teq hc11_3).2 ?_
        exact kz
      obtain ⟨T4, X4, e4, st4⟩ := getS2 X0 hx hZ hown (host := "") (Or.inl (hw _ (List.mem_of_getElem? (i := 31) rfl))) Via.refl e0 S_bP (g := (mkF m 14 #[.val (.int p1)] [])) rfl (hb hby d6_14)
      refine Goes.via (S' := T4.setTop (mkF m 17 #[.val (.int p1)] [(.ref bP)])) st4 ?_
      exact Goes.retO X4 hx Bd.notSynchronized Bd.returns rfl (Or.inr (Or.inr (Or.inr (Or.inr ⟨rfl, rfl, rfl⟩)))) (hb hby d6_17) (Nat.le_of_ble_eq_true rfl) (Nat.le_of_ble_eq_true rfl) ⟨congrArg some (by unfold own_pk; rw [if_neg hc2_1, if_pos hc11_3]), N0, e4⟩
    · refine Goes.via (S' := s₁.setTop (mkF m 20 #[.val (.int p1)] [(.int (3 : Int32)), (.int p1)])) (fun tz kz => ?_) ?_
      · show Steps p.tables e below (s₁.setTop (mkF m 11 #[.val (.int p1)] [(.int (2 : Int32)), (.int p1)])) _
        refine XS.icmpYes X0.here hx rfl (pc0 := 11) (pc' := 18) rfl (hb hby d6_11) rfl (feq hc11_3).2 (by decide) (by decide) ?_
        show Steps p.tables e below (s₁.setTop (mkF m 18 #[.val (.int p1)] [])) _
        refine XS.iloadN X0.here hx rfl (hb hby d6_18) rfl ?_
        show Steps p.tables e below (s₁.setTop (mkF m 19 #[.val (.int p1)] [(.int p1)])) _
        refine XS.iconst X0.here hx rfl (hb hby d6_19) ?_
        exact kz
      by_cases hc20_5 : p1 = (3 : Int32)
      · refine Goes.via (S' := s₁.setTop (mkF m 23 #[.val (.int p1)] [])) (fun tz kz => ?_) ?_
        · show Steps p.tables e below (s₁.setTop (mkF m 20 #[.val (.int p1)] [(.int (3 : Int32)), (.int p1)])) _
          refine XS.icmpNo X0.here hx rfl (hb hby d6_20) rfl (teq hc20_5).2 ?_
          exact kz
        obtain ⟨T6, X6, e6, st6⟩ := getS2 X0 hx hZ hown (host := "") (Or.inl (hw _ (List.mem_of_getElem? (i := 33) rfl))) Via.refl e0 S_bS (g := (mkF m 23 #[.val (.int p1)] [])) rfl (hb hby d6_23)
        refine Goes.via (S' := T6.setTop (mkF m 26 #[.val (.int p1)] [(.ref bS)])) st6 ?_
        exact Goes.retO X6 hx Bd.notSynchronized Bd.returns rfl (Or.inr (Or.inr (Or.inr (Or.inr ⟨rfl, rfl, rfl⟩)))) (hb hby d6_26) (Nat.le_of_ble_eq_true rfl) (Nat.le_of_ble_eq_true rfl) ⟨congrArg some (by unfold own_pk; rw [if_neg hc2_1, if_neg hc11_3, if_pos hc20_5]), N0, e6⟩
      · refine Goes.via (S' := s₁.setTop (mkF m 28 #[.val (.int p1)] [.null])) (fun tz kz => ?_) ?_
        · show Steps p.tables e below (s₁.setTop (mkF m 20 #[.val (.int p1)] [(.int (3 : Int32)), (.int p1)])) _
          refine XS.icmpYes X0.here hx rfl (pc0 := 20) (pc' := 27) rfl (hb hby d6_20) rfl (feq hc20_5).2 (by decide) (by decide) ?_
          show Steps p.tables e below (s₁.setTop (mkF m 27 #[.val (.int p1)] [])) _
          refine XS.aconstNull X0.here hx rfl (hb hby d6_27) ?_
          exact kz
        exact Goes.retO X0 hx Bd.notSynchronized Bd.returns rfl (Or.inr (Or.inr (Or.inr (Or.inr ⟨rfl, rfl, rfl⟩)))) (hb hby d6_28) (Nat.le_of_ble_eq_true rfl) (Nat.le_of_ble_eq_true rfl) ⟨congrArg some (by unfold own_pk; rw [if_neg hc2_1, if_neg hc11_3, if_neg hc20_5]), N0, e0⟩
theorem d7_0 : decode jdk_32_method_1_code 0 = .ok (.getstatic 1, 3) := by decide +kernel
theorem d7_3 : decode jdk_32_method_1_code 3 = .ok (.astore_n 0, 1) := by decide +kernel
theorem d7_4 : decode jdk_32_method_1_code 4 = .ok (.aload_n 0, 1) := by decide +kernel
theorem d7_5 : decode jdk_32_method_1_code 5 = .ok (.areturn, 1) := by decide +kernel
theorem pn_7 : plainName "java/util/Optional" = true := by first | (simp [plainName, overriddenIn]; done) | decide +kernel
theorem ef_7 (m : MethodId)  : entryFrame m #[] 1 = mkF m 0 #[.unset] [] := by first | (simp [entryFrame, mkF, argsToLocals, Value.category]; done) | rfl
def Q_rm7 (Z : State)  (bE : Addr) (h0 : Heap) (n0 : Nat) : Option Value → Heap → List Loc → Prop := fun v h L => v = some (.ref bE) ∧ Fr n0 L ∧ h = h0
set_option maxRecDepth 65536 in
set_option maxHeartbeats 40000000 in
theorem rm7 (l : Launch) (Z : State) (a0 : Array Value) (hw : ∀ d ∈ tables_1, d.before a0 Z = true) (ws : List Jvm.Cond)  (bE : Addr) (h0 : Heap) (n0 : Nat) (Z0 : n0 ≤ h0.size) (SO : Sta Z h0 "java/util/Optional" "EMPTY" "Ljava/util/Optional;" (.ref bE)) :
    MetFree l (⟨"java/util/Optional", "empty", "()Ljava/util/Optional;"⟩ : MethodName) (head1 (Jvm.Cond.code (⟨"java/util/Optional", "empty", "()Ljava/util/Optional;"⟩ : MethodName) jdk_32_method_1_code 1 (some (.object "java/util/Optional")) :: ws) ({ frames := 0, cells := 0, slots := 0, locals := 0 } : Room)) (fun a U => a = #[] ∧ Z.Warmed39 U.vm ∧ U.heap = h0) (fun _ _ _ _ _ => True) (fun _ U oo U' => ∃ vv LL, oo = .returned vv ∧ (Q_rm7 Z bE h0 n0) vv U'.heap LL ∧ FrameEnd U oo U' LL ({ frames := 0, cells := 0, slots := 0, locals := 0 } : Room).cells ({ frames := 0, cells := 0, slots := 0, locals := 0 } : Room).slots) := by
  refine MetFree.of_bodySF (plainFor_of_name pn_7) hisR ?_
  intro p e s m args below meth c s₁ Bd hml0 hP hK
  obtain ⟨rfl, hZ, hh⟩ := hP
  have hx := Bd.exec
  have hby := Bd.bytes
  have hml : c.maxLocals = 1 := hml0
  have hown : s.vm.findClass "java/util/Optional" = some m.cls := findClass_of_methodNamed Bd.named
  have hnm := (name_of_methodNamed Bd.named Bd.method).1
  have X0 : Stand p l e ({ frames := 0, cells := 0, slots := 0, locals := 0 } : Room) s m #[] below meth c s₁ [] 0 0 := Stand.of_body Bd
  have e0 : s₁.heap = h0 := by rw [← hh, Bd.state]; rfl
  have N0 := Fr.nil n0
  show Goes p e below (Fin s (Q_rm7 Z bE h0 n0) ({ frames := 0, cells := 0, slots := 0, locals := 0 } : Room).cells ({ frames := 0, cells := 0, slots := 0, locals := 0 } : Room).slots) _
  refine Goes.via (S' := s₁.setTop (mkF m 0 #[.unset] [])) (fun tz kz => castTop (ef_7 m  ) kz) ?_
  obtain ⟨T1, X1, e1, st1⟩ := getS2 X0 hx hZ hown (host := "") (Or.inl (hw _ (List.mem_of_getElem? (i := 42) rfl))) Via.refl e0 SO (g := (mkF m 0 #[.unset] [])) rfl (hb hby d7_0)
  refine Goes.via (S' := T1.setTop (mkF m 3 #[.unset] [(.ref bE)])) st1 ?_
  refine Goes.via (S' := T1.setTop (mkF m 5 #[.val (.ref bE)] [(.ref bE)])) (fun tz kz => ?_) ?_
  · show Steps p.tables e below (T1.setTop (mkF m 3 #[.unset] [(.ref bE)])) _
    refine XS.astoreN X1.here hx rfl (hb hby d7_3) rfl rfl (l' := #[.val (.ref bE)]) rfl ?_
    show Steps p.tables e below (T1.setTop (mkF m 4 #[.val (.ref bE)] [])) _
    refine XS.aloadN X1.here hx rfl (hb hby d7_4) rfl rfl ?_
    exact kz
  exact Goes.retO X1 hx Bd.notSynchronized Bd.returns rfl (Or.inr (Or.inr (Or.inr (Or.inr ⟨rfl, rfl, rfl⟩)))) (hb hby d7_5) (Nat.le_of_ble_eq_true rfl) (Nat.le_of_ble_eq_true rfl) ⟨rfl, N0, e1⟩
theorem d9_0 : decode jdk_32_method_6_code 0 = .ok (.aload_n 0, 1) := by decide +kernel
theorem d9_1 : decode jdk_32_method_6_code 1 = .ok (.getfield 13, 3) := by decide +kernel
theorem d9_4 : decode jdk_32_method_6_code 4 = .ok (.ifnull 7, 3) := by decide +kernel
theorem d9_7 : decode jdk_32_method_6_code 7 = .ok (.iconst 1, 1) := by decide +kernel
theorem d9_8 : decode jdk_32_method_6_code 8 = .ok (.goto 4, 3) := by decide +kernel
theorem d9_11 : decode jdk_32_method_6_code 11 = .ok (.iconst 0, 1) := by decide +kernel
theorem d9_12 : decode jdk_32_method_6_code 12 = .ok (.ireturn, 1) := by decide +kernel
theorem pn_9 : plainName "java/util/Optional" = true := by first | (simp [plainName, overriddenIn]; done) | decide +kernel
theorem ef_9 (m : MethodId) (x0 : Addr) : entryFrame m #[(.ref x0)] 1 = mkF m 0 #[.val (.ref x0)] [] := by first | (simp [entryFrame, mkF, argsToLocals, Value.category]; done) | rfl
def Q_rm9 (Z : State) (a1 : Addr)  (h0 : Heap) (n0 : Nat) : Option Value → Heap → List Loc → Prop := fun v h L => v = some (.int 0) ∧ Fr n0 L ∧ h = h0
set_option maxRecDepth 65536 in
set_option maxHeartbeats 40000000 in
theorem rm9 (l : Launch) (Z : State) (a0 : Array Value) (hw : ∀ d ∈ tables_1, d.before a0 Z = true) (ws : List Jvm.Cond) (a1 : Addr)  (h0 : Heap) (n0 : Nat) (Z0 : n0 ≤ h0.size) (FE : Fld Z h0 a1 "java/util/Optional" "value" "Ljava/lang/Object;" .null) :
    MetFree l (⟨"java/util/Optional", "isPresent", "()Z"⟩ : MethodName) (head1 (Jvm.Cond.code (⟨"java/util/Optional", "isPresent", "()Z"⟩ : MethodName) jdk_32_method_6_code 1 (some .boolean) :: ws) ({ frames := 0, cells := 0, slots := 0, locals := 0 } : Room)) (fun a U => a = #[(.ref a1)] ∧ Z.Warmed39 U.vm ∧ U.heap = h0) (fun _ _ _ _ _ => True) (fun _ U oo U' => ∃ vv LL, oo = .returned vv ∧ (Q_rm9 Z a1 h0 n0) vv U'.heap LL ∧ FrameEnd U oo U' LL ({ frames := 0, cells := 0, slots := 0, locals := 0 } : Room).cells ({ frames := 0, cells := 0, slots := 0, locals := 0 } : Room).slots) := by
  refine MetFree.of_bodySF (plainFor_of_name pn_9) hisR ?_
  intro p e s m args below meth c s₁ Bd hml0 hP hK
  obtain ⟨rfl, hZ, hh⟩ := hP
  have hx := Bd.exec
  have hby := Bd.bytes
  have hml : c.maxLocals = 1 := hml0
  have hown : s.vm.findClass "java/util/Optional" = some m.cls := findClass_of_methodNamed Bd.named
  have hnm := (name_of_methodNamed Bd.named Bd.method).1
  have X0 : Stand p l e ({ frames := 0, cells := 0, slots := 0, locals := 0 } : Room) s m #[(.ref a1)] below meth c s₁ [] 0 0 := Stand.of_body Bd
  have e0 : s₁.heap = h0 := by rw [← hh, Bd.state]; rfl
  have N0 := Fr.nil n0
  show Goes p e below (Fin s (Q_rm9 Z a1 h0 n0) ({ frames := 0, cells := 0, slots := 0, locals := 0 } : Room).cells ({ frames := 0, cells := 0, slots := 0, locals := 0 } : Room).slots) _
  refine Goes.via (S' := s₁.setTop (mkF m 0 #[.val (.ref a1)] [])) (fun tz kz => castTop (ef_9 m a1 ) kz) ?_
  refine Goes.via (S' := s₁.setTop (mkF m 1 #[.val (.ref a1)] [(.ref a1)])) (fun tz kz => ?_) ?_
  · show Steps p.tables e below (s₁.setTop (mkF m 0 #[.val (.ref a1)] [])) _
    refine XS.aloadN X0.here hx rfl (hb hby d9_0) rfl rfl ?_
    exact kz
  obtain ⟨T1, X1, e1, st1⟩ := getF X0 hx hZ hown (host := "") (Or.inl (hw _ (List.mem_of_getElem? (i := 54) rfl))) Via.refl e0 FE (g := (mkF m 1 #[.val (.ref a1)] [(.ref a1)])) rfl rfl (hb hby d9_1)
  refine Goes.via (S' := T1.setTop (mkF m 4 #[.val (.ref a1)] [.null])) st1 ?_
  refine Goes.via (S' := T1.setTop (mkF m 12 #[.val (.ref a1)] [(.int (0 : Int32))])) (fun tz kz => ?_) ?_
  · show Steps p.tables e below (T1.setTop (mkF m 4 #[.val (.ref a1)] [.null])) _
    refine XS.ifnullYes X1.here hx rfl (pc0 := 4) (pc' := 11) rfl (hb hby d9_4) rfl (by decide) (by decide) ?_
    show Steps p.tables e below (T1.setTop (mkF m 11 #[.val (.ref a1)] [])) _
    refine XS.iconst X1.here hx rfl (hb hby d9_11) ?_
    exact kz
  exact Goes.retN X1 hx Bd.notSynchronized (t := .boolean) Bd.returns (by simp) (hb hby d9_12) (Nat.le_of_ble_eq_true rfl) (Nat.le_of_ble_eq_true rfl) ⟨rfl, N0, e1⟩
theorem d8_0 : decode prog_3_method_2_code 0 = .ok (.ldc2_w 21, 3) := by decide +kernel
theorem d8_3 : decode prog_3_method_2_code 3 = .ok (.lstore 4, 2) := by decide +kernel
theorem d8_5 : decode prog_3_method_2_code 5 = .ok (.aload_n 3, 1) := by decide +kernel
theorem d8_6 : decode prog_3_method_2_code 6 = .ok (.invokevirtual 23, 3) := by decide +kernel
theorem d8_9 : decode prog_3_method_2_code 9 = .ok (.ifCond .eq 36, 3) := by decide +kernel
theorem d8_12 : decode prog_3_method_2_code 12 = .ok (.aload_n 3, 1) := by decide +kernel
theorem d8_13 : decode prog_3_method_2_code 13 = .ok (.invokevirtual 29, 3) := by decide +kernel
theorem d8_16 : decode prog_3_method_2_code 16 = .ok (.checkcast 33, 3) := by decide +kernel
theorem d8_19 : decode prog_3_method_2_code 19 = .ok (.invokevirtual 35, 3) := by decide +kernel
theorem d8_22 : decode prog_3_method_2_code 22 = .ok (.lstore 4, 2) := by decide +kernel
theorem d8_24 : decode prog_3_method_2_code 24 = .ok (.goto 21, 3) := by decide +kernel
theorem d8_27 : decode prog_3_method_2_code 27 = .ok (.astore 6, 2) := by decide +kernel
theorem d8_29 : decode prog_3_method_2_code 29 = .ok (.new 41, 3) := by decide +kernel
theorem d8_32 : decode prog_3_method_2_code 32 = .ok (.dup, 1) := by decide +kernel
theorem d8_33 : decode prog_3_method_2_code 33 = .ok (.iload_n 1, 1) := by decide +kernel
theorem d8_34 : decode prog_3_method_2_code 34 = .ok (.aload_n 3, 1) := by decide +kernel
theorem d8_35 : decode prog_3_method_2_code 35 = .ok (.invokevirtual 29, 3) := by decide +kernel
theorem d8_38 : decode prog_3_method_2_code 38 = .ok (.checkcast 33, 3) := by decide +kernel
theorem d8_41 : decode prog_3_method_2_code 41 = .ok (.invokespecial 43, 3) := by decide +kernel
theorem d8_44 : decode prog_3_method_2_code 44 = .ok (.athrow, 1) := by decide +kernel
theorem d8_45 : decode prog_3_method_2_code 45 = .ok (.aload_n 0, 1) := by decide +kernel
theorem d8_46 : decode prog_3_method_2_code 46 = .ok (.getfield 11, 3) := by decide +kernel
theorem d8_49 : decode prog_3_method_2_code 49 = .ok (.iload_n 1, 1) := by decide +kernel
theorem d8_50 : decode prog_3_method_2_code 50 = .ok (.aload_n 2, 1) := by decide +kernel
theorem d8_51 : decode prog_3_method_2_code 51 = .ok (.aastore, 1) := by decide +kernel
theorem d8_52 : decode prog_3_method_2_code 52 = .ok (.aload_n 0, 1) := by decide +kernel
theorem d8_53 : decode prog_3_method_2_code 53 = .ok (.getfield 17, 3) := by decide +kernel
theorem d8_56 : decode prog_3_method_2_code 56 = .ok (.iload_n 1, 1) := by decide +kernel
theorem d8_57 : decode prog_3_method_2_code 57 = .ok (.lload 4, 2) := by decide +kernel
theorem d8_59 : decode prog_3_method_2_code 59 = .ok (.lastore, 1) := by decide +kernel
theorem d8_60 : decode prog_3_method_2_code 60 = .ok (.return_, 1) := by decide +kernel
theorem pn_8 : plainName "com/example/upkeep_window/upkeepwindow/bench/KeptAnswers" = true := by first | (simp [plainName, overriddenIn]; done) | decide +kernel
theorem ef_8 (m : MethodId) (x0 : Addr) (x1 : Int32) (x2 : Value) (x3 : Addr) (hx2 : x2.isRef = true) : entryFrame m #[(.ref x0), (.int x1), x2, (.ref x3)] 7 = mkF m 0 #[.val (.ref x0), .val (.int x1), .val x2, .val (.ref x3), .unset, .unset, .unset] [] := by rcases ref_cases hx2 with rfl | ⟨_, rfl⟩ <;> (first | (simp [entryFrame, mkF, argsToLocals, Value.category]; done) | rfl)
def Q_rm8 (Z : State) (a1 : Addr) (i : Int32) (o : Value) (bE : Addr) (ob ub : Addr) (k1 k2 : ClassId) (z : Int32) (vs : List Value) (iN : Nat) (h0 : Heap) (n0 : Nat) : Option Value → Heap → List Loc → Prop := fun v h L => v = none ∧ Fr n0 L ∧ Keep h0 h [ob, ub] ∧ own_KA Z n0 h a1 ob ub k1 k2 z (vs.set iN o)
set_option maxRecDepth 65536 in
set_option maxHeartbeats 40000000 in
theorem rm8 (l : Launch) (Z : State) (a0 : Array Value) (hw : ∀ d ∈ tables_1, d.before a0 Z = true) (ws : List Jvm.Cond) (a1 : Addr) (i : Int32) (o : Value) (bE : Addr) (ob ub : Addr) (k1 k2 : ClassId) (z : Int32) (vs : List Value) (iN : Nat) (h0 : Heap) (n0 : Nat) (Z0 : n0 ≤ h0.size) (ho : o.isRef = true) (KAh : own_KA Z n0 h0 a1 ob ub k1 k2 z vs) (hl : vs.length = 3) (hi : ¬ i < 0 ∧ i < z) (hiN : i.toNatClampNeg = iN) (hi3 : iN < 3) (oI : o = .null ∨ ∃ y, o = .ref y ∧ Exa Z h0 y "com/example/upkeep_window/upkeepwindow/policy/InstallOption") (EE : Exa Z h0 bE "java/util/Optional") (FE : Fld Z h0 bE "java/util/Optional" "value" "Ljava/lang/Object;" .null) :
    MetFree l (⟨"com/example/upkeep_window/upkeepwindow/bench/KeptAnswers", "keep", "(ILcom/example/upkeep_window/upkeepwindow/policy/InstallOption;Ljava/util/Optional;)V"⟩ : MethodName) (head1 (Jvm.Cond.codeWith (⟨"com/example/upkeep_window/upkeepwindow/bench/KeptAnswers", "keep", "(ILcom/example/upkeep_window/upkeepwindow/policy/InstallOption;Ljava/util/Optional;)V"⟩ : MethodName) prog_3_method_2_code 7 none [((12 : Nat), (24 : Nat), (27 : Nat), (39 : Nat))] :: ws) ({ frames := 1, cells := 0, slots := 0, locals := 12 } : Room)) (fun a U => a = #[(.ref a1), (.int i), o, (.ref bE)] ∧ Z.Warmed39 U.vm ∧ U.heap = h0) (fun _ _ _ _ _ => True) (fun _ U oo U' => ∃ vv LL, oo = .returned vv ∧ (Q_rm8 Z a1 i o bE ob ub k1 k2 z vs iN h0 n0) vv U'.heap LL ∧ FrameEnd U oo U' LL ({ frames := 1, cells := 0, slots := 0, locals := 12 } : Room).cells ({ frames := 1, cells := 0, slots := 0, locals := 12 } : Room).slots) := by
  refine MetFree.of_bodySF (plainFor_of_name pn_8) hisWith ?_
  intro p e s m args below meth c s₁ Bd hml0 hP hK
  obtain ⟨rfl, hZ, hh⟩ := hP
  have hx := Bd.exec
  have hby := Bd.bytes
  have hml : c.maxLocals = 7 := hml0
  have hown : s.vm.findClass "com/example/upkeep_window/upkeepwindow/bench/KeptAnswers" = some m.cls := findClass_of_methodNamed Bd.named
  have hnm := (name_of_methodNamed Bd.named Bd.method).1
  have X0 : Stand p l e ({ frames := 1, cells := 0, slots := 0, locals := 12 } : Room) s m #[(.ref a1), (.int i), o, (.ref bE)] below meth c s₁ [] 0 0 := Stand.of_body Bd
  have e0 : s₁.heap = h0 := by rw [← hh, Bd.state]; rfl
  have N0 := Fr.nil n0
  show Goes p e below (Fin s (Q_rm8 Z a1 i o bE ob ub k1 k2 z vs iN h0 n0) ({ frames := 1, cells := 0, slots := 0, locals := 12 } : Room).cells ({ frames := 1, cells := 0, slots := 0, locals := 12 } : Room).slots) _
  refine Goes.via (S' := s₁.setTop (mkF m 0 #[.val (.ref a1), .val (.int i), .val o, .val (.ref bE), .unset, .unset, .unset] [])) (fun tz kz => castTop (ef_8 m a1 i o bE ho) kz) ?_
  refine Goes.via (S' := s₁.setTop (mkF m 6 #[.val (.ref a1), .val (.int i), .val o, .val (.ref bE), .val (.long (9223372036854775807 : Int64)), .second, .unset] [(.ref bE)])) (fun tz kz => ?_) ?_
  · show Steps p.tables e below (s₁.setTop (mkF m 0 #[.val (.ref a1), .val (.int i), .val o, .val (.ref bE), .unset, .unset, .unset] [])) _
    refine X0.ldc2Long hx hown (mvT hZ (hw _ (List.mem_of_getElem? (i := 48) rfl))) (g := (mkF m 0 #[.val (.ref a1), .val (.int i), .val o, .val (.ref bE), .unset, .unset, .unset] [])) rfl (hb hby d8_0) _ ?_
    show Steps p.tables e below (s₁.setTop (mkF m 3 #[.val (.ref a1), .val (.int i), .val o, .val (.ref bE), .unset, .unset, .unset] [(.long (9223372036854775807 : Int64))])) _
    refine XS.lstore X0.here hx rfl (hb hby d8_3) rfl (l' := #[.val (.ref a1), .val (.int i), .val o, .val (.ref bE), .val (.long (9223372036854775807 : Int64)), .second, .unset]) rfl ?_
    show Steps p.tables e below (s₁.setTop (mkF m 5 #[.val (.ref a1), .val (.int i), .val o, .val (.ref bE), .val (.long (9223372036854775807 : Int64)), .second, .unset] [])) _
    refine XS.aloadN X0.here hx rfl (hb hby d8_5) rfl rfl ?_
    exact kz
  obtain ⟨cq1, kq1, q1a, q1b, q1c⟩ := isOf hZ e0 EE
  obtain ⟨_, _, ⟨T1, L1, k1, n1⟩, -, X1, ⟨Lc1, hQ1, l1, y1, z1⟩, st1⟩ := X0.virtualBack hx (y := (⟨"java/util/Optional", "isPresent", "()Z"⟩ : MethodName)) (z := (⟨"java/util/Optional", "isPresent", "()Z"⟩ : MethodName)) hown (mvT hZ (hw _ (List.mem_of_getElem? (i := 49) rfl))) (mvT hZ (hw _ (List.mem_of_getElem? (i := 50) rfl))) (notFace_of_selects (args := #[]) (mvT hZ (hw _ (List.mem_of_getElem? (i := 52) rfl)))) (mvT hZ (hw _ (List.mem_of_getElem? (i := 52) rfl))) (mvT hZ (hw _ (List.mem_of_getElem? (i := 51) rfl))) (by decide) (backOf (W := 0) (rm9 l Z a0 hw [] bE h0 n0 Z0 FE) hZ (hw _ (List.mem_of_getElem? (i := 53) rfl)) (hw _ (List.mem_of_getElem? (i := 40) rfl)) (by decide) (by decide)) q1a q1c (g := (mkF m 6 #[.val (.ref a1), .val (.int i), .val o, .val (.ref bE), .val (.long (9223372036854775807 : Int64)), .second, .unset] [(.ref bE)])) rfl (by rw [hml]; rfl) (Steps.refl _) (argsL := []) (rest := []) (lenOf pd_1 rfl) rfl (by show 2 * 0 + _ ≤ _; exact Nat.le_of_eq rfl) (hb hby d8_6) (fun _ _ => ⟨rfl, e0, (by decide : 0 + 0 ≤ _), (by decide : 0 + 0 ≤ _)⟩)
  dsimp only [Pt.U, Pt.locs, Pt.cells, Pt.slots] at X1 l1 y1 z1 st1 hQ1
  subst l1 y1 z1
  obtain ⟨rfl, N1, e1⟩ := hQ1
  have Nf1 := Fr.app N0 N1
  refine Goes.via (S' := T1.setTop (mkF m 9 #[.val (.ref a1), .val (.int i), .val o, .val (.ref bE), .val (.long (9223372036854775807 : Int64)), .second, .unset] [(.int (0 : Int32))])) (fun _ kz => st1.trans kz) ?_
  refine Goes.via (S' := T1.setTop (mkF m 46 #[.val (.ref a1), .val (.int i), .val o, .val (.ref bE), .val (.long (9223372036854775807 : Int64)), .second, .unset] [(.ref a1)])) (fun tz kz => ?_) ?_
  · show Steps p.tables e below (T1.setTop (mkF m 9 #[.val (.ref a1), .val (.int i), .val o, .val (.ref bE), .val (.long (9223372036854775807 : Int64)), .second, .unset] [(.int (0 : Int32))])) _
    refine XS.ifYes X1.here hx rfl (pc0 := 9) (pc' := 45) rfl (hb hby d8_9) rfl ((if0 _ _).trans (teq (by decide)).1) (by decide) (by decide) ?_
    show Steps p.tables e below (T1.setTop (mkF m 45 #[.val (.ref a1), .val (.int i), .val o, .val (.ref bE), .val (.long (9223372036854775807 : Int64)), .second, .unset] [])) _
    refine XS.aloadN X1.here hx rfl (hb hby d8_45) rfl rfl ?_
    exact kz
  obtain ⟨T2, X2, e2, st2⟩ := getF X1 hx hZ hown (host := "") (Or.inl (hw _ (List.mem_of_getElem? (i := 11) rfl))) Via.refl e1 KAh.2.1 (g := (mkF m 46 #[.val (.ref a1), .val (.int i), .val o, .val (.ref bE), .val (.long (9223372036854775807 : Int64)), .second, .unset] [(.ref a1)])) rfl rfl (hb hby d8_46)
  refine Goes.via (S' := T2.setTop (mkF m 49 #[.val (.ref a1), .val (.int i), .val o, .val (.ref bE), .val (.long (9223372036854775807 : Int64)), .second, .unset] [(.ref ob)])) st2 ?_
  refine Goes.via (S' := T2.setTop (mkF m 51 #[.val (.ref a1), .val (.int i), .val o, .val (.ref bE), .val (.long (9223372036854775807 : Int64)), .second, .unset] [o, (.int i), (.ref ob)])) (fun tz kz => ?_) ?_
  · show Steps p.tables e below (T2.setTop (mkF m 49 #[.val (.ref a1), .val (.int i), .val o, .val (.ref bE), .val (.long (9223372036854775807 : Int64)), .second, .unset] [(.ref ob)])) _
    refine XS.iloadN X2.here hx rfl (hb hby d8_49) rfl ?_
    show Steps p.tables e below (T2.setTop (mkF m 50 #[.val (.ref a1), .val (.int i), .val o, .val (.ref bE), .val (.long (9223372036854775807 : Int64)), .second, .unset] [(.int i), (.ref ob)])) _
    refine XS.aloadN X2.here hx rfl (hb hby d8_50) rfl ho ?_
    exact kz
  obtain ⟨cl3, Ar3, q3, Sz3, Nn3, Hs3, G3⟩ := KAh.2.2.2.1
  have Sto1 : Sto Z h0 ob o := by
    rcases oI with q | ⟨y, q, Ey⟩
    · exact Or.inl q
    · rw [q]; exact Sto.ofV Ar3 q3 KAh.2.2.2.2.1 (Ins.self Ey)
  obtain ⟨T4, h4, X4, e4, W4, st4⟩ := stR X2 hx hZ e2 Ar3 (j := i) (inb_of Sz3 hi) rfl Sto1 (g := (mkF m 51 #[.val (.ref a1), .val (.int i), .val o, .val (.ref bE), .val (.long (9223372036854775807 : Int64)), .second, .unset] [o, (.int i), (.ref ob)])) rfl rfl (hb hby d8_51)
  refine Goes.via (S' := T4.setTop (mkF m 52 #[.val (.ref a1), .val (.int i), .val o, .val (.ref bE), .val (.long (9223372036854775807 : Int64)), .second, .unset] [])) st4 ?_
  have N4 := Fr.snoc X4 Nf1 KAh.2.2.2.2.2.2.2.1
  have Ao := Arv.set Ar3 q3 Sz3 Nn3 Hs3 G3 (fits_refO ho) W4 iN hiN (by rw [hl]; exact hi3)
  have Fo := KAh.2.1.other W4 (Or.inl KAh.2.2.2.2.2.2.2.2.2.2.1)
  have Fu := KAh.2.2.1.other W4 (Or.inl KAh.2.2.2.2.2.2.2.2.2.2.1)
  obtain ⟨us, hus, Au⟩ := KAh.2.2.2.2.2.1
  have Au' := Au.other W4 (Ne.symm KAh.2.2.2.2.2.2.2.2.2.1)
  have Kp := (Keep.refl h0 [ob, ub]).wr W4 (Or.inl (by simp))
  refine Goes.via (S' := T4.setTop (mkF m 53 #[.val (.ref a1), .val (.int i), .val o, .val (.ref bE), .val (.long (9223372036854775807 : Int64)), .second, .unset] [(.ref a1)])) (fun tz kz => ?_) ?_
  · show Steps p.tables e below (T4.setTop (mkF m 52 #[.val (.ref a1), .val (.int i), .val o, .val (.ref bE), .val (.long (9223372036854775807 : Int64)), .second, .unset] [])) _
    refine XS.aloadN X4.here hx rfl (hb hby d8_52) rfl rfl ?_
    exact kz
  obtain ⟨T5, X5, e5, st5⟩ := getF X4 hx hZ hown (host := "") (Or.inl (hw _ (List.mem_of_getElem? (i := 14) rfl))) Via.refl e4 Fu (g := (mkF m 53 #[.val (.ref a1), .val (.int i), .val o, .val (.ref bE), .val (.long (9223372036854775807 : Int64)), .second, .unset] [(.ref a1)])) rfl rfl (hb hby d8_53)
  refine Goes.via (S' := T5.setTop (mkF m 56 #[.val (.ref a1), .val (.int i), .val o, .val (.ref bE), .val (.long (9223372036854775807 : Int64)), .second, .unset] [(.ref ub)])) st5 ?_
  refine Goes.via (S' := T5.setTop (mkF m 59 #[.val (.ref a1), .val (.int i), .val o, .val (.ref bE), .val (.long (9223372036854775807 : Int64)), .second, .unset] [(.long (9223372036854775807 : Int64)), (.int i), (.ref ub)])) (fun tz kz => ?_) ?_
  · show Steps p.tables e below (T5.setTop (mkF m 56 #[.val (.ref a1), .val (.int i), .val o, .val (.ref bE), .val (.long (9223372036854775807 : Int64)), .second, .unset] [(.ref ub)])) _
    refine XS.iloadN X5.here hx rfl (hb hby d8_56) rfl ?_
    show Steps p.tables e below (T5.setTop (mkF m 57 #[.val (.ref a1), .val (.int i), .val o, .val (.ref bE), .val (.long (9223372036854775807 : Int64)), .second, .unset] [(.int i), (.ref ub)])) _
    refine XS.lload X5.here hx rfl (hb hby d8_57) rfl ?_
    exact kz
  obtain ⟨cl6, Ar6, q6, Sz6, Nn6, Hs6, G6⟩ := Au'
  obtain ⟨T7, h7, X7, e7, W7, st7⟩ := stJ X5 hx hZ e5 Ar6 (j := i) (inb_of Sz6 hi) (g := (mkF m 59 #[.val (.ref a1), .val (.int i), .val o, .val (.ref bE), .val (.long (9223372036854775807 : Int64)), .second, .unset] [(.long (9223372036854775807 : Int64)), (.int i), (.ref ub)])) rfl rfl (hb hby d8_59)
  refine Goes.via (S' := T7.setTop (mkF m 60 #[.val (.ref a1), .val (.int i), .val o, .val (.ref bE), .val (.long (9223372036854775807 : Int64)), .second, .unset] [])) st7 ?_
  have N7 := Fr.snoc X7 N4 KAh.2.2.2.2.2.2.2.2.1
  have Au2 := Arv.set Ar6 q6 Sz6 Nn6 Hs6 G6 rfl W7 iN hiN (by rw [hus]; exact hi3)
  exact Goes.retV X7 hx Bd.notSynchronized Bd.returns (hb hby d8_60) (Nat.le_of_ble_eq_true rfl) (Nat.le_of_ble_eq_true rfl) (by rw [e7]; exact ⟨rfl, N7, Kp.wr W7 (Or.inl (by simp)), (KAh.1.wr W4).wr W7, Fo.other W7 (Or.inl KAh.2.2.2.2.2.2.2.2.2.2.2), Fu.other W7 (Or.inl KAh.2.2.2.2.2.2.2.2.2.2.2), Ao.other W7 KAh.2.2.2.2.2.2.2.2.2.1, KAh.2.2.2.2.1, ⟨_, by rw [List.length_set]; exact hus, Au2⟩, KAh.2.2.2.2.2.2⟩)
theorem d3_0 : decode prog_3_method_3_code 0 = .ok (.iconst 0, 1) := by decide +kernel
theorem d3_1 : decode prog_3_method_3_code 1 = .ok (.istore_n 2, 1) := by decide +kernel
theorem d3_2 : decode prog_3_method_3_code 2 = .ok (.aload_n 0, 1) := by decide +kernel
theorem d3_3 : decode prog_3_method_3_code 3 = .ok (.getfield 11, 3) := by decide +kernel
theorem d3_6 : decode prog_3_method_3_code 6 = .ok (.astore_n 3, 1) := by decide +kernel
theorem d3_7 : decode prog_3_method_3_code 7 = .ok (.aload_n 3, 1) := by decide +kernel
theorem d3_8 : decode prog_3_method_3_code 8 = .ok (.arraylength, 1) := by decide +kernel
theorem d3_9 : decode prog_3_method_3_code 9 = .ok (.istore 4, 2) := by decide +kernel
theorem d3_11 : decode prog_3_method_3_code 11 = .ok (.iconst 0, 1) := by decide +kernel
theorem d3_12 : decode prog_3_method_3_code 12 = .ok (.istore 5, 2) := by decide +kernel
theorem d3_14 : decode prog_3_method_3_code 14 = .ok (.iload 5, 2) := by decide +kernel
theorem d3_16 : decode prog_3_method_3_code 16 = .ok (.iload 4, 2) := by decide +kernel
theorem d3_18 : decode prog_3_method_3_code 18 = .ok (.if_icmp .ge 24, 3) := by decide +kernel
theorem d3_21 : decode prog_3_method_3_code 21 = .ok (.aload_n 3, 1) := by decide +kernel
theorem d3_22 : decode prog_3_method_3_code 22 = .ok (.iload 5, 2) := by decide +kernel
theorem d3_24 : decode prog_3_method_3_code 24 = .ok (.aaload, 1) := by decide +kernel
theorem d3_25 : decode prog_3_method_3_code 25 = .ok (.astore 6, 2) := by decide +kernel
theorem d3_27 : decode prog_3_method_3_code 27 = .ok (.aload 6, 2) := by decide +kernel
theorem d3_29 : decode prog_3_method_3_code 29 = .ok (.aload_n 1, 1) := by decide +kernel
theorem d3_30 : decode prog_3_method_3_code 30 = .ok (.if_acmp .ne 6, 3) := by decide +kernel
theorem d3_33 : decode prog_3_method_3_code 33 = .ok (.iinc 2 1, 3) := by decide +kernel
theorem d3_36 : decode prog_3_method_3_code 36 = .ok (.iinc 5 1, 3) := by decide +kernel
theorem d3_39 : decode prog_3_method_3_code 39 = .ok (.goto (-25), 3) := by decide +kernel
theorem d3_42 : decode prog_3_method_3_code 42 = .ok (.iload_n 2, 1) := by decide +kernel
theorem d3_43 : decode prog_3_method_3_code 43 = .ok (.ireturn, 1) := by decide +kernel
theorem pn_3 : plainName "com/example/upkeep_window/upkeepwindow/bench/KeptAnswers" = true := by first | (simp [plainName, overriddenIn]; done) | decide +kernel
theorem ef_3 (m : MethodId) (x0 : Addr) (x1 : Value) (hx1 : x1.isRef = true) : entryFrame m #[(.ref x0), x1] 7 = mkF m 0 #[.val (.ref x0), .val x1, .unset, .unset, .unset, .unset, .unset] [] := by rcases ref_cases hx1 with rfl | ⟨_, rfl⟩ <;> (first | (simp [entryFrame, mkF, argsToLocals, Value.category]; done) | rfl)
def Q_rm3_0 (Z : State) (a1 : Addr) (o : Value) (ob ub : Addr) (k1 k2 : ClassId) (v0 v1 v2 : Value) (h0 : Heap) (n0 : Nat) : Option Value → Heap → List Loc → Prop := fun v h L => v = some (.int (own_cnt (0 : Int32) v0 v1 v2 o)) ∧ Fr n0 L ∧ h = h0
set_option maxRecDepth 65536 in
set_option maxHeartbeats 40000000 in
theorem rm3_0 (l : Launch) (Z : State) (a0 : Array Value) (hw : ∀ d ∈ tables_1, d.before a0 Z = true) (ws : List Jvm.Cond) (a1 : Addr) (o : Value) (ob ub : Addr) (k1 k2 : ClassId) (v0 v1 v2 : Value) (h0 : Heap) (n0 : Nat) (Z0 : n0 ≤ h0.size) (ho : o.isRef = true) (hv0 : v0.isRef = true) (hv1 : v1.isRef = true) (hv2 : v2.isRef = true) (KAh : own_KA Z n0 h0 a1 ob ub k1 k2 (0 : Int32) [v0, v1, v2]) :
    MetFree l (⟨"com/example/upkeep_window/upkeepwindow/bench/KeptAnswers", "count", "(Lcom/example/upkeep_window/upkeepwindow/policy/InstallOption;)I"⟩ : MethodName) (head1 (Jvm.Cond.code (⟨"com/example/upkeep_window/upkeepwindow/bench/KeptAnswers", "count", "(Lcom/example/upkeep_window/upkeepwindow/policy/InstallOption;)I"⟩ : MethodName) prog_3_method_3_code 7 (some .int) :: ws) ({ frames := 0, cells := 0, slots := 0, locals := 0 } : Room)) (fun a U => a = #[(.ref a1), o] ∧ Z.Warmed39 U.vm ∧ U.heap = h0) (fun _ _ _ _ _ => True) (fun _ U oo U' => ∃ vv LL, oo = .returned vv ∧ (Q_rm3_0 Z a1 o ob ub k1 k2 v0 v1 v2 h0 n0) vv U'.heap LL ∧ FrameEnd U oo U' LL ({ frames := 0, cells := 0, slots := 0, locals := 0 } : Room).cells ({ frames := 0, cells := 0, slots := 0, locals := 0 } : Room).slots) := by
  refine MetFree.of_bodySF (plainFor_of_name pn_3) hisR ?_
  intro p e s m args below meth c s₁ Bd hml0 hP hK
  obtain ⟨rfl, hZ, hh⟩ := hP
  have hx := Bd.exec
  have hby := Bd.bytes
  have hml : c.maxLocals = 7 := hml0
  have hown : s.vm.findClass "com/example/upkeep_window/upkeepwindow/bench/KeptAnswers" = some m.cls := findClass_of_methodNamed Bd.named
  have hnm := (name_of_methodNamed Bd.named Bd.method).1
  have X0 : Stand p l e ({ frames := 0, cells := 0, slots := 0, locals := 0 } : Room) s m #[(.ref a1), o] below meth c s₁ [] 0 0 := Stand.of_body Bd
  have e0 : s₁.heap = h0 := by rw [← hh, Bd.state]; rfl
  have N0 := Fr.nil n0
  show Goes p e below (Fin s (Q_rm3_0 Z a1 o ob ub k1 k2 v0 v1 v2 h0 n0) ({ frames := 0, cells := 0, slots := 0, locals := 0 } : Room).cells ({ frames := 0, cells := 0, slots := 0, locals := 0 } : Room).slots) _
  refine Goes.via (S' := s₁.setTop (mkF m 0 #[.val (.ref a1), .val o, .unset, .unset, .unset, .unset, .unset] [])) (fun tz kz => castTop (ef_3 m a1 o ho) kz) ?_
  refine Goes.via (S' := s₁.setTop (mkF m 3 #[.val (.ref a1), .val o, .val (.int (0 : Int32)), .unset, .unset, .unset, .unset] [(.ref a1)])) (fun tz kz => ?_) ?_
  · show Steps p.tables e below (s₁.setTop (mkF m 0 #[.val (.ref a1), .val o, .unset, .unset, .unset, .unset, .unset] [])) _
    refine XS.iconst X0.here hx rfl (hb hby d3_0) ?_
    show Steps p.tables e below (s₁.setTop (mkF m 1 #[.val (.ref a1), .val o, .unset, .unset, .unset, .unset, .unset] [(.int (0 : Int32))])) _
    refine XS.istoreN X0.here hx rfl (hb hby d3_1) rfl (l' := #[.val (.ref a1), .val o, .val (.int (0 : Int32)), .unset, .unset, .unset, .unset]) rfl ?_
    show Steps p.tables e below (s₁.setTop (mkF m 2 #[.val (.ref a1), .val o, .val (.int (0 : Int32)), .unset, .unset, .unset, .unset] [])) _
    refine XS.aloadN X0.here hx rfl (hb hby d3_2) rfl rfl ?_
    exact kz
  obtain ⟨T1, X1, e1, st1⟩ := getF X0 hx hZ hown (host := "") (Or.inl (hw _ (List.mem_of_getElem? (i := 11) rfl))) Via.refl e0 KAh.2.1 (g := (mkF m 3 #[.val (.ref a1), .val o, .val (.int (0 : Int32)), .unset, .unset, .unset, .unset] [(.ref a1)])) rfl rfl (hb hby d3_3)
  refine Goes.via (S' := T1.setTop (mkF m 6 #[.val (.ref a1), .val o, .val (.int (0 : Int32)), .unset, .unset, .unset, .unset] [(.ref ob)])) st1 ?_
  refine Goes.via (S' := T1.setTop (mkF m 8 #[.val (.ref a1), .val o, .val (.int (0 : Int32)), .val (.ref ob), .unset, .unset, .unset] [(.ref ob)])) (fun tz kz => ?_) ?_
  · show Steps p.tables e below (T1.setTop (mkF m 6 #[.val (.ref a1), .val o, .val (.int (0 : Int32)), .unset, .unset, .unset, .unset] [(.ref ob)])) _
    refine XS.astoreN X1.here hx rfl (hb hby d3_6) rfl rfl (l' := #[.val (.ref a1), .val o, .val (.int (0 : Int32)), .val (.ref ob), .unset, .unset, .unset]) rfl ?_
    show Steps p.tables e below (T1.setTop (mkF m 7 #[.val (.ref a1), .val o, .val (.int (0 : Int32)), .val (.ref ob), .unset, .unset, .unset] [])) _
    refine XS.aloadN X1.here hx rfl (hb hby d3_7) rfl rfl ?_
    exact kz
  obtain ⟨cl2, Ar2, q2, Sz2, Nn2, Hs2, G2⟩ := KAh.2.2.2.1
  refine Goes.via (S' := T1.setTop (mkF m 43 #[.val (.ref a1), .val o, .val (.int (0 : Int32)), .val (.ref ob), .val (.int (0 : Int32)), .val (.int (0 : Int32)), .unset] [(.int (0 : Int32))])) (fun tz kz => ?_) ?_
  · show Steps p.tables e below (T1.setTop (mkF m 8 #[.val (.ref a1), .val o, .val (.int (0 : Int32)), .val (.ref ob), .unset, .unset, .unset] [(.ref ob)])) _
    refine X1.arraylength hx (by rw [e1]; exact Ar2.1) (State.isArrayOf_alike hZ.alike Ar2.2.1) (g := (mkF m 8 #[.val (.ref a1), .val o, .val (.int (0 : Int32)), .val (.ref ob), .unset, .unset, .unset] [(.ref ob)])) rfl rfl (hb hby d3_8) _ ?_
    rw [len_of Sz2 Nn2]
    show Steps p.tables e below (T1.setTop (mkF m 9 #[.val (.ref a1), .val o, .val (.int (0 : Int32)), .val (.ref ob), .unset, .unset, .unset] [(.int (0 : Int32))])) _
    refine XS.istore X1.here hx rfl (hb hby d3_9) rfl (l' := #[.val (.ref a1), .val o, .val (.int (0 : Int32)), .val (.ref ob), .val (.int (0 : Int32)), .unset, .unset]) rfl ?_
    show Steps p.tables e below (T1.setTop (mkF m 11 #[.val (.ref a1), .val o, .val (.int (0 : Int32)), .val (.ref ob), .val (.int (0 : Int32)), .unset, .unset] [])) _
    refine XS.iconst X1.here hx rfl (hb hby d3_11) ?_
    show Steps p.tables e below (T1.setTop (mkF m 12 #[.val (.ref a1), .val o, .val (.int (0 : Int32)), .val (.ref ob), .val (.int (0 : Int32)), .unset, .unset] [(.int (0 : Int32))])) _
    refine XS.istore X1.here hx rfl (hb hby d3_12) rfl (l' := #[.val (.ref a1), .val o, .val (.int (0 : Int32)), .val (.ref ob), .val (.int (0 : Int32)), .val (.int (0 : Int32)), .unset]) rfl ?_
    show Steps p.tables e below (T1.setTop (mkF m 14 #[.val (.ref a1), .val o, .val (.int (0 : Int32)), .val (.ref ob), .val (.int (0 : Int32)), .val (.int (0 : Int32)), .unset] [])) _
    refine XS.iload X1.here hx rfl (hb hby d3_14) rfl ?_
    show Steps p.tables e below (T1.setTop (mkF m 16 #[.val (.ref a1), .val o, .val (.int (0 : Int32)), .val (.ref ob), .val (.int (0 : Int32)), .val (.int (0 : Int32)), .unset] [(.int (0 : Int32))])) _
    refine XS.iload X1.here hx rfl (hb hby d3_16) rfl ?_
    show Steps p.tables e below (T1.setTop (mkF m 18 #[.val (.ref a1), .val o, .val (.int (0 : Int32)), .val (.ref ob), .val (.int (0 : Int32)), .val (.int (0 : Int32)), .unset] [(.int (0 : Int32)), (.int (0 : Int32))])) _
    refine XS.icmpYes X1.here hx rfl (pc0 := 18) (pc' := 42) rfl (hb hby d3_18) rfl (flt (by decide)).2.1 (by decide) (by decide) ?_
    show Steps p.tables e below (T1.setTop (mkF m 42 #[.val (.ref a1), .val o, .val (.int (0 : Int32)), .val (.ref ob), .val (.int (0 : Int32)), .val (.int (0 : Int32)), .unset] [])) _
    refine XS.iloadN X1.here hx rfl (hb hby d3_42) rfl ?_
    exact kz
  exact Goes.retI X1 hx Bd.notSynchronized Bd.returns (hb hby d3_43) (Nat.le_of_ble_eq_true rfl) (Nat.le_of_ble_eq_true rfl) ⟨congrArg (fun z => some (Value.int z)) (by rfl), N0, e1⟩
def Q_rm3_1 (Z : State) (a1 : Addr) (o : Value) (ob ub : Addr) (k1 k2 : ClassId) (v0 v1 v2 : Value) (h0 : Heap) (n0 : Nat) : Option Value → Heap → List Loc → Prop := fun v h L => v = some (.int (own_cnt (1 : Int32) v0 v1 v2 o)) ∧ Fr n0 L ∧ h = h0
set_option maxRecDepth 65536 in
set_option maxHeartbeats 40000000 in
theorem rm3_1 (l : Launch) (Z : State) (a0 : Array Value) (hw : ∀ d ∈ tables_1, d.before a0 Z = true) (ws : List Jvm.Cond) (a1 : Addr) (o : Value) (ob ub : Addr) (k1 k2 : ClassId) (v0 v1 v2 : Value) (h0 : Heap) (n0 : Nat) (Z0 : n0 ≤ h0.size) (ho : o.isRef = true) (hv0 : v0.isRef = true) (hv1 : v1.isRef = true) (hv2 : v2.isRef = true) (KAh : own_KA Z n0 h0 a1 ob ub k1 k2 (1 : Int32) [v0, v1, v2]) :
    MetFree l (⟨"com/example/upkeep_window/upkeepwindow/bench/KeptAnswers", "count", "(Lcom/example/upkeep_window/upkeepwindow/policy/InstallOption;)I"⟩ : MethodName) (head1 (Jvm.Cond.code (⟨"com/example/upkeep_window/upkeepwindow/bench/KeptAnswers", "count", "(Lcom/example/upkeep_window/upkeepwindow/policy/InstallOption;)I"⟩ : MethodName) prog_3_method_3_code 7 (some .int) :: ws) ({ frames := 0, cells := 0, slots := 0, locals := 0 } : Room)) (fun a U => a = #[(.ref a1), o] ∧ Z.Warmed39 U.vm ∧ U.heap = h0) (fun _ _ _ _ _ => True) (fun _ U oo U' => ∃ vv LL, oo = .returned vv ∧ (Q_rm3_1 Z a1 o ob ub k1 k2 v0 v1 v2 h0 n0) vv U'.heap LL ∧ FrameEnd U oo U' LL ({ frames := 0, cells := 0, slots := 0, locals := 0 } : Room).cells ({ frames := 0, cells := 0, slots := 0, locals := 0 } : Room).slots) := by
  refine MetFree.of_bodySF (plainFor_of_name pn_3) hisR ?_
  intro p e s m args below meth c s₁ Bd hml0 hP hK
  obtain ⟨rfl, hZ, hh⟩ := hP
  have hx := Bd.exec
  have hby := Bd.bytes
  have hml : c.maxLocals = 7 := hml0
  have hown : s.vm.findClass "com/example/upkeep_window/upkeepwindow/bench/KeptAnswers" = some m.cls := findClass_of_methodNamed Bd.named
  have hnm := (name_of_methodNamed Bd.named Bd.method).1
  have X0 : Stand p l e ({ frames := 0, cells := 0, slots := 0, locals := 0 } : Room) s m #[(.ref a1), o] below meth c s₁ [] 0 0 := Stand.of_body Bd
  have e0 : s₁.heap = h0 := by rw [← hh, Bd.state]; rfl
  have N0 := Fr.nil n0
  show Goes p e below (Fin s (Q_rm3_1 Z a1 o ob ub k1 k2 v0 v1 v2 h0 n0) ({ frames := 0, cells := 0, slots := 0, locals := 0 } : Room).cells ({ frames := 0, cells := 0, slots := 0, locals := 0 } : Room).slots) _
  refine Goes.via (S' := s₁.setTop (mkF m 0 #[.val (.ref a1), .val o, .unset, .unset, .unset, .unset, .unset] [])) (fun tz kz => castTop (ef_3 m a1 o ho) kz) ?_
  refine Goes.via (S' := s₁.setTop (mkF m 3 #[.val (.ref a1), .val o, .val (.int (0 : Int32)), .unset, .unset, .unset, .unset] [(.ref a1)])) (fun tz kz => ?_) ?_
  · show Steps p.tables e below (s₁.setTop (mkF m 0 #[.val (.ref a1), .val o, .unset, .unset, .unset, .unset, .unset] [])) _
    refine XS.iconst X0.here hx rfl (hb hby d3_0) ?_
    show Steps p.tables e below (s₁.setTop (mkF m 1 #[.val (.ref a1), .val o, .unset, .unset, .unset, .unset, .unset] [(.int (0 : Int32))])) _
    refine XS.istoreN X0.here hx rfl (hb hby d3_1) rfl (l' := #[.val (.ref a1), .val o, .val (.int (0 : Int32)), .unset, .unset, .unset, .unset]) rfl ?_
    show Steps p.tables e below (s₁.setTop (mkF m 2 #[.val (.ref a1), .val o, .val (.int (0 : Int32)), .unset, .unset, .unset, .unset] [])) _
    refine XS.aloadN X0.here hx rfl (hb hby d3_2) rfl rfl ?_
    exact kz
  obtain ⟨T1, X1, e1, st1⟩ := getF X0 hx hZ hown (host := "") (Or.inl (hw _ (List.mem_of_getElem? (i := 11) rfl))) Via.refl e0 KAh.2.1 (g := (mkF m 3 #[.val (.ref a1), .val o, .val (.int (0 : Int32)), .unset, .unset, .unset, .unset] [(.ref a1)])) rfl rfl (hb hby d3_3)
  refine Goes.via (S' := T1.setTop (mkF m 6 #[.val (.ref a1), .val o, .val (.int (0 : Int32)), .unset, .unset, .unset, .unset] [(.ref ob)])) st1 ?_
  refine Goes.via (S' := T1.setTop (mkF m 8 #[.val (.ref a1), .val o, .val (.int (0 : Int32)), .val (.ref ob), .unset, .unset, .unset] [(.ref ob)])) (fun tz kz => ?_) ?_
  · show Steps p.tables e below (T1.setTop (mkF m 6 #[.val (.ref a1), .val o, .val (.int (0 : Int32)), .unset, .unset, .unset, .unset] [(.ref ob)])) _
    refine XS.astoreN X1.here hx rfl (hb hby d3_6) rfl rfl (l' := #[.val (.ref a1), .val o, .val (.int (0 : Int32)), .val (.ref ob), .unset, .unset, .unset]) rfl ?_
    show Steps p.tables e below (T1.setTop (mkF m 7 #[.val (.ref a1), .val o, .val (.int (0 : Int32)), .val (.ref ob), .unset, .unset, .unset] [])) _
    refine XS.aloadN X1.here hx rfl (hb hby d3_7) rfl rfl ?_
    exact kz
  obtain ⟨cl2, Ar2, q2, Sz2, Nn2, Hs2, G2⟩ := KAh.2.2.2.1
  refine Goes.via (S' := T1.setTop (mkF m 30 #[.val (.ref a1), .val o, .val (.int (0 : Int32)), .val (.ref ob), .val (.int (1 : Int32)), .val (.int (0 : Int32)), .val v0] [o, v0])) (fun tz kz => ?_) ?_
  · show Steps p.tables e below (T1.setTop (mkF m 8 #[.val (.ref a1), .val o, .val (.int (0 : Int32)), .val (.ref ob), .unset, .unset, .unset] [(.ref ob)])) _
    refine X1.arraylength hx (by rw [e1]; exact Ar2.1) (State.isArrayOf_alike hZ.alike Ar2.2.1) (g := (mkF m 8 #[.val (.ref a1), .val o, .val (.int (0 : Int32)), .val (.ref ob), .unset, .unset, .unset] [(.ref ob)])) rfl rfl (hb hby d3_8) _ ?_
    rw [len_of Sz2 Nn2]
    show Steps p.tables e below (T1.setTop (mkF m 9 #[.val (.ref a1), .val o, .val (.int (0 : Int32)), .val (.ref ob), .unset, .unset, .unset] [(.int (1 : Int32))])) _
    refine XS.istore X1.here hx rfl (hb hby d3_9) rfl (l' := #[.val (.ref a1), .val o, .val (.int (0 : Int32)), .val (.ref ob), .val (.int (1 : Int32)), .unset, .unset]) rfl ?_
    show Steps p.tables e below (T1.setTop (mkF m 11 #[.val (.ref a1), .val o, .val (.int (0 : Int32)), .val (.ref ob), .val (.int (1 : Int32)), .unset, .unset] [])) _
    refine XS.iconst X1.here hx rfl (hb hby d3_11) ?_
    show Steps p.tables e below (T1.setTop (mkF m 12 #[.val (.ref a1), .val o, .val (.int (0 : Int32)), .val (.ref ob), .val (.int (1 : Int32)), .unset, .unset] [(.int (0 : Int32))])) _
    refine XS.istore X1.here hx rfl (hb hby d3_12) rfl (l' := #[.val (.ref a1), .val o, .val (.int (0 : Int32)), .val (.ref ob), .val (.int (1 : Int32)), .val (.int (0 : Int32)), .unset]) rfl ?_
    show Steps p.tables e below (T1.setTop (mkF m 14 #[.val (.ref a1), .val o, .val (.int (0 : Int32)), .val (.ref ob), .val (.int (1 : Int32)), .val (.int (0 : Int32)), .unset] [])) _
    refine XS.iload X1.here hx rfl (hb hby d3_14) rfl ?_
    show Steps p.tables e below (T1.setTop (mkF m 16 #[.val (.ref a1), .val o, .val (.int (0 : Int32)), .val (.ref ob), .val (.int (1 : Int32)), .val (.int (0 : Int32)), .unset] [(.int (0 : Int32))])) _
    refine XS.iload X1.here hx rfl (hb hby d3_16) rfl ?_
    show Steps p.tables e below (T1.setTop (mkF m 18 #[.val (.ref a1), .val o, .val (.int (0 : Int32)), .val (.ref ob), .val (.int (1 : Int32)), .val (.int (0 : Int32)), .unset] [(.int (1 : Int32)), (.int (0 : Int32))])) _
    refine XS.icmpNo X1.here hx rfl (hb hby d3_18) rfl (tlt (by decide)).2.1 ?_
    show Steps p.tables e below (T1.setTop (mkF m 21 #[.val (.ref a1), .val o, .val (.int (0 : Int32)), .val (.ref ob), .val (.int (1 : Int32)), .val (.int (0 : Int32)), .unset] [])) _
    refine XS.aloadN X1.here hx rfl (hb hby d3_21) rfl rfl ?_
    show Steps p.tables e below (T1.setTop (mkF m 22 #[.val (.ref a1), .val o, .val (.int (0 : Int32)), .val (.ref ob), .val (.int (1 : Int32)), .val (.int (0 : Int32)), .unset] [(.ref ob)])) _
    refine XS.iload X1.here hx rfl (hb hby d3_22) rfl ?_
    show Steps p.tables e below (T1.setTop (mkF m 24 #[.val (.ref a1), .val o, .val (.int (0 : Int32)), .val (.ref ob), .val (.int (1 : Int32)), .val (.int (0 : Int32)), .unset] [(.int (0 : Int32)), (.ref ob)])) _
    refine X1.aaload hx (j := (0 : Int32)) (v := v0) (by rw [e1]; exact Ar2.1) (State.isArrayOf_alike hZ.alike Ar2.2.1) rfl Ar2.2.2 (inb_of Sz2 ⟨by decide, by decide⟩) (Has.at Hs2 (inb_of Sz2 ⟨by decide, by decide⟩) rfl) (g := (mkF m 24 #[.val (.ref a1), .val o, .val (.int (0 : Int32)), .val (.ref ob), .val (.int (1 : Int32)), .val (.int (0 : Int32)), .unset] [(.int (0 : Int32)), (.ref ob)])) rfl rfl (hb hby d3_24) _ ?_
    show Steps p.tables e below (T1.setTop (mkF m 25 #[.val (.ref a1), .val o, .val (.int (0 : Int32)), .val (.ref ob), .val (.int (1 : Int32)), .val (.int (0 : Int32)), .unset] [v0])) _
    refine XS.astore X1.here hx rfl (hb hby d3_25) rfl hv0 (l' := #[.val (.ref a1), .val o, .val (.int (0 : Int32)), .val (.ref ob), .val (.int (1 : Int32)), .val (.int (0 : Int32)), .val v0]) (XS.store1 (o := .unset) rfl (Or.inl rfl) (cat_ref hv0)) ?_
    show Steps p.tables e below (T1.setTop (mkF m 27 #[.val (.ref a1), .val o, .val (.int (0 : Int32)), .val (.ref ob), .val (.int (1 : Int32)), .val (.int (0 : Int32)), .val v0] [])) _
    refine XS.aload X1.here hx rfl (hb hby d3_27) rfl hv0 ?_
    show Steps p.tables e below (T1.setTop (mkF m 29 #[.val (.ref a1), .val o, .val (.int (0 : Int32)), .val (.ref ob), .val (.int (1 : Int32)), .val (.int (0 : Int32)), .val v0] [v0])) _
    refine XS.aloadN X1.here hx rfl (hb hby d3_29) rfl ho ?_
    exact kz
  obtain ⟨r4, hr4⟩ : ∃ zz_ : Int32, zz_ = (if v0 = o then (1 : Int32) else (0 : Int32)) := ⟨_, rfl⟩
  have j30_5 : ∀ t, Steps p.tables e below (T1.setTop (mkF m 36 #[.val (.ref a1), .val o, .val (.int r4), .val (.ref ob), .val (.int (1 : Int32)), .val (.int (0 : Int32)), .val v0] [])) t → Steps p.tables e below (T1.setTop (mkF m 30 #[.val (.ref a1), .val o, .val (.int (0 : Int32)), .val (.ref ob), .val (.int (1 : Int32)), .val (.int (0 : Int32)), .val v0] [o, v0])) t := by
    intro tz kz
    by_cases hc30_3 : v0 = o
    · rw [if_pos hc30_3] at hr4
      show Steps p.tables e below (T1.setTop (mkF m 30 #[.val (.ref a1), .val o, .val (.int (0 : Int32)), .val (.ref ob), .val (.int (1 : Int32)), .val (.int (0 : Int32)), .val v0] [o, v0])) _
      refine Jvm.RoadKit.acmp (g := (mkF m 30 #[.val (.ref a1), .val o, .val (.int (0 : Int32)), .val (.ref ob), .val (.int (1 : Int32)), .val (.int (0 : Int32)), .val v0] [o, v0])) X1 hx rfl hv0 ho (pc0 := 30) (pc' := 33) (same := true) rfl (hb hby d3_30) rfl (decide_eq_true hc30_3) (by decide) (by decide) ?_
      show Steps p.tables e below (T1.setTop (mkF m 33 #[.val (.ref a1), .val o, .val (.int (0 : Int32)), .val (.ref ob), .val (.int (1 : Int32)), .val (.int (0 : Int32)), .val v0] [])) _
      refine XS.iinc X1.here hx rfl (hb hby d3_33) rfl (l' := #[.val (.ref a1), .val o, .val (.int (1 : Int32)), .val (.ref ob), .val (.int (1 : Int32)), .val (.int (0 : Int32)), .val v0]) rfl ?_
      subst hr4
      exact kz
    · rw [if_neg hc30_3] at hr4
      show Steps p.tables e below (T1.setTop (mkF m 30 #[.val (.ref a1), .val o, .val (.int (0 : Int32)), .val (.ref ob), .val (.int (1 : Int32)), .val (.int (0 : Int32)), .val v0] [o, v0])) _
      refine Jvm.RoadKit.acmp (g := (mkF m 30 #[.val (.ref a1), .val o, .val (.int (0 : Int32)), .val (.ref ob), .val (.int (1 : Int32)), .val (.int (0 : Int32)), .val v0] [o, v0])) X1 hx rfl hv0 ho (pc0 := 30) (pc' := 36) (same := false) rfl (hb hby d3_30) rfl (decide_eq_false hc30_3) (by decide) (by decide) ?_
      subst hr4
      exact kz
  refine Goes.via j30_5 ?_
  refine Goes.via (S' := T1.setTop (mkF m 43 #[.val (.ref a1), .val o, .val (.int r4), .val (.ref ob), .val (.int (1 : Int32)), .val (.int (1 : Int32)), .val v0] [(.int r4)])) (fun tz kz => ?_) ?_
  · show Steps p.tables e below (T1.setTop (mkF m 36 #[.val (.ref a1), .val o, .val (.int r4), .val (.ref ob), .val (.int (1 : Int32)), .val (.int (0 : Int32)), .val v0] [])) _
    refine XS.iinc X1.here hx rfl (hb hby d3_36) rfl (l' := #[.val (.ref a1), .val o, .val (.int r4), .val (.ref ob), .val (.int (1 : Int32)), .val (.int (1 : Int32)), .val v0]) rfl ?_
    show Steps p.tables e below (T1.setTop (mkF m 39 #[.val (.ref a1), .val o, .val (.int r4), .val (.ref ob), .val (.int (1 : Int32)), .val (.int (1 : Int32)), .val v0] [])) _
    refine XS.goto X1.here hx rfl (pc0 := 39) (pc' := 14) rfl (hb hby d3_39) (by decide) (by decide) ?_
    show Steps p.tables e below (T1.setTop (mkF m 14 #[.val (.ref a1), .val o, .val (.int r4), .val (.ref ob), .val (.int (1 : Int32)), .val (.int (1 : Int32)), .val v0] [])) _
    refine XS.iload X1.here hx rfl (hb hby d3_14) rfl ?_
    show Steps p.tables e below (T1.setTop (mkF m 16 #[.val (.ref a1), .val o, .val (.int r4), .val (.ref ob), .val (.int (1 : Int32)), .val (.int (1 : Int32)), .val v0] [(.int (1 : Int32))])) _
    refine XS.iload X1.here hx rfl (hb hby d3_16) rfl ?_
    show Steps p.tables e below (T1.setTop (mkF m 18 #[.val (.ref a1), .val o, .val (.int r4), .val (.ref ob), .val (.int (1 : Int32)), .val (.int (1 : Int32)), .val v0] [(.int (1 : Int32)), (.int (1 : Int32))])) _
    refine XS.icmpYes X1.here hx rfl (pc0 := 18) (pc' := 42) rfl (hb hby d3_18) rfl (flt (by decide)).2.1 (by decide) (by decide) ?_
    show Steps p.tables e below (T1.setTop (mkF m 42 #[.val (.ref a1), .val o, .val (.int r4), .val (.ref ob), .val (.int (1 : Int32)), .val (.int (1 : Int32)), .val v0] [])) _
    refine XS.iloadN X1.here hx rfl (hb hby d3_42) rfl ?_
    exact kz
  exact Goes.retI X1 hx Bd.notSynchronized Bd.returns (hb hby d3_43) (Nat.le_of_ble_eq_true rfl) (Nat.le_of_ble_eq_true rfl) ⟨congrArg (fun z => some (Value.int z)) (by subst hr4; rfl), N0, e1⟩
def Q_rm3_2 (Z : State) (a1 : Addr) (o : Value) (ob ub : Addr) (k1 k2 : ClassId) (v0 v1 v2 : Value) (h0 : Heap) (n0 : Nat) : Option Value → Heap → List Loc → Prop := fun v h L => v = some (.int (own_cnt (2 : Int32) v0 v1 v2 o)) ∧ Fr n0 L ∧ h = h0
set_option maxRecDepth 65536 in
set_option maxHeartbeats 40000000 in
theorem rm3_2 (l : Launch) (Z : State) (a0 : Array Value) (hw : ∀ d ∈ tables_1, d.before a0 Z = true) (ws : List Jvm.Cond) (a1 : Addr) (o : Value) (ob ub : Addr) (k1 k2 : ClassId) (v0 v1 v2 : Value) (h0 : Heap) (n0 : Nat) (Z0 : n0 ≤ h0.size) (ho : o.isRef = true) (hv0 : v0.isRef = true) (hv1 : v1.isRef = true) (hv2 : v2.isRef = true) (KAh : own_KA Z n0 h0 a1 ob ub k1 k2 (2 : Int32) [v0, v1, v2]) :
    MetFree l (⟨"com/example/upkeep_window/upkeepwindow/bench/KeptAnswers", "count", "(Lcom/example/upkeep_window/upkeepwindow/policy/InstallOption;)I"⟩ : MethodName) (head1 (Jvm.Cond.code (⟨"com/example/upkeep_window/upkeepwindow/bench/KeptAnswers", "count", "(Lcom/example/upkeep_window/upkeepwindow/policy/InstallOption;)I"⟩ : MethodName) prog_3_method_3_code 7 (some .int) :: ws) ({ frames := 0, cells := 0, slots := 0, locals := 0 } : Room)) (fun a U => a = #[(.ref a1), o] ∧ Z.Warmed39 U.vm ∧ U.heap = h0) (fun _ _ _ _ _ => True) (fun _ U oo U' => ∃ vv LL, oo = .returned vv ∧ (Q_rm3_2 Z a1 o ob ub k1 k2 v0 v1 v2 h0 n0) vv U'.heap LL ∧ FrameEnd U oo U' LL ({ frames := 0, cells := 0, slots := 0, locals := 0 } : Room).cells ({ frames := 0, cells := 0, slots := 0, locals := 0 } : Room).slots) := by
  refine MetFree.of_bodySF (plainFor_of_name pn_3) hisR ?_
  intro p e s m args below meth c s₁ Bd hml0 hP hK
  obtain ⟨rfl, hZ, hh⟩ := hP
  have hx := Bd.exec
  have hby := Bd.bytes
  have hml : c.maxLocals = 7 := hml0
  have hown : s.vm.findClass "com/example/upkeep_window/upkeepwindow/bench/KeptAnswers" = some m.cls := findClass_of_methodNamed Bd.named
  have hnm := (name_of_methodNamed Bd.named Bd.method).1
  have X0 : Stand p l e ({ frames := 0, cells := 0, slots := 0, locals := 0 } : Room) s m #[(.ref a1), o] below meth c s₁ [] 0 0 := Stand.of_body Bd
  have e0 : s₁.heap = h0 := by rw [← hh, Bd.state]; rfl
  have N0 := Fr.nil n0
  show Goes p e below (Fin s (Q_rm3_2 Z a1 o ob ub k1 k2 v0 v1 v2 h0 n0) ({ frames := 0, cells := 0, slots := 0, locals := 0 } : Room).cells ({ frames := 0, cells := 0, slots := 0, locals := 0 } : Room).slots) _
  refine Goes.via (S' := s₁.setTop (mkF m 0 #[.val (.ref a1), .val o, .unset, .unset, .unset, .unset, .unset] [])) (fun tz kz => castTop (ef_3 m a1 o ho) kz) ?_
  refine Goes.via (S' := s₁.setTop (mkF m 3 #[.val (.ref a1), .val o, .val (.int (0 : Int32)), .unset, .unset, .unset, .unset] [(.ref a1)])) (fun tz kz => ?_) ?_
  · show Steps p.tables e below (s₁.setTop (mkF m 0 #[.val (.ref a1), .val o, .unset, .unset, .unset, .unset, .unset] [])) _
    refine XS.iconst X0.here hx rfl (hb hby d3_0) ?_
    show Steps p.tables e below (s₁.setTop (mkF m 1 #[.val (.ref a1), .val o, .unset, .unset, .unset, .unset, .unset] [(.int (0 : Int32))])) _
    refine XS.istoreN X0.here hx rfl (hb hby d3_1) rfl (l' := #[.val (.ref a1), .val o, .val (.int (0 : Int32)), .unset, .unset, .unset, .unset]) rfl ?_
    show Steps p.tables e below (s₁.setTop (mkF m 2 #[.val (.ref a1), .val o, .val (.int (0 : Int32)), .unset, .unset, .unset, .unset] [])) _
    refine XS.aloadN X0.here hx rfl (hb hby d3_2) rfl rfl ?_
    exact kz
  obtain ⟨T1, X1, e1, st1⟩ := getF X0 hx hZ hown (host := "") (Or.inl (hw _ (List.mem_of_getElem? (i := 11) rfl))) Via.refl e0 KAh.2.1 (g := (mkF m 3 #[.val (.ref a1), .val o, .val (.int (0 : Int32)), .unset, .unset, .unset, .unset] [(.ref a1)])) rfl rfl (hb hby d3_3)
  refine Goes.via (S' := T1.setTop (mkF m 6 #[.val (.ref a1), .val o, .val (.int (0 : Int32)), .unset, .unset, .unset, .unset] [(.ref ob)])) st1 ?_
  refine Goes.via (S' := T1.setTop (mkF m 8 #[.val (.ref a1), .val o, .val (.int (0 : Int32)), .val (.ref ob), .unset, .unset, .unset] [(.ref ob)])) (fun tz kz => ?_) ?_
  · show Steps p.tables e below (T1.setTop (mkF m 6 #[.val (.ref a1), .val o, .val (.int (0 : Int32)), .unset, .unset, .unset, .unset] [(.ref ob)])) _
    refine XS.astoreN X1.here hx rfl (hb hby d3_6) rfl rfl (l' := #[.val (.ref a1), .val o, .val (.int (0 : Int32)), .val (.ref ob), .unset, .unset, .unset]) rfl ?_
    show Steps p.tables e below (T1.setTop (mkF m 7 #[.val (.ref a1), .val o, .val (.int (0 : Int32)), .val (.ref ob), .unset, .unset, .unset] [])) _
    refine XS.aloadN X1.here hx rfl (hb hby d3_7) rfl rfl ?_
    exact kz
  obtain ⟨cl2, Ar2, q2, Sz2, Nn2, Hs2, G2⟩ := KAh.2.2.2.1
  refine Goes.via (S' := T1.setTop (mkF m 30 #[.val (.ref a1), .val o, .val (.int (0 : Int32)), .val (.ref ob), .val (.int (2 : Int32)), .val (.int (0 : Int32)), .val v0] [o, v0])) (fun tz kz => ?_) ?_
  · show Steps p.tables e below (T1.setTop (mkF m 8 #[.val (.ref a1), .val o, .val (.int (0 : Int32)), .val (.ref ob), .unset, .unset, .unset] [(.ref ob)])) _
    refine X1.arraylength hx (by rw [e1]; exact Ar2.1) (State.isArrayOf_alike hZ.alike Ar2.2.1) (g := (mkF m 8 #[.val (.ref a1), .val o, .val (.int (0 : Int32)), .val (.ref ob), .unset, .unset, .unset] [(.ref ob)])) rfl rfl (hb hby d3_8) _ ?_
    rw [len_of Sz2 Nn2]
    show Steps p.tables e below (T1.setTop (mkF m 9 #[.val (.ref a1), .val o, .val (.int (0 : Int32)), .val (.ref ob), .unset, .unset, .unset] [(.int (2 : Int32))])) _
    refine XS.istore X1.here hx rfl (hb hby d3_9) rfl (l' := #[.val (.ref a1), .val o, .val (.int (0 : Int32)), .val (.ref ob), .val (.int (2 : Int32)), .unset, .unset]) rfl ?_
    show Steps p.tables e below (T1.setTop (mkF m 11 #[.val (.ref a1), .val o, .val (.int (0 : Int32)), .val (.ref ob), .val (.int (2 : Int32)), .unset, .unset] [])) _
    refine XS.iconst X1.here hx rfl (hb hby d3_11) ?_
    show Steps p.tables e below (T1.setTop (mkF m 12 #[.val (.ref a1), .val o, .val (.int (0 : Int32)), .val (.ref ob), .val (.int (2 : Int32)), .unset, .unset] [(.int (0 : Int32))])) _
    refine XS.istore X1.here hx rfl (hb hby d3_12) rfl (l' := #[.val (.ref a1), .val o, .val (.int (0 : Int32)), .val (.ref ob), .val (.int (2 : Int32)), .val (.int (0 : Int32)), .unset]) rfl ?_
    show Steps p.tables e below (T1.setTop (mkF m 14 #[.val (.ref a1), .val o, .val (.int (0 : Int32)), .val (.ref ob), .val (.int (2 : Int32)), .val (.int (0 : Int32)), .unset] [])) _
    refine XS.iload X1.here hx rfl (hb hby d3_14) rfl ?_
    show Steps p.tables e below (T1.setTop (mkF m 16 #[.val (.ref a1), .val o, .val (.int (0 : Int32)), .val (.ref ob), .val (.int (2 : Int32)), .val (.int (0 : Int32)), .unset] [(.int (0 : Int32))])) _
    refine XS.iload X1.here hx rfl (hb hby d3_16) rfl ?_
    show Steps p.tables e below (T1.setTop (mkF m 18 #[.val (.ref a1), .val o, .val (.int (0 : Int32)), .val (.ref ob), .val (.int (2 : Int32)), .val (.int (0 : Int32)), .unset] [(.int (2 : Int32)), (.int (0 : Int32))])) _
    refine XS.icmpNo X1.here hx rfl (hb hby d3_18) rfl (tlt (by decide)).2.1 ?_
    show Steps p.tables e below (T1.setTop (mkF m 21 #[.val (.ref a1), .val o, .val (.int (0 : Int32)), .val (.ref ob), .val (.int (2 : Int32)), .val (.int (0 : Int32)), .unset] [])) _
    refine XS.aloadN X1.here hx rfl (hb hby d3_21) rfl rfl ?_
    show Steps p.tables e below (T1.setTop (mkF m 22 #[.val (.ref a1), .val o, .val (.int (0 : Int32)), .val (.ref ob), .val (.int (2 : Int32)), .val (.int (0 : Int32)), .unset] [(.ref ob)])) _
    refine XS.iload X1.here hx rfl (hb hby d3_22) rfl ?_
    show Steps p.tables e below (T1.setTop (mkF m 24 #[.val (.ref a1), .val o, .val (.int (0 : Int32)), .val (.ref ob), .val (.int (2 : Int32)), .val (.int (0 : Int32)), .unset] [(.int (0 : Int32)), (.ref ob)])) _
    refine X1.aaload hx (j := (0 : Int32)) (v := v0) (by rw [e1]; exact Ar2.1) (State.isArrayOf_alike hZ.alike Ar2.2.1) rfl Ar2.2.2 (inb_of Sz2 ⟨by decide, by decide⟩) (Has.at Hs2 (inb_of Sz2 ⟨by decide, by decide⟩) rfl) (g := (mkF m 24 #[.val (.ref a1), .val o, .val (.int (0 : Int32)), .val (.ref ob), .val (.int (2 : Int32)), .val (.int (0 : Int32)), .unset] [(.int (0 : Int32)), (.ref ob)])) rfl rfl (hb hby d3_24) _ ?_
    show Steps p.tables e below (T1.setTop (mkF m 25 #[.val (.ref a1), .val o, .val (.int (0 : Int32)), .val (.ref ob), .val (.int (2 : Int32)), .val (.int (0 : Int32)), .unset] [v0])) _
    refine XS.astore X1.here hx rfl (hb hby d3_25) rfl hv0 (l' := #[.val (.ref a1), .val o, .val (.int (0 : Int32)), .val (.ref ob), .val (.int (2 : Int32)), .val (.int (0 : Int32)), .val v0]) (XS.store1 (o := .unset) rfl (Or.inl rfl) (cat_ref hv0)) ?_
    show Steps p.tables e below (T1.setTop (mkF m 27 #[.val (.ref a1), .val o, .val (.int (0 : Int32)), .val (.ref ob), .val (.int (2 : Int32)), .val (.int (0 : Int32)), .val v0] [])) _
    refine XS.aload X1.here hx rfl (hb hby d3_27) rfl hv0 ?_
    show Steps p.tables e below (T1.setTop (mkF m 29 #[.val (.ref a1), .val o, .val (.int (0 : Int32)), .val (.ref ob), .val (.int (2 : Int32)), .val (.int (0 : Int32)), .val v0] [v0])) _
    refine XS.aloadN X1.here hx rfl (hb hby d3_29) rfl ho ?_
    exact kz
  obtain ⟨r4, hr4⟩ : ∃ zz_ : Int32, zz_ = (if v0 = o then (1 : Int32) else (0 : Int32)) := ⟨_, rfl⟩
  have j30_5 : ∀ t, Steps p.tables e below (T1.setTop (mkF m 36 #[.val (.ref a1), .val o, .val (.int r4), .val (.ref ob), .val (.int (2 : Int32)), .val (.int (0 : Int32)), .val v0] [])) t → Steps p.tables e below (T1.setTop (mkF m 30 #[.val (.ref a1), .val o, .val (.int (0 : Int32)), .val (.ref ob), .val (.int (2 : Int32)), .val (.int (0 : Int32)), .val v0] [o, v0])) t := by
    intro tz kz
    by_cases hc30_3 : v0 = o
    · rw [if_pos hc30_3] at hr4
      show Steps p.tables e below (T1.setTop (mkF m 30 #[.val (.ref a1), .val o, .val (.int (0 : Int32)), .val (.ref ob), .val (.int (2 : Int32)), .val (.int (0 : Int32)), .val v0] [o, v0])) _
      refine Jvm.RoadKit.acmp (g := (mkF m 30 #[.val (.ref a1), .val o, .val (.int (0 : Int32)), .val (.ref ob), .val (.int (2 : Int32)), .val (.int (0 : Int32)), .val v0] [o, v0])) X1 hx rfl hv0 ho (pc0 := 30) (pc' := 33) (same := true) rfl (hb hby d3_30) rfl (decide_eq_true hc30_3) (by decide) (by decide) ?_
      show Steps p.tables e below (T1.setTop (mkF m 33 #[.val (.ref a1), .val o, .val (.int (0 : Int32)), .val (.ref ob), .val (.int (2 : Int32)), .val (.int (0 : Int32)), .val v0] [])) _
      refine XS.iinc X1.here hx rfl (hb hby d3_33) rfl (l' := #[.val (.ref a1), .val o, .val (.int (1 : Int32)), .val (.ref ob), .val (.int (2 : Int32)), .val (.int (0 : Int32)), .val v0]) rfl ?_
      subst hr4
      exact kz
    · rw [if_neg hc30_3] at hr4
      show Steps p.tables e below (T1.setTop (mkF m 30 #[.val (.ref a1), .val o, .val (.int (0 : Int32)), .val (.ref ob), .val (.int (2 : Int32)), .val (.int (0 : Int32)), .val v0] [o, v0])) _
      refine Jvm.RoadKit.acmp (g := (mkF m 30 #[.val (.ref a1), .val o, .val (.int (0 : Int32)), .val (.ref ob), .val (.int (2 : Int32)), .val (.int (0 : Int32)), .val v0] [o, v0])) X1 hx rfl hv0 ho (pc0 := 30) (pc' := 36) (same := false) rfl (hb hby d3_30) rfl (decide_eq_false hc30_3) (by decide) (by decide) ?_
      subst hr4
      exact kz
  refine Goes.via j30_5 ?_
  refine Goes.via (S' := T1.setTop (mkF m 30 #[.val (.ref a1), .val o, .val (.int r4), .val (.ref ob), .val (.int (2 : Int32)), .val (.int (1 : Int32)), .val v1] [o, v1])) (fun tz kz => ?_) ?_
  · show Steps p.tables e below (T1.setTop (mkF m 36 #[.val (.ref a1), .val o, .val (.int r4), .val (.ref ob), .val (.int (2 : Int32)), .val (.int (0 : Int32)), .val v0] [])) _
    refine XS.iinc X1.here hx rfl (hb hby d3_36) rfl (l' := #[.val (.ref a1), .val o, .val (.int r4), .val (.ref ob), .val (.int (2 : Int32)), .val (.int (1 : Int32)), .val v0]) rfl ?_
    show Steps p.tables e below (T1.setTop (mkF m 39 #[.val (.ref a1), .val o, .val (.int r4), .val (.ref ob), .val (.int (2 : Int32)), .val (.int (1 : Int32)), .val v0] [])) _
    refine XS.goto X1.here hx rfl (pc0 := 39) (pc' := 14) rfl (hb hby d3_39) (by decide) (by decide) ?_
    show Steps p.tables e below (T1.setTop (mkF m 14 #[.val (.ref a1), .val o, .val (.int r4), .val (.ref ob), .val (.int (2 : Int32)), .val (.int (1 : Int32)), .val v0] [])) _
    refine XS.iload X1.here hx rfl (hb hby d3_14) rfl ?_
    show Steps p.tables e below (T1.setTop (mkF m 16 #[.val (.ref a1), .val o, .val (.int r4), .val (.ref ob), .val (.int (2 : Int32)), .val (.int (1 : Int32)), .val v0] [(.int (1 : Int32))])) _
    refine XS.iload X1.here hx rfl (hb hby d3_16) rfl ?_
    show Steps p.tables e below (T1.setTop (mkF m 18 #[.val (.ref a1), .val o, .val (.int r4), .val (.ref ob), .val (.int (2 : Int32)), .val (.int (1 : Int32)), .val v0] [(.int (2 : Int32)), (.int (1 : Int32))])) _
    refine XS.icmpNo X1.here hx rfl (hb hby d3_18) rfl (tlt (by decide)).2.1 ?_
    show Steps p.tables e below (T1.setTop (mkF m 21 #[.val (.ref a1), .val o, .val (.int r4), .val (.ref ob), .val (.int (2 : Int32)), .val (.int (1 : Int32)), .val v0] [])) _
    refine XS.aloadN X1.here hx rfl (hb hby d3_21) rfl rfl ?_
    show Steps p.tables e below (T1.setTop (mkF m 22 #[.val (.ref a1), .val o, .val (.int r4), .val (.ref ob), .val (.int (2 : Int32)), .val (.int (1 : Int32)), .val v0] [(.ref ob)])) _
    refine XS.iload X1.here hx rfl (hb hby d3_22) rfl ?_
    show Steps p.tables e below (T1.setTop (mkF m 24 #[.val (.ref a1), .val o, .val (.int r4), .val (.ref ob), .val (.int (2 : Int32)), .val (.int (1 : Int32)), .val v0] [(.int (1 : Int32)), (.ref ob)])) _
    refine X1.aaload hx (j := (1 : Int32)) (v := v1) (by rw [e1]; exact Ar2.1) (State.isArrayOf_alike hZ.alike Ar2.2.1) rfl Ar2.2.2 (inb_of Sz2 ⟨by decide, by decide⟩) (Has.at Hs2 (inb_of Sz2 ⟨by decide, by decide⟩) rfl) (g := (mkF m 24 #[.val (.ref a1), .val o, .val (.int r4), .val (.ref ob), .val (.int (2 : Int32)), .val (.int (1 : Int32)), .val v0] [(.int (1 : Int32)), (.ref ob)])) rfl rfl (hb hby d3_24) _ ?_
    show Steps p.tables e below (T1.setTop (mkF m 25 #[.val (.ref a1), .val o, .val (.int r4), .val (.ref ob), .val (.int (2 : Int32)), .val (.int (1 : Int32)), .val v0] [v1])) _
    refine XS.astore X1.here hx rfl (hb hby d3_25) rfl hv1 (l' := #[.val (.ref a1), .val o, .val (.int r4), .val (.ref ob), .val (.int (2 : Int32)), .val (.int (1 : Int32)), .val v1]) (XS.store1 (o := .val v0) rfl (Or.inr ⟨_, rfl, cat_ref hv0⟩) (cat_ref hv1)) ?_
    show Steps p.tables e below (T1.setTop (mkF m 27 #[.val (.ref a1), .val o, .val (.int r4), .val (.ref ob), .val (.int (2 : Int32)), .val (.int (1 : Int32)), .val v1] [])) _
    refine XS.aload X1.here hx rfl (hb hby d3_27) rfl hv1 ?_
    show Steps p.tables e below (T1.setTop (mkF m 29 #[.val (.ref a1), .val o, .val (.int r4), .val (.ref ob), .val (.int (2 : Int32)), .val (.int (1 : Int32)), .val v1] [v1])) _
    refine XS.aloadN X1.here hx rfl (hb hby d3_29) rfl ho ?_
    exact kz
  obtain ⟨r7, hr7⟩ : ∃ zz_ : Int32, zz_ = (if v1 = o then (r4 + (1 : Int32)) else r4) := ⟨_, rfl⟩
  have j30_8 : ∀ t, Steps p.tables e below (T1.setTop (mkF m 36 #[.val (.ref a1), .val o, .val (.int r7), .val (.ref ob), .val (.int (2 : Int32)), .val (.int (1 : Int32)), .val v1] [])) t → Steps p.tables e below (T1.setTop (mkF m 30 #[.val (.ref a1), .val o, .val (.int r4), .val (.ref ob), .val (.int (2 : Int32)), .val (.int (1 : Int32)), .val v1] [o, v1])) t := by
    intro tz kz
    by_cases hc30_6 : v1 = o
    · rw [if_pos hc30_6] at hr7
      show Steps p.tables e below (T1.setTop (mkF m 30 #[.val (.ref a1), .val o, .val (.int r4), .val (.ref ob), .val (.int (2 : Int32)), .val (.int (1 : Int32)), .val v1] [o, v1])) _
      refine Jvm.RoadKit.acmp (g := (mkF m 30 #[.val (.ref a1), .val o, .val (.int r4), .val (.ref ob), .val (.int (2 : Int32)), .val (.int (1 : Int32)), .val v1] [o, v1])) X1 hx rfl hv1 ho (pc0 := 30) (pc' := 33) (same := true) rfl (hb hby d3_30) rfl (decide_eq_true hc30_6) (by decide) (by decide) ?_
      show Steps p.tables e below (T1.setTop (mkF m 33 #[.val (.ref a1), .val o, .val (.int r4), .val (.ref ob), .val (.int (2 : Int32)), .val (.int (1 : Int32)), .val v1] [])) _
      refine XS.iinc X1.here hx rfl (hb hby d3_33) rfl (l' := #[.val (.ref a1), .val o, .val (.int (r4 + (1 : Int32))), .val (.ref ob), .val (.int (2 : Int32)), .val (.int (1 : Int32)), .val v1]) rfl ?_
      subst hr7
      exact kz
    · rw [if_neg hc30_6] at hr7
      show Steps p.tables e below (T1.setTop (mkF m 30 #[.val (.ref a1), .val o, .val (.int r4), .val (.ref ob), .val (.int (2 : Int32)), .val (.int (1 : Int32)), .val v1] [o, v1])) _
      refine Jvm.RoadKit.acmp (g := (mkF m 30 #[.val (.ref a1), .val o, .val (.int r4), .val (.ref ob), .val (.int (2 : Int32)), .val (.int (1 : Int32)), .val v1] [o, v1])) X1 hx rfl hv1 ho (pc0 := 30) (pc' := 36) (same := false) rfl (hb hby d3_30) rfl (decide_eq_false hc30_6) (by decide) (by decide) ?_
      subst hr7
      exact kz
  refine Goes.via j30_8 ?_
  refine Goes.via (S' := T1.setTop (mkF m 43 #[.val (.ref a1), .val o, .val (.int r7), .val (.ref ob), .val (.int (2 : Int32)), .val (.int (2 : Int32)), .val v1] [(.int r7)])) (fun tz kz => ?_) ?_
  · show Steps p.tables e below (T1.setTop (mkF m 36 #[.val (.ref a1), .val o, .val (.int r7), .val (.ref ob), .val (.int (2 : Int32)), .val (.int (1 : Int32)), .val v1] [])) _
    refine XS.iinc X1.here hx rfl (hb hby d3_36) rfl (l' := #[.val (.ref a1), .val o, .val (.int r7), .val (.ref ob), .val (.int (2 : Int32)), .val (.int (2 : Int32)), .val v1]) rfl ?_
    show Steps p.tables e below (T1.setTop (mkF m 39 #[.val (.ref a1), .val o, .val (.int r7), .val (.ref ob), .val (.int (2 : Int32)), .val (.int (2 : Int32)), .val v1] [])) _
    refine XS.goto X1.here hx rfl (pc0 := 39) (pc' := 14) rfl (hb hby d3_39) (by decide) (by decide) ?_
    show Steps p.tables e below (T1.setTop (mkF m 14 #[.val (.ref a1), .val o, .val (.int r7), .val (.ref ob), .val (.int (2 : Int32)), .val (.int (2 : Int32)), .val v1] [])) _
    refine XS.iload X1.here hx rfl (hb hby d3_14) rfl ?_
    show Steps p.tables e below (T1.setTop (mkF m 16 #[.val (.ref a1), .val o, .val (.int r7), .val (.ref ob), .val (.int (2 : Int32)), .val (.int (2 : Int32)), .val v1] [(.int (2 : Int32))])) _
    refine XS.iload X1.here hx rfl (hb hby d3_16) rfl ?_
    show Steps p.tables e below (T1.setTop (mkF m 18 #[.val (.ref a1), .val o, .val (.int r7), .val (.ref ob), .val (.int (2 : Int32)), .val (.int (2 : Int32)), .val v1] [(.int (2 : Int32)), (.int (2 : Int32))])) _
    refine XS.icmpYes X1.here hx rfl (pc0 := 18) (pc' := 42) rfl (hb hby d3_18) rfl (flt (by decide)).2.1 (by decide) (by decide) ?_
    show Steps p.tables e below (T1.setTop (mkF m 42 #[.val (.ref a1), .val o, .val (.int r7), .val (.ref ob), .val (.int (2 : Int32)), .val (.int (2 : Int32)), .val v1] [])) _
    refine XS.iloadN X1.here hx rfl (hb hby d3_42) rfl ?_
    exact kz
  exact Goes.retI X1 hx Bd.notSynchronized Bd.returns (hb hby d3_43) (Nat.le_of_ble_eq_true rfl) (Nat.le_of_ble_eq_true rfl) ⟨congrArg (fun z => some (Value.int z)) (by subst hr7; subst hr4; rfl), N0, e1⟩
def Q_rm3_3 (Z : State) (a1 : Addr) (o : Value) (ob ub : Addr) (k1 k2 : ClassId) (v0 v1 v2 : Value) (h0 : Heap) (n0 : Nat) : Option Value → Heap → List Loc → Prop := fun v h L => v = some (.int (own_cnt (3 : Int32) v0 v1 v2 o)) ∧ Fr n0 L ∧ h = h0
set_option maxRecDepth 65536 in
set_option maxHeartbeats 40000000 in
theorem rm3_3 (l : Launch) (Z : State) (a0 : Array Value) (hw : ∀ d ∈ tables_1, d.before a0 Z = true) (ws : List Jvm.Cond) (a1 : Addr) (o : Value) (ob ub : Addr) (k1 k2 : ClassId) (v0 v1 v2 : Value) (h0 : Heap) (n0 : Nat) (Z0 : n0 ≤ h0.size) (ho : o.isRef = true) (hv0 : v0.isRef = true) (hv1 : v1.isRef = true) (hv2 : v2.isRef = true) (KAh : own_KA Z n0 h0 a1 ob ub k1 k2 (3 : Int32) [v0, v1, v2]) :
    MetFree l (⟨"com/example/upkeep_window/upkeepwindow/bench/KeptAnswers", "count", "(Lcom/example/upkeep_window/upkeepwindow/policy/InstallOption;)I"⟩ : MethodName) (head1 (Jvm.Cond.code (⟨"com/example/upkeep_window/upkeepwindow/bench/KeptAnswers", "count", "(Lcom/example/upkeep_window/upkeepwindow/policy/InstallOption;)I"⟩ : MethodName) prog_3_method_3_code 7 (some .int) :: ws) ({ frames := 0, cells := 0, slots := 0, locals := 0 } : Room)) (fun a U => a = #[(.ref a1), o] ∧ Z.Warmed39 U.vm ∧ U.heap = h0) (fun _ _ _ _ _ => True) (fun _ U oo U' => ∃ vv LL, oo = .returned vv ∧ (Q_rm3_3 Z a1 o ob ub k1 k2 v0 v1 v2 h0 n0) vv U'.heap LL ∧ FrameEnd U oo U' LL ({ frames := 0, cells := 0, slots := 0, locals := 0 } : Room).cells ({ frames := 0, cells := 0, slots := 0, locals := 0 } : Room).slots) := by
  refine MetFree.of_bodySF (plainFor_of_name pn_3) hisR ?_
  intro p e s m args below meth c s₁ Bd hml0 hP hK
  obtain ⟨rfl, hZ, hh⟩ := hP
  have hx := Bd.exec
  have hby := Bd.bytes
  have hml : c.maxLocals = 7 := hml0
  have hown : s.vm.findClass "com/example/upkeep_window/upkeepwindow/bench/KeptAnswers" = some m.cls := findClass_of_methodNamed Bd.named
  have hnm := (name_of_methodNamed Bd.named Bd.method).1
  have X0 : Stand p l e ({ frames := 0, cells := 0, slots := 0, locals := 0 } : Room) s m #[(.ref a1), o] below meth c s₁ [] 0 0 := Stand.of_body Bd
  have e0 : s₁.heap = h0 := by rw [← hh, Bd.state]; rfl
  have N0 := Fr.nil n0
  show Goes p e below (Fin s (Q_rm3_3 Z a1 o ob ub k1 k2 v0 v1 v2 h0 n0) ({ frames := 0, cells := 0, slots := 0, locals := 0 } : Room).cells ({ frames := 0, cells := 0, slots := 0, locals := 0 } : Room).slots) _
  refine Goes.via (S' := s₁.setTop (mkF m 0 #[.val (.ref a1), .val o, .unset, .unset, .unset, .unset, .unset] [])) (fun tz kz => castTop (ef_3 m a1 o ho) kz) ?_
  refine Goes.via (S' := s₁.setTop (mkF m 3 #[.val (.ref a1), .val o, .val (.int (0 : Int32)), .unset, .unset, .unset, .unset] [(.ref a1)])) (fun tz kz => ?_) ?_
  · show Steps p.tables e below (s₁.setTop (mkF m 0 #[.val (.ref a1), .val o, .unset, .unset, .unset, .unset, .unset] [])) _
    refine XS.iconst X0.here hx rfl (hb hby d3_0) ?_
    show Steps p.tables e below (s₁.setTop (mkF m 1 #[.val (.ref a1), .val o, .unset, .unset, .unset, .unset, .unset] [(.int (0 : Int32))])) _
    refine XS.istoreN X0.here hx rfl (hb hby d3_1) rfl (l' := #[.val (.ref a1), .val o, .val (.int (0 : Int32)), .unset, .unset, .unset, .unset]) rfl ?_
    show Steps p.tables e below (s₁.setTop (mkF m 2 #[.val (.ref a1), .val o, .val (.int (0 : Int32)), .unset, .unset, .unset, .unset] [])) _
    refine XS.aloadN X0.here hx rfl (hb hby d3_2) rfl rfl ?_
    exact kz
  obtain ⟨T1, X1, e1, st1⟩ := getF X0 hx hZ hown (host := "") (Or.inl (hw _ (List.mem_of_getElem? (i := 11) rfl))) Via.refl e0 KAh.2.1 (g := (mkF m 3 #[.val (.ref a1), .val o, .val (.int (0 : Int32)), .unset, .unset, .unset, .unset] [(.ref a1)])) rfl rfl (hb hby d3_3)
  refine Goes.via (S' := T1.setTop (mkF m 6 #[.val (.ref a1), .val o, .val (.int (0 : Int32)), .unset, .unset, .unset, .unset] [(.ref ob)])) st1 ?_
  refine Goes.via (S' := T1.setTop (mkF m 8 #[.val (.ref a1), .val o, .val (.int (0 : Int32)), .val (.ref ob), .unset, .unset, .unset] [(.ref ob)])) (fun tz kz => ?_) ?_
  · show Steps p.tables e below (T1.setTop (mkF m 6 #[.val (.ref a1), .val o, .val (.int (0 : Int32)), .unset, .unset, .unset, .unset] [(.ref ob)])) _
    refine XS.astoreN X1.here hx rfl (hb hby d3_6) rfl rfl (l' := #[.val (.ref a1), .val o, .val (.int (0 : Int32)), .val (.ref ob), .unset, .unset, .unset]) rfl ?_
    show Steps p.tables e below (T1.setTop (mkF m 7 #[.val (.ref a1), .val o, .val (.int (0 : Int32)), .val (.ref ob), .unset, .unset, .unset] [])) _
    refine XS.aloadN X1.here hx rfl (hb hby d3_7) rfl rfl ?_
    exact kz
  obtain ⟨cl2, Ar2, q2, Sz2, Nn2, Hs2, G2⟩ := KAh.2.2.2.1
  refine Goes.via (S' := T1.setTop (mkF m 30 #[.val (.ref a1), .val o, .val (.int (0 : Int32)), .val (.ref ob), .val (.int (3 : Int32)), .val (.int (0 : Int32)), .val v0] [o, v0])) (fun tz kz => ?_) ?_
  · show Steps p.tables e below (T1.setTop (mkF m 8 #[.val (.ref a1), .val o, .val (.int (0 : Int32)), .val (.ref ob), .unset, .unset, .unset] [(.ref ob)])) _
    refine X1.arraylength hx (by rw [e1]; exact Ar2.1) (State.isArrayOf_alike hZ.alike Ar2.2.1) (g := (mkF m 8 #[.val (.ref a1), .val o, .val (.int (0 : Int32)), .val (.ref ob), .unset, .unset, .unset] [(.ref ob)])) rfl rfl (hb hby d3_8) _ ?_
    rw [len_of Sz2 Nn2]
    show Steps p.tables e below (T1.setTop (mkF m 9 #[.val (.ref a1), .val o, .val (.int (0 : Int32)), .val (.ref ob), .unset, .unset, .unset] [(.int (3 : Int32))])) _
    refine XS.istore X1.here hx rfl (hb hby d3_9) rfl (l' := #[.val (.ref a1), .val o, .val (.int (0 : Int32)), .val (.ref ob), .val (.int (3 : Int32)), .unset, .unset]) rfl ?_
    show Steps p.tables e below (T1.setTop (mkF m 11 #[.val (.ref a1), .val o, .val (.int (0 : Int32)), .val (.ref ob), .val (.int (3 : Int32)), .unset, .unset] [])) _
    refine XS.iconst X1.here hx rfl (hb hby d3_11) ?_
    show Steps p.tables e below (T1.setTop (mkF m 12 #[.val (.ref a1), .val o, .val (.int (0 : Int32)), .val (.ref ob), .val (.int (3 : Int32)), .unset, .unset] [(.int (0 : Int32))])) _
    refine XS.istore X1.here hx rfl (hb hby d3_12) rfl (l' := #[.val (.ref a1), .val o, .val (.int (0 : Int32)), .val (.ref ob), .val (.int (3 : Int32)), .val (.int (0 : Int32)), .unset]) rfl ?_
    show Steps p.tables e below (T1.setTop (mkF m 14 #[.val (.ref a1), .val o, .val (.int (0 : Int32)), .val (.ref ob), .val (.int (3 : Int32)), .val (.int (0 : Int32)), .unset] [])) _
    refine XS.iload X1.here hx rfl (hb hby d3_14) rfl ?_
    show Steps p.tables e below (T1.setTop (mkF m 16 #[.val (.ref a1), .val o, .val (.int (0 : Int32)), .val (.ref ob), .val (.int (3 : Int32)), .val (.int (0 : Int32)), .unset] [(.int (0 : Int32))])) _
    refine XS.iload X1.here hx rfl (hb hby d3_16) rfl ?_
    show Steps p.tables e below (T1.setTop (mkF m 18 #[.val (.ref a1), .val o, .val (.int (0 : Int32)), .val (.ref ob), .val (.int (3 : Int32)), .val (.int (0 : Int32)), .unset] [(.int (3 : Int32)), (.int (0 : Int32))])) _
    refine XS.icmpNo X1.here hx rfl (hb hby d3_18) rfl (tlt (by decide)).2.1 ?_
    show Steps p.tables e below (T1.setTop (mkF m 21 #[.val (.ref a1), .val o, .val (.int (0 : Int32)), .val (.ref ob), .val (.int (3 : Int32)), .val (.int (0 : Int32)), .unset] [])) _
    refine XS.aloadN X1.here hx rfl (hb hby d3_21) rfl rfl ?_
    show Steps p.tables e below (T1.setTop (mkF m 22 #[.val (.ref a1), .val o, .val (.int (0 : Int32)), .val (.ref ob), .val (.int (3 : Int32)), .val (.int (0 : Int32)), .unset] [(.ref ob)])) _
    refine XS.iload X1.here hx rfl (hb hby d3_22) rfl ?_
    show Steps p.tables e below (T1.setTop (mkF m 24 #[.val (.ref a1), .val o, .val (.int (0 : Int32)), .val (.ref ob), .val (.int (3 : Int32)), .val (.int (0 : Int32)), .unset] [(.int (0 : Int32)), (.ref ob)])) _
    refine X1.aaload hx (j := (0 : Int32)) (v := v0) (by rw [e1]; exact Ar2.1) (State.isArrayOf_alike hZ.alike Ar2.2.1) rfl Ar2.2.2 (inb_of Sz2 ⟨by decide, by decide⟩) (Has.at Hs2 (inb_of Sz2 ⟨by decide, by decide⟩) rfl) (g := (mkF m 24 #[.val (.ref a1), .val o, .val (.int (0 : Int32)), .val (.ref ob), .val (.int (3 : Int32)), .val (.int (0 : Int32)), .unset] [(.int (0 : Int32)), (.ref ob)])) rfl rfl (hb hby d3_24) _ ?_
    show Steps p.tables e below (T1.setTop (mkF m 25 #[.val (.ref a1), .val o, .val (.int (0 : Int32)), .val (.ref ob), .val (.int (3 : Int32)), .val (.int (0 : Int32)), .unset] [v0])) _
    refine XS.astore X1.here hx rfl (hb hby d3_25) rfl hv0 (l' := #[.val (.ref a1), .val o, .val (.int (0 : Int32)), .val (.ref ob), .val (.int (3 : Int32)), .val (.int (0 : Int32)), .val v0]) (XS.store1 (o := .unset) rfl (Or.inl rfl) (cat_ref hv0)) ?_
    show Steps p.tables e below (T1.setTop (mkF m 27 #[.val (.ref a1), .val o, .val (.int (0 : Int32)), .val (.ref ob), .val (.int (3 : Int32)), .val (.int (0 : Int32)), .val v0] [])) _
    refine XS.aload X1.here hx rfl (hb hby d3_27) rfl hv0 ?_
    show Steps p.tables e below (T1.setTop (mkF m 29 #[.val (.ref a1), .val o, .val (.int (0 : Int32)), .val (.ref ob), .val (.int (3 : Int32)), .val (.int (0 : Int32)), .val v0] [v0])) _
    refine XS.aloadN X1.here hx rfl (hb hby d3_29) rfl ho ?_
    exact kz
  obtain ⟨r4, hr4⟩ : ∃ zz_ : Int32, zz_ = (if v0 = o then (1 : Int32) else (0 : Int32)) := ⟨_, rfl⟩
  have j30_5 : ∀ t, Steps p.tables e below (T1.setTop (mkF m 36 #[.val (.ref a1), .val o, .val (.int r4), .val (.ref ob), .val (.int (3 : Int32)), .val (.int (0 : Int32)), .val v0] [])) t → Steps p.tables e below (T1.setTop (mkF m 30 #[.val (.ref a1), .val o, .val (.int (0 : Int32)), .val (.ref ob), .val (.int (3 : Int32)), .val (.int (0 : Int32)), .val v0] [o, v0])) t := by
    intro tz kz
    by_cases hc30_3 : v0 = o
    · rw [if_pos hc30_3] at hr4
      show Steps p.tables e below (T1.setTop (mkF m 30 #[.val (.ref a1), .val o, .val (.int (0 : Int32)), .val (.ref ob), .val (.int (3 : Int32)), .val (.int (0 : Int32)), .val v0] [o, v0])) _
      refine Jvm.RoadKit.acmp (g := (mkF m 30 #[.val (.ref a1), .val o, .val (.int (0 : Int32)), .val (.ref ob), .val (.int (3 : Int32)), .val (.int (0 : Int32)), .val v0] [o, v0])) X1 hx rfl hv0 ho (pc0 := 30) (pc' := 33) (same := true) rfl (hb hby d3_30) rfl (decide_eq_true hc30_3) (by decide) (by decide) ?_
      show Steps p.tables e below (T1.setTop (mkF m 33 #[.val (.ref a1), .val o, .val (.int (0 : Int32)), .val (.ref ob), .val (.int (3 : Int32)), .val (.int (0 : Int32)), .val v0] [])) _
      refine XS.iinc X1.here hx rfl (hb hby d3_33) rfl (l' := #[.val (.ref a1), .val o, .val (.int (1 : Int32)), .val (.ref ob), .val (.int (3 : Int32)), .val (.int (0 : Int32)), .val v0]) rfl ?_
      subst hr4
      exact kz
    · rw [if_neg hc30_3] at hr4
      show Steps p.tables e below (T1.setTop (mkF m 30 #[.val (.ref a1), .val o, .val (.int (0 : Int32)), .val (.ref ob), .val (.int (3 : Int32)), .val (.int (0 : Int32)), .val v0] [o, v0])) _
      refine Jvm.RoadKit.acmp (g := (mkF m 30 #[.val (.ref a1), .val o, .val (.int (0 : Int32)), .val (.ref ob), .val (.int (3 : Int32)), .val (.int (0 : Int32)), .val v0] [o, v0])) X1 hx rfl hv0 ho (pc0 := 30) (pc' := 36) (same := false) rfl (hb hby d3_30) rfl (decide_eq_false hc30_3) (by decide) (by decide) ?_
      subst hr4
      exact kz
  refine Goes.via j30_5 ?_
  refine Goes.via (S' := T1.setTop (mkF m 30 #[.val (.ref a1), .val o, .val (.int r4), .val (.ref ob), .val (.int (3 : Int32)), .val (.int (1 : Int32)), .val v1] [o, v1])) (fun tz kz => ?_) ?_
  · show Steps p.tables e below (T1.setTop (mkF m 36 #[.val (.ref a1), .val o, .val (.int r4), .val (.ref ob), .val (.int (3 : Int32)), .val (.int (0 : Int32)), .val v0] [])) _
    refine XS.iinc X1.here hx rfl (hb hby d3_36) rfl (l' := #[.val (.ref a1), .val o, .val (.int r4), .val (.ref ob), .val (.int (3 : Int32)), .val (.int (1 : Int32)), .val v0]) rfl ?_
    show Steps p.tables e below (T1.setTop (mkF m 39 #[.val (.ref a1), .val o, .val (.int r4), .val (.ref ob), .val (.int (3 : Int32)), .val (.int (1 : Int32)), .val v0] [])) _
    refine XS.goto X1.here hx rfl (pc0 := 39) (pc' := 14) rfl (hb hby d3_39) (by decide) (by decide) ?_
    show Steps p.tables e below (T1.setTop (mkF m 14 #[.val (.ref a1), .val o, .val (.int r4), .val (.ref ob), .val (.int (3 : Int32)), .val (.int (1 : Int32)), .val v0] [])) _
    refine XS.iload X1.here hx rfl (hb hby d3_14) rfl ?_
    show Steps p.tables e below (T1.setTop (mkF m 16 #[.val (.ref a1), .val o, .val (.int r4), .val (.ref ob), .val (.int (3 : Int32)), .val (.int (1 : Int32)), .val v0] [(.int (1 : Int32))])) _
    refine XS.iload X1.here hx rfl (hb hby d3_16) rfl ?_
    show Steps p.tables e below (T1.setTop (mkF m 18 #[.val (.ref a1), .val o, .val (.int r4), .val (.ref ob), .val (.int (3 : Int32)), .val (.int (1 : Int32)), .val v0] [(.int (3 : Int32)), (.int (1 : Int32))])) _
    refine XS.icmpNo X1.here hx rfl (hb hby d3_18) rfl (tlt (by decide)).2.1 ?_
    show Steps p.tables e below (T1.setTop (mkF m 21 #[.val (.ref a1), .val o, .val (.int r4), .val (.ref ob), .val (.int (3 : Int32)), .val (.int (1 : Int32)), .val v0] [])) _
    refine XS.aloadN X1.here hx rfl (hb hby d3_21) rfl rfl ?_
    show Steps p.tables e below (T1.setTop (mkF m 22 #[.val (.ref a1), .val o, .val (.int r4), .val (.ref ob), .val (.int (3 : Int32)), .val (.int (1 : Int32)), .val v0] [(.ref ob)])) _
    refine XS.iload X1.here hx rfl (hb hby d3_22) rfl ?_
    show Steps p.tables e below (T1.setTop (mkF m 24 #[.val (.ref a1), .val o, .val (.int r4), .val (.ref ob), .val (.int (3 : Int32)), .val (.int (1 : Int32)), .val v0] [(.int (1 : Int32)), (.ref ob)])) _
    refine X1.aaload hx (j := (1 : Int32)) (v := v1) (by rw [e1]; exact Ar2.1) (State.isArrayOf_alike hZ.alike Ar2.2.1) rfl Ar2.2.2 (inb_of Sz2 ⟨by decide, by decide⟩) (Has.at Hs2 (inb_of Sz2 ⟨by decide, by decide⟩) rfl) (g := (mkF m 24 #[.val (.ref a1), .val o, .val (.int r4), .val (.ref ob), .val (.int (3 : Int32)), .val (.int (1 : Int32)), .val v0] [(.int (1 : Int32)), (.ref ob)])) rfl rfl (hb hby d3_24) _ ?_
    show Steps p.tables e below (T1.setTop (mkF m 25 #[.val (.ref a1), .val o, .val (.int r4), .val (.ref ob), .val (.int (3 : Int32)), .val (.int (1 : Int32)), .val v0] [v1])) _
    refine XS.astore X1.here hx rfl (hb hby d3_25) rfl hv1 (l' := #[.val (.ref a1), .val o, .val (.int r4), .val (.ref ob), .val (.int (3 : Int32)), .val (.int (1 : Int32)), .val v1]) (XS.store1 (o := .val v0) rfl (Or.inr ⟨_, rfl, cat_ref hv0⟩) (cat_ref hv1)) ?_
    show Steps p.tables e below (T1.setTop (mkF m 27 #[.val (.ref a1), .val o, .val (.int r4), .val (.ref ob), .val (.int (3 : Int32)), .val (.int (1 : Int32)), .val v1] [])) _
    refine XS.aload X1.here hx rfl (hb hby d3_27) rfl hv1 ?_
    show Steps p.tables e below (T1.setTop (mkF m 29 #[.val (.ref a1), .val o, .val (.int r4), .val (.ref ob), .val (.int (3 : Int32)), .val (.int (1 : Int32)), .val v1] [v1])) _
    refine XS.aloadN X1.here hx rfl (hb hby d3_29) rfl ho ?_
    exact kz
  obtain ⟨r7, hr7⟩ : ∃ zz_ : Int32, zz_ = (if v1 = o then (r4 + (1 : Int32)) else r4) := ⟨_, rfl⟩
  have j30_8 : ∀ t, Steps p.tables e below (T1.setTop (mkF m 36 #[.val (.ref a1), .val o, .val (.int r7), .val (.ref ob), .val (.int (3 : Int32)), .val (.int (1 : Int32)), .val v1] [])) t → Steps p.tables e below (T1.setTop (mkF m 30 #[.val (.ref a1), .val o, .val (.int r4), .val (.ref ob), .val (.int (3 : Int32)), .val (.int (1 : Int32)), .val v1] [o, v1])) t := by
    intro tz kz
    by_cases hc30_6 : v1 = o
    · rw [if_pos hc30_6] at hr7
      show Steps p.tables e below (T1.setTop (mkF m 30 #[.val (.ref a1), .val o, .val (.int r4), .val (.ref ob), .val (.int (3 : Int32)), .val (.int (1 : Int32)), .val v1] [o, v1])) _
      refine Jvm.RoadKit.acmp (g := (mkF m 30 #[.val (.ref a1), .val o, .val (.int r4), .val (.ref ob), .val (.int (3 : Int32)), .val (.int (1 : Int32)), .val v1] [o, v1])) X1 hx rfl hv1 ho (pc0 := 30) (pc' := 33) (same := true) rfl (hb hby d3_30) rfl (decide_eq_true hc30_6) (by decide) (by decide) ?_
      show Steps p.tables e below (T1.setTop (mkF m 33 #[.val (.ref a1), .val o, .val (.int r4), .val (.ref ob), .val (.int (3 : Int32)), .val (.int (1 : Int32)), .val v1] [])) _
      refine XS.iinc X1.here hx rfl (hb hby d3_33) rfl (l' := #[.val (.ref a1), .val o, .val (.int (r4 + (1 : Int32))), .val (.ref ob), .val (.int (3 : Int32)), .val (.int (1 : Int32)), .val v1]) rfl ?_
      subst hr7
      exact kz
    · rw [if_neg hc30_6] at hr7
      show Steps p.tables e below (T1.setTop (mkF m 30 #[.val (.ref a1), .val o, .val (.int r4), .val (.ref ob), .val (.int (3 : Int32)), .val (.int (1 : Int32)), .val v1] [o, v1])) _
      refine Jvm.RoadKit.acmp (g := (mkF m 30 #[.val (.ref a1), .val o, .val (.int r4), .val (.ref ob), .val (.int (3 : Int32)), .val (.int (1 : Int32)), .val v1] [o, v1])) X1 hx rfl hv1 ho (pc0 := 30) (pc' := 36) (same := false) rfl (hb hby d3_30) rfl (decide_eq_false hc30_6) (by decide) (by decide) ?_
      subst hr7
      exact kz
  refine Goes.via j30_8 ?_
  refine Goes.via (S' := T1.setTop (mkF m 30 #[.val (.ref a1), .val o, .val (.int r7), .val (.ref ob), .val (.int (3 : Int32)), .val (.int (2 : Int32)), .val v2] [o, v2])) (fun tz kz => ?_) ?_
  · show Steps p.tables e below (T1.setTop (mkF m 36 #[.val (.ref a1), .val o, .val (.int r7), .val (.ref ob), .val (.int (3 : Int32)), .val (.int (1 : Int32)), .val v1] [])) _
    refine XS.iinc X1.here hx rfl (hb hby d3_36) rfl (l' := #[.val (.ref a1), .val o, .val (.int r7), .val (.ref ob), .val (.int (3 : Int32)), .val (.int (2 : Int32)), .val v1]) rfl ?_
    show Steps p.tables e below (T1.setTop (mkF m 39 #[.val (.ref a1), .val o, .val (.int r7), .val (.ref ob), .val (.int (3 : Int32)), .val (.int (2 : Int32)), .val v1] [])) _
    refine XS.goto X1.here hx rfl (pc0 := 39) (pc' := 14) rfl (hb hby d3_39) (by decide) (by decide) ?_
    show Steps p.tables e below (T1.setTop (mkF m 14 #[.val (.ref a1), .val o, .val (.int r7), .val (.ref ob), .val (.int (3 : Int32)), .val (.int (2 : Int32)), .val v1] [])) _
    refine XS.iload X1.here hx rfl (hb hby d3_14) rfl ?_
    show Steps p.tables e below (T1.setTop (mkF m 16 #[.val (.ref a1), .val o, .val (.int r7), .val (.ref ob), .val (.int (3 : Int32)), .val (.int (2 : Int32)), .val v1] [(.int (2 : Int32))])) _
    refine XS.iload X1.here hx rfl (hb hby d3_16) rfl ?_
    show Steps p.tables e below (T1.setTop (mkF m 18 #[.val (.ref a1), .val o, .val (.int r7), .val (.ref ob), .val (.int (3 : Int32)), .val (.int (2 : Int32)), .val v1] [(.int (3 : Int32)), (.int (2 : Int32))])) _
    refine XS.icmpNo X1.here hx rfl (hb hby d3_18) rfl (tlt (by decide)).2.1 ?_
    show Steps p.tables e below (T1.setTop (mkF m 21 #[.val (.ref a1), .val o, .val (.int r7), .val (.ref ob), .val (.int (3 : Int32)), .val (.int (2 : Int32)), .val v1] [])) _
    refine XS.aloadN X1.here hx rfl (hb hby d3_21) rfl rfl ?_
    show Steps p.tables e below (T1.setTop (mkF m 22 #[.val (.ref a1), .val o, .val (.int r7), .val (.ref ob), .val (.int (3 : Int32)), .val (.int (2 : Int32)), .val v1] [(.ref ob)])) _
    refine XS.iload X1.here hx rfl (hb hby d3_22) rfl ?_
    show Steps p.tables e below (T1.setTop (mkF m 24 #[.val (.ref a1), .val o, .val (.int r7), .val (.ref ob), .val (.int (3 : Int32)), .val (.int (2 : Int32)), .val v1] [(.int (2 : Int32)), (.ref ob)])) _
    refine X1.aaload hx (j := (2 : Int32)) (v := v2) (by rw [e1]; exact Ar2.1) (State.isArrayOf_alike hZ.alike Ar2.2.1) rfl Ar2.2.2 (inb_of Sz2 ⟨by decide, by decide⟩) (Has.at Hs2 (inb_of Sz2 ⟨by decide, by decide⟩) rfl) (g := (mkF m 24 #[.val (.ref a1), .val o, .val (.int r7), .val (.ref ob), .val (.int (3 : Int32)), .val (.int (2 : Int32)), .val v1] [(.int (2 : Int32)), (.ref ob)])) rfl rfl (hb hby d3_24) _ ?_
    show Steps p.tables e below (T1.setTop (mkF m 25 #[.val (.ref a1), .val o, .val (.int r7), .val (.ref ob), .val (.int (3 : Int32)), .val (.int (2 : Int32)), .val v1] [v2])) _
    refine XS.astore X1.here hx rfl (hb hby d3_25) rfl hv2 (l' := #[.val (.ref a1), .val o, .val (.int r7), .val (.ref ob), .val (.int (3 : Int32)), .val (.int (2 : Int32)), .val v2]) (XS.store1 (o := .val v1) rfl (Or.inr ⟨_, rfl, cat_ref hv1⟩) (cat_ref hv2)) ?_
    show Steps p.tables e below (T1.setTop (mkF m 27 #[.val (.ref a1), .val o, .val (.int r7), .val (.ref ob), .val (.int (3 : Int32)), .val (.int (2 : Int32)), .val v2] [])) _
    refine XS.aload X1.here hx rfl (hb hby d3_27) rfl hv2 ?_
    show Steps p.tables e below (T1.setTop (mkF m 29 #[.val (.ref a1), .val o, .val (.int r7), .val (.ref ob), .val (.int (3 : Int32)), .val (.int (2 : Int32)), .val v2] [v2])) _
    refine XS.aloadN X1.here hx rfl (hb hby d3_29) rfl ho ?_
    exact kz
  obtain ⟨r10, hr10⟩ : ∃ zz_ : Int32, zz_ = (if v2 = o then (r7 + (1 : Int32)) else r7) := ⟨_, rfl⟩
  have j30_11 : ∀ t, Steps p.tables e below (T1.setTop (mkF m 36 #[.val (.ref a1), .val o, .val (.int r10), .val (.ref ob), .val (.int (3 : Int32)), .val (.int (2 : Int32)), .val v2] [])) t → Steps p.tables e below (T1.setTop (mkF m 30 #[.val (.ref a1), .val o, .val (.int r7), .val (.ref ob), .val (.int (3 : Int32)), .val (.int (2 : Int32)), .val v2] [o, v2])) t := by
    intro tz kz
    by_cases hc30_9 : v2 = o
    · rw [if_pos hc30_9] at hr10
      show Steps p.tables e below (T1.setTop (mkF m 30 #[.val (.ref a1), .val o, .val (.int r7), .val (.ref ob), .val (.int (3 : Int32)), .val (.int (2 : Int32)), .val v2] [o, v2])) _
      refine Jvm.RoadKit.acmp (g := (mkF m 30 #[.val (.ref a1), .val o, .val (.int r7), .val (.ref ob), .val (.int (3 : Int32)), .val (.int (2 : Int32)), .val v2] [o, v2])) X1 hx rfl hv2 ho (pc0 := 30) (pc' := 33) (same := true) rfl (hb hby d3_30) rfl (decide_eq_true hc30_9) (by decide) (by decide) ?_
      show Steps p.tables e below (T1.setTop (mkF m 33 #[.val (.ref a1), .val o, .val (.int r7), .val (.ref ob), .val (.int (3 : Int32)), .val (.int (2 : Int32)), .val v2] [])) _
      refine XS.iinc X1.here hx rfl (hb hby d3_33) rfl (l' := #[.val (.ref a1), .val o, .val (.int (r7 + (1 : Int32))), .val (.ref ob), .val (.int (3 : Int32)), .val (.int (2 : Int32)), .val v2]) rfl ?_
      subst hr10
      exact kz
    · rw [if_neg hc30_9] at hr10
      show Steps p.tables e below (T1.setTop (mkF m 30 #[.val (.ref a1), .val o, .val (.int r7), .val (.ref ob), .val (.int (3 : Int32)), .val (.int (2 : Int32)), .val v2] [o, v2])) _
      refine Jvm.RoadKit.acmp (g := (mkF m 30 #[.val (.ref a1), .val o, .val (.int r7), .val (.ref ob), .val (.int (3 : Int32)), .val (.int (2 : Int32)), .val v2] [o, v2])) X1 hx rfl hv2 ho (pc0 := 30) (pc' := 36) (same := false) rfl (hb hby d3_30) rfl (decide_eq_false hc30_9) (by decide) (by decide) ?_
      subst hr10
      exact kz
  refine Goes.via j30_11 ?_
  refine Goes.via (S' := T1.setTop (mkF m 43 #[.val (.ref a1), .val o, .val (.int r10), .val (.ref ob), .val (.int (3 : Int32)), .val (.int (3 : Int32)), .val v2] [(.int r10)])) (fun tz kz => ?_) ?_
  · show Steps p.tables e below (T1.setTop (mkF m 36 #[.val (.ref a1), .val o, .val (.int r10), .val (.ref ob), .val (.int (3 : Int32)), .val (.int (2 : Int32)), .val v2] [])) _
    refine XS.iinc X1.here hx rfl (hb hby d3_36) rfl (l' := #[.val (.ref a1), .val o, .val (.int r10), .val (.ref ob), .val (.int (3 : Int32)), .val (.int (3 : Int32)), .val v2]) rfl ?_
    show Steps p.tables e below (T1.setTop (mkF m 39 #[.val (.ref a1), .val o, .val (.int r10), .val (.ref ob), .val (.int (3 : Int32)), .val (.int (3 : Int32)), .val v2] [])) _
    refine XS.goto X1.here hx rfl (pc0 := 39) (pc' := 14) rfl (hb hby d3_39) (by decide) (by decide) ?_
    show Steps p.tables e below (T1.setTop (mkF m 14 #[.val (.ref a1), .val o, .val (.int r10), .val (.ref ob), .val (.int (3 : Int32)), .val (.int (3 : Int32)), .val v2] [])) _
    refine XS.iload X1.here hx rfl (hb hby d3_14) rfl ?_
    show Steps p.tables e below (T1.setTop (mkF m 16 #[.val (.ref a1), .val o, .val (.int r10), .val (.ref ob), .val (.int (3 : Int32)), .val (.int (3 : Int32)), .val v2] [(.int (3 : Int32))])) _
    refine XS.iload X1.here hx rfl (hb hby d3_16) rfl ?_
    show Steps p.tables e below (T1.setTop (mkF m 18 #[.val (.ref a1), .val o, .val (.int r10), .val (.ref ob), .val (.int (3 : Int32)), .val (.int (3 : Int32)), .val v2] [(.int (3 : Int32)), (.int (3 : Int32))])) _
    refine XS.icmpYes X1.here hx rfl (pc0 := 18) (pc' := 42) rfl (hb hby d3_18) rfl (flt (by decide)).2.1 (by decide) (by decide) ?_
    show Steps p.tables e below (T1.setTop (mkF m 42 #[.val (.ref a1), .val o, .val (.int r10), .val (.ref ob), .val (.int (3 : Int32)), .val (.int (3 : Int32)), .val v2] [])) _
    refine XS.iloadN X1.here hx rfl (hb hby d3_42) rfl ?_
    exact kz
  exact Goes.retI X1 hx Bd.notSynchronized Bd.returns (hb hby d3_43) (Nat.le_of_ble_eq_true rfl) (Nat.le_of_ble_eq_true rfl) ⟨congrArg (fun z => some (Value.int z)) (by subst hr10; subst hr7; subst hr4; rfl), N0, e1⟩
def Q_rm3 (z : Int32) (v0 v1 v2 o : Value) (h0 : Heap) (n0 : Nat) : Option Value → Heap → List Loc → Prop := fun v h L => v = some (.int (own_cnt z v0 v1 v2 o)) ∧ Fr n0 L ∧ h = h0
theorem rm3 (l : Launch) (Z : State) (a0 : Array Value) (hw : ∀ d ∈ tables_1, d.before a0 Z = true) (ws : List Jvm.Cond) (a1 : Addr) (o : Value) (ob ub : Addr) (k1 k2 : ClassId) (v0 v1 v2 : Value) (z : Int32) (hz : own_4 z) (h0 : Heap) (n0 : Nat) (Z0 : n0 ≤ h0.size) (ho : o.isRef = true) (hv0 : v0.isRef = true) (hv1 : v1.isRef = true) (hv2 : v2.isRef = true) (KAh : own_KA Z n0 h0 a1 ob ub k1 k2 z [v0, v1, v2]) :
    MetFree l (⟨"com/example/upkeep_window/upkeepwindow/bench/KeptAnswers", "count", "(Lcom/example/upkeep_window/upkeepwindow/policy/InstallOption;)I"⟩ : MethodName) (head1 (Jvm.Cond.code (⟨"com/example/upkeep_window/upkeepwindow/bench/KeptAnswers", "count", "(Lcom/example/upkeep_window/upkeepwindow/policy/InstallOption;)I"⟩ : MethodName) prog_3_method_3_code 7 (some .int) :: ws) ({ frames := 0, cells := 0, slots := 0, locals := 0 } : Room)) (fun a U => a = #[(.ref a1), o] ∧ Z.Warmed39 U.vm ∧ U.heap = h0) (fun _ _ _ _ _ => True) (fun _ U o' U' => ∃ v L, o' = .returned v ∧ Q_rm3 z v0 v1 v2 o h0 n0 v U'.heap L ∧ FrameEnd U o' U' L ({ frames := 0, cells := 0, slots := 0, locals := 0 } : Room).cells ({ frames := 0, cells := 0, slots := 0, locals := 0 } : Room).slots) := by
  rcases hz with rfl | rfl | rfl | rfl
  · exact rm3_0 l Z a0 hw ws a1 o ob ub k1 k2 v0 v1 v2 h0 n0 Z0 ho hv0 hv1 hv2 KAh
  · exact rm3_1 l Z a0 hw ws a1 o ob ub k1 k2 v0 v1 v2 h0 n0 Z0 ho hv0 hv1 hv2 KAh
  · exact rm3_2 l Z a0 hw ws a1 o ob ub k1 k2 v0 v1 v2 h0 n0 Z0 ho hv0 hv1 hv2 KAh
  · exact rm3_3 l Z a0 hw ws a1 o ob ub k1 k2 v0 v1 v2 h0 n0 Z0 ho hv0 hv1 hv2 KAh
theorem own_4of {s j z cj c i : Int32} (h : s = (if j < z ∧ cj ≠ 0 ∧ j = i then cj else c)) (h1 : own_4 c) (h2 : own_4 cj) : own_4 s := h ▸ own_4ite h2 h1
theorem pn_0 : plainName "com/example/upkeep_window/upkeepwindow/bench/KeptAnswersCountPinLaw" = true := by first | (simp [plainName, overriddenIn]; done) | decide +kernel
theorem ef_0 (m : MethodId) (x0 : Int32) (x1 : Int32) (x2 : Int32) : entryFrame m #[(.int x0), (.int x1), (.int x2)] maxLocals = mkF m 0 #[.val (.int x0), .val (.int x1), .val (.int x2), .unset, .unset, .unset, .unset, .unset, .unset, .unset, .unset, .unset, .unset, .unset] [] := by first | (simp [entryFrame, mkF, argsToLocals, Value.category, maxLocals]; done) | rfl
def Q_rm0 (Z : State) (p1 : Int32) (p2 : Int32) (p3 : Int32) (bI bP bS bE : Addr) (h0 : Heap) (n0 : Nat) : Option Value → Heap → List Loc → Prop := fun v h L => v = some (.int 1) ∧ Fr n0 L
set_option maxRecDepth 65536 in
set_option maxHeartbeats 40000000 in
theorem rm0 (l : Launch) (Z : State) (a0 : Array Value) (hw : ∀ d ∈ tables_1, d.before a0 Z = true) (ws : List Jvm.Cond) (p1 : Int32) (p2 : Int32) (p3 : Int32) (bI bP bS bE : Addr) (h0 : Heap) (n0 : Nat) (Z0 : n0 ≤ h0.size) (S_bI : Sta Z Z.heap "com/example/upkeep_window/upkeepwindow/policy/InstallOption" "INSTALL_AUTOMATIC" "Lcom/example/upkeep_window/upkeepwindow/policy/InstallOption;" (.ref bI)) (S_bP : Sta Z Z.heap "com/example/upkeep_window/upkeepwindow/policy/InstallOption" "POSTPONE" "Lcom/example/upkeep_window/upkeepwindow/policy/InstallOption;" (.ref bP)) (S_bS : Sta Z Z.heap "com/example/upkeep_window/upkeepwindow/policy/InstallOption" "PAUSE" "Lcom/example/upkeep_window/upkeepwindow/policy/InstallOption;" (.ref bS)) (E_bI : Exa Z Z.heap bI "com/example/upkeep_window/upkeepwindow/policy/InstallOption") (E_bP : Exa Z Z.heap bP "com/example/upkeep_window/upkeepwindow/policy/InstallOption") (E_bS : Exa Z Z.heap bS "com/example/upkeep_window/upkeepwindow/policy/InstallOption") (SO : Sta Z Z.heap "java/util/Optional" "EMPTY" "Ljava/util/Optional;" (.ref bE)) (EE : Exa Z Z.heap bE "java/util/Optional") (FE : Fld Z Z.heap bE "java/util/Optional" "value" "Ljava/lang/Object;" .null) (O0 : Old Z n0 h0) (d1 : bI ≠ bP) (d2 : bI ≠ bS) (d3 : bP ≠ bS) :
    MetFree l x (head1 (Jvm.Cond.code x code maxLocals ret :: ws) room_1) (fun a U => a = #[(.int p1), (.int p2), (.int p3)] ∧ Z.Warmed39 U.vm ∧ U.heap = h0) (fun _ _ _ _ _ => True) (fun _ U oo U' => ∃ vv LL, oo = .returned vv ∧ (Q_rm0 Z p1 p2 p3 bI bP bS bE h0 n0) vv U'.heap LL ∧ FrameEnd U oo U' LL room_1.cells room_1.slots) := by
  refine MetFree.of_bodySF (plainFor_of_name pn_0) hisR ?_
  intro p e s m args below meth c s₁ Bd hml0 hP hK
  obtain ⟨rfl, hZ, hh⟩ := hP
  have hx := Bd.exec
  have hby := Bd.bytes
  have hml : c.maxLocals = 14 := hml0
  have hown : s.vm.findClass "com/example/upkeep_window/upkeepwindow/bench/KeptAnswersCountPinLaw" = some m.cls := findClass_of_methodNamed Bd.named
  have hnm := (name_of_methodNamed Bd.named Bd.method).1
  have X0 : Stand p l e room_1 s m #[(.int p1), (.int p2), (.int p3)] below meth c s₁ [] 0 0 := Stand.of_body Bd
  have e0 : s₁.heap = h0 := by rw [← hh, Bd.state]; rfl
  have N0 := Fr.nil n0
  have seg142 : ∀ (Tq : State) (hq : Heap) (Lq : List Loc) (z c0 c1 c2 j cj : Int32) (a ob ub : Addr) (k1 k2 : ClassId) (v0 v1 v2 : Value), (Stand p l e room_1 s m #[(.int p1), (.int p2), (.int p3)] below meth c Tq Lq 3 8) → (Tq.heap = hq) → (Fr n0 Lq) → (Old Z n0 hq) → (own_4 z) → (own_4 c0) → (own_4 c1) → (own_4 c2) → (own_4 j) → (own_4 cj) → (own_KA Z n0 hq a ob ub k1 k2 z [v0, v1, v2]) → (v0.isRef = true) → (v1.isRef = true) → (v2.isRef = true) → (0 < z → v0 = own_pk bI bP bS (if j < z ∧ cj ≠ 0 ∧ j = 0 then cj else c0)) → (1 < z → v1 = own_pk bI bP bS (if j < z ∧ cj ≠ 0 ∧ j = 1 then cj else c1)) → (2 < z → v2 = own_pk bI bP bS (if j < z ∧ cj ≠ 0 ∧ j = 2 then cj else c2)) → Goes p e below (Fin s (Q_rm0 Z p1 p2 p3 bI bP bS bE h0 n0) room_1.cells room_1.slots) (Tq.setTop (mkF m 142 #[.val (.int p1), .val (.int p2), .val (.int p3), .val (.int z), .val (.int c0), .val (.int c1), .val (.int c2), .val (.int j), .val (.int cj), .val (.ref a), .unset, .unset, .unset, .unset] [])) := by
    intro Tq hq Lq z c0 c1 c2 j cj a ob ub k1 k2 v0 v1 v2 XTq eTq Nq Oq hz hc0 hc1 hc2 hj hcj KAq hr0 hr1 hr2 hv0 hv1 hv2
    refine Goes.via (S' := Tq.setTop (mkF m 145 #[.val (.int p1), .val (.int p2), .val (.int p3), .val (.int z), .val (.int c0), .val (.int c1), .val (.int c2), .val (.int j), .val (.int cj), .val (.ref a), .unset, .unset, .unset, .unset] [(.int z), (.int j)])) (fun tz kz => ?_) ?_
    · show Steps p.tables e below (Tq.setTop (mkF m 142 #[.val (.int p1), .val (.int p2), .val (.int p3), .val (.int z), .val (.int c0), .val (.int c1), .val (.int c2), .val (.int j), .val (.int cj), .val (.ref a), .unset, .unset, .unset, .unset] [])) _
      refine XS.iload XTq.here hx rfl (hb hby at_142) rfl ?_
      show Steps p.tables e below (Tq.setTop (mkF m 144 #[.val (.int p1), .val (.int p2), .val (.int p3), .val (.int z), .val (.int c0), .val (.int c1), .val (.int c2), .val (.int j), .val (.int cj), .val (.ref a), .unset, .unset, .unset, .unset] [(.int j)])) _
      refine XS.iloadN XTq.here hx rfl (hb hby at_144) rfl ?_
      exact kz
    obtain ⟨r3, hr3⟩ : ∃ zz_ : Int32, zz_ = (if j < z then (if cj = (0 : Int32) then (0 : Int32) else (1 : Int32)) else (0 : Int32)) := ⟨_, rfl⟩
    have j145_4 : ∀ t, Steps p.tables e below (Tq.setTop (mkF m 158 #[.val (.int p1), .val (.int p2), .val (.int p3), .val (.int z), .val (.int c0), .val (.int c1), .val (.int c2), .val (.int j), .val (.int cj), .val (.ref a), .unset, .unset, .unset, .unset] [(.int r3)])) t → Steps p.tables e below (Tq.setTop (mkF m 145 #[.val (.int p1), .val (.int p2), .val (.int p3), .val (.int z), .val (.int c0), .val (.int c1), .val (.int c2), .val (.int j), .val (.int cj), .val (.ref a), .unset, .unset, .unset, .unset] [(.int z), (.int j)])) t := by
      intro tz kz
      by_cases hc145_1 : j < z
      · rw [if_pos hc145_1] at hr3
        show Steps p.tables e below (Tq.setTop (mkF m 145 #[.val (.int p1), .val (.int p2), .val (.int p3), .val (.int z), .val (.int c0), .val (.int c1), .val (.int c2), .val (.int j), .val (.int cj), .val (.ref a), .unset, .unset, .unset, .unset] [(.int z), (.int j)])) _
        refine XS.icmpNo XTq.here hx rfl (hb hby at_145) rfl (tlt hc145_1).2.1 ?_
        show Steps p.tables e below (Tq.setTop (mkF m 148 #[.val (.int p1), .val (.int p2), .val (.int p3), .val (.int z), .val (.int c0), .val (.int c1), .val (.int c2), .val (.int j), .val (.int cj), .val (.ref a), .unset, .unset, .unset, .unset] [])) _
        refine XS.iload XTq.here hx rfl (hb hby at_148) rfl ?_
        by_cases hc150_2 : cj = (0 : Int32)
        · rw [if_pos hc150_2] at hr3
          show Steps p.tables e below (Tq.setTop (mkF m 150 #[.val (.int p1), .val (.int p2), .val (.int p3), .val (.int z), .val (.int c0), .val (.int c1), .val (.int c2), .val (.int j), .val (.int cj), .val (.ref a), .unset, .unset, .unset, .unset] [(.int cj)])) _
          refine XS.ifYes XTq.here hx rfl (pc0 := 150) (pc' := 157) rfl (hb hby at_150) rfl ((if0 _ _).trans (teq hc150_2).1) (by decide) (by decide) ?_
          show Steps p.tables e below (Tq.setTop (mkF m 157 #[.val (.int p1), .val (.int p2), .val (.int p3), .val (.int z), .val (.int c0), .val (.int c1), .val (.int c2), .val (.int j), .val (.int cj), .val (.ref a), .unset, .unset, .unset, .unset] [])) _
          refine XS.iconst XTq.here hx rfl (hb hby at_157) ?_
          subst hr3
          exact kz
        · rw [if_neg hc150_2] at hr3
          show Steps p.tables e below (Tq.setTop (mkF m 150 #[.val (.int p1), .val (.int p2), .val (.int p3), .val (.int z), .val (.int c0), .val (.int c1), .val (.int c2), .val (.int j), .val (.int cj), .val (.ref a), .unset, .unset, .unset, .unset] [(.int cj)])) _
          refine XS.ifNo XTq.here hx rfl (hb hby at_150) rfl ((if0 _ _).trans (feq hc150_2).1) ?_
          show Steps p.tables e below (Tq.setTop (mkF m 153 #[.val (.int p1), .val (.int p2), .val (.int p3), .val (.int z), .val (.int c0), .val (.int c1), .val (.int c2), .val (.int j), .val (.int cj), .val (.ref a), .unset, .unset, .unset, .unset] [])) _
          refine XS.iconst XTq.here hx rfl (hb hby at_153) ?_
          show Steps p.tables e below (Tq.setTop (mkF m 154 #[.val (.int p1), .val (.int p2), .val (.int p3), .val (.int z), .val (.int c0), .val (.int c1), .val (.int c2), .val (.int j), .val (.int cj), .val (.ref a), .unset, .unset, .unset, .unset] [(.int (1 : Int32))])) _
          refine XS.goto XTq.here hx rfl (pc0 := 154) (pc' := 158) rfl (hb hby at_154) (by decide) (by decide) ?_
          subst hr3
          exact kz
      · rw [if_neg hc145_1] at hr3
        show Steps p.tables e below (Tq.setTop (mkF m 145 #[.val (.int p1), .val (.int p2), .val (.int p3), .val (.int z), .val (.int c0), .val (.int c1), .val (.int c2), .val (.int j), .val (.int cj), .val (.ref a), .unset, .unset, .unset, .unset] [(.int z), (.int j)])) _
        refine XS.icmpYes XTq.here hx rfl (pc0 := 145) (pc' := 157) rfl (hb hby at_145) rfl (flt hc145_1).2.1 (by decide) (by decide) ?_
        show Steps p.tables e below (Tq.setTop (mkF m 157 #[.val (.int p1), .val (.int p2), .val (.int p3), .val (.int z), .val (.int c0), .val (.int c1), .val (.int c2), .val (.int j), .val (.int cj), .val (.ref a), .unset, .unset, .unset, .unset] [])) _
        refine XS.iconst XTq.here hx rfl (hb hby at_157) ?_
        subst hr3
        exact kz
    refine Goes.via j145_4 ?_
    refine Goes.via (S' := Tq.setTop (mkF m 162 #[.val (.int p1), .val (.int p2), .val (.int p3), .val (.int z), .val (.int c0), .val (.int c1), .val (.int c2), .val (.int j), .val (.int cj), .val (.ref a), .val (.int r3), .unset, .unset, .unset] [(.int r3)])) (fun tz kz => ?_) ?_
    · show Steps p.tables e below (Tq.setTop (mkF m 158 #[.val (.int p1), .val (.int p2), .val (.int p3), .val (.int z), .val (.int c0), .val (.int c1), .val (.int c2), .val (.int j), .val (.int cj), .val (.ref a), .unset, .unset, .unset, .unset] [(.int r3)])) _
      refine XS.istore XTq.here hx rfl (hb hby at_158) rfl (l' := #[.val (.int p1), .val (.int p2), .val (.int p3), .val (.int z), .val (.int c0), .val (.int c1), .val (.int c2), .val (.int j), .val (.int cj), .val (.ref a), .val (.int r3), .unset, .unset, .unset]) rfl ?_
      show Steps p.tables e below (Tq.setTop (mkF m 160 #[.val (.int p1), .val (.int p2), .val (.int p3), .val (.int z), .val (.int c0), .val (.int c1), .val (.int c2), .val (.int j), .val (.int cj), .val (.ref a), .val (.int r3), .unset, .unset, .unset] [])) _
      refine XS.iload XTq.here hx rfl (hb hby at_160) rfl ?_
      exact kz
    obtain ⟨r7, hr7⟩ : ∃ zz_ : Int32, zz_ = (if r3 = (0 : Int32) then c0 else (if j = (0 : Int32) then cj else c0)) := ⟨_, rfl⟩
    have j162_8 : ∀ t, Steps p.tables e below (Tq.setTop (mkF m 177 #[.val (.int p1), .val (.int p2), .val (.int p3), .val (.int z), .val (.int c0), .val (.int c1), .val (.int c2), .val (.int j), .val (.int cj), .val (.ref a), .val (.int r3), .unset, .unset, .unset] [(.int r7)])) t → Steps p.tables e below (Tq.setTop (mkF m 162 #[.val (.int p1), .val (.int p2), .val (.int p3), .val (.int z), .val (.int c0), .val (.int c1), .val (.int c2), .val (.int j), .val (.int cj), .val (.ref a), .val (.int r3), .unset, .unset, .unset] [(.int r3)])) t := by
      intro tz kz
      by_cases hc162_5 : r3 = (0 : Int32)
      · rw [if_pos hc162_5] at hr7
        show Steps p.tables e below (Tq.setTop (mkF m 162 #[.val (.int p1), .val (.int p2), .val (.int p3), .val (.int z), .val (.int c0), .val (.int c1), .val (.int c2), .val (.int j), .val (.int cj), .val (.ref a), .val (.int r3), .unset, .unset, .unset] [(.int r3)])) _
        refine XS.ifYes XTq.here hx rfl (pc0 := 162) (pc' := 175) rfl (hb hby at_162) rfl ((if0 _ _).trans (teq hc162_5).1) (by decide) (by decide) ?_
        show Steps p.tables e below (Tq.setTop (mkF m 175 #[.val (.int p1), .val (.int p2), .val (.int p3), .val (.int z), .val (.int c0), .val (.int c1), .val (.int c2), .val (.int j), .val (.int cj), .val (.ref a), .val (.int r3), .unset, .unset, .unset] [])) _
        refine XS.iload XTq.here hx rfl (hb hby at_175) rfl ?_
        subst hr7
        exact kz
      · rw [if_neg hc162_5] at hr7
        show Steps p.tables e below (Tq.setTop (mkF m 162 #[.val (.int p1), .val (.int p2), .val (.int p3), .val (.int z), .val (.int c0), .val (.int c1), .val (.int c2), .val (.int j), .val (.int cj), .val (.ref a), .val (.int r3), .unset, .unset, .unset] [(.int r3)])) _
        refine XS.ifNo XTq.here hx rfl (hb hby at_162) rfl ((if0 _ _).trans (feq hc162_5).1) ?_
        show Steps p.tables e below (Tq.setTop (mkF m 165 #[.val (.int p1), .val (.int p2), .val (.int p3), .val (.int z), .val (.int c0), .val (.int c1), .val (.int c2), .val (.int j), .val (.int cj), .val (.ref a), .val (.int r3), .unset, .unset, .unset] [])) _
        refine XS.iload XTq.here hx rfl (hb hby at_165) rfl ?_
        by_cases hc167_6 : j = (0 : Int32)
        · rw [if_pos hc167_6] at hr7
          show Steps p.tables e below (Tq.setTop (mkF m 167 #[.val (.int p1), .val (.int p2), .val (.int p3), .val (.int z), .val (.int c0), .val (.int c1), .val (.int c2), .val (.int j), .val (.int cj), .val (.ref a), .val (.int r3), .unset, .unset, .unset] [(.int j)])) _
          refine XS.ifNo XTq.here hx rfl (hb hby at_167) rfl ((if0 _ _).trans (teq hc167_6).2) ?_
          show Steps p.tables e below (Tq.setTop (mkF m 170 #[.val (.int p1), .val (.int p2), .val (.int p3), .val (.int z), .val (.int c0), .val (.int c1), .val (.int c2), .val (.int j), .val (.int cj), .val (.ref a), .val (.int r3), .unset, .unset, .unset] [])) _
          refine XS.iload XTq.here hx rfl (hb hby at_170) rfl ?_
          show Steps p.tables e below (Tq.setTop (mkF m 172 #[.val (.int p1), .val (.int p2), .val (.int p3), .val (.int z), .val (.int c0), .val (.int c1), .val (.int c2), .val (.int j), .val (.int cj), .val (.ref a), .val (.int r3), .unset, .unset, .unset] [(.int cj)])) _
          refine XS.goto XTq.here hx rfl (pc0 := 172) (pc' := 177) rfl (hb hby at_172) (by decide) (by decide) ?_
          subst hr7
          exact kz
        · rw [if_neg hc167_6] at hr7
          show Steps p.tables e below (Tq.setTop (mkF m 167 #[.val (.int p1), .val (.int p2), .val (.int p3), .val (.int z), .val (.int c0), .val (.int c1), .val (.int c2), .val (.int j), .val (.int cj), .val (.ref a), .val (.int r3), .unset, .unset, .unset] [(.int j)])) _
          refine XS.ifYes XTq.here hx rfl (pc0 := 167) (pc' := 175) rfl (hb hby at_167) rfl ((if0 _ _).trans (feq hc167_6).2) (by decide) (by decide) ?_
          show Steps p.tables e below (Tq.setTop (mkF m 175 #[.val (.int p1), .val (.int p2), .val (.int p3), .val (.int z), .val (.int c0), .val (.int c1), .val (.int c2), .val (.int j), .val (.int cj), .val (.ref a), .val (.int r3), .unset, .unset, .unset] [])) _
          refine XS.iload XTq.here hx rfl (hb hby at_175) rfl ?_
          subst hr7
          exact kz
    refine Goes.via j162_8 ?_
    refine Goes.via (S' := Tq.setTop (mkF m 181 #[.val (.int p1), .val (.int p2), .val (.int p3), .val (.int z), .val (.int c0), .val (.int c1), .val (.int c2), .val (.int j), .val (.int cj), .val (.ref a), .val (.int r3), .val (.int r7), .unset, .unset] [(.int r3)])) (fun tz kz => ?_) ?_
    · show Steps p.tables e below (Tq.setTop (mkF m 177 #[.val (.int p1), .val (.int p2), .val (.int p3), .val (.int z), .val (.int c0), .val (.int c1), .val (.int c2), .val (.int j), .val (.int cj), .val (.ref a), .val (.int r3), .unset, .unset, .unset] [(.int r7)])) _
      refine XS.istore XTq.here hx rfl (hb hby at_177) rfl (l' := #[.val (.int p1), .val (.int p2), .val (.int p3), .val (.int z), .val (.int c0), .val (.int c1), .val (.int c2), .val (.int j), .val (.int cj), .val (.ref a), .val (.int r3), .val (.int r7), .unset, .unset]) rfl ?_
      show Steps p.tables e below (Tq.setTop (mkF m 179 #[.val (.int p1), .val (.int p2), .val (.int p3), .val (.int z), .val (.int c0), .val (.int c1), .val (.int c2), .val (.int j), .val (.int cj), .val (.ref a), .val (.int r3), .val (.int r7), .unset, .unset] [])) _
      refine XS.iload XTq.here hx rfl (hb hby at_179) rfl ?_
      exact kz
    obtain ⟨r11, hr11⟩ : ∃ zz_ : Int32, zz_ = (if r3 = (0 : Int32) then c1 else (if j = (1 : Int32) then cj else c1)) := ⟨_, rfl⟩
    have j181_12 : ∀ t, Steps p.tables e below (Tq.setTop (mkF m 197 #[.val (.int p1), .val (.int p2), .val (.int p3), .val (.int z), .val (.int c0), .val (.int c1), .val (.int c2), .val (.int j), .val (.int cj), .val (.ref a), .val (.int r3), .val (.int r7), .unset, .unset] [(.int r11)])) t → Steps p.tables e below (Tq.setTop (mkF m 181 #[.val (.int p1), .val (.int p2), .val (.int p3), .val (.int z), .val (.int c0), .val (.int c1), .val (.int c2), .val (.int j), .val (.int cj), .val (.ref a), .val (.int r3), .val (.int r7), .unset, .unset] [(.int r3)])) t := by
      intro tz kz
      by_cases hc181_9 : r3 = (0 : Int32)
      · rw [if_pos hc181_9] at hr11
        show Steps p.tables e below (Tq.setTop (mkF m 181 #[.val (.int p1), .val (.int p2), .val (.int p3), .val (.int z), .val (.int c0), .val (.int c1), .val (.int c2), .val (.int j), .val (.int cj), .val (.ref a), .val (.int r3), .val (.int r7), .unset, .unset] [(.int r3)])) _
        refine XS.ifYes XTq.here hx rfl (pc0 := 181) (pc' := 195) rfl (hb hby at_181) rfl ((if0 _ _).trans (teq hc181_9).1) (by decide) (by decide) ?_
        show Steps p.tables e below (Tq.setTop (mkF m 195 #[.val (.int p1), .val (.int p2), .val (.int p3), .val (.int z), .val (.int c0), .val (.int c1), .val (.int c2), .val (.int j), .val (.int cj), .val (.ref a), .val (.int r3), .val (.int r7), .unset, .unset] [])) _
        refine XS.iload XTq.here hx rfl (hb hby at_195) rfl ?_
        subst hr11
        exact kz
      · rw [if_neg hc181_9] at hr11
        show Steps p.tables e below (Tq.setTop (mkF m 181 #[.val (.int p1), .val (.int p2), .val (.int p3), .val (.int z), .val (.int c0), .val (.int c1), .val (.int c2), .val (.int j), .val (.int cj), .val (.ref a), .val (.int r3), .val (.int r7), .unset, .unset] [(.int r3)])) _
        refine XS.ifNo XTq.here hx rfl (hb hby at_181) rfl ((if0 _ _).trans (feq hc181_9).1) ?_
        show Steps p.tables e below (Tq.setTop (mkF m 184 #[.val (.int p1), .val (.int p2), .val (.int p3), .val (.int z), .val (.int c0), .val (.int c1), .val (.int c2), .val (.int j), .val (.int cj), .val (.ref a), .val (.int r3), .val (.int r7), .unset, .unset] [])) _
        refine XS.iload XTq.here hx rfl (hb hby at_184) rfl ?_
        show Steps p.tables e below (Tq.setTop (mkF m 186 #[.val (.int p1), .val (.int p2), .val (.int p3), .val (.int z), .val (.int c0), .val (.int c1), .val (.int c2), .val (.int j), .val (.int cj), .val (.ref a), .val (.int r3), .val (.int r7), .unset, .unset] [(.int j)])) _
        refine XS.iconst XTq.here hx rfl (hb hby at_186) ?_
        by_cases hc187_10 : j = (1 : Int32)
        · rw [if_pos hc187_10] at hr11
          show Steps p.tables e below (Tq.setTop (mkF m 187 #[.val (.int p1), .val (.int p2), .val (.int p3), .val (.int z), .val (.int c0), .val (.int c1), .val (.int c2), .val (.int j), .val (.int cj), .val (.ref a), .val (.int r3), .val (.int r7), .unset, .unset] [(.int (1 : Int32)), (.int j)])) _
          refine XS.icmpNo XTq.here hx rfl (hb hby at_187) rfl (teq hc187_10).2 ?_
          show Steps p.tables e below (Tq.setTop (mkF m 190 #[.val (.int p1), .val (.int p2), .val (.int p3), .val (.int z), .val (.int c0), .val (.int c1), .val (.int c2), .val (.int j), .val (.int cj), .val (.ref a), .val (.int r3), .val (.int r7), .unset, .unset] [])) _
          refine XS.iload XTq.here hx rfl (hb hby at_190) rfl ?_
          show Steps p.tables e below (Tq.setTop (mkF m 192 #[.val (.int p1), .val (.int p2), .val (.int p3), .val (.int z), .val (.int c0), .val (.int c1), .val (.int c2), .val (.int j), .val (.int cj), .val (.ref a), .val (.int r3), .val (.int r7), .unset, .unset] [(.int cj)])) _
          refine XS.goto XTq.here hx rfl (pc0 := 192) (pc' := 197) rfl (hb hby at_192) (by decide) (by decide) ?_
          subst hr11
          exact kz
        · rw [if_neg hc187_10] at hr11
          show Steps p.tables e below (Tq.setTop (mkF m 187 #[.val (.int p1), .val (.int p2), .val (.int p3), .val (.int z), .val (.int c0), .val (.int c1), .val (.int c2), .val (.int j), .val (.int cj), .val (.ref a), .val (.int r3), .val (.int r7), .unset, .unset] [(.int (1 : Int32)), (.int j)])) _
          refine XS.icmpYes XTq.here hx rfl (pc0 := 187) (pc' := 195) rfl (hb hby at_187) rfl (feq hc187_10).2 (by decide) (by decide) ?_
          show Steps p.tables e below (Tq.setTop (mkF m 195 #[.val (.int p1), .val (.int p2), .val (.int p3), .val (.int z), .val (.int c0), .val (.int c1), .val (.int c2), .val (.int j), .val (.int cj), .val (.ref a), .val (.int r3), .val (.int r7), .unset, .unset] [])) _
          refine XS.iload XTq.here hx rfl (hb hby at_195) rfl ?_
          subst hr11
          exact kz
    refine Goes.via j181_12 ?_
    refine Goes.via (S' := Tq.setTop (mkF m 201 #[.val (.int p1), .val (.int p2), .val (.int p3), .val (.int z), .val (.int c0), .val (.int c1), .val (.int c2), .val (.int j), .val (.int cj), .val (.ref a), .val (.int r3), .val (.int r7), .val (.int r11), .unset] [(.int r3)])) (fun tz kz => ?_) ?_
    · show Steps p.tables e below (Tq.setTop (mkF m 197 #[.val (.int p1), .val (.int p2), .val (.int p3), .val (.int z), .val (.int c0), .val (.int c1), .val (.int c2), .val (.int j), .val (.int cj), .val (.ref a), .val (.int r3), .val (.int r7), .unset, .unset] [(.int r11)])) _
      refine XS.istore XTq.here hx rfl (hb hby at_197) rfl (l' := #[.val (.int p1), .val (.int p2), .val (.int p3), .val (.int z), .val (.int c0), .val (.int c1), .val (.int c2), .val (.int j), .val (.int cj), .val (.ref a), .val (.int r3), .val (.int r7), .val (.int r11), .unset]) rfl ?_
      show Steps p.tables e below (Tq.setTop (mkF m 199 #[.val (.int p1), .val (.int p2), .val (.int p3), .val (.int z), .val (.int c0), .val (.int c1), .val (.int c2), .val (.int j), .val (.int cj), .val (.ref a), .val (.int r3), .val (.int r7), .val (.int r11), .unset] [])) _
      refine XS.iload XTq.here hx rfl (hb hby at_199) rfl ?_
      exact kz
    obtain ⟨r15, hr15⟩ : ∃ zz_ : Int32, zz_ = (if r3 = (0 : Int32) then c2 else (if j = (2 : Int32) then cj else c2)) := ⟨_, rfl⟩
    have j201_16 : ∀ t, Steps p.tables e below (Tq.setTop (mkF m 217 #[.val (.int p1), .val (.int p2), .val (.int p3), .val (.int z), .val (.int c0), .val (.int c1), .val (.int c2), .val (.int j), .val (.int cj), .val (.ref a), .val (.int r3), .val (.int r7), .val (.int r11), .unset] [(.int r15)])) t → Steps p.tables e below (Tq.setTop (mkF m 201 #[.val (.int p1), .val (.int p2), .val (.int p3), .val (.int z), .val (.int c0), .val (.int c1), .val (.int c2), .val (.int j), .val (.int cj), .val (.ref a), .val (.int r3), .val (.int r7), .val (.int r11), .unset] [(.int r3)])) t := by
      intro tz kz
      by_cases hc201_13 : r3 = (0 : Int32)
      · rw [if_pos hc201_13] at hr15
        show Steps p.tables e below (Tq.setTop (mkF m 201 #[.val (.int p1), .val (.int p2), .val (.int p3), .val (.int z), .val (.int c0), .val (.int c1), .val (.int c2), .val (.int j), .val (.int cj), .val (.ref a), .val (.int r3), .val (.int r7), .val (.int r11), .unset] [(.int r3)])) _
        refine XS.ifYes XTq.here hx rfl (pc0 := 201) (pc' := 215) rfl (hb hby at_201) rfl ((if0 _ _).trans (teq hc201_13).1) (by decide) (by decide) ?_
        show Steps p.tables e below (Tq.setTop (mkF m 215 #[.val (.int p1), .val (.int p2), .val (.int p3), .val (.int z), .val (.int c0), .val (.int c1), .val (.int c2), .val (.int j), .val (.int cj), .val (.ref a), .val (.int r3), .val (.int r7), .val (.int r11), .unset] [])) _
        refine XS.iload XTq.here hx rfl (hb hby at_215) rfl ?_
        subst hr15
        exact kz
      · rw [if_neg hc201_13] at hr15
        show Steps p.tables e below (Tq.setTop (mkF m 201 #[.val (.int p1), .val (.int p2), .val (.int p3), .val (.int z), .val (.int c0), .val (.int c1), .val (.int c2), .val (.int j), .val (.int cj), .val (.ref a), .val (.int r3), .val (.int r7), .val (.int r11), .unset] [(.int r3)])) _
        refine XS.ifNo XTq.here hx rfl (hb hby at_201) rfl ((if0 _ _).trans (feq hc201_13).1) ?_
        show Steps p.tables e below (Tq.setTop (mkF m 204 #[.val (.int p1), .val (.int p2), .val (.int p3), .val (.int z), .val (.int c0), .val (.int c1), .val (.int c2), .val (.int j), .val (.int cj), .val (.ref a), .val (.int r3), .val (.int r7), .val (.int r11), .unset] [])) _
        refine XS.iload XTq.here hx rfl (hb hby at_204) rfl ?_
        show Steps p.tables e below (Tq.setTop (mkF m 206 #[.val (.int p1), .val (.int p2), .val (.int p3), .val (.int z), .val (.int c0), .val (.int c1), .val (.int c2), .val (.int j), .val (.int cj), .val (.ref a), .val (.int r3), .val (.int r7), .val (.int r11), .unset] [(.int j)])) _
        refine XS.iconst XTq.here hx rfl (hb hby at_206) ?_
        by_cases hc207_14 : j = (2 : Int32)
        · rw [if_pos hc207_14] at hr15
          show Steps p.tables e below (Tq.setTop (mkF m 207 #[.val (.int p1), .val (.int p2), .val (.int p3), .val (.int z), .val (.int c0), .val (.int c1), .val (.int c2), .val (.int j), .val (.int cj), .val (.ref a), .val (.int r3), .val (.int r7), .val (.int r11), .unset] [(.int (2 : Int32)), (.int j)])) _
          refine XS.icmpNo XTq.here hx rfl (hb hby at_207) rfl (teq hc207_14).2 ?_
          show Steps p.tables e below (Tq.setTop (mkF m 210 #[.val (.int p1), .val (.int p2), .val (.int p3), .val (.int z), .val (.int c0), .val (.int c1), .val (.int c2), .val (.int j), .val (.int cj), .val (.ref a), .val (.int r3), .val (.int r7), .val (.int r11), .unset] [])) _
          refine XS.iload XTq.here hx rfl (hb hby at_210) rfl ?_
          show Steps p.tables e below (Tq.setTop (mkF m 212 #[.val (.int p1), .val (.int p2), .val (.int p3), .val (.int z), .val (.int c0), .val (.int c1), .val (.int c2), .val (.int j), .val (.int cj), .val (.ref a), .val (.int r3), .val (.int r7), .val (.int r11), .unset] [(.int cj)])) _
          refine XS.goto XTq.here hx rfl (pc0 := 212) (pc' := 217) rfl (hb hby at_212) (by decide) (by decide) ?_
          subst hr15
          exact kz
        · rw [if_neg hc207_14] at hr15
          show Steps p.tables e below (Tq.setTop (mkF m 207 #[.val (.int p1), .val (.int p2), .val (.int p3), .val (.int z), .val (.int c0), .val (.int c1), .val (.int c2), .val (.int j), .val (.int cj), .val (.ref a), .val (.int r3), .val (.int r7), .val (.int r11), .unset] [(.int (2 : Int32)), (.int j)])) _
          refine XS.icmpYes XTq.here hx rfl (pc0 := 207) (pc' := 215) rfl (hb hby at_207) rfl (feq hc207_14).2 (by decide) (by decide) ?_
          show Steps p.tables e below (Tq.setTop (mkF m 215 #[.val (.int p1), .val (.int p2), .val (.int p3), .val (.int z), .val (.int c0), .val (.int c1), .val (.int c2), .val (.int j), .val (.int cj), .val (.ref a), .val (.int r3), .val (.int r7), .val (.int r11), .unset] [])) _
          refine XS.iload XTq.here hx rfl (hb hby at_215) rfl ?_
          subst hr15
          exact kz
    refine Goes.via j201_16 ?_
    refine Goes.via (S' := Tq.setTop (mkF m 222 #[.val (.int p1), .val (.int p2), .val (.int p3), .val (.int z), .val (.int c0), .val (.int c1), .val (.int c2), .val (.int j), .val (.int cj), .val (.ref a), .val (.int r3), .val (.int r7), .val (.int r11), .val (.int r15)] [.null, (.ref a)])) (fun tz kz => ?_) ?_
    · show Steps p.tables e below (Tq.setTop (mkF m 217 #[.val (.int p1), .val (.int p2), .val (.int p3), .val (.int z), .val (.int c0), .val (.int c1), .val (.int c2), .val (.int j), .val (.int cj), .val (.ref a), .val (.int r3), .val (.int r7), .val (.int r11), .unset] [(.int r15)])) _
      refine XS.istore XTq.here hx rfl (hb hby at_217) rfl (l' := #[.val (.int p1), .val (.int p2), .val (.int p3), .val (.int z), .val (.int c0), .val (.int c1), .val (.int c2), .val (.int j), .val (.int cj), .val (.ref a), .val (.int r3), .val (.int r7), .val (.int r11), .val (.int r15)]) rfl ?_
      show Steps p.tables e below (Tq.setTop (mkF m 219 #[.val (.int p1), .val (.int p2), .val (.int p3), .val (.int z), .val (.int c0), .val (.int c1), .val (.int c2), .val (.int j), .val (.int cj), .val (.ref a), .val (.int r3), .val (.int r7), .val (.int r11), .val (.int r15)] [])) _
      refine XS.aload XTq.here hx rfl (hb hby at_219) rfl rfl ?_
      show Steps p.tables e below (Tq.setTop (mkF m 221 #[.val (.int p1), .val (.int p2), .val (.int p3), .val (.int z), .val (.int c0), .val (.int c1), .val (.int c2), .val (.int j), .val (.int cj), .val (.ref a), .val (.int r3), .val (.int r7), .val (.int r11), .val (.int r15)] [(.ref a)])) _
      refine XS.aconstNull XTq.here hx rfl (hb hby at_221) ?_
      exact kz
    obtain ⟨cq17, kq17, q17a, q17b, q17c⟩ := isOf hZ eTq KAq.1
    obtain ⟨_, _, ⟨T17, L17, k17, n17⟩, -, X17, ⟨Lc17, hQ17, l17, y17, z17⟩, st17⟩ := XTq.virtualBack hx (y := (⟨"com/example/upkeep_window/upkeepwindow/bench/KeptAnswers", "count", "(Lcom/example/upkeep_window/upkeepwindow/policy/InstallOption;)I"⟩ : MethodName)) (z := (⟨"com/example/upkeep_window/upkeepwindow/bench/KeptAnswers", "count", "(Lcom/example/upkeep_window/upkeepwindow/policy/InstallOption;)I"⟩ : MethodName)) hown (mvT hZ (hw _ (List.mem_of_getElem? (i := 16) rfl))) (mvT hZ (hw _ (List.mem_of_getElem? (i := 17) rfl))) (notFace_of_selects (args := #[]) (mvT hZ (hw _ (List.mem_of_getElem? (i := 19) rfl)))) (mvT hZ (hw _ (List.mem_of_getElem? (i := 19) rfl))) (mvT hZ (hw _ (List.mem_of_getElem? (i := 18) rfl))) (by decide) (backOf (W := 0) (rm3 l Z a0 hw [] a .null ob ub k1 k2 v0 v1 v2 z hz hq n0 (Oq.1 ▸ Oq.2.1) rfl hr0 hr1 hr2 KAq) hZ (hw _ (List.mem_of_getElem? (i := 20) rfl)) (hw _ (List.mem_of_getElem? (i := 2) rfl)) (by decide) (by decide)) q17a q17c (g := (mkF m 222 #[.val (.int p1), .val (.int p2), .val (.int p3), .val (.int z), .val (.int c0), .val (.int c1), .val (.int c2), .val (.int j), .val (.int cj), .val (.ref a), .val (.int r3), .val (.int r7), .val (.int r11), .val (.int r15)] [.null, (.ref a)])) rfl (by rw [hml]; rfl) (Steps.refl _) (argsL := [.null]) (rest := []) (lenOf pd_2 rfl) rfl (by show 2 * 0 + _ ≤ _; exact Nat.le_of_eq rfl) (hb hby at_222) (fun _ _ => ⟨rfl, eTq, (by decide : 3 + 0 ≤ _), (by decide : 8 + 0 ≤ _)⟩)
    dsimp only [Pt.U, Pt.locs, Pt.cells, Pt.slots] at X17 l17 y17 z17 st17 hQ17
    subst l17 y17 z17
    obtain ⟨rfl, N17, e17⟩ := hQ17
    have Nf17 := Fr.app Nq N17
    refine Goes.via (S' := T17.setTop (mkF m 225 #[.val (.int p1), .val (.int p2), .val (.int p3), .val (.int z), .val (.int c0), .val (.int c1), .val (.int c2), .val (.int j), .val (.int cj), .val (.ref a), .val (.int r3), .val (.int r7), .val (.int r11), .val (.int r15)] [(.int (own_cnt z v0 v1 v2 .null))])) (fun _ kz => st17.trans kz) ?_
    refine Goes.via (S' := T17.setTop (mkF m 233 #[.val (.int p1), .val (.int p2), .val (.int p3), .val (.int z), .val (.int c0), .val (.int c1), .val (.int c2), .val (.int j), .val (.int cj), .val (.ref a), .val (.int r3), .val (.int r7), .val (.int r11), .val (.int r15)] [(.int r15), (.int r11), (.int r7), (.int z), (.int (0 : Int32)), (.int (own_cnt z v0 v1 v2 .null))])) (fun tz kz => ?_) ?_
    · show Steps p.tables e below (T17.setTop (mkF m 225 #[.val (.int p1), .val (.int p2), .val (.int p3), .val (.int z), .val (.int c0), .val (.int c1), .val (.int c2), .val (.int j), .val (.int cj), .val (.ref a), .val (.int r3), .val (.int r7), .val (.int r11), .val (.int r15)] [(.int (own_cnt z v0 v1 v2 .null))])) _
      refine XS.iconst X17.here hx rfl (hb hby at_225) ?_
      show Steps p.tables e below (T17.setTop (mkF m 226 #[.val (.int p1), .val (.int p2), .val (.int p3), .val (.int z), .val (.int c0), .val (.int c1), .val (.int c2), .val (.int j), .val (.int cj), .val (.ref a), .val (.int r3), .val (.int r7), .val (.int r11), .val (.int r15)] [(.int (0 : Int32)), (.int (own_cnt z v0 v1 v2 .null))])) _
      refine XS.iloadN X17.here hx rfl (hb hby at_226) rfl ?_
      show Steps p.tables e below (T17.setTop (mkF m 227 #[.val (.int p1), .val (.int p2), .val (.int p3), .val (.int z), .val (.int c0), .val (.int c1), .val (.int c2), .val (.int j), .val (.int cj), .val (.ref a), .val (.int r3), .val (.int r7), .val (.int r11), .val (.int r15)] [(.int z), (.int (0 : Int32)), (.int (own_cnt z v0 v1 v2 .null))])) _
      refine XS.iload X17.here hx rfl (hb hby at_227) rfl ?_
      show Steps p.tables e below (T17.setTop (mkF m 229 #[.val (.int p1), .val (.int p2), .val (.int p3), .val (.int z), .val (.int c0), .val (.int c1), .val (.int c2), .val (.int j), .val (.int cj), .val (.ref a), .val (.int r3), .val (.int r7), .val (.int r11), .val (.int r15)] [(.int r7), (.int z), (.int (0 : Int32)), (.int (own_cnt z v0 v1 v2 .null))])) _
      refine XS.iload X17.here hx rfl (hb hby at_229) rfl ?_
      show Steps p.tables e below (T17.setTop (mkF m 231 #[.val (.int p1), .val (.int p2), .val (.int p3), .val (.int z), .val (.int c0), .val (.int c1), .val (.int c2), .val (.int j), .val (.int cj), .val (.ref a), .val (.int r3), .val (.int r7), .val (.int r11), .val (.int r15)] [(.int r11), (.int r7), (.int z), (.int (0 : Int32)), (.int (own_cnt z v0 v1 v2 .null))])) _
      refine XS.iload X17.here hx rfl (hb hby at_231) rfl ?_
      exact kz
    obtain ⟨_, _, ⟨T18, L18, k18, n18⟩, -, X18, ⟨Lc18, hQ18, l18, y18, z18⟩, st18⟩ := Jvm.LawKit.callS X17 hx (y := (⟨"com/example/upkeep_window/upkeepwindow/bench/KeptAnswersCountPinLaw", "expected", "(IIIII)I"⟩ : MethodName)) hown (mvT hZ (hw _ (List.mem_of_getElem? (i := 21) rfl))) (mvT hZ (hw _ (List.mem_of_getElem? (i := 22) rfl))) (mvT hZ (hw _ (List.mem_of_getElem? (i := 23) rfl))) (mvT hZ (hw _ (List.mem_of_getElem? (i := 24) rfl))) (by decide) (backOf (W := 1) (rm4 l Z a0 hw [] (0 : Int32) z r7 r11 r15 hq n0 (Oq.1 ▸ Oq.2.1)) hZ (hw _ (List.mem_of_getElem? (i := 24) rfl)) (hw _ (List.mem_of_getElem? (i := 23) rfl)) (by decide) (by decide)) (g := (mkF m 233 #[.val (.int p1), .val (.int p2), .val (.int p3), .val (.int z), .val (.int c0), .val (.int c1), .val (.int c2), .val (.int j), .val (.int cj), .val (.ref a), .val (.int r3), .val (.int r7), .val (.int r11), .val (.int r15)] [(.int r15), (.int r11), (.int r7), (.int z), (.int (0 : Int32)), (.int (own_cnt z v0 v1 v2 .null))])) rfl (by rw [hml]; rfl) (argsL := [(.int (0 : Int32)), (.int z), (.int r7), (.int r11), (.int r15)]) (rest := [(.int (own_cnt z v0 v1 v2 .null))]) (lenOf pd_3 rfl) rfl (by show 2 * 0 + _ ≤ _; exact Nat.le_of_eq rfl) (hb hby at_233) (fun _ _ => ⟨rfl, e17, (by decide : 3 + 0 ≤ _), (by decide : 8 + 0 ≤ _)⟩)
    dsimp only [Pt.U, Pt.locs, Pt.cells, Pt.slots] at X18 l18 y18 z18 st18 hQ18
    subst l18 y18 z18
    obtain ⟨rfl, N18, e18⟩ := hQ18
    have Nf18 := Fr.app Nf17 N18
    refine Goes.via (S' := T18.setTop (mkF m 236 #[.val (.int p1), .val (.int p2), .val (.int p3), .val (.int z), .val (.int c0), .val (.int c1), .val (.int c2), .val (.int j), .val (.int cj), .val (.ref a), .val (.int r3), .val (.int r7), .val (.int r11), .val (.int r15)] [(.int (own_hit 0 z r7 (0 : Int32) + own_hit 1 z r11 (0 : Int32) + own_hit 2 z r15 (0 : Int32))), (.int (own_cnt z v0 v1 v2 .null))])) (st18) ?_
    refine Goes.via (S' := T18.setTop (mkF m 241 #[.val (.int p1), .val (.int p2), .val (.int p3), .val (.int z), .val (.int c0), .val (.int c1), .val (.int c2), .val (.int j), .val (.int cj), .val (.ref a), .val (.int r3), .val (.int r7), .val (.int r11), .val (.int r15)] [(.ref a)])) (fun tz kz => ?_) ?_
    · show Steps p.tables e below (T18.setTop (mkF m 236 #[.val (.int p1), .val (.int p2), .val (.int p3), .val (.int z), .val (.int c0), .val (.int c1), .val (.int c2), .val (.int j), .val (.int cj), .val (.ref a), .val (.int r3), .val (.int r7), .val (.int r11), .val (.int r15)] [(.int (own_hit 0 z r7 (0 : Int32) + own_hit 1 z r11 (0 : Int32) + own_hit 2 z r15 (0 : Int32))), (.int (own_cnt z v0 v1 v2 .null))])) _
      refine XS.icmpNo X18.here hx rfl (hb hby at_236) rfl (teq (own_fin d1 d2 d3 (k := (0 : Int32)) rfl hz (own_4of (own_s hr3 hr7) hc0 hcj) (own_4of (own_s hr3 hr11) hc1 hcj) (own_4of (own_s hr3 hr15) hc2 hcj) (by unfold own_4; decide) (by rw [(own_s hr3 hr7)]; exact hv0) (by rw [(own_s hr3 hr11)]; exact hv1) (by rw [(own_s hr3 hr15)]; exact hv2))).2 ?_
      show Steps p.tables e below (T18.setTop (mkF m 239 #[.val (.int p1), .val (.int p2), .val (.int p3), .val (.int z), .val (.int c0), .val (.int c1), .val (.int c2), .val (.int j), .val (.int cj), .val (.ref a), .val (.int r3), .val (.int r7), .val (.int r11), .val (.int r15)] [])) _
      refine XS.aload X18.here hx rfl (hb hby at_239) rfl rfl ?_
      exact kz
    obtain ⟨T19, X19, e19, st19⟩ := getS2 X18 hx hZ hown (host := "") (Or.inl (hw _ (List.mem_of_getElem? (i := 28) rfl))) Via.refl e18 (S_bI.ext Oq.2) (g := (mkF m 241 #[.val (.int p1), .val (.int p2), .val (.int p3), .val (.int z), .val (.int c0), .val (.int c1), .val (.int c2), .val (.int j), .val (.int cj), .val (.ref a), .val (.int r3), .val (.int r7), .val (.int r11), .val (.int r15)] [(.ref a)])) rfl (hb hby at_241)
    refine Goes.via (S' := T19.setTop (mkF m 244 #[.val (.int p1), .val (.int p2), .val (.int p3), .val (.int z), .val (.int c0), .val (.int c1), .val (.int c2), .val (.int j), .val (.int cj), .val (.ref a), .val (.int r3), .val (.int r7), .val (.int r11), .val (.int r15)] [(.ref bI), (.ref a)])) st19 ?_
    obtain ⟨cq20, kq20, q20a, q20b, q20c⟩ := isOf hZ e19 KAq.1
    obtain ⟨_, _, ⟨T20, L20, k20, n20⟩, -, X20, ⟨Lc20, hQ20, l20, y20, z20⟩, st20⟩ := X19.virtualBack hx (y := (⟨"com/example/upkeep_window/upkeepwindow/bench/KeptAnswers", "count", "(Lcom/example/upkeep_window/upkeepwindow/policy/InstallOption;)I"⟩ : MethodName)) (z := (⟨"com/example/upkeep_window/upkeepwindow/bench/KeptAnswers", "count", "(Lcom/example/upkeep_window/upkeepwindow/policy/InstallOption;)I"⟩ : MethodName)) hown (mvT hZ (hw _ (List.mem_of_getElem? (i := 16) rfl))) (mvT hZ (hw _ (List.mem_of_getElem? (i := 17) rfl))) (notFace_of_selects (args := #[]) (mvT hZ (hw _ (List.mem_of_getElem? (i := 19) rfl)))) (mvT hZ (hw _ (List.mem_of_getElem? (i := 19) rfl))) (mvT hZ (hw _ (List.mem_of_getElem? (i := 18) rfl))) (by decide) (backOf (W := 0) (rm3 l Z a0 hw [] a (.ref bI) ob ub k1 k2 v0 v1 v2 z hz hq n0 (Oq.1 ▸ Oq.2.1) rfl hr0 hr1 hr2 KAq) hZ (hw _ (List.mem_of_getElem? (i := 20) rfl)) (hw _ (List.mem_of_getElem? (i := 2) rfl)) (by decide) (by decide)) q20a q20c (g := (mkF m 244 #[.val (.int p1), .val (.int p2), .val (.int p3), .val (.int z), .val (.int c0), .val (.int c1), .val (.int c2), .val (.int j), .val (.int cj), .val (.ref a), .val (.int r3), .val (.int r7), .val (.int r11), .val (.int r15)] [(.ref bI), (.ref a)])) rfl (by rw [hml]; rfl) (Steps.refl _) (argsL := [(.ref bI)]) (rest := []) (lenOf pd_2 rfl) rfl (by show 2 * 0 + _ ≤ _; exact Nat.le_of_eq rfl) (hb hby at_244) (fun _ _ => ⟨rfl, e19, (by decide : 3 + 0 ≤ _), (by decide : 8 + 0 ≤ _)⟩)
    dsimp only [Pt.U, Pt.locs, Pt.cells, Pt.slots] at X20 l20 y20 z20 st20 hQ20
    subst l20 y20 z20
    obtain ⟨rfl, N20, e20⟩ := hQ20
    have Nf20 := Fr.app Nf18 N20
    refine Goes.via (S' := T20.setTop (mkF m 247 #[.val (.int p1), .val (.int p2), .val (.int p3), .val (.int z), .val (.int c0), .val (.int c1), .val (.int c2), .val (.int j), .val (.int cj), .val (.ref a), .val (.int r3), .val (.int r7), .val (.int r11), .val (.int r15)] [(.int (own_cnt z v0 v1 v2 (.ref bI)))])) (fun _ kz => st20.trans kz) ?_
    refine Goes.via (S' := T20.setTop (mkF m 255 #[.val (.int p1), .val (.int p2), .val (.int p3), .val (.int z), .val (.int c0), .val (.int c1), .val (.int c2), .val (.int j), .val (.int cj), .val (.ref a), .val (.int r3), .val (.int r7), .val (.int r11), .val (.int r15)] [(.int r15), (.int r11), (.int r7), (.int z), (.int (1 : Int32)), (.int (own_cnt z v0 v1 v2 (.ref bI)))])) (fun tz kz => ?_) ?_
    · show Steps p.tables e below (T20.setTop (mkF m 247 #[.val (.int p1), .val (.int p2), .val (.int p3), .val (.int z), .val (.int c0), .val (.int c1), .val (.int c2), .val (.int j), .val (.int cj), .val (.ref a), .val (.int r3), .val (.int r7), .val (.int r11), .val (.int r15)] [(.int (own_cnt z v0 v1 v2 (.ref bI)))])) _
      refine XS.iconst X20.here hx rfl (hb hby at_247) ?_
      show Steps p.tables e below (T20.setTop (mkF m 248 #[.val (.int p1), .val (.int p2), .val (.int p3), .val (.int z), .val (.int c0), .val (.int c1), .val (.int c2), .val (.int j), .val (.int cj), .val (.ref a), .val (.int r3), .val (.int r7), .val (.int r11), .val (.int r15)] [(.int (1 : Int32)), (.int (own_cnt z v0 v1 v2 (.ref bI)))])) _
      refine XS.iloadN X20.here hx rfl (hb hby at_248) rfl ?_
      show Steps p.tables e below (T20.setTop (mkF m 249 #[.val (.int p1), .val (.int p2), .val (.int p3), .val (.int z), .val (.int c0), .val (.int c1), .val (.int c2), .val (.int j), .val (.int cj), .val (.ref a), .val (.int r3), .val (.int r7), .val (.int r11), .val (.int r15)] [(.int z), (.int (1 : Int32)), (.int (own_cnt z v0 v1 v2 (.ref bI)))])) _
      refine XS.iload X20.here hx rfl (hb hby at_249) rfl ?_
      show Steps p.tables e below (T20.setTop (mkF m 251 #[.val (.int p1), .val (.int p2), .val (.int p3), .val (.int z), .val (.int c0), .val (.int c1), .val (.int c2), .val (.int j), .val (.int cj), .val (.ref a), .val (.int r3), .val (.int r7), .val (.int r11), .val (.int r15)] [(.int r7), (.int z), (.int (1 : Int32)), (.int (own_cnt z v0 v1 v2 (.ref bI)))])) _
      refine XS.iload X20.here hx rfl (hb hby at_251) rfl ?_
      show Steps p.tables e below (T20.setTop (mkF m 253 #[.val (.int p1), .val (.int p2), .val (.int p3), .val (.int z), .val (.int c0), .val (.int c1), .val (.int c2), .val (.int j), .val (.int cj), .val (.ref a), .val (.int r3), .val (.int r7), .val (.int r11), .val (.int r15)] [(.int r11), (.int r7), (.int z), (.int (1 : Int32)), (.int (own_cnt z v0 v1 v2 (.ref bI)))])) _
      refine XS.iload X20.here hx rfl (hb hby at_253) rfl ?_
      exact kz
    obtain ⟨_, _, ⟨T21, L21, k21, n21⟩, -, X21, ⟨Lc21, hQ21, l21, y21, z21⟩, st21⟩ := Jvm.LawKit.callS X20 hx (y := (⟨"com/example/upkeep_window/upkeepwindow/bench/KeptAnswersCountPinLaw", "expected", "(IIIII)I"⟩ : MethodName)) hown (mvT hZ (hw _ (List.mem_of_getElem? (i := 21) rfl))) (mvT hZ (hw _ (List.mem_of_getElem? (i := 22) rfl))) (mvT hZ (hw _ (List.mem_of_getElem? (i := 23) rfl))) (mvT hZ (hw _ (List.mem_of_getElem? (i := 24) rfl))) (by decide) (backOf (W := 1) (rm4 l Z a0 hw [] (1 : Int32) z r7 r11 r15 hq n0 (Oq.1 ▸ Oq.2.1)) hZ (hw _ (List.mem_of_getElem? (i := 24) rfl)) (hw _ (List.mem_of_getElem? (i := 23) rfl)) (by decide) (by decide)) (g := (mkF m 255 #[.val (.int p1), .val (.int p2), .val (.int p3), .val (.int z), .val (.int c0), .val (.int c1), .val (.int c2), .val (.int j), .val (.int cj), .val (.ref a), .val (.int r3), .val (.int r7), .val (.int r11), .val (.int r15)] [(.int r15), (.int r11), (.int r7), (.int z), (.int (1 : Int32)), (.int (own_cnt z v0 v1 v2 (.ref bI)))])) rfl (by rw [hml]; rfl) (argsL := [(.int (1 : Int32)), (.int z), (.int r7), (.int r11), (.int r15)]) (rest := [(.int (own_cnt z v0 v1 v2 (.ref bI)))]) (lenOf pd_3 rfl) rfl (by show 2 * 0 + _ ≤ _; exact Nat.le_of_eq rfl) (hb hby at_255) (fun _ _ => ⟨rfl, e20, (by decide : 3 + 0 ≤ _), (by decide : 8 + 0 ≤ _)⟩)
    dsimp only [Pt.U, Pt.locs, Pt.cells, Pt.slots] at X21 l21 y21 z21 st21 hQ21
    subst l21 y21 z21
    obtain ⟨rfl, N21, e21⟩ := hQ21
    have Nf21 := Fr.app Nf20 N21
    refine Goes.via (S' := T21.setTop (mkF m 258 #[.val (.int p1), .val (.int p2), .val (.int p3), .val (.int z), .val (.int c0), .val (.int c1), .val (.int c2), .val (.int j), .val (.int cj), .val (.ref a), .val (.int r3), .val (.int r7), .val (.int r11), .val (.int r15)] [(.int (own_hit 0 z r7 (1 : Int32) + own_hit 1 z r11 (1 : Int32) + own_hit 2 z r15 (1 : Int32))), (.int (own_cnt z v0 v1 v2 (.ref bI)))])) (st21) ?_
    refine Goes.via (S' := T21.setTop (mkF m 263 #[.val (.int p1), .val (.int p2), .val (.int p3), .val (.int z), .val (.int c0), .val (.int c1), .val (.int c2), .val (.int j), .val (.int cj), .val (.ref a), .val (.int r3), .val (.int r7), .val (.int r11), .val (.int r15)] [(.ref a)])) (fun tz kz => ?_) ?_
    · show Steps p.tables e below (T21.setTop (mkF m 258 #[.val (.int p1), .val (.int p2), .val (.int p3), .val (.int z), .val (.int c0), .val (.int c1), .val (.int c2), .val (.int j), .val (.int cj), .val (.ref a), .val (.int r3), .val (.int r7), .val (.int r11), .val (.int r15)] [(.int (own_hit 0 z r7 (1 : Int32) + own_hit 1 z r11 (1 : Int32) + own_hit 2 z r15 (1 : Int32))), (.int (own_cnt z v0 v1 v2 (.ref bI)))])) _
      refine XS.icmpNo X21.here hx rfl (hb hby at_258) rfl (teq (own_fin d1 d2 d3 (k := (1 : Int32)) rfl hz (own_4of (own_s hr3 hr7) hc0 hcj) (own_4of (own_s hr3 hr11) hc1 hcj) (own_4of (own_s hr3 hr15) hc2 hcj) (by unfold own_4; decide) (by rw [(own_s hr3 hr7)]; exact hv0) (by rw [(own_s hr3 hr11)]; exact hv1) (by rw [(own_s hr3 hr15)]; exact hv2))).2 ?_
      show Steps p.tables e below (T21.setTop (mkF m 261 #[.val (.int p1), .val (.int p2), .val (.int p3), .val (.int z), .val (.int c0), .val (.int c1), .val (.int c2), .val (.int j), .val (.int cj), .val (.ref a), .val (.int r3), .val (.int r7), .val (.int r11), .val (.int r15)] [])) _
      refine XS.aload X21.here hx rfl (hb hby at_261) rfl rfl ?_
      exact kz
    obtain ⟨T22, X22, e22, st22⟩ := getS2 X21 hx hZ hown (host := "") (Or.inl (hw _ (List.mem_of_getElem? (i := 31) rfl))) Via.refl e21 (S_bP.ext Oq.2) (g := (mkF m 263 #[.val (.int p1), .val (.int p2), .val (.int p3), .val (.int z), .val (.int c0), .val (.int c1), .val (.int c2), .val (.int j), .val (.int cj), .val (.ref a), .val (.int r3), .val (.int r7), .val (.int r11), .val (.int r15)] [(.ref a)])) rfl (hb hby at_263)
    refine Goes.via (S' := T22.setTop (mkF m 266 #[.val (.int p1), .val (.int p2), .val (.int p3), .val (.int z), .val (.int c0), .val (.int c1), .val (.int c2), .val (.int j), .val (.int cj), .val (.ref a), .val (.int r3), .val (.int r7), .val (.int r11), .val (.int r15)] [(.ref bP), (.ref a)])) st22 ?_
    obtain ⟨cq23, kq23, q23a, q23b, q23c⟩ := isOf hZ e22 KAq.1
    obtain ⟨_, _, ⟨T23, L23, k23, n23⟩, -, X23, ⟨Lc23, hQ23, l23, y23, z23⟩, st23⟩ := X22.virtualBack hx (y := (⟨"com/example/upkeep_window/upkeepwindow/bench/KeptAnswers", "count", "(Lcom/example/upkeep_window/upkeepwindow/policy/InstallOption;)I"⟩ : MethodName)) (z := (⟨"com/example/upkeep_window/upkeepwindow/bench/KeptAnswers", "count", "(Lcom/example/upkeep_window/upkeepwindow/policy/InstallOption;)I"⟩ : MethodName)) hown (mvT hZ (hw _ (List.mem_of_getElem? (i := 16) rfl))) (mvT hZ (hw _ (List.mem_of_getElem? (i := 17) rfl))) (notFace_of_selects (args := #[]) (mvT hZ (hw _ (List.mem_of_getElem? (i := 19) rfl)))) (mvT hZ (hw _ (List.mem_of_getElem? (i := 19) rfl))) (mvT hZ (hw _ (List.mem_of_getElem? (i := 18) rfl))) (by decide) (backOf (W := 0) (rm3 l Z a0 hw [] a (.ref bP) ob ub k1 k2 v0 v1 v2 z hz hq n0 (Oq.1 ▸ Oq.2.1) rfl hr0 hr1 hr2 KAq) hZ (hw _ (List.mem_of_getElem? (i := 20) rfl)) (hw _ (List.mem_of_getElem? (i := 2) rfl)) (by decide) (by decide)) q23a q23c (g := (mkF m 266 #[.val (.int p1), .val (.int p2), .val (.int p3), .val (.int z), .val (.int c0), .val (.int c1), .val (.int c2), .val (.int j), .val (.int cj), .val (.ref a), .val (.int r3), .val (.int r7), .val (.int r11), .val (.int r15)] [(.ref bP), (.ref a)])) rfl (by rw [hml]; rfl) (Steps.refl _) (argsL := [(.ref bP)]) (rest := []) (lenOf pd_2 rfl) rfl (by show 2 * 0 + _ ≤ _; exact Nat.le_of_eq rfl) (hb hby at_266) (fun _ _ => ⟨rfl, e22, (by decide : 3 + 0 ≤ _), (by decide : 8 + 0 ≤ _)⟩)
    dsimp only [Pt.U, Pt.locs, Pt.cells, Pt.slots] at X23 l23 y23 z23 st23 hQ23
    subst l23 y23 z23
    obtain ⟨rfl, N23, e23⟩ := hQ23
    have Nf23 := Fr.app Nf21 N23
    refine Goes.via (S' := T23.setTop (mkF m 269 #[.val (.int p1), .val (.int p2), .val (.int p3), .val (.int z), .val (.int c0), .val (.int c1), .val (.int c2), .val (.int j), .val (.int cj), .val (.ref a), .val (.int r3), .val (.int r7), .val (.int r11), .val (.int r15)] [(.int (own_cnt z v0 v1 v2 (.ref bP)))])) (fun _ kz => st23.trans kz) ?_
    refine Goes.via (S' := T23.setTop (mkF m 277 #[.val (.int p1), .val (.int p2), .val (.int p3), .val (.int z), .val (.int c0), .val (.int c1), .val (.int c2), .val (.int j), .val (.int cj), .val (.ref a), .val (.int r3), .val (.int r7), .val (.int r11), .val (.int r15)] [(.int r15), (.int r11), (.int r7), (.int z), (.int (2 : Int32)), (.int (own_cnt z v0 v1 v2 (.ref bP)))])) (fun tz kz => ?_) ?_
    · show Steps p.tables e below (T23.setTop (mkF m 269 #[.val (.int p1), .val (.int p2), .val (.int p3), .val (.int z), .val (.int c0), .val (.int c1), .val (.int c2), .val (.int j), .val (.int cj), .val (.ref a), .val (.int r3), .val (.int r7), .val (.int r11), .val (.int r15)] [(.int (own_cnt z v0 v1 v2 (.ref bP)))])) _
      refine XS.iconst X23.here hx rfl (hb hby at_269) ?_
      show Steps p.tables e below (T23.setTop (mkF m 270 #[.val (.int p1), .val (.int p2), .val (.int p3), .val (.int z), .val (.int c0), .val (.int c1), .val (.int c2), .val (.int j), .val (.int cj), .val (.ref a), .val (.int r3), .val (.int r7), .val (.int r11), .val (.int r15)] [(.int (2 : Int32)), (.int (own_cnt z v0 v1 v2 (.ref bP)))])) _
      refine XS.iloadN X23.here hx rfl (hb hby at_270) rfl ?_
      show Steps p.tables e below (T23.setTop (mkF m 271 #[.val (.int p1), .val (.int p2), .val (.int p3), .val (.int z), .val (.int c0), .val (.int c1), .val (.int c2), .val (.int j), .val (.int cj), .val (.ref a), .val (.int r3), .val (.int r7), .val (.int r11), .val (.int r15)] [(.int z), (.int (2 : Int32)), (.int (own_cnt z v0 v1 v2 (.ref bP)))])) _
      refine XS.iload X23.here hx rfl (hb hby at_271) rfl ?_
      show Steps p.tables e below (T23.setTop (mkF m 273 #[.val (.int p1), .val (.int p2), .val (.int p3), .val (.int z), .val (.int c0), .val (.int c1), .val (.int c2), .val (.int j), .val (.int cj), .val (.ref a), .val (.int r3), .val (.int r7), .val (.int r11), .val (.int r15)] [(.int r7), (.int z), (.int (2 : Int32)), (.int (own_cnt z v0 v1 v2 (.ref bP)))])) _
      refine XS.iload X23.here hx rfl (hb hby at_273) rfl ?_
      show Steps p.tables e below (T23.setTop (mkF m 275 #[.val (.int p1), .val (.int p2), .val (.int p3), .val (.int z), .val (.int c0), .val (.int c1), .val (.int c2), .val (.int j), .val (.int cj), .val (.ref a), .val (.int r3), .val (.int r7), .val (.int r11), .val (.int r15)] [(.int r11), (.int r7), (.int z), (.int (2 : Int32)), (.int (own_cnt z v0 v1 v2 (.ref bP)))])) _
      refine XS.iload X23.here hx rfl (hb hby at_275) rfl ?_
      exact kz
    obtain ⟨_, _, ⟨T24, L24, k24, n24⟩, -, X24, ⟨Lc24, hQ24, l24, y24, z24⟩, st24⟩ := Jvm.LawKit.callS X23 hx (y := (⟨"com/example/upkeep_window/upkeepwindow/bench/KeptAnswersCountPinLaw", "expected", "(IIIII)I"⟩ : MethodName)) hown (mvT hZ (hw _ (List.mem_of_getElem? (i := 21) rfl))) (mvT hZ (hw _ (List.mem_of_getElem? (i := 22) rfl))) (mvT hZ (hw _ (List.mem_of_getElem? (i := 23) rfl))) (mvT hZ (hw _ (List.mem_of_getElem? (i := 24) rfl))) (by decide) (backOf (W := 1) (rm4 l Z a0 hw [] (2 : Int32) z r7 r11 r15 hq n0 (Oq.1 ▸ Oq.2.1)) hZ (hw _ (List.mem_of_getElem? (i := 24) rfl)) (hw _ (List.mem_of_getElem? (i := 23) rfl)) (by decide) (by decide)) (g := (mkF m 277 #[.val (.int p1), .val (.int p2), .val (.int p3), .val (.int z), .val (.int c0), .val (.int c1), .val (.int c2), .val (.int j), .val (.int cj), .val (.ref a), .val (.int r3), .val (.int r7), .val (.int r11), .val (.int r15)] [(.int r15), (.int r11), (.int r7), (.int z), (.int (2 : Int32)), (.int (own_cnt z v0 v1 v2 (.ref bP)))])) rfl (by rw [hml]; rfl) (argsL := [(.int (2 : Int32)), (.int z), (.int r7), (.int r11), (.int r15)]) (rest := [(.int (own_cnt z v0 v1 v2 (.ref bP)))]) (lenOf pd_3 rfl) rfl (by show 2 * 0 + _ ≤ _; exact Nat.le_of_eq rfl) (hb hby at_277) (fun _ _ => ⟨rfl, e23, (by decide : 3 + 0 ≤ _), (by decide : 8 + 0 ≤ _)⟩)
    dsimp only [Pt.U, Pt.locs, Pt.cells, Pt.slots] at X24 l24 y24 z24 st24 hQ24
    subst l24 y24 z24
    obtain ⟨rfl, N24, e24⟩ := hQ24
    have Nf24 := Fr.app Nf23 N24
    refine Goes.via (S' := T24.setTop (mkF m 280 #[.val (.int p1), .val (.int p2), .val (.int p3), .val (.int z), .val (.int c0), .val (.int c1), .val (.int c2), .val (.int j), .val (.int cj), .val (.ref a), .val (.int r3), .val (.int r7), .val (.int r11), .val (.int r15)] [(.int (own_hit 0 z r7 (2 : Int32) + own_hit 1 z r11 (2 : Int32) + own_hit 2 z r15 (2 : Int32))), (.int (own_cnt z v0 v1 v2 (.ref bP)))])) (st24) ?_
    refine Goes.via (S' := T24.setTop (mkF m 285 #[.val (.int p1), .val (.int p2), .val (.int p3), .val (.int z), .val (.int c0), .val (.int c1), .val (.int c2), .val (.int j), .val (.int cj), .val (.ref a), .val (.int r3), .val (.int r7), .val (.int r11), .val (.int r15)] [(.ref a)])) (fun tz kz => ?_) ?_
    · show Steps p.tables e below (T24.setTop (mkF m 280 #[.val (.int p1), .val (.int p2), .val (.int p3), .val (.int z), .val (.int c0), .val (.int c1), .val (.int c2), .val (.int j), .val (.int cj), .val (.ref a), .val (.int r3), .val (.int r7), .val (.int r11), .val (.int r15)] [(.int (own_hit 0 z r7 (2 : Int32) + own_hit 1 z r11 (2 : Int32) + own_hit 2 z r15 (2 : Int32))), (.int (own_cnt z v0 v1 v2 (.ref bP)))])) _
      refine XS.icmpNo X24.here hx rfl (hb hby at_280) rfl (teq (own_fin d1 d2 d3 (k := (2 : Int32)) rfl hz (own_4of (own_s hr3 hr7) hc0 hcj) (own_4of (own_s hr3 hr11) hc1 hcj) (own_4of (own_s hr3 hr15) hc2 hcj) (by unfold own_4; decide) (by rw [(own_s hr3 hr7)]; exact hv0) (by rw [(own_s hr3 hr11)]; exact hv1) (by rw [(own_s hr3 hr15)]; exact hv2))).2 ?_
      show Steps p.tables e below (T24.setTop (mkF m 283 #[.val (.int p1), .val (.int p2), .val (.int p3), .val (.int z), .val (.int c0), .val (.int c1), .val (.int c2), .val (.int j), .val (.int cj), .val (.ref a), .val (.int r3), .val (.int r7), .val (.int r11), .val (.int r15)] [])) _
      refine XS.aload X24.here hx rfl (hb hby at_283) rfl rfl ?_
      exact kz
    obtain ⟨T25, X25, e25, st25⟩ := getS2 X24 hx hZ hown (host := "") (Or.inl (hw _ (List.mem_of_getElem? (i := 33) rfl))) Via.refl e24 (S_bS.ext Oq.2) (g := (mkF m 285 #[.val (.int p1), .val (.int p2), .val (.int p3), .val (.int z), .val (.int c0), .val (.int c1), .val (.int c2), .val (.int j), .val (.int cj), .val (.ref a), .val (.int r3), .val (.int r7), .val (.int r11), .val (.int r15)] [(.ref a)])) rfl (hb hby at_285)
    refine Goes.via (S' := T25.setTop (mkF m 288 #[.val (.int p1), .val (.int p2), .val (.int p3), .val (.int z), .val (.int c0), .val (.int c1), .val (.int c2), .val (.int j), .val (.int cj), .val (.ref a), .val (.int r3), .val (.int r7), .val (.int r11), .val (.int r15)] [(.ref bS), (.ref a)])) st25 ?_
    obtain ⟨cq26, kq26, q26a, q26b, q26c⟩ := isOf hZ e25 KAq.1
    obtain ⟨_, _, ⟨T26, L26, k26, n26⟩, -, X26, ⟨Lc26, hQ26, l26, y26, z26⟩, st26⟩ := X25.virtualBack hx (y := (⟨"com/example/upkeep_window/upkeepwindow/bench/KeptAnswers", "count", "(Lcom/example/upkeep_window/upkeepwindow/policy/InstallOption;)I"⟩ : MethodName)) (z := (⟨"com/example/upkeep_window/upkeepwindow/bench/KeptAnswers", "count", "(Lcom/example/upkeep_window/upkeepwindow/policy/InstallOption;)I"⟩ : MethodName)) hown (mvT hZ (hw _ (List.mem_of_getElem? (i := 16) rfl))) (mvT hZ (hw _ (List.mem_of_getElem? (i := 17) rfl))) (notFace_of_selects (args := #[]) (mvT hZ (hw _ (List.mem_of_getElem? (i := 19) rfl)))) (mvT hZ (hw _ (List.mem_of_getElem? (i := 19) rfl))) (mvT hZ (hw _ (List.mem_of_getElem? (i := 18) rfl))) (by decide) (backOf (W := 0) (rm3 l Z a0 hw [] a (.ref bS) ob ub k1 k2 v0 v1 v2 z hz hq n0 (Oq.1 ▸ Oq.2.1) rfl hr0 hr1 hr2 KAq) hZ (hw _ (List.mem_of_getElem? (i := 20) rfl)) (hw _ (List.mem_of_getElem? (i := 2) rfl)) (by decide) (by decide)) q26a q26c (g := (mkF m 288 #[.val (.int p1), .val (.int p2), .val (.int p3), .val (.int z), .val (.int c0), .val (.int c1), .val (.int c2), .val (.int j), .val (.int cj), .val (.ref a), .val (.int r3), .val (.int r7), .val (.int r11), .val (.int r15)] [(.ref bS), (.ref a)])) rfl (by rw [hml]; rfl) (Steps.refl _) (argsL := [(.ref bS)]) (rest := []) (lenOf pd_2 rfl) rfl (by show 2 * 0 + _ ≤ _; exact Nat.le_of_eq rfl) (hb hby at_288) (fun _ _ => ⟨rfl, e25, (by decide : 3 + 0 ≤ _), (by decide : 8 + 0 ≤ _)⟩)
    dsimp only [Pt.U, Pt.locs, Pt.cells, Pt.slots] at X26 l26 y26 z26 st26 hQ26
    subst l26 y26 z26
    obtain ⟨rfl, N26, e26⟩ := hQ26
    have Nf26 := Fr.app Nf24 N26
    refine Goes.via (S' := T26.setTop (mkF m 291 #[.val (.int p1), .val (.int p2), .val (.int p3), .val (.int z), .val (.int c0), .val (.int c1), .val (.int c2), .val (.int j), .val (.int cj), .val (.ref a), .val (.int r3), .val (.int r7), .val (.int r11), .val (.int r15)] [(.int (own_cnt z v0 v1 v2 (.ref bS)))])) (fun _ kz => st26.trans kz) ?_
    refine Goes.via (S' := T26.setTop (mkF m 299 #[.val (.int p1), .val (.int p2), .val (.int p3), .val (.int z), .val (.int c0), .val (.int c1), .val (.int c2), .val (.int j), .val (.int cj), .val (.ref a), .val (.int r3), .val (.int r7), .val (.int r11), .val (.int r15)] [(.int r15), (.int r11), (.int r7), (.int z), (.int (3 : Int32)), (.int (own_cnt z v0 v1 v2 (.ref bS)))])) (fun tz kz => ?_) ?_
    · show Steps p.tables e below (T26.setTop (mkF m 291 #[.val (.int p1), .val (.int p2), .val (.int p3), .val (.int z), .val (.int c0), .val (.int c1), .val (.int c2), .val (.int j), .val (.int cj), .val (.ref a), .val (.int r3), .val (.int r7), .val (.int r11), .val (.int r15)] [(.int (own_cnt z v0 v1 v2 (.ref bS)))])) _
      refine XS.iconst X26.here hx rfl (hb hby at_291) ?_
      show Steps p.tables e below (T26.setTop (mkF m 292 #[.val (.int p1), .val (.int p2), .val (.int p3), .val (.int z), .val (.int c0), .val (.int c1), .val (.int c2), .val (.int j), .val (.int cj), .val (.ref a), .val (.int r3), .val (.int r7), .val (.int r11), .val (.int r15)] [(.int (3 : Int32)), (.int (own_cnt z v0 v1 v2 (.ref bS)))])) _
      refine XS.iloadN X26.here hx rfl (hb hby at_292) rfl ?_
      show Steps p.tables e below (T26.setTop (mkF m 293 #[.val (.int p1), .val (.int p2), .val (.int p3), .val (.int z), .val (.int c0), .val (.int c1), .val (.int c2), .val (.int j), .val (.int cj), .val (.ref a), .val (.int r3), .val (.int r7), .val (.int r11), .val (.int r15)] [(.int z), (.int (3 : Int32)), (.int (own_cnt z v0 v1 v2 (.ref bS)))])) _
      refine XS.iload X26.here hx rfl (hb hby at_293) rfl ?_
      show Steps p.tables e below (T26.setTop (mkF m 295 #[.val (.int p1), .val (.int p2), .val (.int p3), .val (.int z), .val (.int c0), .val (.int c1), .val (.int c2), .val (.int j), .val (.int cj), .val (.ref a), .val (.int r3), .val (.int r7), .val (.int r11), .val (.int r15)] [(.int r7), (.int z), (.int (3 : Int32)), (.int (own_cnt z v0 v1 v2 (.ref bS)))])) _
      refine XS.iload X26.here hx rfl (hb hby at_295) rfl ?_
      show Steps p.tables e below (T26.setTop (mkF m 297 #[.val (.int p1), .val (.int p2), .val (.int p3), .val (.int z), .val (.int c0), .val (.int c1), .val (.int c2), .val (.int j), .val (.int cj), .val (.ref a), .val (.int r3), .val (.int r7), .val (.int r11), .val (.int r15)] [(.int r11), (.int r7), (.int z), (.int (3 : Int32)), (.int (own_cnt z v0 v1 v2 (.ref bS)))])) _
      refine XS.iload X26.here hx rfl (hb hby at_297) rfl ?_
      exact kz
    obtain ⟨_, _, ⟨T27, L27, k27, n27⟩, -, X27, ⟨Lc27, hQ27, l27, y27, z27⟩, st27⟩ := Jvm.LawKit.callS X26 hx (y := (⟨"com/example/upkeep_window/upkeepwindow/bench/KeptAnswersCountPinLaw", "expected", "(IIIII)I"⟩ : MethodName)) hown (mvT hZ (hw _ (List.mem_of_getElem? (i := 21) rfl))) (mvT hZ (hw _ (List.mem_of_getElem? (i := 22) rfl))) (mvT hZ (hw _ (List.mem_of_getElem? (i := 23) rfl))) (mvT hZ (hw _ (List.mem_of_getElem? (i := 24) rfl))) (by decide) (backOf (W := 1) (rm4 l Z a0 hw [] (3 : Int32) z r7 r11 r15 hq n0 (Oq.1 ▸ Oq.2.1)) hZ (hw _ (List.mem_of_getElem? (i := 24) rfl)) (hw _ (List.mem_of_getElem? (i := 23) rfl)) (by decide) (by decide)) (g := (mkF m 299 #[.val (.int p1), .val (.int p2), .val (.int p3), .val (.int z), .val (.int c0), .val (.int c1), .val (.int c2), .val (.int j), .val (.int cj), .val (.ref a), .val (.int r3), .val (.int r7), .val (.int r11), .val (.int r15)] [(.int r15), (.int r11), (.int r7), (.int z), (.int (3 : Int32)), (.int (own_cnt z v0 v1 v2 (.ref bS)))])) rfl (by rw [hml]; rfl) (argsL := [(.int (3 : Int32)), (.int z), (.int r7), (.int r11), (.int r15)]) (rest := [(.int (own_cnt z v0 v1 v2 (.ref bS)))]) (lenOf pd_3 rfl) rfl (by show 2 * 0 + _ ≤ _; exact Nat.le_of_eq rfl) (hb hby at_299) (fun _ _ => ⟨rfl, e26, (by decide : 3 + 0 ≤ _), (by decide : 8 + 0 ≤ _)⟩)
    dsimp only [Pt.U, Pt.locs, Pt.cells, Pt.slots] at X27 l27 y27 z27 st27 hQ27
    subst l27 y27 z27
    obtain ⟨rfl, N27, e27⟩ := hQ27
    have Nf27 := Fr.app Nf26 N27
    refine Goes.via (S' := T27.setTop (mkF m 302 #[.val (.int p1), .val (.int p2), .val (.int p3), .val (.int z), .val (.int c0), .val (.int c1), .val (.int c2), .val (.int j), .val (.int cj), .val (.ref a), .val (.int r3), .val (.int r7), .val (.int r11), .val (.int r15)] [(.int (own_hit 0 z r7 (3 : Int32) + own_hit 1 z r11 (3 : Int32) + own_hit 2 z r15 (3 : Int32))), (.int (own_cnt z v0 v1 v2 (.ref bS)))])) (st27) ?_
    refine Goes.via (S' := T27.setTop (mkF m 310 #[.val (.int p1), .val (.int p2), .val (.int p3), .val (.int z), .val (.int c0), .val (.int c1), .val (.int c2), .val (.int j), .val (.int cj), .val (.ref a), .val (.int r3), .val (.int r7), .val (.int r11), .val (.int r15)] [(.int (1 : Int32))])) (fun tz kz => ?_) ?_
    · show Steps p.tables e below (T27.setTop (mkF m 302 #[.val (.int p1), .val (.int p2), .val (.int p3), .val (.int z), .val (.int c0), .val (.int c1), .val (.int c2), .val (.int j), .val (.int cj), .val (.ref a), .val (.int r3), .val (.int r7), .val (.int r11), .val (.int r15)] [(.int (own_hit 0 z r7 (3 : Int32) + own_hit 1 z r11 (3 : Int32) + own_hit 2 z r15 (3 : Int32))), (.int (own_cnt z v0 v1 v2 (.ref bS)))])) _
      refine XS.icmpNo X27.here hx rfl (hb hby at_302) rfl (teq (own_fin d1 d2 d3 (k := (3 : Int32)) rfl hz (own_4of (own_s hr3 hr7) hc0 hcj) (own_4of (own_s hr3 hr11) hc1 hcj) (own_4of (own_s hr3 hr15) hc2 hcj) (by unfold own_4; decide) (by rw [(own_s hr3 hr7)]; exact hv0) (by rw [(own_s hr3 hr11)]; exact hv1) (by rw [(own_s hr3 hr15)]; exact hv2))).2 ?_
      show Steps p.tables e below (T27.setTop (mkF m 305 #[.val (.int p1), .val (.int p2), .val (.int p3), .val (.int z), .val (.int c0), .val (.int c1), .val (.int c2), .val (.int j), .val (.int cj), .val (.ref a), .val (.int r3), .val (.int r7), .val (.int r11), .val (.int r15)] [])) _
      refine XS.iconst X27.here hx rfl (hb hby at_305) ?_
      show Steps p.tables e below (T27.setTop (mkF m 306 #[.val (.int p1), .val (.int p2), .val (.int p3), .val (.int z), .val (.int c0), .val (.int c1), .val (.int c2), .val (.int j), .val (.int cj), .val (.ref a), .val (.int r3), .val (.int r7), .val (.int r11), .val (.int r15)] [(.int (1 : Int32))])) _
      refine XS.goto X27.here hx rfl (pc0 := 306) (pc' := 310) rfl (hb hby at_306) (by decide) (by decide) ?_
      exact kz
    exact Goes.retN X27 hx Bd.notSynchronized (t := .boolean) Bd.returns (by simp) (hb hby at_310) (Nat.le_of_ble_eq_true rfl) (Nat.le_of_ble_eq_true rfl) ⟨rfl, Nf27⟩
  have seg116 : ∀ (Tq : State) (hq : Heap) (Lq : List Loc) (z c0 c1 c2 j cj : Int32) (a ob ub : Addr) (k1 k2 : ClassId) (v0 v1 v2 : Value), (Stand p l e room_1 s m #[(.int p1), (.int p2), (.int p3)] below meth c Tq Lq 3 8) → (Tq.heap = hq) → (Fr n0 Lq) → (Old Z n0 hq) → (own_4 z) → (own_4 c0) → (own_4 c1) → (own_4 c2) → (own_4 j) → (own_4 cj) → (own_KA Z n0 hq a ob ub k1 k2 z [v0, v1, v2]) → (v0.isRef = true) → (v1.isRef = true) → (v2.isRef = true) → (0 < z → v0 = own_pk bI bP bS c0) → (1 < z → v1 = own_pk bI bP bS c1) → (2 < z → v2 = own_pk bI bP bS c2) → Goes p e below (Fin s (Q_rm0 Z p1 p2 p3 bI bP bS bE h0 n0) room_1.cells room_1.slots) (Tq.setTop (mkF m 116 #[.val (.int p1), .val (.int p2), .val (.int p3), .val (.int z), .val (.int c0), .val (.int c1), .val (.int c2), .val (.int j), .val (.int cj), .val (.ref a), .unset, .unset, .unset, .unset] [])) := by
    intro Tq hq Lq z c0 c1 c2 j cj a ob ub k1 k2 v0 v1 v2 XTq eTq Nq Oq hz hc0 hc1 hc2 hj hcj KAq hr0 hr1 hr2 hv0 hv1 hv2
    refine Goes.via (S' := Tq.setTop (mkF m 119 #[.val (.int p1), .val (.int p2), .val (.int p3), .val (.int z), .val (.int c0), .val (.int c1), .val (.int c2), .val (.int j), .val (.int cj), .val (.ref a), .unset, .unset, .unset, .unset] [(.int z), (.int j)])) (fun tz kz => ?_) ?_
    · show Steps p.tables e below (Tq.setTop (mkF m 116 #[.val (.int p1), .val (.int p2), .val (.int p3), .val (.int z), .val (.int c0), .val (.int c1), .val (.int c2), .val (.int j), .val (.int cj), .val (.ref a), .unset, .unset, .unset, .unset] [])) _
      refine XS.iload XTq.here hx rfl (hb hby at_116) rfl ?_
      show Steps p.tables e below (Tq.setTop (mkF m 118 #[.val (.int p1), .val (.int p2), .val (.int p3), .val (.int z), .val (.int c0), .val (.int c1), .val (.int c2), .val (.int j), .val (.int cj), .val (.ref a), .unset, .unset, .unset, .unset] [(.int j)])) _
      refine XS.iloadN XTq.here hx rfl (hb hby at_118) rfl ?_
      exact kz
    by_cases hc119_28 : j < z
    · refine Goes.via (S' := Tq.setTop (mkF m 124 #[.val (.int p1), .val (.int p2), .val (.int p3), .val (.int z), .val (.int c0), .val (.int c1), .val (.int c2), .val (.int j), .val (.int cj), .val (.ref a), .unset, .unset, .unset, .unset] [(.int cj)])) (fun tz kz => ?_) ?_
      · show Steps p.tables e below (Tq.setTop (mkF m 119 #[.val (.int p1), .val (.int p2), .val (.int p3), .val (.int z), .val (.int c0), .val (.int c1), .val (.int c2), .val (.int j), .val (.int cj), .val (.ref a), .unset, .unset, .unset, .unset] [(.int z), (.int j)])) _
        refine XS.icmpNo XTq.here hx rfl (hb hby at_119) rfl (tlt hc119_28).2.1 ?_
        show Steps p.tables e below (Tq.setTop (mkF m 122 #[.val (.int p1), .val (.int p2), .val (.int p3), .val (.int z), .val (.int c0), .val (.int c1), .val (.int c2), .val (.int j), .val (.int cj), .val (.ref a), .unset, .unset, .unset, .unset] [])) _
        refine XS.iload XTq.here hx rfl (hb hby at_122) rfl ?_
        exact kz
      by_cases hc124_29 : cj = (0 : Int32)
      · refine Goes.via (S' := Tq.setTop (mkF m 142 #[.val (.int p1), .val (.int p2), .val (.int p3), .val (.int z), .val (.int c0), .val (.int c1), .val (.int c2), .val (.int j), .val (.int cj), .val (.ref a), .unset, .unset, .unset, .unset] [])) (fun tz kz => ?_) ?_
        · show Steps p.tables e below (Tq.setTop (mkF m 124 #[.val (.int p1), .val (.int p2), .val (.int p3), .val (.int z), .val (.int c0), .val (.int c1), .val (.int c2), .val (.int j), .val (.int cj), .val (.ref a), .unset, .unset, .unset, .unset] [(.int cj)])) _
          refine XS.ifYes XTq.here hx rfl (pc0 := 124) (pc' := 142) rfl (hb hby at_124) rfl ((if0 _ _).trans (teq hc124_29).1) (by decide) (by decide) ?_
          exact kz
        exact seg142 _ _ _ z c0 c1 c2 j cj a ob ub k1 k2 v0 v1 v2 XTq eTq Nq Oq hz hc0 hc1 hc2 hj hcj KAq hr0 hr1 hr2 (fun y => by rw [if_neg (fun q => q.2.1 hc124_29)]; exact hv0 y) (fun y => by rw [if_neg (fun q => q.2.1 hc124_29)]; exact hv1 y) (fun y => by rw [if_neg (fun q => q.2.1 hc124_29)]; exact hv2 y)
      · refine Goes.via (S' := Tq.setTop (mkF m 127 #[.val (.int p1), .val (.int p2), .val (.int p3), .val (.int z), .val (.int c0), .val (.int c1), .val (.int c2), .val (.int j), .val (.int cj), .val (.ref a), .unset, .unset, .unset, .unset] [])) (fun tz kz => ?_) ?_
        · show Steps p.tables e below (Tq.setTop (mkF m 124 #[.val (.int p1), .val (.int p2), .val (.int p3), .val (.int z), .val (.int c0), .val (.int c1), .val (.int c2), .val (.int j), .val (.int cj), .val (.ref a), .unset, .unset, .unset, .unset] [(.int cj)])) _
          refine XS.ifNo XTq.here hx rfl (hb hby at_124) rfl ((if0 _ _).trans (feq hc124_29).1) ?_
          exact kz
        rcases own_j3 hj hz hc119_28 with rfl | rfl | rfl
        · refine Goes.via (S' := Tq.setTop (mkF m 133 #[.val (.int p1), .val (.int p2), .val (.int p3), .val (.int z), .val (.int c0), .val (.int c1), .val (.int c2), .val (.int (0 : Int32)), .val (.int cj), .val (.ref a), .unset, .unset, .unset, .unset] [(.int cj), (.int (0 : Int32)), (.ref a)])) (fun tz kz => ?_) ?_
          · show Steps p.tables e below (Tq.setTop (mkF m 127 #[.val (.int p1), .val (.int p2), .val (.int p3), .val (.int z), .val (.int c0), .val (.int c1), .val (.int c2), .val (.int (0 : Int32)), .val (.int cj), .val (.ref a), .unset, .unset, .unset, .unset] [])) _
            refine XS.aload XTq.here hx rfl (hb hby at_127) rfl rfl ?_
            show Steps p.tables e below (Tq.setTop (mkF m 129 #[.val (.int p1), .val (.int p2), .val (.int p3), .val (.int z), .val (.int c0), .val (.int c1), .val (.int c2), .val (.int (0 : Int32)), .val (.int cj), .val (.ref a), .unset, .unset, .unset, .unset] [(.ref a)])) _
            refine XS.iload XTq.here hx rfl (hb hby at_129) rfl ?_
            show Steps p.tables e below (Tq.setTop (mkF m 131 #[.val (.int p1), .val (.int p2), .val (.int p3), .val (.int z), .val (.int c0), .val (.int c1), .val (.int c2), .val (.int (0 : Int32)), .val (.int cj), .val (.ref a), .unset, .unset, .unset, .unset] [(.int (0 : Int32)), (.ref a)])) _
            refine XS.iload XTq.here hx rfl (hb hby at_131) rfl ?_
            exact kz
          obtain ⟨_, _, ⟨T30, L30, k30, n30⟩, -, X30, ⟨Lc30, hQ30, l30, y30, z30⟩, st30⟩ := Jvm.LawKit.callS XTq hx (y := (⟨"com/example/upkeep_window/upkeepwindow/bench/KeptAnswersCountPinLaw", "pick", "(I)Lcom/example/upkeep_window/upkeepwindow/policy/InstallOption;"⟩ : MethodName)) hown (mvT hZ (hw _ (List.mem_of_getElem? (i := 35) rfl))) (mvT hZ (hw _ (List.mem_of_getElem? (i := 36) rfl))) (mvT hZ (hw _ (List.mem_of_getElem? (i := 23) rfl))) (mvT hZ (hw _ (List.mem_of_getElem? (i := 37) rfl))) (by decide) (backOf (W := 2) (rm6 l Z a0 hw [] cj bI bP bS hq n0 (Oq.1 ▸ Oq.2.1) (S_bI.ext Oq.2) (S_bP.ext Oq.2) (S_bS.ext Oq.2)) hZ (hw _ (List.mem_of_getElem? (i := 37) rfl)) (hw _ (List.mem_of_getElem? (i := 23) rfl)) (by decide) (by decide)) (g := (mkF m 133 #[.val (.int p1), .val (.int p2), .val (.int p3), .val (.int z), .val (.int c0), .val (.int c1), .val (.int c2), .val (.int (0 : Int32)), .val (.int cj), .val (.ref a), .unset, .unset, .unset, .unset] [(.int cj), (.int (0 : Int32)), (.ref a)])) rfl (by rw [hml]; rfl) (argsL := [(.int cj)]) (rest := [(.int (0 : Int32)), (.ref a)]) (lenOf pd_4 rfl) rfl (by show 2 * 0 + _ ≤ _; exact Nat.le_of_eq rfl) (hb hby at_133) (fun _ _ => ⟨rfl, eTq, (by decide : 3 + 0 ≤ _), (by decide : 8 + 0 ≤ _)⟩)
          dsimp only [Pt.U, Pt.locs, Pt.cells, Pt.slots] at X30 l30 y30 z30 st30 hQ30
          subst l30 y30 z30
          obtain ⟨rfl, N30, e30⟩ := hQ30
          have Nf30 := Fr.app Nq N30
          refine Goes.via (S' := T30.setTop (mkF m 136 #[.val (.int p1), .val (.int p2), .val (.int p3), .val (.int z), .val (.int c0), .val (.int c1), .val (.int c2), .val (.int (0 : Int32)), .val (.int cj), .val (.ref a), .unset, .unset, .unset, .unset] [(own_pk bI bP bS cj), (.int (0 : Int32)), (.ref a)])) (st30) ?_
          obtain ⟨_, _, ⟨T31, L31, k31, n31⟩, -, X31, ⟨Lc31, hQ31, l31, y31, z31⟩, st31⟩ := Jvm.LawKit.callS X30 hx (y := (⟨"java/util/Optional", "empty", "()Ljava/util/Optional;"⟩ : MethodName)) hown (mvT hZ (hw _ (List.mem_of_getElem? (i := 38) rfl))) (mvT hZ (hw _ (List.mem_of_getElem? (i := 39) rfl))) (mvT hZ (hw _ (List.mem_of_getElem? (i := 40) rfl))) (mvT hZ (hw _ (List.mem_of_getElem? (i := 41) rfl))) (by decide) (backOf (W := 3) (rm7 l Z a0 hw [] bE hq n0 (Oq.1 ▸ Oq.2.1) (SO.ext Oq.2)) hZ (hw _ (List.mem_of_getElem? (i := 41) rfl)) (hw _ (List.mem_of_getElem? (i := 40) rfl)) (by decide) (by decide)) (g := (mkF m 136 #[.val (.int p1), .val (.int p2), .val (.int p3), .val (.int z), .val (.int c0), .val (.int c1), .val (.int c2), .val (.int (0 : Int32)), .val (.int cj), .val (.ref a), .unset, .unset, .unset, .unset] [(own_pk bI bP bS cj), (.int (0 : Int32)), (.ref a)])) rfl (by rw [hml]; rfl) (argsL := []) (rest := [(own_pk bI bP bS cj), (.int (0 : Int32)), (.ref a)]) (lenOf pd_5 rfl) rfl (by show 2 * 0 + (List.map (fun v => v.category) [(own_pk bI bP bS cj), (.int (0 : Int32)), (.ref a)]).sum ≤ _; simp only [List.map_cons, List.map_nil, cat_ref (own_pk_ref bI bP bS cj)]; exact Nat.le_of_eq rfl) (hb hby at_136) (fun _ _ => ⟨rfl, e30, (by decide : 3 + 0 ≤ _), (by decide : 8 + 0 ≤ _)⟩)
          dsimp only [Pt.U, Pt.locs, Pt.cells, Pt.slots] at X31 l31 y31 z31 st31 hQ31
          subst l31 y31 z31
          obtain ⟨rfl, N31, e31⟩ := hQ31
          have Nf31 := Fr.app Nf30 N31
          refine Goes.via (S' := T31.setTop (mkF m 139 #[.val (.int p1), .val (.int p2), .val (.int p3), .val (.int z), .val (.int c0), .val (.int c1), .val (.int c2), .val (.int (0 : Int32)), .val (.int cj), .val (.ref a), .unset, .unset, .unset, .unset] [(.ref bE), (own_pk bI bP bS cj), (.int (0 : Int32)), (.ref a)])) (st31) ?_
          obtain ⟨cq32, kq32, q32a, q32b, q32c⟩ := isOf hZ e31 KAq.1
          obtain ⟨_, _, ⟨T32, L32, k32, n32⟩, -, X32, ⟨Lc32, hQ32, l32, y32, z32⟩, st32⟩ := X31.virtualBack hx (y := (⟨"com/example/upkeep_window/upkeepwindow/bench/KeptAnswers", "keep", "(ILcom/example/upkeep_window/upkeepwindow/policy/InstallOption;Ljava/util/Optional;)V"⟩ : MethodName)) (z := (⟨"com/example/upkeep_window/upkeepwindow/bench/KeptAnswers", "keep", "(ILcom/example/upkeep_window/upkeepwindow/policy/InstallOption;Ljava/util/Optional;)V"⟩ : MethodName)) hown (mvT hZ (hw _ (List.mem_of_getElem? (i := 43) rfl))) (mvT hZ (hw _ (List.mem_of_getElem? (i := 44) rfl))) (notFace_of_selects (args := #[]) (mvT hZ (hw _ (List.mem_of_getElem? (i := 46) rfl)))) (mvT hZ (hw _ (List.mem_of_getElem? (i := 46) rfl))) (mvT hZ (hw _ (List.mem_of_getElem? (i := 45) rfl))) (by decide) (backOfWith (W := 0) (rm8 l Z a0 hw [] a (0 : Int32) (own_pk bI bP bS cj) bE ob ub k1 k2 z [v0, v1, v2] 0 hq n0 (Oq.1 ▸ Oq.2.1) (own_pk_ref bI bP bS cj) KAq rfl ⟨by decide, hc119_28⟩ rfl (by decide) (own_pk_sto cj (E_bI.ext Oq.2) (E_bP.ext Oq.2) (E_bS.ext Oq.2)) (EE.ext Oq.2) (FE.ext Oq.2)) hZ (hw _ (List.mem_of_getElem? (i := 47) rfl)) (hw _ (List.mem_of_getElem? (i := 2) rfl)) (by decide) (by decide)) q32a q32c (g := (mkF m 139 #[.val (.int p1), .val (.int p2), .val (.int p3), .val (.int z), .val (.int c0), .val (.int c1), .val (.int c2), .val (.int (0 : Int32)), .val (.int cj), .val (.ref a), .unset, .unset, .unset, .unset] [(.ref bE), (own_pk bI bP bS cj), (.int (0 : Int32)), (.ref a)])) rfl (by rw [hml]; rfl) (Steps.refl _) (argsL := [(.int (0 : Int32)), (own_pk bI bP bS cj), (.ref bE)]) (rest := []) (lenOf pd_6 rfl) rfl (by show 2 * 0 + _ ≤ _; exact Nat.le_of_eq rfl) (hb hby at_139) (fun _ _ => ⟨rfl, e31, (by decide : 3 + 0 ≤ _), (by decide : 8 + 0 ≤ _)⟩)
          dsimp only [Pt.U, Pt.locs, Pt.cells, Pt.slots] at X32 l32 y32 z32 st32 hQ32
          subst l32 y32 z32
          obtain ⟨rfl, N32, K32, KA32⟩ := hQ32
          have Nf32 := Fr.app Nf31 N32
          refine Goes.via (S' := T32.setTop (mkF m 142 #[.val (.int p1), .val (.int p2), .val (.int p3), .val (.int z), .val (.int c0), .val (.int c1), .val (.int c2), .val (.int (0 : Int32)), .val (.int cj), .val (.ref a), .unset, .unset, .unset, .unset] [])) (fun _ kz => st32.trans kz) ?_
          have O32 := Oq.keep K32 (allS KAq.2.2.2.2.2.2.2.1 (allS KAq.2.2.2.2.2.2.2.2.1 all0))
          exact seg142 _ _ _ z c0 c1 c2 (0 : Int32) cj a ob ub k1 k2 (own_pk bI bP bS cj) v1 v2 X32 rfl Nf32 O32 hz hc0 hc1 hc2 hj hcj KA32 (own_pk_ref bI bP bS _) hr1 hr2 (fun y => by rw [if_pos ⟨hc119_28, hc124_29, rfl⟩]) (fun y => by rw [if_neg (fun q => absurd q.2.2 (by decide))]; exact hv1 y) (fun y => by rw [if_neg (fun q => absurd q.2.2 (by decide))]; exact hv2 y)
        · refine Goes.via (S' := Tq.setTop (mkF m 133 #[.val (.int p1), .val (.int p2), .val (.int p3), .val (.int z), .val (.int c0), .val (.int c1), .val (.int c2), .val (.int (1 : Int32)), .val (.int cj), .val (.ref a), .unset, .unset, .unset, .unset] [(.int cj), (.int (1 : Int32)), (.ref a)])) (fun tz kz => ?_) ?_
          · show Steps p.tables e below (Tq.setTop (mkF m 127 #[.val (.int p1), .val (.int p2), .val (.int p3), .val (.int z), .val (.int c0), .val (.int c1), .val (.int c2), .val (.int (1 : Int32)), .val (.int cj), .val (.ref a), .unset, .unset, .unset, .unset] [])) _
            refine XS.aload XTq.here hx rfl (hb hby at_127) rfl rfl ?_
            show Steps p.tables e below (Tq.setTop (mkF m 129 #[.val (.int p1), .val (.int p2), .val (.int p3), .val (.int z), .val (.int c0), .val (.int c1), .val (.int c2), .val (.int (1 : Int32)), .val (.int cj), .val (.ref a), .unset, .unset, .unset, .unset] [(.ref a)])) _
            refine XS.iload XTq.here hx rfl (hb hby at_129) rfl ?_
            show Steps p.tables e below (Tq.setTop (mkF m 131 #[.val (.int p1), .val (.int p2), .val (.int p3), .val (.int z), .val (.int c0), .val (.int c1), .val (.int c2), .val (.int (1 : Int32)), .val (.int cj), .val (.ref a), .unset, .unset, .unset, .unset] [(.int (1 : Int32)), (.ref a)])) _
            refine XS.iload XTq.here hx rfl (hb hby at_131) rfl ?_
            exact kz
          obtain ⟨_, _, ⟨T33, L33, k33, n33⟩, -, X33, ⟨Lc33, hQ33, l33, y33, z33⟩, st33⟩ := Jvm.LawKit.callS XTq hx (y := (⟨"com/example/upkeep_window/upkeepwindow/bench/KeptAnswersCountPinLaw", "pick", "(I)Lcom/example/upkeep_window/upkeepwindow/policy/InstallOption;"⟩ : MethodName)) hown (mvT hZ (hw _ (List.mem_of_getElem? (i := 35) rfl))) (mvT hZ (hw _ (List.mem_of_getElem? (i := 36) rfl))) (mvT hZ (hw _ (List.mem_of_getElem? (i := 23) rfl))) (mvT hZ (hw _ (List.mem_of_getElem? (i := 37) rfl))) (by decide) (backOf (W := 2) (rm6 l Z a0 hw [] cj bI bP bS hq n0 (Oq.1 ▸ Oq.2.1) (S_bI.ext Oq.2) (S_bP.ext Oq.2) (S_bS.ext Oq.2)) hZ (hw _ (List.mem_of_getElem? (i := 37) rfl)) (hw _ (List.mem_of_getElem? (i := 23) rfl)) (by decide) (by decide)) (g := (mkF m 133 #[.val (.int p1), .val (.int p2), .val (.int p3), .val (.int z), .val (.int c0), .val (.int c1), .val (.int c2), .val (.int (1 : Int32)), .val (.int cj), .val (.ref a), .unset, .unset, .unset, .unset] [(.int cj), (.int (1 : Int32)), (.ref a)])) rfl (by rw [hml]; rfl) (argsL := [(.int cj)]) (rest := [(.int (1 : Int32)), (.ref a)]) (lenOf pd_4 rfl) rfl (by show 2 * 0 + _ ≤ _; exact Nat.le_of_eq rfl) (hb hby at_133) (fun _ _ => ⟨rfl, eTq, (by decide : 3 + 0 ≤ _), (by decide : 8 + 0 ≤ _)⟩)
          dsimp only [Pt.U, Pt.locs, Pt.cells, Pt.slots] at X33 l33 y33 z33 st33 hQ33
          subst l33 y33 z33
          obtain ⟨rfl, N33, e33⟩ := hQ33
          have Nf33 := Fr.app Nq N33
          refine Goes.via (S' := T33.setTop (mkF m 136 #[.val (.int p1), .val (.int p2), .val (.int p3), .val (.int z), .val (.int c0), .val (.int c1), .val (.int c2), .val (.int (1 : Int32)), .val (.int cj), .val (.ref a), .unset, .unset, .unset, .unset] [(own_pk bI bP bS cj), (.int (1 : Int32)), (.ref a)])) (st33) ?_
          obtain ⟨_, _, ⟨T34, L34, k34, n34⟩, -, X34, ⟨Lc34, hQ34, l34, y34, z34⟩, st34⟩ := Jvm.LawKit.callS X33 hx (y := (⟨"java/util/Optional", "empty", "()Ljava/util/Optional;"⟩ : MethodName)) hown (mvT hZ (hw _ (List.mem_of_getElem? (i := 38) rfl))) (mvT hZ (hw _ (List.mem_of_getElem? (i := 39) rfl))) (mvT hZ (hw _ (List.mem_of_getElem? (i := 40) rfl))) (mvT hZ (hw _ (List.mem_of_getElem? (i := 41) rfl))) (by decide) (backOf (W := 3) (rm7 l Z a0 hw [] bE hq n0 (Oq.1 ▸ Oq.2.1) (SO.ext Oq.2)) hZ (hw _ (List.mem_of_getElem? (i := 41) rfl)) (hw _ (List.mem_of_getElem? (i := 40) rfl)) (by decide) (by decide)) (g := (mkF m 136 #[.val (.int p1), .val (.int p2), .val (.int p3), .val (.int z), .val (.int c0), .val (.int c1), .val (.int c2), .val (.int (1 : Int32)), .val (.int cj), .val (.ref a), .unset, .unset, .unset, .unset] [(own_pk bI bP bS cj), (.int (1 : Int32)), (.ref a)])) rfl (by rw [hml]; rfl) (argsL := []) (rest := [(own_pk bI bP bS cj), (.int (1 : Int32)), (.ref a)]) (lenOf pd_5 rfl) rfl (by show 2 * 0 + (List.map (fun v => v.category) [(own_pk bI bP bS cj), (.int (1 : Int32)), (.ref a)]).sum ≤ _; simp only [List.map_cons, List.map_nil, cat_ref (own_pk_ref bI bP bS cj)]; exact Nat.le_of_eq rfl) (hb hby at_136) (fun _ _ => ⟨rfl, e33, (by decide : 3 + 0 ≤ _), (by decide : 8 + 0 ≤ _)⟩)
          dsimp only [Pt.U, Pt.locs, Pt.cells, Pt.slots] at X34 l34 y34 z34 st34 hQ34
          subst l34 y34 z34
          obtain ⟨rfl, N34, e34⟩ := hQ34
          have Nf34 := Fr.app Nf33 N34
          refine Goes.via (S' := T34.setTop (mkF m 139 #[.val (.int p1), .val (.int p2), .val (.int p3), .val (.int z), .val (.int c0), .val (.int c1), .val (.int c2), .val (.int (1 : Int32)), .val (.int cj), .val (.ref a), .unset, .unset, .unset, .unset] [(.ref bE), (own_pk bI bP bS cj), (.int (1 : Int32)), (.ref a)])) (st34) ?_
          obtain ⟨cq35, kq35, q35a, q35b, q35c⟩ := isOf hZ e34 KAq.1
          obtain ⟨_, _, ⟨T35, L35, k35, n35⟩, -, X35, ⟨Lc35, hQ35, l35, y35, z35⟩, st35⟩ := X34.virtualBack hx (y := (⟨"com/example/upkeep_window/upkeepwindow/bench/KeptAnswers", "keep", "(ILcom/example/upkeep_window/upkeepwindow/policy/InstallOption;Ljava/util/Optional;)V"⟩ : MethodName)) (z := (⟨"com/example/upkeep_window/upkeepwindow/bench/KeptAnswers", "keep", "(ILcom/example/upkeep_window/upkeepwindow/policy/InstallOption;Ljava/util/Optional;)V"⟩ : MethodName)) hown (mvT hZ (hw _ (List.mem_of_getElem? (i := 43) rfl))) (mvT hZ (hw _ (List.mem_of_getElem? (i := 44) rfl))) (notFace_of_selects (args := #[]) (mvT hZ (hw _ (List.mem_of_getElem? (i := 46) rfl)))) (mvT hZ (hw _ (List.mem_of_getElem? (i := 46) rfl))) (mvT hZ (hw _ (List.mem_of_getElem? (i := 45) rfl))) (by decide) (backOfWith (W := 0) (rm8 l Z a0 hw [] a (1 : Int32) (own_pk bI bP bS cj) bE ob ub k1 k2 z [v0, v1, v2] 1 hq n0 (Oq.1 ▸ Oq.2.1) (own_pk_ref bI bP bS cj) KAq rfl ⟨by decide, hc119_28⟩ rfl (by decide) (own_pk_sto cj (E_bI.ext Oq.2) (E_bP.ext Oq.2) (E_bS.ext Oq.2)) (EE.ext Oq.2) (FE.ext Oq.2)) hZ (hw _ (List.mem_of_getElem? (i := 47) rfl)) (hw _ (List.mem_of_getElem? (i := 2) rfl)) (by decide) (by decide)) q35a q35c (g := (mkF m 139 #[.val (.int p1), .val (.int p2), .val (.int p3), .val (.int z), .val (.int c0), .val (.int c1), .val (.int c2), .val (.int (1 : Int32)), .val (.int cj), .val (.ref a), .unset, .unset, .unset, .unset] [(.ref bE), (own_pk bI bP bS cj), (.int (1 : Int32)), (.ref a)])) rfl (by rw [hml]; rfl) (Steps.refl _) (argsL := [(.int (1 : Int32)), (own_pk bI bP bS cj), (.ref bE)]) (rest := []) (lenOf pd_6 rfl) rfl (by show 2 * 0 + _ ≤ _; exact Nat.le_of_eq rfl) (hb hby at_139) (fun _ _ => ⟨rfl, e34, (by decide : 3 + 0 ≤ _), (by decide : 8 + 0 ≤ _)⟩)
          dsimp only [Pt.U, Pt.locs, Pt.cells, Pt.slots] at X35 l35 y35 z35 st35 hQ35
          subst l35 y35 z35
          obtain ⟨rfl, N35, K35, KA35⟩ := hQ35
          have Nf35 := Fr.app Nf34 N35
          refine Goes.via (S' := T35.setTop (mkF m 142 #[.val (.int p1), .val (.int p2), .val (.int p3), .val (.int z), .val (.int c0), .val (.int c1), .val (.int c2), .val (.int (1 : Int32)), .val (.int cj), .val (.ref a), .unset, .unset, .unset, .unset] [])) (fun _ kz => st35.trans kz) ?_
          have O35 := Oq.keep K35 (allS KAq.2.2.2.2.2.2.2.1 (allS KAq.2.2.2.2.2.2.2.2.1 all0))
          exact seg142 _ _ _ z c0 c1 c2 (1 : Int32) cj a ob ub k1 k2 v0 (own_pk bI bP bS cj) v2 X35 rfl Nf35 O35 hz hc0 hc1 hc2 hj hcj KA35 hr0 (own_pk_ref bI bP bS _) hr2 (fun y => by rw [if_neg (fun q => absurd q.2.2 (by decide))]; exact hv0 y) (fun y => by rw [if_pos ⟨hc119_28, hc124_29, rfl⟩]) (fun y => by rw [if_neg (fun q => absurd q.2.2 (by decide))]; exact hv2 y)
        · refine Goes.via (S' := Tq.setTop (mkF m 133 #[.val (.int p1), .val (.int p2), .val (.int p3), .val (.int z), .val (.int c0), .val (.int c1), .val (.int c2), .val (.int (2 : Int32)), .val (.int cj), .val (.ref a), .unset, .unset, .unset, .unset] [(.int cj), (.int (2 : Int32)), (.ref a)])) (fun tz kz => ?_) ?_
          · show Steps p.tables e below (Tq.setTop (mkF m 127 #[.val (.int p1), .val (.int p2), .val (.int p3), .val (.int z), .val (.int c0), .val (.int c1), .val (.int c2), .val (.int (2 : Int32)), .val (.int cj), .val (.ref a), .unset, .unset, .unset, .unset] [])) _
            refine XS.aload XTq.here hx rfl (hb hby at_127) rfl rfl ?_
            show Steps p.tables e below (Tq.setTop (mkF m 129 #[.val (.int p1), .val (.int p2), .val (.int p3), .val (.int z), .val (.int c0), .val (.int c1), .val (.int c2), .val (.int (2 : Int32)), .val (.int cj), .val (.ref a), .unset, .unset, .unset, .unset] [(.ref a)])) _
            refine XS.iload XTq.here hx rfl (hb hby at_129) rfl ?_
            show Steps p.tables e below (Tq.setTop (mkF m 131 #[.val (.int p1), .val (.int p2), .val (.int p3), .val (.int z), .val (.int c0), .val (.int c1), .val (.int c2), .val (.int (2 : Int32)), .val (.int cj), .val (.ref a), .unset, .unset, .unset, .unset] [(.int (2 : Int32)), (.ref a)])) _
            refine XS.iload XTq.here hx rfl (hb hby at_131) rfl ?_
            exact kz
          obtain ⟨_, _, ⟨T36, L36, k36, n36⟩, -, X36, ⟨Lc36, hQ36, l36, y36, z36⟩, st36⟩ := Jvm.LawKit.callS XTq hx (y := (⟨"com/example/upkeep_window/upkeepwindow/bench/KeptAnswersCountPinLaw", "pick", "(I)Lcom/example/upkeep_window/upkeepwindow/policy/InstallOption;"⟩ : MethodName)) hown (mvT hZ (hw _ (List.mem_of_getElem? (i := 35) rfl))) (mvT hZ (hw _ (List.mem_of_getElem? (i := 36) rfl))) (mvT hZ (hw _ (List.mem_of_getElem? (i := 23) rfl))) (mvT hZ (hw _ (List.mem_of_getElem? (i := 37) rfl))) (by decide) (backOf (W := 2) (rm6 l Z a0 hw [] cj bI bP bS hq n0 (Oq.1 ▸ Oq.2.1) (S_bI.ext Oq.2) (S_bP.ext Oq.2) (S_bS.ext Oq.2)) hZ (hw _ (List.mem_of_getElem? (i := 37) rfl)) (hw _ (List.mem_of_getElem? (i := 23) rfl)) (by decide) (by decide)) (g := (mkF m 133 #[.val (.int p1), .val (.int p2), .val (.int p3), .val (.int z), .val (.int c0), .val (.int c1), .val (.int c2), .val (.int (2 : Int32)), .val (.int cj), .val (.ref a), .unset, .unset, .unset, .unset] [(.int cj), (.int (2 : Int32)), (.ref a)])) rfl (by rw [hml]; rfl) (argsL := [(.int cj)]) (rest := [(.int (2 : Int32)), (.ref a)]) (lenOf pd_4 rfl) rfl (by show 2 * 0 + _ ≤ _; exact Nat.le_of_eq rfl) (hb hby at_133) (fun _ _ => ⟨rfl, eTq, (by decide : 3 + 0 ≤ _), (by decide : 8 + 0 ≤ _)⟩)
          dsimp only [Pt.U, Pt.locs, Pt.cells, Pt.slots] at X36 l36 y36 z36 st36 hQ36
          subst l36 y36 z36
          obtain ⟨rfl, N36, e36⟩ := hQ36
          have Nf36 := Fr.app Nq N36
          refine Goes.via (S' := T36.setTop (mkF m 136 #[.val (.int p1), .val (.int p2), .val (.int p3), .val (.int z), .val (.int c0), .val (.int c1), .val (.int c2), .val (.int (2 : Int32)), .val (.int cj), .val (.ref a), .unset, .unset, .unset, .unset] [(own_pk bI bP bS cj), (.int (2 : Int32)), (.ref a)])) (st36) ?_
          obtain ⟨_, _, ⟨T37, L37, k37, n37⟩, -, X37, ⟨Lc37, hQ37, l37, y37, z37⟩, st37⟩ := Jvm.LawKit.callS X36 hx (y := (⟨"java/util/Optional", "empty", "()Ljava/util/Optional;"⟩ : MethodName)) hown (mvT hZ (hw _ (List.mem_of_getElem? (i := 38) rfl))) (mvT hZ (hw _ (List.mem_of_getElem? (i := 39) rfl))) (mvT hZ (hw _ (List.mem_of_getElem? (i := 40) rfl))) (mvT hZ (hw _ (List.mem_of_getElem? (i := 41) rfl))) (by decide) (backOf (W := 3) (rm7 l Z a0 hw [] bE hq n0 (Oq.1 ▸ Oq.2.1) (SO.ext Oq.2)) hZ (hw _ (List.mem_of_getElem? (i := 41) rfl)) (hw _ (List.mem_of_getElem? (i := 40) rfl)) (by decide) (by decide)) (g := (mkF m 136 #[.val (.int p1), .val (.int p2), .val (.int p3), .val (.int z), .val (.int c0), .val (.int c1), .val (.int c2), .val (.int (2 : Int32)), .val (.int cj), .val (.ref a), .unset, .unset, .unset, .unset] [(own_pk bI bP bS cj), (.int (2 : Int32)), (.ref a)])) rfl (by rw [hml]; rfl) (argsL := []) (rest := [(own_pk bI bP bS cj), (.int (2 : Int32)), (.ref a)]) (lenOf pd_5 rfl) rfl (by show 2 * 0 + (List.map (fun v => v.category) [(own_pk bI bP bS cj), (.int (2 : Int32)), (.ref a)]).sum ≤ _; simp only [List.map_cons, List.map_nil, cat_ref (own_pk_ref bI bP bS cj)]; exact Nat.le_of_eq rfl) (hb hby at_136) (fun _ _ => ⟨rfl, e36, (by decide : 3 + 0 ≤ _), (by decide : 8 + 0 ≤ _)⟩)
          dsimp only [Pt.U, Pt.locs, Pt.cells, Pt.slots] at X37 l37 y37 z37 st37 hQ37
          subst l37 y37 z37
          obtain ⟨rfl, N37, e37⟩ := hQ37
          have Nf37 := Fr.app Nf36 N37
          refine Goes.via (S' := T37.setTop (mkF m 139 #[.val (.int p1), .val (.int p2), .val (.int p3), .val (.int z), .val (.int c0), .val (.int c1), .val (.int c2), .val (.int (2 : Int32)), .val (.int cj), .val (.ref a), .unset, .unset, .unset, .unset] [(.ref bE), (own_pk bI bP bS cj), (.int (2 : Int32)), (.ref a)])) (st37) ?_
          obtain ⟨cq38, kq38, q38a, q38b, q38c⟩ := isOf hZ e37 KAq.1
          obtain ⟨_, _, ⟨T38, L38, k38, n38⟩, -, X38, ⟨Lc38, hQ38, l38, y38, z38⟩, st38⟩ := X37.virtualBack hx (y := (⟨"com/example/upkeep_window/upkeepwindow/bench/KeptAnswers", "keep", "(ILcom/example/upkeep_window/upkeepwindow/policy/InstallOption;Ljava/util/Optional;)V"⟩ : MethodName)) (z := (⟨"com/example/upkeep_window/upkeepwindow/bench/KeptAnswers", "keep", "(ILcom/example/upkeep_window/upkeepwindow/policy/InstallOption;Ljava/util/Optional;)V"⟩ : MethodName)) hown (mvT hZ (hw _ (List.mem_of_getElem? (i := 43) rfl))) (mvT hZ (hw _ (List.mem_of_getElem? (i := 44) rfl))) (notFace_of_selects (args := #[]) (mvT hZ (hw _ (List.mem_of_getElem? (i := 46) rfl)))) (mvT hZ (hw _ (List.mem_of_getElem? (i := 46) rfl))) (mvT hZ (hw _ (List.mem_of_getElem? (i := 45) rfl))) (by decide) (backOfWith (W := 0) (rm8 l Z a0 hw [] a (2 : Int32) (own_pk bI bP bS cj) bE ob ub k1 k2 z [v0, v1, v2] 2 hq n0 (Oq.1 ▸ Oq.2.1) (own_pk_ref bI bP bS cj) KAq rfl ⟨by decide, hc119_28⟩ rfl (by decide) (own_pk_sto cj (E_bI.ext Oq.2) (E_bP.ext Oq.2) (E_bS.ext Oq.2)) (EE.ext Oq.2) (FE.ext Oq.2)) hZ (hw _ (List.mem_of_getElem? (i := 47) rfl)) (hw _ (List.mem_of_getElem? (i := 2) rfl)) (by decide) (by decide)) q38a q38c (g := (mkF m 139 #[.val (.int p1), .val (.int p2), .val (.int p3), .val (.int z), .val (.int c0), .val (.int c1), .val (.int c2), .val (.int (2 : Int32)), .val (.int cj), .val (.ref a), .unset, .unset, .unset, .unset] [(.ref bE), (own_pk bI bP bS cj), (.int (2 : Int32)), (.ref a)])) rfl (by rw [hml]; rfl) (Steps.refl _) (argsL := [(.int (2 : Int32)), (own_pk bI bP bS cj), (.ref bE)]) (rest := []) (lenOf pd_6 rfl) rfl (by show 2 * 0 + _ ≤ _; exact Nat.le_of_eq rfl) (hb hby at_139) (fun _ _ => ⟨rfl, e37, (by decide : 3 + 0 ≤ _), (by decide : 8 + 0 ≤ _)⟩)
          dsimp only [Pt.U, Pt.locs, Pt.cells, Pt.slots] at X38 l38 y38 z38 st38 hQ38
          subst l38 y38 z38
          obtain ⟨rfl, N38, K38, KA38⟩ := hQ38
          have Nf38 := Fr.app Nf37 N38
          refine Goes.via (S' := T38.setTop (mkF m 142 #[.val (.int p1), .val (.int p2), .val (.int p3), .val (.int z), .val (.int c0), .val (.int c1), .val (.int c2), .val (.int (2 : Int32)), .val (.int cj), .val (.ref a), .unset, .unset, .unset, .unset] [])) (fun _ kz => st38.trans kz) ?_
          have O38 := Oq.keep K38 (allS KAq.2.2.2.2.2.2.2.1 (allS KAq.2.2.2.2.2.2.2.2.1 all0))
          exact seg142 _ _ _ z c0 c1 c2 (2 : Int32) cj a ob ub k1 k2 v0 v1 (own_pk bI bP bS cj) X38 rfl Nf38 O38 hz hc0 hc1 hc2 hj hcj KA38 hr0 hr1 (own_pk_ref bI bP bS _) (fun y => by rw [if_neg (fun q => absurd q.2.2 (by decide))]; exact hv0 y) (fun y => by rw [if_neg (fun q => absurd q.2.2 (by decide))]; exact hv1 y) (fun y => by rw [if_pos ⟨hc119_28, hc124_29, rfl⟩])
    · refine Goes.via (S' := Tq.setTop (mkF m 142 #[.val (.int p1), .val (.int p2), .val (.int p3), .val (.int z), .val (.int c0), .val (.int c1), .val (.int c2), .val (.int j), .val (.int cj), .val (.ref a), .unset, .unset, .unset, .unset] [])) (fun tz kz => ?_) ?_
      · show Steps p.tables e below (Tq.setTop (mkF m 119 #[.val (.int p1), .val (.int p2), .val (.int p3), .val (.int z), .val (.int c0), .val (.int c1), .val (.int c2), .val (.int j), .val (.int cj), .val (.ref a), .unset, .unset, .unset, .unset] [(.int z), (.int j)])) _
        refine XS.icmpYes XTq.here hx rfl (pc0 := 119) (pc' := 142) rfl (hb hby at_119) rfl (flt hc119_28).2.1 (by decide) (by decide) ?_
        exact kz
      exact seg142 _ _ _ z c0 c1 c2 j cj a ob ub k1 k2 v0 v1 v2 XTq eTq Nq Oq hz hc0 hc1 hc2 hj hcj KAq hr0 hr1 hr2 (fun y => by rw [if_neg (fun q => hc119_28 q.1)]; exact hv0 y) (fun y => by rw [if_neg (fun q => hc119_28 q.1)]; exact hv1 y) (fun y => by rw [if_neg (fun q => hc119_28 q.1)]; exact hv2 y)
  have seg92 : ∀ (Tq : State) (hq : Heap) (Lq : List Loc) (z c0 c1 c2 j cj : Int32) (a ob ub : Addr) (k1 k2 : ClassId) (v0 v1 : Value), (Stand p l e room_1 s m #[(.int p1), (.int p2), (.int p3)] below meth c Tq Lq 3 8) → (Tq.heap = hq) → (Fr n0 Lq) → (Old Z n0 hq) → (own_4 z) → (own_4 c0) → (own_4 c1) → (own_4 c2) → (own_4 j) → (own_4 cj) → (own_KA Z n0 hq a ob ub k1 k2 z [v0, v1, .null]) → (v0.isRef = true) → (v1.isRef = true) → (0 < z → v0 = own_pk bI bP bS c0) → (1 < z → v1 = own_pk bI bP bS c1) → Goes p e below (Fin s (Q_rm0 Z p1 p2 p3 bI bP bS bE h0 n0) room_1.cells room_1.slots) (Tq.setTop (mkF m 92 #[.val (.int p1), .val (.int p2), .val (.int p3), .val (.int z), .val (.int c0), .val (.int c1), .val (.int c2), .val (.int j), .val (.int cj), .val (.ref a), .unset, .unset, .unset, .unset] [])) := by
    intro Tq hq Lq z c0 c1 c2 j cj a ob ub k1 k2 v0 v1 XTq eTq Nq Oq hz hc0 hc1 hc2 hj hcj KAq hr0 hr1 hv0 hv1
    refine Goes.via (S' := Tq.setTop (mkF m 94 #[.val (.int p1), .val (.int p2), .val (.int p3), .val (.int z), .val (.int c0), .val (.int c1), .val (.int c2), .val (.int j), .val (.int cj), .val (.ref a), .unset, .unset, .unset, .unset] [(.int (2 : Int32)), (.int z)])) (fun tz kz => ?_) ?_
    · show Steps p.tables e below (Tq.setTop (mkF m 92 #[.val (.int p1), .val (.int p2), .val (.int p3), .val (.int z), .val (.int c0), .val (.int c1), .val (.int c2), .val (.int j), .val (.int cj), .val (.ref a), .unset, .unset, .unset, .unset] [])) _
      refine XS.iloadN XTq.here hx rfl (hb hby at_92) rfl ?_
      show Steps p.tables e below (Tq.setTop (mkF m 93 #[.val (.int p1), .val (.int p2), .val (.int p3), .val (.int z), .val (.int c0), .val (.int c1), .val (.int c2), .val (.int j), .val (.int cj), .val (.ref a), .unset, .unset, .unset, .unset] [(.int z)])) _
      refine XS.iconst XTq.here hx rfl (hb hby at_93) ?_
      exact kz
    by_cases hc94_39 : (2 : Int32) < z
    · refine Goes.via (S' := Tq.setTop (mkF m 99 #[.val (.int p1), .val (.int p2), .val (.int p3), .val (.int z), .val (.int c0), .val (.int c1), .val (.int c2), .val (.int j), .val (.int cj), .val (.ref a), .unset, .unset, .unset, .unset] [(.int c2)])) (fun tz kz => ?_) ?_
      · show Steps p.tables e below (Tq.setTop (mkF m 94 #[.val (.int p1), .val (.int p2), .val (.int p3), .val (.int z), .val (.int c0), .val (.int c1), .val (.int c2), .val (.int j), .val (.int cj), .val (.ref a), .unset, .unset, .unset, .unset] [(.int (2 : Int32)), (.int z)])) _
        refine XS.icmpNo XTq.here hx rfl (hb hby at_94) rfl (tlt hc94_39).2.2.2 ?_
        show Steps p.tables e below (Tq.setTop (mkF m 97 #[.val (.int p1), .val (.int p2), .val (.int p3), .val (.int z), .val (.int c0), .val (.int c1), .val (.int c2), .val (.int j), .val (.int cj), .val (.ref a), .unset, .unset, .unset, .unset] [])) _
        refine XS.iload XTq.here hx rfl (hb hby at_97) rfl ?_
        exact kz
      by_cases hc99_40 : c2 = (0 : Int32)
      · refine Goes.via (S' := Tq.setTop (mkF m 116 #[.val (.int p1), .val (.int p2), .val (.int p3), .val (.int z), .val (.int c0), .val (.int c1), .val (.int c2), .val (.int j), .val (.int cj), .val (.ref a), .unset, .unset, .unset, .unset] [])) (fun tz kz => ?_) ?_
        · show Steps p.tables e below (Tq.setTop (mkF m 99 #[.val (.int p1), .val (.int p2), .val (.int p3), .val (.int z), .val (.int c0), .val (.int c1), .val (.int c2), .val (.int j), .val (.int cj), .val (.ref a), .unset, .unset, .unset, .unset] [(.int c2)])) _
          refine XS.ifYes XTq.here hx rfl (pc0 := 99) (pc' := 116) rfl (hb hby at_99) rfl ((if0 _ _).trans (teq hc99_40).1) (by decide) (by decide) ?_
          exact kz
        exact seg116 _ _ _ z c0 c1 c2 j cj a ob ub k1 k2 v0 v1 .null XTq eTq Nq Oq hz hc0 hc1 hc2 hj hcj KAq hr0 hr1 rfl hv0 hv1 (fun _ => by rw [hc99_40]; rfl)
      · refine Goes.via (S' := Tq.setTop (mkF m 107 #[.val (.int p1), .val (.int p2), .val (.int p3), .val (.int z), .val (.int c0), .val (.int c1), .val (.int c2), .val (.int j), .val (.int cj), .val (.ref a), .unset, .unset, .unset, .unset] [(.int c2), (.int (2 : Int32)), (.ref a)])) (fun tz kz => ?_) ?_
        · show Steps p.tables e below (Tq.setTop (mkF m 99 #[.val (.int p1), .val (.int p2), .val (.int p3), .val (.int z), .val (.int c0), .val (.int c1), .val (.int c2), .val (.int j), .val (.int cj), .val (.ref a), .unset, .unset, .unset, .unset] [(.int c2)])) _
          refine XS.ifNo XTq.here hx rfl (hb hby at_99) rfl ((if0 _ _).trans (feq hc99_40).1) ?_
          show Steps p.tables e below (Tq.setTop (mkF m 102 #[.val (.int p1), .val (.int p2), .val (.int p3), .val (.int z), .val (.int c0), .val (.int c1), .val (.int c2), .val (.int j), .val (.int cj), .val (.ref a), .unset, .unset, .unset, .unset] [])) _
          refine XS.aload XTq.here hx rfl (hb hby at_102) rfl rfl ?_
          show Steps p.tables e below (Tq.setTop (mkF m 104 #[.val (.int p1), .val (.int p2), .val (.int p3), .val (.int z), .val (.int c0), .val (.int c1), .val (.int c2), .val (.int j), .val (.int cj), .val (.ref a), .unset, .unset, .unset, .unset] [(.ref a)])) _
          refine XS.iconst XTq.here hx rfl (hb hby at_104) ?_
          show Steps p.tables e below (Tq.setTop (mkF m 105 #[.val (.int p1), .val (.int p2), .val (.int p3), .val (.int z), .val (.int c0), .val (.int c1), .val (.int c2), .val (.int j), .val (.int cj), .val (.ref a), .unset, .unset, .unset, .unset] [(.int (2 : Int32)), (.ref a)])) _
          refine XS.iload XTq.here hx rfl (hb hby at_105) rfl ?_
          exact kz
        obtain ⟨_, _, ⟨T41, L41, k41, n41⟩, -, X41, ⟨Lc41, hQ41, l41, y41, z41⟩, st41⟩ := Jvm.LawKit.callS XTq hx (y := (⟨"com/example/upkeep_window/upkeepwindow/bench/KeptAnswersCountPinLaw", "pick", "(I)Lcom/example/upkeep_window/upkeepwindow/policy/InstallOption;"⟩ : MethodName)) hown (mvT hZ (hw _ (List.mem_of_getElem? (i := 35) rfl))) (mvT hZ (hw _ (List.mem_of_getElem? (i := 36) rfl))) (mvT hZ (hw _ (List.mem_of_getElem? (i := 23) rfl))) (mvT hZ (hw _ (List.mem_of_getElem? (i := 37) rfl))) (by decide) (backOf (W := 2) (rm6 l Z a0 hw [] c2 bI bP bS hq n0 (Oq.1 ▸ Oq.2.1) (S_bI.ext Oq.2) (S_bP.ext Oq.2) (S_bS.ext Oq.2)) hZ (hw _ (List.mem_of_getElem? (i := 37) rfl)) (hw _ (List.mem_of_getElem? (i := 23) rfl)) (by decide) (by decide)) (g := (mkF m 107 #[.val (.int p1), .val (.int p2), .val (.int p3), .val (.int z), .val (.int c0), .val (.int c1), .val (.int c2), .val (.int j), .val (.int cj), .val (.ref a), .unset, .unset, .unset, .unset] [(.int c2), (.int (2 : Int32)), (.ref a)])) rfl (by rw [hml]; rfl) (argsL := [(.int c2)]) (rest := [(.int (2 : Int32)), (.ref a)]) (lenOf pd_4 rfl) rfl (by show 2 * 0 + _ ≤ _; exact Nat.le_of_eq rfl) (hb hby at_107) (fun _ _ => ⟨rfl, eTq, (by decide : 3 + 0 ≤ _), (by decide : 8 + 0 ≤ _)⟩)
        dsimp only [Pt.U, Pt.locs, Pt.cells, Pt.slots] at X41 l41 y41 z41 st41 hQ41
        subst l41 y41 z41
        obtain ⟨rfl, N41, e41⟩ := hQ41
        have Nf41 := Fr.app Nq N41
        refine Goes.via (S' := T41.setTop (mkF m 110 #[.val (.int p1), .val (.int p2), .val (.int p3), .val (.int z), .val (.int c0), .val (.int c1), .val (.int c2), .val (.int j), .val (.int cj), .val (.ref a), .unset, .unset, .unset, .unset] [(own_pk bI bP bS c2), (.int (2 : Int32)), (.ref a)])) (st41) ?_
        obtain ⟨_, _, ⟨T42, L42, k42, n42⟩, -, X42, ⟨Lc42, hQ42, l42, y42, z42⟩, st42⟩ := Jvm.LawKit.callS X41 hx (y := (⟨"java/util/Optional", "empty", "()Ljava/util/Optional;"⟩ : MethodName)) hown (mvT hZ (hw _ (List.mem_of_getElem? (i := 38) rfl))) (mvT hZ (hw _ (List.mem_of_getElem? (i := 39) rfl))) (mvT hZ (hw _ (List.mem_of_getElem? (i := 40) rfl))) (mvT hZ (hw _ (List.mem_of_getElem? (i := 41) rfl))) (by decide) (backOf (W := 3) (rm7 l Z a0 hw [] bE hq n0 (Oq.1 ▸ Oq.2.1) (SO.ext Oq.2)) hZ (hw _ (List.mem_of_getElem? (i := 41) rfl)) (hw _ (List.mem_of_getElem? (i := 40) rfl)) (by decide) (by decide)) (g := (mkF m 110 #[.val (.int p1), .val (.int p2), .val (.int p3), .val (.int z), .val (.int c0), .val (.int c1), .val (.int c2), .val (.int j), .val (.int cj), .val (.ref a), .unset, .unset, .unset, .unset] [(own_pk bI bP bS c2), (.int (2 : Int32)), (.ref a)])) rfl (by rw [hml]; rfl) (argsL := []) (rest := [(own_pk bI bP bS c2), (.int (2 : Int32)), (.ref a)]) (lenOf pd_5 rfl) rfl (by show 2 * 0 + (List.map (fun v => v.category) [(own_pk bI bP bS c2), (.int (2 : Int32)), (.ref a)]).sum ≤ _; simp only [List.map_cons, List.map_nil, cat_ref (own_pk_ref bI bP bS c2)]; exact Nat.le_of_eq rfl) (hb hby at_110) (fun _ _ => ⟨rfl, e41, (by decide : 3 + 0 ≤ _), (by decide : 8 + 0 ≤ _)⟩)
        dsimp only [Pt.U, Pt.locs, Pt.cells, Pt.slots] at X42 l42 y42 z42 st42 hQ42
        subst l42 y42 z42
        obtain ⟨rfl, N42, e42⟩ := hQ42
        have Nf42 := Fr.app Nf41 N42
        refine Goes.via (S' := T42.setTop (mkF m 113 #[.val (.int p1), .val (.int p2), .val (.int p3), .val (.int z), .val (.int c0), .val (.int c1), .val (.int c2), .val (.int j), .val (.int cj), .val (.ref a), .unset, .unset, .unset, .unset] [(.ref bE), (own_pk bI bP bS c2), (.int (2 : Int32)), (.ref a)])) (st42) ?_
        obtain ⟨cq43, kq43, q43a, q43b, q43c⟩ := isOf hZ e42 KAq.1
        obtain ⟨_, _, ⟨T43, L43, k43, n43⟩, -, X43, ⟨Lc43, hQ43, l43, y43, z43⟩, st43⟩ := X42.virtualBack hx (y := (⟨"com/example/upkeep_window/upkeepwindow/bench/KeptAnswers", "keep", "(ILcom/example/upkeep_window/upkeepwindow/policy/InstallOption;Ljava/util/Optional;)V"⟩ : MethodName)) (z := (⟨"com/example/upkeep_window/upkeepwindow/bench/KeptAnswers", "keep", "(ILcom/example/upkeep_window/upkeepwindow/policy/InstallOption;Ljava/util/Optional;)V"⟩ : MethodName)) hown (mvT hZ (hw _ (List.mem_of_getElem? (i := 43) rfl))) (mvT hZ (hw _ (List.mem_of_getElem? (i := 44) rfl))) (notFace_of_selects (args := #[]) (mvT hZ (hw _ (List.mem_of_getElem? (i := 46) rfl)))) (mvT hZ (hw _ (List.mem_of_getElem? (i := 46) rfl))) (mvT hZ (hw _ (List.mem_of_getElem? (i := 45) rfl))) (by decide) (backOfWith (W := 0) (rm8 l Z a0 hw [] a (2 : Int32) (own_pk bI bP bS c2) bE ob ub k1 k2 z [v0, v1, .null] 2 hq n0 (Oq.1 ▸ Oq.2.1) (own_pk_ref bI bP bS c2) KAq rfl ⟨by decide, hc94_39⟩ rfl (by decide) (own_pk_sto c2 (E_bI.ext Oq.2) (E_bP.ext Oq.2) (E_bS.ext Oq.2)) (EE.ext Oq.2) (FE.ext Oq.2)) hZ (hw _ (List.mem_of_getElem? (i := 47) rfl)) (hw _ (List.mem_of_getElem? (i := 2) rfl)) (by decide) (by decide)) q43a q43c (g := (mkF m 113 #[.val (.int p1), .val (.int p2), .val (.int p3), .val (.int z), .val (.int c0), .val (.int c1), .val (.int c2), .val (.int j), .val (.int cj), .val (.ref a), .unset, .unset, .unset, .unset] [(.ref bE), (own_pk bI bP bS c2), (.int (2 : Int32)), (.ref a)])) rfl (by rw [hml]; rfl) (Steps.refl _) (argsL := [(.int (2 : Int32)), (own_pk bI bP bS c2), (.ref bE)]) (rest := []) (lenOf pd_6 rfl) rfl (by show 2 * 0 + _ ≤ _; exact Nat.le_of_eq rfl) (hb hby at_113) (fun _ _ => ⟨rfl, e42, (by decide : 3 + 0 ≤ _), (by decide : 8 + 0 ≤ _)⟩)
        dsimp only [Pt.U, Pt.locs, Pt.cells, Pt.slots] at X43 l43 y43 z43 st43 hQ43
        subst l43 y43 z43
        obtain ⟨rfl, N43, K43, KA43⟩ := hQ43
        have Nf43 := Fr.app Nf42 N43
        refine Goes.via (S' := T43.setTop (mkF m 116 #[.val (.int p1), .val (.int p2), .val (.int p3), .val (.int z), .val (.int c0), .val (.int c1), .val (.int c2), .val (.int j), .val (.int cj), .val (.ref a), .unset, .unset, .unset, .unset] [])) (fun _ kz => st43.trans kz) ?_
        have O43 := Oq.keep K43 (allS KAq.2.2.2.2.2.2.2.1 (allS KAq.2.2.2.2.2.2.2.2.1 all0))
        exact seg116 _ _ _ z c0 c1 c2 j cj a ob ub k1 k2 v0 v1 (own_pk bI bP bS c2) X43 rfl Nf43 O43 hz hc0 hc1 hc2 hj hcj KA43 hr0 hr1 (own_pk_ref bI bP bS _) hv0 hv1 (fun _ => rfl)
    · refine Goes.via (S' := Tq.setTop (mkF m 116 #[.val (.int p1), .val (.int p2), .val (.int p3), .val (.int z), .val (.int c0), .val (.int c1), .val (.int c2), .val (.int j), .val (.int cj), .val (.ref a), .unset, .unset, .unset, .unset] [])) (fun tz kz => ?_) ?_
      · show Steps p.tables e below (Tq.setTop (mkF m 94 #[.val (.int p1), .val (.int p2), .val (.int p3), .val (.int z), .val (.int c0), .val (.int c1), .val (.int c2), .val (.int j), .val (.int cj), .val (.ref a), .unset, .unset, .unset, .unset] [(.int (2 : Int32)), (.int z)])) _
        refine XS.icmpYes XTq.here hx rfl (pc0 := 94) (pc' := 116) rfl (hb hby at_94) rfl (flt hc94_39).2.2.2 (by decide) (by decide) ?_
        exact kz
      exact seg116 _ _ _ z c0 c1 c2 j cj a ob ub k1 k2 v0 v1 .null XTq eTq Nq Oq hz hc0 hc1 hc2 hj hcj KAq hr0 hr1 rfl hv0 hv1 (fun y => absurd y hc94_39)
  have seg68 : ∀ (Tq : State) (hq : Heap) (Lq : List Loc) (z c0 c1 c2 j cj : Int32) (a ob ub : Addr) (k1 k2 : ClassId) (v0 : Value), (Stand p l e room_1 s m #[(.int p1), (.int p2), (.int p3)] below meth c Tq Lq 3 8) → (Tq.heap = hq) → (Fr n0 Lq) → (Old Z n0 hq) → (own_4 z) → (own_4 c0) → (own_4 c1) → (own_4 c2) → (own_4 j) → (own_4 cj) → (own_KA Z n0 hq a ob ub k1 k2 z [v0, .null, .null]) → (v0.isRef = true) → (0 < z → v0 = own_pk bI bP bS c0) → Goes p e below (Fin s (Q_rm0 Z p1 p2 p3 bI bP bS bE h0 n0) room_1.cells room_1.slots) (Tq.setTop (mkF m 68 #[.val (.int p1), .val (.int p2), .val (.int p3), .val (.int z), .val (.int c0), .val (.int c1), .val (.int c2), .val (.int j), .val (.int cj), .val (.ref a), .unset, .unset, .unset, .unset] [])) := by
    intro Tq hq Lq z c0 c1 c2 j cj a ob ub k1 k2 v0 XTq eTq Nq Oq hz hc0 hc1 hc2 hj hcj KAq hr0 hv0
    refine Goes.via (S' := Tq.setTop (mkF m 70 #[.val (.int p1), .val (.int p2), .val (.int p3), .val (.int z), .val (.int c0), .val (.int c1), .val (.int c2), .val (.int j), .val (.int cj), .val (.ref a), .unset, .unset, .unset, .unset] [(.int (1 : Int32)), (.int z)])) (fun tz kz => ?_) ?_
    · show Steps p.tables e below (Tq.setTop (mkF m 68 #[.val (.int p1), .val (.int p2), .val (.int p3), .val (.int z), .val (.int c0), .val (.int c1), .val (.int c2), .val (.int j), .val (.int cj), .val (.ref a), .unset, .unset, .unset, .unset] [])) _
      refine XS.iloadN XTq.here hx rfl (hb hby at_68) rfl ?_
      show Steps p.tables e below (Tq.setTop (mkF m 69 #[.val (.int p1), .val (.int p2), .val (.int p3), .val (.int z), .val (.int c0), .val (.int c1), .val (.int c2), .val (.int j), .val (.int cj), .val (.ref a), .unset, .unset, .unset, .unset] [(.int z)])) _
      refine XS.iconst XTq.here hx rfl (hb hby at_69) ?_
      exact kz
    by_cases hc70_44 : (1 : Int32) < z
    · refine Goes.via (S' := Tq.setTop (mkF m 75 #[.val (.int p1), .val (.int p2), .val (.int p3), .val (.int z), .val (.int c0), .val (.int c1), .val (.int c2), .val (.int j), .val (.int cj), .val (.ref a), .unset, .unset, .unset, .unset] [(.int c1)])) (fun tz kz => ?_) ?_
      · show Steps p.tables e below (Tq.setTop (mkF m 70 #[.val (.int p1), .val (.int p2), .val (.int p3), .val (.int z), .val (.int c0), .val (.int c1), .val (.int c2), .val (.int j), .val (.int cj), .val (.ref a), .unset, .unset, .unset, .unset] [(.int (1 : Int32)), (.int z)])) _
        refine XS.icmpNo XTq.here hx rfl (hb hby at_70) rfl (tlt hc70_44).2.2.2 ?_
        show Steps p.tables e below (Tq.setTop (mkF m 73 #[.val (.int p1), .val (.int p2), .val (.int p3), .val (.int z), .val (.int c0), .val (.int c1), .val (.int c2), .val (.int j), .val (.int cj), .val (.ref a), .unset, .unset, .unset, .unset] [])) _
        refine XS.iload XTq.here hx rfl (hb hby at_73) rfl ?_
        exact kz
      by_cases hc75_45 : c1 = (0 : Int32)
      · refine Goes.via (S' := Tq.setTop (mkF m 92 #[.val (.int p1), .val (.int p2), .val (.int p3), .val (.int z), .val (.int c0), .val (.int c1), .val (.int c2), .val (.int j), .val (.int cj), .val (.ref a), .unset, .unset, .unset, .unset] [])) (fun tz kz => ?_) ?_
        · show Steps p.tables e below (Tq.setTop (mkF m 75 #[.val (.int p1), .val (.int p2), .val (.int p3), .val (.int z), .val (.int c0), .val (.int c1), .val (.int c2), .val (.int j), .val (.int cj), .val (.ref a), .unset, .unset, .unset, .unset] [(.int c1)])) _
          refine XS.ifYes XTq.here hx rfl (pc0 := 75) (pc' := 92) rfl (hb hby at_75) rfl ((if0 _ _).trans (teq hc75_45).1) (by decide) (by decide) ?_
          exact kz
        exact seg92 _ _ _ z c0 c1 c2 j cj a ob ub k1 k2 v0 .null XTq eTq Nq Oq hz hc0 hc1 hc2 hj hcj KAq hr0 rfl hv0 (fun _ => by rw [hc75_45]; rfl)
      · refine Goes.via (S' := Tq.setTop (mkF m 83 #[.val (.int p1), .val (.int p2), .val (.int p3), .val (.int z), .val (.int c0), .val (.int c1), .val (.int c2), .val (.int j), .val (.int cj), .val (.ref a), .unset, .unset, .unset, .unset] [(.int c1), (.int (1 : Int32)), (.ref a)])) (fun tz kz => ?_) ?_
        · show Steps p.tables e below (Tq.setTop (mkF m 75 #[.val (.int p1), .val (.int p2), .val (.int p3), .val (.int z), .val (.int c0), .val (.int c1), .val (.int c2), .val (.int j), .val (.int cj), .val (.ref a), .unset, .unset, .unset, .unset] [(.int c1)])) _
          refine XS.ifNo XTq.here hx rfl (hb hby at_75) rfl ((if0 _ _).trans (feq hc75_45).1) ?_
          show Steps p.tables e below (Tq.setTop (mkF m 78 #[.val (.int p1), .val (.int p2), .val (.int p3), .val (.int z), .val (.int c0), .val (.int c1), .val (.int c2), .val (.int j), .val (.int cj), .val (.ref a), .unset, .unset, .unset, .unset] [])) _
          refine XS.aload XTq.here hx rfl (hb hby at_78) rfl rfl ?_
          show Steps p.tables e below (Tq.setTop (mkF m 80 #[.val (.int p1), .val (.int p2), .val (.int p3), .val (.int z), .val (.int c0), .val (.int c1), .val (.int c2), .val (.int j), .val (.int cj), .val (.ref a), .unset, .unset, .unset, .unset] [(.ref a)])) _
          refine XS.iconst XTq.here hx rfl (hb hby at_80) ?_
          show Steps p.tables e below (Tq.setTop (mkF m 81 #[.val (.int p1), .val (.int p2), .val (.int p3), .val (.int z), .val (.int c0), .val (.int c1), .val (.int c2), .val (.int j), .val (.int cj), .val (.ref a), .unset, .unset, .unset, .unset] [(.int (1 : Int32)), (.ref a)])) _
          refine XS.iload XTq.here hx rfl (hb hby at_81) rfl ?_
          exact kz
        obtain ⟨_, _, ⟨T46, L46, k46, n46⟩, -, X46, ⟨Lc46, hQ46, l46, y46, z46⟩, st46⟩ := Jvm.LawKit.callS XTq hx (y := (⟨"com/example/upkeep_window/upkeepwindow/bench/KeptAnswersCountPinLaw", "pick", "(I)Lcom/example/upkeep_window/upkeepwindow/policy/InstallOption;"⟩ : MethodName)) hown (mvT hZ (hw _ (List.mem_of_getElem? (i := 35) rfl))) (mvT hZ (hw _ (List.mem_of_getElem? (i := 36) rfl))) (mvT hZ (hw _ (List.mem_of_getElem? (i := 23) rfl))) (mvT hZ (hw _ (List.mem_of_getElem? (i := 37) rfl))) (by decide) (backOf (W := 2) (rm6 l Z a0 hw [] c1 bI bP bS hq n0 (Oq.1 ▸ Oq.2.1) (S_bI.ext Oq.2) (S_bP.ext Oq.2) (S_bS.ext Oq.2)) hZ (hw _ (List.mem_of_getElem? (i := 37) rfl)) (hw _ (List.mem_of_getElem? (i := 23) rfl)) (by decide) (by decide)) (g := (mkF m 83 #[.val (.int p1), .val (.int p2), .val (.int p3), .val (.int z), .val (.int c0), .val (.int c1), .val (.int c2), .val (.int j), .val (.int cj), .val (.ref a), .unset, .unset, .unset, .unset] [(.int c1), (.int (1 : Int32)), (.ref a)])) rfl (by rw [hml]; rfl) (argsL := [(.int c1)]) (rest := [(.int (1 : Int32)), (.ref a)]) (lenOf pd_4 rfl) rfl (by show 2 * 0 + _ ≤ _; exact Nat.le_of_eq rfl) (hb hby at_83) (fun _ _ => ⟨rfl, eTq, (by decide : 3 + 0 ≤ _), (by decide : 8 + 0 ≤ _)⟩)
        dsimp only [Pt.U, Pt.locs, Pt.cells, Pt.slots] at X46 l46 y46 z46 st46 hQ46
        subst l46 y46 z46
        obtain ⟨rfl, N46, e46⟩ := hQ46
        have Nf46 := Fr.app Nq N46
        refine Goes.via (S' := T46.setTop (mkF m 86 #[.val (.int p1), .val (.int p2), .val (.int p3), .val (.int z), .val (.int c0), .val (.int c1), .val (.int c2), .val (.int j), .val (.int cj), .val (.ref a), .unset, .unset, .unset, .unset] [(own_pk bI bP bS c1), (.int (1 : Int32)), (.ref a)])) (st46) ?_
        obtain ⟨_, _, ⟨T47, L47, k47, n47⟩, -, X47, ⟨Lc47, hQ47, l47, y47, z47⟩, st47⟩ := Jvm.LawKit.callS X46 hx (y := (⟨"java/util/Optional", "empty", "()Ljava/util/Optional;"⟩ : MethodName)) hown (mvT hZ (hw _ (List.mem_of_getElem? (i := 38) rfl))) (mvT hZ (hw _ (List.mem_of_getElem? (i := 39) rfl))) (mvT hZ (hw _ (List.mem_of_getElem? (i := 40) rfl))) (mvT hZ (hw _ (List.mem_of_getElem? (i := 41) rfl))) (by decide) (backOf (W := 3) (rm7 l Z a0 hw [] bE hq n0 (Oq.1 ▸ Oq.2.1) (SO.ext Oq.2)) hZ (hw _ (List.mem_of_getElem? (i := 41) rfl)) (hw _ (List.mem_of_getElem? (i := 40) rfl)) (by decide) (by decide)) (g := (mkF m 86 #[.val (.int p1), .val (.int p2), .val (.int p3), .val (.int z), .val (.int c0), .val (.int c1), .val (.int c2), .val (.int j), .val (.int cj), .val (.ref a), .unset, .unset, .unset, .unset] [(own_pk bI bP bS c1), (.int (1 : Int32)), (.ref a)])) rfl (by rw [hml]; rfl) (argsL := []) (rest := [(own_pk bI bP bS c1), (.int (1 : Int32)), (.ref a)]) (lenOf pd_5 rfl) rfl (by show 2 * 0 + (List.map (fun v => v.category) [(own_pk bI bP bS c1), (.int (1 : Int32)), (.ref a)]).sum ≤ _; simp only [List.map_cons, List.map_nil, cat_ref (own_pk_ref bI bP bS c1)]; exact Nat.le_of_eq rfl) (hb hby at_86) (fun _ _ => ⟨rfl, e46, (by decide : 3 + 0 ≤ _), (by decide : 8 + 0 ≤ _)⟩)
        dsimp only [Pt.U, Pt.locs, Pt.cells, Pt.slots] at X47 l47 y47 z47 st47 hQ47
        subst l47 y47 z47
        obtain ⟨rfl, N47, e47⟩ := hQ47
        have Nf47 := Fr.app Nf46 N47
        refine Goes.via (S' := T47.setTop (mkF m 89 #[.val (.int p1), .val (.int p2), .val (.int p3), .val (.int z), .val (.int c0), .val (.int c1), .val (.int c2), .val (.int j), .val (.int cj), .val (.ref a), .unset, .unset, .unset, .unset] [(.ref bE), (own_pk bI bP bS c1), (.int (1 : Int32)), (.ref a)])) (st47) ?_
        obtain ⟨cq48, kq48, q48a, q48b, q48c⟩ := isOf hZ e47 KAq.1
        obtain ⟨_, _, ⟨T48, L48, k48, n48⟩, -, X48, ⟨Lc48, hQ48, l48, y48, z48⟩, st48⟩ := X47.virtualBack hx (y := (⟨"com/example/upkeep_window/upkeepwindow/bench/KeptAnswers", "keep", "(ILcom/example/upkeep_window/upkeepwindow/policy/InstallOption;Ljava/util/Optional;)V"⟩ : MethodName)) (z := (⟨"com/example/upkeep_window/upkeepwindow/bench/KeptAnswers", "keep", "(ILcom/example/upkeep_window/upkeepwindow/policy/InstallOption;Ljava/util/Optional;)V"⟩ : MethodName)) hown (mvT hZ (hw _ (List.mem_of_getElem? (i := 43) rfl))) (mvT hZ (hw _ (List.mem_of_getElem? (i := 44) rfl))) (notFace_of_selects (args := #[]) (mvT hZ (hw _ (List.mem_of_getElem? (i := 46) rfl)))) (mvT hZ (hw _ (List.mem_of_getElem? (i := 46) rfl))) (mvT hZ (hw _ (List.mem_of_getElem? (i := 45) rfl))) (by decide) (backOfWith (W := 0) (rm8 l Z a0 hw [] a (1 : Int32) (own_pk bI bP bS c1) bE ob ub k1 k2 z [v0, .null, .null] 1 hq n0 (Oq.1 ▸ Oq.2.1) (own_pk_ref bI bP bS c1) KAq rfl ⟨by decide, hc70_44⟩ rfl (by decide) (own_pk_sto c1 (E_bI.ext Oq.2) (E_bP.ext Oq.2) (E_bS.ext Oq.2)) (EE.ext Oq.2) (FE.ext Oq.2)) hZ (hw _ (List.mem_of_getElem? (i := 47) rfl)) (hw _ (List.mem_of_getElem? (i := 2) rfl)) (by decide) (by decide)) q48a q48c (g := (mkF m 89 #[.val (.int p1), .val (.int p2), .val (.int p3), .val (.int z), .val (.int c0), .val (.int c1), .val (.int c2), .val (.int j), .val (.int cj), .val (.ref a), .unset, .unset, .unset, .unset] [(.ref bE), (own_pk bI bP bS c1), (.int (1 : Int32)), (.ref a)])) rfl (by rw [hml]; rfl) (Steps.refl _) (argsL := [(.int (1 : Int32)), (own_pk bI bP bS c1), (.ref bE)]) (rest := []) (lenOf pd_6 rfl) rfl (by show 2 * 0 + _ ≤ _; exact Nat.le_of_eq rfl) (hb hby at_89) (fun _ _ => ⟨rfl, e47, (by decide : 3 + 0 ≤ _), (by decide : 8 + 0 ≤ _)⟩)
        dsimp only [Pt.U, Pt.locs, Pt.cells, Pt.slots] at X48 l48 y48 z48 st48 hQ48
        subst l48 y48 z48
        obtain ⟨rfl, N48, K48, KA48⟩ := hQ48
        have Nf48 := Fr.app Nf47 N48
        refine Goes.via (S' := T48.setTop (mkF m 92 #[.val (.int p1), .val (.int p2), .val (.int p3), .val (.int z), .val (.int c0), .val (.int c1), .val (.int c2), .val (.int j), .val (.int cj), .val (.ref a), .unset, .unset, .unset, .unset] [])) (fun _ kz => st48.trans kz) ?_
        have O48 := Oq.keep K48 (allS KAq.2.2.2.2.2.2.2.1 (allS KAq.2.2.2.2.2.2.2.2.1 all0))
        exact seg92 _ _ _ z c0 c1 c2 j cj a ob ub k1 k2 v0 (own_pk bI bP bS c1) X48 rfl Nf48 O48 hz hc0 hc1 hc2 hj hcj KA48 hr0 (own_pk_ref bI bP bS _) hv0 (fun _ => rfl)
    · refine Goes.via (S' := Tq.setTop (mkF m 92 #[.val (.int p1), .val (.int p2), .val (.int p3), .val (.int z), .val (.int c0), .val (.int c1), .val (.int c2), .val (.int j), .val (.int cj), .val (.ref a), .unset, .unset, .unset, .unset] [])) (fun tz kz => ?_) ?_
      · show Steps p.tables e below (Tq.setTop (mkF m 70 #[.val (.int p1), .val (.int p2), .val (.int p3), .val (.int z), .val (.int c0), .val (.int c1), .val (.int c2), .val (.int j), .val (.int cj), .val (.ref a), .unset, .unset, .unset, .unset] [(.int (1 : Int32)), (.int z)])) _
        refine XS.icmpYes XTq.here hx rfl (pc0 := 70) (pc' := 92) rfl (hb hby at_70) rfl (flt hc70_44).2.2.2 (by decide) (by decide) ?_
        exact kz
      exact seg92 _ _ _ z c0 c1 c2 j cj a ob ub k1 k2 v0 .null XTq eTq Nq Oq hz hc0 hc1 hc2 hj hcj KAq hr0 rfl hv0 (fun y => absurd y hc70_44)
  have seg45 : ∀ (Tq : State) (hq : Heap) (Lq : List Loc) (z c0 c1 c2 j cj : Int32) (a ob ub : Addr) (k1 k2 : ClassId), (Stand p l e room_1 s m #[(.int p1), (.int p2), (.int p3)] below meth c Tq Lq 3 8) → (Tq.heap = hq) → (Fr n0 Lq) → (Old Z n0 hq) → (own_4 z) → (own_4 c0) → (own_4 c1) → (own_4 c2) → (own_4 j) → (own_4 cj) → (own_KA Z n0 hq a ob ub k1 k2 z [.null, .null, .null]) → Goes p e below (Fin s (Q_rm0 Z p1 p2 p3 bI bP bS bE h0 n0) room_1.cells room_1.slots) (Tq.setTop (mkF m 45 #[.val (.int p1), .val (.int p2), .val (.int p3), .val (.int z), .val (.int c0), .val (.int c1), .val (.int c2), .val (.int j), .val (.int cj), .val (.ref a), .unset, .unset, .unset, .unset] [])) := by
    intro Tq hq Lq z c0 c1 c2 j cj a ob ub k1 k2 XTq eTq Nq Oq hz hc0 hc1 hc2 hj hcj KAq
    refine Goes.via (S' := Tq.setTop (mkF m 46 #[.val (.int p1), .val (.int p2), .val (.int p3), .val (.int z), .val (.int c0), .val (.int c1), .val (.int c2), .val (.int j), .val (.int cj), .val (.ref a), .unset, .unset, .unset, .unset] [(.int z)])) (fun tz kz => ?_) ?_
    · show Steps p.tables e below (Tq.setTop (mkF m 45 #[.val (.int p1), .val (.int p2), .val (.int p3), .val (.int z), .val (.int c0), .val (.int c1), .val (.int c2), .val (.int j), .val (.int cj), .val (.ref a), .unset, .unset, .unset, .unset] [])) _
      refine XS.iloadN XTq.here hx rfl (hb hby at_45) rfl ?_
      exact kz
    by_cases hc46_49 : (0 : Int32) < z
    · refine Goes.via (S' := Tq.setTop (mkF m 51 #[.val (.int p1), .val (.int p2), .val (.int p3), .val (.int z), .val (.int c0), .val (.int c1), .val (.int c2), .val (.int j), .val (.int cj), .val (.ref a), .unset, .unset, .unset, .unset] [(.int c0)])) (fun tz kz => ?_) ?_
      · show Steps p.tables e below (Tq.setTop (mkF m 46 #[.val (.int p1), .val (.int p2), .val (.int p3), .val (.int z), .val (.int c0), .val (.int c1), .val (.int c2), .val (.int j), .val (.int cj), .val (.ref a), .unset, .unset, .unset, .unset] [(.int z)])) _
        refine XS.ifNo XTq.here hx rfl (hb hby at_46) rfl ((if0 _ _).trans (tlt hc46_49).2.2.2) ?_
        show Steps p.tables e below (Tq.setTop (mkF m 49 #[.val (.int p1), .val (.int p2), .val (.int p3), .val (.int z), .val (.int c0), .val (.int c1), .val (.int c2), .val (.int j), .val (.int cj), .val (.ref a), .unset, .unset, .unset, .unset] [])) _
        refine XS.iload XTq.here hx rfl (hb hby at_49) rfl ?_
        exact kz
      by_cases hc51_50 : c0 = (0 : Int32)
      · refine Goes.via (S' := Tq.setTop (mkF m 68 #[.val (.int p1), .val (.int p2), .val (.int p3), .val (.int z), .val (.int c0), .val (.int c1), .val (.int c2), .val (.int j), .val (.int cj), .val (.ref a), .unset, .unset, .unset, .unset] [])) (fun tz kz => ?_) ?_
        · show Steps p.tables e below (Tq.setTop (mkF m 51 #[.val (.int p1), .val (.int p2), .val (.int p3), .val (.int z), .val (.int c0), .val (.int c1), .val (.int c2), .val (.int j), .val (.int cj), .val (.ref a), .unset, .unset, .unset, .unset] [(.int c0)])) _
          refine XS.ifYes XTq.here hx rfl (pc0 := 51) (pc' := 68) rfl (hb hby at_51) rfl ((if0 _ _).trans (teq hc51_50).1) (by decide) (by decide) ?_
          exact kz
        exact seg68 _ _ _ z c0 c1 c2 j cj a ob ub k1 k2 .null XTq eTq Nq Oq hz hc0 hc1 hc2 hj hcj KAq rfl (fun _ => by rw [hc51_50]; rfl)
      · refine Goes.via (S' := Tq.setTop (mkF m 59 #[.val (.int p1), .val (.int p2), .val (.int p3), .val (.int z), .val (.int c0), .val (.int c1), .val (.int c2), .val (.int j), .val (.int cj), .val (.ref a), .unset, .unset, .unset, .unset] [(.int c0), (.int (0 : Int32)), (.ref a)])) (fun tz kz => ?_) ?_
        · show Steps p.tables e below (Tq.setTop (mkF m 51 #[.val (.int p1), .val (.int p2), .val (.int p3), .val (.int z), .val (.int c0), .val (.int c1), .val (.int c2), .val (.int j), .val (.int cj), .val (.ref a), .unset, .unset, .unset, .unset] [(.int c0)])) _
          refine XS.ifNo XTq.here hx rfl (hb hby at_51) rfl ((if0 _ _).trans (feq hc51_50).1) ?_
          show Steps p.tables e below (Tq.setTop (mkF m 54 #[.val (.int p1), .val (.int p2), .val (.int p3), .val (.int z), .val (.int c0), .val (.int c1), .val (.int c2), .val (.int j), .val (.int cj), .val (.ref a), .unset, .unset, .unset, .unset] [])) _
          refine XS.aload XTq.here hx rfl (hb hby at_54) rfl rfl ?_
          show Steps p.tables e below (Tq.setTop (mkF m 56 #[.val (.int p1), .val (.int p2), .val (.int p3), .val (.int z), .val (.int c0), .val (.int c1), .val (.int c2), .val (.int j), .val (.int cj), .val (.ref a), .unset, .unset, .unset, .unset] [(.ref a)])) _
          refine XS.iconst XTq.here hx rfl (hb hby at_56) ?_
          show Steps p.tables e below (Tq.setTop (mkF m 57 #[.val (.int p1), .val (.int p2), .val (.int p3), .val (.int z), .val (.int c0), .val (.int c1), .val (.int c2), .val (.int j), .val (.int cj), .val (.ref a), .unset, .unset, .unset, .unset] [(.int (0 : Int32)), (.ref a)])) _
          refine XS.iload XTq.here hx rfl (hb hby at_57) rfl ?_
          exact kz
        obtain ⟨_, _, ⟨T51, L51, k51, n51⟩, -, X51, ⟨Lc51, hQ51, l51, y51, z51⟩, st51⟩ := Jvm.LawKit.callS XTq hx (y := (⟨"com/example/upkeep_window/upkeepwindow/bench/KeptAnswersCountPinLaw", "pick", "(I)Lcom/example/upkeep_window/upkeepwindow/policy/InstallOption;"⟩ : MethodName)) hown (mvT hZ (hw _ (List.mem_of_getElem? (i := 35) rfl))) (mvT hZ (hw _ (List.mem_of_getElem? (i := 36) rfl))) (mvT hZ (hw _ (List.mem_of_getElem? (i := 23) rfl))) (mvT hZ (hw _ (List.mem_of_getElem? (i := 37) rfl))) (by decide) (backOf (W := 2) (rm6 l Z a0 hw [] c0 bI bP bS hq n0 (Oq.1 ▸ Oq.2.1) (S_bI.ext Oq.2) (S_bP.ext Oq.2) (S_bS.ext Oq.2)) hZ (hw _ (List.mem_of_getElem? (i := 37) rfl)) (hw _ (List.mem_of_getElem? (i := 23) rfl)) (by decide) (by decide)) (g := (mkF m 59 #[.val (.int p1), .val (.int p2), .val (.int p3), .val (.int z), .val (.int c0), .val (.int c1), .val (.int c2), .val (.int j), .val (.int cj), .val (.ref a), .unset, .unset, .unset, .unset] [(.int c0), (.int (0 : Int32)), (.ref a)])) rfl (by rw [hml]; rfl) (argsL := [(.int c0)]) (rest := [(.int (0 : Int32)), (.ref a)]) (lenOf pd_4 rfl) rfl (by show 2 * 0 + _ ≤ _; exact Nat.le_of_eq rfl) (hb hby at_59) (fun _ _ => ⟨rfl, eTq, (by decide : 3 + 0 ≤ _), (by decide : 8 + 0 ≤ _)⟩)
        dsimp only [Pt.U, Pt.locs, Pt.cells, Pt.slots] at X51 l51 y51 z51 st51 hQ51
        subst l51 y51 z51
        obtain ⟨rfl, N51, e51⟩ := hQ51
        have Nf51 := Fr.app Nq N51
        refine Goes.via (S' := T51.setTop (mkF m 62 #[.val (.int p1), .val (.int p2), .val (.int p3), .val (.int z), .val (.int c0), .val (.int c1), .val (.int c2), .val (.int j), .val (.int cj), .val (.ref a), .unset, .unset, .unset, .unset] [(own_pk bI bP bS c0), (.int (0 : Int32)), (.ref a)])) (st51) ?_
        obtain ⟨_, _, ⟨T52, L52, k52, n52⟩, -, X52, ⟨Lc52, hQ52, l52, y52, z52⟩, st52⟩ := Jvm.LawKit.callS X51 hx (y := (⟨"java/util/Optional", "empty", "()Ljava/util/Optional;"⟩ : MethodName)) hown (mvT hZ (hw _ (List.mem_of_getElem? (i := 38) rfl))) (mvT hZ (hw _ (List.mem_of_getElem? (i := 39) rfl))) (mvT hZ (hw _ (List.mem_of_getElem? (i := 40) rfl))) (mvT hZ (hw _ (List.mem_of_getElem? (i := 41) rfl))) (by decide) (backOf (W := 3) (rm7 l Z a0 hw [] bE hq n0 (Oq.1 ▸ Oq.2.1) (SO.ext Oq.2)) hZ (hw _ (List.mem_of_getElem? (i := 41) rfl)) (hw _ (List.mem_of_getElem? (i := 40) rfl)) (by decide) (by decide)) (g := (mkF m 62 #[.val (.int p1), .val (.int p2), .val (.int p3), .val (.int z), .val (.int c0), .val (.int c1), .val (.int c2), .val (.int j), .val (.int cj), .val (.ref a), .unset, .unset, .unset, .unset] [(own_pk bI bP bS c0), (.int (0 : Int32)), (.ref a)])) rfl (by rw [hml]; rfl) (argsL := []) (rest := [(own_pk bI bP bS c0), (.int (0 : Int32)), (.ref a)]) (lenOf pd_5 rfl) rfl (by show 2 * 0 + (List.map (fun v => v.category) [(own_pk bI bP bS c0), (.int (0 : Int32)), (.ref a)]).sum ≤ _; simp only [List.map_cons, List.map_nil, cat_ref (own_pk_ref bI bP bS c0)]; exact Nat.le_of_eq rfl) (hb hby at_62) (fun _ _ => ⟨rfl, e51, (by decide : 3 + 0 ≤ _), (by decide : 8 + 0 ≤ _)⟩)
        dsimp only [Pt.U, Pt.locs, Pt.cells, Pt.slots] at X52 l52 y52 z52 st52 hQ52
        subst l52 y52 z52
        obtain ⟨rfl, N52, e52⟩ := hQ52
        have Nf52 := Fr.app Nf51 N52
        refine Goes.via (S' := T52.setTop (mkF m 65 #[.val (.int p1), .val (.int p2), .val (.int p3), .val (.int z), .val (.int c0), .val (.int c1), .val (.int c2), .val (.int j), .val (.int cj), .val (.ref a), .unset, .unset, .unset, .unset] [(.ref bE), (own_pk bI bP bS c0), (.int (0 : Int32)), (.ref a)])) (st52) ?_
        obtain ⟨cq53, kq53, q53a, q53b, q53c⟩ := isOf hZ e52 KAq.1
        obtain ⟨_, _, ⟨T53, L53, k53, n53⟩, -, X53, ⟨Lc53, hQ53, l53, y53, z53⟩, st53⟩ := X52.virtualBack hx (y := (⟨"com/example/upkeep_window/upkeepwindow/bench/KeptAnswers", "keep", "(ILcom/example/upkeep_window/upkeepwindow/policy/InstallOption;Ljava/util/Optional;)V"⟩ : MethodName)) (z := (⟨"com/example/upkeep_window/upkeepwindow/bench/KeptAnswers", "keep", "(ILcom/example/upkeep_window/upkeepwindow/policy/InstallOption;Ljava/util/Optional;)V"⟩ : MethodName)) hown (mvT hZ (hw _ (List.mem_of_getElem? (i := 43) rfl))) (mvT hZ (hw _ (List.mem_of_getElem? (i := 44) rfl))) (notFace_of_selects (args := #[]) (mvT hZ (hw _ (List.mem_of_getElem? (i := 46) rfl)))) (mvT hZ (hw _ (List.mem_of_getElem? (i := 46) rfl))) (mvT hZ (hw _ (List.mem_of_getElem? (i := 45) rfl))) (by decide) (backOfWith (W := 0) (rm8 l Z a0 hw [] a (0 : Int32) (own_pk bI bP bS c0) bE ob ub k1 k2 z [.null, .null, .null] 0 hq n0 (Oq.1 ▸ Oq.2.1) (own_pk_ref bI bP bS c0) KAq rfl ⟨by decide, hc46_49⟩ rfl (by decide) (own_pk_sto c0 (E_bI.ext Oq.2) (E_bP.ext Oq.2) (E_bS.ext Oq.2)) (EE.ext Oq.2) (FE.ext Oq.2)) hZ (hw _ (List.mem_of_getElem? (i := 47) rfl)) (hw _ (List.mem_of_getElem? (i := 2) rfl)) (by decide) (by decide)) q53a q53c (g := (mkF m 65 #[.val (.int p1), .val (.int p2), .val (.int p3), .val (.int z), .val (.int c0), .val (.int c1), .val (.int c2), .val (.int j), .val (.int cj), .val (.ref a), .unset, .unset, .unset, .unset] [(.ref bE), (own_pk bI bP bS c0), (.int (0 : Int32)), (.ref a)])) rfl (by rw [hml]; rfl) (Steps.refl _) (argsL := [(.int (0 : Int32)), (own_pk bI bP bS c0), (.ref bE)]) (rest := []) (lenOf pd_6 rfl) rfl (by show 2 * 0 + _ ≤ _; exact Nat.le_of_eq rfl) (hb hby at_65) (fun _ _ => ⟨rfl, e52, (by decide : 3 + 0 ≤ _), (by decide : 8 + 0 ≤ _)⟩)
        dsimp only [Pt.U, Pt.locs, Pt.cells, Pt.slots] at X53 l53 y53 z53 st53 hQ53
        subst l53 y53 z53
        obtain ⟨rfl, N53, K53, KA53⟩ := hQ53
        have Nf53 := Fr.app Nf52 N53
        refine Goes.via (S' := T53.setTop (mkF m 68 #[.val (.int p1), .val (.int p2), .val (.int p3), .val (.int z), .val (.int c0), .val (.int c1), .val (.int c2), .val (.int j), .val (.int cj), .val (.ref a), .unset, .unset, .unset, .unset] [])) (fun _ kz => st53.trans kz) ?_
        have O53 := Oq.keep K53 (allS KAq.2.2.2.2.2.2.2.1 (allS KAq.2.2.2.2.2.2.2.2.1 all0))
        exact seg68 _ _ _ z c0 c1 c2 j cj a ob ub k1 k2 (own_pk bI bP bS c0) X53 rfl Nf53 O53 hz hc0 hc1 hc2 hj hcj KA53 (own_pk_ref bI bP bS _) (fun _ => rfl)
    · refine Goes.via (S' := Tq.setTop (mkF m 68 #[.val (.int p1), .val (.int p2), .val (.int p3), .val (.int z), .val (.int c0), .val (.int c1), .val (.int c2), .val (.int j), .val (.int cj), .val (.ref a), .unset, .unset, .unset, .unset] [])) (fun tz kz => ?_) ?_
      · show Steps p.tables e below (Tq.setTop (mkF m 46 #[.val (.int p1), .val (.int p2), .val (.int p3), .val (.int z), .val (.int c0), .val (.int c1), .val (.int c2), .val (.int j), .val (.int cj), .val (.ref a), .unset, .unset, .unset, .unset] [(.int z)])) _
        refine XS.ifYes XTq.here hx rfl (pc0 := 46) (pc' := 68) rfl (hb hby at_46) rfl ((if0 _ _).trans (flt hc46_49).2.2.2) (by decide) (by decide) ?_
        exact kz
      exact seg68 _ _ _ z c0 c1 c2 j cj a ob ub k1 k2 .null XTq eTq Nq Oq hz hc0 hc1 hc2 hj hcj KAq rfl (fun y => absurd y hc46_49)
  show Goes p e below (Fin s (Q_rm0 Z p1 p2 p3 bI bP bS bE h0 n0) room_1.cells room_1.slots) _
  refine Goes.via (S' := s₁.setTop (mkF m 0 #[.val (.int p1), .val (.int p2), .val (.int p3), .unset, .unset, .unset, .unset, .unset, .unset, .unset, .unset, .unset, .unset, .unset] [])) (fun tz kz => castTop (ef_0 m p1 p2 p3 ) kz) ?_
  refine Goes.via (S' := s₁.setTop (mkF m 35 #[.val (.int p1), .val (.int p2), .val (.int p3), .val (.int (p1 &&& (3 : Int32))), .val (.int (p2 &&& (3 : Int32))), .val (.int (((p2.toUInt32 >>> ((2 : Int32) &&& 31).toUInt32).toInt32) &&& (3 : Int32))), .val (.int (((p2.toUInt32 >>> ((4 : Int32) &&& 31).toUInt32).toInt32) &&& (3 : Int32))), .val (.int (p3 &&& (3 : Int32))), .val (.int (((p3.toUInt32 >>> ((2 : Int32) &&& 31).toUInt32).toInt32) &&& (3 : Int32))), .unset, .unset, .unset, .unset, .unset] [])) (fun tz kz => ?_) ?_
  · show Steps p.tables e below (s₁.setTop (mkF m 0 #[.val (.int p1), .val (.int p2), .val (.int p3), .unset, .unset, .unset, .unset, .unset, .unset, .unset, .unset, .unset, .unset, .unset] [])) _
    refine XS.iloadN X0.here hx rfl (hb hby at_0) rfl ?_
    show Steps p.tables e below (s₁.setTop (mkF m 1 #[.val (.int p1), .val (.int p2), .val (.int p3), .unset, .unset, .unset, .unset, .unset, .unset, .unset, .unset, .unset, .unset, .unset] [(.int p1)])) _
    refine XS.iconst X0.here hx rfl (hb hby at_1) ?_
    show Steps p.tables e below (s₁.setTop (mkF m 2 #[.val (.int p1), .val (.int p2), .val (.int p3), .unset, .unset, .unset, .unset, .unset, .unset, .unset, .unset, .unset, .unset, .unset] [(.int (3 : Int32)), (.int p1)])) _
    refine XS.iand X0.here hx rfl (hb hby at_2) rfl ?_
    show Steps p.tables e below (s₁.setTop (mkF m 3 #[.val (.int p1), .val (.int p2), .val (.int p3), .unset, .unset, .unset, .unset, .unset, .unset, .unset, .unset, .unset, .unset, .unset] [(.int (p1 &&& (3 : Int32)))])) _
    refine XS.istoreN X0.here hx rfl (hb hby at_3) rfl (l' := #[.val (.int p1), .val (.int p2), .val (.int p3), .val (.int (p1 &&& (3 : Int32))), .unset, .unset, .unset, .unset, .unset, .unset, .unset, .unset, .unset, .unset]) rfl ?_
    show Steps p.tables e below (s₁.setTop (mkF m 4 #[.val (.int p1), .val (.int p2), .val (.int p3), .val (.int (p1 &&& (3 : Int32))), .unset, .unset, .unset, .unset, .unset, .unset, .unset, .unset, .unset, .unset] [])) _
    refine XS.iloadN X0.here hx rfl (hb hby at_4) rfl ?_
    show Steps p.tables e below (s₁.setTop (mkF m 5 #[.val (.int p1), .val (.int p2), .val (.int p3), .val (.int (p1 &&& (3 : Int32))), .unset, .unset, .unset, .unset, .unset, .unset, .unset, .unset, .unset, .unset] [(.int p2)])) _
    refine XS.iconst X0.here hx rfl (hb hby at_5) ?_
    show Steps p.tables e below (s₁.setTop (mkF m 6 #[.val (.int p1), .val (.int p2), .val (.int p3), .val (.int (p1 &&& (3 : Int32))), .unset, .unset, .unset, .unset, .unset, .unset, .unset, .unset, .unset, .unset] [(.int (3 : Int32)), (.int p2)])) _
    refine XS.iand X0.here hx rfl (hb hby at_6) rfl ?_
    show Steps p.tables e below (s₁.setTop (mkF m 7 #[.val (.int p1), .val (.int p2), .val (.int p3), .val (.int (p1 &&& (3 : Int32))), .unset, .unset, .unset, .unset, .unset, .unset, .unset, .unset, .unset, .unset] [(.int (p2 &&& (3 : Int32)))])) _
    refine XS.istore X0.here hx rfl (hb hby at_7) rfl (l' := #[.val (.int p1), .val (.int p2), .val (.int p3), .val (.int (p1 &&& (3 : Int32))), .val (.int (p2 &&& (3 : Int32))), .unset, .unset, .unset, .unset, .unset, .unset, .unset, .unset, .unset]) rfl ?_
    show Steps p.tables e below (s₁.setTop (mkF m 9 #[.val (.int p1), .val (.int p2), .val (.int p3), .val (.int (p1 &&& (3 : Int32))), .val (.int (p2 &&& (3 : Int32))), .unset, .unset, .unset, .unset, .unset, .unset, .unset, .unset, .unset] [])) _
    refine XS.iloadN X0.here hx rfl (hb hby at_9) rfl ?_
    show Steps p.tables e below (s₁.setTop (mkF m 10 #[.val (.int p1), .val (.int p2), .val (.int p3), .val (.int (p1 &&& (3 : Int32))), .val (.int (p2 &&& (3 : Int32))), .unset, .unset, .unset, .unset, .unset, .unset, .unset, .unset, .unset] [(.int p2)])) _
    refine XS.iconst X0.here hx rfl (hb hby at_10) ?_
    show Steps p.tables e below (s₁.setTop (mkF m 11 #[.val (.int p1), .val (.int p2), .val (.int p3), .val (.int (p1 &&& (3 : Int32))), .val (.int (p2 &&& (3 : Int32))), .unset, .unset, .unset, .unset, .unset, .unset, .unset, .unset, .unset] [(.int (2 : Int32)), (.int p2)])) _
    refine XS.iushr X0.here hx rfl (hb hby at_11) rfl ?_
    show Steps p.tables e below (s₁.setTop (mkF m 12 #[.val (.int p1), .val (.int p2), .val (.int p3), .val (.int (p1 &&& (3 : Int32))), .val (.int (p2 &&& (3 : Int32))), .unset, .unset, .unset, .unset, .unset, .unset, .unset, .unset, .unset] [(.int ((p2.toUInt32 >>> ((2 : Int32) &&& 31).toUInt32).toInt32))])) _
    refine XS.iconst X0.here hx rfl (hb hby at_12) ?_
    show Steps p.tables e below (s₁.setTop (mkF m 13 #[.val (.int p1), .val (.int p2), .val (.int p3), .val (.int (p1 &&& (3 : Int32))), .val (.int (p2 &&& (3 : Int32))), .unset, .unset, .unset, .unset, .unset, .unset, .unset, .unset, .unset] [(.int (3 : Int32)), (.int ((p2.toUInt32 >>> ((2 : Int32) &&& 31).toUInt32).toInt32))])) _
    refine XS.iand X0.here hx rfl (hb hby at_13) rfl ?_
    show Steps p.tables e below (s₁.setTop (mkF m 14 #[.val (.int p1), .val (.int p2), .val (.int p3), .val (.int (p1 &&& (3 : Int32))), .val (.int (p2 &&& (3 : Int32))), .unset, .unset, .unset, .unset, .unset, .unset, .unset, .unset, .unset] [(.int (((p2.toUInt32 >>> ((2 : Int32) &&& 31).toUInt32).toInt32) &&& (3 : Int32)))])) _
    refine XS.istore X0.here hx rfl (hb hby at_14) rfl (l' := #[.val (.int p1), .val (.int p2), .val (.int p3), .val (.int (p1 &&& (3 : Int32))), .val (.int (p2 &&& (3 : Int32))), .val (.int (((p2.toUInt32 >>> ((2 : Int32) &&& 31).toUInt32).toInt32) &&& (3 : Int32))), .unset, .unset, .unset, .unset, .unset, .unset, .unset, .unset]) rfl ?_
    show Steps p.tables e below (s₁.setTop (mkF m 16 #[.val (.int p1), .val (.int p2), .val (.int p3), .val (.int (p1 &&& (3 : Int32))), .val (.int (p2 &&& (3 : Int32))), .val (.int (((p2.toUInt32 >>> ((2 : Int32) &&& 31).toUInt32).toInt32) &&& (3 : Int32))), .unset, .unset, .unset, .unset, .unset, .unset, .unset, .unset] [])) _
    refine XS.iloadN X0.here hx rfl (hb hby at_16) rfl ?_
    show Steps p.tables e below (s₁.setTop (mkF m 17 #[.val (.int p1), .val (.int p2), .val (.int p3), .val (.int (p1 &&& (3 : Int32))), .val (.int (p2 &&& (3 : Int32))), .val (.int (((p2.toUInt32 >>> ((2 : Int32) &&& 31).toUInt32).toInt32) &&& (3 : Int32))), .unset, .unset, .unset, .unset, .unset, .unset, .unset, .unset] [(.int p2)])) _
    refine XS.iconst X0.here hx rfl (hb hby at_17) ?_
    show Steps p.tables e below (s₁.setTop (mkF m 18 #[.val (.int p1), .val (.int p2), .val (.int p3), .val (.int (p1 &&& (3 : Int32))), .val (.int (p2 &&& (3 : Int32))), .val (.int (((p2.toUInt32 >>> ((2 : Int32) &&& 31).toUInt32).toInt32) &&& (3 : Int32))), .unset, .unset, .unset, .unset, .unset, .unset, .unset, .unset] [(.int (4 : Int32)), (.int p2)])) _
    refine XS.iushr X0.here hx rfl (hb hby at_18) rfl ?_
    show Steps p.tables e below (s₁.setTop (mkF m 19 #[.val (.int p1), .val (.int p2), .val (.int p3), .val (.int (p1 &&& (3 : Int32))), .val (.int (p2 &&& (3 : Int32))), .val (.int (((p2.toUInt32 >>> ((2 : Int32) &&& 31).toUInt32).toInt32) &&& (3 : Int32))), .unset, .unset, .unset, .unset, .unset, .unset, .unset, .unset] [(.int ((p2.toUInt32 >>> ((4 : Int32) &&& 31).toUInt32).toInt32))])) _
    refine XS.iconst X0.here hx rfl (hb hby at_19) ?_
    show Steps p.tables e below (s₁.setTop (mkF m 20 #[.val (.int p1), .val (.int p2), .val (.int p3), .val (.int (p1 &&& (3 : Int32))), .val (.int (p2 &&& (3 : Int32))), .val (.int (((p2.toUInt32 >>> ((2 : Int32) &&& 31).toUInt32).toInt32) &&& (3 : Int32))), .unset, .unset, .unset, .unset, .unset, .unset, .unset, .unset] [(.int (3 : Int32)), (.int ((p2.toUInt32 >>> ((4 : Int32) &&& 31).toUInt32).toInt32))])) _
    refine XS.iand X0.here hx rfl (hb hby at_20) rfl ?_
    show Steps p.tables e below (s₁.setTop (mkF m 21 #[.val (.int p1), .val (.int p2), .val (.int p3), .val (.int (p1 &&& (3 : Int32))), .val (.int (p2 &&& (3 : Int32))), .val (.int (((p2.toUInt32 >>> ((2 : Int32) &&& 31).toUInt32).toInt32) &&& (3 : Int32))), .unset, .unset, .unset, .unset, .unset, .unset, .unset, .unset] [(.int (((p2.toUInt32 >>> ((4 : Int32) &&& 31).toUInt32).toInt32) &&& (3 : Int32)))])) _
    refine XS.istore X0.here hx rfl (hb hby at_21) rfl (l' := #[.val (.int p1), .val (.int p2), .val (.int p3), .val (.int (p1 &&& (3 : Int32))), .val (.int (p2 &&& (3 : Int32))), .val (.int (((p2.toUInt32 >>> ((2 : Int32) &&& 31).toUInt32).toInt32) &&& (3 : Int32))), .val (.int (((p2.toUInt32 >>> ((4 : Int32) &&& 31).toUInt32).toInt32) &&& (3 : Int32))), .unset, .unset, .unset, .unset, .unset, .unset, .unset]) rfl ?_
    show Steps p.tables e below (s₁.setTop (mkF m 23 #[.val (.int p1), .val (.int p2), .val (.int p3), .val (.int (p1 &&& (3 : Int32))), .val (.int (p2 &&& (3 : Int32))), .val (.int (((p2.toUInt32 >>> ((2 : Int32) &&& 31).toUInt32).toInt32) &&& (3 : Int32))), .val (.int (((p2.toUInt32 >>> ((4 : Int32) &&& 31).toUInt32).toInt32) &&& (3 : Int32))), .unset, .unset, .unset, .unset, .unset, .unset, .unset] [])) _
    refine XS.iloadN X0.here hx rfl (hb hby at_23) rfl ?_
    show Steps p.tables e below (s₁.setTop (mkF m 24 #[.val (.int p1), .val (.int p2), .val (.int p3), .val (.int (p1 &&& (3 : Int32))), .val (.int (p2 &&& (3 : Int32))), .val (.int (((p2.toUInt32 >>> ((2 : Int32) &&& 31).toUInt32).toInt32) &&& (3 : Int32))), .val (.int (((p2.toUInt32 >>> ((4 : Int32) &&& 31).toUInt32).toInt32) &&& (3 : Int32))), .unset, .unset, .unset, .unset, .unset, .unset, .unset] [(.int p3)])) _
    refine XS.iconst X0.here hx rfl (hb hby at_24) ?_
    show Steps p.tables e below (s₁.setTop (mkF m 25 #[.val (.int p1), .val (.int p2), .val (.int p3), .val (.int (p1 &&& (3 : Int32))), .val (.int (p2 &&& (3 : Int32))), .val (.int (((p2.toUInt32 >>> ((2 : Int32) &&& 31).toUInt32).toInt32) &&& (3 : Int32))), .val (.int (((p2.toUInt32 >>> ((4 : Int32) &&& 31).toUInt32).toInt32) &&& (3 : Int32))), .unset, .unset, .unset, .unset, .unset, .unset, .unset] [(.int (3 : Int32)), (.int p3)])) _
    refine XS.iand X0.here hx rfl (hb hby at_25) rfl ?_
    show Steps p.tables e below (s₁.setTop (mkF m 26 #[.val (.int p1), .val (.int p2), .val (.int p3), .val (.int (p1 &&& (3 : Int32))), .val (.int (p2 &&& (3 : Int32))), .val (.int (((p2.toUInt32 >>> ((2 : Int32) &&& 31).toUInt32).toInt32) &&& (3 : Int32))), .val (.int (((p2.toUInt32 >>> ((4 : Int32) &&& 31).toUInt32).toInt32) &&& (3 : Int32))), .unset, .unset, .unset, .unset, .unset, .unset, .unset] [(.int (p3 &&& (3 : Int32)))])) _
    refine XS.istore X0.here hx rfl (hb hby at_26) rfl (l' := #[.val (.int p1), .val (.int p2), .val (.int p3), .val (.int (p1 &&& (3 : Int32))), .val (.int (p2 &&& (3 : Int32))), .val (.int (((p2.toUInt32 >>> ((2 : Int32) &&& 31).toUInt32).toInt32) &&& (3 : Int32))), .val (.int (((p2.toUInt32 >>> ((4 : Int32) &&& 31).toUInt32).toInt32) &&& (3 : Int32))), .val (.int (p3 &&& (3 : Int32))), .unset, .unset, .unset, .unset, .unset, .unset]) rfl ?_
    show Steps p.tables e below (s₁.setTop (mkF m 28 #[.val (.int p1), .val (.int p2), .val (.int p3), .val (.int (p1 &&& (3 : Int32))), .val (.int (p2 &&& (3 : Int32))), .val (.int (((p2.toUInt32 >>> ((2 : Int32) &&& 31).toUInt32).toInt32) &&& (3 : Int32))), .val (.int (((p2.toUInt32 >>> ((4 : Int32) &&& 31).toUInt32).toInt32) &&& (3 : Int32))), .val (.int (p3 &&& (3 : Int32))), .unset, .unset, .unset, .unset, .unset, .unset] [])) _
    refine XS.iloadN X0.here hx rfl (hb hby at_28) rfl ?_
    show Steps p.tables e below (s₁.setTop (mkF m 29 #[.val (.int p1), .val (.int p2), .val (.int p3), .val (.int (p1 &&& (3 : Int32))), .val (.int (p2 &&& (3 : Int32))), .val (.int (((p2.toUInt32 >>> ((2 : Int32) &&& 31).toUInt32).toInt32) &&& (3 : Int32))), .val (.int (((p2.toUInt32 >>> ((4 : Int32) &&& 31).toUInt32).toInt32) &&& (3 : Int32))), .val (.int (p3 &&& (3 : Int32))), .unset, .unset, .unset, .unset, .unset, .unset] [(.int p3)])) _
    refine XS.iconst X0.here hx rfl (hb hby at_29) ?_
    show Steps p.tables e below (s₁.setTop (mkF m 30 #[.val (.int p1), .val (.int p2), .val (.int p3), .val (.int (p1 &&& (3 : Int32))), .val (.int (p2 &&& (3 : Int32))), .val (.int (((p2.toUInt32 >>> ((2 : Int32) &&& 31).toUInt32).toInt32) &&& (3 : Int32))), .val (.int (((p2.toUInt32 >>> ((4 : Int32) &&& 31).toUInt32).toInt32) &&& (3 : Int32))), .val (.int (p3 &&& (3 : Int32))), .unset, .unset, .unset, .unset, .unset, .unset] [(.int (2 : Int32)), (.int p3)])) _
    refine XS.iushr X0.here hx rfl (hb hby at_30) rfl ?_
    show Steps p.tables e below (s₁.setTop (mkF m 31 #[.val (.int p1), .val (.int p2), .val (.int p3), .val (.int (p1 &&& (3 : Int32))), .val (.int (p2 &&& (3 : Int32))), .val (.int (((p2.toUInt32 >>> ((2 : Int32) &&& 31).toUInt32).toInt32) &&& (3 : Int32))), .val (.int (((p2.toUInt32 >>> ((4 : Int32) &&& 31).toUInt32).toInt32) &&& (3 : Int32))), .val (.int (p3 &&& (3 : Int32))), .unset, .unset, .unset, .unset, .unset, .unset] [(.int ((p3.toUInt32 >>> ((2 : Int32) &&& 31).toUInt32).toInt32))])) _
    refine XS.iconst X0.here hx rfl (hb hby at_31) ?_
    show Steps p.tables e below (s₁.setTop (mkF m 32 #[.val (.int p1), .val (.int p2), .val (.int p3), .val (.int (p1 &&& (3 : Int32))), .val (.int (p2 &&& (3 : Int32))), .val (.int (((p2.toUInt32 >>> ((2 : Int32) &&& 31).toUInt32).toInt32) &&& (3 : Int32))), .val (.int (((p2.toUInt32 >>> ((4 : Int32) &&& 31).toUInt32).toInt32) &&& (3 : Int32))), .val (.int (p3 &&& (3 : Int32))), .unset, .unset, .unset, .unset, .unset, .unset] [(.int (3 : Int32)), (.int ((p3.toUInt32 >>> ((2 : Int32) &&& 31).toUInt32).toInt32))])) _
    refine XS.iand X0.here hx rfl (hb hby at_32) rfl ?_
    show Steps p.tables e below (s₁.setTop (mkF m 33 #[.val (.int p1), .val (.int p2), .val (.int p3), .val (.int (p1 &&& (3 : Int32))), .val (.int (p2 &&& (3 : Int32))), .val (.int (((p2.toUInt32 >>> ((2 : Int32) &&& 31).toUInt32).toInt32) &&& (3 : Int32))), .val (.int (((p2.toUInt32 >>> ((4 : Int32) &&& 31).toUInt32).toInt32) &&& (3 : Int32))), .val (.int (p3 &&& (3 : Int32))), .unset, .unset, .unset, .unset, .unset, .unset] [(.int (((p3.toUInt32 >>> ((2 : Int32) &&& 31).toUInt32).toInt32) &&& (3 : Int32)))])) _
    refine XS.istore X0.here hx rfl (hb hby at_33) rfl (l' := #[.val (.int p1), .val (.int p2), .val (.int p3), .val (.int (p1 &&& (3 : Int32))), .val (.int (p2 &&& (3 : Int32))), .val (.int (((p2.toUInt32 >>> ((2 : Int32) &&& 31).toUInt32).toInt32) &&& (3 : Int32))), .val (.int (((p2.toUInt32 >>> ((4 : Int32) &&& 31).toUInt32).toInt32) &&& (3 : Int32))), .val (.int (p3 &&& (3 : Int32))), .val (.int (((p3.toUInt32 >>> ((2 : Int32) &&& 31).toUInt32).toInt32) &&& (3 : Int32))), .unset, .unset, .unset, .unset, .unset]) rfl ?_
    exact kz
  obtain ⟨T54, h54, X54, e54, E54, A54, D54, -, st54⟩ := newO X0 hx hZ hown (hw _ (List.mem_of_getElem? (i := 0) rfl)) (hw _ (List.mem_of_getElem? (i := 1) rfl)) (hw _ (List.mem_of_getElem? (i := 2) rfl)) e0 (g := (mkF m 35 #[.val (.int p1), .val (.int p2), .val (.int p3), .val (.int (p1 &&& (3 : Int32))), .val (.int (p2 &&& (3 : Int32))), .val (.int (((p2.toUInt32 >>> ((2 : Int32) &&& 31).toUInt32).toInt32) &&& (3 : Int32))), .val (.int (((p2.toUInt32 >>> ((4 : Int32) &&& 31).toUInt32).toInt32) &&& (3 : Int32))), .val (.int (p3 &&& (3 : Int32))), .val (.int (((p3.toUInt32 >>> ((2 : Int32) &&& 31).toUInt32).toInt32) &&& (3 : Int32))), .unset, .unset, .unset, .unset, .unset] [])) rfl (hb hby at_35) (by decide) (by decide)
  obtain ⟨b54, g54⟩ : ∃ z, z = h0.size := ⟨_, rfl⟩
  rw [← g54] at A54 D54 st54
  refine Goes.via (S' := T54.setTop (mkF m 38 #[.val (.int p1), .val (.int p2), .val (.int p3), .val (.int (p1 &&& (3 : Int32))), .val (.int (p2 &&& (3 : Int32))), .val (.int (((p2.toUInt32 >>> ((2 : Int32) &&& 31).toUInt32).toInt32) &&& (3 : Int32))), .val (.int (((p2.toUInt32 >>> ((4 : Int32) &&& 31).toUInt32).toInt32) &&& (3 : Int32))), .val (.int (p3 &&& (3 : Int32))), .val (.int (((p3.toUInt32 >>> ((2 : Int32) &&& 31).toUInt32).toInt32) &&& (3 : Int32))), .unset, .unset, .unset, .unset, .unset] [(.ref b54)])) st54 ?_
  have F_o : Fld Z h54 b54 "com/example/upkeep_window/upkeepwindow/bench/KeptAnswers" "options" "[Lcom/example/upkeep_window/upkeepwindow/policy/InstallOption;" .null := D54 (Or.inr (hw _ (List.mem_of_getElem? (i := 12) rfl))) (ty := (.array (.object "com/example/upkeep_window/upkeepwindow/policy/InstallOption"))) (by decide)
  have F_u : Fld Z h54 b54 "com/example/upkeep_window/upkeepwindow/bench/KeptAnswers" "untils" "[J" .null := D54 (Or.inr (hw _ (List.mem_of_getElem? (i := 15) rfl))) (ty := (.array .long)) (by decide)
  have O1 := O0.ext E54
  refine Goes.via (S' := T54.setTop (mkF m 40 #[.val (.int p1), .val (.int p2), .val (.int p3), .val (.int (p1 &&& (3 : Int32))), .val (.int (p2 &&& (3 : Int32))), .val (.int (((p2.toUInt32 >>> ((2 : Int32) &&& 31).toUInt32).toInt32) &&& (3 : Int32))), .val (.int (((p2.toUInt32 >>> ((4 : Int32) &&& 31).toUInt32).toInt32) &&& (3 : Int32))), .val (.int (p3 &&& (3 : Int32))), .val (.int (((p3.toUInt32 >>> ((2 : Int32) &&& 31).toUInt32).toInt32) &&& (3 : Int32))), .unset, .unset, .unset, .unset, .unset] [(.int (p1 &&& (3 : Int32))), (.ref b54), (.ref b54)])) (fun tz kz => ?_) ?_
  · show Steps p.tables e below (T54.setTop (mkF m 38 #[.val (.int p1), .val (.int p2), .val (.int p3), .val (.int (p1 &&& (3 : Int32))), .val (.int (p2 &&& (3 : Int32))), .val (.int (((p2.toUInt32 >>> ((2 : Int32) &&& 31).toUInt32).toInt32) &&& (3 : Int32))), .val (.int (((p2.toUInt32 >>> ((4 : Int32) &&& 31).toUInt32).toInt32) &&& (3 : Int32))), .val (.int (p3 &&& (3 : Int32))), .val (.int (((p3.toUInt32 >>> ((2 : Int32) &&& 31).toUInt32).toInt32) &&& (3 : Int32))), .unset, .unset, .unset, .unset, .unset] [(.ref b54)])) _
    refine XS.dup X54.here hx rfl (hb hby at_38) rfl rfl ?_
    show Steps p.tables e below (T54.setTop (mkF m 39 #[.val (.int p1), .val (.int p2), .val (.int p3), .val (.int (p1 &&& (3 : Int32))), .val (.int (p2 &&& (3 : Int32))), .val (.int (((p2.toUInt32 >>> ((2 : Int32) &&& 31).toUInt32).toInt32) &&& (3 : Int32))), .val (.int (((p2.toUInt32 >>> ((4 : Int32) &&& 31).toUInt32).toInt32) &&& (3 : Int32))), .val (.int (p3 &&& (3 : Int32))), .val (.int (((p3.toUInt32 >>> ((2 : Int32) &&& 31).toUInt32).toInt32) &&& (3 : Int32))), .unset, .unset, .unset, .unset, .unset] [(.ref b54), (.ref b54)])) _
    refine XS.iloadN X54.here hx rfl (hb hby at_39) rfl ?_
    exact kz
  obtain ⟨_, _, ⟨T55, L55, k55, n55⟩, -, X55, ⟨Lc55, hQ55, l55, y55, z55⟩, st55⟩ := X54.specialBack hx (y := (⟨"com/example/upkeep_window/upkeepwindow/bench/KeptAnswers", "<init>", "(I)V"⟩ : MethodName)) rfl hown (mvT hZ (hw _ (List.mem_of_getElem? (i := 3) rfl))) (mvT hZ (hw _ (List.mem_of_getElem? (i := 4) rfl))) (mvT hZ (hw _ (List.mem_of_getElem? (i := 5) rfl))) (by decide) (backOf (W := 1) (rm1 l Z a0 hw [] b54 (p1 &&& (3 : Int32)) h54 n0 (O1.1 ▸ O1.2.1) F_o F_u A54 (Nat.le_trans Z0 (Nat.le_of_eq g54.symm)) (own_lt (own_and3 _)).1 (own_lt (own_and3 _)).2) hZ (hw _ (List.mem_of_getElem? (i := 5) rfl)) (hw _ (List.mem_of_getElem? (i := 2) rfl)) (by decide) (by decide)) (g := (mkF m 40 #[.val (.int p1), .val (.int p2), .val (.int p3), .val (.int (p1 &&& (3 : Int32))), .val (.int (p2 &&& (3 : Int32))), .val (.int (((p2.toUInt32 >>> ((2 : Int32) &&& 31).toUInt32).toInt32) &&& (3 : Int32))), .val (.int (((p2.toUInt32 >>> ((4 : Int32) &&& 31).toUInt32).toInt32) &&& (3 : Int32))), .val (.int (p3 &&& (3 : Int32))), .val (.int (((p3.toUInt32 >>> ((2 : Int32) &&& 31).toUInt32).toInt32) &&& (3 : Int32))), .unset, .unset, .unset, .unset, .unset] [(.int (p1 &&& (3 : Int32))), (.ref b54), (.ref b54)])) rfl (by rw [hml]; rfl) (Steps.refl _) (a := b54) (argsL := [(.int (p1 &&& (3 : Int32)))]) (rest := [(.ref b54)]) (lenOf pd_7 rfl) rfl (by show 2 * 0 + _ ≤ _; exact Nat.le_of_eq rfl) (hb hby at_40) (fun _ _ => ⟨rfl, e54, (by decide : 1 + 2 ≤ _), (by decide : 2 + 6 ≤ _)⟩)
  dsimp only [Pt.U, Pt.locs, Pt.cells, Pt.slots] at X55 l55 y55 z55 st55 hQ55
  subst l55 y55 z55
  obtain ⟨rfl, N55, K55, ob, ub, k1, k2, KA55⟩ := hQ55
  have Nf55 := Fr.app N0 N55
  refine Goes.via (S' := T55.setTop (mkF m 43 #[.val (.int p1), .val (.int p2), .val (.int p3), .val (.int (p1 &&& (3 : Int32))), .val (.int (p2 &&& (3 : Int32))), .val (.int (((p2.toUInt32 >>> ((2 : Int32) &&& 31).toUInt32).toInt32) &&& (3 : Int32))), .val (.int (((p2.toUInt32 >>> ((4 : Int32) &&& 31).toUInt32).toInt32) &&& (3 : Int32))), .val (.int (p3 &&& (3 : Int32))), .val (.int (((p3.toUInt32 >>> ((2 : Int32) &&& 31).toUInt32).toInt32) &&& (3 : Int32))), .unset, .unset, .unset, .unset, .unset] [(.ref b54)])) (fun _ kz => st55.trans kz) ?_
  have O2 := O1.keep K55 (allS (Nat.le_trans Z0 (Nat.le_of_eq g54.symm)) all0)
  refine Goes.via (S' := T55.setTop (mkF m 45 #[.val (.int p1), .val (.int p2), .val (.int p3), .val (.int (p1 &&& (3 : Int32))), .val (.int (p2 &&& (3 : Int32))), .val (.int (((p2.toUInt32 >>> ((2 : Int32) &&& 31).toUInt32).toInt32) &&& (3 : Int32))), .val (.int (((p2.toUInt32 >>> ((4 : Int32) &&& 31).toUInt32).toInt32) &&& (3 : Int32))), .val (.int (p3 &&& (3 : Int32))), .val (.int (((p3.toUInt32 >>> ((2 : Int32) &&& 31).toUInt32).toInt32) &&& (3 : Int32))), .val (.ref b54), .unset, .unset, .unset, .unset] [])) (fun tz kz => ?_) ?_
  · show Steps p.tables e below (T55.setTop (mkF m 43 #[.val (.int p1), .val (.int p2), .val (.int p3), .val (.int (p1 &&& (3 : Int32))), .val (.int (p2 &&& (3 : Int32))), .val (.int (((p2.toUInt32 >>> ((2 : Int32) &&& 31).toUInt32).toInt32) &&& (3 : Int32))), .val (.int (((p2.toUInt32 >>> ((4 : Int32) &&& 31).toUInt32).toInt32) &&& (3 : Int32))), .val (.int (p3 &&& (3 : Int32))), .val (.int (((p3.toUInt32 >>> ((2 : Int32) &&& 31).toUInt32).toInt32) &&& (3 : Int32))), .unset, .unset, .unset, .unset, .unset] [(.ref b54)])) _
    refine XS.astore X55.here hx rfl (hb hby at_43) rfl rfl (l' := #[.val (.int p1), .val (.int p2), .val (.int p3), .val (.int (p1 &&& (3 : Int32))), .val (.int (p2 &&& (3 : Int32))), .val (.int (((p2.toUInt32 >>> ((2 : Int32) &&& 31).toUInt32).toInt32) &&& (3 : Int32))), .val (.int (((p2.toUInt32 >>> ((4 : Int32) &&& 31).toUInt32).toInt32) &&& (3 : Int32))), .val (.int (p3 &&& (3 : Int32))), .val (.int (((p3.toUInt32 >>> ((2 : Int32) &&& 31).toUInt32).toInt32) &&& (3 : Int32))), .val (.ref b54), .unset, .unset, .unset, .unset]) rfl ?_
    exact kz
  exact seg45 _ _ _ _ _ _ _ _ _ _ ob ub k1 k2 X55 rfl Nf55 O2 (own_and3 _) (own_and3 _) (own_and3 _) (own_and3 _) (own_and3 _) (own_and3 _) KA55
set_option maxRecDepth 65536 in
set_option maxHeartbeats 40000000 in
theorem comes_1 {Post : Tables → Env → Array Value → State → Outcome → State → Prop} (hpost : ∀ tb e args s v u, (limb_1_1.after args s (.returned v) u = true ∧ limb_1_2.after args s (.returned v) u = true ∧ True) → FrameEnd s (.returned v) u (Jvm.fieldLocs frame_1_writes args s ++ Jvm.arrayLocs frame_1_arrays args s ++ Jvm.staticLocs frame_1_statics s) 16 128 → Post tb e args s (.returned v) u) :
    ArmFor flags0 classFile x code maxLocals ret World_1 tables_1 room_1 Calls_1 rest_1 Pre_1 Post := by
  intro l hfl _ _ p e ha hc hk s m args below hf hA hF happ hP
  obtain ⟨hcalls, hrest, hpre⟩ := hP
  obtain ⟨-, -, -, hnamed, -, -, -, hat⟩ := (Spec.applies_iff hf).mp happ
  obtain ⟨hg, hn⟩ := and_e (Cond.before_iff.mp (show (Jvm.Cond.and given_1 narrow_1).before args s = true from hpre))
  obtain ⟨hcnt, gg0⟩ := and_e hg
  obtain ⟨ga0, gg1⟩ := and_e gg0
  obtain ⟨ga1, gg2⟩ := and_e gg1
  obtain ⟨w0, w1, w2, rfl⟩ : ∃ w0 w1 w2 : Value, args = #[w0, w1, w2] := by
    have hs : args.size = 3 := by simpa [Cond.value, given_1] using hcnt
    obtain ⟨L⟩ := args
    match L, hs with
    | [w0, w1, w2], _ => exact ⟨w0, w1, w2, rfl⟩
  have hw := fun d (hd : d ∈ tables_1) => atoms_spec (ws := Jvm.Cond.code x code maxLocals ret :: tables_1) hat d (List.mem_cons_of_mem _ hd)
  have hfit : Fit s := fun {y c} hc i hi => by
    obtain ⟨ha, rfl⟩ := Array.getElem?_eq_some_iff.mp hc
    have q := List.all_eq_true.mp ((Array.all_eq_true_iff_forall_mem.mp hF) _ (Array.getElem_mem ha)) i (List.mem_range.mpr hi)
    simpa [Array.getElem?_eq_getElem hi] using q
  obtain ⟨i0, ei0⟩ := is_v ga0
  obtain rfl : w0 = (.int i0) := Option.some.inj ei0
  obtain ⟨i1, ei1⟩ := is_v ga1
  obtain rfl : w1 = (.int i1) := Option.some.inj ei1
  obtain ⟨i2, ei2⟩ := is_v gg2
  obtain rfl : w2 = (.int i2) := Option.some.inj ei2
  obtain ⟨hsets, hown0⟩ := atoms_of _ (rest_1_c_eq ▸ (show rest_1_c.before _ s = true from hrest))
  obtain ⟨xe_bI, hn0⟩ := and_e hn
  obtain ⟨xe_bP, hn1⟩ := and_e hn0
  obtain ⟨xe_bS, hn2⟩ := and_e hn1
  obtain ⟨xf_bS, hn3⟩ := and_e hn2
  obtain ⟨xf_bI, hn4⟩ := and_e hn3
  have xf_bP := hn4
  obtain ⟨bI, ev_bI, E_bI⟩ := exa_static xe_bI
  have S_bI := Sta.start ev_bI (Or.inr ⟨(hw _ (List.mem_of_getElem? (i := 29) rfl)), (hw _ (List.mem_of_getElem? (i := 30) rfl))⟩)
  have F_bI := fld_static ev_bI xf_bI
  obtain ⟨bP, ev_bP, E_bP⟩ := exa_static xe_bP
  have S_bP := Sta.start ev_bP (Or.inr ⟨(hw _ (List.mem_of_getElem? (i := 29) rfl)), (hw _ (List.mem_of_getElem? (i := 32) rfl))⟩)
  have F_bP := fld_static ev_bP xf_bP
  obtain ⟨bS, ev_bS, E_bS⟩ := exa_static xe_bS
  have S_bS := Sta.start ev_bS (Or.inr ⟨(hw _ (List.mem_of_getElem? (i := 29) rfl)), (hw _ (List.mem_of_getElem? (i := 34) rfl))⟩)
  have F_bS := fld_static ev_bS xf_bS
  obtain ⟨bE, ev_bE, EE⟩ := exa_static (Cond.before_iff.mp (hsets _ (List.mem_of_getElem? (i := 2) rfl)))
  have SO := Sta.start ev_bE (Or.inl (hsets _ (List.mem_of_getElem? (i := 1) rfl)))
  have FE := fld_null ev_bE (Cond.before_iff.mp (hsets _ (List.mem_of_getElem? (i := 3) rfl)))
  obtain ⟨n, o, h1, h2, h3, _, L, rfl, ⟨rfl, N⟩, hq⟩ := rm0 l s _ hw tables_1 i0 i1 i2 bI bP bS bE s.heap s.heap.size (Nat.le_refl _) S_bI S_bP S_bS E_bI E_bP E_bS SO EE FE (Old.start s) (F_bI.ne F_bP (by decide)) (F_bI.ne F_bS (by decide)) (F_bP.ne F_bS (by decide)) p e ha hc hk s m _ below hf ((Spec.applies_iff_loose hf).mp happ).1 ⟨rfl, State.Warmed39.refl s, rfl⟩ trivial
  refine ⟨n, _, h1, h2, h3, hpost _ _ _ _ _ _ ⟨Cond.after_iff.mpr rfl, Cond.after_iff.mpr (eq_i res_at (Term.int_eval (1)) rfl), trivial⟩ ⟨hq.1, hq.2.1, (hq.2.2.sift fun y hy => Or.inr (N y hy)).mono (by decide) (by decide)⟩⟩
theorem main_1_1 : Claimed_1_1 := comes_1 fun _ _ _ _ _ _ h hF => ⟨h.1, hF⟩
theorem main_1_2 : Claimed_1_2 := comes_1 fun _ _ _ _ _ _ h hF => ⟨h.2.1, hF⟩
end Jvm.Pilot.@@N@@
namespace Jvm.Pilot.@@N@@
open Jvm Jvm.ClassFile Sem Op Lib Jvm.Free Jvm.Stand Jvm.Pilot.@@N@@.Jvm.D
/-! MADE BY PROGRAM (witnessworld.py) out of the Statement's table words and the real class files: 17 classes; the members and pool entries that the words name. The judged class is class 1, her method 4. -/
namespace start1
open Jvm.ClassFile
def u (s : String) : CpInfo := .utf8 (stringToUtf16 s)
/-- a pool by its gaps: so many unusable entries, then the entry; so many at the end -/
def gap : Nat → List CpInfo → List CpInfo
  | 0, r => r
  | n + 1, r => .unusable :: gap n r
def poolList (es : List (Nat × CpInfo)) (last : Nat) : List CpInfo := es.foldr (fun e r => gap e.1 (e.2 :: r)) (gap last [])
def pool (es : List (Nat × CpInfo)) (last : Nat) : Array CpInfo := ⟨poolList es last⟩
def fileOf (pool : Array CpInfo) (this : Nat) (attrs : Array Attribute := #[]) (ms : Array MethodInfo := #[]) (fl : Nat := 33) (sup : Nat := 0) (ifs : Array Nat := #[]) (fds : Array FieldInfo := #[]) : ClassFile where
  minorVersion := 0
  majorVersion := 65
  constantPool := pool
  accessFlags := fl
  thisClass := this
  superClass := sup
  interfaces := ifs
  fields := fds
  methods := ms
  attributes := attrs
def plain (name : String) (sup : Option ClassId) : Class where
  name := name
  kind := .ordinary
  loader := none
  accessFlags := 33
  super := sup
  interfaces := #[]
  cf := none
  fields := #[]
  methods := #[]
  instanceTypes := #[]
  staticTypes := #[]
  resolved := #[]
  callSites := []
  init := .initialized
  statics := none
  mirror := none

def pool0 : Array CpInfo := pool [(5, u "<init>"), (0, u "()V"), (1, .class_ 10), (1, u "java/lang/Object")] 113

def k0c0 : Code := { maxStack := 0, maxLocals := 1, code := object_method_1_code, exceptionTable := #[], attributes := #[] }
def k0m0 : Method := { name := "<init>", desc := "()V", sig := { parameters := [], returnType := none }, accessFlags := 1, code := some k0c0 }
/-- java/lang/Object -/
def k0 : Class := { plain "java/lang/Object" none with
  accessFlags := 33
  interfaces := #[]
  cf := some (fileOf pool0 8 #[] #[{ accessFlags := 1, nameIndex := 5, descriptorIndex := 6, attributes := #[] }] 33 0 #[] #[])
  fields := #[]
  methods := #[k0m0]
  instanceTypes := #[]
  staticTypes := #[]
  resolved := Array.replicate 124 none
  statics := none }

def pool1 : Array CpInfo := pool [(2, .class_ 4), (1, u "java/lang/Object"), (0, u "<init>"), (0, u "()V"), (0, .fieldref 8 9), (0, .class_ 10), (0, .nameAndType 11 12), (0, u "com/example/upkeep_window/upkeepwindow/policy/InstallOption"), (0, u "INSTALL_AUTOMATIC"), (0, u "Lcom/example/upkeep_window/upkeepwindow/policy/InstallOption;"), (0, .fieldref 8 14), (0, .nameAndType 15 12), (0, u "POSTPONE"), (0, .fieldref 8 17), (0, .nameAndType 18 12), (0, u "PAUSE"), (0, .methodref 20 21), (0, .class_ 22), (0, .nameAndType 23 24), (0, u "com/example/upkeep_window/upkeepwindow/bench/KeptAnswersCountPinLaw"), (0, u "hit"), (0, u "(IIII)I"), (0, .class_ 26), (0, u "com/example/upkeep_window/upkeepwindow/bench/KeptAnswers"), (0, .methodref 25 28), (0, .nameAndType 5 29), (0, u "(I)V"), (0, .methodref 20 31), (0, .nameAndType 32 33), (0, u "pick"), (0, u "(I)Lcom/example/upkeep_window/upkeepwindow/policy/InstallOption;"), (0, .methodref 35 36), (0, .class_ 37), (0, .nameAndType 38 39), (0, u "java/util/Optional"), (0, u "empty"), (0, u "()Ljava/util/Optional;"), (0, .methodref 25 41), (0, .nameAndType 42 43), (0, u "keep"), (0, u "(ILcom/example/upkeep_window/upkeepwindow/policy/InstallOption;Ljava/util/Optional;)V"), (0, .methodref 25 45), (0, .nameAndType 46 47), (0, u "count"), (0, u "(Lcom/example/upkeep_window/upkeepwindow/policy/InstallOption;)I"), (0, .methodref 20 49), (0, .nameAndType 50 51), (0, u "expected"), (0, u "(IIIII)I"), (3, u "law"), (0, u "(III)Z")] 5

def k1m0 : Method := { name := "<init>", desc := "()V", sig := { parameters := [], returnType := none }, accessFlags := 2, code := none }
def k1c1 : Code := { maxStack := 2, maxLocals := 1, code := method_2_code, exceptionTable := #[], attributes := #[] }
def k1m1 : Method := { name := "pick", desc := "(I)Lcom/example/upkeep_window/upkeepwindow/policy/InstallOption;", sig := { parameters := [.int], returnType := some (.object "com/example/upkeep_window/upkeepwindow/policy/InstallOption") }, accessFlags := 10, code := some k1c1 }
def k1c2 : Code := { maxStack := 2, maxLocals := 4, code := method_3_code, exceptionTable := #[], attributes := #[] }
def k1m2 : Method := { name := "hit", desc := "(IIII)I", sig := { parameters := [.int, .int, .int, .int], returnType := some .int }, accessFlags := 10, code := some k1c2 }
def k1c3 : Code := { maxStack := 5, maxLocals := 5, code := method_4_code, exceptionTable := #[], attributes := #[] }
def k1m3 : Method := { name := "expected", desc := "(IIIII)I", sig := { parameters := [.int, .int, .int, .int, .int], returnType := some .int }, accessFlags := 10, code := some k1c3 }
def k1c4 : Code := { maxStack := 6, maxLocals := 14, code := code, exceptionTable := #[], attributes := #[] }
def k1m4 : Method := { name := "law", desc := "(III)Z", sig := { parameters := [.int, .int, .int], returnType := some .boolean }, accessFlags := 9, code := some k1c4 }
/-- com/example/upkeep_window/upkeepwindow/bench/KeptAnswersCountPinLaw -/
def k1 : Class := { plain "com/example/upkeep_window/upkeepwindow/bench/KeptAnswersCountPinLaw" (some 0) with
  accessFlags := 49
  interfaces := #[]
  cf := some (fileOf pool1 20 #[] #[{ accessFlags := 2, nameIndex := 5, descriptorIndex := 6, attributes := #[] }, { accessFlags := 10, nameIndex := 32, descriptorIndex := 33, attributes := #[] }, { accessFlags := 10, nameIndex := 23, descriptorIndex := 24, attributes := #[] }, { accessFlags := 10, nameIndex := 50, descriptorIndex := 51, attributes := #[] }, { accessFlags := 9, nameIndex := 55, descriptorIndex := 56, attributes := #[] }] 49 2 #[] #[])
  fields := #[]
  methods := #[k1m0, k1m1, k1m2, k1m3, k1m4]
  instanceTypes := #[]
  staticTypes := #[]
  resolved := Array.replicate 62 none
  statics := none }

def pool2 : Array CpInfo := pool [(3, .methodref 4 5), (0, .class_ 6), (0, .nameAndType 7 8), (0, u "java/lang/Object"), (0, u "<init>"), (0, u "()V"), (0, .class_ 10), (0, u "com/example/upkeep_window/upkeepwindow/policy/InstallOption"), (0, .fieldref 12 13), (0, .class_ 14), (0, .nameAndType 15 16), (0, u "com/example/upkeep_window/upkeepwindow/bench/KeptAnswers"), (0, u "options"), (0, u "[Lcom/example/upkeep_window/upkeepwindow/policy/InstallOption;"), (0, .fieldref 12 18), (0, .nameAndType 19 20), (0, u "untils"), (0, u "[J"), (0, .long 9223372036854775807), (1, .methodref 24 25), (0, .class_ 26), (0, .nameAndType 27 28), (0, u "java/util/Optional"), (0, u "isPresent"), (0, u "()Z"), (17, u "NEVER"), (0, u "J"), (1, u "(I)V"), (2, u "keep"), (0, u "(ILcom/example/upkeep_window/upkeepwindow/policy/InstallOption;Ljava/util/Optional;)V"), (4, u "count"), (0, u "(Lcom/example/upkeep_window/upkeepwindow/policy/InstallOption;)I")] 3

def k2c0 : Code := { maxStack := 2, maxLocals := 2, code := prog_3_method_1_code, exceptionTable := #[], attributes := #[] }
def k2m0 : Method := { name := "<init>", desc := "(I)V", sig := { parameters := [.int], returnType := none }, accessFlags := 0, code := some k2c0 }
def k2c1 : Code := { maxStack := 4, maxLocals := 7, code := prog_3_method_2_code, exceptionTable := #[{ startPc := 12, endPc := 24, handlerPc := 27, catchType := 39 }], attributes := #[] }
def k2m1 : Method := { name := "keep", desc := "(ILcom/example/upkeep_window/upkeepwindow/policy/InstallOption;Ljava/util/Optional;)V", sig := { parameters := [.int, (.object "com/example/upkeep_window/upkeepwindow/policy/InstallOption"), (.object "java/util/Optional")], returnType := none }, accessFlags := 0, code := some k2c1 }
def k2c2 : Code := { maxStack := 2, maxLocals := 7, code := prog_3_method_3_code, exceptionTable := #[], attributes := #[] }
def k2m2 : Method := { name := "count", desc := "(Lcom/example/upkeep_window/upkeepwindow/policy/InstallOption;)I", sig := { parameters := [(.object "com/example/upkeep_window/upkeepwindow/policy/InstallOption")], returnType := some .int }, accessFlags := 0, code := some k2c2 }
/-- com/example/upkeep_window/upkeepwindow/bench/KeptAnswers -/
def k2 : Class := { plain "com/example/upkeep_window/upkeepwindow/bench/KeptAnswers" (some 0) with
  accessFlags := 48
  interfaces := #[]
  cf := some (fileOf pool2 12 #[] #[{ accessFlags := 0, nameIndex := 7, descriptorIndex := 49, attributes := #[] }, { accessFlags := 0, nameIndex := 52, descriptorIndex := 53, attributes := #[] }, { accessFlags := 0, nameIndex := 58, descriptorIndex := 59, attributes := #[] }] 48 4 #[] #[{ accessFlags := 26, nameIndex := 46, descriptorIndex := 47, attributes := #[] }, { accessFlags := 18, nameIndex := 15, descriptorIndex := 16, attributes := #[] }, { accessFlags := 18, nameIndex := 19, descriptorIndex := 20, attributes := #[] }])
  fields := #[{ name := "NEVER", type := .long, accessFlags := 26, slot := 0, constantValue := 0 }, { name := "options", type := (.array (.object "com/example/upkeep_window/upkeepwindow/policy/InstallOption")), accessFlags := 18, slot := 0, constantValue := 0 }, { name := "untils", type := (.array .long), accessFlags := 18, slot := 1, constantValue := 0 }]
  methods := #[k2m0, k2m1, k2m2]
  instanceTypes := #[(.array (.object "com/example/upkeep_window/upkeepwindow/policy/InstallOption")), (.array .long)]
  staticTypes := #[.long]
  resolved := Array.replicate 63 none
  statics := none }

def pool3 : Array CpInfo := pool [(1, .class_ 2), (0, u "java/lang/constant/Constable"), (0, .class_ 4), (0, u "java/lang/Object")] 6

/-- java/lang/constant/Constable -/
def k3 : Class := { plain "java/lang/constant/Constable" (some 0) with
  accessFlags := 1537
  interfaces := #[]
  cf := some (fileOf pool3 1 #[] #[] 1537 3 #[] #[])
  fields := #[]
  methods := #[]
  instanceTypes := #[]
  staticTypes := #[]
  resolved := Array.replicate 11 none
  statics := none }

def pool4 : Array CpInfo := pool [(1, .class_ 2), (0, u "java/lang/Comparable"), (0, .class_ 4), (0, u "java/lang/Object")] 7

/-- java/lang/Comparable -/
def k4 : Class := { plain "java/lang/Comparable" (some 0) with
  accessFlags := 1537
  interfaces := #[]
  cf := some (fileOf pool4 1 #[] #[] 1537 3 #[] #[])
  fields := #[]
  methods := #[]
  instanceTypes := #[]
  staticTypes := #[]
  resolved := Array.replicate 12 none
  statics := none }

def pool5 : Array CpInfo := pool [(1, .class_ 2), (0, u "java/io/Serializable"), (0, .class_ 4), (0, u "java/lang/Object")] 2

/-- java/io/Serializable -/
def k5 : Class := { plain "java/io/Serializable" (some 0) with
  accessFlags := 1537
  interfaces := #[]
  cf := some (fileOf pool5 1 #[] #[] 1537 3 #[] #[])
  fields := #[]
  methods := #[]
  instanceTypes := #[]
  staticTypes := #[]
  resolved := Array.replicate 7 none
  statics := none }

def pool6 : Array CpInfo := pool [(2, .class_ 4), (1, u "java/lang/Enum"), (0, u "name"), (0, u "Ljava/lang/String;"), (2, u "ordinal"), (0, u "I"), (1, .class_ 14), (1, u "java/lang/Object"), (4, u "hash"), (86, .class_ 108), (1, u "java/lang/Enum$EnumDesc"), (2, .class_ 112), (0, u "java/lang/constant/Constable"), (0, .class_ 114), (0, u "java/lang/Comparable"), (0, .class_ 116), (0, u "java/io/Serializable")] 87

/-- java/lang/Enum -/
def k6 : Class := { plain "java/lang/Enum" (some 0) with
  accessFlags := 1057
  interfaces := #[3, 4, 5]
  cf := some (fileOf pool6 2 #[.nestMembers #[106]] #[] 1057 12 #[111, 113, 115] #[{ accessFlags := 18, nameIndex := 5, descriptorIndex := 6, attributes := #[] }, { accessFlags := 18, nameIndex := 9, descriptorIndex := 10, attributes := #[] }, { accessFlags := 2, nameIndex := 19, descriptorIndex := 10, attributes := #[] }])
  fields := #[{ name := "name", type := (.object "java/lang/String"), accessFlags := 18, slot := 0, constantValue := 0 }, { name := "ordinal", type := .int, accessFlags := 18, slot := 1, constantValue := 0 }, { name := "hash", type := .int, accessFlags := 2, slot := 2, constantValue := 0 }]
  methods := #[]
  instanceTypes := #[(.object "java/lang/String"), .int, .int]
  staticTypes := #[]
  resolved := Array.replicate 204 none
  statics := none }

def pool7 : Array CpInfo := pool [(1, .class_ 2), (0, u "com/example/upkeep_window/upkeepwindow/policy/InstallOption"), (2, u "INSTALL_AUTOMATIC"), (0, u "Lcom/example/upkeep_window/upkeepwindow/policy/InstallOption;"), (2, u "POSTPONE"), (2, u "PAUSE"), (2, u "$VALUES"), (0, u "[Lcom/example/upkeep_window/upkeepwindow/policy/InstallOption;"), (6, .class_ 25), (1, u "java/lang/Enum"), (8, u "label"), (0, u "Ljava/lang/String;")] 29

/-- com/example/upkeep_window/upkeepwindow/policy/InstallOption -/
def k7 : Class := { plain "com/example/upkeep_window/upkeepwindow/policy/InstallOption" (some 6) with
  accessFlags := 16433
  interfaces := #[]
  cf := some (fileOf pool7 1 #[] #[] 16433 23 #[] #[{ accessFlags := 16409, nameIndex := 5, descriptorIndex := 6, attributes := #[] }, { accessFlags := 16409, nameIndex := 9, descriptorIndex := 6, attributes := #[] }, { accessFlags := 16409, nameIndex := 12, descriptorIndex := 6, attributes := #[] }, { accessFlags := 18, nameIndex := 34, descriptorIndex := 35, attributes := #[] }, { accessFlags := 4122, nameIndex := 15, descriptorIndex := 16, attributes := #[] }])
  fields := #[{ name := "INSTALL_AUTOMATIC", type := (.object "com/example/upkeep_window/upkeepwindow/policy/InstallOption"), accessFlags := 16409, slot := 0, constantValue := 0 }, { name := "POSTPONE", type := (.object "com/example/upkeep_window/upkeepwindow/policy/InstallOption"), accessFlags := 16409, slot := 1, constantValue := 0 }, { name := "PAUSE", type := (.object "com/example/upkeep_window/upkeepwindow/policy/InstallOption"), accessFlags := 16409, slot := 2, constantValue := 0 }, { name := "label", type := (.object "java/lang/String"), accessFlags := 18, slot := 3, constantValue := 0 }, { name := "$VALUES", type := (.array (.object "com/example/upkeep_window/upkeepwindow/policy/InstallOption")), accessFlags := 4122, slot := 3, constantValue := 0 }]
  methods := #[]
  instanceTypes := #[(.object "java/lang/String"), .int, .int, (.object "java/lang/String")]
  staticTypes := #[(.object "com/example/upkeep_window/upkeepwindow/policy/InstallOption"), (.object "com/example/upkeep_window/upkeepwindow/policy/InstallOption"), (.object "com/example/upkeep_window/upkeepwindow/policy/InstallOption"), (.array (.object "com/example/upkeep_window/upkeepwindow/policy/InstallOption"))]
  resolved := Array.replicate 65 none
  statics := some 0 }

def pool8 : Array CpInfo := pool [(1, .fieldref 2 3), (0, .class_ 4), (0, .nameAndType 5 6), (0, u "java/util/Optional"), (0, u "EMPTY"), (0, u "Ljava/util/Optional;"), (1, .class_ 10), (1, u "java/lang/Object"), (2, .fieldref 2 14), (0, .nameAndType 15 16), (0, u "value"), (0, u "Ljava/lang/Object;"), (29, u "()Z"), (8, u "empty"), (0, u "()Ljava/util/Optional;"), (11, u "isPresent")] 118

def k8c0 : Code := { maxStack := 1, maxLocals := 1, code := jdk_32_method_1_code, exceptionTable := #[], attributes := #[] }
def k8m0 : Method := { name := "empty", desc := "()Ljava/util/Optional;", sig := { parameters := [], returnType := some (.object "java/util/Optional") }, accessFlags := 9, code := some k8c0 }
def k8c1 : Code := { maxStack := 1, maxLocals := 1, code := jdk_32_method_6_code, exceptionTable := #[], attributes := #[] }
def k8m1 : Method := { name := "isPresent", desc := "()Z", sig := { parameters := [], returnType := some .boolean }, accessFlags := 1, code := some k8c1 }
/-- java/util/Optional -/
def k8 : Class := { plain "java/util/Optional" (some 0) with
  accessFlags := 49
  interfaces := #[]
  cf := some (fileOf pool8 2 #[] #[{ accessFlags := 9, nameIndex := 55, descriptorIndex := 56, attributes := #[] }, { accessFlags := 1, nameIndex := 68, descriptorIndex := 46, attributes := #[] }] 49 8 #[] #[{ accessFlags := 26, nameIndex := 5, descriptorIndex := 6, attributes := #[] }, { accessFlags := 18, nameIndex := 15, descriptorIndex := 16, attributes := #[] }])
  fields := #[{ name := "EMPTY", type := (.object "java/util/Optional"), accessFlags := 26, slot := 0, constantValue := 0 }, { name := "value", type := (.object "java/lang/Object"), accessFlags := 18, slot := 0, constantValue := 0 }]
  methods := #[k8m0, k8m1]
  instanceTypes := #[(.object "java/lang/Object")]
  staticTypes := #[(.object "java/util/Optional")]
  resolved := Array.replicate 187 none
  statics := some 1 }

def pool9 : Array CpInfo := pool [(1, u "java/lang/Cloneable"), (0, .class_ 1), (0, u "java/lang/Object"), (0, .class_ 3)] 3

/-- java/lang/Cloneable -/
def k9 : Class := { plain "java/lang/Cloneable" (some 0) with
  accessFlags := 1537
  interfaces := #[]
  cf := some (fileOf pool9 2 #[] #[] 1537 4 #[] #[])
  fields := #[]
  methods := #[]
  instanceTypes := #[]
  staticTypes := #[]
  resolved := Array.replicate 8 none
  statics := none }

/-- the primitive byte -/
def k10 : Class := { plain "byte" none with kind := .primitive 'B', accessFlags := 0x411 }
/-- [B -/
def k11 : Class := { plain "[B" (some 0) with kind := .array 10 .byte, interfaces := #[9, 5], accessFlags := 1041 }

/-- the primitive int -/
def k12 : Class := { plain "int" none with kind := .primitive 'I', accessFlags := 0x411 }
/-- [I -/
def k13 : Class := { plain "[I" (some 0) with kind := .array 12 .int, interfaces := #[9, 5], accessFlags := 1041 }

/-- the primitive long -/
def k14 : Class := { plain "long" none with kind := .primitive 'J', accessFlags := 0x411 }
/-- [J -/
def k15 : Class := { plain "[J" (some 0) with kind := .array 14 .long, interfaces := #[9, 5], accessFlags := 1041 }

/-- [Lcom/example/upkeep_window/upkeepwindow/policy/InstallOption; -/
def k16 : Class := { plain "[Lcom/example/upkeep_window/upkeepwindow/policy/InstallOption;" (some 0) with kind := .array 7 (.object "com/example/upkeep_window/upkeepwindow/policy/InstallOption"), interfaces := #[9, 5], accessFlags := 1041 }

def heap : Heap := #[{ cls := 7, slots := #[.ref 2, .ref 3, .ref 4, .null], vm := .statics 7 },
  { cls := 8, slots := #[.ref 5], vm := .statics 8 },
  { cls := 7, slots := #[.null, .int 0, .int 0, .null], vm := .none },
  { cls := 7, slots := #[.null, .int 1, .int 0, .null], vm := .none },
  { cls := 7, slots := #[.null, .int 2, .int 0, .null], vm := .none },
  { cls := 8, slots := #[.null], vm := .none }]
def classes : Array Class := #[k0, k1, k2, k3, k4, k5, k6, k7, k8, k9, k10, k11, k12, k13, k14, k15, k16]
def interned : List (Array UInt16 × Addr) := []
def slotsUsed : Nat := 18
def theMethod : MethodId := ⟨1, 4⟩
def args0 : Array Value := #[.int 3, .int 6, .int 7]
def aboutOver (below : List Frame) : State where
  vm := { classes := classes, interned := interned.toArray }
  heap := heap
  slotsUsed := slotsUsed
  threads := #[{ frames := .invoking theMethod args0 :: below }]
def below0 : List Frame := [.native { method := ⟨0, 0⟩, args := #[] }]
def about1 : State := aboutOver below0
def p0 : Program := .bare "" "" ""
def e0 : Env := launch0.env 0 0 0
theorem w_frames : about1.frames = Frame.invoking theMethod args0 :: below0 := rfl
set_option maxRecDepth 65536 in
theorem w_args : argsFit about1.vm theMethod args0 = true := by decide +kernel
set_option maxRecDepth 65536 in
theorem w_heap : heapFits about1 = true := by decide +kernel
set_option maxRecDepth 65536 in
theorem w_runnable : about1.curStatus? = some .runnable := by decide +kernel
set_option maxRecDepth 65536 in
theorem w_alone : about1.alone = true := by decide +kernel
set_option maxRecDepth 65536 in
theorem w_named : about1.methodNamed? x = some theMethod := by decide +kernel
set_option maxRecDepth 65536 in
theorem w_hears : about1.hears theMethod below0 = true := by decide +kernel
set_option maxRecDepth 65536 in
theorem w_ripe : about1.ripe theMethod args0 below0 = true := by decide +kernel
theorem w_running : about1.status = .running := rfl
set_option maxRecDepth 65536 in
theorem w_room : about1.hasRoom e0.platform room_1 = true :=
  launch0.hasRoom_least _ room_1 (by decide +kernel) (by decide +kernel) (by decide +kernel) (by decide +kernel) (by decide +kernel) (by decide +kernel)
theorem allAtoms_all (ts : List Jvm.Cond) (a : Array Jvm.Value) (st : Jvm.State) : (allAtoms ts).before a st = ts.all (fun c => c.before a st) := by
  induction ts with
  | nil => rfl
  | cons c t ih =>
    show (Jvm.Cond.and c (allAtoms t)).before a st = _
    rw [Jvm.Cond.before_and, ih, List.all_cons]
def words1 : List Jvm.Cond := Jvm.Cond.code x code maxLocals ret :: tables_1
/-- a 'code' word, met by the world's own term for the bytes: nothing is compared byte by byte -/
theorem code_word {y : MethodName} {bytes : ByteArray} {mx : Nat} {rt : Option FieldType} {a : Array Value} {s : State} {m : MethodId} {meth : Method} {c : Code} (h1 : s.methodNamed? y = some m) (h2 : s.vm.method? m = some meth) (h3 : meth.code = some c) (h4 : c.code = bytes)
    (h5 : (c.maxLocals == mx && c.exceptionTable.isEmpty && decide (c.maxStack ≤ mostOperands) && decide (meth.sig.returnType = rt) && !meth.locks && decide (parseMethodDescriptor y.desc = some meth.sig)) = true) : (Jvm.Cond.code y bytes mx rt).before a s = true := by
  simp only [Bool.and_eq_true, beq_iff_eq, Bool.not_eq_true', decide_eq_true_eq] at h5
  obtain ⟨⟨⟨⟨⟨g1, g2⟩, g3⟩, g4⟩, g5⟩, g6⟩ := h5
  simp [Cond.before, Cond.holds, Cond.value, h1, h2, h3, h4, g1, g2, g3, g4, g5, g6]
def isCode : Jvm.Cond → Bool
  | .code _ _ _ _ => true
  | _ => false
theorem all_split {L : List Jvm.Cond} {P : Jvm.Cond → Bool} (h1 : L.all (fun c => isCode c || P c) = true) (h2 : ∀ c ∈ L.filter isCode, P c = true) : L.all P = true := by
  refine List.all_eq_true.mpr fun c hc => ?_
  have h := List.all_eq_true.mp h1 c hc
  rcases Bool.eq_false_or_eq_true (isCode c) with hi | hi
  · exact h2 c (List.mem_filter.mpr ⟨hc, hi⟩)
  · simpa [hi] using h
set_option maxRecDepth 65536 in
theorem w_c0 : (Jvm.Cond.code x code maxLocals ret).before args0 about1 = true := code_word (m := ⟨1, 4⟩) (meth := k1m4) (c := k1c4) (by decide +kernel) rfl rfl rfl (by decide +kernel)
set_option maxRecDepth 65536 in
theorem w_c1 : (Jvm.Cond.code ({ cls := "com/example/upkeep_window/upkeepwindow/bench/KeptAnswers", name := "<init>", desc := "(I)V" } : Jvm.MethodName) prog_3_method_1_code (2 : Nat) (Option.none : Option Jvm.ClassFile.FieldType)).before args0 about1 = true := code_word (m := ⟨2, 0⟩) (meth := k2m0) (c := k2c0) (by decide +kernel) rfl rfl rfl (by decide +kernel)
set_option maxRecDepth 65536 in
theorem w_c2 : (Jvm.Cond.code ({ cls := "java/lang/Object", name := "<init>", desc := "()V" } : Jvm.MethodName) object_method_1_code (1 : Nat) (Option.none : Option Jvm.ClassFile.FieldType)).before args0 about1 = true := code_word (m := ⟨0, 0⟩) (meth := k0m0) (c := k0c0) (by decide +kernel) rfl rfl rfl (by decide +kernel)
set_option maxRecDepth 65536 in
theorem w_c3 : (Jvm.Cond.code ({ cls := "com/example/upkeep_window/upkeepwindow/bench/KeptAnswers", name := "count", desc := "(Lcom/example/upkeep_window/upkeepwindow/policy/InstallOption;)I" } : Jvm.MethodName) prog_3_method_3_code (7 : Nat) (Option.some Jvm.ClassFile.FieldType.int)).before args0 about1 = true := code_word (m := ⟨2, 2⟩) (meth := k2m2) (c := k2c2) (by decide +kernel) rfl rfl rfl (by decide +kernel)
set_option maxRecDepth 65536 in
theorem w_c4 : (Jvm.Cond.code ({ cls := "com/example/upkeep_window/upkeepwindow/bench/KeptAnswersCountPinLaw", name := "expected", desc := "(IIIII)I" } : Jvm.MethodName) method_4_code (5 : Nat) (Option.some Jvm.ClassFile.FieldType.int)).before args0 about1 = true := code_word (m := ⟨1, 3⟩) (meth := k1m3) (c := k1c3) (by decide +kernel) rfl rfl rfl (by decide +kernel)
set_option maxRecDepth 65536 in
theorem w_c5 : (Jvm.Cond.code ({ cls := "com/example/upkeep_window/upkeepwindow/bench/KeptAnswersCountPinLaw", name := "hit", desc := "(IIII)I" } : Jvm.MethodName) method_3_code (4 : Nat) (Option.some Jvm.ClassFile.FieldType.int)).before args0 about1 = true := code_word (m := ⟨1, 2⟩) (meth := k1m2) (c := k1c2) (by decide +kernel) rfl rfl rfl (by decide +kernel)
set_option maxRecDepth 65536 in
theorem w_c6 : (Jvm.Cond.code ({ cls := "com/example/upkeep_window/upkeepwindow/bench/KeptAnswersCountPinLaw", name := "pick", desc := "(I)Lcom/example/upkeep_window/upkeepwindow/policy/InstallOption;" } : Jvm.MethodName) method_2_code (1 : Nat) (Option.some (Jvm.ClassFile.FieldType.object "com/example/upkeep_window/upkeepwindow/policy/InstallOption"))).before args0 about1 = true := code_word (m := ⟨1, 1⟩) (meth := k1m1) (c := k1c1) (by decide +kernel) rfl rfl rfl (by decide +kernel)
set_option maxRecDepth 65536 in
theorem w_c7 : (Jvm.Cond.code ({ cls := "java/util/Optional", name := "empty", desc := "()Ljava/util/Optional;" } : Jvm.MethodName) jdk_32_method_1_code (1 : Nat) (Option.some (Jvm.ClassFile.FieldType.object "java/util/Optional"))).before args0 about1 = true := code_word (m := ⟨8, 0⟩) (meth := k8m0) (c := k8c0) (by decide +kernel) rfl rfl rfl (by decide +kernel)
set_option maxRecDepth 65536 in
theorem w_c8 : (Jvm.Cond.code ({ cls := "java/util/Optional", name := "isPresent", desc := "()Z" } : Jvm.MethodName) jdk_32_method_6_code (1 : Nat) (Option.some Jvm.ClassFile.FieldType.boolean)).before args0 about1 = true := code_word (m := ⟨8, 1⟩) (meth := k8m1) (c := k8c1) (by decide +kernel) rfl rfl rfl (by decide +kernel)
def codes1 : List Jvm.Cond := [Jvm.Cond.code x code maxLocals ret, Jvm.Cond.code ({ cls := "com/example/upkeep_window/upkeepwindow/bench/KeptAnswers", name := "<init>", desc := "(I)V" } : Jvm.MethodName) prog_3_method_1_code (2 : Nat) (Option.none : Option Jvm.ClassFile.FieldType), Jvm.Cond.code ({ cls := "java/lang/Object", name := "<init>", desc := "()V" } : Jvm.MethodName) object_method_1_code (1 : Nat) (Option.none : Option Jvm.ClassFile.FieldType), Jvm.Cond.code ({ cls := "com/example/upkeep_window/upkeepwindow/bench/KeptAnswers", name := "count", desc := "(Lcom/example/upkeep_window/upkeepwindow/policy/InstallOption;)I" } : Jvm.MethodName) prog_3_method_3_code (7 : Nat) (Option.some Jvm.ClassFile.FieldType.int), Jvm.Cond.code ({ cls := "com/example/upkeep_window/upkeepwindow/bench/KeptAnswersCountPinLaw", name := "expected", desc := "(IIIII)I" } : Jvm.MethodName) method_4_code (5 : Nat) (Option.some Jvm.ClassFile.FieldType.int), Jvm.Cond.code ({ cls := "com/example/upkeep_window/upkeepwindow/bench/KeptAnswersCountPinLaw", name := "hit", desc := "(IIII)I" } : Jvm.MethodName) method_3_code (4 : Nat) (Option.some Jvm.ClassFile.FieldType.int), Jvm.Cond.code ({ cls := "com/example/upkeep_window/upkeepwindow/bench/KeptAnswersCountPinLaw", name := "pick", desc := "(I)Lcom/example/upkeep_window/upkeepwindow/policy/InstallOption;" } : Jvm.MethodName) method_2_code (1 : Nat) (Option.some (Jvm.ClassFile.FieldType.object "com/example/upkeep_window/upkeepwindow/policy/InstallOption")), Jvm.Cond.code ({ cls := "java/util/Optional", name := "empty", desc := "()Ljava/util/Optional;" } : Jvm.MethodName) jdk_32_method_1_code (1 : Nat) (Option.some (Jvm.ClassFile.FieldType.object "java/util/Optional")), Jvm.Cond.code ({ cls := "java/util/Optional", name := "isPresent", desc := "()Z" } : Jvm.MethodName) jdk_32_method_6_code (1 : Nat) (Option.some Jvm.ClassFile.FieldType.boolean)]
set_option maxRecDepth 65536 in
theorem codes_eq : words1.filter isCode = codes1 := rfl
theorem w_codes : ∀ c ∈ words1.filter isCode, c.before args0 about1 = true := by
  rw [codes_eq]
  intro c hc
  simp only [codes1, List.mem_cons, List.not_mem_nil, or_false] at hc
  rcases hc with rfl | rfl | rfl | rfl | rfl | rfl | rfl | rfl | rfl
  · exact w_c0
  · exact w_c1
  · exact w_c2
  · exact w_c3
  · exact w_c4
  · exact w_c5
  · exact w_c6
  · exact w_c7
  · exact w_c8
set_option maxRecDepth 65536 in
theorem w_t1 : (words1.take 24).all (fun c => isCode c || c.before args0 about1) = true := by decide +kernel
set_option maxRecDepth 65536 in
theorem w_t2 : ((words1.drop 24).take 24).all (fun c => isCode c || c.before args0 about1) = true := by decide +kernel
set_option maxRecDepth 65536 in
theorem w_t3 : ((words1.drop 24).drop 24).all (fun c => isCode c || c.before args0 about1) = true := by decide +kernel
theorem w_tables : (allAtoms (Jvm.Cond.code x code maxLocals ret :: tables_1)).before args0 about1 = true := by
  rw [allAtoms_all]
  show words1.all (fun c => c.before args0 about1) = true
  refine all_split ?_ w_codes
  rw [← List.take_append_drop 24 words1, List.all_append, w_t1, ← List.take_append_drop 24 (words1.drop 24), List.all_append, w_t2, w_t3]
  rfl
set_option maxRecDepth 65536 in
theorem w_rest : rest_1_c.before args0 about1 = true := by decide +kernel
set_option maxRecDepth 65536 in
theorem w_case : (Jvm.Cond.and given_1 narrow_1).before args0 about1 = true := by decide +kernel
theorem w_applies : (headSpec (Jvm.Cond.code x code maxLocals ret :: tables_1) room_1).applies x e0.platform about1 = true :=
  (Spec.applies_iff w_frames).mpr ⟨w_running, w_runnable, w_alone, w_named, w_hears, w_ripe, w_room, w_tables⟩
theorem atStart : AtStart classFile x code maxLocals ret World_1 tables_1 room_1 Calls_1 rest_1 Pre_1 launch0 p0 e0 about1 theMethod args0 below0 :=
  ⟨lists_1, trivial, launch0.admits_env _ _ _, launch0.least_env, fairChoices_fair.cas, fairChoices_fair.clock, w_frames, w_args, w_heap, w_applies, trivial, w_rest, w_case⟩
end start1
theorem witness_1 : WitnessClaimed_1 := ⟨start1.p0, start1.e0, start1.about1, start1.theMethod, start1.args0, start1.below0, start1.atStart⟩
end Jvm.Pilot.@@N@@
