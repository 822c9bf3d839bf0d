import JvmDerived
import JvmDerived.Pilot.@@N@@Statement
import JvmDerived.Pilot.@@N@@Code
set_option linter.unusedVariables false
set_option linter.unusedSimpArgs false
namespace Jvm.Pilot.@@N@@
open Jvm Jvm.ClassFile Sem Op Lib Jvm.Free Jvm.Stand Jvm.LawKit Jvm.RoadKit Bundle Jvm.Pilot.@@N@@.Jvm.D
abbrev own_Gd (tb : Tables) (e : Env) (below : List Frame) (P : State → Outcome → Prop) (A : State) : Prop := ∃ U o, Steps tb e below A U ∧ U.status = .running ∧ Ended U below o ∧ P U o
theorem own_go {tb : Tables} {e : Env} {below : List Frame} {P : State → Outcome → Prop} {A B : State} (st : ∀ t, Steps tb e below B t → Steps tb e below A t) (h : own_Gd tb e below P B) : own_Gd tb e below P A := by
  obtain ⟨U, o, h1, h2⟩ := h
  exact ⟨U, o, st _ h1, h2⟩
theorem own_done {tb : Tables} {e : Env} {below : List Frame} {P : State → Outcome → Prop} {A U : State} {o : Outcome} (st : Steps tb e below A U) (h1 : U.status = .running) (h2 : Ended U below o) (h3 : P U o) : own_Gd tb e below P A := ⟨U, o, st, h1, h2, h3⟩
abbrev own_P (Q : Option Value → Heap → List Loc → Prop) (s : State) (cells slots : Nat) : State → Outcome → Prop := fun U' o => ∃ v L, o = .returned v ∧ Q v U'.heap L ∧ FrameEnd s o U' L cells slots
abbrev own_PW (Q : Option Value → Heap → List Loc → Prop) (s : State) (cells slots : Nat) : State → Outcome → Prop := fun U' o => ∃ v L, o = .returned v ∧ Q v U'.heap L ∧ ReturnedEndW s o U' L cells slots
theorem own_len {args : Array Value} {Z : State} {t : Term} {a : Addr} {c : Cell} {n : Int32} (ev : t.eval args Z none [] Z = some (.ref a)) (ha : Z.arrayAt? a = some c) (h : (Term.length t).eval args Z none [] Z = some (.int n)) : c.slots.size < 2 ^ 31 ∧ c.slots.size.toInt32 = n := by
  by_cases q : c.slots.size < 2 ^ 31
  · rw [len_f ev ha q] at h
    cases h
    exact ⟨q, rfl⟩
  · exfalso
    simp [Term.eval, ev, ha] at h
    omega
theorem own_ord {args : Array Value} {Z : State} {t : Term} {C n d : String} {a : Addr} {k : Int32} (ht : t.eval args Z none [] Z = some (.ref a)) (h : (Jvm.Cond.eq (Term.field t C n d) (Term.int k)).value args Z none Z [] = some true) : Fld Z Z.heap a C n d (.int k) := Fld.start ((fld_at ht).symm.trans (eqv_i rfl h))

theorem pn_0 : plainName "com/example/clausewright/clausewright/review/FindingIsClaimPinLaw" = true := by first | (simp [plainName, overriddenIn]; done) | decide +kernel
theorem pn_1 : plainName "com/example/clausewright/clausewright/document/TextSpan" = true := by first | (simp [plainName, overriddenIn]; done) | decide +kernel
theorem pn_2 : plainName "java/lang/Record" = true := by first | (simp [plainName, overriddenIn]; done) | decide +kernel
theorem pn_4 : plainName "com/example/clausewright/clausewright/review/Finding" = true := by first | (simp [plainName, overriddenIn]; done) | decide +kernel
theorem pn_5 : plainName "java/util/Objects" = true := by first | (simp [plainName, overriddenIn]; done) | decide +kernel
theorem pn_6 : plainName "com/example/clausewright/clausewright/review/Finding" = true := by first | (simp [plainName, overriddenIn]; done) | decide +kernel
theorem pd_0 : parseMethodDescriptor "()V" = some ⟨[], none⟩ := by decide +kernel
theorem pd_1 : parseMethodDescriptor "(Ljava/lang/Object;Ljava/lang/String;)Ljava/lang/Object;" = some ⟨[(.object "java/lang/Object"), (.object "java/lang/String")], some (.object "java/lang/Object")⟩ := by decide +kernel
theorem pd_2 : parseMethodDescriptor "(IIIILjava/lang/String;)V" = some ⟨[.int, .int, .int, .int, (.object "java/lang/String")], none⟩ := by decide +kernel
theorem pd_3 : parseMethodDescriptor "(Lcom/example/clausewright/clausewright/review/Category;Lcom/example/clausewright/clausewright/document/TextSpan;Ljava/lang/String;DLcom/example/clausewright/clausewright/document/Part;Lcom/example/clausewright/clausewright/document/Section;)V" = some ⟨[(.object "com/example/clausewright/clausewright/review/Category"), (.object "com/example/clausewright/clausewright/document/TextSpan"), (.object "java/lang/String"), .double, (.object "com/example/clausewright/clausewright/document/Part"), (.object "com/example/clausewright/clausewright/document/Section")], none⟩ := by decide +kernel
theorem pd_4 : parseMethodDescriptor "()Z" = some ⟨[], some .boolean⟩ := by decide +kernel
theorem own_strs {Z : State} {a0 : Array Value} (hw : ∀ d ∈ tables_1, d.before a0 Z = true) : ∀ a ∈ Bundle.stringAtoms, a.before a0 Z = true := by
  intro a ha
  simp only [Bundle.stringAtoms, List.mem_cons, List.not_mem_nil, or_false] at ha
  rcases ha with rfl | rfl | rfl | rfl | rfl | rfl | rfl
  · exact (hw _ (List.mem_of_getElem? (i := 12) rfl))
  · exact (hw _ (List.mem_of_getElem? (i := 13) rfl))
  · exact (hw _ (List.mem_of_getElem? (i := 14) rfl))
  · exact (hw _ (List.mem_of_getElem? (i := 15) rfl))
  · exact (hw _ (List.mem_of_getElem? (i := 16) rfl))
  · exact (hw _ (List.mem_of_getElem? (i := 17) rfl))
  · exact (hw _ (List.mem_of_getElem? (i := 18) rfl))
section OwnFP
open Jvm.FP Jvm.FP.Core Jvm.Free.Fl
theorem own_whole {i : Int} {d : Datum} (h : Whole i d) : ∃ s c q, d = .fin s c q ∧ signed s (c * 2 ^ q.toNat) = i * ((2 ^ (-q).toNat : Nat) : Int) := by
  cases d with
  | nan => exact h.elim
  | inf s => exact h.elim
  | fin s c q => exact ⟨s, c, q, rfl, h⟩
theorem own_congr {K N c d : Nat} {q r : Int} (hc : c * 2 ^ q.toNat = K * 2 ^ (-q).toNat) (hd : d * 2 ^ r.toNat = N * 2 ^ (-r).toNat) : c * N * 2 ^ ((q - r) - 0).toNat = K * d * 2 ^ (0 - (q - r)).toNat := by
  have hp : 0 < 2 ^ (q.toNat + (-r).toNat) := Nat.two_pow_pos _
  refine Nat.eq_of_mul_eq_mul_right hp ?_
  have e1 : ((q - r) - 0).toNat + (-q).toNat + r.toNat = (0 - (q - r)).toNat + q.toNat + (-r).toNat := by omega
  calc c * N * 2 ^ ((q - r) - 0).toNat * 2 ^ (q.toNat + (-r).toNat)
      = (c * 2 ^ q.toNat) * (N * 2 ^ (-r).toNat) * 2 ^ ((q - r) - 0).toNat := by rw [Nat.pow_add]; ac_rfl
    _ = (K * 2 ^ (-q).toNat) * (d * 2 ^ r.toNat) * 2 ^ ((q - r) - 0).toNat := by rw [hc, hd]
    _ = K * d * 2 ^ (((q - r) - 0).toNat + (-q).toNat + r.toNat) := by rw [Nat.pow_add, Nat.pow_add]; ac_rfl
    _ = K * d * 2 ^ ((0 - (q - r)).toNat + q.toNat + (-r).toNat) := by rw [e1]
    _ = K * d * 2 ^ (0 - (q - r)).toNat * 2 ^ (q.toNat + (-r).toNat) := by rw [Nat.pow_add, Nat.pow_add, Nat.pow_add]; ac_rfl
theorem own_signed {s : Bool} {X : Nat} {i : Int} {P : Nat} (hP : 0 < P) (h : signed s X = i * (P : Int)) : X = i.natAbs * P ∧ (i < 0 → s = true) ∧ (0 < i → s = false) := by
  have hP' : (0 : Int) < (P : Int) := by omega
  have h1 : X = i.natAbs * P := by
    have q := congrArg Int.natAbs h
    rw [natAbs_signed, Int.natAbs_mul, Int.natAbs_natCast] at q
    exact q
  refine ⟨h1, fun hi => ?_, fun hi => ?_⟩
  · cases s
    · exfalso
      have q : signed false X = (X : Int) := rfl
      rw [q] at h
      have := Int.mul_neg_of_neg_of_pos hi hP'
      omega
    · rfl
  · cases s
    · rfl
    · exfalso
      have q : signed true X = -(X : Int) := rfl
      rw [q] at h
      have := Int.mul_pos hi hP'
      omega
theorem own_quot {k n : Int32} (hk : 0 < k.toInt ∨ k.toInt < 0) (hn : 0 < n.toInt) : val64 (Core.ddiv (Core.i2d k) (Core.i2d n)) = roundRatio b64 (decide (k.toInt < 0)) k.toInt.natAbs n.toInt.natAbs 0 := by
  obtain ⟨s, c, q, e1, w1⟩ := own_whole (i2d_int k)
  obtain ⟨t, d, r, e2, w2⟩ := own_whole (i2d_int n)
  obtain ⟨a1, a2, a3⟩ := own_signed (Nat.two_pow_pos _) w1
  obtain ⟨b1, b2, b3⟩ := own_signed (Nat.two_pow_pos _) w2
  have ht := b3 hn
  subst ht
  have hs : s = decide (k.toInt < 0) := by
    rcases hk with hk | hk
    · rw [a3 hk]; simp; omega
    · rw [a2 hk]; simp [hk]
  have hd : d ≠ 0 := by
    intro q0
    subst q0
    have p1 : 0 < n.toInt.natAbs * 2 ^ (-r).toNat := Nat.mul_pos (by omega) (Nat.two_pow_pos _)
    omega
  rw [val64_ddiv, e1, e2]
  show (if d = 0 then _ else roundRatio b64 (s != false) c d (q - r)) = _
  rw [if_neg hd, ← hs]
  have e3 : (s != false) = s := by cases s <;> rfl
  rw [e3]
  exact roundRatio_congr (by omega) (by omega) (own_congr a1 b1)
def own_Pw : Nat := 2 ^ 1020
theorem own_Ppos : 0 < own_Pw := Nat.two_pow_pos _
theorem own_units (K : Nat) : inUnits K 0 b64.qmin = K * (18014398509481984 * own_Pw) := by
  have e : 2 ^ ((0 : Int) - b64.qmin).toNat = 18014398509481984 * own_Pw := by decide +kernel
  unfold inUnits
  rw [e]
theorem own_ge {s : Bool} {K N c u : Nat} {q : Int} (hN : 0 < N) (hV : Jvm.FP.Core.fits b64 (Datum.fin false c q)) (hu : inUnits c q b64.qmin = u * own_Pw) (h : u * N ≤ K * 18014398509481984) : u * own_Pw ≤ zmag b64 (roundRatio b64 s K N 0) := by
  have h2 : u * own_Pw * N ≤ K * (18014398509481984 * own_Pw) := by
    have := Nat.mul_le_mul_right own_Pw h
    calc u * own_Pw * N = u * N * own_Pw := Nat.mul_right_comm _ _ _
      _ ≤ K * 18014398509481984 * own_Pw := this
      _ = K * (18014398509481984 * own_Pw) := Nat.mul_assoc _ _ _
  have := zmag_roundRatio_ge good_b64 (s := s) (A := K) (B := N) (e := 0) (e0 := b64.qmin) (V := Datum.fin false c q) hN hV (Int.le_refl _) (by decide) (by
    rw [own_units, Int.sub_self]
    show inUnits c q b64.qmin * 2 ^ 0 * N ≤ _
    rw [hu, Nat.pow_zero, Nat.mul_one]
    exact h2)
  rw [← hu]
  exact this
theorem own_le {s : Bool} {K N c u : Nat} {q : Int} (hN : 0 < N) (hV : Jvm.FP.Core.fits b64 (Datum.fin false c q)) (hu : inUnits c q b64.qmin = u * own_Pw) (h : K * 18014398509481984 ≤ u * N) : zmag b64 (roundRatio b64 s K N 0) ≤ u * own_Pw := by
  have h2 : K * (18014398509481984 * own_Pw) ≤ u * own_Pw * N := by
    have := Nat.mul_le_mul_right own_Pw h
    calc K * (18014398509481984 * own_Pw) = K * 18014398509481984 * own_Pw := (Nat.mul_assoc _ _ _).symm
      _ ≤ u * N * own_Pw := this
      _ = u * own_Pw * N := Nat.mul_right_comm _ _ _
  have := zmag_roundRatio_le good_b64 (s := s) (A := K) (B := N) (e := 0) (e0 := b64.qmin) (V := Datum.fin false c q) hN hV (by simp) (Int.le_refl _) (by decide) (by
    rw [own_units, Int.sub_self]
    show _ ≤ inUnits c q b64.qmin * 2 ^ 0 * N
    rw [hu, Nat.pow_zero, Nat.mul_one]
    exact h2)
  rw [← hu]
  exact this
theorem own_half : val64 4602678819172646912 = Datum.fin false (2 ^ 52) (-53) := by decide +kernel
theorem own_zhalf : zval b64 (val64 4602678819172646912) = ((9007199254740992 * own_Pw : Nat) : Int) := by
  rw [own_half]
  decide +kernel
theorem own_uhalf : inUnits (2 ^ 52) (-53) b64.qmin = 9007199254740992 * own_Pw := by decide +kernel
theorem own_uone : inUnits (2 ^ 52) (-52) b64.qmin = 18014398509481984 * own_Pw := by decide +kernel
theorem own_usmall : inUnits (2 ^ 52) (-77) b64.qmin = 536870912 * own_Pw := by decide +kernel
theorem own_uup : inUnits (2 ^ 52 + 1) (-53) b64.qmin = 9007199254740994 * own_Pw := by decide +kernel
theorem own_udown : inUnits (2 ^ 53 - 1) (-54) b64.qmin = 9007199254740991 * own_Pw := by decide +kernel
theorem own_fhalf : Jvm.FP.Core.fits b64 (Datum.fin false (2 ^ 52) (-53)) := ⟨by decide +kernel, by decide +kernel, by decide +kernel, Or.inr (by decide +kernel)⟩
theorem own_fone : Jvm.FP.Core.fits b64 (Datum.fin false (2 ^ 52) (-52)) := ⟨by decide +kernel, by decide +kernel, by decide +kernel, Or.inr (by decide +kernel)⟩
theorem own_fsmall : Jvm.FP.Core.fits b64 (Datum.fin false (2 ^ 52) (-77)) := ⟨by decide +kernel, by decide +kernel, by decide +kernel, Or.inr (by decide +kernel)⟩
theorem own_fup : Jvm.FP.Core.fits b64 (Datum.fin false (2 ^ 52 + 1) (-53)) := ⟨by decide +kernel, by decide +kernel, by decide +kernel, Or.inr (by decide +kernel)⟩
theorem own_fdown : Jvm.FP.Core.fits b64 (Datum.fin false (2 ^ 53 - 1) (-54)) := ⟨by decide +kernel, by decide +kernel, by decide +kernel, Or.inr (by decide +kernel)⟩
theorem own_nnq {k n : Int32} (hn : 1 ≤ n.toInt) : NoNaN64 (FP.ddiv (FP.i2d k) (FP.i2d n)) := by
  refine noNaN64_no.mpr (Core.ddiv_out ?_ (i2d_fin n) ?_)
  · exact noNaN64_no.mp (val64_no.mpr (DInt_ne_nan (i2d_int k)))
  · refine dnot_zero (DInt_ne_nan (i2d_int n)) ?_
    rw [DInt_zval (i2d_int n)]
    have p : 0 < one64 := by decide +kernel
    intro q
    rcases Int.mul_eq_zero.mp q with q | q <;> omega
end OwnFP

def own_cl (x : UInt64) : Int32 := if cmpValue (FP.dcmp x 4602678819172646912) .l < (0 : Int32) then 0 else 1
section OwnLaw
open Jvm.FP Jvm.FP.Core Jvm.Free.Fl
theorem own_z {k n : Int32} (hk : 1 ≤ k.toInt) (hkn : k.toInt ≤ n.toInt) (hn : n.toInt ≤ 16777216) : val64 (Core.ddiv (Core.i2d k) (Core.i2d n)) = roundRatio b64 false k.toInt.natAbs n.toInt.natAbs 0 ∧ zval b64 (val64 (Core.ddiv (Core.i2d k) (Core.i2d n))) = ((zmag b64 (roundRatio b64 false k.toInt.natAbs n.toInt.natAbs 0) : Nat) : Int) := by
  have q := own_quot (k := k) (n := n) (by omega) (by omega)
  have hneg : decide (k.toInt < 0) = false := by simp; omega
  rw [hneg] at q
  refine ⟨q, ?_⟩
  unfold zval
  rw [q, sgn_roundRatio]
  rfl
theorem own_pos {k n : Int32} (hk : 1 ≤ k.toInt) (hkn : k.toInt ≤ n.toInt) (hn : n.toInt ≤ 16777216) : (0 : Int32) < cmpValue (FP.dcmp (FP.ddiv (FP.i2d k) (FP.i2d n)) FP.dconst0) .l := by
  rw [cmpV_l]
  refine (cmpInt_l_gt _).mpr ?_
  obtain ⟨q, z⟩ := own_z hk hkn hn
  show Core.dcmp (Core.ddiv (Core.i2d k) (Core.i2d n)) Core.dconst0 = some .gt
  rw [dcmp_gt]
  refine ⟨val64_no.mp (own_nnq (by omega)), by rw [val64_dconst0]; simp, ?_⟩
  rw [z, val64_dconst0]
  have u := own_ge (s := false) (K := k.toInt.natAbs) (N := n.toInt.natAbs) (by omega) own_fsmall own_usmall (by omega)
  have e0 : zval b64 (.fin false 0 b64.qmin) = 0 := by decide +kernel
  rw [e0]
  have p := own_Ppos
  omega
theorem own_one {k n : Int32} (hk : 1 ≤ k.toInt) (hkn : k.toInt ≤ n.toInt) (hn : n.toInt ≤ 16777216) : ¬ ((0 : Int32) < cmpValue (FP.dcmp (FP.ddiv (FP.i2d k) (FP.i2d n)) FP.dconst1) .g) := by
  rw [cmpV_g]
  intro hc
  obtain ⟨q, z⟩ := own_z hk hkn hn
  have hnn := val64_no.mp (own_nnq (k := k) (n := n) (by omega))
  have h1 : val64 Core.dconst1 ≠ .nan := by rw [val64_dconst1]; simp
  have hle : Core.dcmp (Core.ddiv (Core.i2d k) (Core.i2d n)) Core.dconst1 = some .lt ∨ Core.dcmp (Core.ddiv (Core.i2d k) (Core.i2d n)) Core.dconst1 = some .eq := by
    rw [dcmp_le]
    refine ⟨hnn, h1, ?_⟩
    rw [z, val64_dconst1]
    have u := own_le (s := false) (K := k.toInt.natAbs) (N := n.toInt.natAbs) (by omega) own_fone own_uone (by omega)
    have e0 : zval b64 (.fin false (2 ^ 52) (-52)) = ((18014398509481984 * own_Pw : Nat) : Int) := by decide +kernel
    rw [e0]
    omega
  have hg := (cmpInt_g_gt _).mp hc
  have hd : FP.dcmp (FP.ddiv (FP.i2d k) (FP.i2d n)) FP.dconst1 = Core.dcmp (Core.ddiv (Core.i2d k) (Core.i2d n)) Core.dconst1 := rfl
  rw [hd] at hg
  rcases hle with r | r <;> rw [r] at hg <;> simp at hg
theorem own_lt {k n : Int32} (hk : 1 ≤ k.toInt) (hkn : k.toInt ≤ n.toInt) (hn : n.toInt ≤ 16777216) : cmpValue (FP.dcmp (FP.ddiv (FP.i2d k) (FP.i2d n)) 4602678819172646912) .l < (0 : Int32) ↔ 2 * k.toInt < n.toInt := by
  rw [cmpV_l]
  obtain ⟨q, z⟩ := own_z hk hkn hn
  have hnn := val64_no.mp (own_nnq (k := k) (n := n) (by omega))
  have hh : val64 4602678819172646912 ≠ .nan := by rw [own_half]; simp
  have p := own_Ppos
  have e1 : (FP.cmpInt (-1) (FP.dcmp (FP.ddiv (FP.i2d k) (FP.i2d n)) 4602678819172646912) < 0) ↔ Core.dcmp (Core.ddiv (Core.i2d k) (Core.i2d n)) 4602678819172646912 = some .lt := by
    refine (cmpInt_l_lt _).trans ⟨fun h => ?_, fun h => Or.inl h⟩
    rcases h with h | h
    · exact h
    · exfalso
      have := dcmp_zval hnn hh
      have h' : Core.dcmp (Core.ddiv (Core.i2d k) (Core.i2d n)) 4602678819172646912 = none := h
      rw [this] at h'
      cases h'
  rw [e1, dcmp_lt, z, own_zhalf]
  constructor
  · intro h
    have h3 := h.2.2
    by_cases hle : n.toInt ≤ 2 * k.toInt
    · exfalso
      have u := own_ge (s := false) (K := k.toInt.natAbs) (N := n.toInt.natAbs) (by omega) own_fhalf own_uhalf (by omega)
      omega
    · omega
  · intro hlt
    refine ⟨hnn, hh, ?_⟩
    have u := own_le (s := false) (K := k.toInt.natAbs) (N := n.toInt.natAbs) (by omega) own_fdown own_udown (by omega)
    omega
theorem own_claim {k n : Int32} (hk : 1 ≤ k.toInt) (hkn : k.toInt ≤ n.toInt) (hn : n.toInt ≤ 16777216) : own_cl (FP.ddiv (FP.i2d k) (FP.i2d n)) = if lcmpW ((2 : Int64) * k.toInt64) n.toInt64 < (0 : Int32) then 0 else 1 := by
  unfold own_cl
  have e : (cmpValue (FP.dcmp (FP.ddiv (FP.i2d k) (FP.i2d n)) 4602678819172646912) .l < (0 : Int32)) ↔ lcmpW ((2 : Int64) * k.toInt64) n.toInt64 < (0 : Int32) := by
    rw [own_lt hk hkn hn, lw_lt, Int64.lt_iff_toInt_lt]
    have a1 := c_lmul 2 k.toInt64
    have a2 : (2 : Int64).toInt = 2 := by decide
    have a3 := c_i2l k
    have a4 := c_i2l n
    have a5 := rng64 (2 * k.toInt64)
    rw [a2, a3] at a1
    omega
  simp only [e]
theorem own_v2 (x : Int32) : 1 ≤ ((x &&& (16777215 : Int32)) + (1 : Int32)).toInt ∧ ((x &&& (16777215 : Int32)) + (1 : Int32)).toInt ≤ 16777216 := by
  have q1 := c_mask x 16777215 24 (by decide) (by decide)
  have q2 := c_iadd (x &&& 16777215) 1
  have q3 := rng32 ((x &&& 16777215) + 1)
  have q4 : (1 : Int32).toInt = 1 := by decide
  omega
theorem own_v3 {x n : Int32} (hn : 1 ≤ n.toInt ∧ n.toInt ≤ 16777216) : 1 ≤ (((x &&& (2147483647 : Int32)) % n) + (1 : Int32)).toInt ∧ (((x &&& (2147483647 : Int32)) % n) + (1 : Int32)).toInt ≤ n.toInt := by
  have q1 := c_mask x 2147483647 31 (by decide) (by decide)
  have q2 := (c_iremV (x &&& 2147483647) n).1 (by omega) (by omega)
  have q3 := c_iadd ((x &&& 2147483647) % n) 1
  have q5 := rng32 (((x &&& 2147483647) % n) + 1)
  have q4 : (1 : Int32).toInt = 1 := by decide
  omega
theorem own_nz {x : Int32} (h : 1 ≤ x.toInt) : x ≠ 0 := by
  intro q
  subst q
  exact absurd h (by decide)
end OwnLaw
def Q_rm2 (Z : State) (a1 : Addr) (h0 : Heap) (n0 : Nat) (v : Option Value) (h : Heap) (L : List Loc) : Prop := v = none ∧ Fr n0 L ∧ h = h0
theorem d2_0 : decode jdk_30_method_1_code 0 = .ok (.aload_n 0, 1) := by decide +kernel
theorem d2_1 : decode jdk_30_method_1_code 1 = .ok (.invokespecial 1, 3) := by decide +kernel
theorem d2_4 : decode jdk_30_method_1_code 4 = .ok (.return_, 1) := by decide +kernel
theorem ef_rm2 (m : MethodId) (x0 : Addr) : entryFrame m #[(.ref x0)] 1 = mkF m 0 #[.val (.ref x0)] [] := by first | (simp [entryFrame, mkF, argsToLocals, Value.category, maxLocals]; done) | rfl
set_option maxRecDepth 65536 in
set_option maxHeartbeats 40000000 in
theorem rm2 (l : Launch) (Z : State) (a0 : Array Value) (hw : ∀ d ∈ tables_1, d.before a0 Z = true) (ws : List Jvm.Cond) (a1 : Addr) (h0 : Heap) (n0 : Nat) (Z0 : n0 ≤ h0.size)  :
    MetFree l (⟨"java/lang/Record", "<init>", "()V"⟩ : MethodName) (head1 (Jvm.Cond.code (⟨"java/lang/Record", "<init>", "()V"⟩ : MethodName) jdk_30_method_1_code 1 none :: ws) ({ frames := 1, cells := 0, slots := 0, locals := 12 } : Room)) (fun a U => a = #[(.ref a1)] ∧ Z.Warmed39 U.vm ∧ U.heap = h0) (fun _ _ _ _ _ => True) (fun _ U o U' => ∃ v L, o = .returned v ∧ Q_rm2 Z a1 h0 n0 v U'.heap L ∧ FrameEnd U o U' L ({ frames := 1, cells := 0, slots := 0, locals := 12 } : Room).cells ({ frames := 1, cells := 0, slots := 0, locals := 12 } : Room).slots) := by
  refine MetFree.of_bodySF (plainFor_of_name pn_2) hisR ?_
  intro p e s m args below meth c s₁ Bd hml0 hP hK
  obtain ⟨rfl, hZ, hh⟩ := hP
  have hx := Bd.exec
  have hby := Bd.bytes
  have hml : c.maxLocals = 1 := hml0
  have hown : s.vm.findClass "java/lang/Record" = some m.cls := findClass_of_methodNamed Bd.named
  have hnm := (name_of_methodNamed Bd.named Bd.method).1
  have X0 : Stand p l e ({ frames := 1, cells := 0, slots := 0, locals := 12 } : Room) s m #[(.ref a1)] below meth c s₁ [] 0 0 := Stand.of_body Bd
  have e0 : s₁.heap = h0 := by rw [← hh, Bd.state]; rfl
  have N0 := Fr.nil n0
  have K : Keep h0 h0 [] := Keep.refl h0 []
  show own_Gd p.tables e below (own_P (Q_rm2 Z a1 h0 n0) s ({ frames := 1, cells := 0, slots := 0, locals := 12 } : Room).cells ({ frames := 1, cells := 0, slots := 0, locals := 12 } : Room).slots) _
  refine own_go (B := s₁.setTop (mkF m 0 #[.val (.ref a1)] [])) (fun t k => castTop (ef_rm2 m a1) k) ?_
  refine own_go (B := s₁.setTop (mkF m 1 #[.val (.ref a1)] [(.ref a1)])) (fun t k => ?_) ?_
  · show Steps p.tables e below (s₁.setTop (mkF m 0 #[.val (.ref a1)] [])) _
    refine XS.aloadN X0.here hx rfl (hb hby d2_0) rfl rfl ?_
    show Steps p.tables e below (s₁.setTop (mkF m 1 #[.val (.ref a1)] [(.ref a1)])) _
    exact k
  obtain ⟨T1, X1, e1, st1⟩ := initO X0 hx hZ hown (hw _ (List.mem_of_getElem? (i := 27) rfl)) (hw _ (List.mem_of_getElem? (i := 28) rfl)) (hw _ (List.mem_of_getElem? (i := 29) rfl)) e0 (g := (mkF m 1 #[.val (.ref a1)] [(.ref a1)])) rfl (by rw [hml]; rfl) rfl (hb hby d2_1) (by decide) (W := 0) (by show 2 * 0 + _ ≤ _; exact Nat.le_of_eq rfl) (by decide)
  refine own_go (B := T1.setTop (mkF m 4 #[.val (.ref a1)] [])) st1 ?_
  obtain ⟨fs, hr, hrun, hended, hW, hsame⟩ := X1.leave (v := none) (fun _ => rfl)
  refine own_done (X1.returnOut hx Bd.returns (hb hby d2_4) hr) hrun hended ⟨_, _, rfl, ?_, ⟨_, rfl⟩, hW, hsame.mono (by decide) (by decide)⟩
  show Q_rm2 Z a1 h0 n0 (none) T1.heap _
  rw [e1]
  exact ⟨rfl, N0, rfl⟩
def Q_rm5 (Z : State) (a1 : Addr) (h0 : Heap) (n0 : Nat) (v : Option Value) (h : Heap) (L : List Loc) : Prop := v = some (.ref a1) ∧ Fr n0 L ∧ h = h0
theorem d5_0 : decode jdk_31_method_11_code 0 = .ok (.aload_n 0, 1) := by decide +kernel
theorem d5_1 : decode jdk_31_method_11_code 1 = .ok (.ifnonnull 12, 3) := by decide +kernel
theorem d5_4 : decode jdk_31_method_11_code 4 = .ok (.new 84, 3) := by decide +kernel
theorem d5_7 : decode jdk_31_method_11_code 7 = .ok (.dup, 1) := by decide +kernel
theorem d5_8 : decode jdk_31_method_11_code 8 = .ok (.aload_n 1, 1) := by decide +kernel
theorem d5_9 : decode jdk_31_method_11_code 9 = .ok (.invokespecial 87, 3) := by decide +kernel
theorem d5_12 : decode jdk_31_method_11_code 12 = .ok (.athrow, 1) := by decide +kernel
theorem d5_13 : decode jdk_31_method_11_code 13 = .ok (.aload_n 0, 1) := by decide +kernel
theorem d5_14 : decode jdk_31_method_11_code 14 = .ok (.areturn, 1) := by decide +kernel
theorem ef_rm5 (m : MethodId) (x0 : Addr) (x1 : Addr) : entryFrame m #[(.ref x0), (.ref x1)] 2 = mkF m 0 #[.val (.ref x0), .val (.ref x1)] [] := by first | (simp [entryFrame, mkF, argsToLocals, Value.category, maxLocals]; done) | rfl
set_option maxRecDepth 65536 in
set_option maxHeartbeats 40000000 in
theorem rm5 (l : Launch) (Z : State) (a0 : Array Value) (hw : ∀ d ∈ tables_1, d.before a0 Z = true) (ws : List Jvm.Cond) (a1 a2 : Addr) (h0 : Heap) (n0 : Nat) (Z0 : n0 ≤ h0.size)  :
    MetFree l (⟨"java/util/Objects", "requireNonNull", "(Ljava/lang/Object;Ljava/lang/String;)Ljava/lang/Object;"⟩ : MethodName) (head1 (Jvm.Cond.code (⟨"java/util/Objects", "requireNonNull", "(Ljava/lang/Object;Ljava/lang/String;)Ljava/lang/Object;"⟩ : MethodName) jdk_31_method_11_code 2 (some (.object "java/lang/Object")) :: ws) ({ frames := 0, cells := 0, slots := 0, locals := 0 } : Room)) (fun a U => a = #[(.ref a1), (.ref a2)] ∧ Z.Warmed39 U.vm ∧ U.heap = h0) (fun _ _ _ _ _ => True) (fun _ U o U' => ∃ v L, o = .returned v ∧ Q_rm5 Z a1 h0 n0 v U'.heap L ∧ FrameEnd U o U' L ({ frames := 0, cells := 0, slots := 0, locals := 0 } : Room).cells ({ frames := 0, cells := 0, slots := 0, locals := 0 } : Room).slots) := by
  refine MetFree.of_bodySF (plainFor_of_name pn_5) hisR ?_
  intro p e s m args below meth c s₁ Bd hml0 hP hK
  obtain ⟨rfl, hZ, hh⟩ := hP
  have hx := Bd.exec
  have hby := Bd.bytes
  have hml : c.maxLocals = 2 := hml0
  have hown : s.vm.findClass "java/util/Objects" = some m.cls := findClass_of_methodNamed Bd.named
  have hnm := (name_of_methodNamed Bd.named Bd.method).1
  have X0 : Stand p l e ({ frames := 0, cells := 0, slots := 0, locals := 0 } : Room) s m #[(.ref a1), (.ref a2)] below meth c s₁ [] 0 0 := Stand.of_body Bd
  have e0 : s₁.heap = h0 := by rw [← hh, Bd.state]; rfl
  have N0 := Fr.nil n0
  have K : Keep h0 h0 [] := Keep.refl h0 []
  show own_Gd p.tables e below (own_P (Q_rm5 Z a1 h0 n0) s ({ frames := 0, cells := 0, slots := 0, locals := 0 } : Room).cells ({ frames := 0, cells := 0, slots := 0, locals := 0 } : Room).slots) _
  refine own_go (B := s₁.setTop (mkF m 0 #[.val (.ref a1), .val (.ref a2)] [])) (fun t k => castTop (ef_rm5 m a1 a2) k) ?_
  refine own_go (B := s₁.setTop (mkF m 14 #[.val (.ref a1), .val (.ref a2)] [(.ref a1)])) (fun t k => ?_) ?_
  · show Steps p.tables e below (s₁.setTop (mkF m 0 #[.val (.ref a1), .val (.ref a2)] [])) _
    refine XS.aloadN X0.here hx rfl (hb hby d5_0) rfl rfl ?_
    show Steps p.tables e below (s₁.setTop (mkF m 1 #[.val (.ref a1), .val (.ref a2)] [(.ref a1)])) _
    refine XS.ifnonnullYes X0.here hx rfl (pc0 := 1) (pc' := 13) rfl (hb hby d5_1) rfl (by decide) (by decide) ?_
    show Steps p.tables e below (s₁.setTop (mkF m 13 #[.val (.ref a1), .val (.ref a2)] [])) _
    refine XS.aloadN X0.here hx rfl (hb hby d5_13) rfl rfl ?_
    show Steps p.tables e below (s₁.setTop (mkF m 14 #[.val (.ref a1), .val (.ref a2)] [(.ref a1)])) _
    exact k
  obtain ⟨fs, hr, hrun, hended, hW, hsame⟩ := X0.leave (v := some (.ref a1)) (fun h => by rw [Bd.returns] at h; cases h)
  refine own_done (retOut X0 hx Bd.returns rfl (Or.inr (Or.inr (Or.inr (Or.inr ⟨rfl, rfl, rfl⟩)))) (hb hby d5_14) hr) hrun hended ⟨_, _, rfl, ?_, ⟨_, rfl⟩, hW, hsame.mono (by decide) (by decide)⟩
  show Q_rm5 Z a1 h0 n0 (some (.ref a1)) s₁.heap _
  rw [e0]
  exact ⟨rfl, N0, rfl⟩
def Q_rm1 (Z : State) (a1 : Addr) (h0 : Heap) (n0 : Nat) (v : Option Value) (h : Heap) (L : List Loc) : Prop := v = none ∧ Fr n0 L ∧ Keep h0 h [a1]
theorem d1_0 : decode prog_30_method_1_code 0 = .ok (.aload_n 0, 1) := by decide +kernel
theorem d1_1 : decode prog_30_method_1_code 1 = .ok (.invokespecial 1, 3) := by decide +kernel
theorem d1_4 : decode prog_30_method_1_code 4 = .ok (.aload_n 0, 1) := by decide +kernel
theorem d1_5 : decode prog_30_method_1_code 5 = .ok (.iload_n 1, 1) := by decide +kernel
theorem d1_6 : decode prog_30_method_1_code 6 = .ok (.putfield 7, 3) := by decide +kernel
theorem d1_9 : decode prog_30_method_1_code 9 = .ok (.aload_n 0, 1) := by decide +kernel
theorem d1_10 : decode prog_30_method_1_code 10 = .ok (.iload_n 2, 1) := by decide +kernel
theorem d1_11 : decode prog_30_method_1_code 11 = .ok (.putfield 13, 3) := by decide +kernel
theorem d1_14 : decode prog_30_method_1_code 14 = .ok (.aload_n 0, 1) := by decide +kernel
theorem d1_15 : decode prog_30_method_1_code 15 = .ok (.iload_n 3, 1) := by decide +kernel
theorem d1_16 : decode prog_30_method_1_code 16 = .ok (.putfield 16, 3) := by decide +kernel
theorem d1_19 : decode prog_30_method_1_code 19 = .ok (.aload_n 0, 1) := by decide +kernel
theorem d1_20 : decode prog_30_method_1_code 20 = .ok (.iload 4, 2) := by decide +kernel
theorem d1_22 : decode prog_30_method_1_code 22 = .ok (.putfield 19, 3) := by decide +kernel
theorem d1_25 : decode prog_30_method_1_code 25 = .ok (.aload_n 0, 1) := by decide +kernel
theorem d1_26 : decode prog_30_method_1_code 26 = .ok (.aload 5, 2) := by decide +kernel
theorem d1_28 : decode prog_30_method_1_code 28 = .ok (.putfield 22, 3) := by decide +kernel
theorem d1_31 : decode prog_30_method_1_code 31 = .ok (.return_, 1) := by decide +kernel
theorem ef_rm1 (m : MethodId) (x0 : Addr) (x1 : Int32) (x2 : Int32) (x3 : Int32) (x4 : Int32) (x5 : Addr) : entryFrame m #[(.ref x0), (.int x1), (.int x2), (.int x3), (.int x4), (.ref x5)] 6 = mkF m 0 #[.val (.ref x0), .val (.int x1), .val (.int x2), .val (.int x3), .val (.int x4), .val (.ref x5)] [] := by first | (simp [entryFrame, mkF, argsToLocals, Value.category, maxLocals]; done) | rfl
set_option maxRecDepth 65536 in
set_option maxHeartbeats 40000000 in
theorem rm1 (l : Launch) (Z : State) (a0 : Array Value) (hw : ∀ d ∈ tables_1, d.before a0 Z = true) (ws : List Jvm.Cond) (a1 a2 : Addr) (p1 p2 p3 p4 : Int32) (h0 : Heap) (n0 : Nat) (Z0 : n0 ≤ h0.size) (F_start_a1 : Fld Z h0 a1 "com/example/clausewright/clausewright/document/TextSpan" "start" "I" (.int (0 : Int32))) (F_end_a1 : Fld Z h0 a1 "com/example/clausewright/clausewright/document/TextSpan" "end" "I" (.int (0 : Int32))) (F_line_a1 : Fld Z h0 a1 "com/example/clausewright/clausewright/document/TextSpan" "line" "I" (.int (0 : Int32))) (F_endLine_a1 : Fld Z h0 a1 "com/example/clausewright/clausewright/document/TextSpan" "endLine" "I" (.int (0 : Int32))) (F_text_a1 : Fld Z h0 a1 "com/example/clausewright/clausewright/document/TextSpan" "text" "Ljava/lang/String;" .null) (E_a1 : Exa Z h0 a1 "com/example/clausewright/clausewright/document/TextSpan") (g_a1 : n0 ≤ a1) :
    MetFree l (⟨"com/example/clausewright/clausewright/document/TextSpan", "<init>", "(IIIILjava/lang/String;)V"⟩ : MethodName) (head1 (Jvm.Cond.code (⟨"com/example/clausewright/clausewright/document/TextSpan", "<init>", "(IIIILjava/lang/String;)V"⟩ : MethodName) prog_30_method_1_code 6 none :: ws) ({ frames := 2, cells := 0, slots := 0, locals := 24 } : Room)) (fun a U => a = #[(.ref a1), (.int p1), (.int p2), (.int p3), (.int p4), (.ref a2)] ∧ Z.Warmed39 U.vm ∧ U.heap = h0) (fun _ _ _ _ _ => True) (fun _ U o U' => ∃ v L, o = .returned v ∧ Q_rm1 Z a1 h0 n0 v U'.heap L ∧ FrameEnd U o U' L ({ frames := 2, cells := 0, slots := 0, locals := 24 } : Room).cells ({ frames := 2, cells := 0, slots := 0, locals := 24 } : Room).slots) := by
  refine MetFree.of_bodySF (plainFor_of_name pn_1) hisR ?_
  intro p e s m args below meth c s₁ Bd hml0 hP hK
  obtain ⟨rfl, hZ, hh⟩ := hP
  have hx := Bd.exec
  have hby := Bd.bytes
  have hml : c.maxLocals = 6 := hml0
  have hown : s.vm.findClass "com/example/clausewright/clausewright/document/TextSpan" = some m.cls := findClass_of_methodNamed Bd.named
  have hnm := (name_of_methodNamed Bd.named Bd.method).1
  have X0 : Stand p l e ({ frames := 2, cells := 0, slots := 0, locals := 24 } : Room) s m #[(.ref a1), (.int p1), (.int p2), (.int p3), (.int p4), (.ref a2)] below meth c s₁ [] 0 0 := Stand.of_body Bd
  have e0 : s₁.heap = h0 := by rw [← hh, Bd.state]; rfl
  have N0 := Fr.nil n0
  have K : Keep h0 h0 [a1] := Keep.refl h0 [a1]
  show own_Gd p.tables e below (own_P (Q_rm1 Z a1 h0 n0) s ({ frames := 2, cells := 0, slots := 0, locals := 24 } : Room).cells ({ frames := 2, cells := 0, slots := 0, locals := 24 } : Room).slots) _
  refine own_go (B := s₁.setTop (mkF m 0 #[.val (.ref a1), .val (.int p1), .val (.int p2), .val (.int p3), .val (.int p4), .val (.ref a2)] [])) (fun t k => castTop (ef_rm1 m a1 p1 p2 p3 p4 a2) k) ?_
  refine own_go (B := s₁.setTop (mkF m 1 #[.val (.ref a1), .val (.int p1), .val (.int p2), .val (.int p3), .val (.int p4), .val (.ref a2)] [(.ref a1)])) (fun t k => ?_) ?_
  · show Steps p.tables e below (s₁.setTop (mkF m 0 #[.val (.ref a1), .val (.int p1), .val (.int p2), .val (.int p3), .val (.int p4), .val (.ref a2)] [])) _
    refine XS.aloadN X0.here hx rfl (hb hby d1_0) rfl rfl ?_
    show Steps p.tables e below (s₁.setTop (mkF m 1 #[.val (.ref a1), .val (.int p1), .val (.int p2), .val (.int p3), .val (.int p4), .val (.ref a2)] [(.ref a1)])) _
    exact k
  obtain ⟨_, _, ⟨T1, L1, k1, n1⟩, -, X1, ⟨Lc1, hQ1, l1, y1, z1⟩, st1⟩ := X0.specialBack hx (y := (⟨"java/lang/Record", "<init>", "()V"⟩ : MethodName)) rfl hown (mvT hZ (hw _ (List.mem_of_getElem? (i := 22) rfl))) (mvT hZ (hw _ (List.mem_of_getElem? (i := 23) rfl))) (mvT hZ (hw _ (List.mem_of_getElem? (i := 26) rfl))) (by decide) (backOf (W := 0) (rm2 l Z a0 hw [] a1 h0 n0 Z0) hZ (hw _ (List.mem_of_getElem? (i := 26) rfl)) (hw _ (List.mem_of_getElem? (i := 25) rfl)) (by decide) (by decide)) (g := (mkF m 1 #[.val (.ref a1), .val (.int p1), .val (.int p2), .val (.int p3), .val (.int p4), .val (.ref a2)] [(.ref a1)])) rfl (by rw [hml]; rfl) (Steps.refl _) (a := a1) (argsL := []) (rest := []) (lenOf pd_0 rfl) rfl (by show 2 * 0 + _ ≤ _; exact Nat.le_of_eq rfl) (hb hby d1_1) (fun _ _ => ⟨rfl, e0, Nat.le_of_ble_eq_true rfl, Nat.le_of_ble_eq_true rfl⟩)
  dsimp only [Pt.U, Pt.locs, Pt.cells, Pt.slots] at X1 l1 y1 z1 st1 hQ1
  subst l1 y1 z1
  obtain ⟨h1, e1⟩ : ∃ z, T1.heap = z := ⟨_, rfl⟩
  rw [e1] at hQ1
  obtain ⟨rfl, N1q, eq1⟩ := hQ1
  have N1 := Fr.app N0 N1q
  rw [eq1] at e1
  refine own_go (B := T1.setTop (mkF m 4 #[.val (.ref a1), .val (.int p1), .val (.int p2), .val (.int p3), .val (.int p4), .val (.ref a2)] [])) (fun t k => st1.trans k) ?_
  refine own_go (B := T1.setTop (mkF m 6 #[.val (.ref a1), .val (.int p1), .val (.int p2), .val (.int p3), .val (.int p4), .val (.ref a2)] [(.int p1), (.ref a1)])) (fun t k => ?_) ?_
  · show Steps p.tables e below (T1.setTop (mkF m 4 #[.val (.ref a1), .val (.int p1), .val (.int p2), .val (.int p3), .val (.int p4), .val (.ref a2)] [])) _
    refine XS.aloadN X1.here hx rfl (hb hby d1_4) rfl rfl ?_
    show Steps p.tables e below (T1.setTop (mkF m 5 #[.val (.ref a1), .val (.int p1), .val (.int p2), .val (.int p3), .val (.int p4), .val (.ref a2)] [(.ref a1)])) _
    refine XS.iloadN X1.here hx rfl (hb hby d1_5) rfl ?_
    show Steps p.tables e below (T1.setTop (mkF m 6 #[.val (.ref a1), .val (.int p1), .val (.int p2), .val (.int p3), .val (.int p4), .val (.ref a2)] [(.int p1), (.ref a1)])) _
    exact k
  obtain ⟨T2, h2, X2, e2, W2, st2⟩ := putF X1 hx hZ hown (host := "") (Or.inl (hw _ (List.mem_of_getElem? (i := 30) rfl))) Via.refl e1 F_start_a1 E_a1 (Or.inr ⟨(hw _ (List.mem_of_getElem? (i := 31) rfl)), rfl, hnm⟩) (hw _ (List.mem_of_getElem? (i := 9) rfl)) (v := (.int p1)) (ty := .int) (by decide) rfl rfl (g := (mkF m 6 #[.val (.ref a1), .val (.int p1), .val (.int p2), .val (.int p3), .val (.int p4), .val (.ref a2)] [(.int p1), (.ref a1)])) rfl rfl (hb hby d1_6)
  have Fw2 := F_start_a1.same W2
  have E_a1 := E_a1.wr W2
  have F_end_a1 := F_end_a1.other W2 (Or.inr (slot_ne (Or.inr (hw _ (List.mem_of_getElem? (i := 33) rfl))) (Or.inr (hw _ (List.mem_of_getElem? (i := 31) rfl))) (by decide) (t := .int) (t' := .int) (by decide) (by decide)))
  have F_line_a1 := F_line_a1.other W2 (Or.inr (slot_ne (Or.inr (hw _ (List.mem_of_getElem? (i := 35) rfl))) (Or.inr (hw _ (List.mem_of_getElem? (i := 31) rfl))) (by decide) (t := .int) (t' := .int) (by decide) (by decide)))
  have F_endLine_a1 := F_endLine_a1.other W2 (Or.inr (slot_ne (Or.inr (hw _ (List.mem_of_getElem? (i := 37) rfl))) (Or.inr (hw _ (List.mem_of_getElem? (i := 31) rfl))) (by decide) (t := .int) (t' := .int) (by decide) (by decide)))
  have F_text_a1 := F_text_a1.other W2 (Or.inr (slot_ne (Or.inr (hw _ (List.mem_of_getElem? (i := 39) rfl))) (Or.inr (hw _ (List.mem_of_getElem? (i := 31) rfl))) (by decide) (t := (.object "java/lang/String")) (t' := .int) (by decide) (by decide)))
  have Z0 := Nat.le_trans Z0 (Nat.le_of_eq W2.size.symm)
  have F_start_a1 := Fw2
  have K := K.wr W2 (Or.inl (List.mem_of_getElem? (i := 0) rfl))
  have N2 := Fr.snoc X2 N1 g_a1
  refine own_go (B := T2.setTop (mkF m 9 #[.val (.ref a1), .val (.int p1), .val (.int p2), .val (.int p3), .val (.int p4), .val (.ref a2)] [])) st2 ?_
  refine own_go (B := T2.setTop (mkF m 11 #[.val (.ref a1), .val (.int p1), .val (.int p2), .val (.int p3), .val (.int p4), .val (.ref a2)] [(.int p2), (.ref a1)])) (fun t k => ?_) ?_
  · show Steps p.tables e below (T2.setTop (mkF m 9 #[.val (.ref a1), .val (.int p1), .val (.int p2), .val (.int p3), .val (.int p4), .val (.ref a2)] [])) _
    refine XS.aloadN X2.here hx rfl (hb hby d1_9) rfl rfl ?_
    show Steps p.tables e below (T2.setTop (mkF m 10 #[.val (.ref a1), .val (.int p1), .val (.int p2), .val (.int p3), .val (.int p4), .val (.ref a2)] [(.ref a1)])) _
    refine XS.iloadN X2.here hx rfl (hb hby d1_10) rfl ?_
    show Steps p.tables e below (T2.setTop (mkF m 11 #[.val (.ref a1), .val (.int p1), .val (.int p2), .val (.int p3), .val (.int p4), .val (.ref a2)] [(.int p2), (.ref a1)])) _
    exact k
  obtain ⟨T3, h3, X3, e3, W3, st3⟩ := putF X2 hx hZ hown (host := "") (Or.inl (hw _ (List.mem_of_getElem? (i := 32) rfl))) Via.refl e2 F_end_a1 E_a1 (Or.inr ⟨(hw _ (List.mem_of_getElem? (i := 33) rfl)), rfl, hnm⟩) (hw _ (List.mem_of_getElem? (i := 9) rfl)) (v := (.int p2)) (ty := .int) (by decide) rfl rfl (g := (mkF m 11 #[.val (.ref a1), .val (.int p1), .val (.int p2), .val (.int p3), .val (.int p4), .val (.ref a2)] [(.int p2), (.ref a1)])) rfl rfl (hb hby d1_11)
  have Fw3 := F_end_a1.same W3
  have E_a1 := E_a1.wr W3
  have F_line_a1 := F_line_a1.other W3 (Or.inr (slot_ne (Or.inr (hw _ (List.mem_of_getElem? (i := 35) rfl))) (Or.inr (hw _ (List.mem_of_getElem? (i := 33) rfl))) (by decide) (t := .int) (t' := .int) (by decide) (by decide)))
  have F_endLine_a1 := F_endLine_a1.other W3 (Or.inr (slot_ne (Or.inr (hw _ (List.mem_of_getElem? (i := 37) rfl))) (Or.inr (hw _ (List.mem_of_getElem? (i := 33) rfl))) (by decide) (t := .int) (t' := .int) (by decide) (by decide)))
  have F_text_a1 := F_text_a1.other W3 (Or.inr (slot_ne (Or.inr (hw _ (List.mem_of_getElem? (i := 39) rfl))) (Or.inr (hw _ (List.mem_of_getElem? (i := 33) rfl))) (by decide) (t := (.object "java/lang/String")) (t' := .int) (by decide) (by decide)))
  have F_start_a1 := F_start_a1.other W3 (Or.inr (slot_ne (Or.inr (hw _ (List.mem_of_getElem? (i := 31) rfl))) (Or.inr (hw _ (List.mem_of_getElem? (i := 33) rfl))) (by decide) (t := .int) (t' := .int) (by decide) (by decide)))
  have Z0 := Nat.le_trans Z0 (Nat.le_of_eq W3.size.symm)
  have F_end_a1 := Fw3
  have K := K.wr W3 (Or.inl (List.mem_of_getElem? (i := 0) rfl))
  have N3 := Fr.snoc X3 N2 g_a1
  refine own_go (B := T3.setTop (mkF m 14 #[.val (.ref a1), .val (.int p1), .val (.int p2), .val (.int p3), .val (.int p4), .val (.ref a2)] [])) st3 ?_
  refine own_go (B := T3.setTop (mkF m 16 #[.val (.ref a1), .val (.int p1), .val (.int p2), .val (.int p3), .val (.int p4), .val (.ref a2)] [(.int p3), (.ref a1)])) (fun t k => ?_) ?_
  · show Steps p.tables e below (T3.setTop (mkF m 14 #[.val (.ref a1), .val (.int p1), .val (.int p2), .val (.int p3), .val (.int p4), .val (.ref a2)] [])) _
    refine XS.aloadN X3.here hx rfl (hb hby d1_14) rfl rfl ?_
    show Steps p.tables e below (T3.setTop (mkF m 15 #[.val (.ref a1), .val (.int p1), .val (.int p2), .val (.int p3), .val (.int p4), .val (.ref a2)] [(.ref a1)])) _
    refine XS.iloadN X3.here hx rfl (hb hby d1_15) rfl ?_
    show Steps p.tables e below (T3.setTop (mkF m 16 #[.val (.ref a1), .val (.int p1), .val (.int p2), .val (.int p3), .val (.int p4), .val (.ref a2)] [(.int p3), (.ref a1)])) _
    exact k
  obtain ⟨T4, h4, X4, e4, W4, st4⟩ := putF X3 hx hZ hown (host := "") (Or.inl (hw _ (List.mem_of_getElem? (i := 34) rfl))) Via.refl e3 F_line_a1 E_a1 (Or.inr ⟨(hw _ (List.mem_of_getElem? (i := 35) rfl)), rfl, hnm⟩) (hw _ (List.mem_of_getElem? (i := 9) rfl)) (v := (.int p3)) (ty := .int) (by decide) rfl rfl (g := (mkF m 16 #[.val (.ref a1), .val (.int p1), .val (.int p2), .val (.int p3), .val (.int p4), .val (.ref a2)] [(.int p3), (.ref a1)])) rfl rfl (hb hby d1_16)
  have Fw4 := F_line_a1.same W4
  have E_a1 := E_a1.wr W4
  have F_endLine_a1 := F_endLine_a1.other W4 (Or.inr (slot_ne (Or.inr (hw _ (List.mem_of_getElem? (i := 37) rfl))) (Or.inr (hw _ (List.mem_of_getElem? (i := 35) rfl))) (by decide) (t := .int) (t' := .int) (by decide) (by decide)))
  have F_text_a1 := F_text_a1.other W4 (Or.inr (slot_ne (Or.inr (hw _ (List.mem_of_getElem? (i := 39) rfl))) (Or.inr (hw _ (List.mem_of_getElem? (i := 35) rfl))) (by decide) (t := (.object "java/lang/String")) (t' := .int) (by decide) (by decide)))
  have F_start_a1 := F_start_a1.other W4 (Or.inr (slot_ne (Or.inr (hw _ (List.mem_of_getElem? (i := 31) rfl))) (Or.inr (hw _ (List.mem_of_getElem? (i := 35) rfl))) (by decide) (t := .int) (t' := .int) (by decide) (by decide)))
  have F_end_a1 := F_end_a1.other W4 (Or.inr (slot_ne (Or.inr (hw _ (List.mem_of_getElem? (i := 33) rfl))) (Or.inr (hw _ (List.mem_of_getElem? (i := 35) rfl))) (by decide) (t := .int) (t' := .int) (by decide) (by decide)))
  have Z0 := Nat.le_trans Z0 (Nat.le_of_eq W4.size.symm)
  have F_line_a1 := Fw4
  have K := K.wr W4 (Or.inl (List.mem_of_getElem? (i := 0) rfl))
  have N4 := Fr.snoc X4 N3 g_a1
  refine own_go (B := T4.setTop (mkF m 19 #[.val (.ref a1), .val (.int p1), .val (.int p2), .val (.int p3), .val (.int p4), .val (.ref a2)] [])) st4 ?_
  refine own_go (B := T4.setTop (mkF m 22 #[.val (.ref a1), .val (.int p1), .val (.int p2), .val (.int p3), .val (.int p4), .val (.ref a2)] [(.int p4), (.ref a1)])) (fun t k => ?_) ?_
  · show Steps p.tables e below (T4.setTop (mkF m 19 #[.val (.ref a1), .val (.int p1), .val (.int p2), .val (.int p3), .val (.int p4), .val (.ref a2)] [])) _
    refine XS.aloadN X4.here hx rfl (hb hby d1_19) rfl rfl ?_
    show Steps p.tables e below (T4.setTop (mkF m 20 #[.val (.ref a1), .val (.int p1), .val (.int p2), .val (.int p3), .val (.int p4), .val (.ref a2)] [(.ref a1)])) _
    refine XS.iload X4.here hx rfl (hb hby d1_20) rfl ?_
    show Steps p.tables e below (T4.setTop (mkF m 22 #[.val (.ref a1), .val (.int p1), .val (.int p2), .val (.int p3), .val (.int p4), .val (.ref a2)] [(.int p4), (.ref a1)])) _
    exact k
  obtain ⟨T5, h5, X5, e5, W5, st5⟩ := putF X4 hx hZ hown (host := "") (Or.inl (hw _ (List.mem_of_getElem? (i := 36) rfl))) Via.refl e4 F_endLine_a1 E_a1 (Or.inr ⟨(hw _ (List.mem_of_getElem? (i := 37) rfl)), rfl, hnm⟩) (hw _ (List.mem_of_getElem? (i := 9) rfl)) (v := (.int p4)) (ty := .int) (by decide) rfl rfl (g := (mkF m 22 #[.val (.ref a1), .val (.int p1), .val (.int p2), .val (.int p3), .val (.int p4), .val (.ref a2)] [(.int p4), (.ref a1)])) rfl rfl (hb hby d1_22)
  have Fw5 := F_endLine_a1.same W5
  have E_a1 := E_a1.wr W5
  have F_text_a1 := F_text_a1.other W5 (Or.inr (slot_ne (Or.inr (hw _ (List.mem_of_getElem? (i := 39) rfl))) (Or.inr (hw _ (List.mem_of_getElem? (i := 37) rfl))) (by decide) (t := (.object "java/lang/String")) (t' := .int) (by decide) (by decide)))
  have F_start_a1 := F_start_a1.other W5 (Or.inr (slot_ne (Or.inr (hw _ (List.mem_of_getElem? (i := 31) rfl))) (Or.inr (hw _ (List.mem_of_getElem? (i := 37) rfl))) (by decide) (t := .int) (t' := .int) (by decide) (by decide)))
  have F_end_a1 := F_end_a1.other W5 (Or.inr (slot_ne (Or.inr (hw _ (List.mem_of_getElem? (i := 33) rfl))) (Or.inr (hw _ (List.mem_of_getElem? (i := 37) rfl))) (by decide) (t := .int) (t' := .int) (by decide) (by decide)))
  have F_line_a1 := F_line_a1.other W5 (Or.inr (slot_ne (Or.inr (hw _ (List.mem_of_getElem? (i := 35) rfl))) (Or.inr (hw _ (List.mem_of_getElem? (i := 37) rfl))) (by decide) (t := .int) (t' := .int) (by decide) (by decide)))
  have Z0 := Nat.le_trans Z0 (Nat.le_of_eq W5.size.symm)
  have F_endLine_a1 := Fw5
  have K := K.wr W5 (Or.inl (List.mem_of_getElem? (i := 0) rfl))
  have N5 := Fr.snoc X5 N4 g_a1
  refine own_go (B := T5.setTop (mkF m 25 #[.val (.ref a1), .val (.int p1), .val (.int p2), .val (.int p3), .val (.int p4), .val (.ref a2)] [])) st5 ?_
  refine own_go (B := T5.setTop (mkF m 28 #[.val (.ref a1), .val (.int p1), .val (.int p2), .val (.int p3), .val (.int p4), .val (.ref a2)] [(.ref a2), (.ref a1)])) (fun t k => ?_) ?_
  · show Steps p.tables e below (T5.setTop (mkF m 25 #[.val (.ref a1), .val (.int p1), .val (.int p2), .val (.int p3), .val (.int p4), .val (.ref a2)] [])) _
    refine XS.aloadN X5.here hx rfl (hb hby d1_25) rfl rfl ?_
    show Steps p.tables e below (T5.setTop (mkF m 26 #[.val (.ref a1), .val (.int p1), .val (.int p2), .val (.int p3), .val (.int p4), .val (.ref a2)] [(.ref a1)])) _
    refine XS.aload X5.here hx rfl (hb hby d1_26) rfl rfl ?_
    show Steps p.tables e below (T5.setTop (mkF m 28 #[.val (.ref a1), .val (.int p1), .val (.int p2), .val (.int p3), .val (.int p4), .val (.ref a2)] [(.ref a2), (.ref a1)])) _
    exact k
  obtain ⟨T6, h6, X6, e6, W6, st6⟩ := putF X5 hx hZ hown (host := "") (Or.inl (hw _ (List.mem_of_getElem? (i := 38) rfl))) Via.refl e5 F_text_a1 E_a1 (Or.inr ⟨(hw _ (List.mem_of_getElem? (i := 39) rfl)), rfl, hnm⟩) (hw _ (List.mem_of_getElem? (i := 9) rfl)) (v := (.ref a2)) (ty := (.object "java/lang/String")) (by decide) rfl rfl (g := (mkF m 28 #[.val (.ref a1), .val (.int p1), .val (.int p2), .val (.int p3), .val (.int p4), .val (.ref a2)] [(.ref a2), (.ref a1)])) rfl rfl (hb hby d1_28)
  have Fw6 := F_text_a1.same W6
  have E_a1 := E_a1.wr W6
  have F_start_a1 := F_start_a1.other W6 (Or.inr (slot_ne (Or.inr (hw _ (List.mem_of_getElem? (i := 31) rfl))) (Or.inr (hw _ (List.mem_of_getElem? (i := 39) rfl))) (by decide) (t := .int) (t' := (.object "java/lang/String")) (by decide) (by decide)))
  have F_end_a1 := F_end_a1.other W6 (Or.inr (slot_ne (Or.inr (hw _ (List.mem_of_getElem? (i := 33) rfl))) (Or.inr (hw _ (List.mem_of_getElem? (i := 39) rfl))) (by decide) (t := .int) (t' := (.object "java/lang/String")) (by decide) (by decide)))
  have F_line_a1 := F_line_a1.other W6 (Or.inr (slot_ne (Or.inr (hw _ (List.mem_of_getElem? (i := 35) rfl))) (Or.inr (hw _ (List.mem_of_getElem? (i := 39) rfl))) (by decide) (t := .int) (t' := (.object "java/lang/String")) (by decide) (by decide)))
  have F_endLine_a1 := F_endLine_a1.other W6 (Or.inr (slot_ne (Or.inr (hw _ (List.mem_of_getElem? (i := 37) rfl))) (Or.inr (hw _ (List.mem_of_getElem? (i := 39) rfl))) (by decide) (t := .int) (t' := (.object "java/lang/String")) (by decide) (by decide)))
  have Z0 := Nat.le_trans Z0 (Nat.le_of_eq W6.size.symm)
  have F_text_a1 := Fw6
  have K := K.wr W6 (Or.inl (List.mem_of_getElem? (i := 0) rfl))
  have N6 := Fr.snoc X6 N5 g_a1
  refine own_go (B := T6.setTop (mkF m 31 #[.val (.ref a1), .val (.int p1), .val (.int p2), .val (.int p3), .val (.int p4), .val (.ref a2)] [])) st6 ?_
  obtain ⟨fs, hr, hrun, hended, hW, hsame⟩ := X6.leave (v := none) (fun _ => rfl)
  refine own_done (X6.returnOut hx Bd.returns (hb hby d1_31) hr) hrun hended ⟨_, _, rfl, ?_, ⟨_, rfl⟩, hW, hsame.mono (by decide) (by decide)⟩
  show Q_rm1 Z a1 h0 n0 (none) T6.heap _
  rw [e6]
  exact ⟨rfl, N6, K⟩
def Q_rm4 (Z : State) (a1 : Addr) (x : UInt64) (h0 : Heap) (n0 : Nat) (v : Option Value) (h : Heap) (L : List Loc) : Prop := v = none ∧ Fr n0 L ∧ Keep h0 h [a1] ∧ Exa Z h a1 "com/example/clausewright/clausewright/review/Finding" ∧ Fld Z h a1 "com/example/clausewright/clausewright/review/Finding" "score" "D" (.double x)
theorem d4_0 : decode prog_55_method_1_code 0 = .ok (.aload_n 0, 1) := by decide +kernel
theorem d4_1 : decode prog_55_method_1_code 1 = .ok (.invokespecial 1, 3) := by decide +kernel
theorem d4_4 : decode prog_55_method_1_code 4 = .ok (.aload_n 1, 1) := by decide +kernel
theorem d4_5 : decode prog_55_method_1_code 5 = .ok (.ldc 7, 2) := by decide +kernel
theorem d4_7 : decode prog_55_method_1_code 7 = .ok (.invokestatic 9, 3) := by decide +kernel
theorem d4_10 : decode prog_55_method_1_code 10 = .ok (.pop, 1) := by decide +kernel
theorem d4_11 : decode prog_55_method_1_code 11 = .ok (.aload_n 2, 1) := by decide +kernel
theorem d4_12 : decode prog_55_method_1_code 12 = .ok (.ldc 15, 2) := by decide +kernel
theorem d4_14 : decode prog_55_method_1_code 14 = .ok (.invokestatic 9, 3) := by decide +kernel
theorem d4_17 : decode prog_55_method_1_code 17 = .ok (.pop, 1) := by decide +kernel
theorem d4_18 : decode prog_55_method_1_code 18 = .ok (.dload 4, 2) := by decide +kernel
theorem d4_20 : decode prog_55_method_1_code 20 = .ok (.dconst 0, 1) := by decide +kernel
theorem d4_21 : decode prog_55_method_1_code 21 = .ok (.dcmp .l, 1) := by decide +kernel
theorem d4_22 : decode prog_55_method_1_code 22 = .ok (.ifCond .le 10, 3) := by decide +kernel
theorem d4_25 : decode prog_55_method_1_code 25 = .ok (.dload 4, 2) := by decide +kernel
theorem d4_27 : decode prog_55_method_1_code 27 = .ok (.dconst 1, 1) := by decide +kernel
theorem d4_28 : decode prog_55_method_1_code 28 = .ok (.dcmp .g, 1) := by decide +kernel
theorem d4_29 : decode prog_55_method_1_code 29 = .ok (.ifCond .le 18, 3) := by decide +kernel
theorem d4_32 : decode prog_55_method_1_code 32 = .ok (.new 17, 3) := by decide +kernel
theorem d4_35 : decode prog_55_method_1_code 35 = .ok (.dup, 1) := by decide +kernel
theorem d4_36 : decode prog_55_method_1_code 36 = .ok (.dload 4, 2) := by decide +kernel
theorem d4_38 : decode prog_55_method_1_code 38 = .ok (.invokedynamic 19, 5) := by decide +kernel
theorem d4_43 : decode prog_55_method_1_code 43 = .ok (.invokespecial 23, 3) := by decide +kernel
theorem d4_46 : decode prog_55_method_1_code 46 = .ok (.athrow, 1) := by decide +kernel
theorem d4_47 : decode prog_55_method_1_code 47 = .ok (.aload_n 0, 1) := by decide +kernel
theorem d4_48 : decode prog_55_method_1_code 48 = .ok (.aload_n 1, 1) := by decide +kernel
theorem d4_49 : decode prog_55_method_1_code 49 = .ok (.putfield 26, 3) := by decide +kernel
theorem d4_52 : decode prog_55_method_1_code 52 = .ok (.aload_n 0, 1) := by decide +kernel
theorem d4_53 : decode prog_55_method_1_code 53 = .ok (.aload_n 2, 1) := by decide +kernel
theorem d4_54 : decode prog_55_method_1_code 54 = .ok (.putfield 31, 3) := by decide +kernel
theorem d4_57 : decode prog_55_method_1_code 57 = .ok (.aload_n 0, 1) := by decide +kernel
theorem d4_58 : decode prog_55_method_1_code 58 = .ok (.aload_n 3, 1) := by decide +kernel
theorem d4_59 : decode prog_55_method_1_code 59 = .ok (.putfield 34, 3) := by decide +kernel
theorem d4_62 : decode prog_55_method_1_code 62 = .ok (.aload_n 0, 1) := by decide +kernel
theorem d4_63 : decode prog_55_method_1_code 63 = .ok (.dload 4, 2) := by decide +kernel
theorem d4_65 : decode prog_55_method_1_code 65 = .ok (.putfield 38, 3) := by decide +kernel
theorem d4_68 : decode prog_55_method_1_code 68 = .ok (.aload_n 0, 1) := by decide +kernel
theorem d4_69 : decode prog_55_method_1_code 69 = .ok (.aload 6, 2) := by decide +kernel
theorem d4_71 : decode prog_55_method_1_code 71 = .ok (.putfield 42, 3) := by decide +kernel
theorem d4_74 : decode prog_55_method_1_code 74 = .ok (.aload_n 0, 1) := by decide +kernel
theorem d4_75 : decode prog_55_method_1_code 75 = .ok (.aload 7, 2) := by decide +kernel
theorem d4_77 : decode prog_55_method_1_code 77 = .ok (.putfield 46, 3) := by decide +kernel
theorem d4_80 : decode prog_55_method_1_code 80 = .ok (.return_, 1) := by decide +kernel
theorem ef_rm4 (m : MethodId) (x0 : Addr) (x1 : Addr) (x2 : Addr) (x4 : UInt64) : entryFrame m #[(.ref x0), (.ref x1), (.ref x2), .null, (.double x4), .null, .null] 8 = mkF m 0 #[.val (.ref x0), .val (.ref x1), .val (.ref x2), .val .null, .val (.double x4), .second, .val .null, .val .null] [] := by first | (simp [entryFrame, mkF, argsToLocals, Value.category, maxLocals]; done) | rfl
set_option maxRecDepth 65536 in
set_option maxHeartbeats 40000000 in
theorem rm4 (l : Launch) (Z : State) (a0 : Array Value) (hw : ∀ d ∈ tables_1, d.before a0 Z = true) (ws : List Jvm.Cond) (a1 a2 a3 : Addr) (x : UInt64) (h0 : Heap) (n0 : Nat) (Z0 : n0 ≤ h0.size) (F_category_a1 : Fld Z h0 a1 "com/example/clausewright/clausewright/review/Finding" "category" "Lcom/example/clausewright/clausewright/review/Category;" .null) (F_span_a1 : Fld Z h0 a1 "com/example/clausewright/clausewright/review/Finding" "span" "Lcom/example/clausewright/clausewright/document/TextSpan;" .null) (F_answer_a1 : Fld Z h0 a1 "com/example/clausewright/clausewright/review/Finding" "answer" "Ljava/lang/String;" .null) (F_score_a1 : Fld Z h0 a1 "com/example/clausewright/clausewright/review/Finding" "score" "D" (.double 0)) (F_part_a1 : Fld Z h0 a1 "com/example/clausewright/clausewright/review/Finding" "part" "Lcom/example/clausewright/clausewright/document/Part;" .null) (F_section_a1 : Fld Z h0 a1 "com/example/clausewright/clausewright/review/Finding" "section" "Lcom/example/clausewright/clausewright/document/Section;" .null) (E_a1 : Exa Z h0 a1 "com/example/clausewright/clausewright/review/Finding") (g_a1 : n0 ≤ a1) (hx1 : (0 : Int32) < cmpValue (FP.dcmp x FP.dconst0) .l) (hx2 : ¬ ((0 : Int32) < cmpValue (FP.dcmp x FP.dconst1) .g)) :
    MetFree l (⟨"com/example/clausewright/clausewright/review/Finding", "<init>", "(Lcom/example/clausewright/clausewright/review/Category;Lcom/example/clausewright/clausewright/document/TextSpan;Ljava/lang/String;DLcom/example/clausewright/clausewright/document/Part;Lcom/example/clausewright/clausewright/document/Section;)V"⟩ : MethodName) (head1 (Jvm.Cond.code (⟨"com/example/clausewright/clausewright/review/Finding", "<init>", "(Lcom/example/clausewright/clausewright/review/Category;Lcom/example/clausewright/clausewright/document/TextSpan;Ljava/lang/String;DLcom/example/clausewright/clausewright/document/Part;Lcom/example/clausewright/clausewright/document/Section;)V"⟩ : MethodName) prog_55_method_1_code 8 none :: ws) ({ frames := 2, cells := 4, slots := 56, locals := 24 } : Room)) (fun a U => a = #[(.ref a1), (.ref a2), (.ref a3), .null, (.double x), .null, .null] ∧ Z.Warmed39 U.vm ∧ U.heap = h0) (fun _ _ _ _ _ => True) (fun _ U o U' => ∃ v L, o = .returned v ∧ Q_rm4 Z a1 x h0 n0 v U'.heap L ∧ ReturnedEndW U o U' L ({ frames := 2, cells := 4, slots := 56, locals := 24 } : Room).cells ({ frames := 2, cells := 4, slots := 56, locals := 24 } : Room).slots) := by
  refine MetFree.of_bodySF (plainFor_of_name pn_4) hisR ?_
  intro p e s m args below meth c s₁ Bd hml0 hP hK
  obtain ⟨rfl, hZ, hh⟩ := hP
  have hx := Bd.exec
  have hby := Bd.bytes
  have hml : c.maxLocals = 8 := hml0
  have hown : s.vm.findClass "com/example/clausewright/clausewright/review/Finding" = some m.cls := findClass_of_methodNamed Bd.named
  have hnm := (name_of_methodNamed Bd.named Bd.method).1
  have hZ : Z.Warmed39 (s.setVm s.vm).vm := hZ
  have hown : (s.setVm s.vm).vm.findClass "com/example/clausewright/clausewright/review/Finding" = some m.cls := hown
  have hS : s.Since s.vm 0 := (State.WarmedH.refl s).since 0
  have hk : 0 ≤ h0.size := Nat.zero_le _
  have X0 : Stand p l e ({ frames := 2, cells := 4, slots := 56, locals := 24 } : Room) (s.setVm s.vm) m #[(.ref a1), (.ref a2), (.ref a3), .null, (.double x), .null, .null] below meth c s₁ [] 0 0 := Stand.of_body Bd
  have e0 : s₁.heap = h0 := by rw [← hh, Bd.state]; rfl
  have N0 := Fr.nil n0
  have K : Keep h0 h0 [a1] := Keep.refl h0 [a1]
  show own_Gd p.tables e below (own_PW (Q_rm4 Z a1 x h0 n0) s ({ frames := 2, cells := 4, slots := 56, locals := 24 } : Room).cells ({ frames := 2, cells := 4, slots := 56, locals := 24 } : Room).slots) _
  refine own_go (B := s₁.setTop (mkF m 0 #[.val (.ref a1), .val (.ref a2), .val (.ref a3), .val .null, .val (.double x), .second, .val .null, .val .null] [])) (fun t k => castTop (ef_rm4 m a1 a2 a3 x) k) ?_
  refine own_go (B := s₁.setTop (mkF m 1 #[.val (.ref a1), .val (.ref a2), .val (.ref a3), .val .null, .val (.double x), .second, .val .null, .val .null] [(.ref a1)])) (fun t k => ?_) ?_
  · show Steps p.tables e below (s₁.setTop (mkF m 0 #[.val (.ref a1), .val (.ref a2), .val (.ref a3), .val .null, .val (.double x), .second, .val .null, .val .null] [])) _
    refine XS.aloadN X0.here hx rfl (hb hby d4_0) rfl rfl ?_
    show Steps p.tables e below (s₁.setTop (mkF m 1 #[.val (.ref a1), .val (.ref a2), .val (.ref a3), .val .null, .val (.double x), .second, .val .null, .val .null] [(.ref a1)])) _
    exact k
  obtain ⟨_, _, ⟨T1, L1, k1, n1⟩, -, X1, ⟨Lc1, hQ1, l1, y1, z1⟩, st1⟩ := X0.specialBack hx (y := (⟨"java/lang/Record", "<init>", "()V"⟩ : MethodName)) rfl hown (mvT hZ (hw _ (List.mem_of_getElem? (i := 43) rfl))) (mvT hZ (hw _ (List.mem_of_getElem? (i := 23) rfl))) (mvT hZ (hw _ (List.mem_of_getElem? (i := 26) rfl))) (by decide) (backOf (W := 0) (rm2 l Z a0 hw [] a1 h0 n0 Z0) hZ (hw _ (List.mem_of_getElem? (i := 26) rfl)) (hw _ (List.mem_of_getElem? (i := 25) rfl)) (by decide) (by decide)) (g := (mkF m 1 #[.val (.ref a1), .val (.ref a2), .val (.ref a3), .val .null, .val (.double x), .second, .val .null, .val .null] [(.ref a1)])) rfl (by rw [hml]; rfl) (Steps.refl _) (a := a1) (argsL := []) (rest := []) (lenOf pd_0 rfl) rfl (by show 2 * 0 + _ ≤ _; exact Nat.le_of_eq rfl) (hb hby d4_1) (fun _ _ => ⟨rfl, e0, Nat.le_of_ble_eq_true rfl, Nat.le_of_ble_eq_true rfl⟩)
  dsimp only [Pt.U, Pt.locs, Pt.cells, Pt.slots] at X1 l1 y1 z1 st1 hQ1
  subst l1 y1 z1
  obtain ⟨h1, e1⟩ : ∃ z, T1.heap = z := ⟨_, rfl⟩
  rw [e1] at hQ1
  obtain ⟨rfl, N1q, eq1⟩ := hQ1
  have N1 := Fr.app N0 N1q
  rw [eq1] at e1
  refine own_go (B := T1.setTop (mkF m 4 #[.val (.ref a1), .val (.ref a2), .val (.ref a3), .val .null, .val (.double x), .second, .val .null, .val .null] [])) (fun t k => st1.trans k) ?_
  refine own_go (B := T1.setTop (mkF m 5 #[.val (.ref a1), .val (.ref a2), .val (.ref a3), .val .null, .val (.double x), .second, .val .null, .val .null] [(.ref a2)])) (fun t k => ?_) ?_
  · show Steps p.tables e below (T1.setTop (mkF m 4 #[.val (.ref a1), .val (.ref a2), .val (.ref a3), .val .null, .val (.double x), .second, .val .null, .val .null] [])) _
    refine XS.aloadN X1.here hx rfl (hb hby d4_4) rfl rfl ?_
    show Steps p.tables e below (T1.setTop (mkF m 5 #[.val (.ref a1), .val (.ref a2), .val (.ref a3), .val .null, .val (.double x), .second, .val .null, .val .null] [(.ref a2)])) _
    exact k
  obtain ⟨lit2, T2, h2, k2, X2, e2, E2, hS, hk, hZ, hown, st2⟩ := ldcS X1 hx hZ hown (hw _ (List.mem_of_getElem? (i := 44) rfl)) (own_strs hw) e1 hS hk (g := (mkF m 5 #[.val (.ref a1), .val (.ref a2), .val (.ref a3), .val .null, .val (.double x), .second, .val .null, .val .null] [(.ref a2)])) rfl (hb hby d4_5) (n := 32) (by decide) (by decide) (by decide) (by decide)
  have E_a1 := E_a1.ext E2
  have F_category_a1 := F_category_a1.ext E2
  have F_span_a1 := F_span_a1.ext E2
  have F_answer_a1 := F_answer_a1.ext E2
  have F_score_a1 := F_score_a1.ext E2
  have F_part_a1 := F_part_a1.ext E2
  have F_section_a1 := F_section_a1.ext E2
  have K := K.ext E2
  have Z0 := Nat.le_trans Z0 E2.1
  refine own_go (B := T2.setTop (mkF m 7 #[.val (.ref a1), .val (.ref a2), .val (.ref a3), .val .null, .val (.double x), .second, .val .null, .val .null] [(.ref lit2), (.ref a2)])) st2 ?_
  obtain ⟨_, _, ⟨T3, L3, k3, n3⟩, -, X3, ⟨Lc3, hQ3, l3, y3, z3⟩, st3⟩ := Jvm.LawKit.callS X2 hx (y := (⟨"java/util/Objects", "requireNonNull", "(Ljava/lang/Object;Ljava/lang/String;)Ljava/lang/Object;"⟩ : MethodName)) hown (mvT hZ (hw _ (List.mem_of_getElem? (i := 45) rfl))) (mvT hZ (hw _ (List.mem_of_getElem? (i := 46) rfl))) (mvT hZ (hw _ (List.mem_of_getElem? (i := 47) rfl))) (mvT hZ (hw _ (List.mem_of_getElem? (i := 48) rfl))) (by decide) (backOf (W := 0) (rm5 l Z a0 hw [] a2 lit2 h2 n0 Z0) hZ (hw _ (List.mem_of_getElem? (i := 48) rfl)) (hw _ (List.mem_of_getElem? (i := 47) rfl)) (by decide) (by decide)) (g := (mkF m 7 #[.val (.ref a1), .val (.ref a2), .val (.ref a3), .val .null, .val (.double x), .second, .val .null, .val .null] [(.ref lit2), (.ref a2)])) rfl (by rw [hml]; rfl) (argsL := [(.ref a2), (.ref lit2)]) (rest := []) (lenOf pd_1 rfl) rfl (by show 2 * 0 + _ ≤ _; exact Nat.le_of_eq rfl) (hb hby d4_7) (fun _ _ => ⟨rfl, e2, Nat.le_of_ble_eq_true rfl, Nat.le_of_ble_eq_true rfl⟩)
  dsimp only [Pt.U, Pt.locs, Pt.cells, Pt.slots] at X3 l3 y3 z3 st3 hQ3
  subst l3 y3 z3
  obtain ⟨h3, e3⟩ : ∃ z, T3.heap = z := ⟨_, rfl⟩
  rw [e3] at hQ3
  obtain ⟨rfl, N3q, eq3⟩ := hQ3
  have N3 := Fr.app N1 N3q
  rw [eq3] at e3
  refine own_go (B := T3.setTop (mkF m 10 #[.val (.ref a1), .val (.ref a2), .val (.ref a3), .val .null, .val (.double x), .second, .val .null, .val .null] [(.ref a2)])) st3 ?_
  refine own_go (B := T3.setTop (mkF m 12 #[.val (.ref a1), .val (.ref a2), .val (.ref a3), .val .null, .val (.double x), .second, .val .null, .val .null] [(.ref a3)])) (fun t k => ?_) ?_
  · show Steps p.tables e below (T3.setTop (mkF m 10 #[.val (.ref a1), .val (.ref a2), .val (.ref a3), .val .null, .val (.double x), .second, .val .null, .val .null] [(.ref a2)])) _
    refine XS.pop X3.here hx rfl (hb hby d4_10) rfl rfl ?_
    show Steps p.tables e below (T3.setTop (mkF m 11 #[.val (.ref a1), .val (.ref a2), .val (.ref a3), .val .null, .val (.double x), .second, .val .null, .val .null] [])) _
    refine XS.aloadN X3.here hx rfl (hb hby d4_11) rfl rfl ?_
    show Steps p.tables e below (T3.setTop (mkF m 12 #[.val (.ref a1), .val (.ref a2), .val (.ref a3), .val .null, .val (.double x), .second, .val .null, .val .null] [(.ref a3)])) _
    exact k
  obtain ⟨lit4, T4, h4, k4, X4, e4, E4, hS, hk, hZ, hown, st4⟩ := ldcS X3 hx hZ hown (hw _ (List.mem_of_getElem? (i := 49) rfl)) (own_strs hw) e3 hS hk (g := (mkF m 12 #[.val (.ref a1), .val (.ref a2), .val (.ref a3), .val .null, .val (.double x), .second, .val .null, .val .null] [(.ref a3)])) rfl (hb hby d4_12) (n := 16) (by decide) (by decide) (by decide) (by decide)
  have E_a1 := E_a1.ext E4
  have F_category_a1 := F_category_a1.ext E4
  have F_span_a1 := F_span_a1.ext E4
  have F_answer_a1 := F_answer_a1.ext E4
  have F_score_a1 := F_score_a1.ext E4
  have F_part_a1 := F_part_a1.ext E4
  have F_section_a1 := F_section_a1.ext E4
  have K := K.ext E4
  have Z0 := Nat.le_trans Z0 E4.1
  refine own_go (B := T4.setTop (mkF m 14 #[.val (.ref a1), .val (.ref a2), .val (.ref a3), .val .null, .val (.double x), .second, .val .null, .val .null] [(.ref lit4), (.ref a3)])) st4 ?_
  obtain ⟨_, _, ⟨T5, L5, k5, n5⟩, -, X5, ⟨Lc5, hQ5, l5, y5, z5⟩, st5⟩ := Jvm.LawKit.callS X4 hx (y := (⟨"java/util/Objects", "requireNonNull", "(Ljava/lang/Object;Ljava/lang/String;)Ljava/lang/Object;"⟩ : MethodName)) hown (mvT hZ (hw _ (List.mem_of_getElem? (i := 45) rfl))) (mvT hZ (hw _ (List.mem_of_getElem? (i := 46) rfl))) (mvT hZ (hw _ (List.mem_of_getElem? (i := 47) rfl))) (mvT hZ (hw _ (List.mem_of_getElem? (i := 48) rfl))) (by decide) (backOf (W := 0) (rm5 l Z a0 hw [] a3 lit4 h4 n0 Z0) hZ (hw _ (List.mem_of_getElem? (i := 48) rfl)) (hw _ (List.mem_of_getElem? (i := 47) rfl)) (by decide) (by decide)) (g := (mkF m 14 #[.val (.ref a1), .val (.ref a2), .val (.ref a3), .val .null, .val (.double x), .second, .val .null, .val .null] [(.ref lit4), (.ref a3)])) rfl (by rw [hml]; rfl) (argsL := [(.ref a3), (.ref lit4)]) (rest := []) (lenOf pd_1 rfl) rfl (by show 2 * 0 + _ ≤ _; exact Nat.le_of_eq rfl) (hb hby d4_14) (fun _ _ => ⟨rfl, e4, Nat.le_of_ble_eq_true rfl, Nat.le_of_ble_eq_true rfl⟩)
  dsimp only [Pt.U, Pt.locs, Pt.cells, Pt.slots] at X5 l5 y5 z5 st5 hQ5
  subst l5 y5 z5
  obtain ⟨h5, e5⟩ : ∃ z, T5.heap = z := ⟨_, rfl⟩
  rw [e5] at hQ5
  obtain ⟨rfl, N5q, eq5⟩ := hQ5
  have N5 := Fr.app N3 N5q
  rw [eq5] at e5
  refine own_go (B := T5.setTop (mkF m 17 #[.val (.ref a1), .val (.ref a2), .val (.ref a3), .val .null, .val (.double x), .second, .val .null, .val .null] [(.ref a3)])) st5 ?_
  refine own_go (B := T5.setTop (mkF m 49 #[.val (.ref a1), .val (.ref a2), .val (.ref a3), .val .null, .val (.double x), .second, .val .null, .val .null] [(.ref a2), (.ref a1)])) (fun t k => ?_) ?_
  · show Steps p.tables e below (T5.setTop (mkF m 17 #[.val (.ref a1), .val (.ref a2), .val (.ref a3), .val .null, .val (.double x), .second, .val .null, .val .null] [(.ref a3)])) _
    refine XS.pop X5.here hx rfl (hb hby d4_17) rfl rfl ?_
    show Steps p.tables e below (T5.setTop (mkF m 18 #[.val (.ref a1), .val (.ref a2), .val (.ref a3), .val .null, .val (.double x), .second, .val .null, .val .null] [])) _
    refine XS.dload X5.here hx rfl (hb hby d4_18) rfl ?_
    show Steps p.tables e below (T5.setTop (mkF m 20 #[.val (.ref a1), .val (.ref a2), .val (.ref a3), .val .null, .val (.double x), .second, .val .null, .val .null] [(.double x)])) _
    refine XS.dconst0 X5.here hx rfl (hb hby d4_20) rfl ?_
    show Steps p.tables e below (T5.setTop (mkF m 21 #[.val (.ref a1), .val (.ref a2), .val (.ref a3), .val .null, .val (.double x), .second, .val .null, .val .null] [(.double FP.dconst0), (.double x)])) _
    refine XS.dcmpS X5.here hx rfl (hb hby d4_21) rfl rfl ?_
    show Steps p.tables e below (T5.setTop (mkF m 22 #[.val (.ref a1), .val (.ref a2), .val (.ref a3), .val .null, .val (.double x), .second, .val .null, .val .null] [(.int (cmpValue (FP.dcmp x FP.dconst0) .l))])) _
    refine XS.ifNo X5.here hx rfl (hb hby d4_22) rfl ((if0 _ _).trans (tlt (hx1 : (0 : Int32) < (cmpValue (FP.dcmp x FP.dconst0) .l))).2.2.2) ?_
    show Steps p.tables e below (T5.setTop (mkF m 25 #[.val (.ref a1), .val (.ref a2), .val (.ref a3), .val .null, .val (.double x), .second, .val .null, .val .null] [])) _
    refine XS.dload X5.here hx rfl (hb hby d4_25) rfl ?_
    show Steps p.tables e below (T5.setTop (mkF m 27 #[.val (.ref a1), .val (.ref a2), .val (.ref a3), .val .null, .val (.double x), .second, .val .null, .val .null] [(.double x)])) _
    refine XS.dconst1 X5.here hx rfl (hb hby d4_27) rfl ?_
    show Steps p.tables e below (T5.setTop (mkF m 28 #[.val (.ref a1), .val (.ref a2), .val (.ref a3), .val .null, .val (.double x), .second, .val .null, .val .null] [(.double FP.dconst1), (.double x)])) _
    refine XS.dcmpS X5.here hx rfl (hb hby d4_28) rfl rfl ?_
    show Steps p.tables e below (T5.setTop (mkF m 29 #[.val (.ref a1), .val (.ref a2), .val (.ref a3), .val .null, .val (.double x), .second, .val .null, .val .null] [(.int (cmpValue (FP.dcmp x FP.dconst1) .g))])) _
    refine XS.ifYes X5.here hx rfl (pc0 := 29) (pc' := 47) rfl (hb hby d4_29) rfl ((if0 _ _).trans (flt (hx2 : ¬ ((0 : Int32) < (cmpValue (FP.dcmp x FP.dconst1) .g)))).2.2.2) (by decide) (by decide) ?_
    show Steps p.tables e below (T5.setTop (mkF m 47 #[.val (.ref a1), .val (.ref a2), .val (.ref a3), .val .null, .val (.double x), .second, .val .null, .val .null] [])) _
    refine XS.aloadN X5.here hx rfl (hb hby d4_47) rfl rfl ?_
    show Steps p.tables e below (T5.setTop (mkF m 48 #[.val (.ref a1), .val (.ref a2), .val (.ref a3), .val .null, .val (.double x), .second, .val .null, .val .null] [(.ref a1)])) _
    refine XS.aloadN X5.here hx rfl (hb hby d4_48) rfl rfl ?_
    show Steps p.tables e below (T5.setTop (mkF m 49 #[.val (.ref a1), .val (.ref a2), .val (.ref a3), .val .null, .val (.double x), .second, .val .null, .val .null] [(.ref a2), (.ref a1)])) _
    exact k
  obtain ⟨T6, h6, X6, e6, W6, st6⟩ := putF X5 hx hZ hown (host := "") (Or.inl (hw _ (List.mem_of_getElem? (i := 50) rfl))) Via.refl e5 F_category_a1 E_a1 (Or.inr ⟨(hw _ (List.mem_of_getElem? (i := 51) rfl)), rfl, hnm⟩) (hw _ (List.mem_of_getElem? (i := 3) rfl)) (v := (.ref a2)) (ty := (.object "com/example/clausewright/clausewright/review/Category")) (by decide) rfl rfl (g := (mkF m 49 #[.val (.ref a1), .val (.ref a2), .val (.ref a3), .val .null, .val (.double x), .second, .val .null, .val .null] [(.ref a2), (.ref a1)])) rfl rfl (hb hby d4_49)
  have Fw6 := F_category_a1.same W6
  have E_a1 := E_a1.wr W6
  have F_span_a1 := F_span_a1.other W6 (Or.inr (slot_ne (Or.inr (hw _ (List.mem_of_getElem? (i := 53) rfl))) (Or.inr (hw _ (List.mem_of_getElem? (i := 51) rfl))) (by decide) (t := (.object "com/example/clausewright/clausewright/document/TextSpan")) (t' := (.object "com/example/clausewright/clausewright/review/Category")) (by decide) (by decide)))
  have F_answer_a1 := F_answer_a1.other W6 (Or.inr (slot_ne (Or.inr (hw _ (List.mem_of_getElem? (i := 55) rfl))) (Or.inr (hw _ (List.mem_of_getElem? (i := 51) rfl))) (by decide) (t := (.object "java/lang/String")) (t' := (.object "com/example/clausewright/clausewright/review/Category")) (by decide) (by decide)))
  have F_score_a1 := F_score_a1.other W6 (Or.inr (slot_ne (Or.inr (hw _ (List.mem_of_getElem? (i := 57) rfl))) (Or.inr (hw _ (List.mem_of_getElem? (i := 51) rfl))) (by decide) (t := .double) (t' := (.object "com/example/clausewright/clausewright/review/Category")) (by decide) (by decide)))
  have F_part_a1 := F_part_a1.other W6 (Or.inr (slot_ne (Or.inr (hw _ (List.mem_of_getElem? (i := 59) rfl))) (Or.inr (hw _ (List.mem_of_getElem? (i := 51) rfl))) (by decide) (t := (.object "com/example/clausewright/clausewright/document/Part")) (t' := (.object "com/example/clausewright/clausewright/review/Category")) (by decide) (by decide)))
  have F_section_a1 := F_section_a1.other W6 (Or.inr (slot_ne (Or.inr (hw _ (List.mem_of_getElem? (i := 61) rfl))) (Or.inr (hw _ (List.mem_of_getElem? (i := 51) rfl))) (by decide) (t := (.object "com/example/clausewright/clausewright/document/Section")) (t' := (.object "com/example/clausewright/clausewright/review/Category")) (by decide) (by decide)))
  have Z0 := Nat.le_trans Z0 (Nat.le_of_eq W6.size.symm)
  have hk := Nat.le_trans hk (Nat.le_of_eq W6.size.symm)
  have F_category_a1 := Fw6
  have K := K.wr W6 (Or.inl (List.mem_of_getElem? (i := 0) rfl))
  have N6 := Fr.snoc X6 N5 g_a1
  refine own_go (B := T6.setTop (mkF m 52 #[.val (.ref a1), .val (.ref a2), .val (.ref a3), .val .null, .val (.double x), .second, .val .null, .val .null] [])) st6 ?_
  refine own_go (B := T6.setTop (mkF m 54 #[.val (.ref a1), .val (.ref a2), .val (.ref a3), .val .null, .val (.double x), .second, .val .null, .val .null] [(.ref a3), (.ref a1)])) (fun t k => ?_) ?_
  · show Steps p.tables e below (T6.setTop (mkF m 52 #[.val (.ref a1), .val (.ref a2), .val (.ref a3), .val .null, .val (.double x), .second, .val .null, .val .null] [])) _
    refine XS.aloadN X6.here hx rfl (hb hby d4_52) rfl rfl ?_
    show Steps p.tables e below (T6.setTop (mkF m 53 #[.val (.ref a1), .val (.ref a2), .val (.ref a3), .val .null, .val (.double x), .second, .val .null, .val .null] [(.ref a1)])) _
    refine XS.aloadN X6.here hx rfl (hb hby d4_53) rfl rfl ?_
    show Steps p.tables e below (T6.setTop (mkF m 54 #[.val (.ref a1), .val (.ref a2), .val (.ref a3), .val .null, .val (.double x), .second, .val .null, .val .null] [(.ref a3), (.ref a1)])) _
    exact k
  obtain ⟨T7, h7, X7, e7, W7, st7⟩ := putF X6 hx hZ hown (host := "") (Or.inl (hw _ (List.mem_of_getElem? (i := 52) rfl))) Via.refl e6 F_span_a1 E_a1 (Or.inr ⟨(hw _ (List.mem_of_getElem? (i := 53) rfl)), rfl, hnm⟩) (hw _ (List.mem_of_getElem? (i := 3) rfl)) (v := (.ref a3)) (ty := (.object "com/example/clausewright/clausewright/document/TextSpan")) (by decide) rfl rfl (g := (mkF m 54 #[.val (.ref a1), .val (.ref a2), .val (.ref a3), .val .null, .val (.double x), .second, .val .null, .val .null] [(.ref a3), (.ref a1)])) rfl rfl (hb hby d4_54)
  have Fw7 := F_span_a1.same W7
  have E_a1 := E_a1.wr W7
  have F_answer_a1 := F_answer_a1.other W7 (Or.inr (slot_ne (Or.inr (hw _ (List.mem_of_getElem? (i := 55) rfl))) (Or.inr (hw _ (List.mem_of_getElem? (i := 53) rfl))) (by decide) (t := (.object "java/lang/String")) (t' := (.object "com/example/clausewright/clausewright/document/TextSpan")) (by decide) (by decide)))
  have F_score_a1 := F_score_a1.other W7 (Or.inr (slot_ne (Or.inr (hw _ (List.mem_of_getElem? (i := 57) rfl))) (Or.inr (hw _ (List.mem_of_getElem? (i := 53) rfl))) (by decide) (t := .double) (t' := (.object "com/example/clausewright/clausewright/document/TextSpan")) (by decide) (by decide)))
  have F_part_a1 := F_part_a1.other W7 (Or.inr (slot_ne (Or.inr (hw _ (List.mem_of_getElem? (i := 59) rfl))) (Or.inr (hw _ (List.mem_of_getElem? (i := 53) rfl))) (by decide) (t := (.object "com/example/clausewright/clausewright/document/Part")) (t' := (.object "com/example/clausewright/clausewright/document/TextSpan")) (by decide) (by decide)))
  have F_section_a1 := F_section_a1.other W7 (Or.inr (slot_ne (Or.inr (hw _ (List.mem_of_getElem? (i := 61) rfl))) (Or.inr (hw _ (List.mem_of_getElem? (i := 53) rfl))) (by decide) (t := (.object "com/example/clausewright/clausewright/document/Section")) (t' := (.object "com/example/clausewright/clausewright/document/TextSpan")) (by decide) (by decide)))
  have F_category_a1 := F_category_a1.other W7 (Or.inr (slot_ne (Or.inr (hw _ (List.mem_of_getElem? (i := 51) rfl))) (Or.inr (hw _ (List.mem_of_getElem? (i := 53) rfl))) (by decide) (t := (.object "com/example/clausewright/clausewright/review/Category")) (t' := (.object "com/example/clausewright/clausewright/document/TextSpan")) (by decide) (by decide)))
  have Z0 := Nat.le_trans Z0 (Nat.le_of_eq W7.size.symm)
  have hk := Nat.le_trans hk (Nat.le_of_eq W7.size.symm)
  have F_span_a1 := Fw7
  have K := K.wr W7 (Or.inl (List.mem_of_getElem? (i := 0) rfl))
  have N7 := Fr.snoc X7 N6 g_a1
  refine own_go (B := T7.setTop (mkF m 57 #[.val (.ref a1), .val (.ref a2), .val (.ref a3), .val .null, .val (.double x), .second, .val .null, .val .null] [])) st7 ?_
  refine own_go (B := T7.setTop (mkF m 59 #[.val (.ref a1), .val (.ref a2), .val (.ref a3), .val .null, .val (.double x), .second, .val .null, .val .null] [.null, (.ref a1)])) (fun t k => ?_) ?_
  · show Steps p.tables e below (T7.setTop (mkF m 57 #[.val (.ref a1), .val (.ref a2), .val (.ref a3), .val .null, .val (.double x), .second, .val .null, .val .null] [])) _
    refine XS.aloadN X7.here hx rfl (hb hby d4_57) rfl rfl ?_
    show Steps p.tables e below (T7.setTop (mkF m 58 #[.val (.ref a1), .val (.ref a2), .val (.ref a3), .val .null, .val (.double x), .second, .val .null, .val .null] [(.ref a1)])) _
    refine XS.aloadN X7.here hx rfl (hb hby d4_58) rfl rfl ?_
    show Steps p.tables e below (T7.setTop (mkF m 59 #[.val (.ref a1), .val (.ref a2), .val (.ref a3), .val .null, .val (.double x), .second, .val .null, .val .null] [.null, (.ref a1)])) _
    exact k
  obtain ⟨T8, h8, X8, e8, W8, st8⟩ := putF X7 hx hZ hown (host := "") (Or.inl (hw _ (List.mem_of_getElem? (i := 54) rfl))) Via.refl e7 F_answer_a1 E_a1 (Or.inr ⟨(hw _ (List.mem_of_getElem? (i := 55) rfl)), rfl, hnm⟩) (hw _ (List.mem_of_getElem? (i := 3) rfl)) (v := .null) (ty := (.object "java/lang/String")) (by decide) rfl rfl (g := (mkF m 59 #[.val (.ref a1), .val (.ref a2), .val (.ref a3), .val .null, .val (.double x), .second, .val .null, .val .null] [.null, (.ref a1)])) rfl rfl (hb hby d4_59)
  have Fw8 := F_answer_a1.same W8
  have E_a1 := E_a1.wr W8
  have F_score_a1 := F_score_a1.other W8 (Or.inr (slot_ne (Or.inr (hw _ (List.mem_of_getElem? (i := 57) rfl))) (Or.inr (hw _ (List.mem_of_getElem? (i := 55) rfl))) (by decide) (t := .double) (t' := (.object "java/lang/String")) (by decide) (by decide)))
  have F_part_a1 := F_part_a1.other W8 (Or.inr (slot_ne (Or.inr (hw _ (List.mem_of_getElem? (i := 59) rfl))) (Or.inr (hw _ (List.mem_of_getElem? (i := 55) rfl))) (by decide) (t := (.object "com/example/clausewright/clausewright/document/Part")) (t' := (.object "java/lang/String")) (by decide) (by decide)))
  have F_section_a1 := F_section_a1.other W8 (Or.inr (slot_ne (Or.inr (hw _ (List.mem_of_getElem? (i := 61) rfl))) (Or.inr (hw _ (List.mem_of_getElem? (i := 55) rfl))) (by decide) (t := (.object "com/example/clausewright/clausewright/document/Section")) (t' := (.object "java/lang/String")) (by decide) (by decide)))
  have F_category_a1 := F_category_a1.other W8 (Or.inr (slot_ne (Or.inr (hw _ (List.mem_of_getElem? (i := 51) rfl))) (Or.inr (hw _ (List.mem_of_getElem? (i := 55) rfl))) (by decide) (t := (.object "com/example/clausewright/clausewright/review/Category")) (t' := (.object "java/lang/String")) (by decide) (by decide)))
  have F_span_a1 := F_span_a1.other W8 (Or.inr (slot_ne (Or.inr (hw _ (List.mem_of_getElem? (i := 53) rfl))) (Or.inr (hw _ (List.mem_of_getElem? (i := 55) rfl))) (by decide) (t := (.object "com/example/clausewright/clausewright/document/TextSpan")) (t' := (.object "java/lang/String")) (by decide) (by decide)))
  have Z0 := Nat.le_trans Z0 (Nat.le_of_eq W8.size.symm)
  have hk := Nat.le_trans hk (Nat.le_of_eq W8.size.symm)
  have F_answer_a1 := Fw8
  have K := K.wr W8 (Or.inl (List.mem_of_getElem? (i := 0) rfl))
  have N8 := Fr.snoc X8 N7 g_a1
  refine own_go (B := T8.setTop (mkF m 62 #[.val (.ref a1), .val (.ref a2), .val (.ref a3), .val .null, .val (.double x), .second, .val .null, .val .null] [])) st8 ?_
  refine own_go (B := T8.setTop (mkF m 65 #[.val (.ref a1), .val (.ref a2), .val (.ref a3), .val .null, .val (.double x), .second, .val .null, .val .null] [(.double x), (.ref a1)])) (fun t k => ?_) ?_
  · show Steps p.tables e below (T8.setTop (mkF m 62 #[.val (.ref a1), .val (.ref a2), .val (.ref a3), .val .null, .val (.double x), .second, .val .null, .val .null] [])) _
    refine XS.aloadN X8.here hx rfl (hb hby d4_62) rfl rfl ?_
    show Steps p.tables e below (T8.setTop (mkF m 63 #[.val (.ref a1), .val (.ref a2), .val (.ref a3), .val .null, .val (.double x), .second, .val .null, .val .null] [(.ref a1)])) _
    refine XS.dload X8.here hx rfl (hb hby d4_63) rfl ?_
    show Steps p.tables e below (T8.setTop (mkF m 65 #[.val (.ref a1), .val (.ref a2), .val (.ref a3), .val .null, .val (.double x), .second, .val .null, .val .null] [(.double x), (.ref a1)])) _
    exact k
  obtain ⟨T9, h9, X9, e9, W9, st9⟩ := putF X8 hx hZ hown (host := "") (Or.inl (hw _ (List.mem_of_getElem? (i := 56) rfl))) Via.refl e8 F_score_a1 E_a1 (Or.inr ⟨(hw _ (List.mem_of_getElem? (i := 57) rfl)), rfl, hnm⟩) (hw _ (List.mem_of_getElem? (i := 3) rfl)) (v := (.double x)) (ty := .double) (by decide) rfl rfl (g := (mkF m 65 #[.val (.ref a1), .val (.ref a2), .val (.ref a3), .val .null, .val (.double x), .second, .val .null, .val .null] [(.double x), (.ref a1)])) rfl rfl (hb hby d4_65)
  have Fw9 := F_score_a1.same W9
  have E_a1 := E_a1.wr W9
  have F_part_a1 := F_part_a1.other W9 (Or.inr (slot_ne (Or.inr (hw _ (List.mem_of_getElem? (i := 59) rfl))) (Or.inr (hw _ (List.mem_of_getElem? (i := 57) rfl))) (by decide) (t := (.object "com/example/clausewright/clausewright/document/Part")) (t' := .double) (by decide) (by decide)))
  have F_section_a1 := F_section_a1.other W9 (Or.inr (slot_ne (Or.inr (hw _ (List.mem_of_getElem? (i := 61) rfl))) (Or.inr (hw _ (List.mem_of_getElem? (i := 57) rfl))) (by decide) (t := (.object "com/example/clausewright/clausewright/document/Section")) (t' := .double) (by decide) (by decide)))
  have F_category_a1 := F_category_a1.other W9 (Or.inr (slot_ne (Or.inr (hw _ (List.mem_of_getElem? (i := 51) rfl))) (Or.inr (hw _ (List.mem_of_getElem? (i := 57) rfl))) (by decide) (t := (.object "com/example/clausewright/clausewright/review/Category")) (t' := .double) (by decide) (by decide)))
  have F_span_a1 := F_span_a1.other W9 (Or.inr (slot_ne (Or.inr (hw _ (List.mem_of_getElem? (i := 53) rfl))) (Or.inr (hw _ (List.mem_of_getElem? (i := 57) rfl))) (by decide) (t := (.object "com/example/clausewright/clausewright/document/TextSpan")) (t' := .double) (by decide) (by decide)))
  have F_answer_a1 := F_answer_a1.other W9 (Or.inr (slot_ne (Or.inr (hw _ (List.mem_of_getElem? (i := 55) rfl))) (Or.inr (hw _ (List.mem_of_getElem? (i := 57) rfl))) (by decide) (t := (.object "java/lang/String")) (t' := .double) (by decide) (by decide)))
  have Z0 := Nat.le_trans Z0 (Nat.le_of_eq W9.size.symm)
  have hk := Nat.le_trans hk (Nat.le_of_eq W9.size.symm)
  have F_score_a1 := Fw9
  have K := K.wr W9 (Or.inl (List.mem_of_getElem? (i := 0) rfl))
  have N9 := Fr.snoc X9 N8 g_a1
  refine own_go (B := T9.setTop (mkF m 68 #[.val (.ref a1), .val (.ref a2), .val (.ref a3), .val .null, .val (.double x), .second, .val .null, .val .null] [])) st9 ?_
  refine own_go (B := T9.setTop (mkF m 71 #[.val (.ref a1), .val (.ref a2), .val (.ref a3), .val .null, .val (.double x), .second, .val .null, .val .null] [.null, (.ref a1)])) (fun t k => ?_) ?_
  · show Steps p.tables e below (T9.setTop (mkF m 68 #[.val (.ref a1), .val (.ref a2), .val (.ref a3), .val .null, .val (.double x), .second, .val .null, .val .null] [])) _
    refine XS.aloadN X9.here hx rfl (hb hby d4_68) rfl rfl ?_
    show Steps p.tables e below (T9.setTop (mkF m 69 #[.val (.ref a1), .val (.ref a2), .val (.ref a3), .val .null, .val (.double x), .second, .val .null, .val .null] [(.ref a1)])) _
    refine XS.aload X9.here hx rfl (hb hby d4_69) rfl rfl ?_
    show Steps p.tables e below (T9.setTop (mkF m 71 #[.val (.ref a1), .val (.ref a2), .val (.ref a3), .val .null, .val (.double x), .second, .val .null, .val .null] [.null, (.ref a1)])) _
    exact k
  obtain ⟨T10, h10, X10, e10, W10, st10⟩ := putF X9 hx hZ hown (host := "") (Or.inl (hw _ (List.mem_of_getElem? (i := 58) rfl))) Via.refl e9 F_part_a1 E_a1 (Or.inr ⟨(hw _ (List.mem_of_getElem? (i := 59) rfl)), rfl, hnm⟩) (hw _ (List.mem_of_getElem? (i := 3) rfl)) (v := .null) (ty := (.object "com/example/clausewright/clausewright/document/Part")) (by decide) rfl rfl (g := (mkF m 71 #[.val (.ref a1), .val (.ref a2), .val (.ref a3), .val .null, .val (.double x), .second, .val .null, .val .null] [.null, (.ref a1)])) rfl rfl (hb hby d4_71)
  have Fw10 := F_part_a1.same W10
  have E_a1 := E_a1.wr W10
  have F_section_a1 := F_section_a1.other W10 (Or.inr (slot_ne (Or.inr (hw _ (List.mem_of_getElem? (i := 61) rfl))) (Or.inr (hw _ (List.mem_of_getElem? (i := 59) rfl))) (by decide) (t := (.object "com/example/clausewright/clausewright/document/Section")) (t' := (.object "com/example/clausewright/clausewright/document/Part")) (by decide) (by decide)))
  have F_category_a1 := F_category_a1.other W10 (Or.inr (slot_ne (Or.inr (hw _ (List.mem_of_getElem? (i := 51) rfl))) (Or.inr (hw _ (List.mem_of_getElem? (i := 59) rfl))) (by decide) (t := (.object "com/example/clausewright/clausewright/review/Category")) (t' := (.object "com/example/clausewright/clausewright/document/Part")) (by decide) (by decide)))
  have F_span_a1 := F_span_a1.other W10 (Or.inr (slot_ne (Or.inr (hw _ (List.mem_of_getElem? (i := 53) rfl))) (Or.inr (hw _ (List.mem_of_getElem? (i := 59) rfl))) (by decide) (t := (.object "com/example/clausewright/clausewright/document/TextSpan")) (t' := (.object "com/example/clausewright/clausewright/document/Part")) (by decide) (by decide)))
  have F_answer_a1 := F_answer_a1.other W10 (Or.inr (slot_ne (Or.inr (hw _ (List.mem_of_getElem? (i := 55) rfl))) (Or.inr (hw _ (List.mem_of_getElem? (i := 59) rfl))) (by decide) (t := (.object "java/lang/String")) (t' := (.object "com/example/clausewright/clausewright/document/Part")) (by decide) (by decide)))
  have F_score_a1 := F_score_a1.other W10 (Or.inr (slot_ne (Or.inr (hw _ (List.mem_of_getElem? (i := 57) rfl))) (Or.inr (hw _ (List.mem_of_getElem? (i := 59) rfl))) (by decide) (t := .double) (t' := (.object "com/example/clausewright/clausewright/document/Part")) (by decide) (by decide)))
  have Z0 := Nat.le_trans Z0 (Nat.le_of_eq W10.size.symm)
  have hk := Nat.le_trans hk (Nat.le_of_eq W10.size.symm)
  have F_part_a1 := Fw10
  have K := K.wr W10 (Or.inl (List.mem_of_getElem? (i := 0) rfl))
  have N10 := Fr.snoc X10 N9 g_a1
  refine own_go (B := T10.setTop (mkF m 74 #[.val (.ref a1), .val (.ref a2), .val (.ref a3), .val .null, .val (.double x), .second, .val .null, .val .null] [])) st10 ?_
  refine own_go (B := T10.setTop (mkF m 77 #[.val (.ref a1), .val (.ref a2), .val (.ref a3), .val .null, .val (.double x), .second, .val .null, .val .null] [.null, (.ref a1)])) (fun t k => ?_) ?_
  · show Steps p.tables e below (T10.setTop (mkF m 74 #[.val (.ref a1), .val (.ref a2), .val (.ref a3), .val .null, .val (.double x), .second, .val .null, .val .null] [])) _
    refine XS.aloadN X10.here hx rfl (hb hby d4_74) rfl rfl ?_
    show Steps p.tables e below (T10.setTop (mkF m 75 #[.val (.ref a1), .val (.ref a2), .val (.ref a3), .val .null, .val (.double x), .second, .val .null, .val .null] [(.ref a1)])) _
    refine XS.aload X10.here hx rfl (hb hby d4_75) rfl rfl ?_
    show Steps p.tables e below (T10.setTop (mkF m 77 #[.val (.ref a1), .val (.ref a2), .val (.ref a3), .val .null, .val (.double x), .second, .val .null, .val .null] [.null, (.ref a1)])) _
    exact k
  obtain ⟨T11, h11, X11, e11, W11, st11⟩ := putF X10 hx hZ hown (host := "") (Or.inl (hw _ (List.mem_of_getElem? (i := 60) rfl))) Via.refl e10 F_section_a1 E_a1 (Or.inr ⟨(hw _ (List.mem_of_getElem? (i := 61) rfl)), rfl, hnm⟩) (hw _ (List.mem_of_getElem? (i := 3) rfl)) (v := .null) (ty := (.object "com/example/clausewright/clausewright/document/Section")) (by decide) rfl rfl (g := (mkF m 77 #[.val (.ref a1), .val (.ref a2), .val (.ref a3), .val .null, .val (.double x), .second, .val .null, .val .null] [.null, (.ref a1)])) rfl rfl (hb hby d4_77)
  have Fw11 := F_section_a1.same W11
  have E_a1 := E_a1.wr W11
  have F_category_a1 := F_category_a1.other W11 (Or.inr (slot_ne (Or.inr (hw _ (List.mem_of_getElem? (i := 51) rfl))) (Or.inr (hw _ (List.mem_of_getElem? (i := 61) rfl))) (by decide) (t := (.object "com/example/clausewright/clausewright/review/Category")) (t' := (.object "com/example/clausewright/clausewright/document/Section")) (by decide) (by decide)))
  have F_span_a1 := F_span_a1.other W11 (Or.inr (slot_ne (Or.inr (hw _ (List.mem_of_getElem? (i := 53) rfl))) (Or.inr (hw _ (List.mem_of_getElem? (i := 61) rfl))) (by decide) (t := (.object "com/example/clausewright/clausewright/document/TextSpan")) (t' := (.object "com/example/clausewright/clausewright/document/Section")) (by decide) (by decide)))
  have F_answer_a1 := F_answer_a1.other W11 (Or.inr (slot_ne (Or.inr (hw _ (List.mem_of_getElem? (i := 55) rfl))) (Or.inr (hw _ (List.mem_of_getElem? (i := 61) rfl))) (by decide) (t := (.object "java/lang/String")) (t' := (.object "com/example/clausewright/clausewright/document/Section")) (by decide) (by decide)))
  have F_score_a1 := F_score_a1.other W11 (Or.inr (slot_ne (Or.inr (hw _ (List.mem_of_getElem? (i := 57) rfl))) (Or.inr (hw _ (List.mem_of_getElem? (i := 61) rfl))) (by decide) (t := .double) (t' := (.object "com/example/clausewright/clausewright/document/Section")) (by decide) (by decide)))
  have F_part_a1 := F_part_a1.other W11 (Or.inr (slot_ne (Or.inr (hw _ (List.mem_of_getElem? (i := 59) rfl))) (Or.inr (hw _ (List.mem_of_getElem? (i := 61) rfl))) (by decide) (t := (.object "com/example/clausewright/clausewright/document/Part")) (t' := (.object "com/example/clausewright/clausewright/document/Section")) (by decide) (by decide)))
  have Z0 := Nat.le_trans Z0 (Nat.le_of_eq W11.size.symm)
  have hk := Nat.le_trans hk (Nat.le_of_eq W11.size.symm)
  have F_section_a1 := Fw11
  have K := K.wr W11 (Or.inl (List.mem_of_getElem? (i := 0) rfl))
  have N11 := Fr.snoc X11 N10 g_a1
  refine own_go (B := T11.setTop (mkF m 80 #[.val (.ref a1), .val (.ref a2), .val (.ref a3), .val .null, .val (.double x), .second, .val .null, .val .null] [])) st11 ?_
  obtain ⟨fs, hr, hrun, hended, hRW⟩ := X11.leaveW hS (by rw [e11]; exact hk) (v := none) (fun _ => rfl)
  refine own_done (X11.returnOut hx Bd.returns (hb hby d4_80) hr) hrun hended ⟨_, _, rfl, ?_, hRW.1, hRW.2.1, hRW.2.2.1, hRW.2.2.2.mono (by decide) (by decide)⟩
  show Q_rm4 Z a1 x h0 n0 (none) T11.heap _
  rw [e11]
  exact ⟨rfl, N11, K, E_a1, F_score_a1⟩
def Q_rm6 (Z : State) (x : UInt64) (h0 : Heap) (n0 : Nat) (v : Option Value) (h : Heap) (L : List Loc) : Prop := v = some (.int (own_cl x)) ∧ Fr n0 L ∧ h = h0
theorem d6_0 : decode prog_55_method_3_code 0 = .ok (.aload_n 0, 1) := by decide +kernel
theorem d6_1 : decode prog_55_method_3_code 1 = .ok (.getfield 38, 3) := by decide +kernel
theorem d6_4 : decode prog_55_method_3_code 4 = .ok (.ldc2_w 53, 3) := by decide +kernel
theorem d6_7 : decode prog_55_method_3_code 7 = .ok (.dcmp .l, 1) := by decide +kernel
theorem d6_8 : decode prog_55_method_3_code 8 = .ok (.ifCond .lt 7, 3) := by decide +kernel
theorem d6_11 : decode prog_55_method_3_code 11 = .ok (.iconst 1, 1) := by decide +kernel
theorem d6_12 : decode prog_55_method_3_code 12 = .ok (.goto 4, 3) := by decide +kernel
theorem d6_15 : decode prog_55_method_3_code 15 = .ok (.iconst 0, 1) := by decide +kernel
theorem d6_16 : decode prog_55_method_3_code 16 = .ok (.ireturn, 1) := by decide +kernel
theorem ef_rm6 (m : MethodId) (x0 : Addr) : entryFrame m #[(.ref x0)] 1 = mkF m 0 #[.val (.ref x0)] [] := by first | (simp [entryFrame, mkF, argsToLocals, Value.category, maxLocals]; done) | rfl
set_option maxRecDepth 65536 in
set_option maxHeartbeats 40000000 in
theorem rm6 (l : Launch) (Z : State) (a0 : Array Value) (hw : ∀ d ∈ tables_1, d.before a0 Z = true) (ws : List Jvm.Cond) (a1 : Addr) (x : UInt64) (h0 : Heap) (n0 : Nat) (Z0 : n0 ≤ h0.size) (F_score_a1 : Fld Z h0 a1 "com/example/clausewright/clausewright/review/Finding" "score" "D" (.double x)) :
    MetFree l (⟨"com/example/clausewright/clausewright/review/Finding", "isClaim", "()Z"⟩ : MethodName) (head1 (Jvm.Cond.code (⟨"com/example/clausewright/clausewright/review/Finding", "isClaim", "()Z"⟩ : MethodName) prog_55_method_3_code 1 (some .boolean) :: ws) ({ frames := 0, cells := 0, slots := 0, locals := 0 } : Room)) (fun a U => a = #[(.ref a1)] ∧ Z.Warmed39 U.vm ∧ U.heap = h0) (fun _ _ _ _ _ => True) (fun _ U o U' => ∃ v L, o = .returned v ∧ Q_rm6 Z x h0 n0 v U'.heap L ∧ FrameEnd U o U' L ({ frames := 0, cells := 0, slots := 0, locals := 0 } : Room).cells ({ frames := 0, cells := 0, slots := 0, locals := 0 } : Room).slots) := by
  refine MetFree.of_bodySF (plainFor_of_name pn_6) hisR ?_
  intro p e s m args below meth c s₁ Bd hml0 hP hK
  obtain ⟨rfl, hZ, hh⟩ := hP
  have hx := Bd.exec
  have hby := Bd.bytes
  have hml : c.maxLocals = 1 := hml0
  have hown : s.vm.findClass "com/example/clausewright/clausewright/review/Finding" = some m.cls := findClass_of_methodNamed Bd.named
  have hnm := (name_of_methodNamed Bd.named Bd.method).1
  have X0 : Stand p l e ({ frames := 0, cells := 0, slots := 0, locals := 0 } : Room) s m #[(.ref a1)] below meth c s₁ [] 0 0 := Stand.of_body Bd
  have e0 : s₁.heap = h0 := by rw [← hh, Bd.state]; rfl
  have N0 := Fr.nil n0
  have K : Keep h0 h0 [] := Keep.refl h0 []
  show own_Gd p.tables e below (own_P (Q_rm6 Z x h0 n0) s ({ frames := 0, cells := 0, slots := 0, locals := 0 } : Room).cells ({ frames := 0, cells := 0, slots := 0, locals := 0 } : Room).slots) _
  refine own_go (B := s₁.setTop (mkF m 0 #[.val (.ref a1)] [])) (fun t k => castTop (ef_rm6 m a1) k) ?_
  refine own_go (B := s₁.setTop (mkF m 1 #[.val (.ref a1)] [(.ref a1)])) (fun t k => ?_) ?_
  · show Steps p.tables e below (s₁.setTop (mkF m 0 #[.val (.ref a1)] [])) _
    refine XS.aloadN X0.here hx rfl (hb hby d6_0) rfl rfl ?_
    show Steps p.tables e below (s₁.setTop (mkF m 1 #[.val (.ref a1)] [(.ref a1)])) _
    exact k
  obtain ⟨T1, X1, e1, st1⟩ := getF X0 hx hZ hown (host := "") (Or.inl (hw _ (List.mem_of_getElem? (i := 56) rfl))) Via.refl e0 F_score_a1 (g := (mkF m 1 #[.val (.ref a1)] [(.ref a1)])) rfl rfl (hb hby d6_1)
  refine own_go (B := T1.setTop (mkF m 4 #[.val (.ref a1)] [(.double x)])) st1 ?_
  refine own_go (B := T1.setTop (mkF m 8 #[.val (.ref a1)] [(.int (cmpValue (FP.dcmp x (4602678819172646912 : UInt64)) .l))])) (fun t k => ?_) ?_
  · show Steps p.tables e below (T1.setTop (mkF m 4 #[.val (.ref a1)] [(.double x)])) _
    refine X1.ldc2DoubleC hx hown (mvT hZ (hw _ (List.mem_of_getElem? (i := 68) rfl))) (g := (mkF m 4 #[.val (.ref a1)] [(.double x)])) rfl (hb hby d6_4) _ ?_
    show Steps p.tables e below (T1.setTop (mkF m 7 #[.val (.ref a1)] [(.double (4602678819172646912 : UInt64)), (.double x)])) _
    refine XS.dcmpS X1.here hx rfl (hb hby d6_7) rfl rfl ?_
    show Steps p.tables e below (T1.setTop (mkF m 8 #[.val (.ref a1)] [(.int (cmpValue (FP.dcmp x (4602678819172646912 : UInt64)) .l))])) _
    exact k
  by_cases hc8 : (cmpValue (FP.dcmp x (4602678819172646912 : UInt64)) .l) < (0 : Int32)
  · refine own_go (B := T1.setTop (mkF m 16 #[.val (.ref a1)] [(.int (0 : Int32))])) (fun t k => ?_) ?_
    · show Steps p.tables e below (T1.setTop (mkF m 8 #[.val (.ref a1)] [(.int (cmpValue (FP.dcmp x (4602678819172646912 : UInt64)) .l))])) _
      refine XS.ifYes X1.here hx rfl (pc0 := 8) (pc' := 15) rfl (hb hby d6_8) rfl ((if0 _ _).trans (tlt hc8).1) (by decide) (by decide) ?_
      show Steps p.tables e below (T1.setTop (mkF m 15 #[.val (.ref a1)] [])) _
      refine XS.iconst X1.here hx rfl (hb hby d6_15) ?_
      show Steps p.tables e below (T1.setTop (mkF m 16 #[.val (.ref a1)] [(.int (0 : Int32))])) _
      exact k
    obtain ⟨fs, hr, hrun, hended, hW, hsame⟩ := X1.leave (v := some (.int (0 : Int32))) (fun h => by rw [Bd.returns] at h; cases h)
    refine own_done (retN X1 hx (t := .boolean) Bd.returns (by simp) (hb hby d6_16) hr) hrun hended ⟨_, _, rfl, ?_, ⟨_, rfl⟩, hW, hsame.mono (by decide) (by decide)⟩
    show Q_rm6 Z x h0 n0 (some (.int (0 : Int32))) T1.heap _
    rw [e1]
    exact ⟨by unfold own_cl; rw [if_pos hc8], N0, rfl⟩
  · refine own_go (B := T1.setTop (mkF m 16 #[.val (.ref a1)] [(.int (1 : Int32))])) (fun t k => ?_) ?_
    · show Steps p.tables e below (T1.setTop (mkF m 8 #[.val (.ref a1)] [(.int (cmpValue (FP.dcmp x (4602678819172646912 : UInt64)) .l))])) _
      refine XS.ifNo X1.here hx rfl (hb hby d6_8) rfl ((if0 _ _).trans (flt hc8).1) ?_
      show Steps p.tables e below (T1.setTop (mkF m 11 #[.val (.ref a1)] [])) _
      refine XS.iconst X1.here hx rfl (hb hby d6_11) ?_
      show Steps p.tables e below (T1.setTop (mkF m 12 #[.val (.ref a1)] [(.int (1 : Int32))])) _
      refine XS.goto X1.here hx rfl (pc0 := 12) (pc' := 16) rfl (hb hby d6_12) (by decide) (by decide) ?_
      show Steps p.tables e below (T1.setTop (mkF m 16 #[.val (.ref a1)] [(.int (1 : Int32))])) _
      exact k
    obtain ⟨fs, hr, hrun, hended, hW, hsame⟩ := X1.leave (v := some (.int (1 : Int32))) (fun h => by rw [Bd.returns] at h; cases h)
    refine own_done (retN X1 hx (t := .boolean) Bd.returns (by simp) (hb hby d6_16) hr) hrun hended ⟨_, _, rfl, ?_, ⟨_, rfl⟩, hW, hsame.mono (by decide) (by decide)⟩
    show Q_rm6 Z x h0 n0 (some (.int (1 : Int32))) T1.heap _
    rw [e1]
    exact ⟨by unfold own_cl; rw [if_neg hc8], N0, rfl⟩
def Q_rm0 (Z : State) (h0 : Heap) (n0 : Nat) (v : Option Value) (h : Heap) (L : List Loc) : Prop := v = some (.int (1 : Int32)) ∧ Fr n0 L
theorem ef_rm0 (m : MethodId) (x0 : Int32) (x1 : Int32) : entryFrame m #[(.int x0), (.int x1)] maxLocals = mkF m 0 #[.val (.int x0), .val (.int x1), .unset, .unset, .unset, .unset, .unset, .unset] [] := by first | (simp [entryFrame, mkF, argsToLocals, Value.category, maxLocals]; done) | rfl
set_option maxRecDepth 65536 in
set_option maxHeartbeats 40000000 in
theorem rm0 (l : Launch) (Z : State) (a0 : Array Value) (hw : ∀ d ∈ tables_1, d.before a0 Z = true) (ws : List Jvm.Cond) (p0 p1 : Int32) (w_G : Addr) (h0 : Heap) (n0 : Nat) (Z0 : n0 ≤ h0.size) (S_G : Sta Z Z.heap "com/example/clausewright/clausewright/review/Category" "GOVERNING_LAW" "Lcom/example/clausewright/clausewright/review/Category;" (.ref w_G)) (O : Old Z n0 h0) :
    MetFree l x (head1 (Jvm.Cond.code x code maxLocals ret :: ws) room_1) (fun a U => a = #[(.int p0), (.int p1)] ∧ Z.Warmed39 U.vm ∧ U.heap = h0) (fun _ _ _ _ _ => True) (fun _ U o U' => ∃ v L, o = .returned v ∧ Q_rm0 Z h0 n0 v U'.heap L ∧ ReturnedEndW U o U' L room_1.cells room_1.slots) := by
  refine MetFree.of_bodySF (plainFor_of_name pn_0) hisR ?_
  intro p e s m args below meth c s₁ Bd hml0 hP hK
  obtain ⟨rfl, hZ, hh⟩ := hP
  have hx := Bd.exec
  have hby := Bd.bytes
  have hml : c.maxLocals = 8 := hml0
  have hown : s.vm.findClass "com/example/clausewright/clausewright/review/FindingIsClaimPinLaw" = some m.cls := findClass_of_methodNamed Bd.named
  have hnm := (name_of_methodNamed Bd.named Bd.method).1
  have hZ : Z.Warmed39 (s.setVm s.vm).vm := hZ
  have hown : (s.setVm s.vm).vm.findClass "com/example/clausewright/clausewright/review/FindingIsClaimPinLaw" = some m.cls := hown
  have hS : s.Since s.vm 0 := (State.WarmedH.refl s).since 0
  have hk : 0 ≤ h0.size := Nat.zero_le _
  have X0 : Stand p l e room_1 (s.setVm s.vm) m #[(.int p0), (.int p1)] below meth c s₁ [] 0 0 := Stand.of_body Bd
  have e0 : s₁.heap = h0 := by rw [← hh, Bd.state]; rfl
  have N0 := Fr.nil n0
  have K : Keep h0 h0 [] := Keep.refl h0 []
  show own_Gd p.tables e below (own_PW (Q_rm0 Z h0 n0) s room_1.cells room_1.slots) _
  refine own_go (B := s₁.setTop (mkF m 0 #[.val (.int p0), .val (.int p1), .unset, .unset, .unset, .unset, .unset, .unset] [])) (fun t k => castTop (ef_rm0 m p0 p1) k) ?_
  refine own_go (B := s₁.setTop (mkF m 6 #[.val (.int p0), .val (.int p1), .unset, .unset, .unset, .unset, .unset, .unset] [(.int ((p0 &&& (16777215 : Int32)) + (1 : Int32)))])) (fun t k => ?_) ?_
  · show Steps p.tables e below (s₁.setTop (mkF m 0 #[.val (.int p0), .val (.int p1), .unset, .unset, .unset, .unset, .unset, .unset] [])) _
    refine XS.iloadN X0.here hx rfl (hb hby at_0) rfl ?_
    show Steps p.tables e below (s₁.setTop (mkF m 1 #[.val (.int p0), .val (.int p1), .unset, .unset, .unset, .unset, .unset, .unset] [(.int p0)])) _
    refine X0.ldcI hx hown (mvT hZ (hw _ (List.mem_of_getElem? (i := 0) rfl))) (g := (mkF m 1 #[.val (.int p0), .val (.int p1), .unset, .unset, .unset, .unset, .unset, .unset] [(.int p0)])) rfl (hb hby at_1) ?_
    show Steps p.tables e below (s₁.setTop (mkF m 3 #[.val (.int p0), .val (.int p1), .unset, .unset, .unset, .unset, .unset, .unset] [(.int (16777215 : Int32)), (.int p0)])) _
    refine XS.iand X0.here hx rfl (hb hby at_3) rfl ?_
    show Steps p.tables e below (s₁.setTop (mkF m 4 #[.val (.int p0), .val (.int p1), .unset, .unset, .unset, .unset, .unset, .unset] [(.int (p0 &&& (16777215 : Int32)))])) _
    refine XS.iconst X0.here hx rfl (hb hby at_4) ?_
    show Steps p.tables e below (s₁.setTop (mkF m 5 #[.val (.int p0), .val (.int p1), .unset, .unset, .unset, .unset, .unset, .unset] [(.int (1 : Int32)), (.int (p0 &&& (16777215 : Int32)))])) _
    refine XS.iadd X0.here hx rfl (hb hby at_5) rfl ?_
    show Steps p.tables e below (s₁.setTop (mkF m 6 #[.val (.int p0), .val (.int p1), .unset, .unset, .unset, .unset, .unset, .unset] [(.int ((p0 &&& (16777215 : Int32)) + (1 : Int32)))])) _
    exact k
  obtain ⟨v2, h_v2⟩ : ∃ z, z = ((p0 &&& (16777215 : Int32)) + (1 : Int32)) := ⟨_, rfl⟩
  rw [← h_v2]
  have hv2 : 1 ≤ v2.toInt ∧ v2.toInt ≤ 16777216 := by rw [h_v2]; exact own_v2 _
  refine own_go (B := s₁.setTop (mkF m 15 #[.val (.int p0), .val (.int p1), .val (.int v2), .unset, .unset, .unset, .unset, .unset] [(.int (((p1 &&& (2147483647 : Int32)) % v2) + (1 : Int32)))])) (fun t k => ?_) ?_
  · show Steps p.tables e below (s₁.setTop (mkF m 6 #[.val (.int p0), .val (.int p1), .unset, .unset, .unset, .unset, .unset, .unset] [(.int v2)])) _
    refine XS.istoreN X0.here hx rfl (hb hby at_6) rfl (l' := #[.val (.int p0), .val (.int p1), .val (.int v2), .unset, .unset, .unset, .unset, .unset]) rfl ?_
    show Steps p.tables e below (s₁.setTop (mkF m 7 #[.val (.int p0), .val (.int p1), .val (.int v2), .unset, .unset, .unset, .unset, .unset] [])) _
    refine XS.iloadN X0.here hx rfl (hb hby at_7) rfl ?_
    show Steps p.tables e below (s₁.setTop (mkF m 8 #[.val (.int p0), .val (.int p1), .val (.int v2), .unset, .unset, .unset, .unset, .unset] [(.int p1)])) _
    refine X0.ldcI hx hown (mvT hZ (hw _ (List.mem_of_getElem? (i := 1) rfl))) (g := (mkF m 8 #[.val (.int p0), .val (.int p1), .val (.int v2), .unset, .unset, .unset, .unset, .unset] [(.int p1)])) rfl (hb hby at_8) ?_
    show Steps p.tables e below (s₁.setTop (mkF m 10 #[.val (.int p0), .val (.int p1), .val (.int v2), .unset, .unset, .unset, .unset, .unset] [(.int (2147483647 : Int32)), (.int p1)])) _
    refine XS.iand X0.here hx rfl (hb hby at_10) rfl ?_
    show Steps p.tables e below (s₁.setTop (mkF m 11 #[.val (.int p0), .val (.int p1), .val (.int v2), .unset, .unset, .unset, .unset, .unset] [(.int (p1 &&& (2147483647 : Int32)))])) _
    refine XS.iloadN X0.here hx rfl (hb hby at_11) rfl ?_
    show Steps p.tables e below (s₁.setTop (mkF m 12 #[.val (.int p0), .val (.int p1), .val (.int v2), .unset, .unset, .unset, .unset, .unset] [(.int v2), (.int (p1 &&& (2147483647 : Int32)))])) _
    refine iremM (g := (mkF m 12 #[.val (.int p0), .val (.int p1), .val (.int v2), .unset, .unset, .unset, .unset, .unset] [(.int v2), (.int (p1 &&& (2147483647 : Int32)))])) X0 hx rfl (hb hby at_12) rfl (own_nz hv2.1) ?_
    show Steps p.tables e below (s₁.setTop (mkF m 13 #[.val (.int p0), .val (.int p1), .val (.int v2), .unset, .unset, .unset, .unset, .unset] [(.int ((p1 &&& (2147483647 : Int32)) % v2))])) _
    refine XS.iconst X0.here hx rfl (hb hby at_13) ?_
    show Steps p.tables e below (s₁.setTop (mkF m 14 #[.val (.int p0), .val (.int p1), .val (.int v2), .unset, .unset, .unset, .unset, .unset] [(.int (1 : Int32)), (.int ((p1 &&& (2147483647 : Int32)) % v2))])) _
    refine XS.iadd X0.here hx rfl (hb hby at_14) rfl ?_
    show Steps p.tables e below (s₁.setTop (mkF m 15 #[.val (.int p0), .val (.int p1), .val (.int v2), .unset, .unset, .unset, .unset, .unset] [(.int (((p1 &&& (2147483647 : Int32)) % v2) + (1 : Int32)))])) _
    exact k
  obtain ⟨v3, h_v3⟩ : ∃ z, z = (((p1 &&& (2147483647 : Int32)) % v2) + (1 : Int32)) := ⟨_, rfl⟩
  rw [← h_v3]
  have hv3 : 1 ≤ v3.toInt ∧ v3.toInt ≤ v2.toInt := by rw [h_v3]; exact own_v3 hv2
  refine own_go (B := s₁.setTop (mkF m 23 #[.val (.int p0), .val (.int p1), .val (.int v2), .val (.int v3), .val (.double (FP.ddiv (FP.i2d v3) (FP.i2d v2))), .second, .unset, .unset] [])) (fun t k => ?_) ?_
  · show Steps p.tables e below (s₁.setTop (mkF m 15 #[.val (.int p0), .val (.int p1), .val (.int v2), .unset, .unset, .unset, .unset, .unset] [(.int v3)])) _
    refine XS.istoreN X0.here hx rfl (hb hby at_15) rfl (l' := #[.val (.int p0), .val (.int p1), .val (.int v2), .val (.int v3), .unset, .unset, .unset, .unset]) rfl ?_
    show Steps p.tables e below (s₁.setTop (mkF m 16 #[.val (.int p0), .val (.int p1), .val (.int v2), .val (.int v3), .unset, .unset, .unset, .unset] [])) _
    refine XS.iloadN X0.here hx rfl (hb hby at_16) rfl ?_
    show Steps p.tables e below (s₁.setTop (mkF m 17 #[.val (.int p0), .val (.int p1), .val (.int v2), .val (.int v3), .unset, .unset, .unset, .unset] [(.int v3)])) _
    refine XS.i2dS X0.here hx rfl (hb hby at_17) rfl rfl ?_
    show Steps p.tables e below (s₁.setTop (mkF m 18 #[.val (.int p0), .val (.int p1), .val (.int v2), .val (.int v3), .unset, .unset, .unset, .unset] [(.double (FP.i2d v3))])) _
    refine XS.iloadN X0.here hx rfl (hb hby at_18) rfl ?_
    show Steps p.tables e below (s₁.setTop (mkF m 19 #[.val (.int p0), .val (.int p1), .val (.int v2), .val (.int v3), .unset, .unset, .unset, .unset] [(.int v2), (.double (FP.i2d v3))])) _
    refine XS.i2dS X0.here hx rfl (hb hby at_19) rfl rfl ?_
    show Steps p.tables e below (s₁.setTop (mkF m 20 #[.val (.int p0), .val (.int p1), .val (.int v2), .val (.int v3), .unset, .unset, .unset, .unset] [(.double (FP.i2d v2)), (.double (FP.i2d v3))])) _
    refine XS.ddivS X0.here hx rfl (hb hby at_20) rfl (own_nnq hv2.1) rfl ?_
    show Steps p.tables e below (s₁.setTop (mkF m 21 #[.val (.int p0), .val (.int p1), .val (.int v2), .val (.int v3), .unset, .unset, .unset, .unset] [(.double (FP.ddiv (FP.i2d v3) (FP.i2d v2)))])) _
    refine XS.dstore X0.here hx rfl (hb hby at_21) rfl (l' := #[.val (.int p0), .val (.int p1), .val (.int v2), .val (.int v3), .val (.double (FP.ddiv (FP.i2d v3) (FP.i2d v2))), .second, .unset, .unset]) rfl ?_
    show Steps p.tables e below (s₁.setTop (mkF m 23 #[.val (.int p0), .val (.int p1), .val (.int v2), .val (.int v3), .val (.double (FP.ddiv (FP.i2d v3) (FP.i2d v2))), .second, .unset, .unset] [])) _
    exact k
  obtain ⟨T1, h1, X1, e1, E1, A1, D1, U1, st1⟩ := newO X0 hx hZ hown (hw _ (List.mem_of_getElem? (i := 2) rfl)) (hw _ (List.mem_of_getElem? (i := 3) rfl)) (hw _ (List.mem_of_getElem? (i := 4) rfl)) e0 (g := (mkF m 23 #[.val (.int p0), .val (.int p1), .val (.int v2), .val (.int v3), .val (.double (FP.ddiv (FP.i2d v3) (FP.i2d v2))), .second, .unset, .unset] [])) rfl (hb hby at_23) (by decide) (by decide)
  obtain ⟨b1, g1⟩ : ∃ z, z = h0.size := ⟨_, rfl⟩
  rw [← g1] at A1 D1 U1 st1
  have g_b1 : n0 ≤ b1 := Nat.le_trans Z0 (Nat.le_of_eq g1.symm)
  have sz_b1 : h0.size ≤ b1 := Nat.le_trans K.1 (Nat.le_of_eq g1.symm)
  have K := K.ext E1
  have Z0 := Nat.le_trans Z0 E1.1
  have O := O.ext E1
  have hk := Nat.le_trans hk E1.1
  have E_b1 := A1
  have F_category_b1 : Fld Z h1 b1 "com/example/clausewright/clausewright/review/Finding" "category" "Lcom/example/clausewright/clausewright/review/Category;" .null := D1 (Or.inr (hw _ (List.mem_of_getElem? (i := 51) rfl))) (ty := (.object "com/example/clausewright/clausewright/review/Category")) (by decide)
  have F_span_b1 : Fld Z h1 b1 "com/example/clausewright/clausewright/review/Finding" "span" "Lcom/example/clausewright/clausewright/document/TextSpan;" .null := D1 (Or.inr (hw _ (List.mem_of_getElem? (i := 53) rfl))) (ty := (.object "com/example/clausewright/clausewright/document/TextSpan")) (by decide)
  have F_answer_b1 : Fld Z h1 b1 "com/example/clausewright/clausewright/review/Finding" "answer" "Ljava/lang/String;" .null := D1 (Or.inr (hw _ (List.mem_of_getElem? (i := 55) rfl))) (ty := (.object "java/lang/String")) (by decide)
  have F_score_b1 : Fld Z h1 b1 "com/example/clausewright/clausewright/review/Finding" "score" "D" (.double 0) := D1 (Or.inr (hw _ (List.mem_of_getElem? (i := 57) rfl))) (ty := .double) (by decide)
  have F_part_b1 : Fld Z h1 b1 "com/example/clausewright/clausewright/review/Finding" "part" "Lcom/example/clausewright/clausewright/document/Part;" .null := D1 (Or.inr (hw _ (List.mem_of_getElem? (i := 59) rfl))) (ty := (.object "com/example/clausewright/clausewright/document/Part")) (by decide)
  have F_section_b1 : Fld Z h1 b1 "com/example/clausewright/clausewright/review/Finding" "section" "Lcom/example/clausewright/clausewright/document/Section;" .null := D1 (Or.inr (hw _ (List.mem_of_getElem? (i := 61) rfl))) (ty := (.object "com/example/clausewright/clausewright/document/Section")) (by decide)
  refine own_go (B := T1.setTop (mkF m 26 #[.val (.int p0), .val (.int p1), .val (.int v2), .val (.int v3), .val (.double (FP.ddiv (FP.i2d v3) (FP.i2d v2))), .second, .unset, .unset] [(.ref b1)])) st1 ?_
  refine own_go (B := T1.setTop (mkF m 27 #[.val (.int p0), .val (.int p1), .val (.int v2), .val (.int v3), .val (.double (FP.ddiv (FP.i2d v3) (FP.i2d v2))), .second, .unset, .unset] [(.ref b1), (.ref b1)])) (fun t k => ?_) ?_
  · show Steps p.tables e below (T1.setTop (mkF m 26 #[.val (.int p0), .val (.int p1), .val (.int v2), .val (.int v3), .val (.double (FP.ddiv (FP.i2d v3) (FP.i2d v2))), .second, .unset, .unset] [(.ref b1)])) _
    refine XS.dup X1.here hx rfl (hb hby at_26) rfl rfl ?_
    show Steps p.tables e below (T1.setTop (mkF m 27 #[.val (.int p0), .val (.int p1), .val (.int v2), .val (.int v3), .val (.double (FP.ddiv (FP.i2d v3) (FP.i2d v2))), .second, .unset, .unset] [(.ref b1), (.ref b1)])) _
    exact k
  obtain ⟨T2, X2, e2, st2⟩ := getS2 X1 hx hZ hown (host := "") (Or.inl (hw _ (List.mem_of_getElem? (i := 5) rfl))) Via.refl e1 (S_G.ext O.2) (g := (mkF m 27 #[.val (.int p0), .val (.int p1), .val (.int v2), .val (.int v3), .val (.double (FP.ddiv (FP.i2d v3) (FP.i2d v2))), .second, .unset, .unset] [(.ref b1), (.ref b1)])) rfl (hb hby at_27)
  refine own_go (B := T2.setTop (mkF m 30 #[.val (.int p0), .val (.int p1), .val (.int v2), .val (.int v3), .val (.double (FP.ddiv (FP.i2d v3) (FP.i2d v2))), .second, .unset, .unset] [(.ref w_G), (.ref b1), (.ref b1)])) st2 ?_
  obtain ⟨T3, h3, X3, e3, E3, A3, D3, U3, st3⟩ := newO X2 hx hZ hown (hw _ (List.mem_of_getElem? (i := 8) rfl)) (hw _ (List.mem_of_getElem? (i := 9) rfl)) (hw _ (List.mem_of_getElem? (i := 10) rfl)) e2 (g := (mkF m 30 #[.val (.int p0), .val (.int p1), .val (.int v2), .val (.int v3), .val (.double (FP.ddiv (FP.i2d v3) (FP.i2d v2))), .second, .unset, .unset] [(.ref w_G), (.ref b1), (.ref b1)])) rfl (hb hby at_30) (by decide) (by decide)
  obtain ⟨b3, g3⟩ : ∃ z, z = h1.size := ⟨_, rfl⟩
  rw [← g3] at A3 D3 U3 st3
  have ne_b1_b3 : b1 ≠ b3 := Nat.ne_of_lt (Nat.lt_of_lt_of_le E_b1.lt (Nat.le_of_eq g3.symm))
  have g_b3 : n0 ≤ b3 := Nat.le_trans Z0 (Nat.le_of_eq g3.symm)
  have sz_b3 : h0.size ≤ b3 := Nat.le_trans K.1 (Nat.le_of_eq g3.symm)
  have E_b1 := E_b1.ext E3
  have F_category_b1 := F_category_b1.ext E3
  have F_span_b1 := F_span_b1.ext E3
  have F_answer_b1 := F_answer_b1.ext E3
  have F_score_b1 := F_score_b1.ext E3
  have F_part_b1 := F_part_b1.ext E3
  have F_section_b1 := F_section_b1.ext E3
  have K := K.ext E3
  have Z0 := Nat.le_trans Z0 E3.1
  have O := O.ext E3
  have hk := Nat.le_trans hk E3.1
  have E_b3 := A3
  have F_start_b3 : Fld Z h3 b3 "com/example/clausewright/clausewright/document/TextSpan" "start" "I" (.int (0 : Int32)) := D3 (Or.inr (hw _ (List.mem_of_getElem? (i := 31) rfl))) (ty := .int) (by decide)
  have F_end_b3 : Fld Z h3 b3 "com/example/clausewright/clausewright/document/TextSpan" "end" "I" (.int (0 : Int32)) := D3 (Or.inr (hw _ (List.mem_of_getElem? (i := 33) rfl))) (ty := .int) (by decide)
  have F_line_b3 : Fld Z h3 b3 "com/example/clausewright/clausewright/document/TextSpan" "line" "I" (.int (0 : Int32)) := D3 (Or.inr (hw _ (List.mem_of_getElem? (i := 35) rfl))) (ty := .int) (by decide)
  have F_endLine_b3 : Fld Z h3 b3 "com/example/clausewright/clausewright/document/TextSpan" "endLine" "I" (.int (0 : Int32)) := D3 (Or.inr (hw _ (List.mem_of_getElem? (i := 37) rfl))) (ty := .int) (by decide)
  have F_text_b3 : Fld Z h3 b3 "com/example/clausewright/clausewright/document/TextSpan" "text" "Ljava/lang/String;" .null := D3 (Or.inr (hw _ (List.mem_of_getElem? (i := 39) rfl))) (ty := (.object "java/lang/String")) (by decide)
  refine own_go (B := T3.setTop (mkF m 33 #[.val (.int p0), .val (.int p1), .val (.int v2), .val (.int v3), .val (.double (FP.ddiv (FP.i2d v3) (FP.i2d v2))), .second, .unset, .unset] [(.ref b3), (.ref w_G), (.ref b1), (.ref b1)])) st3 ?_
  refine own_go (B := T3.setTop (mkF m 38 #[.val (.int p0), .val (.int p1), .val (.int v2), .val (.int v3), .val (.double (FP.ddiv (FP.i2d v3) (FP.i2d v2))), .second, .unset, .unset] [(.int (1 : Int32)), (.int (1 : Int32)), (.int (1 : Int32)), (.int (0 : Int32)), (.ref b3), (.ref b3), (.ref w_G), (.ref b1), (.ref b1)])) (fun t k => ?_) ?_
  · show Steps p.tables e below (T3.setTop (mkF m 33 #[.val (.int p0), .val (.int p1), .val (.int v2), .val (.int v3), .val (.double (FP.ddiv (FP.i2d v3) (FP.i2d v2))), .second, .unset, .unset] [(.ref b3), (.ref w_G), (.ref b1), (.ref b1)])) _
    refine XS.dup X3.here hx rfl (hb hby at_33) rfl rfl ?_
    show Steps p.tables e below (T3.setTop (mkF m 34 #[.val (.int p0), .val (.int p1), .val (.int v2), .val (.int v3), .val (.double (FP.ddiv (FP.i2d v3) (FP.i2d v2))), .second, .unset, .unset] [(.ref b3), (.ref b3), (.ref w_G), (.ref b1), (.ref b1)])) _
    refine XS.iconst X3.here hx rfl (hb hby at_34) ?_
    show Steps p.tables e below (T3.setTop (mkF m 35 #[.val (.int p0), .val (.int p1), .val (.int v2), .val (.int v3), .val (.double (FP.ddiv (FP.i2d v3) (FP.i2d v2))), .second, .unset, .unset] [(.int (0 : Int32)), (.ref b3), (.ref b3), (.ref w_G), (.ref b1), (.ref b1)])) _
    refine XS.iconst X3.here hx rfl (hb hby at_35) ?_
    show Steps p.tables e below (T3.setTop (mkF m 36 #[.val (.int p0), .val (.int p1), .val (.int v2), .val (.int v3), .val (.double (FP.ddiv (FP.i2d v3) (FP.i2d v2))), .second, .unset, .unset] [(.int (1 : Int32)), (.int (0 : Int32)), (.ref b3), (.ref b3), (.ref w_G), (.ref b1), (.ref b1)])) _
    refine XS.iconst X3.here hx rfl (hb hby at_36) ?_
    show Steps p.tables e below (T3.setTop (mkF m 37 #[.val (.int p0), .val (.int p1), .val (.int v2), .val (.int v3), .val (.double (FP.ddiv (FP.i2d v3) (FP.i2d v2))), .second, .unset, .unset] [(.int (1 : Int32)), (.int (1 : Int32)), (.int (0 : Int32)), (.ref b3), (.ref b3), (.ref w_G), (.ref b1), (.ref b1)])) _
    refine XS.iconst X3.here hx rfl (hb hby at_37) ?_
    show Steps p.tables e below (T3.setTop (mkF m 38 #[.val (.int p0), .val (.int p1), .val (.int v2), .val (.int v3), .val (.double (FP.ddiv (FP.i2d v3) (FP.i2d v2))), .second, .unset, .unset] [(.int (1 : Int32)), (.int (1 : Int32)), (.int (1 : Int32)), (.int (0 : Int32)), (.ref b3), (.ref b3), (.ref w_G), (.ref b1), (.ref b1)])) _
    exact k
  obtain ⟨lit4, T4, h4, k4, X4, e4, E4, hS, hk, hZ, hown, st4⟩ := ldcS X3 hx hZ hown (hw _ (List.mem_of_getElem? (i := 11) rfl)) (own_strs hw) e3 hS hk (g := (mkF m 38 #[.val (.int p0), .val (.int p1), .val (.int v2), .val (.int v3), .val (.double (FP.ddiv (FP.i2d v3) (FP.i2d v2))), .second, .unset, .unset] [(.int (1 : Int32)), (.int (1 : Int32)), (.int (1 : Int32)), (.int (0 : Int32)), (.ref b3), (.ref b3), (.ref w_G), (.ref b1), (.ref b1)])) rfl (hb hby at_38) (n := 4) (by decide) (by decide) (by decide) (by decide)
  have E_b1 := E_b1.ext E4
  have F_category_b1 := F_category_b1.ext E4
  have F_span_b1 := F_span_b1.ext E4
  have F_answer_b1 := F_answer_b1.ext E4
  have F_score_b1 := F_score_b1.ext E4
  have F_part_b1 := F_part_b1.ext E4
  have F_section_b1 := F_section_b1.ext E4
  have E_b3 := E_b3.ext E4
  have F_start_b3 := F_start_b3.ext E4
  have F_end_b3 := F_end_b3.ext E4
  have F_line_b3 := F_line_b3.ext E4
  have F_endLine_b3 := F_endLine_b3.ext E4
  have F_text_b3 := F_text_b3.ext E4
  have K := K.ext E4
  have Z0 := Nat.le_trans Z0 E4.1
  have O := O.ext E4
  refine own_go (B := T4.setTop (mkF m 40 #[.val (.int p0), .val (.int p1), .val (.int v2), .val (.int v3), .val (.double (FP.ddiv (FP.i2d v3) (FP.i2d v2))), .second, .unset, .unset] [(.ref lit4), (.int (1 : Int32)), (.int (1 : Int32)), (.int (1 : Int32)), (.int (0 : Int32)), (.ref b3), (.ref b3), (.ref w_G), (.ref b1), (.ref b1)])) st4 ?_
  obtain ⟨_, _, ⟨T5, L5, k5, n5⟩, -, X5, ⟨Lc5, hQ5, l5, y5, z5⟩, st5⟩ := X4.specialBack hx (y := (⟨"com/example/clausewright/clausewright/document/TextSpan", "<init>", "(IIIILjava/lang/String;)V"⟩ : MethodName)) rfl hown (mvT hZ (hw _ (List.mem_of_getElem? (i := 19) rfl))) (mvT hZ (hw _ (List.mem_of_getElem? (i := 20) rfl))) (mvT hZ (hw _ (List.mem_of_getElem? (i := 21) rfl))) (by decide) (backOf (W := 4) (rm1 l Z a0 hw [] b3 lit4 (0 : Int32) (1 : Int32) (1 : Int32) (1 : Int32) h4 n0 Z0 F_start_b3 F_end_b3 F_line_b3 F_endLine_b3 F_text_b3 E_b3 g_b3) hZ (hw _ (List.mem_of_getElem? (i := 21) rfl)) (hw _ (List.mem_of_getElem? (i := 10) rfl)) (by decide) (by decide)) (g := (mkF m 40 #[.val (.int p0), .val (.int p1), .val (.int v2), .val (.int v3), .val (.double (FP.ddiv (FP.i2d v3) (FP.i2d v2))), .second, .unset, .unset] [(.ref lit4), (.int (1 : Int32)), (.int (1 : Int32)), (.int (1 : Int32)), (.int (0 : Int32)), (.ref b3), (.ref b3), (.ref w_G), (.ref b1), (.ref b1)])) rfl (by rw [hml]; rfl) (Steps.refl _) (a := b3) (argsL := [(.int (0 : Int32)), (.int (1 : Int32)), (.int (1 : Int32)), (.int (1 : Int32)), (.ref lit4)]) (rest := [(.ref b3), (.ref w_G), (.ref b1), (.ref b1)]) (lenOf pd_2 rfl) rfl (by show 2 * 0 + _ ≤ _; exact Nat.le_of_eq rfl) (hb hby at_40) (fun _ _ => ⟨rfl, e4, Nat.le_of_ble_eq_true rfl, Nat.le_of_ble_eq_true rfl⟩)
  dsimp only [Pt.U, Pt.locs, Pt.cells, Pt.slots] at X5 l5 y5 z5 st5 hQ5
  subst l5 y5 z5
  obtain ⟨h5, e5⟩ : ∃ z, T5.heap = z := ⟨_, rfl⟩
  rw [e5] at hQ5
  obtain ⟨rfl, N5q, Kc5⟩ := hQ5
  have N5 := Fr.app N0 N5q
  have E_b1 := E_b1.keep Kc5
  have F_category_b1 := F_category_b1.keep Kc5 (ninS ne_b1_b3 nin0)
  have F_span_b1 := F_span_b1.keep Kc5 (ninS ne_b1_b3 nin0)
  have F_answer_b1 := F_answer_b1.keep Kc5 (ninS ne_b1_b3 nin0)
  have F_score_b1 := F_score_b1.keep Kc5 (ninS ne_b1_b3 nin0)
  have F_part_b1 := F_part_b1.keep Kc5 (ninS ne_b1_b3 nin0)
  have F_section_b1 := F_section_b1.keep Kc5 (ninS ne_b1_b3 nin0)
  have E_b3 := E_b3.keep Kc5
  have K := K.trans Kc5 (allS (Or.inr sz_b3) all0)
  have Z0 := Nat.le_trans Z0 Kc5.1
  have O := O.keep Kc5 (allS g_b3 all0)
  have hk := Nat.le_trans hk Kc5.1
  refine own_go (B := T5.setTop (mkF m 43 #[.val (.int p0), .val (.int p1), .val (.int v2), .val (.int v3), .val (.double (FP.ddiv (FP.i2d v3) (FP.i2d v2))), .second, .unset, .unset] [(.ref b3), (.ref w_G), (.ref b1), (.ref b1)])) (fun t k => st5.trans k) ?_
  refine own_go (B := T5.setTop (mkF m 48 #[.val (.int p0), .val (.int p1), .val (.int v2), .val (.int v3), .val (.double (FP.ddiv (FP.i2d v3) (FP.i2d v2))), .second, .unset, .unset] [.null, .null, (.double (FP.ddiv (FP.i2d v3) (FP.i2d v2))), .null, (.ref b3), (.ref w_G), (.ref b1), (.ref b1)])) (fun t k => ?_) ?_
  · show Steps p.tables e below (T5.setTop (mkF m 43 #[.val (.int p0), .val (.int p1), .val (.int v2), .val (.int v3), .val (.double (FP.ddiv (FP.i2d v3) (FP.i2d v2))), .second, .unset, .unset] [(.ref b3), (.ref w_G), (.ref b1), (.ref b1)])) _
    refine XS.aconstNull X5.here hx rfl (hb hby at_43) ?_
    show Steps p.tables e below (T5.setTop (mkF m 44 #[.val (.int p0), .val (.int p1), .val (.int v2), .val (.int v3), .val (.double (FP.ddiv (FP.i2d v3) (FP.i2d v2))), .second, .unset, .unset] [.null, (.ref b3), (.ref w_G), (.ref b1), (.ref b1)])) _
    refine XS.dload X5.here hx rfl (hb hby at_44) rfl ?_
    show Steps p.tables e below (T5.setTop (mkF m 46 #[.val (.int p0), .val (.int p1), .val (.int v2), .val (.int v3), .val (.double (FP.ddiv (FP.i2d v3) (FP.i2d v2))), .second, .unset, .unset] [(.double (FP.ddiv (FP.i2d v3) (FP.i2d v2))), .null, (.ref b3), (.ref w_G), (.ref b1), (.ref b1)])) _
    refine XS.aconstNull X5.here hx rfl (hb hby at_46) ?_
    show Steps p.tables e below (T5.setTop (mkF m 47 #[.val (.int p0), .val (.int p1), .val (.int v2), .val (.int v3), .val (.double (FP.ddiv (FP.i2d v3) (FP.i2d v2))), .second, .unset, .unset] [.null, (.double (FP.ddiv (FP.i2d v3) (FP.i2d v2))), .null, (.ref b3), (.ref w_G), (.ref b1), (.ref b1)])) _
    refine XS.aconstNull X5.here hx rfl (hb hby at_47) ?_
    show Steps p.tables e below (T5.setTop (mkF m 48 #[.val (.int p0), .val (.int p1), .val (.int v2), .val (.int v3), .val (.double (FP.ddiv (FP.i2d v3) (FP.i2d v2))), .second, .unset, .unset] [.null, .null, (.double (FP.ddiv (FP.i2d v3) (FP.i2d v2))), .null, (.ref b3), (.ref w_G), (.ref b1), (.ref b1)])) _
    exact k
  obtain ⟨_, _, ⟨T6, L6, k6, n6⟩, -, X6, hS6, hg6, ⟨Lc6, hQ6, l6, y6, z6⟩, st6⟩ := X5.specialBackS hx (y := (⟨"com/example/clausewright/clausewright/review/Finding", "<init>", "(Lcom/example/clausewright/clausewright/review/Category;Lcom/example/clausewright/clausewright/document/TextSpan;Ljava/lang/String;DLcom/example/clausewright/clausewright/document/Part;Lcom/example/clausewright/clausewright/document/Section;)V"⟩ : MethodName)) rfl hown (mvT hZ (hw _ (List.mem_of_getElem? (i := 40) rfl))) (mvT hZ (hw _ (List.mem_of_getElem? (i := 41) rfl))) (mvT hZ (hw _ (List.mem_of_getElem? (i := 42) rfl))) (by decide) (backOfS (W := 1) (rm4 l Z a0 hw [] b1 w_G b3 (FP.ddiv (FP.i2d v3) (FP.i2d v2)) h5 n0 Z0 F_category_b1 F_span_b1 F_answer_b1 F_score_b1 F_part_b1 F_section_b1 E_b1 g_b1 (own_pos hv3.1 hv3.2 hv2.2) (own_one hv3.1 hv3.2 hv2.2)) hZ (hw _ (List.mem_of_getElem? (i := 42) rfl)) (hw _ (List.mem_of_getElem? (i := 4) rfl)) (by decide) (by decide)) (g := (mkF m 48 #[.val (.int p0), .val (.int p1), .val (.int v2), .val (.int v3), .val (.double (FP.ddiv (FP.i2d v3) (FP.i2d v2))), .second, .unset, .unset] [.null, .null, (.double (FP.ddiv (FP.i2d v3) (FP.i2d v2))), .null, (.ref b3), (.ref w_G), (.ref b1), (.ref b1)])) rfl (by rw [hml]; rfl) (Steps.refl _) (a := b1) (argsL := [(.ref w_G), (.ref b3), .null, (.double (FP.ddiv (FP.i2d v3) (FP.i2d v2))), .null, .null]) (rest := [(.ref b1)]) (lenOf pd_3 rfl) rfl (by show 2 * 0 + _ ≤ _; exact Nat.le_of_eq rfl) (hb hby at_48) (fun _ _ => ⟨rfl, e5, Nat.le_of_ble_eq_true rfl, Nat.le_of_ble_eq_true rfl⟩)
  dsimp only [Pt.U, Pt.locs, Pt.cells, Pt.slots] at hS6 hg6
  dsimp only [Pt.U, Pt.locs, Pt.cells, Pt.slots] at X6 l6 y6 z6 st6 hQ6
  subst l6 y6 z6
  obtain ⟨h6, e6⟩ : ∃ z, T6.heap = z := ⟨_, rfl⟩
  rw [e6] at hQ6
  obtain ⟨rfl, N6q, Kc6, Ec6, Fc6⟩ := hQ6
  have N6 := Fr.app N5 N6q
  obtain ⟨X6, hS, hZ, hown⟩ := rebS hS (by rw [e5]; exact hk) X6 hS6 hg6 hZ hown
  rw [e6] at hS
  have hk : h6.size ≤ h6.size := Nat.le_refl _
  have E_b1 := E_b1.keep Kc6
  have E_b3 := E_b3.keep Kc6
  have K := K.trans Kc6 (allS (Or.inr sz_b1) all0)
  have Z0 := Nat.le_trans Z0 Kc6.1
  have O := O.keep Kc6 (allS g_b1 all0)
  have E_b1 := Ec6
  have F_score_b1 := Fc6
  refine own_go (B := T6.setTop (mkF m 51 #[.val (.int p0), .val (.int p1), .val (.int v2), .val (.int v3), .val (.double (FP.ddiv (FP.i2d v3) (FP.i2d v2))), .second, .unset, .unset] [(.ref b1)])) (fun t k => st6.trans k) ?_
  refine own_go (B := T6.setTop (mkF m 62 #[.val (.int p0), .val (.int p1), .val (.int v2), .val (.int v3), .val (.double (FP.ddiv (FP.i2d v3) (FP.i2d v2))), .second, .val (.ref b1), .unset] [(.int (lcmpW ((2 : Int64) * (v3.toInt64)) (v2.toInt64)))])) (fun t k => ?_) ?_
  · show Steps p.tables e below (T6.setTop (mkF m 51 #[.val (.int p0), .val (.int p1), .val (.int v2), .val (.int v3), .val (.double (FP.ddiv (FP.i2d v3) (FP.i2d v2))), .second, .unset, .unset] [(.ref b1)])) _
    refine XS.astore X6.here hx rfl (hb hby at_51) rfl rfl (l' := #[.val (.int p0), .val (.int p1), .val (.int v2), .val (.int v3), .val (.double (FP.ddiv (FP.i2d v3) (FP.i2d v2))), .second, .val (.ref b1), .unset]) rfl ?_
    show Steps p.tables e below (T6.setTop (mkF m 53 #[.val (.int p0), .val (.int p1), .val (.int v2), .val (.int v3), .val (.double (FP.ddiv (FP.i2d v3) (FP.i2d v2))), .second, .val (.ref b1), .unset] [])) _
    refine X6.ldc2J hx hown (mvT hZ (hw _ (List.mem_of_getElem? (i := 62) rfl))) (g := (mkF m 53 #[.val (.int p0), .val (.int p1), .val (.int v2), .val (.int v3), .val (.double (FP.ddiv (FP.i2d v3) (FP.i2d v2))), .second, .val (.ref b1), .unset] [])) rfl (hb hby at_53) ?_
    show Steps p.tables e below (T6.setTop (mkF m 56 #[.val (.int p0), .val (.int p1), .val (.int v2), .val (.int v3), .val (.double (FP.ddiv (FP.i2d v3) (FP.i2d v2))), .second, .val (.ref b1), .unset] [(.long (2 : Int64))])) _
    refine XS.iloadN X6.here hx rfl (hb hby at_56) rfl ?_
    show Steps p.tables e below (T6.setTop (mkF m 57 #[.val (.int p0), .val (.int p1), .val (.int v2), .val (.int v3), .val (.double (FP.ddiv (FP.i2d v3) (FP.i2d v2))), .second, .val (.ref b1), .unset] [(.int v3), (.long (2 : Int64))])) _
    refine XS.i2l X6.here hx rfl (hb hby at_57) rfl ?_
    show Steps p.tables e below (T6.setTop (mkF m 58 #[.val (.int p0), .val (.int p1), .val (.int v2), .val (.int v3), .val (.double (FP.ddiv (FP.i2d v3) (FP.i2d v2))), .second, .val (.ref b1), .unset] [(.long (v3.toInt64)), (.long (2 : Int64))])) _
    refine XS.lmul X6.here hx rfl (hb hby at_58) rfl ?_
    show Steps p.tables e below (T6.setTop (mkF m 59 #[.val (.int p0), .val (.int p1), .val (.int v2), .val (.int v3), .val (.double (FP.ddiv (FP.i2d v3) (FP.i2d v2))), .second, .val (.ref b1), .unset] [(.long ((2 : Int64) * (v3.toInt64)))])) _
    refine XS.iloadN X6.here hx rfl (hb hby at_59) rfl ?_
    show Steps p.tables e below (T6.setTop (mkF m 60 #[.val (.int p0), .val (.int p1), .val (.int v2), .val (.int v3), .val (.double (FP.ddiv (FP.i2d v3) (FP.i2d v2))), .second, .val (.ref b1), .unset] [(.int v2), (.long ((2 : Int64) * (v3.toInt64)))])) _
    refine XS.i2l X6.here hx rfl (hb hby at_60) rfl ?_
    show Steps p.tables e below (T6.setTop (mkF m 61 #[.val (.int p0), .val (.int p1), .val (.int v2), .val (.int v3), .val (.double (FP.ddiv (FP.i2d v3) (FP.i2d v2))), .second, .val (.ref b1), .unset] [(.long (v2.toInt64)), (.long ((2 : Int64) * (v3.toInt64)))])) _
    refine XS.lcmp X6.here hx rfl (hb hby at_61) rfl ?_
    show Steps p.tables e below (T6.setTop (mkF m 62 #[.val (.int p0), .val (.int p1), .val (.int v2), .val (.int v3), .val (.double (FP.ddiv (FP.i2d v3) (FP.i2d v2))), .second, .val (.ref b1), .unset] [(.int (lcmpW ((2 : Int64) * (v3.toInt64)) (v2.toInt64)))])) _
    exact k
  by_cases hc62 : (lcmpW ((2 : Int64) * (v3.toInt64)) (v2.toInt64)) < (0 : Int32)
  · refine own_go (B := T6.setTop (mkF m 74 #[.val (.int p0), .val (.int p1), .val (.int v2), .val (.int v3), .val (.double (FP.ddiv (FP.i2d v3) (FP.i2d v2))), .second, .val (.ref b1), .val (.int (0 : Int32))] [(.ref b1)])) (fun t k => ?_) ?_
    · show Steps p.tables e below (T6.setTop (mkF m 62 #[.val (.int p0), .val (.int p1), .val (.int v2), .val (.int v3), .val (.double (FP.ddiv (FP.i2d v3) (FP.i2d v2))), .second, .val (.ref b1), .unset] [(.int (lcmpW ((2 : Int64) * (v3.toInt64)) (v2.toInt64)))])) _
      refine XS.ifYes X6.here hx rfl (pc0 := 62) (pc' := 69) rfl (hb hby at_62) rfl ((if0 _ _).trans (tlt hc62).1) (by decide) (by decide) ?_
      show Steps p.tables e below (T6.setTop (mkF m 69 #[.val (.int p0), .val (.int p1), .val (.int v2), .val (.int v3), .val (.double (FP.ddiv (FP.i2d v3) (FP.i2d v2))), .second, .val (.ref b1), .unset] [])) _
      refine XS.iconst X6.here hx rfl (hb hby at_69) ?_
      show Steps p.tables e below (T6.setTop (mkF m 70 #[.val (.int p0), .val (.int p1), .val (.int v2), .val (.int v3), .val (.double (FP.ddiv (FP.i2d v3) (FP.i2d v2))), .second, .val (.ref b1), .unset] [(.int (0 : Int32))])) _
      refine XS.istore X6.here hx rfl (hb hby at_70) rfl (l' := #[.val (.int p0), .val (.int p1), .val (.int v2), .val (.int v3), .val (.double (FP.ddiv (FP.i2d v3) (FP.i2d v2))), .second, .val (.ref b1), .val (.int (0 : Int32))]) rfl ?_
      show Steps p.tables e below (T6.setTop (mkF m 72 #[.val (.int p0), .val (.int p1), .val (.int v2), .val (.int v3), .val (.double (FP.ddiv (FP.i2d v3) (FP.i2d v2))), .second, .val (.ref b1), .val (.int (0 : Int32))] [])) _
      refine XS.aload X6.here hx rfl (hb hby at_72) rfl rfl ?_
      show Steps p.tables e below (T6.setTop (mkF m 74 #[.val (.int p0), .val (.int p1), .val (.int v2), .val (.int v3), .val (.double (FP.ddiv (FP.i2d v3) (FP.i2d v2))), .second, .val (.ref b1), .val (.int (0 : Int32))] [(.ref b1)])) _
      exact k
    obtain ⟨cq7, kq7, q7a, q7b, q7c⟩ := isOf hZ e6 E_b1
    obtain ⟨_, _, ⟨T8, L8, k8, n8⟩, -, X8, ⟨Lc8, hQ8, l8, y8, z8⟩, st8⟩ := X6.virtualBack hx (y := (⟨"com/example/clausewright/clausewright/review/Finding", "isClaim", "()Z"⟩ : MethodName)) (z := (⟨"com/example/clausewright/clausewright/review/Finding", "isClaim", "()Z"⟩ : MethodName)) hown (mvT hZ (hw _ (List.mem_of_getElem? (i := 63) rfl))) (mvT hZ (hw _ (List.mem_of_getElem? (i := 64) rfl))) (notFace_of_selects (args := #[]) (mvT hZ (hw _ (List.mem_of_getElem? (i := 66) rfl)))) (mvT hZ (hw _ (List.mem_of_getElem? (i := 66) rfl))) (mvT hZ (hw _ (List.mem_of_getElem? (i := 65) rfl))) (by decide) (backOf (W := 0) (rm6 l Z a0 hw [] b1 (FP.ddiv (FP.i2d v3) (FP.i2d v2)) h6 n0 Z0 F_score_b1) hZ (hw _ (List.mem_of_getElem? (i := 67) rfl)) (hw _ (List.mem_of_getElem? (i := 4) rfl)) (by decide) (by decide)) q7a q7c (g := (mkF m 74 #[.val (.int p0), .val (.int p1), .val (.int v2), .val (.int v3), .val (.double (FP.ddiv (FP.i2d v3) (FP.i2d v2))), .second, .val (.ref b1), .val (.int (0 : Int32))] [(.ref b1)])) rfl (by rw [hml]; rfl) (Steps.refl _) (argsL := []) (rest := []) (lenOf pd_4 rfl) rfl (by show 2 * 0 + _ ≤ _; exact Nat.le_of_eq rfl) (hb hby at_74) (fun _ _ => ⟨rfl, e6, Nat.le_of_ble_eq_true rfl, Nat.le_of_ble_eq_true rfl⟩)
    dsimp only [Pt.U, Pt.locs, Pt.cells, Pt.slots] at X8 l8 y8 z8 st8 hQ8
    subst l8 y8 z8
    obtain ⟨h8, e8⟩ : ∃ z, T8.heap = z := ⟨_, rfl⟩
    rw [e8] at hQ8
    obtain ⟨rfl, N8q, eq8⟩ := hQ8
    have N8 := Fr.app N6 N8q
    rw [eq8] at e8
    refine own_go (B := T8.setTop (mkF m 77 #[.val (.int p0), .val (.int p1), .val (.int v2), .val (.int v3), .val (.double (FP.ddiv (FP.i2d v3) (FP.i2d v2))), .second, .val (.ref b1), .val (.int (0 : Int32))] [(.int (own_cl (FP.ddiv (FP.i2d v3) (FP.i2d v2))))])) (fun t k => st8.trans k) ?_
    refine own_go (B := T8.setTop (mkF m 87 #[.val (.int p0), .val (.int p1), .val (.int v2), .val (.int v3), .val (.double (FP.ddiv (FP.i2d v3) (FP.i2d v2))), .second, .val (.ref b1), .val (.int (0 : Int32))] [(.int (1 : Int32))])) (fun t k => ?_) ?_
    · show Steps p.tables e below (T8.setTop (mkF m 77 #[.val (.int p0), .val (.int p1), .val (.int v2), .val (.int v3), .val (.double (FP.ddiv (FP.i2d v3) (FP.i2d v2))), .second, .val (.ref b1), .val (.int (0 : Int32))] [(.int (own_cl (FP.ddiv (FP.i2d v3) (FP.i2d v2))))])) _
      refine XS.iload X8.here hx rfl (hb hby at_77) rfl ?_
      show Steps p.tables e below (T8.setTop (mkF m 79 #[.val (.int p0), .val (.int p1), .val (.int v2), .val (.int v3), .val (.double (FP.ddiv (FP.i2d v3) (FP.i2d v2))), .second, .val (.ref b1), .val (.int (0 : Int32))] [(.int (0 : Int32)), (.int (own_cl (FP.ddiv (FP.i2d v3) (FP.i2d v2))))])) _
      refine XS.icmpNo X8.here hx rfl (hb hby at_79) rfl (teq (by rw [own_claim hv3.1 hv3.2 hv2.2]; simp [hc62] : (own_cl (FP.ddiv (FP.i2d v3) (FP.i2d v2))) = (0 : Int32))).2 ?_
      show Steps p.tables e below (T8.setTop (mkF m 82 #[.val (.int p0), .val (.int p1), .val (.int v2), .val (.int v3), .val (.double (FP.ddiv (FP.i2d v3) (FP.i2d v2))), .second, .val (.ref b1), .val (.int (0 : Int32))] [])) _
      refine XS.iconst X8.here hx rfl (hb hby at_82) ?_
      show Steps p.tables e below (T8.setTop (mkF m 83 #[.val (.int p0), .val (.int p1), .val (.int v2), .val (.int v3), .val (.double (FP.ddiv (FP.i2d v3) (FP.i2d v2))), .second, .val (.ref b1), .val (.int (0 : Int32))] [(.int (1 : Int32))])) _
      refine XS.goto X8.here hx rfl (pc0 := 83) (pc' := 87) rfl (hb hby at_83) (by decide) (by decide) ?_
      show Steps p.tables e below (T8.setTop (mkF m 87 #[.val (.int p0), .val (.int p1), .val (.int v2), .val (.int v3), .val (.double (FP.ddiv (FP.i2d v3) (FP.i2d v2))), .second, .val (.ref b1), .val (.int (0 : Int32))] [(.int (1 : Int32))])) _
      exact k
    obtain ⟨fs, hr, hrun, hended, hRW⟩ := X8.leaveW hS (by rw [e8]; exact hk) (v := some (.int (1 : Int32))) (fun h => by rw [Bd.returns] at h; cases h)
    refine own_done (retN X8 hx (t := .boolean) Bd.returns (by simp) (hb hby at_87) hr) hrun hended ⟨_, _, rfl, ?_, hRW.1, hRW.2.1, hRW.2.2.1, hRW.2.2.2.mono (by decide) (by decide)⟩
    show Q_rm0 Z h0 n0 (some (.int (1 : Int32))) T8.heap _
    rw [e8]
    exact ⟨rfl, N8⟩
  · refine own_go (B := T6.setTop (mkF m 74 #[.val (.int p0), .val (.int p1), .val (.int v2), .val (.int v3), .val (.double (FP.ddiv (FP.i2d v3) (FP.i2d v2))), .second, .val (.ref b1), .val (.int (1 : Int32))] [(.ref b1)])) (fun t k => ?_) ?_
    · show Steps p.tables e below (T6.setTop (mkF m 62 #[.val (.int p0), .val (.int p1), .val (.int v2), .val (.int v3), .val (.double (FP.ddiv (FP.i2d v3) (FP.i2d v2))), .second, .val (.ref b1), .unset] [(.int (lcmpW ((2 : Int64) * (v3.toInt64)) (v2.toInt64)))])) _
      refine XS.ifNo X6.here hx rfl (hb hby at_62) rfl ((if0 _ _).trans (flt hc62).1) ?_
      show Steps p.tables e below (T6.setTop (mkF m 65 #[.val (.int p0), .val (.int p1), .val (.int v2), .val (.int v3), .val (.double (FP.ddiv (FP.i2d v3) (FP.i2d v2))), .second, .val (.ref b1), .unset] [])) _
      refine XS.iconst X6.here hx rfl (hb hby at_65) ?_
      show Steps p.tables e below (T6.setTop (mkF m 66 #[.val (.int p0), .val (.int p1), .val (.int v2), .val (.int v3), .val (.double (FP.ddiv (FP.i2d v3) (FP.i2d v2))), .second, .val (.ref b1), .unset] [(.int (1 : Int32))])) _
      refine XS.goto X6.here hx rfl (pc0 := 66) (pc' := 70) rfl (hb hby at_66) (by decide) (by decide) ?_
      show Steps p.tables e below (T6.setTop (mkF m 70 #[.val (.int p0), .val (.int p1), .val (.int v2), .val (.int v3), .val (.double (FP.ddiv (FP.i2d v3) (FP.i2d v2))), .second, .val (.ref b1), .unset] [(.int (1 : Int32))])) _
      refine XS.istore X6.here hx rfl (hb hby at_70) rfl (l' := #[.val (.int p0), .val (.int p1), .val (.int v2), .val (.int v3), .val (.double (FP.ddiv (FP.i2d v3) (FP.i2d v2))), .second, .val (.ref b1), .val (.int (1 : Int32))]) rfl ?_
      show Steps p.tables e below (T6.setTop (mkF m 72 #[.val (.int p0), .val (.int p1), .val (.int v2), .val (.int v3), .val (.double (FP.ddiv (FP.i2d v3) (FP.i2d v2))), .second, .val (.ref b1), .val (.int (1 : Int32))] [])) _
      refine XS.aload X6.here hx rfl (hb hby at_72) rfl rfl ?_
      show Steps p.tables e below (T6.setTop (mkF m 74 #[.val (.int p0), .val (.int p1), .val (.int v2), .val (.int v3), .val (.double (FP.ddiv (FP.i2d v3) (FP.i2d v2))), .second, .val (.ref b1), .val (.int (1 : Int32))] [(.ref b1)])) _
      exact k
    obtain ⟨cq9, kq9, q9a, q9b, q9c⟩ := isOf hZ e6 E_b1
    obtain ⟨_, _, ⟨T10, L10, k10, n10⟩, -, X10, ⟨Lc10, hQ10, l10, y10, z10⟩, st10⟩ := X6.virtualBack hx (y := (⟨"com/example/clausewright/clausewright/review/Finding", "isClaim", "()Z"⟩ : MethodName)) (z := (⟨"com/example/clausewright/clausewright/review/Finding", "isClaim", "()Z"⟩ : MethodName)) hown (mvT hZ (hw _ (List.mem_of_getElem? (i := 63) rfl))) (mvT hZ (hw _ (List.mem_of_getElem? (i := 64) rfl))) (notFace_of_selects (args := #[]) (mvT hZ (hw _ (List.mem_of_getElem? (i := 66) rfl)))) (mvT hZ (hw _ (List.mem_of_getElem? (i := 66) rfl))) (mvT hZ (hw _ (List.mem_of_getElem? (i := 65) rfl))) (by decide) (backOf (W := 0) (rm6 l Z a0 hw [] b1 (FP.ddiv (FP.i2d v3) (FP.i2d v2)) h6 n0 Z0 F_score_b1) hZ (hw _ (List.mem_of_getElem? (i := 67) rfl)) (hw _ (List.mem_of_getElem? (i := 4) rfl)) (by decide) (by decide)) q9a q9c (g := (mkF m 74 #[.val (.int p0), .val (.int p1), .val (.int v2), .val (.int v3), .val (.double (FP.ddiv (FP.i2d v3) (FP.i2d v2))), .second, .val (.ref b1), .val (.int (1 : Int32))] [(.ref b1)])) rfl (by rw [hml]; rfl) (Steps.refl _) (argsL := []) (rest := []) (lenOf pd_4 rfl) rfl (by show 2 * 0 + _ ≤ _; exact Nat.le_of_eq rfl) (hb hby at_74) (fun _ _ => ⟨rfl, e6, Nat.le_of_ble_eq_true rfl, Nat.le_of_ble_eq_true rfl⟩)
    dsimp only [Pt.U, Pt.locs, Pt.cells, Pt.slots] at X10 l10 y10 z10 st10 hQ10
    subst l10 y10 z10
    obtain ⟨h10, e10⟩ : ∃ z, T10.heap = z := ⟨_, rfl⟩
    rw [e10] at hQ10
    obtain ⟨rfl, N10q, eq10⟩ := hQ10
    have N10 := Fr.app N6 N10q
    rw [eq10] at e10
    refine own_go (B := T10.setTop (mkF m 77 #[.val (.int p0), .val (.int p1), .val (.int v2), .val (.int v3), .val (.double (FP.ddiv (FP.i2d v3) (FP.i2d v2))), .second, .val (.ref b1), .val (.int (1 : Int32))] [(.int (own_cl (FP.ddiv (FP.i2d v3) (FP.i2d v2))))])) (fun t k => st10.trans k) ?_
    refine own_go (B := T10.setTop (mkF m 87 #[.val (.int p0), .val (.int p1), .val (.int v2), .val (.int v3), .val (.double (FP.ddiv (FP.i2d v3) (FP.i2d v2))), .second, .val (.ref b1), .val (.int (1 : Int32))] [(.int (1 : Int32))])) (fun t k => ?_) ?_
    · show Steps p.tables e below (T10.setTop (mkF m 77 #[.val (.int p0), .val (.int p1), .val (.int v2), .val (.int v3), .val (.double (FP.ddiv (FP.i2d v3) (FP.i2d v2))), .second, .val (.ref b1), .val (.int (1 : Int32))] [(.int (own_cl (FP.ddiv (FP.i2d v3) (FP.i2d v2))))])) _
      refine XS.iload X10.here hx rfl (hb hby at_77) rfl ?_
      show Steps p.tables e below (T10.setTop (mkF m 79 #[.val (.int p0), .val (.int p1), .val (.int v2), .val (.int v3), .val (.double (FP.ddiv (FP.i2d v3) (FP.i2d v2))), .second, .val (.ref b1), .val (.int (1 : Int32))] [(.int (1 : Int32)), (.int (own_cl (FP.ddiv (FP.i2d v3) (FP.i2d v2))))])) _
      refine XS.icmpNo X10.here hx rfl (hb hby at_79) rfl (teq (by rw [own_claim hv3.1 hv3.2 hv2.2]; simp [hc62] : (own_cl (FP.ddiv (FP.i2d v3) (FP.i2d v2))) = (1 : Int32))).2 ?_
      show Steps p.tables e below (T10.setTop (mkF m 82 #[.val (.int p0), .val (.int p1), .val (.int v2), .val (.int v3), .val (.double (FP.ddiv (FP.i2d v3) (FP.i2d v2))), .second, .val (.ref b1), .val (.int (1 : Int32))] [])) _
      refine XS.iconst X10.here hx rfl (hb hby at_82) ?_
      show Steps p.tables e below (T10.setTop (mkF m 83 #[.val (.int p0), .val (.int p1), .val (.int v2), .val (.int v3), .val (.double (FP.ddiv (FP.i2d v3) (FP.i2d v2))), .second, .val (.ref b1), .val (.int (1 : Int32))] [(.int (1 : Int32))])) _
      refine XS.goto X10.here hx rfl (pc0 := 83) (pc' := 87) rfl (hb hby at_83) (by decide) (by decide) ?_
      show Steps p.tables e below (T10.setTop (mkF m 87 #[.val (.int p0), .val (.int p1), .val (.int v2), .val (.int v3), .val (.double (FP.ddiv (FP.i2d v3) (FP.i2d v2))), .second, .val (.ref b1), .val (.int (1 : Int32))] [(.int (1 : Int32))])) _
      exact k
    obtain ⟨fs, hr, hrun, hended, hRW⟩ := X10.leaveW hS (by rw [e10]; exact hk) (v := some (.int (1 : Int32))) (fun h => by rw [Bd.returns] at h; cases h)
    refine own_done (retN X10 hx (t := .boolean) Bd.returns (by simp) (hb hby at_87) hr) hrun hended ⟨_, _, rfl, ?_, hRW.1, hRW.2.1, hRW.2.2.1, hRW.2.2.2.mono (by decide) (by decide)⟩
    show Q_rm0 Z h0 n0 (some (.int (1 : Int32))) T10.heap _
    rw [e10]
    exact ⟨rfl, N10⟩
set_option maxRecDepth 65536 in
set_option maxHeartbeats 40000000 in
theorem comes_1 {Post : Tables → Env → Array Value → State → Outcome → State → Prop} (hpost : ∀ tb e args s v u, (limb_1_1.after args s (.returned v) u = true ∧ limb_1_2.after args s (.returned v) u = true ∧ True) → FramedW s (.returned v) u (Jvm.fieldLocs frame_1_writes args s ++ Jvm.arrayLocs frame_1_arrays args s ++ Jvm.staticLocs frame_1_statics s) 24 3200 → Post tb e args s (.returned v) u) :
    ArmFor flags0 classFile x code maxLocals ret World_1 tables_1 room_1 Calls_1 rest_1 Pre_1 Post := by
  intro l hfl _ _ p e ha hc hk' s m args below hf hA hF happ hP
  obtain ⟨hcalls, hrest, hpre⟩ := hP
  obtain ⟨-, -, -, hnamed, -, -, -, hat⟩ := (Spec.applies_iff hf).mp happ
  obtain ⟨hg, hn⟩ := and_e (Cond.before_iff.mp (show (Jvm.Cond.and given_1 narrow_1).before args s = true from hpre))
  obtain ⟨gc, hg⟩ := and_e hg
  obtain ⟨w0, w1, rfl⟩ : ∃ w0 w1 : Value, args = #[w0, w1] := by
    have hs : args.size = 2 := by simpa [Cond.value, given_1] using gc
    obtain ⟨L⟩ := args
    match L, hs with
    | [w0, w1], _ => exact ⟨w0, w1, rfl⟩
  obtain ⟨ga0, hg⟩ := and_e hg
  have ga1 := hg
  obtain ⟨i0, ei0⟩ := is_v ga0
  obtain rfl : w0 = (.int i0) := Option.some.inj ei0
  obtain ⟨i1, ei1⟩ := is_v ga1
  obtain rfl : w1 = (.int i1) := Option.some.inj ei1
  have hw := fun d (hd : d ∈ tables_1) => atoms_spec (ws := Jvm.Cond.code x code maxLocals ret :: tables_1) hat d (List.mem_cons_of_mem _ hd)
  have hfit : Fit s := fun {y c} hc i hi => by
    obtain ⟨ha, rfl⟩ := Array.getElem?_eq_some_iff.mp hc
    have q := List.all_eq_true.mp ((Array.all_eq_true_iff_forall_mem.mp hF) _ (Array.getElem_mem ha)) i (List.mem_range.mpr hi)
    simpa [Array.getElem?_eq_getElem hi] using q
  have c0 := hn
  obtain ⟨w_GOVERNING_LAW, ev_GOVERNING_LAW⟩ := exa_v c0
  have E_GOVERNING_LAW := Exa.start ev_GOVERNING_LAW c0
  have S_GOVERNING_LAW := Sta.start ev_GOVERNING_LAW (Or.inr ⟨(hw _ (List.mem_of_getElem? (i := 6) rfl)), (hw _ (List.mem_of_getElem? (i := 7) rfl))⟩)
  obtain ⟨n, o, h1, h2, h3, _, L, rfl, ⟨rfl, N⟩, hq⟩ := rm0 l s _ hw tables_1 i0 i1 w_GOVERNING_LAW s.heap s.heap.size (Nat.le_refl _) S_GOVERNING_LAW (Old.start s) p e ha hc hk' s m _ below hf ((Spec.applies_iff_loose hf).mp happ).1 ⟨rfl, State.Warmed39.refl s, rfl⟩ trivial
  refine ⟨n, _, h1, h2, h3, hpost _ _ _ _ _ _ ⟨Cond.after_iff.mpr rfl, Cond.after_iff.mpr (eq_i res_at (Term.int_eval (1)) rfl), trivial⟩ ⟨hq.1, hq.2.1, hq.2.2.1, (hq.2.2.2.sift fun y hy => Or.inr (N y hy)).mono (by decide) (by decide)⟩⟩
theorem main_1_1 : Claimed_1_1 := comes_1 fun _ _ _ _ _ _ h hF => ⟨h.1, hF⟩
theorem main_1_2 : Claimed_1_2 := comes_1 fun _ _ _ _ _ _ h hF => ⟨h.2.1, hF⟩
end Jvm.Pilot.@@N@@
namespace Jvm.Pilot.@@N@@
open Jvm Jvm.ClassFile Sem Op Lib Jvm.Free Jvm.Stand Jvm.Pilot.@@N@@.Jvm.D
/-! MADE BY PROGRAM (witnessworld.py) out of the Statement's table words and the real class files: 19 classes; the members and pool entries that the words name. The judged class is class 1, her method 1. -/
namespace start1
open Jvm.ClassFile
def u (s : String) : CpInfo := .utf8 (stringToUtf16 s)
/-- a pool by its gaps: so many unusable entries, then the entry; so many at the end -/
def gap : Nat → List CpInfo → List CpInfo
  | 0, r => r
  | n + 1, r => .unusable :: gap n r
def poolList (es : List (Nat × CpInfo)) (last : Nat) : List CpInfo := es.foldr (fun e r => gap e.1 (e.2 :: r)) (gap last [])
def pool (es : List (Nat × CpInfo)) (last : Nat) : Array CpInfo := ⟨poolList es last⟩
def fileOf (pool : Array CpInfo) (this : Nat) (attrs : Array Attribute := #[]) (ms : Array MethodInfo := #[]) (fl : Nat := 33) (sup : Nat := 0) (ifs : Array Nat := #[]) (fds : Array FieldInfo := #[]) : ClassFile where
  minorVersion := 0
  majorVersion := 65
  constantPool := pool
  accessFlags := fl
  thisClass := this
  superClass := sup
  interfaces := ifs
  fields := fds
  methods := ms
  attributes := attrs
def plain (name : String) (sup : Option ClassId) : Class where
  name := name
  kind := .ordinary
  loader := none
  accessFlags := 33
  super := sup
  interfaces := #[]
  cf := none
  fields := #[]
  methods := #[]
  instanceTypes := #[]
  staticTypes := #[]
  resolved := #[]
  callSites := []
  init := .initialized
  statics := none
  mirror := none

def pool0 : Array CpInfo := pool [(5, u "<init>"), (0, u "()V"), (1, .class_ 10), (1, u "java/lang/Object")] 113

def k0c0 : Code := { maxStack := 0, maxLocals := 1, code := object_method_1_code, exceptionTable := #[], attributes := #[] }
def k0m0 : Method := { name := "<init>", desc := "()V", sig := { parameters := [], returnType := none }, accessFlags := 1, code := some k0c0 }
/-- java/lang/Object -/
def k0 : Class := { plain "java/lang/Object" none with
  accessFlags := 33
  interfaces := #[]
  cf := some (fileOf pool0 8 #[] #[{ accessFlags := 1, nameIndex := 5, descriptorIndex := 6, attributes := #[] }] 33 0 #[] #[])
  fields := #[]
  methods := #[k0m0]
  instanceTypes := #[]
  staticTypes := #[]
  resolved := Array.replicate 124 none
  statics := none }

def pool1 : Array CpInfo := pool [(2, .class_ 4), (1, u "java/lang/Object"), (0, u "<init>"), (0, u "()V"), (0, .integer 16777215), (0, .integer 2147483647), (0, .class_ 10), (0, u "com/example/clausewright/clausewright/review/Finding"), (0, .fieldref 12 13), (0, .class_ 14), (0, .nameAndType 15 16), (0, u "com/example/clausewright/clausewright/review/Category"), (0, u "GOVERNING_LAW"), (0, u "Lcom/example/clausewright/clausewright/review/Category;"), (0, .class_ 18), (0, u "com/example/clausewright/clausewright/document/TextSpan"), (0, .string 20), (0, u "x"), (0, .methodref 17 22), (0, .nameAndType 5 23), (0, u "(IIIILjava/lang/String;)V"), (0, .methodref 9 25), (0, .nameAndType 5 26), (0, u "(Lcom/example/clausewright/clausewright/review/Category;Lcom/example/clausewright/clausewright/document/TextSpan;Ljava/lang/String;DLcom/example/clausewright/clausewright/document/Part;Lcom/example/clausewright/clausewright/document/Section;)V"), (0, .long 2), (1, .methodref 9 30), (0, .nameAndType 31 32), (0, u "isClaim"), (0, u "()Z"), (0, .class_ 34), (0, u "com/example/clausewright/clausewright/review/FindingIsClaimPinLaw"), (2, u "law"), (0, u "(II)Z")] 3

def k1m0 : Method := { name := "<init>", desc := "()V", sig := { parameters := [], returnType := none }, accessFlags := 1, code := none }
def k1c1 : Code := { maxStack := 10, maxLocals := 8, code := code, exceptionTable := #[], attributes := #[] }
def k1m1 : Method := { name := "law", desc := "(II)Z", sig := { parameters := [.int, .int], returnType := some .boolean }, accessFlags := 9, code := some k1c1 }
/-- com/example/clausewright/clausewright/review/FindingIsClaimPinLaw -/
def k1 : Class := { plain "com/example/clausewright/clausewright/review/FindingIsClaimPinLaw" (some 0) with
  accessFlags := 49
  interfaces := #[]
  cf := some (fileOf pool1 33 #[] #[{ accessFlags := 1, nameIndex := 5, descriptorIndex := 6, attributes := #[] }, { accessFlags := 9, nameIndex := 37, descriptorIndex := 38, attributes := #[] }] 49 2 #[] #[])
  fields := #[]
  methods := #[k1m0, k1m1]
  instanceTypes := #[]
  staticTypes := #[]
  resolved := Array.replicate 42 none
  statics := none }

def pool2 : Array CpInfo := pool [(1, .methodref 2 3), (0, .class_ 4), (0, .nameAndType 5 6), (0, u "java/lang/Object"), (0, u "<init>"), (0, u "()V"), (0, .class_ 8), (0, u "java/lang/Record")] 13

def k2c0 : Code := { maxStack := 1, maxLocals := 1, code := jdk_30_method_1_code, exceptionTable := #[], attributes := #[] }
def k2m0 : Method := { name := "<init>", desc := "()V", sig := { parameters := [], returnType := none }, accessFlags := 4, code := some k2c0 }
/-- java/lang/Record -/
def k2 : Class := { plain "java/lang/Record" (some 0) with
  accessFlags := 1057
  interfaces := #[]
  cf := some (fileOf pool2 7 #[] #[{ accessFlags := 4, nameIndex := 5, descriptorIndex := 6, attributes := #[] }] 1057 2 #[] #[])
  fields := #[]
  methods := #[k2m0]
  instanceTypes := #[]
  staticTypes := #[]
  resolved := Array.replicate 22 none
  statics := none }

def pool3 : Array CpInfo := pool [(1, .methodref 2 3), (0, .class_ 4), (0, .nameAndType 5 6), (0, u "java/lang/Record"), (0, u "<init>"), (0, u "()V"), (0, .string 8), (0, u "category"), (0, .methodref 10 11), (0, .class_ 12), (0, .nameAndType 13 14), (0, u "java/util/Objects"), (0, u "requireNonNull"), (0, u "(Ljava/lang/Object;Ljava/lang/String;)Ljava/lang/Object;"), (0, .string 16), (0, u "span"), (9, .fieldref 27 28), (0, .class_ 29), (0, .nameAndType 8 30), (0, u "com/example/clausewright/clausewright/review/Finding"), (0, u "Lcom/example/clausewright/clausewright/review/Category;"), (0, .fieldref 27 32), (0, .nameAndType 16 33), (0, u "Lcom/example/clausewright/clausewright/document/TextSpan;"), (0, .fieldref 27 35), (0, .nameAndType 36 37), (0, u "answer"), (0, u "Ljava/lang/String;"), (0, .fieldref 27 39), (0, .nameAndType 40 41), (0, u "score"), (0, u "D"), (0, .fieldref 27 43), (0, .nameAndType 44 45), (0, u "part"), (0, u "Lcom/example/clausewright/clausewright/document/Part;"), (0, .fieldref 27 47), (0, .nameAndType 48 49), (0, u "section"), (0, u "Lcom/example/clausewright/clausewright/document/Section;"), (2, u "(Lcom/example/clausewright/clausewright/review/Category;Lcom/example/clausewright/clausewright/document/TextSpan;Ljava/lang/String;DLcom/example/clausewright/clausewright/document/Part;Lcom/example/clausewright/clausewright/document/Section;)V"), (0, .double 4602678819172646912), (29, u "CLAIM_SCORE"), (14, u "isClaim"), (0, u "()Z")] 42

def k3c0 : Code := { maxStack := 4, maxLocals := 8, code := prog_55_method_1_code, exceptionTable := #[], attributes := #[] }
def k3m0 : Method := { name := "<init>", desc := "(Lcom/example/clausewright/clausewright/review/Category;Lcom/example/clausewright/clausewright/document/TextSpan;Ljava/lang/String;DLcom/example/clausewright/clausewright/document/Part;Lcom/example/clausewright/clausewright/document/Section;)V", sig := { parameters := [(.object "com/example/clausewright/clausewright/review/Category"), (.object "com/example/clausewright/clausewright/document/TextSpan"), (.object "java/lang/String"), .double, (.object "com/example/clausewright/clausewright/document/Part"), (.object "com/example/clausewright/clausewright/document/Section")], returnType := none }, accessFlags := 1, code := some k3c0 }
def k3c1 : Code := { maxStack := 4, maxLocals := 1, code := prog_55_method_3_code, exceptionTable := #[], attributes := #[] }
def k3m1 : Method := { name := "isClaim", desc := "()Z", sig := { parameters := [], returnType := some .boolean }, accessFlags := 1, code := some k3c1 }
/-- com/example/clausewright/clausewright/review/Finding -/
def k3 : Class := { plain "com/example/clausewright/clausewright/review/Finding" (some 2) with
  accessFlags := 49
  interfaces := #[]
  cf := some (fileOf pool3 27 #[] #[{ accessFlags := 1, nameIndex := 5, descriptorIndex := 52, attributes := #[] }, { accessFlags := 1, nameIndex := 98, descriptorIndex := 99, attributes := #[] }] 49 2 #[] #[{ accessFlags := 18, nameIndex := 8, descriptorIndex := 30, attributes := #[] }, { accessFlags := 18, nameIndex := 16, descriptorIndex := 33, attributes := #[] }, { accessFlags := 18, nameIndex := 36, descriptorIndex := 37, attributes := #[] }, { accessFlags := 18, nameIndex := 40, descriptorIndex := 41, attributes := #[] }, { accessFlags := 18, nameIndex := 44, descriptorIndex := 45, attributes := #[] }, { accessFlags := 18, nameIndex := 48, descriptorIndex := 49, attributes := #[] }, { accessFlags := 25, nameIndex := 83, descriptorIndex := 41, attributes := #[] }])
  fields := #[{ name := "category", type := (.object "com/example/clausewright/clausewright/review/Category"), accessFlags := 18, slot := 0, constantValue := 0 }, { name := "span", type := (.object "com/example/clausewright/clausewright/document/TextSpan"), accessFlags := 18, slot := 1, constantValue := 0 }, { name := "answer", type := (.object "java/lang/String"), accessFlags := 18, slot := 2, constantValue := 0 }, { name := "score", type := .double, accessFlags := 18, slot := 3, constantValue := 0 }, { name := "part", type := (.object "com/example/clausewright/clausewright/document/Part"), accessFlags := 18, slot := 4, constantValue := 0 }, { name := "section", type := (.object "com/example/clausewright/clausewright/document/Section"), accessFlags := 18, slot := 5, constantValue := 0 }, { name := "CLAIM_SCORE", type := .double, accessFlags := 25, slot := 0, constantValue := 0 }]
  methods := #[k3m0, k3m1]
  instanceTypes := #[(.object "com/example/clausewright/clausewright/review/Category"), (.object "com/example/clausewright/clausewright/document/TextSpan"), (.object "java/lang/String"), .double, (.object "com/example/clausewright/clausewright/document/Part"), (.object "com/example/clausewright/clausewright/document/Section")]
  staticTypes := #[.double]
  resolved := Array.replicate 142 none
  statics := none }

def pool4 : Array CpInfo := pool [(1, .class_ 2), (0, u "java/lang/constant/Constable"), (0, .class_ 4), (0, u "java/lang/Object")] 6

/-- java/lang/constant/Constable -/
def k4 : Class := { plain "java/lang/constant/Constable" (some 0) with
  accessFlags := 1537
  interfaces := #[]
  cf := some (fileOf pool4 1 #[] #[] 1537 3 #[] #[])
  fields := #[]
  methods := #[]
  instanceTypes := #[]
  staticTypes := #[]
  resolved := Array.replicate 11 none
  statics := none }

def pool5 : Array CpInfo := pool [(1, .class_ 2), (0, u "java/lang/Comparable"), (0, .class_ 4), (0, u "java/lang/Object")] 7

/-- java/lang/Comparable -/
def k5 : Class := { plain "java/lang/Comparable" (some 0) with
  accessFlags := 1537
  interfaces := #[]
  cf := some (fileOf pool5 1 #[] #[] 1537 3 #[] #[])
  fields := #[]
  methods := #[]
  instanceTypes := #[]
  staticTypes := #[]
  resolved := Array.replicate 12 none
  statics := none }

def pool6 : Array CpInfo := pool [(1, .class_ 2), (0, u "java/io/Serializable"), (0, .class_ 4), (0, u "java/lang/Object")] 2

/-- java/io/Serializable -/
def k6 : Class := { plain "java/io/Serializable" (some 0) with
  accessFlags := 1537
  interfaces := #[]
  cf := some (fileOf pool6 1 #[] #[] 1537 3 #[] #[])
  fields := #[]
  methods := #[]
  instanceTypes := #[]
  staticTypes := #[]
  resolved := Array.replicate 7 none
  statics := none }

def pool7 : Array CpInfo := pool [(2, .class_ 4), (1, u "java/lang/Enum"), (0, u "name"), (0, u "Ljava/lang/String;"), (2, u "ordinal"), (0, u "I"), (1, .class_ 14), (1, u "java/lang/Object"), (4, u "hash"), (86, .class_ 108), (1, u "java/lang/Enum$EnumDesc"), (2, .class_ 112), (0, u "java/lang/constant/Constable"), (0, .class_ 114), (0, u "java/lang/Comparable"), (0, .class_ 116), (0, u "java/io/Serializable")] 87

/-- java/lang/Enum -/
def k7 : Class := { plain "java/lang/Enum" (some 0) with
  accessFlags := 1057
  interfaces := #[4, 5, 6]
  cf := some (fileOf pool7 2 #[.nestMembers #[106]] #[] 1057 12 #[111, 113, 115] #[{ accessFlags := 18, nameIndex := 5, descriptorIndex := 6, attributes := #[] }, { accessFlags := 18, nameIndex := 9, descriptorIndex := 10, attributes := #[] }, { accessFlags := 2, nameIndex := 19, descriptorIndex := 10, attributes := #[] }])
  fields := #[{ name := "name", type := (.object "java/lang/String"), accessFlags := 18, slot := 0, constantValue := 0 }, { name := "ordinal", type := .int, accessFlags := 18, slot := 1, constantValue := 0 }, { name := "hash", type := .int, accessFlags := 2, slot := 2, constantValue := 0 }]
  methods := #[]
  instanceTypes := #[(.object "java/lang/String"), .int, .int]
  staticTypes := #[]
  resolved := Array.replicate 204 none
  statics := none }

def pool8 : Array CpInfo := pool [(1, .class_ 2), (0, u "com/example/clausewright/clausewright/review/Category"), (2, u "DOCUMENT_NAME"), (0, u "Lcom/example/clausewright/clausewright/review/Category;"), (2, u "PARTIES"), (2, u "AGREEMENT_DATE"), (2, u "EFFECTIVE_DATE"), (2, u "EXPIRATION_DATE"), (2, u "RENEWAL_TERM"), (2, u "NOTICE_PERIOD_TO_TERMINATE_RENEWAL"), (2, u "GOVERNING_LAW"), (2, u "MOST_FAVORED_NATION"), (2, u "NON_COMPETE"), (2, u "EXCLUSIVITY"), (2, u "NO_SOLICIT_OF_CUSTOMERS"), (2, u "COMPETITIVE_RESTRICTION_EXCEPTION"), (2, u "NO_SOLICIT_OF_EMPLOYEES"), (2, u "NON_DISPARAGEMENT"), (2, u "TERMINATION_FOR_CONVENIENCE"), (2, u "ROFR_ROFO_ROFN"), (2, u "CHANGE_OF_CONTROL"), (2, u "ANTI_ASSIGNMENT"), (2, u "REVENUE_PROFIT_SHARING"), (2, u "PRICE_RESTRICTIONS"), (2, u "MINIMUM_COMMITMENT"), (2, u "VOLUME_RESTRICTION"), (2, u "IP_OWNERSHIP_ASSIGNMENT"), (2, u "JOINT_IP_OWNERSHIP"), (2, u "LICENSE_GRANT"), (2, u "NON_TRANSFERABLE_LICENSE"), (2, u "AFFILIATE_LICENSE_LICENSOR"), (2, u "AFFILIATE_LICENSE_LICENSEE"), (2, u "UNLIMITED_ALL_YOU_CAN_EAT_LICENSE"), (2, u "IRREVOCABLE_OR_PERPETUAL_LICENSE"), (2, u "SOURCE_CODE_ESCROW"), (2, u "POST_TERMINATION_SERVICES"), (2, u "AUDIT_RIGHTS"), (2, u "UNCAPPED_LIABILITY"), (2, u "CAP_ON_LIABILITY"), (2, u "LIQUIDATED_DAMAGES"), (2, u "WARRANTY_DURATION"), (2, u "INSURANCE"), (2, u "COVENANT_NOT_TO_SUE"), (2, u "THIRD_PARTY_BENEFICIARY"), (2, u "$VALUES"), (0, u "[Lcom/example/clausewright/clausewright/review/Category;"), (6, .class_ 139), (1, u "java/lang/Enum"), (8, u "mBenchmarkName"), (0, u "Ljava/lang/String;")] 168

/-- com/example/clausewright/clausewright/review/Category -/
def k8 : Class := { plain "com/example/clausewright/clausewright/review/Category" (some 7) with
  accessFlags := 16433
  interfaces := #[]
  cf := some (fileOf pool8 1 #[] #[] 16433 137 #[] #[{ accessFlags := 16409, nameIndex := 5, descriptorIndex := 6, attributes := #[] }, { accessFlags := 16409, nameIndex := 9, descriptorIndex := 6, attributes := #[] }, { accessFlags := 16409, nameIndex := 12, descriptorIndex := 6, attributes := #[] }, { accessFlags := 16409, nameIndex := 15, descriptorIndex := 6, attributes := #[] }, { accessFlags := 16409, nameIndex := 18, descriptorIndex := 6, attributes := #[] }, { accessFlags := 16409, nameIndex := 21, descriptorIndex := 6, attributes := #[] }, { accessFlags := 16409, nameIndex := 24, descriptorIndex := 6, attributes := #[] }, { accessFlags := 16409, nameIndex := 27, descriptorIndex := 6, attributes := #[] }, { accessFlags := 16409, nameIndex := 30, descriptorIndex := 6, attributes := #[] }, { accessFlags := 16409, nameIndex := 33, descriptorIndex := 6, attributes := #[] }, { accessFlags := 16409, nameIndex := 36, descriptorIndex := 6, attributes := #[] }, { accessFlags := 16409, nameIndex := 39, descriptorIndex := 6, attributes := #[] }, { accessFlags := 16409, nameIndex := 42, descriptorIndex := 6, attributes := #[] }, { accessFlags := 16409, nameIndex := 45, descriptorIndex := 6, attributes := #[] }, { accessFlags := 16409, nameIndex := 48, descriptorIndex := 6, attributes := #[] }, { accessFlags := 16409, nameIndex := 51, descriptorIndex := 6, attributes := #[] }, { accessFlags := 16409, nameIndex := 54, descriptorIndex := 6, attributes := #[] }, { accessFlags := 16409, nameIndex := 57, descriptorIndex := 6, attributes := #[] }, { accessFlags := 16409, nameIndex := 60, descriptorIndex := 6, attributes := #[] }, { accessFlags := 16409, nameIndex := 63, descriptorIndex := 6, attributes := #[] }, { accessFlags := 16409, nameIndex := 66, descriptorIndex := 6, attributes := #[] }, { accessFlags := 16409, nameIndex := 69, descriptorIndex := 6, attributes := #[] }, { accessFlags := 16409, nameIndex := 72, descriptorIndex := 6, attributes := #[] }, { accessFlags := 16409, nameIndex := 75, descriptorIndex := 6, attributes := #[] }, { accessFlags := 16409, nameIndex := 78, descriptorIndex := 6, attributes := #[] }, { accessFlags := 16409, nameIndex := 81, descriptorIndex := 6, attributes := #[] }, { accessFlags := 16409, nameIndex := 84, descriptorIndex := 6, attributes := #[] }, { accessFlags := 16409, nameIndex := 87, descriptorIndex := 6, attributes := #[] }, { accessFlags := 16409, nameIndex := 90, descriptorIndex := 6, attributes := #[] }, { accessFlags := 16409, nameIndex := 93, descriptorIndex := 6, attributes := #[] }, { accessFlags := 16409, nameIndex := 96, descriptorIndex := 6, attributes := #[] }, { accessFlags := 16409, nameIndex := 99, descriptorIndex := 6, attributes := #[] }, { accessFlags := 16409, nameIndex := 102, descriptorIndex := 6, attributes := #[] }, { accessFlags := 16409, nameIndex := 105, descriptorIndex := 6, attributes := #[] }, { accessFlags := 16409, nameIndex := 108, descriptorIndex := 6, attributes := #[] }, { accessFlags := 16409, nameIndex := 111, descriptorIndex := 6, attributes := #[] }, { accessFlags := 16409, nameIndex := 114, descriptorIndex := 6, attributes := #[] }, { accessFlags := 16409, nameIndex := 117, descriptorIndex := 6, attributes := #[] }, { accessFlags := 16409, nameIndex := 120, descriptorIndex := 6, attributes := #[] }, { accessFlags := 16409, nameIndex := 123, descriptorIndex := 6, attributes := #[] }, { accessFlags := 16409, nameIndex := 126, descriptorIndex := 6, attributes := #[] }, { accessFlags := 18, nameIndex := 148, descriptorIndex := 149, attributes := #[] }, { accessFlags := 4122, nameIndex := 129, descriptorIndex := 130, attributes := #[] }])
  fields := #[{ name := "DOCUMENT_NAME", type := (.object "com/example/clausewright/clausewright/review/Category"), accessFlags := 16409, slot := 0, constantValue := 0 }, { name := "PARTIES", type := (.object "com/example/clausewright/clausewright/review/Category"), accessFlags := 16409, slot := 1, constantValue := 0 }, { name := "AGREEMENT_DATE", type := (.object "com/example/clausewright/clausewright/review/Category"), accessFlags := 16409, slot := 2, constantValue := 0 }, { name := "EFFECTIVE_DATE", type := (.object "com/example/clausewright/clausewright/review/Category"), accessFlags := 16409, slot := 3, constantValue := 0 }, { name := "EXPIRATION_DATE", type := (.object "com/example/clausewright/clausewright/review/Category"), accessFlags := 16409, slot := 4, constantValue := 0 }, { name := "RENEWAL_TERM", type := (.object "com/example/clausewright/clausewright/review/Category"), accessFlags := 16409, slot := 5, constantValue := 0 }, { name := "NOTICE_PERIOD_TO_TERMINATE_RENEWAL", type := (.object "com/example/clausewright/clausewright/review/Category"), accessFlags := 16409, slot := 6, constantValue := 0 }, { name := "GOVERNING_LAW", type := (.object "com/example/clausewright/clausewright/review/Category"), accessFlags := 16409, slot := 7, constantValue := 0 }, { name := "MOST_FAVORED_NATION", type := (.object "com/example/clausewright/clausewright/review/Category"), accessFlags := 16409, slot := 8, constantValue := 0 }, { name := "NON_COMPETE", type := (.object "com/example/clausewright/clausewright/review/Category"), accessFlags := 16409, slot := 9, constantValue := 0 }, { name := "EXCLUSIVITY", type := (.object "com/example/clausewright/clausewright/review/Category"), accessFlags := 16409, slot := 10, constantValue := 0 }, { name := "NO_SOLICIT_OF_CUSTOMERS", type := (.object "com/example/clausewright/clausewright/review/Category"), accessFlags := 16409, slot := 11, constantValue := 0 }, { name := "COMPETITIVE_RESTRICTION_EXCEPTION", type := (.object "com/example/clausewright/clausewright/review/Category"), accessFlags := 16409, slot := 12, constantValue := 0 }, { name := "NO_SOLICIT_OF_EMPLOYEES", type := (.object "com/example/clausewright/clausewright/review/Category"), accessFlags := 16409, slot := 13, constantValue := 0 }, { name := "NON_DISPARAGEMENT", type := (.object "com/example/clausewright/clausewright/review/Category"), accessFlags := 16409, slot := 14, constantValue := 0 }, { name := "TERMINATION_FOR_CONVENIENCE", type := (.object "com/example/clausewright/clausewright/review/Category"), accessFlags := 16409, slot := 15, constantValue := 0 }, { name := "ROFR_ROFO_ROFN", type := (.object "com/example/clausewright/clausewright/review/Category"), accessFlags := 16409, slot := 16, constantValue := 0 }, { name := "CHANGE_OF_CONTROL", type := (.object "com/example/clausewright/clausewright/review/Category"), accessFlags := 16409, slot := 17, constantValue := 0 }, { name := "ANTI_ASSIGNMENT", type := (.object "com/example/clausewright/clausewright/review/Category"), accessFlags := 16409, slot := 18, constantValue := 0 }, { name := "REVENUE_PROFIT_SHARING", type := (.object "com/example/clausewright/clausewright/review/Category"), accessFlags := 16409, slot := 19, constantValue := 0 }, { name := "PRICE_RESTRICTIONS", type := (.object "com/example/clausewright/clausewright/review/Category"), accessFlags := 16409, slot := 20, constantValue := 0 }, { name := "MINIMUM_COMMITMENT", type := (.object "com/example/clausewright/clausewright/review/Category"), accessFlags := 16409, slot := 21, constantValue := 0 }, { name := "VOLUME_RESTRICTION", type := (.object "com/example/clausewright/clausewright/review/Category"), accessFlags := 16409, slot := 22, constantValue := 0 }, { name := "IP_OWNERSHIP_ASSIGNMENT", type := (.object "com/example/clausewright/clausewright/review/Category"), accessFlags := 16409, slot := 23, constantValue := 0 }, { name := "JOINT_IP_OWNERSHIP", type := (.object "com/example/clausewright/clausewright/review/Category"), accessFlags := 16409, slot := 24, constantValue := 0 }, { name := "LICENSE_GRANT", type := (.object "com/example/clausewright/clausewright/review/Category"), accessFlags := 16409, slot := 25, constantValue := 0 }, { name := "NON_TRANSFERABLE_LICENSE", type := (.object "com/example/clausewright/clausewright/review/Category"), accessFlags := 16409, slot := 26, constantValue := 0 }, { name := "AFFILIATE_LICENSE_LICENSOR", type := (.object "com/example/clausewright/clausewright/review/Category"), accessFlags := 16409, slot := 27, constantValue := 0 }, { name := "AFFILIATE_LICENSE_LICENSEE", type := (.object "com/example/clausewright/clausewright/review/Category"), accessFlags := 16409, slot := 28, constantValue := 0 }, { name := "UNLIMITED_ALL_YOU_CAN_EAT_LICENSE", type := (.object "com/example/clausewright/clausewright/review/Category"), accessFlags := 16409, slot := 29, constantValue := 0 }, { name := "IRREVOCABLE_OR_PERPETUAL_LICENSE", type := (.object "com/example/clausewright/clausewright/review/Category"), accessFlags := 16409, slot := 30, constantValue := 0 }, { name := "SOURCE_CODE_ESCROW", type := (.object "com/example/clausewright/clausewright/review/Category"), accessFlags := 16409, slot := 31, constantValue := 0 }, { name := "POST_TERMINATION_SERVICES", type := (.object "com/example/clausewright/clausewright/review/Category"), accessFlags := 16409, slot := 32, constantValue := 0 }, { name := "AUDIT_RIGHTS", type := (.object "com/example/clausewright/clausewright/review/Category"), accessFlags := 16409, slot := 33, constantValue := 0 }, { name := "UNCAPPED_LIABILITY", type := (.object "com/example/clausewright/clausewright/review/Category"), accessFlags := 16409, slot := 34, constantValue := 0 }, { name := "CAP_ON_LIABILITY", type := (.object "com/example/clausewright/clausewright/review/Category"), accessFlags := 16409, slot := 35, constantValue := 0 }, { name := "LIQUIDATED_DAMAGES", type := (.object "com/example/clausewright/clausewright/review/Category"), accessFlags := 16409, slot := 36, constantValue := 0 }, { name := "WARRANTY_DURATION", type := (.object "com/example/clausewright/clausewright/review/Category"), accessFlags := 16409, slot := 37, constantValue := 0 }, { name := "INSURANCE", type := (.object "com/example/clausewright/clausewright/review/Category"), accessFlags := 16409, slot := 38, constantValue := 0 }, { name := "COVENANT_NOT_TO_SUE", type := (.object "com/example/clausewright/clausewright/review/Category"), accessFlags := 16409, slot := 39, constantValue := 0 }, { name := "THIRD_PARTY_BENEFICIARY", type := (.object "com/example/clausewright/clausewright/review/Category"), accessFlags := 16409, slot := 40, constantValue := 0 }, { name := "mBenchmarkName", type := (.object "java/lang/String"), accessFlags := 18, slot := 3, constantValue := 0 }, { name := "$VALUES", type := (.array (.object "com/example/clausewright/clausewright/review/Category")), accessFlags := 4122, slot := 41, constantValue := 0 }]
  methods := #[]
  instanceTypes := #[(.object "java/lang/String"), .int, .int, (.object "java/lang/String")]
  staticTypes := #[(.object "com/example/clausewright/clausewright/review/Category"), (.object "com/example/clausewright/clausewright/review/Category"), (.object "com/example/clausewright/clausewright/review/Category"), (.object "com/example/clausewright/clausewright/review/Category"), (.object "com/example/clausewright/clausewright/review/Category"), (.object "com/example/clausewright/clausewright/review/Category"), (.object "com/example/clausewright/clausewright/review/Category"), (.object "com/example/clausewright/clausewright/review/Category"), (.object "com/example/clausewright/clausewright/review/Category"), (.object "com/example/clausewright/clausewright/review/Category"), (.object "com/example/clausewright/clausewright/review/Category"), (.object "com/example/clausewright/clausewright/review/Category"), (.object "com/example/clausewright/clausewright/review/Category"), (.object "com/example/clausewright/clausewright/review/Category"), (.object "com/example/clausewright/clausewright/review/Category"), (.object "com/example/clausewright/clausewright/review/Category"), (.object "com/example/clausewright/clausewright/review/Category"), (.object "com/example/clausewright/clausewright/review/Category"), (.object "com/example/clausewright/clausewright/review/Category"), (.object "com/example/clausewright/clausewright/review/Category"), (.object "com/example/clausewright/clausewright/review/Category"), (.object "com/example/clausewright/clausewright/review/Category"), (.object "com/example/clausewright/clausewright/review/Category"), (.object "com/example/clausewright/clausewright/review/Category"), (.object "com/example/clausewright/clausewright/review/Category"), (.object "com/example/clausewright/clausewright/review/Category"), (.object "com/example/clausewright/clausewright/review/Category"), (.object "com/example/clausewright/clausewright/review/Category"), (.object "com/example/clausewright/clausewright/review/Category"), (.object "com/example/clausewright/clausewright/review/Category"), (.object "com/example/clausewright/clausewright/review/Category"), (.object "com/example/clausewright/clausewright/review/Category"), (.object "com/example/clausewright/clausewright/review/Category"), (.object "com/example/clausewright/clausewright/review/Category"), (.object "com/example/clausewright/clausewright/review/Category"), (.object "com/example/clausewright/clausewright/review/Category"), (.object "com/example/clausewright/clausewright/review/Category"), (.object "com/example/clausewright/clausewright/review/Category"), (.object "com/example/clausewright/clausewright/review/Category"), (.object "com/example/clausewright/clausewright/review/Category"), (.object "com/example/clausewright/clausewright/review/Category"), (.array (.object "com/example/clausewright/clausewright/review/Category"))]
  resolved := Array.replicate 318 none
  statics := some 0 }

def pool9 : Array CpInfo := pool [(1, .methodref 2 3), (0, .class_ 4), (0, .nameAndType 5 6), (0, u "java/lang/Record"), (0, u "<init>"), (0, u "()V"), (0, .fieldref 8 9), (0, .class_ 10), (0, .nameAndType 11 12), (0, u "com/example/clausewright/clausewright/document/TextSpan"), (0, u "start"), (0, u "I"), (0, .fieldref 8 14), (0, .nameAndType 15 12), (0, u "end"), (0, .fieldref 8 17), (0, .nameAndType 18 12), (0, u "line"), (0, .fieldref 8 20), (0, .nameAndType 21 12), (0, u "endLine"), (0, .fieldref 8 23), (0, .nameAndType 24 25), (0, u "text"), (0, u "Ljava/lang/String;"), (12, u "(IIIILjava/lang/String;)V")] 30

def k9c0 : Code := { maxStack := 2, maxLocals := 6, code := prog_30_method_1_code, exceptionTable := #[], attributes := #[] }
def k9m0 : Method := { name := "<init>", desc := "(IIIILjava/lang/String;)V", sig := { parameters := [.int, .int, .int, .int, (.object "java/lang/String")], returnType := none }, accessFlags := 1, code := some k9c0 }
/-- com/example/clausewright/clausewright/document/TextSpan -/
def k9 : Class := { plain "com/example/clausewright/clausewright/document/TextSpan" (some 2) with
  accessFlags := 49
  interfaces := #[]
  cf := some (fileOf pool9 8 #[] #[{ accessFlags := 1, nameIndex := 5, descriptorIndex := 38, attributes := #[] }] 49 2 #[] #[{ accessFlags := 18, nameIndex := 11, descriptorIndex := 12, attributes := #[] }, { accessFlags := 18, nameIndex := 15, descriptorIndex := 12, attributes := #[] }, { accessFlags := 18, nameIndex := 18, descriptorIndex := 12, attributes := #[] }, { accessFlags := 18, nameIndex := 21, descriptorIndex := 12, attributes := #[] }, { accessFlags := 18, nameIndex := 24, descriptorIndex := 25, attributes := #[] }])
  fields := #[{ name := "start", type := .int, accessFlags := 18, slot := 0, constantValue := 0 }, { name := "end", type := .int, accessFlags := 18, slot := 1, constantValue := 0 }, { name := "line", type := .int, accessFlags := 18, slot := 2, constantValue := 0 }, { name := "endLine", type := .int, accessFlags := 18, slot := 3, constantValue := 0 }, { name := "text", type := (.object "java/lang/String"), accessFlags := 18, slot := 4, constantValue := 0 }]
  methods := #[k9m0]
  instanceTypes := #[.int, .int, .int, .int, (.object "java/lang/String")]
  staticTypes := #[]
  resolved := Array.replicate 69 none
  statics := none }

def pool10 : Array CpInfo := pool [(2, .class_ 4), (1, u "java/lang/CharSequence"), (42, .class_ 48), (0, u "java/lang/CharSequence$1CodePointIterator"), (10, .class_ 60), (0, u "java/lang/CharSequence$1CharIterator"), (5, .class_ 67), (0, u "java/lang/Object")] 63

/-- java/lang/CharSequence -/
def k10 : Class := { plain "java/lang/CharSequence" (some 0) with
  accessFlags := 1537
  interfaces := #[]
  cf := some (fileOf pool10 2 #[.nestMembers #[47, 59]] #[] 1537 66 #[] #[])
  fields := #[]
  methods := #[]
  instanceTypes := #[]
  staticTypes := #[]
  resolved := Array.replicate 131 none
  statics := none }

def pool11 : Array CpInfo := pool [(1, .class_ 2), (0, u "java/lang/constant/ConstantDesc"), (0, .class_ 4), (0, u "java/lang/Object")] 32

/-- java/lang/constant/ConstantDesc -/
def k11 : Class := { plain "java/lang/constant/ConstantDesc" (some 0) with
  accessFlags := 1537
  interfaces := #[]
  cf := some (fileOf pool11 1 #[] #[] 1537 3 #[] #[])
  fields := #[]
  methods := #[]
  instanceTypes := #[]
  staticTypes := #[]
  resolved := Array.replicate 37 none
  statics := none }

def pool12 : Array CpInfo := pool [(2, .class_ 4), (1, u "java/lang/Object"), (0, u "<init>"), (0, u "()V"), (3, .class_ 12), (1, u "java/lang/String"), (0, u "value"), (0, u "[B"), (2, u "coder"), (0, u "B"), (2, u "hash"), (0, u "I"), (2, u "hashIsZero"), (0, u "Z"), (13, u "COMPACT_STRINGS"), (534, .class_ 576), (0, u "java/lang/CharSequence"), (22, u "CASE_INSENSITIVE_ORDER"), (0, u "Ljava/util/Comparator;"), (500, u "serialPersistentFields"), (0, u "[Ljava/io/ObjectStreamField;"), (0, .class_ 1104), (0, u "java/lang/String$CaseInsensitiveComparator"), (1, .class_ 1107), (0, u "java/io/Serializable"), (0, .class_ 1109), (0, u "java/lang/Comparable"), (0, .class_ 1111), (0, u "java/lang/constant/Constable"), (0, .class_ 1113), (0, u "java/lang/constant/ConstantDesc"), (2, u "serialVersionUID"), (0, u "J"), (3, u "REPL"), (0, u "C"), (2, u "LATIN1"), (1, u "UTF16")] 323

def k12m0 : Method := { name := "<init>", desc := "()V", sig := { parameters := [], returnType := none }, accessFlags := 1, code := none }
/-- java/lang/String -/
def k12 : Class := { plain "java/lang/String" (some 0) with
  accessFlags := 49
  interfaces := #[6, 5, 10, 4, 11]
  cf := some (fileOf pool12 10 #[.nestMembers #[1103]] #[{ accessFlags := 1, nameIndex := 5, descriptorIndex := 6, attributes := #[] }] 49 2 #[1106, 1108, 575, 1110, 1112] #[{ accessFlags := 18, nameIndex := 13, descriptorIndex := 14, attributes := #[] }, { accessFlags := 18, nameIndex := 17, descriptorIndex := 18, attributes := #[] }, { accessFlags := 2, nameIndex := 21, descriptorIndex := 22, attributes := #[] }, { accessFlags := 2, nameIndex := 25, descriptorIndex := 26, attributes := #[] }, { accessFlags := 26, nameIndex := 1116, descriptorIndex := 1117, attributes := #[] }, { accessFlags := 24, nameIndex := 40, descriptorIndex := 26, attributes := #[] }, { accessFlags := 26, nameIndex := 1101, descriptorIndex := 1102, attributes := #[] }, { accessFlags := 26, nameIndex := 1121, descriptorIndex := 1122, attributes := #[] }, { accessFlags := 25, nameIndex := 599, descriptorIndex := 600, attributes := #[] }, { accessFlags := 24, nameIndex := 1125, descriptorIndex := 18, attributes := #[] }, { accessFlags := 24, nameIndex := 1127, descriptorIndex := 18, attributes := #[] }])
  fields := #[{ name := "value", type := (.array .byte), accessFlags := 18, slot := 0, constantValue := 0 }, { name := "coder", type := .byte, accessFlags := 18, slot := 1, constantValue := 0 }, { name := "hash", type := .int, accessFlags := 2, slot := 2, constantValue := 0 }, { name := "hashIsZero", type := .boolean, accessFlags := 2, slot := 3, constantValue := 0 }, { name := "serialVersionUID", type := .long, accessFlags := 26, slot := 0, constantValue := 0 }, { name := "COMPACT_STRINGS", type := .boolean, accessFlags := 24, slot := 1, constantValue := 0 }, { name := "serialPersistentFields", type := (.array (.object "java/io/ObjectStreamField")), accessFlags := 26, slot := 2, constantValue := 0 }, { name := "REPL", type := .char, accessFlags := 26, slot := 3, constantValue := 0 }, { name := "CASE_INSENSITIVE_ORDER", type := (.object "java/util/Comparator"), accessFlags := 25, slot := 4, constantValue := 0 }, { name := "LATIN1", type := .byte, accessFlags := 24, slot := 5, constantValue := 0 }, { name := "UTF16", type := .byte, accessFlags := 24, slot := 6, constantValue := 0 }]
  methods := #[k12m0]
  instanceTypes := #[(.array .byte), .byte, .int, .boolean]
  staticTypes := #[.long, .boolean, (.array (.object "java/io/ObjectStreamField")), .char, (.object "java/util/Comparator"), .byte, .byte]
  resolved := Array.replicate 1451 none
  statics := none }

def pool13 : Array CpInfo := pool [(2, .class_ 4), (1, u "java/lang/Object"), (0, u "<init>"), (0, u "()V"), (35, .class_ 44), (1, u "java/util/Objects"), (0, u "requireNonNull"), (48, u "(Ljava/lang/Object;Ljava/lang/String;)Ljava/lang/Object;")] 89

def k13m0 : Method := { name := "<init>", desc := "()V", sig := { parameters := [], returnType := none }, accessFlags := 2, code := none }
def k13c1 : Code := { maxStack := 3, maxLocals := 2, code := jdk_31_method_11_code, exceptionTable := #[], attributes := #[] }
def k13m1 : Method := { name := "requireNonNull", desc := "(Ljava/lang/Object;Ljava/lang/String;)Ljava/lang/Object;", sig := { parameters := [(.object "java/lang/Object"), (.object "java/lang/String")], returnType := some (.object "java/lang/Object") }, accessFlags := 9, code := some k13c1 }
/-- java/util/Objects -/
def k13 : Class := { plain "java/util/Objects" (some 0) with
  accessFlags := 49
  interfaces := #[]
  cf := some (fileOf pool13 42 #[] #[{ accessFlags := 2, nameIndex := 5, descriptorIndex := 6, attributes := #[] }, { accessFlags := 9, nameIndex := 45, descriptorIndex := 94, attributes := #[] }] 49 2 #[] #[])
  fields := #[]
  methods := #[k13m0, k13m1]
  instanceTypes := #[]
  staticTypes := #[]
  resolved := Array.replicate 184 none
  statics := none }

def pool14 : Array CpInfo := pool [(1, u "java/lang/Cloneable"), (0, .class_ 1), (0, u "java/lang/Object"), (0, .class_ 3)] 3

/-- java/lang/Cloneable -/
def k14 : Class := { plain "java/lang/Cloneable" (some 0) with
  accessFlags := 1537
  interfaces := #[]
  cf := some (fileOf pool14 2 #[] #[] 1537 4 #[] #[])
  fields := #[]
  methods := #[]
  instanceTypes := #[]
  staticTypes := #[]
  resolved := Array.replicate 8 none
  statics := none }

/-- the primitive byte -/
def k15 : Class := { plain "byte" none with kind := .primitive 'B', accessFlags := 0x411 }
/-- [B -/
def k16 : Class := { plain "[B" (some 0) with kind := .array 15 .byte, interfaces := #[14, 6], accessFlags := 1041 }

/-- the primitive int -/
def k17 : Class := { plain "int" none with kind := .primitive 'I', accessFlags := 0x411 }
/-- [I -/
def k18 : Class := { plain "[I" (some 0) with kind := .array 17 .int, interfaces := #[14, 6], accessFlags := 1041 }

def heap : Heap := #[{ cls := 8, slots := #[.null, .null, .null, .null, .null, .null, .null, .ref 1, .null, .null, .null, .null, .null, .null, .null, .null, .null, .null, .null, .null, .null, .null, .null, .null, .null, .null, .null, .null, .null, .null, .null, .null, .null, .null, .null, .null, .null, .null, .null, .null, .null, .null], vm := .statics 8 },
  { cls := 8, slots := #[.null, .int 0, .int 0, .null], vm := .none }]
def classes : Array Class := #[k0, k1, k2, k3, k4, k5, k6, k7, k8, k9, k10, k11, k12, k13, k14, k15, k16, k17, k18]
def interned : List (Array UInt16 × Addr) := []
def slotsUsed : Nat := 46
def theMethod : MethodId := ⟨1, 1⟩
def args0 : Array Value := #[.int 5, .int 6]
def aboutOver (below : List Frame) : State where
  vm := { classes := classes, interned := interned.toArray }
  heap := heap
  slotsUsed := slotsUsed
  threads := #[{ frames := .invoking theMethod args0 :: below }]
def below0 : List Frame := [.native { method := ⟨0, 0⟩, args := #[] }]
def about1 : State := aboutOver below0
def p0 : Program := .bare "" "" ""
def e0 : Env := launch0.env 0 0 0
theorem w_frames : about1.frames = Frame.invoking theMethod args0 :: below0 := rfl
set_option maxRecDepth 65536 in
theorem w_args : argsFit about1.vm theMethod args0 = true := by decide +kernel
set_option maxRecDepth 65536 in
theorem w_heap : heapFits about1 = true := by decide +kernel
set_option maxRecDepth 65536 in
theorem w_runnable : about1.curStatus? = some .runnable := by decide +kernel
set_option maxRecDepth 65536 in
theorem w_alone : about1.alone = true := by decide +kernel
set_option maxRecDepth 65536 in
theorem w_named : about1.methodNamed? x = some theMethod := by decide +kernel
set_option maxRecDepth 65536 in
theorem w_hears : about1.hears theMethod below0 = true := by decide +kernel
set_option maxRecDepth 65536 in
theorem w_ripe : about1.ripe theMethod args0 below0 = true := by decide +kernel
theorem w_running : about1.status = .running := rfl
set_option maxRecDepth 65536 in
theorem w_room : about1.hasRoom e0.platform room_1 = true :=
  launch0.hasRoom_least _ room_1 (by decide +kernel) (by decide +kernel) (by decide +kernel) (by decide +kernel) (by decide +kernel) (by decide +kernel)
theorem allAtoms_all (ts : List Jvm.Cond) (a : Array Jvm.Value) (st : Jvm.State) : (allAtoms ts).before a st = ts.all (fun c => c.before a st) := by
  induction ts with
  | nil => rfl
  | cons c t ih =>
    show (Jvm.Cond.and c (allAtoms t)).before a st = _
    rw [Jvm.Cond.before_and, ih, List.all_cons]
def words1 : List Jvm.Cond := Jvm.Cond.code x code maxLocals ret :: tables_1
/-- a 'code' word, met by the world's own term for the bytes: nothing is compared byte by byte -/
theorem code_word {y : MethodName} {bytes : ByteArray} {mx : Nat} {rt : Option FieldType} {a : Array Value} {s : State} {m : MethodId} {meth : Method} {c : Code} (h1 : s.methodNamed? y = some m) (h2 : s.vm.method? m = some meth) (h3 : meth.code = some c) (h4 : c.code = bytes)
    (h5 : (c.maxLocals == mx && c.exceptionTable.isEmpty && decide (c.maxStack ≤ mostOperands) && decide (meth.sig.returnType = rt) && !meth.locks && decide (parseMethodDescriptor y.desc = some meth.sig)) = true) : (Jvm.Cond.code y bytes mx rt).before a s = true := by
  simp only [Bool.and_eq_true, beq_iff_eq, Bool.not_eq_true', decide_eq_true_eq] at h5
  obtain ⟨⟨⟨⟨⟨g1, g2⟩, g3⟩, g4⟩, g5⟩, g6⟩ := h5
  simp [Cond.before, Cond.holds, Cond.value, h1, h2, h3, h4, g1, g2, g3, g4, g5, g6]
def isCode : Jvm.Cond → Bool
  | .code _ _ _ _ => true
  | _ => false
theorem all_split {L : List Jvm.Cond} {P : Jvm.Cond → Bool} (h1 : L.all (fun c => isCode c || P c) = true) (h2 : ∀ c ∈ L.filter isCode, P c = true) : L.all P = true := by
  refine List.all_eq_true.mpr fun c hc => ?_
  have h := List.all_eq_true.mp h1 c hc
  rcases Bool.eq_false_or_eq_true (isCode c) with hi | hi
  · exact h2 c (List.mem_filter.mpr ⟨hc, hi⟩)
  · simpa [hi] using h
set_option maxRecDepth 65536 in
theorem w_c0 : (Jvm.Cond.code x code maxLocals ret).before args0 about1 = true := code_word (m := ⟨1, 1⟩) (meth := k1m1) (c := k1c1) (by decide +kernel) rfl rfl rfl (by decide +kernel)
set_option maxRecDepth 65536 in
theorem w_c1 : (Jvm.Cond.code ({ cls := "com/example/clausewright/clausewright/document/TextSpan", name := "<init>", desc := "(IIIILjava/lang/String;)V" } : Jvm.MethodName) prog_30_method_1_code (6 : Nat) (Option.none : Option Jvm.ClassFile.FieldType)).before args0 about1 = true := code_word (m := ⟨9, 0⟩) (meth := k9m0) (c := k9c0) (by decide +kernel) rfl rfl rfl (by decide +kernel)
set_option maxRecDepth 65536 in
theorem w_c2 : (Jvm.Cond.code ({ cls := "java/lang/Record", name := "<init>", desc := "()V" } : Jvm.MethodName) jdk_30_method_1_code (1 : Nat) (Option.none : Option Jvm.ClassFile.FieldType)).before args0 about1 = true := code_word (m := ⟨2, 0⟩) (meth := k2m0) (c := k2c0) (by decide +kernel) rfl rfl rfl (by decide +kernel)
set_option maxRecDepth 65536 in
theorem w_c3 : (Jvm.Cond.code ({ cls := "java/lang/Object", name := "<init>", desc := "()V" } : Jvm.MethodName) object_method_1_code (1 : Nat) (Option.none : Option Jvm.ClassFile.FieldType)).before args0 about1 = true := code_word (m := ⟨0, 0⟩) (meth := k0m0) (c := k0c0) (by decide +kernel) rfl rfl rfl (by decide +kernel)
set_option maxRecDepth 65536 in
theorem w_c4 : (Jvm.Cond.code ({ cls := "com/example/clausewright/clausewright/review/Finding", name := "<init>", desc := "(Lcom/example/clausewright/clausewright/review/Category;Lcom/example/clausewright/clausewright/document/TextSpan;Ljava/lang/String;DLcom/example/clausewright/clausewright/document/Part;Lcom/example/clausewright/clausewright/document/Section;)V" } : Jvm.MethodName) prog_55_method_1_code (8 : Nat) (Option.none : Option Jvm.ClassFile.FieldType)).before args0 about1 = true := code_word (m := ⟨3, 0⟩) (meth := k3m0) (c := k3c0) (by decide +kernel) rfl rfl rfl (by decide +kernel)
set_option maxRecDepth 65536 in
theorem w_c5 : (Jvm.Cond.code ({ cls := "java/util/Objects", name := "requireNonNull", desc := "(Ljava/lang/Object;Ljava/lang/String;)Ljava/lang/Object;" } : Jvm.MethodName) jdk_31_method_11_code (2 : Nat) (Option.some (Jvm.ClassFile.FieldType.object "java/lang/Object"))).before args0 about1 = true := code_word (m := ⟨13, 1⟩) (meth := k13m1) (c := k13c1) (by decide +kernel) rfl rfl rfl (by decide +kernel)
set_option maxRecDepth 65536 in
theorem w_c6 : (Jvm.Cond.code ({ cls := "com/example/clausewright/clausewright/review/Finding", name := "isClaim", desc := "()Z" } : Jvm.MethodName) prog_55_method_3_code (1 : Nat) (Option.some Jvm.ClassFile.FieldType.boolean)).before args0 about1 = true := code_word (m := ⟨3, 1⟩) (meth := k3m1) (c := k3c1) (by decide +kernel) rfl rfl rfl (by decide +kernel)
def codes1 : List Jvm.Cond := [Jvm.Cond.code x code maxLocals ret, Jvm.Cond.code ({ cls := "com/example/clausewright/clausewright/document/TextSpan", name := "<init>", desc := "(IIIILjava/lang/String;)V" } : Jvm.MethodName) prog_30_method_1_code (6 : Nat) (Option.none : Option Jvm.ClassFile.FieldType), Jvm.Cond.code ({ cls := "java/lang/Record", name := "<init>", desc := "()V" } : Jvm.MethodName) jdk_30_method_1_code (1 : Nat) (Option.none : Option Jvm.ClassFile.FieldType), Jvm.Cond.code ({ cls := "java/lang/Object", name := "<init>", desc := "()V" } : Jvm.MethodName) object_method_1_code (1 : Nat) (Option.none : Option Jvm.ClassFile.FieldType), Jvm.Cond.code ({ cls := "com/example/clausewright/clausewright/review/Finding", name := "<init>", desc := "(Lcom/example/clausewright/clausewright/review/Category;Lcom/example/clausewright/clausewright/document/TextSpan;Ljava/lang/String;DLcom/example/clausewright/clausewright/document/Part;Lcom/example/clausewright/clausewright/document/Section;)V" } : Jvm.MethodName) prog_55_method_1_code (8 : Nat) (Option.none : Option Jvm.ClassFile.FieldType), Jvm.Cond.code ({ cls := "java/util/Objects", name := "requireNonNull", desc := "(Ljava/lang/Object;Ljava/lang/String;)Ljava/lang/Object;" } : Jvm.MethodName) jdk_31_method_11_code (2 : Nat) (Option.some (Jvm.ClassFile.FieldType.object "java/lang/Object")), Jvm.Cond.code ({ cls := "com/example/clausewright/clausewright/review/Finding", name := "isClaim", desc := "()Z" } : Jvm.MethodName) prog_55_method_3_code (1 : Nat) (Option.some Jvm.ClassFile.FieldType.boolean)]
set_option maxRecDepth 65536 in
theorem codes_eq : words1.filter isCode = codes1 := rfl
theorem w_codes : ∀ c ∈ words1.filter isCode, c.before args0 about1 = true := by
  rw [codes_eq]
  intro c hc
  simp only [codes1, List.mem_cons, List.not_mem_nil, or_false] at hc
  rcases hc with rfl | rfl | rfl | rfl | rfl | rfl | rfl
  · exact w_c0
  · exact w_c1
  · exact w_c2
  · exact w_c3
  · exact w_c4
  · exact w_c5
  · exact w_c6
set_option maxRecDepth 65536 in
theorem w_t1 : (words1.take 24).all (fun c => isCode c || c.before args0 about1) = true := by decide +kernel
set_option maxRecDepth 65536 in
theorem w_t2 : ((words1.drop 24).take 24).all (fun c => isCode c || c.before args0 about1) = true := by decide +kernel
set_option maxRecDepth 65536 in
theorem w_t3 : ((words1.drop 24).drop 24).all (fun c => isCode c || c.before args0 about1) = true := by decide +kernel
theorem w_tables : (allAtoms (Jvm.Cond.code x code maxLocals ret :: tables_1)).before args0 about1 = true := by
  rw [allAtoms_all]
  show words1.all (fun c => c.before args0 about1) = true
  refine all_split ?_ w_codes
  rw [← List.take_append_drop 24 words1, List.all_append, w_t1, ← List.take_append_drop 24 (words1.drop 24), List.all_append, w_t2, w_t3]
  rfl
set_option maxRecDepth 65536 in
theorem w_case : (Jvm.Cond.and given_1 narrow_1).before args0 about1 = true := by decide +kernel
theorem w_applies : (headSpec (Jvm.Cond.code x code maxLocals ret :: tables_1) room_1).applies x e0.platform about1 = true :=
  (Spec.applies_iff w_frames).mpr ⟨w_running, w_runnable, w_alone, w_named, w_hears, w_ripe, w_room, w_tables⟩
theorem atStart : AtStart classFile x code maxLocals ret World_1 tables_1 room_1 Calls_1 rest_1 Pre_1 launch0 p0 e0 about1 theMethod args0 below0 :=
  ⟨lists_1, trivial, launch0.admits_env _ _ _, launch0.least_env, fairChoices_fair.cas, fairChoices_fair.clock, w_frames, w_args, w_heap, w_applies, trivial, trivial, w_case⟩
end start1
theorem witness_1 : WitnessClaimed_1 := ⟨start1.p0, start1.e0, start1.about1, start1.theMethod, start1.args0, start1.below0, start1.atStart⟩
end Jvm.Pilot.@@N@@
