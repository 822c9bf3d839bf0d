import JvmDerived
import JvmDerived.Pilot.@@N@@Statement
import JvmDerived.Pilot.@@N@@Code
set_option linter.unusedVariables false
set_option linter.unusedSimpArgs false
namespace Jvm.Pilot.@@N@@
open Jvm Jvm.ClassFile Sem Op Lib Jvm.Free Jvm.Stand Jvm.LawKit Jvm.RoadKit Bundle Jvm.Pilot.@@N@@.Jvm.D
abbrev own_Gd (tb : Tables) (e : Env) (below : List Frame) (P : State → Outcome → Prop) (A : State) : Prop := ∃ U o, Steps tb e below A U ∧ U.status = .running ∧ Ended U below o ∧ P U o
theorem own_go {tb : Tables} {e : Env} {below : List Frame} {P : State → Outcome → Prop} {A B : State} (st : ∀ t, Steps tb e below B t → Steps tb e below A t) (h : own_Gd tb e below P B) : own_Gd tb e below P A := by
  obtain ⟨U, o, h1, h2⟩ := h
  exact ⟨U, o, st _ h1, h2⟩
theorem own_done {tb : Tables} {e : Env} {below : List Frame} {P : State → Outcome → Prop} {A U : State} {o : Outcome} (st : Steps tb e below A U) (h1 : U.status = .running) (h2 : Ended U below o) (h3 : P U o) : own_Gd tb e below P A := ⟨U, o, st, h1, h2, h3⟩
abbrev own_P (Q : Option Value → Heap → List Loc → Prop) (s : State) (cells slots : Nat) : State → Outcome → Prop := fun U' o => ∃ v L, o = .returned v ∧ Q v U'.heap L ∧ FrameEnd s o U' L cells slots
abbrev own_PW (Q : Option Value → Heap → List Loc → Prop) (s : State) (cells slots : Nat) : State → Outcome → Prop := fun U' o => ∃ v L, o = .returned v ∧ Q v U'.heap L ∧ ReturnedEndW s o U' L cells slots
theorem own_len {args : Array Value} {Z : State} {t : Term} {a : Addr} {c : Cell} {n : Int32} (ev : t.eval args Z none [] Z = some (.ref a)) (ha : Z.arrayAt? a = some c) (h : (Term.length t).eval args Z none [] Z = some (.int n)) : c.slots.size < 2 ^ 31 ∧ c.slots.size.toInt32 = n := by
  by_cases q : c.slots.size < 2 ^ 31
  · rw [len_f ev ha q] at h
    cases h
    exact ⟨q, rfl⟩
  · exfalso
    simp [Term.eval, ev, ha] at h
    omega
theorem own_ord {args : Array Value} {Z : State} {t : Term} {C n d : String} {a : Addr} {k : Int32} (ht : t.eval args Z none [] Z = some (.ref a)) (h : (Jvm.Cond.eq (Term.field t C n d) (Term.int k)).value args Z none Z [] = some true) : Fld Z Z.heap a C n d (.int k) := Fld.start ((fld_at ht).symm.trans (eqv_i rfl h))

theorem pn_0 : plainName "com/example/holdfast/holdfast/SolutionIsSetPinLaw" = true := by first | (simp [plainName, overriddenIn]; done) | decide +kernel
theorem pn_1 : plainName "com/example/holdfast/holdfast/SolutionIsSetPinLaw" = true := by first | (simp [plainName, overriddenIn]; done) | decide +kernel
theorem pn_2 : plainName "com/example/holdfast/holdfast/SolutionIsSetPinLaw" = true := by first | (simp [plainName, overriddenIn]; done) | decide +kernel
theorem pn_3 : plainName "com/example/holdfast/holdfast/SolutionIsSetPinLaw" = true := by first | (simp [plainName, overriddenIn]; done) | decide +kernel
theorem pn_4 : plainName "com/example/holdfast/holdfast/Mip$Solution" = true := by first | (simp [plainName, overriddenIn]; done) | decide +kernel
theorem pn_5 : plainName "java/lang/Record" = true := by first | (simp [plainName, overriddenIn]; done) | decide +kernel
theorem pn_7 : plainName "com/example/holdfast/holdfast/Mip$Solution" = true := by first | (simp [plainName, overriddenIn]; done) | decide +kernel
theorem pd_0 : parseMethodDescriptor "()V" = some ⟨[], none⟩ := by decide +kernel
theorem pd_1 : parseMethodDescriptor "(I)I" = some ⟨[.int], some .int⟩ := by decide +kernel
theorem pd_2 : parseMethodDescriptor "(I)D" = some ⟨[.int], some .double⟩ := by decide +kernel
theorem pd_3 : parseMethodDescriptor "(I)Lcom/example/holdfast/holdfast/Mip$Status;" = some ⟨[.int], some (.object "com/example/holdfast/holdfast/Mip$Status")⟩ := by decide +kernel
theorem pd_4 : parseMethodDescriptor "(Lcom/example/holdfast/holdfast/Mip$Status;[D)V" = some ⟨[(.object "com/example/holdfast/holdfast/Mip$Status"), (.array .double)], none⟩ := by decide +kernel
theorem pd_5 : parseMethodDescriptor "(I)Z" = some ⟨[.int], some .boolean⟩ := by decide +kernel
section OwnFP
open Jvm.FP Jvm.FP.Core Jvm.Free.Fl
theorem own_whole {i : Int} {d : Datum} (h : Whole i d) : ∃ s c q, d = .fin s c q ∧ signed s (c * 2 ^ q.toNat) = i * ((2 ^ (-q).toNat : Nat) : Int) := by
  cases d with
  | nan => exact h.elim
  | inf s => exact h.elim
  | fin s c q => exact ⟨s, c, q, rfl, h⟩
theorem own_congr {K N c d : Nat} {q r : Int} (hc : c * 2 ^ q.toNat = K * 2 ^ (-q).toNat) (hd : d * 2 ^ r.toNat = N * 2 ^ (-r).toNat) : c * N * 2 ^ ((q - r) - 0).toNat = K * d * 2 ^ (0 - (q - r)).toNat := by
  have hp : 0 < 2 ^ (q.toNat + (-r).toNat) := Nat.two_pow_pos _
  refine Nat.eq_of_mul_eq_mul_right hp ?_
  have e1 : ((q - r) - 0).toNat + (-q).toNat + r.toNat = (0 - (q - r)).toNat + q.toNat + (-r).toNat := by omega
  calc c * N * 2 ^ ((q - r) - 0).toNat * 2 ^ (q.toNat + (-r).toNat)
      = (c * 2 ^ q.toNat) * (N * 2 ^ (-r).toNat) * 2 ^ ((q - r) - 0).toNat := by rw [Nat.pow_add]; ac_rfl
    _ = (K * 2 ^ (-q).toNat) * (d * 2 ^ r.toNat) * 2 ^ ((q - r) - 0).toNat := by rw [hc, hd]
    _ = K * d * 2 ^ (((q - r) - 0).toNat + (-q).toNat + r.toNat) := by rw [Nat.pow_add, Nat.pow_add]; ac_rfl
    _ = K * d * 2 ^ ((0 - (q - r)).toNat + q.toNat + (-r).toNat) := by rw [e1]
    _ = K * d * 2 ^ (0 - (q - r)).toNat * 2 ^ (q.toNat + (-r).toNat) := by rw [Nat.pow_add, Nat.pow_add, Nat.pow_add]; ac_rfl
theorem own_signed {s : Bool} {X : Nat} {i : Int} {P : Nat} (hP : 0 < P) (h : signed s X = i * (P : Int)) : X = i.natAbs * P ∧ (i < 0 → s = true) ∧ (0 < i → s = false) := by
  have hP' : (0 : Int) < (P : Int) := by omega
  have h1 : X = i.natAbs * P := by
    have q := congrArg Int.natAbs h
    rw [natAbs_signed, Int.natAbs_mul, Int.natAbs_natCast] at q
    exact q
  refine ⟨h1, fun hi => ?_, fun hi => ?_⟩
  · cases s
    · exfalso
      have q : signed false X = (X : Int) := rfl
      rw [q] at h
      have := Int.mul_neg_of_neg_of_pos hi hP'
      omega
    · rfl
  · cases s
    · rfl
    · exfalso
      have q : signed true X = -(X : Int) := rfl
      rw [q] at h
      have := Int.mul_pos hi hP'
      omega
theorem own_quot {k n : Int32} (hk : 0 < k.toInt ∨ k.toInt < 0) (hn : 0 < n.toInt) : val64 (Core.ddiv (Core.i2d k) (Core.i2d n)) = roundRatio b64 (decide (k.toInt < 0)) k.toInt.natAbs n.toInt.natAbs 0 := by
  obtain ⟨s, c, q, e1, w1⟩ := own_whole (i2d_int k)
  obtain ⟨t, d, r, e2, w2⟩ := own_whole (i2d_int n)
  obtain ⟨a1, a2, a3⟩ := own_signed (Nat.two_pow_pos _) w1
  obtain ⟨b1, b2, b3⟩ := own_signed (Nat.two_pow_pos _) w2
  have ht := b3 hn
  subst ht
  have hs : s = decide (k.toInt < 0) := by
    rcases hk with hk | hk
    · rw [a3 hk]; simp; omega
    · rw [a2 hk]; simp [hk]
  have hd : d ≠ 0 := by
    intro q0
    subst q0
    have p1 : 0 < n.toInt.natAbs * 2 ^ (-r).toNat := Nat.mul_pos (by omega) (Nat.two_pow_pos _)
    omega
  rw [val64_ddiv, e1, e2]
  show (if d = 0 then _ else roundRatio b64 (s != false) c d (q - r)) = _
  rw [if_neg hd, ← hs]
  have e3 : (s != false) = s := by cases s <;> rfl
  rw [e3]
  exact roundRatio_congr (by omega) (by omega) (own_congr a1 b1)
def own_Pw : Nat := 2 ^ 1020
theorem own_Ppos : 0 < own_Pw := Nat.two_pow_pos _
theorem own_units (K : Nat) : inUnits K 0 b64.qmin = K * (18014398509481984 * own_Pw) := by
  have e : 2 ^ ((0 : Int) - b64.qmin).toNat = 18014398509481984 * own_Pw := by decide +kernel
  unfold inUnits
  rw [e]
theorem own_ge {s : Bool} {K N c u : Nat} {q : Int} (hN : 0 < N) (hV : Jvm.FP.Core.fits b64 (Datum.fin false c q)) (hu : inUnits c q b64.qmin = u * own_Pw) (h : u * N ≤ K * 18014398509481984) : u * own_Pw ≤ zmag b64 (roundRatio b64 s K N 0) := by
  have h2 : u * own_Pw * N ≤ K * (18014398509481984 * own_Pw) := by
    have := Nat.mul_le_mul_right own_Pw h
    calc u * own_Pw * N = u * N * own_Pw := Nat.mul_right_comm _ _ _
      _ ≤ K * 18014398509481984 * own_Pw := this
      _ = K * (18014398509481984 * own_Pw) := Nat.mul_assoc _ _ _
  have := zmag_roundRatio_ge good_b64 (s := s) (A := K) (B := N) (e := 0) (e0 := b64.qmin) (V := Datum.fin false c q) hN hV (Int.le_refl _) (by decide) (by
    rw [own_units, Int.sub_self]
    show inUnits c q b64.qmin * 2 ^ 0 * N ≤ _
    rw [hu, Nat.pow_zero, Nat.mul_one]
    exact h2)
  rw [← hu]
  exact this
theorem own_le {s : Bool} {K N c u : Nat} {q : Int} (hN : 0 < N) (hV : Jvm.FP.Core.fits b64 (Datum.fin false c q)) (hu : inUnits c q b64.qmin = u * own_Pw) (h : K * 18014398509481984 ≤ u * N) : zmag b64 (roundRatio b64 s K N 0) ≤ u * own_Pw := by
  have h2 : K * (18014398509481984 * own_Pw) ≤ u * own_Pw * N := by
    have := Nat.mul_le_mul_right own_Pw h
    calc K * (18014398509481984 * own_Pw) = K * 18014398509481984 * own_Pw := (Nat.mul_assoc _ _ _).symm
      _ ≤ u * N * own_Pw := this
      _ = u * own_Pw * N := Nat.mul_right_comm _ _ _
  have := zmag_roundRatio_le good_b64 (s := s) (A := K) (B := N) (e := 0) (e0 := b64.qmin) (V := Datum.fin false c q) hN hV (by simp) (Int.le_refl _) (by decide) (by
    rw [own_units, Int.sub_self]
    show _ ≤ inUnits c q b64.qmin * 2 ^ 0 * N
    rw [hu, Nat.pow_zero, Nat.mul_one]
    exact h2)
  rw [← hu]
  exact this
theorem own_half : val64 4602678819172646912 = Datum.fin false (2 ^ 52) (-53) := by decide +kernel
theorem own_zhalf : zval b64 (val64 4602678819172646912) = ((9007199254740992 * own_Pw : Nat) : Int) := by
  rw [own_half]
  decide +kernel
theorem own_uhalf : inUnits (2 ^ 52) (-53) b64.qmin = 9007199254740992 * own_Pw := by decide +kernel
theorem own_uone : inUnits (2 ^ 52) (-52) b64.qmin = 18014398509481984 * own_Pw := by decide +kernel
theorem own_usmall : inUnits (2 ^ 52) (-77) b64.qmin = 536870912 * own_Pw := by decide +kernel
theorem own_uup : inUnits (2 ^ 52 + 1) (-53) b64.qmin = 9007199254740994 * own_Pw := by decide +kernel
theorem own_udown : inUnits (2 ^ 53 - 1) (-54) b64.qmin = 9007199254740991 * own_Pw := by decide +kernel
theorem own_fhalf : Jvm.FP.Core.fits b64 (Datum.fin false (2 ^ 52) (-53)) := ⟨by decide +kernel, by decide +kernel, by decide +kernel, Or.inr (by decide +kernel)⟩
theorem own_fone : Jvm.FP.Core.fits b64 (Datum.fin false (2 ^ 52) (-52)) := ⟨by decide +kernel, by decide +kernel, by decide +kernel, Or.inr (by decide +kernel)⟩
theorem own_fsmall : Jvm.FP.Core.fits b64 (Datum.fin false (2 ^ 52) (-77)) := ⟨by decide +kernel, by decide +kernel, by decide +kernel, Or.inr (by decide +kernel)⟩
theorem own_fup : Jvm.FP.Core.fits b64 (Datum.fin false (2 ^ 52 + 1) (-53)) := ⟨by decide +kernel, by decide +kernel, by decide +kernel, Or.inr (by decide +kernel)⟩
theorem own_fdown : Jvm.FP.Core.fits b64 (Datum.fin false (2 ^ 53 - 1) (-54)) := ⟨by decide +kernel, by decide +kernel, by decide +kernel, Or.inr (by decide +kernel)⟩
theorem own_nnq {k n : Int32} (hn : 1 ≤ n.toInt) : NoNaN64 (FP.ddiv (FP.i2d k) (FP.i2d n)) := by
  refine noNaN64_no.mpr (Core.ddiv_out ?_ (i2d_fin n) ?_)
  · exact noNaN64_no.mp (val64_no.mpr (DInt_ne_nan (i2d_int k)))
  · refine dnot_zero (DInt_ne_nan (i2d_int n)) ?_
    rw [DInt_zval (i2d_int n)]
    have p : 0 < one64 := by decide +kernel
    intro q
    rcases Int.mul_eq_zero.mp q with q | q <;> omega
end OwnFP

def own_draw (x : Int32) : Int32 := (x &&& 2147483647) % 98305 - 16384
def own_val (n : Int32) : UInt64 := FP.ddiv (FP.i2d n) 4679240012837945344
def own_set (x : UInt64) : Int32 := if (0 : Int32) < cmpValue (FP.dcmp x 4602678819172646912) .l then 1 else 0
theorem own_draw_in (x : Int32) : -16384 ≤ (own_draw x).toInt ∧ (own_draw x).toInt ≤ 81920 := by
  have q1 := c_mask x 2147483647 31 (by decide) (by decide)
  have q2 := (c_irem (x &&& 2147483647) 98305 98305 (by decide)).1 (by omega)
  have q3 := c_isub ((x &&& 2147483647) % 98305) 16384
  have q4 : (16384 : Int32).toInt = 16384 := by decide
  have q5 := rng32 ((x &&& 2147483647) % 98305 - 16384)
  unfold own_draw
  omega
theorem own_c16 : FP.i2d 65536 = 4679240012837945344 := by decide +kernel
section OwnLaw
open Jvm.FP Jvm.FP.Core Jvm.Free.Fl
theorem own_nn (n : Int32) : NoNaN64 (FP.ddiv (FP.i2d n) 4679240012837945344) := by
  rw [← own_c16]
  exact own_nnq (by decide)
theorem own_gt {n : Int32} (h1 : -16384 ≤ n.toInt) (h2 : n.toInt ≤ 81920) : FP.dcmp (own_val n) 4602678819172646912 = some .gt ↔ 32768 < n.toInt := by
  have hnn : val64 (own_val n) ≠ .nan := val64_no.mp (own_nn n)
  have hh : val64 4602678819172646912 ≠ .nan := by rw [own_half]; simp
  have hP := own_Ppos
  show Core.dcmp _ _ = some .gt ↔ _
  rw [dcmp_gt, own_zhalf]
  have e : own_val n = Core.ddiv (Core.i2d n) (Core.i2d 65536) := by
    show FP.ddiv (FP.i2d n) 4679240012837945344 = FP.ddiv (FP.i2d n) (FP.i2d 65536)
    rw [own_c16]
  have hN : (65536 : Int32).toInt = 65536 := by decide
  by_cases hz : n.toInt = 0
  · have hz' : n = 0 := Int32.toInt_inj.mp (by rw [hz]; rfl)
    subst hz'
    have e0 : zval b64 (val64 (own_val 0)) = 0 := by decide +kernel
    rw [e0]
    have e1 : (0 : Int32).toInt = 0 := by decide
    rw [e1]
    constructor
    · intro h
      have := h.2.2
      omega
    · intro h
      omega
  · have q := own_quot (k := n) (n := 65536) (by omega) (by omega)
    rw [← e] at q
    rw [hN] at q
    have qs : sgn (val64 (own_val n)) = decide (n.toInt < 0) := by rw [q]; exact sgn_roundRatio _ _ _ _ _
    have hzv : zval b64 (val64 (own_val n)) = signed (decide (n.toInt < 0)) (zmag b64 (val64 (own_val n))) := by
      unfold zval
      rw [qs]
    by_cases hneg : n.toInt < 0
    · rw [hzv]
      have hd : decide (n.toInt < 0) = true := decide_eq_true hneg
      rw [hd]
      have e2 : signed true (zmag b64 (val64 (own_val n))) = -((zmag b64 (val64 (own_val n)) : Nat) : Int) := rfl
      rw [e2]
      constructor
      · intro h
        have h3 := h.2.2
        omega
      · intro h; omega
    · rw [hzv]
      have hd : decide (n.toInt < 0) = false := decide_eq_false hneg
      rw [hd]
      have e2 : signed false (zmag b64 (val64 (own_val n))) = ((zmag b64 (val64 (own_val n)) : Nat) : Int) := rfl
      rw [e2]
      have hA : (65536 : Int).natAbs = 65536 := rfl
      constructor
      · intro h
        have h3 := h.2.2
        by_cases hle : n.toInt ≤ 32768
        · exfalso
          have u := own_le (s := decide (n.toInt < 0)) (K := n.toInt.natAbs) (N := (65536 : Int).natAbs) (by decide) own_fhalf own_uhalf (by rw [hA]; omega)
          rw [← q] at u
          omega
        · omega
      · intro hgt
        refine ⟨hnn, hh, ?_⟩
        have u := own_ge (s := decide (n.toInt < 0)) (K := n.toInt.natAbs) (N := (65536 : Int).natAbs) (by decide) own_fup own_uup (by rw [hA]; omega)
        rw [← q] at u
        omega
theorem own_isset (x : Int32) : own_set (own_val (own_draw x)) = if (32768 : Int32) < own_draw x then 1 else 0 := by
  have r := own_draw_in x
  have g := own_gt r.1 r.2
  unfold own_set
  rw [cmpV_l]
  have e : ((0 : Int32) < FP.cmpInt (-1) (FP.dcmp (own_val (own_draw x)) 4602678819172646912)) ↔ (32768 : Int32) < own_draw x := by
    have a : (32768 : Int32).toInt = 32768 := by decide
    have b : ((32768 : Int32) < own_draw x) ↔ (32768 : Int32).toInt < (own_draw x).toInt := Int32.lt_iff_toInt_lt
    rw [b, a, ← g]
    exact cmpInt_l_gt _
  simp only [e]
end OwnLaw
def Q_rm1 (Z : State) (p1 : Int32) (h0 : Heap) (n0 : Nat) (v : Option Value) (h : Heap) (L : List Loc) : Prop := v = some (.int (own_draw p1)) ∧ Fr n0 L ∧ h = h0
theorem d1_0 : decode method_2_code 0 = .ok (.iload_n 0, 1) := by decide +kernel
theorem d1_1 : decode method_2_code 1 = .ok (.ldc 7, 2) := by decide +kernel
theorem d1_3 : decode method_2_code 3 = .ok (.iand, 1) := by decide +kernel
theorem d1_4 : decode method_2_code 4 = .ok (.ldc 8, 2) := by decide +kernel
theorem d1_6 : decode method_2_code 6 = .ok (.irem, 1) := by decide +kernel
theorem d1_7 : decode method_2_code 7 = .ok (.sipush 16384, 3) := by decide +kernel
theorem d1_10 : decode method_2_code 10 = .ok (.isub, 1) := by decide +kernel
theorem d1_11 : decode method_2_code 11 = .ok (.ireturn, 1) := by decide +kernel
theorem ef_rm1 (m : MethodId) (x0 : Int32) : entryFrame m #[(.int x0)] 1 = mkF m 0 #[.val (.int x0)] [] := by first | (simp [entryFrame, mkF, argsToLocals, Value.category, maxLocals]; done) | rfl
set_option maxRecDepth 65536 in
set_option maxHeartbeats 40000000 in
theorem rm1 (l : Launch) (Z : State) (a0 : Array Value) (hw : ∀ d ∈ tables_1, d.before a0 Z = true) (ws : List Jvm.Cond) (p1 : Int32) (h0 : Heap) (n0 : Nat) (Z0 : n0 ≤ h0.size)  :
    MetFree l (⟨"com/example/holdfast/holdfast/SolutionIsSetPinLaw", "draw", "(I)I"⟩ : MethodName) (head1 (Jvm.Cond.code (⟨"com/example/holdfast/holdfast/SolutionIsSetPinLaw", "draw", "(I)I"⟩ : MethodName) method_2_code 1 (some .int) :: ws) ({ frames := 0, cells := 0, slots := 0, locals := 0 } : Room)) (fun a U => a = #[(.int p1)] ∧ Z.Warmed39 U.vm ∧ U.heap = h0) (fun _ _ _ _ _ => True) (fun _ U o U' => ∃ v L, o = .returned v ∧ Q_rm1 Z p1 h0 n0 v U'.heap L ∧ FrameEnd U o U' L ({ frames := 0, cells := 0, slots := 0, locals := 0 } : Room).cells ({ frames := 0, cells := 0, slots := 0, locals := 0 } : Room).slots) := by
  refine MetFree.of_bodySF (plainFor_of_name pn_1) hisR ?_
  intro p e s m args below meth c s₁ Bd hml0 hP hK
  obtain ⟨rfl, hZ, hh⟩ := hP
  have hx := Bd.exec
  have hby := Bd.bytes
  have hml : c.maxLocals = 1 := hml0
  have hown : s.vm.findClass "com/example/holdfast/holdfast/SolutionIsSetPinLaw" = some m.cls := findClass_of_methodNamed Bd.named
  have hnm := (name_of_methodNamed Bd.named Bd.method).1
  have X0 : Stand p l e ({ frames := 0, cells := 0, slots := 0, locals := 0 } : Room) s m #[(.int p1)] below meth c s₁ [] 0 0 := Stand.of_body Bd
  have e0 : s₁.heap = h0 := by rw [← hh, Bd.state]; rfl
  have N0 := Fr.nil n0
  have K : Keep h0 h0 [] := Keep.refl h0 []
  show own_Gd p.tables e below (own_P (Q_rm1 Z p1 h0 n0) s ({ frames := 0, cells := 0, slots := 0, locals := 0 } : Room).cells ({ frames := 0, cells := 0, slots := 0, locals := 0 } : Room).slots) _
  refine own_go (B := s₁.setTop (mkF m 0 #[.val (.int p1)] [])) (fun t k => castTop (ef_rm1 m p1) k) ?_
  refine own_go (B := s₁.setTop (mkF m 11 #[.val (.int p1)] [(.int (((p1 &&& (2147483647 : Int32)) % (98305 : Int32)) - (16384 : Int32)))])) (fun t k => ?_) ?_
  · show Steps p.tables e below (s₁.setTop (mkF m 0 #[.val (.int p1)] [])) _
    refine XS.iloadN X0.here hx rfl (hb hby d1_0) rfl ?_
    show Steps p.tables e below (s₁.setTop (mkF m 1 #[.val (.int p1)] [(.int p1)])) _
    refine X0.ldcI hx hown (mvT hZ (hw _ (List.mem_of_getElem? (i := 4) rfl))) (g := (mkF m 1 #[.val (.int p1)] [(.int p1)])) rfl (hb hby d1_1) ?_
    show Steps p.tables e below (s₁.setTop (mkF m 3 #[.val (.int p1)] [(.int (2147483647 : Int32)), (.int p1)])) _
    refine XS.iand X0.here hx rfl (hb hby d1_3) rfl ?_
    show Steps p.tables e below (s₁.setTop (mkF m 4 #[.val (.int p1)] [(.int (p1 &&& (2147483647 : Int32)))])) _
    refine X0.ldcI hx hown (mvT hZ (hw _ (List.mem_of_getElem? (i := 5) rfl))) (g := (mkF m 4 #[.val (.int p1)] [(.int (p1 &&& (2147483647 : Int32)))])) rfl (hb hby d1_4) ?_
    show Steps p.tables e below (s₁.setTop (mkF m 6 #[.val (.int p1)] [(.int (98305 : Int32)), (.int (p1 &&& (2147483647 : Int32)))])) _
    refine iremM (g := (mkF m 6 #[.val (.int p1)] [(.int (98305 : Int32)), (.int (p1 &&& (2147483647 : Int32)))])) X0 hx rfl (hb hby d1_6) rfl (by decide) ?_
    show Steps p.tables e below (s₁.setTop (mkF m 7 #[.val (.int p1)] [(.int ((p1 &&& (2147483647 : Int32)) % (98305 : Int32)))])) _
    refine XS.sipush X0.here hx rfl (hb hby d1_7) ?_
    show Steps p.tables e below (s₁.setTop (mkF m 10 #[.val (.int p1)] [(.int (16384 : Int32)), (.int ((p1 &&& (2147483647 : Int32)) % (98305 : Int32)))])) _
    refine XS.isub X0.here hx rfl (hb hby d1_10) rfl ?_
    show Steps p.tables e below (s₁.setTop (mkF m 11 #[.val (.int p1)] [(.int (((p1 &&& (2147483647 : Int32)) % (98305 : Int32)) - (16384 : Int32)))])) _
    exact k
  obtain ⟨fs, hr, hrun, hended, hW, hsame⟩ := X0.leave (v := some (.int (((p1 &&& (2147483647 : Int32)) % (98305 : Int32)) - (16384 : Int32)))) (fun h => by rw [Bd.returns] at h; cases h)
  refine own_done (retOut X0 hx Bd.returns rfl (Or.inl ⟨rfl, Or.inl rfl, _, rfl⟩) (hb hby d1_11) hr) hrun hended ⟨_, _, rfl, ?_, ⟨_, rfl⟩, hW, hsame.mono (by decide) (by decide)⟩
  show Q_rm1 Z p1 h0 n0 (some (.int (((p1 &&& (2147483647 : Int32)) % (98305 : Int32)) - (16384 : Int32)))) s₁.heap _
  rw [e0]
  exact ⟨rfl, N0, rfl⟩
def Q_rm2 (Z : State) (p1 : Int32) (h0 : Heap) (n0 : Nat) (v : Option Value) (h : Heap) (L : List Loc) : Prop := v = some (.double (own_val p1)) ∧ Fr n0 L ∧ h = h0
theorem d2_0 : decode method_3_code 0 = .ok (.iload_n 0, 1) := by decide +kernel
theorem d2_1 : decode method_3_code 1 = .ok (.i2d, 1) := by decide +kernel
theorem d2_2 : decode method_3_code 2 = .ok (.ldc2_w 9, 3) := by decide +kernel
theorem d2_5 : decode method_3_code 5 = .ok (.ddiv, 1) := by decide +kernel
theorem d2_6 : decode method_3_code 6 = .ok (.dreturn, 1) := by decide +kernel
theorem ef_rm2 (m : MethodId) (x0 : Int32) : entryFrame m #[(.int x0)] 1 = mkF m 0 #[.val (.int x0)] [] := by first | (simp [entryFrame, mkF, argsToLocals, Value.category, maxLocals]; done) | rfl
set_option maxRecDepth 65536 in
set_option maxHeartbeats 40000000 in
theorem rm2 (l : Launch) (Z : State) (a0 : Array Value) (hw : ∀ d ∈ tables_1, d.before a0 Z = true) (ws : List Jvm.Cond) (p1 : Int32) (h0 : Heap) (n0 : Nat) (Z0 : n0 ≤ h0.size)  :
    MetFree l (⟨"com/example/holdfast/holdfast/SolutionIsSetPinLaw", "value", "(I)D"⟩ : MethodName) (head1 (Jvm.Cond.code (⟨"com/example/holdfast/holdfast/SolutionIsSetPinLaw", "value", "(I)D"⟩ : MethodName) method_3_code 1 (some .double) :: ws) ({ frames := 0, cells := 0, slots := 0, locals := 0 } : Room)) (fun a U => a = #[(.int p1)] ∧ Z.Warmed39 U.vm ∧ U.heap = h0) (fun _ _ _ _ _ => True) (fun _ U o U' => ∃ v L, o = .returned v ∧ Q_rm2 Z p1 h0 n0 v U'.heap L ∧ FrameEnd U o U' L ({ frames := 0, cells := 0, slots := 0, locals := 0 } : Room).cells ({ frames := 0, cells := 0, slots := 0, locals := 0 } : Room).slots) := by
  refine MetFree.of_bodySF (plainFor_of_name pn_2) hisR ?_
  intro p e s m args below meth c s₁ Bd hml0 hP hK
  obtain ⟨rfl, hZ, hh⟩ := hP
  have hx := Bd.exec
  have hby := Bd.bytes
  have hml : c.maxLocals = 1 := hml0
  have hown : s.vm.findClass "com/example/holdfast/holdfast/SolutionIsSetPinLaw" = some m.cls := findClass_of_methodNamed Bd.named
  have hnm := (name_of_methodNamed Bd.named Bd.method).1
  have X0 : Stand p l e ({ frames := 0, cells := 0, slots := 0, locals := 0 } : Room) s m #[(.int p1)] below meth c s₁ [] 0 0 := Stand.of_body Bd
  have e0 : s₁.heap = h0 := by rw [← hh, Bd.state]; rfl
  have N0 := Fr.nil n0
  have K : Keep h0 h0 [] := Keep.refl h0 []
  show own_Gd p.tables e below (own_P (Q_rm2 Z p1 h0 n0) s ({ frames := 0, cells := 0, slots := 0, locals := 0 } : Room).cells ({ frames := 0, cells := 0, slots := 0, locals := 0 } : Room).slots) _
  refine own_go (B := s₁.setTop (mkF m 0 #[.val (.int p1)] [])) (fun t k => castTop (ef_rm2 m p1) k) ?_
  refine own_go (B := s₁.setTop (mkF m 6 #[.val (.int p1)] [(.double (FP.ddiv (FP.i2d p1) (4679240012837945344 : UInt64)))])) (fun t k => ?_) ?_
  · show Steps p.tables e below (s₁.setTop (mkF m 0 #[.val (.int p1)] [])) _
    refine XS.iloadN X0.here hx rfl (hb hby d2_0) rfl ?_
    show Steps p.tables e below (s₁.setTop (mkF m 1 #[.val (.int p1)] [(.int p1)])) _
    refine XS.i2dS X0.here hx rfl (hb hby d2_1) rfl rfl ?_
    show Steps p.tables e below (s₁.setTop (mkF m 2 #[.val (.int p1)] [(.double (FP.i2d p1))])) _
    refine X0.ldc2DoubleC hx hown (mvT hZ (hw _ (List.mem_of_getElem? (i := 10) rfl))) (g := (mkF m 2 #[.val (.int p1)] [(.double (FP.i2d p1))])) rfl (hb hby d2_2) _ ?_
    show Steps p.tables e below (s₁.setTop (mkF m 5 #[.val (.int p1)] [(.double (4679240012837945344 : UInt64)), (.double (FP.i2d p1))])) _
    refine XS.ddivS X0.here hx rfl (hb hby d2_5) rfl (own_nn p1) rfl ?_
    show Steps p.tables e below (s₁.setTop (mkF m 6 #[.val (.int p1)] [(.double (FP.ddiv (FP.i2d p1) (4679240012837945344 : UInt64)))])) _
    exact k
  obtain ⟨fs, hr, hrun, hended, hW, hsame⟩ := X0.leave (v := some (.double (FP.ddiv (FP.i2d p1) (4679240012837945344 : UInt64)))) (fun h => by rw [Bd.returns] at h; cases h)
  refine own_done (retOut X0 hx Bd.returns rfl (Or.inr (Or.inr (Or.inl ⟨rfl, rfl, _, rfl⟩))) (hb hby d2_6) hr) hrun hended ⟨_, _, rfl, ?_, ⟨_, rfl⟩, hW, hsame.mono (by decide) (by decide)⟩
  show Q_rm2 Z p1 h0 n0 (some (.double (FP.ddiv (FP.i2d p1) (4679240012837945344 : UInt64)))) s₁.heap _
  rw [e0]
  exact ⟨rfl, N0, rfl⟩
def Q_rm3 (Z : State) (p1 : Int32) (h0 : Heap) (n0 : Nat) (v : Option Value) (h : Heap) (L : List Loc) : Prop := ∃ b, v = some (.ref b) ∧ Fr n0 L ∧ h = h0
theorem d3_0 : decode method_4_code 0 = .ok (.iload_n 0, 1) := by decide +kernel
theorem d3_1 : decode method_4_code 1 = .ok (.iconst 1, 1) := by decide +kernel
theorem d3_2 : decode method_4_code 2 = .ok (.iand, 1) := by decide +kernel
theorem d3_3 : decode method_4_code 3 = .ok (.ifCond .ne 7, 3) := by decide +kernel
theorem d3_6 : decode method_4_code 6 = .ok (.getstatic 11, 3) := by decide +kernel
theorem d3_9 : decode method_4_code 9 = .ok (.areturn, 1) := by decide +kernel
theorem d3_10 : decode method_4_code 10 = .ok (.getstatic 17, 3) := by decide +kernel
theorem d3_13 : decode method_4_code 13 = .ok (.areturn, 1) := by decide +kernel
theorem ef_rm3 (m : MethodId) (x0 : Int32) : entryFrame m #[(.int x0)] 1 = mkF m 0 #[.val (.int x0)] [] := by first | (simp [entryFrame, mkF, argsToLocals, Value.category, maxLocals]; done) | rfl
set_option maxRecDepth 65536 in
set_option maxHeartbeats 40000000 in
theorem rm3 (l : Launch) (Z : State) (a0 : Array Value) (hw : ∀ d ∈ tables_1, d.before a0 Z = true) (ws : List Jvm.Cond) (p1 : Int32) (w_OPTIMAL w_FEASIBLE : Addr) (h0 : Heap) (n0 : Nat) (Z0 : n0 ≤ h0.size) (S_OPTIMAL : Sta Z Z.heap "com/example/holdfast/holdfast/Mip$Status" "OPTIMAL" "Lcom/example/holdfast/holdfast/Mip$Status;" (.ref w_OPTIMAL)) (S_FEASIBLE : Sta Z Z.heap "com/example/holdfast/holdfast/Mip$Status" "FEASIBLE" "Lcom/example/holdfast/holdfast/Mip$Status;" (.ref w_FEASIBLE)) (O : Old Z n0 h0) :
    MetFree l (⟨"com/example/holdfast/holdfast/SolutionIsSetPinLaw", "status", "(I)Lcom/example/holdfast/holdfast/Mip$Status;"⟩ : MethodName) (head1 (Jvm.Cond.code (⟨"com/example/holdfast/holdfast/SolutionIsSetPinLaw", "status", "(I)Lcom/example/holdfast/holdfast/Mip$Status;"⟩ : MethodName) method_4_code 1 (some (.object "com/example/holdfast/holdfast/Mip$Status")) :: ws) ({ frames := 0, cells := 0, slots := 0, locals := 0 } : Room)) (fun a U => a = #[(.int p1)] ∧ Z.Warmed39 U.vm ∧ U.heap = h0) (fun _ _ _ _ _ => True) (fun _ U o U' => ∃ v L, o = .returned v ∧ Q_rm3 Z p1 h0 n0 v U'.heap L ∧ FrameEnd U o U' L ({ frames := 0, cells := 0, slots := 0, locals := 0 } : Room).cells ({ frames := 0, cells := 0, slots := 0, locals := 0 } : Room).slots) := by
  refine MetFree.of_bodySF (plainFor_of_name pn_3) hisR ?_
  intro p e s m args below meth c s₁ Bd hml0 hP hK
  obtain ⟨rfl, hZ, hh⟩ := hP
  have hx := Bd.exec
  have hby := Bd.bytes
  have hml : c.maxLocals = 1 := hml0
  have hown : s.vm.findClass "com/example/holdfast/holdfast/SolutionIsSetPinLaw" = some m.cls := findClass_of_methodNamed Bd.named
  have hnm := (name_of_methodNamed Bd.named Bd.method).1
  have X0 : Stand p l e ({ frames := 0, cells := 0, slots := 0, locals := 0 } : Room) s m #[(.int p1)] below meth c s₁ [] 0 0 := Stand.of_body Bd
  have e0 : s₁.heap = h0 := by rw [← hh, Bd.state]; rfl
  have N0 := Fr.nil n0
  have K : Keep h0 h0 [] := Keep.refl h0 []
  show own_Gd p.tables e below (own_P (Q_rm3 Z p1 h0 n0) s ({ frames := 0, cells := 0, slots := 0, locals := 0 } : Room).cells ({ frames := 0, cells := 0, slots := 0, locals := 0 } : Room).slots) _
  refine own_go (B := s₁.setTop (mkF m 0 #[.val (.int p1)] [])) (fun t k => castTop (ef_rm3 m p1) k) ?_
  refine own_go (B := s₁.setTop (mkF m 3 #[.val (.int p1)] [(.int (p1 &&& (1 : Int32)))])) (fun t k => ?_) ?_
  · show Steps p.tables e below (s₁.setTop (mkF m 0 #[.val (.int p1)] [])) _
    refine XS.iloadN X0.here hx rfl (hb hby d3_0) rfl ?_
    show Steps p.tables e below (s₁.setTop (mkF m 1 #[.val (.int p1)] [(.int p1)])) _
    refine XS.iconst X0.here hx rfl (hb hby d3_1) ?_
    show Steps p.tables e below (s₁.setTop (mkF m 2 #[.val (.int p1)] [(.int (1 : Int32)), (.int p1)])) _
    refine XS.iand X0.here hx rfl (hb hby d3_2) rfl ?_
    show Steps p.tables e below (s₁.setTop (mkF m 3 #[.val (.int p1)] [(.int (p1 &&& (1 : Int32)))])) _
    exact k
  by_cases hc3 : (p1 &&& (1 : Int32)) = (0 : Int32)
  · refine own_go (B := s₁.setTop (mkF m 6 #[.val (.int p1)] [])) (fun t k => ?_) ?_
    · show Steps p.tables e below (s₁.setTop (mkF m 3 #[.val (.int p1)] [(.int (p1 &&& (1 : Int32)))])) _
      refine XS.ifNo X0.here hx rfl (hb hby d3_3) rfl ((if0 _ _).trans (teq hc3).2) ?_
      show Steps p.tables e below (s₁.setTop (mkF m 6 #[.val (.int p1)] [])) _
      exact k
    obtain ⟨T1, X1, e1, st1⟩ := getS2 X0 hx hZ hown (host := "") (Or.inl (hw _ (List.mem_of_getElem? (i := 42) rfl))) Via.refl e0 (S_OPTIMAL.ext O.2) (g := (mkF m 6 #[.val (.int p1)] [])) rfl (hb hby d3_6)
    refine own_go (B := T1.setTop (mkF m 9 #[.val (.int p1)] [(.ref w_OPTIMAL)])) st1 ?_
    obtain ⟨fs, hr, hrun, hended, hW, hsame⟩ := X1.leave (v := some (.ref w_OPTIMAL)) (fun h => by rw [Bd.returns] at h; cases h)
    refine own_done (retOut X1 hx Bd.returns rfl (Or.inr (Or.inr (Or.inr (Or.inr ⟨rfl, rfl, rfl⟩)))) (hb hby d3_9) hr) hrun hended ⟨_, _, rfl, ?_, ⟨_, rfl⟩, hW, hsame.mono (by decide) (by decide)⟩
    show Q_rm3 Z p1 h0 n0 (some (.ref w_OPTIMAL)) T1.heap _
    rw [e1]
    exact ⟨_, rfl, N0, rfl⟩
  · refine own_go (B := s₁.setTop (mkF m 10 #[.val (.int p1)] [])) (fun t k => ?_) ?_
    · show Steps p.tables e below (s₁.setTop (mkF m 3 #[.val (.int p1)] [(.int (p1 &&& (1 : Int32)))])) _
      refine XS.ifYes X0.here hx rfl (pc0 := 3) (pc' := 10) rfl (hb hby d3_3) rfl ((if0 _ _).trans (feq hc3).2) (by decide) (by decide) ?_
      show Steps p.tables e below (s₁.setTop (mkF m 10 #[.val (.int p1)] [])) _
      exact k
    obtain ⟨T2, X2, e2, st2⟩ := getS2 X0 hx hZ hown (host := "") (Or.inl (hw _ (List.mem_of_getElem? (i := 17) rfl))) Via.refl e0 (S_FEASIBLE.ext O.2) (g := (mkF m 10 #[.val (.int p1)] [])) rfl (hb hby d3_10)
    refine own_go (B := T2.setTop (mkF m 13 #[.val (.int p1)] [(.ref w_FEASIBLE)])) st2 ?_
    obtain ⟨fs, hr, hrun, hended, hW, hsame⟩ := X2.leave (v := some (.ref w_FEASIBLE)) (fun h => by rw [Bd.returns] at h; cases h)
    refine own_done (retOut X2 hx Bd.returns rfl (Or.inr (Or.inr (Or.inr (Or.inr ⟨rfl, rfl, rfl⟩)))) (hb hby d3_13) hr) hrun hended ⟨_, _, rfl, ?_, ⟨_, rfl⟩, hW, hsame.mono (by decide) (by decide)⟩
    show Q_rm3 Z p1 h0 n0 (some (.ref w_FEASIBLE)) T2.heap _
    rw [e2]
    exact ⟨_, rfl, N0, rfl⟩
def Q_rm5 (Z : State) (a1 : Addr) (h0 : Heap) (n0 : Nat) (v : Option Value) (h : Heap) (L : List Loc) : Prop := v = none ∧ Fr n0 L ∧ h = h0
theorem d5_0 : decode jdk_30_method_1_code 0 = .ok (.aload_n 0, 1) := by decide +kernel
theorem d5_1 : decode jdk_30_method_1_code 1 = .ok (.invokespecial 1, 3) := by decide +kernel
theorem d5_4 : decode jdk_30_method_1_code 4 = .ok (.return_, 1) := by decide +kernel
theorem ef_rm5 (m : MethodId) (x0 : Addr) : entryFrame m #[(.ref x0)] 1 = mkF m 0 #[.val (.ref x0)] [] := by first | (simp [entryFrame, mkF, argsToLocals, Value.category, maxLocals]; done) | rfl
set_option maxRecDepth 65536 in
set_option maxHeartbeats 40000000 in
theorem rm5 (l : Launch) (Z : State) (a0 : Array Value) (hw : ∀ d ∈ tables_1, d.before a0 Z = true) (ws : List Jvm.Cond) (a1 : Addr) (h0 : Heap) (n0 : Nat) (Z0 : n0 ≤ h0.size)  :
    MetFree l (⟨"java/lang/Record", "<init>", "()V"⟩ : MethodName) (head1 (Jvm.Cond.code (⟨"java/lang/Record", "<init>", "()V"⟩ : MethodName) jdk_30_method_1_code 1 none :: ws) ({ frames := 1, cells := 0, slots := 0, locals := 12 } : Room)) (fun a U => a = #[(.ref a1)] ∧ Z.Warmed39 U.vm ∧ U.heap = h0) (fun _ _ _ _ _ => True) (fun _ U o U' => ∃ v L, o = .returned v ∧ Q_rm5 Z a1 h0 n0 v U'.heap L ∧ FrameEnd U o U' L ({ frames := 1, cells := 0, slots := 0, locals := 12 } : Room).cells ({ frames := 1, cells := 0, slots := 0, locals := 12 } : Room).slots) := by
  refine MetFree.of_bodySF (plainFor_of_name pn_5) hisR ?_
  intro p e s m args below meth c s₁ Bd hml0 hP hK
  obtain ⟨rfl, hZ, hh⟩ := hP
  have hx := Bd.exec
  have hby := Bd.bytes
  have hml : c.maxLocals = 1 := hml0
  have hown : s.vm.findClass "java/lang/Record" = some m.cls := findClass_of_methodNamed Bd.named
  have hnm := (name_of_methodNamed Bd.named Bd.method).1
  have X0 : Stand p l e ({ frames := 1, cells := 0, slots := 0, locals := 12 } : Room) s m #[(.ref a1)] below meth c s₁ [] 0 0 := Stand.of_body Bd
  have e0 : s₁.heap = h0 := by rw [← hh, Bd.state]; rfl
  have N0 := Fr.nil n0
  have K : Keep h0 h0 [] := Keep.refl h0 []
  show own_Gd p.tables e below (own_P (Q_rm5 Z a1 h0 n0) s ({ frames := 1, cells := 0, slots := 0, locals := 12 } : Room).cells ({ frames := 1, cells := 0, slots := 0, locals := 12 } : Room).slots) _
  refine own_go (B := s₁.setTop (mkF m 0 #[.val (.ref a1)] [])) (fun t k => castTop (ef_rm5 m a1) k) ?_
  refine own_go (B := s₁.setTop (mkF m 1 #[.val (.ref a1)] [(.ref a1)])) (fun t k => ?_) ?_
  · show Steps p.tables e below (s₁.setTop (mkF m 0 #[.val (.ref a1)] [])) _
    refine XS.aloadN X0.here hx rfl (hb hby d5_0) rfl rfl ?_
    show Steps p.tables e below (s₁.setTop (mkF m 1 #[.val (.ref a1)] [(.ref a1)])) _
    exact k
  obtain ⟨T1, X1, e1, st1⟩ := initO X0 hx hZ hown (hw _ (List.mem_of_getElem? (i := 28) rfl)) (hw _ (List.mem_of_getElem? (i := 29) rfl)) (hw _ (List.mem_of_getElem? (i := 30) rfl)) e0 (g := (mkF m 1 #[.val (.ref a1)] [(.ref a1)])) rfl (by rw [hml]; rfl) rfl (hb hby d5_1) (by decide) (W := 0) (by show 2 * 0 + _ ≤ _; exact Nat.le_of_eq rfl) (by decide)
  refine own_go (B := T1.setTop (mkF m 4 #[.val (.ref a1)] [])) st1 ?_
  obtain ⟨fs, hr, hrun, hended, hW, hsame⟩ := X1.leave (v := none) (fun _ => rfl)
  refine own_done (X1.returnOut hx Bd.returns (hb hby d5_4) hr) hrun hended ⟨_, _, rfl, ?_, ⟨_, rfl⟩, hW, hsame.mono (by decide) (by decide)⟩
  show Q_rm5 Z a1 h0 n0 (none) T1.heap _
  rw [e1]
  exact ⟨rfl, N0, rfl⟩
def Q_rm4 (Z : State) (a1 a3 : Addr) (h0 : Heap) (n0 : Nat) (v : Option Value) (h : Heap) (L : List Loc) : Prop := v = none ∧ Fr n0 L ∧ Keep h0 h [a1] ∧ Exa Z h a1 "com/example/holdfast/holdfast/Mip$Solution" ∧ Fld Z h a1 "com/example/holdfast/holdfast/Mip$Solution" "values" "[D" (.ref a3)
theorem d4_0 : decode prog_15_method_1_code 0 = .ok (.aload_n 0, 1) := by decide +kernel
theorem d4_1 : decode prog_15_method_1_code 1 = .ok (.invokespecial 1, 3) := by decide +kernel
theorem d4_4 : decode prog_15_method_1_code 4 = .ok (.aload_n 0, 1) := by decide +kernel
theorem d4_5 : decode prog_15_method_1_code 5 = .ok (.aload_n 1, 1) := by decide +kernel
theorem d4_6 : decode prog_15_method_1_code 6 = .ok (.putfield 7, 3) := by decide +kernel
theorem d4_9 : decode prog_15_method_1_code 9 = .ok (.aload_n 0, 1) := by decide +kernel
theorem d4_10 : decode prog_15_method_1_code 10 = .ok (.aload_n 2, 1) := by decide +kernel
theorem d4_11 : decode prog_15_method_1_code 11 = .ok (.putfield 13, 3) := by decide +kernel
theorem d4_14 : decode prog_15_method_1_code 14 = .ok (.return_, 1) := by decide +kernel
theorem ef_rm4 (m : MethodId) (x0 : Addr) (x1 : Addr) (x2 : Addr) : entryFrame m #[(.ref x0), (.ref x1), (.ref x2)] 3 = mkF m 0 #[.val (.ref x0), .val (.ref x1), .val (.ref x2)] [] := by first | (simp [entryFrame, mkF, argsToLocals, Value.category, maxLocals]; done) | rfl
set_option maxRecDepth 65536 in
set_option maxHeartbeats 40000000 in
theorem rm4 (l : Launch) (Z : State) (a0 : Array Value) (hw : ∀ d ∈ tables_1, d.before a0 Z = true) (ws : List Jvm.Cond) (a1 a2 a3 : Addr) (h0 : Heap) (n0 : Nat) (Z0 : n0 ≤ h0.size) (F_status_a1 : Fld Z h0 a1 "com/example/holdfast/holdfast/Mip$Solution" "status" "Lcom/example/holdfast/holdfast/Mip$Status;" .null) (F_values_a1 : Fld Z h0 a1 "com/example/holdfast/holdfast/Mip$Solution" "values" "[D" .null) (E_a1 : Exa Z h0 a1 "com/example/holdfast/holdfast/Mip$Solution") (g_a1 : n0 ≤ a1) :
    MetFree l (⟨"com/example/holdfast/holdfast/Mip$Solution", "<init>", "(Lcom/example/holdfast/holdfast/Mip$Status;[D)V"⟩ : MethodName) (head1 (Jvm.Cond.code (⟨"com/example/holdfast/holdfast/Mip$Solution", "<init>", "(Lcom/example/holdfast/holdfast/Mip$Status;[D)V"⟩ : MethodName) prog_15_method_1_code 3 none :: ws) ({ frames := 2, cells := 0, slots := 0, locals := 24 } : Room)) (fun a U => a = #[(.ref a1), (.ref a2), (.ref a3)] ∧ Z.Warmed39 U.vm ∧ U.heap = h0) (fun _ _ _ _ _ => True) (fun _ U o U' => ∃ v L, o = .returned v ∧ Q_rm4 Z a1 a3 h0 n0 v U'.heap L ∧ FrameEnd U o U' L ({ frames := 2, cells := 0, slots := 0, locals := 24 } : Room).cells ({ frames := 2, cells := 0, slots := 0, locals := 24 } : Room).slots) := by
  refine MetFree.of_bodySF (plainFor_of_name pn_4) hisR ?_
  intro p e s m args below meth c s₁ Bd hml0 hP hK
  obtain ⟨rfl, hZ, hh⟩ := hP
  have hx := Bd.exec
  have hby := Bd.bytes
  have hml : c.maxLocals = 3 := hml0
  have hown : s.vm.findClass "com/example/holdfast/holdfast/Mip$Solution" = some m.cls := findClass_of_methodNamed Bd.named
  have hnm := (name_of_methodNamed Bd.named Bd.method).1
  have X0 : Stand p l e ({ frames := 2, cells := 0, slots := 0, locals := 24 } : Room) s m #[(.ref a1), (.ref a2), (.ref a3)] below meth c s₁ [] 0 0 := Stand.of_body Bd
  have e0 : s₁.heap = h0 := by rw [← hh, Bd.state]; rfl
  have N0 := Fr.nil n0
  have K : Keep h0 h0 [a1] := Keep.refl h0 [a1]
  show own_Gd p.tables e below (own_P (Q_rm4 Z a1 a3 h0 n0) s ({ frames := 2, cells := 0, slots := 0, locals := 24 } : Room).cells ({ frames := 2, cells := 0, slots := 0, locals := 24 } : Room).slots) _
  refine own_go (B := s₁.setTop (mkF m 0 #[.val (.ref a1), .val (.ref a2), .val (.ref a3)] [])) (fun t k => castTop (ef_rm4 m a1 a2 a3) k) ?_
  refine own_go (B := s₁.setTop (mkF m 1 #[.val (.ref a1), .val (.ref a2), .val (.ref a3)] [(.ref a1)])) (fun t k => ?_) ?_
  · show Steps p.tables e below (s₁.setTop (mkF m 0 #[.val (.ref a1), .val (.ref a2), .val (.ref a3)] [])) _
    refine XS.aloadN X0.here hx rfl (hb hby d4_0) rfl rfl ?_
    show Steps p.tables e below (s₁.setTop (mkF m 1 #[.val (.ref a1), .val (.ref a2), .val (.ref a3)] [(.ref a1)])) _
    exact k
  obtain ⟨_, _, ⟨T1, L1, k1, n1⟩, -, X1, ⟨Lc1, hQ1, l1, y1, z1⟩, st1⟩ := X0.specialBack hx (y := (⟨"java/lang/Record", "<init>", "()V"⟩ : MethodName)) rfl hown (mvT hZ (hw _ (List.mem_of_getElem? (i := 23) rfl))) (mvT hZ (hw _ (List.mem_of_getElem? (i := 24) rfl))) (mvT hZ (hw _ (List.mem_of_getElem? (i := 27) rfl))) (by decide) (backOf (W := 0) (rm5 l Z a0 hw [] a1 h0 n0 Z0) hZ (hw _ (List.mem_of_getElem? (i := 27) rfl)) (hw _ (List.mem_of_getElem? (i := 26) rfl)) (by decide) (by decide)) (g := (mkF m 1 #[.val (.ref a1), .val (.ref a2), .val (.ref a3)] [(.ref a1)])) rfl (by rw [hml]; rfl) (Steps.refl _) (a := a1) (argsL := []) (rest := []) (lenOf pd_0 rfl) rfl (by show 2 * 0 + _ ≤ _; exact Nat.le_of_eq rfl) (hb hby d4_1) (fun _ _ => ⟨rfl, e0, Nat.le_of_ble_eq_true rfl, Nat.le_of_ble_eq_true rfl⟩)
  dsimp only [Pt.U, Pt.locs, Pt.cells, Pt.slots] at X1 l1 y1 z1 st1 hQ1
  subst l1 y1 z1
  obtain ⟨h1, e1⟩ : ∃ z, T1.heap = z := ⟨_, rfl⟩
  rw [e1] at hQ1
  obtain ⟨rfl, N1q, eq1⟩ := hQ1
  have N1 := Fr.app N0 N1q
  rw [eq1] at e1
  refine own_go (B := T1.setTop (mkF m 4 #[.val (.ref a1), .val (.ref a2), .val (.ref a3)] [])) (fun t k => st1.trans k) ?_
  refine own_go (B := T1.setTop (mkF m 6 #[.val (.ref a1), .val (.ref a2), .val (.ref a3)] [(.ref a2), (.ref a1)])) (fun t k => ?_) ?_
  · show Steps p.tables e below (T1.setTop (mkF m 4 #[.val (.ref a1), .val (.ref a2), .val (.ref a3)] [])) _
    refine XS.aloadN X1.here hx rfl (hb hby d4_4) rfl rfl ?_
    show Steps p.tables e below (T1.setTop (mkF m 5 #[.val (.ref a1), .val (.ref a2), .val (.ref a3)] [(.ref a1)])) _
    refine XS.aloadN X1.here hx rfl (hb hby d4_5) rfl rfl ?_
    show Steps p.tables e below (T1.setTop (mkF m 6 #[.val (.ref a1), .val (.ref a2), .val (.ref a3)] [(.ref a2), (.ref a1)])) _
    exact k
  obtain ⟨T2, h2, X2, e2, W2, st2⟩ := putF X1 hx hZ hown (host := "") (Or.inl (hw _ (List.mem_of_getElem? (i := 31) rfl))) Via.refl e1 F_status_a1 E_a1 (Or.inr ⟨(hw _ (List.mem_of_getElem? (i := 32) rfl)), rfl, hnm⟩) (hw _ (List.mem_of_getElem? (i := 12) rfl)) (v := (.ref a2)) (ty := (.object "com/example/holdfast/holdfast/Mip$Status")) (by decide) rfl rfl (g := (mkF m 6 #[.val (.ref a1), .val (.ref a2), .val (.ref a3)] [(.ref a2), (.ref a1)])) rfl rfl (hb hby d4_6)
  have Fw2 := F_status_a1.same W2
  have E_a1 := E_a1.wr W2
  have F_values_a1 := F_values_a1.other W2 (Or.inr (slot_ne (Or.inr (hw _ (List.mem_of_getElem? (i := 34) rfl))) (Or.inr (hw _ (List.mem_of_getElem? (i := 32) rfl))) (by decide) (t := (.array .double)) (t' := (.object "com/example/holdfast/holdfast/Mip$Status")) (by decide) (by decide)))
  have Z0 := Nat.le_trans Z0 (Nat.le_of_eq W2.size.symm)
  have F_status_a1 := Fw2
  have K := K.wr W2 (Or.inl (List.mem_of_getElem? (i := 0) rfl))
  have N2 := Fr.snoc X2 N1 g_a1
  refine own_go (B := T2.setTop (mkF m 9 #[.val (.ref a1), .val (.ref a2), .val (.ref a3)] [])) st2 ?_
  refine own_go (B := T2.setTop (mkF m 11 #[.val (.ref a1), .val (.ref a2), .val (.ref a3)] [(.ref a3), (.ref a1)])) (fun t k => ?_) ?_
  · show Steps p.tables e below (T2.setTop (mkF m 9 #[.val (.ref a1), .val (.ref a2), .val (.ref a3)] [])) _
    refine XS.aloadN X2.here hx rfl (hb hby d4_9) rfl rfl ?_
    show Steps p.tables e below (T2.setTop (mkF m 10 #[.val (.ref a1), .val (.ref a2), .val (.ref a3)] [(.ref a1)])) _
    refine XS.aloadN X2.here hx rfl (hb hby d4_10) rfl rfl ?_
    show Steps p.tables e below (T2.setTop (mkF m 11 #[.val (.ref a1), .val (.ref a2), .val (.ref a3)] [(.ref a3), (.ref a1)])) _
    exact k
  obtain ⟨T3, h3, X3, e3, W3, st3⟩ := putF X2 hx hZ hown (host := "") (Or.inl (hw _ (List.mem_of_getElem? (i := 33) rfl))) Via.refl e2 F_values_a1 E_a1 (Or.inr ⟨(hw _ (List.mem_of_getElem? (i := 34) rfl)), rfl, hnm⟩) (hw _ (List.mem_of_getElem? (i := 12) rfl)) (v := (.ref a3)) (ty := (.array .double)) (by decide) rfl rfl (g := (mkF m 11 #[.val (.ref a1), .val (.ref a2), .val (.ref a3)] [(.ref a3), (.ref a1)])) rfl rfl (hb hby d4_11)
  have Fw3 := F_values_a1.same W3
  have E_a1 := E_a1.wr W3
  have F_status_a1 := F_status_a1.other W3 (Or.inr (slot_ne (Or.inr (hw _ (List.mem_of_getElem? (i := 32) rfl))) (Or.inr (hw _ (List.mem_of_getElem? (i := 34) rfl))) (by decide) (t := (.object "com/example/holdfast/holdfast/Mip$Status")) (t' := (.array .double)) (by decide) (by decide)))
  have Z0 := Nat.le_trans Z0 (Nat.le_of_eq W3.size.symm)
  have F_values_a1 := Fw3
  have K := K.wr W3 (Or.inl (List.mem_of_getElem? (i := 0) rfl))
  have N3 := Fr.snoc X3 N2 g_a1
  refine own_go (B := T3.setTop (mkF m 14 #[.val (.ref a1), .val (.ref a2), .val (.ref a3)] [])) st3 ?_
  obtain ⟨fs, hr, hrun, hended, hW, hsame⟩ := X3.leave (v := none) (fun _ => rfl)
  refine own_done (X3.returnOut hx Bd.returns (hb hby d4_14) hr) hrun hended ⟨_, _, rfl, ?_, ⟨_, rfl⟩, hW, hsame.mono (by decide) (by decide)⟩
  show Q_rm4 Z a1 a3 h0 n0 (none) T3.heap _
  rw [e3]
  exact ⟨rfl, N3, K, E_a1, F_values_a1⟩
theorem d7_0 : decode prog_15_method_3_code 0 = .ok (.aload_n 0, 1) := by decide +kernel
theorem d7_1 : decode prog_15_method_3_code 1 = .ok (.getfield 13, 3) := by decide +kernel
theorem d7_4 : decode prog_15_method_3_code 4 = .ok (.iload_n 1, 1) := by decide +kernel
theorem d7_5 : decode prog_15_method_3_code 5 = .ok (.daload, 1) := by decide +kernel
theorem d7_6 : decode prog_15_method_3_code 6 = .ok (.ldc2_w 23, 3) := by decide +kernel
theorem d7_9 : decode prog_15_method_3_code 9 = .ok (.dcmp .l, 1) := by decide +kernel
theorem d7_10 : decode prog_15_method_3_code 10 = .ok (.ifCond .le 7, 3) := by decide +kernel
theorem d7_13 : decode prog_15_method_3_code 13 = .ok (.iconst 1, 1) := by decide +kernel
theorem d7_14 : decode prog_15_method_3_code 14 = .ok (.goto 4, 3) := by decide +kernel
theorem d7_17 : decode prog_15_method_3_code 17 = .ok (.iconst 0, 1) := by decide +kernel
theorem d7_18 : decode prog_15_method_3_code 18 = .ok (.ireturn, 1) := by decide +kernel
def Q_rm7_0 (Z : State) (x : UInt64) (h0 : Heap) (n0 : Nat) (v : Option Value) (h : Heap) (L : List Loc) : Prop := v = some (.int (own_set x)) ∧ Fr n0 L ∧ h = h0
theorem ef_rm7_0 (m : MethodId) (x0 : Addr) (x1 : Int32) : entryFrame m #[(.ref x0), (.int x1)] 2 = mkF m 0 #[.val (.ref x0), .val (.int x1)] [] := by first | (simp [entryFrame, mkF, argsToLocals, Value.category, maxLocals]; done) | rfl
set_option maxRecDepth 65536 in
set_option maxHeartbeats 40000000 in
theorem rm7_0 (l : Launch) (Z : State) (a0 : Array Value) (hw : ∀ d ∈ tables_1, d.before a0 Z = true) (ws : List Jvm.Cond) (a1 av : Addr) (kv : ClassId) (x0 x1 x2 : UInt64) (h0 : Heap) (n0 : Nat) (Z0 : n0 ≤ h0.size) (F_values_a1 : Fld Z h0 a1 "com/example/holdfast/holdfast/Mip$Solution" "values" "[D" (.ref av)) (V_av : Arv Z h0 av kv .double (3 : Int32) [(.double x0), (.double x1), (.double x2)] (.double 0)) :
    MetFree l (⟨"com/example/holdfast/holdfast/Mip$Solution", "isSet", "(I)Z"⟩ : MethodName) (head1 (Jvm.Cond.code (⟨"com/example/holdfast/holdfast/Mip$Solution", "isSet", "(I)Z"⟩ : MethodName) prog_15_method_3_code 2 (some .boolean) :: ws) ({ frames := 0, cells := 0, slots := 0, locals := 0 } : Room)) (fun a U => a = #[(.ref a1), (.int (0 : Int32))] ∧ Z.Warmed39 U.vm ∧ U.heap = h0) (fun _ _ _ _ _ => True) (fun _ U o U' => ∃ v L, o = .returned v ∧ Q_rm7_0 Z x0 h0 n0 v U'.heap L ∧ FrameEnd U o U' L ({ frames := 0, cells := 0, slots := 0, locals := 0 } : Room).cells ({ frames := 0, cells := 0, slots := 0, locals := 0 } : Room).slots) := by
  refine MetFree.of_bodySF (plainFor_of_name pn_7) hisR ?_
  intro p e s m args below meth c s₁ Bd hml0 hP hK
  obtain ⟨rfl, hZ, hh⟩ := hP
  have hx := Bd.exec
  have hby := Bd.bytes
  have hml : c.maxLocals = 2 := hml0
  have hown : s.vm.findClass "com/example/holdfast/holdfast/Mip$Solution" = some m.cls := findClass_of_methodNamed Bd.named
  have hnm := (name_of_methodNamed Bd.named Bd.method).1
  have X0 : Stand p l e ({ frames := 0, cells := 0, slots := 0, locals := 0 } : Room) s m #[(.ref a1), (.int (0 : Int32))] below meth c s₁ [] 0 0 := Stand.of_body Bd
  have e0 : s₁.heap = h0 := by rw [← hh, Bd.state]; rfl
  have N0 := Fr.nil n0
  have K : Keep h0 h0 [] := Keep.refl h0 []
  show own_Gd p.tables e below (own_P (Q_rm7_0 Z x0 h0 n0) s ({ frames := 0, cells := 0, slots := 0, locals := 0 } : Room).cells ({ frames := 0, cells := 0, slots := 0, locals := 0 } : Room).slots) _
  refine own_go (B := s₁.setTop (mkF m 0 #[.val (.ref a1), .val (.int (0 : Int32))] [])) (fun t k => castTop (ef_rm7_0 m a1 (0 : Int32)) k) ?_
  refine own_go (B := s₁.setTop (mkF m 1 #[.val (.ref a1), .val (.int (0 : Int32))] [(.ref a1)])) (fun t k => ?_) ?_
  · show Steps p.tables e below (s₁.setTop (mkF m 0 #[.val (.ref a1), .val (.int (0 : Int32))] [])) _
    refine XS.aloadN X0.here hx rfl (hb hby d7_0) rfl rfl ?_
    show Steps p.tables e below (s₁.setTop (mkF m 1 #[.val (.ref a1), .val (.int (0 : Int32))] [(.ref a1)])) _
    exact k
  obtain ⟨T1, X1, e1, st1⟩ := getF X0 hx hZ hown (host := "") (Or.inl (hw _ (List.mem_of_getElem? (i := 33) rfl))) Via.refl e0 F_values_a1 (g := (mkF m 1 #[.val (.ref a1), .val (.int (0 : Int32))] [(.ref a1)])) rfl rfl (hb hby d7_1)
  refine own_go (B := T1.setTop (mkF m 4 #[.val (.ref a1), .val (.int (0 : Int32))] [(.ref av)])) st1 ?_
  refine own_go (B := T1.setTop (mkF m 5 #[.val (.ref a1), .val (.int (0 : Int32))] [(.int (0 : Int32)), (.ref av)])) (fun t k => ?_) ?_
  · show Steps p.tables e below (T1.setTop (mkF m 4 #[.val (.ref a1), .val (.int (0 : Int32))] [(.ref av)])) _
    refine XS.iloadN X1.here hx rfl (hb hby d7_4) rfl ?_
    show Steps p.tables e below (T1.setTop (mkF m 5 #[.val (.ref a1), .val (.int (0 : Int32))] [(.int (0 : Int32)), (.ref av)])) _
    exact k
  obtain ⟨cl2, Ar2, qa2, Sa2, Na2, Ha2, Ga2⟩ := id V_av
  have hin2 : ¬ ((0 : Int32) < 0 ∨ cl2.slots.size ≤ ((0 : Int32)).toNatClampNeg) := inb_of Sa2 ⟨by decide, by decide⟩
  have hat2 : cl2.slots[((0 : Int32)).toNatClampNeg]? = some (.double x0) := Ha2.at hin2 rfl
  refine own_go (B := T1.setTop (mkF m 10 #[.val (.ref a1), .val (.int (0 : Int32))] [(.int (cmpValue (FP.dcmp x0 (4602678819172646912 : UInt64)) .l))])) (fun t k => ?_) ?_
  · show Steps p.tables e below (T1.setTop (mkF m 5 #[.val (.ref a1), .val (.int (0 : Int32))] [(.int (0 : Int32)), (.ref av)])) _
    refine X1.daload hx (j := (0 : Int32)) (v := (.double x0)) (by rw [e1]; exact Ar2.1) (State.isArrayOf_alike hZ.alike Ar2.2.1) Ar2.2.2 hin2 hat2 (g := (mkF m 5 #[.val (.ref a1), .val (.int (0 : Int32))] [(.int (0 : Int32)), (.ref av)])) rfl rfl (hb hby d7_5) _ ?_
    show Steps p.tables e below (T1.setTop (mkF m 6 #[.val (.ref a1), .val (.int (0 : Int32))] [(.double x0)])) _
    refine X1.ldc2DoubleC hx hown (mvT hZ (hw _ (List.mem_of_getElem? (i := 40) rfl))) (g := (mkF m 6 #[.val (.ref a1), .val (.int (0 : Int32))] [(.double x0)])) rfl (hb hby d7_6) _ ?_
    show Steps p.tables e below (T1.setTop (mkF m 9 #[.val (.ref a1), .val (.int (0 : Int32))] [(.double (4602678819172646912 : UInt64)), (.double x0)])) _
    refine XS.dcmpS X1.here hx rfl (hb hby d7_9) rfl rfl ?_
    show Steps p.tables e below (T1.setTop (mkF m 10 #[.val (.ref a1), .val (.int (0 : Int32))] [(.int (cmpValue (FP.dcmp x0 (4602678819172646912 : UInt64)) .l))])) _
    exact k
  by_cases hc10 : (0 : Int32) < (cmpValue (FP.dcmp x0 (4602678819172646912 : UInt64)) .l)
  · refine own_go (B := T1.setTop (mkF m 18 #[.val (.ref a1), .val (.int (0 : Int32))] [(.int (1 : Int32))])) (fun t k => ?_) ?_
    · show Steps p.tables e below (T1.setTop (mkF m 10 #[.val (.ref a1), .val (.int (0 : Int32))] [(.int (cmpValue (FP.dcmp x0 (4602678819172646912 : UInt64)) .l))])) _
      refine XS.ifNo X1.here hx rfl (hb hby d7_10) rfl ((if0 _ _).trans (tlt hc10).2.2.2) ?_
      show Steps p.tables e below (T1.setTop (mkF m 13 #[.val (.ref a1), .val (.int (0 : Int32))] [])) _
      refine XS.iconst X1.here hx rfl (hb hby d7_13) ?_
      show Steps p.tables e below (T1.setTop (mkF m 14 #[.val (.ref a1), .val (.int (0 : Int32))] [(.int (1 : Int32))])) _
      refine XS.goto X1.here hx rfl (pc0 := 14) (pc' := 18) rfl (hb hby d7_14) (by decide) (by decide) ?_
      show Steps p.tables e below (T1.setTop (mkF m 18 #[.val (.ref a1), .val (.int (0 : Int32))] [(.int (1 : Int32))])) _
      exact k
    obtain ⟨fs, hr, hrun, hended, hW, hsame⟩ := X1.leave (v := some (.int (1 : Int32))) (fun h => by rw [Bd.returns] at h; cases h)
    refine own_done (retN X1 hx (t := .boolean) Bd.returns (by simp) (hb hby d7_18) hr) hrun hended ⟨_, _, rfl, ?_, ⟨_, rfl⟩, hW, hsame.mono (by decide) (by decide)⟩
    show Q_rm7_0 Z x0 h0 n0 (some (.int (1 : Int32))) T1.heap _
    rw [e1]
    exact ⟨by unfold own_set; rw [if_pos hc10], N0, rfl⟩
  · refine own_go (B := T1.setTop (mkF m 18 #[.val (.ref a1), .val (.int (0 : Int32))] [(.int (0 : Int32))])) (fun t k => ?_) ?_
    · show Steps p.tables e below (T1.setTop (mkF m 10 #[.val (.ref a1), .val (.int (0 : Int32))] [(.int (cmpValue (FP.dcmp x0 (4602678819172646912 : UInt64)) .l))])) _
      refine XS.ifYes X1.here hx rfl (pc0 := 10) (pc' := 17) rfl (hb hby d7_10) rfl ((if0 _ _).trans (flt hc10).2.2.2) (by decide) (by decide) ?_
      show Steps p.tables e below (T1.setTop (mkF m 17 #[.val (.ref a1), .val (.int (0 : Int32))] [])) _
      refine XS.iconst X1.here hx rfl (hb hby d7_17) ?_
      show Steps p.tables e below (T1.setTop (mkF m 18 #[.val (.ref a1), .val (.int (0 : Int32))] [(.int (0 : Int32))])) _
      exact k
    obtain ⟨fs, hr, hrun, hended, hW, hsame⟩ := X1.leave (v := some (.int (0 : Int32))) (fun h => by rw [Bd.returns] at h; cases h)
    refine own_done (retN X1 hx (t := .boolean) Bd.returns (by simp) (hb hby d7_18) hr) hrun hended ⟨_, _, rfl, ?_, ⟨_, rfl⟩, hW, hsame.mono (by decide) (by decide)⟩
    show Q_rm7_0 Z x0 h0 n0 (some (.int (0 : Int32))) T1.heap _
    rw [e1]
    exact ⟨by unfold own_set; rw [if_neg hc10], N0, rfl⟩
def Q_rm7_1 (Z : State) (x : UInt64) (h0 : Heap) (n0 : Nat) (v : Option Value) (h : Heap) (L : List Loc) : Prop := v = some (.int (own_set x)) ∧ Fr n0 L ∧ h = h0
theorem ef_rm7_1 (m : MethodId) (x0 : Addr) (x1 : Int32) : entryFrame m #[(.ref x0), (.int x1)] 2 = mkF m 0 #[.val (.ref x0), .val (.int x1)] [] := by first | (simp [entryFrame, mkF, argsToLocals, Value.category, maxLocals]; done) | rfl
set_option maxRecDepth 65536 in
set_option maxHeartbeats 40000000 in
theorem rm7_1 (l : Launch) (Z : State) (a0 : Array Value) (hw : ∀ d ∈ tables_1, d.before a0 Z = true) (ws : List Jvm.Cond) (a1 av : Addr) (kv : ClassId) (x0 x1 x2 : UInt64) (h0 : Heap) (n0 : Nat) (Z0 : n0 ≤ h0.size) (F_values_a1 : Fld Z h0 a1 "com/example/holdfast/holdfast/Mip$Solution" "values" "[D" (.ref av)) (V_av : Arv Z h0 av kv .double (3 : Int32) [(.double x0), (.double x1), (.double x2)] (.double 0)) :
    MetFree l (⟨"com/example/holdfast/holdfast/Mip$Solution", "isSet", "(I)Z"⟩ : MethodName) (head1 (Jvm.Cond.code (⟨"com/example/holdfast/holdfast/Mip$Solution", "isSet", "(I)Z"⟩ : MethodName) prog_15_method_3_code 2 (some .boolean) :: ws) ({ frames := 0, cells := 0, slots := 0, locals := 0 } : Room)) (fun a U => a = #[(.ref a1), (.int (1 : Int32))] ∧ Z.Warmed39 U.vm ∧ U.heap = h0) (fun _ _ _ _ _ => True) (fun _ U o U' => ∃ v L, o = .returned v ∧ Q_rm7_1 Z x1 h0 n0 v U'.heap L ∧ FrameEnd U o U' L ({ frames := 0, cells := 0, slots := 0, locals := 0 } : Room).cells ({ frames := 0, cells := 0, slots := 0, locals := 0 } : Room).slots) := by
  refine MetFree.of_bodySF (plainFor_of_name pn_7) hisR ?_
  intro p e s m args below meth c s₁ Bd hml0 hP hK
  obtain ⟨rfl, hZ, hh⟩ := hP
  have hx := Bd.exec
  have hby := Bd.bytes
  have hml : c.maxLocals = 2 := hml0
  have hown : s.vm.findClass "com/example/holdfast/holdfast/Mip$Solution" = some m.cls := findClass_of_methodNamed Bd.named
  have hnm := (name_of_methodNamed Bd.named Bd.method).1
  have X0 : Stand p l e ({ frames := 0, cells := 0, slots := 0, locals := 0 } : Room) s m #[(.ref a1), (.int (1 : Int32))] below meth c s₁ [] 0 0 := Stand.of_body Bd
  have e0 : s₁.heap = h0 := by rw [← hh, Bd.state]; rfl
  have N0 := Fr.nil n0
  have K : Keep h0 h0 [] := Keep.refl h0 []
  show own_Gd p.tables e below (own_P (Q_rm7_1 Z x1 h0 n0) s ({ frames := 0, cells := 0, slots := 0, locals := 0 } : Room).cells ({ frames := 0, cells := 0, slots := 0, locals := 0 } : Room).slots) _
  refine own_go (B := s₁.setTop (mkF m 0 #[.val (.ref a1), .val (.int (1 : Int32))] [])) (fun t k => castTop (ef_rm7_1 m a1 (1 : Int32)) k) ?_
  refine own_go (B := s₁.setTop (mkF m 1 #[.val (.ref a1), .val (.int (1 : Int32))] [(.ref a1)])) (fun t k => ?_) ?_
  · show Steps p.tables e below (s₁.setTop (mkF m 0 #[.val (.ref a1), .val (.int (1 : Int32))] [])) _
    refine XS.aloadN X0.here hx rfl (hb hby d7_0) rfl rfl ?_
    show Steps p.tables e below (s₁.setTop (mkF m 1 #[.val (.ref a1), .val (.int (1 : Int32))] [(.ref a1)])) _
    exact k
  obtain ⟨T1, X1, e1, st1⟩ := getF X0 hx hZ hown (host := "") (Or.inl (hw _ (List.mem_of_getElem? (i := 33) rfl))) Via.refl e0 F_values_a1 (g := (mkF m 1 #[.val (.ref a1), .val (.int (1 : Int32))] [(.ref a1)])) rfl rfl (hb hby d7_1)
  refine own_go (B := T1.setTop (mkF m 4 #[.val (.ref a1), .val (.int (1 : Int32))] [(.ref av)])) st1 ?_
  refine own_go (B := T1.setTop (mkF m 5 #[.val (.ref a1), .val (.int (1 : Int32))] [(.int (1 : Int32)), (.ref av)])) (fun t k => ?_) ?_
  · show Steps p.tables e below (T1.setTop (mkF m 4 #[.val (.ref a1), .val (.int (1 : Int32))] [(.ref av)])) _
    refine XS.iloadN X1.here hx rfl (hb hby d7_4) rfl ?_
    show Steps p.tables e below (T1.setTop (mkF m 5 #[.val (.ref a1), .val (.int (1 : Int32))] [(.int (1 : Int32)), (.ref av)])) _
    exact k
  obtain ⟨cl2, Ar2, qa2, Sa2, Na2, Ha2, Ga2⟩ := id V_av
  have hin2 : ¬ ((1 : Int32) < 0 ∨ cl2.slots.size ≤ ((1 : Int32)).toNatClampNeg) := inb_of Sa2 ⟨by decide, by decide⟩
  have hat2 : cl2.slots[((1 : Int32)).toNatClampNeg]? = some (.double x1) := Ha2.at hin2 rfl
  refine own_go (B := T1.setTop (mkF m 10 #[.val (.ref a1), .val (.int (1 : Int32))] [(.int (cmpValue (FP.dcmp x1 (4602678819172646912 : UInt64)) .l))])) (fun t k => ?_) ?_
  · show Steps p.tables e below (T1.setTop (mkF m 5 #[.val (.ref a1), .val (.int (1 : Int32))] [(.int (1 : Int32)), (.ref av)])) _
    refine X1.daload hx (j := (1 : Int32)) (v := (.double x1)) (by rw [e1]; exact Ar2.1) (State.isArrayOf_alike hZ.alike Ar2.2.1) Ar2.2.2 hin2 hat2 (g := (mkF m 5 #[.val (.ref a1), .val (.int (1 : Int32))] [(.int (1 : Int32)), (.ref av)])) rfl rfl (hb hby d7_5) _ ?_
    show Steps p.tables e below (T1.setTop (mkF m 6 #[.val (.ref a1), .val (.int (1 : Int32))] [(.double x1)])) _
    refine X1.ldc2DoubleC hx hown (mvT hZ (hw _ (List.mem_of_getElem? (i := 40) rfl))) (g := (mkF m 6 #[.val (.ref a1), .val (.int (1 : Int32))] [(.double x1)])) rfl (hb hby d7_6) _ ?_
    show Steps p.tables e below (T1.setTop (mkF m 9 #[.val (.ref a1), .val (.int (1 : Int32))] [(.double (4602678819172646912 : UInt64)), (.double x1)])) _
    refine XS.dcmpS X1.here hx rfl (hb hby d7_9) rfl rfl ?_
    show Steps p.tables e below (T1.setTop (mkF m 10 #[.val (.ref a1), .val (.int (1 : Int32))] [(.int (cmpValue (FP.dcmp x1 (4602678819172646912 : UInt64)) .l))])) _
    exact k
  by_cases hc10 : (0 : Int32) < (cmpValue (FP.dcmp x1 (4602678819172646912 : UInt64)) .l)
  · refine own_go (B := T1.setTop (mkF m 18 #[.val (.ref a1), .val (.int (1 : Int32))] [(.int (1 : Int32))])) (fun t k => ?_) ?_
    · show Steps p.tables e below (T1.setTop (mkF m 10 #[.val (.ref a1), .val (.int (1 : Int32))] [(.int (cmpValue (FP.dcmp x1 (4602678819172646912 : UInt64)) .l))])) _
      refine XS.ifNo X1.here hx rfl (hb hby d7_10) rfl ((if0 _ _).trans (tlt hc10).2.2.2) ?_
      show Steps p.tables e below (T1.setTop (mkF m 13 #[.val (.ref a1), .val (.int (1 : Int32))] [])) _
      refine XS.iconst X1.here hx rfl (hb hby d7_13) ?_
      show Steps p.tables e below (T1.setTop (mkF m 14 #[.val (.ref a1), .val (.int (1 : Int32))] [(.int (1 : Int32))])) _
      refine XS.goto X1.here hx rfl (pc0 := 14) (pc' := 18) rfl (hb hby d7_14) (by decide) (by decide) ?_
      show Steps p.tables e below (T1.setTop (mkF m 18 #[.val (.ref a1), .val (.int (1 : Int32))] [(.int (1 : Int32))])) _
      exact k
    obtain ⟨fs, hr, hrun, hended, hW, hsame⟩ := X1.leave (v := some (.int (1 : Int32))) (fun h => by rw [Bd.returns] at h; cases h)
    refine own_done (retN X1 hx (t := .boolean) Bd.returns (by simp) (hb hby d7_18) hr) hrun hended ⟨_, _, rfl, ?_, ⟨_, rfl⟩, hW, hsame.mono (by decide) (by decide)⟩
    show Q_rm7_1 Z x1 h0 n0 (some (.int (1 : Int32))) T1.heap _
    rw [e1]
    exact ⟨by unfold own_set; rw [if_pos hc10], N0, rfl⟩
  · refine own_go (B := T1.setTop (mkF m 18 #[.val (.ref a1), .val (.int (1 : Int32))] [(.int (0 : Int32))])) (fun t k => ?_) ?_
    · show Steps p.tables e below (T1.setTop (mkF m 10 #[.val (.ref a1), .val (.int (1 : Int32))] [(.int (cmpValue (FP.dcmp x1 (4602678819172646912 : UInt64)) .l))])) _
      refine XS.ifYes X1.here hx rfl (pc0 := 10) (pc' := 17) rfl (hb hby d7_10) rfl ((if0 _ _).trans (flt hc10).2.2.2) (by decide) (by decide) ?_
      show Steps p.tables e below (T1.setTop (mkF m 17 #[.val (.ref a1), .val (.int (1 : Int32))] [])) _
      refine XS.iconst X1.here hx rfl (hb hby d7_17) ?_
      show Steps p.tables e below (T1.setTop (mkF m 18 #[.val (.ref a1), .val (.int (1 : Int32))] [(.int (0 : Int32))])) _
      exact k
    obtain ⟨fs, hr, hrun, hended, hW, hsame⟩ := X1.leave (v := some (.int (0 : Int32))) (fun h => by rw [Bd.returns] at h; cases h)
    refine own_done (retN X1 hx (t := .boolean) Bd.returns (by simp) (hb hby d7_18) hr) hrun hended ⟨_, _, rfl, ?_, ⟨_, rfl⟩, hW, hsame.mono (by decide) (by decide)⟩
    show Q_rm7_1 Z x1 h0 n0 (some (.int (0 : Int32))) T1.heap _
    rw [e1]
    exact ⟨by unfold own_set; rw [if_neg hc10], N0, rfl⟩
def Q_rm7_2 (Z : State) (x : UInt64) (h0 : Heap) (n0 : Nat) (v : Option Value) (h : Heap) (L : List Loc) : Prop := v = some (.int (own_set x)) ∧ Fr n0 L ∧ h = h0
theorem ef_rm7_2 (m : MethodId) (x0 : Addr) (x1 : Int32) : entryFrame m #[(.ref x0), (.int x1)] 2 = mkF m 0 #[.val (.ref x0), .val (.int x1)] [] := by first | (simp [entryFrame, mkF, argsToLocals, Value.category, maxLocals]; done) | rfl
set_option maxRecDepth 65536 in
set_option maxHeartbeats 40000000 in
theorem rm7_2 (l : Launch) (Z : State) (a0 : Array Value) (hw : ∀ d ∈ tables_1, d.before a0 Z = true) (ws : List Jvm.Cond) (a1 av : Addr) (kv : ClassId) (x0 x1 x2 : UInt64) (h0 : Heap) (n0 : Nat) (Z0 : n0 ≤ h0.size) (F_values_a1 : Fld Z h0 a1 "com/example/holdfast/holdfast/Mip$Solution" "values" "[D" (.ref av)) (V_av : Arv Z h0 av kv .double (3 : Int32) [(.double x0), (.double x1), (.double x2)] (.double 0)) :
    MetFree l (⟨"com/example/holdfast/holdfast/Mip$Solution", "isSet", "(I)Z"⟩ : MethodName) (head1 (Jvm.Cond.code (⟨"com/example/holdfast/holdfast/Mip$Solution", "isSet", "(I)Z"⟩ : MethodName) prog_15_method_3_code 2 (some .boolean) :: ws) ({ frames := 0, cells := 0, slots := 0, locals := 0 } : Room)) (fun a U => a = #[(.ref a1), (.int (2 : Int32))] ∧ Z.Warmed39 U.vm ∧ U.heap = h0) (fun _ _ _ _ _ => True) (fun _ U o U' => ∃ v L, o = .returned v ∧ Q_rm7_2 Z x2 h0 n0 v U'.heap L ∧ FrameEnd U o U' L ({ frames := 0, cells := 0, slots := 0, locals := 0 } : Room).cells ({ frames := 0, cells := 0, slots := 0, locals := 0 } : Room).slots) := by
  refine MetFree.of_bodySF (plainFor_of_name pn_7) hisR ?_
  intro p e s m args below meth c s₁ Bd hml0 hP hK
  obtain ⟨rfl, hZ, hh⟩ := hP
  have hx := Bd.exec
  have hby := Bd.bytes
  have hml : c.maxLocals = 2 := hml0
  have hown : s.vm.findClass "com/example/holdfast/holdfast/Mip$Solution" = some m.cls := findClass_of_methodNamed Bd.named
  have hnm := (name_of_methodNamed Bd.named Bd.method).1
  have X0 : Stand p l e ({ frames := 0, cells := 0, slots := 0, locals := 0 } : Room) s m #[(.ref a1), (.int (2 : Int32))] below meth c s₁ [] 0 0 := Stand.of_body Bd
  have e0 : s₁.heap = h0 := by rw [← hh, Bd.state]; rfl
  have N0 := Fr.nil n0
  have K : Keep h0 h0 [] := Keep.refl h0 []
  show own_Gd p.tables e below (own_P (Q_rm7_2 Z x2 h0 n0) s ({ frames := 0, cells := 0, slots := 0, locals := 0 } : Room).cells ({ frames := 0, cells := 0, slots := 0, locals := 0 } : Room).slots) _
  refine own_go (B := s₁.setTop (mkF m 0 #[.val (.ref a1), .val (.int (2 : Int32))] [])) (fun t k => castTop (ef_rm7_2 m a1 (2 : Int32)) k) ?_
  refine own_go (B := s₁.setTop (mkF m 1 #[.val (.ref a1), .val (.int (2 : Int32))] [(.ref a1)])) (fun t k => ?_) ?_
  · show Steps p.tables e below (s₁.setTop (mkF m 0 #[.val (.ref a1), .val (.int (2 : Int32))] [])) _
    refine XS.aloadN X0.here hx rfl (hb hby d7_0) rfl rfl ?_
    show Steps p.tables e below (s₁.setTop (mkF m 1 #[.val (.ref a1), .val (.int (2 : Int32))] [(.ref a1)])) _
    exact k
  obtain ⟨T1, X1, e1, st1⟩ := getF X0 hx hZ hown (host := "") (Or.inl (hw _ (List.mem_of_getElem? (i := 33) rfl))) Via.refl e0 F_values_a1 (g := (mkF m 1 #[.val (.ref a1), .val (.int (2 : Int32))] [(.ref a1)])) rfl rfl (hb hby d7_1)
  refine own_go (B := T1.setTop (mkF m 4 #[.val (.ref a1), .val (.int (2 : Int32))] [(.ref av)])) st1 ?_
  refine own_go (B := T1.setTop (mkF m 5 #[.val (.ref a1), .val (.int (2 : Int32))] [(.int (2 : Int32)), (.ref av)])) (fun t k => ?_) ?_
  · show Steps p.tables e below (T1.setTop (mkF m 4 #[.val (.ref a1), .val (.int (2 : Int32))] [(.ref av)])) _
    refine XS.iloadN X1.here hx rfl (hb hby d7_4) rfl ?_
    show Steps p.tables e below (T1.setTop (mkF m 5 #[.val (.ref a1), .val (.int (2 : Int32))] [(.int (2 : Int32)), (.ref av)])) _
    exact k
  obtain ⟨cl2, Ar2, qa2, Sa2, Na2, Ha2, Ga2⟩ := id V_av
  have hin2 : ¬ ((2 : Int32) < 0 ∨ cl2.slots.size ≤ ((2 : Int32)).toNatClampNeg) := inb_of Sa2 ⟨by decide, by decide⟩
  have hat2 : cl2.slots[((2 : Int32)).toNatClampNeg]? = some (.double x2) := Ha2.at hin2 rfl
  refine own_go (B := T1.setTop (mkF m 10 #[.val (.ref a1), .val (.int (2 : Int32))] [(.int (cmpValue (FP.dcmp x2 (4602678819172646912 : UInt64)) .l))])) (fun t k => ?_) ?_
  · show Steps p.tables e below (T1.setTop (mkF m 5 #[.val (.ref a1), .val (.int (2 : Int32))] [(.int (2 : Int32)), (.ref av)])) _
    refine X1.daload hx (j := (2 : Int32)) (v := (.double x2)) (by rw [e1]; exact Ar2.1) (State.isArrayOf_alike hZ.alike Ar2.2.1) Ar2.2.2 hin2 hat2 (g := (mkF m 5 #[.val (.ref a1), .val (.int (2 : Int32))] [(.int (2 : Int32)), (.ref av)])) rfl rfl (hb hby d7_5) _ ?_
    show Steps p.tables e below (T1.setTop (mkF m 6 #[.val (.ref a1), .val (.int (2 : Int32))] [(.double x2)])) _
    refine X1.ldc2DoubleC hx hown (mvT hZ (hw _ (List.mem_of_getElem? (i := 40) rfl))) (g := (mkF m 6 #[.val (.ref a1), .val (.int (2 : Int32))] [(.double x2)])) rfl (hb hby d7_6) _ ?_
    show Steps p.tables e below (T1.setTop (mkF m 9 #[.val (.ref a1), .val (.int (2 : Int32))] [(.double (4602678819172646912 : UInt64)), (.double x2)])) _
    refine XS.dcmpS X1.here hx rfl (hb hby d7_9) rfl rfl ?_
    show Steps p.tables e below (T1.setTop (mkF m 10 #[.val (.ref a1), .val (.int (2 : Int32))] [(.int (cmpValue (FP.dcmp x2 (4602678819172646912 : UInt64)) .l))])) _
    exact k
  by_cases hc10 : (0 : Int32) < (cmpValue (FP.dcmp x2 (4602678819172646912 : UInt64)) .l)
  · refine own_go (B := T1.setTop (mkF m 18 #[.val (.ref a1), .val (.int (2 : Int32))] [(.int (1 : Int32))])) (fun t k => ?_) ?_
    · show Steps p.tables e below (T1.setTop (mkF m 10 #[.val (.ref a1), .val (.int (2 : Int32))] [(.int (cmpValue (FP.dcmp x2 (4602678819172646912 : UInt64)) .l))])) _
      refine XS.ifNo X1.here hx rfl (hb hby d7_10) rfl ((if0 _ _).trans (tlt hc10).2.2.2) ?_
      show Steps p.tables e below (T1.setTop (mkF m 13 #[.val (.ref a1), .val (.int (2 : Int32))] [])) _
      refine XS.iconst X1.here hx rfl (hb hby d7_13) ?_
      show Steps p.tables e below (T1.setTop (mkF m 14 #[.val (.ref a1), .val (.int (2 : Int32))] [(.int (1 : Int32))])) _
      refine XS.goto X1.here hx rfl (pc0 := 14) (pc' := 18) rfl (hb hby d7_14) (by decide) (by decide) ?_
      show Steps p.tables e below (T1.setTop (mkF m 18 #[.val (.ref a1), .val (.int (2 : Int32))] [(.int (1 : Int32))])) _
      exact k
    obtain ⟨fs, hr, hrun, hended, hW, hsame⟩ := X1.leave (v := some (.int (1 : Int32))) (fun h => by rw [Bd.returns] at h; cases h)
    refine own_done (retN X1 hx (t := .boolean) Bd.returns (by simp) (hb hby d7_18) hr) hrun hended ⟨_, _, rfl, ?_, ⟨_, rfl⟩, hW, hsame.mono (by decide) (by decide)⟩
    show Q_rm7_2 Z x2 h0 n0 (some (.int (1 : Int32))) T1.heap _
    rw [e1]
    exact ⟨by unfold own_set; rw [if_pos hc10], N0, rfl⟩
  · refine own_go (B := T1.setTop (mkF m 18 #[.val (.ref a1), .val (.int (2 : Int32))] [(.int (0 : Int32))])) (fun t k => ?_) ?_
    · show Steps p.tables e below (T1.setTop (mkF m 10 #[.val (.ref a1), .val (.int (2 : Int32))] [(.int (cmpValue (FP.dcmp x2 (4602678819172646912 : UInt64)) .l))])) _
      refine XS.ifYes X1.here hx rfl (pc0 := 10) (pc' := 17) rfl (hb hby d7_10) rfl ((if0 _ _).trans (flt hc10).2.2.2) (by decide) (by decide) ?_
      show Steps p.tables e below (T1.setTop (mkF m 17 #[.val (.ref a1), .val (.int (2 : Int32))] [])) _
      refine XS.iconst X1.here hx rfl (hb hby d7_17) ?_
      show Steps p.tables e below (T1.setTop (mkF m 18 #[.val (.ref a1), .val (.int (2 : Int32))] [(.int (0 : Int32))])) _
      exact k
    obtain ⟨fs, hr, hrun, hended, hW, hsame⟩ := X1.leave (v := some (.int (0 : Int32))) (fun h => by rw [Bd.returns] at h; cases h)
    refine own_done (retN X1 hx (t := .boolean) Bd.returns (by simp) (hb hby d7_18) hr) hrun hended ⟨_, _, rfl, ?_, ⟨_, rfl⟩, hW, hsame.mono (by decide) (by decide)⟩
    show Q_rm7_2 Z x2 h0 n0 (some (.int (0 : Int32))) T1.heap _
    rw [e1]
    exact ⟨by unfold own_set; rw [if_neg hc10], N0, rfl⟩
def Q_rm0 (Z : State) (h0 : Heap) (n0 : Nat) (v : Option Value) (h : Heap) (L : List Loc) : Prop := v = some (.int (1 : Int32)) ∧ Fr n0 L
theorem ef_rm0 (m : MethodId) (x0 : Int32) (x1 : Int32) (x2 : Int32) (x3 : Int32) : entryFrame m #[(.int x0), (.int x1), (.int x2), (.int x3)] maxLocals = mkF m 0 #[.val (.int x0), .val (.int x1), .val (.int x2), .val (.int x3), .unset, .unset, .unset, .unset, .unset, .unset, .unset, .unset] [] := by first | (simp [entryFrame, mkF, argsToLocals, Value.category, maxLocals]; done) | rfl
set_option maxRecDepth 65536 in
set_option maxHeartbeats 40000000 in
theorem rm0 (l : Launch) (Z : State) (a0 : Array Value) (hw : ∀ d ∈ tables_1, d.before a0 Z = true) (ws : List Jvm.Cond) (p0 p1 p2 p3 : Int32) (w_OPTIMAL w_FEASIBLE : Addr) (h0 : Heap) (n0 : Nat) (Z0 : n0 ≤ h0.size) (S_OPTIMAL : Sta Z Z.heap "com/example/holdfast/holdfast/Mip$Status" "OPTIMAL" "Lcom/example/holdfast/holdfast/Mip$Status;" (.ref w_OPTIMAL)) (S_FEASIBLE : Sta Z Z.heap "com/example/holdfast/holdfast/Mip$Status" "FEASIBLE" "Lcom/example/holdfast/holdfast/Mip$Status;" (.ref w_FEASIBLE)) (O : Old Z n0 h0) :
    MetFree l x (head1 (Jvm.Cond.code x code maxLocals ret :: ws) room_1) (fun a U => a = #[(.int p0), (.int p1), (.int p2), (.int p3)] ∧ Z.Warmed39 U.vm ∧ U.heap = h0) (fun _ _ _ _ _ => True) (fun _ U o U' => ∃ v L, o = .returned v ∧ Q_rm0 Z h0 n0 v U'.heap L ∧ FrameEnd U o U' L room_1.cells room_1.slots) := by
  refine MetFree.of_bodySF (plainFor_of_name pn_0) hisR ?_
  intro p e s m args below meth c s₁ Bd hml0 hP hK
  obtain ⟨rfl, hZ, hh⟩ := hP
  have hx := Bd.exec
  have hby := Bd.bytes
  have hml : c.maxLocals = 12 := hml0
  have hown : s.vm.findClass "com/example/holdfast/holdfast/SolutionIsSetPinLaw" = some m.cls := findClass_of_methodNamed Bd.named
  have hnm := (name_of_methodNamed Bd.named Bd.method).1
  have X0 : Stand p l e room_1 s m #[(.int p0), (.int p1), (.int p2), (.int p3)] below meth c s₁ [] 0 0 := Stand.of_body Bd
  have e0 : s₁.heap = h0 := by rw [← hh, Bd.state]; rfl
  have N0 := Fr.nil n0
  have K : Keep h0 h0 [] := Keep.refl h0 []
  show own_Gd p.tables e below (own_P (Q_rm0 Z h0 n0) s room_1.cells room_1.slots) _
  refine own_go (B := s₁.setTop (mkF m 0 #[.val (.int p0), .val (.int p1), .val (.int p2), .val (.int p3), .unset, .unset, .unset, .unset, .unset, .unset, .unset, .unset] [])) (fun t k => castTop (ef_rm0 m p0 p1 p2 p3) k) ?_
  refine own_go (B := s₁.setTop (mkF m 1 #[.val (.int p0), .val (.int p1), .val (.int p2), .val (.int p3), .unset, .unset, .unset, .unset, .unset, .unset, .unset, .unset] [(.int p0)])) (fun t k => ?_) ?_
  · show Steps p.tables e below (s₁.setTop (mkF m 0 #[.val (.int p0), .val (.int p1), .val (.int p2), .val (.int p3), .unset, .unset, .unset, .unset, .unset, .unset, .unset, .unset] [])) _
    refine XS.iloadN X0.here hx rfl (hb hby at_0) rfl ?_
    show Steps p.tables e below (s₁.setTop (mkF m 1 #[.val (.int p0), .val (.int p1), .val (.int p2), .val (.int p3), .unset, .unset, .unset, .unset, .unset, .unset, .unset, .unset] [(.int p0)])) _
    exact k
  obtain ⟨_, _, ⟨T1, L1, k1, n1⟩, -, X1, ⟨Lc1, hQ1, l1, y1, z1⟩, st1⟩ := Jvm.LawKit.callS X0 hx (y := (⟨"com/example/holdfast/holdfast/SolutionIsSetPinLaw", "draw", "(I)I"⟩ : MethodName)) hown (mvT hZ (hw _ (List.mem_of_getElem? (i := 0) rfl))) (mvT hZ (hw _ (List.mem_of_getElem? (i := 1) rfl))) (mvT hZ (hw _ (List.mem_of_getElem? (i := 2) rfl))) (mvT hZ (hw _ (List.mem_of_getElem? (i := 3) rfl))) (by decide) (backOf (W := 0) (rm1 l Z a0 hw [] p0 h0 n0 Z0) hZ (hw _ (List.mem_of_getElem? (i := 3) rfl)) (hw _ (List.mem_of_getElem? (i := 2) rfl)) (by decide) (by decide)) (g := (mkF m 1 #[.val (.int p0), .val (.int p1), .val (.int p2), .val (.int p3), .unset, .unset, .unset, .unset, .unset, .unset, .unset, .unset] [(.int p0)])) rfl (by rw [hml]; rfl) (argsL := [(.int p0)]) (rest := []) (lenOf pd_1 rfl) rfl (by show 2 * 0 + _ ≤ _; exact Nat.le_of_eq rfl) (hb hby at_1) (fun _ _ => ⟨rfl, e0, Nat.le_of_ble_eq_true rfl, Nat.le_of_ble_eq_true rfl⟩)
  dsimp only [Pt.U, Pt.locs, Pt.cells, Pt.slots] at X1 l1 y1 z1 st1 hQ1
  subst l1 y1 z1
  obtain ⟨h1, e1⟩ : ∃ z, T1.heap = z := ⟨_, rfl⟩
  rw [e1] at hQ1
  obtain ⟨rfl, N1q, eq1⟩ := hQ1
  have N1 := Fr.app N0 N1q
  rw [eq1] at e1
  refine own_go (B := T1.setTop (mkF m 4 #[.val (.int p0), .val (.int p1), .val (.int p2), .val (.int p3), .unset, .unset, .unset, .unset, .unset, .unset, .unset, .unset] [(.int (own_draw p0))])) st1 ?_
  refine own_go (B := T1.setTop (mkF m 7 #[.val (.int p0), .val (.int p1), .val (.int p2), .val (.int p3), .val (.int (own_draw p0)), .unset, .unset, .unset, .unset, .unset, .unset, .unset] [(.int p1)])) (fun t k => ?_) ?_
  · show Steps p.tables e below (T1.setTop (mkF m 4 #[.val (.int p0), .val (.int p1), .val (.int p2), .val (.int p3), .unset, .unset, .unset, .unset, .unset, .unset, .unset, .unset] [(.int (own_draw p0))])) _
    refine XS.istore X1.here hx rfl (hb hby at_4) rfl (l' := #[.val (.int p0), .val (.int p1), .val (.int p2), .val (.int p3), .val (.int (own_draw p0)), .unset, .unset, .unset, .unset, .unset, .unset, .unset]) rfl ?_
    show Steps p.tables e below (T1.setTop (mkF m 6 #[.val (.int p0), .val (.int p1), .val (.int p2), .val (.int p3), .val (.int (own_draw p0)), .unset, .unset, .unset, .unset, .unset, .unset, .unset] [])) _
    refine XS.iloadN X1.here hx rfl (hb hby at_6) rfl ?_
    show Steps p.tables e below (T1.setTop (mkF m 7 #[.val (.int p0), .val (.int p1), .val (.int p2), .val (.int p3), .val (.int (own_draw p0)), .unset, .unset, .unset, .unset, .unset, .unset, .unset] [(.int p1)])) _
    exact k
  obtain ⟨_, _, ⟨T2, L2, k2, n2⟩, -, X2, ⟨Lc2, hQ2, l2, y2, z2⟩, st2⟩ := Jvm.LawKit.callS X1 hx (y := (⟨"com/example/holdfast/holdfast/SolutionIsSetPinLaw", "draw", "(I)I"⟩ : MethodName)) hown (mvT hZ (hw _ (List.mem_of_getElem? (i := 0) rfl))) (mvT hZ (hw _ (List.mem_of_getElem? (i := 1) rfl))) (mvT hZ (hw _ (List.mem_of_getElem? (i := 2) rfl))) (mvT hZ (hw _ (List.mem_of_getElem? (i := 3) rfl))) (by decide) (backOf (W := 0) (rm1 l Z a0 hw [] p1 h0 n0 Z0) hZ (hw _ (List.mem_of_getElem? (i := 3) rfl)) (hw _ (List.mem_of_getElem? (i := 2) rfl)) (by decide) (by decide)) (g := (mkF m 7 #[.val (.int p0), .val (.int p1), .val (.int p2), .val (.int p3), .val (.int (own_draw p0)), .unset, .unset, .unset, .unset, .unset, .unset, .unset] [(.int p1)])) rfl (by rw [hml]; rfl) (argsL := [(.int p1)]) (rest := []) (lenOf pd_1 rfl) rfl (by show 2 * 0 + _ ≤ _; exact Nat.le_of_eq rfl) (hb hby at_7) (fun _ _ => ⟨rfl, e1, Nat.le_of_ble_eq_true rfl, Nat.le_of_ble_eq_true rfl⟩)
  dsimp only [Pt.U, Pt.locs, Pt.cells, Pt.slots] at X2 l2 y2 z2 st2 hQ2
  subst l2 y2 z2
  obtain ⟨h2, e2⟩ : ∃ z, T2.heap = z := ⟨_, rfl⟩
  rw [e2] at hQ2
  obtain ⟨rfl, N2q, eq2⟩ := hQ2
  have N2 := Fr.app N1 N2q
  rw [eq2] at e2
  refine own_go (B := T2.setTop (mkF m 10 #[.val (.int p0), .val (.int p1), .val (.int p2), .val (.int p3), .val (.int (own_draw p0)), .unset, .unset, .unset, .unset, .unset, .unset, .unset] [(.int (own_draw p1))])) st2 ?_
  refine own_go (B := T2.setTop (mkF m 13 #[.val (.int p0), .val (.int p1), .val (.int p2), .val (.int p3), .val (.int (own_draw p0)), .val (.int (own_draw p1)), .unset, .unset, .unset, .unset, .unset, .unset] [(.int p2)])) (fun t k => ?_) ?_
  · show Steps p.tables e below (T2.setTop (mkF m 10 #[.val (.int p0), .val (.int p1), .val (.int p2), .val (.int p3), .val (.int (own_draw p0)), .unset, .unset, .unset, .unset, .unset, .unset, .unset] [(.int (own_draw p1))])) _
    refine XS.istore X2.here hx rfl (hb hby at_10) rfl (l' := #[.val (.int p0), .val (.int p1), .val (.int p2), .val (.int p3), .val (.int (own_draw p0)), .val (.int (own_draw p1)), .unset, .unset, .unset, .unset, .unset, .unset]) rfl ?_
    show Steps p.tables e below (T2.setTop (mkF m 12 #[.val (.int p0), .val (.int p1), .val (.int p2), .val (.int p3), .val (.int (own_draw p0)), .val (.int (own_draw p1)), .unset, .unset, .unset, .unset, .unset, .unset] [])) _
    refine XS.iloadN X2.here hx rfl (hb hby at_12) rfl ?_
    show Steps p.tables e below (T2.setTop (mkF m 13 #[.val (.int p0), .val (.int p1), .val (.int p2), .val (.int p3), .val (.int (own_draw p0)), .val (.int (own_draw p1)), .unset, .unset, .unset, .unset, .unset, .unset] [(.int p2)])) _
    exact k
  obtain ⟨_, _, ⟨T3, L3, k3, n3⟩, -, X3, ⟨Lc3, hQ3, l3, y3, z3⟩, st3⟩ := Jvm.LawKit.callS X2 hx (y := (⟨"com/example/holdfast/holdfast/SolutionIsSetPinLaw", "draw", "(I)I"⟩ : MethodName)) hown (mvT hZ (hw _ (List.mem_of_getElem? (i := 0) rfl))) (mvT hZ (hw _ (List.mem_of_getElem? (i := 1) rfl))) (mvT hZ (hw _ (List.mem_of_getElem? (i := 2) rfl))) (mvT hZ (hw _ (List.mem_of_getElem? (i := 3) rfl))) (by decide) (backOf (W := 0) (rm1 l Z a0 hw [] p2 h0 n0 Z0) hZ (hw _ (List.mem_of_getElem? (i := 3) rfl)) (hw _ (List.mem_of_getElem? (i := 2) rfl)) (by decide) (by decide)) (g := (mkF m 13 #[.val (.int p0), .val (.int p1), .val (.int p2), .val (.int p3), .val (.int (own_draw p0)), .val (.int (own_draw p1)), .unset, .unset, .unset, .unset, .unset, .unset] [(.int p2)])) rfl (by rw [hml]; rfl) (argsL := [(.int p2)]) (rest := []) (lenOf pd_1 rfl) rfl (by show 2 * 0 + _ ≤ _; exact Nat.le_of_eq rfl) (hb hby at_13) (fun _ _ => ⟨rfl, e2, Nat.le_of_ble_eq_true rfl, Nat.le_of_ble_eq_true rfl⟩)
  dsimp only [Pt.U, Pt.locs, Pt.cells, Pt.slots] at X3 l3 y3 z3 st3 hQ3
  subst l3 y3 z3
  obtain ⟨h3, e3⟩ : ∃ z, T3.heap = z := ⟨_, rfl⟩
  rw [e3] at hQ3
  obtain ⟨rfl, N3q, eq3⟩ := hQ3
  have N3 := Fr.app N2 N3q
  rw [eq3] at e3
  refine own_go (B := T3.setTop (mkF m 16 #[.val (.int p0), .val (.int p1), .val (.int p2), .val (.int p3), .val (.int (own_draw p0)), .val (.int (own_draw p1)), .unset, .unset, .unset, .unset, .unset, .unset] [(.int (own_draw p2))])) st3 ?_
  refine own_go (B := T3.setTop (mkF m 19 #[.val (.int p0), .val (.int p1), .val (.int p2), .val (.int p3), .val (.int (own_draw p0)), .val (.int (own_draw p1)), .val (.int (own_draw p2)), .unset, .unset, .unset, .unset, .unset] [(.int (3 : Int32))])) (fun t k => ?_) ?_
  · show Steps p.tables e below (T3.setTop (mkF m 16 #[.val (.int p0), .val (.int p1), .val (.int p2), .val (.int p3), .val (.int (own_draw p0)), .val (.int (own_draw p1)), .unset, .unset, .unset, .unset, .unset, .unset] [(.int (own_draw p2))])) _
    refine XS.istore X3.here hx rfl (hb hby at_16) rfl (l' := #[.val (.int p0), .val (.int p1), .val (.int p2), .val (.int p3), .val (.int (own_draw p0)), .val (.int (own_draw p1)), .val (.int (own_draw p2)), .unset, .unset, .unset, .unset, .unset]) rfl ?_
    show Steps p.tables e below (T3.setTop (mkF m 18 #[.val (.int p0), .val (.int p1), .val (.int p2), .val (.int p3), .val (.int (own_draw p0)), .val (.int (own_draw p1)), .val (.int (own_draw p2)), .unset, .unset, .unset, .unset, .unset] [])) _
    refine XS.iconst X3.here hx rfl (hb hby at_18) ?_
    show Steps p.tables e below (T3.setTop (mkF m 19 #[.val (.int p0), .val (.int p1), .val (.int p2), .val (.int p3), .val (.int (own_draw p0)), .val (.int (own_draw p1)), .val (.int (own_draw p2)), .unset, .unset, .unset, .unset, .unset] [(.int (3 : Int32))])) _
    exact k
  obtain ⟨T4, h4, k4, X4, e4, E4, A4, st4⟩ := newP X3 hx hZ (hw _ (List.mem_of_getElem? (i := 6) rfl)) e3 (g := (mkF m 19 #[.val (.int p0), .val (.int p1), .val (.int p2), .val (.int p3), .val (.int (own_draw p0)), .val (.int (own_draw p1)), .val (.int (own_draw p2)), .unset, .unset, .unset, .unset, .unset] [(.int (3 : Int32))])) rfl (hb hby at_19) rfl (by decide) (cap := 3) (by decide) (by decide) (by decide) (by decide)
  obtain ⟨b4, g4⟩ : ∃ z, z = h0.size := ⟨_, rfl⟩
  rw [← g4] at A4 st4
  have g_b4 : n0 ≤ b4 := Nat.le_trans Z0 (Nat.le_of_eq g4.symm)
  have sz_b4 : h0.size ≤ b4 := Nat.le_trans K.1 (Nat.le_of_eq g4.symm)
  have K := K.ext E4
  have Z0 := Nat.le_trans Z0 E4.1
  have O := O.ext E4
  have V_b4 : Arv Z h4 b4 k4 .double (3 : Int32) [(.double 0), (.double 0), (.double 0)] (.double 0) := (Arv.new A4 (by decide)).pad (pad_rep [] (.double 0) 3)
  refine own_go (B := T4.setTop (mkF m 21 #[.val (.int p0), .val (.int p1), .val (.int p2), .val (.int p3), .val (.int (own_draw p0)), .val (.int (own_draw p1)), .val (.int (own_draw p2)), .unset, .unset, .unset, .unset, .unset] [(.ref b4)])) st4 ?_
  refine own_go (B := T4.setTop (mkF m 28 #[.val (.int p0), .val (.int p1), .val (.int p2), .val (.int p3), .val (.int (own_draw p0)), .val (.int (own_draw p1)), .val (.int (own_draw p2)), .val (.ref b4), .unset, .unset, .unset, .unset] [(.int (own_draw p0)), (.int (0 : Int32)), (.ref b4)])) (fun t k => ?_) ?_
  · show Steps p.tables e below (T4.setTop (mkF m 21 #[.val (.int p0), .val (.int p1), .val (.int p2), .val (.int p3), .val (.int (own_draw p0)), .val (.int (own_draw p1)), .val (.int (own_draw p2)), .unset, .unset, .unset, .unset, .unset] [(.ref b4)])) _
    refine XS.astore X4.here hx rfl (hb hby at_21) rfl rfl (l' := #[.val (.int p0), .val (.int p1), .val (.int p2), .val (.int p3), .val (.int (own_draw p0)), .val (.int (own_draw p1)), .val (.int (own_draw p2)), .val (.ref b4), .unset, .unset, .unset, .unset]) rfl ?_
    show Steps p.tables e below (T4.setTop (mkF m 23 #[.val (.int p0), .val (.int p1), .val (.int p2), .val (.int p3), .val (.int (own_draw p0)), .val (.int (own_draw p1)), .val (.int (own_draw p2)), .val (.ref b4), .unset, .unset, .unset, .unset] [])) _
    refine XS.aload X4.here hx rfl (hb hby at_23) rfl rfl ?_
    show Steps p.tables e below (T4.setTop (mkF m 25 #[.val (.int p0), .val (.int p1), .val (.int p2), .val (.int p3), .val (.int (own_draw p0)), .val (.int (own_draw p1)), .val (.int (own_draw p2)), .val (.ref b4), .unset, .unset, .unset, .unset] [(.ref b4)])) _
    refine XS.iconst X4.here hx rfl (hb hby at_25) ?_
    show Steps p.tables e below (T4.setTop (mkF m 26 #[.val (.int p0), .val (.int p1), .val (.int p2), .val (.int p3), .val (.int (own_draw p0)), .val (.int (own_draw p1)), .val (.int (own_draw p2)), .val (.ref b4), .unset, .unset, .unset, .unset] [(.int (0 : Int32)), (.ref b4)])) _
    refine XS.iload X4.here hx rfl (hb hby at_26) rfl ?_
    show Steps p.tables e below (T4.setTop (mkF m 28 #[.val (.int p0), .val (.int p1), .val (.int p2), .val (.int p3), .val (.int (own_draw p0)), .val (.int (own_draw p1)), .val (.int (own_draw p2)), .val (.ref b4), .unset, .unset, .unset, .unset] [(.int (own_draw p0)), (.int (0 : Int32)), (.ref b4)])) _
    exact k
  obtain ⟨_, _, ⟨T5, L5, k5, n5⟩, -, X5, ⟨Lc5, hQ5, l5, y5, z5⟩, st5⟩ := Jvm.LawKit.callS X4 hx (y := (⟨"com/example/holdfast/holdfast/SolutionIsSetPinLaw", "value", "(I)D"⟩ : MethodName)) hown (mvT hZ (hw _ (List.mem_of_getElem? (i := 7) rfl))) (mvT hZ (hw _ (List.mem_of_getElem? (i := 8) rfl))) (mvT hZ (hw _ (List.mem_of_getElem? (i := 2) rfl))) (mvT hZ (hw _ (List.mem_of_getElem? (i := 9) rfl))) (by decide) (backOf (W := 2) (rm2 l Z a0 hw [] (own_draw p0) h4 n0 Z0) hZ (hw _ (List.mem_of_getElem? (i := 9) rfl)) (hw _ (List.mem_of_getElem? (i := 2) rfl)) (by decide) (by decide)) (g := (mkF m 28 #[.val (.int p0), .val (.int p1), .val (.int p2), .val (.int p3), .val (.int (own_draw p0)), .val (.int (own_draw p1)), .val (.int (own_draw p2)), .val (.ref b4), .unset, .unset, .unset, .unset] [(.int (own_draw p0)), (.int (0 : Int32)), (.ref b4)])) rfl (by rw [hml]; rfl) (argsL := [(.int (own_draw p0))]) (rest := [(.int (0 : Int32)), (.ref b4)]) (lenOf pd_2 rfl) rfl (by show 2 * 0 + _ ≤ _; exact Nat.le_of_eq rfl) (hb hby at_28) (fun _ _ => ⟨rfl, e4, Nat.le_of_ble_eq_true rfl, Nat.le_of_ble_eq_true rfl⟩)
  dsimp only [Pt.U, Pt.locs, Pt.cells, Pt.slots] at X5 l5 y5 z5 st5 hQ5
  subst l5 y5 z5
  obtain ⟨h5, e5⟩ : ∃ z, T5.heap = z := ⟨_, rfl⟩
  rw [e5] at hQ5
  obtain ⟨rfl, N5q, eq5⟩ := hQ5
  have N5 := Fr.app N3 N5q
  rw [eq5] at e5
  refine own_go (B := T5.setTop (mkF m 31 #[.val (.int p0), .val (.int p1), .val (.int p2), .val (.int p3), .val (.int (own_draw p0)), .val (.int (own_draw p1)), .val (.int (own_draw p2)), .val (.ref b4), .unset, .unset, .unset, .unset] [(.double (own_val (own_draw p0))), (.int (0 : Int32)), (.ref b4)])) st5 ?_
  obtain ⟨cl6, Ar6, qa6, Sa6, Na6, Ha6, Ga6⟩ := id V_b4
  have hin6 : ¬ ((0 : Int32) < 0 ∨ cl6.slots.size ≤ ((0 : Int32)).toNatClampNeg) := inb_of Sa6 ⟨by decide, by decide⟩
  obtain ⟨T7, h7, X7, e7, W7, st7⟩ := stD X5 hx hZ e5 Ar6 (j := (0 : Int32)) hin6 (g := (mkF m 31 #[.val (.int p0), .val (.int p1), .val (.int p2), .val (.int p3), .val (.int (own_draw p0)), .val (.int (own_draw p1)), .val (.int (own_draw p2)), .val (.ref b4), .unset, .unset, .unset, .unset] [(.double (own_val (own_draw p0))), (.int (0 : Int32)), (.ref b4)])) rfl rfl (hb hby at_31)
  have Z0 := Nat.le_trans Z0 (Nat.le_of_eq W7.size.symm)
  have O := O.wr W7 g_b4
  have V_b4 : Arv Z h7 b4 k4 .double (3 : Int32) [(.double (own_val (own_draw p0))), (.double 0), (.double 0)] (.double 0) := Arv.set Ar6 qa6 Sa6 Na6 Ha6 Ga6 rfl W7 0 rfl (Nat.le_of_ble_eq_true rfl)
  have K := K.wr W7 (Or.inr sz_b4)
  have N7 := Fr.snoc X7 N5 g_b4
  refine own_go (B := T7.setTop (mkF m 32 #[.val (.int p0), .val (.int p1), .val (.int p2), .val (.int p3), .val (.int (own_draw p0)), .val (.int (own_draw p1)), .val (.int (own_draw p2)), .val (.ref b4), .unset, .unset, .unset, .unset] [])) st7 ?_
  refine own_go (B := T7.setTop (mkF m 37 #[.val (.int p0), .val (.int p1), .val (.int p2), .val (.int p3), .val (.int (own_draw p0)), .val (.int (own_draw p1)), .val (.int (own_draw p2)), .val (.ref b4), .unset, .unset, .unset, .unset] [(.int (own_draw p1)), (.int (1 : Int32)), (.ref b4)])) (fun t k => ?_) ?_
  · show Steps p.tables e below (T7.setTop (mkF m 32 #[.val (.int p0), .val (.int p1), .val (.int p2), .val (.int p3), .val (.int (own_draw p0)), .val (.int (own_draw p1)), .val (.int (own_draw p2)), .val (.ref b4), .unset, .unset, .unset, .unset] [])) _
    refine XS.aload X7.here hx rfl (hb hby at_32) rfl rfl ?_
    show Steps p.tables e below (T7.setTop (mkF m 34 #[.val (.int p0), .val (.int p1), .val (.int p2), .val (.int p3), .val (.int (own_draw p0)), .val (.int (own_draw p1)), .val (.int (own_draw p2)), .val (.ref b4), .unset, .unset, .unset, .unset] [(.ref b4)])) _
    refine XS.iconst X7.here hx rfl (hb hby at_34) ?_
    show Steps p.tables e below (T7.setTop (mkF m 35 #[.val (.int p0), .val (.int p1), .val (.int p2), .val (.int p3), .val (.int (own_draw p0)), .val (.int (own_draw p1)), .val (.int (own_draw p2)), .val (.ref b4), .unset, .unset, .unset, .unset] [(.int (1 : Int32)), (.ref b4)])) _
    refine XS.iload X7.here hx rfl (hb hby at_35) rfl ?_
    show Steps p.tables e below (T7.setTop (mkF m 37 #[.val (.int p0), .val (.int p1), .val (.int p2), .val (.int p3), .val (.int (own_draw p0)), .val (.int (own_draw p1)), .val (.int (own_draw p2)), .val (.ref b4), .unset, .unset, .unset, .unset] [(.int (own_draw p1)), (.int (1 : Int32)), (.ref b4)])) _
    exact k
  obtain ⟨_, _, ⟨T8, L8, k8, n8⟩, -, X8, ⟨Lc8, hQ8, l8, y8, z8⟩, st8⟩ := Jvm.LawKit.callS X7 hx (y := (⟨"com/example/holdfast/holdfast/SolutionIsSetPinLaw", "value", "(I)D"⟩ : MethodName)) hown (mvT hZ (hw _ (List.mem_of_getElem? (i := 7) rfl))) (mvT hZ (hw _ (List.mem_of_getElem? (i := 8) rfl))) (mvT hZ (hw _ (List.mem_of_getElem? (i := 2) rfl))) (mvT hZ (hw _ (List.mem_of_getElem? (i := 9) rfl))) (by decide) (backOf (W := 2) (rm2 l Z a0 hw [] (own_draw p1) h7 n0 Z0) hZ (hw _ (List.mem_of_getElem? (i := 9) rfl)) (hw _ (List.mem_of_getElem? (i := 2) rfl)) (by decide) (by decide)) (g := (mkF m 37 #[.val (.int p0), .val (.int p1), .val (.int p2), .val (.int p3), .val (.int (own_draw p0)), .val (.int (own_draw p1)), .val (.int (own_draw p2)), .val (.ref b4), .unset, .unset, .unset, .unset] [(.int (own_draw p1)), (.int (1 : Int32)), (.ref b4)])) rfl (by rw [hml]; rfl) (argsL := [(.int (own_draw p1))]) (rest := [(.int (1 : Int32)), (.ref b4)]) (lenOf pd_2 rfl) rfl (by show 2 * 0 + _ ≤ _; exact Nat.le_of_eq rfl) (hb hby at_37) (fun _ _ => ⟨rfl, e7, Nat.le_of_ble_eq_true rfl, Nat.le_of_ble_eq_true rfl⟩)
  dsimp only [Pt.U, Pt.locs, Pt.cells, Pt.slots] at X8 l8 y8 z8 st8 hQ8
  subst l8 y8 z8
  obtain ⟨h8, e8⟩ : ∃ z, T8.heap = z := ⟨_, rfl⟩
  rw [e8] at hQ8
  obtain ⟨rfl, N8q, eq8⟩ := hQ8
  have N8 := Fr.app N7 N8q
  rw [eq8] at e8
  refine own_go (B := T8.setTop (mkF m 40 #[.val (.int p0), .val (.int p1), .val (.int p2), .val (.int p3), .val (.int (own_draw p0)), .val (.int (own_draw p1)), .val (.int (own_draw p2)), .val (.ref b4), .unset, .unset, .unset, .unset] [(.double (own_val (own_draw p1))), (.int (1 : Int32)), (.ref b4)])) st8 ?_
  obtain ⟨cl9, Ar9, qa9, Sa9, Na9, Ha9, Ga9⟩ := id V_b4
  have hin9 : ¬ ((1 : Int32) < 0 ∨ cl9.slots.size ≤ ((1 : Int32)).toNatClampNeg) := inb_of Sa9 ⟨by decide, by decide⟩
  obtain ⟨T10, h10, X10, e10, W10, st10⟩ := stD X8 hx hZ e8 Ar9 (j := (1 : Int32)) hin9 (g := (mkF m 40 #[.val (.int p0), .val (.int p1), .val (.int p2), .val (.int p3), .val (.int (own_draw p0)), .val (.int (own_draw p1)), .val (.int (own_draw p2)), .val (.ref b4), .unset, .unset, .unset, .unset] [(.double (own_val (own_draw p1))), (.int (1 : Int32)), (.ref b4)])) rfl rfl (hb hby at_40)
  have Z0 := Nat.le_trans Z0 (Nat.le_of_eq W10.size.symm)
  have O := O.wr W10 g_b4
  have V_b4 : Arv Z h10 b4 k4 .double (3 : Int32) [(.double (own_val (own_draw p0))), (.double (own_val (own_draw p1))), (.double 0)] (.double 0) := Arv.set Ar9 qa9 Sa9 Na9 Ha9 Ga9 rfl W10 1 rfl (Nat.le_of_ble_eq_true rfl)
  have K := K.wr W10 (Or.inr sz_b4)
  have N10 := Fr.snoc X10 N8 g_b4
  refine own_go (B := T10.setTop (mkF m 41 #[.val (.int p0), .val (.int p1), .val (.int p2), .val (.int p3), .val (.int (own_draw p0)), .val (.int (own_draw p1)), .val (.int (own_draw p2)), .val (.ref b4), .unset, .unset, .unset, .unset] [])) st10 ?_
  refine own_go (B := T10.setTop (mkF m 46 #[.val (.int p0), .val (.int p1), .val (.int p2), .val (.int p3), .val (.int (own_draw p0)), .val (.int (own_draw p1)), .val (.int (own_draw p2)), .val (.ref b4), .unset, .unset, .unset, .unset] [(.int (own_draw p2)), (.int (2 : Int32)), (.ref b4)])) (fun t k => ?_) ?_
  · show Steps p.tables e below (T10.setTop (mkF m 41 #[.val (.int p0), .val (.int p1), .val (.int p2), .val (.int p3), .val (.int (own_draw p0)), .val (.int (own_draw p1)), .val (.int (own_draw p2)), .val (.ref b4), .unset, .unset, .unset, .unset] [])) _
    refine XS.aload X10.here hx rfl (hb hby at_41) rfl rfl ?_
    show Steps p.tables e below (T10.setTop (mkF m 43 #[.val (.int p0), .val (.int p1), .val (.int p2), .val (.int p3), .val (.int (own_draw p0)), .val (.int (own_draw p1)), .val (.int (own_draw p2)), .val (.ref b4), .unset, .unset, .unset, .unset] [(.ref b4)])) _
    refine XS.iconst X10.here hx rfl (hb hby at_43) ?_
    show Steps p.tables e below (T10.setTop (mkF m 44 #[.val (.int p0), .val (.int p1), .val (.int p2), .val (.int p3), .val (.int (own_draw p0)), .val (.int (own_draw p1)), .val (.int (own_draw p2)), .val (.ref b4), .unset, .unset, .unset, .unset] [(.int (2 : Int32)), (.ref b4)])) _
    refine XS.iload X10.here hx rfl (hb hby at_44) rfl ?_
    show Steps p.tables e below (T10.setTop (mkF m 46 #[.val (.int p0), .val (.int p1), .val (.int p2), .val (.int p3), .val (.int (own_draw p0)), .val (.int (own_draw p1)), .val (.int (own_draw p2)), .val (.ref b4), .unset, .unset, .unset, .unset] [(.int (own_draw p2)), (.int (2 : Int32)), (.ref b4)])) _
    exact k
  obtain ⟨_, _, ⟨T11, L11, k11, n11⟩, -, X11, ⟨Lc11, hQ11, l11, y11, z11⟩, st11⟩ := Jvm.LawKit.callS X10 hx (y := (⟨"com/example/holdfast/holdfast/SolutionIsSetPinLaw", "value", "(I)D"⟩ : MethodName)) hown (mvT hZ (hw _ (List.mem_of_getElem? (i := 7) rfl))) (mvT hZ (hw _ (List.mem_of_getElem? (i := 8) rfl))) (mvT hZ (hw _ (List.mem_of_getElem? (i := 2) rfl))) (mvT hZ (hw _ (List.mem_of_getElem? (i := 9) rfl))) (by decide) (backOf (W := 2) (rm2 l Z a0 hw [] (own_draw p2) h10 n0 Z0) hZ (hw _ (List.mem_of_getElem? (i := 9) rfl)) (hw _ (List.mem_of_getElem? (i := 2) rfl)) (by decide) (by decide)) (g := (mkF m 46 #[.val (.int p0), .val (.int p1), .val (.int p2), .val (.int p3), .val (.int (own_draw p0)), .val (.int (own_draw p1)), .val (.int (own_draw p2)), .val (.ref b4), .unset, .unset, .unset, .unset] [(.int (own_draw p2)), (.int (2 : Int32)), (.ref b4)])) rfl (by rw [hml]; rfl) (argsL := [(.int (own_draw p2))]) (rest := [(.int (2 : Int32)), (.ref b4)]) (lenOf pd_2 rfl) rfl (by show 2 * 0 + _ ≤ _; exact Nat.le_of_eq rfl) (hb hby at_46) (fun _ _ => ⟨rfl, e10, Nat.le_of_ble_eq_true rfl, Nat.le_of_ble_eq_true rfl⟩)
  dsimp only [Pt.U, Pt.locs, Pt.cells, Pt.slots] at X11 l11 y11 z11 st11 hQ11
  subst l11 y11 z11
  obtain ⟨h11, e11⟩ : ∃ z, T11.heap = z := ⟨_, rfl⟩
  rw [e11] at hQ11
  obtain ⟨rfl, N11q, eq11⟩ := hQ11
  have N11 := Fr.app N10 N11q
  rw [eq11] at e11
  refine own_go (B := T11.setTop (mkF m 49 #[.val (.int p0), .val (.int p1), .val (.int p2), .val (.int p3), .val (.int (own_draw p0)), .val (.int (own_draw p1)), .val (.int (own_draw p2)), .val (.ref b4), .unset, .unset, .unset, .unset] [(.double (own_val (own_draw p2))), (.int (2 : Int32)), (.ref b4)])) st11 ?_
  obtain ⟨cl12, Ar12, qa12, Sa12, Na12, Ha12, Ga12⟩ := id V_b4
  have hin12 : ¬ ((2 : Int32) < 0 ∨ cl12.slots.size ≤ ((2 : Int32)).toNatClampNeg) := inb_of Sa12 ⟨by decide, by decide⟩
  obtain ⟨T13, h13, X13, e13, W13, st13⟩ := stD X11 hx hZ e11 Ar12 (j := (2 : Int32)) hin12 (g := (mkF m 49 #[.val (.int p0), .val (.int p1), .val (.int p2), .val (.int p3), .val (.int (own_draw p0)), .val (.int (own_draw p1)), .val (.int (own_draw p2)), .val (.ref b4), .unset, .unset, .unset, .unset] [(.double (own_val (own_draw p2))), (.int (2 : Int32)), (.ref b4)])) rfl rfl (hb hby at_49)
  have Z0 := Nat.le_trans Z0 (Nat.le_of_eq W13.size.symm)
  have O := O.wr W13 g_b4
  have V_b4 : Arv Z h13 b4 k4 .double (3 : Int32) [(.double (own_val (own_draw p0))), (.double (own_val (own_draw p1))), (.double (own_val (own_draw p2)))] (.double 0) := Arv.set Ar12 qa12 Sa12 Na12 Ha12 Ga12 rfl W13 2 rfl (Nat.le_of_ble_eq_true rfl)
  have K := K.wr W13 (Or.inr sz_b4)
  have N13 := Fr.snoc X13 N11 g_b4
  refine own_go (B := T13.setTop (mkF m 50 #[.val (.int p0), .val (.int p1), .val (.int p2), .val (.int p3), .val (.int (own_draw p0)), .val (.int (own_draw p1)), .val (.int (own_draw p2)), .val (.ref b4), .unset, .unset, .unset, .unset] [])) st13 ?_
  obtain ⟨T14, h14, X14, e14, E14, A14, D14, U14, st14⟩ := newO X13 hx hZ hown (hw _ (List.mem_of_getElem? (i := 11) rfl)) (hw _ (List.mem_of_getElem? (i := 12) rfl)) (hw _ (List.mem_of_getElem? (i := 13) rfl)) e13 (g := (mkF m 50 #[.val (.int p0), .val (.int p1), .val (.int p2), .val (.int p3), .val (.int (own_draw p0)), .val (.int (own_draw p1)), .val (.int (own_draw p2)), .val (.ref b4), .unset, .unset, .unset, .unset] [])) rfl (hb hby at_50) (by decide) (by decide)
  obtain ⟨b14, g14⟩ : ∃ z, z = h13.size := ⟨_, rfl⟩
  rw [← g14] at A14 D14 U14 st14
  have ne_b4_b14 : b4 ≠ b14 := Nat.ne_of_lt (Nat.lt_of_lt_of_le V_b4.lt (Nat.le_of_eq g14.symm))
  have g_b14 : n0 ≤ b14 := Nat.le_trans Z0 (Nat.le_of_eq g14.symm)
  have sz_b14 : h0.size ≤ b14 := Nat.le_trans K.1 (Nat.le_of_eq g14.symm)
  have V_b4 := V_b4.ext E14
  have K := K.ext E14
  have Z0 := Nat.le_trans Z0 E14.1
  have O := O.ext E14
  have E_b14 := A14
  have F_status_b14 : Fld Z h14 b14 "com/example/holdfast/holdfast/Mip$Solution" "status" "Lcom/example/holdfast/holdfast/Mip$Status;" .null := D14 (Or.inr (hw _ (List.mem_of_getElem? (i := 32) rfl))) (ty := (.object "com/example/holdfast/holdfast/Mip$Status")) (by decide)
  have F_values_b14 : Fld Z h14 b14 "com/example/holdfast/holdfast/Mip$Solution" "values" "[D" .null := D14 (Or.inr (hw _ (List.mem_of_getElem? (i := 34) rfl))) (ty := (.array .double)) (by decide)
  refine own_go (B := T14.setTop (mkF m 53 #[.val (.int p0), .val (.int p1), .val (.int p2), .val (.int p3), .val (.int (own_draw p0)), .val (.int (own_draw p1)), .val (.int (own_draw p2)), .val (.ref b4), .unset, .unset, .unset, .unset] [(.ref b14)])) st14 ?_
  refine own_go (B := T14.setTop (mkF m 55 #[.val (.int p0), .val (.int p1), .val (.int p2), .val (.int p3), .val (.int (own_draw p0)), .val (.int (own_draw p1)), .val (.int (own_draw p2)), .val (.ref b4), .unset, .unset, .unset, .unset] [(.int p3), (.ref b14), (.ref b14)])) (fun t k => ?_) ?_
  · show Steps p.tables e below (T14.setTop (mkF m 53 #[.val (.int p0), .val (.int p1), .val (.int p2), .val (.int p3), .val (.int (own_draw p0)), .val (.int (own_draw p1)), .val (.int (own_draw p2)), .val (.ref b4), .unset, .unset, .unset, .unset] [(.ref b14)])) _
    refine XS.dup X14.here hx rfl (hb hby at_53) rfl rfl ?_
    show Steps p.tables e below (T14.setTop (mkF m 54 #[.val (.int p0), .val (.int p1), .val (.int p2), .val (.int p3), .val (.int (own_draw p0)), .val (.int (own_draw p1)), .val (.int (own_draw p2)), .val (.ref b4), .unset, .unset, .unset, .unset] [(.ref b14), (.ref b14)])) _
    refine XS.iloadN X14.here hx rfl (hb hby at_54) rfl ?_
    show Steps p.tables e below (T14.setTop (mkF m 55 #[.val (.int p0), .val (.int p1), .val (.int p2), .val (.int p3), .val (.int (own_draw p0)), .val (.int (own_draw p1)), .val (.int (own_draw p2)), .val (.ref b4), .unset, .unset, .unset, .unset] [(.int p3), (.ref b14), (.ref b14)])) _
    exact k
  obtain ⟨_, _, ⟨T15, L15, k15, n15⟩, -, X15, ⟨Lc15, hQ15, l15, y15, z15⟩, st15⟩ := Jvm.LawKit.callS X14 hx (y := (⟨"com/example/holdfast/holdfast/SolutionIsSetPinLaw", "status", "(I)Lcom/example/holdfast/holdfast/Mip$Status;"⟩ : MethodName)) hown (mvT hZ (hw _ (List.mem_of_getElem? (i := 14) rfl))) (mvT hZ (hw _ (List.mem_of_getElem? (i := 15) rfl))) (mvT hZ (hw _ (List.mem_of_getElem? (i := 2) rfl))) (mvT hZ (hw _ (List.mem_of_getElem? (i := 16) rfl))) (by decide) (backOf (W := 2) (rm3 l Z a0 hw [] p3 w_OPTIMAL w_FEASIBLE h14 n0 Z0 S_OPTIMAL S_FEASIBLE O) hZ (hw _ (List.mem_of_getElem? (i := 16) rfl)) (hw _ (List.mem_of_getElem? (i := 2) rfl)) (by decide) (by decide)) (g := (mkF m 55 #[.val (.int p0), .val (.int p1), .val (.int p2), .val (.int p3), .val (.int (own_draw p0)), .val (.int (own_draw p1)), .val (.int (own_draw p2)), .val (.ref b4), .unset, .unset, .unset, .unset] [(.int p3), (.ref b14), (.ref b14)])) rfl (by rw [hml]; rfl) (argsL := [(.int p3)]) (rest := [(.ref b14), (.ref b14)]) (lenOf pd_3 rfl) rfl (by show 2 * 0 + _ ≤ _; exact Nat.le_of_eq rfl) (hb hby at_55) (fun _ _ => ⟨rfl, e14, Nat.le_of_ble_eq_true rfl, Nat.le_of_ble_eq_true rfl⟩)
  dsimp only [Pt.U, Pt.locs, Pt.cells, Pt.slots] at X15 l15 y15 z15 st15 hQ15
  subst l15 y15 z15
  obtain ⟨h15, e15⟩ : ∃ z, T15.heap = z := ⟨_, rfl⟩
  rw [e15] at hQ15
  obtain ⟨sv15, rfl, N15q, eq15⟩ := hQ15
  have N15 := Fr.app N13 N15q
  rw [eq15] at e15
  refine own_go (B := T15.setTop (mkF m 58 #[.val (.int p0), .val (.int p1), .val (.int p2), .val (.int p3), .val (.int (own_draw p0)), .val (.int (own_draw p1)), .val (.int (own_draw p2)), .val (.ref b4), .unset, .unset, .unset, .unset] [(.ref sv15), (.ref b14), (.ref b14)])) st15 ?_
  refine own_go (B := T15.setTop (mkF m 60 #[.val (.int p0), .val (.int p1), .val (.int p2), .val (.int p3), .val (.int (own_draw p0)), .val (.int (own_draw p1)), .val (.int (own_draw p2)), .val (.ref b4), .unset, .unset, .unset, .unset] [(.ref b4), (.ref sv15), (.ref b14), (.ref b14)])) (fun t k => ?_) ?_
  · show Steps p.tables e below (T15.setTop (mkF m 58 #[.val (.int p0), .val (.int p1), .val (.int p2), .val (.int p3), .val (.int (own_draw p0)), .val (.int (own_draw p1)), .val (.int (own_draw p2)), .val (.ref b4), .unset, .unset, .unset, .unset] [(.ref sv15), (.ref b14), (.ref b14)])) _
    refine XS.aload X15.here hx rfl (hb hby at_58) rfl rfl ?_
    show Steps p.tables e below (T15.setTop (mkF m 60 #[.val (.int p0), .val (.int p1), .val (.int p2), .val (.int p3), .val (.int (own_draw p0)), .val (.int (own_draw p1)), .val (.int (own_draw p2)), .val (.ref b4), .unset, .unset, .unset, .unset] [(.ref b4), (.ref sv15), (.ref b14), (.ref b14)])) _
    exact k
  obtain ⟨_, _, ⟨T16, L16, k16, n16⟩, -, X16, ⟨Lc16, hQ16, l16, y16, z16⟩, st16⟩ := X15.specialBack hx (y := (⟨"com/example/holdfast/holdfast/Mip$Solution", "<init>", "(Lcom/example/holdfast/holdfast/Mip$Status;[D)V"⟩ : MethodName)) rfl hown (mvT hZ (hw _ (List.mem_of_getElem? (i := 20) rfl))) (mvT hZ (hw _ (List.mem_of_getElem? (i := 21) rfl))) (mvT hZ (hw _ (List.mem_of_getElem? (i := 22) rfl))) (by decide) (backOf (W := 1) (rm4 l Z a0 hw [] b14 sv15 b4 h14 n0 Z0 F_status_b14 F_values_b14 E_b14 g_b14) hZ (hw _ (List.mem_of_getElem? (i := 22) rfl)) (hw _ (List.mem_of_getElem? (i := 13) rfl)) (by decide) (by decide)) (g := (mkF m 60 #[.val (.int p0), .val (.int p1), .val (.int p2), .val (.int p3), .val (.int (own_draw p0)), .val (.int (own_draw p1)), .val (.int (own_draw p2)), .val (.ref b4), .unset, .unset, .unset, .unset] [(.ref b4), (.ref sv15), (.ref b14), (.ref b14)])) rfl (by rw [hml]; rfl) (Steps.refl _) (a := b14) (argsL := [(.ref sv15), (.ref b4)]) (rest := [(.ref b14)]) (lenOf pd_4 rfl) rfl (by show 2 * 0 + _ ≤ _; exact Nat.le_of_eq rfl) (hb hby at_60) (fun _ _ => ⟨rfl, e15, Nat.le_of_ble_eq_true rfl, Nat.le_of_ble_eq_true rfl⟩)
  dsimp only [Pt.U, Pt.locs, Pt.cells, Pt.slots] at X16 l16 y16 z16 st16 hQ16
  subst l16 y16 z16
  obtain ⟨h16, e16⟩ : ∃ z, T16.heap = z := ⟨_, rfl⟩
  rw [e16] at hQ16
  obtain ⟨rfl, N16q, Kc16, Ec16, Fc16⟩ := hQ16
  have N16 := Fr.app N15 N16q
  have V_b4 := V_b4.keep Kc16 (ninS ne_b4_b14 nin0)
  have E_b14 := E_b14.keep Kc16
  have K := K.trans Kc16 (allS (Or.inr sz_b14) all0)
  have Z0 := Nat.le_trans Z0 Kc16.1
  have O := O.keep Kc16 (allS g_b14 all0)
  have E_b14 := Ec16
  have F_values_b14 := Fc16
  refine own_go (B := T16.setTop (mkF m 63 #[.val (.int p0), .val (.int p1), .val (.int p2), .val (.int p3), .val (.int (own_draw p0)), .val (.int (own_draw p1)), .val (.int (own_draw p2)), .val (.ref b4), .unset, .unset, .unset, .unset] [(.ref b14)])) (fun t k => st16.trans k) ?_
  refine own_go (B := T16.setTop (mkF m 68 #[.val (.int p0), .val (.int p1), .val (.int p2), .val (.int p3), .val (.int (own_draw p0)), .val (.int (own_draw p1)), .val (.int (own_draw p2)), .val (.ref b4), .val (.ref b14), .unset, .unset, .unset] [(.int (0 : Int32)), (.ref b14)])) (fun t k => ?_) ?_
  · show Steps p.tables e below (T16.setTop (mkF m 63 #[.val (.int p0), .val (.int p1), .val (.int p2), .val (.int p3), .val (.int (own_draw p0)), .val (.int (own_draw p1)), .val (.int (own_draw p2)), .val (.ref b4), .unset, .unset, .unset, .unset] [(.ref b14)])) _
    refine XS.astore X16.here hx rfl (hb hby at_63) rfl rfl (l' := #[.val (.int p0), .val (.int p1), .val (.int p2), .val (.int p3), .val (.int (own_draw p0)), .val (.int (own_draw p1)), .val (.int (own_draw p2)), .val (.ref b4), .val (.ref b14), .unset, .unset, .unset]) rfl ?_
    show Steps p.tables e below (T16.setTop (mkF m 65 #[.val (.int p0), .val (.int p1), .val (.int p2), .val (.int p3), .val (.int (own_draw p0)), .val (.int (own_draw p1)), .val (.int (own_draw p2)), .val (.ref b4), .val (.ref b14), .unset, .unset, .unset] [])) _
    refine XS.aload X16.here hx rfl (hb hby at_65) rfl rfl ?_
    show Steps p.tables e below (T16.setTop (mkF m 67 #[.val (.int p0), .val (.int p1), .val (.int p2), .val (.int p3), .val (.int (own_draw p0)), .val (.int (own_draw p1)), .val (.int (own_draw p2)), .val (.ref b4), .val (.ref b14), .unset, .unset, .unset] [(.ref b14)])) _
    refine XS.iconst X16.here hx rfl (hb hby at_67) ?_
    show Steps p.tables e below (T16.setTop (mkF m 68 #[.val (.int p0), .val (.int p1), .val (.int p2), .val (.int p3), .val (.int (own_draw p0)), .val (.int (own_draw p1)), .val (.int (own_draw p2)), .val (.ref b4), .val (.ref b14), .unset, .unset, .unset] [(.int (0 : Int32)), (.ref b14)])) _
    exact k
  obtain ⟨cq17, kq17, q17a, q17b, q17c⟩ := isOf hZ e16 E_b14
  obtain ⟨_, _, ⟨T18, L18, k18, n18⟩, -, X18, ⟨Lc18, hQ18, l18, y18, z18⟩, st18⟩ := X16.virtualBack hx (y := (⟨"com/example/holdfast/holdfast/Mip$Solution", "isSet", "(I)Z"⟩ : MethodName)) (z := (⟨"com/example/holdfast/holdfast/Mip$Solution", "isSet", "(I)Z"⟩ : MethodName)) hown (mvT hZ (hw _ (List.mem_of_getElem? (i := 35) rfl))) (mvT hZ (hw _ (List.mem_of_getElem? (i := 36) rfl))) (notFace_of_selects (args := #[]) (mvT hZ (hw _ (List.mem_of_getElem? (i := 38) rfl)))) (mvT hZ (hw _ (List.mem_of_getElem? (i := 38) rfl))) (mvT hZ (hw _ (List.mem_of_getElem? (i := 37) rfl))) (by decide) (backOf (W := 0) (rm7_0 l Z a0 hw [] b14 b4 k4 (own_val (own_draw p0)) (own_val (own_draw p1)) (own_val (own_draw p2)) h16 n0 Z0 F_values_b14 V_b4) hZ (hw _ (List.mem_of_getElem? (i := 39) rfl)) (hw _ (List.mem_of_getElem? (i := 13) rfl)) (by decide) (by decide)) q17a q17c (g := (mkF m 68 #[.val (.int p0), .val (.int p1), .val (.int p2), .val (.int p3), .val (.int (own_draw p0)), .val (.int (own_draw p1)), .val (.int (own_draw p2)), .val (.ref b4), .val (.ref b14), .unset, .unset, .unset] [(.int (0 : Int32)), (.ref b14)])) rfl (by rw [hml]; rfl) (Steps.refl _) (argsL := [(.int (0 : Int32))]) (rest := []) (lenOf pd_5 rfl) rfl (by show 2 * 0 + _ ≤ _; exact Nat.le_of_eq rfl) (hb hby at_68) (fun _ _ => ⟨rfl, e16, Nat.le_of_ble_eq_true rfl, Nat.le_of_ble_eq_true rfl⟩)
  dsimp only [Pt.U, Pt.locs, Pt.cells, Pt.slots] at X18 l18 y18 z18 st18 hQ18
  subst l18 y18 z18
  obtain ⟨h18, e18⟩ : ∃ z, T18.heap = z := ⟨_, rfl⟩
  rw [e18] at hQ18
  obtain ⟨rfl, N18q, eq18⟩ := hQ18
  have N18 := Fr.app N16 N18q
  rw [eq18] at e18
  refine own_go (B := T18.setTop (mkF m 71 #[.val (.int p0), .val (.int p1), .val (.int p2), .val (.int p3), .val (.int (own_draw p0)), .val (.int (own_draw p1)), .val (.int (own_draw p2)), .val (.ref b4), .val (.ref b14), .unset, .unset, .unset] [(.int (own_set (own_val (own_draw p0))))])) (fun t k => st18.trans k) ?_
  refine own_go (B := T18.setTop (mkF m 75 #[.val (.int p0), .val (.int p1), .val (.int p2), .val (.int p3), .val (.int (own_draw p0)), .val (.int (own_draw p1)), .val (.int (own_draw p2)), .val (.ref b4), .val (.ref b14), .unset, .unset, .unset] [(.int (32768 : Int32)), (.int (own_draw p0)), (.int (own_set (own_val (own_draw p0))))])) (fun t k => ?_) ?_
  · show Steps p.tables e below (T18.setTop (mkF m 71 #[.val (.int p0), .val (.int p1), .val (.int p2), .val (.int p3), .val (.int (own_draw p0)), .val (.int (own_draw p1)), .val (.int (own_draw p2)), .val (.ref b4), .val (.ref b14), .unset, .unset, .unset] [(.int (own_set (own_val (own_draw p0))))])) _
    refine XS.iload X18.here hx rfl (hb hby at_71) rfl ?_
    show Steps p.tables e below (T18.setTop (mkF m 73 #[.val (.int p0), .val (.int p1), .val (.int p2), .val (.int p3), .val (.int (own_draw p0)), .val (.int (own_draw p1)), .val (.int (own_draw p2)), .val (.ref b4), .val (.ref b14), .unset, .unset, .unset] [(.int (own_draw p0)), (.int (own_set (own_val (own_draw p0))))])) _
    refine X18.ldcI hx hown (mvT hZ (hw _ (List.mem_of_getElem? (i := 41) rfl))) (g := (mkF m 73 #[.val (.int p0), .val (.int p1), .val (.int p2), .val (.int p3), .val (.int (own_draw p0)), .val (.int (own_draw p1)), .val (.int (own_draw p2)), .val (.ref b4), .val (.ref b14), .unset, .unset, .unset] [(.int (own_draw p0)), (.int (own_set (own_val (own_draw p0))))])) rfl (hb hby at_73) ?_
    show Steps p.tables e below (T18.setTop (mkF m 75 #[.val (.int p0), .val (.int p1), .val (.int p2), .val (.int p3), .val (.int (own_draw p0)), .val (.int (own_draw p1)), .val (.int (own_draw p2)), .val (.ref b4), .val (.ref b14), .unset, .unset, .unset] [(.int (32768 : Int32)), (.int (own_draw p0)), (.int (own_set (own_val (own_draw p0))))])) _
    exact k
  by_cases hc75 : (32768 : Int32) < (own_draw p0)
  · refine own_go (B := T18.setTop (mkF m 96 #[.val (.int p0), .val (.int p1), .val (.int p2), .val (.int p3), .val (.int (own_draw p0)), .val (.int (own_draw p1)), .val (.int (own_draw p2)), .val (.ref b4), .val (.ref b14), .val (.int (1 : Int32)), .unset, .unset] [(.int (1 : Int32)), (.ref b14)])) (fun t k => ?_) ?_
    · show Steps p.tables e below (T18.setTop (mkF m 75 #[.val (.int p0), .val (.int p1), .val (.int p2), .val (.int p3), .val (.int (own_draw p0)), .val (.int (own_draw p1)), .val (.int (own_draw p2)), .val (.ref b4), .val (.ref b14), .unset, .unset, .unset] [(.int (32768 : Int32)), (.int (own_draw p0)), (.int (own_set (own_val (own_draw p0))))])) _
      refine XS.icmpNo X18.here hx rfl (hb hby at_75) rfl (tlt hc75).2.2.2 ?_
      show Steps p.tables e below (T18.setTop (mkF m 78 #[.val (.int p0), .val (.int p1), .val (.int p2), .val (.int p3), .val (.int (own_draw p0)), .val (.int (own_draw p1)), .val (.int (own_draw p2)), .val (.ref b4), .val (.ref b14), .unset, .unset, .unset] [(.int (own_set (own_val (own_draw p0))))])) _
      refine XS.iconst X18.here hx rfl (hb hby at_78) ?_
      show Steps p.tables e below (T18.setTop (mkF m 79 #[.val (.int p0), .val (.int p1), .val (.int p2), .val (.int p3), .val (.int (own_draw p0)), .val (.int (own_draw p1)), .val (.int (own_draw p2)), .val (.ref b4), .val (.ref b14), .unset, .unset, .unset] [(.int (1 : Int32)), (.int (own_set (own_val (own_draw p0))))])) _
      refine XS.goto X18.here hx rfl (pc0 := 79) (pc' := 83) rfl (hb hby at_79) (by decide) (by decide) ?_
      show Steps p.tables e below (T18.setTop (mkF m 83 #[.val (.int p0), .val (.int p1), .val (.int p2), .val (.int p3), .val (.int (own_draw p0)), .val (.int (own_draw p1)), .val (.int (own_draw p2)), .val (.ref b4), .val (.ref b14), .unset, .unset, .unset] [(.int (1 : Int32)), (.int (own_set (own_val (own_draw p0))))])) _
      refine XS.icmpNo X18.here hx rfl (hb hby at_83) rfl (teq (by rw [own_isset]; simp [hc75] : (own_set (own_val (own_draw p0))) = (1 : Int32))).2 ?_
      show Steps p.tables e below (T18.setTop (mkF m 86 #[.val (.int p0), .val (.int p1), .val (.int p2), .val (.int p3), .val (.int (own_draw p0)), .val (.int (own_draw p1)), .val (.int (own_draw p2)), .val (.ref b4), .val (.ref b14), .unset, .unset, .unset] [])) _
      refine XS.iconst X18.here hx rfl (hb hby at_86) ?_
      show Steps p.tables e below (T18.setTop (mkF m 87 #[.val (.int p0), .val (.int p1), .val (.int p2), .val (.int p3), .val (.int (own_draw p0)), .val (.int (own_draw p1)), .val (.int (own_draw p2)), .val (.ref b4), .val (.ref b14), .unset, .unset, .unset] [(.int (1 : Int32))])) _
      refine XS.goto X18.here hx rfl (pc0 := 87) (pc' := 91) rfl (hb hby at_87) (by decide) (by decide) ?_
      show Steps p.tables e below (T18.setTop (mkF m 91 #[.val (.int p0), .val (.int p1), .val (.int p2), .val (.int p3), .val (.int (own_draw p0)), .val (.int (own_draw p1)), .val (.int (own_draw p2)), .val (.ref b4), .val (.ref b14), .unset, .unset, .unset] [(.int (1 : Int32))])) _
      refine XS.istore X18.here hx rfl (hb hby at_91) rfl (l' := #[.val (.int p0), .val (.int p1), .val (.int p2), .val (.int p3), .val (.int (own_draw p0)), .val (.int (own_draw p1)), .val (.int (own_draw p2)), .val (.ref b4), .val (.ref b14), .val (.int (1 : Int32)), .unset, .unset]) rfl ?_
      show Steps p.tables e below (T18.setTop (mkF m 93 #[.val (.int p0), .val (.int p1), .val (.int p2), .val (.int p3), .val (.int (own_draw p0)), .val (.int (own_draw p1)), .val (.int (own_draw p2)), .val (.ref b4), .val (.ref b14), .val (.int (1 : Int32)), .unset, .unset] [])) _
      refine XS.aload X18.here hx rfl (hb hby at_93) rfl rfl ?_
      show Steps p.tables e below (T18.setTop (mkF m 95 #[.val (.int p0), .val (.int p1), .val (.int p2), .val (.int p3), .val (.int (own_draw p0)), .val (.int (own_draw p1)), .val (.int (own_draw p2)), .val (.ref b4), .val (.ref b14), .val (.int (1 : Int32)), .unset, .unset] [(.ref b14)])) _
      refine XS.iconst X18.here hx rfl (hb hby at_95) ?_
      show Steps p.tables e below (T18.setTop (mkF m 96 #[.val (.int p0), .val (.int p1), .val (.int p2), .val (.int p3), .val (.int (own_draw p0)), .val (.int (own_draw p1)), .val (.int (own_draw p2)), .val (.ref b4), .val (.ref b14), .val (.int (1 : Int32)), .unset, .unset] [(.int (1 : Int32)), (.ref b14)])) _
      exact k
    obtain ⟨cq19, kq19, q19a, q19b, q19c⟩ := isOf hZ e18 E_b14
    obtain ⟨_, _, ⟨T20, L20, k20, n20⟩, -, X20, ⟨Lc20, hQ20, l20, y20, z20⟩, st20⟩ := X18.virtualBack hx (y := (⟨"com/example/holdfast/holdfast/Mip$Solution", "isSet", "(I)Z"⟩ : MethodName)) (z := (⟨"com/example/holdfast/holdfast/Mip$Solution", "isSet", "(I)Z"⟩ : MethodName)) hown (mvT hZ (hw _ (List.mem_of_getElem? (i := 35) rfl))) (mvT hZ (hw _ (List.mem_of_getElem? (i := 36) rfl))) (notFace_of_selects (args := #[]) (mvT hZ (hw _ (List.mem_of_getElem? (i := 38) rfl)))) (mvT hZ (hw _ (List.mem_of_getElem? (i := 38) rfl))) (mvT hZ (hw _ (List.mem_of_getElem? (i := 37) rfl))) (by decide) (backOf (W := 0) (rm7_1 l Z a0 hw [] b14 b4 k4 (own_val (own_draw p0)) (own_val (own_draw p1)) (own_val (own_draw p2)) h16 n0 Z0 F_values_b14 V_b4) hZ (hw _ (List.mem_of_getElem? (i := 39) rfl)) (hw _ (List.mem_of_getElem? (i := 13) rfl)) (by decide) (by decide)) q19a q19c (g := (mkF m 96 #[.val (.int p0), .val (.int p1), .val (.int p2), .val (.int p3), .val (.int (own_draw p0)), .val (.int (own_draw p1)), .val (.int (own_draw p2)), .val (.ref b4), .val (.ref b14), .val (.int (1 : Int32)), .unset, .unset] [(.int (1 : Int32)), (.ref b14)])) rfl (by rw [hml]; rfl) (Steps.refl _) (argsL := [(.int (1 : Int32))]) (rest := []) (lenOf pd_5 rfl) rfl (by show 2 * 0 + _ ≤ _; exact Nat.le_of_eq rfl) (hb hby at_96) (fun _ _ => ⟨rfl, e18, Nat.le_of_ble_eq_true rfl, Nat.le_of_ble_eq_true rfl⟩)
    dsimp only [Pt.U, Pt.locs, Pt.cells, Pt.slots] at X20 l20 y20 z20 st20 hQ20
    subst l20 y20 z20
    obtain ⟨h20, e20⟩ : ∃ z, T20.heap = z := ⟨_, rfl⟩
    rw [e20] at hQ20
    obtain ⟨rfl, N20q, eq20⟩ := hQ20
    have N20 := Fr.app N18 N20q
    rw [eq20] at e20
    refine own_go (B := T20.setTop (mkF m 99 #[.val (.int p0), .val (.int p1), .val (.int p2), .val (.int p3), .val (.int (own_draw p0)), .val (.int (own_draw p1)), .val (.int (own_draw p2)), .val (.ref b4), .val (.ref b14), .val (.int (1 : Int32)), .unset, .unset] [(.int (own_set (own_val (own_draw p1))))])) (fun t k => st20.trans k) ?_
    refine own_go (B := T20.setTop (mkF m 103 #[.val (.int p0), .val (.int p1), .val (.int p2), .val (.int p3), .val (.int (own_draw p0)), .val (.int (own_draw p1)), .val (.int (own_draw p2)), .val (.ref b4), .val (.ref b14), .val (.int (1 : Int32)), .unset, .unset] [(.int (32768 : Int32)), (.int (own_draw p1)), (.int (own_set (own_val (own_draw p1))))])) (fun t k => ?_) ?_
    · show Steps p.tables e below (T20.setTop (mkF m 99 #[.val (.int p0), .val (.int p1), .val (.int p2), .val (.int p3), .val (.int (own_draw p0)), .val (.int (own_draw p1)), .val (.int (own_draw p2)), .val (.ref b4), .val (.ref b14), .val (.int (1 : Int32)), .unset, .unset] [(.int (own_set (own_val (own_draw p1))))])) _
      refine XS.iload X20.here hx rfl (hb hby at_99) rfl ?_
      show Steps p.tables e below (T20.setTop (mkF m 101 #[.val (.int p0), .val (.int p1), .val (.int p2), .val (.int p3), .val (.int (own_draw p0)), .val (.int (own_draw p1)), .val (.int (own_draw p2)), .val (.ref b4), .val (.ref b14), .val (.int (1 : Int32)), .unset, .unset] [(.int (own_draw p1)), (.int (own_set (own_val (own_draw p1))))])) _
      refine X20.ldcI hx hown (mvT hZ (hw _ (List.mem_of_getElem? (i := 41) rfl))) (g := (mkF m 101 #[.val (.int p0), .val (.int p1), .val (.int p2), .val (.int p3), .val (.int (own_draw p0)), .val (.int (own_draw p1)), .val (.int (own_draw p2)), .val (.ref b4), .val (.ref b14), .val (.int (1 : Int32)), .unset, .unset] [(.int (own_draw p1)), (.int (own_set (own_val (own_draw p1))))])) rfl (hb hby at_101) ?_
      show Steps p.tables e below (T20.setTop (mkF m 103 #[.val (.int p0), .val (.int p1), .val (.int p2), .val (.int p3), .val (.int (own_draw p0)), .val (.int (own_draw p1)), .val (.int (own_draw p2)), .val (.ref b4), .val (.ref b14), .val (.int (1 : Int32)), .unset, .unset] [(.int (32768 : Int32)), (.int (own_draw p1)), (.int (own_set (own_val (own_draw p1))))])) _
      exact k
    by_cases hc103 : (32768 : Int32) < (own_draw p1)
    · refine own_go (B := T20.setTop (mkF m 124 #[.val (.int p0), .val (.int p1), .val (.int p2), .val (.int p3), .val (.int (own_draw p0)), .val (.int (own_draw p1)), .val (.int (own_draw p2)), .val (.ref b4), .val (.ref b14), .val (.int (1 : Int32)), .val (.int (1 : Int32)), .unset] [(.int (2 : Int32)), (.ref b14)])) (fun t k => ?_) ?_
      · show Steps p.tables e below (T20.setTop (mkF m 103 #[.val (.int p0), .val (.int p1), .val (.int p2), .val (.int p3), .val (.int (own_draw p0)), .val (.int (own_draw p1)), .val (.int (own_draw p2)), .val (.ref b4), .val (.ref b14), .val (.int (1 : Int32)), .unset, .unset] [(.int (32768 : Int32)), (.int (own_draw p1)), (.int (own_set (own_val (own_draw p1))))])) _
        refine XS.icmpNo X20.here hx rfl (hb hby at_103) rfl (tlt hc103).2.2.2 ?_
        show Steps p.tables e below (T20.setTop (mkF m 106 #[.val (.int p0), .val (.int p1), .val (.int p2), .val (.int p3), .val (.int (own_draw p0)), .val (.int (own_draw p1)), .val (.int (own_draw p2)), .val (.ref b4), .val (.ref b14), .val (.int (1 : Int32)), .unset, .unset] [(.int (own_set (own_val (own_draw p1))))])) _
        refine XS.iconst X20.here hx rfl (hb hby at_106) ?_
        show Steps p.tables e below (T20.setTop (mkF m 107 #[.val (.int p0), .val (.int p1), .val (.int p2), .val (.int p3), .val (.int (own_draw p0)), .val (.int (own_draw p1)), .val (.int (own_draw p2)), .val (.ref b4), .val (.ref b14), .val (.int (1 : Int32)), .unset, .unset] [(.int (1 : Int32)), (.int (own_set (own_val (own_draw p1))))])) _
        refine XS.goto X20.here hx rfl (pc0 := 107) (pc' := 111) rfl (hb hby at_107) (by decide) (by decide) ?_
        show Steps p.tables e below (T20.setTop (mkF m 111 #[.val (.int p0), .val (.int p1), .val (.int p2), .val (.int p3), .val (.int (own_draw p0)), .val (.int (own_draw p1)), .val (.int (own_draw p2)), .val (.ref b4), .val (.ref b14), .val (.int (1 : Int32)), .unset, .unset] [(.int (1 : Int32)), (.int (own_set (own_val (own_draw p1))))])) _
        refine XS.icmpNo X20.here hx rfl (hb hby at_111) rfl (teq (by rw [own_isset]; simp [hc103] : (own_set (own_val (own_draw p1))) = (1 : Int32))).2 ?_
        show Steps p.tables e below (T20.setTop (mkF m 114 #[.val (.int p0), .val (.int p1), .val (.int p2), .val (.int p3), .val (.int (own_draw p0)), .val (.int (own_draw p1)), .val (.int (own_draw p2)), .val (.ref b4), .val (.ref b14), .val (.int (1 : Int32)), .unset, .unset] [])) _
        refine XS.iconst X20.here hx rfl (hb hby at_114) ?_
        show Steps p.tables e below (T20.setTop (mkF m 115 #[.val (.int p0), .val (.int p1), .val (.int p2), .val (.int p3), .val (.int (own_draw p0)), .val (.int (own_draw p1)), .val (.int (own_draw p2)), .val (.ref b4), .val (.ref b14), .val (.int (1 : Int32)), .unset, .unset] [(.int (1 : Int32))])) _
        refine XS.goto X20.here hx rfl (pc0 := 115) (pc' := 119) rfl (hb hby at_115) (by decide) (by decide) ?_
        show Steps p.tables e below (T20.setTop (mkF m 119 #[.val (.int p0), .val (.int p1), .val (.int p2), .val (.int p3), .val (.int (own_draw p0)), .val (.int (own_draw p1)), .val (.int (own_draw p2)), .val (.ref b4), .val (.ref b14), .val (.int (1 : Int32)), .unset, .unset] [(.int (1 : Int32))])) _
        refine XS.istore X20.here hx rfl (hb hby at_119) rfl (l' := #[.val (.int p0), .val (.int p1), .val (.int p2), .val (.int p3), .val (.int (own_draw p0)), .val (.int (own_draw p1)), .val (.int (own_draw p2)), .val (.ref b4), .val (.ref b14), .val (.int (1 : Int32)), .val (.int (1 : Int32)), .unset]) rfl ?_
        show Steps p.tables e below (T20.setTop (mkF m 121 #[.val (.int p0), .val (.int p1), .val (.int p2), .val (.int p3), .val (.int (own_draw p0)), .val (.int (own_draw p1)), .val (.int (own_draw p2)), .val (.ref b4), .val (.ref b14), .val (.int (1 : Int32)), .val (.int (1 : Int32)), .unset] [])) _
        refine XS.aload X20.here hx rfl (hb hby at_121) rfl rfl ?_
        show Steps p.tables e below (T20.setTop (mkF m 123 #[.val (.int p0), .val (.int p1), .val (.int p2), .val (.int p3), .val (.int (own_draw p0)), .val (.int (own_draw p1)), .val (.int (own_draw p2)), .val (.ref b4), .val (.ref b14), .val (.int (1 : Int32)), .val (.int (1 : Int32)), .unset] [(.ref b14)])) _
        refine XS.iconst X20.here hx rfl (hb hby at_123) ?_
        show Steps p.tables e below (T20.setTop (mkF m 124 #[.val (.int p0), .val (.int p1), .val (.int p2), .val (.int p3), .val (.int (own_draw p0)), .val (.int (own_draw p1)), .val (.int (own_draw p2)), .val (.ref b4), .val (.ref b14), .val (.int (1 : Int32)), .val (.int (1 : Int32)), .unset] [(.int (2 : Int32)), (.ref b14)])) _
        exact k
      obtain ⟨cq21, kq21, q21a, q21b, q21c⟩ := isOf hZ e20 E_b14
      obtain ⟨_, _, ⟨T22, L22, k22, n22⟩, -, X22, ⟨Lc22, hQ22, l22, y22, z22⟩, st22⟩ := X20.virtualBack hx (y := (⟨"com/example/holdfast/holdfast/Mip$Solution", "isSet", "(I)Z"⟩ : MethodName)) (z := (⟨"com/example/holdfast/holdfast/Mip$Solution", "isSet", "(I)Z"⟩ : MethodName)) hown (mvT hZ (hw _ (List.mem_of_getElem? (i := 35) rfl))) (mvT hZ (hw _ (List.mem_of_getElem? (i := 36) rfl))) (notFace_of_selects (args := #[]) (mvT hZ (hw _ (List.mem_of_getElem? (i := 38) rfl)))) (mvT hZ (hw _ (List.mem_of_getElem? (i := 38) rfl))) (mvT hZ (hw _ (List.mem_of_getElem? (i := 37) rfl))) (by decide) (backOf (W := 0) (rm7_2 l Z a0 hw [] b14 b4 k4 (own_val (own_draw p0)) (own_val (own_draw p1)) (own_val (own_draw p2)) h16 n0 Z0 F_values_b14 V_b4) hZ (hw _ (List.mem_of_getElem? (i := 39) rfl)) (hw _ (List.mem_of_getElem? (i := 13) rfl)) (by decide) (by decide)) q21a q21c (g := (mkF m 124 #[.val (.int p0), .val (.int p1), .val (.int p2), .val (.int p3), .val (.int (own_draw p0)), .val (.int (own_draw p1)), .val (.int (own_draw p2)), .val (.ref b4), .val (.ref b14), .val (.int (1 : Int32)), .val (.int (1 : Int32)), .unset] [(.int (2 : Int32)), (.ref b14)])) rfl (by rw [hml]; rfl) (Steps.refl _) (argsL := [(.int (2 : Int32))]) (rest := []) (lenOf pd_5 rfl) rfl (by show 2 * 0 + _ ≤ _; exact Nat.le_of_eq rfl) (hb hby at_124) (fun _ _ => ⟨rfl, e20, Nat.le_of_ble_eq_true rfl, Nat.le_of_ble_eq_true rfl⟩)
      dsimp only [Pt.U, Pt.locs, Pt.cells, Pt.slots] at X22 l22 y22 z22 st22 hQ22
      subst l22 y22 z22
      obtain ⟨h22, e22⟩ : ∃ z, T22.heap = z := ⟨_, rfl⟩
      rw [e22] at hQ22
      obtain ⟨rfl, N22q, eq22⟩ := hQ22
      have N22 := Fr.app N20 N22q
      rw [eq22] at e22
      refine own_go (B := T22.setTop (mkF m 127 #[.val (.int p0), .val (.int p1), .val (.int p2), .val (.int p3), .val (.int (own_draw p0)), .val (.int (own_draw p1)), .val (.int (own_draw p2)), .val (.ref b4), .val (.ref b14), .val (.int (1 : Int32)), .val (.int (1 : Int32)), .unset] [(.int (own_set (own_val (own_draw p2))))])) (fun t k => st22.trans k) ?_
      refine own_go (B := T22.setTop (mkF m 131 #[.val (.int p0), .val (.int p1), .val (.int p2), .val (.int p3), .val (.int (own_draw p0)), .val (.int (own_draw p1)), .val (.int (own_draw p2)), .val (.ref b4), .val (.ref b14), .val (.int (1 : Int32)), .val (.int (1 : Int32)), .unset] [(.int (32768 : Int32)), (.int (own_draw p2)), (.int (own_set (own_val (own_draw p2))))])) (fun t k => ?_) ?_
      · show Steps p.tables e below (T22.setTop (mkF m 127 #[.val (.int p0), .val (.int p1), .val (.int p2), .val (.int p3), .val (.int (own_draw p0)), .val (.int (own_draw p1)), .val (.int (own_draw p2)), .val (.ref b4), .val (.ref b14), .val (.int (1 : Int32)), .val (.int (1 : Int32)), .unset] [(.int (own_set (own_val (own_draw p2))))])) _
        refine XS.iload X22.here hx rfl (hb hby at_127) rfl ?_
        show Steps p.tables e below (T22.setTop (mkF m 129 #[.val (.int p0), .val (.int p1), .val (.int p2), .val (.int p3), .val (.int (own_draw p0)), .val (.int (own_draw p1)), .val (.int (own_draw p2)), .val (.ref b4), .val (.ref b14), .val (.int (1 : Int32)), .val (.int (1 : Int32)), .unset] [(.int (own_draw p2)), (.int (own_set (own_val (own_draw p2))))])) _
        refine X22.ldcI hx hown (mvT hZ (hw _ (List.mem_of_getElem? (i := 41) rfl))) (g := (mkF m 129 #[.val (.int p0), .val (.int p1), .val (.int p2), .val (.int p3), .val (.int (own_draw p0)), .val (.int (own_draw p1)), .val (.int (own_draw p2)), .val (.ref b4), .val (.ref b14), .val (.int (1 : Int32)), .val (.int (1 : Int32)), .unset] [(.int (own_draw p2)), (.int (own_set (own_val (own_draw p2))))])) rfl (hb hby at_129) ?_
        show Steps p.tables e below (T22.setTop (mkF m 131 #[.val (.int p0), .val (.int p1), .val (.int p2), .val (.int p3), .val (.int (own_draw p0)), .val (.int (own_draw p1)), .val (.int (own_draw p2)), .val (.ref b4), .val (.ref b14), .val (.int (1 : Int32)), .val (.int (1 : Int32)), .unset] [(.int (32768 : Int32)), (.int (own_draw p2)), (.int (own_set (own_val (own_draw p2))))])) _
        exact k
      by_cases hc131 : (32768 : Int32) < (own_draw p2)
      · refine own_go (B := T22.setTop (mkF m 169 #[.val (.int p0), .val (.int p1), .val (.int p2), .val (.int p3), .val (.int (own_draw p0)), .val (.int (own_draw p1)), .val (.int (own_draw p2)), .val (.ref b4), .val (.ref b14), .val (.int (1 : Int32)), .val (.int (1 : Int32)), .val (.int (1 : Int32))] [(.int (1 : Int32))])) (fun t k => ?_) ?_
        · show Steps p.tables e below (T22.setTop (mkF m 131 #[.val (.int p0), .val (.int p1), .val (.int p2), .val (.int p3), .val (.int (own_draw p0)), .val (.int (own_draw p1)), .val (.int (own_draw p2)), .val (.ref b4), .val (.ref b14), .val (.int (1 : Int32)), .val (.int (1 : Int32)), .unset] [(.int (32768 : Int32)), (.int (own_draw p2)), (.int (own_set (own_val (own_draw p2))))])) _
          refine XS.icmpNo X22.here hx rfl (hb hby at_131) rfl (tlt hc131).2.2.2 ?_
          show Steps p.tables e below (T22.setTop (mkF m 134 #[.val (.int p0), .val (.int p1), .val (.int p2), .val (.int p3), .val (.int (own_draw p0)), .val (.int (own_draw p1)), .val (.int (own_draw p2)), .val (.ref b4), .val (.ref b14), .val (.int (1 : Int32)), .val (.int (1 : Int32)), .unset] [(.int (own_set (own_val (own_draw p2))))])) _
          refine XS.iconst X22.here hx rfl (hb hby at_134) ?_
          show Steps p.tables e below (T22.setTop (mkF m 135 #[.val (.int p0), .val (.int p1), .val (.int p2), .val (.int p3), .val (.int (own_draw p0)), .val (.int (own_draw p1)), .val (.int (own_draw p2)), .val (.ref b4), .val (.ref b14), .val (.int (1 : Int32)), .val (.int (1 : Int32)), .unset] [(.int (1 : Int32)), (.int (own_set (own_val (own_draw p2))))])) _
          refine XS.goto X22.here hx rfl (pc0 := 135) (pc' := 139) rfl (hb hby at_135) (by decide) (by decide) ?_
          show Steps p.tables e below (T22.setTop (mkF m 139 #[.val (.int p0), .val (.int p1), .val (.int p2), .val (.int p3), .val (.int (own_draw p0)), .val (.int (own_draw p1)), .val (.int (own_draw p2)), .val (.ref b4), .val (.ref b14), .val (.int (1 : Int32)), .val (.int (1 : Int32)), .unset] [(.int (1 : Int32)), (.int (own_set (own_val (own_draw p2))))])) _
          refine XS.icmpNo X22.here hx rfl (hb hby at_139) rfl (teq (by rw [own_isset]; simp [hc131] : (own_set (own_val (own_draw p2))) = (1 : Int32))).2 ?_
          show Steps p.tables e below (T22.setTop (mkF m 142 #[.val (.int p0), .val (.int p1), .val (.int p2), .val (.int p3), .val (.int (own_draw p0)), .val (.int (own_draw p1)), .val (.int (own_draw p2)), .val (.ref b4), .val (.ref b14), .val (.int (1 : Int32)), .val (.int (1 : Int32)), .unset] [])) _
          refine XS.iconst X22.here hx rfl (hb hby at_142) ?_
          show Steps p.tables e below (T22.setTop (mkF m 143 #[.val (.int p0), .val (.int p1), .val (.int p2), .val (.int p3), .val (.int (own_draw p0)), .val (.int (own_draw p1)), .val (.int (own_draw p2)), .val (.ref b4), .val (.ref b14), .val (.int (1 : Int32)), .val (.int (1 : Int32)), .unset] [(.int (1 : Int32))])) _
          refine XS.goto X22.here hx rfl (pc0 := 143) (pc' := 147) rfl (hb hby at_143) (by decide) (by decide) ?_
          show Steps p.tables e below (T22.setTop (mkF m 147 #[.val (.int p0), .val (.int p1), .val (.int p2), .val (.int p3), .val (.int (own_draw p0)), .val (.int (own_draw p1)), .val (.int (own_draw p2)), .val (.ref b4), .val (.ref b14), .val (.int (1 : Int32)), .val (.int (1 : Int32)), .unset] [(.int (1 : Int32))])) _
          refine XS.istore X22.here hx rfl (hb hby at_147) rfl (l' := #[.val (.int p0), .val (.int p1), .val (.int p2), .val (.int p3), .val (.int (own_draw p0)), .val (.int (own_draw p1)), .val (.int (own_draw p2)), .val (.ref b4), .val (.ref b14), .val (.int (1 : Int32)), .val (.int (1 : Int32)), .val (.int (1 : Int32))]) rfl ?_
          show Steps p.tables e below (T22.setTop (mkF m 149 #[.val (.int p0), .val (.int p1), .val (.int p2), .val (.int p3), .val (.int (own_draw p0)), .val (.int (own_draw p1)), .val (.int (own_draw p2)), .val (.ref b4), .val (.ref b14), .val (.int (1 : Int32)), .val (.int (1 : Int32)), .val (.int (1 : Int32))] [])) _
          refine XS.iload X22.here hx rfl (hb hby at_149) rfl ?_
          show Steps p.tables e below (T22.setTop (mkF m 151 #[.val (.int p0), .val (.int p1), .val (.int p2), .val (.int p3), .val (.int (own_draw p0)), .val (.int (own_draw p1)), .val (.int (own_draw p2)), .val (.ref b4), .val (.ref b14), .val (.int (1 : Int32)), .val (.int (1 : Int32)), .val (.int (1 : Int32))] [(.int (1 : Int32))])) _
          refine XS.ifNo X22.here hx rfl (hb hby at_151) rfl ((if0 _ _).trans (feq (by decide : ¬ ((1 : Int32) = (0 : Int32)))).1) ?_
          show Steps p.tables e below (T22.setTop (mkF m 154 #[.val (.int p0), .val (.int p1), .val (.int p2), .val (.int p3), .val (.int (own_draw p0)), .val (.int (own_draw p1)), .val (.int (own_draw p2)), .val (.ref b4), .val (.ref b14), .val (.int (1 : Int32)), .val (.int (1 : Int32)), .val (.int (1 : Int32))] [])) _
          refine XS.iload X22.here hx rfl (hb hby at_154) rfl ?_
          show Steps p.tables e below (T22.setTop (mkF m 156 #[.val (.int p0), .val (.int p1), .val (.int p2), .val (.int p3), .val (.int (own_draw p0)), .val (.int (own_draw p1)), .val (.int (own_draw p2)), .val (.ref b4), .val (.ref b14), .val (.int (1 : Int32)), .val (.int (1 : Int32)), .val (.int (1 : Int32))] [(.int (1 : Int32))])) _
          refine XS.ifNo X22.here hx rfl (hb hby at_156) rfl ((if0 _ _).trans (feq (by decide : ¬ ((1 : Int32) = (0 : Int32)))).1) ?_
          show Steps p.tables e below (T22.setTop (mkF m 159 #[.val (.int p0), .val (.int p1), .val (.int p2), .val (.int p3), .val (.int (own_draw p0)), .val (.int (own_draw p1)), .val (.int (own_draw p2)), .val (.ref b4), .val (.ref b14), .val (.int (1 : Int32)), .val (.int (1 : Int32)), .val (.int (1 : Int32))] [])) _
          refine XS.iload X22.here hx rfl (hb hby at_159) rfl ?_
          show Steps p.tables e below (T22.setTop (mkF m 161 #[.val (.int p0), .val (.int p1), .val (.int p2), .val (.int p3), .val (.int (own_draw p0)), .val (.int (own_draw p1)), .val (.int (own_draw p2)), .val (.ref b4), .val (.ref b14), .val (.int (1 : Int32)), .val (.int (1 : Int32)), .val (.int (1 : Int32))] [(.int (1 : Int32))])) _
          refine XS.ifNo X22.here hx rfl (hb hby at_161) rfl ((if0 _ _).trans (feq (by decide : ¬ ((1 : Int32) = (0 : Int32)))).1) ?_
          show Steps p.tables e below (T22.setTop (mkF m 164 #[.val (.int p0), .val (.int p1), .val (.int p2), .val (.int p3), .val (.int (own_draw p0)), .val (.int (own_draw p1)), .val (.int (own_draw p2)), .val (.ref b4), .val (.ref b14), .val (.int (1 : Int32)), .val (.int (1 : Int32)), .val (.int (1 : Int32))] [])) _
          refine XS.iconst X22.here hx rfl (hb hby at_164) ?_
          show Steps p.tables e below (T22.setTop (mkF m 165 #[.val (.int p0), .val (.int p1), .val (.int p2), .val (.int p3), .val (.int (own_draw p0)), .val (.int (own_draw p1)), .val (.int (own_draw p2)), .val (.ref b4), .val (.ref b14), .val (.int (1 : Int32)), .val (.int (1 : Int32)), .val (.int (1 : Int32))] [(.int (1 : Int32))])) _
          refine XS.goto X22.here hx rfl (pc0 := 165) (pc' := 169) rfl (hb hby at_165) (by decide) (by decide) ?_
          show Steps p.tables e below (T22.setTop (mkF m 169 #[.val (.int p0), .val (.int p1), .val (.int p2), .val (.int p3), .val (.int (own_draw p0)), .val (.int (own_draw p1)), .val (.int (own_draw p2)), .val (.ref b4), .val (.ref b14), .val (.int (1 : Int32)), .val (.int (1 : Int32)), .val (.int (1 : Int32))] [(.int (1 : Int32))])) _
          exact k
        obtain ⟨fs, hr, hrun, hended, hW, hsame⟩ := X22.leave (v := some (.int (1 : Int32))) (fun h => by rw [Bd.returns] at h; cases h)
        refine own_done (retN X22 hx (t := .boolean) Bd.returns (by simp) (hb hby at_169) hr) hrun hended ⟨_, _, rfl, ?_, ⟨_, rfl⟩, hW, hsame.mono (by decide) (by decide)⟩
        show Q_rm0 Z h0 n0 (some (.int (1 : Int32))) T22.heap _
        rw [e22]
        exact ⟨rfl, N22⟩
      · refine own_go (B := T22.setTop (mkF m 169 #[.val (.int p0), .val (.int p1), .val (.int p2), .val (.int p3), .val (.int (own_draw p0)), .val (.int (own_draw p1)), .val (.int (own_draw p2)), .val (.ref b4), .val (.ref b14), .val (.int (1 : Int32)), .val (.int (1 : Int32)), .val (.int (1 : Int32))] [(.int (1 : Int32))])) (fun t k => ?_) ?_
        · show Steps p.tables e below (T22.setTop (mkF m 131 #[.val (.int p0), .val (.int p1), .val (.int p2), .val (.int p3), .val (.int (own_draw p0)), .val (.int (own_draw p1)), .val (.int (own_draw p2)), .val (.ref b4), .val (.ref b14), .val (.int (1 : Int32)), .val (.int (1 : Int32)), .unset] [(.int (32768 : Int32)), (.int (own_draw p2)), (.int (own_set (own_val (own_draw p2))))])) _
          refine XS.icmpYes X22.here hx rfl (pc0 := 131) (pc' := 138) rfl (hb hby at_131) rfl (flt hc131).2.2.2 (by decide) (by decide) ?_
          show Steps p.tables e below (T22.setTop (mkF m 138 #[.val (.int p0), .val (.int p1), .val (.int p2), .val (.int p3), .val (.int (own_draw p0)), .val (.int (own_draw p1)), .val (.int (own_draw p2)), .val (.ref b4), .val (.ref b14), .val (.int (1 : Int32)), .val (.int (1 : Int32)), .unset] [(.int (own_set (own_val (own_draw p2))))])) _
          refine XS.iconst X22.here hx rfl (hb hby at_138) ?_
          show Steps p.tables e below (T22.setTop (mkF m 139 #[.val (.int p0), .val (.int p1), .val (.int p2), .val (.int p3), .val (.int (own_draw p0)), .val (.int (own_draw p1)), .val (.int (own_draw p2)), .val (.ref b4), .val (.ref b14), .val (.int (1 : Int32)), .val (.int (1 : Int32)), .unset] [(.int (0 : Int32)), (.int (own_set (own_val (own_draw p2))))])) _
          refine XS.icmpNo X22.here hx rfl (hb hby at_139) rfl (teq (by rw [own_isset]; simp [hc131] : (own_set (own_val (own_draw p2))) = (0 : Int32))).2 ?_
          show Steps p.tables e below (T22.setTop (mkF m 142 #[.val (.int p0), .val (.int p1), .val (.int p2), .val (.int p3), .val (.int (own_draw p0)), .val (.int (own_draw p1)), .val (.int (own_draw p2)), .val (.ref b4), .val (.ref b14), .val (.int (1 : Int32)), .val (.int (1 : Int32)), .unset] [])) _
          refine XS.iconst X22.here hx rfl (hb hby at_142) ?_
          show Steps p.tables e below (T22.setTop (mkF m 143 #[.val (.int p0), .val (.int p1), .val (.int p2), .val (.int p3), .val (.int (own_draw p0)), .val (.int (own_draw p1)), .val (.int (own_draw p2)), .val (.ref b4), .val (.ref b14), .val (.int (1 : Int32)), .val (.int (1 : Int32)), .unset] [(.int (1 : Int32))])) _
          refine XS.goto X22.here hx rfl (pc0 := 143) (pc' := 147) rfl (hb hby at_143) (by decide) (by decide) ?_
          show Steps p.tables e below (T22.setTop (mkF m 147 #[.val (.int p0), .val (.int p1), .val (.int p2), .val (.int p3), .val (.int (own_draw p0)), .val (.int (own_draw p1)), .val (.int (own_draw p2)), .val (.ref b4), .val (.ref b14), .val (.int (1 : Int32)), .val (.int (1 : Int32)), .unset] [(.int (1 : Int32))])) _
          refine XS.istore X22.here hx rfl (hb hby at_147) rfl (l' := #[.val (.int p0), .val (.int p1), .val (.int p2), .val (.int p3), .val (.int (own_draw p0)), .val (.int (own_draw p1)), .val (.int (own_draw p2)), .val (.ref b4), .val (.ref b14), .val (.int (1 : Int32)), .val (.int (1 : Int32)), .val (.int (1 : Int32))]) rfl ?_
          show Steps p.tables e below (T22.setTop (mkF m 149 #[.val (.int p0), .val (.int p1), .val (.int p2), .val (.int p3), .val (.int (own_draw p0)), .val (.int (own_draw p1)), .val (.int (own_draw p2)), .val (.ref b4), .val (.ref b14), .val (.int (1 : Int32)), .val (.int (1 : Int32)), .val (.int (1 : Int32))] [])) _
          refine XS.iload X22.here hx rfl (hb hby at_149) rfl ?_
          show Steps p.tables e below (T22.setTop (mkF m 151 #[.val (.int p0), .val (.int p1), .val (.int p2), .val (.int p3), .val (.int (own_draw p0)), .val (.int (own_draw p1)), .val (.int (own_draw p2)), .val (.ref b4), .val (.ref b14), .val (.int (1 : Int32)), .val (.int (1 : Int32)), .val (.int (1 : Int32))] [(.int (1 : Int32))])) _
          refine XS.ifNo X22.here hx rfl (hb hby at_151) rfl ((if0 _ _).trans (feq (by decide : ¬ ((1 : Int32) = (0 : Int32)))).1) ?_
          show Steps p.tables e below (T22.setTop (mkF m 154 #[.val (.int p0), .val (.int p1), .val (.int p2), .val (.int p3), .val (.int (own_draw p0)), .val (.int (own_draw p1)), .val (.int (own_draw p2)), .val (.ref b4), .val (.ref b14), .val (.int (1 : Int32)), .val (.int (1 : Int32)), .val (.int (1 : Int32))] [])) _
          refine XS.iload X22.here hx rfl (hb hby at_154) rfl ?_
          show Steps p.tables e below (T22.setTop (mkF m 156 #[.val (.int p0), .val (.int p1), .val (.int p2), .val (.int p3), .val (.int (own_draw p0)), .val (.int (own_draw p1)), .val (.int (own_draw p2)), .val (.ref b4), .val (.ref b14), .val (.int (1 : Int32)), .val (.int (1 : Int32)), .val (.int (1 : Int32))] [(.int (1 : Int32))])) _
          refine XS.ifNo X22.here hx rfl (hb hby at_156) rfl ((if0 _ _).trans (feq (by decide : ¬ ((1 : Int32) = (0 : Int32)))).1) ?_
          show Steps p.tables e below (T22.setTop (mkF m 159 #[.val (.int p0), .val (.int p1), .val (.int p2), .val (.int p3), .val (.int (own_draw p0)), .val (.int (own_draw p1)), .val (.int (own_draw p2)), .val (.ref b4), .val (.ref b14), .val (.int (1 : Int32)), .val (.int (1 : Int32)), .val (.int (1 : Int32))] [])) _
          refine XS.iload X22.here hx rfl (hb hby at_159) rfl ?_
          show Steps p.tables e below (T22.setTop (mkF m 161 #[.val (.int p0), .val (.int p1), .val (.int p2), .val (.int p3), .val (.int (own_draw p0)), .val (.int (own_draw p1)), .val (.int (own_draw p2)), .val (.ref b4), .val (.ref b14), .val (.int (1 : Int32)), .val (.int (1 : Int32)), .val (.int (1 : Int32))] [(.int (1 : Int32))])) _
          refine XS.ifNo X22.here hx rfl (hb hby at_161) rfl ((if0 _ _).trans (feq (by decide : ¬ ((1 : Int32) = (0 : Int32)))).1) ?_
          show Steps p.tables e below (T22.setTop (mkF m 164 #[.val (.int p0), .val (.int p1), .val (.int p2), .val (.int p3), .val (.int (own_draw p0)), .val (.int (own_draw p1)), .val (.int (own_draw p2)), .val (.ref b4), .val (.ref b14), .val (.int (1 : Int32)), .val (.int (1 : Int32)), .val (.int (1 : Int32))] [])) _
          refine XS.iconst X22.here hx rfl (hb hby at_164) ?_
          show Steps p.tables e below (T22.setTop (mkF m 165 #[.val (.int p0), .val (.int p1), .val (.int p2), .val (.int p3), .val (.int (own_draw p0)), .val (.int (own_draw p1)), .val (.int (own_draw p2)), .val (.ref b4), .val (.ref b14), .val (.int (1 : Int32)), .val (.int (1 : Int32)), .val (.int (1 : Int32))] [(.int (1 : Int32))])) _
          refine XS.goto X22.here hx rfl (pc0 := 165) (pc' := 169) rfl (hb hby at_165) (by decide) (by decide) ?_
          show Steps p.tables e below (T22.setTop (mkF m 169 #[.val (.int p0), .val (.int p1), .val (.int p2), .val (.int p3), .val (.int (own_draw p0)), .val (.int (own_draw p1)), .val (.int (own_draw p2)), .val (.ref b4), .val (.ref b14), .val (.int (1 : Int32)), .val (.int (1 : Int32)), .val (.int (1 : Int32))] [(.int (1 : Int32))])) _
          exact k
        obtain ⟨fs, hr, hrun, hended, hW, hsame⟩ := X22.leave (v := some (.int (1 : Int32))) (fun h => by rw [Bd.returns] at h; cases h)
        refine own_done (retN X22 hx (t := .boolean) Bd.returns (by simp) (hb hby at_169) hr) hrun hended ⟨_, _, rfl, ?_, ⟨_, rfl⟩, hW, hsame.mono (by decide) (by decide)⟩
        show Q_rm0 Z h0 n0 (some (.int (1 : Int32))) T22.heap _
        rw [e22]
        exact ⟨rfl, N22⟩
    · refine own_go (B := T20.setTop (mkF m 124 #[.val (.int p0), .val (.int p1), .val (.int p2), .val (.int p3), .val (.int (own_draw p0)), .val (.int (own_draw p1)), .val (.int (own_draw p2)), .val (.ref b4), .val (.ref b14), .val (.int (1 : Int32)), .val (.int (1 : Int32)), .unset] [(.int (2 : Int32)), (.ref b14)])) (fun t k => ?_) ?_
      · show Steps p.tables e below (T20.setTop (mkF m 103 #[.val (.int p0), .val (.int p1), .val (.int p2), .val (.int p3), .val (.int (own_draw p0)), .val (.int (own_draw p1)), .val (.int (own_draw p2)), .val (.ref b4), .val (.ref b14), .val (.int (1 : Int32)), .unset, .unset] [(.int (32768 : Int32)), (.int (own_draw p1)), (.int (own_set (own_val (own_draw p1))))])) _
        refine XS.icmpYes X20.here hx rfl (pc0 := 103) (pc' := 110) rfl (hb hby at_103) rfl (flt hc103).2.2.2 (by decide) (by decide) ?_
        show Steps p.tables e below (T20.setTop (mkF m 110 #[.val (.int p0), .val (.int p1), .val (.int p2), .val (.int p3), .val (.int (own_draw p0)), .val (.int (own_draw p1)), .val (.int (own_draw p2)), .val (.ref b4), .val (.ref b14), .val (.int (1 : Int32)), .unset, .unset] [(.int (own_set (own_val (own_draw p1))))])) _
        refine XS.iconst X20.here hx rfl (hb hby at_110) ?_
        show Steps p.tables e below (T20.setTop (mkF m 111 #[.val (.int p0), .val (.int p1), .val (.int p2), .val (.int p3), .val (.int (own_draw p0)), .val (.int (own_draw p1)), .val (.int (own_draw p2)), .val (.ref b4), .val (.ref b14), .val (.int (1 : Int32)), .unset, .unset] [(.int (0 : Int32)), (.int (own_set (own_val (own_draw p1))))])) _
        refine XS.icmpNo X20.here hx rfl (hb hby at_111) rfl (teq (by rw [own_isset]; simp [hc103] : (own_set (own_val (own_draw p1))) = (0 : Int32))).2 ?_
        show Steps p.tables e below (T20.setTop (mkF m 114 #[.val (.int p0), .val (.int p1), .val (.int p2), .val (.int p3), .val (.int (own_draw p0)), .val (.int (own_draw p1)), .val (.int (own_draw p2)), .val (.ref b4), .val (.ref b14), .val (.int (1 : Int32)), .unset, .unset] [])) _
        refine XS.iconst X20.here hx rfl (hb hby at_114) ?_
        show Steps p.tables e below (T20.setTop (mkF m 115 #[.val (.int p0), .val (.int p1), .val (.int p2), .val (.int p3), .val (.int (own_draw p0)), .val (.int (own_draw p1)), .val (.int (own_draw p2)), .val (.ref b4), .val (.ref b14), .val (.int (1 : Int32)), .unset, .unset] [(.int (1 : Int32))])) _
        refine XS.goto X20.here hx rfl (pc0 := 115) (pc' := 119) rfl (hb hby at_115) (by decide) (by decide) ?_
        show Steps p.tables e below (T20.setTop (mkF m 119 #[.val (.int p0), .val (.int p1), .val (.int p2), .val (.int p3), .val (.int (own_draw p0)), .val (.int (own_draw p1)), .val (.int (own_draw p2)), .val (.ref b4), .val (.ref b14), .val (.int (1 : Int32)), .unset, .unset] [(.int (1 : Int32))])) _
        refine XS.istore X20.here hx rfl (hb hby at_119) rfl (l' := #[.val (.int p0), .val (.int p1), .val (.int p2), .val (.int p3), .val (.int (own_draw p0)), .val (.int (own_draw p1)), .val (.int (own_draw p2)), .val (.ref b4), .val (.ref b14), .val (.int (1 : Int32)), .val (.int (1 : Int32)), .unset]) rfl ?_
        show Steps p.tables e below (T20.setTop (mkF m 121 #[.val (.int p0), .val (.int p1), .val (.int p2), .val (.int p3), .val (.int (own_draw p0)), .val (.int (own_draw p1)), .val (.int (own_draw p2)), .val (.ref b4), .val (.ref b14), .val (.int (1 : Int32)), .val (.int (1 : Int32)), .unset] [])) _
        refine XS.aload X20.here hx rfl (hb hby at_121) rfl rfl ?_
        show Steps p.tables e below (T20.setTop (mkF m 123 #[.val (.int p0), .val (.int p1), .val (.int p2), .val (.int p3), .val (.int (own_draw p0)), .val (.int (own_draw p1)), .val (.int (own_draw p2)), .val (.ref b4), .val (.ref b14), .val (.int (1 : Int32)), .val (.int (1 : Int32)), .unset] [(.ref b14)])) _
        refine XS.iconst X20.here hx rfl (hb hby at_123) ?_
        show Steps p.tables e below (T20.setTop (mkF m 124 #[.val (.int p0), .val (.int p1), .val (.int p2), .val (.int p3), .val (.int (own_draw p0)), .val (.int (own_draw p1)), .val (.int (own_draw p2)), .val (.ref b4), .val (.ref b14), .val (.int (1 : Int32)), .val (.int (1 : Int32)), .unset] [(.int (2 : Int32)), (.ref b14)])) _
        exact k
      obtain ⟨cq23, kq23, q23a, q23b, q23c⟩ := isOf hZ e20 E_b14
      obtain ⟨_, _, ⟨T24, L24, k24, n24⟩, -, X24, ⟨Lc24, hQ24, l24, y24, z24⟩, st24⟩ := X20.virtualBack hx (y := (⟨"com/example/holdfast/holdfast/Mip$Solution", "isSet", "(I)Z"⟩ : MethodName)) (z := (⟨"com/example/holdfast/holdfast/Mip$Solution", "isSet", "(I)Z"⟩ : MethodName)) hown (mvT hZ (hw _ (List.mem_of_getElem? (i := 35) rfl))) (mvT hZ (hw _ (List.mem_of_getElem? (i := 36) rfl))) (notFace_of_selects (args := #[]) (mvT hZ (hw _ (List.mem_of_getElem? (i := 38) rfl)))) (mvT hZ (hw _ (List.mem_of_getElem? (i := 38) rfl))) (mvT hZ (hw _ (List.mem_of_getElem? (i := 37) rfl))) (by decide) (backOf (W := 0) (rm7_2 l Z a0 hw [] b14 b4 k4 (own_val (own_draw p0)) (own_val (own_draw p1)) (own_val (own_draw p2)) h16 n0 Z0 F_values_b14 V_b4) hZ (hw _ (List.mem_of_getElem? (i := 39) rfl)) (hw _ (List.mem_of_getElem? (i := 13) rfl)) (by decide) (by decide)) q23a q23c (g := (mkF m 124 #[.val (.int p0), .val (.int p1), .val (.int p2), .val (.int p3), .val (.int (own_draw p0)), .val (.int (own_draw p1)), .val (.int (own_draw p2)), .val (.ref b4), .val (.ref b14), .val (.int (1 : Int32)), .val (.int (1 : Int32)), .unset] [(.int (2 : Int32)), (.ref b14)])) rfl (by rw [hml]; rfl) (Steps.refl _) (argsL := [(.int (2 : Int32))]) (rest := []) (lenOf pd_5 rfl) rfl (by show 2 * 0 + _ ≤ _; exact Nat.le_of_eq rfl) (hb hby at_124) (fun _ _ => ⟨rfl, e20, Nat.le_of_ble_eq_true rfl, Nat.le_of_ble_eq_true rfl⟩)
      dsimp only [Pt.U, Pt.locs, Pt.cells, Pt.slots] at X24 l24 y24 z24 st24 hQ24
      subst l24 y24 z24
      obtain ⟨h24, e24⟩ : ∃ z, T24.heap = z := ⟨_, rfl⟩
      rw [e24] at hQ24
      obtain ⟨rfl, N24q, eq24⟩ := hQ24
      have N24 := Fr.app N20 N24q
      rw [eq24] at e24
      refine own_go (B := T24.setTop (mkF m 127 #[.val (.int p0), .val (.int p1), .val (.int p2), .val (.int p3), .val (.int (own_draw p0)), .val (.int (own_draw p1)), .val (.int (own_draw p2)), .val (.ref b4), .val (.ref b14), .val (.int (1 : Int32)), .val (.int (1 : Int32)), .unset] [(.int (own_set (own_val (own_draw p2))))])) (fun t k => st24.trans k) ?_
      refine own_go (B := T24.setTop (mkF m 131 #[.val (.int p0), .val (.int p1), .val (.int p2), .val (.int p3), .val (.int (own_draw p0)), .val (.int (own_draw p1)), .val (.int (own_draw p2)), .val (.ref b4), .val (.ref b14), .val (.int (1 : Int32)), .val (.int (1 : Int32)), .unset] [(.int (32768 : Int32)), (.int (own_draw p2)), (.int (own_set (own_val (own_draw p2))))])) (fun t k => ?_) ?_
      · show Steps p.tables e below (T24.setTop (mkF m 127 #[.val (.int p0), .val (.int p1), .val (.int p2), .val (.int p3), .val (.int (own_draw p0)), .val (.int (own_draw p1)), .val (.int (own_draw p2)), .val (.ref b4), .val (.ref b14), .val (.int (1 : Int32)), .val (.int (1 : Int32)), .unset] [(.int (own_set (own_val (own_draw p2))))])) _
        refine XS.iload X24.here hx rfl (hb hby at_127) rfl ?_
        show Steps p.tables e below (T24.setTop (mkF m 129 #[.val (.int p0), .val (.int p1), .val (.int p2), .val (.int p3), .val (.int (own_draw p0)), .val (.int (own_draw p1)), .val (.int (own_draw p2)), .val (.ref b4), .val (.ref b14), .val (.int (1 : Int32)), .val (.int (1 : Int32)), .unset] [(.int (own_draw p2)), (.int (own_set (own_val (own_draw p2))))])) _
        refine X24.ldcI hx hown (mvT hZ (hw _ (List.mem_of_getElem? (i := 41) rfl))) (g := (mkF m 129 #[.val (.int p0), .val (.int p1), .val (.int p2), .val (.int p3), .val (.int (own_draw p0)), .val (.int (own_draw p1)), .val (.int (own_draw p2)), .val (.ref b4), .val (.ref b14), .val (.int (1 : Int32)), .val (.int (1 : Int32)), .unset] [(.int (own_draw p2)), (.int (own_set (own_val (own_draw p2))))])) rfl (hb hby at_129) ?_
        show Steps p.tables e below (T24.setTop (mkF m 131 #[.val (.int p0), .val (.int p1), .val (.int p2), .val (.int p3), .val (.int (own_draw p0)), .val (.int (own_draw p1)), .val (.int (own_draw p2)), .val (.ref b4), .val (.ref b14), .val (.int (1 : Int32)), .val (.int (1 : Int32)), .unset] [(.int (32768 : Int32)), (.int (own_draw p2)), (.int (own_set (own_val (own_draw p2))))])) _
        exact k
      by_cases hc131 : (32768 : Int32) < (own_draw p2)
      · refine own_go (B := T24.setTop (mkF m 169 #[.val (.int p0), .val (.int p1), .val (.int p2), .val (.int p3), .val (.int (own_draw p0)), .val (.int (own_draw p1)), .val (.int (own_draw p2)), .val (.ref b4), .val (.ref b14), .val (.int (1 : Int32)), .val (.int (1 : Int32)), .val (.int (1 : Int32))] [(.int (1 : Int32))])) (fun t k => ?_) ?_
        · show Steps p.tables e below (T24.setTop (mkF m 131 #[.val (.int p0), .val (.int p1), .val (.int p2), .val (.int p3), .val (.int (own_draw p0)), .val (.int (own_draw p1)), .val (.int (own_draw p2)), .val (.ref b4), .val (.ref b14), .val (.int (1 : Int32)), .val (.int (1 : Int32)), .unset] [(.int (32768 : Int32)), (.int (own_draw p2)), (.int (own_set (own_val (own_draw p2))))])) _
          refine XS.icmpNo X24.here hx rfl (hb hby at_131) rfl (tlt hc131).2.2.2 ?_
          show Steps p.tables e below (T24.setTop (mkF m 134 #[.val (.int p0), .val (.int p1), .val (.int p2), .val (.int p3), .val (.int (own_draw p0)), .val (.int (own_draw p1)), .val (.int (own_draw p2)), .val (.ref b4), .val (.ref b14), .val (.int (1 : Int32)), .val (.int (1 : Int32)), .unset] [(.int (own_set (own_val (own_draw p2))))])) _
          refine XS.iconst X24.here hx rfl (hb hby at_134) ?_
          show Steps p.tables e below (T24.setTop (mkF m 135 #[.val (.int p0), .val (.int p1), .val (.int p2), .val (.int p3), .val (.int (own_draw p0)), .val (.int (own_draw p1)), .val (.int (own_draw p2)), .val (.ref b4), .val (.ref b14), .val (.int (1 : Int32)), .val (.int (1 : Int32)), .unset] [(.int (1 : Int32)), (.int (own_set (own_val (own_draw p2))))])) _
          refine XS.goto X24.here hx rfl (pc0 := 135) (pc' := 139) rfl (hb hby at_135) (by decide) (by decide) ?_
          show Steps p.tables e below (T24.setTop (mkF m 139 #[.val (.int p0), .val (.int p1), .val (.int p2), .val (.int p3), .val (.int (own_draw p0)), .val (.int (own_draw p1)), .val (.int (own_draw p2)), .val (.ref b4), .val (.ref b14), .val (.int (1 : Int32)), .val (.int (1 : Int32)), .unset] [(.int (1 : Int32)), (.int (own_set (own_val (own_draw p2))))])) _
          refine XS.icmpNo X24.here hx rfl (hb hby at_139) rfl (teq (by rw [own_isset]; simp [hc131] : (own_set (own_val (own_draw p2))) = (1 : Int32))).2 ?_
          show Steps p.tables e below (T24.setTop (mkF m 142 #[.val (.int p0), .val (.int p1), .val (.int p2), .val (.int p3), .val (.int (own_draw p0)), .val (.int (own_draw p1)), .val (.int (own_draw p2)), .val (.ref b4), .val (.ref b14), .val (.int (1 : Int32)), .val (.int (1 : Int32)), .unset] [])) _
          refine XS.iconst X24.here hx rfl (hb hby at_142) ?_
          show Steps p.tables e below (T24.setTop (mkF m 143 #[.val (.int p0), .val (.int p1), .val (.int p2), .val (.int p3), .val (.int (own_draw p0)), .val (.int (own_draw p1)), .val (.int (own_draw p2)), .val (.ref b4), .val (.ref b14), .val (.int (1 : Int32)), .val (.int (1 : Int32)), .unset] [(.int (1 : Int32))])) _
          refine XS.goto X24.here hx rfl (pc0 := 143) (pc' := 147) rfl (hb hby at_143) (by decide) (by decide) ?_
          show Steps p.tables e below (T24.setTop (mkF m 147 #[.val (.int p0), .val (.int p1), .val (.int p2), .val (.int p3), .val (.int (own_draw p0)), .val (.int (own_draw p1)), .val (.int (own_draw p2)), .val (.ref b4), .val (.ref b14), .val (.int (1 : Int32)), .val (.int (1 : Int32)), .unset] [(.int (1 : Int32))])) _
          refine XS.istore X24.here hx rfl (hb hby at_147) rfl (l' := #[.val (.int p0), .val (.int p1), .val (.int p2), .val (.int p3), .val (.int (own_draw p0)), .val (.int (own_draw p1)), .val (.int (own_draw p2)), .val (.ref b4), .val (.ref b14), .val (.int (1 : Int32)), .val (.int (1 : Int32)), .val (.int (1 : Int32))]) rfl ?_
          show Steps p.tables e below (T24.setTop (mkF m 149 #[.val (.int p0), .val (.int p1), .val (.int p2), .val (.int p3), .val (.int (own_draw p0)), .val (.int (own_draw p1)), .val (.int (own_draw p2)), .val (.ref b4), .val (.ref b14), .val (.int (1 : Int32)), .val (.int (1 : Int32)), .val (.int (1 : Int32))] [])) _
          refine XS.iload X24.here hx rfl (hb hby at_149) rfl ?_
          show Steps p.tables e below (T24.setTop (mkF m 151 #[.val (.int p0), .val (.int p1), .val (.int p2), .val (.int p3), .val (.int (own_draw p0)), .val (.int (own_draw p1)), .val (.int (own_draw p2)), .val (.ref b4), .val (.ref b14), .val (.int (1 : Int32)), .val (.int (1 : Int32)), .val (.int (1 : Int32))] [(.int (1 : Int32))])) _
          refine XS.ifNo X24.here hx rfl (hb hby at_151) rfl ((if0 _ _).trans (feq (by decide : ¬ ((1 : Int32) = (0 : Int32)))).1) ?_
          show Steps p.tables e below (T24.setTop (mkF m 154 #[.val (.int p0), .val (.int p1), .val (.int p2), .val (.int p3), .val (.int (own_draw p0)), .val (.int (own_draw p1)), .val (.int (own_draw p2)), .val (.ref b4), .val (.ref b14), .val (.int (1 : Int32)), .val (.int (1 : Int32)), .val (.int (1 : Int32))] [])) _
          refine XS.iload X24.here hx rfl (hb hby at_154) rfl ?_
          show Steps p.tables e below (T24.setTop (mkF m 156 #[.val (.int p0), .val (.int p1), .val (.int p2), .val (.int p3), .val (.int (own_draw p0)), .val (.int (own_draw p1)), .val (.int (own_draw p2)), .val (.ref b4), .val (.ref b14), .val (.int (1 : Int32)), .val (.int (1 : Int32)), .val (.int (1 : Int32))] [(.int (1 : Int32))])) _
          refine XS.ifNo X24.here hx rfl (hb hby at_156) rfl ((if0 _ _).trans (feq (by decide : ¬ ((1 : Int32) = (0 : Int32)))).1) ?_
          show Steps p.tables e below (T24.setTop (mkF m 159 #[.val (.int p0), .val (.int p1), .val (.int p2), .val (.int p3), .val (.int (own_draw p0)), .val (.int (own_draw p1)), .val (.int (own_draw p2)), .val (.ref b4), .val (.ref b14), .val (.int (1 : Int32)), .val (.int (1 : Int32)), .val (.int (1 : Int32))] [])) _
          refine XS.iload X24.here hx rfl (hb hby at_159) rfl ?_
          show Steps p.tables e below (T24.setTop (mkF m 161 #[.val (.int p0), .val (.int p1), .val (.int p2), .val (.int p3), .val (.int (own_draw p0)), .val (.int (own_draw p1)), .val (.int (own_draw p2)), .val (.ref b4), .val (.ref b14), .val (.int (1 : Int32)), .val (.int (1 : Int32)), .val (.int (1 : Int32))] [(.int (1 : Int32))])) _
          refine XS.ifNo X24.here hx rfl (hb hby at_161) rfl ((if0 _ _).trans (feq (by decide : ¬ ((1 : Int32) = (0 : Int32)))).1) ?_
          show Steps p.tables e below (T24.setTop (mkF m 164 #[.val (.int p0), .val (.int p1), .val (.int p2), .val (.int p3), .val (.int (own_draw p0)), .val (.int (own_draw p1)), .val (.int (own_draw p2)), .val (.ref b4), .val (.ref b14), .val (.int (1 : Int32)), .val (.int (1 : Int32)), .val (.int (1 : Int32))] [])) _
          refine XS.iconst X24.here hx rfl (hb hby at_164) ?_
          show Steps p.tables e below (T24.setTop (mkF m 165 #[.val (.int p0), .val (.int p1), .val (.int p2), .val (.int p3), .val (.int (own_draw p0)), .val (.int (own_draw p1)), .val (.int (own_draw p2)), .val (.ref b4), .val (.ref b14), .val (.int (1 : Int32)), .val (.int (1 : Int32)), .val (.int (1 : Int32))] [(.int (1 : Int32))])) _
          refine XS.goto X24.here hx rfl (pc0 := 165) (pc' := 169) rfl (hb hby at_165) (by decide) (by decide) ?_
          show Steps p.tables e below (T24.setTop (mkF m 169 #[.val (.int p0), .val (.int p1), .val (.int p2), .val (.int p3), .val (.int (own_draw p0)), .val (.int (own_draw p1)), .val (.int (own_draw p2)), .val (.ref b4), .val (.ref b14), .val (.int (1 : Int32)), .val (.int (1 : Int32)), .val (.int (1 : Int32))] [(.int (1 : Int32))])) _
          exact k
        obtain ⟨fs, hr, hrun, hended, hW, hsame⟩ := X24.leave (v := some (.int (1 : Int32))) (fun h => by rw [Bd.returns] at h; cases h)
        refine own_done (retN X24 hx (t := .boolean) Bd.returns (by simp) (hb hby at_169) hr) hrun hended ⟨_, _, rfl, ?_, ⟨_, rfl⟩, hW, hsame.mono (by decide) (by decide)⟩
        show Q_rm0 Z h0 n0 (some (.int (1 : Int32))) T24.heap _
        rw [e24]
        exact ⟨rfl, N24⟩
      · refine own_go (B := T24.setTop (mkF m 169 #[.val (.int p0), .val (.int p1), .val (.int p2), .val (.int p3), .val (.int (own_draw p0)), .val (.int (own_draw p1)), .val (.int (own_draw p2)), .val (.ref b4), .val (.ref b14), .val (.int (1 : Int32)), .val (.int (1 : Int32)), .val (.int (1 : Int32))] [(.int (1 : Int32))])) (fun t k => ?_) ?_
        · show Steps p.tables e below (T24.setTop (mkF m 131 #[.val (.int p0), .val (.int p1), .val (.int p2), .val (.int p3), .val (.int (own_draw p0)), .val (.int (own_draw p1)), .val (.int (own_draw p2)), .val (.ref b4), .val (.ref b14), .val (.int (1 : Int32)), .val (.int (1 : Int32)), .unset] [(.int (32768 : Int32)), (.int (own_draw p2)), (.int (own_set (own_val (own_draw p2))))])) _
          refine XS.icmpYes X24.here hx rfl (pc0 := 131) (pc' := 138) rfl (hb hby at_131) rfl (flt hc131).2.2.2 (by decide) (by decide) ?_
          show Steps p.tables e below (T24.setTop (mkF m 138 #[.val (.int p0), .val (.int p1), .val (.int p2), .val (.int p3), .val (.int (own_draw p0)), .val (.int (own_draw p1)), .val (.int (own_draw p2)), .val (.ref b4), .val (.ref b14), .val (.int (1 : Int32)), .val (.int (1 : Int32)), .unset] [(.int (own_set (own_val (own_draw p2))))])) _
          refine XS.iconst X24.here hx rfl (hb hby at_138) ?_
          show Steps p.tables e below (T24.setTop (mkF m 139 #[.val (.int p0), .val (.int p1), .val (.int p2), .val (.int p3), .val (.int (own_draw p0)), .val (.int (own_draw p1)), .val (.int (own_draw p2)), .val (.ref b4), .val (.ref b14), .val (.int (1 : Int32)), .val (.int (1 : Int32)), .unset] [(.int (0 : Int32)), (.int (own_set (own_val (own_draw p2))))])) _
          refine XS.icmpNo X24.here hx rfl (hb hby at_139) rfl (teq (by rw [own_isset]; simp [hc131] : (own_set (own_val (own_draw p2))) = (0 : Int32))).2 ?_
          show Steps p.tables e below (T24.setTop (mkF m 142 #[.val (.int p0), .val (.int p1), .val (.int p2), .val (.int p3), .val (.int (own_draw p0)), .val (.int (own_draw p1)), .val (.int (own_draw p2)), .val (.ref b4), .val (.ref b14), .val (.int (1 : Int32)), .val (.int (1 : Int32)), .unset] [])) _
          refine XS.iconst X24.here hx rfl (hb hby at_142) ?_
          show Steps p.tables e below (T24.setTop (mkF m 143 #[.val (.int p0), .val (.int p1), .val (.int p2), .val (.int p3), .val (.int (own_draw p0)), .val (.int (own_draw p1)), .val (.int (own_draw p2)), .val (.ref b4), .val (.ref b14), .val (.int (1 : Int32)), .val (.int (1 : Int32)), .unset] [(.int (1 : Int32))])) _
          refine XS.goto X24.here hx rfl (pc0 := 143) (pc' := 147) rfl (hb hby at_143) (by decide) (by decide) ?_
          show Steps p.tables e below (T24.setTop (mkF m 147 #[.val (.int p0), .val (.int p1), .val (.int p2), .val (.int p3), .val (.int (own_draw p0)), .val (.int (own_draw p1)), .val (.int (own_draw p2)), .val (.ref b4), .val (.ref b14), .val (.int (1 : Int32)), .val (.int (1 : Int32)), .unset] [(.int (1 : Int32))])) _
          refine XS.istore X24.here hx rfl (hb hby at_147) rfl (l' := #[.val (.int p0), .val (.int p1), .val (.int p2), .val (.int p3), .val (.int (own_draw p0)), .val (.int (own_draw p1)), .val (.int (own_draw p2)), .val (.ref b4), .val (.ref b14), .val (.int (1 : Int32)), .val (.int (1 : Int32)), .val (.int (1 : Int32))]) rfl ?_
          show Steps p.tables e below (T24.setTop (mkF m 149 #[.val (.int p0), .val (.int p1), .val (.int p2), .val (.int p3), .val (.int (own_draw p0)), .val (.int (own_draw p1)), .val (.int (own_draw p2)), .val (.ref b4), .val (.ref b14), .val (.int (1 : Int32)), .val (.int (1 : Int32)), .val (.int (1 : Int32))] [])) _
          refine XS.iload X24.here hx rfl (hb hby at_149) rfl ?_
          show Steps p.tables e below (T24.setTop (mkF m 151 #[.val (.int p0), .val (.int p1), .val (.int p2), .val (.int p3), .val (.int (own_draw p0)), .val (.int (own_draw p1)), .val (.int (own_draw p2)), .val (.ref b4), .val (.ref b14), .val (.int (1 : Int32)), .val (.int (1 : Int32)), .val (.int (1 : Int32))] [(.int (1 : Int32))])) _
          refine XS.ifNo X24.here hx rfl (hb hby at_151) rfl ((if0 _ _).trans (feq (by decide : ¬ ((1 : Int32) = (0 : Int32)))).1) ?_
          show Steps p.tables e below (T24.setTop (mkF m 154 #[.val (.int p0), .val (.int p1), .val (.int p2), .val (.int p3), .val (.int (own_draw p0)), .val (.int (own_draw p1)), .val (.int (own_draw p2)), .val (.ref b4), .val (.ref b14), .val (.int (1 : Int32)), .val (.int (1 : Int32)), .val (.int (1 : Int32))] [])) _
          refine XS.iload X24.here hx rfl (hb hby at_154) rfl ?_
          show Steps p.tables e below (T24.setTop (mkF m 156 #[.val (.int p0), .val (.int p1), .val (.int p2), .val (.int p3), .val (.int (own_draw p0)), .val (.int (own_draw p1)), .val (.int (own_draw p2)), .val (.ref b4), .val (.ref b14), .val (.int (1 : Int32)), .val (.int (1 : Int32)), .val (.int (1 : Int32))] [(.int (1 : Int32))])) _
          refine XS.ifNo X24.here hx rfl (hb hby at_156) rfl ((if0 _ _).trans (feq (by decide : ¬ ((1 : Int32) = (0 : Int32)))).1) ?_
          show Steps p.tables e below (T24.setTop (mkF m 159 #[.val (.int p0), .val (.int p1), .val (.int p2), .val (.int p3), .val (.int (own_draw p0)), .val (.int (own_draw p1)), .val (.int (own_draw p2)), .val (.ref b4), .val (.ref b14), .val (.int (1 : Int32)), .val (.int (1 : Int32)), .val (.int (1 : Int32))] [])) _
          refine XS.iload X24.here hx rfl (hb hby at_159) rfl ?_
          show Steps p.tables e below (T24.setTop (mkF m 161 #[.val (.int p0), .val (.int p1), .val (.int p2), .val (.int p3), .val (.int (own_draw p0)), .val (.int (own_draw p1)), .val (.int (own_draw p2)), .val (.ref b4), .val (.ref b14), .val (.int (1 : Int32)), .val (.int (1 : Int32)), .val (.int (1 : Int32))] [(.int (1 : Int32))])) _
          refine XS.ifNo X24.here hx rfl (hb hby at_161) rfl ((if0 _ _).trans (feq (by decide : ¬ ((1 : Int32) = (0 : Int32)))).1) ?_
          show Steps p.tables e below (T24.setTop (mkF m 164 #[.val (.int p0), .val (.int p1), .val (.int p2), .val (.int p3), .val (.int (own_draw p0)), .val (.int (own_draw p1)), .val (.int (own_draw p2)), .val (.ref b4), .val (.ref b14), .val (.int (1 : Int32)), .val (.int (1 : Int32)), .val (.int (1 : Int32))] [])) _
          refine XS.iconst X24.here hx rfl (hb hby at_164) ?_
          show Steps p.tables e below (T24.setTop (mkF m 165 #[.val (.int p0), .val (.int p1), .val (.int p2), .val (.int p3), .val (.int (own_draw p0)), .val (.int (own_draw p1)), .val (.int (own_draw p2)), .val (.ref b4), .val (.ref b14), .val (.int (1 : Int32)), .val (.int (1 : Int32)), .val (.int (1 : Int32))] [(.int (1 : Int32))])) _
          refine XS.goto X24.here hx rfl (pc0 := 165) (pc' := 169) rfl (hb hby at_165) (by decide) (by decide) ?_
          show Steps p.tables e below (T24.setTop (mkF m 169 #[.val (.int p0), .val (.int p1), .val (.int p2), .val (.int p3), .val (.int (own_draw p0)), .val (.int (own_draw p1)), .val (.int (own_draw p2)), .val (.ref b4), .val (.ref b14), .val (.int (1 : Int32)), .val (.int (1 : Int32)), .val (.int (1 : Int32))] [(.int (1 : Int32))])) _
          exact k
        obtain ⟨fs, hr, hrun, hended, hW, hsame⟩ := X24.leave (v := some (.int (1 : Int32))) (fun h => by rw [Bd.returns] at h; cases h)
        refine own_done (retN X24 hx (t := .boolean) Bd.returns (by simp) (hb hby at_169) hr) hrun hended ⟨_, _, rfl, ?_, ⟨_, rfl⟩, hW, hsame.mono (by decide) (by decide)⟩
        show Q_rm0 Z h0 n0 (some (.int (1 : Int32))) T24.heap _
        rw [e24]
        exact ⟨rfl, N24⟩
  · refine own_go (B := T18.setTop (mkF m 96 #[.val (.int p0), .val (.int p1), .val (.int p2), .val (.int p3), .val (.int (own_draw p0)), .val (.int (own_draw p1)), .val (.int (own_draw p2)), .val (.ref b4), .val (.ref b14), .val (.int (1 : Int32)), .unset, .unset] [(.int (1 : Int32)), (.ref b14)])) (fun t k => ?_) ?_
    · show Steps p.tables e below (T18.setTop (mkF m 75 #[.val (.int p0), .val (.int p1), .val (.int p2), .val (.int p3), .val (.int (own_draw p0)), .val (.int (own_draw p1)), .val (.int (own_draw p2)), .val (.ref b4), .val (.ref b14), .unset, .unset, .unset] [(.int (32768 : Int32)), (.int (own_draw p0)), (.int (own_set (own_val (own_draw p0))))])) _
      refine XS.icmpYes X18.here hx rfl (pc0 := 75) (pc' := 82) rfl (hb hby at_75) rfl (flt hc75).2.2.2 (by decide) (by decide) ?_
      show Steps p.tables e below (T18.setTop (mkF m 82 #[.val (.int p0), .val (.int p1), .val (.int p2), .val (.int p3), .val (.int (own_draw p0)), .val (.int (own_draw p1)), .val (.int (own_draw p2)), .val (.ref b4), .val (.ref b14), .unset, .unset, .unset] [(.int (own_set (own_val (own_draw p0))))])) _
      refine XS.iconst X18.here hx rfl (hb hby at_82) ?_
      show Steps p.tables e below (T18.setTop (mkF m 83 #[.val (.int p0), .val (.int p1), .val (.int p2), .val (.int p3), .val (.int (own_draw p0)), .val (.int (own_draw p1)), .val (.int (own_draw p2)), .val (.ref b4), .val (.ref b14), .unset, .unset, .unset] [(.int (0 : Int32)), (.int (own_set (own_val (own_draw p0))))])) _
      refine XS.icmpNo X18.here hx rfl (hb hby at_83) rfl (teq (by rw [own_isset]; simp [hc75] : (own_set (own_val (own_draw p0))) = (0 : Int32))).2 ?_
      show Steps p.tables e below (T18.setTop (mkF m 86 #[.val (.int p0), .val (.int p1), .val (.int p2), .val (.int p3), .val (.int (own_draw p0)), .val (.int (own_draw p1)), .val (.int (own_draw p2)), .val (.ref b4), .val (.ref b14), .unset, .unset, .unset] [])) _
      refine XS.iconst X18.here hx rfl (hb hby at_86) ?_
      show Steps p.tables e below (T18.setTop (mkF m 87 #[.val (.int p0), .val (.int p1), .val (.int p2), .val (.int p3), .val (.int (own_draw p0)), .val (.int (own_draw p1)), .val (.int (own_draw p2)), .val (.ref b4), .val (.ref b14), .unset, .unset, .unset] [(.int (1 : Int32))])) _
      refine XS.goto X18.here hx rfl (pc0 := 87) (pc' := 91) rfl (hb hby at_87) (by decide) (by decide) ?_
      show Steps p.tables e below (T18.setTop (mkF m 91 #[.val (.int p0), .val (.int p1), .val (.int p2), .val (.int p3), .val (.int (own_draw p0)), .val (.int (own_draw p1)), .val (.int (own_draw p2)), .val (.ref b4), .val (.ref b14), .unset, .unset, .unset] [(.int (1 : Int32))])) _
      refine XS.istore X18.here hx rfl (hb hby at_91) rfl (l' := #[.val (.int p0), .val (.int p1), .val (.int p2), .val (.int p3), .val (.int (own_draw p0)), .val (.int (own_draw p1)), .val (.int (own_draw p2)), .val (.ref b4), .val (.ref b14), .val (.int (1 : Int32)), .unset, .unset]) rfl ?_
      show Steps p.tables e below (T18.setTop (mkF m 93 #[.val (.int p0), .val (.int p1), .val (.int p2), .val (.int p3), .val (.int (own_draw p0)), .val (.int (own_draw p1)), .val (.int (own_draw p2)), .val (.ref b4), .val (.ref b14), .val (.int (1 : Int32)), .unset, .unset] [])) _
      refine XS.aload X18.here hx rfl (hb hby at_93) rfl rfl ?_
      show Steps p.tables e below (T18.setTop (mkF m 95 #[.val (.int p0), .val (.int p1), .val (.int p2), .val (.int p3), .val (.int (own_draw p0)), .val (.int (own_draw p1)), .val (.int (own_draw p2)), .val (.ref b4), .val (.ref b14), .val (.int (1 : Int32)), .unset, .unset] [(.ref b14)])) _
      refine XS.iconst X18.here hx rfl (hb hby at_95) ?_
      show Steps p.tables e below (T18.setTop (mkF m 96 #[.val (.int p0), .val (.int p1), .val (.int p2), .val (.int p3), .val (.int (own_draw p0)), .val (.int (own_draw p1)), .val (.int (own_draw p2)), .val (.ref b4), .val (.ref b14), .val (.int (1 : Int32)), .unset, .unset] [(.int (1 : Int32)), (.ref b14)])) _
      exact k
    obtain ⟨cq25, kq25, q25a, q25b, q25c⟩ := isOf hZ e18 E_b14
    obtain ⟨_, _, ⟨T26, L26, k26, n26⟩, -, X26, ⟨Lc26, hQ26, l26, y26, z26⟩, st26⟩ := X18.virtualBack hx (y := (⟨"com/example/holdfast/holdfast/Mip$Solution", "isSet", "(I)Z"⟩ : MethodName)) (z := (⟨"com/example/holdfast/holdfast/Mip$Solution", "isSet", "(I)Z"⟩ : MethodName)) hown (mvT hZ (hw _ (List.mem_of_getElem? (i := 35) rfl))) (mvT hZ (hw _ (List.mem_of_getElem? (i := 36) rfl))) (notFace_of_selects (args := #[]) (mvT hZ (hw _ (List.mem_of_getElem? (i := 38) rfl)))) (mvT hZ (hw _ (List.mem_of_getElem? (i := 38) rfl))) (mvT hZ (hw _ (List.mem_of_getElem? (i := 37) rfl))) (by decide) (backOf (W := 0) (rm7_1 l Z a0 hw [] b14 b4 k4 (own_val (own_draw p0)) (own_val (own_draw p1)) (own_val (own_draw p2)) h16 n0 Z0 F_values_b14 V_b4) hZ (hw _ (List.mem_of_getElem? (i := 39) rfl)) (hw _ (List.mem_of_getElem? (i := 13) rfl)) (by decide) (by decide)) q25a q25c (g := (mkF m 96 #[.val (.int p0), .val (.int p1), .val (.int p2), .val (.int p3), .val (.int (own_draw p0)), .val (.int (own_draw p1)), .val (.int (own_draw p2)), .val (.ref b4), .val (.ref b14), .val (.int (1 : Int32)), .unset, .unset] [(.int (1 : Int32)), (.ref b14)])) rfl (by rw [hml]; rfl) (Steps.refl _) (argsL := [(.int (1 : Int32))]) (rest := []) (lenOf pd_5 rfl) rfl (by show 2 * 0 + _ ≤ _; exact Nat.le_of_eq rfl) (hb hby at_96) (fun _ _ => ⟨rfl, e18, Nat.le_of_ble_eq_true rfl, Nat.le_of_ble_eq_true rfl⟩)
    dsimp only [Pt.U, Pt.locs, Pt.cells, Pt.slots] at X26 l26 y26 z26 st26 hQ26
    subst l26 y26 z26
    obtain ⟨h26, e26⟩ : ∃ z, T26.heap = z := ⟨_, rfl⟩
    rw [e26] at hQ26
    obtain ⟨rfl, N26q, eq26⟩ := hQ26
    have N26 := Fr.app N18 N26q
    rw [eq26] at e26
    refine own_go (B := T26.setTop (mkF m 99 #[.val (.int p0), .val (.int p1), .val (.int p2), .val (.int p3), .val (.int (own_draw p0)), .val (.int (own_draw p1)), .val (.int (own_draw p2)), .val (.ref b4), .val (.ref b14), .val (.int (1 : Int32)), .unset, .unset] [(.int (own_set (own_val (own_draw p1))))])) (fun t k => st26.trans k) ?_
    refine own_go (B := T26.setTop (mkF m 103 #[.val (.int p0), .val (.int p1), .val (.int p2), .val (.int p3), .val (.int (own_draw p0)), .val (.int (own_draw p1)), .val (.int (own_draw p2)), .val (.ref b4), .val (.ref b14), .val (.int (1 : Int32)), .unset, .unset] [(.int (32768 : Int32)), (.int (own_draw p1)), (.int (own_set (own_val (own_draw p1))))])) (fun t k => ?_) ?_
    · show Steps p.tables e below (T26.setTop (mkF m 99 #[.val (.int p0), .val (.int p1), .val (.int p2), .val (.int p3), .val (.int (own_draw p0)), .val (.int (own_draw p1)), .val (.int (own_draw p2)), .val (.ref b4), .val (.ref b14), .val (.int (1 : Int32)), .unset, .unset] [(.int (own_set (own_val (own_draw p1))))])) _
      refine XS.iload X26.here hx rfl (hb hby at_99) rfl ?_
      show Steps p.tables e below (T26.setTop (mkF m 101 #[.val (.int p0), .val (.int p1), .val (.int p2), .val (.int p3), .val (.int (own_draw p0)), .val (.int (own_draw p1)), .val (.int (own_draw p2)), .val (.ref b4), .val (.ref b14), .val (.int (1 : Int32)), .unset, .unset] [(.int (own_draw p1)), (.int (own_set (own_val (own_draw p1))))])) _
      refine X26.ldcI hx hown (mvT hZ (hw _ (List.mem_of_getElem? (i := 41) rfl))) (g := (mkF m 101 #[.val (.int p0), .val (.int p1), .val (.int p2), .val (.int p3), .val (.int (own_draw p0)), .val (.int (own_draw p1)), .val (.int (own_draw p2)), .val (.ref b4), .val (.ref b14), .val (.int (1 : Int32)), .unset, .unset] [(.int (own_draw p1)), (.int (own_set (own_val (own_draw p1))))])) rfl (hb hby at_101) ?_
      show Steps p.tables e below (T26.setTop (mkF m 103 #[.val (.int p0), .val (.int p1), .val (.int p2), .val (.int p3), .val (.int (own_draw p0)), .val (.int (own_draw p1)), .val (.int (own_draw p2)), .val (.ref b4), .val (.ref b14), .val (.int (1 : Int32)), .unset, .unset] [(.int (32768 : Int32)), (.int (own_draw p1)), (.int (own_set (own_val (own_draw p1))))])) _
      exact k
    by_cases hc103 : (32768 : Int32) < (own_draw p1)
    · refine own_go (B := T26.setTop (mkF m 124 #[.val (.int p0), .val (.int p1), .val (.int p2), .val (.int p3), .val (.int (own_draw p0)), .val (.int (own_draw p1)), .val (.int (own_draw p2)), .val (.ref b4), .val (.ref b14), .val (.int (1 : Int32)), .val (.int (1 : Int32)), .unset] [(.int (2 : Int32)), (.ref b14)])) (fun t k => ?_) ?_
      · show Steps p.tables e below (T26.setTop (mkF m 103 #[.val (.int p0), .val (.int p1), .val (.int p2), .val (.int p3), .val (.int (own_draw p0)), .val (.int (own_draw p1)), .val (.int (own_draw p2)), .val (.ref b4), .val (.ref b14), .val (.int (1 : Int32)), .unset, .unset] [(.int (32768 : Int32)), (.int (own_draw p1)), (.int (own_set (own_val (own_draw p1))))])) _
        refine XS.icmpNo X26.here hx rfl (hb hby at_103) rfl (tlt hc103).2.2.2 ?_
        show Steps p.tables e below (T26.setTop (mkF m 106 #[.val (.int p0), .val (.int p1), .val (.int p2), .val (.int p3), .val (.int (own_draw p0)), .val (.int (own_draw p1)), .val (.int (own_draw p2)), .val (.ref b4), .val (.ref b14), .val (.int (1 : Int32)), .unset, .unset] [(.int (own_set (own_val (own_draw p1))))])) _
        refine XS.iconst X26.here hx rfl (hb hby at_106) ?_
        show Steps p.tables e below (T26.setTop (mkF m 107 #[.val (.int p0), .val (.int p1), .val (.int p2), .val (.int p3), .val (.int (own_draw p0)), .val (.int (own_draw p1)), .val (.int (own_draw p2)), .val (.ref b4), .val (.ref b14), .val (.int (1 : Int32)), .unset, .unset] [(.int (1 : Int32)), (.int (own_set (own_val (own_draw p1))))])) _
        refine XS.goto X26.here hx rfl (pc0 := 107) (pc' := 111) rfl (hb hby at_107) (by decide) (by decide) ?_
        show Steps p.tables e below (T26.setTop (mkF m 111 #[.val (.int p0), .val (.int p1), .val (.int p2), .val (.int p3), .val (.int (own_draw p0)), .val (.int (own_draw p1)), .val (.int (own_draw p2)), .val (.ref b4), .val (.ref b14), .val (.int (1 : Int32)), .unset, .unset] [(.int (1 : Int32)), (.int (own_set (own_val (own_draw p1))))])) _
        refine XS.icmpNo X26.here hx rfl (hb hby at_111) rfl (teq (by rw [own_isset]; simp [hc103] : (own_set (own_val (own_draw p1))) = (1 : Int32))).2 ?_
        show Steps p.tables e below (T26.setTop (mkF m 114 #[.val (.int p0), .val (.int p1), .val (.int p2), .val (.int p3), .val (.int (own_draw p0)), .val (.int (own_draw p1)), .val (.int (own_draw p2)), .val (.ref b4), .val (.ref b14), .val (.int (1 : Int32)), .unset, .unset] [])) _
        refine XS.iconst X26.here hx rfl (hb hby at_114) ?_
        show Steps p.tables e below (T26.setTop (mkF m 115 #[.val (.int p0), .val (.int p1), .val (.int p2), .val (.int p3), .val (.int (own_draw p0)), .val (.int (own_draw p1)), .val (.int (own_draw p2)), .val (.ref b4), .val (.ref b14), .val (.int (1 : Int32)), .unset, .unset] [(.int (1 : Int32))])) _
        refine XS.goto X26.here hx rfl (pc0 := 115) (pc' := 119) rfl (hb hby at_115) (by decide) (by decide) ?_
        show Steps p.tables e below (T26.setTop (mkF m 119 #[.val (.int p0), .val (.int p1), .val (.int p2), .val (.int p3), .val (.int (own_draw p0)), .val (.int (own_draw p1)), .val (.int (own_draw p2)), .val (.ref b4), .val (.ref b14), .val (.int (1 : Int32)), .unset, .unset] [(.int (1 : Int32))])) _
        refine XS.istore X26.here hx rfl (hb hby at_119) rfl (l' := #[.val (.int p0), .val (.int p1), .val (.int p2), .val (.int p3), .val (.int (own_draw p0)), .val (.int (own_draw p1)), .val (.int (own_draw p2)), .val (.ref b4), .val (.ref b14), .val (.int (1 : Int32)), .val (.int (1 : Int32)), .unset]) rfl ?_
        show Steps p.tables e below (T26.setTop (mkF m 121 #[.val (.int p0), .val (.int p1), .val (.int p2), .val (.int p3), .val (.int (own_draw p0)), .val (.int (own_draw p1)), .val (.int (own_draw p2)), .val (.ref b4), .val (.ref b14), .val (.int (1 : Int32)), .val (.int (1 : Int32)), .unset] [])) _
        refine XS.aload X26.here hx rfl (hb hby at_121) rfl rfl ?_
        show Steps p.tables e below (T26.setTop (mkF m 123 #[.val (.int p0), .val (.int p1), .val (.int p2), .val (.int p3), .val (.int (own_draw p0)), .val (.int (own_draw p1)), .val (.int (own_draw p2)), .val (.ref b4), .val (.ref b14), .val (.int (1 : Int32)), .val (.int (1 : Int32)), .unset] [(.ref b14)])) _
        refine XS.iconst X26.here hx rfl (hb hby at_123) ?_
        show Steps p.tables e below (T26.setTop (mkF m 124 #[.val (.int p0), .val (.int p1), .val (.int p2), .val (.int p3), .val (.int (own_draw p0)), .val (.int (own_draw p1)), .val (.int (own_draw p2)), .val (.ref b4), .val (.ref b14), .val (.int (1 : Int32)), .val (.int (1 : Int32)), .unset] [(.int (2 : Int32)), (.ref b14)])) _
        exact k
      obtain ⟨cq27, kq27, q27a, q27b, q27c⟩ := isOf hZ e26 E_b14
      obtain ⟨_, _, ⟨T28, L28, k28, n28⟩, -, X28, ⟨Lc28, hQ28, l28, y28, z28⟩, st28⟩ := X26.virtualBack hx (y := (⟨"com/example/holdfast/holdfast/Mip$Solution", "isSet", "(I)Z"⟩ : MethodName)) (z := (⟨"com/example/holdfast/holdfast/Mip$Solution", "isSet", "(I)Z"⟩ : MethodName)) hown (mvT hZ (hw _ (List.mem_of_getElem? (i := 35) rfl))) (mvT hZ (hw _ (List.mem_of_getElem? (i := 36) rfl))) (notFace_of_selects (args := #[]) (mvT hZ (hw _ (List.mem_of_getElem? (i := 38) rfl)))) (mvT hZ (hw _ (List.mem_of_getElem? (i := 38) rfl))) (mvT hZ (hw _ (List.mem_of_getElem? (i := 37) rfl))) (by decide) (backOf (W := 0) (rm7_2 l Z a0 hw [] b14 b4 k4 (own_val (own_draw p0)) (own_val (own_draw p1)) (own_val (own_draw p2)) h16 n0 Z0 F_values_b14 V_b4) hZ (hw _ (List.mem_of_getElem? (i := 39) rfl)) (hw _ (List.mem_of_getElem? (i := 13) rfl)) (by decide) (by decide)) q27a q27c (g := (mkF m 124 #[.val (.int p0), .val (.int p1), .val (.int p2), .val (.int p3), .val (.int (own_draw p0)), .val (.int (own_draw p1)), .val (.int (own_draw p2)), .val (.ref b4), .val (.ref b14), .val (.int (1 : Int32)), .val (.int (1 : Int32)), .unset] [(.int (2 : Int32)), (.ref b14)])) rfl (by rw [hml]; rfl) (Steps.refl _) (argsL := [(.int (2 : Int32))]) (rest := []) (lenOf pd_5 rfl) rfl (by show 2 * 0 + _ ≤ _; exact Nat.le_of_eq rfl) (hb hby at_124) (fun _ _ => ⟨rfl, e26, Nat.le_of_ble_eq_true rfl, Nat.le_of_ble_eq_true rfl⟩)
      dsimp only [Pt.U, Pt.locs, Pt.cells, Pt.slots] at X28 l28 y28 z28 st28 hQ28
      subst l28 y28 z28
      obtain ⟨h28, e28⟩ : ∃ z, T28.heap = z := ⟨_, rfl⟩
      rw [e28] at hQ28
      obtain ⟨rfl, N28q, eq28⟩ := hQ28
      have N28 := Fr.app N26 N28q
      rw [eq28] at e28
      refine own_go (B := T28.setTop (mkF m 127 #[.val (.int p0), .val (.int p1), .val (.int p2), .val (.int p3), .val (.int (own_draw p0)), .val (.int (own_draw p1)), .val (.int (own_draw p2)), .val (.ref b4), .val (.ref b14), .val (.int (1 : Int32)), .val (.int (1 : Int32)), .unset] [(.int (own_set (own_val (own_draw p2))))])) (fun t k => st28.trans k) ?_
      refine own_go (B := T28.setTop (mkF m 131 #[.val (.int p0), .val (.int p1), .val (.int p2), .val (.int p3), .val (.int (own_draw p0)), .val (.int (own_draw p1)), .val (.int (own_draw p2)), .val (.ref b4), .val (.ref b14), .val (.int (1 : Int32)), .val (.int (1 : Int32)), .unset] [(.int (32768 : Int32)), (.int (own_draw p2)), (.int (own_set (own_val (own_draw p2))))])) (fun t k => ?_) ?_
      · show Steps p.tables e below (T28.setTop (mkF m 127 #[.val (.int p0), .val (.int p1), .val (.int p2), .val (.int p3), .val (.int (own_draw p0)), .val (.int (own_draw p1)), .val (.int (own_draw p2)), .val (.ref b4), .val (.ref b14), .val (.int (1 : Int32)), .val (.int (1 : Int32)), .unset] [(.int (own_set (own_val (own_draw p2))))])) _
        refine XS.iload X28.here hx rfl (hb hby at_127) rfl ?_
        show Steps p.tables e below (T28.setTop (mkF m 129 #[.val (.int p0), .val (.int p1), .val (.int p2), .val (.int p3), .val (.int (own_draw p0)), .val (.int (own_draw p1)), .val (.int (own_draw p2)), .val (.ref b4), .val (.ref b14), .val (.int (1 : Int32)), .val (.int (1 : Int32)), .unset] [(.int (own_draw p2)), (.int (own_set (own_val (own_draw p2))))])) _
        refine X28.ldcI hx hown (mvT hZ (hw _ (List.mem_of_getElem? (i := 41) rfl))) (g := (mkF m 129 #[.val (.int p0), .val (.int p1), .val (.int p2), .val (.int p3), .val (.int (own_draw p0)), .val (.int (own_draw p1)), .val (.int (own_draw p2)), .val (.ref b4), .val (.ref b14), .val (.int (1 : Int32)), .val (.int (1 : Int32)), .unset] [(.int (own_draw p2)), (.int (own_set (own_val (own_draw p2))))])) rfl (hb hby at_129) ?_
        show Steps p.tables e below (T28.setTop (mkF m 131 #[.val (.int p0), .val (.int p1), .val (.int p2), .val (.int p3), .val (.int (own_draw p0)), .val (.int (own_draw p1)), .val (.int (own_draw p2)), .val (.ref b4), .val (.ref b14), .val (.int (1 : Int32)), .val (.int (1 : Int32)), .unset] [(.int (32768 : Int32)), (.int (own_draw p2)), (.int (own_set (own_val (own_draw p2))))])) _
        exact k
      by_cases hc131 : (32768 : Int32) < (own_draw p2)
      · refine own_go (B := T28.setTop (mkF m 169 #[.val (.int p0), .val (.int p1), .val (.int p2), .val (.int p3), .val (.int (own_draw p0)), .val (.int (own_draw p1)), .val (.int (own_draw p2)), .val (.ref b4), .val (.ref b14), .val (.int (1 : Int32)), .val (.int (1 : Int32)), .val (.int (1 : Int32))] [(.int (1 : Int32))])) (fun t k => ?_) ?_
        · show Steps p.tables e below (T28.setTop (mkF m 131 #[.val (.int p0), .val (.int p1), .val (.int p2), .val (.int p3), .val (.int (own_draw p0)), .val (.int (own_draw p1)), .val (.int (own_draw p2)), .val (.ref b4), .val (.ref b14), .val (.int (1 : Int32)), .val (.int (1 : Int32)), .unset] [(.int (32768 : Int32)), (.int (own_draw p2)), (.int (own_set (own_val (own_draw p2))))])) _
          refine XS.icmpNo X28.here hx rfl (hb hby at_131) rfl (tlt hc131).2.2.2 ?_
          show Steps p.tables e below (T28.setTop (mkF m 134 #[.val (.int p0), .val (.int p1), .val (.int p2), .val (.int p3), .val (.int (own_draw p0)), .val (.int (own_draw p1)), .val (.int (own_draw p2)), .val (.ref b4), .val (.ref b14), .val (.int (1 : Int32)), .val (.int (1 : Int32)), .unset] [(.int (own_set (own_val (own_draw p2))))])) _
          refine XS.iconst X28.here hx rfl (hb hby at_134) ?_
          show Steps p.tables e below (T28.setTop (mkF m 135 #[.val (.int p0), .val (.int p1), .val (.int p2), .val (.int p3), .val (.int (own_draw p0)), .val (.int (own_draw p1)), .val (.int (own_draw p2)), .val (.ref b4), .val (.ref b14), .val (.int (1 : Int32)), .val (.int (1 : Int32)), .unset] [(.int (1 : Int32)), (.int (own_set (own_val (own_draw p2))))])) _
          refine XS.goto X28.here hx rfl (pc0 := 135) (pc' := 139) rfl (hb hby at_135) (by decide) (by decide) ?_
          show Steps p.tables e below (T28.setTop (mkF m 139 #[.val (.int p0), .val (.int p1), .val (.int p2), .val (.int p3), .val (.int (own_draw p0)), .val (.int (own_draw p1)), .val (.int (own_draw p2)), .val (.ref b4), .val (.ref b14), .val (.int (1 : Int32)), .val (.int (1 : Int32)), .unset] [(.int (1 : Int32)), (.int (own_set (own_val (own_draw p2))))])) _
          refine XS.icmpNo X28.here hx rfl (hb hby at_139) rfl (teq (by rw [own_isset]; simp [hc131] : (own_set (own_val (own_draw p2))) = (1 : Int32))).2 ?_
          show Steps p.tables e below (T28.setTop (mkF m 142 #[.val (.int p0), .val (.int p1), .val (.int p2), .val (.int p3), .val (.int (own_draw p0)), .val (.int (own_draw p1)), .val (.int (own_draw p2)), .val (.ref b4), .val (.ref b14), .val (.int (1 : Int32)), .val (.int (1 : Int32)), .unset] [])) _
          refine XS.iconst X28.here hx rfl (hb hby at_142) ?_
          show Steps p.tables e below (T28.setTop (mkF m 143 #[.val (.int p0), .val (.int p1), .val (.int p2), .val (.int p3), .val (.int (own_draw p0)), .val (.int (own_draw p1)), .val (.int (own_draw p2)), .val (.ref b4), .val (.ref b14), .val (.int (1 : Int32)), .val (.int (1 : Int32)), .unset] [(.int (1 : Int32))])) _
          refine XS.goto X28.here hx rfl (pc0 := 143) (pc' := 147) rfl (hb hby at_143) (by decide) (by decide) ?_
          show Steps p.tables e below (T28.setTop (mkF m 147 #[.val (.int p0), .val (.int p1), .val (.int p2), .val (.int p3), .val (.int (own_draw p0)), .val (.int (own_draw p1)), .val (.int (own_draw p2)), .val (.ref b4), .val (.ref b14), .val (.int (1 : Int32)), .val (.int (1 : Int32)), .unset] [(.int (1 : Int32))])) _
          refine XS.istore X28.here hx rfl (hb hby at_147) rfl (l' := #[.val (.int p0), .val (.int p1), .val (.int p2), .val (.int p3), .val (.int (own_draw p0)), .val (.int (own_draw p1)), .val (.int (own_draw p2)), .val (.ref b4), .val (.ref b14), .val (.int (1 : Int32)), .val (.int (1 : Int32)), .val (.int (1 : Int32))]) rfl ?_
          show Steps p.tables e below (T28.setTop (mkF m 149 #[.val (.int p0), .val (.int p1), .val (.int p2), .val (.int p3), .val (.int (own_draw p0)), .val (.int (own_draw p1)), .val (.int (own_draw p2)), .val (.ref b4), .val (.ref b14), .val (.int (1 : Int32)), .val (.int (1 : Int32)), .val (.int (1 : Int32))] [])) _
          refine XS.iload X28.here hx rfl (hb hby at_149) rfl ?_
          show Steps p.tables e below (T28.setTop (mkF m 151 #[.val (.int p0), .val (.int p1), .val (.int p2), .val (.int p3), .val (.int (own_draw p0)), .val (.int (own_draw p1)), .val (.int (own_draw p2)), .val (.ref b4), .val (.ref b14), .val (.int (1 : Int32)), .val (.int (1 : Int32)), .val (.int (1 : Int32))] [(.int (1 : Int32))])) _
          refine XS.ifNo X28.here hx rfl (hb hby at_151) rfl ((if0 _ _).trans (feq (by decide : ¬ ((1 : Int32) = (0 : Int32)))).1) ?_
          show Steps p.tables e below (T28.setTop (mkF m 154 #[.val (.int p0), .val (.int p1), .val (.int p2), .val (.int p3), .val (.int (own_draw p0)), .val (.int (own_draw p1)), .val (.int (own_draw p2)), .val (.ref b4), .val (.ref b14), .val (.int (1 : Int32)), .val (.int (1 : Int32)), .val (.int (1 : Int32))] [])) _
          refine XS.iload X28.here hx rfl (hb hby at_154) rfl ?_
          show Steps p.tables e below (T28.setTop (mkF m 156 #[.val (.int p0), .val (.int p1), .val (.int p2), .val (.int p3), .val (.int (own_draw p0)), .val (.int (own_draw p1)), .val (.int (own_draw p2)), .val (.ref b4), .val (.ref b14), .val (.int (1 : Int32)), .val (.int (1 : Int32)), .val (.int (1 : Int32))] [(.int (1 : Int32))])) _
          refine XS.ifNo X28.here hx rfl (hb hby at_156) rfl ((if0 _ _).trans (feq (by decide : ¬ ((1 : Int32) = (0 : Int32)))).1) ?_
          show Steps p.tables e below (T28.setTop (mkF m 159 #[.val (.int p0), .val (.int p1), .val (.int p2), .val (.int p3), .val (.int (own_draw p0)), .val (.int (own_draw p1)), .val (.int (own_draw p2)), .val (.ref b4), .val (.ref b14), .val (.int (1 : Int32)), .val (.int (1 : Int32)), .val (.int (1 : Int32))] [])) _
          refine XS.iload X28.here hx rfl (hb hby at_159) rfl ?_
          show Steps p.tables e below (T28.setTop (mkF m 161 #[.val (.int p0), .val (.int p1), .val (.int p2), .val (.int p3), .val (.int (own_draw p0)), .val (.int (own_draw p1)), .val (.int (own_draw p2)), .val (.ref b4), .val (.ref b14), .val (.int (1 : Int32)), .val (.int (1 : Int32)), .val (.int (1 : Int32))] [(.int (1 : Int32))])) _
          refine XS.ifNo X28.here hx rfl (hb hby at_161) rfl ((if0 _ _).trans (feq (by decide : ¬ ((1 : Int32) = (0 : Int32)))).1) ?_
          show Steps p.tables e below (T28.setTop (mkF m 164 #[.val (.int p0), .val (.int p1), .val (.int p2), .val (.int p3), .val (.int (own_draw p0)), .val (.int (own_draw p1)), .val (.int (own_draw p2)), .val (.ref b4), .val (.ref b14), .val (.int (1 : Int32)), .val (.int (1 : Int32)), .val (.int (1 : Int32))] [])) _
          refine XS.iconst X28.here hx rfl (hb hby at_164) ?_
          show Steps p.tables e below (T28.setTop (mkF m 165 #[.val (.int p0), .val (.int p1), .val (.int p2), .val (.int p3), .val (.int (own_draw p0)), .val (.int (own_draw p1)), .val (.int (own_draw p2)), .val (.ref b4), .val (.ref b14), .val (.int (1 : Int32)), .val (.int (1 : Int32)), .val (.int (1 : Int32))] [(.int (1 : Int32))])) _
          refine XS.goto X28.here hx rfl (pc0 := 165) (pc' := 169) rfl (hb hby at_165) (by decide) (by decide) ?_
          show Steps p.tables e below (T28.setTop (mkF m 169 #[.val (.int p0), .val (.int p1), .val (.int p2), .val (.int p3), .val (.int (own_draw p0)), .val (.int (own_draw p1)), .val (.int (own_draw p2)), .val (.ref b4), .val (.ref b14), .val (.int (1 : Int32)), .val (.int (1 : Int32)), .val (.int (1 : Int32))] [(.int (1 : Int32))])) _
          exact k
        obtain ⟨fs, hr, hrun, hended, hW, hsame⟩ := X28.leave (v := some (.int (1 : Int32))) (fun h => by rw [Bd.returns] at h; cases h)
        refine own_done (retN X28 hx (t := .boolean) Bd.returns (by simp) (hb hby at_169) hr) hrun hended ⟨_, _, rfl, ?_, ⟨_, rfl⟩, hW, hsame.mono (by decide) (by decide)⟩
        show Q_rm0 Z h0 n0 (some (.int (1 : Int32))) T28.heap _
        rw [e28]
        exact ⟨rfl, N28⟩
      · refine own_go (B := T28.setTop (mkF m 169 #[.val (.int p0), .val (.int p1), .val (.int p2), .val (.int p3), .val (.int (own_draw p0)), .val (.int (own_draw p1)), .val (.int (own_draw p2)), .val (.ref b4), .val (.ref b14), .val (.int (1 : Int32)), .val (.int (1 : Int32)), .val (.int (1 : Int32))] [(.int (1 : Int32))])) (fun t k => ?_) ?_
        · show Steps p.tables e below (T28.setTop (mkF m 131 #[.val (.int p0), .val (.int p1), .val (.int p2), .val (.int p3), .val (.int (own_draw p0)), .val (.int (own_draw p1)), .val (.int (own_draw p2)), .val (.ref b4), .val (.ref b14), .val (.int (1 : Int32)), .val (.int (1 : Int32)), .unset] [(.int (32768 : Int32)), (.int (own_draw p2)), (.int (own_set (own_val (own_draw p2))))])) _
          refine XS.icmpYes X28.here hx rfl (pc0 := 131) (pc' := 138) rfl (hb hby at_131) rfl (flt hc131).2.2.2 (by decide) (by decide) ?_
          show Steps p.tables e below (T28.setTop (mkF m 138 #[.val (.int p0), .val (.int p1), .val (.int p2), .val (.int p3), .val (.int (own_draw p0)), .val (.int (own_draw p1)), .val (.int (own_draw p2)), .val (.ref b4), .val (.ref b14), .val (.int (1 : Int32)), .val (.int (1 : Int32)), .unset] [(.int (own_set (own_val (own_draw p2))))])) _
          refine XS.iconst X28.here hx rfl (hb hby at_138) ?_
          show Steps p.tables e below (T28.setTop (mkF m 139 #[.val (.int p0), .val (.int p1), .val (.int p2), .val (.int p3), .val (.int (own_draw p0)), .val (.int (own_draw p1)), .val (.int (own_draw p2)), .val (.ref b4), .val (.ref b14), .val (.int (1 : Int32)), .val (.int (1 : Int32)), .unset] [(.int (0 : Int32)), (.int (own_set (own_val (own_draw p2))))])) _
          refine XS.icmpNo X28.here hx rfl (hb hby at_139) rfl (teq (by rw [own_isset]; simp [hc131] : (own_set (own_val (own_draw p2))) = (0 : Int32))).2 ?_
          show Steps p.tables e below (T28.setTop (mkF m 142 #[.val (.int p0), .val (.int p1), .val (.int p2), .val (.int p3), .val (.int (own_draw p0)), .val (.int (own_draw p1)), .val (.int (own_draw p2)), .val (.ref b4), .val (.ref b14), .val (.int (1 : Int32)), .val (.int (1 : Int32)), .unset] [])) _
          refine XS.iconst X28.here hx rfl (hb hby at_142) ?_
          show Steps p.tables e below (T28.setTop (mkF m 143 #[.val (.int p0), .val (.int p1), .val (.int p2), .val (.int p3), .val (.int (own_draw p0)), .val (.int (own_draw p1)), .val (.int (own_draw p2)), .val (.ref b4), .val (.ref b14), .val (.int (1 : Int32)), .val (.int (1 : Int32)), .unset] [(.int (1 : Int32))])) _
          refine XS.goto X28.here hx rfl (pc0 := 143) (pc' := 147) rfl (hb hby at_143) (by decide) (by decide) ?_
          show Steps p.tables e below (T28.setTop (mkF m 147 #[.val (.int p0), .val (.int p1), .val (.int p2), .val (.int p3), .val (.int (own_draw p0)), .val (.int (own_draw p1)), .val (.int (own_draw p2)), .val (.ref b4), .val (.ref b14), .val (.int (1 : Int32)), .val (.int (1 : Int32)), .unset] [(.int (1 : Int32))])) _
          refine XS.istore X28.here hx rfl (hb hby at_147) rfl (l' := #[.val (.int p0), .val (.int p1), .val (.int p2), .val (.int p3), .val (.int (own_draw p0)), .val (.int (own_draw p1)), .val (.int (own_draw p2)), .val (.ref b4), .val (.ref b14), .val (.int (1 : Int32)), .val (.int (1 : Int32)), .val (.int (1 : Int32))]) rfl ?_
          show Steps p.tables e below (T28.setTop (mkF m 149 #[.val (.int p0), .val (.int p1), .val (.int p2), .val (.int p3), .val (.int (own_draw p0)), .val (.int (own_draw p1)), .val (.int (own_draw p2)), .val (.ref b4), .val (.ref b14), .val (.int (1 : Int32)), .val (.int (1 : Int32)), .val (.int (1 : Int32))] [])) _
          refine XS.iload X28.here hx rfl (hb hby at_149) rfl ?_
          show Steps p.tables e below (T28.setTop (mkF m 151 #[.val (.int p0), .val (.int p1), .val (.int p2), .val (.int p3), .val (.int (own_draw p0)), .val (.int (own_draw p1)), .val (.int (own_draw p2)), .val (.ref b4), .val (.ref b14), .val (.int (1 : Int32)), .val (.int (1 : Int32)), .val (.int (1 : Int32))] [(.int (1 : Int32))])) _
          refine XS.ifNo X28.here hx rfl (hb hby at_151) rfl ((if0 _ _).trans (feq (by decide : ¬ ((1 : Int32) = (0 : Int32)))).1) ?_
          show Steps p.tables e below (T28.setTop (mkF m 154 #[.val (.int p0), .val (.int p1), .val (.int p2), .val (.int p3), .val (.int (own_draw p0)), .val (.int (own_draw p1)), .val (.int (own_draw p2)), .val (.ref b4), .val (.ref b14), .val (.int (1 : Int32)), .val (.int (1 : Int32)), .val (.int (1 : Int32))] [])) _
          refine XS.iload X28.here hx rfl (hb hby at_154) rfl ?_
          show Steps p.tables e below (T28.setTop (mkF m 156 #[.val (.int p0), .val (.int p1), .val (.int p2), .val (.int p3), .val (.int (own_draw p0)), .val (.int (own_draw p1)), .val (.int (own_draw p2)), .val (.ref b4), .val (.ref b14), .val (.int (1 : Int32)), .val (.int (1 : Int32)), .val (.int (1 : Int32))] [(.int (1 : Int32))])) _
          refine XS.ifNo X28.here hx rfl (hb hby at_156) rfl ((if0 _ _).trans (feq (by decide : ¬ ((1 : Int32) = (0 : Int32)))).1) ?_
          show Steps p.tables e below (T28.setTop (mkF m 159 #[.val (.int p0), .val (.int p1), .val (.int p2), .val (.int p3), .val (.int (own_draw p0)), .val (.int (own_draw p1)), .val (.int (own_draw p2)), .val (.ref b4), .val (.ref b14), .val (.int (1 : Int32)), .val (.int (1 : Int32)), .val (.int (1 : Int32))] [])) _
          refine XS.iload X28.here hx rfl (hb hby at_159) rfl ?_
          show Steps p.tables e below (T28.setTop (mkF m 161 #[.val (.int p0), .val (.int p1), .val (.int p2), .val (.int p3), .val (.int (own_draw p0)), .val (.int (own_draw p1)), .val (.int (own_draw p2)), .val (.ref b4), .val (.ref b14), .val (.int (1 : Int32)), .val (.int (1 : Int32)), .val (.int (1 : Int32))] [(.int (1 : Int32))])) _
          refine XS.ifNo X28.here hx rfl (hb hby at_161) rfl ((if0 _ _).trans (feq (by decide : ¬ ((1 : Int32) = (0 : Int32)))).1) ?_
          show Steps p.tables e below (T28.setTop (mkF m 164 #[.val (.int p0), .val (.int p1), .val (.int p2), .val (.int p3), .val (.int (own_draw p0)), .val (.int (own_draw p1)), .val (.int (own_draw p2)), .val (.ref b4), .val (.ref b14), .val (.int (1 : Int32)), .val (.int (1 : Int32)), .val (.int (1 : Int32))] [])) _
          refine XS.iconst X28.here hx rfl (hb hby at_164) ?_
          show Steps p.tables e below (T28.setTop (mkF m 165 #[.val (.int p0), .val (.int p1), .val (.int p2), .val (.int p3), .val (.int (own_draw p0)), .val (.int (own_draw p1)), .val (.int (own_draw p2)), .val (.ref b4), .val (.ref b14), .val (.int (1 : Int32)), .val (.int (1 : Int32)), .val (.int (1 : Int32))] [(.int (1 : Int32))])) _
          refine XS.goto X28.here hx rfl (pc0 := 165) (pc' := 169) rfl (hb hby at_165) (by decide) (by decide) ?_
          show Steps p.tables e below (T28.setTop (mkF m 169 #[.val (.int p0), .val (.int p1), .val (.int p2), .val (.int p3), .val (.int (own_draw p0)), .val (.int (own_draw p1)), .val (.int (own_draw p2)), .val (.ref b4), .val (.ref b14), .val (.int (1 : Int32)), .val (.int (1 : Int32)), .val (.int (1 : Int32))] [(.int (1 : Int32))])) _
          exact k
        obtain ⟨fs, hr, hrun, hended, hW, hsame⟩ := X28.leave (v := some (.int (1 : Int32))) (fun h => by rw [Bd.returns] at h; cases h)
        refine own_done (retN X28 hx (t := .boolean) Bd.returns (by simp) (hb hby at_169) hr) hrun hended ⟨_, _, rfl, ?_, ⟨_, rfl⟩, hW, hsame.mono (by decide) (by decide)⟩
        show Q_rm0 Z h0 n0 (some (.int (1 : Int32))) T28.heap _
        rw [e28]
        exact ⟨rfl, N28⟩
    · refine own_go (B := T26.setTop (mkF m 124 #[.val (.int p0), .val (.int p1), .val (.int p2), .val (.int p3), .val (.int (own_draw p0)), .val (.int (own_draw p1)), .val (.int (own_draw p2)), .val (.ref b4), .val (.ref b14), .val (.int (1 : Int32)), .val (.int (1 : Int32)), .unset] [(.int (2 : Int32)), (.ref b14)])) (fun t k => ?_) ?_
      · show Steps p.tables e below (T26.setTop (mkF m 103 #[.val (.int p0), .val (.int p1), .val (.int p2), .val (.int p3), .val (.int (own_draw p0)), .val (.int (own_draw p1)), .val (.int (own_draw p2)), .val (.ref b4), .val (.ref b14), .val (.int (1 : Int32)), .unset, .unset] [(.int (32768 : Int32)), (.int (own_draw p1)), (.int (own_set (own_val (own_draw p1))))])) _
        refine XS.icmpYes X26.here hx rfl (pc0 := 103) (pc' := 110) rfl (hb hby at_103) rfl (flt hc103).2.2.2 (by decide) (by decide) ?_
        show Steps p.tables e below (T26.setTop (mkF m 110 #[.val (.int p0), .val (.int p1), .val (.int p2), .val (.int p3), .val (.int (own_draw p0)), .val (.int (own_draw p1)), .val (.int (own_draw p2)), .val (.ref b4), .val (.ref b14), .val (.int (1 : Int32)), .unset, .unset] [(.int (own_set (own_val (own_draw p1))))])) _
        refine XS.iconst X26.here hx rfl (hb hby at_110) ?_
        show Steps p.tables e below (T26.setTop (mkF m 111 #[.val (.int p0), .val (.int p1), .val (.int p2), .val (.int p3), .val (.int (own_draw p0)), .val (.int (own_draw p1)), .val (.int (own_draw p2)), .val (.ref b4), .val (.ref b14), .val (.int (1 : Int32)), .unset, .unset] [(.int (0 : Int32)), (.int (own_set (own_val (own_draw p1))))])) _
        refine XS.icmpNo X26.here hx rfl (hb hby at_111) rfl (teq (by rw [own_isset]; simp [hc103] : (own_set (own_val (own_draw p1))) = (0 : Int32))).2 ?_
        show Steps p.tables e below (T26.setTop (mkF m 114 #[.val (.int p0), .val (.int p1), .val (.int p2), .val (.int p3), .val (.int (own_draw p0)), .val (.int (own_draw p1)), .val (.int (own_draw p2)), .val (.ref b4), .val (.ref b14), .val (.int (1 : Int32)), .unset, .unset] [])) _
        refine XS.iconst X26.here hx rfl (hb hby at_114) ?_
        show Steps p.tables e below (T26.setTop (mkF m 115 #[.val (.int p0), .val (.int p1), .val (.int p2), .val (.int p3), .val (.int (own_draw p0)), .val (.int (own_draw p1)), .val (.int (own_draw p2)), .val (.ref b4), .val (.ref b14), .val (.int (1 : Int32)), .unset, .unset] [(.int (1 : Int32))])) _
        refine XS.goto X26.here hx rfl (pc0 := 115) (pc' := 119) rfl (hb hby at_115) (by decide) (by decide) ?_
        show Steps p.tables e below (T26.setTop (mkF m 119 #[.val (.int p0), .val (.int p1), .val (.int p2), .val (.int p3), .val (.int (own_draw p0)), .val (.int (own_draw p1)), .val (.int (own_draw p2)), .val (.ref b4), .val (.ref b14), .val (.int (1 : Int32)), .unset, .unset] [(.int (1 : Int32))])) _
        refine XS.istore X26.here hx rfl (hb hby at_119) rfl (l' := #[.val (.int p0), .val (.int p1), .val (.int p2), .val (.int p3), .val (.int (own_draw p0)), .val (.int (own_draw p1)), .val (.int (own_draw p2)), .val (.ref b4), .val (.ref b14), .val (.int (1 : Int32)), .val (.int (1 : Int32)), .unset]) rfl ?_
        show Steps p.tables e below (T26.setTop (mkF m 121 #[.val (.int p0), .val (.int p1), .val (.int p2), .val (.int p3), .val (.int (own_draw p0)), .val (.int (own_draw p1)), .val (.int (own_draw p2)), .val (.ref b4), .val (.ref b14), .val (.int (1 : Int32)), .val (.int (1 : Int32)), .unset] [])) _
        refine XS.aload X26.here hx rfl (hb hby at_121) rfl rfl ?_
        show Steps p.tables e below (T26.setTop (mkF m 123 #[.val (.int p0), .val (.int p1), .val (.int p2), .val (.int p3), .val (.int (own_draw p0)), .val (.int (own_draw p1)), .val (.int (own_draw p2)), .val (.ref b4), .val (.ref b14), .val (.int (1 : Int32)), .val (.int (1 : Int32)), .unset] [(.ref b14)])) _
        refine XS.iconst X26.here hx rfl (hb hby at_123) ?_
        show Steps p.tables e below (T26.setTop (mkF m 124 #[.val (.int p0), .val (.int p1), .val (.int p2), .val (.int p3), .val (.int (own_draw p0)), .val (.int (own_draw p1)), .val (.int (own_draw p2)), .val (.ref b4), .val (.ref b14), .val (.int (1 : Int32)), .val (.int (1 : Int32)), .unset] [(.int (2 : Int32)), (.ref b14)])) _
        exact k
      obtain ⟨cq29, kq29, q29a, q29b, q29c⟩ := isOf hZ e26 E_b14
      obtain ⟨_, _, ⟨T30, L30, k30, n30⟩, -, X30, ⟨Lc30, hQ30, l30, y30, z30⟩, st30⟩ := X26.virtualBack hx (y := (⟨"com/example/holdfast/holdfast/Mip$Solution", "isSet", "(I)Z"⟩ : MethodName)) (z := (⟨"com/example/holdfast/holdfast/Mip$Solution", "isSet", "(I)Z"⟩ : MethodName)) hown (mvT hZ (hw _ (List.mem_of_getElem? (i := 35) rfl))) (mvT hZ (hw _ (List.mem_of_getElem? (i := 36) rfl))) (notFace_of_selects (args := #[]) (mvT hZ (hw _ (List.mem_of_getElem? (i := 38) rfl)))) (mvT hZ (hw _ (List.mem_of_getElem? (i := 38) rfl))) (mvT hZ (hw _ (List.mem_of_getElem? (i := 37) rfl))) (by decide) (backOf (W := 0) (rm7_2 l Z a0 hw [] b14 b4 k4 (own_val (own_draw p0)) (own_val (own_draw p1)) (own_val (own_draw p2)) h16 n0 Z0 F_values_b14 V_b4) hZ (hw _ (List.mem_of_getElem? (i := 39) rfl)) (hw _ (List.mem_of_getElem? (i := 13) rfl)) (by decide) (by decide)) q29a q29c (g := (mkF m 124 #[.val (.int p0), .val (.int p1), .val (.int p2), .val (.int p3), .val (.int (own_draw p0)), .val (.int (own_draw p1)), .val (.int (own_draw p2)), .val (.ref b4), .val (.ref b14), .val (.int (1 : Int32)), .val (.int (1 : Int32)), .unset] [(.int (2 : Int32)), (.ref b14)])) rfl (by rw [hml]; rfl) (Steps.refl _) (argsL := [(.int (2 : Int32))]) (rest := []) (lenOf pd_5 rfl) rfl (by show 2 * 0 + _ ≤ _; exact Nat.le_of_eq rfl) (hb hby at_124) (fun _ _ => ⟨rfl, e26, Nat.le_of_ble_eq_true rfl, Nat.le_of_ble_eq_true rfl⟩)
      dsimp only [Pt.U, Pt.locs, Pt.cells, Pt.slots] at X30 l30 y30 z30 st30 hQ30
      subst l30 y30 z30
      obtain ⟨h30, e30⟩ : ∃ z, T30.heap = z := ⟨_, rfl⟩
      rw [e30] at hQ30
      obtain ⟨rfl, N30q, eq30⟩ := hQ30
      have N30 := Fr.app N26 N30q
      rw [eq30] at e30
      refine own_go (B := T30.setTop (mkF m 127 #[.val (.int p0), .val (.int p1), .val (.int p2), .val (.int p3), .val (.int (own_draw p0)), .val (.int (own_draw p1)), .val (.int (own_draw p2)), .val (.ref b4), .val (.ref b14), .val (.int (1 : Int32)), .val (.int (1 : Int32)), .unset] [(.int (own_set (own_val (own_draw p2))))])) (fun t k => st30.trans k) ?_
      refine own_go (B := T30.setTop (mkF m 131 #[.val (.int p0), .val (.int p1), .val (.int p2), .val (.int p3), .val (.int (own_draw p0)), .val (.int (own_draw p1)), .val (.int (own_draw p2)), .val (.ref b4), .val (.ref b14), .val (.int (1 : Int32)), .val (.int (1 : Int32)), .unset] [(.int (32768 : Int32)), (.int (own_draw p2)), (.int (own_set (own_val (own_draw p2))))])) (fun t k => ?_) ?_
      · show Steps p.tables e below (T30.setTop (mkF m 127 #[.val (.int p0), .val (.int p1), .val (.int p2), .val (.int p3), .val (.int (own_draw p0)), .val (.int (own_draw p1)), .val (.int (own_draw p2)), .val (.ref b4), .val (.ref b14), .val (.int (1 : Int32)), .val (.int (1 : Int32)), .unset] [(.int (own_set (own_val (own_draw p2))))])) _
        refine XS.iload X30.here hx rfl (hb hby at_127) rfl ?_
        show Steps p.tables e below (T30.setTop (mkF m 129 #[.val (.int p0), .val (.int p1), .val (.int p2), .val (.int p3), .val (.int (own_draw p0)), .val (.int (own_draw p1)), .val (.int (own_draw p2)), .val (.ref b4), .val (.ref b14), .val (.int (1 : Int32)), .val (.int (1 : Int32)), .unset] [(.int (own_draw p2)), (.int (own_set (own_val (own_draw p2))))])) _
        refine X30.ldcI hx hown (mvT hZ (hw _ (List.mem_of_getElem? (i := 41) rfl))) (g := (mkF m 129 #[.val (.int p0), .val (.int p1), .val (.int p2), .val (.int p3), .val (.int (own_draw p0)), .val (.int (own_draw p1)), .val (.int (own_draw p2)), .val (.ref b4), .val (.ref b14), .val (.int (1 : Int32)), .val (.int (1 : Int32)), .unset] [(.int (own_draw p2)), (.int (own_set (own_val (own_draw p2))))])) rfl (hb hby at_129) ?_
        show Steps p.tables e below (T30.setTop (mkF m 131 #[.val (.int p0), .val (.int p1), .val (.int p2), .val (.int p3), .val (.int (own_draw p0)), .val (.int (own_draw p1)), .val (.int (own_draw p2)), .val (.ref b4), .val (.ref b14), .val (.int (1 : Int32)), .val (.int (1 : Int32)), .unset] [(.int (32768 : Int32)), (.int (own_draw p2)), (.int (own_set (own_val (own_draw p2))))])) _
        exact k
      by_cases hc131 : (32768 : Int32) < (own_draw p2)
      · refine own_go (B := T30.setTop (mkF m 169 #[.val (.int p0), .val (.int p1), .val (.int p2), .val (.int p3), .val (.int (own_draw p0)), .val (.int (own_draw p1)), .val (.int (own_draw p2)), .val (.ref b4), .val (.ref b14), .val (.int (1 : Int32)), .val (.int (1 : Int32)), .val (.int (1 : Int32))] [(.int (1 : Int32))])) (fun t k => ?_) ?_
        · show Steps p.tables e below (T30.setTop (mkF m 131 #[.val (.int p0), .val (.int p1), .val (.int p2), .val (.int p3), .val (.int (own_draw p0)), .val (.int (own_draw p1)), .val (.int (own_draw p2)), .val (.ref b4), .val (.ref b14), .val (.int (1 : Int32)), .val (.int (1 : Int32)), .unset] [(.int (32768 : Int32)), (.int (own_draw p2)), (.int (own_set (own_val (own_draw p2))))])) _
          refine XS.icmpNo X30.here hx rfl (hb hby at_131) rfl (tlt hc131).2.2.2 ?_
          show Steps p.tables e below (T30.setTop (mkF m 134 #[.val (.int p0), .val (.int p1), .val (.int p2), .val (.int p3), .val (.int (own_draw p0)), .val (.int (own_draw p1)), .val (.int (own_draw p2)), .val (.ref b4), .val (.ref b14), .val (.int (1 : Int32)), .val (.int (1 : Int32)), .unset] [(.int (own_set (own_val (own_draw p2))))])) _
          refine XS.iconst X30.here hx rfl (hb hby at_134) ?_
          show Steps p.tables e below (T30.setTop (mkF m 135 #[.val (.int p0), .val (.int p1), .val (.int p2), .val (.int p3), .val (.int (own_draw p0)), .val (.int (own_draw p1)), .val (.int (own_draw p2)), .val (.ref b4), .val (.ref b14), .val (.int (1 : Int32)), .val (.int (1 : Int32)), .unset] [(.int (1 : Int32)), (.int (own_set (own_val (own_draw p2))))])) _
          refine XS.goto X30.here hx rfl (pc0 := 135) (pc' := 139) rfl (hb hby at_135) (by decide) (by decide) ?_
          show Steps p.tables e below (T30.setTop (mkF m 139 #[.val (.int p0), .val (.int p1), .val (.int p2), .val (.int p3), .val (.int (own_draw p0)), .val (.int (own_draw p1)), .val (.int (own_draw p2)), .val (.ref b4), .val (.ref b14), .val (.int (1 : Int32)), .val (.int (1 : Int32)), .unset] [(.int (1 : Int32)), (.int (own_set (own_val (own_draw p2))))])) _
          refine XS.icmpNo X30.here hx rfl (hb hby at_139) rfl (teq (by rw [own_isset]; simp [hc131] : (own_set (own_val (own_draw p2))) = (1 : Int32))).2 ?_
          show Steps p.tables e below (T30.setTop (mkF m 142 #[.val (.int p0), .val (.int p1), .val (.int p2), .val (.int p3), .val (.int (own_draw p0)), .val (.int (own_draw p1)), .val (.int (own_draw p2)), .val (.ref b4), .val (.ref b14), .val (.int (1 : Int32)), .val (.int (1 : Int32)), .unset] [])) _
          refine XS.iconst X30.here hx rfl (hb hby at_142) ?_
          show Steps p.tables e below (T30.setTop (mkF m 143 #[.val (.int p0), .val (.int p1), .val (.int p2), .val (.int p3), .val (.int (own_draw p0)), .val (.int (own_draw p1)), .val (.int (own_draw p2)), .val (.ref b4), .val (.ref b14), .val (.int (1 : Int32)), .val (.int (1 : Int32)), .unset] [(.int (1 : Int32))])) _
          refine XS.goto X30.here hx rfl (pc0 := 143) (pc' := 147) rfl (hb hby at_143) (by decide) (by decide) ?_
          show Steps p.tables e below (T30.setTop (mkF m 147 #[.val (.int p0), .val (.int p1), .val (.int p2), .val (.int p3), .val (.int (own_draw p0)), .val (.int (own_draw p1)), .val (.int (own_draw p2)), .val (.ref b4), .val (.ref b14), .val (.int (1 : Int32)), .val (.int (1 : Int32)), .unset] [(.int (1 : Int32))])) _
          refine XS.istore X30.here hx rfl (hb hby at_147) rfl (l' := #[.val (.int p0), .val (.int p1), .val (.int p2), .val (.int p3), .val (.int (own_draw p0)), .val (.int (own_draw p1)), .val (.int (own_draw p2)), .val (.ref b4), .val (.ref b14), .val (.int (1 : Int32)), .val (.int (1 : Int32)), .val (.int (1 : Int32))]) rfl ?_
          show Steps p.tables e below (T30.setTop (mkF m 149 #[.val (.int p0), .val (.int p1), .val (.int p2), .val (.int p3), .val (.int (own_draw p0)), .val (.int (own_draw p1)), .val (.int (own_draw p2)), .val (.ref b4), .val (.ref b14), .val (.int (1 : Int32)), .val (.int (1 : Int32)), .val (.int (1 : Int32))] [])) _
          refine XS.iload X30.here hx rfl (hb hby at_149) rfl ?_
          show Steps p.tables e below (T30.setTop (mkF m 151 #[.val (.int p0), .val (.int p1), .val (.int p2), .val (.int p3), .val (.int (own_draw p0)), .val (.int (own_draw p1)), .val (.int (own_draw p2)), .val (.ref b4), .val (.ref b14), .val (.int (1 : Int32)), .val (.int (1 : Int32)), .val (.int (1 : Int32))] [(.int (1 : Int32))])) _
          refine XS.ifNo X30.here hx rfl (hb hby at_151) rfl ((if0 _ _).trans (feq (by decide : ¬ ((1 : Int32) = (0 : Int32)))).1) ?_
          show Steps p.tables e below (T30.setTop (mkF m 154 #[.val (.int p0), .val (.int p1), .val (.int p2), .val (.int p3), .val (.int (own_draw p0)), .val (.int (own_draw p1)), .val (.int (own_draw p2)), .val (.ref b4), .val (.ref b14), .val (.int (1 : Int32)), .val (.int (1 : Int32)), .val (.int (1 : Int32))] [])) _
          refine XS.iload X30.here hx rfl (hb hby at_154) rfl ?_
          show Steps p.tables e below (T30.setTop (mkF m 156 #[.val (.int p0), .val (.int p1), .val (.int p2), .val (.int p3), .val (.int (own_draw p0)), .val (.int (own_draw p1)), .val (.int (own_draw p2)), .val (.ref b4), .val (.ref b14), .val (.int (1 : Int32)), .val (.int (1 : Int32)), .val (.int (1 : Int32))] [(.int (1 : Int32))])) _
          refine XS.ifNo X30.here hx rfl (hb hby at_156) rfl ((if0 _ _).trans (feq (by decide : ¬ ((1 : Int32) = (0 : Int32)))).1) ?_
          show Steps p.tables e below (T30.setTop (mkF m 159 #[.val (.int p0), .val (.int p1), .val (.int p2), .val (.int p3), .val (.int (own_draw p0)), .val (.int (own_draw p1)), .val (.int (own_draw p2)), .val (.ref b4), .val (.ref b14), .val (.int (1 : Int32)), .val (.int (1 : Int32)), .val (.int (1 : Int32))] [])) _
          refine XS.iload X30.here hx rfl (hb hby at_159) rfl ?_
          show Steps p.tables e below (T30.setTop (mkF m 161 #[.val (.int p0), .val (.int p1), .val (.int p2), .val (.int p3), .val (.int (own_draw p0)), .val (.int (own_draw p1)), .val (.int (own_draw p2)), .val (.ref b4), .val (.ref b14), .val (.int (1 : Int32)), .val (.int (1 : Int32)), .val (.int (1 : Int32))] [(.int (1 : Int32))])) _
          refine XS.ifNo X30.here hx rfl (hb hby at_161) rfl ((if0 _ _).trans (feq (by decide : ¬ ((1 : Int32) = (0 : Int32)))).1) ?_
          show Steps p.tables e below (T30.setTop (mkF m 164 #[.val (.int p0), .val (.int p1), .val (.int p2), .val (.int p3), .val (.int (own_draw p0)), .val (.int (own_draw p1)), .val (.int (own_draw p2)), .val (.ref b4), .val (.ref b14), .val (.int (1 : Int32)), .val (.int (1 : Int32)), .val (.int (1 : Int32))] [])) _
          refine XS.iconst X30.here hx rfl (hb hby at_164) ?_
          show Steps p.tables e below (T30.setTop (mkF m 165 #[.val (.int p0), .val (.int p1), .val (.int p2), .val (.int p3), .val (.int (own_draw p0)), .val (.int (own_draw p1)), .val (.int (own_draw p2)), .val (.ref b4), .val (.ref b14), .val (.int (1 : Int32)), .val (.int (1 : Int32)), .val (.int (1 : Int32))] [(.int (1 : Int32))])) _
          refine XS.goto X30.here hx rfl (pc0 := 165) (pc' := 169) rfl (hb hby at_165) (by decide) (by decide) ?_
          show Steps p.tables e below (T30.setTop (mkF m 169 #[.val (.int p0), .val (.int p1), .val (.int p2), .val (.int p3), .val (.int (own_draw p0)), .val (.int (own_draw p1)), .val (.int (own_draw p2)), .val (.ref b4), .val (.ref b14), .val (.int (1 : Int32)), .val (.int (1 : Int32)), .val (.int (1 : Int32))] [(.int (1 : Int32))])) _
          exact k
        obtain ⟨fs, hr, hrun, hended, hW, hsame⟩ := X30.leave (v := some (.int (1 : Int32))) (fun h => by rw [Bd.returns] at h; cases h)
        refine own_done (retN X30 hx (t := .boolean) Bd.returns (by simp) (hb hby at_169) hr) hrun hended ⟨_, _, rfl, ?_, ⟨_, rfl⟩, hW, hsame.mono (by decide) (by decide)⟩
        show Q_rm0 Z h0 n0 (some (.int (1 : Int32))) T30.heap _
        rw [e30]
        exact ⟨rfl, N30⟩
      · refine own_go (B := T30.setTop (mkF m 169 #[.val (.int p0), .val (.int p1), .val (.int p2), .val (.int p3), .val (.int (own_draw p0)), .val (.int (own_draw p1)), .val (.int (own_draw p2)), .val (.ref b4), .val (.ref b14), .val (.int (1 : Int32)), .val (.int (1 : Int32)), .val (.int (1 : Int32))] [(.int (1 : Int32))])) (fun t k => ?_) ?_
        · show Steps p.tables e below (T30.setTop (mkF m 131 #[.val (.int p0), .val (.int p1), .val (.int p2), .val (.int p3), .val (.int (own_draw p0)), .val (.int (own_draw p1)), .val (.int (own_draw p2)), .val (.ref b4), .val (.ref b14), .val (.int (1 : Int32)), .val (.int (1 : Int32)), .unset] [(.int (32768 : Int32)), (.int (own_draw p2)), (.int (own_set (own_val (own_draw p2))))])) _
          refine XS.icmpYes X30.here hx rfl (pc0 := 131) (pc' := 138) rfl (hb hby at_131) rfl (flt hc131).2.2.2 (by decide) (by decide) ?_
          show Steps p.tables e below (T30.setTop (mkF m 138 #[.val (.int p0), .val (.int p1), .val (.int p2), .val (.int p3), .val (.int (own_draw p0)), .val (.int (own_draw p1)), .val (.int (own_draw p2)), .val (.ref b4), .val (.ref b14), .val (.int (1 : Int32)), .val (.int (1 : Int32)), .unset] [(.int (own_set (own_val (own_draw p2))))])) _
          refine XS.iconst X30.here hx rfl (hb hby at_138) ?_
          show Steps p.tables e below (T30.setTop (mkF m 139 #[.val (.int p0), .val (.int p1), .val (.int p2), .val (.int p3), .val (.int (own_draw p0)), .val (.int (own_draw p1)), .val (.int (own_draw p2)), .val (.ref b4), .val (.ref b14), .val (.int (1 : Int32)), .val (.int (1 : Int32)), .unset] [(.int (0 : Int32)), (.int (own_set (own_val (own_draw p2))))])) _
          refine XS.icmpNo X30.here hx rfl (hb hby at_139) rfl (teq (by rw [own_isset]; simp [hc131] : (own_set (own_val (own_draw p2))) = (0 : Int32))).2 ?_
          show Steps p.tables e below (T30.setTop (mkF m 142 #[.val (.int p0), .val (.int p1), .val (.int p2), .val (.int p3), .val (.int (own_draw p0)), .val (.int (own_draw p1)), .val (.int (own_draw p2)), .val (.ref b4), .val (.ref b14), .val (.int (1 : Int32)), .val (.int (1 : Int32)), .unset] [])) _
          refine XS.iconst X30.here hx rfl (hb hby at_142) ?_
          show Steps p.tables e below (T30.setTop (mkF m 143 #[.val (.int p0), .val (.int p1), .val (.int p2), .val (.int p3), .val (.int (own_draw p0)), .val (.int (own_draw p1)), .val (.int (own_draw p2)), .val (.ref b4), .val (.ref b14), .val (.int (1 : Int32)), .val (.int (1 : Int32)), .unset] [(.int (1 : Int32))])) _
          refine XS.goto X30.here hx rfl (pc0 := 143) (pc' := 147) rfl (hb hby at_143) (by decide) (by decide) ?_
          show Steps p.tables e below (T30.setTop (mkF m 147 #[.val (.int p0), .val (.int p1), .val (.int p2), .val (.int p3), .val (.int (own_draw p0)), .val (.int (own_draw p1)), .val (.int (own_draw p2)), .val (.ref b4), .val (.ref b14), .val (.int (1 : Int32)), .val (.int (1 : Int32)), .unset] [(.int (1 : Int32))])) _
          refine XS.istore X30.here hx rfl (hb hby at_147) rfl (l' := #[.val (.int p0), .val (.int p1), .val (.int p2), .val (.int p3), .val (.int (own_draw p0)), .val (.int (own_draw p1)), .val (.int (own_draw p2)), .val (.ref b4), .val (.ref b14), .val (.int (1 : Int32)), .val (.int (1 : Int32)), .val (.int (1 : Int32))]) rfl ?_
          show Steps p.tables e below (T30.setTop (mkF m 149 #[.val (.int p0), .val (.int p1), .val (.int p2), .val (.int p3), .val (.int (own_draw p0)), .val (.int (own_draw p1)), .val (.int (own_draw p2)), .val (.ref b4), .val (.ref b14), .val (.int (1 : Int32)), .val (.int (1 : Int32)), .val (.int (1 : Int32))] [])) _
          refine XS.iload X30.here hx rfl (hb hby at_149) rfl ?_
          show Steps p.tables e below (T30.setTop (mkF m 151 #[.val (.int p0), .val (.int p1), .val (.int p2), .val (.int p3), .val (.int (own_draw p0)), .val (.int (own_draw p1)), .val (.int (own_draw p2)), .val (.ref b4), .val (.ref b14), .val (.int (1 : Int32)), .val (.int (1 : Int32)), .val (.int (1 : Int32))] [(.int (1 : Int32))])) _
          refine XS.ifNo X30.here hx rfl (hb hby at_151) rfl ((if0 _ _).trans (feq (by decide : ¬ ((1 : Int32) = (0 : Int32)))).1) ?_
          show Steps p.tables e below (T30.setTop (mkF m 154 #[.val (.int p0), .val (.int p1), .val (.int p2), .val (.int p3), .val (.int (own_draw p0)), .val (.int (own_draw p1)), .val (.int (own_draw p2)), .val (.ref b4), .val (.ref b14), .val (.int (1 : Int32)), .val (.int (1 : Int32)), .val (.int (1 : Int32))] [])) _
          refine XS.iload X30.here hx rfl (hb hby at_154) rfl ?_
          show Steps p.tables e below (T30.setTop (mkF m 156 #[.val (.int p0), .val (.int p1), .val (.int p2), .val (.int p3), .val (.int (own_draw p0)), .val (.int (own_draw p1)), .val (.int (own_draw p2)), .val (.ref b4), .val (.ref b14), .val (.int (1 : Int32)), .val (.int (1 : Int32)), .val (.int (1 : Int32))] [(.int (1 : Int32))])) _
          refine XS.ifNo X30.here hx rfl (hb hby at_156) rfl ((if0 _ _).trans (feq (by decide : ¬ ((1 : Int32) = (0 : Int32)))).1) ?_
          show Steps p.tables e below (T30.setTop (mkF m 159 #[.val (.int p0), .val (.int p1), .val (.int p2), .val (.int p3), .val (.int (own_draw p0)), .val (.int (own_draw p1)), .val (.int (own_draw p2)), .val (.ref b4), .val (.ref b14), .val (.int (1 : Int32)), .val (.int (1 : Int32)), .val (.int (1 : Int32))] [])) _
          refine XS.iload X30.here hx rfl (hb hby at_159) rfl ?_
          show Steps p.tables e below (T30.setTop (mkF m 161 #[.val (.int p0), .val (.int p1), .val (.int p2), .val (.int p3), .val (.int (own_draw p0)), .val (.int (own_draw p1)), .val (.int (own_draw p2)), .val (.ref b4), .val (.ref b14), .val (.int (1 : Int32)), .val (.int (1 : Int32)), .val (.int (1 : Int32))] [(.int (1 : Int32))])) _
          refine XS.ifNo X30.here hx rfl (hb hby at_161) rfl ((if0 _ _).trans (feq (by decide : ¬ ((1 : Int32) = (0 : Int32)))).1) ?_
          show Steps p.tables e below (T30.setTop (mkF m 164 #[.val (.int p0), .val (.int p1), .val (.int p2), .val (.int p3), .val (.int (own_draw p0)), .val (.int (own_draw p1)), .val (.int (own_draw p2)), .val (.ref b4), .val (.ref b14), .val (.int (1 : Int32)), .val (.int (1 : Int32)), .val (.int (1 : Int32))] [])) _
          refine XS.iconst X30.here hx rfl (hb hby at_164) ?_
          show Steps p.tables e below (T30.setTop (mkF m 165 #[.val (.int p0), .val (.int p1), .val (.int p2), .val (.int p3), .val (.int (own_draw p0)), .val (.int (own_draw p1)), .val (.int (own_draw p2)), .val (.ref b4), .val (.ref b14), .val (.int (1 : Int32)), .val (.int (1 : Int32)), .val (.int (1 : Int32))] [(.int (1 : Int32))])) _
          refine XS.goto X30.here hx rfl (pc0 := 165) (pc' := 169) rfl (hb hby at_165) (by decide) (by decide) ?_
          show Steps p.tables e below (T30.setTop (mkF m 169 #[.val (.int p0), .val (.int p1), .val (.int p2), .val (.int p3), .val (.int (own_draw p0)), .val (.int (own_draw p1)), .val (.int (own_draw p2)), .val (.ref b4), .val (.ref b14), .val (.int (1 : Int32)), .val (.int (1 : Int32)), .val (.int (1 : Int32))] [(.int (1 : Int32))])) _
          exact k
        obtain ⟨fs, hr, hrun, hended, hW, hsame⟩ := X30.leave (v := some (.int (1 : Int32))) (fun h => by rw [Bd.returns] at h; cases h)
        refine own_done (retN X30 hx (t := .boolean) Bd.returns (by simp) (hb hby at_169) hr) hrun hended ⟨_, _, rfl, ?_, ⟨_, rfl⟩, hW, hsame.mono (by decide) (by decide)⟩
        show Q_rm0 Z h0 n0 (some (.int (1 : Int32))) T30.heap _
        rw [e30]
        exact ⟨rfl, N30⟩
set_option maxRecDepth 65536 in
set_option maxHeartbeats 40000000 in
theorem comes_1 {Post : Tables → Env → Array Value → State → Outcome → State → Prop} (hpost : ∀ tb e args s v u, (limb_1_1.after args s (.returned v) u = true ∧ limb_1_2.after args s (.returned v) u = true ∧ True) → FrameEnd s (.returned v) u (Jvm.fieldLocs frame_1_writes args s ++ Jvm.arrayLocs frame_1_arrays args s ++ Jvm.staticLocs frame_1_statics s) 16 128 → Post tb e args s (.returned v) u) :
    ArmFor flags0 classFile x code maxLocals ret World_1 tables_1 room_1 Calls_1 rest_1 Pre_1 Post := by
  intro l hfl _ _ p e ha hc hk' s m args below hf hA hF happ hP
  obtain ⟨hcalls, hrest, hpre⟩ := hP
  obtain ⟨-, -, -, hnamed, -, -, -, hat⟩ := (Spec.applies_iff hf).mp happ
  obtain ⟨hg, hn⟩ := and_e (Cond.before_iff.mp (show (Jvm.Cond.and given_1 narrow_1).before args s = true from hpre))
  obtain ⟨gc, hg⟩ := and_e hg
  obtain ⟨w0, w1, w2, w3, rfl⟩ : ∃ w0 w1 w2 w3 : Value, args = #[w0, w1, w2, w3] := by
    have hs : args.size = 4 := by simpa [Cond.value, given_1] using gc
    obtain ⟨L⟩ := args
    match L, hs with
    | [w0, w1, w2, w3], _ => exact ⟨w0, w1, w2, w3, rfl⟩
  obtain ⟨ga0, hg⟩ := and_e hg
  obtain ⟨ga1, hg⟩ := and_e hg
  obtain ⟨ga2, hg⟩ := and_e hg
  have ga3 := hg
  obtain ⟨i0, ei0⟩ := is_v ga0
  obtain rfl : w0 = (.int i0) := Option.some.inj ei0
  obtain ⟨i1, ei1⟩ := is_v ga1
  obtain rfl : w1 = (.int i1) := Option.some.inj ei1
  obtain ⟨i2, ei2⟩ := is_v ga2
  obtain rfl : w2 = (.int i2) := Option.some.inj ei2
  obtain ⟨i3, ei3⟩ := is_v ga3
  obtain rfl : w3 = (.int i3) := Option.some.inj ei3
  have hw := fun d (hd : d ∈ tables_1) => atoms_spec (ws := Jvm.Cond.code x code maxLocals ret :: tables_1) hat d (List.mem_cons_of_mem _ hd)
  have hfit : Fit s := fun {y c} hc i hi => by
    obtain ⟨ha, rfl⟩ := Array.getElem?_eq_some_iff.mp hc
    have q := List.all_eq_true.mp ((Array.all_eq_true_iff_forall_mem.mp hF) _ (Array.getElem_mem ha)) i (List.mem_range.mpr hi)
    simpa [Array.getElem?_eq_getElem hi] using q
  obtain ⟨c0, hn⟩ := and_e hn
  have c1 := hn
  obtain ⟨w_FEASIBLE, ev_FEASIBLE⟩ := exa_v c0
  have E_FEASIBLE := Exa.start ev_FEASIBLE c0
  have S_FEASIBLE := Sta.start ev_FEASIBLE (Or.inr ⟨(hw _ (List.mem_of_getElem? (i := 18) rfl)), (hw _ (List.mem_of_getElem? (i := 19) rfl))⟩)
  obtain ⟨w_OPTIMAL, ev_OPTIMAL⟩ := exa_v c1
  have E_OPTIMAL := Exa.start ev_OPTIMAL c1
  have S_OPTIMAL := Sta.start ev_OPTIMAL (Or.inr ⟨(hw _ (List.mem_of_getElem? (i := 18) rfl)), (hw _ (List.mem_of_getElem? (i := 43) rfl))⟩)
  obtain ⟨n, o, h1, h2, h3, _, L, rfl, ⟨rfl, N⟩, hq⟩ := rm0 l s _ hw tables_1 i0 i1 i2 i3 w_OPTIMAL w_FEASIBLE s.heap s.heap.size (Nat.le_refl _) S_OPTIMAL S_FEASIBLE (Old.start s) p e ha hc hk' s m _ below hf ((Spec.applies_iff_loose hf).mp happ).1 ⟨rfl, State.Warmed39.refl s, rfl⟩ trivial
  refine ⟨n, _, h1, h2, h3, hpost _ _ _ _ _ _ ⟨Cond.after_iff.mpr rfl, Cond.after_iff.mpr (eq_i res_at (Term.int_eval (1)) rfl), trivial⟩ ⟨hq.1, hq.2.1, (hq.2.2.sift fun y hy => Or.inr (N y hy)).mono (by decide) (by decide)⟩⟩
theorem main_1_1 : Claimed_1_1 := comes_1 fun _ _ _ _ _ _ h hF => ⟨h.1, hF⟩
theorem main_1_2 : Claimed_1_2 := comes_1 fun _ _ _ _ _ _ h hF => ⟨h.2.1, hF⟩
end Jvm.Pilot.@@N@@
namespace Jvm.Pilot.@@N@@
open Jvm Jvm.ClassFile Sem Op Lib Jvm.Free Jvm.Stand Jvm.Pilot.@@N@@.Jvm.D
/-! MADE BY PROGRAM (witnessworld.py) out of the Statement's table words and the real class files: 14 classes; the members and pool entries that the words name. The judged class is class 1, her method 4. -/
namespace start1
open Jvm.ClassFile
def u (s : String) : CpInfo := .utf8 (stringToUtf16 s)
/-- a pool by its gaps: so many unusable entries, then the entry; so many at the end -/
def gap : Nat → List CpInfo → List CpInfo
  | 0, r => r
  | n + 1, r => .unusable :: gap n r
def poolList (es : List (Nat × CpInfo)) (last : Nat) : List CpInfo := es.foldr (fun e r => gap e.1 (e.2 :: r)) (gap last [])
def pool (es : List (Nat × CpInfo)) (last : Nat) : Array CpInfo := ⟨poolList es last⟩
def fileOf (pool : Array CpInfo) (this : Nat) (attrs : Array Attribute := #[]) (ms : Array MethodInfo := #[]) (fl : Nat := 33) (sup : Nat := 0) (ifs : Array Nat := #[]) (fds : Array FieldInfo := #[]) : ClassFile where
  minorVersion := 0
  majorVersion := 65
  constantPool := pool
  accessFlags := fl
  thisClass := this
  superClass := sup
  interfaces := ifs
  fields := fds
  methods := ms
  attributes := attrs
def plain (name : String) (sup : Option ClassId) : Class where
  name := name
  kind := .ordinary
  loader := none
  accessFlags := 33
  super := sup
  interfaces := #[]
  cf := none
  fields := #[]
  methods := #[]
  instanceTypes := #[]
  staticTypes := #[]
  resolved := #[]
  callSites := []
  init := .initialized
  statics := none
  mirror := none

def pool0 : Array CpInfo := pool [(5, u "<init>"), (0, u "()V"), (1, .class_ 10), (1, u "java/lang/Object")] 113

def k0c0 : Code := { maxStack := 0, maxLocals := 1, code := object_method_1_code, exceptionTable := #[], attributes := #[] }
def k0m0 : Method := { name := "<init>", desc := "()V", sig := { parameters := [], returnType := none }, accessFlags := 1, code := some k0c0 }
/-- java/lang/Object -/
def k0 : Class := { plain "java/lang/Object" none with
  accessFlags := 33
  interfaces := #[]
  cf := some (fileOf pool0 8 #[] #[{ accessFlags := 1, nameIndex := 5, descriptorIndex := 6, attributes := #[] }] 33 0 #[] #[])
  fields := #[]
  methods := #[k0m0]
  instanceTypes := #[]
  staticTypes := #[]
  resolved := Array.replicate 124 none
  statics := none }

def pool1 : Array CpInfo := pool [(2, .class_ 4), (1, u "java/lang/Object"), (0, u "<init>"), (0, u "()V"), (0, .integer 2147483647), (0, .integer 98305), (0, .double 4679240012837945344), (1, .fieldref 12 13), (0, .class_ 14), (0, .nameAndType 15 16), (0, u "com/example/holdfast/holdfast/Mip$Status"), (0, u "OPTIMAL"), (0, u "Lcom/example/holdfast/holdfast/Mip$Status;"), (0, .fieldref 12 18), (0, .nameAndType 19 16), (0, u "FEASIBLE"), (0, .methodref 21 22), (0, .class_ 23), (0, .nameAndType 24 25), (0, u "com/example/holdfast/holdfast/SolutionIsSetPinLaw"), (0, u "draw"), (0, u "(I)I"), (0, .methodref 21 27), (0, .nameAndType 28 29), (0, u "value"), (0, u "(I)D"), (0, .class_ 31), (0, u "com/example/holdfast/holdfast/Mip$Solution"), (0, .methodref 21 33), (0, .nameAndType 34 35), (0, u "status"), (0, u "(I)Lcom/example/holdfast/holdfast/Mip$Status;"), (0, .methodref 30 37), (0, .nameAndType 5 38), (0, u "(Lcom/example/holdfast/holdfast/Mip$Status;[D)V"), (0, .methodref 30 40), (0, .nameAndType 41 42), (0, u "isSet"), (0, u "(I)Z"), (0, .integer 32768), (3, u "law"), (0, u "(IIII)Z")] 9

def k1m0 : Method := { name := "<init>", desc := "()V", sig := { parameters := [], returnType := none }, accessFlags := 1, code := none }
def k1c1 : Code := { maxStack := 2, maxLocals := 1, code := method_2_code, exceptionTable := #[], attributes := #[] }
def k1m1 : Method := { name := "draw", desc := "(I)I", sig := { parameters := [.int], returnType := some .int }, accessFlags := 10, code := some k1c1 }
def k1c2 : Code := { maxStack := 4, maxLocals := 1, code := method_3_code, exceptionTable := #[], attributes := #[] }
def k1m2 : Method := { name := "value", desc := "(I)D", sig := { parameters := [.int], returnType := some .double }, accessFlags := 10, code := some k1c2 }
def k1c3 : Code := { maxStack := 2, maxLocals := 1, code := method_4_code, exceptionTable := #[], attributes := #[] }
def k1m3 : Method := { name := "status", desc := "(I)Lcom/example/holdfast/holdfast/Mip$Status;", sig := { parameters := [.int], returnType := some (.object "com/example/holdfast/holdfast/Mip$Status") }, accessFlags := 10, code := some k1c3 }
def k1c4 : Code := { maxStack := 4, maxLocals := 12, code := code, exceptionTable := #[], attributes := #[] }
def k1m4 : Method := { name := "law", desc := "(IIII)Z", sig := { parameters := [.int, .int, .int, .int], returnType := some .boolean }, accessFlags := 9, code := some k1c4 }
/-- com/example/holdfast/holdfast/SolutionIsSetPinLaw -/
def k1 : Class := { plain "com/example/holdfast/holdfast/SolutionIsSetPinLaw" (some 0) with
  accessFlags := 49
  interfaces := #[]
  cf := some (fileOf pool1 21 #[] #[{ accessFlags := 1, nameIndex := 5, descriptorIndex := 6, attributes := #[] }, { accessFlags := 10, nameIndex := 24, descriptorIndex := 25, attributes := #[] }, { accessFlags := 10, nameIndex := 28, descriptorIndex := 29, attributes := #[] }, { accessFlags := 10, nameIndex := 34, descriptorIndex := 35, attributes := #[] }, { accessFlags := 9, nameIndex := 47, descriptorIndex := 48, attributes := #[] }] 49 2 #[] #[])
  fields := #[]
  methods := #[k1m0, k1m1, k1m2, k1m3, k1m4]
  instanceTypes := #[]
  staticTypes := #[]
  resolved := Array.replicate 58 none
  statics := none }

def pool2 : Array CpInfo := pool [(1, .methodref 2 3), (0, .class_ 4), (0, .nameAndType 5 6), (0, u "java/lang/Object"), (0, u "<init>"), (0, u "()V"), (0, .class_ 8), (0, u "java/lang/Record")] 13

def k2c0 : Code := { maxStack := 1, maxLocals := 1, code := jdk_30_method_1_code, exceptionTable := #[], attributes := #[] }
def k2m0 : Method := { name := "<init>", desc := "()V", sig := { parameters := [], returnType := none }, accessFlags := 4, code := some k2c0 }
/-- java/lang/Record -/
def k2 : Class := { plain "java/lang/Record" (some 0) with
  accessFlags := 1057
  interfaces := #[]
  cf := some (fileOf pool2 7 #[] #[{ accessFlags := 4, nameIndex := 5, descriptorIndex := 6, attributes := #[] }] 1057 2 #[] #[])
  fields := #[]
  methods := #[k2m0]
  instanceTypes := #[]
  staticTypes := #[]
  resolved := Array.replicate 22 none
  statics := none }

def pool3 : Array CpInfo := pool [(1, .methodref 2 3), (0, .class_ 4), (0, .nameAndType 5 6), (0, u "java/lang/Record"), (0, u "<init>"), (0, u "()V"), (0, .fieldref 8 9), (0, .class_ 10), (0, .nameAndType 11 12), (0, u "com/example/holdfast/holdfast/Mip$Solution"), (0, u "status"), (0, u "Lcom/example/holdfast/holdfast/Mip$Status;"), (0, .fieldref 8 14), (0, .nameAndType 15 16), (0, u "values"), (0, u "[D"), (6, .double 4602678819172646912), (13, u "(Lcom/example/holdfast/holdfast/Mip$Status;[D)V"), (3, u "isSet"), (0, u "(I)Z"), (9, .class_ 53), (0, u "com/example/holdfast/holdfast/Mip")] 21

def k3c0 : Code := { maxStack := 2, maxLocals := 3, code := prog_15_method_1_code, exceptionTable := #[], attributes := #[] }
def k3m0 : Method := { name := "<init>", desc := "(Lcom/example/holdfast/holdfast/Mip$Status;[D)V", sig := { parameters := [(.object "com/example/holdfast/holdfast/Mip$Status"), (.array .double)], returnType := none }, accessFlags := 0, code := some k3c0 }
def k3c1 : Code := { maxStack := 4, maxLocals := 2, code := prog_15_method_3_code, exceptionTable := #[], attributes := #[] }
def k3m1 : Method := { name := "isSet", desc := "(I)Z", sig := { parameters := [.int], returnType := some .boolean }, accessFlags := 0, code := some k3c1 }
/-- com/example/holdfast/holdfast/Mip$Solution -/
def k3 : Class := { plain "com/example/holdfast/holdfast/Mip$Solution" (some 2) with
  accessFlags := 48
  interfaces := #[]
  cf := some (fileOf pool3 8 #[.nestHost 52] #[{ accessFlags := 0, nameIndex := 5, descriptorIndex := 37, attributes := #[] }, { accessFlags := 0, nameIndex := 41, descriptorIndex := 42, attributes := #[] }] 48 2 #[] #[{ accessFlags := 18, nameIndex := 11, descriptorIndex := 12, attributes := #[] }, { accessFlags := 18, nameIndex := 15, descriptorIndex := 16, attributes := #[] }])
  fields := #[{ name := "status", type := (.object "com/example/holdfast/holdfast/Mip$Status"), accessFlags := 18, slot := 0, constantValue := 0 }, { name := "values", type := (.array .double), accessFlags := 18, slot := 1, constantValue := 0 }]
  methods := #[k3m0, k3m1]
  instanceTypes := #[(.object "com/example/holdfast/holdfast/Mip$Status"), (.array .double)]
  staticTypes := #[]
  resolved := Array.replicate 75 none
  statics := none }

def pool4 : Array CpInfo := pool [(1, .class_ 2), (0, u "java/lang/constant/Constable"), (0, .class_ 4), (0, u "java/lang/Object")] 6

/-- java/lang/constant/Constable -/
def k4 : Class := { plain "java/lang/constant/Constable" (some 0) with
  accessFlags := 1537
  interfaces := #[]
  cf := some (fileOf pool4 1 #[] #[] 1537 3 #[] #[])
  fields := #[]
  methods := #[]
  instanceTypes := #[]
  staticTypes := #[]
  resolved := Array.replicate 11 none
  statics := none }

def pool5 : Array CpInfo := pool [(1, .class_ 2), (0, u "java/lang/Comparable"), (0, .class_ 4), (0, u "java/lang/Object")] 7

/-- java/lang/Comparable -/
def k5 : Class := { plain "java/lang/Comparable" (some 0) with
  accessFlags := 1537
  interfaces := #[]
  cf := some (fileOf pool5 1 #[] #[] 1537 3 #[] #[])
  fields := #[]
  methods := #[]
  instanceTypes := #[]
  staticTypes := #[]
  resolved := Array.replicate 12 none
  statics := none }

def pool6 : Array CpInfo := pool [(1, .class_ 2), (0, u "java/io/Serializable"), (0, .class_ 4), (0, u "java/lang/Object")] 2

/-- java/io/Serializable -/
def k6 : Class := { plain "java/io/Serializable" (some 0) with
  accessFlags := 1537
  interfaces := #[]
  cf := some (fileOf pool6 1 #[] #[] 1537 3 #[] #[])
  fields := #[]
  methods := #[]
  instanceTypes := #[]
  staticTypes := #[]
  resolved := Array.replicate 7 none
  statics := none }

def pool7 : Array CpInfo := pool [(2, .class_ 4), (1, u "java/lang/Enum"), (0, u "name"), (0, u "Ljava/lang/String;"), (2, u "ordinal"), (0, u "I"), (1, .class_ 14), (1, u "java/lang/Object"), (4, u "hash"), (86, .class_ 108), (1, u "java/lang/Enum$EnumDesc"), (2, .class_ 112), (0, u "java/lang/constant/Constable"), (0, .class_ 114), (0, u "java/lang/Comparable"), (0, .class_ 116), (0, u "java/io/Serializable")] 87

/-- java/lang/Enum -/
def k7 : Class := { plain "java/lang/Enum" (some 0) with
  accessFlags := 1057
  interfaces := #[4, 5, 6]
  cf := some (fileOf pool7 2 #[.nestMembers #[106]] #[] 1057 12 #[111, 113, 115] #[{ accessFlags := 18, nameIndex := 5, descriptorIndex := 6, attributes := #[] }, { accessFlags := 18, nameIndex := 9, descriptorIndex := 10, attributes := #[] }, { accessFlags := 2, nameIndex := 19, descriptorIndex := 10, attributes := #[] }])
  fields := #[{ name := "name", type := (.object "java/lang/String"), accessFlags := 18, slot := 0, constantValue := 0 }, { name := "ordinal", type := .int, accessFlags := 18, slot := 1, constantValue := 0 }, { name := "hash", type := .int, accessFlags := 2, slot := 2, constantValue := 0 }]
  methods := #[]
  instanceTypes := #[(.object "java/lang/String"), .int, .int]
  staticTypes := #[]
  resolved := Array.replicate 204 none
  statics := none }

def pool8 : Array CpInfo := pool [(1, .class_ 2), (0, u "com/example/holdfast/holdfast/Mip$Status"), (2, u "OPTIMAL"), (0, u "Lcom/example/holdfast/holdfast/Mip$Status;"), (2, u "FEASIBLE"), (2, u "INFEASIBLE"), (2, u "UNKNOWN"), (2, u "$VALUES"), (0, u "[Lcom/example/holdfast/holdfast/Mip$Status;"), (6, .class_ 28), (1, u "java/lang/Enum"), (30, .class_ 60), (0, u "com/example/holdfast/holdfast/Mip")] 2

/-- com/example/holdfast/holdfast/Mip$Status -/
def k8 : Class := { plain "com/example/holdfast/holdfast/Mip$Status" (some 7) with
  accessFlags := 16432
  interfaces := #[]
  cf := some (fileOf pool8 1 #[.nestHost 59] #[] 16432 26 #[] #[{ accessFlags := 16409, nameIndex := 5, descriptorIndex := 6, attributes := #[] }, { accessFlags := 16409, nameIndex := 9, descriptorIndex := 6, attributes := #[] }, { accessFlags := 16409, nameIndex := 12, descriptorIndex := 6, attributes := #[] }, { accessFlags := 16409, nameIndex := 15, descriptorIndex := 6, attributes := #[] }, { accessFlags := 4122, nameIndex := 18, descriptorIndex := 19, attributes := #[] }])
  fields := #[{ name := "OPTIMAL", type := (.object "com/example/holdfast/holdfast/Mip$Status"), accessFlags := 16409, slot := 0, constantValue := 0 }, { name := "FEASIBLE", type := (.object "com/example/holdfast/holdfast/Mip$Status"), accessFlags := 16409, slot := 1, constantValue := 0 }, { name := "INFEASIBLE", type := (.object "com/example/holdfast/holdfast/Mip$Status"), accessFlags := 16409, slot := 2, constantValue := 0 }, { name := "UNKNOWN", type := (.object "com/example/holdfast/holdfast/Mip$Status"), accessFlags := 16409, slot := 3, constantValue := 0 }, { name := "$VALUES", type := (.array (.object "com/example/holdfast/holdfast/Mip$Status")), accessFlags := 4122, slot := 4, constantValue := 0 }]
  methods := #[]
  instanceTypes := #[(.object "java/lang/String"), .int, .int]
  staticTypes := #[(.object "com/example/holdfast/holdfast/Mip$Status"), (.object "com/example/holdfast/holdfast/Mip$Status"), (.object "com/example/holdfast/holdfast/Mip$Status"), (.object "com/example/holdfast/holdfast/Mip$Status"), (.array (.object "com/example/holdfast/holdfast/Mip$Status"))]
  resolved := Array.replicate 63 none
  statics := some 0 }

def pool9 : Array CpInfo := pool [(1, u "java/lang/Cloneable"), (0, .class_ 1), (0, u "java/lang/Object"), (0, .class_ 3)] 3

/-- java/lang/Cloneable -/
def k9 : Class := { plain "java/lang/Cloneable" (some 0) with
  accessFlags := 1537
  interfaces := #[]
  cf := some (fileOf pool9 2 #[] #[] 1537 4 #[] #[])
  fields := #[]
  methods := #[]
  instanceTypes := #[]
  staticTypes := #[]
  resolved := Array.replicate 8 none
  statics := none }

/-- the primitive byte -/
def k10 : Class := { plain "byte" none with kind := .primitive 'B', accessFlags := 0x411 }
/-- [B -/
def k11 : Class := { plain "[B" (some 0) with kind := .array 10 .byte, interfaces := #[9, 6], accessFlags := 1041 }

/-- the primitive int -/
def k12 : Class := { plain "int" none with kind := .primitive 'I', accessFlags := 0x411 }
/-- [I -/
def k13 : Class := { plain "[I" (some 0) with kind := .array 12 .int, interfaces := #[9, 6], accessFlags := 1041 }

/-- the primitive double -/
def k14 : Class := { plain "double" none with kind := .primitive 'D', accessFlags := 0x411 }
/-- [D -/
def k15 : Class := { plain "[D" (some 0) with kind := .array 14 .double, interfaces := #[9, 6], accessFlags := 1041 }
def heap : Heap := #[{ cls := 8, slots := #[.ref 2, .ref 1, .null, .null, .null], vm := .statics 8 },
  { cls := 8, slots := #[.null, .int 0, .int 0], vm := .none },
  { cls := 8, slots := #[.null, .int 0, .int 0], vm := .none }]
def classes : Array Class := #[k0, k1, k2, k3, k4, k5, k6, k7, k8, k9, k10, k11, k12, k13, k14, k15]
def interned : List (Array UInt16 × Addr) := []
def slotsUsed : Nat := 11
def theMethod : MethodId := ⟨1, 4⟩
def args0 : Array Value := #[.int 5, .int 6, .int 7, .int 8]
def aboutOver (below : List Frame) : State where
  vm := { classes := classes, interned := interned.toArray }
  heap := heap
  slotsUsed := slotsUsed
  threads := #[{ frames := .invoking theMethod args0 :: below }]
def below0 : List Frame := [.native { method := ⟨0, 0⟩, args := #[] }]
def about1 : State := aboutOver below0
def p0 : Program := .bare "" "" ""
def e0 : Env := launch0.env 0 0 0
theorem w_frames : about1.frames = Frame.invoking theMethod args0 :: below0 := rfl
set_option maxRecDepth 65536 in
theorem w_args : argsFit about1.vm theMethod args0 = true := by decide +kernel
set_option maxRecDepth 65536 in
theorem w_heap : heapFits about1 = true := by decide +kernel
set_option maxRecDepth 65536 in
theorem w_runnable : about1.curStatus? = some .runnable := by decide +kernel
set_option maxRecDepth 65536 in
theorem w_alone : about1.alone = true := by decide +kernel
set_option maxRecDepth 65536 in
theorem w_named : about1.methodNamed? x = some theMethod := by decide +kernel
set_option maxRecDepth 65536 in
theorem w_hears : about1.hears theMethod below0 = true := by decide +kernel
set_option maxRecDepth 65536 in
theorem w_ripe : about1.ripe theMethod args0 below0 = true := by decide +kernel
theorem w_running : about1.status = .running := rfl
set_option maxRecDepth 65536 in
theorem w_room : about1.hasRoom e0.platform room_1 = true :=
  launch0.hasRoom_least _ room_1 (by decide +kernel) (by decide +kernel) (by decide +kernel) (by decide +kernel) (by decide +kernel) (by decide +kernel)
theorem allAtoms_all (ts : List Jvm.Cond) (a : Array Jvm.Value) (st : Jvm.State) : (allAtoms ts).before a st = ts.all (fun c => c.before a st) := by
  induction ts with
  | nil => rfl
  | cons c t ih =>
    show (Jvm.Cond.and c (allAtoms t)).before a st = _
    rw [Jvm.Cond.before_and, ih, List.all_cons]
def words1 : List Jvm.Cond := Jvm.Cond.code x code maxLocals ret :: tables_1
/-- a 'code' word, met by the world's own term for the bytes: nothing is compared byte by byte -/
theorem code_word {y : MethodName} {bytes : ByteArray} {mx : Nat} {rt : Option FieldType} {a : Array Value} {s : State} {m : MethodId} {meth : Method} {c : Code} (h1 : s.methodNamed? y = some m) (h2 : s.vm.method? m = some meth) (h3 : meth.code = some c) (h4 : c.code = bytes)
    (h5 : (c.maxLocals == mx && c.exceptionTable.isEmpty && decide (c.maxStack ≤ mostOperands) && decide (meth.sig.returnType = rt) && !meth.locks && decide (parseMethodDescriptor y.desc = some meth.sig)) = true) : (Jvm.Cond.code y bytes mx rt).before a s = true := by
  simp only [Bool.and_eq_true, beq_iff_eq, Bool.not_eq_true', decide_eq_true_eq] at h5
  obtain ⟨⟨⟨⟨⟨g1, g2⟩, g3⟩, g4⟩, g5⟩, g6⟩ := h5
  simp [Cond.before, Cond.holds, Cond.value, h1, h2, h3, h4, g1, g2, g3, g4, g5, g6]
def isCode : Jvm.Cond → Bool
  | .code _ _ _ _ => true
  | _ => false
theorem all_split {L : List Jvm.Cond} {P : Jvm.Cond → Bool} (h1 : L.all (fun c => isCode c || P c) = true) (h2 : ∀ c ∈ L.filter isCode, P c = true) : L.all P = true := by
  refine List.all_eq_true.mpr fun c hc => ?_
  have h := List.all_eq_true.mp h1 c hc
  rcases Bool.eq_false_or_eq_true (isCode c) with hi | hi
  · exact h2 c (List.mem_filter.mpr ⟨hc, hi⟩)
  · simpa [hi] using h
set_option maxRecDepth 65536 in
theorem w_c0 : (Jvm.Cond.code x code maxLocals ret).before args0 about1 = true := code_word (m := ⟨1, 4⟩) (meth := k1m4) (c := k1c4) (by decide +kernel) rfl rfl rfl (by decide +kernel)
set_option maxRecDepth 65536 in
theorem w_c1 : (Jvm.Cond.code ({ cls := "com/example/holdfast/holdfast/SolutionIsSetPinLaw", name := "draw", desc := "(I)I" } : Jvm.MethodName) method_2_code (1 : Nat) (Option.some Jvm.ClassFile.FieldType.int)).before args0 about1 = true := code_word (m := ⟨1, 1⟩) (meth := k1m1) (c := k1c1) (by decide +kernel) rfl rfl rfl (by decide +kernel)
set_option maxRecDepth 65536 in
theorem w_c2 : (Jvm.Cond.code ({ cls := "com/example/holdfast/holdfast/SolutionIsSetPinLaw", name := "value", desc := "(I)D" } : Jvm.MethodName) method_3_code (1 : Nat) (Option.some Jvm.ClassFile.FieldType.double)).before args0 about1 = true := code_word (m := ⟨1, 2⟩) (meth := k1m2) (c := k1c2) (by decide +kernel) rfl rfl rfl (by decide +kernel)
set_option maxRecDepth 65536 in
theorem w_c3 : (Jvm.Cond.code ({ cls := "com/example/holdfast/holdfast/SolutionIsSetPinLaw", name := "status", desc := "(I)Lcom/example/holdfast/holdfast/Mip$Status;" } : Jvm.MethodName) method_4_code (1 : Nat) (Option.some (Jvm.ClassFile.FieldType.object "com/example/holdfast/holdfast/Mip$Status"))).before args0 about1 = true := code_word (m := ⟨1, 3⟩) (meth := k1m3) (c := k1c3) (by decide +kernel) rfl rfl rfl (by decide +kernel)
set_option maxRecDepth 65536 in
theorem w_c4 : (Jvm.Cond.code ({ cls := "com/example/holdfast/holdfast/Mip$Solution", name := "<init>", desc := "(Lcom/example/holdfast/holdfast/Mip$Status;[D)V" } : Jvm.MethodName) prog_15_method_1_code (3 : Nat) (Option.none : Option Jvm.ClassFile.FieldType)).before args0 about1 = true := code_word (m := ⟨3, 0⟩) (meth := k3m0) (c := k3c0) (by decide +kernel) rfl rfl rfl (by decide +kernel)
set_option maxRecDepth 65536 in
theorem w_c5 : (Jvm.Cond.code ({ cls := "java/lang/Record", name := "<init>", desc := "()V" } : Jvm.MethodName) jdk_30_method_1_code (1 : Nat) (Option.none : Option Jvm.ClassFile.FieldType)).before args0 about1 = true := code_word (m := ⟨2, 0⟩) (meth := k2m0) (c := k2c0) (by decide +kernel) rfl rfl rfl (by decide +kernel)
set_option maxRecDepth 65536 in
theorem w_c6 : (Jvm.Cond.code ({ cls := "java/lang/Object", name := "<init>", desc := "()V" } : Jvm.MethodName) object_method_1_code (1 : Nat) (Option.none : Option Jvm.ClassFile.FieldType)).before args0 about1 = true := code_word (m := ⟨0, 0⟩) (meth := k0m0) (c := k0c0) (by decide +kernel) rfl rfl rfl (by decide +kernel)
set_option maxRecDepth 65536 in
theorem w_c7 : (Jvm.Cond.code ({ cls := "com/example/holdfast/holdfast/Mip$Solution", name := "isSet", desc := "(I)Z" } : Jvm.MethodName) prog_15_method_3_code (2 : Nat) (Option.some Jvm.ClassFile.FieldType.boolean)).before args0 about1 = true := code_word (m := ⟨3, 1⟩) (meth := k3m1) (c := k3c1) (by decide +kernel) rfl rfl rfl (by decide +kernel)
def codes1 : List Jvm.Cond := [Jvm.Cond.code x code maxLocals ret, Jvm.Cond.code ({ cls := "com/example/holdfast/holdfast/SolutionIsSetPinLaw", name := "draw", desc := "(I)I" } : Jvm.MethodName) method_2_code (1 : Nat) (Option.some Jvm.ClassFile.FieldType.int), Jvm.Cond.code ({ cls := "com/example/holdfast/holdfast/SolutionIsSetPinLaw", name := "value", desc := "(I)D" } : Jvm.MethodName) method_3_code (1 : Nat) (Option.some Jvm.ClassFile.FieldType.double), Jvm.Cond.code ({ cls := "com/example/holdfast/holdfast/SolutionIsSetPinLaw", name := "status", desc := "(I)Lcom/example/holdfast/holdfast/Mip$Status;" } : Jvm.MethodName) method_4_code (1 : Nat) (Option.some (Jvm.ClassFile.FieldType.object "com/example/holdfast/holdfast/Mip$Status")), Jvm.Cond.code ({ cls := "com/example/holdfast/holdfast/Mip$Solution", name := "<init>", desc := "(Lcom/example/holdfast/holdfast/Mip$Status;[D)V" } : Jvm.MethodName) prog_15_method_1_code (3 : Nat) (Option.none : Option Jvm.ClassFile.FieldType), Jvm.Cond.code ({ cls := "java/lang/Record", name := "<init>", desc := "()V" } : Jvm.MethodName) jdk_30_method_1_code (1 : Nat) (Option.none : Option Jvm.ClassFile.FieldType), Jvm.Cond.code ({ cls := "java/lang/Object", name := "<init>", desc := "()V" } : Jvm.MethodName) object_method_1_code (1 : Nat) (Option.none : Option Jvm.ClassFile.FieldType), Jvm.Cond.code ({ cls := "com/example/holdfast/holdfast/Mip$Solution", name := "isSet", desc := "(I)Z" } : Jvm.MethodName) prog_15_method_3_code (2 : Nat) (Option.some Jvm.ClassFile.FieldType.boolean)]
set_option maxRecDepth 65536 in
theorem codes_eq : words1.filter isCode = codes1 := rfl
theorem w_codes : ∀ c ∈ words1.filter isCode, c.before args0 about1 = true := by
  rw [codes_eq]
  intro c hc
  simp only [codes1, List.mem_cons, List.not_mem_nil, or_false] at hc
  rcases hc with rfl | rfl | rfl | rfl | rfl | rfl | rfl | rfl
  · exact w_c0
  · exact w_c1
  · exact w_c2
  · exact w_c3
  · exact w_c4
  · exact w_c5
  · exact w_c6
  · exact w_c7
set_option maxRecDepth 65536 in
theorem w_t1 : (words1.take 24).all (fun c => isCode c || c.before args0 about1) = true := by decide +kernel
set_option maxRecDepth 65536 in
theorem w_t2 : (words1.drop 24).all (fun c => isCode c || c.before args0 about1) = true := by decide +kernel
theorem w_tables : (allAtoms (Jvm.Cond.code x code maxLocals ret :: tables_1)).before args0 about1 = true := by
  rw [allAtoms_all]
  show words1.all (fun c => c.before args0 about1) = true
  refine all_split ?_ w_codes
  rw [← List.take_append_drop 24 words1, List.all_append, w_t1, w_t2]
  rfl
set_option maxRecDepth 65536 in
theorem w_case : (Jvm.Cond.and given_1 narrow_1).before args0 about1 = true := by decide +kernel
theorem w_applies : (headSpec (Jvm.Cond.code x code maxLocals ret :: tables_1) room_1).applies x e0.platform about1 = true :=
  (Spec.applies_iff w_frames).mpr ⟨w_running, w_runnable, w_alone, w_named, w_hears, w_ripe, w_room, w_tables⟩
theorem atStart : AtStart classFile x code maxLocals ret World_1 tables_1 room_1 Calls_1 rest_1 Pre_1 launch0 p0 e0 about1 theMethod args0 below0 :=
  ⟨lists_1, trivial, launch0.admits_env _ _ _, launch0.least_env, fairChoices_fair.cas, fairChoices_fair.clock, w_frames, w_args, w_heap, w_applies, trivial, trivial, w_case⟩
end start1
theorem witness_1 : WitnessClaimed_1 := ⟨start1.p0, start1.e0, start1.about1, start1.theMethod, start1.args0, start1.below0, start1.atStart⟩
end Jvm.Pilot.@@N@@
