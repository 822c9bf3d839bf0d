import JvmDerived
import JvmDerived.Pilot.@@N@@Statement
import JvmDerived.Pilot.@@N@@Code
set_option linter.unusedVariables false
set_option linter.unusedSimpArgs false
namespace Jvm.Pilot.@@N@@
open Jvm Jvm.ClassFile Sem Op Lib Jvm.Free Jvm.Stand Jvm.LawKit Jvm.RoadKit Bundle Jvm.Pilot.@@N@@.Jvm.D
abbrev own_Gd (tb : Tables) (e : Env) (below : List Frame) (P : State → Outcome → Prop) (A : State) : Prop := ∃ U o, Steps tb e below A U ∧ U.status = .running ∧ Ended U below o ∧ P U o
theorem own_go {tb : Tables} {e : Env} {below : List Frame} {P : State → Outcome → Prop} {A B : State} (st : ∀ t, Steps tb e below B t → Steps tb e below A t) (h : own_Gd tb e below P B) : own_Gd tb e below P A := by
  obtain ⟨U, o, h1, h2⟩ := h
  exact ⟨U, o, st _ h1, h2⟩
theorem own_done {tb : Tables} {e : Env} {below : List Frame} {P : State → Outcome → Prop} {A U : State} {o : Outcome} (st : Steps tb e below A U) (h1 : U.status = .running) (h2 : Ended U below o) (h3 : P U o) : own_Gd tb e below P A := ⟨U, o, st, h1, h2, h3⟩
abbrev own_P (Q : Option Value → Heap → List Loc → Prop) (s : State) (cells slots : Nat) : State → Outcome → Prop := fun U' o => ∃ v L, o = .returned v ∧ Q v U'.heap L ∧ FrameEnd s o U' L cells slots
abbrev own_PW (Q : Option Value → Heap → List Loc → Prop) (s : State) (cells slots : Nat) : State → Outcome → Prop := fun U' o => ∃ v L, o = .returned v ∧ Q v U'.heap L ∧ ReturnedEndW s o U' L cells slots
theorem own_len {args : Array Value} {Z : State} {t : Term} {a : Addr} {c : Cell} {n : Int32} (ev : t.eval args Z none [] Z = some (.ref a)) (ha : Z.arrayAt? a = some c) (h : (Term.length t).eval args Z none [] Z = some (.int n)) : c.slots.size < 2 ^ 31 ∧ c.slots.size.toInt32 = n := by
  by_cases q : c.slots.size < 2 ^ 31
  · rw [len_f ev ha q] at h
    cases h
    exact ⟨q, rfl⟩
  · exfalso
    simp [Term.eval, ev, ha] at h
    omega
theorem own_ord {args : Array Value} {Z : State} {t : Term} {C n d : String} {a : Addr} {k : Int32} (ht : t.eval args Z none [] Z = some (.ref a)) (h : (Jvm.Cond.eq (Term.field t C n d) (Term.int k)).value args Z none Z [] = some true) : Fld Z Z.heap a C n d (.int k) := Fld.start ((fld_at ht).symm.trans (eqv_i rfl h))

theorem pn_0 : plainName "com/example/schemaloom/schemaloom/schema/KindIsRepeatablePinLaw" = true := by first | (simp [plainName, overriddenIn]; done) | decide +kernel
theorem pn_1 : plainName "com/example/schemaloom/schemaloom/schema/KindIsRepeatablePinLaw" = true := by first | (simp [plainName, overriddenIn]; done) | decide +kernel
theorem pn_2 : plainName "com/example/schemaloom/schemaloom/schema/Facet$Kind" = true := by first | (simp [plainName, overriddenIn]; done) | decide +kernel
theorem d1_0 : decode method_2_code 0 = .ok (.iload_n 0, 1) := by decide +kernel
theorem d1_1 : decode method_2_code 1 = .ok (.ifCond .ne 7, 3) := by decide +kernel
theorem d1_4 : decode method_2_code 4 = .ok (.getstatic 7, 3) := by decide +kernel
theorem d1_7 : decode method_2_code 7 = .ok (.areturn, 1) := by decide +kernel
theorem d1_8 : decode method_2_code 8 = .ok (.iload_n 0, 1) := by decide +kernel
theorem d1_9 : decode method_2_code 9 = .ok (.iconst 1, 1) := by decide +kernel
theorem d1_10 : decode method_2_code 10 = .ok (.if_icmp .ne 7, 3) := by decide +kernel
theorem d1_13 : decode method_2_code 13 = .ok (.getstatic 13, 3) := by decide +kernel
theorem d1_16 : decode method_2_code 16 = .ok (.areturn, 1) := by decide +kernel
theorem d1_17 : decode method_2_code 17 = .ok (.iload_n 0, 1) := by decide +kernel
theorem d1_18 : decode method_2_code 18 = .ok (.iconst 2, 1) := by decide +kernel
theorem d1_19 : decode method_2_code 19 = .ok (.if_icmp .ne 7, 3) := by decide +kernel
theorem d1_22 : decode method_2_code 22 = .ok (.getstatic 16, 3) := by decide +kernel
theorem d1_25 : decode method_2_code 25 = .ok (.areturn, 1) := by decide +kernel
theorem d1_26 : decode method_2_code 26 = .ok (.iload_n 0, 1) := by decide +kernel
theorem d1_27 : decode method_2_code 27 = .ok (.iconst 3, 1) := by decide +kernel
theorem d1_28 : decode method_2_code 28 = .ok (.if_icmp .ne 7, 3) := by decide +kernel
theorem d1_31 : decode method_2_code 31 = .ok (.getstatic 19, 3) := by decide +kernel
theorem d1_34 : decode method_2_code 34 = .ok (.areturn, 1) := by decide +kernel
theorem d1_35 : decode method_2_code 35 = .ok (.iload_n 0, 1) := by decide +kernel
theorem d1_36 : decode method_2_code 36 = .ok (.iconst 4, 1) := by decide +kernel
theorem d1_37 : decode method_2_code 37 = .ok (.if_icmp .ne 7, 3) := by decide +kernel
theorem d1_40 : decode method_2_code 40 = .ok (.getstatic 22, 3) := by decide +kernel
theorem d1_43 : decode method_2_code 43 = .ok (.areturn, 1) := by decide +kernel
theorem d1_44 : decode method_2_code 44 = .ok (.iload_n 0, 1) := by decide +kernel
theorem d1_45 : decode method_2_code 45 = .ok (.iconst 5, 1) := by decide +kernel
theorem d1_46 : decode method_2_code 46 = .ok (.if_icmp .ne 7, 3) := by decide +kernel
theorem d1_49 : decode method_2_code 49 = .ok (.getstatic 25, 3) := by decide +kernel
theorem d1_52 : decode method_2_code 52 = .ok (.areturn, 1) := by decide +kernel
theorem d1_53 : decode method_2_code 53 = .ok (.iload_n 0, 1) := by decide +kernel
theorem d1_54 : decode method_2_code 54 = .ok (.bipush 6, 2) := by decide +kernel
theorem d1_56 : decode method_2_code 56 = .ok (.if_icmp .ne 7, 3) := by decide +kernel
theorem d1_59 : decode method_2_code 59 = .ok (.getstatic 28, 3) := by decide +kernel
theorem d1_62 : decode method_2_code 62 = .ok (.areturn, 1) := by decide +kernel
theorem d1_63 : decode method_2_code 63 = .ok (.iload_n 0, 1) := by decide +kernel
theorem d1_64 : decode method_2_code 64 = .ok (.bipush 7, 2) := by decide +kernel
theorem d1_66 : decode method_2_code 66 = .ok (.if_icmp .ne 7, 3) := by decide +kernel
theorem d1_69 : decode method_2_code 69 = .ok (.getstatic 31, 3) := by decide +kernel
theorem d1_72 : decode method_2_code 72 = .ok (.areturn, 1) := by decide +kernel
theorem d1_73 : decode method_2_code 73 = .ok (.iload_n 0, 1) := by decide +kernel
theorem d1_74 : decode method_2_code 74 = .ok (.bipush 8, 2) := by decide +kernel
theorem d1_76 : decode method_2_code 76 = .ok (.if_icmp .ne 7, 3) := by decide +kernel
theorem d1_79 : decode method_2_code 79 = .ok (.getstatic 34, 3) := by decide +kernel
theorem d1_82 : decode method_2_code 82 = .ok (.areturn, 1) := by decide +kernel
theorem d1_83 : decode method_2_code 83 = .ok (.iload_n 0, 1) := by decide +kernel
theorem d1_84 : decode method_2_code 84 = .ok (.bipush 9, 2) := by decide +kernel
theorem d1_86 : decode method_2_code 86 = .ok (.if_icmp .ne 7, 3) := by decide +kernel
theorem d1_89 : decode method_2_code 89 = .ok (.getstatic 37, 3) := by decide +kernel
theorem d1_92 : decode method_2_code 92 = .ok (.areturn, 1) := by decide +kernel
theorem d1_93 : decode method_2_code 93 = .ok (.iload_n 0, 1) := by decide +kernel
theorem d1_94 : decode method_2_code 94 = .ok (.bipush 10, 2) := by decide +kernel
theorem d1_96 : decode method_2_code 96 = .ok (.if_icmp .ne 7, 3) := by decide +kernel
theorem d1_99 : decode method_2_code 99 = .ok (.getstatic 40, 3) := by decide +kernel
theorem d1_102 : decode method_2_code 102 = .ok (.areturn, 1) := by decide +kernel
theorem d1_103 : decode method_2_code 103 = .ok (.getstatic 43, 3) := by decide +kernel
theorem d1_106 : decode method_2_code 106 = .ok (.areturn, 1) := by decide +kernel
theorem d2_0 : decode prog_38_method_6_code 0 = .ok (.aload_n 0, 1) := by decide +kernel
theorem d2_1 : decode prog_38_method_6_code 1 = .ok (.getstatic 13, 3) := by decide +kernel
theorem d2_4 : decode prog_38_method_6_code 4 = .ok (.if_acmp .eq 10, 3) := by decide +kernel
theorem d2_7 : decode prog_38_method_6_code 7 = .ok (.aload_n 0, 1) := by decide +kernel
theorem d2_8 : decode prog_38_method_6_code 8 = .ok (.getstatic 16, 3) := by decide +kernel
theorem d2_11 : decode prog_38_method_6_code 11 = .ok (.if_acmp .ne 7, 3) := by decide +kernel
theorem d2_14 : decode prog_38_method_6_code 14 = .ok (.iconst 1, 1) := by decide +kernel
theorem d2_15 : decode prog_38_method_6_code 15 = .ok (.goto 4, 3) := by decide +kernel
theorem d2_18 : decode prog_38_method_6_code 18 = .ok (.iconst 0, 1) := by decide +kernel
theorem d2_19 : decode prog_38_method_6_code 19 = .ok (.ireturn, 1) := by decide +kernel
theorem pd_0 : parseMethodDescriptor "(I)Lcom/example/schemaloom/schemaloom/schema/Facet$Kind;" = some ⟨[.int], some (.object "com/example/schemaloom/schemaloom/schema/Facet$Kind")⟩ := by decide +kernel
theorem pd_1 : parseMethodDescriptor "()Z" = some ⟨[], some .boolean⟩ := by decide +kernel
def own_pick (k : Int32) (w_LENGTH w_MIN_LENGTH w_MAX_LENGTH w_PATTERN w_ENUMERATION w_WHITE_SPACE w_MAX_INCLUSIVE w_MAX_EXCLUSIVE w_MIN_EXCLUSIVE w_MIN_INCLUSIVE w_TOTAL_DIGITS w_FRACTION_DIGITS : Addr) : Addr := if k = 0 then w_LENGTH else if k = 1 then w_MIN_LENGTH else if k = 2 then w_MAX_LENGTH else if k = 3 then w_PATTERN else if k = 4 then w_ENUMERATION else if k = 5 then w_WHITE_SPACE else if k = 6 then w_MAX_INCLUSIVE else if k = 7 then w_MAX_EXCLUSIVE else if k = 8 then w_MIN_EXCLUSIVE else if k = 9 then w_MIN_INCLUSIVE else if k = 10 then w_TOTAL_DIGITS else w_FRACTION_DIGITS
def own_att (a w_PATTERN w_ENUMERATION : Addr) : Int32 := if a = w_PATTERN then 1 else if a = w_ENUMERATION then 1 else 0
set_option maxHeartbeats 4000000 in
theorem own_pick_exa {Z : State} {h : Heap} {w_LENGTH w_MIN_LENGTH w_MAX_LENGTH w_PATTERN w_ENUMERATION w_WHITE_SPACE w_MAX_INCLUSIVE w_MAX_EXCLUSIVE w_MIN_EXCLUSIVE w_MIN_INCLUSIVE w_TOTAL_DIGITS w_FRACTION_DIGITS : Addr} {C : String} (k : Int32) (E_LENGTH : Exa Z h w_LENGTH C) (E_MIN_LENGTH : Exa Z h w_MIN_LENGTH C) (E_MAX_LENGTH : Exa Z h w_MAX_LENGTH C) (E_PATTERN : Exa Z h w_PATTERN C) (E_ENUMERATION : Exa Z h w_ENUMERATION C) (E_WHITE_SPACE : Exa Z h w_WHITE_SPACE C) (E_MAX_INCLUSIVE : Exa Z h w_MAX_INCLUSIVE C) (E_MAX_EXCLUSIVE : Exa Z h w_MAX_EXCLUSIVE C) (E_MIN_EXCLUSIVE : Exa Z h w_MIN_EXCLUSIVE C) (E_MIN_INCLUSIVE : Exa Z h w_MIN_INCLUSIVE C) (E_TOTAL_DIGITS : Exa Z h w_TOTAL_DIGITS C) (E_FRACTION_DIGITS : Exa Z h w_FRACTION_DIGITS C) : Exa Z h (own_pick k w_LENGTH w_MIN_LENGTH w_MAX_LENGTH w_PATTERN w_ENUMERATION w_WHITE_SPACE w_MAX_INCLUSIVE w_MAX_EXCLUSIVE w_MIN_EXCLUSIVE w_MIN_INCLUSIVE w_TOTAL_DIGITS w_FRACTION_DIGITS) C := by
  unfold own_pick
  by_cases h0 : k = 0
  · rw [if_pos h0]; exact E_LENGTH
  rw [if_neg h0]
  by_cases h1 : k = 1
  · rw [if_pos h1]; exact E_MIN_LENGTH
  rw [if_neg h1]
  by_cases h2 : k = 2
  · rw [if_pos h2]; exact E_MAX_LENGTH
  rw [if_neg h2]
  by_cases h3 : k = 3
  · rw [if_pos h3]; exact E_PATTERN
  rw [if_neg h3]
  by_cases h4 : k = 4
  · rw [if_pos h4]; exact E_ENUMERATION
  rw [if_neg h4]
  by_cases h5 : k = 5
  · rw [if_pos h5]; exact E_WHITE_SPACE
  rw [if_neg h5]
  by_cases h6 : k = 6
  · rw [if_pos h6]; exact E_MAX_INCLUSIVE
  rw [if_neg h6]
  by_cases h7 : k = 7
  · rw [if_pos h7]; exact E_MAX_EXCLUSIVE
  rw [if_neg h7]
  by_cases h8 : k = 8
  · rw [if_pos h8]; exact E_MIN_EXCLUSIVE
  rw [if_neg h8]
  by_cases h9 : k = 9
  · rw [if_pos h9]; exact E_MIN_INCLUSIVE
  rw [if_neg h9]
  by_cases h10 : k = 10
  · rw [if_pos h10]; exact E_TOTAL_DIGITS
  rw [if_neg h10]
  exact E_FRACTION_DIGITS
set_option maxHeartbeats 8000000 in
theorem own_plain (k : Int32) (h0 : 0 ≤ k.toInt) (h1 : k.toInt < 12) {w_LENGTH w_MIN_LENGTH w_MAX_LENGTH w_PATTERN w_ENUMERATION w_WHITE_SPACE w_MAX_INCLUSIVE w_MAX_EXCLUSIVE w_MIN_EXCLUSIVE w_MIN_INCLUSIVE w_TOTAL_DIGITS w_FRACTION_DIGITS : Addr} (n_LENGTH_PATTERN : w_LENGTH ≠ w_PATTERN) (n_LENGTH_ENUMERATION : w_LENGTH ≠ w_ENUMERATION) (n_MIN_LENGTH_PATTERN : w_MIN_LENGTH ≠ w_PATTERN) (n_MIN_LENGTH_ENUMERATION : w_MIN_LENGTH ≠ w_ENUMERATION) (n_MAX_LENGTH_PATTERN : w_MAX_LENGTH ≠ w_PATTERN) (n_MAX_LENGTH_ENUMERATION : w_MAX_LENGTH ≠ w_ENUMERATION) (n_PATTERN_ENUMERATION : w_PATTERN ≠ w_ENUMERATION) (n_ENUMERATION_PATTERN : w_ENUMERATION ≠ w_PATTERN) (n_WHITE_SPACE_PATTERN : w_WHITE_SPACE ≠ w_PATTERN) (n_WHITE_SPACE_ENUMERATION : w_WHITE_SPACE ≠ w_ENUMERATION) (n_MAX_INCLUSIVE_PATTERN : w_MAX_INCLUSIVE ≠ w_PATTERN) (n_MAX_INCLUSIVE_ENUMERATION : w_MAX_INCLUSIVE ≠ w_ENUMERATION) (n_MAX_EXCLUSIVE_PATTERN : w_MAX_EXCLUSIVE ≠ w_PATTERN) (n_MAX_EXCLUSIVE_ENUMERATION : w_MAX_EXCLUSIVE ≠ w_ENUMERATION) (n_MIN_EXCLUSIVE_PATTERN : w_MIN_EXCLUSIVE ≠ w_PATTERN) (n_MIN_EXCLUSIVE_ENUMERATION : w_MIN_EXCLUSIVE ≠ w_ENUMERATION) (n_MIN_INCLUSIVE_PATTERN : w_MIN_INCLUSIVE ≠ w_PATTERN) (n_MIN_INCLUSIVE_ENUMERATION : w_MIN_INCLUSIVE ≠ w_ENUMERATION) (n_TOTAL_DIGITS_PATTERN : w_TOTAL_DIGITS ≠ w_PATTERN) (n_TOTAL_DIGITS_ENUMERATION : w_TOTAL_DIGITS ≠ w_ENUMERATION) (n_FRACTION_DIGITS_PATTERN : w_FRACTION_DIGITS ≠ w_PATTERN) (n_FRACTION_DIGITS_ENUMERATION : w_FRACTION_DIGITS ≠ w_ENUMERATION) : own_att (own_pick k w_LENGTH w_MIN_LENGTH w_MAX_LENGTH w_PATTERN w_ENUMERATION w_WHITE_SPACE w_MAX_INCLUSIVE w_MAX_EXCLUSIVE w_MIN_EXCLUSIVE w_MIN_INCLUSIVE w_TOTAL_DIGITS w_FRACTION_DIGITS) w_PATTERN w_ENUMERATION = if k = 3 then 1 else if k = 4 then 1 else 0 := by
  have hk : k = 0 ∨ k = 1 ∨ k = 2 ∨ k = 3 ∨ k = 4 ∨ k = 5 ∨ k = 6 ∨ k = 7 ∨ k = 8 ∨ k = 9 ∨ k = 10 ∨ k = 11 := by
    simp only [← Int32.toInt_inj]
    have : ∀ z : Int, 0 ≤ z → z < 12 → z = 0 ∨ z = 1 ∨ z = 2 ∨ z = 3 ∨ z = 4 ∨ z = 5 ∨ z = 6 ∨ z = 7 ∨ z = 8 ∨ z = 9 ∨ z = 10 ∨ z = 11 := by omega
    exact this _ h0 h1
  rcases hk with rfl | rfl | rfl | rfl | rfl | rfl | rfl | rfl | rfl | rfl | rfl | rfl <;> simp +decide [own_pick, own_att, n_LENGTH_PATTERN, n_LENGTH_ENUMERATION, n_MIN_LENGTH_PATTERN, n_MIN_LENGTH_ENUMERATION, n_MAX_LENGTH_PATTERN, n_MAX_LENGTH_ENUMERATION, n_PATTERN_ENUMERATION, n_ENUMERATION_PATTERN, n_WHITE_SPACE_PATTERN, n_WHITE_SPACE_ENUMERATION, n_MAX_INCLUSIVE_PATTERN, n_MAX_INCLUSIVE_ENUMERATION, n_MAX_EXCLUSIVE_PATTERN, n_MAX_EXCLUSIVE_ENUMERATION, n_MIN_EXCLUSIVE_PATTERN, n_MIN_EXCLUSIVE_ENUMERATION, n_MIN_INCLUSIVE_PATTERN, n_MIN_INCLUSIVE_ENUMERATION, n_TOTAL_DIGITS_PATTERN, n_TOTAL_DIGITS_ENUMERATION, n_FRACTION_DIGITS_PATTERN, n_FRACTION_DIGITS_ENUMERATION]
def Q_rm1 (Z : State) (p1 : Int32) (w_LENGTH w_MIN_LENGTH w_MAX_LENGTH w_PATTERN w_ENUMERATION w_WHITE_SPACE w_MAX_INCLUSIVE w_MAX_EXCLUSIVE w_MIN_EXCLUSIVE w_MIN_INCLUSIVE w_TOTAL_DIGITS w_FRACTION_DIGITS : Addr) (h0 : Heap) (n0 : Nat) (v : Option Value) (h : Heap) (L : List Loc) : Prop := v = some (.ref (own_pick p1 w_LENGTH w_MIN_LENGTH w_MAX_LENGTH w_PATTERN w_ENUMERATION w_WHITE_SPACE w_MAX_INCLUSIVE w_MAX_EXCLUSIVE w_MIN_EXCLUSIVE w_MIN_INCLUSIVE w_TOTAL_DIGITS w_FRACTION_DIGITS)) ∧ Fr n0 L ∧ h = h0
theorem ef_1 (m : MethodId) (x0 : Int32) : entryFrame m #[(.int x0)] 1 = mkF m 0 #[.val (.int x0)] [] := by first | (simp [entryFrame, mkF, argsToLocals, Value.category, maxLocals]; done) | rfl
set_option maxRecDepth 65536 in
set_option maxHeartbeats 40000000 in
theorem rm1 (l : Launch) (Z : State) (a0 : Array Value) (hw : ∀ d ∈ tables_1, d.before a0 Z = true) (ws : List Jvm.Cond) (p1 : Int32) (w_LENGTH w_MIN_LENGTH w_MAX_LENGTH w_PATTERN w_ENUMERATION w_WHITE_SPACE w_MAX_INCLUSIVE w_MAX_EXCLUSIVE w_MIN_EXCLUSIVE w_MIN_INCLUSIVE w_TOTAL_DIGITS w_FRACTION_DIGITS : Addr) (h0 : Heap) (n0 : Nat) (Z0 : n0 ≤ h0.size) (S_LENGTH : Sta Z h0 "com/example/schemaloom/schemaloom/schema/Facet$Kind" "LENGTH" "Lcom/example/schemaloom/schemaloom/schema/Facet$Kind;" (.ref w_LENGTH)) (S_MIN_LENGTH : Sta Z h0 "com/example/schemaloom/schemaloom/schema/Facet$Kind" "MIN_LENGTH" "Lcom/example/schemaloom/schemaloom/schema/Facet$Kind;" (.ref w_MIN_LENGTH)) (S_MAX_LENGTH : Sta Z h0 "com/example/schemaloom/schemaloom/schema/Facet$Kind" "MAX_LENGTH" "Lcom/example/schemaloom/schemaloom/schema/Facet$Kind;" (.ref w_MAX_LENGTH)) (S_PATTERN : Sta Z h0 "com/example/schemaloom/schemaloom/schema/Facet$Kind" "PATTERN" "Lcom/example/schemaloom/schemaloom/schema/Facet$Kind;" (.ref w_PATTERN)) (S_ENUMERATION : Sta Z h0 "com/example/schemaloom/schemaloom/schema/Facet$Kind" "ENUMERATION" "Lcom/example/schemaloom/schemaloom/schema/Facet$Kind;" (.ref w_ENUMERATION)) (S_WHITE_SPACE : Sta Z h0 "com/example/schemaloom/schemaloom/schema/Facet$Kind" "WHITE_SPACE" "Lcom/example/schemaloom/schemaloom/schema/Facet$Kind;" (.ref w_WHITE_SPACE)) (S_MAX_INCLUSIVE : Sta Z h0 "com/example/schemaloom/schemaloom/schema/Facet$Kind" "MAX_INCLUSIVE" "Lcom/example/schemaloom/schemaloom/schema/Facet$Kind;" (.ref w_MAX_INCLUSIVE)) (S_MAX_EXCLUSIVE : Sta Z h0 "com/example/schemaloom/schemaloom/schema/Facet$Kind" "MAX_EXCLUSIVE" "Lcom/example/schemaloom/schemaloom/schema/Facet$Kind;" (.ref w_MAX_EXCLUSIVE)) (S_MIN_EXCLUSIVE : Sta Z h0 "com/example/schemaloom/schemaloom/schema/Facet$Kind" "MIN_EXCLUSIVE" "Lcom/example/schemaloom/schemaloom/schema/Facet$Kind;" (.ref w_MIN_EXCLUSIVE)) (S_MIN_INCLUSIVE : Sta Z h0 "com/example/schemaloom/schemaloom/schema/Facet$Kind" "MIN_INCLUSIVE" "Lcom/example/schemaloom/schemaloom/schema/Facet$Kind;" (.ref w_MIN_INCLUSIVE)) (S_TOTAL_DIGITS : Sta Z h0 "com/example/schemaloom/schemaloom/schema/Facet$Kind" "TOTAL_DIGITS" "Lcom/example/schemaloom/schemaloom/schema/Facet$Kind;" (.ref w_TOTAL_DIGITS)) (S_FRACTION_DIGITS : Sta Z h0 "com/example/schemaloom/schemaloom/schema/Facet$Kind" "FRACTION_DIGITS" "Lcom/example/schemaloom/schemaloom/schema/Facet$Kind;" (.ref w_FRACTION_DIGITS)) :
    MetFree l (⟨"com/example/schemaloom/schemaloom/schema/KindIsRepeatablePinLaw", "kindOf", "(I)Lcom/example/schemaloom/schemaloom/schema/Facet$Kind;"⟩ : MethodName) (head1 (Jvm.Cond.code (⟨"com/example/schemaloom/schemaloom/schema/KindIsRepeatablePinLaw", "kindOf", "(I)Lcom/example/schemaloom/schemaloom/schema/Facet$Kind;"⟩ : MethodName) method_2_code 1 (some (.object "com/example/schemaloom/schemaloom/schema/Facet$Kind")) :: ws) ({ frames := 0, cells := 0, slots := 0, locals := 0 } : Room)) (fun a U => a = #[(.int p1)] ∧ Z.Warmed39 U.vm ∧ U.heap = h0) (fun _ _ _ _ _ => True) (fun _ U o U' => ∃ v L, o = .returned v ∧ Q_rm1 Z p1 w_LENGTH w_MIN_LENGTH w_MAX_LENGTH w_PATTERN w_ENUMERATION w_WHITE_SPACE w_MAX_INCLUSIVE w_MAX_EXCLUSIVE w_MIN_EXCLUSIVE w_MIN_INCLUSIVE w_TOTAL_DIGITS w_FRACTION_DIGITS h0 n0 v U'.heap L ∧ FrameEnd U o U' L ({ frames := 0, cells := 0, slots := 0, locals := 0 } : Room).cells ({ frames := 0, cells := 0, slots := 0, locals := 0 } : Room).slots) := by
  refine MetFree.of_bodySF (plainFor_of_name pn_1) hisR ?_
  intro p e s m args below meth c s₁ Bd hml0 hP hK
  obtain ⟨rfl, hZ, hh⟩ := hP
  have hx := Bd.exec
  have hby := Bd.bytes
  have hml : c.maxLocals = 1 := hml0
  have hown : s.vm.findClass "com/example/schemaloom/schemaloom/schema/KindIsRepeatablePinLaw" = some m.cls := findClass_of_methodNamed Bd.named
  have hnm := (name_of_methodNamed Bd.named Bd.method).1
  have X0 : Stand p l e ({ frames := 0, cells := 0, slots := 0, locals := 0 } : Room) s m #[(.int p1)] below meth c s₁ [] 0 0 := Stand.of_body Bd
  have e0 : s₁.heap = h0 := by rw [← hh, Bd.state]; rfl
  have N0 := Fr.nil n0
  have K : Keep h0 h0 [] := Keep.refl h0 []
  show own_Gd p.tables e below (own_P (Q_rm1 Z p1 w_LENGTH w_MIN_LENGTH w_MAX_LENGTH w_PATTERN w_ENUMERATION w_WHITE_SPACE w_MAX_INCLUSIVE w_MAX_EXCLUSIVE w_MIN_EXCLUSIVE w_MIN_INCLUSIVE w_TOTAL_DIGITS w_FRACTION_DIGITS h0 n0) s ({ frames := 0, cells := 0, slots := 0, locals := 0 } : Room).cells ({ frames := 0, cells := 0, slots := 0, locals := 0 } : Room).slots) _
  refine own_go (B := s₁.setTop (mkF m 0 #[.val (.int p1)] [])) (fun t k => castTop (ef_1 m p1) k) ?_
  refine own_go (B := s₁.setTop (mkF m 1 #[.val (.int p1)] [(.int p1)])) (fun t k => ?_) ?_
  · show Steps p.tables e below (s₁.setTop (mkF m 0 #[.val (.int p1)] [])) _
    refine XS.iloadN X0.here hx rfl (hb hby d1_0) rfl ?_
    show Steps p.tables e below (s₁.setTop (mkF m 1 #[.val (.int p1)] [(.int p1)])) _
    exact k
  by_cases hc1 : p1 = (0 : Int32)
  · refine own_go (B := s₁.setTop (mkF m 4 #[.val (.int p1)] [])) (fun t k => ?_) ?_
    · show Steps p.tables e below (s₁.setTop (mkF m 1 #[.val (.int p1)] [(.int p1)])) _
      refine XS.ifNo X0.here hx rfl (hb hby d1_1) rfl ((if0 _ _).trans (teq hc1).2) ?_
      show Steps p.tables e below (s₁.setTop (mkF m 4 #[.val (.int p1)] [])) _
      exact k
    obtain ⟨T1, X1, e1, st1⟩ := getS2 X0 hx hZ hown (host := "") (Or.inl (hw _ (List.mem_of_getElem? (i := 5) rfl))) Via.refl e0 S_LENGTH (g := (mkF m 4 #[.val (.int p1)] [])) rfl (hb hby d1_4)
    refine own_go (B := T1.setTop (mkF m 7 #[.val (.int p1)] [(.ref w_LENGTH)])) st1 ?_
    obtain ⟨fs, hr, hrun, hended, hW, hsame⟩ := X1.leave (v := some (.ref w_LENGTH)) (fun h => by rw [Bd.returns] at h; cases h)
    refine own_done (retOut X1 hx Bd.returns rfl (Or.inr (Or.inr (Or.inr (Or.inr ⟨rfl, rfl, rfl⟩)))) (hb hby d1_7) hr) hrun hended ⟨_, _, rfl, ?_, ⟨_, rfl⟩, hW, hsame.mono (by decide) (by decide)⟩
    show Q_rm1 Z p1 w_LENGTH w_MIN_LENGTH w_MAX_LENGTH w_PATTERN w_ENUMERATION w_WHITE_SPACE w_MAX_INCLUSIVE w_MAX_EXCLUSIVE w_MIN_EXCLUSIVE w_MIN_INCLUSIVE w_TOTAL_DIGITS w_FRACTION_DIGITS h0 n0 (some (.ref w_LENGTH)) T1.heap _
    rw [e1]
    exact ⟨by unfold own_pick; rw [if_pos hc1], N0, rfl⟩
  · refine own_go (B := s₁.setTop (mkF m 10 #[.val (.int p1)] [(.int (1 : Int32)), (.int p1)])) (fun t k => ?_) ?_
    · show Steps p.tables e below (s₁.setTop (mkF m 1 #[.val (.int p1)] [(.int p1)])) _
      refine XS.ifYes X0.here hx rfl (pc0 := 1) (pc' := 8) rfl (hb hby d1_1) rfl ((if0 _ _).trans (feq hc1).2) (by decide) (by decide) ?_
      show Steps p.tables e below (s₁.setTop (mkF m 8 #[.val (.int p1)] [])) _
      refine XS.iloadN X0.here hx rfl (hb hby d1_8) rfl ?_
      show Steps p.tables e below (s₁.setTop (mkF m 9 #[.val (.int p1)] [(.int p1)])) _
      refine XS.iconst X0.here hx rfl (hb hby d1_9) ?_
      show Steps p.tables e below (s₁.setTop (mkF m 10 #[.val (.int p1)] [(.int (1 : Int32)), (.int p1)])) _
      exact k
    by_cases hc10 : p1 = (1 : Int32)
    · refine own_go (B := s₁.setTop (mkF m 13 #[.val (.int p1)] [])) (fun t k => ?_) ?_
      · show Steps p.tables e below (s₁.setTop (mkF m 10 #[.val (.int p1)] [(.int (1 : Int32)), (.int p1)])) _
        refine XS.icmpNo X0.here hx rfl (hb hby d1_10) rfl (teq hc10).2 ?_
        show Steps p.tables e below (s₁.setTop (mkF m 13 #[.val (.int p1)] [])) _
        exact k
      obtain ⟨T2, X2, e2, st2⟩ := getS2 X0 hx hZ hown (host := "") (Or.inl (hw _ (List.mem_of_getElem? (i := 27) rfl))) Via.refl e0 S_MIN_LENGTH (g := (mkF m 13 #[.val (.int p1)] [])) rfl (hb hby d1_13)
      refine own_go (B := T2.setTop (mkF m 16 #[.val (.int p1)] [(.ref w_MIN_LENGTH)])) st2 ?_
      obtain ⟨fs, hr, hrun, hended, hW, hsame⟩ := X2.leave (v := some (.ref w_MIN_LENGTH)) (fun h => by rw [Bd.returns] at h; cases h)
      refine own_done (retOut X2 hx Bd.returns rfl (Or.inr (Or.inr (Or.inr (Or.inr ⟨rfl, rfl, rfl⟩)))) (hb hby d1_16) hr) hrun hended ⟨_, _, rfl, ?_, ⟨_, rfl⟩, hW, hsame.mono (by decide) (by decide)⟩
      show Q_rm1 Z p1 w_LENGTH w_MIN_LENGTH w_MAX_LENGTH w_PATTERN w_ENUMERATION w_WHITE_SPACE w_MAX_INCLUSIVE w_MAX_EXCLUSIVE w_MIN_EXCLUSIVE w_MIN_INCLUSIVE w_TOTAL_DIGITS w_FRACTION_DIGITS h0 n0 (some (.ref w_MIN_LENGTH)) T2.heap _
      rw [e2]
      exact ⟨by unfold own_pick; rw [if_neg hc1, if_pos hc10], N0, rfl⟩
    · refine own_go (B := s₁.setTop (mkF m 19 #[.val (.int p1)] [(.int (2 : Int32)), (.int p1)])) (fun t k => ?_) ?_
      · show Steps p.tables e below (s₁.setTop (mkF m 10 #[.val (.int p1)] [(.int (1 : Int32)), (.int p1)])) _
        refine XS.icmpYes X0.here hx rfl (pc0 := 10) (pc' := 17) rfl (hb hby d1_10) rfl (feq hc10).2 (by decide) (by decide) ?_
        show Steps p.tables e below (s₁.setTop (mkF m 17 #[.val (.int p1)] [])) _
        refine XS.iloadN X0.here hx rfl (hb hby d1_17) rfl ?_
        show Steps p.tables e below (s₁.setTop (mkF m 18 #[.val (.int p1)] [(.int p1)])) _
        refine XS.iconst X0.here hx rfl (hb hby d1_18) ?_
        show Steps p.tables e below (s₁.setTop (mkF m 19 #[.val (.int p1)] [(.int (2 : Int32)), (.int p1)])) _
        exact k
      by_cases hc19 : p1 = (2 : Int32)
      · refine own_go (B := s₁.setTop (mkF m 22 #[.val (.int p1)] [])) (fun t k => ?_) ?_
        · show Steps p.tables e below (s₁.setTop (mkF m 19 #[.val (.int p1)] [(.int (2 : Int32)), (.int p1)])) _
          refine XS.icmpNo X0.here hx rfl (hb hby d1_19) rfl (teq hc19).2 ?_
          show Steps p.tables e below (s₁.setTop (mkF m 22 #[.val (.int p1)] [])) _
          exact k
        obtain ⟨T3, X3, e3, st3⟩ := getS2 X0 hx hZ hown (host := "") (Or.inl (hw _ (List.mem_of_getElem? (i := 18) rfl))) Via.refl e0 S_MAX_LENGTH (g := (mkF m 22 #[.val (.int p1)] [])) rfl (hb hby d1_22)
        refine own_go (B := T3.setTop (mkF m 25 #[.val (.int p1)] [(.ref w_MAX_LENGTH)])) st3 ?_
        obtain ⟨fs, hr, hrun, hended, hW, hsame⟩ := X3.leave (v := some (.ref w_MAX_LENGTH)) (fun h => by rw [Bd.returns] at h; cases h)
        refine own_done (retOut X3 hx Bd.returns rfl (Or.inr (Or.inr (Or.inr (Or.inr ⟨rfl, rfl, rfl⟩)))) (hb hby d1_25) hr) hrun hended ⟨_, _, rfl, ?_, ⟨_, rfl⟩, hW, hsame.mono (by decide) (by decide)⟩
        show Q_rm1 Z p1 w_LENGTH w_MIN_LENGTH w_MAX_LENGTH w_PATTERN w_ENUMERATION w_WHITE_SPACE w_MAX_INCLUSIVE w_MAX_EXCLUSIVE w_MIN_EXCLUSIVE w_MIN_INCLUSIVE w_TOTAL_DIGITS w_FRACTION_DIGITS h0 n0 (some (.ref w_MAX_LENGTH)) T3.heap _
        rw [e3]
        exact ⟨by unfold own_pick; rw [if_neg hc1, if_neg hc10, if_pos hc19], N0, rfl⟩
      · refine own_go (B := s₁.setTop (mkF m 28 #[.val (.int p1)] [(.int (3 : Int32)), (.int p1)])) (fun t k => ?_) ?_
        · show Steps p.tables e below (s₁.setTop (mkF m 19 #[.val (.int p1)] [(.int (2 : Int32)), (.int p1)])) _
          refine XS.icmpYes X0.here hx rfl (pc0 := 19) (pc' := 26) rfl (hb hby d1_19) rfl (feq hc19).2 (by decide) (by decide) ?_
          show Steps p.tables e below (s₁.setTop (mkF m 26 #[.val (.int p1)] [])) _
          refine XS.iloadN X0.here hx rfl (hb hby d1_26) rfl ?_
          show Steps p.tables e below (s₁.setTop (mkF m 27 #[.val (.int p1)] [(.int p1)])) _
          refine XS.iconst X0.here hx rfl (hb hby d1_27) ?_
          show Steps p.tables e below (s₁.setTop (mkF m 28 #[.val (.int p1)] [(.int (3 : Int32)), (.int p1)])) _
          exact k
        by_cases hc28 : p1 = (3 : Int32)
        · refine own_go (B := s₁.setTop (mkF m 31 #[.val (.int p1)] [])) (fun t k => ?_) ?_
          · show Steps p.tables e below (s₁.setTop (mkF m 28 #[.val (.int p1)] [(.int (3 : Int32)), (.int p1)])) _
            refine XS.icmpNo X0.here hx rfl (hb hby d1_28) rfl (teq hc28).2 ?_
            show Steps p.tables e below (s₁.setTop (mkF m 31 #[.val (.int p1)] [])) _
            exact k
          obtain ⟨T4, X4, e4, st4⟩ := getS2 X0 hx hZ hown (host := "") (Or.inl (hw _ (List.mem_of_getElem? (i := 17) rfl))) Via.refl e0 S_PATTERN (g := (mkF m 31 #[.val (.int p1)] [])) rfl (hb hby d1_31)
          refine own_go (B := T4.setTop (mkF m 34 #[.val (.int p1)] [(.ref w_PATTERN)])) st4 ?_
          obtain ⟨fs, hr, hrun, hended, hW, hsame⟩ := X4.leave (v := some (.ref w_PATTERN)) (fun h => by rw [Bd.returns] at h; cases h)
          refine own_done (retOut X4 hx Bd.returns rfl (Or.inr (Or.inr (Or.inr (Or.inr ⟨rfl, rfl, rfl⟩)))) (hb hby d1_34) hr) hrun hended ⟨_, _, rfl, ?_, ⟨_, rfl⟩, hW, hsame.mono (by decide) (by decide)⟩
          show Q_rm1 Z p1 w_LENGTH w_MIN_LENGTH w_MAX_LENGTH w_PATTERN w_ENUMERATION w_WHITE_SPACE w_MAX_INCLUSIVE w_MAX_EXCLUSIVE w_MIN_EXCLUSIVE w_MIN_INCLUSIVE w_TOTAL_DIGITS w_FRACTION_DIGITS h0 n0 (some (.ref w_PATTERN)) T4.heap _
          rw [e4]
          exact ⟨by unfold own_pick; rw [if_neg hc1, if_neg hc10, if_neg hc19, if_pos hc28], N0, rfl⟩
        · refine own_go (B := s₁.setTop (mkF m 37 #[.val (.int p1)] [(.int (4 : Int32)), (.int p1)])) (fun t k => ?_) ?_
          · show Steps p.tables e below (s₁.setTop (mkF m 28 #[.val (.int p1)] [(.int (3 : Int32)), (.int p1)])) _
            refine XS.icmpYes X0.here hx rfl (pc0 := 28) (pc' := 35) rfl (hb hby d1_28) rfl (feq hc28).2 (by decide) (by decide) ?_
            show Steps p.tables e below (s₁.setTop (mkF m 35 #[.val (.int p1)] [])) _
            refine XS.iloadN X0.here hx rfl (hb hby d1_35) rfl ?_
            show Steps p.tables e below (s₁.setTop (mkF m 36 #[.val (.int p1)] [(.int p1)])) _
            refine XS.iconst X0.here hx rfl (hb hby d1_36) ?_
            show Steps p.tables e below (s₁.setTop (mkF m 37 #[.val (.int p1)] [(.int (4 : Int32)), (.int p1)])) _
            exact k
          by_cases hc37 : p1 = (4 : Int32)
          · refine own_go (B := s₁.setTop (mkF m 40 #[.val (.int p1)] [])) (fun t k => ?_) ?_
            · show Steps p.tables e below (s₁.setTop (mkF m 37 #[.val (.int p1)] [(.int (4 : Int32)), (.int p1)])) _
              refine XS.icmpNo X0.here hx rfl (hb hby d1_37) rfl (teq hc37).2 ?_
              show Steps p.tables e below (s₁.setTop (mkF m 40 #[.val (.int p1)] [])) _
              exact k
            obtain ⟨T5, X5, e5, st5⟩ := getS2 X0 hx hZ hown (host := "") (Or.inl (hw _ (List.mem_of_getElem? (i := 24) rfl))) Via.refl e0 S_ENUMERATION (g := (mkF m 40 #[.val (.int p1)] [])) rfl (hb hby d1_40)
            refine own_go (B := T5.setTop (mkF m 43 #[.val (.int p1)] [(.ref w_ENUMERATION)])) st5 ?_
            obtain ⟨fs, hr, hrun, hended, hW, hsame⟩ := X5.leave (v := some (.ref w_ENUMERATION)) (fun h => by rw [Bd.returns] at h; cases h)
            refine own_done (retOut X5 hx Bd.returns rfl (Or.inr (Or.inr (Or.inr (Or.inr ⟨rfl, rfl, rfl⟩)))) (hb hby d1_43) hr) hrun hended ⟨_, _, rfl, ?_, ⟨_, rfl⟩, hW, hsame.mono (by decide) (by decide)⟩
            show Q_rm1 Z p1 w_LENGTH w_MIN_LENGTH w_MAX_LENGTH w_PATTERN w_ENUMERATION w_WHITE_SPACE w_MAX_INCLUSIVE w_MAX_EXCLUSIVE w_MIN_EXCLUSIVE w_MIN_INCLUSIVE w_TOTAL_DIGITS w_FRACTION_DIGITS h0 n0 (some (.ref w_ENUMERATION)) T5.heap _
            rw [e5]
            exact ⟨by unfold own_pick; rw [if_neg hc1, if_neg hc10, if_neg hc19, if_neg hc28, if_pos hc37], N0, rfl⟩
          · refine own_go (B := s₁.setTop (mkF m 46 #[.val (.int p1)] [(.int (5 : Int32)), (.int p1)])) (fun t k => ?_) ?_
            · show Steps p.tables e below (s₁.setTop (mkF m 37 #[.val (.int p1)] [(.int (4 : Int32)), (.int p1)])) _
              refine XS.icmpYes X0.here hx rfl (pc0 := 37) (pc' := 44) rfl (hb hby d1_37) rfl (feq hc37).2 (by decide) (by decide) ?_
              show Steps p.tables e below (s₁.setTop (mkF m 44 #[.val (.int p1)] [])) _
              refine XS.iloadN X0.here hx rfl (hb hby d1_44) rfl ?_
              show Steps p.tables e below (s₁.setTop (mkF m 45 #[.val (.int p1)] [(.int p1)])) _
              refine XS.iconst X0.here hx rfl (hb hby d1_45) ?_
              show Steps p.tables e below (s₁.setTop (mkF m 46 #[.val (.int p1)] [(.int (5 : Int32)), (.int p1)])) _
              exact k
            by_cases hc46 : p1 = (5 : Int32)
            · refine own_go (B := s₁.setTop (mkF m 49 #[.val (.int p1)] [])) (fun t k => ?_) ?_
              · show Steps p.tables e below (s₁.setTop (mkF m 46 #[.val (.int p1)] [(.int (5 : Int32)), (.int p1)])) _
                refine XS.icmpNo X0.here hx rfl (hb hby d1_46) rfl (teq hc46).2 ?_
                show Steps p.tables e below (s₁.setTop (mkF m 49 #[.val (.int p1)] [])) _
                exact k
              obtain ⟨T6, X6, e6, st6⟩ := getS2 X0 hx hZ hown (host := "") (Or.inl (hw _ (List.mem_of_getElem? (i := 35) rfl))) Via.refl e0 S_WHITE_SPACE (g := (mkF m 49 #[.val (.int p1)] [])) rfl (hb hby d1_49)
              refine own_go (B := T6.setTop (mkF m 52 #[.val (.int p1)] [(.ref w_WHITE_SPACE)])) st6 ?_
              obtain ⟨fs, hr, hrun, hended, hW, hsame⟩ := X6.leave (v := some (.ref w_WHITE_SPACE)) (fun h => by rw [Bd.returns] at h; cases h)
              refine own_done (retOut X6 hx Bd.returns rfl (Or.inr (Or.inr (Or.inr (Or.inr ⟨rfl, rfl, rfl⟩)))) (hb hby d1_52) hr) hrun hended ⟨_, _, rfl, ?_, ⟨_, rfl⟩, hW, hsame.mono (by decide) (by decide)⟩
              show Q_rm1 Z p1 w_LENGTH w_MIN_LENGTH w_MAX_LENGTH w_PATTERN w_ENUMERATION w_WHITE_SPACE w_MAX_INCLUSIVE w_MAX_EXCLUSIVE w_MIN_EXCLUSIVE w_MIN_INCLUSIVE w_TOTAL_DIGITS w_FRACTION_DIGITS h0 n0 (some (.ref w_WHITE_SPACE)) T6.heap _
              rw [e6]
              exact ⟨by unfold own_pick; rw [if_neg hc1, if_neg hc10, if_neg hc19, if_neg hc28, if_neg hc37, if_pos hc46], N0, rfl⟩
            · refine own_go (B := s₁.setTop (mkF m 56 #[.val (.int p1)] [(.int (6 : Int32)), (.int p1)])) (fun t k => ?_) ?_
              · show Steps p.tables e below (s₁.setTop (mkF m 46 #[.val (.int p1)] [(.int (5 : Int32)), (.int p1)])) _
                refine XS.icmpYes X0.here hx rfl (pc0 := 46) (pc' := 53) rfl (hb hby d1_46) rfl (feq hc46).2 (by decide) (by decide) ?_
                show Steps p.tables e below (s₁.setTop (mkF m 53 #[.val (.int p1)] [])) _
                refine XS.iloadN X0.here hx rfl (hb hby d1_53) rfl ?_
                show Steps p.tables e below (s₁.setTop (mkF m 54 #[.val (.int p1)] [(.int p1)])) _
                refine XS.bipush X0.here hx rfl (hb hby d1_54) ?_
                show Steps p.tables e below (s₁.setTop (mkF m 56 #[.val (.int p1)] [(.int (6 : Int32)), (.int p1)])) _
                exact k
              by_cases hc56 : p1 = (6 : Int32)
              · refine own_go (B := s₁.setTop (mkF m 59 #[.val (.int p1)] [])) (fun t k => ?_) ?_
                · show Steps p.tables e below (s₁.setTop (mkF m 56 #[.val (.int p1)] [(.int (6 : Int32)), (.int p1)])) _
                  refine XS.icmpNo X0.here hx rfl (hb hby d1_56) rfl (teq hc56).2 ?_
                  show Steps p.tables e below (s₁.setTop (mkF m 59 #[.val (.int p1)] [])) _
                  exact k
                obtain ⟨T7, X7, e7, st7⟩ := getS2 X0 hx hZ hown (host := "") (Or.inl (hw _ (List.mem_of_getElem? (i := 33) rfl))) Via.refl e0 S_MAX_INCLUSIVE (g := (mkF m 59 #[.val (.int p1)] [])) rfl (hb hby d1_59)
                refine own_go (B := T7.setTop (mkF m 62 #[.val (.int p1)] [(.ref w_MAX_INCLUSIVE)])) st7 ?_
                obtain ⟨fs, hr, hrun, hended, hW, hsame⟩ := X7.leave (v := some (.ref w_MAX_INCLUSIVE)) (fun h => by rw [Bd.returns] at h; cases h)
                refine own_done (retOut X7 hx Bd.returns rfl (Or.inr (Or.inr (Or.inr (Or.inr ⟨rfl, rfl, rfl⟩)))) (hb hby d1_62) hr) hrun hended ⟨_, _, rfl, ?_, ⟨_, rfl⟩, hW, hsame.mono (by decide) (by decide)⟩
                show Q_rm1 Z p1 w_LENGTH w_MIN_LENGTH w_MAX_LENGTH w_PATTERN w_ENUMERATION w_WHITE_SPACE w_MAX_INCLUSIVE w_MAX_EXCLUSIVE w_MIN_EXCLUSIVE w_MIN_INCLUSIVE w_TOTAL_DIGITS w_FRACTION_DIGITS h0 n0 (some (.ref w_MAX_INCLUSIVE)) T7.heap _
                rw [e7]
                exact ⟨by unfold own_pick; rw [if_neg hc1, if_neg hc10, if_neg hc19, if_neg hc28, if_neg hc37, if_neg hc46, if_pos hc56], N0, rfl⟩
              · refine own_go (B := s₁.setTop (mkF m 66 #[.val (.int p1)] [(.int (7 : Int32)), (.int p1)])) (fun t k => ?_) ?_
                · show Steps p.tables e below (s₁.setTop (mkF m 56 #[.val (.int p1)] [(.int (6 : Int32)), (.int p1)])) _
                  refine XS.icmpYes X0.here hx rfl (pc0 := 56) (pc' := 63) rfl (hb hby d1_56) rfl (feq hc56).2 (by decide) (by decide) ?_
                  show Steps p.tables e below (s₁.setTop (mkF m 63 #[.val (.int p1)] [])) _
                  refine XS.iloadN X0.here hx rfl (hb hby d1_63) rfl ?_
                  show Steps p.tables e below (s₁.setTop (mkF m 64 #[.val (.int p1)] [(.int p1)])) _
                  refine XS.bipush X0.here hx rfl (hb hby d1_64) ?_
                  show Steps p.tables e below (s₁.setTop (mkF m 66 #[.val (.int p1)] [(.int (7 : Int32)), (.int p1)])) _
                  exact k
                by_cases hc66 : p1 = (7 : Int32)
                · refine own_go (B := s₁.setTop (mkF m 69 #[.val (.int p1)] [])) (fun t k => ?_) ?_
                  · show Steps p.tables e below (s₁.setTop (mkF m 66 #[.val (.int p1)] [(.int (7 : Int32)), (.int p1)])) _
                    refine XS.icmpNo X0.here hx rfl (hb hby d1_66) rfl (teq hc66).2 ?_
                    show Steps p.tables e below (s₁.setTop (mkF m 69 #[.val (.int p1)] [])) _
                    exact k
                  obtain ⟨T8, X8, e8, st8⟩ := getS2 X0 hx hZ hown (host := "") (Or.inl (hw _ (List.mem_of_getElem? (i := 20) rfl))) Via.refl e0 S_MAX_EXCLUSIVE (g := (mkF m 69 #[.val (.int p1)] [])) rfl (hb hby d1_69)
                  refine own_go (B := T8.setTop (mkF m 72 #[.val (.int p1)] [(.ref w_MAX_EXCLUSIVE)])) st8 ?_
                  obtain ⟨fs, hr, hrun, hended, hW, hsame⟩ := X8.leave (v := some (.ref w_MAX_EXCLUSIVE)) (fun h => by rw [Bd.returns] at h; cases h)
                  refine own_done (retOut X8 hx Bd.returns rfl (Or.inr (Or.inr (Or.inr (Or.inr ⟨rfl, rfl, rfl⟩)))) (hb hby d1_72) hr) hrun hended ⟨_, _, rfl, ?_, ⟨_, rfl⟩, hW, hsame.mono (by decide) (by decide)⟩
                  show Q_rm1 Z p1 w_LENGTH w_MIN_LENGTH w_MAX_LENGTH w_PATTERN w_ENUMERATION w_WHITE_SPACE w_MAX_INCLUSIVE w_MAX_EXCLUSIVE w_MIN_EXCLUSIVE w_MIN_INCLUSIVE w_TOTAL_DIGITS w_FRACTION_DIGITS h0 n0 (some (.ref w_MAX_EXCLUSIVE)) T8.heap _
                  rw [e8]
                  exact ⟨by unfold own_pick; rw [if_neg hc1, if_neg hc10, if_neg hc19, if_neg hc28, if_neg hc37, if_neg hc46, if_neg hc56, if_pos hc66], N0, rfl⟩
                · refine own_go (B := s₁.setTop (mkF m 76 #[.val (.int p1)] [(.int (8 : Int32)), (.int p1)])) (fun t k => ?_) ?_
                  · show Steps p.tables e below (s₁.setTop (mkF m 66 #[.val (.int p1)] [(.int (7 : Int32)), (.int p1)])) _
                    refine XS.icmpYes X0.here hx rfl (pc0 := 66) (pc' := 73) rfl (hb hby d1_66) rfl (feq hc66).2 (by decide) (by decide) ?_
                    show Steps p.tables e below (s₁.setTop (mkF m 73 #[.val (.int p1)] [])) _
                    refine XS.iloadN X0.here hx rfl (hb hby d1_73) rfl ?_
                    show Steps p.tables e below (s₁.setTop (mkF m 74 #[.val (.int p1)] [(.int p1)])) _
                    refine XS.bipush X0.here hx rfl (hb hby d1_74) ?_
                    show Steps p.tables e below (s₁.setTop (mkF m 76 #[.val (.int p1)] [(.int (8 : Int32)), (.int p1)])) _
                    exact k
                  by_cases hc76 : p1 = (8 : Int32)
                  · refine own_go (B := s₁.setTop (mkF m 79 #[.val (.int p1)] [])) (fun t k => ?_) ?_
                    · show Steps p.tables e below (s₁.setTop (mkF m 76 #[.val (.int p1)] [(.int (8 : Int32)), (.int p1)])) _
                      refine XS.icmpNo X0.here hx rfl (hb hby d1_76) rfl (teq hc76).2 ?_
                      show Steps p.tables e below (s₁.setTop (mkF m 79 #[.val (.int p1)] [])) _
                      exact k
                    obtain ⟨T9, X9, e9, st9⟩ := getS2 X0 hx hZ hown (host := "") (Or.inl (hw _ (List.mem_of_getElem? (i := 25) rfl))) Via.refl e0 S_MIN_EXCLUSIVE (g := (mkF m 79 #[.val (.int p1)] [])) rfl (hb hby d1_79)
                    refine own_go (B := T9.setTop (mkF m 82 #[.val (.int p1)] [(.ref w_MIN_EXCLUSIVE)])) st9 ?_
                    obtain ⟨fs, hr, hrun, hended, hW, hsame⟩ := X9.leave (v := some (.ref w_MIN_EXCLUSIVE)) (fun h => by rw [Bd.returns] at h; cases h)
                    refine own_done (retOut X9 hx Bd.returns rfl (Or.inr (Or.inr (Or.inr (Or.inr ⟨rfl, rfl, rfl⟩)))) (hb hby d1_82) hr) hrun hended ⟨_, _, rfl, ?_, ⟨_, rfl⟩, hW, hsame.mono (by decide) (by decide)⟩
                    show Q_rm1 Z p1 w_LENGTH w_MIN_LENGTH w_MAX_LENGTH w_PATTERN w_ENUMERATION w_WHITE_SPACE w_MAX_INCLUSIVE w_MAX_EXCLUSIVE w_MIN_EXCLUSIVE w_MIN_INCLUSIVE w_TOTAL_DIGITS w_FRACTION_DIGITS h0 n0 (some (.ref w_MIN_EXCLUSIVE)) T9.heap _
                    rw [e9]
                    exact ⟨by unfold own_pick; rw [if_neg hc1, if_neg hc10, if_neg hc19, if_neg hc28, if_neg hc37, if_neg hc46, if_neg hc56, if_neg hc66, if_pos hc76], N0, rfl⟩
                  · refine own_go (B := s₁.setTop (mkF m 86 #[.val (.int p1)] [(.int (9 : Int32)), (.int p1)])) (fun t k => ?_) ?_
                    · show Steps p.tables e below (s₁.setTop (mkF m 76 #[.val (.int p1)] [(.int (8 : Int32)), (.int p1)])) _
                      refine XS.icmpYes X0.here hx rfl (pc0 := 76) (pc' := 83) rfl (hb hby d1_76) rfl (feq hc76).2 (by decide) (by decide) ?_
                      show Steps p.tables e below (s₁.setTop (mkF m 83 #[.val (.int p1)] [])) _
                      refine XS.iloadN X0.here hx rfl (hb hby d1_83) rfl ?_
                      show Steps p.tables e below (s₁.setTop (mkF m 84 #[.val (.int p1)] [(.int p1)])) _
                      refine XS.bipush X0.here hx rfl (hb hby d1_84) ?_
                      show Steps p.tables e below (s₁.setTop (mkF m 86 #[.val (.int p1)] [(.int (9 : Int32)), (.int p1)])) _
                      exact k
                    by_cases hc86 : p1 = (9 : Int32)
                    · refine own_go (B := s₁.setTop (mkF m 89 #[.val (.int p1)] [])) (fun t k => ?_) ?_
                      · show Steps p.tables e below (s₁.setTop (mkF m 86 #[.val (.int p1)] [(.int (9 : Int32)), (.int p1)])) _
                        refine XS.icmpNo X0.here hx rfl (hb hby d1_86) rfl (teq hc86).2 ?_
                        show Steps p.tables e below (s₁.setTop (mkF m 89 #[.val (.int p1)] [])) _
                        exact k
                      obtain ⟨T10, X10, e10, st10⟩ := getS2 X0 hx hZ hown (host := "") (Or.inl (hw _ (List.mem_of_getElem? (i := 31) rfl))) Via.refl e0 S_MIN_INCLUSIVE (g := (mkF m 89 #[.val (.int p1)] [])) rfl (hb hby d1_89)
                      refine own_go (B := T10.setTop (mkF m 92 #[.val (.int p1)] [(.ref w_MIN_INCLUSIVE)])) st10 ?_
                      obtain ⟨fs, hr, hrun, hended, hW, hsame⟩ := X10.leave (v := some (.ref w_MIN_INCLUSIVE)) (fun h => by rw [Bd.returns] at h; cases h)
                      refine own_done (retOut X10 hx Bd.returns rfl (Or.inr (Or.inr (Or.inr (Or.inr ⟨rfl, rfl, rfl⟩)))) (hb hby d1_92) hr) hrun hended ⟨_, _, rfl, ?_, ⟨_, rfl⟩, hW, hsame.mono (by decide) (by decide)⟩
                      show Q_rm1 Z p1 w_LENGTH w_MIN_LENGTH w_MAX_LENGTH w_PATTERN w_ENUMERATION w_WHITE_SPACE w_MAX_INCLUSIVE w_MAX_EXCLUSIVE w_MIN_EXCLUSIVE w_MIN_INCLUSIVE w_TOTAL_DIGITS w_FRACTION_DIGITS h0 n0 (some (.ref w_MIN_INCLUSIVE)) T10.heap _
                      rw [e10]
                      exact ⟨by unfold own_pick; rw [if_neg hc1, if_neg hc10, if_neg hc19, if_neg hc28, if_neg hc37, if_neg hc46, if_neg hc56, if_neg hc66, if_neg hc76, if_pos hc86], N0, rfl⟩
                    · refine own_go (B := s₁.setTop (mkF m 96 #[.val (.int p1)] [(.int (10 : Int32)), (.int p1)])) (fun t k => ?_) ?_
                      · show Steps p.tables e below (s₁.setTop (mkF m 86 #[.val (.int p1)] [(.int (9 : Int32)), (.int p1)])) _
                        refine XS.icmpYes X0.here hx rfl (pc0 := 86) (pc' := 93) rfl (hb hby d1_86) rfl (feq hc86).2 (by decide) (by decide) ?_
                        show Steps p.tables e below (s₁.setTop (mkF m 93 #[.val (.int p1)] [])) _
                        refine XS.iloadN X0.here hx rfl (hb hby d1_93) rfl ?_
                        show Steps p.tables e below (s₁.setTop (mkF m 94 #[.val (.int p1)] [(.int p1)])) _
                        refine XS.bipush X0.here hx rfl (hb hby d1_94) ?_
                        show Steps p.tables e below (s₁.setTop (mkF m 96 #[.val (.int p1)] [(.int (10 : Int32)), (.int p1)])) _
                        exact k
                      by_cases hc96 : p1 = (10 : Int32)
                      · refine own_go (B := s₁.setTop (mkF m 99 #[.val (.int p1)] [])) (fun t k => ?_) ?_
                        · show Steps p.tables e below (s₁.setTop (mkF m 96 #[.val (.int p1)] [(.int (10 : Int32)), (.int p1)])) _
                          refine XS.icmpNo X0.here hx rfl (hb hby d1_96) rfl (teq hc96).2 ?_
                          show Steps p.tables e below (s₁.setTop (mkF m 99 #[.val (.int p1)] [])) _
                          exact k
                        obtain ⟨T11, X11, e11, st11⟩ := getS2 X0 hx hZ hown (host := "") (Or.inl (hw _ (List.mem_of_getElem? (i := 29) rfl))) Via.refl e0 S_TOTAL_DIGITS (g := (mkF m 99 #[.val (.int p1)] [])) rfl (hb hby d1_99)
                        refine own_go (B := T11.setTop (mkF m 102 #[.val (.int p1)] [(.ref w_TOTAL_DIGITS)])) st11 ?_
                        obtain ⟨fs, hr, hrun, hended, hW, hsame⟩ := X11.leave (v := some (.ref w_TOTAL_DIGITS)) (fun h => by rw [Bd.returns] at h; cases h)
                        refine own_done (retOut X11 hx Bd.returns rfl (Or.inr (Or.inr (Or.inr (Or.inr ⟨rfl, rfl, rfl⟩)))) (hb hby d1_102) hr) hrun hended ⟨_, _, rfl, ?_, ⟨_, rfl⟩, hW, hsame.mono (by decide) (by decide)⟩
                        show Q_rm1 Z p1 w_LENGTH w_MIN_LENGTH w_MAX_LENGTH w_PATTERN w_ENUMERATION w_WHITE_SPACE w_MAX_INCLUSIVE w_MAX_EXCLUSIVE w_MIN_EXCLUSIVE w_MIN_INCLUSIVE w_TOTAL_DIGITS w_FRACTION_DIGITS h0 n0 (some (.ref w_TOTAL_DIGITS)) T11.heap _
                        rw [e11]
                        exact ⟨by unfold own_pick; rw [if_neg hc1, if_neg hc10, if_neg hc19, if_neg hc28, if_neg hc37, if_neg hc46, if_neg hc56, if_neg hc66, if_neg hc76, if_neg hc86, if_pos hc96], N0, rfl⟩
                      · refine own_go (B := s₁.setTop (mkF m 103 #[.val (.int p1)] [])) (fun t k => ?_) ?_
                        · show Steps p.tables e below (s₁.setTop (mkF m 96 #[.val (.int p1)] [(.int (10 : Int32)), (.int p1)])) _
                          refine XS.icmpYes X0.here hx rfl (pc0 := 96) (pc' := 103) rfl (hb hby d1_96) rfl (feq hc96).2 (by decide) (by decide) ?_
                          show Steps p.tables e below (s₁.setTop (mkF m 103 #[.val (.int p1)] [])) _
                          exact k
                        obtain ⟨T12, X12, e12, st12⟩ := getS2 X0 hx hZ hown (host := "") (Or.inl (hw _ (List.mem_of_getElem? (i := 22) rfl))) Via.refl e0 S_FRACTION_DIGITS (g := (mkF m 103 #[.val (.int p1)] [])) rfl (hb hby d1_103)
                        refine own_go (B := T12.setTop (mkF m 106 #[.val (.int p1)] [(.ref w_FRACTION_DIGITS)])) st12 ?_
                        obtain ⟨fs, hr, hrun, hended, hW, hsame⟩ := X12.leave (v := some (.ref w_FRACTION_DIGITS)) (fun h => by rw [Bd.returns] at h; cases h)
                        refine own_done (retOut X12 hx Bd.returns rfl (Or.inr (Or.inr (Or.inr (Or.inr ⟨rfl, rfl, rfl⟩)))) (hb hby d1_106) hr) hrun hended ⟨_, _, rfl, ?_, ⟨_, rfl⟩, hW, hsame.mono (by decide) (by decide)⟩
                        show Q_rm1 Z p1 w_LENGTH w_MIN_LENGTH w_MAX_LENGTH w_PATTERN w_ENUMERATION w_WHITE_SPACE w_MAX_INCLUSIVE w_MAX_EXCLUSIVE w_MIN_EXCLUSIVE w_MIN_INCLUSIVE w_TOTAL_DIGITS w_FRACTION_DIGITS h0 n0 (some (.ref w_FRACTION_DIGITS)) T12.heap _
                        rw [e12]
                        exact ⟨by unfold own_pick; rw [if_neg hc1, if_neg hc10, if_neg hc19, if_neg hc28, if_neg hc37, if_neg hc46, if_neg hc56, if_neg hc66, if_neg hc76, if_neg hc86, if_neg hc96], N0, rfl⟩
def Q_rm2 (Z : State) (a1 w_PATTERN w_ENUMERATION : Addr) (h0 : Heap) (n0 : Nat) (v : Option Value) (h : Heap) (L : List Loc) : Prop := v = some (.int (own_att a1 w_PATTERN w_ENUMERATION)) ∧ Fr n0 L ∧ h = h0
theorem ef_2 (m : MethodId) (x0 : Addr) : entryFrame m #[(.ref x0)] 1 = mkF m 0 #[.val (.ref x0)] [] := by first | (simp [entryFrame, mkF, argsToLocals, Value.category, maxLocals]; done) | rfl
set_option maxRecDepth 65536 in
set_option maxHeartbeats 40000000 in
theorem rm2 (l : Launch) (Z : State) (a0 : Array Value) (hw : ∀ d ∈ tables_1, d.before a0 Z = true) (ws : List Jvm.Cond) (a1 w_PATTERN w_ENUMERATION : Addr) (h0 : Heap) (n0 : Nat) (Z0 : n0 ≤ h0.size) (S_PATTERN : Sta Z h0 "com/example/schemaloom/schemaloom/schema/Facet$Kind" "PATTERN" "Lcom/example/schemaloom/schemaloom/schema/Facet$Kind;" (.ref w_PATTERN)) (S_ENUMERATION : Sta Z h0 "com/example/schemaloom/schemaloom/schema/Facet$Kind" "ENUMERATION" "Lcom/example/schemaloom/schemaloom/schema/Facet$Kind;" (.ref w_ENUMERATION)) :
    MetFree l (⟨"com/example/schemaloom/schemaloom/schema/Facet$Kind", "isRepeatable", "()Z"⟩ : MethodName) (head1 (Jvm.Cond.code (⟨"com/example/schemaloom/schemaloom/schema/Facet$Kind", "isRepeatable", "()Z"⟩ : MethodName) prog_38_method_6_code 1 (some .boolean) :: ws) ({ frames := 0, cells := 0, slots := 0, locals := 0 } : Room)) (fun a U => a = #[(.ref a1)] ∧ Z.Warmed39 U.vm ∧ U.heap = h0) (fun _ _ _ _ _ => True) (fun _ U o U' => ∃ v L, o = .returned v ∧ Q_rm2 Z a1 w_PATTERN w_ENUMERATION h0 n0 v U'.heap L ∧ FrameEnd U o U' L ({ frames := 0, cells := 0, slots := 0, locals := 0 } : Room).cells ({ frames := 0, cells := 0, slots := 0, locals := 0 } : Room).slots) := by
  refine MetFree.of_bodySF (plainFor_of_name pn_2) hisR ?_
  intro p e s m args below meth c s₁ Bd hml0 hP hK
  obtain ⟨rfl, hZ, hh⟩ := hP
  have hx := Bd.exec
  have hby := Bd.bytes
  have hml : c.maxLocals = 1 := hml0
  have hown : s.vm.findClass "com/example/schemaloom/schemaloom/schema/Facet$Kind" = some m.cls := findClass_of_methodNamed Bd.named
  have hnm := (name_of_methodNamed Bd.named Bd.method).1
  have X0 : Stand p l e ({ frames := 0, cells := 0, slots := 0, locals := 0 } : Room) s m #[(.ref a1)] below meth c s₁ [] 0 0 := Stand.of_body Bd
  have e0 : s₁.heap = h0 := by rw [← hh, Bd.state]; rfl
  have N0 := Fr.nil n0
  have K : Keep h0 h0 [] := Keep.refl h0 []
  show own_Gd p.tables e below (own_P (Q_rm2 Z a1 w_PATTERN w_ENUMERATION h0 n0) s ({ frames := 0, cells := 0, slots := 0, locals := 0 } : Room).cells ({ frames := 0, cells := 0, slots := 0, locals := 0 } : Room).slots) _
  refine own_go (B := s₁.setTop (mkF m 0 #[.val (.ref a1)] [])) (fun t k => castTop (ef_2 m a1) k) ?_
  refine own_go (B := s₁.setTop (mkF m 1 #[.val (.ref a1)] [(.ref a1)])) (fun t k => ?_) ?_
  · show Steps p.tables e below (s₁.setTop (mkF m 0 #[.val (.ref a1)] [])) _
    refine XS.aloadN X0.here hx rfl (hb hby d2_0) rfl rfl ?_
    show Steps p.tables e below (s₁.setTop (mkF m 1 #[.val (.ref a1)] [(.ref a1)])) _
    exact k
  obtain ⟨T1, X1, e1, st1⟩ := getS2 X0 hx hZ hown (host := "") (Or.inl (hw _ (List.mem_of_getElem? (i := 13) rfl))) Via.refl e0 S_PATTERN (g := (mkF m 1 #[.val (.ref a1)] [(.ref a1)])) rfl (hb hby d2_1)
  refine own_go (B := T1.setTop (mkF m 4 #[.val (.ref a1)] [(.ref w_PATTERN), (.ref a1)])) st1 ?_
  by_cases ha4 : a1 = w_PATTERN
  · refine own_go (B := T1.setTop (mkF m 19 #[.val (.ref a1)] [(.int (1 : Int32))])) (fun t k => ?_) ?_
    · show Steps p.tables e below (T1.setTop (mkF m 4 #[.val (.ref a1)] [(.ref w_PATTERN), (.ref a1)])) _
      refine Jvm.RoadKit.acmp (g := (mkF m 4 #[.val (.ref a1)] [(.ref w_PATTERN), (.ref a1)])) X1 hx rfl rfl rfl (pc0 := 4) (pc' := 14) (same := true) rfl (hb hby d2_4) rfl (decide_eq_true (congrArg Value.ref ha4)) (by decide) (by decide) ?_
      show Steps p.tables e below (T1.setTop (mkF m 14 #[.val (.ref a1)] [])) _
      refine XS.iconst X1.here hx rfl (hb hby d2_14) ?_
      show Steps p.tables e below (T1.setTop (mkF m 15 #[.val (.ref a1)] [(.int (1 : Int32))])) _
      refine XS.goto X1.here hx rfl (pc0 := 15) (pc' := 19) rfl (hb hby d2_15) (by decide) (by decide) ?_
      show Steps p.tables e below (T1.setTop (mkF m 19 #[.val (.ref a1)] [(.int (1 : Int32))])) _
      exact k
    obtain ⟨fs, hr, hrun, hended, hW, hsame⟩ := X1.leave (v := some (.int (1 : Int32))) (fun h => by rw [Bd.returns] at h; cases h)
    refine own_done (retN X1 hx (t := .boolean) Bd.returns (by simp) (hb hby d2_19) hr) hrun hended ⟨_, _, rfl, ?_, ⟨_, rfl⟩, hW, hsame.mono (by decide) (by decide)⟩
    show Q_rm2 Z a1 w_PATTERN w_ENUMERATION h0 n0 (some (.int (1 : Int32))) T1.heap _
    rw [e1]
    exact ⟨by unfold own_att; rw [if_pos ha4], N0, rfl⟩
  · refine own_go (B := T1.setTop (mkF m 8 #[.val (.ref a1)] [(.ref a1)])) (fun t k => ?_) ?_
    · show Steps p.tables e below (T1.setTop (mkF m 4 #[.val (.ref a1)] [(.ref w_PATTERN), (.ref a1)])) _
      refine Jvm.RoadKit.acmp (g := (mkF m 4 #[.val (.ref a1)] [(.ref w_PATTERN), (.ref a1)])) X1 hx rfl rfl rfl (pc0 := 4) (pc' := 7) (same := false) rfl (hb hby d2_4) rfl (decide_eq_false fun q => ha4 (Value.ref.inj q)) (by decide) (by decide) ?_
      show Steps p.tables e below (T1.setTop (mkF m 7 #[.val (.ref a1)] [])) _
      refine XS.aloadN X1.here hx rfl (hb hby d2_7) rfl rfl ?_
      show Steps p.tables e below (T1.setTop (mkF m 8 #[.val (.ref a1)] [(.ref a1)])) _
      exact k
    obtain ⟨T2, X2, e2, st2⟩ := getS2 X1 hx hZ hown (host := "") (Or.inl (hw _ (List.mem_of_getElem? (i := 15) rfl))) Via.refl e1 S_ENUMERATION (g := (mkF m 8 #[.val (.ref a1)] [(.ref a1)])) rfl (hb hby d2_8)
    refine own_go (B := T2.setTop (mkF m 11 #[.val (.ref a1)] [(.ref w_ENUMERATION), (.ref a1)])) st2 ?_
    by_cases ha11 : a1 = w_ENUMERATION
    · refine own_go (B := T2.setTop (mkF m 19 #[.val (.ref a1)] [(.int (1 : Int32))])) (fun t k => ?_) ?_
      · show Steps p.tables e below (T2.setTop (mkF m 11 #[.val (.ref a1)] [(.ref w_ENUMERATION), (.ref a1)])) _
        refine Jvm.RoadKit.acmp (g := (mkF m 11 #[.val (.ref a1)] [(.ref w_ENUMERATION), (.ref a1)])) X2 hx rfl rfl rfl (pc0 := 11) (pc' := 14) (same := true) rfl (hb hby d2_11) rfl (decide_eq_true (congrArg Value.ref ha11)) (by decide) (by decide) ?_
        show Steps p.tables e below (T2.setTop (mkF m 14 #[.val (.ref a1)] [])) _
        refine XS.iconst X2.here hx rfl (hb hby d2_14) ?_
        show Steps p.tables e below (T2.setTop (mkF m 15 #[.val (.ref a1)] [(.int (1 : Int32))])) _
        refine XS.goto X2.here hx rfl (pc0 := 15) (pc' := 19) rfl (hb hby d2_15) (by decide) (by decide) ?_
        show Steps p.tables e below (T2.setTop (mkF m 19 #[.val (.ref a1)] [(.int (1 : Int32))])) _
        exact k
      obtain ⟨fs, hr, hrun, hended, hW, hsame⟩ := X2.leave (v := some (.int (1 : Int32))) (fun h => by rw [Bd.returns] at h; cases h)
      refine own_done (retN X2 hx (t := .boolean) Bd.returns (by simp) (hb hby d2_19) hr) hrun hended ⟨_, _, rfl, ?_, ⟨_, rfl⟩, hW, hsame.mono (by decide) (by decide)⟩
      show Q_rm2 Z a1 w_PATTERN w_ENUMERATION h0 n0 (some (.int (1 : Int32))) T2.heap _
      rw [e2]
      exact ⟨by unfold own_att; rw [if_neg ha4, if_pos ha11], N0, rfl⟩
    · refine own_go (B := T2.setTop (mkF m 19 #[.val (.ref a1)] [(.int (0 : Int32))])) (fun t k => ?_) ?_
      · show Steps p.tables e below (T2.setTop (mkF m 11 #[.val (.ref a1)] [(.ref w_ENUMERATION), (.ref a1)])) _
        refine Jvm.RoadKit.acmp (g := (mkF m 11 #[.val (.ref a1)] [(.ref w_ENUMERATION), (.ref a1)])) X2 hx rfl rfl rfl (pc0 := 11) (pc' := 18) (same := false) rfl (hb hby d2_11) rfl (decide_eq_false fun q => ha11 (Value.ref.inj q)) (by decide) (by decide) ?_
        show Steps p.tables e below (T2.setTop (mkF m 18 #[.val (.ref a1)] [])) _
        refine XS.iconst X2.here hx rfl (hb hby d2_18) ?_
        show Steps p.tables e below (T2.setTop (mkF m 19 #[.val (.ref a1)] [(.int (0 : Int32))])) _
        exact k
      obtain ⟨fs, hr, hrun, hended, hW, hsame⟩ := X2.leave (v := some (.int (0 : Int32))) (fun h => by rw [Bd.returns] at h; cases h)
      refine own_done (retN X2 hx (t := .boolean) Bd.returns (by simp) (hb hby d2_19) hr) hrun hended ⟨_, _, rfl, ?_, ⟨_, rfl⟩, hW, hsame.mono (by decide) (by decide)⟩
      show Q_rm2 Z a1 w_PATTERN w_ENUMERATION h0 n0 (some (.int (0 : Int32))) T2.heap _
      rw [e2]
      exact ⟨by unfold own_att; rw [if_neg ha4, if_neg ha11], N0, rfl⟩
def Q_rm0 (Z : State) (p1 : Int32) (h0 : Heap) (n0 : Nat) (v : Option Value) (h : Heap) (L : List Loc) : Prop := v = some (.int (1 : Int32)) ∧ Fr n0 L
theorem ef_0 (m : MethodId) (x0 : Int32) : entryFrame m #[(.int x0)] maxLocals = mkF m 0 #[.val (.int x0), .unset, .unset, .unset] [] := by first | (simp [entryFrame, mkF, argsToLocals, Value.category, maxLocals]; done) | rfl
set_option maxRecDepth 65536 in
set_option maxHeartbeats 40000000 in
theorem rm0 (l : Launch) (Z : State) (a0 : Array Value) (hw : ∀ d ∈ tables_1, d.before a0 Z = true) (ws : List Jvm.Cond) (p1 : Int32) (w_LENGTH w_MIN_LENGTH w_MAX_LENGTH w_PATTERN w_ENUMERATION w_WHITE_SPACE w_MAX_INCLUSIVE w_MAX_EXCLUSIVE w_MIN_EXCLUSIVE w_MIN_INCLUSIVE w_TOTAL_DIGITS w_FRACTION_DIGITS : Addr) (h0 : Heap) (n0 : Nat) (Z0 : n0 ≤ h0.size) (S_LENGTH : Sta Z h0 "com/example/schemaloom/schemaloom/schema/Facet$Kind" "LENGTH" "Lcom/example/schemaloom/schemaloom/schema/Facet$Kind;" (.ref w_LENGTH)) (S_MIN_LENGTH : Sta Z h0 "com/example/schemaloom/schemaloom/schema/Facet$Kind" "MIN_LENGTH" "Lcom/example/schemaloom/schemaloom/schema/Facet$Kind;" (.ref w_MIN_LENGTH)) (S_MAX_LENGTH : Sta Z h0 "com/example/schemaloom/schemaloom/schema/Facet$Kind" "MAX_LENGTH" "Lcom/example/schemaloom/schemaloom/schema/Facet$Kind;" (.ref w_MAX_LENGTH)) (S_PATTERN : Sta Z h0 "com/example/schemaloom/schemaloom/schema/Facet$Kind" "PATTERN" "Lcom/example/schemaloom/schemaloom/schema/Facet$Kind;" (.ref w_PATTERN)) (S_ENUMERATION : Sta Z h0 "com/example/schemaloom/schemaloom/schema/Facet$Kind" "ENUMERATION" "Lcom/example/schemaloom/schemaloom/schema/Facet$Kind;" (.ref w_ENUMERATION)) (S_WHITE_SPACE : Sta Z h0 "com/example/schemaloom/schemaloom/schema/Facet$Kind" "WHITE_SPACE" "Lcom/example/schemaloom/schemaloom/schema/Facet$Kind;" (.ref w_WHITE_SPACE)) (S_MAX_INCLUSIVE : Sta Z h0 "com/example/schemaloom/schemaloom/schema/Facet$Kind" "MAX_INCLUSIVE" "Lcom/example/schemaloom/schemaloom/schema/Facet$Kind;" (.ref w_MAX_INCLUSIVE)) (S_MAX_EXCLUSIVE : Sta Z h0 "com/example/schemaloom/schemaloom/schema/Facet$Kind" "MAX_EXCLUSIVE" "Lcom/example/schemaloom/schemaloom/schema/Facet$Kind;" (.ref w_MAX_EXCLUSIVE)) (S_MIN_EXCLUSIVE : Sta Z h0 "com/example/schemaloom/schemaloom/schema/Facet$Kind" "MIN_EXCLUSIVE" "Lcom/example/schemaloom/schemaloom/schema/Facet$Kind;" (.ref w_MIN_EXCLUSIVE)) (S_MIN_INCLUSIVE : Sta Z h0 "com/example/schemaloom/schemaloom/schema/Facet$Kind" "MIN_INCLUSIVE" "Lcom/example/schemaloom/schemaloom/schema/Facet$Kind;" (.ref w_MIN_INCLUSIVE)) (S_TOTAL_DIGITS : Sta Z h0 "com/example/schemaloom/schemaloom/schema/Facet$Kind" "TOTAL_DIGITS" "Lcom/example/schemaloom/schemaloom/schema/Facet$Kind;" (.ref w_TOTAL_DIGITS)) (S_FRACTION_DIGITS : Sta Z h0 "com/example/schemaloom/schemaloom/schema/Facet$Kind" "FRACTION_DIGITS" "Lcom/example/schemaloom/schemaloom/schema/Facet$Kind;" (.ref w_FRACTION_DIGITS)) (E_LENGTH : Exa Z h0 w_LENGTH "com/example/schemaloom/schemaloom/schema/Facet$Kind") (E_MIN_LENGTH : Exa Z h0 w_MIN_LENGTH "com/example/schemaloom/schemaloom/schema/Facet$Kind") (E_MAX_LENGTH : Exa Z h0 w_MAX_LENGTH "com/example/schemaloom/schemaloom/schema/Facet$Kind") (E_PATTERN : Exa Z h0 w_PATTERN "com/example/schemaloom/schemaloom/schema/Facet$Kind") (E_ENUMERATION : Exa Z h0 w_ENUMERATION "com/example/schemaloom/schemaloom/schema/Facet$Kind") (E_WHITE_SPACE : Exa Z h0 w_WHITE_SPACE "com/example/schemaloom/schemaloom/schema/Facet$Kind") (E_MAX_INCLUSIVE : Exa Z h0 w_MAX_INCLUSIVE "com/example/schemaloom/schemaloom/schema/Facet$Kind") (E_MAX_EXCLUSIVE : Exa Z h0 w_MAX_EXCLUSIVE "com/example/schemaloom/schemaloom/schema/Facet$Kind") (E_MIN_EXCLUSIVE : Exa Z h0 w_MIN_EXCLUSIVE "com/example/schemaloom/schemaloom/schema/Facet$Kind") (E_MIN_INCLUSIVE : Exa Z h0 w_MIN_INCLUSIVE "com/example/schemaloom/schemaloom/schema/Facet$Kind") (E_TOTAL_DIGITS : Exa Z h0 w_TOTAL_DIGITS "com/example/schemaloom/schemaloom/schema/Facet$Kind") (E_FRACTION_DIGITS : Exa Z h0 w_FRACTION_DIGITS "com/example/schemaloom/schemaloom/schema/Facet$Kind") (hpl : ∀ k : Int32, (p1 &&& (2147483647 : Int32)) % (12 : Int32) = k → own_att (own_pick k w_LENGTH w_MIN_LENGTH w_MAX_LENGTH w_PATTERN w_ENUMERATION w_WHITE_SPACE w_MAX_INCLUSIVE w_MAX_EXCLUSIVE w_MIN_EXCLUSIVE w_MIN_INCLUSIVE w_TOTAL_DIGITS w_FRACTION_DIGITS) w_PATTERN w_ENUMERATION = if k = 3 then 1 else if k = 4 then 1 else 0) :
    MetFree l x (head1 (Jvm.Cond.code x code maxLocals ret :: ws) room_1) (fun a U => a = #[(.int p1)] ∧ Z.Warmed39 U.vm ∧ U.heap = h0) (fun _ _ _ _ _ => True) (fun _ U o U' => ∃ v L, o = .returned v ∧ Q_rm0 Z p1 h0 n0 v U'.heap L ∧ FrameEnd U o U' L room_1.cells room_1.slots) := by
  refine MetFree.of_bodySF (plainFor_of_name pn_0) hisR ?_
  intro p e s m args below meth c s₁ Bd hml0 hP hK
  obtain ⟨rfl, hZ, hh⟩ := hP
  have hx := Bd.exec
  have hby := Bd.bytes
  have hml : c.maxLocals = 4 := hml0
  have hown : s.vm.findClass "com/example/schemaloom/schemaloom/schema/KindIsRepeatablePinLaw" = some m.cls := findClass_of_methodNamed Bd.named
  have hnm := (name_of_methodNamed Bd.named Bd.method).1
  have X0 : Stand p l e room_1 s m #[(.int p1)] below meth c s₁ [] 0 0 := Stand.of_body Bd
  have e0 : s₁.heap = h0 := by rw [← hh, Bd.state]; rfl
  have N0 := Fr.nil n0
  have K : Keep h0 h0 [] := Keep.refl h0 []
  show own_Gd p.tables e below (own_P (Q_rm0 Z p1 h0 n0) s room_1.cells room_1.slots) _
  refine own_go (B := s₁.setTop (mkF m 0 #[.val (.int p1), .unset, .unset, .unset] [])) (fun t k => castTop (ef_0 m p1) k) ?_
  refine own_go (B := s₁.setTop (mkF m 9 #[.val (.int p1), .val (.int ((p1 &&& (2147483647 : Int32)) % (12 : Int32))), .unset, .unset] [(.int ((p1 &&& (2147483647 : Int32)) % (12 : Int32)))])) (fun t k => ?_) ?_
  · show Steps p.tables e below (s₁.setTop (mkF m 0 #[.val (.int p1), .unset, .unset, .unset] [])) _
    refine XS.iloadN X0.here hx rfl (hb hby at_0) rfl ?_
    show Steps p.tables e below (s₁.setTop (mkF m 1 #[.val (.int p1), .unset, .unset, .unset] [(.int p1)])) _
    refine X0.ldcI hx hown (mvT hZ (hw _ (List.mem_of_getElem? (i := 0) rfl))) (g := (mkF m 1 #[.val (.int p1), .unset, .unset, .unset] [(.int p1)])) rfl (hb hby at_1) ?_
    show Steps p.tables e below (s₁.setTop (mkF m 3 #[.val (.int p1), .unset, .unset, .unset] [(.int (2147483647 : Int32)), (.int p1)])) _
    refine XS.iand X0.here hx rfl (hb hby at_3) rfl ?_
    show Steps p.tables e below (s₁.setTop (mkF m 4 #[.val (.int p1), .unset, .unset, .unset] [(.int (p1 &&& (2147483647 : Int32)))])) _
    refine XS.bipush X0.here hx rfl (hb hby at_4) ?_
    show Steps p.tables e below (s₁.setTop (mkF m 6 #[.val (.int p1), .unset, .unset, .unset] [(.int (12 : Int32)), (.int (p1 &&& (2147483647 : Int32)))])) _
    refine iremM (g := (mkF m 6 #[.val (.int p1), .unset, .unset, .unset] [(.int (12 : Int32)), (.int (p1 &&& (2147483647 : Int32)))])) X0 hx rfl (hb hby at_6) rfl (by decide) ?_
    show Steps p.tables e below (s₁.setTop (mkF m 7 #[.val (.int p1), .unset, .unset, .unset] [(.int ((p1 &&& (2147483647 : Int32)) % (12 : Int32)))])) _
    refine XS.istoreN X0.here hx rfl (hb hby at_7) rfl (l' := #[.val (.int p1), .val (.int ((p1 &&& (2147483647 : Int32)) % (12 : Int32))), .unset, .unset]) rfl ?_
    show Steps p.tables e below (s₁.setTop (mkF m 8 #[.val (.int p1), .val (.int ((p1 &&& (2147483647 : Int32)) % (12 : Int32))), .unset, .unset] [])) _
    refine XS.iloadN X0.here hx rfl (hb hby at_8) rfl ?_
    show Steps p.tables e below (s₁.setTop (mkF m 9 #[.val (.int p1), .val (.int ((p1 &&& (2147483647 : Int32)) % (12 : Int32))), .unset, .unset] [(.int ((p1 &&& (2147483647 : Int32)) % (12 : Int32)))])) _
    exact k
  obtain ⟨_, _, ⟨T1, L1, k1, n1⟩, -, X1, ⟨Lc1, hQ1, l1, y1, z1⟩, st1⟩ := Jvm.LawKit.callS X0 hx (y := (⟨"com/example/schemaloom/schemaloom/schema/KindIsRepeatablePinLaw", "kindOf", "(I)Lcom/example/schemaloom/schemaloom/schema/Facet$Kind;"⟩ : MethodName)) hown (mvT hZ (hw _ (List.mem_of_getElem? (i := 1) rfl))) (mvT hZ (hw _ (List.mem_of_getElem? (i := 2) rfl))) (mvT hZ (hw _ (List.mem_of_getElem? (i := 3) rfl))) (mvT hZ (hw _ (List.mem_of_getElem? (i := 4) rfl))) (by decide) (backOf (W := 0) (rm1 l Z a0 hw [] ((p1 &&& (2147483647 : Int32)) % (12 : Int32)) w_LENGTH w_MIN_LENGTH w_MAX_LENGTH w_PATTERN w_ENUMERATION w_WHITE_SPACE w_MAX_INCLUSIVE w_MAX_EXCLUSIVE w_MIN_EXCLUSIVE w_MIN_INCLUSIVE w_TOTAL_DIGITS w_FRACTION_DIGITS h0 n0 Z0 S_LENGTH S_MIN_LENGTH S_MAX_LENGTH S_PATTERN S_ENUMERATION S_WHITE_SPACE S_MAX_INCLUSIVE S_MAX_EXCLUSIVE S_MIN_EXCLUSIVE S_MIN_INCLUSIVE S_TOTAL_DIGITS S_FRACTION_DIGITS) hZ (hw _ (List.mem_of_getElem? (i := 4) rfl)) (hw _ (List.mem_of_getElem? (i := 3) rfl)) (by decide) (by decide)) (g := (mkF m 9 #[.val (.int p1), .val (.int ((p1 &&& (2147483647 : Int32)) % (12 : Int32))), .unset, .unset] [(.int ((p1 &&& (2147483647 : Int32)) % (12 : Int32)))])) rfl (by rw [hml]; rfl) (argsL := [(.int ((p1 &&& (2147483647 : Int32)) % (12 : Int32)))]) (rest := []) (lenOf pd_0 rfl) rfl (by show 2 * 0 + _ ≤ _; exact Nat.le_of_eq rfl) (hb hby at_9) (fun _ _ => ⟨rfl, e0, Nat.le_of_ble_eq_true rfl, Nat.le_of_ble_eq_true rfl⟩)
  dsimp only [Pt.U, Pt.locs, Pt.cells, Pt.slots] at X1 l1 y1 z1 st1 hQ1
  subst l1 y1 z1
  obtain ⟨h1, e1⟩ : ∃ z, T1.heap = z := ⟨_, rfl⟩
  rw [e1] at hQ1
  obtain ⟨rfl, N1q, eq1⟩ := hQ1
  have N1 := Fr.app N0 N1q
  rw [eq1] at e1
  refine own_go (B := T1.setTop (mkF m 12 #[.val (.int p1), .val (.int ((p1 &&& (2147483647 : Int32)) % (12 : Int32))), .unset, .unset] [(.ref (own_pick ((p1 &&& (2147483647 : Int32)) % (12 : Int32)) w_LENGTH w_MIN_LENGTH w_MAX_LENGTH w_PATTERN w_ENUMERATION w_WHITE_SPACE w_MAX_INCLUSIVE w_MAX_EXCLUSIVE w_MIN_EXCLUSIVE w_MIN_INCLUSIVE w_TOTAL_DIGITS w_FRACTION_DIGITS))])) st1 ?_
  refine own_go (B := T1.setTop (mkF m 15 #[.val (.int p1), .val (.int ((p1 &&& (2147483647 : Int32)) % (12 : Int32))), .val (.ref (own_pick ((p1 &&& (2147483647 : Int32)) % (12 : Int32)) w_LENGTH w_MIN_LENGTH w_MAX_LENGTH w_PATTERN w_ENUMERATION w_WHITE_SPACE w_MAX_INCLUSIVE w_MAX_EXCLUSIVE w_MIN_EXCLUSIVE w_MIN_INCLUSIVE w_TOTAL_DIGITS w_FRACTION_DIGITS)), .unset] [(.int (3 : Int32)), (.int ((p1 &&& (2147483647 : Int32)) % (12 : Int32)))])) (fun t k => ?_) ?_
  · show Steps p.tables e below (T1.setTop (mkF m 12 #[.val (.int p1), .val (.int ((p1 &&& (2147483647 : Int32)) % (12 : Int32))), .unset, .unset] [(.ref (own_pick ((p1 &&& (2147483647 : Int32)) % (12 : Int32)) w_LENGTH w_MIN_LENGTH w_MAX_LENGTH w_PATTERN w_ENUMERATION w_WHITE_SPACE w_MAX_INCLUSIVE w_MAX_EXCLUSIVE w_MIN_EXCLUSIVE w_MIN_INCLUSIVE w_TOTAL_DIGITS w_FRACTION_DIGITS))])) _
    refine XS.astoreN X1.here hx rfl (hb hby at_12) rfl rfl (l' := #[.val (.int p1), .val (.int ((p1 &&& (2147483647 : Int32)) % (12 : Int32))), .val (.ref (own_pick ((p1 &&& (2147483647 : Int32)) % (12 : Int32)) w_LENGTH w_MIN_LENGTH w_MAX_LENGTH w_PATTERN w_ENUMERATION w_WHITE_SPACE w_MAX_INCLUSIVE w_MAX_EXCLUSIVE w_MIN_EXCLUSIVE w_MIN_INCLUSIVE w_TOTAL_DIGITS w_FRACTION_DIGITS)), .unset]) rfl ?_
    show Steps p.tables e below (T1.setTop (mkF m 13 #[.val (.int p1), .val (.int ((p1 &&& (2147483647 : Int32)) % (12 : Int32))), .val (.ref (own_pick ((p1 &&& (2147483647 : Int32)) % (12 : Int32)) w_LENGTH w_MIN_LENGTH w_MAX_LENGTH w_PATTERN w_ENUMERATION w_WHITE_SPACE w_MAX_INCLUSIVE w_MAX_EXCLUSIVE w_MIN_EXCLUSIVE w_MIN_INCLUSIVE w_TOTAL_DIGITS w_FRACTION_DIGITS)), .unset] [])) _
    refine XS.iloadN X1.here hx rfl (hb hby at_13) rfl ?_
    show Steps p.tables e below (T1.setTop (mkF m 14 #[.val (.int p1), .val (.int ((p1 &&& (2147483647 : Int32)) % (12 : Int32))), .val (.ref (own_pick ((p1 &&& (2147483647 : Int32)) % (12 : Int32)) w_LENGTH w_MIN_LENGTH w_MAX_LENGTH w_PATTERN w_ENUMERATION w_WHITE_SPACE w_MAX_INCLUSIVE w_MAX_EXCLUSIVE w_MIN_EXCLUSIVE w_MIN_INCLUSIVE w_TOTAL_DIGITS w_FRACTION_DIGITS)), .unset] [(.int ((p1 &&& (2147483647 : Int32)) % (12 : Int32)))])) _
    refine XS.iconst X1.here hx rfl (hb hby at_14) ?_
    show Steps p.tables e below (T1.setTop (mkF m 15 #[.val (.int p1), .val (.int ((p1 &&& (2147483647 : Int32)) % (12 : Int32))), .val (.ref (own_pick ((p1 &&& (2147483647 : Int32)) % (12 : Int32)) w_LENGTH w_MIN_LENGTH w_MAX_LENGTH w_PATTERN w_ENUMERATION w_WHITE_SPACE w_MAX_INCLUSIVE w_MAX_EXCLUSIVE w_MIN_EXCLUSIVE w_MIN_INCLUSIVE w_TOTAL_DIGITS w_FRACTION_DIGITS)), .unset] [(.int (3 : Int32)), (.int ((p1 &&& (2147483647 : Int32)) % (12 : Int32)))])) _
    exact k
  by_cases hc15 : ((p1 &&& (2147483647 : Int32)) % (12 : Int32)) = (3 : Int32)
  · refine own_go (B := T1.setTop (mkF m 30 #[.val (.int p1), .val (.int ((p1 &&& (2147483647 : Int32)) % (12 : Int32))), .val (.ref (own_pick ((p1 &&& (2147483647 : Int32)) % (12 : Int32)) w_LENGTH w_MIN_LENGTH w_MAX_LENGTH w_PATTERN w_ENUMERATION w_WHITE_SPACE w_MAX_INCLUSIVE w_MAX_EXCLUSIVE w_MIN_EXCLUSIVE w_MIN_INCLUSIVE w_TOTAL_DIGITS w_FRACTION_DIGITS)), .val (.int (1 : Int32))] [(.ref (own_pick ((p1 &&& (2147483647 : Int32)) % (12 : Int32)) w_LENGTH w_MIN_LENGTH w_MAX_LENGTH w_PATTERN w_ENUMERATION w_WHITE_SPACE w_MAX_INCLUSIVE w_MAX_EXCLUSIVE w_MIN_EXCLUSIVE w_MIN_INCLUSIVE w_TOTAL_DIGITS w_FRACTION_DIGITS))])) (fun t k => ?_) ?_
    · show Steps p.tables e below (T1.setTop (mkF m 15 #[.val (.int p1), .val (.int ((p1 &&& (2147483647 : Int32)) % (12 : Int32))), .val (.ref (own_pick ((p1 &&& (2147483647 : Int32)) % (12 : Int32)) w_LENGTH w_MIN_LENGTH w_MAX_LENGTH w_PATTERN w_ENUMERATION w_WHITE_SPACE w_MAX_INCLUSIVE w_MAX_EXCLUSIVE w_MIN_EXCLUSIVE w_MIN_INCLUSIVE w_TOTAL_DIGITS w_FRACTION_DIGITS)), .unset] [(.int (3 : Int32)), (.int ((p1 &&& (2147483647 : Int32)) % (12 : Int32)))])) _
      refine XS.icmpYes X1.here hx rfl (pc0 := 15) (pc' := 23) rfl (hb hby at_15) rfl (teq hc15).1 (by decide) (by decide) ?_
      show Steps p.tables e below (T1.setTop (mkF m 23 #[.val (.int p1), .val (.int ((p1 &&& (2147483647 : Int32)) % (12 : Int32))), .val (.ref (own_pick ((p1 &&& (2147483647 : Int32)) % (12 : Int32)) w_LENGTH w_MIN_LENGTH w_MAX_LENGTH w_PATTERN w_ENUMERATION w_WHITE_SPACE w_MAX_INCLUSIVE w_MAX_EXCLUSIVE w_MIN_EXCLUSIVE w_MIN_INCLUSIVE w_TOTAL_DIGITS w_FRACTION_DIGITS)), .unset] [])) _
      refine XS.iconst X1.here hx rfl (hb hby at_23) ?_
      show Steps p.tables e below (T1.setTop (mkF m 24 #[.val (.int p1), .val (.int ((p1 &&& (2147483647 : Int32)) % (12 : Int32))), .val (.ref (own_pick ((p1 &&& (2147483647 : Int32)) % (12 : Int32)) w_LENGTH w_MIN_LENGTH w_MAX_LENGTH w_PATTERN w_ENUMERATION w_WHITE_SPACE w_MAX_INCLUSIVE w_MAX_EXCLUSIVE w_MIN_EXCLUSIVE w_MIN_INCLUSIVE w_TOTAL_DIGITS w_FRACTION_DIGITS)), .unset] [(.int (1 : Int32))])) _
      refine XS.goto X1.here hx rfl (pc0 := 24) (pc' := 28) rfl (hb hby at_24) (by decide) (by decide) ?_
      show Steps p.tables e below (T1.setTop (mkF m 28 #[.val (.int p1), .val (.int ((p1 &&& (2147483647 : Int32)) % (12 : Int32))), .val (.ref (own_pick ((p1 &&& (2147483647 : Int32)) % (12 : Int32)) w_LENGTH w_MIN_LENGTH w_MAX_LENGTH w_PATTERN w_ENUMERATION w_WHITE_SPACE w_MAX_INCLUSIVE w_MAX_EXCLUSIVE w_MIN_EXCLUSIVE w_MIN_INCLUSIVE w_TOTAL_DIGITS w_FRACTION_DIGITS)), .unset] [(.int (1 : Int32))])) _
      refine XS.istoreN X1.here hx rfl (hb hby at_28) rfl (l' := #[.val (.int p1), .val (.int ((p1 &&& (2147483647 : Int32)) % (12 : Int32))), .val (.ref (own_pick ((p1 &&& (2147483647 : Int32)) % (12 : Int32)) w_LENGTH w_MIN_LENGTH w_MAX_LENGTH w_PATTERN w_ENUMERATION w_WHITE_SPACE w_MAX_INCLUSIVE w_MAX_EXCLUSIVE w_MIN_EXCLUSIVE w_MIN_INCLUSIVE w_TOTAL_DIGITS w_FRACTION_DIGITS)), .val (.int (1 : Int32))]) rfl ?_
      show Steps p.tables e below (T1.setTop (mkF m 29 #[.val (.int p1), .val (.int ((p1 &&& (2147483647 : Int32)) % (12 : Int32))), .val (.ref (own_pick ((p1 &&& (2147483647 : Int32)) % (12 : Int32)) w_LENGTH w_MIN_LENGTH w_MAX_LENGTH w_PATTERN w_ENUMERATION w_WHITE_SPACE w_MAX_INCLUSIVE w_MAX_EXCLUSIVE w_MIN_EXCLUSIVE w_MIN_INCLUSIVE w_TOTAL_DIGITS w_FRACTION_DIGITS)), .val (.int (1 : Int32))] [])) _
      refine XS.aloadN X1.here hx rfl (hb hby at_29) rfl rfl ?_
      show Steps p.tables e below (T1.setTop (mkF m 30 #[.val (.int p1), .val (.int ((p1 &&& (2147483647 : Int32)) % (12 : Int32))), .val (.ref (own_pick ((p1 &&& (2147483647 : Int32)) % (12 : Int32)) w_LENGTH w_MIN_LENGTH w_MAX_LENGTH w_PATTERN w_ENUMERATION w_WHITE_SPACE w_MAX_INCLUSIVE w_MAX_EXCLUSIVE w_MIN_EXCLUSIVE w_MIN_INCLUSIVE w_TOTAL_DIGITS w_FRACTION_DIGITS)), .val (.int (1 : Int32))] [(.ref (own_pick ((p1 &&& (2147483647 : Int32)) % (12 : Int32)) w_LENGTH w_MIN_LENGTH w_MAX_LENGTH w_PATTERN w_ENUMERATION w_WHITE_SPACE w_MAX_INCLUSIVE w_MAX_EXCLUSIVE w_MIN_EXCLUSIVE w_MIN_INCLUSIVE w_TOTAL_DIGITS w_FRACTION_DIGITS))])) _
      exact k
    have E_pk := own_pick_exa ((p1 &&& (2147483647 : Int32)) % (12 : Int32)) E_LENGTH E_MIN_LENGTH E_MAX_LENGTH E_PATTERN E_ENUMERATION E_WHITE_SPACE E_MAX_INCLUSIVE E_MAX_EXCLUSIVE E_MIN_EXCLUSIVE E_MIN_INCLUSIVE E_TOTAL_DIGITS E_FRACTION_DIGITS
    obtain ⟨cq2, kq2, q2a, q2b, q2c⟩ := isOf hZ e1 E_pk
    obtain ⟨_, _, ⟨T3, L3, k3, n3⟩, -, X3, ⟨Lc3, hQ3, l3, y3, z3⟩, st3⟩ := X1.virtualBack hx (y := (⟨"com/example/schemaloom/schemaloom/schema/Facet$Kind", "isRepeatable", "()Z"⟩ : MethodName)) (z := (⟨"com/example/schemaloom/schemaloom/schema/Facet$Kind", "isRepeatable", "()Z"⟩ : MethodName)) hown (mvT hZ (hw _ (List.mem_of_getElem? (i := 8) rfl))) (mvT hZ (hw _ (List.mem_of_getElem? (i := 9) rfl))) (notFace_of_selects (args := #[]) (mvT hZ (hw _ (List.mem_of_getElem? (i := 11) rfl)))) (mvT hZ (hw _ (List.mem_of_getElem? (i := 11) rfl))) (mvT hZ (hw _ (List.mem_of_getElem? (i := 10) rfl))) (by decide) (backOf (W := 0) (rm2 l Z a0 hw [] (own_pick ((p1 &&& (2147483647 : Int32)) % (12 : Int32)) w_LENGTH w_MIN_LENGTH w_MAX_LENGTH w_PATTERN w_ENUMERATION w_WHITE_SPACE w_MAX_INCLUSIVE w_MAX_EXCLUSIVE w_MIN_EXCLUSIVE w_MIN_INCLUSIVE w_TOTAL_DIGITS w_FRACTION_DIGITS) w_PATTERN w_ENUMERATION h0 n0 Z0 S_PATTERN S_ENUMERATION) hZ (hw _ (List.mem_of_getElem? (i := 12) rfl)) (hw _ (List.mem_of_getElem? (i := 6) rfl)) (by decide) (by decide)) q2a q2c (g := (mkF m 30 #[.val (.int p1), .val (.int ((p1 &&& (2147483647 : Int32)) % (12 : Int32))), .val (.ref (own_pick ((p1 &&& (2147483647 : Int32)) % (12 : Int32)) w_LENGTH w_MIN_LENGTH w_MAX_LENGTH w_PATTERN w_ENUMERATION w_WHITE_SPACE w_MAX_INCLUSIVE w_MAX_EXCLUSIVE w_MIN_EXCLUSIVE w_MIN_INCLUSIVE w_TOTAL_DIGITS w_FRACTION_DIGITS)), .val (.int (1 : Int32))] [(.ref (own_pick ((p1 &&& (2147483647 : Int32)) % (12 : Int32)) w_LENGTH w_MIN_LENGTH w_MAX_LENGTH w_PATTERN w_ENUMERATION w_WHITE_SPACE w_MAX_INCLUSIVE w_MAX_EXCLUSIVE w_MIN_EXCLUSIVE w_MIN_INCLUSIVE w_TOTAL_DIGITS w_FRACTION_DIGITS))])) rfl (by rw [hml]; rfl) (Steps.refl _) (argsL := []) (rest := []) (lenOf pd_1 rfl) rfl (by show 2 * 0 + _ ≤ _; exact Nat.le_of_eq rfl) (hb hby at_30) (fun _ _ => ⟨rfl, e1, Nat.le_of_ble_eq_true rfl, Nat.le_of_ble_eq_true rfl⟩)
    dsimp only [Pt.U, Pt.locs, Pt.cells, Pt.slots] at X3 l3 y3 z3 st3 hQ3
    subst l3 y3 z3
    obtain ⟨h3, e3⟩ : ∃ z, T3.heap = z := ⟨_, rfl⟩
    rw [e3] at hQ3
    obtain ⟨rfl, N3q, eq3⟩ := hQ3
    have N3 := Fr.app N1 N3q
    rw [eq3] at e3
    refine own_go (B := T3.setTop (mkF m 33 #[.val (.int p1), .val (.int ((p1 &&& (2147483647 : Int32)) % (12 : Int32))), .val (.ref (own_pick ((p1 &&& (2147483647 : Int32)) % (12 : Int32)) w_LENGTH w_MIN_LENGTH w_MAX_LENGTH w_PATTERN w_ENUMERATION w_WHITE_SPACE w_MAX_INCLUSIVE w_MAX_EXCLUSIVE w_MIN_EXCLUSIVE w_MIN_INCLUSIVE w_TOTAL_DIGITS w_FRACTION_DIGITS)), .val (.int (1 : Int32))] [(.int (own_att (own_pick ((p1 &&& (2147483647 : Int32)) % (12 : Int32)) w_LENGTH w_MIN_LENGTH w_MAX_LENGTH w_PATTERN w_ENUMERATION w_WHITE_SPACE w_MAX_INCLUSIVE w_MAX_EXCLUSIVE w_MIN_EXCLUSIVE w_MIN_INCLUSIVE w_TOTAL_DIGITS w_FRACTION_DIGITS) w_PATTERN w_ENUMERATION))])) (fun t k => st3.trans k) ?_
    refine own_go (B := T3.setTop (mkF m 42 #[.val (.int p1), .val (.int ((p1 &&& (2147483647 : Int32)) % (12 : Int32))), .val (.ref (own_pick ((p1 &&& (2147483647 : Int32)) % (12 : Int32)) w_LENGTH w_MIN_LENGTH w_MAX_LENGTH w_PATTERN w_ENUMERATION w_WHITE_SPACE w_MAX_INCLUSIVE w_MAX_EXCLUSIVE w_MIN_EXCLUSIVE w_MIN_INCLUSIVE w_TOTAL_DIGITS w_FRACTION_DIGITS)), .val (.int (1 : Int32))] [(.int (1 : Int32))])) (fun t k => ?_) ?_
    · show Steps p.tables e below (T3.setTop (mkF m 33 #[.val (.int p1), .val (.int ((p1 &&& (2147483647 : Int32)) % (12 : Int32))), .val (.ref (own_pick ((p1 &&& (2147483647 : Int32)) % (12 : Int32)) w_LENGTH w_MIN_LENGTH w_MAX_LENGTH w_PATTERN w_ENUMERATION w_WHITE_SPACE w_MAX_INCLUSIVE w_MAX_EXCLUSIVE w_MIN_EXCLUSIVE w_MIN_INCLUSIVE w_TOTAL_DIGITS w_FRACTION_DIGITS)), .val (.int (1 : Int32))] [(.int (own_att (own_pick ((p1 &&& (2147483647 : Int32)) % (12 : Int32)) w_LENGTH w_MIN_LENGTH w_MAX_LENGTH w_PATTERN w_ENUMERATION w_WHITE_SPACE w_MAX_INCLUSIVE w_MAX_EXCLUSIVE w_MIN_EXCLUSIVE w_MIN_INCLUSIVE w_TOTAL_DIGITS w_FRACTION_DIGITS) w_PATTERN w_ENUMERATION))])) _
      refine XS.iloadN X3.here hx rfl (hb hby at_33) rfl ?_
      show Steps p.tables e below (T3.setTop (mkF m 34 #[.val (.int p1), .val (.int ((p1 &&& (2147483647 : Int32)) % (12 : Int32))), .val (.ref (own_pick ((p1 &&& (2147483647 : Int32)) % (12 : Int32)) w_LENGTH w_MIN_LENGTH w_MAX_LENGTH w_PATTERN w_ENUMERATION w_WHITE_SPACE w_MAX_INCLUSIVE w_MAX_EXCLUSIVE w_MIN_EXCLUSIVE w_MIN_INCLUSIVE w_TOTAL_DIGITS w_FRACTION_DIGITS)), .val (.int (1 : Int32))] [(.int (1 : Int32)), (.int (own_att (own_pick ((p1 &&& (2147483647 : Int32)) % (12 : Int32)) w_LENGTH w_MIN_LENGTH w_MAX_LENGTH w_PATTERN w_ENUMERATION w_WHITE_SPACE w_MAX_INCLUSIVE w_MAX_EXCLUSIVE w_MIN_EXCLUSIVE w_MIN_INCLUSIVE w_TOTAL_DIGITS w_FRACTION_DIGITS) w_PATTERN w_ENUMERATION))])) _
      refine XS.icmpNo X3.here hx rfl (hb hby at_34) rfl (teq (by rw [hpl _ rfl]; simp [hc15] : (own_att (own_pick ((p1 &&& (2147483647 : Int32)) % (12 : Int32)) w_LENGTH w_MIN_LENGTH w_MAX_LENGTH w_PATTERN w_ENUMERATION w_WHITE_SPACE w_MAX_INCLUSIVE w_MAX_EXCLUSIVE w_MIN_EXCLUSIVE w_MIN_INCLUSIVE w_TOTAL_DIGITS w_FRACTION_DIGITS) w_PATTERN w_ENUMERATION) = (1 : Int32))).2 ?_
      show Steps p.tables e below (T3.setTop (mkF m 37 #[.val (.int p1), .val (.int ((p1 &&& (2147483647 : Int32)) % (12 : Int32))), .val (.ref (own_pick ((p1 &&& (2147483647 : Int32)) % (12 : Int32)) w_LENGTH w_MIN_LENGTH w_MAX_LENGTH w_PATTERN w_ENUMERATION w_WHITE_SPACE w_MAX_INCLUSIVE w_MAX_EXCLUSIVE w_MIN_EXCLUSIVE w_MIN_INCLUSIVE w_TOTAL_DIGITS w_FRACTION_DIGITS)), .val (.int (1 : Int32))] [])) _
      refine XS.iconst X3.here hx rfl (hb hby at_37) ?_
      show Steps p.tables e below (T3.setTop (mkF m 38 #[.val (.int p1), .val (.int ((p1 &&& (2147483647 : Int32)) % (12 : Int32))), .val (.ref (own_pick ((p1 &&& (2147483647 : Int32)) % (12 : Int32)) w_LENGTH w_MIN_LENGTH w_MAX_LENGTH w_PATTERN w_ENUMERATION w_WHITE_SPACE w_MAX_INCLUSIVE w_MAX_EXCLUSIVE w_MIN_EXCLUSIVE w_MIN_INCLUSIVE w_TOTAL_DIGITS w_FRACTION_DIGITS)), .val (.int (1 : Int32))] [(.int (1 : Int32))])) _
      refine XS.goto X3.here hx rfl (pc0 := 38) (pc' := 42) rfl (hb hby at_38) (by decide) (by decide) ?_
      show Steps p.tables e below (T3.setTop (mkF m 42 #[.val (.int p1), .val (.int ((p1 &&& (2147483647 : Int32)) % (12 : Int32))), .val (.ref (own_pick ((p1 &&& (2147483647 : Int32)) % (12 : Int32)) w_LENGTH w_MIN_LENGTH w_MAX_LENGTH w_PATTERN w_ENUMERATION w_WHITE_SPACE w_MAX_INCLUSIVE w_MAX_EXCLUSIVE w_MIN_EXCLUSIVE w_MIN_INCLUSIVE w_TOTAL_DIGITS w_FRACTION_DIGITS)), .val (.int (1 : Int32))] [(.int (1 : Int32))])) _
      exact k
    obtain ⟨fs, hr, hrun, hended, hW, hsame⟩ := X3.leave (v := some (.int (1 : Int32))) (fun h => by rw [Bd.returns] at h; cases h)
    refine own_done (retN X3 hx (t := .boolean) Bd.returns (by simp) (hb hby at_42) hr) hrun hended ⟨_, _, rfl, ?_, ⟨_, rfl⟩, hW, hsame.mono (by decide) (by decide)⟩
    show Q_rm0 Z p1 h0 n0 (some (.int (1 : Int32))) T3.heap _
    rw [e3]
    exact ⟨rfl, N3⟩
  · refine own_go (B := T1.setTop (mkF m 20 #[.val (.int p1), .val (.int ((p1 &&& (2147483647 : Int32)) % (12 : Int32))), .val (.ref (own_pick ((p1 &&& (2147483647 : Int32)) % (12 : Int32)) w_LENGTH w_MIN_LENGTH w_MAX_LENGTH w_PATTERN w_ENUMERATION w_WHITE_SPACE w_MAX_INCLUSIVE w_MAX_EXCLUSIVE w_MIN_EXCLUSIVE w_MIN_INCLUSIVE w_TOTAL_DIGITS w_FRACTION_DIGITS)), .unset] [(.int (4 : Int32)), (.int ((p1 &&& (2147483647 : Int32)) % (12 : Int32)))])) (fun t k => ?_) ?_
    · show Steps p.tables e below (T1.setTop (mkF m 15 #[.val (.int p1), .val (.int ((p1 &&& (2147483647 : Int32)) % (12 : Int32))), .val (.ref (own_pick ((p1 &&& (2147483647 : Int32)) % (12 : Int32)) w_LENGTH w_MIN_LENGTH w_MAX_LENGTH w_PATTERN w_ENUMERATION w_WHITE_SPACE w_MAX_INCLUSIVE w_MAX_EXCLUSIVE w_MIN_EXCLUSIVE w_MIN_INCLUSIVE w_TOTAL_DIGITS w_FRACTION_DIGITS)), .unset] [(.int (3 : Int32)), (.int ((p1 &&& (2147483647 : Int32)) % (12 : Int32)))])) _
      refine XS.icmpNo X1.here hx rfl (hb hby at_15) rfl (feq hc15).1 ?_
      show Steps p.tables e below (T1.setTop (mkF m 18 #[.val (.int p1), .val (.int ((p1 &&& (2147483647 : Int32)) % (12 : Int32))), .val (.ref (own_pick ((p1 &&& (2147483647 : Int32)) % (12 : Int32)) w_LENGTH w_MIN_LENGTH w_MAX_LENGTH w_PATTERN w_ENUMERATION w_WHITE_SPACE w_MAX_INCLUSIVE w_MAX_EXCLUSIVE w_MIN_EXCLUSIVE w_MIN_INCLUSIVE w_TOTAL_DIGITS w_FRACTION_DIGITS)), .unset] [])) _
      refine XS.iloadN X1.here hx rfl (hb hby at_18) rfl ?_
      show Steps p.tables e below (T1.setTop (mkF m 19 #[.val (.int p1), .val (.int ((p1 &&& (2147483647 : Int32)) % (12 : Int32))), .val (.ref (own_pick ((p1 &&& (2147483647 : Int32)) % (12 : Int32)) w_LENGTH w_MIN_LENGTH w_MAX_LENGTH w_PATTERN w_ENUMERATION w_WHITE_SPACE w_MAX_INCLUSIVE w_MAX_EXCLUSIVE w_MIN_EXCLUSIVE w_MIN_INCLUSIVE w_TOTAL_DIGITS w_FRACTION_DIGITS)), .unset] [(.int ((p1 &&& (2147483647 : Int32)) % (12 : Int32)))])) _
      refine XS.iconst X1.here hx rfl (hb hby at_19) ?_
      show Steps p.tables e below (T1.setTop (mkF m 20 #[.val (.int p1), .val (.int ((p1 &&& (2147483647 : Int32)) % (12 : Int32))), .val (.ref (own_pick ((p1 &&& (2147483647 : Int32)) % (12 : Int32)) w_LENGTH w_MIN_LENGTH w_MAX_LENGTH w_PATTERN w_ENUMERATION w_WHITE_SPACE w_MAX_INCLUSIVE w_MAX_EXCLUSIVE w_MIN_EXCLUSIVE w_MIN_INCLUSIVE w_TOTAL_DIGITS w_FRACTION_DIGITS)), .unset] [(.int (4 : Int32)), (.int ((p1 &&& (2147483647 : Int32)) % (12 : Int32)))])) _
      exact k
    by_cases hc20 : ((p1 &&& (2147483647 : Int32)) % (12 : Int32)) = (4 : Int32)
    · refine own_go (B := T1.setTop (mkF m 30 #[.val (.int p1), .val (.int ((p1 &&& (2147483647 : Int32)) % (12 : Int32))), .val (.ref (own_pick ((p1 &&& (2147483647 : Int32)) % (12 : Int32)) w_LENGTH w_MIN_LENGTH w_MAX_LENGTH w_PATTERN w_ENUMERATION w_WHITE_SPACE w_MAX_INCLUSIVE w_MAX_EXCLUSIVE w_MIN_EXCLUSIVE w_MIN_INCLUSIVE w_TOTAL_DIGITS w_FRACTION_DIGITS)), .val (.int (1 : Int32))] [(.ref (own_pick ((p1 &&& (2147483647 : Int32)) % (12 : Int32)) w_LENGTH w_MIN_LENGTH w_MAX_LENGTH w_PATTERN w_ENUMERATION w_WHITE_SPACE w_MAX_INCLUSIVE w_MAX_EXCLUSIVE w_MIN_EXCLUSIVE w_MIN_INCLUSIVE w_TOTAL_DIGITS w_FRACTION_DIGITS))])) (fun t k => ?_) ?_
      · show Steps p.tables e below (T1.setTop (mkF m 20 #[.val (.int p1), .val (.int ((p1 &&& (2147483647 : Int32)) % (12 : Int32))), .val (.ref (own_pick ((p1 &&& (2147483647 : Int32)) % (12 : Int32)) w_LENGTH w_MIN_LENGTH w_MAX_LENGTH w_PATTERN w_ENUMERATION w_WHITE_SPACE w_MAX_INCLUSIVE w_MAX_EXCLUSIVE w_MIN_EXCLUSIVE w_MIN_INCLUSIVE w_TOTAL_DIGITS w_FRACTION_DIGITS)), .unset] [(.int (4 : Int32)), (.int ((p1 &&& (2147483647 : Int32)) % (12 : Int32)))])) _
        refine XS.icmpNo X1.here hx rfl (hb hby at_20) rfl (teq hc20).2 ?_
        show Steps p.tables e below (T1.setTop (mkF m 23 #[.val (.int p1), .val (.int ((p1 &&& (2147483647 : Int32)) % (12 : Int32))), .val (.ref (own_pick ((p1 &&& (2147483647 : Int32)) % (12 : Int32)) w_LENGTH w_MIN_LENGTH w_MAX_LENGTH w_PATTERN w_ENUMERATION w_WHITE_SPACE w_MAX_INCLUSIVE w_MAX_EXCLUSIVE w_MIN_EXCLUSIVE w_MIN_INCLUSIVE w_TOTAL_DIGITS w_FRACTION_DIGITS)), .unset] [])) _
        refine XS.iconst X1.here hx rfl (hb hby at_23) ?_
        show Steps p.tables e below (T1.setTop (mkF m 24 #[.val (.int p1), .val (.int ((p1 &&& (2147483647 : Int32)) % (12 : Int32))), .val (.ref (own_pick ((p1 &&& (2147483647 : Int32)) % (12 : Int32)) w_LENGTH w_MIN_LENGTH w_MAX_LENGTH w_PATTERN w_ENUMERATION w_WHITE_SPACE w_MAX_INCLUSIVE w_MAX_EXCLUSIVE w_MIN_EXCLUSIVE w_MIN_INCLUSIVE w_TOTAL_DIGITS w_FRACTION_DIGITS)), .unset] [(.int (1 : Int32))])) _
        refine XS.goto X1.here hx rfl (pc0 := 24) (pc' := 28) rfl (hb hby at_24) (by decide) (by decide) ?_
        show Steps p.tables e below (T1.setTop (mkF m 28 #[.val (.int p1), .val (.int ((p1 &&& (2147483647 : Int32)) % (12 : Int32))), .val (.ref (own_pick ((p1 &&& (2147483647 : Int32)) % (12 : Int32)) w_LENGTH w_MIN_LENGTH w_MAX_LENGTH w_PATTERN w_ENUMERATION w_WHITE_SPACE w_MAX_INCLUSIVE w_MAX_EXCLUSIVE w_MIN_EXCLUSIVE w_MIN_INCLUSIVE w_TOTAL_DIGITS w_FRACTION_DIGITS)), .unset] [(.int (1 : Int32))])) _
        refine XS.istoreN X1.here hx rfl (hb hby at_28) rfl (l' := #[.val (.int p1), .val (.int ((p1 &&& (2147483647 : Int32)) % (12 : Int32))), .val (.ref (own_pick ((p1 &&& (2147483647 : Int32)) % (12 : Int32)) w_LENGTH w_MIN_LENGTH w_MAX_LENGTH w_PATTERN w_ENUMERATION w_WHITE_SPACE w_MAX_INCLUSIVE w_MAX_EXCLUSIVE w_MIN_EXCLUSIVE w_MIN_INCLUSIVE w_TOTAL_DIGITS w_FRACTION_DIGITS)), .val (.int (1 : Int32))]) rfl ?_
        show Steps p.tables e below (T1.setTop (mkF m 29 #[.val (.int p1), .val (.int ((p1 &&& (2147483647 : Int32)) % (12 : Int32))), .val (.ref (own_pick ((p1 &&& (2147483647 : Int32)) % (12 : Int32)) w_LENGTH w_MIN_LENGTH w_MAX_LENGTH w_PATTERN w_ENUMERATION w_WHITE_SPACE w_MAX_INCLUSIVE w_MAX_EXCLUSIVE w_MIN_EXCLUSIVE w_MIN_INCLUSIVE w_TOTAL_DIGITS w_FRACTION_DIGITS)), .val (.int (1 : Int32))] [])) _
        refine XS.aloadN X1.here hx rfl (hb hby at_29) rfl rfl ?_
        show Steps p.tables e below (T1.setTop (mkF m 30 #[.val (.int p1), .val (.int ((p1 &&& (2147483647 : Int32)) % (12 : Int32))), .val (.ref (own_pick ((p1 &&& (2147483647 : Int32)) % (12 : Int32)) w_LENGTH w_MIN_LENGTH w_MAX_LENGTH w_PATTERN w_ENUMERATION w_WHITE_SPACE w_MAX_INCLUSIVE w_MAX_EXCLUSIVE w_MIN_EXCLUSIVE w_MIN_INCLUSIVE w_TOTAL_DIGITS w_FRACTION_DIGITS)), .val (.int (1 : Int32))] [(.ref (own_pick ((p1 &&& (2147483647 : Int32)) % (12 : Int32)) w_LENGTH w_MIN_LENGTH w_MAX_LENGTH w_PATTERN w_ENUMERATION w_WHITE_SPACE w_MAX_INCLUSIVE w_MAX_EXCLUSIVE w_MIN_EXCLUSIVE w_MIN_INCLUSIVE w_TOTAL_DIGITS w_FRACTION_DIGITS))])) _
        exact k
      have E_pk := own_pick_exa ((p1 &&& (2147483647 : Int32)) % (12 : Int32)) E_LENGTH E_MIN_LENGTH E_MAX_LENGTH E_PATTERN E_ENUMERATION E_WHITE_SPACE E_MAX_INCLUSIVE E_MAX_EXCLUSIVE E_MIN_EXCLUSIVE E_MIN_INCLUSIVE E_TOTAL_DIGITS E_FRACTION_DIGITS
      obtain ⟨cq4, kq4, q4a, q4b, q4c⟩ := isOf hZ e1 E_pk
      obtain ⟨_, _, ⟨T5, L5, k5, n5⟩, -, X5, ⟨Lc5, hQ5, l5, y5, z5⟩, st5⟩ := X1.virtualBack hx (y := (⟨"com/example/schemaloom/schemaloom/schema/Facet$Kind", "isRepeatable", "()Z"⟩ : MethodName)) (z := (⟨"com/example/schemaloom/schemaloom/schema/Facet$Kind", "isRepeatable", "()Z"⟩ : MethodName)) hown (mvT hZ (hw _ (List.mem_of_getElem? (i := 8) rfl))) (mvT hZ (hw _ (List.mem_of_getElem? (i := 9) rfl))) (notFace_of_selects (args := #[]) (mvT hZ (hw _ (List.mem_of_getElem? (i := 11) rfl)))) (mvT hZ (hw _ (List.mem_of_getElem? (i := 11) rfl))) (mvT hZ (hw _ (List.mem_of_getElem? (i := 10) rfl))) (by decide) (backOf (W := 0) (rm2 l Z a0 hw [] (own_pick ((p1 &&& (2147483647 : Int32)) % (12 : Int32)) w_LENGTH w_MIN_LENGTH w_MAX_LENGTH w_PATTERN w_ENUMERATION w_WHITE_SPACE w_MAX_INCLUSIVE w_MAX_EXCLUSIVE w_MIN_EXCLUSIVE w_MIN_INCLUSIVE w_TOTAL_DIGITS w_FRACTION_DIGITS) w_PATTERN w_ENUMERATION h0 n0 Z0 S_PATTERN S_ENUMERATION) hZ (hw _ (List.mem_of_getElem? (i := 12) rfl)) (hw _ (List.mem_of_getElem? (i := 6) rfl)) (by decide) (by decide)) q4a q4c (g := (mkF m 30 #[.val (.int p1), .val (.int ((p1 &&& (2147483647 : Int32)) % (12 : Int32))), .val (.ref (own_pick ((p1 &&& (2147483647 : Int32)) % (12 : Int32)) w_LENGTH w_MIN_LENGTH w_MAX_LENGTH w_PATTERN w_ENUMERATION w_WHITE_SPACE w_MAX_INCLUSIVE w_MAX_EXCLUSIVE w_MIN_EXCLUSIVE w_MIN_INCLUSIVE w_TOTAL_DIGITS w_FRACTION_DIGITS)), .val (.int (1 : Int32))] [(.ref (own_pick ((p1 &&& (2147483647 : Int32)) % (12 : Int32)) w_LENGTH w_MIN_LENGTH w_MAX_LENGTH w_PATTERN w_ENUMERATION w_WHITE_SPACE w_MAX_INCLUSIVE w_MAX_EXCLUSIVE w_MIN_EXCLUSIVE w_MIN_INCLUSIVE w_TOTAL_DIGITS w_FRACTION_DIGITS))])) rfl (by rw [hml]; rfl) (Steps.refl _) (argsL := []) (rest := []) (lenOf pd_1 rfl) rfl (by show 2 * 0 + _ ≤ _; exact Nat.le_of_eq rfl) (hb hby at_30) (fun _ _ => ⟨rfl, e1, Nat.le_of_ble_eq_true rfl, Nat.le_of_ble_eq_true rfl⟩)
      dsimp only [Pt.U, Pt.locs, Pt.cells, Pt.slots] at X5 l5 y5 z5 st5 hQ5
      subst l5 y5 z5
      obtain ⟨h5, e5⟩ : ∃ z, T5.heap = z := ⟨_, rfl⟩
      rw [e5] at hQ5
      obtain ⟨rfl, N5q, eq5⟩ := hQ5
      have N5 := Fr.app N1 N5q
      rw [eq5] at e5
      refine own_go (B := T5.setTop (mkF m 33 #[.val (.int p1), .val (.int ((p1 &&& (2147483647 : Int32)) % (12 : Int32))), .val (.ref (own_pick ((p1 &&& (2147483647 : Int32)) % (12 : Int32)) w_LENGTH w_MIN_LENGTH w_MAX_LENGTH w_PATTERN w_ENUMERATION w_WHITE_SPACE w_MAX_INCLUSIVE w_MAX_EXCLUSIVE w_MIN_EXCLUSIVE w_MIN_INCLUSIVE w_TOTAL_DIGITS w_FRACTION_DIGITS)), .val (.int (1 : Int32))] [(.int (own_att (own_pick ((p1 &&& (2147483647 : Int32)) % (12 : Int32)) w_LENGTH w_MIN_LENGTH w_MAX_LENGTH w_PATTERN w_ENUMERATION w_WHITE_SPACE w_MAX_INCLUSIVE w_MAX_EXCLUSIVE w_MIN_EXCLUSIVE w_MIN_INCLUSIVE w_TOTAL_DIGITS w_FRACTION_DIGITS) w_PATTERN w_ENUMERATION))])) (fun t k => st5.trans k) ?_
      refine own_go (B := T5.setTop (mkF m 42 #[.val (.int p1), .val (.int ((p1 &&& (2147483647 : Int32)) % (12 : Int32))), .val (.ref (own_pick ((p1 &&& (2147483647 : Int32)) % (12 : Int32)) w_LENGTH w_MIN_LENGTH w_MAX_LENGTH w_PATTERN w_ENUMERATION w_WHITE_SPACE w_MAX_INCLUSIVE w_MAX_EXCLUSIVE w_MIN_EXCLUSIVE w_MIN_INCLUSIVE w_TOTAL_DIGITS w_FRACTION_DIGITS)), .val (.int (1 : Int32))] [(.int (1 : Int32))])) (fun t k => ?_) ?_
      · show Steps p.tables e below (T5.setTop (mkF m 33 #[.val (.int p1), .val (.int ((p1 &&& (2147483647 : Int32)) % (12 : Int32))), .val (.ref (own_pick ((p1 &&& (2147483647 : Int32)) % (12 : Int32)) w_LENGTH w_MIN_LENGTH w_MAX_LENGTH w_PATTERN w_ENUMERATION w_WHITE_SPACE w_MAX_INCLUSIVE w_MAX_EXCLUSIVE w_MIN_EXCLUSIVE w_MIN_INCLUSIVE w_TOTAL_DIGITS w_FRACTION_DIGITS)), .val (.int (1 : Int32))] [(.int (own_att (own_pick ((p1 &&& (2147483647 : Int32)) % (12 : Int32)) w_LENGTH w_MIN_LENGTH w_MAX_LENGTH w_PATTERN w_ENUMERATION w_WHITE_SPACE w_MAX_INCLUSIVE w_MAX_EXCLUSIVE w_MIN_EXCLUSIVE w_MIN_INCLUSIVE w_TOTAL_DIGITS w_FRACTION_DIGITS) w_PATTERN w_ENUMERATION))])) _
        refine XS.iloadN X5.here hx rfl (hb hby at_33) rfl ?_
        show Steps p.tables e below (T5.setTop (mkF m 34 #[.val (.int p1), .val (.int ((p1 &&& (2147483647 : Int32)) % (12 : Int32))), .val (.ref (own_pick ((p1 &&& (2147483647 : Int32)) % (12 : Int32)) w_LENGTH w_MIN_LENGTH w_MAX_LENGTH w_PATTERN w_ENUMERATION w_WHITE_SPACE w_MAX_INCLUSIVE w_MAX_EXCLUSIVE w_MIN_EXCLUSIVE w_MIN_INCLUSIVE w_TOTAL_DIGITS w_FRACTION_DIGITS)), .val (.int (1 : Int32))] [(.int (1 : Int32)), (.int (own_att (own_pick ((p1 &&& (2147483647 : Int32)) % (12 : Int32)) w_LENGTH w_MIN_LENGTH w_MAX_LENGTH w_PATTERN w_ENUMERATION w_WHITE_SPACE w_MAX_INCLUSIVE w_MAX_EXCLUSIVE w_MIN_EXCLUSIVE w_MIN_INCLUSIVE w_TOTAL_DIGITS w_FRACTION_DIGITS) w_PATTERN w_ENUMERATION))])) _
        refine XS.icmpNo X5.here hx rfl (hb hby at_34) rfl (teq (by rw [hpl _ rfl]; simp [hc15, hc20] : (own_att (own_pick ((p1 &&& (2147483647 : Int32)) % (12 : Int32)) w_LENGTH w_MIN_LENGTH w_MAX_LENGTH w_PATTERN w_ENUMERATION w_WHITE_SPACE w_MAX_INCLUSIVE w_MAX_EXCLUSIVE w_MIN_EXCLUSIVE w_MIN_INCLUSIVE w_TOTAL_DIGITS w_FRACTION_DIGITS) w_PATTERN w_ENUMERATION) = (1 : Int32))).2 ?_
        show Steps p.tables e below (T5.setTop (mkF m 37 #[.val (.int p1), .val (.int ((p1 &&& (2147483647 : Int32)) % (12 : Int32))), .val (.ref (own_pick ((p1 &&& (2147483647 : Int32)) % (12 : Int32)) w_LENGTH w_MIN_LENGTH w_MAX_LENGTH w_PATTERN w_ENUMERATION w_WHITE_SPACE w_MAX_INCLUSIVE w_MAX_EXCLUSIVE w_MIN_EXCLUSIVE w_MIN_INCLUSIVE w_TOTAL_DIGITS w_FRACTION_DIGITS)), .val (.int (1 : Int32))] [])) _
        refine XS.iconst X5.here hx rfl (hb hby at_37) ?_
        show Steps p.tables e below (T5.setTop (mkF m 38 #[.val (.int p1), .val (.int ((p1 &&& (2147483647 : Int32)) % (12 : Int32))), .val (.ref (own_pick ((p1 &&& (2147483647 : Int32)) % (12 : Int32)) w_LENGTH w_MIN_LENGTH w_MAX_LENGTH w_PATTERN w_ENUMERATION w_WHITE_SPACE w_MAX_INCLUSIVE w_MAX_EXCLUSIVE w_MIN_EXCLUSIVE w_MIN_INCLUSIVE w_TOTAL_DIGITS w_FRACTION_DIGITS)), .val (.int (1 : Int32))] [(.int (1 : Int32))])) _
        refine XS.goto X5.here hx rfl (pc0 := 38) (pc' := 42) rfl (hb hby at_38) (by decide) (by decide) ?_
        show Steps p.tables e below (T5.setTop (mkF m 42 #[.val (.int p1), .val (.int ((p1 &&& (2147483647 : Int32)) % (12 : Int32))), .val (.ref (own_pick ((p1 &&& (2147483647 : Int32)) % (12 : Int32)) w_LENGTH w_MIN_LENGTH w_MAX_LENGTH w_PATTERN w_ENUMERATION w_WHITE_SPACE w_MAX_INCLUSIVE w_MAX_EXCLUSIVE w_MIN_EXCLUSIVE w_MIN_INCLUSIVE w_TOTAL_DIGITS w_FRACTION_DIGITS)), .val (.int (1 : Int32))] [(.int (1 : Int32))])) _
        exact k
      obtain ⟨fs, hr, hrun, hended, hW, hsame⟩ := X5.leave (v := some (.int (1 : Int32))) (fun h => by rw [Bd.returns] at h; cases h)
      refine own_done (retN X5 hx (t := .boolean) Bd.returns (by simp) (hb hby at_42) hr) hrun hended ⟨_, _, rfl, ?_, ⟨_, rfl⟩, hW, hsame.mono (by decide) (by decide)⟩
      show Q_rm0 Z p1 h0 n0 (some (.int (1 : Int32))) T5.heap _
      rw [e5]
      exact ⟨rfl, N5⟩
    · refine own_go (B := T1.setTop (mkF m 30 #[.val (.int p1), .val (.int ((p1 &&& (2147483647 : Int32)) % (12 : Int32))), .val (.ref (own_pick ((p1 &&& (2147483647 : Int32)) % (12 : Int32)) w_LENGTH w_MIN_LENGTH w_MAX_LENGTH w_PATTERN w_ENUMERATION w_WHITE_SPACE w_MAX_INCLUSIVE w_MAX_EXCLUSIVE w_MIN_EXCLUSIVE w_MIN_INCLUSIVE w_TOTAL_DIGITS w_FRACTION_DIGITS)), .val (.int (0 : Int32))] [(.ref (own_pick ((p1 &&& (2147483647 : Int32)) % (12 : Int32)) w_LENGTH w_MIN_LENGTH w_MAX_LENGTH w_PATTERN w_ENUMERATION w_WHITE_SPACE w_MAX_INCLUSIVE w_MAX_EXCLUSIVE w_MIN_EXCLUSIVE w_MIN_INCLUSIVE w_TOTAL_DIGITS w_FRACTION_DIGITS))])) (fun t k => ?_) ?_
      · show Steps p.tables e below (T1.setTop (mkF m 20 #[.val (.int p1), .val (.int ((p1 &&& (2147483647 : Int32)) % (12 : Int32))), .val (.ref (own_pick ((p1 &&& (2147483647 : Int32)) % (12 : Int32)) w_LENGTH w_MIN_LENGTH w_MAX_LENGTH w_PATTERN w_ENUMERATION w_WHITE_SPACE w_MAX_INCLUSIVE w_MAX_EXCLUSIVE w_MIN_EXCLUSIVE w_MIN_INCLUSIVE w_TOTAL_DIGITS w_FRACTION_DIGITS)), .unset] [(.int (4 : Int32)), (.int ((p1 &&& (2147483647 : Int32)) % (12 : Int32)))])) _
        refine XS.icmpYes X1.here hx rfl (pc0 := 20) (pc' := 27) rfl (hb hby at_20) rfl (feq hc20).2 (by decide) (by decide) ?_
        show Steps p.tables e below (T1.setTop (mkF m 27 #[.val (.int p1), .val (.int ((p1 &&& (2147483647 : Int32)) % (12 : Int32))), .val (.ref (own_pick ((p1 &&& (2147483647 : Int32)) % (12 : Int32)) w_LENGTH w_MIN_LENGTH w_MAX_LENGTH w_PATTERN w_ENUMERATION w_WHITE_SPACE w_MAX_INCLUSIVE w_MAX_EXCLUSIVE w_MIN_EXCLUSIVE w_MIN_INCLUSIVE w_TOTAL_DIGITS w_FRACTION_DIGITS)), .unset] [])) _
        refine XS.iconst X1.here hx rfl (hb hby at_27) ?_
        show Steps p.tables e below (T1.setTop (mkF m 28 #[.val (.int p1), .val (.int ((p1 &&& (2147483647 : Int32)) % (12 : Int32))), .val (.ref (own_pick ((p1 &&& (2147483647 : Int32)) % (12 : Int32)) w_LENGTH w_MIN_LENGTH w_MAX_LENGTH w_PATTERN w_ENUMERATION w_WHITE_SPACE w_MAX_INCLUSIVE w_MAX_EXCLUSIVE w_MIN_EXCLUSIVE w_MIN_INCLUSIVE w_TOTAL_DIGITS w_FRACTION_DIGITS)), .unset] [(.int (0 : Int32))])) _
        refine XS.istoreN X1.here hx rfl (hb hby at_28) rfl (l' := #[.val (.int p1), .val (.int ((p1 &&& (2147483647 : Int32)) % (12 : Int32))), .val (.ref (own_pick ((p1 &&& (2147483647 : Int32)) % (12 : Int32)) w_LENGTH w_MIN_LENGTH w_MAX_LENGTH w_PATTERN w_ENUMERATION w_WHITE_SPACE w_MAX_INCLUSIVE w_MAX_EXCLUSIVE w_MIN_EXCLUSIVE w_MIN_INCLUSIVE w_TOTAL_DIGITS w_FRACTION_DIGITS)), .val (.int (0 : Int32))]) rfl ?_
        show Steps p.tables e below (T1.setTop (mkF m 29 #[.val (.int p1), .val (.int ((p1 &&& (2147483647 : Int32)) % (12 : Int32))), .val (.ref (own_pick ((p1 &&& (2147483647 : Int32)) % (12 : Int32)) w_LENGTH w_MIN_LENGTH w_MAX_LENGTH w_PATTERN w_ENUMERATION w_WHITE_SPACE w_MAX_INCLUSIVE w_MAX_EXCLUSIVE w_MIN_EXCLUSIVE w_MIN_INCLUSIVE w_TOTAL_DIGITS w_FRACTION_DIGITS)), .val (.int (0 : Int32))] [])) _
        refine XS.aloadN X1.here hx rfl (hb hby at_29) rfl rfl ?_
        show Steps p.tables e below (T1.setTop (mkF m 30 #[.val (.int p1), .val (.int ((p1 &&& (2147483647 : Int32)) % (12 : Int32))), .val (.ref (own_pick ((p1 &&& (2147483647 : Int32)) % (12 : Int32)) w_LENGTH w_MIN_LENGTH w_MAX_LENGTH w_PATTERN w_ENUMERATION w_WHITE_SPACE w_MAX_INCLUSIVE w_MAX_EXCLUSIVE w_MIN_EXCLUSIVE w_MIN_INCLUSIVE w_TOTAL_DIGITS w_FRACTION_DIGITS)), .val (.int (0 : Int32))] [(.ref (own_pick ((p1 &&& (2147483647 : Int32)) % (12 : Int32)) w_LENGTH w_MIN_LENGTH w_MAX_LENGTH w_PATTERN w_ENUMERATION w_WHITE_SPACE w_MAX_INCLUSIVE w_MAX_EXCLUSIVE w_MIN_EXCLUSIVE w_MIN_INCLUSIVE w_TOTAL_DIGITS w_FRACTION_DIGITS))])) _
        exact k
      have E_pk := own_pick_exa ((p1 &&& (2147483647 : Int32)) % (12 : Int32)) E_LENGTH E_MIN_LENGTH E_MAX_LENGTH E_PATTERN E_ENUMERATION E_WHITE_SPACE E_MAX_INCLUSIVE E_MAX_EXCLUSIVE E_MIN_EXCLUSIVE E_MIN_INCLUSIVE E_TOTAL_DIGITS E_FRACTION_DIGITS
      obtain ⟨cq6, kq6, q6a, q6b, q6c⟩ := isOf hZ e1 E_pk
      obtain ⟨_, _, ⟨T7, L7, k7, n7⟩, -, X7, ⟨Lc7, hQ7, l7, y7, z7⟩, st7⟩ := X1.virtualBack hx (y := (⟨"com/example/schemaloom/schemaloom/schema/Facet$Kind", "isRepeatable", "()Z"⟩ : MethodName)) (z := (⟨"com/example/schemaloom/schemaloom/schema/Facet$Kind", "isRepeatable", "()Z"⟩ : MethodName)) hown (mvT hZ (hw _ (List.mem_of_getElem? (i := 8) rfl))) (mvT hZ (hw _ (List.mem_of_getElem? (i := 9) rfl))) (notFace_of_selects (args := #[]) (mvT hZ (hw _ (List.mem_of_getElem? (i := 11) rfl)))) (mvT hZ (hw _ (List.mem_of_getElem? (i := 11) rfl))) (mvT hZ (hw _ (List.mem_of_getElem? (i := 10) rfl))) (by decide) (backOf (W := 0) (rm2 l Z a0 hw [] (own_pick ((p1 &&& (2147483647 : Int32)) % (12 : Int32)) w_LENGTH w_MIN_LENGTH w_MAX_LENGTH w_PATTERN w_ENUMERATION w_WHITE_SPACE w_MAX_INCLUSIVE w_MAX_EXCLUSIVE w_MIN_EXCLUSIVE w_MIN_INCLUSIVE w_TOTAL_DIGITS w_FRACTION_DIGITS) w_PATTERN w_ENUMERATION h0 n0 Z0 S_PATTERN S_ENUMERATION) hZ (hw _ (List.mem_of_getElem? (i := 12) rfl)) (hw _ (List.mem_of_getElem? (i := 6) rfl)) (by decide) (by decide)) q6a q6c (g := (mkF m 30 #[.val (.int p1), .val (.int ((p1 &&& (2147483647 : Int32)) % (12 : Int32))), .val (.ref (own_pick ((p1 &&& (2147483647 : Int32)) % (12 : Int32)) w_LENGTH w_MIN_LENGTH w_MAX_LENGTH w_PATTERN w_ENUMERATION w_WHITE_SPACE w_MAX_INCLUSIVE w_MAX_EXCLUSIVE w_MIN_EXCLUSIVE w_MIN_INCLUSIVE w_TOTAL_DIGITS w_FRACTION_DIGITS)), .val (.int (0 : Int32))] [(.ref (own_pick ((p1 &&& (2147483647 : Int32)) % (12 : Int32)) w_LENGTH w_MIN_LENGTH w_MAX_LENGTH w_PATTERN w_ENUMERATION w_WHITE_SPACE w_MAX_INCLUSIVE w_MAX_EXCLUSIVE w_MIN_EXCLUSIVE w_MIN_INCLUSIVE w_TOTAL_DIGITS w_FRACTION_DIGITS))])) rfl (by rw [hml]; rfl) (Steps.refl _) (argsL := []) (rest := []) (lenOf pd_1 rfl) rfl (by show 2 * 0 + _ ≤ _; exact Nat.le_of_eq rfl) (hb hby at_30) (fun _ _ => ⟨rfl, e1, Nat.le_of_ble_eq_true rfl, Nat.le_of_ble_eq_true rfl⟩)
      dsimp only [Pt.U, Pt.locs, Pt.cells, Pt.slots] at X7 l7 y7 z7 st7 hQ7
      subst l7 y7 z7
      obtain ⟨h7, e7⟩ : ∃ z, T7.heap = z := ⟨_, rfl⟩
      rw [e7] at hQ7
      obtain ⟨rfl, N7q, eq7⟩ := hQ7
      have N7 := Fr.app N1 N7q
      rw [eq7] at e7
      refine own_go (B := T7.setTop (mkF m 33 #[.val (.int p1), .val (.int ((p1 &&& (2147483647 : Int32)) % (12 : Int32))), .val (.ref (own_pick ((p1 &&& (2147483647 : Int32)) % (12 : Int32)) w_LENGTH w_MIN_LENGTH w_MAX_LENGTH w_PATTERN w_ENUMERATION w_WHITE_SPACE w_MAX_INCLUSIVE w_MAX_EXCLUSIVE w_MIN_EXCLUSIVE w_MIN_INCLUSIVE w_TOTAL_DIGITS w_FRACTION_DIGITS)), .val (.int (0 : Int32))] [(.int (own_att (own_pick ((p1 &&& (2147483647 : Int32)) % (12 : Int32)) w_LENGTH w_MIN_LENGTH w_MAX_LENGTH w_PATTERN w_ENUMERATION w_WHITE_SPACE w_MAX_INCLUSIVE w_MAX_EXCLUSIVE w_MIN_EXCLUSIVE w_MIN_INCLUSIVE w_TOTAL_DIGITS w_FRACTION_DIGITS) w_PATTERN w_ENUMERATION))])) (fun t k => st7.trans k) ?_
      refine own_go (B := T7.setTop (mkF m 42 #[.val (.int p1), .val (.int ((p1 &&& (2147483647 : Int32)) % (12 : Int32))), .val (.ref (own_pick ((p1 &&& (2147483647 : Int32)) % (12 : Int32)) w_LENGTH w_MIN_LENGTH w_MAX_LENGTH w_PATTERN w_ENUMERATION w_WHITE_SPACE w_MAX_INCLUSIVE w_MAX_EXCLUSIVE w_MIN_EXCLUSIVE w_MIN_INCLUSIVE w_TOTAL_DIGITS w_FRACTION_DIGITS)), .val (.int (0 : Int32))] [(.int (1 : Int32))])) (fun t k => ?_) ?_
      · show Steps p.tables e below (T7.setTop (mkF m 33 #[.val (.int p1), .val (.int ((p1 &&& (2147483647 : Int32)) % (12 : Int32))), .val (.ref (own_pick ((p1 &&& (2147483647 : Int32)) % (12 : Int32)) w_LENGTH w_MIN_LENGTH w_MAX_LENGTH w_PATTERN w_ENUMERATION w_WHITE_SPACE w_MAX_INCLUSIVE w_MAX_EXCLUSIVE w_MIN_EXCLUSIVE w_MIN_INCLUSIVE w_TOTAL_DIGITS w_FRACTION_DIGITS)), .val (.int (0 : Int32))] [(.int (own_att (own_pick ((p1 &&& (2147483647 : Int32)) % (12 : Int32)) w_LENGTH w_MIN_LENGTH w_MAX_LENGTH w_PATTERN w_ENUMERATION w_WHITE_SPACE w_MAX_INCLUSIVE w_MAX_EXCLUSIVE w_MIN_EXCLUSIVE w_MIN_INCLUSIVE w_TOTAL_DIGITS w_FRACTION_DIGITS) w_PATTERN w_ENUMERATION))])) _
        refine XS.iloadN X7.here hx rfl (hb hby at_33) rfl ?_
        show Steps p.tables e below (T7.setTop (mkF m 34 #[.val (.int p1), .val (.int ((p1 &&& (2147483647 : Int32)) % (12 : Int32))), .val (.ref (own_pick ((p1 &&& (2147483647 : Int32)) % (12 : Int32)) w_LENGTH w_MIN_LENGTH w_MAX_LENGTH w_PATTERN w_ENUMERATION w_WHITE_SPACE w_MAX_INCLUSIVE w_MAX_EXCLUSIVE w_MIN_EXCLUSIVE w_MIN_INCLUSIVE w_TOTAL_DIGITS w_FRACTION_DIGITS)), .val (.int (0 : Int32))] [(.int (0 : Int32)), (.int (own_att (own_pick ((p1 &&& (2147483647 : Int32)) % (12 : Int32)) w_LENGTH w_MIN_LENGTH w_MAX_LENGTH w_PATTERN w_ENUMERATION w_WHITE_SPACE w_MAX_INCLUSIVE w_MAX_EXCLUSIVE w_MIN_EXCLUSIVE w_MIN_INCLUSIVE w_TOTAL_DIGITS w_FRACTION_DIGITS) w_PATTERN w_ENUMERATION))])) _
        refine XS.icmpNo X7.here hx rfl (hb hby at_34) rfl (teq (by rw [hpl _ rfl]; simp [hc15, hc20] : (own_att (own_pick ((p1 &&& (2147483647 : Int32)) % (12 : Int32)) w_LENGTH w_MIN_LENGTH w_MAX_LENGTH w_PATTERN w_ENUMERATION w_WHITE_SPACE w_MAX_INCLUSIVE w_MAX_EXCLUSIVE w_MIN_EXCLUSIVE w_MIN_INCLUSIVE w_TOTAL_DIGITS w_FRACTION_DIGITS) w_PATTERN w_ENUMERATION) = (0 : Int32))).2 ?_
        show Steps p.tables e below (T7.setTop (mkF m 37 #[.val (.int p1), .val (.int ((p1 &&& (2147483647 : Int32)) % (12 : Int32))), .val (.ref (own_pick ((p1 &&& (2147483647 : Int32)) % (12 : Int32)) w_LENGTH w_MIN_LENGTH w_MAX_LENGTH w_PATTERN w_ENUMERATION w_WHITE_SPACE w_MAX_INCLUSIVE w_MAX_EXCLUSIVE w_MIN_EXCLUSIVE w_MIN_INCLUSIVE w_TOTAL_DIGITS w_FRACTION_DIGITS)), .val (.int (0 : Int32))] [])) _
        refine XS.iconst X7.here hx rfl (hb hby at_37) ?_
        show Steps p.tables e below (T7.setTop (mkF m 38 #[.val (.int p1), .val (.int ((p1 &&& (2147483647 : Int32)) % (12 : Int32))), .val (.ref (own_pick ((p1 &&& (2147483647 : Int32)) % (12 : Int32)) w_LENGTH w_MIN_LENGTH w_MAX_LENGTH w_PATTERN w_ENUMERATION w_WHITE_SPACE w_MAX_INCLUSIVE w_MAX_EXCLUSIVE w_MIN_EXCLUSIVE w_MIN_INCLUSIVE w_TOTAL_DIGITS w_FRACTION_DIGITS)), .val (.int (0 : Int32))] [(.int (1 : Int32))])) _
        refine XS.goto X7.here hx rfl (pc0 := 38) (pc' := 42) rfl (hb hby at_38) (by decide) (by decide) ?_
        show Steps p.tables e below (T7.setTop (mkF m 42 #[.val (.int p1), .val (.int ((p1 &&& (2147483647 : Int32)) % (12 : Int32))), .val (.ref (own_pick ((p1 &&& (2147483647 : Int32)) % (12 : Int32)) w_LENGTH w_MIN_LENGTH w_MAX_LENGTH w_PATTERN w_ENUMERATION w_WHITE_SPACE w_MAX_INCLUSIVE w_MAX_EXCLUSIVE w_MIN_EXCLUSIVE w_MIN_INCLUSIVE w_TOTAL_DIGITS w_FRACTION_DIGITS)), .val (.int (0 : Int32))] [(.int (1 : Int32))])) _
        exact k
      obtain ⟨fs, hr, hrun, hended, hW, hsame⟩ := X7.leave (v := some (.int (1 : Int32))) (fun h => by rw [Bd.returns] at h; cases h)
      refine own_done (retN X7 hx (t := .boolean) Bd.returns (by simp) (hb hby at_42) hr) hrun hended ⟨_, _, rfl, ?_, ⟨_, rfl⟩, hW, hsame.mono (by decide) (by decide)⟩
      show Q_rm0 Z p1 h0 n0 (some (.int (1 : Int32))) T7.heap _
      rw [e7]
      exact ⟨rfl, N7⟩
set_option maxRecDepth 65536 in
set_option maxHeartbeats 40000000 in
theorem comes_1 {Post : Tables → Env → Array Value → State → Outcome → State → Prop} (hpost : ∀ tb e args s v u, (limb_1_1.after args s (.returned v) u = true ∧ limb_1_2.after args s (.returned v) u = true ∧ True) → FrameEnd s (.returned v) u (Jvm.fieldLocs frame_1_writes args s ++ Jvm.arrayLocs frame_1_arrays args s ++ Jvm.staticLocs frame_1_statics s) 0 0 → Post tb e args s (.returned v) u) :
    ArmFor flags0 classFile x code maxLocals ret World_1 tables_1 room_1 Calls_1 rest_1 Pre_1 Post := by
  intro l hfl _ _ p e ha hc hk' s m args below hf hA hF happ hP
  obtain ⟨hcalls, hrest, hpre⟩ := hP
  obtain ⟨-, -, -, hnamed, -, -, -, hat⟩ := (Spec.applies_iff hf).mp happ
  obtain ⟨hg, hn⟩ := and_e (Cond.before_iff.mp (show (Jvm.Cond.and given_1 narrow_1).before args s = true from hpre))
  obtain ⟨gc, hg⟩ := and_e hg
  obtain ⟨w0, rfl⟩ : ∃ w0 : Value, args = #[w0] := by
    have hs : args.size = 1 := by simpa [Cond.value, given_1] using gc
    obtain ⟨L⟩ := args
    match L, hs with
    | [w0], _ => exact ⟨w0, rfl⟩
  have ga0 := hg
  obtain ⟨i0, ei0⟩ := is_v ga0
  obtain rfl : w0 = (.int i0) := Option.some.inj ei0
  have hw := fun d (hd : d ∈ tables_1) => atoms_spec (ws := Jvm.Cond.code x code maxLocals ret :: tables_1) hat d (List.mem_cons_of_mem _ hd)
  have hfit : Fit s := fun {y c} hc i hi => by
    obtain ⟨ha, rfl⟩ := Array.getElem?_eq_some_iff.mp hc
    have q := List.all_eq_true.mp ((Array.all_eq_true_iff_forall_mem.mp hF) _ (Array.getElem_mem ha)) i (List.mem_range.mpr hi)
    simpa [Array.getElem?_eq_getElem hi] using q
  obtain ⟨c0, hn⟩ := and_e hn
  obtain ⟨c1, hn⟩ := and_e hn
  obtain ⟨c2, hn⟩ := and_e hn
  obtain ⟨c3, hn⟩ := and_e hn
  obtain ⟨c4, hn⟩ := and_e hn
  obtain ⟨c5, hn⟩ := and_e hn
  obtain ⟨c6, hn⟩ := and_e hn
  obtain ⟨c7, hn⟩ := and_e hn
  obtain ⟨c8, hn⟩ := and_e hn
  obtain ⟨c9, hn⟩ := and_e hn
  obtain ⟨c10, hn⟩ := and_e hn
  obtain ⟨c11, hn⟩ := and_e hn
  obtain ⟨c12, hn⟩ := and_e hn
  obtain ⟨c13, hn⟩ := and_e hn
  obtain ⟨c14, hn⟩ := and_e hn
  obtain ⟨c15, hn⟩ := and_e hn
  obtain ⟨c16, hn⟩ := and_e hn
  obtain ⟨c17, hn⟩ := and_e hn
  obtain ⟨c18, hn⟩ := and_e hn
  obtain ⟨c19, hn⟩ := and_e hn
  obtain ⟨c20, hn⟩ := and_e hn
  obtain ⟨c21, hn⟩ := and_e hn
  obtain ⟨c22, hn⟩ := and_e hn
  have c23 := hn
  obtain ⟨w_LENGTH, ev_LENGTH⟩ := exa_v c0
  have E_LENGTH := Exa.start ev_LENGTH c0
  have S_LENGTH := Sta.start ev_LENGTH (Or.inr ⟨(hw _ (List.mem_of_getElem? (i := 6) rfl)), (hw _ (List.mem_of_getElem? (i := 7) rfl))⟩)
  obtain ⟨w_PATTERN, ev_PATTERN⟩ := exa_v c1
  have E_PATTERN := Exa.start ev_PATTERN c1
  have S_PATTERN := Sta.start ev_PATTERN (Or.inr ⟨(hw _ (List.mem_of_getElem? (i := 6) rfl)), (hw _ (List.mem_of_getElem? (i := 14) rfl))⟩)
  obtain ⟨w_ENUMERATION, ev_ENUMERATION⟩ := exa_v c4
  have E_ENUMERATION := Exa.start ev_ENUMERATION c4
  have S_ENUMERATION := Sta.start ev_ENUMERATION (Or.inr ⟨(hw _ (List.mem_of_getElem? (i := 6) rfl)), (hw _ (List.mem_of_getElem? (i := 16) rfl))⟩)
  obtain ⟨w_MAX_LENGTH, ev_MAX_LENGTH⟩ := exa_v c6
  have E_MAX_LENGTH := Exa.start ev_MAX_LENGTH c6
  have S_MAX_LENGTH := Sta.start ev_MAX_LENGTH (Or.inr ⟨(hw _ (List.mem_of_getElem? (i := 6) rfl)), (hw _ (List.mem_of_getElem? (i := 19) rfl))⟩)
  obtain ⟨w_MAX_EXCLUSIVE, ev_MAX_EXCLUSIVE⟩ := exa_v c8
  have E_MAX_EXCLUSIVE := Exa.start ev_MAX_EXCLUSIVE c8
  have S_MAX_EXCLUSIVE := Sta.start ev_MAX_EXCLUSIVE (Or.inr ⟨(hw _ (List.mem_of_getElem? (i := 6) rfl)), (hw _ (List.mem_of_getElem? (i := 21) rfl))⟩)
  obtain ⟨w_FRACTION_DIGITS, ev_FRACTION_DIGITS⟩ := exa_v c10
  have E_FRACTION_DIGITS := Exa.start ev_FRACTION_DIGITS c10
  have S_FRACTION_DIGITS := Sta.start ev_FRACTION_DIGITS (Or.inr ⟨(hw _ (List.mem_of_getElem? (i := 6) rfl)), (hw _ (List.mem_of_getElem? (i := 23) rfl))⟩)
  obtain ⟨w_MIN_EXCLUSIVE, ev_MIN_EXCLUSIVE⟩ := exa_v c12
  have E_MIN_EXCLUSIVE := Exa.start ev_MIN_EXCLUSIVE c12
  have S_MIN_EXCLUSIVE := Sta.start ev_MIN_EXCLUSIVE (Or.inr ⟨(hw _ (List.mem_of_getElem? (i := 6) rfl)), (hw _ (List.mem_of_getElem? (i := 26) rfl))⟩)
  obtain ⟨w_MIN_LENGTH, ev_MIN_LENGTH⟩ := exa_v c14
  have E_MIN_LENGTH := Exa.start ev_MIN_LENGTH c14
  have S_MIN_LENGTH := Sta.start ev_MIN_LENGTH (Or.inr ⟨(hw _ (List.mem_of_getElem? (i := 6) rfl)), (hw _ (List.mem_of_getElem? (i := 28) rfl))⟩)
  obtain ⟨w_TOTAL_DIGITS, ev_TOTAL_DIGITS⟩ := exa_v c16
  have E_TOTAL_DIGITS := Exa.start ev_TOTAL_DIGITS c16
  have S_TOTAL_DIGITS := Sta.start ev_TOTAL_DIGITS (Or.inr ⟨(hw _ (List.mem_of_getElem? (i := 6) rfl)), (hw _ (List.mem_of_getElem? (i := 30) rfl))⟩)
  obtain ⟨w_MIN_INCLUSIVE, ev_MIN_INCLUSIVE⟩ := exa_v c18
  have E_MIN_INCLUSIVE := Exa.start ev_MIN_INCLUSIVE c18
  have S_MIN_INCLUSIVE := Sta.start ev_MIN_INCLUSIVE (Or.inr ⟨(hw _ (List.mem_of_getElem? (i := 6) rfl)), (hw _ (List.mem_of_getElem? (i := 32) rfl))⟩)
  obtain ⟨w_MAX_INCLUSIVE, ev_MAX_INCLUSIVE⟩ := exa_v c20
  have E_MAX_INCLUSIVE := Exa.start ev_MAX_INCLUSIVE c20
  have S_MAX_INCLUSIVE := Sta.start ev_MAX_INCLUSIVE (Or.inr ⟨(hw _ (List.mem_of_getElem? (i := 6) rfl)), (hw _ (List.mem_of_getElem? (i := 34) rfl))⟩)
  obtain ⟨w_WHITE_SPACE, ev_WHITE_SPACE⟩ := exa_v c22
  have E_WHITE_SPACE := Exa.start ev_WHITE_SPACE c22
  have S_WHITE_SPACE := Sta.start ev_WHITE_SPACE (Or.inr ⟨(hw _ (List.mem_of_getElem? (i := 6) rfl)), (hw _ (List.mem_of_getElem? (i := 36) rfl))⟩)
  have O_LENGTH := own_ord ev_LENGTH c2
  have O_PATTERN := own_ord ev_PATTERN c3
  have O_ENUMERATION := own_ord ev_ENUMERATION c5
  have O_MAX_LENGTH := own_ord ev_MAX_LENGTH c7
  have O_MAX_EXCLUSIVE := own_ord ev_MAX_EXCLUSIVE c9
  have O_FRACTION_DIGITS := own_ord ev_FRACTION_DIGITS c11
  have O_MIN_EXCLUSIVE := own_ord ev_MIN_EXCLUSIVE c13
  have O_MIN_LENGTH := own_ord ev_MIN_LENGTH c15
  have O_TOTAL_DIGITS := own_ord ev_TOTAL_DIGITS c17
  have O_MIN_INCLUSIVE := own_ord ev_MIN_INCLUSIVE c19
  have O_MAX_INCLUSIVE := own_ord ev_MAX_INCLUSIVE c21
  have O_WHITE_SPACE := own_ord ev_WHITE_SPACE c23
  have hk1 := c_mask i0 2147483647 31 (by decide) (by decide)
  have hk2 := (c_irem (i0 &&& 2147483647) 12 12 (by decide)).1 (by omega)
  obtain ⟨n, o, h1, h2, h3, _, L, rfl, ⟨rfl, N⟩, hq⟩ := rm0 l s _ hw tables_1 i0 w_LENGTH w_MIN_LENGTH w_MAX_LENGTH w_PATTERN w_ENUMERATION w_WHITE_SPACE w_MAX_INCLUSIVE w_MAX_EXCLUSIVE w_MIN_EXCLUSIVE w_MIN_INCLUSIVE w_TOTAL_DIGITS w_FRACTION_DIGITS s.heap s.heap.size (Nat.le_refl _) S_LENGTH S_MIN_LENGTH S_MAX_LENGTH S_PATTERN S_ENUMERATION S_WHITE_SPACE S_MAX_INCLUSIVE S_MAX_EXCLUSIVE S_MIN_EXCLUSIVE S_MIN_INCLUSIVE S_TOTAL_DIGITS S_FRACTION_DIGITS E_LENGTH E_MIN_LENGTH E_MAX_LENGTH E_PATTERN E_ENUMERATION E_WHITE_SPACE E_MAX_INCLUSIVE E_MAX_EXCLUSIVE E_MIN_EXCLUSIVE E_MIN_INCLUSIVE E_TOTAL_DIGITS E_FRACTION_DIGITS (fun k hk => by subst hk; exact own_plain _ (by omega) (by omega) (O_LENGTH.ne O_PATTERN (by decide)) (O_LENGTH.ne O_ENUMERATION (by decide)) (O_MIN_LENGTH.ne O_PATTERN (by decide)) (O_MIN_LENGTH.ne O_ENUMERATION (by decide)) (O_MAX_LENGTH.ne O_PATTERN (by decide)) (O_MAX_LENGTH.ne O_ENUMERATION (by decide)) (O_PATTERN.ne O_ENUMERATION (by decide)) (O_ENUMERATION.ne O_PATTERN (by decide)) (O_WHITE_SPACE.ne O_PATTERN (by decide)) (O_WHITE_SPACE.ne O_ENUMERATION (by decide)) (O_MAX_INCLUSIVE.ne O_PATTERN (by decide)) (O_MAX_INCLUSIVE.ne O_ENUMERATION (by decide)) (O_MAX_EXCLUSIVE.ne O_PATTERN (by decide)) (O_MAX_EXCLUSIVE.ne O_ENUMERATION (by decide)) (O_MIN_EXCLUSIVE.ne O_PATTERN (by decide)) (O_MIN_EXCLUSIVE.ne O_ENUMERATION (by decide)) (O_MIN_INCLUSIVE.ne O_PATTERN (by decide)) (O_MIN_INCLUSIVE.ne O_ENUMERATION (by decide)) (O_TOTAL_DIGITS.ne O_PATTERN (by decide)) (O_TOTAL_DIGITS.ne O_ENUMERATION (by decide)) (O_FRACTION_DIGITS.ne O_PATTERN (by decide)) (O_FRACTION_DIGITS.ne O_ENUMERATION (by decide))) p e ha hc hk' s m _ below hf ((Spec.applies_iff_loose hf).mp happ).1 ⟨rfl, State.Warmed39.refl s, rfl⟩ trivial
  refine ⟨n, _, h1, h2, h3, hpost _ _ _ _ _ _ ⟨Cond.after_iff.mpr rfl, Cond.after_iff.mpr (eq_i res_at (Term.int_eval (1)) rfl), trivial⟩ ⟨hq.1, hq.2.1, (hq.2.2.sift fun y hy => Or.inr (N y hy)).mono (by decide) (by decide)⟩⟩
theorem main_1_1 : Claimed_1_1 := comes_1 fun _ _ _ _ _ _ h hF => ⟨h.1, hF⟩
theorem main_1_2 : Claimed_1_2 := comes_1 fun _ _ _ _ _ _ h hF => ⟨h.2.1, hF⟩
end Jvm.Pilot.@@N@@
namespace Jvm.Pilot.@@N@@
open Jvm Jvm.ClassFile Sem Op Lib Jvm.Free Jvm.Stand Jvm.Pilot.@@N@@.Jvm.D
/-! MADE BY PROGRAM (witnessworld.py) out of the Statement's table words and the real class files: 12 classes; the members and pool entries that the words name. The judged class is class 1, her method 2. -/
namespace start1
open Jvm.ClassFile
def u (s : String) : CpInfo := .utf8 (stringToUtf16 s)
/-- a pool by its gaps: so many unusable entries, then the entry; so many at the end -/
def gap : Nat → List CpInfo → List CpInfo
  | 0, r => r
  | n + 1, r => .unusable :: gap n r
def poolList (es : List (Nat × CpInfo)) (last : Nat) : List CpInfo := es.foldr (fun e r => gap e.1 (e.2 :: r)) (gap last [])
def pool (es : List (Nat × CpInfo)) (last : Nat) : Array CpInfo := ⟨poolList es last⟩
def fileOf (pool : Array CpInfo) (this : Nat) (attrs : Array Attribute := #[]) (ms : Array MethodInfo := #[]) (fl : Nat := 33) (sup : Nat := 0) (ifs : Array Nat := #[]) (fds : Array FieldInfo := #[]) : ClassFile where
  minorVersion := 0
  majorVersion := 65
  constantPool := pool
  accessFlags := fl
  thisClass := this
  superClass := sup
  interfaces := ifs
  fields := fds
  methods := ms
  attributes := attrs
def plain (name : String) (sup : Option ClassId) : Class where
  name := name
  kind := .ordinary
  loader := none
  accessFlags := 33
  super := sup
  interfaces := #[]
  cf := none
  fields := #[]
  methods := #[]
  instanceTypes := #[]
  staticTypes := #[]
  resolved := #[]
  callSites := []
  init := .initialized
  statics := none
  mirror := none

def pool0 : Array CpInfo := pool [(5, u "<init>"), (0, u "()V"), (1, .class_ 10), (1, u "java/lang/Object")] 113

def k0m0 : Method := { name := "<init>", desc := "()V", sig := { parameters := [], returnType := none }, accessFlags := 1, code := none }
/-- java/lang/Object -/
def k0 : Class := { plain "java/lang/Object" none with
  accessFlags := 33
  interfaces := #[]
  cf := some (fileOf pool0 8 #[] #[{ accessFlags := 1, nameIndex := 5, descriptorIndex := 6, attributes := #[] }] 33 0 #[] #[])
  fields := #[]
  methods := #[k0m0]
  instanceTypes := #[]
  staticTypes := #[]
  resolved := Array.replicate 124 none
  statics := none }

def pool1 : Array CpInfo := pool [(2, .class_ 4), (1, u "java/lang/Object"), (0, u "<init>"), (0, u "()V"), (0, .fieldref 8 9), (0, .class_ 10), (0, .nameAndType 11 12), (0, u "com/example/schemaloom/schemaloom/schema/Facet$Kind"), (0, u "LENGTH"), (0, u "Lcom/example/schemaloom/schemaloom/schema/Facet$Kind;"), (0, .fieldref 8 14), (0, .nameAndType 15 12), (0, u "MIN_LENGTH"), (0, .fieldref 8 17), (0, .nameAndType 18 12), (0, u "MAX_LENGTH"), (0, .fieldref 8 20), (0, .nameAndType 21 12), (0, u "PATTERN"), (0, .fieldref 8 23), (0, .nameAndType 24 12), (0, u "ENUMERATION"), (0, .fieldref 8 26), (0, .nameAndType 27 12), (0, u "WHITE_SPACE"), (0, .fieldref 8 29), (0, .nameAndType 30 12), (0, u "MAX_INCLUSIVE"), (0, .fieldref 8 32), (0, .nameAndType 33 12), (0, u "MAX_EXCLUSIVE"), (0, .fieldref 8 35), (0, .nameAndType 36 12), (0, u "MIN_EXCLUSIVE"), (0, .fieldref 8 38), (0, .nameAndType 39 12), (0, u "MIN_INCLUSIVE"), (0, .fieldref 8 41), (0, .nameAndType 42 12), (0, u "TOTAL_DIGITS"), (0, .fieldref 8 44), (0, .nameAndType 45 12), (0, u "FRACTION_DIGITS"), (0, .integer 2147483647), (0, .methodref 48 49), (0, .class_ 50), (0, .nameAndType 51 52), (0, u "com/example/schemaloom/schemaloom/schema/KindIsRepeatablePinLaw"), (0, u "kindOf"), (0, u "(I)Lcom/example/schemaloom/schemaloom/schema/Facet$Kind;"), (0, .methodref 8 54), (0, .nameAndType 55 56), (0, u "isRepeatable"), (0, u "()Z"), (3, u "law"), (0, u "(I)Z")] 6

def k1m0 : Method := { name := "<init>", desc := "()V", sig := { parameters := [], returnType := none }, accessFlags := 1, code := none }
def k1c1 : Code := { maxStack := 2, maxLocals := 1, code := method_2_code, exceptionTable := #[], attributes := #[] }
def k1m1 : Method := { name := "kindOf", desc := "(I)Lcom/example/schemaloom/schemaloom/schema/Facet$Kind;", sig := { parameters := [.int], returnType := some (.object "com/example/schemaloom/schemaloom/schema/Facet$Kind") }, accessFlags := 10, code := some k1c1 }
def k1c2 : Code := { maxStack := 2, maxLocals := 4, code := code, exceptionTable := #[], attributes := #[] }
def k1m2 : Method := { name := "law", desc := "(I)Z", sig := { parameters := [.int], returnType := some .boolean }, accessFlags := 9, code := some k1c2 }
/-- com/example/schemaloom/schemaloom/schema/KindIsRepeatablePinLaw -/
def k1 : Class := { plain "com/example/schemaloom/schemaloom/schema/KindIsRepeatablePinLaw" (some 0) with
  accessFlags := 49
  interfaces := #[]
  cf := some (fileOf pool1 48 #[] #[{ accessFlags := 1, nameIndex := 5, descriptorIndex := 6, attributes := #[] }, { accessFlags := 10, nameIndex := 51, descriptorIndex := 52, attributes := #[] }, { accessFlags := 9, nameIndex := 60, descriptorIndex := 61, attributes := #[] }] 49 2 #[] #[])
  fields := #[]
  methods := #[k1m0, k1m1, k1m2]
  instanceTypes := #[]
  staticTypes := #[]
  resolved := Array.replicate 68 none
  statics := none }

def pool2 : Array CpInfo := pool [(1, .class_ 2), (0, u "java/lang/constant/Constable"), (0, .class_ 4), (0, u "java/lang/Object")] 6

/-- java/lang/constant/Constable -/
def k2 : Class := { plain "java/lang/constant/Constable" (some 0) with
  accessFlags := 1537
  interfaces := #[]
  cf := some (fileOf pool2 1 #[] #[] 1537 3 #[] #[])
  fields := #[]
  methods := #[]
  instanceTypes := #[]
  staticTypes := #[]
  resolved := Array.replicate 11 none
  statics := none }

def pool3 : Array CpInfo := pool [(1, .class_ 2), (0, u "java/lang/Comparable"), (0, .class_ 4), (0, u "java/lang/Object")] 7

/-- java/lang/Comparable -/
def k3 : Class := { plain "java/lang/Comparable" (some 0) with
  accessFlags := 1537
  interfaces := #[]
  cf := some (fileOf pool3 1 #[] #[] 1537 3 #[] #[])
  fields := #[]
  methods := #[]
  instanceTypes := #[]
  staticTypes := #[]
  resolved := Array.replicate 12 none
  statics := none }

def pool4 : Array CpInfo := pool [(1, .class_ 2), (0, u "java/io/Serializable"), (0, .class_ 4), (0, u "java/lang/Object")] 2

/-- java/io/Serializable -/
def k4 : Class := { plain "java/io/Serializable" (some 0) with
  accessFlags := 1537
  interfaces := #[]
  cf := some (fileOf pool4 1 #[] #[] 1537 3 #[] #[])
  fields := #[]
  methods := #[]
  instanceTypes := #[]
  staticTypes := #[]
  resolved := Array.replicate 7 none
  statics := none }

def pool5 : Array CpInfo := pool [(2, .class_ 4), (1, u "java/lang/Enum"), (0, u "name"), (0, u "Ljava/lang/String;"), (2, u "ordinal"), (0, u "I"), (1, .class_ 14), (1, u "java/lang/Object"), (4, u "hash"), (86, .class_ 108), (1, u "java/lang/Enum$EnumDesc"), (2, .class_ 112), (0, u "java/lang/constant/Constable"), (0, .class_ 114), (0, u "java/lang/Comparable"), (0, .class_ 116), (0, u "java/io/Serializable")] 87

/-- java/lang/Enum -/
def k5 : Class := { plain "java/lang/Enum" (some 0) with
  accessFlags := 1057
  interfaces := #[2, 3, 4]
  cf := some (fileOf pool5 2 #[.nestMembers #[106]] #[] 1057 12 #[111, 113, 115] #[{ accessFlags := 18, nameIndex := 5, descriptorIndex := 6, attributes := #[] }, { accessFlags := 18, nameIndex := 9, descriptorIndex := 10, attributes := #[] }, { accessFlags := 2, nameIndex := 19, descriptorIndex := 10, attributes := #[] }])
  fields := #[{ name := "name", type := (.object "java/lang/String"), accessFlags := 18, slot := 0, constantValue := 0 }, { name := "ordinal", type := .int, accessFlags := 18, slot := 1, constantValue := 0 }, { name := "hash", type := .int, accessFlags := 2, slot := 2, constantValue := 0 }]
  methods := #[]
  instanceTypes := #[(.object "java/lang/String"), .int, .int]
  staticTypes := #[]
  resolved := Array.replicate 204 none
  statics := none }

def pool6 : Array CpInfo := pool [(1, .class_ 2), (0, u "com/example/schemaloom/schemaloom/schema/Facet$Kind"), (2, u "LENGTH"), (0, u "Lcom/example/schemaloom/schemaloom/schema/Facet$Kind;"), (2, u "MIN_LENGTH"), (2, u "MAX_LENGTH"), (0, .fieldref 1 14), (0, .nameAndType 15 6), (0, u "PATTERN"), (0, .fieldref 1 17), (0, .nameAndType 18 6), (0, u "ENUMERATION"), (2, u "WHITE_SPACE"), (2, u "MAX_INCLUSIVE"), (2, u "MAX_EXCLUSIVE"), (2, u "MIN_EXCLUSIVE"), (2, u "MIN_INCLUSIVE"), (2, u "TOTAL_DIGITS"), (2, u "FRACTION_DIGITS"), (2, u "$VALUES"), (0, u "[Lcom/example/schemaloom/schemaloom/schema/Facet$Kind;"), (6, .class_ 52), (1, u "java/lang/Enum"), (8, u "localName"), (0, u "Ljava/lang/String;"), (2, u "BY_LOCAL_NAME"), (0, u "Ljava/util/Map;"), (14, u "OF_LISTS"), (0, u "Ljava/util/Set;"), (21, u "()Z"), (21, u "BOUNDS"), (95, u "isRepeatable"), (10, .class_ 234), (0, u "com/example/schemaloom/schemaloom/schema/Facet")] 29

def k6c0 : Code := { maxStack := 2, maxLocals := 1, code := prog_38_method_6_code, exceptionTable := #[], attributes := #[] }
def k6m0 : Method := { name := "isRepeatable", desc := "()Z", sig := { parameters := [], returnType := some .boolean }, accessFlags := 1, code := some k6c0 }
/-- com/example/schemaloom/schemaloom/schema/Facet$Kind -/
def k6 : Class := { plain "com/example/schemaloom/schemaloom/schema/Facet$Kind" (some 5) with
  accessFlags := 16433
  interfaces := #[]
  cf := some (fileOf pool6 1 #[.nestHost 233] #[{ accessFlags := 1, nameIndex := 222, descriptorIndex := 104, attributes := #[] }] 16433 50 #[] #[{ accessFlags := 16409, nameIndex := 5, descriptorIndex := 6, attributes := #[] }, { accessFlags := 16409, nameIndex := 9, descriptorIndex := 6, attributes := #[] }, { accessFlags := 16409, nameIndex := 12, descriptorIndex := 6, attributes := #[] }, { accessFlags := 16409, nameIndex := 15, descriptorIndex := 6, attributes := #[] }, { accessFlags := 16409, nameIndex := 18, descriptorIndex := 6, attributes := #[] }, { accessFlags := 16409, nameIndex := 21, descriptorIndex := 6, attributes := #[] }, { accessFlags := 16409, nameIndex := 24, descriptorIndex := 6, attributes := #[] }, { accessFlags := 16409, nameIndex := 27, descriptorIndex := 6, attributes := #[] }, { accessFlags := 16409, nameIndex := 30, descriptorIndex := 6, attributes := #[] }, { accessFlags := 16409, nameIndex := 33, descriptorIndex := 6, attributes := #[] }, { accessFlags := 16409, nameIndex := 36, descriptorIndex := 6, attributes := #[] }, { accessFlags := 16409, nameIndex := 39, descriptorIndex := 6, attributes := #[] }, { accessFlags := 26, nameIndex := 65, descriptorIndex := 66, attributes := #[] }, { accessFlags := 26, nameIndex := 81, descriptorIndex := 82, attributes := #[] }, { accessFlags := 26, nameIndex := 126, descriptorIndex := 82, attributes := #[] }, { accessFlags := 18, nameIndex := 61, descriptorIndex := 62, attributes := #[] }, { accessFlags := 4122, nameIndex := 42, descriptorIndex := 43, attributes := #[] }])
  fields := #[{ name := "LENGTH", type := (.object "com/example/schemaloom/schemaloom/schema/Facet$Kind"), accessFlags := 16409, slot := 0, constantValue := 0 }, { name := "MIN_LENGTH", type := (.object "com/example/schemaloom/schemaloom/schema/Facet$Kind"), accessFlags := 16409, slot := 1, constantValue := 0 }, { name := "MAX_LENGTH", type := (.object "com/example/schemaloom/schemaloom/schema/Facet$Kind"), accessFlags := 16409, slot := 2, constantValue := 0 }, { name := "PATTERN", type := (.object "com/example/schemaloom/schemaloom/schema/Facet$Kind"), accessFlags := 16409, slot := 3, constantValue := 0 }, { name := "ENUMERATION", type := (.object "com/example/schemaloom/schemaloom/schema/Facet$Kind"), accessFlags := 16409, slot := 4, constantValue := 0 }, { name := "WHITE_SPACE", type := (.object "com/example/schemaloom/schemaloom/schema/Facet$Kind"), accessFlags := 16409, slot := 5, constantValue := 0 }, { name := "MAX_INCLUSIVE", type := (.object "com/example/schemaloom/schemaloom/schema/Facet$Kind"), accessFlags := 16409, slot := 6, constantValue := 0 }, { name := "MAX_EXCLUSIVE", type := (.object "com/example/schemaloom/schemaloom/schema/Facet$Kind"), accessFlags := 16409, slot := 7, constantValue := 0 }, { name := "MIN_EXCLUSIVE", type := (.object "com/example/schemaloom/schemaloom/schema/Facet$Kind"), accessFlags := 16409, slot := 8, constantValue := 0 }, { name := "MIN_INCLUSIVE", type := (.object "com/example/schemaloom/schemaloom/schema/Facet$Kind"), accessFlags := 16409, slot := 9, constantValue := 0 }, { name := "TOTAL_DIGITS", type := (.object "com/example/schemaloom/schemaloom/schema/Facet$Kind"), accessFlags := 16409, slot := 10, constantValue := 0 }, { name := "FRACTION_DIGITS", type := (.object "com/example/schemaloom/schemaloom/schema/Facet$Kind"), accessFlags := 16409, slot := 11, constantValue := 0 }, { name := "BY_LOCAL_NAME", type := (.object "java/util/Map"), accessFlags := 26, slot := 12, constantValue := 0 }, { name := "OF_LISTS", type := (.object "java/util/Set"), accessFlags := 26, slot := 13, constantValue := 0 }, { name := "BOUNDS", type := (.object "java/util/Set"), accessFlags := 26, slot := 14, constantValue := 0 }, { name := "localName", type := (.object "java/lang/String"), accessFlags := 18, slot := 3, constantValue := 0 }, { name := "$VALUES", type := (.array (.object "com/example/schemaloom/schemaloom/schema/Facet$Kind")), accessFlags := 4122, slot := 15, constantValue := 0 }]
  methods := #[k6m0]
  instanceTypes := #[(.object "java/lang/String"), .int, .int, (.object "java/lang/String")]
  staticTypes := #[(.object "com/example/schemaloom/schemaloom/schema/Facet$Kind"), (.object "com/example/schemaloom/schemaloom/schema/Facet$Kind"), (.object "com/example/schemaloom/schemaloom/schema/Facet$Kind"), (.object "com/example/schemaloom/schemaloom/schema/Facet$Kind"), (.object "com/example/schemaloom/schemaloom/schema/Facet$Kind"), (.object "com/example/schemaloom/schemaloom/schema/Facet$Kind"), (.object "com/example/schemaloom/schemaloom/schema/Facet$Kind"), (.object "com/example/schemaloom/schemaloom/schema/Facet$Kind"), (.object "com/example/schemaloom/schemaloom/schema/Facet$Kind"), (.object "com/example/schemaloom/schemaloom/schema/Facet$Kind"), (.object "com/example/schemaloom/schemaloom/schema/Facet$Kind"), (.object "com/example/schemaloom/schemaloom/schema/Facet$Kind"), (.object "java/util/Map"), (.object "java/util/Set"), (.object "java/util/Set"), (.array (.object "com/example/schemaloom/schemaloom/schema/Facet$Kind"))]
  resolved := Array.replicate 264 none
  statics := some 0 }

def pool7 : Array CpInfo := pool [(1, u "java/lang/Cloneable"), (0, .class_ 1), (0, u "java/lang/Object"), (0, .class_ 3)] 3

/-- java/lang/Cloneable -/
def k7 : Class := { plain "java/lang/Cloneable" (some 0) with
  accessFlags := 1537
  interfaces := #[]
  cf := some (fileOf pool7 2 #[] #[] 1537 4 #[] #[])
  fields := #[]
  methods := #[]
  instanceTypes := #[]
  staticTypes := #[]
  resolved := Array.replicate 8 none
  statics := none }

/-- the primitive byte -/
def k8 : Class := { plain "byte" none with kind := .primitive 'B', accessFlags := 0x411 }
/-- [B -/
def k9 : Class := { plain "[B" (some 0) with kind := .array 8 .byte, interfaces := #[7, 4], accessFlags := 1041 }

/-- the primitive int -/
def k10 : Class := { plain "int" none with kind := .primitive 'I', accessFlags := 0x411 }
/-- [I -/
def k11 : Class := { plain "[I" (some 0) with kind := .array 10 .int, interfaces := #[7, 4], accessFlags := 1041 }

def heap : Heap := #[{ cls := 6, slots := #[.ref 1, .ref 8, .ref 4, .ref 2, .ref 3, .ref 12, .ref 11, .ref 5, .ref 7, .ref 10, .ref 9, .ref 6, .null, .null, .null, .null], vm := .statics 6 },
  { cls := 6, slots := #[.null, .int 0, .int 0, .null], vm := .none },
  { cls := 6, slots := #[.null, .int 3, .int 0, .null], vm := .none },
  { cls := 6, slots := #[.null, .int 4, .int 0, .null], vm := .none },
  { cls := 6, slots := #[.null, .int 2, .int 0, .null], vm := .none },
  { cls := 6, slots := #[.null, .int 7, .int 0, .null], vm := .none },
  { cls := 6, slots := #[.null, .int 11, .int 0, .null], vm := .none },
  { cls := 6, slots := #[.null, .int 8, .int 0, .null], vm := .none },
  { cls := 6, slots := #[.null, .int 1, .int 0, .null], vm := .none },
  { cls := 6, slots := #[.null, .int 10, .int 0, .null], vm := .none },
  { cls := 6, slots := #[.null, .int 9, .int 0, .null], vm := .none },
  { cls := 6, slots := #[.null, .int 6, .int 0, .null], vm := .none },
  { cls := 6, slots := #[.null, .int 5, .int 0, .null], vm := .none }]
def classes : Array Class := #[k0, k1, k2, k3, k4, k5, k6, k7, k8, k9, k10, k11]
def interned : List (Array UInt16 × Addr) := []
def slotsUsed : Nat := 64
def theMethod : MethodId := ⟨1, 2⟩
def args0 : Array Value := #[.int 5]
def aboutOver (below : List Frame) : State where
  vm := { classes := classes, interned := interned.toArray }
  heap := heap
  slotsUsed := slotsUsed
  threads := #[{ frames := .invoking theMethod args0 :: below }]
def below0 : List Frame := [.native { method := ⟨0, 0⟩, args := #[] }]
def about1 : State := aboutOver below0
def p0 : Program := .bare "" "" ""
def e0 : Env := launch0.env 0 0 0
theorem w_frames : about1.frames = Frame.invoking theMethod args0 :: below0 := rfl
set_option maxRecDepth 65536 in
theorem w_args : argsFit about1.vm theMethod args0 = true := by decide +kernel
set_option maxRecDepth 65536 in
theorem w_heap : heapFits about1 = true := by decide +kernel
set_option maxRecDepth 65536 in
theorem w_runnable : about1.curStatus? = some .runnable := by decide +kernel
set_option maxRecDepth 65536 in
theorem w_alone : about1.alone = true := by decide +kernel
set_option maxRecDepth 65536 in
theorem w_named : about1.methodNamed? x = some theMethod := by decide +kernel
set_option maxRecDepth 65536 in
theorem w_hears : about1.hears theMethod below0 = true := by decide +kernel
set_option maxRecDepth 65536 in
theorem w_ripe : about1.ripe theMethod args0 below0 = true := by decide +kernel
theorem w_running : about1.status = .running := rfl
set_option maxRecDepth 65536 in
theorem w_room : about1.hasRoom e0.platform room_1 = true :=
  launch0.hasRoom_least _ room_1 (by decide +kernel) (by decide +kernel) (by decide +kernel) (by decide +kernel) (by decide +kernel) (by decide +kernel)
theorem allAtoms_all (ts : List Jvm.Cond) (a : Array Jvm.Value) (st : Jvm.State) : (allAtoms ts).before a st = ts.all (fun c => c.before a st) := by
  induction ts with
  | nil => rfl
  | cons c t ih =>
    show (Jvm.Cond.and c (allAtoms t)).before a st = _
    rw [Jvm.Cond.before_and, ih, List.all_cons]
def words1 : List Jvm.Cond := Jvm.Cond.code x code maxLocals ret :: tables_1
/-- a 'code' word, met by the world's own term for the bytes: nothing is compared byte by byte -/
theorem code_word {y : MethodName} {bytes : ByteArray} {mx : Nat} {rt : Option FieldType} {a : Array Value} {s : State} {m : MethodId} {meth : Method} {c : Code} (h1 : s.methodNamed? y = some m) (h2 : s.vm.method? m = some meth) (h3 : meth.code = some c) (h4 : c.code = bytes)
    (h5 : (c.maxLocals == mx && c.exceptionTable.isEmpty && decide (c.maxStack ≤ mostOperands) && decide (meth.sig.returnType = rt) && !meth.locks && decide (parseMethodDescriptor y.desc = some meth.sig)) = true) : (Jvm.Cond.code y bytes mx rt).before a s = true := by
  simp only [Bool.and_eq_true, beq_iff_eq, Bool.not_eq_true', decide_eq_true_eq] at h5
  obtain ⟨⟨⟨⟨⟨g1, g2⟩, g3⟩, g4⟩, g5⟩, g6⟩ := h5
  simp [Cond.before, Cond.holds, Cond.value, h1, h2, h3, h4, g1, g2, g3, g4, g5, g6]
def isCode : Jvm.Cond → Bool
  | .code _ _ _ _ => true
  | _ => false
theorem all_split {L : List Jvm.Cond} {P : Jvm.Cond → Bool} (h1 : L.all (fun c => isCode c || P c) = true) (h2 : ∀ c ∈ L.filter isCode, P c = true) : L.all P = true := by
  refine List.all_eq_true.mpr fun c hc => ?_
  have h := List.all_eq_true.mp h1 c hc
  rcases Bool.eq_false_or_eq_true (isCode c) with hi | hi
  · exact h2 c (List.mem_filter.mpr ⟨hc, hi⟩)
  · simpa [hi] using h
set_option maxRecDepth 65536 in
theorem w_c0 : (Jvm.Cond.code x code maxLocals ret).before args0 about1 = true := code_word (m := ⟨1, 2⟩) (meth := k1m2) (c := k1c2) (by decide +kernel) rfl rfl rfl (by decide +kernel)
set_option maxRecDepth 65536 in
theorem w_c1 : (Jvm.Cond.code ({ cls := "com/example/schemaloom/schemaloom/schema/KindIsRepeatablePinLaw", name := "kindOf", desc := "(I)Lcom/example/schemaloom/schemaloom/schema/Facet$Kind;" } : Jvm.MethodName) method_2_code (1 : Nat) (Option.some (Jvm.ClassFile.FieldType.object "com/example/schemaloom/schemaloom/schema/Facet$Kind"))).before args0 about1 = true := code_word (m := ⟨1, 1⟩) (meth := k1m1) (c := k1c1) (by decide +kernel) rfl rfl rfl (by decide +kernel)
set_option maxRecDepth 65536 in
theorem w_c2 : (Jvm.Cond.code ({ cls := "com/example/schemaloom/schemaloom/schema/Facet$Kind", name := "isRepeatable", desc := "()Z" } : Jvm.MethodName) prog_38_method_6_code (1 : Nat) (Option.some Jvm.ClassFile.FieldType.boolean)).before args0 about1 = true := code_word (m := ⟨6, 0⟩) (meth := k6m0) (c := k6c0) (by decide +kernel) rfl rfl rfl (by decide +kernel)
def codes1 : List Jvm.Cond := [Jvm.Cond.code x code maxLocals ret, Jvm.Cond.code ({ cls := "com/example/schemaloom/schemaloom/schema/KindIsRepeatablePinLaw", name := "kindOf", desc := "(I)Lcom/example/schemaloom/schemaloom/schema/Facet$Kind;" } : Jvm.MethodName) method_2_code (1 : Nat) (Option.some (Jvm.ClassFile.FieldType.object "com/example/schemaloom/schemaloom/schema/Facet$Kind")), Jvm.Cond.code ({ cls := "com/example/schemaloom/schemaloom/schema/Facet$Kind", name := "isRepeatable", desc := "()Z" } : Jvm.MethodName) prog_38_method_6_code (1 : Nat) (Option.some Jvm.ClassFile.FieldType.boolean)]
set_option maxRecDepth 65536 in
theorem codes_eq : words1.filter isCode = codes1 := rfl
theorem w_codes : ∀ c ∈ words1.filter isCode, c.before args0 about1 = true := by
  rw [codes_eq]
  intro c hc
  simp only [codes1, List.mem_cons, List.not_mem_nil, or_false] at hc
  rcases hc with rfl | rfl | rfl
  · exact w_c0
  · exact w_c1
  · exact w_c2
set_option maxRecDepth 65536 in
theorem w_t1 : (words1.take 24).all (fun c => isCode c || c.before args0 about1) = true := by decide +kernel
set_option maxRecDepth 65536 in
theorem w_t2 : (words1.drop 24).all (fun c => isCode c || c.before args0 about1) = true := by decide +kernel
theorem w_tables : (allAtoms (Jvm.Cond.code x code maxLocals ret :: tables_1)).before args0 about1 = true := by
  rw [allAtoms_all]
  show words1.all (fun c => c.before args0 about1) = true
  refine all_split ?_ w_codes
  rw [← List.take_append_drop 24 words1, List.all_append, w_t1, w_t2]
  rfl
set_option maxRecDepth 65536 in
theorem w_case : (Jvm.Cond.and given_1 narrow_1).before args0 about1 = true := by decide +kernel
theorem w_applies : (headSpec (Jvm.Cond.code x code maxLocals ret :: tables_1) room_1).applies x e0.platform about1 = true :=
  (Spec.applies_iff w_frames).mpr ⟨w_running, w_runnable, w_alone, w_named, w_hears, w_ripe, w_room, w_tables⟩
theorem atStart : AtStart classFile x code maxLocals ret World_1 tables_1 room_1 Calls_1 rest_1 Pre_1 launch0 p0 e0 about1 theMethod args0 below0 :=
  ⟨lists_1, trivial, launch0.admits_env _ _ _, launch0.least_env, fairChoices_fair.cas, fairChoices_fair.clock, w_frames, w_args, w_heap, w_applies, trivial, trivial, w_case⟩
end start1
theorem witness_1 : WitnessClaimed_1 := ⟨start1.p0, start1.e0, start1.about1, start1.theMethod, start1.args0, start1.below0, start1.atStart⟩
end Jvm.Pilot.@@N@@
