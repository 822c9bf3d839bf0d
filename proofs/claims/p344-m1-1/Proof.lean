import JvmDerived
import JvmDerived.Pilot.@@N@@Statement
import JvmDerived.Pilot.@@N@@Code
set_option linter.unusedVariables false
set_option linter.unusedSimpArgs false
namespace Jvm.Pilot.@@N@@
open Jvm Jvm.ClassFile Sem Op Lib Jvm.Free Jvm.Stand Jvm.LawKit Jvm.RoadKit Bundle Jvm.Pilot.@@N@@.Jvm.D
abbrev own_Gd (tb : Tables) (e : Env) (below : List Frame) (P : State → Outcome → Prop) (A : State) : Prop := ∃ U o, Steps tb e below A U ∧ U.status = .running ∧ Ended U below o ∧ P U o
theorem own_go {tb : Tables} {e : Env} {below : List Frame} {P : State → Outcome → Prop} {A B : State} (st : ∀ t, Steps tb e below B t → Steps tb e below A t) (h : own_Gd tb e below P B) : own_Gd tb e below P A := by
  obtain ⟨U, o, h1, h2⟩ := h
  exact ⟨U, o, st _ h1, h2⟩
theorem own_done {tb : Tables} {e : Env} {below : List Frame} {P : State → Outcome → Prop} {A U : State} {o : Outcome} (st : Steps tb e below A U) (h1 : U.status = .running) (h2 : Ended U below o) (h3 : P U o) : own_Gd tb e below P A := ⟨U, o, st, h1, h2, h3⟩
abbrev own_P (Q : Option Value → Heap → List Loc → Prop) (s : State) (cells slots : Nat) : State → Outcome → Prop := fun U' o => ∃ v L, o = .returned v ∧ Q v U'.heap L ∧ FrameEnd s o U' L cells slots
abbrev own_PW (Q : Option Value → Heap → List Loc → Prop) (s : State) (cells slots : Nat) : State → Outcome → Prop := fun U' o => ∃ v L, o = .returned v ∧ Q v U'.heap L ∧ ReturnedEndW s o U' L cells slots
theorem own_len {args : Array Value} {Z : State} {t : Term} {a : Addr} {c : Cell} {n : Int32} (ev : t.eval args Z none [] Z = some (.ref a)) (ha : Z.arrayAt? a = some c) (h : (Term.length t).eval args Z none [] Z = some (.int n)) : c.slots.size < 2 ^ 31 ∧ c.slots.size.toInt32 = n := by
  by_cases q : c.slots.size < 2 ^ 31
  · rw [len_f ev ha q] at h
    cases h
    exact ⟨q, rfl⟩
  · exfalso
    simp [Term.eval, ev, ha] at h
    omega
theorem own_ord {args : Array Value} {Z : State} {t : Term} {C n d : String} {a : Addr} {k : Int32} (ht : t.eval args Z none [] Z = some (.ref a)) (h : (Jvm.Cond.eq (Term.field t C n d) (Term.int k)).value args Z none Z [] = some true) : Fld Z Z.heap a C n d (.int k) := Fld.start ((fld_at ht).symm.trans (eqv_i rfl h))

theorem pn_0 : plainName "com/example/clausewright/clausewright/document/KindIsAttachmentPinLaw" = true := by first | (simp [plainName, overriddenIn]; done) | decide +kernel
theorem pn_1 : plainName "com/example/clausewright/clausewright/document/KindIsAttachmentPinLaw" = true := by first | (simp [plainName, overriddenIn]; done) | decide +kernel
theorem pn_2 : plainName "com/example/clausewright/clausewright/document/Part$Kind" = true := by first | (simp [plainName, overriddenIn]; done) | decide +kernel
theorem d1_0 : decode method_3_code 0 = .ok (.iload_n 0, 1) := by decide +kernel
theorem d1_1 : decode method_3_code 1 = .ok (.ifCond .ne 7, 3) := by decide +kernel
theorem d1_4 : decode method_3_code 4 = .ok (.getstatic 20, 3) := by decide +kernel
theorem d1_7 : decode method_3_code 7 = .ok (.areturn, 1) := by decide +kernel
theorem d1_8 : decode method_3_code 8 = .ok (.iload_n 0, 1) := by decide +kernel
theorem d1_9 : decode method_3_code 9 = .ok (.iconst 1, 1) := by decide +kernel
theorem d1_10 : decode method_3_code 10 = .ok (.if_icmp .ne 7, 3) := by decide +kernel
theorem d1_13 : decode method_3_code 13 = .ok (.getstatic 24, 3) := by decide +kernel
theorem d1_16 : decode method_3_code 16 = .ok (.areturn, 1) := by decide +kernel
theorem d1_17 : decode method_3_code 17 = .ok (.iload_n 0, 1) := by decide +kernel
theorem d1_18 : decode method_3_code 18 = .ok (.iconst 2, 1) := by decide +kernel
theorem d1_19 : decode method_3_code 19 = .ok (.if_icmp .ne 7, 3) := by decide +kernel
theorem d1_22 : decode method_3_code 22 = .ok (.getstatic 27, 3) := by decide +kernel
theorem d1_25 : decode method_3_code 25 = .ok (.areturn, 1) := by decide +kernel
theorem d1_26 : decode method_3_code 26 = .ok (.iload_n 0, 1) := by decide +kernel
theorem d1_27 : decode method_3_code 27 = .ok (.iconst 3, 1) := by decide +kernel
theorem d1_28 : decode method_3_code 28 = .ok (.if_icmp .ne 7, 3) := by decide +kernel
theorem d1_31 : decode method_3_code 31 = .ok (.getstatic 30, 3) := by decide +kernel
theorem d1_34 : decode method_3_code 34 = .ok (.areturn, 1) := by decide +kernel
theorem d1_35 : decode method_3_code 35 = .ok (.iload_n 0, 1) := by decide +kernel
theorem d1_36 : decode method_3_code 36 = .ok (.iconst 4, 1) := by decide +kernel
theorem d1_37 : decode method_3_code 37 = .ok (.if_icmp .ne 7, 3) := by decide +kernel
theorem d1_40 : decode method_3_code 40 = .ok (.getstatic 33, 3) := by decide +kernel
theorem d1_43 : decode method_3_code 43 = .ok (.areturn, 1) := by decide +kernel
theorem d1_44 : decode method_3_code 44 = .ok (.iload_n 0, 1) := by decide +kernel
theorem d1_45 : decode method_3_code 45 = .ok (.iconst 5, 1) := by decide +kernel
theorem d1_46 : decode method_3_code 46 = .ok (.if_icmp .ne 7, 3) := by decide +kernel
theorem d1_49 : decode method_3_code 49 = .ok (.getstatic 36, 3) := by decide +kernel
theorem d1_52 : decode method_3_code 52 = .ok (.areturn, 1) := by decide +kernel
theorem d1_53 : decode method_3_code 53 = .ok (.getstatic 39, 3) := by decide +kernel
theorem d1_56 : decode method_3_code 56 = .ok (.areturn, 1) := by decide +kernel
theorem d2_0 : decode prog_20_method_5_code 0 = .ok (.aload_n 0, 1) := by decide +kernel
theorem d2_1 : decode prog_20_method_5_code 1 = .ok (.getstatic 13, 3) := by decide +kernel
theorem d2_4 : decode prog_20_method_5_code 4 = .ok (.if_acmp .eq 24, 3) := by decide +kernel
theorem d2_7 : decode prog_20_method_5_code 7 = .ok (.aload_n 0, 1) := by decide +kernel
theorem d2_8 : decode prog_20_method_5_code 8 = .ok (.getstatic 16, 3) := by decide +kernel
theorem d2_11 : decode prog_20_method_5_code 11 = .ok (.if_acmp .eq 17, 3) := by decide +kernel
theorem d2_14 : decode prog_20_method_5_code 14 = .ok (.aload_n 0, 1) := by decide +kernel
theorem d2_15 : decode prog_20_method_5_code 15 = .ok (.getstatic 19, 3) := by decide +kernel
theorem d2_18 : decode prog_20_method_5_code 18 = .ok (.if_acmp .eq 10, 3) := by decide +kernel
theorem d2_21 : decode prog_20_method_5_code 21 = .ok (.aload_n 0, 1) := by decide +kernel
theorem d2_22 : decode prog_20_method_5_code 22 = .ok (.getstatic 22, 3) := by decide +kernel
theorem d2_25 : decode prog_20_method_5_code 25 = .ok (.if_acmp .ne 7, 3) := by decide +kernel
theorem d2_28 : decode prog_20_method_5_code 28 = .ok (.iconst 1, 1) := by decide +kernel
theorem d2_29 : decode prog_20_method_5_code 29 = .ok (.goto 4, 3) := by decide +kernel
theorem d2_32 : decode prog_20_method_5_code 32 = .ok (.iconst 0, 1) := by decide +kernel
theorem d2_33 : decode prog_20_method_5_code 33 = .ok (.ireturn, 1) := by decide +kernel
theorem pd_0 : parseMethodDescriptor "(I)Lcom/example/clausewright/clausewright/document/Part$Kind;" = some ⟨[.int], some (.object "com/example/clausewright/clausewright/document/Part$Kind")⟩ := by decide +kernel
theorem pd_1 : parseMethodDescriptor "()Z" = some ⟨[], some .boolean⟩ := by decide +kernel
def own_pick (k : Int32) (w_FRONT w_CONTENTS w_BODY w_SCHEDULE w_ANNEX w_APPENDIX w_EXHIBIT : Addr) : Addr := if k = 0 then w_FRONT else if k = 1 then w_CONTENTS else if k = 2 then w_BODY else if k = 3 then w_SCHEDULE else if k = 4 then w_ANNEX else if k = 5 then w_APPENDIX else w_EXHIBIT
def own_att (a w_SCHEDULE w_ANNEX w_APPENDIX w_EXHIBIT : Addr) : Int32 := if a = w_SCHEDULE then 1 else if a = w_ANNEX then 1 else if a = w_APPENDIX then 1 else if a = w_EXHIBIT then 1 else 0
theorem own_pick_exa {Z : State} {h : Heap} {w_FRONT w_CONTENTS w_BODY w_SCHEDULE w_ANNEX w_APPENDIX w_EXHIBIT : Addr} {C : String} (k : Int32) (E_FRONT : Exa Z h w_FRONT C) (E_CONTENTS : Exa Z h w_CONTENTS C) (E_BODY : Exa Z h w_BODY C) (E_SCHEDULE : Exa Z h w_SCHEDULE C) (E_ANNEX : Exa Z h w_ANNEX C) (E_APPENDIX : Exa Z h w_APPENDIX C) (E_EXHIBIT : Exa Z h w_EXHIBIT C) : Exa Z h (own_pick k w_FRONT w_CONTENTS w_BODY w_SCHEDULE w_ANNEX w_APPENDIX w_EXHIBIT) C := by
  unfold own_pick
  repeat' split
  all_goals assumption
set_option maxHeartbeats 8000000 in
theorem own_plain (k : Int32) (h0 : 0 ≤ k.toInt) (h1 : k.toInt < 7) {w_FRONT w_CONTENTS w_BODY w_SCHEDULE w_ANNEX w_APPENDIX w_EXHIBIT : Addr} (n_FRONT_SCHEDULE : w_FRONT ≠ w_SCHEDULE) (n_FRONT_ANNEX : w_FRONT ≠ w_ANNEX) (n_FRONT_APPENDIX : w_FRONT ≠ w_APPENDIX) (n_FRONT_EXHIBIT : w_FRONT ≠ w_EXHIBIT) (n_CONTENTS_SCHEDULE : w_CONTENTS ≠ w_SCHEDULE) (n_CONTENTS_ANNEX : w_CONTENTS ≠ w_ANNEX) (n_CONTENTS_APPENDIX : w_CONTENTS ≠ w_APPENDIX) (n_CONTENTS_EXHIBIT : w_CONTENTS ≠ w_EXHIBIT) (n_BODY_SCHEDULE : w_BODY ≠ w_SCHEDULE) (n_BODY_ANNEX : w_BODY ≠ w_ANNEX) (n_BODY_APPENDIX : w_BODY ≠ w_APPENDIX) (n_BODY_EXHIBIT : w_BODY ≠ w_EXHIBIT) (n_SCHEDULE_ANNEX : w_SCHEDULE ≠ w_ANNEX) (n_SCHEDULE_APPENDIX : w_SCHEDULE ≠ w_APPENDIX) (n_SCHEDULE_EXHIBIT : w_SCHEDULE ≠ w_EXHIBIT) (n_ANNEX_SCHEDULE : w_ANNEX ≠ w_SCHEDULE) (n_ANNEX_APPENDIX : w_ANNEX ≠ w_APPENDIX) (n_ANNEX_EXHIBIT : w_ANNEX ≠ w_EXHIBIT) (n_APPENDIX_SCHEDULE : w_APPENDIX ≠ w_SCHEDULE) (n_APPENDIX_ANNEX : w_APPENDIX ≠ w_ANNEX) (n_APPENDIX_EXHIBIT : w_APPENDIX ≠ w_EXHIBIT) (n_EXHIBIT_SCHEDULE : w_EXHIBIT ≠ w_SCHEDULE) (n_EXHIBIT_ANNEX : w_EXHIBIT ≠ w_ANNEX) (n_EXHIBIT_APPENDIX : w_EXHIBIT ≠ w_APPENDIX) : own_att (own_pick k w_FRONT w_CONTENTS w_BODY w_SCHEDULE w_ANNEX w_APPENDIX w_EXHIBIT) w_SCHEDULE w_ANNEX w_APPENDIX w_EXHIBIT = if k < 3 then 0 else 1 := by
  have hk : k = 0 ∨ k = 1 ∨ k = 2 ∨ k = 3 ∨ k = 4 ∨ k = 5 ∨ k = 6 := by
    simp only [← Int32.toInt_inj]
    have : ∀ z : Int, 0 ≤ z → z < 7 → z = 0 ∨ z = 1 ∨ z = 2 ∨ z = 3 ∨ z = 4 ∨ z = 5 ∨ z = 6 := by omega
    exact this _ h0 h1
  rcases hk with rfl | rfl | rfl | rfl | rfl | rfl | rfl <;> simp +decide [own_pick, own_att, n_FRONT_SCHEDULE, n_FRONT_ANNEX, n_FRONT_APPENDIX, n_FRONT_EXHIBIT, n_CONTENTS_SCHEDULE, n_CONTENTS_ANNEX, n_CONTENTS_APPENDIX, n_CONTENTS_EXHIBIT, n_BODY_SCHEDULE, n_BODY_ANNEX, n_BODY_APPENDIX, n_BODY_EXHIBIT, n_SCHEDULE_ANNEX, n_SCHEDULE_APPENDIX, n_SCHEDULE_EXHIBIT, n_ANNEX_SCHEDULE, n_ANNEX_APPENDIX, n_ANNEX_EXHIBIT, n_APPENDIX_SCHEDULE, n_APPENDIX_ANNEX, n_APPENDIX_EXHIBIT, n_EXHIBIT_SCHEDULE, n_EXHIBIT_ANNEX, n_EXHIBIT_APPENDIX]
def Q_rm1 (Z : State) (p1 : Int32) (w_FRONT w_CONTENTS w_BODY w_SCHEDULE w_ANNEX w_APPENDIX w_EXHIBIT : Addr) (h0 : Heap) (n0 : Nat) (v : Option Value) (h : Heap) (L : List Loc) : Prop := v = some (.ref (own_pick p1 w_FRONT w_CONTENTS w_BODY w_SCHEDULE w_ANNEX w_APPENDIX w_EXHIBIT)) ∧ Fr n0 L ∧ h = h0
theorem ef_1 (m : MethodId) (x0 : Int32) : entryFrame m #[(.int x0)] 1 = mkF m 0 #[.val (.int x0)] [] := by first | (simp [entryFrame, mkF, argsToLocals, Value.category, maxLocals]; done) | rfl
set_option maxRecDepth 65536 in
set_option maxHeartbeats 40000000 in
theorem rm1 (l : Launch) (Z : State) (a0 : Array Value) (hw : ∀ d ∈ tables_1, d.before a0 Z = true) (ws : List Jvm.Cond) (p1 : Int32) (w_FRONT w_CONTENTS w_BODY w_SCHEDULE w_ANNEX w_APPENDIX w_EXHIBIT : Addr) (h0 : Heap) (n0 : Nat) (Z0 : n0 ≤ h0.size) (S_FRONT : Sta Z h0 "com/example/clausewright/clausewright/document/Part$Kind" "FRONT" "Lcom/example/clausewright/clausewright/document/Part$Kind;" (.ref w_FRONT)) (S_CONTENTS : Sta Z h0 "com/example/clausewright/clausewright/document/Part$Kind" "CONTENTS" "Lcom/example/clausewright/clausewright/document/Part$Kind;" (.ref w_CONTENTS)) (S_BODY : Sta Z h0 "com/example/clausewright/clausewright/document/Part$Kind" "BODY" "Lcom/example/clausewright/clausewright/document/Part$Kind;" (.ref w_BODY)) (S_SCHEDULE : Sta Z h0 "com/example/clausewright/clausewright/document/Part$Kind" "SCHEDULE" "Lcom/example/clausewright/clausewright/document/Part$Kind;" (.ref w_SCHEDULE)) (S_ANNEX : Sta Z h0 "com/example/clausewright/clausewright/document/Part$Kind" "ANNEX" "Lcom/example/clausewright/clausewright/document/Part$Kind;" (.ref w_ANNEX)) (S_APPENDIX : Sta Z h0 "com/example/clausewright/clausewright/document/Part$Kind" "APPENDIX" "Lcom/example/clausewright/clausewright/document/Part$Kind;" (.ref w_APPENDIX)) (S_EXHIBIT : Sta Z h0 "com/example/clausewright/clausewright/document/Part$Kind" "EXHIBIT" "Lcom/example/clausewright/clausewright/document/Part$Kind;" (.ref w_EXHIBIT)) :
    MetFree l (⟨"com/example/clausewright/clausewright/document/KindIsAttachmentPinLaw", "pick", "(I)Lcom/example/clausewright/clausewright/document/Part$Kind;"⟩ : MethodName) (head1 (Jvm.Cond.code (⟨"com/example/clausewright/clausewright/document/KindIsAttachmentPinLaw", "pick", "(I)Lcom/example/clausewright/clausewright/document/Part$Kind;"⟩ : MethodName) method_3_code 1 (some (.object "com/example/clausewright/clausewright/document/Part$Kind")) :: ws) ({ frames := 0, cells := 0, slots := 0, locals := 0 } : Room)) (fun a U => a = #[(.int p1)] ∧ Z.Warmed39 U.vm ∧ U.heap = h0) (fun _ _ _ _ _ => True) (fun _ U o U' => ∃ v L, o = .returned v ∧ Q_rm1 Z p1 w_FRONT w_CONTENTS w_BODY w_SCHEDULE w_ANNEX w_APPENDIX w_EXHIBIT h0 n0 v U'.heap L ∧ FrameEnd U o U' L ({ frames := 0, cells := 0, slots := 0, locals := 0 } : Room).cells ({ frames := 0, cells := 0, slots := 0, locals := 0 } : Room).slots) := by
  refine MetFree.of_bodySF (plainFor_of_name pn_1) hisR ?_
  intro p e s m args below meth c s₁ Bd hml0 hP hK
  obtain ⟨rfl, hZ, hh⟩ := hP
  have hx := Bd.exec
  have hby := Bd.bytes
  have hml : c.maxLocals = 1 := hml0
  have hown : s.vm.findClass "com/example/clausewright/clausewright/document/KindIsAttachmentPinLaw" = some m.cls := findClass_of_methodNamed Bd.named
  have hnm := (name_of_methodNamed Bd.named Bd.method).1
  have X0 : Stand p l e ({ frames := 0, cells := 0, slots := 0, locals := 0 } : Room) s m #[(.int p1)] below meth c s₁ [] 0 0 := Stand.of_body Bd
  have e0 : s₁.heap = h0 := by rw [← hh, Bd.state]; rfl
  have N0 := Fr.nil n0
  have K : Keep h0 h0 [] := Keep.refl h0 []
  show own_Gd p.tables e below (own_P (Q_rm1 Z p1 w_FRONT w_CONTENTS w_BODY w_SCHEDULE w_ANNEX w_APPENDIX w_EXHIBIT h0 n0) s ({ frames := 0, cells := 0, slots := 0, locals := 0 } : Room).cells ({ frames := 0, cells := 0, slots := 0, locals := 0 } : Room).slots) _
  refine own_go (B := s₁.setTop (mkF m 0 #[.val (.int p1)] [])) (fun t k => castTop (ef_1 m p1) k) ?_
  refine own_go (B := s₁.setTop (mkF m 1 #[.val (.int p1)] [(.int p1)])) (fun t k => ?_) ?_
  · show Steps p.tables e below (s₁.setTop (mkF m 0 #[.val (.int p1)] [])) _
    refine XS.iloadN X0.here hx rfl (hb hby d1_0) rfl ?_
    show Steps p.tables e below (s₁.setTop (mkF m 1 #[.val (.int p1)] [(.int p1)])) _
    exact k
  by_cases hc1 : p1 = (0 : Int32)
  · refine own_go (B := s₁.setTop (mkF m 4 #[.val (.int p1)] [])) (fun t k => ?_) ?_
    · show Steps p.tables e below (s₁.setTop (mkF m 1 #[.val (.int p1)] [(.int p1)])) _
      refine XS.ifNo X0.here hx rfl (hb hby d1_1) rfl ((if0 _ _).trans (teq hc1).2) ?_
      show Steps p.tables e below (s₁.setTop (mkF m 4 #[.val (.int p1)] [])) _
      exact k
    obtain ⟨T1, X1, e1, st1⟩ := getS2 X0 hx hZ hown (host := "") (Or.inl (hw _ (List.mem_of_getElem? (i := 5) rfl))) Via.refl e0 S_FRONT (g := (mkF m 4 #[.val (.int p1)] [])) rfl (hb hby d1_4)
    refine own_go (B := T1.setTop (mkF m 7 #[.val (.int p1)] [(.ref w_FRONT)])) st1 ?_
    obtain ⟨fs, hr, hrun, hended, hW, hsame⟩ := X1.leave (v := some (.ref w_FRONT)) (fun h => by rw [Bd.returns] at h; cases h)
    refine own_done (retOut X1 hx Bd.returns rfl (Or.inr (Or.inr (Or.inr (Or.inr ⟨rfl, rfl, rfl⟩)))) (hb hby d1_7) hr) hrun hended ⟨_, _, rfl, ?_, ⟨_, rfl⟩, hW, hsame.mono (by decide) (by decide)⟩
    show Q_rm1 Z p1 w_FRONT w_CONTENTS w_BODY w_SCHEDULE w_ANNEX w_APPENDIX w_EXHIBIT h0 n0 (some (.ref w_FRONT)) T1.heap _
    rw [e1]
    exact ⟨by unfold own_pick; rw [if_pos hc1], N0, rfl⟩
  · refine own_go (B := s₁.setTop (mkF m 10 #[.val (.int p1)] [(.int (1 : Int32)), (.int p1)])) (fun t k => ?_) ?_
    · show Steps p.tables e below (s₁.setTop (mkF m 1 #[.val (.int p1)] [(.int p1)])) _
      refine XS.ifYes X0.here hx rfl (pc0 := 1) (pc' := 8) rfl (hb hby d1_1) rfl ((if0 _ _).trans (feq hc1).2) (by decide) (by decide) ?_
      show Steps p.tables e below (s₁.setTop (mkF m 8 #[.val (.int p1)] [])) _
      refine XS.iloadN X0.here hx rfl (hb hby d1_8) rfl ?_
      show Steps p.tables e below (s₁.setTop (mkF m 9 #[.val (.int p1)] [(.int p1)])) _
      refine XS.iconst X0.here hx rfl (hb hby d1_9) ?_
      show Steps p.tables e below (s₁.setTop (mkF m 10 #[.val (.int p1)] [(.int (1 : Int32)), (.int p1)])) _
      exact k
    by_cases hc10 : p1 = (1 : Int32)
    · refine own_go (B := s₁.setTop (mkF m 13 #[.val (.int p1)] [])) (fun t k => ?_) ?_
      · show Steps p.tables e below (s₁.setTop (mkF m 10 #[.val (.int p1)] [(.int (1 : Int32)), (.int p1)])) _
        refine XS.icmpNo X0.here hx rfl (hb hby d1_10) rfl (teq hc10).2 ?_
        show Steps p.tables e below (s₁.setTop (mkF m 13 #[.val (.int p1)] [])) _
        exact k
      obtain ⟨T2, X2, e2, st2⟩ := getS2 X0 hx hZ hown (host := "") (Or.inl (hw _ (List.mem_of_getElem? (i := 27) rfl))) Via.refl e0 S_CONTENTS (g := (mkF m 13 #[.val (.int p1)] [])) rfl (hb hby d1_13)
      refine own_go (B := T2.setTop (mkF m 16 #[.val (.int p1)] [(.ref w_CONTENTS)])) st2 ?_
      obtain ⟨fs, hr, hrun, hended, hW, hsame⟩ := X2.leave (v := some (.ref w_CONTENTS)) (fun h => by rw [Bd.returns] at h; cases h)
      refine own_done (retOut X2 hx Bd.returns rfl (Or.inr (Or.inr (Or.inr (Or.inr ⟨rfl, rfl, rfl⟩)))) (hb hby d1_16) hr) hrun hended ⟨_, _, rfl, ?_, ⟨_, rfl⟩, hW, hsame.mono (by decide) (by decide)⟩
      show Q_rm1 Z p1 w_FRONT w_CONTENTS w_BODY w_SCHEDULE w_ANNEX w_APPENDIX w_EXHIBIT h0 n0 (some (.ref w_CONTENTS)) T2.heap _
      rw [e2]
      exact ⟨by unfold own_pick; rw [if_neg hc1, if_pos hc10], N0, rfl⟩
    · refine own_go (B := s₁.setTop (mkF m 19 #[.val (.int p1)] [(.int (2 : Int32)), (.int p1)])) (fun t k => ?_) ?_
      · show Steps p.tables e below (s₁.setTop (mkF m 10 #[.val (.int p1)] [(.int (1 : Int32)), (.int p1)])) _
        refine XS.icmpYes X0.here hx rfl (pc0 := 10) (pc' := 17) rfl (hb hby d1_10) rfl (feq hc10).2 (by decide) (by decide) ?_
        show Steps p.tables e below (s₁.setTop (mkF m 17 #[.val (.int p1)] [])) _
        refine XS.iloadN X0.here hx rfl (hb hby d1_17) rfl ?_
        show Steps p.tables e below (s₁.setTop (mkF m 18 #[.val (.int p1)] [(.int p1)])) _
        refine XS.iconst X0.here hx rfl (hb hby d1_18) ?_
        show Steps p.tables e below (s₁.setTop (mkF m 19 #[.val (.int p1)] [(.int (2 : Int32)), (.int p1)])) _
        exact k
      by_cases hc19 : p1 = (2 : Int32)
      · refine own_go (B := s₁.setTop (mkF m 22 #[.val (.int p1)] [])) (fun t k => ?_) ?_
        · show Steps p.tables e below (s₁.setTop (mkF m 19 #[.val (.int p1)] [(.int (2 : Int32)), (.int p1)])) _
          refine XS.icmpNo X0.here hx rfl (hb hby d1_19) rfl (teq hc19).2 ?_
          show Steps p.tables e below (s₁.setTop (mkF m 22 #[.val (.int p1)] [])) _
          exact k
        obtain ⟨T3, X3, e3, st3⟩ := getS2 X0 hx hZ hown (host := "") (Or.inl (hw _ (List.mem_of_getElem? (i := 25) rfl))) Via.refl e0 S_BODY (g := (mkF m 22 #[.val (.int p1)] [])) rfl (hb hby d1_22)
        refine own_go (B := T3.setTop (mkF m 25 #[.val (.int p1)] [(.ref w_BODY)])) st3 ?_
        obtain ⟨fs, hr, hrun, hended, hW, hsame⟩ := X3.leave (v := some (.ref w_BODY)) (fun h => by rw [Bd.returns] at h; cases h)
        refine own_done (retOut X3 hx Bd.returns rfl (Or.inr (Or.inr (Or.inr (Or.inr ⟨rfl, rfl, rfl⟩)))) (hb hby d1_25) hr) hrun hended ⟨_, _, rfl, ?_, ⟨_, rfl⟩, hW, hsame.mono (by decide) (by decide)⟩
        show Q_rm1 Z p1 w_FRONT w_CONTENTS w_BODY w_SCHEDULE w_ANNEX w_APPENDIX w_EXHIBIT h0 n0 (some (.ref w_BODY)) T3.heap _
        rw [e3]
        exact ⟨by unfold own_pick; rw [if_neg hc1, if_neg hc10, if_pos hc19], N0, rfl⟩
      · refine own_go (B := s₁.setTop (mkF m 28 #[.val (.int p1)] [(.int (3 : Int32)), (.int p1)])) (fun t k => ?_) ?_
        · show Steps p.tables e below (s₁.setTop (mkF m 19 #[.val (.int p1)] [(.int (2 : Int32)), (.int p1)])) _
          refine XS.icmpYes X0.here hx rfl (pc0 := 19) (pc' := 26) rfl (hb hby d1_19) rfl (feq hc19).2 (by decide) (by decide) ?_
          show Steps p.tables e below (s₁.setTop (mkF m 26 #[.val (.int p1)] [])) _
          refine XS.iloadN X0.here hx rfl (hb hby d1_26) rfl ?_
          show Steps p.tables e below (s₁.setTop (mkF m 27 #[.val (.int p1)] [(.int p1)])) _
          refine XS.iconst X0.here hx rfl (hb hby d1_27) ?_
          show Steps p.tables e below (s₁.setTop (mkF m 28 #[.val (.int p1)] [(.int (3 : Int32)), (.int p1)])) _
          exact k
        by_cases hc28 : p1 = (3 : Int32)
        · refine own_go (B := s₁.setTop (mkF m 31 #[.val (.int p1)] [])) (fun t k => ?_) ?_
          · show Steps p.tables e below (s₁.setTop (mkF m 28 #[.val (.int p1)] [(.int (3 : Int32)), (.int p1)])) _
            refine XS.icmpNo X0.here hx rfl (hb hby d1_28) rfl (teq hc28).2 ?_
            show Steps p.tables e below (s₁.setTop (mkF m 31 #[.val (.int p1)] [])) _
            exact k
          obtain ⟨T4, X4, e4, st4⟩ := getS2 X0 hx hZ hown (host := "") (Or.inl (hw _ (List.mem_of_getElem? (i := 21) rfl))) Via.refl e0 S_SCHEDULE (g := (mkF m 31 #[.val (.int p1)] [])) rfl (hb hby d1_31)
          refine own_go (B := T4.setTop (mkF m 34 #[.val (.int p1)] [(.ref w_SCHEDULE)])) st4 ?_
          obtain ⟨fs, hr, hrun, hended, hW, hsame⟩ := X4.leave (v := some (.ref w_SCHEDULE)) (fun h => by rw [Bd.returns] at h; cases h)
          refine own_done (retOut X4 hx Bd.returns rfl (Or.inr (Or.inr (Or.inr (Or.inr ⟨rfl, rfl, rfl⟩)))) (hb hby d1_34) hr) hrun hended ⟨_, _, rfl, ?_, ⟨_, rfl⟩, hW, hsame.mono (by decide) (by decide)⟩
          show Q_rm1 Z p1 w_FRONT w_CONTENTS w_BODY w_SCHEDULE w_ANNEX w_APPENDIX w_EXHIBIT h0 n0 (some (.ref w_SCHEDULE)) T4.heap _
          rw [e4]
          exact ⟨by unfold own_pick; rw [if_neg hc1, if_neg hc10, if_neg hc19, if_pos hc28], N0, rfl⟩
        · refine own_go (B := s₁.setTop (mkF m 37 #[.val (.int p1)] [(.int (4 : Int32)), (.int p1)])) (fun t k => ?_) ?_
          · show Steps p.tables e below (s₁.setTop (mkF m 28 #[.val (.int p1)] [(.int (3 : Int32)), (.int p1)])) _
            refine XS.icmpYes X0.here hx rfl (pc0 := 28) (pc' := 35) rfl (hb hby d1_28) rfl (feq hc28).2 (by decide) (by decide) ?_
            show Steps p.tables e below (s₁.setTop (mkF m 35 #[.val (.int p1)] [])) _
            refine XS.iloadN X0.here hx rfl (hb hby d1_35) rfl ?_
            show Steps p.tables e below (s₁.setTop (mkF m 36 #[.val (.int p1)] [(.int p1)])) _
            refine XS.iconst X0.here hx rfl (hb hby d1_36) ?_
            show Steps p.tables e below (s₁.setTop (mkF m 37 #[.val (.int p1)] [(.int (4 : Int32)), (.int p1)])) _
            exact k
          by_cases hc37 : p1 = (4 : Int32)
          · refine own_go (B := s₁.setTop (mkF m 40 #[.val (.int p1)] [])) (fun t k => ?_) ?_
            · show Steps p.tables e below (s₁.setTop (mkF m 37 #[.val (.int p1)] [(.int (4 : Int32)), (.int p1)])) _
              refine XS.icmpNo X0.here hx rfl (hb hby d1_37) rfl (teq hc37).2 ?_
              show Steps p.tables e below (s₁.setTop (mkF m 40 #[.val (.int p1)] [])) _
              exact k
            obtain ⟨T5, X5, e5, st5⟩ := getS2 X0 hx hZ hown (host := "") (Or.inl (hw _ (List.mem_of_getElem? (i := 24) rfl))) Via.refl e0 S_ANNEX (g := (mkF m 40 #[.val (.int p1)] [])) rfl (hb hby d1_40)
            refine own_go (B := T5.setTop (mkF m 43 #[.val (.int p1)] [(.ref w_ANNEX)])) st5 ?_
            obtain ⟨fs, hr, hrun, hended, hW, hsame⟩ := X5.leave (v := some (.ref w_ANNEX)) (fun h => by rw [Bd.returns] at h; cases h)
            refine own_done (retOut X5 hx Bd.returns rfl (Or.inr (Or.inr (Or.inr (Or.inr ⟨rfl, rfl, rfl⟩)))) (hb hby d1_43) hr) hrun hended ⟨_, _, rfl, ?_, ⟨_, rfl⟩, hW, hsame.mono (by decide) (by decide)⟩
            show Q_rm1 Z p1 w_FRONT w_CONTENTS w_BODY w_SCHEDULE w_ANNEX w_APPENDIX w_EXHIBIT h0 n0 (some (.ref w_ANNEX)) T5.heap _
            rw [e5]
            exact ⟨by unfold own_pick; rw [if_neg hc1, if_neg hc10, if_neg hc19, if_neg hc28, if_pos hc37], N0, rfl⟩
          · refine own_go (B := s₁.setTop (mkF m 46 #[.val (.int p1)] [(.int (5 : Int32)), (.int p1)])) (fun t k => ?_) ?_
            · show Steps p.tables e below (s₁.setTop (mkF m 37 #[.val (.int p1)] [(.int (4 : Int32)), (.int p1)])) _
              refine XS.icmpYes X0.here hx rfl (pc0 := 37) (pc' := 44) rfl (hb hby d1_37) rfl (feq hc37).2 (by decide) (by decide) ?_
              show Steps p.tables e below (s₁.setTop (mkF m 44 #[.val (.int p1)] [])) _
              refine XS.iloadN X0.here hx rfl (hb hby d1_44) rfl ?_
              show Steps p.tables e below (s₁.setTop (mkF m 45 #[.val (.int p1)] [(.int p1)])) _
              refine XS.iconst X0.here hx rfl (hb hby d1_45) ?_
              show Steps p.tables e below (s₁.setTop (mkF m 46 #[.val (.int p1)] [(.int (5 : Int32)), (.int p1)])) _
              exact k
            by_cases hc46 : p1 = (5 : Int32)
            · refine own_go (B := s₁.setTop (mkF m 49 #[.val (.int p1)] [])) (fun t k => ?_) ?_
              · show Steps p.tables e below (s₁.setTop (mkF m 46 #[.val (.int p1)] [(.int (5 : Int32)), (.int p1)])) _
                refine XS.icmpNo X0.here hx rfl (hb hby d1_46) rfl (teq hc46).2 ?_
                show Steps p.tables e below (s₁.setTop (mkF m 49 #[.val (.int p1)] [])) _
                exact k
              obtain ⟨T6, X6, e6, st6⟩ := getS2 X0 hx hZ hown (host := "") (Or.inl (hw _ (List.mem_of_getElem? (i := 22) rfl))) Via.refl e0 S_APPENDIX (g := (mkF m 49 #[.val (.int p1)] [])) rfl (hb hby d1_49)
              refine own_go (B := T6.setTop (mkF m 52 #[.val (.int p1)] [(.ref w_APPENDIX)])) st6 ?_
              obtain ⟨fs, hr, hrun, hended, hW, hsame⟩ := X6.leave (v := some (.ref w_APPENDIX)) (fun h => by rw [Bd.returns] at h; cases h)
              refine own_done (retOut X6 hx Bd.returns rfl (Or.inr (Or.inr (Or.inr (Or.inr ⟨rfl, rfl, rfl⟩)))) (hb hby d1_52) hr) hrun hended ⟨_, _, rfl, ?_, ⟨_, rfl⟩, hW, hsame.mono (by decide) (by decide)⟩
              show Q_rm1 Z p1 w_FRONT w_CONTENTS w_BODY w_SCHEDULE w_ANNEX w_APPENDIX w_EXHIBIT h0 n0 (some (.ref w_APPENDIX)) T6.heap _
              rw [e6]
              exact ⟨by unfold own_pick; rw [if_neg hc1, if_neg hc10, if_neg hc19, if_neg hc28, if_neg hc37, if_pos hc46], N0, rfl⟩
            · refine own_go (B := s₁.setTop (mkF m 53 #[.val (.int p1)] [])) (fun t k => ?_) ?_
              · show Steps p.tables e below (s₁.setTop (mkF m 46 #[.val (.int p1)] [(.int (5 : Int32)), (.int p1)])) _
                refine XS.icmpYes X0.here hx rfl (pc0 := 46) (pc' := 53) rfl (hb hby d1_46) rfl (feq hc46).2 (by decide) (by decide) ?_
                show Steps p.tables e below (s₁.setTop (mkF m 53 #[.val (.int p1)] [])) _
                exact k
              obtain ⟨T7, X7, e7, st7⟩ := getS2 X0 hx hZ hown (host := "") (Or.inl (hw _ (List.mem_of_getElem? (i := 23) rfl))) Via.refl e0 S_EXHIBIT (g := (mkF m 53 #[.val (.int p1)] [])) rfl (hb hby d1_53)
              refine own_go (B := T7.setTop (mkF m 56 #[.val (.int p1)] [(.ref w_EXHIBIT)])) st7 ?_
              obtain ⟨fs, hr, hrun, hended, hW, hsame⟩ := X7.leave (v := some (.ref w_EXHIBIT)) (fun h => by rw [Bd.returns] at h; cases h)
              refine own_done (retOut X7 hx Bd.returns rfl (Or.inr (Or.inr (Or.inr (Or.inr ⟨rfl, rfl, rfl⟩)))) (hb hby d1_56) hr) hrun hended ⟨_, _, rfl, ?_, ⟨_, rfl⟩, hW, hsame.mono (by decide) (by decide)⟩
              show Q_rm1 Z p1 w_FRONT w_CONTENTS w_BODY w_SCHEDULE w_ANNEX w_APPENDIX w_EXHIBIT h0 n0 (some (.ref w_EXHIBIT)) T7.heap _
              rw [e7]
              exact ⟨by unfold own_pick; rw [if_neg hc1, if_neg hc10, if_neg hc19, if_neg hc28, if_neg hc37, if_neg hc46], N0, rfl⟩
def Q_rm2 (Z : State) (a1 w_SCHEDULE w_ANNEX w_APPENDIX w_EXHIBIT : Addr) (h0 : Heap) (n0 : Nat) (v : Option Value) (h : Heap) (L : List Loc) : Prop := v = some (.int (own_att a1 w_SCHEDULE w_ANNEX w_APPENDIX w_EXHIBIT)) ∧ Fr n0 L ∧ h = h0
theorem ef_2 (m : MethodId) (x0 : Addr) : entryFrame m #[(.ref x0)] 1 = mkF m 0 #[.val (.ref x0)] [] := by first | (simp [entryFrame, mkF, argsToLocals, Value.category, maxLocals]; done) | rfl
set_option maxRecDepth 65536 in
set_option maxHeartbeats 40000000 in
theorem rm2 (l : Launch) (Z : State) (a0 : Array Value) (hw : ∀ d ∈ tables_1, d.before a0 Z = true) (ws : List Jvm.Cond) (a1 w_SCHEDULE w_ANNEX w_APPENDIX w_EXHIBIT : Addr) (h0 : Heap) (n0 : Nat) (Z0 : n0 ≤ h0.size) (S_SCHEDULE : Sta Z h0 "com/example/clausewright/clausewright/document/Part$Kind" "SCHEDULE" "Lcom/example/clausewright/clausewright/document/Part$Kind;" (.ref w_SCHEDULE)) (S_ANNEX : Sta Z h0 "com/example/clausewright/clausewright/document/Part$Kind" "ANNEX" "Lcom/example/clausewright/clausewright/document/Part$Kind;" (.ref w_ANNEX)) (S_APPENDIX : Sta Z h0 "com/example/clausewright/clausewright/document/Part$Kind" "APPENDIX" "Lcom/example/clausewright/clausewright/document/Part$Kind;" (.ref w_APPENDIX)) (S_EXHIBIT : Sta Z h0 "com/example/clausewright/clausewright/document/Part$Kind" "EXHIBIT" "Lcom/example/clausewright/clausewright/document/Part$Kind;" (.ref w_EXHIBIT)) :
    MetFree l (⟨"com/example/clausewright/clausewright/document/Part$Kind", "isAttachment", "()Z"⟩ : MethodName) (head1 (Jvm.Cond.code (⟨"com/example/clausewright/clausewright/document/Part$Kind", "isAttachment", "()Z"⟩ : MethodName) prog_20_method_5_code 1 (some .boolean) :: ws) ({ frames := 0, cells := 0, slots := 0, locals := 0 } : Room)) (fun a U => a = #[(.ref a1)] ∧ Z.Warmed39 U.vm ∧ U.heap = h0) (fun _ _ _ _ _ => True) (fun _ U o U' => ∃ v L, o = .returned v ∧ Q_rm2 Z a1 w_SCHEDULE w_ANNEX w_APPENDIX w_EXHIBIT h0 n0 v U'.heap L ∧ FrameEnd U o U' L ({ frames := 0, cells := 0, slots := 0, locals := 0 } : Room).cells ({ frames := 0, cells := 0, slots := 0, locals := 0 } : Room).slots) := by
  refine MetFree.of_bodySF (plainFor_of_name pn_2) hisR ?_
  intro p e s m args below meth c s₁ Bd hml0 hP hK
  obtain ⟨rfl, hZ, hh⟩ := hP
  have hx := Bd.exec
  have hby := Bd.bytes
  have hml : c.maxLocals = 1 := hml0
  have hown : s.vm.findClass "com/example/clausewright/clausewright/document/Part$Kind" = some m.cls := findClass_of_methodNamed Bd.named
  have hnm := (name_of_methodNamed Bd.named Bd.method).1
  have X0 : Stand p l e ({ frames := 0, cells := 0, slots := 0, locals := 0 } : Room) s m #[(.ref a1)] below meth c s₁ [] 0 0 := Stand.of_body Bd
  have e0 : s₁.heap = h0 := by rw [← hh, Bd.state]; rfl
  have N0 := Fr.nil n0
  have K : Keep h0 h0 [] := Keep.refl h0 []
  show own_Gd p.tables e below (own_P (Q_rm2 Z a1 w_SCHEDULE w_ANNEX w_APPENDIX w_EXHIBIT h0 n0) s ({ frames := 0, cells := 0, slots := 0, locals := 0 } : Room).cells ({ frames := 0, cells := 0, slots := 0, locals := 0 } : Room).slots) _
  refine own_go (B := s₁.setTop (mkF m 0 #[.val (.ref a1)] [])) (fun t k => castTop (ef_2 m a1) k) ?_
  refine own_go (B := s₁.setTop (mkF m 1 #[.val (.ref a1)] [(.ref a1)])) (fun t k => ?_) ?_
  · show Steps p.tables e below (s₁.setTop (mkF m 0 #[.val (.ref a1)] [])) _
    refine XS.aloadN X0.here hx rfl (hb hby d2_0) rfl rfl ?_
    show Steps p.tables e below (s₁.setTop (mkF m 1 #[.val (.ref a1)] [(.ref a1)])) _
    exact k
  obtain ⟨T1, X1, e1, st1⟩ := getS2 X0 hx hZ hown (host := "") (Or.inl (hw _ (List.mem_of_getElem? (i := 13) rfl))) Via.refl e0 S_SCHEDULE (g := (mkF m 1 #[.val (.ref a1)] [(.ref a1)])) rfl (hb hby d2_1)
  refine own_go (B := T1.setTop (mkF m 4 #[.val (.ref a1)] [(.ref w_SCHEDULE), (.ref a1)])) st1 ?_
  by_cases ha4 : a1 = w_SCHEDULE
  · refine own_go (B := T1.setTop (mkF m 33 #[.val (.ref a1)] [(.int (1 : Int32))])) (fun t k => ?_) ?_
    · show Steps p.tables e below (T1.setTop (mkF m 4 #[.val (.ref a1)] [(.ref w_SCHEDULE), (.ref a1)])) _
      refine Jvm.RoadKit.acmp (g := (mkF m 4 #[.val (.ref a1)] [(.ref w_SCHEDULE), (.ref a1)])) X1 hx rfl rfl rfl (pc0 := 4) (pc' := 28) (same := true) rfl (hb hby d2_4) rfl (decide_eq_true (congrArg Value.ref ha4)) (by decide) (by decide) ?_
      show Steps p.tables e below (T1.setTop (mkF m 28 #[.val (.ref a1)] [])) _
      refine XS.iconst X1.here hx rfl (hb hby d2_28) ?_
      show Steps p.tables e below (T1.setTop (mkF m 29 #[.val (.ref a1)] [(.int (1 : Int32))])) _
      refine XS.goto X1.here hx rfl (pc0 := 29) (pc' := 33) rfl (hb hby d2_29) (by decide) (by decide) ?_
      show Steps p.tables e below (T1.setTop (mkF m 33 #[.val (.ref a1)] [(.int (1 : Int32))])) _
      exact k
    obtain ⟨fs, hr, hrun, hended, hW, hsame⟩ := X1.leave (v := some (.int (1 : Int32))) (fun h => by rw [Bd.returns] at h; cases h)
    refine own_done (retN X1 hx (t := .boolean) Bd.returns (by simp) (hb hby d2_33) hr) hrun hended ⟨_, _, rfl, ?_, ⟨_, rfl⟩, hW, hsame.mono (by decide) (by decide)⟩
    show Q_rm2 Z a1 w_SCHEDULE w_ANNEX w_APPENDIX w_EXHIBIT h0 n0 (some (.int (1 : Int32))) T1.heap _
    rw [e1]
    exact ⟨by unfold own_att; rw [if_pos ha4], N0, rfl⟩
  · refine own_go (B := T1.setTop (mkF m 8 #[.val (.ref a1)] [(.ref a1)])) (fun t k => ?_) ?_
    · show Steps p.tables e below (T1.setTop (mkF m 4 #[.val (.ref a1)] [(.ref w_SCHEDULE), (.ref a1)])) _
      refine Jvm.RoadKit.acmp (g := (mkF m 4 #[.val (.ref a1)] [(.ref w_SCHEDULE), (.ref a1)])) X1 hx rfl rfl rfl (pc0 := 4) (pc' := 7) (same := false) rfl (hb hby d2_4) rfl (decide_eq_false fun q => ha4 (Value.ref.inj q)) (by decide) (by decide) ?_
      show Steps p.tables e below (T1.setTop (mkF m 7 #[.val (.ref a1)] [])) _
      refine XS.aloadN X1.here hx rfl (hb hby d2_7) rfl rfl ?_
      show Steps p.tables e below (T1.setTop (mkF m 8 #[.val (.ref a1)] [(.ref a1)])) _
      exact k
    obtain ⟨T2, X2, e2, st2⟩ := getS2 X1 hx hZ hown (host := "") (Or.inl (hw _ (List.mem_of_getElem? (i := 15) rfl))) Via.refl e1 S_ANNEX (g := (mkF m 8 #[.val (.ref a1)] [(.ref a1)])) rfl (hb hby d2_8)
    refine own_go (B := T2.setTop (mkF m 11 #[.val (.ref a1)] [(.ref w_ANNEX), (.ref a1)])) st2 ?_
    by_cases ha11 : a1 = w_ANNEX
    · refine own_go (B := T2.setTop (mkF m 33 #[.val (.ref a1)] [(.int (1 : Int32))])) (fun t k => ?_) ?_
      · show Steps p.tables e below (T2.setTop (mkF m 11 #[.val (.ref a1)] [(.ref w_ANNEX), (.ref a1)])) _
        refine Jvm.RoadKit.acmp (g := (mkF m 11 #[.val (.ref a1)] [(.ref w_ANNEX), (.ref a1)])) X2 hx rfl rfl rfl (pc0 := 11) (pc' := 28) (same := true) rfl (hb hby d2_11) rfl (decide_eq_true (congrArg Value.ref ha11)) (by decide) (by decide) ?_
        show Steps p.tables e below (T2.setTop (mkF m 28 #[.val (.ref a1)] [])) _
        refine XS.iconst X2.here hx rfl (hb hby d2_28) ?_
        show Steps p.tables e below (T2.setTop (mkF m 29 #[.val (.ref a1)] [(.int (1 : Int32))])) _
        refine XS.goto X2.here hx rfl (pc0 := 29) (pc' := 33) rfl (hb hby d2_29) (by decide) (by decide) ?_
        show Steps p.tables e below (T2.setTop (mkF m 33 #[.val (.ref a1)] [(.int (1 : Int32))])) _
        exact k
      obtain ⟨fs, hr, hrun, hended, hW, hsame⟩ := X2.leave (v := some (.int (1 : Int32))) (fun h => by rw [Bd.returns] at h; cases h)
      refine own_done (retN X2 hx (t := .boolean) Bd.returns (by simp) (hb hby d2_33) hr) hrun hended ⟨_, _, rfl, ?_, ⟨_, rfl⟩, hW, hsame.mono (by decide) (by decide)⟩
      show Q_rm2 Z a1 w_SCHEDULE w_ANNEX w_APPENDIX w_EXHIBIT h0 n0 (some (.int (1 : Int32))) T2.heap _
      rw [e2]
      exact ⟨by unfold own_att; rw [if_neg ha4, if_pos ha11], N0, rfl⟩
    · refine own_go (B := T2.setTop (mkF m 15 #[.val (.ref a1)] [(.ref a1)])) (fun t k => ?_) ?_
      · show Steps p.tables e below (T2.setTop (mkF m 11 #[.val (.ref a1)] [(.ref w_ANNEX), (.ref a1)])) _
        refine Jvm.RoadKit.acmp (g := (mkF m 11 #[.val (.ref a1)] [(.ref w_ANNEX), (.ref a1)])) X2 hx rfl rfl rfl (pc0 := 11) (pc' := 14) (same := false) rfl (hb hby d2_11) rfl (decide_eq_false fun q => ha11 (Value.ref.inj q)) (by decide) (by decide) ?_
        show Steps p.tables e below (T2.setTop (mkF m 14 #[.val (.ref a1)] [])) _
        refine XS.aloadN X2.here hx rfl (hb hby d2_14) rfl rfl ?_
        show Steps p.tables e below (T2.setTop (mkF m 15 #[.val (.ref a1)] [(.ref a1)])) _
        exact k
      obtain ⟨T3, X3, e3, st3⟩ := getS2 X2 hx hZ hown (host := "") (Or.inl (hw _ (List.mem_of_getElem? (i := 17) rfl))) Via.refl e2 S_APPENDIX (g := (mkF m 15 #[.val (.ref a1)] [(.ref a1)])) rfl (hb hby d2_15)
      refine own_go (B := T3.setTop (mkF m 18 #[.val (.ref a1)] [(.ref w_APPENDIX), (.ref a1)])) st3 ?_
      by_cases ha18 : a1 = w_APPENDIX
      · refine own_go (B := T3.setTop (mkF m 33 #[.val (.ref a1)] [(.int (1 : Int32))])) (fun t k => ?_) ?_
        · show Steps p.tables e below (T3.setTop (mkF m 18 #[.val (.ref a1)] [(.ref w_APPENDIX), (.ref a1)])) _
          refine Jvm.RoadKit.acmp (g := (mkF m 18 #[.val (.ref a1)] [(.ref w_APPENDIX), (.ref a1)])) X3 hx rfl rfl rfl (pc0 := 18) (pc' := 28) (same := true) rfl (hb hby d2_18) rfl (decide_eq_true (congrArg Value.ref ha18)) (by decide) (by decide) ?_
          show Steps p.tables e below (T3.setTop (mkF m 28 #[.val (.ref a1)] [])) _
          refine XS.iconst X3.here hx rfl (hb hby d2_28) ?_
          show Steps p.tables e below (T3.setTop (mkF m 29 #[.val (.ref a1)] [(.int (1 : Int32))])) _
          refine XS.goto X3.here hx rfl (pc0 := 29) (pc' := 33) rfl (hb hby d2_29) (by decide) (by decide) ?_
          show Steps p.tables e below (T3.setTop (mkF m 33 #[.val (.ref a1)] [(.int (1 : Int32))])) _
          exact k
        obtain ⟨fs, hr, hrun, hended, hW, hsame⟩ := X3.leave (v := some (.int (1 : Int32))) (fun h => by rw [Bd.returns] at h; cases h)
        refine own_done (retN X3 hx (t := .boolean) Bd.returns (by simp) (hb hby d2_33) hr) hrun hended ⟨_, _, rfl, ?_, ⟨_, rfl⟩, hW, hsame.mono (by decide) (by decide)⟩
        show Q_rm2 Z a1 w_SCHEDULE w_ANNEX w_APPENDIX w_EXHIBIT h0 n0 (some (.int (1 : Int32))) T3.heap _
        rw [e3]
        exact ⟨by unfold own_att; rw [if_neg ha4, if_neg ha11, if_pos ha18], N0, rfl⟩
      · refine own_go (B := T3.setTop (mkF m 22 #[.val (.ref a1)] [(.ref a1)])) (fun t k => ?_) ?_
        · show Steps p.tables e below (T3.setTop (mkF m 18 #[.val (.ref a1)] [(.ref w_APPENDIX), (.ref a1)])) _
          refine Jvm.RoadKit.acmp (g := (mkF m 18 #[.val (.ref a1)] [(.ref w_APPENDIX), (.ref a1)])) X3 hx rfl rfl rfl (pc0 := 18) (pc' := 21) (same := false) rfl (hb hby d2_18) rfl (decide_eq_false fun q => ha18 (Value.ref.inj q)) (by decide) (by decide) ?_
          show Steps p.tables e below (T3.setTop (mkF m 21 #[.val (.ref a1)] [])) _
          refine XS.aloadN X3.here hx rfl (hb hby d2_21) rfl rfl ?_
          show Steps p.tables e below (T3.setTop (mkF m 22 #[.val (.ref a1)] [(.ref a1)])) _
          exact k
        obtain ⟨T4, X4, e4, st4⟩ := getS2 X3 hx hZ hown (host := "") (Or.inl (hw _ (List.mem_of_getElem? (i := 19) rfl))) Via.refl e3 S_EXHIBIT (g := (mkF m 22 #[.val (.ref a1)] [(.ref a1)])) rfl (hb hby d2_22)
        refine own_go (B := T4.setTop (mkF m 25 #[.val (.ref a1)] [(.ref w_EXHIBIT), (.ref a1)])) st4 ?_
        by_cases ha25 : a1 = w_EXHIBIT
        · refine own_go (B := T4.setTop (mkF m 33 #[.val (.ref a1)] [(.int (1 : Int32))])) (fun t k => ?_) ?_
          · show Steps p.tables e below (T4.setTop (mkF m 25 #[.val (.ref a1)] [(.ref w_EXHIBIT), (.ref a1)])) _
            refine Jvm.RoadKit.acmp (g := (mkF m 25 #[.val (.ref a1)] [(.ref w_EXHIBIT), (.ref a1)])) X4 hx rfl rfl rfl (pc0 := 25) (pc' := 28) (same := true) rfl (hb hby d2_25) rfl (decide_eq_true (congrArg Value.ref ha25)) (by decide) (by decide) ?_
            show Steps p.tables e below (T4.setTop (mkF m 28 #[.val (.ref a1)] [])) _
            refine XS.iconst X4.here hx rfl (hb hby d2_28) ?_
            show Steps p.tables e below (T4.setTop (mkF m 29 #[.val (.ref a1)] [(.int (1 : Int32))])) _
            refine XS.goto X4.here hx rfl (pc0 := 29) (pc' := 33) rfl (hb hby d2_29) (by decide) (by decide) ?_
            show Steps p.tables e below (T4.setTop (mkF m 33 #[.val (.ref a1)] [(.int (1 : Int32))])) _
            exact k
          obtain ⟨fs, hr, hrun, hended, hW, hsame⟩ := X4.leave (v := some (.int (1 : Int32))) (fun h => by rw [Bd.returns] at h; cases h)
          refine own_done (retN X4 hx (t := .boolean) Bd.returns (by simp) (hb hby d2_33) hr) hrun hended ⟨_, _, rfl, ?_, ⟨_, rfl⟩, hW, hsame.mono (by decide) (by decide)⟩
          show Q_rm2 Z a1 w_SCHEDULE w_ANNEX w_APPENDIX w_EXHIBIT h0 n0 (some (.int (1 : Int32))) T4.heap _
          rw [e4]
          exact ⟨by unfold own_att; rw [if_neg ha4, if_neg ha11, if_neg ha18, if_pos ha25], N0, rfl⟩
        · refine own_go (B := T4.setTop (mkF m 33 #[.val (.ref a1)] [(.int (0 : Int32))])) (fun t k => ?_) ?_
          · show Steps p.tables e below (T4.setTop (mkF m 25 #[.val (.ref a1)] [(.ref w_EXHIBIT), (.ref a1)])) _
            refine Jvm.RoadKit.acmp (g := (mkF m 25 #[.val (.ref a1)] [(.ref w_EXHIBIT), (.ref a1)])) X4 hx rfl rfl rfl (pc0 := 25) (pc' := 32) (same := false) rfl (hb hby d2_25) rfl (decide_eq_false fun q => ha25 (Value.ref.inj q)) (by decide) (by decide) ?_
            show Steps p.tables e below (T4.setTop (mkF m 32 #[.val (.ref a1)] [])) _
            refine XS.iconst X4.here hx rfl (hb hby d2_32) ?_
            show Steps p.tables e below (T4.setTop (mkF m 33 #[.val (.ref a1)] [(.int (0 : Int32))])) _
            exact k
          obtain ⟨fs, hr, hrun, hended, hW, hsame⟩ := X4.leave (v := some (.int (0 : Int32))) (fun h => by rw [Bd.returns] at h; cases h)
          refine own_done (retN X4 hx (t := .boolean) Bd.returns (by simp) (hb hby d2_33) hr) hrun hended ⟨_, _, rfl, ?_, ⟨_, rfl⟩, hW, hsame.mono (by decide) (by decide)⟩
          show Q_rm2 Z a1 w_SCHEDULE w_ANNEX w_APPENDIX w_EXHIBIT h0 n0 (some (.int (0 : Int32))) T4.heap _
          rw [e4]
          exact ⟨by unfold own_att; rw [if_neg ha4, if_neg ha11, if_neg ha18, if_neg ha25], N0, rfl⟩
def Q_rm0 (Z : State) (p1 : Int32) (h0 : Heap) (n0 : Nat) (v : Option Value) (h : Heap) (L : List Loc) : Prop := v = some (.int (1 : Int32)) ∧ Fr n0 L
theorem ef_0 (m : MethodId) (x0 : Int32) : entryFrame m #[(.int x0)] maxLocals = mkF m 0 #[.val (.int x0), .unset, .unset, .unset] [] := by first | (simp [entryFrame, mkF, argsToLocals, Value.category, maxLocals]; done) | rfl
set_option maxRecDepth 65536 in
set_option maxHeartbeats 40000000 in
theorem rm0 (l : Launch) (Z : State) (a0 : Array Value) (hw : ∀ d ∈ tables_1, d.before a0 Z = true) (ws : List Jvm.Cond) (p1 : Int32) (w_FRONT w_CONTENTS w_BODY w_SCHEDULE w_ANNEX w_APPENDIX w_EXHIBIT : Addr) (h0 : Heap) (n0 : Nat) (Z0 : n0 ≤ h0.size) (S_FRONT : Sta Z h0 "com/example/clausewright/clausewright/document/Part$Kind" "FRONT" "Lcom/example/clausewright/clausewright/document/Part$Kind;" (.ref w_FRONT)) (S_CONTENTS : Sta Z h0 "com/example/clausewright/clausewright/document/Part$Kind" "CONTENTS" "Lcom/example/clausewright/clausewright/document/Part$Kind;" (.ref w_CONTENTS)) (S_BODY : Sta Z h0 "com/example/clausewright/clausewright/document/Part$Kind" "BODY" "Lcom/example/clausewright/clausewright/document/Part$Kind;" (.ref w_BODY)) (S_SCHEDULE : Sta Z h0 "com/example/clausewright/clausewright/document/Part$Kind" "SCHEDULE" "Lcom/example/clausewright/clausewright/document/Part$Kind;" (.ref w_SCHEDULE)) (S_ANNEX : Sta Z h0 "com/example/clausewright/clausewright/document/Part$Kind" "ANNEX" "Lcom/example/clausewright/clausewright/document/Part$Kind;" (.ref w_ANNEX)) (S_APPENDIX : Sta Z h0 "com/example/clausewright/clausewright/document/Part$Kind" "APPENDIX" "Lcom/example/clausewright/clausewright/document/Part$Kind;" (.ref w_APPENDIX)) (S_EXHIBIT : Sta Z h0 "com/example/clausewright/clausewright/document/Part$Kind" "EXHIBIT" "Lcom/example/clausewright/clausewright/document/Part$Kind;" (.ref w_EXHIBIT)) (E_FRONT : Exa Z h0 w_FRONT "com/example/clausewright/clausewright/document/Part$Kind") (E_CONTENTS : Exa Z h0 w_CONTENTS "com/example/clausewright/clausewright/document/Part$Kind") (E_BODY : Exa Z h0 w_BODY "com/example/clausewright/clausewright/document/Part$Kind") (E_SCHEDULE : Exa Z h0 w_SCHEDULE "com/example/clausewright/clausewright/document/Part$Kind") (E_ANNEX : Exa Z h0 w_ANNEX "com/example/clausewright/clausewright/document/Part$Kind") (E_APPENDIX : Exa Z h0 w_APPENDIX "com/example/clausewright/clausewright/document/Part$Kind") (E_EXHIBIT : Exa Z h0 w_EXHIBIT "com/example/clausewright/clausewright/document/Part$Kind") (hpl : ∀ k : Int32, (p1 &&& (2147483647 : Int32)) % (7 : Int32) = k → own_att (own_pick k w_FRONT w_CONTENTS w_BODY w_SCHEDULE w_ANNEX w_APPENDIX w_EXHIBIT) w_SCHEDULE w_ANNEX w_APPENDIX w_EXHIBIT = if k < 3 then 0 else 1) :
    MetFree l x (head1 (Jvm.Cond.code x code maxLocals ret :: ws) room_1) (fun a U => a = #[(.int p1)] ∧ Z.Warmed39 U.vm ∧ U.heap = h0) (fun _ _ _ _ _ => True) (fun _ U o U' => ∃ v L, o = .returned v ∧ Q_rm0 Z p1 h0 n0 v U'.heap L ∧ FrameEnd U o U' L room_1.cells room_1.slots) := by
  refine MetFree.of_bodySF (plainFor_of_name pn_0) hisR ?_
  intro p e s m args below meth c s₁ Bd hml0 hP hK
  obtain ⟨rfl, hZ, hh⟩ := hP
  have hx := Bd.exec
  have hby := Bd.bytes
  have hml : c.maxLocals = 4 := hml0
  have hown : s.vm.findClass "com/example/clausewright/clausewright/document/KindIsAttachmentPinLaw" = some m.cls := findClass_of_methodNamed Bd.named
  have hnm := (name_of_methodNamed Bd.named Bd.method).1
  have X0 : Stand p l e room_1 s m #[(.int p1)] below meth c s₁ [] 0 0 := Stand.of_body Bd
  have e0 : s₁.heap = h0 := by rw [← hh, Bd.state]; rfl
  have N0 := Fr.nil n0
  have K : Keep h0 h0 [] := Keep.refl h0 []
  show own_Gd p.tables e below (own_P (Q_rm0 Z p1 h0 n0) s room_1.cells room_1.slots) _
  refine own_go (B := s₁.setTop (mkF m 0 #[.val (.int p1), .unset, .unset, .unset] [])) (fun t k => castTop (ef_0 m p1) k) ?_
  refine own_go (B := s₁.setTop (mkF m 9 #[.val (.int p1), .val (.int ((p1 &&& (2147483647 : Int32)) % (7 : Int32))), .unset, .unset] [(.int ((p1 &&& (2147483647 : Int32)) % (7 : Int32)))])) (fun t k => ?_) ?_
  · show Steps p.tables e below (s₁.setTop (mkF m 0 #[.val (.int p1), .unset, .unset, .unset] [])) _
    refine XS.iloadN X0.here hx rfl (hb hby at_0) rfl ?_
    show Steps p.tables e below (s₁.setTop (mkF m 1 #[.val (.int p1), .unset, .unset, .unset] [(.int p1)])) _
    refine X0.ldcI hx hown (mvT hZ (hw _ (List.mem_of_getElem? (i := 0) rfl))) (g := (mkF m 1 #[.val (.int p1), .unset, .unset, .unset] [(.int p1)])) rfl (hb hby at_1) ?_
    show Steps p.tables e below (s₁.setTop (mkF m 3 #[.val (.int p1), .unset, .unset, .unset] [(.int (2147483647 : Int32)), (.int p1)])) _
    refine XS.iand X0.here hx rfl (hb hby at_3) rfl ?_
    show Steps p.tables e below (s₁.setTop (mkF m 4 #[.val (.int p1), .unset, .unset, .unset] [(.int (p1 &&& (2147483647 : Int32)))])) _
    refine XS.bipush X0.here hx rfl (hb hby at_4) ?_
    show Steps p.tables e below (s₁.setTop (mkF m 6 #[.val (.int p1), .unset, .unset, .unset] [(.int (7 : Int32)), (.int (p1 &&& (2147483647 : Int32)))])) _
    refine iremM (g := (mkF m 6 #[.val (.int p1), .unset, .unset, .unset] [(.int (7 : Int32)), (.int (p1 &&& (2147483647 : Int32)))])) X0 hx rfl (hb hby at_6) rfl (by decide) ?_
    show Steps p.tables e below (s₁.setTop (mkF m 7 #[.val (.int p1), .unset, .unset, .unset] [(.int ((p1 &&& (2147483647 : Int32)) % (7 : Int32)))])) _
    refine XS.istoreN X0.here hx rfl (hb hby at_7) rfl (l' := #[.val (.int p1), .val (.int ((p1 &&& (2147483647 : Int32)) % (7 : Int32))), .unset, .unset]) rfl ?_
    show Steps p.tables e below (s₁.setTop (mkF m 8 #[.val (.int p1), .val (.int ((p1 &&& (2147483647 : Int32)) % (7 : Int32))), .unset, .unset] [])) _
    refine XS.iloadN X0.here hx rfl (hb hby at_8) rfl ?_
    show Steps p.tables e below (s₁.setTop (mkF m 9 #[.val (.int p1), .val (.int ((p1 &&& (2147483647 : Int32)) % (7 : Int32))), .unset, .unset] [(.int ((p1 &&& (2147483647 : Int32)) % (7 : Int32)))])) _
    exact k
  obtain ⟨_, _, ⟨T1, L1, k1, n1⟩, -, X1, ⟨Lc1, hQ1, l1, y1, z1⟩, st1⟩ := Jvm.LawKit.callS X0 hx (y := (⟨"com/example/clausewright/clausewright/document/KindIsAttachmentPinLaw", "pick", "(I)Lcom/example/clausewright/clausewright/document/Part$Kind;"⟩ : MethodName)) hown (mvT hZ (hw _ (List.mem_of_getElem? (i := 1) rfl))) (mvT hZ (hw _ (List.mem_of_getElem? (i := 2) rfl))) (mvT hZ (hw _ (List.mem_of_getElem? (i := 3) rfl))) (mvT hZ (hw _ (List.mem_of_getElem? (i := 4) rfl))) (by decide) (backOf (W := 0) (rm1 l Z a0 hw [] ((p1 &&& (2147483647 : Int32)) % (7 : Int32)) w_FRONT w_CONTENTS w_BODY w_SCHEDULE w_ANNEX w_APPENDIX w_EXHIBIT h0 n0 Z0 S_FRONT S_CONTENTS S_BODY S_SCHEDULE S_ANNEX S_APPENDIX S_EXHIBIT) hZ (hw _ (List.mem_of_getElem? (i := 4) rfl)) (hw _ (List.mem_of_getElem? (i := 3) rfl)) (by decide) (by decide)) (g := (mkF m 9 #[.val (.int p1), .val (.int ((p1 &&& (2147483647 : Int32)) % (7 : Int32))), .unset, .unset] [(.int ((p1 &&& (2147483647 : Int32)) % (7 : Int32)))])) rfl (by rw [hml]; rfl) (argsL := [(.int ((p1 &&& (2147483647 : Int32)) % (7 : Int32)))]) (rest := []) (lenOf pd_0 rfl) rfl (by show 2 * 0 + _ ≤ _; exact Nat.le_of_eq rfl) (hb hby at_9) (fun _ _ => ⟨rfl, e0, Nat.le_of_ble_eq_true rfl, Nat.le_of_ble_eq_true rfl⟩)
  dsimp only [Pt.U, Pt.locs, Pt.cells, Pt.slots] at X1 l1 y1 z1 st1 hQ1
  subst l1 y1 z1
  obtain ⟨h1, e1⟩ : ∃ z, T1.heap = z := ⟨_, rfl⟩
  rw [e1] at hQ1
  obtain ⟨rfl, N1q, eq1⟩ := hQ1
  have N1 := Fr.app N0 N1q
  rw [eq1] at e1
  refine own_go (B := T1.setTop (mkF m 12 #[.val (.int p1), .val (.int ((p1 &&& (2147483647 : Int32)) % (7 : Int32))), .unset, .unset] [(.ref (own_pick ((p1 &&& (2147483647 : Int32)) % (7 : Int32)) w_FRONT w_CONTENTS w_BODY w_SCHEDULE w_ANNEX w_APPENDIX w_EXHIBIT))])) st1 ?_
  refine own_go (B := T1.setTop (mkF m 15 #[.val (.int p1), .val (.int ((p1 &&& (2147483647 : Int32)) % (7 : Int32))), .val (.ref (own_pick ((p1 &&& (2147483647 : Int32)) % (7 : Int32)) w_FRONT w_CONTENTS w_BODY w_SCHEDULE w_ANNEX w_APPENDIX w_EXHIBIT)), .unset] [(.int (3 : Int32)), (.int ((p1 &&& (2147483647 : Int32)) % (7 : Int32)))])) (fun t k => ?_) ?_
  · show Steps p.tables e below (T1.setTop (mkF m 12 #[.val (.int p1), .val (.int ((p1 &&& (2147483647 : Int32)) % (7 : Int32))), .unset, .unset] [(.ref (own_pick ((p1 &&& (2147483647 : Int32)) % (7 : Int32)) w_FRONT w_CONTENTS w_BODY w_SCHEDULE w_ANNEX w_APPENDIX w_EXHIBIT))])) _
    refine XS.astoreN X1.here hx rfl (hb hby at_12) rfl rfl (l' := #[.val (.int p1), .val (.int ((p1 &&& (2147483647 : Int32)) % (7 : Int32))), .val (.ref (own_pick ((p1 &&& (2147483647 : Int32)) % (7 : Int32)) w_FRONT w_CONTENTS w_BODY w_SCHEDULE w_ANNEX w_APPENDIX w_EXHIBIT)), .unset]) rfl ?_
    show Steps p.tables e below (T1.setTop (mkF m 13 #[.val (.int p1), .val (.int ((p1 &&& (2147483647 : Int32)) % (7 : Int32))), .val (.ref (own_pick ((p1 &&& (2147483647 : Int32)) % (7 : Int32)) w_FRONT w_CONTENTS w_BODY w_SCHEDULE w_ANNEX w_APPENDIX w_EXHIBIT)), .unset] [])) _
    refine XS.iloadN X1.here hx rfl (hb hby at_13) rfl ?_
    show Steps p.tables e below (T1.setTop (mkF m 14 #[.val (.int p1), .val (.int ((p1 &&& (2147483647 : Int32)) % (7 : Int32))), .val (.ref (own_pick ((p1 &&& (2147483647 : Int32)) % (7 : Int32)) w_FRONT w_CONTENTS w_BODY w_SCHEDULE w_ANNEX w_APPENDIX w_EXHIBIT)), .unset] [(.int ((p1 &&& (2147483647 : Int32)) % (7 : Int32)))])) _
    refine XS.iconst X1.here hx rfl (hb hby at_14) ?_
    show Steps p.tables e below (T1.setTop (mkF m 15 #[.val (.int p1), .val (.int ((p1 &&& (2147483647 : Int32)) % (7 : Int32))), .val (.ref (own_pick ((p1 &&& (2147483647 : Int32)) % (7 : Int32)) w_FRONT w_CONTENTS w_BODY w_SCHEDULE w_ANNEX w_APPENDIX w_EXHIBIT)), .unset] [(.int (3 : Int32)), (.int ((p1 &&& (2147483647 : Int32)) % (7 : Int32)))])) _
    exact k
  by_cases hc15 : ((p1 &&& (2147483647 : Int32)) % (7 : Int32)) < (3 : Int32)
  · refine own_go (B := T1.setTop (mkF m 25 #[.val (.int p1), .val (.int ((p1 &&& (2147483647 : Int32)) % (7 : Int32))), .val (.ref (own_pick ((p1 &&& (2147483647 : Int32)) % (7 : Int32)) w_FRONT w_CONTENTS w_BODY w_SCHEDULE w_ANNEX w_APPENDIX w_EXHIBIT)), .val (.int (0 : Int32))] [(.ref (own_pick ((p1 &&& (2147483647 : Int32)) % (7 : Int32)) w_FRONT w_CONTENTS w_BODY w_SCHEDULE w_ANNEX w_APPENDIX w_EXHIBIT))])) (fun t k => ?_) ?_
    · show Steps p.tables e below (T1.setTop (mkF m 15 #[.val (.int p1), .val (.int ((p1 &&& (2147483647 : Int32)) % (7 : Int32))), .val (.ref (own_pick ((p1 &&& (2147483647 : Int32)) % (7 : Int32)) w_FRONT w_CONTENTS w_BODY w_SCHEDULE w_ANNEX w_APPENDIX w_EXHIBIT)), .unset] [(.int (3 : Int32)), (.int ((p1 &&& (2147483647 : Int32)) % (7 : Int32)))])) _
      refine XS.icmpYes X1.here hx rfl (pc0 := 15) (pc' := 22) rfl (hb hby at_15) rfl (tlt hc15).1 (by decide) (by decide) ?_
      show Steps p.tables e below (T1.setTop (mkF m 22 #[.val (.int p1), .val (.int ((p1 &&& (2147483647 : Int32)) % (7 : Int32))), .val (.ref (own_pick ((p1 &&& (2147483647 : Int32)) % (7 : Int32)) w_FRONT w_CONTENTS w_BODY w_SCHEDULE w_ANNEX w_APPENDIX w_EXHIBIT)), .unset] [])) _
      refine XS.iconst X1.here hx rfl (hb hby at_22) ?_
      show Steps p.tables e below (T1.setTop (mkF m 23 #[.val (.int p1), .val (.int ((p1 &&& (2147483647 : Int32)) % (7 : Int32))), .val (.ref (own_pick ((p1 &&& (2147483647 : Int32)) % (7 : Int32)) w_FRONT w_CONTENTS w_BODY w_SCHEDULE w_ANNEX w_APPENDIX w_EXHIBIT)), .unset] [(.int (0 : Int32))])) _
      refine XS.istoreN X1.here hx rfl (hb hby at_23) rfl (l' := #[.val (.int p1), .val (.int ((p1 &&& (2147483647 : Int32)) % (7 : Int32))), .val (.ref (own_pick ((p1 &&& (2147483647 : Int32)) % (7 : Int32)) w_FRONT w_CONTENTS w_BODY w_SCHEDULE w_ANNEX w_APPENDIX w_EXHIBIT)), .val (.int (0 : Int32))]) rfl ?_
      show Steps p.tables e below (T1.setTop (mkF m 24 #[.val (.int p1), .val (.int ((p1 &&& (2147483647 : Int32)) % (7 : Int32))), .val (.ref (own_pick ((p1 &&& (2147483647 : Int32)) % (7 : Int32)) w_FRONT w_CONTENTS w_BODY w_SCHEDULE w_ANNEX w_APPENDIX w_EXHIBIT)), .val (.int (0 : Int32))] [])) _
      refine XS.aloadN X1.here hx rfl (hb hby at_24) rfl rfl ?_
      show Steps p.tables e below (T1.setTop (mkF m 25 #[.val (.int p1), .val (.int ((p1 &&& (2147483647 : Int32)) % (7 : Int32))), .val (.ref (own_pick ((p1 &&& (2147483647 : Int32)) % (7 : Int32)) w_FRONT w_CONTENTS w_BODY w_SCHEDULE w_ANNEX w_APPENDIX w_EXHIBIT)), .val (.int (0 : Int32))] [(.ref (own_pick ((p1 &&& (2147483647 : Int32)) % (7 : Int32)) w_FRONT w_CONTENTS w_BODY w_SCHEDULE w_ANNEX w_APPENDIX w_EXHIBIT))])) _
      exact k
    have E_pk := own_pick_exa ((p1 &&& (2147483647 : Int32)) % (7 : Int32)) E_FRONT E_CONTENTS E_BODY E_SCHEDULE E_ANNEX E_APPENDIX E_EXHIBIT
    obtain ⟨cq2, kq2, q2a, q2b, q2c⟩ := isOf hZ e1 E_pk
    obtain ⟨_, _, ⟨T3, L3, k3, n3⟩, -, X3, ⟨Lc3, hQ3, l3, y3, z3⟩, st3⟩ := X1.virtualBack hx (y := (⟨"com/example/clausewright/clausewright/document/Part$Kind", "isAttachment", "()Z"⟩ : MethodName)) (z := (⟨"com/example/clausewright/clausewright/document/Part$Kind", "isAttachment", "()Z"⟩ : MethodName)) hown (mvT hZ (hw _ (List.mem_of_getElem? (i := 8) rfl))) (mvT hZ (hw _ (List.mem_of_getElem? (i := 9) rfl))) (notFace_of_selects (args := #[]) (mvT hZ (hw _ (List.mem_of_getElem? (i := 11) rfl)))) (mvT hZ (hw _ (List.mem_of_getElem? (i := 11) rfl))) (mvT hZ (hw _ (List.mem_of_getElem? (i := 10) rfl))) (by decide) (backOf (W := 0) (rm2 l Z a0 hw [] (own_pick ((p1 &&& (2147483647 : Int32)) % (7 : Int32)) w_FRONT w_CONTENTS w_BODY w_SCHEDULE w_ANNEX w_APPENDIX w_EXHIBIT) w_SCHEDULE w_ANNEX w_APPENDIX w_EXHIBIT h0 n0 Z0 S_SCHEDULE S_ANNEX S_APPENDIX S_EXHIBIT) hZ (hw _ (List.mem_of_getElem? (i := 12) rfl)) (hw _ (List.mem_of_getElem? (i := 6) rfl)) (by decide) (by decide)) q2a q2c (g := (mkF m 25 #[.val (.int p1), .val (.int ((p1 &&& (2147483647 : Int32)) % (7 : Int32))), .val (.ref (own_pick ((p1 &&& (2147483647 : Int32)) % (7 : Int32)) w_FRONT w_CONTENTS w_BODY w_SCHEDULE w_ANNEX w_APPENDIX w_EXHIBIT)), .val (.int (0 : Int32))] [(.ref (own_pick ((p1 &&& (2147483647 : Int32)) % (7 : Int32)) w_FRONT w_CONTENTS w_BODY w_SCHEDULE w_ANNEX w_APPENDIX w_EXHIBIT))])) rfl (by rw [hml]; rfl) (Steps.refl _) (argsL := []) (rest := []) (lenOf pd_1 rfl) rfl (by show 2 * 0 + _ ≤ _; exact Nat.le_of_eq rfl) (hb hby at_25) (fun _ _ => ⟨rfl, e1, Nat.le_of_ble_eq_true rfl, Nat.le_of_ble_eq_true rfl⟩)
    dsimp only [Pt.U, Pt.locs, Pt.cells, Pt.slots] at X3 l3 y3 z3 st3 hQ3
    subst l3 y3 z3
    obtain ⟨h3, e3⟩ : ∃ z, T3.heap = z := ⟨_, rfl⟩
    rw [e3] at hQ3
    obtain ⟨rfl, N3q, eq3⟩ := hQ3
    have N3 := Fr.app N1 N3q
    rw [eq3] at e3
    refine own_go (B := T3.setTop (mkF m 28 #[.val (.int p1), .val (.int ((p1 &&& (2147483647 : Int32)) % (7 : Int32))), .val (.ref (own_pick ((p1 &&& (2147483647 : Int32)) % (7 : Int32)) w_FRONT w_CONTENTS w_BODY w_SCHEDULE w_ANNEX w_APPENDIX w_EXHIBIT)), .val (.int (0 : Int32))] [(.int (own_att (own_pick ((p1 &&& (2147483647 : Int32)) % (7 : Int32)) w_FRONT w_CONTENTS w_BODY w_SCHEDULE w_ANNEX w_APPENDIX w_EXHIBIT) w_SCHEDULE w_ANNEX w_APPENDIX w_EXHIBIT))])) (fun t k => st3.trans k) ?_
    refine own_go (B := T3.setTop (mkF m 37 #[.val (.int p1), .val (.int ((p1 &&& (2147483647 : Int32)) % (7 : Int32))), .val (.ref (own_pick ((p1 &&& (2147483647 : Int32)) % (7 : Int32)) w_FRONT w_CONTENTS w_BODY w_SCHEDULE w_ANNEX w_APPENDIX w_EXHIBIT)), .val (.int (0 : Int32))] [(.int (1 : Int32))])) (fun t k => ?_) ?_
    · show Steps p.tables e below (T3.setTop (mkF m 28 #[.val (.int p1), .val (.int ((p1 &&& (2147483647 : Int32)) % (7 : Int32))), .val (.ref (own_pick ((p1 &&& (2147483647 : Int32)) % (7 : Int32)) w_FRONT w_CONTENTS w_BODY w_SCHEDULE w_ANNEX w_APPENDIX w_EXHIBIT)), .val (.int (0 : Int32))] [(.int (own_att (own_pick ((p1 &&& (2147483647 : Int32)) % (7 : Int32)) w_FRONT w_CONTENTS w_BODY w_SCHEDULE w_ANNEX w_APPENDIX w_EXHIBIT) w_SCHEDULE w_ANNEX w_APPENDIX w_EXHIBIT))])) _
      refine XS.iloadN X3.here hx rfl (hb hby at_28) rfl ?_
      show Steps p.tables e below (T3.setTop (mkF m 29 #[.val (.int p1), .val (.int ((p1 &&& (2147483647 : Int32)) % (7 : Int32))), .val (.ref (own_pick ((p1 &&& (2147483647 : Int32)) % (7 : Int32)) w_FRONT w_CONTENTS w_BODY w_SCHEDULE w_ANNEX w_APPENDIX w_EXHIBIT)), .val (.int (0 : Int32))] [(.int (0 : Int32)), (.int (own_att (own_pick ((p1 &&& (2147483647 : Int32)) % (7 : Int32)) w_FRONT w_CONTENTS w_BODY w_SCHEDULE w_ANNEX w_APPENDIX w_EXHIBIT) w_SCHEDULE w_ANNEX w_APPENDIX w_EXHIBIT))])) _
      refine XS.icmpNo X3.here hx rfl (hb hby at_29) rfl (teq (by rw [hpl _ rfl]; simp [hc15] : (own_att (own_pick ((p1 &&& (2147483647 : Int32)) % (7 : Int32)) w_FRONT w_CONTENTS w_BODY w_SCHEDULE w_ANNEX w_APPENDIX w_EXHIBIT) w_SCHEDULE w_ANNEX w_APPENDIX w_EXHIBIT) = (0 : Int32))).2 ?_
      show Steps p.tables e below (T3.setTop (mkF m 32 #[.val (.int p1), .val (.int ((p1 &&& (2147483647 : Int32)) % (7 : Int32))), .val (.ref (own_pick ((p1 &&& (2147483647 : Int32)) % (7 : Int32)) w_FRONT w_CONTENTS w_BODY w_SCHEDULE w_ANNEX w_APPENDIX w_EXHIBIT)), .val (.int (0 : Int32))] [])) _
      refine XS.iconst X3.here hx rfl (hb hby at_32) ?_
      show Steps p.tables e below (T3.setTop (mkF m 33 #[.val (.int p1), .val (.int ((p1 &&& (2147483647 : Int32)) % (7 : Int32))), .val (.ref (own_pick ((p1 &&& (2147483647 : Int32)) % (7 : Int32)) w_FRONT w_CONTENTS w_BODY w_SCHEDULE w_ANNEX w_APPENDIX w_EXHIBIT)), .val (.int (0 : Int32))] [(.int (1 : Int32))])) _
      refine XS.goto X3.here hx rfl (pc0 := 33) (pc' := 37) rfl (hb hby at_33) (by decide) (by decide) ?_
      show Steps p.tables e below (T3.setTop (mkF m 37 #[.val (.int p1), .val (.int ((p1 &&& (2147483647 : Int32)) % (7 : Int32))), .val (.ref (own_pick ((p1 &&& (2147483647 : Int32)) % (7 : Int32)) w_FRONT w_CONTENTS w_BODY w_SCHEDULE w_ANNEX w_APPENDIX w_EXHIBIT)), .val (.int (0 : Int32))] [(.int (1 : Int32))])) _
      exact k
    obtain ⟨fs, hr, hrun, hended, hW, hsame⟩ := X3.leave (v := some (.int (1 : Int32))) (fun h => by rw [Bd.returns] at h; cases h)
    refine own_done (retN X3 hx (t := .boolean) Bd.returns (by simp) (hb hby at_37) hr) hrun hended ⟨_, _, rfl, ?_, ⟨_, rfl⟩, hW, hsame.mono (by decide) (by decide)⟩
    show Q_rm0 Z p1 h0 n0 (some (.int (1 : Int32))) T3.heap _
    rw [e3]
    exact ⟨rfl, N3⟩
  · refine own_go (B := T1.setTop (mkF m 25 #[.val (.int p1), .val (.int ((p1 &&& (2147483647 : Int32)) % (7 : Int32))), .val (.ref (own_pick ((p1 &&& (2147483647 : Int32)) % (7 : Int32)) w_FRONT w_CONTENTS w_BODY w_SCHEDULE w_ANNEX w_APPENDIX w_EXHIBIT)), .val (.int (1 : Int32))] [(.ref (own_pick ((p1 &&& (2147483647 : Int32)) % (7 : Int32)) w_FRONT w_CONTENTS w_BODY w_SCHEDULE w_ANNEX w_APPENDIX w_EXHIBIT))])) (fun t k => ?_) ?_
    · show Steps p.tables e below (T1.setTop (mkF m 15 #[.val (.int p1), .val (.int ((p1 &&& (2147483647 : Int32)) % (7 : Int32))), .val (.ref (own_pick ((p1 &&& (2147483647 : Int32)) % (7 : Int32)) w_FRONT w_CONTENTS w_BODY w_SCHEDULE w_ANNEX w_APPENDIX w_EXHIBIT)), .unset] [(.int (3 : Int32)), (.int ((p1 &&& (2147483647 : Int32)) % (7 : Int32)))])) _
      refine XS.icmpNo X1.here hx rfl (hb hby at_15) rfl (flt hc15).1 ?_
      show Steps p.tables e below (T1.setTop (mkF m 18 #[.val (.int p1), .val (.int ((p1 &&& (2147483647 : Int32)) % (7 : Int32))), .val (.ref (own_pick ((p1 &&& (2147483647 : Int32)) % (7 : Int32)) w_FRONT w_CONTENTS w_BODY w_SCHEDULE w_ANNEX w_APPENDIX w_EXHIBIT)), .unset] [])) _
      refine XS.iconst X1.here hx rfl (hb hby at_18) ?_
      show Steps p.tables e below (T1.setTop (mkF m 19 #[.val (.int p1), .val (.int ((p1 &&& (2147483647 : Int32)) % (7 : Int32))), .val (.ref (own_pick ((p1 &&& (2147483647 : Int32)) % (7 : Int32)) w_FRONT w_CONTENTS w_BODY w_SCHEDULE w_ANNEX w_APPENDIX w_EXHIBIT)), .unset] [(.int (1 : Int32))])) _
      refine XS.goto X1.here hx rfl (pc0 := 19) (pc' := 23) rfl (hb hby at_19) (by decide) (by decide) ?_
      show Steps p.tables e below (T1.setTop (mkF m 23 #[.val (.int p1), .val (.int ((p1 &&& (2147483647 : Int32)) % (7 : Int32))), .val (.ref (own_pick ((p1 &&& (2147483647 : Int32)) % (7 : Int32)) w_FRONT w_CONTENTS w_BODY w_SCHEDULE w_ANNEX w_APPENDIX w_EXHIBIT)), .unset] [(.int (1 : Int32))])) _
      refine XS.istoreN X1.here hx rfl (hb hby at_23) rfl (l' := #[.val (.int p1), .val (.int ((p1 &&& (2147483647 : Int32)) % (7 : Int32))), .val (.ref (own_pick ((p1 &&& (2147483647 : Int32)) % (7 : Int32)) w_FRONT w_CONTENTS w_BODY w_SCHEDULE w_ANNEX w_APPENDIX w_EXHIBIT)), .val (.int (1 : Int32))]) rfl ?_
      show Steps p.tables e below (T1.setTop (mkF m 24 #[.val (.int p1), .val (.int ((p1 &&& (2147483647 : Int32)) % (7 : Int32))), .val (.ref (own_pick ((p1 &&& (2147483647 : Int32)) % (7 : Int32)) w_FRONT w_CONTENTS w_BODY w_SCHEDULE w_ANNEX w_APPENDIX w_EXHIBIT)), .val (.int (1 : Int32))] [])) _
      refine XS.aloadN X1.here hx rfl (hb hby at_24) rfl rfl ?_
      show Steps p.tables e below (T1.setTop (mkF m 25 #[.val (.int p1), .val (.int ((p1 &&& (2147483647 : Int32)) % (7 : Int32))), .val (.ref (own_pick ((p1 &&& (2147483647 : Int32)) % (7 : Int32)) w_FRONT w_CONTENTS w_BODY w_SCHEDULE w_ANNEX w_APPENDIX w_EXHIBIT)), .val (.int (1 : Int32))] [(.ref (own_pick ((p1 &&& (2147483647 : Int32)) % (7 : Int32)) w_FRONT w_CONTENTS w_BODY w_SCHEDULE w_ANNEX w_APPENDIX w_EXHIBIT))])) _
      exact k
    have E_pk := own_pick_exa ((p1 &&& (2147483647 : Int32)) % (7 : Int32)) E_FRONT E_CONTENTS E_BODY E_SCHEDULE E_ANNEX E_APPENDIX E_EXHIBIT
    obtain ⟨cq4, kq4, q4a, q4b, q4c⟩ := isOf hZ e1 E_pk
    obtain ⟨_, _, ⟨T5, L5, k5, n5⟩, -, X5, ⟨Lc5, hQ5, l5, y5, z5⟩, st5⟩ := X1.virtualBack hx (y := (⟨"com/example/clausewright/clausewright/document/Part$Kind", "isAttachment", "()Z"⟩ : MethodName)) (z := (⟨"com/example/clausewright/clausewright/document/Part$Kind", "isAttachment", "()Z"⟩ : MethodName)) hown (mvT hZ (hw _ (List.mem_of_getElem? (i := 8) rfl))) (mvT hZ (hw _ (List.mem_of_getElem? (i := 9) rfl))) (notFace_of_selects (args := #[]) (mvT hZ (hw _ (List.mem_of_getElem? (i := 11) rfl)))) (mvT hZ (hw _ (List.mem_of_getElem? (i := 11) rfl))) (mvT hZ (hw _ (List.mem_of_getElem? (i := 10) rfl))) (by decide) (backOf (W := 0) (rm2 l Z a0 hw [] (own_pick ((p1 &&& (2147483647 : Int32)) % (7 : Int32)) w_FRONT w_CONTENTS w_BODY w_SCHEDULE w_ANNEX w_APPENDIX w_EXHIBIT) w_SCHEDULE w_ANNEX w_APPENDIX w_EXHIBIT h0 n0 Z0 S_SCHEDULE S_ANNEX S_APPENDIX S_EXHIBIT) hZ (hw _ (List.mem_of_getElem? (i := 12) rfl)) (hw _ (List.mem_of_getElem? (i := 6) rfl)) (by decide) (by decide)) q4a q4c (g := (mkF m 25 #[.val (.int p1), .val (.int ((p1 &&& (2147483647 : Int32)) % (7 : Int32))), .val (.ref (own_pick ((p1 &&& (2147483647 : Int32)) % (7 : Int32)) w_FRONT w_CONTENTS w_BODY w_SCHEDULE w_ANNEX w_APPENDIX w_EXHIBIT)), .val (.int (1 : Int32))] [(.ref (own_pick ((p1 &&& (2147483647 : Int32)) % (7 : Int32)) w_FRONT w_CONTENTS w_BODY w_SCHEDULE w_ANNEX w_APPENDIX w_EXHIBIT))])) rfl (by rw [hml]; rfl) (Steps.refl _) (argsL := []) (rest := []) (lenOf pd_1 rfl) rfl (by show 2 * 0 + _ ≤ _; exact Nat.le_of_eq rfl) (hb hby at_25) (fun _ _ => ⟨rfl, e1, Nat.le_of_ble_eq_true rfl, Nat.le_of_ble_eq_true rfl⟩)
    dsimp only [Pt.U, Pt.locs, Pt.cells, Pt.slots] at X5 l5 y5 z5 st5 hQ5
    subst l5 y5 z5
    obtain ⟨h5, e5⟩ : ∃ z, T5.heap = z := ⟨_, rfl⟩
    rw [e5] at hQ5
    obtain ⟨rfl, N5q, eq5⟩ := hQ5
    have N5 := Fr.app N1 N5q
    rw [eq5] at e5
    refine own_go (B := T5.setTop (mkF m 28 #[.val (.int p1), .val (.int ((p1 &&& (2147483647 : Int32)) % (7 : Int32))), .val (.ref (own_pick ((p1 &&& (2147483647 : Int32)) % (7 : Int32)) w_FRONT w_CONTENTS w_BODY w_SCHEDULE w_ANNEX w_APPENDIX w_EXHIBIT)), .val (.int (1 : Int32))] [(.int (own_att (own_pick ((p1 &&& (2147483647 : Int32)) % (7 : Int32)) w_FRONT w_CONTENTS w_BODY w_SCHEDULE w_ANNEX w_APPENDIX w_EXHIBIT) w_SCHEDULE w_ANNEX w_APPENDIX w_EXHIBIT))])) (fun t k => st5.trans k) ?_
    refine own_go (B := T5.setTop (mkF m 37 #[.val (.int p1), .val (.int ((p1 &&& (2147483647 : Int32)) % (7 : Int32))), .val (.ref (own_pick ((p1 &&& (2147483647 : Int32)) % (7 : Int32)) w_FRONT w_CONTENTS w_BODY w_SCHEDULE w_ANNEX w_APPENDIX w_EXHIBIT)), .val (.int (1 : Int32))] [(.int (1 : Int32))])) (fun t k => ?_) ?_
    · show Steps p.tables e below (T5.setTop (mkF m 28 #[.val (.int p1), .val (.int ((p1 &&& (2147483647 : Int32)) % (7 : Int32))), .val (.ref (own_pick ((p1 &&& (2147483647 : Int32)) % (7 : Int32)) w_FRONT w_CONTENTS w_BODY w_SCHEDULE w_ANNEX w_APPENDIX w_EXHIBIT)), .val (.int (1 : Int32))] [(.int (own_att (own_pick ((p1 &&& (2147483647 : Int32)) % (7 : Int32)) w_FRONT w_CONTENTS w_BODY w_SCHEDULE w_ANNEX w_APPENDIX w_EXHIBIT) w_SCHEDULE w_ANNEX w_APPENDIX w_EXHIBIT))])) _
      refine XS.iloadN X5.here hx rfl (hb hby at_28) rfl ?_
      show Steps p.tables e below (T5.setTop (mkF m 29 #[.val (.int p1), .val (.int ((p1 &&& (2147483647 : Int32)) % (7 : Int32))), .val (.ref (own_pick ((p1 &&& (2147483647 : Int32)) % (7 : Int32)) w_FRONT w_CONTENTS w_BODY w_SCHEDULE w_ANNEX w_APPENDIX w_EXHIBIT)), .val (.int (1 : Int32))] [(.int (1 : Int32)), (.int (own_att (own_pick ((p1 &&& (2147483647 : Int32)) % (7 : Int32)) w_FRONT w_CONTENTS w_BODY w_SCHEDULE w_ANNEX w_APPENDIX w_EXHIBIT) w_SCHEDULE w_ANNEX w_APPENDIX w_EXHIBIT))])) _
      refine XS.icmpNo X5.here hx rfl (hb hby at_29) rfl (teq (by rw [hpl _ rfl]; simp [hc15] : (own_att (own_pick ((p1 &&& (2147483647 : Int32)) % (7 : Int32)) w_FRONT w_CONTENTS w_BODY w_SCHEDULE w_ANNEX w_APPENDIX w_EXHIBIT) w_SCHEDULE w_ANNEX w_APPENDIX w_EXHIBIT) = (1 : Int32))).2 ?_
      show Steps p.tables e below (T5.setTop (mkF m 32 #[.val (.int p1), .val (.int ((p1 &&& (2147483647 : Int32)) % (7 : Int32))), .val (.ref (own_pick ((p1 &&& (2147483647 : Int32)) % (7 : Int32)) w_FRONT w_CONTENTS w_BODY w_SCHEDULE w_ANNEX w_APPENDIX w_EXHIBIT)), .val (.int (1 : Int32))] [])) _
      refine XS.iconst X5.here hx rfl (hb hby at_32) ?_
      show Steps p.tables e below (T5.setTop (mkF m 33 #[.val (.int p1), .val (.int ((p1 &&& (2147483647 : Int32)) % (7 : Int32))), .val (.ref (own_pick ((p1 &&& (2147483647 : Int32)) % (7 : Int32)) w_FRONT w_CONTENTS w_BODY w_SCHEDULE w_ANNEX w_APPENDIX w_EXHIBIT)), .val (.int (1 : Int32))] [(.int (1 : Int32))])) _
      refine XS.goto X5.here hx rfl (pc0 := 33) (pc' := 37) rfl (hb hby at_33) (by decide) (by decide) ?_
      show Steps p.tables e below (T5.setTop (mkF m 37 #[.val (.int p1), .val (.int ((p1 &&& (2147483647 : Int32)) % (7 : Int32))), .val (.ref (own_pick ((p1 &&& (2147483647 : Int32)) % (7 : Int32)) w_FRONT w_CONTENTS w_BODY w_SCHEDULE w_ANNEX w_APPENDIX w_EXHIBIT)), .val (.int (1 : Int32))] [(.int (1 : Int32))])) _
      exact k
    obtain ⟨fs, hr, hrun, hended, hW, hsame⟩ := X5.leave (v := some (.int (1 : Int32))) (fun h => by rw [Bd.returns] at h; cases h)
    refine own_done (retN X5 hx (t := .boolean) Bd.returns (by simp) (hb hby at_37) hr) hrun hended ⟨_, _, rfl, ?_, ⟨_, rfl⟩, hW, hsame.mono (by decide) (by decide)⟩
    show Q_rm0 Z p1 h0 n0 (some (.int (1 : Int32))) T5.heap _
    rw [e5]
    exact ⟨rfl, N5⟩
set_option maxRecDepth 65536 in
set_option maxHeartbeats 40000000 in
theorem comes_1 {Post : Tables → Env → Array Value → State → Outcome → State → Prop} (hpost : ∀ tb e args s v u, (limb_1_1.after args s (.returned v) u = true ∧ limb_1_2.after args s (.returned v) u = true ∧ True) → FrameEnd s (.returned v) u (Jvm.fieldLocs frame_1_writes args s ++ Jvm.arrayLocs frame_1_arrays args s ++ Jvm.staticLocs frame_1_statics s) 0 0 → Post tb e args s (.returned v) u) :
    ArmFor flags0 classFile x code maxLocals ret World_1 tables_1 room_1 Calls_1 rest_1 Pre_1 Post := by
  intro l hfl _ _ p e ha hc hk' s m args below hf hA hF happ hP
  obtain ⟨hcalls, hrest, hpre⟩ := hP
  obtain ⟨-, -, -, hnamed, -, -, -, hat⟩ := (Spec.applies_iff hf).mp happ
  obtain ⟨hg, hn⟩ := and_e (Cond.before_iff.mp (show (Jvm.Cond.and given_1 narrow_1).before args s = true from hpre))
  obtain ⟨gc, hg⟩ := and_e hg
  obtain ⟨w0, rfl⟩ : ∃ w0 : Value, args = #[w0] := by
    have hs : args.size = 1 := by simpa [Cond.value, given_1] using gc
    obtain ⟨L⟩ := args
    match L, hs with
    | [w0], _ => exact ⟨w0, rfl⟩
  have ga0 := hg
  obtain ⟨i0, ei0⟩ := is_v ga0
  obtain rfl : w0 = (.int i0) := Option.some.inj ei0
  have hw := fun d (hd : d ∈ tables_1) => atoms_spec (ws := Jvm.Cond.code x code maxLocals ret :: tables_1) hat d (List.mem_cons_of_mem _ hd)
  have hfit : Fit s := fun {y c} hc i hi => by
    obtain ⟨ha, rfl⟩ := Array.getElem?_eq_some_iff.mp hc
    have q := List.all_eq_true.mp ((Array.all_eq_true_iff_forall_mem.mp hF) _ (Array.getElem_mem ha)) i (List.mem_range.mpr hi)
    simpa [Array.getElem?_eq_getElem hi] using q
  obtain ⟨c0, hn⟩ := and_e hn
  obtain ⟨c1, hn⟩ := and_e hn
  obtain ⟨c2, hn⟩ := and_e hn
  obtain ⟨c3, hn⟩ := and_e hn
  obtain ⟨c4, hn⟩ := and_e hn
  obtain ⟨c5, hn⟩ := and_e hn
  obtain ⟨c6, hn⟩ := and_e hn
  obtain ⟨c7, hn⟩ := and_e hn
  obtain ⟨c8, hn⟩ := and_e hn
  obtain ⟨c9, hn⟩ := and_e hn
  obtain ⟨c10, hn⟩ := and_e hn
  obtain ⟨c11, hn⟩ := and_e hn
  obtain ⟨c12, hn⟩ := and_e hn
  have c13 := hn
  obtain ⟨w_FRONT, ev_FRONT⟩ := exa_v c0
  have E_FRONT := Exa.start ev_FRONT c0
  have S_FRONT := Sta.start ev_FRONT (Or.inr ⟨(hw _ (List.mem_of_getElem? (i := 6) rfl)), (hw _ (List.mem_of_getElem? (i := 7) rfl))⟩)
  obtain ⟨w_SCHEDULE, ev_SCHEDULE⟩ := exa_v c1
  have E_SCHEDULE := Exa.start ev_SCHEDULE c1
  have S_SCHEDULE := Sta.start ev_SCHEDULE (Or.inr ⟨(hw _ (List.mem_of_getElem? (i := 6) rfl)), (hw _ (List.mem_of_getElem? (i := 14) rfl))⟩)
  obtain ⟨w_ANNEX, ev_ANNEX⟩ := exa_v c4
  have E_ANNEX := Exa.start ev_ANNEX c4
  have S_ANNEX := Sta.start ev_ANNEX (Or.inr ⟨(hw _ (List.mem_of_getElem? (i := 6) rfl)), (hw _ (List.mem_of_getElem? (i := 16) rfl))⟩)
  obtain ⟨w_APPENDIX, ev_APPENDIX⟩ := exa_v c6
  have E_APPENDIX := Exa.start ev_APPENDIX c6
  have S_APPENDIX := Sta.start ev_APPENDIX (Or.inr ⟨(hw _ (List.mem_of_getElem? (i := 6) rfl)), (hw _ (List.mem_of_getElem? (i := 18) rfl))⟩)
  obtain ⟨w_EXHIBIT, ev_EXHIBIT⟩ := exa_v c8
  have E_EXHIBIT := Exa.start ev_EXHIBIT c8
  have S_EXHIBIT := Sta.start ev_EXHIBIT (Or.inr ⟨(hw _ (List.mem_of_getElem? (i := 6) rfl)), (hw _ (List.mem_of_getElem? (i := 20) rfl))⟩)
  obtain ⟨w_BODY, ev_BODY⟩ := exa_v c10
  have E_BODY := Exa.start ev_BODY c10
  have S_BODY := Sta.start ev_BODY (Or.inr ⟨(hw _ (List.mem_of_getElem? (i := 6) rfl)), (hw _ (List.mem_of_getElem? (i := 26) rfl))⟩)
  obtain ⟨w_CONTENTS, ev_CONTENTS⟩ := exa_v c12
  have E_CONTENTS := Exa.start ev_CONTENTS c12
  have S_CONTENTS := Sta.start ev_CONTENTS (Or.inr ⟨(hw _ (List.mem_of_getElem? (i := 6) rfl)), (hw _ (List.mem_of_getElem? (i := 28) rfl))⟩)
  have O_FRONT := own_ord ev_FRONT c2
  have O_SCHEDULE := own_ord ev_SCHEDULE c3
  have O_ANNEX := own_ord ev_ANNEX c5
  have O_APPENDIX := own_ord ev_APPENDIX c7
  have O_EXHIBIT := own_ord ev_EXHIBIT c9
  have O_BODY := own_ord ev_BODY c11
  have O_CONTENTS := own_ord ev_CONTENTS c13
  have hk1 := c_mask i0 2147483647 31 (by decide) (by decide)
  have hk2 := (c_irem (i0 &&& 2147483647) 7 7 (by decide)).1 (by omega)
  obtain ⟨n, o, h1, h2, h3, _, L, rfl, ⟨rfl, N⟩, hq⟩ := rm0 l s _ hw tables_1 i0 w_FRONT w_CONTENTS w_BODY w_SCHEDULE w_ANNEX w_APPENDIX w_EXHIBIT s.heap s.heap.size (Nat.le_refl _) S_FRONT S_CONTENTS S_BODY S_SCHEDULE S_ANNEX S_APPENDIX S_EXHIBIT E_FRONT E_CONTENTS E_BODY E_SCHEDULE E_ANNEX E_APPENDIX E_EXHIBIT (fun k hk => by subst hk; exact own_plain _ (by omega) (by omega) (O_FRONT.ne O_SCHEDULE (by decide)) (O_FRONT.ne O_ANNEX (by decide)) (O_FRONT.ne O_APPENDIX (by decide)) (O_FRONT.ne O_EXHIBIT (by decide)) (O_CONTENTS.ne O_SCHEDULE (by decide)) (O_CONTENTS.ne O_ANNEX (by decide)) (O_CONTENTS.ne O_APPENDIX (by decide)) (O_CONTENTS.ne O_EXHIBIT (by decide)) (O_BODY.ne O_SCHEDULE (by decide)) (O_BODY.ne O_ANNEX (by decide)) (O_BODY.ne O_APPENDIX (by decide)) (O_BODY.ne O_EXHIBIT (by decide)) (O_SCHEDULE.ne O_ANNEX (by decide)) (O_SCHEDULE.ne O_APPENDIX (by decide)) (O_SCHEDULE.ne O_EXHIBIT (by decide)) (O_ANNEX.ne O_SCHEDULE (by decide)) (O_ANNEX.ne O_APPENDIX (by decide)) (O_ANNEX.ne O_EXHIBIT (by decide)) (O_APPENDIX.ne O_SCHEDULE (by decide)) (O_APPENDIX.ne O_ANNEX (by decide)) (O_APPENDIX.ne O_EXHIBIT (by decide)) (O_EXHIBIT.ne O_SCHEDULE (by decide)) (O_EXHIBIT.ne O_ANNEX (by decide)) (O_EXHIBIT.ne O_APPENDIX (by decide))) p e ha hc hk' s m _ below hf ((Spec.applies_iff_loose hf).mp happ).1 ⟨rfl, State.Warmed39.refl s, rfl⟩ trivial
  refine ⟨n, _, h1, h2, h3, hpost _ _ _ _ _ _ ⟨Cond.after_iff.mpr rfl, Cond.after_iff.mpr (eq_i res_at (Term.int_eval (1)) rfl), trivial⟩ ⟨hq.1, hq.2.1, (hq.2.2.sift fun y hy => Or.inr (N y hy)).mono (by decide) (by decide)⟩⟩
theorem main_1_1 : Claimed_1_1 := comes_1 fun _ _ _ _ _ _ h hF => ⟨h.1, hF⟩
theorem main_1_2 : Claimed_1_2 := comes_1 fun _ _ _ _ _ _ h hF => ⟨h.2.1, hF⟩
end Jvm.Pilot.@@N@@
namespace Jvm.Pilot.@@N@@
open Jvm Jvm.ClassFile Sem Op Lib Jvm.Free Jvm.Stand Jvm.Pilot.@@N@@.Jvm.D
/-! MADE BY PROGRAM (witnessworld.py) out of the Statement's table words and the real class files: 12 classes; the members and pool entries that the words name. The judged class is class 1, her method 1. -/
namespace start1
open Jvm.ClassFile
def u (s : String) : CpInfo := .utf8 (stringToUtf16 s)
/-- a pool by its gaps: so many unusable entries, then the entry; so many at the end -/
def gap : Nat → List CpInfo → List CpInfo
  | 0, r => r
  | n + 1, r => .unusable :: gap n r
def poolList (es : List (Nat × CpInfo)) (last : Nat) : List CpInfo := es.foldr (fun e r => gap e.1 (e.2 :: r)) (gap last [])
def pool (es : List (Nat × CpInfo)) (last : Nat) : Array CpInfo := ⟨poolList es last⟩
def fileOf (pool : Array CpInfo) (this : Nat) (attrs : Array Attribute := #[]) (ms : Array MethodInfo := #[]) (fl : Nat := 33) (sup : Nat := 0) (ifs : Array Nat := #[]) (fds : Array FieldInfo := #[]) : ClassFile where
  minorVersion := 0
  majorVersion := 65
  constantPool := pool
  accessFlags := fl
  thisClass := this
  superClass := sup
  interfaces := ifs
  fields := fds
  methods := ms
  attributes := attrs
def plain (name : String) (sup : Option ClassId) : Class where
  name := name
  kind := .ordinary
  loader := none
  accessFlags := 33
  super := sup
  interfaces := #[]
  cf := none
  fields := #[]
  methods := #[]
  instanceTypes := #[]
  staticTypes := #[]
  resolved := #[]
  callSites := []
  init := .initialized
  statics := none
  mirror := none

def pool0 : Array CpInfo := pool [(5, u "<init>"), (0, u "()V"), (1, .class_ 10), (1, u "java/lang/Object")] 113

def k0m0 : Method := { name := "<init>", desc := "()V", sig := { parameters := [], returnType := none }, accessFlags := 1, code := none }
/-- java/lang/Object -/
def k0 : Class := { plain "java/lang/Object" none with
  accessFlags := 33
  interfaces := #[]
  cf := some (fileOf pool0 8 #[] #[{ accessFlags := 1, nameIndex := 5, descriptorIndex := 6, attributes := #[] }] 33 0 #[] #[])
  fields := #[]
  methods := #[k0m0]
  instanceTypes := #[]
  staticTypes := #[]
  resolved := Array.replicate 124 none
  statics := none }

def pool1 : Array CpInfo := pool [(2, .class_ 4), (1, u "java/lang/Object"), (0, u "<init>"), (0, u "()V"), (0, .integer 2147483647), (0, .methodref 9 10), (0, .class_ 11), (0, .nameAndType 12 13), (0, u "com/example/clausewright/clausewright/document/KindIsAttachmentPinLaw"), (0, u "pick"), (0, u "(I)Lcom/example/clausewright/clausewright/document/Part$Kind;"), (0, .methodref 15 16), (0, .class_ 17), (0, .nameAndType 18 19), (0, u "com/example/clausewright/clausewright/document/Part$Kind"), (0, u "isAttachment"), (0, u "()Z"), (0, .fieldref 15 21), (0, .nameAndType 22 23), (0, u "FRONT"), (0, u "Lcom/example/clausewright/clausewright/document/Part$Kind;"), (0, .fieldref 15 25), (0, .nameAndType 26 23), (0, u "CONTENTS"), (0, .fieldref 15 28), (0, .nameAndType 29 23), (0, u "BODY"), (0, .fieldref 15 31), (0, .nameAndType 32 23), (0, u "SCHEDULE"), (0, .fieldref 15 34), (0, .nameAndType 35 23), (0, u "ANNEX"), (0, .fieldref 15 37), (0, .nameAndType 38 23), (0, u "APPENDIX"), (0, .fieldref 15 40), (0, .nameAndType 41 23), (0, u "EXHIBIT"), (2, u "law"), (0, u "(I)Z")] 7

def k1m0 : Method := { name := "<init>", desc := "()V", sig := { parameters := [], returnType := none }, accessFlags := 1, code := none }
def k1c1 : Code := { maxStack := 2, maxLocals := 4, code := code, exceptionTable := #[], attributes := #[] }
def k1m1 : Method := { name := "law", desc := "(I)Z", sig := { parameters := [.int], returnType := some .boolean }, accessFlags := 9, code := some k1c1 }
def k1c2 : Code := { maxStack := 2, maxLocals := 1, code := method_3_code, exceptionTable := #[], attributes := #[] }
def k1m2 : Method := { name := "pick", desc := "(I)Lcom/example/clausewright/clausewright/document/Part$Kind;", sig := { parameters := [.int], returnType := some (.object "com/example/clausewright/clausewright/document/Part$Kind") }, accessFlags := 10, code := some k1c2 }
/-- com/example/clausewright/clausewright/document/KindIsAttachmentPinLaw -/
def k1 : Class := { plain "com/example/clausewright/clausewright/document/KindIsAttachmentPinLaw" (some 0) with
  accessFlags := 49
  interfaces := #[]
  cf := some (fileOf pool1 9 #[] #[{ accessFlags := 1, nameIndex := 5, descriptorIndex := 6, attributes := #[] }, { accessFlags := 9, nameIndex := 44, descriptorIndex := 45, attributes := #[] }, { accessFlags := 10, nameIndex := 12, descriptorIndex := 13, attributes := #[] }] 49 2 #[] #[])
  fields := #[]
  methods := #[k1m0, k1m1, k1m2]
  instanceTypes := #[]
  staticTypes := #[]
  resolved := Array.replicate 53 none
  statics := none }

def pool2 : Array CpInfo := pool [(1, .class_ 2), (0, u "java/lang/constant/Constable"), (0, .class_ 4), (0, u "java/lang/Object")] 6

/-- java/lang/constant/Constable -/
def k2 : Class := { plain "java/lang/constant/Constable" (some 0) with
  accessFlags := 1537
  interfaces := #[]
  cf := some (fileOf pool2 1 #[] #[] 1537 3 #[] #[])
  fields := #[]
  methods := #[]
  instanceTypes := #[]
  staticTypes := #[]
  resolved := Array.replicate 11 none
  statics := none }

def pool3 : Array CpInfo := pool [(1, .class_ 2), (0, u "java/lang/Comparable"), (0, .class_ 4), (0, u "java/lang/Object")] 7

/-- java/lang/Comparable -/
def k3 : Class := { plain "java/lang/Comparable" (some 0) with
  accessFlags := 1537
  interfaces := #[]
  cf := some (fileOf pool3 1 #[] #[] 1537 3 #[] #[])
  fields := #[]
  methods := #[]
  instanceTypes := #[]
  staticTypes := #[]
  resolved := Array.replicate 12 none
  statics := none }

def pool4 : Array CpInfo := pool [(1, .class_ 2), (0, u "java/io/Serializable"), (0, .class_ 4), (0, u "java/lang/Object")] 2

/-- java/io/Serializable -/
def k4 : Class := { plain "java/io/Serializable" (some 0) with
  accessFlags := 1537
  interfaces := #[]
  cf := some (fileOf pool4 1 #[] #[] 1537 3 #[] #[])
  fields := #[]
  methods := #[]
  instanceTypes := #[]
  staticTypes := #[]
  resolved := Array.replicate 7 none
  statics := none }

def pool5 : Array CpInfo := pool [(2, .class_ 4), (1, u "java/lang/Enum"), (0, u "name"), (0, u "Ljava/lang/String;"), (2, u "ordinal"), (0, u "I"), (1, .class_ 14), (1, u "java/lang/Object"), (4, u "hash"), (86, .class_ 108), (1, u "java/lang/Enum$EnumDesc"), (2, .class_ 112), (0, u "java/lang/constant/Constable"), (0, .class_ 114), (0, u "java/lang/Comparable"), (0, .class_ 116), (0, u "java/io/Serializable")] 87

/-- java/lang/Enum -/
def k5 : Class := { plain "java/lang/Enum" (some 0) with
  accessFlags := 1057
  interfaces := #[2, 3, 4]
  cf := some (fileOf pool5 2 #[.nestMembers #[106]] #[] 1057 12 #[111, 113, 115] #[{ accessFlags := 18, nameIndex := 5, descriptorIndex := 6, attributes := #[] }, { accessFlags := 18, nameIndex := 9, descriptorIndex := 10, attributes := #[] }, { accessFlags := 2, nameIndex := 19, descriptorIndex := 10, attributes := #[] }])
  fields := #[{ name := "name", type := (.object "java/lang/String"), accessFlags := 18, slot := 0, constantValue := 0 }, { name := "ordinal", type := .int, accessFlags := 18, slot := 1, constantValue := 0 }, { name := "hash", type := .int, accessFlags := 2, slot := 2, constantValue := 0 }]
  methods := #[]
  instanceTypes := #[(.object "java/lang/String"), .int, .int]
  staticTypes := #[]
  resolved := Array.replicate 204 none
  statics := none }

def pool6 : Array CpInfo := pool [(1, .class_ 2), (0, u "com/example/clausewright/clausewright/document/Part$Kind"), (2, u "FRONT"), (0, u "Lcom/example/clausewright/clausewright/document/Part$Kind;"), (2, u "CONTENTS"), (2, u "BODY"), (0, .fieldref 1 14), (0, .nameAndType 15 6), (0, u "SCHEDULE"), (0, .fieldref 1 17), (0, .nameAndType 18 6), (0, u "ANNEX"), (0, .fieldref 1 20), (0, .nameAndType 21 6), (0, u "APPENDIX"), (0, .fieldref 1 23), (0, .nameAndType 24 6), (0, u "EXHIBIT"), (2, u "$VALUES"), (0, u "[Lcom/example/clausewright/clausewright/document/Part$Kind;"), (6, .class_ 37), (1, u "java/lang/Enum"), (8, u "mLabel"), (0, u "Ljava/lang/String;"), (37, u "isAttachment"), (0, u "()Z"), (7, .class_ 95), (0, u "com/example/clausewright/clausewright/document/Part")] 2

def k6c0 : Code := { maxStack := 2, maxLocals := 1, code := prog_20_method_5_code, exceptionTable := #[], attributes := #[] }
def k6m0 : Method := { name := "isAttachment", desc := "()Z", sig := { parameters := [], returnType := some .boolean }, accessFlags := 1, code := some k6c0 }
/-- com/example/clausewright/clausewright/document/Part$Kind -/
def k6 : Class := { plain "com/example/clausewright/clausewright/document/Part$Kind" (some 5) with
  accessFlags := 16433
  interfaces := #[]
  cf := some (fileOf pool6 1 #[.nestHost 94] #[{ accessFlags := 1, nameIndex := 85, descriptorIndex := 86, attributes := #[] }] 16433 35 #[] #[{ accessFlags := 16409, nameIndex := 5, descriptorIndex := 6, attributes := #[] }, { accessFlags := 16409, nameIndex := 9, descriptorIndex := 6, attributes := #[] }, { accessFlags := 16409, nameIndex := 12, descriptorIndex := 6, attributes := #[] }, { accessFlags := 16409, nameIndex := 15, descriptorIndex := 6, attributes := #[] }, { accessFlags := 16409, nameIndex := 18, descriptorIndex := 6, attributes := #[] }, { accessFlags := 16409, nameIndex := 21, descriptorIndex := 6, attributes := #[] }, { accessFlags := 16409, nameIndex := 24, descriptorIndex := 6, attributes := #[] }, { accessFlags := 18, nameIndex := 46, descriptorIndex := 47, attributes := #[] }, { accessFlags := 4122, nameIndex := 27, descriptorIndex := 28, attributes := #[] }])
  fields := #[{ name := "FRONT", type := (.object "com/example/clausewright/clausewright/document/Part$Kind"), accessFlags := 16409, slot := 0, constantValue := 0 }, { name := "CONTENTS", type := (.object "com/example/clausewright/clausewright/document/Part$Kind"), accessFlags := 16409, slot := 1, constantValue := 0 }, { name := "BODY", type := (.object "com/example/clausewright/clausewright/document/Part$Kind"), accessFlags := 16409, slot := 2, constantValue := 0 }, { name := "SCHEDULE", type := (.object "com/example/clausewright/clausewright/document/Part$Kind"), accessFlags := 16409, slot := 3, constantValue := 0 }, { name := "ANNEX", type := (.object "com/example/clausewright/clausewright/document/Part$Kind"), accessFlags := 16409, slot := 4, constantValue := 0 }, { name := "APPENDIX", type := (.object "com/example/clausewright/clausewright/document/Part$Kind"), accessFlags := 16409, slot := 5, constantValue := 0 }, { name := "EXHIBIT", type := (.object "com/example/clausewright/clausewright/document/Part$Kind"), accessFlags := 16409, slot := 6, constantValue := 0 }, { name := "mLabel", type := (.object "java/lang/String"), accessFlags := 18, slot := 3, constantValue := 0 }, { name := "$VALUES", type := (.array (.object "com/example/clausewright/clausewright/document/Part$Kind")), accessFlags := 4122, slot := 7, constantValue := 0 }]
  methods := #[k6m0]
  instanceTypes := #[(.object "java/lang/String"), .int, .int, (.object "java/lang/String")]
  staticTypes := #[(.object "com/example/clausewright/clausewright/document/Part$Kind"), (.object "com/example/clausewright/clausewright/document/Part$Kind"), (.object "com/example/clausewright/clausewright/document/Part$Kind"), (.object "com/example/clausewright/clausewright/document/Part$Kind"), (.object "com/example/clausewright/clausewright/document/Part$Kind"), (.object "com/example/clausewright/clausewright/document/Part$Kind"), (.object "com/example/clausewright/clausewright/document/Part$Kind"), (.array (.object "com/example/clausewright/clausewright/document/Part$Kind"))]
  resolved := Array.replicate 98 none
  statics := some 0 }

def pool7 : Array CpInfo := pool [(1, u "java/lang/Cloneable"), (0, .class_ 1), (0, u "java/lang/Object"), (0, .class_ 3)] 3

/-- java/lang/Cloneable -/
def k7 : Class := { plain "java/lang/Cloneable" (some 0) with
  accessFlags := 1537
  interfaces := #[]
  cf := some (fileOf pool7 2 #[] #[] 1537 4 #[] #[])
  fields := #[]
  methods := #[]
  instanceTypes := #[]
  staticTypes := #[]
  resolved := Array.replicate 8 none
  statics := none }

/-- the primitive byte -/
def k8 : Class := { plain "byte" none with kind := .primitive 'B', accessFlags := 0x411 }
/-- [B -/
def k9 : Class := { plain "[B" (some 0) with kind := .array 8 .byte, interfaces := #[7, 4], accessFlags := 1041 }

/-- the primitive int -/
def k10 : Class := { plain "int" none with kind := .primitive 'I', accessFlags := 0x411 }
/-- [I -/
def k11 : Class := { plain "[I" (some 0) with kind := .array 10 .int, interfaces := #[7, 4], accessFlags := 1041 }

def heap : Heap := #[{ cls := 6, slots := #[.ref 1, .ref 7, .ref 6, .ref 2, .ref 3, .ref 4, .ref 5, .null], vm := .statics 6 },
  { cls := 6, slots := #[.null, .int 0, .int 0, .null], vm := .none },
  { cls := 6, slots := #[.null, .int 3, .int 0, .null], vm := .none },
  { cls := 6, slots := #[.null, .int 4, .int 0, .null], vm := .none },
  { cls := 6, slots := #[.null, .int 5, .int 0, .null], vm := .none },
  { cls := 6, slots := #[.null, .int 6, .int 0, .null], vm := .none },
  { cls := 6, slots := #[.null, .int 2, .int 0, .null], vm := .none },
  { cls := 6, slots := #[.null, .int 1, .int 0, .null], vm := .none }]
def classes : Array Class := #[k0, k1, k2, k3, k4, k5, k6, k7, k8, k9, k10, k11]
def interned : List (Array UInt16 × Addr) := []
def slotsUsed : Nat := 36
def theMethod : MethodId := ⟨1, 1⟩
def args0 : Array Value := #[.int 5]
def aboutOver (below : List Frame) : State where
  vm := { classes := classes, interned := interned.toArray }
  heap := heap
  slotsUsed := slotsUsed
  threads := #[{ frames := .invoking theMethod args0 :: below }]
def below0 : List Frame := [.native { method := ⟨0, 0⟩, args := #[] }]
def about1 : State := aboutOver below0
def p0 : Program := .bare "" "" ""
def e0 : Env := launch0.env 0 0 0
theorem w_frames : about1.frames = Frame.invoking theMethod args0 :: below0 := rfl
set_option maxRecDepth 65536 in
theorem w_args : argsFit about1.vm theMethod args0 = true := by decide +kernel
set_option maxRecDepth 65536 in
theorem w_heap : heapFits about1 = true := by decide +kernel
set_option maxRecDepth 65536 in
theorem w_runnable : about1.curStatus? = some .runnable := by decide +kernel
set_option maxRecDepth 65536 in
theorem w_alone : about1.alone = true := by decide +kernel
set_option maxRecDepth 65536 in
theorem w_named : about1.methodNamed? x = some theMethod := by decide +kernel
set_option maxRecDepth 65536 in
theorem w_hears : about1.hears theMethod below0 = true := by decide +kernel
set_option maxRecDepth 65536 in
theorem w_ripe : about1.ripe theMethod args0 below0 = true := by decide +kernel
theorem w_running : about1.status = .running := rfl
set_option maxRecDepth 65536 in
theorem w_room : about1.hasRoom e0.platform room_1 = true :=
  launch0.hasRoom_least _ room_1 (by decide +kernel) (by decide +kernel) (by decide +kernel) (by decide +kernel) (by decide +kernel) (by decide +kernel)
theorem allAtoms_all (ts : List Jvm.Cond) (a : Array Jvm.Value) (st : Jvm.State) : (allAtoms ts).before a st = ts.all (fun c => c.before a st) := by
  induction ts with
  | nil => rfl
  | cons c t ih =>
    show (Jvm.Cond.and c (allAtoms t)).before a st = _
    rw [Jvm.Cond.before_and, ih, List.all_cons]
def words1 : List Jvm.Cond := Jvm.Cond.code x code maxLocals ret :: tables_1
/-- a 'code' word, met by the world's own term for the bytes: nothing is compared byte by byte -/
theorem code_word {y : MethodName} {bytes : ByteArray} {mx : Nat} {rt : Option FieldType} {a : Array Value} {s : State} {m : MethodId} {meth : Method} {c : Code} (h1 : s.methodNamed? y = some m) (h2 : s.vm.method? m = some meth) (h3 : meth.code = some c) (h4 : c.code = bytes)
    (h5 : (c.maxLocals == mx && c.exceptionTable.isEmpty && decide (c.maxStack ≤ mostOperands) && decide (meth.sig.returnType = rt) && !meth.locks && decide (parseMethodDescriptor y.desc = some meth.sig)) = true) : (Jvm.Cond.code y bytes mx rt).before a s = true := by
  simp only [Bool.and_eq_true, beq_iff_eq, Bool.not_eq_true', decide_eq_true_eq] at h5
  obtain ⟨⟨⟨⟨⟨g1, g2⟩, g3⟩, g4⟩, g5⟩, g6⟩ := h5
  simp [Cond.before, Cond.holds, Cond.value, h1, h2, h3, h4, g1, g2, g3, g4, g5, g6]
def isCode : Jvm.Cond → Bool
  | .code _ _ _ _ => true
  | _ => false
theorem all_split {L : List Jvm.Cond} {P : Jvm.Cond → Bool} (h1 : L.all (fun c => isCode c || P c) = true) (h2 : ∀ c ∈ L.filter isCode, P c = true) : L.all P = true := by
  refine List.all_eq_true.mpr fun c hc => ?_
  have h := List.all_eq_true.mp h1 c hc
  rcases Bool.eq_false_or_eq_true (isCode c) with hi | hi
  · exact h2 c (List.mem_filter.mpr ⟨hc, hi⟩)
  · simpa [hi] using h
set_option maxRecDepth 65536 in
theorem w_c0 : (Jvm.Cond.code x code maxLocals ret).before args0 about1 = true := code_word (m := ⟨1, 1⟩) (meth := k1m1) (c := k1c1) (by decide +kernel) rfl rfl rfl (by decide +kernel)
set_option maxRecDepth 65536 in
theorem w_c1 : (Jvm.Cond.code ({ cls := "com/example/clausewright/clausewright/document/KindIsAttachmentPinLaw", name := "pick", desc := "(I)Lcom/example/clausewright/clausewright/document/Part$Kind;" } : Jvm.MethodName) method_3_code (1 : Nat) (Option.some (Jvm.ClassFile.FieldType.object "com/example/clausewright/clausewright/document/Part$Kind"))).before args0 about1 = true := code_word (m := ⟨1, 2⟩) (meth := k1m2) (c := k1c2) (by decide +kernel) rfl rfl rfl (by decide +kernel)
set_option maxRecDepth 65536 in
theorem w_c2 : (Jvm.Cond.code ({ cls := "com/example/clausewright/clausewright/document/Part$Kind", name := "isAttachment", desc := "()Z" } : Jvm.MethodName) prog_20_method_5_code (1 : Nat) (Option.some Jvm.ClassFile.FieldType.boolean)).before args0 about1 = true := code_word (m := ⟨6, 0⟩) (meth := k6m0) (c := k6c0) (by decide +kernel) rfl rfl rfl (by decide +kernel)
def codes1 : List Jvm.Cond := [Jvm.Cond.code x code maxLocals ret, Jvm.Cond.code ({ cls := "com/example/clausewright/clausewright/document/KindIsAttachmentPinLaw", name := "pick", desc := "(I)Lcom/example/clausewright/clausewright/document/Part$Kind;" } : Jvm.MethodName) method_3_code (1 : Nat) (Option.some (Jvm.ClassFile.FieldType.object "com/example/clausewright/clausewright/document/Part$Kind")), Jvm.Cond.code ({ cls := "com/example/clausewright/clausewright/document/Part$Kind", name := "isAttachment", desc := "()Z" } : Jvm.MethodName) prog_20_method_5_code (1 : Nat) (Option.some Jvm.ClassFile.FieldType.boolean)]
set_option maxRecDepth 65536 in
theorem codes_eq : words1.filter isCode = codes1 := rfl
theorem w_codes : ∀ c ∈ words1.filter isCode, c.before args0 about1 = true := by
  rw [codes_eq]
  intro c hc
  simp only [codes1, List.mem_cons, List.not_mem_nil, or_false] at hc
  rcases hc with rfl | rfl | rfl
  · exact w_c0
  · exact w_c1
  · exact w_c2
set_option maxRecDepth 65536 in
theorem w_t1 : (words1.take 24).all (fun c => isCode c || c.before args0 about1) = true := by decide +kernel
set_option maxRecDepth 65536 in
theorem w_t2 : (words1.drop 24).all (fun c => isCode c || c.before args0 about1) = true := by decide +kernel
theorem w_tables : (allAtoms (Jvm.Cond.code x code maxLocals ret :: tables_1)).before args0 about1 = true := by
  rw [allAtoms_all]
  show words1.all (fun c => c.before args0 about1) = true
  refine all_split ?_ w_codes
  rw [← List.take_append_drop 24 words1, List.all_append, w_t1, w_t2]
  rfl
set_option maxRecDepth 65536 in
theorem w_case : (Jvm.Cond.and given_1 narrow_1).before args0 about1 = true := by decide +kernel
theorem w_applies : (headSpec (Jvm.Cond.code x code maxLocals ret :: tables_1) room_1).applies x e0.platform about1 = true :=
  (Spec.applies_iff w_frames).mpr ⟨w_running, w_runnable, w_alone, w_named, w_hears, w_ripe, w_room, w_tables⟩
theorem atStart : AtStart classFile x code maxLocals ret World_1 tables_1 room_1 Calls_1 rest_1 Pre_1 launch0 p0 e0 about1 theMethod args0 below0 :=
  ⟨lists_1, trivial, launch0.admits_env _ _ _, launch0.least_env, fairChoices_fair.cas, fairChoices_fair.clock, w_frames, w_args, w_heap, w_applies, trivial, trivial, w_case⟩
end start1
theorem witness_1 : WitnessClaimed_1 := ⟨start1.p0, start1.e0, start1.about1, start1.theMethod, start1.args0, start1.below0, start1.atStart⟩
end Jvm.Pilot.@@N@@
