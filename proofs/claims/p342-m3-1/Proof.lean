import JvmDerived
import JvmDerived.Pilot.@@N@@Statement
import JvmDerived.Pilot.@@N@@Code
set_option linter.unusedVariables false
set_option linter.unusedSimpArgs false
namespace Jvm.Pilot.@@N@@
open Jvm Jvm.ClassFile Sem Op Lib Jvm.Free Jvm.Stand Jvm.LawKit Jvm.RoadKit Bundle Jvm.Pilot.@@N@@.Jvm.D
abbrev own_Gd (tb : Tables) (e : Env) (below : List Frame) (P : State → Outcome → Prop) (A : State) : Prop := ∃ U o, Steps tb e below A U ∧ U.status = .running ∧ Ended U below o ∧ P U o
theorem own_go {tb : Tables} {e : Env} {below : List Frame} {P : State → Outcome → Prop} {A B : State} (st : ∀ t, Steps tb e below B t → Steps tb e below A t) (h : own_Gd tb e below P B) : own_Gd tb e below P A := by
  obtain ⟨U, o, h1, h2⟩ := h
  exact ⟨U, o, st _ h1, h2⟩
theorem own_done {tb : Tables} {e : Env} {below : List Frame} {P : State → Outcome → Prop} {A U : State} {o : Outcome} (st : Steps tb e below A U) (h1 : U.status = .running) (h2 : Ended U below o) (h3 : P U o) : own_Gd tb e below P A := ⟨U, o, st, h1, h2, h3⟩
abbrev own_P (Q : Option Value → Heap → List Loc → Prop) (s : State) (cells slots : Nat) : State → Outcome → Prop := fun U' o => ∃ v L, o = .returned v ∧ Q v U'.heap L ∧ FrameEnd s o U' L cells slots
abbrev own_PW (Q : Option Value → Heap → List Loc → Prop) (s : State) (cells slots : Nat) : State → Outcome → Prop := fun U' o => ∃ v L, o = .returned v ∧ Q v U'.heap L ∧ ReturnedEndW s o U' L cells slots
theorem own_len {args : Array Value} {Z : State} {t : Term} {a : Addr} {c : Cell} {n : Int32} (ev : t.eval args Z none [] Z = some (.ref a)) (ha : Z.arrayAt? a = some c) (h : (Term.length t).eval args Z none [] Z = some (.int n)) : c.slots.size < 2 ^ 31 ∧ c.slots.size.toInt32 = n := by
  by_cases q : c.slots.size < 2 ^ 31
  · rw [len_f ev ha q] at h
    cases h
    exact ⟨q, rfl⟩
  · exfalso
    simp [Term.eval, ev, ha] at h
    omega
theorem own_ord {args : Array Value} {Z : State} {t : Term} {C n d : String} {a : Addr} {k : Int32} (ht : t.eval args Z none [] Z = some (.ref a)) (h : (Jvm.Cond.eq (Term.field t C n d) (Term.int k)).value args Z none Z [] = some true) : Fld Z Z.heap a C n d (.int k) := Fld.start ((fld_at ht).symm.trans (eqv_i rfl h))

theorem pn_0 : plainName "com/example/libonce/libonce/core/OutcomeResultPinLaw" = true := by first | (simp [plainName, overriddenIn]; done) | decide +kernel
theorem pn_1 : plainName "java/lang/Integer" = true := by first | (simp [plainName, overriddenIn]; done) | decide +kernel
theorem pn_2 : plainName "com/example/libonce/libonce/core/Outcome" = true := by first | (simp [plainName, overriddenIn]; done) | decide +kernel
theorem pn_3 : plainName "java/lang/Record" = true := by first | (simp [plainName, overriddenIn]; done) | decide +kernel
theorem pn_5 : plainName "java/util/Objects" = true := by first | (simp [plainName, overriddenIn]; done) | decide +kernel
theorem pn_6 : plainName "com/example/libonce/libonce/core/Outcome" = true := by first | (simp [plainName, overriddenIn]; done) | decide +kernel
theorem pn_7 : plainName "java/lang/Integer" = true := by first | (simp [plainName, overriddenIn]; done) | decide +kernel
theorem pn_8 : plainName "java/lang/Integer" = true := by first | (simp [plainName, overriddenIn]; done) | decide +kernel
theorem pn_9 : plainName "java/lang/Number" = true := by first | (simp [plainName, overriddenIn]; done) | decide +kernel
theorem pd_0 : parseMethodDescriptor "()V" = some ⟨[], none⟩ := by decide +kernel
theorem pd_1 : parseMethodDescriptor "(I)V" = some ⟨[.int], none⟩ := by decide +kernel
theorem pd_2 : parseMethodDescriptor "(Ljava/lang/Object;Ljava/lang/String;)Ljava/lang/Object;" = some ⟨[(.object "java/lang/Object"), (.object "java/lang/String")], some (.object "java/lang/Object")⟩ := by decide +kernel
theorem pd_3 : parseMethodDescriptor "(I)Ljava/lang/Integer;" = some ⟨[.int], some (.object "java/lang/Integer")⟩ := by decide +kernel
theorem pd_4 : parseMethodDescriptor "(Lcom/example/libonce/libonce/core/Outcome$Kind;Ljava/lang/Object;)V" = some ⟨[(.object "com/example/libonce/libonce/core/Outcome$Kind"), (.object "java/lang/Object")], none⟩ := by decide +kernel
theorem pd_5 : parseMethodDescriptor "()Ljava/lang/Object;" = some ⟨[], some (.object "java/lang/Object")⟩ := by decide +kernel
theorem pd_6 : parseMethodDescriptor "()I" = some ⟨[], some .int⟩ := by decide +kernel
theorem own_strs {Z : State} {a0 : Array Value} (hw : ∀ d ∈ tables_1, d.before a0 Z = true) : ∀ a ∈ Bundle.stringAtoms, a.before a0 Z = true := by
  intro a ha
  simp only [Bundle.stringAtoms, List.mem_cons, List.not_mem_nil, or_false] at ha
  rcases ha with rfl | rfl | rfl | rfl | rfl | rfl | rfl
  · exact (hw _ (List.mem_of_getElem? (i := 25) rfl))
  · exact (hw _ (List.mem_of_getElem? (i := 26) rfl))
  · exact (hw _ (List.mem_of_getElem? (i := 27) rfl))
  · exact (hw _ (List.mem_of_getElem? (i := 28) rfl))
  · exact (hw _ (List.mem_of_getElem? (i := 29) rfl))
  · exact (hw _ (List.mem_of_getElem? (i := 30) rfl))
  · exact (hw _ (List.mem_of_getElem? (i := 31) rfl))
def Q_rm3 (Z : State) (a1 : Addr) (h0 : Heap) (n0 : Nat) (v : Option Value) (h : Heap) (L : List Loc) : Prop := v = none ∧ Fr n0 L ∧ h = h0
theorem d3_0 : decode jdk_30_method_1_code 0 = .ok (.aload_n 0, 1) := by decide +kernel
theorem d3_1 : decode jdk_30_method_1_code 1 = .ok (.invokespecial 1, 3) := by decide +kernel
theorem d3_4 : decode jdk_30_method_1_code 4 = .ok (.return_, 1) := by decide +kernel
theorem ef_3 (m : MethodId) (x0 : Addr) : entryFrame m #[(.ref x0)] 1 = mkF m 0 #[.val (.ref x0)] [] := by first | (simp [entryFrame, mkF, argsToLocals, Value.category, maxLocals]; done) | rfl
set_option maxRecDepth 65536 in
set_option maxHeartbeats 40000000 in
theorem rm3 (l : Launch) (Z : State) (a0 : Array Value) (hw : ∀ d ∈ tables_1, d.before a0 Z = true) (ws : List Jvm.Cond) (a1 : Addr) (h0 : Heap) (n0 : Nat) (Z0 : n0 ≤ h0.size)  :
    MetFree l (⟨"java/lang/Record", "<init>", "()V"⟩ : MethodName) (head1 (Jvm.Cond.code (⟨"java/lang/Record", "<init>", "()V"⟩ : MethodName) jdk_30_method_1_code 1 none :: ws) ({ frames := 1, cells := 0, slots := 0, locals := 12 } : Room)) (fun a U => a = #[(.ref a1)] ∧ Z.Warmed39 U.vm ∧ U.heap = h0) (fun _ _ _ _ _ => True) (fun _ U o U' => ∃ v L, o = .returned v ∧ Q_rm3 Z a1 h0 n0 v U'.heap L ∧ FrameEnd U o U' L ({ frames := 1, cells := 0, slots := 0, locals := 12 } : Room).cells ({ frames := 1, cells := 0, slots := 0, locals := 12 } : Room).slots) := by
  refine MetFree.of_bodySF (plainFor_of_name pn_3) hisR ?_
  intro p e s m args below meth c s₁ Bd hml0 hP hK
  obtain ⟨rfl, hZ, hh⟩ := hP
  have hx := Bd.exec
  have hby := Bd.bytes
  have hml : c.maxLocals = 1 := hml0
  have hown : s.vm.findClass "java/lang/Record" = some m.cls := findClass_of_methodNamed Bd.named
  have hnm := (name_of_methodNamed Bd.named Bd.method).1
  have X0 : Stand p l e ({ frames := 1, cells := 0, slots := 0, locals := 12 } : Room) s m #[(.ref a1)] below meth c s₁ [] 0 0 := Stand.of_body Bd
  have e0 : s₁.heap = h0 := by rw [← hh, Bd.state]; rfl
  have N0 := Fr.nil n0
  have K : Keep h0 h0 [] := Keep.refl h0 []
  show own_Gd p.tables e below (own_P (Q_rm3 Z a1 h0 n0) s ({ frames := 1, cells := 0, slots := 0, locals := 12 } : Room).cells ({ frames := 1, cells := 0, slots := 0, locals := 12 } : Room).slots) _
  refine own_go (B := s₁.setTop (mkF m 0 #[.val (.ref a1)] [])) (fun t k => castTop (ef_3 m a1) k) ?_
  refine own_go (B := s₁.setTop (mkF m 1 #[.val (.ref a1)] [(.ref a1)])) (fun t k => ?_) ?_
  · show Steps p.tables e below (s₁.setTop (mkF m 0 #[.val (.ref a1)] [])) _
    refine XS.aloadN X0.here hx rfl (hb hby d3_0) rfl rfl ?_
    show Steps p.tables e below (s₁.setTop (mkF m 1 #[.val (.ref a1)] [(.ref a1)])) _
    exact k
  obtain ⟨T1, X1, e1, st1⟩ := initO X0 hx hZ hown (hw _ (List.mem_of_getElem? (i := 21) rfl)) (hw _ (List.mem_of_getElem? (i := 22) rfl)) (hw _ (List.mem_of_getElem? (i := 23) rfl)) e0 (g := (mkF m 1 #[.val (.ref a1)] [(.ref a1)])) rfl (by rw [hml]; rfl) rfl (hb hby d3_1) (by decide) (W := 0) (by show 2 * 0 + _ ≤ _; exact Nat.le_of_eq rfl) (by decide)
  refine own_go (B := T1.setTop (mkF m 4 #[.val (.ref a1)] [])) st1 ?_
  obtain ⟨fs, hr, hrun, hended, hW, hsame⟩ := X1.leave (v := none) (fun _ => rfl)
  refine own_done (X1.returnOut hx Bd.returns (hb hby d3_4) hr) hrun hended ⟨_, _, rfl, ?_, ⟨_, rfl⟩, hW, hsame.mono (by decide) (by decide)⟩
  show Q_rm3 Z a1 h0 n0 (none) T1.heap _
  rw [e1]
  exact ⟨rfl, N0, rfl⟩
def Q_rm5 (Z : State) (a1 : Addr) (h0 : Heap) (n0 : Nat) (v : Option Value) (h : Heap) (L : List Loc) : Prop := v = some (.ref a1) ∧ Fr n0 L ∧ h = h0
theorem d5_0 : decode jdk_31_method_11_code 0 = .ok (.aload_n 0, 1) := by decide +kernel
theorem d5_1 : decode jdk_31_method_11_code 1 = .ok (.ifnonnull 12, 3) := by decide +kernel
theorem d5_4 : decode jdk_31_method_11_code 4 = .ok (.new 84, 3) := by decide +kernel
theorem d5_7 : decode jdk_31_method_11_code 7 = .ok (.dup, 1) := by decide +kernel
theorem d5_8 : decode jdk_31_method_11_code 8 = .ok (.aload_n 1, 1) := by decide +kernel
theorem d5_9 : decode jdk_31_method_11_code 9 = .ok (.invokespecial 87, 3) := by decide +kernel
theorem d5_12 : decode jdk_31_method_11_code 12 = .ok (.athrow, 1) := by decide +kernel
theorem d5_13 : decode jdk_31_method_11_code 13 = .ok (.aload_n 0, 1) := by decide +kernel
theorem d5_14 : decode jdk_31_method_11_code 14 = .ok (.areturn, 1) := by decide +kernel
theorem ef_5 (m : MethodId) (x0 : Addr) (x1 : Addr) : entryFrame m #[(.ref x0), (.ref x1)] 2 = mkF m 0 #[.val (.ref x0), .val (.ref x1)] [] := by first | (simp [entryFrame, mkF, argsToLocals, Value.category, maxLocals]; done) | rfl
set_option maxRecDepth 65536 in
set_option maxHeartbeats 40000000 in
theorem rm5 (l : Launch) (Z : State) (a0 : Array Value) (hw : ∀ d ∈ tables_1, d.before a0 Z = true) (ws : List Jvm.Cond) (a1 a2 : Addr) (h0 : Heap) (n0 : Nat) (Z0 : n0 ≤ h0.size)  :
    MetFree l (⟨"java/util/Objects", "requireNonNull", "(Ljava/lang/Object;Ljava/lang/String;)Ljava/lang/Object;"⟩ : MethodName) (head1 (Jvm.Cond.code (⟨"java/util/Objects", "requireNonNull", "(Ljava/lang/Object;Ljava/lang/String;)Ljava/lang/Object;"⟩ : MethodName) jdk_31_method_11_code 2 (some (.object "java/lang/Object")) :: ws) ({ frames := 0, cells := 0, slots := 0, locals := 0 } : Room)) (fun a U => a = #[(.ref a1), (.ref a2)] ∧ Z.Warmed39 U.vm ∧ U.heap = h0) (fun _ _ _ _ _ => True) (fun _ U o U' => ∃ v L, o = .returned v ∧ Q_rm5 Z a1 h0 n0 v U'.heap L ∧ FrameEnd U o U' L ({ frames := 0, cells := 0, slots := 0, locals := 0 } : Room).cells ({ frames := 0, cells := 0, slots := 0, locals := 0 } : Room).slots) := by
  refine MetFree.of_bodySF (plainFor_of_name pn_5) hisR ?_
  intro p e s m args below meth c s₁ Bd hml0 hP hK
  obtain ⟨rfl, hZ, hh⟩ := hP
  have hx := Bd.exec
  have hby := Bd.bytes
  have hml : c.maxLocals = 2 := hml0
  have hown : s.vm.findClass "java/util/Objects" = some m.cls := findClass_of_methodNamed Bd.named
  have hnm := (name_of_methodNamed Bd.named Bd.method).1
  have X0 : Stand p l e ({ frames := 0, cells := 0, slots := 0, locals := 0 } : Room) s m #[(.ref a1), (.ref a2)] below meth c s₁ [] 0 0 := Stand.of_body Bd
  have e0 : s₁.heap = h0 := by rw [← hh, Bd.state]; rfl
  have N0 := Fr.nil n0
  have K : Keep h0 h0 [] := Keep.refl h0 []
  show own_Gd p.tables e below (own_P (Q_rm5 Z a1 h0 n0) s ({ frames := 0, cells := 0, slots := 0, locals := 0 } : Room).cells ({ frames := 0, cells := 0, slots := 0, locals := 0 } : Room).slots) _
  refine own_go (B := s₁.setTop (mkF m 0 #[.val (.ref a1), .val (.ref a2)] [])) (fun t k => castTop (ef_5 m a1 a2) k) ?_
  refine own_go (B := s₁.setTop (mkF m 14 #[.val (.ref a1), .val (.ref a2)] [(.ref a1)])) (fun t k => ?_) ?_
  · show Steps p.tables e below (s₁.setTop (mkF m 0 #[.val (.ref a1), .val (.ref a2)] [])) _
    refine XS.aloadN X0.here hx rfl (hb hby d5_0) rfl rfl ?_
    show Steps p.tables e below (s₁.setTop (mkF m 1 #[.val (.ref a1), .val (.ref a2)] [(.ref a1)])) _
    refine XS.ifnonnullYes X0.here hx rfl (pc0 := 1) (pc' := 13) rfl (hb hby d5_1) rfl (by decide) (by decide) ?_
    show Steps p.tables e below (s₁.setTop (mkF m 13 #[.val (.ref a1), .val (.ref a2)] [])) _
    refine XS.aloadN X0.here hx rfl (hb hby d5_13) rfl rfl ?_
    show Steps p.tables e below (s₁.setTop (mkF m 14 #[.val (.ref a1), .val (.ref a2)] [(.ref a1)])) _
    exact k
  obtain ⟨fs, hr, hrun, hended, hW, hsame⟩ := X0.leave (v := some (.ref a1)) (fun h => by rw [Bd.returns] at h; cases h)
  refine own_done (retOut X0 hx Bd.returns rfl (Or.inr (Or.inr (Or.inr (Or.inr ⟨rfl, rfl, rfl⟩)))) (hb hby d5_14) hr) hrun hended ⟨_, _, rfl, ?_, ⟨_, rfl⟩, hW, hsame.mono (by decide) (by decide)⟩
  show Q_rm5 Z a1 h0 n0 (some (.ref a1)) s₁.heap _
  rw [e0]
  exact ⟨rfl, N0, rfl⟩
theorem d1_0 : decode jdk_33_method_22_code 0 = .ok (.iload_n 0, 1) := by decide +kernel
theorem d1_1 : decode jdk_33_method_22_code 1 = .ok (.bipush (-128), 2) := by decide +kernel
theorem d1_3 : decode jdk_33_method_22_code 3 = .ok (.if_icmp .lt 20, 3) := by decide +kernel
theorem d1_6 : decode jdk_33_method_22_code 6 = .ok (.iload_n 0, 1) := by decide +kernel
theorem d1_7 : decode jdk_33_method_22_code 7 = .ok (.getstatic 191, 3) := by decide +kernel
theorem d1_10 : decode jdk_33_method_22_code 10 = .ok (.if_icmp .gt 13, 3) := by decide +kernel
theorem d1_13 : decode jdk_33_method_22_code 13 = .ok (.getstatic 195, 3) := by decide +kernel
theorem d1_16 : decode jdk_33_method_22_code 16 = .ok (.iload_n 0, 1) := by decide +kernel
theorem d1_17 : decode jdk_33_method_22_code 17 = .ok (.sipush 128, 3) := by decide +kernel
theorem d1_20 : decode jdk_33_method_22_code 20 = .ok (.iadd, 1) := by decide +kernel
theorem d1_21 : decode jdk_33_method_22_code 21 = .ok (.aaload, 1) := by decide +kernel
theorem d1_22 : decode jdk_33_method_22_code 22 = .ok (.areturn, 1) := by decide +kernel
theorem d1_23 : decode jdk_33_method_22_code 23 = .ok (.new 1, 3) := by decide +kernel
theorem d1_26 : decode jdk_33_method_22_code 26 = .ok (.dup, 1) := by decide +kernel
theorem d1_27 : decode jdk_33_method_22_code 27 = .ok (.iload_n 0, 1) := by decide +kernel
theorem d1_28 : decode jdk_33_method_22_code 28 = .ok (.invokespecial 199, 3) := by decide +kernel
theorem d1_31 : decode jdk_33_method_22_code 31 = .ok (.areturn, 1) := by decide +kernel
theorem d8_0 : decode jdk_33_method_23_code 0 = .ok (.aload_n 0, 1) := by decide +kernel
theorem d8_1 : decode jdk_33_method_23_code 1 = .ok (.invokespecial 202, 3) := by decide +kernel
theorem d8_4 : decode jdk_33_method_23_code 4 = .ok (.aload_n 0, 1) := by decide +kernel
theorem d8_5 : decode jdk_33_method_23_code 5 = .ok (.iload_n 1, 1) := by decide +kernel
theorem d8_6 : decode jdk_33_method_23_code 6 = .ok (.putfield 205, 3) := by decide +kernel
theorem d8_9 : decode jdk_33_method_23_code 9 = .ok (.return_, 1) := by decide +kernel
theorem d9_0 : decode jdk_18_method_1_code 0 = .ok (.aload_n 0, 1) := by decide +kernel
theorem d9_1 : decode jdk_18_method_1_code 1 = .ok (.invokespecial 1, 3) := by decide +kernel
theorem d9_4 : decode jdk_18_method_1_code 4 = .ok (.return_, 1) := by decide +kernel
def own_bxval (j : Int32) : Value := .int (j - 128)
theorem own_bxin (p1 : Int32) (h1 : ¬ (p1 < (-128 : Int32))) (h2 : ¬ ((127 : Int32) < p1)) : (¬ (p1 + (128 : Int32)) < 0 ∧ (p1 + (128 : Int32)) < 256) ∧ own_bxval (p1 + (128 : Int32)) = .int p1 := by
  rw [Int32.lt_iff_toInt_lt] at h1 h2
  have a1 : (-128 : Int32).toInt = -128 := by decide
  have a2 : (127 : Int32).toInt = 127 := by decide
  have q1 := c_iadd p1 128
  have q2 := rng32 (p1 + 128)
  have b1 : (128 : Int32).toInt = 128 := by decide
  have b2 : (256 : Int32).toInt = 256 := by decide
  have b3 : (0 : Int32).toInt = 0 := by decide
  refine ⟨⟨?_, ?_⟩, ?_⟩
  · rw [Int32.lt_iff_toInt_lt]; omega
  · rw [Int32.lt_iff_toInt_lt]; omega
  · unfold own_bxval
    rw [Int32.add_sub_cancel]
theorem own_subI {args : Array Value} {Z : State} {j : Int32} (hj : ¬ j < 0) : (Term.sub (Term.index 0) (Term.int 128)).eval args Z none [j.toNatClampNeg] Z = some (.int (j - 128)) := by
  have q := idx_at (args := args) (s := Z) (first := Z) (o := none) hj
  simp only [Term.eval] at q ⊢
  rw [q]
  rfl
def Q_rmNum (Z : State) (a1 : Addr) (h0 : Heap) (n0 : Nat) (v : Option Value) (h : Heap) (L : List Loc) : Prop := v = none ∧ Fr n0 L ∧ h = h0
theorem ef_num (m : MethodId) (x0 : Addr) : entryFrame m #[(.ref x0)] 1 = mkF m 0 #[.val (.ref x0)] [] := by first | (simp [entryFrame, mkF, argsToLocals, Value.category, maxLocals]; done) | rfl
set_option maxRecDepth 65536 in
set_option maxHeartbeats 40000000 in
theorem rmNum (l : Launch) (Z : State) (a0 : Array Value) (hw : ∀ d ∈ tables_1, d.before a0 Z = true) (ws : List Jvm.Cond) (a1 : Addr) (h0 : Heap) (n0 : Nat) (Z0 : n0 ≤ h0.size)  :
    MetFree l (⟨"java/lang/Number", "<init>", "()V"⟩ : MethodName) (head1 (Jvm.Cond.code (⟨"java/lang/Number", "<init>", "()V"⟩ : MethodName) jdk_18_method_1_code 1 none :: ws) ({ frames := 1, cells := 0, slots := 0, locals := 12 } : Room)) (fun a U => a = #[(.ref a1)] ∧ Z.Warmed39 U.vm ∧ U.heap = h0) (fun _ _ _ _ _ => True) (fun _ U o U' => ∃ v L, o = .returned v ∧ Q_rmNum Z a1 h0 n0 v U'.heap L ∧ FrameEnd U o U' L ({ frames := 1, cells := 0, slots := 0, locals := 12 } : Room).cells ({ frames := 1, cells := 0, slots := 0, locals := 12 } : Room).slots) := by
  refine MetFree.of_bodySF (plainFor_of_name pn_9) hisR ?_
  intro p e s m args below meth c s₁ Bd hml0 hP hK
  obtain ⟨rfl, hZ, hh⟩ := hP
  have hx := Bd.exec
  have hby := Bd.bytes
  have hml : c.maxLocals = 1 := hml0
  have hown : s.vm.findClass "java/lang/Number" = some m.cls := findClass_of_methodNamed Bd.named
  have hnm := (name_of_methodNamed Bd.named Bd.method).1
  have X0 : Stand p l e ({ frames := 1, cells := 0, slots := 0, locals := 12 } : Room) s m #[(.ref a1)] below meth c s₁ [] 0 0 := Stand.of_body Bd
  have e0 : s₁.heap = h0 := by rw [← hh, Bd.state]; rfl
  have N0 := Fr.nil n0
  have K : Keep h0 h0 [] := Keep.refl h0 []
  show own_Gd p.tables e below (own_P (Q_rmNum Z a1 h0 n0) s ({ frames := 1, cells := 0, slots := 0, locals := 12 } : Room).cells ({ frames := 1, cells := 0, slots := 0, locals := 12 } : Room).slots) _
  refine own_go (B := s₁.setTop (mkF m 0 #[.val (.ref a1)] [])) (fun t k => castTop (ef_num m a1) k) ?_
  refine own_go (B := s₁.setTop (mkF m 1 #[.val (.ref a1)] [(.ref a1)])) (fun t k => ?_) ?_
  · show Steps p.tables e below (s₁.setTop (mkF m 0 #[.val (.ref a1)] [])) _
    refine XS.aloadN X0.here hx rfl (hb hby d9_0) rfl rfl ?_
    show Steps p.tables e below (s₁.setTop (mkF m 1 #[.val (.ref a1)] [(.ref a1)])) _
    exact k
  obtain ⟨T1, X1, e1, st1⟩ := initO X0 hx hZ hown (hw _ (List.mem_of_getElem? (i := 66) rfl)) (hw _ (List.mem_of_getElem? (i := 22) rfl)) (hw _ (List.mem_of_getElem? (i := 23) rfl)) e0 (g := (mkF m 1 #[.val (.ref a1)] [(.ref a1)])) rfl (by rw [hml]; rfl) rfl (hb hby d9_1) (by decide) (W := 0) (by show 2 * 0 + _ ≤ _; exact Nat.le_of_eq rfl) (by decide)
  refine own_go (B := T1.setTop (mkF m 4 #[.val (.ref a1)] [])) st1 ?_
  obtain ⟨fs, hr, hrun, hended, hW, hsame⟩ := X1.leave (v := none) (fun _ => rfl)
  refine own_done (X1.returnOut hx Bd.returns (hb hby d9_4) hr) hrun hended ⟨_, _, rfl, ?_, ⟨_, rfl⟩, hW, hsame.mono (by decide) (by decide)⟩
  show Q_rmNum Z a1 h0 n0 (none) T1.heap _
  rw [e1]
  exact ⟨rfl, N0, rfl⟩
def Q_rmBi (Z : State) (a1 : Addr) (p1 : Int32) (h0 : Heap) (n0 : Nat) (v : Option Value) (h : Heap) (L : List Loc) : Prop := v = none ∧ Fr n0 L ∧ Keep h0 h [a1] ∧ Exa Z h a1 "java/lang/Integer" ∧ Fld Z h a1 "java/lang/Integer" "value" "I" (.int p1)
theorem ef_bi (m : MethodId) (x0 : Addr) (x1 : Int32) : entryFrame m #[(.ref x0), (.int x1)] 2 = mkF m 0 #[.val (.ref x0), .val (.int x1)] [] := by first | (simp [entryFrame, mkF, argsToLocals, Value.category, maxLocals]; done) | rfl
set_option maxRecDepth 65536 in
set_option maxHeartbeats 40000000 in
theorem rmBi (l : Launch) (Z : State) (a0 : Array Value) (hw : ∀ d ∈ tables_1, d.before a0 Z = true) (ws : List Jvm.Cond) (a1 : Addr) (p1 : Int32) (h0 : Heap) (n0 : Nat) (Z0 : n0 ≤ h0.size) (F_value_a1 : Fld Z h0 a1 "java/lang/Integer" "value" "I" (.int (0 : Int32))) (E_a1 : Exa Z h0 a1 "java/lang/Integer") (g_a1 : n0 ≤ a1) :
    MetFree l (⟨"java/lang/Integer", "<init>", "(I)V"⟩ : MethodName) (head1 (Jvm.Cond.code (⟨"java/lang/Integer", "<init>", "(I)V"⟩ : MethodName) jdk_33_method_23_code 2 none :: ws) ({ frames := 2, cells := 0, slots := 0, locals := 24 } : Room)) (fun a U => a = #[(.ref a1), (.int p1)] ∧ Z.Warmed39 U.vm ∧ U.heap = h0) (fun _ _ _ _ _ => True) (fun _ U o U' => ∃ v L, o = .returned v ∧ Q_rmBi Z a1 p1 h0 n0 v U'.heap L ∧ FrameEnd U o U' L ({ frames := 2, cells := 0, slots := 0, locals := 24 } : Room).cells ({ frames := 2, cells := 0, slots := 0, locals := 24 } : Room).slots) := by
  refine MetFree.of_bodySF (plainFor_of_name pn_8) hisR ?_
  intro p e s m args below meth c s₁ Bd hml0 hP hK
  obtain ⟨rfl, hZ, hh⟩ := hP
  have hx := Bd.exec
  have hby := Bd.bytes
  have hml : c.maxLocals = 2 := hml0
  have hown : s.vm.findClass "java/lang/Integer" = some m.cls := findClass_of_methodNamed Bd.named
  have hnm := (name_of_methodNamed Bd.named Bd.method).1
  have X0 : Stand p l e ({ frames := 2, cells := 0, slots := 0, locals := 24 } : Room) s m #[(.ref a1), (.int p1)] below meth c s₁ [] 0 0 := Stand.of_body Bd
  have e0 : s₁.heap = h0 := by rw [← hh, Bd.state]; rfl
  have N0 := Fr.nil n0
  have K : Keep h0 h0 [a1] := Keep.refl h0 [a1]
  show own_Gd p.tables e below (own_P (Q_rmBi Z a1 p1 h0 n0) s ({ frames := 2, cells := 0, slots := 0, locals := 24 } : Room).cells ({ frames := 2, cells := 0, slots := 0, locals := 24 } : Room).slots) _
  refine own_go (B := s₁.setTop (mkF m 0 #[.val (.ref a1), .val (.int p1)] [])) (fun t k => castTop (ef_bi m a1 p1) k) ?_
  refine own_go (B := s₁.setTop (mkF m 1 #[.val (.ref a1), .val (.int p1)] [(.ref a1)])) (fun t k => ?_) ?_
  · show Steps p.tables e below (s₁.setTop (mkF m 0 #[.val (.ref a1), .val (.int p1)] [])) _
    refine XS.aloadN X0.here hx rfl (hb hby d8_0) rfl rfl ?_
    show Steps p.tables e below (s₁.setTop (mkF m 1 #[.val (.ref a1), .val (.int p1)] [(.ref a1)])) _
    exact k
  obtain ⟨_, _, ⟨T1, L1, k1, n1⟩, -, X1, ⟨Lc1, hQ1, l1, y1, z1⟩, st1⟩ := X0.specialBack hx (y := (⟨"java/lang/Number", "<init>", "()V"⟩ : MethodName)) rfl hown (mvT hZ (hw _ (List.mem_of_getElem? (i := 60) rfl))) (mvT hZ (hw _ (List.mem_of_getElem? (i := 61) rfl))) (mvT hZ (hw _ (List.mem_of_getElem? (i := 65) rfl))) (by decide) (backOf (W := 0) (rmNum l Z a0 hw [] a1 h0 n0 Z0) hZ (hw _ (List.mem_of_getElem? (i := 65) rfl)) (hw _ (List.mem_of_getElem? (i := 64) rfl)) (by decide) (by decide)) (g := (mkF m 1 #[.val (.ref a1), .val (.int p1)] [(.ref a1)])) rfl (by rw [hml]; rfl) (Steps.refl _) (a := a1) (argsL := []) (rest := []) (lenOf pd_0 rfl) rfl (by show 2 * 0 + _ ≤ _; exact Nat.le_of_eq rfl) (hb hby d8_1) (fun _ _ => ⟨rfl, e0, Nat.le_of_ble_eq_true rfl, Nat.le_of_ble_eq_true rfl⟩)
  dsimp only [Pt.U, Pt.locs, Pt.cells, Pt.slots] at X1 l1 y1 z1 st1 hQ1
  subst l1 y1 z1
  obtain ⟨h1, e1⟩ : ∃ z, T1.heap = z := ⟨_, rfl⟩
  rw [e1] at hQ1
  obtain ⟨rfl, N1q, eq1⟩ := hQ1
  have N1 := Fr.app N0 N1q
  rw [eq1] at e1
  refine own_go (B := T1.setTop (mkF m 4 #[.val (.ref a1), .val (.int p1)] [])) (fun t k => st1.trans k) ?_
  refine own_go (B := T1.setTop (mkF m 6 #[.val (.ref a1), .val (.int p1)] [(.int p1), (.ref a1)])) (fun t k => ?_) ?_
  · show Steps p.tables e below (T1.setTop (mkF m 4 #[.val (.ref a1), .val (.int p1)] [])) _
    refine XS.aloadN X1.here hx rfl (hb hby d8_4) rfl rfl ?_
    show Steps p.tables e below (T1.setTop (mkF m 5 #[.val (.ref a1), .val (.int p1)] [(.ref a1)])) _
    refine XS.iloadN X1.here hx rfl (hb hby d8_5) rfl ?_
    show Steps p.tables e below (T1.setTop (mkF m 6 #[.val (.ref a1), .val (.int p1)] [(.int p1), (.ref a1)])) _
    exact k
  obtain ⟨T2, h2, X2, e2, W2, st2⟩ := putF X1 hx hZ hown (host := "") (Or.inl (hw _ (List.mem_of_getElem? (i := 53) rfl))) Via.refl e1 F_value_a1 E_a1 (Or.inr ⟨(hw _ (List.mem_of_getElem? (i := 54) rfl)), rfl, hnm⟩) (hw _ (List.mem_of_getElem? (i := 56) rfl)) (v := (.int p1)) (ty := .int) (by decide) rfl rfl (g := (mkF m 6 #[.val (.ref a1), .val (.int p1)] [(.int p1), (.ref a1)])) rfl rfl (hb hby d8_6)
  have Fw2 := F_value_a1.same W2
  have E_a1 := E_a1.wr W2
  have Z0 := Nat.le_trans Z0 (Nat.le_of_eq W2.size.symm)
  have F_value_a1 := Fw2
  have K := K.wr W2 (Or.inl (List.mem_of_getElem? (i := 0) rfl))
  have N2 := Fr.snoc X2 N1 g_a1
  refine own_go (B := T2.setTop (mkF m 9 #[.val (.ref a1), .val (.int p1)] [])) st2 ?_
  obtain ⟨fs, hr, hrun, hended, hW, hsame⟩ := X2.leave (v := none) (fun _ => rfl)
  refine own_done (X2.returnOut hx Bd.returns (hb hby d8_9) hr) hrun hended ⟨_, _, rfl, ?_, ⟨_, rfl⟩, hW, hsame.mono (by decide) (by decide)⟩
  show Q_rmBi Z a1 p1 h0 n0 (none) T2.heap _
  rw [e2]
  exact ⟨rfl, N2, K, E_a1, F_value_a1⟩
def Q_rmBox (Z : State) (p1 : Int32) (h0 : Heap) (n0 : Nat) (v : Option Value) (h : Heap) (L : List Loc) : Prop := ∃ b, v = some (.ref b) ∧ Fr n0 L ∧ Keep h0 h [] ∧ Exa Z h b "java/lang/Integer" ∧ Fld Z h b "java/lang/Integer" "value" "I" (.int p1)
theorem ef_box (m : MethodId) (x0 : Int32) : entryFrame m #[(.int x0)] 1 = mkF m 0 #[.val (.int x0)] [] := by first | (simp [entryFrame, mkF, argsToLocals, Value.category, maxLocals]; done) | rfl
set_option maxRecDepth 65536 in
set_option maxHeartbeats 40000000 in
theorem rmBox (l : Launch) (Z : State) (a0 : Array Value) (hw : ∀ d ∈ tables_1, d.before a0 Z = true) (ws : List Jvm.Cond) (p1 : Int32) (wcache : Addr) (ccache : Cell) (h0 : Heap) (n0 : Nat) (Z0 : n0 ≤ h0.size) (S_high : Sta Z Z.heap "java/lang/Integer$IntegerCache" "high" "I" (.int (127 : Int32))) (S_cache : Sta Z Z.heap "java/lang/Integer$IntegerCache" "cache" "[Ljava/lang/Integer;" (.ref wcache)) (BX : Bxs Z wcache ccache "java/lang/Integer" "I" (256 : Int32) own_bxval) (O : Old Z n0 h0) :
    MetFree l (⟨"java/lang/Integer", "valueOf", "(I)Ljava/lang/Integer;"⟩ : MethodName) (head1 (Jvm.Cond.code (⟨"java/lang/Integer", "valueOf", "(I)Ljava/lang/Integer;"⟩ : MethodName) jdk_33_method_22_code 1 (some (.object "java/lang/Integer")) :: ws) ({ frames := 3, cells := 1, slots := 1, locals := 38 } : Room)) (fun a U => a = #[(.int p1)] ∧ Z.Warmed39 U.vm ∧ U.heap = h0) (fun _ _ _ _ _ => True) (fun _ U o U' => ∃ v L, o = .returned v ∧ Q_rmBox Z p1 h0 n0 v U'.heap L ∧ FrameEnd U o U' L ({ frames := 3, cells := 1, slots := 1, locals := 38 } : Room).cells ({ frames := 3, cells := 1, slots := 1, locals := 38 } : Room).slots) := by
  refine MetFree.of_bodySF (plainFor_of_name pn_1) hisR ?_
  intro p e s m args below meth c s₁ Bd hml0 hP hK
  obtain ⟨rfl, hZ, hh⟩ := hP
  have hx := Bd.exec
  have hby := Bd.bytes
  have hml : c.maxLocals = 1 := hml0
  have hown : s.vm.findClass "java/lang/Integer" = some m.cls := findClass_of_methodNamed Bd.named
  have hnm := (name_of_methodNamed Bd.named Bd.method).1
  have X0 : Stand p l e ({ frames := 3, cells := 1, slots := 1, locals := 38 } : Room) s m #[(.int p1)] below meth c s₁ [] 0 0 := Stand.of_body Bd
  have e0 : s₁.heap = h0 := by rw [← hh, Bd.state]; rfl
  have N0 := Fr.nil n0
  have K : Keep h0 h0 [] := Keep.refl h0 []
  show own_Gd p.tables e below (own_P (Q_rmBox Z p1 h0 n0) s ({ frames := 3, cells := 1, slots := 1, locals := 38 } : Room).cells ({ frames := 3, cells := 1, slots := 1, locals := 38 } : Room).slots) _
  refine own_go (B := s₁.setTop (mkF m 0 #[.val (.int p1)] [])) (fun t k => castTop (ef_box m p1) k) ?_
  refine own_go (B := s₁.setTop (mkF m 3 #[.val (.int p1)] [(.int (-128 : Int32)), (.int p1)])) (fun t k => ?_) ?_
  · show Steps p.tables e below (s₁.setTop (mkF m 0 #[.val (.int p1)] [])) _
    refine XS.iloadN X0.here hx rfl (hb hby d1_0) rfl ?_
    show Steps p.tables e below (s₁.setTop (mkF m 1 #[.val (.int p1)] [(.int p1)])) _
    refine XS.bipush X0.here hx rfl (hb hby d1_1) ?_
    show Steps p.tables e below (s₁.setTop (mkF m 3 #[.val (.int p1)] [(.int (-128 : Int32)), (.int p1)])) _
    exact k
  by_cases hc3 : p1 < (-128 : Int32)
  · refine own_go (B := s₁.setTop (mkF m 23 #[.val (.int p1)] [])) (fun t k => ?_) ?_
    · show Steps p.tables e below (s₁.setTop (mkF m 3 #[.val (.int p1)] [(.int (-128 : Int32)), (.int p1)])) _
      refine XS.icmpYes X0.here hx rfl (pc0 := 3) (pc' := 23) rfl (hb hby d1_3) rfl (tlt hc3).1 (by decide) (by decide) ?_
      show Steps p.tables e below (s₁.setTop (mkF m 23 #[.val (.int p1)] [])) _
      exact k
    obtain ⟨T1, h1, X1, e1, E1, A1, D1, U1, st1⟩ := newO X0 hx hZ hown (hw _ (List.mem_of_getElem? (i := 55) rfl)) (hw _ (List.mem_of_getElem? (i := 56) rfl)) (hw _ (List.mem_of_getElem? (i := 5) rfl)) e0 (g := (mkF m 23 #[.val (.int p1)] [])) rfl (hb hby d1_23) (by decide) (by decide)
    obtain ⟨b1, g1⟩ : ∃ z, z = h0.size := ⟨_, rfl⟩
    rw [← g1] at A1 D1 U1 st1
    have g_b1 : n0 ≤ b1 := Nat.le_trans Z0 (Nat.le_of_eq g1.symm)
    have sz_b1 : h0.size ≤ b1 := Nat.le_trans K.1 (Nat.le_of_eq g1.symm)
    have K := K.ext E1
    have Z0 := Nat.le_trans Z0 E1.1
    have O := O.ext E1
    have E_b1 := A1
    have F_value_b1 : Fld Z h1 b1 "java/lang/Integer" "value" "I" (.int (0 : Int32)) := D1 (Or.inr (hw _ (List.mem_of_getElem? (i := 54) rfl))) (ty := .int) (by decide)
    refine own_go (B := T1.setTop (mkF m 26 #[.val (.int p1)] [(.ref b1)])) st1 ?_
    refine own_go (B := T1.setTop (mkF m 28 #[.val (.int p1)] [(.int p1), (.ref b1), (.ref b1)])) (fun t k => ?_) ?_
    · show Steps p.tables e below (T1.setTop (mkF m 26 #[.val (.int p1)] [(.ref b1)])) _
      refine XS.dup X1.here hx rfl (hb hby d1_26) rfl rfl ?_
      show Steps p.tables e below (T1.setTop (mkF m 27 #[.val (.int p1)] [(.ref b1), (.ref b1)])) _
      refine XS.iloadN X1.here hx rfl (hb hby d1_27) rfl ?_
      show Steps p.tables e below (T1.setTop (mkF m 28 #[.val (.int p1)] [(.int p1), (.ref b1), (.ref b1)])) _
      exact k
    obtain ⟨_, _, ⟨T2, L2, k2, n2⟩, -, X2, ⟨Lc2, hQ2, l2, y2, z2⟩, st2⟩ := X1.specialBack hx (y := (⟨"java/lang/Integer", "<init>", "(I)V"⟩ : MethodName)) rfl hown (mvT hZ (hw _ (List.mem_of_getElem? (i := 57) rfl))) (mvT hZ (hw _ (List.mem_of_getElem? (i := 58) rfl))) (mvT hZ (hw _ (List.mem_of_getElem? (i := 59) rfl))) (by decide) (backOf (W := 1) (rmBi l Z a0 hw [] b1 p1 h1 n0 Z0 F_value_b1 E_b1 g_b1) hZ (hw _ (List.mem_of_getElem? (i := 59) rfl)) (hw _ (List.mem_of_getElem? (i := 5) rfl)) (by decide) (by decide)) (g := (mkF m 28 #[.val (.int p1)] [(.int p1), (.ref b1), (.ref b1)])) rfl (by rw [hml]; rfl) (Steps.refl _) (a := b1) (argsL := [(.int p1)]) (rest := [(.ref b1)]) (lenOf pd_1 rfl) rfl (by show 2 * 0 + _ ≤ _; exact Nat.le_of_eq rfl) (hb hby d1_28) (fun _ _ => ⟨rfl, e1, Nat.le_of_ble_eq_true rfl, Nat.le_of_ble_eq_true rfl⟩)
    dsimp only [Pt.U, Pt.locs, Pt.cells, Pt.slots] at X2 l2 y2 z2 st2 hQ2
    subst l2 y2 z2
    obtain ⟨h2, e2⟩ : ∃ z, T2.heap = z := ⟨_, rfl⟩
    rw [e2] at hQ2
    obtain ⟨rfl, N2q, Kc2, Ec2, Fc2⟩ := hQ2
    have N2 := Fr.app N0 N2q
    have E_b1 := E_b1.keep Kc2
    have K := K.trans Kc2 (allS (Or.inr sz_b1) all0)
    have Z0 := Nat.le_trans Z0 Kc2.1
    have O := O.keep Kc2 (allS g_b1 all0)
    have E_b1 := Ec2
    have F_value_b1 := Fc2
    refine own_go (B := T2.setTop (mkF m 31 #[.val (.int p1)] [(.ref b1)])) (fun t k => st2.trans k) ?_
    obtain ⟨fs, hr, hrun, hended, hW, hsame⟩ := X2.leave (v := some (.ref b1)) (fun h => by rw [Bd.returns] at h; cases h)
    refine own_done (retOut X2 hx Bd.returns rfl (Or.inr (Or.inr (Or.inr (Or.inr ⟨rfl, rfl, rfl⟩)))) (hb hby d1_31) hr) hrun hended ⟨_, _, rfl, ?_, ⟨_, rfl⟩, hW, hsame.mono (by decide) (by decide)⟩
    show Q_rmBox Z p1 h0 n0 (some (.ref b1)) T2.heap _
    rw [e2]
    exact ⟨b1, rfl, N2, K, E_b1, F_value_b1⟩
  · refine own_go (B := s₁.setTop (mkF m 7 #[.val (.int p1)] [(.int p1)])) (fun t k => ?_) ?_
    · show Steps p.tables e below (s₁.setTop (mkF m 3 #[.val (.int p1)] [(.int (-128 : Int32)), (.int p1)])) _
      refine XS.icmpNo X0.here hx rfl (hb hby d1_3) rfl (flt hc3).1 ?_
      show Steps p.tables e below (s₁.setTop (mkF m 6 #[.val (.int p1)] [])) _
      refine XS.iloadN X0.here hx rfl (hb hby d1_6) rfl ?_
      show Steps p.tables e below (s₁.setTop (mkF m 7 #[.val (.int p1)] [(.int p1)])) _
      exact k
    obtain ⟨T3, X3, e3, st3⟩ := getS2 X0 hx hZ hown (host := "") (Or.inl (hw _ (List.mem_of_getElem? (i := 7) rfl))) Via.refl e0 (S_high.ext O.2) (g := (mkF m 7 #[.val (.int p1)] [(.int p1)])) rfl (hb hby d1_7)
    refine own_go (B := T3.setTop (mkF m 10 #[.val (.int p1)] [(.int (127 : Int32)), (.int p1)])) st3 ?_
    by_cases hc10 : (127 : Int32) < p1
    · refine own_go (B := T3.setTop (mkF m 23 #[.val (.int p1)] [])) (fun t k => ?_) ?_
      · show Steps p.tables e below (T3.setTop (mkF m 10 #[.val (.int p1)] [(.int (127 : Int32)), (.int p1)])) _
        refine XS.icmpYes X3.here hx rfl (pc0 := 10) (pc' := 23) rfl (hb hby d1_10) rfl (tlt hc10).2.2.1 (by decide) (by decide) ?_
        show Steps p.tables e below (T3.setTop (mkF m 23 #[.val (.int p1)] [])) _
        exact k
      obtain ⟨T4, h4, X4, e4, E4, A4, D4, U4, st4⟩ := newO X3 hx hZ hown (hw _ (List.mem_of_getElem? (i := 55) rfl)) (hw _ (List.mem_of_getElem? (i := 56) rfl)) (hw _ (List.mem_of_getElem? (i := 5) rfl)) e3 (g := (mkF m 23 #[.val (.int p1)] [])) rfl (hb hby d1_23) (by decide) (by decide)
      obtain ⟨b4, g4⟩ : ∃ z, z = h0.size := ⟨_, rfl⟩
      rw [← g4] at A4 D4 U4 st4
      have g_b4 : n0 ≤ b4 := Nat.le_trans Z0 (Nat.le_of_eq g4.symm)
      have sz_b4 : h0.size ≤ b4 := Nat.le_trans K.1 (Nat.le_of_eq g4.symm)
      have K := K.ext E4
      have Z0 := Nat.le_trans Z0 E4.1
      have O := O.ext E4
      have E_b4 := A4
      have F_value_b4 : Fld Z h4 b4 "java/lang/Integer" "value" "I" (.int (0 : Int32)) := D4 (Or.inr (hw _ (List.mem_of_getElem? (i := 54) rfl))) (ty := .int) (by decide)
      refine own_go (B := T4.setTop (mkF m 26 #[.val (.int p1)] [(.ref b4)])) st4 ?_
      refine own_go (B := T4.setTop (mkF m 28 #[.val (.int p1)] [(.int p1), (.ref b4), (.ref b4)])) (fun t k => ?_) ?_
      · show Steps p.tables e below (T4.setTop (mkF m 26 #[.val (.int p1)] [(.ref b4)])) _
        refine XS.dup X4.here hx rfl (hb hby d1_26) rfl rfl ?_
        show Steps p.tables e below (T4.setTop (mkF m 27 #[.val (.int p1)] [(.ref b4), (.ref b4)])) _
        refine XS.iloadN X4.here hx rfl (hb hby d1_27) rfl ?_
        show Steps p.tables e below (T4.setTop (mkF m 28 #[.val (.int p1)] [(.int p1), (.ref b4), (.ref b4)])) _
        exact k
      obtain ⟨_, _, ⟨T5, L5, k5, n5⟩, -, X5, ⟨Lc5, hQ5, l5, y5, z5⟩, st5⟩ := X4.specialBack hx (y := (⟨"java/lang/Integer", "<init>", "(I)V"⟩ : MethodName)) rfl hown (mvT hZ (hw _ (List.mem_of_getElem? (i := 57) rfl))) (mvT hZ (hw _ (List.mem_of_getElem? (i := 58) rfl))) (mvT hZ (hw _ (List.mem_of_getElem? (i := 59) rfl))) (by decide) (backOf (W := 1) (rmBi l Z a0 hw [] b4 p1 h4 n0 Z0 F_value_b4 E_b4 g_b4) hZ (hw _ (List.mem_of_getElem? (i := 59) rfl)) (hw _ (List.mem_of_getElem? (i := 5) rfl)) (by decide) (by decide)) (g := (mkF m 28 #[.val (.int p1)] [(.int p1), (.ref b4), (.ref b4)])) rfl (by rw [hml]; rfl) (Steps.refl _) (a := b4) (argsL := [(.int p1)]) (rest := [(.ref b4)]) (lenOf pd_1 rfl) rfl (by show 2 * 0 + _ ≤ _; exact Nat.le_of_eq rfl) (hb hby d1_28) (fun _ _ => ⟨rfl, e4, Nat.le_of_ble_eq_true rfl, Nat.le_of_ble_eq_true rfl⟩)
      dsimp only [Pt.U, Pt.locs, Pt.cells, Pt.slots] at X5 l5 y5 z5 st5 hQ5
      subst l5 y5 z5
      obtain ⟨h5, e5⟩ : ∃ z, T5.heap = z := ⟨_, rfl⟩
      rw [e5] at hQ5
      obtain ⟨rfl, N5q, Kc5, Ec5, Fc5⟩ := hQ5
      have N5 := Fr.app N0 N5q
      have E_b4 := E_b4.keep Kc5
      have K := K.trans Kc5 (allS (Or.inr sz_b4) all0)
      have Z0 := Nat.le_trans Z0 Kc5.1
      have O := O.keep Kc5 (allS g_b4 all0)
      have E_b4 := Ec5
      have F_value_b4 := Fc5
      refine own_go (B := T5.setTop (mkF m 31 #[.val (.int p1)] [(.ref b4)])) (fun t k => st5.trans k) ?_
      obtain ⟨fs, hr, hrun, hended, hW, hsame⟩ := X5.leave (v := some (.ref b4)) (fun h => by rw [Bd.returns] at h; cases h)
      refine own_done (retOut X5 hx Bd.returns rfl (Or.inr (Or.inr (Or.inr (Or.inr ⟨rfl, rfl, rfl⟩)))) (hb hby d1_31) hr) hrun hended ⟨_, _, rfl, ?_, ⟨_, rfl⟩, hW, hsame.mono (by decide) (by decide)⟩
      show Q_rmBox Z p1 h0 n0 (some (.ref b4)) T5.heap _
      rw [e5]
      exact ⟨b4, rfl, N5, K, E_b4, F_value_b4⟩
    · refine own_go (B := T3.setTop (mkF m 13 #[.val (.int p1)] [])) (fun t k => ?_) ?_
      · show Steps p.tables e below (T3.setTop (mkF m 10 #[.val (.int p1)] [(.int (127 : Int32)), (.int p1)])) _
        refine XS.icmpNo X3.here hx rfl (hb hby d1_10) rfl (flt hc10).2.2.1 ?_
        show Steps p.tables e below (T3.setTop (mkF m 13 #[.val (.int p1)] [])) _
        exact k
      obtain ⟨T6, X6, e6, st6⟩ := getS2 X3 hx hZ hown (host := "") (Or.inl (hw _ (List.mem_of_getElem? (i := 9) rfl))) Via.refl e3 (S_cache.ext O.2) (g := (mkF m 13 #[.val (.int p1)] [])) rfl (hb hby d1_13)
      refine own_go (B := T6.setTop (mkF m 16 #[.val (.int p1)] [(.ref wcache)])) st6 ?_
      refine own_go (B := T6.setTop (mkF m 21 #[.val (.int p1)] [(.int (p1 + (128 : Int32))), (.ref wcache)])) (fun t k => ?_) ?_
      · show Steps p.tables e below (T6.setTop (mkF m 16 #[.val (.int p1)] [(.ref wcache)])) _
        refine XS.iloadN X6.here hx rfl (hb hby d1_16) rfl ?_
        show Steps p.tables e below (T6.setTop (mkF m 17 #[.val (.int p1)] [(.int p1), (.ref wcache)])) _
        refine XS.sipush X6.here hx rfl (hb hby d1_17) ?_
        show Steps p.tables e below (T6.setTop (mkF m 20 #[.val (.int p1)] [(.int (128 : Int32)), (.int p1), (.ref wcache)])) _
        refine XS.iadd X6.here hx rfl (hb hby d1_20) rfl ?_
        show Steps p.tables e below (T6.setTop (mkF m 21 #[.val (.int p1)] [(.int (p1 + (128 : Int32))), (.ref wcache)])) _
        exact k
      have hin := inb_of BX.2.1 (own_bxin p1 hc3 hc10).1
      obtain ⟨bx, hat, Ebx, Fbx⟩ := BX.2.2.2 (p1 + (128 : Int32)) hin
      have Ebx := Ebx.ext O.2
      have Fbx := Fbx.ext O.2
      rw [(own_bxin p1 hc3 hc10).2] at Fbx
      refine own_go (B := T6.setTop (mkF m 22 #[.val (.int p1)] [(.ref bx)])) (fun t k => ?_) ?_
      · show Steps p.tables e below (T6.setTop (mkF m 21 #[.val (.int p1)] [(.int (p1 + (128 : Int32))), (.ref wcache)])) _
        refine X6.aaload hx (j := (p1 + (128 : Int32))) (v := (.ref bx)) (by rw [e6]; exact (BX.1.ext O.2).1) (State.isArrayOf_alike hZ.alike BX.1.2.1) rfl BX.1.2.2 hin hat (g := (mkF m 21 #[.val (.int p1)] [(.int (p1 + (128 : Int32))), (.ref wcache)])) rfl rfl (hb hby d1_21) _ ?_
        show Steps p.tables e below (T6.setTop (mkF m 22 #[.val (.int p1)] [(.ref bx)])) _
        exact k
      obtain ⟨fs, hr, hrun, hended, hW, hsame⟩ := X6.leave (v := some (.ref bx)) (fun h => by rw [Bd.returns] at h; cases h)
      refine own_done (retOut X6 hx Bd.returns rfl (Or.inr (Or.inr (Or.inr (Or.inr ⟨rfl, rfl, rfl⟩)))) (hb hby d1_22) hr) hrun hended ⟨_, _, rfl, ?_, ⟨_, rfl⟩, hW, hsame.mono (by decide) (by decide)⟩
      show Q_rmBox Z p1 h0 n0 (some (.ref bx)) T6.heap _
      rw [e6]
      exact ⟨bx, rfl, N0, K, Ebx, Fbx⟩
theorem d2_0 : decode prog_21_method_1_code 0 = .ok (.aload_n 0, 1) := by decide +kernel
theorem d2_1 : decode prog_21_method_1_code 1 = .ok (.invokespecial 1, 3) := by decide +kernel
theorem d2_4 : decode prog_21_method_1_code 4 = .ok (.aload_n 1, 1) := by decide +kernel
theorem d2_5 : decode prog_21_method_1_code 5 = .ok (.ldc 7, 2) := by decide +kernel
theorem d2_7 : decode prog_21_method_1_code 7 = .ok (.invokestatic 9, 3) := by decide +kernel
theorem d2_10 : decode prog_21_method_1_code 10 = .ok (.pop, 1) := by decide +kernel
theorem d2_11 : decode prog_21_method_1_code 11 = .ok (.aload_n 0, 1) := by decide +kernel
theorem d2_12 : decode prog_21_method_1_code 12 = .ok (.aload_n 1, 1) := by decide +kernel
theorem d2_13 : decode prog_21_method_1_code 13 = .ok (.putfield 15, 3) := by decide +kernel
theorem d2_16 : decode prog_21_method_1_code 16 = .ok (.aload_n 0, 1) := by decide +kernel
theorem d2_17 : decode prog_21_method_1_code 17 = .ok (.aload_n 2, 1) := by decide +kernel
theorem d2_18 : decode prog_21_method_1_code 18 = .ok (.putfield 20, 3) := by decide +kernel
theorem d2_21 : decode prog_21_method_1_code 21 = .ok (.return_, 1) := by decide +kernel
theorem d6_0 : decode prog_21_method_7_code 0 = .ok (.aload_n 0, 1) := by decide +kernel
theorem d6_1 : decode prog_21_method_7_code 1 = .ok (.getfield 15, 3) := by decide +kernel
theorem d6_4 : decode prog_21_method_7_code 4 = .ok (.getstatic 24, 3) := by decide +kernel
theorem d6_7 : decode prog_21_method_7_code 7 = .ok (.if_acmp .eq 33, 3) := by decide +kernel
theorem d6_10 : decode prog_21_method_7_code 10 = .ok (.aload_n 0, 1) := by decide +kernel
theorem d6_11 : decode prog_21_method_7_code 11 = .ok (.getfield 15, 3) := by decide +kernel
theorem d6_14 : decode prog_21_method_7_code 14 = .ok (.getstatic 32, 3) := by decide +kernel
theorem d6_17 : decode prog_21_method_7_code 17 = .ok (.if_acmp .eq 23, 3) := by decide +kernel
theorem d6_20 : decode prog_21_method_7_code 20 = .ok (.new 44, 3) := by decide +kernel
theorem d6_23 : decode prog_21_method_7_code 23 = .ok (.dup, 1) := by decide +kernel
theorem d6_24 : decode prog_21_method_7_code 24 = .ok (.aload_n 0, 1) := by decide +kernel
theorem d6_25 : decode prog_21_method_7_code 25 = .ok (.getfield 15, 3) := by decide +kernel
theorem d6_28 : decode prog_21_method_7_code 28 = .ok (.invokestatic 46, 3) := by decide +kernel
theorem d6_31 : decode prog_21_method_7_code 31 = .ok (.invokedynamic 52, 5) := by decide +kernel
theorem d6_36 : decode prog_21_method_7_code 36 = .ok (.invokespecial 56, 3) := by decide +kernel
theorem d6_39 : decode prog_21_method_7_code 39 = .ok (.athrow, 1) := by decide +kernel
theorem d6_40 : decode prog_21_method_7_code 40 = .ok (.aload_n 0, 1) := by decide +kernel
theorem d6_41 : decode prog_21_method_7_code 41 = .ok (.getfield 20, 3) := by decide +kernel
theorem d6_44 : decode prog_21_method_7_code 44 = .ok (.areturn, 1) := by decide +kernel
def Q_rm2n (Z : State) (a1 a2 : Addr) (h0 : Heap) (n0 : Nat) (v : Option Value) (h : Heap) (L : List Loc) : Prop := v = none ∧ Fr n0 L ∧ Keep h0 h [a1] ∧ Exa Z h a1 "com/example/libonce/libonce/core/Outcome" ∧ Fld Z h a1 "com/example/libonce/libonce/core/Outcome" "kind" "Lcom/example/libonce/libonce/core/Outcome$Kind;" (.ref a2) ∧ Fld Z h a1 "com/example/libonce/libonce/core/Outcome" "result" "Ljava/lang/Object;" .null
theorem ef_2n (m : MethodId) (x0 : Addr) (x1 : Addr) : entryFrame m #[(.ref x0), (.ref x1), .null] 3 = mkF m 0 #[.val (.ref x0), .val (.ref x1), .val .null] [] := by first | (simp [entryFrame, mkF, argsToLocals, Value.category, maxLocals]; done) | rfl
set_option maxRecDepth 65536 in
set_option maxHeartbeats 40000000 in
theorem rm2n (l : Launch) (Z : State) (a0 : Array Value) (hw : ∀ d ∈ tables_1, d.before a0 Z = true) (ws : List Jvm.Cond) (a1 a2 : Addr) (h0 : Heap) (n0 : Nat) (Z0 : n0 ≤ h0.size) (F_kind_a1 : Fld Z h0 a1 "com/example/libonce/libonce/core/Outcome" "kind" "Lcom/example/libonce/libonce/core/Outcome$Kind;" .null) (F_result_a1 : Fld Z h0 a1 "com/example/libonce/libonce/core/Outcome" "result" "Ljava/lang/Object;" .null) (E_a1 : Exa Z h0 a1 "com/example/libonce/libonce/core/Outcome") (g_a1 : n0 ≤ a1) :
    MetFree l (⟨"com/example/libonce/libonce/core/Outcome", "<init>", "(Lcom/example/libonce/libonce/core/Outcome$Kind;Ljava/lang/Object;)V"⟩ : MethodName) (head1 (Jvm.Cond.code (⟨"com/example/libonce/libonce/core/Outcome", "<init>", "(Lcom/example/libonce/libonce/core/Outcome$Kind;Ljava/lang/Object;)V"⟩ : MethodName) prog_21_method_1_code 3 none :: ws) ({ frames := 2, cells := 2, slots := 20, locals := 24 } : Room)) (fun a U => a = #[(.ref a1), (.ref a2), .null] ∧ Z.Warmed39 U.vm ∧ U.heap = h0) (fun _ _ _ _ _ => True) (fun _ U o U' => ∃ v L, o = .returned v ∧ Q_rm2n Z a1 a2 h0 n0 v U'.heap L ∧ ReturnedEndW U o U' L ({ frames := 2, cells := 2, slots := 20, locals := 24 } : Room).cells ({ frames := 2, cells := 2, slots := 20, locals := 24 } : Room).slots) := by
  refine MetFree.of_bodySF (plainFor_of_name pn_2) hisR ?_
  intro p e s m args below meth c s₁ Bd hml0 hP hK
  obtain ⟨rfl, hZ, hh⟩ := hP
  have hx := Bd.exec
  have hby := Bd.bytes
  have hml : c.maxLocals = 3 := hml0
  have hown : s.vm.findClass "com/example/libonce/libonce/core/Outcome" = some m.cls := findClass_of_methodNamed Bd.named
  have hnm := (name_of_methodNamed Bd.named Bd.method).1
  have hZ : Z.Warmed39 (s.setVm s.vm).vm := hZ
  have hown : (s.setVm s.vm).vm.findClass "com/example/libonce/libonce/core/Outcome" = some m.cls := hown
  have hS : s.Since s.vm 0 := (State.WarmedH.refl s).since 0
  have hk : 0 ≤ h0.size := Nat.zero_le _
  have X0 : Stand p l e ({ frames := 2, cells := 2, slots := 20, locals := 24 } : Room) (s.setVm s.vm) m #[(.ref a1), (.ref a2), .null] below meth c s₁ [] 0 0 := Stand.of_body Bd
  have e0 : s₁.heap = h0 := by rw [← hh, Bd.state]; rfl
  have N0 := Fr.nil n0
  have K : Keep h0 h0 [a1] := Keep.refl h0 [a1]
  show own_Gd p.tables e below (own_PW (Q_rm2n Z a1 a2 h0 n0) s ({ frames := 2, cells := 2, slots := 20, locals := 24 } : Room).cells ({ frames := 2, cells := 2, slots := 20, locals := 24 } : Room).slots) _
  refine own_go (B := s₁.setTop (mkF m 0 #[.val (.ref a1), .val (.ref a2), .val .null] [])) (fun t k => castTop (ef_2n m a1 a2) k) ?_
  refine own_go (B := s₁.setTop (mkF m 1 #[.val (.ref a1), .val (.ref a2), .val .null] [(.ref a1)])) (fun t k => ?_) ?_
  · show Steps p.tables e below (s₁.setTop (mkF m 0 #[.val (.ref a1), .val (.ref a2), .val .null] [])) _
    refine XS.aloadN X0.here hx rfl (hb hby d2_0) rfl rfl ?_
    show Steps p.tables e below (s₁.setTop (mkF m 1 #[.val (.ref a1), .val (.ref a2), .val .null] [(.ref a1)])) _
    exact k
  obtain ⟨_, _, ⟨T1, L1, k1, n1⟩, -, X1, ⟨Lc1, hQ1, l1, y1, z1⟩, st1⟩ := X0.specialBack hx (y := (⟨"java/lang/Record", "<init>", "()V"⟩ : MethodName)) rfl hown (mvT hZ (hw _ (List.mem_of_getElem? (i := 16) rfl))) (mvT hZ (hw _ (List.mem_of_getElem? (i := 17) rfl))) (mvT hZ (hw _ (List.mem_of_getElem? (i := 20) rfl))) (by decide) (backOf (W := 0) (rm3 l Z a0 hw [] a1 h0 n0 Z0) hZ (hw _ (List.mem_of_getElem? (i := 20) rfl)) (hw _ (List.mem_of_getElem? (i := 19) rfl)) (by decide) (by decide)) (g := (mkF m 1 #[.val (.ref a1), .val (.ref a2), .val .null] [(.ref a1)])) rfl (by rw [hml]; rfl) (Steps.refl _) (a := a1) (argsL := []) (rest := []) (lenOf pd_0 rfl) rfl (by show 2 * 0 + _ ≤ _; exact Nat.le_of_eq rfl) (hb hby d2_1) (fun _ _ => ⟨rfl, e0, Nat.le_of_ble_eq_true rfl, Nat.le_of_ble_eq_true rfl⟩)
  dsimp only [Pt.U, Pt.locs, Pt.cells, Pt.slots] at X1 l1 y1 z1 st1 hQ1
  subst l1 y1 z1
  obtain ⟨h1, e1⟩ : ∃ z, T1.heap = z := ⟨_, rfl⟩
  rw [e1] at hQ1
  obtain ⟨rfl, N1q, eq1⟩ := hQ1
  have N1 := Fr.app N0 N1q
  rw [eq1] at e1
  refine own_go (B := T1.setTop (mkF m 4 #[.val (.ref a1), .val (.ref a2), .val .null] [])) (fun t k => st1.trans k) ?_
  refine own_go (B := T1.setTop (mkF m 5 #[.val (.ref a1), .val (.ref a2), .val .null] [(.ref a2)])) (fun t k => ?_) ?_
  · show Steps p.tables e below (T1.setTop (mkF m 4 #[.val (.ref a1), .val (.ref a2), .val .null] [])) _
    refine XS.aloadN X1.here hx rfl (hb hby d2_4) rfl rfl ?_
    show Steps p.tables e below (T1.setTop (mkF m 5 #[.val (.ref a1), .val (.ref a2), .val .null] [(.ref a2)])) _
    exact k
  obtain ⟨lit2, T2, h2, k2, X2, e2, E2, hS, hk, hZ, hown, st2⟩ := ldcS X1 hx hZ hown (hw _ (List.mem_of_getElem? (i := 24) rfl)) (own_strs hw) e1 hS hk (g := (mkF m 5 #[.val (.ref a1), .val (.ref a2), .val .null] [(.ref a2)])) rfl (hb hby d2_5) (n := 16) (by decide) (by decide) (by decide) (by decide)
  have E_a1 := E_a1.ext E2
  have F_kind_a1 := F_kind_a1.ext E2
  have F_result_a1 := F_result_a1.ext E2
  have K := K.ext E2
  have Z0 := Nat.le_trans Z0 E2.1
  refine own_go (B := T2.setTop (mkF m 7 #[.val (.ref a1), .val (.ref a2), .val .null] [(.ref lit2), (.ref a2)])) st2 ?_
  obtain ⟨_, _, ⟨T3, L3, k3, n3⟩, -, X3, ⟨Lc3, hQ3, l3, y3, z3⟩, st3⟩ := Jvm.LawKit.callS X2 hx (y := (⟨"java/util/Objects", "requireNonNull", "(Ljava/lang/Object;Ljava/lang/String;)Ljava/lang/Object;"⟩ : MethodName)) hown (mvT hZ (hw _ (List.mem_of_getElem? (i := 32) rfl))) (mvT hZ (hw _ (List.mem_of_getElem? (i := 33) rfl))) (mvT hZ (hw _ (List.mem_of_getElem? (i := 34) rfl))) (mvT hZ (hw _ (List.mem_of_getElem? (i := 35) rfl))) (by decide) (backOf (W := 0) (rm5 l Z a0 hw [] a2 lit2 h2 n0 Z0) hZ (hw _ (List.mem_of_getElem? (i := 35) rfl)) (hw _ (List.mem_of_getElem? (i := 34) rfl)) (by decide) (by decide)) (g := (mkF m 7 #[.val (.ref a1), .val (.ref a2), .val .null] [(.ref lit2), (.ref a2)])) rfl (by rw [hml]; rfl) (argsL := [(.ref a2), (.ref lit2)]) (rest := []) (lenOf pd_2 rfl) rfl (by show 2 * 0 + _ ≤ _; exact Nat.le_of_eq rfl) (hb hby d2_7) (fun _ _ => ⟨rfl, e2, Nat.le_of_ble_eq_true rfl, Nat.le_of_ble_eq_true rfl⟩)
  dsimp only [Pt.U, Pt.locs, Pt.cells, Pt.slots] at X3 l3 y3 z3 st3 hQ3
  subst l3 y3 z3
  obtain ⟨h3, e3⟩ : ∃ z, T3.heap = z := ⟨_, rfl⟩
  rw [e3] at hQ3
  obtain ⟨rfl, N3q, eq3⟩ := hQ3
  have N3 := Fr.app N1 N3q
  rw [eq3] at e3
  refine own_go (B := T3.setTop (mkF m 10 #[.val (.ref a1), .val (.ref a2), .val .null] [(.ref a2)])) st3 ?_
  refine own_go (B := T3.setTop (mkF m 13 #[.val (.ref a1), .val (.ref a2), .val .null] [(.ref a2), (.ref a1)])) (fun t k => ?_) ?_
  · show Steps p.tables e below (T3.setTop (mkF m 10 #[.val (.ref a1), .val (.ref a2), .val .null] [(.ref a2)])) _
    refine XS.pop X3.here hx rfl (hb hby d2_10) rfl rfl ?_
    show Steps p.tables e below (T3.setTop (mkF m 11 #[.val (.ref a1), .val (.ref a2), .val .null] [])) _
    refine XS.aloadN X3.here hx rfl (hb hby d2_11) rfl rfl ?_
    show Steps p.tables e below (T3.setTop (mkF m 12 #[.val (.ref a1), .val (.ref a2), .val .null] [(.ref a1)])) _
    refine XS.aloadN X3.here hx rfl (hb hby d2_12) rfl rfl ?_
    show Steps p.tables e below (T3.setTop (mkF m 13 #[.val (.ref a1), .val (.ref a2), .val .null] [(.ref a2), (.ref a1)])) _
    exact k
  obtain ⟨T4, h4, X4, e4, W4, st4⟩ := putF X3 hx hZ hown (host := "") (Or.inl (hw _ (List.mem_of_getElem? (i := 36) rfl))) Via.refl e3 F_kind_a1 E_a1 (Or.inr ⟨(hw _ (List.mem_of_getElem? (i := 37) rfl)), rfl, hnm⟩) (hw _ (List.mem_of_getElem? (i := 11) rfl)) (v := (.ref a2)) (ty := (.object "com/example/libonce/libonce/core/Outcome$Kind")) (by decide) rfl rfl (g := (mkF m 13 #[.val (.ref a1), .val (.ref a2), .val .null] [(.ref a2), (.ref a1)])) rfl rfl (hb hby d2_13)
  have Fw4 := F_kind_a1.same W4
  have E_a1 := E_a1.wr W4
  have F_result_a1 := F_result_a1.other W4 (Or.inr (slot_ne (Or.inr (hw _ (List.mem_of_getElem? (i := 39) rfl))) (Or.inr (hw _ (List.mem_of_getElem? (i := 37) rfl))) (by decide) (t := (.object "java/lang/Object")) (t' := (.object "com/example/libonce/libonce/core/Outcome$Kind")) (by decide) (by decide)))
  have Z0 := Nat.le_trans Z0 (Nat.le_of_eq W4.size.symm)
  have hk := Nat.le_trans hk (Nat.le_of_eq W4.size.symm)
  have F_kind_a1 := Fw4
  have K := K.wr W4 (Or.inl (List.mem_of_getElem? (i := 0) rfl))
  have N4 := Fr.snoc X4 N3 g_a1
  refine own_go (B := T4.setTop (mkF m 16 #[.val (.ref a1), .val (.ref a2), .val .null] [])) st4 ?_
  refine own_go (B := T4.setTop (mkF m 18 #[.val (.ref a1), .val (.ref a2), .val .null] [.null, (.ref a1)])) (fun t k => ?_) ?_
  · show Steps p.tables e below (T4.setTop (mkF m 16 #[.val (.ref a1), .val (.ref a2), .val .null] [])) _
    refine XS.aloadN X4.here hx rfl (hb hby d2_16) rfl rfl ?_
    show Steps p.tables e below (T4.setTop (mkF m 17 #[.val (.ref a1), .val (.ref a2), .val .null] [(.ref a1)])) _
    refine XS.aloadN X4.here hx rfl (hb hby d2_17) rfl rfl ?_
    show Steps p.tables e below (T4.setTop (mkF m 18 #[.val (.ref a1), .val (.ref a2), .val .null] [.null, (.ref a1)])) _
    exact k
  obtain ⟨T5, h5, X5, e5, W5, st5⟩ := putF X4 hx hZ hown (host := "") (Or.inl (hw _ (List.mem_of_getElem? (i := 38) rfl))) Via.refl e4 F_result_a1 E_a1 (Or.inr ⟨(hw _ (List.mem_of_getElem? (i := 39) rfl)), rfl, hnm⟩) (hw _ (List.mem_of_getElem? (i := 11) rfl)) (v := .null) (ty := (.object "java/lang/Object")) (by decide) rfl rfl (g := (mkF m 18 #[.val (.ref a1), .val (.ref a2), .val .null] [.null, (.ref a1)])) rfl rfl (hb hby d2_18)
  have Fw5 := F_result_a1.same W5
  have E_a1 := E_a1.wr W5
  have F_kind_a1 := F_kind_a1.other W5 (Or.inr (slot_ne (Or.inr (hw _ (List.mem_of_getElem? (i := 37) rfl))) (Or.inr (hw _ (List.mem_of_getElem? (i := 39) rfl))) (by decide) (t := (.object "com/example/libonce/libonce/core/Outcome$Kind")) (t' := (.object "java/lang/Object")) (by decide) (by decide)))
  have Z0 := Nat.le_trans Z0 (Nat.le_of_eq W5.size.symm)
  have hk := Nat.le_trans hk (Nat.le_of_eq W5.size.symm)
  have F_result_a1 := Fw5
  have K := K.wr W5 (Or.inl (List.mem_of_getElem? (i := 0) rfl))
  have N5 := Fr.snoc X5 N4 g_a1
  refine own_go (B := T5.setTop (mkF m 21 #[.val (.ref a1), .val (.ref a2), .val .null] [])) st5 ?_
  obtain ⟨fs, hr, hrun, hended, hRW⟩ := X5.leaveW hS (by rw [e5]; exact hk) (v := none) (fun _ => rfl)
  refine own_done (X5.returnOut hx Bd.returns (hb hby d2_21) hr) hrun hended ⟨_, _, rfl, ?_, hRW.1, hRW.2.1, hRW.2.2.1, hRW.2.2.2.mono (by decide) (by decide)⟩
  show Q_rm2n Z a1 a2 h0 n0 (none) T5.heap _
  rw [e5]
  exact ⟨rfl, N5, K, E_a1, F_kind_a1, F_result_a1⟩
def Q_rm6n (Z : State)  (h0 : Heap) (n0 : Nat) (v : Option Value) (h : Heap) (L : List Loc) : Prop := v = some .null ∧ Fr n0 L ∧ h = h0
theorem ef_6n (m : MethodId) (x0 : Addr) : entryFrame m #[(.ref x0)] 1 = mkF m 0 #[.val (.ref x0)] [] := by first | (simp [entryFrame, mkF, argsToLocals, Value.category, maxLocals]; done) | rfl
set_option maxRecDepth 65536 in
set_option maxHeartbeats 40000000 in
theorem rm6n (l : Launch) (Z : State) (a0 : Array Value) (hw : ∀ d ∈ tables_1, d.before a0 Z = true) (ws : List Jvm.Cond) (a1 wk w_EXECUTED w_REPLAYED : Addr) (h0 : Heap) (n0 : Nat) (Z0 : n0 ≤ h0.size) (F_kind_a1 : Fld Z h0 a1 "com/example/libonce/libonce/core/Outcome" "kind" "Lcom/example/libonce/libonce/core/Outcome$Kind;" (.ref wk)) (F_result_a1 : Fld Z h0 a1 "com/example/libonce/libonce/core/Outcome" "result" "Ljava/lang/Object;" .null) (hwk : wk = w_EXECUTED ∨ wk = w_REPLAYED) (S_EXECUTED : Sta Z Z.heap "com/example/libonce/libonce/core/Outcome$Kind" "EXECUTED" "Lcom/example/libonce/libonce/core/Outcome$Kind;" (.ref w_EXECUTED)) (S_REPLAYED : Sta Z Z.heap "com/example/libonce/libonce/core/Outcome$Kind" "REPLAYED" "Lcom/example/libonce/libonce/core/Outcome$Kind;" (.ref w_REPLAYED)) (O : Old Z n0 h0) :
    MetFree l (⟨"com/example/libonce/libonce/core/Outcome", "result", "()Ljava/lang/Object;"⟩ : MethodName) (head1 (Jvm.Cond.code (⟨"com/example/libonce/libonce/core/Outcome", "result", "()Ljava/lang/Object;"⟩ : MethodName) prog_21_method_7_code 1 (some (.object "java/lang/Object")) :: ws) ({ frames := 0, cells := 0, slots := 0, locals := 0 } : Room)) (fun a U => a = #[(.ref a1)] ∧ Z.Warmed39 U.vm ∧ U.heap = h0) (fun _ _ _ _ _ => True) (fun _ U o U' => ∃ v L, o = .returned v ∧ Q_rm6n Z h0 n0 v U'.heap L ∧ FrameEnd U o U' L ({ frames := 0, cells := 0, slots := 0, locals := 0 } : Room).cells ({ frames := 0, cells := 0, slots := 0, locals := 0 } : Room).slots) := by
  refine MetFree.of_bodySF (plainFor_of_name pn_6) hisR ?_
  intro p e s m args below meth c s₁ Bd hml0 hP hK
  obtain ⟨rfl, hZ, hh⟩ := hP
  have hx := Bd.exec
  have hby := Bd.bytes
  have hml : c.maxLocals = 1 := hml0
  have hown : s.vm.findClass "com/example/libonce/libonce/core/Outcome" = some m.cls := findClass_of_methodNamed Bd.named
  have hnm := (name_of_methodNamed Bd.named Bd.method).1
  have X0 : Stand p l e ({ frames := 0, cells := 0, slots := 0, locals := 0 } : Room) s m #[(.ref a1)] below meth c s₁ [] 0 0 := Stand.of_body Bd
  have e0 : s₁.heap = h0 := by rw [← hh, Bd.state]; rfl
  have N0 := Fr.nil n0
  have K : Keep h0 h0 [] := Keep.refl h0 []
  show own_Gd p.tables e below (own_P (Q_rm6n Z h0 n0) s ({ frames := 0, cells := 0, slots := 0, locals := 0 } : Room).cells ({ frames := 0, cells := 0, slots := 0, locals := 0 } : Room).slots) _
  refine own_go (B := s₁.setTop (mkF m 0 #[.val (.ref a1)] [])) (fun t k => castTop (ef_6n m a1) k) ?_
  refine own_go (B := s₁.setTop (mkF m 1 #[.val (.ref a1)] [(.ref a1)])) (fun t k => ?_) ?_
  · show Steps p.tables e below (s₁.setTop (mkF m 0 #[.val (.ref a1)] [])) _
    refine XS.aloadN X0.here hx rfl (hb hby d6_0) rfl rfl ?_
    show Steps p.tables e below (s₁.setTop (mkF m 1 #[.val (.ref a1)] [(.ref a1)])) _
    exact k
  obtain ⟨T1, X1, e1, st1⟩ := getF X0 hx hZ hown (host := "") (Or.inl (hw _ (List.mem_of_getElem? (i := 36) rfl))) Via.refl e0 F_kind_a1 (g := (mkF m 1 #[.val (.ref a1)] [(.ref a1)])) rfl rfl (hb hby d6_1)
  refine own_go (B := T1.setTop (mkF m 4 #[.val (.ref a1)] [(.ref wk)])) st1 ?_
  obtain ⟨T2, X2, e2, st2⟩ := getS2 X1 hx hZ hown (host := "") (Or.inl (hw _ (List.mem_of_getElem? (i := 45) rfl))) Via.refl e1 (S_EXECUTED.ext O.2) (g := (mkF m 4 #[.val (.ref a1)] [(.ref wk)])) rfl (hb hby d6_4)
  refine own_go (B := T2.setTop (mkF m 7 #[.val (.ref a1)] [(.ref w_EXECUTED), (.ref wk)])) st2 ?_
  by_cases ha7 : wk = w_EXECUTED
  · refine own_go (B := T2.setTop (mkF m 41 #[.val (.ref a1)] [(.ref a1)])) (fun t k => ?_) ?_
    · show Steps p.tables e below (T2.setTop (mkF m 7 #[.val (.ref a1)] [(.ref w_EXECUTED), (.ref wk)])) _
      refine Jvm.RoadKit.acmp (g := (mkF m 7 #[.val (.ref a1)] [(.ref w_EXECUTED), (.ref wk)])) X2 hx rfl rfl rfl (pc0 := 7) (pc' := 40) (same := true) rfl (hb hby d6_7) rfl (decide_eq_true (congrArg Value.ref ha7)) (by decide) (by decide) ?_
      show Steps p.tables e below (T2.setTop (mkF m 40 #[.val (.ref a1)] [])) _
      refine XS.aloadN X2.here hx rfl (hb hby d6_40) rfl rfl ?_
      show Steps p.tables e below (T2.setTop (mkF m 41 #[.val (.ref a1)] [(.ref a1)])) _
      exact k
    obtain ⟨T3, X3, e3, st3⟩ := getF X2 hx hZ hown (host := "") (Or.inl (hw _ (List.mem_of_getElem? (i := 38) rfl))) Via.refl e2 F_result_a1 (g := (mkF m 41 #[.val (.ref a1)] [(.ref a1)])) rfl rfl (hb hby d6_41)
    refine own_go (B := T3.setTop (mkF m 44 #[.val (.ref a1)] [.null])) st3 ?_
    obtain ⟨fs, hr, hrun, hended, hW, hsame⟩ := X3.leave (v := some .null) (fun h => by rw [Bd.returns] at h; cases h)
    refine own_done (retOut X3 hx Bd.returns rfl (Or.inr (Or.inr (Or.inr (Or.inr ⟨rfl, rfl, rfl⟩)))) (hb hby d6_44) hr) hrun hended ⟨_, _, rfl, ?_, ⟨_, rfl⟩, hW, hsame.mono (by decide) (by decide)⟩
    show Q_rm6n Z h0 n0 (some .null) T3.heap _
    rw [e3]
    exact ⟨rfl, N0, rfl⟩
  · refine own_go (B := T2.setTop (mkF m 11 #[.val (.ref a1)] [(.ref a1)])) (fun t k => ?_) ?_
    · show Steps p.tables e below (T2.setTop (mkF m 7 #[.val (.ref a1)] [(.ref w_EXECUTED), (.ref wk)])) _
      refine Jvm.RoadKit.acmp (g := (mkF m 7 #[.val (.ref a1)] [(.ref w_EXECUTED), (.ref wk)])) X2 hx rfl rfl rfl (pc0 := 7) (pc' := 10) (same := false) rfl (hb hby d6_7) rfl (decide_eq_false fun q => ha7 (Value.ref.inj q)) (by decide) (by decide) ?_
      show Steps p.tables e below (T2.setTop (mkF m 10 #[.val (.ref a1)] [])) _
      refine XS.aloadN X2.here hx rfl (hb hby d6_10) rfl rfl ?_
      show Steps p.tables e below (T2.setTop (mkF m 11 #[.val (.ref a1)] [(.ref a1)])) _
      exact k
    obtain ⟨T4, X4, e4, st4⟩ := getF X2 hx hZ hown (host := "") (Or.inl (hw _ (List.mem_of_getElem? (i := 36) rfl))) Via.refl e2 F_kind_a1 (g := (mkF m 11 #[.val (.ref a1)] [(.ref a1)])) rfl rfl (hb hby d6_11)
    refine own_go (B := T4.setTop (mkF m 14 #[.val (.ref a1)] [(.ref wk)])) st4 ?_
    obtain ⟨T5, X5, e5, st5⟩ := getS2 X4 hx hZ hown (host := "") (Or.inl (hw _ (List.mem_of_getElem? (i := 69) rfl))) Via.refl e4 (S_REPLAYED.ext O.2) (g := (mkF m 14 #[.val (.ref a1)] [(.ref wk)])) rfl (hb hby d6_14)
    refine own_go (B := T5.setTop (mkF m 17 #[.val (.ref a1)] [(.ref w_REPLAYED), (.ref wk)])) st5 ?_
    refine own_go (B := T5.setTop (mkF m 41 #[.val (.ref a1)] [(.ref a1)])) (fun t k => ?_) ?_
    · show Steps p.tables e below (T5.setTop (mkF m 17 #[.val (.ref a1)] [(.ref w_REPLAYED), (.ref wk)])) _
      refine Jvm.RoadKit.acmp (g := (mkF m 17 #[.val (.ref a1)] [(.ref w_REPLAYED), (.ref wk)])) X5 hx rfl rfl rfl (pc0 := 17) (pc' := 40) (same := true) rfl (hb hby d6_17) rfl (decide_eq_true (congrArg Value.ref (hwk.resolve_left ha7))) (by decide) (by decide) ?_
      show Steps p.tables e below (T5.setTop (mkF m 40 #[.val (.ref a1)] [])) _
      refine XS.aloadN X5.here hx rfl (hb hby d6_40) rfl rfl ?_
      show Steps p.tables e below (T5.setTop (mkF m 41 #[.val (.ref a1)] [(.ref a1)])) _
      exact k
    obtain ⟨T6, X6, e6, st6⟩ := getF X5 hx hZ hown (host := "") (Or.inl (hw _ (List.mem_of_getElem? (i := 38) rfl))) Via.refl e5 F_result_a1 (g := (mkF m 41 #[.val (.ref a1)] [(.ref a1)])) rfl rfl (hb hby d6_41)
    refine own_go (B := T6.setTop (mkF m 44 #[.val (.ref a1)] [.null])) st6 ?_
    obtain ⟨fs, hr, hrun, hended, hW, hsame⟩ := X6.leave (v := some .null) (fun h => by rw [Bd.returns] at h; cases h)
    refine own_done (retOut X6 hx Bd.returns rfl (Or.inr (Or.inr (Or.inr (Or.inr ⟨rfl, rfl, rfl⟩)))) (hb hby d6_44) hr) hrun hended ⟨_, _, rfl, ?_, ⟨_, rfl⟩, hW, hsame.mono (by decide) (by decide)⟩
    show Q_rm6n Z h0 n0 (some .null) T6.heap _
    rw [e6]
    exact ⟨rfl, N0, rfl⟩
def Q_rm2o (Z : State) (a1 a2 a3 : Addr) (h0 : Heap) (n0 : Nat) (v : Option Value) (h : Heap) (L : List Loc) : Prop := v = none ∧ Fr n0 L ∧ Keep h0 h [a1] ∧ Exa Z h a1 "com/example/libonce/libonce/core/Outcome" ∧ Fld Z h a1 "com/example/libonce/libonce/core/Outcome" "kind" "Lcom/example/libonce/libonce/core/Outcome$Kind;" (.ref a2) ∧ Fld Z h a1 "com/example/libonce/libonce/core/Outcome" "result" "Ljava/lang/Object;" (.ref a3)
theorem ef_2o (m : MethodId) (x0 : Addr) (x1 : Addr) (x2 : Addr) : entryFrame m #[(.ref x0), (.ref x1), (.ref x2)] 3 = mkF m 0 #[.val (.ref x0), .val (.ref x1), .val (.ref x2)] [] := by first | (simp [entryFrame, mkF, argsToLocals, Value.category, maxLocals]; done) | rfl
set_option maxRecDepth 65536 in
set_option maxHeartbeats 40000000 in
theorem rm2o (l : Launch) (Z : State) (a0 : Array Value) (hw : ∀ d ∈ tables_1, d.before a0 Z = true) (ws : List Jvm.Cond) (a1 a2 a3 : Addr) (h0 : Heap) (n0 : Nat) (Z0 : n0 ≤ h0.size) (F_kind_a1 : Fld Z h0 a1 "com/example/libonce/libonce/core/Outcome" "kind" "Lcom/example/libonce/libonce/core/Outcome$Kind;" .null) (F_result_a1 : Fld Z h0 a1 "com/example/libonce/libonce/core/Outcome" "result" "Ljava/lang/Object;" .null) (E_a1 : Exa Z h0 a1 "com/example/libonce/libonce/core/Outcome") (g_a1 : n0 ≤ a1) :
    MetFree l (⟨"com/example/libonce/libonce/core/Outcome", "<init>", "(Lcom/example/libonce/libonce/core/Outcome$Kind;Ljava/lang/Object;)V"⟩ : MethodName) (head1 (Jvm.Cond.code (⟨"com/example/libonce/libonce/core/Outcome", "<init>", "(Lcom/example/libonce/libonce/core/Outcome$Kind;Ljava/lang/Object;)V"⟩ : MethodName) prog_21_method_1_code 3 none :: ws) ({ frames := 2, cells := 2, slots := 20, locals := 24 } : Room)) (fun a U => a = #[(.ref a1), (.ref a2), (.ref a3)] ∧ Z.Warmed39 U.vm ∧ U.heap = h0) (fun _ _ _ _ _ => True) (fun _ U o U' => ∃ v L, o = .returned v ∧ Q_rm2o Z a1 a2 a3 h0 n0 v U'.heap L ∧ ReturnedEndW U o U' L ({ frames := 2, cells := 2, slots := 20, locals := 24 } : Room).cells ({ frames := 2, cells := 2, slots := 20, locals := 24 } : Room).slots) := by
  refine MetFree.of_bodySF (plainFor_of_name pn_2) hisR ?_
  intro p e s m args below meth c s₁ Bd hml0 hP hK
  obtain ⟨rfl, hZ, hh⟩ := hP
  have hx := Bd.exec
  have hby := Bd.bytes
  have hml : c.maxLocals = 3 := hml0
  have hown : s.vm.findClass "com/example/libonce/libonce/core/Outcome" = some m.cls := findClass_of_methodNamed Bd.named
  have hnm := (name_of_methodNamed Bd.named Bd.method).1
  have hZ : Z.Warmed39 (s.setVm s.vm).vm := hZ
  have hown : (s.setVm s.vm).vm.findClass "com/example/libonce/libonce/core/Outcome" = some m.cls := hown
  have hS : s.Since s.vm 0 := (State.WarmedH.refl s).since 0
  have hk : 0 ≤ h0.size := Nat.zero_le _
  have X0 : Stand p l e ({ frames := 2, cells := 2, slots := 20, locals := 24 } : Room) (s.setVm s.vm) m #[(.ref a1), (.ref a2), (.ref a3)] below meth c s₁ [] 0 0 := Stand.of_body Bd
  have e0 : s₁.heap = h0 := by rw [← hh, Bd.state]; rfl
  have N0 := Fr.nil n0
  have K : Keep h0 h0 [a1] := Keep.refl h0 [a1]
  show own_Gd p.tables e below (own_PW (Q_rm2o Z a1 a2 a3 h0 n0) s ({ frames := 2, cells := 2, slots := 20, locals := 24 } : Room).cells ({ frames := 2, cells := 2, slots := 20, locals := 24 } : Room).slots) _
  refine own_go (B := s₁.setTop (mkF m 0 #[.val (.ref a1), .val (.ref a2), .val (.ref a3)] [])) (fun t k => castTop (ef_2o m a1 a2 a3) k) ?_
  refine own_go (B := s₁.setTop (mkF m 1 #[.val (.ref a1), .val (.ref a2), .val (.ref a3)] [(.ref a1)])) (fun t k => ?_) ?_
  · show Steps p.tables e below (s₁.setTop (mkF m 0 #[.val (.ref a1), .val (.ref a2), .val (.ref a3)] [])) _
    refine XS.aloadN X0.here hx rfl (hb hby d2_0) rfl rfl ?_
    show Steps p.tables e below (s₁.setTop (mkF m 1 #[.val (.ref a1), .val (.ref a2), .val (.ref a3)] [(.ref a1)])) _
    exact k
  obtain ⟨_, _, ⟨T1, L1, k1, n1⟩, -, X1, ⟨Lc1, hQ1, l1, y1, z1⟩, st1⟩ := X0.specialBack hx (y := (⟨"java/lang/Record", "<init>", "()V"⟩ : MethodName)) rfl hown (mvT hZ (hw _ (List.mem_of_getElem? (i := 16) rfl))) (mvT hZ (hw _ (List.mem_of_getElem? (i := 17) rfl))) (mvT hZ (hw _ (List.mem_of_getElem? (i := 20) rfl))) (by decide) (backOf (W := 0) (rm3 l Z a0 hw [] a1 h0 n0 Z0) hZ (hw _ (List.mem_of_getElem? (i := 20) rfl)) (hw _ (List.mem_of_getElem? (i := 19) rfl)) (by decide) (by decide)) (g := (mkF m 1 #[.val (.ref a1), .val (.ref a2), .val (.ref a3)] [(.ref a1)])) rfl (by rw [hml]; rfl) (Steps.refl _) (a := a1) (argsL := []) (rest := []) (lenOf pd_0 rfl) rfl (by show 2 * 0 + _ ≤ _; exact Nat.le_of_eq rfl) (hb hby d2_1) (fun _ _ => ⟨rfl, e0, Nat.le_of_ble_eq_true rfl, Nat.le_of_ble_eq_true rfl⟩)
  dsimp only [Pt.U, Pt.locs, Pt.cells, Pt.slots] at X1 l1 y1 z1 st1 hQ1
  subst l1 y1 z1
  obtain ⟨h1, e1⟩ : ∃ z, T1.heap = z := ⟨_, rfl⟩
  rw [e1] at hQ1
  obtain ⟨rfl, N1q, eq1⟩ := hQ1
  have N1 := Fr.app N0 N1q
  rw [eq1] at e1
  refine own_go (B := T1.setTop (mkF m 4 #[.val (.ref a1), .val (.ref a2), .val (.ref a3)] [])) (fun t k => st1.trans k) ?_
  refine own_go (B := T1.setTop (mkF m 5 #[.val (.ref a1), .val (.ref a2), .val (.ref a3)] [(.ref a2)])) (fun t k => ?_) ?_
  · show Steps p.tables e below (T1.setTop (mkF m 4 #[.val (.ref a1), .val (.ref a2), .val (.ref a3)] [])) _
    refine XS.aloadN X1.here hx rfl (hb hby d2_4) rfl rfl ?_
    show Steps p.tables e below (T1.setTop (mkF m 5 #[.val (.ref a1), .val (.ref a2), .val (.ref a3)] [(.ref a2)])) _
    exact k
  obtain ⟨lit2, T2, h2, k2, X2, e2, E2, hS, hk, hZ, hown, st2⟩ := ldcS X1 hx hZ hown (hw _ (List.mem_of_getElem? (i := 24) rfl)) (own_strs hw) e1 hS hk (g := (mkF m 5 #[.val (.ref a1), .val (.ref a2), .val (.ref a3)] [(.ref a2)])) rfl (hb hby d2_5) (n := 16) (by decide) (by decide) (by decide) (by decide)
  have E_a1 := E_a1.ext E2
  have F_kind_a1 := F_kind_a1.ext E2
  have F_result_a1 := F_result_a1.ext E2
  have K := K.ext E2
  have Z0 := Nat.le_trans Z0 E2.1
  refine own_go (B := T2.setTop (mkF m 7 #[.val (.ref a1), .val (.ref a2), .val (.ref a3)] [(.ref lit2), (.ref a2)])) st2 ?_
  obtain ⟨_, _, ⟨T3, L3, k3, n3⟩, -, X3, ⟨Lc3, hQ3, l3, y3, z3⟩, st3⟩ := Jvm.LawKit.callS X2 hx (y := (⟨"java/util/Objects", "requireNonNull", "(Ljava/lang/Object;Ljava/lang/String;)Ljava/lang/Object;"⟩ : MethodName)) hown (mvT hZ (hw _ (List.mem_of_getElem? (i := 32) rfl))) (mvT hZ (hw _ (List.mem_of_getElem? (i := 33) rfl))) (mvT hZ (hw _ (List.mem_of_getElem? (i := 34) rfl))) (mvT hZ (hw _ (List.mem_of_getElem? (i := 35) rfl))) (by decide) (backOf (W := 0) (rm5 l Z a0 hw [] a2 lit2 h2 n0 Z0) hZ (hw _ (List.mem_of_getElem? (i := 35) rfl)) (hw _ (List.mem_of_getElem? (i := 34) rfl)) (by decide) (by decide)) (g := (mkF m 7 #[.val (.ref a1), .val (.ref a2), .val (.ref a3)] [(.ref lit2), (.ref a2)])) rfl (by rw [hml]; rfl) (argsL := [(.ref a2), (.ref lit2)]) (rest := []) (lenOf pd_2 rfl) rfl (by show 2 * 0 + _ ≤ _; exact Nat.le_of_eq rfl) (hb hby d2_7) (fun _ _ => ⟨rfl, e2, Nat.le_of_ble_eq_true rfl, Nat.le_of_ble_eq_true rfl⟩)
  dsimp only [Pt.U, Pt.locs, Pt.cells, Pt.slots] at X3 l3 y3 z3 st3 hQ3
  subst l3 y3 z3
  obtain ⟨h3, e3⟩ : ∃ z, T3.heap = z := ⟨_, rfl⟩
  rw [e3] at hQ3
  obtain ⟨rfl, N3q, eq3⟩ := hQ3
  have N3 := Fr.app N1 N3q
  rw [eq3] at e3
  refine own_go (B := T3.setTop (mkF m 10 #[.val (.ref a1), .val (.ref a2), .val (.ref a3)] [(.ref a2)])) st3 ?_
  refine own_go (B := T3.setTop (mkF m 13 #[.val (.ref a1), .val (.ref a2), .val (.ref a3)] [(.ref a2), (.ref a1)])) (fun t k => ?_) ?_
  · show Steps p.tables e below (T3.setTop (mkF m 10 #[.val (.ref a1), .val (.ref a2), .val (.ref a3)] [(.ref a2)])) _
    refine XS.pop X3.here hx rfl (hb hby d2_10) rfl rfl ?_
    show Steps p.tables e below (T3.setTop (mkF m 11 #[.val (.ref a1), .val (.ref a2), .val (.ref a3)] [])) _
    refine XS.aloadN X3.here hx rfl (hb hby d2_11) rfl rfl ?_
    show Steps p.tables e below (T3.setTop (mkF m 12 #[.val (.ref a1), .val (.ref a2), .val (.ref a3)] [(.ref a1)])) _
    refine XS.aloadN X3.here hx rfl (hb hby d2_12) rfl rfl ?_
    show Steps p.tables e below (T3.setTop (mkF m 13 #[.val (.ref a1), .val (.ref a2), .val (.ref a3)] [(.ref a2), (.ref a1)])) _
    exact k
  obtain ⟨T4, h4, X4, e4, W4, st4⟩ := putF X3 hx hZ hown (host := "") (Or.inl (hw _ (List.mem_of_getElem? (i := 36) rfl))) Via.refl e3 F_kind_a1 E_a1 (Or.inr ⟨(hw _ (List.mem_of_getElem? (i := 37) rfl)), rfl, hnm⟩) (hw _ (List.mem_of_getElem? (i := 11) rfl)) (v := (.ref a2)) (ty := (.object "com/example/libonce/libonce/core/Outcome$Kind")) (by decide) rfl rfl (g := (mkF m 13 #[.val (.ref a1), .val (.ref a2), .val (.ref a3)] [(.ref a2), (.ref a1)])) rfl rfl (hb hby d2_13)
  have Fw4 := F_kind_a1.same W4
  have E_a1 := E_a1.wr W4
  have F_result_a1 := F_result_a1.other W4 (Or.inr (slot_ne (Or.inr (hw _ (List.mem_of_getElem? (i := 39) rfl))) (Or.inr (hw _ (List.mem_of_getElem? (i := 37) rfl))) (by decide) (t := (.object "java/lang/Object")) (t' := (.object "com/example/libonce/libonce/core/Outcome$Kind")) (by decide) (by decide)))
  have Z0 := Nat.le_trans Z0 (Nat.le_of_eq W4.size.symm)
  have hk := Nat.le_trans hk (Nat.le_of_eq W4.size.symm)
  have F_kind_a1 := Fw4
  have K := K.wr W4 (Or.inl (List.mem_of_getElem? (i := 0) rfl))
  have N4 := Fr.snoc X4 N3 g_a1
  refine own_go (B := T4.setTop (mkF m 16 #[.val (.ref a1), .val (.ref a2), .val (.ref a3)] [])) st4 ?_
  refine own_go (B := T4.setTop (mkF m 18 #[.val (.ref a1), .val (.ref a2), .val (.ref a3)] [(.ref a3), (.ref a1)])) (fun t k => ?_) ?_
  · show Steps p.tables e below (T4.setTop (mkF m 16 #[.val (.ref a1), .val (.ref a2), .val (.ref a3)] [])) _
    refine XS.aloadN X4.here hx rfl (hb hby d2_16) rfl rfl ?_
    show Steps p.tables e below (T4.setTop (mkF m 17 #[.val (.ref a1), .val (.ref a2), .val (.ref a3)] [(.ref a1)])) _
    refine XS.aloadN X4.here hx rfl (hb hby d2_17) rfl rfl ?_
    show Steps p.tables e below (T4.setTop (mkF m 18 #[.val (.ref a1), .val (.ref a2), .val (.ref a3)] [(.ref a3), (.ref a1)])) _
    exact k
  obtain ⟨T5, h5, X5, e5, W5, st5⟩ := putF X4 hx hZ hown (host := "") (Or.inl (hw _ (List.mem_of_getElem? (i := 38) rfl))) Via.refl e4 F_result_a1 E_a1 (Or.inr ⟨(hw _ (List.mem_of_getElem? (i := 39) rfl)), rfl, hnm⟩) (hw _ (List.mem_of_getElem? (i := 11) rfl)) (v := (.ref a3)) (ty := (.object "java/lang/Object")) (by decide) rfl rfl (g := (mkF m 18 #[.val (.ref a1), .val (.ref a2), .val (.ref a3)] [(.ref a3), (.ref a1)])) rfl rfl (hb hby d2_18)
  have Fw5 := F_result_a1.same W5
  have E_a1 := E_a1.wr W5
  have F_kind_a1 := F_kind_a1.other W5 (Or.inr (slot_ne (Or.inr (hw _ (List.mem_of_getElem? (i := 37) rfl))) (Or.inr (hw _ (List.mem_of_getElem? (i := 39) rfl))) (by decide) (t := (.object "com/example/libonce/libonce/core/Outcome$Kind")) (t' := (.object "java/lang/Object")) (by decide) (by decide)))
  have Z0 := Nat.le_trans Z0 (Nat.le_of_eq W5.size.symm)
  have hk := Nat.le_trans hk (Nat.le_of_eq W5.size.symm)
  have F_result_a1 := Fw5
  have K := K.wr W5 (Or.inl (List.mem_of_getElem? (i := 0) rfl))
  have N5 := Fr.snoc X5 N4 g_a1
  refine own_go (B := T5.setTop (mkF m 21 #[.val (.ref a1), .val (.ref a2), .val (.ref a3)] [])) st5 ?_
  obtain ⟨fs, hr, hrun, hended, hRW⟩ := X5.leaveW hS (by rw [e5]; exact hk) (v := none) (fun _ => rfl)
  refine own_done (X5.returnOut hx Bd.returns (hb hby d2_21) hr) hrun hended ⟨_, _, rfl, ?_, hRW.1, hRW.2.1, hRW.2.2.1, hRW.2.2.2.mono (by decide) (by decide)⟩
  show Q_rm2o Z a1 a2 a3 h0 n0 (none) T5.heap _
  rw [e5]
  exact ⟨rfl, N5, K, E_a1, F_kind_a1, F_result_a1⟩
def Q_rm6o (Z : State) (a3 : Addr) (h0 : Heap) (n0 : Nat) (v : Option Value) (h : Heap) (L : List Loc) : Prop := v = some (.ref a3) ∧ Fr n0 L ∧ h = h0
theorem ef_6o (m : MethodId) (x0 : Addr) : entryFrame m #[(.ref x0)] 1 = mkF m 0 #[.val (.ref x0)] [] := by first | (simp [entryFrame, mkF, argsToLocals, Value.category, maxLocals]; done) | rfl
set_option maxRecDepth 65536 in
set_option maxHeartbeats 40000000 in
theorem rm6o (l : Launch) (Z : State) (a0 : Array Value) (hw : ∀ d ∈ tables_1, d.before a0 Z = true) (ws : List Jvm.Cond) (a1 wk a3 w_EXECUTED w_REPLAYED : Addr) (h0 : Heap) (n0 : Nat) (Z0 : n0 ≤ h0.size) (F_kind_a1 : Fld Z h0 a1 "com/example/libonce/libonce/core/Outcome" "kind" "Lcom/example/libonce/libonce/core/Outcome$Kind;" (.ref wk)) (F_result_a1 : Fld Z h0 a1 "com/example/libonce/libonce/core/Outcome" "result" "Ljava/lang/Object;" (.ref a3)) (hwk : wk = w_EXECUTED ∨ wk = w_REPLAYED) (S_EXECUTED : Sta Z Z.heap "com/example/libonce/libonce/core/Outcome$Kind" "EXECUTED" "Lcom/example/libonce/libonce/core/Outcome$Kind;" (.ref w_EXECUTED)) (S_REPLAYED : Sta Z Z.heap "com/example/libonce/libonce/core/Outcome$Kind" "REPLAYED" "Lcom/example/libonce/libonce/core/Outcome$Kind;" (.ref w_REPLAYED)) (O : Old Z n0 h0) :
    MetFree l (⟨"com/example/libonce/libonce/core/Outcome", "result", "()Ljava/lang/Object;"⟩ : MethodName) (head1 (Jvm.Cond.code (⟨"com/example/libonce/libonce/core/Outcome", "result", "()Ljava/lang/Object;"⟩ : MethodName) prog_21_method_7_code 1 (some (.object "java/lang/Object")) :: ws) ({ frames := 0, cells := 0, slots := 0, locals := 0 } : Room)) (fun a U => a = #[(.ref a1)] ∧ Z.Warmed39 U.vm ∧ U.heap = h0) (fun _ _ _ _ _ => True) (fun _ U o U' => ∃ v L, o = .returned v ∧ Q_rm6o Z a3 h0 n0 v U'.heap L ∧ FrameEnd U o U' L ({ frames := 0, cells := 0, slots := 0, locals := 0 } : Room).cells ({ frames := 0, cells := 0, slots := 0, locals := 0 } : Room).slots) := by
  refine MetFree.of_bodySF (plainFor_of_name pn_6) hisR ?_
  intro p e s m args below meth c s₁ Bd hml0 hP hK
  obtain ⟨rfl, hZ, hh⟩ := hP
  have hx := Bd.exec
  have hby := Bd.bytes
  have hml : c.maxLocals = 1 := hml0
  have hown : s.vm.findClass "com/example/libonce/libonce/core/Outcome" = some m.cls := findClass_of_methodNamed Bd.named
  have hnm := (name_of_methodNamed Bd.named Bd.method).1
  have X0 : Stand p l e ({ frames := 0, cells := 0, slots := 0, locals := 0 } : Room) s m #[(.ref a1)] below meth c s₁ [] 0 0 := Stand.of_body Bd
  have e0 : s₁.heap = h0 := by rw [← hh, Bd.state]; rfl
  have N0 := Fr.nil n0
  have K : Keep h0 h0 [] := Keep.refl h0 []
  show own_Gd p.tables e below (own_P (Q_rm6o Z a3 h0 n0) s ({ frames := 0, cells := 0, slots := 0, locals := 0 } : Room).cells ({ frames := 0, cells := 0, slots := 0, locals := 0 } : Room).slots) _
  refine own_go (B := s₁.setTop (mkF m 0 #[.val (.ref a1)] [])) (fun t k => castTop (ef_6o m a1) k) ?_
  refine own_go (B := s₁.setTop (mkF m 1 #[.val (.ref a1)] [(.ref a1)])) (fun t k => ?_) ?_
  · show Steps p.tables e below (s₁.setTop (mkF m 0 #[.val (.ref a1)] [])) _
    refine XS.aloadN X0.here hx rfl (hb hby d6_0) rfl rfl ?_
    show Steps p.tables e below (s₁.setTop (mkF m 1 #[.val (.ref a1)] [(.ref a1)])) _
    exact k
  obtain ⟨T1, X1, e1, st1⟩ := getF X0 hx hZ hown (host := "") (Or.inl (hw _ (List.mem_of_getElem? (i := 36) rfl))) Via.refl e0 F_kind_a1 (g := (mkF m 1 #[.val (.ref a1)] [(.ref a1)])) rfl rfl (hb hby d6_1)
  refine own_go (B := T1.setTop (mkF m 4 #[.val (.ref a1)] [(.ref wk)])) st1 ?_
  obtain ⟨T2, X2, e2, st2⟩ := getS2 X1 hx hZ hown (host := "") (Or.inl (hw _ (List.mem_of_getElem? (i := 45) rfl))) Via.refl e1 (S_EXECUTED.ext O.2) (g := (mkF m 4 #[.val (.ref a1)] [(.ref wk)])) rfl (hb hby d6_4)
  refine own_go (B := T2.setTop (mkF m 7 #[.val (.ref a1)] [(.ref w_EXECUTED), (.ref wk)])) st2 ?_
  by_cases ha7 : wk = w_EXECUTED
  · refine own_go (B := T2.setTop (mkF m 41 #[.val (.ref a1)] [(.ref a1)])) (fun t k => ?_) ?_
    · show Steps p.tables e below (T2.setTop (mkF m 7 #[.val (.ref a1)] [(.ref w_EXECUTED), (.ref wk)])) _
      refine Jvm.RoadKit.acmp (g := (mkF m 7 #[.val (.ref a1)] [(.ref w_EXECUTED), (.ref wk)])) X2 hx rfl rfl rfl (pc0 := 7) (pc' := 40) (same := true) rfl (hb hby d6_7) rfl (decide_eq_true (congrArg Value.ref ha7)) (by decide) (by decide) ?_
      show Steps p.tables e below (T2.setTop (mkF m 40 #[.val (.ref a1)] [])) _
      refine XS.aloadN X2.here hx rfl (hb hby d6_40) rfl rfl ?_
      show Steps p.tables e below (T2.setTop (mkF m 41 #[.val (.ref a1)] [(.ref a1)])) _
      exact k
    obtain ⟨T3, X3, e3, st3⟩ := getF X2 hx hZ hown (host := "") (Or.inl (hw _ (List.mem_of_getElem? (i := 38) rfl))) Via.refl e2 F_result_a1 (g := (mkF m 41 #[.val (.ref a1)] [(.ref a1)])) rfl rfl (hb hby d6_41)
    refine own_go (B := T3.setTop (mkF m 44 #[.val (.ref a1)] [(.ref a3)])) st3 ?_
    obtain ⟨fs, hr, hrun, hended, hW, hsame⟩ := X3.leave (v := some (.ref a3)) (fun h => by rw [Bd.returns] at h; cases h)
    refine own_done (retOut X3 hx Bd.returns rfl (Or.inr (Or.inr (Or.inr (Or.inr ⟨rfl, rfl, rfl⟩)))) (hb hby d6_44) hr) hrun hended ⟨_, _, rfl, ?_, ⟨_, rfl⟩, hW, hsame.mono (by decide) (by decide)⟩
    show Q_rm6o Z a3 h0 n0 (some (.ref a3)) T3.heap _
    rw [e3]
    exact ⟨rfl, N0, rfl⟩
  · refine own_go (B := T2.setTop (mkF m 11 #[.val (.ref a1)] [(.ref a1)])) (fun t k => ?_) ?_
    · show Steps p.tables e below (T2.setTop (mkF m 7 #[.val (.ref a1)] [(.ref w_EXECUTED), (.ref wk)])) _
      refine Jvm.RoadKit.acmp (g := (mkF m 7 #[.val (.ref a1)] [(.ref w_EXECUTED), (.ref wk)])) X2 hx rfl rfl rfl (pc0 := 7) (pc' := 10) (same := false) rfl (hb hby d6_7) rfl (decide_eq_false fun q => ha7 (Value.ref.inj q)) (by decide) (by decide) ?_
      show Steps p.tables e below (T2.setTop (mkF m 10 #[.val (.ref a1)] [])) _
      refine XS.aloadN X2.here hx rfl (hb hby d6_10) rfl rfl ?_
      show Steps p.tables e below (T2.setTop (mkF m 11 #[.val (.ref a1)] [(.ref a1)])) _
      exact k
    obtain ⟨T4, X4, e4, st4⟩ := getF X2 hx hZ hown (host := "") (Or.inl (hw _ (List.mem_of_getElem? (i := 36) rfl))) Via.refl e2 F_kind_a1 (g := (mkF m 11 #[.val (.ref a1)] [(.ref a1)])) rfl rfl (hb hby d6_11)
    refine own_go (B := T4.setTop (mkF m 14 #[.val (.ref a1)] [(.ref wk)])) st4 ?_
    obtain ⟨T5, X5, e5, st5⟩ := getS2 X4 hx hZ hown (host := "") (Or.inl (hw _ (List.mem_of_getElem? (i := 69) rfl))) Via.refl e4 (S_REPLAYED.ext O.2) (g := (mkF m 14 #[.val (.ref a1)] [(.ref wk)])) rfl (hb hby d6_14)
    refine own_go (B := T5.setTop (mkF m 17 #[.val (.ref a1)] [(.ref w_REPLAYED), (.ref wk)])) st5 ?_
    refine own_go (B := T5.setTop (mkF m 41 #[.val (.ref a1)] [(.ref a1)])) (fun t k => ?_) ?_
    · show Steps p.tables e below (T5.setTop (mkF m 17 #[.val (.ref a1)] [(.ref w_REPLAYED), (.ref wk)])) _
      refine Jvm.RoadKit.acmp (g := (mkF m 17 #[.val (.ref a1)] [(.ref w_REPLAYED), (.ref wk)])) X5 hx rfl rfl rfl (pc0 := 17) (pc' := 40) (same := true) rfl (hb hby d6_17) rfl (decide_eq_true (congrArg Value.ref (hwk.resolve_left ha7))) (by decide) (by decide) ?_
      show Steps p.tables e below (T5.setTop (mkF m 40 #[.val (.ref a1)] [])) _
      refine XS.aloadN X5.here hx rfl (hb hby d6_40) rfl rfl ?_
      show Steps p.tables e below (T5.setTop (mkF m 41 #[.val (.ref a1)] [(.ref a1)])) _
      exact k
    obtain ⟨T6, X6, e6, st6⟩ := getF X5 hx hZ hown (host := "") (Or.inl (hw _ (List.mem_of_getElem? (i := 38) rfl))) Via.refl e5 F_result_a1 (g := (mkF m 41 #[.val (.ref a1)] [(.ref a1)])) rfl rfl (hb hby d6_41)
    refine own_go (B := T6.setTop (mkF m 44 #[.val (.ref a1)] [(.ref a3)])) st6 ?_
    obtain ⟨fs, hr, hrun, hended, hW, hsame⟩ := X6.leave (v := some (.ref a3)) (fun h => by rw [Bd.returns] at h; cases h)
    refine own_done (retOut X6 hx Bd.returns rfl (Or.inr (Or.inr (Or.inr (Or.inr ⟨rfl, rfl, rfl⟩)))) (hb hby d6_44) hr) hrun hended ⟨_, _, rfl, ?_, ⟨_, rfl⟩, hW, hsame.mono (by decide) (by decide)⟩
    show Q_rm6o Z a3 h0 n0 (some (.ref a3)) T6.heap _
    rw [e6]
    exact ⟨rfl, N0, rfl⟩
def Q_rm7 (Z : State) (x : Int32) (h0 : Heap) (n0 : Nat) (v : Option Value) (h : Heap) (L : List Loc) : Prop := v = some (.int x) ∧ Fr n0 L ∧ h = h0
theorem d7_0 : decode jdk_33_method_27_code 0 = .ok (.aload_n 0, 1) := by decide +kernel
theorem d7_1 : decode jdk_33_method_27_code 1 = .ok (.getfield 205, 3) := by decide +kernel
theorem d7_4 : decode jdk_33_method_27_code 4 = .ok (.ireturn, 1) := by decide +kernel
theorem ef_7 (m : MethodId) (x0 : Addr) : entryFrame m #[(.ref x0)] 1 = mkF m 0 #[.val (.ref x0)] [] := by first | (simp [entryFrame, mkF, argsToLocals, Value.category, maxLocals]; done) | rfl
set_option maxRecDepth 65536 in
set_option maxHeartbeats 40000000 in
theorem rm7 (l : Launch) (Z : State) (a0 : Array Value) (hw : ∀ d ∈ tables_1, d.before a0 Z = true) (ws : List Jvm.Cond) (a1 : Addr) (x : Int32) (h0 : Heap) (n0 : Nat) (Z0 : n0 ≤ h0.size) (F_value_a1 : Fld Z h0 a1 "java/lang/Integer" "value" "I" (.int x)) :
    MetFree l (⟨"java/lang/Integer", "intValue", "()I"⟩ : MethodName) (head1 (Jvm.Cond.code (⟨"java/lang/Integer", "intValue", "()I"⟩ : MethodName) jdk_33_method_27_code 1 (some .int) :: ws) ({ frames := 0, cells := 0, slots := 0, locals := 0 } : Room)) (fun a U => a = #[(.ref a1)] ∧ Z.Warmed39 U.vm ∧ U.heap = h0) (fun _ _ _ _ _ => True) (fun _ U o U' => ∃ v L, o = .returned v ∧ Q_rm7 Z x h0 n0 v U'.heap L ∧ FrameEnd U o U' L ({ frames := 0, cells := 0, slots := 0, locals := 0 } : Room).cells ({ frames := 0, cells := 0, slots := 0, locals := 0 } : Room).slots) := by
  refine MetFree.of_bodySF (plainFor_of_name pn_7) hisR ?_
  intro p e s m args below meth c s₁ Bd hml0 hP hK
  obtain ⟨rfl, hZ, hh⟩ := hP
  have hx := Bd.exec
  have hby := Bd.bytes
  have hml : c.maxLocals = 1 := hml0
  have hown : s.vm.findClass "java/lang/Integer" = some m.cls := findClass_of_methodNamed Bd.named
  have hnm := (name_of_methodNamed Bd.named Bd.method).1
  have X0 : Stand p l e ({ frames := 0, cells := 0, slots := 0, locals := 0 } : Room) s m #[(.ref a1)] below meth c s₁ [] 0 0 := Stand.of_body Bd
  have e0 : s₁.heap = h0 := by rw [← hh, Bd.state]; rfl
  have N0 := Fr.nil n0
  have K : Keep h0 h0 [] := Keep.refl h0 []
  show own_Gd p.tables e below (own_P (Q_rm7 Z x h0 n0) s ({ frames := 0, cells := 0, slots := 0, locals := 0 } : Room).cells ({ frames := 0, cells := 0, slots := 0, locals := 0 } : Room).slots) _
  refine own_go (B := s₁.setTop (mkF m 0 #[.val (.ref a1)] [])) (fun t k => castTop (ef_7 m a1) k) ?_
  refine own_go (B := s₁.setTop (mkF m 1 #[.val (.ref a1)] [(.ref a1)])) (fun t k => ?_) ?_
  · show Steps p.tables e below (s₁.setTop (mkF m 0 #[.val (.ref a1)] [])) _
    refine XS.aloadN X0.here hx rfl (hb hby d7_0) rfl rfl ?_
    show Steps p.tables e below (s₁.setTop (mkF m 1 #[.val (.ref a1)] [(.ref a1)])) _
    exact k
  obtain ⟨T1, X1, e1, st1⟩ := getF X0 hx hZ hown (host := "") (Or.inl (hw _ (List.mem_of_getElem? (i := 53) rfl))) Via.refl e0 F_value_a1 (g := (mkF m 1 #[.val (.ref a1)] [(.ref a1)])) rfl rfl (hb hby d7_1)
  refine own_go (B := T1.setTop (mkF m 4 #[.val (.ref a1)] [(.int x)])) st1 ?_
  obtain ⟨fs, hr, hrun, hended, hW, hsame⟩ := X1.leave (v := some (.int x)) (fun h => by rw [Bd.returns] at h; cases h)
  refine own_done (retOut X1 hx Bd.returns rfl (Or.inl ⟨rfl, Or.inl rfl, _, rfl⟩) (hb hby d7_4) hr) hrun hended ⟨_, _, rfl, ?_, ⟨_, rfl⟩, hW, hsame.mono (by decide) (by decide)⟩
  show Q_rm7 Z x h0 n0 (some (.int x)) T1.heap _
  rw [e1]
  exact ⟨rfl, N0, rfl⟩
def Q_rm0 (Z : State) (h0 : Heap) (n0 : Nat) (v : Option Value) (h : Heap) (L : List Loc) : Prop := v = some (.int (1 : Int32)) ∧ Fr n0 L
theorem ef_0 (m : MethodId) (x0 : Int32) (x1 : Int32) : entryFrame m #[(.int x0), (.int x1)] maxLocals = mkF m 0 #[.val (.int x0), .val (.int x1), .unset, .unset, .unset, .unset] [] := by first | (simp [entryFrame, mkF, argsToLocals, Value.category, maxLocals]; done) | rfl
set_option maxRecDepth 65536 in
set_option maxHeartbeats 40000000 in
theorem rm0 (l : Launch) (Z : State) (a0 : Array Value) (hw : ∀ d ∈ tables_1, d.before a0 Z = true) (ws : List Jvm.Cond) (p0 p1 : Int32) (w_EXECUTED w_REPLAYED : Addr) (wcache : Addr) (ccache : Cell) (h0 : Heap) (n0 : Nat) (Z0 : n0 ≤ h0.size) (S_EXECUTED : Sta Z Z.heap "com/example/libonce/libonce/core/Outcome$Kind" "EXECUTED" "Lcom/example/libonce/libonce/core/Outcome$Kind;" (.ref w_EXECUTED)) (S_REPLAYED : Sta Z Z.heap "com/example/libonce/libonce/core/Outcome$Kind" "REPLAYED" "Lcom/example/libonce/libonce/core/Outcome$Kind;" (.ref w_REPLAYED)) (S_high : Sta Z Z.heap "java/lang/Integer$IntegerCache" "high" "I" (.int (127 : Int32))) (S_cache : Sta Z Z.heap "java/lang/Integer$IntegerCache" "cache" "[Ljava/lang/Integer;" (.ref wcache)) (BX : Bxs Z wcache ccache "java/lang/Integer" "I" (256 : Int32) own_bxval) (O : Old Z n0 h0) :
    MetFree l x (head1 (Jvm.Cond.code x code maxLocals ret :: ws) room_1) (fun a U => a = #[(.int p0), (.int p1)] ∧ Z.Warmed39 U.vm ∧ U.heap = h0) (fun _ _ _ _ _ => True) (fun _ U o U' => ∃ v L, o = .returned v ∧ Q_rm0 Z h0 n0 v U'.heap L ∧ ReturnedEndW U o U' L room_1.cells room_1.slots) := by
  refine MetFree.of_bodySF (plainFor_of_name pn_0) hisR ?_
  intro p e s m args below meth c s₁ Bd hml0 hP hK
  obtain ⟨rfl, hZ, hh⟩ := hP
  have hx := Bd.exec
  have hby := Bd.bytes
  have hml : c.maxLocals = 6 := hml0
  have hown : s.vm.findClass "com/example/libonce/libonce/core/OutcomeResultPinLaw" = some m.cls := findClass_of_methodNamed Bd.named
  have hnm := (name_of_methodNamed Bd.named Bd.method).1
  have hZ : Z.Warmed39 (s.setVm s.vm).vm := hZ
  have hown : (s.setVm s.vm).vm.findClass "com/example/libonce/libonce/core/OutcomeResultPinLaw" = some m.cls := hown
  have hS : s.Since s.vm 0 := (State.WarmedH.refl s).since 0
  have hk : 0 ≤ h0.size := Nat.zero_le _
  have X0 : Stand p l e room_1 (s.setVm s.vm) m #[(.int p0), (.int p1)] below meth c s₁ [] 0 0 := Stand.of_body Bd
  have e0 : s₁.heap = h0 := by rw [← hh, Bd.state]; rfl
  have N0 := Fr.nil n0
  have K : Keep h0 h0 [] := Keep.refl h0 []
  show own_Gd p.tables e below (own_PW (Q_rm0 Z h0 n0) s room_1.cells room_1.slots) _
  refine own_go (B := s₁.setTop (mkF m 0 #[.val (.int p0), .val (.int p1), .unset, .unset, .unset, .unset] [])) (fun t k => castTop (ef_0 m p0 p1) k) ?_
  refine own_go (B := s₁.setTop (mkF m 3 #[.val (.int p0), .val (.int p1), .unset, .unset, .unset, .unset] [(.int (p0 &&& (1 : Int32)))])) (fun t k => ?_) ?_
  · show Steps p.tables e below (s₁.setTop (mkF m 0 #[.val (.int p0), .val (.int p1), .unset, .unset, .unset, .unset] [])) _
    refine XS.iloadN X0.here hx rfl (hb hby at_0) rfl ?_
    show Steps p.tables e below (s₁.setTop (mkF m 1 #[.val (.int p0), .val (.int p1), .unset, .unset, .unset, .unset] [(.int p0)])) _
    refine XS.iconst X0.here hx rfl (hb hby at_1) ?_
    show Steps p.tables e below (s₁.setTop (mkF m 2 #[.val (.int p0), .val (.int p1), .unset, .unset, .unset, .unset] [(.int (1 : Int32)), (.int p0)])) _
    refine XS.iand X0.here hx rfl (hb hby at_2) rfl ?_
    show Steps p.tables e below (s₁.setTop (mkF m 3 #[.val (.int p0), .val (.int p1), .unset, .unset, .unset, .unset] [(.int (p0 &&& (1 : Int32)))])) _
    exact k
  have J15 : ∀ (TJ : State) (LJ : List Loc) (XJ : Stand p l e room_1 (s.setVm s.vm) m #[(.int p0), (.int p1)] below meth c TJ LJ 0 0) (NJ : Fr n0 LJ) (eJ : TJ.heap = h0) (wk : Addr), (wk = w_EXECUTED ∨ wk = w_REPLAYED) → own_Gd p.tables e below (own_PW (Q_rm0 Z h0 n0) s room_1.cells room_1.slots) (TJ.setTop (mkF m 15 #[.val (.int p0), .val (.int p1), .unset, .unset, .unset, .unset] [(.ref wk)])) := by
    intro T1 L1 X1 N1 e1 wk hwk
    refine own_go (B := T1.setTop (mkF m 19 #[.val (.int p0), .val (.int p1), .val (.ref wk), .unset, .unset, .unset] [(.int (p0 &&& (2 : Int32)))])) (fun t k => ?_) ?_
    · show Steps p.tables e below (T1.setTop (mkF m 15 #[.val (.int p0), .val (.int p1), .unset, .unset, .unset, .unset] [(.ref wk)])) _
      refine XS.astoreN X1.here hx rfl (hb hby at_15) rfl rfl (l' := #[.val (.int p0), .val (.int p1), .val (.ref wk), .unset, .unset, .unset]) rfl ?_
      show Steps p.tables e below (T1.setTop (mkF m 16 #[.val (.int p0), .val (.int p1), .val (.ref wk), .unset, .unset, .unset] [])) _
      refine XS.iloadN X1.here hx rfl (hb hby at_16) rfl ?_
      show Steps p.tables e below (T1.setTop (mkF m 17 #[.val (.int p0), .val (.int p1), .val (.ref wk), .unset, .unset, .unset] [(.int p0)])) _
      refine XS.iconst X1.here hx rfl (hb hby at_17) ?_
      show Steps p.tables e below (T1.setTop (mkF m 18 #[.val (.int p0), .val (.int p1), .val (.ref wk), .unset, .unset, .unset] [(.int (2 : Int32)), (.int p0)])) _
      refine XS.iand X1.here hx rfl (hb hby at_18) rfl ?_
      show Steps p.tables e below (T1.setTop (mkF m 19 #[.val (.int p0), .val (.int p1), .val (.ref wk), .unset, .unset, .unset] [(.int (p0 &&& (2 : Int32)))])) _
      exact k
    by_cases hc19 : (p0 &&& (2 : Int32)) = (0 : Int32)
    · refine own_go (B := T1.setTop (mkF m 27 #[.val (.int p0), .val (.int p1), .val (.ref wk), .unset, .unset, .unset] [(.int p1)])) (fun t k => ?_) ?_
      · show Steps p.tables e below (T1.setTop (mkF m 19 #[.val (.int p0), .val (.int p1), .val (.ref wk), .unset, .unset, .unset] [(.int (p0 &&& (2 : Int32)))])) _
        refine XS.ifYes X1.here hx rfl (pc0 := 19) (pc' := 26) rfl (hb hby at_19) rfl ((if0 _ _).trans (teq hc19).1) (by decide) (by decide) ?_
        show Steps p.tables e below (T1.setTop (mkF m 26 #[.val (.int p0), .val (.int p1), .val (.ref wk), .unset, .unset, .unset] [])) _
        refine XS.iloadN X1.here hx rfl (hb hby at_26) rfl ?_
        show Steps p.tables e below (T1.setTop (mkF m 27 #[.val (.int p0), .val (.int p1), .val (.ref wk), .unset, .unset, .unset] [(.int p1)])) _
        exact k
      obtain ⟨_, _, ⟨T2, L2, k2, n2⟩, -, X2, ⟨Lc2, hQ2, l2, y2, z2⟩, st2⟩ := Jvm.LawKit.callS X1 hx (y := (⟨"java/lang/Integer", "valueOf", "(I)Ljava/lang/Integer;"⟩ : MethodName)) hown (mvT hZ (hw _ (List.mem_of_getElem? (i := 3) rfl))) (mvT hZ (hw _ (List.mem_of_getElem? (i := 4) rfl))) (mvT hZ (hw _ (List.mem_of_getElem? (i := 5) rfl))) (mvT hZ (hw _ (List.mem_of_getElem? (i := 6) rfl))) (by decide) (backOf (W := 0) (rmBox l Z a0 hw [] p1 wcache ccache h0 n0 Z0 S_high S_cache BX O) hZ (hw _ (List.mem_of_getElem? (i := 6) rfl)) (hw _ (List.mem_of_getElem? (i := 5) rfl)) (by decide) (by decide)) (g := (mkF m 27 #[.val (.int p0), .val (.int p1), .val (.ref wk), .unset, .unset, .unset] [(.int p1)])) rfl (by rw [hml]; rfl) (argsL := [(.int p1)]) (rest := []) (lenOf pd_3 rfl) rfl (by show 2 * 0 + _ ≤ _; exact Nat.le_of_eq rfl) (hb hby at_27) (fun _ _ => ⟨rfl, e1, Nat.le_of_ble_eq_true rfl, Nat.le_of_ble_eq_true rfl⟩)
      dsimp only [Pt.U, Pt.locs, Pt.cells, Pt.slots] at X2 l2 y2 z2 st2 hQ2
      subst l2 y2 z2
      obtain ⟨h2, e2⟩ : ∃ z, T2.heap = z := ⟨_, rfl⟩
      rw [e2] at hQ2
      obtain ⟨bx2, rfl, N2q, Kc2, Ec2, Fc2⟩ := hQ2
      have N2 := Fr.app N1 N2q
      have K := K.trans Kc2 all0
      have Z0 := Nat.le_trans Z0 Kc2.1
      have O := O.keep Kc2 all0
      have hk := Nat.le_trans hk Kc2.1
      have E_bx2 := Ec2
      have F_value_bx2 := Fc2
      refine own_go (B := T2.setTop (mkF m 30 #[.val (.int p0), .val (.int p1), .val (.ref wk), .unset, .unset, .unset] [(.ref bx2)])) st2 ?_
      refine own_go (B := T2.setTop (mkF m 31 #[.val (.int p0), .val (.int p1), .val (.ref wk), .val (.ref bx2), .unset, .unset] [])) (fun t k => ?_) ?_
      · show Steps p.tables e below (T2.setTop (mkF m 30 #[.val (.int p0), .val (.int p1), .val (.ref wk), .unset, .unset, .unset] [(.ref bx2)])) _
        refine XS.astoreN X2.here hx rfl (hb hby at_30) rfl rfl (l' := #[.val (.int p0), .val (.int p1), .val (.ref wk), .val (.ref bx2), .unset, .unset]) rfl ?_
        show Steps p.tables e below (T2.setTop (mkF m 31 #[.val (.int p0), .val (.int p1), .val (.ref wk), .val (.ref bx2), .unset, .unset] [])) _
        exact k
      obtain ⟨T3, h3, X3, e3, E3, A3, D3, U3, st3⟩ := newO X2 hx hZ hown (hw _ (List.mem_of_getElem? (i := 10) rfl)) (hw _ (List.mem_of_getElem? (i := 11) rfl)) (hw _ (List.mem_of_getElem? (i := 12) rfl)) e2 (g := (mkF m 31 #[.val (.int p0), .val (.int p1), .val (.ref wk), .val (.ref bx2), .unset, .unset] [])) rfl (hb hby at_31) (by decide) (by decide)
      obtain ⟨b3, g3⟩ : ∃ z, z = h2.size := ⟨_, rfl⟩
      rw [← g3] at A3 D3 U3 st3
      have ne_bx2_b3 : bx2 ≠ b3 := Nat.ne_of_lt (Nat.lt_of_lt_of_le E_bx2.lt (Nat.le_of_eq g3.symm))
      have g_b3 : n0 ≤ b3 := Nat.le_trans Z0 (Nat.le_of_eq g3.symm)
      have sz_b3 : h0.size ≤ b3 := Nat.le_trans K.1 (Nat.le_of_eq g3.symm)
      have E_bx2 := E_bx2.ext E3
      have F_value_bx2 := F_value_bx2.ext E3
      have K := K.ext E3
      have Z0 := Nat.le_trans Z0 E3.1
      have O := O.ext E3
      have hk := Nat.le_trans hk E3.1
      have E_b3 := A3
      have F_kind_b3 : Fld Z h3 b3 "com/example/libonce/libonce/core/Outcome" "kind" "Lcom/example/libonce/libonce/core/Outcome$Kind;" .null := D3 (Or.inr (hw _ (List.mem_of_getElem? (i := 37) rfl))) (ty := (.object "com/example/libonce/libonce/core/Outcome$Kind")) (by decide)
      have F_result_b3 : Fld Z h3 b3 "com/example/libonce/libonce/core/Outcome" "result" "Ljava/lang/Object;" .null := D3 (Or.inr (hw _ (List.mem_of_getElem? (i := 39) rfl))) (ty := (.object "java/lang/Object")) (by decide)
      refine own_go (B := T3.setTop (mkF m 34 #[.val (.int p0), .val (.int p1), .val (.ref wk), .val (.ref bx2), .unset, .unset] [(.ref b3)])) st3 ?_
      refine own_go (B := T3.setTop (mkF m 37 #[.val (.int p0), .val (.int p1), .val (.ref wk), .val (.ref bx2), .unset, .unset] [(.ref bx2), (.ref wk), (.ref b3), (.ref b3)])) (fun t k => ?_) ?_
      · show Steps p.tables e below (T3.setTop (mkF m 34 #[.val (.int p0), .val (.int p1), .val (.ref wk), .val (.ref bx2), .unset, .unset] [(.ref b3)])) _
        refine XS.dup X3.here hx rfl (hb hby at_34) rfl rfl ?_
        show Steps p.tables e below (T3.setTop (mkF m 35 #[.val (.int p0), .val (.int p1), .val (.ref wk), .val (.ref bx2), .unset, .unset] [(.ref b3), (.ref b3)])) _
        refine XS.aloadN X3.here hx rfl (hb hby at_35) rfl rfl ?_
        show Steps p.tables e below (T3.setTop (mkF m 36 #[.val (.int p0), .val (.int p1), .val (.ref wk), .val (.ref bx2), .unset, .unset] [(.ref wk), (.ref b3), (.ref b3)])) _
        refine XS.aloadN X3.here hx rfl (hb hby at_36) rfl rfl ?_
        show Steps p.tables e below (T3.setTop (mkF m 37 #[.val (.int p0), .val (.int p1), .val (.ref wk), .val (.ref bx2), .unset, .unset] [(.ref bx2), (.ref wk), (.ref b3), (.ref b3)])) _
        exact k
      obtain ⟨_, _, ⟨T4, L4, k4, n4⟩, -, X4, hS4, hg4, ⟨Lc4, hQ4, l4, y4, z4⟩, st4⟩ := X3.specialBackS hx (y := (⟨"com/example/libonce/libonce/core/Outcome", "<init>", "(Lcom/example/libonce/libonce/core/Outcome$Kind;Ljava/lang/Object;)V"⟩ : MethodName)) rfl hown (mvT hZ (hw _ (List.mem_of_getElem? (i := 13) rfl))) (mvT hZ (hw _ (List.mem_of_getElem? (i := 14) rfl))) (mvT hZ (hw _ (List.mem_of_getElem? (i := 15) rfl))) (by decide) (backOfS (W := 1) (rm2o l Z a0 hw [] b3 wk bx2 h3 n0 Z0 F_kind_b3 F_result_b3 E_b3 g_b3) hZ (hw _ (List.mem_of_getElem? (i := 15) rfl)) (hw _ (List.mem_of_getElem? (i := 12) rfl)) (by decide) (by decide)) (g := (mkF m 37 #[.val (.int p0), .val (.int p1), .val (.ref wk), .val (.ref bx2), .unset, .unset] [(.ref bx2), (.ref wk), (.ref b3), (.ref b3)])) rfl (by rw [hml]; rfl) (Steps.refl _) (a := b3) (argsL := [(.ref wk), (.ref bx2)]) (rest := [(.ref b3)]) (lenOf pd_4 rfl) rfl (by show 2 * 0 + _ ≤ _; exact Nat.le_of_eq rfl) (hb hby at_37) (fun _ _ => ⟨rfl, e3, Nat.le_of_ble_eq_true rfl, Nat.le_of_ble_eq_true rfl⟩)
      dsimp only [Pt.U, Pt.locs, Pt.cells, Pt.slots] at hS4 hg4
      dsimp only [Pt.U, Pt.locs, Pt.cells, Pt.slots] at X4 l4 y4 z4 st4 hQ4
      subst l4 y4 z4
      obtain ⟨h4, e4⟩ : ∃ z, T4.heap = z := ⟨_, rfl⟩
      rw [e4] at hQ4
      obtain ⟨rfl, N4q, Kc4, Ec4, Fk4, Fr4⟩ := hQ4
      have N4 := Fr.app N2 N4q
      obtain ⟨X4, hS, hZ, hown⟩ := rebS hS (by rw [e3]; exact hk) X4 hS4 hg4 hZ hown
      rw [e4] at hS
      have hk : h4.size ≤ h4.size := Nat.le_refl _
      have E_bx2 := E_bx2.keep Kc4
      have F_value_bx2 := F_value_bx2.keep Kc4 (ninS ne_bx2_b3 nin0)
      have E_b3 := E_b3.keep Kc4
      have K := K.trans Kc4 (allS (Or.inr sz_b3) all0)
      have Z0 := Nat.le_trans Z0 Kc4.1
      have O := O.keep Kc4 (allS g_b3 all0)
      have E_b3 := Ec4
      have F_kind_b3 := Fk4
      have F_result_b3 := Fr4
      refine own_go (B := T4.setTop (mkF m 40 #[.val (.int p0), .val (.int p1), .val (.ref wk), .val (.ref bx2), .unset, .unset] [(.ref b3)])) (fun t k => st4.trans k) ?_
      refine own_go (B := T4.setTop (mkF m 44 #[.val (.int p0), .val (.int p1), .val (.ref wk), .val (.ref bx2), .val (.ref b3), .unset] [(.ref b3)])) (fun t k => ?_) ?_
      · show Steps p.tables e below (T4.setTop (mkF m 40 #[.val (.int p0), .val (.int p1), .val (.ref wk), .val (.ref bx2), .unset, .unset] [(.ref b3)])) _
        refine XS.astore X4.here hx rfl (hb hby at_40) rfl rfl (l' := #[.val (.int p0), .val (.int p1), .val (.ref wk), .val (.ref bx2), .val (.ref b3), .unset]) rfl ?_
        show Steps p.tables e below (T4.setTop (mkF m 42 #[.val (.int p0), .val (.int p1), .val (.ref wk), .val (.ref bx2), .val (.ref b3), .unset] [])) _
        refine XS.aload X4.here hx rfl (hb hby at_42) rfl rfl ?_
        show Steps p.tables e below (T4.setTop (mkF m 44 #[.val (.int p0), .val (.int p1), .val (.ref wk), .val (.ref bx2), .val (.ref b3), .unset] [(.ref b3)])) _
        exact k
      obtain ⟨cq5, kq5, q5a, q5b, q5c⟩ := isOf hZ e4 E_b3
      obtain ⟨_, _, ⟨T6, L6, k6, n6⟩, -, X6, ⟨Lc6, hQ6, l6, y6, z6⟩, st6⟩ := X4.virtualBack hx (y := (⟨"com/example/libonce/libonce/core/Outcome", "result", "()Ljava/lang/Object;"⟩ : MethodName)) (z := (⟨"com/example/libonce/libonce/core/Outcome", "result", "()Ljava/lang/Object;"⟩ : MethodName)) hown (mvT hZ (hw _ (List.mem_of_getElem? (i := 40) rfl))) (mvT hZ (hw _ (List.mem_of_getElem? (i := 41) rfl))) (notFace_of_selects (args := #[]) (mvT hZ (hw _ (List.mem_of_getElem? (i := 43) rfl)))) (mvT hZ (hw _ (List.mem_of_getElem? (i := 43) rfl))) (mvT hZ (hw _ (List.mem_of_getElem? (i := 42) rfl))) (by decide) (backOf (W := 0) (rm6o l Z a0 hw [] b3 wk bx2 w_EXECUTED w_REPLAYED h4 n0 Z0 F_kind_b3 F_result_b3 hwk S_EXECUTED S_REPLAYED O) hZ (hw _ (List.mem_of_getElem? (i := 44) rfl)) (hw _ (List.mem_of_getElem? (i := 12) rfl)) (by decide) (by decide)) q5a q5c (g := (mkF m 44 #[.val (.int p0), .val (.int p1), .val (.ref wk), .val (.ref bx2), .val (.ref b3), .unset] [(.ref b3)])) rfl (by rw [hml]; rfl) (Steps.refl _) (argsL := []) (rest := []) (lenOf pd_5 rfl) rfl (by show 2 * 0 + _ ≤ _; exact Nat.le_of_eq rfl) (hb hby at_44) (fun _ _ => ⟨rfl, e4, Nat.le_of_ble_eq_true rfl, Nat.le_of_ble_eq_true rfl⟩)
      dsimp only [Pt.U, Pt.locs, Pt.cells, Pt.slots] at X6 l6 y6 z6 st6 hQ6
      subst l6 y6 z6
      obtain ⟨h6, e6⟩ : ∃ z, T6.heap = z := ⟨_, rfl⟩
      rw [e6] at hQ6
      obtain ⟨rfl, N6q, eq6⟩ := hQ6
      have N6 := Fr.app N4 N6q
      rw [eq6] at e6
      refine own_go (B := T6.setTop (mkF m 47 #[.val (.int p0), .val (.int p1), .val (.ref wk), .val (.ref bx2), .val (.ref b3), .unset] [(.ref bx2)])) (fun t k => st6.trans k) ?_
      obtain ⟨T7, X7, e7, st7⟩ := castY X6 hx hZ hown (hw _ (List.mem_of_getElem? (i := 46) rfl)) e6 (Ins.self E_bx2) (g := (mkF m 47 #[.val (.int p0), .val (.int p1), .val (.ref wk), .val (.ref bx2), .val (.ref b3), .unset] [(.ref bx2)])) rfl rfl (hb hby at_47)
      refine own_go (B := T7.setTop (mkF m 50 #[.val (.int p0), .val (.int p1), .val (.ref wk), .val (.ref bx2), .val (.ref b3), .unset] [(.ref bx2)])) st7 ?_
      refine own_go (B := T7.setTop (mkF m 75 #[.val (.int p0), .val (.int p1), .val (.ref wk), .val (.ref bx2), .val (.ref b3), .val (.ref bx2)] [(.ref bx2)])) (fun t k => ?_) ?_
      · show Steps p.tables e below (T7.setTop (mkF m 50 #[.val (.int p0), .val (.int p1), .val (.ref wk), .val (.ref bx2), .val (.ref b3), .unset] [(.ref bx2)])) _
        refine XS.astore X7.here hx rfl (hb hby at_50) rfl rfl (l' := #[.val (.int p0), .val (.int p1), .val (.ref wk), .val (.ref bx2), .val (.ref b3), .val (.ref bx2)]) rfl ?_
        show Steps p.tables e below (T7.setTop (mkF m 52 #[.val (.int p0), .val (.int p1), .val (.ref wk), .val (.ref bx2), .val (.ref b3), .val (.ref bx2)] [])) _
        refine XS.aloadN X7.here hx rfl (hb hby at_52) rfl rfl ?_
        show Steps p.tables e below (T7.setTop (mkF m 53 #[.val (.int p0), .val (.int p1), .val (.ref wk), .val (.ref bx2), .val (.ref b3), .val (.ref bx2)] [(.ref bx2)])) _
        refine XS.ifnonnullYes X7.here hx rfl (pc0 := 53) (pc' := 67) rfl (hb hby at_53) rfl (by decide) (by decide) ?_
        show Steps p.tables e below (T7.setTop (mkF m 67 #[.val (.int p0), .val (.int p1), .val (.ref wk), .val (.ref bx2), .val (.ref b3), .val (.ref bx2)] [])) _
        refine XS.aload X7.here hx rfl (hb hby at_67) rfl rfl ?_
        show Steps p.tables e below (T7.setTop (mkF m 69 #[.val (.int p0), .val (.int p1), .val (.ref wk), .val (.ref bx2), .val (.ref b3), .val (.ref bx2)] [(.ref bx2)])) _
        refine XS.aloadN X7.here hx rfl (hb hby at_69) rfl rfl ?_
        show Steps p.tables e below (T7.setTop (mkF m 70 #[.val (.int p0), .val (.int p1), .val (.ref wk), .val (.ref bx2), .val (.ref b3), .val (.ref bx2)] [(.ref bx2), (.ref bx2)])) _
        refine Jvm.RoadKit.acmp (g := (mkF m 70 #[.val (.int p0), .val (.int p1), .val (.ref wk), .val (.ref bx2), .val (.ref b3), .val (.ref bx2)] [(.ref bx2), (.ref bx2)])) X7 hx rfl rfl rfl (pc0 := 70) (pc' := 73) (same := true) rfl (hb hby at_70) rfl (decide_eq_true rfl) (by decide) (by decide) ?_
        show Steps p.tables e below (T7.setTop (mkF m 73 #[.val (.int p0), .val (.int p1), .val (.ref wk), .val (.ref bx2), .val (.ref b3), .val (.ref bx2)] [])) _
        refine XS.aload X7.here hx rfl (hb hby at_73) rfl rfl ?_
        show Steps p.tables e below (T7.setTop (mkF m 75 #[.val (.int p0), .val (.int p1), .val (.ref wk), .val (.ref bx2), .val (.ref b3), .val (.ref bx2)] [(.ref bx2)])) _
        exact k
      obtain ⟨cq8, kq8, q8a, q8b, q8c⟩ := isOf hZ e7 E_bx2
      obtain ⟨_, _, ⟨T9, L9, k9, n9⟩, -, X9, ⟨Lc9, hQ9, l9, y9, z9⟩, st9⟩ := X7.virtualBack hx (y := (⟨"java/lang/Integer", "intValue", "()I"⟩ : MethodName)) (z := (⟨"java/lang/Integer", "intValue", "()I"⟩ : MethodName)) hown (mvT hZ (hw _ (List.mem_of_getElem? (i := 48) rfl))) (mvT hZ (hw _ (List.mem_of_getElem? (i := 49) rfl))) (notFace_of_selects (args := #[]) (mvT hZ (hw _ (List.mem_of_getElem? (i := 51) rfl)))) (mvT hZ (hw _ (List.mem_of_getElem? (i := 51) rfl))) (mvT hZ (hw _ (List.mem_of_getElem? (i := 50) rfl))) (by decide) (backOf (W := 0) (rm7 l Z a0 hw [] bx2 p1 h4 n0 Z0 F_value_bx2) hZ (hw _ (List.mem_of_getElem? (i := 52) rfl)) (hw _ (List.mem_of_getElem? (i := 5) rfl)) (by decide) (by decide)) q8a q8c (g := (mkF m 75 #[.val (.int p0), .val (.int p1), .val (.ref wk), .val (.ref bx2), .val (.ref b3), .val (.ref bx2)] [(.ref bx2)])) rfl (by rw [hml]; rfl) (Steps.refl _) (argsL := []) (rest := []) (lenOf pd_6 rfl) rfl (by show 2 * 0 + _ ≤ _; exact Nat.le_of_eq rfl) (hb hby at_75) (fun _ _ => ⟨rfl, e7, Nat.le_of_ble_eq_true rfl, Nat.le_of_ble_eq_true rfl⟩)
      dsimp only [Pt.U, Pt.locs, Pt.cells, Pt.slots] at X9 l9 y9 z9 st9 hQ9
      subst l9 y9 z9
      obtain ⟨h9, e9⟩ : ∃ z, T9.heap = z := ⟨_, rfl⟩
      rw [e9] at hQ9
      obtain ⟨rfl, N9q, eq9⟩ := hQ9
      have N9 := Fr.app N6 N9q
      rw [eq9] at e9
      refine own_go (B := T9.setTop (mkF m 78 #[.val (.int p0), .val (.int p1), .val (.ref wk), .val (.ref bx2), .val (.ref b3), .val (.ref bx2)] [(.int p1)])) (fun t k => st9.trans k) ?_
      refine own_go (B := T9.setTop (mkF m 87 #[.val (.int p0), .val (.int p1), .val (.ref wk), .val (.ref bx2), .val (.ref b3), .val (.ref bx2)] [(.int (1 : Int32))])) (fun t k => ?_) ?_
      · show Steps p.tables e below (T9.setTop (mkF m 78 #[.val (.int p0), .val (.int p1), .val (.ref wk), .val (.ref bx2), .val (.ref b3), .val (.ref bx2)] [(.int p1)])) _
        refine XS.iloadN X9.here hx rfl (hb hby at_78) rfl ?_
        show Steps p.tables e below (T9.setTop (mkF m 79 #[.val (.int p0), .val (.int p1), .val (.ref wk), .val (.ref bx2), .val (.ref b3), .val (.ref bx2)] [(.int p1), (.int p1)])) _
        refine XS.icmpNo X9.here hx rfl (hb hby at_79) rfl (teq ((rfl : p1 = p1) : p1 = p1)).2 ?_
        show Steps p.tables e below (T9.setTop (mkF m 82 #[.val (.int p0), .val (.int p1), .val (.ref wk), .val (.ref bx2), .val (.ref b3), .val (.ref bx2)] [])) _
        refine XS.iconst X9.here hx rfl (hb hby at_82) ?_
        show Steps p.tables e below (T9.setTop (mkF m 83 #[.val (.int p0), .val (.int p1), .val (.ref wk), .val (.ref bx2), .val (.ref b3), .val (.ref bx2)] [(.int (1 : Int32))])) _
        refine XS.goto X9.here hx rfl (pc0 := 83) (pc' := 87) rfl (hb hby at_83) (by decide) (by decide) ?_
        show Steps p.tables e below (T9.setTop (mkF m 87 #[.val (.int p0), .val (.int p1), .val (.ref wk), .val (.ref bx2), .val (.ref b3), .val (.ref bx2)] [(.int (1 : Int32))])) _
        exact k
      obtain ⟨fs, hr, hrun, hended, hRW⟩ := X9.leaveW hS (by rw [e9]; exact hk) (v := some (.int (1 : Int32))) (fun h => by rw [Bd.returns] at h; cases h)
      refine own_done (retN X9 hx (t := .boolean) Bd.returns (by simp) (hb hby at_87) hr) hrun hended ⟨_, _, rfl, ?_, hRW.1, hRW.2.1, hRW.2.2.1, hRW.2.2.2.mono (by decide) (by decide)⟩
      show Q_rm0 Z h0 n0 (some (.int (1 : Int32))) T9.heap _
      rw [e9]
      exact ⟨rfl, N9⟩
    · refine own_go (B := T1.setTop (mkF m 31 #[.val (.int p0), .val (.int p1), .val (.ref wk), .val .null, .unset, .unset] [])) (fun t k => ?_) ?_
      · show Steps p.tables e below (T1.setTop (mkF m 19 #[.val (.int p0), .val (.int p1), .val (.ref wk), .unset, .unset, .unset] [(.int (p0 &&& (2 : Int32)))])) _
        refine XS.ifNo X1.here hx rfl (hb hby at_19) rfl ((if0 _ _).trans (feq hc19).1) ?_
        show Steps p.tables e below (T1.setTop (mkF m 22 #[.val (.int p0), .val (.int p1), .val (.ref wk), .unset, .unset, .unset] [])) _
        refine XS.aconstNull X1.here hx rfl (hb hby at_22) ?_
        show Steps p.tables e below (T1.setTop (mkF m 23 #[.val (.int p0), .val (.int p1), .val (.ref wk), .unset, .unset, .unset] [.null])) _
        refine XS.goto X1.here hx rfl (pc0 := 23) (pc' := 30) rfl (hb hby at_23) (by decide) (by decide) ?_
        show Steps p.tables e below (T1.setTop (mkF m 30 #[.val (.int p0), .val (.int p1), .val (.ref wk), .unset, .unset, .unset] [.null])) _
        refine XS.astoreN X1.here hx rfl (hb hby at_30) rfl rfl (l' := #[.val (.int p0), .val (.int p1), .val (.ref wk), .val .null, .unset, .unset]) rfl ?_
        show Steps p.tables e below (T1.setTop (mkF m 31 #[.val (.int p0), .val (.int p1), .val (.ref wk), .val .null, .unset, .unset] [])) _
        exact k
      obtain ⟨T10, h10, X10, e10, E10, A10, D10, U10, st10⟩ := newO X1 hx hZ hown (hw _ (List.mem_of_getElem? (i := 10) rfl)) (hw _ (List.mem_of_getElem? (i := 11) rfl)) (hw _ (List.mem_of_getElem? (i := 12) rfl)) e1 (g := (mkF m 31 #[.val (.int p0), .val (.int p1), .val (.ref wk), .val .null, .unset, .unset] [])) rfl (hb hby at_31) (by decide) (by decide)
      obtain ⟨b10, g10⟩ : ∃ z, z = h0.size := ⟨_, rfl⟩
      rw [← g10] at A10 D10 U10 st10
      have g_b10 : n0 ≤ b10 := Nat.le_trans Z0 (Nat.le_of_eq g10.symm)
      have sz_b10 : h0.size ≤ b10 := Nat.le_trans K.1 (Nat.le_of_eq g10.symm)
      have K := K.ext E10
      have Z0 := Nat.le_trans Z0 E10.1
      have O := O.ext E10
      have hk := Nat.le_trans hk E10.1
      have E_b10 := A10
      have F_kind_b10 : Fld Z h10 b10 "com/example/libonce/libonce/core/Outcome" "kind" "Lcom/example/libonce/libonce/core/Outcome$Kind;" .null := D10 (Or.inr (hw _ (List.mem_of_getElem? (i := 37) rfl))) (ty := (.object "com/example/libonce/libonce/core/Outcome$Kind")) (by decide)
      have F_result_b10 : Fld Z h10 b10 "com/example/libonce/libonce/core/Outcome" "result" "Ljava/lang/Object;" .null := D10 (Or.inr (hw _ (List.mem_of_getElem? (i := 39) rfl))) (ty := (.object "java/lang/Object")) (by decide)
      refine own_go (B := T10.setTop (mkF m 34 #[.val (.int p0), .val (.int p1), .val (.ref wk), .val .null, .unset, .unset] [(.ref b10)])) st10 ?_
      refine own_go (B := T10.setTop (mkF m 37 #[.val (.int p0), .val (.int p1), .val (.ref wk), .val .null, .unset, .unset] [.null, (.ref wk), (.ref b10), (.ref b10)])) (fun t k => ?_) ?_
      · show Steps p.tables e below (T10.setTop (mkF m 34 #[.val (.int p0), .val (.int p1), .val (.ref wk), .val .null, .unset, .unset] [(.ref b10)])) _
        refine XS.dup X10.here hx rfl (hb hby at_34) rfl rfl ?_
        show Steps p.tables e below (T10.setTop (mkF m 35 #[.val (.int p0), .val (.int p1), .val (.ref wk), .val .null, .unset, .unset] [(.ref b10), (.ref b10)])) _
        refine XS.aloadN X10.here hx rfl (hb hby at_35) rfl rfl ?_
        show Steps p.tables e below (T10.setTop (mkF m 36 #[.val (.int p0), .val (.int p1), .val (.ref wk), .val .null, .unset, .unset] [(.ref wk), (.ref b10), (.ref b10)])) _
        refine XS.aloadN X10.here hx rfl (hb hby at_36) rfl rfl ?_
        show Steps p.tables e below (T10.setTop (mkF m 37 #[.val (.int p0), .val (.int p1), .val (.ref wk), .val .null, .unset, .unset] [.null, (.ref wk), (.ref b10), (.ref b10)])) _
        exact k
      obtain ⟨_, _, ⟨T11, L11, k11, n11⟩, -, X11, hS11, hg11, ⟨Lc11, hQ11, l11, y11, z11⟩, st11⟩ := X10.specialBackS hx (y := (⟨"com/example/libonce/libonce/core/Outcome", "<init>", "(Lcom/example/libonce/libonce/core/Outcome$Kind;Ljava/lang/Object;)V"⟩ : MethodName)) rfl hown (mvT hZ (hw _ (List.mem_of_getElem? (i := 13) rfl))) (mvT hZ (hw _ (List.mem_of_getElem? (i := 14) rfl))) (mvT hZ (hw _ (List.mem_of_getElem? (i := 15) rfl))) (by decide) (backOfS (W := 1) (rm2n l Z a0 hw [] b10 wk h10 n0 Z0 F_kind_b10 F_result_b10 E_b10 g_b10) hZ (hw _ (List.mem_of_getElem? (i := 15) rfl)) (hw _ (List.mem_of_getElem? (i := 12) rfl)) (by decide) (by decide)) (g := (mkF m 37 #[.val (.int p0), .val (.int p1), .val (.ref wk), .val .null, .unset, .unset] [.null, (.ref wk), (.ref b10), (.ref b10)])) rfl (by rw [hml]; rfl) (Steps.refl _) (a := b10) (argsL := [(.ref wk), .null]) (rest := [(.ref b10)]) (lenOf pd_4 rfl) rfl (by show 2 * 0 + _ ≤ _; exact Nat.le_of_eq rfl) (hb hby at_37) (fun _ _ => ⟨rfl, e10, Nat.le_of_ble_eq_true rfl, Nat.le_of_ble_eq_true rfl⟩)
      dsimp only [Pt.U, Pt.locs, Pt.cells, Pt.slots] at hS11 hg11
      dsimp only [Pt.U, Pt.locs, Pt.cells, Pt.slots] at X11 l11 y11 z11 st11 hQ11
      subst l11 y11 z11
      obtain ⟨h11, e11⟩ : ∃ z, T11.heap = z := ⟨_, rfl⟩
      rw [e11] at hQ11
      obtain ⟨rfl, N11q, Kc11, Ec11, Fk11, Fr11⟩ := hQ11
      have N11 := Fr.app N1 N11q
      obtain ⟨X11, hS, hZ, hown⟩ := rebS hS (by rw [e10]; exact hk) X11 hS11 hg11 hZ hown
      rw [e11] at hS
      have hk : h11.size ≤ h11.size := Nat.le_refl _
      have E_b10 := E_b10.keep Kc11
      have K := K.trans Kc11 (allS (Or.inr sz_b10) all0)
      have Z0 := Nat.le_trans Z0 Kc11.1
      have O := O.keep Kc11 (allS g_b10 all0)
      have E_b10 := Ec11
      have F_kind_b10 := Fk11
      have F_result_b10 := Fr11
      refine own_go (B := T11.setTop (mkF m 40 #[.val (.int p0), .val (.int p1), .val (.ref wk), .val .null, .unset, .unset] [(.ref b10)])) (fun t k => st11.trans k) ?_
      refine own_go (B := T11.setTop (mkF m 44 #[.val (.int p0), .val (.int p1), .val (.ref wk), .val .null, .val (.ref b10), .unset] [(.ref b10)])) (fun t k => ?_) ?_
      · show Steps p.tables e below (T11.setTop (mkF m 40 #[.val (.int p0), .val (.int p1), .val (.ref wk), .val .null, .unset, .unset] [(.ref b10)])) _
        refine XS.astore X11.here hx rfl (hb hby at_40) rfl rfl (l' := #[.val (.int p0), .val (.int p1), .val (.ref wk), .val .null, .val (.ref b10), .unset]) rfl ?_
        show Steps p.tables e below (T11.setTop (mkF m 42 #[.val (.int p0), .val (.int p1), .val (.ref wk), .val .null, .val (.ref b10), .unset] [])) _
        refine XS.aload X11.here hx rfl (hb hby at_42) rfl rfl ?_
        show Steps p.tables e below (T11.setTop (mkF m 44 #[.val (.int p0), .val (.int p1), .val (.ref wk), .val .null, .val (.ref b10), .unset] [(.ref b10)])) _
        exact k
      obtain ⟨cq12, kq12, q12a, q12b, q12c⟩ := isOf hZ e11 E_b10
      obtain ⟨_, _, ⟨T13, L13, k13, n13⟩, -, X13, ⟨Lc13, hQ13, l13, y13, z13⟩, st13⟩ := X11.virtualBack hx (y := (⟨"com/example/libonce/libonce/core/Outcome", "result", "()Ljava/lang/Object;"⟩ : MethodName)) (z := (⟨"com/example/libonce/libonce/core/Outcome", "result", "()Ljava/lang/Object;"⟩ : MethodName)) hown (mvT hZ (hw _ (List.mem_of_getElem? (i := 40) rfl))) (mvT hZ (hw _ (List.mem_of_getElem? (i := 41) rfl))) (notFace_of_selects (args := #[]) (mvT hZ (hw _ (List.mem_of_getElem? (i := 43) rfl)))) (mvT hZ (hw _ (List.mem_of_getElem? (i := 43) rfl))) (mvT hZ (hw _ (List.mem_of_getElem? (i := 42) rfl))) (by decide) (backOf (W := 0) (rm6n l Z a0 hw [] b10 wk w_EXECUTED w_REPLAYED h11 n0 Z0 F_kind_b10 F_result_b10 hwk S_EXECUTED S_REPLAYED O) hZ (hw _ (List.mem_of_getElem? (i := 44) rfl)) (hw _ (List.mem_of_getElem? (i := 12) rfl)) (by decide) (by decide)) q12a q12c (g := (mkF m 44 #[.val (.int p0), .val (.int p1), .val (.ref wk), .val .null, .val (.ref b10), .unset] [(.ref b10)])) rfl (by rw [hml]; rfl) (Steps.refl _) (argsL := []) (rest := []) (lenOf pd_5 rfl) rfl (by show 2 * 0 + _ ≤ _; exact Nat.le_of_eq rfl) (hb hby at_44) (fun _ _ => ⟨rfl, e11, Nat.le_of_ble_eq_true rfl, Nat.le_of_ble_eq_true rfl⟩)
      dsimp only [Pt.U, Pt.locs, Pt.cells, Pt.slots] at X13 l13 y13 z13 st13 hQ13
      subst l13 y13 z13
      obtain ⟨h13, e13⟩ : ∃ z, T13.heap = z := ⟨_, rfl⟩
      rw [e13] at hQ13
      obtain ⟨rfl, N13q, eq13⟩ := hQ13
      have N13 := Fr.app N11 N13q
      rw [eq13] at e13
      refine own_go (B := T13.setTop (mkF m 47 #[.val (.int p0), .val (.int p1), .val (.ref wk), .val .null, .val (.ref b10), .unset] [.null])) (fun t k => st13.trans k) ?_
      refine own_go (B := T13.setTop (mkF m 66 #[.val (.int p0), .val (.int p1), .val (.ref wk), .val .null, .val (.ref b10), .val .null] [(.int (1 : Int32))])) (fun t k => ?_) ?_
      · show Steps p.tables e below (T13.setTop (mkF m 47 #[.val (.int p0), .val (.int p1), .val (.ref wk), .val .null, .val (.ref b10), .unset] [.null])) _
        refine X13.checkcastNull hx (g := (mkF m 47 #[.val (.int p0), .val (.int p1), .val (.ref wk), .val .null, .val (.ref b10), .unset] [.null])) rfl rfl (hb hby at_47) _ ?_
        show Steps p.tables e below (T13.setTop (mkF m 50 #[.val (.int p0), .val (.int p1), .val (.ref wk), .val .null, .val (.ref b10), .unset] [.null])) _
        refine XS.astore X13.here hx rfl (hb hby at_50) rfl rfl (l' := #[.val (.int p0), .val (.int p1), .val (.ref wk), .val .null, .val (.ref b10), .val .null]) rfl ?_
        show Steps p.tables e below (T13.setTop (mkF m 52 #[.val (.int p0), .val (.int p1), .val (.ref wk), .val .null, .val (.ref b10), .val .null] [])) _
        refine XS.aloadN X13.here hx rfl (hb hby at_52) rfl rfl ?_
        show Steps p.tables e below (T13.setTop (mkF m 53 #[.val (.int p0), .val (.int p1), .val (.ref wk), .val .null, .val (.ref b10), .val .null] [.null])) _
        refine XS.ifnonnullNo X13.here hx rfl (hb hby at_53) rfl ?_
        show Steps p.tables e below (T13.setTop (mkF m 56 #[.val (.int p0), .val (.int p1), .val (.ref wk), .val .null, .val (.ref b10), .val .null] [])) _
        refine XS.aload X13.here hx rfl (hb hby at_56) rfl rfl ?_
        show Steps p.tables e below (T13.setTop (mkF m 58 #[.val (.int p0), .val (.int p1), .val (.ref wk), .val .null, .val (.ref b10), .val .null] [.null])) _
        refine XS.ifnonnullNo X13.here hx rfl (hb hby at_58) rfl ?_
        show Steps p.tables e below (T13.setTop (mkF m 61 #[.val (.int p0), .val (.int p1), .val (.ref wk), .val .null, .val (.ref b10), .val .null] [])) _
        refine XS.iconst X13.here hx rfl (hb hby at_61) ?_
        show Steps p.tables e below (T13.setTop (mkF m 62 #[.val (.int p0), .val (.int p1), .val (.ref wk), .val .null, .val (.ref b10), .val .null] [(.int (1 : Int32))])) _
        refine XS.goto X13.here hx rfl (pc0 := 62) (pc' := 66) rfl (hb hby at_62) (by decide) (by decide) ?_
        show Steps p.tables e below (T13.setTop (mkF m 66 #[.val (.int p0), .val (.int p1), .val (.ref wk), .val .null, .val (.ref b10), .val .null] [(.int (1 : Int32))])) _
        exact k
      obtain ⟨fs, hr, hrun, hended, hRW⟩ := X13.leaveW hS (by rw [e13]; exact hk) (v := some (.int (1 : Int32))) (fun h => by rw [Bd.returns] at h; cases h)
      refine own_done (retN X13 hx (t := .boolean) Bd.returns (by simp) (hb hby at_66) hr) hrun hended ⟨_, _, rfl, ?_, hRW.1, hRW.2.1, hRW.2.2.1, hRW.2.2.2.mono (by decide) (by decide)⟩
      show Q_rm0 Z h0 n0 (some (.int (1 : Int32))) T13.heap _
      rw [e13]
      exact ⟨rfl, N13⟩
  by_cases hc3 : (p0 &&& (1 : Int32)) = (0 : Int32)
  · refine own_go (B := s₁.setTop (mkF m 12 #[.val (.int p0), .val (.int p1), .unset, .unset, .unset, .unset] [])) (fun t k => ?_) ?_
    · show Steps p.tables e below (s₁.setTop (mkF m 3 #[.val (.int p0), .val (.int p1), .unset, .unset, .unset, .unset] [(.int (p0 &&& (1 : Int32)))])) _
      refine XS.ifYes X0.here hx rfl (pc0 := 3) (pc' := 12) rfl (hb hby at_3) rfl ((if0 _ _).trans (teq hc3).1) (by decide) (by decide) ?_
      show Steps p.tables e below (s₁.setTop (mkF m 12 #[.val (.int p0), .val (.int p1), .unset, .unset, .unset, .unset] [])) _
      exact k
    obtain ⟨T14, X14, e14, st14⟩ := getS2 X0 hx hZ hown (host := "") (Or.inl (hw _ (List.mem_of_getElem? (i := 0) rfl))) Via.refl e0 (S_EXECUTED.ext O.2) (g := (mkF m 12 #[.val (.int p0), .val (.int p1), .unset, .unset, .unset, .unset] [])) rfl (hb hby at_12)
    refine own_go (B := T14.setTop (mkF m 15 #[.val (.int p0), .val (.int p1), .unset, .unset, .unset, .unset] [(.ref w_EXECUTED)])) st14 ?_
    exact J15 _ _ X14 N0 e14 w_EXECUTED (by first | exact Or.inl rfl | exact Or.inr rfl)
  · refine own_go (B := s₁.setTop (mkF m 6 #[.val (.int p0), .val (.int p1), .unset, .unset, .unset, .unset] [])) (fun t k => ?_) ?_
    · show Steps p.tables e below (s₁.setTop (mkF m 3 #[.val (.int p0), .val (.int p1), .unset, .unset, .unset, .unset] [(.int (p0 &&& (1 : Int32)))])) _
      refine XS.ifNo X0.here hx rfl (hb hby at_3) rfl ((if0 _ _).trans (feq hc3).1) ?_
      show Steps p.tables e below (s₁.setTop (mkF m 6 #[.val (.int p0), .val (.int p1), .unset, .unset, .unset, .unset] [])) _
      exact k
    obtain ⟨T15, X15, e15, st15⟩ := getS2 X0 hx hZ hown (host := "") (Or.inl (hw _ (List.mem_of_getElem? (i := 67) rfl))) Via.refl e0 (S_REPLAYED.ext O.2) (g := (mkF m 6 #[.val (.int p0), .val (.int p1), .unset, .unset, .unset, .unset] [])) rfl (hb hby at_6)
    refine own_go (B := T15.setTop (mkF m 9 #[.val (.int p0), .val (.int p1), .unset, .unset, .unset, .unset] [(.ref w_REPLAYED)])) st15 ?_
    refine own_go (B := T15.setTop (mkF m 15 #[.val (.int p0), .val (.int p1), .unset, .unset, .unset, .unset] [(.ref w_REPLAYED)])) (fun t k => ?_) ?_
    · show Steps p.tables e below (T15.setTop (mkF m 9 #[.val (.int p0), .val (.int p1), .unset, .unset, .unset, .unset] [(.ref w_REPLAYED)])) _
      refine XS.goto X15.here hx rfl (pc0 := 9) (pc' := 15) rfl (hb hby at_9) (by decide) (by decide) ?_
      show Steps p.tables e below (T15.setTop (mkF m 15 #[.val (.int p0), .val (.int p1), .unset, .unset, .unset, .unset] [(.ref w_REPLAYED)])) _
      exact k
    exact J15 _ _ X15 N0 e15 w_REPLAYED (by first | exact Or.inl rfl | exact Or.inr rfl)
set_option maxRecDepth 65536 in
set_option maxHeartbeats 40000000 in
theorem comes_1 {Post : Tables → Env → Array Value → State → Outcome → State → Prop} (hpost : ∀ tb e args s v u, (limb_1_1.after args s (.returned v) u = true ∧ limb_1_2.after args s (.returned v) u = true ∧ True) → FramedW s (.returned v) u (Jvm.fieldLocs frame_1_writes args s ++ Jvm.arrayLocs frame_1_arrays args s ++ Jvm.staticLocs frame_1_statics s) 16 1152 → Post tb e args s (.returned v) u) :
    ArmFor flags0 classFile x code maxLocals ret World_1 tables_1 room_1 Calls_1 rest_1 Pre_1 Post := by
  intro l hfl _ _ p e ha hc hk' s m args below hf hA hF happ hP
  obtain ⟨hcalls, hrest, hpre⟩ := hP
  obtain ⟨-, -, -, hnamed, -, -, -, hat⟩ := (Spec.applies_iff hf).mp happ
  obtain ⟨hg, hn⟩ := and_e (Cond.before_iff.mp (show (Jvm.Cond.and given_1 narrow_1).before args s = true from hpre))
  obtain ⟨gc, hg⟩ := and_e hg
  obtain ⟨w0, w1, rfl⟩ : ∃ w0 w1 : Value, args = #[w0, w1] := by
    have hs : args.size = 2 := by simpa [Cond.value, given_1] using gc
    obtain ⟨L⟩ := args
    match L, hs with
    | [w0, w1], _ => exact ⟨w0, w1, rfl⟩
  obtain ⟨ga0, hg⟩ := and_e hg
  have ga1 := hg
  obtain ⟨i0, ei0⟩ := is_v ga0
  obtain rfl : w0 = (.int i0) := Option.some.inj ei0
  obtain ⟨i1, ei1⟩ := is_v ga1
  obtain rfl : w1 = (.int i1) := Option.some.inj ei1
  have hw := fun d (hd : d ∈ tables_1) => atoms_spec (ws := Jvm.Cond.code x code maxLocals ret :: tables_1) hat d (List.mem_cons_of_mem _ hd)
  have hfit : Fit s := fun {y c} hc i hi => by
    obtain ⟨ha, rfl⟩ := Array.getElem?_eq_some_iff.mp hc
    have q := List.all_eq_true.mp ((Array.all_eq_true_iff_forall_mem.mp hF) _ (Array.getElem_mem ha)) i (List.mem_range.mpr hi)
    simpa [Array.getElem?_eq_getElem hi] using q
  obtain ⟨hsets, hown0⟩ := atoms_of _ (rest_1_c_eq ▸ (show rest_1_c.before _ s = true from hrest))
  obtain ⟨c0, hn⟩ := and_e hn
  obtain ⟨c1, hn⟩ := and_e hn
  obtain ⟨c2, hn⟩ := and_e hn
  have c3 := hn
  obtain ⟨w_EXECUTED, ev_EXECUTED⟩ := exa_v c0
  have E_EXECUTED := Exa.start ev_EXECUTED c0
  have S_EXECUTED := Sta.start ev_EXECUTED (Or.inr ⟨(hw _ (List.mem_of_getElem? (i := 1) rfl)), (hw _ (List.mem_of_getElem? (i := 2) rfl))⟩)
  obtain ⟨w_REPLAYED, ev_REPLAYED⟩ := exa_v c1
  have E_REPLAYED := Exa.start ev_REPLAYED c1
  have S_REPLAYED := Sta.start ev_REPLAYED (Or.inr ⟨(hw _ (List.mem_of_getElem? (i := 1) rfl)), (hw _ (List.mem_of_getElem? (i := 68) rfl))⟩)
  have O_REPLAYED := own_ord ev_REPLAYED c2
  have O_EXECUTED := own_ord ev_EXECUTED c3
  have S_high := Sta.start (eqv_i rfl (Cond.before_iff.mp (hsets _ (List.mem_of_getElem? (i := 3) rfl)))) (Or.inl (hsets _ (List.mem_of_getElem? (i := 1) rfl)))
  obtain ⟨wcache, ev_cache⟩ := arr_v (Cond.before_iff.mp (hsets _ (List.mem_of_getElem? (i := 4) rfl)))
  obtain ⟨ccache, A_cache⟩ := Arr.start ev_cache (Cond.before_iff.mp (hsets _ (List.mem_of_getElem? (i := 4) rfl)))
  have S_cache := Sta.start ev_cache (Or.inr ⟨(hw _ (List.mem_of_getElem? (i := 8) rfl)), (hsets _ (List.mem_of_getElem? (i := 2) rfl))⟩)
  obtain ⟨lc1, lc2⟩ := own_len ev_cache (A_cache.fin (Vm.Alike.refl _)) (eqv_i rfl (Cond.before_iff.mp (hsets _ (List.mem_of_getElem? (i := 6) rfl))))
  have BX : Bxs s wcache ccache "java/lang/Integer" "I" (256 : Int32) own_bxval := Bxs.start (fun _ => ev_cache) A_cache lc1 lc2 (by decide) (Cond.before_iff.mp (hsets _ (List.mem_of_getElem? (i := 7) rfl))) (fun X j hj q => eqv_i (own_subI hj) q)
  obtain ⟨n, o, h1, h2, h3, _, L, rfl, ⟨rfl, N⟩, hq⟩ := rm0 l s _ hw tables_1 i0 i1 w_EXECUTED w_REPLAYED wcache ccache s.heap s.heap.size (Nat.le_refl _) S_EXECUTED S_REPLAYED S_high S_cache BX (Old.start s) p e ha hc hk' s m _ below hf ((Spec.applies_iff_loose hf).mp happ).1 ⟨rfl, State.Warmed39.refl s, rfl⟩ trivial
  refine ⟨n, _, h1, h2, h3, hpost _ _ _ _ _ _ ⟨Cond.after_iff.mpr rfl, Cond.after_iff.mpr (eq_i res_at (Term.int_eval (1)) rfl), trivial⟩ ⟨hq.1, hq.2.1, hq.2.2.1, (hq.2.2.2.sift fun y hy => Or.inr (N y hy)).mono (by decide) (by decide)⟩⟩
theorem main_1_1 : Claimed_1_1 := comes_1 fun _ _ _ _ _ _ h hF => ⟨h.1, hF⟩
theorem main_1_2 : Claimed_1_2 := comes_1 fun _ _ _ _ _ _ h hF => ⟨h.2.1, hF⟩
end Jvm.Pilot.@@N@@
namespace Jvm.Pilot.@@N@@
open Jvm Jvm.ClassFile Sem Op Lib Jvm.Free Jvm.Stand Jvm.Pilot.@@N@@.Jvm.D
/-! MADE BY PROGRAM (witnessworld.py) out of the Statement's table words and the real class files: 22 classes; the members and pool entries that the words name. The judged class is class 1, her method 1. -/
namespace start1
open Jvm.ClassFile
def u (s : String) : CpInfo := .utf8 (stringToUtf16 s)
/-- a pool by its gaps: so many unusable entries, then the entry; so many at the end -/
def gap : Nat → List CpInfo → List CpInfo
  | 0, r => r
  | n + 1, r => .unusable :: gap n r
def poolList (es : List (Nat × CpInfo)) (last : Nat) : List CpInfo := es.foldr (fun e r => gap e.1 (e.2 :: r)) (gap last [])
def pool (es : List (Nat × CpInfo)) (last : Nat) : Array CpInfo := ⟨poolList es last⟩
def fileOf (pool : Array CpInfo) (this : Nat) (attrs : Array Attribute := #[]) (ms : Array MethodInfo := #[]) (fl : Nat := 33) (sup : Nat := 0) (ifs : Array Nat := #[]) (fds : Array FieldInfo := #[]) : ClassFile where
  minorVersion := 0
  majorVersion := 65
  constantPool := pool
  accessFlags := fl
  thisClass := this
  superClass := sup
  interfaces := ifs
  fields := fds
  methods := ms
  attributes := attrs
def plain (name : String) (sup : Option ClassId) : Class where
  name := name
  kind := .ordinary
  loader := none
  accessFlags := 33
  super := sup
  interfaces := #[]
  cf := none
  fields := #[]
  methods := #[]
  instanceTypes := #[]
  staticTypes := #[]
  resolved := #[]
  callSites := []
  init := .initialized
  statics := none
  mirror := none

def pool0 : Array CpInfo := pool [(5, u "<init>"), (0, u "()V"), (1, .class_ 10), (1, u "java/lang/Object")] 113

def k0c0 : Code := { maxStack := 0, maxLocals := 1, code := object_method_1_code, exceptionTable := #[], attributes := #[] }
def k0m0 : Method := { name := "<init>", desc := "()V", sig := { parameters := [], returnType := none }, accessFlags := 1, code := some k0c0 }
/-- java/lang/Object -/
def k0 : Class := { plain "java/lang/Object" none with
  accessFlags := 33
  interfaces := #[]
  cf := some (fileOf pool0 8 #[] #[{ accessFlags := 1, nameIndex := 5, descriptorIndex := 6, attributes := #[] }] 33 0 #[] #[])
  fields := #[]
  methods := #[k0m0]
  instanceTypes := #[]
  staticTypes := #[]
  resolved := Array.replicate 124 none
  statics := none }

def pool1 : Array CpInfo := pool [(2, .class_ 4), (1, u "java/lang/Object"), (0, u "<init>"), (0, u "()V"), (0, .fieldref 8 9), (0, .class_ 10), (0, .nameAndType 11 12), (0, u "com/example/libonce/libonce/core/Outcome$Kind"), (0, u "REPLAYED"), (0, u "Lcom/example/libonce/libonce/core/Outcome$Kind;"), (0, .fieldref 8 14), (0, .nameAndType 15 12), (0, u "EXECUTED"), (0, .methodref 17 18), (0, .class_ 19), (0, .nameAndType 20 21), (0, u "java/lang/Integer"), (0, u "valueOf"), (0, u "(I)Ljava/lang/Integer;"), (0, .class_ 23), (0, u "com/example/libonce/libonce/core/Outcome"), (0, .methodref 22 25), (0, .nameAndType 5 26), (0, u "(Lcom/example/libonce/libonce/core/Outcome$Kind;Ljava/lang/Object;)V"), (0, .methodref 22 28), (0, .nameAndType 29 30), (0, u "result"), (0, u "()Ljava/lang/Object;"), (0, .methodref 17 32), (0, .nameAndType 33 34), (0, u "intValue"), (0, u "()I"), (0, .class_ 36), (0, u "com/example/libonce/libonce/core/OutcomeResultPinLaw"), (2, u "law"), (0, u "(II)Z")] 5

def k1m0 : Method := { name := "<init>", desc := "()V", sig := { parameters := [], returnType := none }, accessFlags := 1, code := none }
def k1c1 : Code := { maxStack := 4, maxLocals := 6, code := code, exceptionTable := #[], attributes := #[] }
def k1m1 : Method := { name := "law", desc := "(II)Z", sig := { parameters := [.int, .int], returnType := some .boolean }, accessFlags := 9, code := some k1c1 }
/-- com/example/libonce/libonce/core/OutcomeResultPinLaw -/
def k1 : Class := { plain "com/example/libonce/libonce/core/OutcomeResultPinLaw" (some 0) with
  accessFlags := 49
  interfaces := #[]
  cf := some (fileOf pool1 35 #[] #[{ accessFlags := 1, nameIndex := 5, descriptorIndex := 6, attributes := #[] }, { accessFlags := 9, nameIndex := 39, descriptorIndex := 40, attributes := #[] }] 49 2 #[] #[])
  fields := #[]
  methods := #[k1m0, k1m1]
  instanceTypes := #[]
  staticTypes := #[]
  resolved := Array.replicate 46 none
  statics := none }

def pool2 : Array CpInfo := pool [(1, .class_ 2), (0, u "java/lang/constant/Constable"), (0, .class_ 4), (0, u "java/lang/Object")] 6

/-- java/lang/constant/Constable -/
def k2 : Class := { plain "java/lang/constant/Constable" (some 0) with
  accessFlags := 1537
  interfaces := #[]
  cf := some (fileOf pool2 1 #[] #[] 1537 3 #[] #[])
  fields := #[]
  methods := #[]
  instanceTypes := #[]
  staticTypes := #[]
  resolved := Array.replicate 11 none
  statics := none }

def pool3 : Array CpInfo := pool [(1, .class_ 2), (0, u "java/lang/Comparable"), (0, .class_ 4), (0, u "java/lang/Object")] 7

/-- java/lang/Comparable -/
def k3 : Class := { plain "java/lang/Comparable" (some 0) with
  accessFlags := 1537
  interfaces := #[]
  cf := some (fileOf pool3 1 #[] #[] 1537 3 #[] #[])
  fields := #[]
  methods := #[]
  instanceTypes := #[]
  staticTypes := #[]
  resolved := Array.replicate 12 none
  statics := none }

def pool4 : Array CpInfo := pool [(1, .class_ 2), (0, u "java/io/Serializable"), (0, .class_ 4), (0, u "java/lang/Object")] 2

/-- java/io/Serializable -/
def k4 : Class := { plain "java/io/Serializable" (some 0) with
  accessFlags := 1537
  interfaces := #[]
  cf := some (fileOf pool4 1 #[] #[] 1537 3 #[] #[])
  fields := #[]
  methods := #[]
  instanceTypes := #[]
  staticTypes := #[]
  resolved := Array.replicate 7 none
  statics := none }

def pool5 : Array CpInfo := pool [(2, .class_ 4), (1, u "java/lang/Enum"), (0, u "name"), (0, u "Ljava/lang/String;"), (2, u "ordinal"), (0, u "I"), (1, .class_ 14), (1, u "java/lang/Object"), (4, u "hash"), (86, .class_ 108), (1, u "java/lang/Enum$EnumDesc"), (2, .class_ 112), (0, u "java/lang/constant/Constable"), (0, .class_ 114), (0, u "java/lang/Comparable"), (0, .class_ 116), (0, u "java/io/Serializable")] 87

/-- java/lang/Enum -/
def k5 : Class := { plain "java/lang/Enum" (some 0) with
  accessFlags := 1057
  interfaces := #[2, 3, 4]
  cf := some (fileOf pool5 2 #[.nestMembers #[106]] #[] 1057 12 #[111, 113, 115] #[{ accessFlags := 18, nameIndex := 5, descriptorIndex := 6, attributes := #[] }, { accessFlags := 18, nameIndex := 9, descriptorIndex := 10, attributes := #[] }, { accessFlags := 2, nameIndex := 19, descriptorIndex := 10, attributes := #[] }])
  fields := #[{ name := "name", type := (.object "java/lang/String"), accessFlags := 18, slot := 0, constantValue := 0 }, { name := "ordinal", type := .int, accessFlags := 18, slot := 1, constantValue := 0 }, { name := "hash", type := .int, accessFlags := 2, slot := 2, constantValue := 0 }]
  methods := #[]
  instanceTypes := #[(.object "java/lang/String"), .int, .int]
  staticTypes := #[]
  resolved := Array.replicate 204 none
  statics := none }

def pool6 : Array CpInfo := pool [(1, .class_ 2), (0, u "com/example/libonce/libonce/core/Outcome$Kind"), (2, u "EXECUTED"), (0, u "Lcom/example/libonce/libonce/core/Outcome$Kind;"), (2, u "REPLAYED"), (2, u "IN_PROGRESS"), (2, u "KEY_REUSED"), (2, u "TOKEN_REJECTED"), (2, u "$VALUES"), (0, u "[Lcom/example/libonce/libonce/core/Outcome$Kind;"), (6, .class_ 31), (1, u "java/lang/Enum"), (28, .class_ 61), (0, u "com/example/libonce/libonce/core/Outcome")] 2

/-- com/example/libonce/libonce/core/Outcome$Kind -/
def k6 : Class := { plain "com/example/libonce/libonce/core/Outcome$Kind" (some 5) with
  accessFlags := 16433
  interfaces := #[]
  cf := some (fileOf pool6 1 #[.nestHost 60] #[] 16433 29 #[] #[{ accessFlags := 16409, nameIndex := 5, descriptorIndex := 6, attributes := #[] }, { accessFlags := 16409, nameIndex := 9, descriptorIndex := 6, attributes := #[] }, { accessFlags := 16409, nameIndex := 12, descriptorIndex := 6, attributes := #[] }, { accessFlags := 16409, nameIndex := 15, descriptorIndex := 6, attributes := #[] }, { accessFlags := 16409, nameIndex := 18, descriptorIndex := 6, attributes := #[] }, { accessFlags := 4122, nameIndex := 21, descriptorIndex := 22, attributes := #[] }])
  fields := #[{ name := "EXECUTED", type := (.object "com/example/libonce/libonce/core/Outcome$Kind"), accessFlags := 16409, slot := 0, constantValue := 0 }, { name := "REPLAYED", type := (.object "com/example/libonce/libonce/core/Outcome$Kind"), accessFlags := 16409, slot := 1, constantValue := 0 }, { name := "IN_PROGRESS", type := (.object "com/example/libonce/libonce/core/Outcome$Kind"), accessFlags := 16409, slot := 2, constantValue := 0 }, { name := "KEY_REUSED", type := (.object "com/example/libonce/libonce/core/Outcome$Kind"), accessFlags := 16409, slot := 3, constantValue := 0 }, { name := "TOKEN_REJECTED", type := (.object "com/example/libonce/libonce/core/Outcome$Kind"), accessFlags := 16409, slot := 4, constantValue := 0 }, { name := "$VALUES", type := (.array (.object "com/example/libonce/libonce/core/Outcome$Kind")), accessFlags := 4122, slot := 5, constantValue := 0 }]
  methods := #[]
  instanceTypes := #[(.object "java/lang/String"), .int, .int]
  staticTypes := #[(.object "com/example/libonce/libonce/core/Outcome$Kind"), (.object "com/example/libonce/libonce/core/Outcome$Kind"), (.object "com/example/libonce/libonce/core/Outcome$Kind"), (.object "com/example/libonce/libonce/core/Outcome$Kind"), (.object "com/example/libonce/libonce/core/Outcome$Kind"), (.array (.object "com/example/libonce/libonce/core/Outcome$Kind"))]
  resolved := Array.replicate 64 none
  statics := some 0 }

def pool7 : Array CpInfo := pool [(1, .methodref 2 3), (0, .class_ 4), (0, .nameAndType 5 6), (0, u "java/lang/Object"), (0, u "<init>"), (0, u "()V"), (1, .class_ 10), (1, u "java/lang/Number"), (2, .class_ 14), (0, u "java/io/Serializable"), (0, u "serialVersionUID"), (0, u "J")] 20

def k7c0 : Code := { maxStack := 1, maxLocals := 1, code := jdk_18_method_1_code, exceptionTable := #[], attributes := #[] }
def k7m0 : Method := { name := "<init>", desc := "()V", sig := { parameters := [], returnType := none }, accessFlags := 1, code := some k7c0 }
/-- java/lang/Number -/
def k7 : Class := { plain "java/lang/Number" (some 0) with
  accessFlags := 1057
  interfaces := #[4]
  cf := some (fileOf pool7 8 #[] #[{ accessFlags := 1, nameIndex := 5, descriptorIndex := 6, attributes := #[] }] 1057 2 #[13] #[{ accessFlags := 26, nameIndex := 15, descriptorIndex := 16, attributes := #[] }])
  fields := #[{ name := "serialVersionUID", type := .long, accessFlags := 26, slot := 0, constantValue := 0 }]
  methods := #[k7m0]
  instanceTypes := #[]
  staticTypes := #[.long]
  resolved := Array.replicate 37 none
  statics := none }

def pool8 : Array CpInfo := pool [(1, .class_ 2), (0, u "java/lang/constant/ConstantDesc"), (0, .class_ 4), (0, u "java/lang/Object")] 32

/-- java/lang/constant/ConstantDesc -/
def k8 : Class := { plain "java/lang/constant/ConstantDesc" (some 0) with
  accessFlags := 1537
  interfaces := #[]
  cf := some (fileOf pool8 1 #[] #[] 1537 3 #[] #[])
  fields := #[]
  methods := #[]
  instanceTypes := #[]
  staticTypes := #[]
  resolved := Array.replicate 37 none
  statics := none }

def pool9 : Array CpInfo := pool [(1, .class_ 2), (0, u "java/lang/Integer"), (16, u "digits"), (0, u "[C"), (46, u "<init>"), (17, u "DigitOnes"), (0, u "[B"), (2, u "DigitTens"), (10, .nameAndType 67 101), (0, u "()V"), (19, u "()I"), (65, u "valueOf"), (0, u "(I)Ljava/lang/Integer;"), (0, .class_ 190), (0, u "java/lang/Integer$IntegerCache"), (0, .fieldref 189 192), (0, .nameAndType 193 194), (0, u "high"), (0, u "I"), (0, .fieldref 189 196), (0, .nameAndType 197 198), (0, u "cache"), (0, u "[Ljava/lang/Integer;"), (0, .methodref 1 200), (0, .nameAndType 67 201), (0, u "(I)V"), (0, .methodref 203 100), (0, .class_ 204), (0, u "java/lang/Number"), (0, .fieldref 1 206), (0, .nameAndType 207 194), (0, u "value"), (5, u "intValue"), (88, u "TYPE"), (0, u "Ljava/lang/Class;"), (0, .class_ 305), (0, u "java/lang/Comparable"), (0, .class_ 307), (0, u "java/lang/constant/Constable"), (0, .class_ 309), (0, u "java/lang/constant/ConstantDesc"), (0, u "MIN_VALUE"), (1, u "MAX_VALUE"), (3, u "SIZE"), (1, u "BYTES"), (1, u "serialVersionUID"), (0, u "J")] 131

def k9c0 : Code := { maxStack := 3, maxLocals := 1, code := jdk_33_method_22_code, exceptionTable := #[], attributes := #[] }
def k9m0 : Method := { name := "valueOf", desc := "(I)Ljava/lang/Integer;", sig := { parameters := [.int], returnType := some (.object "java/lang/Integer") }, accessFlags := 9, code := some k9c0 }
def k9c1 : Code := { maxStack := 2, maxLocals := 2, code := jdk_33_method_23_code, exceptionTable := #[], attributes := #[] }
def k9m1 : Method := { name := "<init>", desc := "(I)V", sig := { parameters := [.int], returnType := none }, accessFlags := 1, code := some k9c1 }
def k9c2 : Code := { maxStack := 1, maxLocals := 1, code := jdk_33_method_27_code, exceptionTable := #[], attributes := #[] }
def k9m2 : Method := { name := "intValue", desc := "()I", sig := { parameters := [], returnType := some .int }, accessFlags := 1, code := some k9c2 }
/-- java/lang/Integer -/
def k9 : Class := { plain "java/lang/Integer" (some 7) with
  accessFlags := 49
  interfaces := #[3, 2, 8]
  cf := some (fileOf pool9 1 #[.nestMembers #[189]] #[{ accessFlags := 9, nameIndex := 187, descriptorIndex := 188, attributes := #[] }, { accessFlags := 1, nameIndex := 67, descriptorIndex := 201, attributes := #[] }, { accessFlags := 1, nameIndex := 213, descriptorIndex := 121, attributes := #[] }] 49 203 #[304, 306, 308] #[{ accessFlags := 25, nameIndex := 310, descriptorIndex := 194, attributes := #[] }, { accessFlags := 25, nameIndex := 312, descriptorIndex := 194, attributes := #[] }, { accessFlags := 25, nameIndex := 302, descriptorIndex := 303, attributes := #[] }, { accessFlags := 24, nameIndex := 19, descriptorIndex := 20, attributes := #[] }, { accessFlags := 24, nameIndex := 89, descriptorIndex := 86, attributes := #[] }, { accessFlags := 24, nameIndex := 85, descriptorIndex := 86, attributes := #[] }, { accessFlags := 18, nameIndex := 207, descriptorIndex := 194, attributes := #[] }, { accessFlags := 25, nameIndex := 316, descriptorIndex := 194, attributes := #[] }, { accessFlags := 25, nameIndex := 318, descriptorIndex := 194, attributes := #[] }, { accessFlags := 26, nameIndex := 320, descriptorIndex := 321, attributes := #[] }])
  fields := #[{ name := "MIN_VALUE", type := .int, accessFlags := 25, slot := 0, constantValue := 0 }, { name := "MAX_VALUE", type := .int, accessFlags := 25, slot := 1, constantValue := 0 }, { name := "TYPE", type := (.object "java/lang/Class"), accessFlags := 25, slot := 2, constantValue := 0 }, { name := "digits", type := (.array .char), accessFlags := 24, slot := 3, constantValue := 0 }, { name := "DigitTens", type := (.array .byte), accessFlags := 24, slot := 4, constantValue := 0 }, { name := "DigitOnes", type := (.array .byte), accessFlags := 24, slot := 5, constantValue := 0 }, { name := "value", type := .int, accessFlags := 18, slot := 0, constantValue := 0 }, { name := "SIZE", type := .int, accessFlags := 25, slot := 6, constantValue := 0 }, { name := "BYTES", type := .int, accessFlags := 25, slot := 7, constantValue := 0 }, { name := "serialVersionUID", type := .long, accessFlags := 26, slot := 8, constantValue := 0 }]
  methods := #[k9m0, k9m1, k9m2]
  instanceTypes := #[.int]
  staticTypes := #[.int, .int, (.object "java/lang/Class"), (.array .char), (.array .byte), (.array .byte), .int, .int, .long]
  resolved := Array.replicate 453 none
  statics := none }

def pool10 : Array CpInfo := pool [(2, .class_ 4), (1, u "java/lang/Object"), (0, u "<init>"), (0, u "()V"), (0, .class_ 8), (0, u "java/lang/Integer"), (7, .class_ 18), (1, u "java/lang/Integer$IntegerCache"), (0, u "$assertionsDisabled"), (0, u "Z"), (26, u "high"), (0, u "I"), (8, u "archivedCache"), (0, u "[Ljava/lang/Integer;"), (12, u "cache"), (0, u "low")] 27

def k10m0 : Method := { name := "<init>", desc := "()V", sig := { parameters := [], returnType := none }, accessFlags := 2, code := none }
/-- java/lang/Integer$IntegerCache -/
def k10 : Class := { plain "java/lang/Integer$IntegerCache" (some 0) with
  accessFlags := 48
  interfaces := #[]
  cf := some (fileOf pool10 16 #[.nestHost 7] #[{ accessFlags := 2, nameIndex := 5, descriptorIndex := 6, attributes := #[] }] 48 2 #[] #[{ accessFlags := 24, nameIndex := 72, descriptorIndex := 48, attributes := #[] }, { accessFlags := 24, nameIndex := 47, descriptorIndex := 48, attributes := #[] }, { accessFlags := 24, nameIndex := 71, descriptorIndex := 58, attributes := #[] }, { accessFlags := 8, nameIndex := 57, descriptorIndex := 58, attributes := #[] }, { accessFlags := 4120, nameIndex := 19, descriptorIndex := 20, attributes := #[] }])
  fields := #[{ name := "low", type := .int, accessFlags := 24, slot := 0, constantValue := 0 }, { name := "high", type := .int, accessFlags := 24, slot := 1, constantValue := 0 }, { name := "cache", type := (.array (.object "java/lang/Integer")), accessFlags := 24, slot := 2, constantValue := 0 }, { name := "archivedCache", type := (.array (.object "java/lang/Integer")), accessFlags := 8, slot := 3, constantValue := 0 }, { name := "$assertionsDisabled", type := .boolean, accessFlags := 4120, slot := 4, constantValue := 0 }]
  methods := #[k10m0]
  instanceTypes := #[]
  staticTypes := #[.int, .int, (.array (.object "java/lang/Integer")), (.array (.object "java/lang/Integer")), .boolean]
  resolved := Array.replicate 100 none
  statics := some 1 }

def pool11 : Array CpInfo := pool [(1, .methodref 2 3), (0, .class_ 4), (0, .nameAndType 5 6), (0, u "java/lang/Object"), (0, u "<init>"), (0, u "()V"), (0, .class_ 8), (0, u "java/lang/Record")] 13

def k11c0 : Code := { maxStack := 1, maxLocals := 1, code := jdk_30_method_1_code, exceptionTable := #[], attributes := #[] }
def k11m0 : Method := { name := "<init>", desc := "()V", sig := { parameters := [], returnType := none }, accessFlags := 4, code := some k11c0 }
/-- java/lang/Record -/
def k11 : Class := { plain "java/lang/Record" (some 0) with
  accessFlags := 1057
  interfaces := #[]
  cf := some (fileOf pool11 7 #[] #[{ accessFlags := 4, nameIndex := 5, descriptorIndex := 6, attributes := #[] }] 1057 2 #[] #[])
  fields := #[]
  methods := #[k11m0]
  instanceTypes := #[]
  staticTypes := #[]
  resolved := Array.replicate 22 none
  statics := none }

def pool12 : Array CpInfo := pool [(1, .methodref 2 3), (0, .class_ 4), (0, .nameAndType 5 6), (0, u "java/lang/Record"), (0, u "<init>"), (0, u "()V"), (0, .string 8), (0, u "kind"), (0, .methodref 10 11), (0, .class_ 12), (0, .nameAndType 13 14), (0, u "java/util/Objects"), (0, u "requireNonNull"), (0, u "(Ljava/lang/Object;Ljava/lang/String;)Ljava/lang/Object;"), (0, .fieldref 16 17), (0, .class_ 18), (0, .nameAndType 8 19), (0, u "com/example/libonce/libonce/core/Outcome"), (0, u "Lcom/example/libonce/libonce/core/Outcome$Kind;"), (0, .fieldref 16 21), (0, .nameAndType 22 23), (0, u "result"), (0, u "Ljava/lang/Object;"), (0, .fieldref 25 26), (0, .class_ 27), (0, .nameAndType 28 19), (0, u "com/example/libonce/libonce/core/Outcome$Kind"), (0, u "EXECUTED"), (2, u "(Lcom/example/libonce/libonce/core/Outcome$Kind;Ljava/lang/Object;)V"), (0, .fieldref 25 33), (0, .nameAndType 34 19), (0, u "REPLAYED"), (51, u "()Ljava/lang/Object;")] 38

def k12c0 : Code := { maxStack := 2, maxLocals := 3, code := prog_21_method_1_code, exceptionTable := #[], attributes := #[] }
def k12m0 : Method := { name := "<init>", desc := "(Lcom/example/libonce/libonce/core/Outcome$Kind;Ljava/lang/Object;)V", sig := { parameters := [(.object "com/example/libonce/libonce/core/Outcome$Kind"), (.object "java/lang/Object")], returnType := none }, accessFlags := 1, code := some k12c0 }
def k12c1 : Code := { maxStack := 3, maxLocals := 1, code := prog_21_method_7_code, exceptionTable := #[], attributes := #[] }
def k12m1 : Method := { name := "result", desc := "()Ljava/lang/Object;", sig := { parameters := [], returnType := some (.object "java/lang/Object") }, accessFlags := 1, code := some k12c1 }
/-- com/example/libonce/libonce/core/Outcome -/
def k12 : Class := { plain "com/example/libonce/libonce/core/Outcome" (some 11) with
  accessFlags := 49
  interfaces := #[]
  cf := some (fileOf pool12 16 #[.nestMembers #[25]] #[{ accessFlags := 1, nameIndex := 5, descriptorIndex := 31, attributes := #[] }, { accessFlags := 1, nameIndex := 22, descriptorIndex := 86, attributes := #[] }] 49 2 #[] #[{ accessFlags := 18, nameIndex := 8, descriptorIndex := 19, attributes := #[] }, { accessFlags := 18, nameIndex := 22, descriptorIndex := 23, attributes := #[] }])
  fields := #[{ name := "kind", type := (.object "com/example/libonce/libonce/core/Outcome$Kind"), accessFlags := 18, slot := 0, constantValue := 0 }, { name := "result", type := (.object "java/lang/Object"), accessFlags := 18, slot := 1, constantValue := 0 }]
  methods := #[k12m0, k12m1]
  instanceTypes := #[(.object "com/example/libonce/libonce/core/Outcome$Kind"), (.object "java/lang/Object")]
  staticTypes := #[]
  resolved := Array.replicate 125 none
  statics := none }

def pool13 : Array CpInfo := pool [(2, .class_ 4), (1, u "java/lang/CharSequence"), (42, .class_ 48), (0, u "java/lang/CharSequence$1CodePointIterator"), (10, .class_ 60), (0, u "java/lang/CharSequence$1CharIterator"), (5, .class_ 67), (0, u "java/lang/Object")] 63

/-- java/lang/CharSequence -/
def k13 : Class := { plain "java/lang/CharSequence" (some 0) with
  accessFlags := 1537
  interfaces := #[]
  cf := some (fileOf pool13 2 #[.nestMembers #[47, 59]] #[] 1537 66 #[] #[])
  fields := #[]
  methods := #[]
  instanceTypes := #[]
  staticTypes := #[]
  resolved := Array.replicate 131 none
  statics := none }

def pool14 : Array CpInfo := pool [(2, .class_ 4), (1, u "java/lang/Object"), (0, u "<init>"), (0, u "()V"), (3, .class_ 12), (1, u "java/lang/String"), (0, u "value"), (0, u "[B"), (2, u "coder"), (0, u "B"), (2, u "hash"), (0, u "I"), (2, u "hashIsZero"), (0, u "Z"), (13, u "COMPACT_STRINGS"), (534, .class_ 576), (0, u "java/lang/CharSequence"), (22, u "CASE_INSENSITIVE_ORDER"), (0, u "Ljava/util/Comparator;"), (500, u "serialPersistentFields"), (0, u "[Ljava/io/ObjectStreamField;"), (0, .class_ 1104), (0, u "java/lang/String$CaseInsensitiveComparator"), (1, .class_ 1107), (0, u "java/io/Serializable"), (0, .class_ 1109), (0, u "java/lang/Comparable"), (0, .class_ 1111), (0, u "java/lang/constant/Constable"), (0, .class_ 1113), (0, u "java/lang/constant/ConstantDesc"), (2, u "serialVersionUID"), (0, u "J"), (3, u "REPL"), (0, u "C"), (2, u "LATIN1"), (1, u "UTF16")] 323

def k14m0 : Method := { name := "<init>", desc := "()V", sig := { parameters := [], returnType := none }, accessFlags := 1, code := none }
/-- java/lang/String -/
def k14 : Class := { plain "java/lang/String" (some 0) with
  accessFlags := 49
  interfaces := #[4, 3, 13, 2, 8]
  cf := some (fileOf pool14 10 #[.nestMembers #[1103]] #[{ accessFlags := 1, nameIndex := 5, descriptorIndex := 6, attributes := #[] }] 49 2 #[1106, 1108, 575, 1110, 1112] #[{ accessFlags := 18, nameIndex := 13, descriptorIndex := 14, attributes := #[] }, { accessFlags := 18, nameIndex := 17, descriptorIndex := 18, attributes := #[] }, { accessFlags := 2, nameIndex := 21, descriptorIndex := 22, attributes := #[] }, { accessFlags := 2, nameIndex := 25, descriptorIndex := 26, attributes := #[] }, { accessFlags := 26, nameIndex := 1116, descriptorIndex := 1117, attributes := #[] }, { accessFlags := 24, nameIndex := 40, descriptorIndex := 26, attributes := #[] }, { accessFlags := 26, nameIndex := 1101, descriptorIndex := 1102, attributes := #[] }, { accessFlags := 26, nameIndex := 1121, descriptorIndex := 1122, attributes := #[] }, { accessFlags := 25, nameIndex := 599, descriptorIndex := 600, attributes := #[] }, { accessFlags := 24, nameIndex := 1125, descriptorIndex := 18, attributes := #[] }, { accessFlags := 24, nameIndex := 1127, descriptorIndex := 18, attributes := #[] }])
  fields := #[{ name := "value", type := (.array .byte), accessFlags := 18, slot := 0, constantValue := 0 }, { name := "coder", type := .byte, accessFlags := 18, slot := 1, constantValue := 0 }, { name := "hash", type := .int, accessFlags := 2, slot := 2, constantValue := 0 }, { name := "hashIsZero", type := .boolean, accessFlags := 2, slot := 3, constantValue := 0 }, { name := "serialVersionUID", type := .long, accessFlags := 26, slot := 0, constantValue := 0 }, { name := "COMPACT_STRINGS", type := .boolean, accessFlags := 24, slot := 1, constantValue := 0 }, { name := "serialPersistentFields", type := (.array (.object "java/io/ObjectStreamField")), accessFlags := 26, slot := 2, constantValue := 0 }, { name := "REPL", type := .char, accessFlags := 26, slot := 3, constantValue := 0 }, { name := "CASE_INSENSITIVE_ORDER", type := (.object "java/util/Comparator"), accessFlags := 25, slot := 4, constantValue := 0 }, { name := "LATIN1", type := .byte, accessFlags := 24, slot := 5, constantValue := 0 }, { name := "UTF16", type := .byte, accessFlags := 24, slot := 6, constantValue := 0 }]
  methods := #[k14m0]
  instanceTypes := #[(.array .byte), .byte, .int, .boolean]
  staticTypes := #[.long, .boolean, (.array (.object "java/io/ObjectStreamField")), .char, (.object "java/util/Comparator"), .byte, .byte]
  resolved := Array.replicate 1451 none
  statics := none }

def pool15 : Array CpInfo := pool [(2, .class_ 4), (1, u "java/lang/Object"), (0, u "<init>"), (0, u "()V"), (35, .class_ 44), (1, u "java/util/Objects"), (0, u "requireNonNull"), (48, u "(Ljava/lang/Object;Ljava/lang/String;)Ljava/lang/Object;")] 89

def k15m0 : Method := { name := "<init>", desc := "()V", sig := { parameters := [], returnType := none }, accessFlags := 2, code := none }
def k15c1 : Code := { maxStack := 3, maxLocals := 2, code := jdk_31_method_11_code, exceptionTable := #[], attributes := #[] }
def k15m1 : Method := { name := "requireNonNull", desc := "(Ljava/lang/Object;Ljava/lang/String;)Ljava/lang/Object;", sig := { parameters := [(.object "java/lang/Object"), (.object "java/lang/String")], returnType := some (.object "java/lang/Object") }, accessFlags := 9, code := some k15c1 }
/-- java/util/Objects -/
def k15 : Class := { plain "java/util/Objects" (some 0) with
  accessFlags := 49
  interfaces := #[]
  cf := some (fileOf pool15 42 #[] #[{ accessFlags := 2, nameIndex := 5, descriptorIndex := 6, attributes := #[] }, { accessFlags := 9, nameIndex := 45, descriptorIndex := 94, attributes := #[] }] 49 2 #[] #[])
  fields := #[]
  methods := #[k15m0, k15m1]
  instanceTypes := #[]
  staticTypes := #[]
  resolved := Array.replicate 184 none
  statics := none }

def pool16 : Array CpInfo := pool [(1, u "java/lang/Cloneable"), (0, .class_ 1), (0, u "java/lang/Object"), (0, .class_ 3)] 3

/-- java/lang/Cloneable -/
def k16 : Class := { plain "java/lang/Cloneable" (some 0) with
  accessFlags := 1537
  interfaces := #[]
  cf := some (fileOf pool16 2 #[] #[] 1537 4 #[] #[])
  fields := #[]
  methods := #[]
  instanceTypes := #[]
  staticTypes := #[]
  resolved := Array.replicate 8 none
  statics := none }

/-- the primitive byte -/
def k17 : Class := { plain "byte" none with kind := .primitive 'B', accessFlags := 0x411 }
/-- [B -/
def k18 : Class := { plain "[B" (some 0) with kind := .array 17 .byte, interfaces := #[16, 4], accessFlags := 1041 }

/-- the primitive int -/
def k19 : Class := { plain "int" none with kind := .primitive 'I', accessFlags := 0x411 }
/-- [I -/
def k20 : Class := { plain "[I" (some 0) with kind := .array 19 .int, interfaces := #[16, 4], accessFlags := 1041 }

/-- [Ljava/lang/Integer; -/
def k21 : Class := { plain "[Ljava/lang/Integer;" (some 0) with kind := .array 9 (.object "java/lang/Integer"), interfaces := #[16, 4], accessFlags := 1041 }

def heap : Heap := #[{ cls := 6, slots := #[.ref 259, .ref 260, .null, .null, .null, .null], vm := .statics 6 },
  { cls := 10, slots := #[.int 0, .int 127, .ref 2, .null, .int 0], vm := .statics 10 },
  { cls := 21, slots := #[.ref 3, .ref 4, .ref 5, .ref 6, .ref 7, .ref 8, .ref 9, .ref 10, .ref 11, .ref 12, .ref 13, .ref 14, .ref 15, .ref 16, .ref 17, .ref 18, .ref 19, .ref 20, .ref 21, .ref 22, .ref 23, .ref 24, .ref 25, .ref 26, .ref 27, .ref 28, .ref 29, .ref 30, .ref 31, .ref 32, .ref 33, .ref 34, .ref 35, .ref 36, .ref 37, .ref 38, .ref 39, .ref 40, .ref 41, .ref 42, .ref 43, .ref 44, .ref 45, .ref 46, .ref 47, .ref 48, .ref 49, .ref 50, .ref 51, .ref 52, .ref 53, .ref 54, .ref 55, .ref 56, .ref 57, .ref 58, .ref 59, .ref 60, .ref 61, .ref 62, .ref 63, .ref 64, .ref 65, .ref 66, .ref 67, .ref 68, .ref 69, .ref 70, .ref 71, .ref 72, .ref 73, .ref 74, .ref 75, .ref 76, .ref 77, .ref 78, .ref 79, .ref 80, .ref 81, .ref 82, .ref 83, .ref 84, .ref 85, .ref 86, .ref 87, .ref 88, .ref 89, .ref 90, .ref 91, .ref 92, .ref 93, .ref 94, .ref 95, .ref 96, .ref 97, .ref 98, .ref 99, .ref 100, .ref 101, .ref 102, .ref 103, .ref 104, .ref 105, .ref 106, .ref 107, .ref 108, .ref 109, .ref 110, .ref 111, .ref 112, .ref 113, .ref 114, .ref 115, .ref 116, .ref 117, .ref 118, .ref 119, .ref 120, .ref 121, .ref 122, .ref 123, .ref 124, .ref 125, .ref 126, .ref 127, .ref 128, .ref 129, .ref 130, .ref 131, .ref 132, .ref 133, .ref 134, .ref 135, .ref 136, .ref 137, .ref 138, .ref 139, .ref 140, .ref 141, .ref 142, .ref 143, .ref 144, .ref 145, .ref 146, .ref 147, .ref 148, .ref 149, .ref 150, .ref 151, .ref 152, .ref 153, .ref 154, .ref 155, .ref 156, .ref 157, .ref 158, .ref 159, .ref 160, .ref 161, .ref 162, .ref 163, .ref 164, .ref 165, .ref 166, .ref 167, .ref 168, .ref 169, .ref 170, .ref 171, .ref 172, .ref 173, .ref 174, .ref 175, .ref 176, .ref 177, .ref 178, .ref 179, .ref 180, .ref 181, .ref 182, .ref 183, .ref 184, .ref 185, .ref 186, .ref 187, .ref 188, .ref 189, .ref 190, .ref 191, .ref 192, .ref 193, .ref 194, .ref 195, .ref 196, .ref 197, .ref 198, .ref 199, .ref 200, .ref 201, .ref 202, .ref 203, .ref 204, .ref 205, .ref 206, .ref 207, .ref 208, .ref 209, .ref 210, .ref 211, .ref 212, .ref 213, .ref 214, .ref 215, .ref 216, .ref 217, .ref 218, .ref 219, .ref 220, .ref 221, .ref 222, .ref 223, .ref 224, .ref 225, .ref 226, .ref 227, .ref 228, .ref 229, .ref 230, .ref 231, .ref 232, .ref 233, .ref 234, .ref 235, .ref 236, .ref 237, .ref 238, .ref 239, .ref 240, .ref 241, .ref 242, .ref 243, .ref 244, .ref 245, .ref 246, .ref 247, .ref 248, .ref 249, .ref 250, .ref 251, .ref 252, .ref 253, .ref 254, .ref 255, .ref 256, .ref 257, .ref 258], vm := .none },
  { cls := 9, slots := #[.int (-128)], vm := .none },
  { cls := 9, slots := #[.int (-127)], vm := .none },
  { cls := 9, slots := #[.int (-126)], vm := .none },
  { cls := 9, slots := #[.int (-125)], vm := .none },
  { cls := 9, slots := #[.int (-124)], vm := .none },
  { cls := 9, slots := #[.int (-123)], vm := .none },
  { cls := 9, slots := #[.int (-122)], vm := .none },
  { cls := 9, slots := #[.int (-121)], vm := .none },
  { cls := 9, slots := #[.int (-120)], vm := .none },
  { cls := 9, slots := #[.int (-119)], vm := .none },
  { cls := 9, slots := #[.int (-118)], vm := .none },
  { cls := 9, slots := #[.int (-117)], vm := .none },
  { cls := 9, slots := #[.int (-116)], vm := .none },
  { cls := 9, slots := #[.int (-115)], vm := .none },
  { cls := 9, slots := #[.int (-114)], vm := .none },
  { cls := 9, slots := #[.int (-113)], vm := .none },
  { cls := 9, slots := #[.int (-112)], vm := .none },
  { cls := 9, slots := #[.int (-111)], vm := .none },
  { cls := 9, slots := #[.int (-110)], vm := .none },
  { cls := 9, slots := #[.int (-109)], vm := .none },
  { cls := 9, slots := #[.int (-108)], vm := .none },
  { cls := 9, slots := #[.int (-107)], vm := .none },
  { cls := 9, slots := #[.int (-106)], vm := .none },
  { cls := 9, slots := #[.int (-105)], vm := .none },
  { cls := 9, slots := #[.int (-104)], vm := .none },
  { cls := 9, slots := #[.int (-103)], vm := .none },
  { cls := 9, slots := #[.int (-102)], vm := .none },
  { cls := 9, slots := #[.int (-101)], vm := .none },
  { cls := 9, slots := #[.int (-100)], vm := .none },
  { cls := 9, slots := #[.int (-99)], vm := .none },
  { cls := 9, slots := #[.int (-98)], vm := .none },
  { cls := 9, slots := #[.int (-97)], vm := .none },
  { cls := 9, slots := #[.int (-96)], vm := .none },
  { cls := 9, slots := #[.int (-95)], vm := .none },
  { cls := 9, slots := #[.int (-94)], vm := .none },
  { cls := 9, slots := #[.int (-93)], vm := .none },
  { cls := 9, slots := #[.int (-92)], vm := .none },
  { cls := 9, slots := #[.int (-91)], vm := .none },
  { cls := 9, slots := #[.int (-90)], vm := .none },
  { cls := 9, slots := #[.int (-89)], vm := .none },
  { cls := 9, slots := #[.int (-88)], vm := .none },
  { cls := 9, slots := #[.int (-87)], vm := .none },
  { cls := 9, slots := #[.int (-86)], vm := .none },
  { cls := 9, slots := #[.int (-85)], vm := .none },
  { cls := 9, slots := #[.int (-84)], vm := .none },
  { cls := 9, slots := #[.int (-83)], vm := .none },
  { cls := 9, slots := #[.int (-82)], vm := .none },
  { cls := 9, slots := #[.int (-81)], vm := .none },
  { cls := 9, slots := #[.int (-80)], vm := .none },
  { cls := 9, slots := #[.int (-79)], vm := .none },
  { cls := 9, slots := #[.int (-78)], vm := .none },
  { cls := 9, slots := #[.int (-77)], vm := .none },
  { cls := 9, slots := #[.int (-76)], vm := .none },
  { cls := 9, slots := #[.int (-75)], vm := .none },
  { cls := 9, slots := #[.int (-74)], vm := .none },
  { cls := 9, slots := #[.int (-73)], vm := .none },
  { cls := 9, slots := #[.int (-72)], vm := .none },
  { cls := 9, slots := #[.int (-71)], vm := .none },
  { cls := 9, slots := #[.int (-70)], vm := .none },
  { cls := 9, slots := #[.int (-69)], vm := .none },
  { cls := 9, slots := #[.int (-68)], vm := .none },
  { cls := 9, slots := #[.int (-67)], vm := .none },
  { cls := 9, slots := #[.int (-66)], vm := .none },
  { cls := 9, slots := #[.int (-65)], vm := .none },
  { cls := 9, slots := #[.int (-64)], vm := .none },
  { cls := 9, slots := #[.int (-63)], vm := .none },
  { cls := 9, slots := #[.int (-62)], vm := .none },
  { cls := 9, slots := #[.int (-61)], vm := .none },
  { cls := 9, slots := #[.int (-60)], vm := .none },
  { cls := 9, slots := #[.int (-59)], vm := .none },
  { cls := 9, slots := #[.int (-58)], vm := .none },
  { cls := 9, slots := #[.int (-57)], vm := .none },
  { cls := 9, slots := #[.int (-56)], vm := .none },
  { cls := 9, slots := #[.int (-55)], vm := .none },
  { cls := 9, slots := #[.int (-54)], vm := .none },
  { cls := 9, slots := #[.int (-53)], vm := .none },
  { cls := 9, slots := #[.int (-52)], vm := .none },
  { cls := 9, slots := #[.int (-51)], vm := .none },
  { cls := 9, slots := #[.int (-50)], vm := .none },
  { cls := 9, slots := #[.int (-49)], vm := .none },
  { cls := 9, slots := #[.int (-48)], vm := .none },
  { cls := 9, slots := #[.int (-47)], vm := .none },
  { cls := 9, slots := #[.int (-46)], vm := .none },
  { cls := 9, slots := #[.int (-45)], vm := .none },
  { cls := 9, slots := #[.int (-44)], vm := .none },
  { cls := 9, slots := #[.int (-43)], vm := .none },
  { cls := 9, slots := #[.int (-42)], vm := .none },
  { cls := 9, slots := #[.int (-41)], vm := .none },
  { cls := 9, slots := #[.int (-40)], vm := .none },
  { cls := 9, slots := #[.int (-39)], vm := .none },
  { cls := 9, slots := #[.int (-38)], vm := .none },
  { cls := 9, slots := #[.int (-37)], vm := .none },
  { cls := 9, slots := #[.int (-36)], vm := .none },
  { cls := 9, slots := #[.int (-35)], vm := .none },
  { cls := 9, slots := #[.int (-34)], vm := .none },
  { cls := 9, slots := #[.int (-33)], vm := .none },
  { cls := 9, slots := #[.int (-32)], vm := .none },
  { cls := 9, slots := #[.int (-31)], vm := .none },
  { cls := 9, slots := #[.int (-30)], vm := .none },
  { cls := 9, slots := #[.int (-29)], vm := .none },
  { cls := 9, slots := #[.int (-28)], vm := .none },
  { cls := 9, slots := #[.int (-27)], vm := .none },
  { cls := 9, slots := #[.int (-26)], vm := .none },
  { cls := 9, slots := #[.int (-25)], vm := .none },
  { cls := 9, slots := #[.int (-24)], vm := .none },
  { cls := 9, slots := #[.int (-23)], vm := .none },
  { cls := 9, slots := #[.int (-22)], vm := .none },
  { cls := 9, slots := #[.int (-21)], vm := .none },
  { cls := 9, slots := #[.int (-20)], vm := .none },
  { cls := 9, slots := #[.int (-19)], vm := .none },
  { cls := 9, slots := #[.int (-18)], vm := .none },
  { cls := 9, slots := #[.int (-17)], vm := .none },
  { cls := 9, slots := #[.int (-16)], vm := .none },
  { cls := 9, slots := #[.int (-15)], vm := .none },
  { cls := 9, slots := #[.int (-14)], vm := .none },
  { cls := 9, slots := #[.int (-13)], vm := .none },
  { cls := 9, slots := #[.int (-12)], vm := .none },
  { cls := 9, slots := #[.int (-11)], vm := .none },
  { cls := 9, slots := #[.int (-10)], vm := .none },
  { cls := 9, slots := #[.int (-9)], vm := .none },
  { cls := 9, slots := #[.int (-8)], vm := .none },
  { cls := 9, slots := #[.int (-7)], vm := .none },
  { cls := 9, slots := #[.int (-6)], vm := .none },
  { cls := 9, slots := #[.int (-5)], vm := .none },
  { cls := 9, slots := #[.int (-4)], vm := .none },
  { cls := 9, slots := #[.int (-3)], vm := .none },
  { cls := 9, slots := #[.int (-2)], vm := .none },
  { cls := 9, slots := #[.int (-1)], vm := .none },
  { cls := 9, slots := #[.int (0)], vm := .none },
  { cls := 9, slots := #[.int (1)], vm := .none },
  { cls := 9, slots := #[.int (2)], vm := .none },
  { cls := 9, slots := #[.int (3)], vm := .none },
  { cls := 9, slots := #[.int (4)], vm := .none },
  { cls := 9, slots := #[.int (5)], vm := .none },
  { cls := 9, slots := #[.int (6)], vm := .none },
  { cls := 9, slots := #[.int (7)], vm := .none },
  { cls := 9, slots := #[.int (8)], vm := .none },
  { cls := 9, slots := #[.int (9)], vm := .none },
  { cls := 9, slots := #[.int (10)], vm := .none },
  { cls := 9, slots := #[.int (11)], vm := .none },
  { cls := 9, slots := #[.int (12)], vm := .none },
  { cls := 9, slots := #[.int (13)], vm := .none },
  { cls := 9, slots := #[.int (14)], vm := .none },
  { cls := 9, slots := #[.int (15)], vm := .none },
  { cls := 9, slots := #[.int (16)], vm := .none },
  { cls := 9, slots := #[.int (17)], vm := .none },
  { cls := 9, slots := #[.int (18)], vm := .none },
  { cls := 9, slots := #[.int (19)], vm := .none },
  { cls := 9, slots := #[.int (20)], vm := .none },
  { cls := 9, slots := #[.int (21)], vm := .none },
  { cls := 9, slots := #[.int (22)], vm := .none },
  { cls := 9, slots := #[.int (23)], vm := .none },
  { cls := 9, slots := #[.int (24)], vm := .none },
  { cls := 9, slots := #[.int (25)], vm := .none },
  { cls := 9, slots := #[.int (26)], vm := .none },
  { cls := 9, slots := #[.int (27)], vm := .none },
  { cls := 9, slots := #[.int (28)], vm := .none },
  { cls := 9, slots := #[.int (29)], vm := .none },
  { cls := 9, slots := #[.int (30)], vm := .none },
  { cls := 9, slots := #[.int (31)], vm := .none },
  { cls := 9, slots := #[.int (32)], vm := .none },
  { cls := 9, slots := #[.int (33)], vm := .none },
  { cls := 9, slots := #[.int (34)], vm := .none },
  { cls := 9, slots := #[.int (35)], vm := .none },
  { cls := 9, slots := #[.int (36)], vm := .none },
  { cls := 9, slots := #[.int (37)], vm := .none },
  { cls := 9, slots := #[.int (38)], vm := .none },
  { cls := 9, slots := #[.int (39)], vm := .none },
  { cls := 9, slots := #[.int (40)], vm := .none },
  { cls := 9, slots := #[.int (41)], vm := .none },
  { cls := 9, slots := #[.int (42)], vm := .none },
  { cls := 9, slots := #[.int (43)], vm := .none },
  { cls := 9, slots := #[.int (44)], vm := .none },
  { cls := 9, slots := #[.int (45)], vm := .none },
  { cls := 9, slots := #[.int (46)], vm := .none },
  { cls := 9, slots := #[.int (47)], vm := .none },
  { cls := 9, slots := #[.int (48)], vm := .none },
  { cls := 9, slots := #[.int (49)], vm := .none },
  { cls := 9, slots := #[.int (50)], vm := .none },
  { cls := 9, slots := #[.int (51)], vm := .none },
  { cls := 9, slots := #[.int (52)], vm := .none },
  { cls := 9, slots := #[.int (53)], vm := .none },
  { cls := 9, slots := #[.int (54)], vm := .none },
  { cls := 9, slots := #[.int (55)], vm := .none },
  { cls := 9, slots := #[.int (56)], vm := .none },
  { cls := 9, slots := #[.int (57)], vm := .none },
  { cls := 9, slots := #[.int (58)], vm := .none },
  { cls := 9, slots := #[.int (59)], vm := .none },
  { cls := 9, slots := #[.int (60)], vm := .none },
  { cls := 9, slots := #[.int (61)], vm := .none },
  { cls := 9, slots := #[.int (62)], vm := .none },
  { cls := 9, slots := #[.int (63)], vm := .none },
  { cls := 9, slots := #[.int (64)], vm := .none },
  { cls := 9, slots := #[.int (65)], vm := .none },
  { cls := 9, slots := #[.int (66)], vm := .none },
  { cls := 9, slots := #[.int (67)], vm := .none },
  { cls := 9, slots := #[.int (68)], vm := .none },
  { cls := 9, slots := #[.int (69)], vm := .none },
  { cls := 9, slots := #[.int (70)], vm := .none },
  { cls := 9, slots := #[.int (71)], vm := .none },
  { cls := 9, slots := #[.int (72)], vm := .none },
  { cls := 9, slots := #[.int (73)], vm := .none },
  { cls := 9, slots := #[.int (74)], vm := .none },
  { cls := 9, slots := #[.int (75)], vm := .none },
  { cls := 9, slots := #[.int (76)], vm := .none },
  { cls := 9, slots := #[.int (77)], vm := .none },
  { cls := 9, slots := #[.int (78)], vm := .none },
  { cls := 9, slots := #[.int (79)], vm := .none },
  { cls := 9, slots := #[.int (80)], vm := .none },
  { cls := 9, slots := #[.int (81)], vm := .none },
  { cls := 9, slots := #[.int (82)], vm := .none },
  { cls := 9, slots := #[.int (83)], vm := .none },
  { cls := 9, slots := #[.int (84)], vm := .none },
  { cls := 9, slots := #[.int (85)], vm := .none },
  { cls := 9, slots := #[.int (86)], vm := .none },
  { cls := 9, slots := #[.int (87)], vm := .none },
  { cls := 9, slots := #[.int (88)], vm := .none },
  { cls := 9, slots := #[.int (89)], vm := .none },
  { cls := 9, slots := #[.int (90)], vm := .none },
  { cls := 9, slots := #[.int (91)], vm := .none },
  { cls := 9, slots := #[.int (92)], vm := .none },
  { cls := 9, slots := #[.int (93)], vm := .none },
  { cls := 9, slots := #[.int (94)], vm := .none },
  { cls := 9, slots := #[.int (95)], vm := .none },
  { cls := 9, slots := #[.int (96)], vm := .none },
  { cls := 9, slots := #[.int (97)], vm := .none },
  { cls := 9, slots := #[.int (98)], vm := .none },
  { cls := 9, slots := #[.int (99)], vm := .none },
  { cls := 9, slots := #[.int (100)], vm := .none },
  { cls := 9, slots := #[.int (101)], vm := .none },
  { cls := 9, slots := #[.int (102)], vm := .none },
  { cls := 9, slots := #[.int (103)], vm := .none },
  { cls := 9, slots := #[.int (104)], vm := .none },
  { cls := 9, slots := #[.int (105)], vm := .none },
  { cls := 9, slots := #[.int (106)], vm := .none },
  { cls := 9, slots := #[.int (107)], vm := .none },
  { cls := 9, slots := #[.int (108)], vm := .none },
  { cls := 9, slots := #[.int (109)], vm := .none },
  { cls := 9, slots := #[.int (110)], vm := .none },
  { cls := 9, slots := #[.int (111)], vm := .none },
  { cls := 9, slots := #[.int (112)], vm := .none },
  { cls := 9, slots := #[.int (113)], vm := .none },
  { cls := 9, slots := #[.int (114)], vm := .none },
  { cls := 9, slots := #[.int (115)], vm := .none },
  { cls := 9, slots := #[.int (116)], vm := .none },
  { cls := 9, slots := #[.int (117)], vm := .none },
  { cls := 9, slots := #[.int (118)], vm := .none },
  { cls := 9, slots := #[.int (119)], vm := .none },
  { cls := 9, slots := #[.int (120)], vm := .none },
  { cls := 9, slots := #[.int (121)], vm := .none },
  { cls := 9, slots := #[.int (122)], vm := .none },
  { cls := 9, slots := #[.int (123)], vm := .none },
  { cls := 9, slots := #[.int (124)], vm := .none },
  { cls := 9, slots := #[.int (125)], vm := .none },
  { cls := 9, slots := #[.int (126)], vm := .none },
  { cls := 9, slots := #[.int (127)], vm := .none },
  { cls := 6, slots := #[.null, .int 0, .int 0], vm := .none },
  { cls := 6, slots := #[.null, .int 1, .int 0], vm := .none }]
def classes : Array Class := #[k0, k1, k2, k3, k4, k5, k6, k7, k8, k9, k10, k11, k12, k13, k14, k15, k16, k17, k18, k19, k20, k21]
def interned : List (Array UInt16 × Addr) := []
def slotsUsed : Nat := 529
def theMethod : MethodId := ⟨1, 1⟩
def args0 : Array Value := #[.int 1, .int 3]
def aboutOver (below : List Frame) : State where
  vm := { classes := classes, interned := interned.toArray }
  heap := heap
  slotsUsed := slotsUsed
  threads := #[{ frames := .invoking theMethod args0 :: below }]
def below0 : List Frame := [.native { method := ⟨0, 0⟩, args := #[] }]
def about1 : State := aboutOver below0
def p0 : Program := .bare "" "" ""
def e0 : Env := launch0.env 0 0 0
theorem w_frames : about1.frames = Frame.invoking theMethod args0 :: below0 := rfl
set_option maxRecDepth 65536 in
theorem w_args : argsFit about1.vm theMethod args0 = true := by decide +kernel
set_option maxRecDepth 65536 in
theorem w_heap : heapFits about1 = true := by decide +kernel
set_option maxRecDepth 65536 in
theorem w_runnable : about1.curStatus? = some .runnable := by decide +kernel
set_option maxRecDepth 65536 in
theorem w_alone : about1.alone = true := by decide +kernel
set_option maxRecDepth 65536 in
theorem w_named : about1.methodNamed? x = some theMethod := by decide +kernel
set_option maxRecDepth 65536 in
theorem w_hears : about1.hears theMethod below0 = true := by decide +kernel
set_option maxRecDepth 65536 in
theorem w_ripe : about1.ripe theMethod args0 below0 = true := by decide +kernel
theorem w_running : about1.status = .running := rfl
set_option maxRecDepth 65536 in
theorem w_room : about1.hasRoom e0.platform room_1 = true :=
  launch0.hasRoom_least _ room_1 (by decide +kernel) (by decide +kernel) (by decide +kernel) (by decide +kernel) (by decide +kernel) (by decide +kernel)
theorem allAtoms_all (ts : List Jvm.Cond) (a : Array Jvm.Value) (st : Jvm.State) : (allAtoms ts).before a st = ts.all (fun c => c.before a st) := by
  induction ts with
  | nil => rfl
  | cons c t ih =>
    show (Jvm.Cond.and c (allAtoms t)).before a st = _
    rw [Jvm.Cond.before_and, ih, List.all_cons]
def words1 : List Jvm.Cond := Jvm.Cond.code x code maxLocals ret :: tables_1
/-- a 'code' word, met by the world's own term for the bytes: nothing is compared byte by byte -/
theorem code_word {y : MethodName} {bytes : ByteArray} {mx : Nat} {rt : Option FieldType} {a : Array Value} {s : State} {m : MethodId} {meth : Method} {c : Code} (h1 : s.methodNamed? y = some m) (h2 : s.vm.method? m = some meth) (h3 : meth.code = some c) (h4 : c.code = bytes)
    (h5 : (c.maxLocals == mx && c.exceptionTable.isEmpty && decide (c.maxStack ≤ mostOperands) && decide (meth.sig.returnType = rt) && !meth.locks && decide (parseMethodDescriptor y.desc = some meth.sig)) = true) : (Jvm.Cond.code y bytes mx rt).before a s = true := by
  simp only [Bool.and_eq_true, beq_iff_eq, Bool.not_eq_true', decide_eq_true_eq] at h5
  obtain ⟨⟨⟨⟨⟨g1, g2⟩, g3⟩, g4⟩, g5⟩, g6⟩ := h5
  simp [Cond.before, Cond.holds, Cond.value, h1, h2, h3, h4, g1, g2, g3, g4, g5, g6]
def isCode : Jvm.Cond → Bool
  | .code _ _ _ _ => true
  | _ => false
theorem all_split {L : List Jvm.Cond} {P : Jvm.Cond → Bool} (h1 : L.all (fun c => isCode c || P c) = true) (h2 : ∀ c ∈ L.filter isCode, P c = true) : L.all P = true := by
  refine List.all_eq_true.mpr fun c hc => ?_
  have h := List.all_eq_true.mp h1 c hc
  rcases Bool.eq_false_or_eq_true (isCode c) with hi | hi
  · exact h2 c (List.mem_filter.mpr ⟨hc, hi⟩)
  · simpa [hi] using h
set_option maxRecDepth 65536 in
theorem w_c0 : (Jvm.Cond.code x code maxLocals ret).before args0 about1 = true := code_word (m := ⟨1, 1⟩) (meth := k1m1) (c := k1c1) (by decide +kernel) rfl rfl rfl (by decide +kernel)
set_option maxRecDepth 65536 in
theorem w_c1 : (Jvm.Cond.code ({ cls := "java/lang/Integer", name := "valueOf", desc := "(I)Ljava/lang/Integer;" } : Jvm.MethodName) jdk_33_method_22_code (1 : Nat) (Option.some (Jvm.ClassFile.FieldType.object "java/lang/Integer"))).before args0 about1 = true := code_word (m := ⟨9, 0⟩) (meth := k9m0) (c := k9c0) (by decide +kernel) rfl rfl rfl (by decide +kernel)
set_option maxRecDepth 65536 in
theorem w_c2 : (Jvm.Cond.code ({ cls := "com/example/libonce/libonce/core/Outcome", name := "<init>", desc := "(Lcom/example/libonce/libonce/core/Outcome$Kind;Ljava/lang/Object;)V" } : Jvm.MethodName) prog_21_method_1_code (3 : Nat) (Option.none : Option Jvm.ClassFile.FieldType)).before args0 about1 = true := code_word (m := ⟨12, 0⟩) (meth := k12m0) (c := k12c0) (by decide +kernel) rfl rfl rfl (by decide +kernel)
set_option maxRecDepth 65536 in
theorem w_c3 : (Jvm.Cond.code ({ cls := "java/lang/Record", name := "<init>", desc := "()V" } : Jvm.MethodName) jdk_30_method_1_code (1 : Nat) (Option.none : Option Jvm.ClassFile.FieldType)).before args0 about1 = true := code_word (m := ⟨11, 0⟩) (meth := k11m0) (c := k11c0) (by decide +kernel) rfl rfl rfl (by decide +kernel)
set_option maxRecDepth 65536 in
theorem w_c4 : (Jvm.Cond.code ({ cls := "java/lang/Object", name := "<init>", desc := "()V" } : Jvm.MethodName) object_method_1_code (1 : Nat) (Option.none : Option Jvm.ClassFile.FieldType)).before args0 about1 = true := code_word (m := ⟨0, 0⟩) (meth := k0m0) (c := k0c0) (by decide +kernel) rfl rfl rfl (by decide +kernel)
set_option maxRecDepth 65536 in
theorem w_c5 : (Jvm.Cond.code ({ cls := "java/util/Objects", name := "requireNonNull", desc := "(Ljava/lang/Object;Ljava/lang/String;)Ljava/lang/Object;" } : Jvm.MethodName) jdk_31_method_11_code (2 : Nat) (Option.some (Jvm.ClassFile.FieldType.object "java/lang/Object"))).before args0 about1 = true := code_word (m := ⟨15, 1⟩) (meth := k15m1) (c := k15c1) (by decide +kernel) rfl rfl rfl (by decide +kernel)
set_option maxRecDepth 65536 in
theorem w_c6 : (Jvm.Cond.code ({ cls := "com/example/libonce/libonce/core/Outcome", name := "result", desc := "()Ljava/lang/Object;" } : Jvm.MethodName) prog_21_method_7_code (1 : Nat) (Option.some (Jvm.ClassFile.FieldType.object "java/lang/Object"))).before args0 about1 = true := code_word (m := ⟨12, 1⟩) (meth := k12m1) (c := k12c1) (by decide +kernel) rfl rfl rfl (by decide +kernel)
set_option maxRecDepth 65536 in
theorem w_c7 : (Jvm.Cond.code ({ cls := "java/lang/Integer", name := "intValue", desc := "()I" } : Jvm.MethodName) jdk_33_method_27_code (1 : Nat) (Option.some Jvm.ClassFile.FieldType.int)).before args0 about1 = true := code_word (m := ⟨9, 2⟩) (meth := k9m2) (c := k9c2) (by decide +kernel) rfl rfl rfl (by decide +kernel)
set_option maxRecDepth 65536 in
theorem w_c8 : (Jvm.Cond.code ({ cls := "java/lang/Integer", name := "<init>", desc := "(I)V" } : Jvm.MethodName) jdk_33_method_23_code (2 : Nat) (Option.none : Option Jvm.ClassFile.FieldType)).before args0 about1 = true := code_word (m := ⟨9, 1⟩) (meth := k9m1) (c := k9c1) (by decide +kernel) rfl rfl rfl (by decide +kernel)
set_option maxRecDepth 65536 in
theorem w_c9 : (Jvm.Cond.code ({ cls := "java/lang/Number", name := "<init>", desc := "()V" } : Jvm.MethodName) jdk_18_method_1_code (1 : Nat) (Option.none : Option Jvm.ClassFile.FieldType)).before args0 about1 = true := code_word (m := ⟨7, 0⟩) (meth := k7m0) (c := k7c0) (by decide +kernel) rfl rfl rfl (by decide +kernel)
def codes1 : List Jvm.Cond := [Jvm.Cond.code x code maxLocals ret, Jvm.Cond.code ({ cls := "java/lang/Integer", name := "valueOf", desc := "(I)Ljava/lang/Integer;" } : Jvm.MethodName) jdk_33_method_22_code (1 : Nat) (Option.some (Jvm.ClassFile.FieldType.object "java/lang/Integer")), Jvm.Cond.code ({ cls := "com/example/libonce/libonce/core/Outcome", name := "<init>", desc := "(Lcom/example/libonce/libonce/core/Outcome$Kind;Ljava/lang/Object;)V" } : Jvm.MethodName) prog_21_method_1_code (3 : Nat) (Option.none : Option Jvm.ClassFile.FieldType), Jvm.Cond.code ({ cls := "java/lang/Record", name := "<init>", desc := "()V" } : Jvm.MethodName) jdk_30_method_1_code (1 : Nat) (Option.none : Option Jvm.ClassFile.FieldType), Jvm.Cond.code ({ cls := "java/lang/Object", name := "<init>", desc := "()V" } : Jvm.MethodName) object_method_1_code (1 : Nat) (Option.none : Option Jvm.ClassFile.FieldType), Jvm.Cond.code ({ cls := "java/util/Objects", name := "requireNonNull", desc := "(Ljava/lang/Object;Ljava/lang/String;)Ljava/lang/Object;" } : Jvm.MethodName) jdk_31_method_11_code (2 : Nat) (Option.some (Jvm.ClassFile.FieldType.object "java/lang/Object")), Jvm.Cond.code ({ cls := "com/example/libonce/libonce/core/Outcome", name := "result", desc := "()Ljava/lang/Object;" } : Jvm.MethodName) prog_21_method_7_code (1 : Nat) (Option.some (Jvm.ClassFile.FieldType.object "java/lang/Object")), Jvm.Cond.code ({ cls := "java/lang/Integer", name := "intValue", desc := "()I" } : Jvm.MethodName) jdk_33_method_27_code (1 : Nat) (Option.some Jvm.ClassFile.FieldType.int), Jvm.Cond.code ({ cls := "java/lang/Integer", name := "<init>", desc := "(I)V" } : Jvm.MethodName) jdk_33_method_23_code (2 : Nat) (Option.none : Option Jvm.ClassFile.FieldType), Jvm.Cond.code ({ cls := "java/lang/Number", name := "<init>", desc := "()V" } : Jvm.MethodName) jdk_18_method_1_code (1 : Nat) (Option.none : Option Jvm.ClassFile.FieldType)]
set_option maxRecDepth 65536 in
theorem codes_eq : words1.filter isCode = codes1 := rfl
theorem w_codes : ∀ c ∈ words1.filter isCode, c.before args0 about1 = true := by
  rw [codes_eq]
  intro c hc
  simp only [codes1, List.mem_cons, List.not_mem_nil, or_false] at hc
  rcases hc with rfl | rfl | rfl | rfl | rfl | rfl | rfl | rfl | rfl | rfl
  · exact w_c0
  · exact w_c1
  · exact w_c2
  · exact w_c3
  · exact w_c4
  · exact w_c5
  · exact w_c6
  · exact w_c7
  · exact w_c8
  · exact w_c9
set_option maxRecDepth 65536 in
theorem w_t1 : (words1.take 24).all (fun c => isCode c || c.before args0 about1) = true := by decide +kernel
set_option maxRecDepth 65536 in
theorem w_t2 : ((words1.drop 24).take 24).all (fun c => isCode c || c.before args0 about1) = true := by decide +kernel
set_option maxRecDepth 65536 in
theorem w_t3 : ((words1.drop 24).drop 24).all (fun c => isCode c || c.before args0 about1) = true := by decide +kernel
theorem w_tables : (allAtoms (Jvm.Cond.code x code maxLocals ret :: tables_1)).before args0 about1 = true := by
  rw [allAtoms_all]
  show words1.all (fun c => c.before args0 about1) = true
  refine all_split ?_ w_codes
  rw [← List.take_append_drop 24 words1, List.all_append, w_t1, ← List.take_append_drop 24 (words1.drop 24), List.all_append, w_t2, w_t3]
  rfl
set_option maxRecDepth 65536 in
theorem w_rest : rest_1_c.before args0 about1 = true := by decide +kernel
set_option maxRecDepth 65536 in
theorem w_case : (Jvm.Cond.and given_1 narrow_1).before args0 about1 = true := by decide +kernel
theorem w_applies : (headSpec (Jvm.Cond.code x code maxLocals ret :: tables_1) room_1).applies x e0.platform about1 = true :=
  (Spec.applies_iff w_frames).mpr ⟨w_running, w_runnable, w_alone, w_named, w_hears, w_ripe, w_room, w_tables⟩
theorem atStart : AtStart classFile x code maxLocals ret World_1 tables_1 room_1 Calls_1 rest_1 Pre_1 launch0 p0 e0 about1 theMethod args0 below0 :=
  ⟨lists_1, trivial, launch0.admits_env _ _ _, launch0.least_env, fairChoices_fair.cas, fairChoices_fair.clock, w_frames, w_args, w_heap, w_applies, trivial, w_rest, w_case⟩
end start1
theorem witness_1 : WitnessClaimed_1 := ⟨start1.p0, start1.e0, start1.about1, start1.theMethod, start1.args0, start1.below0, start1.atStart⟩
end Jvm.Pilot.@@N@@
