import JvmDerived
import JvmDerived.Pilot.@@N@@Statement
import JvmDerived.Pilot.@@N@@Code
set_option linter.unusedVariables false
set_option linter.unusedSimpArgs false
namespace Jvm.Pilot.@@N@@
open Jvm Jvm.ClassFile Sem Op Lib Jvm.Free Jvm.Stand Jvm.LawKit Jvm.RoadKit Bundle Jvm.Pilot.@@N@@.Jvm.D
abbrev own_Gd (tb : Tables) (e : Env) (below : List Frame) (P : State → Outcome → Prop) (A : State) : Prop := ∃ U o, Steps tb e below A U ∧ U.status = .running ∧ Ended U below o ∧ P U o
theorem own_go {tb : Tables} {e : Env} {below : List Frame} {P : State → Outcome → Prop} {A B : State} (st : ∀ t, Steps tb e below B t → Steps tb e below A t) (h : own_Gd tb e below P B) : own_Gd tb e below P A := by
  obtain ⟨U, o, h1, h2⟩ := h
  exact ⟨U, o, st _ h1, h2⟩
theorem own_done {tb : Tables} {e : Env} {below : List Frame} {P : State → Outcome → Prop} {A U : State} {o : Outcome} (st : Steps tb e below A U) (h1 : U.status = .running) (h2 : Ended U below o) (h3 : P U o) : own_Gd tb e below P A := ⟨U, o, st, h1, h2, h3⟩
abbrev own_P (Q : Option Value → Heap → List Loc → Prop) (s : State) (cells slots : Nat) : State → Outcome → Prop := fun U' o => ∃ v L, o = .returned v ∧ Q v U'.heap L ∧ FrameEnd s o U' L cells slots
abbrev own_PW (Q : Option Value → Heap → List Loc → Prop) (s : State) (cells slots : Nat) : State → Outcome → Prop := fun U' o => ∃ v L, o = .returned v ∧ Q v U'.heap L ∧ ReturnedEndW s o U' L cells slots
theorem own_len {args : Array Value} {Z : State} {t : Term} {a : Addr} {c : Cell} {n : Int32} (ev : t.eval args Z none [] Z = some (.ref a)) (ha : Z.arrayAt? a = some c) (h : (Term.length t).eval args Z none [] Z = some (.int n)) : c.slots.size < 2 ^ 31 ∧ c.slots.size.toInt32 = n := by
  by_cases q : c.slots.size < 2 ^ 31
  · rw [len_f ev ha q] at h
    cases h
    exact ⟨q, rfl⟩
  · exfalso
    simp [Term.eval, ev, ha] at h
    omega
theorem own_ord {args : Array Value} {Z : State} {t : Term} {C n d : String} {a : Addr} {k : Int32} (ht : t.eval args Z none [] Z = some (.ref a)) (h : (Jvm.Cond.eq (Term.field t C n d) (Term.int k)).value args Z none Z [] = some true) : Fld Z Z.heap a C n d (.int k) := Fld.start ((fld_at ht).symm.trans (eqv_i rfl h))

theorem pn_0 : plainName "com/example/controller_synthesis/controllersynthesis/output/FunctionBlockTimerOutputsPinLaw" = true := by first | (simp [plainName, overriddenIn]; done) | decide +kernel
theorem pn_1 : plainName "java/util/ArrayList" = true := by first | (simp [plainName, overriddenIn]; done) | decide +kernel
theorem pn_2 : plainName "java/util/AbstractList" = true := by first | (simp [plainName, overriddenIn]; done) | decide +kernel
theorem pn_3 : plainName "java/util/AbstractCollection" = true := by first | (simp [plainName, overriddenIn]; done) | decide +kernel
theorem pn_5 : plainName "com/example/controller_synthesis/controllersynthesis/output/FunctionBlock" = true := by first | (simp [plainName, overriddenIn]; done) | decide +kernel
theorem pn_6 : plainName "com/example/controller_synthesis/controllersynthesis/output/FunctionBlock" = true := by first | (simp [plainName, overriddenIn]; done) | decide +kernel
theorem pn_7 : plainName "com/example/controller_synthesis/controllersynthesis/output/FunctionBlockTimerOutputsPinLaw" = true := by first | (simp [plainName, overriddenIn]; done) | decide +kernel
theorem pn_8 : plainName "com/example/controller_synthesis/controllersynthesis/output/FunctionBlock" = true := by first | (simp [plainName, overriddenIn]; done) | decide +kernel
theorem pn_9 : plainName "com/example/controller_synthesis/controllersynthesis/output/FunctionBlock" = true := by first | (simp [plainName, overriddenIn]; done) | decide +kernel
theorem pn_10 : plainName "java/util/ArrayList" = true := by first | (simp [plainName, overriddenIn]; done) | decide +kernel
theorem pn_11 : plainName "java/util/ArrayList$Itr" = true := by first | (simp [plainName, overriddenIn]; done) | decide +kernel
theorem pn_12 : plainName "java/util/ArrayList$Itr" = true := by first | (simp [plainName, overriddenIn]; done) | decide +kernel
theorem pd_0 : parseMethodDescriptor "()V" = some ⟨[], none⟩ := by decide +kernel
theorem pd_1 : parseMethodDescriptor "(Ljava/util/ArrayList;)V" = some ⟨[(.object "java/util/ArrayList")], none⟩ := by decide +kernel
theorem pd_2 : parseMethodDescriptor "()Ljava/util/Iterator;" = some ⟨[], some (.object "java/util/Iterator")⟩ := by decide +kernel
theorem pd_3 : parseMethodDescriptor "()Z" = some ⟨[], some .boolean⟩ := by decide +kernel
theorem pd_4 : parseMethodDescriptor "(Ljava/util/List;[J)V" = some ⟨[(.object "java/util/List"), (.array .long)], none⟩ := by decide +kernel
theorem pd_5 : parseMethodDescriptor "([J[I[I[ILjava/util/List;)V" = some ⟨[(.array .long), (.array .int), (.array .int), (.array .int), (.object "java/util/List")], none⟩ := by decide +kernel
theorem pd_6 : parseMethodDescriptor "()[Z" = some ⟨[], some (.array .boolean)⟩ := by decide +kernel
theorem pd_7 : parseMethodDescriptor "([JIZIZ)Z" = some ⟨[(.array .long), .int, .boolean, .int, .boolean], some .boolean⟩ := by decide +kernel
theorem pd_8 : parseMethodDescriptor "([Z)[Z" = some ⟨[(.array .boolean)], some (.array .boolean)⟩ := by decide +kernel
def own4 (j : Int32) (a b c d : Int64) : Int64 := if j = 0 then a else if j = 1 then b else if j = 2 then c else d
def own_nz (x : Int64) : Int32 := if x = 0 then 0 else 1
def own_fl (f : Int32) : Int64 := if f = 0 then 0 else 1
def own_exp (called var p flag : Int32) (a b c d : Int64) : Int32 := if called = 0 then own_nz (own4 var a b c d) else if var = p then nar .boolean flag else own_nz (own4 var a b c d)
theorem own_narz (x : Int64) : nar .boolean (own_nz x) = own_nz x := by
  unfold own_nz
  split <;> decide
theorem own_four {j : Int32} (r : 0 ≤ j.toInt ∧ j.toInt < 4) : j = 0 ∨ j = 1 ∨ j = 2 ∨ j = 3 := by
  simp only [← Int32.toInt_inj]
  have : ∀ z : Int, 0 ≤ z → z < 4 → z = 0 ∨ z = 1 ∨ z = 2 ∨ z = 3 := by omega
  exact this _ r.1 r.2
theorem own_in4 {j : Int32} (r : 0 ≤ j.toInt ∧ j.toInt < 4) : ¬ j < 0 ∧ j < (4 : Int32) := by
  rcases own_four r with rfl | rfl | rfl | rfl <;> decide
theorem own_get4 {j : Int32} (r : 0 ≤ j.toInt ∧ j.toInt < 4) (a b c d : Int64) (dv : Value) : [Value.long a, .long b, .long c, .long d].getD j.toNatClampNeg dv = .long (own4 j a b c d) := by
  rcases own_four r with rfl | rfl | rfl | rfl <;> rfl
theorem own_len4 {j : Int32} (r : 0 ≤ j.toInt ∧ j.toInt < 4) (a b c d : Value) : j.toNatClampNeg < [a, b, c, d].length := by
  rcases own_four r with rfl | rfl | rfl | rfl <;> exact Nat.le_of_ble_eq_true rfl
theorem own_set4 {j : Int32} (r : 0 ≤ j.toInt ∧ j.toInt < 4) (a b c d z : Int64) (dv : Value) : ∀ i, [Value.long (if j = 0 then z else a), .long (if j = 1 then z else b), .long (if j = 2 then z else c), .long (if j = 3 then z else d)].getD i dv = ([Value.long a, .long b, .long c, .long d].set j.toNatClampNeg (.long z)).getD i dv := by
  intro i
  rcases own_four r with rfl | rfl | rfl | rfl <;> rfl
theorem own_mask4 (x : Int32) : 0 ≤ (x &&& (3 : Int32)).toInt ∧ (x &&& (3 : Int32)).toInt < 4 := by
  have q := c_mask x 3 2 (by decide) (by decide)
  omega
theorem own_after {t p v : Int32} (rt : 0 ≤ t.toInt ∧ t.toInt < 4) (rp : 0 ≤ p.toInt ∧ p.toInt < 4) (hv : v = 0 ∨ v = 1) (a b c d : Int64) : own_nz (own4 t (if p = 0 then own_fl (nar .boolean v) else a) (if p = 1 then own_fl (nar .boolean v) else b) (if p = 2 then own_fl (nar .boolean v) else c) (if p = 3 then own_fl (nar .boolean v) else d)) = own_exp 1 t p v a b c d := by
  rcases own_four rt with rfl | rfl | rfl | rfl <;> rcases own_four rp with rfl | rfl | rfl | rfl <;> rcases hv with rfl | rfl <;> simp +decide [own_exp, own4, own_nz, own_fl, nar]
def Q_rm3 (Z : State) (a1 : Addr) (h0 : Heap) (n0 : Nat) (v : Option Value) (h : Heap) (L : List Loc) : Prop := v = none ∧ Fr n0 L ∧ h = h0
theorem d3_0 : decode jdk_22_method_1_code 0 = .ok (.aload_n 0, 1) := by decide +kernel
theorem d3_1 : decode jdk_22_method_1_code 1 = .ok (.invokespecial 1, 3) := by decide +kernel
theorem d3_4 : decode jdk_22_method_1_code 4 = .ok (.return_, 1) := by decide +kernel
theorem ef_rm3 (m : MethodId) (x0 : Addr) : entryFrame m #[(.ref x0)] 1 = mkF m 0 #[.val (.ref x0)] [] := by first | (simp [entryFrame, mkF, argsToLocals, Value.category, maxLocals]; done) | rfl
set_option maxRecDepth 65536 in
set_option maxHeartbeats 40000000 in
theorem rm3 (l : Launch) (Z : State) (a0 : Array Value) (hw : ∀ d ∈ tables_1, d.before a0 Z = true) (ws : List Jvm.Cond) (a1 : Addr) (h0 : Heap) (n0 : Nat) (Z0 : n0 ≤ h0.size)  :
    MetFree l (⟨"java/util/AbstractCollection", "<init>", "()V"⟩ : MethodName) (head1 (Jvm.Cond.code (⟨"java/util/AbstractCollection", "<init>", "()V"⟩ : MethodName) jdk_22_method_1_code 1 none :: ws) ({ frames := 1, cells := 0, slots := 0, locals := 12 } : Room)) (fun a U => a = #[(.ref a1)] ∧ Z.Warmed39 U.vm ∧ U.heap = h0) (fun _ _ _ _ _ => True) (fun _ U o U' => ∃ v L, o = .returned v ∧ Q_rm3 Z a1 h0 n0 v U'.heap L ∧ FrameEnd U o U' L ({ frames := 1, cells := 0, slots := 0, locals := 12 } : Room).cells ({ frames := 1, cells := 0, slots := 0, locals := 12 } : Room).slots) := by
  refine MetFree.of_bodySF (plainFor_of_name pn_3) hisR ?_
  intro p e s m args below meth c s₁ Bd hml0 hP hK
  obtain ⟨rfl, hZ, hh⟩ := hP
  have hx := Bd.exec
  have hby := Bd.bytes
  have hml : c.maxLocals = 1 := hml0
  have hown : s.vm.findClass "java/util/AbstractCollection" = some m.cls := findClass_of_methodNamed Bd.named
  have hnm := (name_of_methodNamed Bd.named Bd.method).1
  have X0 : Stand p l e ({ frames := 1, cells := 0, slots := 0, locals := 12 } : Room) s m #[(.ref a1)] below meth c s₁ [] 0 0 := Stand.of_body Bd
  have e0 : s₁.heap = h0 := by rw [← hh, Bd.state]; rfl
  have N0 := Fr.nil n0
  have K : Keep h0 h0 [] := Keep.refl h0 []
  show own_Gd p.tables e below (own_P (Q_rm3 Z a1 h0 n0) s ({ frames := 1, cells := 0, slots := 0, locals := 12 } : Room).cells ({ frames := 1, cells := 0, slots := 0, locals := 12 } : Room).slots) _
  refine own_go (B := s₁.setTop (mkF m 0 #[.val (.ref a1)] [])) (fun t k => castTop (ef_rm3 m a1) k) ?_
  refine own_go (B := s₁.setTop (mkF m 1 #[.val (.ref a1)] [(.ref a1)])) (fun t k => ?_) ?_
  · show Steps p.tables e below (s₁.setTop (mkF m 0 #[.val (.ref a1)] [])) _
    refine XS.aloadN X0.here hx rfl (hb hby d3_0) rfl rfl ?_
    show Steps p.tables e below (s₁.setTop (mkF m 1 #[.val (.ref a1)] [(.ref a1)])) _
    exact k
  obtain ⟨T1, X1, e1, st1⟩ := initO X0 hx hZ hown (hw _ (List.mem_of_getElem? (i := 21) rfl)) (hw _ (List.mem_of_getElem? (i := 22) rfl)) (hw _ (List.mem_of_getElem? (i := 23) rfl)) e0 (g := (mkF m 1 #[.val (.ref a1)] [(.ref a1)])) rfl (by rw [hml]; rfl) rfl (hb hby d3_1) (by decide) (W := 0) (by show 2 * 0 + _ ≤ _; exact Nat.le_of_eq rfl) (by decide)
  refine own_go (B := T1.setTop (mkF m 4 #[.val (.ref a1)] [])) st1 ?_
  obtain ⟨fs, hr, hrun, hended, hW, hsame⟩ := X1.leave (v := none) (fun _ => rfl)
  refine own_done (X1.returnOut hx Bd.returns (hb hby d3_4) hr) hrun hended ⟨_, _, rfl, ?_, ⟨_, rfl⟩, hW, hsame.mono (by decide) (by decide)⟩
  show Q_rm3 Z a1 h0 n0 (none) T1.heap _
  rw [e1]
  exact ⟨rfl, N0, rfl⟩
def Q_rm2 (Z : State) (a1 : Addr) (h0 : Heap) (n0 : Nat) (v : Option Value) (h : Heap) (L : List Loc) : Prop := v = none ∧ Fr n0 L ∧ Keep h0 h [a1] ∧ Exa Z h a1 "java/util/ArrayList" ∧ Fld Z h a1 "java/util/AbstractList" "modCount" "I" (.int (0 : Int32)) ∧ Fld Z h a1 "java/util/ArrayList" "size" "I" (.int (0 : Int32)) ∧ Fld Z h a1 "java/util/ArrayList" "elementData" "[Ljava/lang/Object;" .null
theorem d2_0 : decode jdk_39_method_1_code 0 = .ok (.aload_n 0, 1) := by decide +kernel
theorem d2_1 : decode jdk_39_method_1_code 1 = .ok (.invokespecial 1, 3) := by decide +kernel
theorem d2_4 : decode jdk_39_method_1_code 4 = .ok (.aload_n 0, 1) := by decide +kernel
theorem d2_5 : decode jdk_39_method_1_code 5 = .ok (.iconst 0, 1) := by decide +kernel
theorem d2_6 : decode jdk_39_method_1_code 6 = .ok (.putfield 7, 3) := by decide +kernel
theorem d2_9 : decode jdk_39_method_1_code 9 = .ok (.return_, 1) := by decide +kernel
theorem ef_rm2 (m : MethodId) (x0 : Addr) : entryFrame m #[(.ref x0)] 1 = mkF m 0 #[.val (.ref x0)] [] := by first | (simp [entryFrame, mkF, argsToLocals, Value.category, maxLocals]; done) | rfl
set_option maxRecDepth 65536 in
set_option maxHeartbeats 40000000 in
theorem rm2 (l : Launch) (Z : State) (a0 : Array Value) (hw : ∀ d ∈ tables_1, d.before a0 Z = true) (ws : List Jvm.Cond) (a1 : Addr) (h0 : Heap) (n0 : Nat) (Z0 : n0 ≤ h0.size) (F_modCount_a1 : Fld Z h0 a1 "java/util/AbstractList" "modCount" "I" (.int (0 : Int32))) (F_size_a1 : Fld Z h0 a1 "java/util/ArrayList" "size" "I" (.int (0 : Int32))) (F_elementData_a1 : Fld Z h0 a1 "java/util/ArrayList" "elementData" "[Ljava/lang/Object;" .null) (E_a1 : Exa Z h0 a1 "java/util/ArrayList") (g_a1 : n0 ≤ a1) :
    MetFree l (⟨"java/util/AbstractList", "<init>", "()V"⟩ : MethodName) (head1 (Jvm.Cond.code (⟨"java/util/AbstractList", "<init>", "()V"⟩ : MethodName) jdk_39_method_1_code 1 none :: ws) ({ frames := 2, cells := 0, slots := 0, locals := 24 } : Room)) (fun a U => a = #[(.ref a1)] ∧ Z.Warmed39 U.vm ∧ U.heap = h0) (fun _ _ _ _ _ => True) (fun _ U o U' => ∃ v L, o = .returned v ∧ Q_rm2 Z a1 h0 n0 v U'.heap L ∧ FrameEnd U o U' L ({ frames := 2, cells := 0, slots := 0, locals := 24 } : Room).cells ({ frames := 2, cells := 0, slots := 0, locals := 24 } : Room).slots) := by
  refine MetFree.of_bodySF (plainFor_of_name pn_2) hisR ?_
  intro p e s m args below meth c s₁ Bd hml0 hP hK
  obtain ⟨rfl, hZ, hh⟩ := hP
  have hx := Bd.exec
  have hby := Bd.bytes
  have hml : c.maxLocals = 1 := hml0
  have hown : s.vm.findClass "java/util/AbstractList" = some m.cls := findClass_of_methodNamed Bd.named
  have hnm := (name_of_methodNamed Bd.named Bd.method).1
  have X0 : Stand p l e ({ frames := 2, cells := 0, slots := 0, locals := 24 } : Room) s m #[(.ref a1)] below meth c s₁ [] 0 0 := Stand.of_body Bd
  have e0 : s₁.heap = h0 := by rw [← hh, Bd.state]; rfl
  have N0 := Fr.nil n0
  have K : Keep h0 h0 [a1] := Keep.refl h0 [a1]
  show own_Gd p.tables e below (own_P (Q_rm2 Z a1 h0 n0) s ({ frames := 2, cells := 0, slots := 0, locals := 24 } : Room).cells ({ frames := 2, cells := 0, slots := 0, locals := 24 } : Room).slots) _
  refine own_go (B := s₁.setTop (mkF m 0 #[.val (.ref a1)] [])) (fun t k => castTop (ef_rm2 m a1) k) ?_
  refine own_go (B := s₁.setTop (mkF m 1 #[.val (.ref a1)] [(.ref a1)])) (fun t k => ?_) ?_
  · show Steps p.tables e below (s₁.setTop (mkF m 0 #[.val (.ref a1)] [])) _
    refine XS.aloadN X0.here hx rfl (hb hby d2_0) rfl rfl ?_
    show Steps p.tables e below (s₁.setTop (mkF m 1 #[.val (.ref a1)] [(.ref a1)])) _
    exact k
  obtain ⟨_, _, ⟨T1, L1, k1, n1⟩, -, X1, ⟨Lc1, hQ1, l1, y1, z1⟩, st1⟩ := X0.specialBack hx (y := (⟨"java/util/AbstractCollection", "<init>", "()V"⟩ : MethodName)) rfl hown (mvT hZ (hw _ (List.mem_of_getElem? (i := 15) rfl))) (mvT hZ (hw _ (List.mem_of_getElem? (i := 16) rfl))) (mvT hZ (hw _ (List.mem_of_getElem? (i := 20) rfl))) (by decide) (backOf (W := 0) (rm3 l Z a0 hw [] a1 h0 n0 Z0) hZ (hw _ (List.mem_of_getElem? (i := 20) rfl)) (hw _ (List.mem_of_getElem? (i := 19) rfl)) (by decide) (by decide)) (g := (mkF m 1 #[.val (.ref a1)] [(.ref a1)])) rfl (by rw [hml]; rfl) (Steps.refl _) (a := a1) (argsL := []) (rest := []) (lenOf pd_0 rfl) rfl (by show 2 * 0 + _ ≤ _; exact Nat.le_of_eq rfl) (hb hby d2_1) (fun _ _ => ⟨rfl, e0, Nat.le_of_ble_eq_true rfl, Nat.le_of_ble_eq_true rfl⟩)
  dsimp only [Pt.U, Pt.locs, Pt.cells, Pt.slots] at X1 l1 y1 z1 st1 hQ1
  subst l1 y1 z1
  obtain ⟨h1, e1⟩ : ∃ z, T1.heap = z := ⟨_, rfl⟩
  rw [e1] at hQ1
  obtain ⟨rfl, N1q, eq1⟩ := hQ1
  have N1 := Fr.app N0 N1q
  rw [eq1] at e1
  refine own_go (B := T1.setTop (mkF m 4 #[.val (.ref a1)] [])) (fun t k => st1.trans k) ?_
  refine own_go (B := T1.setTop (mkF m 6 #[.val (.ref a1)] [(.int (0 : Int32)), (.ref a1)])) (fun t k => ?_) ?_
  · show Steps p.tables e below (T1.setTop (mkF m 4 #[.val (.ref a1)] [])) _
    refine XS.aloadN X1.here hx rfl (hb hby d2_4) rfl rfl ?_
    show Steps p.tables e below (T1.setTop (mkF m 5 #[.val (.ref a1)] [(.ref a1)])) _
    refine XS.iconst X1.here hx rfl (hb hby d2_5) ?_
    show Steps p.tables e below (T1.setTop (mkF m 6 #[.val (.ref a1)] [(.int (0 : Int32)), (.ref a1)])) _
    exact k
  obtain ⟨T2, h2, X2, e2, W2, st2⟩ := putF X1 hx hZ hown (host := "") (Or.inl (hw _ (List.mem_of_getElem? (i := 24) rfl))) Via.refl e1 F_modCount_a1 E_a1 (Or.inl (hw _ (List.mem_of_getElem? (i := 25) rfl))) (hw _ (List.mem_of_getElem? (i := 4) rfl)) (v := (.int (0 : Int32))) (ty := .int) (by decide) rfl rfl (g := (mkF m 6 #[.val (.ref a1)] [(.int (0 : Int32)), (.ref a1)])) rfl rfl (hb hby d2_6)
  have Fw2 := F_modCount_a1.same W2
  have E_a1 := E_a1.wr W2
  have F_size_a1 := F_size_a1.other W2 (Or.inr (slot_ne (Or.inl (hw _ (List.mem_of_getElem? (i := 109) rfl))) (Or.inl (hw _ (List.mem_of_getElem? (i := 25) rfl))) (by decide) (t := .int) (t' := .int) (by decide) (by decide)))
  have F_elementData_a1 := F_elementData_a1.other W2 (Or.inr (slot_ne (Or.inl (hw _ (List.mem_of_getElem? (i := 28) rfl))) (Or.inl (hw _ (List.mem_of_getElem? (i := 25) rfl))) (by decide) (t := (.array (.object "java/lang/Object"))) (t' := .int) (by decide) (by decide)))
  have Z0 := Nat.le_trans Z0 (Nat.le_of_eq W2.size.symm)
  have F_modCount_a1 := Fw2
  have K := K.wr W2 (Or.inl (List.mem_of_getElem? (i := 0) rfl))
  have N2 := Fr.snoc X2 N1 g_a1
  refine own_go (B := T2.setTop (mkF m 9 #[.val (.ref a1)] [])) st2 ?_
  obtain ⟨fs, hr, hrun, hended, hW, hsame⟩ := X2.leave (v := none) (fun _ => rfl)
  refine own_done (X2.returnOut hx Bd.returns (hb hby d2_9) hr) hrun hended ⟨_, _, rfl, ?_, ⟨_, rfl⟩, hW, hsame.mono (by decide) (by decide)⟩
  show Q_rm2 Z a1 h0 n0 (none) T2.heap _
  rw [e2]
  exact ⟨rfl, N2, K, E_a1, F_modCount_a1, F_size_a1, F_elementData_a1⟩
def Q_rm1 (Z : State) (a1 : Addr) (h0 : Heap) (n0 : Nat) (v : Option Value) (h : Heap) (L : List Loc) : Prop := v = none ∧ Fr n0 L ∧ Keep h0 h [a1] ∧ Exa Z h a1 "java/util/ArrayList" ∧ Fld Z h a1 "java/util/AbstractList" "modCount" "I" (.int (0 : Int32)) ∧ Fld Z h a1 "java/util/ArrayList" "size" "I" (.int (0 : Int32))
theorem d1_0 : decode jdk_38_method_2_code 0 = .ok (.aload_n 0, 1) := by decide +kernel
theorem d1_1 : decode jdk_38_method_2_code 1 = .ok (.invokespecial 1, 3) := by decide +kernel
theorem d1_4 : decode jdk_38_method_2_code 4 = .ok (.aload_n 0, 1) := by decide +kernel
theorem d1_5 : decode jdk_38_method_2_code 5 = .ok (.getstatic 39, 3) := by decide +kernel
theorem d1_8 : decode jdk_38_method_2_code 8 = .ok (.putfield 9, 3) := by decide +kernel
theorem d1_11 : decode jdk_38_method_2_code 11 = .ok (.return_, 1) := by decide +kernel
theorem ef_rm1 (m : MethodId) (x0 : Addr) : entryFrame m #[(.ref x0)] 1 = mkF m 0 #[.val (.ref x0)] [] := by first | (simp [entryFrame, mkF, argsToLocals, Value.category, maxLocals]; done) | rfl
set_option maxRecDepth 65536 in
set_option maxHeartbeats 40000000 in
theorem rm1 (l : Launch) (Z : State) (a0 : Array Value) (hw : ∀ d ∈ tables_1, d.before a0 Z = true) (ws : List Jvm.Cond) (a1 w_DEF : Addr) (h0 : Heap) (n0 : Nat) (Z0 : n0 ≤ h0.size) (F_modCount_a1 : Fld Z h0 a1 "java/util/AbstractList" "modCount" "I" (.int (0 : Int32))) (F_size_a1 : Fld Z h0 a1 "java/util/ArrayList" "size" "I" (.int (0 : Int32))) (F_elementData_a1 : Fld Z h0 a1 "java/util/ArrayList" "elementData" "[Ljava/lang/Object;" .null) (E_a1 : Exa Z h0 a1 "java/util/ArrayList") (g_a1 : n0 ≤ a1) (S_DEF : Sta Z Z.heap "java/util/ArrayList" "DEFAULTCAPACITY_EMPTY_ELEMENTDATA" "[Ljava/lang/Object;" (.ref w_DEF)) (O : Old Z n0 h0) :
    MetFree l (⟨"java/util/ArrayList", "<init>", "()V"⟩ : MethodName) (head1 (Jvm.Cond.code (⟨"java/util/ArrayList", "<init>", "()V"⟩ : MethodName) jdk_38_method_2_code 1 none :: ws) ({ frames := 3, cells := 0, slots := 0, locals := 36 } : Room)) (fun a U => a = #[(.ref a1)] ∧ Z.Warmed39 U.vm ∧ U.heap = h0) (fun _ _ _ _ _ => True) (fun _ U o U' => ∃ v L, o = .returned v ∧ Q_rm1 Z a1 h0 n0 v U'.heap L ∧ FrameEnd U o U' L ({ frames := 3, cells := 0, slots := 0, locals := 36 } : Room).cells ({ frames := 3, cells := 0, slots := 0, locals := 36 } : Room).slots) := by
  refine MetFree.of_bodySF (plainFor_of_name pn_1) hisR ?_
  intro p e s m args below meth c s₁ Bd hml0 hP hK
  obtain ⟨rfl, hZ, hh⟩ := hP
  have hx := Bd.exec
  have hby := Bd.bytes
  have hml : c.maxLocals = 1 := hml0
  have hown : s.vm.findClass "java/util/ArrayList" = some m.cls := findClass_of_methodNamed Bd.named
  have hnm := (name_of_methodNamed Bd.named Bd.method).1
  have X0 : Stand p l e ({ frames := 3, cells := 0, slots := 0, locals := 36 } : Room) s m #[(.ref a1)] below meth c s₁ [] 0 0 := Stand.of_body Bd
  have e0 : s₁.heap = h0 := by rw [← hh, Bd.state]; rfl
  have N0 := Fr.nil n0
  have K : Keep h0 h0 [a1] := Keep.refl h0 [a1]
  show own_Gd p.tables e below (own_P (Q_rm1 Z a1 h0 n0) s ({ frames := 3, cells := 0, slots := 0, locals := 36 } : Room).cells ({ frames := 3, cells := 0, slots := 0, locals := 36 } : Room).slots) _
  refine own_go (B := s₁.setTop (mkF m 0 #[.val (.ref a1)] [])) (fun t k => castTop (ef_rm1 m a1) k) ?_
  refine own_go (B := s₁.setTop (mkF m 1 #[.val (.ref a1)] [(.ref a1)])) (fun t k => ?_) ?_
  · show Steps p.tables e below (s₁.setTop (mkF m 0 #[.val (.ref a1)] [])) _
    refine XS.aloadN X0.here hx rfl (hb hby d1_0) rfl rfl ?_
    show Steps p.tables e below (s₁.setTop (mkF m 1 #[.val (.ref a1)] [(.ref a1)])) _
    exact k
  obtain ⟨_, _, ⟨T1, L1, k1, n1⟩, -, X1, ⟨Lc1, hQ1, l1, y1, z1⟩, st1⟩ := X0.specialBack hx (y := (⟨"java/util/AbstractList", "<init>", "()V"⟩ : MethodName)) rfl hown (mvT hZ (hw _ (List.mem_of_getElem? (i := 9) rfl))) (mvT hZ (hw _ (List.mem_of_getElem? (i := 10) rfl))) (mvT hZ (hw _ (List.mem_of_getElem? (i := 14) rfl))) (by decide) (backOf (W := 0) (rm2 l Z a0 hw [] a1 h0 n0 Z0 F_modCount_a1 F_size_a1 F_elementData_a1 E_a1 g_a1) hZ (hw _ (List.mem_of_getElem? (i := 14) rfl)) (hw _ (List.mem_of_getElem? (i := 13) rfl)) (by decide) (by decide)) (g := (mkF m 1 #[.val (.ref a1)] [(.ref a1)])) rfl (by rw [hml]; rfl) (Steps.refl _) (a := a1) (argsL := []) (rest := []) (lenOf pd_0 rfl) rfl (by show 2 * 0 + _ ≤ _; exact Nat.le_of_eq rfl) (hb hby d1_1) (fun _ _ => ⟨rfl, e0, Nat.le_of_ble_eq_true rfl, Nat.le_of_ble_eq_true rfl⟩)
  dsimp only [Pt.U, Pt.locs, Pt.cells, Pt.slots] at X1 l1 y1 z1 st1 hQ1
  subst l1 y1 z1
  obtain ⟨h1, e1⟩ : ∃ z, T1.heap = z := ⟨_, rfl⟩
  rw [e1] at hQ1
  obtain ⟨rfl, N1q, Kc1, Ec1, Fa1, Fb1, Fd1⟩ := hQ1
  have N1 := Fr.app N0 N1q
  have E_a1 := E_a1.keep Kc1
  have K := K.trans Kc1 (allS (Or.inl (List.mem_of_getElem? (i := 0) rfl)) all0)
  have Z0 := Nat.le_trans Z0 Kc1.1
  have O := O.keep Kc1 (allS g_a1 all0)
  have E_a1 := Ec1
  have F_modCount_a1 := Fa1
  have F_size_a1 := Fb1
  have F_elementData_a1 := Fd1
  refine own_go (B := T1.setTop (mkF m 4 #[.val (.ref a1)] [])) (fun t k => st1.trans k) ?_
  refine own_go (B := T1.setTop (mkF m 5 #[.val (.ref a1)] [(.ref a1)])) (fun t k => ?_) ?_
  · show Steps p.tables e below (T1.setTop (mkF m 4 #[.val (.ref a1)] [])) _
    refine XS.aloadN X1.here hx rfl (hb hby d1_4) rfl rfl ?_
    show Steps p.tables e below (T1.setTop (mkF m 5 #[.val (.ref a1)] [(.ref a1)])) _
    exact k
  obtain ⟨T2, X2, e2, st2⟩ := getS2 X1 hx hZ hown (host := "") (Or.inl (hw _ (List.mem_of_getElem? (i := 26) rfl))) Via.refl e1 (S_DEF.ext O.2) (g := (mkF m 5 #[.val (.ref a1)] [(.ref a1)])) rfl (hb hby d1_5)
  refine own_go (B := T2.setTop (mkF m 8 #[.val (.ref a1)] [(.ref w_DEF), (.ref a1)])) st2 ?_
  obtain ⟨T3, h3, X3, e3, W3, st3⟩ := putF X2 hx hZ hown (host := "") (Or.inl (hw _ (List.mem_of_getElem? (i := 27) rfl))) Via.refl e2 F_elementData_a1 E_a1 (Or.inl (hw _ (List.mem_of_getElem? (i := 28) rfl))) (hw _ (List.mem_of_getElem? (i := 4) rfl)) (v := (.ref w_DEF)) (ty := (.array (.object "java/lang/Object"))) (by decide) rfl rfl (g := (mkF m 8 #[.val (.ref a1)] [(.ref w_DEF), (.ref a1)])) rfl rfl (hb hby d1_8)
  have Fw3 := F_elementData_a1.same W3
  have E_a1 := E_a1.wr W3
  have F_modCount_a1 := F_modCount_a1.other W3 (Or.inr (slot_ne (Or.inl (hw _ (List.mem_of_getElem? (i := 25) rfl))) (Or.inl (hw _ (List.mem_of_getElem? (i := 28) rfl))) (by decide) (t := .int) (t' := (.array (.object "java/lang/Object"))) (by decide) (by decide)))
  have F_size_a1 := F_size_a1.other W3 (Or.inr (slot_ne (Or.inl (hw _ (List.mem_of_getElem? (i := 109) rfl))) (Or.inl (hw _ (List.mem_of_getElem? (i := 28) rfl))) (by decide) (t := .int) (t' := (.array (.object "java/lang/Object"))) (by decide) (by decide)))
  have Z0 := Nat.le_trans Z0 (Nat.le_of_eq W3.size.symm)
  have O := O.wr W3 g_a1
  have F_elementData_a1 := Fw3
  have K := K.wr W3 (Or.inl (List.mem_of_getElem? (i := 0) rfl))
  have N3 := Fr.snoc X3 N1 g_a1
  refine own_go (B := T3.setTop (mkF m 11 #[.val (.ref a1)] [])) st3 ?_
  obtain ⟨fs, hr, hrun, hended, hW, hsame⟩ := X3.leave (v := none) (fun _ => rfl)
  refine own_done (X3.returnOut hx Bd.returns (hb hby d1_11) hr) hrun hended ⟨_, _, rfl, ?_, ⟨_, rfl⟩, hW, hsame.mono (by decide) (by decide)⟩
  show Q_rm1 Z a1 h0 n0 (none) T3.heap _
  rw [e3]
  exact ⟨rfl, N3, K, E_a1, F_modCount_a1, F_size_a1⟩
def Q_rm5 (Z : State) (a1 ai ao at_ ab : Addr) (kv : ClassId) (x0 x1 x2 x3 : Int64) (h0 : Heap) (n0 : Nat) (v : Option Value) (h : Heap) (L : List Loc) : Prop := ∃ bv, v = none ∧ Fr n0 L ∧ Keep h0 h [a1] ∧ h0.size ≤ bv ∧ Exa Z h a1 "com/example/controller_synthesis/controllersynthesis/output/FunctionBlock" ∧ Fld Z h a1 "com/example/controller_synthesis/controllersynthesis/output/FunctionBlock" "values" "[J" (.ref bv) ∧ Fld Z h a1 "com/example/controller_synthesis/controllersynthesis/output/FunctionBlock" "inputs" "[I" (.ref ai) ∧ Fld Z h a1 "com/example/controller_synthesis/controllersynthesis/output/FunctionBlock" "outputs" "[I" (.ref ao) ∧ Fld Z h a1 "com/example/controller_synthesis/controllersynthesis/output/FunctionBlock" "timerOutputs" "[I" (.ref at_) ∧ Fld Z h a1 "com/example/controller_synthesis/controllersynthesis/output/FunctionBlock" "body" "Ljava/util/List;" (.ref ab) ∧ Arv Z h bv kv .long (4 : Int32) [(.long x0), (.long x1), (.long x2), (.long x3)] (.long (0 : Int64))
theorem d5_0 : decode prog_8_method_1_code 0 = .ok (.aload_n 0, 1) := by decide +kernel
theorem d5_1 : decode prog_8_method_1_code 1 = .ok (.invokespecial 1, 3) := by decide +kernel
theorem d5_4 : decode prog_8_method_1_code 4 = .ok (.aload_n 0, 1) := by decide +kernel
theorem d5_5 : decode prog_8_method_1_code 5 = .ok (.aload_n 1, 1) := by decide +kernel
theorem d5_6 : decode prog_8_method_1_code 6 = .ok (.invokevirtual 7, 3) := by decide +kernel
theorem d5_9 : decode prog_8_method_1_code 9 = .ok (.checkcast 8, 3) := by decide +kernel
theorem d5_12 : decode prog_8_method_1_code 12 = .ok (.putfield 13, 3) := by decide +kernel
theorem d5_15 : decode prog_8_method_1_code 15 = .ok (.aload_n 0, 1) := by decide +kernel
theorem d5_16 : decode prog_8_method_1_code 16 = .ok (.aload_n 2, 1) := by decide +kernel
theorem d5_17 : decode prog_8_method_1_code 17 = .ok (.putfield 18, 3) := by decide +kernel
theorem d5_20 : decode prog_8_method_1_code 20 = .ok (.aload_n 0, 1) := by decide +kernel
theorem d5_21 : decode prog_8_method_1_code 21 = .ok (.aload_n 3, 1) := by decide +kernel
theorem d5_22 : decode prog_8_method_1_code 22 = .ok (.putfield 22, 3) := by decide +kernel
theorem d5_25 : decode prog_8_method_1_code 25 = .ok (.aload_n 0, 1) := by decide +kernel
theorem d5_26 : decode prog_8_method_1_code 26 = .ok (.aload 4, 2) := by decide +kernel
theorem d5_28 : decode prog_8_method_1_code 28 = .ok (.putfield 25, 3) := by decide +kernel
theorem d5_31 : decode prog_8_method_1_code 31 = .ok (.aload_n 0, 1) := by decide +kernel
theorem d5_32 : decode prog_8_method_1_code 32 = .ok (.aload 5, 2) := by decide +kernel
theorem d5_34 : decode prog_8_method_1_code 34 = .ok (.putfield 28, 3) := by decide +kernel
theorem d5_37 : decode prog_8_method_1_code 37 = .ok (.return_, 1) := by decide +kernel
theorem ef_rm5 (m : MethodId) (x0 : Addr) (x1 : Addr) (x2 : Addr) (x3 : Addr) (x4 : Addr) (x5 : Addr) : entryFrame m #[(.ref x0), (.ref x1), (.ref x2), (.ref x3), (.ref x4), (.ref x5)] 6 = mkF m 0 #[.val (.ref x0), .val (.ref x1), .val (.ref x2), .val (.ref x3), .val (.ref x4), .val (.ref x5)] [] := by first | (simp [entryFrame, mkF, argsToLocals, Value.category, maxLocals]; done) | rfl
set_option maxRecDepth 65536 in
set_option maxHeartbeats 40000000 in
theorem rm5 (l : Launch) (Z : State) (a0 : Array Value) (hw : ∀ d ∈ tables_1, d.before a0 Z = true) (ws : List Jvm.Cond) (a1 av ai ao at_ ab : Addr) (kv : ClassId) (x0 x1 x2 x3 : Int64) (h0 : Heap) (n0 : Nat) (Z0 : n0 ≤ h0.size) (F_values_a1 : Fld Z h0 a1 "com/example/controller_synthesis/controllersynthesis/output/FunctionBlock" "values" "[J" .null) (F_inputs_a1 : Fld Z h0 a1 "com/example/controller_synthesis/controllersynthesis/output/FunctionBlock" "inputs" "[I" .null) (F_outputs_a1 : Fld Z h0 a1 "com/example/controller_synthesis/controllersynthesis/output/FunctionBlock" "outputs" "[I" .null) (F_timerOutputs_a1 : Fld Z h0 a1 "com/example/controller_synthesis/controllersynthesis/output/FunctionBlock" "timerOutputs" "[I" .null) (F_body_a1 : Fld Z h0 a1 "com/example/controller_synthesis/controllersynthesis/output/FunctionBlock" "body" "Ljava/util/List;" .null) (E_a1 : Exa Z h0 a1 "com/example/controller_synthesis/controllersynthesis/output/FunctionBlock") (g_a1 : n0 ≤ a1) (V_av : Arv Z h0 av kv .long (4 : Int32) [(.long x0), (.long x1), (.long x2), (.long x3)] (.long (0 : Int64))) (E_av : Exa Z h0 av "[J") (ne_av_a1 : av ≠ a1) :
    MetFree l (⟨"com/example/controller_synthesis/controllersynthesis/output/FunctionBlock", "<init>", "([J[I[I[ILjava/util/List;)V"⟩ : MethodName) (head1 (Jvm.Cond.code (⟨"com/example/controller_synthesis/controllersynthesis/output/FunctionBlock", "<init>", "([J[I[I[ILjava/util/List;)V"⟩ : MethodName) prog_8_method_1_code 6 none :: ws) ({ frames := 1, cells := 1, slots := 4, locals := 15 } : Room)) (fun a U => a = #[(.ref a1), (.ref av), (.ref ai), (.ref ao), (.ref at_), (.ref ab)] ∧ Z.Warmed39 U.vm ∧ U.heap = h0) (fun _ _ _ _ _ => True) (fun _ U o U' => ∃ v L, o = .returned v ∧ Q_rm5 Z a1 ai ao at_ ab kv x0 x1 x2 x3 h0 n0 v U'.heap L ∧ FrameEnd U o U' L ({ frames := 1, cells := 1, slots := 4, locals := 15 } : Room).cells ({ frames := 1, cells := 1, slots := 4, locals := 15 } : Room).slots) := by
  refine MetFree.of_bodySF (plainFor_of_name pn_5) hisR ?_
  intro p e s m args below meth c s₁ Bd hml0 hP hK
  obtain ⟨rfl, hZ, hh⟩ := hP
  have hx := Bd.exec
  have hby := Bd.bytes
  have hml : c.maxLocals = 6 := hml0
  have hown : s.vm.findClass "com/example/controller_synthesis/controllersynthesis/output/FunctionBlock" = some m.cls := findClass_of_methodNamed Bd.named
  have hnm := (name_of_methodNamed Bd.named Bd.method).1
  have X0 : Stand p l e ({ frames := 1, cells := 1, slots := 4, locals := 15 } : Room) s m #[(.ref a1), (.ref av), (.ref ai), (.ref ao), (.ref at_), (.ref ab)] below meth c s₁ [] 0 0 := Stand.of_body Bd
  have e0 : s₁.heap = h0 := by rw [← hh, Bd.state]; rfl
  have N0 := Fr.nil n0
  have K : Keep h0 h0 [a1] := Keep.refl h0 [a1]
  show own_Gd p.tables e below (own_P (Q_rm5 Z a1 ai ao at_ ab kv x0 x1 x2 x3 h0 n0) s ({ frames := 1, cells := 1, slots := 4, locals := 15 } : Room).cells ({ frames := 1, cells := 1, slots := 4, locals := 15 } : Room).slots) _
  refine own_go (B := s₁.setTop (mkF m 0 #[.val (.ref a1), .val (.ref av), .val (.ref ai), .val (.ref ao), .val (.ref at_), .val (.ref ab)] [])) (fun t k => castTop (ef_rm5 m a1 av ai ao at_ ab) k) ?_
  refine own_go (B := s₁.setTop (mkF m 1 #[.val (.ref a1), .val (.ref av), .val (.ref ai), .val (.ref ao), .val (.ref at_), .val (.ref ab)] [(.ref a1)])) (fun t k => ?_) ?_
  · show Steps p.tables e below (s₁.setTop (mkF m 0 #[.val (.ref a1), .val (.ref av), .val (.ref ai), .val (.ref ao), .val (.ref at_), .val (.ref ab)] [])) _
    refine XS.aloadN X0.here hx rfl (hb hby d5_0) rfl rfl ?_
    show Steps p.tables e below (s₁.setTop (mkF m 1 #[.val (.ref a1), .val (.ref av), .val (.ref ai), .val (.ref ao), .val (.ref at_), .val (.ref ab)] [(.ref a1)])) _
    exact k
  obtain ⟨T1, X1, e1, st1⟩ := initO X0 hx hZ hown (hw _ (List.mem_of_getElem? (i := 35) rfl)) (hw _ (List.mem_of_getElem? (i := 22) rfl)) (hw _ (List.mem_of_getElem? (i := 23) rfl)) e0 (g := (mkF m 1 #[.val (.ref a1), .val (.ref av), .val (.ref ai), .val (.ref ao), .val (.ref at_), .val (.ref ab)] [(.ref a1)])) rfl (by rw [hml]; rfl) rfl (hb hby d5_1) (by decide) (W := 0) (by show 2 * 0 + _ ≤ _; exact Nat.le_of_eq rfl) (by decide)
  refine own_go (B := T1.setTop (mkF m 4 #[.val (.ref a1), .val (.ref av), .val (.ref ai), .val (.ref ao), .val (.ref at_), .val (.ref ab)] [])) st1 ?_
  refine own_go (B := T1.setTop (mkF m 6 #[.val (.ref a1), .val (.ref av), .val (.ref ai), .val (.ref ao), .val (.ref at_), .val (.ref ab)] [(.ref av), (.ref a1)])) (fun t k => ?_) ?_
  · show Steps p.tables e below (T1.setTop (mkF m 4 #[.val (.ref a1), .val (.ref av), .val (.ref ai), .val (.ref ao), .val (.ref at_), .val (.ref ab)] [])) _
    refine XS.aloadN X1.here hx rfl (hb hby d5_4) rfl rfl ?_
    show Steps p.tables e below (T1.setTop (mkF m 5 #[.val (.ref a1), .val (.ref av), .val (.ref ai), .val (.ref ao), .val (.ref at_), .val (.ref ab)] [(.ref a1)])) _
    refine XS.aloadN X1.here hx rfl (hb hby d5_5) rfl rfl ?_
    show Steps p.tables e below (T1.setTop (mkF m 6 #[.val (.ref a1), .val (.ref av), .val (.ref ai), .val (.ref ao), .val (.ref at_), .val (.ref ab)] [(.ref av), (.ref a1)])) _
    exact k
  obtain ⟨T2, h2, X2, e2, E2, A2, Ex2, st2⟩ := cloneH X1 hx hZ hown (hw _ (List.mem_of_getElem? (i := 36) rfl)) (hw _ (List.mem_of_getElem? (i := 37) rfl)) (hw _ (List.mem_of_getElem? (i := 41) rfl)) (hw _ (List.mem_of_getElem? (i := 39) rfl)) (hw _ (List.mem_of_getElem? (i := 40) rfl)) (hw _ (List.mem_of_getElem? (i := 42) rfl)) e1 (hs := []) V_av E_av (g := (mkF m 6 #[.val (.ref a1), .val (.ref av), .val (.ref ai), .val (.ref ao), .val (.ref at_), .val (.ref ab)] [(.ref av), (.ref a1)])) rfl (by rw [hml]; rfl) rfl (hb hby d5_6) (by decide) (W := 1) (cap := 4) (by show 2 * 0 + _ ≤ _; exact Nat.le_of_eq rfl) (by decide) (by decide) (by decide) (by decide)
  obtain ⟨b2, g2⟩ : ∃ z, z = h0.size := ⟨_, rfl⟩
  rw [← g2] at A2 st2 Ex2
  have ne_av_b2 : av ≠ b2 := Nat.ne_of_lt (Nat.lt_of_lt_of_le V_av.lt (Nat.le_of_eq g2.symm))
  have ne_a1_b2 : a1 ≠ b2 := Nat.ne_of_lt (Nat.lt_of_lt_of_le E_a1.lt (Nat.le_of_eq g2.symm))
  have g_b2 : n0 ≤ b2 := Nat.le_trans Z0 (Nat.le_of_eq g2.symm)
  have sz_b2 : h0.size ≤ b2 := Nat.le_trans K.1 (Nat.le_of_eq g2.symm)
  have V_av := V_av.ext E2
  have E_av := E_av.ext E2
  have E_a1 := E_a1.ext E2
  have F_values_a1 := F_values_a1.ext E2
  have F_inputs_a1 := F_inputs_a1.ext E2
  have F_outputs_a1 := F_outputs_a1.ext E2
  have F_timerOutputs_a1 := F_timerOutputs_a1.ext E2
  have F_body_a1 := F_body_a1.ext E2
  have K := K.ext E2
  have Z0 := Nat.le_trans Z0 E2.1
  have V_b2 : Arv Z h2 b2 kv .long (4 : Int32) [(.long x0), (.long x1), (.long x2), (.long x3)] (.long (0 : Int64)) := A2
  have E_b2 := Ex2
  refine own_go (B := T2.setTop (mkF m 9 #[.val (.ref a1), .val (.ref av), .val (.ref ai), .val (.ref ao), .val (.ref at_), .val (.ref ab)] [(.ref b2), (.ref a1)])) st2 ?_
  obtain ⟨T3, X3, e3, st3⟩ := castY X2 hx hZ hown (hw _ (List.mem_of_getElem? (i := 43) rfl)) e2 (Ins.self E_b2) (g := (mkF m 9 #[.val (.ref a1), .val (.ref av), .val (.ref ai), .val (.ref ao), .val (.ref at_), .val (.ref ab)] [(.ref b2), (.ref a1)])) rfl rfl (hb hby d5_9)
  refine own_go (B := T3.setTop (mkF m 12 #[.val (.ref a1), .val (.ref av), .val (.ref ai), .val (.ref ao), .val (.ref at_), .val (.ref ab)] [(.ref b2), (.ref a1)])) st3 ?_
  obtain ⟨T4, h4, X4, e4, W4, st4⟩ := putF X3 hx hZ hown (host := "") (Or.inl (hw _ (List.mem_of_getElem? (i := 45) rfl))) Via.refl e3 F_values_a1 E_a1 (Or.inr ⟨(hw _ (List.mem_of_getElem? (i := 46) rfl)), rfl, hnm⟩) (hw _ (List.mem_of_getElem? (i := 30) rfl)) (v := (.ref b2)) (ty := (.array .long)) (by decide) rfl rfl (g := (mkF m 12 #[.val (.ref a1), .val (.ref av), .val (.ref ai), .val (.ref ao), .val (.ref at_), .val (.ref ab)] [(.ref b2), (.ref a1)])) rfl rfl (hb hby d5_12)
  have Fw4 := F_values_a1.same W4
  have V_av := V_av.other W4 ne_av_a1
  have E_av := E_av.wr W4
  have E_a1 := E_a1.wr W4
  have F_inputs_a1 := F_inputs_a1.other W4 (Or.inr (slot_ne (Or.inr (hw _ (List.mem_of_getElem? (i := 48) rfl))) (Or.inr (hw _ (List.mem_of_getElem? (i := 46) rfl))) (by decide) (t := (.array .int)) (t' := (.array .long)) (by decide) (by decide)))
  have F_outputs_a1 := F_outputs_a1.other W4 (Or.inr (slot_ne (Or.inr (hw _ (List.mem_of_getElem? (i := 50) rfl))) (Or.inr (hw _ (List.mem_of_getElem? (i := 46) rfl))) (by decide) (t := (.array .int)) (t' := (.array .long)) (by decide) (by decide)))
  have F_timerOutputs_a1 := F_timerOutputs_a1.other W4 (Or.inr (slot_ne (Or.inr (hw _ (List.mem_of_getElem? (i := 52) rfl))) (Or.inr (hw _ (List.mem_of_getElem? (i := 46) rfl))) (by decide) (t := (.array .int)) (t' := (.array .long)) (by decide) (by decide)))
  have F_body_a1 := F_body_a1.other W4 (Or.inr (slot_ne (Or.inr (hw _ (List.mem_of_getElem? (i := 54) rfl))) (Or.inr (hw _ (List.mem_of_getElem? (i := 46) rfl))) (by decide) (t := (.object "java/util/List")) (t' := (.array .long)) (by decide) (by decide)))
  have V_b2 := V_b2.other W4 (Ne.symm ne_a1_b2)
  have E_b2 := E_b2.wr W4
  have Z0 := Nat.le_trans Z0 (Nat.le_of_eq W4.size.symm)
  have F_values_a1 := Fw4
  have K := K.wr W4 (Or.inl (List.mem_of_getElem? (i := 0) rfl))
  have N4 := Fr.snoc X4 N0 g_a1
  refine own_go (B := T4.setTop (mkF m 15 #[.val (.ref a1), .val (.ref av), .val (.ref ai), .val (.ref ao), .val (.ref at_), .val (.ref ab)] [])) st4 ?_
  refine own_go (B := T4.setTop (mkF m 17 #[.val (.ref a1), .val (.ref av), .val (.ref ai), .val (.ref ao), .val (.ref at_), .val (.ref ab)] [(.ref ai), (.ref a1)])) (fun t k => ?_) ?_
  · show Steps p.tables e below (T4.setTop (mkF m 15 #[.val (.ref a1), .val (.ref av), .val (.ref ai), .val (.ref ao), .val (.ref at_), .val (.ref ab)] [])) _
    refine XS.aloadN X4.here hx rfl (hb hby d5_15) rfl rfl ?_
    show Steps p.tables e below (T4.setTop (mkF m 16 #[.val (.ref a1), .val (.ref av), .val (.ref ai), .val (.ref ao), .val (.ref at_), .val (.ref ab)] [(.ref a1)])) _
    refine XS.aloadN X4.here hx rfl (hb hby d5_16) rfl rfl ?_
    show Steps p.tables e below (T4.setTop (mkF m 17 #[.val (.ref a1), .val (.ref av), .val (.ref ai), .val (.ref ao), .val (.ref at_), .val (.ref ab)] [(.ref ai), (.ref a1)])) _
    exact k
  obtain ⟨T5, h5, X5, e5, W5, st5⟩ := putF X4 hx hZ hown (host := "") (Or.inl (hw _ (List.mem_of_getElem? (i := 47) rfl))) Via.refl e4 F_inputs_a1 E_a1 (Or.inr ⟨(hw _ (List.mem_of_getElem? (i := 48) rfl)), rfl, hnm⟩) (hw _ (List.mem_of_getElem? (i := 30) rfl)) (v := (.ref ai)) (ty := (.array .int)) (by decide) rfl rfl (g := (mkF m 17 #[.val (.ref a1), .val (.ref av), .val (.ref ai), .val (.ref ao), .val (.ref at_), .val (.ref ab)] [(.ref ai), (.ref a1)])) rfl rfl (hb hby d5_17)
  have Fw5 := F_inputs_a1.same W5
  have V_av := V_av.other W5 ne_av_a1
  have E_av := E_av.wr W5
  have E_a1 := E_a1.wr W5
  have F_outputs_a1 := F_outputs_a1.other W5 (Or.inr (slot_ne (Or.inr (hw _ (List.mem_of_getElem? (i := 50) rfl))) (Or.inr (hw _ (List.mem_of_getElem? (i := 48) rfl))) (by decide) (t := (.array .int)) (t' := (.array .int)) (by decide) (by decide)))
  have F_timerOutputs_a1 := F_timerOutputs_a1.other W5 (Or.inr (slot_ne (Or.inr (hw _ (List.mem_of_getElem? (i := 52) rfl))) (Or.inr (hw _ (List.mem_of_getElem? (i := 48) rfl))) (by decide) (t := (.array .int)) (t' := (.array .int)) (by decide) (by decide)))
  have F_body_a1 := F_body_a1.other W5 (Or.inr (slot_ne (Or.inr (hw _ (List.mem_of_getElem? (i := 54) rfl))) (Or.inr (hw _ (List.mem_of_getElem? (i := 48) rfl))) (by decide) (t := (.object "java/util/List")) (t' := (.array .int)) (by decide) (by decide)))
  have V_b2 := V_b2.other W5 (Ne.symm ne_a1_b2)
  have E_b2 := E_b2.wr W5
  have F_values_a1 := F_values_a1.other W5 (Or.inr (slot_ne (Or.inr (hw _ (List.mem_of_getElem? (i := 46) rfl))) (Or.inr (hw _ (List.mem_of_getElem? (i := 48) rfl))) (by decide) (t := (.array .long)) (t' := (.array .int)) (by decide) (by decide)))
  have Z0 := Nat.le_trans Z0 (Nat.le_of_eq W5.size.symm)
  have F_inputs_a1 := Fw5
  have K := K.wr W5 (Or.inl (List.mem_of_getElem? (i := 0) rfl))
  have N5 := Fr.snoc X5 N4 g_a1
  refine own_go (B := T5.setTop (mkF m 20 #[.val (.ref a1), .val (.ref av), .val (.ref ai), .val (.ref ao), .val (.ref at_), .val (.ref ab)] [])) st5 ?_
  refine own_go (B := T5.setTop (mkF m 22 #[.val (.ref a1), .val (.ref av), .val (.ref ai), .val (.ref ao), .val (.ref at_), .val (.ref ab)] [(.ref ao), (.ref a1)])) (fun t k => ?_) ?_
  · show Steps p.tables e below (T5.setTop (mkF m 20 #[.val (.ref a1), .val (.ref av), .val (.ref ai), .val (.ref ao), .val (.ref at_), .val (.ref ab)] [])) _
    refine XS.aloadN X5.here hx rfl (hb hby d5_20) rfl rfl ?_
    show Steps p.tables e below (T5.setTop (mkF m 21 #[.val (.ref a1), .val (.ref av), .val (.ref ai), .val (.ref ao), .val (.ref at_), .val (.ref ab)] [(.ref a1)])) _
    refine XS.aloadN X5.here hx rfl (hb hby d5_21) rfl rfl ?_
    show Steps p.tables e below (T5.setTop (mkF m 22 #[.val (.ref a1), .val (.ref av), .val (.ref ai), .val (.ref ao), .val (.ref at_), .val (.ref ab)] [(.ref ao), (.ref a1)])) _
    exact k
  obtain ⟨T6, h6, X6, e6, W6, st6⟩ := putF X5 hx hZ hown (host := "") (Or.inl (hw _ (List.mem_of_getElem? (i := 49) rfl))) Via.refl e5 F_outputs_a1 E_a1 (Or.inr ⟨(hw _ (List.mem_of_getElem? (i := 50) rfl)), rfl, hnm⟩) (hw _ (List.mem_of_getElem? (i := 30) rfl)) (v := (.ref ao)) (ty := (.array .int)) (by decide) rfl rfl (g := (mkF m 22 #[.val (.ref a1), .val (.ref av), .val (.ref ai), .val (.ref ao), .val (.ref at_), .val (.ref ab)] [(.ref ao), (.ref a1)])) rfl rfl (hb hby d5_22)
  have Fw6 := F_outputs_a1.same W6
  have V_av := V_av.other W6 ne_av_a1
  have E_av := E_av.wr W6
  have E_a1 := E_a1.wr W6
  have F_timerOutputs_a1 := F_timerOutputs_a1.other W6 (Or.inr (slot_ne (Or.inr (hw _ (List.mem_of_getElem? (i := 52) rfl))) (Or.inr (hw _ (List.mem_of_getElem? (i := 50) rfl))) (by decide) (t := (.array .int)) (t' := (.array .int)) (by decide) (by decide)))
  have F_body_a1 := F_body_a1.other W6 (Or.inr (slot_ne (Or.inr (hw _ (List.mem_of_getElem? (i := 54) rfl))) (Or.inr (hw _ (List.mem_of_getElem? (i := 50) rfl))) (by decide) (t := (.object "java/util/List")) (t' := (.array .int)) (by decide) (by decide)))
  have V_b2 := V_b2.other W6 (Ne.symm ne_a1_b2)
  have E_b2 := E_b2.wr W6
  have F_values_a1 := F_values_a1.other W6 (Or.inr (slot_ne (Or.inr (hw _ (List.mem_of_getElem? (i := 46) rfl))) (Or.inr (hw _ (List.mem_of_getElem? (i := 50) rfl))) (by decide) (t := (.array .long)) (t' := (.array .int)) (by decide) (by decide)))
  have F_inputs_a1 := F_inputs_a1.other W6 (Or.inr (slot_ne (Or.inr (hw _ (List.mem_of_getElem? (i := 48) rfl))) (Or.inr (hw _ (List.mem_of_getElem? (i := 50) rfl))) (by decide) (t := (.array .int)) (t' := (.array .int)) (by decide) (by decide)))
  have Z0 := Nat.le_trans Z0 (Nat.le_of_eq W6.size.symm)
  have F_outputs_a1 := Fw6
  have K := K.wr W6 (Or.inl (List.mem_of_getElem? (i := 0) rfl))
  have N6 := Fr.snoc X6 N5 g_a1
  refine own_go (B := T6.setTop (mkF m 25 #[.val (.ref a1), .val (.ref av), .val (.ref ai), .val (.ref ao), .val (.ref at_), .val (.ref ab)] [])) st6 ?_
  refine own_go (B := T6.setTop (mkF m 28 #[.val (.ref a1), .val (.ref av), .val (.ref ai), .val (.ref ao), .val (.ref at_), .val (.ref ab)] [(.ref at_), (.ref a1)])) (fun t k => ?_) ?_
  · show Steps p.tables e below (T6.setTop (mkF m 25 #[.val (.ref a1), .val (.ref av), .val (.ref ai), .val (.ref ao), .val (.ref at_), .val (.ref ab)] [])) _
    refine XS.aloadN X6.here hx rfl (hb hby d5_25) rfl rfl ?_
    show Steps p.tables e below (T6.setTop (mkF m 26 #[.val (.ref a1), .val (.ref av), .val (.ref ai), .val (.ref ao), .val (.ref at_), .val (.ref ab)] [(.ref a1)])) _
    refine XS.aload X6.here hx rfl (hb hby d5_26) rfl rfl ?_
    show Steps p.tables e below (T6.setTop (mkF m 28 #[.val (.ref a1), .val (.ref av), .val (.ref ai), .val (.ref ao), .val (.ref at_), .val (.ref ab)] [(.ref at_), (.ref a1)])) _
    exact k
  obtain ⟨T7, h7, X7, e7, W7, st7⟩ := putF X6 hx hZ hown (host := "") (Or.inl (hw _ (List.mem_of_getElem? (i := 51) rfl))) Via.refl e6 F_timerOutputs_a1 E_a1 (Or.inr ⟨(hw _ (List.mem_of_getElem? (i := 52) rfl)), rfl, hnm⟩) (hw _ (List.mem_of_getElem? (i := 30) rfl)) (v := (.ref at_)) (ty := (.array .int)) (by decide) rfl rfl (g := (mkF m 28 #[.val (.ref a1), .val (.ref av), .val (.ref ai), .val (.ref ao), .val (.ref at_), .val (.ref ab)] [(.ref at_), (.ref a1)])) rfl rfl (hb hby d5_28)
  have Fw7 := F_timerOutputs_a1.same W7
  have V_av := V_av.other W7 ne_av_a1
  have E_av := E_av.wr W7
  have E_a1 := E_a1.wr W7
  have F_body_a1 := F_body_a1.other W7 (Or.inr (slot_ne (Or.inr (hw _ (List.mem_of_getElem? (i := 54) rfl))) (Or.inr (hw _ (List.mem_of_getElem? (i := 52) rfl))) (by decide) (t := (.object "java/util/List")) (t' := (.array .int)) (by decide) (by decide)))
  have V_b2 := V_b2.other W7 (Ne.symm ne_a1_b2)
  have E_b2 := E_b2.wr W7
  have F_values_a1 := F_values_a1.other W7 (Or.inr (slot_ne (Or.inr (hw _ (List.mem_of_getElem? (i := 46) rfl))) (Or.inr (hw _ (List.mem_of_getElem? (i := 52) rfl))) (by decide) (t := (.array .long)) (t' := (.array .int)) (by decide) (by decide)))
  have F_inputs_a1 := F_inputs_a1.other W7 (Or.inr (slot_ne (Or.inr (hw _ (List.mem_of_getElem? (i := 48) rfl))) (Or.inr (hw _ (List.mem_of_getElem? (i := 52) rfl))) (by decide) (t := (.array .int)) (t' := (.array .int)) (by decide) (by decide)))
  have F_outputs_a1 := F_outputs_a1.other W7 (Or.inr (slot_ne (Or.inr (hw _ (List.mem_of_getElem? (i := 50) rfl))) (Or.inr (hw _ (List.mem_of_getElem? (i := 52) rfl))) (by decide) (t := (.array .int)) (t' := (.array .int)) (by decide) (by decide)))
  have Z0 := Nat.le_trans Z0 (Nat.le_of_eq W7.size.symm)
  have F_timerOutputs_a1 := Fw7
  have K := K.wr W7 (Or.inl (List.mem_of_getElem? (i := 0) rfl))
  have N7 := Fr.snoc X7 N6 g_a1
  refine own_go (B := T7.setTop (mkF m 31 #[.val (.ref a1), .val (.ref av), .val (.ref ai), .val (.ref ao), .val (.ref at_), .val (.ref ab)] [])) st7 ?_
  refine own_go (B := T7.setTop (mkF m 34 #[.val (.ref a1), .val (.ref av), .val (.ref ai), .val (.ref ao), .val (.ref at_), .val (.ref ab)] [(.ref ab), (.ref a1)])) (fun t k => ?_) ?_
  · show Steps p.tables e below (T7.setTop (mkF m 31 #[.val (.ref a1), .val (.ref av), .val (.ref ai), .val (.ref ao), .val (.ref at_), .val (.ref ab)] [])) _
    refine XS.aloadN X7.here hx rfl (hb hby d5_31) rfl rfl ?_
    show Steps p.tables e below (T7.setTop (mkF m 32 #[.val (.ref a1), .val (.ref av), .val (.ref ai), .val (.ref ao), .val (.ref at_), .val (.ref ab)] [(.ref a1)])) _
    refine XS.aload X7.here hx rfl (hb hby d5_32) rfl rfl ?_
    show Steps p.tables e below (T7.setTop (mkF m 34 #[.val (.ref a1), .val (.ref av), .val (.ref ai), .val (.ref ao), .val (.ref at_), .val (.ref ab)] [(.ref ab), (.ref a1)])) _
    exact k
  obtain ⟨T8, h8, X8, e8, W8, st8⟩ := putF X7 hx hZ hown (host := "") (Or.inl (hw _ (List.mem_of_getElem? (i := 53) rfl))) Via.refl e7 F_body_a1 E_a1 (Or.inr ⟨(hw _ (List.mem_of_getElem? (i := 54) rfl)), rfl, hnm⟩) (hw _ (List.mem_of_getElem? (i := 30) rfl)) (v := (.ref ab)) (ty := (.object "java/util/List")) (by decide) rfl rfl (g := (mkF m 34 #[.val (.ref a1), .val (.ref av), .val (.ref ai), .val (.ref ao), .val (.ref at_), .val (.ref ab)] [(.ref ab), (.ref a1)])) rfl rfl (hb hby d5_34)
  have Fw8 := F_body_a1.same W8
  have V_av := V_av.other W8 ne_av_a1
  have E_av := E_av.wr W8
  have E_a1 := E_a1.wr W8
  have V_b2 := V_b2.other W8 (Ne.symm ne_a1_b2)
  have E_b2 := E_b2.wr W8
  have F_values_a1 := F_values_a1.other W8 (Or.inr (slot_ne (Or.inr (hw _ (List.mem_of_getElem? (i := 46) rfl))) (Or.inr (hw _ (List.mem_of_getElem? (i := 54) rfl))) (by decide) (t := (.array .long)) (t' := (.object "java/util/List")) (by decide) (by decide)))
  have F_inputs_a1 := F_inputs_a1.other W8 (Or.inr (slot_ne (Or.inr (hw _ (List.mem_of_getElem? (i := 48) rfl))) (Or.inr (hw _ (List.mem_of_getElem? (i := 54) rfl))) (by decide) (t := (.array .int)) (t' := (.object "java/util/List")) (by decide) (by decide)))
  have F_outputs_a1 := F_outputs_a1.other W8 (Or.inr (slot_ne (Or.inr (hw _ (List.mem_of_getElem? (i := 50) rfl))) (Or.inr (hw _ (List.mem_of_getElem? (i := 54) rfl))) (by decide) (t := (.array .int)) (t' := (.object "java/util/List")) (by decide) (by decide)))
  have F_timerOutputs_a1 := F_timerOutputs_a1.other W8 (Or.inr (slot_ne (Or.inr (hw _ (List.mem_of_getElem? (i := 52) rfl))) (Or.inr (hw _ (List.mem_of_getElem? (i := 54) rfl))) (by decide) (t := (.array .int)) (t' := (.object "java/util/List")) (by decide) (by decide)))
  have Z0 := Nat.le_trans Z0 (Nat.le_of_eq W8.size.symm)
  have F_body_a1 := Fw8
  have K := K.wr W8 (Or.inl (List.mem_of_getElem? (i := 0) rfl))
  have N8 := Fr.snoc X8 N7 g_a1
  refine own_go (B := T8.setTop (mkF m 37 #[.val (.ref a1), .val (.ref av), .val (.ref ai), .val (.ref ao), .val (.ref at_), .val (.ref ab)] [])) st8 ?_
  obtain ⟨fs, hr, hrun, hended, hW, hsame⟩ := X8.leave (v := none) (fun _ => rfl)
  refine own_done (X8.returnOut hx Bd.returns (hb hby d5_37) hr) hrun hended ⟨_, _, rfl, ?_, ⟨_, rfl⟩, hW, hsame.mono (by decide) (by decide)⟩
  show Q_rm5 Z a1 ai ao at_ ab kv x0 x1 x2 x3 h0 n0 (none) T8.heap _
  rw [e8]
  exact ⟨b2, rfl, N8, K, sz_b2, E_a1, F_values_a1, F_inputs_a1, F_outputs_a1, F_timerOutputs_a1, F_body_a1, V_b2⟩
def Q_rm6 (Z : State) (x0 x1 x2 x3 : Int64) (t0 t1 t2 : Int32) (h0 : Heap) (n0 : Nat) (v : Option Value) (h : Heap) (L : List Loc) : Prop := ∃ b k, v = some (.ref b) ∧ Fr n0 L ∧ Keep h0 h [] ∧ h0.size ≤ b ∧ Arv Z h b k .boolean (3 : Int32) [(.int (own_nz (own4 t0 x0 x1 x2 x3))), (.int (own_nz (own4 t1 x0 x1 x2 x3))), (.int (own_nz (own4 t2 x0 x1 x2 x3)))] (.int (0 : Int32))
theorem d6_0 : decode prog_8_method_3_code 0 = .ok (.aload_n 0, 1) := by decide +kernel
theorem d6_1 : decode prog_8_method_3_code 1 = .ok (.getfield 25, 3) := by decide +kernel
theorem d6_4 : decode prog_8_method_3_code 4 = .ok (.arraylength, 1) := by decide +kernel
theorem d6_5 : decode prog_8_method_3_code 5 = .ok (.newarray .boolean, 2) := by decide +kernel
theorem d6_7 : decode prog_8_method_3_code 7 = .ok (.astore_n 1, 1) := by decide +kernel
theorem d6_8 : decode prog_8_method_3_code 8 = .ok (.iconst 0, 1) := by decide +kernel
theorem d6_9 : decode prog_8_method_3_code 9 = .ok (.istore_n 2, 1) := by decide +kernel
theorem d6_10 : decode prog_8_method_3_code 10 = .ok (.iload_n 2, 1) := by decide +kernel
theorem d6_11 : decode prog_8_method_3_code 11 = .ok (.aload_n 0, 1) := by decide +kernel
theorem d6_12 : decode prog_8_method_3_code 12 = .ok (.getfield 25, 3) := by decide +kernel
theorem d6_15 : decode prog_8_method_3_code 15 = .ok (.arraylength, 1) := by decide +kernel
theorem d6_16 : decode prog_8_method_3_code 16 = .ok (.if_icmp .ge 33, 3) := by decide +kernel
theorem d6_19 : decode prog_8_method_3_code 19 = .ok (.aload_n 1, 1) := by decide +kernel
theorem d6_20 : decode prog_8_method_3_code 20 = .ok (.iload_n 2, 1) := by decide +kernel
theorem d6_21 : decode prog_8_method_3_code 21 = .ok (.aload_n 0, 1) := by decide +kernel
theorem d6_22 : decode prog_8_method_3_code 22 = .ok (.getfield 13, 3) := by decide +kernel
theorem d6_25 : decode prog_8_method_3_code 25 = .ok (.aload_n 0, 1) := by decide +kernel
theorem d6_26 : decode prog_8_method_3_code 26 = .ok (.getfield 25, 3) := by decide +kernel
theorem d6_29 : decode prog_8_method_3_code 29 = .ok (.iload_n 2, 1) := by decide +kernel
theorem d6_30 : decode prog_8_method_3_code 30 = .ok (.iaload, 1) := by decide +kernel
theorem d6_31 : decode prog_8_method_3_code 31 = .ok (.laload, 1) := by decide +kernel
theorem d6_32 : decode prog_8_method_3_code 32 = .ok (.lconst 0, 1) := by decide +kernel
theorem d6_33 : decode prog_8_method_3_code 33 = .ok (.lcmp, 1) := by decide +kernel
theorem d6_34 : decode prog_8_method_3_code 34 = .ok (.ifCond .eq 7, 3) := by decide +kernel
theorem d6_37 : decode prog_8_method_3_code 37 = .ok (.iconst 1, 1) := by decide +kernel
theorem d6_38 : decode prog_8_method_3_code 38 = .ok (.goto 4, 3) := by decide +kernel
theorem d6_41 : decode prog_8_method_3_code 41 = .ok (.iconst 0, 1) := by decide +kernel
theorem d6_42 : decode prog_8_method_3_code 42 = .ok (.bastore, 1) := by decide +kernel
theorem d6_43 : decode prog_8_method_3_code 43 = .ok (.iinc 2 1, 3) := by decide +kernel
theorem d6_46 : decode prog_8_method_3_code 46 = .ok (.goto (-36), 3) := by decide +kernel
theorem d6_49 : decode prog_8_method_3_code 49 = .ok (.aload_n 1, 1) := by decide +kernel
theorem d6_50 : decode prog_8_method_3_code 50 = .ok (.areturn, 1) := by decide +kernel
theorem ef_rm6 (m : MethodId) (x0 : Addr) : entryFrame m #[(.ref x0)] 3 = mkF m 0 #[.val (.ref x0), .unset, .unset] [] := by first | (simp [entryFrame, mkF, argsToLocals, Value.category, maxLocals]; done) | rfl
set_option maxRecDepth 65536 in
set_option maxHeartbeats 40000000 in
theorem rm6 (l : Launch) (Z : State) (a0 : Array Value) (hw : ∀ d ∈ tables_1, d.before a0 Z = true) (ws : List Jvm.Cond) (a1 av at_ : Addr) (kv kt : ClassId) (x0 x1 x2 x3 : Int64) (t0 t1 t2 : Int32) (h0 : Heap) (n0 : Nat) (Z0 : n0 ≤ h0.size) (F_values_a1 : Fld Z h0 a1 "com/example/controller_synthesis/controllersynthesis/output/FunctionBlock" "values" "[J" (.ref av)) (F_timerOutputs_a1 : Fld Z h0 a1 "com/example/controller_synthesis/controllersynthesis/output/FunctionBlock" "timerOutputs" "[I" (.ref at_)) (V_av : Arv Z h0 av kv .long (4 : Int32) [(.long x0), (.long x1), (.long x2), (.long x3)] (.long (0 : Int64))) (V_at_ : Arv Z h0 at_ kt .int (3 : Int32) [(.int t0), (.int t1), (.int t2)] (.int (0 : Int32))) (r_t0 : 0 ≤ t0.toInt ∧ t0.toInt < 4) (r_t1 : 0 ≤ t1.toInt ∧ t1.toInt < 4) (r_t2 : 0 ≤ t2.toInt ∧ t2.toInt < 4) :
    MetFree l (⟨"com/example/controller_synthesis/controllersynthesis/output/FunctionBlock", "timerOutputs", "()[Z"⟩ : MethodName) (head1 (Jvm.Cond.code (⟨"com/example/controller_synthesis/controllersynthesis/output/FunctionBlock", "timerOutputs", "()[Z"⟩ : MethodName) prog_8_method_3_code 3 (some (.array .boolean)) :: ws) ({ frames := 0, cells := 1, slots := 3, locals := 0 } : Room)) (fun a U => a = #[(.ref a1)] ∧ Z.Warmed39 U.vm ∧ U.heap = h0) (fun _ _ _ _ _ => True) (fun _ U o U' => ∃ v L, o = .returned v ∧ Q_rm6 Z x0 x1 x2 x3 t0 t1 t2 h0 n0 v U'.heap L ∧ FrameEnd U o U' L ({ frames := 0, cells := 1, slots := 3, locals := 0 } : Room).cells ({ frames := 0, cells := 1, slots := 3, locals := 0 } : Room).slots) := by
  refine MetFree.of_bodySF (plainFor_of_name pn_6) hisR ?_
  intro p e s m args below meth c s₁ Bd hml0 hP hK
  obtain ⟨rfl, hZ, hh⟩ := hP
  have hx := Bd.exec
  have hby := Bd.bytes
  have hml : c.maxLocals = 3 := hml0
  have hown : s.vm.findClass "com/example/controller_synthesis/controllersynthesis/output/FunctionBlock" = some m.cls := findClass_of_methodNamed Bd.named
  have hnm := (name_of_methodNamed Bd.named Bd.method).1
  have X0 : Stand p l e ({ frames := 0, cells := 1, slots := 3, locals := 0 } : Room) s m #[(.ref a1)] below meth c s₁ [] 0 0 := Stand.of_body Bd
  have e0 : s₁.heap = h0 := by rw [← hh, Bd.state]; rfl
  have N0 := Fr.nil n0
  have K : Keep h0 h0 [] := Keep.refl h0 []
  show own_Gd p.tables e below (own_P (Q_rm6 Z x0 x1 x2 x3 t0 t1 t2 h0 n0) s ({ frames := 0, cells := 1, slots := 3, locals := 0 } : Room).cells ({ frames := 0, cells := 1, slots := 3, locals := 0 } : Room).slots) _
  refine own_go (B := s₁.setTop (mkF m 0 #[.val (.ref a1), .unset, .unset] [])) (fun t k => castTop (ef_rm6 m a1) k) ?_
  refine own_go (B := s₁.setTop (mkF m 1 #[.val (.ref a1), .unset, .unset] [(.ref a1)])) (fun t k => ?_) ?_
  · show Steps p.tables e below (s₁.setTop (mkF m 0 #[.val (.ref a1), .unset, .unset] [])) _
    refine XS.aloadN X0.here hx rfl (hb hby d6_0) rfl rfl ?_
    show Steps p.tables e below (s₁.setTop (mkF m 1 #[.val (.ref a1), .unset, .unset] [(.ref a1)])) _
    exact k
  obtain ⟨T1, X1, e1, st1⟩ := getF X0 hx hZ hown (host := "") (Or.inl (hw _ (List.mem_of_getElem? (i := 51) rfl))) Via.refl e0 F_timerOutputs_a1 (g := (mkF m 1 #[.val (.ref a1), .unset, .unset] [(.ref a1)])) rfl rfl (hb hby d6_1)
  refine own_go (B := T1.setTop (mkF m 4 #[.val (.ref a1), .unset, .unset] [(.ref at_)])) st1 ?_
  obtain ⟨cl2, Ar2, qa2, Sa2, Na2, Ha2, Ga2⟩ := id V_at_
  refine own_go (B := T1.setTop (mkF m 5 #[.val (.ref a1), .unset, .unset] [(.int (3 : Int32))])) (fun t k => ?_) ?_
  · show Steps p.tables e below (T1.setTop (mkF m 4 #[.val (.ref a1), .unset, .unset] [(.ref at_)])) _
    refine X1.arraylength hx (by rw [e1]; exact Ar2.1) (State.isArrayOf_alike hZ.alike Ar2.2.1) (g := (mkF m 4 #[.val (.ref a1), .unset, .unset] [(.ref at_)])) rfl rfl (hb hby d6_4) _ ?_
    rw [len_of Sa2 Na2]
    show Steps p.tables e below (T1.setTop (mkF m 5 #[.val (.ref a1), .unset, .unset] [(.int (3 : Int32))])) _
    exact k
  obtain ⟨T3, h3, k3, X3, e3, E3, A3, st3⟩ := newP X1 hx hZ (hw _ (List.mem_of_getElem? (i := 2) rfl)) e1 (g := (mkF m 5 #[.val (.ref a1), .unset, .unset] [(.int (3 : Int32))])) rfl (hb hby d6_5) rfl (by decide) (cap := 3) (by decide) (by decide) (by decide) (by decide)
  obtain ⟨b3, g3⟩ : ∃ z, z = h0.size := ⟨_, rfl⟩
  rw [← g3] at A3 st3
  have ne_a1_b3 : a1 ≠ b3 := Nat.ne_of_lt (Nat.lt_of_lt_of_le F_values_a1.lt (Nat.le_of_eq g3.symm))
  have ne_av_b3 : av ≠ b3 := Nat.ne_of_lt (Nat.lt_of_lt_of_le V_av.lt (Nat.le_of_eq g3.symm))
  have ne_at__b3 : at_ ≠ b3 := Nat.ne_of_lt (Nat.lt_of_lt_of_le V_at_.lt (Nat.le_of_eq g3.symm))
  have g_b3 : n0 ≤ b3 := Nat.le_trans Z0 (Nat.le_of_eq g3.symm)
  have sz_b3 : h0.size ≤ b3 := Nat.le_trans K.1 (Nat.le_of_eq g3.symm)
  have F_values_a1 := F_values_a1.ext E3
  have F_timerOutputs_a1 := F_timerOutputs_a1.ext E3
  have V_av := V_av.ext E3
  have V_at_ := V_at_.ext E3
  have K := K.ext E3
  have Z0 := Nat.le_trans Z0 E3.1
  have V_b3 : Arv Z h3 b3 k3 .boolean (3 : Int32) [(.int (0 : Int32)), (.int (0 : Int32)), (.int (0 : Int32))] (.int (0 : Int32)) := (Arv.new A3 (by decide)).pad (pad_rep [] (.int (0 : Int32)) 3)
  refine own_go (B := T3.setTop (mkF m 7 #[.val (.ref a1), .unset, .unset] [(.ref b3)])) st3 ?_
  refine own_go (B := T3.setTop (mkF m 12 #[.val (.ref a1), .val (.ref b3), .val (.int (0 : Int32))] [(.ref a1), (.int (0 : Int32))])) (fun t k => ?_) ?_
  · show Steps p.tables e below (T3.setTop (mkF m 7 #[.val (.ref a1), .unset, .unset] [(.ref b3)])) _
    refine XS.astoreN X3.here hx rfl (hb hby d6_7) rfl rfl (l' := #[.val (.ref a1), .val (.ref b3), .unset]) rfl ?_
    show Steps p.tables e below (T3.setTop (mkF m 8 #[.val (.ref a1), .val (.ref b3), .unset] [])) _
    refine XS.iconst X3.here hx rfl (hb hby d6_8) ?_
    show Steps p.tables e below (T3.setTop (mkF m 9 #[.val (.ref a1), .val (.ref b3), .unset] [(.int (0 : Int32))])) _
    refine XS.istoreN X3.here hx rfl (hb hby d6_9) rfl (l' := #[.val (.ref a1), .val (.ref b3), .val (.int (0 : Int32))]) rfl ?_
    show Steps p.tables e below (T3.setTop (mkF m 10 #[.val (.ref a1), .val (.ref b3), .val (.int (0 : Int32))] [])) _
    refine XS.iloadN X3.here hx rfl (hb hby d6_10) rfl ?_
    show Steps p.tables e below (T3.setTop (mkF m 11 #[.val (.ref a1), .val (.ref b3), .val (.int (0 : Int32))] [(.int (0 : Int32))])) _
    refine XS.aloadN X3.here hx rfl (hb hby d6_11) rfl rfl ?_
    show Steps p.tables e below (T3.setTop (mkF m 12 #[.val (.ref a1), .val (.ref b3), .val (.int (0 : Int32))] [(.ref a1), (.int (0 : Int32))])) _
    exact k
  obtain ⟨T4, X4, e4, st4⟩ := getF X3 hx hZ hown (host := "") (Or.inl (hw _ (List.mem_of_getElem? (i := 51) rfl))) Via.refl e3 F_timerOutputs_a1 (g := (mkF m 12 #[.val (.ref a1), .val (.ref b3), .val (.int (0 : Int32))] [(.ref a1), (.int (0 : Int32))])) rfl rfl (hb hby d6_12)
  refine own_go (B := T4.setTop (mkF m 15 #[.val (.ref a1), .val (.ref b3), .val (.int (0 : Int32))] [(.ref at_), (.int (0 : Int32))])) st4 ?_
  obtain ⟨cl5, Ar5, qa5, Sa5, Na5, Ha5, Ga5⟩ := id V_at_
  refine own_go (B := T4.setTop (mkF m 22 #[.val (.ref a1), .val (.ref b3), .val (.int (0 : Int32))] [(.ref a1), (.int (0 : Int32)), (.ref b3)])) (fun t k => ?_) ?_
  · show Steps p.tables e below (T4.setTop (mkF m 15 #[.val (.ref a1), .val (.ref b3), .val (.int (0 : Int32))] [(.ref at_), (.int (0 : Int32))])) _
    refine X4.arraylength hx (by rw [e4]; exact Ar5.1) (State.isArrayOf_alike hZ.alike Ar5.2.1) (g := (mkF m 15 #[.val (.ref a1), .val (.ref b3), .val (.int (0 : Int32))] [(.ref at_), (.int (0 : Int32))])) rfl rfl (hb hby d6_15) _ ?_
    rw [len_of Sa5 Na5]
    show Steps p.tables e below (T4.setTop (mkF m 16 #[.val (.ref a1), .val (.ref b3), .val (.int (0 : Int32))] [(.int (3 : Int32)), (.int (0 : Int32))])) _
    refine XS.icmpNo X4.here hx rfl (hb hby d6_16) rfl (tlt (by decide : (0 : Int32) < (3 : Int32))).2.1 ?_
    show Steps p.tables e below (T4.setTop (mkF m 19 #[.val (.ref a1), .val (.ref b3), .val (.int (0 : Int32))] [])) _
    refine XS.aloadN X4.here hx rfl (hb hby d6_19) rfl rfl ?_
    show Steps p.tables e below (T4.setTop (mkF m 20 #[.val (.ref a1), .val (.ref b3), .val (.int (0 : Int32))] [(.ref b3)])) _
    refine XS.iloadN X4.here hx rfl (hb hby d6_20) rfl ?_
    show Steps p.tables e below (T4.setTop (mkF m 21 #[.val (.ref a1), .val (.ref b3), .val (.int (0 : Int32))] [(.int (0 : Int32)), (.ref b3)])) _
    refine XS.aloadN X4.here hx rfl (hb hby d6_21) rfl rfl ?_
    show Steps p.tables e below (T4.setTop (mkF m 22 #[.val (.ref a1), .val (.ref b3), .val (.int (0 : Int32))] [(.ref a1), (.int (0 : Int32)), (.ref b3)])) _
    exact k
  obtain ⟨T6, X6, e6, st6⟩ := getF X4 hx hZ hown (host := "") (Or.inl (hw _ (List.mem_of_getElem? (i := 45) rfl))) Via.refl e4 F_values_a1 (g := (mkF m 22 #[.val (.ref a1), .val (.ref b3), .val (.int (0 : Int32))] [(.ref a1), (.int (0 : Int32)), (.ref b3)])) rfl rfl (hb hby d6_22)
  refine own_go (B := T6.setTop (mkF m 25 #[.val (.ref a1), .val (.ref b3), .val (.int (0 : Int32))] [(.ref av), (.int (0 : Int32)), (.ref b3)])) st6 ?_
  refine own_go (B := T6.setTop (mkF m 26 #[.val (.ref a1), .val (.ref b3), .val (.int (0 : Int32))] [(.ref a1), (.ref av), (.int (0 : Int32)), (.ref b3)])) (fun t k => ?_) ?_
  · show Steps p.tables e below (T6.setTop (mkF m 25 #[.val (.ref a1), .val (.ref b3), .val (.int (0 : Int32))] [(.ref av), (.int (0 : Int32)), (.ref b3)])) _
    refine XS.aloadN X6.here hx rfl (hb hby d6_25) rfl rfl ?_
    show Steps p.tables e below (T6.setTop (mkF m 26 #[.val (.ref a1), .val (.ref b3), .val (.int (0 : Int32))] [(.ref a1), (.ref av), (.int (0 : Int32)), (.ref b3)])) _
    exact k
  obtain ⟨T7, X7, e7, st7⟩ := getF X6 hx hZ hown (host := "") (Or.inl (hw _ (List.mem_of_getElem? (i := 51) rfl))) Via.refl e6 F_timerOutputs_a1 (g := (mkF m 26 #[.val (.ref a1), .val (.ref b3), .val (.int (0 : Int32))] [(.ref a1), (.ref av), (.int (0 : Int32)), (.ref b3)])) rfl rfl (hb hby d6_26)
  refine own_go (B := T7.setTop (mkF m 29 #[.val (.ref a1), .val (.ref b3), .val (.int (0 : Int32))] [(.ref at_), (.ref av), (.int (0 : Int32)), (.ref b3)])) st7 ?_
  refine own_go (B := T7.setTop (mkF m 30 #[.val (.ref a1), .val (.ref b3), .val (.int (0 : Int32))] [(.int (0 : Int32)), (.ref at_), (.ref av), (.int (0 : Int32)), (.ref b3)])) (fun t k => ?_) ?_
  · show Steps p.tables e below (T7.setTop (mkF m 29 #[.val (.ref a1), .val (.ref b3), .val (.int (0 : Int32))] [(.ref at_), (.ref av), (.int (0 : Int32)), (.ref b3)])) _
    refine XS.iloadN X7.here hx rfl (hb hby d6_29) rfl ?_
    show Steps p.tables e below (T7.setTop (mkF m 30 #[.val (.ref a1), .val (.ref b3), .val (.int (0 : Int32))] [(.int (0 : Int32)), (.ref at_), (.ref av), (.int (0 : Int32)), (.ref b3)])) _
    exact k
  obtain ⟨cl8, Ar8, qa8, Sa8, Na8, Ha8, Ga8⟩ := id V_at_
  have hin8 : ¬ ((0 : Int32) < 0 ∨ cl8.slots.size ≤ ((0 : Int32)).toNatClampNeg) := inb_of Sa8 ⟨by decide, by decide⟩
  have hat8 : cl8.slots[((0 : Int32)).toNatClampNeg]? = some (.int t0) := Ha8.at hin8 rfl
  refine own_go (B := T7.setTop (mkF m 31 #[.val (.ref a1), .val (.ref b3), .val (.int (0 : Int32))] [(.int t0), (.ref av), (.int (0 : Int32)), (.ref b3)])) (fun t k => ?_) ?_
  · show Steps p.tables e below (T7.setTop (mkF m 30 #[.val (.ref a1), .val (.ref b3), .val (.int (0 : Int32))] [(.int (0 : Int32)), (.ref at_), (.ref av), (.int (0 : Int32)), (.ref b3)])) _
    refine X7.iaload hx (j := (0 : Int32)) (v := (.int t0)) (by rw [e7]; exact Ar8.1) (State.isArrayOf_alike hZ.alike Ar8.2.1) Ar8.2.2 hin8 hat8 (g := (mkF m 30 #[.val (.ref a1), .val (.ref b3), .val (.int (0 : Int32))] [(.int (0 : Int32)), (.ref at_), (.ref av), (.int (0 : Int32)), (.ref b3)])) rfl rfl (hb hby d6_30) _ ?_
    show Steps p.tables e below (T7.setTop (mkF m 31 #[.val (.ref a1), .val (.ref b3), .val (.int (0 : Int32))] [(.int t0), (.ref av), (.int (0 : Int32)), (.ref b3)])) _
    exact k
  obtain ⟨cl9, Ar9, qa9, Sa9, Na9, Ha9, Ga9⟩ := id V_av
  have hin9 : ¬ (t0 < 0 ∨ cl9.slots.size ≤ (t0).toNatClampNeg) := inb_of Sa9 (own_in4 r_t0)
  have hat9 : cl9.slots[(t0).toNatClampNeg]? = some (.long (own4 t0 x0 x1 x2 x3)) := Ha9.at hin9 (own_get4 r_t0 _ _ _ _ _)
  refine own_go (B := T7.setTop (mkF m 34 #[.val (.ref a1), .val (.ref b3), .val (.int (0 : Int32))] [(.int (lcmpW (own4 t0 x0 x1 x2 x3) (0 : Int64))), (.int (0 : Int32)), (.ref b3)])) (fun t k => ?_) ?_
  · show Steps p.tables e below (T7.setTop (mkF m 31 #[.val (.ref a1), .val (.ref b3), .val (.int (0 : Int32))] [(.int t0), (.ref av), (.int (0 : Int32)), (.ref b3)])) _
    refine X7.laload hx (j := t0) (v := (.long (own4 t0 x0 x1 x2 x3))) (by rw [e7]; exact Ar9.1) (State.isArrayOf_alike hZ.alike Ar9.2.1) Ar9.2.2 hin9 hat9 (g := (mkF m 31 #[.val (.ref a1), .val (.ref b3), .val (.int (0 : Int32))] [(.int t0), (.ref av), (.int (0 : Int32)), (.ref b3)])) rfl rfl (hb hby d6_31) _ ?_
    show Steps p.tables e below (T7.setTop (mkF m 32 #[.val (.ref a1), .val (.ref b3), .val (.int (0 : Int32))] [(.long (own4 t0 x0 x1 x2 x3)), (.int (0 : Int32)), (.ref b3)])) _
    refine XS.lconst X7.here hx rfl (hb hby d6_32) ?_
    show Steps p.tables e below (T7.setTop (mkF m 33 #[.val (.ref a1), .val (.ref b3), .val (.int (0 : Int32))] [(.long (0 : Int64)), (.long (own4 t0 x0 x1 x2 x3)), (.int (0 : Int32)), (.ref b3)])) _
    refine XS.lcmp X7.here hx rfl (hb hby d6_33) rfl ?_
    show Steps p.tables e below (T7.setTop (mkF m 34 #[.val (.ref a1), .val (.ref b3), .val (.int (0 : Int32))] [(.int (lcmpW (own4 t0 x0 x1 x2 x3) (0 : Int64))), (.int (0 : Int32)), (.ref b3)])) _
    exact k
  have J42 : ∀ (TJ : State) (LJ : List Loc) (XJ : Stand p l e ({ frames := 0, cells := 1, slots := 3, locals := 0 } : Room) s m #[(.ref a1)] below meth c TJ LJ 1 3) (NJ : Fr n0 LJ) (eJ : TJ.heap = h3) (z0 : Int32), (z0 = own_nz (own4 t0 x0 x1 x2 x3)) → own_Gd p.tables e below (own_P (Q_rm6 Z x0 x1 x2 x3 t0 t1 t2 h0 n0) s ({ frames := 0, cells := 1, slots := 3, locals := 0 } : Room).cells ({ frames := 0, cells := 1, slots := 3, locals := 0 } : Room).slots) (TJ.setTop (mkF m 42 #[.val (.ref a1), .val (.ref b3), .val (.int (0 : Int32))] [(.int z0), (.int (0 : Int32)), (.ref b3)])) := by
    intro T10 L10 X10 N10 e10 z0 hz0
    obtain ⟨cl11, Ar11, qa11, Sa11, Na11, Ha11, Ga11⟩ := id V_b3
    have hin11 : ¬ ((0 : Int32) < 0 ∨ cl11.slots.size ≤ ((0 : Int32)).toNatClampNeg) := inb_of Sa11 ⟨by decide, by decide⟩
    obtain ⟨T12, h12, X12, e12, W12, st12⟩ := stZ X10 hx hZ e10 Ar11 (j := (0 : Int32)) hin11 (g := (mkF m 42 #[.val (.ref a1), .val (.ref b3), .val (.int (0 : Int32))] [(.int z0), (.int (0 : Int32)), (.ref b3)])) rfl rfl (hb hby d6_42)
    have F_values_a1 := F_values_a1.other W12 (Or.inl ne_a1_b3)
    have F_timerOutputs_a1 := F_timerOutputs_a1.other W12 (Or.inl ne_a1_b3)
    have V_av := V_av.other W12 ne_av_b3
    have V_at_ := V_at_.other W12 ne_at__b3
    have Z0 := Nat.le_trans Z0 (Nat.le_of_eq W12.size.symm)
    have V_b3 : Arv Z h12 b3 k3 .boolean (3 : Int32) [(.int (nar .boolean z0)), (.int (0 : Int32)), (.int (0 : Int32))] (.int (0 : Int32)) := Arv.set Ar11 qa11 Sa11 Na11 Ha11 Ga11 (fits_nar_bool _) W12 0 rfl (Nat.le_of_ble_eq_true rfl)
    have K := K.wr W12 (Or.inr sz_b3)
    have N12 := Fr.snoc X12 N10 g_b3
    refine own_go (B := T12.setTop (mkF m 43 #[.val (.ref a1), .val (.ref b3), .val (.int (0 : Int32))] [])) st12 ?_
    refine own_go (B := T12.setTop (mkF m 12 #[.val (.ref a1), .val (.ref b3), .val (.int (1 : Int32))] [(.ref a1), (.int (1 : Int32))])) (fun t k => ?_) ?_
    · show Steps p.tables e below (T12.setTop (mkF m 43 #[.val (.ref a1), .val (.ref b3), .val (.int (0 : Int32))] [])) _
      refine XS.iinc X12.here hx rfl (hb hby d6_43) rfl (l' := #[.val (.ref a1), .val (.ref b3), .val (.int (1 : Int32))]) rfl ?_
      show Steps p.tables e below (T12.setTop (mkF m 46 #[.val (.ref a1), .val (.ref b3), .val (.int (1 : Int32))] [])) _
      refine XS.goto X12.here hx rfl (pc0 := 46) (pc' := 10) rfl (hb hby d6_46) (by decide) (by decide) ?_
      show Steps p.tables e below (T12.setTop (mkF m 10 #[.val (.ref a1), .val (.ref b3), .val (.int (1 : Int32))] [])) _
      refine XS.iloadN X12.here hx rfl (hb hby d6_10) rfl ?_
      show Steps p.tables e below (T12.setTop (mkF m 11 #[.val (.ref a1), .val (.ref b3), .val (.int (1 : Int32))] [(.int (1 : Int32))])) _
      refine XS.aloadN X12.here hx rfl (hb hby d6_11) rfl rfl ?_
      show Steps p.tables e below (T12.setTop (mkF m 12 #[.val (.ref a1), .val (.ref b3), .val (.int (1 : Int32))] [(.ref a1), (.int (1 : Int32))])) _
      exact k
    obtain ⟨T13, X13, e13, st13⟩ := getF X12 hx hZ hown (host := "") (Or.inl (hw _ (List.mem_of_getElem? (i := 51) rfl))) Via.refl e12 F_timerOutputs_a1 (g := (mkF m 12 #[.val (.ref a1), .val (.ref b3), .val (.int (1 : Int32))] [(.ref a1), (.int (1 : Int32))])) rfl rfl (hb hby d6_12)
    refine own_go (B := T13.setTop (mkF m 15 #[.val (.ref a1), .val (.ref b3), .val (.int (1 : Int32))] [(.ref at_), (.int (1 : Int32))])) st13 ?_
    obtain ⟨cl14, Ar14, qa14, Sa14, Na14, Ha14, Ga14⟩ := id V_at_
    refine own_go (B := T13.setTop (mkF m 22 #[.val (.ref a1), .val (.ref b3), .val (.int (1 : Int32))] [(.ref a1), (.int (1 : Int32)), (.ref b3)])) (fun t k => ?_) ?_
    · show Steps p.tables e below (T13.setTop (mkF m 15 #[.val (.ref a1), .val (.ref b3), .val (.int (1 : Int32))] [(.ref at_), (.int (1 : Int32))])) _
      refine X13.arraylength hx (by rw [e13]; exact Ar14.1) (State.isArrayOf_alike hZ.alike Ar14.2.1) (g := (mkF m 15 #[.val (.ref a1), .val (.ref b3), .val (.int (1 : Int32))] [(.ref at_), (.int (1 : Int32))])) rfl rfl (hb hby d6_15) _ ?_
      rw [len_of Sa14 Na14]
      show Steps p.tables e below (T13.setTop (mkF m 16 #[.val (.ref a1), .val (.ref b3), .val (.int (1 : Int32))] [(.int (3 : Int32)), (.int (1 : Int32))])) _
      refine XS.icmpNo X13.here hx rfl (hb hby d6_16) rfl (tlt (by decide : (1 : Int32) < (3 : Int32))).2.1 ?_
      show Steps p.tables e below (T13.setTop (mkF m 19 #[.val (.ref a1), .val (.ref b3), .val (.int (1 : Int32))] [])) _
      refine XS.aloadN X13.here hx rfl (hb hby d6_19) rfl rfl ?_
      show Steps p.tables e below (T13.setTop (mkF m 20 #[.val (.ref a1), .val (.ref b3), .val (.int (1 : Int32))] [(.ref b3)])) _
      refine XS.iloadN X13.here hx rfl (hb hby d6_20) rfl ?_
      show Steps p.tables e below (T13.setTop (mkF m 21 #[.val (.ref a1), .val (.ref b3), .val (.int (1 : Int32))] [(.int (1 : Int32)), (.ref b3)])) _
      refine XS.aloadN X13.here hx rfl (hb hby d6_21) rfl rfl ?_
      show Steps p.tables e below (T13.setTop (mkF m 22 #[.val (.ref a1), .val (.ref b3), .val (.int (1 : Int32))] [(.ref a1), (.int (1 : Int32)), (.ref b3)])) _
      exact k
    obtain ⟨T15, X15, e15, st15⟩ := getF X13 hx hZ hown (host := "") (Or.inl (hw _ (List.mem_of_getElem? (i := 45) rfl))) Via.refl e13 F_values_a1 (g := (mkF m 22 #[.val (.ref a1), .val (.ref b3), .val (.int (1 : Int32))] [(.ref a1), (.int (1 : Int32)), (.ref b3)])) rfl rfl (hb hby d6_22)
    refine own_go (B := T15.setTop (mkF m 25 #[.val (.ref a1), .val (.ref b3), .val (.int (1 : Int32))] [(.ref av), (.int (1 : Int32)), (.ref b3)])) st15 ?_
    refine own_go (B := T15.setTop (mkF m 26 #[.val (.ref a1), .val (.ref b3), .val (.int (1 : Int32))] [(.ref a1), (.ref av), (.int (1 : Int32)), (.ref b3)])) (fun t k => ?_) ?_
    · show Steps p.tables e below (T15.setTop (mkF m 25 #[.val (.ref a1), .val (.ref b3), .val (.int (1 : Int32))] [(.ref av), (.int (1 : Int32)), (.ref b3)])) _
      refine XS.aloadN X15.here hx rfl (hb hby d6_25) rfl rfl ?_
      show Steps p.tables e below (T15.setTop (mkF m 26 #[.val (.ref a1), .val (.ref b3), .val (.int (1 : Int32))] [(.ref a1), (.ref av), (.int (1 : Int32)), (.ref b3)])) _
      exact k
    obtain ⟨T16, X16, e16, st16⟩ := getF X15 hx hZ hown (host := "") (Or.inl (hw _ (List.mem_of_getElem? (i := 51) rfl))) Via.refl e15 F_timerOutputs_a1 (g := (mkF m 26 #[.val (.ref a1), .val (.ref b3), .val (.int (1 : Int32))] [(.ref a1), (.ref av), (.int (1 : Int32)), (.ref b3)])) rfl rfl (hb hby d6_26)
    refine own_go (B := T16.setTop (mkF m 29 #[.val (.ref a1), .val (.ref b3), .val (.int (1 : Int32))] [(.ref at_), (.ref av), (.int (1 : Int32)), (.ref b3)])) st16 ?_
    refine own_go (B := T16.setTop (mkF m 30 #[.val (.ref a1), .val (.ref b3), .val (.int (1 : Int32))] [(.int (1 : Int32)), (.ref at_), (.ref av), (.int (1 : Int32)), (.ref b3)])) (fun t k => ?_) ?_
    · show Steps p.tables e below (T16.setTop (mkF m 29 #[.val (.ref a1), .val (.ref b3), .val (.int (1 : Int32))] [(.ref at_), (.ref av), (.int (1 : Int32)), (.ref b3)])) _
      refine XS.iloadN X16.here hx rfl (hb hby d6_29) rfl ?_
      show Steps p.tables e below (T16.setTop (mkF m 30 #[.val (.ref a1), .val (.ref b3), .val (.int (1 : Int32))] [(.int (1 : Int32)), (.ref at_), (.ref av), (.int (1 : Int32)), (.ref b3)])) _
      exact k
    obtain ⟨cl17, Ar17, qa17, Sa17, Na17, Ha17, Ga17⟩ := id V_at_
    have hin17 : ¬ ((1 : Int32) < 0 ∨ cl17.slots.size ≤ ((1 : Int32)).toNatClampNeg) := inb_of Sa17 ⟨by decide, by decide⟩
    have hat17 : cl17.slots[((1 : Int32)).toNatClampNeg]? = some (.int t1) := Ha17.at hin17 rfl
    refine own_go (B := T16.setTop (mkF m 31 #[.val (.ref a1), .val (.ref b3), .val (.int (1 : Int32))] [(.int t1), (.ref av), (.int (1 : Int32)), (.ref b3)])) (fun t k => ?_) ?_
    · show Steps p.tables e below (T16.setTop (mkF m 30 #[.val (.ref a1), .val (.ref b3), .val (.int (1 : Int32))] [(.int (1 : Int32)), (.ref at_), (.ref av), (.int (1 : Int32)), (.ref b3)])) _
      refine X16.iaload hx (j := (1 : Int32)) (v := (.int t1)) (by rw [e16]; exact Ar17.1) (State.isArrayOf_alike hZ.alike Ar17.2.1) Ar17.2.2 hin17 hat17 (g := (mkF m 30 #[.val (.ref a1), .val (.ref b3), .val (.int (1 : Int32))] [(.int (1 : Int32)), (.ref at_), (.ref av), (.int (1 : Int32)), (.ref b3)])) rfl rfl (hb hby d6_30) _ ?_
      show Steps p.tables e below (T16.setTop (mkF m 31 #[.val (.ref a1), .val (.ref b3), .val (.int (1 : Int32))] [(.int t1), (.ref av), (.int (1 : Int32)), (.ref b3)])) _
      exact k
    obtain ⟨cl18, Ar18, qa18, Sa18, Na18, Ha18, Ga18⟩ := id V_av
    have hin18 : ¬ (t1 < 0 ∨ cl18.slots.size ≤ (t1).toNatClampNeg) := inb_of Sa18 (own_in4 r_t1)
    have hat18 : cl18.slots[(t1).toNatClampNeg]? = some (.long (own4 t1 x0 x1 x2 x3)) := Ha18.at hin18 (own_get4 r_t1 _ _ _ _ _)
    refine own_go (B := T16.setTop (mkF m 34 #[.val (.ref a1), .val (.ref b3), .val (.int (1 : Int32))] [(.int (lcmpW (own4 t1 x0 x1 x2 x3) (0 : Int64))), (.int (1 : Int32)), (.ref b3)])) (fun t k => ?_) ?_
    · show Steps p.tables e below (T16.setTop (mkF m 31 #[.val (.ref a1), .val (.ref b3), .val (.int (1 : Int32))] [(.int t1), (.ref av), (.int (1 : Int32)), (.ref b3)])) _
      refine X16.laload hx (j := t1) (v := (.long (own4 t1 x0 x1 x2 x3))) (by rw [e16]; exact Ar18.1) (State.isArrayOf_alike hZ.alike Ar18.2.1) Ar18.2.2 hin18 hat18 (g := (mkF m 31 #[.val (.ref a1), .val (.ref b3), .val (.int (1 : Int32))] [(.int t1), (.ref av), (.int (1 : Int32)), (.ref b3)])) rfl rfl (hb hby d6_31) _ ?_
      show Steps p.tables e below (T16.setTop (mkF m 32 #[.val (.ref a1), .val (.ref b3), .val (.int (1 : Int32))] [(.long (own4 t1 x0 x1 x2 x3)), (.int (1 : Int32)), (.ref b3)])) _
      refine XS.lconst X16.here hx rfl (hb hby d6_32) ?_
      show Steps p.tables e below (T16.setTop (mkF m 33 #[.val (.ref a1), .val (.ref b3), .val (.int (1 : Int32))] [(.long (0 : Int64)), (.long (own4 t1 x0 x1 x2 x3)), (.int (1 : Int32)), (.ref b3)])) _
      refine XS.lcmp X16.here hx rfl (hb hby d6_33) rfl ?_
      show Steps p.tables e below (T16.setTop (mkF m 34 #[.val (.ref a1), .val (.ref b3), .val (.int (1 : Int32))] [(.int (lcmpW (own4 t1 x0 x1 x2 x3) (0 : Int64))), (.int (1 : Int32)), (.ref b3)])) _
      exact k
    have J42 : ∀ (TJ : State) (LJ : List Loc) (XJ : Stand p l e ({ frames := 0, cells := 1, slots := 3, locals := 0 } : Room) s m #[(.ref a1)] below meth c TJ LJ 1 3) (NJ : Fr n0 LJ) (eJ : TJ.heap = h12) (z1 : Int32), (z1 = own_nz (own4 t1 x0 x1 x2 x3)) → own_Gd p.tables e below (own_P (Q_rm6 Z x0 x1 x2 x3 t0 t1 t2 h0 n0) s ({ frames := 0, cells := 1, slots := 3, locals := 0 } : Room).cells ({ frames := 0, cells := 1, slots := 3, locals := 0 } : Room).slots) (TJ.setTop (mkF m 42 #[.val (.ref a1), .val (.ref b3), .val (.int (1 : Int32))] [(.int z1), (.int (1 : Int32)), (.ref b3)])) := by
      intro T19 L19 X19 N19 e19 z1 hz1
      obtain ⟨cl20, Ar20, qa20, Sa20, Na20, Ha20, Ga20⟩ := id V_b3
      have hin20 : ¬ ((1 : Int32) < 0 ∨ cl20.slots.size ≤ ((1 : Int32)).toNatClampNeg) := inb_of Sa20 ⟨by decide, by decide⟩
      obtain ⟨T21, h21, X21, e21, W21, st21⟩ := stZ X19 hx hZ e19 Ar20 (j := (1 : Int32)) hin20 (g := (mkF m 42 #[.val (.ref a1), .val (.ref b3), .val (.int (1 : Int32))] [(.int z1), (.int (1 : Int32)), (.ref b3)])) rfl rfl (hb hby d6_42)
      have F_values_a1 := F_values_a1.other W21 (Or.inl ne_a1_b3)
      have F_timerOutputs_a1 := F_timerOutputs_a1.other W21 (Or.inl ne_a1_b3)
      have V_av := V_av.other W21 ne_av_b3
      have V_at_ := V_at_.other W21 ne_at__b3
      have Z0 := Nat.le_trans Z0 (Nat.le_of_eq W21.size.symm)
      have V_b3 : Arv Z h21 b3 k3 .boolean (3 : Int32) [(.int (nar .boolean z0)), (.int (nar .boolean z1)), (.int (0 : Int32))] (.int (0 : Int32)) := Arv.set Ar20 qa20 Sa20 Na20 Ha20 Ga20 (fits_nar_bool _) W21 1 rfl (Nat.le_of_ble_eq_true rfl)
      have K := K.wr W21 (Or.inr sz_b3)
      have N21 := Fr.snoc X21 N19 g_b3
      refine own_go (B := T21.setTop (mkF m 43 #[.val (.ref a1), .val (.ref b3), .val (.int (1 : Int32))] [])) st21 ?_
      refine own_go (B := T21.setTop (mkF m 12 #[.val (.ref a1), .val (.ref b3), .val (.int (2 : Int32))] [(.ref a1), (.int (2 : Int32))])) (fun t k => ?_) ?_
      · show Steps p.tables e below (T21.setTop (mkF m 43 #[.val (.ref a1), .val (.ref b3), .val (.int (1 : Int32))] [])) _
        refine XS.iinc X21.here hx rfl (hb hby d6_43) rfl (l' := #[.val (.ref a1), .val (.ref b3), .val (.int (2 : Int32))]) rfl ?_
        show Steps p.tables e below (T21.setTop (mkF m 46 #[.val (.ref a1), .val (.ref b3), .val (.int (2 : Int32))] [])) _
        refine XS.goto X21.here hx rfl (pc0 := 46) (pc' := 10) rfl (hb hby d6_46) (by decide) (by decide) ?_
        show Steps p.tables e below (T21.setTop (mkF m 10 #[.val (.ref a1), .val (.ref b3), .val (.int (2 : Int32))] [])) _
        refine XS.iloadN X21.here hx rfl (hb hby d6_10) rfl ?_
        show Steps p.tables e below (T21.setTop (mkF m 11 #[.val (.ref a1), .val (.ref b3), .val (.int (2 : Int32))] [(.int (2 : Int32))])) _
        refine XS.aloadN X21.here hx rfl (hb hby d6_11) rfl rfl ?_
        show Steps p.tables e below (T21.setTop (mkF m 12 #[.val (.ref a1), .val (.ref b3), .val (.int (2 : Int32))] [(.ref a1), (.int (2 : Int32))])) _
        exact k
      obtain ⟨T22, X22, e22, st22⟩ := getF X21 hx hZ hown (host := "") (Or.inl (hw _ (List.mem_of_getElem? (i := 51) rfl))) Via.refl e21 F_timerOutputs_a1 (g := (mkF m 12 #[.val (.ref a1), .val (.ref b3), .val (.int (2 : Int32))] [(.ref a1), (.int (2 : Int32))])) rfl rfl (hb hby d6_12)
      refine own_go (B := T22.setTop (mkF m 15 #[.val (.ref a1), .val (.ref b3), .val (.int (2 : Int32))] [(.ref at_), (.int (2 : Int32))])) st22 ?_
      obtain ⟨cl23, Ar23, qa23, Sa23, Na23, Ha23, Ga23⟩ := id V_at_
      refine own_go (B := T22.setTop (mkF m 22 #[.val (.ref a1), .val (.ref b3), .val (.int (2 : Int32))] [(.ref a1), (.int (2 : Int32)), (.ref b3)])) (fun t k => ?_) ?_
      · show Steps p.tables e below (T22.setTop (mkF m 15 #[.val (.ref a1), .val (.ref b3), .val (.int (2 : Int32))] [(.ref at_), (.int (2 : Int32))])) _
        refine X22.arraylength hx (by rw [e22]; exact Ar23.1) (State.isArrayOf_alike hZ.alike Ar23.2.1) (g := (mkF m 15 #[.val (.ref a1), .val (.ref b3), .val (.int (2 : Int32))] [(.ref at_), (.int (2 : Int32))])) rfl rfl (hb hby d6_15) _ ?_
        rw [len_of Sa23 Na23]
        show Steps p.tables e below (T22.setTop (mkF m 16 #[.val (.ref a1), .val (.ref b3), .val (.int (2 : Int32))] [(.int (3 : Int32)), (.int (2 : Int32))])) _
        refine XS.icmpNo X22.here hx rfl (hb hby d6_16) rfl (tlt (by decide : (2 : Int32) < (3 : Int32))).2.1 ?_
        show Steps p.tables e below (T22.setTop (mkF m 19 #[.val (.ref a1), .val (.ref b3), .val (.int (2 : Int32))] [])) _
        refine XS.aloadN X22.here hx rfl (hb hby d6_19) rfl rfl ?_
        show Steps p.tables e below (T22.setTop (mkF m 20 #[.val (.ref a1), .val (.ref b3), .val (.int (2 : Int32))] [(.ref b3)])) _
        refine XS.iloadN X22.here hx rfl (hb hby d6_20) rfl ?_
        show Steps p.tables e below (T22.setTop (mkF m 21 #[.val (.ref a1), .val (.ref b3), .val (.int (2 : Int32))] [(.int (2 : Int32)), (.ref b3)])) _
        refine XS.aloadN X22.here hx rfl (hb hby d6_21) rfl rfl ?_
        show Steps p.tables e below (T22.setTop (mkF m 22 #[.val (.ref a1), .val (.ref b3), .val (.int (2 : Int32))] [(.ref a1), (.int (2 : Int32)), (.ref b3)])) _
        exact k
      obtain ⟨T24, X24, e24, st24⟩ := getF X22 hx hZ hown (host := "") (Or.inl (hw _ (List.mem_of_getElem? (i := 45) rfl))) Via.refl e22 F_values_a1 (g := (mkF m 22 #[.val (.ref a1), .val (.ref b3), .val (.int (2 : Int32))] [(.ref a1), (.int (2 : Int32)), (.ref b3)])) rfl rfl (hb hby d6_22)
      refine own_go (B := T24.setTop (mkF m 25 #[.val (.ref a1), .val (.ref b3), .val (.int (2 : Int32))] [(.ref av), (.int (2 : Int32)), (.ref b3)])) st24 ?_
      refine own_go (B := T24.setTop (mkF m 26 #[.val (.ref a1), .val (.ref b3), .val (.int (2 : Int32))] [(.ref a1), (.ref av), (.int (2 : Int32)), (.ref b3)])) (fun t k => ?_) ?_
      · show Steps p.tables e below (T24.setTop (mkF m 25 #[.val (.ref a1), .val (.ref b3), .val (.int (2 : Int32))] [(.ref av), (.int (2 : Int32)), (.ref b3)])) _
        refine XS.aloadN X24.here hx rfl (hb hby d6_25) rfl rfl ?_
        show Steps p.tables e below (T24.setTop (mkF m 26 #[.val (.ref a1), .val (.ref b3), .val (.int (2 : Int32))] [(.ref a1), (.ref av), (.int (2 : Int32)), (.ref b3)])) _
        exact k
      obtain ⟨T25, X25, e25, st25⟩ := getF X24 hx hZ hown (host := "") (Or.inl (hw _ (List.mem_of_getElem? (i := 51) rfl))) Via.refl e24 F_timerOutputs_a1 (g := (mkF m 26 #[.val (.ref a1), .val (.ref b3), .val (.int (2 : Int32))] [(.ref a1), (.ref av), (.int (2 : Int32)), (.ref b3)])) rfl rfl (hb hby d6_26)
      refine own_go (B := T25.setTop (mkF m 29 #[.val (.ref a1), .val (.ref b3), .val (.int (2 : Int32))] [(.ref at_), (.ref av), (.int (2 : Int32)), (.ref b3)])) st25 ?_
      refine own_go (B := T25.setTop (mkF m 30 #[.val (.ref a1), .val (.ref b3), .val (.int (2 : Int32))] [(.int (2 : Int32)), (.ref at_), (.ref av), (.int (2 : Int32)), (.ref b3)])) (fun t k => ?_) ?_
      · show Steps p.tables e below (T25.setTop (mkF m 29 #[.val (.ref a1), .val (.ref b3), .val (.int (2 : Int32))] [(.ref at_), (.ref av), (.int (2 : Int32)), (.ref b3)])) _
        refine XS.iloadN X25.here hx rfl (hb hby d6_29) rfl ?_
        show Steps p.tables e below (T25.setTop (mkF m 30 #[.val (.ref a1), .val (.ref b3), .val (.int (2 : Int32))] [(.int (2 : Int32)), (.ref at_), (.ref av), (.int (2 : Int32)), (.ref b3)])) _
        exact k
      obtain ⟨cl26, Ar26, qa26, Sa26, Na26, Ha26, Ga26⟩ := id V_at_
      have hin26 : ¬ ((2 : Int32) < 0 ∨ cl26.slots.size ≤ ((2 : Int32)).toNatClampNeg) := inb_of Sa26 ⟨by decide, by decide⟩
      have hat26 : cl26.slots[((2 : Int32)).toNatClampNeg]? = some (.int t2) := Ha26.at hin26 rfl
      refine own_go (B := T25.setTop (mkF m 31 #[.val (.ref a1), .val (.ref b3), .val (.int (2 : Int32))] [(.int t2), (.ref av), (.int (2 : Int32)), (.ref b3)])) (fun t k => ?_) ?_
      · show Steps p.tables e below (T25.setTop (mkF m 30 #[.val (.ref a1), .val (.ref b3), .val (.int (2 : Int32))] [(.int (2 : Int32)), (.ref at_), (.ref av), (.int (2 : Int32)), (.ref b3)])) _
        refine X25.iaload hx (j := (2 : Int32)) (v := (.int t2)) (by rw [e25]; exact Ar26.1) (State.isArrayOf_alike hZ.alike Ar26.2.1) Ar26.2.2 hin26 hat26 (g := (mkF m 30 #[.val (.ref a1), .val (.ref b3), .val (.int (2 : Int32))] [(.int (2 : Int32)), (.ref at_), (.ref av), (.int (2 : Int32)), (.ref b3)])) rfl rfl (hb hby d6_30) _ ?_
        show Steps p.tables e below (T25.setTop (mkF m 31 #[.val (.ref a1), .val (.ref b3), .val (.int (2 : Int32))] [(.int t2), (.ref av), (.int (2 : Int32)), (.ref b3)])) _
        exact k
      obtain ⟨cl27, Ar27, qa27, Sa27, Na27, Ha27, Ga27⟩ := id V_av
      have hin27 : ¬ (t2 < 0 ∨ cl27.slots.size ≤ (t2).toNatClampNeg) := inb_of Sa27 (own_in4 r_t2)
      have hat27 : cl27.slots[(t2).toNatClampNeg]? = some (.long (own4 t2 x0 x1 x2 x3)) := Ha27.at hin27 (own_get4 r_t2 _ _ _ _ _)
      refine own_go (B := T25.setTop (mkF m 34 #[.val (.ref a1), .val (.ref b3), .val (.int (2 : Int32))] [(.int (lcmpW (own4 t2 x0 x1 x2 x3) (0 : Int64))), (.int (2 : Int32)), (.ref b3)])) (fun t k => ?_) ?_
      · show Steps p.tables e below (T25.setTop (mkF m 31 #[.val (.ref a1), .val (.ref b3), .val (.int (2 : Int32))] [(.int t2), (.ref av), (.int (2 : Int32)), (.ref b3)])) _
        refine X25.laload hx (j := t2) (v := (.long (own4 t2 x0 x1 x2 x3))) (by rw [e25]; exact Ar27.1) (State.isArrayOf_alike hZ.alike Ar27.2.1) Ar27.2.2 hin27 hat27 (g := (mkF m 31 #[.val (.ref a1), .val (.ref b3), .val (.int (2 : Int32))] [(.int t2), (.ref av), (.int (2 : Int32)), (.ref b3)])) rfl rfl (hb hby d6_31) _ ?_
        show Steps p.tables e below (T25.setTop (mkF m 32 #[.val (.ref a1), .val (.ref b3), .val (.int (2 : Int32))] [(.long (own4 t2 x0 x1 x2 x3)), (.int (2 : Int32)), (.ref b3)])) _
        refine XS.lconst X25.here hx rfl (hb hby d6_32) ?_
        show Steps p.tables e below (T25.setTop (mkF m 33 #[.val (.ref a1), .val (.ref b3), .val (.int (2 : Int32))] [(.long (0 : Int64)), (.long (own4 t2 x0 x1 x2 x3)), (.int (2 : Int32)), (.ref b3)])) _
        refine XS.lcmp X25.here hx rfl (hb hby d6_33) rfl ?_
        show Steps p.tables e below (T25.setTop (mkF m 34 #[.val (.ref a1), .val (.ref b3), .val (.int (2 : Int32))] [(.int (lcmpW (own4 t2 x0 x1 x2 x3) (0 : Int64))), (.int (2 : Int32)), (.ref b3)])) _
        exact k
      have J42 : ∀ (TJ : State) (LJ : List Loc) (XJ : Stand p l e ({ frames := 0, cells := 1, slots := 3, locals := 0 } : Room) s m #[(.ref a1)] below meth c TJ LJ 1 3) (NJ : Fr n0 LJ) (eJ : TJ.heap = h21) (z2 : Int32), (z2 = own_nz (own4 t2 x0 x1 x2 x3)) → own_Gd p.tables e below (own_P (Q_rm6 Z x0 x1 x2 x3 t0 t1 t2 h0 n0) s ({ frames := 0, cells := 1, slots := 3, locals := 0 } : Room).cells ({ frames := 0, cells := 1, slots := 3, locals := 0 } : Room).slots) (TJ.setTop (mkF m 42 #[.val (.ref a1), .val (.ref b3), .val (.int (2 : Int32))] [(.int z2), (.int (2 : Int32)), (.ref b3)])) := by
        intro T28 L28 X28 N28 e28 z2 hz2
        obtain ⟨cl29, Ar29, qa29, Sa29, Na29, Ha29, Ga29⟩ := id V_b3
        have hin29 : ¬ ((2 : Int32) < 0 ∨ cl29.slots.size ≤ ((2 : Int32)).toNatClampNeg) := inb_of Sa29 ⟨by decide, by decide⟩
        obtain ⟨T30, h30, X30, e30, W30, st30⟩ := stZ X28 hx hZ e28 Ar29 (j := (2 : Int32)) hin29 (g := (mkF m 42 #[.val (.ref a1), .val (.ref b3), .val (.int (2 : Int32))] [(.int z2), (.int (2 : Int32)), (.ref b3)])) rfl rfl (hb hby d6_42)
        have F_values_a1 := F_values_a1.other W30 (Or.inl ne_a1_b3)
        have F_timerOutputs_a1 := F_timerOutputs_a1.other W30 (Or.inl ne_a1_b3)
        have V_av := V_av.other W30 ne_av_b3
        have V_at_ := V_at_.other W30 ne_at__b3
        have Z0 := Nat.le_trans Z0 (Nat.le_of_eq W30.size.symm)
        have V_b3 : Arv Z h30 b3 k3 .boolean (3 : Int32) [(.int (nar .boolean z0)), (.int (nar .boolean z1)), (.int (nar .boolean z2))] (.int (0 : Int32)) := Arv.set Ar29 qa29 Sa29 Na29 Ha29 Ga29 (fits_nar_bool _) W30 2 rfl (Nat.le_of_ble_eq_true rfl)
        have K := K.wr W30 (Or.inr sz_b3)
        have N30 := Fr.snoc X30 N28 g_b3
        refine own_go (B := T30.setTop (mkF m 43 #[.val (.ref a1), .val (.ref b3), .val (.int (2 : Int32))] [])) st30 ?_
        refine own_go (B := T30.setTop (mkF m 12 #[.val (.ref a1), .val (.ref b3), .val (.int (3 : Int32))] [(.ref a1), (.int (3 : Int32))])) (fun t k => ?_) ?_
        · show Steps p.tables e below (T30.setTop (mkF m 43 #[.val (.ref a1), .val (.ref b3), .val (.int (2 : Int32))] [])) _
          refine XS.iinc X30.here hx rfl (hb hby d6_43) rfl (l' := #[.val (.ref a1), .val (.ref b3), .val (.int (3 : Int32))]) rfl ?_
          show Steps p.tables e below (T30.setTop (mkF m 46 #[.val (.ref a1), .val (.ref b3), .val (.int (3 : Int32))] [])) _
          refine XS.goto X30.here hx rfl (pc0 := 46) (pc' := 10) rfl (hb hby d6_46) (by decide) (by decide) ?_
          show Steps p.tables e below (T30.setTop (mkF m 10 #[.val (.ref a1), .val (.ref b3), .val (.int (3 : Int32))] [])) _
          refine XS.iloadN X30.here hx rfl (hb hby d6_10) rfl ?_
          show Steps p.tables e below (T30.setTop (mkF m 11 #[.val (.ref a1), .val (.ref b3), .val (.int (3 : Int32))] [(.int (3 : Int32))])) _
          refine XS.aloadN X30.here hx rfl (hb hby d6_11) rfl rfl ?_
          show Steps p.tables e below (T30.setTop (mkF m 12 #[.val (.ref a1), .val (.ref b3), .val (.int (3 : Int32))] [(.ref a1), (.int (3 : Int32))])) _
          exact k
        obtain ⟨T31, X31, e31, st31⟩ := getF X30 hx hZ hown (host := "") (Or.inl (hw _ (List.mem_of_getElem? (i := 51) rfl))) Via.refl e30 F_timerOutputs_a1 (g := (mkF m 12 #[.val (.ref a1), .val (.ref b3), .val (.int (3 : Int32))] [(.ref a1), (.int (3 : Int32))])) rfl rfl (hb hby d6_12)
        refine own_go (B := T31.setTop (mkF m 15 #[.val (.ref a1), .val (.ref b3), .val (.int (3 : Int32))] [(.ref at_), (.int (3 : Int32))])) st31 ?_
        obtain ⟨cl32, Ar32, qa32, Sa32, Na32, Ha32, Ga32⟩ := id V_at_
        refine own_go (B := T31.setTop (mkF m 50 #[.val (.ref a1), .val (.ref b3), .val (.int (3 : Int32))] [(.ref b3)])) (fun t k => ?_) ?_
        · show Steps p.tables e below (T31.setTop (mkF m 15 #[.val (.ref a1), .val (.ref b3), .val (.int (3 : Int32))] [(.ref at_), (.int (3 : Int32))])) _
          refine X31.arraylength hx (by rw [e31]; exact Ar32.1) (State.isArrayOf_alike hZ.alike Ar32.2.1) (g := (mkF m 15 #[.val (.ref a1), .val (.ref b3), .val (.int (3 : Int32))] [(.ref at_), (.int (3 : Int32))])) rfl rfl (hb hby d6_15) _ ?_
          rw [len_of Sa32 Na32]
          show Steps p.tables e below (T31.setTop (mkF m 16 #[.val (.ref a1), .val (.ref b3), .val (.int (3 : Int32))] [(.int (3 : Int32)), (.int (3 : Int32))])) _
          refine XS.icmpYes X31.here hx rfl (pc0 := 16) (pc' := 49) rfl (hb hby d6_16) rfl (flt (by decide : ¬ ((3 : Int32) < (3 : Int32)))).2.1 (by decide) (by decide) ?_
          show Steps p.tables e below (T31.setTop (mkF m 49 #[.val (.ref a1), .val (.ref b3), .val (.int (3 : Int32))] [])) _
          refine XS.aloadN X31.here hx rfl (hb hby d6_49) rfl rfl ?_
          show Steps p.tables e below (T31.setTop (mkF m 50 #[.val (.ref a1), .val (.ref b3), .val (.int (3 : Int32))] [(.ref b3)])) _
          exact k
        obtain ⟨fs, hr, hrun, hended, hW, hsame⟩ := X31.leave (v := some (.ref b3)) (fun h => by rw [Bd.returns] at h; cases h)
        refine own_done (retOut X31 hx Bd.returns rfl (Or.inr (Or.inr (Or.inr (Or.inr ⟨rfl, rfl, rfl⟩)))) (hb hby d6_50) hr) hrun hended ⟨_, _, rfl, ?_, ⟨_, rfl⟩, hW, hsame.mono (by decide) (by decide)⟩
        show Q_rm6 Z x0 x1 x2 x3 t0 t1 t2 h0 n0 (some (.ref b3)) T31.heap _
        rw [e31]
        subst hz0
        subst hz1
        subst hz2
        simp only [own_narz] at V_b3
        exact ⟨b3, k3, rfl, N30, K, sz_b3, V_b3⟩
      by_cases hc34 : (lcmpW (own4 t2 x0 x1 x2 x3) (0 : Int64)) = (0 : Int32)
      · refine own_go (B := T25.setTop (mkF m 42 #[.val (.ref a1), .val (.ref b3), .val (.int (2 : Int32))] [(.int (0 : Int32)), (.int (2 : Int32)), (.ref b3)])) (fun t k => ?_) ?_
        · show Steps p.tables e below (T25.setTop (mkF m 34 #[.val (.ref a1), .val (.ref b3), .val (.int (2 : Int32))] [(.int (lcmpW (own4 t2 x0 x1 x2 x3) (0 : Int64))), (.int (2 : Int32)), (.ref b3)])) _
          refine XS.ifYes X25.here hx rfl (pc0 := 34) (pc' := 41) rfl (hb hby d6_34) rfl ((if0 _ _).trans (teq hc34).1) (by decide) (by decide) ?_
          show Steps p.tables e below (T25.setTop (mkF m 41 #[.val (.ref a1), .val (.ref b3), .val (.int (2 : Int32))] [(.int (2 : Int32)), (.ref b3)])) _
          refine XS.iconst X25.here hx rfl (hb hby d6_41) ?_
          show Steps p.tables e below (T25.setTop (mkF m 42 #[.val (.ref a1), .val (.ref b3), .val (.int (2 : Int32))] [(.int (0 : Int32)), (.int (2 : Int32)), (.ref b3)])) _
          exact k
        exact J42 _ _ X25 N21 e25 (0 : Int32) (by unfold own_nz; rw [if_pos ((lw_eq _ _).mp hc34)])
      · refine own_go (B := T25.setTop (mkF m 42 #[.val (.ref a1), .val (.ref b3), .val (.int (2 : Int32))] [(.int (1 : Int32)), (.int (2 : Int32)), (.ref b3)])) (fun t k => ?_) ?_
        · show Steps p.tables e below (T25.setTop (mkF m 34 #[.val (.ref a1), .val (.ref b3), .val (.int (2 : Int32))] [(.int (lcmpW (own4 t2 x0 x1 x2 x3) (0 : Int64))), (.int (2 : Int32)), (.ref b3)])) _
          refine XS.ifNo X25.here hx rfl (hb hby d6_34) rfl ((if0 _ _).trans (feq hc34).1) ?_
          show Steps p.tables e below (T25.setTop (mkF m 37 #[.val (.ref a1), .val (.ref b3), .val (.int (2 : Int32))] [(.int (2 : Int32)), (.ref b3)])) _
          refine XS.iconst X25.here hx rfl (hb hby d6_37) ?_
          show Steps p.tables e below (T25.setTop (mkF m 38 #[.val (.ref a1), .val (.ref b3), .val (.int (2 : Int32))] [(.int (1 : Int32)), (.int (2 : Int32)), (.ref b3)])) _
          refine XS.goto X25.here hx rfl (pc0 := 38) (pc' := 42) rfl (hb hby d6_38) (by decide) (by decide) ?_
          show Steps p.tables e below (T25.setTop (mkF m 42 #[.val (.ref a1), .val (.ref b3), .val (.int (2 : Int32))] [(.int (1 : Int32)), (.int (2 : Int32)), (.ref b3)])) _
          exact k
        exact J42 _ _ X25 N21 e25 (1 : Int32) (by unfold own_nz; rw [if_neg (fun q => hc34 ((lw_eq _ _).mpr q))])
    by_cases hc34 : (lcmpW (own4 t1 x0 x1 x2 x3) (0 : Int64)) = (0 : Int32)
    · refine own_go (B := T16.setTop (mkF m 42 #[.val (.ref a1), .val (.ref b3), .val (.int (1 : Int32))] [(.int (0 : Int32)), (.int (1 : Int32)), (.ref b3)])) (fun t k => ?_) ?_
      · show Steps p.tables e below (T16.setTop (mkF m 34 #[.val (.ref a1), .val (.ref b3), .val (.int (1 : Int32))] [(.int (lcmpW (own4 t1 x0 x1 x2 x3) (0 : Int64))), (.int (1 : Int32)), (.ref b3)])) _
        refine XS.ifYes X16.here hx rfl (pc0 := 34) (pc' := 41) rfl (hb hby d6_34) rfl ((if0 _ _).trans (teq hc34).1) (by decide) (by decide) ?_
        show Steps p.tables e below (T16.setTop (mkF m 41 #[.val (.ref a1), .val (.ref b3), .val (.int (1 : Int32))] [(.int (1 : Int32)), (.ref b3)])) _
        refine XS.iconst X16.here hx rfl (hb hby d6_41) ?_
        show Steps p.tables e below (T16.setTop (mkF m 42 #[.val (.ref a1), .val (.ref b3), .val (.int (1 : Int32))] [(.int (0 : Int32)), (.int (1 : Int32)), (.ref b3)])) _
        exact k
      exact J42 _ _ X16 N12 e16 (0 : Int32) (by unfold own_nz; rw [if_pos ((lw_eq _ _).mp hc34)])
    · refine own_go (B := T16.setTop (mkF m 42 #[.val (.ref a1), .val (.ref b3), .val (.int (1 : Int32))] [(.int (1 : Int32)), (.int (1 : Int32)), (.ref b3)])) (fun t k => ?_) ?_
      · show Steps p.tables e below (T16.setTop (mkF m 34 #[.val (.ref a1), .val (.ref b3), .val (.int (1 : Int32))] [(.int (lcmpW (own4 t1 x0 x1 x2 x3) (0 : Int64))), (.int (1 : Int32)), (.ref b3)])) _
        refine XS.ifNo X16.here hx rfl (hb hby d6_34) rfl ((if0 _ _).trans (feq hc34).1) ?_
        show Steps p.tables e below (T16.setTop (mkF m 37 #[.val (.ref a1), .val (.ref b3), .val (.int (1 : Int32))] [(.int (1 : Int32)), (.ref b3)])) _
        refine XS.iconst X16.here hx rfl (hb hby d6_37) ?_
        show Steps p.tables e below (T16.setTop (mkF m 38 #[.val (.ref a1), .val (.ref b3), .val (.int (1 : Int32))] [(.int (1 : Int32)), (.int (1 : Int32)), (.ref b3)])) _
        refine XS.goto X16.here hx rfl (pc0 := 38) (pc' := 42) rfl (hb hby d6_38) (by decide) (by decide) ?_
        show Steps p.tables e below (T16.setTop (mkF m 42 #[.val (.ref a1), .val (.ref b3), .val (.int (1 : Int32))] [(.int (1 : Int32)), (.int (1 : Int32)), (.ref b3)])) _
        exact k
      exact J42 _ _ X16 N12 e16 (1 : Int32) (by unfold own_nz; rw [if_neg (fun q => hc34 ((lw_eq _ _).mpr q))])
  by_cases hc34 : (lcmpW (own4 t0 x0 x1 x2 x3) (0 : Int64)) = (0 : Int32)
  · refine own_go (B := T7.setTop (mkF m 42 #[.val (.ref a1), .val (.ref b3), .val (.int (0 : Int32))] [(.int (0 : Int32)), (.int (0 : Int32)), (.ref b3)])) (fun t k => ?_) ?_
    · show Steps p.tables e below (T7.setTop (mkF m 34 #[.val (.ref a1), .val (.ref b3), .val (.int (0 : Int32))] [(.int (lcmpW (own4 t0 x0 x1 x2 x3) (0 : Int64))), (.int (0 : Int32)), (.ref b3)])) _
      refine XS.ifYes X7.here hx rfl (pc0 := 34) (pc' := 41) rfl (hb hby d6_34) rfl ((if0 _ _).trans (teq hc34).1) (by decide) (by decide) ?_
      show Steps p.tables e below (T7.setTop (mkF m 41 #[.val (.ref a1), .val (.ref b3), .val (.int (0 : Int32))] [(.int (0 : Int32)), (.ref b3)])) _
      refine XS.iconst X7.here hx rfl (hb hby d6_41) ?_
      show Steps p.tables e below (T7.setTop (mkF m 42 #[.val (.ref a1), .val (.ref b3), .val (.int (0 : Int32))] [(.int (0 : Int32)), (.int (0 : Int32)), (.ref b3)])) _
      exact k
    exact J42 _ _ X7 N0 e7 (0 : Int32) (by unfold own_nz; rw [if_pos ((lw_eq _ _).mp hc34)])
  · refine own_go (B := T7.setTop (mkF m 42 #[.val (.ref a1), .val (.ref b3), .val (.int (0 : Int32))] [(.int (1 : Int32)), (.int (0 : Int32)), (.ref b3)])) (fun t k => ?_) ?_
    · show Steps p.tables e below (T7.setTop (mkF m 34 #[.val (.ref a1), .val (.ref b3), .val (.int (0 : Int32))] [(.int (lcmpW (own4 t0 x0 x1 x2 x3) (0 : Int64))), (.int (0 : Int32)), (.ref b3)])) _
      refine XS.ifNo X7.here hx rfl (hb hby d6_34) rfl ((if0 _ _).trans (feq hc34).1) ?_
      show Steps p.tables e below (T7.setTop (mkF m 37 #[.val (.ref a1), .val (.ref b3), .val (.int (0 : Int32))] [(.int (0 : Int32)), (.ref b3)])) _
      refine XS.iconst X7.here hx rfl (hb hby d6_37) ?_
      show Steps p.tables e below (T7.setTop (mkF m 38 #[.val (.ref a1), .val (.ref b3), .val (.int (0 : Int32))] [(.int (1 : Int32)), (.int (0 : Int32)), (.ref b3)])) _
      refine XS.goto X7.here hx rfl (pc0 := 38) (pc' := 42) rfl (hb hby d6_38) (by decide) (by decide) ?_
      show Steps p.tables e below (T7.setTop (mkF m 42 #[.val (.ref a1), .val (.ref b3), .val (.int (0 : Int32))] [(.int (1 : Int32)), (.int (0 : Int32)), (.ref b3)])) _
      exact k
    exact J42 _ _ X7 N0 e7 (1 : Int32) (by unfold own_nz; rw [if_neg (fun q => hc34 ((lw_eq _ _).mpr q))])
def Q_rm7 (Z : State) (x0 x1 x2 x3 : Int64) (tz cz pz fz : Int32) (h0 : Heap) (n0 : Nat) (v : Option Value) (h : Heap) (L : List Loc) : Prop := v = some (.int (own_exp cz tz pz fz x0 x1 x2 x3)) ∧ Fr n0 L ∧ h = h0
theorem d7_0 : decode method_2_code 0 = .ok (.iload_n 2, 1) := by decide +kernel
theorem d7_1 : decode method_2_code 1 = .ok (.ifCond .eq 11, 3) := by decide +kernel
theorem d7_4 : decode method_2_code 4 = .ok (.iload_n 1, 1) := by decide +kernel
theorem d7_5 : decode method_2_code 5 = .ok (.iload_n 3, 1) := by decide +kernel
theorem d7_6 : decode method_2_code 6 = .ok (.if_icmp .ne 6, 3) := by decide +kernel
theorem d7_9 : decode method_2_code 9 = .ok (.iload 4, 2) := by decide +kernel
theorem d7_11 : decode method_2_code 11 = .ok (.ireturn, 1) := by decide +kernel
theorem d7_12 : decode method_2_code 12 = .ok (.aload_n 0, 1) := by decide +kernel
theorem d7_13 : decode method_2_code 13 = .ok (.iload_n 1, 1) := by decide +kernel
theorem d7_14 : decode method_2_code 14 = .ok (.laload, 1) := by decide +kernel
theorem d7_15 : decode method_2_code 15 = .ok (.lconst 0, 1) := by decide +kernel
theorem d7_16 : decode method_2_code 16 = .ok (.lcmp, 1) := by decide +kernel
theorem d7_17 : decode method_2_code 17 = .ok (.ifCond .eq 7, 3) := by decide +kernel
theorem d7_20 : decode method_2_code 20 = .ok (.iconst 1, 1) := by decide +kernel
theorem d7_21 : decode method_2_code 21 = .ok (.goto 4, 3) := by decide +kernel
theorem d7_24 : decode method_2_code 24 = .ok (.iconst 0, 1) := by decide +kernel
theorem d7_25 : decode method_2_code 25 = .ok (.ireturn, 1) := by decide +kernel
theorem ef_rm7 (m : MethodId) (x0 : Addr) (x1 : Int32) (x2 : Int32) (x3 : Int32) (x4 : Int32) : entryFrame m #[(.ref x0), (.int x1), (.int x2), (.int x3), (.int x4)] 5 = mkF m 0 #[.val (.ref x0), .val (.int x1), .val (.int x2), .val (.int x3), .val (.int x4)] [] := by first | (simp [entryFrame, mkF, argsToLocals, Value.category, maxLocals]; done) | rfl
set_option maxRecDepth 65536 in
set_option maxHeartbeats 40000000 in
theorem rm7 (l : Launch) (Z : State) (a0 : Array Value) (hw : ∀ d ∈ tables_1, d.before a0 Z = true) (ws : List Jvm.Cond) (av : Addr) (kv : ClassId) (x0 x1 x2 x3 : Int64) (tz cz pz fz : Int32) (h0 : Heap) (n0 : Nat) (Z0 : n0 ≤ h0.size) (V_av : Arv Z h0 av kv .long (4 : Int32) [(.long x0), (.long x1), (.long x2), (.long x3)] (.long (0 : Int64))) (r_t : 0 ≤ tz.toInt ∧ tz.toInt < 4) :
    MetFree l (⟨"com/example/controller_synthesis/controllersynthesis/output/FunctionBlockTimerOutputsPinLaw", "expected", "([JIZIZ)Z"⟩ : MethodName) (head1 (Jvm.Cond.code (⟨"com/example/controller_synthesis/controllersynthesis/output/FunctionBlockTimerOutputsPinLaw", "expected", "([JIZIZ)Z"⟩ : MethodName) method_2_code 5 (some .boolean) :: ws) ({ frames := 0, cells := 0, slots := 0, locals := 0 } : Room)) (fun a U => a = #[(.ref av), (.int tz), (.int cz), (.int pz), (.int fz)] ∧ Z.Warmed39 U.vm ∧ U.heap = h0) (fun _ _ _ _ _ => True) (fun _ U o U' => ∃ v L, o = .returned v ∧ Q_rm7 Z x0 x1 x2 x3 tz cz pz fz h0 n0 v U'.heap L ∧ FrameEnd U o U' L ({ frames := 0, cells := 0, slots := 0, locals := 0 } : Room).cells ({ frames := 0, cells := 0, slots := 0, locals := 0 } : Room).slots) := by
  refine MetFree.of_bodySF (plainFor_of_name pn_7) hisR ?_
  intro p e s m args below meth c s₁ Bd hml0 hP hK
  obtain ⟨rfl, hZ, hh⟩ := hP
  have hx := Bd.exec
  have hby := Bd.bytes
  have hml : c.maxLocals = 5 := hml0
  have hown : s.vm.findClass "com/example/controller_synthesis/controllersynthesis/output/FunctionBlockTimerOutputsPinLaw" = some m.cls := findClass_of_methodNamed Bd.named
  have hnm := (name_of_methodNamed Bd.named Bd.method).1
  have X0 : Stand p l e ({ frames := 0, cells := 0, slots := 0, locals := 0 } : Room) s m #[(.ref av), (.int tz), (.int cz), (.int pz), (.int fz)] below meth c s₁ [] 0 0 := Stand.of_body Bd
  have e0 : s₁.heap = h0 := by rw [← hh, Bd.state]; rfl
  have N0 := Fr.nil n0
  have K : Keep h0 h0 [] := Keep.refl h0 []
  show own_Gd p.tables e below (own_P (Q_rm7 Z x0 x1 x2 x3 tz cz pz fz h0 n0) s ({ frames := 0, cells := 0, slots := 0, locals := 0 } : Room).cells ({ frames := 0, cells := 0, slots := 0, locals := 0 } : Room).slots) _
  refine own_go (B := s₁.setTop (mkF m 0 #[.val (.ref av), .val (.int tz), .val (.int cz), .val (.int pz), .val (.int fz)] [])) (fun t k => castTop (ef_rm7 m av tz cz pz fz) k) ?_
  refine own_go (B := s₁.setTop (mkF m 1 #[.val (.ref av), .val (.int tz), .val (.int cz), .val (.int pz), .val (.int fz)] [(.int cz)])) (fun t k => ?_) ?_
  · show Steps p.tables e below (s₁.setTop (mkF m 0 #[.val (.ref av), .val (.int tz), .val (.int cz), .val (.int pz), .val (.int fz)] [])) _
    refine XS.iloadN X0.here hx rfl (hb hby d7_0) rfl ?_
    show Steps p.tables e below (s₁.setTop (mkF m 1 #[.val (.ref av), .val (.int tz), .val (.int cz), .val (.int pz), .val (.int fz)] [(.int cz)])) _
    exact k
  by_cases hc1 : cz = (0 : Int32)
  · refine own_go (B := s₁.setTop (mkF m 14 #[.val (.ref av), .val (.int tz), .val (.int cz), .val (.int pz), .val (.int fz)] [(.int tz), (.ref av)])) (fun t k => ?_) ?_
    · show Steps p.tables e below (s₁.setTop (mkF m 1 #[.val (.ref av), .val (.int tz), .val (.int cz), .val (.int pz), .val (.int fz)] [(.int cz)])) _
      refine XS.ifYes X0.here hx rfl (pc0 := 1) (pc' := 12) rfl (hb hby d7_1) rfl ((if0 _ _).trans (teq hc1).1) (by decide) (by decide) ?_
      show Steps p.tables e below (s₁.setTop (mkF m 12 #[.val (.ref av), .val (.int tz), .val (.int cz), .val (.int pz), .val (.int fz)] [])) _
      refine XS.aloadN X0.here hx rfl (hb hby d7_12) rfl rfl ?_
      show Steps p.tables e below (s₁.setTop (mkF m 13 #[.val (.ref av), .val (.int tz), .val (.int cz), .val (.int pz), .val (.int fz)] [(.ref av)])) _
      refine XS.iloadN X0.here hx rfl (hb hby d7_13) rfl ?_
      show Steps p.tables e below (s₁.setTop (mkF m 14 #[.val (.ref av), .val (.int tz), .val (.int cz), .val (.int pz), .val (.int fz)] [(.int tz), (.ref av)])) _
      exact k
    obtain ⟨cl1, Ar1, qa1, Sa1, Na1, Ha1, Ga1⟩ := id V_av
    have hin1 : ¬ (tz < 0 ∨ cl1.slots.size ≤ (tz).toNatClampNeg) := inb_of Sa1 (own_in4 r_t)
    have hat1 : cl1.slots[(tz).toNatClampNeg]? = some (.long (own4 tz x0 x1 x2 x3)) := Ha1.at hin1 (own_get4 r_t _ _ _ _ _)
    refine own_go (B := s₁.setTop (mkF m 17 #[.val (.ref av), .val (.int tz), .val (.int cz), .val (.int pz), .val (.int fz)] [(.int (lcmpW (own4 tz x0 x1 x2 x3) (0 : Int64)))])) (fun t k => ?_) ?_
    · show Steps p.tables e below (s₁.setTop (mkF m 14 #[.val (.ref av), .val (.int tz), .val (.int cz), .val (.int pz), .val (.int fz)] [(.int tz), (.ref av)])) _
      refine X0.laload hx (j := tz) (v := (.long (own4 tz x0 x1 x2 x3))) (by rw [e0]; exact Ar1.1) (State.isArrayOf_alike hZ.alike Ar1.2.1) Ar1.2.2 hin1 hat1 (g := (mkF m 14 #[.val (.ref av), .val (.int tz), .val (.int cz), .val (.int pz), .val (.int fz)] [(.int tz), (.ref av)])) rfl rfl (hb hby d7_14) _ ?_
      show Steps p.tables e below (s₁.setTop (mkF m 15 #[.val (.ref av), .val (.int tz), .val (.int cz), .val (.int pz), .val (.int fz)] [(.long (own4 tz x0 x1 x2 x3))])) _
      refine XS.lconst X0.here hx rfl (hb hby d7_15) ?_
      show Steps p.tables e below (s₁.setTop (mkF m 16 #[.val (.ref av), .val (.int tz), .val (.int cz), .val (.int pz), .val (.int fz)] [(.long (0 : Int64)), (.long (own4 tz x0 x1 x2 x3))])) _
      refine XS.lcmp X0.here hx rfl (hb hby d7_16) rfl ?_
      show Steps p.tables e below (s₁.setTop (mkF m 17 #[.val (.ref av), .val (.int tz), .val (.int cz), .val (.int pz), .val (.int fz)] [(.int (lcmpW (own4 tz x0 x1 x2 x3) (0 : Int64)))])) _
      exact k
    by_cases hc17 : (lcmpW (own4 tz x0 x1 x2 x3) (0 : Int64)) = (0 : Int32)
    · refine own_go (B := s₁.setTop (mkF m 25 #[.val (.ref av), .val (.int tz), .val (.int cz), .val (.int pz), .val (.int fz)] [(.int (0 : Int32))])) (fun t k => ?_) ?_
      · show Steps p.tables e below (s₁.setTop (mkF m 17 #[.val (.ref av), .val (.int tz), .val (.int cz), .val (.int pz), .val (.int fz)] [(.int (lcmpW (own4 tz x0 x1 x2 x3) (0 : Int64)))])) _
        refine XS.ifYes X0.here hx rfl (pc0 := 17) (pc' := 24) rfl (hb hby d7_17) rfl ((if0 _ _).trans (teq hc17).1) (by decide) (by decide) ?_
        show Steps p.tables e below (s₁.setTop (mkF m 24 #[.val (.ref av), .val (.int tz), .val (.int cz), .val (.int pz), .val (.int fz)] [])) _
        refine XS.iconst X0.here hx rfl (hb hby d7_24) ?_
        show Steps p.tables e below (s₁.setTop (mkF m 25 #[.val (.ref av), .val (.int tz), .val (.int cz), .val (.int pz), .val (.int fz)] [(.int (0 : Int32))])) _
        exact k
      obtain ⟨fs, hr, hrun, hended, hW, hsame⟩ := X0.leave (v := some (.int (0 : Int32))) (fun h => by rw [Bd.returns] at h; cases h)
      refine own_done (retN X0 hx (t := .boolean) Bd.returns (by simp) (hb hby d7_25) hr) hrun hended ⟨_, _, rfl, ?_, ⟨_, rfl⟩, hW, hsame.mono (by decide) (by decide)⟩
      show Q_rm7 Z x0 x1 x2 x3 tz cz pz fz h0 n0 (some (.int (0 : Int32))) s₁.heap _
      rw [e0]
      exact ⟨by unfold own_exp; unfold own_nz; rw [if_pos hc1, if_pos ((lw_eq _ _).mp hc17)], N0, rfl⟩
    · refine own_go (B := s₁.setTop (mkF m 25 #[.val (.ref av), .val (.int tz), .val (.int cz), .val (.int pz), .val (.int fz)] [(.int (1 : Int32))])) (fun t k => ?_) ?_
      · show Steps p.tables e below (s₁.setTop (mkF m 17 #[.val (.ref av), .val (.int tz), .val (.int cz), .val (.int pz), .val (.int fz)] [(.int (lcmpW (own4 tz x0 x1 x2 x3) (0 : Int64)))])) _
        refine XS.ifNo X0.here hx rfl (hb hby d7_17) rfl ((if0 _ _).trans (feq hc17).1) ?_
        show Steps p.tables e below (s₁.setTop (mkF m 20 #[.val (.ref av), .val (.int tz), .val (.int cz), .val (.int pz), .val (.int fz)] [])) _
        refine XS.iconst X0.here hx rfl (hb hby d7_20) ?_
        show Steps p.tables e below (s₁.setTop (mkF m 21 #[.val (.ref av), .val (.int tz), .val (.int cz), .val (.int pz), .val (.int fz)] [(.int (1 : Int32))])) _
        refine XS.goto X0.here hx rfl (pc0 := 21) (pc' := 25) rfl (hb hby d7_21) (by decide) (by decide) ?_
        show Steps p.tables e below (s₁.setTop (mkF m 25 #[.val (.ref av), .val (.int tz), .val (.int cz), .val (.int pz), .val (.int fz)] [(.int (1 : Int32))])) _
        exact k
      obtain ⟨fs, hr, hrun, hended, hW, hsame⟩ := X0.leave (v := some (.int (1 : Int32))) (fun h => by rw [Bd.returns] at h; cases h)
      refine own_done (retN X0 hx (t := .boolean) Bd.returns (by simp) (hb hby d7_25) hr) hrun hended ⟨_, _, rfl, ?_, ⟨_, rfl⟩, hW, hsame.mono (by decide) (by decide)⟩
      show Q_rm7 Z x0 x1 x2 x3 tz cz pz fz h0 n0 (some (.int (1 : Int32))) s₁.heap _
      rw [e0]
      exact ⟨by unfold own_exp; unfold own_nz; rw [if_pos hc1, if_neg (fun q => hc17 ((lw_eq _ _).mpr q))], N0, rfl⟩
  · refine own_go (B := s₁.setTop (mkF m 6 #[.val (.ref av), .val (.int tz), .val (.int cz), .val (.int pz), .val (.int fz)] [(.int pz), (.int tz)])) (fun t k => ?_) ?_
    · show Steps p.tables e below (s₁.setTop (mkF m 1 #[.val (.ref av), .val (.int tz), .val (.int cz), .val (.int pz), .val (.int fz)] [(.int cz)])) _
      refine XS.ifNo X0.here hx rfl (hb hby d7_1) rfl ((if0 _ _).trans (feq hc1).1) ?_
      show Steps p.tables e below (s₁.setTop (mkF m 4 #[.val (.ref av), .val (.int tz), .val (.int cz), .val (.int pz), .val (.int fz)] [])) _
      refine XS.iloadN X0.here hx rfl (hb hby d7_4) rfl ?_
      show Steps p.tables e below (s₁.setTop (mkF m 5 #[.val (.ref av), .val (.int tz), .val (.int cz), .val (.int pz), .val (.int fz)] [(.int tz)])) _
      refine XS.iloadN X0.here hx rfl (hb hby d7_5) rfl ?_
      show Steps p.tables e below (s₁.setTop (mkF m 6 #[.val (.ref av), .val (.int tz), .val (.int cz), .val (.int pz), .val (.int fz)] [(.int pz), (.int tz)])) _
      exact k
    by_cases hc6 : tz = pz
    · refine own_go (B := s₁.setTop (mkF m 11 #[.val (.ref av), .val (.int tz), .val (.int cz), .val (.int pz), .val (.int fz)] [(.int fz)])) (fun t k => ?_) ?_
      · show Steps p.tables e below (s₁.setTop (mkF m 6 #[.val (.ref av), .val (.int tz), .val (.int cz), .val (.int pz), .val (.int fz)] [(.int pz), (.int tz)])) _
        refine XS.icmpNo X0.here hx rfl (hb hby d7_6) rfl (teq hc6).2 ?_
        show Steps p.tables e below (s₁.setTop (mkF m 9 #[.val (.ref av), .val (.int tz), .val (.int cz), .val (.int pz), .val (.int fz)] [])) _
        refine XS.iload X0.here hx rfl (hb hby d7_9) rfl ?_
        show Steps p.tables e below (s₁.setTop (mkF m 11 #[.val (.ref av), .val (.int tz), .val (.int cz), .val (.int pz), .val (.int fz)] [(.int fz)])) _
        exact k
      obtain ⟨fs, hr, hrun, hended, hW, hsame⟩ := X0.leave (v := some (.int (nar .boolean fz))) (fun h => by rw [Bd.returns] at h; cases h)
      refine own_done (retN X0 hx (t := .boolean) Bd.returns (by simp) (hb hby d7_11) hr) hrun hended ⟨_, _, rfl, ?_, ⟨_, rfl⟩, hW, hsame.mono (by decide) (by decide)⟩
      show Q_rm7 Z x0 x1 x2 x3 tz cz pz fz h0 n0 (some (.int (nar .boolean fz))) s₁.heap _
      rw [e0]
      exact ⟨by unfold own_exp; rw [if_neg hc1, if_pos hc6], N0, rfl⟩
    · refine own_go (B := s₁.setTop (mkF m 14 #[.val (.ref av), .val (.int tz), .val (.int cz), .val (.int pz), .val (.int fz)] [(.int tz), (.ref av)])) (fun t k => ?_) ?_
      · show Steps p.tables e below (s₁.setTop (mkF m 6 #[.val (.ref av), .val (.int tz), .val (.int cz), .val (.int pz), .val (.int fz)] [(.int pz), (.int tz)])) _
        refine XS.icmpYes X0.here hx rfl (pc0 := 6) (pc' := 12) rfl (hb hby d7_6) rfl (feq hc6).2 (by decide) (by decide) ?_
        show Steps p.tables e below (s₁.setTop (mkF m 12 #[.val (.ref av), .val (.int tz), .val (.int cz), .val (.int pz), .val (.int fz)] [])) _
        refine XS.aloadN X0.here hx rfl (hb hby d7_12) rfl rfl ?_
        show Steps p.tables e below (s₁.setTop (mkF m 13 #[.val (.ref av), .val (.int tz), .val (.int cz), .val (.int pz), .val (.int fz)] [(.ref av)])) _
        refine XS.iloadN X0.here hx rfl (hb hby d7_13) rfl ?_
        show Steps p.tables e below (s₁.setTop (mkF m 14 #[.val (.ref av), .val (.int tz), .val (.int cz), .val (.int pz), .val (.int fz)] [(.int tz), (.ref av)])) _
        exact k
      obtain ⟨cl2, Ar2, qa2, Sa2, Na2, Ha2, Ga2⟩ := id V_av
      have hin2 : ¬ (tz < 0 ∨ cl2.slots.size ≤ (tz).toNatClampNeg) := inb_of Sa2 (own_in4 r_t)
      have hat2 : cl2.slots[(tz).toNatClampNeg]? = some (.long (own4 tz x0 x1 x2 x3)) := Ha2.at hin2 (own_get4 r_t _ _ _ _ _)
      refine own_go (B := s₁.setTop (mkF m 17 #[.val (.ref av), .val (.int tz), .val (.int cz), .val (.int pz), .val (.int fz)] [(.int (lcmpW (own4 tz x0 x1 x2 x3) (0 : Int64)))])) (fun t k => ?_) ?_
      · show Steps p.tables e below (s₁.setTop (mkF m 14 #[.val (.ref av), .val (.int tz), .val (.int cz), .val (.int pz), .val (.int fz)] [(.int tz), (.ref av)])) _
        refine X0.laload hx (j := tz) (v := (.long (own4 tz x0 x1 x2 x3))) (by rw [e0]; exact Ar2.1) (State.isArrayOf_alike hZ.alike Ar2.2.1) Ar2.2.2 hin2 hat2 (g := (mkF m 14 #[.val (.ref av), .val (.int tz), .val (.int cz), .val (.int pz), .val (.int fz)] [(.int tz), (.ref av)])) rfl rfl (hb hby d7_14) _ ?_
        show Steps p.tables e below (s₁.setTop (mkF m 15 #[.val (.ref av), .val (.int tz), .val (.int cz), .val (.int pz), .val (.int fz)] [(.long (own4 tz x0 x1 x2 x3))])) _
        refine XS.lconst X0.here hx rfl (hb hby d7_15) ?_
        show Steps p.tables e below (s₁.setTop (mkF m 16 #[.val (.ref av), .val (.int tz), .val (.int cz), .val (.int pz), .val (.int fz)] [(.long (0 : Int64)), (.long (own4 tz x0 x1 x2 x3))])) _
        refine XS.lcmp X0.here hx rfl (hb hby d7_16) rfl ?_
        show Steps p.tables e below (s₁.setTop (mkF m 17 #[.val (.ref av), .val (.int tz), .val (.int cz), .val (.int pz), .val (.int fz)] [(.int (lcmpW (own4 tz x0 x1 x2 x3) (0 : Int64)))])) _
        exact k
      by_cases hc17 : (lcmpW (own4 tz x0 x1 x2 x3) (0 : Int64)) = (0 : Int32)
      · refine own_go (B := s₁.setTop (mkF m 25 #[.val (.ref av), .val (.int tz), .val (.int cz), .val (.int pz), .val (.int fz)] [(.int (0 : Int32))])) (fun t k => ?_) ?_
        · show Steps p.tables e below (s₁.setTop (mkF m 17 #[.val (.ref av), .val (.int tz), .val (.int cz), .val (.int pz), .val (.int fz)] [(.int (lcmpW (own4 tz x0 x1 x2 x3) (0 : Int64)))])) _
          refine XS.ifYes X0.here hx rfl (pc0 := 17) (pc' := 24) rfl (hb hby d7_17) rfl ((if0 _ _).trans (teq hc17).1) (by decide) (by decide) ?_
          show Steps p.tables e below (s₁.setTop (mkF m 24 #[.val (.ref av), .val (.int tz), .val (.int cz), .val (.int pz), .val (.int fz)] [])) _
          refine XS.iconst X0.here hx rfl (hb hby d7_24) ?_
          show Steps p.tables e below (s₁.setTop (mkF m 25 #[.val (.ref av), .val (.int tz), .val (.int cz), .val (.int pz), .val (.int fz)] [(.int (0 : Int32))])) _
          exact k
        obtain ⟨fs, hr, hrun, hended, hW, hsame⟩ := X0.leave (v := some (.int (0 : Int32))) (fun h => by rw [Bd.returns] at h; cases h)
        refine own_done (retN X0 hx (t := .boolean) Bd.returns (by simp) (hb hby d7_25) hr) hrun hended ⟨_, _, rfl, ?_, ⟨_, rfl⟩, hW, hsame.mono (by decide) (by decide)⟩
        show Q_rm7 Z x0 x1 x2 x3 tz cz pz fz h0 n0 (some (.int (0 : Int32))) s₁.heap _
        rw [e0]
        exact ⟨by unfold own_exp; unfold own_nz; rw [if_neg hc1, if_neg hc6, if_pos ((lw_eq _ _).mp hc17)], N0, rfl⟩
      · refine own_go (B := s₁.setTop (mkF m 25 #[.val (.ref av), .val (.int tz), .val (.int cz), .val (.int pz), .val (.int fz)] [(.int (1 : Int32))])) (fun t k => ?_) ?_
        · show Steps p.tables e below (s₁.setTop (mkF m 17 #[.val (.ref av), .val (.int tz), .val (.int cz), .val (.int pz), .val (.int fz)] [(.int (lcmpW (own4 tz x0 x1 x2 x3) (0 : Int64)))])) _
          refine XS.ifNo X0.here hx rfl (hb hby d7_17) rfl ((if0 _ _).trans (feq hc17).1) ?_
          show Steps p.tables e below (s₁.setTop (mkF m 20 #[.val (.ref av), .val (.int tz), .val (.int cz), .val (.int pz), .val (.int fz)] [])) _
          refine XS.iconst X0.here hx rfl (hb hby d7_20) ?_
          show Steps p.tables e below (s₁.setTop (mkF m 21 #[.val (.ref av), .val (.int tz), .val (.int cz), .val (.int pz), .val (.int fz)] [(.int (1 : Int32))])) _
          refine XS.goto X0.here hx rfl (pc0 := 21) (pc' := 25) rfl (hb hby d7_21) (by decide) (by decide) ?_
          show Steps p.tables e below (s₁.setTop (mkF m 25 #[.val (.ref av), .val (.int tz), .val (.int cz), .val (.int pz), .val (.int fz)] [(.int (1 : Int32))])) _
          exact k
        obtain ⟨fs, hr, hrun, hended, hW, hsame⟩ := X0.leave (v := some (.int (1 : Int32))) (fun h => by rw [Bd.returns] at h; cases h)
        refine own_done (retN X0 hx (t := .boolean) Bd.returns (by simp) (hb hby d7_25) hr) hrun hended ⟨_, _, rfl, ?_, ⟨_, rfl⟩, hW, hsame.mono (by decide) (by decide)⟩
        show Q_rm7 Z x0 x1 x2 x3 tz cz pz fz h0 n0 (some (.int (1 : Int32))) s₁.heap _
        rw [e0]
        exact ⟨by unfold own_exp; unfold own_nz; rw [if_neg hc1, if_neg hc6, if_neg (fun q => hc17 ((lw_eq _ _).mpr q))], N0, rfl⟩
def Q_rm12 (Z : State) (h0 : Heap) (n0 : Nat) (v : Option Value) (h : Heap) (L : List Loc) : Prop := v = some (.int (0 : Int32)) ∧ Fr n0 L ∧ h = h0
theorem d12_0 : decode jdk_49_method_2_code 0 = .ok (.aload_n 0, 1) := by decide +kernel
theorem d12_1 : decode jdk_49_method_2_code 1 = .ok (.getfield 25, 3) := by decide +kernel
theorem d12_4 : decode jdk_49_method_2_code 4 = .ok (.aload_n 0, 1) := by decide +kernel
theorem d12_5 : decode jdk_49_method_2_code 5 = .ok (.getfield 1, 3) := by decide +kernel
theorem d12_8 : decode jdk_49_method_2_code 8 = .ok (.getfield 28, 3) := by decide +kernel
theorem d12_11 : decode jdk_49_method_2_code 11 = .ok (.if_icmp .eq 7, 3) := by decide +kernel
theorem d12_14 : decode jdk_49_method_2_code 14 = .ok (.iconst 1, 1) := by decide +kernel
theorem d12_15 : decode jdk_49_method_2_code 15 = .ok (.goto 4, 3) := by decide +kernel
theorem d12_18 : decode jdk_49_method_2_code 18 = .ok (.iconst 0, 1) := by decide +kernel
theorem d12_19 : decode jdk_49_method_2_code 19 = .ok (.ireturn, 1) := by decide +kernel
theorem ef_rm12 (m : MethodId) (x0 : Addr) : entryFrame m #[(.ref x0)] 1 = mkF m 0 #[.val (.ref x0)] [] := by first | (simp [entryFrame, mkF, argsToLocals, Value.category, maxLocals]; done) | rfl
set_option maxRecDepth 65536 in
set_option maxHeartbeats 40000000 in
theorem rm12 (l : Launch) (Z : State) (a0 : Array Value) (hw : ∀ d ∈ tables_1, d.before a0 Z = true) (ws : List Jvm.Cond) (a1 al : Addr) (h0 : Heap) (n0 : Nat) (Z0 : n0 ≤ h0.size) (F_cursor_a1 : Fld Z h0 a1 "java/util/ArrayList$Itr" "cursor" "I" (.int (0 : Int32))) (F_this_0_a1 : Fld Z h0 a1 "java/util/ArrayList$Itr" "this$0" "Ljava/util/ArrayList;" (.ref al)) (F_size_al : Fld Z h0 al "java/util/ArrayList" "size" "I" (.int (0 : Int32))) :
    MetFree l (⟨"java/util/ArrayList$Itr", "hasNext", "()Z"⟩ : MethodName) (head1 (Jvm.Cond.code (⟨"java/util/ArrayList$Itr", "hasNext", "()Z"⟩ : MethodName) jdk_49_method_2_code 1 (some .boolean) :: ws) ({ frames := 0, cells := 0, slots := 0, locals := 0 } : Room)) (fun a U => a = #[(.ref a1)] ∧ Z.Warmed39 U.vm ∧ U.heap = h0) (fun _ _ _ _ _ => True) (fun _ U o U' => ∃ v L, o = .returned v ∧ Q_rm12 Z h0 n0 v U'.heap L ∧ FrameEnd U o U' L ({ frames := 0, cells := 0, slots := 0, locals := 0 } : Room).cells ({ frames := 0, cells := 0, slots := 0, locals := 0 } : Room).slots) := by
  refine MetFree.of_bodySF (plainFor_of_name pn_12) hisR ?_
  intro p e s m args below meth c s₁ Bd hml0 hP hK
  obtain ⟨rfl, hZ, hh⟩ := hP
  have hx := Bd.exec
  have hby := Bd.bytes
  have hml : c.maxLocals = 1 := hml0
  have hown : s.vm.findClass "java/util/ArrayList$Itr" = some m.cls := findClass_of_methodNamed Bd.named
  have hnm := (name_of_methodNamed Bd.named Bd.method).1
  have X0 : Stand p l e ({ frames := 0, cells := 0, slots := 0, locals := 0 } : Room) s m #[(.ref a1)] below meth c s₁ [] 0 0 := Stand.of_body Bd
  have e0 : s₁.heap = h0 := by rw [← hh, Bd.state]; rfl
  have N0 := Fr.nil n0
  have K : Keep h0 h0 [] := Keep.refl h0 []
  show own_Gd p.tables e below (own_P (Q_rm12 Z h0 n0) s ({ frames := 0, cells := 0, slots := 0, locals := 0 } : Room).cells ({ frames := 0, cells := 0, slots := 0, locals := 0 } : Room).slots) _
  refine own_go (B := s₁.setTop (mkF m 0 #[.val (.ref a1)] [])) (fun t k => castTop (ef_rm12 m a1) k) ?_
  refine own_go (B := s₁.setTop (mkF m 1 #[.val (.ref a1)] [(.ref a1)])) (fun t k => ?_) ?_
  · show Steps p.tables e below (s₁.setTop (mkF m 0 #[.val (.ref a1)] [])) _
    refine XS.aloadN X0.here hx rfl (hb hby d12_0) rfl rfl ?_
    show Steps p.tables e below (s₁.setTop (mkF m 1 #[.val (.ref a1)] [(.ref a1)])) _
    exact k
  obtain ⟨T1, X1, e1, st1⟩ := getF X0 hx hZ hown (host := "") (Or.inl (hw _ (List.mem_of_getElem? (i := 106) rfl))) Via.refl e0 F_cursor_a1 (g := (mkF m 1 #[.val (.ref a1)] [(.ref a1)])) rfl rfl (hb hby d12_1)
  refine own_go (B := T1.setTop (mkF m 4 #[.val (.ref a1)] [(.int (0 : Int32))])) st1 ?_
  refine own_go (B := T1.setTop (mkF m 5 #[.val (.ref a1)] [(.ref a1), (.int (0 : Int32))])) (fun t k => ?_) ?_
  · show Steps p.tables e below (T1.setTop (mkF m 4 #[.val (.ref a1)] [(.int (0 : Int32))])) _
    refine XS.aloadN X1.here hx rfl (hb hby d12_4) rfl rfl ?_
    show Steps p.tables e below (T1.setTop (mkF m 5 #[.val (.ref a1)] [(.ref a1), (.int (0 : Int32))])) _
    exact k
  obtain ⟨T2, X2, e2, st2⟩ := getF X1 hx hZ hown (host := "") (Or.inl (hw _ (List.mem_of_getElem? (i := 88) rfl))) Via.refl e1 F_this_0_a1 (g := (mkF m 5 #[.val (.ref a1)] [(.ref a1), (.int (0 : Int32))])) rfl rfl (hb hby d12_5)
  refine own_go (B := T2.setTop (mkF m 8 #[.val (.ref a1)] [(.ref al), (.int (0 : Int32))])) st2 ?_
  obtain ⟨T3, X3, e3, st3⟩ := getF X2 hx hZ hown (Or.inr (hw _ (List.mem_of_getElem? (i := 108) rfl))) Via.refl e2 F_size_al (g := (mkF m 8 #[.val (.ref a1)] [(.ref al), (.int (0 : Int32))])) rfl rfl (hb hby d12_8)
  refine own_go (B := T3.setTop (mkF m 11 #[.val (.ref a1)] [(.int (0 : Int32)), (.int (0 : Int32))])) st3 ?_
  refine own_go (B := T3.setTop (mkF m 19 #[.val (.ref a1)] [(.int (0 : Int32))])) (fun t k => ?_) ?_
  · show Steps p.tables e below (T3.setTop (mkF m 11 #[.val (.ref a1)] [(.int (0 : Int32)), (.int (0 : Int32))])) _
    refine XS.icmpYes X3.here hx rfl (pc0 := 11) (pc' := 18) rfl (hb hby d12_11) rfl (teq ((rfl : (0 : Int32) = (0 : Int32)) : (0 : Int32) = (0 : Int32))).1 (by decide) (by decide) ?_
    show Steps p.tables e below (T3.setTop (mkF m 18 #[.val (.ref a1)] [])) _
    refine XS.iconst X3.here hx rfl (hb hby d12_18) ?_
    show Steps p.tables e below (T3.setTop (mkF m 19 #[.val (.ref a1)] [(.int (0 : Int32))])) _
    exact k
  obtain ⟨fs, hr, hrun, hended, hW, hsame⟩ := X3.leave (v := some (.int (0 : Int32))) (fun h => by rw [Bd.returns] at h; cases h)
  refine own_done (retN X3 hx (t := .boolean) Bd.returns (by simp) (hb hby d12_19) hr) hrun hended ⟨_, _, rfl, ?_, ⟨_, rfl⟩, hW, hsame.mono (by decide) (by decide)⟩
  show Q_rm12 Z h0 n0 (some (.int (0 : Int32))) T3.heap _
  rw [e3]
  exact ⟨rfl, N0, rfl⟩
def Q_rm11 (Z : State) (a1 al : Addr) (h0 : Heap) (n0 : Nat) (v : Option Value) (h : Heap) (L : List Loc) : Prop := v = none ∧ Fr n0 L ∧ Keep h0 h [a1] ∧ Exa Z h a1 "java/util/ArrayList$Itr" ∧ Fld Z h a1 "java/util/ArrayList$Itr" "this$0" "Ljava/util/ArrayList;" (.ref al) ∧ Fld Z h a1 "java/util/ArrayList$Itr" "cursor" "I" (.int (0 : Int32))
theorem d11_0 : decode jdk_49_method_1_code 0 = .ok (.aload_n 0, 1) := by decide +kernel
theorem d11_1 : decode jdk_49_method_1_code 1 = .ok (.aload_n 1, 1) := by decide +kernel
theorem d11_2 : decode jdk_49_method_1_code 2 = .ok (.putfield 1, 3) := by decide +kernel
theorem d11_5 : decode jdk_49_method_1_code 5 = .ok (.aload_n 0, 1) := by decide +kernel
theorem d11_6 : decode jdk_49_method_1_code 6 = .ok (.invokespecial 7, 3) := by decide +kernel
theorem d11_9 : decode jdk_49_method_1_code 9 = .ok (.aload_n 0, 1) := by decide +kernel
theorem d11_10 : decode jdk_49_method_1_code 10 = .ok (.iconst (-1), 1) := by decide +kernel
theorem d11_11 : decode jdk_49_method_1_code 11 = .ok (.putfield 13, 3) := by decide +kernel
theorem d11_14 : decode jdk_49_method_1_code 14 = .ok (.aload_n 0, 1) := by decide +kernel
theorem d11_15 : decode jdk_49_method_1_code 15 = .ok (.aload_n 0, 1) := by decide +kernel
theorem d11_16 : decode jdk_49_method_1_code 16 = .ok (.getfield 1, 3) := by decide +kernel
theorem d11_19 : decode jdk_49_method_1_code 19 = .ok (.getfield 17, 3) := by decide +kernel
theorem d11_22 : decode jdk_49_method_1_code 22 = .ok (.putfield 22, 3) := by decide +kernel
theorem d11_25 : decode jdk_49_method_1_code 25 = .ok (.return_, 1) := by decide +kernel
theorem ef_rm11 (m : MethodId) (x0 : Addr) (x1 : Addr) : entryFrame m #[(.ref x0), (.ref x1)] 2 = mkF m 0 #[.val (.ref x0), .val (.ref x1)] [] := by first | (simp [entryFrame, mkF, argsToLocals, Value.category, maxLocals]; done) | rfl
set_option maxRecDepth 65536 in
set_option maxHeartbeats 40000000 in
theorem rm11 (l : Launch) (Z : State) (a0 : Array Value) (hw : ∀ d ∈ tables_1, d.before a0 Z = true) (ws : List Jvm.Cond) (a1 al : Addr) (h0 : Heap) (n0 : Nat) (Z0 : n0 ≤ h0.size) (F_this_0_a1 : Fld Z h0 a1 "java/util/ArrayList$Itr" "this$0" "Ljava/util/ArrayList;" .null) (F_cursor_a1 : Fld Z h0 a1 "java/util/ArrayList$Itr" "cursor" "I" (.int (0 : Int32))) (F_lastRet_a1 : Fld Z h0 a1 "java/util/ArrayList$Itr" "lastRet" "I" (.int (0 : Int32))) (F_expectedModCount_a1 : Fld Z h0 a1 "java/util/ArrayList$Itr" "expectedModCount" "I" (.int (0 : Int32))) (E_a1 : Exa Z h0 a1 "java/util/ArrayList$Itr") (g_a1 : n0 ≤ a1) (F_modCount_al : Fld Z h0 al "java/util/AbstractList" "modCount" "I" (.int (0 : Int32))) (ne_al_a1 : al ≠ a1) :
    MetFree l (⟨"java/util/ArrayList$Itr", "<init>", "(Ljava/util/ArrayList;)V"⟩ : MethodName) (head1 (Jvm.Cond.code (⟨"java/util/ArrayList$Itr", "<init>", "(Ljava/util/ArrayList;)V"⟩ : MethodName) jdk_49_method_1_code 2 none :: ws) ({ frames := 1, cells := 0, slots := 0, locals := 12 } : Room)) (fun a U => a = #[(.ref a1), (.ref al)] ∧ Z.Warmed39 U.vm ∧ U.heap = h0) (fun _ _ _ _ _ => True) (fun _ U o U' => ∃ v L, o = .returned v ∧ Q_rm11 Z a1 al h0 n0 v U'.heap L ∧ FrameEnd U o U' L ({ frames := 1, cells := 0, slots := 0, locals := 12 } : Room).cells ({ frames := 1, cells := 0, slots := 0, locals := 12 } : Room).slots) := by
  refine MetFree.of_bodySF (plainFor_of_name pn_11) hisR ?_
  intro p e s m args below meth c s₁ Bd hml0 hP hK
  obtain ⟨rfl, hZ, hh⟩ := hP
  have hx := Bd.exec
  have hby := Bd.bytes
  have hml : c.maxLocals = 2 := hml0
  have hown : s.vm.findClass "java/util/ArrayList$Itr" = some m.cls := findClass_of_methodNamed Bd.named
  have hnm := (name_of_methodNamed Bd.named Bd.method).1
  have X0 : Stand p l e ({ frames := 1, cells := 0, slots := 0, locals := 12 } : Room) s m #[(.ref a1), (.ref al)] below meth c s₁ [] 0 0 := Stand.of_body Bd
  have e0 : s₁.heap = h0 := by rw [← hh, Bd.state]; rfl
  have N0 := Fr.nil n0
  have K : Keep h0 h0 [a1] := Keep.refl h0 [a1]
  show own_Gd p.tables e below (own_P (Q_rm11 Z a1 al h0 n0) s ({ frames := 1, cells := 0, slots := 0, locals := 12 } : Room).cells ({ frames := 1, cells := 0, slots := 0, locals := 12 } : Room).slots) _
  refine own_go (B := s₁.setTop (mkF m 0 #[.val (.ref a1), .val (.ref al)] [])) (fun t k => castTop (ef_rm11 m a1 al) k) ?_
  refine own_go (B := s₁.setTop (mkF m 2 #[.val (.ref a1), .val (.ref al)] [(.ref al), (.ref a1)])) (fun t k => ?_) ?_
  · show Steps p.tables e below (s₁.setTop (mkF m 0 #[.val (.ref a1), .val (.ref al)] [])) _
    refine XS.aloadN X0.here hx rfl (hb hby d11_0) rfl rfl ?_
    show Steps p.tables e below (s₁.setTop (mkF m 1 #[.val (.ref a1), .val (.ref al)] [(.ref a1)])) _
    refine XS.aloadN X0.here hx rfl (hb hby d11_1) rfl rfl ?_
    show Steps p.tables e below (s₁.setTop (mkF m 2 #[.val (.ref a1), .val (.ref al)] [(.ref al), (.ref a1)])) _
    exact k
  obtain ⟨T1, h1, X1, e1, W1, st1⟩ := putF X0 hx hZ hown (host := "") (Or.inl (hw _ (List.mem_of_getElem? (i := 88) rfl))) Via.refl e0 F_this_0_a1 E_a1 (Or.inr ⟨(hw _ (List.mem_of_getElem? (i := 89) rfl)), rfl, hnm⟩) (hw _ (List.mem_of_getElem? (i := 82) rfl)) (v := (.ref al)) (ty := (.object "java/util/ArrayList")) (by decide) rfl rfl (g := (mkF m 2 #[.val (.ref a1), .val (.ref al)] [(.ref al), (.ref a1)])) rfl rfl (hb hby d11_2)
  have Fw1 := F_this_0_a1.same W1
  have F_modCount_al := F_modCount_al.other W1 (Or.inl ne_al_a1)
  have E_a1 := E_a1.wr W1
  have F_cursor_a1 := F_cursor_a1.other W1 (Or.inr (slot_ne (Or.inl (hw _ (List.mem_of_getElem? (i := 107) rfl))) (Or.inr (hw _ (List.mem_of_getElem? (i := 89) rfl))) (by decide) (t := .int) (t' := (.object "java/util/ArrayList")) (by decide) (by decide)))
  have F_lastRet_a1 := F_lastRet_a1.other W1 (Or.inr (slot_ne (Or.inl (hw _ (List.mem_of_getElem? (i := 92) rfl))) (Or.inr (hw _ (List.mem_of_getElem? (i := 89) rfl))) (by decide) (t := .int) (t' := (.object "java/util/ArrayList")) (by decide) (by decide)))
  have F_expectedModCount_a1 := F_expectedModCount_a1.other W1 (Or.inr (slot_ne (Or.inl (hw _ (List.mem_of_getElem? (i := 96) rfl))) (Or.inr (hw _ (List.mem_of_getElem? (i := 89) rfl))) (by decide) (t := .int) (t' := (.object "java/util/ArrayList")) (by decide) (by decide)))
  have Z0 := Nat.le_trans Z0 (Nat.le_of_eq W1.size.symm)
  have F_this_0_a1 := Fw1
  have K := K.wr W1 (Or.inl (List.mem_of_getElem? (i := 0) rfl))
  have N1 := Fr.snoc X1 N0 g_a1
  refine own_go (B := T1.setTop (mkF m 5 #[.val (.ref a1), .val (.ref al)] [])) st1 ?_
  refine own_go (B := T1.setTop (mkF m 6 #[.val (.ref a1), .val (.ref al)] [(.ref a1)])) (fun t k => ?_) ?_
  · show Steps p.tables e below (T1.setTop (mkF m 5 #[.val (.ref a1), .val (.ref al)] [])) _
    refine XS.aloadN X1.here hx rfl (hb hby d11_5) rfl rfl ?_
    show Steps p.tables e below (T1.setTop (mkF m 6 #[.val (.ref a1), .val (.ref al)] [(.ref a1)])) _
    exact k
  obtain ⟨T2, X2, e2, st2⟩ := initO X1 hx hZ hown (hw _ (List.mem_of_getElem? (i := 90) rfl)) (hw _ (List.mem_of_getElem? (i := 22) rfl)) (hw _ (List.mem_of_getElem? (i := 23) rfl)) e1 (g := (mkF m 6 #[.val (.ref a1), .val (.ref al)] [(.ref a1)])) rfl (by rw [hml]; rfl) rfl (hb hby d11_6) (by decide) (W := 0) (by show 2 * 0 + _ ≤ _; exact Nat.le_of_eq rfl) (by decide)
  refine own_go (B := T2.setTop (mkF m 9 #[.val (.ref a1), .val (.ref al)] [])) st2 ?_
  refine own_go (B := T2.setTop (mkF m 11 #[.val (.ref a1), .val (.ref al)] [(.int (-1 : Int32)), (.ref a1)])) (fun t k => ?_) ?_
  · show Steps p.tables e below (T2.setTop (mkF m 9 #[.val (.ref a1), .val (.ref al)] [])) _
    refine XS.aloadN X2.here hx rfl (hb hby d11_9) rfl rfl ?_
    show Steps p.tables e below (T2.setTop (mkF m 10 #[.val (.ref a1), .val (.ref al)] [(.ref a1)])) _
    refine XS.iconst X2.here hx rfl (hb hby d11_10) ?_
    show Steps p.tables e below (T2.setTop (mkF m 11 #[.val (.ref a1), .val (.ref al)] [(.int (-1 : Int32)), (.ref a1)])) _
    exact k
  obtain ⟨T3, h3, X3, e3, W3, st3⟩ := putF X2 hx hZ hown (host := "") (Or.inl (hw _ (List.mem_of_getElem? (i := 91) rfl))) Via.refl e2 F_lastRet_a1 E_a1 (Or.inl (hw _ (List.mem_of_getElem? (i := 92) rfl))) (hw _ (List.mem_of_getElem? (i := 82) rfl)) (v := (.int (-1 : Int32))) (ty := .int) (by decide) rfl rfl (g := (mkF m 11 #[.val (.ref a1), .val (.ref al)] [(.int (-1 : Int32)), (.ref a1)])) rfl rfl (hb hby d11_11)
  have Fw3 := F_lastRet_a1.same W3
  have F_modCount_al := F_modCount_al.other W3 (Or.inl ne_al_a1)
  have E_a1 := E_a1.wr W3
  have F_cursor_a1 := F_cursor_a1.other W3 (Or.inr (slot_ne (Or.inl (hw _ (List.mem_of_getElem? (i := 107) rfl))) (Or.inl (hw _ (List.mem_of_getElem? (i := 92) rfl))) (by decide) (t := .int) (t' := .int) (by decide) (by decide)))
  have F_expectedModCount_a1 := F_expectedModCount_a1.other W3 (Or.inr (slot_ne (Or.inl (hw _ (List.mem_of_getElem? (i := 96) rfl))) (Or.inl (hw _ (List.mem_of_getElem? (i := 92) rfl))) (by decide) (t := .int) (t' := .int) (by decide) (by decide)))
  have F_this_0_a1 := F_this_0_a1.other W3 (Or.inr (slot_ne (Or.inr (hw _ (List.mem_of_getElem? (i := 89) rfl))) (Or.inl (hw _ (List.mem_of_getElem? (i := 92) rfl))) (by decide) (t := (.object "java/util/ArrayList")) (t' := .int) (by decide) (by decide)))
  have Z0 := Nat.le_trans Z0 (Nat.le_of_eq W3.size.symm)
  have F_lastRet_a1 := Fw3
  have K := K.wr W3 (Or.inl (List.mem_of_getElem? (i := 0) rfl))
  have N3 := Fr.snoc X3 N1 g_a1
  refine own_go (B := T3.setTop (mkF m 14 #[.val (.ref a1), .val (.ref al)] [])) st3 ?_
  refine own_go (B := T3.setTop (mkF m 16 #[.val (.ref a1), .val (.ref al)] [(.ref a1), (.ref a1)])) (fun t k => ?_) ?_
  · show Steps p.tables e below (T3.setTop (mkF m 14 #[.val (.ref a1), .val (.ref al)] [])) _
    refine XS.aloadN X3.here hx rfl (hb hby d11_14) rfl rfl ?_
    show Steps p.tables e below (T3.setTop (mkF m 15 #[.val (.ref a1), .val (.ref al)] [(.ref a1)])) _
    refine XS.aloadN X3.here hx rfl (hb hby d11_15) rfl rfl ?_
    show Steps p.tables e below (T3.setTop (mkF m 16 #[.val (.ref a1), .val (.ref al)] [(.ref a1), (.ref a1)])) _
    exact k
  obtain ⟨T4, X4, e4, st4⟩ := getF X3 hx hZ hown (host := "") (Or.inl (hw _ (List.mem_of_getElem? (i := 88) rfl))) Via.refl e3 F_this_0_a1 (g := (mkF m 16 #[.val (.ref a1), .val (.ref al)] [(.ref a1), (.ref a1)])) rfl rfl (hb hby d11_16)
  refine own_go (B := T4.setTop (mkF m 19 #[.val (.ref a1), .val (.ref al)] [(.ref al), (.ref a1)])) st4 ?_
  obtain ⟨T5, X5, e5, st5⟩ := getF X4 hx hZ hown (host := "") (Or.inl (hw _ (List.mem_of_getElem? (i := 93) rfl))) (Via.of (hw _ (List.mem_of_getElem? (i := 94) rfl))) e4 F_modCount_al (g := (mkF m 19 #[.val (.ref a1), .val (.ref al)] [(.ref al), (.ref a1)])) rfl rfl (hb hby d11_19)
  refine own_go (B := T5.setTop (mkF m 22 #[.val (.ref a1), .val (.ref al)] [(.int (0 : Int32)), (.ref a1)])) st5 ?_
  obtain ⟨T6, h6, X6, e6, W6, st6⟩ := putF X5 hx hZ hown (host := "") (Or.inl (hw _ (List.mem_of_getElem? (i := 95) rfl))) Via.refl e5 F_expectedModCount_a1 E_a1 (Or.inl (hw _ (List.mem_of_getElem? (i := 96) rfl))) (hw _ (List.mem_of_getElem? (i := 82) rfl)) (v := (.int (0 : Int32))) (ty := .int) (by decide) rfl rfl (g := (mkF m 22 #[.val (.ref a1), .val (.ref al)] [(.int (0 : Int32)), (.ref a1)])) rfl rfl (hb hby d11_22)
  have Fw6 := F_expectedModCount_a1.same W6
  have F_modCount_al := F_modCount_al.other W6 (Or.inl ne_al_a1)
  have E_a1 := E_a1.wr W6
  have F_cursor_a1 := F_cursor_a1.other W6 (Or.inr (slot_ne (Or.inl (hw _ (List.mem_of_getElem? (i := 107) rfl))) (Or.inl (hw _ (List.mem_of_getElem? (i := 96) rfl))) (by decide) (t := .int) (t' := .int) (by decide) (by decide)))
  have F_this_0_a1 := F_this_0_a1.other W6 (Or.inr (slot_ne (Or.inr (hw _ (List.mem_of_getElem? (i := 89) rfl))) (Or.inl (hw _ (List.mem_of_getElem? (i := 96) rfl))) (by decide) (t := (.object "java/util/ArrayList")) (t' := .int) (by decide) (by decide)))
  have F_lastRet_a1 := F_lastRet_a1.other W6 (Or.inr (slot_ne (Or.inl (hw _ (List.mem_of_getElem? (i := 92) rfl))) (Or.inl (hw _ (List.mem_of_getElem? (i := 96) rfl))) (by decide) (t := .int) (t' := .int) (by decide) (by decide)))
  have Z0 := Nat.le_trans Z0 (Nat.le_of_eq W6.size.symm)
  have F_expectedModCount_a1 := Fw6
  have K := K.wr W6 (Or.inl (List.mem_of_getElem? (i := 0) rfl))
  have N6 := Fr.snoc X6 N3 g_a1
  refine own_go (B := T6.setTop (mkF m 25 #[.val (.ref a1), .val (.ref al)] [])) st6 ?_
  obtain ⟨fs, hr, hrun, hended, hW, hsame⟩ := X6.leave (v := none) (fun _ => rfl)
  refine own_done (X6.returnOut hx Bd.returns (hb hby d11_25) hr) hrun hended ⟨_, _, rfl, ?_, ⟨_, rfl⟩, hW, hsame.mono (by decide) (by decide)⟩
  show Q_rm11 Z a1 al h0 n0 (none) T6.heap _
  rw [e6]
  exact ⟨rfl, N6, K, E_a1, F_this_0_a1, F_cursor_a1⟩
def Q_rm10 (Z : State) (al : Addr) (h0 : Heap) (n0 : Nat) (v : Option Value) (h : Heap) (L : List Loc) : Prop := ∃ b, v = some (.ref b) ∧ Fr n0 L ∧ Keep h0 h [] ∧ h0.size ≤ b ∧ Exa Z h b "java/util/ArrayList$Itr" ∧ Fld Z h b "java/util/ArrayList$Itr" "this$0" "Ljava/util/ArrayList;" (.ref al) ∧ Fld Z h b "java/util/ArrayList$Itr" "cursor" "I" (.int (0 : Int32))
theorem d10_0 : decode jdk_38_method_55_code 0 = .ok (.new 267, 3) := by decide +kernel
theorem d10_3 : decode jdk_38_method_55_code 3 = .ok (.dup, 1) := by decide +kernel
theorem d10_4 : decode jdk_38_method_55_code 4 = .ok (.aload_n 0, 1) := by decide +kernel
theorem d10_5 : decode jdk_38_method_55_code 5 = .ok (.invokespecial 269, 3) := by decide +kernel
theorem d10_8 : decode jdk_38_method_55_code 8 = .ok (.areturn, 1) := by decide +kernel
theorem ef_rm10 (m : MethodId) (x0 : Addr) : entryFrame m #[(.ref x0)] 1 = mkF m 0 #[.val (.ref x0)] [] := by first | (simp [entryFrame, mkF, argsToLocals, Value.category, maxLocals]; done) | rfl
set_option maxRecDepth 65536 in
set_option maxHeartbeats 40000000 in
theorem rm10 (l : Launch) (Z : State) (a0 : Array Value) (hw : ∀ d ∈ tables_1, d.before a0 Z = true) (ws : List Jvm.Cond) (al : Addr) (h0 : Heap) (n0 : Nat) (Z0 : n0 ≤ h0.size) (F_modCount_al : Fld Z h0 al "java/util/AbstractList" "modCount" "I" (.int (0 : Int32))) :
    MetFree l (⟨"java/util/ArrayList", "iterator", "()Ljava/util/Iterator;"⟩ : MethodName) (head1 (Jvm.Cond.code (⟨"java/util/ArrayList", "iterator", "()Ljava/util/Iterator;"⟩ : MethodName) jdk_38_method_55_code 1 (some (.object "java/util/Iterator")) :: ws) ({ frames := 2, cells := 1, slots := 4, locals := 26 } : Room)) (fun a U => a = #[(.ref al)] ∧ Z.Warmed39 U.vm ∧ U.heap = h0) (fun _ _ _ _ _ => True) (fun _ U o U' => ∃ v L, o = .returned v ∧ Q_rm10 Z al h0 n0 v U'.heap L ∧ FrameEnd U o U' L ({ frames := 2, cells := 1, slots := 4, locals := 26 } : Room).cells ({ frames := 2, cells := 1, slots := 4, locals := 26 } : Room).slots) := by
  refine MetFree.of_bodySF (plainFor_of_name pn_10) hisR ?_
  intro p e s m args below meth c s₁ Bd hml0 hP hK
  obtain ⟨rfl, hZ, hh⟩ := hP
  have hx := Bd.exec
  have hby := Bd.bytes
  have hml : c.maxLocals = 1 := hml0
  have hown : s.vm.findClass "java/util/ArrayList" = some m.cls := findClass_of_methodNamed Bd.named
  have hnm := (name_of_methodNamed Bd.named Bd.method).1
  have X0 : Stand p l e ({ frames := 2, cells := 1, slots := 4, locals := 26 } : Room) s m #[(.ref al)] below meth c s₁ [] 0 0 := Stand.of_body Bd
  have e0 : s₁.heap = h0 := by rw [← hh, Bd.state]; rfl
  have N0 := Fr.nil n0
  have K : Keep h0 h0 [] := Keep.refl h0 []
  show own_Gd p.tables e below (own_P (Q_rm10 Z al h0 n0) s ({ frames := 2, cells := 1, slots := 4, locals := 26 } : Room).cells ({ frames := 2, cells := 1, slots := 4, locals := 26 } : Room).slots) _
  refine own_go (B := s₁.setTop (mkF m 0 #[.val (.ref al)] [])) (fun t k => castTop (ef_rm10 m al) k) ?_
  obtain ⟨T1, h1, X1, e1, E1, A1, D1, U1, st1⟩ := newO X0 hx hZ hown (hw _ (List.mem_of_getElem? (i := 81) rfl)) (hw _ (List.mem_of_getElem? (i := 82) rfl)) (hw _ (List.mem_of_getElem? (i := 83) rfl)) e0 (g := (mkF m 0 #[.val (.ref al)] [])) rfl (hb hby d10_0) (by decide) (by decide)
  obtain ⟨b1, g1⟩ : ∃ z, z = h0.size := ⟨_, rfl⟩
  rw [← g1] at A1 D1 U1 st1
  have ne_al_b1 : al ≠ b1 := Nat.ne_of_lt (Nat.lt_of_lt_of_le F_modCount_al.lt (Nat.le_of_eq g1.symm))
  have g_b1 : n0 ≤ b1 := Nat.le_trans Z0 (Nat.le_of_eq g1.symm)
  have sz_b1 : h0.size ≤ b1 := Nat.le_trans K.1 (Nat.le_of_eq g1.symm)
  have F_modCount_al := F_modCount_al.ext E1
  have K := K.ext E1
  have Z0 := Nat.le_trans Z0 E1.1
  have E_b1 := A1
  have F_this_0_b1 : Fld Z h1 b1 "java/util/ArrayList$Itr" "this$0" "Ljava/util/ArrayList;" .null := D1 (Or.inr (hw _ (List.mem_of_getElem? (i := 89) rfl))) (ty := (.object "java/util/ArrayList")) (by decide)
  have F_lastRet_b1 : Fld Z h1 b1 "java/util/ArrayList$Itr" "lastRet" "I" (.int (0 : Int32)) := D1 (Or.inl (hw _ (List.mem_of_getElem? (i := 92) rfl))) (ty := .int) (by decide)
  have F_expectedModCount_b1 : Fld Z h1 b1 "java/util/ArrayList$Itr" "expectedModCount" "I" (.int (0 : Int32)) := D1 (Or.inl (hw _ (List.mem_of_getElem? (i := 96) rfl))) (ty := .int) (by decide)
  have F_cursor_b1 : Fld Z h1 b1 "java/util/ArrayList$Itr" "cursor" "I" (.int (0 : Int32)) := D1 (Or.inl (hw _ (List.mem_of_getElem? (i := 107) rfl))) (ty := .int) (by decide)
  refine own_go (B := T1.setTop (mkF m 3 #[.val (.ref al)] [(.ref b1)])) st1 ?_
  refine own_go (B := T1.setTop (mkF m 5 #[.val (.ref al)] [(.ref al), (.ref b1), (.ref b1)])) (fun t k => ?_) ?_
  · show Steps p.tables e below (T1.setTop (mkF m 3 #[.val (.ref al)] [(.ref b1)])) _
    refine XS.dup X1.here hx rfl (hb hby d10_3) rfl rfl ?_
    show Steps p.tables e below (T1.setTop (mkF m 4 #[.val (.ref al)] [(.ref b1), (.ref b1)])) _
    refine XS.aloadN X1.here hx rfl (hb hby d10_4) rfl rfl ?_
    show Steps p.tables e below (T1.setTop (mkF m 5 #[.val (.ref al)] [(.ref al), (.ref b1), (.ref b1)])) _
    exact k
  obtain ⟨_, _, ⟨T2, L2, k2, n2⟩, -, X2, ⟨Lc2, hQ2, l2, y2, z2⟩, st2⟩ := X1.specialBack hx (y := (⟨"java/util/ArrayList$Itr", "<init>", "(Ljava/util/ArrayList;)V"⟩ : MethodName)) rfl hown (mvT hZ (hw _ (List.mem_of_getElem? (i := 84) rfl))) (mvT hZ (hw _ (List.mem_of_getElem? (i := 85) rfl))) (mvT hZ (hw _ (List.mem_of_getElem? (i := 87) rfl))) (by decide) (backOf (W := 1) (rm11 l Z a0 hw [] b1 al h1 n0 Z0 F_this_0_b1 F_cursor_b1 F_lastRet_b1 F_expectedModCount_b1 E_b1 g_b1 F_modCount_al ne_al_b1) hZ (hw _ (List.mem_of_getElem? (i := 87) rfl)) (hw _ (List.mem_of_getElem? (i := 83) rfl)) (by decide) (by decide)) (g := (mkF m 5 #[.val (.ref al)] [(.ref al), (.ref b1), (.ref b1)])) rfl (by rw [hml]; rfl) (Steps.refl _) (a := b1) (argsL := [(.ref al)]) (rest := [(.ref b1)]) (lenOf pd_1 rfl) rfl (by show 2 * 0 + _ ≤ _; exact Nat.le_of_eq rfl) (hb hby d10_5) (fun _ _ => ⟨rfl, e1, Nat.le_of_ble_eq_true rfl, Nat.le_of_ble_eq_true rfl⟩)
  dsimp only [Pt.U, Pt.locs, Pt.cells, Pt.slots] at X2 l2 y2 z2 st2 hQ2
  subst l2 y2 z2
  obtain ⟨h2, e2⟩ : ∃ z, T2.heap = z := ⟨_, rfl⟩
  rw [e2] at hQ2
  obtain ⟨rfl, N2q, Kc2, Ec2, Fa2, Fb2⟩ := hQ2
  have N2 := Fr.app N0 N2q
  have F_modCount_al := F_modCount_al.keep Kc2 (ninS ne_al_b1 nin0)
  have E_b1 := E_b1.keep Kc2
  have K := K.trans Kc2 (allS (Or.inr sz_b1) all0)
  have Z0 := Nat.le_trans Z0 Kc2.1
  have E_b1 := Ec2
  have F_this_0_b1 := Fa2
  have F_cursor_b1 := Fb2
  refine own_go (B := T2.setTop (mkF m 8 #[.val (.ref al)] [(.ref b1)])) (fun t k => st2.trans k) ?_
  obtain ⟨fs, hr, hrun, hended, hW, hsame⟩ := X2.leave (v := some (.ref b1)) (fun h => by rw [Bd.returns] at h; cases h)
  refine own_done (retOut X2 hx Bd.returns rfl (Or.inr (Or.inr (Or.inr (Or.inr ⟨rfl, rfl, rfl⟩)))) (hb hby d10_8) hr) hrun hended ⟨_, _, rfl, ?_, ⟨_, rfl⟩, hW, hsame.mono (by decide) (by decide)⟩
  show Q_rm10 Z al h0 n0 (some (.ref b1)) T2.heap _
  rw [e2]
  exact ⟨b1, rfl, N2, K, sz_b1, E_b1, F_this_0_b1, F_cursor_b1⟩
def Q_rm9 (Z : State) (h0 : Heap) (n0 : Nat) (v : Option Value) (h : Heap) (L : List Loc) : Prop := v = none ∧ Fr n0 L ∧ Keep h0 h []
theorem d9_0 : decode prog_8_method_4_code 0 = .ok (.aload_n 0, 1) := by decide +kernel
theorem d9_1 : decode prog_8_method_4_code 1 = .ok (.invokeinterface 45 1, 5) := by decide +kernel
theorem d9_6 : decode prog_8_method_4_code 6 = .ok (.astore_n 2, 1) := by decide +kernel
theorem d9_7 : decode prog_8_method_4_code 7 = .ok (.aload_n 2, 1) := by decide +kernel
theorem d9_8 : decode prog_8_method_4_code 8 = .ok (.invokeinterface 51 1, 5) := by decide +kernel
theorem d9_13 : decode prog_8_method_4_code 13 = .ok (.ifCond .eq 23, 3) := by decide +kernel
theorem d9_16 : decode prog_8_method_4_code 16 = .ok (.aload_n 2, 1) := by decide +kernel
theorem d9_17 : decode prog_8_method_4_code 17 = .ok (.invokeinterface 57 1, 5) := by decide +kernel
theorem d9_22 : decode prog_8_method_4_code 22 = .ok (.checkcast 60, 3) := by decide +kernel
theorem d9_25 : decode prog_8_method_4_code 25 = .ok (.astore_n 3, 1) := by decide +kernel
theorem d9_26 : decode prog_8_method_4_code 26 = .ok (.aload_n 3, 1) := by decide +kernel
theorem d9_27 : decode prog_8_method_4_code 27 = .ok (.aload_n 1, 1) := by decide +kernel
theorem d9_28 : decode prog_8_method_4_code 28 = .ok (.invokeinterface 62 2, 5) := by decide +kernel
theorem d9_33 : decode prog_8_method_4_code 33 = .ok (.goto (-26), 3) := by decide +kernel
theorem d9_36 : decode prog_8_method_4_code 36 = .ok (.return_, 1) := by decide +kernel
theorem ef_rm9 (m : MethodId) (x0 : Addr) (x1 : Addr) : entryFrame m #[(.ref x0), (.ref x1)] 4 = mkF m 0 #[.val (.ref x0), .val (.ref x1), .unset, .unset] [] := by first | (simp [entryFrame, mkF, argsToLocals, Value.category, maxLocals]; done) | rfl
set_option maxRecDepth 65536 in
set_option maxHeartbeats 40000000 in
theorem rm9 (l : Launch) (Z : State) (a0 : Array Value) (hw : ∀ d ∈ tables_1, d.before a0 Z = true) (ws : List Jvm.Cond) (ab av : Addr) (h0 : Heap) (n0 : Nat) (Z0 : n0 ≤ h0.size) (E_ab : Exa Z h0 ab "java/util/ArrayList") (F_modCount_ab : Fld Z h0 ab "java/util/AbstractList" "modCount" "I" (.int (0 : Int32))) (F_size_ab : Fld Z h0 ab "java/util/ArrayList" "size" "I" (.int (0 : Int32))) :
    MetFree l (⟨"com/example/controller_synthesis/controllersynthesis/output/FunctionBlock", "execute", "(Ljava/util/List;[J)V"⟩ : MethodName) (head1 (Jvm.Cond.code (⟨"com/example/controller_synthesis/controllersynthesis/output/FunctionBlock", "execute", "(Ljava/util/List;[J)V"⟩ : MethodName) prog_8_method_4_code 4 none :: ws) ({ frames := 3, cells := 1, slots := 4, locals := 38 } : Room)) (fun a U => a = #[(.ref ab), (.ref av)] ∧ Z.Warmed39 U.vm ∧ U.heap = h0) (fun _ _ _ _ _ => True) (fun _ U o U' => ∃ v L, o = .returned v ∧ Q_rm9 Z h0 n0 v U'.heap L ∧ FrameEnd U o U' L ({ frames := 3, cells := 1, slots := 4, locals := 38 } : Room).cells ({ frames := 3, cells := 1, slots := 4, locals := 38 } : Room).slots) := by
  refine MetFree.of_bodySF (plainFor_of_name pn_9) hisR ?_
  intro p e s m args below meth c s₁ Bd hml0 hP hK
  obtain ⟨rfl, hZ, hh⟩ := hP
  have hx := Bd.exec
  have hby := Bd.bytes
  have hml : c.maxLocals = 4 := hml0
  have hown : s.vm.findClass "com/example/controller_synthesis/controllersynthesis/output/FunctionBlock" = some m.cls := findClass_of_methodNamed Bd.named
  have hnm := (name_of_methodNamed Bd.named Bd.method).1
  have X0 : Stand p l e ({ frames := 3, cells := 1, slots := 4, locals := 38 } : Room) s m #[(.ref ab), (.ref av)] below meth c s₁ [] 0 0 := Stand.of_body Bd
  have e0 : s₁.heap = h0 := by rw [← hh, Bd.state]; rfl
  have N0 := Fr.nil n0
  have K : Keep h0 h0 [] := Keep.refl h0 []
  show own_Gd p.tables e below (own_P (Q_rm9 Z h0 n0) s ({ frames := 3, cells := 1, slots := 4, locals := 38 } : Room).cells ({ frames := 3, cells := 1, slots := 4, locals := 38 } : Room).slots) _
  refine own_go (B := s₁.setTop (mkF m 0 #[.val (.ref ab), .val (.ref av), .unset, .unset] [])) (fun t k => castTop (ef_rm9 m ab av) k) ?_
  refine own_go (B := s₁.setTop (mkF m 1 #[.val (.ref ab), .val (.ref av), .unset, .unset] [(.ref ab)])) (fun t k => ?_) ?_
  · show Steps p.tables e below (s₁.setTop (mkF m 0 #[.val (.ref ab), .val (.ref av), .unset, .unset] [])) _
    refine XS.aloadN X0.here hx rfl (hb hby d9_0) rfl rfl ?_
    show Steps p.tables e below (s₁.setTop (mkF m 1 #[.val (.ref ab), .val (.ref av), .unset, .unset] [(.ref ab)])) _
    exact k
  obtain ⟨cq1, kq1, q1a, q1b, q1c⟩ := isOf hZ e0 E_ab
  obtain ⟨_, _, ⟨T2, L2, k2, n2⟩, -, X2, ⟨Lc2, hQ2, l2, y2, z2⟩, st2⟩ := X0.interfaceBack hx (xi := (⟨"java/util/List", "iterator", "()Ljava/util/Iterator;"⟩ : MethodName)) (y := (⟨"java/util/ArrayList", "iterator", "()Ljava/util/Iterator;"⟩ : MethodName)) hown (mvT hZ (hw _ (List.mem_of_getElem? (i := 72) rfl))) (mvT hZ (hw _ (List.mem_of_getElem? (i := 73) rfl))) (mvT hZ (hw _ (List.mem_of_getElem? (i := 74) rfl))) (mvT hZ (hw _ (List.mem_of_getElem? (i := 75) rfl))) (mvT hZ (hw _ (List.mem_of_getElem? (i := 76) rfl))) (mvT hZ (hw _ (List.mem_of_getElem? (i := 77) rfl))) (mvT hZ (hw _ (List.mem_of_getElem? (i := 78) rfl))) (mvT hZ (hw _ (List.mem_of_getElem? (i := 79) rfl))) (by decide) (backOf (W := 0) (rm10 l Z a0 hw [] ab h0 n0 Z0 F_modCount_ab) hZ (hw _ (List.mem_of_getElem? (i := 80) rfl)) (hw _ (List.mem_of_getElem? (i := 5) rfl)) (by decide) (by decide)) q1a q1b q1c (g := (mkF m 1 #[.val (.ref ab), .val (.ref av), .unset, .unset] [(.ref ab)])) rfl (by rw [hml]; rfl) (Steps.refl _) (argsL := []) (rest := []) (lenOf pd_2 rfl) rfl (by show 2 * 0 + _ ≤ _; exact Nat.le_of_eq rfl) (hb hby d9_1) (fun _ _ => ⟨rfl, e0, Nat.le_of_ble_eq_true rfl, Nat.le_of_ble_eq_true rfl⟩)
  dsimp only [Pt.U, Pt.locs, Pt.cells, Pt.slots] at X2 l2 y2 z2 st2 hQ2
  subst l2 y2 z2
  obtain ⟨h2, e2⟩ : ∃ z, T2.heap = z := ⟨_, rfl⟩
  rw [e2] at hQ2
  obtain ⟨bi2, rfl, N2q, Kc2, hsz2, Ec2, Fa2, Fb2⟩ := hQ2
  have N2 := Fr.app N0 N2q
  have ne_ab_bi2 : ab ≠ bi2 := Nat.ne_of_lt (Nat.lt_of_lt_of_le E_ab.lt hsz2)
  have g_bi2 : n0 ≤ bi2 := Nat.le_trans Z0 hsz2
  have sz_bi2 : h0.size ≤ bi2 := Nat.le_trans K.1 hsz2
  have E_ab := E_ab.keep Kc2
  have F_modCount_ab := F_modCount_ab.keep Kc2 nin0
  have F_size_ab := F_size_ab.keep Kc2 nin0
  have K := K.trans Kc2 all0
  have Z0 := Nat.le_trans Z0 Kc2.1
  have E_bi2 := Ec2
  refine own_go (B := T2.setTop (mkF m 6 #[.val (.ref ab), .val (.ref av), .unset, .unset] [(.ref bi2)])) (fun t k => st2.trans k) ?_
  refine own_go (B := T2.setTop (mkF m 8 #[.val (.ref ab), .val (.ref av), .val (.ref bi2), .unset] [(.ref bi2)])) (fun t k => ?_) ?_
  · show Steps p.tables e below (T2.setTop (mkF m 6 #[.val (.ref ab), .val (.ref av), .unset, .unset] [(.ref bi2)])) _
    refine XS.astoreN X2.here hx rfl (hb hby d9_6) rfl rfl (l' := #[.val (.ref ab), .val (.ref av), .val (.ref bi2), .unset]) rfl ?_
    show Steps p.tables e below (T2.setTop (mkF m 7 #[.val (.ref ab), .val (.ref av), .val (.ref bi2), .unset] [])) _
    refine XS.aloadN X2.here hx rfl (hb hby d9_7) rfl rfl ?_
    show Steps p.tables e below (T2.setTop (mkF m 8 #[.val (.ref ab), .val (.ref av), .val (.ref bi2), .unset] [(.ref bi2)])) _
    exact k
  obtain ⟨cq3, kq3, q3a, q3b, q3c⟩ := isOf hZ e2 E_bi2
  obtain ⟨_, _, ⟨T4, L4, k4, n4⟩, -, X4, ⟨Lc4, hQ4, l4, y4, z4⟩, st4⟩ := X2.interfaceBack hx (xi := (⟨"java/util/Iterator", "hasNext", "()Z"⟩ : MethodName)) (y := (⟨"java/util/ArrayList$Itr", "hasNext", "()Z"⟩ : MethodName)) hown (mvT hZ (hw _ (List.mem_of_getElem? (i := 97) rfl))) (mvT hZ (hw _ (List.mem_of_getElem? (i := 98) rfl))) (mvT hZ (hw _ (List.mem_of_getElem? (i := 99) rfl))) (mvT hZ (hw _ (List.mem_of_getElem? (i := 100) rfl))) (mvT hZ (hw _ (List.mem_of_getElem? (i := 101) rfl))) (mvT hZ (hw _ (List.mem_of_getElem? (i := 102) rfl))) (mvT hZ (hw _ (List.mem_of_getElem? (i := 103) rfl))) (mvT hZ (hw _ (List.mem_of_getElem? (i := 104) rfl))) (by decide) (backOf (W := 0) (rm12 l Z a0 hw [] bi2 ab h2 n0 Z0 Fb2 Fa2 F_size_ab) hZ (hw _ (List.mem_of_getElem? (i := 105) rfl)) (hw _ (List.mem_of_getElem? (i := 83) rfl)) (by decide) (by decide)) q3a q3b q3c (g := (mkF m 8 #[.val (.ref ab), .val (.ref av), .val (.ref bi2), .unset] [(.ref bi2)])) rfl (by rw [hml]; rfl) (Steps.refl _) (argsL := []) (rest := []) (lenOf pd_3 rfl) rfl (by show 2 * 0 + _ ≤ _; exact Nat.le_of_eq rfl) (hb hby d9_8) (fun _ _ => ⟨rfl, e2, Nat.le_of_ble_eq_true rfl, Nat.le_of_ble_eq_true rfl⟩)
  dsimp only [Pt.U, Pt.locs, Pt.cells, Pt.slots] at X4 l4 y4 z4 st4 hQ4
  subst l4 y4 z4
  obtain ⟨h4, e4⟩ : ∃ z, T4.heap = z := ⟨_, rfl⟩
  rw [e4] at hQ4
  obtain ⟨rfl, N4q, eq4⟩ := hQ4
  have N4 := Fr.app N2 N4q
  rw [eq4] at e4
  refine own_go (B := T4.setTop (mkF m 13 #[.val (.ref ab), .val (.ref av), .val (.ref bi2), .unset] [(.int (0 : Int32))])) (fun t k => st4.trans k) ?_
  refine own_go (B := T4.setTop (mkF m 36 #[.val (.ref ab), .val (.ref av), .val (.ref bi2), .unset] [])) (fun t k => ?_) ?_
  · show Steps p.tables e below (T4.setTop (mkF m 13 #[.val (.ref ab), .val (.ref av), .val (.ref bi2), .unset] [(.int (0 : Int32))])) _
    refine XS.ifYes X4.here hx rfl (pc0 := 13) (pc' := 36) rfl (hb hby d9_13) rfl ((if0 _ _).trans (teq ((rfl : (0 : Int32) = (0 : Int32)) : (0 : Int32) = (0 : Int32))).1) (by decide) (by decide) ?_
    show Steps p.tables e below (T4.setTop (mkF m 36 #[.val (.ref ab), .val (.ref av), .val (.ref bi2), .unset] [])) _
    exact k
  obtain ⟨fs, hr, hrun, hended, hW, hsame⟩ := X4.leave (v := none) (fun _ => rfl)
  refine own_done (X4.returnOut hx Bd.returns (hb hby d9_36) hr) hrun hended ⟨_, _, rfl, ?_, ⟨_, rfl⟩, hW, hsame.mono (by decide) (by decide)⟩
  show Q_rm9 Z h0 n0 (none) T4.heap _
  rw [e4]
  exact ⟨rfl, N4, K⟩
def Q_rm8 (Z : State) (av : Addr) (kv : ClassId) (x0 x1 x2 x3 : Int64) (pz fz : Int32) (h0 : Heap) (n0 : Nat) (v : Option Value) (h : Heap) (L : List Loc) : Prop := ∃ b, v = some (.ref b) ∧ Fr n0 L ∧ Keep h0 h [av] ∧ Arv Z h av kv .long (4 : Int32) [(.long (if pz = 0 then own_fl fz else x0)), (.long (if pz = 1 then own_fl fz else x1)), (.long (if pz = 2 then own_fl fz else x2)), (.long (if pz = 3 then own_fl fz else x3))] (.long (0 : Int64))
theorem d8_0 : decode prog_8_method_2_code 0 = .ok (.aload_n 1, 1) := by decide +kernel
theorem d8_1 : decode prog_8_method_2_code 1 = .ok (.arraylength, 1) := by decide +kernel
theorem d8_2 : decode prog_8_method_2_code 2 = .ok (.aload_n 0, 1) := by decide +kernel
theorem d8_3 : decode prog_8_method_2_code 3 = .ok (.getfield 18, 3) := by decide +kernel
theorem d8_6 : decode prog_8_method_2_code 6 = .ok (.arraylength, 1) := by decide +kernel
theorem d8_7 : decode prog_8_method_2_code 7 = .ok (.if_icmp .eq 23, 3) := by decide +kernel
theorem d8_10 : decode prog_8_method_2_code 10 = .ok (.new 32, 3) := by decide +kernel
theorem d8_13 : decode prog_8_method_2_code 13 = .ok (.dup, 1) := by decide +kernel
theorem d8_14 : decode prog_8_method_2_code 14 = .ok (.aload_n 1, 1) := by decide +kernel
theorem d8_15 : decode prog_8_method_2_code 15 = .ok (.arraylength, 1) := by decide +kernel
theorem d8_16 : decode prog_8_method_2_code 16 = .ok (.aload_n 0, 1) := by decide +kernel
theorem d8_17 : decode prog_8_method_2_code 17 = .ok (.getfield 18, 3) := by decide +kernel
theorem d8_20 : decode prog_8_method_2_code 20 = .ok (.arraylength, 1) := by decide +kernel
theorem d8_21 : decode prog_8_method_2_code 21 = .ok (.invokedynamic 34, 5) := by decide +kernel
theorem d8_26 : decode prog_8_method_2_code 26 = .ok (.invokespecial 38, 3) := by decide +kernel
theorem d8_29 : decode prog_8_method_2_code 29 = .ok (.athrow, 1) := by decide +kernel
theorem d8_30 : decode prog_8_method_2_code 30 = .ok (.iconst 0, 1) := by decide +kernel
theorem d8_31 : decode prog_8_method_2_code 31 = .ok (.istore_n 2, 1) := by decide +kernel
theorem d8_32 : decode prog_8_method_2_code 32 = .ok (.iload_n 2, 1) := by decide +kernel
theorem d8_33 : decode prog_8_method_2_code 33 = .ok (.aload_n 0, 1) := by decide +kernel
theorem d8_34 : decode prog_8_method_2_code 34 = .ok (.getfield 18, 3) := by decide +kernel
theorem d8_37 : decode prog_8_method_2_code 37 = .ok (.arraylength, 1) := by decide +kernel
theorem d8_38 : decode prog_8_method_2_code 38 = .ok (.if_icmp .ge 31, 3) := by decide +kernel
theorem d8_41 : decode prog_8_method_2_code 41 = .ok (.aload_n 0, 1) := by decide +kernel
theorem d8_42 : decode prog_8_method_2_code 42 = .ok (.getfield 13, 3) := by decide +kernel
theorem d8_45 : decode prog_8_method_2_code 45 = .ok (.aload_n 0, 1) := by decide +kernel
theorem d8_46 : decode prog_8_method_2_code 46 = .ok (.getfield 18, 3) := by decide +kernel
theorem d8_49 : decode prog_8_method_2_code 49 = .ok (.iload_n 2, 1) := by decide +kernel
theorem d8_50 : decode prog_8_method_2_code 50 = .ok (.iaload, 1) := by decide +kernel
theorem d8_51 : decode prog_8_method_2_code 51 = .ok (.aload_n 1, 1) := by decide +kernel
theorem d8_52 : decode prog_8_method_2_code 52 = .ok (.iload_n 2, 1) := by decide +kernel
theorem d8_53 : decode prog_8_method_2_code 53 = .ok (.baload, 1) := by decide +kernel
theorem d8_54 : decode prog_8_method_2_code 54 = .ok (.ifCond .eq 7, 3) := by decide +kernel
theorem d8_57 : decode prog_8_method_2_code 57 = .ok (.lconst 1, 1) := by decide +kernel
theorem d8_58 : decode prog_8_method_2_code 58 = .ok (.goto 4, 3) := by decide +kernel
theorem d8_61 : decode prog_8_method_2_code 61 = .ok (.lconst 0, 1) := by decide +kernel
theorem d8_62 : decode prog_8_method_2_code 62 = .ok (.lastore, 1) := by decide +kernel
theorem d8_63 : decode prog_8_method_2_code 63 = .ok (.iinc 2 1, 3) := by decide +kernel
theorem d8_66 : decode prog_8_method_2_code 66 = .ok (.goto (-34), 3) := by decide +kernel
theorem d8_69 : decode prog_8_method_2_code 69 = .ok (.aload_n 0, 1) := by decide +kernel
theorem d8_70 : decode prog_8_method_2_code 70 = .ok (.getfield 28, 3) := by decide +kernel
theorem d8_73 : decode prog_8_method_2_code 73 = .ok (.aload_n 0, 1) := by decide +kernel
theorem d8_74 : decode prog_8_method_2_code 74 = .ok (.getfield 13, 3) := by decide +kernel
theorem d8_77 : decode prog_8_method_2_code 77 = .ok (.invokestatic 41, 3) := by decide +kernel
theorem d8_80 : decode prog_8_method_2_code 80 = .ok (.aload_n 0, 1) := by decide +kernel
theorem d8_81 : decode prog_8_method_2_code 81 = .ok (.getfield 22, 3) := by decide +kernel
theorem d8_84 : decode prog_8_method_2_code 84 = .ok (.arraylength, 1) := by decide +kernel
theorem d8_85 : decode prog_8_method_2_code 85 = .ok (.newarray .boolean, 2) := by decide +kernel
theorem d8_87 : decode prog_8_method_2_code 87 = .ok (.astore_n 2, 1) := by decide +kernel
theorem d8_88 : decode prog_8_method_2_code 88 = .ok (.iconst 0, 1) := by decide +kernel
theorem d8_89 : decode prog_8_method_2_code 89 = .ok (.istore_n 3, 1) := by decide +kernel
theorem d8_90 : decode prog_8_method_2_code 90 = .ok (.iload_n 3, 1) := by decide +kernel
theorem d8_91 : decode prog_8_method_2_code 91 = .ok (.aload_n 0, 1) := by decide +kernel
theorem d8_92 : decode prog_8_method_2_code 92 = .ok (.getfield 22, 3) := by decide +kernel
theorem d8_95 : decode prog_8_method_2_code 95 = .ok (.arraylength, 1) := by decide +kernel
theorem d8_96 : decode prog_8_method_2_code 96 = .ok (.if_icmp .ge 33, 3) := by decide +kernel
theorem d8_99 : decode prog_8_method_2_code 99 = .ok (.aload_n 2, 1) := by decide +kernel
theorem d8_100 : decode prog_8_method_2_code 100 = .ok (.iload_n 3, 1) := by decide +kernel
theorem d8_101 : decode prog_8_method_2_code 101 = .ok (.aload_n 0, 1) := by decide +kernel
theorem d8_102 : decode prog_8_method_2_code 102 = .ok (.getfield 13, 3) := by decide +kernel
theorem d8_105 : decode prog_8_method_2_code 105 = .ok (.aload_n 0, 1) := by decide +kernel
theorem d8_106 : decode prog_8_method_2_code 106 = .ok (.getfield 22, 3) := by decide +kernel
theorem d8_109 : decode prog_8_method_2_code 109 = .ok (.iload_n 3, 1) := by decide +kernel
theorem d8_110 : decode prog_8_method_2_code 110 = .ok (.iaload, 1) := by decide +kernel
theorem d8_111 : decode prog_8_method_2_code 111 = .ok (.laload, 1) := by decide +kernel
theorem d8_112 : decode prog_8_method_2_code 112 = .ok (.lconst 0, 1) := by decide +kernel
theorem d8_113 : decode prog_8_method_2_code 113 = .ok (.lcmp, 1) := by decide +kernel
theorem d8_114 : decode prog_8_method_2_code 114 = .ok (.ifCond .eq 7, 3) := by decide +kernel
theorem d8_117 : decode prog_8_method_2_code 117 = .ok (.iconst 1, 1) := by decide +kernel
theorem d8_118 : decode prog_8_method_2_code 118 = .ok (.goto 4, 3) := by decide +kernel
theorem d8_121 : decode prog_8_method_2_code 121 = .ok (.iconst 0, 1) := by decide +kernel
theorem d8_122 : decode prog_8_method_2_code 122 = .ok (.bastore, 1) := by decide +kernel
theorem d8_123 : decode prog_8_method_2_code 123 = .ok (.iinc 3 1, 3) := by decide +kernel
theorem d8_126 : decode prog_8_method_2_code 126 = .ok (.goto (-36), 3) := by decide +kernel
theorem d8_129 : decode prog_8_method_2_code 129 = .ok (.aload_n 2, 1) := by decide +kernel
theorem d8_130 : decode prog_8_method_2_code 130 = .ok (.areturn, 1) := by decide +kernel
theorem ef_rm8 (m : MethodId) (x0 : Addr) (x1 : Addr) : entryFrame m #[(.ref x0), (.ref x1)] 4 = mkF m 0 #[.val (.ref x0), .val (.ref x1), .unset, .unset] [] := by first | (simp [entryFrame, mkF, argsToLocals, Value.category, maxLocals]; done) | rfl
set_option maxRecDepth 65536 in
set_option maxHeartbeats 40000000 in
theorem rm8 (l : Launch) (Z : State) (a0 : Array Value) (hw : ∀ d ∈ tables_1, d.before a0 Z = true) (ws : List Jvm.Cond) (a1 ai ao aw ab av : Addr) (ki ko kw kv : ClassId) (x0 x1 x2 x3 : Int64) (pz fz : Int32) (h0 : Heap) (n0 : Nat) (Z0 : n0 ≤ h0.size) (F_values_a1 : Fld Z h0 a1 "com/example/controller_synthesis/controllersynthesis/output/FunctionBlock" "values" "[J" (.ref av)) (F_inputs_a1 : Fld Z h0 a1 "com/example/controller_synthesis/controllersynthesis/output/FunctionBlock" "inputs" "[I" (.ref ai)) (F_outputs_a1 : Fld Z h0 a1 "com/example/controller_synthesis/controllersynthesis/output/FunctionBlock" "outputs" "[I" (.ref ao)) (F_body_a1 : Fld Z h0 a1 "com/example/controller_synthesis/controllersynthesis/output/FunctionBlock" "body" "Ljava/util/List;" (.ref ab)) (V_ai : Arv Z h0 ai ki .int (1 : Int32) [(.int pz)] (.int (0 : Int32))) (V_ao : Arv Z h0 ao ko .int (0 : Int32) [] (.int (0 : Int32))) (V_aw : Arv Z h0 aw kw .boolean (1 : Int32) [(.int fz)] (.int (0 : Int32))) (E_ab : Exa Z h0 ab "java/util/ArrayList") (F_modCount_ab : Fld Z h0 ab "java/util/AbstractList" "modCount" "I" (.int (0 : Int32))) (F_size_ab : Fld Z h0 ab "java/util/ArrayList" "size" "I" (.int (0 : Int32))) (V_av : Arv Z h0 av kv .long (4 : Int32) [(.long x0), (.long x1), (.long x2), (.long x3)] (.long (0 : Int64))) (r_p : 0 ≤ pz.toInt ∧ pz.toInt < 4) (g_av : n0 ≤ av) (ne_a1_av : a1 ≠ av) (ne_ai_av : ai ≠ av) (ne_ao_av : ao ≠ av) (ne_aw_av : aw ≠ av) (ne_ab_av : ab ≠ av) :
    MetFree l (⟨"com/example/controller_synthesis/controllersynthesis/output/FunctionBlock", "call", "([Z)[Z"⟩ : MethodName) (head1 (Jvm.Cond.code (⟨"com/example/controller_synthesis/controllersynthesis/output/FunctionBlock", "call", "([Z)[Z"⟩ : MethodName) prog_8_method_2_code 4 (some (.array .boolean)) :: ws) ({ frames := 4, cells := 2, slots := 4, locals := 53 } : Room)) (fun a U => a = #[(.ref a1), (.ref aw)] ∧ Z.Warmed39 U.vm ∧ U.heap = h0) (fun _ _ _ _ _ => True) (fun _ U o U' => ∃ v L, o = .returned v ∧ Q_rm8 Z av kv x0 x1 x2 x3 pz fz h0 n0 v U'.heap L ∧ FrameEnd U o U' L ({ frames := 4, cells := 2, slots := 4, locals := 53 } : Room).cells ({ frames := 4, cells := 2, slots := 4, locals := 53 } : Room).slots) := by
  refine MetFree.of_bodySF (plainFor_of_name pn_8) hisR ?_
  intro p e s m args below meth c s₁ Bd hml0 hP hK
  obtain ⟨rfl, hZ, hh⟩ := hP
  have hx := Bd.exec
  have hby := Bd.bytes
  have hml : c.maxLocals = 4 := hml0
  have hown : s.vm.findClass "com/example/controller_synthesis/controllersynthesis/output/FunctionBlock" = some m.cls := findClass_of_methodNamed Bd.named
  have hnm := (name_of_methodNamed Bd.named Bd.method).1
  have X0 : Stand p l e ({ frames := 4, cells := 2, slots := 4, locals := 53 } : Room) s m #[(.ref a1), (.ref aw)] below meth c s₁ [] 0 0 := Stand.of_body Bd
  have e0 : s₁.heap = h0 := by rw [← hh, Bd.state]; rfl
  have N0 := Fr.nil n0
  have K : Keep h0 h0 [av] := Keep.refl h0 [av]
  show own_Gd p.tables e below (own_P (Q_rm8 Z av kv x0 x1 x2 x3 pz fz h0 n0) s ({ frames := 4, cells := 2, slots := 4, locals := 53 } : Room).cells ({ frames := 4, cells := 2, slots := 4, locals := 53 } : Room).slots) _
  refine own_go (B := s₁.setTop (mkF m 0 #[.val (.ref a1), .val (.ref aw), .unset, .unset] [])) (fun t k => castTop (ef_rm8 m a1 aw) k) ?_
  refine own_go (B := s₁.setTop (mkF m 1 #[.val (.ref a1), .val (.ref aw), .unset, .unset] [(.ref aw)])) (fun t k => ?_) ?_
  · show Steps p.tables e below (s₁.setTop (mkF m 0 #[.val (.ref a1), .val (.ref aw), .unset, .unset] [])) _
    refine XS.aloadN X0.here hx rfl (hb hby d8_0) rfl rfl ?_
    show Steps p.tables e below (s₁.setTop (mkF m 1 #[.val (.ref a1), .val (.ref aw), .unset, .unset] [(.ref aw)])) _
    exact k
  obtain ⟨cl1, Ar1, qa1, Sa1, Na1, Ha1, Ga1⟩ := id V_aw
  refine own_go (B := s₁.setTop (mkF m 3 #[.val (.ref a1), .val (.ref aw), .unset, .unset] [(.ref a1), (.int (1 : Int32))])) (fun t k => ?_) ?_
  · show Steps p.tables e below (s₁.setTop (mkF m 1 #[.val (.ref a1), .val (.ref aw), .unset, .unset] [(.ref aw)])) _
    refine X0.arraylength hx (by rw [e0]; exact Ar1.1) (State.isArrayOf_alike hZ.alike Ar1.2.1) (g := (mkF m 1 #[.val (.ref a1), .val (.ref aw), .unset, .unset] [(.ref aw)])) rfl rfl (hb hby d8_1) _ ?_
    rw [len_of Sa1 Na1]
    show Steps p.tables e below (s₁.setTop (mkF m 2 #[.val (.ref a1), .val (.ref aw), .unset, .unset] [(.int (1 : Int32))])) _
    refine XS.aloadN X0.here hx rfl (hb hby d8_2) rfl rfl ?_
    show Steps p.tables e below (s₁.setTop (mkF m 3 #[.val (.ref a1), .val (.ref aw), .unset, .unset] [(.ref a1), (.int (1 : Int32))])) _
    exact k
  obtain ⟨T2, X2, e2, st2⟩ := getF X0 hx hZ hown (host := "") (Or.inl (hw _ (List.mem_of_getElem? (i := 47) rfl))) Via.refl e0 F_inputs_a1 (g := (mkF m 3 #[.val (.ref a1), .val (.ref aw), .unset, .unset] [(.ref a1), (.int (1 : Int32))])) rfl rfl (hb hby d8_3)
  refine own_go (B := T2.setTop (mkF m 6 #[.val (.ref a1), .val (.ref aw), .unset, .unset] [(.ref ai), (.int (1 : Int32))])) st2 ?_
  obtain ⟨cl3, Ar3, qa3, Sa3, Na3, Ha3, Ga3⟩ := id V_ai
  refine own_go (B := T2.setTop (mkF m 34 #[.val (.ref a1), .val (.ref aw), .val (.int (0 : Int32)), .unset] [(.ref a1), (.int (0 : Int32))])) (fun t k => ?_) ?_
  · show Steps p.tables e below (T2.setTop (mkF m 6 #[.val (.ref a1), .val (.ref aw), .unset, .unset] [(.ref ai), (.int (1 : Int32))])) _
    refine X2.arraylength hx (by rw [e2]; exact Ar3.1) (State.isArrayOf_alike hZ.alike Ar3.2.1) (g := (mkF m 6 #[.val (.ref a1), .val (.ref aw), .unset, .unset] [(.ref ai), (.int (1 : Int32))])) rfl rfl (hb hby d8_6) _ ?_
    rw [len_of Sa3 Na3]
    show Steps p.tables e below (T2.setTop (mkF m 7 #[.val (.ref a1), .val (.ref aw), .unset, .unset] [(.int (1 : Int32)), (.int (1 : Int32))])) _
    refine XS.icmpYes X2.here hx rfl (pc0 := 7) (pc' := 30) rfl (hb hby d8_7) rfl (teq ((rfl : (1 : Int32) = (1 : Int32)) : (1 : Int32) = (1 : Int32))).1 (by decide) (by decide) ?_
    show Steps p.tables e below (T2.setTop (mkF m 30 #[.val (.ref a1), .val (.ref aw), .unset, .unset] [])) _
    refine XS.iconst X2.here hx rfl (hb hby d8_30) ?_
    show Steps p.tables e below (T2.setTop (mkF m 31 #[.val (.ref a1), .val (.ref aw), .unset, .unset] [(.int (0 : Int32))])) _
    refine XS.istoreN X2.here hx rfl (hb hby d8_31) rfl (l' := #[.val (.ref a1), .val (.ref aw), .val (.int (0 : Int32)), .unset]) rfl ?_
    show Steps p.tables e below (T2.setTop (mkF m 32 #[.val (.ref a1), .val (.ref aw), .val (.int (0 : Int32)), .unset] [])) _
    refine XS.iloadN X2.here hx rfl (hb hby d8_32) rfl ?_
    show Steps p.tables e below (T2.setTop (mkF m 33 #[.val (.ref a1), .val (.ref aw), .val (.int (0 : Int32)), .unset] [(.int (0 : Int32))])) _
    refine XS.aloadN X2.here hx rfl (hb hby d8_33) rfl rfl ?_
    show Steps p.tables e below (T2.setTop (mkF m 34 #[.val (.ref a1), .val (.ref aw), .val (.int (0 : Int32)), .unset] [(.ref a1), (.int (0 : Int32))])) _
    exact k
  obtain ⟨T4, X4, e4, st4⟩ := getF X2 hx hZ hown (host := "") (Or.inl (hw _ (List.mem_of_getElem? (i := 47) rfl))) Via.refl e2 F_inputs_a1 (g := (mkF m 34 #[.val (.ref a1), .val (.ref aw), .val (.int (0 : Int32)), .unset] [(.ref a1), (.int (0 : Int32))])) rfl rfl (hb hby d8_34)
  refine own_go (B := T4.setTop (mkF m 37 #[.val (.ref a1), .val (.ref aw), .val (.int (0 : Int32)), .unset] [(.ref ai), (.int (0 : Int32))])) st4 ?_
  obtain ⟨cl5, Ar5, qa5, Sa5, Na5, Ha5, Ga5⟩ := id V_ai
  refine own_go (B := T4.setTop (mkF m 42 #[.val (.ref a1), .val (.ref aw), .val (.int (0 : Int32)), .unset] [(.ref a1)])) (fun t k => ?_) ?_
  · show Steps p.tables e below (T4.setTop (mkF m 37 #[.val (.ref a1), .val (.ref aw), .val (.int (0 : Int32)), .unset] [(.ref ai), (.int (0 : Int32))])) _
    refine X4.arraylength hx (by rw [e4]; exact Ar5.1) (State.isArrayOf_alike hZ.alike Ar5.2.1) (g := (mkF m 37 #[.val (.ref a1), .val (.ref aw), .val (.int (0 : Int32)), .unset] [(.ref ai), (.int (0 : Int32))])) rfl rfl (hb hby d8_37) _ ?_
    rw [len_of Sa5 Na5]
    show Steps p.tables e below (T4.setTop (mkF m 38 #[.val (.ref a1), .val (.ref aw), .val (.int (0 : Int32)), .unset] [(.int (1 : Int32)), (.int (0 : Int32))])) _
    refine XS.icmpNo X4.here hx rfl (hb hby d8_38) rfl (tlt (by decide : (0 : Int32) < (1 : Int32))).2.1 ?_
    show Steps p.tables e below (T4.setTop (mkF m 41 #[.val (.ref a1), .val (.ref aw), .val (.int (0 : Int32)), .unset] [])) _
    refine XS.aloadN X4.here hx rfl (hb hby d8_41) rfl rfl ?_
    show Steps p.tables e below (T4.setTop (mkF m 42 #[.val (.ref a1), .val (.ref aw), .val (.int (0 : Int32)), .unset] [(.ref a1)])) _
    exact k
  obtain ⟨T6, X6, e6, st6⟩ := getF X4 hx hZ hown (host := "") (Or.inl (hw _ (List.mem_of_getElem? (i := 45) rfl))) Via.refl e4 F_values_a1 (g := (mkF m 42 #[.val (.ref a1), .val (.ref aw), .val (.int (0 : Int32)), .unset] [(.ref a1)])) rfl rfl (hb hby d8_42)
  refine own_go (B := T6.setTop (mkF m 45 #[.val (.ref a1), .val (.ref aw), .val (.int (0 : Int32)), .unset] [(.ref av)])) st6 ?_
  refine own_go (B := T6.setTop (mkF m 46 #[.val (.ref a1), .val (.ref aw), .val (.int (0 : Int32)), .unset] [(.ref a1), (.ref av)])) (fun t k => ?_) ?_
  · show Steps p.tables e below (T6.setTop (mkF m 45 #[.val (.ref a1), .val (.ref aw), .val (.int (0 : Int32)), .unset] [(.ref av)])) _
    refine XS.aloadN X6.here hx rfl (hb hby d8_45) rfl rfl ?_
    show Steps p.tables e below (T6.setTop (mkF m 46 #[.val (.ref a1), .val (.ref aw), .val (.int (0 : Int32)), .unset] [(.ref a1), (.ref av)])) _
    exact k
  obtain ⟨T7, X7, e7, st7⟩ := getF X6 hx hZ hown (host := "") (Or.inl (hw _ (List.mem_of_getElem? (i := 47) rfl))) Via.refl e6 F_inputs_a1 (g := (mkF m 46 #[.val (.ref a1), .val (.ref aw), .val (.int (0 : Int32)), .unset] [(.ref a1), (.ref av)])) rfl rfl (hb hby d8_46)
  refine own_go (B := T7.setTop (mkF m 49 #[.val (.ref a1), .val (.ref aw), .val (.int (0 : Int32)), .unset] [(.ref ai), (.ref av)])) st7 ?_
  refine own_go (B := T7.setTop (mkF m 50 #[.val (.ref a1), .val (.ref aw), .val (.int (0 : Int32)), .unset] [(.int (0 : Int32)), (.ref ai), (.ref av)])) (fun t k => ?_) ?_
  · show Steps p.tables e below (T7.setTop (mkF m 49 #[.val (.ref a1), .val (.ref aw), .val (.int (0 : Int32)), .unset] [(.ref ai), (.ref av)])) _
    refine XS.iloadN X7.here hx rfl (hb hby d8_49) rfl ?_
    show Steps p.tables e below (T7.setTop (mkF m 50 #[.val (.ref a1), .val (.ref aw), .val (.int (0 : Int32)), .unset] [(.int (0 : Int32)), (.ref ai), (.ref av)])) _
    exact k
  obtain ⟨cl8, Ar8, qa8, Sa8, Na8, Ha8, Ga8⟩ := id V_ai
  have hin8 : ¬ ((0 : Int32) < 0 ∨ cl8.slots.size ≤ ((0 : Int32)).toNatClampNeg) := inb_of Sa8 ⟨by decide, by decide⟩
  have hat8 : cl8.slots[((0 : Int32)).toNatClampNeg]? = some (.int pz) := Ha8.at hin8 rfl
  refine own_go (B := T7.setTop (mkF m 53 #[.val (.ref a1), .val (.ref aw), .val (.int (0 : Int32)), .unset] [(.int (0 : Int32)), (.ref aw), (.int pz), (.ref av)])) (fun t k => ?_) ?_
  · show Steps p.tables e below (T7.setTop (mkF m 50 #[.val (.ref a1), .val (.ref aw), .val (.int (0 : Int32)), .unset] [(.int (0 : Int32)), (.ref ai), (.ref av)])) _
    refine X7.iaload hx (j := (0 : Int32)) (v := (.int pz)) (by rw [e7]; exact Ar8.1) (State.isArrayOf_alike hZ.alike Ar8.2.1) Ar8.2.2 hin8 hat8 (g := (mkF m 50 #[.val (.ref a1), .val (.ref aw), .val (.int (0 : Int32)), .unset] [(.int (0 : Int32)), (.ref ai), (.ref av)])) rfl rfl (hb hby d8_50) _ ?_
    show Steps p.tables e below (T7.setTop (mkF m 51 #[.val (.ref a1), .val (.ref aw), .val (.int (0 : Int32)), .unset] [(.int pz), (.ref av)])) _
    refine XS.aloadN X7.here hx rfl (hb hby d8_51) rfl rfl ?_
    show Steps p.tables e below (T7.setTop (mkF m 52 #[.val (.ref a1), .val (.ref aw), .val (.int (0 : Int32)), .unset] [(.ref aw), (.int pz), (.ref av)])) _
    refine XS.iloadN X7.here hx rfl (hb hby d8_52) rfl ?_
    show Steps p.tables e below (T7.setTop (mkF m 53 #[.val (.ref a1), .val (.ref aw), .val (.int (0 : Int32)), .unset] [(.int (0 : Int32)), (.ref aw), (.int pz), (.ref av)])) _
    exact k
  obtain ⟨cl9, Ar9, qa9, Sa9, Na9, Ha9, Ga9⟩ := id V_aw
  have hin9 : ¬ ((0 : Int32) < 0 ∨ cl9.slots.size ≤ ((0 : Int32)).toNatClampNeg) := inb_of Sa9 ⟨by decide, by decide⟩
  have hat9 : cl9.slots[((0 : Int32)).toNatClampNeg]? = some (.int fz) := Ha9.at hin9 rfl
  refine own_go (B := T7.setTop (mkF m 54 #[.val (.ref a1), .val (.ref aw), .val (.int (0 : Int32)), .unset] [(.int fz), (.int pz), (.ref av)])) (fun t k => ?_) ?_
  · show Steps p.tables e below (T7.setTop (mkF m 53 #[.val (.ref a1), .val (.ref aw), .val (.int (0 : Int32)), .unset] [(.int (0 : Int32)), (.ref aw), (.int pz), (.ref av)])) _
    refine X7.baloadBooleans hx (j := (0 : Int32)) (v := (.int fz)) (by rw [e7]; exact Ar9.1) (State.isArrayOf_alike hZ.alike Ar9.2.1) Ar9.2.2 hin9 hat9 (g := (mkF m 53 #[.val (.ref a1), .val (.ref aw), .val (.int (0 : Int32)), .unset] [(.int (0 : Int32)), (.ref aw), (.int pz), (.ref av)])) rfl rfl (hb hby d8_53) _ ?_
    show Steps p.tables e below (T7.setTop (mkF m 54 #[.val (.ref a1), .val (.ref aw), .val (.int (0 : Int32)), .unset] [(.int fz), (.int pz), (.ref av)])) _
    exact k
  have J62 : ∀ (TJ : State) (LJ : List Loc) (XJ : Stand p l e ({ frames := 4, cells := 2, slots := 4, locals := 53 } : Room) s m #[(.ref a1), (.ref aw)] below meth c TJ LJ 0 0) (NJ : Fr n0 LJ) (eJ : TJ.heap = h0) (z : Int64), (z = own_fl fz) → own_Gd p.tables e below (own_P (Q_rm8 Z av kv x0 x1 x2 x3 pz fz h0 n0) s ({ frames := 4, cells := 2, slots := 4, locals := 53 } : Room).cells ({ frames := 4, cells := 2, slots := 4, locals := 53 } : Room).slots) (TJ.setTop (mkF m 62 #[.val (.ref a1), .val (.ref aw), .val (.int (0 : Int32)), .unset] [(.long z), (.int pz), (.ref av)])) := by
    intro T10 L10 X10 N10 e10 z hz
    obtain ⟨cl11, Ar11, qa11, Sa11, Na11, Ha11, Ga11⟩ := id V_av
    have hin11 : ¬ (pz < 0 ∨ cl11.slots.size ≤ (pz).toNatClampNeg) := inb_of Sa11 (own_in4 r_p)
    obtain ⟨T12, h12, X12, e12, W12, st12⟩ := stJ X10 hx hZ e10 Ar11 (j := pz) hin11 (g := (mkF m 62 #[.val (.ref a1), .val (.ref aw), .val (.int (0 : Int32)), .unset] [(.long z), (.int pz), (.ref av)])) rfl rfl (hb hby d8_62)
    have F_values_a1 := F_values_a1.other W12 (Or.inl ne_a1_av)
    have F_inputs_a1 := F_inputs_a1.other W12 (Or.inl ne_a1_av)
    have F_outputs_a1 := F_outputs_a1.other W12 (Or.inl ne_a1_av)
    have F_body_a1 := F_body_a1.other W12 (Or.inl ne_a1_av)
    have V_ai := V_ai.other W12 ne_ai_av
    have V_ao := V_ao.other W12 ne_ao_av
    have V_aw := V_aw.other W12 ne_aw_av
    have E_ab := E_ab.wr W12
    have F_modCount_ab := F_modCount_ab.other W12 (Or.inl ne_ab_av)
    have F_size_ab := F_size_ab.other W12 (Or.inl ne_ab_av)
    have Z0 := Nat.le_trans Z0 (Nat.le_of_eq W12.size.symm)
    have V_av : Arv Z h12 av kv .long (4 : Int32) [(.long (if pz = 0 then z else x0)), (.long (if pz = 1 then z else x1)), (.long (if pz = 2 then z else x2)), (.long (if pz = 3 then z else x3))] (.long (0 : Int64)) := (Arv.set Ar11 qa11 Sa11 Na11 Ha11 Ga11 rfl W12 _ rfl (own_len4 r_p _ _ _ _)).pad (own_set4 r_p _ _ _ _ _ _)
    have K := K.wr W12 (Or.inl (List.mem_of_getElem? (i := 0) rfl))
    have N12 := Fr.snoc X12 N10 g_av
    refine own_go (B := T12.setTop (mkF m 63 #[.val (.ref a1), .val (.ref aw), .val (.int (0 : Int32)), .unset] [])) st12 ?_
    refine own_go (B := T12.setTop (mkF m 34 #[.val (.ref a1), .val (.ref aw), .val (.int (1 : Int32)), .unset] [(.ref a1), (.int (1 : Int32))])) (fun t k => ?_) ?_
    · show Steps p.tables e below (T12.setTop (mkF m 63 #[.val (.ref a1), .val (.ref aw), .val (.int (0 : Int32)), .unset] [])) _
      refine XS.iinc X12.here hx rfl (hb hby d8_63) rfl (l' := #[.val (.ref a1), .val (.ref aw), .val (.int (1 : Int32)), .unset]) rfl ?_
      show Steps p.tables e below (T12.setTop (mkF m 66 #[.val (.ref a1), .val (.ref aw), .val (.int (1 : Int32)), .unset] [])) _
      refine XS.goto X12.here hx rfl (pc0 := 66) (pc' := 32) rfl (hb hby d8_66) (by decide) (by decide) ?_
      show Steps p.tables e below (T12.setTop (mkF m 32 #[.val (.ref a1), .val (.ref aw), .val (.int (1 : Int32)), .unset] [])) _
      refine XS.iloadN X12.here hx rfl (hb hby d8_32) rfl ?_
      show Steps p.tables e below (T12.setTop (mkF m 33 #[.val (.ref a1), .val (.ref aw), .val (.int (1 : Int32)), .unset] [(.int (1 : Int32))])) _
      refine XS.aloadN X12.here hx rfl (hb hby d8_33) rfl rfl ?_
      show Steps p.tables e below (T12.setTop (mkF m 34 #[.val (.ref a1), .val (.ref aw), .val (.int (1 : Int32)), .unset] [(.ref a1), (.int (1 : Int32))])) _
      exact k
    obtain ⟨T13, X13, e13, st13⟩ := getF X12 hx hZ hown (host := "") (Or.inl (hw _ (List.mem_of_getElem? (i := 47) rfl))) Via.refl e12 F_inputs_a1 (g := (mkF m 34 #[.val (.ref a1), .val (.ref aw), .val (.int (1 : Int32)), .unset] [(.ref a1), (.int (1 : Int32))])) rfl rfl (hb hby d8_34)
    refine own_go (B := T13.setTop (mkF m 37 #[.val (.ref a1), .val (.ref aw), .val (.int (1 : Int32)), .unset] [(.ref ai), (.int (1 : Int32))])) st13 ?_
    obtain ⟨cl14, Ar14, qa14, Sa14, Na14, Ha14, Ga14⟩ := id V_ai
    refine own_go (B := T13.setTop (mkF m 70 #[.val (.ref a1), .val (.ref aw), .val (.int (1 : Int32)), .unset] [(.ref a1)])) (fun t k => ?_) ?_
    · show Steps p.tables e below (T13.setTop (mkF m 37 #[.val (.ref a1), .val (.ref aw), .val (.int (1 : Int32)), .unset] [(.ref ai), (.int (1 : Int32))])) _
      refine X13.arraylength hx (by rw [e13]; exact Ar14.1) (State.isArrayOf_alike hZ.alike Ar14.2.1) (g := (mkF m 37 #[.val (.ref a1), .val (.ref aw), .val (.int (1 : Int32)), .unset] [(.ref ai), (.int (1 : Int32))])) rfl rfl (hb hby d8_37) _ ?_
      rw [len_of Sa14 Na14]
      show Steps p.tables e below (T13.setTop (mkF m 38 #[.val (.ref a1), .val (.ref aw), .val (.int (1 : Int32)), .unset] [(.int (1 : Int32)), (.int (1 : Int32))])) _
      refine XS.icmpYes X13.here hx rfl (pc0 := 38) (pc' := 69) rfl (hb hby d8_38) rfl (flt (by decide : ¬ ((1 : Int32) < (1 : Int32)))).2.1 (by decide) (by decide) ?_
      show Steps p.tables e below (T13.setTop (mkF m 69 #[.val (.ref a1), .val (.ref aw), .val (.int (1 : Int32)), .unset] [])) _
      refine XS.aloadN X13.here hx rfl (hb hby d8_69) rfl rfl ?_
      show Steps p.tables e below (T13.setTop (mkF m 70 #[.val (.ref a1), .val (.ref aw), .val (.int (1 : Int32)), .unset] [(.ref a1)])) _
      exact k
    obtain ⟨T15, X15, e15, st15⟩ := getF X13 hx hZ hown (host := "") (Or.inl (hw _ (List.mem_of_getElem? (i := 53) rfl))) Via.refl e13 F_body_a1 (g := (mkF m 70 #[.val (.ref a1), .val (.ref aw), .val (.int (1 : Int32)), .unset] [(.ref a1)])) rfl rfl (hb hby d8_70)
    refine own_go (B := T15.setTop (mkF m 73 #[.val (.ref a1), .val (.ref aw), .val (.int (1 : Int32)), .unset] [(.ref ab)])) st15 ?_
    refine own_go (B := T15.setTop (mkF m 74 #[.val (.ref a1), .val (.ref aw), .val (.int (1 : Int32)), .unset] [(.ref a1), (.ref ab)])) (fun t k => ?_) ?_
    · show Steps p.tables e below (T15.setTop (mkF m 73 #[.val (.ref a1), .val (.ref aw), .val (.int (1 : Int32)), .unset] [(.ref ab)])) _
      refine XS.aloadN X15.here hx rfl (hb hby d8_73) rfl rfl ?_
      show Steps p.tables e below (T15.setTop (mkF m 74 #[.val (.ref a1), .val (.ref aw), .val (.int (1 : Int32)), .unset] [(.ref a1), (.ref ab)])) _
      exact k
    obtain ⟨T16, X16, e16, st16⟩ := getF X15 hx hZ hown (host := "") (Or.inl (hw _ (List.mem_of_getElem? (i := 45) rfl))) Via.refl e15 F_values_a1 (g := (mkF m 74 #[.val (.ref a1), .val (.ref aw), .val (.int (1 : Int32)), .unset] [(.ref a1), (.ref ab)])) rfl rfl (hb hby d8_74)
    refine own_go (B := T16.setTop (mkF m 77 #[.val (.ref a1), .val (.ref aw), .val (.int (1 : Int32)), .unset] [(.ref av), (.ref ab)])) st16 ?_
    obtain ⟨_, _, ⟨T17, L17, k17, n17⟩, -, X17, ⟨Lc17, hQ17, l17, y17, z17⟩, st17⟩ := Jvm.LawKit.callS X16 hx (y := (⟨"com/example/controller_synthesis/controllersynthesis/output/FunctionBlock", "execute", "(Ljava/util/List;[J)V"⟩ : MethodName)) hown (mvT hZ (hw _ (List.mem_of_getElem? (i := 69) rfl))) (mvT hZ (hw _ (List.mem_of_getElem? (i := 70) rfl))) (mvT hZ (hw _ (List.mem_of_getElem? (i := 31) rfl))) (mvT hZ (hw _ (List.mem_of_getElem? (i := 71) rfl))) (by decide) (backOf (W := 0) (rm9 l Z a0 hw [] ab av h12 n0 Z0 E_ab F_modCount_ab F_size_ab) hZ (hw _ (List.mem_of_getElem? (i := 71) rfl)) (hw _ (List.mem_of_getElem? (i := 31) rfl)) (by decide) (by decide)) (g := (mkF m 77 #[.val (.ref a1), .val (.ref aw), .val (.int (1 : Int32)), .unset] [(.ref av), (.ref ab)])) rfl (by rw [hml]; rfl) (argsL := [(.ref ab), (.ref av)]) (rest := []) (lenOf pd_4 rfl) rfl (by show 2 * 0 + _ ≤ _; exact Nat.le_of_eq rfl) (hb hby d8_77) (fun _ _ => ⟨rfl, e16, Nat.le_of_ble_eq_true rfl, Nat.le_of_ble_eq_true rfl⟩)
    dsimp only [Pt.U, Pt.locs, Pt.cells, Pt.slots] at X17 l17 y17 z17 st17 hQ17
    subst l17 y17 z17
    obtain ⟨h17, e17⟩ : ∃ z, T17.heap = z := ⟨_, rfl⟩
    rw [e17] at hQ17
    obtain ⟨rfl, N17q, Kc17⟩ := hQ17
    have N17 := Fr.app N12 N17q
    have F_values_a1 := F_values_a1.keep Kc17 nin0
    have F_inputs_a1 := F_inputs_a1.keep Kc17 nin0
    have F_outputs_a1 := F_outputs_a1.keep Kc17 nin0
    have F_body_a1 := F_body_a1.keep Kc17 nin0
    have V_ai := V_ai.keep Kc17 nin0
    have V_ao := V_ao.keep Kc17 nin0
    have V_aw := V_aw.keep Kc17 nin0
    have E_ab := E_ab.keep Kc17
    have F_modCount_ab := F_modCount_ab.keep Kc17 nin0
    have F_size_ab := F_size_ab.keep Kc17 nin0
    have V_av := V_av.keep Kc17 nin0
    have K := K.trans Kc17 all0
    have Z0 := Nat.le_trans Z0 Kc17.1
    refine own_go (B := T17.setTop (mkF m 80 #[.val (.ref a1), .val (.ref aw), .val (.int (1 : Int32)), .unset] [])) st17 ?_
    refine own_go (B := T17.setTop (mkF m 81 #[.val (.ref a1), .val (.ref aw), .val (.int (1 : Int32)), .unset] [(.ref a1)])) (fun t k => ?_) ?_
    · show Steps p.tables e below (T17.setTop (mkF m 80 #[.val (.ref a1), .val (.ref aw), .val (.int (1 : Int32)), .unset] [])) _
      refine XS.aloadN X17.here hx rfl (hb hby d8_80) rfl rfl ?_
      show Steps p.tables e below (T17.setTop (mkF m 81 #[.val (.ref a1), .val (.ref aw), .val (.int (1 : Int32)), .unset] [(.ref a1)])) _
      exact k
    obtain ⟨T18, X18, e18, st18⟩ := getF X17 hx hZ hown (host := "") (Or.inl (hw _ (List.mem_of_getElem? (i := 49) rfl))) Via.refl e17 F_outputs_a1 (g := (mkF m 81 #[.val (.ref a1), .val (.ref aw), .val (.int (1 : Int32)), .unset] [(.ref a1)])) rfl rfl (hb hby d8_81)
    refine own_go (B := T18.setTop (mkF m 84 #[.val (.ref a1), .val (.ref aw), .val (.int (1 : Int32)), .unset] [(.ref ao)])) st18 ?_
    obtain ⟨cl19, Ar19, qa19, Sa19, Na19, Ha19, Ga19⟩ := id V_ao
    refine own_go (B := T18.setTop (mkF m 85 #[.val (.ref a1), .val (.ref aw), .val (.int (1 : Int32)), .unset] [(.int (0 : Int32))])) (fun t k => ?_) ?_
    · show Steps p.tables e below (T18.setTop (mkF m 84 #[.val (.ref a1), .val (.ref aw), .val (.int (1 : Int32)), .unset] [(.ref ao)])) _
      refine X18.arraylength hx (by rw [e18]; exact Ar19.1) (State.isArrayOf_alike hZ.alike Ar19.2.1) (g := (mkF m 84 #[.val (.ref a1), .val (.ref aw), .val (.int (1 : Int32)), .unset] [(.ref ao)])) rfl rfl (hb hby d8_84) _ ?_
      rw [len_of Sa19 Na19]
      show Steps p.tables e below (T18.setTop (mkF m 85 #[.val (.ref a1), .val (.ref aw), .val (.int (1 : Int32)), .unset] [(.int (0 : Int32))])) _
      exact k
    obtain ⟨T20, h20, k20, X20, e20, E20, A20, st20⟩ := newP X18 hx hZ (hw _ (List.mem_of_getElem? (i := 2) rfl)) e18 (g := (mkF m 85 #[.val (.ref a1), .val (.ref aw), .val (.int (1 : Int32)), .unset] [(.int (0 : Int32))])) rfl (hb hby d8_85) rfl (by decide) (cap := 0) (by decide) (by decide) (by decide) (by decide)
    obtain ⟨b20, g20⟩ : ∃ z, z = h17.size := ⟨_, rfl⟩
    rw [← g20] at A20 st20
    have ne_a1_b20 : a1 ≠ b20 := Nat.ne_of_lt (Nat.lt_of_lt_of_le F_values_a1.lt (Nat.le_of_eq g20.symm))
    have ne_ai_b20 : ai ≠ b20 := Nat.ne_of_lt (Nat.lt_of_lt_of_le V_ai.lt (Nat.le_of_eq g20.symm))
    have ne_ao_b20 : ao ≠ b20 := Nat.ne_of_lt (Nat.lt_of_lt_of_le V_ao.lt (Nat.le_of_eq g20.symm))
    have ne_aw_b20 : aw ≠ b20 := Nat.ne_of_lt (Nat.lt_of_lt_of_le V_aw.lt (Nat.le_of_eq g20.symm))
    have ne_ab_b20 : ab ≠ b20 := Nat.ne_of_lt (Nat.lt_of_lt_of_le E_ab.lt (Nat.le_of_eq g20.symm))
    have ne_av_b20 : av ≠ b20 := Nat.ne_of_lt (Nat.lt_of_lt_of_le V_av.lt (Nat.le_of_eq g20.symm))
    have g_b20 : n0 ≤ b20 := Nat.le_trans Z0 (Nat.le_of_eq g20.symm)
    have sz_b20 : h0.size ≤ b20 := Nat.le_trans K.1 (Nat.le_of_eq g20.symm)
    have F_values_a1 := F_values_a1.ext E20
    have F_inputs_a1 := F_inputs_a1.ext E20
    have F_outputs_a1 := F_outputs_a1.ext E20
    have F_body_a1 := F_body_a1.ext E20
    have V_ai := V_ai.ext E20
    have V_ao := V_ao.ext E20
    have V_aw := V_aw.ext E20
    have E_ab := E_ab.ext E20
    have F_modCount_ab := F_modCount_ab.ext E20
    have F_size_ab := F_size_ab.ext E20
    have V_av := V_av.ext E20
    have K := K.ext E20
    have Z0 := Nat.le_trans Z0 E20.1
    have V_b20 : Arv Z h20 b20 k20 .boolean (0 : Int32) [] (.int (0 : Int32)) := Arv.new A20 (by decide)
    refine own_go (B := T20.setTop (mkF m 87 #[.val (.ref a1), .val (.ref aw), .val (.int (1 : Int32)), .unset] [(.ref b20)])) st20 ?_
    refine own_go (B := T20.setTop (mkF m 92 #[.val (.ref a1), .val (.ref aw), .val (.ref b20), .val (.int (0 : Int32))] [(.ref a1), (.int (0 : Int32))])) (fun t k => ?_) ?_
    · show Steps p.tables e below (T20.setTop (mkF m 87 #[.val (.ref a1), .val (.ref aw), .val (.int (1 : Int32)), .unset] [(.ref b20)])) _
      refine XS.astoreN X20.here hx rfl (hb hby d8_87) rfl rfl (l' := #[.val (.ref a1), .val (.ref aw), .val (.ref b20), .unset]) rfl ?_
      show Steps p.tables e below (T20.setTop (mkF m 88 #[.val (.ref a1), .val (.ref aw), .val (.ref b20), .unset] [])) _
      refine XS.iconst X20.here hx rfl (hb hby d8_88) ?_
      show Steps p.tables e below (T20.setTop (mkF m 89 #[.val (.ref a1), .val (.ref aw), .val (.ref b20), .unset] [(.int (0 : Int32))])) _
      refine XS.istoreN X20.here hx rfl (hb hby d8_89) rfl (l' := #[.val (.ref a1), .val (.ref aw), .val (.ref b20), .val (.int (0 : Int32))]) rfl ?_
      show Steps p.tables e below (T20.setTop (mkF m 90 #[.val (.ref a1), .val (.ref aw), .val (.ref b20), .val (.int (0 : Int32))] [])) _
      refine XS.iloadN X20.here hx rfl (hb hby d8_90) rfl ?_
      show Steps p.tables e below (T20.setTop (mkF m 91 #[.val (.ref a1), .val (.ref aw), .val (.ref b20), .val (.int (0 : Int32))] [(.int (0 : Int32))])) _
      refine XS.aloadN X20.here hx rfl (hb hby d8_91) rfl rfl ?_
      show Steps p.tables e below (T20.setTop (mkF m 92 #[.val (.ref a1), .val (.ref aw), .val (.ref b20), .val (.int (0 : Int32))] [(.ref a1), (.int (0 : Int32))])) _
      exact k
    obtain ⟨T21, X21, e21, st21⟩ := getF X20 hx hZ hown (host := "") (Or.inl (hw _ (List.mem_of_getElem? (i := 49) rfl))) Via.refl e20 F_outputs_a1 (g := (mkF m 92 #[.val (.ref a1), .val (.ref aw), .val (.ref b20), .val (.int (0 : Int32))] [(.ref a1), (.int (0 : Int32))])) rfl rfl (hb hby d8_92)
    refine own_go (B := T21.setTop (mkF m 95 #[.val (.ref a1), .val (.ref aw), .val (.ref b20), .val (.int (0 : Int32))] [(.ref ao), (.int (0 : Int32))])) st21 ?_
    obtain ⟨cl22, Ar22, qa22, Sa22, Na22, Ha22, Ga22⟩ := id V_ao
    refine own_go (B := T21.setTop (mkF m 130 #[.val (.ref a1), .val (.ref aw), .val (.ref b20), .val (.int (0 : Int32))] [(.ref b20)])) (fun t k => ?_) ?_
    · show Steps p.tables e below (T21.setTop (mkF m 95 #[.val (.ref a1), .val (.ref aw), .val (.ref b20), .val (.int (0 : Int32))] [(.ref ao), (.int (0 : Int32))])) _
      refine X21.arraylength hx (by rw [e21]; exact Ar22.1) (State.isArrayOf_alike hZ.alike Ar22.2.1) (g := (mkF m 95 #[.val (.ref a1), .val (.ref aw), .val (.ref b20), .val (.int (0 : Int32))] [(.ref ao), (.int (0 : Int32))])) rfl rfl (hb hby d8_95) _ ?_
      rw [len_of Sa22 Na22]
      show Steps p.tables e below (T21.setTop (mkF m 96 #[.val (.ref a1), .val (.ref aw), .val (.ref b20), .val (.int (0 : Int32))] [(.int (0 : Int32)), (.int (0 : Int32))])) _
      refine XS.icmpYes X21.here hx rfl (pc0 := 96) (pc' := 129) rfl (hb hby d8_96) rfl (flt (by decide : ¬ ((0 : Int32) < (0 : Int32)))).2.1 (by decide) (by decide) ?_
      show Steps p.tables e below (T21.setTop (mkF m 129 #[.val (.ref a1), .val (.ref aw), .val (.ref b20), .val (.int (0 : Int32))] [])) _
      refine XS.aloadN X21.here hx rfl (hb hby d8_129) rfl rfl ?_
      show Steps p.tables e below (T21.setTop (mkF m 130 #[.val (.ref a1), .val (.ref aw), .val (.ref b20), .val (.int (0 : Int32))] [(.ref b20)])) _
      exact k
    obtain ⟨fs, hr, hrun, hended, hW, hsame⟩ := X21.leave (v := some (.ref b20)) (fun h => by rw [Bd.returns] at h; cases h)
    refine own_done (retOut X21 hx Bd.returns rfl (Or.inr (Or.inr (Or.inr (Or.inr ⟨rfl, rfl, rfl⟩)))) (hb hby d8_130) hr) hrun hended ⟨_, _, rfl, ?_, ⟨_, rfl⟩, hW, hsame.mono (by decide) (by decide)⟩
    show Q_rm8 Z av kv x0 x1 x2 x3 pz fz h0 n0 (some (.ref b20)) T21.heap _
    rw [e21]
    subst hz
    exact ⟨b20, rfl, N17, K, V_av⟩
  by_cases hc54 : fz = (0 : Int32)
  · refine own_go (B := T7.setTop (mkF m 62 #[.val (.ref a1), .val (.ref aw), .val (.int (0 : Int32)), .unset] [(.long (0 : Int64)), (.int pz), (.ref av)])) (fun t k => ?_) ?_
    · show Steps p.tables e below (T7.setTop (mkF m 54 #[.val (.ref a1), .val (.ref aw), .val (.int (0 : Int32)), .unset] [(.int fz), (.int pz), (.ref av)])) _
      refine XS.ifYes X7.here hx rfl (pc0 := 54) (pc' := 61) rfl (hb hby d8_54) rfl ((if0 _ _).trans (teq hc54).1) (by decide) (by decide) ?_
      show Steps p.tables e below (T7.setTop (mkF m 61 #[.val (.ref a1), .val (.ref aw), .val (.int (0 : Int32)), .unset] [(.int pz), (.ref av)])) _
      refine XS.lconst X7.here hx rfl (hb hby d8_61) ?_
      show Steps p.tables e below (T7.setTop (mkF m 62 #[.val (.ref a1), .val (.ref aw), .val (.int (0 : Int32)), .unset] [(.long (0 : Int64)), (.int pz), (.ref av)])) _
      exact k
    exact J62 _ _ X7 N0 e7 (0 : Int64) (by unfold own_fl; rw [if_pos hc54])
  · refine own_go (B := T7.setTop (mkF m 62 #[.val (.ref a1), .val (.ref aw), .val (.int (0 : Int32)), .unset] [(.long (1 : Int64)), (.int pz), (.ref av)])) (fun t k => ?_) ?_
    · show Steps p.tables e below (T7.setTop (mkF m 54 #[.val (.ref a1), .val (.ref aw), .val (.int (0 : Int32)), .unset] [(.int fz), (.int pz), (.ref av)])) _
      refine XS.ifNo X7.here hx rfl (hb hby d8_54) rfl ((if0 _ _).trans (feq hc54).1) ?_
      show Steps p.tables e below (T7.setTop (mkF m 57 #[.val (.ref a1), .val (.ref aw), .val (.int (0 : Int32)), .unset] [(.int pz), (.ref av)])) _
      refine XS.lconst X7.here hx rfl (hb hby d8_57) ?_
      show Steps p.tables e below (T7.setTop (mkF m 58 #[.val (.ref a1), .val (.ref aw), .val (.int (0 : Int32)), .unset] [(.long (1 : Int64)), (.int pz), (.ref av)])) _
      refine XS.goto X7.here hx rfl (pc0 := 58) (pc' := 62) rfl (hb hby d8_58) (by decide) (by decide) ?_
      show Steps p.tables e below (T7.setTop (mkF m 62 #[.val (.ref a1), .val (.ref aw), .val (.int (0 : Int32)), .unset] [(.long (1 : Int64)), (.int pz), (.ref av)])) _
      exact k
    exact J62 _ _ X7 N0 e7 (1 : Int64) (by unfold own_fl; rw [if_neg hc54])
def Q_rm0 (Z : State) (h0 : Heap) (n0 : Nat) (v : Option Value) (h : Heap) (L : List Loc) : Prop := v = some (.int (1 : Int32)) ∧ Fr n0 L
theorem ef_rm0 (m : MethodId) (x0 : Int64) (x1 : Int64) (x2 : Int64) (x3 : Int64) (x4 : Int32) (x5 : Int32) : entryFrame m #[(.long x0), (.long x1), (.long x2), (.long x3), (.int x4), (.int x5)] maxLocals = mkF m 0 #[.val (.long x0), .second, .val (.long x1), .second, .val (.long x2), .second, .val (.long x3), .second, .val (.int x4), .val (.int x5), .unset, .unset, .unset, .unset, .unset, .unset, .unset, .unset, .unset, .unset, .unset, .unset, .unset, .unset, .unset] [] := by first | (simp [entryFrame, mkF, argsToLocals, Value.category, maxLocals]; done) | rfl
set_option maxRecDepth 65536 in
set_option maxHeartbeats 40000000 in
theorem rm0 (l : Launch) (Z : State) (a0 : Array Value) (hw : ∀ d ∈ tables_1, d.before a0 Z = true) (ws : List Jvm.Cond) (p0 p1 p2 p3 : Int64) (p4 p5 : Int32) (w_DEF : Addr) (h0 : Heap) (n0 : Nat) (Z0 : n0 ≤ h0.size) (S_DEF : Sta Z Z.heap "java/util/ArrayList" "DEFAULTCAPACITY_EMPTY_ELEMENTDATA" "[Ljava/lang/Object;" (.ref w_DEF)) (O : Old Z n0 h0) :
    MetFree l x (head1 (Jvm.Cond.code x code maxLocals ret :: ws) room_1) (fun a U => a = #[(.long p0), (.long p1), (.long p2), (.long p3), (.int p4), (.int p5)] ∧ Z.Warmed39 U.vm ∧ U.heap = h0) (fun _ _ _ _ _ => True) (fun _ U o U' => ∃ v L, o = .returned v ∧ Q_rm0 Z h0 n0 v U'.heap L ∧ FrameEnd U o U' L room_1.cells room_1.slots) := by
  refine MetFree.of_bodySF (plainFor_of_name pn_0) hisR ?_
  intro p e s m args below meth c s₁ Bd hml0 hP hK
  obtain ⟨rfl, hZ, hh⟩ := hP
  have hx := Bd.exec
  have hby := Bd.bytes
  have hml : c.maxLocals = 25 := hml0
  have hown : s.vm.findClass "com/example/controller_synthesis/controllersynthesis/output/FunctionBlockTimerOutputsPinLaw" = some m.cls := findClass_of_methodNamed Bd.named
  have hnm := (name_of_methodNamed Bd.named Bd.method).1
  have X0 : Stand p l e room_1 s m #[(.long p0), (.long p1), (.long p2), (.long p3), (.int p4), (.int p5)] below meth c s₁ [] 0 0 := Stand.of_body Bd
  have e0 : s₁.heap = h0 := by rw [← hh, Bd.state]; rfl
  have N0 := Fr.nil n0
  have K : Keep h0 h0 [] := Keep.refl h0 []
  show own_Gd p.tables e below (own_P (Q_rm0 Z h0 n0) s room_1.cells room_1.slots) _
  refine own_go (B := s₁.setTop (mkF m 0 #[.val (.long p0), .second, .val (.long p1), .second, .val (.long p2), .second, .val (.long p3), .second, .val (.int p4), .val (.int p5), .unset, .unset, .unset, .unset, .unset, .unset, .unset, .unset, .unset, .unset, .unset, .unset, .unset, .unset, .unset] [])) (fun t k => castTop (ef_rm0 m p0 p1 p2 p3 p4 p5) k) ?_
  refine own_go (B := s₁.setTop (mkF m 1 #[.val (.long p0), .second, .val (.long p1), .second, .val (.long p2), .second, .val (.long p3), .second, .val (.int p4), .val (.int p5), .unset, .unset, .unset, .unset, .unset, .unset, .unset, .unset, .unset, .unset, .unset, .unset, .unset, .unset, .unset] [(.int (4 : Int32))])) (fun t k => ?_) ?_
  · show Steps p.tables e below (s₁.setTop (mkF m 0 #[.val (.long p0), .second, .val (.long p1), .second, .val (.long p2), .second, .val (.long p3), .second, .val (.int p4), .val (.int p5), .unset, .unset, .unset, .unset, .unset, .unset, .unset, .unset, .unset, .unset, .unset, .unset, .unset, .unset, .unset] [])) _
    refine XS.iconst X0.here hx rfl (hb hby at_0) ?_
    show Steps p.tables e below (s₁.setTop (mkF m 1 #[.val (.long p0), .second, .val (.long p1), .second, .val (.long p2), .second, .val (.long p3), .second, .val (.int p4), .val (.int p5), .unset, .unset, .unset, .unset, .unset, .unset, .unset, .unset, .unset, .unset, .unset, .unset, .unset, .unset, .unset] [(.int (4 : Int32))])) _
    exact k
  obtain ⟨T1, h1, k1, X1, e1, E1, A1, Ex1, st1⟩ := newPE X0 hx hZ (hw _ (List.mem_of_getElem? (i := 0) rfl)) e0 (g := (mkF m 1 #[.val (.long p0), .second, .val (.long p1), .second, .val (.long p2), .second, .val (.long p3), .second, .val (.int p4), .val (.int p5), .unset, .unset, .unset, .unset, .unset, .unset, .unset, .unset, .unset, .unset, .unset, .unset, .unset, .unset, .unset] [(.int (4 : Int32))])) rfl (hb hby at_1) rfl (by decide) (cap := 4) (by decide) (by decide) (by decide) (by decide) (ad := "[J") (by decide)
  obtain ⟨b1, g1⟩ : ∃ z, z = h0.size := ⟨_, rfl⟩
  rw [← g1] at A1 st1 Ex1
  have g_b1 : n0 ≤ b1 := Nat.le_trans Z0 (Nat.le_of_eq g1.symm)
  have sz_b1 : h0.size ≤ b1 := Nat.le_trans K.1 (Nat.le_of_eq g1.symm)
  have K := K.ext E1
  have Z0 := Nat.le_trans Z0 E1.1
  have O := O.ext E1
  have V_b1 : Arv Z h1 b1 k1 .long (4 : Int32) [(.long (0 : Int64)), (.long (0 : Int64)), (.long (0 : Int64)), (.long (0 : Int64))] (.long (0 : Int64)) := (Arv.new A1 (by decide)).pad (pad_rep [] (.long (0 : Int64)) 4)
  have E_b1 := Ex1
  refine own_go (B := T1.setTop (mkF m 3 #[.val (.long p0), .second, .val (.long p1), .second, .val (.long p2), .second, .val (.long p3), .second, .val (.int p4), .val (.int p5), .unset, .unset, .unset, .unset, .unset, .unset, .unset, .unset, .unset, .unset, .unset, .unset, .unset, .unset, .unset] [(.ref b1)])) st1 ?_
  refine own_go (B := T1.setTop (mkF m 6 #[.val (.long p0), .second, .val (.long p1), .second, .val (.long p2), .second, .val (.long p3), .second, .val (.int p4), .val (.int p5), .unset, .unset, .unset, .unset, .unset, .unset, .unset, .unset, .unset, .unset, .unset, .unset, .unset, .unset, .unset] [(.long p0), (.int (0 : Int32)), (.ref b1), (.ref b1)])) (fun t k => ?_) ?_
  · show Steps p.tables e below (T1.setTop (mkF m 3 #[.val (.long p0), .second, .val (.long p1), .second, .val (.long p2), .second, .val (.long p3), .second, .val (.int p4), .val (.int p5), .unset, .unset, .unset, .unset, .unset, .unset, .unset, .unset, .unset, .unset, .unset, .unset, .unset, .unset, .unset] [(.ref b1)])) _
    refine XS.dup X1.here hx rfl (hb hby at_3) rfl rfl ?_
    show Steps p.tables e below (T1.setTop (mkF m 4 #[.val (.long p0), .second, .val (.long p1), .second, .val (.long p2), .second, .val (.long p3), .second, .val (.int p4), .val (.int p5), .unset, .unset, .unset, .unset, .unset, .unset, .unset, .unset, .unset, .unset, .unset, .unset, .unset, .unset, .unset] [(.ref b1), (.ref b1)])) _
    refine XS.iconst X1.here hx rfl (hb hby at_4) ?_
    show Steps p.tables e below (T1.setTop (mkF m 5 #[.val (.long p0), .second, .val (.long p1), .second, .val (.long p2), .second, .val (.long p3), .second, .val (.int p4), .val (.int p5), .unset, .unset, .unset, .unset, .unset, .unset, .unset, .unset, .unset, .unset, .unset, .unset, .unset, .unset, .unset] [(.int (0 : Int32)), (.ref b1), (.ref b1)])) _
    refine XS.lloadN X1.here hx rfl (hb hby at_5) rfl ?_
    show Steps p.tables e below (T1.setTop (mkF m 6 #[.val (.long p0), .second, .val (.long p1), .second, .val (.long p2), .second, .val (.long p3), .second, .val (.int p4), .val (.int p5), .unset, .unset, .unset, .unset, .unset, .unset, .unset, .unset, .unset, .unset, .unset, .unset, .unset, .unset, .unset] [(.long p0), (.int (0 : Int32)), (.ref b1), (.ref b1)])) _
    exact k
  obtain ⟨cl2, Ar2, qa2, Sa2, Na2, Ha2, Ga2⟩ := id V_b1
  have hin2 : ¬ ((0 : Int32) < 0 ∨ cl2.slots.size ≤ ((0 : Int32)).toNatClampNeg) := inb_of Sa2 ⟨by decide, by decide⟩
  obtain ⟨T3, h3, X3, e3, W3, st3⟩ := stJ X1 hx hZ e1 Ar2 (j := (0 : Int32)) hin2 (g := (mkF m 6 #[.val (.long p0), .second, .val (.long p1), .second, .val (.long p2), .second, .val (.long p3), .second, .val (.int p4), .val (.int p5), .unset, .unset, .unset, .unset, .unset, .unset, .unset, .unset, .unset, .unset, .unset, .unset, .unset, .unset, .unset] [(.long p0), (.int (0 : Int32)), (.ref b1), (.ref b1)])) rfl rfl (hb hby at_6)
  have E_b1 := E_b1.wr W3
  have Z0 := Nat.le_trans Z0 (Nat.le_of_eq W3.size.symm)
  have O := O.wr W3 g_b1
  have V_b1 : Arv Z h3 b1 k1 .long (4 : Int32) [(.long p0), (.long (0 : Int64)), (.long (0 : Int64)), (.long (0 : Int64))] (.long (0 : Int64)) := Arv.set Ar2 qa2 Sa2 Na2 Ha2 Ga2 rfl W3 0 rfl (Nat.le_of_ble_eq_true rfl)
  have K := K.wr W3 (Or.inr sz_b1)
  have N3 := Fr.snoc X3 N0 g_b1
  refine own_go (B := T3.setTop (mkF m 7 #[.val (.long p0), .second, .val (.long p1), .second, .val (.long p2), .second, .val (.long p3), .second, .val (.int p4), .val (.int p5), .unset, .unset, .unset, .unset, .unset, .unset, .unset, .unset, .unset, .unset, .unset, .unset, .unset, .unset, .unset] [(.ref b1)])) st3 ?_
  refine own_go (B := T3.setTop (mkF m 10 #[.val (.long p0), .second, .val (.long p1), .second, .val (.long p2), .second, .val (.long p3), .second, .val (.int p4), .val (.int p5), .unset, .unset, .unset, .unset, .unset, .unset, .unset, .unset, .unset, .unset, .unset, .unset, .unset, .unset, .unset] [(.long p1), (.int (1 : Int32)), (.ref b1), (.ref b1)])) (fun t k => ?_) ?_
  · show Steps p.tables e below (T3.setTop (mkF m 7 #[.val (.long p0), .second, .val (.long p1), .second, .val (.long p2), .second, .val (.long p3), .second, .val (.int p4), .val (.int p5), .unset, .unset, .unset, .unset, .unset, .unset, .unset, .unset, .unset, .unset, .unset, .unset, .unset, .unset, .unset] [(.ref b1)])) _
    refine XS.dup X3.here hx rfl (hb hby at_7) rfl rfl ?_
    show Steps p.tables e below (T3.setTop (mkF m 8 #[.val (.long p0), .second, .val (.long p1), .second, .val (.long p2), .second, .val (.long p3), .second, .val (.int p4), .val (.int p5), .unset, .unset, .unset, .unset, .unset, .unset, .unset, .unset, .unset, .unset, .unset, .unset, .unset, .unset, .unset] [(.ref b1), (.ref b1)])) _
    refine XS.iconst X3.here hx rfl (hb hby at_8) ?_
    show Steps p.tables e below (T3.setTop (mkF m 9 #[.val (.long p0), .second, .val (.long p1), .second, .val (.long p2), .second, .val (.long p3), .second, .val (.int p4), .val (.int p5), .unset, .unset, .unset, .unset, .unset, .unset, .unset, .unset, .unset, .unset, .unset, .unset, .unset, .unset, .unset] [(.int (1 : Int32)), (.ref b1), (.ref b1)])) _
    refine XS.lloadN X3.here hx rfl (hb hby at_9) rfl ?_
    show Steps p.tables e below (T3.setTop (mkF m 10 #[.val (.long p0), .second, .val (.long p1), .second, .val (.long p2), .second, .val (.long p3), .second, .val (.int p4), .val (.int p5), .unset, .unset, .unset, .unset, .unset, .unset, .unset, .unset, .unset, .unset, .unset, .unset, .unset, .unset, .unset] [(.long p1), (.int (1 : Int32)), (.ref b1), (.ref b1)])) _
    exact k
  obtain ⟨cl4, Ar4, qa4, Sa4, Na4, Ha4, Ga4⟩ := id V_b1
  have hin4 : ¬ ((1 : Int32) < 0 ∨ cl4.slots.size ≤ ((1 : Int32)).toNatClampNeg) := inb_of Sa4 ⟨by decide, by decide⟩
  obtain ⟨T5, h5, X5, e5, W5, st5⟩ := stJ X3 hx hZ e3 Ar4 (j := (1 : Int32)) hin4 (g := (mkF m 10 #[.val (.long p0), .second, .val (.long p1), .second, .val (.long p2), .second, .val (.long p3), .second, .val (.int p4), .val (.int p5), .unset, .unset, .unset, .unset, .unset, .unset, .unset, .unset, .unset, .unset, .unset, .unset, .unset, .unset, .unset] [(.long p1), (.int (1 : Int32)), (.ref b1), (.ref b1)])) rfl rfl (hb hby at_10)
  have E_b1 := E_b1.wr W5
  have Z0 := Nat.le_trans Z0 (Nat.le_of_eq W5.size.symm)
  have O := O.wr W5 g_b1
  have V_b1 : Arv Z h5 b1 k1 .long (4 : Int32) [(.long p0), (.long p1), (.long (0 : Int64)), (.long (0 : Int64))] (.long (0 : Int64)) := Arv.set Ar4 qa4 Sa4 Na4 Ha4 Ga4 rfl W5 1 rfl (Nat.le_of_ble_eq_true rfl)
  have K := K.wr W5 (Or.inr sz_b1)
  have N5 := Fr.snoc X5 N3 g_b1
  refine own_go (B := T5.setTop (mkF m 11 #[.val (.long p0), .second, .val (.long p1), .second, .val (.long p2), .second, .val (.long p3), .second, .val (.int p4), .val (.int p5), .unset, .unset, .unset, .unset, .unset, .unset, .unset, .unset, .unset, .unset, .unset, .unset, .unset, .unset, .unset] [(.ref b1)])) st5 ?_
  refine own_go (B := T5.setTop (mkF m 15 #[.val (.long p0), .second, .val (.long p1), .second, .val (.long p2), .second, .val (.long p3), .second, .val (.int p4), .val (.int p5), .unset, .unset, .unset, .unset, .unset, .unset, .unset, .unset, .unset, .unset, .unset, .unset, .unset, .unset, .unset] [(.long p2), (.int (2 : Int32)), (.ref b1), (.ref b1)])) (fun t k => ?_) ?_
  · show Steps p.tables e below (T5.setTop (mkF m 11 #[.val (.long p0), .second, .val (.long p1), .second, .val (.long p2), .second, .val (.long p3), .second, .val (.int p4), .val (.int p5), .unset, .unset, .unset, .unset, .unset, .unset, .unset, .unset, .unset, .unset, .unset, .unset, .unset, .unset, .unset] [(.ref b1)])) _
    refine XS.dup X5.here hx rfl (hb hby at_11) rfl rfl ?_
    show Steps p.tables e below (T5.setTop (mkF m 12 #[.val (.long p0), .second, .val (.long p1), .second, .val (.long p2), .second, .val (.long p3), .second, .val (.int p4), .val (.int p5), .unset, .unset, .unset, .unset, .unset, .unset, .unset, .unset, .unset, .unset, .unset, .unset, .unset, .unset, .unset] [(.ref b1), (.ref b1)])) _
    refine XS.iconst X5.here hx rfl (hb hby at_12) ?_
    show Steps p.tables e below (T5.setTop (mkF m 13 #[.val (.long p0), .second, .val (.long p1), .second, .val (.long p2), .second, .val (.long p3), .second, .val (.int p4), .val (.int p5), .unset, .unset, .unset, .unset, .unset, .unset, .unset, .unset, .unset, .unset, .unset, .unset, .unset, .unset, .unset] [(.int (2 : Int32)), (.ref b1), (.ref b1)])) _
    refine XS.lload X5.here hx rfl (hb hby at_13) rfl ?_
    show Steps p.tables e below (T5.setTop (mkF m 15 #[.val (.long p0), .second, .val (.long p1), .second, .val (.long p2), .second, .val (.long p3), .second, .val (.int p4), .val (.int p5), .unset, .unset, .unset, .unset, .unset, .unset, .unset, .unset, .unset, .unset, .unset, .unset, .unset, .unset, .unset] [(.long p2), (.int (2 : Int32)), (.ref b1), (.ref b1)])) _
    exact k
  obtain ⟨cl6, Ar6, qa6, Sa6, Na6, Ha6, Ga6⟩ := id V_b1
  have hin6 : ¬ ((2 : Int32) < 0 ∨ cl6.slots.size ≤ ((2 : Int32)).toNatClampNeg) := inb_of Sa6 ⟨by decide, by decide⟩
  obtain ⟨T7, h7, X7, e7, W7, st7⟩ := stJ X5 hx hZ e5 Ar6 (j := (2 : Int32)) hin6 (g := (mkF m 15 #[.val (.long p0), .second, .val (.long p1), .second, .val (.long p2), .second, .val (.long p3), .second, .val (.int p4), .val (.int p5), .unset, .unset, .unset, .unset, .unset, .unset, .unset, .unset, .unset, .unset, .unset, .unset, .unset, .unset, .unset] [(.long p2), (.int (2 : Int32)), (.ref b1), (.ref b1)])) rfl rfl (hb hby at_15)
  have E_b1 := E_b1.wr W7
  have Z0 := Nat.le_trans Z0 (Nat.le_of_eq W7.size.symm)
  have O := O.wr W7 g_b1
  have V_b1 : Arv Z h7 b1 k1 .long (4 : Int32) [(.long p0), (.long p1), (.long p2), (.long (0 : Int64))] (.long (0 : Int64)) := Arv.set Ar6 qa6 Sa6 Na6 Ha6 Ga6 rfl W7 2 rfl (Nat.le_of_ble_eq_true rfl)
  have K := K.wr W7 (Or.inr sz_b1)
  have N7 := Fr.snoc X7 N5 g_b1
  refine own_go (B := T7.setTop (mkF m 16 #[.val (.long p0), .second, .val (.long p1), .second, .val (.long p2), .second, .val (.long p3), .second, .val (.int p4), .val (.int p5), .unset, .unset, .unset, .unset, .unset, .unset, .unset, .unset, .unset, .unset, .unset, .unset, .unset, .unset, .unset] [(.ref b1)])) st7 ?_
  refine own_go (B := T7.setTop (mkF m 20 #[.val (.long p0), .second, .val (.long p1), .second, .val (.long p2), .second, .val (.long p3), .second, .val (.int p4), .val (.int p5), .unset, .unset, .unset, .unset, .unset, .unset, .unset, .unset, .unset, .unset, .unset, .unset, .unset, .unset, .unset] [(.long p3), (.int (3 : Int32)), (.ref b1), (.ref b1)])) (fun t k => ?_) ?_
  · show Steps p.tables e below (T7.setTop (mkF m 16 #[.val (.long p0), .second, .val (.long p1), .second, .val (.long p2), .second, .val (.long p3), .second, .val (.int p4), .val (.int p5), .unset, .unset, .unset, .unset, .unset, .unset, .unset, .unset, .unset, .unset, .unset, .unset, .unset, .unset, .unset] [(.ref b1)])) _
    refine XS.dup X7.here hx rfl (hb hby at_16) rfl rfl ?_
    show Steps p.tables e below (T7.setTop (mkF m 17 #[.val (.long p0), .second, .val (.long p1), .second, .val (.long p2), .second, .val (.long p3), .second, .val (.int p4), .val (.int p5), .unset, .unset, .unset, .unset, .unset, .unset, .unset, .unset, .unset, .unset, .unset, .unset, .unset, .unset, .unset] [(.ref b1), (.ref b1)])) _
    refine XS.iconst X7.here hx rfl (hb hby at_17) ?_
    show Steps p.tables e below (T7.setTop (mkF m 18 #[.val (.long p0), .second, .val (.long p1), .second, .val (.long p2), .second, .val (.long p3), .second, .val (.int p4), .val (.int p5), .unset, .unset, .unset, .unset, .unset, .unset, .unset, .unset, .unset, .unset, .unset, .unset, .unset, .unset, .unset] [(.int (3 : Int32)), (.ref b1), (.ref b1)])) _
    refine XS.lload X7.here hx rfl (hb hby at_18) rfl ?_
    show Steps p.tables e below (T7.setTop (mkF m 20 #[.val (.long p0), .second, .val (.long p1), .second, .val (.long p2), .second, .val (.long p3), .second, .val (.int p4), .val (.int p5), .unset, .unset, .unset, .unset, .unset, .unset, .unset, .unset, .unset, .unset, .unset, .unset, .unset, .unset, .unset] [(.long p3), (.int (3 : Int32)), (.ref b1), (.ref b1)])) _
    exact k
  obtain ⟨cl8, Ar8, qa8, Sa8, Na8, Ha8, Ga8⟩ := id V_b1
  have hin8 : ¬ ((3 : Int32) < 0 ∨ cl8.slots.size ≤ ((3 : Int32)).toNatClampNeg) := inb_of Sa8 ⟨by decide, by decide⟩
  obtain ⟨T9, h9, X9, e9, W9, st9⟩ := stJ X7 hx hZ e7 Ar8 (j := (3 : Int32)) hin8 (g := (mkF m 20 #[.val (.long p0), .second, .val (.long p1), .second, .val (.long p2), .second, .val (.long p3), .second, .val (.int p4), .val (.int p5), .unset, .unset, .unset, .unset, .unset, .unset, .unset, .unset, .unset, .unset, .unset, .unset, .unset, .unset, .unset] [(.long p3), (.int (3 : Int32)), (.ref b1), (.ref b1)])) rfl rfl (hb hby at_20)
  have E_b1 := E_b1.wr W9
  have Z0 := Nat.le_trans Z0 (Nat.le_of_eq W9.size.symm)
  have O := O.wr W9 g_b1
  have V_b1 : Arv Z h9 b1 k1 .long (4 : Int32) [(.long p0), (.long p1), (.long p2), (.long p3)] (.long (0 : Int64)) := Arv.set Ar8 qa8 Sa8 Na8 Ha8 Ga8 rfl W9 3 rfl (Nat.le_of_ble_eq_true rfl)
  have K := K.wr W9 (Or.inr sz_b1)
  have N9 := Fr.snoc X9 N7 g_b1
  refine own_go (B := T9.setTop (mkF m 21 #[.val (.long p0), .second, .val (.long p1), .second, .val (.long p2), .second, .val (.long p3), .second, .val (.int p4), .val (.int p5), .unset, .unset, .unset, .unset, .unset, .unset, .unset, .unset, .unset, .unset, .unset, .unset, .unset, .unset, .unset] [(.ref b1)])) st9 ?_
  refine own_go (B := T9.setTop (mkF m 27 #[.val (.long p0), .second, .val (.long p1), .second, .val (.long p2), .second, .val (.long p3), .second, .val (.int p4), .val (.int p5), .val (.ref b1), .unset, .unset, .unset, .unset, .unset, .unset, .unset, .unset, .unset, .unset, .unset, .unset, .unset, .unset] [(.int (p4 &&& (3 : Int32)))])) (fun t k => ?_) ?_
  · show Steps p.tables e below (T9.setTop (mkF m 21 #[.val (.long p0), .second, .val (.long p1), .second, .val (.long p2), .second, .val (.long p3), .second, .val (.int p4), .val (.int p5), .unset, .unset, .unset, .unset, .unset, .unset, .unset, .unset, .unset, .unset, .unset, .unset, .unset, .unset, .unset] [(.ref b1)])) _
    refine XS.astore X9.here hx rfl (hb hby at_21) rfl rfl (l' := #[.val (.long p0), .second, .val (.long p1), .second, .val (.long p2), .second, .val (.long p3), .second, .val (.int p4), .val (.int p5), .val (.ref b1), .unset, .unset, .unset, .unset, .unset, .unset, .unset, .unset, .unset, .unset, .unset, .unset, .unset, .unset]) rfl ?_
    show Steps p.tables e below (T9.setTop (mkF m 23 #[.val (.long p0), .second, .val (.long p1), .second, .val (.long p2), .second, .val (.long p3), .second, .val (.int p4), .val (.int p5), .val (.ref b1), .unset, .unset, .unset, .unset, .unset, .unset, .unset, .unset, .unset, .unset, .unset, .unset, .unset, .unset] [])) _
    refine XS.iload X9.here hx rfl (hb hby at_23) rfl ?_
    show Steps p.tables e below (T9.setTop (mkF m 25 #[.val (.long p0), .second, .val (.long p1), .second, .val (.long p2), .second, .val (.long p3), .second, .val (.int p4), .val (.int p5), .val (.ref b1), .unset, .unset, .unset, .unset, .unset, .unset, .unset, .unset, .unset, .unset, .unset, .unset, .unset, .unset] [(.int p4)])) _
    refine XS.iconst X9.here hx rfl (hb hby at_25) ?_
    show Steps p.tables e below (T9.setTop (mkF m 26 #[.val (.long p0), .second, .val (.long p1), .second, .val (.long p2), .second, .val (.long p3), .second, .val (.int p4), .val (.int p5), .val (.ref b1), .unset, .unset, .unset, .unset, .unset, .unset, .unset, .unset, .unset, .unset, .unset, .unset, .unset, .unset] [(.int (3 : Int32)), (.int p4)])) _
    refine XS.iand X9.here hx rfl (hb hby at_26) rfl ?_
    show Steps p.tables e below (T9.setTop (mkF m 27 #[.val (.long p0), .second, .val (.long p1), .second, .val (.long p2), .second, .val (.long p3), .second, .val (.int p4), .val (.int p5), .val (.ref b1), .unset, .unset, .unset, .unset, .unset, .unset, .unset, .unset, .unset, .unset, .unset, .unset, .unset, .unset] [(.int (p4 &&& (3 : Int32)))])) _
    exact k
  obtain ⟨v11, h_v11⟩ : ∃ z, z = (p4 &&& (3 : Int32)) := ⟨_, rfl⟩
  rw [← h_v11]
  have r_v11 : 0 ≤ v11.toInt ∧ v11.toInt < 4 := by rw [h_v11]; exact own_mask4 _
  refine own_go (B := T9.setTop (mkF m 35 #[.val (.long p0), .second, .val (.long p1), .second, .val (.long p2), .second, .val (.long p3), .second, .val (.int p4), .val (.int p5), .val (.ref b1), .val (.int v11), .unset, .unset, .unset, .unset, .unset, .unset, .unset, .unset, .unset, .unset, .unset, .unset, .unset] [(.int (((p4.toUInt32 >>> ((2 : Int32) &&& 31).toUInt32).toInt32) &&& (3 : Int32)))])) (fun t k => ?_) ?_
  · show Steps p.tables e below (T9.setTop (mkF m 27 #[.val (.long p0), .second, .val (.long p1), .second, .val (.long p2), .second, .val (.long p3), .second, .val (.int p4), .val (.int p5), .val (.ref b1), .unset, .unset, .unset, .unset, .unset, .unset, .unset, .unset, .unset, .unset, .unset, .unset, .unset, .unset] [(.int v11)])) _
    refine XS.istore X9.here hx rfl (hb hby at_27) rfl (l' := #[.val (.long p0), .second, .val (.long p1), .second, .val (.long p2), .second, .val (.long p3), .second, .val (.int p4), .val (.int p5), .val (.ref b1), .val (.int v11), .unset, .unset, .unset, .unset, .unset, .unset, .unset, .unset, .unset, .unset, .unset, .unset, .unset]) rfl ?_
    show Steps p.tables e below (T9.setTop (mkF m 29 #[.val (.long p0), .second, .val (.long p1), .second, .val (.long p2), .second, .val (.long p3), .second, .val (.int p4), .val (.int p5), .val (.ref b1), .val (.int v11), .unset, .unset, .unset, .unset, .unset, .unset, .unset, .unset, .unset, .unset, .unset, .unset, .unset] [])) _
    refine XS.iload X9.here hx rfl (hb hby at_29) rfl ?_
    show Steps p.tables e below (T9.setTop (mkF m 31 #[.val (.long p0), .second, .val (.long p1), .second, .val (.long p2), .second, .val (.long p3), .second, .val (.int p4), .val (.int p5), .val (.ref b1), .val (.int v11), .unset, .unset, .unset, .unset, .unset, .unset, .unset, .unset, .unset, .unset, .unset, .unset, .unset] [(.int p4)])) _
    refine XS.iconst X9.here hx rfl (hb hby at_31) ?_
    show Steps p.tables e below (T9.setTop (mkF m 32 #[.val (.long p0), .second, .val (.long p1), .second, .val (.long p2), .second, .val (.long p3), .second, .val (.int p4), .val (.int p5), .val (.ref b1), .val (.int v11), .unset, .unset, .unset, .unset, .unset, .unset, .unset, .unset, .unset, .unset, .unset, .unset, .unset] [(.int (2 : Int32)), (.int p4)])) _
    refine XS.iushr X9.here hx rfl (hb hby at_32) rfl ?_
    show Steps p.tables e below (T9.setTop (mkF m 33 #[.val (.long p0), .second, .val (.long p1), .second, .val (.long p2), .second, .val (.long p3), .second, .val (.int p4), .val (.int p5), .val (.ref b1), .val (.int v11), .unset, .unset, .unset, .unset, .unset, .unset, .unset, .unset, .unset, .unset, .unset, .unset, .unset] [(.int ((p4.toUInt32 >>> ((2 : Int32) &&& 31).toUInt32).toInt32))])) _
    refine XS.iconst X9.here hx rfl (hb hby at_33) ?_
    show Steps p.tables e below (T9.setTop (mkF m 34 #[.val (.long p0), .second, .val (.long p1), .second, .val (.long p2), .second, .val (.long p3), .second, .val (.int p4), .val (.int p5), .val (.ref b1), .val (.int v11), .unset, .unset, .unset, .unset, .unset, .unset, .unset, .unset, .unset, .unset, .unset, .unset, .unset] [(.int (3 : Int32)), (.int ((p4.toUInt32 >>> ((2 : Int32) &&& 31).toUInt32).toInt32))])) _
    refine XS.iand X9.here hx rfl (hb hby at_34) rfl ?_
    show Steps p.tables e below (T9.setTop (mkF m 35 #[.val (.long p0), .second, .val (.long p1), .second, .val (.long p2), .second, .val (.long p3), .second, .val (.int p4), .val (.int p5), .val (.ref b1), .val (.int v11), .unset, .unset, .unset, .unset, .unset, .unset, .unset, .unset, .unset, .unset, .unset, .unset, .unset] [(.int (((p4.toUInt32 >>> ((2 : Int32) &&& 31).toUInt32).toInt32) &&& (3 : Int32)))])) _
    exact k
  obtain ⟨v12, h_v12⟩ : ∃ z, z = (((p4.toUInt32 >>> ((2 : Int32) &&& 31).toUInt32).toInt32) &&& (3 : Int32)) := ⟨_, rfl⟩
  rw [← h_v12]
  have r_v12 : 0 ≤ v12.toInt ∧ v12.toInt < 4 := by rw [h_v12]; exact own_mask4 _
  refine own_go (B := T9.setTop (mkF m 43 #[.val (.long p0), .second, .val (.long p1), .second, .val (.long p2), .second, .val (.long p3), .second, .val (.int p4), .val (.int p5), .val (.ref b1), .val (.int v11), .val (.int v12), .unset, .unset, .unset, .unset, .unset, .unset, .unset, .unset, .unset, .unset, .unset, .unset] [(.int (((p4.toUInt32 >>> ((4 : Int32) &&& 31).toUInt32).toInt32) &&& (3 : Int32)))])) (fun t k => ?_) ?_
  · show Steps p.tables e below (T9.setTop (mkF m 35 #[.val (.long p0), .second, .val (.long p1), .second, .val (.long p2), .second, .val (.long p3), .second, .val (.int p4), .val (.int p5), .val (.ref b1), .val (.int v11), .unset, .unset, .unset, .unset, .unset, .unset, .unset, .unset, .unset, .unset, .unset, .unset, .unset] [(.int v12)])) _
    refine XS.istore X9.here hx rfl (hb hby at_35) rfl (l' := #[.val (.long p0), .second, .val (.long p1), .second, .val (.long p2), .second, .val (.long p3), .second, .val (.int p4), .val (.int p5), .val (.ref b1), .val (.int v11), .val (.int v12), .unset, .unset, .unset, .unset, .unset, .unset, .unset, .unset, .unset, .unset, .unset, .unset]) rfl ?_
    show Steps p.tables e below (T9.setTop (mkF m 37 #[.val (.long p0), .second, .val (.long p1), .second, .val (.long p2), .second, .val (.long p3), .second, .val (.int p4), .val (.int p5), .val (.ref b1), .val (.int v11), .val (.int v12), .unset, .unset, .unset, .unset, .unset, .unset, .unset, .unset, .unset, .unset, .unset, .unset] [])) _
    refine XS.iload X9.here hx rfl (hb hby at_37) rfl ?_
    show Steps p.tables e below (T9.setTop (mkF m 39 #[.val (.long p0), .second, .val (.long p1), .second, .val (.long p2), .second, .val (.long p3), .second, .val (.int p4), .val (.int p5), .val (.ref b1), .val (.int v11), .val (.int v12), .unset, .unset, .unset, .unset, .unset, .unset, .unset, .unset, .unset, .unset, .unset, .unset] [(.int p4)])) _
    refine XS.iconst X9.here hx rfl (hb hby at_39) ?_
    show Steps p.tables e below (T9.setTop (mkF m 40 #[.val (.long p0), .second, .val (.long p1), .second, .val (.long p2), .second, .val (.long p3), .second, .val (.int p4), .val (.int p5), .val (.ref b1), .val (.int v11), .val (.int v12), .unset, .unset, .unset, .unset, .unset, .unset, .unset, .unset, .unset, .unset, .unset, .unset] [(.int (4 : Int32)), (.int p4)])) _
    refine XS.iushr X9.here hx rfl (hb hby at_40) rfl ?_
    show Steps p.tables e below (T9.setTop (mkF m 41 #[.val (.long p0), .second, .val (.long p1), .second, .val (.long p2), .second, .val (.long p3), .second, .val (.int p4), .val (.int p5), .val (.ref b1), .val (.int v11), .val (.int v12), .unset, .unset, .unset, .unset, .unset, .unset, .unset, .unset, .unset, .unset, .unset, .unset] [(.int ((p4.toUInt32 >>> ((4 : Int32) &&& 31).toUInt32).toInt32))])) _
    refine XS.iconst X9.here hx rfl (hb hby at_41) ?_
    show Steps p.tables e below (T9.setTop (mkF m 42 #[.val (.long p0), .second, .val (.long p1), .second, .val (.long p2), .second, .val (.long p3), .second, .val (.int p4), .val (.int p5), .val (.ref b1), .val (.int v11), .val (.int v12), .unset, .unset, .unset, .unset, .unset, .unset, .unset, .unset, .unset, .unset, .unset, .unset] [(.int (3 : Int32)), (.int ((p4.toUInt32 >>> ((4 : Int32) &&& 31).toUInt32).toInt32))])) _
    refine XS.iand X9.here hx rfl (hb hby at_42) rfl ?_
    show Steps p.tables e below (T9.setTop (mkF m 43 #[.val (.long p0), .second, .val (.long p1), .second, .val (.long p2), .second, .val (.long p3), .second, .val (.int p4), .val (.int p5), .val (.ref b1), .val (.int v11), .val (.int v12), .unset, .unset, .unset, .unset, .unset, .unset, .unset, .unset, .unset, .unset, .unset, .unset] [(.int (((p4.toUInt32 >>> ((4 : Int32) &&& 31).toUInt32).toInt32) &&& (3 : Int32)))])) _
    exact k
  obtain ⟨v13, h_v13⟩ : ∃ z, z = (((p4.toUInt32 >>> ((4 : Int32) &&& 31).toUInt32).toInt32) &&& (3 : Int32)) := ⟨_, rfl⟩
  rw [← h_v13]
  have r_v13 : 0 ≤ v13.toInt ∧ v13.toInt < 4 := by rw [h_v13]; exact own_mask4 _
  refine own_go (B := T9.setTop (mkF m 52 #[.val (.long p0), .second, .val (.long p1), .second, .val (.long p2), .second, .val (.long p3), .second, .val (.int p4), .val (.int p5), .val (.ref b1), .val (.int v11), .val (.int v12), .val (.int v13), .unset, .unset, .unset, .unset, .unset, .unset, .unset, .unset, .unset, .unset, .unset] [(.int (((p4.toUInt32 >>> ((6 : Int32) &&& 31).toUInt32).toInt32) &&& (3 : Int32)))])) (fun t k => ?_) ?_
  · show Steps p.tables e below (T9.setTop (mkF m 43 #[.val (.long p0), .second, .val (.long p1), .second, .val (.long p2), .second, .val (.long p3), .second, .val (.int p4), .val (.int p5), .val (.ref b1), .val (.int v11), .val (.int v12), .unset, .unset, .unset, .unset, .unset, .unset, .unset, .unset, .unset, .unset, .unset, .unset] [(.int v13)])) _
    refine XS.istore X9.here hx rfl (hb hby at_43) rfl (l' := #[.val (.long p0), .second, .val (.long p1), .second, .val (.long p2), .second, .val (.long p3), .second, .val (.int p4), .val (.int p5), .val (.ref b1), .val (.int v11), .val (.int v12), .val (.int v13), .unset, .unset, .unset, .unset, .unset, .unset, .unset, .unset, .unset, .unset, .unset]) rfl ?_
    show Steps p.tables e below (T9.setTop (mkF m 45 #[.val (.long p0), .second, .val (.long p1), .second, .val (.long p2), .second, .val (.long p3), .second, .val (.int p4), .val (.int p5), .val (.ref b1), .val (.int v11), .val (.int v12), .val (.int v13), .unset, .unset, .unset, .unset, .unset, .unset, .unset, .unset, .unset, .unset, .unset] [])) _
    refine XS.iload X9.here hx rfl (hb hby at_45) rfl ?_
    show Steps p.tables e below (T9.setTop (mkF m 47 #[.val (.long p0), .second, .val (.long p1), .second, .val (.long p2), .second, .val (.long p3), .second, .val (.int p4), .val (.int p5), .val (.ref b1), .val (.int v11), .val (.int v12), .val (.int v13), .unset, .unset, .unset, .unset, .unset, .unset, .unset, .unset, .unset, .unset, .unset] [(.int p4)])) _
    refine XS.bipush X9.here hx rfl (hb hby at_47) ?_
    show Steps p.tables e below (T9.setTop (mkF m 49 #[.val (.long p0), .second, .val (.long p1), .second, .val (.long p2), .second, .val (.long p3), .second, .val (.int p4), .val (.int p5), .val (.ref b1), .val (.int v11), .val (.int v12), .val (.int v13), .unset, .unset, .unset, .unset, .unset, .unset, .unset, .unset, .unset, .unset, .unset] [(.int (6 : Int32)), (.int p4)])) _
    refine XS.iushr X9.here hx rfl (hb hby at_49) rfl ?_
    show Steps p.tables e below (T9.setTop (mkF m 50 #[.val (.long p0), .second, .val (.long p1), .second, .val (.long p2), .second, .val (.long p3), .second, .val (.int p4), .val (.int p5), .val (.ref b1), .val (.int v11), .val (.int v12), .val (.int v13), .unset, .unset, .unset, .unset, .unset, .unset, .unset, .unset, .unset, .unset, .unset] [(.int ((p4.toUInt32 >>> ((6 : Int32) &&& 31).toUInt32).toInt32))])) _
    refine XS.iconst X9.here hx rfl (hb hby at_50) ?_
    show Steps p.tables e below (T9.setTop (mkF m 51 #[.val (.long p0), .second, .val (.long p1), .second, .val (.long p2), .second, .val (.long p3), .second, .val (.int p4), .val (.int p5), .val (.ref b1), .val (.int v11), .val (.int v12), .val (.int v13), .unset, .unset, .unset, .unset, .unset, .unset, .unset, .unset, .unset, .unset, .unset] [(.int (3 : Int32)), (.int ((p4.toUInt32 >>> ((6 : Int32) &&& 31).toUInt32).toInt32))])) _
    refine XS.iand X9.here hx rfl (hb hby at_51) rfl ?_
    show Steps p.tables e below (T9.setTop (mkF m 52 #[.val (.long p0), .second, .val (.long p1), .second, .val (.long p2), .second, .val (.long p3), .second, .val (.int p4), .val (.int p5), .val (.ref b1), .val (.int v11), .val (.int v12), .val (.int v13), .unset, .unset, .unset, .unset, .unset, .unset, .unset, .unset, .unset, .unset, .unset] [(.int (((p4.toUInt32 >>> ((6 : Int32) &&& 31).toUInt32).toInt32) &&& (3 : Int32)))])) _
    exact k
  obtain ⟨v14, h_v14⟩ : ∃ z, z = (((p4.toUInt32 >>> ((6 : Int32) &&& 31).toUInt32).toInt32) &&& (3 : Int32)) := ⟨_, rfl⟩
  rw [← h_v14]
  have r_v14 : 0 ≤ v14.toInt ∧ v14.toInt < 4 := by rw [h_v14]; exact own_mask4 _
  refine own_go (B := T9.setTop (mkF m 58 #[.val (.long p0), .second, .val (.long p1), .second, .val (.long p2), .second, .val (.long p3), .second, .val (.int p4), .val (.int p5), .val (.ref b1), .val (.int v11), .val (.int v12), .val (.int v13), .val (.int v14), .unset, .unset, .unset, .unset, .unset, .unset, .unset, .unset, .unset, .unset] [(.int (p5 &&& (1 : Int32)))])) (fun t k => ?_) ?_
  · show Steps p.tables e below (T9.setTop (mkF m 52 #[.val (.long p0), .second, .val (.long p1), .second, .val (.long p2), .second, .val (.long p3), .second, .val (.int p4), .val (.int p5), .val (.ref b1), .val (.int v11), .val (.int v12), .val (.int v13), .unset, .unset, .unset, .unset, .unset, .unset, .unset, .unset, .unset, .unset, .unset] [(.int v14)])) _
    refine XS.istore X9.here hx rfl (hb hby at_52) rfl (l' := #[.val (.long p0), .second, .val (.long p1), .second, .val (.long p2), .second, .val (.long p3), .second, .val (.int p4), .val (.int p5), .val (.ref b1), .val (.int v11), .val (.int v12), .val (.int v13), .val (.int v14), .unset, .unset, .unset, .unset, .unset, .unset, .unset, .unset, .unset, .unset]) rfl ?_
    show Steps p.tables e below (T9.setTop (mkF m 54 #[.val (.long p0), .second, .val (.long p1), .second, .val (.long p2), .second, .val (.long p3), .second, .val (.int p4), .val (.int p5), .val (.ref b1), .val (.int v11), .val (.int v12), .val (.int v13), .val (.int v14), .unset, .unset, .unset, .unset, .unset, .unset, .unset, .unset, .unset, .unset] [])) _
    refine XS.iload X9.here hx rfl (hb hby at_54) rfl ?_
    show Steps p.tables e below (T9.setTop (mkF m 56 #[.val (.long p0), .second, .val (.long p1), .second, .val (.long p2), .second, .val (.long p3), .second, .val (.int p4), .val (.int p5), .val (.ref b1), .val (.int v11), .val (.int v12), .val (.int v13), .val (.int v14), .unset, .unset, .unset, .unset, .unset, .unset, .unset, .unset, .unset, .unset] [(.int p5)])) _
    refine XS.iconst X9.here hx rfl (hb hby at_56) ?_
    show Steps p.tables e below (T9.setTop (mkF m 57 #[.val (.long p0), .second, .val (.long p1), .second, .val (.long p2), .second, .val (.long p3), .second, .val (.int p4), .val (.int p5), .val (.ref b1), .val (.int v11), .val (.int v12), .val (.int v13), .val (.int v14), .unset, .unset, .unset, .unset, .unset, .unset, .unset, .unset, .unset, .unset] [(.int (1 : Int32)), (.int p5)])) _
    refine XS.iand X9.here hx rfl (hb hby at_57) rfl ?_
    show Steps p.tables e below (T9.setTop (mkF m 58 #[.val (.long p0), .second, .val (.long p1), .second, .val (.long p2), .second, .val (.long p3), .second, .val (.int p4), .val (.int p5), .val (.ref b1), .val (.int v11), .val (.int v12), .val (.int v13), .val (.int v14), .unset, .unset, .unset, .unset, .unset, .unset, .unset, .unset, .unset, .unset] [(.int (p5 &&& (1 : Int32)))])) _
    exact k
  have J66 : ∀ (TJ : State) (LJ : List Loc) (XJ : Stand p l e room_1 s m #[(.long p0), (.long p1), (.long p2), (.long p3), (.int p4), (.int p5)] below meth c TJ LJ 1 4) (NJ : Fr n0 LJ) (eJ : TJ.heap = h9) (v15 : Int32), (v15 = 0 ∨ v15 = 1) → own_Gd p.tables e below (own_P (Q_rm0 Z h0 n0) s room_1.cells room_1.slots) (TJ.setTop (mkF m 66 #[.val (.long p0), .second, .val (.long p1), .second, .val (.long p2), .second, .val (.long p3), .second, .val (.int p4), .val (.int p5), .val (.ref b1), .val (.int v11), .val (.int v12), .val (.int v13), .val (.int v14), .unset, .unset, .unset, .unset, .unset, .unset, .unset, .unset, .unset, .unset] [(.int v15)])) := by
    intro T10 L10 X10 N10 e10 v15 hv15
    refine own_go (B := T10.setTop (mkF m 69 #[.val (.long p0), .second, .val (.long p1), .second, .val (.long p2), .second, .val (.long p3), .second, .val (.int p4), .val (.int p5), .val (.ref b1), .val (.int v11), .val (.int v12), .val (.int v13), .val (.int v14), .val (.int v15), .unset, .unset, .unset, .unset, .unset, .unset, .unset, .unset, .unset] [(.int (3 : Int32))])) (fun t k => ?_) ?_
    · show Steps p.tables e below (T10.setTop (mkF m 66 #[.val (.long p0), .second, .val (.long p1), .second, .val (.long p2), .second, .val (.long p3), .second, .val (.int p4), .val (.int p5), .val (.ref b1), .val (.int v11), .val (.int v12), .val (.int v13), .val (.int v14), .unset, .unset, .unset, .unset, .unset, .unset, .unset, .unset, .unset, .unset] [(.int v15)])) _
      refine XS.istore X10.here hx rfl (hb hby at_66) rfl (l' := #[.val (.long p0), .second, .val (.long p1), .second, .val (.long p2), .second, .val (.long p3), .second, .val (.int p4), .val (.int p5), .val (.ref b1), .val (.int v11), .val (.int v12), .val (.int v13), .val (.int v14), .val (.int v15), .unset, .unset, .unset, .unset, .unset, .unset, .unset, .unset, .unset]) rfl ?_
      show Steps p.tables e below (T10.setTop (mkF m 68 #[.val (.long p0), .second, .val (.long p1), .second, .val (.long p2), .second, .val (.long p3), .second, .val (.int p4), .val (.int p5), .val (.ref b1), .val (.int v11), .val (.int v12), .val (.int v13), .val (.int v14), .val (.int v15), .unset, .unset, .unset, .unset, .unset, .unset, .unset, .unset, .unset] [])) _
      refine XS.iconst X10.here hx rfl (hb hby at_68) ?_
      show Steps p.tables e below (T10.setTop (mkF m 69 #[.val (.long p0), .second, .val (.long p1), .second, .val (.long p2), .second, .val (.long p3), .second, .val (.int p4), .val (.int p5), .val (.ref b1), .val (.int v11), .val (.int v12), .val (.int v13), .val (.int v14), .val (.int v15), .unset, .unset, .unset, .unset, .unset, .unset, .unset, .unset, .unset] [(.int (3 : Int32))])) _
      exact k
    obtain ⟨T11, h11, k11, X11, e11, E11, A11, st11⟩ := newP X10 hx hZ (hw _ (List.mem_of_getElem? (i := 1) rfl)) e10 (g := (mkF m 69 #[.val (.long p0), .second, .val (.long p1), .second, .val (.long p2), .second, .val (.long p3), .second, .val (.int p4), .val (.int p5), .val (.ref b1), .val (.int v11), .val (.int v12), .val (.int v13), .val (.int v14), .val (.int v15), .unset, .unset, .unset, .unset, .unset, .unset, .unset, .unset, .unset] [(.int (3 : Int32))])) rfl (hb hby at_69) rfl (by decide) (cap := 3) (by decide) (by decide) (by decide) (by decide)
    obtain ⟨b11, g11⟩ : ∃ z, z = h9.size := ⟨_, rfl⟩
    rw [← g11] at A11 st11
    have ne_b1_b11 : b1 ≠ b11 := Nat.ne_of_lt (Nat.lt_of_lt_of_le V_b1.lt (Nat.le_of_eq g11.symm))
    have g_b11 : n0 ≤ b11 := Nat.le_trans Z0 (Nat.le_of_eq g11.symm)
    have sz_b11 : h0.size ≤ b11 := Nat.le_trans K.1 (Nat.le_of_eq g11.symm)
    have V_b1 := V_b1.ext E11
    have E_b1 := E_b1.ext E11
    have K := K.ext E11
    have Z0 := Nat.le_trans Z0 E11.1
    have O := O.ext E11
    have V_b11 : Arv Z h11 b11 k11 .int (3 : Int32) [(.int (0 : Int32)), (.int (0 : Int32)), (.int (0 : Int32))] (.int (0 : Int32)) := (Arv.new A11 (by decide)).pad (pad_rep [] (.int (0 : Int32)) 3)
    refine own_go (B := T11.setTop (mkF m 71 #[.val (.long p0), .second, .val (.long p1), .second, .val (.long p2), .second, .val (.long p3), .second, .val (.int p4), .val (.int p5), .val (.ref b1), .val (.int v11), .val (.int v12), .val (.int v13), .val (.int v14), .val (.int v15), .unset, .unset, .unset, .unset, .unset, .unset, .unset, .unset, .unset] [(.ref b11)])) st11 ?_
    refine own_go (B := T11.setTop (mkF m 75 #[.val (.long p0), .second, .val (.long p1), .second, .val (.long p2), .second, .val (.long p3), .second, .val (.int p4), .val (.int p5), .val (.ref b1), .val (.int v11), .val (.int v12), .val (.int v13), .val (.int v14), .val (.int v15), .unset, .unset, .unset, .unset, .unset, .unset, .unset, .unset, .unset] [(.int v11), (.int (0 : Int32)), (.ref b11), (.ref b11)])) (fun t k => ?_) ?_
    · show Steps p.tables e below (T11.setTop (mkF m 71 #[.val (.long p0), .second, .val (.long p1), .second, .val (.long p2), .second, .val (.long p3), .second, .val (.int p4), .val (.int p5), .val (.ref b1), .val (.int v11), .val (.int v12), .val (.int v13), .val (.int v14), .val (.int v15), .unset, .unset, .unset, .unset, .unset, .unset, .unset, .unset, .unset] [(.ref b11)])) _
      refine XS.dup X11.here hx rfl (hb hby at_71) rfl rfl ?_
      show Steps p.tables e below (T11.setTop (mkF m 72 #[.val (.long p0), .second, .val (.long p1), .second, .val (.long p2), .second, .val (.long p3), .second, .val (.int p4), .val (.int p5), .val (.ref b1), .val (.int v11), .val (.int v12), .val (.int v13), .val (.int v14), .val (.int v15), .unset, .unset, .unset, .unset, .unset, .unset, .unset, .unset, .unset] [(.ref b11), (.ref b11)])) _
      refine XS.iconst X11.here hx rfl (hb hby at_72) ?_
      show Steps p.tables e below (T11.setTop (mkF m 73 #[.val (.long p0), .second, .val (.long p1), .second, .val (.long p2), .second, .val (.long p3), .second, .val (.int p4), .val (.int p5), .val (.ref b1), .val (.int v11), .val (.int v12), .val (.int v13), .val (.int v14), .val (.int v15), .unset, .unset, .unset, .unset, .unset, .unset, .unset, .unset, .unset] [(.int (0 : Int32)), (.ref b11), (.ref b11)])) _
      refine XS.iload X11.here hx rfl (hb hby at_73) rfl ?_
      show Steps p.tables e below (T11.setTop (mkF m 75 #[.val (.long p0), .second, .val (.long p1), .second, .val (.long p2), .second, .val (.long p3), .second, .val (.int p4), .val (.int p5), .val (.ref b1), .val (.int v11), .val (.int v12), .val (.int v13), .val (.int v14), .val (.int v15), .unset, .unset, .unset, .unset, .unset, .unset, .unset, .unset, .unset] [(.int v11), (.int (0 : Int32)), (.ref b11), (.ref b11)])) _
      exact k
    obtain ⟨cl12, Ar12, qa12, Sa12, Na12, Ha12, Ga12⟩ := id V_b11
    have hin12 : ¬ ((0 : Int32) < 0 ∨ cl12.slots.size ≤ ((0 : Int32)).toNatClampNeg) := inb_of Sa12 ⟨by decide, by decide⟩
    obtain ⟨T13, h13, X13, e13, W13, st13⟩ := stI X11 hx hZ e11 Ar12 (j := (0 : Int32)) hin12 (g := (mkF m 75 #[.val (.long p0), .second, .val (.long p1), .second, .val (.long p2), .second, .val (.long p3), .second, .val (.int p4), .val (.int p5), .val (.ref b1), .val (.int v11), .val (.int v12), .val (.int v13), .val (.int v14), .val (.int v15), .unset, .unset, .unset, .unset, .unset, .unset, .unset, .unset, .unset] [(.int v11), (.int (0 : Int32)), (.ref b11), (.ref b11)])) rfl rfl (hb hby at_75)
    have V_b1 := V_b1.other W13 ne_b1_b11
    have E_b1 := E_b1.wr W13
    have Z0 := Nat.le_trans Z0 (Nat.le_of_eq W13.size.symm)
    have O := O.wr W13 g_b11
    have V_b11 : Arv Z h13 b11 k11 .int (3 : Int32) [(.int v11), (.int (0 : Int32)), (.int (0 : Int32))] (.int (0 : Int32)) := Arv.set Ar12 qa12 Sa12 Na12 Ha12 Ga12 rfl W13 0 rfl (Nat.le_of_ble_eq_true rfl)
    have K := K.wr W13 (Or.inr sz_b11)
    have N13 := Fr.snoc X13 N10 g_b11
    refine own_go (B := T13.setTop (mkF m 76 #[.val (.long p0), .second, .val (.long p1), .second, .val (.long p2), .second, .val (.long p3), .second, .val (.int p4), .val (.int p5), .val (.ref b1), .val (.int v11), .val (.int v12), .val (.int v13), .val (.int v14), .val (.int v15), .unset, .unset, .unset, .unset, .unset, .unset, .unset, .unset, .unset] [(.ref b11)])) st13 ?_
    refine own_go (B := T13.setTop (mkF m 80 #[.val (.long p0), .second, .val (.long p1), .second, .val (.long p2), .second, .val (.long p3), .second, .val (.int p4), .val (.int p5), .val (.ref b1), .val (.int v11), .val (.int v12), .val (.int v13), .val (.int v14), .val (.int v15), .unset, .unset, .unset, .unset, .unset, .unset, .unset, .unset, .unset] [(.int v12), (.int (1 : Int32)), (.ref b11), (.ref b11)])) (fun t k => ?_) ?_
    · show Steps p.tables e below (T13.setTop (mkF m 76 #[.val (.long p0), .second, .val (.long p1), .second, .val (.long p2), .second, .val (.long p3), .second, .val (.int p4), .val (.int p5), .val (.ref b1), .val (.int v11), .val (.int v12), .val (.int v13), .val (.int v14), .val (.int v15), .unset, .unset, .unset, .unset, .unset, .unset, .unset, .unset, .unset] [(.ref b11)])) _
      refine XS.dup X13.here hx rfl (hb hby at_76) rfl rfl ?_
      show Steps p.tables e below (T13.setTop (mkF m 77 #[.val (.long p0), .second, .val (.long p1), .second, .val (.long p2), .second, .val (.long p3), .second, .val (.int p4), .val (.int p5), .val (.ref b1), .val (.int v11), .val (.int v12), .val (.int v13), .val (.int v14), .val (.int v15), .unset, .unset, .unset, .unset, .unset, .unset, .unset, .unset, .unset] [(.ref b11), (.ref b11)])) _
      refine XS.iconst X13.here hx rfl (hb hby at_77) ?_
      show Steps p.tables e below (T13.setTop (mkF m 78 #[.val (.long p0), .second, .val (.long p1), .second, .val (.long p2), .second, .val (.long p3), .second, .val (.int p4), .val (.int p5), .val (.ref b1), .val (.int v11), .val (.int v12), .val (.int v13), .val (.int v14), .val (.int v15), .unset, .unset, .unset, .unset, .unset, .unset, .unset, .unset, .unset] [(.int (1 : Int32)), (.ref b11), (.ref b11)])) _
      refine XS.iload X13.here hx rfl (hb hby at_78) rfl ?_
      show Steps p.tables e below (T13.setTop (mkF m 80 #[.val (.long p0), .second, .val (.long p1), .second, .val (.long p2), .second, .val (.long p3), .second, .val (.int p4), .val (.int p5), .val (.ref b1), .val (.int v11), .val (.int v12), .val (.int v13), .val (.int v14), .val (.int v15), .unset, .unset, .unset, .unset, .unset, .unset, .unset, .unset, .unset] [(.int v12), (.int (1 : Int32)), (.ref b11), (.ref b11)])) _
      exact k
    obtain ⟨cl14, Ar14, qa14, Sa14, Na14, Ha14, Ga14⟩ := id V_b11
    have hin14 : ¬ ((1 : Int32) < 0 ∨ cl14.slots.size ≤ ((1 : Int32)).toNatClampNeg) := inb_of Sa14 ⟨by decide, by decide⟩
    obtain ⟨T15, h15, X15, e15, W15, st15⟩ := stI X13 hx hZ e13 Ar14 (j := (1 : Int32)) hin14 (g := (mkF m 80 #[.val (.long p0), .second, .val (.long p1), .second, .val (.long p2), .second, .val (.long p3), .second, .val (.int p4), .val (.int p5), .val (.ref b1), .val (.int v11), .val (.int v12), .val (.int v13), .val (.int v14), .val (.int v15), .unset, .unset, .unset, .unset, .unset, .unset, .unset, .unset, .unset] [(.int v12), (.int (1 : Int32)), (.ref b11), (.ref b11)])) rfl rfl (hb hby at_80)
    have V_b1 := V_b1.other W15 ne_b1_b11
    have E_b1 := E_b1.wr W15
    have Z0 := Nat.le_trans Z0 (Nat.le_of_eq W15.size.symm)
    have O := O.wr W15 g_b11
    have V_b11 : Arv Z h15 b11 k11 .int (3 : Int32) [(.int v11), (.int v12), (.int (0 : Int32))] (.int (0 : Int32)) := Arv.set Ar14 qa14 Sa14 Na14 Ha14 Ga14 rfl W15 1 rfl (Nat.le_of_ble_eq_true rfl)
    have K := K.wr W15 (Or.inr sz_b11)
    have N15 := Fr.snoc X15 N13 g_b11
    refine own_go (B := T15.setTop (mkF m 81 #[.val (.long p0), .second, .val (.long p1), .second, .val (.long p2), .second, .val (.long p3), .second, .val (.int p4), .val (.int p5), .val (.ref b1), .val (.int v11), .val (.int v12), .val (.int v13), .val (.int v14), .val (.int v15), .unset, .unset, .unset, .unset, .unset, .unset, .unset, .unset, .unset] [(.ref b11)])) st15 ?_
    refine own_go (B := T15.setTop (mkF m 85 #[.val (.long p0), .second, .val (.long p1), .second, .val (.long p2), .second, .val (.long p3), .second, .val (.int p4), .val (.int p5), .val (.ref b1), .val (.int v11), .val (.int v12), .val (.int v13), .val (.int v14), .val (.int v15), .unset, .unset, .unset, .unset, .unset, .unset, .unset, .unset, .unset] [(.int v13), (.int (2 : Int32)), (.ref b11), (.ref b11)])) (fun t k => ?_) ?_
    · show Steps p.tables e below (T15.setTop (mkF m 81 #[.val (.long p0), .second, .val (.long p1), .second, .val (.long p2), .second, .val (.long p3), .second, .val (.int p4), .val (.int p5), .val (.ref b1), .val (.int v11), .val (.int v12), .val (.int v13), .val (.int v14), .val (.int v15), .unset, .unset, .unset, .unset, .unset, .unset, .unset, .unset, .unset] [(.ref b11)])) _
      refine XS.dup X15.here hx rfl (hb hby at_81) rfl rfl ?_
      show Steps p.tables e below (T15.setTop (mkF m 82 #[.val (.long p0), .second, .val (.long p1), .second, .val (.long p2), .second, .val (.long p3), .second, .val (.int p4), .val (.int p5), .val (.ref b1), .val (.int v11), .val (.int v12), .val (.int v13), .val (.int v14), .val (.int v15), .unset, .unset, .unset, .unset, .unset, .unset, .unset, .unset, .unset] [(.ref b11), (.ref b11)])) _
      refine XS.iconst X15.here hx rfl (hb hby at_82) ?_
      show Steps p.tables e below (T15.setTop (mkF m 83 #[.val (.long p0), .second, .val (.long p1), .second, .val (.long p2), .second, .val (.long p3), .second, .val (.int p4), .val (.int p5), .val (.ref b1), .val (.int v11), .val (.int v12), .val (.int v13), .val (.int v14), .val (.int v15), .unset, .unset, .unset, .unset, .unset, .unset, .unset, .unset, .unset] [(.int (2 : Int32)), (.ref b11), (.ref b11)])) _
      refine XS.iload X15.here hx rfl (hb hby at_83) rfl ?_
      show Steps p.tables e below (T15.setTop (mkF m 85 #[.val (.long p0), .second, .val (.long p1), .second, .val (.long p2), .second, .val (.long p3), .second, .val (.int p4), .val (.int p5), .val (.ref b1), .val (.int v11), .val (.int v12), .val (.int v13), .val (.int v14), .val (.int v15), .unset, .unset, .unset, .unset, .unset, .unset, .unset, .unset, .unset] [(.int v13), (.int (2 : Int32)), (.ref b11), (.ref b11)])) _
      exact k
    obtain ⟨cl16, Ar16, qa16, Sa16, Na16, Ha16, Ga16⟩ := id V_b11
    have hin16 : ¬ ((2 : Int32) < 0 ∨ cl16.slots.size ≤ ((2 : Int32)).toNatClampNeg) := inb_of Sa16 ⟨by decide, by decide⟩
    obtain ⟨T17, h17, X17, e17, W17, st17⟩ := stI X15 hx hZ e15 Ar16 (j := (2 : Int32)) hin16 (g := (mkF m 85 #[.val (.long p0), .second, .val (.long p1), .second, .val (.long p2), .second, .val (.long p3), .second, .val (.int p4), .val (.int p5), .val (.ref b1), .val (.int v11), .val (.int v12), .val (.int v13), .val (.int v14), .val (.int v15), .unset, .unset, .unset, .unset, .unset, .unset, .unset, .unset, .unset] [(.int v13), (.int (2 : Int32)), (.ref b11), (.ref b11)])) rfl rfl (hb hby at_85)
    have V_b1 := V_b1.other W17 ne_b1_b11
    have E_b1 := E_b1.wr W17
    have Z0 := Nat.le_trans Z0 (Nat.le_of_eq W17.size.symm)
    have O := O.wr W17 g_b11
    have V_b11 : Arv Z h17 b11 k11 .int (3 : Int32) [(.int v11), (.int v12), (.int v13)] (.int (0 : Int32)) := Arv.set Ar16 qa16 Sa16 Na16 Ha16 Ga16 rfl W17 2 rfl (Nat.le_of_ble_eq_true rfl)
    have K := K.wr W17 (Or.inr sz_b11)
    have N17 := Fr.snoc X17 N15 g_b11
    refine own_go (B := T17.setTop (mkF m 86 #[.val (.long p0), .second, .val (.long p1), .second, .val (.long p2), .second, .val (.long p3), .second, .val (.int p4), .val (.int p5), .val (.ref b1), .val (.int v11), .val (.int v12), .val (.int v13), .val (.int v14), .val (.int v15), .unset, .unset, .unset, .unset, .unset, .unset, .unset, .unset, .unset] [(.ref b11)])) st17 ?_
    refine own_go (B := T17.setTop (mkF m 89 #[.val (.long p0), .second, .val (.long p1), .second, .val (.long p2), .second, .val (.long p3), .second, .val (.int p4), .val (.int p5), .val (.ref b1), .val (.int v11), .val (.int v12), .val (.int v13), .val (.int v14), .val (.int v15), .val (.ref b11), .unset, .unset, .unset, .unset, .unset, .unset, .unset, .unset] [(.int (1 : Int32))])) (fun t k => ?_) ?_
    · show Steps p.tables e below (T17.setTop (mkF m 86 #[.val (.long p0), .second, .val (.long p1), .second, .val (.long p2), .second, .val (.long p3), .second, .val (.int p4), .val (.int p5), .val (.ref b1), .val (.int v11), .val (.int v12), .val (.int v13), .val (.int v14), .val (.int v15), .unset, .unset, .unset, .unset, .unset, .unset, .unset, .unset, .unset] [(.ref b11)])) _
      refine XS.astore X17.here hx rfl (hb hby at_86) rfl rfl (l' := #[.val (.long p0), .second, .val (.long p1), .second, .val (.long p2), .second, .val (.long p3), .second, .val (.int p4), .val (.int p5), .val (.ref b1), .val (.int v11), .val (.int v12), .val (.int v13), .val (.int v14), .val (.int v15), .val (.ref b11), .unset, .unset, .unset, .unset, .unset, .unset, .unset, .unset]) rfl ?_
      show Steps p.tables e below (T17.setTop (mkF m 88 #[.val (.long p0), .second, .val (.long p1), .second, .val (.long p2), .second, .val (.long p3), .second, .val (.int p4), .val (.int p5), .val (.ref b1), .val (.int v11), .val (.int v12), .val (.int v13), .val (.int v14), .val (.int v15), .val (.ref b11), .unset, .unset, .unset, .unset, .unset, .unset, .unset, .unset] [])) _
      refine XS.iconst X17.here hx rfl (hb hby at_88) ?_
      show Steps p.tables e below (T17.setTop (mkF m 89 #[.val (.long p0), .second, .val (.long p1), .second, .val (.long p2), .second, .val (.long p3), .second, .val (.int p4), .val (.int p5), .val (.ref b1), .val (.int v11), .val (.int v12), .val (.int v13), .val (.int v14), .val (.int v15), .val (.ref b11), .unset, .unset, .unset, .unset, .unset, .unset, .unset, .unset] [(.int (1 : Int32))])) _
      exact k
    obtain ⟨T18, h18, k18, X18, e18, E18, A18, st18⟩ := newP X17 hx hZ (hw _ (List.mem_of_getElem? (i := 1) rfl)) e17 (g := (mkF m 89 #[.val (.long p0), .second, .val (.long p1), .second, .val (.long p2), .second, .val (.long p3), .second, .val (.int p4), .val (.int p5), .val (.ref b1), .val (.int v11), .val (.int v12), .val (.int v13), .val (.int v14), .val (.int v15), .val (.ref b11), .unset, .unset, .unset, .unset, .unset, .unset, .unset, .unset] [(.int (1 : Int32))])) rfl (hb hby at_89) rfl (by decide) (cap := 1) (by decide) (by decide) (by decide) (by decide)
    obtain ⟨b18, g18⟩ : ∃ z, z = h17.size := ⟨_, rfl⟩
    rw [← g18] at A18 st18
    have ne_b1_b18 : b1 ≠ b18 := Nat.ne_of_lt (Nat.lt_of_lt_of_le V_b1.lt (Nat.le_of_eq g18.symm))
    have ne_b11_b18 : b11 ≠ b18 := Nat.ne_of_lt (Nat.lt_of_lt_of_le V_b11.lt (Nat.le_of_eq g18.symm))
    have g_b18 : n0 ≤ b18 := Nat.le_trans Z0 (Nat.le_of_eq g18.symm)
    have sz_b18 : h0.size ≤ b18 := Nat.le_trans K.1 (Nat.le_of_eq g18.symm)
    have V_b1 := V_b1.ext E18
    have E_b1 := E_b1.ext E18
    have V_b11 := V_b11.ext E18
    have K := K.ext E18
    have Z0 := Nat.le_trans Z0 E18.1
    have O := O.ext E18
    have V_b18 : Arv Z h18 b18 k18 .int (1 : Int32) [(.int (0 : Int32))] (.int (0 : Int32)) := (Arv.new A18 (by decide)).pad (pad_rep [] (.int (0 : Int32)) 1)
    refine own_go (B := T18.setTop (mkF m 91 #[.val (.long p0), .second, .val (.long p1), .second, .val (.long p2), .second, .val (.long p3), .second, .val (.int p4), .val (.int p5), .val (.ref b1), .val (.int v11), .val (.int v12), .val (.int v13), .val (.int v14), .val (.int v15), .val (.ref b11), .unset, .unset, .unset, .unset, .unset, .unset, .unset, .unset] [(.ref b18)])) st18 ?_
    refine own_go (B := T18.setTop (mkF m 95 #[.val (.long p0), .second, .val (.long p1), .second, .val (.long p2), .second, .val (.long p3), .second, .val (.int p4), .val (.int p5), .val (.ref b1), .val (.int v11), .val (.int v12), .val (.int v13), .val (.int v14), .val (.int v15), .val (.ref b11), .unset, .unset, .unset, .unset, .unset, .unset, .unset, .unset] [(.int v14), (.int (0 : Int32)), (.ref b18), (.ref b18)])) (fun t k => ?_) ?_
    · show Steps p.tables e below (T18.setTop (mkF m 91 #[.val (.long p0), .second, .val (.long p1), .second, .val (.long p2), .second, .val (.long p3), .second, .val (.int p4), .val (.int p5), .val (.ref b1), .val (.int v11), .val (.int v12), .val (.int v13), .val (.int v14), .val (.int v15), .val (.ref b11), .unset, .unset, .unset, .unset, .unset, .unset, .unset, .unset] [(.ref b18)])) _
      refine XS.dup X18.here hx rfl (hb hby at_91) rfl rfl ?_
      show Steps p.tables e below (T18.setTop (mkF m 92 #[.val (.long p0), .second, .val (.long p1), .second, .val (.long p2), .second, .val (.long p3), .second, .val (.int p4), .val (.int p5), .val (.ref b1), .val (.int v11), .val (.int v12), .val (.int v13), .val (.int v14), .val (.int v15), .val (.ref b11), .unset, .unset, .unset, .unset, .unset, .unset, .unset, .unset] [(.ref b18), (.ref b18)])) _
      refine XS.iconst X18.here hx rfl (hb hby at_92) ?_
      show Steps p.tables e below (T18.setTop (mkF m 93 #[.val (.long p0), .second, .val (.long p1), .second, .val (.long p2), .second, .val (.long p3), .second, .val (.int p4), .val (.int p5), .val (.ref b1), .val (.int v11), .val (.int v12), .val (.int v13), .val (.int v14), .val (.int v15), .val (.ref b11), .unset, .unset, .unset, .unset, .unset, .unset, .unset, .unset] [(.int (0 : Int32)), (.ref b18), (.ref b18)])) _
      refine XS.iload X18.here hx rfl (hb hby at_93) rfl ?_
      show Steps p.tables e below (T18.setTop (mkF m 95 #[.val (.long p0), .second, .val (.long p1), .second, .val (.long p2), .second, .val (.long p3), .second, .val (.int p4), .val (.int p5), .val (.ref b1), .val (.int v11), .val (.int v12), .val (.int v13), .val (.int v14), .val (.int v15), .val (.ref b11), .unset, .unset, .unset, .unset, .unset, .unset, .unset, .unset] [(.int v14), (.int (0 : Int32)), (.ref b18), (.ref b18)])) _
      exact k
    obtain ⟨cl19, Ar19, qa19, Sa19, Na19, Ha19, Ga19⟩ := id V_b18
    have hin19 : ¬ ((0 : Int32) < 0 ∨ cl19.slots.size ≤ ((0 : Int32)).toNatClampNeg) := inb_of Sa19 ⟨by decide, by decide⟩
    obtain ⟨T20, h20, X20, e20, W20, st20⟩ := stI X18 hx hZ e18 Ar19 (j := (0 : Int32)) hin19 (g := (mkF m 95 #[.val (.long p0), .second, .val (.long p1), .second, .val (.long p2), .second, .val (.long p3), .second, .val (.int p4), .val (.int p5), .val (.ref b1), .val (.int v11), .val (.int v12), .val (.int v13), .val (.int v14), .val (.int v15), .val (.ref b11), .unset, .unset, .unset, .unset, .unset, .unset, .unset, .unset] [(.int v14), (.int (0 : Int32)), (.ref b18), (.ref b18)])) rfl rfl (hb hby at_95)
    have V_b1 := V_b1.other W20 ne_b1_b18
    have E_b1 := E_b1.wr W20
    have V_b11 := V_b11.other W20 ne_b11_b18
    have Z0 := Nat.le_trans Z0 (Nat.le_of_eq W20.size.symm)
    have O := O.wr W20 g_b18
    have V_b18 : Arv Z h20 b18 k18 .int (1 : Int32) [(.int v14)] (.int (0 : Int32)) := Arv.set Ar19 qa19 Sa19 Na19 Ha19 Ga19 rfl W20 0 rfl (Nat.le_of_ble_eq_true rfl)
    have K := K.wr W20 (Or.inr sz_b18)
    have N20 := Fr.snoc X20 N17 g_b18
    refine own_go (B := T20.setTop (mkF m 96 #[.val (.long p0), .second, .val (.long p1), .second, .val (.long p2), .second, .val (.long p3), .second, .val (.int p4), .val (.int p5), .val (.ref b1), .val (.int v11), .val (.int v12), .val (.int v13), .val (.int v14), .val (.int v15), .val (.ref b11), .unset, .unset, .unset, .unset, .unset, .unset, .unset, .unset] [(.ref b18)])) st20 ?_
    refine own_go (B := T20.setTop (mkF m 99 #[.val (.long p0), .second, .val (.long p1), .second, .val (.long p2), .second, .val (.long p3), .second, .val (.int p4), .val (.int p5), .val (.ref b1), .val (.int v11), .val (.int v12), .val (.int v13), .val (.int v14), .val (.int v15), .val (.ref b11), .val (.ref b18), .unset, .unset, .unset, .unset, .unset, .unset, .unset] [(.int (0 : Int32))])) (fun t k => ?_) ?_
    · show Steps p.tables e below (T20.setTop (mkF m 96 #[.val (.long p0), .second, .val (.long p1), .second, .val (.long p2), .second, .val (.long p3), .second, .val (.int p4), .val (.int p5), .val (.ref b1), .val (.int v11), .val (.int v12), .val (.int v13), .val (.int v14), .val (.int v15), .val (.ref b11), .unset, .unset, .unset, .unset, .unset, .unset, .unset, .unset] [(.ref b18)])) _
      refine XS.astore X20.here hx rfl (hb hby at_96) rfl rfl (l' := #[.val (.long p0), .second, .val (.long p1), .second, .val (.long p2), .second, .val (.long p3), .second, .val (.int p4), .val (.int p5), .val (.ref b1), .val (.int v11), .val (.int v12), .val (.int v13), .val (.int v14), .val (.int v15), .val (.ref b11), .val (.ref b18), .unset, .unset, .unset, .unset, .unset, .unset, .unset]) rfl ?_
      show Steps p.tables e below (T20.setTop (mkF m 98 #[.val (.long p0), .second, .val (.long p1), .second, .val (.long p2), .second, .val (.long p3), .second, .val (.int p4), .val (.int p5), .val (.ref b1), .val (.int v11), .val (.int v12), .val (.int v13), .val (.int v14), .val (.int v15), .val (.ref b11), .val (.ref b18), .unset, .unset, .unset, .unset, .unset, .unset, .unset] [])) _
      refine XS.iconst X20.here hx rfl (hb hby at_98) ?_
      show Steps p.tables e below (T20.setTop (mkF m 99 #[.val (.long p0), .second, .val (.long p1), .second, .val (.long p2), .second, .val (.long p3), .second, .val (.int p4), .val (.int p5), .val (.ref b1), .val (.int v11), .val (.int v12), .val (.int v13), .val (.int v14), .val (.int v15), .val (.ref b11), .val (.ref b18), .unset, .unset, .unset, .unset, .unset, .unset, .unset] [(.int (0 : Int32))])) _
      exact k
    obtain ⟨T21, h21, k21, X21, e21, E21, A21, st21⟩ := newP X20 hx hZ (hw _ (List.mem_of_getElem? (i := 1) rfl)) e20 (g := (mkF m 99 #[.val (.long p0), .second, .val (.long p1), .second, .val (.long p2), .second, .val (.long p3), .second, .val (.int p4), .val (.int p5), .val (.ref b1), .val (.int v11), .val (.int v12), .val (.int v13), .val (.int v14), .val (.int v15), .val (.ref b11), .val (.ref b18), .unset, .unset, .unset, .unset, .unset, .unset, .unset] [(.int (0 : Int32))])) rfl (hb hby at_99) rfl (by decide) (cap := 0) (by decide) (by decide) (by decide) (by decide)
    obtain ⟨b21, g21⟩ : ∃ z, z = h20.size := ⟨_, rfl⟩
    rw [← g21] at A21 st21
    have ne_b1_b21 : b1 ≠ b21 := Nat.ne_of_lt (Nat.lt_of_lt_of_le V_b1.lt (Nat.le_of_eq g21.symm))
    have ne_b11_b21 : b11 ≠ b21 := Nat.ne_of_lt (Nat.lt_of_lt_of_le V_b11.lt (Nat.le_of_eq g21.symm))
    have ne_b18_b21 : b18 ≠ b21 := Nat.ne_of_lt (Nat.lt_of_lt_of_le V_b18.lt (Nat.le_of_eq g21.symm))
    have g_b21 : n0 ≤ b21 := Nat.le_trans Z0 (Nat.le_of_eq g21.symm)
    have sz_b21 : h0.size ≤ b21 := Nat.le_trans K.1 (Nat.le_of_eq g21.symm)
    have V_b1 := V_b1.ext E21
    have E_b1 := E_b1.ext E21
    have V_b11 := V_b11.ext E21
    have V_b18 := V_b18.ext E21
    have K := K.ext E21
    have Z0 := Nat.le_trans Z0 E21.1
    have O := O.ext E21
    have V_b21 : Arv Z h21 b21 k21 .int (0 : Int32) [] (.int (0 : Int32)) := Arv.new A21 (by decide)
    refine own_go (B := T21.setTop (mkF m 101 #[.val (.long p0), .second, .val (.long p1), .second, .val (.long p2), .second, .val (.long p3), .second, .val (.int p4), .val (.int p5), .val (.ref b1), .val (.int v11), .val (.int v12), .val (.int v13), .val (.int v14), .val (.int v15), .val (.ref b11), .val (.ref b18), .unset, .unset, .unset, .unset, .unset, .unset, .unset] [(.ref b21)])) st21 ?_
    refine own_go (B := T21.setTop (mkF m 104 #[.val (.long p0), .second, .val (.long p1), .second, .val (.long p2), .second, .val (.long p3), .second, .val (.int p4), .val (.int p5), .val (.ref b1), .val (.int v11), .val (.int v12), .val (.int v13), .val (.int v14), .val (.int v15), .val (.ref b11), .val (.ref b18), .val (.ref b21), .unset, .unset, .unset, .unset, .unset, .unset] [(.int (1 : Int32))])) (fun t k => ?_) ?_
    · show Steps p.tables e below (T21.setTop (mkF m 101 #[.val (.long p0), .second, .val (.long p1), .second, .val (.long p2), .second, .val (.long p3), .second, .val (.int p4), .val (.int p5), .val (.ref b1), .val (.int v11), .val (.int v12), .val (.int v13), .val (.int v14), .val (.int v15), .val (.ref b11), .val (.ref b18), .unset, .unset, .unset, .unset, .unset, .unset, .unset] [(.ref b21)])) _
      refine XS.astore X21.here hx rfl (hb hby at_101) rfl rfl (l' := #[.val (.long p0), .second, .val (.long p1), .second, .val (.long p2), .second, .val (.long p3), .second, .val (.int p4), .val (.int p5), .val (.ref b1), .val (.int v11), .val (.int v12), .val (.int v13), .val (.int v14), .val (.int v15), .val (.ref b11), .val (.ref b18), .val (.ref b21), .unset, .unset, .unset, .unset, .unset, .unset]) rfl ?_
      show Steps p.tables e below (T21.setTop (mkF m 103 #[.val (.long p0), .second, .val (.long p1), .second, .val (.long p2), .second, .val (.long p3), .second, .val (.int p4), .val (.int p5), .val (.ref b1), .val (.int v11), .val (.int v12), .val (.int v13), .val (.int v14), .val (.int v15), .val (.ref b11), .val (.ref b18), .val (.ref b21), .unset, .unset, .unset, .unset, .unset, .unset] [])) _
      refine XS.iconst X21.here hx rfl (hb hby at_103) ?_
      show Steps p.tables e below (T21.setTop (mkF m 104 #[.val (.long p0), .second, .val (.long p1), .second, .val (.long p2), .second, .val (.long p3), .second, .val (.int p4), .val (.int p5), .val (.ref b1), .val (.int v11), .val (.int v12), .val (.int v13), .val (.int v14), .val (.int v15), .val (.ref b11), .val (.ref b18), .val (.ref b21), .unset, .unset, .unset, .unset, .unset, .unset] [(.int (1 : Int32))])) _
      exact k
    obtain ⟨T22, h22, k22, X22, e22, E22, A22, st22⟩ := newP X21 hx hZ (hw _ (List.mem_of_getElem? (i := 2) rfl)) e21 (g := (mkF m 104 #[.val (.long p0), .second, .val (.long p1), .second, .val (.long p2), .second, .val (.long p3), .second, .val (.int p4), .val (.int p5), .val (.ref b1), .val (.int v11), .val (.int v12), .val (.int v13), .val (.int v14), .val (.int v15), .val (.ref b11), .val (.ref b18), .val (.ref b21), .unset, .unset, .unset, .unset, .unset, .unset] [(.int (1 : Int32))])) rfl (hb hby at_104) rfl (by decide) (cap := 1) (by decide) (by decide) (by decide) (by decide)
    obtain ⟨b22, g22⟩ : ∃ z, z = h21.size := ⟨_, rfl⟩
    rw [← g22] at A22 st22
    have ne_b1_b22 : b1 ≠ b22 := Nat.ne_of_lt (Nat.lt_of_lt_of_le V_b1.lt (Nat.le_of_eq g22.symm))
    have ne_b11_b22 : b11 ≠ b22 := Nat.ne_of_lt (Nat.lt_of_lt_of_le V_b11.lt (Nat.le_of_eq g22.symm))
    have ne_b18_b22 : b18 ≠ b22 := Nat.ne_of_lt (Nat.lt_of_lt_of_le V_b18.lt (Nat.le_of_eq g22.symm))
    have ne_b21_b22 : b21 ≠ b22 := Nat.ne_of_lt (Nat.lt_of_lt_of_le V_b21.lt (Nat.le_of_eq g22.symm))
    have g_b22 : n0 ≤ b22 := Nat.le_trans Z0 (Nat.le_of_eq g22.symm)
    have sz_b22 : h0.size ≤ b22 := Nat.le_trans K.1 (Nat.le_of_eq g22.symm)
    have V_b1 := V_b1.ext E22
    have E_b1 := E_b1.ext E22
    have V_b11 := V_b11.ext E22
    have V_b18 := V_b18.ext E22
    have V_b21 := V_b21.ext E22
    have K := K.ext E22
    have Z0 := Nat.le_trans Z0 E22.1
    have O := O.ext E22
    have V_b22 : Arv Z h22 b22 k22 .boolean (1 : Int32) [(.int (0 : Int32))] (.int (0 : Int32)) := (Arv.new A22 (by decide)).pad (pad_rep [] (.int (0 : Int32)) 1)
    refine own_go (B := T22.setTop (mkF m 106 #[.val (.long p0), .second, .val (.long p1), .second, .val (.long p2), .second, .val (.long p3), .second, .val (.int p4), .val (.int p5), .val (.ref b1), .val (.int v11), .val (.int v12), .val (.int v13), .val (.int v14), .val (.int v15), .val (.ref b11), .val (.ref b18), .val (.ref b21), .unset, .unset, .unset, .unset, .unset, .unset] [(.ref b22)])) st22 ?_
    refine own_go (B := T22.setTop (mkF m 110 #[.val (.long p0), .second, .val (.long p1), .second, .val (.long p2), .second, .val (.long p3), .second, .val (.int p4), .val (.int p5), .val (.ref b1), .val (.int v11), .val (.int v12), .val (.int v13), .val (.int v14), .val (.int v15), .val (.ref b11), .val (.ref b18), .val (.ref b21), .unset, .unset, .unset, .unset, .unset, .unset] [(.int v15), (.int (0 : Int32)), (.ref b22), (.ref b22)])) (fun t k => ?_) ?_
    · show Steps p.tables e below (T22.setTop (mkF m 106 #[.val (.long p0), .second, .val (.long p1), .second, .val (.long p2), .second, .val (.long p3), .second, .val (.int p4), .val (.int p5), .val (.ref b1), .val (.int v11), .val (.int v12), .val (.int v13), .val (.int v14), .val (.int v15), .val (.ref b11), .val (.ref b18), .val (.ref b21), .unset, .unset, .unset, .unset, .unset, .unset] [(.ref b22)])) _
      refine XS.dup X22.here hx rfl (hb hby at_106) rfl rfl ?_
      show Steps p.tables e below (T22.setTop (mkF m 107 #[.val (.long p0), .second, .val (.long p1), .second, .val (.long p2), .second, .val (.long p3), .second, .val (.int p4), .val (.int p5), .val (.ref b1), .val (.int v11), .val (.int v12), .val (.int v13), .val (.int v14), .val (.int v15), .val (.ref b11), .val (.ref b18), .val (.ref b21), .unset, .unset, .unset, .unset, .unset, .unset] [(.ref b22), (.ref b22)])) _
      refine XS.iconst X22.here hx rfl (hb hby at_107) ?_
      show Steps p.tables e below (T22.setTop (mkF m 108 #[.val (.long p0), .second, .val (.long p1), .second, .val (.long p2), .second, .val (.long p3), .second, .val (.int p4), .val (.int p5), .val (.ref b1), .val (.int v11), .val (.int v12), .val (.int v13), .val (.int v14), .val (.int v15), .val (.ref b11), .val (.ref b18), .val (.ref b21), .unset, .unset, .unset, .unset, .unset, .unset] [(.int (0 : Int32)), (.ref b22), (.ref b22)])) _
      refine XS.iload X22.here hx rfl (hb hby at_108) rfl ?_
      show Steps p.tables e below (T22.setTop (mkF m 110 #[.val (.long p0), .second, .val (.long p1), .second, .val (.long p2), .second, .val (.long p3), .second, .val (.int p4), .val (.int p5), .val (.ref b1), .val (.int v11), .val (.int v12), .val (.int v13), .val (.int v14), .val (.int v15), .val (.ref b11), .val (.ref b18), .val (.ref b21), .unset, .unset, .unset, .unset, .unset, .unset] [(.int v15), (.int (0 : Int32)), (.ref b22), (.ref b22)])) _
      exact k
    obtain ⟨cl23, Ar23, qa23, Sa23, Na23, Ha23, Ga23⟩ := id V_b22
    have hin23 : ¬ ((0 : Int32) < 0 ∨ cl23.slots.size ≤ ((0 : Int32)).toNatClampNeg) := inb_of Sa23 ⟨by decide, by decide⟩
    obtain ⟨T24, h24, X24, e24, W24, st24⟩ := stZ X22 hx hZ e22 Ar23 (j := (0 : Int32)) hin23 (g := (mkF m 110 #[.val (.long p0), .second, .val (.long p1), .second, .val (.long p2), .second, .val (.long p3), .second, .val (.int p4), .val (.int p5), .val (.ref b1), .val (.int v11), .val (.int v12), .val (.int v13), .val (.int v14), .val (.int v15), .val (.ref b11), .val (.ref b18), .val (.ref b21), .unset, .unset, .unset, .unset, .unset, .unset] [(.int v15), (.int (0 : Int32)), (.ref b22), (.ref b22)])) rfl rfl (hb hby at_110)
    have V_b1 := V_b1.other W24 ne_b1_b22
    have E_b1 := E_b1.wr W24
    have V_b11 := V_b11.other W24 ne_b11_b22
    have V_b18 := V_b18.other W24 ne_b18_b22
    have V_b21 := V_b21.other W24 ne_b21_b22
    have Z0 := Nat.le_trans Z0 (Nat.le_of_eq W24.size.symm)
    have O := O.wr W24 g_b22
    have V_b22 : Arv Z h24 b22 k22 .boolean (1 : Int32) [(.int (nar .boolean v15))] (.int (0 : Int32)) := Arv.set Ar23 qa23 Sa23 Na23 Ha23 Ga23 (fits_nar_bool _) W24 0 rfl (Nat.le_of_ble_eq_true rfl)
    have K := K.wr W24 (Or.inr sz_b22)
    have N24 := Fr.snoc X24 N20 g_b22
    refine own_go (B := T24.setTop (mkF m 111 #[.val (.long p0), .second, .val (.long p1), .second, .val (.long p2), .second, .val (.long p3), .second, .val (.int p4), .val (.int p5), .val (.ref b1), .val (.int v11), .val (.int v12), .val (.int v13), .val (.int v14), .val (.int v15), .val (.ref b11), .val (.ref b18), .val (.ref b21), .unset, .unset, .unset, .unset, .unset, .unset] [(.ref b22)])) st24 ?_
    refine own_go (B := T24.setTop (mkF m 113 #[.val (.long p0), .second, .val (.long p1), .second, .val (.long p2), .second, .val (.long p3), .second, .val (.int p4), .val (.int p5), .val (.ref b1), .val (.int v11), .val (.int v12), .val (.int v13), .val (.int v14), .val (.int v15), .val (.ref b11), .val (.ref b18), .val (.ref b21), .val (.ref b22), .unset, .unset, .unset, .unset, .unset] [])) (fun t k => ?_) ?_
    · show Steps p.tables e below (T24.setTop (mkF m 111 #[.val (.long p0), .second, .val (.long p1), .second, .val (.long p2), .second, .val (.long p3), .second, .val (.int p4), .val (.int p5), .val (.ref b1), .val (.int v11), .val (.int v12), .val (.int v13), .val (.int v14), .val (.int v15), .val (.ref b11), .val (.ref b18), .val (.ref b21), .unset, .unset, .unset, .unset, .unset, .unset] [(.ref b22)])) _
      refine XS.astore X24.here hx rfl (hb hby at_111) rfl rfl (l' := #[.val (.long p0), .second, .val (.long p1), .second, .val (.long p2), .second, .val (.long p3), .second, .val (.int p4), .val (.int p5), .val (.ref b1), .val (.int v11), .val (.int v12), .val (.int v13), .val (.int v14), .val (.int v15), .val (.ref b11), .val (.ref b18), .val (.ref b21), .val (.ref b22), .unset, .unset, .unset, .unset, .unset]) rfl ?_
      show Steps p.tables e below (T24.setTop (mkF m 113 #[.val (.long p0), .second, .val (.long p1), .second, .val (.long p2), .second, .val (.long p3), .second, .val (.int p4), .val (.int p5), .val (.ref b1), .val (.int v11), .val (.int v12), .val (.int v13), .val (.int v14), .val (.int v15), .val (.ref b11), .val (.ref b18), .val (.ref b21), .val (.ref b22), .unset, .unset, .unset, .unset, .unset] [])) _
      exact k
    obtain ⟨T25, h25, X25, e25, E25, A25, D25, U25, st25⟩ := newO X24 hx hZ hown (hw _ (List.mem_of_getElem? (i := 3) rfl)) (hw _ (List.mem_of_getElem? (i := 4) rfl)) (hw _ (List.mem_of_getElem? (i := 5) rfl)) e24 (g := (mkF m 113 #[.val (.long p0), .second, .val (.long p1), .second, .val (.long p2), .second, .val (.long p3), .second, .val (.int p4), .val (.int p5), .val (.ref b1), .val (.int v11), .val (.int v12), .val (.int v13), .val (.int v14), .val (.int v15), .val (.ref b11), .val (.ref b18), .val (.ref b21), .val (.ref b22), .unset, .unset, .unset, .unset, .unset] [])) rfl (hb hby at_113) (by decide) (by decide)
    obtain ⟨b25, g25⟩ : ∃ z, z = h24.size := ⟨_, rfl⟩
    rw [← g25] at A25 D25 U25 st25
    have ne_b1_b25 : b1 ≠ b25 := Nat.ne_of_lt (Nat.lt_of_lt_of_le V_b1.lt (Nat.le_of_eq g25.symm))
    have ne_b11_b25 : b11 ≠ b25 := Nat.ne_of_lt (Nat.lt_of_lt_of_le V_b11.lt (Nat.le_of_eq g25.symm))
    have ne_b18_b25 : b18 ≠ b25 := Nat.ne_of_lt (Nat.lt_of_lt_of_le V_b18.lt (Nat.le_of_eq g25.symm))
    have ne_b21_b25 : b21 ≠ b25 := Nat.ne_of_lt (Nat.lt_of_lt_of_le V_b21.lt (Nat.le_of_eq g25.symm))
    have ne_b22_b25 : b22 ≠ b25 := Nat.ne_of_lt (Nat.lt_of_lt_of_le V_b22.lt (Nat.le_of_eq g25.symm))
    have g_b25 : n0 ≤ b25 := Nat.le_trans Z0 (Nat.le_of_eq g25.symm)
    have sz_b25 : h0.size ≤ b25 := Nat.le_trans K.1 (Nat.le_of_eq g25.symm)
    have V_b1 := V_b1.ext E25
    have E_b1 := E_b1.ext E25
    have V_b11 := V_b11.ext E25
    have V_b18 := V_b18.ext E25
    have V_b21 := V_b21.ext E25
    have V_b22 := V_b22.ext E25
    have K := K.ext E25
    have Z0 := Nat.le_trans Z0 E25.1
    have O := O.ext E25
    have E_b25 := A25
    have F_modCount_b25 : Fld Z h25 b25 "java/util/AbstractList" "modCount" "I" (.int (0 : Int32)) := D25 (Or.inl (hw _ (List.mem_of_getElem? (i := 25) rfl))) (ty := .int) (by decide)
    have F_elementData_b25 : Fld Z h25 b25 "java/util/ArrayList" "elementData" "[Ljava/lang/Object;" .null := D25 (Or.inl (hw _ (List.mem_of_getElem? (i := 28) rfl))) (ty := (.array (.object "java/lang/Object"))) (by decide)
    have F_size_b25 : Fld Z h25 b25 "java/util/ArrayList" "size" "I" (.int (0 : Int32)) := D25 (Or.inl (hw _ (List.mem_of_getElem? (i := 109) rfl))) (ty := .int) (by decide)
    refine own_go (B := T25.setTop (mkF m 116 #[.val (.long p0), .second, .val (.long p1), .second, .val (.long p2), .second, .val (.long p3), .second, .val (.int p4), .val (.int p5), .val (.ref b1), .val (.int v11), .val (.int v12), .val (.int v13), .val (.int v14), .val (.int v15), .val (.ref b11), .val (.ref b18), .val (.ref b21), .val (.ref b22), .unset, .unset, .unset, .unset, .unset] [(.ref b25)])) st25 ?_
    refine own_go (B := T25.setTop (mkF m 117 #[.val (.long p0), .second, .val (.long p1), .second, .val (.long p2), .second, .val (.long p3), .second, .val (.int p4), .val (.int p5), .val (.ref b1), .val (.int v11), .val (.int v12), .val (.int v13), .val (.int v14), .val (.int v15), .val (.ref b11), .val (.ref b18), .val (.ref b21), .val (.ref b22), .unset, .unset, .unset, .unset, .unset] [(.ref b25), (.ref b25)])) (fun t k => ?_) ?_
    · show Steps p.tables e below (T25.setTop (mkF m 116 #[.val (.long p0), .second, .val (.long p1), .second, .val (.long p2), .second, .val (.long p3), .second, .val (.int p4), .val (.int p5), .val (.ref b1), .val (.int v11), .val (.int v12), .val (.int v13), .val (.int v14), .val (.int v15), .val (.ref b11), .val (.ref b18), .val (.ref b21), .val (.ref b22), .unset, .unset, .unset, .unset, .unset] [(.ref b25)])) _
      refine XS.dup X25.here hx rfl (hb hby at_116) rfl rfl ?_
      show Steps p.tables e below (T25.setTop (mkF m 117 #[.val (.long p0), .second, .val (.long p1), .second, .val (.long p2), .second, .val (.long p3), .second, .val (.int p4), .val (.int p5), .val (.ref b1), .val (.int v11), .val (.int v12), .val (.int v13), .val (.int v14), .val (.int v15), .val (.ref b11), .val (.ref b18), .val (.ref b21), .val (.ref b22), .unset, .unset, .unset, .unset, .unset] [(.ref b25), (.ref b25)])) _
      exact k
    obtain ⟨_, _, ⟨T26, L26, k26, n26⟩, -, X26, ⟨Lc26, hQ26, l26, y26, z26⟩, st26⟩ := X25.specialBack hx (y := (⟨"java/util/ArrayList", "<init>", "()V"⟩ : MethodName)) rfl hown (mvT hZ (hw _ (List.mem_of_getElem? (i := 6) rfl))) (mvT hZ (hw _ (List.mem_of_getElem? (i := 7) rfl))) (mvT hZ (hw _ (List.mem_of_getElem? (i := 8) rfl))) (by decide) (backOf (W := 1) (rm1 l Z a0 hw [] b25 w_DEF h25 n0 Z0 F_modCount_b25 F_size_b25 F_elementData_b25 E_b25 g_b25 S_DEF O) hZ (hw _ (List.mem_of_getElem? (i := 8) rfl)) (hw _ (List.mem_of_getElem? (i := 5) rfl)) (by decide) (by decide)) (g := (mkF m 117 #[.val (.long p0), .second, .val (.long p1), .second, .val (.long p2), .second, .val (.long p3), .second, .val (.int p4), .val (.int p5), .val (.ref b1), .val (.int v11), .val (.int v12), .val (.int v13), .val (.int v14), .val (.int v15), .val (.ref b11), .val (.ref b18), .val (.ref b21), .val (.ref b22), .unset, .unset, .unset, .unset, .unset] [(.ref b25), (.ref b25)])) rfl (by rw [hml]; rfl) (Steps.refl _) (a := b25) (argsL := []) (rest := [(.ref b25)]) (lenOf pd_0 rfl) rfl (by show 2 * 0 + _ ≤ _; exact Nat.le_of_eq rfl) (hb hby at_117) (fun _ _ => ⟨rfl, e25, Nat.le_of_ble_eq_true rfl, Nat.le_of_ble_eq_true rfl⟩)
    dsimp only [Pt.U, Pt.locs, Pt.cells, Pt.slots] at X26 l26 y26 z26 st26 hQ26
    subst l26 y26 z26
    obtain ⟨h26, e26⟩ : ∃ z, T26.heap = z := ⟨_, rfl⟩
    rw [e26] at hQ26
    obtain ⟨rfl, N26q, Kc26, Ec26, Fa26, Fb26⟩ := hQ26
    have N26 := Fr.app N24 N26q
    have V_b1 := V_b1.keep Kc26 (ninS ne_b1_b25 nin0)
    have E_b1 := E_b1.keep Kc26
    have V_b11 := V_b11.keep Kc26 (ninS ne_b11_b25 nin0)
    have V_b18 := V_b18.keep Kc26 (ninS ne_b18_b25 nin0)
    have V_b21 := V_b21.keep Kc26 (ninS ne_b21_b25 nin0)
    have V_b22 := V_b22.keep Kc26 (ninS ne_b22_b25 nin0)
    have E_b25 := E_b25.keep Kc26
    have K := K.trans Kc26 (allS (Or.inr sz_b25) all0)
    have Z0 := Nat.le_trans Z0 Kc26.1
    have O := O.keep Kc26 (allS g_b25 all0)
    have E_b25 := Ec26
    have F_modCount_b25 := Fa26
    have F_size_b25 := Fb26
    refine own_go (B := T26.setTop (mkF m 120 #[.val (.long p0), .second, .val (.long p1), .second, .val (.long p2), .second, .val (.long p3), .second, .val (.int p4), .val (.int p5), .val (.ref b1), .val (.int v11), .val (.int v12), .val (.int v13), .val (.int v14), .val (.int v15), .val (.ref b11), .val (.ref b18), .val (.ref b21), .val (.ref b22), .unset, .unset, .unset, .unset, .unset] [(.ref b25)])) (fun t k => st26.trans k) ?_
    refine own_go (B := T26.setTop (mkF m 122 #[.val (.long p0), .second, .val (.long p1), .second, .val (.long p2), .second, .val (.long p3), .second, .val (.int p4), .val (.int p5), .val (.ref b1), .val (.int v11), .val (.int v12), .val (.int v13), .val (.int v14), .val (.int v15), .val (.ref b11), .val (.ref b18), .val (.ref b21), .val (.ref b22), .val (.ref b25), .unset, .unset, .unset, .unset] [])) (fun t k => ?_) ?_
    · show Steps p.tables e below (T26.setTop (mkF m 120 #[.val (.long p0), .second, .val (.long p1), .second, .val (.long p2), .second, .val (.long p3), .second, .val (.int p4), .val (.int p5), .val (.ref b1), .val (.int v11), .val (.int v12), .val (.int v13), .val (.int v14), .val (.int v15), .val (.ref b11), .val (.ref b18), .val (.ref b21), .val (.ref b22), .unset, .unset, .unset, .unset, .unset] [(.ref b25)])) _
      refine XS.astore X26.here hx rfl (hb hby at_120) rfl rfl (l' := #[.val (.long p0), .second, .val (.long p1), .second, .val (.long p2), .second, .val (.long p3), .second, .val (.int p4), .val (.int p5), .val (.ref b1), .val (.int v11), .val (.int v12), .val (.int v13), .val (.int v14), .val (.int v15), .val (.ref b11), .val (.ref b18), .val (.ref b21), .val (.ref b22), .val (.ref b25), .unset, .unset, .unset, .unset]) rfl ?_
      show Steps p.tables e below (T26.setTop (mkF m 122 #[.val (.long p0), .second, .val (.long p1), .second, .val (.long p2), .second, .val (.long p3), .second, .val (.int p4), .val (.int p5), .val (.ref b1), .val (.int v11), .val (.int v12), .val (.int v13), .val (.int v14), .val (.int v15), .val (.ref b11), .val (.ref b18), .val (.ref b21), .val (.ref b22), .val (.ref b25), .unset, .unset, .unset, .unset] [])) _
      exact k
    obtain ⟨T27, h27, X27, e27, E27, A27, D27, U27, st27⟩ := newO X26 hx hZ hown (hw _ (List.mem_of_getElem? (i := 29) rfl)) (hw _ (List.mem_of_getElem? (i := 30) rfl)) (hw _ (List.mem_of_getElem? (i := 31) rfl)) e26 (g := (mkF m 122 #[.val (.long p0), .second, .val (.long p1), .second, .val (.long p2), .second, .val (.long p3), .second, .val (.int p4), .val (.int p5), .val (.ref b1), .val (.int v11), .val (.int v12), .val (.int v13), .val (.int v14), .val (.int v15), .val (.ref b11), .val (.ref b18), .val (.ref b21), .val (.ref b22), .val (.ref b25), .unset, .unset, .unset, .unset] [])) rfl (hb hby at_122) (by decide) (by decide)
    obtain ⟨b27, g27⟩ : ∃ z, z = h26.size := ⟨_, rfl⟩
    rw [← g27] at A27 D27 U27 st27
    have ne_b1_b27 : b1 ≠ b27 := Nat.ne_of_lt (Nat.lt_of_lt_of_le V_b1.lt (Nat.le_of_eq g27.symm))
    have ne_b11_b27 : b11 ≠ b27 := Nat.ne_of_lt (Nat.lt_of_lt_of_le V_b11.lt (Nat.le_of_eq g27.symm))
    have ne_b18_b27 : b18 ≠ b27 := Nat.ne_of_lt (Nat.lt_of_lt_of_le V_b18.lt (Nat.le_of_eq g27.symm))
    have ne_b21_b27 : b21 ≠ b27 := Nat.ne_of_lt (Nat.lt_of_lt_of_le V_b21.lt (Nat.le_of_eq g27.symm))
    have ne_b22_b27 : b22 ≠ b27 := Nat.ne_of_lt (Nat.lt_of_lt_of_le V_b22.lt (Nat.le_of_eq g27.symm))
    have ne_b25_b27 : b25 ≠ b27 := Nat.ne_of_lt (Nat.lt_of_lt_of_le E_b25.lt (Nat.le_of_eq g27.symm))
    have g_b27 : n0 ≤ b27 := Nat.le_trans Z0 (Nat.le_of_eq g27.symm)
    have sz_b27 : h0.size ≤ b27 := Nat.le_trans K.1 (Nat.le_of_eq g27.symm)
    have V_b1 := V_b1.ext E27
    have E_b1 := E_b1.ext E27
    have V_b11 := V_b11.ext E27
    have V_b18 := V_b18.ext E27
    have V_b21 := V_b21.ext E27
    have V_b22 := V_b22.ext E27
    have E_b25 := E_b25.ext E27
    have F_modCount_b25 := F_modCount_b25.ext E27
    have F_size_b25 := F_size_b25.ext E27
    have K := K.ext E27
    have Z0 := Nat.le_trans Z0 E27.1
    have O := O.ext E27
    have E_b27 := A27
    have F_values_b27 : Fld Z h27 b27 "com/example/controller_synthesis/controllersynthesis/output/FunctionBlock" "values" "[J" .null := D27 (Or.inr (hw _ (List.mem_of_getElem? (i := 46) rfl))) (ty := (.array .long)) (by decide)
    have F_inputs_b27 : Fld Z h27 b27 "com/example/controller_synthesis/controllersynthesis/output/FunctionBlock" "inputs" "[I" .null := D27 (Or.inr (hw _ (List.mem_of_getElem? (i := 48) rfl))) (ty := (.array .int)) (by decide)
    have F_outputs_b27 : Fld Z h27 b27 "com/example/controller_synthesis/controllersynthesis/output/FunctionBlock" "outputs" "[I" .null := D27 (Or.inr (hw _ (List.mem_of_getElem? (i := 50) rfl))) (ty := (.array .int)) (by decide)
    have F_timerOutputs_b27 : Fld Z h27 b27 "com/example/controller_synthesis/controllersynthesis/output/FunctionBlock" "timerOutputs" "[I" .null := D27 (Or.inr (hw _ (List.mem_of_getElem? (i := 52) rfl))) (ty := (.array .int)) (by decide)
    have F_body_b27 : Fld Z h27 b27 "com/example/controller_synthesis/controllersynthesis/output/FunctionBlock" "body" "Ljava/util/List;" .null := D27 (Or.inr (hw _ (List.mem_of_getElem? (i := 54) rfl))) (ty := (.object "java/util/List")) (by decide)
    refine own_go (B := T27.setTop (mkF m 125 #[.val (.long p0), .second, .val (.long p1), .second, .val (.long p2), .second, .val (.long p3), .second, .val (.int p4), .val (.int p5), .val (.ref b1), .val (.int v11), .val (.int v12), .val (.int v13), .val (.int v14), .val (.int v15), .val (.ref b11), .val (.ref b18), .val (.ref b21), .val (.ref b22), .val (.ref b25), .unset, .unset, .unset, .unset] [(.ref b27)])) st27 ?_
    refine own_go (B := T27.setTop (mkF m 136 #[.val (.long p0), .second, .val (.long p1), .second, .val (.long p2), .second, .val (.long p3), .second, .val (.int p4), .val (.int p5), .val (.ref b1), .val (.int v11), .val (.int v12), .val (.int v13), .val (.int v14), .val (.int v15), .val (.ref b11), .val (.ref b18), .val (.ref b21), .val (.ref b22), .val (.ref b25), .unset, .unset, .unset, .unset] [(.ref b25), (.ref b11), (.ref b21), (.ref b18), (.ref b1), (.ref b27), (.ref b27)])) (fun t k => ?_) ?_
    · show Steps p.tables e below (T27.setTop (mkF m 125 #[.val (.long p0), .second, .val (.long p1), .second, .val (.long p2), .second, .val (.long p3), .second, .val (.int p4), .val (.int p5), .val (.ref b1), .val (.int v11), .val (.int v12), .val (.int v13), .val (.int v14), .val (.int v15), .val (.ref b11), .val (.ref b18), .val (.ref b21), .val (.ref b22), .val (.ref b25), .unset, .unset, .unset, .unset] [(.ref b27)])) _
      refine XS.dup X27.here hx rfl (hb hby at_125) rfl rfl ?_
      show Steps p.tables e below (T27.setTop (mkF m 126 #[.val (.long p0), .second, .val (.long p1), .second, .val (.long p2), .second, .val (.long p3), .second, .val (.int p4), .val (.int p5), .val (.ref b1), .val (.int v11), .val (.int v12), .val (.int v13), .val (.int v14), .val (.int v15), .val (.ref b11), .val (.ref b18), .val (.ref b21), .val (.ref b22), .val (.ref b25), .unset, .unset, .unset, .unset] [(.ref b27), (.ref b27)])) _
      refine XS.aload X27.here hx rfl (hb hby at_126) rfl rfl ?_
      show Steps p.tables e below (T27.setTop (mkF m 128 #[.val (.long p0), .second, .val (.long p1), .second, .val (.long p2), .second, .val (.long p3), .second, .val (.int p4), .val (.int p5), .val (.ref b1), .val (.int v11), .val (.int v12), .val (.int v13), .val (.int v14), .val (.int v15), .val (.ref b11), .val (.ref b18), .val (.ref b21), .val (.ref b22), .val (.ref b25), .unset, .unset, .unset, .unset] [(.ref b1), (.ref b27), (.ref b27)])) _
      refine XS.aload X27.here hx rfl (hb hby at_128) rfl rfl ?_
      show Steps p.tables e below (T27.setTop (mkF m 130 #[.val (.long p0), .second, .val (.long p1), .second, .val (.long p2), .second, .val (.long p3), .second, .val (.int p4), .val (.int p5), .val (.ref b1), .val (.int v11), .val (.int v12), .val (.int v13), .val (.int v14), .val (.int v15), .val (.ref b11), .val (.ref b18), .val (.ref b21), .val (.ref b22), .val (.ref b25), .unset, .unset, .unset, .unset] [(.ref b18), (.ref b1), (.ref b27), (.ref b27)])) _
      refine XS.aload X27.here hx rfl (hb hby at_130) rfl rfl ?_
      show Steps p.tables e below (T27.setTop (mkF m 132 #[.val (.long p0), .second, .val (.long p1), .second, .val (.long p2), .second, .val (.long p3), .second, .val (.int p4), .val (.int p5), .val (.ref b1), .val (.int v11), .val (.int v12), .val (.int v13), .val (.int v14), .val (.int v15), .val (.ref b11), .val (.ref b18), .val (.ref b21), .val (.ref b22), .val (.ref b25), .unset, .unset, .unset, .unset] [(.ref b21), (.ref b18), (.ref b1), (.ref b27), (.ref b27)])) _
      refine XS.aload X27.here hx rfl (hb hby at_132) rfl rfl ?_
      show Steps p.tables e below (T27.setTop (mkF m 134 #[.val (.long p0), .second, .val (.long p1), .second, .val (.long p2), .second, .val (.long p3), .second, .val (.int p4), .val (.int p5), .val (.ref b1), .val (.int v11), .val (.int v12), .val (.int v13), .val (.int v14), .val (.int v15), .val (.ref b11), .val (.ref b18), .val (.ref b21), .val (.ref b22), .val (.ref b25), .unset, .unset, .unset, .unset] [(.ref b11), (.ref b21), (.ref b18), (.ref b1), (.ref b27), (.ref b27)])) _
      refine XS.aload X27.here hx rfl (hb hby at_134) rfl rfl ?_
      show Steps p.tables e below (T27.setTop (mkF m 136 #[.val (.long p0), .second, .val (.long p1), .second, .val (.long p2), .second, .val (.long p3), .second, .val (.int p4), .val (.int p5), .val (.ref b1), .val (.int v11), .val (.int v12), .val (.int v13), .val (.int v14), .val (.int v15), .val (.ref b11), .val (.ref b18), .val (.ref b21), .val (.ref b22), .val (.ref b25), .unset, .unset, .unset, .unset] [(.ref b25), (.ref b11), (.ref b21), (.ref b18), (.ref b1), (.ref b27), (.ref b27)])) _
      exact k
    obtain ⟨_, _, ⟨T28, L28, k28, n28⟩, -, X28, ⟨Lc28, hQ28, l28, y28, z28⟩, st28⟩ := X27.specialBack hx (y := (⟨"com/example/controller_synthesis/controllersynthesis/output/FunctionBlock", "<init>", "([J[I[I[ILjava/util/List;)V"⟩ : MethodName)) rfl hown (mvT hZ (hw _ (List.mem_of_getElem? (i := 32) rfl))) (mvT hZ (hw _ (List.mem_of_getElem? (i := 33) rfl))) (mvT hZ (hw _ (List.mem_of_getElem? (i := 34) rfl))) (by decide) (backOf (W := 1) (rm5 l Z a0 hw [] b27 b1 b18 b21 b11 b25 k1 p0 p1 p2 p3 h27 n0 Z0 F_values_b27 F_inputs_b27 F_outputs_b27 F_timerOutputs_b27 F_body_b27 E_b27 g_b27 V_b1 E_b1 ne_b1_b27) hZ (hw _ (List.mem_of_getElem? (i := 34) rfl)) (hw _ (List.mem_of_getElem? (i := 31) rfl)) (by decide) (by decide)) (g := (mkF m 136 #[.val (.long p0), .second, .val (.long p1), .second, .val (.long p2), .second, .val (.long p3), .second, .val (.int p4), .val (.int p5), .val (.ref b1), .val (.int v11), .val (.int v12), .val (.int v13), .val (.int v14), .val (.int v15), .val (.ref b11), .val (.ref b18), .val (.ref b21), .val (.ref b22), .val (.ref b25), .unset, .unset, .unset, .unset] [(.ref b25), (.ref b11), (.ref b21), (.ref b18), (.ref b1), (.ref b27), (.ref b27)])) rfl (by rw [hml]; rfl) (Steps.refl _) (a := b27) (argsL := [(.ref b1), (.ref b18), (.ref b21), (.ref b11), (.ref b25)]) (rest := [(.ref b27)]) (lenOf pd_5 rfl) rfl (by show 2 * 0 + _ ≤ _; exact Nat.le_of_eq rfl) (hb hby at_136) (fun _ _ => ⟨rfl, e27, Nat.le_of_ble_eq_true rfl, Nat.le_of_ble_eq_true rfl⟩)
    dsimp only [Pt.U, Pt.locs, Pt.cells, Pt.slots] at X28 l28 y28 z28 st28 hQ28
    subst l28 y28 z28
    obtain ⟨h28, e28⟩ : ∃ z, T28.heap = z := ⟨_, rfl⟩
    rw [e28] at hQ28
    obtain ⟨bv28, rfl, N28q, Kc28, hsz28, Ec28, Fx0_28, Fx1_28, Fx2_28, Fx3_28, Fx4_28, Vc28⟩ := hQ28
    have N28 := Fr.app N26 N28q
    have ne_b1_bv28 : b1 ≠ bv28 := Nat.ne_of_lt (Nat.lt_of_lt_of_le V_b1.lt hsz28)
    have ne_b11_bv28 : b11 ≠ bv28 := Nat.ne_of_lt (Nat.lt_of_lt_of_le V_b11.lt hsz28)
    have ne_b18_bv28 : b18 ≠ bv28 := Nat.ne_of_lt (Nat.lt_of_lt_of_le V_b18.lt hsz28)
    have ne_b21_bv28 : b21 ≠ bv28 := Nat.ne_of_lt (Nat.lt_of_lt_of_le V_b21.lt hsz28)
    have ne_b22_bv28 : b22 ≠ bv28 := Nat.ne_of_lt (Nat.lt_of_lt_of_le V_b22.lt hsz28)
    have ne_b25_bv28 : b25 ≠ bv28 := Nat.ne_of_lt (Nat.lt_of_lt_of_le E_b25.lt hsz28)
    have ne_b27_bv28 : b27 ≠ bv28 := Nat.ne_of_lt (Nat.lt_of_lt_of_le E_b27.lt hsz28)
    have g_bv28 : n0 ≤ bv28 := Nat.le_trans Z0 hsz28
    have sz_bv28 : h0.size ≤ bv28 := Nat.le_trans K.1 hsz28
    have V_b1 := V_b1.keep Kc28 (ninS ne_b1_b27 nin0)
    have E_b1 := E_b1.keep Kc28
    have V_b11 := V_b11.keep Kc28 (ninS ne_b11_b27 nin0)
    have V_b18 := V_b18.keep Kc28 (ninS ne_b18_b27 nin0)
    have V_b21 := V_b21.keep Kc28 (ninS ne_b21_b27 nin0)
    have V_b22 := V_b22.keep Kc28 (ninS ne_b22_b27 nin0)
    have E_b25 := E_b25.keep Kc28
    have F_modCount_b25 := F_modCount_b25.keep Kc28 (ninS ne_b25_b27 nin0)
    have F_size_b25 := F_size_b25.keep Kc28 (ninS ne_b25_b27 nin0)
    have E_b27 := E_b27.keep Kc28
    have K := K.trans Kc28 (allS (Or.inr sz_b27) all0)
    have Z0 := Nat.le_trans Z0 Kc28.1
    have O := O.keep Kc28 (allS g_b27 all0)
    have E_b27 := Ec28
    have F_values_b27 := Fx0_28
    have F_inputs_b27 := Fx1_28
    have F_outputs_b27 := Fx2_28
    have F_timerOutputs_b27 := Fx3_28
    have F_body_b27 := Fx4_28
    have V_bv28 := Vc28
    refine own_go (B := T28.setTop (mkF m 139 #[.val (.long p0), .second, .val (.long p1), .second, .val (.long p2), .second, .val (.long p3), .second, .val (.int p4), .val (.int p5), .val (.ref b1), .val (.int v11), .val (.int v12), .val (.int v13), .val (.int v14), .val (.int v15), .val (.ref b11), .val (.ref b18), .val (.ref b21), .val (.ref b22), .val (.ref b25), .unset, .unset, .unset, .unset] [(.ref b27)])) (fun t k => st28.trans k) ?_
    refine own_go (B := T28.setTop (mkF m 143 #[.val (.long p0), .second, .val (.long p1), .second, .val (.long p2), .second, .val (.long p3), .second, .val (.int p4), .val (.int p5), .val (.ref b1), .val (.int v11), .val (.int v12), .val (.int v13), .val (.int v14), .val (.int v15), .val (.ref b11), .val (.ref b18), .val (.ref b21), .val (.ref b22), .val (.ref b25), .val (.ref b27), .unset, .unset, .unset] [(.ref b27)])) (fun t k => ?_) ?_
    · show Steps p.tables e below (T28.setTop (mkF m 139 #[.val (.long p0), .second, .val (.long p1), .second, .val (.long p2), .second, .val (.long p3), .second, .val (.int p4), .val (.int p5), .val (.ref b1), .val (.int v11), .val (.int v12), .val (.int v13), .val (.int v14), .val (.int v15), .val (.ref b11), .val (.ref b18), .val (.ref b21), .val (.ref b22), .val (.ref b25), .unset, .unset, .unset, .unset] [(.ref b27)])) _
      refine XS.astore X28.here hx rfl (hb hby at_139) rfl rfl (l' := #[.val (.long p0), .second, .val (.long p1), .second, .val (.long p2), .second, .val (.long p3), .second, .val (.int p4), .val (.int p5), .val (.ref b1), .val (.int v11), .val (.int v12), .val (.int v13), .val (.int v14), .val (.int v15), .val (.ref b11), .val (.ref b18), .val (.ref b21), .val (.ref b22), .val (.ref b25), .val (.ref b27), .unset, .unset, .unset]) rfl ?_
      show Steps p.tables e below (T28.setTop (mkF m 141 #[.val (.long p0), .second, .val (.long p1), .second, .val (.long p2), .second, .val (.long p3), .second, .val (.int p4), .val (.int p5), .val (.ref b1), .val (.int v11), .val (.int v12), .val (.int v13), .val (.int v14), .val (.int v15), .val (.ref b11), .val (.ref b18), .val (.ref b21), .val (.ref b22), .val (.ref b25), .val (.ref b27), .unset, .unset, .unset] [])) _
      refine XS.aload X28.here hx rfl (hb hby at_141) rfl rfl ?_
      show Steps p.tables e below (T28.setTop (mkF m 143 #[.val (.long p0), .second, .val (.long p1), .second, .val (.long p2), .second, .val (.long p3), .second, .val (.int p4), .val (.int p5), .val (.ref b1), .val (.int v11), .val (.int v12), .val (.int v13), .val (.int v14), .val (.int v15), .val (.ref b11), .val (.ref b18), .val (.ref b21), .val (.ref b22), .val (.ref b25), .val (.ref b27), .unset, .unset, .unset] [(.ref b27)])) _
      exact k
    obtain ⟨cq29, kq29, q29a, q29b, q29c⟩ := isOf hZ e28 E_b27
    obtain ⟨_, _, ⟨T30, L30, k30, n30⟩, -, X30, ⟨Lc30, hQ30, l30, y30, z30⟩, st30⟩ := X28.virtualBack hx (y := (⟨"com/example/controller_synthesis/controllersynthesis/output/FunctionBlock", "timerOutputs", "()[Z"⟩ : MethodName)) (z := (⟨"com/example/controller_synthesis/controllersynthesis/output/FunctionBlock", "timerOutputs", "()[Z"⟩ : MethodName)) hown (mvT hZ (hw _ (List.mem_of_getElem? (i := 55) rfl))) (mvT hZ (hw _ (List.mem_of_getElem? (i := 56) rfl))) (notFace_of_selects (args := #[]) (mvT hZ (hw _ (List.mem_of_getElem? (i := 58) rfl)))) (mvT hZ (hw _ (List.mem_of_getElem? (i := 58) rfl))) (mvT hZ (hw _ (List.mem_of_getElem? (i := 57) rfl))) (by decide) (backOf (W := 0) (rm6 l Z a0 hw [] b27 bv28 b11 k1 k11 p0 p1 p2 p3 v11 v12 v13 h28 n0 Z0 F_values_b27 F_timerOutputs_b27 V_bv28 V_b11 r_v11 r_v12 r_v13) hZ (hw _ (List.mem_of_getElem? (i := 59) rfl)) (hw _ (List.mem_of_getElem? (i := 31) rfl)) (by decide) (by decide)) q29a q29c (g := (mkF m 143 #[.val (.long p0), .second, .val (.long p1), .second, .val (.long p2), .second, .val (.long p3), .second, .val (.int p4), .val (.int p5), .val (.ref b1), .val (.int v11), .val (.int v12), .val (.int v13), .val (.int v14), .val (.int v15), .val (.ref b11), .val (.ref b18), .val (.ref b21), .val (.ref b22), .val (.ref b25), .val (.ref b27), .unset, .unset, .unset] [(.ref b27)])) rfl (by rw [hml]; rfl) (Steps.refl _) (argsL := []) (rest := []) (lenOf pd_6 rfl) rfl (by show 2 * 0 + _ ≤ _; exact Nat.le_of_eq rfl) (hb hby at_143) (fun _ _ => ⟨rfl, e28, Nat.le_of_ble_eq_true rfl, Nat.le_of_ble_eq_true rfl⟩)
    dsimp only [Pt.U, Pt.locs, Pt.cells, Pt.slots] at X30 l30 y30 z30 st30 hQ30
    subst l30 y30 z30
    obtain ⟨h30, e30⟩ : ∃ z, T30.heap = z := ⟨_, rfl⟩
    rw [e30] at hQ30
    obtain ⟨bt30, kb30, rfl, N30q, Kc30, hsz30, Vc30⟩ := hQ30
    have N30 := Fr.app N28 N30q
    have ne_b1_bt30 : b1 ≠ bt30 := Nat.ne_of_lt (Nat.lt_of_lt_of_le V_b1.lt hsz30)
    have ne_b11_bt30 : b11 ≠ bt30 := Nat.ne_of_lt (Nat.lt_of_lt_of_le V_b11.lt hsz30)
    have ne_b18_bt30 : b18 ≠ bt30 := Nat.ne_of_lt (Nat.lt_of_lt_of_le V_b18.lt hsz30)
    have ne_b21_bt30 : b21 ≠ bt30 := Nat.ne_of_lt (Nat.lt_of_lt_of_le V_b21.lt hsz30)
    have ne_b22_bt30 : b22 ≠ bt30 := Nat.ne_of_lt (Nat.lt_of_lt_of_le V_b22.lt hsz30)
    have ne_b25_bt30 : b25 ≠ bt30 := Nat.ne_of_lt (Nat.lt_of_lt_of_le E_b25.lt hsz30)
    have ne_b27_bt30 : b27 ≠ bt30 := Nat.ne_of_lt (Nat.lt_of_lt_of_le E_b27.lt hsz30)
    have ne_bv28_bt30 : bv28 ≠ bt30 := Nat.ne_of_lt (Nat.lt_of_lt_of_le V_bv28.lt hsz30)
    have g_bt30 : n0 ≤ bt30 := Nat.le_trans Z0 hsz30
    have sz_bt30 : h0.size ≤ bt30 := Nat.le_trans K.1 hsz30
    have V_b1 := V_b1.keep Kc30 nin0
    have E_b1 := E_b1.keep Kc30
    have V_b11 := V_b11.keep Kc30 nin0
    have V_b18 := V_b18.keep Kc30 nin0
    have V_b21 := V_b21.keep Kc30 nin0
    have V_b22 := V_b22.keep Kc30 nin0
    have E_b25 := E_b25.keep Kc30
    have F_modCount_b25 := F_modCount_b25.keep Kc30 nin0
    have F_size_b25 := F_size_b25.keep Kc30 nin0
    have E_b27 := E_b27.keep Kc30
    have F_values_b27 := F_values_b27.keep Kc30 nin0
    have F_inputs_b27 := F_inputs_b27.keep Kc30 nin0
    have F_outputs_b27 := F_outputs_b27.keep Kc30 nin0
    have F_timerOutputs_b27 := F_timerOutputs_b27.keep Kc30 nin0
    have F_body_b27 := F_body_b27.keep Kc30 nin0
    have V_bv28 := V_bv28.keep Kc30 nin0
    have K := K.trans Kc30 all0
    have Z0 := Nat.le_trans Z0 Kc30.1
    have O := O.keep Kc30 all0
    have V_bt30 := Vc30
    refine own_go (B := T30.setTop (mkF m 146 #[.val (.long p0), .second, .val (.long p1), .second, .val (.long p2), .second, .val (.long p3), .second, .val (.int p4), .val (.int p5), .val (.ref b1), .val (.int v11), .val (.int v12), .val (.int v13), .val (.int v14), .val (.int v15), .val (.ref b11), .val (.ref b18), .val (.ref b21), .val (.ref b22), .val (.ref b25), .val (.ref b27), .unset, .unset, .unset] [(.ref bt30)])) (fun t k => st30.trans k) ?_
    refine own_go (B := T30.setTop (mkF m 150 #[.val (.long p0), .second, .val (.long p1), .second, .val (.long p2), .second, .val (.long p3), .second, .val (.int p4), .val (.int p5), .val (.ref b1), .val (.int v11), .val (.int v12), .val (.int v13), .val (.int v14), .val (.int v15), .val (.ref b11), .val (.ref b18), .val (.ref b21), .val (.ref b22), .val (.ref b25), .val (.ref b27), .val (.ref bt30), .unset, .unset] [(.ref bt30)])) (fun t k => ?_) ?_
    · show Steps p.tables e below (T30.setTop (mkF m 146 #[.val (.long p0), .second, .val (.long p1), .second, .val (.long p2), .second, .val (.long p3), .second, .val (.int p4), .val (.int p5), .val (.ref b1), .val (.int v11), .val (.int v12), .val (.int v13), .val (.int v14), .val (.int v15), .val (.ref b11), .val (.ref b18), .val (.ref b21), .val (.ref b22), .val (.ref b25), .val (.ref b27), .unset, .unset, .unset] [(.ref bt30)])) _
      refine XS.astore X30.here hx rfl (hb hby at_146) rfl rfl (l' := #[.val (.long p0), .second, .val (.long p1), .second, .val (.long p2), .second, .val (.long p3), .second, .val (.int p4), .val (.int p5), .val (.ref b1), .val (.int v11), .val (.int v12), .val (.int v13), .val (.int v14), .val (.int v15), .val (.ref b11), .val (.ref b18), .val (.ref b21), .val (.ref b22), .val (.ref b25), .val (.ref b27), .val (.ref bt30), .unset, .unset]) rfl ?_
      show Steps p.tables e below (T30.setTop (mkF m 148 #[.val (.long p0), .second, .val (.long p1), .second, .val (.long p2), .second, .val (.long p3), .second, .val (.int p4), .val (.int p5), .val (.ref b1), .val (.int v11), .val (.int v12), .val (.int v13), .val (.int v14), .val (.int v15), .val (.ref b11), .val (.ref b18), .val (.ref b21), .val (.ref b22), .val (.ref b25), .val (.ref b27), .val (.ref bt30), .unset, .unset] [])) _
      refine XS.aload X30.here hx rfl (hb hby at_148) rfl rfl ?_
      show Steps p.tables e below (T30.setTop (mkF m 150 #[.val (.long p0), .second, .val (.long p1), .second, .val (.long p2), .second, .val (.long p3), .second, .val (.int p4), .val (.int p5), .val (.ref b1), .val (.int v11), .val (.int v12), .val (.int v13), .val (.int v14), .val (.int v15), .val (.ref b11), .val (.ref b18), .val (.ref b21), .val (.ref b22), .val (.ref b25), .val (.ref b27), .val (.ref bt30), .unset, .unset] [(.ref bt30)])) _
      exact k
    obtain ⟨cl31, Ar31, qa31, Sa31, Na31, Ha31, Ga31⟩ := id V_bt30
    refine own_go (B := T30.setTop (mkF m 160 #[.val (.long p0), .second, .val (.long p1), .second, .val (.long p2), .second, .val (.long p3), .second, .val (.int p4), .val (.int p5), .val (.ref b1), .val (.int v11), .val (.int v12), .val (.int v13), .val (.int v14), .val (.int v15), .val (.ref b11), .val (.ref b18), .val (.ref b21), .val (.ref b22), .val (.ref b25), .val (.ref b27), .val (.ref bt30), .unset, .unset] [(.int (0 : Int32)), (.ref bt30)])) (fun t k => ?_) ?_
    · show Steps p.tables e below (T30.setTop (mkF m 150 #[.val (.long p0), .second, .val (.long p1), .second, .val (.long p2), .second, .val (.long p3), .second, .val (.int p4), .val (.int p5), .val (.ref b1), .val (.int v11), .val (.int v12), .val (.int v13), .val (.int v14), .val (.int v15), .val (.ref b11), .val (.ref b18), .val (.ref b21), .val (.ref b22), .val (.ref b25), .val (.ref b27), .val (.ref bt30), .unset, .unset] [(.ref bt30)])) _
      refine X30.arraylength hx (by rw [e30]; exact Ar31.1) (State.isArrayOf_alike hZ.alike Ar31.2.1) (g := (mkF m 150 #[.val (.long p0), .second, .val (.long p1), .second, .val (.long p2), .second, .val (.long p3), .second, .val (.int p4), .val (.int p5), .val (.ref b1), .val (.int v11), .val (.int v12), .val (.int v13), .val (.int v14), .val (.int v15), .val (.ref b11), .val (.ref b18), .val (.ref b21), .val (.ref b22), .val (.ref b25), .val (.ref b27), .val (.ref bt30), .unset, .unset] [(.ref bt30)])) rfl rfl (hb hby at_150) _ ?_
      rw [len_of Sa31 Na31]
      show Steps p.tables e below (T30.setTop (mkF m 151 #[.val (.long p0), .second, .val (.long p1), .second, .val (.long p2), .second, .val (.long p3), .second, .val (.int p4), .val (.int p5), .val (.ref b1), .val (.int v11), .val (.int v12), .val (.int v13), .val (.int v14), .val (.int v15), .val (.ref b11), .val (.ref b18), .val (.ref b21), .val (.ref b22), .val (.ref b25), .val (.ref b27), .val (.ref bt30), .unset, .unset] [(.int (3 : Int32))])) _
      refine XS.iconst X30.here hx rfl (hb hby at_151) ?_
      show Steps p.tables e below (T30.setTop (mkF m 152 #[.val (.long p0), .second, .val (.long p1), .second, .val (.long p2), .second, .val (.long p3), .second, .val (.int p4), .val (.int p5), .val (.ref b1), .val (.int v11), .val (.int v12), .val (.int v13), .val (.int v14), .val (.int v15), .val (.ref b11), .val (.ref b18), .val (.ref b21), .val (.ref b22), .val (.ref b25), .val (.ref b27), .val (.ref bt30), .unset, .unset] [(.int (3 : Int32)), (.int (3 : Int32))])) _
      refine XS.icmpYes X30.here hx rfl (pc0 := 152) (pc' := 157) rfl (hb hby at_152) rfl (teq ((rfl : (3 : Int32) = (3 : Int32)) : (3 : Int32) = (3 : Int32))).1 (by decide) (by decide) ?_
      show Steps p.tables e below (T30.setTop (mkF m 157 #[.val (.long p0), .second, .val (.long p1), .second, .val (.long p2), .second, .val (.long p3), .second, .val (.int p4), .val (.int p5), .val (.ref b1), .val (.int v11), .val (.int v12), .val (.int v13), .val (.int v14), .val (.int v15), .val (.ref b11), .val (.ref b18), .val (.ref b21), .val (.ref b22), .val (.ref b25), .val (.ref b27), .val (.ref bt30), .unset, .unset] [])) _
      refine XS.aload X30.here hx rfl (hb hby at_157) rfl rfl ?_
      show Steps p.tables e below (T30.setTop (mkF m 159 #[.val (.long p0), .second, .val (.long p1), .second, .val (.long p2), .second, .val (.long p3), .second, .val (.int p4), .val (.int p5), .val (.ref b1), .val (.int v11), .val (.int v12), .val (.int v13), .val (.int v14), .val (.int v15), .val (.ref b11), .val (.ref b18), .val (.ref b21), .val (.ref b22), .val (.ref b25), .val (.ref b27), .val (.ref bt30), .unset, .unset] [(.ref bt30)])) _
      refine XS.iconst X30.here hx rfl (hb hby at_159) ?_
      show Steps p.tables e below (T30.setTop (mkF m 160 #[.val (.long p0), .second, .val (.long p1), .second, .val (.long p2), .second, .val (.long p3), .second, .val (.int p4), .val (.int p5), .val (.ref b1), .val (.int v11), .val (.int v12), .val (.int v13), .val (.int v14), .val (.int v15), .val (.ref b11), .val (.ref b18), .val (.ref b21), .val (.ref b22), .val (.ref b25), .val (.ref b27), .val (.ref bt30), .unset, .unset] [(.int (0 : Int32)), (.ref bt30)])) _
      exact k
    obtain ⟨cl32, Ar32, qa32, Sa32, Na32, Ha32, Ga32⟩ := id V_bt30
    have hin32 : ¬ ((0 : Int32) < 0 ∨ cl32.slots.size ≤ ((0 : Int32)).toNatClampNeg) := inb_of Sa32 ⟨by decide, by decide⟩
    have hat32 : cl32.slots[((0 : Int32)).toNatClampNeg]? = some (.int (own_nz (own4 v11 p0 p1 p2 p3))) := Ha32.at hin32 rfl
    refine own_go (B := T30.setTop (mkF m 170 #[.val (.long p0), .second, .val (.long p1), .second, .val (.long p2), .second, .val (.long p3), .second, .val (.int p4), .val (.int p5), .val (.ref b1), .val (.int v11), .val (.int v12), .val (.int v13), .val (.int v14), .val (.int v15), .val (.ref b11), .val (.ref b18), .val (.ref b21), .val (.ref b22), .val (.ref b25), .val (.ref b27), .val (.ref bt30), .unset, .unset] [(.int v15), (.int v14), (.int (0 : Int32)), (.int v11), (.ref b1), (.int (own_nz (own4 v11 p0 p1 p2 p3)))])) (fun t k => ?_) ?_
    · show Steps p.tables e below (T30.setTop (mkF m 160 #[.val (.long p0), .second, .val (.long p1), .second, .val (.long p2), .second, .val (.long p3), .second, .val (.int p4), .val (.int p5), .val (.ref b1), .val (.int v11), .val (.int v12), .val (.int v13), .val (.int v14), .val (.int v15), .val (.ref b11), .val (.ref b18), .val (.ref b21), .val (.ref b22), .val (.ref b25), .val (.ref b27), .val (.ref bt30), .unset, .unset] [(.int (0 : Int32)), (.ref bt30)])) _
      refine X30.baloadBooleans hx (j := (0 : Int32)) (v := (.int (own_nz (own4 v11 p0 p1 p2 p3)))) (by rw [e30]; exact Ar32.1) (State.isArrayOf_alike hZ.alike Ar32.2.1) Ar32.2.2 hin32 hat32 (g := (mkF m 160 #[.val (.long p0), .second, .val (.long p1), .second, .val (.long p2), .second, .val (.long p3), .second, .val (.int p4), .val (.int p5), .val (.ref b1), .val (.int v11), .val (.int v12), .val (.int v13), .val (.int v14), .val (.int v15), .val (.ref b11), .val (.ref b18), .val (.ref b21), .val (.ref b22), .val (.ref b25), .val (.ref b27), .val (.ref bt30), .unset, .unset] [(.int (0 : Int32)), (.ref bt30)])) rfl rfl (hb hby at_160) _ ?_
      show Steps p.tables e below (T30.setTop (mkF m 161 #[.val (.long p0), .second, .val (.long p1), .second, .val (.long p2), .second, .val (.long p3), .second, .val (.int p4), .val (.int p5), .val (.ref b1), .val (.int v11), .val (.int v12), .val (.int v13), .val (.int v14), .val (.int v15), .val (.ref b11), .val (.ref b18), .val (.ref b21), .val (.ref b22), .val (.ref b25), .val (.ref b27), .val (.ref bt30), .unset, .unset] [(.int (own_nz (own4 v11 p0 p1 p2 p3)))])) _
      refine XS.aload X30.here hx rfl (hb hby at_161) rfl rfl ?_
      show Steps p.tables e below (T30.setTop (mkF m 163 #[.val (.long p0), .second, .val (.long p1), .second, .val (.long p2), .second, .val (.long p3), .second, .val (.int p4), .val (.int p5), .val (.ref b1), .val (.int v11), .val (.int v12), .val (.int v13), .val (.int v14), .val (.int v15), .val (.ref b11), .val (.ref b18), .val (.ref b21), .val (.ref b22), .val (.ref b25), .val (.ref b27), .val (.ref bt30), .unset, .unset] [(.ref b1), (.int (own_nz (own4 v11 p0 p1 p2 p3)))])) _
      refine XS.iload X30.here hx rfl (hb hby at_163) rfl ?_
      show Steps p.tables e below (T30.setTop (mkF m 165 #[.val (.long p0), .second, .val (.long p1), .second, .val (.long p2), .second, .val (.long p3), .second, .val (.int p4), .val (.int p5), .val (.ref b1), .val (.int v11), .val (.int v12), .val (.int v13), .val (.int v14), .val (.int v15), .val (.ref b11), .val (.ref b18), .val (.ref b21), .val (.ref b22), .val (.ref b25), .val (.ref b27), .val (.ref bt30), .unset, .unset] [(.int v11), (.ref b1), (.int (own_nz (own4 v11 p0 p1 p2 p3)))])) _
      refine XS.iconst X30.here hx rfl (hb hby at_165) ?_
      show Steps p.tables e below (T30.setTop (mkF m 166 #[.val (.long p0), .second, .val (.long p1), .second, .val (.long p2), .second, .val (.long p3), .second, .val (.int p4), .val (.int p5), .val (.ref b1), .val (.int v11), .val (.int v12), .val (.int v13), .val (.int v14), .val (.int v15), .val (.ref b11), .val (.ref b18), .val (.ref b21), .val (.ref b22), .val (.ref b25), .val (.ref b27), .val (.ref bt30), .unset, .unset] [(.int (0 : Int32)), (.int v11), (.ref b1), (.int (own_nz (own4 v11 p0 p1 p2 p3)))])) _
      refine XS.iload X30.here hx rfl (hb hby at_166) rfl ?_
      show Steps p.tables e below (T30.setTop (mkF m 168 #[.val (.long p0), .second, .val (.long p1), .second, .val (.long p2), .second, .val (.long p3), .second, .val (.int p4), .val (.int p5), .val (.ref b1), .val (.int v11), .val (.int v12), .val (.int v13), .val (.int v14), .val (.int v15), .val (.ref b11), .val (.ref b18), .val (.ref b21), .val (.ref b22), .val (.ref b25), .val (.ref b27), .val (.ref bt30), .unset, .unset] [(.int v14), (.int (0 : Int32)), (.int v11), (.ref b1), (.int (own_nz (own4 v11 p0 p1 p2 p3)))])) _
      refine XS.iload X30.here hx rfl (hb hby at_168) rfl ?_
      show Steps p.tables e below (T30.setTop (mkF m 170 #[.val (.long p0), .second, .val (.long p1), .second, .val (.long p2), .second, .val (.long p3), .second, .val (.int p4), .val (.int p5), .val (.ref b1), .val (.int v11), .val (.int v12), .val (.int v13), .val (.int v14), .val (.int v15), .val (.ref b11), .val (.ref b18), .val (.ref b21), .val (.ref b22), .val (.ref b25), .val (.ref b27), .val (.ref bt30), .unset, .unset] [(.int v15), (.int v14), (.int (0 : Int32)), (.int v11), (.ref b1), (.int (own_nz (own4 v11 p0 p1 p2 p3)))])) _
      exact k
    obtain ⟨_, _, ⟨T33, L33, k33, n33⟩, -, X33, ⟨Lc33, hQ33, l33, y33, z33⟩, st33⟩ := Jvm.LawKit.callS X30 hx (y := (⟨"com/example/controller_synthesis/controllersynthesis/output/FunctionBlockTimerOutputsPinLaw", "expected", "([JIZIZ)Z"⟩ : MethodName)) hown (mvT hZ (hw _ (List.mem_of_getElem? (i := 60) rfl))) (mvT hZ (hw _ (List.mem_of_getElem? (i := 61) rfl))) (mvT hZ (hw _ (List.mem_of_getElem? (i := 62) rfl))) (mvT hZ (hw _ (List.mem_of_getElem? (i := 63) rfl))) (by decide) (backOf (W := 1) (rm7 l Z a0 hw [] b1 k1 p0 p1 p2 p3 v11 (0 : Int32) v14 v15 h30 n0 Z0 V_b1 r_v11) hZ (hw _ (List.mem_of_getElem? (i := 63) rfl)) (hw _ (List.mem_of_getElem? (i := 62) rfl)) (by decide) (by decide)) (g := (mkF m 170 #[.val (.long p0), .second, .val (.long p1), .second, .val (.long p2), .second, .val (.long p3), .second, .val (.int p4), .val (.int p5), .val (.ref b1), .val (.int v11), .val (.int v12), .val (.int v13), .val (.int v14), .val (.int v15), .val (.ref b11), .val (.ref b18), .val (.ref b21), .val (.ref b22), .val (.ref b25), .val (.ref b27), .val (.ref bt30), .unset, .unset] [(.int v15), (.int v14), (.int (0 : Int32)), (.int v11), (.ref b1), (.int (own_nz (own4 v11 p0 p1 p2 p3)))])) rfl (by rw [hml]; rfl) (argsL := [(.ref b1), (.int v11), (.int (0 : Int32)), (.int v14), (.int v15)]) (rest := [(.int (own_nz (own4 v11 p0 p1 p2 p3)))]) (lenOf pd_7 rfl) rfl (by show 2 * 0 + _ ≤ _; exact Nat.le_of_eq rfl) (hb hby at_170) (fun _ _ => ⟨rfl, e30, Nat.le_of_ble_eq_true rfl, Nat.le_of_ble_eq_true rfl⟩)
    dsimp only [Pt.U, Pt.locs, Pt.cells, Pt.slots] at X33 l33 y33 z33 st33 hQ33
    subst l33 y33 z33
    obtain ⟨h33, e33⟩ : ∃ z, T33.heap = z := ⟨_, rfl⟩
    rw [e33] at hQ33
    obtain ⟨rfl, N33q, eq33⟩ := hQ33
    have N33 := Fr.app N30 N33q
    rw [eq33] at e33
    refine own_go (B := T33.setTop (mkF m 173 #[.val (.long p0), .second, .val (.long p1), .second, .val (.long p2), .second, .val (.long p3), .second, .val (.int p4), .val (.int p5), .val (.ref b1), .val (.int v11), .val (.int v12), .val (.int v13), .val (.int v14), .val (.int v15), .val (.ref b11), .val (.ref b18), .val (.ref b21), .val (.ref b22), .val (.ref b25), .val (.ref b27), .val (.ref bt30), .unset, .unset] [(.int (own_exp (0 : Int32) v11 v14 v15 p0 p1 p2 p3)), (.int (own_nz (own4 v11 p0 p1 p2 p3)))])) st33 ?_
    refine own_go (B := T33.setTop (mkF m 179 #[.val (.long p0), .second, .val (.long p1), .second, .val (.long p2), .second, .val (.long p3), .second, .val (.int p4), .val (.int p5), .val (.ref b1), .val (.int v11), .val (.int v12), .val (.int v13), .val (.int v14), .val (.int v15), .val (.ref b11), .val (.ref b18), .val (.ref b21), .val (.ref b22), .val (.ref b25), .val (.ref b27), .val (.ref bt30), .unset, .unset] [(.int (1 : Int32)), (.ref bt30)])) (fun t k => ?_) ?_
    · show Steps p.tables e below (T33.setTop (mkF m 173 #[.val (.long p0), .second, .val (.long p1), .second, .val (.long p2), .second, .val (.long p3), .second, .val (.int p4), .val (.int p5), .val (.ref b1), .val (.int v11), .val (.int v12), .val (.int v13), .val (.int v14), .val (.int v15), .val (.ref b11), .val (.ref b18), .val (.ref b21), .val (.ref b22), .val (.ref b25), .val (.ref b27), .val (.ref bt30), .unset, .unset] [(.int (own_exp (0 : Int32) v11 v14 v15 p0 p1 p2 p3)), (.int (own_nz (own4 v11 p0 p1 p2 p3)))])) _
      refine XS.icmpNo X33.here hx rfl (hb hby at_173) rfl (teq (by simp [own_exp] : (own_nz (own4 v11 p0 p1 p2 p3)) = (own_exp (0 : Int32) v11 v14 v15 p0 p1 p2 p3))).2 ?_
      show Steps p.tables e below (T33.setTop (mkF m 176 #[.val (.long p0), .second, .val (.long p1), .second, .val (.long p2), .second, .val (.long p3), .second, .val (.int p4), .val (.int p5), .val (.ref b1), .val (.int v11), .val (.int v12), .val (.int v13), .val (.int v14), .val (.int v15), .val (.ref b11), .val (.ref b18), .val (.ref b21), .val (.ref b22), .val (.ref b25), .val (.ref b27), .val (.ref bt30), .unset, .unset] [])) _
      refine XS.aload X33.here hx rfl (hb hby at_176) rfl rfl ?_
      show Steps p.tables e below (T33.setTop (mkF m 178 #[.val (.long p0), .second, .val (.long p1), .second, .val (.long p2), .second, .val (.long p3), .second, .val (.int p4), .val (.int p5), .val (.ref b1), .val (.int v11), .val (.int v12), .val (.int v13), .val (.int v14), .val (.int v15), .val (.ref b11), .val (.ref b18), .val (.ref b21), .val (.ref b22), .val (.ref b25), .val (.ref b27), .val (.ref bt30), .unset, .unset] [(.ref bt30)])) _
      refine XS.iconst X33.here hx rfl (hb hby at_178) ?_
      show Steps p.tables e below (T33.setTop (mkF m 179 #[.val (.long p0), .second, .val (.long p1), .second, .val (.long p2), .second, .val (.long p3), .second, .val (.int p4), .val (.int p5), .val (.ref b1), .val (.int v11), .val (.int v12), .val (.int v13), .val (.int v14), .val (.int v15), .val (.ref b11), .val (.ref b18), .val (.ref b21), .val (.ref b22), .val (.ref b25), .val (.ref b27), .val (.ref bt30), .unset, .unset] [(.int (1 : Int32)), (.ref bt30)])) _
      exact k
    obtain ⟨cl34, Ar34, qa34, Sa34, Na34, Ha34, Ga34⟩ := id V_bt30
    have hin34 : ¬ ((1 : Int32) < 0 ∨ cl34.slots.size ≤ ((1 : Int32)).toNatClampNeg) := inb_of Sa34 ⟨by decide, by decide⟩
    have hat34 : cl34.slots[((1 : Int32)).toNatClampNeg]? = some (.int (own_nz (own4 v12 p0 p1 p2 p3))) := Ha34.at hin34 rfl
    refine own_go (B := T33.setTop (mkF m 189 #[.val (.long p0), .second, .val (.long p1), .second, .val (.long p2), .second, .val (.long p3), .second, .val (.int p4), .val (.int p5), .val (.ref b1), .val (.int v11), .val (.int v12), .val (.int v13), .val (.int v14), .val (.int v15), .val (.ref b11), .val (.ref b18), .val (.ref b21), .val (.ref b22), .val (.ref b25), .val (.ref b27), .val (.ref bt30), .unset, .unset] [(.int v15), (.int v14), (.int (0 : Int32)), (.int v12), (.ref b1), (.int (own_nz (own4 v12 p0 p1 p2 p3)))])) (fun t k => ?_) ?_
    · show Steps p.tables e below (T33.setTop (mkF m 179 #[.val (.long p0), .second, .val (.long p1), .second, .val (.long p2), .second, .val (.long p3), .second, .val (.int p4), .val (.int p5), .val (.ref b1), .val (.int v11), .val (.int v12), .val (.int v13), .val (.int v14), .val (.int v15), .val (.ref b11), .val (.ref b18), .val (.ref b21), .val (.ref b22), .val (.ref b25), .val (.ref b27), .val (.ref bt30), .unset, .unset] [(.int (1 : Int32)), (.ref bt30)])) _
      refine X33.baloadBooleans hx (j := (1 : Int32)) (v := (.int (own_nz (own4 v12 p0 p1 p2 p3)))) (by rw [e33]; exact Ar34.1) (State.isArrayOf_alike hZ.alike Ar34.2.1) Ar34.2.2 hin34 hat34 (g := (mkF m 179 #[.val (.long p0), .second, .val (.long p1), .second, .val (.long p2), .second, .val (.long p3), .second, .val (.int p4), .val (.int p5), .val (.ref b1), .val (.int v11), .val (.int v12), .val (.int v13), .val (.int v14), .val (.int v15), .val (.ref b11), .val (.ref b18), .val (.ref b21), .val (.ref b22), .val (.ref b25), .val (.ref b27), .val (.ref bt30), .unset, .unset] [(.int (1 : Int32)), (.ref bt30)])) rfl rfl (hb hby at_179) _ ?_
      show Steps p.tables e below (T33.setTop (mkF m 180 #[.val (.long p0), .second, .val (.long p1), .second, .val (.long p2), .second, .val (.long p3), .second, .val (.int p4), .val (.int p5), .val (.ref b1), .val (.int v11), .val (.int v12), .val (.int v13), .val (.int v14), .val (.int v15), .val (.ref b11), .val (.ref b18), .val (.ref b21), .val (.ref b22), .val (.ref b25), .val (.ref b27), .val (.ref bt30), .unset, .unset] [(.int (own_nz (own4 v12 p0 p1 p2 p3)))])) _
      refine XS.aload X33.here hx rfl (hb hby at_180) rfl rfl ?_
      show Steps p.tables e below (T33.setTop (mkF m 182 #[.val (.long p0), .second, .val (.long p1), .second, .val (.long p2), .second, .val (.long p3), .second, .val (.int p4), .val (.int p5), .val (.ref b1), .val (.int v11), .val (.int v12), .val (.int v13), .val (.int v14), .val (.int v15), .val (.ref b11), .val (.ref b18), .val (.ref b21), .val (.ref b22), .val (.ref b25), .val (.ref b27), .val (.ref bt30), .unset, .unset] [(.ref b1), (.int (own_nz (own4 v12 p0 p1 p2 p3)))])) _
      refine XS.iload X33.here hx rfl (hb hby at_182) rfl ?_
      show Steps p.tables e below (T33.setTop (mkF m 184 #[.val (.long p0), .second, .val (.long p1), .second, .val (.long p2), .second, .val (.long p3), .second, .val (.int p4), .val (.int p5), .val (.ref b1), .val (.int v11), .val (.int v12), .val (.int v13), .val (.int v14), .val (.int v15), .val (.ref b11), .val (.ref b18), .val (.ref b21), .val (.ref b22), .val (.ref b25), .val (.ref b27), .val (.ref bt30), .unset, .unset] [(.int v12), (.ref b1), (.int (own_nz (own4 v12 p0 p1 p2 p3)))])) _
      refine XS.iconst X33.here hx rfl (hb hby at_184) ?_
      show Steps p.tables e below (T33.setTop (mkF m 185 #[.val (.long p0), .second, .val (.long p1), .second, .val (.long p2), .second, .val (.long p3), .second, .val (.int p4), .val (.int p5), .val (.ref b1), .val (.int v11), .val (.int v12), .val (.int v13), .val (.int v14), .val (.int v15), .val (.ref b11), .val (.ref b18), .val (.ref b21), .val (.ref b22), .val (.ref b25), .val (.ref b27), .val (.ref bt30), .unset, .unset] [(.int (0 : Int32)), (.int v12), (.ref b1), (.int (own_nz (own4 v12 p0 p1 p2 p3)))])) _
      refine XS.iload X33.here hx rfl (hb hby at_185) rfl ?_
      show Steps p.tables e below (T33.setTop (mkF m 187 #[.val (.long p0), .second, .val (.long p1), .second, .val (.long p2), .second, .val (.long p3), .second, .val (.int p4), .val (.int p5), .val (.ref b1), .val (.int v11), .val (.int v12), .val (.int v13), .val (.int v14), .val (.int v15), .val (.ref b11), .val (.ref b18), .val (.ref b21), .val (.ref b22), .val (.ref b25), .val (.ref b27), .val (.ref bt30), .unset, .unset] [(.int v14), (.int (0 : Int32)), (.int v12), (.ref b1), (.int (own_nz (own4 v12 p0 p1 p2 p3)))])) _
      refine XS.iload X33.here hx rfl (hb hby at_187) rfl ?_
      show Steps p.tables e below (T33.setTop (mkF m 189 #[.val (.long p0), .second, .val (.long p1), .second, .val (.long p2), .second, .val (.long p3), .second, .val (.int p4), .val (.int p5), .val (.ref b1), .val (.int v11), .val (.int v12), .val (.int v13), .val (.int v14), .val (.int v15), .val (.ref b11), .val (.ref b18), .val (.ref b21), .val (.ref b22), .val (.ref b25), .val (.ref b27), .val (.ref bt30), .unset, .unset] [(.int v15), (.int v14), (.int (0 : Int32)), (.int v12), (.ref b1), (.int (own_nz (own4 v12 p0 p1 p2 p3)))])) _
      exact k
    obtain ⟨_, _, ⟨T35, L35, k35, n35⟩, -, X35, ⟨Lc35, hQ35, l35, y35, z35⟩, st35⟩ := Jvm.LawKit.callS X33 hx (y := (⟨"com/example/controller_synthesis/controllersynthesis/output/FunctionBlockTimerOutputsPinLaw", "expected", "([JIZIZ)Z"⟩ : MethodName)) hown (mvT hZ (hw _ (List.mem_of_getElem? (i := 60) rfl))) (mvT hZ (hw _ (List.mem_of_getElem? (i := 61) rfl))) (mvT hZ (hw _ (List.mem_of_getElem? (i := 62) rfl))) (mvT hZ (hw _ (List.mem_of_getElem? (i := 63) rfl))) (by decide) (backOf (W := 1) (rm7 l Z a0 hw [] b1 k1 p0 p1 p2 p3 v12 (0 : Int32) v14 v15 h30 n0 Z0 V_b1 r_v12) hZ (hw _ (List.mem_of_getElem? (i := 63) rfl)) (hw _ (List.mem_of_getElem? (i := 62) rfl)) (by decide) (by decide)) (g := (mkF m 189 #[.val (.long p0), .second, .val (.long p1), .second, .val (.long p2), .second, .val (.long p3), .second, .val (.int p4), .val (.int p5), .val (.ref b1), .val (.int v11), .val (.int v12), .val (.int v13), .val (.int v14), .val (.int v15), .val (.ref b11), .val (.ref b18), .val (.ref b21), .val (.ref b22), .val (.ref b25), .val (.ref b27), .val (.ref bt30), .unset, .unset] [(.int v15), (.int v14), (.int (0 : Int32)), (.int v12), (.ref b1), (.int (own_nz (own4 v12 p0 p1 p2 p3)))])) rfl (by rw [hml]; rfl) (argsL := [(.ref b1), (.int v12), (.int (0 : Int32)), (.int v14), (.int v15)]) (rest := [(.int (own_nz (own4 v12 p0 p1 p2 p3)))]) (lenOf pd_7 rfl) rfl (by show 2 * 0 + _ ≤ _; exact Nat.le_of_eq rfl) (hb hby at_189) (fun _ _ => ⟨rfl, e33, Nat.le_of_ble_eq_true rfl, Nat.le_of_ble_eq_true rfl⟩)
    dsimp only [Pt.U, Pt.locs, Pt.cells, Pt.slots] at X35 l35 y35 z35 st35 hQ35
    subst l35 y35 z35
    obtain ⟨h35, e35⟩ : ∃ z, T35.heap = z := ⟨_, rfl⟩
    rw [e35] at hQ35
    obtain ⟨rfl, N35q, eq35⟩ := hQ35
    have N35 := Fr.app N33 N35q
    rw [eq35] at e35
    refine own_go (B := T35.setTop (mkF m 192 #[.val (.long p0), .second, .val (.long p1), .second, .val (.long p2), .second, .val (.long p3), .second, .val (.int p4), .val (.int p5), .val (.ref b1), .val (.int v11), .val (.int v12), .val (.int v13), .val (.int v14), .val (.int v15), .val (.ref b11), .val (.ref b18), .val (.ref b21), .val (.ref b22), .val (.ref b25), .val (.ref b27), .val (.ref bt30), .unset, .unset] [(.int (own_exp (0 : Int32) v12 v14 v15 p0 p1 p2 p3)), (.int (own_nz (own4 v12 p0 p1 p2 p3)))])) st35 ?_
    refine own_go (B := T35.setTop (mkF m 198 #[.val (.long p0), .second, .val (.long p1), .second, .val (.long p2), .second, .val (.long p3), .second, .val (.int p4), .val (.int p5), .val (.ref b1), .val (.int v11), .val (.int v12), .val (.int v13), .val (.int v14), .val (.int v15), .val (.ref b11), .val (.ref b18), .val (.ref b21), .val (.ref b22), .val (.ref b25), .val (.ref b27), .val (.ref bt30), .unset, .unset] [(.int (2 : Int32)), (.ref bt30)])) (fun t k => ?_) ?_
    · show Steps p.tables e below (T35.setTop (mkF m 192 #[.val (.long p0), .second, .val (.long p1), .second, .val (.long p2), .second, .val (.long p3), .second, .val (.int p4), .val (.int p5), .val (.ref b1), .val (.int v11), .val (.int v12), .val (.int v13), .val (.int v14), .val (.int v15), .val (.ref b11), .val (.ref b18), .val (.ref b21), .val (.ref b22), .val (.ref b25), .val (.ref b27), .val (.ref bt30), .unset, .unset] [(.int (own_exp (0 : Int32) v12 v14 v15 p0 p1 p2 p3)), (.int (own_nz (own4 v12 p0 p1 p2 p3)))])) _
      refine XS.icmpNo X35.here hx rfl (hb hby at_192) rfl (teq (by simp [own_exp] : (own_nz (own4 v12 p0 p1 p2 p3)) = (own_exp (0 : Int32) v12 v14 v15 p0 p1 p2 p3))).2 ?_
      show Steps p.tables e below (T35.setTop (mkF m 195 #[.val (.long p0), .second, .val (.long p1), .second, .val (.long p2), .second, .val (.long p3), .second, .val (.int p4), .val (.int p5), .val (.ref b1), .val (.int v11), .val (.int v12), .val (.int v13), .val (.int v14), .val (.int v15), .val (.ref b11), .val (.ref b18), .val (.ref b21), .val (.ref b22), .val (.ref b25), .val (.ref b27), .val (.ref bt30), .unset, .unset] [])) _
      refine XS.aload X35.here hx rfl (hb hby at_195) rfl rfl ?_
      show Steps p.tables e below (T35.setTop (mkF m 197 #[.val (.long p0), .second, .val (.long p1), .second, .val (.long p2), .second, .val (.long p3), .second, .val (.int p4), .val (.int p5), .val (.ref b1), .val (.int v11), .val (.int v12), .val (.int v13), .val (.int v14), .val (.int v15), .val (.ref b11), .val (.ref b18), .val (.ref b21), .val (.ref b22), .val (.ref b25), .val (.ref b27), .val (.ref bt30), .unset, .unset] [(.ref bt30)])) _
      refine XS.iconst X35.here hx rfl (hb hby at_197) ?_
      show Steps p.tables e below (T35.setTop (mkF m 198 #[.val (.long p0), .second, .val (.long p1), .second, .val (.long p2), .second, .val (.long p3), .second, .val (.int p4), .val (.int p5), .val (.ref b1), .val (.int v11), .val (.int v12), .val (.int v13), .val (.int v14), .val (.int v15), .val (.ref b11), .val (.ref b18), .val (.ref b21), .val (.ref b22), .val (.ref b25), .val (.ref b27), .val (.ref bt30), .unset, .unset] [(.int (2 : Int32)), (.ref bt30)])) _
      exact k
    obtain ⟨cl36, Ar36, qa36, Sa36, Na36, Ha36, Ga36⟩ := id V_bt30
    have hin36 : ¬ ((2 : Int32) < 0 ∨ cl36.slots.size ≤ ((2 : Int32)).toNatClampNeg) := inb_of Sa36 ⟨by decide, by decide⟩
    have hat36 : cl36.slots[((2 : Int32)).toNatClampNeg]? = some (.int (own_nz (own4 v13 p0 p1 p2 p3))) := Ha36.at hin36 rfl
    refine own_go (B := T35.setTop (mkF m 208 #[.val (.long p0), .second, .val (.long p1), .second, .val (.long p2), .second, .val (.long p3), .second, .val (.int p4), .val (.int p5), .val (.ref b1), .val (.int v11), .val (.int v12), .val (.int v13), .val (.int v14), .val (.int v15), .val (.ref b11), .val (.ref b18), .val (.ref b21), .val (.ref b22), .val (.ref b25), .val (.ref b27), .val (.ref bt30), .unset, .unset] [(.int v15), (.int v14), (.int (0 : Int32)), (.int v13), (.ref b1), (.int (own_nz (own4 v13 p0 p1 p2 p3)))])) (fun t k => ?_) ?_
    · show Steps p.tables e below (T35.setTop (mkF m 198 #[.val (.long p0), .second, .val (.long p1), .second, .val (.long p2), .second, .val (.long p3), .second, .val (.int p4), .val (.int p5), .val (.ref b1), .val (.int v11), .val (.int v12), .val (.int v13), .val (.int v14), .val (.int v15), .val (.ref b11), .val (.ref b18), .val (.ref b21), .val (.ref b22), .val (.ref b25), .val (.ref b27), .val (.ref bt30), .unset, .unset] [(.int (2 : Int32)), (.ref bt30)])) _
      refine X35.baloadBooleans hx (j := (2 : Int32)) (v := (.int (own_nz (own4 v13 p0 p1 p2 p3)))) (by rw [e35]; exact Ar36.1) (State.isArrayOf_alike hZ.alike Ar36.2.1) Ar36.2.2 hin36 hat36 (g := (mkF m 198 #[.val (.long p0), .second, .val (.long p1), .second, .val (.long p2), .second, .val (.long p3), .second, .val (.int p4), .val (.int p5), .val (.ref b1), .val (.int v11), .val (.int v12), .val (.int v13), .val (.int v14), .val (.int v15), .val (.ref b11), .val (.ref b18), .val (.ref b21), .val (.ref b22), .val (.ref b25), .val (.ref b27), .val (.ref bt30), .unset, .unset] [(.int (2 : Int32)), (.ref bt30)])) rfl rfl (hb hby at_198) _ ?_
      show Steps p.tables e below (T35.setTop (mkF m 199 #[.val (.long p0), .second, .val (.long p1), .second, .val (.long p2), .second, .val (.long p3), .second, .val (.int p4), .val (.int p5), .val (.ref b1), .val (.int v11), .val (.int v12), .val (.int v13), .val (.int v14), .val (.int v15), .val (.ref b11), .val (.ref b18), .val (.ref b21), .val (.ref b22), .val (.ref b25), .val (.ref b27), .val (.ref bt30), .unset, .unset] [(.int (own_nz (own4 v13 p0 p1 p2 p3)))])) _
      refine XS.aload X35.here hx rfl (hb hby at_199) rfl rfl ?_
      show Steps p.tables e below (T35.setTop (mkF m 201 #[.val (.long p0), .second, .val (.long p1), .second, .val (.long p2), .second, .val (.long p3), .second, .val (.int p4), .val (.int p5), .val (.ref b1), .val (.int v11), .val (.int v12), .val (.int v13), .val (.int v14), .val (.int v15), .val (.ref b11), .val (.ref b18), .val (.ref b21), .val (.ref b22), .val (.ref b25), .val (.ref b27), .val (.ref bt30), .unset, .unset] [(.ref b1), (.int (own_nz (own4 v13 p0 p1 p2 p3)))])) _
      refine XS.iload X35.here hx rfl (hb hby at_201) rfl ?_
      show Steps p.tables e below (T35.setTop (mkF m 203 #[.val (.long p0), .second, .val (.long p1), .second, .val (.long p2), .second, .val (.long p3), .second, .val (.int p4), .val (.int p5), .val (.ref b1), .val (.int v11), .val (.int v12), .val (.int v13), .val (.int v14), .val (.int v15), .val (.ref b11), .val (.ref b18), .val (.ref b21), .val (.ref b22), .val (.ref b25), .val (.ref b27), .val (.ref bt30), .unset, .unset] [(.int v13), (.ref b1), (.int (own_nz (own4 v13 p0 p1 p2 p3)))])) _
      refine XS.iconst X35.here hx rfl (hb hby at_203) ?_
      show Steps p.tables e below (T35.setTop (mkF m 204 #[.val (.long p0), .second, .val (.long p1), .second, .val (.long p2), .second, .val (.long p3), .second, .val (.int p4), .val (.int p5), .val (.ref b1), .val (.int v11), .val (.int v12), .val (.int v13), .val (.int v14), .val (.int v15), .val (.ref b11), .val (.ref b18), .val (.ref b21), .val (.ref b22), .val (.ref b25), .val (.ref b27), .val (.ref bt30), .unset, .unset] [(.int (0 : Int32)), (.int v13), (.ref b1), (.int (own_nz (own4 v13 p0 p1 p2 p3)))])) _
      refine XS.iload X35.here hx rfl (hb hby at_204) rfl ?_
      show Steps p.tables e below (T35.setTop (mkF m 206 #[.val (.long p0), .second, .val (.long p1), .second, .val (.long p2), .second, .val (.long p3), .second, .val (.int p4), .val (.int p5), .val (.ref b1), .val (.int v11), .val (.int v12), .val (.int v13), .val (.int v14), .val (.int v15), .val (.ref b11), .val (.ref b18), .val (.ref b21), .val (.ref b22), .val (.ref b25), .val (.ref b27), .val (.ref bt30), .unset, .unset] [(.int v14), (.int (0 : Int32)), (.int v13), (.ref b1), (.int (own_nz (own4 v13 p0 p1 p2 p3)))])) _
      refine XS.iload X35.here hx rfl (hb hby at_206) rfl ?_
      show Steps p.tables e below (T35.setTop (mkF m 208 #[.val (.long p0), .second, .val (.long p1), .second, .val (.long p2), .second, .val (.long p3), .second, .val (.int p4), .val (.int p5), .val (.ref b1), .val (.int v11), .val (.int v12), .val (.int v13), .val (.int v14), .val (.int v15), .val (.ref b11), .val (.ref b18), .val (.ref b21), .val (.ref b22), .val (.ref b25), .val (.ref b27), .val (.ref bt30), .unset, .unset] [(.int v15), (.int v14), (.int (0 : Int32)), (.int v13), (.ref b1), (.int (own_nz (own4 v13 p0 p1 p2 p3)))])) _
      exact k
    obtain ⟨_, _, ⟨T37, L37, k37, n37⟩, -, X37, ⟨Lc37, hQ37, l37, y37, z37⟩, st37⟩ := Jvm.LawKit.callS X35 hx (y := (⟨"com/example/controller_synthesis/controllersynthesis/output/FunctionBlockTimerOutputsPinLaw", "expected", "([JIZIZ)Z"⟩ : MethodName)) hown (mvT hZ (hw _ (List.mem_of_getElem? (i := 60) rfl))) (mvT hZ (hw _ (List.mem_of_getElem? (i := 61) rfl))) (mvT hZ (hw _ (List.mem_of_getElem? (i := 62) rfl))) (mvT hZ (hw _ (List.mem_of_getElem? (i := 63) rfl))) (by decide) (backOf (W := 1) (rm7 l Z a0 hw [] b1 k1 p0 p1 p2 p3 v13 (0 : Int32) v14 v15 h30 n0 Z0 V_b1 r_v13) hZ (hw _ (List.mem_of_getElem? (i := 63) rfl)) (hw _ (List.mem_of_getElem? (i := 62) rfl)) (by decide) (by decide)) (g := (mkF m 208 #[.val (.long p0), .second, .val (.long p1), .second, .val (.long p2), .second, .val (.long p3), .second, .val (.int p4), .val (.int p5), .val (.ref b1), .val (.int v11), .val (.int v12), .val (.int v13), .val (.int v14), .val (.int v15), .val (.ref b11), .val (.ref b18), .val (.ref b21), .val (.ref b22), .val (.ref b25), .val (.ref b27), .val (.ref bt30), .unset, .unset] [(.int v15), (.int v14), (.int (0 : Int32)), (.int v13), (.ref b1), (.int (own_nz (own4 v13 p0 p1 p2 p3)))])) rfl (by rw [hml]; rfl) (argsL := [(.ref b1), (.int v13), (.int (0 : Int32)), (.int v14), (.int v15)]) (rest := [(.int (own_nz (own4 v13 p0 p1 p2 p3)))]) (lenOf pd_7 rfl) rfl (by show 2 * 0 + _ ≤ _; exact Nat.le_of_eq rfl) (hb hby at_208) (fun _ _ => ⟨rfl, e35, Nat.le_of_ble_eq_true rfl, Nat.le_of_ble_eq_true rfl⟩)
    dsimp only [Pt.U, Pt.locs, Pt.cells, Pt.slots] at X37 l37 y37 z37 st37 hQ37
    subst l37 y37 z37
    obtain ⟨h37, e37⟩ : ∃ z, T37.heap = z := ⟨_, rfl⟩
    rw [e37] at hQ37
    obtain ⟨rfl, N37q, eq37⟩ := hQ37
    have N37 := Fr.app N35 N37q
    rw [eq37] at e37
    refine own_go (B := T37.setTop (mkF m 211 #[.val (.long p0), .second, .val (.long p1), .second, .val (.long p2), .second, .val (.long p3), .second, .val (.int p4), .val (.int p5), .val (.ref b1), .val (.int v11), .val (.int v12), .val (.int v13), .val (.int v14), .val (.int v15), .val (.ref b11), .val (.ref b18), .val (.ref b21), .val (.ref b22), .val (.ref b25), .val (.ref b27), .val (.ref bt30), .unset, .unset] [(.int (own_exp (0 : Int32) v13 v14 v15 p0 p1 p2 p3)), (.int (own_nz (own4 v13 p0 p1 p2 p3)))])) st37 ?_
    refine own_go (B := T37.setTop (mkF m 225 #[.val (.long p0), .second, .val (.long p1), .second, .val (.long p2), .second, .val (.long p3), .second, .val (.int p4), .val (.int p5), .val (.ref b1), .val (.int v11), .val (.int v12), .val (.int v13), .val (.int v14), .val (.int v15), .val (.ref b11), .val (.ref b18), .val (.ref b21), .val (.ref b22), .val (.ref b25), .val (.ref b27), .val (.ref bt30), .val (.int (1 : Int32)), .unset] [(.ref b22), (.ref b27)])) (fun t k => ?_) ?_
    · show Steps p.tables e below (T37.setTop (mkF m 211 #[.val (.long p0), .second, .val (.long p1), .second, .val (.long p2), .second, .val (.long p3), .second, .val (.int p4), .val (.int p5), .val (.ref b1), .val (.int v11), .val (.int v12), .val (.int v13), .val (.int v14), .val (.int v15), .val (.ref b11), .val (.ref b18), .val (.ref b21), .val (.ref b22), .val (.ref b25), .val (.ref b27), .val (.ref bt30), .unset, .unset] [(.int (own_exp (0 : Int32) v13 v14 v15 p0 p1 p2 p3)), (.int (own_nz (own4 v13 p0 p1 p2 p3)))])) _
      refine XS.icmpNo X37.here hx rfl (hb hby at_211) rfl (teq (by simp [own_exp] : (own_nz (own4 v13 p0 p1 p2 p3)) = (own_exp (0 : Int32) v13 v14 v15 p0 p1 p2 p3))).2 ?_
      show Steps p.tables e below (T37.setTop (mkF m 214 #[.val (.long p0), .second, .val (.long p1), .second, .val (.long p2), .second, .val (.long p3), .second, .val (.int p4), .val (.int p5), .val (.ref b1), .val (.int v11), .val (.int v12), .val (.int v13), .val (.int v14), .val (.int v15), .val (.ref b11), .val (.ref b18), .val (.ref b21), .val (.ref b22), .val (.ref b25), .val (.ref b27), .val (.ref bt30), .unset, .unset] [])) _
      refine XS.iconst X37.here hx rfl (hb hby at_214) ?_
      show Steps p.tables e below (T37.setTop (mkF m 215 #[.val (.long p0), .second, .val (.long p1), .second, .val (.long p2), .second, .val (.long p3), .second, .val (.int p4), .val (.int p5), .val (.ref b1), .val (.int v11), .val (.int v12), .val (.int v13), .val (.int v14), .val (.int v15), .val (.ref b11), .val (.ref b18), .val (.ref b21), .val (.ref b22), .val (.ref b25), .val (.ref b27), .val (.ref bt30), .unset, .unset] [(.int (1 : Int32))])) _
      refine XS.goto X37.here hx rfl (pc0 := 215) (pc' := 219) rfl (hb hby at_215) (by decide) (by decide) ?_
      show Steps p.tables e below (T37.setTop (mkF m 219 #[.val (.long p0), .second, .val (.long p1), .second, .val (.long p2), .second, .val (.long p3), .second, .val (.int p4), .val (.int p5), .val (.ref b1), .val (.int v11), .val (.int v12), .val (.int v13), .val (.int v14), .val (.int v15), .val (.ref b11), .val (.ref b18), .val (.ref b21), .val (.ref b22), .val (.ref b25), .val (.ref b27), .val (.ref bt30), .unset, .unset] [(.int (1 : Int32))])) _
      refine XS.istore X37.here hx rfl (hb hby at_219) rfl (l' := #[.val (.long p0), .second, .val (.long p1), .second, .val (.long p2), .second, .val (.long p3), .second, .val (.int p4), .val (.int p5), .val (.ref b1), .val (.int v11), .val (.int v12), .val (.int v13), .val (.int v14), .val (.int v15), .val (.ref b11), .val (.ref b18), .val (.ref b21), .val (.ref b22), .val (.ref b25), .val (.ref b27), .val (.ref bt30), .val (.int (1 : Int32)), .unset]) rfl ?_
      show Steps p.tables e below (T37.setTop (mkF m 221 #[.val (.long p0), .second, .val (.long p1), .second, .val (.long p2), .second, .val (.long p3), .second, .val (.int p4), .val (.int p5), .val (.ref b1), .val (.int v11), .val (.int v12), .val (.int v13), .val (.int v14), .val (.int v15), .val (.ref b11), .val (.ref b18), .val (.ref b21), .val (.ref b22), .val (.ref b25), .val (.ref b27), .val (.ref bt30), .val (.int (1 : Int32)), .unset] [])) _
      refine XS.aload X37.here hx rfl (hb hby at_221) rfl rfl ?_
      show Steps p.tables e below (T37.setTop (mkF m 223 #[.val (.long p0), .second, .val (.long p1), .second, .val (.long p2), .second, .val (.long p3), .second, .val (.int p4), .val (.int p5), .val (.ref b1), .val (.int v11), .val (.int v12), .val (.int v13), .val (.int v14), .val (.int v15), .val (.ref b11), .val (.ref b18), .val (.ref b21), .val (.ref b22), .val (.ref b25), .val (.ref b27), .val (.ref bt30), .val (.int (1 : Int32)), .unset] [(.ref b27)])) _
      refine XS.aload X37.here hx rfl (hb hby at_223) rfl rfl ?_
      show Steps p.tables e below (T37.setTop (mkF m 225 #[.val (.long p0), .second, .val (.long p1), .second, .val (.long p2), .second, .val (.long p3), .second, .val (.int p4), .val (.int p5), .val (.ref b1), .val (.int v11), .val (.int v12), .val (.int v13), .val (.int v14), .val (.int v15), .val (.ref b11), .val (.ref b18), .val (.ref b21), .val (.ref b22), .val (.ref b25), .val (.ref b27), .val (.ref bt30), .val (.int (1 : Int32)), .unset] [(.ref b22), (.ref b27)])) _
      exact k
    obtain ⟨cq38, kq38, q38a, q38b, q38c⟩ := isOf hZ e37 E_b27
    obtain ⟨_, _, ⟨T39, L39, k39, n39⟩, -, X39, ⟨Lc39, hQ39, l39, y39, z39⟩, st39⟩ := X37.virtualBack hx (y := (⟨"com/example/controller_synthesis/controllersynthesis/output/FunctionBlock", "call", "([Z)[Z"⟩ : MethodName)) (z := (⟨"com/example/controller_synthesis/controllersynthesis/output/FunctionBlock", "call", "([Z)[Z"⟩ : MethodName)) hown (mvT hZ (hw _ (List.mem_of_getElem? (i := 64) rfl))) (mvT hZ (hw _ (List.mem_of_getElem? (i := 65) rfl))) (notFace_of_selects (args := #[]) (mvT hZ (hw _ (List.mem_of_getElem? (i := 67) rfl)))) (mvT hZ (hw _ (List.mem_of_getElem? (i := 67) rfl))) (mvT hZ (hw _ (List.mem_of_getElem? (i := 66) rfl))) (by decide) (backOf (W := 0) (rm8 l Z a0 hw [] b27 b18 b21 b22 b25 bv28 k18 k21 k22 k1 p0 p1 p2 p3 v14 (nar .boolean v15) h30 n0 Z0 F_values_b27 F_inputs_b27 F_outputs_b27 F_body_b27 V_b18 V_b21 V_b22 E_b25 F_modCount_b25 F_size_b25 V_bv28 r_v14 g_bv28 ne_b27_bv28 ne_b18_bv28 ne_b21_bv28 ne_b22_bv28 ne_b25_bv28) hZ (hw _ (List.mem_of_getElem? (i := 68) rfl)) (hw _ (List.mem_of_getElem? (i := 31) rfl)) (by decide) (by decide)) q38a q38c (g := (mkF m 225 #[.val (.long p0), .second, .val (.long p1), .second, .val (.long p2), .second, .val (.long p3), .second, .val (.int p4), .val (.int p5), .val (.ref b1), .val (.int v11), .val (.int v12), .val (.int v13), .val (.int v14), .val (.int v15), .val (.ref b11), .val (.ref b18), .val (.ref b21), .val (.ref b22), .val (.ref b25), .val (.ref b27), .val (.ref bt30), .val (.int (1 : Int32)), .unset] [(.ref b22), (.ref b27)])) rfl (by rw [hml]; rfl) (Steps.refl _) (argsL := [(.ref b22)]) (rest := []) (lenOf pd_8 rfl) rfl (by show 2 * 0 + _ ≤ _; exact Nat.le_of_eq rfl) (hb hby at_225) (fun _ _ => ⟨rfl, e37, Nat.le_of_ble_eq_true rfl, Nat.le_of_ble_eq_true rfl⟩)
    dsimp only [Pt.U, Pt.locs, Pt.cells, Pt.slots] at X39 l39 y39 z39 st39 hQ39
    subst l39 y39 z39
    obtain ⟨h39, e39⟩ : ∃ z, T39.heap = z := ⟨_, rfl⟩
    rw [e39] at hQ39
    obtain ⟨bc39, rfl, N39q, Kc39, Vc39⟩ := hQ39
    have N39 := Fr.app N37 N39q
    have V_b1 := V_b1.keep Kc39 (ninS ne_b1_bv28 nin0)
    have E_b1 := E_b1.keep Kc39
    have V_b11 := V_b11.keep Kc39 (ninS ne_b11_bv28 nin0)
    have V_b18 := V_b18.keep Kc39 (ninS ne_b18_bv28 nin0)
    have V_b21 := V_b21.keep Kc39 (ninS ne_b21_bv28 nin0)
    have V_b22 := V_b22.keep Kc39 (ninS ne_b22_bv28 nin0)
    have E_b25 := E_b25.keep Kc39
    have F_modCount_b25 := F_modCount_b25.keep Kc39 (ninS ne_b25_bv28 nin0)
    have F_size_b25 := F_size_b25.keep Kc39 (ninS ne_b25_bv28 nin0)
    have E_b27 := E_b27.keep Kc39
    have F_values_b27 := F_values_b27.keep Kc39 (ninS ne_b27_bv28 nin0)
    have F_inputs_b27 := F_inputs_b27.keep Kc39 (ninS ne_b27_bv28 nin0)
    have F_outputs_b27 := F_outputs_b27.keep Kc39 (ninS ne_b27_bv28 nin0)
    have F_timerOutputs_b27 := F_timerOutputs_b27.keep Kc39 (ninS ne_b27_bv28 nin0)
    have F_body_b27 := F_body_b27.keep Kc39 (ninS ne_b27_bv28 nin0)
    have V_bt30 := V_bt30.keep Kc39 (ninS (Ne.symm ne_bv28_bt30) nin0)
    have K := K.trans Kc39 (allS (Or.inr sz_bv28) all0)
    have Z0 := Nat.le_trans Z0 Kc39.1
    have O := O.keep Kc39 (allS g_bv28 all0)
    have V_bv28 := Vc39
    refine own_go (B := T39.setTop (mkF m 228 #[.val (.long p0), .second, .val (.long p1), .second, .val (.long p2), .second, .val (.long p3), .second, .val (.int p4), .val (.int p5), .val (.ref b1), .val (.int v11), .val (.int v12), .val (.int v13), .val (.int v14), .val (.int v15), .val (.ref b11), .val (.ref b18), .val (.ref b21), .val (.ref b22), .val (.ref b25), .val (.ref b27), .val (.ref bt30), .val (.int (1 : Int32)), .unset] [(.ref bc39)])) (fun t k => st39.trans k) ?_
    refine own_go (B := T39.setTop (mkF m 231 #[.val (.long p0), .second, .val (.long p1), .second, .val (.long p2), .second, .val (.long p3), .second, .val (.int p4), .val (.int p5), .val (.ref b1), .val (.int v11), .val (.int v12), .val (.int v13), .val (.int v14), .val (.int v15), .val (.ref b11), .val (.ref b18), .val (.ref b21), .val (.ref b22), .val (.ref b25), .val (.ref b27), .val (.ref bt30), .val (.int (1 : Int32)), .unset] [(.ref b27)])) (fun t k => ?_) ?_
    · show Steps p.tables e below (T39.setTop (mkF m 228 #[.val (.long p0), .second, .val (.long p1), .second, .val (.long p2), .second, .val (.long p3), .second, .val (.int p4), .val (.int p5), .val (.ref b1), .val (.int v11), .val (.int v12), .val (.int v13), .val (.int v14), .val (.int v15), .val (.ref b11), .val (.ref b18), .val (.ref b21), .val (.ref b22), .val (.ref b25), .val (.ref b27), .val (.ref bt30), .val (.int (1 : Int32)), .unset] [(.ref bc39)])) _
      refine XS.pop X39.here hx rfl (hb hby at_228) rfl rfl ?_
      show Steps p.tables e below (T39.setTop (mkF m 229 #[.val (.long p0), .second, .val (.long p1), .second, .val (.long p2), .second, .val (.long p3), .second, .val (.int p4), .val (.int p5), .val (.ref b1), .val (.int v11), .val (.int v12), .val (.int v13), .val (.int v14), .val (.int v15), .val (.ref b11), .val (.ref b18), .val (.ref b21), .val (.ref b22), .val (.ref b25), .val (.ref b27), .val (.ref bt30), .val (.int (1 : Int32)), .unset] [])) _
      refine XS.aload X39.here hx rfl (hb hby at_229) rfl rfl ?_
      show Steps p.tables e below (T39.setTop (mkF m 231 #[.val (.long p0), .second, .val (.long p1), .second, .val (.long p2), .second, .val (.long p3), .second, .val (.int p4), .val (.int p5), .val (.ref b1), .val (.int v11), .val (.int v12), .val (.int v13), .val (.int v14), .val (.int v15), .val (.ref b11), .val (.ref b18), .val (.ref b21), .val (.ref b22), .val (.ref b25), .val (.ref b27), .val (.ref bt30), .val (.int (1 : Int32)), .unset] [(.ref b27)])) _
      exact k
    obtain ⟨cq40, kq40, q40a, q40b, q40c⟩ := isOf hZ e39 E_b27
    obtain ⟨_, _, ⟨T41, L41, k41, n41⟩, -, X41, ⟨Lc41, hQ41, l41, y41, z41⟩, st41⟩ := X39.virtualBack hx (y := (⟨"com/example/controller_synthesis/controllersynthesis/output/FunctionBlock", "timerOutputs", "()[Z"⟩ : MethodName)) (z := (⟨"com/example/controller_synthesis/controllersynthesis/output/FunctionBlock", "timerOutputs", "()[Z"⟩ : MethodName)) hown (mvT hZ (hw _ (List.mem_of_getElem? (i := 55) rfl))) (mvT hZ (hw _ (List.mem_of_getElem? (i := 56) rfl))) (notFace_of_selects (args := #[]) (mvT hZ (hw _ (List.mem_of_getElem? (i := 58) rfl)))) (mvT hZ (hw _ (List.mem_of_getElem? (i := 58) rfl))) (mvT hZ (hw _ (List.mem_of_getElem? (i := 57) rfl))) (by decide) (backOf (W := 0) (rm6 l Z a0 hw [] b27 bv28 b11 k1 k11 (if v14 = 0 then own_fl (nar .boolean v15) else p0) (if v14 = 1 then own_fl (nar .boolean v15) else p1) (if v14 = 2 then own_fl (nar .boolean v15) else p2) (if v14 = 3 then own_fl (nar .boolean v15) else p3) v11 v12 v13 h39 n0 Z0 F_values_b27 F_timerOutputs_b27 V_bv28 V_b11 r_v11 r_v12 r_v13) hZ (hw _ (List.mem_of_getElem? (i := 59) rfl)) (hw _ (List.mem_of_getElem? (i := 31) rfl)) (by decide) (by decide)) q40a q40c (g := (mkF m 231 #[.val (.long p0), .second, .val (.long p1), .second, .val (.long p2), .second, .val (.long p3), .second, .val (.int p4), .val (.int p5), .val (.ref b1), .val (.int v11), .val (.int v12), .val (.int v13), .val (.int v14), .val (.int v15), .val (.ref b11), .val (.ref b18), .val (.ref b21), .val (.ref b22), .val (.ref b25), .val (.ref b27), .val (.ref bt30), .val (.int (1 : Int32)), .unset] [(.ref b27)])) rfl (by rw [hml]; rfl) (Steps.refl _) (argsL := []) (rest := []) (lenOf pd_6 rfl) rfl (by show 2 * 0 + _ ≤ _; exact Nat.le_of_eq rfl) (hb hby at_231) (fun _ _ => ⟨rfl, e39, Nat.le_of_ble_eq_true rfl, Nat.le_of_ble_eq_true rfl⟩)
    dsimp only [Pt.U, Pt.locs, Pt.cells, Pt.slots] at X41 l41 y41 z41 st41 hQ41
    subst l41 y41 z41
    obtain ⟨h41, e41⟩ : ∃ z, T41.heap = z := ⟨_, rfl⟩
    rw [e41] at hQ41
    obtain ⟨bt41, kb41, rfl, N41q, Kc41, hsz41, Vc41⟩ := hQ41
    have N41 := Fr.app N39 N41q
    have ne_b1_bt41 : b1 ≠ bt41 := Nat.ne_of_lt (Nat.lt_of_lt_of_le V_b1.lt hsz41)
    have ne_b11_bt41 : b11 ≠ bt41 := Nat.ne_of_lt (Nat.lt_of_lt_of_le V_b11.lt hsz41)
    have ne_b18_bt41 : b18 ≠ bt41 := Nat.ne_of_lt (Nat.lt_of_lt_of_le V_b18.lt hsz41)
    have ne_b21_bt41 : b21 ≠ bt41 := Nat.ne_of_lt (Nat.lt_of_lt_of_le V_b21.lt hsz41)
    have ne_b22_bt41 : b22 ≠ bt41 := Nat.ne_of_lt (Nat.lt_of_lt_of_le V_b22.lt hsz41)
    have ne_b25_bt41 : b25 ≠ bt41 := Nat.ne_of_lt (Nat.lt_of_lt_of_le E_b25.lt hsz41)
    have ne_b27_bt41 : b27 ≠ bt41 := Nat.ne_of_lt (Nat.lt_of_lt_of_le E_b27.lt hsz41)
    have ne_bv28_bt41 : bv28 ≠ bt41 := Nat.ne_of_lt (Nat.lt_of_lt_of_le V_bv28.lt hsz41)
    have ne_bt30_bt41 : bt30 ≠ bt41 := Nat.ne_of_lt (Nat.lt_of_lt_of_le V_bt30.lt hsz41)
    have g_bt41 : n0 ≤ bt41 := Nat.le_trans Z0 hsz41
    have sz_bt41 : h0.size ≤ bt41 := Nat.le_trans K.1 hsz41
    have V_b1 := V_b1.keep Kc41 nin0
    have E_b1 := E_b1.keep Kc41
    have V_b11 := V_b11.keep Kc41 nin0
    have V_b18 := V_b18.keep Kc41 nin0
    have V_b21 := V_b21.keep Kc41 nin0
    have V_b22 := V_b22.keep Kc41 nin0
    have E_b25 := E_b25.keep Kc41
    have F_modCount_b25 := F_modCount_b25.keep Kc41 nin0
    have F_size_b25 := F_size_b25.keep Kc41 nin0
    have E_b27 := E_b27.keep Kc41
    have F_values_b27 := F_values_b27.keep Kc41 nin0
    have F_inputs_b27 := F_inputs_b27.keep Kc41 nin0
    have F_outputs_b27 := F_outputs_b27.keep Kc41 nin0
    have F_timerOutputs_b27 := F_timerOutputs_b27.keep Kc41 nin0
    have F_body_b27 := F_body_b27.keep Kc41 nin0
    have V_bt30 := V_bt30.keep Kc41 nin0
    have V_bv28 := V_bv28.keep Kc41 nin0
    have K := K.trans Kc41 all0
    have Z0 := Nat.le_trans Z0 Kc41.1
    have O := O.keep Kc41 all0
    have V_bt41 := Vc41
    refine own_go (B := T41.setTop (mkF m 234 #[.val (.long p0), .second, .val (.long p1), .second, .val (.long p2), .second, .val (.long p3), .second, .val (.int p4), .val (.int p5), .val (.ref b1), .val (.int v11), .val (.int v12), .val (.int v13), .val (.int v14), .val (.int v15), .val (.ref b11), .val (.ref b18), .val (.ref b21), .val (.ref b22), .val (.ref b25), .val (.ref b27), .val (.ref bt30), .val (.int (1 : Int32)), .unset] [(.ref bt41)])) (fun t k => st41.trans k) ?_
    refine own_go (B := T41.setTop (mkF m 238 #[.val (.long p0), .second, .val (.long p1), .second, .val (.long p2), .second, .val (.long p3), .second, .val (.int p4), .val (.int p5), .val (.ref b1), .val (.int v11), .val (.int v12), .val (.int v13), .val (.int v14), .val (.int v15), .val (.ref b11), .val (.ref b18), .val (.ref b21), .val (.ref b22), .val (.ref b25), .val (.ref b27), .val (.ref bt30), .val (.int (1 : Int32)), .val (.ref bt41)] [(.ref bt41)])) (fun t k => ?_) ?_
    · show Steps p.tables e below (T41.setTop (mkF m 234 #[.val (.long p0), .second, .val (.long p1), .second, .val (.long p2), .second, .val (.long p3), .second, .val (.int p4), .val (.int p5), .val (.ref b1), .val (.int v11), .val (.int v12), .val (.int v13), .val (.int v14), .val (.int v15), .val (.ref b11), .val (.ref b18), .val (.ref b21), .val (.ref b22), .val (.ref b25), .val (.ref b27), .val (.ref bt30), .val (.int (1 : Int32)), .unset] [(.ref bt41)])) _
      refine XS.astore X41.here hx rfl (hb hby at_234) rfl rfl (l' := #[.val (.long p0), .second, .val (.long p1), .second, .val (.long p2), .second, .val (.long p3), .second, .val (.int p4), .val (.int p5), .val (.ref b1), .val (.int v11), .val (.int v12), .val (.int v13), .val (.int v14), .val (.int v15), .val (.ref b11), .val (.ref b18), .val (.ref b21), .val (.ref b22), .val (.ref b25), .val (.ref b27), .val (.ref bt30), .val (.int (1 : Int32)), .val (.ref bt41)]) rfl ?_
      show Steps p.tables e below (T41.setTop (mkF m 236 #[.val (.long p0), .second, .val (.long p1), .second, .val (.long p2), .second, .val (.long p3), .second, .val (.int p4), .val (.int p5), .val (.ref b1), .val (.int v11), .val (.int v12), .val (.int v13), .val (.int v14), .val (.int v15), .val (.ref b11), .val (.ref b18), .val (.ref b21), .val (.ref b22), .val (.ref b25), .val (.ref b27), .val (.ref bt30), .val (.int (1 : Int32)), .val (.ref bt41)] [])) _
      refine XS.aload X41.here hx rfl (hb hby at_236) rfl rfl ?_
      show Steps p.tables e below (T41.setTop (mkF m 238 #[.val (.long p0), .second, .val (.long p1), .second, .val (.long p2), .second, .val (.long p3), .second, .val (.int p4), .val (.int p5), .val (.ref b1), .val (.int v11), .val (.int v12), .val (.int v13), .val (.int v14), .val (.int v15), .val (.ref b11), .val (.ref b18), .val (.ref b21), .val (.ref b22), .val (.ref b25), .val (.ref b27), .val (.ref bt30), .val (.int (1 : Int32)), .val (.ref bt41)] [(.ref bt41)])) _
      exact k
    obtain ⟨cl42, Ar42, qa42, Sa42, Na42, Ha42, Ga42⟩ := id V_bt41
    refine own_go (B := T41.setTop (mkF m 253 #[.val (.long p0), .second, .val (.long p1), .second, .val (.long p2), .second, .val (.long p3), .second, .val (.int p4), .val (.int p5), .val (.ref b1), .val (.int v11), .val (.int v12), .val (.int v13), .val (.int v14), .val (.int v15), .val (.ref b11), .val (.ref b18), .val (.ref b21), .val (.ref b22), .val (.ref b25), .val (.ref b27), .val (.ref bt30), .val (.int (1 : Int32)), .val (.ref bt41)] [(.int (0 : Int32)), (.ref bt41)])) (fun t k => ?_) ?_
    · show Steps p.tables e below (T41.setTop (mkF m 238 #[.val (.long p0), .second, .val (.long p1), .second, .val (.long p2), .second, .val (.long p3), .second, .val (.int p4), .val (.int p5), .val (.ref b1), .val (.int v11), .val (.int v12), .val (.int v13), .val (.int v14), .val (.int v15), .val (.ref b11), .val (.ref b18), .val (.ref b21), .val (.ref b22), .val (.ref b25), .val (.ref b27), .val (.ref bt30), .val (.int (1 : Int32)), .val (.ref bt41)] [(.ref bt41)])) _
      refine X41.arraylength hx (by rw [e41]; exact Ar42.1) (State.isArrayOf_alike hZ.alike Ar42.2.1) (g := (mkF m 238 #[.val (.long p0), .second, .val (.long p1), .second, .val (.long p2), .second, .val (.long p3), .second, .val (.int p4), .val (.int p5), .val (.ref b1), .val (.int v11), .val (.int v12), .val (.int v13), .val (.int v14), .val (.int v15), .val (.ref b11), .val (.ref b18), .val (.ref b21), .val (.ref b22), .val (.ref b25), .val (.ref b27), .val (.ref bt30), .val (.int (1 : Int32)), .val (.ref bt41)] [(.ref bt41)])) rfl rfl (hb hby at_238) _ ?_
      rw [len_of Sa42 Na42]
      show Steps p.tables e below (T41.setTop (mkF m 239 #[.val (.long p0), .second, .val (.long p1), .second, .val (.long p2), .second, .val (.long p3), .second, .val (.int p4), .val (.int p5), .val (.ref b1), .val (.int v11), .val (.int v12), .val (.int v13), .val (.int v14), .val (.int v15), .val (.ref b11), .val (.ref b18), .val (.ref b21), .val (.ref b22), .val (.ref b25), .val (.ref b27), .val (.ref bt30), .val (.int (1 : Int32)), .val (.ref bt41)] [(.int (3 : Int32))])) _
      refine XS.iconst X41.here hx rfl (hb hby at_239) ?_
      show Steps p.tables e below (T41.setTop (mkF m 240 #[.val (.long p0), .second, .val (.long p1), .second, .val (.long p2), .second, .val (.long p3), .second, .val (.int p4), .val (.int p5), .val (.ref b1), .val (.int v11), .val (.int v12), .val (.int v13), .val (.int v14), .val (.int v15), .val (.ref b11), .val (.ref b18), .val (.ref b21), .val (.ref b22), .val (.ref b25), .val (.ref b27), .val (.ref bt30), .val (.int (1 : Int32)), .val (.ref bt41)] [(.int (3 : Int32)), (.int (3 : Int32))])) _
      refine XS.icmpYes X41.here hx rfl (pc0 := 240) (pc' := 245) rfl (hb hby at_240) rfl (teq ((rfl : (3 : Int32) = (3 : Int32)) : (3 : Int32) = (3 : Int32))).1 (by decide) (by decide) ?_
      show Steps p.tables e below (T41.setTop (mkF m 245 #[.val (.long p0), .second, .val (.long p1), .second, .val (.long p2), .second, .val (.long p3), .second, .val (.int p4), .val (.int p5), .val (.ref b1), .val (.int v11), .val (.int v12), .val (.int v13), .val (.int v14), .val (.int v15), .val (.ref b11), .val (.ref b18), .val (.ref b21), .val (.ref b22), .val (.ref b25), .val (.ref b27), .val (.ref bt30), .val (.int (1 : Int32)), .val (.ref bt41)] [])) _
      refine XS.iload X41.here hx rfl (hb hby at_245) rfl ?_
      show Steps p.tables e below (T41.setTop (mkF m 247 #[.val (.long p0), .second, .val (.long p1), .second, .val (.long p2), .second, .val (.long p3), .second, .val (.int p4), .val (.int p5), .val (.ref b1), .val (.int v11), .val (.int v12), .val (.int v13), .val (.int v14), .val (.int v15), .val (.ref b11), .val (.ref b18), .val (.ref b21), .val (.ref b22), .val (.ref b25), .val (.ref b27), .val (.ref bt30), .val (.int (1 : Int32)), .val (.ref bt41)] [(.int (1 : Int32))])) _
      refine XS.ifNo X41.here hx rfl (hb hby at_247) rfl ((if0 _ _).trans (feq (by decide : ¬ ((1 : Int32) = (0 : Int32)))).1) ?_
      show Steps p.tables e below (T41.setTop (mkF m 250 #[.val (.long p0), .second, .val (.long p1), .second, .val (.long p2), .second, .val (.long p3), .second, .val (.int p4), .val (.int p5), .val (.ref b1), .val (.int v11), .val (.int v12), .val (.int v13), .val (.int v14), .val (.int v15), .val (.ref b11), .val (.ref b18), .val (.ref b21), .val (.ref b22), .val (.ref b25), .val (.ref b27), .val (.ref bt30), .val (.int (1 : Int32)), .val (.ref bt41)] [])) _
      refine XS.aload X41.here hx rfl (hb hby at_250) rfl rfl ?_
      show Steps p.tables e below (T41.setTop (mkF m 252 #[.val (.long p0), .second, .val (.long p1), .second, .val (.long p2), .second, .val (.long p3), .second, .val (.int p4), .val (.int p5), .val (.ref b1), .val (.int v11), .val (.int v12), .val (.int v13), .val (.int v14), .val (.int v15), .val (.ref b11), .val (.ref b18), .val (.ref b21), .val (.ref b22), .val (.ref b25), .val (.ref b27), .val (.ref bt30), .val (.int (1 : Int32)), .val (.ref bt41)] [(.ref bt41)])) _
      refine XS.iconst X41.here hx rfl (hb hby at_252) ?_
      show Steps p.tables e below (T41.setTop (mkF m 253 #[.val (.long p0), .second, .val (.long p1), .second, .val (.long p2), .second, .val (.long p3), .second, .val (.int p4), .val (.int p5), .val (.ref b1), .val (.int v11), .val (.int v12), .val (.int v13), .val (.int v14), .val (.int v15), .val (.ref b11), .val (.ref b18), .val (.ref b21), .val (.ref b22), .val (.ref b25), .val (.ref b27), .val (.ref bt30), .val (.int (1 : Int32)), .val (.ref bt41)] [(.int (0 : Int32)), (.ref bt41)])) _
      exact k
    obtain ⟨cl43, Ar43, qa43, Sa43, Na43, Ha43, Ga43⟩ := id V_bt41
    have hin43 : ¬ ((0 : Int32) < 0 ∨ cl43.slots.size ≤ ((0 : Int32)).toNatClampNeg) := inb_of Sa43 ⟨by decide, by decide⟩
    have hat43 : cl43.slots[((0 : Int32)).toNatClampNeg]? = some (.int (own_nz (own4 v11 (if v14 = 0 then own_fl (nar .boolean v15) else p0) (if v14 = 1 then own_fl (nar .boolean v15) else p1) (if v14 = 2 then own_fl (nar .boolean v15) else p2) (if v14 = 3 then own_fl (nar .boolean v15) else p3)))) := Ha43.at hin43 rfl
    refine own_go (B := T41.setTop (mkF m 263 #[.val (.long p0), .second, .val (.long p1), .second, .val (.long p2), .second, .val (.long p3), .second, .val (.int p4), .val (.int p5), .val (.ref b1), .val (.int v11), .val (.int v12), .val (.int v13), .val (.int v14), .val (.int v15), .val (.ref b11), .val (.ref b18), .val (.ref b21), .val (.ref b22), .val (.ref b25), .val (.ref b27), .val (.ref bt30), .val (.int (1 : Int32)), .val (.ref bt41)] [(.int v15), (.int v14), (.int (1 : Int32)), (.int v11), (.ref b1), (.int (own_nz (own4 v11 (if v14 = 0 then own_fl (nar .boolean v15) else p0) (if v14 = 1 then own_fl (nar .boolean v15) else p1) (if v14 = 2 then own_fl (nar .boolean v15) else p2) (if v14 = 3 then own_fl (nar .boolean v15) else p3))))])) (fun t k => ?_) ?_
    · show Steps p.tables e below (T41.setTop (mkF m 253 #[.val (.long p0), .second, .val (.long p1), .second, .val (.long p2), .second, .val (.long p3), .second, .val (.int p4), .val (.int p5), .val (.ref b1), .val (.int v11), .val (.int v12), .val (.int v13), .val (.int v14), .val (.int v15), .val (.ref b11), .val (.ref b18), .val (.ref b21), .val (.ref b22), .val (.ref b25), .val (.ref b27), .val (.ref bt30), .val (.int (1 : Int32)), .val (.ref bt41)] [(.int (0 : Int32)), (.ref bt41)])) _
      refine X41.baloadBooleans hx (j := (0 : Int32)) (v := (.int (own_nz (own4 v11 (if v14 = 0 then own_fl (nar .boolean v15) else p0) (if v14 = 1 then own_fl (nar .boolean v15) else p1) (if v14 = 2 then own_fl (nar .boolean v15) else p2) (if v14 = 3 then own_fl (nar .boolean v15) else p3))))) (by rw [e41]; exact Ar43.1) (State.isArrayOf_alike hZ.alike Ar43.2.1) Ar43.2.2 hin43 hat43 (g := (mkF m 253 #[.val (.long p0), .second, .val (.long p1), .second, .val (.long p2), .second, .val (.long p3), .second, .val (.int p4), .val (.int p5), .val (.ref b1), .val (.int v11), .val (.int v12), .val (.int v13), .val (.int v14), .val (.int v15), .val (.ref b11), .val (.ref b18), .val (.ref b21), .val (.ref b22), .val (.ref b25), .val (.ref b27), .val (.ref bt30), .val (.int (1 : Int32)), .val (.ref bt41)] [(.int (0 : Int32)), (.ref bt41)])) rfl rfl (hb hby at_253) _ ?_
      show Steps p.tables e below (T41.setTop (mkF m 254 #[.val (.long p0), .second, .val (.long p1), .second, .val (.long p2), .second, .val (.long p3), .second, .val (.int p4), .val (.int p5), .val (.ref b1), .val (.int v11), .val (.int v12), .val (.int v13), .val (.int v14), .val (.int v15), .val (.ref b11), .val (.ref b18), .val (.ref b21), .val (.ref b22), .val (.ref b25), .val (.ref b27), .val (.ref bt30), .val (.int (1 : Int32)), .val (.ref bt41)] [(.int (own_nz (own4 v11 (if v14 = 0 then own_fl (nar .boolean v15) else p0) (if v14 = 1 then own_fl (nar .boolean v15) else p1) (if v14 = 2 then own_fl (nar .boolean v15) else p2) (if v14 = 3 then own_fl (nar .boolean v15) else p3))))])) _
      refine XS.aload X41.here hx rfl (hb hby at_254) rfl rfl ?_
      show Steps p.tables e below (T41.setTop (mkF m 256 #[.val (.long p0), .second, .val (.long p1), .second, .val (.long p2), .second, .val (.long p3), .second, .val (.int p4), .val (.int p5), .val (.ref b1), .val (.int v11), .val (.int v12), .val (.int v13), .val (.int v14), .val (.int v15), .val (.ref b11), .val (.ref b18), .val (.ref b21), .val (.ref b22), .val (.ref b25), .val (.ref b27), .val (.ref bt30), .val (.int (1 : Int32)), .val (.ref bt41)] [(.ref b1), (.int (own_nz (own4 v11 (if v14 = 0 then own_fl (nar .boolean v15) else p0) (if v14 = 1 then own_fl (nar .boolean v15) else p1) (if v14 = 2 then own_fl (nar .boolean v15) else p2) (if v14 = 3 then own_fl (nar .boolean v15) else p3))))])) _
      refine XS.iload X41.here hx rfl (hb hby at_256) rfl ?_
      show Steps p.tables e below (T41.setTop (mkF m 258 #[.val (.long p0), .second, .val (.long p1), .second, .val (.long p2), .second, .val (.long p3), .second, .val (.int p4), .val (.int p5), .val (.ref b1), .val (.int v11), .val (.int v12), .val (.int v13), .val (.int v14), .val (.int v15), .val (.ref b11), .val (.ref b18), .val (.ref b21), .val (.ref b22), .val (.ref b25), .val (.ref b27), .val (.ref bt30), .val (.int (1 : Int32)), .val (.ref bt41)] [(.int v11), (.ref b1), (.int (own_nz (own4 v11 (if v14 = 0 then own_fl (nar .boolean v15) else p0) (if v14 = 1 then own_fl (nar .boolean v15) else p1) (if v14 = 2 then own_fl (nar .boolean v15) else p2) (if v14 = 3 then own_fl (nar .boolean v15) else p3))))])) _
      refine XS.iconst X41.here hx rfl (hb hby at_258) ?_
      show Steps p.tables e below (T41.setTop (mkF m 259 #[.val (.long p0), .second, .val (.long p1), .second, .val (.long p2), .second, .val (.long p3), .second, .val (.int p4), .val (.int p5), .val (.ref b1), .val (.int v11), .val (.int v12), .val (.int v13), .val (.int v14), .val (.int v15), .val (.ref b11), .val (.ref b18), .val (.ref b21), .val (.ref b22), .val (.ref b25), .val (.ref b27), .val (.ref bt30), .val (.int (1 : Int32)), .val (.ref bt41)] [(.int (1 : Int32)), (.int v11), (.ref b1), (.int (own_nz (own4 v11 (if v14 = 0 then own_fl (nar .boolean v15) else p0) (if v14 = 1 then own_fl (nar .boolean v15) else p1) (if v14 = 2 then own_fl (nar .boolean v15) else p2) (if v14 = 3 then own_fl (nar .boolean v15) else p3))))])) _
      refine XS.iload X41.here hx rfl (hb hby at_259) rfl ?_
      show Steps p.tables e below (T41.setTop (mkF m 261 #[.val (.long p0), .second, .val (.long p1), .second, .val (.long p2), .second, .val (.long p3), .second, .val (.int p4), .val (.int p5), .val (.ref b1), .val (.int v11), .val (.int v12), .val (.int v13), .val (.int v14), .val (.int v15), .val (.ref b11), .val (.ref b18), .val (.ref b21), .val (.ref b22), .val (.ref b25), .val (.ref b27), .val (.ref bt30), .val (.int (1 : Int32)), .val (.ref bt41)] [(.int v14), (.int (1 : Int32)), (.int v11), (.ref b1), (.int (own_nz (own4 v11 (if v14 = 0 then own_fl (nar .boolean v15) else p0) (if v14 = 1 then own_fl (nar .boolean v15) else p1) (if v14 = 2 then own_fl (nar .boolean v15) else p2) (if v14 = 3 then own_fl (nar .boolean v15) else p3))))])) _
      refine XS.iload X41.here hx rfl (hb hby at_261) rfl ?_
      show Steps p.tables e below (T41.setTop (mkF m 263 #[.val (.long p0), .second, .val (.long p1), .second, .val (.long p2), .second, .val (.long p3), .second, .val (.int p4), .val (.int p5), .val (.ref b1), .val (.int v11), .val (.int v12), .val (.int v13), .val (.int v14), .val (.int v15), .val (.ref b11), .val (.ref b18), .val (.ref b21), .val (.ref b22), .val (.ref b25), .val (.ref b27), .val (.ref bt30), .val (.int (1 : Int32)), .val (.ref bt41)] [(.int v15), (.int v14), (.int (1 : Int32)), (.int v11), (.ref b1), (.int (own_nz (own4 v11 (if v14 = 0 then own_fl (nar .boolean v15) else p0) (if v14 = 1 then own_fl (nar .boolean v15) else p1) (if v14 = 2 then own_fl (nar .boolean v15) else p2) (if v14 = 3 then own_fl (nar .boolean v15) else p3))))])) _
      exact k
    obtain ⟨_, _, ⟨T44, L44, k44, n44⟩, -, X44, ⟨Lc44, hQ44, l44, y44, z44⟩, st44⟩ := Jvm.LawKit.callS X41 hx (y := (⟨"com/example/controller_synthesis/controllersynthesis/output/FunctionBlockTimerOutputsPinLaw", "expected", "([JIZIZ)Z"⟩ : MethodName)) hown (mvT hZ (hw _ (List.mem_of_getElem? (i := 60) rfl))) (mvT hZ (hw _ (List.mem_of_getElem? (i := 61) rfl))) (mvT hZ (hw _ (List.mem_of_getElem? (i := 62) rfl))) (mvT hZ (hw _ (List.mem_of_getElem? (i := 63) rfl))) (by decide) (backOf (W := 1) (rm7 l Z a0 hw [] b1 k1 p0 p1 p2 p3 v11 (1 : Int32) v14 v15 h41 n0 Z0 V_b1 r_v11) hZ (hw _ (List.mem_of_getElem? (i := 63) rfl)) (hw _ (List.mem_of_getElem? (i := 62) rfl)) (by decide) (by decide)) (g := (mkF m 263 #[.val (.long p0), .second, .val (.long p1), .second, .val (.long p2), .second, .val (.long p3), .second, .val (.int p4), .val (.int p5), .val (.ref b1), .val (.int v11), .val (.int v12), .val (.int v13), .val (.int v14), .val (.int v15), .val (.ref b11), .val (.ref b18), .val (.ref b21), .val (.ref b22), .val (.ref b25), .val (.ref b27), .val (.ref bt30), .val (.int (1 : Int32)), .val (.ref bt41)] [(.int v15), (.int v14), (.int (1 : Int32)), (.int v11), (.ref b1), (.int (own_nz (own4 v11 (if v14 = 0 then own_fl (nar .boolean v15) else p0) (if v14 = 1 then own_fl (nar .boolean v15) else p1) (if v14 = 2 then own_fl (nar .boolean v15) else p2) (if v14 = 3 then own_fl (nar .boolean v15) else p3))))])) rfl (by rw [hml]; rfl) (argsL := [(.ref b1), (.int v11), (.int (1 : Int32)), (.int v14), (.int v15)]) (rest := [(.int (own_nz (own4 v11 (if v14 = 0 then own_fl (nar .boolean v15) else p0) (if v14 = 1 then own_fl (nar .boolean v15) else p1) (if v14 = 2 then own_fl (nar .boolean v15) else p2) (if v14 = 3 then own_fl (nar .boolean v15) else p3))))]) (lenOf pd_7 rfl) rfl (by show 2 * 0 + _ ≤ _; exact Nat.le_of_eq rfl) (hb hby at_263) (fun _ _ => ⟨rfl, e41, Nat.le_of_ble_eq_true rfl, Nat.le_of_ble_eq_true rfl⟩)
    dsimp only [Pt.U, Pt.locs, Pt.cells, Pt.slots] at X44 l44 y44 z44 st44 hQ44
    subst l44 y44 z44
    obtain ⟨h44, e44⟩ : ∃ z, T44.heap = z := ⟨_, rfl⟩
    rw [e44] at hQ44
    obtain ⟨rfl, N44q, eq44⟩ := hQ44
    have N44 := Fr.app N41 N44q
    rw [eq44] at e44
    refine own_go (B := T44.setTop (mkF m 266 #[.val (.long p0), .second, .val (.long p1), .second, .val (.long p2), .second, .val (.long p3), .second, .val (.int p4), .val (.int p5), .val (.ref b1), .val (.int v11), .val (.int v12), .val (.int v13), .val (.int v14), .val (.int v15), .val (.ref b11), .val (.ref b18), .val (.ref b21), .val (.ref b22), .val (.ref b25), .val (.ref b27), .val (.ref bt30), .val (.int (1 : Int32)), .val (.ref bt41)] [(.int (own_exp (1 : Int32) v11 v14 v15 p0 p1 p2 p3)), (.int (own_nz (own4 v11 (if v14 = 0 then own_fl (nar .boolean v15) else p0) (if v14 = 1 then own_fl (nar .boolean v15) else p1) (if v14 = 2 then own_fl (nar .boolean v15) else p2) (if v14 = 3 then own_fl (nar .boolean v15) else p3))))])) st44 ?_
    refine own_go (B := T44.setTop (mkF m 272 #[.val (.long p0), .second, .val (.long p1), .second, .val (.long p2), .second, .val (.long p3), .second, .val (.int p4), .val (.int p5), .val (.ref b1), .val (.int v11), .val (.int v12), .val (.int v13), .val (.int v14), .val (.int v15), .val (.ref b11), .val (.ref b18), .val (.ref b21), .val (.ref b22), .val (.ref b25), .val (.ref b27), .val (.ref bt30), .val (.int (1 : Int32)), .val (.ref bt41)] [(.int (1 : Int32)), (.ref bt41)])) (fun t k => ?_) ?_
    · show Steps p.tables e below (T44.setTop (mkF m 266 #[.val (.long p0), .second, .val (.long p1), .second, .val (.long p2), .second, .val (.long p3), .second, .val (.int p4), .val (.int p5), .val (.ref b1), .val (.int v11), .val (.int v12), .val (.int v13), .val (.int v14), .val (.int v15), .val (.ref b11), .val (.ref b18), .val (.ref b21), .val (.ref b22), .val (.ref b25), .val (.ref b27), .val (.ref bt30), .val (.int (1 : Int32)), .val (.ref bt41)] [(.int (own_exp (1 : Int32) v11 v14 v15 p0 p1 p2 p3)), (.int (own_nz (own4 v11 (if v14 = 0 then own_fl (nar .boolean v15) else p0) (if v14 = 1 then own_fl (nar .boolean v15) else p1) (if v14 = 2 then own_fl (nar .boolean v15) else p2) (if v14 = 3 then own_fl (nar .boolean v15) else p3))))])) _
      refine XS.icmpNo X44.here hx rfl (hb hby at_266) rfl (teq (own_after r_v11 r_v14 hv15 p0 p1 p2 p3 : (own_nz (own4 v11 (if v14 = 0 then own_fl (nar .boolean v15) else p0) (if v14 = 1 then own_fl (nar .boolean v15) else p1) (if v14 = 2 then own_fl (nar .boolean v15) else p2) (if v14 = 3 then own_fl (nar .boolean v15) else p3))) = (own_exp (1 : Int32) v11 v14 v15 p0 p1 p2 p3))).2 ?_
      show Steps p.tables e below (T44.setTop (mkF m 269 #[.val (.long p0), .second, .val (.long p1), .second, .val (.long p2), .second, .val (.long p3), .second, .val (.int p4), .val (.int p5), .val (.ref b1), .val (.int v11), .val (.int v12), .val (.int v13), .val (.int v14), .val (.int v15), .val (.ref b11), .val (.ref b18), .val (.ref b21), .val (.ref b22), .val (.ref b25), .val (.ref b27), .val (.ref bt30), .val (.int (1 : Int32)), .val (.ref bt41)] [])) _
      refine XS.aload X44.here hx rfl (hb hby at_269) rfl rfl ?_
      show Steps p.tables e below (T44.setTop (mkF m 271 #[.val (.long p0), .second, .val (.long p1), .second, .val (.long p2), .second, .val (.long p3), .second, .val (.int p4), .val (.int p5), .val (.ref b1), .val (.int v11), .val (.int v12), .val (.int v13), .val (.int v14), .val (.int v15), .val (.ref b11), .val (.ref b18), .val (.ref b21), .val (.ref b22), .val (.ref b25), .val (.ref b27), .val (.ref bt30), .val (.int (1 : Int32)), .val (.ref bt41)] [(.ref bt41)])) _
      refine XS.iconst X44.here hx rfl (hb hby at_271) ?_
      show Steps p.tables e below (T44.setTop (mkF m 272 #[.val (.long p0), .second, .val (.long p1), .second, .val (.long p2), .second, .val (.long p3), .second, .val (.int p4), .val (.int p5), .val (.ref b1), .val (.int v11), .val (.int v12), .val (.int v13), .val (.int v14), .val (.int v15), .val (.ref b11), .val (.ref b18), .val (.ref b21), .val (.ref b22), .val (.ref b25), .val (.ref b27), .val (.ref bt30), .val (.int (1 : Int32)), .val (.ref bt41)] [(.int (1 : Int32)), (.ref bt41)])) _
      exact k
    obtain ⟨cl45, Ar45, qa45, Sa45, Na45, Ha45, Ga45⟩ := id V_bt41
    have hin45 : ¬ ((1 : Int32) < 0 ∨ cl45.slots.size ≤ ((1 : Int32)).toNatClampNeg) := inb_of Sa45 ⟨by decide, by decide⟩
    have hat45 : cl45.slots[((1 : Int32)).toNatClampNeg]? = some (.int (own_nz (own4 v12 (if v14 = 0 then own_fl (nar .boolean v15) else p0) (if v14 = 1 then own_fl (nar .boolean v15) else p1) (if v14 = 2 then own_fl (nar .boolean v15) else p2) (if v14 = 3 then own_fl (nar .boolean v15) else p3)))) := Ha45.at hin45 rfl
    refine own_go (B := T44.setTop (mkF m 282 #[.val (.long p0), .second, .val (.long p1), .second, .val (.long p2), .second, .val (.long p3), .second, .val (.int p4), .val (.int p5), .val (.ref b1), .val (.int v11), .val (.int v12), .val (.int v13), .val (.int v14), .val (.int v15), .val (.ref b11), .val (.ref b18), .val (.ref b21), .val (.ref b22), .val (.ref b25), .val (.ref b27), .val (.ref bt30), .val (.int (1 : Int32)), .val (.ref bt41)] [(.int v15), (.int v14), (.int (1 : Int32)), (.int v12), (.ref b1), (.int (own_nz (own4 v12 (if v14 = 0 then own_fl (nar .boolean v15) else p0) (if v14 = 1 then own_fl (nar .boolean v15) else p1) (if v14 = 2 then own_fl (nar .boolean v15) else p2) (if v14 = 3 then own_fl (nar .boolean v15) else p3))))])) (fun t k => ?_) ?_
    · show Steps p.tables e below (T44.setTop (mkF m 272 #[.val (.long p0), .second, .val (.long p1), .second, .val (.long p2), .second, .val (.long p3), .second, .val (.int p4), .val (.int p5), .val (.ref b1), .val (.int v11), .val (.int v12), .val (.int v13), .val (.int v14), .val (.int v15), .val (.ref b11), .val (.ref b18), .val (.ref b21), .val (.ref b22), .val (.ref b25), .val (.ref b27), .val (.ref bt30), .val (.int (1 : Int32)), .val (.ref bt41)] [(.int (1 : Int32)), (.ref bt41)])) _
      refine X44.baloadBooleans hx (j := (1 : Int32)) (v := (.int (own_nz (own4 v12 (if v14 = 0 then own_fl (nar .boolean v15) else p0) (if v14 = 1 then own_fl (nar .boolean v15) else p1) (if v14 = 2 then own_fl (nar .boolean v15) else p2) (if v14 = 3 then own_fl (nar .boolean v15) else p3))))) (by rw [e44]; exact Ar45.1) (State.isArrayOf_alike hZ.alike Ar45.2.1) Ar45.2.2 hin45 hat45 (g := (mkF m 272 #[.val (.long p0), .second, .val (.long p1), .second, .val (.long p2), .second, .val (.long p3), .second, .val (.int p4), .val (.int p5), .val (.ref b1), .val (.int v11), .val (.int v12), .val (.int v13), .val (.int v14), .val (.int v15), .val (.ref b11), .val (.ref b18), .val (.ref b21), .val (.ref b22), .val (.ref b25), .val (.ref b27), .val (.ref bt30), .val (.int (1 : Int32)), .val (.ref bt41)] [(.int (1 : Int32)), (.ref bt41)])) rfl rfl (hb hby at_272) _ ?_
      show Steps p.tables e below (T44.setTop (mkF m 273 #[.val (.long p0), .second, .val (.long p1), .second, .val (.long p2), .second, .val (.long p3), .second, .val (.int p4), .val (.int p5), .val (.ref b1), .val (.int v11), .val (.int v12), .val (.int v13), .val (.int v14), .val (.int v15), .val (.ref b11), .val (.ref b18), .val (.ref b21), .val (.ref b22), .val (.ref b25), .val (.ref b27), .val (.ref bt30), .val (.int (1 : Int32)), .val (.ref bt41)] [(.int (own_nz (own4 v12 (if v14 = 0 then own_fl (nar .boolean v15) else p0) (if v14 = 1 then own_fl (nar .boolean v15) else p1) (if v14 = 2 then own_fl (nar .boolean v15) else p2) (if v14 = 3 then own_fl (nar .boolean v15) else p3))))])) _
      refine XS.aload X44.here hx rfl (hb hby at_273) rfl rfl ?_
      show Steps p.tables e below (T44.setTop (mkF m 275 #[.val (.long p0), .second, .val (.long p1), .second, .val (.long p2), .second, .val (.long p3), .second, .val (.int p4), .val (.int p5), .val (.ref b1), .val (.int v11), .val (.int v12), .val (.int v13), .val (.int v14), .val (.int v15), .val (.ref b11), .val (.ref b18), .val (.ref b21), .val (.ref b22), .val (.ref b25), .val (.ref b27), .val (.ref bt30), .val (.int (1 : Int32)), .val (.ref bt41)] [(.ref b1), (.int (own_nz (own4 v12 (if v14 = 0 then own_fl (nar .boolean v15) else p0) (if v14 = 1 then own_fl (nar .boolean v15) else p1) (if v14 = 2 then own_fl (nar .boolean v15) else p2) (if v14 = 3 then own_fl (nar .boolean v15) else p3))))])) _
      refine XS.iload X44.here hx rfl (hb hby at_275) rfl ?_
      show Steps p.tables e below (T44.setTop (mkF m 277 #[.val (.long p0), .second, .val (.long p1), .second, .val (.long p2), .second, .val (.long p3), .second, .val (.int p4), .val (.int p5), .val (.ref b1), .val (.int v11), .val (.int v12), .val (.int v13), .val (.int v14), .val (.int v15), .val (.ref b11), .val (.ref b18), .val (.ref b21), .val (.ref b22), .val (.ref b25), .val (.ref b27), .val (.ref bt30), .val (.int (1 : Int32)), .val (.ref bt41)] [(.int v12), (.ref b1), (.int (own_nz (own4 v12 (if v14 = 0 then own_fl (nar .boolean v15) else p0) (if v14 = 1 then own_fl (nar .boolean v15) else p1) (if v14 = 2 then own_fl (nar .boolean v15) else p2) (if v14 = 3 then own_fl (nar .boolean v15) else p3))))])) _
      refine XS.iconst X44.here hx rfl (hb hby at_277) ?_
      show Steps p.tables e below (T44.setTop (mkF m 278 #[.val (.long p0), .second, .val (.long p1), .second, .val (.long p2), .second, .val (.long p3), .second, .val (.int p4), .val (.int p5), .val (.ref b1), .val (.int v11), .val (.int v12), .val (.int v13), .val (.int v14), .val (.int v15), .val (.ref b11), .val (.ref b18), .val (.ref b21), .val (.ref b22), .val (.ref b25), .val (.ref b27), .val (.ref bt30), .val (.int (1 : Int32)), .val (.ref bt41)] [(.int (1 : Int32)), (.int v12), (.ref b1), (.int (own_nz (own4 v12 (if v14 = 0 then own_fl (nar .boolean v15) else p0) (if v14 = 1 then own_fl (nar .boolean v15) else p1) (if v14 = 2 then own_fl (nar .boolean v15) else p2) (if v14 = 3 then own_fl (nar .boolean v15) else p3))))])) _
      refine XS.iload X44.here hx rfl (hb hby at_278) rfl ?_
      show Steps p.tables e below (T44.setTop (mkF m 280 #[.val (.long p0), .second, .val (.long p1), .second, .val (.long p2), .second, .val (.long p3), .second, .val (.int p4), .val (.int p5), .val (.ref b1), .val (.int v11), .val (.int v12), .val (.int v13), .val (.int v14), .val (.int v15), .val (.ref b11), .val (.ref b18), .val (.ref b21), .val (.ref b22), .val (.ref b25), .val (.ref b27), .val (.ref bt30), .val (.int (1 : Int32)), .val (.ref bt41)] [(.int v14), (.int (1 : Int32)), (.int v12), (.ref b1), (.int (own_nz (own4 v12 (if v14 = 0 then own_fl (nar .boolean v15) else p0) (if v14 = 1 then own_fl (nar .boolean v15) else p1) (if v14 = 2 then own_fl (nar .boolean v15) else p2) (if v14 = 3 then own_fl (nar .boolean v15) else p3))))])) _
      refine XS.iload X44.here hx rfl (hb hby at_280) rfl ?_
      show Steps p.tables e below (T44.setTop (mkF m 282 #[.val (.long p0), .second, .val (.long p1), .second, .val (.long p2), .second, .val (.long p3), .second, .val (.int p4), .val (.int p5), .val (.ref b1), .val (.int v11), .val (.int v12), .val (.int v13), .val (.int v14), .val (.int v15), .val (.ref b11), .val (.ref b18), .val (.ref b21), .val (.ref b22), .val (.ref b25), .val (.ref b27), .val (.ref bt30), .val (.int (1 : Int32)), .val (.ref bt41)] [(.int v15), (.int v14), (.int (1 : Int32)), (.int v12), (.ref b1), (.int (own_nz (own4 v12 (if v14 = 0 then own_fl (nar .boolean v15) else p0) (if v14 = 1 then own_fl (nar .boolean v15) else p1) (if v14 = 2 then own_fl (nar .boolean v15) else p2) (if v14 = 3 then own_fl (nar .boolean v15) else p3))))])) _
      exact k
    obtain ⟨_, _, ⟨T46, L46, k46, n46⟩, -, X46, ⟨Lc46, hQ46, l46, y46, z46⟩, st46⟩ := Jvm.LawKit.callS X44 hx (y := (⟨"com/example/controller_synthesis/controllersynthesis/output/FunctionBlockTimerOutputsPinLaw", "expected", "([JIZIZ)Z"⟩ : MethodName)) hown (mvT hZ (hw _ (List.mem_of_getElem? (i := 60) rfl))) (mvT hZ (hw _ (List.mem_of_getElem? (i := 61) rfl))) (mvT hZ (hw _ (List.mem_of_getElem? (i := 62) rfl))) (mvT hZ (hw _ (List.mem_of_getElem? (i := 63) rfl))) (by decide) (backOf (W := 1) (rm7 l Z a0 hw [] b1 k1 p0 p1 p2 p3 v12 (1 : Int32) v14 v15 h41 n0 Z0 V_b1 r_v12) hZ (hw _ (List.mem_of_getElem? (i := 63) rfl)) (hw _ (List.mem_of_getElem? (i := 62) rfl)) (by decide) (by decide)) (g := (mkF m 282 #[.val (.long p0), .second, .val (.long p1), .second, .val (.long p2), .second, .val (.long p3), .second, .val (.int p4), .val (.int p5), .val (.ref b1), .val (.int v11), .val (.int v12), .val (.int v13), .val (.int v14), .val (.int v15), .val (.ref b11), .val (.ref b18), .val (.ref b21), .val (.ref b22), .val (.ref b25), .val (.ref b27), .val (.ref bt30), .val (.int (1 : Int32)), .val (.ref bt41)] [(.int v15), (.int v14), (.int (1 : Int32)), (.int v12), (.ref b1), (.int (own_nz (own4 v12 (if v14 = 0 then own_fl (nar .boolean v15) else p0) (if v14 = 1 then own_fl (nar .boolean v15) else p1) (if v14 = 2 then own_fl (nar .boolean v15) else p2) (if v14 = 3 then own_fl (nar .boolean v15) else p3))))])) rfl (by rw [hml]; rfl) (argsL := [(.ref b1), (.int v12), (.int (1 : Int32)), (.int v14), (.int v15)]) (rest := [(.int (own_nz (own4 v12 (if v14 = 0 then own_fl (nar .boolean v15) else p0) (if v14 = 1 then own_fl (nar .boolean v15) else p1) (if v14 = 2 then own_fl (nar .boolean v15) else p2) (if v14 = 3 then own_fl (nar .boolean v15) else p3))))]) (lenOf pd_7 rfl) rfl (by show 2 * 0 + _ ≤ _; exact Nat.le_of_eq rfl) (hb hby at_282) (fun _ _ => ⟨rfl, e44, Nat.le_of_ble_eq_true rfl, Nat.le_of_ble_eq_true rfl⟩)
    dsimp only [Pt.U, Pt.locs, Pt.cells, Pt.slots] at X46 l46 y46 z46 st46 hQ46
    subst l46 y46 z46
    obtain ⟨h46, e46⟩ : ∃ z, T46.heap = z := ⟨_, rfl⟩
    rw [e46] at hQ46
    obtain ⟨rfl, N46q, eq46⟩ := hQ46
    have N46 := Fr.app N44 N46q
    rw [eq46] at e46
    refine own_go (B := T46.setTop (mkF m 285 #[.val (.long p0), .second, .val (.long p1), .second, .val (.long p2), .second, .val (.long p3), .second, .val (.int p4), .val (.int p5), .val (.ref b1), .val (.int v11), .val (.int v12), .val (.int v13), .val (.int v14), .val (.int v15), .val (.ref b11), .val (.ref b18), .val (.ref b21), .val (.ref b22), .val (.ref b25), .val (.ref b27), .val (.ref bt30), .val (.int (1 : Int32)), .val (.ref bt41)] [(.int (own_exp (1 : Int32) v12 v14 v15 p0 p1 p2 p3)), (.int (own_nz (own4 v12 (if v14 = 0 then own_fl (nar .boolean v15) else p0) (if v14 = 1 then own_fl (nar .boolean v15) else p1) (if v14 = 2 then own_fl (nar .boolean v15) else p2) (if v14 = 3 then own_fl (nar .boolean v15) else p3))))])) st46 ?_
    refine own_go (B := T46.setTop (mkF m 291 #[.val (.long p0), .second, .val (.long p1), .second, .val (.long p2), .second, .val (.long p3), .second, .val (.int p4), .val (.int p5), .val (.ref b1), .val (.int v11), .val (.int v12), .val (.int v13), .val (.int v14), .val (.int v15), .val (.ref b11), .val (.ref b18), .val (.ref b21), .val (.ref b22), .val (.ref b25), .val (.ref b27), .val (.ref bt30), .val (.int (1 : Int32)), .val (.ref bt41)] [(.int (2 : Int32)), (.ref bt41)])) (fun t k => ?_) ?_
    · show Steps p.tables e below (T46.setTop (mkF m 285 #[.val (.long p0), .second, .val (.long p1), .second, .val (.long p2), .second, .val (.long p3), .second, .val (.int p4), .val (.int p5), .val (.ref b1), .val (.int v11), .val (.int v12), .val (.int v13), .val (.int v14), .val (.int v15), .val (.ref b11), .val (.ref b18), .val (.ref b21), .val (.ref b22), .val (.ref b25), .val (.ref b27), .val (.ref bt30), .val (.int (1 : Int32)), .val (.ref bt41)] [(.int (own_exp (1 : Int32) v12 v14 v15 p0 p1 p2 p3)), (.int (own_nz (own4 v12 (if v14 = 0 then own_fl (nar .boolean v15) else p0) (if v14 = 1 then own_fl (nar .boolean v15) else p1) (if v14 = 2 then own_fl (nar .boolean v15) else p2) (if v14 = 3 then own_fl (nar .boolean v15) else p3))))])) _
      refine XS.icmpNo X46.here hx rfl (hb hby at_285) rfl (teq (own_after r_v12 r_v14 hv15 p0 p1 p2 p3 : (own_nz (own4 v12 (if v14 = 0 then own_fl (nar .boolean v15) else p0) (if v14 = 1 then own_fl (nar .boolean v15) else p1) (if v14 = 2 then own_fl (nar .boolean v15) else p2) (if v14 = 3 then own_fl (nar .boolean v15) else p3))) = (own_exp (1 : Int32) v12 v14 v15 p0 p1 p2 p3))).2 ?_
      show Steps p.tables e below (T46.setTop (mkF m 288 #[.val (.long p0), .second, .val (.long p1), .second, .val (.long p2), .second, .val (.long p3), .second, .val (.int p4), .val (.int p5), .val (.ref b1), .val (.int v11), .val (.int v12), .val (.int v13), .val (.int v14), .val (.int v15), .val (.ref b11), .val (.ref b18), .val (.ref b21), .val (.ref b22), .val (.ref b25), .val (.ref b27), .val (.ref bt30), .val (.int (1 : Int32)), .val (.ref bt41)] [])) _
      refine XS.aload X46.here hx rfl (hb hby at_288) rfl rfl ?_
      show Steps p.tables e below (T46.setTop (mkF m 290 #[.val (.long p0), .second, .val (.long p1), .second, .val (.long p2), .second, .val (.long p3), .second, .val (.int p4), .val (.int p5), .val (.ref b1), .val (.int v11), .val (.int v12), .val (.int v13), .val (.int v14), .val (.int v15), .val (.ref b11), .val (.ref b18), .val (.ref b21), .val (.ref b22), .val (.ref b25), .val (.ref b27), .val (.ref bt30), .val (.int (1 : Int32)), .val (.ref bt41)] [(.ref bt41)])) _
      refine XS.iconst X46.here hx rfl (hb hby at_290) ?_
      show Steps p.tables e below (T46.setTop (mkF m 291 #[.val (.long p0), .second, .val (.long p1), .second, .val (.long p2), .second, .val (.long p3), .second, .val (.int p4), .val (.int p5), .val (.ref b1), .val (.int v11), .val (.int v12), .val (.int v13), .val (.int v14), .val (.int v15), .val (.ref b11), .val (.ref b18), .val (.ref b21), .val (.ref b22), .val (.ref b25), .val (.ref b27), .val (.ref bt30), .val (.int (1 : Int32)), .val (.ref bt41)] [(.int (2 : Int32)), (.ref bt41)])) _
      exact k
    obtain ⟨cl47, Ar47, qa47, Sa47, Na47, Ha47, Ga47⟩ := id V_bt41
    have hin47 : ¬ ((2 : Int32) < 0 ∨ cl47.slots.size ≤ ((2 : Int32)).toNatClampNeg) := inb_of Sa47 ⟨by decide, by decide⟩
    have hat47 : cl47.slots[((2 : Int32)).toNatClampNeg]? = some (.int (own_nz (own4 v13 (if v14 = 0 then own_fl (nar .boolean v15) else p0) (if v14 = 1 then own_fl (nar .boolean v15) else p1) (if v14 = 2 then own_fl (nar .boolean v15) else p2) (if v14 = 3 then own_fl (nar .boolean v15) else p3)))) := Ha47.at hin47 rfl
    refine own_go (B := T46.setTop (mkF m 301 #[.val (.long p0), .second, .val (.long p1), .second, .val (.long p2), .second, .val (.long p3), .second, .val (.int p4), .val (.int p5), .val (.ref b1), .val (.int v11), .val (.int v12), .val (.int v13), .val (.int v14), .val (.int v15), .val (.ref b11), .val (.ref b18), .val (.ref b21), .val (.ref b22), .val (.ref b25), .val (.ref b27), .val (.ref bt30), .val (.int (1 : Int32)), .val (.ref bt41)] [(.int v15), (.int v14), (.int (1 : Int32)), (.int v13), (.ref b1), (.int (own_nz (own4 v13 (if v14 = 0 then own_fl (nar .boolean v15) else p0) (if v14 = 1 then own_fl (nar .boolean v15) else p1) (if v14 = 2 then own_fl (nar .boolean v15) else p2) (if v14 = 3 then own_fl (nar .boolean v15) else p3))))])) (fun t k => ?_) ?_
    · show Steps p.tables e below (T46.setTop (mkF m 291 #[.val (.long p0), .second, .val (.long p1), .second, .val (.long p2), .second, .val (.long p3), .second, .val (.int p4), .val (.int p5), .val (.ref b1), .val (.int v11), .val (.int v12), .val (.int v13), .val (.int v14), .val (.int v15), .val (.ref b11), .val (.ref b18), .val (.ref b21), .val (.ref b22), .val (.ref b25), .val (.ref b27), .val (.ref bt30), .val (.int (1 : Int32)), .val (.ref bt41)] [(.int (2 : Int32)), (.ref bt41)])) _
      refine X46.baloadBooleans hx (j := (2 : Int32)) (v := (.int (own_nz (own4 v13 (if v14 = 0 then own_fl (nar .boolean v15) else p0) (if v14 = 1 then own_fl (nar .boolean v15) else p1) (if v14 = 2 then own_fl (nar .boolean v15) else p2) (if v14 = 3 then own_fl (nar .boolean v15) else p3))))) (by rw [e46]; exact Ar47.1) (State.isArrayOf_alike hZ.alike Ar47.2.1) Ar47.2.2 hin47 hat47 (g := (mkF m 291 #[.val (.long p0), .second, .val (.long p1), .second, .val (.long p2), .second, .val (.long p3), .second, .val (.int p4), .val (.int p5), .val (.ref b1), .val (.int v11), .val (.int v12), .val (.int v13), .val (.int v14), .val (.int v15), .val (.ref b11), .val (.ref b18), .val (.ref b21), .val (.ref b22), .val (.ref b25), .val (.ref b27), .val (.ref bt30), .val (.int (1 : Int32)), .val (.ref bt41)] [(.int (2 : Int32)), (.ref bt41)])) rfl rfl (hb hby at_291) _ ?_
      show Steps p.tables e below (T46.setTop (mkF m 292 #[.val (.long p0), .second, .val (.long p1), .second, .val (.long p2), .second, .val (.long p3), .second, .val (.int p4), .val (.int p5), .val (.ref b1), .val (.int v11), .val (.int v12), .val (.int v13), .val (.int v14), .val (.int v15), .val (.ref b11), .val (.ref b18), .val (.ref b21), .val (.ref b22), .val (.ref b25), .val (.ref b27), .val (.ref bt30), .val (.int (1 : Int32)), .val (.ref bt41)] [(.int (own_nz (own4 v13 (if v14 = 0 then own_fl (nar .boolean v15) else p0) (if v14 = 1 then own_fl (nar .boolean v15) else p1) (if v14 = 2 then own_fl (nar .boolean v15) else p2) (if v14 = 3 then own_fl (nar .boolean v15) else p3))))])) _
      refine XS.aload X46.here hx rfl (hb hby at_292) rfl rfl ?_
      show Steps p.tables e below (T46.setTop (mkF m 294 #[.val (.long p0), .second, .val (.long p1), .second, .val (.long p2), .second, .val (.long p3), .second, .val (.int p4), .val (.int p5), .val (.ref b1), .val (.int v11), .val (.int v12), .val (.int v13), .val (.int v14), .val (.int v15), .val (.ref b11), .val (.ref b18), .val (.ref b21), .val (.ref b22), .val (.ref b25), .val (.ref b27), .val (.ref bt30), .val (.int (1 : Int32)), .val (.ref bt41)] [(.ref b1), (.int (own_nz (own4 v13 (if v14 = 0 then own_fl (nar .boolean v15) else p0) (if v14 = 1 then own_fl (nar .boolean v15) else p1) (if v14 = 2 then own_fl (nar .boolean v15) else p2) (if v14 = 3 then own_fl (nar .boolean v15) else p3))))])) _
      refine XS.iload X46.here hx rfl (hb hby at_294) rfl ?_
      show Steps p.tables e below (T46.setTop (mkF m 296 #[.val (.long p0), .second, .val (.long p1), .second, .val (.long p2), .second, .val (.long p3), .second, .val (.int p4), .val (.int p5), .val (.ref b1), .val (.int v11), .val (.int v12), .val (.int v13), .val (.int v14), .val (.int v15), .val (.ref b11), .val (.ref b18), .val (.ref b21), .val (.ref b22), .val (.ref b25), .val (.ref b27), .val (.ref bt30), .val (.int (1 : Int32)), .val (.ref bt41)] [(.int v13), (.ref b1), (.int (own_nz (own4 v13 (if v14 = 0 then own_fl (nar .boolean v15) else p0) (if v14 = 1 then own_fl (nar .boolean v15) else p1) (if v14 = 2 then own_fl (nar .boolean v15) else p2) (if v14 = 3 then own_fl (nar .boolean v15) else p3))))])) _
      refine XS.iconst X46.here hx rfl (hb hby at_296) ?_
      show Steps p.tables e below (T46.setTop (mkF m 297 #[.val (.long p0), .second, .val (.long p1), .second, .val (.long p2), .second, .val (.long p3), .second, .val (.int p4), .val (.int p5), .val (.ref b1), .val (.int v11), .val (.int v12), .val (.int v13), .val (.int v14), .val (.int v15), .val (.ref b11), .val (.ref b18), .val (.ref b21), .val (.ref b22), .val (.ref b25), .val (.ref b27), .val (.ref bt30), .val (.int (1 : Int32)), .val (.ref bt41)] [(.int (1 : Int32)), (.int v13), (.ref b1), (.int (own_nz (own4 v13 (if v14 = 0 then own_fl (nar .boolean v15) else p0) (if v14 = 1 then own_fl (nar .boolean v15) else p1) (if v14 = 2 then own_fl (nar .boolean v15) else p2) (if v14 = 3 then own_fl (nar .boolean v15) else p3))))])) _
      refine XS.iload X46.here hx rfl (hb hby at_297) rfl ?_
      show Steps p.tables e below (T46.setTop (mkF m 299 #[.val (.long p0), .second, .val (.long p1), .second, .val (.long p2), .second, .val (.long p3), .second, .val (.int p4), .val (.int p5), .val (.ref b1), .val (.int v11), .val (.int v12), .val (.int v13), .val (.int v14), .val (.int v15), .val (.ref b11), .val (.ref b18), .val (.ref b21), .val (.ref b22), .val (.ref b25), .val (.ref b27), .val (.ref bt30), .val (.int (1 : Int32)), .val (.ref bt41)] [(.int v14), (.int (1 : Int32)), (.int v13), (.ref b1), (.int (own_nz (own4 v13 (if v14 = 0 then own_fl (nar .boolean v15) else p0) (if v14 = 1 then own_fl (nar .boolean v15) else p1) (if v14 = 2 then own_fl (nar .boolean v15) else p2) (if v14 = 3 then own_fl (nar .boolean v15) else p3))))])) _
      refine XS.iload X46.here hx rfl (hb hby at_299) rfl ?_
      show Steps p.tables e below (T46.setTop (mkF m 301 #[.val (.long p0), .second, .val (.long p1), .second, .val (.long p2), .second, .val (.long p3), .second, .val (.int p4), .val (.int p5), .val (.ref b1), .val (.int v11), .val (.int v12), .val (.int v13), .val (.int v14), .val (.int v15), .val (.ref b11), .val (.ref b18), .val (.ref b21), .val (.ref b22), .val (.ref b25), .val (.ref b27), .val (.ref bt30), .val (.int (1 : Int32)), .val (.ref bt41)] [(.int v15), (.int v14), (.int (1 : Int32)), (.int v13), (.ref b1), (.int (own_nz (own4 v13 (if v14 = 0 then own_fl (nar .boolean v15) else p0) (if v14 = 1 then own_fl (nar .boolean v15) else p1) (if v14 = 2 then own_fl (nar .boolean v15) else p2) (if v14 = 3 then own_fl (nar .boolean v15) else p3))))])) _
      exact k
    obtain ⟨_, _, ⟨T48, L48, k48, n48⟩, -, X48, ⟨Lc48, hQ48, l48, y48, z48⟩, st48⟩ := Jvm.LawKit.callS X46 hx (y := (⟨"com/example/controller_synthesis/controllersynthesis/output/FunctionBlockTimerOutputsPinLaw", "expected", "([JIZIZ)Z"⟩ : MethodName)) hown (mvT hZ (hw _ (List.mem_of_getElem? (i := 60) rfl))) (mvT hZ (hw _ (List.mem_of_getElem? (i := 61) rfl))) (mvT hZ (hw _ (List.mem_of_getElem? (i := 62) rfl))) (mvT hZ (hw _ (List.mem_of_getElem? (i := 63) rfl))) (by decide) (backOf (W := 1) (rm7 l Z a0 hw [] b1 k1 p0 p1 p2 p3 v13 (1 : Int32) v14 v15 h41 n0 Z0 V_b1 r_v13) hZ (hw _ (List.mem_of_getElem? (i := 63) rfl)) (hw _ (List.mem_of_getElem? (i := 62) rfl)) (by decide) (by decide)) (g := (mkF m 301 #[.val (.long p0), .second, .val (.long p1), .second, .val (.long p2), .second, .val (.long p3), .second, .val (.int p4), .val (.int p5), .val (.ref b1), .val (.int v11), .val (.int v12), .val (.int v13), .val (.int v14), .val (.int v15), .val (.ref b11), .val (.ref b18), .val (.ref b21), .val (.ref b22), .val (.ref b25), .val (.ref b27), .val (.ref bt30), .val (.int (1 : Int32)), .val (.ref bt41)] [(.int v15), (.int v14), (.int (1 : Int32)), (.int v13), (.ref b1), (.int (own_nz (own4 v13 (if v14 = 0 then own_fl (nar .boolean v15) else p0) (if v14 = 1 then own_fl (nar .boolean v15) else p1) (if v14 = 2 then own_fl (nar .boolean v15) else p2) (if v14 = 3 then own_fl (nar .boolean v15) else p3))))])) rfl (by rw [hml]; rfl) (argsL := [(.ref b1), (.int v13), (.int (1 : Int32)), (.int v14), (.int v15)]) (rest := [(.int (own_nz (own4 v13 (if v14 = 0 then own_fl (nar .boolean v15) else p0) (if v14 = 1 then own_fl (nar .boolean v15) else p1) (if v14 = 2 then own_fl (nar .boolean v15) else p2) (if v14 = 3 then own_fl (nar .boolean v15) else p3))))]) (lenOf pd_7 rfl) rfl (by show 2 * 0 + _ ≤ _; exact Nat.le_of_eq rfl) (hb hby at_301) (fun _ _ => ⟨rfl, e46, Nat.le_of_ble_eq_true rfl, Nat.le_of_ble_eq_true rfl⟩)
    dsimp only [Pt.U, Pt.locs, Pt.cells, Pt.slots] at X48 l48 y48 z48 st48 hQ48
    subst l48 y48 z48
    obtain ⟨h48, e48⟩ : ∃ z, T48.heap = z := ⟨_, rfl⟩
    rw [e48] at hQ48
    obtain ⟨rfl, N48q, eq48⟩ := hQ48
    have N48 := Fr.app N46 N48q
    rw [eq48] at e48
    refine own_go (B := T48.setTop (mkF m 304 #[.val (.long p0), .second, .val (.long p1), .second, .val (.long p2), .second, .val (.long p3), .second, .val (.int p4), .val (.int p5), .val (.ref b1), .val (.int v11), .val (.int v12), .val (.int v13), .val (.int v14), .val (.int v15), .val (.ref b11), .val (.ref b18), .val (.ref b21), .val (.ref b22), .val (.ref b25), .val (.ref b27), .val (.ref bt30), .val (.int (1 : Int32)), .val (.ref bt41)] [(.int (own_exp (1 : Int32) v13 v14 v15 p0 p1 p2 p3)), (.int (own_nz (own4 v13 (if v14 = 0 then own_fl (nar .boolean v15) else p0) (if v14 = 1 then own_fl (nar .boolean v15) else p1) (if v14 = 2 then own_fl (nar .boolean v15) else p2) (if v14 = 3 then own_fl (nar .boolean v15) else p3))))])) st48 ?_
    refine own_go (B := T48.setTop (mkF m 322 #[.val (.long p0), .second, .val (.long p1), .second, .val (.long p2), .second, .val (.long p3), .second, .val (.int p4), .val (.int p5), .val (.ref b1), .val (.int v11), .val (.int v12), .val (.int v13), .val (.int v14), .val (.int v15), .val (.ref b11), .val (.ref b18), .val (.ref b21), .val (.ref b22), .val (.ref b25), .val (.ref b27), .val (.ref bt30), .val (.int (1 : Int32)), .val (.ref bt41)] [(.int (0 : Int32)), (.ref bt30)])) (fun t k => ?_) ?_
    · show Steps p.tables e below (T48.setTop (mkF m 304 #[.val (.long p0), .second, .val (.long p1), .second, .val (.long p2), .second, .val (.long p3), .second, .val (.int p4), .val (.int p5), .val (.ref b1), .val (.int v11), .val (.int v12), .val (.int v13), .val (.int v14), .val (.int v15), .val (.ref b11), .val (.ref b18), .val (.ref b21), .val (.ref b22), .val (.ref b25), .val (.ref b27), .val (.ref bt30), .val (.int (1 : Int32)), .val (.ref bt41)] [(.int (own_exp (1 : Int32) v13 v14 v15 p0 p1 p2 p3)), (.int (own_nz (own4 v13 (if v14 = 0 then own_fl (nar .boolean v15) else p0) (if v14 = 1 then own_fl (nar .boolean v15) else p1) (if v14 = 2 then own_fl (nar .boolean v15) else p2) (if v14 = 3 then own_fl (nar .boolean v15) else p3))))])) _
      refine XS.icmpNo X48.here hx rfl (hb hby at_304) rfl (teq (own_after r_v13 r_v14 hv15 p0 p1 p2 p3 : (own_nz (own4 v13 (if v14 = 0 then own_fl (nar .boolean v15) else p0) (if v14 = 1 then own_fl (nar .boolean v15) else p1) (if v14 = 2 then own_fl (nar .boolean v15) else p2) (if v14 = 3 then own_fl (nar .boolean v15) else p3))) = (own_exp (1 : Int32) v13 v14 v15 p0 p1 p2 p3))).2 ?_
      show Steps p.tables e below (T48.setTop (mkF m 307 #[.val (.long p0), .second, .val (.long p1), .second, .val (.long p2), .second, .val (.long p3), .second, .val (.int p4), .val (.int p5), .val (.ref b1), .val (.int v11), .val (.int v12), .val (.int v13), .val (.int v14), .val (.int v15), .val (.ref b11), .val (.ref b18), .val (.ref b21), .val (.ref b22), .val (.ref b25), .val (.ref b27), .val (.ref bt30), .val (.int (1 : Int32)), .val (.ref bt41)] [])) _
      refine XS.iconst X48.here hx rfl (hb hby at_307) ?_
      show Steps p.tables e below (T48.setTop (mkF m 308 #[.val (.long p0), .second, .val (.long p1), .second, .val (.long p2), .second, .val (.long p3), .second, .val (.int p4), .val (.int p5), .val (.ref b1), .val (.int v11), .val (.int v12), .val (.int v13), .val (.int v14), .val (.int v15), .val (.ref b11), .val (.ref b18), .val (.ref b21), .val (.ref b22), .val (.ref b25), .val (.ref b27), .val (.ref bt30), .val (.int (1 : Int32)), .val (.ref bt41)] [(.int (1 : Int32))])) _
      refine XS.goto X48.here hx rfl (pc0 := 308) (pc' := 312) rfl (hb hby at_308) (by decide) (by decide) ?_
      show Steps p.tables e below (T48.setTop (mkF m 312 #[.val (.long p0), .second, .val (.long p1), .second, .val (.long p2), .second, .val (.long p3), .second, .val (.int p4), .val (.int p5), .val (.ref b1), .val (.int v11), .val (.int v12), .val (.int v13), .val (.int v14), .val (.int v15), .val (.ref b11), .val (.ref b18), .val (.ref b21), .val (.ref b22), .val (.ref b25), .val (.ref b27), .val (.ref bt30), .val (.int (1 : Int32)), .val (.ref bt41)] [(.int (1 : Int32))])) _
      refine XS.istore X48.here hx rfl (hb hby at_312) rfl (l' := #[.val (.long p0), .second, .val (.long p1), .second, .val (.long p2), .second, .val (.long p3), .second, .val (.int p4), .val (.int p5), .val (.ref b1), .val (.int v11), .val (.int v12), .val (.int v13), .val (.int v14), .val (.int v15), .val (.ref b11), .val (.ref b18), .val (.ref b21), .val (.ref b22), .val (.ref b25), .val (.ref b27), .val (.ref bt30), .val (.int (1 : Int32)), .val (.ref bt41)]) rfl ?_
      show Steps p.tables e below (T48.setTop (mkF m 314 #[.val (.long p0), .second, .val (.long p1), .second, .val (.long p2), .second, .val (.long p3), .second, .val (.int p4), .val (.int p5), .val (.ref b1), .val (.int v11), .val (.int v12), .val (.int v13), .val (.int v14), .val (.int v15), .val (.ref b11), .val (.ref b18), .val (.ref b21), .val (.ref b22), .val (.ref b25), .val (.ref b27), .val (.ref bt30), .val (.int (1 : Int32)), .val (.ref bt41)] [])) _
      refine XS.iload X48.here hx rfl (hb hby at_314) rfl ?_
      show Steps p.tables e below (T48.setTop (mkF m 316 #[.val (.long p0), .second, .val (.long p1), .second, .val (.long p2), .second, .val (.long p3), .second, .val (.int p4), .val (.int p5), .val (.ref b1), .val (.int v11), .val (.int v12), .val (.int v13), .val (.int v14), .val (.int v15), .val (.ref b11), .val (.ref b18), .val (.ref b21), .val (.ref b22), .val (.ref b25), .val (.ref b27), .val (.ref bt30), .val (.int (1 : Int32)), .val (.ref bt41)] [(.int (1 : Int32))])) _
      refine XS.ifNo X48.here hx rfl (hb hby at_316) rfl ((if0 _ _).trans (feq (by decide : ¬ ((1 : Int32) = (0 : Int32)))).1) ?_
      show Steps p.tables e below (T48.setTop (mkF m 319 #[.val (.long p0), .second, .val (.long p1), .second, .val (.long p2), .second, .val (.long p3), .second, .val (.int p4), .val (.int p5), .val (.ref b1), .val (.int v11), .val (.int v12), .val (.int v13), .val (.int v14), .val (.int v15), .val (.ref b11), .val (.ref b18), .val (.ref b21), .val (.ref b22), .val (.ref b25), .val (.ref b27), .val (.ref bt30), .val (.int (1 : Int32)), .val (.ref bt41)] [])) _
      refine XS.aload X48.here hx rfl (hb hby at_319) rfl rfl ?_
      show Steps p.tables e below (T48.setTop (mkF m 321 #[.val (.long p0), .second, .val (.long p1), .second, .val (.long p2), .second, .val (.long p3), .second, .val (.int p4), .val (.int p5), .val (.ref b1), .val (.int v11), .val (.int v12), .val (.int v13), .val (.int v14), .val (.int v15), .val (.ref b11), .val (.ref b18), .val (.ref b21), .val (.ref b22), .val (.ref b25), .val (.ref b27), .val (.ref bt30), .val (.int (1 : Int32)), .val (.ref bt41)] [(.ref bt30)])) _
      refine XS.iconst X48.here hx rfl (hb hby at_321) ?_
      show Steps p.tables e below (T48.setTop (mkF m 322 #[.val (.long p0), .second, .val (.long p1), .second, .val (.long p2), .second, .val (.long p3), .second, .val (.int p4), .val (.int p5), .val (.ref b1), .val (.int v11), .val (.int v12), .val (.int v13), .val (.int v14), .val (.int v15), .val (.ref b11), .val (.ref b18), .val (.ref b21), .val (.ref b22), .val (.ref b25), .val (.ref b27), .val (.ref bt30), .val (.int (1 : Int32)), .val (.ref bt41)] [(.int (0 : Int32)), (.ref bt30)])) _
      exact k
    obtain ⟨cl49, Ar49, qa49, Sa49, Na49, Ha49, Ga49⟩ := id V_bt30
    have hin49 : ¬ ((0 : Int32) < 0 ∨ cl49.slots.size ≤ ((0 : Int32)).toNatClampNeg) := inb_of Sa49 ⟨by decide, by decide⟩
    have hat49 : cl49.slots[((0 : Int32)).toNatClampNeg]? = some (.int (own_nz (own4 v11 p0 p1 p2 p3))) := Ha49.at hin49 rfl
    refine own_go (B := T48.setTop (mkF m 332 #[.val (.long p0), .second, .val (.long p1), .second, .val (.long p2), .second, .val (.long p3), .second, .val (.int p4), .val (.int p5), .val (.ref b1), .val (.int v11), .val (.int v12), .val (.int v13), .val (.int v14), .val (.int v15), .val (.ref b11), .val (.ref b18), .val (.ref b21), .val (.ref b22), .val (.ref b25), .val (.ref b27), .val (.ref bt30), .val (.int (1 : Int32)), .val (.ref bt41)] [(.int v15), (.int v14), (.int (0 : Int32)), (.int v11), (.ref b1), (.int (own_nz (own4 v11 p0 p1 p2 p3)))])) (fun t k => ?_) ?_
    · show Steps p.tables e below (T48.setTop (mkF m 322 #[.val (.long p0), .second, .val (.long p1), .second, .val (.long p2), .second, .val (.long p3), .second, .val (.int p4), .val (.int p5), .val (.ref b1), .val (.int v11), .val (.int v12), .val (.int v13), .val (.int v14), .val (.int v15), .val (.ref b11), .val (.ref b18), .val (.ref b21), .val (.ref b22), .val (.ref b25), .val (.ref b27), .val (.ref bt30), .val (.int (1 : Int32)), .val (.ref bt41)] [(.int (0 : Int32)), (.ref bt30)])) _
      refine X48.baloadBooleans hx (j := (0 : Int32)) (v := (.int (own_nz (own4 v11 p0 p1 p2 p3)))) (by rw [e48]; exact Ar49.1) (State.isArrayOf_alike hZ.alike Ar49.2.1) Ar49.2.2 hin49 hat49 (g := (mkF m 322 #[.val (.long p0), .second, .val (.long p1), .second, .val (.long p2), .second, .val (.long p3), .second, .val (.int p4), .val (.int p5), .val (.ref b1), .val (.int v11), .val (.int v12), .val (.int v13), .val (.int v14), .val (.int v15), .val (.ref b11), .val (.ref b18), .val (.ref b21), .val (.ref b22), .val (.ref b25), .val (.ref b27), .val (.ref bt30), .val (.int (1 : Int32)), .val (.ref bt41)] [(.int (0 : Int32)), (.ref bt30)])) rfl rfl (hb hby at_322) _ ?_
      show Steps p.tables e below (T48.setTop (mkF m 323 #[.val (.long p0), .second, .val (.long p1), .second, .val (.long p2), .second, .val (.long p3), .second, .val (.int p4), .val (.int p5), .val (.ref b1), .val (.int v11), .val (.int v12), .val (.int v13), .val (.int v14), .val (.int v15), .val (.ref b11), .val (.ref b18), .val (.ref b21), .val (.ref b22), .val (.ref b25), .val (.ref b27), .val (.ref bt30), .val (.int (1 : Int32)), .val (.ref bt41)] [(.int (own_nz (own4 v11 p0 p1 p2 p3)))])) _
      refine XS.aload X48.here hx rfl (hb hby at_323) rfl rfl ?_
      show Steps p.tables e below (T48.setTop (mkF m 325 #[.val (.long p0), .second, .val (.long p1), .second, .val (.long p2), .second, .val (.long p3), .second, .val (.int p4), .val (.int p5), .val (.ref b1), .val (.int v11), .val (.int v12), .val (.int v13), .val (.int v14), .val (.int v15), .val (.ref b11), .val (.ref b18), .val (.ref b21), .val (.ref b22), .val (.ref b25), .val (.ref b27), .val (.ref bt30), .val (.int (1 : Int32)), .val (.ref bt41)] [(.ref b1), (.int (own_nz (own4 v11 p0 p1 p2 p3)))])) _
      refine XS.iload X48.here hx rfl (hb hby at_325) rfl ?_
      show Steps p.tables e below (T48.setTop (mkF m 327 #[.val (.long p0), .second, .val (.long p1), .second, .val (.long p2), .second, .val (.long p3), .second, .val (.int p4), .val (.int p5), .val (.ref b1), .val (.int v11), .val (.int v12), .val (.int v13), .val (.int v14), .val (.int v15), .val (.ref b11), .val (.ref b18), .val (.ref b21), .val (.ref b22), .val (.ref b25), .val (.ref b27), .val (.ref bt30), .val (.int (1 : Int32)), .val (.ref bt41)] [(.int v11), (.ref b1), (.int (own_nz (own4 v11 p0 p1 p2 p3)))])) _
      refine XS.iconst X48.here hx rfl (hb hby at_327) ?_
      show Steps p.tables e below (T48.setTop (mkF m 328 #[.val (.long p0), .second, .val (.long p1), .second, .val (.long p2), .second, .val (.long p3), .second, .val (.int p4), .val (.int p5), .val (.ref b1), .val (.int v11), .val (.int v12), .val (.int v13), .val (.int v14), .val (.int v15), .val (.ref b11), .val (.ref b18), .val (.ref b21), .val (.ref b22), .val (.ref b25), .val (.ref b27), .val (.ref bt30), .val (.int (1 : Int32)), .val (.ref bt41)] [(.int (0 : Int32)), (.int v11), (.ref b1), (.int (own_nz (own4 v11 p0 p1 p2 p3)))])) _
      refine XS.iload X48.here hx rfl (hb hby at_328) rfl ?_
      show Steps p.tables e below (T48.setTop (mkF m 330 #[.val (.long p0), .second, .val (.long p1), .second, .val (.long p2), .second, .val (.long p3), .second, .val (.int p4), .val (.int p5), .val (.ref b1), .val (.int v11), .val (.int v12), .val (.int v13), .val (.int v14), .val (.int v15), .val (.ref b11), .val (.ref b18), .val (.ref b21), .val (.ref b22), .val (.ref b25), .val (.ref b27), .val (.ref bt30), .val (.int (1 : Int32)), .val (.ref bt41)] [(.int v14), (.int (0 : Int32)), (.int v11), (.ref b1), (.int (own_nz (own4 v11 p0 p1 p2 p3)))])) _
      refine XS.iload X48.here hx rfl (hb hby at_330) rfl ?_
      show Steps p.tables e below (T48.setTop (mkF m 332 #[.val (.long p0), .second, .val (.long p1), .second, .val (.long p2), .second, .val (.long p3), .second, .val (.int p4), .val (.int p5), .val (.ref b1), .val (.int v11), .val (.int v12), .val (.int v13), .val (.int v14), .val (.int v15), .val (.ref b11), .val (.ref b18), .val (.ref b21), .val (.ref b22), .val (.ref b25), .val (.ref b27), .val (.ref bt30), .val (.int (1 : Int32)), .val (.ref bt41)] [(.int v15), (.int v14), (.int (0 : Int32)), (.int v11), (.ref b1), (.int (own_nz (own4 v11 p0 p1 p2 p3)))])) _
      exact k
    obtain ⟨_, _, ⟨T50, L50, k50, n50⟩, -, X50, ⟨Lc50, hQ50, l50, y50, z50⟩, st50⟩ := Jvm.LawKit.callS X48 hx (y := (⟨"com/example/controller_synthesis/controllersynthesis/output/FunctionBlockTimerOutputsPinLaw", "expected", "([JIZIZ)Z"⟩ : MethodName)) hown (mvT hZ (hw _ (List.mem_of_getElem? (i := 60) rfl))) (mvT hZ (hw _ (List.mem_of_getElem? (i := 61) rfl))) (mvT hZ (hw _ (List.mem_of_getElem? (i := 62) rfl))) (mvT hZ (hw _ (List.mem_of_getElem? (i := 63) rfl))) (by decide) (backOf (W := 1) (rm7 l Z a0 hw [] b1 k1 p0 p1 p2 p3 v11 (0 : Int32) v14 v15 h41 n0 Z0 V_b1 r_v11) hZ (hw _ (List.mem_of_getElem? (i := 63) rfl)) (hw _ (List.mem_of_getElem? (i := 62) rfl)) (by decide) (by decide)) (g := (mkF m 332 #[.val (.long p0), .second, .val (.long p1), .second, .val (.long p2), .second, .val (.long p3), .second, .val (.int p4), .val (.int p5), .val (.ref b1), .val (.int v11), .val (.int v12), .val (.int v13), .val (.int v14), .val (.int v15), .val (.ref b11), .val (.ref b18), .val (.ref b21), .val (.ref b22), .val (.ref b25), .val (.ref b27), .val (.ref bt30), .val (.int (1 : Int32)), .val (.ref bt41)] [(.int v15), (.int v14), (.int (0 : Int32)), (.int v11), (.ref b1), (.int (own_nz (own4 v11 p0 p1 p2 p3)))])) rfl (by rw [hml]; rfl) (argsL := [(.ref b1), (.int v11), (.int (0 : Int32)), (.int v14), (.int v15)]) (rest := [(.int (own_nz (own4 v11 p0 p1 p2 p3)))]) (lenOf pd_7 rfl) rfl (by show 2 * 0 + _ ≤ _; exact Nat.le_of_eq rfl) (hb hby at_332) (fun _ _ => ⟨rfl, e48, Nat.le_of_ble_eq_true rfl, Nat.le_of_ble_eq_true rfl⟩)
    dsimp only [Pt.U, Pt.locs, Pt.cells, Pt.slots] at X50 l50 y50 z50 st50 hQ50
    subst l50 y50 z50
    obtain ⟨h50, e50⟩ : ∃ z, T50.heap = z := ⟨_, rfl⟩
    rw [e50] at hQ50
    obtain ⟨rfl, N50q, eq50⟩ := hQ50
    have N50 := Fr.app N48 N50q
    rw [eq50] at e50
    refine own_go (B := T50.setTop (mkF m 335 #[.val (.long p0), .second, .val (.long p1), .second, .val (.long p2), .second, .val (.long p3), .second, .val (.int p4), .val (.int p5), .val (.ref b1), .val (.int v11), .val (.int v12), .val (.int v13), .val (.int v14), .val (.int v15), .val (.ref b11), .val (.ref b18), .val (.ref b21), .val (.ref b22), .val (.ref b25), .val (.ref b27), .val (.ref bt30), .val (.int (1 : Int32)), .val (.ref bt41)] [(.int (own_exp (0 : Int32) v11 v14 v15 p0 p1 p2 p3)), (.int (own_nz (own4 v11 p0 p1 p2 p3)))])) st50 ?_
    refine own_go (B := T50.setTop (mkF m 341 #[.val (.long p0), .second, .val (.long p1), .second, .val (.long p2), .second, .val (.long p3), .second, .val (.int p4), .val (.int p5), .val (.ref b1), .val (.int v11), .val (.int v12), .val (.int v13), .val (.int v14), .val (.int v15), .val (.ref b11), .val (.ref b18), .val (.ref b21), .val (.ref b22), .val (.ref b25), .val (.ref b27), .val (.ref bt30), .val (.int (1 : Int32)), .val (.ref bt41)] [(.int (1 : Int32)), (.ref bt30)])) (fun t k => ?_) ?_
    · show Steps p.tables e below (T50.setTop (mkF m 335 #[.val (.long p0), .second, .val (.long p1), .second, .val (.long p2), .second, .val (.long p3), .second, .val (.int p4), .val (.int p5), .val (.ref b1), .val (.int v11), .val (.int v12), .val (.int v13), .val (.int v14), .val (.int v15), .val (.ref b11), .val (.ref b18), .val (.ref b21), .val (.ref b22), .val (.ref b25), .val (.ref b27), .val (.ref bt30), .val (.int (1 : Int32)), .val (.ref bt41)] [(.int (own_exp (0 : Int32) v11 v14 v15 p0 p1 p2 p3)), (.int (own_nz (own4 v11 p0 p1 p2 p3)))])) _
      refine XS.icmpNo X50.here hx rfl (hb hby at_335) rfl (teq (by simp [own_exp] : (own_nz (own4 v11 p0 p1 p2 p3)) = (own_exp (0 : Int32) v11 v14 v15 p0 p1 p2 p3))).2 ?_
      show Steps p.tables e below (T50.setTop (mkF m 338 #[.val (.long p0), .second, .val (.long p1), .second, .val (.long p2), .second, .val (.long p3), .second, .val (.int p4), .val (.int p5), .val (.ref b1), .val (.int v11), .val (.int v12), .val (.int v13), .val (.int v14), .val (.int v15), .val (.ref b11), .val (.ref b18), .val (.ref b21), .val (.ref b22), .val (.ref b25), .val (.ref b27), .val (.ref bt30), .val (.int (1 : Int32)), .val (.ref bt41)] [])) _
      refine XS.aload X50.here hx rfl (hb hby at_338) rfl rfl ?_
      show Steps p.tables e below (T50.setTop (mkF m 340 #[.val (.long p0), .second, .val (.long p1), .second, .val (.long p2), .second, .val (.long p3), .second, .val (.int p4), .val (.int p5), .val (.ref b1), .val (.int v11), .val (.int v12), .val (.int v13), .val (.int v14), .val (.int v15), .val (.ref b11), .val (.ref b18), .val (.ref b21), .val (.ref b22), .val (.ref b25), .val (.ref b27), .val (.ref bt30), .val (.int (1 : Int32)), .val (.ref bt41)] [(.ref bt30)])) _
      refine XS.iconst X50.here hx rfl (hb hby at_340) ?_
      show Steps p.tables e below (T50.setTop (mkF m 341 #[.val (.long p0), .second, .val (.long p1), .second, .val (.long p2), .second, .val (.long p3), .second, .val (.int p4), .val (.int p5), .val (.ref b1), .val (.int v11), .val (.int v12), .val (.int v13), .val (.int v14), .val (.int v15), .val (.ref b11), .val (.ref b18), .val (.ref b21), .val (.ref b22), .val (.ref b25), .val (.ref b27), .val (.ref bt30), .val (.int (1 : Int32)), .val (.ref bt41)] [(.int (1 : Int32)), (.ref bt30)])) _
      exact k
    obtain ⟨cl51, Ar51, qa51, Sa51, Na51, Ha51, Ga51⟩ := id V_bt30
    have hin51 : ¬ ((1 : Int32) < 0 ∨ cl51.slots.size ≤ ((1 : Int32)).toNatClampNeg) := inb_of Sa51 ⟨by decide, by decide⟩
    have hat51 : cl51.slots[((1 : Int32)).toNatClampNeg]? = some (.int (own_nz (own4 v12 p0 p1 p2 p3))) := Ha51.at hin51 rfl
    refine own_go (B := T50.setTop (mkF m 351 #[.val (.long p0), .second, .val (.long p1), .second, .val (.long p2), .second, .val (.long p3), .second, .val (.int p4), .val (.int p5), .val (.ref b1), .val (.int v11), .val (.int v12), .val (.int v13), .val (.int v14), .val (.int v15), .val (.ref b11), .val (.ref b18), .val (.ref b21), .val (.ref b22), .val (.ref b25), .val (.ref b27), .val (.ref bt30), .val (.int (1 : Int32)), .val (.ref bt41)] [(.int v15), (.int v14), (.int (0 : Int32)), (.int v12), (.ref b1), (.int (own_nz (own4 v12 p0 p1 p2 p3)))])) (fun t k => ?_) ?_
    · show Steps p.tables e below (T50.setTop (mkF m 341 #[.val (.long p0), .second, .val (.long p1), .second, .val (.long p2), .second, .val (.long p3), .second, .val (.int p4), .val (.int p5), .val (.ref b1), .val (.int v11), .val (.int v12), .val (.int v13), .val (.int v14), .val (.int v15), .val (.ref b11), .val (.ref b18), .val (.ref b21), .val (.ref b22), .val (.ref b25), .val (.ref b27), .val (.ref bt30), .val (.int (1 : Int32)), .val (.ref bt41)] [(.int (1 : Int32)), (.ref bt30)])) _
      refine X50.baloadBooleans hx (j := (1 : Int32)) (v := (.int (own_nz (own4 v12 p0 p1 p2 p3)))) (by rw [e50]; exact Ar51.1) (State.isArrayOf_alike hZ.alike Ar51.2.1) Ar51.2.2 hin51 hat51 (g := (mkF m 341 #[.val (.long p0), .second, .val (.long p1), .second, .val (.long p2), .second, .val (.long p3), .second, .val (.int p4), .val (.int p5), .val (.ref b1), .val (.int v11), .val (.int v12), .val (.int v13), .val (.int v14), .val (.int v15), .val (.ref b11), .val (.ref b18), .val (.ref b21), .val (.ref b22), .val (.ref b25), .val (.ref b27), .val (.ref bt30), .val (.int (1 : Int32)), .val (.ref bt41)] [(.int (1 : Int32)), (.ref bt30)])) rfl rfl (hb hby at_341) _ ?_
      show Steps p.tables e below (T50.setTop (mkF m 342 #[.val (.long p0), .second, .val (.long p1), .second, .val (.long p2), .second, .val (.long p3), .second, .val (.int p4), .val (.int p5), .val (.ref b1), .val (.int v11), .val (.int v12), .val (.int v13), .val (.int v14), .val (.int v15), .val (.ref b11), .val (.ref b18), .val (.ref b21), .val (.ref b22), .val (.ref b25), .val (.ref b27), .val (.ref bt30), .val (.int (1 : Int32)), .val (.ref bt41)] [(.int (own_nz (own4 v12 p0 p1 p2 p3)))])) _
      refine XS.aload X50.here hx rfl (hb hby at_342) rfl rfl ?_
      show Steps p.tables e below (T50.setTop (mkF m 344 #[.val (.long p0), .second, .val (.long p1), .second, .val (.long p2), .second, .val (.long p3), .second, .val (.int p4), .val (.int p5), .val (.ref b1), .val (.int v11), .val (.int v12), .val (.int v13), .val (.int v14), .val (.int v15), .val (.ref b11), .val (.ref b18), .val (.ref b21), .val (.ref b22), .val (.ref b25), .val (.ref b27), .val (.ref bt30), .val (.int (1 : Int32)), .val (.ref bt41)] [(.ref b1), (.int (own_nz (own4 v12 p0 p1 p2 p3)))])) _
      refine XS.iload X50.here hx rfl (hb hby at_344) rfl ?_
      show Steps p.tables e below (T50.setTop (mkF m 346 #[.val (.long p0), .second, .val (.long p1), .second, .val (.long p2), .second, .val (.long p3), .second, .val (.int p4), .val (.int p5), .val (.ref b1), .val (.int v11), .val (.int v12), .val (.int v13), .val (.int v14), .val (.int v15), .val (.ref b11), .val (.ref b18), .val (.ref b21), .val (.ref b22), .val (.ref b25), .val (.ref b27), .val (.ref bt30), .val (.int (1 : Int32)), .val (.ref bt41)] [(.int v12), (.ref b1), (.int (own_nz (own4 v12 p0 p1 p2 p3)))])) _
      refine XS.iconst X50.here hx rfl (hb hby at_346) ?_
      show Steps p.tables e below (T50.setTop (mkF m 347 #[.val (.long p0), .second, .val (.long p1), .second, .val (.long p2), .second, .val (.long p3), .second, .val (.int p4), .val (.int p5), .val (.ref b1), .val (.int v11), .val (.int v12), .val (.int v13), .val (.int v14), .val (.int v15), .val (.ref b11), .val (.ref b18), .val (.ref b21), .val (.ref b22), .val (.ref b25), .val (.ref b27), .val (.ref bt30), .val (.int (1 : Int32)), .val (.ref bt41)] [(.int (0 : Int32)), (.int v12), (.ref b1), (.int (own_nz (own4 v12 p0 p1 p2 p3)))])) _
      refine XS.iload X50.here hx rfl (hb hby at_347) rfl ?_
      show Steps p.tables e below (T50.setTop (mkF m 349 #[.val (.long p0), .second, .val (.long p1), .second, .val (.long p2), .second, .val (.long p3), .second, .val (.int p4), .val (.int p5), .val (.ref b1), .val (.int v11), .val (.int v12), .val (.int v13), .val (.int v14), .val (.int v15), .val (.ref b11), .val (.ref b18), .val (.ref b21), .val (.ref b22), .val (.ref b25), .val (.ref b27), .val (.ref bt30), .val (.int (1 : Int32)), .val (.ref bt41)] [(.int v14), (.int (0 : Int32)), (.int v12), (.ref b1), (.int (own_nz (own4 v12 p0 p1 p2 p3)))])) _
      refine XS.iload X50.here hx rfl (hb hby at_349) rfl ?_
      show Steps p.tables e below (T50.setTop (mkF m 351 #[.val (.long p0), .second, .val (.long p1), .second, .val (.long p2), .second, .val (.long p3), .second, .val (.int p4), .val (.int p5), .val (.ref b1), .val (.int v11), .val (.int v12), .val (.int v13), .val (.int v14), .val (.int v15), .val (.ref b11), .val (.ref b18), .val (.ref b21), .val (.ref b22), .val (.ref b25), .val (.ref b27), .val (.ref bt30), .val (.int (1 : Int32)), .val (.ref bt41)] [(.int v15), (.int v14), (.int (0 : Int32)), (.int v12), (.ref b1), (.int (own_nz (own4 v12 p0 p1 p2 p3)))])) _
      exact k
    obtain ⟨_, _, ⟨T52, L52, k52, n52⟩, -, X52, ⟨Lc52, hQ52, l52, y52, z52⟩, st52⟩ := Jvm.LawKit.callS X50 hx (y := (⟨"com/example/controller_synthesis/controllersynthesis/output/FunctionBlockTimerOutputsPinLaw", "expected", "([JIZIZ)Z"⟩ : MethodName)) hown (mvT hZ (hw _ (List.mem_of_getElem? (i := 60) rfl))) (mvT hZ (hw _ (List.mem_of_getElem? (i := 61) rfl))) (mvT hZ (hw _ (List.mem_of_getElem? (i := 62) rfl))) (mvT hZ (hw _ (List.mem_of_getElem? (i := 63) rfl))) (by decide) (backOf (W := 1) (rm7 l Z a0 hw [] b1 k1 p0 p1 p2 p3 v12 (0 : Int32) v14 v15 h41 n0 Z0 V_b1 r_v12) hZ (hw _ (List.mem_of_getElem? (i := 63) rfl)) (hw _ (List.mem_of_getElem? (i := 62) rfl)) (by decide) (by decide)) (g := (mkF m 351 #[.val (.long p0), .second, .val (.long p1), .second, .val (.long p2), .second, .val (.long p3), .second, .val (.int p4), .val (.int p5), .val (.ref b1), .val (.int v11), .val (.int v12), .val (.int v13), .val (.int v14), .val (.int v15), .val (.ref b11), .val (.ref b18), .val (.ref b21), .val (.ref b22), .val (.ref b25), .val (.ref b27), .val (.ref bt30), .val (.int (1 : Int32)), .val (.ref bt41)] [(.int v15), (.int v14), (.int (0 : Int32)), (.int v12), (.ref b1), (.int (own_nz (own4 v12 p0 p1 p2 p3)))])) rfl (by rw [hml]; rfl) (argsL := [(.ref b1), (.int v12), (.int (0 : Int32)), (.int v14), (.int v15)]) (rest := [(.int (own_nz (own4 v12 p0 p1 p2 p3)))]) (lenOf pd_7 rfl) rfl (by show 2 * 0 + _ ≤ _; exact Nat.le_of_eq rfl) (hb hby at_351) (fun _ _ => ⟨rfl, e50, Nat.le_of_ble_eq_true rfl, Nat.le_of_ble_eq_true rfl⟩)
    dsimp only [Pt.U, Pt.locs, Pt.cells, Pt.slots] at X52 l52 y52 z52 st52 hQ52
    subst l52 y52 z52
    obtain ⟨h52, e52⟩ : ∃ z, T52.heap = z := ⟨_, rfl⟩
    rw [e52] at hQ52
    obtain ⟨rfl, N52q, eq52⟩ := hQ52
    have N52 := Fr.app N50 N52q
    rw [eq52] at e52
    refine own_go (B := T52.setTop (mkF m 354 #[.val (.long p0), .second, .val (.long p1), .second, .val (.long p2), .second, .val (.long p3), .second, .val (.int p4), .val (.int p5), .val (.ref b1), .val (.int v11), .val (.int v12), .val (.int v13), .val (.int v14), .val (.int v15), .val (.ref b11), .val (.ref b18), .val (.ref b21), .val (.ref b22), .val (.ref b25), .val (.ref b27), .val (.ref bt30), .val (.int (1 : Int32)), .val (.ref bt41)] [(.int (own_exp (0 : Int32) v12 v14 v15 p0 p1 p2 p3)), (.int (own_nz (own4 v12 p0 p1 p2 p3)))])) st52 ?_
    refine own_go (B := T52.setTop (mkF m 360 #[.val (.long p0), .second, .val (.long p1), .second, .val (.long p2), .second, .val (.long p3), .second, .val (.int p4), .val (.int p5), .val (.ref b1), .val (.int v11), .val (.int v12), .val (.int v13), .val (.int v14), .val (.int v15), .val (.ref b11), .val (.ref b18), .val (.ref b21), .val (.ref b22), .val (.ref b25), .val (.ref b27), .val (.ref bt30), .val (.int (1 : Int32)), .val (.ref bt41)] [(.int (2 : Int32)), (.ref bt30)])) (fun t k => ?_) ?_
    · show Steps p.tables e below (T52.setTop (mkF m 354 #[.val (.long p0), .second, .val (.long p1), .second, .val (.long p2), .second, .val (.long p3), .second, .val (.int p4), .val (.int p5), .val (.ref b1), .val (.int v11), .val (.int v12), .val (.int v13), .val (.int v14), .val (.int v15), .val (.ref b11), .val (.ref b18), .val (.ref b21), .val (.ref b22), .val (.ref b25), .val (.ref b27), .val (.ref bt30), .val (.int (1 : Int32)), .val (.ref bt41)] [(.int (own_exp (0 : Int32) v12 v14 v15 p0 p1 p2 p3)), (.int (own_nz (own4 v12 p0 p1 p2 p3)))])) _
      refine XS.icmpNo X52.here hx rfl (hb hby at_354) rfl (teq (by simp [own_exp] : (own_nz (own4 v12 p0 p1 p2 p3)) = (own_exp (0 : Int32) v12 v14 v15 p0 p1 p2 p3))).2 ?_
      show Steps p.tables e below (T52.setTop (mkF m 357 #[.val (.long p0), .second, .val (.long p1), .second, .val (.long p2), .second, .val (.long p3), .second, .val (.int p4), .val (.int p5), .val (.ref b1), .val (.int v11), .val (.int v12), .val (.int v13), .val (.int v14), .val (.int v15), .val (.ref b11), .val (.ref b18), .val (.ref b21), .val (.ref b22), .val (.ref b25), .val (.ref b27), .val (.ref bt30), .val (.int (1 : Int32)), .val (.ref bt41)] [])) _
      refine XS.aload X52.here hx rfl (hb hby at_357) rfl rfl ?_
      show Steps p.tables e below (T52.setTop (mkF m 359 #[.val (.long p0), .second, .val (.long p1), .second, .val (.long p2), .second, .val (.long p3), .second, .val (.int p4), .val (.int p5), .val (.ref b1), .val (.int v11), .val (.int v12), .val (.int v13), .val (.int v14), .val (.int v15), .val (.ref b11), .val (.ref b18), .val (.ref b21), .val (.ref b22), .val (.ref b25), .val (.ref b27), .val (.ref bt30), .val (.int (1 : Int32)), .val (.ref bt41)] [(.ref bt30)])) _
      refine XS.iconst X52.here hx rfl (hb hby at_359) ?_
      show Steps p.tables e below (T52.setTop (mkF m 360 #[.val (.long p0), .second, .val (.long p1), .second, .val (.long p2), .second, .val (.long p3), .second, .val (.int p4), .val (.int p5), .val (.ref b1), .val (.int v11), .val (.int v12), .val (.int v13), .val (.int v14), .val (.int v15), .val (.ref b11), .val (.ref b18), .val (.ref b21), .val (.ref b22), .val (.ref b25), .val (.ref b27), .val (.ref bt30), .val (.int (1 : Int32)), .val (.ref bt41)] [(.int (2 : Int32)), (.ref bt30)])) _
      exact k
    obtain ⟨cl53, Ar53, qa53, Sa53, Na53, Ha53, Ga53⟩ := id V_bt30
    have hin53 : ¬ ((2 : Int32) < 0 ∨ cl53.slots.size ≤ ((2 : Int32)).toNatClampNeg) := inb_of Sa53 ⟨by decide, by decide⟩
    have hat53 : cl53.slots[((2 : Int32)).toNatClampNeg]? = some (.int (own_nz (own4 v13 p0 p1 p2 p3))) := Ha53.at hin53 rfl
    refine own_go (B := T52.setTop (mkF m 370 #[.val (.long p0), .second, .val (.long p1), .second, .val (.long p2), .second, .val (.long p3), .second, .val (.int p4), .val (.int p5), .val (.ref b1), .val (.int v11), .val (.int v12), .val (.int v13), .val (.int v14), .val (.int v15), .val (.ref b11), .val (.ref b18), .val (.ref b21), .val (.ref b22), .val (.ref b25), .val (.ref b27), .val (.ref bt30), .val (.int (1 : Int32)), .val (.ref bt41)] [(.int v15), (.int v14), (.int (0 : Int32)), (.int v13), (.ref b1), (.int (own_nz (own4 v13 p0 p1 p2 p3)))])) (fun t k => ?_) ?_
    · show Steps p.tables e below (T52.setTop (mkF m 360 #[.val (.long p0), .second, .val (.long p1), .second, .val (.long p2), .second, .val (.long p3), .second, .val (.int p4), .val (.int p5), .val (.ref b1), .val (.int v11), .val (.int v12), .val (.int v13), .val (.int v14), .val (.int v15), .val (.ref b11), .val (.ref b18), .val (.ref b21), .val (.ref b22), .val (.ref b25), .val (.ref b27), .val (.ref bt30), .val (.int (1 : Int32)), .val (.ref bt41)] [(.int (2 : Int32)), (.ref bt30)])) _
      refine X52.baloadBooleans hx (j := (2 : Int32)) (v := (.int (own_nz (own4 v13 p0 p1 p2 p3)))) (by rw [e52]; exact Ar53.1) (State.isArrayOf_alike hZ.alike Ar53.2.1) Ar53.2.2 hin53 hat53 (g := (mkF m 360 #[.val (.long p0), .second, .val (.long p1), .second, .val (.long p2), .second, .val (.long p3), .second, .val (.int p4), .val (.int p5), .val (.ref b1), .val (.int v11), .val (.int v12), .val (.int v13), .val (.int v14), .val (.int v15), .val (.ref b11), .val (.ref b18), .val (.ref b21), .val (.ref b22), .val (.ref b25), .val (.ref b27), .val (.ref bt30), .val (.int (1 : Int32)), .val (.ref bt41)] [(.int (2 : Int32)), (.ref bt30)])) rfl rfl (hb hby at_360) _ ?_
      show Steps p.tables e below (T52.setTop (mkF m 361 #[.val (.long p0), .second, .val (.long p1), .second, .val (.long p2), .second, .val (.long p3), .second, .val (.int p4), .val (.int p5), .val (.ref b1), .val (.int v11), .val (.int v12), .val (.int v13), .val (.int v14), .val (.int v15), .val (.ref b11), .val (.ref b18), .val (.ref b21), .val (.ref b22), .val (.ref b25), .val (.ref b27), .val (.ref bt30), .val (.int (1 : Int32)), .val (.ref bt41)] [(.int (own_nz (own4 v13 p0 p1 p2 p3)))])) _
      refine XS.aload X52.here hx rfl (hb hby at_361) rfl rfl ?_
      show Steps p.tables e below (T52.setTop (mkF m 363 #[.val (.long p0), .second, .val (.long p1), .second, .val (.long p2), .second, .val (.long p3), .second, .val (.int p4), .val (.int p5), .val (.ref b1), .val (.int v11), .val (.int v12), .val (.int v13), .val (.int v14), .val (.int v15), .val (.ref b11), .val (.ref b18), .val (.ref b21), .val (.ref b22), .val (.ref b25), .val (.ref b27), .val (.ref bt30), .val (.int (1 : Int32)), .val (.ref bt41)] [(.ref b1), (.int (own_nz (own4 v13 p0 p1 p2 p3)))])) _
      refine XS.iload X52.here hx rfl (hb hby at_363) rfl ?_
      show Steps p.tables e below (T52.setTop (mkF m 365 #[.val (.long p0), .second, .val (.long p1), .second, .val (.long p2), .second, .val (.long p3), .second, .val (.int p4), .val (.int p5), .val (.ref b1), .val (.int v11), .val (.int v12), .val (.int v13), .val (.int v14), .val (.int v15), .val (.ref b11), .val (.ref b18), .val (.ref b21), .val (.ref b22), .val (.ref b25), .val (.ref b27), .val (.ref bt30), .val (.int (1 : Int32)), .val (.ref bt41)] [(.int v13), (.ref b1), (.int (own_nz (own4 v13 p0 p1 p2 p3)))])) _
      refine XS.iconst X52.here hx rfl (hb hby at_365) ?_
      show Steps p.tables e below (T52.setTop (mkF m 366 #[.val (.long p0), .second, .val (.long p1), .second, .val (.long p2), .second, .val (.long p3), .second, .val (.int p4), .val (.int p5), .val (.ref b1), .val (.int v11), .val (.int v12), .val (.int v13), .val (.int v14), .val (.int v15), .val (.ref b11), .val (.ref b18), .val (.ref b21), .val (.ref b22), .val (.ref b25), .val (.ref b27), .val (.ref bt30), .val (.int (1 : Int32)), .val (.ref bt41)] [(.int (0 : Int32)), (.int v13), (.ref b1), (.int (own_nz (own4 v13 p0 p1 p2 p3)))])) _
      refine XS.iload X52.here hx rfl (hb hby at_366) rfl ?_
      show Steps p.tables e below (T52.setTop (mkF m 368 #[.val (.long p0), .second, .val (.long p1), .second, .val (.long p2), .second, .val (.long p3), .second, .val (.int p4), .val (.int p5), .val (.ref b1), .val (.int v11), .val (.int v12), .val (.int v13), .val (.int v14), .val (.int v15), .val (.ref b11), .val (.ref b18), .val (.ref b21), .val (.ref b22), .val (.ref b25), .val (.ref b27), .val (.ref bt30), .val (.int (1 : Int32)), .val (.ref bt41)] [(.int v14), (.int (0 : Int32)), (.int v13), (.ref b1), (.int (own_nz (own4 v13 p0 p1 p2 p3)))])) _
      refine XS.iload X52.here hx rfl (hb hby at_368) rfl ?_
      show Steps p.tables e below (T52.setTop (mkF m 370 #[.val (.long p0), .second, .val (.long p1), .second, .val (.long p2), .second, .val (.long p3), .second, .val (.int p4), .val (.int p5), .val (.ref b1), .val (.int v11), .val (.int v12), .val (.int v13), .val (.int v14), .val (.int v15), .val (.ref b11), .val (.ref b18), .val (.ref b21), .val (.ref b22), .val (.ref b25), .val (.ref b27), .val (.ref bt30), .val (.int (1 : Int32)), .val (.ref bt41)] [(.int v15), (.int v14), (.int (0 : Int32)), (.int v13), (.ref b1), (.int (own_nz (own4 v13 p0 p1 p2 p3)))])) _
      exact k
    obtain ⟨_, _, ⟨T54, L54, k54, n54⟩, -, X54, ⟨Lc54, hQ54, l54, y54, z54⟩, st54⟩ := Jvm.LawKit.callS X52 hx (y := (⟨"com/example/controller_synthesis/controllersynthesis/output/FunctionBlockTimerOutputsPinLaw", "expected", "([JIZIZ)Z"⟩ : MethodName)) hown (mvT hZ (hw _ (List.mem_of_getElem? (i := 60) rfl))) (mvT hZ (hw _ (List.mem_of_getElem? (i := 61) rfl))) (mvT hZ (hw _ (List.mem_of_getElem? (i := 62) rfl))) (mvT hZ (hw _ (List.mem_of_getElem? (i := 63) rfl))) (by decide) (backOf (W := 1) (rm7 l Z a0 hw [] b1 k1 p0 p1 p2 p3 v13 (0 : Int32) v14 v15 h41 n0 Z0 V_b1 r_v13) hZ (hw _ (List.mem_of_getElem? (i := 63) rfl)) (hw _ (List.mem_of_getElem? (i := 62) rfl)) (by decide) (by decide)) (g := (mkF m 370 #[.val (.long p0), .second, .val (.long p1), .second, .val (.long p2), .second, .val (.long p3), .second, .val (.int p4), .val (.int p5), .val (.ref b1), .val (.int v11), .val (.int v12), .val (.int v13), .val (.int v14), .val (.int v15), .val (.ref b11), .val (.ref b18), .val (.ref b21), .val (.ref b22), .val (.ref b25), .val (.ref b27), .val (.ref bt30), .val (.int (1 : Int32)), .val (.ref bt41)] [(.int v15), (.int v14), (.int (0 : Int32)), (.int v13), (.ref b1), (.int (own_nz (own4 v13 p0 p1 p2 p3)))])) rfl (by rw [hml]; rfl) (argsL := [(.ref b1), (.int v13), (.int (0 : Int32)), (.int v14), (.int v15)]) (rest := [(.int (own_nz (own4 v13 p0 p1 p2 p3)))]) (lenOf pd_7 rfl) rfl (by show 2 * 0 + _ ≤ _; exact Nat.le_of_eq rfl) (hb hby at_370) (fun _ _ => ⟨rfl, e52, Nat.le_of_ble_eq_true rfl, Nat.le_of_ble_eq_true rfl⟩)
    dsimp only [Pt.U, Pt.locs, Pt.cells, Pt.slots] at X54 l54 y54 z54 st54 hQ54
    subst l54 y54 z54
    obtain ⟨h54, e54⟩ : ∃ z, T54.heap = z := ⟨_, rfl⟩
    rw [e54] at hQ54
    obtain ⟨rfl, N54q, eq54⟩ := hQ54
    have N54 := Fr.app N52 N54q
    rw [eq54] at e54
    refine own_go (B := T54.setTop (mkF m 373 #[.val (.long p0), .second, .val (.long p1), .second, .val (.long p2), .second, .val (.long p3), .second, .val (.int p4), .val (.int p5), .val (.ref b1), .val (.int v11), .val (.int v12), .val (.int v13), .val (.int v14), .val (.int v15), .val (.ref b11), .val (.ref b18), .val (.ref b21), .val (.ref b22), .val (.ref b25), .val (.ref b27), .val (.ref bt30), .val (.int (1 : Int32)), .val (.ref bt41)] [(.int (own_exp (0 : Int32) v13 v14 v15 p0 p1 p2 p3)), (.int (own_nz (own4 v13 p0 p1 p2 p3)))])) st54 ?_
    refine own_go (B := T54.setTop (mkF m 385 #[.val (.long p0), .second, .val (.long p1), .second, .val (.long p2), .second, .val (.long p3), .second, .val (.int p4), .val (.int p5), .val (.ref b1), .val (.int v11), .val (.int v12), .val (.int v13), .val (.int v14), .val (.int v15), .val (.ref b11), .val (.ref b18), .val (.ref b21), .val (.ref b22), .val (.ref b25), .val (.ref b27), .val (.ref bt30), .val (.int (1 : Int32)), .val (.ref bt41)] [(.int (1 : Int32))])) (fun t k => ?_) ?_
    · show Steps p.tables e below (T54.setTop (mkF m 373 #[.val (.long p0), .second, .val (.long p1), .second, .val (.long p2), .second, .val (.long p3), .second, .val (.int p4), .val (.int p5), .val (.ref b1), .val (.int v11), .val (.int v12), .val (.int v13), .val (.int v14), .val (.int v15), .val (.ref b11), .val (.ref b18), .val (.ref b21), .val (.ref b22), .val (.ref b25), .val (.ref b27), .val (.ref bt30), .val (.int (1 : Int32)), .val (.ref bt41)] [(.int (own_exp (0 : Int32) v13 v14 v15 p0 p1 p2 p3)), (.int (own_nz (own4 v13 p0 p1 p2 p3)))])) _
      refine XS.icmpNo X54.here hx rfl (hb hby at_373) rfl (teq (by simp [own_exp] : (own_nz (own4 v13 p0 p1 p2 p3)) = (own_exp (0 : Int32) v13 v14 v15 p0 p1 p2 p3))).2 ?_
      show Steps p.tables e below (T54.setTop (mkF m 376 #[.val (.long p0), .second, .val (.long p1), .second, .val (.long p2), .second, .val (.long p3), .second, .val (.int p4), .val (.int p5), .val (.ref b1), .val (.int v11), .val (.int v12), .val (.int v13), .val (.int v14), .val (.int v15), .val (.ref b11), .val (.ref b18), .val (.ref b21), .val (.ref b22), .val (.ref b25), .val (.ref b27), .val (.ref bt30), .val (.int (1 : Int32)), .val (.ref bt41)] [])) _
      refine XS.iconst X54.here hx rfl (hb hby at_376) ?_
      show Steps p.tables e below (T54.setTop (mkF m 377 #[.val (.long p0), .second, .val (.long p1), .second, .val (.long p2), .second, .val (.long p3), .second, .val (.int p4), .val (.int p5), .val (.ref b1), .val (.int v11), .val (.int v12), .val (.int v13), .val (.int v14), .val (.int v15), .val (.ref b11), .val (.ref b18), .val (.ref b21), .val (.ref b22), .val (.ref b25), .val (.ref b27), .val (.ref bt30), .val (.int (1 : Int32)), .val (.ref bt41)] [(.int (1 : Int32))])) _
      refine XS.goto X54.here hx rfl (pc0 := 377) (pc' := 381) rfl (hb hby at_377) (by decide) (by decide) ?_
      show Steps p.tables e below (T54.setTop (mkF m 381 #[.val (.long p0), .second, .val (.long p1), .second, .val (.long p2), .second, .val (.long p3), .second, .val (.int p4), .val (.int p5), .val (.ref b1), .val (.int v11), .val (.int v12), .val (.int v13), .val (.int v14), .val (.int v15), .val (.ref b11), .val (.ref b18), .val (.ref b21), .val (.ref b22), .val (.ref b25), .val (.ref b27), .val (.ref bt30), .val (.int (1 : Int32)), .val (.ref bt41)] [(.int (1 : Int32))])) _
      refine XS.istore X54.here hx rfl (hb hby at_381) rfl (l' := #[.val (.long p0), .second, .val (.long p1), .second, .val (.long p2), .second, .val (.long p3), .second, .val (.int p4), .val (.int p5), .val (.ref b1), .val (.int v11), .val (.int v12), .val (.int v13), .val (.int v14), .val (.int v15), .val (.ref b11), .val (.ref b18), .val (.ref b21), .val (.ref b22), .val (.ref b25), .val (.ref b27), .val (.ref bt30), .val (.int (1 : Int32)), .val (.ref bt41)]) rfl ?_
      show Steps p.tables e below (T54.setTop (mkF m 383 #[.val (.long p0), .second, .val (.long p1), .second, .val (.long p2), .second, .val (.long p3), .second, .val (.int p4), .val (.int p5), .val (.ref b1), .val (.int v11), .val (.int v12), .val (.int v13), .val (.int v14), .val (.int v15), .val (.ref b11), .val (.ref b18), .val (.ref b21), .val (.ref b22), .val (.ref b25), .val (.ref b27), .val (.ref bt30), .val (.int (1 : Int32)), .val (.ref bt41)] [])) _
      refine XS.iload X54.here hx rfl (hb hby at_383) rfl ?_
      show Steps p.tables e below (T54.setTop (mkF m 385 #[.val (.long p0), .second, .val (.long p1), .second, .val (.long p2), .second, .val (.long p3), .second, .val (.int p4), .val (.int p5), .val (.ref b1), .val (.int v11), .val (.int v12), .val (.int v13), .val (.int v14), .val (.int v15), .val (.ref b11), .val (.ref b18), .val (.ref b21), .val (.ref b22), .val (.ref b25), .val (.ref b27), .val (.ref bt30), .val (.int (1 : Int32)), .val (.ref bt41)] [(.int (1 : Int32))])) _
      exact k
    obtain ⟨fs, hr, hrun, hended, hW, hsame⟩ := X54.leave (v := some (.int (1 : Int32))) (fun h => by rw [Bd.returns] at h; cases h)
    refine own_done (retN X54 hx (t := .boolean) Bd.returns (by simp) (hb hby at_385) hr) hrun hended ⟨_, _, rfl, ?_, ⟨_, rfl⟩, hW, hsame.mono (by decide) (by decide)⟩
    show Q_rm0 Z h0 n0 (some (.int (1 : Int32))) T54.heap _
    rw [e54]
    exact ⟨rfl, N54⟩
  by_cases hc58 : (p5 &&& (1 : Int32)) = (0 : Int32)
  · refine own_go (B := T9.setTop (mkF m 66 #[.val (.long p0), .second, .val (.long p1), .second, .val (.long p2), .second, .val (.long p3), .second, .val (.int p4), .val (.int p5), .val (.ref b1), .val (.int v11), .val (.int v12), .val (.int v13), .val (.int v14), .unset, .unset, .unset, .unset, .unset, .unset, .unset, .unset, .unset, .unset] [(.int (0 : Int32))])) (fun t k => ?_) ?_
    · show Steps p.tables e below (T9.setTop (mkF m 58 #[.val (.long p0), .second, .val (.long p1), .second, .val (.long p2), .second, .val (.long p3), .second, .val (.int p4), .val (.int p5), .val (.ref b1), .val (.int v11), .val (.int v12), .val (.int v13), .val (.int v14), .unset, .unset, .unset, .unset, .unset, .unset, .unset, .unset, .unset, .unset] [(.int (p5 &&& (1 : Int32)))])) _
      refine XS.ifYes X9.here hx rfl (pc0 := 58) (pc' := 65) rfl (hb hby at_58) rfl ((if0 _ _).trans (teq hc58).1) (by decide) (by decide) ?_
      show Steps p.tables e below (T9.setTop (mkF m 65 #[.val (.long p0), .second, .val (.long p1), .second, .val (.long p2), .second, .val (.long p3), .second, .val (.int p4), .val (.int p5), .val (.ref b1), .val (.int v11), .val (.int v12), .val (.int v13), .val (.int v14), .unset, .unset, .unset, .unset, .unset, .unset, .unset, .unset, .unset, .unset] [])) _
      refine XS.iconst X9.here hx rfl (hb hby at_65) ?_
      show Steps p.tables e below (T9.setTop (mkF m 66 #[.val (.long p0), .second, .val (.long p1), .second, .val (.long p2), .second, .val (.long p3), .second, .val (.int p4), .val (.int p5), .val (.ref b1), .val (.int v11), .val (.int v12), .val (.int v13), .val (.int v14), .unset, .unset, .unset, .unset, .unset, .unset, .unset, .unset, .unset, .unset] [(.int (0 : Int32))])) _
      exact k
    exact J66 _ _ X9 N9 e9 (0 : Int32) (by first | exact Or.inl rfl | exact Or.inr rfl)
  · refine own_go (B := T9.setTop (mkF m 66 #[.val (.long p0), .second, .val (.long p1), .second, .val (.long p2), .second, .val (.long p3), .second, .val (.int p4), .val (.int p5), .val (.ref b1), .val (.int v11), .val (.int v12), .val (.int v13), .val (.int v14), .unset, .unset, .unset, .unset, .unset, .unset, .unset, .unset, .unset, .unset] [(.int (1 : Int32))])) (fun t k => ?_) ?_
    · show Steps p.tables e below (T9.setTop (mkF m 58 #[.val (.long p0), .second, .val (.long p1), .second, .val (.long p2), .second, .val (.long p3), .second, .val (.int p4), .val (.int p5), .val (.ref b1), .val (.int v11), .val (.int v12), .val (.int v13), .val (.int v14), .unset, .unset, .unset, .unset, .unset, .unset, .unset, .unset, .unset, .unset] [(.int (p5 &&& (1 : Int32)))])) _
      refine XS.ifNo X9.here hx rfl (hb hby at_58) rfl ((if0 _ _).trans (feq hc58).1) ?_
      show Steps p.tables e below (T9.setTop (mkF m 61 #[.val (.long p0), .second, .val (.long p1), .second, .val (.long p2), .second, .val (.long p3), .second, .val (.int p4), .val (.int p5), .val (.ref b1), .val (.int v11), .val (.int v12), .val (.int v13), .val (.int v14), .unset, .unset, .unset, .unset, .unset, .unset, .unset, .unset, .unset, .unset] [])) _
      refine XS.iconst X9.here hx rfl (hb hby at_61) ?_
      show Steps p.tables e below (T9.setTop (mkF m 62 #[.val (.long p0), .second, .val (.long p1), .second, .val (.long p2), .second, .val (.long p3), .second, .val (.int p4), .val (.int p5), .val (.ref b1), .val (.int v11), .val (.int v12), .val (.int v13), .val (.int v14), .unset, .unset, .unset, .unset, .unset, .unset, .unset, .unset, .unset, .unset] [(.int (1 : Int32))])) _
      refine XS.goto X9.here hx rfl (pc0 := 62) (pc' := 66) rfl (hb hby at_62) (by decide) (by decide) ?_
      show Steps p.tables e below (T9.setTop (mkF m 66 #[.val (.long p0), .second, .val (.long p1), .second, .val (.long p2), .second, .val (.long p3), .second, .val (.int p4), .val (.int p5), .val (.ref b1), .val (.int v11), .val (.int v12), .val (.int v13), .val (.int v14), .unset, .unset, .unset, .unset, .unset, .unset, .unset, .unset, .unset, .unset] [(.int (1 : Int32))])) _
      exact k
    exact J66 _ _ X9 N9 e9 (1 : Int32) (by first | exact Or.inl rfl | exact Or.inr rfl)
set_option maxRecDepth 65536 in
set_option maxHeartbeats 40000000 in
theorem comes_1 {Post : Tables → Env → Array Value → State → Outcome → State → Prop} (hpost : ∀ tb e args s v u, (limb_1_1.after args s (.returned v) u = true ∧ limb_1_2.after args s (.returned v) u = true ∧ True) → FrameEnd s (.returned v) u (Jvm.fieldLocs frame_1_writes args s ++ Jvm.arrayLocs frame_1_arrays args s ++ Jvm.staticLocs frame_1_statics s) 32 128 → Post tb e args s (.returned v) u) :
    ArmFor flags0 classFile x code maxLocals ret World_1 tables_1 room_1 Calls_1 rest_1 Pre_1 Post := by
  intro l hfl _ _ p e ha hc hk' s m args below hf hA hF happ hP
  obtain ⟨hcalls, hrest, hpre⟩ := hP
  obtain ⟨-, -, -, hnamed, -, -, -, hat⟩ := (Spec.applies_iff hf).mp happ
  obtain ⟨hg, hn⟩ := and_e (Cond.before_iff.mp (show (Jvm.Cond.and given_1 narrow_1).before args s = true from hpre))
  obtain ⟨gc, hg⟩ := and_e hg
  obtain ⟨w0, w1, w2, w3, w4, w5, rfl⟩ : ∃ w0 w1 w2 w3 w4 w5 : Value, args = #[w0, w1, w2, w3, w4, w5] := by
    have hs : args.size = 6 := by simpa [Cond.value, given_1] using gc
    obtain ⟨L⟩ := args
    match L, hs with
    | [w0, w1, w2, w3, w4, w5], _ => exact ⟨w0, w1, w2, w3, w4, w5, rfl⟩
  obtain ⟨ga0, hg⟩ := and_e hg
  obtain ⟨ga1, hg⟩ := and_e hg
  obtain ⟨ga2, hg⟩ := and_e hg
  obtain ⟨ga3, hg⟩ := and_e hg
  obtain ⟨ga4, hg⟩ := and_e hg
  have ga5 := hg
  obtain ⟨i0, ei0⟩ := isL_v ga0
  obtain rfl : w0 = (.long i0) := Option.some.inj ei0
  obtain ⟨i1, ei1⟩ := isL_v ga1
  obtain rfl : w1 = (.long i1) := Option.some.inj ei1
  obtain ⟨i2, ei2⟩ := isL_v ga2
  obtain rfl : w2 = (.long i2) := Option.some.inj ei2
  obtain ⟨i3, ei3⟩ := isL_v ga3
  obtain rfl : w3 = (.long i3) := Option.some.inj ei3
  obtain ⟨i4, ei4⟩ := is_v ga4
  obtain rfl : w4 = (.int i4) := Option.some.inj ei4
  obtain ⟨i5, ei5⟩ := is_v ga5
  obtain rfl : w5 = (.int i5) := Option.some.inj ei5
  have hw := fun d (hd : d ∈ tables_1) => atoms_spec (ws := Jvm.Cond.code x code maxLocals ret :: tables_1) hat d (List.mem_cons_of_mem _ hd)
  have hfit : Fit s := fun {y c} hc i hi => by
    obtain ⟨ha, rfl⟩ := Array.getElem?_eq_some_iff.mp hc
    have q := List.all_eq_true.mp ((Array.all_eq_true_iff_forall_mem.mp hF) _ (Array.getElem_mem ha)) i (List.mem_range.mpr hi)
    simpa [Array.getElem?_eq_getElem hi] using q
  obtain ⟨hsets, hown0⟩ := atoms_of _ (rest_1_c_eq ▸ (show rest_1_c.before _ s = true from hrest))
  obtain ⟨w_DEF, ev_DEF⟩ := arr_v (Cond.before_iff.mp (hsets _ (List.mem_of_getElem? (i := 6) rfl)))
  have S_DEF := Sta.start ev_DEF (Or.inr ⟨(hw _ (List.mem_of_getElem? (i := 5) rfl)), hsets _ (List.mem_of_getElem? (i := 2) rfl)⟩)
  obtain ⟨n, o, h1, h2, h3, _, L, rfl, ⟨rfl, N⟩, hq⟩ := rm0 l s _ hw tables_1 i0 i1 i2 i3 i4 i5 w_DEF s.heap s.heap.size (Nat.le_refl _) S_DEF (Old.start s) p e ha hc hk' s m _ below hf ((Spec.applies_iff_loose hf).mp happ).1 ⟨rfl, State.Warmed39.refl s, rfl⟩ trivial
  refine ⟨n, _, h1, h2, h3, hpost _ _ _ _ _ _ ⟨Cond.after_iff.mpr rfl, Cond.after_iff.mpr (eq_i res_at (Term.int_eval (1)) rfl), trivial⟩ ⟨hq.1, hq.2.1, (hq.2.2.sift fun y hy => Or.inr (N y hy)).mono (by decide) (by decide)⟩⟩
theorem main_1_1 : Claimed_1_1 := comes_1 fun _ _ _ _ _ _ h hF => ⟨h.1, hF⟩
theorem main_1_2 : Claimed_1_2 := comes_1 fun _ _ _ _ _ _ h hF => ⟨h.2.1, hF⟩
end Jvm.Pilot.@@N@@
namespace Jvm.Pilot.@@N@@
open Jvm Jvm.ClassFile Sem Op Lib Jvm.Free Jvm.Stand Jvm.Pilot.@@N@@.Jvm.D
/-! MADE BY PROGRAM (witnessworld.py) out of the Statement's table words and the real class files: 24 classes; the members and pool entries that the words name. The judged class is class 1, her method 2. -/
namespace start1
open Jvm.ClassFile
def u (s : String) : CpInfo := .utf8 (stringToUtf16 s)
/-- a pool by its gaps: so many unusable entries, then the entry; so many at the end -/
def gap : Nat → List CpInfo → List CpInfo
  | 0, r => r
  | n + 1, r => .unusable :: gap n r
def poolList (es : List (Nat × CpInfo)) (last : Nat) : List CpInfo := es.foldr (fun e r => gap e.1 (e.2 :: r)) (gap last [])
def pool (es : List (Nat × CpInfo)) (last : Nat) : Array CpInfo := ⟨poolList es last⟩
def fileOf (pool : Array CpInfo) (this : Nat) (attrs : Array Attribute := #[]) (ms : Array MethodInfo := #[]) (fl : Nat := 33) (sup : Nat := 0) (ifs : Array Nat := #[]) (fds : Array FieldInfo := #[]) : ClassFile where
  minorVersion := 0
  majorVersion := 65
  constantPool := pool
  accessFlags := fl
  thisClass := this
  superClass := sup
  interfaces := ifs
  fields := fds
  methods := ms
  attributes := attrs
def plain (name : String) (sup : Option ClassId) : Class where
  name := name
  kind := .ordinary
  loader := none
  accessFlags := 33
  super := sup
  interfaces := #[]
  cf := none
  fields := #[]
  methods := #[]
  instanceTypes := #[]
  staticTypes := #[]
  resolved := #[]
  callSites := []
  init := .initialized
  statics := none
  mirror := none

def pool0 : Array CpInfo := pool [(5, u "<init>"), (0, u "()V"), (1, .class_ 10), (1, u "java/lang/Object"), (85, u "clone"), (0, u "()Ljava/lang/Object;")] 26

def k0c0 : Code := { maxStack := 0, maxLocals := 1, code := object_method_1_code, exceptionTable := #[], attributes := #[] }
def k0m0 : Method := { name := "<init>", desc := "()V", sig := { parameters := [], returnType := none }, accessFlags := 1, code := some k0c0 }
def k0m1 : Method := { name := "clone", desc := "()Ljava/lang/Object;", sig := { parameters := [], returnType := some (.object "java/lang/Object") }, accessFlags := 260, code := none }
/-- java/lang/Object -/
def k0 : Class := { plain "java/lang/Object" none with
  accessFlags := 33
  interfaces := #[]
  cf := some (fileOf pool0 8 #[] #[{ accessFlags := 1, nameIndex := 5, descriptorIndex := 6, attributes := #[] }, { accessFlags := 260, nameIndex := 96, descriptorIndex := 97, attributes := #[] }] 33 0 #[] #[])
  fields := #[]
  methods := #[k0m0, k0m1]
  instanceTypes := #[]
  staticTypes := #[]
  resolved := Array.replicate 124 none
  statics := none }

def pool1 : Array CpInfo := pool [(2, .class_ 4), (0, .nameAndType 5 6), (0, u "java/lang/Object"), (0, u "<init>"), (0, u "()V"), (0, .class_ 8), (0, u "java/util/ArrayList"), (0, .methodref 7 3), (0, .class_ 11), (0, u "com/example/controller_synthesis/controllersynthesis/output/FunctionBlock"), (0, .methodref 10 13), (0, .nameAndType 5 14), (0, u "([J[I[I[ILjava/util/List;)V"), (0, .methodref 10 16), (0, .nameAndType 17 18), (0, u "timerOutputs"), (0, u "()[Z"), (0, .methodref 20 21), (0, .class_ 22), (0, .nameAndType 23 24), (0, u "com/example/controller_synthesis/controllersynthesis/output/FunctionBlockTimerOutputsPinLaw"), (0, u "expected"), (0, u "([JIZIZ)Z"), (0, .methodref 10 26), (0, .nameAndType 27 28), (0, u "call"), (0, u "([Z)[Z"), (3, u "law"), (0, u "(JJJJII)Z")] 8

def k1m0 : Method := { name := "<init>", desc := "()V", sig := { parameters := [], returnType := none }, accessFlags := 1, code := none }
def k1c1 : Code := { maxStack := 4, maxLocals := 5, code := method_2_code, exceptionTable := #[], attributes := #[] }
def k1m1 : Method := { name := "expected", desc := "([JIZIZ)Z", sig := { parameters := [(.array .long), .int, .boolean, .int, .boolean], returnType := some .boolean }, accessFlags := 10, code := some k1c1 }
def k1c2 : Code := { maxStack := 7, maxLocals := 25, code := code, exceptionTable := #[], attributes := #[] }
def k1m2 : Method := { name := "law", desc := "(JJJJII)Z", sig := { parameters := [.long, .long, .long, .long, .int, .int], returnType := some .boolean }, accessFlags := 9, code := some k1c2 }
/-- com/example/controller_synthesis/controllersynthesis/output/FunctionBlockTimerOutputsPinLaw -/
def k1 : Class := { plain "com/example/controller_synthesis/controllersynthesis/output/FunctionBlockTimerOutputsPinLaw" (some 0) with
  accessFlags := 49
  interfaces := #[]
  cf := some (fileOf pool1 20 #[] #[{ accessFlags := 1, nameIndex := 5, descriptorIndex := 6, attributes := #[] }, { accessFlags := 10, nameIndex := 23, descriptorIndex := 24, attributes := #[] }, { accessFlags := 9, nameIndex := 32, descriptorIndex := 33, attributes := #[] }] 49 2 #[] #[])
  fields := #[]
  methods := #[k1m0, k1m1, k1m2]
  instanceTypes := #[]
  staticTypes := #[]
  resolved := Array.replicate 42 none
  statics := none }

def pool2 : Array CpInfo := pool [(8, .class_ 10), (1, u "java/lang/Iterable"), (24, .class_ 36), (0, u "java/lang/Object")] 25

/-- java/lang/Iterable -/
def k2 : Class := { plain "java/lang/Iterable" (some 0) with
  accessFlags := 1537
  interfaces := #[]
  cf := some (fileOf pool2 8 #[] #[] 1537 35 #[] #[])
  fields := #[]
  methods := #[]
  instanceTypes := #[]
  staticTypes := #[]
  resolved := Array.replicate 62 none
  statics := none }

def pool3 : Array CpInfo := pool [(10, .class_ 12), (1, u "java/util/Collection"), (47, .class_ 61), (0, u "java/lang/Object"), (0, .class_ 63), (0, u "java/lang/Iterable")] 51

/-- java/util/Collection -/
def k3 : Class := { plain "java/util/Collection" (some 0) with
  accessFlags := 1537
  interfaces := #[2]
  cf := some (fileOf pool3 10 #[] #[] 1537 60 #[62] #[])
  fields := #[]
  methods := #[]
  instanceTypes := #[]
  staticTypes := #[]
  resolved := Array.replicate 115 none
  statics := none }

def pool4 : Array CpInfo := pool [(1, .methodref 2 3), (0, .class_ 4), (0, .nameAndType 5 6), (0, u "java/lang/Object"), (0, u "<init>"), (0, u "()V"), (1, .class_ 10), (1, u "java/util/AbstractCollection"), (66, .class_ 78), (0, u "java/util/Collection")] 81

def k4c0 : Code := { maxStack := 1, maxLocals := 1, code := jdk_22_method_1_code, exceptionTable := #[], attributes := #[] }
def k4m0 : Method := { name := "<init>", desc := "()V", sig := { parameters := [], returnType := none }, accessFlags := 4, code := some k4c0 }
/-- java/util/AbstractCollection -/
def k4 : Class := { plain "java/util/AbstractCollection" (some 0) with
  accessFlags := 1057
  interfaces := #[3]
  cf := some (fileOf pool4 8 #[] #[{ accessFlags := 4, nameIndex := 5, descriptorIndex := 6, attributes := #[] }] 1057 2 #[77] #[])
  fields := #[]
  methods := #[k4m0]
  instanceTypes := #[]
  staticTypes := #[]
  resolved := Array.replicate 160 none
  statics := none }

def pool5 : Array CpInfo := pool [(8, .class_ 10), (1, u "java/util/SequencedCollection"), (15, .class_ 27), (0, u "java/lang/Object"), (0, .class_ 29), (0, u "java/util/Collection")] 27

/-- java/util/SequencedCollection -/
def k5 : Class := { plain "java/util/SequencedCollection" (some 0) with
  accessFlags := 1537
  interfaces := #[3]
  cf := some (fileOf pool5 8 #[] #[] 1537 26 #[28] #[])
  fields := #[]
  methods := #[]
  instanceTypes := #[]
  staticTypes := #[]
  resolved := Array.replicate 57 none
  statics := none }

def pool6 : Array CpInfo := pool [(8, .class_ 10), (1, u "java/util/List"), (92, .class_ 104), (0, u "java/lang/Object"), (15, .class_ 121), (0, u "java/util/SequencedCollection"), (1, u "iterator"), (0, u "()Ljava/util/Iterator;")] 126

def k6m0 : Method := { name := "iterator", desc := "()Ljava/util/Iterator;", sig := { parameters := [], returnType := some (.object "java/util/Iterator") }, accessFlags := 1025, code := none }
/-- java/util/List -/
def k6 : Class := { plain "java/util/List" (some 0) with
  accessFlags := 1537
  interfaces := #[5]
  cf := some (fileOf pool6 8 #[] #[{ accessFlags := 1025, nameIndex := 123, descriptorIndex := 124, attributes := #[] }] 1537 103 #[120] #[])
  fields := #[]
  methods := #[k6m0]
  instanceTypes := #[]
  staticTypes := #[]
  resolved := Array.replicate 251 none
  statics := none }

def pool7 : Array CpInfo := pool [(1, .methodref 2 3), (0, .class_ 4), (0, .nameAndType 5 6), (0, u "java/util/AbstractCollection"), (0, u "<init>"), (0, u "()V"), (0, .fieldref 8 9), (0, .class_ 10), (0, .nameAndType 11 12), (0, u "java/util/AbstractList"), (0, u "modCount"), (0, u "I"), (64, .class_ 78), (0, u "java/util/AbstractList$Itr"), (3, .class_ 83), (0, u "java/util/AbstractList$ListItr"), (9, .class_ 94), (0, u "java/util/AbstractList$RandomAccessSubList"), (3, .class_ 99), (0, u "java/util/AbstractList$SubList"), (33, .class_ 134), (0, u "java/util/List"), (73, .class_ 209), (0, u "java/util/AbstractList$SubList$1"), (0, .class_ 211), (0, u "java/util/AbstractList$RandomAccessSpliterator")] 6

def k7c0 : Code := { maxStack := 2, maxLocals := 1, code := jdk_39_method_1_code, exceptionTable := #[], attributes := #[] }
def k7m0 : Method := { name := "<init>", desc := "()V", sig := { parameters := [], returnType := none }, accessFlags := 4, code := some k7c0 }
/-- java/util/AbstractList -/
def k7 : Class := { plain "java/util/AbstractList" (some 4) with
  accessFlags := 1057
  interfaces := #[6]
  cf := some (fileOf pool7 8 #[.nestMembers #[93, 98, 208, 210, 82, 77]] #[{ accessFlags := 4, nameIndex := 5, descriptorIndex := 6, attributes := #[] }] 1057 2 #[133] #[{ accessFlags := 132, nameIndex := 11, descriptorIndex := 12, attributes := #[] }])
  fields := #[{ name := "modCount", type := .int, accessFlags := 132, slot := 0, constantValue := 0 }]
  methods := #[k7m0]
  instanceTypes := #[.int]
  staticTypes := #[]
  resolved := Array.replicate 218 none
  statics := none }

def pool8 : Array CpInfo := pool [(1, .class_ 2), (0, u "java/util/RandomAccess"), (0, .class_ 4), (0, u "java/lang/Object")] 2

/-- java/util/RandomAccess -/
def k8 : Class := { plain "java/util/RandomAccess" (some 0) with
  accessFlags := 1537
  interfaces := #[]
  cf := some (fileOf pool8 1 #[] #[] 1537 3 #[] #[])
  fields := #[]
  methods := #[]
  instanceTypes := #[]
  staticTypes := #[]
  resolved := Array.replicate 7 none
  statics := none }

def pool9 : Array CpInfo := pool [(1, .class_ 2), (0, u "java/lang/Cloneable"), (0, .class_ 4), (0, u "java/lang/Object")] 2

/-- java/lang/Cloneable -/
def k9 : Class := { plain "java/lang/Cloneable" (some 0) with
  accessFlags := 1537
  interfaces := #[]
  cf := some (fileOf pool9 1 #[] #[] 1537 3 #[] #[])
  fields := #[]
  methods := #[]
  instanceTypes := #[]
  staticTypes := #[]
  resolved := Array.replicate 7 none
  statics := none }

def pool10 : Array CpInfo := pool [(1, .class_ 2), (0, u "java/io/Serializable"), (0, .class_ 4), (0, u "java/lang/Object")] 2

/-- java/io/Serializable -/
def k10 : Class := { plain "java/io/Serializable" (some 0) with
  accessFlags := 1537
  interfaces := #[]
  cf := some (fileOf pool10 1 #[] #[] 1537 3 #[] #[])
  fields := #[]
  methods := #[]
  instanceTypes := #[]
  staticTypes := #[]
  resolved := Array.replicate 7 none
  statics := none }

def pool11 : Array CpInfo := pool [(1, .methodref 2 3), (0, .class_ 4), (0, .nameAndType 5 6), (0, u "java/util/AbstractList"), (0, u "<init>"), (0, u "()V"), (2, .fieldref 10 11), (0, .class_ 12), (0, .nameAndType 13 14), (0, u "java/util/ArrayList"), (0, u "elementData"), (0, u "[Ljava/lang/Object;"), (2, u "EMPTY_ELEMENTDATA"), (21, .fieldref 10 40), (0, .nameAndType 41 14), (0, u "DEFAULTCAPACITY_EMPTY_ELEMENTDATA"), (8, u "size"), (0, u "I"), (96, .class_ 149), (0, u "java/util/List"), (16, u "iterator"), (0, u "()Ljava/util/Iterator;"), (94, .class_ 263), (0, u "java/util/ArrayList$ListItr"), (3, .class_ 268), (0, u "java/util/ArrayList$Itr"), (0, .methodref 267 270), (0, .nameAndType 5 271), (0, u "(Ljava/util/ArrayList;)V"), (4, .class_ 277), (0, u "java/util/ArrayList$SubList"), (12, .class_ 291), (0, u "java/util/ArrayList$ArrayListSpliterator"), (37, .class_ 330), (0, u "java/util/RandomAccess"), (0, .class_ 332), (0, u "java/lang/Cloneable"), (0, .class_ 334), (0, u "java/io/Serializable"), (0, u "serialVersionUID"), (0, u "J"), (3, u "DEFAULT_CAPACITY"), (159, .class_ 501), (0, u "java/util/ArrayList$SubList$2"), (0, .class_ 503), (0, u "java/util/ArrayList$SubList$1")] 5

def k11c0 : Code := { maxStack := 2, maxLocals := 1, code := jdk_38_method_2_code, exceptionTable := #[], attributes := #[] }
def k11m0 : Method := { name := "<init>", desc := "()V", sig := { parameters := [], returnType := none }, accessFlags := 1, code := some k11c0 }
def k11c1 : Code := { maxStack := 3, maxLocals := 1, code := jdk_38_method_55_code, exceptionTable := #[], attributes := #[] }
def k11m1 : Method := { name := "iterator", desc := "()Ljava/util/Iterator;", sig := { parameters := [], returnType := some (.object "java/util/Iterator") }, accessFlags := 1, code := some k11c1 }
/-- java/util/ArrayList -/
def k11 : Class := { plain "java/util/ArrayList" (some 7) with
  accessFlags := 33
  interfaces := #[6, 8, 9, 10]
  cf := some (fileOf pool11 10 #[.nestMembers #[290, 276, 500, 502, 262, 267]] #[{ accessFlags := 1, nameIndex := 5, descriptorIndex := 6, attributes := #[] }, { accessFlags := 1, nameIndex := 166, descriptorIndex := 167, attributes := #[] }] 33 2 #[148, 329, 331, 333] #[{ accessFlags := 26, nameIndex := 335, descriptorIndex := 336, attributes := #[] }, { accessFlags := 26, nameIndex := 340, descriptorIndex := 51, attributes := #[] }, { accessFlags := 26, nameIndex := 17, descriptorIndex := 14, attributes := #[] }, { accessFlags := 26, nameIndex := 41, descriptorIndex := 14, attributes := #[] }, { accessFlags := 128, nameIndex := 13, descriptorIndex := 14, attributes := #[] }, { accessFlags := 2, nameIndex := 50, descriptorIndex := 51, attributes := #[] }])
  fields := #[{ name := "serialVersionUID", type := .long, accessFlags := 26, slot := 0, constantValue := 0 }, { name := "DEFAULT_CAPACITY", type := .int, accessFlags := 26, slot := 1, constantValue := 0 }, { name := "EMPTY_ELEMENTDATA", type := (.array (.object "java/lang/Object")), accessFlags := 26, slot := 2, constantValue := 0 }, { name := "DEFAULTCAPACITY_EMPTY_ELEMENTDATA", type := (.array (.object "java/lang/Object")), accessFlags := 26, slot := 3, constantValue := 0 }, { name := "elementData", type := (.array (.object "java/lang/Object")), accessFlags := 128, slot := 1, constantValue := 0 }, { name := "size", type := .int, accessFlags := 2, slot := 2, constantValue := 0 }]
  methods := #[k11m0, k11m1]
  instanceTypes := #[.int, (.array (.object "java/lang/Object")), .int]
  staticTypes := #[.long, .int, (.array (.object "java/lang/Object")), (.array (.object "java/lang/Object"))]
  resolved := Array.replicate 509 none
  statics := some 0 }

def pool12 : Array CpInfo := pool [(1, .methodref 2 3), (0, .class_ 4), (0, .nameAndType 5 6), (0, u "java/lang/Object"), (0, u "<init>"), (0, u "()V"), (0, .methodref 8 9), (0, .class_ 10), (0, .nameAndType 11 12), (0, u "[J"), (0, u "clone"), (0, u "()Ljava/lang/Object;"), (0, .fieldref 14 15), (0, .class_ 16), (0, .nameAndType 17 10), (0, u "com/example/controller_synthesis/controllersynthesis/output/FunctionBlock"), (0, u "values"), (0, .fieldref 14 19), (0, .nameAndType 20 21), (0, u "inputs"), (0, u "[I"), (0, .fieldref 14 23), (0, .nameAndType 24 21), (0, u "outputs"), (0, .fieldref 14 26), (0, .nameAndType 27 21), (0, u "timerOutputs"), (0, .fieldref 14 29), (0, .nameAndType 30 31), (0, u "body"), (0, u "Ljava/util/List;"), (9, .methodref 14 42), (0, .nameAndType 43 44), (0, u "execute"), (0, u "(Ljava/util/List;[J)V"), (0, .interfaceMethodref 46 47), (0, .class_ 48), (0, .nameAndType 49 50), (0, u "java/util/List"), (0, u "iterator"), (0, u "()Ljava/util/Iterator;"), (0, .interfaceMethodref 52 53), (0, .class_ 54), (0, .nameAndType 55 56), (0, u "java/util/Iterator"), (0, u "hasNext"), (0, u "()Z"), (3, .class_ 61), (0, u "com/example/controller_synthesis/controllersynthesis/output/FunctionBlock$Statement"), (5, u "([J[I[I[ILjava/util/List;)V"), (3, u "call"), (0, u "([Z)[Z"), (3, u "()[Z"), (4, .class_ 82), (0, u "com/example/controller_synthesis/controllersynthesis/output/FunctionBlock$Expression")] 17

def k12c0 : Code := { maxStack := 2, maxLocals := 6, code := prog_8_method_1_code, exceptionTable := #[], attributes := #[] }
def k12m0 : Method := { name := "<init>", desc := "([J[I[I[ILjava/util/List;)V", sig := { parameters := [(.array .long), (.array .int), (.array .int), (.array .int), (.object "java/util/List")], returnType := none }, accessFlags := 0, code := some k12c0 }
def k12c1 : Code := { maxStack := 6, maxLocals := 4, code := prog_8_method_2_code, exceptionTable := #[], attributes := #[] }
def k12m1 : Method := { name := "call", desc := "([Z)[Z", sig := { parameters := [(.array .boolean)], returnType := some (.array .boolean) }, accessFlags := 1, code := some k12c1 }
def k12c2 : Code := { maxStack := 6, maxLocals := 3, code := prog_8_method_3_code, exceptionTable := #[], attributes := #[] }
def k12m2 : Method := { name := "timerOutputs", desc := "()[Z", sig := { parameters := [], returnType := some (.array .boolean) }, accessFlags := 1, code := some k12c2 }
def k12c3 : Code := { maxStack := 2, maxLocals := 4, code := prog_8_method_4_code, exceptionTable := #[], attributes := #[] }
def k12m3 : Method := { name := "execute", desc := "(Ljava/util/List;[J)V", sig := { parameters := [(.object "java/util/List"), (.array .long)], returnType := none }, accessFlags := 8, code := some k12c3 }
/-- com/example/controller_synthesis/controllersynthesis/output/FunctionBlock -/
def k12 : Class := { plain "com/example/controller_synthesis/controllersynthesis/output/FunctionBlock" (some 0) with
  accessFlags := 49
  interfaces := #[]
  cf := some (fileOf pool12 14 #[.nestMembers #[81, 60]] #[{ accessFlags := 0, nameIndex := 5, descriptorIndex := 67, attributes := #[] }, { accessFlags := 1, nameIndex := 71, descriptorIndex := 72, attributes := #[] }, { accessFlags := 1, nameIndex := 27, descriptorIndex := 76, attributes := #[] }, { accessFlags := 8, nameIndex := 43, descriptorIndex := 44, attributes := #[] }] 49 2 #[] #[{ accessFlags := 18, nameIndex := 17, descriptorIndex := 10, attributes := #[] }, { accessFlags := 18, nameIndex := 20, descriptorIndex := 21, attributes := #[] }, { accessFlags := 18, nameIndex := 24, descriptorIndex := 21, attributes := #[] }, { accessFlags := 18, nameIndex := 27, descriptorIndex := 21, attributes := #[] }, { accessFlags := 18, nameIndex := 30, descriptorIndex := 31, attributes := #[] }])
  fields := #[{ name := "values", type := (.array .long), accessFlags := 18, slot := 0, constantValue := 0 }, { name := "inputs", type := (.array .int), accessFlags := 18, slot := 1, constantValue := 0 }, { name := "outputs", type := (.array .int), accessFlags := 18, slot := 2, constantValue := 0 }, { name := "timerOutputs", type := (.array .int), accessFlags := 18, slot := 3, constantValue := 0 }, { name := "body", type := (.object "java/util/List"), accessFlags := 18, slot := 4, constantValue := 0 }]
  methods := #[k12m0, k12m1, k12m2, k12m3]
  instanceTypes := #[(.array .long), (.array .int), (.array .int), (.array .int), (.object "java/util/List")]
  staticTypes := #[]
  resolved := Array.replicate 100 none
  statics := none }

def pool13 : Array CpInfo := pool [(16, .class_ 18), (1, u "java/util/Iterator"), (0, u "hasNext"), (0, u "()Z"), (10, .class_ 32), (0, u "java/lang/Object")] 20

def k13m0 : Method := { name := "hasNext", desc := "()Z", sig := { parameters := [], returnType := some .boolean }, accessFlags := 1025, code := none }
/-- java/util/Iterator -/
def k13 : Class := { plain "java/util/Iterator" (some 0) with
  accessFlags := 1537
  interfaces := #[]
  cf := some (fileOf pool13 16 #[] #[{ accessFlags := 1025, nameIndex := 19, descriptorIndex := 20, attributes := #[] }] 1537 31 #[] #[])
  fields := #[]
  methods := #[k13m0]
  instanceTypes := #[]
  staticTypes := #[]
  resolved := Array.replicate 53 none
  statics := none }

def pool14 : Array CpInfo := pool [(1, .fieldref 2 3), (0, .class_ 4), (0, .nameAndType 5 6), (0, u "java/util/ArrayList$Itr"), (0, u "this$0"), (0, u "Ljava/util/ArrayList;"), (0, .methodref 8 9), (0, .class_ 10), (0, .nameAndType 11 12), (0, u "java/lang/Object"), (0, u "<init>"), (0, u "()V"), (0, .fieldref 2 14), (0, .nameAndType 15 16), (0, u "lastRet"), (0, u "I"), (0, .fieldref 18 19), (0, .class_ 20), (0, .nameAndType 21 16), (0, u "java/util/ArrayList"), (0, u "modCount"), (0, .fieldref 2 23), (0, .nameAndType 24 16), (0, u "expectedModCount"), (0, .fieldref 2 26), (0, .nameAndType 27 16), (0, u "cursor"), (0, .fieldref 18 29), (0, .nameAndType 30 16), (0, u "size"), (38, .class_ 70), (0, u "java/util/Iterator"), (0, u "(Ljava/util/ArrayList;)V"), (8, u "hasNext"), (0, u "()Z")] 22

def k14c0 : Code := { maxStack := 2, maxLocals := 2, code := jdk_49_method_1_code, exceptionTable := #[], attributes := #[] }
def k14m0 : Method := { name := "<init>", desc := "(Ljava/util/ArrayList;)V", sig := { parameters := [(.object "java/util/ArrayList")], returnType := none }, accessFlags := 0, code := some k14c0 }
def k14c1 : Code := { maxStack := 2, maxLocals := 1, code := jdk_49_method_2_code, exceptionTable := #[], attributes := #[] }
def k14m1 : Method := { name := "hasNext", desc := "()Z", sig := { parameters := [], returnType := some .boolean }, accessFlags := 1, code := some k14c1 }
/-- java/util/ArrayList$Itr -/
def k14 : Class := { plain "java/util/ArrayList$Itr" (some 0) with
  accessFlags := 32
  interfaces := #[13]
  cf := some (fileOf pool14 2 #[.nestHost 18] #[{ accessFlags := 0, nameIndex := 11, descriptorIndex := 71, attributes := #[] }, { accessFlags := 1, nameIndex := 80, descriptorIndex := 81, attributes := #[] }] 32 8 #[69] #[{ accessFlags := 0, nameIndex := 27, descriptorIndex := 16, attributes := #[] }, { accessFlags := 0, nameIndex := 15, descriptorIndex := 16, attributes := #[] }, { accessFlags := 0, nameIndex := 24, descriptorIndex := 16, attributes := #[] }, { accessFlags := 4112, nameIndex := 5, descriptorIndex := 6, attributes := #[] }])
  fields := #[{ name := "cursor", type := .int, accessFlags := 0, slot := 0, constantValue := 0 }, { name := "lastRet", type := .int, accessFlags := 0, slot := 1, constantValue := 0 }, { name := "expectedModCount", type := .int, accessFlags := 0, slot := 2, constantValue := 0 }, { name := "this$0", type := (.object "java/util/ArrayList"), accessFlags := 4112, slot := 3, constantValue := 0 }]
  methods := #[k14m0, k14m1]
  instanceTypes := #[.int, .int, .int, (.object "java/util/ArrayList")]
  staticTypes := #[]
  resolved := Array.replicate 104 none
  statics := none }

/-- the primitive boolean -/
def k15 : Class := { plain "boolean" none with kind := .primitive 'Z', accessFlags := 0x411 }
/-- [Z -/
def k16 : Class := { plain "[Z" (some 0) with kind := .array 15 .boolean, interfaces := #[9, 10], accessFlags := 1041 }

/-- the primitive byte -/
def k17 : Class := { plain "byte" none with kind := .primitive 'B', accessFlags := 0x411 }
/-- [B -/
def k18 : Class := { plain "[B" (some 0) with kind := .array 17 .byte, interfaces := #[9, 10], accessFlags := 1041 }

/-- the primitive int -/
def k19 : Class := { plain "int" none with kind := .primitive 'I', accessFlags := 0x411 }
/-- [I -/
def k20 : Class := { plain "[I" (some 0) with kind := .array 19 .int, interfaces := #[9, 10], accessFlags := 1041 }

/-- the primitive long -/
def k21 : Class := { plain "long" none with kind := .primitive 'J', accessFlags := 0x411 }
/-- [J -/
def k22 : Class := { plain "[J" (some 0) with kind := .array 21 .long, interfaces := #[9, 10], accessFlags := 1041 }

/-- [Ljava/lang/Object; -/
def k23 : Class := { plain "[Ljava/lang/Object;" (some 0) with kind := .array 0 (.object "java/lang/Object"), interfaces := #[9, 10], accessFlags := 1041 }

def heap : Heap := #[{ cls := 11, slots := #[.long 0, .int 0, .ref 1, .ref 2], vm := .statics 11 },
  { cls := 23, slots := #[], vm := .none },
  { cls := 23, slots := #[], vm := .none }]
def classes : Array Class := #[k0, k1, k2, k3, k4, k5, k6, k7, k8, k9, k10, k11, k12, k13, k14, k15, k16, k17, k18, k19, k20, k21, k22, k23]
def interned : List (Array UInt16 × Addr) := []
def slotsUsed : Nat := 4
def theMethod : MethodId := ⟨1, 2⟩
def args0 : Array Value := #[.long 5, .long 0, .long 7, .long 0, .int 27, .int 1]
def aboutOver (below : List Frame) : State where
  vm := { classes := classes, interned := interned.toArray }
  heap := heap
  slotsUsed := slotsUsed
  threads := #[{ frames := .invoking theMethod args0 :: below }]
def below0 : List Frame := [.native { method := ⟨0, 0⟩, args := #[] }]
def about1 : State := aboutOver below0
def p0 : Program := .bare "" "" ""
def e0 : Env := launch0.env 0 0 0
theorem w_frames : about1.frames = Frame.invoking theMethod args0 :: below0 := rfl
set_option maxRecDepth 65536 in
theorem w_args : argsFit about1.vm theMethod args0 = true := by decide +kernel
set_option maxRecDepth 65536 in
theorem w_heap : heapFits about1 = true := by decide +kernel
set_option maxRecDepth 65536 in
theorem w_runnable : about1.curStatus? = some .runnable := by decide +kernel
set_option maxRecDepth 65536 in
theorem w_alone : about1.alone = true := by decide +kernel
set_option maxRecDepth 65536 in
theorem w_named : about1.methodNamed? x = some theMethod := by decide +kernel
set_option maxRecDepth 65536 in
theorem w_hears : about1.hears theMethod below0 = true := by decide +kernel
set_option maxRecDepth 65536 in
theorem w_ripe : about1.ripe theMethod args0 below0 = true := by decide +kernel
theorem w_running : about1.status = .running := rfl
set_option maxRecDepth 65536 in
theorem w_room : about1.hasRoom e0.platform room_1 = true :=
  launch0.hasRoom_least _ room_1 (by decide +kernel) (by decide +kernel) (by decide +kernel) (by decide +kernel) (by decide +kernel) (by decide +kernel)
theorem allAtoms_all (ts : List Jvm.Cond) (a : Array Jvm.Value) (st : Jvm.State) : (allAtoms ts).before a st = ts.all (fun c => c.before a st) := by
  induction ts with
  | nil => rfl
  | cons c t ih =>
    show (Jvm.Cond.and c (allAtoms t)).before a st = _
    rw [Jvm.Cond.before_and, ih, List.all_cons]
def words1 : List Jvm.Cond := Jvm.Cond.code x code maxLocals ret :: tables_1
/-- a 'code' word, met by the world's own term for the bytes: nothing is compared byte by byte -/
theorem code_word {y : MethodName} {bytes : ByteArray} {mx : Nat} {rt : Option FieldType} {a : Array Value} {s : State} {m : MethodId} {meth : Method} {c : Code} (h1 : s.methodNamed? y = some m) (h2 : s.vm.method? m = some meth) (h3 : meth.code = some c) (h4 : c.code = bytes)
    (h5 : (c.maxLocals == mx && c.exceptionTable.isEmpty && decide (c.maxStack ≤ mostOperands) && decide (meth.sig.returnType = rt) && !meth.locks && decide (parseMethodDescriptor y.desc = some meth.sig)) = true) : (Jvm.Cond.code y bytes mx rt).before a s = true := by
  simp only [Bool.and_eq_true, beq_iff_eq, Bool.not_eq_true', decide_eq_true_eq] at h5
  obtain ⟨⟨⟨⟨⟨g1, g2⟩, g3⟩, g4⟩, g5⟩, g6⟩ := h5
  simp [Cond.before, Cond.holds, Cond.value, h1, h2, h3, h4, g1, g2, g3, g4, g5, g6]
def isCode : Jvm.Cond → Bool
  | .code _ _ _ _ => true
  | _ => false
theorem all_split {L : List Jvm.Cond} {P : Jvm.Cond → Bool} (h1 : L.all (fun c => isCode c || P c) = true) (h2 : ∀ c ∈ L.filter isCode, P c = true) : L.all P = true := by
  refine List.all_eq_true.mpr fun c hc => ?_
  have h := List.all_eq_true.mp h1 c hc
  rcases Bool.eq_false_or_eq_true (isCode c) with hi | hi
  · exact h2 c (List.mem_filter.mpr ⟨hc, hi⟩)
  · simpa [hi] using h
set_option maxRecDepth 65536 in
theorem w_c0 : (Jvm.Cond.code x code maxLocals ret).before args0 about1 = true := code_word (m := ⟨1, 2⟩) (meth := k1m2) (c := k1c2) (by decide +kernel) rfl rfl rfl (by decide +kernel)
set_option maxRecDepth 65536 in
theorem w_c1 : (Jvm.Cond.code ({ cls := "java/util/ArrayList", name := "<init>", desc := "()V" } : Jvm.MethodName) jdk_38_method_2_code (1 : Nat) (Option.none : Option Jvm.ClassFile.FieldType)).before args0 about1 = true := code_word (m := ⟨11, 0⟩) (meth := k11m0) (c := k11c0) (by decide +kernel) rfl rfl rfl (by decide +kernel)
set_option maxRecDepth 65536 in
theorem w_c2 : (Jvm.Cond.code ({ cls := "java/util/AbstractList", name := "<init>", desc := "()V" } : Jvm.MethodName) jdk_39_method_1_code (1 : Nat) (Option.none : Option Jvm.ClassFile.FieldType)).before args0 about1 = true := code_word (m := ⟨7, 0⟩) (meth := k7m0) (c := k7c0) (by decide +kernel) rfl rfl rfl (by decide +kernel)
set_option maxRecDepth 65536 in
theorem w_c3 : (Jvm.Cond.code ({ cls := "java/util/AbstractCollection", name := "<init>", desc := "()V" } : Jvm.MethodName) jdk_22_method_1_code (1 : Nat) (Option.none : Option Jvm.ClassFile.FieldType)).before args0 about1 = true := code_word (m := ⟨4, 0⟩) (meth := k4m0) (c := k4c0) (by decide +kernel) rfl rfl rfl (by decide +kernel)
set_option maxRecDepth 65536 in
theorem w_c4 : (Jvm.Cond.code ({ cls := "java/lang/Object", name := "<init>", desc := "()V" } : Jvm.MethodName) object_method_1_code (1 : Nat) (Option.none : Option Jvm.ClassFile.FieldType)).before args0 about1 = true := code_word (m := ⟨0, 0⟩) (meth := k0m0) (c := k0c0) (by decide +kernel) rfl rfl rfl (by decide +kernel)
set_option maxRecDepth 65536 in
theorem w_c5 : (Jvm.Cond.code ({ cls := "com/example/controller_synthesis/controllersynthesis/output/FunctionBlock", name := "<init>", desc := "([J[I[I[ILjava/util/List;)V" } : Jvm.MethodName) prog_8_method_1_code (6 : Nat) (Option.none : Option Jvm.ClassFile.FieldType)).before args0 about1 = true := code_word (m := ⟨12, 0⟩) (meth := k12m0) (c := k12c0) (by decide +kernel) rfl rfl rfl (by decide +kernel)
set_option maxRecDepth 65536 in
theorem w_c6 : (Jvm.Cond.code ({ cls := "com/example/controller_synthesis/controllersynthesis/output/FunctionBlock", name := "timerOutputs", desc := "()[Z" } : Jvm.MethodName) prog_8_method_3_code (3 : Nat) (Option.some (Jvm.ClassFile.FieldType.array Jvm.ClassFile.FieldType.boolean))).before args0 about1 = true := code_word (m := ⟨12, 2⟩) (meth := k12m2) (c := k12c2) (by decide +kernel) rfl rfl rfl (by decide +kernel)
set_option maxRecDepth 65536 in
theorem w_c7 : (Jvm.Cond.code ({ cls := "com/example/controller_synthesis/controllersynthesis/output/FunctionBlockTimerOutputsPinLaw", name := "expected", desc := "([JIZIZ)Z" } : Jvm.MethodName) method_2_code (5 : Nat) (Option.some Jvm.ClassFile.FieldType.boolean)).before args0 about1 = true := code_word (m := ⟨1, 1⟩) (meth := k1m1) (c := k1c1) (by decide +kernel) rfl rfl rfl (by decide +kernel)
set_option maxRecDepth 65536 in
theorem w_c8 : (Jvm.Cond.code ({ cls := "com/example/controller_synthesis/controllersynthesis/output/FunctionBlock", name := "call", desc := "([Z)[Z" } : Jvm.MethodName) prog_8_method_2_code (4 : Nat) (Option.some (Jvm.ClassFile.FieldType.array Jvm.ClassFile.FieldType.boolean))).before args0 about1 = true := code_word (m := ⟨12, 1⟩) (meth := k12m1) (c := k12c1) (by decide +kernel) rfl rfl rfl (by decide +kernel)
set_option maxRecDepth 65536 in
theorem w_c9 : (Jvm.Cond.code ({ cls := "com/example/controller_synthesis/controllersynthesis/output/FunctionBlock", name := "execute", desc := "(Ljava/util/List;[J)V" } : Jvm.MethodName) prog_8_method_4_code (4 : Nat) (Option.none : Option Jvm.ClassFile.FieldType)).before args0 about1 = true := code_word (m := ⟨12, 3⟩) (meth := k12m3) (c := k12c3) (by decide +kernel) rfl rfl rfl (by decide +kernel)
set_option maxRecDepth 65536 in
theorem w_c10 : (Jvm.Cond.code ({ cls := "java/util/ArrayList", name := "iterator", desc := "()Ljava/util/Iterator;" } : Jvm.MethodName) jdk_38_method_55_code (1 : Nat) (Option.some (Jvm.ClassFile.FieldType.object "java/util/Iterator"))).before args0 about1 = true := code_word (m := ⟨11, 1⟩) (meth := k11m1) (c := k11c1) (by decide +kernel) rfl rfl rfl (by decide +kernel)
set_option maxRecDepth 65536 in
theorem w_c11 : (Jvm.Cond.code ({ cls := "java/util/ArrayList$Itr", name := "<init>", desc := "(Ljava/util/ArrayList;)V" } : Jvm.MethodName) jdk_49_method_1_code (2 : Nat) (Option.none : Option Jvm.ClassFile.FieldType)).before args0 about1 = true := code_word (m := ⟨14, 0⟩) (meth := k14m0) (c := k14c0) (by decide +kernel) rfl rfl rfl (by decide +kernel)
set_option maxRecDepth 65536 in
theorem w_c12 : (Jvm.Cond.code ({ cls := "java/util/ArrayList$Itr", name := "hasNext", desc := "()Z" } : Jvm.MethodName) jdk_49_method_2_code (1 : Nat) (Option.some Jvm.ClassFile.FieldType.boolean)).before args0 about1 = true := code_word (m := ⟨14, 1⟩) (meth := k14m1) (c := k14c1) (by decide +kernel) rfl rfl rfl (by decide +kernel)
def codes1 : List Jvm.Cond := [Jvm.Cond.code x code maxLocals ret, Jvm.Cond.code ({ cls := "java/util/ArrayList", name := "<init>", desc := "()V" } : Jvm.MethodName) jdk_38_method_2_code (1 : Nat) (Option.none : Option Jvm.ClassFile.FieldType), Jvm.Cond.code ({ cls := "java/util/AbstractList", name := "<init>", desc := "()V" } : Jvm.MethodName) jdk_39_method_1_code (1 : Nat) (Option.none : Option Jvm.ClassFile.FieldType), Jvm.Cond.code ({ cls := "java/util/AbstractCollection", name := "<init>", desc := "()V" } : Jvm.MethodName) jdk_22_method_1_code (1 : Nat) (Option.none : Option Jvm.ClassFile.FieldType), Jvm.Cond.code ({ cls := "java/lang/Object", name := "<init>", desc := "()V" } : Jvm.MethodName) object_method_1_code (1 : Nat) (Option.none : Option Jvm.ClassFile.FieldType), Jvm.Cond.code ({ cls := "com/example/controller_synthesis/controllersynthesis/output/FunctionBlock", name := "<init>", desc := "([J[I[I[ILjava/util/List;)V" } : Jvm.MethodName) prog_8_method_1_code (6 : Nat) (Option.none : Option Jvm.ClassFile.FieldType), Jvm.Cond.code ({ cls := "com/example/controller_synthesis/controllersynthesis/output/FunctionBlock", name := "timerOutputs", desc := "()[Z" } : Jvm.MethodName) prog_8_method_3_code (3 : Nat) (Option.some (Jvm.ClassFile.FieldType.array Jvm.ClassFile.FieldType.boolean)), Jvm.Cond.code ({ cls := "com/example/controller_synthesis/controllersynthesis/output/FunctionBlockTimerOutputsPinLaw", name := "expected", desc := "([JIZIZ)Z" } : Jvm.MethodName) method_2_code (5 : Nat) (Option.some Jvm.ClassFile.FieldType.boolean), Jvm.Cond.code ({ cls := "com/example/controller_synthesis/controllersynthesis/output/FunctionBlock", name := "call", desc := "([Z)[Z" } : Jvm.MethodName) prog_8_method_2_code (4 : Nat) (Option.some (Jvm.ClassFile.FieldType.array Jvm.ClassFile.FieldType.boolean)), Jvm.Cond.code ({ cls := "com/example/controller_synthesis/controllersynthesis/output/FunctionBlock", name := "execute", desc := "(Ljava/util/List;[J)V" } : Jvm.MethodName) prog_8_method_4_code (4 : Nat) (Option.none : Option Jvm.ClassFile.FieldType), Jvm.Cond.code ({ cls := "java/util/ArrayList", name := "iterator", desc := "()Ljava/util/Iterator;" } : Jvm.MethodName) jdk_38_method_55_code (1 : Nat) (Option.some (Jvm.ClassFile.FieldType.object "java/util/Iterator")), Jvm.Cond.code ({ cls := "java/util/ArrayList$Itr", name := "<init>", desc := "(Ljava/util/ArrayList;)V" } : Jvm.MethodName) jdk_49_method_1_code (2 : Nat) (Option.none : Option Jvm.ClassFile.FieldType), Jvm.Cond.code ({ cls := "java/util/ArrayList$Itr", name := "hasNext", desc := "()Z" } : Jvm.MethodName) jdk_49_method_2_code (1 : Nat) (Option.some Jvm.ClassFile.FieldType.boolean)]
set_option maxRecDepth 65536 in
theorem codes_eq : words1.filter isCode = codes1 := rfl
theorem w_codes : ∀ c ∈ words1.filter isCode, c.before args0 about1 = true := by
  rw [codes_eq]
  intro c hc
  simp only [codes1, List.mem_cons, List.not_mem_nil, or_false] at hc
  rcases hc with rfl | rfl | rfl | rfl | rfl | rfl | rfl | rfl | rfl | rfl | rfl | rfl | rfl
  · exact w_c0
  · exact w_c1
  · exact w_c2
  · exact w_c3
  · exact w_c4
  · exact w_c5
  · exact w_c6
  · exact w_c7
  · exact w_c8
  · exact w_c9
  · exact w_c10
  · exact w_c11
  · exact w_c12
set_option maxRecDepth 65536 in
theorem w_t1 : (words1.take 24).all (fun c => isCode c || c.before args0 about1) = true := by decide +kernel
set_option maxRecDepth 65536 in
theorem w_t2 : ((words1.drop 24).take 24).all (fun c => isCode c || c.before args0 about1) = true := by decide +kernel
set_option maxRecDepth 65536 in
theorem w_t3 : (((words1.drop 24).drop 24).take 24).all (fun c => isCode c || c.before args0 about1) = true := by decide +kernel
set_option maxRecDepth 65536 in
theorem w_t4 : ((((words1.drop 24).drop 24).drop 24).take 24).all (fun c => isCode c || c.before args0 about1) = true := by decide +kernel
set_option maxRecDepth 65536 in
theorem w_t5 : ((((words1.drop 24).drop 24).drop 24).drop 24).all (fun c => isCode c || c.before args0 about1) = true := by decide +kernel
theorem w_tables : (allAtoms (Jvm.Cond.code x code maxLocals ret :: tables_1)).before args0 about1 = true := by
  rw [allAtoms_all]
  show words1.all (fun c => c.before args0 about1) = true
  refine all_split ?_ w_codes
  rw [← List.take_append_drop 24 words1, List.all_append, w_t1, ← List.take_append_drop 24 (words1.drop 24), List.all_append, w_t2, ← List.take_append_drop 24 ((words1.drop 24).drop 24), List.all_append, w_t3, ← List.take_append_drop 24 (((words1.drop 24).drop 24).drop 24), List.all_append, w_t4, w_t5]
  rfl
set_option maxRecDepth 65536 in
theorem w_rest : rest_1_c.before args0 about1 = true := by decide +kernel
set_option maxRecDepth 65536 in
theorem w_case : (Jvm.Cond.and given_1 narrow_1).before args0 about1 = true := by decide +kernel
theorem w_applies : (headSpec (Jvm.Cond.code x code maxLocals ret :: tables_1) room_1).applies x e0.platform about1 = true :=
  (Spec.applies_iff w_frames).mpr ⟨w_running, w_runnable, w_alone, w_named, w_hears, w_ripe, w_room, w_tables⟩
theorem atStart : AtStart classFile x code maxLocals ret World_1 tables_1 room_1 Calls_1 rest_1 Pre_1 launch0 p0 e0 about1 theMethod args0 below0 :=
  ⟨lists_1, trivial, launch0.admits_env _ _ _, launch0.least_env, fairChoices_fair.cas, fairChoices_fair.clock, w_frames, w_args, w_heap, w_applies, trivial, w_rest, w_case⟩
end start1
theorem witness_1 : WitnessClaimed_1 := ⟨start1.p0, start1.e0, start1.about1, start1.theMethod, start1.args0, start1.below0, start1.atStart⟩
end Jvm.Pilot.@@N@@
