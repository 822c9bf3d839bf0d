import JvmDerived
import JvmDerived.Pilot.@@N@@Statement
import JvmDerived.Pilot.@@N@@Code
set_option linter.unusedVariables false
set_option linter.unusedSimpArgs false

namespace Jvm.Pilot.@@N@@
open Jvm Jvm.ClassFile Sem Op Lib Jvm.Free Jvm.Stand Jvm.LawKit Jvm.RoadKit Bundle Jvm.Pilot.@@N@@.Jvm.D
abbrev own_Gd (tb : Tables) (e : Env) (below : List Frame) (P : State → Outcome → Prop) (A : State) : Prop := ∃ U o, Steps tb e below A U ∧ U.status = .running ∧ Ended U below o ∧ P U o
theorem own_go {tb : Tables} {e : Env} {below : List Frame} {P : State → Outcome → Prop} {A B : State} (st : ∀ t, Steps tb e below B t → Steps tb e below A t) (h : own_Gd tb e below P B) : own_Gd tb e below P A := by
  obtain ⟨U, o, h1, h2⟩ := h
  exact ⟨U, o, st _ h1, h2⟩
theorem own_done {tb : Tables} {e : Env} {below : List Frame} {P : State → Outcome → Prop} {A U : State} {o : Outcome} (st : Steps tb e below A U) (h1 : U.status = .running) (h2 : Ended U below o) (h3 : P U o) : own_Gd tb e below P A := ⟨U, o, st, h1, h2, h3⟩
abbrev own_P (Q : Option Value → Heap → List Loc → Prop) (s : State) (cells slots : Nat) : State → Outcome → Prop := fun U' o => ∃ v L, o = .returned v ∧ Q v U'.heap L ∧ FrameEnd s o U' L cells slots
abbrev own_PW (Q : Option Value → Heap → List Loc → Prop) (s : State) (cells slots : Nat) : State → Outcome → Prop := fun U' o => ∃ v L, o = .returned v ∧ Q v U'.heap L ∧ ReturnedEndW s o U' L cells slots
theorem own_len {args : Array Value} {Z : State} {t : Term} {a : Addr} {c : Cell} {n : Int32} (ev : t.eval args Z none [] Z = some (.ref a)) (ha : Z.arrayAt? a = some c) (h : (Term.length t).eval args Z none [] Z = some (.int n)) : c.slots.size < 2 ^ 31 ∧ c.slots.size.toInt32 = n := by
  by_cases q : c.slots.size < 2 ^ 31
  · rw [len_f ev ha q] at h
    cases h
    exact ⟨q, rfl⟩
  · exfalso
    simp [Term.eval, ev, ha] at h
    omega
theorem own_ord {args : Array Value} {Z : State} {t : Term} {C n d : String} {a : Addr} {k : Int32} (ht : t.eval args Z none [] Z = some (.ref a)) (h : (Jvm.Cond.eq (Term.field t C n d) (Term.int k)).value args Z none Z [] = some true) : Fld Z Z.heap a C n d (.int k) := Fld.start ((fld_at ht).symm.trans (eqv_i rfl h))

theorem pn_0 : plainName "com/example/vareso/vareso/vault/ContentNodeIsChildNamePinLaw" = true := by first | (simp [plainName, overriddenIn]; done) | decide +kernel
theorem pn_1 : plainName "java/lang/String" = true := by first | (simp [plainName, overriddenIn]; done) | decide +kernel
theorem pn_2 : plainName "java/lang/String" = true := by first | (simp [plainName, overriddenIn]; done) | decide +kernel
theorem pn_4 : plainName "com/example/vareso/vareso/vault/ContentNode" = true := by first | (simp [plainName, overriddenIn]; done) | decide +kernel
theorem pn_5 : plainName "java/lang/String" = true := by first | (simp [plainName, overriddenIn]; done) | decide +kernel
theorem pn_6 : plainName "java/lang/StringLatin1" = true := by first | (simp [plainName, overriddenIn]; done) | decide +kernel
theorem pn_7 : plainName "java/lang/String" = true := by first | (simp [plainName, overriddenIn]; done) | decide +kernel
theorem pn_8 : plainName "java/lang/String" = true := by first | (simp [plainName, overriddenIn]; done) | decide +kernel
theorem pn_9 : plainName "java/lang/String" = true := by first | (simp [plainName, overriddenIn]; done) | decide +kernel
theorem pn_10 : plainName "java/lang/String" = true := by first | (simp [plainName, overriddenIn]; done) | decide +kernel
theorem pn_11 : plainName "java/lang/String" = true := by first | (simp [plainName, overriddenIn]; done) | decide +kernel
theorem pn_12 : plainName "java/lang/StringLatin1" = true := by first | (simp [plainName, overriddenIn]; done) | decide +kernel
theorem pn_13 : plainName "java/lang/StringLatin1" = true := by first | (simp [plainName, overriddenIn]; done) | decide +kernel
theorem pn_16 : plainName "java/lang/StringUTF16" = true := by first | (simp [plainName, overriddenIn]; done) | decide +kernel
theorem pn_17 : plainName "java/lang/StringUTF16" = true := by first | (simp [plainName, overriddenIn]; done) | decide +kernel
theorem pn_18 : plainName "java/lang/StringUTF16" = true := by first | (simp [plainName, overriddenIn]; done) | decide +kernel
theorem pn_19 : plainName "java/lang/StringLatin1" = true := by first | (simp [plainName, overriddenIn]; done) | decide +kernel
theorem pn_20 : plainName "java/lang/StringUTF16" = true := by first | (simp [plainName, overriddenIn]; done) | decide +kernel
theorem pn_21 : plainName "java/lang/StringUTF16" = true := by first | (simp [plainName, overriddenIn]; done) | decide +kernel
theorem pn_22 : plainName "java/lang/StringUTF16" = true := by first | (simp [plainName, overriddenIn]; done) | decide +kernel
theorem pn_23 : plainName "java/lang/StringUTF16" = true := by first | (simp [plainName, overriddenIn]; done) | decide +kernel
theorem pn_24 : plainName "java/lang/StringUTF16" = true := by first | (simp [plainName, overriddenIn]; done) | decide +kernel
theorem pn_25 : plainName "java/lang/StringUTF16" = true := by first | (simp [plainName, overriddenIn]; done) | decide +kernel
theorem pn_26 : plainName "java/lang/StringUTF16" = true := by first | (simp [plainName, overriddenIn]; done) | decide +kernel
theorem pn_27 : plainName "java/lang/StringUTF16" = true := by first | (simp [plainName, overriddenIn]; done) | decide +kernel
theorem pn_28 : plainName "java/lang/StringUTF16" = true := by first | (simp [plainName, overriddenIn]; done) | decide +kernel
theorem pn_29 : plainName "java/lang/String" = true := by first | (simp [plainName, overriddenIn]; done) | decide +kernel
theorem pn_30 : plainName "jdk/internal/util/Preconditions" = true := by first | (simp [plainName, overriddenIn]; done) | decide +kernel
theorem pn_31 : plainName "java/lang/StringUTF16" = true := by first | (simp [plainName, overriddenIn]; done) | decide +kernel
theorem pd_0 : parseMethodDescriptor "(IIILjava/util/function/BiFunction;)I" = some ⟨[.int, .int, .int, (.object "java/util/function/BiFunction")], some .int⟩ := by decide +kernel
theorem pd_1 : parseMethodDescriptor "([B)I" = some ⟨[(.array .byte)], some .int⟩ := by decide +kernel
theorem pd_2 : parseMethodDescriptor "(III)V" = some ⟨[.int, .int, .int], none⟩ := by decide +kernel
theorem pd_3 : parseMethodDescriptor "(I)I" = some ⟨[.int], some .int⟩ := by decide +kernel
theorem pd_4 : parseMethodDescriptor "(I)[B" = some ⟨[.int], some (.array .byte)⟩ := by decide +kernel
theorem pd_5 : parseMethodDescriptor "([BII)V" = some ⟨[(.array .byte), .int, .int], none⟩ := by decide +kernel
theorem pd_6 : parseMethodDescriptor "([CI[BII)I" = some ⟨[(.array .char), .int, (.array .byte), .int, .int], some .int⟩ := by decide +kernel
theorem pd_7 : parseMethodDescriptor "([CII)[B" = some ⟨[(.array .char), .int, .int], some (.array .byte)⟩ := by decide +kernel
theorem pd_8 : parseMethodDescriptor "([BI)C" = some ⟨[(.array .byte), .int], some .char⟩ := by decide +kernel
theorem pd_9 : parseMethodDescriptor "([BI)B" = some ⟨[(.array .byte), .int], some .byte⟩ := by decide +kernel
theorem pd_10 : parseMethodDescriptor "([CIILjava/lang/Void;)V" = some ⟨[(.array .char), .int, .int, (.object "java/lang/Void")], none⟩ := by decide +kernel
theorem pd_11 : parseMethodDescriptor "()B" = some ⟨[], some .byte⟩ := by decide +kernel
theorem pd_12 : parseMethodDescriptor "(I)Z" = some ⟨[.int], some .boolean⟩ := by decide +kernel
theorem pd_13 : parseMethodDescriptor "(II)I" = some ⟨[.int, .int], some .int⟩ := by decide +kernel
theorem pd_14 : parseMethodDescriptor "([BIII)I" = some ⟨[(.array .byte), .int, .int, .int], some .int⟩ := by decide +kernel
theorem pd_15 : parseMethodDescriptor "(II[B)V" = some ⟨[.int, .int, (.array .byte)], none⟩ := by decide +kernel
theorem pd_16 : parseMethodDescriptor "()Z" = some ⟨[], some .boolean⟩ := by decide +kernel
theorem pd_17 : parseMethodDescriptor "()I" = some ⟨[], some .int⟩ := by decide +kernel
theorem pd_18 : parseMethodDescriptor "([B[B)Z" = some ⟨[(.array .byte), (.array .byte)], some .boolean⟩ := by decide +kernel
theorem pd_19 : parseMethodDescriptor "(Ljava/lang/Object;)Z" = some ⟨[(.object "java/lang/Object")], some .boolean⟩ := by decide +kernel
theorem pd_20 : parseMethodDescriptor "([C)V" = some ⟨[(.array .char)], none⟩ := by decide +kernel
theorem pd_21 : parseMethodDescriptor "(Ljava/lang/String;)Z" = some ⟨[(.object "java/lang/String")], some .boolean⟩ := by decide +kernel
theorem own_strs {Z : State} {a0 : Array Value} (hw : ∀ d ∈ tables_1, d.before a0 Z = true) : ∀ a ∈ Bundle.stringAtoms, a.before a0 Z = true := by
  intro a ha
  simp only [Bundle.stringAtoms, List.mem_cons, List.not_mem_nil, or_false] at ha
  rcases ha with rfl | rfl | rfl | rfl | rfl | rfl | rfl
  · exact (hw _ (List.mem_of_getElem? (i := 4) rfl))
  · exact (hw _ (List.mem_of_getElem? (i := 3) rfl))
  · exact (hw _ (List.mem_of_getElem? (i := 16) rfl))
  · exact (hw _ (List.mem_of_getElem? (i := 17) rfl))
  · exact (hw _ (List.mem_of_getElem? (i := 18) rfl))
  · exact (hw _ (List.mem_of_getElem? (i := 19) rfl))
  · exact (hw _ (List.mem_of_getElem? (i := 20) rfl))
def own_w (u : UInt16) : Int32 := u.toUInt32.toInt32
def own_b (u : UInt16) : Int32 := nar .byte ((own_w u).toInt8.toInt32)
def own_lo (u : UInt16) : Int32 := nar .byte ((own_w u >>> ((0 : Int32) &&& 31)).toInt8.toInt32)
def own_hi (u : UInt16) : Int32 := nar .byte ((own_w u >>> ((8 : Int32) &&& 31)).toInt8.toInt32)
theorem own_wI (u : UInt16) : (own_w u).toInt = u.toNat := by
  have := u.toNat_lt
  show ((u.toBitVec.setWidth 32).toInt) = _
  rw [BitVec.toInt_setWidth]
  show Int.bmod (u.toNat : Int) (2^32) = _
  rw [Int.bmod_eq_of_le] <;> omega
theorem own_nc (u : UInt16) : nar .char (own_w u) = own_w u := by
  show (u.toUInt32.toInt32.toUInt32.toUInt16.toUInt32.toInt32) = u.toUInt32.toInt32
  simp
theorem own_bI (u : UInt16) : (own_b u).toInt = Int.bmod u.toNat 256 := by
  show ((own_w u).toInt8.toInt32.toInt8.toInt32).toInt = _
  simp [own_wI]
theorem own_b47 {u : UInt16} (q : ¬ (255 : Int32) < own_w u) : own_b u = (47 : Int32).toInt8.toInt32 ↔ own_w u = (47 : Int32) := by
  rw [Int32.lt_iff_toInt_lt, own_wI] at q
  rw [← Int32.toInt_inj, ← Int32.toInt_inj, own_bI, own_wI]
  have e1 : (255 : Int32).toInt = 255 := rfl
  have e2 : (47 : Int32).toInt = 47 := rfl
  have e3 : ((47 : Int32).toInt8.toInt32).toInt = 47 := rfl
  rw [e2, e3]
  rw [e1] at q
  rw [Int.bmod_def]; omega
theorem own_b46 {u : UInt16} (q : ¬ (255 : Int32) < own_w u) : own_b u = (46 : Int32) ↔ own_w u = (46 : Int32) := by
  rw [Int32.lt_iff_toInt_lt, own_wI] at q
  rw [← Int32.toInt_inj, ← Int32.toInt_inj, own_bI, own_wI]
  have e1 : (255 : Int32).toInt = 255 := rfl
  have e2 : (46 : Int32).toInt = 46 := rfl
  rw [e2]
  rw [e1] at q
  rw [Int.bmod_def]; omega
theorem own_t (w : BitVec 16) : ((((((((w.setWidth 32).sshiftRight 0).setWidth 8).signExtend 32).setWidth 8).signExtend 32 &&& 255#32) <<< 0 ||| ((((((w.setWidth 32).sshiftRight 8).setWidth 8).signExtend 32).setWidth 8).signExtend 32 &&& 255#32) <<< 8).setWidth 16).setWidth 32 = w.setWidth 32 := by
  have h1 : ∀ b : BitVec 8, ((b.signExtend 32).setWidth 8) = b := by decide +kernel
  have h2 : ∀ b : BitVec 8, (b.signExtend 32 &&& 255#32) = b.setWidth 32 := by decide +kernel
  rw [h1, h1, h2, h2]
  have e1 : (w.setWidth 32).sshiftRight 0 = w.setWidth 32 := by simp
  have e2 : (w.setWidth 32).sshiftRight 8 = (w.setWidth 32) >>> 8 := by
    rw [BitVec.sshiftRight_eq_of_msb_false]
    simp [BitVec.msb_setWidth]
  rw [e1, e2]
  ext i hi
  simp only [BitVec.getElem_setWidth, BitVec.getLsbD_setWidth, BitVec.getLsbD_or, BitVec.getLsbD_shiftLeft, BitVec.getLsbD_ushiftRight]
  by_cases q : i < 8
  · have q1 : i < 16 := by omega
    have q2 : i < 32 := by omega
    simp [q, q1, q2]
  · by_cases r : i < 16
    · have : 8 + (i - 8) = i := by omega
      have q2 : i < 32 := by omega
      have q3 : i - 8 < 32 := by omega
      have q4 : i - 8 < 8 := by omega
      simp [q, r, q2, q3, q4, this]
    · have : w.getLsbD i = false := BitVec.getLsbD_of_ge _ _ (by omega)
      simp [q, r, this]

theorem own_t2 (w : BitVec 16) : ((((((((w.setWidth 32).sshiftRight 0).signExtend 8).signExtend 32).signExtend 8).signExtend 32 &&& 255#32) <<< 0 ||| ((((((w.setWidth 32).sshiftRight 8).signExtend 8).signExtend 32).signExtend 8).signExtend 32 &&& 255#32) <<< 8).setWidth 16).setWidth 32 = w.setWidth 32 := by
  have e : ∀ x : BitVec 32, x.signExtend 8 = x.setWidth 8 := fun x => BitVec.signExtend_eq_setWidth_of_le _ (by decide)
  rw [e, e, e, e]
  exact own_t w
theorem own_gc (u : UInt16) : nar .char (((((own_lo u) &&& (255 : Int32)) <<< ((0 : Int32) &&& 31)) ||| (((own_hi u) &&& (255 : Int32)) <<< ((8 : Int32) &&& 31))).toUInt32.toUInt16.toUInt32.toInt32) = own_w u := by
  refine (own_nc _).trans ?_
  apply Int32.toBitVec_inj.mp
  exact own_t2 u.toBitVec
def own_cf (a b : Int32) : Int32 := nar .byte ((((a - b).toUInt32 >>> ((31 : Int32) &&& 31).toUInt32).toInt32).toInt8.toInt32)
def own_ch (cs : List UInt16) : List Value := cs.map fun u => Value.int (own_w u)
def own_lat (cs : List UInt16) : List Value := cs.map fun u => Value.int (own_b u)
def own_wide (cs : List UInt16) : List Value := cs.flatMap fun u => [Value.int (own_lo u), Value.int (own_hi u)]
def own_has (cs : List UInt16) : Prop := ∃ u ∈ cs, own_w u = (47 : Int32)
def own_is1 (cs : List UInt16) : Prop := cs.map own_w = [(46 : Int32)]
def own_is2 (cs : List UInt16) : Prop := cs.map own_w = [(46 : Int32), (46 : Int32)]
def own_ok (cs : List UInt16) : Prop := ¬ own_is1 cs ∧ ¬ own_is2 cs ∧ ¬ own_has cs
def own_L (cs : List UInt16) (nn : Int32) : Prop := (∃ u0, cs = [u0] ∧ nn = (1 : Int32)) ∨ (∃ u0 u1, cs = [u0, u1] ∧ nn = (2 : Int32)) ∨ (∃ u0 u1 u2, cs = [u0, u1, u2] ∧ nn = (3 : Int32)) ∨ (∃ u0 u1 u2 u3, cs = [u0, u1, u2, u3] ∧ nn = (4 : Int32))
def own_L' (cs : List UInt16) (nn : Int32) : Prop := (cs = [] ∧ nn = (0 : Int32)) ∨ own_L cs nn
def own_E (cs : List UInt16) (nn cd zz : Int32) (vs : List Value) : Prop :=
  ((∀ u ∈ cs, ¬ (255 : Int32) < own_w u) ∧ cd = (0 : Int32) ∧ zz = nn ∧ vs = own_lat cs ∧ own_L' cs nn) ∨ ((∃ u ∈ cs, (255 : Int32) < own_w u) ∧ cd = (1 : Int32) ∧ zz = (nn <<< ((1 : Int32) &&& 31)) ∧ vs = own_wide cs ∧ own_L cs nn)
def own_G (zz : Int32) (vs : List Value) (q1 : Int32) (u : UInt16) : Prop :=
  (¬ (q1 <<< ((1 : Int32) &&& 31)) < 0 ∧ (q1 <<< ((1 : Int32) &&& 31)) < zz) ∧ (¬ ((q1 <<< ((1 : Int32) &&& 31)) + (1 : Int32)) < 0 ∧ ((q1 <<< ((1 : Int32) &&& 31)) + (1 : Int32)) < zz) ∧
  vs.getD (q1 <<< ((1 : Int32) &&& 31)).toNatClampNeg (.int (0 : Int32)) = .int (own_lo u) ∧ vs.getD ((q1 <<< ((1 : Int32) &&& 31)) + (1 : Int32)).toNatClampNeg (.int (0 : Int32)) = .int (own_hi u)
theorem own_alln {P : UInt16 → Prop} : ∀ u ∈ ([] : List UInt16), P u := fun _ q => nomatch q
theorem own_allc {P : UInt16 → Prop} {v : UInt16} {cs : List UInt16} (q : P v) (r : ∀ u ∈ cs, P u) : ∀ u ∈ v :: cs, P u := fun u hu => by
  rcases List.mem_cons.mp hu with rfl | hu
  · exact q
  · exact r u hu
theorem own_not {cs : List UInt16} (q : ∀ u ∈ cs, ¬ own_w u = (47 : Int32)) : ¬ own_has cs := fun ⟨u, hu, r⟩ => q u hu r
theorem own_Lpos {cs : List UInt16} {nn : Int32} (q : own_L cs nn) : (0 : Int32) < nn := by rcases q with ⟨_, -, rfl⟩ | ⟨_, _, -, rfl⟩ | ⟨_, _, _, -, rfl⟩ | ⟨_, _, _, _, -, rfl⟩ <;> decide
theorem own_Lnn {cs : List UInt16} {nn : Int32} (q : own_L cs nn) : ¬ nn < (0 : Int32) := by rcases q with ⟨_, -, rfl⟩ | ⟨_, _, -, rfl⟩ | ⟨_, _, _, -, rfl⟩ | ⟨_, _, _, _, -, rfl⟩ <;> decide
theorem own_Lne {cs : List UInt16} {nn : Int32} (q : own_L cs nn) : ¬ nn = (0 : Int32) := by rcases q with ⟨_, -, rfl⟩ | ⟨_, _, -, rfl⟩ | ⟨_, _, _, -, rfl⟩ | ⟨_, _, _, _, -, rfl⟩ <;> decide
theorem own_Lbig {cs : List UInt16} {nn : Int32} (q : own_L cs nn) : nn < (1073741823 : Int32) := by rcases q with ⟨_, -, rfl⟩ | ⟨_, _, -, rfl⟩ | ⟨_, _, _, -, rfl⟩ | ⟨_, _, _, _, -, rfl⟩ <;> decide
theorem own_L4 {cs : List UInt16} {nn : Int32} (q : own_L cs nn) : nn.toNatClampNeg ≤ 4 := by rcases q with ⟨_, -, rfl⟩ | ⟨_, _, -, rfl⟩ | ⟨_, _, _, -, rfl⟩ | ⟨_, _, _, _, -, rfl⟩ <;> decide
theorem own_Lz {cs : List UInt16} {nn : Int32} (q : own_L cs nn) : ¬ (nn <<< ((1 : Int32) &&& 31)) < (0 : Int32) := by rcases q with ⟨_, -, rfl⟩ | ⟨_, _, -, rfl⟩ | ⟨_, _, _, -, rfl⟩ | ⟨_, _, _, _, -, rfl⟩ <;> decide
theorem own_L8 {cs : List UInt16} {nn : Int32} (q : own_L cs nn) : (nn <<< ((1 : Int32) &&& 31)).toNatClampNeg ≤ 8 := by rcases q with ⟨_, -, rfl⟩ | ⟨_, _, -, rfl⟩ | ⟨_, _, _, -, rfl⟩ | ⟨_, _, _, _, -, rfl⟩ <;> decide
theorem own_Lh {cs : List UInt16} {nn : Int32} (q : own_L cs nn) : (nn <<< ((1 : Int32) &&& 31)) >>> ((1 : Int32) &&& 31) = nn := by rcases q with ⟨_, -, rfl⟩ | ⟨_, _, -, rfl⟩ | ⟨_, _, _, -, rfl⟩ | ⟨_, _, _, _, -, rfl⟩ <;> decide
theorem own_Lle {cs : List UInt16} {nn : Int32} (q : own_L cs nn) : ¬ ((nn <<< ((1 : Int32) &&& 31)) >>> ((1 : Int32) &&& 31)) < nn := by rw [own_Lh q]; exact Int32.lt_irrefl
theorem own_L's {cs : List UInt16} {nn : Int32} (q : own_L' cs nn) : nn >>> ((0 : Int32) &&& 31) = nn := by rcases q with ⟨-, rfl⟩ | ⟨_, -, rfl⟩ | ⟨_, _, -, rfl⟩ | ⟨_, _, _, -, rfl⟩ | ⟨_, _, _, _, -, rfl⟩ <;> decide
theorem own_Lcf {cs : List UInt16} {nn : Int32} (q : own_L' cs nn) : own_cf nn nn = (0 : Int32) := by rcases q with ⟨-, rfl⟩ | ⟨_, -, rfl⟩ | ⟨_, _, -, rfl⟩ | ⟨_, _, _, -, rfl⟩ | ⟨_, _, _, _, -, rfl⟩ <;> decide
theorem own_Lcz {cs : List UInt16} {nn : Int32} (q : own_L cs nn) : own_cf nn (nn <<< ((1 : Int32) &&& 31)) = (1 : Int32) := by rcases q with ⟨_, -, rfl⟩ | ⟨_, _, -, rfl⟩ | ⟨_, _, _, -, rfl⟩ | ⟨_, _, _, _, -, rfl⟩ <;> decide
theorem own_Ecf {cs : List UInt16} {nn cd zz : Int32} {vs : List Value} (q : own_E cs nn cd zz vs) : own_cf nn zz = cd := by
  rcases q with ⟨-, h1, h2, -, h3⟩ | ⟨-, h1, h2, -, h3⟩
  · rw [h1, h2]; exact own_Lcf h3
  · rw [h1, h2]; exact own_Lcz h3
theorem own_Enb {cs : List UInt16} {nn cd zz : Int32} {vs : List Value} (q : own_E cs nn cd zz vs) : nar .byte cd = cd := by
  rcases q with ⟨-, h1, -⟩ | ⟨-, h1, -⟩ <;> rw [h1] <;> decide
theorem own_Ew {cs : List UInt16} {nn cd zz : Int32} {vs : List Value} (q : own_E cs nn cd zz vs) (r : ¬ cd = (0 : Int32)) : ¬ own_is1 cs ∧ ¬ own_is2 cs := by
  rcases q with ⟨-, h1, -⟩ | ⟨⟨u, hu, h255⟩, -⟩
  · exact absurd h1 r
  · have key : ∀ ls : List Int32, (∀ z ∈ ls, z = (46 : Int32)) → ¬ cs.map own_w = ls := fun ls hl e => by
      have q := hl _ (e ▸ List.mem_map_of_mem (f := own_w) hu)
      rw [q] at h255
      exact absurd h255 (by decide)
    exact ⟨key _ (by simp), key _ (by simp)⟩
theorem own_El {cs : List UInt16} {nn cd zz : Int32} {vs : List Value} (q : own_E cs nn cd zz vs) (r : cd = (0 : Int32)) : (∀ u ∈ cs, ¬ (255 : Int32) < own_w u) ∧ zz = nn ∧ vs = own_lat cs ∧ own_L' cs nn := by
  rcases q with ⟨h0, h1, h2, h3, h4⟩ | ⟨-, h1, -⟩
  · exact ⟨h0, h2, h3, h4⟩
  · rw [h1] at r; exact absurd r (by decide)
theorem own_Eis1 {cs : List UInt16} {nn cd zz : Int32} {vs : List Value} (q : own_E cs nn cd zz vs) (r : cd = (0 : Int32)) (hz : zz = (1 : Int32)) (g0 : vs.getD 0 (.int (0 : Int32)) = .int (46 : Int32)) : own_is1 cs := by
  obtain ⟨h0, h1, h2, h3⟩ := own_El q r
  subst h2
  rw [h1] at hz
  rcases h3 with ⟨-, e⟩ | ⟨u0, e1, e⟩ | ⟨_, _, -, e⟩ | ⟨_, _, _, -, e⟩ | ⟨_, _, _, _, -, e⟩
  · rw [e] at hz; exact absurd hz (by decide)
  · subst e1
    have a := (own_b46 (h0 u0 (by simp))).1 (Value.int.inj g0)
    show [own_w u0] = _
    rw [a]
  all_goals rw [e] at hz; exact absurd hz (by decide)
theorem own_Eis2 {cs : List UInt16} {nn cd zz : Int32} {vs : List Value} (q : own_E cs nn cd zz vs) (r : cd = (0 : Int32)) (hz : zz = (2 : Int32)) (g0 : vs.getD 0 (.int (0 : Int32)) = .int (46 : Int32)) (g1 : vs.getD 1 (.int (0 : Int32)) = .int (46 : Int32)) : own_is2 cs := by
  obtain ⟨h0, h1, h2, h3⟩ := own_El q r
  subst h2
  rw [h1] at hz
  rcases h3 with ⟨-, e⟩ | ⟨_, -, e⟩ | ⟨u0, u1, e1, e⟩ | ⟨_, _, _, -, e⟩ | ⟨_, _, _, _, -, e⟩
  · rw [e] at hz; exact absurd hz (by decide)
  · rw [e] at hz; exact absurd hz (by decide)
  · subst e1
    have a := (own_b46 (h0 u0 (by simp))).1 (Value.int.inj g0)
    have b := (own_b46 (h0 u1 (by simp))).1 (Value.int.inj g1)
    show [own_w u0, own_w u1] = _
    rw [a, b]
  all_goals rw [e] at hz; exact absurd hz (by decide)
theorem own_n5 (x : Int32) : (x &&& (2147483647 : Int32)) % (5 : Int32) = 0 ∨ (x &&& (2147483647 : Int32)) % (5 : Int32) = 1 ∨ (x &&& (2147483647 : Int32)) % (5 : Int32) = 2 ∨ (x &&& (2147483647 : Int32)) % (5 : Int32) = 3 ∨ (x &&& (2147483647 : Int32)) % (5 : Int32) = 4 := by
  have q1 := c_mask x 2147483647 31 (by decide) (by decide)
  have q2 := (c_irem (x &&& 2147483647) 5 5 (by decide)).1 (by omega)
  have e0 : (0 : Int32).toInt = 0 := rfl
  have e1 : (1 : Int32).toInt = 1 := rfl
  have e2 : (2 : Int32).toInt = 2 := rfl
  have e3 : (3 : Int32).toInt = 3 := rfl
  have e4 : (4 : Int32).toInt = 4 := rfl
  simp only [← Int32.toInt_inj]
  omega
theorem own_agree {P : Prop} {a b : Int32} (q : (a = (0 : Int32) ∨ a = (1 : Int32)) ∧ (a = (1 : Int32) ↔ P)) (r : (b = (0 : Int32) ∨ b = (1 : Int32)) ∧ (b = (1 : Int32) ↔ P)) : a = b := by
  obtain ⟨q1, q2⟩ := q
  obtain ⟨r1, r2⟩ := r
  rcases q1 with rfl | rfl <;> rcases r1 with rfl | rfl
  · rfl
  · exact absurd (q2.2 (r2.1 rfl)) (by decide)
  · exact absurd (r2.2 (q2.1 rfl)) (by decide)
  · rfl

def own_S (Z : State) : Prop := ∃ (G1 : Int32) (G3 : Value), Sta Z Z.heap "java/lang/String" "COMPACT_STRINGS" "Z" (.int G1) ∧ ¬ (G1 = (0 : Int32)) ∧ Sta Z Z.heap "jdk/internal/util/Preconditions" "SIOOBE_FORMATTER" "Ljava/util/function/BiFunction;" G3 ∧ G3.isRef = true ∧ Sta Z Z.heap "java/lang/StringUTF16" "$assertionsDisabled" "Z" (.int (1 : Int32)) ∧ Sta Z Z.heap "java/lang/StringUTF16" "HI_BYTE_SHIFT" "I" (.int (0 : Int32)) ∧ Sta Z Z.heap "java/lang/StringUTF16" "LO_BYTE_SHIFT" "I" (.int (8 : Int32))
theorem own_G_mk {zz : Int32} {vs : List Value} {q1 : Int32} {u : UInt16} (j : Nat) (b1 : ¬ (q1 <<< ((1 : Int32) &&& 31)) < 0 ∧ (q1 <<< ((1 : Int32) &&& 31)) < zz) (b2 : ¬ ((q1 <<< ((1 : Int32) &&& 31)) + (1 : Int32)) < 0 ∧ ((q1 <<< ((1 : Int32) &&& 31)) + (1 : Int32)) < zz)
    (e1 : (q1 <<< ((1 : Int32) &&& 31)).toNatClampNeg = j) (e2 : ((q1 <<< ((1 : Int32) &&& 31)) + (1 : Int32)).toNatClampNeg = j + 1) (g1 : vs.getD j (.int (0 : Int32)) = .int (own_lo u)) (g2 : vs.getD (j + 1) (.int (0 : Int32)) = .int (own_hi u)) : own_G zz vs q1 u := ⟨b1, b2, by rw [e1]; exact g1, by rw [e2]; exact g2⟩
theorem own_fldf {Z : State} {h : Heap} {a : Addr} {C n d : String} {v w : Value} (F : Fld Z h a C n d v) (G : Fld Z h a C n d w) : v = w := Classical.byContradiction fun q => F.ne G q rfl
theorem own_arvf {Z : State} {h : Heap} {a : Addr} {k1 k2 : ClassId} {ty t2 : FieldType} {z1 z2 : Int32} {vs ws : List Value} {d d2 : Value} (A : Arv Z h a k1 ty z1 vs d) (B : Arv Z h a k2 t2 z2 ws d2) : z1 = z2 ∧ ∀ i, i < z2.toNatClampNeg → vs.getD i d = ws.getD i d2 := by
  obtain ⟨c1, A1, -, S1, n1, H1, -⟩ := A
  obtain ⟨c2, A2, -, S2, n2, H2, -⟩ := B
  obtain rfl : c1 = c2 := Option.some.inj (A1.1.symm.trans A2.1)
  exact ⟨(len_of S1 n1).symm.trans (len_of S2 n2), fun i hi => Option.some.inj ((H1 i (by omega)).symm.trans (H2 i (by omega)))⟩
theorem own_IBw {Z s : State} {vm' : Vm} {Ts : List String} (W : s.WarmedH vm') (I : IB Z s.vm Ts) : IB Z vm' Ts := by
  obtain ⟨more, e, hm⟩ := I
  exact ⟨more, W.interned_eq.trans e, hm⟩
theorem own_IBmono {Z : State} {vm : Vm} {a : String} {Ts : List String} (I : IB Z vm Ts) : IB Z vm (a :: Ts) := by
  obtain ⟨more, e, hm⟩ := I
  exact ⟨more, e, fun q hq => by obtain ⟨b, hb, r⟩ := hm q hq; exact ⟨b, List.mem_cons_of_mem _ hb, r⟩⟩
abbrev own_PI (Q : Option Value → Heap → List Loc → Prop) (J : Vm → Prop) (s : State) (cells slots : Nat) : State → Outcome → Prop := fun U' o => ∃ v L, o = .returned v ∧ (Q v U'.heap L ∧ J U'.vm) ∧ ReturnedEndW s o U' L cells slots
theorem own_backI {p : Program} {l : Launch} {e : Env} {R : Room} {s : State} {args : Array Value} {below : List Frame} {Z : State} {a0 : Array Value} {h : Heap} {y : MethodName} {bytes : ByteArray} {maxL : Nat} {ret : Option FieldType} {rm : Room} {len W : Nat} {as' : Array Value} {Q : Option Value → Heap → List Loc → Prop} {Ts : List String} {J : Vm → Prop}
    (hM : MetFree l y (head1 [Cond.code y bytes maxL ret] rm) (fun a U => (a = as' ∧ Z.Warmed39 U.vm ∧ U.heap = h) ∧ IB Z U.vm Ts) (fun _ _ _ _ _ => True) (fun _ U o U' => ∃ v L, o = .returned v ∧ (Q v U'.heap L ∧ J U'.vm) ∧ ReturnedEndW U o U' L rm.cells rm.slots))
    (I : IB Z s.vm Ts) (hZ : Z.Warmed39 s.vm) (wc : (Cond.code y bytes maxL ret).before a0 Z = true) (wz : (Cond.initialized y.cls).before a0 Z = true) (hf : rm.frames + 1 ≤ R.frames) (hl : W + (maxL + 11) + rm.locals ≤ R.locals) :
    BackS l R p e below s args y len W (fun A a => a = as' ∧ A.U.heap = h ∧ A.cells + rm.cells ≤ R.cells ∧ A.slots + rm.slots ≤ R.slots)
      (fun A _ v B => ∃ L, (Q v B.U.heap L ∧ J B.U.vm) ∧ B.locs = A.locs ++ L ∧ B.cells = A.cells + rm.cells ∧ B.slots = A.slots + rm.slots) :=
  BackS.of_freeW (bytes := bytes) (maxL := maxL) (ret := ret) (E := fun _ _ o t L k n => k = rm.cells ∧ n = rm.slots ∧ ∃ v, o = .returned v ∧ (Q v t.heap L ∧ J t.vm)) hM hf hl
    (fun m meth c A a Y hp => have hU : Z.Warmed39 A.U.vm := wtrans hZ Y.warmed
      ⟨by show (Cond.and _ .tt).before a A.U = true; rw [Cond.before_and, mv hU wc]; rfl, mv hU wc, mv hU wz, hp.2.2.1, hp.2.2.2⟩)
    (fun m meth c A a g mk Y hp => ⟨⟨hp.1, wtrans hZ Y.warmed, hp.2.1⟩, own_IBw Y.warmed I⟩) (fun _ _ _ _ _ _ _ _ _ => trivial)
    (fun _ _ _ _ ⟨v, L, h1, h2, h3⟩ => ⟨L, _, _, h3, rfl, rfl, v, h1, h2⟩)
    (fun m meth c A a g mk v t L k n Y hp _ _ ⟨e1, e2, v', e3, e4⟩ => by cases e3; subst e1 e2; exact ⟨L, e4, rfl, rfl, rfl⟩)
def own_C (u0 u1 u2 u3 : UInt16) (cs : List UInt16) (nn : Int32) : Prop := (cs = [] ∧ nn = (0 : Int32)) ∨ (cs = [u0] ∧ nn = (1 : Int32)) ∨ (cs = [u0, u1] ∧ nn = (2 : Int32)) ∨ (cs = [u0, u1, u2] ∧ nn = (3 : Int32)) ∨ (cs = [u0, u1, u2, u3] ∧ nn = (4 : Int32))
theorem own_CL {u0 u1 u2 u3 : UInt16} {cs : List UInt16} {nn : Int32} (q : own_C u0 u1 u2 u3 cs nn) : own_L' cs nn := by
  rcases q with q | q | q | q | q
  · exact Or.inl q
  · exact Or.inr (Or.inl ⟨u0, q⟩)
  · exact Or.inr (Or.inr (Or.inl ⟨u0, u1, q⟩))
  · exact Or.inr (Or.inr (Or.inr (Or.inl ⟨u0, u1, u2, q⟩)))
  · exact Or.inr (Or.inr (Or.inr (Or.inr ⟨u0, u1, u2, u3, q⟩)))
theorem own_i1 {u0 : UInt16} (q : own_w u0 = (46 : Int32)) : own_is1 [u0] := by show [own_w u0] = _; rw [q]
theorem own_i2 {u0 u1 : UInt16} (q : own_w u0 = (46 : Int32)) (r : own_w u1 = (46 : Int32)) : own_is2 [u0, u1] := by show [own_w u0, own_w u1] = _; rw [q, r]
theorem own_ni1 {u0 : UInt16} (q : ¬ own_w u0 = (46 : Int32)) : ¬ own_is1 [u0] := fun r => q (List.cons.inj (show [own_w u0] = [(46 : Int32)] from r)).1
theorem own_ni2a {u0 u1 : UInt16} (q : ¬ own_w u0 = (46 : Int32)) : ¬ own_is2 [u0, u1] := fun r => q (List.cons.inj (show [own_w u0, own_w u1] = [(46 : Int32), (46 : Int32)] from r)).1
theorem own_ni2b {u0 u1 : UInt16} (q : ¬ own_w u1 = (46 : Int32)) : ¬ own_is2 [u0, u1] := fun r => q (List.cons.inj (List.cons.inj (show [own_w u0, own_w u1] = [(46 : Int32), (46 : Int32)] from r)).2).1
theorem own_len1 {cs : List UInt16} (q : cs.length ≠ 1) : ¬ own_is1 cs := fun r => q (by have := congrArg List.length (show cs.map own_w = [(46 : Int32)] from r); simpa using this)
theorem own_len2 {cs : List UInt16} (q : cs.length ≠ 2) : ¬ own_is2 cs := fun r => q (by have := congrArg List.length (show cs.map own_w = [(46 : Int32), (46 : Int32)] from r); simpa using this)
def Q_rm28 (Z : State) (zz : Int32) (h0 : Heap) (n0 : Nat) (v : Option Value) (h : Heap) (L : List Loc) : Prop := v = some (.int (zz >>> ((1 : Int32) &&& 31))) ∧ L = [] ∧ h = h0
theorem d28_0 : decode jdk_52_method_6_code 0 = .ok (.aload_n 0, 1) := by decide +kernel
theorem d28_1 : decode jdk_52_method_6_code 1 = .ok (.arraylength, 1) := by decide +kernel
theorem d28_2 : decode jdk_52_method_6_code 2 = .ok (.iconst 1, 1) := by decide +kernel
theorem d28_3 : decode jdk_52_method_6_code 3 = .ok (.ishr, 1) := by decide +kernel
theorem d28_4 : decode jdk_52_method_6_code 4 = .ok (.ireturn, 1) := by decide +kernel
theorem ef_rm28 (m : MethodId) (x0 : Addr) : entryFrame m #[(.ref x0)] 1 = mkF m 0 #[.val (.ref x0)] [] := by first | (simp [entryFrame, mkF, argsToLocals, Value.category, maxLocals]; done) | rfl
set_option maxRecDepth 65536 in
set_option maxHeartbeats 40000000 in
theorem rm28 (l : Launch) (Z : State) (a0 : Array Value) (hw : ∀ d ∈ tables_1, d.before a0 Z = true) (ws : List Jvm.Cond) (tb : Addr) (kb : ClassId) (zz : Int32) (vs : List Value) (h0 : Heap) (n0 : Nat) (Z0 : n0 ≤ h0.size) (V_tb : Arv Z h0 tb kb .byte zz vs (.int (0 : Int32))) :
    MetFree l (⟨"java/lang/StringUTF16", "length", "([B)I"⟩ : MethodName) (head1 (Jvm.Cond.code (⟨"java/lang/StringUTF16", "length", "([B)I"⟩ : MethodName) jdk_52_method_6_code 1 (some .int) :: ws) ({ frames := 0, cells := 0, slots := 0, locals := 0 } : Room)) (fun a U => a = #[(.ref tb)] ∧ Z.Warmed39 U.vm ∧ U.heap = h0) (fun _ _ _ _ _ => True) (fun _ U o U' => ∃ v L, o = .returned v ∧ Q_rm28 Z zz h0 n0 v U'.heap L ∧ FrameEnd U o U' L ({ frames := 0, cells := 0, slots := 0, locals := 0 } : Room).cells ({ frames := 0, cells := 0, slots := 0, locals := 0 } : Room).slots) := by
  refine MetFree.of_bodySF (plainFor_of_name pn_28) hisR ?_
  intro p e s m args below meth c s₁ Bd hml0 hP hK
  obtain ⟨rfl, hZ, hh⟩ := hP
  have hx := Bd.exec
  have hby := Bd.bytes
  have hml : c.maxLocals = 1 := hml0
  have hown : s.vm.findClass "java/lang/StringUTF16" = some m.cls := findClass_of_methodNamed Bd.named
  have hnm := (name_of_methodNamed Bd.named Bd.method).1
  have X0 : Stand p l e ({ frames := 0, cells := 0, slots := 0, locals := 0 } : Room) s m #[(.ref tb)] below meth c s₁ [] 0 0 := Stand.of_body Bd
  have e0 : s₁.heap = h0 := by rw [← hh, Bd.state]; rfl
  have N0 := Fr.nil n0
  have K : Keep h0 h0 [] := Keep.refl h0 []
  show own_Gd p.tables e below (own_P (Q_rm28 Z zz h0 n0) s ({ frames := 0, cells := 0, slots := 0, locals := 0 } : Room).cells ({ frames := 0, cells := 0, slots := 0, locals := 0 } : Room).slots) _
  refine own_go (B := s₁.setTop (mkF m 0 #[.val (.ref tb)] [])) (fun t k => castTop (ef_rm28 m tb) k) ?_
  refine own_go (B := s₁.setTop (mkF m 1 #[.val (.ref tb)] [(.ref tb)])) (fun t k => ?_) ?_
  · show Steps p.tables e below (s₁.setTop (mkF m 0 #[.val (.ref tb)] [])) _
    refine XS.aloadN X0.here hx rfl (hb hby d28_0) rfl rfl ?_
    exact k
  obtain ⟨cl1, Ar1, qa1, Sa1, Na1, Ha1, Ga1⟩ := id V_tb
  refine own_go (B := s₁.setTop (mkF m 4 #[.val (.ref tb)] [(.int (zz >>> ((1 : Int32) &&& 31)))])) (fun t k => ?_) ?_
  · show Steps p.tables e below (s₁.setTop (mkF m 1 #[.val (.ref tb)] [(.ref tb)])) _
    refine X0.arraylength hx (by rw [e0]; exact Ar1.1) (State.isArrayOf_alike hZ.alike Ar1.2.1) (g := (mkF m 1 #[.val (.ref tb)] [(.ref tb)])) rfl rfl (hb hby d28_1) _ ?_
    rw [len_of Sa1 Na1]
    refine XS.iconst X0.here hx rfl (hb hby d28_2) ?_
    refine XS.ishr X0.here hx rfl (hb hby d28_3) rfl ?_
    exact k
  obtain ⟨fs, hr, hrun, hended, hW, hsame⟩ := X0.leave (v := some (.int (zz >>> ((1 : Int32) &&& 31)))) (fun h => by rw [Bd.returns] at h; cases h)
  refine own_done (retOut X0 hx Bd.returns rfl (Or.inl ⟨rfl, Or.inl rfl, _, rfl⟩) (hb hby d28_4) hr) hrun hended ⟨_, _, rfl, ?_, ⟨_, rfl⟩, hW, hsame.mono (by decide) (by decide)⟩
  show Q_rm28 Z zz h0 n0 (some (.int (zz >>> ((1 : Int32) &&& 31)))) s₁.heap _
  rw [e0]
  exact ⟨rfl, rfl, rfl⟩
def Q_rm30 (Z : State) (h0 : Heap) (n0 : Nat) (v : Option Value) (h : Heap) (L : List Loc) : Prop := v = some (.int (0 : Int32)) ∧ L = [] ∧ h = h0
theorem d30_0 : decode jdk_41_method_12_code 0 = .ok (.iload_n 0, 1) := by decide +kernel
theorem d30_1 : decode jdk_41_method_12_code 1 = .ok (.ifCond .lt 13, 3) := by decide +kernel
theorem d30_4 : decode jdk_41_method_12_code 4 = .ok (.iload_n 0, 1) := by decide +kernel
theorem d30_5 : decode jdk_41_method_12_code 5 = .ok (.iload_n 1, 1) := by decide +kernel
theorem d30_6 : decode jdk_41_method_12_code 6 = .ok (.if_icmp .gt 8, 3) := by decide +kernel
theorem d30_9 : decode jdk_41_method_12_code 9 = .ok (.iload_n 1, 1) := by decide +kernel
theorem d30_10 : decode jdk_41_method_12_code 10 = .ok (.iload_n 2, 1) := by decide +kernel
theorem d30_11 : decode jdk_41_method_12_code 11 = .ok (.if_icmp .le 11, 3) := by decide +kernel
theorem d30_14 : decode jdk_41_method_12_code 14 = .ok (.aload_n 3, 1) := by decide +kernel
theorem d30_15 : decode jdk_41_method_12_code 15 = .ok (.iload_n 0, 1) := by decide +kernel
theorem d30_16 : decode jdk_41_method_12_code 16 = .ok (.iload_n 1, 1) := by decide +kernel
theorem d30_17 : decode jdk_41_method_12_code 17 = .ok (.iload_n 2, 1) := by decide +kernel
theorem d30_18 : decode jdk_41_method_12_code 18 = .ok (.invokestatic 99, 3) := by decide +kernel
theorem d30_21 : decode jdk_41_method_12_code 21 = .ok (.athrow, 1) := by decide +kernel
theorem d30_22 : decode jdk_41_method_12_code 22 = .ok (.iload_n 0, 1) := by decide +kernel
theorem d30_23 : decode jdk_41_method_12_code 23 = .ok (.ireturn, 1) := by decide +kernel
theorem ef_rm30 (m : MethodId) (x0 x1 x2 : Int32) (x3 : Value) (r : x3.isRef = true) : entryFrame m #[(.int x0), (.int x1), (.int x2), x3] 4 = mkF m 0 #[.val (.int x0), .val (.int x1), .val (.int x2), .val x3] [] := by cases x3 <;> first | (simp [Value.isRef] at r; done) | (simp [entryFrame, mkF, argsToLocals, Value.category]; done) | rfl
set_option maxRecDepth 65536 in
set_option maxHeartbeats 40000000 in
theorem rm30 (l : Launch) (Z : State) (a0 : Array Value) (hw : ∀ d ∈ tables_1, d.before a0 Z = true) (ws : List Jvm.Cond) (q2 q3 : Int32) (G3 : Value) (h0 : Heap) (n0 : Nat) (Z0 : n0 ≤ h0.size) (rG3 : G3.isRef = true) (ba : ¬ q2 < (0 : Int32)) (bb : ¬ q3 < q2) :
    MetFree l (⟨"jdk/internal/util/Preconditions", "checkFromToIndex", "(IIILjava/util/function/BiFunction;)I"⟩ : MethodName) (head1 (Jvm.Cond.code (⟨"jdk/internal/util/Preconditions", "checkFromToIndex", "(IIILjava/util/function/BiFunction;)I"⟩ : MethodName) jdk_41_method_12_code 4 (some .int) :: ws) ({ frames := 0, cells := 0, slots := 0, locals := 0 } : Room)) (fun a U => a = #[(.int (0 : Int32)), (.int q2), (.int q3), G3] ∧ Z.Warmed39 U.vm ∧ U.heap = h0) (fun _ _ _ _ _ => True) (fun _ U o U' => ∃ v L, o = .returned v ∧ Q_rm30 Z h0 n0 v U'.heap L ∧ FrameEnd U o U' L ({ frames := 0, cells := 0, slots := 0, locals := 0 } : Room).cells ({ frames := 0, cells := 0, slots := 0, locals := 0 } : Room).slots) := by
  refine MetFree.of_bodySF (plainFor_of_name pn_30) hisR ?_
  intro p e s m args below meth c s₁ Bd hml0 hP hK
  obtain ⟨rfl, hZ, hh⟩ := hP
  have hx := Bd.exec
  have hby := Bd.bytes
  have hml : c.maxLocals = 4 := hml0
  have hown : s.vm.findClass "jdk/internal/util/Preconditions" = some m.cls := findClass_of_methodNamed Bd.named
  have hnm := (name_of_methodNamed Bd.named Bd.method).1
  have X0 : Stand p l e ({ frames := 0, cells := 0, slots := 0, locals := 0 } : Room) s m #[(.int (0 : Int32)), (.int q2), (.int q3), G3] below meth c s₁ [] 0 0 := Stand.of_body Bd
  have e0 : s₁.heap = h0 := by rw [← hh, Bd.state]; rfl
  have N0 := Fr.nil n0
  have K : Keep h0 h0 [] := Keep.refl h0 []
  show own_Gd p.tables e below (own_P (Q_rm30 Z h0 n0) s ({ frames := 0, cells := 0, slots := 0, locals := 0 } : Room).cells ({ frames := 0, cells := 0, slots := 0, locals := 0 } : Room).slots) _
  refine own_go (B := s₁.setTop (mkF m 0 #[.val (.int (0 : Int32)), .val (.int q2), .val (.int q3), .val G3] [])) (fun t k => castTop (ef_rm30 m (0 : Int32) q2 q3 G3 rG3) k) ?_
  refine own_go (B := s₁.setTop (mkF m 23 #[.val (.int (0 : Int32)), .val (.int q2), .val (.int q3), .val G3] [(.int (0 : Int32))])) (fun t k => ?_) ?_
  · show Steps p.tables e below (s₁.setTop (mkF m 0 #[.val (.int (0 : Int32)), .val (.int q2), .val (.int q3), .val G3] [])) _
    refine XS.iloadN X0.here hx rfl (hb hby d30_0) rfl ?_
    refine XS.ifNo X0.here hx rfl (hb hby d30_1) rfl ((if0 _ _).trans (flt (by decide : ¬ ((0 : Int32) < (0 : Int32)))).1) ?_
    refine XS.iloadN X0.here hx rfl (hb hby d30_4) rfl ?_
    refine XS.iloadN X0.here hx rfl (hb hby d30_5) rfl ?_
    refine XS.icmpNo X0.here hx rfl (hb hby d30_6) rfl (flt (ba : ¬ (q2 < (0 : Int32)))).2.2.1 ?_
    show Steps p.tables e below (s₁.setTop (mkF m 9 #[.val (.int (0 : Int32)), .val (.int q2), .val (.int q3), .val G3] [])) _
    refine XS.iloadN X0.here hx rfl (hb hby d30_9) rfl ?_
    refine XS.iloadN X0.here hx rfl (hb hby d30_10) rfl ?_
    refine XS.icmpYes X0.here hx rfl (pc0 := 11) (pc' := 22) rfl (hb hby d30_11) rfl (flt (bb : ¬ (q3 < q2))).2.2.2 (by decide) (by decide) ?_
    refine XS.iloadN X0.here hx rfl (hb hby d30_22) rfl ?_
    exact k
  obtain ⟨fs, hr, hrun, hended, hW, hsame⟩ := X0.leave (v := some (.int (0 : Int32))) (fun h => by rw [Bd.returns] at h; cases h)
  refine own_done (retOut X0 hx Bd.returns rfl (Or.inl ⟨rfl, Or.inl rfl, _, rfl⟩) (hb hby d30_23) hr) hrun hended ⟨_, _, rfl, ?_, ⟨_, rfl⟩, hW, hsame.mono (by decide) (by decide)⟩
  show Q_rm30 Z h0 n0 (some (.int (0 : Int32))) s₁.heap _
  rw [e0]
  exact ⟨rfl, rfl, rfl⟩
def Q_rm29 (Z : State) (h0 : Heap) (n0 : Nat) (v : Option Value) (h : Heap) (L : List Loc) : Prop := v = none ∧ L = [] ∧ h = h0
theorem d29_0 : decode jdk_42_method_158_code 0 = .ok (.iload_n 0, 1) := by decide +kernel
theorem d29_1 : decode jdk_42_method_158_code 1 = .ok (.iload_n 1, 1) := by decide +kernel
theorem d29_2 : decode jdk_42_method_158_code 2 = .ok (.iload_n 2, 1) := by decide +kernel
theorem d29_3 : decode jdk_42_method_158_code 3 = .ok (.getstatic 1053, 3) := by decide +kernel
theorem d29_6 : decode jdk_42_method_158_code 6 = .ok (.invokestatic 1062, 3) := by decide +kernel
theorem d29_9 : decode jdk_42_method_158_code 9 = .ok (.pop, 1) := by decide +kernel
theorem d29_10 : decode jdk_42_method_158_code 10 = .ok (.return_, 1) := by decide +kernel
theorem ef_rm29 (m : MethodId) (x0 : Int32) (x1 : Int32) (x2 : Int32) : entryFrame m #[(.int x0), (.int x1), (.int x2)] 3 = mkF m 0 #[.val (.int x0), .val (.int x1), .val (.int x2)] [] := by first | (simp [entryFrame, mkF, argsToLocals, Value.category, maxLocals]; done) | rfl
set_option maxRecDepth 65536 in
set_option maxHeartbeats 40000000 in
theorem rm29 (l : Launch) (Z : State) (a0 : Array Value) (hw : ∀ d ∈ tables_1, d.before a0 Z = true) (ws : List Jvm.Cond) (q2 q3 : Int32) (h0 : Heap) (n0 : Nat) (Z0 : n0 ≤ h0.size) (ba : ¬ q2 < (0 : Int32)) (bb : ¬ q3 < q2) (hSt : own_S Z) (O : Old Z n0 h0) :
    MetFree l (⟨"java/lang/String", "checkBoundsBeginEnd", "(III)V"⟩ : MethodName) (head1 (Jvm.Cond.code (⟨"java/lang/String", "checkBoundsBeginEnd", "(III)V"⟩ : MethodName) jdk_42_method_158_code 3 none :: ws) ({ frames := 1, cells := 0, slots := 0, locals := 15 } : Room)) (fun a U => a = #[(.int (0 : Int32)), (.int q2), (.int q3)] ∧ Z.Warmed39 U.vm ∧ U.heap = h0) (fun _ _ _ _ _ => True) (fun _ U o U' => ∃ v L, o = .returned v ∧ Q_rm29 Z h0 n0 v U'.heap L ∧ FrameEnd U o U' L ({ frames := 1, cells := 0, slots := 0, locals := 15 } : Room).cells ({ frames := 1, cells := 0, slots := 0, locals := 15 } : Room).slots) := by
  refine MetFree.of_bodySF (plainFor_of_name pn_29) hisR ?_
  intro p e s m args below meth c s₁ Bd hml0 hP hK
  obtain ⟨rfl, hZ, hh⟩ := hP
  have hx := Bd.exec
  have hby := Bd.bytes
  have hml : c.maxLocals = 3 := hml0
  have hown : s.vm.findClass "java/lang/String" = some m.cls := findClass_of_methodNamed Bd.named
  have hnm := (name_of_methodNamed Bd.named Bd.method).1
  have X0 : Stand p l e ({ frames := 1, cells := 0, slots := 0, locals := 15 } : Room) s m #[(.int (0 : Int32)), (.int q2), (.int q3)] below meth c s₁ [] 0 0 := Stand.of_body Bd
  have e0 : s₁.heap = h0 := by rw [← hh, Bd.state]; rfl
  have N0 := Fr.nil n0
  have K : Keep h0 h0 [] := Keep.refl h0 []
  obtain ⟨G1, G3, O2, P5, O4, rG3, SA, SB, SC⟩ := id hSt
  show own_Gd p.tables e below (own_P (Q_rm29 Z h0 n0) s ({ frames := 1, cells := 0, slots := 0, locals := 15 } : Room).cells ({ frames := 1, cells := 0, slots := 0, locals := 15 } : Room).slots) _
  refine own_go (B := s₁.setTop (mkF m 0 #[.val (.int (0 : Int32)), .val (.int q2), .val (.int q3)] [])) (fun t k => castTop (ef_rm29 m (0 : Int32) q2 q3) k) ?_
  refine own_go (B := s₁.setTop (mkF m 3 #[.val (.int (0 : Int32)), .val (.int q2), .val (.int q3)] [(.int q3), (.int q2), (.int (0 : Int32))])) (fun t k => ?_) ?_
  · show Steps p.tables e below (s₁.setTop (mkF m 0 #[.val (.int (0 : Int32)), .val (.int q2), .val (.int q3)] [])) _
    refine XS.iloadN X0.here hx rfl (hb hby d29_0) rfl ?_
    refine XS.iloadN X0.here hx rfl (hb hby d29_1) rfl ?_
    refine XS.iloadN X0.here hx rfl (hb hby d29_2) rfl ?_
    exact k
  obtain ⟨T1, X1, e1, st1⟩ := getS2 X0 hx hZ hown (host := "") (Or.inl (hw _ (List.mem_of_getElem? (i := 128) rfl))) Via.refl e0 (O4.ext O.2) (g := (mkF m 3 #[.val (.int (0 : Int32)), .val (.int q2), .val (.int q3)] [(.int q3), (.int q2), (.int (0 : Int32))])) rfl (hb hby d29_3)
  refine own_go (B := T1.setTop (mkF m 6 #[.val (.int (0 : Int32)), .val (.int q2), .val (.int q3)] [G3, (.int q3), (.int q2), (.int (0 : Int32))])) st1 ?_
  obtain ⟨_, _, ⟨T2, L2, k2, n2⟩, -, X2, ⟨Lc2, hQ2, l2, y2, z2⟩, st2⟩ := Jvm.LawKit.callS X1 hx (y := (⟨"jdk/internal/util/Preconditions", "checkFromToIndex", "(IIILjava/util/function/BiFunction;)I"⟩ : MethodName)) hown (mvT hZ (hw _ (List.mem_of_getElem? (i := 130) rfl))) (mvT hZ (hw _ (List.mem_of_getElem? (i := 131) rfl))) (mvT hZ (hw _ (List.mem_of_getElem? (i := 129) rfl))) (mvT hZ (hw _ (List.mem_of_getElem? (i := 132) rfl))) (by decide) (backOf (W := 0) (rm30 l Z a0 hw [] q2 q3 G3 h0 n0 Z0 rG3 ba bb) hZ (hw _ (List.mem_of_getElem? (i := 132) rfl)) (hw _ (List.mem_of_getElem? (i := 129) rfl)) (by decide) (by decide)) (g := (mkF m 6 #[.val (.int (0 : Int32)), .val (.int q2), .val (.int q3)] [G3, (.int q3), (.int q2), (.int (0 : Int32))])) rfl (by rw [hml]; rfl) (argsL := [(.int (0 : Int32)), (.int q2), (.int q3), G3]) (rest := []) (lenOf pd_0 rfl) rfl (by show 2 * 0 + _ ≤ _; exact Nat.le_of_eq rfl) (hb hby d29_6) (fun _ _ => ⟨rfl, e1, Nat.le_of_ble_eq_true rfl, Nat.le_of_ble_eq_true rfl⟩)
  dsimp only [Pt.U, Pt.locs, Pt.cells, Pt.slots] at X2 l2 y2 z2 st2 hQ2
  subst l2 y2 z2
  obtain ⟨h2, e2⟩ : ∃ z, T2.heap = z := ⟨_, rfl⟩
  rw [e2] at hQ2
  obtain ⟨rfl, hL2, eq2⟩ := hQ2
  subst hL2
  have N2 := Fr.app N0 (Fr.nil n0)
  rw [eq2] at e2
  refine own_go (B := T2.setTop (mkF m 9 #[.val (.int (0 : Int32)), .val (.int q2), .val (.int q3)] [(.int (0 : Int32))])) st2 ?_
  refine own_go (B := T2.setTop (mkF m 10 #[.val (.int (0 : Int32)), .val (.int q2), .val (.int q3)] [])) (fun t k => ?_) ?_
  · show Steps p.tables e below (T2.setTop (mkF m 9 #[.val (.int (0 : Int32)), .val (.int q2), .val (.int q3)] [(.int (0 : Int32))])) _
    refine XS.pop X2.here hx rfl (hb hby d29_9) rfl rfl ?_
    exact k
  obtain ⟨fs, hr, hrun, hended, hW, hsame⟩ := X2.leave (v := none) (fun _ => rfl)
  refine own_done (X2.returnOut hx Bd.returns (hb hby d29_10) hr) hrun hended ⟨_, _, rfl, ?_, ⟨_, rfl⟩, hW, hsame.mono (by decide) (by decide)⟩
  show Q_rm29 Z h0 n0 (none) T2.heap _
  rw [e2]
  exact ⟨rfl, rfl, rfl⟩
def Q_rm27 (Z : State) (h0 : Heap) (n0 : Nat) (v : Option Value) (h : Heap) (L : List Loc) : Prop := v = none ∧ L = [] ∧ h = h0
theorem d27_0 : decode jdk_52_method_93_code 0 = .ok (.iload_n 0, 1) := by decide +kernel
theorem d27_1 : decode jdk_52_method_93_code 1 = .ok (.iload_n 1, 1) := by decide +kernel
theorem d27_2 : decode jdk_52_method_93_code 2 = .ok (.aload_n 2, 1) := by decide +kernel
theorem d27_3 : decode jdk_52_method_93_code 3 = .ok (.invokestatic 48, 3) := by decide +kernel
theorem d27_6 : decode jdk_52_method_93_code 6 = .ok (.invokestatic 241, 3) := by decide +kernel
theorem d27_9 : decode jdk_52_method_93_code 9 = .ok (.return_, 1) := by decide +kernel
theorem ef_rm27 (m : MethodId) (x0 : Int32) (x1 : Int32) (x2 : Addr) : entryFrame m #[(.int x0), (.int x1), (.ref x2)] 3 = mkF m 0 #[.val (.int x0), .val (.int x1), .val (.ref x2)] [] := by first | (simp [entryFrame, mkF, argsToLocals, Value.category, maxLocals]; done) | rfl
set_option maxRecDepth 65536 in
set_option maxHeartbeats 40000000 in
theorem rm27 (l : Launch) (Z : State) (a0 : Array Value) (hw : ∀ d ∈ tables_1, d.before a0 Z = true) (ws : List Jvm.Cond) (q2 : Int32) (tb : Addr) (kb : ClassId) (zz : Int32) (vs : List Value) (h0 : Heap) (n0 : Nat) (Z0 : n0 ≤ h0.size) (V_tb : Arv Z h0 tb kb .byte zz vs (.int (0 : Int32))) (ba : ¬ q2 < (0 : Int32)) (bb : ¬ (zz >>> ((1 : Int32) &&& 31)) < q2) (hSt : own_S Z) (O : Old Z n0 h0) :
    MetFree l (⟨"java/lang/StringUTF16", "checkBoundsBeginEnd", "(II[B)V"⟩ : MethodName) (head1 (Jvm.Cond.code (⟨"java/lang/StringUTF16", "checkBoundsBeginEnd", "(II[B)V"⟩ : MethodName) jdk_52_method_93_code 3 none :: ws) ({ frames := 2, cells := 0, slots := 0, locals := 29 } : Room)) (fun a U => a = #[(.int (0 : Int32)), (.int q2), (.ref tb)] ∧ Z.Warmed39 U.vm ∧ U.heap = h0) (fun _ _ _ _ _ => True) (fun _ U o U' => ∃ v L, o = .returned v ∧ Q_rm27 Z h0 n0 v U'.heap L ∧ FrameEnd U o U' L ({ frames := 2, cells := 0, slots := 0, locals := 29 } : Room).cells ({ frames := 2, cells := 0, slots := 0, locals := 29 } : Room).slots) := by
  refine MetFree.of_bodySF (plainFor_of_name pn_27) hisR ?_
  intro p e s m args below meth c s₁ Bd hml0 hP hK
  obtain ⟨rfl, hZ, hh⟩ := hP
  have hx := Bd.exec
  have hby := Bd.bytes
  have hml : c.maxLocals = 3 := hml0
  have hown : s.vm.findClass "java/lang/StringUTF16" = some m.cls := findClass_of_methodNamed Bd.named
  have hnm := (name_of_methodNamed Bd.named Bd.method).1
  have X0 : Stand p l e ({ frames := 2, cells := 0, slots := 0, locals := 29 } : Room) s m #[(.int (0 : Int32)), (.int q2), (.ref tb)] below meth c s₁ [] 0 0 := Stand.of_body Bd
  have e0 : s₁.heap = h0 := by rw [← hh, Bd.state]; rfl
  have N0 := Fr.nil n0
  have K : Keep h0 h0 [] := Keep.refl h0 []
  obtain ⟨G1, G3, O2, P5, O4, rG3, SA, SB, SC⟩ := id hSt
  show own_Gd p.tables e below (own_P (Q_rm27 Z h0 n0) s ({ frames := 2, cells := 0, slots := 0, locals := 29 } : Room).cells ({ frames := 2, cells := 0, slots := 0, locals := 29 } : Room).slots) _
  refine own_go (B := s₁.setTop (mkF m 0 #[.val (.int (0 : Int32)), .val (.int q2), .val (.ref tb)] [])) (fun t k => castTop (ef_rm27 m (0 : Int32) q2 tb) k) ?_
  refine own_go (B := s₁.setTop (mkF m 3 #[.val (.int (0 : Int32)), .val (.int q2), .val (.ref tb)] [(.ref tb), (.int q2), (.int (0 : Int32))])) (fun t k => ?_) ?_
  · show Steps p.tables e below (s₁.setTop (mkF m 0 #[.val (.int (0 : Int32)), .val (.int q2), .val (.ref tb)] [])) _
    refine XS.iloadN X0.here hx rfl (hb hby d27_0) rfl ?_
    refine XS.iloadN X0.here hx rfl (hb hby d27_1) rfl ?_
    refine XS.aloadN X0.here hx rfl (hb hby d27_2) rfl rfl ?_
    exact k
  obtain ⟨_, _, ⟨T1, L1, k1, n1⟩, -, X1, ⟨Lc1, hQ1, l1, y1, z1⟩, st1⟩ := Jvm.LawKit.callS X0 hx (y := (⟨"java/lang/StringUTF16", "length", "([B)I"⟩ : MethodName)) hown (mvT hZ (hw _ (List.mem_of_getElem? (i := 122) rfl))) (mvT hZ (hw _ (List.mem_of_getElem? (i := 123) rfl))) (mvT hZ (hw _ (List.mem_of_getElem? (i := 80) rfl))) (mvT hZ (hw _ (List.mem_of_getElem? (i := 124) rfl))) (by decide) (backOf (W := 2) (rm28 l Z a0 hw [] tb kb zz vs h0 n0 Z0 V_tb) hZ (hw _ (List.mem_of_getElem? (i := 124) rfl)) (hw _ (List.mem_of_getElem? (i := 80) rfl)) (by decide) (by decide)) (g := (mkF m 3 #[.val (.int (0 : Int32)), .val (.int q2), .val (.ref tb)] [(.ref tb), (.int q2), (.int (0 : Int32))])) rfl (by rw [hml]; rfl) (argsL := [(.ref tb)]) (rest := [(.int q2), (.int (0 : Int32))]) (lenOf pd_1 rfl) rfl (by show 2 * 0 + _ ≤ _; exact Nat.le_of_eq rfl) (hb hby d27_3) (fun _ _ => ⟨rfl, e0, Nat.le_of_ble_eq_true rfl, Nat.le_of_ble_eq_true rfl⟩)
  dsimp only [Pt.U, Pt.locs, Pt.cells, Pt.slots] at X1 l1 y1 z1 st1 hQ1
  subst l1 y1 z1
  obtain ⟨h1, e1⟩ : ∃ z, T1.heap = z := ⟨_, rfl⟩
  rw [e1] at hQ1
  obtain ⟨rfl, hL1, eq1⟩ := hQ1
  subst hL1
  have N1 := Fr.app N0 (Fr.nil n0)
  rw [eq1] at e1
  refine own_go (B := T1.setTop (mkF m 6 #[.val (.int (0 : Int32)), .val (.int q2), .val (.ref tb)] [(.int (zz >>> ((1 : Int32) &&& 31))), (.int q2), (.int (0 : Int32))])) st1 ?_
  obtain ⟨_, _, ⟨T2, L2, k2, n2⟩, -, X2, ⟨Lc2, hQ2, l2, y2, z2⟩, st2⟩ := Jvm.LawKit.callS X1 hx (y := (⟨"java/lang/String", "checkBoundsBeginEnd", "(III)V"⟩ : MethodName)) hown (mvT hZ (hw _ (List.mem_of_getElem? (i := 125) rfl))) (mvT hZ (hw _ (List.mem_of_getElem? (i := 126) rfl))) (mvT hZ (hw _ (List.mem_of_getElem? (i := 4) rfl))) (mvT hZ (hw _ (List.mem_of_getElem? (i := 127) rfl))) (by decide) (backOf (W := 0) (rm29 l Z a0 hw [] q2 (zz >>> ((1 : Int32) &&& 31)) h0 n0 Z0 ba bb hSt O) hZ (hw _ (List.mem_of_getElem? (i := 127) rfl)) (hw _ (List.mem_of_getElem? (i := 4) rfl)) (by decide) (by decide)) (g := (mkF m 6 #[.val (.int (0 : Int32)), .val (.int q2), .val (.ref tb)] [(.int (zz >>> ((1 : Int32) &&& 31))), (.int q2), (.int (0 : Int32))])) rfl (by rw [hml]; rfl) (argsL := [(.int (0 : Int32)), (.int q2), (.int (zz >>> ((1 : Int32) &&& 31)))]) (rest := []) (lenOf pd_2 rfl) rfl (by show 2 * 0 + _ ≤ _; exact Nat.le_of_eq rfl) (hb hby d27_6) (fun _ _ => ⟨rfl, e1, Nat.le_of_ble_eq_true rfl, Nat.le_of_ble_eq_true rfl⟩)
  dsimp only [Pt.U, Pt.locs, Pt.cells, Pt.slots] at X2 l2 y2 z2 st2 hQ2
  subst l2 y2 z2
  obtain ⟨h2, e2⟩ : ∃ z, T2.heap = z := ⟨_, rfl⟩
  rw [e2] at hQ2
  obtain ⟨rfl, hL2, eq2⟩ := hQ2
  subst hL2
  have N2 := Fr.app N1 (Fr.nil n0)
  rw [eq2] at e2
  refine own_go (B := T2.setTop (mkF m 9 #[.val (.int (0 : Int32)), .val (.int q2), .val (.ref tb)] [])) st2 ?_
  obtain ⟨fs, hr, hrun, hended, hW, hsame⟩ := X2.leave (v := none) (fun _ => rfl)
  refine own_done (X2.returnOut hx Bd.returns (hb hby d27_9) hr) hrun hended ⟨_, _, rfl, ?_, ⟨_, rfl⟩, hW, hsame.mono (by decide) (by decide)⟩
  show Q_rm27 Z h0 n0 (none) T2.heap _
  rw [e2]
  exact ⟨rfl, rfl, rfl⟩
def Q_rm14 (Z : State) (h0 : Heap) (n0 : Nat) (v : Option Value) (h : Heap) (L : List Loc) : Prop := v = some (.int (0 : Int32)) ∧ L = [] ∧ h = h0
theorem d14_0 : decode jdk_29_method_65_code 0 = .ok (.iload_n 0, 1) := by decide +kernel
theorem d14_1 : decode jdk_29_method_65_code 1 = .ok (.iload_n 1, 1) := by decide +kernel
theorem d14_2 : decode jdk_29_method_65_code 2 = .ok (.if_icmp .lt 7, 3) := by decide +kernel
theorem d14_5 : decode jdk_29_method_65_code 5 = .ok (.iload_n 0, 1) := by decide +kernel
theorem d14_6 : decode jdk_29_method_65_code 6 = .ok (.goto 4, 3) := by decide +kernel
theorem d14_9 : decode jdk_29_method_65_code 9 = .ok (.iload_n 1, 1) := by decide +kernel
theorem d14_10 : decode jdk_29_method_65_code 10 = .ok (.ireturn, 1) := by decide +kernel
theorem ef_rm14 (m : MethodId) (x0 : Int32) (x1 : Int32) : entryFrame m #[(.int x0), (.int x1)] 2 = mkF m 0 #[.val (.int x0), .val (.int x1)] [] := by first | (simp [entryFrame, mkF, argsToLocals, Value.category, maxLocals]; done) | rfl
set_option maxRecDepth 65536 in
set_option maxHeartbeats 40000000 in
theorem rm14 (l : Launch) (Z : State) (a0 : Array Value) (hw : ∀ d ∈ tables_1, d.before a0 Z = true) (ws : List Jvm.Cond)  (h0 : Heap) (n0 : Nat) (Z0 : n0 ≤ h0.size)  :
    MetFree l (⟨"java/lang/Math", "max", "(II)I"⟩ : MethodName) (head1 (Jvm.Cond.code (⟨"java/lang/Math", "max", "(II)I"⟩ : MethodName) jdk_29_method_65_code 2 (some .int) :: ws) ({ frames := 0, cells := 0, slots := 0, locals := 0 } : Room)) (fun a U => a = #[(.int (0 : Int32)), (.int (0 : Int32))] ∧ Z.Warmed39 U.vm ∧ U.heap = h0) (fun _ _ _ _ _ => True) (fun _ U o U' => ∃ v L, o = .returned v ∧ Q_rm14 Z h0 n0 v U'.heap L ∧ FrameEnd U o U' L ({ frames := 0, cells := 0, slots := 0, locals := 0 } : Room).cells ({ frames := 0, cells := 0, slots := 0, locals := 0 } : Room).slots) := by
  refine MetFree.of_bodySF (Jvm.Free.JP.mathPlain rfl (by decide +kernel)) hisR ?_
  intro p e s m args below meth c s₁ Bd hml0 hP hK
  obtain ⟨rfl, hZ, hh⟩ := hP
  have hx := Bd.exec
  have hby := Bd.bytes
  have hml : c.maxLocals = 2 := hml0
  have hown : s.vm.findClass "java/lang/Math" = some m.cls := findClass_of_methodNamed Bd.named
  have hnm := (name_of_methodNamed Bd.named Bd.method).1
  have X0 : Stand p l e ({ frames := 0, cells := 0, slots := 0, locals := 0 } : Room) s m #[(.int (0 : Int32)), (.int (0 : Int32))] below meth c s₁ [] 0 0 := Stand.of_body Bd
  have e0 : s₁.heap = h0 := by rw [← hh, Bd.state]; rfl
  have N0 := Fr.nil n0
  have K : Keep h0 h0 [] := Keep.refl h0 []
  show own_Gd p.tables e below (own_P (Q_rm14 Z h0 n0) s ({ frames := 0, cells := 0, slots := 0, locals := 0 } : Room).cells ({ frames := 0, cells := 0, slots := 0, locals := 0 } : Room).slots) _
  refine own_go (B := s₁.setTop (mkF m 0 #[.val (.int (0 : Int32)), .val (.int (0 : Int32))] [])) (fun t k => castTop (ef_rm14 m (0 : Int32) (0 : Int32)) k) ?_
  refine own_go (B := s₁.setTop (mkF m 10 #[.val (.int (0 : Int32)), .val (.int (0 : Int32))] [(.int (0 : Int32))])) (fun t k => ?_) ?_
  · show Steps p.tables e below (s₁.setTop (mkF m 0 #[.val (.int (0 : Int32)), .val (.int (0 : Int32))] [])) _
    refine XS.iloadN X0.here hx rfl (hb hby d14_0) rfl ?_
    refine XS.iloadN X0.here hx rfl (hb hby d14_1) rfl ?_
    refine XS.icmpNo X0.here hx rfl (hb hby d14_2) rfl (flt (by decide : ¬ ((0 : Int32) < (0 : Int32)))).1 ?_
    refine XS.iloadN X0.here hx rfl (hb hby d14_5) rfl ?_
    refine XS.goto X0.here hx rfl (pc0 := 6) (pc' := 10) rfl (hb hby d14_6) (by decide) (by decide) ?_
    show Steps p.tables e below (s₁.setTop (mkF m 10 #[.val (.int (0 : Int32)), .val (.int (0 : Int32))] [(.int (0 : Int32))])) _
    exact k
  obtain ⟨fs, hr, hrun, hended, hW, hsame⟩ := X0.leave (v := some (.int (0 : Int32))) (fun h => by rw [Bd.returns] at h; cases h)
  refine own_done (retOut X0 hx Bd.returns rfl (Or.inl ⟨rfl, Or.inl rfl, _, rfl⟩) (hb hby d14_10) hr) hrun hended ⟨_, _, rfl, ?_, ⟨_, rfl⟩, hW, hsame.mono (by decide) (by decide)⟩
  show Q_rm14 Z h0 n0 (some (.int (0 : Int32))) s₁.heap _
  rw [e0]
  exact ⟨rfl, rfl, rfl⟩
def Q_rm15 (Z : State) (q1 : Int32) (h0 : Heap) (n0 : Nat) (v : Option Value) (h : Heap) (L : List Loc) : Prop := v = some (.int q1) ∧ L = [] ∧ h = h0
theorem d15_0 : decode jdk_29_method_69_code 0 = .ok (.iload_n 0, 1) := by decide +kernel
theorem d15_1 : decode jdk_29_method_69_code 1 = .ok (.iload_n 1, 1) := by decide +kernel
theorem d15_2 : decode jdk_29_method_69_code 2 = .ok (.if_icmp .gt 7, 3) := by decide +kernel
theorem d15_5 : decode jdk_29_method_69_code 5 = .ok (.iload_n 0, 1) := by decide +kernel
theorem d15_6 : decode jdk_29_method_69_code 6 = .ok (.goto 4, 3) := by decide +kernel
theorem d15_9 : decode jdk_29_method_69_code 9 = .ok (.iload_n 1, 1) := by decide +kernel
theorem d15_10 : decode jdk_29_method_69_code 10 = .ok (.ireturn, 1) := by decide +kernel
theorem ef_rm15 (m : MethodId) (x0 : Int32) (x1 : Int32) : entryFrame m #[(.int x0), (.int x1)] 2 = mkF m 0 #[.val (.int x0), .val (.int x1)] [] := by first | (simp [entryFrame, mkF, argsToLocals, Value.category, maxLocals]; done) | rfl
set_option maxRecDepth 65536 in
set_option maxHeartbeats 40000000 in
theorem rm15 (l : Launch) (Z : State) (a0 : Array Value) (hw : ∀ d ∈ tables_1, d.before a0 Z = true) (ws : List Jvm.Cond) (q1 q2 : Int32) (h0 : Heap) (n0 : Nat) (Z0 : n0 ≤ h0.size) (ba : ¬ q2 < q1) :
    MetFree l (⟨"java/lang/Math", "min", "(II)I"⟩ : MethodName) (head1 (Jvm.Cond.code (⟨"java/lang/Math", "min", "(II)I"⟩ : MethodName) jdk_29_method_69_code 2 (some .int) :: ws) ({ frames := 0, cells := 0, slots := 0, locals := 0 } : Room)) (fun a U => a = #[(.int q1), (.int q2)] ∧ Z.Warmed39 U.vm ∧ U.heap = h0) (fun _ _ _ _ _ => True) (fun _ U o U' => ∃ v L, o = .returned v ∧ Q_rm15 Z q1 h0 n0 v U'.heap L ∧ FrameEnd U o U' L ({ frames := 0, cells := 0, slots := 0, locals := 0 } : Room).cells ({ frames := 0, cells := 0, slots := 0, locals := 0 } : Room).slots) := by
  refine MetFree.of_bodySF (Jvm.Free.JP.mathPlain rfl (by decide +kernel)) hisR ?_
  intro p e s m args below meth c s₁ Bd hml0 hP hK
  obtain ⟨rfl, hZ, hh⟩ := hP
  have hx := Bd.exec
  have hby := Bd.bytes
  have hml : c.maxLocals = 2 := hml0
  have hown : s.vm.findClass "java/lang/Math" = some m.cls := findClass_of_methodNamed Bd.named
  have hnm := (name_of_methodNamed Bd.named Bd.method).1
  have X0 : Stand p l e ({ frames := 0, cells := 0, slots := 0, locals := 0 } : Room) s m #[(.int q1), (.int q2)] below meth c s₁ [] 0 0 := Stand.of_body Bd
  have e0 : s₁.heap = h0 := by rw [← hh, Bd.state]; rfl
  have N0 := Fr.nil n0
  have K : Keep h0 h0 [] := Keep.refl h0 []
  show own_Gd p.tables e below (own_P (Q_rm15 Z q1 h0 n0) s ({ frames := 0, cells := 0, slots := 0, locals := 0 } : Room).cells ({ frames := 0, cells := 0, slots := 0, locals := 0 } : Room).slots) _
  refine own_go (B := s₁.setTop (mkF m 0 #[.val (.int q1), .val (.int q2)] [])) (fun t k => castTop (ef_rm15 m q1 q2) k) ?_
  refine own_go (B := s₁.setTop (mkF m 10 #[.val (.int q1), .val (.int q2)] [(.int q1)])) (fun t k => ?_) ?_
  · show Steps p.tables e below (s₁.setTop (mkF m 0 #[.val (.int q1), .val (.int q2)] [])) _
    refine XS.iloadN X0.here hx rfl (hb hby d15_0) rfl ?_
    refine XS.iloadN X0.here hx rfl (hb hby d15_1) rfl ?_
    refine XS.icmpNo X0.here hx rfl (hb hby d15_2) rfl (flt (ba : ¬ (q2 < q1))).2.2.1 ?_
    refine XS.iloadN X0.here hx rfl (hb hby d15_5) rfl ?_
    refine XS.goto X0.here hx rfl (pc0 := 6) (pc' := 10) rfl (hb hby d15_6) (by decide) (by decide) ?_
    show Steps p.tables e below (s₁.setTop (mkF m 10 #[.val (.int q1), .val (.int q2)] [(.int q1)])) _
    exact k
  obtain ⟨fs, hr, hrun, hended, hW, hsame⟩ := X0.leave (v := some (.int q1)) (fun h => by rw [Bd.returns] at h; cases h)
  refine own_done (retOut X0 hx Bd.returns rfl (Or.inl ⟨rfl, Or.inl rfl, _, rfl⟩) (hb hby d15_10) hr) hrun hended ⟨_, _, rfl, ?_, ⟨_, rfl⟩, hW, hsame.mono (by decide) (by decide)⟩
  show Q_rm15 Z q1 h0 n0 (some (.int q1)) s₁.heap _
  rw [e0]
  exact ⟨rfl, rfl, rfl⟩
def Q_rm13 (Z : State) (h0 : Heap) (n0 : Nat) (v : Option Value) (h : Heap) (L : List Loc) : Prop := v = some (.int (1 : Int32)) ∧ L = [] ∧ h = h0
theorem d13_0 : decode jdk_43_method_4_code 0 = .ok (.iload_n 0, 1) := by decide +kernel
theorem d13_1 : decode jdk_43_method_4_code 1 = .ok (.ifCond .lt 14, 3) := by decide +kernel
theorem d13_4 : decode jdk_43_method_4_code 4 = .ok (.iload_n 0, 1) := by decide +kernel
theorem d13_5 : decode jdk_43_method_4_code 5 = .ok (.sipush 255, 3) := by decide +kernel
theorem d13_8 : decode jdk_43_method_4_code 8 = .ok (.if_icmp .gt 7, 3) := by decide +kernel
theorem d13_11 : decode jdk_43_method_4_code 11 = .ok (.iconst 1, 1) := by decide +kernel
theorem d13_12 : decode jdk_43_method_4_code 12 = .ok (.goto 4, 3) := by decide +kernel
theorem d13_15 : decode jdk_43_method_4_code 15 = .ok (.iconst 0, 1) := by decide +kernel
theorem d13_16 : decode jdk_43_method_4_code 16 = .ok (.ireturn, 1) := by decide +kernel
theorem ef_rm13 (m : MethodId) (x0 : Int32) : entryFrame m #[(.int x0)] 1 = mkF m 0 #[.val (.int x0)] [] := by first | (simp [entryFrame, mkF, argsToLocals, Value.category, maxLocals]; done) | rfl
set_option maxRecDepth 65536 in
set_option maxHeartbeats 40000000 in
theorem rm13 (l : Launch) (Z : State) (a0 : Array Value) (hw : ∀ d ∈ tables_1, d.before a0 Z = true) (ws : List Jvm.Cond)  (h0 : Heap) (n0 : Nat) (Z0 : n0 ≤ h0.size)  :
    MetFree l (⟨"java/lang/StringLatin1", "canEncode", "(I)Z"⟩ : MethodName) (head1 (Jvm.Cond.code (⟨"java/lang/StringLatin1", "canEncode", "(I)Z"⟩ : MethodName) jdk_43_method_4_code 1 (some .boolean) :: ws) ({ frames := 0, cells := 0, slots := 0, locals := 0 } : Room)) (fun a U => a = #[(.int (47 : Int32))] ∧ Z.Warmed39 U.vm ∧ U.heap = h0) (fun _ _ _ _ _ => True) (fun _ U o U' => ∃ v L, o = .returned v ∧ Q_rm13 Z h0 n0 v U'.heap L ∧ FrameEnd U o U' L ({ frames := 0, cells := 0, slots := 0, locals := 0 } : Room).cells ({ frames := 0, cells := 0, slots := 0, locals := 0 } : Room).slots) := by
  refine MetFree.of_bodySF (plainFor_of_name pn_13) hisR ?_
  intro p e s m args below meth c s₁ Bd hml0 hP hK
  obtain ⟨rfl, hZ, hh⟩ := hP
  have hx := Bd.exec
  have hby := Bd.bytes
  have hml : c.maxLocals = 1 := hml0
  have hown : s.vm.findClass "java/lang/StringLatin1" = some m.cls := findClass_of_methodNamed Bd.named
  have hnm := (name_of_methodNamed Bd.named Bd.method).1
  have X0 : Stand p l e ({ frames := 0, cells := 0, slots := 0, locals := 0 } : Room) s m #[(.int (47 : Int32))] below meth c s₁ [] 0 0 := Stand.of_body Bd
  have e0 : s₁.heap = h0 := by rw [← hh, Bd.state]; rfl
  have N0 := Fr.nil n0
  have K : Keep h0 h0 [] := Keep.refl h0 []
  show own_Gd p.tables e below (own_P (Q_rm13 Z h0 n0) s ({ frames := 0, cells := 0, slots := 0, locals := 0 } : Room).cells ({ frames := 0, cells := 0, slots := 0, locals := 0 } : Room).slots) _
  refine own_go (B := s₁.setTop (mkF m 0 #[.val (.int (47 : Int32))] [])) (fun t k => castTop (ef_rm13 m (47 : Int32)) k) ?_
  refine own_go (B := s₁.setTop (mkF m 16 #[.val (.int (47 : Int32))] [(.int (1 : Int32))])) (fun t k => ?_) ?_
  · show Steps p.tables e below (s₁.setTop (mkF m 0 #[.val (.int (47 : Int32))] [])) _
    refine XS.iloadN X0.here hx rfl (hb hby d13_0) rfl ?_
    refine XS.ifNo X0.here hx rfl (hb hby d13_1) rfl ((if0 _ _).trans (flt (by decide : ¬ ((47 : Int32) < (0 : Int32)))).1) ?_
    refine XS.iloadN X0.here hx rfl (hb hby d13_4) rfl ?_
    refine XS.sipush X0.here hx rfl (hb hby d13_5) ?_
    refine XS.icmpNo X0.here hx rfl (hb hby d13_8) rfl (flt (by decide : ¬ ((255 : Int32) < (47 : Int32)))).2.2.1 ?_
    show Steps p.tables e below (s₁.setTop (mkF m 11 #[.val (.int (47 : Int32))] [])) _
    refine XS.iconst X0.here hx rfl (hb hby d13_11) ?_
    refine XS.goto X0.here hx rfl (pc0 := 12) (pc' := 16) rfl (hb hby d13_12) (by decide) (by decide) ?_
    exact k
  obtain ⟨fs, hr, hrun, hended, hW, hsame⟩ := X0.leave (v := some (.int (1 : Int32))) (fun h => by rw [Bd.returns] at h; cases h)
  refine own_done (retN X0 hx (t := .boolean) Bd.returns (by simp) (hb hby d13_16) hr) hrun hended ⟨_, _, rfl, ?_, ⟨_, rfl⟩, hW, hsame.mono (by decide) (by decide)⟩
  show Q_rm13 Z h0 n0 (some (.int (1 : Int32))) s₁.heap _
  rw [e0]
  exact ⟨rfl, rfl, rfl⟩
def Q_rm24 (Z : State) (u : UInt16) (h0 : Heap) (n0 : Nat) (v : Option Value) (h : Heap) (L : List Loc) : Prop := v = some (.int (own_w u)) ∧ L = [] ∧ h = h0
theorem d24_0 : decode jdk_52_method_5_code 0 = .ok (.getstatic 44, 3) := by decide +kernel
theorem d24_3 : decode jdk_52_method_5_code 3 = .ok (.ifCond .ne 25, 3) := by decide +kernel
theorem d24_6 : decode jdk_52_method_5_code 6 = .ok (.iload_n 1, 1) := by decide +kernel
theorem d24_7 : decode jdk_52_method_5_code 7 = .ok (.ifCond .lt 11, 3) := by decide +kernel
theorem d24_10 : decode jdk_52_method_5_code 10 = .ok (.iload_n 1, 1) := by decide +kernel
theorem d24_11 : decode jdk_52_method_5_code 11 = .ok (.aload_n 0, 1) := by decide +kernel
theorem d24_12 : decode jdk_52_method_5_code 12 = .ok (.invokestatic 48, 3) := by decide +kernel
theorem d24_15 : decode jdk_52_method_5_code 15 = .ok (.if_icmp .lt 13, 3) := by decide +kernel
theorem d24_18 : decode jdk_52_method_5_code 18 = .ok (.new 52, 3) := by decide +kernel
theorem d24_21 : decode jdk_52_method_5_code 21 = .ok (.dup, 1) := by decide +kernel
theorem d24_22 : decode jdk_52_method_5_code 22 = .ok (.ldc 54, 2) := by decide +kernel
theorem d24_24 : decode jdk_52_method_5_code 24 = .ok (.invokespecial 56, 3) := by decide +kernel
theorem d24_27 : decode jdk_52_method_5_code 27 = .ok (.athrow, 1) := by decide +kernel
theorem d24_28 : decode jdk_52_method_5_code 28 = .ok (.iload_n 1, 1) := by decide +kernel
theorem d24_29 : decode jdk_52_method_5_code 29 = .ok (.iconst 1, 1) := by decide +kernel
theorem d24_30 : decode jdk_52_method_5_code 30 = .ok (.ishl, 1) := by decide +kernel
theorem d24_31 : decode jdk_52_method_5_code 31 = .ok (.istore_n 1, 1) := by decide +kernel
theorem d24_32 : decode jdk_52_method_5_code 32 = .ok (.aload_n 0, 1) := by decide +kernel
theorem d24_33 : decode jdk_52_method_5_code 33 = .ok (.iload_n 1, 1) := by decide +kernel
theorem d24_34 : decode jdk_52_method_5_code 34 = .ok (.iinc 1 1, 3) := by decide +kernel
theorem d24_37 : decode jdk_52_method_5_code 37 = .ok (.baload, 1) := by decide +kernel
theorem d24_38 : decode jdk_52_method_5_code 38 = .ok (.sipush 255, 3) := by decide +kernel
theorem d24_41 : decode jdk_52_method_5_code 41 = .ok (.iand, 1) := by decide +kernel
theorem d24_42 : decode jdk_52_method_5_code 42 = .ok (.getstatic 59, 3) := by decide +kernel
theorem d24_45 : decode jdk_52_method_5_code 45 = .ok (.ishl, 1) := by decide +kernel
theorem d24_46 : decode jdk_52_method_5_code 46 = .ok (.aload_n 0, 1) := by decide +kernel
theorem d24_47 : decode jdk_52_method_5_code 47 = .ok (.iload_n 1, 1) := by decide +kernel
theorem d24_48 : decode jdk_52_method_5_code 48 = .ok (.baload, 1) := by decide +kernel
theorem d24_49 : decode jdk_52_method_5_code 49 = .ok (.sipush 255, 3) := by decide +kernel
theorem d24_52 : decode jdk_52_method_5_code 52 = .ok (.iand, 1) := by decide +kernel
theorem d24_53 : decode jdk_52_method_5_code 53 = .ok (.getstatic 63, 3) := by decide +kernel
theorem d24_56 : decode jdk_52_method_5_code 56 = .ok (.ishl, 1) := by decide +kernel
theorem d24_57 : decode jdk_52_method_5_code 57 = .ok (.ior, 1) := by decide +kernel
theorem d24_58 : decode jdk_52_method_5_code 58 = .ok (.i2c, 1) := by decide +kernel
theorem d24_59 : decode jdk_52_method_5_code 59 = .ok (.ireturn, 1) := by decide +kernel
theorem ef_rm24 (m : MethodId) (x0 : Addr) (x1 : Int32) : entryFrame m #[(.ref x0), (.int x1)] 2 = mkF m 0 #[.val (.ref x0), .val (.int x1)] [] := by first | (simp [entryFrame, mkF, argsToLocals, Value.category, maxLocals]; done) | rfl
set_option maxRecDepth 65536 in
set_option maxHeartbeats 40000000 in
theorem rm24 (l : Launch) (Z : State) (a0 : Array Value) (hw : ∀ d ∈ tables_1, d.before a0 Z = true) (ws : List Jvm.Cond) (tb : Addr) (kb : ClassId) (zz : Int32) (vs : List Value) (q1 : Int32) (u : UInt16) (h0 : Heap) (n0 : Nat) (Z0 : n0 ≤ h0.size) (V_tb : Arv Z h0 tb kb .byte zz vs (.int (0 : Int32))) (hG : own_G zz vs q1 u) (hSt : own_S Z) (O : Old Z n0 h0) :
    MetFree l (⟨"java/lang/StringUTF16", "getChar", "([BI)C"⟩ : MethodName) (head1 (Jvm.Cond.code (⟨"java/lang/StringUTF16", "getChar", "([BI)C"⟩ : MethodName) jdk_52_method_5_code 2 (some .char) :: ws) ({ frames := 0, cells := 0, slots := 0, locals := 0 } : Room)) (fun a U => a = #[(.ref tb), (.int q1)] ∧ Z.Warmed39 U.vm ∧ U.heap = h0) (fun _ _ _ _ _ => True) (fun _ U o U' => ∃ v L, o = .returned v ∧ Q_rm24 Z u h0 n0 v U'.heap L ∧ FrameEnd U o U' L ({ frames := 0, cells := 0, slots := 0, locals := 0 } : Room).cells ({ frames := 0, cells := 0, slots := 0, locals := 0 } : Room).slots) := by
  refine MetFree.of_bodySF (plainFor_of_name pn_24) hisR ?_
  intro p e s m args below meth c s₁ Bd hml0 hP hK
  obtain ⟨rfl, hZ, hh⟩ := hP
  have hx := Bd.exec
  have hby := Bd.bytes
  have hml : c.maxLocals = 2 := hml0
  have hown : s.vm.findClass "java/lang/StringUTF16" = some m.cls := findClass_of_methodNamed Bd.named
  have hnm := (name_of_methodNamed Bd.named Bd.method).1
  have X0 : Stand p l e ({ frames := 0, cells := 0, slots := 0, locals := 0 } : Room) s m #[(.ref tb), (.int q1)] below meth c s₁ [] 0 0 := Stand.of_body Bd
  have e0 : s₁.heap = h0 := by rw [← hh, Bd.state]; rfl
  have N0 := Fr.nil n0
  have K : Keep h0 h0 [] := Keep.refl h0 []
  obtain ⟨G1, G3, O2, P5, O4, rG3, SA, SB, SC⟩ := id hSt
  show own_Gd p.tables e below (own_P (Q_rm24 Z u h0 n0) s ({ frames := 0, cells := 0, slots := 0, locals := 0 } : Room).cells ({ frames := 0, cells := 0, slots := 0, locals := 0 } : Room).slots) _
  refine own_go (B := s₁.setTop (mkF m 0 #[.val (.ref tb), .val (.int q1)] [])) (fun t k => castTop (ef_rm24 m tb q1) k) ?_
  obtain ⟨T1, X1, e1, st1⟩ := getS2 X0 hx hZ hown (host := "") (Or.inl (hw _ (List.mem_of_getElem? (i := 104) rfl))) Via.refl e0 (SA.ext O.2) (g := (mkF m 0 #[.val (.ref tb), .val (.int q1)] [])) rfl (hb hby d24_0)
  refine own_go (B := T1.setTop (mkF m 3 #[.val (.ref tb), .val (.int q1)] [(.int (1 : Int32))])) st1 ?_
  refine own_go (B := T1.setTop (mkF m 37 #[.val (.ref tb), .val (.int ((q1 <<< ((1 : Int32) &&& 31)) + (1 : Int32)))] [(.int (q1 <<< ((1 : Int32) &&& 31))), (.ref tb)])) (fun t k => ?_) ?_
  · show Steps p.tables e below (T1.setTop (mkF m 3 #[.val (.ref tb), .val (.int q1)] [(.int (1 : Int32))])) _
    refine XS.ifYes X1.here hx rfl (pc0 := 3) (pc' := 28) rfl (hb hby d24_3) rfl ((if0 _ _).trans (feq (by decide : ¬ ((1 : Int32) = (0 : Int32)))).2) (by decide) (by decide) ?_
    refine XS.iloadN X1.here hx rfl (hb hby d24_28) rfl ?_
    refine XS.iconst X1.here hx rfl (hb hby d24_29) ?_
    refine XS.ishl X1.here hx rfl (hb hby d24_30) rfl ?_
    refine XS.istoreN X1.here hx rfl (hb hby d24_31) rfl (l' := #[.val (.ref tb), .val (.int (q1 <<< ((1 : Int32) &&& 31)))]) rfl ?_
    show Steps p.tables e below (T1.setTop (mkF m 32 #[.val (.ref tb), .val (.int (q1 <<< ((1 : Int32) &&& 31)))] [])) _
    refine XS.aloadN X1.here hx rfl (hb hby d24_32) rfl rfl ?_
    refine XS.iloadN X1.here hx rfl (hb hby d24_33) rfl ?_
    refine XS.iinc X1.here hx rfl (hb hby d24_34) rfl (l' := #[.val (.ref tb), .val (.int ((q1 <<< ((1 : Int32) &&& 31)) + (1 : Int32)))]) rfl ?_
    exact k
  obtain ⟨cl2, Ar2, qa2, Sa2, Na2, Ha2, Ga2⟩ := id V_tb
  have hin2 : ¬ ((q1 <<< ((1 : Int32) &&& 31)) < 0 ∨ cl2.slots.size ≤ ((q1 <<< ((1 : Int32) &&& 31))).toNatClampNeg) := inb_of Sa2 hG.1
  have hat2 : cl2.slots[((q1 <<< ((1 : Int32) &&& 31))).toNatClampNeg]? = some (.int (own_lo u)) := Ha2.at hin2 hG.2.2.1
  refine own_go (B := T1.setTop (mkF m 42 #[.val (.ref tb), .val (.int ((q1 <<< ((1 : Int32) &&& 31)) + (1 : Int32)))] [(.int ((own_lo u) &&& (255 : Int32)))])) (fun t k => ?_) ?_
  · show Steps p.tables e below (T1.setTop (mkF m 37 #[.val (.ref tb), .val (.int ((q1 <<< ((1 : Int32) &&& 31)) + (1 : Int32)))] [(.int (q1 <<< ((1 : Int32) &&& 31))), (.ref tb)])) _
    refine X1.baloadBytes hx (j := (q1 <<< ((1 : Int32) &&& 31))) (v := (.int (own_lo u))) (by rw [e1]; exact Ar2.1) (State.isArrayOf_alike hZ.alike Ar2.2.1) Ar2.2.2 hin2 hat2 (g := (mkF m 37 #[.val (.ref tb), .val (.int ((q1 <<< ((1 : Int32) &&& 31)) + (1 : Int32)))] [(.int (q1 <<< ((1 : Int32) &&& 31))), (.ref tb)])) rfl rfl (hb hby d24_37) _ ?_
    refine XS.sipush X1.here hx rfl (hb hby d24_38) ?_
    refine XS.iand X1.here hx rfl (hb hby d24_41) rfl ?_
    exact k
  obtain ⟨T3, X3, e3, st3⟩ := getS2 X1 hx hZ hown (host := "") (Or.inl (hw _ (List.mem_of_getElem? (i := 105) rfl))) Via.refl e1 (SB.ext O.2) (g := (mkF m 42 #[.val (.ref tb), .val (.int ((q1 <<< ((1 : Int32) &&& 31)) + (1 : Int32)))] [(.int ((own_lo u) &&& (255 : Int32)))])) rfl (hb hby d24_42)
  refine own_go (B := T3.setTop (mkF m 45 #[.val (.ref tb), .val (.int ((q1 <<< ((1 : Int32) &&& 31)) + (1 : Int32)))] [(.int (0 : Int32)), (.int ((own_lo u) &&& (255 : Int32)))])) st3 ?_
  refine own_go (B := T3.setTop (mkF m 48 #[.val (.ref tb), .val (.int ((q1 <<< ((1 : Int32) &&& 31)) + (1 : Int32)))] [(.int ((q1 <<< ((1 : Int32) &&& 31)) + (1 : Int32))), (.ref tb), (.int (((own_lo u) &&& (255 : Int32)) <<< ((0 : Int32) &&& 31)))])) (fun t k => ?_) ?_
  · show Steps p.tables e below (T3.setTop (mkF m 45 #[.val (.ref tb), .val (.int ((q1 <<< ((1 : Int32) &&& 31)) + (1 : Int32)))] [(.int (0 : Int32)), (.int ((own_lo u) &&& (255 : Int32)))])) _
    refine XS.ishl X3.here hx rfl (hb hby d24_45) rfl ?_
    refine XS.aloadN X3.here hx rfl (hb hby d24_46) rfl rfl ?_
    refine XS.iloadN X3.here hx rfl (hb hby d24_47) rfl ?_
    exact k
  obtain ⟨cl4, Ar4, qa4, Sa4, Na4, Ha4, Ga4⟩ := id V_tb
  have hin4 : ¬ (((q1 <<< ((1 : Int32) &&& 31)) + (1 : Int32)) < 0 ∨ cl4.slots.size ≤ (((q1 <<< ((1 : Int32) &&& 31)) + (1 : Int32))).toNatClampNeg) := inb_of Sa4 hG.2.1
  have hat4 : cl4.slots[(((q1 <<< ((1 : Int32) &&& 31)) + (1 : Int32))).toNatClampNeg]? = some (.int (own_hi u)) := Ha4.at hin4 hG.2.2.2
  refine own_go (B := T3.setTop (mkF m 53 #[.val (.ref tb), .val (.int ((q1 <<< ((1 : Int32) &&& 31)) + (1 : Int32)))] [(.int ((own_hi u) &&& (255 : Int32))), (.int (((own_lo u) &&& (255 : Int32)) <<< ((0 : Int32) &&& 31)))])) (fun t k => ?_) ?_
  · show Steps p.tables e below (T3.setTop (mkF m 48 #[.val (.ref tb), .val (.int ((q1 <<< ((1 : Int32) &&& 31)) + (1 : Int32)))] [(.int ((q1 <<< ((1 : Int32) &&& 31)) + (1 : Int32))), (.ref tb), (.int (((own_lo u) &&& (255 : Int32)) <<< ((0 : Int32) &&& 31)))])) _
    refine X3.baloadBytes hx (j := ((q1 <<< ((1 : Int32) &&& 31)) + (1 : Int32))) (v := (.int (own_hi u))) (by rw [e3]; exact Ar4.1) (State.isArrayOf_alike hZ.alike Ar4.2.1) Ar4.2.2 hin4 hat4 (g := (mkF m 48 #[.val (.ref tb), .val (.int ((q1 <<< ((1 : Int32) &&& 31)) + (1 : Int32)))] [(.int ((q1 <<< ((1 : Int32) &&& 31)) + (1 : Int32))), (.ref tb), (.int (((own_lo u) &&& (255 : Int32)) <<< ((0 : Int32) &&& 31)))])) rfl rfl (hb hby d24_48) _ ?_
    refine XS.sipush X3.here hx rfl (hb hby d24_49) ?_
    refine XS.iand X3.here hx rfl (hb hby d24_52) rfl ?_
    exact k
  obtain ⟨T5, X5, e5, st5⟩ := getS2 X3 hx hZ hown (host := "") (Or.inl (hw _ (List.mem_of_getElem? (i := 106) rfl))) Via.refl e3 (SC.ext O.2) (g := (mkF m 53 #[.val (.ref tb), .val (.int ((q1 <<< ((1 : Int32) &&& 31)) + (1 : Int32)))] [(.int ((own_hi u) &&& (255 : Int32))), (.int (((own_lo u) &&& (255 : Int32)) <<< ((0 : Int32) &&& 31)))])) rfl (hb hby d24_53)
  refine own_go (B := T5.setTop (mkF m 56 #[.val (.ref tb), .val (.int ((q1 <<< ((1 : Int32) &&& 31)) + (1 : Int32)))] [(.int (8 : Int32)), (.int ((own_hi u) &&& (255 : Int32))), (.int (((own_lo u) &&& (255 : Int32)) <<< ((0 : Int32) &&& 31)))])) st5 ?_
  refine own_go (B := T5.setTop (mkF m 59 #[.val (.ref tb), .val (.int ((q1 <<< ((1 : Int32) &&& 31)) + (1 : Int32)))] [(.int (((((own_lo u) &&& (255 : Int32)) <<< ((0 : Int32) &&& 31)) ||| (((own_hi u) &&& (255 : Int32)) <<< ((8 : Int32) &&& 31))).toUInt32.toUInt16.toUInt32.toInt32))])) (fun t k => ?_) ?_
  · show Steps p.tables e below (T5.setTop (mkF m 56 #[.val (.ref tb), .val (.int ((q1 <<< ((1 : Int32) &&& 31)) + (1 : Int32)))] [(.int (8 : Int32)), (.int ((own_hi u) &&& (255 : Int32))), (.int (((own_lo u) &&& (255 : Int32)) <<< ((0 : Int32) &&& 31)))])) _
    refine XS.ishl X5.here hx rfl (hb hby d24_56) rfl ?_
    refine XS.ior X5.here hx rfl (hb hby d24_57) rfl ?_
    refine XS.i2c X5.here hx rfl (hb hby d24_58) rfl ?_
    exact k
  obtain ⟨fs, hr, hrun, hended, hW, hsame⟩ := X5.leave (v := some (.int (nar .char (((((own_lo u) &&& (255 : Int32)) <<< ((0 : Int32) &&& 31)) ||| (((own_hi u) &&& (255 : Int32)) <<< ((8 : Int32) &&& 31))).toUInt32.toUInt16.toUInt32.toInt32)))) (fun h => by rw [Bd.returns] at h; cases h)
  refine own_done (retN X5 hx (t := .char) Bd.returns (by simp) (hb hby d24_59) hr) hrun hended ⟨_, _, rfl, ?_, ⟨_, rfl⟩, hW, hsame.mono (by decide) (by decide)⟩
  show Q_rm24 Z u h0 n0 (some (.int (nar .char (((((own_lo u) &&& (255 : Int32)) <<< ((0 : Int32) &&& 31)) ||| (((own_hi u) &&& (255 : Int32)) <<< ((8 : Int32) &&& 31))).toUInt32.toUInt16.toUInt32.toInt32)))) T5.heap _
  rw [e5]
  exact ⟨congrArg (fun z => some (Value.int z)) (own_gc u), rfl, rfl⟩
def Q_rm22 (Z : State) (nn : Int32) (h0 : Heap) (n0 : Nat) (v : Option Value) (h : Heap) (L : List Loc) : Prop := v = some (.int (nn <<< ((1 : Int32) &&& 31))) ∧ L = [] ∧ h = h0
theorem d22_0 : decode jdk_52_method_3_code 0 = .ok (.iload_n 0, 1) := by decide +kernel
theorem d22_1 : decode jdk_52_method_3_code 1 = .ok (.ifCond .ge 11, 3) := by decide +kernel
theorem d22_4 : decode jdk_52_method_3_code 4 = .ok (.new 17, 3) := by decide +kernel
theorem d22_7 : decode jdk_52_method_3_code 7 = .ok (.dup, 1) := by decide +kernel
theorem d22_8 : decode jdk_52_method_3_code 8 = .ok (.invokespecial 19, 3) := by decide +kernel
theorem d22_11 : decode jdk_52_method_3_code 11 = .ok (.athrow, 1) := by decide +kernel
theorem d22_12 : decode jdk_52_method_3_code 12 = .ok (.iload_n 0, 1) := by decide +kernel
theorem d22_13 : decode jdk_52_method_3_code 13 = .ok (.ldc 20, 2) := by decide +kernel
theorem d22_15 : decode jdk_52_method_3_code 15 = .ok (.if_icmp .lt 40, 3) := by decide +kernel
theorem d22_18 : decode jdk_52_method_3_code 18 = .ok (.new 21, 3) := by decide +kernel
theorem d22_21 : decode jdk_52_method_3_code 21 = .ok (.dup, 1) := by decide +kernel
theorem d22_22 : decode jdk_52_method_3_code 22 = .ok (.new 23, 3) := by decide +kernel
theorem d22_25 : decode jdk_52_method_3_code 25 = .ok (.dup, 1) := by decide +kernel
theorem d22_26 : decode jdk_52_method_3_code 26 = .ok (.invokespecial 25, 3) := by decide +kernel
theorem d22_29 : decode jdk_52_method_3_code 29 = .ok (.ldc 26, 2) := by decide +kernel
theorem d22_31 : decode jdk_52_method_3_code 31 = .ok (.invokevirtual 28, 3) := by decide +kernel
theorem d22_34 : decode jdk_52_method_3_code 34 = .ok (.iload_n 0, 1) := by decide +kernel
theorem d22_35 : decode jdk_52_method_3_code 35 = .ok (.invokevirtual 32, 3) := by decide +kernel
theorem d22_38 : decode jdk_52_method_3_code 38 = .ok (.ldc 35, 2) := by decide +kernel
theorem d22_40 : decode jdk_52_method_3_code 40 = .ok (.invokevirtual 28, 3) := by decide +kernel
theorem d22_43 : decode jdk_52_method_3_code 43 = .ok (.ldc 20, 2) := by decide +kernel
theorem d22_45 : decode jdk_52_method_3_code 45 = .ok (.invokevirtual 32, 3) := by decide +kernel
theorem d22_48 : decode jdk_52_method_3_code 48 = .ok (.invokevirtual 37, 3) := by decide +kernel
theorem d22_51 : decode jdk_52_method_3_code 51 = .ok (.invokespecial 41, 3) := by decide +kernel
theorem d22_54 : decode jdk_52_method_3_code 54 = .ok (.athrow, 1) := by decide +kernel
theorem d22_55 : decode jdk_52_method_3_code 55 = .ok (.iload_n 0, 1) := by decide +kernel
theorem d22_56 : decode jdk_52_method_3_code 56 = .ok (.iconst 1, 1) := by decide +kernel
theorem d22_57 : decode jdk_52_method_3_code 57 = .ok (.ishl, 1) := by decide +kernel
theorem d22_58 : decode jdk_52_method_3_code 58 = .ok (.ireturn, 1) := by decide +kernel
theorem ef_rm22 (m : MethodId) (x0 : Int32) : entryFrame m #[(.int x0)] 1 = mkF m 0 #[.val (.int x0)] [] := by first | (simp [entryFrame, mkF, argsToLocals, Value.category, maxLocals]; done) | rfl
set_option maxRecDepth 65536 in
set_option maxHeartbeats 40000000 in
theorem rm22 (l : Launch) (Z : State) (a0 : Array Value) (hw : ∀ d ∈ tables_1, d.before a0 Z = true) (ws : List Jvm.Cond) (nn : Int32) (h0 : Heap) (n0 : Nat) (Z0 : n0 ≤ h0.size) (ba : ¬ nn < (0 : Int32)) (bb : nn < (1073741823 : Int32)) :
    MetFree l (⟨"java/lang/StringUTF16", "newBytesLength", "(I)I"⟩ : MethodName) (head1 (Jvm.Cond.code (⟨"java/lang/StringUTF16", "newBytesLength", "(I)I"⟩ : MethodName) jdk_52_method_3_code 1 (some .int) :: ws) ({ frames := 0, cells := 0, slots := 0, locals := 0 } : Room)) (fun a U => a = #[(.int nn)] ∧ Z.Warmed39 U.vm ∧ U.heap = h0) (fun _ _ _ _ _ => True) (fun _ U o U' => ∃ v L, o = .returned v ∧ Q_rm22 Z nn h0 n0 v U'.heap L ∧ FrameEnd U o U' L ({ frames := 0, cells := 0, slots := 0, locals := 0 } : Room).cells ({ frames := 0, cells := 0, slots := 0, locals := 0 } : Room).slots) := by
  refine MetFree.of_bodySF (plainFor_of_name pn_22) hisR ?_
  intro p e s m args below meth c s₁ Bd hml0 hP hK
  obtain ⟨rfl, hZ, hh⟩ := hP
  have hx := Bd.exec
  have hby := Bd.bytes
  have hml : c.maxLocals = 1 := hml0
  have hown : s.vm.findClass "java/lang/StringUTF16" = some m.cls := findClass_of_methodNamed Bd.named
  have hnm := (name_of_methodNamed Bd.named Bd.method).1
  have X0 : Stand p l e ({ frames := 0, cells := 0, slots := 0, locals := 0 } : Room) s m #[(.int nn)] below meth c s₁ [] 0 0 := Stand.of_body Bd
  have e0 : s₁.heap = h0 := by rw [← hh, Bd.state]; rfl
  have N0 := Fr.nil n0
  have K : Keep h0 h0 [] := Keep.refl h0 []
  show own_Gd p.tables e below (own_P (Q_rm22 Z nn h0 n0) s ({ frames := 0, cells := 0, slots := 0, locals := 0 } : Room).cells ({ frames := 0, cells := 0, slots := 0, locals := 0 } : Room).slots) _
  refine own_go (B := s₁.setTop (mkF m 0 #[.val (.int nn)] [])) (fun t k => castTop (ef_rm22 m nn) k) ?_
  refine own_go (B := s₁.setTop (mkF m 58 #[.val (.int nn)] [(.int (nn <<< ((1 : Int32) &&& 31)))])) (fun t k => ?_) ?_
  · show Steps p.tables e below (s₁.setTop (mkF m 0 #[.val (.int nn)] [])) _
    refine XS.iloadN X0.here hx rfl (hb hby d22_0) rfl ?_
    refine XS.ifYes X0.here hx rfl (pc0 := 1) (pc' := 12) rfl (hb hby d22_1) rfl ((if0 _ _).trans (flt (ba : ¬ (nn < (0 : Int32)))).2.1) (by decide) (by decide) ?_
    refine XS.iloadN X0.here hx rfl (hb hby d22_12) rfl ?_
    show Steps p.tables e below (s₁.setTop (mkF m 13 #[.val (.int nn)] [(.int nn)])) _
    refine X0.ldcI hx hown (mvT hZ (hw _ (List.mem_of_getElem? (i := 100) rfl))) (g := (mkF m 13 #[.val (.int nn)] [(.int nn)])) rfl (hb hby d22_13) ?_
    show Steps p.tables e below (s₁.setTop (mkF m 15 #[.val (.int nn)] [(.int (1073741823 : Int32)), (.int nn)])) _
    refine XS.icmpYes X0.here hx rfl (pc0 := 15) (pc' := 55) rfl (hb hby d22_15) rfl (tlt (bb : nn < (1073741823 : Int32))).1 (by decide) (by decide) ?_
    refine XS.iloadN X0.here hx rfl (hb hby d22_55) rfl ?_
    refine XS.iconst X0.here hx rfl (hb hby d22_56) ?_
    refine XS.ishl X0.here hx rfl (hb hby d22_57) rfl ?_
    exact k
  obtain ⟨fs, hr, hrun, hended, hW, hsame⟩ := X0.leave (v := some (.int (nn <<< ((1 : Int32) &&& 31)))) (fun h => by rw [Bd.returns] at h; cases h)
  refine own_done (retOut X0 hx Bd.returns rfl (Or.inl ⟨rfl, Or.inl rfl, _, rfl⟩) (hb hby d22_58) hr) hrun hended ⟨_, _, rfl, ?_, ⟨_, rfl⟩, hW, hsame.mono (by decide) (by decide)⟩
  show Q_rm22 Z nn h0 n0 (some (.int (nn <<< ((1 : Int32) &&& 31)))) s₁.heap _
  rw [e0]
  exact ⟨rfl, rfl, rfl⟩
def Q_rm18 (Z : State) (cd : Int32) (h0 : Heap) (n0 : Nat) (v : Option Value) (h : Heap) (L : List Loc) : Prop := v = some (.int cd) ∧ L = [] ∧ h = h0
theorem d18_0 : decode jdk_52_method_15_code 0 = .ok (.iload_n 1, 1) := by decide +kernel
theorem d18_1 : decode jdk_52_method_15_code 1 = .ok (.aload_n 0, 1) := by decide +kernel
theorem d18_2 : decode jdk_52_method_15_code 2 = .ok (.arraylength, 1) := by decide +kernel
theorem d18_3 : decode jdk_52_method_15_code 3 = .ok (.isub, 1) := by decide +kernel
theorem d18_4 : decode jdk_52_method_15_code 4 = .ok (.bipush 31, 2) := by decide +kernel
theorem d18_6 : decode jdk_52_method_15_code 6 = .ok (.iushr, 1) := by decide +kernel
theorem d18_7 : decode jdk_52_method_15_code 7 = .ok (.i2b, 1) := by decide +kernel
theorem d18_8 : decode jdk_52_method_15_code 8 = .ok (.ireturn, 1) := by decide +kernel
theorem ef_rm18 (m : MethodId) (x0 : Addr) (x1 : Int32) : entryFrame m #[(.ref x0), (.int x1)] 2 = mkF m 0 #[.val (.ref x0), .val (.int x1)] [] := by first | (simp [entryFrame, mkF, argsToLocals, Value.category, maxLocals]; done) | rfl
set_option maxRecDepth 65536 in
set_option maxHeartbeats 40000000 in
theorem rm18 (l : Launch) (Z : State) (a0 : Array Value) (hw : ∀ d ∈ tables_1, d.before a0 Z = true) (ws : List Jvm.Cond) (tb : Addr) (kb : ClassId) (zz : Int32) (vs : List Value) (nn cd : Int32) (h0 : Heap) (n0 : Nat) (Z0 : n0 ≤ h0.size) (V_tb : Arv Z h0 tb kb .byte zz vs (.int (0 : Int32))) (hcf : own_cf nn zz = cd) :
    MetFree l (⟨"java/lang/StringUTF16", "coderFromArrayLen", "([BI)B"⟩ : MethodName) (head1 (Jvm.Cond.code (⟨"java/lang/StringUTF16", "coderFromArrayLen", "([BI)B"⟩ : MethodName) jdk_52_method_15_code 2 (some .byte) :: ws) ({ frames := 0, cells := 0, slots := 0, locals := 0 } : Room)) (fun a U => a = #[(.ref tb), (.int nn)] ∧ Z.Warmed39 U.vm ∧ U.heap = h0) (fun _ _ _ _ _ => True) (fun _ U o U' => ∃ v L, o = .returned v ∧ Q_rm18 Z cd h0 n0 v U'.heap L ∧ FrameEnd U o U' L ({ frames := 0, cells := 0, slots := 0, locals := 0 } : Room).cells ({ frames := 0, cells := 0, slots := 0, locals := 0 } : Room).slots) := by
  refine MetFree.of_bodySF (plainFor_of_name pn_18) hisR ?_
  intro p e s m args below meth c s₁ Bd hml0 hP hK
  obtain ⟨rfl, hZ, hh⟩ := hP
  have hx := Bd.exec
  have hby := Bd.bytes
  have hml : c.maxLocals = 2 := hml0
  have hown : s.vm.findClass "java/lang/StringUTF16" = some m.cls := findClass_of_methodNamed Bd.named
  have hnm := (name_of_methodNamed Bd.named Bd.method).1
  have X0 : Stand p l e ({ frames := 0, cells := 0, slots := 0, locals := 0 } : Room) s m #[(.ref tb), (.int nn)] below meth c s₁ [] 0 0 := Stand.of_body Bd
  have e0 : s₁.heap = h0 := by rw [← hh, Bd.state]; rfl
  have N0 := Fr.nil n0
  have K : Keep h0 h0 [] := Keep.refl h0 []
  show own_Gd p.tables e below (own_P (Q_rm18 Z cd h0 n0) s ({ frames := 0, cells := 0, slots := 0, locals := 0 } : Room).cells ({ frames := 0, cells := 0, slots := 0, locals := 0 } : Room).slots) _
  refine own_go (B := s₁.setTop (mkF m 0 #[.val (.ref tb), .val (.int nn)] [])) (fun t k => castTop (ef_rm18 m tb nn) k) ?_
  refine own_go (B := s₁.setTop (mkF m 2 #[.val (.ref tb), .val (.int nn)] [(.ref tb), (.int nn)])) (fun t k => ?_) ?_
  · show Steps p.tables e below (s₁.setTop (mkF m 0 #[.val (.ref tb), .val (.int nn)] [])) _
    refine XS.iloadN X0.here hx rfl (hb hby d18_0) rfl ?_
    refine XS.aloadN X0.here hx rfl (hb hby d18_1) rfl rfl ?_
    exact k
  obtain ⟨cl1, Ar1, qa1, Sa1, Na1, Ha1, Ga1⟩ := id V_tb
  refine own_go (B := s₁.setTop (mkF m 8 #[.val (.ref tb), .val (.int nn)] [(.int ((((nn - zz).toUInt32 >>> ((31 : Int32) &&& 31).toUInt32).toInt32).toInt8.toInt32))])) (fun t k => ?_) ?_
  · show Steps p.tables e below (s₁.setTop (mkF m 2 #[.val (.ref tb), .val (.int nn)] [(.ref tb), (.int nn)])) _
    refine X0.arraylength hx (by rw [e0]; exact Ar1.1) (State.isArrayOf_alike hZ.alike Ar1.2.1) (g := (mkF m 2 #[.val (.ref tb), .val (.int nn)] [(.ref tb), (.int nn)])) rfl rfl (hb hby d18_2) _ ?_
    rw [len_of Sa1 Na1]
    refine XS.isub X0.here hx rfl (hb hby d18_3) rfl ?_
    refine XS.bipush X0.here hx rfl (hb hby d18_4) ?_
    refine XS.iushr X0.here hx rfl (hb hby d18_6) rfl ?_
    show Steps p.tables e below (s₁.setTop (mkF m 7 #[.val (.ref tb), .val (.int nn)] [(.int (((nn - zz).toUInt32 >>> ((31 : Int32) &&& 31).toUInt32).toInt32))])) _
    refine XS.i2b X0.here hx rfl (hb hby d18_7) rfl ?_
    exact k
  obtain ⟨fs, hr, hrun, hended, hW, hsame⟩ := X0.leave (v := some (.int (nar .byte ((((nn - zz).toUInt32 >>> ((31 : Int32) &&& 31).toUInt32).toInt32).toInt8.toInt32)))) (fun h => by rw [Bd.returns] at h; cases h)
  refine own_done (retN X0 hx (t := .byte) Bd.returns (by simp) (hb hby d18_8) hr) hrun hended ⟨_, _, rfl, ?_, ⟨_, rfl⟩, hW, hsame.mono (by decide) (by decide)⟩
  show Q_rm18 Z cd h0 n0 (some (.int (nar .byte ((((nn - zz).toUInt32 >>> ((31 : Int32) &&& 31).toUInt32).toInt32).toInt8.toInt32)))) s₁.heap _
  rw [e0]
  exact ⟨congrArg (fun z => some (Value.int z)) hcf, rfl, rfl⟩
def Q_rm21 (Z : State) (nn : Int32) (h0 : Heap) (n0 : Nat) (v : Option Value) (h : Heap) (L : List Loc) : Prop := ∃ tb kb, v = some (.ref tb) ∧ Fr n0 L ∧ Keep h0 h [] ∧ h0.size ≤ tb ∧ Arv Z h tb kb .byte (nn <<< ((1 : Int32) &&& 31)) [] (.int (0 : Int32))
theorem d21_0 : decode jdk_52_method_2_code 0 = .ok (.iload_n 0, 1) := by decide +kernel
theorem d21_1 : decode jdk_52_method_2_code 1 = .ok (.invokestatic 11, 3) := by decide +kernel
theorem d21_4 : decode jdk_52_method_2_code 4 = .ok (.newarray .byte, 2) := by decide +kernel
theorem d21_6 : decode jdk_52_method_2_code 6 = .ok (.areturn, 1) := by decide +kernel
theorem ef_rm21 (m : MethodId) (x0 : Int32) : entryFrame m #[(.int x0)] 1 = mkF m 0 #[.val (.int x0)] [] := by first | (simp [entryFrame, mkF, argsToLocals, Value.category, maxLocals]; done) | rfl
set_option maxRecDepth 65536 in
set_option maxHeartbeats 40000000 in
theorem rm21 (l : Launch) (Z : State) (a0 : Array Value) (hw : ∀ d ∈ tables_1, d.before a0 Z = true) (ws : List Jvm.Cond) (nn : Int32) (h0 : Heap) (n0 : Nat) (Z0 : n0 ≤ h0.size) (ba : ¬ nn < (0 : Int32)) (bb : nn < (1073741823 : Int32)) (bc_ : ¬ (nn <<< ((1 : Int32) &&& 31)) < (0 : Int32)) (bd_ : (nn <<< ((1 : Int32) &&& 31)).toNatClampNeg ≤ 8) :
    MetFree l (⟨"java/lang/StringUTF16", "newBytesFor", "(I)[B"⟩ : MethodName) (head1 (Jvm.Cond.code (⟨"java/lang/StringUTF16", "newBytesFor", "(I)[B"⟩ : MethodName) jdk_52_method_2_code 1 (some (.array .byte)) :: ws) ({ frames := 1, cells := 1, slots := 8, locals := 12 } : Room)) (fun a U => a = #[(.int nn)] ∧ Z.Warmed39 U.vm ∧ U.heap = h0) (fun _ _ _ _ _ => True) (fun _ U o U' => ∃ v L, o = .returned v ∧ Q_rm21 Z nn h0 n0 v U'.heap L ∧ FrameEnd U o U' L ({ frames := 1, cells := 1, slots := 8, locals := 12 } : Room).cells ({ frames := 1, cells := 1, slots := 8, locals := 12 } : Room).slots) := by
  refine MetFree.of_bodySF (plainFor_of_name pn_21) hisR ?_
  intro p e s m args below meth c s₁ Bd hml0 hP hK
  obtain ⟨rfl, hZ, hh⟩ := hP
  have hx := Bd.exec
  have hby := Bd.bytes
  have hml : c.maxLocals = 1 := hml0
  have hown : s.vm.findClass "java/lang/StringUTF16" = some m.cls := findClass_of_methodNamed Bd.named
  have hnm := (name_of_methodNamed Bd.named Bd.method).1
  have X0 : Stand p l e ({ frames := 1, cells := 1, slots := 8, locals := 12 } : Room) s m #[(.int nn)] below meth c s₁ [] 0 0 := Stand.of_body Bd
  have e0 : s₁.heap = h0 := by rw [← hh, Bd.state]; rfl
  have N0 := Fr.nil n0
  have K : Keep h0 h0 [] := Keep.refl h0 []
  show own_Gd p.tables e below (own_P (Q_rm21 Z nn h0 n0) s ({ frames := 1, cells := 1, slots := 8, locals := 12 } : Room).cells ({ frames := 1, cells := 1, slots := 8, locals := 12 } : Room).slots) _
  refine own_go (B := s₁.setTop (mkF m 0 #[.val (.int nn)] [])) (fun t k => castTop (ef_rm21 m nn) k) ?_
  refine own_go (B := s₁.setTop (mkF m 1 #[.val (.int nn)] [(.int nn)])) (fun t k => ?_) ?_
  · show Steps p.tables e below (s₁.setTop (mkF m 0 #[.val (.int nn)] [])) _
    refine XS.iloadN X0.here hx rfl (hb hby d21_0) rfl ?_
    exact k
  obtain ⟨_, _, ⟨T1, L1, k1, n1⟩, -, X1, ⟨Lc1, hQ1, l1, y1, z1⟩, st1⟩ := Jvm.LawKit.callS X0 hx (y := (⟨"java/lang/StringUTF16", "newBytesLength", "(I)I"⟩ : MethodName)) hown (mvT hZ (hw _ (List.mem_of_getElem? (i := 97) rfl))) (mvT hZ (hw _ (List.mem_of_getElem? (i := 98) rfl))) (mvT hZ (hw _ (List.mem_of_getElem? (i := 80) rfl))) (mvT hZ (hw _ (List.mem_of_getElem? (i := 99) rfl))) (by decide) (backOf (W := 0) (rm22 l Z a0 hw [] nn h0 n0 Z0 ba bb) hZ (hw _ (List.mem_of_getElem? (i := 99) rfl)) (hw _ (List.mem_of_getElem? (i := 80) rfl)) (by decide) (by decide)) (g := (mkF m 1 #[.val (.int nn)] [(.int nn)])) rfl (by rw [hml]; rfl) (argsL := [(.int nn)]) (rest := []) (lenOf pd_3 rfl) rfl (by show 2 * 0 + _ ≤ _; exact Nat.le_of_eq rfl) (hb hby d21_1) (fun _ _ => ⟨rfl, e0, Nat.le_of_ble_eq_true rfl, Nat.le_of_ble_eq_true rfl⟩)
  dsimp only [Pt.U, Pt.locs, Pt.cells, Pt.slots] at X1 l1 y1 z1 st1 hQ1
  subst l1 y1 z1
  obtain ⟨h1, e1⟩ : ∃ z, T1.heap = z := ⟨_, rfl⟩
  rw [e1] at hQ1
  obtain ⟨rfl, hL1, eq1⟩ := hQ1
  subst hL1
  have N1 := Fr.app N0 (Fr.nil n0)
  rw [eq1] at e1
  refine own_go (B := T1.setTop (mkF m 4 #[.val (.int nn)] [(.int (nn <<< ((1 : Int32) &&& 31)))])) st1 ?_
  obtain ⟨T2, h2, k2, X2, e2, E2, A2, st2⟩ := newP X1 hx hZ (hw _ (List.mem_of_getElem? (i := 16) rfl)) e1 (g := (mkF m 4 #[.val (.int nn)] [(.int (nn <<< ((1 : Int32) &&& 31)))])) rfl (hb hby d21_4) rfl bc_ (cap := 8) bd_ (by decide) (by decide) (by decide)
  obtain ⟨b2, g2⟩ : ∃ z, z = h0.size := ⟨_, rfl⟩
  rw [← g2] at A2 st2
  have g_b2 : n0 ≤ b2 := Nat.le_trans Z0 (Nat.le_of_eq g2.symm)
  have sz_b2 : h0.size ≤ b2 := Nat.le_trans K.1 (Nat.le_of_eq g2.symm)
  have K := K.ext E2
  have Z0 := Nat.le_trans Z0 E2.1
  have V_b2 : Arv Z h2 b2 k2 .byte (nn <<< ((1 : Int32) &&& 31)) [] (.int (0 : Int32)) := Arv.new A2 bc_
  refine own_go (B := T2.setTop (mkF m 6 #[.val (.int nn)] [(.ref b2)])) st2 ?_
  obtain ⟨fs, hr, hrun, hended, hW, hsame⟩ := X2.leave (v := some (.ref b2)) (fun h => by rw [Bd.returns] at h; cases h)
  refine own_done (retOut X2 hx Bd.returns rfl (Or.inr (Or.inr (Or.inr (Or.inr ⟨rfl, rfl, rfl⟩)))) (hb hby d21_6) hr) hrun hended ⟨_, _, rfl, ?_, ⟨_, rfl⟩, hW, hsame.mono (by decide) (by decide)⟩
  show Q_rm21 Z nn h0 n0 (some (.ref b2)) T2.heap _
  rw [e2]
  exact ⟨b2, k2, rfl, N1, K, sz_b2, V_b2⟩
def Q_rm23 (Z : State) (tb : Addr) (kb : ClassId) (zz : Int32) (vs : List Value) (ix : Nat) (u : UInt16) (h0 : Heap) (n0 : Nat) (v : Option Value) (h : Heap) (L : List Loc) : Prop := v = none ∧ Fr n0 L ∧ Keep h0 h [tb] ∧ Arv Z h tb kb .byte zz ((vs.set ix (.int (own_lo u))).set (ix + 1) (.int (own_hi u))) (.int (0 : Int32))
theorem d23_0 : decode jdk_52_method_4_code 0 = .ok (.getstatic 44, 3) := by decide +kernel
theorem d23_3 : decode jdk_52_method_4_code 3 = .ok (.ifCond .ne 25, 3) := by decide +kernel
theorem d23_6 : decode jdk_52_method_4_code 6 = .ok (.iload_n 1, 1) := by decide +kernel
theorem d23_7 : decode jdk_52_method_4_code 7 = .ok (.ifCond .lt 11, 3) := by decide +kernel
theorem d23_10 : decode jdk_52_method_4_code 10 = .ok (.iload_n 1, 1) := by decide +kernel
theorem d23_11 : decode jdk_52_method_4_code 11 = .ok (.aload_n 0, 1) := by decide +kernel
theorem d23_12 : decode jdk_52_method_4_code 12 = .ok (.invokestatic 48, 3) := by decide +kernel
theorem d23_15 : decode jdk_52_method_4_code 15 = .ok (.if_icmp .lt 13, 3) := by decide +kernel
theorem d23_18 : decode jdk_52_method_4_code 18 = .ok (.new 52, 3) := by decide +kernel
theorem d23_21 : decode jdk_52_method_4_code 21 = .ok (.dup, 1) := by decide +kernel
theorem d23_22 : decode jdk_52_method_4_code 22 = .ok (.ldc 54, 2) := by decide +kernel
theorem d23_24 : decode jdk_52_method_4_code 24 = .ok (.invokespecial 56, 3) := by decide +kernel
theorem d23_27 : decode jdk_52_method_4_code 27 = .ok (.athrow, 1) := by decide +kernel
theorem d23_28 : decode jdk_52_method_4_code 28 = .ok (.iload_n 1, 1) := by decide +kernel
theorem d23_29 : decode jdk_52_method_4_code 29 = .ok (.iconst 1, 1) := by decide +kernel
theorem d23_30 : decode jdk_52_method_4_code 30 = .ok (.ishl, 1) := by decide +kernel
theorem d23_31 : decode jdk_52_method_4_code 31 = .ok (.istore_n 1, 1) := by decide +kernel
theorem d23_32 : decode jdk_52_method_4_code 32 = .ok (.aload_n 0, 1) := by decide +kernel
theorem d23_33 : decode jdk_52_method_4_code 33 = .ok (.iload_n 1, 1) := by decide +kernel
theorem d23_34 : decode jdk_52_method_4_code 34 = .ok (.iinc 1 1, 3) := by decide +kernel
theorem d23_37 : decode jdk_52_method_4_code 37 = .ok (.iload_n 2, 1) := by decide +kernel
theorem d23_38 : decode jdk_52_method_4_code 38 = .ok (.getstatic 59, 3) := by decide +kernel
theorem d23_41 : decode jdk_52_method_4_code 41 = .ok (.ishr, 1) := by decide +kernel
theorem d23_42 : decode jdk_52_method_4_code 42 = .ok (.i2b, 1) := by decide +kernel
theorem d23_43 : decode jdk_52_method_4_code 43 = .ok (.bastore, 1) := by decide +kernel
theorem d23_44 : decode jdk_52_method_4_code 44 = .ok (.aload_n 0, 1) := by decide +kernel
theorem d23_45 : decode jdk_52_method_4_code 45 = .ok (.iload_n 1, 1) := by decide +kernel
theorem d23_46 : decode jdk_52_method_4_code 46 = .ok (.iload_n 2, 1) := by decide +kernel
theorem d23_47 : decode jdk_52_method_4_code 47 = .ok (.getstatic 63, 3) := by decide +kernel
theorem d23_50 : decode jdk_52_method_4_code 50 = .ok (.ishr, 1) := by decide +kernel
theorem d23_51 : decode jdk_52_method_4_code 51 = .ok (.i2b, 1) := by decide +kernel
theorem d23_52 : decode jdk_52_method_4_code 52 = .ok (.bastore, 1) := by decide +kernel
theorem d23_53 : decode jdk_52_method_4_code 53 = .ok (.return_, 1) := by decide +kernel
theorem ef_rm23 (m : MethodId) (x0 : Addr) (x1 : Int32) (x2 : Int32) : entryFrame m #[(.ref x0), (.int x1), (.int x2)] 3 = mkF m 0 #[.val (.ref x0), .val (.int x1), .val (.int x2)] [] := by first | (simp [entryFrame, mkF, argsToLocals, Value.category, maxLocals]; done) | rfl
set_option maxRecDepth 65536 in
set_option maxHeartbeats 40000000 in
theorem rm23 (l : Launch) (Z : State) (a0 : Array Value) (hw : ∀ d ∈ tables_1, d.before a0 Z = true) (ws : List Jvm.Cond) (tb : Addr) (kb : ClassId) (zz : Int32) (vs : List Value) (q1 : Int32) (ix : Nat) (u : UInt16) (h0 : Heap) (n0 : Nat) (Z0 : n0 ≤ h0.size) (V_tb : Arv Z h0 tb kb .byte zz vs (.int (0 : Int32))) (ba : ¬ (q1 <<< ((1 : Int32) &&& 31)) < 0 ∧ (q1 <<< ((1 : Int32) &&& 31)) < zz) (bb : ¬ ((q1 <<< ((1 : Int32) &&& 31)) + (1 : Int32)) < 0 ∧ ((q1 <<< ((1 : Int32) &&& 31)) + (1 : Int32)) < zz) (ea_ : (q1 <<< ((1 : Int32) &&& 31)).toNatClampNeg = ix) (eb_ : ((q1 <<< ((1 : Int32) &&& 31)) + (1 : Int32)).toNatClampNeg = ix + 1) (hl : ix + 1 < vs.length) (g_tb : n0 ≤ tb) (hSt : own_S Z) (O : Old Z n0 h0) :
    MetFree l (⟨"java/lang/StringUTF16", "putChar", "([BII)V"⟩ : MethodName) (head1 (Jvm.Cond.code (⟨"java/lang/StringUTF16", "putChar", "([BII)V"⟩ : MethodName) jdk_52_method_4_code 3 none :: ws) ({ frames := 0, cells := 0, slots := 0, locals := 0 } : Room)) (fun a U => a = #[(.ref tb), (.int q1), (.int (own_w u))] ∧ Z.Warmed39 U.vm ∧ U.heap = h0) (fun _ _ _ _ _ => True) (fun _ U o U' => ∃ v L, o = .returned v ∧ Q_rm23 Z tb kb zz vs ix u h0 n0 v U'.heap L ∧ FrameEnd U o U' L ({ frames := 0, cells := 0, slots := 0, locals := 0 } : Room).cells ({ frames := 0, cells := 0, slots := 0, locals := 0 } : Room).slots) := by
  refine MetFree.of_bodySF (plainFor_of_name pn_23) hisR ?_
  intro p e s m args below meth c s₁ Bd hml0 hP hK
  obtain ⟨rfl, hZ, hh⟩ := hP
  have hx := Bd.exec
  have hby := Bd.bytes
  have hml : c.maxLocals = 3 := hml0
  have hown : s.vm.findClass "java/lang/StringUTF16" = some m.cls := findClass_of_methodNamed Bd.named
  have hnm := (name_of_methodNamed Bd.named Bd.method).1
  have X0 : Stand p l e ({ frames := 0, cells := 0, slots := 0, locals := 0 } : Room) s m #[(.ref tb), (.int q1), (.int (own_w u))] below meth c s₁ [] 0 0 := Stand.of_body Bd
  have e0 : s₁.heap = h0 := by rw [← hh, Bd.state]; rfl
  have N0 := Fr.nil n0
  have K : Keep h0 h0 [tb] := Keep.refl h0 [tb]
  obtain ⟨G1, G3, O2, P5, O4, rG3, SA, SB, SC⟩ := id hSt
  show own_Gd p.tables e below (own_P (Q_rm23 Z tb kb zz vs ix u h0 n0) s ({ frames := 0, cells := 0, slots := 0, locals := 0 } : Room).cells ({ frames := 0, cells := 0, slots := 0, locals := 0 } : Room).slots) _
  refine own_go (B := s₁.setTop (mkF m 0 #[.val (.ref tb), .val (.int q1), .val (.int (own_w u))] [])) (fun t k => castTop (ef_rm23 m tb q1 (own_w u)) k) ?_
  obtain ⟨T1, X1, e1, st1⟩ := getS2 X0 hx hZ hown (host := "") (Or.inl (hw _ (List.mem_of_getElem? (i := 104) rfl))) Via.refl e0 (SA.ext O.2) (g := (mkF m 0 #[.val (.ref tb), .val (.int q1), .val (.int (own_w u))] [])) rfl (hb hby d23_0)
  refine own_go (B := T1.setTop (mkF m 3 #[.val (.ref tb), .val (.int q1), .val (.int (own_w u))] [(.int (1 : Int32))])) st1 ?_
  refine own_go (B := T1.setTop (mkF m 38 #[.val (.ref tb), .val (.int ((q1 <<< ((1 : Int32) &&& 31)) + (1 : Int32))), .val (.int (own_w u))] [(.int (own_w u)), (.int (q1 <<< ((1 : Int32) &&& 31))), (.ref tb)])) (fun t k => ?_) ?_
  · show Steps p.tables e below (T1.setTop (mkF m 3 #[.val (.ref tb), .val (.int q1), .val (.int (own_w u))] [(.int (1 : Int32))])) _
    refine XS.ifYes X1.here hx rfl (pc0 := 3) (pc' := 28) rfl (hb hby d23_3) rfl ((if0 _ _).trans (feq (by decide : ¬ ((1 : Int32) = (0 : Int32)))).2) (by decide) (by decide) ?_
    refine XS.iloadN X1.here hx rfl (hb hby d23_28) rfl ?_
    refine XS.iconst X1.here hx rfl (hb hby d23_29) ?_
    refine XS.ishl X1.here hx rfl (hb hby d23_30) rfl ?_
    refine XS.istoreN X1.here hx rfl (hb hby d23_31) rfl (l' := #[.val (.ref tb), .val (.int (q1 <<< ((1 : Int32) &&& 31))), .val (.int (own_w u))]) rfl ?_
    show Steps p.tables e below (T1.setTop (mkF m 32 #[.val (.ref tb), .val (.int (q1 <<< ((1 : Int32) &&& 31))), .val (.int (own_w u))] [])) _
    refine XS.aloadN X1.here hx rfl (hb hby d23_32) rfl rfl ?_
    refine XS.iloadN X1.here hx rfl (hb hby d23_33) rfl ?_
    refine XS.iinc X1.here hx rfl (hb hby d23_34) rfl (l' := #[.val (.ref tb), .val (.int ((q1 <<< ((1 : Int32) &&& 31)) + (1 : Int32))), .val (.int (own_w u))]) rfl ?_
    refine XS.iloadN X1.here hx rfl (hb hby d23_37) rfl ?_
    exact k
  obtain ⟨T2, X2, e2, st2⟩ := getS2 X1 hx hZ hown (host := "") (Or.inl (hw _ (List.mem_of_getElem? (i := 105) rfl))) Via.refl e1 (SB.ext O.2) (g := (mkF m 38 #[.val (.ref tb), .val (.int ((q1 <<< ((1 : Int32) &&& 31)) + (1 : Int32))), .val (.int (own_w u))] [(.int (own_w u)), (.int (q1 <<< ((1 : Int32) &&& 31))), (.ref tb)])) rfl (hb hby d23_38)
  refine own_go (B := T2.setTop (mkF m 41 #[.val (.ref tb), .val (.int ((q1 <<< ((1 : Int32) &&& 31)) + (1 : Int32))), .val (.int (own_w u))] [(.int (0 : Int32)), (.int (own_w u)), (.int (q1 <<< ((1 : Int32) &&& 31))), (.ref tb)])) st2 ?_
  refine own_go (B := T2.setTop (mkF m 43 #[.val (.ref tb), .val (.int ((q1 <<< ((1 : Int32) &&& 31)) + (1 : Int32))), .val (.int (own_w u))] [(.int (((own_w u) >>> ((0 : Int32) &&& 31)).toInt8.toInt32)), (.int (q1 <<< ((1 : Int32) &&& 31))), (.ref tb)])) (fun t k => ?_) ?_
  · show Steps p.tables e below (T2.setTop (mkF m 41 #[.val (.ref tb), .val (.int ((q1 <<< ((1 : Int32) &&& 31)) + (1 : Int32))), .val (.int (own_w u))] [(.int (0 : Int32)), (.int (own_w u)), (.int (q1 <<< ((1 : Int32) &&& 31))), (.ref tb)])) _
    refine XS.ishr X2.here hx rfl (hb hby d23_41) rfl ?_
    refine XS.i2b X2.here hx rfl (hb hby d23_42) rfl ?_
    exact k
  obtain ⟨cl3, Ar3, qa3, Sa3, Na3, Ha3, Ga3⟩ := id V_tb
  have hin3 : ¬ ((q1 <<< ((1 : Int32) &&& 31)) < 0 ∨ cl3.slots.size ≤ ((q1 <<< ((1 : Int32) &&& 31))).toNatClampNeg) := inb_of Sa3 ba
  obtain ⟨T4, h4, X4, e4, W4, st4⟩ := stB X2 hx hZ e2 Ar3 (j := (q1 <<< ((1 : Int32) &&& 31))) hin3 (g := (mkF m 43 #[.val (.ref tb), .val (.int ((q1 <<< ((1 : Int32) &&& 31)) + (1 : Int32))), .val (.int (own_w u))] [(.int (((own_w u) >>> ((0 : Int32) &&& 31)).toInt8.toInt32)), (.int (q1 <<< ((1 : Int32) &&& 31))), (.ref tb)])) rfl rfl (hb hby d23_43)
  have Z0 := Nat.le_trans Z0 (Nat.le_of_eq W4.size.symm)
  have O := O.wr W4 g_tb
  have V_tb : Arv Z h4 tb kb .byte zz (vs.set ix (.int (own_lo u))) (.int (0 : Int32)) := Arv.set Ar3 qa3 Sa3 Na3 Ha3 Ga3 (fits_nar_byte _) W4 ix ea_ (Nat.lt_of_succ_lt hl)
  have K := K.wr W4 (Or.inl (List.mem_of_getElem? (i := 0) rfl))
  have N4 := Fr.snoc X4 N0 g_tb
  refine own_go (B := T4.setTop (mkF m 44 #[.val (.ref tb), .val (.int ((q1 <<< ((1 : Int32) &&& 31)) + (1 : Int32))), .val (.int (own_w u))] [])) st4 ?_
  refine own_go (B := T4.setTop (mkF m 47 #[.val (.ref tb), .val (.int ((q1 <<< ((1 : Int32) &&& 31)) + (1 : Int32))), .val (.int (own_w u))] [(.int (own_w u)), (.int ((q1 <<< ((1 : Int32) &&& 31)) + (1 : Int32))), (.ref tb)])) (fun t k => ?_) ?_
  · show Steps p.tables e below (T4.setTop (mkF m 44 #[.val (.ref tb), .val (.int ((q1 <<< ((1 : Int32) &&& 31)) + (1 : Int32))), .val (.int (own_w u))] [])) _
    refine XS.aloadN X4.here hx rfl (hb hby d23_44) rfl rfl ?_
    refine XS.iloadN X4.here hx rfl (hb hby d23_45) rfl ?_
    refine XS.iloadN X4.here hx rfl (hb hby d23_46) rfl ?_
    exact k
  obtain ⟨T5, X5, e5, st5⟩ := getS2 X4 hx hZ hown (host := "") (Or.inl (hw _ (List.mem_of_getElem? (i := 106) rfl))) Via.refl e4 (SC.ext O.2) (g := (mkF m 47 #[.val (.ref tb), .val (.int ((q1 <<< ((1 : Int32) &&& 31)) + (1 : Int32))), .val (.int (own_w u))] [(.int (own_w u)), (.int ((q1 <<< ((1 : Int32) &&& 31)) + (1 : Int32))), (.ref tb)])) rfl (hb hby d23_47)
  refine own_go (B := T5.setTop (mkF m 50 #[.val (.ref tb), .val (.int ((q1 <<< ((1 : Int32) &&& 31)) + (1 : Int32))), .val (.int (own_w u))] [(.int (8 : Int32)), (.int (own_w u)), (.int ((q1 <<< ((1 : Int32) &&& 31)) + (1 : Int32))), (.ref tb)])) st5 ?_
  refine own_go (B := T5.setTop (mkF m 52 #[.val (.ref tb), .val (.int ((q1 <<< ((1 : Int32) &&& 31)) + (1 : Int32))), .val (.int (own_w u))] [(.int (((own_w u) >>> ((8 : Int32) &&& 31)).toInt8.toInt32)), (.int ((q1 <<< ((1 : Int32) &&& 31)) + (1 : Int32))), (.ref tb)])) (fun t k => ?_) ?_
  · show Steps p.tables e below (T5.setTop (mkF m 50 #[.val (.ref tb), .val (.int ((q1 <<< ((1 : Int32) &&& 31)) + (1 : Int32))), .val (.int (own_w u))] [(.int (8 : Int32)), (.int (own_w u)), (.int ((q1 <<< ((1 : Int32) &&& 31)) + (1 : Int32))), (.ref tb)])) _
    refine XS.ishr X5.here hx rfl (hb hby d23_50) rfl ?_
    refine XS.i2b X5.here hx rfl (hb hby d23_51) rfl ?_
    exact k
  obtain ⟨cl6, Ar6, qa6, Sa6, Na6, Ha6, Ga6⟩ := id V_tb
  have hin6 : ¬ (((q1 <<< ((1 : Int32) &&& 31)) + (1 : Int32)) < 0 ∨ cl6.slots.size ≤ (((q1 <<< ((1 : Int32) &&& 31)) + (1 : Int32))).toNatClampNeg) := inb_of Sa6 bb
  obtain ⟨T7, h7, X7, e7, W7, st7⟩ := stB X5 hx hZ e5 Ar6 (j := ((q1 <<< ((1 : Int32) &&& 31)) + (1 : Int32))) hin6 (g := (mkF m 52 #[.val (.ref tb), .val (.int ((q1 <<< ((1 : Int32) &&& 31)) + (1 : Int32))), .val (.int (own_w u))] [(.int (((own_w u) >>> ((8 : Int32) &&& 31)).toInt8.toInt32)), (.int ((q1 <<< ((1 : Int32) &&& 31)) + (1 : Int32))), (.ref tb)])) rfl rfl (hb hby d23_52)
  have Z0 := Nat.le_trans Z0 (Nat.le_of_eq W7.size.symm)
  have O := O.wr W7 g_tb
  have V_tb : Arv Z h7 tb kb .byte zz ((vs.set ix (.int (own_lo u))).set (ix + 1) (.int (own_hi u))) (.int (0 : Int32)) := Arv.set Ar6 qa6 Sa6 Na6 Ha6 Ga6 (fits_nar_byte _) W7 (ix + 1) eb_ (by rw [List.length_set]; exact hl)
  have K := K.wr W7 (Or.inl (List.mem_of_getElem? (i := 0) rfl))
  have N7 := Fr.snoc X7 N4 g_tb
  refine own_go (B := T7.setTop (mkF m 53 #[.val (.ref tb), .val (.int ((q1 <<< ((1 : Int32) &&& 31)) + (1 : Int32))), .val (.int (own_w u))] [])) st7 ?_
  obtain ⟨fs, hr, hrun, hended, hW, hsame⟩ := X7.leave (v := none) (fun _ => rfl)
  refine own_done (X7.returnOut hx Bd.returns (hb hby d23_53) hr) hrun hended ⟨_, _, rfl, ?_, ⟨_, rfl⟩, hW, hsame.mono (by decide) (by decide)⟩
  show Q_rm23 Z tb kb zz vs ix u h0 n0 (none) T7.heap _
  rw [e7]
  exact ⟨rfl, N7, K, V_tb⟩
def Q_rm20 (Z : State) (cs : List UInt16) (nn : Int32) (h0 : Heap) (n0 : Nat) (v : Option Value) (h : Heap) (L : List Loc) : Prop := ∃ tb kb, v = some (.ref tb) ∧ Fr n0 L ∧ Keep h0 h [] ∧ h0.size ≤ tb ∧ Arv Z h tb kb .byte (nn <<< ((1 : Int32) &&& 31)) (own_wide cs) (.int (0 : Int32))
theorem d20_0 : decode jdk_52_method_14_code 0 = .ok (.iload_n 2, 1) := by decide +kernel
theorem d20_1 : decode jdk_52_method_14_code 1 = .ok (.invokestatic 107, 3) := by decide +kernel
theorem d20_4 : decode jdk_52_method_14_code 4 = .ok (.astore_n 3, 1) := by decide +kernel
theorem d20_5 : decode jdk_52_method_14_code 5 = .ok (.iconst 0, 1) := by decide +kernel
theorem d20_6 : decode jdk_52_method_14_code 6 = .ok (.istore 4, 2) := by decide +kernel
theorem d20_8 : decode jdk_52_method_14_code 8 = .ok (.iload 4, 2) := by decide +kernel
theorem d20_10 : decode jdk_52_method_14_code 10 = .ok (.iload_n 2, 1) := by decide +kernel
theorem d20_11 : decode jdk_52_method_14_code 11 = .ok (.if_icmp .ge 21, 3) := by decide +kernel
theorem d20_14 : decode jdk_52_method_14_code 14 = .ok (.aload_n 3, 1) := by decide +kernel
theorem d20_15 : decode jdk_52_method_14_code 15 = .ok (.iload 4, 2) := by decide +kernel
theorem d20_17 : decode jdk_52_method_14_code 17 = .ok (.aload_n 0, 1) := by decide +kernel
theorem d20_18 : decode jdk_52_method_14_code 18 = .ok (.iload_n 1, 1) := by decide +kernel
theorem d20_19 : decode jdk_52_method_14_code 19 = .ok (.caload, 1) := by decide +kernel
theorem d20_20 : decode jdk_52_method_14_code 20 = .ok (.invokestatic 111, 3) := by decide +kernel
theorem d20_23 : decode jdk_52_method_14_code 23 = .ok (.iinc 1 1, 3) := by decide +kernel
theorem d20_26 : decode jdk_52_method_14_code 26 = .ok (.iinc 4 1, 3) := by decide +kernel
theorem d20_29 : decode jdk_52_method_14_code 29 = .ok (.goto (-21), 3) := by decide +kernel
theorem d20_32 : decode jdk_52_method_14_code 32 = .ok (.aload_n 3, 1) := by decide +kernel
theorem d20_33 : decode jdk_52_method_14_code 33 = .ok (.areturn, 1) := by decide +kernel
theorem ef_rm20_1 (m : MethodId) (x0 : Addr) (x1 : Int32) (x2 : Int32) : entryFrame m #[(.ref x0), (.int x1), (.int x2)] 5 = mkF m 0 #[.val (.ref x0), .val (.int x1), .val (.int x2), .unset, .unset] [] := by first | (simp [entryFrame, mkF, argsToLocals, Value.category, maxLocals]; done) | rfl
set_option maxRecDepth 65536 in
set_option maxHeartbeats 40000000 in
theorem rm20_1 (l : Launch) (Z : State) (a0 : Array Value) (hw : ∀ d ∈ tables_1, d.before a0 Z = true) (ws : List Jvm.Cond) (ab : Addr) (ka : ClassId) (u0 : UInt16) (h0 : Heap) (n0 : Nat) (Z0 : n0 ≤ h0.size) (V_ab : Arv Z h0 ab ka .char (1 : Int32) [(.int (own_w u0))] (.int (0 : Int32))) (hSt : own_S Z) (O : Old Z n0 h0) :
    MetFree l (⟨"java/lang/StringUTF16", "toBytes", "([CII)[B"⟩ : MethodName) (head1 (Jvm.Cond.code (⟨"java/lang/StringUTF16", "toBytes", "([CII)[B"⟩ : MethodName) jdk_52_method_14_code 5 (some (.array .byte)) :: ws) ({ frames := 2, cells := 1, slots := 8, locals := 24 } : Room)) (fun a U => a = #[(.ref ab), (.int (0 : Int32)), (.int (1 : Int32))] ∧ Z.Warmed39 U.vm ∧ U.heap = h0) (fun _ _ _ _ _ => True) (fun _ U o U' => ∃ v L, o = .returned v ∧ Q_rm20 Z ([u0] : List UInt16) (1 : Int32) h0 n0 v U'.heap L ∧ FrameEnd U o U' L ({ frames := 2, cells := 1, slots := 8, locals := 24 } : Room).cells ({ frames := 2, cells := 1, slots := 8, locals := 24 } : Room).slots) := by
  refine MetFree.of_bodySF (plainFor_of_name pn_20) hisR ?_
  intro p e s m args below meth c s₁ Bd hml0 hP hK
  obtain ⟨rfl, hZ, hh⟩ := hP
  have hx := Bd.exec
  have hby := Bd.bytes
  have hml : c.maxLocals = 5 := hml0
  have hown : s.vm.findClass "java/lang/StringUTF16" = some m.cls := findClass_of_methodNamed Bd.named
  have hnm := (name_of_methodNamed Bd.named Bd.method).1
  have X0 : Stand p l e ({ frames := 2, cells := 1, slots := 8, locals := 24 } : Room) s m #[(.ref ab), (.int (0 : Int32)), (.int (1 : Int32))] below meth c s₁ [] 0 0 := Stand.of_body Bd
  have e0 : s₁.heap = h0 := by rw [← hh, Bd.state]; rfl
  have N0 := Fr.nil n0
  have K : Keep h0 h0 [] := Keep.refl h0 []
  obtain ⟨G1, G3, O2, P5, O4, rG3, SA, SB, SC⟩ := id hSt
  show own_Gd p.tables e below (own_P (Q_rm20 Z ([u0] : List UInt16) (1 : Int32) h0 n0) s ({ frames := 2, cells := 1, slots := 8, locals := 24 } : Room).cells ({ frames := 2, cells := 1, slots := 8, locals := 24 } : Room).slots) _
  refine own_go (B := s₁.setTop (mkF m 0 #[.val (.ref ab), .val (.int (0 : Int32)), .val (.int (1 : Int32)), .unset, .unset] [])) (fun t k => castTop (ef_rm20_1 m ab (0 : Int32) (1 : Int32)) k) ?_
  refine own_go (B := s₁.setTop (mkF m 1 #[.val (.ref ab), .val (.int (0 : Int32)), .val (.int (1 : Int32)), .unset, .unset] [(.int (1 : Int32))])) (fun t k => ?_) ?_
  · show Steps p.tables e below (s₁.setTop (mkF m 0 #[.val (.ref ab), .val (.int (0 : Int32)), .val (.int (1 : Int32)), .unset, .unset] [])) _
    refine XS.iloadN X0.here hx rfl (hb hby d20_0) rfl ?_
    exact k
  obtain ⟨_, _, ⟨T1, L1, k1, n1⟩, -, X1, ⟨Lc1, hQ1, l1, y1, z1⟩, st1⟩ := Jvm.LawKit.callS X0 hx (y := (⟨"java/lang/StringUTF16", "newBytesFor", "(I)[B"⟩ : MethodName)) hown (mvT hZ (hw _ (List.mem_of_getElem? (i := 94) rfl))) (mvT hZ (hw _ (List.mem_of_getElem? (i := 95) rfl))) (mvT hZ (hw _ (List.mem_of_getElem? (i := 80) rfl))) (mvT hZ (hw _ (List.mem_of_getElem? (i := 96) rfl))) (by decide) (backOf (W := 0) (rm21 l Z a0 hw [] (1 : Int32) h0 n0 Z0 (by decide) (by decide) (by decide) (by decide)) hZ (hw _ (List.mem_of_getElem? (i := 96) rfl)) (hw _ (List.mem_of_getElem? (i := 80) rfl)) (by decide) (by decide)) (g := (mkF m 1 #[.val (.ref ab), .val (.int (0 : Int32)), .val (.int (1 : Int32)), .unset, .unset] [(.int (1 : Int32))])) rfl (by rw [hml]; rfl) (argsL := [(.int (1 : Int32))]) (rest := []) (lenOf pd_4 rfl) rfl (by show 2 * 0 + _ ≤ _; exact Nat.le_of_eq rfl) (hb hby d20_1) (fun _ _ => ⟨rfl, e0, Nat.le_of_ble_eq_true rfl, Nat.le_of_ble_eq_true rfl⟩)
  dsimp only [Pt.U, Pt.locs, Pt.cells, Pt.slots] at X1 l1 y1 z1 st1 hQ1
  subst l1 y1 z1
  obtain ⟨h1, e1⟩ : ∃ z, T1.heap = z := ⟨_, rfl⟩
  rw [e1] at hQ1
  obtain ⟨tb1, kb1, rfl, N1q, Kc1, hsz1, Vc1⟩ := hQ1
  have N1 := Fr.app N0 N1q
  have ne_ab_tb1 : ab ≠ tb1 := Nat.ne_of_lt (Nat.lt_of_lt_of_le V_ab.lt hsz1)
  have g_tb1 : n0 ≤ tb1 := Nat.le_trans Z0 hsz1
  have sz_tb1 : h0.size ≤ tb1 := Nat.le_trans K.1 hsz1
  have V_ab := V_ab.keep Kc1 nin0
  have K := K.trans Kc1 all0
  have Z0 := Nat.le_trans Z0 Kc1.1
  have O := O.keep Kc1 all0
  have V_tb1 : Arv Z h1 tb1 kb1 .byte ((1 : Int32) <<< ((1 : Int32) &&& 31)) [(.int (0 : Int32)), (.int (0 : Int32))] (.int (0 : Int32)) := Vc1.pad (pad_rep [] (.int (0 : Int32)) 2)
  refine own_go (B := T1.setTop (mkF m 4 #[.val (.ref ab), .val (.int (0 : Int32)), .val (.int (1 : Int32)), .unset, .unset] [(.ref tb1)])) st1 ?_
  refine own_go (B := T1.setTop (mkF m 19 #[.val (.ref ab), .val (.int (0 : Int32)), .val (.int (1 : Int32)), .val (.ref tb1), .val (.int (0 : Int32))] [(.int (0 : Int32)), (.ref ab), (.int (0 : Int32)), (.ref tb1)])) (fun t k => ?_) ?_
  · show Steps p.tables e below (T1.setTop (mkF m 4 #[.val (.ref ab), .val (.int (0 : Int32)), .val (.int (1 : Int32)), .unset, .unset] [(.ref tb1)])) _
    refine XS.astoreN X1.here hx rfl (hb hby d20_4) rfl rfl (l' := #[.val (.ref ab), .val (.int (0 : Int32)), .val (.int (1 : Int32)), .val (.ref tb1), .unset]) rfl ?_
    refine XS.iconst X1.here hx rfl (hb hby d20_5) ?_
    refine XS.istore X1.here hx rfl (hb hby d20_6) rfl (l' := #[.val (.ref ab), .val (.int (0 : Int32)), .val (.int (1 : Int32)), .val (.ref tb1), .val (.int (0 : Int32))]) rfl ?_
    refine XS.iload X1.here hx rfl (hb hby d20_8) rfl ?_
    refine XS.iloadN X1.here hx rfl (hb hby d20_10) rfl ?_
    show Steps p.tables e below (T1.setTop (mkF m 11 #[.val (.ref ab), .val (.int (0 : Int32)), .val (.int (1 : Int32)), .val (.ref tb1), .val (.int (0 : Int32))] [(.int (1 : Int32)), (.int (0 : Int32))])) _
    refine XS.icmpNo X1.here hx rfl (hb hby d20_11) rfl (tlt (by decide : (0 : Int32) < (1 : Int32))).2.1 ?_
    refine XS.aloadN X1.here hx rfl (hb hby d20_14) rfl rfl ?_
    refine XS.iload X1.here hx rfl (hb hby d20_15) rfl ?_
    refine XS.aloadN X1.here hx rfl (hb hby d20_17) rfl rfl ?_
    refine XS.iloadN X1.here hx rfl (hb hby d20_18) rfl ?_
    show Steps p.tables e below (T1.setTop (mkF m 19 #[.val (.ref ab), .val (.int (0 : Int32)), .val (.int (1 : Int32)), .val (.ref tb1), .val (.int (0 : Int32))] [(.int (0 : Int32)), (.ref ab), (.int (0 : Int32)), (.ref tb1)])) _
    exact k
  obtain ⟨cl2, Ar2, qa2, Sa2, Na2, Ha2, Ga2⟩ := id V_ab
  have hin2 : ¬ ((0 : Int32) < 0 ∨ cl2.slots.size ≤ ((0 : Int32)).toNatClampNeg) := inb_of Sa2 ⟨by decide, by decide⟩
  have hat2 : cl2.slots[((0 : Int32)).toNatClampNeg]? = some (.int (own_w u0)) := Ha2.at hin2 rfl
  refine own_go (B := T1.setTop (mkF m 20 #[.val (.ref ab), .val (.int (0 : Int32)), .val (.int (1 : Int32)), .val (.ref tb1), .val (.int (0 : Int32))] [(.int (own_w u0)), (.int (0 : Int32)), (.ref tb1)])) (fun t k => ?_) ?_
  · show Steps p.tables e below (T1.setTop (mkF m 19 #[.val (.ref ab), .val (.int (0 : Int32)), .val (.int (1 : Int32)), .val (.ref tb1), .val (.int (0 : Int32))] [(.int (0 : Int32)), (.ref ab), (.int (0 : Int32)), (.ref tb1)])) _
    refine X1.caload hx (j := (0 : Int32)) (v := (.int (own_w u0))) (by rw [e1]; exact Ar2.1) (State.isArrayOf_alike hZ.alike Ar2.2.1) Ar2.2.2 hin2 hat2 (g := (mkF m 19 #[.val (.ref ab), .val (.int (0 : Int32)), .val (.int (1 : Int32)), .val (.ref tb1), .val (.int (0 : Int32))] [(.int (0 : Int32)), (.ref ab), (.int (0 : Int32)), (.ref tb1)])) rfl rfl (hb hby d20_19) _ ?_
    exact k
  obtain ⟨_, _, ⟨T3, L3, k3, n3⟩, -, X3, ⟨Lc3, hQ3, l3, y3, z3⟩, st3⟩ := Jvm.LawKit.callS X1 hx (y := (⟨"java/lang/StringUTF16", "putChar", "([BII)V"⟩ : MethodName)) hown (mvT hZ (hw _ (List.mem_of_getElem? (i := 101) rfl))) (mvT hZ (hw _ (List.mem_of_getElem? (i := 102) rfl))) (mvT hZ (hw _ (List.mem_of_getElem? (i := 80) rfl))) (mvT hZ (hw _ (List.mem_of_getElem? (i := 103) rfl))) (by decide) (backOf (W := 0) (rm23 l Z a0 hw [] tb1 kb1 ((1 : Int32) <<< ((1 : Int32) &&& 31)) [(.int (0 : Int32)), (.int (0 : Int32))] (0 : Int32) 0 u0 h1 n0 Z0 V_tb1 ⟨by decide, by decide⟩ ⟨by decide, by decide⟩ (by decide) (by decide) (Nat.le_of_ble_eq_true rfl) g_tb1 hSt O) hZ (hw _ (List.mem_of_getElem? (i := 103) rfl)) (hw _ (List.mem_of_getElem? (i := 80) rfl)) (by decide) (by decide)) (g := (mkF m 20 #[.val (.ref ab), .val (.int (0 : Int32)), .val (.int (1 : Int32)), .val (.ref tb1), .val (.int (0 : Int32))] [(.int (own_w u0)), (.int (0 : Int32)), (.ref tb1)])) rfl (by rw [hml]; rfl) (argsL := [(.ref tb1), (.int (0 : Int32)), (.int (own_w u0))]) (rest := []) (lenOf pd_5 rfl) rfl (by show 2 * 0 + _ ≤ _; exact Nat.le_of_eq rfl) (hb hby d20_20) (fun _ _ => ⟨rfl, e1, Nat.le_of_ble_eq_true rfl, Nat.le_of_ble_eq_true rfl⟩)
  dsimp only [Pt.U, Pt.locs, Pt.cells, Pt.slots] at X3 l3 y3 z3 st3 hQ3
  subst l3 y3 z3
  obtain ⟨h3, e3⟩ : ∃ z, T3.heap = z := ⟨_, rfl⟩
  rw [e3] at hQ3
  obtain ⟨rfl, N3q, Kc3, Vc3⟩ := hQ3
  have N3 := Fr.app N1 N3q
  have V_ab := V_ab.keep Kc3 (ninS ne_ab_tb1 nin0)
  have K := K.trans Kc3 (allS (Or.inr sz_tb1) all0)
  have Z0 := Nat.le_trans Z0 Kc3.1
  have O := O.keep Kc3 (allS g_tb1 all0)
  have V_tb1 : Arv Z h3 tb1 kb1 .byte ((1 : Int32) <<< ((1 : Int32) &&& 31)) [(.int (own_lo u0)), (.int (own_hi u0))] (.int (0 : Int32)) := Vc3
  refine own_go (B := T3.setTop (mkF m 23 #[.val (.ref ab), .val (.int (0 : Int32)), .val (.int (1 : Int32)), .val (.ref tb1), .val (.int (0 : Int32))] [])) st3 ?_
  refine own_go (B := T3.setTop (mkF m 33 #[.val (.ref ab), .val (.int (1 : Int32)), .val (.int (1 : Int32)), .val (.ref tb1), .val (.int (1 : Int32))] [(.ref tb1)])) (fun t k => ?_) ?_
  · show Steps p.tables e below (T3.setTop (mkF m 23 #[.val (.ref ab), .val (.int (0 : Int32)), .val (.int (1 : Int32)), .val (.ref tb1), .val (.int (0 : Int32))] [])) _
    refine XS.iinc X3.here hx rfl (hb hby d20_23) rfl (l' := #[.val (.ref ab), .val (.int (1 : Int32)), .val (.int (1 : Int32)), .val (.ref tb1), .val (.int (0 : Int32))]) rfl ?_
    refine XS.iinc X3.here hx rfl (hb hby d20_26) rfl (l' := #[.val (.ref ab), .val (.int (1 : Int32)), .val (.int (1 : Int32)), .val (.ref tb1), .val (.int (1 : Int32))]) rfl ?_
    refine XS.goto X3.here hx rfl (pc0 := 29) (pc' := 8) rfl (hb hby d20_29) (by decide) (by decide) ?_
    refine XS.iload X3.here hx rfl (hb hby d20_8) rfl ?_
    refine XS.iloadN X3.here hx rfl (hb hby d20_10) rfl ?_
    show Steps p.tables e below (T3.setTop (mkF m 11 #[.val (.ref ab), .val (.int (1 : Int32)), .val (.int (1 : Int32)), .val (.ref tb1), .val (.int (1 : Int32))] [(.int (1 : Int32)), (.int (1 : Int32))])) _
    refine XS.icmpYes X3.here hx rfl (pc0 := 11) (pc' := 32) rfl (hb hby d20_11) rfl (flt (by decide : ¬ ((1 : Int32) < (1 : Int32)))).2.1 (by decide) (by decide) ?_
    refine XS.aloadN X3.here hx rfl (hb hby d20_32) rfl rfl ?_
    exact k
  obtain ⟨fs, hr, hrun, hended, hW, hsame⟩ := X3.leave (v := some (.ref tb1)) (fun h => by rw [Bd.returns] at h; cases h)
  refine own_done (retOut X3 hx Bd.returns rfl (Or.inr (Or.inr (Or.inr (Or.inr ⟨rfl, rfl, rfl⟩)))) (hb hby d20_33) hr) hrun hended ⟨_, _, rfl, ?_, ⟨_, rfl⟩, hW, hsame.mono (by decide) (by decide)⟩
  show Q_rm20 Z ([u0] : List UInt16) (1 : Int32) h0 n0 (some (.ref tb1)) T3.heap _
  rw [e3]
  exact ⟨tb1, kb1, rfl, N3, K, sz_tb1, V_tb1⟩
theorem ef_rm20_2 (m : MethodId) (x0 : Addr) (x1 : Int32) (x2 : Int32) : entryFrame m #[(.ref x0), (.int x1), (.int x2)] 5 = mkF m 0 #[.val (.ref x0), .val (.int x1), .val (.int x2), .unset, .unset] [] := by first | (simp [entryFrame, mkF, argsToLocals, Value.category, maxLocals]; done) | rfl
set_option maxRecDepth 65536 in
set_option maxHeartbeats 40000000 in
theorem rm20_2 (l : Launch) (Z : State) (a0 : Array Value) (hw : ∀ d ∈ tables_1, d.before a0 Z = true) (ws : List Jvm.Cond) (ab : Addr) (ka : ClassId) (u0 u1 : UInt16) (h0 : Heap) (n0 : Nat) (Z0 : n0 ≤ h0.size) (V_ab : Arv Z h0 ab ka .char (2 : Int32) [(.int (own_w u0)), (.int (own_w u1))] (.int (0 : Int32))) (hSt : own_S Z) (O : Old Z n0 h0) :
    MetFree l (⟨"java/lang/StringUTF16", "toBytes", "([CII)[B"⟩ : MethodName) (head1 (Jvm.Cond.code (⟨"java/lang/StringUTF16", "toBytes", "([CII)[B"⟩ : MethodName) jdk_52_method_14_code 5 (some (.array .byte)) :: ws) ({ frames := 2, cells := 1, slots := 8, locals := 24 } : Room)) (fun a U => a = #[(.ref ab), (.int (0 : Int32)), (.int (2 : Int32))] ∧ Z.Warmed39 U.vm ∧ U.heap = h0) (fun _ _ _ _ _ => True) (fun _ U o U' => ∃ v L, o = .returned v ∧ Q_rm20 Z ([u0, u1] : List UInt16) (2 : Int32) h0 n0 v U'.heap L ∧ FrameEnd U o U' L ({ frames := 2, cells := 1, slots := 8, locals := 24 } : Room).cells ({ frames := 2, cells := 1, slots := 8, locals := 24 } : Room).slots) := by
  refine MetFree.of_bodySF (plainFor_of_name pn_20) hisR ?_
  intro p e s m args below meth c s₁ Bd hml0 hP hK
  obtain ⟨rfl, hZ, hh⟩ := hP
  have hx := Bd.exec
  have hby := Bd.bytes
  have hml : c.maxLocals = 5 := hml0
  have hown : s.vm.findClass "java/lang/StringUTF16" = some m.cls := findClass_of_methodNamed Bd.named
  have hnm := (name_of_methodNamed Bd.named Bd.method).1
  have X0 : Stand p l e ({ frames := 2, cells := 1, slots := 8, locals := 24 } : Room) s m #[(.ref ab), (.int (0 : Int32)), (.int (2 : Int32))] below meth c s₁ [] 0 0 := Stand.of_body Bd
  have e0 : s₁.heap = h0 := by rw [← hh, Bd.state]; rfl
  have N0 := Fr.nil n0
  have K : Keep h0 h0 [] := Keep.refl h0 []
  obtain ⟨G1, G3, O2, P5, O4, rG3, SA, SB, SC⟩ := id hSt
  show own_Gd p.tables e below (own_P (Q_rm20 Z ([u0, u1] : List UInt16) (2 : Int32) h0 n0) s ({ frames := 2, cells := 1, slots := 8, locals := 24 } : Room).cells ({ frames := 2, cells := 1, slots := 8, locals := 24 } : Room).slots) _
  refine own_go (B := s₁.setTop (mkF m 0 #[.val (.ref ab), .val (.int (0 : Int32)), .val (.int (2 : Int32)), .unset, .unset] [])) (fun t k => castTop (ef_rm20_2 m ab (0 : Int32) (2 : Int32)) k) ?_
  refine own_go (B := s₁.setTop (mkF m 1 #[.val (.ref ab), .val (.int (0 : Int32)), .val (.int (2 : Int32)), .unset, .unset] [(.int (2 : Int32))])) (fun t k => ?_) ?_
  · show Steps p.tables e below (s₁.setTop (mkF m 0 #[.val (.ref ab), .val (.int (0 : Int32)), .val (.int (2 : Int32)), .unset, .unset] [])) _
    refine XS.iloadN X0.here hx rfl (hb hby d20_0) rfl ?_
    exact k
  obtain ⟨_, _, ⟨T1, L1, k1, n1⟩, -, X1, ⟨Lc1, hQ1, l1, y1, z1⟩, st1⟩ := Jvm.LawKit.callS X0 hx (y := (⟨"java/lang/StringUTF16", "newBytesFor", "(I)[B"⟩ : MethodName)) hown (mvT hZ (hw _ (List.mem_of_getElem? (i := 94) rfl))) (mvT hZ (hw _ (List.mem_of_getElem? (i := 95) rfl))) (mvT hZ (hw _ (List.mem_of_getElem? (i := 80) rfl))) (mvT hZ (hw _ (List.mem_of_getElem? (i := 96) rfl))) (by decide) (backOf (W := 0) (rm21 l Z a0 hw [] (2 : Int32) h0 n0 Z0 (by decide) (by decide) (by decide) (by decide)) hZ (hw _ (List.mem_of_getElem? (i := 96) rfl)) (hw _ (List.mem_of_getElem? (i := 80) rfl)) (by decide) (by decide)) (g := (mkF m 1 #[.val (.ref ab), .val (.int (0 : Int32)), .val (.int (2 : Int32)), .unset, .unset] [(.int (2 : Int32))])) rfl (by rw [hml]; rfl) (argsL := [(.int (2 : Int32))]) (rest := []) (lenOf pd_4 rfl) rfl (by show 2 * 0 + _ ≤ _; exact Nat.le_of_eq rfl) (hb hby d20_1) (fun _ _ => ⟨rfl, e0, Nat.le_of_ble_eq_true rfl, Nat.le_of_ble_eq_true rfl⟩)
  dsimp only [Pt.U, Pt.locs, Pt.cells, Pt.slots] at X1 l1 y1 z1 st1 hQ1
  subst l1 y1 z1
  obtain ⟨h1, e1⟩ : ∃ z, T1.heap = z := ⟨_, rfl⟩
  rw [e1] at hQ1
  obtain ⟨tb1, kb1, rfl, N1q, Kc1, hsz1, Vc1⟩ := hQ1
  have N1 := Fr.app N0 N1q
  have ne_ab_tb1 : ab ≠ tb1 := Nat.ne_of_lt (Nat.lt_of_lt_of_le V_ab.lt hsz1)
  have g_tb1 : n0 ≤ tb1 := Nat.le_trans Z0 hsz1
  have sz_tb1 : h0.size ≤ tb1 := Nat.le_trans K.1 hsz1
  have V_ab := V_ab.keep Kc1 nin0
  have K := K.trans Kc1 all0
  have Z0 := Nat.le_trans Z0 Kc1.1
  have O := O.keep Kc1 all0
  have V_tb1 : Arv Z h1 tb1 kb1 .byte ((2 : Int32) <<< ((1 : Int32) &&& 31)) [(.int (0 : Int32)), (.int (0 : Int32)), (.int (0 : Int32)), (.int (0 : Int32))] (.int (0 : Int32)) := Vc1.pad (pad_rep [] (.int (0 : Int32)) 4)
  refine own_go (B := T1.setTop (mkF m 4 #[.val (.ref ab), .val (.int (0 : Int32)), .val (.int (2 : Int32)), .unset, .unset] [(.ref tb1)])) st1 ?_
  refine own_go (B := T1.setTop (mkF m 19 #[.val (.ref ab), .val (.int (0 : Int32)), .val (.int (2 : Int32)), .val (.ref tb1), .val (.int (0 : Int32))] [(.int (0 : Int32)), (.ref ab), (.int (0 : Int32)), (.ref tb1)])) (fun t k => ?_) ?_
  · show Steps p.tables e below (T1.setTop (mkF m 4 #[.val (.ref ab), .val (.int (0 : Int32)), .val (.int (2 : Int32)), .unset, .unset] [(.ref tb1)])) _
    refine XS.astoreN X1.here hx rfl (hb hby d20_4) rfl rfl (l' := #[.val (.ref ab), .val (.int (0 : Int32)), .val (.int (2 : Int32)), .val (.ref tb1), .unset]) rfl ?_
    refine XS.iconst X1.here hx rfl (hb hby d20_5) ?_
    refine XS.istore X1.here hx rfl (hb hby d20_6) rfl (l' := #[.val (.ref ab), .val (.int (0 : Int32)), .val (.int (2 : Int32)), .val (.ref tb1), .val (.int (0 : Int32))]) rfl ?_
    refine XS.iload X1.here hx rfl (hb hby d20_8) rfl ?_
    refine XS.iloadN X1.here hx rfl (hb hby d20_10) rfl ?_
    show Steps p.tables e below (T1.setTop (mkF m 11 #[.val (.ref ab), .val (.int (0 : Int32)), .val (.int (2 : Int32)), .val (.ref tb1), .val (.int (0 : Int32))] [(.int (2 : Int32)), (.int (0 : Int32))])) _
    refine XS.icmpNo X1.here hx rfl (hb hby d20_11) rfl (tlt (by decide : (0 : Int32) < (2 : Int32))).2.1 ?_
    refine XS.aloadN X1.here hx rfl (hb hby d20_14) rfl rfl ?_
    refine XS.iload X1.here hx rfl (hb hby d20_15) rfl ?_
    refine XS.aloadN X1.here hx rfl (hb hby d20_17) rfl rfl ?_
    refine XS.iloadN X1.here hx rfl (hb hby d20_18) rfl ?_
    show Steps p.tables e below (T1.setTop (mkF m 19 #[.val (.ref ab), .val (.int (0 : Int32)), .val (.int (2 : Int32)), .val (.ref tb1), .val (.int (0 : Int32))] [(.int (0 : Int32)), (.ref ab), (.int (0 : Int32)), (.ref tb1)])) _
    exact k
  obtain ⟨cl2, Ar2, qa2, Sa2, Na2, Ha2, Ga2⟩ := id V_ab
  have hin2 : ¬ ((0 : Int32) < 0 ∨ cl2.slots.size ≤ ((0 : Int32)).toNatClampNeg) := inb_of Sa2 ⟨by decide, by decide⟩
  have hat2 : cl2.slots[((0 : Int32)).toNatClampNeg]? = some (.int (own_w u0)) := Ha2.at hin2 rfl
  refine own_go (B := T1.setTop (mkF m 20 #[.val (.ref ab), .val (.int (0 : Int32)), .val (.int (2 : Int32)), .val (.ref tb1), .val (.int (0 : Int32))] [(.int (own_w u0)), (.int (0 : Int32)), (.ref tb1)])) (fun t k => ?_) ?_
  · show Steps p.tables e below (T1.setTop (mkF m 19 #[.val (.ref ab), .val (.int (0 : Int32)), .val (.int (2 : Int32)), .val (.ref tb1), .val (.int (0 : Int32))] [(.int (0 : Int32)), (.ref ab), (.int (0 : Int32)), (.ref tb1)])) _
    refine X1.caload hx (j := (0 : Int32)) (v := (.int (own_w u0))) (by rw [e1]; exact Ar2.1) (State.isArrayOf_alike hZ.alike Ar2.2.1) Ar2.2.2 hin2 hat2 (g := (mkF m 19 #[.val (.ref ab), .val (.int (0 : Int32)), .val (.int (2 : Int32)), .val (.ref tb1), .val (.int (0 : Int32))] [(.int (0 : Int32)), (.ref ab), (.int (0 : Int32)), (.ref tb1)])) rfl rfl (hb hby d20_19) _ ?_
    exact k
  obtain ⟨_, _, ⟨T3, L3, k3, n3⟩, -, X3, ⟨Lc3, hQ3, l3, y3, z3⟩, st3⟩ := Jvm.LawKit.callS X1 hx (y := (⟨"java/lang/StringUTF16", "putChar", "([BII)V"⟩ : MethodName)) hown (mvT hZ (hw _ (List.mem_of_getElem? (i := 101) rfl))) (mvT hZ (hw _ (List.mem_of_getElem? (i := 102) rfl))) (mvT hZ (hw _ (List.mem_of_getElem? (i := 80) rfl))) (mvT hZ (hw _ (List.mem_of_getElem? (i := 103) rfl))) (by decide) (backOf (W := 0) (rm23 l Z a0 hw [] tb1 kb1 ((2 : Int32) <<< ((1 : Int32) &&& 31)) [(.int (0 : Int32)), (.int (0 : Int32)), (.int (0 : Int32)), (.int (0 : Int32))] (0 : Int32) 0 u0 h1 n0 Z0 V_tb1 ⟨by decide, by decide⟩ ⟨by decide, by decide⟩ (by decide) (by decide) (Nat.le_of_ble_eq_true rfl) g_tb1 hSt O) hZ (hw _ (List.mem_of_getElem? (i := 103) rfl)) (hw _ (List.mem_of_getElem? (i := 80) rfl)) (by decide) (by decide)) (g := (mkF m 20 #[.val (.ref ab), .val (.int (0 : Int32)), .val (.int (2 : Int32)), .val (.ref tb1), .val (.int (0 : Int32))] [(.int (own_w u0)), (.int (0 : Int32)), (.ref tb1)])) rfl (by rw [hml]; rfl) (argsL := [(.ref tb1), (.int (0 : Int32)), (.int (own_w u0))]) (rest := []) (lenOf pd_5 rfl) rfl (by show 2 * 0 + _ ≤ _; exact Nat.le_of_eq rfl) (hb hby d20_20) (fun _ _ => ⟨rfl, e1, Nat.le_of_ble_eq_true rfl, Nat.le_of_ble_eq_true rfl⟩)
  dsimp only [Pt.U, Pt.locs, Pt.cells, Pt.slots] at X3 l3 y3 z3 st3 hQ3
  subst l3 y3 z3
  obtain ⟨h3, e3⟩ : ∃ z, T3.heap = z := ⟨_, rfl⟩
  rw [e3] at hQ3
  obtain ⟨rfl, N3q, Kc3, Vc3⟩ := hQ3
  have N3 := Fr.app N1 N3q
  have V_ab := V_ab.keep Kc3 (ninS ne_ab_tb1 nin0)
  have K := K.trans Kc3 (allS (Or.inr sz_tb1) all0)
  have Z0 := Nat.le_trans Z0 Kc3.1
  have O := O.keep Kc3 (allS g_tb1 all0)
  have V_tb1 : Arv Z h3 tb1 kb1 .byte ((2 : Int32) <<< ((1 : Int32) &&& 31)) [(.int (own_lo u0)), (.int (own_hi u0)), (.int (0 : Int32)), (.int (0 : Int32))] (.int (0 : Int32)) := Vc3
  refine own_go (B := T3.setTop (mkF m 23 #[.val (.ref ab), .val (.int (0 : Int32)), .val (.int (2 : Int32)), .val (.ref tb1), .val (.int (0 : Int32))] [])) st3 ?_
  refine own_go (B := T3.setTop (mkF m 19 #[.val (.ref ab), .val (.int (1 : Int32)), .val (.int (2 : Int32)), .val (.ref tb1), .val (.int (1 : Int32))] [(.int (1 : Int32)), (.ref ab), (.int (1 : Int32)), (.ref tb1)])) (fun t k => ?_) ?_
  · show Steps p.tables e below (T3.setTop (mkF m 23 #[.val (.ref ab), .val (.int (0 : Int32)), .val (.int (2 : Int32)), .val (.ref tb1), .val (.int (0 : Int32))] [])) _
    refine XS.iinc X3.here hx rfl (hb hby d20_23) rfl (l' := #[.val (.ref ab), .val (.int (1 : Int32)), .val (.int (2 : Int32)), .val (.ref tb1), .val (.int (0 : Int32))]) rfl ?_
    refine XS.iinc X3.here hx rfl (hb hby d20_26) rfl (l' := #[.val (.ref ab), .val (.int (1 : Int32)), .val (.int (2 : Int32)), .val (.ref tb1), .val (.int (1 : Int32))]) rfl ?_
    refine XS.goto X3.here hx rfl (pc0 := 29) (pc' := 8) rfl (hb hby d20_29) (by decide) (by decide) ?_
    refine XS.iload X3.here hx rfl (hb hby d20_8) rfl ?_
    refine XS.iloadN X3.here hx rfl (hb hby d20_10) rfl ?_
    show Steps p.tables e below (T3.setTop (mkF m 11 #[.val (.ref ab), .val (.int (1 : Int32)), .val (.int (2 : Int32)), .val (.ref tb1), .val (.int (1 : Int32))] [(.int (2 : Int32)), (.int (1 : Int32))])) _
    refine XS.icmpNo X3.here hx rfl (hb hby d20_11) rfl (tlt (by decide : (1 : Int32) < (2 : Int32))).2.1 ?_
    refine XS.aloadN X3.here hx rfl (hb hby d20_14) rfl rfl ?_
    refine XS.iload X3.here hx rfl (hb hby d20_15) rfl ?_
    refine XS.aloadN X3.here hx rfl (hb hby d20_17) rfl rfl ?_
    refine XS.iloadN X3.here hx rfl (hb hby d20_18) rfl ?_
    show Steps p.tables e below (T3.setTop (mkF m 19 #[.val (.ref ab), .val (.int (1 : Int32)), .val (.int (2 : Int32)), .val (.ref tb1), .val (.int (1 : Int32))] [(.int (1 : Int32)), (.ref ab), (.int (1 : Int32)), (.ref tb1)])) _
    exact k
  obtain ⟨cl4, Ar4, qa4, Sa4, Na4, Ha4, Ga4⟩ := id V_ab
  have hin4 : ¬ ((1 : Int32) < 0 ∨ cl4.slots.size ≤ ((1 : Int32)).toNatClampNeg) := inb_of Sa4 ⟨by decide, by decide⟩
  have hat4 : cl4.slots[((1 : Int32)).toNatClampNeg]? = some (.int (own_w u1)) := Ha4.at hin4 rfl
  refine own_go (B := T3.setTop (mkF m 20 #[.val (.ref ab), .val (.int (1 : Int32)), .val (.int (2 : Int32)), .val (.ref tb1), .val (.int (1 : Int32))] [(.int (own_w u1)), (.int (1 : Int32)), (.ref tb1)])) (fun t k => ?_) ?_
  · show Steps p.tables e below (T3.setTop (mkF m 19 #[.val (.ref ab), .val (.int (1 : Int32)), .val (.int (2 : Int32)), .val (.ref tb1), .val (.int (1 : Int32))] [(.int (1 : Int32)), (.ref ab), (.int (1 : Int32)), (.ref tb1)])) _
    refine X3.caload hx (j := (1 : Int32)) (v := (.int (own_w u1))) (by rw [e3]; exact Ar4.1) (State.isArrayOf_alike hZ.alike Ar4.2.1) Ar4.2.2 hin4 hat4 (g := (mkF m 19 #[.val (.ref ab), .val (.int (1 : Int32)), .val (.int (2 : Int32)), .val (.ref tb1), .val (.int (1 : Int32))] [(.int (1 : Int32)), (.ref ab), (.int (1 : Int32)), (.ref tb1)])) rfl rfl (hb hby d20_19) _ ?_
    exact k
  obtain ⟨_, _, ⟨T5, L5, k5, n5⟩, -, X5, ⟨Lc5, hQ5, l5, y5, z5⟩, st5⟩ := Jvm.LawKit.callS X3 hx (y := (⟨"java/lang/StringUTF16", "putChar", "([BII)V"⟩ : MethodName)) hown (mvT hZ (hw _ (List.mem_of_getElem? (i := 101) rfl))) (mvT hZ (hw _ (List.mem_of_getElem? (i := 102) rfl))) (mvT hZ (hw _ (List.mem_of_getElem? (i := 80) rfl))) (mvT hZ (hw _ (List.mem_of_getElem? (i := 103) rfl))) (by decide) (backOf (W := 0) (rm23 l Z a0 hw [] tb1 kb1 ((2 : Int32) <<< ((1 : Int32) &&& 31)) [(.int (own_lo u0)), (.int (own_hi u0)), (.int (0 : Int32)), (.int (0 : Int32))] (1 : Int32) 2 u1 h3 n0 Z0 V_tb1 ⟨by decide, by decide⟩ ⟨by decide, by decide⟩ (by decide) (by decide) (Nat.le_of_ble_eq_true rfl) g_tb1 hSt O) hZ (hw _ (List.mem_of_getElem? (i := 103) rfl)) (hw _ (List.mem_of_getElem? (i := 80) rfl)) (by decide) (by decide)) (g := (mkF m 20 #[.val (.ref ab), .val (.int (1 : Int32)), .val (.int (2 : Int32)), .val (.ref tb1), .val (.int (1 : Int32))] [(.int (own_w u1)), (.int (1 : Int32)), (.ref tb1)])) rfl (by rw [hml]; rfl) (argsL := [(.ref tb1), (.int (1 : Int32)), (.int (own_w u1))]) (rest := []) (lenOf pd_5 rfl) rfl (by show 2 * 0 + _ ≤ _; exact Nat.le_of_eq rfl) (hb hby d20_20) (fun _ _ => ⟨rfl, e3, Nat.le_of_ble_eq_true rfl, Nat.le_of_ble_eq_true rfl⟩)
  dsimp only [Pt.U, Pt.locs, Pt.cells, Pt.slots] at X5 l5 y5 z5 st5 hQ5
  subst l5 y5 z5
  obtain ⟨h5, e5⟩ : ∃ z, T5.heap = z := ⟨_, rfl⟩
  rw [e5] at hQ5
  obtain ⟨rfl, N5q, Kc5, Vc5⟩ := hQ5
  have N5 := Fr.app N3 N5q
  have V_ab := V_ab.keep Kc5 (ninS ne_ab_tb1 nin0)
  have K := K.trans Kc5 (allS (Or.inr sz_tb1) all0)
  have Z0 := Nat.le_trans Z0 Kc5.1
  have O := O.keep Kc5 (allS g_tb1 all0)
  have V_tb1 : Arv Z h5 tb1 kb1 .byte ((2 : Int32) <<< ((1 : Int32) &&& 31)) [(.int (own_lo u0)), (.int (own_hi u0)), (.int (own_lo u1)), (.int (own_hi u1))] (.int (0 : Int32)) := Vc5
  refine own_go (B := T5.setTop (mkF m 23 #[.val (.ref ab), .val (.int (1 : Int32)), .val (.int (2 : Int32)), .val (.ref tb1), .val (.int (1 : Int32))] [])) st5 ?_
  refine own_go (B := T5.setTop (mkF m 33 #[.val (.ref ab), .val (.int (2 : Int32)), .val (.int (2 : Int32)), .val (.ref tb1), .val (.int (2 : Int32))] [(.ref tb1)])) (fun t k => ?_) ?_
  · show Steps p.tables e below (T5.setTop (mkF m 23 #[.val (.ref ab), .val (.int (1 : Int32)), .val (.int (2 : Int32)), .val (.ref tb1), .val (.int (1 : Int32))] [])) _
    refine XS.iinc X5.here hx rfl (hb hby d20_23) rfl (l' := #[.val (.ref ab), .val (.int (2 : Int32)), .val (.int (2 : Int32)), .val (.ref tb1), .val (.int (1 : Int32))]) rfl ?_
    refine XS.iinc X5.here hx rfl (hb hby d20_26) rfl (l' := #[.val (.ref ab), .val (.int (2 : Int32)), .val (.int (2 : Int32)), .val (.ref tb1), .val (.int (2 : Int32))]) rfl ?_
    refine XS.goto X5.here hx rfl (pc0 := 29) (pc' := 8) rfl (hb hby d20_29) (by decide) (by decide) ?_
    refine XS.iload X5.here hx rfl (hb hby d20_8) rfl ?_
    refine XS.iloadN X5.here hx rfl (hb hby d20_10) rfl ?_
    show Steps p.tables e below (T5.setTop (mkF m 11 #[.val (.ref ab), .val (.int (2 : Int32)), .val (.int (2 : Int32)), .val (.ref tb1), .val (.int (2 : Int32))] [(.int (2 : Int32)), (.int (2 : Int32))])) _
    refine XS.icmpYes X5.here hx rfl (pc0 := 11) (pc' := 32) rfl (hb hby d20_11) rfl (flt (by decide : ¬ ((2 : Int32) < (2 : Int32)))).2.1 (by decide) (by decide) ?_
    refine XS.aloadN X5.here hx rfl (hb hby d20_32) rfl rfl ?_
    exact k
  obtain ⟨fs, hr, hrun, hended, hW, hsame⟩ := X5.leave (v := some (.ref tb1)) (fun h => by rw [Bd.returns] at h; cases h)
  refine own_done (retOut X5 hx Bd.returns rfl (Or.inr (Or.inr (Or.inr (Or.inr ⟨rfl, rfl, rfl⟩)))) (hb hby d20_33) hr) hrun hended ⟨_, _, rfl, ?_, ⟨_, rfl⟩, hW, hsame.mono (by decide) (by decide)⟩
  show Q_rm20 Z ([u0, u1] : List UInt16) (2 : Int32) h0 n0 (some (.ref tb1)) T5.heap _
  rw [e5]
  exact ⟨tb1, kb1, rfl, N5, K, sz_tb1, V_tb1⟩
theorem ef_rm20_3 (m : MethodId) (x0 : Addr) (x1 : Int32) (x2 : Int32) : entryFrame m #[(.ref x0), (.int x1), (.int x2)] 5 = mkF m 0 #[.val (.ref x0), .val (.int x1), .val (.int x2), .unset, .unset] [] := by first | (simp [entryFrame, mkF, argsToLocals, Value.category, maxLocals]; done) | rfl
set_option maxRecDepth 65536 in
set_option maxHeartbeats 40000000 in
theorem rm20_3 (l : Launch) (Z : State) (a0 : Array Value) (hw : ∀ d ∈ tables_1, d.before a0 Z = true) (ws : List Jvm.Cond) (ab : Addr) (ka : ClassId) (u0 u1 u2 : UInt16) (h0 : Heap) (n0 : Nat) (Z0 : n0 ≤ h0.size) (V_ab : Arv Z h0 ab ka .char (3 : Int32) [(.int (own_w u0)), (.int (own_w u1)), (.int (own_w u2))] (.int (0 : Int32))) (hSt : own_S Z) (O : Old Z n0 h0) :
    MetFree l (⟨"java/lang/StringUTF16", "toBytes", "([CII)[B"⟩ : MethodName) (head1 (Jvm.Cond.code (⟨"java/lang/StringUTF16", "toBytes", "([CII)[B"⟩ : MethodName) jdk_52_method_14_code 5 (some (.array .byte)) :: ws) ({ frames := 2, cells := 1, slots := 8, locals := 24 } : Room)) (fun a U => a = #[(.ref ab), (.int (0 : Int32)), (.int (3 : Int32))] ∧ Z.Warmed39 U.vm ∧ U.heap = h0) (fun _ _ _ _ _ => True) (fun _ U o U' => ∃ v L, o = .returned v ∧ Q_rm20 Z ([u0, u1, u2] : List UInt16) (3 : Int32) h0 n0 v U'.heap L ∧ FrameEnd U o U' L ({ frames := 2, cells := 1, slots := 8, locals := 24 } : Room).cells ({ frames := 2, cells := 1, slots := 8, locals := 24 } : Room).slots) := by
  refine MetFree.of_bodySF (plainFor_of_name pn_20) hisR ?_
  intro p e s m args below meth c s₁ Bd hml0 hP hK
  obtain ⟨rfl, hZ, hh⟩ := hP
  have hx := Bd.exec
  have hby := Bd.bytes
  have hml : c.maxLocals = 5 := hml0
  have hown : s.vm.findClass "java/lang/StringUTF16" = some m.cls := findClass_of_methodNamed Bd.named
  have hnm := (name_of_methodNamed Bd.named Bd.method).1
  have X0 : Stand p l e ({ frames := 2, cells := 1, slots := 8, locals := 24 } : Room) s m #[(.ref ab), (.int (0 : Int32)), (.int (3 : Int32))] below meth c s₁ [] 0 0 := Stand.of_body Bd
  have e0 : s₁.heap = h0 := by rw [← hh, Bd.state]; rfl
  have N0 := Fr.nil n0
  have K : Keep h0 h0 [] := Keep.refl h0 []
  obtain ⟨G1, G3, O2, P5, O4, rG3, SA, SB, SC⟩ := id hSt
  show own_Gd p.tables e below (own_P (Q_rm20 Z ([u0, u1, u2] : List UInt16) (3 : Int32) h0 n0) s ({ frames := 2, cells := 1, slots := 8, locals := 24 } : Room).cells ({ frames := 2, cells := 1, slots := 8, locals := 24 } : Room).slots) _
  refine own_go (B := s₁.setTop (mkF m 0 #[.val (.ref ab), .val (.int (0 : Int32)), .val (.int (3 : Int32)), .unset, .unset] [])) (fun t k => castTop (ef_rm20_3 m ab (0 : Int32) (3 : Int32)) k) ?_
  refine own_go (B := s₁.setTop (mkF m 1 #[.val (.ref ab), .val (.int (0 : Int32)), .val (.int (3 : Int32)), .unset, .unset] [(.int (3 : Int32))])) (fun t k => ?_) ?_
  · show Steps p.tables e below (s₁.setTop (mkF m 0 #[.val (.ref ab), .val (.int (0 : Int32)), .val (.int (3 : Int32)), .unset, .unset] [])) _
    refine XS.iloadN X0.here hx rfl (hb hby d20_0) rfl ?_
    exact k
  obtain ⟨_, _, ⟨T1, L1, k1, n1⟩, -, X1, ⟨Lc1, hQ1, l1, y1, z1⟩, st1⟩ := Jvm.LawKit.callS X0 hx (y := (⟨"java/lang/StringUTF16", "newBytesFor", "(I)[B"⟩ : MethodName)) hown (mvT hZ (hw _ (List.mem_of_getElem? (i := 94) rfl))) (mvT hZ (hw _ (List.mem_of_getElem? (i := 95) rfl))) (mvT hZ (hw _ (List.mem_of_getElem? (i := 80) rfl))) (mvT hZ (hw _ (List.mem_of_getElem? (i := 96) rfl))) (by decide) (backOf (W := 0) (rm21 l Z a0 hw [] (3 : Int32) h0 n0 Z0 (by decide) (by decide) (by decide) (by decide)) hZ (hw _ (List.mem_of_getElem? (i := 96) rfl)) (hw _ (List.mem_of_getElem? (i := 80) rfl)) (by decide) (by decide)) (g := (mkF m 1 #[.val (.ref ab), .val (.int (0 : Int32)), .val (.int (3 : Int32)), .unset, .unset] [(.int (3 : Int32))])) rfl (by rw [hml]; rfl) (argsL := [(.int (3 : Int32))]) (rest := []) (lenOf pd_4 rfl) rfl (by show 2 * 0 + _ ≤ _; exact Nat.le_of_eq rfl) (hb hby d20_1) (fun _ _ => ⟨rfl, e0, Nat.le_of_ble_eq_true rfl, Nat.le_of_ble_eq_true rfl⟩)
  dsimp only [Pt.U, Pt.locs, Pt.cells, Pt.slots] at X1 l1 y1 z1 st1 hQ1
  subst l1 y1 z1
  obtain ⟨h1, e1⟩ : ∃ z, T1.heap = z := ⟨_, rfl⟩
  rw [e1] at hQ1
  obtain ⟨tb1, kb1, rfl, N1q, Kc1, hsz1, Vc1⟩ := hQ1
  have N1 := Fr.app N0 N1q
  have ne_ab_tb1 : ab ≠ tb1 := Nat.ne_of_lt (Nat.lt_of_lt_of_le V_ab.lt hsz1)
  have g_tb1 : n0 ≤ tb1 := Nat.le_trans Z0 hsz1
  have sz_tb1 : h0.size ≤ tb1 := Nat.le_trans K.1 hsz1
  have V_ab := V_ab.keep Kc1 nin0
  have K := K.trans Kc1 all0
  have Z0 := Nat.le_trans Z0 Kc1.1
  have O := O.keep Kc1 all0
  have V_tb1 : Arv Z h1 tb1 kb1 .byte ((3 : Int32) <<< ((1 : Int32) &&& 31)) [(.int (0 : Int32)), (.int (0 : Int32)), (.int (0 : Int32)), (.int (0 : Int32)), (.int (0 : Int32)), (.int (0 : Int32))] (.int (0 : Int32)) := Vc1.pad (pad_rep [] (.int (0 : Int32)) 6)
  refine own_go (B := T1.setTop (mkF m 4 #[.val (.ref ab), .val (.int (0 : Int32)), .val (.int (3 : Int32)), .unset, .unset] [(.ref tb1)])) st1 ?_
  refine own_go (B := T1.setTop (mkF m 19 #[.val (.ref ab), .val (.int (0 : Int32)), .val (.int (3 : Int32)), .val (.ref tb1), .val (.int (0 : Int32))] [(.int (0 : Int32)), (.ref ab), (.int (0 : Int32)), (.ref tb1)])) (fun t k => ?_) ?_
  · show Steps p.tables e below (T1.setTop (mkF m 4 #[.val (.ref ab), .val (.int (0 : Int32)), .val (.int (3 : Int32)), .unset, .unset] [(.ref tb1)])) _
    refine XS.astoreN X1.here hx rfl (hb hby d20_4) rfl rfl (l' := #[.val (.ref ab), .val (.int (0 : Int32)), .val (.int (3 : Int32)), .val (.ref tb1), .unset]) rfl ?_
    refine XS.iconst X1.here hx rfl (hb hby d20_5) ?_
    refine XS.istore X1.here hx rfl (hb hby d20_6) rfl (l' := #[.val (.ref ab), .val (.int (0 : Int32)), .val (.int (3 : Int32)), .val (.ref tb1), .val (.int (0 : Int32))]) rfl ?_
    refine XS.iload X1.here hx rfl (hb hby d20_8) rfl ?_
    refine XS.iloadN X1.here hx rfl (hb hby d20_10) rfl ?_
    show Steps p.tables e below (T1.setTop (mkF m 11 #[.val (.ref ab), .val (.int (0 : Int32)), .val (.int (3 : Int32)), .val (.ref tb1), .val (.int (0 : Int32))] [(.int (3 : Int32)), (.int (0 : Int32))])) _
    refine XS.icmpNo X1.here hx rfl (hb hby d20_11) rfl (tlt (by decide : (0 : Int32) < (3 : Int32))).2.1 ?_
    refine XS.aloadN X1.here hx rfl (hb hby d20_14) rfl rfl ?_
    refine XS.iload X1.here hx rfl (hb hby d20_15) rfl ?_
    refine XS.aloadN X1.here hx rfl (hb hby d20_17) rfl rfl ?_
    refine XS.iloadN X1.here hx rfl (hb hby d20_18) rfl ?_
    show Steps p.tables e below (T1.setTop (mkF m 19 #[.val (.ref ab), .val (.int (0 : Int32)), .val (.int (3 : Int32)), .val (.ref tb1), .val (.int (0 : Int32))] [(.int (0 : Int32)), (.ref ab), (.int (0 : Int32)), (.ref tb1)])) _
    exact k
  obtain ⟨cl2, Ar2, qa2, Sa2, Na2, Ha2, Ga2⟩ := id V_ab
  have hin2 : ¬ ((0 : Int32) < 0 ∨ cl2.slots.size ≤ ((0 : Int32)).toNatClampNeg) := inb_of Sa2 ⟨by decide, by decide⟩
  have hat2 : cl2.slots[((0 : Int32)).toNatClampNeg]? = some (.int (own_w u0)) := Ha2.at hin2 rfl
  refine own_go (B := T1.setTop (mkF m 20 #[.val (.ref ab), .val (.int (0 : Int32)), .val (.int (3 : Int32)), .val (.ref tb1), .val (.int (0 : Int32))] [(.int (own_w u0)), (.int (0 : Int32)), (.ref tb1)])) (fun t k => ?_) ?_
  · show Steps p.tables e below (T1.setTop (mkF m 19 #[.val (.ref ab), .val (.int (0 : Int32)), .val (.int (3 : Int32)), .val (.ref tb1), .val (.int (0 : Int32))] [(.int (0 : Int32)), (.ref ab), (.int (0 : Int32)), (.ref tb1)])) _
    refine X1.caload hx (j := (0 : Int32)) (v := (.int (own_w u0))) (by rw [e1]; exact Ar2.1) (State.isArrayOf_alike hZ.alike Ar2.2.1) Ar2.2.2 hin2 hat2 (g := (mkF m 19 #[.val (.ref ab), .val (.int (0 : Int32)), .val (.int (3 : Int32)), .val (.ref tb1), .val (.int (0 : Int32))] [(.int (0 : Int32)), (.ref ab), (.int (0 : Int32)), (.ref tb1)])) rfl rfl (hb hby d20_19) _ ?_
    exact k
  obtain ⟨_, _, ⟨T3, L3, k3, n3⟩, -, X3, ⟨Lc3, hQ3, l3, y3, z3⟩, st3⟩ := Jvm.LawKit.callS X1 hx (y := (⟨"java/lang/StringUTF16", "putChar", "([BII)V"⟩ : MethodName)) hown (mvT hZ (hw _ (List.mem_of_getElem? (i := 101) rfl))) (mvT hZ (hw _ (List.mem_of_getElem? (i := 102) rfl))) (mvT hZ (hw _ (List.mem_of_getElem? (i := 80) rfl))) (mvT hZ (hw _ (List.mem_of_getElem? (i := 103) rfl))) (by decide) (backOf (W := 0) (rm23 l Z a0 hw [] tb1 kb1 ((3 : Int32) <<< ((1 : Int32) &&& 31)) [(.int (0 : Int32)), (.int (0 : Int32)), (.int (0 : Int32)), (.int (0 : Int32)), (.int (0 : Int32)), (.int (0 : Int32))] (0 : Int32) 0 u0 h1 n0 Z0 V_tb1 ⟨by decide, by decide⟩ ⟨by decide, by decide⟩ (by decide) (by decide) (Nat.le_of_ble_eq_true rfl) g_tb1 hSt O) hZ (hw _ (List.mem_of_getElem? (i := 103) rfl)) (hw _ (List.mem_of_getElem? (i := 80) rfl)) (by decide) (by decide)) (g := (mkF m 20 #[.val (.ref ab), .val (.int (0 : Int32)), .val (.int (3 : Int32)), .val (.ref tb1), .val (.int (0 : Int32))] [(.int (own_w u0)), (.int (0 : Int32)), (.ref tb1)])) rfl (by rw [hml]; rfl) (argsL := [(.ref tb1), (.int (0 : Int32)), (.int (own_w u0))]) (rest := []) (lenOf pd_5 rfl) rfl (by show 2 * 0 + _ ≤ _; exact Nat.le_of_eq rfl) (hb hby d20_20) (fun _ _ => ⟨rfl, e1, Nat.le_of_ble_eq_true rfl, Nat.le_of_ble_eq_true rfl⟩)
  dsimp only [Pt.U, Pt.locs, Pt.cells, Pt.slots] at X3 l3 y3 z3 st3 hQ3
  subst l3 y3 z3
  obtain ⟨h3, e3⟩ : ∃ z, T3.heap = z := ⟨_, rfl⟩
  rw [e3] at hQ3
  obtain ⟨rfl, N3q, Kc3, Vc3⟩ := hQ3
  have N3 := Fr.app N1 N3q
  have V_ab := V_ab.keep Kc3 (ninS ne_ab_tb1 nin0)
  have K := K.trans Kc3 (allS (Or.inr sz_tb1) all0)
  have Z0 := Nat.le_trans Z0 Kc3.1
  have O := O.keep Kc3 (allS g_tb1 all0)
  have V_tb1 : Arv Z h3 tb1 kb1 .byte ((3 : Int32) <<< ((1 : Int32) &&& 31)) [(.int (own_lo u0)), (.int (own_hi u0)), (.int (0 : Int32)), (.int (0 : Int32)), (.int (0 : Int32)), (.int (0 : Int32))] (.int (0 : Int32)) := Vc3
  refine own_go (B := T3.setTop (mkF m 23 #[.val (.ref ab), .val (.int (0 : Int32)), .val (.int (3 : Int32)), .val (.ref tb1), .val (.int (0 : Int32))] [])) st3 ?_
  refine own_go (B := T3.setTop (mkF m 19 #[.val (.ref ab), .val (.int (1 : Int32)), .val (.int (3 : Int32)), .val (.ref tb1), .val (.int (1 : Int32))] [(.int (1 : Int32)), (.ref ab), (.int (1 : Int32)), (.ref tb1)])) (fun t k => ?_) ?_
  · show Steps p.tables e below (T3.setTop (mkF m 23 #[.val (.ref ab), .val (.int (0 : Int32)), .val (.int (3 : Int32)), .val (.ref tb1), .val (.int (0 : Int32))] [])) _
    refine XS.iinc X3.here hx rfl (hb hby d20_23) rfl (l' := #[.val (.ref ab), .val (.int (1 : Int32)), .val (.int (3 : Int32)), .val (.ref tb1), .val (.int (0 : Int32))]) rfl ?_
    refine XS.iinc X3.here hx rfl (hb hby d20_26) rfl (l' := #[.val (.ref ab), .val (.int (1 : Int32)), .val (.int (3 : Int32)), .val (.ref tb1), .val (.int (1 : Int32))]) rfl ?_
    refine XS.goto X3.here hx rfl (pc0 := 29) (pc' := 8) rfl (hb hby d20_29) (by decide) (by decide) ?_
    refine XS.iload X3.here hx rfl (hb hby d20_8) rfl ?_
    refine XS.iloadN X3.here hx rfl (hb hby d20_10) rfl ?_
    show Steps p.tables e below (T3.setTop (mkF m 11 #[.val (.ref ab), .val (.int (1 : Int32)), .val (.int (3 : Int32)), .val (.ref tb1), .val (.int (1 : Int32))] [(.int (3 : Int32)), (.int (1 : Int32))])) _
    refine XS.icmpNo X3.here hx rfl (hb hby d20_11) rfl (tlt (by decide : (1 : Int32) < (3 : Int32))).2.1 ?_
    refine XS.aloadN X3.here hx rfl (hb hby d20_14) rfl rfl ?_
    refine XS.iload X3.here hx rfl (hb hby d20_15) rfl ?_
    refine XS.aloadN X3.here hx rfl (hb hby d20_17) rfl rfl ?_
    refine XS.iloadN X3.here hx rfl (hb hby d20_18) rfl ?_
    show Steps p.tables e below (T3.setTop (mkF m 19 #[.val (.ref ab), .val (.int (1 : Int32)), .val (.int (3 : Int32)), .val (.ref tb1), .val (.int (1 : Int32))] [(.int (1 : Int32)), (.ref ab), (.int (1 : Int32)), (.ref tb1)])) _
    exact k
  obtain ⟨cl4, Ar4, qa4, Sa4, Na4, Ha4, Ga4⟩ := id V_ab
  have hin4 : ¬ ((1 : Int32) < 0 ∨ cl4.slots.size ≤ ((1 : Int32)).toNatClampNeg) := inb_of Sa4 ⟨by decide, by decide⟩
  have hat4 : cl4.slots[((1 : Int32)).toNatClampNeg]? = some (.int (own_w u1)) := Ha4.at hin4 rfl
  refine own_go (B := T3.setTop (mkF m 20 #[.val (.ref ab), .val (.int (1 : Int32)), .val (.int (3 : Int32)), .val (.ref tb1), .val (.int (1 : Int32))] [(.int (own_w u1)), (.int (1 : Int32)), (.ref tb1)])) (fun t k => ?_) ?_
  · show Steps p.tables e below (T3.setTop (mkF m 19 #[.val (.ref ab), .val (.int (1 : Int32)), .val (.int (3 : Int32)), .val (.ref tb1), .val (.int (1 : Int32))] [(.int (1 : Int32)), (.ref ab), (.int (1 : Int32)), (.ref tb1)])) _
    refine X3.caload hx (j := (1 : Int32)) (v := (.int (own_w u1))) (by rw [e3]; exact Ar4.1) (State.isArrayOf_alike hZ.alike Ar4.2.1) Ar4.2.2 hin4 hat4 (g := (mkF m 19 #[.val (.ref ab), .val (.int (1 : Int32)), .val (.int (3 : Int32)), .val (.ref tb1), .val (.int (1 : Int32))] [(.int (1 : Int32)), (.ref ab), (.int (1 : Int32)), (.ref tb1)])) rfl rfl (hb hby d20_19) _ ?_
    exact k
  obtain ⟨_, _, ⟨T5, L5, k5, n5⟩, -, X5, ⟨Lc5, hQ5, l5, y5, z5⟩, st5⟩ := Jvm.LawKit.callS X3 hx (y := (⟨"java/lang/StringUTF16", "putChar", "([BII)V"⟩ : MethodName)) hown (mvT hZ (hw _ (List.mem_of_getElem? (i := 101) rfl))) (mvT hZ (hw _ (List.mem_of_getElem? (i := 102) rfl))) (mvT hZ (hw _ (List.mem_of_getElem? (i := 80) rfl))) (mvT hZ (hw _ (List.mem_of_getElem? (i := 103) rfl))) (by decide) (backOf (W := 0) (rm23 l Z a0 hw [] tb1 kb1 ((3 : Int32) <<< ((1 : Int32) &&& 31)) [(.int (own_lo u0)), (.int (own_hi u0)), (.int (0 : Int32)), (.int (0 : Int32)), (.int (0 : Int32)), (.int (0 : Int32))] (1 : Int32) 2 u1 h3 n0 Z0 V_tb1 ⟨by decide, by decide⟩ ⟨by decide, by decide⟩ (by decide) (by decide) (Nat.le_of_ble_eq_true rfl) g_tb1 hSt O) hZ (hw _ (List.mem_of_getElem? (i := 103) rfl)) (hw _ (List.mem_of_getElem? (i := 80) rfl)) (by decide) (by decide)) (g := (mkF m 20 #[.val (.ref ab), .val (.int (1 : Int32)), .val (.int (3 : Int32)), .val (.ref tb1), .val (.int (1 : Int32))] [(.int (own_w u1)), (.int (1 : Int32)), (.ref tb1)])) rfl (by rw [hml]; rfl) (argsL := [(.ref tb1), (.int (1 : Int32)), (.int (own_w u1))]) (rest := []) (lenOf pd_5 rfl) rfl (by show 2 * 0 + _ ≤ _; exact Nat.le_of_eq rfl) (hb hby d20_20) (fun _ _ => ⟨rfl, e3, Nat.le_of_ble_eq_true rfl, Nat.le_of_ble_eq_true rfl⟩)
  dsimp only [Pt.U, Pt.locs, Pt.cells, Pt.slots] at X5 l5 y5 z5 st5 hQ5
  subst l5 y5 z5
  obtain ⟨h5, e5⟩ : ∃ z, T5.heap = z := ⟨_, rfl⟩
  rw [e5] at hQ5
  obtain ⟨rfl, N5q, Kc5, Vc5⟩ := hQ5
  have N5 := Fr.app N3 N5q
  have V_ab := V_ab.keep Kc5 (ninS ne_ab_tb1 nin0)
  have K := K.trans Kc5 (allS (Or.inr sz_tb1) all0)
  have Z0 := Nat.le_trans Z0 Kc5.1
  have O := O.keep Kc5 (allS g_tb1 all0)
  have V_tb1 : Arv Z h5 tb1 kb1 .byte ((3 : Int32) <<< ((1 : Int32) &&& 31)) [(.int (own_lo u0)), (.int (own_hi u0)), (.int (own_lo u1)), (.int (own_hi u1)), (.int (0 : Int32)), (.int (0 : Int32))] (.int (0 : Int32)) := Vc5
  refine own_go (B := T5.setTop (mkF m 23 #[.val (.ref ab), .val (.int (1 : Int32)), .val (.int (3 : Int32)), .val (.ref tb1), .val (.int (1 : Int32))] [])) st5 ?_
  refine own_go (B := T5.setTop (mkF m 19 #[.val (.ref ab), .val (.int (2 : Int32)), .val (.int (3 : Int32)), .val (.ref tb1), .val (.int (2 : Int32))] [(.int (2 : Int32)), (.ref ab), (.int (2 : Int32)), (.ref tb1)])) (fun t k => ?_) ?_
  · show Steps p.tables e below (T5.setTop (mkF m 23 #[.val (.ref ab), .val (.int (1 : Int32)), .val (.int (3 : Int32)), .val (.ref tb1), .val (.int (1 : Int32))] [])) _
    refine XS.iinc X5.here hx rfl (hb hby d20_23) rfl (l' := #[.val (.ref ab), .val (.int (2 : Int32)), .val (.int (3 : Int32)), .val (.ref tb1), .val (.int (1 : Int32))]) rfl ?_
    refine XS.iinc X5.here hx rfl (hb hby d20_26) rfl (l' := #[.val (.ref ab), .val (.int (2 : Int32)), .val (.int (3 : Int32)), .val (.ref tb1), .val (.int (2 : Int32))]) rfl ?_
    refine XS.goto X5.here hx rfl (pc0 := 29) (pc' := 8) rfl (hb hby d20_29) (by decide) (by decide) ?_
    refine XS.iload X5.here hx rfl (hb hby d20_8) rfl ?_
    refine XS.iloadN X5.here hx rfl (hb hby d20_10) rfl ?_
    show Steps p.tables e below (T5.setTop (mkF m 11 #[.val (.ref ab), .val (.int (2 : Int32)), .val (.int (3 : Int32)), .val (.ref tb1), .val (.int (2 : Int32))] [(.int (3 : Int32)), (.int (2 : Int32))])) _
    refine XS.icmpNo X5.here hx rfl (hb hby d20_11) rfl (tlt (by decide : (2 : Int32) < (3 : Int32))).2.1 ?_
    refine XS.aloadN X5.here hx rfl (hb hby d20_14) rfl rfl ?_
    refine XS.iload X5.here hx rfl (hb hby d20_15) rfl ?_
    refine XS.aloadN X5.here hx rfl (hb hby d20_17) rfl rfl ?_
    refine XS.iloadN X5.here hx rfl (hb hby d20_18) rfl ?_
    show Steps p.tables e below (T5.setTop (mkF m 19 #[.val (.ref ab), .val (.int (2 : Int32)), .val (.int (3 : Int32)), .val (.ref tb1), .val (.int (2 : Int32))] [(.int (2 : Int32)), (.ref ab), (.int (2 : Int32)), (.ref tb1)])) _
    exact k
  obtain ⟨cl6, Ar6, qa6, Sa6, Na6, Ha6, Ga6⟩ := id V_ab
  have hin6 : ¬ ((2 : Int32) < 0 ∨ cl6.slots.size ≤ ((2 : Int32)).toNatClampNeg) := inb_of Sa6 ⟨by decide, by decide⟩
  have hat6 : cl6.slots[((2 : Int32)).toNatClampNeg]? = some (.int (own_w u2)) := Ha6.at hin6 rfl
  refine own_go (B := T5.setTop (mkF m 20 #[.val (.ref ab), .val (.int (2 : Int32)), .val (.int (3 : Int32)), .val (.ref tb1), .val (.int (2 : Int32))] [(.int (own_w u2)), (.int (2 : Int32)), (.ref tb1)])) (fun t k => ?_) ?_
  · show Steps p.tables e below (T5.setTop (mkF m 19 #[.val (.ref ab), .val (.int (2 : Int32)), .val (.int (3 : Int32)), .val (.ref tb1), .val (.int (2 : Int32))] [(.int (2 : Int32)), (.ref ab), (.int (2 : Int32)), (.ref tb1)])) _
    refine X5.caload hx (j := (2 : Int32)) (v := (.int (own_w u2))) (by rw [e5]; exact Ar6.1) (State.isArrayOf_alike hZ.alike Ar6.2.1) Ar6.2.2 hin6 hat6 (g := (mkF m 19 #[.val (.ref ab), .val (.int (2 : Int32)), .val (.int (3 : Int32)), .val (.ref tb1), .val (.int (2 : Int32))] [(.int (2 : Int32)), (.ref ab), (.int (2 : Int32)), (.ref tb1)])) rfl rfl (hb hby d20_19) _ ?_
    exact k
  obtain ⟨_, _, ⟨T7, L7, k7, n7⟩, -, X7, ⟨Lc7, hQ7, l7, y7, z7⟩, st7⟩ := Jvm.LawKit.callS X5 hx (y := (⟨"java/lang/StringUTF16", "putChar", "([BII)V"⟩ : MethodName)) hown (mvT hZ (hw _ (List.mem_of_getElem? (i := 101) rfl))) (mvT hZ (hw _ (List.mem_of_getElem? (i := 102) rfl))) (mvT hZ (hw _ (List.mem_of_getElem? (i := 80) rfl))) (mvT hZ (hw _ (List.mem_of_getElem? (i := 103) rfl))) (by decide) (backOf (W := 0) (rm23 l Z a0 hw [] tb1 kb1 ((3 : Int32) <<< ((1 : Int32) &&& 31)) [(.int (own_lo u0)), (.int (own_hi u0)), (.int (own_lo u1)), (.int (own_hi u1)), (.int (0 : Int32)), (.int (0 : Int32))] (2 : Int32) 4 u2 h5 n0 Z0 V_tb1 ⟨by decide, by decide⟩ ⟨by decide, by decide⟩ (by decide) (by decide) (Nat.le_of_ble_eq_true rfl) g_tb1 hSt O) hZ (hw _ (List.mem_of_getElem? (i := 103) rfl)) (hw _ (List.mem_of_getElem? (i := 80) rfl)) (by decide) (by decide)) (g := (mkF m 20 #[.val (.ref ab), .val (.int (2 : Int32)), .val (.int (3 : Int32)), .val (.ref tb1), .val (.int (2 : Int32))] [(.int (own_w u2)), (.int (2 : Int32)), (.ref tb1)])) rfl (by rw [hml]; rfl) (argsL := [(.ref tb1), (.int (2 : Int32)), (.int (own_w u2))]) (rest := []) (lenOf pd_5 rfl) rfl (by show 2 * 0 + _ ≤ _; exact Nat.le_of_eq rfl) (hb hby d20_20) (fun _ _ => ⟨rfl, e5, Nat.le_of_ble_eq_true rfl, Nat.le_of_ble_eq_true rfl⟩)
  dsimp only [Pt.U, Pt.locs, Pt.cells, Pt.slots] at X7 l7 y7 z7 st7 hQ7
  subst l7 y7 z7
  obtain ⟨h7, e7⟩ : ∃ z, T7.heap = z := ⟨_, rfl⟩
  rw [e7] at hQ7
  obtain ⟨rfl, N7q, Kc7, Vc7⟩ := hQ7
  have N7 := Fr.app N5 N7q
  have V_ab := V_ab.keep Kc7 (ninS ne_ab_tb1 nin0)
  have K := K.trans Kc7 (allS (Or.inr sz_tb1) all0)
  have Z0 := Nat.le_trans Z0 Kc7.1
  have O := O.keep Kc7 (allS g_tb1 all0)
  have V_tb1 : Arv Z h7 tb1 kb1 .byte ((3 : Int32) <<< ((1 : Int32) &&& 31)) [(.int (own_lo u0)), (.int (own_hi u0)), (.int (own_lo u1)), (.int (own_hi u1)), (.int (own_lo u2)), (.int (own_hi u2))] (.int (0 : Int32)) := Vc7
  refine own_go (B := T7.setTop (mkF m 23 #[.val (.ref ab), .val (.int (2 : Int32)), .val (.int (3 : Int32)), .val (.ref tb1), .val (.int (2 : Int32))] [])) st7 ?_
  refine own_go (B := T7.setTop (mkF m 33 #[.val (.ref ab), .val (.int (3 : Int32)), .val (.int (3 : Int32)), .val (.ref tb1), .val (.int (3 : Int32))] [(.ref tb1)])) (fun t k => ?_) ?_
  · show Steps p.tables e below (T7.setTop (mkF m 23 #[.val (.ref ab), .val (.int (2 : Int32)), .val (.int (3 : Int32)), .val (.ref tb1), .val (.int (2 : Int32))] [])) _
    refine XS.iinc X7.here hx rfl (hb hby d20_23) rfl (l' := #[.val (.ref ab), .val (.int (3 : Int32)), .val (.int (3 : Int32)), .val (.ref tb1), .val (.int (2 : Int32))]) rfl ?_
    refine XS.iinc X7.here hx rfl (hb hby d20_26) rfl (l' := #[.val (.ref ab), .val (.int (3 : Int32)), .val (.int (3 : Int32)), .val (.ref tb1), .val (.int (3 : Int32))]) rfl ?_
    refine XS.goto X7.here hx rfl (pc0 := 29) (pc' := 8) rfl (hb hby d20_29) (by decide) (by decide) ?_
    refine XS.iload X7.here hx rfl (hb hby d20_8) rfl ?_
    refine XS.iloadN X7.here hx rfl (hb hby d20_10) rfl ?_
    show Steps p.tables e below (T7.setTop (mkF m 11 #[.val (.ref ab), .val (.int (3 : Int32)), .val (.int (3 : Int32)), .val (.ref tb1), .val (.int (3 : Int32))] [(.int (3 : Int32)), (.int (3 : Int32))])) _
    refine XS.icmpYes X7.here hx rfl (pc0 := 11) (pc' := 32) rfl (hb hby d20_11) rfl (flt (by decide : ¬ ((3 : Int32) < (3 : Int32)))).2.1 (by decide) (by decide) ?_
    refine XS.aloadN X7.here hx rfl (hb hby d20_32) rfl rfl ?_
    exact k
  obtain ⟨fs, hr, hrun, hended, hW, hsame⟩ := X7.leave (v := some (.ref tb1)) (fun h => by rw [Bd.returns] at h; cases h)
  refine own_done (retOut X7 hx Bd.returns rfl (Or.inr (Or.inr (Or.inr (Or.inr ⟨rfl, rfl, rfl⟩)))) (hb hby d20_33) hr) hrun hended ⟨_, _, rfl, ?_, ⟨_, rfl⟩, hW, hsame.mono (by decide) (by decide)⟩
  show Q_rm20 Z ([u0, u1, u2] : List UInt16) (3 : Int32) h0 n0 (some (.ref tb1)) T7.heap _
  rw [e7]
  exact ⟨tb1, kb1, rfl, N7, K, sz_tb1, V_tb1⟩
theorem ef_rm20_4 (m : MethodId) (x0 : Addr) (x1 : Int32) (x2 : Int32) : entryFrame m #[(.ref x0), (.int x1), (.int x2)] 5 = mkF m 0 #[.val (.ref x0), .val (.int x1), .val (.int x2), .unset, .unset] [] := by first | (simp [entryFrame, mkF, argsToLocals, Value.category, maxLocals]; done) | rfl
set_option maxRecDepth 65536 in
set_option maxHeartbeats 40000000 in
theorem rm20_4 (l : Launch) (Z : State) (a0 : Array Value) (hw : ∀ d ∈ tables_1, d.before a0 Z = true) (ws : List Jvm.Cond) (ab : Addr) (ka : ClassId) (u0 u1 u2 u3 : UInt16) (h0 : Heap) (n0 : Nat) (Z0 : n0 ≤ h0.size) (V_ab : Arv Z h0 ab ka .char (4 : Int32) [(.int (own_w u0)), (.int (own_w u1)), (.int (own_w u2)), (.int (own_w u3))] (.int (0 : Int32))) (hSt : own_S Z) (O : Old Z n0 h0) :
    MetFree l (⟨"java/lang/StringUTF16", "toBytes", "([CII)[B"⟩ : MethodName) (head1 (Jvm.Cond.code (⟨"java/lang/StringUTF16", "toBytes", "([CII)[B"⟩ : MethodName) jdk_52_method_14_code 5 (some (.array .byte)) :: ws) ({ frames := 2, cells := 1, slots := 8, locals := 24 } : Room)) (fun a U => a = #[(.ref ab), (.int (0 : Int32)), (.int (4 : Int32))] ∧ Z.Warmed39 U.vm ∧ U.heap = h0) (fun _ _ _ _ _ => True) (fun _ U o U' => ∃ v L, o = .returned v ∧ Q_rm20 Z ([u0, u1, u2, u3] : List UInt16) (4 : Int32) h0 n0 v U'.heap L ∧ FrameEnd U o U' L ({ frames := 2, cells := 1, slots := 8, locals := 24 } : Room).cells ({ frames := 2, cells := 1, slots := 8, locals := 24 } : Room).slots) := by
  refine MetFree.of_bodySF (plainFor_of_name pn_20) hisR ?_
  intro p e s m args below meth c s₁ Bd hml0 hP hK
  obtain ⟨rfl, hZ, hh⟩ := hP
  have hx := Bd.exec
  have hby := Bd.bytes
  have hml : c.maxLocals = 5 := hml0
  have hown : s.vm.findClass "java/lang/StringUTF16" = some m.cls := findClass_of_methodNamed Bd.named
  have hnm := (name_of_methodNamed Bd.named Bd.method).1
  have X0 : Stand p l e ({ frames := 2, cells := 1, slots := 8, locals := 24 } : Room) s m #[(.ref ab), (.int (0 : Int32)), (.int (4 : Int32))] below meth c s₁ [] 0 0 := Stand.of_body Bd
  have e0 : s₁.heap = h0 := by rw [← hh, Bd.state]; rfl
  have N0 := Fr.nil n0
  have K : Keep h0 h0 [] := Keep.refl h0 []
  obtain ⟨G1, G3, O2, P5, O4, rG3, SA, SB, SC⟩ := id hSt
  show own_Gd p.tables e below (own_P (Q_rm20 Z ([u0, u1, u2, u3] : List UInt16) (4 : Int32) h0 n0) s ({ frames := 2, cells := 1, slots := 8, locals := 24 } : Room).cells ({ frames := 2, cells := 1, slots := 8, locals := 24 } : Room).slots) _
  refine own_go (B := s₁.setTop (mkF m 0 #[.val (.ref ab), .val (.int (0 : Int32)), .val (.int (4 : Int32)), .unset, .unset] [])) (fun t k => castTop (ef_rm20_4 m ab (0 : Int32) (4 : Int32)) k) ?_
  refine own_go (B := s₁.setTop (mkF m 1 #[.val (.ref ab), .val (.int (0 : Int32)), .val (.int (4 : Int32)), .unset, .unset] [(.int (4 : Int32))])) (fun t k => ?_) ?_
  · show Steps p.tables e below (s₁.setTop (mkF m 0 #[.val (.ref ab), .val (.int (0 : Int32)), .val (.int (4 : Int32)), .unset, .unset] [])) _
    refine XS.iloadN X0.here hx rfl (hb hby d20_0) rfl ?_
    exact k
  obtain ⟨_, _, ⟨T1, L1, k1, n1⟩, -, X1, ⟨Lc1, hQ1, l1, y1, z1⟩, st1⟩ := Jvm.LawKit.callS X0 hx (y := (⟨"java/lang/StringUTF16", "newBytesFor", "(I)[B"⟩ : MethodName)) hown (mvT hZ (hw _ (List.mem_of_getElem? (i := 94) rfl))) (mvT hZ (hw _ (List.mem_of_getElem? (i := 95) rfl))) (mvT hZ (hw _ (List.mem_of_getElem? (i := 80) rfl))) (mvT hZ (hw _ (List.mem_of_getElem? (i := 96) rfl))) (by decide) (backOf (W := 0) (rm21 l Z a0 hw [] (4 : Int32) h0 n0 Z0 (by decide) (by decide) (by decide) (by decide)) hZ (hw _ (List.mem_of_getElem? (i := 96) rfl)) (hw _ (List.mem_of_getElem? (i := 80) rfl)) (by decide) (by decide)) (g := (mkF m 1 #[.val (.ref ab), .val (.int (0 : Int32)), .val (.int (4 : Int32)), .unset, .unset] [(.int (4 : Int32))])) rfl (by rw [hml]; rfl) (argsL := [(.int (4 : Int32))]) (rest := []) (lenOf pd_4 rfl) rfl (by show 2 * 0 + _ ≤ _; exact Nat.le_of_eq rfl) (hb hby d20_1) (fun _ _ => ⟨rfl, e0, Nat.le_of_ble_eq_true rfl, Nat.le_of_ble_eq_true rfl⟩)
  dsimp only [Pt.U, Pt.locs, Pt.cells, Pt.slots] at X1 l1 y1 z1 st1 hQ1
  subst l1 y1 z1
  obtain ⟨h1, e1⟩ : ∃ z, T1.heap = z := ⟨_, rfl⟩
  rw [e1] at hQ1
  obtain ⟨tb1, kb1, rfl, N1q, Kc1, hsz1, Vc1⟩ := hQ1
  have N1 := Fr.app N0 N1q
  have ne_ab_tb1 : ab ≠ tb1 := Nat.ne_of_lt (Nat.lt_of_lt_of_le V_ab.lt hsz1)
  have g_tb1 : n0 ≤ tb1 := Nat.le_trans Z0 hsz1
  have sz_tb1 : h0.size ≤ tb1 := Nat.le_trans K.1 hsz1
  have V_ab := V_ab.keep Kc1 nin0
  have K := K.trans Kc1 all0
  have Z0 := Nat.le_trans Z0 Kc1.1
  have O := O.keep Kc1 all0
  have V_tb1 : Arv Z h1 tb1 kb1 .byte ((4 : Int32) <<< ((1 : Int32) &&& 31)) [(.int (0 : Int32)), (.int (0 : Int32)), (.int (0 : Int32)), (.int (0 : Int32)), (.int (0 : Int32)), (.int (0 : Int32)), (.int (0 : Int32)), (.int (0 : Int32))] (.int (0 : Int32)) := Vc1.pad (pad_rep [] (.int (0 : Int32)) 8)
  refine own_go (B := T1.setTop (mkF m 4 #[.val (.ref ab), .val (.int (0 : Int32)), .val (.int (4 : Int32)), .unset, .unset] [(.ref tb1)])) st1 ?_
  refine own_go (B := T1.setTop (mkF m 19 #[.val (.ref ab), .val (.int (0 : Int32)), .val (.int (4 : Int32)), .val (.ref tb1), .val (.int (0 : Int32))] [(.int (0 : Int32)), (.ref ab), (.int (0 : Int32)), (.ref tb1)])) (fun t k => ?_) ?_
  · show Steps p.tables e below (T1.setTop (mkF m 4 #[.val (.ref ab), .val (.int (0 : Int32)), .val (.int (4 : Int32)), .unset, .unset] [(.ref tb1)])) _
    refine XS.astoreN X1.here hx rfl (hb hby d20_4) rfl rfl (l' := #[.val (.ref ab), .val (.int (0 : Int32)), .val (.int (4 : Int32)), .val (.ref tb1), .unset]) rfl ?_
    refine XS.iconst X1.here hx rfl (hb hby d20_5) ?_
    refine XS.istore X1.here hx rfl (hb hby d20_6) rfl (l' := #[.val (.ref ab), .val (.int (0 : Int32)), .val (.int (4 : Int32)), .val (.ref tb1), .val (.int (0 : Int32))]) rfl ?_
    refine XS.iload X1.here hx rfl (hb hby d20_8) rfl ?_
    refine XS.iloadN X1.here hx rfl (hb hby d20_10) rfl ?_
    show Steps p.tables e below (T1.setTop (mkF m 11 #[.val (.ref ab), .val (.int (0 : Int32)), .val (.int (4 : Int32)), .val (.ref tb1), .val (.int (0 : Int32))] [(.int (4 : Int32)), (.int (0 : Int32))])) _
    refine XS.icmpNo X1.here hx rfl (hb hby d20_11) rfl (tlt (by decide : (0 : Int32) < (4 : Int32))).2.1 ?_
    refine XS.aloadN X1.here hx rfl (hb hby d20_14) rfl rfl ?_
    refine XS.iload X1.here hx rfl (hb hby d20_15) rfl ?_
    refine XS.aloadN X1.here hx rfl (hb hby d20_17) rfl rfl ?_
    refine XS.iloadN X1.here hx rfl (hb hby d20_18) rfl ?_
    show Steps p.tables e below (T1.setTop (mkF m 19 #[.val (.ref ab), .val (.int (0 : Int32)), .val (.int (4 : Int32)), .val (.ref tb1), .val (.int (0 : Int32))] [(.int (0 : Int32)), (.ref ab), (.int (0 : Int32)), (.ref tb1)])) _
    exact k
  obtain ⟨cl2, Ar2, qa2, Sa2, Na2, Ha2, Ga2⟩ := id V_ab
  have hin2 : ¬ ((0 : Int32) < 0 ∨ cl2.slots.size ≤ ((0 : Int32)).toNatClampNeg) := inb_of Sa2 ⟨by decide, by decide⟩
  have hat2 : cl2.slots[((0 : Int32)).toNatClampNeg]? = some (.int (own_w u0)) := Ha2.at hin2 rfl
  refine own_go (B := T1.setTop (mkF m 20 #[.val (.ref ab), .val (.int (0 : Int32)), .val (.int (4 : Int32)), .val (.ref tb1), .val (.int (0 : Int32))] [(.int (own_w u0)), (.int (0 : Int32)), (.ref tb1)])) (fun t k => ?_) ?_
  · show Steps p.tables e below (T1.setTop (mkF m 19 #[.val (.ref ab), .val (.int (0 : Int32)), .val (.int (4 : Int32)), .val (.ref tb1), .val (.int (0 : Int32))] [(.int (0 : Int32)), (.ref ab), (.int (0 : Int32)), (.ref tb1)])) _
    refine X1.caload hx (j := (0 : Int32)) (v := (.int (own_w u0))) (by rw [e1]; exact Ar2.1) (State.isArrayOf_alike hZ.alike Ar2.2.1) Ar2.2.2 hin2 hat2 (g := (mkF m 19 #[.val (.ref ab), .val (.int (0 : Int32)), .val (.int (4 : Int32)), .val (.ref tb1), .val (.int (0 : Int32))] [(.int (0 : Int32)), (.ref ab), (.int (0 : Int32)), (.ref tb1)])) rfl rfl (hb hby d20_19) _ ?_
    exact k
  obtain ⟨_, _, ⟨T3, L3, k3, n3⟩, -, X3, ⟨Lc3, hQ3, l3, y3, z3⟩, st3⟩ := Jvm.LawKit.callS X1 hx (y := (⟨"java/lang/StringUTF16", "putChar", "([BII)V"⟩ : MethodName)) hown (mvT hZ (hw _ (List.mem_of_getElem? (i := 101) rfl))) (mvT hZ (hw _ (List.mem_of_getElem? (i := 102) rfl))) (mvT hZ (hw _ (List.mem_of_getElem? (i := 80) rfl))) (mvT hZ (hw _ (List.mem_of_getElem? (i := 103) rfl))) (by decide) (backOf (W := 0) (rm23 l Z a0 hw [] tb1 kb1 ((4 : Int32) <<< ((1 : Int32) &&& 31)) [(.int (0 : Int32)), (.int (0 : Int32)), (.int (0 : Int32)), (.int (0 : Int32)), (.int (0 : Int32)), (.int (0 : Int32)), (.int (0 : Int32)), (.int (0 : Int32))] (0 : Int32) 0 u0 h1 n0 Z0 V_tb1 ⟨by decide, by decide⟩ ⟨by decide, by decide⟩ (by decide) (by decide) (Nat.le_of_ble_eq_true rfl) g_tb1 hSt O) hZ (hw _ (List.mem_of_getElem? (i := 103) rfl)) (hw _ (List.mem_of_getElem? (i := 80) rfl)) (by decide) (by decide)) (g := (mkF m 20 #[.val (.ref ab), .val (.int (0 : Int32)), .val (.int (4 : Int32)), .val (.ref tb1), .val (.int (0 : Int32))] [(.int (own_w u0)), (.int (0 : Int32)), (.ref tb1)])) rfl (by rw [hml]; rfl) (argsL := [(.ref tb1), (.int (0 : Int32)), (.int (own_w u0))]) (rest := []) (lenOf pd_5 rfl) rfl (by show 2 * 0 + _ ≤ _; exact Nat.le_of_eq rfl) (hb hby d20_20) (fun _ _ => ⟨rfl, e1, Nat.le_of_ble_eq_true rfl, Nat.le_of_ble_eq_true rfl⟩)
  dsimp only [Pt.U, Pt.locs, Pt.cells, Pt.slots] at X3 l3 y3 z3 st3 hQ3
  subst l3 y3 z3
  obtain ⟨h3, e3⟩ : ∃ z, T3.heap = z := ⟨_, rfl⟩
  rw [e3] at hQ3
  obtain ⟨rfl, N3q, Kc3, Vc3⟩ := hQ3
  have N3 := Fr.app N1 N3q
  have V_ab := V_ab.keep Kc3 (ninS ne_ab_tb1 nin0)
  have K := K.trans Kc3 (allS (Or.inr sz_tb1) all0)
  have Z0 := Nat.le_trans Z0 Kc3.1
  have O := O.keep Kc3 (allS g_tb1 all0)
  have V_tb1 : Arv Z h3 tb1 kb1 .byte ((4 : Int32) <<< ((1 : Int32) &&& 31)) [(.int (own_lo u0)), (.int (own_hi u0)), (.int (0 : Int32)), (.int (0 : Int32)), (.int (0 : Int32)), (.int (0 : Int32)), (.int (0 : Int32)), (.int (0 : Int32))] (.int (0 : Int32)) := Vc3
  refine own_go (B := T3.setTop (mkF m 23 #[.val (.ref ab), .val (.int (0 : Int32)), .val (.int (4 : Int32)), .val (.ref tb1), .val (.int (0 : Int32))] [])) st3 ?_
  refine own_go (B := T3.setTop (mkF m 19 #[.val (.ref ab), .val (.int (1 : Int32)), .val (.int (4 : Int32)), .val (.ref tb1), .val (.int (1 : Int32))] [(.int (1 : Int32)), (.ref ab), (.int (1 : Int32)), (.ref tb1)])) (fun t k => ?_) ?_
  · show Steps p.tables e below (T3.setTop (mkF m 23 #[.val (.ref ab), .val (.int (0 : Int32)), .val (.int (4 : Int32)), .val (.ref tb1), .val (.int (0 : Int32))] [])) _
    refine XS.iinc X3.here hx rfl (hb hby d20_23) rfl (l' := #[.val (.ref ab), .val (.int (1 : Int32)), .val (.int (4 : Int32)), .val (.ref tb1), .val (.int (0 : Int32))]) rfl ?_
    refine XS.iinc X3.here hx rfl (hb hby d20_26) rfl (l' := #[.val (.ref ab), .val (.int (1 : Int32)), .val (.int (4 : Int32)), .val (.ref tb1), .val (.int (1 : Int32))]) rfl ?_
    refine XS.goto X3.here hx rfl (pc0 := 29) (pc' := 8) rfl (hb hby d20_29) (by decide) (by decide) ?_
    refine XS.iload X3.here hx rfl (hb hby d20_8) rfl ?_
    refine XS.iloadN X3.here hx rfl (hb hby d20_10) rfl ?_
    show Steps p.tables e below (T3.setTop (mkF m 11 #[.val (.ref ab), .val (.int (1 : Int32)), .val (.int (4 : Int32)), .val (.ref tb1), .val (.int (1 : Int32))] [(.int (4 : Int32)), (.int (1 : Int32))])) _
    refine XS.icmpNo X3.here hx rfl (hb hby d20_11) rfl (tlt (by decide : (1 : Int32) < (4 : Int32))).2.1 ?_
    refine XS.aloadN X3.here hx rfl (hb hby d20_14) rfl rfl ?_
    refine XS.iload X3.here hx rfl (hb hby d20_15) rfl ?_
    refine XS.aloadN X3.here hx rfl (hb hby d20_17) rfl rfl ?_
    refine XS.iloadN X3.here hx rfl (hb hby d20_18) rfl ?_
    show Steps p.tables e below (T3.setTop (mkF m 19 #[.val (.ref ab), .val (.int (1 : Int32)), .val (.int (4 : Int32)), .val (.ref tb1), .val (.int (1 : Int32))] [(.int (1 : Int32)), (.ref ab), (.int (1 : Int32)), (.ref tb1)])) _
    exact k
  obtain ⟨cl4, Ar4, qa4, Sa4, Na4, Ha4, Ga4⟩ := id V_ab
  have hin4 : ¬ ((1 : Int32) < 0 ∨ cl4.slots.size ≤ ((1 : Int32)).toNatClampNeg) := inb_of Sa4 ⟨by decide, by decide⟩
  have hat4 : cl4.slots[((1 : Int32)).toNatClampNeg]? = some (.int (own_w u1)) := Ha4.at hin4 rfl
  refine own_go (B := T3.setTop (mkF m 20 #[.val (.ref ab), .val (.int (1 : Int32)), .val (.int (4 : Int32)), .val (.ref tb1), .val (.int (1 : Int32))] [(.int (own_w u1)), (.int (1 : Int32)), (.ref tb1)])) (fun t k => ?_) ?_
  · show Steps p.tables e below (T3.setTop (mkF m 19 #[.val (.ref ab), .val (.int (1 : Int32)), .val (.int (4 : Int32)), .val (.ref tb1), .val (.int (1 : Int32))] [(.int (1 : Int32)), (.ref ab), (.int (1 : Int32)), (.ref tb1)])) _
    refine X3.caload hx (j := (1 : Int32)) (v := (.int (own_w u1))) (by rw [e3]; exact Ar4.1) (State.isArrayOf_alike hZ.alike Ar4.2.1) Ar4.2.2 hin4 hat4 (g := (mkF m 19 #[.val (.ref ab), .val (.int (1 : Int32)), .val (.int (4 : Int32)), .val (.ref tb1), .val (.int (1 : Int32))] [(.int (1 : Int32)), (.ref ab), (.int (1 : Int32)), (.ref tb1)])) rfl rfl (hb hby d20_19) _ ?_
    exact k
  obtain ⟨_, _, ⟨T5, L5, k5, n5⟩, -, X5, ⟨Lc5, hQ5, l5, y5, z5⟩, st5⟩ := Jvm.LawKit.callS X3 hx (y := (⟨"java/lang/StringUTF16", "putChar", "([BII)V"⟩ : MethodName)) hown (mvT hZ (hw _ (List.mem_of_getElem? (i := 101) rfl))) (mvT hZ (hw _ (List.mem_of_getElem? (i := 102) rfl))) (mvT hZ (hw _ (List.mem_of_getElem? (i := 80) rfl))) (mvT hZ (hw _ (List.mem_of_getElem? (i := 103) rfl))) (by decide) (backOf (W := 0) (rm23 l Z a0 hw [] tb1 kb1 ((4 : Int32) <<< ((1 : Int32) &&& 31)) [(.int (own_lo u0)), (.int (own_hi u0)), (.int (0 : Int32)), (.int (0 : Int32)), (.int (0 : Int32)), (.int (0 : Int32)), (.int (0 : Int32)), (.int (0 : Int32))] (1 : Int32) 2 u1 h3 n0 Z0 V_tb1 ⟨by decide, by decide⟩ ⟨by decide, by decide⟩ (by decide) (by decide) (Nat.le_of_ble_eq_true rfl) g_tb1 hSt O) hZ (hw _ (List.mem_of_getElem? (i := 103) rfl)) (hw _ (List.mem_of_getElem? (i := 80) rfl)) (by decide) (by decide)) (g := (mkF m 20 #[.val (.ref ab), .val (.int (1 : Int32)), .val (.int (4 : Int32)), .val (.ref tb1), .val (.int (1 : Int32))] [(.int (own_w u1)), (.int (1 : Int32)), (.ref tb1)])) rfl (by rw [hml]; rfl) (argsL := [(.ref tb1), (.int (1 : Int32)), (.int (own_w u1))]) (rest := []) (lenOf pd_5 rfl) rfl (by show 2 * 0 + _ ≤ _; exact Nat.le_of_eq rfl) (hb hby d20_20) (fun _ _ => ⟨rfl, e3, Nat.le_of_ble_eq_true rfl, Nat.le_of_ble_eq_true rfl⟩)
  dsimp only [Pt.U, Pt.locs, Pt.cells, Pt.slots] at X5 l5 y5 z5 st5 hQ5
  subst l5 y5 z5
  obtain ⟨h5, e5⟩ : ∃ z, T5.heap = z := ⟨_, rfl⟩
  rw [e5] at hQ5
  obtain ⟨rfl, N5q, Kc5, Vc5⟩ := hQ5
  have N5 := Fr.app N3 N5q
  have V_ab := V_ab.keep Kc5 (ninS ne_ab_tb1 nin0)
  have K := K.trans Kc5 (allS (Or.inr sz_tb1) all0)
  have Z0 := Nat.le_trans Z0 Kc5.1
  have O := O.keep Kc5 (allS g_tb1 all0)
  have V_tb1 : Arv Z h5 tb1 kb1 .byte ((4 : Int32) <<< ((1 : Int32) &&& 31)) [(.int (own_lo u0)), (.int (own_hi u0)), (.int (own_lo u1)), (.int (own_hi u1)), (.int (0 : Int32)), (.int (0 : Int32)), (.int (0 : Int32)), (.int (0 : Int32))] (.int (0 : Int32)) := Vc5
  refine own_go (B := T5.setTop (mkF m 23 #[.val (.ref ab), .val (.int (1 : Int32)), .val (.int (4 : Int32)), .val (.ref tb1), .val (.int (1 : Int32))] [])) st5 ?_
  refine own_go (B := T5.setTop (mkF m 19 #[.val (.ref ab), .val (.int (2 : Int32)), .val (.int (4 : Int32)), .val (.ref tb1), .val (.int (2 : Int32))] [(.int (2 : Int32)), (.ref ab), (.int (2 : Int32)), (.ref tb1)])) (fun t k => ?_) ?_
  · show Steps p.tables e below (T5.setTop (mkF m 23 #[.val (.ref ab), .val (.int (1 : Int32)), .val (.int (4 : Int32)), .val (.ref tb1), .val (.int (1 : Int32))] [])) _
    refine XS.iinc X5.here hx rfl (hb hby d20_23) rfl (l' := #[.val (.ref ab), .val (.int (2 : Int32)), .val (.int (4 : Int32)), .val (.ref tb1), .val (.int (1 : Int32))]) rfl ?_
    refine XS.iinc X5.here hx rfl (hb hby d20_26) rfl (l' := #[.val (.ref ab), .val (.int (2 : Int32)), .val (.int (4 : Int32)), .val (.ref tb1), .val (.int (2 : Int32))]) rfl ?_
    refine XS.goto X5.here hx rfl (pc0 := 29) (pc' := 8) rfl (hb hby d20_29) (by decide) (by decide) ?_
    refine XS.iload X5.here hx rfl (hb hby d20_8) rfl ?_
    refine XS.iloadN X5.here hx rfl (hb hby d20_10) rfl ?_
    show Steps p.tables e below (T5.setTop (mkF m 11 #[.val (.ref ab), .val (.int (2 : Int32)), .val (.int (4 : Int32)), .val (.ref tb1), .val (.int (2 : Int32))] [(.int (4 : Int32)), (.int (2 : Int32))])) _
    refine XS.icmpNo X5.here hx rfl (hb hby d20_11) rfl (tlt (by decide : (2 : Int32) < (4 : Int32))).2.1 ?_
    refine XS.aloadN X5.here hx rfl (hb hby d20_14) rfl rfl ?_
    refine XS.iload X5.here hx rfl (hb hby d20_15) rfl ?_
    refine XS.aloadN X5.here hx rfl (hb hby d20_17) rfl rfl ?_
    refine XS.iloadN X5.here hx rfl (hb hby d20_18) rfl ?_
    show Steps p.tables e below (T5.setTop (mkF m 19 #[.val (.ref ab), .val (.int (2 : Int32)), .val (.int (4 : Int32)), .val (.ref tb1), .val (.int (2 : Int32))] [(.int (2 : Int32)), (.ref ab), (.int (2 : Int32)), (.ref tb1)])) _
    exact k
  obtain ⟨cl6, Ar6, qa6, Sa6, Na6, Ha6, Ga6⟩ := id V_ab
  have hin6 : ¬ ((2 : Int32) < 0 ∨ cl6.slots.size ≤ ((2 : Int32)).toNatClampNeg) := inb_of Sa6 ⟨by decide, by decide⟩
  have hat6 : cl6.slots[((2 : Int32)).toNatClampNeg]? = some (.int (own_w u2)) := Ha6.at hin6 rfl
  refine own_go (B := T5.setTop (mkF m 20 #[.val (.ref ab), .val (.int (2 : Int32)), .val (.int (4 : Int32)), .val (.ref tb1), .val (.int (2 : Int32))] [(.int (own_w u2)), (.int (2 : Int32)), (.ref tb1)])) (fun t k => ?_) ?_
  · show Steps p.tables e below (T5.setTop (mkF m 19 #[.val (.ref ab), .val (.int (2 : Int32)), .val (.int (4 : Int32)), .val (.ref tb1), .val (.int (2 : Int32))] [(.int (2 : Int32)), (.ref ab), (.int (2 : Int32)), (.ref tb1)])) _
    refine X5.caload hx (j := (2 : Int32)) (v := (.int (own_w u2))) (by rw [e5]; exact Ar6.1) (State.isArrayOf_alike hZ.alike Ar6.2.1) Ar6.2.2 hin6 hat6 (g := (mkF m 19 #[.val (.ref ab), .val (.int (2 : Int32)), .val (.int (4 : Int32)), .val (.ref tb1), .val (.int (2 : Int32))] [(.int (2 : Int32)), (.ref ab), (.int (2 : Int32)), (.ref tb1)])) rfl rfl (hb hby d20_19) _ ?_
    exact k
  obtain ⟨_, _, ⟨T7, L7, k7, n7⟩, -, X7, ⟨Lc7, hQ7, l7, y7, z7⟩, st7⟩ := Jvm.LawKit.callS X5 hx (y := (⟨"java/lang/StringUTF16", "putChar", "([BII)V"⟩ : MethodName)) hown (mvT hZ (hw _ (List.mem_of_getElem? (i := 101) rfl))) (mvT hZ (hw _ (List.mem_of_getElem? (i := 102) rfl))) (mvT hZ (hw _ (List.mem_of_getElem? (i := 80) rfl))) (mvT hZ (hw _ (List.mem_of_getElem? (i := 103) rfl))) (by decide) (backOf (W := 0) (rm23 l Z a0 hw [] tb1 kb1 ((4 : Int32) <<< ((1 : Int32) &&& 31)) [(.int (own_lo u0)), (.int (own_hi u0)), (.int (own_lo u1)), (.int (own_hi u1)), (.int (0 : Int32)), (.int (0 : Int32)), (.int (0 : Int32)), (.int (0 : Int32))] (2 : Int32) 4 u2 h5 n0 Z0 V_tb1 ⟨by decide, by decide⟩ ⟨by decide, by decide⟩ (by decide) (by decide) (Nat.le_of_ble_eq_true rfl) g_tb1 hSt O) hZ (hw _ (List.mem_of_getElem? (i := 103) rfl)) (hw _ (List.mem_of_getElem? (i := 80) rfl)) (by decide) (by decide)) (g := (mkF m 20 #[.val (.ref ab), .val (.int (2 : Int32)), .val (.int (4 : Int32)), .val (.ref tb1), .val (.int (2 : Int32))] [(.int (own_w u2)), (.int (2 : Int32)), (.ref tb1)])) rfl (by rw [hml]; rfl) (argsL := [(.ref tb1), (.int (2 : Int32)), (.int (own_w u2))]) (rest := []) (lenOf pd_5 rfl) rfl (by show 2 * 0 + _ ≤ _; exact Nat.le_of_eq rfl) (hb hby d20_20) (fun _ _ => ⟨rfl, e5, Nat.le_of_ble_eq_true rfl, Nat.le_of_ble_eq_true rfl⟩)
  dsimp only [Pt.U, Pt.locs, Pt.cells, Pt.slots] at X7 l7 y7 z7 st7 hQ7
  subst l7 y7 z7
  obtain ⟨h7, e7⟩ : ∃ z, T7.heap = z := ⟨_, rfl⟩
  rw [e7] at hQ7
  obtain ⟨rfl, N7q, Kc7, Vc7⟩ := hQ7
  have N7 := Fr.app N5 N7q
  have V_ab := V_ab.keep Kc7 (ninS ne_ab_tb1 nin0)
  have K := K.trans Kc7 (allS (Or.inr sz_tb1) all0)
  have Z0 := Nat.le_trans Z0 Kc7.1
  have O := O.keep Kc7 (allS g_tb1 all0)
  have V_tb1 : Arv Z h7 tb1 kb1 .byte ((4 : Int32) <<< ((1 : Int32) &&& 31)) [(.int (own_lo u0)), (.int (own_hi u0)), (.int (own_lo u1)), (.int (own_hi u1)), (.int (own_lo u2)), (.int (own_hi u2)), (.int (0 : Int32)), (.int (0 : Int32))] (.int (0 : Int32)) := Vc7
  refine own_go (B := T7.setTop (mkF m 23 #[.val (.ref ab), .val (.int (2 : Int32)), .val (.int (4 : Int32)), .val (.ref tb1), .val (.int (2 : Int32))] [])) st7 ?_
  refine own_go (B := T7.setTop (mkF m 19 #[.val (.ref ab), .val (.int (3 : Int32)), .val (.int (4 : Int32)), .val (.ref tb1), .val (.int (3 : Int32))] [(.int (3 : Int32)), (.ref ab), (.int (3 : Int32)), (.ref tb1)])) (fun t k => ?_) ?_
  · show Steps p.tables e below (T7.setTop (mkF m 23 #[.val (.ref ab), .val (.int (2 : Int32)), .val (.int (4 : Int32)), .val (.ref tb1), .val (.int (2 : Int32))] [])) _
    refine XS.iinc X7.here hx rfl (hb hby d20_23) rfl (l' := #[.val (.ref ab), .val (.int (3 : Int32)), .val (.int (4 : Int32)), .val (.ref tb1), .val (.int (2 : Int32))]) rfl ?_
    refine XS.iinc X7.here hx rfl (hb hby d20_26) rfl (l' := #[.val (.ref ab), .val (.int (3 : Int32)), .val (.int (4 : Int32)), .val (.ref tb1), .val (.int (3 : Int32))]) rfl ?_
    refine XS.goto X7.here hx rfl (pc0 := 29) (pc' := 8) rfl (hb hby d20_29) (by decide) (by decide) ?_
    refine XS.iload X7.here hx rfl (hb hby d20_8) rfl ?_
    refine XS.iloadN X7.here hx rfl (hb hby d20_10) rfl ?_
    show Steps p.tables e below (T7.setTop (mkF m 11 #[.val (.ref ab), .val (.int (3 : Int32)), .val (.int (4 : Int32)), .val (.ref tb1), .val (.int (3 : Int32))] [(.int (4 : Int32)), (.int (3 : Int32))])) _
    refine XS.icmpNo X7.here hx rfl (hb hby d20_11) rfl (tlt (by decide : (3 : Int32) < (4 : Int32))).2.1 ?_
    refine XS.aloadN X7.here hx rfl (hb hby d20_14) rfl rfl ?_
    refine XS.iload X7.here hx rfl (hb hby d20_15) rfl ?_
    refine XS.aloadN X7.here hx rfl (hb hby d20_17) rfl rfl ?_
    refine XS.iloadN X7.here hx rfl (hb hby d20_18) rfl ?_
    show Steps p.tables e below (T7.setTop (mkF m 19 #[.val (.ref ab), .val (.int (3 : Int32)), .val (.int (4 : Int32)), .val (.ref tb1), .val (.int (3 : Int32))] [(.int (3 : Int32)), (.ref ab), (.int (3 : Int32)), (.ref tb1)])) _
    exact k
  obtain ⟨cl8, Ar8, qa8, Sa8, Na8, Ha8, Ga8⟩ := id V_ab
  have hin8 : ¬ ((3 : Int32) < 0 ∨ cl8.slots.size ≤ ((3 : Int32)).toNatClampNeg) := inb_of Sa8 ⟨by decide, by decide⟩
  have hat8 : cl8.slots[((3 : Int32)).toNatClampNeg]? = some (.int (own_w u3)) := Ha8.at hin8 rfl
  refine own_go (B := T7.setTop (mkF m 20 #[.val (.ref ab), .val (.int (3 : Int32)), .val (.int (4 : Int32)), .val (.ref tb1), .val (.int (3 : Int32))] [(.int (own_w u3)), (.int (3 : Int32)), (.ref tb1)])) (fun t k => ?_) ?_
  · show Steps p.tables e below (T7.setTop (mkF m 19 #[.val (.ref ab), .val (.int (3 : Int32)), .val (.int (4 : Int32)), .val (.ref tb1), .val (.int (3 : Int32))] [(.int (3 : Int32)), (.ref ab), (.int (3 : Int32)), (.ref tb1)])) _
    refine X7.caload hx (j := (3 : Int32)) (v := (.int (own_w u3))) (by rw [e7]; exact Ar8.1) (State.isArrayOf_alike hZ.alike Ar8.2.1) Ar8.2.2 hin8 hat8 (g := (mkF m 19 #[.val (.ref ab), .val (.int (3 : Int32)), .val (.int (4 : Int32)), .val (.ref tb1), .val (.int (3 : Int32))] [(.int (3 : Int32)), (.ref ab), (.int (3 : Int32)), (.ref tb1)])) rfl rfl (hb hby d20_19) _ ?_
    exact k
  obtain ⟨_, _, ⟨T9, L9, k9, n9⟩, -, X9, ⟨Lc9, hQ9, l9, y9, z9⟩, st9⟩ := Jvm.LawKit.callS X7 hx (y := (⟨"java/lang/StringUTF16", "putChar", "([BII)V"⟩ : MethodName)) hown (mvT hZ (hw _ (List.mem_of_getElem? (i := 101) rfl))) (mvT hZ (hw _ (List.mem_of_getElem? (i := 102) rfl))) (mvT hZ (hw _ (List.mem_of_getElem? (i := 80) rfl))) (mvT hZ (hw _ (List.mem_of_getElem? (i := 103) rfl))) (by decide) (backOf (W := 0) (rm23 l Z a0 hw [] tb1 kb1 ((4 : Int32) <<< ((1 : Int32) &&& 31)) [(.int (own_lo u0)), (.int (own_hi u0)), (.int (own_lo u1)), (.int (own_hi u1)), (.int (own_lo u2)), (.int (own_hi u2)), (.int (0 : Int32)), (.int (0 : Int32))] (3 : Int32) 6 u3 h7 n0 Z0 V_tb1 ⟨by decide, by decide⟩ ⟨by decide, by decide⟩ (by decide) (by decide) (Nat.le_of_ble_eq_true rfl) g_tb1 hSt O) hZ (hw _ (List.mem_of_getElem? (i := 103) rfl)) (hw _ (List.mem_of_getElem? (i := 80) rfl)) (by decide) (by decide)) (g := (mkF m 20 #[.val (.ref ab), .val (.int (3 : Int32)), .val (.int (4 : Int32)), .val (.ref tb1), .val (.int (3 : Int32))] [(.int (own_w u3)), (.int (3 : Int32)), (.ref tb1)])) rfl (by rw [hml]; rfl) (argsL := [(.ref tb1), (.int (3 : Int32)), (.int (own_w u3))]) (rest := []) (lenOf pd_5 rfl) rfl (by show 2 * 0 + _ ≤ _; exact Nat.le_of_eq rfl) (hb hby d20_20) (fun _ _ => ⟨rfl, e7, Nat.le_of_ble_eq_true rfl, Nat.le_of_ble_eq_true rfl⟩)
  dsimp only [Pt.U, Pt.locs, Pt.cells, Pt.slots] at X9 l9 y9 z9 st9 hQ9
  subst l9 y9 z9
  obtain ⟨h9, e9⟩ : ∃ z, T9.heap = z := ⟨_, rfl⟩
  rw [e9] at hQ9
  obtain ⟨rfl, N9q, Kc9, Vc9⟩ := hQ9
  have N9 := Fr.app N7 N9q
  have V_ab := V_ab.keep Kc9 (ninS ne_ab_tb1 nin0)
  have K := K.trans Kc9 (allS (Or.inr sz_tb1) all0)
  have Z0 := Nat.le_trans Z0 Kc9.1
  have O := O.keep Kc9 (allS g_tb1 all0)
  have V_tb1 : Arv Z h9 tb1 kb1 .byte ((4 : Int32) <<< ((1 : Int32) &&& 31)) [(.int (own_lo u0)), (.int (own_hi u0)), (.int (own_lo u1)), (.int (own_hi u1)), (.int (own_lo u2)), (.int (own_hi u2)), (.int (own_lo u3)), (.int (own_hi u3))] (.int (0 : Int32)) := Vc9
  refine own_go (B := T9.setTop (mkF m 23 #[.val (.ref ab), .val (.int (3 : Int32)), .val (.int (4 : Int32)), .val (.ref tb1), .val (.int (3 : Int32))] [])) st9 ?_
  refine own_go (B := T9.setTop (mkF m 33 #[.val (.ref ab), .val (.int (4 : Int32)), .val (.int (4 : Int32)), .val (.ref tb1), .val (.int (4 : Int32))] [(.ref tb1)])) (fun t k => ?_) ?_
  · show Steps p.tables e below (T9.setTop (mkF m 23 #[.val (.ref ab), .val (.int (3 : Int32)), .val (.int (4 : Int32)), .val (.ref tb1), .val (.int (3 : Int32))] [])) _
    refine XS.iinc X9.here hx rfl (hb hby d20_23) rfl (l' := #[.val (.ref ab), .val (.int (4 : Int32)), .val (.int (4 : Int32)), .val (.ref tb1), .val (.int (3 : Int32))]) rfl ?_
    refine XS.iinc X9.here hx rfl (hb hby d20_26) rfl (l' := #[.val (.ref ab), .val (.int (4 : Int32)), .val (.int (4 : Int32)), .val (.ref tb1), .val (.int (4 : Int32))]) rfl ?_
    refine XS.goto X9.here hx rfl (pc0 := 29) (pc' := 8) rfl (hb hby d20_29) (by decide) (by decide) ?_
    refine XS.iload X9.here hx rfl (hb hby d20_8) rfl ?_
    refine XS.iloadN X9.here hx rfl (hb hby d20_10) rfl ?_
    show Steps p.tables e below (T9.setTop (mkF m 11 #[.val (.ref ab), .val (.int (4 : Int32)), .val (.int (4 : Int32)), .val (.ref tb1), .val (.int (4 : Int32))] [(.int (4 : Int32)), (.int (4 : Int32))])) _
    refine XS.icmpYes X9.here hx rfl (pc0 := 11) (pc' := 32) rfl (hb hby d20_11) rfl (flt (by decide : ¬ ((4 : Int32) < (4 : Int32)))).2.1 (by decide) (by decide) ?_
    refine XS.aloadN X9.here hx rfl (hb hby d20_32) rfl rfl ?_
    exact k
  obtain ⟨fs, hr, hrun, hended, hW, hsame⟩ := X9.leave (v := some (.ref tb1)) (fun h => by rw [Bd.returns] at h; cases h)
  refine own_done (retOut X9 hx Bd.returns rfl (Or.inr (Or.inr (Or.inr (Or.inr ⟨rfl, rfl, rfl⟩)))) (hb hby d20_33) hr) hrun hended ⟨_, _, rfl, ?_, ⟨_, rfl⟩, hW, hsame.mono (by decide) (by decide)⟩
  show Q_rm20 Z ([u0, u1, u2, u3] : List UInt16) (4 : Int32) h0 n0 (some (.ref tb1)) T9.heap _
  rw [e9]
  exact ⟨tb1, kb1, rfl, N9, K, sz_tb1, V_tb1⟩
set_option maxRecDepth 65536 in
set_option maxHeartbeats 40000000 in
theorem rm20 (l : Launch) (Z : State) (a0 : Array Value) (hw : ∀ d ∈ tables_1, d.before a0 Z = true) (ws : List Jvm.Cond) (ab : Addr) (ka : ClassId) (cs : List UInt16) (nn : Int32) (h0 : Heap) (n0 : Nat) (Z0 : n0 ≤ h0.size) (V_ab : Arv Z h0 ab ka .char nn (own_ch cs) (.int (0 : Int32))) (hL : own_L cs nn) (hSt : own_S Z) (O : Old Z n0 h0) :
    MetFree l (⟨"java/lang/StringUTF16", "toBytes", "([CII)[B"⟩ : MethodName) (head1 (Jvm.Cond.code (⟨"java/lang/StringUTF16", "toBytes", "([CII)[B"⟩ : MethodName) jdk_52_method_14_code 5 (some (.array .byte)) :: ws) ({ frames := 2, cells := 1, slots := 8, locals := 24 } : Room)) (fun a U => a = #[(.ref ab), (.int (0 : Int32)), (.int nn)] ∧ Z.Warmed39 U.vm ∧ U.heap = h0) (fun _ _ _ _ _ => True) (fun _ U o U' => ∃ v L, o = .returned v ∧ Q_rm20 Z cs nn h0 n0 v U'.heap L ∧ FrameEnd U o U' L ({ frames := 2, cells := 1, slots := 8, locals := 24 } : Room).cells ({ frames := 2, cells := 1, slots := 8, locals := 24 } : Room).slots) := by
  rcases hL with ⟨u0, rfl, rfl⟩ | ⟨u0, u1, rfl, rfl⟩ | ⟨u0, u1, u2, rfl, rfl⟩ | ⟨u0, u1, u2, u3, rfl, rfl⟩
  · exact rm20_1 l Z a0 hw ws ab ka u0 h0 n0 Z0 V_ab hSt O
  · exact rm20_2 l Z a0 hw ws ab ka u0 u1 h0 n0 Z0 V_ab hSt O
  · exact rm20_3 l Z a0 hw ws ab ka u0 u1 u2 h0 n0 Z0 V_ab hSt O
  · exact rm20_4 l Z a0 hw ws ab ka u0 u1 u2 u3 h0 n0 Z0 V_ab hSt O
def Q_rm17 (Z : State) (cs : List UInt16) (nn : Int32) (tb : Addr) (kb : ClassId) (h0 : Heap) (n0 : Nat) (v : Option Value) (h : Heap) (L : List Loc) : Prop := ∃ r, v = some (.int r) ∧ Fr n0 L ∧ Keep h0 h [tb] ∧ ((r = nn ∧ (∀ u ∈ cs, ¬ (255 : Int32) < own_w u) ∧ Arv Z h tb kb .byte nn (own_lat cs) (.int (0 : Int32))) ∨ (¬ r = nn ∧ ∃ u ∈ cs, (255 : Int32) < own_w u ∧ own_G (nn <<< ((1 : Int32) &&& 31)) (own_wide cs) r u))
theorem d17_0 : decode jdk_52_method_21_code 0 = .ok (.iconst 0, 1) := by decide +kernel
theorem d17_1 : decode jdk_52_method_21_code 1 = .ok (.istore 5, 2) := by decide +kernel
theorem d17_3 : decode jdk_52_method_21_code 3 = .ok (.iload 5, 2) := by decide +kernel
theorem d17_5 : decode jdk_52_method_21_code 5 = .ok (.iload 4, 2) := by decide +kernel
theorem d17_7 : decode jdk_52_method_21_code 7 = .ok (.if_icmp .ge 37, 3) := by decide +kernel
theorem d17_10 : decode jdk_52_method_21_code 10 = .ok (.aload_n 0, 1) := by decide +kernel
theorem d17_11 : decode jdk_52_method_21_code 11 = .ok (.iload_n 1, 1) := by decide +kernel
theorem d17_12 : decode jdk_52_method_21_code 12 = .ok (.caload, 1) := by decide +kernel
theorem d17_13 : decode jdk_52_method_21_code 13 = .ok (.istore 6, 2) := by decide +kernel
theorem d17_15 : decode jdk_52_method_21_code 15 = .ok (.iload 6, 2) := by decide +kernel
theorem d17_17 : decode jdk_52_method_21_code 17 = .ok (.sipush 255, 3) := by decide +kernel
theorem d17_20 : decode jdk_52_method_21_code 20 = .ok (.if_icmp .le 6, 3) := by decide +kernel
theorem d17_23 : decode jdk_52_method_21_code 23 = .ok (.iload 5, 2) := by decide +kernel
theorem d17_25 : decode jdk_52_method_21_code 25 = .ok (.ireturn, 1) := by decide +kernel
theorem d17_26 : decode jdk_52_method_21_code 26 = .ok (.aload_n 2, 1) := by decide +kernel
theorem d17_27 : decode jdk_52_method_21_code 27 = .ok (.iload_n 3, 1) := by decide +kernel
theorem d17_28 : decode jdk_52_method_21_code 28 = .ok (.iload 6, 2) := by decide +kernel
theorem d17_30 : decode jdk_52_method_21_code 30 = .ok (.i2b, 1) := by decide +kernel
theorem d17_31 : decode jdk_52_method_21_code 31 = .ok (.bastore, 1) := by decide +kernel
theorem d17_32 : decode jdk_52_method_21_code 32 = .ok (.iinc 1 1, 3) := by decide +kernel
theorem d17_35 : decode jdk_52_method_21_code 35 = .ok (.iinc 3 1, 3) := by decide +kernel
theorem d17_38 : decode jdk_52_method_21_code 38 = .ok (.iinc 5 1, 3) := by decide +kernel
theorem d17_41 : decode jdk_52_method_21_code 41 = .ok (.goto (-38), 3) := by decide +kernel
theorem d17_44 : decode jdk_52_method_21_code 44 = .ok (.iload 4, 2) := by decide +kernel
theorem d17_46 : decode jdk_52_method_21_code 46 = .ok (.ireturn, 1) := by decide +kernel
theorem ef_rm17_1 (m : MethodId) (x0 : Addr) (x1 : Int32) (x2 : Addr) (x3 : Int32) (x4 : Int32) : entryFrame m #[(.ref x0), (.int x1), (.ref x2), (.int x3), (.int x4)] 7 = mkF m 0 #[.val (.ref x0), .val (.int x1), .val (.ref x2), .val (.int x3), .val (.int x4), .unset, .unset] [] := by first | (simp [entryFrame, mkF, argsToLocals, Value.category, maxLocals]; done) | rfl
set_option maxRecDepth 65536 in
set_option maxHeartbeats 40000000 in
theorem rm17_1 (l : Launch) (Z : State) (a0 : Array Value) (hw : ∀ d ∈ tables_1, d.before a0 Z = true) (ws : List Jvm.Cond) (ab : Addr) (ka : ClassId) (tb : Addr) (kb : ClassId) (u0 : UInt16) (h0 : Heap) (n0 : Nat) (Z0 : n0 ≤ h0.size) (V_ab : Arv Z h0 ab ka .char (1 : Int32) [(.int (own_w u0))] (.int (0 : Int32))) (V_tb : Arv Z h0 tb kb .byte (1 : Int32) [] (.int (0 : Int32))) (ne_ab_tb : ab ≠ tb) (g_tb : n0 ≤ tb) :
    MetFree l (⟨"java/lang/StringUTF16", "compress", "([CI[BII)I"⟩ : MethodName) (head1 (Jvm.Cond.code (⟨"java/lang/StringUTF16", "compress", "([CI[BII)I"⟩ : MethodName) jdk_52_method_21_code 7 (some .int) :: ws) ({ frames := 0, cells := 0, slots := 0, locals := 0 } : Room)) (fun a U => a = #[(.ref ab), (.int (0 : Int32)), (.ref tb), (.int (0 : Int32)), (.int (1 : Int32))] ∧ Z.Warmed39 U.vm ∧ U.heap = h0) (fun _ _ _ _ _ => True) (fun _ U o U' => ∃ v L, o = .returned v ∧ Q_rm17 Z ([u0] : List UInt16) (1 : Int32) tb kb h0 n0 v U'.heap L ∧ FrameEnd U o U' L ({ frames := 0, cells := 0, slots := 0, locals := 0 } : Room).cells ({ frames := 0, cells := 0, slots := 0, locals := 0 } : Room).slots) := by
  refine MetFree.of_bodySF (plainFor_of_name pn_17) hisR ?_
  intro p e s m args below meth c s₁ Bd hml0 hP hK
  obtain ⟨rfl, hZ, hh⟩ := hP
  have hx := Bd.exec
  have hby := Bd.bytes
  have hml : c.maxLocals = 7 := hml0
  have hown : s.vm.findClass "java/lang/StringUTF16" = some m.cls := findClass_of_methodNamed Bd.named
  have hnm := (name_of_methodNamed Bd.named Bd.method).1
  have X0 : Stand p l e ({ frames := 0, cells := 0, slots := 0, locals := 0 } : Room) s m #[(.ref ab), (.int (0 : Int32)), (.ref tb), (.int (0 : Int32)), (.int (1 : Int32))] below meth c s₁ [] 0 0 := Stand.of_body Bd
  have e0 : s₁.heap = h0 := by rw [← hh, Bd.state]; rfl
  have N0 := Fr.nil n0
  have K : Keep h0 h0 [tb] := Keep.refl h0 [tb]
  show own_Gd p.tables e below (own_P (Q_rm17 Z ([u0] : List UInt16) (1 : Int32) tb kb h0 n0) s ({ frames := 0, cells := 0, slots := 0, locals := 0 } : Room).cells ({ frames := 0, cells := 0, slots := 0, locals := 0 } : Room).slots) _
  refine own_go (B := s₁.setTop (mkF m 0 #[.val (.ref ab), .val (.int (0 : Int32)), .val (.ref tb), .val (.int (0 : Int32)), .val (.int (1 : Int32)), .unset, .unset] [])) (fun t k => castTop (ef_rm17_1 m ab (0 : Int32) tb (0 : Int32) (1 : Int32)) k) ?_
  have V_tb : Arv Z h0 tb kb .byte (1 : Int32) [(.int (0 : Int32))] (.int (0 : Int32)) := V_tb.pad (pad_rep [] (.int (0 : Int32)) 1)
  refine own_go (B := s₁.setTop (mkF m 12 #[.val (.ref ab), .val (.int (0 : Int32)), .val (.ref tb), .val (.int (0 : Int32)), .val (.int (1 : Int32)), .val (.int (0 : Int32)), .unset] [(.int (0 : Int32)), (.ref ab)])) (fun t k => ?_) ?_
  · show Steps p.tables e below (s₁.setTop (mkF m 0 #[.val (.ref ab), .val (.int (0 : Int32)), .val (.ref tb), .val (.int (0 : Int32)), .val (.int (1 : Int32)), .unset, .unset] [])) _
    refine XS.iconst X0.here hx rfl (hb hby d17_0) ?_
    refine XS.istore X0.here hx rfl (hb hby d17_1) rfl (l' := #[.val (.ref ab), .val (.int (0 : Int32)), .val (.ref tb), .val (.int (0 : Int32)), .val (.int (1 : Int32)), .val (.int (0 : Int32)), .unset]) rfl ?_
    refine XS.iload X0.here hx rfl (hb hby d17_3) rfl ?_
    refine XS.iload X0.here hx rfl (hb hby d17_5) rfl ?_
    refine XS.icmpNo X0.here hx rfl (hb hby d17_7) rfl (tlt (by decide : (0 : Int32) < (1 : Int32))).2.1 ?_
    show Steps p.tables e below (s₁.setTop (mkF m 10 #[.val (.ref ab), .val (.int (0 : Int32)), .val (.ref tb), .val (.int (0 : Int32)), .val (.int (1 : Int32)), .val (.int (0 : Int32)), .unset] [])) _
    refine XS.aloadN X0.here hx rfl (hb hby d17_10) rfl rfl ?_
    refine XS.iloadN X0.here hx rfl (hb hby d17_11) rfl ?_
    exact k
  obtain ⟨cl1, Ar1, qa1, Sa1, Na1, Ha1, Ga1⟩ := id V_ab
  have hin1 : ¬ ((0 : Int32) < 0 ∨ cl1.slots.size ≤ ((0 : Int32)).toNatClampNeg) := inb_of Sa1 ⟨by decide, by decide⟩
  have hat1 : cl1.slots[((0 : Int32)).toNatClampNeg]? = some (.int (own_w u0)) := Ha1.at hin1 rfl
  refine own_go (B := s₁.setTop (mkF m 20 #[.val (.ref ab), .val (.int (0 : Int32)), .val (.ref tb), .val (.int (0 : Int32)), .val (.int (1 : Int32)), .val (.int (0 : Int32)), .val (.int (own_w u0))] [(.int (255 : Int32)), (.int (own_w u0))])) (fun t k => ?_) ?_
  · show Steps p.tables e below (s₁.setTop (mkF m 12 #[.val (.ref ab), .val (.int (0 : Int32)), .val (.ref tb), .val (.int (0 : Int32)), .val (.int (1 : Int32)), .val (.int (0 : Int32)), .unset] [(.int (0 : Int32)), (.ref ab)])) _
    refine X0.caload hx (j := (0 : Int32)) (v := (.int (own_w u0))) (by rw [e0]; exact Ar1.1) (State.isArrayOf_alike hZ.alike Ar1.2.1) Ar1.2.2 hin1 hat1 (g := (mkF m 12 #[.val (.ref ab), .val (.int (0 : Int32)), .val (.ref tb), .val (.int (0 : Int32)), .val (.int (1 : Int32)), .val (.int (0 : Int32)), .unset] [(.int (0 : Int32)), (.ref ab)])) rfl rfl (hb hby d17_12) _ ?_
    refine XS.istore X0.here hx rfl (hb hby d17_13) rfl (l' := #[.val (.ref ab), .val (.int (0 : Int32)), .val (.ref tb), .val (.int (0 : Int32)), .val (.int (1 : Int32)), .val (.int (0 : Int32)), .val (.int (own_w u0))]) rfl ?_
    refine XS.iload X0.here hx rfl (hb hby d17_15) rfl ?_
    refine XS.sipush X0.here hx rfl (hb hby d17_17) ?_
    exact k
  by_cases hc20_2 : (255 : Int32) < (own_w u0)
  · refine own_go (B := s₁.setTop (mkF m 25 #[.val (.ref ab), .val (.int (0 : Int32)), .val (.ref tb), .val (.int (0 : Int32)), .val (.int (1 : Int32)), .val (.int (0 : Int32)), .val (.int (own_w u0))] [(.int (0 : Int32))])) (fun t k => ?_) ?_
    · show Steps p.tables e below (s₁.setTop (mkF m 20 #[.val (.ref ab), .val (.int (0 : Int32)), .val (.ref tb), .val (.int (0 : Int32)), .val (.int (1 : Int32)), .val (.int (0 : Int32)), .val (.int (own_w u0))] [(.int (255 : Int32)), (.int (own_w u0))])) _
      refine XS.icmpNo X0.here hx rfl (hb hby d17_20) rfl (tlt hc20_2).2.2.2 ?_
      refine XS.iload X0.here hx rfl (hb hby d17_23) rfl ?_
      exact k
    obtain ⟨fs, hr, hrun, hended, hW, hsame⟩ := X0.leave (v := some (.int (0 : Int32))) (fun h => by rw [Bd.returns] at h; cases h)
    refine own_done (retOut X0 hx Bd.returns rfl (Or.inl ⟨rfl, Or.inl rfl, _, rfl⟩) (hb hby d17_25) hr) hrun hended ⟨_, _, rfl, ?_, ⟨_, rfl⟩, hW, hsame.mono (by decide) (by decide)⟩
    show Q_rm17 Z ([u0] : List UInt16) (1 : Int32) tb kb h0 n0 (some (.int (0 : Int32))) s₁.heap _
    rw [e0]
    exact ⟨_, rfl, N0, K, Or.inr ⟨by decide, u0, by simp, hc20_2, (own_G_mk 0 ⟨by decide, by decide⟩ ⟨by decide, by decide⟩ (by decide) (by decide) rfl rfl)⟩⟩
  · refine own_go (B := s₁.setTop (mkF m 31 #[.val (.ref ab), .val (.int (0 : Int32)), .val (.ref tb), .val (.int (0 : Int32)), .val (.int (1 : Int32)), .val (.int (0 : Int32)), .val (.int (own_w u0))] [(.int ((own_w u0).toInt8.toInt32)), (.int (0 : Int32)), (.ref tb)])) (fun t k => ?_) ?_
    · show Steps p.tables e below (s₁.setTop (mkF m 20 #[.val (.ref ab), .val (.int (0 : Int32)), .val (.ref tb), .val (.int (0 : Int32)), .val (.int (1 : Int32)), .val (.int (0 : Int32)), .val (.int (own_w u0))] [(.int (255 : Int32)), (.int (own_w u0))])) _
      refine XS.icmpYes X0.here hx rfl (pc0 := 20) (pc' := 26) rfl (hb hby d17_20) rfl (flt hc20_2).2.2.2 (by decide) (by decide) ?_
      refine XS.aloadN X0.here hx rfl (hb hby d17_26) rfl rfl ?_
      refine XS.iloadN X0.here hx rfl (hb hby d17_27) rfl ?_
      refine XS.iload X0.here hx rfl (hb hby d17_28) rfl ?_
      refine XS.i2b X0.here hx rfl (hb hby d17_30) rfl ?_
      show Steps p.tables e below (s₁.setTop (mkF m 31 #[.val (.ref ab), .val (.int (0 : Int32)), .val (.ref tb), .val (.int (0 : Int32)), .val (.int (1 : Int32)), .val (.int (0 : Int32)), .val (.int (own_w u0))] [(.int ((own_w u0).toInt8.toInt32)), (.int (0 : Int32)), (.ref tb)])) _
      exact k
    obtain ⟨cl3, Ar3, qa3, Sa3, Na3, Ha3, Ga3⟩ := id V_tb
    have hin3 : ¬ ((0 : Int32) < 0 ∨ cl3.slots.size ≤ ((0 : Int32)).toNatClampNeg) := inb_of Sa3 ⟨by decide, by decide⟩
    obtain ⟨T4, h4, X4, e4, W4, st4⟩ := stB X0 hx hZ e0 Ar3 (j := (0 : Int32)) hin3 (g := (mkF m 31 #[.val (.ref ab), .val (.int (0 : Int32)), .val (.ref tb), .val (.int (0 : Int32)), .val (.int (1 : Int32)), .val (.int (0 : Int32)), .val (.int (own_w u0))] [(.int ((own_w u0).toInt8.toInt32)), (.int (0 : Int32)), (.ref tb)])) rfl rfl (hb hby d17_31)
    have V_ab := V_ab.other W4 ne_ab_tb
    have Z0 := Nat.le_trans Z0 (Nat.le_of_eq W4.size.symm)
    have V_tb : Arv Z h4 tb kb .byte (1 : Int32) [(.int (nar .byte ((own_w u0).toInt8.toInt32)))] (.int (0 : Int32)) := Arv.set Ar3 qa3 Sa3 Na3 Ha3 Ga3 (fits_nar_byte _) W4 0 rfl (Nat.le_of_ble_eq_true rfl)
    have K := K.wr W4 (Or.inl (List.mem_of_getElem? (i := 0) rfl))
    have N4 := Fr.snoc X4 N0 g_tb
    refine own_go (B := T4.setTop (mkF m 32 #[.val (.ref ab), .val (.int (0 : Int32)), .val (.ref tb), .val (.int (0 : Int32)), .val (.int (1 : Int32)), .val (.int (0 : Int32)), .val (.int (own_w u0))] [])) st4 ?_
    refine own_go (B := T4.setTop (mkF m 46 #[.val (.ref ab), .val (.int (1 : Int32)), .val (.ref tb), .val (.int (1 : Int32)), .val (.int (1 : Int32)), .val (.int (1 : Int32)), .val (.int (own_w u0))] [(.int (1 : Int32))])) (fun t k => ?_) ?_
    · show Steps p.tables e below (T4.setTop (mkF m 32 #[.val (.ref ab), .val (.int (0 : Int32)), .val (.ref tb), .val (.int (0 : Int32)), .val (.int (1 : Int32)), .val (.int (0 : Int32)), .val (.int (own_w u0))] [])) _
      refine XS.iinc X4.here hx rfl (hb hby d17_32) rfl (l' := #[.val (.ref ab), .val (.int (1 : Int32)), .val (.ref tb), .val (.int (0 : Int32)), .val (.int (1 : Int32)), .val (.int (0 : Int32)), .val (.int (own_w u0))]) rfl ?_
      refine XS.iinc X4.here hx rfl (hb hby d17_35) rfl (l' := #[.val (.ref ab), .val (.int (1 : Int32)), .val (.ref tb), .val (.int (1 : Int32)), .val (.int (1 : Int32)), .val (.int (0 : Int32)), .val (.int (own_w u0))]) rfl ?_
      refine XS.iinc X4.here hx rfl (hb hby d17_38) rfl (l' := #[.val (.ref ab), .val (.int (1 : Int32)), .val (.ref tb), .val (.int (1 : Int32)), .val (.int (1 : Int32)), .val (.int (1 : Int32)), .val (.int (own_w u0))]) rfl ?_
      refine XS.goto X4.here hx rfl (pc0 := 41) (pc' := 3) rfl (hb hby d17_41) (by decide) (by decide) ?_
      refine XS.iload X4.here hx rfl (hb hby d17_3) rfl ?_
      show Steps p.tables e below (T4.setTop (mkF m 5 #[.val (.ref ab), .val (.int (1 : Int32)), .val (.ref tb), .val (.int (1 : Int32)), .val (.int (1 : Int32)), .val (.int (1 : Int32)), .val (.int (own_w u0))] [(.int (1 : Int32))])) _
      refine XS.iload X4.here hx rfl (hb hby d17_5) rfl ?_
      refine XS.icmpYes X4.here hx rfl (pc0 := 7) (pc' := 44) rfl (hb hby d17_7) rfl (flt (by decide : ¬ ((1 : Int32) < (1 : Int32)))).2.1 (by decide) (by decide) ?_
      refine XS.iload X4.here hx rfl (hb hby d17_44) rfl ?_
      exact k
    obtain ⟨fs, hr, hrun, hended, hW, hsame⟩ := X4.leave (v := some (.int (1 : Int32))) (fun h => by rw [Bd.returns] at h; cases h)
    refine own_done (retOut X4 hx Bd.returns rfl (Or.inl ⟨rfl, Or.inl rfl, _, rfl⟩) (hb hby d17_46) hr) hrun hended ⟨_, _, rfl, ?_, ⟨_, rfl⟩, hW, hsame.mono (by decide) (by decide)⟩
    show Q_rm17 Z ([u0] : List UInt16) (1 : Int32) tb kb h0 n0 (some (.int (1 : Int32))) T4.heap _
    rw [e4]
    exact ⟨_, rfl, N4, K, Or.inl ⟨rfl, (own_allc hc20_2 own_alln), V_tb⟩⟩
theorem ef_rm17_2 (m : MethodId) (x0 : Addr) (x1 : Int32) (x2 : Addr) (x3 : Int32) (x4 : Int32) : entryFrame m #[(.ref x0), (.int x1), (.ref x2), (.int x3), (.int x4)] 7 = mkF m 0 #[.val (.ref x0), .val (.int x1), .val (.ref x2), .val (.int x3), .val (.int x4), .unset, .unset] [] := by first | (simp [entryFrame, mkF, argsToLocals, Value.category, maxLocals]; done) | rfl
set_option maxRecDepth 65536 in
set_option maxHeartbeats 40000000 in
theorem rm17_2 (l : Launch) (Z : State) (a0 : Array Value) (hw : ∀ d ∈ tables_1, d.before a0 Z = true) (ws : List Jvm.Cond) (ab : Addr) (ka : ClassId) (tb : Addr) (kb : ClassId) (u0 u1 : UInt16) (h0 : Heap) (n0 : Nat) (Z0 : n0 ≤ h0.size) (V_ab : Arv Z h0 ab ka .char (2 : Int32) [(.int (own_w u0)), (.int (own_w u1))] (.int (0 : Int32))) (V_tb : Arv Z h0 tb kb .byte (2 : Int32) [] (.int (0 : Int32))) (ne_ab_tb : ab ≠ tb) (g_tb : n0 ≤ tb) :
    MetFree l (⟨"java/lang/StringUTF16", "compress", "([CI[BII)I"⟩ : MethodName) (head1 (Jvm.Cond.code (⟨"java/lang/StringUTF16", "compress", "([CI[BII)I"⟩ : MethodName) jdk_52_method_21_code 7 (some .int) :: ws) ({ frames := 0, cells := 0, slots := 0, locals := 0 } : Room)) (fun a U => a = #[(.ref ab), (.int (0 : Int32)), (.ref tb), (.int (0 : Int32)), (.int (2 : Int32))] ∧ Z.Warmed39 U.vm ∧ U.heap = h0) (fun _ _ _ _ _ => True) (fun _ U o U' => ∃ v L, o = .returned v ∧ Q_rm17 Z ([u0, u1] : List UInt16) (2 : Int32) tb kb h0 n0 v U'.heap L ∧ FrameEnd U o U' L ({ frames := 0, cells := 0, slots := 0, locals := 0 } : Room).cells ({ frames := 0, cells := 0, slots := 0, locals := 0 } : Room).slots) := by
  refine MetFree.of_bodySF (plainFor_of_name pn_17) hisR ?_
  intro p e s m args below meth c s₁ Bd hml0 hP hK
  obtain ⟨rfl, hZ, hh⟩ := hP
  have hx := Bd.exec
  have hby := Bd.bytes
  have hml : c.maxLocals = 7 := hml0
  have hown : s.vm.findClass "java/lang/StringUTF16" = some m.cls := findClass_of_methodNamed Bd.named
  have hnm := (name_of_methodNamed Bd.named Bd.method).1
  have X0 : Stand p l e ({ frames := 0, cells := 0, slots := 0, locals := 0 } : Room) s m #[(.ref ab), (.int (0 : Int32)), (.ref tb), (.int (0 : Int32)), (.int (2 : Int32))] below meth c s₁ [] 0 0 := Stand.of_body Bd
  have e0 : s₁.heap = h0 := by rw [← hh, Bd.state]; rfl
  have N0 := Fr.nil n0
  have K : Keep h0 h0 [tb] := Keep.refl h0 [tb]
  show own_Gd p.tables e below (own_P (Q_rm17 Z ([u0, u1] : List UInt16) (2 : Int32) tb kb h0 n0) s ({ frames := 0, cells := 0, slots := 0, locals := 0 } : Room).cells ({ frames := 0, cells := 0, slots := 0, locals := 0 } : Room).slots) _
  refine own_go (B := s₁.setTop (mkF m 0 #[.val (.ref ab), .val (.int (0 : Int32)), .val (.ref tb), .val (.int (0 : Int32)), .val (.int (2 : Int32)), .unset, .unset] [])) (fun t k => castTop (ef_rm17_2 m ab (0 : Int32) tb (0 : Int32) (2 : Int32)) k) ?_
  have V_tb : Arv Z h0 tb kb .byte (2 : Int32) [(.int (0 : Int32)), (.int (0 : Int32))] (.int (0 : Int32)) := V_tb.pad (pad_rep [] (.int (0 : Int32)) 2)
  refine own_go (B := s₁.setTop (mkF m 12 #[.val (.ref ab), .val (.int (0 : Int32)), .val (.ref tb), .val (.int (0 : Int32)), .val (.int (2 : Int32)), .val (.int (0 : Int32)), .unset] [(.int (0 : Int32)), (.ref ab)])) (fun t k => ?_) ?_
  · show Steps p.tables e below (s₁.setTop (mkF m 0 #[.val (.ref ab), .val (.int (0 : Int32)), .val (.ref tb), .val (.int (0 : Int32)), .val (.int (2 : Int32)), .unset, .unset] [])) _
    refine XS.iconst X0.here hx rfl (hb hby d17_0) ?_
    refine XS.istore X0.here hx rfl (hb hby d17_1) rfl (l' := #[.val (.ref ab), .val (.int (0 : Int32)), .val (.ref tb), .val (.int (0 : Int32)), .val (.int (2 : Int32)), .val (.int (0 : Int32)), .unset]) rfl ?_
    refine XS.iload X0.here hx rfl (hb hby d17_3) rfl ?_
    refine XS.iload X0.here hx rfl (hb hby d17_5) rfl ?_
    refine XS.icmpNo X0.here hx rfl (hb hby d17_7) rfl (tlt (by decide : (0 : Int32) < (2 : Int32))).2.1 ?_
    show Steps p.tables e below (s₁.setTop (mkF m 10 #[.val (.ref ab), .val (.int (0 : Int32)), .val (.ref tb), .val (.int (0 : Int32)), .val (.int (2 : Int32)), .val (.int (0 : Int32)), .unset] [])) _
    refine XS.aloadN X0.here hx rfl (hb hby d17_10) rfl rfl ?_
    refine XS.iloadN X0.here hx rfl (hb hby d17_11) rfl ?_
    exact k
  obtain ⟨cl1, Ar1, qa1, Sa1, Na1, Ha1, Ga1⟩ := id V_ab
  have hin1 : ¬ ((0 : Int32) < 0 ∨ cl1.slots.size ≤ ((0 : Int32)).toNatClampNeg) := inb_of Sa1 ⟨by decide, by decide⟩
  have hat1 : cl1.slots[((0 : Int32)).toNatClampNeg]? = some (.int (own_w u0)) := Ha1.at hin1 rfl
  refine own_go (B := s₁.setTop (mkF m 20 #[.val (.ref ab), .val (.int (0 : Int32)), .val (.ref tb), .val (.int (0 : Int32)), .val (.int (2 : Int32)), .val (.int (0 : Int32)), .val (.int (own_w u0))] [(.int (255 : Int32)), (.int (own_w u0))])) (fun t k => ?_) ?_
  · show Steps p.tables e below (s₁.setTop (mkF m 12 #[.val (.ref ab), .val (.int (0 : Int32)), .val (.ref tb), .val (.int (0 : Int32)), .val (.int (2 : Int32)), .val (.int (0 : Int32)), .unset] [(.int (0 : Int32)), (.ref ab)])) _
    refine X0.caload hx (j := (0 : Int32)) (v := (.int (own_w u0))) (by rw [e0]; exact Ar1.1) (State.isArrayOf_alike hZ.alike Ar1.2.1) Ar1.2.2 hin1 hat1 (g := (mkF m 12 #[.val (.ref ab), .val (.int (0 : Int32)), .val (.ref tb), .val (.int (0 : Int32)), .val (.int (2 : Int32)), .val (.int (0 : Int32)), .unset] [(.int (0 : Int32)), (.ref ab)])) rfl rfl (hb hby d17_12) _ ?_
    refine XS.istore X0.here hx rfl (hb hby d17_13) rfl (l' := #[.val (.ref ab), .val (.int (0 : Int32)), .val (.ref tb), .val (.int (0 : Int32)), .val (.int (2 : Int32)), .val (.int (0 : Int32)), .val (.int (own_w u0))]) rfl ?_
    refine XS.iload X0.here hx rfl (hb hby d17_15) rfl ?_
    refine XS.sipush X0.here hx rfl (hb hby d17_17) ?_
    exact k
  by_cases hc20_2 : (255 : Int32) < (own_w u0)
  · refine own_go (B := s₁.setTop (mkF m 25 #[.val (.ref ab), .val (.int (0 : Int32)), .val (.ref tb), .val (.int (0 : Int32)), .val (.int (2 : Int32)), .val (.int (0 : Int32)), .val (.int (own_w u0))] [(.int (0 : Int32))])) (fun t k => ?_) ?_
    · show Steps p.tables e below (s₁.setTop (mkF m 20 #[.val (.ref ab), .val (.int (0 : Int32)), .val (.ref tb), .val (.int (0 : Int32)), .val (.int (2 : Int32)), .val (.int (0 : Int32)), .val (.int (own_w u0))] [(.int (255 : Int32)), (.int (own_w u0))])) _
      refine XS.icmpNo X0.here hx rfl (hb hby d17_20) rfl (tlt hc20_2).2.2.2 ?_
      refine XS.iload X0.here hx rfl (hb hby d17_23) rfl ?_
      exact k
    obtain ⟨fs, hr, hrun, hended, hW, hsame⟩ := X0.leave (v := some (.int (0 : Int32))) (fun h => by rw [Bd.returns] at h; cases h)
    refine own_done (retOut X0 hx Bd.returns rfl (Or.inl ⟨rfl, Or.inl rfl, _, rfl⟩) (hb hby d17_25) hr) hrun hended ⟨_, _, rfl, ?_, ⟨_, rfl⟩, hW, hsame.mono (by decide) (by decide)⟩
    show Q_rm17 Z ([u0, u1] : List UInt16) (2 : Int32) tb kb h0 n0 (some (.int (0 : Int32))) s₁.heap _
    rw [e0]
    exact ⟨_, rfl, N0, K, Or.inr ⟨by decide, u0, by simp, hc20_2, (own_G_mk 0 ⟨by decide, by decide⟩ ⟨by decide, by decide⟩ (by decide) (by decide) rfl rfl)⟩⟩
  · refine own_go (B := s₁.setTop (mkF m 31 #[.val (.ref ab), .val (.int (0 : Int32)), .val (.ref tb), .val (.int (0 : Int32)), .val (.int (2 : Int32)), .val (.int (0 : Int32)), .val (.int (own_w u0))] [(.int ((own_w u0).toInt8.toInt32)), (.int (0 : Int32)), (.ref tb)])) (fun t k => ?_) ?_
    · show Steps p.tables e below (s₁.setTop (mkF m 20 #[.val (.ref ab), .val (.int (0 : Int32)), .val (.ref tb), .val (.int (0 : Int32)), .val (.int (2 : Int32)), .val (.int (0 : Int32)), .val (.int (own_w u0))] [(.int (255 : Int32)), (.int (own_w u0))])) _
      refine XS.icmpYes X0.here hx rfl (pc0 := 20) (pc' := 26) rfl (hb hby d17_20) rfl (flt hc20_2).2.2.2 (by decide) (by decide) ?_
      refine XS.aloadN X0.here hx rfl (hb hby d17_26) rfl rfl ?_
      refine XS.iloadN X0.here hx rfl (hb hby d17_27) rfl ?_
      refine XS.iload X0.here hx rfl (hb hby d17_28) rfl ?_
      refine XS.i2b X0.here hx rfl (hb hby d17_30) rfl ?_
      show Steps p.tables e below (s₁.setTop (mkF m 31 #[.val (.ref ab), .val (.int (0 : Int32)), .val (.ref tb), .val (.int (0 : Int32)), .val (.int (2 : Int32)), .val (.int (0 : Int32)), .val (.int (own_w u0))] [(.int ((own_w u0).toInt8.toInt32)), (.int (0 : Int32)), (.ref tb)])) _
      exact k
    obtain ⟨cl3, Ar3, qa3, Sa3, Na3, Ha3, Ga3⟩ := id V_tb
    have hin3 : ¬ ((0 : Int32) < 0 ∨ cl3.slots.size ≤ ((0 : Int32)).toNatClampNeg) := inb_of Sa3 ⟨by decide, by decide⟩
    obtain ⟨T4, h4, X4, e4, W4, st4⟩ := stB X0 hx hZ e0 Ar3 (j := (0 : Int32)) hin3 (g := (mkF m 31 #[.val (.ref ab), .val (.int (0 : Int32)), .val (.ref tb), .val (.int (0 : Int32)), .val (.int (2 : Int32)), .val (.int (0 : Int32)), .val (.int (own_w u0))] [(.int ((own_w u0).toInt8.toInt32)), (.int (0 : Int32)), (.ref tb)])) rfl rfl (hb hby d17_31)
    have V_ab := V_ab.other W4 ne_ab_tb
    have Z0 := Nat.le_trans Z0 (Nat.le_of_eq W4.size.symm)
    have V_tb : Arv Z h4 tb kb .byte (2 : Int32) [(.int (nar .byte ((own_w u0).toInt8.toInt32))), (.int (0 : Int32))] (.int (0 : Int32)) := Arv.set Ar3 qa3 Sa3 Na3 Ha3 Ga3 (fits_nar_byte _) W4 0 rfl (Nat.le_of_ble_eq_true rfl)
    have K := K.wr W4 (Or.inl (List.mem_of_getElem? (i := 0) rfl))
    have N4 := Fr.snoc X4 N0 g_tb
    refine own_go (B := T4.setTop (mkF m 32 #[.val (.ref ab), .val (.int (0 : Int32)), .val (.ref tb), .val (.int (0 : Int32)), .val (.int (2 : Int32)), .val (.int (0 : Int32)), .val (.int (own_w u0))] [])) st4 ?_
    refine own_go (B := T4.setTop (mkF m 12 #[.val (.ref ab), .val (.int (1 : Int32)), .val (.ref tb), .val (.int (1 : Int32)), .val (.int (2 : Int32)), .val (.int (1 : Int32)), .val (.int (own_w u0))] [(.int (1 : Int32)), (.ref ab)])) (fun t k => ?_) ?_
    · show Steps p.tables e below (T4.setTop (mkF m 32 #[.val (.ref ab), .val (.int (0 : Int32)), .val (.ref tb), .val (.int (0 : Int32)), .val (.int (2 : Int32)), .val (.int (0 : Int32)), .val (.int (own_w u0))] [])) _
      refine XS.iinc X4.here hx rfl (hb hby d17_32) rfl (l' := #[.val (.ref ab), .val (.int (1 : Int32)), .val (.ref tb), .val (.int (0 : Int32)), .val (.int (2 : Int32)), .val (.int (0 : Int32)), .val (.int (own_w u0))]) rfl ?_
      refine XS.iinc X4.here hx rfl (hb hby d17_35) rfl (l' := #[.val (.ref ab), .val (.int (1 : Int32)), .val (.ref tb), .val (.int (1 : Int32)), .val (.int (2 : Int32)), .val (.int (0 : Int32)), .val (.int (own_w u0))]) rfl ?_
      refine XS.iinc X4.here hx rfl (hb hby d17_38) rfl (l' := #[.val (.ref ab), .val (.int (1 : Int32)), .val (.ref tb), .val (.int (1 : Int32)), .val (.int (2 : Int32)), .val (.int (1 : Int32)), .val (.int (own_w u0))]) rfl ?_
      refine XS.goto X4.here hx rfl (pc0 := 41) (pc' := 3) rfl (hb hby d17_41) (by decide) (by decide) ?_
      refine XS.iload X4.here hx rfl (hb hby d17_3) rfl ?_
      show Steps p.tables e below (T4.setTop (mkF m 5 #[.val (.ref ab), .val (.int (1 : Int32)), .val (.ref tb), .val (.int (1 : Int32)), .val (.int (2 : Int32)), .val (.int (1 : Int32)), .val (.int (own_w u0))] [(.int (1 : Int32))])) _
      refine XS.iload X4.here hx rfl (hb hby d17_5) rfl ?_
      refine XS.icmpNo X4.here hx rfl (hb hby d17_7) rfl (tlt (by decide : (1 : Int32) < (2 : Int32))).2.1 ?_
      refine XS.aloadN X4.here hx rfl (hb hby d17_10) rfl rfl ?_
      refine XS.iloadN X4.here hx rfl (hb hby d17_11) rfl ?_
      exact k
    obtain ⟨cl5, Ar5, qa5, Sa5, Na5, Ha5, Ga5⟩ := id V_ab
    have hin5 : ¬ ((1 : Int32) < 0 ∨ cl5.slots.size ≤ ((1 : Int32)).toNatClampNeg) := inb_of Sa5 ⟨by decide, by decide⟩
    have hat5 : cl5.slots[((1 : Int32)).toNatClampNeg]? = some (.int (own_w u1)) := Ha5.at hin5 rfl
    refine own_go (B := T4.setTop (mkF m 20 #[.val (.ref ab), .val (.int (1 : Int32)), .val (.ref tb), .val (.int (1 : Int32)), .val (.int (2 : Int32)), .val (.int (1 : Int32)), .val (.int (own_w u1))] [(.int (255 : Int32)), (.int (own_w u1))])) (fun t k => ?_) ?_
    · show Steps p.tables e below (T4.setTop (mkF m 12 #[.val (.ref ab), .val (.int (1 : Int32)), .val (.ref tb), .val (.int (1 : Int32)), .val (.int (2 : Int32)), .val (.int (1 : Int32)), .val (.int (own_w u0))] [(.int (1 : Int32)), (.ref ab)])) _
      refine X4.caload hx (j := (1 : Int32)) (v := (.int (own_w u1))) (by rw [e4]; exact Ar5.1) (State.isArrayOf_alike hZ.alike Ar5.2.1) Ar5.2.2 hin5 hat5 (g := (mkF m 12 #[.val (.ref ab), .val (.int (1 : Int32)), .val (.ref tb), .val (.int (1 : Int32)), .val (.int (2 : Int32)), .val (.int (1 : Int32)), .val (.int (own_w u0))] [(.int (1 : Int32)), (.ref ab)])) rfl rfl (hb hby d17_12) _ ?_
      refine XS.istore X4.here hx rfl (hb hby d17_13) rfl (l' := #[.val (.ref ab), .val (.int (1 : Int32)), .val (.ref tb), .val (.int (1 : Int32)), .val (.int (2 : Int32)), .val (.int (1 : Int32)), .val (.int (own_w u1))]) rfl ?_
      refine XS.iload X4.here hx rfl (hb hby d17_15) rfl ?_
      refine XS.sipush X4.here hx rfl (hb hby d17_17) ?_
      exact k
    by_cases hc20_6 : (255 : Int32) < (own_w u1)
    · refine own_go (B := T4.setTop (mkF m 25 #[.val (.ref ab), .val (.int (1 : Int32)), .val (.ref tb), .val (.int (1 : Int32)), .val (.int (2 : Int32)), .val (.int (1 : Int32)), .val (.int (own_w u1))] [(.int (1 : Int32))])) (fun t k => ?_) ?_
      · show Steps p.tables e below (T4.setTop (mkF m 20 #[.val (.ref ab), .val (.int (1 : Int32)), .val (.ref tb), .val (.int (1 : Int32)), .val (.int (2 : Int32)), .val (.int (1 : Int32)), .val (.int (own_w u1))] [(.int (255 : Int32)), (.int (own_w u1))])) _
        refine XS.icmpNo X4.here hx rfl (hb hby d17_20) rfl (tlt hc20_6).2.2.2 ?_
        refine XS.iload X4.here hx rfl (hb hby d17_23) rfl ?_
        exact k
      obtain ⟨fs, hr, hrun, hended, hW, hsame⟩ := X4.leave (v := some (.int (1 : Int32))) (fun h => by rw [Bd.returns] at h; cases h)
      refine own_done (retOut X4 hx Bd.returns rfl (Or.inl ⟨rfl, Or.inl rfl, _, rfl⟩) (hb hby d17_25) hr) hrun hended ⟨_, _, rfl, ?_, ⟨_, rfl⟩, hW, hsame.mono (by decide) (by decide)⟩
      show Q_rm17 Z ([u0, u1] : List UInt16) (2 : Int32) tb kb h0 n0 (some (.int (1 : Int32))) T4.heap _
      rw [e4]
      exact ⟨_, rfl, N4, K, Or.inr ⟨by decide, u1, by simp, hc20_6, (own_G_mk 2 ⟨by decide, by decide⟩ ⟨by decide, by decide⟩ (by decide) (by decide) rfl rfl)⟩⟩
    · refine own_go (B := T4.setTop (mkF m 31 #[.val (.ref ab), .val (.int (1 : Int32)), .val (.ref tb), .val (.int (1 : Int32)), .val (.int (2 : Int32)), .val (.int (1 : Int32)), .val (.int (own_w u1))] [(.int ((own_w u1).toInt8.toInt32)), (.int (1 : Int32)), (.ref tb)])) (fun t k => ?_) ?_
      · show Steps p.tables e below (T4.setTop (mkF m 20 #[.val (.ref ab), .val (.int (1 : Int32)), .val (.ref tb), .val (.int (1 : Int32)), .val (.int (2 : Int32)), .val (.int (1 : Int32)), .val (.int (own_w u1))] [(.int (255 : Int32)), (.int (own_w u1))])) _
        refine XS.icmpYes X4.here hx rfl (pc0 := 20) (pc' := 26) rfl (hb hby d17_20) rfl (flt hc20_6).2.2.2 (by decide) (by decide) ?_
        refine XS.aloadN X4.here hx rfl (hb hby d17_26) rfl rfl ?_
        refine XS.iloadN X4.here hx rfl (hb hby d17_27) rfl ?_
        refine XS.iload X4.here hx rfl (hb hby d17_28) rfl ?_
        refine XS.i2b X4.here hx rfl (hb hby d17_30) rfl ?_
        show Steps p.tables e below (T4.setTop (mkF m 31 #[.val (.ref ab), .val (.int (1 : Int32)), .val (.ref tb), .val (.int (1 : Int32)), .val (.int (2 : Int32)), .val (.int (1 : Int32)), .val (.int (own_w u1))] [(.int ((own_w u1).toInt8.toInt32)), (.int (1 : Int32)), (.ref tb)])) _
        exact k
      obtain ⟨cl7, Ar7, qa7, Sa7, Na7, Ha7, Ga7⟩ := id V_tb
      have hin7 : ¬ ((1 : Int32) < 0 ∨ cl7.slots.size ≤ ((1 : Int32)).toNatClampNeg) := inb_of Sa7 ⟨by decide, by decide⟩
      obtain ⟨T8, h8, X8, e8, W8, st8⟩ := stB X4 hx hZ e4 Ar7 (j := (1 : Int32)) hin7 (g := (mkF m 31 #[.val (.ref ab), .val (.int (1 : Int32)), .val (.ref tb), .val (.int (1 : Int32)), .val (.int (2 : Int32)), .val (.int (1 : Int32)), .val (.int (own_w u1))] [(.int ((own_w u1).toInt8.toInt32)), (.int (1 : Int32)), (.ref tb)])) rfl rfl (hb hby d17_31)
      have V_ab := V_ab.other W8 ne_ab_tb
      have Z0 := Nat.le_trans Z0 (Nat.le_of_eq W8.size.symm)
      have V_tb : Arv Z h8 tb kb .byte (2 : Int32) [(.int (nar .byte ((own_w u0).toInt8.toInt32))), (.int (nar .byte ((own_w u1).toInt8.toInt32)))] (.int (0 : Int32)) := Arv.set Ar7 qa7 Sa7 Na7 Ha7 Ga7 (fits_nar_byte _) W8 1 rfl (Nat.le_of_ble_eq_true rfl)
      have K := K.wr W8 (Or.inl (List.mem_of_getElem? (i := 0) rfl))
      have N8 := Fr.snoc X8 N4 g_tb
      refine own_go (B := T8.setTop (mkF m 32 #[.val (.ref ab), .val (.int (1 : Int32)), .val (.ref tb), .val (.int (1 : Int32)), .val (.int (2 : Int32)), .val (.int (1 : Int32)), .val (.int (own_w u1))] [])) st8 ?_
      refine own_go (B := T8.setTop (mkF m 46 #[.val (.ref ab), .val (.int (2 : Int32)), .val (.ref tb), .val (.int (2 : Int32)), .val (.int (2 : Int32)), .val (.int (2 : Int32)), .val (.int (own_w u1))] [(.int (2 : Int32))])) (fun t k => ?_) ?_
      · show Steps p.tables e below (T8.setTop (mkF m 32 #[.val (.ref ab), .val (.int (1 : Int32)), .val (.ref tb), .val (.int (1 : Int32)), .val (.int (2 : Int32)), .val (.int (1 : Int32)), .val (.int (own_w u1))] [])) _
        refine XS.iinc X8.here hx rfl (hb hby d17_32) rfl (l' := #[.val (.ref ab), .val (.int (2 : Int32)), .val (.ref tb), .val (.int (1 : Int32)), .val (.int (2 : Int32)), .val (.int (1 : Int32)), .val (.int (own_w u1))]) rfl ?_
        refine XS.iinc X8.here hx rfl (hb hby d17_35) rfl (l' := #[.val (.ref ab), .val (.int (2 : Int32)), .val (.ref tb), .val (.int (2 : Int32)), .val (.int (2 : Int32)), .val (.int (1 : Int32)), .val (.int (own_w u1))]) rfl ?_
        refine XS.iinc X8.here hx rfl (hb hby d17_38) rfl (l' := #[.val (.ref ab), .val (.int (2 : Int32)), .val (.ref tb), .val (.int (2 : Int32)), .val (.int (2 : Int32)), .val (.int (2 : Int32)), .val (.int (own_w u1))]) rfl ?_
        refine XS.goto X8.here hx rfl (pc0 := 41) (pc' := 3) rfl (hb hby d17_41) (by decide) (by decide) ?_
        refine XS.iload X8.here hx rfl (hb hby d17_3) rfl ?_
        show Steps p.tables e below (T8.setTop (mkF m 5 #[.val (.ref ab), .val (.int (2 : Int32)), .val (.ref tb), .val (.int (2 : Int32)), .val (.int (2 : Int32)), .val (.int (2 : Int32)), .val (.int (own_w u1))] [(.int (2 : Int32))])) _
        refine XS.iload X8.here hx rfl (hb hby d17_5) rfl ?_
        refine XS.icmpYes X8.here hx rfl (pc0 := 7) (pc' := 44) rfl (hb hby d17_7) rfl (flt (by decide : ¬ ((2 : Int32) < (2 : Int32)))).2.1 (by decide) (by decide) ?_
        refine XS.iload X8.here hx rfl (hb hby d17_44) rfl ?_
        exact k
      obtain ⟨fs, hr, hrun, hended, hW, hsame⟩ := X8.leave (v := some (.int (2 : Int32))) (fun h => by rw [Bd.returns] at h; cases h)
      refine own_done (retOut X8 hx Bd.returns rfl (Or.inl ⟨rfl, Or.inl rfl, _, rfl⟩) (hb hby d17_46) hr) hrun hended ⟨_, _, rfl, ?_, ⟨_, rfl⟩, hW, hsame.mono (by decide) (by decide)⟩
      show Q_rm17 Z ([u0, u1] : List UInt16) (2 : Int32) tb kb h0 n0 (some (.int (2 : Int32))) T8.heap _
      rw [e8]
      exact ⟨_, rfl, N8, K, Or.inl ⟨rfl, (own_allc hc20_2 (own_allc hc20_6 own_alln)), V_tb⟩⟩
theorem ef_rm17_3 (m : MethodId) (x0 : Addr) (x1 : Int32) (x2 : Addr) (x3 : Int32) (x4 : Int32) : entryFrame m #[(.ref x0), (.int x1), (.ref x2), (.int x3), (.int x4)] 7 = mkF m 0 #[.val (.ref x0), .val (.int x1), .val (.ref x2), .val (.int x3), .val (.int x4), .unset, .unset] [] := by first | (simp [entryFrame, mkF, argsToLocals, Value.category, maxLocals]; done) | rfl
set_option maxRecDepth 65536 in
set_option maxHeartbeats 40000000 in
theorem rm17_3 (l : Launch) (Z : State) (a0 : Array Value) (hw : ∀ d ∈ tables_1, d.before a0 Z = true) (ws : List Jvm.Cond) (ab : Addr) (ka : ClassId) (tb : Addr) (kb : ClassId) (u0 u1 u2 : UInt16) (h0 : Heap) (n0 : Nat) (Z0 : n0 ≤ h0.size) (V_ab : Arv Z h0 ab ka .char (3 : Int32) [(.int (own_w u0)), (.int (own_w u1)), (.int (own_w u2))] (.int (0 : Int32))) (V_tb : Arv Z h0 tb kb .byte (3 : Int32) [] (.int (0 : Int32))) (ne_ab_tb : ab ≠ tb) (g_tb : n0 ≤ tb) :
    MetFree l (⟨"java/lang/StringUTF16", "compress", "([CI[BII)I"⟩ : MethodName) (head1 (Jvm.Cond.code (⟨"java/lang/StringUTF16", "compress", "([CI[BII)I"⟩ : MethodName) jdk_52_method_21_code 7 (some .int) :: ws) ({ frames := 0, cells := 0, slots := 0, locals := 0 } : Room)) (fun a U => a = #[(.ref ab), (.int (0 : Int32)), (.ref tb), (.int (0 : Int32)), (.int (3 : Int32))] ∧ Z.Warmed39 U.vm ∧ U.heap = h0) (fun _ _ _ _ _ => True) (fun _ U o U' => ∃ v L, o = .returned v ∧ Q_rm17 Z ([u0, u1, u2] : List UInt16) (3 : Int32) tb kb h0 n0 v U'.heap L ∧ FrameEnd U o U' L ({ frames := 0, cells := 0, slots := 0, locals := 0 } : Room).cells ({ frames := 0, cells := 0, slots := 0, locals := 0 } : Room).slots) := by
  refine MetFree.of_bodySF (plainFor_of_name pn_17) hisR ?_
  intro p e s m args below meth c s₁ Bd hml0 hP hK
  obtain ⟨rfl, hZ, hh⟩ := hP
  have hx := Bd.exec
  have hby := Bd.bytes
  have hml : c.maxLocals = 7 := hml0
  have hown : s.vm.findClass "java/lang/StringUTF16" = some m.cls := findClass_of_methodNamed Bd.named
  have hnm := (name_of_methodNamed Bd.named Bd.method).1
  have X0 : Stand p l e ({ frames := 0, cells := 0, slots := 0, locals := 0 } : Room) s m #[(.ref ab), (.int (0 : Int32)), (.ref tb), (.int (0 : Int32)), (.int (3 : Int32))] below meth c s₁ [] 0 0 := Stand.of_body Bd
  have e0 : s₁.heap = h0 := by rw [← hh, Bd.state]; rfl
  have N0 := Fr.nil n0
  have K : Keep h0 h0 [tb] := Keep.refl h0 [tb]
  show own_Gd p.tables e below (own_P (Q_rm17 Z ([u0, u1, u2] : List UInt16) (3 : Int32) tb kb h0 n0) s ({ frames := 0, cells := 0, slots := 0, locals := 0 } : Room).cells ({ frames := 0, cells := 0, slots := 0, locals := 0 } : Room).slots) _
  refine own_go (B := s₁.setTop (mkF m 0 #[.val (.ref ab), .val (.int (0 : Int32)), .val (.ref tb), .val (.int (0 : Int32)), .val (.int (3 : Int32)), .unset, .unset] [])) (fun t k => castTop (ef_rm17_3 m ab (0 : Int32) tb (0 : Int32) (3 : Int32)) k) ?_
  have V_tb : Arv Z h0 tb kb .byte (3 : Int32) [(.int (0 : Int32)), (.int (0 : Int32)), (.int (0 : Int32))] (.int (0 : Int32)) := V_tb.pad (pad_rep [] (.int (0 : Int32)) 3)
  refine own_go (B := s₁.setTop (mkF m 12 #[.val (.ref ab), .val (.int (0 : Int32)), .val (.ref tb), .val (.int (0 : Int32)), .val (.int (3 : Int32)), .val (.int (0 : Int32)), .unset] [(.int (0 : Int32)), (.ref ab)])) (fun t k => ?_) ?_
  · show Steps p.tables e below (s₁.setTop (mkF m 0 #[.val (.ref ab), .val (.int (0 : Int32)), .val (.ref tb), .val (.int (0 : Int32)), .val (.int (3 : Int32)), .unset, .unset] [])) _
    refine XS.iconst X0.here hx rfl (hb hby d17_0) ?_
    refine XS.istore X0.here hx rfl (hb hby d17_1) rfl (l' := #[.val (.ref ab), .val (.int (0 : Int32)), .val (.ref tb), .val (.int (0 : Int32)), .val (.int (3 : Int32)), .val (.int (0 : Int32)), .unset]) rfl ?_
    refine XS.iload X0.here hx rfl (hb hby d17_3) rfl ?_
    refine XS.iload X0.here hx rfl (hb hby d17_5) rfl ?_
    refine XS.icmpNo X0.here hx rfl (hb hby d17_7) rfl (tlt (by decide : (0 : Int32) < (3 : Int32))).2.1 ?_
    show Steps p.tables e below (s₁.setTop (mkF m 10 #[.val (.ref ab), .val (.int (0 : Int32)), .val (.ref tb), .val (.int (0 : Int32)), .val (.int (3 : Int32)), .val (.int (0 : Int32)), .unset] [])) _
    refine XS.aloadN X0.here hx rfl (hb hby d17_10) rfl rfl ?_
    refine XS.iloadN X0.here hx rfl (hb hby d17_11) rfl ?_
    exact k
  obtain ⟨cl1, Ar1, qa1, Sa1, Na1, Ha1, Ga1⟩ := id V_ab
  have hin1 : ¬ ((0 : Int32) < 0 ∨ cl1.slots.size ≤ ((0 : Int32)).toNatClampNeg) := inb_of Sa1 ⟨by decide, by decide⟩
  have hat1 : cl1.slots[((0 : Int32)).toNatClampNeg]? = some (.int (own_w u0)) := Ha1.at hin1 rfl
  refine own_go (B := s₁.setTop (mkF m 20 #[.val (.ref ab), .val (.int (0 : Int32)), .val (.ref tb), .val (.int (0 : Int32)), .val (.int (3 : Int32)), .val (.int (0 : Int32)), .val (.int (own_w u0))] [(.int (255 : Int32)), (.int (own_w u0))])) (fun t k => ?_) ?_
  · show Steps p.tables e below (s₁.setTop (mkF m 12 #[.val (.ref ab), .val (.int (0 : Int32)), .val (.ref tb), .val (.int (0 : Int32)), .val (.int (3 : Int32)), .val (.int (0 : Int32)), .unset] [(.int (0 : Int32)), (.ref ab)])) _
    refine X0.caload hx (j := (0 : Int32)) (v := (.int (own_w u0))) (by rw [e0]; exact Ar1.1) (State.isArrayOf_alike hZ.alike Ar1.2.1) Ar1.2.2 hin1 hat1 (g := (mkF m 12 #[.val (.ref ab), .val (.int (0 : Int32)), .val (.ref tb), .val (.int (0 : Int32)), .val (.int (3 : Int32)), .val (.int (0 : Int32)), .unset] [(.int (0 : Int32)), (.ref ab)])) rfl rfl (hb hby d17_12) _ ?_
    refine XS.istore X0.here hx rfl (hb hby d17_13) rfl (l' := #[.val (.ref ab), .val (.int (0 : Int32)), .val (.ref tb), .val (.int (0 : Int32)), .val (.int (3 : Int32)), .val (.int (0 : Int32)), .val (.int (own_w u0))]) rfl ?_
    refine XS.iload X0.here hx rfl (hb hby d17_15) rfl ?_
    refine XS.sipush X0.here hx rfl (hb hby d17_17) ?_
    exact k
  by_cases hc20_2 : (255 : Int32) < (own_w u0)
  · refine own_go (B := s₁.setTop (mkF m 25 #[.val (.ref ab), .val (.int (0 : Int32)), .val (.ref tb), .val (.int (0 : Int32)), .val (.int (3 : Int32)), .val (.int (0 : Int32)), .val (.int (own_w u0))] [(.int (0 : Int32))])) (fun t k => ?_) ?_
    · show Steps p.tables e below (s₁.setTop (mkF m 20 #[.val (.ref ab), .val (.int (0 : Int32)), .val (.ref tb), .val (.int (0 : Int32)), .val (.int (3 : Int32)), .val (.int (0 : Int32)), .val (.int (own_w u0))] [(.int (255 : Int32)), (.int (own_w u0))])) _
      refine XS.icmpNo X0.here hx rfl (hb hby d17_20) rfl (tlt hc20_2).2.2.2 ?_
      refine XS.iload X0.here hx rfl (hb hby d17_23) rfl ?_
      exact k
    obtain ⟨fs, hr, hrun, hended, hW, hsame⟩ := X0.leave (v := some (.int (0 : Int32))) (fun h => by rw [Bd.returns] at h; cases h)
    refine own_done (retOut X0 hx Bd.returns rfl (Or.inl ⟨rfl, Or.inl rfl, _, rfl⟩) (hb hby d17_25) hr) hrun hended ⟨_, _, rfl, ?_, ⟨_, rfl⟩, hW, hsame.mono (by decide) (by decide)⟩
    show Q_rm17 Z ([u0, u1, u2] : List UInt16) (3 : Int32) tb kb h0 n0 (some (.int (0 : Int32))) s₁.heap _
    rw [e0]
    exact ⟨_, rfl, N0, K, Or.inr ⟨by decide, u0, by simp, hc20_2, (own_G_mk 0 ⟨by decide, by decide⟩ ⟨by decide, by decide⟩ (by decide) (by decide) rfl rfl)⟩⟩
  · refine own_go (B := s₁.setTop (mkF m 31 #[.val (.ref ab), .val (.int (0 : Int32)), .val (.ref tb), .val (.int (0 : Int32)), .val (.int (3 : Int32)), .val (.int (0 : Int32)), .val (.int (own_w u0))] [(.int ((own_w u0).toInt8.toInt32)), (.int (0 : Int32)), (.ref tb)])) (fun t k => ?_) ?_
    · show Steps p.tables e below (s₁.setTop (mkF m 20 #[.val (.ref ab), .val (.int (0 : Int32)), .val (.ref tb), .val (.int (0 : Int32)), .val (.int (3 : Int32)), .val (.int (0 : Int32)), .val (.int (own_w u0))] [(.int (255 : Int32)), (.int (own_w u0))])) _
      refine XS.icmpYes X0.here hx rfl (pc0 := 20) (pc' := 26) rfl (hb hby d17_20) rfl (flt hc20_2).2.2.2 (by decide) (by decide) ?_
      refine XS.aloadN X0.here hx rfl (hb hby d17_26) rfl rfl ?_
      refine XS.iloadN X0.here hx rfl (hb hby d17_27) rfl ?_
      refine XS.iload X0.here hx rfl (hb hby d17_28) rfl ?_
      refine XS.i2b X0.here hx rfl (hb hby d17_30) rfl ?_
      show Steps p.tables e below (s₁.setTop (mkF m 31 #[.val (.ref ab), .val (.int (0 : Int32)), .val (.ref tb), .val (.int (0 : Int32)), .val (.int (3 : Int32)), .val (.int (0 : Int32)), .val (.int (own_w u0))] [(.int ((own_w u0).toInt8.toInt32)), (.int (0 : Int32)), (.ref tb)])) _
      exact k
    obtain ⟨cl3, Ar3, qa3, Sa3, Na3, Ha3, Ga3⟩ := id V_tb
    have hin3 : ¬ ((0 : Int32) < 0 ∨ cl3.slots.size ≤ ((0 : Int32)).toNatClampNeg) := inb_of Sa3 ⟨by decide, by decide⟩
    obtain ⟨T4, h4, X4, e4, W4, st4⟩ := stB X0 hx hZ e0 Ar3 (j := (0 : Int32)) hin3 (g := (mkF m 31 #[.val (.ref ab), .val (.int (0 : Int32)), .val (.ref tb), .val (.int (0 : Int32)), .val (.int (3 : Int32)), .val (.int (0 : Int32)), .val (.int (own_w u0))] [(.int ((own_w u0).toInt8.toInt32)), (.int (0 : Int32)), (.ref tb)])) rfl rfl (hb hby d17_31)
    have V_ab := V_ab.other W4 ne_ab_tb
    have Z0 := Nat.le_trans Z0 (Nat.le_of_eq W4.size.symm)
    have V_tb : Arv Z h4 tb kb .byte (3 : Int32) [(.int (nar .byte ((own_w u0).toInt8.toInt32))), (.int (0 : Int32)), (.int (0 : Int32))] (.int (0 : Int32)) := Arv.set Ar3 qa3 Sa3 Na3 Ha3 Ga3 (fits_nar_byte _) W4 0 rfl (Nat.le_of_ble_eq_true rfl)
    have K := K.wr W4 (Or.inl (List.mem_of_getElem? (i := 0) rfl))
    have N4 := Fr.snoc X4 N0 g_tb
    refine own_go (B := T4.setTop (mkF m 32 #[.val (.ref ab), .val (.int (0 : Int32)), .val (.ref tb), .val (.int (0 : Int32)), .val (.int (3 : Int32)), .val (.int (0 : Int32)), .val (.int (own_w u0))] [])) st4 ?_
    refine own_go (B := T4.setTop (mkF m 12 #[.val (.ref ab), .val (.int (1 : Int32)), .val (.ref tb), .val (.int (1 : Int32)), .val (.int (3 : Int32)), .val (.int (1 : Int32)), .val (.int (own_w u0))] [(.int (1 : Int32)), (.ref ab)])) (fun t k => ?_) ?_
    · show Steps p.tables e below (T4.setTop (mkF m 32 #[.val (.ref ab), .val (.int (0 : Int32)), .val (.ref tb), .val (.int (0 : Int32)), .val (.int (3 : Int32)), .val (.int (0 : Int32)), .val (.int (own_w u0))] [])) _
      refine XS.iinc X4.here hx rfl (hb hby d17_32) rfl (l' := #[.val (.ref ab), .val (.int (1 : Int32)), .val (.ref tb), .val (.int (0 : Int32)), .val (.int (3 : Int32)), .val (.int (0 : Int32)), .val (.int (own_w u0))]) rfl ?_
      refine XS.iinc X4.here hx rfl (hb hby d17_35) rfl (l' := #[.val (.ref ab), .val (.int (1 : Int32)), .val (.ref tb), .val (.int (1 : Int32)), .val (.int (3 : Int32)), .val (.int (0 : Int32)), .val (.int (own_w u0))]) rfl ?_
      refine XS.iinc X4.here hx rfl (hb hby d17_38) rfl (l' := #[.val (.ref ab), .val (.int (1 : Int32)), .val (.ref tb), .val (.int (1 : Int32)), .val (.int (3 : Int32)), .val (.int (1 : Int32)), .val (.int (own_w u0))]) rfl ?_
      refine XS.goto X4.here hx rfl (pc0 := 41) (pc' := 3) rfl (hb hby d17_41) (by decide) (by decide) ?_
      refine XS.iload X4.here hx rfl (hb hby d17_3) rfl ?_
      show Steps p.tables e below (T4.setTop (mkF m 5 #[.val (.ref ab), .val (.int (1 : Int32)), .val (.ref tb), .val (.int (1 : Int32)), .val (.int (3 : Int32)), .val (.int (1 : Int32)), .val (.int (own_w u0))] [(.int (1 : Int32))])) _
      refine XS.iload X4.here hx rfl (hb hby d17_5) rfl ?_
      refine XS.icmpNo X4.here hx rfl (hb hby d17_7) rfl (tlt (by decide : (1 : Int32) < (3 : Int32))).2.1 ?_
      refine XS.aloadN X4.here hx rfl (hb hby d17_10) rfl rfl ?_
      refine XS.iloadN X4.here hx rfl (hb hby d17_11) rfl ?_
      exact k
    obtain ⟨cl5, Ar5, qa5, Sa5, Na5, Ha5, Ga5⟩ := id V_ab
    have hin5 : ¬ ((1 : Int32) < 0 ∨ cl5.slots.size ≤ ((1 : Int32)).toNatClampNeg) := inb_of Sa5 ⟨by decide, by decide⟩
    have hat5 : cl5.slots[((1 : Int32)).toNatClampNeg]? = some (.int (own_w u1)) := Ha5.at hin5 rfl
    refine own_go (B := T4.setTop (mkF m 20 #[.val (.ref ab), .val (.int (1 : Int32)), .val (.ref tb), .val (.int (1 : Int32)), .val (.int (3 : Int32)), .val (.int (1 : Int32)), .val (.int (own_w u1))] [(.int (255 : Int32)), (.int (own_w u1))])) (fun t k => ?_) ?_
    · show Steps p.tables e below (T4.setTop (mkF m 12 #[.val (.ref ab), .val (.int (1 : Int32)), .val (.ref tb), .val (.int (1 : Int32)), .val (.int (3 : Int32)), .val (.int (1 : Int32)), .val (.int (own_w u0))] [(.int (1 : Int32)), (.ref ab)])) _
      refine X4.caload hx (j := (1 : Int32)) (v := (.int (own_w u1))) (by rw [e4]; exact Ar5.1) (State.isArrayOf_alike hZ.alike Ar5.2.1) Ar5.2.2 hin5 hat5 (g := (mkF m 12 #[.val (.ref ab), .val (.int (1 : Int32)), .val (.ref tb), .val (.int (1 : Int32)), .val (.int (3 : Int32)), .val (.int (1 : Int32)), .val (.int (own_w u0))] [(.int (1 : Int32)), (.ref ab)])) rfl rfl (hb hby d17_12) _ ?_
      refine XS.istore X4.here hx rfl (hb hby d17_13) rfl (l' := #[.val (.ref ab), .val (.int (1 : Int32)), .val (.ref tb), .val (.int (1 : Int32)), .val (.int (3 : Int32)), .val (.int (1 : Int32)), .val (.int (own_w u1))]) rfl ?_
      refine XS.iload X4.here hx rfl (hb hby d17_15) rfl ?_
      refine XS.sipush X4.here hx rfl (hb hby d17_17) ?_
      exact k
    by_cases hc20_6 : (255 : Int32) < (own_w u1)
    · refine own_go (B := T4.setTop (mkF m 25 #[.val (.ref ab), .val (.int (1 : Int32)), .val (.ref tb), .val (.int (1 : Int32)), .val (.int (3 : Int32)), .val (.int (1 : Int32)), .val (.int (own_w u1))] [(.int (1 : Int32))])) (fun t k => ?_) ?_
      · show Steps p.tables e below (T4.setTop (mkF m 20 #[.val (.ref ab), .val (.int (1 : Int32)), .val (.ref tb), .val (.int (1 : Int32)), .val (.int (3 : Int32)), .val (.int (1 : Int32)), .val (.int (own_w u1))] [(.int (255 : Int32)), (.int (own_w u1))])) _
        refine XS.icmpNo X4.here hx rfl (hb hby d17_20) rfl (tlt hc20_6).2.2.2 ?_
        refine XS.iload X4.here hx rfl (hb hby d17_23) rfl ?_
        exact k
      obtain ⟨fs, hr, hrun, hended, hW, hsame⟩ := X4.leave (v := some (.int (1 : Int32))) (fun h => by rw [Bd.returns] at h; cases h)
      refine own_done (retOut X4 hx Bd.returns rfl (Or.inl ⟨rfl, Or.inl rfl, _, rfl⟩) (hb hby d17_25) hr) hrun hended ⟨_, _, rfl, ?_, ⟨_, rfl⟩, hW, hsame.mono (by decide) (by decide)⟩
      show Q_rm17 Z ([u0, u1, u2] : List UInt16) (3 : Int32) tb kb h0 n0 (some (.int (1 : Int32))) T4.heap _
      rw [e4]
      exact ⟨_, rfl, N4, K, Or.inr ⟨by decide, u1, by simp, hc20_6, (own_G_mk 2 ⟨by decide, by decide⟩ ⟨by decide, by decide⟩ (by decide) (by decide) rfl rfl)⟩⟩
    · refine own_go (B := T4.setTop (mkF m 31 #[.val (.ref ab), .val (.int (1 : Int32)), .val (.ref tb), .val (.int (1 : Int32)), .val (.int (3 : Int32)), .val (.int (1 : Int32)), .val (.int (own_w u1))] [(.int ((own_w u1).toInt8.toInt32)), (.int (1 : Int32)), (.ref tb)])) (fun t k => ?_) ?_
      · show Steps p.tables e below (T4.setTop (mkF m 20 #[.val (.ref ab), .val (.int (1 : Int32)), .val (.ref tb), .val (.int (1 : Int32)), .val (.int (3 : Int32)), .val (.int (1 : Int32)), .val (.int (own_w u1))] [(.int (255 : Int32)), (.int (own_w u1))])) _
        refine XS.icmpYes X4.here hx rfl (pc0 := 20) (pc' := 26) rfl (hb hby d17_20) rfl (flt hc20_6).2.2.2 (by decide) (by decide) ?_
        refine XS.aloadN X4.here hx rfl (hb hby d17_26) rfl rfl ?_
        refine XS.iloadN X4.here hx rfl (hb hby d17_27) rfl ?_
        refine XS.iload X4.here hx rfl (hb hby d17_28) rfl ?_
        refine XS.i2b X4.here hx rfl (hb hby d17_30) rfl ?_
        show Steps p.tables e below (T4.setTop (mkF m 31 #[.val (.ref ab), .val (.int (1 : Int32)), .val (.ref tb), .val (.int (1 : Int32)), .val (.int (3 : Int32)), .val (.int (1 : Int32)), .val (.int (own_w u1))] [(.int ((own_w u1).toInt8.toInt32)), (.int (1 : Int32)), (.ref tb)])) _
        exact k
      obtain ⟨cl7, Ar7, qa7, Sa7, Na7, Ha7, Ga7⟩ := id V_tb
      have hin7 : ¬ ((1 : Int32) < 0 ∨ cl7.slots.size ≤ ((1 : Int32)).toNatClampNeg) := inb_of Sa7 ⟨by decide, by decide⟩
      obtain ⟨T8, h8, X8, e8, W8, st8⟩ := stB X4 hx hZ e4 Ar7 (j := (1 : Int32)) hin7 (g := (mkF m 31 #[.val (.ref ab), .val (.int (1 : Int32)), .val (.ref tb), .val (.int (1 : Int32)), .val (.int (3 : Int32)), .val (.int (1 : Int32)), .val (.int (own_w u1))] [(.int ((own_w u1).toInt8.toInt32)), (.int (1 : Int32)), (.ref tb)])) rfl rfl (hb hby d17_31)
      have V_ab := V_ab.other W8 ne_ab_tb
      have Z0 := Nat.le_trans Z0 (Nat.le_of_eq W8.size.symm)
      have V_tb : Arv Z h8 tb kb .byte (3 : Int32) [(.int (nar .byte ((own_w u0).toInt8.toInt32))), (.int (nar .byte ((own_w u1).toInt8.toInt32))), (.int (0 : Int32))] (.int (0 : Int32)) := Arv.set Ar7 qa7 Sa7 Na7 Ha7 Ga7 (fits_nar_byte _) W8 1 rfl (Nat.le_of_ble_eq_true rfl)
      have K := K.wr W8 (Or.inl (List.mem_of_getElem? (i := 0) rfl))
      have N8 := Fr.snoc X8 N4 g_tb
      refine own_go (B := T8.setTop (mkF m 32 #[.val (.ref ab), .val (.int (1 : Int32)), .val (.ref tb), .val (.int (1 : Int32)), .val (.int (3 : Int32)), .val (.int (1 : Int32)), .val (.int (own_w u1))] [])) st8 ?_
      refine own_go (B := T8.setTop (mkF m 12 #[.val (.ref ab), .val (.int (2 : Int32)), .val (.ref tb), .val (.int (2 : Int32)), .val (.int (3 : Int32)), .val (.int (2 : Int32)), .val (.int (own_w u1))] [(.int (2 : Int32)), (.ref ab)])) (fun t k => ?_) ?_
      · show Steps p.tables e below (T8.setTop (mkF m 32 #[.val (.ref ab), .val (.int (1 : Int32)), .val (.ref tb), .val (.int (1 : Int32)), .val (.int (3 : Int32)), .val (.int (1 : Int32)), .val (.int (own_w u1))] [])) _
        refine XS.iinc X8.here hx rfl (hb hby d17_32) rfl (l' := #[.val (.ref ab), .val (.int (2 : Int32)), .val (.ref tb), .val (.int (1 : Int32)), .val (.int (3 : Int32)), .val (.int (1 : Int32)), .val (.int (own_w u1))]) rfl ?_
        refine XS.iinc X8.here hx rfl (hb hby d17_35) rfl (l' := #[.val (.ref ab), .val (.int (2 : Int32)), .val (.ref tb), .val (.int (2 : Int32)), .val (.int (3 : Int32)), .val (.int (1 : Int32)), .val (.int (own_w u1))]) rfl ?_
        refine XS.iinc X8.here hx rfl (hb hby d17_38) rfl (l' := #[.val (.ref ab), .val (.int (2 : Int32)), .val (.ref tb), .val (.int (2 : Int32)), .val (.int (3 : Int32)), .val (.int (2 : Int32)), .val (.int (own_w u1))]) rfl ?_
        refine XS.goto X8.here hx rfl (pc0 := 41) (pc' := 3) rfl (hb hby d17_41) (by decide) (by decide) ?_
        refine XS.iload X8.here hx rfl (hb hby d17_3) rfl ?_
        show Steps p.tables e below (T8.setTop (mkF m 5 #[.val (.ref ab), .val (.int (2 : Int32)), .val (.ref tb), .val (.int (2 : Int32)), .val (.int (3 : Int32)), .val (.int (2 : Int32)), .val (.int (own_w u1))] [(.int (2 : Int32))])) _
        refine XS.iload X8.here hx rfl (hb hby d17_5) rfl ?_
        refine XS.icmpNo X8.here hx rfl (hb hby d17_7) rfl (tlt (by decide : (2 : Int32) < (3 : Int32))).2.1 ?_
        refine XS.aloadN X8.here hx rfl (hb hby d17_10) rfl rfl ?_
        refine XS.iloadN X8.here hx rfl (hb hby d17_11) rfl ?_
        exact k
      obtain ⟨cl9, Ar9, qa9, Sa9, Na9, Ha9, Ga9⟩ := id V_ab
      have hin9 : ¬ ((2 : Int32) < 0 ∨ cl9.slots.size ≤ ((2 : Int32)).toNatClampNeg) := inb_of Sa9 ⟨by decide, by decide⟩
      have hat9 : cl9.slots[((2 : Int32)).toNatClampNeg]? = some (.int (own_w u2)) := Ha9.at hin9 rfl
      refine own_go (B := T8.setTop (mkF m 20 #[.val (.ref ab), .val (.int (2 : Int32)), .val (.ref tb), .val (.int (2 : Int32)), .val (.int (3 : Int32)), .val (.int (2 : Int32)), .val (.int (own_w u2))] [(.int (255 : Int32)), (.int (own_w u2))])) (fun t k => ?_) ?_
      · show Steps p.tables e below (T8.setTop (mkF m 12 #[.val (.ref ab), .val (.int (2 : Int32)), .val (.ref tb), .val (.int (2 : Int32)), .val (.int (3 : Int32)), .val (.int (2 : Int32)), .val (.int (own_w u1))] [(.int (2 : Int32)), (.ref ab)])) _
        refine X8.caload hx (j := (2 : Int32)) (v := (.int (own_w u2))) (by rw [e8]; exact Ar9.1) (State.isArrayOf_alike hZ.alike Ar9.2.1) Ar9.2.2 hin9 hat9 (g := (mkF m 12 #[.val (.ref ab), .val (.int (2 : Int32)), .val (.ref tb), .val (.int (2 : Int32)), .val (.int (3 : Int32)), .val (.int (2 : Int32)), .val (.int (own_w u1))] [(.int (2 : Int32)), (.ref ab)])) rfl rfl (hb hby d17_12) _ ?_
        refine XS.istore X8.here hx rfl (hb hby d17_13) rfl (l' := #[.val (.ref ab), .val (.int (2 : Int32)), .val (.ref tb), .val (.int (2 : Int32)), .val (.int (3 : Int32)), .val (.int (2 : Int32)), .val (.int (own_w u2))]) rfl ?_
        refine XS.iload X8.here hx rfl (hb hby d17_15) rfl ?_
        refine XS.sipush X8.here hx rfl (hb hby d17_17) ?_
        exact k
      by_cases hc20_10 : (255 : Int32) < (own_w u2)
      · refine own_go (B := T8.setTop (mkF m 25 #[.val (.ref ab), .val (.int (2 : Int32)), .val (.ref tb), .val (.int (2 : Int32)), .val (.int (3 : Int32)), .val (.int (2 : Int32)), .val (.int (own_w u2))] [(.int (2 : Int32))])) (fun t k => ?_) ?_
        · show Steps p.tables e below (T8.setTop (mkF m 20 #[.val (.ref ab), .val (.int (2 : Int32)), .val (.ref tb), .val (.int (2 : Int32)), .val (.int (3 : Int32)), .val (.int (2 : Int32)), .val (.int (own_w u2))] [(.int (255 : Int32)), (.int (own_w u2))])) _
          refine XS.icmpNo X8.here hx rfl (hb hby d17_20) rfl (tlt hc20_10).2.2.2 ?_
          refine XS.iload X8.here hx rfl (hb hby d17_23) rfl ?_
          exact k
        obtain ⟨fs, hr, hrun, hended, hW, hsame⟩ := X8.leave (v := some (.int (2 : Int32))) (fun h => by rw [Bd.returns] at h; cases h)
        refine own_done (retOut X8 hx Bd.returns rfl (Or.inl ⟨rfl, Or.inl rfl, _, rfl⟩) (hb hby d17_25) hr) hrun hended ⟨_, _, rfl, ?_, ⟨_, rfl⟩, hW, hsame.mono (by decide) (by decide)⟩
        show Q_rm17 Z ([u0, u1, u2] : List UInt16) (3 : Int32) tb kb h0 n0 (some (.int (2 : Int32))) T8.heap _
        rw [e8]
        exact ⟨_, rfl, N8, K, Or.inr ⟨by decide, u2, by simp, hc20_10, (own_G_mk 4 ⟨by decide, by decide⟩ ⟨by decide, by decide⟩ (by decide) (by decide) rfl rfl)⟩⟩
      · refine own_go (B := T8.setTop (mkF m 31 #[.val (.ref ab), .val (.int (2 : Int32)), .val (.ref tb), .val (.int (2 : Int32)), .val (.int (3 : Int32)), .val (.int (2 : Int32)), .val (.int (own_w u2))] [(.int ((own_w u2).toInt8.toInt32)), (.int (2 : Int32)), (.ref tb)])) (fun t k => ?_) ?_
        · show Steps p.tables e below (T8.setTop (mkF m 20 #[.val (.ref ab), .val (.int (2 : Int32)), .val (.ref tb), .val (.int (2 : Int32)), .val (.int (3 : Int32)), .val (.int (2 : Int32)), .val (.int (own_w u2))] [(.int (255 : Int32)), (.int (own_w u2))])) _
          refine XS.icmpYes X8.here hx rfl (pc0 := 20) (pc' := 26) rfl (hb hby d17_20) rfl (flt hc20_10).2.2.2 (by decide) (by decide) ?_
          refine XS.aloadN X8.here hx rfl (hb hby d17_26) rfl rfl ?_
          refine XS.iloadN X8.here hx rfl (hb hby d17_27) rfl ?_
          refine XS.iload X8.here hx rfl (hb hby d17_28) rfl ?_
          refine XS.i2b X8.here hx rfl (hb hby d17_30) rfl ?_
          show Steps p.tables e below (T8.setTop (mkF m 31 #[.val (.ref ab), .val (.int (2 : Int32)), .val (.ref tb), .val (.int (2 : Int32)), .val (.int (3 : Int32)), .val (.int (2 : Int32)), .val (.int (own_w u2))] [(.int ((own_w u2).toInt8.toInt32)), (.int (2 : Int32)), (.ref tb)])) _
          exact k
        obtain ⟨cl11, Ar11, qa11, Sa11, Na11, Ha11, Ga11⟩ := id V_tb
        have hin11 : ¬ ((2 : Int32) < 0 ∨ cl11.slots.size ≤ ((2 : Int32)).toNatClampNeg) := inb_of Sa11 ⟨by decide, by decide⟩
        obtain ⟨T12, h12, X12, e12, W12, st12⟩ := stB X8 hx hZ e8 Ar11 (j := (2 : Int32)) hin11 (g := (mkF m 31 #[.val (.ref ab), .val (.int (2 : Int32)), .val (.ref tb), .val (.int (2 : Int32)), .val (.int (3 : Int32)), .val (.int (2 : Int32)), .val (.int (own_w u2))] [(.int ((own_w u2).toInt8.toInt32)), (.int (2 : Int32)), (.ref tb)])) rfl rfl (hb hby d17_31)
        have V_ab := V_ab.other W12 ne_ab_tb
        have Z0 := Nat.le_trans Z0 (Nat.le_of_eq W12.size.symm)
        have V_tb : Arv Z h12 tb kb .byte (3 : Int32) [(.int (nar .byte ((own_w u0).toInt8.toInt32))), (.int (nar .byte ((own_w u1).toInt8.toInt32))), (.int (nar .byte ((own_w u2).toInt8.toInt32)))] (.int (0 : Int32)) := Arv.set Ar11 qa11 Sa11 Na11 Ha11 Ga11 (fits_nar_byte _) W12 2 rfl (Nat.le_of_ble_eq_true rfl)
        have K := K.wr W12 (Or.inl (List.mem_of_getElem? (i := 0) rfl))
        have N12 := Fr.snoc X12 N8 g_tb
        refine own_go (B := T12.setTop (mkF m 32 #[.val (.ref ab), .val (.int (2 : Int32)), .val (.ref tb), .val (.int (2 : Int32)), .val (.int (3 : Int32)), .val (.int (2 : Int32)), .val (.int (own_w u2))] [])) st12 ?_
        refine own_go (B := T12.setTop (mkF m 46 #[.val (.ref ab), .val (.int (3 : Int32)), .val (.ref tb), .val (.int (3 : Int32)), .val (.int (3 : Int32)), .val (.int (3 : Int32)), .val (.int (own_w u2))] [(.int (3 : Int32))])) (fun t k => ?_) ?_
        · show Steps p.tables e below (T12.setTop (mkF m 32 #[.val (.ref ab), .val (.int (2 : Int32)), .val (.ref tb), .val (.int (2 : Int32)), .val (.int (3 : Int32)), .val (.int (2 : Int32)), .val (.int (own_w u2))] [])) _
          refine XS.iinc X12.here hx rfl (hb hby d17_32) rfl (l' := #[.val (.ref ab), .val (.int (3 : Int32)), .val (.ref tb), .val (.int (2 : Int32)), .val (.int (3 : Int32)), .val (.int (2 : Int32)), .val (.int (own_w u2))]) rfl ?_
          refine XS.iinc X12.here hx rfl (hb hby d17_35) rfl (l' := #[.val (.ref ab), .val (.int (3 : Int32)), .val (.ref tb), .val (.int (3 : Int32)), .val (.int (3 : Int32)), .val (.int (2 : Int32)), .val (.int (own_w u2))]) rfl ?_
          refine XS.iinc X12.here hx rfl (hb hby d17_38) rfl (l' := #[.val (.ref ab), .val (.int (3 : Int32)), .val (.ref tb), .val (.int (3 : Int32)), .val (.int (3 : Int32)), .val (.int (3 : Int32)), .val (.int (own_w u2))]) rfl ?_
          refine XS.goto X12.here hx rfl (pc0 := 41) (pc' := 3) rfl (hb hby d17_41) (by decide) (by decide) ?_
          refine XS.iload X12.here hx rfl (hb hby d17_3) rfl ?_
          show Steps p.tables e below (T12.setTop (mkF m 5 #[.val (.ref ab), .val (.int (3 : Int32)), .val (.ref tb), .val (.int (3 : Int32)), .val (.int (3 : Int32)), .val (.int (3 : Int32)), .val (.int (own_w u2))] [(.int (3 : Int32))])) _
          refine XS.iload X12.here hx rfl (hb hby d17_5) rfl ?_
          refine XS.icmpYes X12.here hx rfl (pc0 := 7) (pc' := 44) rfl (hb hby d17_7) rfl (flt (by decide : ¬ ((3 : Int32) < (3 : Int32)))).2.1 (by decide) (by decide) ?_
          refine XS.iload X12.here hx rfl (hb hby d17_44) rfl ?_
          exact k
        obtain ⟨fs, hr, hrun, hended, hW, hsame⟩ := X12.leave (v := some (.int (3 : Int32))) (fun h => by rw [Bd.returns] at h; cases h)
        refine own_done (retOut X12 hx Bd.returns rfl (Or.inl ⟨rfl, Or.inl rfl, _, rfl⟩) (hb hby d17_46) hr) hrun hended ⟨_, _, rfl, ?_, ⟨_, rfl⟩, hW, hsame.mono (by decide) (by decide)⟩
        show Q_rm17 Z ([u0, u1, u2] : List UInt16) (3 : Int32) tb kb h0 n0 (some (.int (3 : Int32))) T12.heap _
        rw [e12]
        exact ⟨_, rfl, N12, K, Or.inl ⟨rfl, (own_allc hc20_2 (own_allc hc20_6 (own_allc hc20_10 own_alln))), V_tb⟩⟩
theorem ef_rm17_4 (m : MethodId) (x0 : Addr) (x1 : Int32) (x2 : Addr) (x3 : Int32) (x4 : Int32) : entryFrame m #[(.ref x0), (.int x1), (.ref x2), (.int x3), (.int x4)] 7 = mkF m 0 #[.val (.ref x0), .val (.int x1), .val (.ref x2), .val (.int x3), .val (.int x4), .unset, .unset] [] := by first | (simp [entryFrame, mkF, argsToLocals, Value.category, maxLocals]; done) | rfl
set_option maxRecDepth 65536 in
set_option maxHeartbeats 40000000 in
theorem rm17_4 (l : Launch) (Z : State) (a0 : Array Value) (hw : ∀ d ∈ tables_1, d.before a0 Z = true) (ws : List Jvm.Cond) (ab : Addr) (ka : ClassId) (tb : Addr) (kb : ClassId) (u0 u1 u2 u3 : UInt16) (h0 : Heap) (n0 : Nat) (Z0 : n0 ≤ h0.size) (V_ab : Arv Z h0 ab ka .char (4 : Int32) [(.int (own_w u0)), (.int (own_w u1)), (.int (own_w u2)), (.int (own_w u3))] (.int (0 : Int32))) (V_tb : Arv Z h0 tb kb .byte (4 : Int32) [] (.int (0 : Int32))) (ne_ab_tb : ab ≠ tb) (g_tb : n0 ≤ tb) :
    MetFree l (⟨"java/lang/StringUTF16", "compress", "([CI[BII)I"⟩ : MethodName) (head1 (Jvm.Cond.code (⟨"java/lang/StringUTF16", "compress", "([CI[BII)I"⟩ : MethodName) jdk_52_method_21_code 7 (some .int) :: ws) ({ frames := 0, cells := 0, slots := 0, locals := 0 } : Room)) (fun a U => a = #[(.ref ab), (.int (0 : Int32)), (.ref tb), (.int (0 : Int32)), (.int (4 : Int32))] ∧ Z.Warmed39 U.vm ∧ U.heap = h0) (fun _ _ _ _ _ => True) (fun _ U o U' => ∃ v L, o = .returned v ∧ Q_rm17 Z ([u0, u1, u2, u3] : List UInt16) (4 : Int32) tb kb h0 n0 v U'.heap L ∧ FrameEnd U o U' L ({ frames := 0, cells := 0, slots := 0, locals := 0 } : Room).cells ({ frames := 0, cells := 0, slots := 0, locals := 0 } : Room).slots) := by
  refine MetFree.of_bodySF (plainFor_of_name pn_17) hisR ?_
  intro p e s m args below meth c s₁ Bd hml0 hP hK
  obtain ⟨rfl, hZ, hh⟩ := hP
  have hx := Bd.exec
  have hby := Bd.bytes
  have hml : c.maxLocals = 7 := hml0
  have hown : s.vm.findClass "java/lang/StringUTF16" = some m.cls := findClass_of_methodNamed Bd.named
  have hnm := (name_of_methodNamed Bd.named Bd.method).1
  have X0 : Stand p l e ({ frames := 0, cells := 0, slots := 0, locals := 0 } : Room) s m #[(.ref ab), (.int (0 : Int32)), (.ref tb), (.int (0 : Int32)), (.int (4 : Int32))] below meth c s₁ [] 0 0 := Stand.of_body Bd
  have e0 : s₁.heap = h0 := by rw [← hh, Bd.state]; rfl
  have N0 := Fr.nil n0
  have K : Keep h0 h0 [tb] := Keep.refl h0 [tb]
  show own_Gd p.tables e below (own_P (Q_rm17 Z ([u0, u1, u2, u3] : List UInt16) (4 : Int32) tb kb h0 n0) s ({ frames := 0, cells := 0, slots := 0, locals := 0 } : Room).cells ({ frames := 0, cells := 0, slots := 0, locals := 0 } : Room).slots) _
  refine own_go (B := s₁.setTop (mkF m 0 #[.val (.ref ab), .val (.int (0 : Int32)), .val (.ref tb), .val (.int (0 : Int32)), .val (.int (4 : Int32)), .unset, .unset] [])) (fun t k => castTop (ef_rm17_4 m ab (0 : Int32) tb (0 : Int32) (4 : Int32)) k) ?_
  have V_tb : Arv Z h0 tb kb .byte (4 : Int32) [(.int (0 : Int32)), (.int (0 : Int32)), (.int (0 : Int32)), (.int (0 : Int32))] (.int (0 : Int32)) := V_tb.pad (pad_rep [] (.int (0 : Int32)) 4)
  refine own_go (B := s₁.setTop (mkF m 12 #[.val (.ref ab), .val (.int (0 : Int32)), .val (.ref tb), .val (.int (0 : Int32)), .val (.int (4 : Int32)), .val (.int (0 : Int32)), .unset] [(.int (0 : Int32)), (.ref ab)])) (fun t k => ?_) ?_
  · show Steps p.tables e below (s₁.setTop (mkF m 0 #[.val (.ref ab), .val (.int (0 : Int32)), .val (.ref tb), .val (.int (0 : Int32)), .val (.int (4 : Int32)), .unset, .unset] [])) _
    refine XS.iconst X0.here hx rfl (hb hby d17_0) ?_
    refine XS.istore X0.here hx rfl (hb hby d17_1) rfl (l' := #[.val (.ref ab), .val (.int (0 : Int32)), .val (.ref tb), .val (.int (0 : Int32)), .val (.int (4 : Int32)), .val (.int (0 : Int32)), .unset]) rfl ?_
    refine XS.iload X0.here hx rfl (hb hby d17_3) rfl ?_
    refine XS.iload X0.here hx rfl (hb hby d17_5) rfl ?_
    refine XS.icmpNo X0.here hx rfl (hb hby d17_7) rfl (tlt (by decide : (0 : Int32) < (4 : Int32))).2.1 ?_
    show Steps p.tables e below (s₁.setTop (mkF m 10 #[.val (.ref ab), .val (.int (0 : Int32)), .val (.ref tb), .val (.int (0 : Int32)), .val (.int (4 : Int32)), .val (.int (0 : Int32)), .unset] [])) _
    refine XS.aloadN X0.here hx rfl (hb hby d17_10) rfl rfl ?_
    refine XS.iloadN X0.here hx rfl (hb hby d17_11) rfl ?_
    exact k
  obtain ⟨cl1, Ar1, qa1, Sa1, Na1, Ha1, Ga1⟩ := id V_ab
  have hin1 : ¬ ((0 : Int32) < 0 ∨ cl1.slots.size ≤ ((0 : Int32)).toNatClampNeg) := inb_of Sa1 ⟨by decide, by decide⟩
  have hat1 : cl1.slots[((0 : Int32)).toNatClampNeg]? = some (.int (own_w u0)) := Ha1.at hin1 rfl
  refine own_go (B := s₁.setTop (mkF m 20 #[.val (.ref ab), .val (.int (0 : Int32)), .val (.ref tb), .val (.int (0 : Int32)), .val (.int (4 : Int32)), .val (.int (0 : Int32)), .val (.int (own_w u0))] [(.int (255 : Int32)), (.int (own_w u0))])) (fun t k => ?_) ?_
  · show Steps p.tables e below (s₁.setTop (mkF m 12 #[.val (.ref ab), .val (.int (0 : Int32)), .val (.ref tb), .val (.int (0 : Int32)), .val (.int (4 : Int32)), .val (.int (0 : Int32)), .unset] [(.int (0 : Int32)), (.ref ab)])) _
    refine X0.caload hx (j := (0 : Int32)) (v := (.int (own_w u0))) (by rw [e0]; exact Ar1.1) (State.isArrayOf_alike hZ.alike Ar1.2.1) Ar1.2.2 hin1 hat1 (g := (mkF m 12 #[.val (.ref ab), .val (.int (0 : Int32)), .val (.ref tb), .val (.int (0 : Int32)), .val (.int (4 : Int32)), .val (.int (0 : Int32)), .unset] [(.int (0 : Int32)), (.ref ab)])) rfl rfl (hb hby d17_12) _ ?_
    refine XS.istore X0.here hx rfl (hb hby d17_13) rfl (l' := #[.val (.ref ab), .val (.int (0 : Int32)), .val (.ref tb), .val (.int (0 : Int32)), .val (.int (4 : Int32)), .val (.int (0 : Int32)), .val (.int (own_w u0))]) rfl ?_
    refine XS.iload X0.here hx rfl (hb hby d17_15) rfl ?_
    refine XS.sipush X0.here hx rfl (hb hby d17_17) ?_
    exact k
  by_cases hc20_2 : (255 : Int32) < (own_w u0)
  · refine own_go (B := s₁.setTop (mkF m 25 #[.val (.ref ab), .val (.int (0 : Int32)), .val (.ref tb), .val (.int (0 : Int32)), .val (.int (4 : Int32)), .val (.int (0 : Int32)), .val (.int (own_w u0))] [(.int (0 : Int32))])) (fun t k => ?_) ?_
    · show Steps p.tables e below (s₁.setTop (mkF m 20 #[.val (.ref ab), .val (.int (0 : Int32)), .val (.ref tb), .val (.int (0 : Int32)), .val (.int (4 : Int32)), .val (.int (0 : Int32)), .val (.int (own_w u0))] [(.int (255 : Int32)), (.int (own_w u0))])) _
      refine XS.icmpNo X0.here hx rfl (hb hby d17_20) rfl (tlt hc20_2).2.2.2 ?_
      refine XS.iload X0.here hx rfl (hb hby d17_23) rfl ?_
      exact k
    obtain ⟨fs, hr, hrun, hended, hW, hsame⟩ := X0.leave (v := some (.int (0 : Int32))) (fun h => by rw [Bd.returns] at h; cases h)
    refine own_done (retOut X0 hx Bd.returns rfl (Or.inl ⟨rfl, Or.inl rfl, _, rfl⟩) (hb hby d17_25) hr) hrun hended ⟨_, _, rfl, ?_, ⟨_, rfl⟩, hW, hsame.mono (by decide) (by decide)⟩
    show Q_rm17 Z ([u0, u1, u2, u3] : List UInt16) (4 : Int32) tb kb h0 n0 (some (.int (0 : Int32))) s₁.heap _
    rw [e0]
    exact ⟨_, rfl, N0, K, Or.inr ⟨by decide, u0, by simp, hc20_2, (own_G_mk 0 ⟨by decide, by decide⟩ ⟨by decide, by decide⟩ (by decide) (by decide) rfl rfl)⟩⟩
  · refine own_go (B := s₁.setTop (mkF m 31 #[.val (.ref ab), .val (.int (0 : Int32)), .val (.ref tb), .val (.int (0 : Int32)), .val (.int (4 : Int32)), .val (.int (0 : Int32)), .val (.int (own_w u0))] [(.int ((own_w u0).toInt8.toInt32)), (.int (0 : Int32)), (.ref tb)])) (fun t k => ?_) ?_
    · show Steps p.tables e below (s₁.setTop (mkF m 20 #[.val (.ref ab), .val (.int (0 : Int32)), .val (.ref tb), .val (.int (0 : Int32)), .val (.int (4 : Int32)), .val (.int (0 : Int32)), .val (.int (own_w u0))] [(.int (255 : Int32)), (.int (own_w u0))])) _
      refine XS.icmpYes X0.here hx rfl (pc0 := 20) (pc' := 26) rfl (hb hby d17_20) rfl (flt hc20_2).2.2.2 (by decide) (by decide) ?_
      refine XS.aloadN X0.here hx rfl (hb hby d17_26) rfl rfl ?_
      refine XS.iloadN X0.here hx rfl (hb hby d17_27) rfl ?_
      refine XS.iload X0.here hx rfl (hb hby d17_28) rfl ?_
      refine XS.i2b X0.here hx rfl (hb hby d17_30) rfl ?_
      show Steps p.tables e below (s₁.setTop (mkF m 31 #[.val (.ref ab), .val (.int (0 : Int32)), .val (.ref tb), .val (.int (0 : Int32)), .val (.int (4 : Int32)), .val (.int (0 : Int32)), .val (.int (own_w u0))] [(.int ((own_w u0).toInt8.toInt32)), (.int (0 : Int32)), (.ref tb)])) _
      exact k
    obtain ⟨cl3, Ar3, qa3, Sa3, Na3, Ha3, Ga3⟩ := id V_tb
    have hin3 : ¬ ((0 : Int32) < 0 ∨ cl3.slots.size ≤ ((0 : Int32)).toNatClampNeg) := inb_of Sa3 ⟨by decide, by decide⟩
    obtain ⟨T4, h4, X4, e4, W4, st4⟩ := stB X0 hx hZ e0 Ar3 (j := (0 : Int32)) hin3 (g := (mkF m 31 #[.val (.ref ab), .val (.int (0 : Int32)), .val (.ref tb), .val (.int (0 : Int32)), .val (.int (4 : Int32)), .val (.int (0 : Int32)), .val (.int (own_w u0))] [(.int ((own_w u0).toInt8.toInt32)), (.int (0 : Int32)), (.ref tb)])) rfl rfl (hb hby d17_31)
    have V_ab := V_ab.other W4 ne_ab_tb
    have Z0 := Nat.le_trans Z0 (Nat.le_of_eq W4.size.symm)
    have V_tb : Arv Z h4 tb kb .byte (4 : Int32) [(.int (nar .byte ((own_w u0).toInt8.toInt32))), (.int (0 : Int32)), (.int (0 : Int32)), (.int (0 : Int32))] (.int (0 : Int32)) := Arv.set Ar3 qa3 Sa3 Na3 Ha3 Ga3 (fits_nar_byte _) W4 0 rfl (Nat.le_of_ble_eq_true rfl)
    have K := K.wr W4 (Or.inl (List.mem_of_getElem? (i := 0) rfl))
    have N4 := Fr.snoc X4 N0 g_tb
    refine own_go (B := T4.setTop (mkF m 32 #[.val (.ref ab), .val (.int (0 : Int32)), .val (.ref tb), .val (.int (0 : Int32)), .val (.int (4 : Int32)), .val (.int (0 : Int32)), .val (.int (own_w u0))] [])) st4 ?_
    refine own_go (B := T4.setTop (mkF m 12 #[.val (.ref ab), .val (.int (1 : Int32)), .val (.ref tb), .val (.int (1 : Int32)), .val (.int (4 : Int32)), .val (.int (1 : Int32)), .val (.int (own_w u0))] [(.int (1 : Int32)), (.ref ab)])) (fun t k => ?_) ?_
    · show Steps p.tables e below (T4.setTop (mkF m 32 #[.val (.ref ab), .val (.int (0 : Int32)), .val (.ref tb), .val (.int (0 : Int32)), .val (.int (4 : Int32)), .val (.int (0 : Int32)), .val (.int (own_w u0))] [])) _
      refine XS.iinc X4.here hx rfl (hb hby d17_32) rfl (l' := #[.val (.ref ab), .val (.int (1 : Int32)), .val (.ref tb), .val (.int (0 : Int32)), .val (.int (4 : Int32)), .val (.int (0 : Int32)), .val (.int (own_w u0))]) rfl ?_
      refine XS.iinc X4.here hx rfl (hb hby d17_35) rfl (l' := #[.val (.ref ab), .val (.int (1 : Int32)), .val (.ref tb), .val (.int (1 : Int32)), .val (.int (4 : Int32)), .val (.int (0 : Int32)), .val (.int (own_w u0))]) rfl ?_
      refine XS.iinc X4.here hx rfl (hb hby d17_38) rfl (l' := #[.val (.ref ab), .val (.int (1 : Int32)), .val (.ref tb), .val (.int (1 : Int32)), .val (.int (4 : Int32)), .val (.int (1 : Int32)), .val (.int (own_w u0))]) rfl ?_
      refine XS.goto X4.here hx rfl (pc0 := 41) (pc' := 3) rfl (hb hby d17_41) (by decide) (by decide) ?_
      refine XS.iload X4.here hx rfl (hb hby d17_3) rfl ?_
      show Steps p.tables e below (T4.setTop (mkF m 5 #[.val (.ref ab), .val (.int (1 : Int32)), .val (.ref tb), .val (.int (1 : Int32)), .val (.int (4 : Int32)), .val (.int (1 : Int32)), .val (.int (own_w u0))] [(.int (1 : Int32))])) _
      refine XS.iload X4.here hx rfl (hb hby d17_5) rfl ?_
      refine XS.icmpNo X4.here hx rfl (hb hby d17_7) rfl (tlt (by decide : (1 : Int32) < (4 : Int32))).2.1 ?_
      refine XS.aloadN X4.here hx rfl (hb hby d17_10) rfl rfl ?_
      refine XS.iloadN X4.here hx rfl (hb hby d17_11) rfl ?_
      exact k
    obtain ⟨cl5, Ar5, qa5, Sa5, Na5, Ha5, Ga5⟩ := id V_ab
    have hin5 : ¬ ((1 : Int32) < 0 ∨ cl5.slots.size ≤ ((1 : Int32)).toNatClampNeg) := inb_of Sa5 ⟨by decide, by decide⟩
    have hat5 : cl5.slots[((1 : Int32)).toNatClampNeg]? = some (.int (own_w u1)) := Ha5.at hin5 rfl
    refine own_go (B := T4.setTop (mkF m 20 #[.val (.ref ab), .val (.int (1 : Int32)), .val (.ref tb), .val (.int (1 : Int32)), .val (.int (4 : Int32)), .val (.int (1 : Int32)), .val (.int (own_w u1))] [(.int (255 : Int32)), (.int (own_w u1))])) (fun t k => ?_) ?_
    · show Steps p.tables e below (T4.setTop (mkF m 12 #[.val (.ref ab), .val (.int (1 : Int32)), .val (.ref tb), .val (.int (1 : Int32)), .val (.int (4 : Int32)), .val (.int (1 : Int32)), .val (.int (own_w u0))] [(.int (1 : Int32)), (.ref ab)])) _
      refine X4.caload hx (j := (1 : Int32)) (v := (.int (own_w u1))) (by rw [e4]; exact Ar5.1) (State.isArrayOf_alike hZ.alike Ar5.2.1) Ar5.2.2 hin5 hat5 (g := (mkF m 12 #[.val (.ref ab), .val (.int (1 : Int32)), .val (.ref tb), .val (.int (1 : Int32)), .val (.int (4 : Int32)), .val (.int (1 : Int32)), .val (.int (own_w u0))] [(.int (1 : Int32)), (.ref ab)])) rfl rfl (hb hby d17_12) _ ?_
      refine XS.istore X4.here hx rfl (hb hby d17_13) rfl (l' := #[.val (.ref ab), .val (.int (1 : Int32)), .val (.ref tb), .val (.int (1 : Int32)), .val (.int (4 : Int32)), .val (.int (1 : Int32)), .val (.int (own_w u1))]) rfl ?_
      refine XS.iload X4.here hx rfl (hb hby d17_15) rfl ?_
      refine XS.sipush X4.here hx rfl (hb hby d17_17) ?_
      exact k
    by_cases hc20_6 : (255 : Int32) < (own_w u1)
    · refine own_go (B := T4.setTop (mkF m 25 #[.val (.ref ab), .val (.int (1 : Int32)), .val (.ref tb), .val (.int (1 : Int32)), .val (.int (4 : Int32)), .val (.int (1 : Int32)), .val (.int (own_w u1))] [(.int (1 : Int32))])) (fun t k => ?_) ?_
      · show Steps p.tables e below (T4.setTop (mkF m 20 #[.val (.ref ab), .val (.int (1 : Int32)), .val (.ref tb), .val (.int (1 : Int32)), .val (.int (4 : Int32)), .val (.int (1 : Int32)), .val (.int (own_w u1))] [(.int (255 : Int32)), (.int (own_w u1))])) _
        refine XS.icmpNo X4.here hx rfl (hb hby d17_20) rfl (tlt hc20_6).2.2.2 ?_
        refine XS.iload X4.here hx rfl (hb hby d17_23) rfl ?_
        exact k
      obtain ⟨fs, hr, hrun, hended, hW, hsame⟩ := X4.leave (v := some (.int (1 : Int32))) (fun h => by rw [Bd.returns] at h; cases h)
      refine own_done (retOut X4 hx Bd.returns rfl (Or.inl ⟨rfl, Or.inl rfl, _, rfl⟩) (hb hby d17_25) hr) hrun hended ⟨_, _, rfl, ?_, ⟨_, rfl⟩, hW, hsame.mono (by decide) (by decide)⟩
      show Q_rm17 Z ([u0, u1, u2, u3] : List UInt16) (4 : Int32) tb kb h0 n0 (some (.int (1 : Int32))) T4.heap _
      rw [e4]
      exact ⟨_, rfl, N4, K, Or.inr ⟨by decide, u1, by simp, hc20_6, (own_G_mk 2 ⟨by decide, by decide⟩ ⟨by decide, by decide⟩ (by decide) (by decide) rfl rfl)⟩⟩
    · refine own_go (B := T4.setTop (mkF m 31 #[.val (.ref ab), .val (.int (1 : Int32)), .val (.ref tb), .val (.int (1 : Int32)), .val (.int (4 : Int32)), .val (.int (1 : Int32)), .val (.int (own_w u1))] [(.int ((own_w u1).toInt8.toInt32)), (.int (1 : Int32)), (.ref tb)])) (fun t k => ?_) ?_
      · show Steps p.tables e below (T4.setTop (mkF m 20 #[.val (.ref ab), .val (.int (1 : Int32)), .val (.ref tb), .val (.int (1 : Int32)), .val (.int (4 : Int32)), .val (.int (1 : Int32)), .val (.int (own_w u1))] [(.int (255 : Int32)), (.int (own_w u1))])) _
        refine XS.icmpYes X4.here hx rfl (pc0 := 20) (pc' := 26) rfl (hb hby d17_20) rfl (flt hc20_6).2.2.2 (by decide) (by decide) ?_
        refine XS.aloadN X4.here hx rfl (hb hby d17_26) rfl rfl ?_
        refine XS.iloadN X4.here hx rfl (hb hby d17_27) rfl ?_
        refine XS.iload X4.here hx rfl (hb hby d17_28) rfl ?_
        refine XS.i2b X4.here hx rfl (hb hby d17_30) rfl ?_
        show Steps p.tables e below (T4.setTop (mkF m 31 #[.val (.ref ab), .val (.int (1 : Int32)), .val (.ref tb), .val (.int (1 : Int32)), .val (.int (4 : Int32)), .val (.int (1 : Int32)), .val (.int (own_w u1))] [(.int ((own_w u1).toInt8.toInt32)), (.int (1 : Int32)), (.ref tb)])) _
        exact k
      obtain ⟨cl7, Ar7, qa7, Sa7, Na7, Ha7, Ga7⟩ := id V_tb
      have hin7 : ¬ ((1 : Int32) < 0 ∨ cl7.slots.size ≤ ((1 : Int32)).toNatClampNeg) := inb_of Sa7 ⟨by decide, by decide⟩
      obtain ⟨T8, h8, X8, e8, W8, st8⟩ := stB X4 hx hZ e4 Ar7 (j := (1 : Int32)) hin7 (g := (mkF m 31 #[.val (.ref ab), .val (.int (1 : Int32)), .val (.ref tb), .val (.int (1 : Int32)), .val (.int (4 : Int32)), .val (.int (1 : Int32)), .val (.int (own_w u1))] [(.int ((own_w u1).toInt8.toInt32)), (.int (1 : Int32)), (.ref tb)])) rfl rfl (hb hby d17_31)
      have V_ab := V_ab.other W8 ne_ab_tb
      have Z0 := Nat.le_trans Z0 (Nat.le_of_eq W8.size.symm)
      have V_tb : Arv Z h8 tb kb .byte (4 : Int32) [(.int (nar .byte ((own_w u0).toInt8.toInt32))), (.int (nar .byte ((own_w u1).toInt8.toInt32))), (.int (0 : Int32)), (.int (0 : Int32))] (.int (0 : Int32)) := Arv.set Ar7 qa7 Sa7 Na7 Ha7 Ga7 (fits_nar_byte _) W8 1 rfl (Nat.le_of_ble_eq_true rfl)
      have K := K.wr W8 (Or.inl (List.mem_of_getElem? (i := 0) rfl))
      have N8 := Fr.snoc X8 N4 g_tb
      refine own_go (B := T8.setTop (mkF m 32 #[.val (.ref ab), .val (.int (1 : Int32)), .val (.ref tb), .val (.int (1 : Int32)), .val (.int (4 : Int32)), .val (.int (1 : Int32)), .val (.int (own_w u1))] [])) st8 ?_
      refine own_go (B := T8.setTop (mkF m 12 #[.val (.ref ab), .val (.int (2 : Int32)), .val (.ref tb), .val (.int (2 : Int32)), .val (.int (4 : Int32)), .val (.int (2 : Int32)), .val (.int (own_w u1))] [(.int (2 : Int32)), (.ref ab)])) (fun t k => ?_) ?_
      · show Steps p.tables e below (T8.setTop (mkF m 32 #[.val (.ref ab), .val (.int (1 : Int32)), .val (.ref tb), .val (.int (1 : Int32)), .val (.int (4 : Int32)), .val (.int (1 : Int32)), .val (.int (own_w u1))] [])) _
        refine XS.iinc X8.here hx rfl (hb hby d17_32) rfl (l' := #[.val (.ref ab), .val (.int (2 : Int32)), .val (.ref tb), .val (.int (1 : Int32)), .val (.int (4 : Int32)), .val (.int (1 : Int32)), .val (.int (own_w u1))]) rfl ?_
        refine XS.iinc X8.here hx rfl (hb hby d17_35) rfl (l' := #[.val (.ref ab), .val (.int (2 : Int32)), .val (.ref tb), .val (.int (2 : Int32)), .val (.int (4 : Int32)), .val (.int (1 : Int32)), .val (.int (own_w u1))]) rfl ?_
        refine XS.iinc X8.here hx rfl (hb hby d17_38) rfl (l' := #[.val (.ref ab), .val (.int (2 : Int32)), .val (.ref tb), .val (.int (2 : Int32)), .val (.int (4 : Int32)), .val (.int (2 : Int32)), .val (.int (own_w u1))]) rfl ?_
        refine XS.goto X8.here hx rfl (pc0 := 41) (pc' := 3) rfl (hb hby d17_41) (by decide) (by decide) ?_
        refine XS.iload X8.here hx rfl (hb hby d17_3) rfl ?_
        show Steps p.tables e below (T8.setTop (mkF m 5 #[.val (.ref ab), .val (.int (2 : Int32)), .val (.ref tb), .val (.int (2 : Int32)), .val (.int (4 : Int32)), .val (.int (2 : Int32)), .val (.int (own_w u1))] [(.int (2 : Int32))])) _
        refine XS.iload X8.here hx rfl (hb hby d17_5) rfl ?_
        refine XS.icmpNo X8.here hx rfl (hb hby d17_7) rfl (tlt (by decide : (2 : Int32) < (4 : Int32))).2.1 ?_
        refine XS.aloadN X8.here hx rfl (hb hby d17_10) rfl rfl ?_
        refine XS.iloadN X8.here hx rfl (hb hby d17_11) rfl ?_
        exact k
      obtain ⟨cl9, Ar9, qa9, Sa9, Na9, Ha9, Ga9⟩ := id V_ab
      have hin9 : ¬ ((2 : Int32) < 0 ∨ cl9.slots.size ≤ ((2 : Int32)).toNatClampNeg) := inb_of Sa9 ⟨by decide, by decide⟩
      have hat9 : cl9.slots[((2 : Int32)).toNatClampNeg]? = some (.int (own_w u2)) := Ha9.at hin9 rfl
      refine own_go (B := T8.setTop (mkF m 20 #[.val (.ref ab), .val (.int (2 : Int32)), .val (.ref tb), .val (.int (2 : Int32)), .val (.int (4 : Int32)), .val (.int (2 : Int32)), .val (.int (own_w u2))] [(.int (255 : Int32)), (.int (own_w u2))])) (fun t k => ?_) ?_
      · show Steps p.tables e below (T8.setTop (mkF m 12 #[.val (.ref ab), .val (.int (2 : Int32)), .val (.ref tb), .val (.int (2 : Int32)), .val (.int (4 : Int32)), .val (.int (2 : Int32)), .val (.int (own_w u1))] [(.int (2 : Int32)), (.ref ab)])) _
        refine X8.caload hx (j := (2 : Int32)) (v := (.int (own_w u2))) (by rw [e8]; exact Ar9.1) (State.isArrayOf_alike hZ.alike Ar9.2.1) Ar9.2.2 hin9 hat9 (g := (mkF m 12 #[.val (.ref ab), .val (.int (2 : Int32)), .val (.ref tb), .val (.int (2 : Int32)), .val (.int (4 : Int32)), .val (.int (2 : Int32)), .val (.int (own_w u1))] [(.int (2 : Int32)), (.ref ab)])) rfl rfl (hb hby d17_12) _ ?_
        refine XS.istore X8.here hx rfl (hb hby d17_13) rfl (l' := #[.val (.ref ab), .val (.int (2 : Int32)), .val (.ref tb), .val (.int (2 : Int32)), .val (.int (4 : Int32)), .val (.int (2 : Int32)), .val (.int (own_w u2))]) rfl ?_
        refine XS.iload X8.here hx rfl (hb hby d17_15) rfl ?_
        refine XS.sipush X8.here hx rfl (hb hby d17_17) ?_
        exact k
      by_cases hc20_10 : (255 : Int32) < (own_w u2)
      · refine own_go (B := T8.setTop (mkF m 25 #[.val (.ref ab), .val (.int (2 : Int32)), .val (.ref tb), .val (.int (2 : Int32)), .val (.int (4 : Int32)), .val (.int (2 : Int32)), .val (.int (own_w u2))] [(.int (2 : Int32))])) (fun t k => ?_) ?_
        · show Steps p.tables e below (T8.setTop (mkF m 20 #[.val (.ref ab), .val (.int (2 : Int32)), .val (.ref tb), .val (.int (2 : Int32)), .val (.int (4 : Int32)), .val (.int (2 : Int32)), .val (.int (own_w u2))] [(.int (255 : Int32)), (.int (own_w u2))])) _
          refine XS.icmpNo X8.here hx rfl (hb hby d17_20) rfl (tlt hc20_10).2.2.2 ?_
          refine XS.iload X8.here hx rfl (hb hby d17_23) rfl ?_
          exact k
        obtain ⟨fs, hr, hrun, hended, hW, hsame⟩ := X8.leave (v := some (.int (2 : Int32))) (fun h => by rw [Bd.returns] at h; cases h)
        refine own_done (retOut X8 hx Bd.returns rfl (Or.inl ⟨rfl, Or.inl rfl, _, rfl⟩) (hb hby d17_25) hr) hrun hended ⟨_, _, rfl, ?_, ⟨_, rfl⟩, hW, hsame.mono (by decide) (by decide)⟩
        show Q_rm17 Z ([u0, u1, u2, u3] : List UInt16) (4 : Int32) tb kb h0 n0 (some (.int (2 : Int32))) T8.heap _
        rw [e8]
        exact ⟨_, rfl, N8, K, Or.inr ⟨by decide, u2, by simp, hc20_10, (own_G_mk 4 ⟨by decide, by decide⟩ ⟨by decide, by decide⟩ (by decide) (by decide) rfl rfl)⟩⟩
      · refine own_go (B := T8.setTop (mkF m 31 #[.val (.ref ab), .val (.int (2 : Int32)), .val (.ref tb), .val (.int (2 : Int32)), .val (.int (4 : Int32)), .val (.int (2 : Int32)), .val (.int (own_w u2))] [(.int ((own_w u2).toInt8.toInt32)), (.int (2 : Int32)), (.ref tb)])) (fun t k => ?_) ?_
        · show Steps p.tables e below (T8.setTop (mkF m 20 #[.val (.ref ab), .val (.int (2 : Int32)), .val (.ref tb), .val (.int (2 : Int32)), .val (.int (4 : Int32)), .val (.int (2 : Int32)), .val (.int (own_w u2))] [(.int (255 : Int32)), (.int (own_w u2))])) _
          refine XS.icmpYes X8.here hx rfl (pc0 := 20) (pc' := 26) rfl (hb hby d17_20) rfl (flt hc20_10).2.2.2 (by decide) (by decide) ?_
          refine XS.aloadN X8.here hx rfl (hb hby d17_26) rfl rfl ?_
          refine XS.iloadN X8.here hx rfl (hb hby d17_27) rfl ?_
          refine XS.iload X8.here hx rfl (hb hby d17_28) rfl ?_
          refine XS.i2b X8.here hx rfl (hb hby d17_30) rfl ?_
          show Steps p.tables e below (T8.setTop (mkF m 31 #[.val (.ref ab), .val (.int (2 : Int32)), .val (.ref tb), .val (.int (2 : Int32)), .val (.int (4 : Int32)), .val (.int (2 : Int32)), .val (.int (own_w u2))] [(.int ((own_w u2).toInt8.toInt32)), (.int (2 : Int32)), (.ref tb)])) _
          exact k
        obtain ⟨cl11, Ar11, qa11, Sa11, Na11, Ha11, Ga11⟩ := id V_tb
        have hin11 : ¬ ((2 : Int32) < 0 ∨ cl11.slots.size ≤ ((2 : Int32)).toNatClampNeg) := inb_of Sa11 ⟨by decide, by decide⟩
        obtain ⟨T12, h12, X12, e12, W12, st12⟩ := stB X8 hx hZ e8 Ar11 (j := (2 : Int32)) hin11 (g := (mkF m 31 #[.val (.ref ab), .val (.int (2 : Int32)), .val (.ref tb), .val (.int (2 : Int32)), .val (.int (4 : Int32)), .val (.int (2 : Int32)), .val (.int (own_w u2))] [(.int ((own_w u2).toInt8.toInt32)), (.int (2 : Int32)), (.ref tb)])) rfl rfl (hb hby d17_31)
        have V_ab := V_ab.other W12 ne_ab_tb
        have Z0 := Nat.le_trans Z0 (Nat.le_of_eq W12.size.symm)
        have V_tb : Arv Z h12 tb kb .byte (4 : Int32) [(.int (nar .byte ((own_w u0).toInt8.toInt32))), (.int (nar .byte ((own_w u1).toInt8.toInt32))), (.int (nar .byte ((own_w u2).toInt8.toInt32))), (.int (0 : Int32))] (.int (0 : Int32)) := Arv.set Ar11 qa11 Sa11 Na11 Ha11 Ga11 (fits_nar_byte _) W12 2 rfl (Nat.le_of_ble_eq_true rfl)
        have K := K.wr W12 (Or.inl (List.mem_of_getElem? (i := 0) rfl))
        have N12 := Fr.snoc X12 N8 g_tb
        refine own_go (B := T12.setTop (mkF m 32 #[.val (.ref ab), .val (.int (2 : Int32)), .val (.ref tb), .val (.int (2 : Int32)), .val (.int (4 : Int32)), .val (.int (2 : Int32)), .val (.int (own_w u2))] [])) st12 ?_
        refine own_go (B := T12.setTop (mkF m 12 #[.val (.ref ab), .val (.int (3 : Int32)), .val (.ref tb), .val (.int (3 : Int32)), .val (.int (4 : Int32)), .val (.int (3 : Int32)), .val (.int (own_w u2))] [(.int (3 : Int32)), (.ref ab)])) (fun t k => ?_) ?_
        · show Steps p.tables e below (T12.setTop (mkF m 32 #[.val (.ref ab), .val (.int (2 : Int32)), .val (.ref tb), .val (.int (2 : Int32)), .val (.int (4 : Int32)), .val (.int (2 : Int32)), .val (.int (own_w u2))] [])) _
          refine XS.iinc X12.here hx rfl (hb hby d17_32) rfl (l' := #[.val (.ref ab), .val (.int (3 : Int32)), .val (.ref tb), .val (.int (2 : Int32)), .val (.int (4 : Int32)), .val (.int (2 : Int32)), .val (.int (own_w u2))]) rfl ?_
          refine XS.iinc X12.here hx rfl (hb hby d17_35) rfl (l' := #[.val (.ref ab), .val (.int (3 : Int32)), .val (.ref tb), .val (.int (3 : Int32)), .val (.int (4 : Int32)), .val (.int (2 : Int32)), .val (.int (own_w u2))]) rfl ?_
          refine XS.iinc X12.here hx rfl (hb hby d17_38) rfl (l' := #[.val (.ref ab), .val (.int (3 : Int32)), .val (.ref tb), .val (.int (3 : Int32)), .val (.int (4 : Int32)), .val (.int (3 : Int32)), .val (.int (own_w u2))]) rfl ?_
          refine XS.goto X12.here hx rfl (pc0 := 41) (pc' := 3) rfl (hb hby d17_41) (by decide) (by decide) ?_
          refine XS.iload X12.here hx rfl (hb hby d17_3) rfl ?_
          show Steps p.tables e below (T12.setTop (mkF m 5 #[.val (.ref ab), .val (.int (3 : Int32)), .val (.ref tb), .val (.int (3 : Int32)), .val (.int (4 : Int32)), .val (.int (3 : Int32)), .val (.int (own_w u2))] [(.int (3 : Int32))])) _
          refine XS.iload X12.here hx rfl (hb hby d17_5) rfl ?_
          refine XS.icmpNo X12.here hx rfl (hb hby d17_7) rfl (tlt (by decide : (3 : Int32) < (4 : Int32))).2.1 ?_
          refine XS.aloadN X12.here hx rfl (hb hby d17_10) rfl rfl ?_
          refine XS.iloadN X12.here hx rfl (hb hby d17_11) rfl ?_
          exact k
        obtain ⟨cl13, Ar13, qa13, Sa13, Na13, Ha13, Ga13⟩ := id V_ab
        have hin13 : ¬ ((3 : Int32) < 0 ∨ cl13.slots.size ≤ ((3 : Int32)).toNatClampNeg) := inb_of Sa13 ⟨by decide, by decide⟩
        have hat13 : cl13.slots[((3 : Int32)).toNatClampNeg]? = some (.int (own_w u3)) := Ha13.at hin13 rfl
        refine own_go (B := T12.setTop (mkF m 20 #[.val (.ref ab), .val (.int (3 : Int32)), .val (.ref tb), .val (.int (3 : Int32)), .val (.int (4 : Int32)), .val (.int (3 : Int32)), .val (.int (own_w u3))] [(.int (255 : Int32)), (.int (own_w u3))])) (fun t k => ?_) ?_
        · show Steps p.tables e below (T12.setTop (mkF m 12 #[.val (.ref ab), .val (.int (3 : Int32)), .val (.ref tb), .val (.int (3 : Int32)), .val (.int (4 : Int32)), .val (.int (3 : Int32)), .val (.int (own_w u2))] [(.int (3 : Int32)), (.ref ab)])) _
          refine X12.caload hx (j := (3 : Int32)) (v := (.int (own_w u3))) (by rw [e12]; exact Ar13.1) (State.isArrayOf_alike hZ.alike Ar13.2.1) Ar13.2.2 hin13 hat13 (g := (mkF m 12 #[.val (.ref ab), .val (.int (3 : Int32)), .val (.ref tb), .val (.int (3 : Int32)), .val (.int (4 : Int32)), .val (.int (3 : Int32)), .val (.int (own_w u2))] [(.int (3 : Int32)), (.ref ab)])) rfl rfl (hb hby d17_12) _ ?_
          refine XS.istore X12.here hx rfl (hb hby d17_13) rfl (l' := #[.val (.ref ab), .val (.int (3 : Int32)), .val (.ref tb), .val (.int (3 : Int32)), .val (.int (4 : Int32)), .val (.int (3 : Int32)), .val (.int (own_w u3))]) rfl ?_
          refine XS.iload X12.here hx rfl (hb hby d17_15) rfl ?_
          refine XS.sipush X12.here hx rfl (hb hby d17_17) ?_
          exact k
        by_cases hc20_14 : (255 : Int32) < (own_w u3)
        · refine own_go (B := T12.setTop (mkF m 25 #[.val (.ref ab), .val (.int (3 : Int32)), .val (.ref tb), .val (.int (3 : Int32)), .val (.int (4 : Int32)), .val (.int (3 : Int32)), .val (.int (own_w u3))] [(.int (3 : Int32))])) (fun t k => ?_) ?_
          · show Steps p.tables e below (T12.setTop (mkF m 20 #[.val (.ref ab), .val (.int (3 : Int32)), .val (.ref tb), .val (.int (3 : Int32)), .val (.int (4 : Int32)), .val (.int (3 : Int32)), .val (.int (own_w u3))] [(.int (255 : Int32)), (.int (own_w u3))])) _
            refine XS.icmpNo X12.here hx rfl (hb hby d17_20) rfl (tlt hc20_14).2.2.2 ?_
            refine XS.iload X12.here hx rfl (hb hby d17_23) rfl ?_
            exact k
          obtain ⟨fs, hr, hrun, hended, hW, hsame⟩ := X12.leave (v := some (.int (3 : Int32))) (fun h => by rw [Bd.returns] at h; cases h)
          refine own_done (retOut X12 hx Bd.returns rfl (Or.inl ⟨rfl, Or.inl rfl, _, rfl⟩) (hb hby d17_25) hr) hrun hended ⟨_, _, rfl, ?_, ⟨_, rfl⟩, hW, hsame.mono (by decide) (by decide)⟩
          show Q_rm17 Z ([u0, u1, u2, u3] : List UInt16) (4 : Int32) tb kb h0 n0 (some (.int (3 : Int32))) T12.heap _
          rw [e12]
          exact ⟨_, rfl, N12, K, Or.inr ⟨by decide, u3, by simp, hc20_14, (own_G_mk 6 ⟨by decide, by decide⟩ ⟨by decide, by decide⟩ (by decide) (by decide) rfl rfl)⟩⟩
        · refine own_go (B := T12.setTop (mkF m 31 #[.val (.ref ab), .val (.int (3 : Int32)), .val (.ref tb), .val (.int (3 : Int32)), .val (.int (4 : Int32)), .val (.int (3 : Int32)), .val (.int (own_w u3))] [(.int ((own_w u3).toInt8.toInt32)), (.int (3 : Int32)), (.ref tb)])) (fun t k => ?_) ?_
          · show Steps p.tables e below (T12.setTop (mkF m 20 #[.val (.ref ab), .val (.int (3 : Int32)), .val (.ref tb), .val (.int (3 : Int32)), .val (.int (4 : Int32)), .val (.int (3 : Int32)), .val (.int (own_w u3))] [(.int (255 : Int32)), (.int (own_w u3))])) _
            refine XS.icmpYes X12.here hx rfl (pc0 := 20) (pc' := 26) rfl (hb hby d17_20) rfl (flt hc20_14).2.2.2 (by decide) (by decide) ?_
            refine XS.aloadN X12.here hx rfl (hb hby d17_26) rfl rfl ?_
            refine XS.iloadN X12.here hx rfl (hb hby d17_27) rfl ?_
            refine XS.iload X12.here hx rfl (hb hby d17_28) rfl ?_
            refine XS.i2b X12.here hx rfl (hb hby d17_30) rfl ?_
            show Steps p.tables e below (T12.setTop (mkF m 31 #[.val (.ref ab), .val (.int (3 : Int32)), .val (.ref tb), .val (.int (3 : Int32)), .val (.int (4 : Int32)), .val (.int (3 : Int32)), .val (.int (own_w u3))] [(.int ((own_w u3).toInt8.toInt32)), (.int (3 : Int32)), (.ref tb)])) _
            exact k
          obtain ⟨cl15, Ar15, qa15, Sa15, Na15, Ha15, Ga15⟩ := id V_tb
          have hin15 : ¬ ((3 : Int32) < 0 ∨ cl15.slots.size ≤ ((3 : Int32)).toNatClampNeg) := inb_of Sa15 ⟨by decide, by decide⟩
          obtain ⟨T16, h16, X16, e16, W16, st16⟩ := stB X12 hx hZ e12 Ar15 (j := (3 : Int32)) hin15 (g := (mkF m 31 #[.val (.ref ab), .val (.int (3 : Int32)), .val (.ref tb), .val (.int (3 : Int32)), .val (.int (4 : Int32)), .val (.int (3 : Int32)), .val (.int (own_w u3))] [(.int ((own_w u3).toInt8.toInt32)), (.int (3 : Int32)), (.ref tb)])) rfl rfl (hb hby d17_31)
          have V_ab := V_ab.other W16 ne_ab_tb
          have Z0 := Nat.le_trans Z0 (Nat.le_of_eq W16.size.symm)
          have V_tb : Arv Z h16 tb kb .byte (4 : Int32) [(.int (nar .byte ((own_w u0).toInt8.toInt32))), (.int (nar .byte ((own_w u1).toInt8.toInt32))), (.int (nar .byte ((own_w u2).toInt8.toInt32))), (.int (nar .byte ((own_w u3).toInt8.toInt32)))] (.int (0 : Int32)) := Arv.set Ar15 qa15 Sa15 Na15 Ha15 Ga15 (fits_nar_byte _) W16 3 rfl (Nat.le_of_ble_eq_true rfl)
          have K := K.wr W16 (Or.inl (List.mem_of_getElem? (i := 0) rfl))
          have N16 := Fr.snoc X16 N12 g_tb
          refine own_go (B := T16.setTop (mkF m 32 #[.val (.ref ab), .val (.int (3 : Int32)), .val (.ref tb), .val (.int (3 : Int32)), .val (.int (4 : Int32)), .val (.int (3 : Int32)), .val (.int (own_w u3))] [])) st16 ?_
          refine own_go (B := T16.setTop (mkF m 46 #[.val (.ref ab), .val (.int (4 : Int32)), .val (.ref tb), .val (.int (4 : Int32)), .val (.int (4 : Int32)), .val (.int (4 : Int32)), .val (.int (own_w u3))] [(.int (4 : Int32))])) (fun t k => ?_) ?_
          · show Steps p.tables e below (T16.setTop (mkF m 32 #[.val (.ref ab), .val (.int (3 : Int32)), .val (.ref tb), .val (.int (3 : Int32)), .val (.int (4 : Int32)), .val (.int (3 : Int32)), .val (.int (own_w u3))] [])) _
            refine XS.iinc X16.here hx rfl (hb hby d17_32) rfl (l' := #[.val (.ref ab), .val (.int (4 : Int32)), .val (.ref tb), .val (.int (3 : Int32)), .val (.int (4 : Int32)), .val (.int (3 : Int32)), .val (.int (own_w u3))]) rfl ?_
            refine XS.iinc X16.here hx rfl (hb hby d17_35) rfl (l' := #[.val (.ref ab), .val (.int (4 : Int32)), .val (.ref tb), .val (.int (4 : Int32)), .val (.int (4 : Int32)), .val (.int (3 : Int32)), .val (.int (own_w u3))]) rfl ?_
            refine XS.iinc X16.here hx rfl (hb hby d17_38) rfl (l' := #[.val (.ref ab), .val (.int (4 : Int32)), .val (.ref tb), .val (.int (4 : Int32)), .val (.int (4 : Int32)), .val (.int (4 : Int32)), .val (.int (own_w u3))]) rfl ?_
            refine XS.goto X16.here hx rfl (pc0 := 41) (pc' := 3) rfl (hb hby d17_41) (by decide) (by decide) ?_
            refine XS.iload X16.here hx rfl (hb hby d17_3) rfl ?_
            show Steps p.tables e below (T16.setTop (mkF m 5 #[.val (.ref ab), .val (.int (4 : Int32)), .val (.ref tb), .val (.int (4 : Int32)), .val (.int (4 : Int32)), .val (.int (4 : Int32)), .val (.int (own_w u3))] [(.int (4 : Int32))])) _
            refine XS.iload X16.here hx rfl (hb hby d17_5) rfl ?_
            refine XS.icmpYes X16.here hx rfl (pc0 := 7) (pc' := 44) rfl (hb hby d17_7) rfl (flt (by decide : ¬ ((4 : Int32) < (4 : Int32)))).2.1 (by decide) (by decide) ?_
            refine XS.iload X16.here hx rfl (hb hby d17_44) rfl ?_
            exact k
          obtain ⟨fs, hr, hrun, hended, hW, hsame⟩ := X16.leave (v := some (.int (4 : Int32))) (fun h => by rw [Bd.returns] at h; cases h)
          refine own_done (retOut X16 hx Bd.returns rfl (Or.inl ⟨rfl, Or.inl rfl, _, rfl⟩) (hb hby d17_46) hr) hrun hended ⟨_, _, rfl, ?_, ⟨_, rfl⟩, hW, hsame.mono (by decide) (by decide)⟩
          show Q_rm17 Z ([u0, u1, u2, u3] : List UInt16) (4 : Int32) tb kb h0 n0 (some (.int (4 : Int32))) T16.heap _
          rw [e16]
          exact ⟨_, rfl, N16, K, Or.inl ⟨rfl, (own_allc hc20_2 (own_allc hc20_6 (own_allc hc20_10 (own_allc hc20_14 own_alln)))), V_tb⟩⟩
set_option maxRecDepth 65536 in
set_option maxHeartbeats 40000000 in
theorem rm17 (l : Launch) (Z : State) (a0 : Array Value) (hw : ∀ d ∈ tables_1, d.before a0 Z = true) (ws : List Jvm.Cond) (ab : Addr) (ka : ClassId) (tb : Addr) (kb : ClassId) (cs : List UInt16) (nn : Int32) (h0 : Heap) (n0 : Nat) (Z0 : n0 ≤ h0.size) (V_ab : Arv Z h0 ab ka .char nn (own_ch cs) (.int (0 : Int32))) (V_tb : Arv Z h0 tb kb .byte nn [] (.int (0 : Int32))) (ne_ab_tb : ab ≠ tb) (g_tb : n0 ≤ tb) (hL : own_L cs nn) :
    MetFree l (⟨"java/lang/StringUTF16", "compress", "([CI[BII)I"⟩ : MethodName) (head1 (Jvm.Cond.code (⟨"java/lang/StringUTF16", "compress", "([CI[BII)I"⟩ : MethodName) jdk_52_method_21_code 7 (some .int) :: ws) ({ frames := 0, cells := 0, slots := 0, locals := 0 } : Room)) (fun a U => a = #[(.ref ab), (.int (0 : Int32)), (.ref tb), (.int (0 : Int32)), (.int nn)] ∧ Z.Warmed39 U.vm ∧ U.heap = h0) (fun _ _ _ _ _ => True) (fun _ U o U' => ∃ v L, o = .returned v ∧ Q_rm17 Z cs nn tb kb h0 n0 v U'.heap L ∧ FrameEnd U o U' L ({ frames := 0, cells := 0, slots := 0, locals := 0 } : Room).cells ({ frames := 0, cells := 0, slots := 0, locals := 0 } : Room).slots) := by
  rcases hL with ⟨u0, rfl, rfl⟩ | ⟨u0, u1, rfl, rfl⟩ | ⟨u0, u1, u2, rfl, rfl⟩ | ⟨u0, u1, u2, u3, rfl, rfl⟩
  · exact rm17_1 l Z a0 hw ws ab ka tb kb u0 h0 n0 Z0 V_ab V_tb ne_ab_tb g_tb
  · exact rm17_2 l Z a0 hw ws ab ka tb kb u0 u1 h0 n0 Z0 V_ab V_tb ne_ab_tb g_tb
  · exact rm17_3 l Z a0 hw ws ab ka tb kb u0 u1 u2 h0 n0 Z0 V_ab V_tb ne_ab_tb g_tb
  · exact rm17_4 l Z a0 hw ws ab ka tb kb u0 u1 u2 u3 h0 n0 Z0 V_ab V_tb ne_ab_tb g_tb
def Q_rm16 (Z : State) (cs : List UInt16) (nn : Int32) (h0 : Heap) (n0 : Nat) (v : Option Value) (h : Heap) (L : List Loc) : Prop := ∃ tb kb cd zz vs, v = some (.ref tb) ∧ Fr n0 L ∧ Keep h0 h [] ∧ h0.size ≤ tb ∧ own_E cs nn cd zz vs ∧ Arv Z h tb kb .byte zz vs (.int (0 : Int32))
theorem d16_0 : decode jdk_52_method_16_code 0 = .ok (.iload_n 2, 1) := by decide +kernel
theorem d16_1 : decode jdk_52_method_16_code 1 = .ok (.newarray .byte, 2) := by decide +kernel
theorem d16_3 : decode jdk_52_method_16_code 3 = .ok (.astore_n 3, 1) := by decide +kernel
theorem d16_4 : decode jdk_52_method_16_code 4 = .ok (.aload_n 0, 1) := by decide +kernel
theorem d16_5 : decode jdk_52_method_16_code 5 = .ok (.iload_n 1, 1) := by decide +kernel
theorem d16_6 : decode jdk_52_method_16_code 6 = .ok (.aload_n 3, 1) := by decide +kernel
theorem d16_7 : decode jdk_52_method_16_code 7 = .ok (.iconst 0, 1) := by decide +kernel
theorem d16_8 : decode jdk_52_method_16_code 8 = .ok (.iload_n 2, 1) := by decide +kernel
theorem d16_9 : decode jdk_52_method_16_code 9 = .ok (.invokestatic 115, 3) := by decide +kernel
theorem d16_12 : decode jdk_52_method_16_code 12 = .ok (.istore 4, 2) := by decide +kernel
theorem d16_14 : decode jdk_52_method_16_code 14 = .ok (.iload 4, 2) := by decide +kernel
theorem d16_16 : decode jdk_52_method_16_code 16 = .ok (.iload_n 2, 1) := by decide +kernel
theorem d16_17 : decode jdk_52_method_16_code 17 = .ok (.if_icmp .eq 40, 3) := by decide +kernel
theorem d16_20 : decode jdk_52_method_16_code 20 = .ok (.aload_n 0, 1) := by decide +kernel
theorem d16_21 : decode jdk_52_method_16_code 21 = .ok (.iload_n 1, 1) := by decide +kernel
theorem d16_22 : decode jdk_52_method_16_code 22 = .ok (.iload_n 2, 1) := by decide +kernel
theorem d16_23 : decode jdk_52_method_16_code 23 = .ok (.invokestatic 119, 3) := by decide +kernel
theorem d16_26 : decode jdk_52_method_16_code 26 = .ok (.astore 5, 2) := by decide +kernel
theorem d16_28 : decode jdk_52_method_16_code 28 = .ok (.aload 5, 2) := by decide +kernel
theorem d16_30 : decode jdk_52_method_16_code 30 = .ok (.iload 4, 2) := by decide +kernel
theorem d16_32 : decode jdk_52_method_16_code 32 = .ok (.invokestatic 71, 3) := by decide +kernel
theorem d16_35 : decode jdk_52_method_16_code 35 = .ok (.sipush 255, 3) := by decide +kernel
theorem d16_38 : decode jdk_52_method_16_code 38 = .ok (.if_icmp .gt 16, 3) := by decide +kernel
theorem d16_41 : decode jdk_52_method_16_code 41 = .ok (.aload 5, 2) := by decide +kernel
theorem d16_43 : decode jdk_52_method_16_code 43 = .ok (.iconst 0, 1) := by decide +kernel
theorem d16_44 : decode jdk_52_method_16_code 44 = .ok (.aload_n 3, 1) := by decide +kernel
theorem d16_45 : decode jdk_52_method_16_code 45 = .ok (.iconst 0, 1) := by decide +kernel
theorem d16_46 : decode jdk_52_method_16_code 46 = .ok (.iload_n 2, 1) := by decide +kernel
theorem d16_47 : decode jdk_52_method_16_code 47 = .ok (.invokestatic 123, 3) := by decide +kernel
theorem d16_50 : decode jdk_52_method_16_code 50 = .ok (.iload_n 2, 1) := by decide +kernel
theorem d16_51 : decode jdk_52_method_16_code 51 = .ok (.if_icmp .eq 6, 3) := by decide +kernel
theorem d16_54 : decode jdk_52_method_16_code 54 = .ok (.aload 5, 2) := by decide +kernel
theorem d16_56 : decode jdk_52_method_16_code 56 = .ok (.areturn, 1) := by decide +kernel
theorem d16_57 : decode jdk_52_method_16_code 57 = .ok (.aload_n 3, 1) := by decide +kernel
theorem d16_58 : decode jdk_52_method_16_code 58 = .ok (.areturn, 1) := by decide +kernel
theorem ef_rm16 (m : MethodId) (x0 : Addr) (x1 : Int32) (x2 : Int32) : entryFrame m #[(.ref x0), (.int x1), (.int x2)] 6 = mkF m 0 #[.val (.ref x0), .val (.int x1), .val (.int x2), .unset, .unset, .unset] [] := by first | (simp [entryFrame, mkF, argsToLocals, Value.category, maxLocals]; done) | rfl
set_option maxRecDepth 65536 in
set_option maxHeartbeats 40000000 in
theorem rm16 (l : Launch) (Z : State) (a0 : Array Value) (hw : ∀ d ∈ tables_1, d.before a0 Z = true) (ws : List Jvm.Cond) (ab : Addr) (ka : ClassId) (cs : List UInt16) (nn : Int32) (h0 : Heap) (n0 : Nat) (Z0 : n0 ≤ h0.size) (V_ab : Arv Z h0 ab ka .char nn (own_ch cs) (.int (0 : Int32))) (hL : own_L cs nn) (hSt : own_S Z) (O : Old Z n0 h0) :
    MetFree l (⟨"java/lang/StringUTF16", "compress", "([CII)[B"⟩ : MethodName) (head1 (Jvm.Cond.code (⟨"java/lang/StringUTF16", "compress", "([CII)[B"⟩ : MethodName) jdk_52_method_16_code 6 (some (.array .byte)) :: ws) ({ frames := 3, cells := 2, slots := 12, locals := 40 } : Room)) (fun a U => a = #[(.ref ab), (.int (0 : Int32)), (.int nn)] ∧ Z.Warmed39 U.vm ∧ U.heap = h0) (fun _ _ _ _ _ => True) (fun _ U o U' => ∃ v L, o = .returned v ∧ Q_rm16 Z cs nn h0 n0 v U'.heap L ∧ FrameEnd U o U' L ({ frames := 3, cells := 2, slots := 12, locals := 40 } : Room).cells ({ frames := 3, cells := 2, slots := 12, locals := 40 } : Room).slots) := by
  refine MetFree.of_bodySF (plainFor_of_name pn_16) hisR ?_
  intro p e s m args below meth c s₁ Bd hml0 hP hK
  obtain ⟨rfl, hZ, hh⟩ := hP
  have hx := Bd.exec
  have hby := Bd.bytes
  have hml : c.maxLocals = 6 := hml0
  have hown : s.vm.findClass "java/lang/StringUTF16" = some m.cls := findClass_of_methodNamed Bd.named
  have hnm := (name_of_methodNamed Bd.named Bd.method).1
  have X0 : Stand p l e ({ frames := 3, cells := 2, slots := 12, locals := 40 } : Room) s m #[(.ref ab), (.int (0 : Int32)), (.int nn)] below meth c s₁ [] 0 0 := Stand.of_body Bd
  have e0 : s₁.heap = h0 := by rw [← hh, Bd.state]; rfl
  have N0 := Fr.nil n0
  have K : Keep h0 h0 [] := Keep.refl h0 []
  obtain ⟨G1, G3, O2, P5, O4, rG3, SA, SB, SC⟩ := id hSt
  show own_Gd p.tables e below (own_P (Q_rm16 Z cs nn h0 n0) s ({ frames := 3, cells := 2, slots := 12, locals := 40 } : Room).cells ({ frames := 3, cells := 2, slots := 12, locals := 40 } : Room).slots) _
  refine own_go (B := s₁.setTop (mkF m 0 #[.val (.ref ab), .val (.int (0 : Int32)), .val (.int nn), .unset, .unset, .unset] [])) (fun t k => castTop (ef_rm16 m ab (0 : Int32) nn) k) ?_
  refine own_go (B := s₁.setTop (mkF m 1 #[.val (.ref ab), .val (.int (0 : Int32)), .val (.int nn), .unset, .unset, .unset] [(.int nn)])) (fun t k => ?_) ?_
  · show Steps p.tables e below (s₁.setTop (mkF m 0 #[.val (.ref ab), .val (.int (0 : Int32)), .val (.int nn), .unset, .unset, .unset] [])) _
    refine XS.iloadN X0.here hx rfl (hb hby d16_0) rfl ?_
    exact k
  obtain ⟨T1, h1, k1, X1, e1, E1, A1, st1⟩ := newP X0 hx hZ (hw _ (List.mem_of_getElem? (i := 16) rfl)) e0 (g := (mkF m 1 #[.val (.ref ab), .val (.int (0 : Int32)), .val (.int nn), .unset, .unset, .unset] [(.int nn)])) rfl (hb hby d16_1) rfl (own_Lnn hL) (cap := 4) (own_L4 hL) (by decide) (by decide) (by decide)
  obtain ⟨b1, g1⟩ : ∃ z, z = h0.size := ⟨_, rfl⟩
  rw [← g1] at A1 st1
  have ne_ab_b1 : ab ≠ b1 := Nat.ne_of_lt (Nat.lt_of_lt_of_le V_ab.lt (Nat.le_of_eq g1.symm))
  have g_b1 : n0 ≤ b1 := Nat.le_trans Z0 (Nat.le_of_eq g1.symm)
  have sz_b1 : h0.size ≤ b1 := Nat.le_trans K.1 (Nat.le_of_eq g1.symm)
  have V_ab := V_ab.ext E1
  have K := K.ext E1
  have Z0 := Nat.le_trans Z0 E1.1
  have O := O.ext E1
  have V_b1 : Arv Z h1 b1 k1 .byte nn [] (.int (0 : Int32)) := Arv.new A1 (own_Lnn hL)
  refine own_go (B := T1.setTop (mkF m 3 #[.val (.ref ab), .val (.int (0 : Int32)), .val (.int nn), .unset, .unset, .unset] [(.ref b1)])) st1 ?_
  refine own_go (B := T1.setTop (mkF m 9 #[.val (.ref ab), .val (.int (0 : Int32)), .val (.int nn), .val (.ref b1), .unset, .unset] [(.int nn), (.int (0 : Int32)), (.ref b1), (.int (0 : Int32)), (.ref ab)])) (fun t k => ?_) ?_
  · show Steps p.tables e below (T1.setTop (mkF m 3 #[.val (.ref ab), .val (.int (0 : Int32)), .val (.int nn), .unset, .unset, .unset] [(.ref b1)])) _
    refine XS.astoreN X1.here hx rfl (hb hby d16_3) rfl rfl (l' := #[.val (.ref ab), .val (.int (0 : Int32)), .val (.int nn), .val (.ref b1), .unset, .unset]) rfl ?_
    refine XS.aloadN X1.here hx rfl (hb hby d16_4) rfl rfl ?_
    refine XS.iloadN X1.here hx rfl (hb hby d16_5) rfl ?_
    refine XS.aloadN X1.here hx rfl (hb hby d16_6) rfl rfl ?_
    refine XS.iconst X1.here hx rfl (hb hby d16_7) ?_
    show Steps p.tables e below (T1.setTop (mkF m 8 #[.val (.ref ab), .val (.int (0 : Int32)), .val (.int nn), .val (.ref b1), .unset, .unset] [(.int (0 : Int32)), (.ref b1), (.int (0 : Int32)), (.ref ab)])) _
    refine XS.iloadN X1.here hx rfl (hb hby d16_8) rfl ?_
    exact k
  obtain ⟨_, _, ⟨T2, L2, k2, n2⟩, -, X2, ⟨Lc2, hQ2, l2, y2, z2⟩, st2⟩ := Jvm.LawKit.callS X1 hx (y := (⟨"java/lang/StringUTF16", "compress", "([CI[BII)I"⟩ : MethodName)) hown (mvT hZ (hw _ (List.mem_of_getElem? (i := 82) rfl))) (mvT hZ (hw _ (List.mem_of_getElem? (i := 83) rfl))) (mvT hZ (hw _ (List.mem_of_getElem? (i := 80) rfl))) (mvT hZ (hw _ (List.mem_of_getElem? (i := 84) rfl))) (by decide) (backOf (W := 0) (rm17 l Z a0 hw [] ab ka b1 k1 cs nn h1 n0 Z0 V_ab V_b1 ne_ab_b1 g_b1 hL) hZ (hw _ (List.mem_of_getElem? (i := 84) rfl)) (hw _ (List.mem_of_getElem? (i := 80) rfl)) (by decide) (by decide)) (g := (mkF m 9 #[.val (.ref ab), .val (.int (0 : Int32)), .val (.int nn), .val (.ref b1), .unset, .unset] [(.int nn), (.int (0 : Int32)), (.ref b1), (.int (0 : Int32)), (.ref ab)])) rfl (by rw [hml]; rfl) (argsL := [(.ref ab), (.int (0 : Int32)), (.ref b1), (.int (0 : Int32)), (.int nn)]) (rest := []) (lenOf pd_6 rfl) rfl (by show 2 * 0 + _ ≤ _; exact Nat.le_of_eq rfl) (hb hby d16_9) (fun _ _ => ⟨rfl, e1, Nat.le_of_ble_eq_true rfl, Nat.le_of_ble_eq_true rfl⟩)
  dsimp only [Pt.U, Pt.locs, Pt.cells, Pt.slots] at X2 l2 y2 z2 st2 hQ2
  subst l2 y2 z2
  obtain ⟨h2, e2⟩ : ∃ z, T2.heap = z := ⟨_, rfl⟩
  rw [e2] at hQ2
  obtain ⟨r2, rfl, N2q, Kc2, hd2⟩ := hQ2
  have N2 := Fr.app N0 N2q
  have V_ab := V_ab.keep Kc2 (ninS ne_ab_b1 nin0)
  have K := K.trans Kc2 (allS (Or.inr sz_b1) all0)
  have Z0 := Nat.le_trans Z0 Kc2.1
  have O := O.keep Kc2 (allS g_b1 all0)
  refine own_go (B := T2.setTop (mkF m 12 #[.val (.ref ab), .val (.int (0 : Int32)), .val (.int nn), .val (.ref b1), .unset, .unset] [(.int r2)])) st2 ?_
  refine own_go (B := T2.setTop (mkF m 17 #[.val (.ref ab), .val (.int (0 : Int32)), .val (.int nn), .val (.ref b1), .val (.int r2), .unset] [(.int nn), (.int r2)])) (fun t k => ?_) ?_
  · show Steps p.tables e below (T2.setTop (mkF m 12 #[.val (.ref ab), .val (.int (0 : Int32)), .val (.int nn), .val (.ref b1), .unset, .unset] [(.int r2)])) _
    refine XS.istore X2.here hx rfl (hb hby d16_12) rfl (l' := #[.val (.ref ab), .val (.int (0 : Int32)), .val (.int nn), .val (.ref b1), .val (.int r2), .unset]) rfl ?_
    refine XS.iload X2.here hx rfl (hb hby d16_14) rfl ?_
    refine XS.iloadN X2.here hx rfl (hb hby d16_16) rfl ?_
    exact k
  by_cases hc17 : r2 = nn
  · refine own_go (B := T2.setTop (mkF m 58 #[.val (.ref ab), .val (.int (0 : Int32)), .val (.int nn), .val (.ref b1), .val (.int r2), .unset] [(.ref b1)])) (fun t k => ?_) ?_
    · show Steps p.tables e below (T2.setTop (mkF m 17 #[.val (.ref ab), .val (.int (0 : Int32)), .val (.int nn), .val (.ref b1), .val (.int r2), .unset] [(.int nn), (.int r2)])) _
      refine XS.icmpYes X2.here hx rfl (pc0 := 17) (pc' := 57) rfl (hb hby d16_17) rfl (teq hc17).1 (by decide) (by decide) ?_
      refine XS.aloadN X2.here hx rfl (hb hby d16_57) rfl rfl ?_
      exact k
    obtain ⟨fs, hr, hrun, hended, hW, hsame⟩ := X2.leave (v := some (.ref b1)) (fun h => by rw [Bd.returns] at h; cases h)
    refine own_done (retOut X2 hx Bd.returns rfl (Or.inr (Or.inr (Or.inr (Or.inr ⟨rfl, rfl, rfl⟩)))) (hb hby d16_58) hr) hrun hended ⟨_, _, rfl, ?_, ⟨_, rfl⟩, hW, hsame.mono (by decide) (by decide)⟩
    show Q_rm16 Z cs nn h0 n0 (some (.ref b1)) T2.heap _
    rw [e2]
    rcases hd2 with ⟨-, q1, q2⟩ | ⟨q1, -⟩
    · exact ⟨b1, k1, (0 : Int32), nn, own_lat cs, rfl, N2, K, sz_b1, Or.inl ⟨q1, rfl, rfl, rfl, Or.inr hL⟩, q2⟩
    · exact absurd hc17 q1
  · refine own_go (B := T2.setTop (mkF m 20 #[.val (.ref ab), .val (.int (0 : Int32)), .val (.int nn), .val (.ref b1), .val (.int r2), .unset] [])) (fun t k => ?_) ?_
    · show Steps p.tables e below (T2.setTop (mkF m 17 #[.val (.ref ab), .val (.int (0 : Int32)), .val (.int nn), .val (.ref b1), .val (.int r2), .unset] [(.int nn), (.int r2)])) _
      refine XS.icmpNo X2.here hx rfl (hb hby d16_17) rfl (feq hc17).1 ?_
      exact k
    obtain ⟨-, u, hu, hu255, hG⟩ := hd2.resolve_left (fun q => hc17 q.1)
    refine own_go (B := T2.setTop (mkF m 23 #[.val (.ref ab), .val (.int (0 : Int32)), .val (.int nn), .val (.ref b1), .val (.int r2), .unset] [(.int nn), (.int (0 : Int32)), (.ref ab)])) (fun t k => ?_) ?_
    · show Steps p.tables e below (T2.setTop (mkF m 20 #[.val (.ref ab), .val (.int (0 : Int32)), .val (.int nn), .val (.ref b1), .val (.int r2), .unset] [])) _
      refine XS.aloadN X2.here hx rfl (hb hby d16_20) rfl rfl ?_
      refine XS.iloadN X2.here hx rfl (hb hby d16_21) rfl ?_
      refine XS.iloadN X2.here hx rfl (hb hby d16_22) rfl ?_
      exact k
    obtain ⟨_, _, ⟨T3, L3, k3, n3⟩, -, X3, ⟨Lc3, hQ3, l3, y3, z3⟩, st3⟩ := Jvm.LawKit.callS X2 hx (y := (⟨"java/lang/StringUTF16", "toBytes", "([CII)[B"⟩ : MethodName)) hown (mvT hZ (hw _ (List.mem_of_getElem? (i := 91) rfl))) (mvT hZ (hw _ (List.mem_of_getElem? (i := 92) rfl))) (mvT hZ (hw _ (List.mem_of_getElem? (i := 80) rfl))) (mvT hZ (hw _ (List.mem_of_getElem? (i := 93) rfl))) (by decide) (backOf (W := 0) (rm20 l Z a0 hw [] ab ka cs nn h2 n0 Z0 V_ab hL hSt O) hZ (hw _ (List.mem_of_getElem? (i := 93) rfl)) (hw _ (List.mem_of_getElem? (i := 80) rfl)) (by decide) (by decide)) (g := (mkF m 23 #[.val (.ref ab), .val (.int (0 : Int32)), .val (.int nn), .val (.ref b1), .val (.int r2), .unset] [(.int nn), (.int (0 : Int32)), (.ref ab)])) rfl (by rw [hml]; rfl) (argsL := [(.ref ab), (.int (0 : Int32)), (.int nn)]) (rest := []) (lenOf pd_7 rfl) rfl (by show 2 * 0 + _ ≤ _; exact Nat.le_of_eq rfl) (hb hby d16_23) (fun _ _ => ⟨rfl, e2, Nat.le_of_ble_eq_true rfl, Nat.le_of_ble_eq_true rfl⟩)
    dsimp only [Pt.U, Pt.locs, Pt.cells, Pt.slots] at X3 l3 y3 z3 st3 hQ3
    subst l3 y3 z3
    obtain ⟨h3, e3⟩ : ∃ z, T3.heap = z := ⟨_, rfl⟩
    rw [e3] at hQ3
    obtain ⟨tb3, kb3, rfl, N3q, Kc3, hsz3, Vc3⟩ := hQ3
    have N3 := Fr.app N2 N3q
    have ne_ab_tb3 : ab ≠ tb3 := Nat.ne_of_lt (Nat.lt_of_lt_of_le V_ab.lt hsz3)
    have g_tb3 : n0 ≤ tb3 := Nat.le_trans Z0 hsz3
    have sz_tb3 : h0.size ≤ tb3 := Nat.le_trans K.1 hsz3
    have V_ab := V_ab.keep Kc3 nin0
    have K := K.trans Kc3 all0
    have Z0 := Nat.le_trans Z0 Kc3.1
    have O := O.keep Kc3 all0
    have V_tb3 := Vc3
    refine own_go (B := T3.setTop (mkF m 26 #[.val (.ref ab), .val (.int (0 : Int32)), .val (.int nn), .val (.ref b1), .val (.int r2), .unset] [(.ref tb3)])) st3 ?_
    refine own_go (B := T3.setTop (mkF m 32 #[.val (.ref ab), .val (.int (0 : Int32)), .val (.int nn), .val (.ref b1), .val (.int r2), .val (.ref tb3)] [(.int r2), (.ref tb3)])) (fun t k => ?_) ?_
    · show Steps p.tables e below (T3.setTop (mkF m 26 #[.val (.ref ab), .val (.int (0 : Int32)), .val (.int nn), .val (.ref b1), .val (.int r2), .unset] [(.ref tb3)])) _
      refine XS.astore X3.here hx rfl (hb hby d16_26) rfl rfl (l' := #[.val (.ref ab), .val (.int (0 : Int32)), .val (.int nn), .val (.ref b1), .val (.int r2), .val (.ref tb3)]) rfl ?_
      refine XS.aload X3.here hx rfl (hb hby d16_28) rfl rfl ?_
      refine XS.iload X3.here hx rfl (hb hby d16_30) rfl ?_
      exact k
    obtain ⟨_, _, ⟨T4, L4, k4, n4⟩, -, X4, ⟨Lc4, hQ4, l4, y4, z4⟩, st4⟩ := Jvm.LawKit.callS X3 hx (y := (⟨"java/lang/StringUTF16", "getChar", "([BI)C"⟩ : MethodName)) hown (mvT hZ (hw _ (List.mem_of_getElem? (i := 107) rfl))) (mvT hZ (hw _ (List.mem_of_getElem? (i := 108) rfl))) (mvT hZ (hw _ (List.mem_of_getElem? (i := 80) rfl))) (mvT hZ (hw _ (List.mem_of_getElem? (i := 109) rfl))) (by decide) (backOf (W := 0) (rm24 l Z a0 hw [] tb3 kb3 (nn <<< ((1 : Int32) &&& 31)) (own_wide cs) r2 u h3 n0 Z0 V_tb3 hG hSt O) hZ (hw _ (List.mem_of_getElem? (i := 109) rfl)) (hw _ (List.mem_of_getElem? (i := 80) rfl)) (by decide) (by decide)) (g := (mkF m 32 #[.val (.ref ab), .val (.int (0 : Int32)), .val (.int nn), .val (.ref b1), .val (.int r2), .val (.ref tb3)] [(.int r2), (.ref tb3)])) rfl (by rw [hml]; rfl) (argsL := [(.ref tb3), (.int r2)]) (rest := []) (lenOf pd_8 rfl) rfl (by show 2 * 0 + _ ≤ _; exact Nat.le_of_eq rfl) (hb hby d16_32) (fun _ _ => ⟨rfl, e3, Nat.le_of_ble_eq_true rfl, Nat.le_of_ble_eq_true rfl⟩)
    dsimp only [Pt.U, Pt.locs, Pt.cells, Pt.slots] at X4 l4 y4 z4 st4 hQ4
    subst l4 y4 z4
    obtain ⟨h4, e4⟩ : ∃ z, T4.heap = z := ⟨_, rfl⟩
    rw [e4] at hQ4
    obtain ⟨rfl, hL4, eq4⟩ := hQ4
    subst hL4
    have N4 := Fr.app N3 (Fr.nil n0)
    rw [eq4] at e4
    refine own_go (B := T4.setTop (mkF m 35 #[.val (.ref ab), .val (.int (0 : Int32)), .val (.int nn), .val (.ref b1), .val (.int r2), .val (.ref tb3)] [(.int (own_w u))])) st4 ?_
    refine own_go (B := T4.setTop (mkF m 56 #[.val (.ref ab), .val (.int (0 : Int32)), .val (.int nn), .val (.ref b1), .val (.int r2), .val (.ref tb3)] [(.ref tb3)])) (fun t k => ?_) ?_
    · show Steps p.tables e below (T4.setTop (mkF m 35 #[.val (.ref ab), .val (.int (0 : Int32)), .val (.int nn), .val (.ref b1), .val (.int r2), .val (.ref tb3)] [(.int (own_w u))])) _
      refine XS.sipush X4.here hx rfl (hb hby d16_35) ?_
      refine XS.icmpYes X4.here hx rfl (pc0 := 38) (pc' := 54) rfl (hb hby d16_38) rfl (tlt (hu255 : (255 : Int32) < (own_w u))).2.2.1 (by decide) (by decide) ?_
      refine XS.aload X4.here hx rfl (hb hby d16_54) rfl rfl ?_
      exact k
    obtain ⟨fs, hr, hrun, hended, hW, hsame⟩ := X4.leave (v := some (.ref tb3)) (fun h => by rw [Bd.returns] at h; cases h)
    refine own_done (retOut X4 hx Bd.returns rfl (Or.inr (Or.inr (Or.inr (Or.inr ⟨rfl, rfl, rfl⟩)))) (hb hby d16_56) hr) hrun hended ⟨_, _, rfl, ?_, ⟨_, rfl⟩, hW, hsame.mono (by decide) (by decide)⟩
    show Q_rm16 Z cs nn h0 n0 (some (.ref tb3)) T4.heap _
    rw [e4]
    exact ⟨tb3, kb3, (1 : Int32), (nn <<< ((1 : Int32) &&& 31)), own_wide cs, rfl, N4, K, sz_tb3, Or.inr ⟨⟨u, hu, hu255⟩, rfl, rfl, rfl, hL⟩, V_tb3⟩
def Q_rm2 (Z : State) (cs : List UInt16) (nn : Int32) (a1 : Addr) (h0 : Heap) (n0 : Nat) (v : Option Value) (h : Heap) (L : List Loc) : Prop := v = none ∧ Fr n0 L ∧ Keep h0 h [a1] ∧ Exa Z h a1 "java/lang/String" ∧ ∃ tb kb cd zz vs, own_E cs nn cd zz vs ∧ Fld Z h a1 "java/lang/String" "coder" "B" (.int cd) ∧ Fld Z h a1 "java/lang/String" "value" "[B" (.ref tb) ∧ Arv Z h tb kb .byte zz vs (.int (0 : Int32))
theorem d2_0 : decode jdk_42_method_149_code 0 = .ok (.aload_n 0, 1) := by decide +kernel
theorem d2_1 : decode jdk_42_method_149_code 1 = .ok (.invokespecial 1, 3) := by decide +kernel
theorem d2_4 : decode jdk_42_method_149_code 4 = .ok (.iload_n 3, 1) := by decide +kernel
theorem d2_5 : decode jdk_42_method_149_code 5 = .ok (.ifCond .ne 22, 3) := by decide +kernel
theorem d2_8 : decode jdk_42_method_149_code 8 = .ok (.aload_n 0, 1) := by decide +kernel
theorem d2_9 : decode jdk_42_method_149_code 9 = .ok (.ldc 7, 2) := by decide +kernel
theorem d2_11 : decode jdk_42_method_149_code 11 = .ok (.getfield 9, 3) := by decide +kernel
theorem d2_14 : decode jdk_42_method_149_code 14 = .ok (.putfield 9, 3) := by decide +kernel
theorem d2_17 : decode jdk_42_method_149_code 17 = .ok (.aload_n 0, 1) := by decide +kernel
theorem d2_18 : decode jdk_42_method_149_code 18 = .ok (.ldc 7, 2) := by decide +kernel
theorem d2_20 : decode jdk_42_method_149_code 20 = .ok (.getfield 15, 3) := by decide +kernel
theorem d2_23 : decode jdk_42_method_149_code 23 = .ok (.putfield 15, 3) := by decide +kernel
theorem d2_26 : decode jdk_42_method_149_code 26 = .ok (.return_, 1) := by decide +kernel
theorem d2_27 : decode jdk_42_method_149_code 27 = .ok (.getstatic 38, 3) := by decide +kernel
theorem d2_30 : decode jdk_42_method_149_code 30 = .ok (.ifCond .eq 28, 3) := by decide +kernel
theorem d2_33 : decode jdk_42_method_149_code 33 = .ok (.aload_n 1, 1) := by decide +kernel
theorem d2_34 : decode jdk_42_method_149_code 34 = .ok (.iload_n 2, 1) := by decide +kernel
theorem d2_35 : decode jdk_42_method_149_code 35 = .ok (.iload_n 3, 1) := by decide +kernel
theorem d2_36 : decode jdk_42_method_149_code 36 = .ok (.invokestatic 177, 3) := by decide +kernel
theorem d2_39 : decode jdk_42_method_149_code 39 = .ok (.astore 5, 2) := by decide +kernel
theorem d2_41 : decode jdk_42_method_149_code 41 = .ok (.aload_n 0, 1) := by decide +kernel
theorem d2_42 : decode jdk_42_method_149_code 42 = .ok (.aload 5, 2) := by decide +kernel
theorem d2_44 : decode jdk_42_method_149_code 44 = .ok (.iload_n 3, 1) := by decide +kernel
theorem d2_45 : decode jdk_42_method_149_code 45 = .ok (.invokestatic 47, 3) := by decide +kernel
theorem d2_48 : decode jdk_42_method_149_code 48 = .ok (.putfield 15, 3) := by decide +kernel
theorem d2_51 : decode jdk_42_method_149_code 51 = .ok (.aload_n 0, 1) := by decide +kernel
theorem d2_52 : decode jdk_42_method_149_code 52 = .ok (.aload 5, 2) := by decide +kernel
theorem d2_54 : decode jdk_42_method_149_code 54 = .ok (.putfield 9, 3) := by decide +kernel
theorem d2_57 : decode jdk_42_method_149_code 57 = .ok (.return_, 1) := by decide +kernel
theorem d2_58 : decode jdk_42_method_149_code 58 = .ok (.aload_n 0, 1) := by decide +kernel
theorem d2_59 : decode jdk_42_method_149_code 59 = .ok (.iconst 1, 1) := by decide +kernel
theorem d2_60 : decode jdk_42_method_149_code 60 = .ok (.putfield 15, 3) := by decide +kernel
theorem d2_63 : decode jdk_42_method_149_code 63 = .ok (.aload_n 0, 1) := by decide +kernel
theorem d2_64 : decode jdk_42_method_149_code 64 = .ok (.aload_n 1, 1) := by decide +kernel
theorem d2_65 : decode jdk_42_method_149_code 65 = .ok (.iload_n 2, 1) := by decide +kernel
theorem d2_66 : decode jdk_42_method_149_code 66 = .ok (.iload_n 3, 1) := by decide +kernel
theorem d2_67 : decode jdk_42_method_149_code 67 = .ok (.invokestatic 180, 3) := by decide +kernel
theorem d2_70 : decode jdk_42_method_149_code 70 = .ok (.putfield 9, 3) := by decide +kernel
theorem d2_73 : decode jdk_42_method_149_code 73 = .ok (.return_, 1) := by decide +kernel
theorem ef_rm2n (m : MethodId) (x0 : Addr) (x1 : Addr) (x2 : Int32) (x3 : Int32) : entryFrame m #[(.ref x0), (.ref x1), (.int x2), (.int x3), .null] 6 = mkF m 0 #[.val (.ref x0), .val (.ref x1), .val (.int x2), .val (.int x3), .val .null, .unset] [] := by first | (simp [entryFrame, mkF, argsToLocals, Value.category, maxLocals]; done) | rfl
set_option maxRecDepth 65536 in
set_option maxHeartbeats 40000000 in
theorem rm2n (l : Launch) (Z : State) (a0 : Array Value) (hw : ∀ d ∈ tables_1, d.before a0 Z = true) (ws : List Jvm.Cond) (a1 ab : Addr) (ka : ClassId) (cs : List UInt16) (nn : Int32) (h0 : Heap) (n0 : Nat) (Z0 : n0 ≤ h0.size) (E_a1 : Exa Z h0 a1 "java/lang/String") (F_value_a1 : Fld Z h0 a1 "java/lang/String" "value" "[B" .null) (F_coder_a1 : Fld Z h0 a1 "java/lang/String" "coder" "B" (.int (0 : Int32))) (V_ab : Arv Z h0 ab ka .char nn (own_ch cs) (.int (0 : Int32))) (g_a1 : n0 ≤ a1) (hL : own_L cs nn) (hSt : own_S Z) (O : Old Z n0 h0) :
    MetFree l (⟨"java/lang/String", "<init>", "([CIILjava/lang/Void;)V"⟩ : MethodName) (head1 (Jvm.Cond.code (⟨"java/lang/String", "<init>", "([CIILjava/lang/Void;)V"⟩ : MethodName) jdk_42_method_149_code 6 none :: ws) ({ frames := 4, cells := 2, slots := 12, locals := 57 } : Room)) (fun a U => a = #[(.ref a1), (.ref ab), (.int (0 : Int32)), (.int nn), .null] ∧ Z.Warmed39 U.vm ∧ U.heap = h0) (fun _ _ _ _ _ => True) (fun _ U o U' => ∃ v L, o = .returned v ∧ Q_rm2 Z cs nn a1 h0 n0 v U'.heap L ∧ FrameEnd U o U' L ({ frames := 4, cells := 2, slots := 12, locals := 57 } : Room).cells ({ frames := 4, cells := 2, slots := 12, locals := 57 } : Room).slots) := by
  refine MetFree.of_bodySF (plainFor_of_name pn_2) hisR ?_
  intro p e s m args below meth c s₁ Bd hml0 hP hK
  obtain ⟨rfl, hZ, hh⟩ := hP
  have hx := Bd.exec
  have hby := Bd.bytes
  have hml : c.maxLocals = 6 := hml0
  have hown : s.vm.findClass "java/lang/String" = some m.cls := findClass_of_methodNamed Bd.named
  have hnm := (name_of_methodNamed Bd.named Bd.method).1
  have X0 : Stand p l e ({ frames := 4, cells := 2, slots := 12, locals := 57 } : Room) s m #[(.ref a1), (.ref ab), (.int (0 : Int32)), (.int nn), .null] below meth c s₁ [] 0 0 := Stand.of_body Bd
  have e0 : s₁.heap = h0 := by rw [← hh, Bd.state]; rfl
  have N0 := Fr.nil n0
  have K : Keep h0 h0 [a1] := Keep.refl h0 [a1]
  obtain ⟨G1, G3, O2, P5, O4, rG3, SA, SB, SC⟩ := id hSt
  show own_Gd p.tables e below (own_P (Q_rm2 Z cs nn a1 h0 n0) s ({ frames := 4, cells := 2, slots := 12, locals := 57 } : Room).cells ({ frames := 4, cells := 2, slots := 12, locals := 57 } : Room).slots) _
  refine own_go (B := s₁.setTop (mkF m 0 #[.val (.ref a1), .val (.ref ab), .val (.int (0 : Int32)), .val (.int nn), .val .null, .unset] [])) (fun t k => castTop (ef_rm2n m a1 ab (0 : Int32) nn) k) ?_
  refine own_go (B := s₁.setTop (mkF m 1 #[.val (.ref a1), .val (.ref ab), .val (.int (0 : Int32)), .val (.int nn), .val .null, .unset] [(.ref a1)])) (fun t k => ?_) ?_
  · show Steps p.tables e below (s₁.setTop (mkF m 0 #[.val (.ref a1), .val (.ref ab), .val (.int (0 : Int32)), .val (.int nn), .val .null, .unset] [])) _
    refine XS.aloadN X0.here hx rfl (hb hby d2_0) rfl rfl ?_
    exact k
  obtain ⟨T1, X1, e1, st1⟩ := initO X0 hx hZ hown (hw _ (List.mem_of_getElem? (i := 12) rfl)) (hw _ (List.mem_of_getElem? (i := 13) rfl)) (hw _ (List.mem_of_getElem? (i := 14) rfl)) e0 (g := (mkF m 1 #[.val (.ref a1), .val (.ref ab), .val (.int (0 : Int32)), .val (.int nn), .val .null, .unset] [(.ref a1)])) rfl (by rw [hml]; rfl) rfl (hb hby d2_1) (by decide) (W := 0) (by show 2 * 0 + _ ≤ _; exact Nat.le_of_eq rfl) (by decide)
  refine own_go (B := T1.setTop (mkF m 4 #[.val (.ref a1), .val (.ref ab), .val (.int (0 : Int32)), .val (.int nn), .val .null, .unset] [])) st1 ?_
  refine own_go (B := T1.setTop (mkF m 27 #[.val (.ref a1), .val (.ref ab), .val (.int (0 : Int32)), .val (.int nn), .val .null, .unset] [])) (fun t k => ?_) ?_
  · show Steps p.tables e below (T1.setTop (mkF m 4 #[.val (.ref a1), .val (.ref ab), .val (.int (0 : Int32)), .val (.int nn), .val .null, .unset] [])) _
    refine XS.iloadN X1.here hx rfl (hb hby d2_4) rfl ?_
    refine XS.ifYes X1.here hx rfl (pc0 := 5) (pc' := 27) rfl (hb hby d2_5) rfl ((if0 _ _).trans (feq ((own_Lne hL) : ¬ (nn = (0 : Int32)))).2) (by decide) (by decide) ?_
    exact k
  obtain ⟨T2, X2, e2, st2⟩ := getS2 X1 hx hZ hown (host := "") (Or.inl (hw _ (List.mem_of_getElem? (i := 34) rfl))) Via.refl e1 (O2.ext O.2) (g := (mkF m 27 #[.val (.ref a1), .val (.ref ab), .val (.int (0 : Int32)), .val (.int nn), .val .null, .unset] [])) rfl (hb hby d2_27)
  refine own_go (B := T2.setTop (mkF m 30 #[.val (.ref a1), .val (.ref ab), .val (.int (0 : Int32)), .val (.int nn), .val .null, .unset] [(.int G1)])) st2 ?_
  refine own_go (B := T2.setTop (mkF m 36 #[.val (.ref a1), .val (.ref ab), .val (.int (0 : Int32)), .val (.int nn), .val .null, .unset] [(.int nn), (.int (0 : Int32)), (.ref ab)])) (fun t k => ?_) ?_
  · show Steps p.tables e below (T2.setTop (mkF m 30 #[.val (.ref a1), .val (.ref ab), .val (.int (0 : Int32)), .val (.int nn), .val .null, .unset] [(.int G1)])) _
    refine XS.ifNo X2.here hx rfl (hb hby d2_30) rfl ((if0 _ _).trans (feq (P5 : ¬ (G1 = (0 : Int32)))).1) ?_
    refine XS.aloadN X2.here hx rfl (hb hby d2_33) rfl rfl ?_
    refine XS.iloadN X2.here hx rfl (hb hby d2_34) rfl ?_
    refine XS.iloadN X2.here hx rfl (hb hby d2_35) rfl ?_
    exact k
  obtain ⟨_, _, ⟨T3, L3, k3, n3⟩, -, X3, ⟨Lc3, hQ3, l3, y3, z3⟩, st3⟩ := Jvm.LawKit.callS X2 hx (y := (⟨"java/lang/StringUTF16", "compress", "([CII)[B"⟩ : MethodName)) hown (mvT hZ (hw _ (List.mem_of_getElem? (i := 78) rfl))) (mvT hZ (hw _ (List.mem_of_getElem? (i := 79) rfl))) (mvT hZ (hw _ (List.mem_of_getElem? (i := 80) rfl))) (mvT hZ (hw _ (List.mem_of_getElem? (i := 81) rfl))) (by decide) (backOf (W := 0) (rm16 l Z a0 hw [] ab ka cs nn h0 n0 Z0 V_ab hL hSt O) hZ (hw _ (List.mem_of_getElem? (i := 81) rfl)) (hw _ (List.mem_of_getElem? (i := 80) rfl)) (by decide) (by decide)) (g := (mkF m 36 #[.val (.ref a1), .val (.ref ab), .val (.int (0 : Int32)), .val (.int nn), .val .null, .unset] [(.int nn), (.int (0 : Int32)), (.ref ab)])) rfl (by rw [hml]; rfl) (argsL := [(.ref ab), (.int (0 : Int32)), (.int nn)]) (rest := []) (lenOf pd_7 rfl) rfl (by show 2 * 0 + _ ≤ _; exact Nat.le_of_eq rfl) (hb hby d2_36) (fun _ _ => ⟨rfl, e2, Nat.le_of_ble_eq_true rfl, Nat.le_of_ble_eq_true rfl⟩)
  dsimp only [Pt.U, Pt.locs, Pt.cells, Pt.slots] at X3 l3 y3 z3 st3 hQ3
  subst l3 y3 z3
  obtain ⟨h3, e3⟩ : ∃ z, T3.heap = z := ⟨_, rfl⟩
  rw [e3] at hQ3
  obtain ⟨tb3, kb3, cd3, zz3, vs3, rfl, N3q, Kc3, hsz3, hE3, Vc3⟩ := hQ3
  have N3 := Fr.app N0 N3q
  have ne_a1_tb3 : a1 ≠ tb3 := Nat.ne_of_lt (Nat.lt_of_lt_of_le E_a1.lt hsz3)
  have g_tb3 : n0 ≤ tb3 := Nat.le_trans Z0 hsz3
  have sz_tb3 : h0.size ≤ tb3 := Nat.le_trans K.1 hsz3
  have E_a1 := E_a1.keep Kc3
  have F_value_a1 := F_value_a1.keep Kc3 nin0
  have F_coder_a1 := F_coder_a1.keep Kc3 nin0
  have K := K.trans Kc3 all0
  have Z0 := Nat.le_trans Z0 Kc3.1
  have O := O.keep Kc3 all0
  have V_tb3 := Vc3
  refine own_go (B := T3.setTop (mkF m 39 #[.val (.ref a1), .val (.ref ab), .val (.int (0 : Int32)), .val (.int nn), .val .null, .unset] [(.ref tb3)])) st3 ?_
  refine own_go (B := T3.setTop (mkF m 45 #[.val (.ref a1), .val (.ref ab), .val (.int (0 : Int32)), .val (.int nn), .val .null, .val (.ref tb3)] [(.int nn), (.ref tb3), (.ref a1)])) (fun t k => ?_) ?_
  · show Steps p.tables e below (T3.setTop (mkF m 39 #[.val (.ref a1), .val (.ref ab), .val (.int (0 : Int32)), .val (.int nn), .val .null, .unset] [(.ref tb3)])) _
    refine XS.astore X3.here hx rfl (hb hby d2_39) rfl rfl (l' := #[.val (.ref a1), .val (.ref ab), .val (.int (0 : Int32)), .val (.int nn), .val .null, .val (.ref tb3)]) rfl ?_
    refine XS.aloadN X3.here hx rfl (hb hby d2_41) rfl rfl ?_
    refine XS.aload X3.here hx rfl (hb hby d2_42) rfl rfl ?_
    refine XS.iloadN X3.here hx rfl (hb hby d2_44) rfl ?_
    exact k
  obtain ⟨_, _, ⟨T4, L4, k4, n4⟩, -, X4, ⟨Lc4, hQ4, l4, y4, z4⟩, st4⟩ := Jvm.LawKit.callS X3 hx (y := (⟨"java/lang/StringUTF16", "coderFromArrayLen", "([BI)B"⟩ : MethodName)) hown (mvT hZ (hw _ (List.mem_of_getElem? (i := 85) rfl))) (mvT hZ (hw _ (List.mem_of_getElem? (i := 86) rfl))) (mvT hZ (hw _ (List.mem_of_getElem? (i := 80) rfl))) (mvT hZ (hw _ (List.mem_of_getElem? (i := 87) rfl))) (by decide) (backOf (W := 1) (rm18 l Z a0 hw [] tb3 kb3 zz3 vs3 nn cd3 h3 n0 Z0 V_tb3 (own_Ecf hE3)) hZ (hw _ (List.mem_of_getElem? (i := 87) rfl)) (hw _ (List.mem_of_getElem? (i := 80) rfl)) (by decide) (by decide)) (g := (mkF m 45 #[.val (.ref a1), .val (.ref ab), .val (.int (0 : Int32)), .val (.int nn), .val .null, .val (.ref tb3)] [(.int nn), (.ref tb3), (.ref a1)])) rfl (by rw [hml]; rfl) (argsL := [(.ref tb3), (.int nn)]) (rest := [(.ref a1)]) (lenOf pd_9 rfl) rfl (by show 2 * 0 + _ ≤ _; exact Nat.le_of_eq rfl) (hb hby d2_45) (fun _ _ => ⟨rfl, e3, Nat.le_of_ble_eq_true rfl, Nat.le_of_ble_eq_true rfl⟩)
  dsimp only [Pt.U, Pt.locs, Pt.cells, Pt.slots] at X4 l4 y4 z4 st4 hQ4
  subst l4 y4 z4
  obtain ⟨h4, e4⟩ : ∃ z, T4.heap = z := ⟨_, rfl⟩
  rw [e4] at hQ4
  obtain ⟨rfl, hL4, eq4⟩ := hQ4
  subst hL4
  have N4 := Fr.app N3 (Fr.nil n0)
  rw [eq4] at e4
  refine own_go (B := T4.setTop (mkF m 48 #[.val (.ref a1), .val (.ref ab), .val (.int (0 : Int32)), .val (.int nn), .val .null, .val (.ref tb3)] [(.int cd3), (.ref a1)])) st4 ?_
  obtain ⟨T5, h5, X5, e5, W5, st5⟩ := putFN X4 hx hZ hown (hw _ (List.mem_of_getElem? (i := 22) rfl)) Via.refl e4 F_coder_a1 E_a1 (Or.inr ⟨(hw _ (List.mem_of_getElem? (i := 18) rfl)), rfl, hnm⟩) (hw _ (List.mem_of_getElem? (i := 3) rfl)) (ty := .byte) (v' := .int (nar .byte cd3)) (by decide) rfl (fits_nar_byte _) (g := (mkF m 48 #[.val (.ref a1), .val (.ref ab), .val (.int (0 : Int32)), .val (.int nn), .val .null, .val (.ref tb3)] [(.int cd3), (.ref a1)])) rfl rfl (hb hby d2_48)
  have Fw5 := F_coder_a1.same W5
  have E_a1 := E_a1.wr W5
  have F_value_a1 := F_value_a1.other W5 (Or.inr (slot_ne (Or.inr (hw _ (List.mem_of_getElem? (i := 17) rfl))) (Or.inr (hw _ (List.mem_of_getElem? (i := 18) rfl))) (by decide) (t := (.array .byte)) (t' := .byte) (by decide) (by decide)))
  have V_tb3 := V_tb3.other W5 (Ne.symm ne_a1_tb3)
  have Z0 := Nat.le_trans Z0 (Nat.le_of_eq W5.size.symm)
  have O := O.wr W5 g_a1
  have F_coder_a1 := Fw5
  have K := K.wr W5 (Or.inl (List.mem_of_getElem? (i := 0) rfl))
  have N5 := Fr.snoc X5 N4 g_a1
  refine own_go (B := T5.setTop (mkF m 51 #[.val (.ref a1), .val (.ref ab), .val (.int (0 : Int32)), .val (.int nn), .val .null, .val (.ref tb3)] [])) st5 ?_
  rw [own_Enb hE3] at F_coder_a1
  refine own_go (B := T5.setTop (mkF m 54 #[.val (.ref a1), .val (.ref ab), .val (.int (0 : Int32)), .val (.int nn), .val .null, .val (.ref tb3)] [(.ref tb3), (.ref a1)])) (fun t k => ?_) ?_
  · show Steps p.tables e below (T5.setTop (mkF m 51 #[.val (.ref a1), .val (.ref ab), .val (.int (0 : Int32)), .val (.int nn), .val .null, .val (.ref tb3)] [])) _
    refine XS.aloadN X5.here hx rfl (hb hby d2_51) rfl rfl ?_
    refine XS.aload X5.here hx rfl (hb hby d2_52) rfl rfl ?_
    exact k
  obtain ⟨T6, h6, X6, e6, W6, st6⟩ := putF X5 hx hZ hown (host := "") (Or.inl (hw _ (List.mem_of_getElem? (i := 21) rfl))) Via.refl e5 F_value_a1 E_a1 (Or.inr ⟨(hw _ (List.mem_of_getElem? (i := 17) rfl)), rfl, hnm⟩) (hw _ (List.mem_of_getElem? (i := 3) rfl)) (v := (.ref tb3)) (ty := (.array .byte)) (by decide) rfl rfl (g := (mkF m 54 #[.val (.ref a1), .val (.ref ab), .val (.int (0 : Int32)), .val (.int nn), .val .null, .val (.ref tb3)] [(.ref tb3), (.ref a1)])) rfl rfl (hb hby d2_54)
  have Fw6 := F_value_a1.same W6
  have E_a1 := E_a1.wr W6
  have V_tb3 := V_tb3.other W6 (Ne.symm ne_a1_tb3)
  have F_coder_a1 := F_coder_a1.other W6 (Or.inr (slot_ne (Or.inr (hw _ (List.mem_of_getElem? (i := 18) rfl))) (Or.inr (hw _ (List.mem_of_getElem? (i := 17) rfl))) (by decide) (t := .byte) (t' := (.array .byte)) (by decide) (by decide)))
  have Z0 := Nat.le_trans Z0 (Nat.le_of_eq W6.size.symm)
  have O := O.wr W6 g_a1
  have F_value_a1 := Fw6
  have K := K.wr W6 (Or.inl (List.mem_of_getElem? (i := 0) rfl))
  have N6 := Fr.snoc X6 N5 g_a1
  refine own_go (B := T6.setTop (mkF m 57 #[.val (.ref a1), .val (.ref ab), .val (.int (0 : Int32)), .val (.int nn), .val .null, .val (.ref tb3)] [])) st6 ?_
  obtain ⟨fs, hr, hrun, hended, hW, hsame⟩ := X6.leave (v := none) (fun _ => rfl)
  refine own_done (X6.returnOut hx Bd.returns (hb hby d2_57) hr) hrun hended ⟨_, _, rfl, ?_, ⟨_, rfl⟩, hW, hsame.mono (by decide) (by decide)⟩
  show Q_rm2 Z cs nn a1 h0 n0 (none) T6.heap _
  rw [e6]
  exact ⟨rfl, N6, K, E_a1, tb3, kb3, cd3, zz3, vs3, hE3, F_coder_a1, F_value_a1, V_tb3⟩
theorem ef_rm2z (m : MethodId) (x0 : Addr) (x1 : Addr) (x2 : Int32) (x3 : Int32) : entryFrame m #[(.ref x0), (.ref x1), (.int x2), (.int x3), .null] 6 = mkF m 0 #[.val (.ref x0), .val (.ref x1), .val (.int x2), .val (.int x3), .val .null, .unset] [] := by first | (simp [entryFrame, mkF, argsToLocals, Value.category, maxLocals]; done) | rfl
set_option maxRecDepth 65536 in
set_option maxHeartbeats 40000000 in
theorem rm2z (l : Launch) (Z : State) (a0 : Array Value) (hw : ∀ d ∈ tables_1, d.before a0 Z = true) (ws : List Jvm.Cond) (a1 ab : Addr) (h0 : Heap) (n0 : Nat) (Z0 : n0 ≤ h0.size) (E_a1 : Exa Z h0 a1 "java/lang/String") (F_value_a1 : Fld Z h0 a1 "java/lang/String" "value" "[B" .null) (F_coder_a1 : Fld Z h0 a1 "java/lang/String" "coder" "B" (.int (0 : Int32))) (g_a1 : n0 ≤ a1) (hSt : own_S Z) (O : Old Z n0 h0) (hcw : Jvm.Lit.compactW.before a0 Z = true) (hh7 : Jvm.Lit.constHeld Z "java/lang/String" 7) :
    MetFree l (⟨"java/lang/String", "<init>", "([CIILjava/lang/Void;)V"⟩ : MethodName) (head1 (Jvm.Cond.code (⟨"java/lang/String", "<init>", "([CIILjava/lang/Void;)V"⟩ : MethodName) jdk_42_method_149_code 6 none :: ws) ({ frames := 4, cells := 2, slots := 12, locals := 57 } : Room)) (fun a U => (a = #[(.ref a1), (.ref ab), (.int (0 : Int32)), (.int (0 : Int32)), .null] ∧ Z.Warmed39 U.vm ∧ U.heap = h0) ∧ IB Z U.vm []) (fun _ _ _ _ _ => True) (fun _ U o U' => ∃ v L, o = .returned v ∧ (Q_rm2 Z ([] : List UInt16) (0 : Int32) a1 h0 n0 v U'.heap L ∧ IB Z U'.vm [""]) ∧ ReturnedEndW U o U' L ({ frames := 4, cells := 2, slots := 12, locals := 57 } : Room).cells ({ frames := 4, cells := 2, slots := 12, locals := 57 } : Room).slots) := by
  refine MetFree.of_bodySF (plainFor_of_name pn_2) hisR ?_
  intro p e s m args below meth c s₁ Bd hml0 hP hK
  obtain ⟨⟨rfl, hZ, hh⟩, I⟩ := hP
  have hx := Bd.exec
  have hby := Bd.bytes
  have hml : c.maxLocals = 6 := hml0
  have hown : s.vm.findClass "java/lang/String" = some m.cls := findClass_of_methodNamed Bd.named
  have hnm := (name_of_methodNamed Bd.named Bd.method).1
  have hZ : Z.Warmed39 (s.setVm s.vm).vm := hZ
  have hown : (s.setVm s.vm).vm.findClass "java/lang/String" = some m.cls := hown
  have hS : s.Since s.vm 0 := (State.WarmedH.refl s).since 0
  have hk : 0 ≤ h0.size := Nat.zero_le _
  have X0 : Stand p l e ({ frames := 4, cells := 2, slots := 12, locals := 57 } : Room) (s.setVm s.vm) m #[(.ref a1), (.ref ab), (.int (0 : Int32)), (.int (0 : Int32)), .null] below meth c s₁ [] 0 0 := Stand.of_body Bd
  have e0 : s₁.heap = h0 := by rw [← hh, Bd.state]; rfl
  have N0 := Fr.nil n0
  have K : Keep h0 h0 [a1] := Keep.refl h0 [a1]
  have hkp : ∀ (b : Addr) (cl : Cell), Z.heap[b]? = some cl → s.heap[b]? = some cl := fun b cl q => by rw [hh]; exact O.2.2 b cl q
  have I : IB Z (s.setVm s.vm).vm [] := I
  obtain ⟨G1, G3, O2, P5, O4, rG3, SA, SB, SC⟩ := id hSt
  show own_Gd p.tables e below (own_PI (Q_rm2 Z ([] : List UInt16) (0 : Int32) a1 h0 n0) (fun vm => IB Z vm [""]) s ({ frames := 4, cells := 2, slots := 12, locals := 57 } : Room).cells ({ frames := 4, cells := 2, slots := 12, locals := 57 } : Room).slots) _
  refine own_go (B := s₁.setTop (mkF m 0 #[.val (.ref a1), .val (.ref ab), .val (.int (0 : Int32)), .val (.int (0 : Int32)), .val .null, .unset] [])) (fun t k => castTop (ef_rm2z m a1 ab (0 : Int32) (0 : Int32)) k) ?_
  refine own_go (B := s₁.setTop (mkF m 1 #[.val (.ref a1), .val (.ref ab), .val (.int (0 : Int32)), .val (.int (0 : Int32)), .val .null, .unset] [(.ref a1)])) (fun t k => ?_) ?_
  · show Steps p.tables e below (s₁.setTop (mkF m 0 #[.val (.ref a1), .val (.ref ab), .val (.int (0 : Int32)), .val (.int (0 : Int32)), .val .null, .unset] [])) _
    refine XS.aloadN X0.here hx rfl (hb hby d2_0) rfl rfl ?_
    exact k
  obtain ⟨T1, X1, e1, st1⟩ := initO X0 hx hZ hown (hw _ (List.mem_of_getElem? (i := 12) rfl)) (hw _ (List.mem_of_getElem? (i := 13) rfl)) (hw _ (List.mem_of_getElem? (i := 14) rfl)) e0 (g := (mkF m 1 #[.val (.ref a1), .val (.ref ab), .val (.int (0 : Int32)), .val (.int (0 : Int32)), .val .null, .unset] [(.ref a1)])) rfl (by rw [hml]; rfl) rfl (hb hby d2_1) (by decide) (W := 0) (by show 2 * 0 + _ ≤ _; exact Nat.le_of_eq rfl) (by decide)
  refine own_go (B := T1.setTop (mkF m 4 #[.val (.ref a1), .val (.ref ab), .val (.int (0 : Int32)), .val (.int (0 : Int32)), .val .null, .unset] [])) st1 ?_
  refine own_go (B := T1.setTop (mkF m 9 #[.val (.ref a1), .val (.ref ab), .val (.int (0 : Int32)), .val (.int (0 : Int32)), .val .null, .unset] [(.ref a1)])) (fun t k => ?_) ?_
  · show Steps p.tables e below (T1.setTop (mkF m 4 #[.val (.ref a1), .val (.ref ab), .val (.int (0 : Int32)), .val (.int (0 : Int32)), .val .null, .unset] [])) _
    refine XS.iloadN X1.here hx rfl (hb hby d2_4) rfl ?_
    refine XS.ifNo X1.here hx rfl (hb hby d2_5) rfl ((if0 _ _).trans (teq ((rfl : (0 : Int32) = (0 : Int32)) : (0 : Int32) = (0 : Int32))).2) ?_
    refine XS.aloadN X1.here hx rfl (hb hby d2_8) rfl rfl ?_
    exact k
  obtain ⟨la2, T2, h2, k2, lb2, kl2, X2, e2, E2, hS, hk, hZ, hown, E_la2, F_coder_la2, F_value_la2, V_lb2, lt2, lu2, I, Lt2, st2⟩ := ldcSVL X1 hx hZ hown (hw _ (List.mem_of_getElem? (i := 15) rfl)) (own_strs hw) e1 hS hk (Fr.nil _) hkp I (by decide) hh7 hcw (vs := []) (z := (0 : Int32)) ⟨by decide, by first | rfl | decide⟩ (by decide) (by decide) (g := (mkF m 9 #[.val (.ref a1), .val (.ref ab), .val (.int (0 : Int32)), .val (.int (0 : Int32)), .val .null, .unset] [(.ref a1)])) rfl (hb hby d2_9) (n := 0) (by decide) (by decide) (by decide) (by decide)
  have E_a1 := E_a1.ext E2
  have F_value_a1 := F_value_a1.ext E2
  have F_coder_a1 := F_coder_a1.ext E2
  have K := K.ext E2
  have Z0 := Nat.le_trans Z0 E2.1
  have O := O.ext E2
  have I : IB Z (s.setVm T2.vm).vm _ := I
  refine own_go (B := T2.setTop (mkF m 11 #[.val (.ref a1), .val (.ref ab), .val (.int (0 : Int32)), .val (.int (0 : Int32)), .val .null, .unset] [(.ref la2), (.ref a1)])) st2 ?_
  have ne_a1_la2 : a1 ≠ la2 := F_value_a1.ne F_value_la2 (fun q => by cases q)
  have ne_a1_lb2 : a1 ≠ lb2 := Exa.neArv E_a1 V_lb2 (hw _ (List.mem_of_getElem? (i := 3) rfl))
  obtain ⟨T3, X3, e3, st3⟩ := getF X2 hx hZ hown (host := "") (Or.inl (hw _ (List.mem_of_getElem? (i := 21) rfl))) Via.refl e2 F_value_la2 (g := (mkF m 11 #[.val (.ref a1), .val (.ref ab), .val (.int (0 : Int32)), .val (.int (0 : Int32)), .val .null, .unset] [(.ref la2), (.ref a1)])) rfl rfl (hb hby d2_11)
  refine own_go (B := T3.setTop (mkF m 14 #[.val (.ref a1), .val (.ref ab), .val (.int (0 : Int32)), .val (.int (0 : Int32)), .val .null, .unset] [(.ref lb2), (.ref a1)])) st3 ?_
  obtain ⟨T4, h4, X4, e4, W4, st4⟩ := putF X3 hx hZ hown (host := "") (Or.inl (hw _ (List.mem_of_getElem? (i := 21) rfl))) Via.refl e3 F_value_a1 E_a1 (Or.inr ⟨(hw _ (List.mem_of_getElem? (i := 17) rfl)), rfl, hnm⟩) (hw _ (List.mem_of_getElem? (i := 3) rfl)) (v := (.ref lb2)) (ty := (.array .byte)) (by decide) rfl rfl (g := (mkF m 14 #[.val (.ref a1), .val (.ref ab), .val (.int (0 : Int32)), .val (.int (0 : Int32)), .val .null, .unset] [(.ref lb2), (.ref a1)])) rfl rfl (hb hby d2_14)
  have Fw4 := F_value_a1.same W4
  have E_a1 := E_a1.wr W4
  have F_coder_a1 := F_coder_a1.other W4 (Or.inr (slot_ne (Or.inr (hw _ (List.mem_of_getElem? (i := 18) rfl))) (Or.inr (hw _ (List.mem_of_getElem? (i := 17) rfl))) (by decide) (t := .byte) (t' := (.array .byte)) (by decide) (by decide)))
  have E_la2 := E_la2.wr W4
  have F_value_la2 := F_value_la2.other W4 (Or.inl (Ne.symm ne_a1_la2))
  have F_coder_la2 := F_coder_la2.other W4 (Or.inl (Ne.symm ne_a1_la2))
  have V_lb2 := V_lb2.other W4 (Ne.symm ne_a1_lb2)
  have Z0 := Nat.le_trans Z0 (Nat.le_of_eq W4.size.symm)
  have O := O.wr W4 g_a1
  have hk := Nat.le_trans hk (Nat.le_of_eq W4.size.symm)
  have F_value_a1 := Fw4
  have K := K.wr W4 (Or.inl (List.mem_of_getElem? (i := 0) rfl))
  have N4 := Fr.snoc X4 N0 g_a1
  refine own_go (B := T4.setTop (mkF m 17 #[.val (.ref a1), .val (.ref ab), .val (.int (0 : Int32)), .val (.int (0 : Int32)), .val .null, .unset] [])) st4 ?_
  refine own_go (B := T4.setTop (mkF m 18 #[.val (.ref a1), .val (.ref ab), .val (.int (0 : Int32)), .val (.int (0 : Int32)), .val .null, .unset] [(.ref a1)])) (fun t k => ?_) ?_
  · show Steps p.tables e below (T4.setTop (mkF m 17 #[.val (.ref a1), .val (.ref ab), .val (.int (0 : Int32)), .val (.int (0 : Int32)), .val .null, .unset] [])) _
    refine XS.aloadN X4.here hx rfl (hb hby d2_17) rfl rfl ?_
    exact k
  have st5 := ldcAgain X4 hx hZ hown (hw _ (List.mem_of_getElem? (i := 15) rfl)) Lt2 (g := (mkF m 18 #[.val (.ref a1), .val (.ref ab), .val (.int (0 : Int32)), .val (.int (0 : Int32)), .val .null, .unset] [(.ref a1)])) rfl (hb hby d2_18)
  refine own_go (B := T4.setTop (mkF m 20 #[.val (.ref a1), .val (.ref ab), .val (.int (0 : Int32)), .val (.int (0 : Int32)), .val .null, .unset] [(.ref la2), (.ref a1)])) st5 ?_
  obtain ⟨T6, X6, e6, st6⟩ := getF X4 hx hZ hown (host := "") (Or.inl (hw _ (List.mem_of_getElem? (i := 22) rfl))) Via.refl e4 F_coder_la2 (g := (mkF m 20 #[.val (.ref a1), .val (.ref ab), .val (.int (0 : Int32)), .val (.int (0 : Int32)), .val .null, .unset] [(.ref la2), (.ref a1)])) rfl rfl (hb hby d2_20)
  refine own_go (B := T6.setTop (mkF m 23 #[.val (.ref a1), .val (.ref ab), .val (.int (0 : Int32)), .val (.int (0 : Int32)), .val .null, .unset] [(.int (0 : Int32)), (.ref a1)])) st6 ?_
  obtain ⟨T7, h7, X7, e7, W7, st7⟩ := putFN X6 hx hZ hown (hw _ (List.mem_of_getElem? (i := 22) rfl)) Via.refl e6 F_coder_a1 E_a1 (Or.inr ⟨(hw _ (List.mem_of_getElem? (i := 18) rfl)), rfl, hnm⟩) (hw _ (List.mem_of_getElem? (i := 3) rfl)) (ty := .byte) (v' := .int (nar .byte (0 : Int32))) (by decide) rfl (fits_nar_byte _) (g := (mkF m 23 #[.val (.ref a1), .val (.ref ab), .val (.int (0 : Int32)), .val (.int (0 : Int32)), .val .null, .unset] [(.int (0 : Int32)), (.ref a1)])) rfl rfl (hb hby d2_23)
  have Fw7 := F_coder_a1.same W7
  have E_a1 := E_a1.wr W7
  have E_la2 := E_la2.wr W7
  have F_value_la2 := F_value_la2.other W7 (Or.inl (Ne.symm ne_a1_la2))
  have F_coder_la2 := F_coder_la2.other W7 (Or.inl (Ne.symm ne_a1_la2))
  have V_lb2 := V_lb2.other W7 (Ne.symm ne_a1_lb2)
  have F_value_a1 := F_value_a1.other W7 (Or.inr (slot_ne (Or.inr (hw _ (List.mem_of_getElem? (i := 17) rfl))) (Or.inr (hw _ (List.mem_of_getElem? (i := 18) rfl))) (by decide) (t := (.array .byte)) (t' := .byte) (by decide) (by decide)))
  have Z0 := Nat.le_trans Z0 (Nat.le_of_eq W7.size.symm)
  have O := O.wr W7 g_a1
  have hk := Nat.le_trans hk (Nat.le_of_eq W7.size.symm)
  have F_coder_a1 := Fw7
  have K := K.wr W7 (Or.inl (List.mem_of_getElem? (i := 0) rfl))
  have N7 := Fr.snoc X7 N4 g_a1
  refine own_go (B := T7.setTop (mkF m 26 #[.val (.ref a1), .val (.ref ab), .val (.int (0 : Int32)), .val (.int (0 : Int32)), .val .null, .unset] [])) st7 ?_
  rw [show nar .byte (0 : Int32) = (0 : Int32) from by decide] at F_coder_a1
  obtain ⟨fs, hr, hrun, hended, hRW⟩ := X7.leaveW hS (by rw [e7]; exact hk) (v := none) (fun _ => rfl)
  refine own_done (X7.returnOut hx Bd.returns (hb hby d2_26) hr) hrun hended ⟨_, _, rfl, ⟨?_, own_IBw X7.warmed I⟩, hRW.1, hRW.2.1, hRW.2.2.1, hRW.2.2.2.mono (by decide) (by decide)⟩
  show Q_rm2 Z ([] : List UInt16) (0 : Int32) a1 h0 n0 (none) T7.heap _
  rw [e7]
  exact ⟨rfl, N7, K, E_a1, lb2, kl2, (0 : Int32), (0 : Int32), [], Or.inl ⟨own_alln, rfl, rfl, rfl, Or.inl ⟨rfl, rfl⟩⟩, F_coder_a1, F_value_a1, V_lb2⟩
set_option maxRecDepth 65536 in
set_option maxHeartbeats 40000000 in
theorem rm2 (l : Launch) (Z : State) (a0 : Array Value) (hw : ∀ d ∈ tables_1, d.before a0 Z = true) (ws : List Jvm.Cond) (a1 ab : Addr) (ka : ClassId) (cs : List UInt16) (nn : Int32) (h0 : Heap) (n0 : Nat) (Z0 : n0 ≤ h0.size) (E_a1 : Exa Z h0 a1 "java/lang/String") (F_value_a1 : Fld Z h0 a1 "java/lang/String" "value" "[B" .null) (F_coder_a1 : Fld Z h0 a1 "java/lang/String" "coder" "B" (.int (0 : Int32))) (V_ab : Arv Z h0 ab ka .char nn (own_ch cs) (.int (0 : Int32))) (g_a1 : n0 ≤ a1) (hL : own_L' cs nn) (hSt : own_S Z) (O : Old Z n0 h0) (hcw : Jvm.Lit.compactW.before a0 Z = true) (hh7 : Jvm.Lit.constHeld Z "java/lang/String" 7) :
    MetFree l (⟨"java/lang/String", "<init>", "([CIILjava/lang/Void;)V"⟩ : MethodName) (head1 (Jvm.Cond.code (⟨"java/lang/String", "<init>", "([CIILjava/lang/Void;)V"⟩ : MethodName) jdk_42_method_149_code 6 none :: ws) ({ frames := 4, cells := 2, slots := 12, locals := 57 } : Room)) (fun a U => (a = #[(.ref a1), (.ref ab), (.int (0 : Int32)), (.int nn), .null] ∧ Z.Warmed39 U.vm ∧ U.heap = h0) ∧ IB Z U.vm []) (fun _ _ _ _ _ => True) (fun _ U o U' => ∃ v L, o = .returned v ∧ (Q_rm2 Z cs nn a1 h0 n0 v U'.heap L ∧ IB Z U'.vm [""]) ∧ ReturnedEndW U o U' L ({ frames := 4, cells := 2, slots := 12, locals := 57 } : Room).cells ({ frames := 4, cells := 2, slots := 12, locals := 57 } : Room).slots) := by
  rcases hL with ⟨rfl, rfl⟩ | hL
  · exact rm2z l Z a0 hw ws a1 ab h0 n0 Z0 E_a1 F_value_a1 F_coder_a1 g_a1 hSt O hcw hh7
  · intro p e ha hc hk s m args below hf happ hP hK
    obtain ⟨n, o, h1, h2, h3, v, L, e1, hQ, hF⟩ := rm2n l Z a0 hw ws a1 ab ka cs nn h0 n0 Z0 E_a1 F_value_a1 F_coder_a1 V_ab g_a1 hL hSt O p e ha hc hk s m args below hf happ hP.1 hK
    exact ⟨n, o, h1, h2, h3, v, L, e1, ⟨hQ, own_IBmono (own_IBw hF.2.1 hP.2)⟩, ReturnedEndW.of_narrow hF.1 hF.2.1 hF.2.2⟩
theorem d1_0 : decode jdk_42_method_3_code 0 = .ok (.aload_n 0, 1) := by decide +kernel
theorem d1_1 : decode jdk_42_method_3_code 1 = .ok (.aload_n 1, 1) := by decide +kernel
theorem d1_2 : decode jdk_42_method_3_code 2 = .ok (.iconst 0, 1) := by decide +kernel
theorem d1_3 : decode jdk_42_method_3_code 3 = .ok (.aload_n 1, 1) := by decide +kernel
theorem d1_4 : decode jdk_42_method_3_code 4 = .ok (.arraylength, 1) := by decide +kernel
theorem d1_5 : decode jdk_42_method_3_code 5 = .ok (.aconst_null, 1) := by decide +kernel
theorem d1_6 : decode jdk_42_method_3_code 6 = .ok (.invokespecial 27, 3) := by decide +kernel
theorem d1_9 : decode jdk_42_method_3_code 9 = .ok (.return_, 1) := by decide +kernel
theorem ef_rm1 (m : MethodId) (x0 : Addr) (x1 : Addr) : entryFrame m #[(.ref x0), (.ref x1)] 2 = mkF m 0 #[.val (.ref x0), .val (.ref x1)] [] := by first | (simp [entryFrame, mkF, argsToLocals, Value.category, maxLocals]; done) | rfl
set_option maxRecDepth 65536 in
set_option maxHeartbeats 40000000 in
theorem rm1 (l : Launch) (Z : State) (a0 : Array Value) (hw : ∀ d ∈ tables_1, d.before a0 Z = true) (ws : List Jvm.Cond) (a1 ab : Addr) (ka : ClassId) (cs : List UInt16) (nn : Int32) (h0 : Heap) (n0 : Nat) (Z0 : n0 ≤ h0.size) (E_a1 : Exa Z h0 a1 "java/lang/String") (F_value_a1 : Fld Z h0 a1 "java/lang/String" "value" "[B" .null) (F_coder_a1 : Fld Z h0 a1 "java/lang/String" "coder" "B" (.int (0 : Int32))) (V_ab : Arv Z h0 ab ka .char nn (own_ch cs) (.int (0 : Int32))) (g_a1 : n0 ≤ a1) (hL : own_L' cs nn) (hSt : own_S Z) (O : Old Z n0 h0) (hcw : Jvm.Lit.compactW.before a0 Z = true) (hh7 : Jvm.Lit.constHeld Z "java/lang/String" 7) :
    MetFree l (⟨"java/lang/String", "<init>", "([C)V"⟩ : MethodName) (head1 (Jvm.Cond.code (⟨"java/lang/String", "<init>", "([C)V"⟩ : MethodName) jdk_42_method_3_code 2 none :: ws) ({ frames := 5, cells := 2, slots := 12, locals := 74 } : Room)) (fun a U => (a = #[(.ref a1), (.ref ab)] ∧ Z.Warmed39 U.vm ∧ U.heap = h0) ∧ IB Z U.vm []) (fun _ _ _ _ _ => True) (fun _ U o U' => ∃ v L, o = .returned v ∧ (Q_rm2 Z cs nn a1 h0 n0 v U'.heap L ∧ IB Z U'.vm [""]) ∧ ReturnedEndW U o U' L ({ frames := 5, cells := 2, slots := 12, locals := 74 } : Room).cells ({ frames := 5, cells := 2, slots := 12, locals := 74 } : Room).slots) := by
  refine MetFree.of_bodySF (plainFor_of_name pn_1) hisR ?_
  intro p e s m args below meth c s₁ Bd hml0 hP hK
  obtain ⟨⟨rfl, hZ, hh⟩, I⟩ := hP
  have hx := Bd.exec
  have hby := Bd.bytes
  have hml : c.maxLocals = 2 := hml0
  have hown : s.vm.findClass "java/lang/String" = some m.cls := findClass_of_methodNamed Bd.named
  have hnm := (name_of_methodNamed Bd.named Bd.method).1
  have hZ : Z.Warmed39 (s.setVm s.vm).vm := hZ
  have hown : (s.setVm s.vm).vm.findClass "java/lang/String" = some m.cls := hown
  have hS : s.Since s.vm 0 := (State.WarmedH.refl s).since 0
  have hk : 0 ≤ h0.size := Nat.zero_le _
  have X0 : Stand p l e ({ frames := 5, cells := 2, slots := 12, locals := 74 } : Room) (s.setVm s.vm) m #[(.ref a1), (.ref ab)] below meth c s₁ [] 0 0 := Stand.of_body Bd
  have e0 : s₁.heap = h0 := by rw [← hh, Bd.state]; rfl
  have N0 := Fr.nil n0
  have K : Keep h0 h0 [a1] := Keep.refl h0 [a1]
  have hkp : ∀ (b : Addr) (cl : Cell), Z.heap[b]? = some cl → s.heap[b]? = some cl := fun b cl q => by rw [hh]; exact O.2.2 b cl q
  have I : IB Z (s.setVm s.vm).vm [] := I
  obtain ⟨G1, G3, O2, P5, O4, rG3, SA, SB, SC⟩ := id hSt
  show own_Gd p.tables e below (own_PI (Q_rm2 Z cs nn a1 h0 n0) (fun vm => IB Z vm [""]) s ({ frames := 5, cells := 2, slots := 12, locals := 74 } : Room).cells ({ frames := 5, cells := 2, slots := 12, locals := 74 } : Room).slots) _
  refine own_go (B := s₁.setTop (mkF m 0 #[.val (.ref a1), .val (.ref ab)] [])) (fun t k => castTop (ef_rm1 m a1 ab) k) ?_
  refine own_go (B := s₁.setTop (mkF m 4 #[.val (.ref a1), .val (.ref ab)] [(.ref ab), (.int (0 : Int32)), (.ref ab), (.ref a1)])) (fun t k => ?_) ?_
  · show Steps p.tables e below (s₁.setTop (mkF m 0 #[.val (.ref a1), .val (.ref ab)] [])) _
    refine XS.aloadN X0.here hx rfl (hb hby d1_0) rfl rfl ?_
    refine XS.aloadN X0.here hx rfl (hb hby d1_1) rfl rfl ?_
    refine XS.iconst X0.here hx rfl (hb hby d1_2) ?_
    refine XS.aloadN X0.here hx rfl (hb hby d1_3) rfl rfl ?_
    exact k
  obtain ⟨cl1, Ar1, qa1, Sa1, Na1, Ha1, Ga1⟩ := id V_ab
  refine own_go (B := s₁.setTop (mkF m 6 #[.val (.ref a1), .val (.ref ab)] [.null, (.int nn), (.int (0 : Int32)), (.ref ab), (.ref a1)])) (fun t k => ?_) ?_
  · show Steps p.tables e below (s₁.setTop (mkF m 4 #[.val (.ref a1), .val (.ref ab)] [(.ref ab), (.int (0 : Int32)), (.ref ab), (.ref a1)])) _
    refine X0.arraylength hx (by rw [e0]; exact Ar1.1) (State.isArrayOf_alike hZ.alike Ar1.2.1) (g := (mkF m 4 #[.val (.ref a1), .val (.ref ab)] [(.ref ab), (.int (0 : Int32)), (.ref ab), (.ref a1)])) rfl rfl (hb hby d1_4) _ ?_
    rw [len_of Sa1 Na1]
    refine XS.aconstNull X0.here hx rfl (hb hby d1_5) ?_
    exact k
  obtain ⟨_, _, ⟨T2, L2, k2, n2⟩, -, X2, hS2, hg2, ⟨Lc2, hQ2, l2, y2, z2⟩, st2⟩ := X0.specialBackS hx (y := (⟨"java/lang/String", "<init>", "([CIILjava/lang/Void;)V"⟩ : MethodName)) rfl hown (mvT hZ (hw _ (List.mem_of_getElem? (i := 8) rfl))) (mvT hZ (hw _ (List.mem_of_getElem? (i := 9) rfl))) (mvT hZ (hw _ (List.mem_of_getElem? (i := 11) rfl))) (by decide) (own_backI (s := (s.setVm s.vm)) (W := 0) (J := fun vm => IB Z vm [""]) (rm2 l Z a0 hw [] a1 ab ka cs nn h0 n0 Z0 E_a1 F_value_a1 F_coder_a1 V_ab g_a1 hL hSt O hcw hh7) I hZ (hw _ (List.mem_of_getElem? (i := 11) rfl)) (hw _ (List.mem_of_getElem? (i := 4) rfl)) (by decide) (by decide)) (g := (mkF m 6 #[.val (.ref a1), .val (.ref ab)] [.null, (.int nn), (.int (0 : Int32)), (.ref ab), (.ref a1)])) rfl (by rw [hml]; rfl) (Steps.refl _) (a := a1) (argsL := [(.ref ab), (.int (0 : Int32)), (.int nn), .null]) (rest := []) (lenOf pd_10 rfl) rfl (by show 2 * 0 + _ ≤ _; exact Nat.le_of_eq rfl) (hb hby d1_6) (fun _ _ => ⟨rfl, e0, Nat.le_of_ble_eq_true rfl, Nat.le_of_ble_eq_true rfl⟩)
  dsimp only [Pt.U, Pt.locs, Pt.cells, Pt.slots] at hS2 hg2
  dsimp only [Pt.U, Pt.locs, Pt.cells, Pt.slots] at X2 l2 y2 z2 st2 hQ2
  subst l2 y2 z2
  obtain ⟨h2, e2⟩ : ∃ z, T2.heap = z := ⟨_, rfl⟩
  rw [e2] at hQ2
  obtain ⟨hQ2, hI2⟩ := hQ2
  obtain ⟨rfl, N2q, Kc2, Ec2, tb2, kb2, cd2, zz2, vs2, hE2, Fc2, Fv2, Vc2⟩ := hQ2
  have N2 := Fr.app N0 N2q
  obtain ⟨X2, hS, hZ, hown⟩ := rebS hS (by rw [e0]; exact hk) X2 hS2 hg2 hZ hown
  rw [e2] at hS
  have hk : h2.size ≤ h2.size := Nat.le_refl _
  have I : IB Z (s.setVm T2.vm).vm [""] := hI2
  have E_a1 := E_a1.keep Kc2
  have K := K.trans Kc2 (allS (Or.inl (List.mem_of_getElem? (i := 0) rfl)) all0)
  have Z0 := Nat.le_trans Z0 Kc2.1
  have O := O.keep Kc2 (allS g_a1 all0)
  refine own_go (B := T2.setTop (mkF m 9 #[.val (.ref a1), .val (.ref ab)] [])) (fun t k => st2.trans k) ?_
  obtain ⟨fs, hr, hrun, hended, hRW⟩ := X2.leaveW hS (by rw [e2]; exact hk) (v := none) (fun _ => rfl)
  refine own_done (X2.returnOut hx Bd.returns (hb hby d1_9) hr) hrun hended ⟨_, _, rfl, ⟨?_, own_IBw X2.warmed I⟩, hRW.1, hRW.2.1, hRW.2.2.1, hRW.2.2.2.mono (by decide) (by decide)⟩
  show Q_rm2 Z cs nn a1 h0 n0 (none) T2.heap _
  rw [e2]
  exact ⟨rfl, N2, K, Ec2, tb2, kb2, cd2, zz2, vs2, hE2, Fc2, Fv2, Vc2⟩
def Q_rm11 (Z : State) (cd : Int32) (h0 : Heap) (n0 : Nat) (v : Option Value) (h : Heap) (L : List Loc) : Prop := v = some (.int cd) ∧ L = [] ∧ h = h0
theorem d11_0 : decode jdk_42_method_152_code 0 = .ok (.getstatic 38, 3) := by decide +kernel
theorem d11_3 : decode jdk_42_method_152_code 3 = .ok (.ifCond .eq 10, 3) := by decide +kernel
theorem d11_6 : decode jdk_42_method_152_code 6 = .ok (.aload_n 0, 1) := by decide +kernel
theorem d11_7 : decode jdk_42_method_152_code 7 = .ok (.getfield 15, 3) := by decide +kernel
theorem d11_10 : decode jdk_42_method_152_code 10 = .ok (.goto 4, 3) := by decide +kernel
theorem d11_13 : decode jdk_42_method_152_code 13 = .ok (.iconst 1, 1) := by decide +kernel
theorem d11_14 : decode jdk_42_method_152_code 14 = .ok (.ireturn, 1) := by decide +kernel
theorem ef_rm11 (m : MethodId) (x0 : Addr) : entryFrame m #[(.ref x0)] 1 = mkF m 0 #[.val (.ref x0)] [] := by first | (simp [entryFrame, mkF, argsToLocals, Value.category, maxLocals]; done) | rfl
set_option maxRecDepth 65536 in
set_option maxHeartbeats 40000000 in
theorem rm11 (l : Launch) (Z : State) (a0 : Array Value) (hw : ∀ d ∈ tables_1, d.before a0 Z = true) (ws : List Jvm.Cond) (a1 : Addr) (cd : Int32) (h0 : Heap) (n0 : Nat) (Z0 : n0 ≤ h0.size) (F_coder_a1 : Fld Z h0 a1 "java/lang/String" "coder" "B" (.int cd)) (hnb : nar .byte cd = cd) (hSt : own_S Z) (O : Old Z n0 h0) :
    MetFree l (⟨"java/lang/String", "coder", "()B"⟩ : MethodName) (head1 (Jvm.Cond.code (⟨"java/lang/String", "coder", "()B"⟩ : MethodName) jdk_42_method_152_code 1 (some .byte) :: ws) ({ frames := 0, cells := 0, slots := 0, locals := 0 } : Room)) (fun a U => a = #[(.ref a1)] ∧ Z.Warmed39 U.vm ∧ U.heap = h0) (fun _ _ _ _ _ => True) (fun _ U o U' => ∃ v L, o = .returned v ∧ Q_rm11 Z cd h0 n0 v U'.heap L ∧ FrameEnd U o U' L ({ frames := 0, cells := 0, slots := 0, locals := 0 } : Room).cells ({ frames := 0, cells := 0, slots := 0, locals := 0 } : Room).slots) := by
  refine MetFree.of_bodySF (plainFor_of_name pn_11) hisR ?_
  intro p e s m args below meth c s₁ Bd hml0 hP hK
  obtain ⟨rfl, hZ, hh⟩ := hP
  have hx := Bd.exec
  have hby := Bd.bytes
  have hml : c.maxLocals = 1 := hml0
  have hown : s.vm.findClass "java/lang/String" = some m.cls := findClass_of_methodNamed Bd.named
  have hnm := (name_of_methodNamed Bd.named Bd.method).1
  have X0 : Stand p l e ({ frames := 0, cells := 0, slots := 0, locals := 0 } : Room) s m #[(.ref a1)] below meth c s₁ [] 0 0 := Stand.of_body Bd
  have e0 : s₁.heap = h0 := by rw [← hh, Bd.state]; rfl
  have N0 := Fr.nil n0
  have K : Keep h0 h0 [] := Keep.refl h0 []
  obtain ⟨G1, G3, O2, P5, O4, rG3, SA, SB, SC⟩ := id hSt
  show own_Gd p.tables e below (own_P (Q_rm11 Z cd h0 n0) s ({ frames := 0, cells := 0, slots := 0, locals := 0 } : Room).cells ({ frames := 0, cells := 0, slots := 0, locals := 0 } : Room).slots) _
  refine own_go (B := s₁.setTop (mkF m 0 #[.val (.ref a1)] [])) (fun t k => castTop (ef_rm11 m a1) k) ?_
  obtain ⟨T1, X1, e1, st1⟩ := getS2 X0 hx hZ hown (host := "") (Or.inl (hw _ (List.mem_of_getElem? (i := 34) rfl))) Via.refl e0 (O2.ext O.2) (g := (mkF m 0 #[.val (.ref a1)] [])) rfl (hb hby d11_0)
  refine own_go (B := T1.setTop (mkF m 3 #[.val (.ref a1)] [(.int G1)])) st1 ?_
  refine own_go (B := T1.setTop (mkF m 7 #[.val (.ref a1)] [(.ref a1)])) (fun t k => ?_) ?_
  · show Steps p.tables e below (T1.setTop (mkF m 3 #[.val (.ref a1)] [(.int G1)])) _
    refine XS.ifNo X1.here hx rfl (hb hby d11_3) rfl ((if0 _ _).trans (feq (P5 : ¬ (G1 = (0 : Int32)))).1) ?_
    refine XS.aloadN X1.here hx rfl (hb hby d11_6) rfl rfl ?_
    exact k
  obtain ⟨T2, X2, e2, st2⟩ := getF X1 hx hZ hown (host := "") (Or.inl (hw _ (List.mem_of_getElem? (i := 22) rfl))) Via.refl e1 F_coder_a1 (g := (mkF m 7 #[.val (.ref a1)] [(.ref a1)])) rfl rfl (hb hby d11_7)
  refine own_go (B := T2.setTop (mkF m 10 #[.val (.ref a1)] [(.int cd)])) st2 ?_
  refine own_go (B := T2.setTop (mkF m 14 #[.val (.ref a1)] [(.int cd)])) (fun t k => ?_) ?_
  · show Steps p.tables e below (T2.setTop (mkF m 10 #[.val (.ref a1)] [(.int cd)])) _
    refine XS.goto X2.here hx rfl (pc0 := 10) (pc' := 14) rfl (hb hby d11_10) (by decide) (by decide) ?_
    exact k
  obtain ⟨fs, hr, hrun, hended, hW, hsame⟩ := X2.leave (v := some (.int (nar .byte cd))) (fun h => by rw [Bd.returns] at h; cases h)
  refine own_done (retN X2 hx (t := .byte) Bd.returns (by simp) (hb hby d11_14) hr) hrun hended ⟨_, _, rfl, ?_, ⟨_, rfl⟩, hW, hsame.mono (by decide) (by decide)⟩
  show Q_rm11 Z cd h0 n0 (some (.int (nar .byte cd))) T2.heap _
  rw [e2]
  exact ⟨congrArg (fun z => some (Value.int z)) hnb, rfl, rfl⟩
def Q_rm10 (Z : State) (nn : Int32) (h0 : Heap) (n0 : Nat) (v : Option Value) (h : Heap) (L : List Loc) : Prop := v = some (.int nn) ∧ L = [] ∧ h = h0
theorem d10_0 : decode jdk_42_method_54_code 0 = .ok (.aload_n 0, 1) := by decide +kernel
theorem d10_1 : decode jdk_42_method_54_code 1 = .ok (.getfield 9, 3) := by decide +kernel
theorem d10_4 : decode jdk_42_method_54_code 4 = .ok (.arraylength, 1) := by decide +kernel
theorem d10_5 : decode jdk_42_method_54_code 5 = .ok (.aload_n 0, 1) := by decide +kernel
theorem d10_6 : decode jdk_42_method_54_code 6 = .ok (.invokevirtual 335, 3) := by decide +kernel
theorem d10_9 : decode jdk_42_method_54_code 9 = .ok (.ishr, 1) := by decide +kernel
theorem d10_10 : decode jdk_42_method_54_code 10 = .ok (.ireturn, 1) := by decide +kernel
theorem ef_rm10 (m : MethodId) (x0 : Addr) : entryFrame m #[(.ref x0)] 1 = mkF m 0 #[.val (.ref x0)] [] := by first | (simp [entryFrame, mkF, argsToLocals, Value.category, maxLocals]; done) | rfl
set_option maxRecDepth 65536 in
set_option maxHeartbeats 40000000 in
theorem rm10 (l : Launch) (Z : State) (a0 : Array Value) (hw : ∀ d ∈ tables_1, d.before a0 Z = true) (ws : List Jvm.Cond) (a1 : Addr) (tb : Addr) (kb : ClassId) (zz : Int32) (vs : List Value) (cd nn : Int32) (h0 : Heap) (n0 : Nat) (Z0 : n0 ≤ h0.size) (E_a1 : Exa Z h0 a1 "java/lang/String") (F_value_a1 : Fld Z h0 a1 "java/lang/String" "value" "[B" (.ref tb)) (F_coder_a1 : Fld Z h0 a1 "java/lang/String" "coder" "B" (.int cd)) (V_tb : Arv Z h0 tb kb .byte zz vs (.int (0 : Int32))) (hnb : nar .byte cd = cd) (hz : (zz >>> (cd &&& 31)) = nn) (hSt : own_S Z) (O : Old Z n0 h0) :
    MetFree l (⟨"java/lang/String", "length", "()I"⟩ : MethodName) (head1 (Jvm.Cond.code (⟨"java/lang/String", "length", "()I"⟩ : MethodName) jdk_42_method_54_code 1 (some .int) :: ws) ({ frames := 1, cells := 0, slots := 0, locals := 13 } : Room)) (fun a U => a = #[(.ref a1)] ∧ Z.Warmed39 U.vm ∧ U.heap = h0) (fun _ _ _ _ _ => True) (fun _ U o U' => ∃ v L, o = .returned v ∧ Q_rm10 Z nn h0 n0 v U'.heap L ∧ FrameEnd U o U' L ({ frames := 1, cells := 0, slots := 0, locals := 13 } : Room).cells ({ frames := 1, cells := 0, slots := 0, locals := 13 } : Room).slots) := by
  refine MetFree.of_bodySF (plainFor_of_name pn_10) hisR ?_
  intro p e s m args below meth c s₁ Bd hml0 hP hK
  obtain ⟨rfl, hZ, hh⟩ := hP
  have hx := Bd.exec
  have hby := Bd.bytes
  have hml : c.maxLocals = 1 := hml0
  have hown : s.vm.findClass "java/lang/String" = some m.cls := findClass_of_methodNamed Bd.named
  have hnm := (name_of_methodNamed Bd.named Bd.method).1
  have X0 : Stand p l e ({ frames := 1, cells := 0, slots := 0, locals := 13 } : Room) s m #[(.ref a1)] below meth c s₁ [] 0 0 := Stand.of_body Bd
  have e0 : s₁.heap = h0 := by rw [← hh, Bd.state]; rfl
  have N0 := Fr.nil n0
  have K : Keep h0 h0 [] := Keep.refl h0 []
  obtain ⟨G1, G3, O2, P5, O4, rG3, SA, SB, SC⟩ := id hSt
  show own_Gd p.tables e below (own_P (Q_rm10 Z nn h0 n0) s ({ frames := 1, cells := 0, slots := 0, locals := 13 } : Room).cells ({ frames := 1, cells := 0, slots := 0, locals := 13 } : Room).slots) _
  refine own_go (B := s₁.setTop (mkF m 0 #[.val (.ref a1)] [])) (fun t k => castTop (ef_rm10 m a1) k) ?_
  refine own_go (B := s₁.setTop (mkF m 1 #[.val (.ref a1)] [(.ref a1)])) (fun t k => ?_) ?_
  · show Steps p.tables e below (s₁.setTop (mkF m 0 #[.val (.ref a1)] [])) _
    refine XS.aloadN X0.here hx rfl (hb hby d10_0) rfl rfl ?_
    exact k
  obtain ⟨T1, X1, e1, st1⟩ := getF X0 hx hZ hown (host := "") (Or.inl (hw _ (List.mem_of_getElem? (i := 21) rfl))) Via.refl e0 F_value_a1 (g := (mkF m 1 #[.val (.ref a1)] [(.ref a1)])) rfl rfl (hb hby d10_1)
  refine own_go (B := T1.setTop (mkF m 4 #[.val (.ref a1)] [(.ref tb)])) st1 ?_
  obtain ⟨cl2, Ar2, qa2, Sa2, Na2, Ha2, Ga2⟩ := id V_tb
  refine own_go (B := T1.setTop (mkF m 6 #[.val (.ref a1)] [(.ref a1), (.int zz)])) (fun t k => ?_) ?_
  · show Steps p.tables e below (T1.setTop (mkF m 4 #[.val (.ref a1)] [(.ref tb)])) _
    refine X1.arraylength hx (by rw [e1]; exact Ar2.1) (State.isArrayOf_alike hZ.alike Ar2.2.1) (g := (mkF m 4 #[.val (.ref a1)] [(.ref tb)])) rfl rfl (hb hby d10_4) _ ?_
    rw [len_of Sa2 Na2]
    refine XS.aloadN X1.here hx rfl (hb hby d10_5) rfl rfl ?_
    exact k
  obtain ⟨cq3, kq3, q3a, q3b, q3c⟩ := isOf hZ e1 E_a1
  obtain ⟨_, _, ⟨T4, L4, k4, n4⟩, -, X4, ⟨Lc4, hQ4, l4, y4, z4⟩, st4⟩ := X1.virtualBack hx (y := (⟨"java/lang/String", "coder", "()B"⟩ : MethodName)) (z := (⟨"java/lang/String", "coder", "()B"⟩ : MethodName)) hown (mvT hZ (hw _ (List.mem_of_getElem? (i := 60) rfl))) (mvT hZ (hw _ (List.mem_of_getElem? (i := 61) rfl))) (notFace_of_selects (args := #[]) (mvT hZ (hw _ (List.mem_of_getElem? (i := 63) rfl)))) (mvT hZ (hw _ (List.mem_of_getElem? (i := 63) rfl))) (mvT hZ (hw _ (List.mem_of_getElem? (i := 62) rfl))) (by decide) (backOf (W := 1) (rm11 l Z a0 hw [] a1 cd h0 n0 Z0 F_coder_a1 hnb hSt O) hZ (hw _ (List.mem_of_getElem? (i := 64) rfl)) (hw _ (List.mem_of_getElem? (i := 4) rfl)) (by decide) (by decide)) q3a q3c (g := (mkF m 6 #[.val (.ref a1)] [(.ref a1), (.int zz)])) rfl (by rw [hml]; rfl) (Steps.refl _) (argsL := []) (rest := [(.int zz)]) (lenOf pd_11 rfl) rfl (by show 2 * 0 + _ ≤ _; exact Nat.le_of_eq rfl) (hb hby d10_6) (fun _ _ => ⟨rfl, e1, Nat.le_of_ble_eq_true rfl, Nat.le_of_ble_eq_true rfl⟩)
  dsimp only [Pt.U, Pt.locs, Pt.cells, Pt.slots] at X4 l4 y4 z4 st4 hQ4
  subst l4 y4 z4
  obtain ⟨h4, e4⟩ : ∃ z, T4.heap = z := ⟨_, rfl⟩
  rw [e4] at hQ4
  obtain ⟨rfl, hL4, eq4⟩ := hQ4
  subst hL4
  have N4 := Fr.app N0 (Fr.nil n0)
  rw [eq4] at e4
  refine own_go (B := T4.setTop (mkF m 9 #[.val (.ref a1)] [(.int cd), (.int zz)])) (fun t k => st4.trans k) ?_
  refine own_go (B := T4.setTop (mkF m 10 #[.val (.ref a1)] [(.int (zz >>> (cd &&& 31)))])) (fun t k => ?_) ?_
  · show Steps p.tables e below (T4.setTop (mkF m 9 #[.val (.ref a1)] [(.int cd), (.int zz)])) _
    refine XS.ishr X4.here hx rfl (hb hby d10_9) rfl ?_
    exact k
  obtain ⟨fs, hr, hrun, hended, hW, hsame⟩ := X4.leave (v := some (.int (zz >>> (cd &&& 31)))) (fun h => by rw [Bd.returns] at h; cases h)
  refine own_done (retOut X4 hx Bd.returns rfl (Or.inl ⟨rfl, Or.inl rfl, _, rfl⟩) (hb hby d10_10) hr) hrun hended ⟨_, _, rfl, ?_, ⟨_, rfl⟩, hW, hsame.mono (by decide) (by decide)⟩
  show Q_rm10 Z nn h0 n0 (some (.int (zz >>> (cd &&& 31)))) T4.heap _
  rw [e4]
  exact ⟨congrArg (fun z => some (Value.int z)) hz, rfl, rfl⟩
def Q_rm9_0 (Z : State) (h0 : Heap) (n0 : Nat) (v : Option Value) (h : Heap) (L : List Loc) : Prop := v = some (.int (1 : Int32)) ∧ L = [] ∧ h = h0
theorem d9_0 : decode jdk_42_method_154_code 0 = .ok (.getstatic 38, 3) := by decide +kernel
theorem d9_3 : decode jdk_42_method_154_code 3 = .ok (.ifCond .eq 14, 3) := by decide +kernel
theorem d9_6 : decode jdk_42_method_154_code 6 = .ok (.aload_n 0, 1) := by decide +kernel
theorem d9_7 : decode jdk_42_method_154_code 7 = .ok (.getfield 15, 3) := by decide +kernel
theorem d9_10 : decode jdk_42_method_154_code 10 = .ok (.ifCond .ne 7, 3) := by decide +kernel
theorem d9_13 : decode jdk_42_method_154_code 13 = .ok (.iconst 1, 1) := by decide +kernel
theorem d9_14 : decode jdk_42_method_154_code 14 = .ok (.goto 4, 3) := by decide +kernel
theorem d9_17 : decode jdk_42_method_154_code 17 = .ok (.iconst 0, 1) := by decide +kernel
theorem d9_18 : decode jdk_42_method_154_code 18 = .ok (.ireturn, 1) := by decide +kernel
theorem ef_rm9_0 (m : MethodId) (x0 : Addr) : entryFrame m #[(.ref x0)] 1 = mkF m 0 #[.val (.ref x0)] [] := by first | (simp [entryFrame, mkF, argsToLocals, Value.category, maxLocals]; done) | rfl
set_option maxRecDepth 65536 in
set_option maxHeartbeats 40000000 in
theorem rm9_0 (l : Launch) (Z : State) (a0 : Array Value) (hw : ∀ d ∈ tables_1, d.before a0 Z = true) (ws : List Jvm.Cond) (a1 : Addr) (h0 : Heap) (n0 : Nat) (Z0 : n0 ≤ h0.size) (F_coder_a1 : Fld Z h0 a1 "java/lang/String" "coder" "B" (.int (0 : Int32))) (hSt : own_S Z) (O : Old Z n0 h0) :
    MetFree l (⟨"java/lang/String", "isLatin1", "()Z"⟩ : MethodName) (head1 (Jvm.Cond.code (⟨"java/lang/String", "isLatin1", "()Z"⟩ : MethodName) jdk_42_method_154_code 1 (some .boolean) :: ws) ({ frames := 0, cells := 0, slots := 0, locals := 0 } : Room)) (fun a U => a = #[(.ref a1)] ∧ Z.Warmed39 U.vm ∧ U.heap = h0) (fun _ _ _ _ _ => True) (fun _ U o U' => ∃ v L, o = .returned v ∧ Q_rm9_0 Z h0 n0 v U'.heap L ∧ FrameEnd U o U' L ({ frames := 0, cells := 0, slots := 0, locals := 0 } : Room).cells ({ frames := 0, cells := 0, slots := 0, locals := 0 } : Room).slots) := by
  refine MetFree.of_bodySF (plainFor_of_name pn_9) hisR ?_
  intro p e s m args below meth c s₁ Bd hml0 hP hK
  obtain ⟨rfl, hZ, hh⟩ := hP
  have hx := Bd.exec
  have hby := Bd.bytes
  have hml : c.maxLocals = 1 := hml0
  have hown : s.vm.findClass "java/lang/String" = some m.cls := findClass_of_methodNamed Bd.named
  have hnm := (name_of_methodNamed Bd.named Bd.method).1
  have X0 : Stand p l e ({ frames := 0, cells := 0, slots := 0, locals := 0 } : Room) s m #[(.ref a1)] below meth c s₁ [] 0 0 := Stand.of_body Bd
  have e0 : s₁.heap = h0 := by rw [← hh, Bd.state]; rfl
  have N0 := Fr.nil n0
  have K : Keep h0 h0 [] := Keep.refl h0 []
  obtain ⟨G1, G3, O2, P5, O4, rG3, SA, SB, SC⟩ := id hSt
  show own_Gd p.tables e below (own_P (Q_rm9_0 Z h0 n0) s ({ frames := 0, cells := 0, slots := 0, locals := 0 } : Room).cells ({ frames := 0, cells := 0, slots := 0, locals := 0 } : Room).slots) _
  refine own_go (B := s₁.setTop (mkF m 0 #[.val (.ref a1)] [])) (fun t k => castTop (ef_rm9_0 m a1) k) ?_
  obtain ⟨T1, X1, e1, st1⟩ := getS2 X0 hx hZ hown (host := "") (Or.inl (hw _ (List.mem_of_getElem? (i := 34) rfl))) Via.refl e0 (O2.ext O.2) (g := (mkF m 0 #[.val (.ref a1)] [])) rfl (hb hby d9_0)
  refine own_go (B := T1.setTop (mkF m 3 #[.val (.ref a1)] [(.int G1)])) st1 ?_
  refine own_go (B := T1.setTop (mkF m 7 #[.val (.ref a1)] [(.ref a1)])) (fun t k => ?_) ?_
  · show Steps p.tables e below (T1.setTop (mkF m 3 #[.val (.ref a1)] [(.int G1)])) _
    refine XS.ifNo X1.here hx rfl (hb hby d9_3) rfl ((if0 _ _).trans (feq (P5 : ¬ (G1 = (0 : Int32)))).1) ?_
    refine XS.aloadN X1.here hx rfl (hb hby d9_6) rfl rfl ?_
    exact k
  obtain ⟨T2, X2, e2, st2⟩ := getF X1 hx hZ hown (host := "") (Or.inl (hw _ (List.mem_of_getElem? (i := 22) rfl))) Via.refl e1 F_coder_a1 (g := (mkF m 7 #[.val (.ref a1)] [(.ref a1)])) rfl rfl (hb hby d9_7)
  refine own_go (B := T2.setTop (mkF m 10 #[.val (.ref a1)] [(.int (0 : Int32))])) st2 ?_
  refine own_go (B := T2.setTop (mkF m 18 #[.val (.ref a1)] [(.int (1 : Int32))])) (fun t k => ?_) ?_
  · show Steps p.tables e below (T2.setTop (mkF m 10 #[.val (.ref a1)] [(.int (0 : Int32))])) _
    refine XS.ifNo X2.here hx rfl (hb hby d9_10) rfl ((if0 _ _).trans (teq ((rfl : (0 : Int32) = (0 : Int32)) : (0 : Int32) = (0 : Int32))).2) ?_
    refine XS.iconst X2.here hx rfl (hb hby d9_13) ?_
    refine XS.goto X2.here hx rfl (pc0 := 14) (pc' := 18) rfl (hb hby d9_14) (by decide) (by decide) ?_
    exact k
  obtain ⟨fs, hr, hrun, hended, hW, hsame⟩ := X2.leave (v := some (.int (1 : Int32))) (fun h => by rw [Bd.returns] at h; cases h)
  refine own_done (retN X2 hx (t := .boolean) Bd.returns (by simp) (hb hby d9_18) hr) hrun hended ⟨_, _, rfl, ?_, ⟨_, rfl⟩, hW, hsame.mono (by decide) (by decide)⟩
  show Q_rm9_0 Z h0 n0 (some (.int (1 : Int32))) T2.heap _
  rw [e2]
  exact ⟨rfl, rfl, rfl⟩
def Q_rm9_1 (Z : State) (h0 : Heap) (n0 : Nat) (v : Option Value) (h : Heap) (L : List Loc) : Prop := v = some (.int (0 : Int32)) ∧ L = [] ∧ h = h0
theorem ef_rm9_1 (m : MethodId) (x0 : Addr) : entryFrame m #[(.ref x0)] 1 = mkF m 0 #[.val (.ref x0)] [] := by first | (simp [entryFrame, mkF, argsToLocals, Value.category, maxLocals]; done) | rfl
set_option maxRecDepth 65536 in
set_option maxHeartbeats 40000000 in
theorem rm9_1 (l : Launch) (Z : State) (a0 : Array Value) (hw : ∀ d ∈ tables_1, d.before a0 Z = true) (ws : List Jvm.Cond) (a1 : Addr) (h0 : Heap) (n0 : Nat) (Z0 : n0 ≤ h0.size) (F_coder_a1 : Fld Z h0 a1 "java/lang/String" "coder" "B" (.int (1 : Int32))) (hSt : own_S Z) (O : Old Z n0 h0) :
    MetFree l (⟨"java/lang/String", "isLatin1", "()Z"⟩ : MethodName) (head1 (Jvm.Cond.code (⟨"java/lang/String", "isLatin1", "()Z"⟩ : MethodName) jdk_42_method_154_code 1 (some .boolean) :: ws) ({ frames := 0, cells := 0, slots := 0, locals := 0 } : Room)) (fun a U => a = #[(.ref a1)] ∧ Z.Warmed39 U.vm ∧ U.heap = h0) (fun _ _ _ _ _ => True) (fun _ U o U' => ∃ v L, o = .returned v ∧ Q_rm9_1 Z h0 n0 v U'.heap L ∧ FrameEnd U o U' L ({ frames := 0, cells := 0, slots := 0, locals := 0 } : Room).cells ({ frames := 0, cells := 0, slots := 0, locals := 0 } : Room).slots) := by
  refine MetFree.of_bodySF (plainFor_of_name pn_9) hisR ?_
  intro p e s m args below meth c s₁ Bd hml0 hP hK
  obtain ⟨rfl, hZ, hh⟩ := hP
  have hx := Bd.exec
  have hby := Bd.bytes
  have hml : c.maxLocals = 1 := hml0
  have hown : s.vm.findClass "java/lang/String" = some m.cls := findClass_of_methodNamed Bd.named
  have hnm := (name_of_methodNamed Bd.named Bd.method).1
  have X0 : Stand p l e ({ frames := 0, cells := 0, slots := 0, locals := 0 } : Room) s m #[(.ref a1)] below meth c s₁ [] 0 0 := Stand.of_body Bd
  have e0 : s₁.heap = h0 := by rw [← hh, Bd.state]; rfl
  have N0 := Fr.nil n0
  have K : Keep h0 h0 [] := Keep.refl h0 []
  obtain ⟨G1, G3, O2, P5, O4, rG3, SA, SB, SC⟩ := id hSt
  show own_Gd p.tables e below (own_P (Q_rm9_1 Z h0 n0) s ({ frames := 0, cells := 0, slots := 0, locals := 0 } : Room).cells ({ frames := 0, cells := 0, slots := 0, locals := 0 } : Room).slots) _
  refine own_go (B := s₁.setTop (mkF m 0 #[.val (.ref a1)] [])) (fun t k => castTop (ef_rm9_1 m a1) k) ?_
  obtain ⟨T1, X1, e1, st1⟩ := getS2 X0 hx hZ hown (host := "") (Or.inl (hw _ (List.mem_of_getElem? (i := 34) rfl))) Via.refl e0 (O2.ext O.2) (g := (mkF m 0 #[.val (.ref a1)] [])) rfl (hb hby d9_0)
  refine own_go (B := T1.setTop (mkF m 3 #[.val (.ref a1)] [(.int G1)])) st1 ?_
  refine own_go (B := T1.setTop (mkF m 7 #[.val (.ref a1)] [(.ref a1)])) (fun t k => ?_) ?_
  · show Steps p.tables e below (T1.setTop (mkF m 3 #[.val (.ref a1)] [(.int G1)])) _
    refine XS.ifNo X1.here hx rfl (hb hby d9_3) rfl ((if0 _ _).trans (feq (P5 : ¬ (G1 = (0 : Int32)))).1) ?_
    refine XS.aloadN X1.here hx rfl (hb hby d9_6) rfl rfl ?_
    exact k
  obtain ⟨T2, X2, e2, st2⟩ := getF X1 hx hZ hown (host := "") (Or.inl (hw _ (List.mem_of_getElem? (i := 22) rfl))) Via.refl e1 F_coder_a1 (g := (mkF m 7 #[.val (.ref a1)] [(.ref a1)])) rfl rfl (hb hby d9_7)
  refine own_go (B := T2.setTop (mkF m 10 #[.val (.ref a1)] [(.int (1 : Int32))])) st2 ?_
  refine own_go (B := T2.setTop (mkF m 18 #[.val (.ref a1)] [(.int (0 : Int32))])) (fun t k => ?_) ?_
  · show Steps p.tables e below (T2.setTop (mkF m 10 #[.val (.ref a1)] [(.int (1 : Int32))])) _
    refine XS.ifYes X2.here hx rfl (pc0 := 10) (pc' := 17) rfl (hb hby d9_10) rfl ((if0 _ _).trans (feq (by decide : ¬ ((1 : Int32) = (0 : Int32)))).2) (by decide) (by decide) ?_
    refine XS.iconst X2.here hx rfl (hb hby d9_17) ?_
    exact k
  obtain ⟨fs, hr, hrun, hended, hW, hsame⟩ := X2.leave (v := some (.int (0 : Int32))) (fun h => by rw [Bd.returns] at h; cases h)
  refine own_done (retN X2 hx (t := .boolean) Bd.returns (by simp) (hb hby d9_18) hr) hrun hended ⟨_, _, rfl, ?_, ⟨_, rfl⟩, hW, hsame.mono (by decide) (by decide)⟩
  show Q_rm9_1 Z h0 n0 (some (.int (0 : Int32))) T2.heap _
  rw [e2]
  exact ⟨rfl, rfl, rfl⟩
def Q_rm19 (Z : State) (cs : List UInt16) (h0 : Heap) (n0 : Nat) (v : Option Value) (h : Heap) (L : List Loc) : Prop := ∃ r, (v = some (.int r) ∧ L = [] ∧ h = h0) ∧ (r < (0 : Int32) ↔ ¬ own_has cs)
theorem d19_0 : decode jdk_43_method_23_code 0 = .ok (.iload_n 1, 1) := by decide +kernel
theorem d19_1 : decode jdk_43_method_23_code 1 = .ok (.i2b, 1) := by decide +kernel
theorem d19_2 : decode jdk_43_method_23_code 2 = .ok (.istore 4, 2) := by decide +kernel
theorem d19_4 : decode jdk_43_method_23_code 4 = .ok (.iload_n 2, 1) := by decide +kernel
theorem d19_5 : decode jdk_43_method_23_code 5 = .ok (.istore 5, 2) := by decide +kernel
theorem d19_7 : decode jdk_43_method_23_code 7 = .ok (.iload 5, 2) := by decide +kernel
theorem d19_9 : decode jdk_43_method_23_code 9 = .ok (.iload_n 3, 1) := by decide +kernel
theorem d19_10 : decode jdk_43_method_23_code 10 = .ok (.if_icmp .ge 21, 3) := by decide +kernel
theorem d19_13 : decode jdk_43_method_23_code 13 = .ok (.aload_n 0, 1) := by decide +kernel
theorem d19_14 : decode jdk_43_method_23_code 14 = .ok (.iload 5, 2) := by decide +kernel
theorem d19_16 : decode jdk_43_method_23_code 16 = .ok (.baload, 1) := by decide +kernel
theorem d19_17 : decode jdk_43_method_23_code 17 = .ok (.iload 4, 2) := by decide +kernel
theorem d19_19 : decode jdk_43_method_23_code 19 = .ok (.if_icmp .ne 6, 3) := by decide +kernel
theorem d19_22 : decode jdk_43_method_23_code 22 = .ok (.iload 5, 2) := by decide +kernel
theorem d19_24 : decode jdk_43_method_23_code 24 = .ok (.ireturn, 1) := by decide +kernel
theorem d19_25 : decode jdk_43_method_23_code 25 = .ok (.iinc 5 1, 3) := by decide +kernel
theorem d19_28 : decode jdk_43_method_23_code 28 = .ok (.goto (-21), 3) := by decide +kernel
theorem d19_31 : decode jdk_43_method_23_code 31 = .ok (.iconst (-1), 1) := by decide +kernel
theorem d19_32 : decode jdk_43_method_23_code 32 = .ok (.ireturn, 1) := by decide +kernel
theorem ef_rm19_1 (m : MethodId) (x0 : Addr) (x1 : Int32) (x2 : Int32) (x3 : Int32) : entryFrame m #[(.ref x0), (.int x1), (.int x2), (.int x3)] 6 = mkF m 0 #[.val (.ref x0), .val (.int x1), .val (.int x2), .val (.int x3), .unset, .unset] [] := by first | (simp [entryFrame, mkF, argsToLocals, Value.category, maxLocals]; done) | rfl
set_option maxRecDepth 65536 in
set_option maxHeartbeats 40000000 in
theorem rm19_1 (l : Launch) (Z : State) (a0 : Array Value) (hw : ∀ d ∈ tables_1, d.before a0 Z = true) (ws : List Jvm.Cond) (tb : Addr) (kb : ClassId) (u0 : UInt16) (h0 : Heap) (n0 : Nat) (Z0 : n0 ≤ h0.size) (V_tb : Arv Z h0 tb kb .byte (1 : Int32) [(.int (own_b u0))] (.int (0 : Int32))) (hla : ∀ u ∈ ([u0] : List UInt16), ¬ (255 : Int32) < own_w u) :
    MetFree l (⟨"java/lang/StringLatin1", "indexOfChar", "([BIII)I"⟩ : MethodName) (head1 (Jvm.Cond.code (⟨"java/lang/StringLatin1", "indexOfChar", "([BIII)I"⟩ : MethodName) jdk_43_method_23_code 6 (some .int) :: ws) ({ frames := 0, cells := 0, slots := 0, locals := 0 } : Room)) (fun a U => a = #[(.ref tb), (.int (47 : Int32)), (.int (0 : Int32)), (.int (1 : Int32))] ∧ Z.Warmed39 U.vm ∧ U.heap = h0) (fun _ _ _ _ _ => True) (fun _ U o U' => ∃ v L, o = .returned v ∧ Q_rm19 Z ([u0] : List UInt16) h0 n0 v U'.heap L ∧ FrameEnd U o U' L ({ frames := 0, cells := 0, slots := 0, locals := 0 } : Room).cells ({ frames := 0, cells := 0, slots := 0, locals := 0 } : Room).slots) := by
  refine MetFree.of_bodySF (plainFor_of_name pn_19) hisR ?_
  intro p e s m args below meth c s₁ Bd hml0 hP hK
  obtain ⟨rfl, hZ, hh⟩ := hP
  have hx := Bd.exec
  have hby := Bd.bytes
  have hml : c.maxLocals = 6 := hml0
  have hown : s.vm.findClass "java/lang/StringLatin1" = some m.cls := findClass_of_methodNamed Bd.named
  have hnm := (name_of_methodNamed Bd.named Bd.method).1
  have X0 : Stand p l e ({ frames := 0, cells := 0, slots := 0, locals := 0 } : Room) s m #[(.ref tb), (.int (47 : Int32)), (.int (0 : Int32)), (.int (1 : Int32))] below meth c s₁ [] 0 0 := Stand.of_body Bd
  have e0 : s₁.heap = h0 := by rw [← hh, Bd.state]; rfl
  have N0 := Fr.nil n0
  have K : Keep h0 h0 [] := Keep.refl h0 []
  show own_Gd p.tables e below (own_P (Q_rm19 Z ([u0] : List UInt16) h0 n0) s ({ frames := 0, cells := 0, slots := 0, locals := 0 } : Room).cells ({ frames := 0, cells := 0, slots := 0, locals := 0 } : Room).slots) _
  refine own_go (B := s₁.setTop (mkF m 0 #[.val (.ref tb), .val (.int (47 : Int32)), .val (.int (0 : Int32)), .val (.int (1 : Int32)), .unset, .unset] [])) (fun t k => castTop (ef_rm19_1 m tb (47 : Int32) (0 : Int32) (1 : Int32)) k) ?_
  refine own_go (B := s₁.setTop (mkF m 16 #[.val (.ref tb), .val (.int (47 : Int32)), .val (.int (0 : Int32)), .val (.int (1 : Int32)), .val (.int ((47 : Int32).toInt8.toInt32)), .val (.int (0 : Int32))] [(.int (0 : Int32)), (.ref tb)])) (fun t k => ?_) ?_
  · show Steps p.tables e below (s₁.setTop (mkF m 0 #[.val (.ref tb), .val (.int (47 : Int32)), .val (.int (0 : Int32)), .val (.int (1 : Int32)), .unset, .unset] [])) _
    refine XS.iloadN X0.here hx rfl (hb hby d19_0) rfl ?_
    refine XS.i2b X0.here hx rfl (hb hby d19_1) rfl ?_
    refine XS.istore X0.here hx rfl (hb hby d19_2) rfl (l' := #[.val (.ref tb), .val (.int (47 : Int32)), .val (.int (0 : Int32)), .val (.int (1 : Int32)), .val (.int ((47 : Int32).toInt8.toInt32)), .unset]) rfl ?_
    refine XS.iloadN X0.here hx rfl (hb hby d19_4) rfl ?_
    refine XS.istore X0.here hx rfl (hb hby d19_5) rfl (l' := #[.val (.ref tb), .val (.int (47 : Int32)), .val (.int (0 : Int32)), .val (.int (1 : Int32)), .val (.int ((47 : Int32).toInt8.toInt32)), .val (.int (0 : Int32))]) rfl ?_
    show Steps p.tables e below (s₁.setTop (mkF m 7 #[.val (.ref tb), .val (.int (47 : Int32)), .val (.int (0 : Int32)), .val (.int (1 : Int32)), .val (.int ((47 : Int32).toInt8.toInt32)), .val (.int (0 : Int32))] [])) _
    refine XS.iload X0.here hx rfl (hb hby d19_7) rfl ?_
    refine XS.iloadN X0.here hx rfl (hb hby d19_9) rfl ?_
    refine XS.icmpNo X0.here hx rfl (hb hby d19_10) rfl (tlt (by decide : (0 : Int32) < (1 : Int32))).2.1 ?_
    refine XS.aloadN X0.here hx rfl (hb hby d19_13) rfl rfl ?_
    refine XS.iload X0.here hx rfl (hb hby d19_14) rfl ?_
    show Steps p.tables e below (s₁.setTop (mkF m 16 #[.val (.ref tb), .val (.int (47 : Int32)), .val (.int (0 : Int32)), .val (.int (1 : Int32)), .val (.int ((47 : Int32).toInt8.toInt32)), .val (.int (0 : Int32))] [(.int (0 : Int32)), (.ref tb)])) _
    exact k
  obtain ⟨cl1, Ar1, qa1, Sa1, Na1, Ha1, Ga1⟩ := id V_tb
  have hin1 : ¬ ((0 : Int32) < 0 ∨ cl1.slots.size ≤ ((0 : Int32)).toNatClampNeg) := inb_of Sa1 ⟨by decide, by decide⟩
  have hat1 : cl1.slots[((0 : Int32)).toNatClampNeg]? = some (.int (own_b u0)) := Ha1.at hin1 rfl
  refine own_go (B := s₁.setTop (mkF m 19 #[.val (.ref tb), .val (.int (47 : Int32)), .val (.int (0 : Int32)), .val (.int (1 : Int32)), .val (.int ((47 : Int32).toInt8.toInt32)), .val (.int (0 : Int32))] [(.int ((47 : Int32).toInt8.toInt32)), (.int (own_b u0))])) (fun t k => ?_) ?_
  · show Steps p.tables e below (s₁.setTop (mkF m 16 #[.val (.ref tb), .val (.int (47 : Int32)), .val (.int (0 : Int32)), .val (.int (1 : Int32)), .val (.int ((47 : Int32).toInt8.toInt32)), .val (.int (0 : Int32))] [(.int (0 : Int32)), (.ref tb)])) _
    refine X0.baloadBytes hx (j := (0 : Int32)) (v := (.int (own_b u0))) (by rw [e0]; exact Ar1.1) (State.isArrayOf_alike hZ.alike Ar1.2.1) Ar1.2.2 hin1 hat1 (g := (mkF m 16 #[.val (.ref tb), .val (.int (47 : Int32)), .val (.int (0 : Int32)), .val (.int (1 : Int32)), .val (.int ((47 : Int32).toInt8.toInt32)), .val (.int (0 : Int32))] [(.int (0 : Int32)), (.ref tb)])) rfl rfl (hb hby d19_16) _ ?_
    refine XS.iload X0.here hx rfl (hb hby d19_17) rfl ?_
    exact k
  by_cases hc19_2 : (own_b u0) = ((47 : Int32).toInt8.toInt32)
  · refine own_go (B := s₁.setTop (mkF m 24 #[.val (.ref tb), .val (.int (47 : Int32)), .val (.int (0 : Int32)), .val (.int (1 : Int32)), .val (.int ((47 : Int32).toInt8.toInt32)), .val (.int (0 : Int32))] [(.int (0 : Int32))])) (fun t k => ?_) ?_
    · show Steps p.tables e below (s₁.setTop (mkF m 19 #[.val (.ref tb), .val (.int (47 : Int32)), .val (.int (0 : Int32)), .val (.int (1 : Int32)), .val (.int ((47 : Int32).toInt8.toInt32)), .val (.int (0 : Int32))] [(.int ((47 : Int32).toInt8.toInt32)), (.int (own_b u0))])) _
      refine XS.icmpNo X0.here hx rfl (hb hby d19_19) rfl (teq hc19_2).2 ?_
      refine XS.iload X0.here hx rfl (hb hby d19_22) rfl ?_
      exact k
    obtain ⟨fs, hr, hrun, hended, hW, hsame⟩ := X0.leave (v := some (.int (0 : Int32))) (fun h => by rw [Bd.returns] at h; cases h)
    refine own_done (retOut X0 hx Bd.returns rfl (Or.inl ⟨rfl, Or.inl rfl, _, rfl⟩) (hb hby d19_24) hr) hrun hended ⟨_, _, rfl, ?_, ⟨_, rfl⟩, hW, hsame.mono (by decide) (by decide)⟩
    show Q_rm19 Z ([u0] : List UInt16) h0 n0 (some (.int (0 : Int32))) s₁.heap _
    rw [e0]
    exact ⟨_, ⟨rfl, rfl, rfl⟩, ⟨fun q => absurd q (by decide), fun q => (q ⟨u0, by simp, ((own_b47 (hla u0 (by simp))).1 hc19_2)⟩).elim⟩⟩
  · refine own_go (B := s₁.setTop (mkF m 32 #[.val (.ref tb), .val (.int (47 : Int32)), .val (.int (0 : Int32)), .val (.int (1 : Int32)), .val (.int ((47 : Int32).toInt8.toInt32)), .val (.int (1 : Int32))] [(.int (-1 : Int32))])) (fun t k => ?_) ?_
    · show Steps p.tables e below (s₁.setTop (mkF m 19 #[.val (.ref tb), .val (.int (47 : Int32)), .val (.int (0 : Int32)), .val (.int (1 : Int32)), .val (.int ((47 : Int32).toInt8.toInt32)), .val (.int (0 : Int32))] [(.int ((47 : Int32).toInt8.toInt32)), (.int (own_b u0))])) _
      refine XS.icmpYes X0.here hx rfl (pc0 := 19) (pc' := 25) rfl (hb hby d19_19) rfl (feq hc19_2).2 (by decide) (by decide) ?_
      refine XS.iinc X0.here hx rfl (hb hby d19_25) rfl (l' := #[.val (.ref tb), .val (.int (47 : Int32)), .val (.int (0 : Int32)), .val (.int (1 : Int32)), .val (.int ((47 : Int32).toInt8.toInt32)), .val (.int (1 : Int32))]) rfl ?_
      refine XS.goto X0.here hx rfl (pc0 := 28) (pc' := 7) rfl (hb hby d19_28) (by decide) (by decide) ?_
      refine XS.iload X0.here hx rfl (hb hby d19_7) rfl ?_
      refine XS.iloadN X0.here hx rfl (hb hby d19_9) rfl ?_
      show Steps p.tables e below (s₁.setTop (mkF m 10 #[.val (.ref tb), .val (.int (47 : Int32)), .val (.int (0 : Int32)), .val (.int (1 : Int32)), .val (.int ((47 : Int32).toInt8.toInt32)), .val (.int (1 : Int32))] [(.int (1 : Int32)), (.int (1 : Int32))])) _
      refine XS.icmpYes X0.here hx rfl (pc0 := 10) (pc' := 31) rfl (hb hby d19_10) rfl (flt (by decide : ¬ ((1 : Int32) < (1 : Int32)))).2.1 (by decide) (by decide) ?_
      refine XS.iconst X0.here hx rfl (hb hby d19_31) ?_
      exact k
    obtain ⟨fs, hr, hrun, hended, hW, hsame⟩ := X0.leave (v := some (.int (-1 : Int32))) (fun h => by rw [Bd.returns] at h; cases h)
    refine own_done (retOut X0 hx Bd.returns rfl (Or.inl ⟨rfl, Or.inl rfl, _, rfl⟩) (hb hby d19_32) hr) hrun hended ⟨_, _, rfl, ?_, ⟨_, rfl⟩, hW, hsame.mono (by decide) (by decide)⟩
    show Q_rm19 Z ([u0] : List UInt16) h0 n0 (some (.int (-1 : Int32))) s₁.heap _
    rw [e0]
    exact ⟨_, ⟨rfl, rfl, rfl⟩, ⟨fun _ => own_not (own_allc (fun q => hc19_2 ((own_b47 (hla u0 (by simp))).2 q)) own_alln), fun _ => by decide⟩⟩
theorem ef_rm19_2 (m : MethodId) (x0 : Addr) (x1 : Int32) (x2 : Int32) (x3 : Int32) : entryFrame m #[(.ref x0), (.int x1), (.int x2), (.int x3)] 6 = mkF m 0 #[.val (.ref x0), .val (.int x1), .val (.int x2), .val (.int x3), .unset, .unset] [] := by first | (simp [entryFrame, mkF, argsToLocals, Value.category, maxLocals]; done) | rfl
set_option maxRecDepth 65536 in
set_option maxHeartbeats 40000000 in
theorem rm19_2 (l : Launch) (Z : State) (a0 : Array Value) (hw : ∀ d ∈ tables_1, d.before a0 Z = true) (ws : List Jvm.Cond) (tb : Addr) (kb : ClassId) (u0 u1 : UInt16) (h0 : Heap) (n0 : Nat) (Z0 : n0 ≤ h0.size) (V_tb : Arv Z h0 tb kb .byte (2 : Int32) [(.int (own_b u0)), (.int (own_b u1))] (.int (0 : Int32))) (hla : ∀ u ∈ ([u0, u1] : List UInt16), ¬ (255 : Int32) < own_w u) :
    MetFree l (⟨"java/lang/StringLatin1", "indexOfChar", "([BIII)I"⟩ : MethodName) (head1 (Jvm.Cond.code (⟨"java/lang/StringLatin1", "indexOfChar", "([BIII)I"⟩ : MethodName) jdk_43_method_23_code 6 (some .int) :: ws) ({ frames := 0, cells := 0, slots := 0, locals := 0 } : Room)) (fun a U => a = #[(.ref tb), (.int (47 : Int32)), (.int (0 : Int32)), (.int (2 : Int32))] ∧ Z.Warmed39 U.vm ∧ U.heap = h0) (fun _ _ _ _ _ => True) (fun _ U o U' => ∃ v L, o = .returned v ∧ Q_rm19 Z ([u0, u1] : List UInt16) h0 n0 v U'.heap L ∧ FrameEnd U o U' L ({ frames := 0, cells := 0, slots := 0, locals := 0 } : Room).cells ({ frames := 0, cells := 0, slots := 0, locals := 0 } : Room).slots) := by
  refine MetFree.of_bodySF (plainFor_of_name pn_19) hisR ?_
  intro p e s m args below meth c s₁ Bd hml0 hP hK
  obtain ⟨rfl, hZ, hh⟩ := hP
  have hx := Bd.exec
  have hby := Bd.bytes
  have hml : c.maxLocals = 6 := hml0
  have hown : s.vm.findClass "java/lang/StringLatin1" = some m.cls := findClass_of_methodNamed Bd.named
  have hnm := (name_of_methodNamed Bd.named Bd.method).1
  have X0 : Stand p l e ({ frames := 0, cells := 0, slots := 0, locals := 0 } : Room) s m #[(.ref tb), (.int (47 : Int32)), (.int (0 : Int32)), (.int (2 : Int32))] below meth c s₁ [] 0 0 := Stand.of_body Bd
  have e0 : s₁.heap = h0 := by rw [← hh, Bd.state]; rfl
  have N0 := Fr.nil n0
  have K : Keep h0 h0 [] := Keep.refl h0 []
  show own_Gd p.tables e below (own_P (Q_rm19 Z ([u0, u1] : List UInt16) h0 n0) s ({ frames := 0, cells := 0, slots := 0, locals := 0 } : Room).cells ({ frames := 0, cells := 0, slots := 0, locals := 0 } : Room).slots) _
  refine own_go (B := s₁.setTop (mkF m 0 #[.val (.ref tb), .val (.int (47 : Int32)), .val (.int (0 : Int32)), .val (.int (2 : Int32)), .unset, .unset] [])) (fun t k => castTop (ef_rm19_2 m tb (47 : Int32) (0 : Int32) (2 : Int32)) k) ?_
  refine own_go (B := s₁.setTop (mkF m 16 #[.val (.ref tb), .val (.int (47 : Int32)), .val (.int (0 : Int32)), .val (.int (2 : Int32)), .val (.int ((47 : Int32).toInt8.toInt32)), .val (.int (0 : Int32))] [(.int (0 : Int32)), (.ref tb)])) (fun t k => ?_) ?_
  · show Steps p.tables e below (s₁.setTop (mkF m 0 #[.val (.ref tb), .val (.int (47 : Int32)), .val (.int (0 : Int32)), .val (.int (2 : Int32)), .unset, .unset] [])) _
    refine XS.iloadN X0.here hx rfl (hb hby d19_0) rfl ?_
    refine XS.i2b X0.here hx rfl (hb hby d19_1) rfl ?_
    refine XS.istore X0.here hx rfl (hb hby d19_2) rfl (l' := #[.val (.ref tb), .val (.int (47 : Int32)), .val (.int (0 : Int32)), .val (.int (2 : Int32)), .val (.int ((47 : Int32).toInt8.toInt32)), .unset]) rfl ?_
    refine XS.iloadN X0.here hx rfl (hb hby d19_4) rfl ?_
    refine XS.istore X0.here hx rfl (hb hby d19_5) rfl (l' := #[.val (.ref tb), .val (.int (47 : Int32)), .val (.int (0 : Int32)), .val (.int (2 : Int32)), .val (.int ((47 : Int32).toInt8.toInt32)), .val (.int (0 : Int32))]) rfl ?_
    show Steps p.tables e below (s₁.setTop (mkF m 7 #[.val (.ref tb), .val (.int (47 : Int32)), .val (.int (0 : Int32)), .val (.int (2 : Int32)), .val (.int ((47 : Int32).toInt8.toInt32)), .val (.int (0 : Int32))] [])) _
    refine XS.iload X0.here hx rfl (hb hby d19_7) rfl ?_
    refine XS.iloadN X0.here hx rfl (hb hby d19_9) rfl ?_
    refine XS.icmpNo X0.here hx rfl (hb hby d19_10) rfl (tlt (by decide : (0 : Int32) < (2 : Int32))).2.1 ?_
    refine XS.aloadN X0.here hx rfl (hb hby d19_13) rfl rfl ?_
    refine XS.iload X0.here hx rfl (hb hby d19_14) rfl ?_
    show Steps p.tables e below (s₁.setTop (mkF m 16 #[.val (.ref tb), .val (.int (47 : Int32)), .val (.int (0 : Int32)), .val (.int (2 : Int32)), .val (.int ((47 : Int32).toInt8.toInt32)), .val (.int (0 : Int32))] [(.int (0 : Int32)), (.ref tb)])) _
    exact k
  obtain ⟨cl1, Ar1, qa1, Sa1, Na1, Ha1, Ga1⟩ := id V_tb
  have hin1 : ¬ ((0 : Int32) < 0 ∨ cl1.slots.size ≤ ((0 : Int32)).toNatClampNeg) := inb_of Sa1 ⟨by decide, by decide⟩
  have hat1 : cl1.slots[((0 : Int32)).toNatClampNeg]? = some (.int (own_b u0)) := Ha1.at hin1 rfl
  refine own_go (B := s₁.setTop (mkF m 19 #[.val (.ref tb), .val (.int (47 : Int32)), .val (.int (0 : Int32)), .val (.int (2 : Int32)), .val (.int ((47 : Int32).toInt8.toInt32)), .val (.int (0 : Int32))] [(.int ((47 : Int32).toInt8.toInt32)), (.int (own_b u0))])) (fun t k => ?_) ?_
  · show Steps p.tables e below (s₁.setTop (mkF m 16 #[.val (.ref tb), .val (.int (47 : Int32)), .val (.int (0 : Int32)), .val (.int (2 : Int32)), .val (.int ((47 : Int32).toInt8.toInt32)), .val (.int (0 : Int32))] [(.int (0 : Int32)), (.ref tb)])) _
    refine X0.baloadBytes hx (j := (0 : Int32)) (v := (.int (own_b u0))) (by rw [e0]; exact Ar1.1) (State.isArrayOf_alike hZ.alike Ar1.2.1) Ar1.2.2 hin1 hat1 (g := (mkF m 16 #[.val (.ref tb), .val (.int (47 : Int32)), .val (.int (0 : Int32)), .val (.int (2 : Int32)), .val (.int ((47 : Int32).toInt8.toInt32)), .val (.int (0 : Int32))] [(.int (0 : Int32)), (.ref tb)])) rfl rfl (hb hby d19_16) _ ?_
    refine XS.iload X0.here hx rfl (hb hby d19_17) rfl ?_
    exact k
  by_cases hc19_2 : (own_b u0) = ((47 : Int32).toInt8.toInt32)
  · refine own_go (B := s₁.setTop (mkF m 24 #[.val (.ref tb), .val (.int (47 : Int32)), .val (.int (0 : Int32)), .val (.int (2 : Int32)), .val (.int ((47 : Int32).toInt8.toInt32)), .val (.int (0 : Int32))] [(.int (0 : Int32))])) (fun t k => ?_) ?_
    · show Steps p.tables e below (s₁.setTop (mkF m 19 #[.val (.ref tb), .val (.int (47 : Int32)), .val (.int (0 : Int32)), .val (.int (2 : Int32)), .val (.int ((47 : Int32).toInt8.toInt32)), .val (.int (0 : Int32))] [(.int ((47 : Int32).toInt8.toInt32)), (.int (own_b u0))])) _
      refine XS.icmpNo X0.here hx rfl (hb hby d19_19) rfl (teq hc19_2).2 ?_
      refine XS.iload X0.here hx rfl (hb hby d19_22) rfl ?_
      exact k
    obtain ⟨fs, hr, hrun, hended, hW, hsame⟩ := X0.leave (v := some (.int (0 : Int32))) (fun h => by rw [Bd.returns] at h; cases h)
    refine own_done (retOut X0 hx Bd.returns rfl (Or.inl ⟨rfl, Or.inl rfl, _, rfl⟩) (hb hby d19_24) hr) hrun hended ⟨_, _, rfl, ?_, ⟨_, rfl⟩, hW, hsame.mono (by decide) (by decide)⟩
    show Q_rm19 Z ([u0, u1] : List UInt16) h0 n0 (some (.int (0 : Int32))) s₁.heap _
    rw [e0]
    exact ⟨_, ⟨rfl, rfl, rfl⟩, ⟨fun q => absurd q (by decide), fun q => (q ⟨u0, by simp, ((own_b47 (hla u0 (by simp))).1 hc19_2)⟩).elim⟩⟩
  · refine own_go (B := s₁.setTop (mkF m 16 #[.val (.ref tb), .val (.int (47 : Int32)), .val (.int (0 : Int32)), .val (.int (2 : Int32)), .val (.int ((47 : Int32).toInt8.toInt32)), .val (.int (1 : Int32))] [(.int (1 : Int32)), (.ref tb)])) (fun t k => ?_) ?_
    · show Steps p.tables e below (s₁.setTop (mkF m 19 #[.val (.ref tb), .val (.int (47 : Int32)), .val (.int (0 : Int32)), .val (.int (2 : Int32)), .val (.int ((47 : Int32).toInt8.toInt32)), .val (.int (0 : Int32))] [(.int ((47 : Int32).toInt8.toInt32)), (.int (own_b u0))])) _
      refine XS.icmpYes X0.here hx rfl (pc0 := 19) (pc' := 25) rfl (hb hby d19_19) rfl (feq hc19_2).2 (by decide) (by decide) ?_
      refine XS.iinc X0.here hx rfl (hb hby d19_25) rfl (l' := #[.val (.ref tb), .val (.int (47 : Int32)), .val (.int (0 : Int32)), .val (.int (2 : Int32)), .val (.int ((47 : Int32).toInt8.toInt32)), .val (.int (1 : Int32))]) rfl ?_
      refine XS.goto X0.here hx rfl (pc0 := 28) (pc' := 7) rfl (hb hby d19_28) (by decide) (by decide) ?_
      refine XS.iload X0.here hx rfl (hb hby d19_7) rfl ?_
      refine XS.iloadN X0.here hx rfl (hb hby d19_9) rfl ?_
      show Steps p.tables e below (s₁.setTop (mkF m 10 #[.val (.ref tb), .val (.int (47 : Int32)), .val (.int (0 : Int32)), .val (.int (2 : Int32)), .val (.int ((47 : Int32).toInt8.toInt32)), .val (.int (1 : Int32))] [(.int (2 : Int32)), (.int (1 : Int32))])) _
      refine XS.icmpNo X0.here hx rfl (hb hby d19_10) rfl (tlt (by decide : (1 : Int32) < (2 : Int32))).2.1 ?_
      refine XS.aloadN X0.here hx rfl (hb hby d19_13) rfl rfl ?_
      refine XS.iload X0.here hx rfl (hb hby d19_14) rfl ?_
      exact k
    obtain ⟨cl3, Ar3, qa3, Sa3, Na3, Ha3, Ga3⟩ := id V_tb
    have hin3 : ¬ ((1 : Int32) < 0 ∨ cl3.slots.size ≤ ((1 : Int32)).toNatClampNeg) := inb_of Sa3 ⟨by decide, by decide⟩
    have hat3 : cl3.slots[((1 : Int32)).toNatClampNeg]? = some (.int (own_b u1)) := Ha3.at hin3 rfl
    refine own_go (B := s₁.setTop (mkF m 19 #[.val (.ref tb), .val (.int (47 : Int32)), .val (.int (0 : Int32)), .val (.int (2 : Int32)), .val (.int ((47 : Int32).toInt8.toInt32)), .val (.int (1 : Int32))] [(.int ((47 : Int32).toInt8.toInt32)), (.int (own_b u1))])) (fun t k => ?_) ?_
    · show Steps p.tables e below (s₁.setTop (mkF m 16 #[.val (.ref tb), .val (.int (47 : Int32)), .val (.int (0 : Int32)), .val (.int (2 : Int32)), .val (.int ((47 : Int32).toInt8.toInt32)), .val (.int (1 : Int32))] [(.int (1 : Int32)), (.ref tb)])) _
      refine X0.baloadBytes hx (j := (1 : Int32)) (v := (.int (own_b u1))) (by rw [e0]; exact Ar3.1) (State.isArrayOf_alike hZ.alike Ar3.2.1) Ar3.2.2 hin3 hat3 (g := (mkF m 16 #[.val (.ref tb), .val (.int (47 : Int32)), .val (.int (0 : Int32)), .val (.int (2 : Int32)), .val (.int ((47 : Int32).toInt8.toInt32)), .val (.int (1 : Int32))] [(.int (1 : Int32)), (.ref tb)])) rfl rfl (hb hby d19_16) _ ?_
      refine XS.iload X0.here hx rfl (hb hby d19_17) rfl ?_
      exact k
    by_cases hc19_4 : (own_b u1) = ((47 : Int32).toInt8.toInt32)
    · refine own_go (B := s₁.setTop (mkF m 24 #[.val (.ref tb), .val (.int (47 : Int32)), .val (.int (0 : Int32)), .val (.int (2 : Int32)), .val (.int ((47 : Int32).toInt8.toInt32)), .val (.int (1 : Int32))] [(.int (1 : Int32))])) (fun t k => ?_) ?_
      · show Steps p.tables e below (s₁.setTop (mkF m 19 #[.val (.ref tb), .val (.int (47 : Int32)), .val (.int (0 : Int32)), .val (.int (2 : Int32)), .val (.int ((47 : Int32).toInt8.toInt32)), .val (.int (1 : Int32))] [(.int ((47 : Int32).toInt8.toInt32)), (.int (own_b u1))])) _
        refine XS.icmpNo X0.here hx rfl (hb hby d19_19) rfl (teq hc19_4).2 ?_
        refine XS.iload X0.here hx rfl (hb hby d19_22) rfl ?_
        exact k
      obtain ⟨fs, hr, hrun, hended, hW, hsame⟩ := X0.leave (v := some (.int (1 : Int32))) (fun h => by rw [Bd.returns] at h; cases h)
      refine own_done (retOut X0 hx Bd.returns rfl (Or.inl ⟨rfl, Or.inl rfl, _, rfl⟩) (hb hby d19_24) hr) hrun hended ⟨_, _, rfl, ?_, ⟨_, rfl⟩, hW, hsame.mono (by decide) (by decide)⟩
      show Q_rm19 Z ([u0, u1] : List UInt16) h0 n0 (some (.int (1 : Int32))) s₁.heap _
      rw [e0]
      exact ⟨_, ⟨rfl, rfl, rfl⟩, ⟨fun q => absurd q (by decide), fun q => (q ⟨u1, by simp, ((own_b47 (hla u1 (by simp))).1 hc19_4)⟩).elim⟩⟩
    · refine own_go (B := s₁.setTop (mkF m 32 #[.val (.ref tb), .val (.int (47 : Int32)), .val (.int (0 : Int32)), .val (.int (2 : Int32)), .val (.int ((47 : Int32).toInt8.toInt32)), .val (.int (2 : Int32))] [(.int (-1 : Int32))])) (fun t k => ?_) ?_
      · show Steps p.tables e below (s₁.setTop (mkF m 19 #[.val (.ref tb), .val (.int (47 : Int32)), .val (.int (0 : Int32)), .val (.int (2 : Int32)), .val (.int ((47 : Int32).toInt8.toInt32)), .val (.int (1 : Int32))] [(.int ((47 : Int32).toInt8.toInt32)), (.int (own_b u1))])) _
        refine XS.icmpYes X0.here hx rfl (pc0 := 19) (pc' := 25) rfl (hb hby d19_19) rfl (feq hc19_4).2 (by decide) (by decide) ?_
        refine XS.iinc X0.here hx rfl (hb hby d19_25) rfl (l' := #[.val (.ref tb), .val (.int (47 : Int32)), .val (.int (0 : Int32)), .val (.int (2 : Int32)), .val (.int ((47 : Int32).toInt8.toInt32)), .val (.int (2 : Int32))]) rfl ?_
        refine XS.goto X0.here hx rfl (pc0 := 28) (pc' := 7) rfl (hb hby d19_28) (by decide) (by decide) ?_
        refine XS.iload X0.here hx rfl (hb hby d19_7) rfl ?_
        refine XS.iloadN X0.here hx rfl (hb hby d19_9) rfl ?_
        show Steps p.tables e below (s₁.setTop (mkF m 10 #[.val (.ref tb), .val (.int (47 : Int32)), .val (.int (0 : Int32)), .val (.int (2 : Int32)), .val (.int ((47 : Int32).toInt8.toInt32)), .val (.int (2 : Int32))] [(.int (2 : Int32)), (.int (2 : Int32))])) _
        refine XS.icmpYes X0.here hx rfl (pc0 := 10) (pc' := 31) rfl (hb hby d19_10) rfl (flt (by decide : ¬ ((2 : Int32) < (2 : Int32)))).2.1 (by decide) (by decide) ?_
        refine XS.iconst X0.here hx rfl (hb hby d19_31) ?_
        exact k
      obtain ⟨fs, hr, hrun, hended, hW, hsame⟩ := X0.leave (v := some (.int (-1 : Int32))) (fun h => by rw [Bd.returns] at h; cases h)
      refine own_done (retOut X0 hx Bd.returns rfl (Or.inl ⟨rfl, Or.inl rfl, _, rfl⟩) (hb hby d19_32) hr) hrun hended ⟨_, _, rfl, ?_, ⟨_, rfl⟩, hW, hsame.mono (by decide) (by decide)⟩
      show Q_rm19 Z ([u0, u1] : List UInt16) h0 n0 (some (.int (-1 : Int32))) s₁.heap _
      rw [e0]
      exact ⟨_, ⟨rfl, rfl, rfl⟩, ⟨fun _ => own_not (own_allc (fun q => hc19_2 ((own_b47 (hla u0 (by simp))).2 q)) (own_allc (fun q => hc19_4 ((own_b47 (hla u1 (by simp))).2 q)) own_alln)), fun _ => by decide⟩⟩
theorem ef_rm19_3 (m : MethodId) (x0 : Addr) (x1 : Int32) (x2 : Int32) (x3 : Int32) : entryFrame m #[(.ref x0), (.int x1), (.int x2), (.int x3)] 6 = mkF m 0 #[.val (.ref x0), .val (.int x1), .val (.int x2), .val (.int x3), .unset, .unset] [] := by first | (simp [entryFrame, mkF, argsToLocals, Value.category, maxLocals]; done) | rfl
set_option maxRecDepth 65536 in
set_option maxHeartbeats 40000000 in
theorem rm19_3 (l : Launch) (Z : State) (a0 : Array Value) (hw : ∀ d ∈ tables_1, d.before a0 Z = true) (ws : List Jvm.Cond) (tb : Addr) (kb : ClassId) (u0 u1 u2 : UInt16) (h0 : Heap) (n0 : Nat) (Z0 : n0 ≤ h0.size) (V_tb : Arv Z h0 tb kb .byte (3 : Int32) [(.int (own_b u0)), (.int (own_b u1)), (.int (own_b u2))] (.int (0 : Int32))) (hla : ∀ u ∈ ([u0, u1, u2] : List UInt16), ¬ (255 : Int32) < own_w u) :
    MetFree l (⟨"java/lang/StringLatin1", "indexOfChar", "([BIII)I"⟩ : MethodName) (head1 (Jvm.Cond.code (⟨"java/lang/StringLatin1", "indexOfChar", "([BIII)I"⟩ : MethodName) jdk_43_method_23_code 6 (some .int) :: ws) ({ frames := 0, cells := 0, slots := 0, locals := 0 } : Room)) (fun a U => a = #[(.ref tb), (.int (47 : Int32)), (.int (0 : Int32)), (.int (3 : Int32))] ∧ Z.Warmed39 U.vm ∧ U.heap = h0) (fun _ _ _ _ _ => True) (fun _ U o U' => ∃ v L, o = .returned v ∧ Q_rm19 Z ([u0, u1, u2] : List UInt16) h0 n0 v U'.heap L ∧ FrameEnd U o U' L ({ frames := 0, cells := 0, slots := 0, locals := 0 } : Room).cells ({ frames := 0, cells := 0, slots := 0, locals := 0 } : Room).slots) := by
  refine MetFree.of_bodySF (plainFor_of_name pn_19) hisR ?_
  intro p e s m args below meth c s₁ Bd hml0 hP hK
  obtain ⟨rfl, hZ, hh⟩ := hP
  have hx := Bd.exec
  have hby := Bd.bytes
  have hml : c.maxLocals = 6 := hml0
  have hown : s.vm.findClass "java/lang/StringLatin1" = some m.cls := findClass_of_methodNamed Bd.named
  have hnm := (name_of_methodNamed Bd.named Bd.method).1
  have X0 : Stand p l e ({ frames := 0, cells := 0, slots := 0, locals := 0 } : Room) s m #[(.ref tb), (.int (47 : Int32)), (.int (0 : Int32)), (.int (3 : Int32))] below meth c s₁ [] 0 0 := Stand.of_body Bd
  have e0 : s₁.heap = h0 := by rw [← hh, Bd.state]; rfl
  have N0 := Fr.nil n0
  have K : Keep h0 h0 [] := Keep.refl h0 []
  show own_Gd p.tables e below (own_P (Q_rm19 Z ([u0, u1, u2] : List UInt16) h0 n0) s ({ frames := 0, cells := 0, slots := 0, locals := 0 } : Room).cells ({ frames := 0, cells := 0, slots := 0, locals := 0 } : Room).slots) _
  refine own_go (B := s₁.setTop (mkF m 0 #[.val (.ref tb), .val (.int (47 : Int32)), .val (.int (0 : Int32)), .val (.int (3 : Int32)), .unset, .unset] [])) (fun t k => castTop (ef_rm19_3 m tb (47 : Int32) (0 : Int32) (3 : Int32)) k) ?_
  refine own_go (B := s₁.setTop (mkF m 16 #[.val (.ref tb), .val (.int (47 : Int32)), .val (.int (0 : Int32)), .val (.int (3 : Int32)), .val (.int ((47 : Int32).toInt8.toInt32)), .val (.int (0 : Int32))] [(.int (0 : Int32)), (.ref tb)])) (fun t k => ?_) ?_
  · show Steps p.tables e below (s₁.setTop (mkF m 0 #[.val (.ref tb), .val (.int (47 : Int32)), .val (.int (0 : Int32)), .val (.int (3 : Int32)), .unset, .unset] [])) _
    refine XS.iloadN X0.here hx rfl (hb hby d19_0) rfl ?_
    refine XS.i2b X0.here hx rfl (hb hby d19_1) rfl ?_
    refine XS.istore X0.here hx rfl (hb hby d19_2) rfl (l' := #[.val (.ref tb), .val (.int (47 : Int32)), .val (.int (0 : Int32)), .val (.int (3 : Int32)), .val (.int ((47 : Int32).toInt8.toInt32)), .unset]) rfl ?_
    refine XS.iloadN X0.here hx rfl (hb hby d19_4) rfl ?_
    refine XS.istore X0.here hx rfl (hb hby d19_5) rfl (l' := #[.val (.ref tb), .val (.int (47 : Int32)), .val (.int (0 : Int32)), .val (.int (3 : Int32)), .val (.int ((47 : Int32).toInt8.toInt32)), .val (.int (0 : Int32))]) rfl ?_
    show Steps p.tables e below (s₁.setTop (mkF m 7 #[.val (.ref tb), .val (.int (47 : Int32)), .val (.int (0 : Int32)), .val (.int (3 : Int32)), .val (.int ((47 : Int32).toInt8.toInt32)), .val (.int (0 : Int32))] [])) _
    refine XS.iload X0.here hx rfl (hb hby d19_7) rfl ?_
    refine XS.iloadN X0.here hx rfl (hb hby d19_9) rfl ?_
    refine XS.icmpNo X0.here hx rfl (hb hby d19_10) rfl (tlt (by decide : (0 : Int32) < (3 : Int32))).2.1 ?_
    refine XS.aloadN X0.here hx rfl (hb hby d19_13) rfl rfl ?_
    refine XS.iload X0.here hx rfl (hb hby d19_14) rfl ?_
    show Steps p.tables e below (s₁.setTop (mkF m 16 #[.val (.ref tb), .val (.int (47 : Int32)), .val (.int (0 : Int32)), .val (.int (3 : Int32)), .val (.int ((47 : Int32).toInt8.toInt32)), .val (.int (0 : Int32))] [(.int (0 : Int32)), (.ref tb)])) _
    exact k
  obtain ⟨cl1, Ar1, qa1, Sa1, Na1, Ha1, Ga1⟩ := id V_tb
  have hin1 : ¬ ((0 : Int32) < 0 ∨ cl1.slots.size ≤ ((0 : Int32)).toNatClampNeg) := inb_of Sa1 ⟨by decide, by decide⟩
  have hat1 : cl1.slots[((0 : Int32)).toNatClampNeg]? = some (.int (own_b u0)) := Ha1.at hin1 rfl
  refine own_go (B := s₁.setTop (mkF m 19 #[.val (.ref tb), .val (.int (47 : Int32)), .val (.int (0 : Int32)), .val (.int (3 : Int32)), .val (.int ((47 : Int32).toInt8.toInt32)), .val (.int (0 : Int32))] [(.int ((47 : Int32).toInt8.toInt32)), (.int (own_b u0))])) (fun t k => ?_) ?_
  · show Steps p.tables e below (s₁.setTop (mkF m 16 #[.val (.ref tb), .val (.int (47 : Int32)), .val (.int (0 : Int32)), .val (.int (3 : Int32)), .val (.int ((47 : Int32).toInt8.toInt32)), .val (.int (0 : Int32))] [(.int (0 : Int32)), (.ref tb)])) _
    refine X0.baloadBytes hx (j := (0 : Int32)) (v := (.int (own_b u0))) (by rw [e0]; exact Ar1.1) (State.isArrayOf_alike hZ.alike Ar1.2.1) Ar1.2.2 hin1 hat1 (g := (mkF m 16 #[.val (.ref tb), .val (.int (47 : Int32)), .val (.int (0 : Int32)), .val (.int (3 : Int32)), .val (.int ((47 : Int32).toInt8.toInt32)), .val (.int (0 : Int32))] [(.int (0 : Int32)), (.ref tb)])) rfl rfl (hb hby d19_16) _ ?_
    refine XS.iload X0.here hx rfl (hb hby d19_17) rfl ?_
    exact k
  by_cases hc19_2 : (own_b u0) = ((47 : Int32).toInt8.toInt32)
  · refine own_go (B := s₁.setTop (mkF m 24 #[.val (.ref tb), .val (.int (47 : Int32)), .val (.int (0 : Int32)), .val (.int (3 : Int32)), .val (.int ((47 : Int32).toInt8.toInt32)), .val (.int (0 : Int32))] [(.int (0 : Int32))])) (fun t k => ?_) ?_
    · show Steps p.tables e below (s₁.setTop (mkF m 19 #[.val (.ref tb), .val (.int (47 : Int32)), .val (.int (0 : Int32)), .val (.int (3 : Int32)), .val (.int ((47 : Int32).toInt8.toInt32)), .val (.int (0 : Int32))] [(.int ((47 : Int32).toInt8.toInt32)), (.int (own_b u0))])) _
      refine XS.icmpNo X0.here hx rfl (hb hby d19_19) rfl (teq hc19_2).2 ?_
      refine XS.iload X0.here hx rfl (hb hby d19_22) rfl ?_
      exact k
    obtain ⟨fs, hr, hrun, hended, hW, hsame⟩ := X0.leave (v := some (.int (0 : Int32))) (fun h => by rw [Bd.returns] at h; cases h)
    refine own_done (retOut X0 hx Bd.returns rfl (Or.inl ⟨rfl, Or.inl rfl, _, rfl⟩) (hb hby d19_24) hr) hrun hended ⟨_, _, rfl, ?_, ⟨_, rfl⟩, hW, hsame.mono (by decide) (by decide)⟩
    show Q_rm19 Z ([u0, u1, u2] : List UInt16) h0 n0 (some (.int (0 : Int32))) s₁.heap _
    rw [e0]
    exact ⟨_, ⟨rfl, rfl, rfl⟩, ⟨fun q => absurd q (by decide), fun q => (q ⟨u0, by simp, ((own_b47 (hla u0 (by simp))).1 hc19_2)⟩).elim⟩⟩
  · refine own_go (B := s₁.setTop (mkF m 16 #[.val (.ref tb), .val (.int (47 : Int32)), .val (.int (0 : Int32)), .val (.int (3 : Int32)), .val (.int ((47 : Int32).toInt8.toInt32)), .val (.int (1 : Int32))] [(.int (1 : Int32)), (.ref tb)])) (fun t k => ?_) ?_
    · show Steps p.tables e below (s₁.setTop (mkF m 19 #[.val (.ref tb), .val (.int (47 : Int32)), .val (.int (0 : Int32)), .val (.int (3 : Int32)), .val (.int ((47 : Int32).toInt8.toInt32)), .val (.int (0 : Int32))] [(.int ((47 : Int32).toInt8.toInt32)), (.int (own_b u0))])) _
      refine XS.icmpYes X0.here hx rfl (pc0 := 19) (pc' := 25) rfl (hb hby d19_19) rfl (feq hc19_2).2 (by decide) (by decide) ?_
      refine XS.iinc X0.here hx rfl (hb hby d19_25) rfl (l' := #[.val (.ref tb), .val (.int (47 : Int32)), .val (.int (0 : Int32)), .val (.int (3 : Int32)), .val (.int ((47 : Int32).toInt8.toInt32)), .val (.int (1 : Int32))]) rfl ?_
      refine XS.goto X0.here hx rfl (pc0 := 28) (pc' := 7) rfl (hb hby d19_28) (by decide) (by decide) ?_
      refine XS.iload X0.here hx rfl (hb hby d19_7) rfl ?_
      refine XS.iloadN X0.here hx rfl (hb hby d19_9) rfl ?_
      show Steps p.tables e below (s₁.setTop (mkF m 10 #[.val (.ref tb), .val (.int (47 : Int32)), .val (.int (0 : Int32)), .val (.int (3 : Int32)), .val (.int ((47 : Int32).toInt8.toInt32)), .val (.int (1 : Int32))] [(.int (3 : Int32)), (.int (1 : Int32))])) _
      refine XS.icmpNo X0.here hx rfl (hb hby d19_10) rfl (tlt (by decide : (1 : Int32) < (3 : Int32))).2.1 ?_
      refine XS.aloadN X0.here hx rfl (hb hby d19_13) rfl rfl ?_
      refine XS.iload X0.here hx rfl (hb hby d19_14) rfl ?_
      exact k
    obtain ⟨cl3, Ar3, qa3, Sa3, Na3, Ha3, Ga3⟩ := id V_tb
    have hin3 : ¬ ((1 : Int32) < 0 ∨ cl3.slots.size ≤ ((1 : Int32)).toNatClampNeg) := inb_of Sa3 ⟨by decide, by decide⟩
    have hat3 : cl3.slots[((1 : Int32)).toNatClampNeg]? = some (.int (own_b u1)) := Ha3.at hin3 rfl
    refine own_go (B := s₁.setTop (mkF m 19 #[.val (.ref tb), .val (.int (47 : Int32)), .val (.int (0 : Int32)), .val (.int (3 : Int32)), .val (.int ((47 : Int32).toInt8.toInt32)), .val (.int (1 : Int32))] [(.int ((47 : Int32).toInt8.toInt32)), (.int (own_b u1))])) (fun t k => ?_) ?_
    · show Steps p.tables e below (s₁.setTop (mkF m 16 #[.val (.ref tb), .val (.int (47 : Int32)), .val (.int (0 : Int32)), .val (.int (3 : Int32)), .val (.int ((47 : Int32).toInt8.toInt32)), .val (.int (1 : Int32))] [(.int (1 : Int32)), (.ref tb)])) _
      refine X0.baloadBytes hx (j := (1 : Int32)) (v := (.int (own_b u1))) (by rw [e0]; exact Ar3.1) (State.isArrayOf_alike hZ.alike Ar3.2.1) Ar3.2.2 hin3 hat3 (g := (mkF m 16 #[.val (.ref tb), .val (.int (47 : Int32)), .val (.int (0 : Int32)), .val (.int (3 : Int32)), .val (.int ((47 : Int32).toInt8.toInt32)), .val (.int (1 : Int32))] [(.int (1 : Int32)), (.ref tb)])) rfl rfl (hb hby d19_16) _ ?_
      refine XS.iload X0.here hx rfl (hb hby d19_17) rfl ?_
      exact k
    by_cases hc19_4 : (own_b u1) = ((47 : Int32).toInt8.toInt32)
    · refine own_go (B := s₁.setTop (mkF m 24 #[.val (.ref tb), .val (.int (47 : Int32)), .val (.int (0 : Int32)), .val (.int (3 : Int32)), .val (.int ((47 : Int32).toInt8.toInt32)), .val (.int (1 : Int32))] [(.int (1 : Int32))])) (fun t k => ?_) ?_
      · show Steps p.tables e below (s₁.setTop (mkF m 19 #[.val (.ref tb), .val (.int (47 : Int32)), .val (.int (0 : Int32)), .val (.int (3 : Int32)), .val (.int ((47 : Int32).toInt8.toInt32)), .val (.int (1 : Int32))] [(.int ((47 : Int32).toInt8.toInt32)), (.int (own_b u1))])) _
        refine XS.icmpNo X0.here hx rfl (hb hby d19_19) rfl (teq hc19_4).2 ?_
        refine XS.iload X0.here hx rfl (hb hby d19_22) rfl ?_
        exact k
      obtain ⟨fs, hr, hrun, hended, hW, hsame⟩ := X0.leave (v := some (.int (1 : Int32))) (fun h => by rw [Bd.returns] at h; cases h)
      refine own_done (retOut X0 hx Bd.returns rfl (Or.inl ⟨rfl, Or.inl rfl, _, rfl⟩) (hb hby d19_24) hr) hrun hended ⟨_, _, rfl, ?_, ⟨_, rfl⟩, hW, hsame.mono (by decide) (by decide)⟩
      show Q_rm19 Z ([u0, u1, u2] : List UInt16) h0 n0 (some (.int (1 : Int32))) s₁.heap _
      rw [e0]
      exact ⟨_, ⟨rfl, rfl, rfl⟩, ⟨fun q => absurd q (by decide), fun q => (q ⟨u1, by simp, ((own_b47 (hla u1 (by simp))).1 hc19_4)⟩).elim⟩⟩
    · refine own_go (B := s₁.setTop (mkF m 16 #[.val (.ref tb), .val (.int (47 : Int32)), .val (.int (0 : Int32)), .val (.int (3 : Int32)), .val (.int ((47 : Int32).toInt8.toInt32)), .val (.int (2 : Int32))] [(.int (2 : Int32)), (.ref tb)])) (fun t k => ?_) ?_
      · show Steps p.tables e below (s₁.setTop (mkF m 19 #[.val (.ref tb), .val (.int (47 : Int32)), .val (.int (0 : Int32)), .val (.int (3 : Int32)), .val (.int ((47 : Int32).toInt8.toInt32)), .val (.int (1 : Int32))] [(.int ((47 : Int32).toInt8.toInt32)), (.int (own_b u1))])) _
        refine XS.icmpYes X0.here hx rfl (pc0 := 19) (pc' := 25) rfl (hb hby d19_19) rfl (feq hc19_4).2 (by decide) (by decide) ?_
        refine XS.iinc X0.here hx rfl (hb hby d19_25) rfl (l' := #[.val (.ref tb), .val (.int (47 : Int32)), .val (.int (0 : Int32)), .val (.int (3 : Int32)), .val (.int ((47 : Int32).toInt8.toInt32)), .val (.int (2 : Int32))]) rfl ?_
        refine XS.goto X0.here hx rfl (pc0 := 28) (pc' := 7) rfl (hb hby d19_28) (by decide) (by decide) ?_
        refine XS.iload X0.here hx rfl (hb hby d19_7) rfl ?_
        refine XS.iloadN X0.here hx rfl (hb hby d19_9) rfl ?_
        show Steps p.tables e below (s₁.setTop (mkF m 10 #[.val (.ref tb), .val (.int (47 : Int32)), .val (.int (0 : Int32)), .val (.int (3 : Int32)), .val (.int ((47 : Int32).toInt8.toInt32)), .val (.int (2 : Int32))] [(.int (3 : Int32)), (.int (2 : Int32))])) _
        refine XS.icmpNo X0.here hx rfl (hb hby d19_10) rfl (tlt (by decide : (2 : Int32) < (3 : Int32))).2.1 ?_
        refine XS.aloadN X0.here hx rfl (hb hby d19_13) rfl rfl ?_
        refine XS.iload X0.here hx rfl (hb hby d19_14) rfl ?_
        exact k
      obtain ⟨cl5, Ar5, qa5, Sa5, Na5, Ha5, Ga5⟩ := id V_tb
      have hin5 : ¬ ((2 : Int32) < 0 ∨ cl5.slots.size ≤ ((2 : Int32)).toNatClampNeg) := inb_of Sa5 ⟨by decide, by decide⟩
      have hat5 : cl5.slots[((2 : Int32)).toNatClampNeg]? = some (.int (own_b u2)) := Ha5.at hin5 rfl
      refine own_go (B := s₁.setTop (mkF m 19 #[.val (.ref tb), .val (.int (47 : Int32)), .val (.int (0 : Int32)), .val (.int (3 : Int32)), .val (.int ((47 : Int32).toInt8.toInt32)), .val (.int (2 : Int32))] [(.int ((47 : Int32).toInt8.toInt32)), (.int (own_b u2))])) (fun t k => ?_) ?_
      · show Steps p.tables e below (s₁.setTop (mkF m 16 #[.val (.ref tb), .val (.int (47 : Int32)), .val (.int (0 : Int32)), .val (.int (3 : Int32)), .val (.int ((47 : Int32).toInt8.toInt32)), .val (.int (2 : Int32))] [(.int (2 : Int32)), (.ref tb)])) _
        refine X0.baloadBytes hx (j := (2 : Int32)) (v := (.int (own_b u2))) (by rw [e0]; exact Ar5.1) (State.isArrayOf_alike hZ.alike Ar5.2.1) Ar5.2.2 hin5 hat5 (g := (mkF m 16 #[.val (.ref tb), .val (.int (47 : Int32)), .val (.int (0 : Int32)), .val (.int (3 : Int32)), .val (.int ((47 : Int32).toInt8.toInt32)), .val (.int (2 : Int32))] [(.int (2 : Int32)), (.ref tb)])) rfl rfl (hb hby d19_16) _ ?_
        refine XS.iload X0.here hx rfl (hb hby d19_17) rfl ?_
        exact k
      by_cases hc19_6 : (own_b u2) = ((47 : Int32).toInt8.toInt32)
      · refine own_go (B := s₁.setTop (mkF m 24 #[.val (.ref tb), .val (.int (47 : Int32)), .val (.int (0 : Int32)), .val (.int (3 : Int32)), .val (.int ((47 : Int32).toInt8.toInt32)), .val (.int (2 : Int32))] [(.int (2 : Int32))])) (fun t k => ?_) ?_
        · show Steps p.tables e below (s₁.setTop (mkF m 19 #[.val (.ref tb), .val (.int (47 : Int32)), .val (.int (0 : Int32)), .val (.int (3 : Int32)), .val (.int ((47 : Int32).toInt8.toInt32)), .val (.int (2 : Int32))] [(.int ((47 : Int32).toInt8.toInt32)), (.int (own_b u2))])) _
          refine XS.icmpNo X0.here hx rfl (hb hby d19_19) rfl (teq hc19_6).2 ?_
          refine XS.iload X0.here hx rfl (hb hby d19_22) rfl ?_
          exact k
        obtain ⟨fs, hr, hrun, hended, hW, hsame⟩ := X0.leave (v := some (.int (2 : Int32))) (fun h => by rw [Bd.returns] at h; cases h)
        refine own_done (retOut X0 hx Bd.returns rfl (Or.inl ⟨rfl, Or.inl rfl, _, rfl⟩) (hb hby d19_24) hr) hrun hended ⟨_, _, rfl, ?_, ⟨_, rfl⟩, hW, hsame.mono (by decide) (by decide)⟩
        show Q_rm19 Z ([u0, u1, u2] : List UInt16) h0 n0 (some (.int (2 : Int32))) s₁.heap _
        rw [e0]
        exact ⟨_, ⟨rfl, rfl, rfl⟩, ⟨fun q => absurd q (by decide), fun q => (q ⟨u2, by simp, ((own_b47 (hla u2 (by simp))).1 hc19_6)⟩).elim⟩⟩
      · refine own_go (B := s₁.setTop (mkF m 32 #[.val (.ref tb), .val (.int (47 : Int32)), .val (.int (0 : Int32)), .val (.int (3 : Int32)), .val (.int ((47 : Int32).toInt8.toInt32)), .val (.int (3 : Int32))] [(.int (-1 : Int32))])) (fun t k => ?_) ?_
        · show Steps p.tables e below (s₁.setTop (mkF m 19 #[.val (.ref tb), .val (.int (47 : Int32)), .val (.int (0 : Int32)), .val (.int (3 : Int32)), .val (.int ((47 : Int32).toInt8.toInt32)), .val (.int (2 : Int32))] [(.int ((47 : Int32).toInt8.toInt32)), (.int (own_b u2))])) _
          refine XS.icmpYes X0.here hx rfl (pc0 := 19) (pc' := 25) rfl (hb hby d19_19) rfl (feq hc19_6).2 (by decide) (by decide) ?_
          refine XS.iinc X0.here hx rfl (hb hby d19_25) rfl (l' := #[.val (.ref tb), .val (.int (47 : Int32)), .val (.int (0 : Int32)), .val (.int (3 : Int32)), .val (.int ((47 : Int32).toInt8.toInt32)), .val (.int (3 : Int32))]) rfl ?_
          refine XS.goto X0.here hx rfl (pc0 := 28) (pc' := 7) rfl (hb hby d19_28) (by decide) (by decide) ?_
          refine XS.iload X0.here hx rfl (hb hby d19_7) rfl ?_
          refine XS.iloadN X0.here hx rfl (hb hby d19_9) rfl ?_
          show Steps p.tables e below (s₁.setTop (mkF m 10 #[.val (.ref tb), .val (.int (47 : Int32)), .val (.int (0 : Int32)), .val (.int (3 : Int32)), .val (.int ((47 : Int32).toInt8.toInt32)), .val (.int (3 : Int32))] [(.int (3 : Int32)), (.int (3 : Int32))])) _
          refine XS.icmpYes X0.here hx rfl (pc0 := 10) (pc' := 31) rfl (hb hby d19_10) rfl (flt (by decide : ¬ ((3 : Int32) < (3 : Int32)))).2.1 (by decide) (by decide) ?_
          refine XS.iconst X0.here hx rfl (hb hby d19_31) ?_
          exact k
        obtain ⟨fs, hr, hrun, hended, hW, hsame⟩ := X0.leave (v := some (.int (-1 : Int32))) (fun h => by rw [Bd.returns] at h; cases h)
        refine own_done (retOut X0 hx Bd.returns rfl (Or.inl ⟨rfl, Or.inl rfl, _, rfl⟩) (hb hby d19_32) hr) hrun hended ⟨_, _, rfl, ?_, ⟨_, rfl⟩, hW, hsame.mono (by decide) (by decide)⟩
        show Q_rm19 Z ([u0, u1, u2] : List UInt16) h0 n0 (some (.int (-1 : Int32))) s₁.heap _
        rw [e0]
        exact ⟨_, ⟨rfl, rfl, rfl⟩, ⟨fun _ => own_not (own_allc (fun q => hc19_2 ((own_b47 (hla u0 (by simp))).2 q)) (own_allc (fun q => hc19_4 ((own_b47 (hla u1 (by simp))).2 q)) (own_allc (fun q => hc19_6 ((own_b47 (hla u2 (by simp))).2 q)) own_alln))), fun _ => by decide⟩⟩
theorem ef_rm19_4 (m : MethodId) (x0 : Addr) (x1 : Int32) (x2 : Int32) (x3 : Int32) : entryFrame m #[(.ref x0), (.int x1), (.int x2), (.int x3)] 6 = mkF m 0 #[.val (.ref x0), .val (.int x1), .val (.int x2), .val (.int x3), .unset, .unset] [] := by first | (simp [entryFrame, mkF, argsToLocals, Value.category, maxLocals]; done) | rfl
set_option maxRecDepth 65536 in
set_option maxHeartbeats 40000000 in
theorem rm19_4 (l : Launch) (Z : State) (a0 : Array Value) (hw : ∀ d ∈ tables_1, d.before a0 Z = true) (ws : List Jvm.Cond) (tb : Addr) (kb : ClassId) (u0 u1 u2 u3 : UInt16) (h0 : Heap) (n0 : Nat) (Z0 : n0 ≤ h0.size) (V_tb : Arv Z h0 tb kb .byte (4 : Int32) [(.int (own_b u0)), (.int (own_b u1)), (.int (own_b u2)), (.int (own_b u3))] (.int (0 : Int32))) (hla : ∀ u ∈ ([u0, u1, u2, u3] : List UInt16), ¬ (255 : Int32) < own_w u) :
    MetFree l (⟨"java/lang/StringLatin1", "indexOfChar", "([BIII)I"⟩ : MethodName) (head1 (Jvm.Cond.code (⟨"java/lang/StringLatin1", "indexOfChar", "([BIII)I"⟩ : MethodName) jdk_43_method_23_code 6 (some .int) :: ws) ({ frames := 0, cells := 0, slots := 0, locals := 0 } : Room)) (fun a U => a = #[(.ref tb), (.int (47 : Int32)), (.int (0 : Int32)), (.int (4 : Int32))] ∧ Z.Warmed39 U.vm ∧ U.heap = h0) (fun _ _ _ _ _ => True) (fun _ U o U' => ∃ v L, o = .returned v ∧ Q_rm19 Z ([u0, u1, u2, u3] : List UInt16) h0 n0 v U'.heap L ∧ FrameEnd U o U' L ({ frames := 0, cells := 0, slots := 0, locals := 0 } : Room).cells ({ frames := 0, cells := 0, slots := 0, locals := 0 } : Room).slots) := by
  refine MetFree.of_bodySF (plainFor_of_name pn_19) hisR ?_
  intro p e s m args below meth c s₁ Bd hml0 hP hK
  obtain ⟨rfl, hZ, hh⟩ := hP
  have hx := Bd.exec
  have hby := Bd.bytes
  have hml : c.maxLocals = 6 := hml0
  have hown : s.vm.findClass "java/lang/StringLatin1" = some m.cls := findClass_of_methodNamed Bd.named
  have hnm := (name_of_methodNamed Bd.named Bd.method).1
  have X0 : Stand p l e ({ frames := 0, cells := 0, slots := 0, locals := 0 } : Room) s m #[(.ref tb), (.int (47 : Int32)), (.int (0 : Int32)), (.int (4 : Int32))] below meth c s₁ [] 0 0 := Stand.of_body Bd
  have e0 : s₁.heap = h0 := by rw [← hh, Bd.state]; rfl
  have N0 := Fr.nil n0
  have K : Keep h0 h0 [] := Keep.refl h0 []
  show own_Gd p.tables e below (own_P (Q_rm19 Z ([u0, u1, u2, u3] : List UInt16) h0 n0) s ({ frames := 0, cells := 0, slots := 0, locals := 0 } : Room).cells ({ frames := 0, cells := 0, slots := 0, locals := 0 } : Room).slots) _
  refine own_go (B := s₁.setTop (mkF m 0 #[.val (.ref tb), .val (.int (47 : Int32)), .val (.int (0 : Int32)), .val (.int (4 : Int32)), .unset, .unset] [])) (fun t k => castTop (ef_rm19_4 m tb (47 : Int32) (0 : Int32) (4 : Int32)) k) ?_
  refine own_go (B := s₁.setTop (mkF m 16 #[.val (.ref tb), .val (.int (47 : Int32)), .val (.int (0 : Int32)), .val (.int (4 : Int32)), .val (.int ((47 : Int32).toInt8.toInt32)), .val (.int (0 : Int32))] [(.int (0 : Int32)), (.ref tb)])) (fun t k => ?_) ?_
  · show Steps p.tables e below (s₁.setTop (mkF m 0 #[.val (.ref tb), .val (.int (47 : Int32)), .val (.int (0 : Int32)), .val (.int (4 : Int32)), .unset, .unset] [])) _
    refine XS.iloadN X0.here hx rfl (hb hby d19_0) rfl ?_
    refine XS.i2b X0.here hx rfl (hb hby d19_1) rfl ?_
    refine XS.istore X0.here hx rfl (hb hby d19_2) rfl (l' := #[.val (.ref tb), .val (.int (47 : Int32)), .val (.int (0 : Int32)), .val (.int (4 : Int32)), .val (.int ((47 : Int32).toInt8.toInt32)), .unset]) rfl ?_
    refine XS.iloadN X0.here hx rfl (hb hby d19_4) rfl ?_
    refine XS.istore X0.here hx rfl (hb hby d19_5) rfl (l' := #[.val (.ref tb), .val (.int (47 : Int32)), .val (.int (0 : Int32)), .val (.int (4 : Int32)), .val (.int ((47 : Int32).toInt8.toInt32)), .val (.int (0 : Int32))]) rfl ?_
    show Steps p.tables e below (s₁.setTop (mkF m 7 #[.val (.ref tb), .val (.int (47 : Int32)), .val (.int (0 : Int32)), .val (.int (4 : Int32)), .val (.int ((47 : Int32).toInt8.toInt32)), .val (.int (0 : Int32))] [])) _
    refine XS.iload X0.here hx rfl (hb hby d19_7) rfl ?_
    refine XS.iloadN X0.here hx rfl (hb hby d19_9) rfl ?_
    refine XS.icmpNo X0.here hx rfl (hb hby d19_10) rfl (tlt (by decide : (0 : Int32) < (4 : Int32))).2.1 ?_
    refine XS.aloadN X0.here hx rfl (hb hby d19_13) rfl rfl ?_
    refine XS.iload X0.here hx rfl (hb hby d19_14) rfl ?_
    show Steps p.tables e below (s₁.setTop (mkF m 16 #[.val (.ref tb), .val (.int (47 : Int32)), .val (.int (0 : Int32)), .val (.int (4 : Int32)), .val (.int ((47 : Int32).toInt8.toInt32)), .val (.int (0 : Int32))] [(.int (0 : Int32)), (.ref tb)])) _
    exact k
  obtain ⟨cl1, Ar1, qa1, Sa1, Na1, Ha1, Ga1⟩ := id V_tb
  have hin1 : ¬ ((0 : Int32) < 0 ∨ cl1.slots.size ≤ ((0 : Int32)).toNatClampNeg) := inb_of Sa1 ⟨by decide, by decide⟩
  have hat1 : cl1.slots[((0 : Int32)).toNatClampNeg]? = some (.int (own_b u0)) := Ha1.at hin1 rfl
  refine own_go (B := s₁.setTop (mkF m 19 #[.val (.ref tb), .val (.int (47 : Int32)), .val (.int (0 : Int32)), .val (.int (4 : Int32)), .val (.int ((47 : Int32).toInt8.toInt32)), .val (.int (0 : Int32))] [(.int ((47 : Int32).toInt8.toInt32)), (.int (own_b u0))])) (fun t k => ?_) ?_
  · show Steps p.tables e below (s₁.setTop (mkF m 16 #[.val (.ref tb), .val (.int (47 : Int32)), .val (.int (0 : Int32)), .val (.int (4 : Int32)), .val (.int ((47 : Int32).toInt8.toInt32)), .val (.int (0 : Int32))] [(.int (0 : Int32)), (.ref tb)])) _
    refine X0.baloadBytes hx (j := (0 : Int32)) (v := (.int (own_b u0))) (by rw [e0]; exact Ar1.1) (State.isArrayOf_alike hZ.alike Ar1.2.1) Ar1.2.2 hin1 hat1 (g := (mkF m 16 #[.val (.ref tb), .val (.int (47 : Int32)), .val (.int (0 : Int32)), .val (.int (4 : Int32)), .val (.int ((47 : Int32).toInt8.toInt32)), .val (.int (0 : Int32))] [(.int (0 : Int32)), (.ref tb)])) rfl rfl (hb hby d19_16) _ ?_
    refine XS.iload X0.here hx rfl (hb hby d19_17) rfl ?_
    exact k
  by_cases hc19_2 : (own_b u0) = ((47 : Int32).toInt8.toInt32)
  · refine own_go (B := s₁.setTop (mkF m 24 #[.val (.ref tb), .val (.int (47 : Int32)), .val (.int (0 : Int32)), .val (.int (4 : Int32)), .val (.int ((47 : Int32).toInt8.toInt32)), .val (.int (0 : Int32))] [(.int (0 : Int32))])) (fun t k => ?_) ?_
    · show Steps p.tables e below (s₁.setTop (mkF m 19 #[.val (.ref tb), .val (.int (47 : Int32)), .val (.int (0 : Int32)), .val (.int (4 : Int32)), .val (.int ((47 : Int32).toInt8.toInt32)), .val (.int (0 : Int32))] [(.int ((47 : Int32).toInt8.toInt32)), (.int (own_b u0))])) _
      refine XS.icmpNo X0.here hx rfl (hb hby d19_19) rfl (teq hc19_2).2 ?_
      refine XS.iload X0.here hx rfl (hb hby d19_22) rfl ?_
      exact k
    obtain ⟨fs, hr, hrun, hended, hW, hsame⟩ := X0.leave (v := some (.int (0 : Int32))) (fun h => by rw [Bd.returns] at h; cases h)
    refine own_done (retOut X0 hx Bd.returns rfl (Or.inl ⟨rfl, Or.inl rfl, _, rfl⟩) (hb hby d19_24) hr) hrun hended ⟨_, _, rfl, ?_, ⟨_, rfl⟩, hW, hsame.mono (by decide) (by decide)⟩
    show Q_rm19 Z ([u0, u1, u2, u3] : List UInt16) h0 n0 (some (.int (0 : Int32))) s₁.heap _
    rw [e0]
    exact ⟨_, ⟨rfl, rfl, rfl⟩, ⟨fun q => absurd q (by decide), fun q => (q ⟨u0, by simp, ((own_b47 (hla u0 (by simp))).1 hc19_2)⟩).elim⟩⟩
  · refine own_go (B := s₁.setTop (mkF m 16 #[.val (.ref tb), .val (.int (47 : Int32)), .val (.int (0 : Int32)), .val (.int (4 : Int32)), .val (.int ((47 : Int32).toInt8.toInt32)), .val (.int (1 : Int32))] [(.int (1 : Int32)), (.ref tb)])) (fun t k => ?_) ?_
    · show Steps p.tables e below (s₁.setTop (mkF m 19 #[.val (.ref tb), .val (.int (47 : Int32)), .val (.int (0 : Int32)), .val (.int (4 : Int32)), .val (.int ((47 : Int32).toInt8.toInt32)), .val (.int (0 : Int32))] [(.int ((47 : Int32).toInt8.toInt32)), (.int (own_b u0))])) _
      refine XS.icmpYes X0.here hx rfl (pc0 := 19) (pc' := 25) rfl (hb hby d19_19) rfl (feq hc19_2).2 (by decide) (by decide) ?_
      refine XS.iinc X0.here hx rfl (hb hby d19_25) rfl (l' := #[.val (.ref tb), .val (.int (47 : Int32)), .val (.int (0 : Int32)), .val (.int (4 : Int32)), .val (.int ((47 : Int32).toInt8.toInt32)), .val (.int (1 : Int32))]) rfl ?_
      refine XS.goto X0.here hx rfl (pc0 := 28) (pc' := 7) rfl (hb hby d19_28) (by decide) (by decide) ?_
      refine XS.iload X0.here hx rfl (hb hby d19_7) rfl ?_
      refine XS.iloadN X0.here hx rfl (hb hby d19_9) rfl ?_
      show Steps p.tables e below (s₁.setTop (mkF m 10 #[.val (.ref tb), .val (.int (47 : Int32)), .val (.int (0 : Int32)), .val (.int (4 : Int32)), .val (.int ((47 : Int32).toInt8.toInt32)), .val (.int (1 : Int32))] [(.int (4 : Int32)), (.int (1 : Int32))])) _
      refine XS.icmpNo X0.here hx rfl (hb hby d19_10) rfl (tlt (by decide : (1 : Int32) < (4 : Int32))).2.1 ?_
      refine XS.aloadN X0.here hx rfl (hb hby d19_13) rfl rfl ?_
      refine XS.iload X0.here hx rfl (hb hby d19_14) rfl ?_
      exact k
    obtain ⟨cl3, Ar3, qa3, Sa3, Na3, Ha3, Ga3⟩ := id V_tb
    have hin3 : ¬ ((1 : Int32) < 0 ∨ cl3.slots.size ≤ ((1 : Int32)).toNatClampNeg) := inb_of Sa3 ⟨by decide, by decide⟩
    have hat3 : cl3.slots[((1 : Int32)).toNatClampNeg]? = some (.int (own_b u1)) := Ha3.at hin3 rfl
    refine own_go (B := s₁.setTop (mkF m 19 #[.val (.ref tb), .val (.int (47 : Int32)), .val (.int (0 : Int32)), .val (.int (4 : Int32)), .val (.int ((47 : Int32).toInt8.toInt32)), .val (.int (1 : Int32))] [(.int ((47 : Int32).toInt8.toInt32)), (.int (own_b u1))])) (fun t k => ?_) ?_
    · show Steps p.tables e below (s₁.setTop (mkF m 16 #[.val (.ref tb), .val (.int (47 : Int32)), .val (.int (0 : Int32)), .val (.int (4 : Int32)), .val (.int ((47 : Int32).toInt8.toInt32)), .val (.int (1 : Int32))] [(.int (1 : Int32)), (.ref tb)])) _
      refine X0.baloadBytes hx (j := (1 : Int32)) (v := (.int (own_b u1))) (by rw [e0]; exact Ar3.1) (State.isArrayOf_alike hZ.alike Ar3.2.1) Ar3.2.2 hin3 hat3 (g := (mkF m 16 #[.val (.ref tb), .val (.int (47 : Int32)), .val (.int (0 : Int32)), .val (.int (4 : Int32)), .val (.int ((47 : Int32).toInt8.toInt32)), .val (.int (1 : Int32))] [(.int (1 : Int32)), (.ref tb)])) rfl rfl (hb hby d19_16) _ ?_
      refine XS.iload X0.here hx rfl (hb hby d19_17) rfl ?_
      exact k
    by_cases hc19_4 : (own_b u1) = ((47 : Int32).toInt8.toInt32)
    · refine own_go (B := s₁.setTop (mkF m 24 #[.val (.ref tb), .val (.int (47 : Int32)), .val (.int (0 : Int32)), .val (.int (4 : Int32)), .val (.int ((47 : Int32).toInt8.toInt32)), .val (.int (1 : Int32))] [(.int (1 : Int32))])) (fun t k => ?_) ?_
      · show Steps p.tables e below (s₁.setTop (mkF m 19 #[.val (.ref tb), .val (.int (47 : Int32)), .val (.int (0 : Int32)), .val (.int (4 : Int32)), .val (.int ((47 : Int32).toInt8.toInt32)), .val (.int (1 : Int32))] [(.int ((47 : Int32).toInt8.toInt32)), (.int (own_b u1))])) _
        refine XS.icmpNo X0.here hx rfl (hb hby d19_19) rfl (teq hc19_4).2 ?_
        refine XS.iload X0.here hx rfl (hb hby d19_22) rfl ?_
        exact k
      obtain ⟨fs, hr, hrun, hended, hW, hsame⟩ := X0.leave (v := some (.int (1 : Int32))) (fun h => by rw [Bd.returns] at h; cases h)
      refine own_done (retOut X0 hx Bd.returns rfl (Or.inl ⟨rfl, Or.inl rfl, _, rfl⟩) (hb hby d19_24) hr) hrun hended ⟨_, _, rfl, ?_, ⟨_, rfl⟩, hW, hsame.mono (by decide) (by decide)⟩
      show Q_rm19 Z ([u0, u1, u2, u3] : List UInt16) h0 n0 (some (.int (1 : Int32))) s₁.heap _
      rw [e0]
      exact ⟨_, ⟨rfl, rfl, rfl⟩, ⟨fun q => absurd q (by decide), fun q => (q ⟨u1, by simp, ((own_b47 (hla u1 (by simp))).1 hc19_4)⟩).elim⟩⟩
    · refine own_go (B := s₁.setTop (mkF m 16 #[.val (.ref tb), .val (.int (47 : Int32)), .val (.int (0 : Int32)), .val (.int (4 : Int32)), .val (.int ((47 : Int32).toInt8.toInt32)), .val (.int (2 : Int32))] [(.int (2 : Int32)), (.ref tb)])) (fun t k => ?_) ?_
      · show Steps p.tables e below (s₁.setTop (mkF m 19 #[.val (.ref tb), .val (.int (47 : Int32)), .val (.int (0 : Int32)), .val (.int (4 : Int32)), .val (.int ((47 : Int32).toInt8.toInt32)), .val (.int (1 : Int32))] [(.int ((47 : Int32).toInt8.toInt32)), (.int (own_b u1))])) _
        refine XS.icmpYes X0.here hx rfl (pc0 := 19) (pc' := 25) rfl (hb hby d19_19) rfl (feq hc19_4).2 (by decide) (by decide) ?_
        refine XS.iinc X0.here hx rfl (hb hby d19_25) rfl (l' := #[.val (.ref tb), .val (.int (47 : Int32)), .val (.int (0 : Int32)), .val (.int (4 : Int32)), .val (.int ((47 : Int32).toInt8.toInt32)), .val (.int (2 : Int32))]) rfl ?_
        refine XS.goto X0.here hx rfl (pc0 := 28) (pc' := 7) rfl (hb hby d19_28) (by decide) (by decide) ?_
        refine XS.iload X0.here hx rfl (hb hby d19_7) rfl ?_
        refine XS.iloadN X0.here hx rfl (hb hby d19_9) rfl ?_
        show Steps p.tables e below (s₁.setTop (mkF m 10 #[.val (.ref tb), .val (.int (47 : Int32)), .val (.int (0 : Int32)), .val (.int (4 : Int32)), .val (.int ((47 : Int32).toInt8.toInt32)), .val (.int (2 : Int32))] [(.int (4 : Int32)), (.int (2 : Int32))])) _
        refine XS.icmpNo X0.here hx rfl (hb hby d19_10) rfl (tlt (by decide : (2 : Int32) < (4 : Int32))).2.1 ?_
        refine XS.aloadN X0.here hx rfl (hb hby d19_13) rfl rfl ?_
        refine XS.iload X0.here hx rfl (hb hby d19_14) rfl ?_
        exact k
      obtain ⟨cl5, Ar5, qa5, Sa5, Na5, Ha5, Ga5⟩ := id V_tb
      have hin5 : ¬ ((2 : Int32) < 0 ∨ cl5.slots.size ≤ ((2 : Int32)).toNatClampNeg) := inb_of Sa5 ⟨by decide, by decide⟩
      have hat5 : cl5.slots[((2 : Int32)).toNatClampNeg]? = some (.int (own_b u2)) := Ha5.at hin5 rfl
      refine own_go (B := s₁.setTop (mkF m 19 #[.val (.ref tb), .val (.int (47 : Int32)), .val (.int (0 : Int32)), .val (.int (4 : Int32)), .val (.int ((47 : Int32).toInt8.toInt32)), .val (.int (2 : Int32))] [(.int ((47 : Int32).toInt8.toInt32)), (.int (own_b u2))])) (fun t k => ?_) ?_
      · show Steps p.tables e below (s₁.setTop (mkF m 16 #[.val (.ref tb), .val (.int (47 : Int32)), .val (.int (0 : Int32)), .val (.int (4 : Int32)), .val (.int ((47 : Int32).toInt8.toInt32)), .val (.int (2 : Int32))] [(.int (2 : Int32)), (.ref tb)])) _
        refine X0.baloadBytes hx (j := (2 : Int32)) (v := (.int (own_b u2))) (by rw [e0]; exact Ar5.1) (State.isArrayOf_alike hZ.alike Ar5.2.1) Ar5.2.2 hin5 hat5 (g := (mkF m 16 #[.val (.ref tb), .val (.int (47 : Int32)), .val (.int (0 : Int32)), .val (.int (4 : Int32)), .val (.int ((47 : Int32).toInt8.toInt32)), .val (.int (2 : Int32))] [(.int (2 : Int32)), (.ref tb)])) rfl rfl (hb hby d19_16) _ ?_
        refine XS.iload X0.here hx rfl (hb hby d19_17) rfl ?_
        exact k
      by_cases hc19_6 : (own_b u2) = ((47 : Int32).toInt8.toInt32)
      · refine own_go (B := s₁.setTop (mkF m 24 #[.val (.ref tb), .val (.int (47 : Int32)), .val (.int (0 : Int32)), .val (.int (4 : Int32)), .val (.int ((47 : Int32).toInt8.toInt32)), .val (.int (2 : Int32))] [(.int (2 : Int32))])) (fun t k => ?_) ?_
        · show Steps p.tables e below (s₁.setTop (mkF m 19 #[.val (.ref tb), .val (.int (47 : Int32)), .val (.int (0 : Int32)), .val (.int (4 : Int32)), .val (.int ((47 : Int32).toInt8.toInt32)), .val (.int (2 : Int32))] [(.int ((47 : Int32).toInt8.toInt32)), (.int (own_b u2))])) _
          refine XS.icmpNo X0.here hx rfl (hb hby d19_19) rfl (teq hc19_6).2 ?_
          refine XS.iload X0.here hx rfl (hb hby d19_22) rfl ?_
          exact k
        obtain ⟨fs, hr, hrun, hended, hW, hsame⟩ := X0.leave (v := some (.int (2 : Int32))) (fun h => by rw [Bd.returns] at h; cases h)
        refine own_done (retOut X0 hx Bd.returns rfl (Or.inl ⟨rfl, Or.inl rfl, _, rfl⟩) (hb hby d19_24) hr) hrun hended ⟨_, _, rfl, ?_, ⟨_, rfl⟩, hW, hsame.mono (by decide) (by decide)⟩
        show Q_rm19 Z ([u0, u1, u2, u3] : List UInt16) h0 n0 (some (.int (2 : Int32))) s₁.heap _
        rw [e0]
        exact ⟨_, ⟨rfl, rfl, rfl⟩, ⟨fun q => absurd q (by decide), fun q => (q ⟨u2, by simp, ((own_b47 (hla u2 (by simp))).1 hc19_6)⟩).elim⟩⟩
      · refine own_go (B := s₁.setTop (mkF m 16 #[.val (.ref tb), .val (.int (47 : Int32)), .val (.int (0 : Int32)), .val (.int (4 : Int32)), .val (.int ((47 : Int32).toInt8.toInt32)), .val (.int (3 : Int32))] [(.int (3 : Int32)), (.ref tb)])) (fun t k => ?_) ?_
        · show Steps p.tables e below (s₁.setTop (mkF m 19 #[.val (.ref tb), .val (.int (47 : Int32)), .val (.int (0 : Int32)), .val (.int (4 : Int32)), .val (.int ((47 : Int32).toInt8.toInt32)), .val (.int (2 : Int32))] [(.int ((47 : Int32).toInt8.toInt32)), (.int (own_b u2))])) _
          refine XS.icmpYes X0.here hx rfl (pc0 := 19) (pc' := 25) rfl (hb hby d19_19) rfl (feq hc19_6).2 (by decide) (by decide) ?_
          refine XS.iinc X0.here hx rfl (hb hby d19_25) rfl (l' := #[.val (.ref tb), .val (.int (47 : Int32)), .val (.int (0 : Int32)), .val (.int (4 : Int32)), .val (.int ((47 : Int32).toInt8.toInt32)), .val (.int (3 : Int32))]) rfl ?_
          refine XS.goto X0.here hx rfl (pc0 := 28) (pc' := 7) rfl (hb hby d19_28) (by decide) (by decide) ?_
          refine XS.iload X0.here hx rfl (hb hby d19_7) rfl ?_
          refine XS.iloadN X0.here hx rfl (hb hby d19_9) rfl ?_
          show Steps p.tables e below (s₁.setTop (mkF m 10 #[.val (.ref tb), .val (.int (47 : Int32)), .val (.int (0 : Int32)), .val (.int (4 : Int32)), .val (.int ((47 : Int32).toInt8.toInt32)), .val (.int (3 : Int32))] [(.int (4 : Int32)), (.int (3 : Int32))])) _
          refine XS.icmpNo X0.here hx rfl (hb hby d19_10) rfl (tlt (by decide : (3 : Int32) < (4 : Int32))).2.1 ?_
          refine XS.aloadN X0.here hx rfl (hb hby d19_13) rfl rfl ?_
          refine XS.iload X0.here hx rfl (hb hby d19_14) rfl ?_
          exact k
        obtain ⟨cl7, Ar7, qa7, Sa7, Na7, Ha7, Ga7⟩ := id V_tb
        have hin7 : ¬ ((3 : Int32) < 0 ∨ cl7.slots.size ≤ ((3 : Int32)).toNatClampNeg) := inb_of Sa7 ⟨by decide, by decide⟩
        have hat7 : cl7.slots[((3 : Int32)).toNatClampNeg]? = some (.int (own_b u3)) := Ha7.at hin7 rfl
        refine own_go (B := s₁.setTop (mkF m 19 #[.val (.ref tb), .val (.int (47 : Int32)), .val (.int (0 : Int32)), .val (.int (4 : Int32)), .val (.int ((47 : Int32).toInt8.toInt32)), .val (.int (3 : Int32))] [(.int ((47 : Int32).toInt8.toInt32)), (.int (own_b u3))])) (fun t k => ?_) ?_
        · show Steps p.tables e below (s₁.setTop (mkF m 16 #[.val (.ref tb), .val (.int (47 : Int32)), .val (.int (0 : Int32)), .val (.int (4 : Int32)), .val (.int ((47 : Int32).toInt8.toInt32)), .val (.int (3 : Int32))] [(.int (3 : Int32)), (.ref tb)])) _
          refine X0.baloadBytes hx (j := (3 : Int32)) (v := (.int (own_b u3))) (by rw [e0]; exact Ar7.1) (State.isArrayOf_alike hZ.alike Ar7.2.1) Ar7.2.2 hin7 hat7 (g := (mkF m 16 #[.val (.ref tb), .val (.int (47 : Int32)), .val (.int (0 : Int32)), .val (.int (4 : Int32)), .val (.int ((47 : Int32).toInt8.toInt32)), .val (.int (3 : Int32))] [(.int (3 : Int32)), (.ref tb)])) rfl rfl (hb hby d19_16) _ ?_
          refine XS.iload X0.here hx rfl (hb hby d19_17) rfl ?_
          exact k
        by_cases hc19_8 : (own_b u3) = ((47 : Int32).toInt8.toInt32)
        · refine own_go (B := s₁.setTop (mkF m 24 #[.val (.ref tb), .val (.int (47 : Int32)), .val (.int (0 : Int32)), .val (.int (4 : Int32)), .val (.int ((47 : Int32).toInt8.toInt32)), .val (.int (3 : Int32))] [(.int (3 : Int32))])) (fun t k => ?_) ?_
          · show Steps p.tables e below (s₁.setTop (mkF m 19 #[.val (.ref tb), .val (.int (47 : Int32)), .val (.int (0 : Int32)), .val (.int (4 : Int32)), .val (.int ((47 : Int32).toInt8.toInt32)), .val (.int (3 : Int32))] [(.int ((47 : Int32).toInt8.toInt32)), (.int (own_b u3))])) _
            refine XS.icmpNo X0.here hx rfl (hb hby d19_19) rfl (teq hc19_8).2 ?_
            refine XS.iload X0.here hx rfl (hb hby d19_22) rfl ?_
            exact k
          obtain ⟨fs, hr, hrun, hended, hW, hsame⟩ := X0.leave (v := some (.int (3 : Int32))) (fun h => by rw [Bd.returns] at h; cases h)
          refine own_done (retOut X0 hx Bd.returns rfl (Or.inl ⟨rfl, Or.inl rfl, _, rfl⟩) (hb hby d19_24) hr) hrun hended ⟨_, _, rfl, ?_, ⟨_, rfl⟩, hW, hsame.mono (by decide) (by decide)⟩
          show Q_rm19 Z ([u0, u1, u2, u3] : List UInt16) h0 n0 (some (.int (3 : Int32))) s₁.heap _
          rw [e0]
          exact ⟨_, ⟨rfl, rfl, rfl⟩, ⟨fun q => absurd q (by decide), fun q => (q ⟨u3, by simp, ((own_b47 (hla u3 (by simp))).1 hc19_8)⟩).elim⟩⟩
        · refine own_go (B := s₁.setTop (mkF m 32 #[.val (.ref tb), .val (.int (47 : Int32)), .val (.int (0 : Int32)), .val (.int (4 : Int32)), .val (.int ((47 : Int32).toInt8.toInt32)), .val (.int (4 : Int32))] [(.int (-1 : Int32))])) (fun t k => ?_) ?_
          · show Steps p.tables e below (s₁.setTop (mkF m 19 #[.val (.ref tb), .val (.int (47 : Int32)), .val (.int (0 : Int32)), .val (.int (4 : Int32)), .val (.int ((47 : Int32).toInt8.toInt32)), .val (.int (3 : Int32))] [(.int ((47 : Int32).toInt8.toInt32)), (.int (own_b u3))])) _
            refine XS.icmpYes X0.here hx rfl (pc0 := 19) (pc' := 25) rfl (hb hby d19_19) rfl (feq hc19_8).2 (by decide) (by decide) ?_
            refine XS.iinc X0.here hx rfl (hb hby d19_25) rfl (l' := #[.val (.ref tb), .val (.int (47 : Int32)), .val (.int (0 : Int32)), .val (.int (4 : Int32)), .val (.int ((47 : Int32).toInt8.toInt32)), .val (.int (4 : Int32))]) rfl ?_
            refine XS.goto X0.here hx rfl (pc0 := 28) (pc' := 7) rfl (hb hby d19_28) (by decide) (by decide) ?_
            refine XS.iload X0.here hx rfl (hb hby d19_7) rfl ?_
            refine XS.iloadN X0.here hx rfl (hb hby d19_9) rfl ?_
            show Steps p.tables e below (s₁.setTop (mkF m 10 #[.val (.ref tb), .val (.int (47 : Int32)), .val (.int (0 : Int32)), .val (.int (4 : Int32)), .val (.int ((47 : Int32).toInt8.toInt32)), .val (.int (4 : Int32))] [(.int (4 : Int32)), (.int (4 : Int32))])) _
            refine XS.icmpYes X0.here hx rfl (pc0 := 10) (pc' := 31) rfl (hb hby d19_10) rfl (flt (by decide : ¬ ((4 : Int32) < (4 : Int32)))).2.1 (by decide) (by decide) ?_
            refine XS.iconst X0.here hx rfl (hb hby d19_31) ?_
            exact k
          obtain ⟨fs, hr, hrun, hended, hW, hsame⟩ := X0.leave (v := some (.int (-1 : Int32))) (fun h => by rw [Bd.returns] at h; cases h)
          refine own_done (retOut X0 hx Bd.returns rfl (Or.inl ⟨rfl, Or.inl rfl, _, rfl⟩) (hb hby d19_32) hr) hrun hended ⟨_, _, rfl, ?_, ⟨_, rfl⟩, hW, hsame.mono (by decide) (by decide)⟩
          show Q_rm19 Z ([u0, u1, u2, u3] : List UInt16) h0 n0 (some (.int (-1 : Int32))) s₁.heap _
          rw [e0]
          exact ⟨_, ⟨rfl, rfl, rfl⟩, ⟨fun _ => own_not (own_allc (fun q => hc19_2 ((own_b47 (hla u0 (by simp))).2 q)) (own_allc (fun q => hc19_4 ((own_b47 (hla u1 (by simp))).2 q)) (own_allc (fun q => hc19_6 ((own_b47 (hla u2 (by simp))).2 q)) (own_allc (fun q => hc19_8 ((own_b47 (hla u3 (by simp))).2 q)) own_alln)))), fun _ => by decide⟩⟩
set_option maxRecDepth 65536 in
set_option maxHeartbeats 40000000 in
theorem rm19 (l : Launch) (Z : State) (a0 : Array Value) (hw : ∀ d ∈ tables_1, d.before a0 Z = true) (ws : List Jvm.Cond) (tb : Addr) (kb : ClassId) (cs : List UInt16) (nn : Int32) (h0 : Heap) (n0 : Nat) (Z0 : n0 ≤ h0.size) (V_tb : Arv Z h0 tb kb .byte nn (own_lat cs) (.int (0 : Int32))) (hla : ∀ u ∈ cs, ¬ (255 : Int32) < own_w u) (hL : own_L cs nn) :
    MetFree l (⟨"java/lang/StringLatin1", "indexOfChar", "([BIII)I"⟩ : MethodName) (head1 (Jvm.Cond.code (⟨"java/lang/StringLatin1", "indexOfChar", "([BIII)I"⟩ : MethodName) jdk_43_method_23_code 6 (some .int) :: ws) ({ frames := 0, cells := 0, slots := 0, locals := 0 } : Room)) (fun a U => a = #[(.ref tb), (.int (47 : Int32)), (.int (0 : Int32)), (.int nn)] ∧ Z.Warmed39 U.vm ∧ U.heap = h0) (fun _ _ _ _ _ => True) (fun _ U o U' => ∃ v L, o = .returned v ∧ Q_rm19 Z cs h0 n0 v U'.heap L ∧ FrameEnd U o U' L ({ frames := 0, cells := 0, slots := 0, locals := 0 } : Room).cells ({ frames := 0, cells := 0, slots := 0, locals := 0 } : Room).slots) := by
  rcases hL with ⟨u0, rfl, rfl⟩ | ⟨u0, u1, rfl, rfl⟩ | ⟨u0, u1, u2, rfl, rfl⟩ | ⟨u0, u1, u2, u3, rfl, rfl⟩
  · exact rm19_1 l Z a0 hw ws tb kb u0 h0 n0 Z0 V_tb hla
  · exact rm19_2 l Z a0 hw ws tb kb u0 u1 h0 n0 Z0 V_tb hla
  · exact rm19_3 l Z a0 hw ws tb kb u0 u1 u2 h0 n0 Z0 V_tb hla
  · exact rm19_4 l Z a0 hw ws tb kb u0 u1 u2 u3 h0 n0 Z0 V_tb hla
theorem d12_0 : decode jdk_43_method_22_code 0 = .ok (.iload_n 1, 1) := by decide +kernel
theorem d12_1 : decode jdk_43_method_22_code 1 = .ok (.invokestatic 88, 3) := by decide +kernel
theorem d12_4 : decode jdk_43_method_22_code 4 = .ok (.ifCond .ne 5, 3) := by decide +kernel
theorem d12_7 : decode jdk_43_method_22_code 7 = .ok (.iconst (-1), 1) := by decide +kernel
theorem d12_8 : decode jdk_43_method_22_code 8 = .ok (.ireturn, 1) := by decide +kernel
theorem d12_9 : decode jdk_43_method_22_code 9 = .ok (.iload_n 2, 1) := by decide +kernel
theorem d12_10 : decode jdk_43_method_22_code 10 = .ok (.iconst 0, 1) := by decide +kernel
theorem d12_11 : decode jdk_43_method_22_code 11 = .ok (.invokestatic 92, 3) := by decide +kernel
theorem d12_14 : decode jdk_43_method_22_code 14 = .ok (.istore_n 2, 1) := by decide +kernel
theorem d12_15 : decode jdk_43_method_22_code 15 = .ok (.iload_n 3, 1) := by decide +kernel
theorem d12_16 : decode jdk_43_method_22_code 16 = .ok (.aload_n 0, 1) := by decide +kernel
theorem d12_17 : decode jdk_43_method_22_code 17 = .ok (.arraylength, 1) := by decide +kernel
theorem d12_18 : decode jdk_43_method_22_code 18 = .ok (.invokestatic 38, 3) := by decide +kernel
theorem d12_21 : decode jdk_43_method_22_code 21 = .ok (.istore_n 3, 1) := by decide +kernel
theorem d12_22 : decode jdk_43_method_22_code 22 = .ok (.iload_n 2, 1) := by decide +kernel
theorem d12_23 : decode jdk_43_method_22_code 23 = .ok (.iload_n 3, 1) := by decide +kernel
theorem d12_24 : decode jdk_43_method_22_code 24 = .ok (.if_icmp .lt 5, 3) := by decide +kernel
theorem d12_27 : decode jdk_43_method_22_code 27 = .ok (.iconst (-1), 1) := by decide +kernel
theorem d12_28 : decode jdk_43_method_22_code 28 = .ok (.ireturn, 1) := by decide +kernel
theorem d12_29 : decode jdk_43_method_22_code 29 = .ok (.aload_n 0, 1) := by decide +kernel
theorem d12_30 : decode jdk_43_method_22_code 30 = .ok (.iload_n 1, 1) := by decide +kernel
theorem d12_31 : decode jdk_43_method_22_code 31 = .ok (.iload_n 2, 1) := by decide +kernel
theorem d12_32 : decode jdk_43_method_22_code 32 = .ok (.iload_n 3, 1) := by decide +kernel
theorem d12_33 : decode jdk_43_method_22_code 33 = .ok (.invokestatic 95, 3) := by decide +kernel
theorem d12_36 : decode jdk_43_method_22_code 36 = .ok (.ireturn, 1) := by decide +kernel
theorem ef_rm12n (m : MethodId) (x0 : Addr) (x1 : Int32) (x2 : Int32) (x3 : Int32) : entryFrame m #[(.ref x0), (.int x1), (.int x2), (.int x3)] 4 = mkF m 0 #[.val (.ref x0), .val (.int x1), .val (.int x2), .val (.int x3)] [] := by first | (simp [entryFrame, mkF, argsToLocals, Value.category, maxLocals]; done) | rfl
set_option maxRecDepth 65536 in
set_option maxHeartbeats 40000000 in
theorem rm12n (l : Launch) (Z : State) (a0 : Array Value) (hw : ∀ d ∈ tables_1, d.before a0 Z = true) (ws : List Jvm.Cond) (tb : Addr) (kb : ClassId) (cs : List UInt16) (nn : Int32) (h0 : Heap) (n0 : Nat) (Z0 : n0 ≤ h0.size) (V_tb : Arv Z h0 tb kb .byte nn (own_lat cs) (.int (0 : Int32))) (hla : ∀ u ∈ cs, ¬ (255 : Int32) < own_w u) (hL : own_L cs nn) :
    MetFree l (⟨"java/lang/StringLatin1", "indexOf", "([BIII)I"⟩ : MethodName) (head1 (Jvm.Cond.code (⟨"java/lang/StringLatin1", "indexOf", "([BIII)I"⟩ : MethodName) jdk_43_method_22_code 4 (some .int) :: ws) ({ frames := 1, cells := 0, slots := 0, locals := 17 } : Room)) (fun a U => a = #[(.ref tb), (.int (47 : Int32)), (.int (0 : Int32)), (.int nn)] ∧ Z.Warmed39 U.vm ∧ U.heap = h0) (fun _ _ _ _ _ => True) (fun _ U o U' => ∃ v L, o = .returned v ∧ Q_rm19 Z cs h0 n0 v U'.heap L ∧ FrameEnd U o U' L ({ frames := 1, cells := 0, slots := 0, locals := 17 } : Room).cells ({ frames := 1, cells := 0, slots := 0, locals := 17 } : Room).slots) := by
  refine MetFree.of_bodySF (plainFor_of_name pn_12) hisR ?_
  intro p e s m args below meth c s₁ Bd hml0 hP hK
  obtain ⟨rfl, hZ, hh⟩ := hP
  have hx := Bd.exec
  have hby := Bd.bytes
  have hml : c.maxLocals = 4 := hml0
  have hown : s.vm.findClass "java/lang/StringLatin1" = some m.cls := findClass_of_methodNamed Bd.named
  have hnm := (name_of_methodNamed Bd.named Bd.method).1
  have X0 : Stand p l e ({ frames := 1, cells := 0, slots := 0, locals := 17 } : Room) s m #[(.ref tb), (.int (47 : Int32)), (.int (0 : Int32)), (.int nn)] below meth c s₁ [] 0 0 := Stand.of_body Bd
  have e0 : s₁.heap = h0 := by rw [← hh, Bd.state]; rfl
  have N0 := Fr.nil n0
  have K : Keep h0 h0 [] := Keep.refl h0 []
  show own_Gd p.tables e below (own_P (Q_rm19 Z cs h0 n0) s ({ frames := 1, cells := 0, slots := 0, locals := 17 } : Room).cells ({ frames := 1, cells := 0, slots := 0, locals := 17 } : Room).slots) _
  refine own_go (B := s₁.setTop (mkF m 0 #[.val (.ref tb), .val (.int (47 : Int32)), .val (.int (0 : Int32)), .val (.int nn)] [])) (fun t k => castTop (ef_rm12n m tb (47 : Int32) (0 : Int32) nn) k) ?_
  refine own_go (B := s₁.setTop (mkF m 1 #[.val (.ref tb), .val (.int (47 : Int32)), .val (.int (0 : Int32)), .val (.int nn)] [(.int (47 : Int32))])) (fun t k => ?_) ?_
  · show Steps p.tables e below (s₁.setTop (mkF m 0 #[.val (.ref tb), .val (.int (47 : Int32)), .val (.int (0 : Int32)), .val (.int nn)] [])) _
    refine XS.iloadN X0.here hx rfl (hb hby d12_0) rfl ?_
    exact k
  obtain ⟨_, _, ⟨T1, L1, k1, n1⟩, -, X1, ⟨Lc1, hQ1, l1, y1, z1⟩, st1⟩ := Jvm.LawKit.callS X0 hx (y := (⟨"java/lang/StringLatin1", "canEncode", "(I)Z"⟩ : MethodName)) hown (mvT hZ (hw _ (List.mem_of_getElem? (i := 68) rfl))) (mvT hZ (hw _ (List.mem_of_getElem? (i := 69) rfl))) (mvT hZ (hw _ (List.mem_of_getElem? (i := 37) rfl))) (mvT hZ (hw _ (List.mem_of_getElem? (i := 70) rfl))) (by decide) (backOf (W := 0) (rm13 l Z a0 hw []  h0 n0 Z0 ) hZ (hw _ (List.mem_of_getElem? (i := 70) rfl)) (hw _ (List.mem_of_getElem? (i := 37) rfl)) (by decide) (by decide)) (g := (mkF m 1 #[.val (.ref tb), .val (.int (47 : Int32)), .val (.int (0 : Int32)), .val (.int nn)] [(.int (47 : Int32))])) rfl (by rw [hml]; rfl) (argsL := [(.int (47 : Int32))]) (rest := []) (lenOf pd_12 rfl) rfl (by show 2 * 0 + _ ≤ _; exact Nat.le_of_eq rfl) (hb hby d12_1) (fun _ _ => ⟨rfl, e0, Nat.le_of_ble_eq_true rfl, Nat.le_of_ble_eq_true rfl⟩)
  dsimp only [Pt.U, Pt.locs, Pt.cells, Pt.slots] at X1 l1 y1 z1 st1 hQ1
  subst l1 y1 z1
  obtain ⟨h1, e1⟩ : ∃ z, T1.heap = z := ⟨_, rfl⟩
  rw [e1] at hQ1
  obtain ⟨rfl, hL1, eq1⟩ := hQ1
  subst hL1
  have N1 := Fr.app N0 (Fr.nil n0)
  rw [eq1] at e1
  refine own_go (B := T1.setTop (mkF m 4 #[.val (.ref tb), .val (.int (47 : Int32)), .val (.int (0 : Int32)), .val (.int nn)] [(.int (1 : Int32))])) st1 ?_
  refine own_go (B := T1.setTop (mkF m 11 #[.val (.ref tb), .val (.int (47 : Int32)), .val (.int (0 : Int32)), .val (.int nn)] [(.int (0 : Int32)), (.int (0 : Int32))])) (fun t k => ?_) ?_
  · show Steps p.tables e below (T1.setTop (mkF m 4 #[.val (.ref tb), .val (.int (47 : Int32)), .val (.int (0 : Int32)), .val (.int nn)] [(.int (1 : Int32))])) _
    refine XS.ifYes X1.here hx rfl (pc0 := 4) (pc' := 9) rfl (hb hby d12_4) rfl ((if0 _ _).trans (feq (by decide : ¬ ((1 : Int32) = (0 : Int32)))).2) (by decide) (by decide) ?_
    refine XS.iloadN X1.here hx rfl (hb hby d12_9) rfl ?_
    refine XS.iconst X1.here hx rfl (hb hby d12_10) ?_
    exact k
  obtain ⟨_, _, ⟨T2, L2, k2, n2⟩, -, X2, ⟨Lc2, hQ2, l2, y2, z2⟩, st2⟩ := Jvm.LawKit.callS X1 hx (y := (⟨"java/lang/Math", "max", "(II)I"⟩ : MethodName)) hown (mvT hZ (hw _ (List.mem_of_getElem? (i := 71) rfl))) (mvT hZ (hw _ (List.mem_of_getElem? (i := 72) rfl))) (mvT hZ (hw _ (List.mem_of_getElem? (i := 73) rfl))) (mvT hZ (hw _ (List.mem_of_getElem? (i := 74) rfl))) (by decide) (backOf (W := 0) (rm14 l Z a0 hw []  h0 n0 Z0 ) hZ (hw _ (List.mem_of_getElem? (i := 74) rfl)) (hw _ (List.mem_of_getElem? (i := 73) rfl)) (by decide) (by decide)) (g := (mkF m 11 #[.val (.ref tb), .val (.int (47 : Int32)), .val (.int (0 : Int32)), .val (.int nn)] [(.int (0 : Int32)), (.int (0 : Int32))])) rfl (by rw [hml]; rfl) (argsL := [(.int (0 : Int32)), (.int (0 : Int32))]) (rest := []) (lenOf pd_13 rfl) rfl (by show 2 * 0 + _ ≤ _; exact Nat.le_of_eq rfl) (hb hby d12_11) (fun _ _ => ⟨rfl, e1, Nat.le_of_ble_eq_true rfl, Nat.le_of_ble_eq_true rfl⟩)
  dsimp only [Pt.U, Pt.locs, Pt.cells, Pt.slots] at X2 l2 y2 z2 st2 hQ2
  subst l2 y2 z2
  obtain ⟨h2, e2⟩ : ∃ z, T2.heap = z := ⟨_, rfl⟩
  rw [e2] at hQ2
  obtain ⟨rfl, hL2, eq2⟩ := hQ2
  subst hL2
  have N2 := Fr.app N1 (Fr.nil n0)
  rw [eq2] at e2
  refine own_go (B := T2.setTop (mkF m 14 #[.val (.ref tb), .val (.int (47 : Int32)), .val (.int (0 : Int32)), .val (.int nn)] [(.int (0 : Int32))])) st2 ?_
  refine own_go (B := T2.setTop (mkF m 17 #[.val (.ref tb), .val (.int (47 : Int32)), .val (.int (0 : Int32)), .val (.int nn)] [(.ref tb), (.int nn)])) (fun t k => ?_) ?_
  · show Steps p.tables e below (T2.setTop (mkF m 14 #[.val (.ref tb), .val (.int (47 : Int32)), .val (.int (0 : Int32)), .val (.int nn)] [(.int (0 : Int32))])) _
    refine XS.istoreN X2.here hx rfl (hb hby d12_14) rfl (l' := #[.val (.ref tb), .val (.int (47 : Int32)), .val (.int (0 : Int32)), .val (.int nn)]) rfl ?_
    refine XS.iloadN X2.here hx rfl (hb hby d12_15) rfl ?_
    refine XS.aloadN X2.here hx rfl (hb hby d12_16) rfl rfl ?_
    exact k
  obtain ⟨cl3, Ar3, qa3, Sa3, Na3, Ha3, Ga3⟩ := id V_tb
  refine own_go (B := T2.setTop (mkF m 18 #[.val (.ref tb), .val (.int (47 : Int32)), .val (.int (0 : Int32)), .val (.int nn)] [(.int nn), (.int nn)])) (fun t k => ?_) ?_
  · show Steps p.tables e below (T2.setTop (mkF m 17 #[.val (.ref tb), .val (.int (47 : Int32)), .val (.int (0 : Int32)), .val (.int nn)] [(.ref tb), (.int nn)])) _
    refine X2.arraylength hx (by rw [e2]; exact Ar3.1) (State.isArrayOf_alike hZ.alike Ar3.2.1) (g := (mkF m 17 #[.val (.ref tb), .val (.int (47 : Int32)), .val (.int (0 : Int32)), .val (.int nn)] [(.ref tb), (.int nn)])) rfl rfl (hb hby d12_17) _ ?_
    rw [len_of Sa3 Na3]
    exact k
  obtain ⟨_, _, ⟨T4, L4, k4, n4⟩, -, X4, ⟨Lc4, hQ4, l4, y4, z4⟩, st4⟩ := Jvm.LawKit.callS X2 hx (y := (⟨"java/lang/Math", "min", "(II)I"⟩ : MethodName)) hown (mvT hZ (hw _ (List.mem_of_getElem? (i := 75) rfl))) (mvT hZ (hw _ (List.mem_of_getElem? (i := 76) rfl))) (mvT hZ (hw _ (List.mem_of_getElem? (i := 73) rfl))) (mvT hZ (hw _ (List.mem_of_getElem? (i := 77) rfl))) (by decide) (backOf (W := 0) (rm15 l Z a0 hw [] nn nn h0 n0 Z0 Int32.lt_irrefl) hZ (hw _ (List.mem_of_getElem? (i := 77) rfl)) (hw _ (List.mem_of_getElem? (i := 73) rfl)) (by decide) (by decide)) (g := (mkF m 18 #[.val (.ref tb), .val (.int (47 : Int32)), .val (.int (0 : Int32)), .val (.int nn)] [(.int nn), (.int nn)])) rfl (by rw [hml]; rfl) (argsL := [(.int nn), (.int nn)]) (rest := []) (lenOf pd_13 rfl) rfl (by show 2 * 0 + _ ≤ _; exact Nat.le_of_eq rfl) (hb hby d12_18) (fun _ _ => ⟨rfl, e2, Nat.le_of_ble_eq_true rfl, Nat.le_of_ble_eq_true rfl⟩)
  dsimp only [Pt.U, Pt.locs, Pt.cells, Pt.slots] at X4 l4 y4 z4 st4 hQ4
  subst l4 y4 z4
  obtain ⟨h4, e4⟩ : ∃ z, T4.heap = z := ⟨_, rfl⟩
  rw [e4] at hQ4
  obtain ⟨rfl, hL4, eq4⟩ := hQ4
  subst hL4
  have N4 := Fr.app N2 (Fr.nil n0)
  rw [eq4] at e4
  refine own_go (B := T4.setTop (mkF m 21 #[.val (.ref tb), .val (.int (47 : Int32)), .val (.int (0 : Int32)), .val (.int nn)] [(.int nn)])) st4 ?_
  refine own_go (B := T4.setTop (mkF m 33 #[.val (.ref tb), .val (.int (47 : Int32)), .val (.int (0 : Int32)), .val (.int nn)] [(.int nn), (.int (0 : Int32)), (.int (47 : Int32)), (.ref tb)])) (fun t k => ?_) ?_
  · show Steps p.tables e below (T4.setTop (mkF m 21 #[.val (.ref tb), .val (.int (47 : Int32)), .val (.int (0 : Int32)), .val (.int nn)] [(.int nn)])) _
    refine XS.istoreN X4.here hx rfl (hb hby d12_21) rfl (l' := #[.val (.ref tb), .val (.int (47 : Int32)), .val (.int (0 : Int32)), .val (.int nn)]) rfl ?_
    refine XS.iloadN X4.here hx rfl (hb hby d12_22) rfl ?_
    refine XS.iloadN X4.here hx rfl (hb hby d12_23) rfl ?_
    refine XS.icmpYes X4.here hx rfl (pc0 := 24) (pc' := 29) rfl (hb hby d12_24) rfl (tlt ((own_Lpos hL) : (0 : Int32) < nn)).1 (by decide) (by decide) ?_
    refine XS.aloadN X4.here hx rfl (hb hby d12_29) rfl rfl ?_
    show Steps p.tables e below (T4.setTop (mkF m 30 #[.val (.ref tb), .val (.int (47 : Int32)), .val (.int (0 : Int32)), .val (.int nn)] [(.ref tb)])) _
    refine XS.iloadN X4.here hx rfl (hb hby d12_30) rfl ?_
    refine XS.iloadN X4.here hx rfl (hb hby d12_31) rfl ?_
    refine XS.iloadN X4.here hx rfl (hb hby d12_32) rfl ?_
    exact k
  obtain ⟨_, _, ⟨T5, L5, k5, n5⟩, -, X5, ⟨Lc5, hQ5, l5, y5, z5⟩, st5⟩ := Jvm.LawKit.callS X4 hx (y := (⟨"java/lang/StringLatin1", "indexOfChar", "([BIII)I"⟩ : MethodName)) hown (mvT hZ (hw _ (List.mem_of_getElem? (i := 88) rfl))) (mvT hZ (hw _ (List.mem_of_getElem? (i := 89) rfl))) (mvT hZ (hw _ (List.mem_of_getElem? (i := 37) rfl))) (mvT hZ (hw _ (List.mem_of_getElem? (i := 90) rfl))) (by decide) (backOf (W := 0) (rm19 l Z a0 hw [] tb kb cs nn h0 n0 Z0 V_tb hla hL) hZ (hw _ (List.mem_of_getElem? (i := 90) rfl)) (hw _ (List.mem_of_getElem? (i := 37) rfl)) (by decide) (by decide)) (g := (mkF m 33 #[.val (.ref tb), .val (.int (47 : Int32)), .val (.int (0 : Int32)), .val (.int nn)] [(.int nn), (.int (0 : Int32)), (.int (47 : Int32)), (.ref tb)])) rfl (by rw [hml]; rfl) (argsL := [(.ref tb), (.int (47 : Int32)), (.int (0 : Int32)), (.int nn)]) (rest := []) (lenOf pd_14 rfl) rfl (by show 2 * 0 + _ ≤ _; exact Nat.le_of_eq rfl) (hb hby d12_33) (fun _ _ => ⟨rfl, e4, Nat.le_of_ble_eq_true rfl, Nat.le_of_ble_eq_true rfl⟩)
  dsimp only [Pt.U, Pt.locs, Pt.cells, Pt.slots] at X5 l5 y5 z5 st5 hQ5
  subst l5 y5 z5
  obtain ⟨h5, e5⟩ : ∃ z, T5.heap = z := ⟨_, rfl⟩
  rw [e5] at hQ5
  obtain ⟨r5, ⟨rfl, hL5, eq5⟩, hp5⟩ := hQ5
  subst hL5
  have N5 := Fr.app N4 (Fr.nil n0)
  rw [eq5] at e5
  refine own_go (B := T5.setTop (mkF m 36 #[.val (.ref tb), .val (.int (47 : Int32)), .val (.int (0 : Int32)), .val (.int nn)] [(.int r5)])) st5 ?_
  obtain ⟨fs, hr, hrun, hended, hW, hsame⟩ := X5.leave (v := some (.int r5)) (fun h => by rw [Bd.returns] at h; cases h)
  refine own_done (retOut X5 hx Bd.returns rfl (Or.inl ⟨rfl, Or.inl rfl, _, rfl⟩) (hb hby d12_36) hr) hrun hended ⟨_, _, rfl, ?_, ⟨_, rfl⟩, hW, hsame.mono (by decide) (by decide)⟩
  show Q_rm19 Z cs h0 n0 (some (.int r5)) T5.heap _
  rw [e5]
  exact ⟨_, ⟨rfl, rfl, rfl⟩, hp5⟩
theorem ef_rm12z (m : MethodId) (x0 : Addr) (x1 : Int32) (x2 : Int32) (x3 : Int32) : entryFrame m #[(.ref x0), (.int x1), (.int x2), (.int x3)] 4 = mkF m 0 #[.val (.ref x0), .val (.int x1), .val (.int x2), .val (.int x3)] [] := by first | (simp [entryFrame, mkF, argsToLocals, Value.category, maxLocals]; done) | rfl
set_option maxRecDepth 65536 in
set_option maxHeartbeats 40000000 in
theorem rm12z (l : Launch) (Z : State) (a0 : Array Value) (hw : ∀ d ∈ tables_1, d.before a0 Z = true) (ws : List Jvm.Cond) (tb : Addr) (kb : ClassId) (h0 : Heap) (n0 : Nat) (Z0 : n0 ≤ h0.size) (V_tb : Arv Z h0 tb kb .byte (0 : Int32) [] (.int (0 : Int32))) :
    MetFree l (⟨"java/lang/StringLatin1", "indexOf", "([BIII)I"⟩ : MethodName) (head1 (Jvm.Cond.code (⟨"java/lang/StringLatin1", "indexOf", "([BIII)I"⟩ : MethodName) jdk_43_method_22_code 4 (some .int) :: ws) ({ frames := 1, cells := 0, slots := 0, locals := 17 } : Room)) (fun a U => a = #[(.ref tb), (.int (47 : Int32)), (.int (0 : Int32)), (.int (0 : Int32))] ∧ Z.Warmed39 U.vm ∧ U.heap = h0) (fun _ _ _ _ _ => True) (fun _ U o U' => ∃ v L, o = .returned v ∧ Q_rm19 Z ([] : List UInt16) h0 n0 v U'.heap L ∧ FrameEnd U o U' L ({ frames := 1, cells := 0, slots := 0, locals := 17 } : Room).cells ({ frames := 1, cells := 0, slots := 0, locals := 17 } : Room).slots) := by
  refine MetFree.of_bodySF (plainFor_of_name pn_12) hisR ?_
  intro p e s m args below meth c s₁ Bd hml0 hP hK
  obtain ⟨rfl, hZ, hh⟩ := hP
  have hx := Bd.exec
  have hby := Bd.bytes
  have hml : c.maxLocals = 4 := hml0
  have hown : s.vm.findClass "java/lang/StringLatin1" = some m.cls := findClass_of_methodNamed Bd.named
  have hnm := (name_of_methodNamed Bd.named Bd.method).1
  have X0 : Stand p l e ({ frames := 1, cells := 0, slots := 0, locals := 17 } : Room) s m #[(.ref tb), (.int (47 : Int32)), (.int (0 : Int32)), (.int (0 : Int32))] below meth c s₁ [] 0 0 := Stand.of_body Bd
  have e0 : s₁.heap = h0 := by rw [← hh, Bd.state]; rfl
  have N0 := Fr.nil n0
  have K : Keep h0 h0 [] := Keep.refl h0 []
  show own_Gd p.tables e below (own_P (Q_rm19 Z ([] : List UInt16) h0 n0) s ({ frames := 1, cells := 0, slots := 0, locals := 17 } : Room).cells ({ frames := 1, cells := 0, slots := 0, locals := 17 } : Room).slots) _
  refine own_go (B := s₁.setTop (mkF m 0 #[.val (.ref tb), .val (.int (47 : Int32)), .val (.int (0 : Int32)), .val (.int (0 : Int32))] [])) (fun t k => castTop (ef_rm12z m tb (47 : Int32) (0 : Int32) (0 : Int32)) k) ?_
  refine own_go (B := s₁.setTop (mkF m 1 #[.val (.ref tb), .val (.int (47 : Int32)), .val (.int (0 : Int32)), .val (.int (0 : Int32))] [(.int (47 : Int32))])) (fun t k => ?_) ?_
  · show Steps p.tables e below (s₁.setTop (mkF m 0 #[.val (.ref tb), .val (.int (47 : Int32)), .val (.int (0 : Int32)), .val (.int (0 : Int32))] [])) _
    refine XS.iloadN X0.here hx rfl (hb hby d12_0) rfl ?_
    exact k
  obtain ⟨_, _, ⟨T1, L1, k1, n1⟩, -, X1, ⟨Lc1, hQ1, l1, y1, z1⟩, st1⟩ := Jvm.LawKit.callS X0 hx (y := (⟨"java/lang/StringLatin1", "canEncode", "(I)Z"⟩ : MethodName)) hown (mvT hZ (hw _ (List.mem_of_getElem? (i := 68) rfl))) (mvT hZ (hw _ (List.mem_of_getElem? (i := 69) rfl))) (mvT hZ (hw _ (List.mem_of_getElem? (i := 37) rfl))) (mvT hZ (hw _ (List.mem_of_getElem? (i := 70) rfl))) (by decide) (backOf (W := 0) (rm13 l Z a0 hw []  h0 n0 Z0 ) hZ (hw _ (List.mem_of_getElem? (i := 70) rfl)) (hw _ (List.mem_of_getElem? (i := 37) rfl)) (by decide) (by decide)) (g := (mkF m 1 #[.val (.ref tb), .val (.int (47 : Int32)), .val (.int (0 : Int32)), .val (.int (0 : Int32))] [(.int (47 : Int32))])) rfl (by rw [hml]; rfl) (argsL := [(.int (47 : Int32))]) (rest := []) (lenOf pd_12 rfl) rfl (by show 2 * 0 + _ ≤ _; exact Nat.le_of_eq rfl) (hb hby d12_1) (fun _ _ => ⟨rfl, e0, Nat.le_of_ble_eq_true rfl, Nat.le_of_ble_eq_true rfl⟩)
  dsimp only [Pt.U, Pt.locs, Pt.cells, Pt.slots] at X1 l1 y1 z1 st1 hQ1
  subst l1 y1 z1
  obtain ⟨h1, e1⟩ : ∃ z, T1.heap = z := ⟨_, rfl⟩
  rw [e1] at hQ1
  obtain ⟨rfl, hL1, eq1⟩ := hQ1
  subst hL1
  have N1 := Fr.app N0 (Fr.nil n0)
  rw [eq1] at e1
  refine own_go (B := T1.setTop (mkF m 4 #[.val (.ref tb), .val (.int (47 : Int32)), .val (.int (0 : Int32)), .val (.int (0 : Int32))] [(.int (1 : Int32))])) st1 ?_
  refine own_go (B := T1.setTop (mkF m 11 #[.val (.ref tb), .val (.int (47 : Int32)), .val (.int (0 : Int32)), .val (.int (0 : Int32))] [(.int (0 : Int32)), (.int (0 : Int32))])) (fun t k => ?_) ?_
  · show Steps p.tables e below (T1.setTop (mkF m 4 #[.val (.ref tb), .val (.int (47 : Int32)), .val (.int (0 : Int32)), .val (.int (0 : Int32))] [(.int (1 : Int32))])) _
    refine XS.ifYes X1.here hx rfl (pc0 := 4) (pc' := 9) rfl (hb hby d12_4) rfl ((if0 _ _).trans (feq (by decide : ¬ ((1 : Int32) = (0 : Int32)))).2) (by decide) (by decide) ?_
    refine XS.iloadN X1.here hx rfl (hb hby d12_9) rfl ?_
    refine XS.iconst X1.here hx rfl (hb hby d12_10) ?_
    exact k
  obtain ⟨_, _, ⟨T2, L2, k2, n2⟩, -, X2, ⟨Lc2, hQ2, l2, y2, z2⟩, st2⟩ := Jvm.LawKit.callS X1 hx (y := (⟨"java/lang/Math", "max", "(II)I"⟩ : MethodName)) hown (mvT hZ (hw _ (List.mem_of_getElem? (i := 71) rfl))) (mvT hZ (hw _ (List.mem_of_getElem? (i := 72) rfl))) (mvT hZ (hw _ (List.mem_of_getElem? (i := 73) rfl))) (mvT hZ (hw _ (List.mem_of_getElem? (i := 74) rfl))) (by decide) (backOf (W := 0) (rm14 l Z a0 hw []  h0 n0 Z0 ) hZ (hw _ (List.mem_of_getElem? (i := 74) rfl)) (hw _ (List.mem_of_getElem? (i := 73) rfl)) (by decide) (by decide)) (g := (mkF m 11 #[.val (.ref tb), .val (.int (47 : Int32)), .val (.int (0 : Int32)), .val (.int (0 : Int32))] [(.int (0 : Int32)), (.int (0 : Int32))])) rfl (by rw [hml]; rfl) (argsL := [(.int (0 : Int32)), (.int (0 : Int32))]) (rest := []) (lenOf pd_13 rfl) rfl (by show 2 * 0 + _ ≤ _; exact Nat.le_of_eq rfl) (hb hby d12_11) (fun _ _ => ⟨rfl, e1, Nat.le_of_ble_eq_true rfl, Nat.le_of_ble_eq_true rfl⟩)
  dsimp only [Pt.U, Pt.locs, Pt.cells, Pt.slots] at X2 l2 y2 z2 st2 hQ2
  subst l2 y2 z2
  obtain ⟨h2, e2⟩ : ∃ z, T2.heap = z := ⟨_, rfl⟩
  rw [e2] at hQ2
  obtain ⟨rfl, hL2, eq2⟩ := hQ2
  subst hL2
  have N2 := Fr.app N1 (Fr.nil n0)
  rw [eq2] at e2
  refine own_go (B := T2.setTop (mkF m 14 #[.val (.ref tb), .val (.int (47 : Int32)), .val (.int (0 : Int32)), .val (.int (0 : Int32))] [(.int (0 : Int32))])) st2 ?_
  refine own_go (B := T2.setTop (mkF m 17 #[.val (.ref tb), .val (.int (47 : Int32)), .val (.int (0 : Int32)), .val (.int (0 : Int32))] [(.ref tb), (.int (0 : Int32))])) (fun t k => ?_) ?_
  · show Steps p.tables e below (T2.setTop (mkF m 14 #[.val (.ref tb), .val (.int (47 : Int32)), .val (.int (0 : Int32)), .val (.int (0 : Int32))] [(.int (0 : Int32))])) _
    refine XS.istoreN X2.here hx rfl (hb hby d12_14) rfl (l' := #[.val (.ref tb), .val (.int (47 : Int32)), .val (.int (0 : Int32)), .val (.int (0 : Int32))]) rfl ?_
    refine XS.iloadN X2.here hx rfl (hb hby d12_15) rfl ?_
    refine XS.aloadN X2.here hx rfl (hb hby d12_16) rfl rfl ?_
    exact k
  obtain ⟨cl3, Ar3, qa3, Sa3, Na3, Ha3, Ga3⟩ := id V_tb
  refine own_go (B := T2.setTop (mkF m 18 #[.val (.ref tb), .val (.int (47 : Int32)), .val (.int (0 : Int32)), .val (.int (0 : Int32))] [(.int (0 : Int32)), (.int (0 : Int32))])) (fun t k => ?_) ?_
  · show Steps p.tables e below (T2.setTop (mkF m 17 #[.val (.ref tb), .val (.int (47 : Int32)), .val (.int (0 : Int32)), .val (.int (0 : Int32))] [(.ref tb), (.int (0 : Int32))])) _
    refine X2.arraylength hx (by rw [e2]; exact Ar3.1) (State.isArrayOf_alike hZ.alike Ar3.2.1) (g := (mkF m 17 #[.val (.ref tb), .val (.int (47 : Int32)), .val (.int (0 : Int32)), .val (.int (0 : Int32))] [(.ref tb), (.int (0 : Int32))])) rfl rfl (hb hby d12_17) _ ?_
    rw [len_of Sa3 Na3]
    exact k
  obtain ⟨_, _, ⟨T4, L4, k4, n4⟩, -, X4, ⟨Lc4, hQ4, l4, y4, z4⟩, st4⟩ := Jvm.LawKit.callS X2 hx (y := (⟨"java/lang/Math", "min", "(II)I"⟩ : MethodName)) hown (mvT hZ (hw _ (List.mem_of_getElem? (i := 75) rfl))) (mvT hZ (hw _ (List.mem_of_getElem? (i := 76) rfl))) (mvT hZ (hw _ (List.mem_of_getElem? (i := 73) rfl))) (mvT hZ (hw _ (List.mem_of_getElem? (i := 77) rfl))) (by decide) (backOf (W := 0) (rm15 l Z a0 hw [] (0 : Int32) (0 : Int32) h0 n0 Z0 (by decide)) hZ (hw _ (List.mem_of_getElem? (i := 77) rfl)) (hw _ (List.mem_of_getElem? (i := 73) rfl)) (by decide) (by decide)) (g := (mkF m 18 #[.val (.ref tb), .val (.int (47 : Int32)), .val (.int (0 : Int32)), .val (.int (0 : Int32))] [(.int (0 : Int32)), (.int (0 : Int32))])) rfl (by rw [hml]; rfl) (argsL := [(.int (0 : Int32)), (.int (0 : Int32))]) (rest := []) (lenOf pd_13 rfl) rfl (by show 2 * 0 + _ ≤ _; exact Nat.le_of_eq rfl) (hb hby d12_18) (fun _ _ => ⟨rfl, e2, Nat.le_of_ble_eq_true rfl, Nat.le_of_ble_eq_true rfl⟩)
  dsimp only [Pt.U, Pt.locs, Pt.cells, Pt.slots] at X4 l4 y4 z4 st4 hQ4
  subst l4 y4 z4
  obtain ⟨h4, e4⟩ : ∃ z, T4.heap = z := ⟨_, rfl⟩
  rw [e4] at hQ4
  obtain ⟨rfl, hL4, eq4⟩ := hQ4
  subst hL4
  have N4 := Fr.app N2 (Fr.nil n0)
  rw [eq4] at e4
  refine own_go (B := T4.setTop (mkF m 21 #[.val (.ref tb), .val (.int (47 : Int32)), .val (.int (0 : Int32)), .val (.int (0 : Int32))] [(.int (0 : Int32))])) st4 ?_
  refine own_go (B := T4.setTop (mkF m 28 #[.val (.ref tb), .val (.int (47 : Int32)), .val (.int (0 : Int32)), .val (.int (0 : Int32))] [(.int (-1 : Int32))])) (fun t k => ?_) ?_
  · show Steps p.tables e below (T4.setTop (mkF m 21 #[.val (.ref tb), .val (.int (47 : Int32)), .val (.int (0 : Int32)), .val (.int (0 : Int32))] [(.int (0 : Int32))])) _
    refine XS.istoreN X4.here hx rfl (hb hby d12_21) rfl (l' := #[.val (.ref tb), .val (.int (47 : Int32)), .val (.int (0 : Int32)), .val (.int (0 : Int32))]) rfl ?_
    refine XS.iloadN X4.here hx rfl (hb hby d12_22) rfl ?_
    refine XS.iloadN X4.here hx rfl (hb hby d12_23) rfl ?_
    refine XS.icmpNo X4.here hx rfl (hb hby d12_24) rfl (flt (by decide : ¬ ((0 : Int32) < (0 : Int32)))).1 ?_
    refine XS.iconst X4.here hx rfl (hb hby d12_27) ?_
    show Steps p.tables e below (T4.setTop (mkF m 28 #[.val (.ref tb), .val (.int (47 : Int32)), .val (.int (0 : Int32)), .val (.int (0 : Int32))] [(.int (-1 : Int32))])) _
    exact k
  obtain ⟨fs, hr, hrun, hended, hW, hsame⟩ := X4.leave (v := some (.int (-1 : Int32))) (fun h => by rw [Bd.returns] at h; cases h)
  refine own_done (retOut X4 hx Bd.returns rfl (Or.inl ⟨rfl, Or.inl rfl, _, rfl⟩) (hb hby d12_28) hr) hrun hended ⟨_, _, rfl, ?_, ⟨_, rfl⟩, hW, hsame.mono (by decide) (by decide)⟩
  show Q_rm19 Z ([] : List UInt16) h0 n0 (some (.int (-1 : Int32))) T4.heap _
  rw [e4]
  exact ⟨_, ⟨rfl, rfl, rfl⟩, ⟨fun _ => own_not own_alln, fun _ => by decide⟩⟩
set_option maxRecDepth 65536 in
set_option maxHeartbeats 40000000 in
theorem rm12 (l : Launch) (Z : State) (a0 : Array Value) (hw : ∀ d ∈ tables_1, d.before a0 Z = true) (ws : List Jvm.Cond) (tb : Addr) (kb : ClassId) (cs : List UInt16) (nn : Int32) (h0 : Heap) (n0 : Nat) (Z0 : n0 ≤ h0.size) (V_tb : Arv Z h0 tb kb .byte nn (own_lat cs) (.int (0 : Int32))) (hla : ∀ u ∈ cs, ¬ (255 : Int32) < own_w u) (hL : own_L' cs nn) :
    MetFree l (⟨"java/lang/StringLatin1", "indexOf", "([BIII)I"⟩ : MethodName) (head1 (Jvm.Cond.code (⟨"java/lang/StringLatin1", "indexOf", "([BIII)I"⟩ : MethodName) jdk_43_method_22_code 4 (some .int) :: ws) ({ frames := 1, cells := 0, slots := 0, locals := 17 } : Room)) (fun a U => a = #[(.ref tb), (.int (47 : Int32)), (.int (0 : Int32)), (.int nn)] ∧ Z.Warmed39 U.vm ∧ U.heap = h0) (fun _ _ _ _ _ => True) (fun _ U o U' => ∃ v L, o = .returned v ∧ Q_rm19 Z cs h0 n0 v U'.heap L ∧ FrameEnd U o U' L ({ frames := 1, cells := 0, slots := 0, locals := 17 } : Room).cells ({ frames := 1, cells := 0, slots := 0, locals := 17 } : Room).slots) := by
  rcases hL with ⟨rfl, rfl⟩ | hL
  · exact rm12z l Z a0 hw ws tb kb h0 n0 Z0 V_tb
  · exact rm12n l Z a0 hw ws tb kb cs nn h0 n0 Z0 V_tb hla hL
theorem d31_0 : decode jdk_52_method_48_code 0 = .ok (.iload_n 2, 1) := by decide +kernel
theorem d31_1 : decode jdk_52_method_48_code 1 = .ok (.istore 4, 2) := by decide +kernel
theorem d31_3 : decode jdk_52_method_48_code 3 = .ok (.iload 4, 2) := by decide +kernel
theorem d31_5 : decode jdk_52_method_48_code 5 = .ok (.iload_n 3, 1) := by decide +kernel
theorem d31_6 : decode jdk_52_method_48_code 6 = .ok (.if_icmp .ge 22, 3) := by decide +kernel
theorem d31_9 : decode jdk_52_method_48_code 9 = .ok (.aload_n 0, 1) := by decide +kernel
theorem d31_10 : decode jdk_52_method_48_code 10 = .ok (.iload 4, 2) := by decide +kernel
theorem d31_12 : decode jdk_52_method_48_code 12 = .ok (.invokestatic 71, 3) := by decide +kernel
theorem d31_15 : decode jdk_52_method_48_code 15 = .ok (.iload_n 1, 1) := by decide +kernel
theorem d31_16 : decode jdk_52_method_48_code 16 = .ok (.if_icmp .ne 6, 3) := by decide +kernel
theorem d31_19 : decode jdk_52_method_48_code 19 = .ok (.iload 4, 2) := by decide +kernel
theorem d31_21 : decode jdk_52_method_48_code 21 = .ok (.ireturn, 1) := by decide +kernel
theorem d31_22 : decode jdk_52_method_48_code 22 = .ok (.iinc 4 1, 3) := by decide +kernel
theorem d31_25 : decode jdk_52_method_48_code 25 = .ok (.goto (-22), 3) := by decide +kernel
theorem d31_28 : decode jdk_52_method_48_code 28 = .ok (.iconst (-1), 1) := by decide +kernel
theorem d31_29 : decode jdk_52_method_48_code 29 = .ok (.ireturn, 1) := by decide +kernel
theorem ef_rm31_1 (m : MethodId) (x0 : Addr) (x1 : Int32) (x2 : Int32) (x3 : Int32) : entryFrame m #[(.ref x0), (.int x1), (.int x2), (.int x3)] 5 = mkF m 0 #[.val (.ref x0), .val (.int x1), .val (.int x2), .val (.int x3), .unset] [] := by first | (simp [entryFrame, mkF, argsToLocals, Value.category, maxLocals]; done) | rfl
set_option maxRecDepth 65536 in
set_option maxHeartbeats 40000000 in
theorem rm31_1 (l : Launch) (Z : State) (a0 : Array Value) (hw : ∀ d ∈ tables_1, d.before a0 Z = true) (ws : List Jvm.Cond) (tb : Addr) (kb : ClassId) (u0 : UInt16) (h0 : Heap) (n0 : Nat) (Z0 : n0 ≤ h0.size) (V_tb : Arv Z h0 tb kb .byte ((1 : Int32) <<< ((1 : Int32) &&& 31)) (own_wide ([u0] : List UInt16)) (.int (0 : Int32))) (hSt : own_S Z) (O : Old Z n0 h0) :
    MetFree l (⟨"java/lang/StringUTF16", "indexOfCharUnsafe", "([BIII)I"⟩ : MethodName) (head1 (Jvm.Cond.code (⟨"java/lang/StringUTF16", "indexOfCharUnsafe", "([BIII)I"⟩ : MethodName) jdk_52_method_48_code 5 (some .int) :: ws) ({ frames := 1, cells := 0, slots := 0, locals := 13 } : Room)) (fun a U => a = #[(.ref tb), (.int (47 : Int32)), (.int (0 : Int32)), (.int (1 : Int32))] ∧ Z.Warmed39 U.vm ∧ U.heap = h0) (fun _ _ _ _ _ => True) (fun _ U o U' => ∃ v L, o = .returned v ∧ Q_rm19 Z ([u0] : List UInt16) h0 n0 v U'.heap L ∧ FrameEnd U o U' L ({ frames := 1, cells := 0, slots := 0, locals := 13 } : Room).cells ({ frames := 1, cells := 0, slots := 0, locals := 13 } : Room).slots) := by
  refine MetFree.of_bodySF (plainFor_of_name pn_31) hisR ?_
  intro p e s m args below meth c s₁ Bd hml0 hP hK
  obtain ⟨rfl, hZ, hh⟩ := hP
  have hx := Bd.exec
  have hby := Bd.bytes
  have hml : c.maxLocals = 5 := hml0
  have hown : s.vm.findClass "java/lang/StringUTF16" = some m.cls := findClass_of_methodNamed Bd.named
  have hnm := (name_of_methodNamed Bd.named Bd.method).1
  have X0 : Stand p l e ({ frames := 1, cells := 0, slots := 0, locals := 13 } : Room) s m #[(.ref tb), (.int (47 : Int32)), (.int (0 : Int32)), (.int (1 : Int32))] below meth c s₁ [] 0 0 := Stand.of_body Bd
  have e0 : s₁.heap = h0 := by rw [← hh, Bd.state]; rfl
  have N0 := Fr.nil n0
  have K : Keep h0 h0 [] := Keep.refl h0 []
  obtain ⟨G1, G3, O2, P5, O4, rG3, SA, SB, SC⟩ := id hSt
  show own_Gd p.tables e below (own_P (Q_rm19 Z ([u0] : List UInt16) h0 n0) s ({ frames := 1, cells := 0, slots := 0, locals := 13 } : Room).cells ({ frames := 1, cells := 0, slots := 0, locals := 13 } : Room).slots) _
  refine own_go (B := s₁.setTop (mkF m 0 #[.val (.ref tb), .val (.int (47 : Int32)), .val (.int (0 : Int32)), .val (.int (1 : Int32)), .unset] [])) (fun t k => castTop (ef_rm31_1 m tb (47 : Int32) (0 : Int32) (1 : Int32)) k) ?_
  refine own_go (B := s₁.setTop (mkF m 12 #[.val (.ref tb), .val (.int (47 : Int32)), .val (.int (0 : Int32)), .val (.int (1 : Int32)), .val (.int (0 : Int32))] [(.int (0 : Int32)), (.ref tb)])) (fun t k => ?_) ?_
  · show Steps p.tables e below (s₁.setTop (mkF m 0 #[.val (.ref tb), .val (.int (47 : Int32)), .val (.int (0 : Int32)), .val (.int (1 : Int32)), .unset] [])) _
    refine XS.iloadN X0.here hx rfl (hb hby d31_0) rfl ?_
    refine XS.istore X0.here hx rfl (hb hby d31_1) rfl (l' := #[.val (.ref tb), .val (.int (47 : Int32)), .val (.int (0 : Int32)), .val (.int (1 : Int32)), .val (.int (0 : Int32))]) rfl ?_
    refine XS.iload X0.here hx rfl (hb hby d31_3) rfl ?_
    refine XS.iloadN X0.here hx rfl (hb hby d31_5) rfl ?_
    refine XS.icmpNo X0.here hx rfl (hb hby d31_6) rfl (tlt (by decide : (0 : Int32) < (1 : Int32))).2.1 ?_
    show Steps p.tables e below (s₁.setTop (mkF m 9 #[.val (.ref tb), .val (.int (47 : Int32)), .val (.int (0 : Int32)), .val (.int (1 : Int32)), .val (.int (0 : Int32))] [])) _
    refine XS.aloadN X0.here hx rfl (hb hby d31_9) rfl rfl ?_
    refine XS.iload X0.here hx rfl (hb hby d31_10) rfl ?_
    exact k
  obtain ⟨_, _, ⟨T1, L1, k1, n1⟩, -, X1, ⟨Lc1, hQ1, l1, y1, z1⟩, st1⟩ := Jvm.LawKit.callS X0 hx (y := (⟨"java/lang/StringUTF16", "getChar", "([BI)C"⟩ : MethodName)) hown (mvT hZ (hw _ (List.mem_of_getElem? (i := 107) rfl))) (mvT hZ (hw _ (List.mem_of_getElem? (i := 108) rfl))) (mvT hZ (hw _ (List.mem_of_getElem? (i := 80) rfl))) (mvT hZ (hw _ (List.mem_of_getElem? (i := 109) rfl))) (by decide) (backOf (W := 0) (rm24 l Z a0 hw [] tb kb ((1 : Int32) <<< ((1 : Int32) &&& 31)) (own_wide ([u0] : List UInt16)) (0 : Int32) u0 h0 n0 Z0 V_tb (own_G_mk 0 ⟨by decide, by decide⟩ ⟨by decide, by decide⟩ (by decide) (by decide) rfl rfl) hSt O) hZ (hw _ (List.mem_of_getElem? (i := 109) rfl)) (hw _ (List.mem_of_getElem? (i := 80) rfl)) (by decide) (by decide)) (g := (mkF m 12 #[.val (.ref tb), .val (.int (47 : Int32)), .val (.int (0 : Int32)), .val (.int (1 : Int32)), .val (.int (0 : Int32))] [(.int (0 : Int32)), (.ref tb)])) rfl (by rw [hml]; rfl) (argsL := [(.ref tb), (.int (0 : Int32))]) (rest := []) (lenOf pd_8 rfl) rfl (by show 2 * 0 + _ ≤ _; exact Nat.le_of_eq rfl) (hb hby d31_12) (fun _ _ => ⟨rfl, e0, Nat.le_of_ble_eq_true rfl, Nat.le_of_ble_eq_true rfl⟩)
  dsimp only [Pt.U, Pt.locs, Pt.cells, Pt.slots] at X1 l1 y1 z1 st1 hQ1
  subst l1 y1 z1
  obtain ⟨h1, e1⟩ : ∃ z, T1.heap = z := ⟨_, rfl⟩
  rw [e1] at hQ1
  obtain ⟨rfl, hL1, eq1⟩ := hQ1
  subst hL1
  have N1 := Fr.app N0 (Fr.nil n0)
  rw [eq1] at e1
  refine own_go (B := T1.setTop (mkF m 15 #[.val (.ref tb), .val (.int (47 : Int32)), .val (.int (0 : Int32)), .val (.int (1 : Int32)), .val (.int (0 : Int32))] [(.int (own_w u0))])) st1 ?_
  refine own_go (B := T1.setTop (mkF m 16 #[.val (.ref tb), .val (.int (47 : Int32)), .val (.int (0 : Int32)), .val (.int (1 : Int32)), .val (.int (0 : Int32))] [(.int (47 : Int32)), (.int (own_w u0))])) (fun t k => ?_) ?_
  · show Steps p.tables e below (T1.setTop (mkF m 15 #[.val (.ref tb), .val (.int (47 : Int32)), .val (.int (0 : Int32)), .val (.int (1 : Int32)), .val (.int (0 : Int32))] [(.int (own_w u0))])) _
    refine XS.iloadN X1.here hx rfl (hb hby d31_15) rfl ?_
    exact k
  by_cases hc16_2 : (own_w u0) = (47 : Int32)
  · refine own_go (B := T1.setTop (mkF m 21 #[.val (.ref tb), .val (.int (47 : Int32)), .val (.int (0 : Int32)), .val (.int (1 : Int32)), .val (.int (0 : Int32))] [(.int (0 : Int32))])) (fun t k => ?_) ?_
    · show Steps p.tables e below (T1.setTop (mkF m 16 #[.val (.ref tb), .val (.int (47 : Int32)), .val (.int (0 : Int32)), .val (.int (1 : Int32)), .val (.int (0 : Int32))] [(.int (47 : Int32)), (.int (own_w u0))])) _
      refine XS.icmpNo X1.here hx rfl (hb hby d31_16) rfl (teq hc16_2).2 ?_
      refine XS.iload X1.here hx rfl (hb hby d31_19) rfl ?_
      exact k
    obtain ⟨fs, hr, hrun, hended, hW, hsame⟩ := X1.leave (v := some (.int (0 : Int32))) (fun h => by rw [Bd.returns] at h; cases h)
    refine own_done (retOut X1 hx Bd.returns rfl (Or.inl ⟨rfl, Or.inl rfl, _, rfl⟩) (hb hby d31_21) hr) hrun hended ⟨_, _, rfl, ?_, ⟨_, rfl⟩, hW, hsame.mono (by decide) (by decide)⟩
    show Q_rm19 Z ([u0] : List UInt16) h0 n0 (some (.int (0 : Int32))) T1.heap _
    rw [e1]
    exact ⟨_, ⟨rfl, rfl, rfl⟩, ⟨fun q => absurd q (by decide), fun q => (q ⟨u0, by simp, hc16_2⟩).elim⟩⟩
  · refine own_go (B := T1.setTop (mkF m 29 #[.val (.ref tb), .val (.int (47 : Int32)), .val (.int (0 : Int32)), .val (.int (1 : Int32)), .val (.int (1 : Int32))] [(.int (-1 : Int32))])) (fun t k => ?_) ?_
    · show Steps p.tables e below (T1.setTop (mkF m 16 #[.val (.ref tb), .val (.int (47 : Int32)), .val (.int (0 : Int32)), .val (.int (1 : Int32)), .val (.int (0 : Int32))] [(.int (47 : Int32)), (.int (own_w u0))])) _
      refine XS.icmpYes X1.here hx rfl (pc0 := 16) (pc' := 22) rfl (hb hby d31_16) rfl (feq hc16_2).2 (by decide) (by decide) ?_
      refine XS.iinc X1.here hx rfl (hb hby d31_22) rfl (l' := #[.val (.ref tb), .val (.int (47 : Int32)), .val (.int (0 : Int32)), .val (.int (1 : Int32)), .val (.int (1 : Int32))]) rfl ?_
      refine XS.goto X1.here hx rfl (pc0 := 25) (pc' := 3) rfl (hb hby d31_25) (by decide) (by decide) ?_
      refine XS.iload X1.here hx rfl (hb hby d31_3) rfl ?_
      refine XS.iloadN X1.here hx rfl (hb hby d31_5) rfl ?_
      show Steps p.tables e below (T1.setTop (mkF m 6 #[.val (.ref tb), .val (.int (47 : Int32)), .val (.int (0 : Int32)), .val (.int (1 : Int32)), .val (.int (1 : Int32))] [(.int (1 : Int32)), (.int (1 : Int32))])) _
      refine XS.icmpYes X1.here hx rfl (pc0 := 6) (pc' := 28) rfl (hb hby d31_6) rfl (flt (by decide : ¬ ((1 : Int32) < (1 : Int32)))).2.1 (by decide) (by decide) ?_
      refine XS.iconst X1.here hx rfl (hb hby d31_28) ?_
      exact k
    obtain ⟨fs, hr, hrun, hended, hW, hsame⟩ := X1.leave (v := some (.int (-1 : Int32))) (fun h => by rw [Bd.returns] at h; cases h)
    refine own_done (retOut X1 hx Bd.returns rfl (Or.inl ⟨rfl, Or.inl rfl, _, rfl⟩) (hb hby d31_29) hr) hrun hended ⟨_, _, rfl, ?_, ⟨_, rfl⟩, hW, hsame.mono (by decide) (by decide)⟩
    show Q_rm19 Z ([u0] : List UInt16) h0 n0 (some (.int (-1 : Int32))) T1.heap _
    rw [e1]
    exact ⟨_, ⟨rfl, rfl, rfl⟩, ⟨fun _ => own_not (own_allc hc16_2 own_alln), fun _ => by decide⟩⟩
theorem ef_rm31_2 (m : MethodId) (x0 : Addr) (x1 : Int32) (x2 : Int32) (x3 : Int32) : entryFrame m #[(.ref x0), (.int x1), (.int x2), (.int x3)] 5 = mkF m 0 #[.val (.ref x0), .val (.int x1), .val (.int x2), .val (.int x3), .unset] [] := by first | (simp [entryFrame, mkF, argsToLocals, Value.category, maxLocals]; done) | rfl
set_option maxRecDepth 65536 in
set_option maxHeartbeats 40000000 in
theorem rm31_2 (l : Launch) (Z : State) (a0 : Array Value) (hw : ∀ d ∈ tables_1, d.before a0 Z = true) (ws : List Jvm.Cond) (tb : Addr) (kb : ClassId) (u0 u1 : UInt16) (h0 : Heap) (n0 : Nat) (Z0 : n0 ≤ h0.size) (V_tb : Arv Z h0 tb kb .byte ((2 : Int32) <<< ((1 : Int32) &&& 31)) (own_wide ([u0, u1] : List UInt16)) (.int (0 : Int32))) (hSt : own_S Z) (O : Old Z n0 h0) :
    MetFree l (⟨"java/lang/StringUTF16", "indexOfCharUnsafe", "([BIII)I"⟩ : MethodName) (head1 (Jvm.Cond.code (⟨"java/lang/StringUTF16", "indexOfCharUnsafe", "([BIII)I"⟩ : MethodName) jdk_52_method_48_code 5 (some .int) :: ws) ({ frames := 1, cells := 0, slots := 0, locals := 13 } : Room)) (fun a U => a = #[(.ref tb), (.int (47 : Int32)), (.int (0 : Int32)), (.int (2 : Int32))] ∧ Z.Warmed39 U.vm ∧ U.heap = h0) (fun _ _ _ _ _ => True) (fun _ U o U' => ∃ v L, o = .returned v ∧ Q_rm19 Z ([u0, u1] : List UInt16) h0 n0 v U'.heap L ∧ FrameEnd U o U' L ({ frames := 1, cells := 0, slots := 0, locals := 13 } : Room).cells ({ frames := 1, cells := 0, slots := 0, locals := 13 } : Room).slots) := by
  refine MetFree.of_bodySF (plainFor_of_name pn_31) hisR ?_
  intro p e s m args below meth c s₁ Bd hml0 hP hK
  obtain ⟨rfl, hZ, hh⟩ := hP
  have hx := Bd.exec
  have hby := Bd.bytes
  have hml : c.maxLocals = 5 := hml0
  have hown : s.vm.findClass "java/lang/StringUTF16" = some m.cls := findClass_of_methodNamed Bd.named
  have hnm := (name_of_methodNamed Bd.named Bd.method).1
  have X0 : Stand p l e ({ frames := 1, cells := 0, slots := 0, locals := 13 } : Room) s m #[(.ref tb), (.int (47 : Int32)), (.int (0 : Int32)), (.int (2 : Int32))] below meth c s₁ [] 0 0 := Stand.of_body Bd
  have e0 : s₁.heap = h0 := by rw [← hh, Bd.state]; rfl
  have N0 := Fr.nil n0
  have K : Keep h0 h0 [] := Keep.refl h0 []
  obtain ⟨G1, G3, O2, P5, O4, rG3, SA, SB, SC⟩ := id hSt
  show own_Gd p.tables e below (own_P (Q_rm19 Z ([u0, u1] : List UInt16) h0 n0) s ({ frames := 1, cells := 0, slots := 0, locals := 13 } : Room).cells ({ frames := 1, cells := 0, slots := 0, locals := 13 } : Room).slots) _
  refine own_go (B := s₁.setTop (mkF m 0 #[.val (.ref tb), .val (.int (47 : Int32)), .val (.int (0 : Int32)), .val (.int (2 : Int32)), .unset] [])) (fun t k => castTop (ef_rm31_2 m tb (47 : Int32) (0 : Int32) (2 : Int32)) k) ?_
  refine own_go (B := s₁.setTop (mkF m 12 #[.val (.ref tb), .val (.int (47 : Int32)), .val (.int (0 : Int32)), .val (.int (2 : Int32)), .val (.int (0 : Int32))] [(.int (0 : Int32)), (.ref tb)])) (fun t k => ?_) ?_
  · show Steps p.tables e below (s₁.setTop (mkF m 0 #[.val (.ref tb), .val (.int (47 : Int32)), .val (.int (0 : Int32)), .val (.int (2 : Int32)), .unset] [])) _
    refine XS.iloadN X0.here hx rfl (hb hby d31_0) rfl ?_
    refine XS.istore X0.here hx rfl (hb hby d31_1) rfl (l' := #[.val (.ref tb), .val (.int (47 : Int32)), .val (.int (0 : Int32)), .val (.int (2 : Int32)), .val (.int (0 : Int32))]) rfl ?_
    refine XS.iload X0.here hx rfl (hb hby d31_3) rfl ?_
    refine XS.iloadN X0.here hx rfl (hb hby d31_5) rfl ?_
    refine XS.icmpNo X0.here hx rfl (hb hby d31_6) rfl (tlt (by decide : (0 : Int32) < (2 : Int32))).2.1 ?_
    show Steps p.tables e below (s₁.setTop (mkF m 9 #[.val (.ref tb), .val (.int (47 : Int32)), .val (.int (0 : Int32)), .val (.int (2 : Int32)), .val (.int (0 : Int32))] [])) _
    refine XS.aloadN X0.here hx rfl (hb hby d31_9) rfl rfl ?_
    refine XS.iload X0.here hx rfl (hb hby d31_10) rfl ?_
    exact k
  obtain ⟨_, _, ⟨T1, L1, k1, n1⟩, -, X1, ⟨Lc1, hQ1, l1, y1, z1⟩, st1⟩ := Jvm.LawKit.callS X0 hx (y := (⟨"java/lang/StringUTF16", "getChar", "([BI)C"⟩ : MethodName)) hown (mvT hZ (hw _ (List.mem_of_getElem? (i := 107) rfl))) (mvT hZ (hw _ (List.mem_of_getElem? (i := 108) rfl))) (mvT hZ (hw _ (List.mem_of_getElem? (i := 80) rfl))) (mvT hZ (hw _ (List.mem_of_getElem? (i := 109) rfl))) (by decide) (backOf (W := 0) (rm24 l Z a0 hw [] tb kb ((2 : Int32) <<< ((1 : Int32) &&& 31)) (own_wide ([u0, u1] : List UInt16)) (0 : Int32) u0 h0 n0 Z0 V_tb (own_G_mk 0 ⟨by decide, by decide⟩ ⟨by decide, by decide⟩ (by decide) (by decide) rfl rfl) hSt O) hZ (hw _ (List.mem_of_getElem? (i := 109) rfl)) (hw _ (List.mem_of_getElem? (i := 80) rfl)) (by decide) (by decide)) (g := (mkF m 12 #[.val (.ref tb), .val (.int (47 : Int32)), .val (.int (0 : Int32)), .val (.int (2 : Int32)), .val (.int (0 : Int32))] [(.int (0 : Int32)), (.ref tb)])) rfl (by rw [hml]; rfl) (argsL := [(.ref tb), (.int (0 : Int32))]) (rest := []) (lenOf pd_8 rfl) rfl (by show 2 * 0 + _ ≤ _; exact Nat.le_of_eq rfl) (hb hby d31_12) (fun _ _ => ⟨rfl, e0, Nat.le_of_ble_eq_true rfl, Nat.le_of_ble_eq_true rfl⟩)
  dsimp only [Pt.U, Pt.locs, Pt.cells, Pt.slots] at X1 l1 y1 z1 st1 hQ1
  subst l1 y1 z1
  obtain ⟨h1, e1⟩ : ∃ z, T1.heap = z := ⟨_, rfl⟩
  rw [e1] at hQ1
  obtain ⟨rfl, hL1, eq1⟩ := hQ1
  subst hL1
  have N1 := Fr.app N0 (Fr.nil n0)
  rw [eq1] at e1
  refine own_go (B := T1.setTop (mkF m 15 #[.val (.ref tb), .val (.int (47 : Int32)), .val (.int (0 : Int32)), .val (.int (2 : Int32)), .val (.int (0 : Int32))] [(.int (own_w u0))])) st1 ?_
  refine own_go (B := T1.setTop (mkF m 16 #[.val (.ref tb), .val (.int (47 : Int32)), .val (.int (0 : Int32)), .val (.int (2 : Int32)), .val (.int (0 : Int32))] [(.int (47 : Int32)), (.int (own_w u0))])) (fun t k => ?_) ?_
  · show Steps p.tables e below (T1.setTop (mkF m 15 #[.val (.ref tb), .val (.int (47 : Int32)), .val (.int (0 : Int32)), .val (.int (2 : Int32)), .val (.int (0 : Int32))] [(.int (own_w u0))])) _
    refine XS.iloadN X1.here hx rfl (hb hby d31_15) rfl ?_
    exact k
  by_cases hc16_2 : (own_w u0) = (47 : Int32)
  · refine own_go (B := T1.setTop (mkF m 21 #[.val (.ref tb), .val (.int (47 : Int32)), .val (.int (0 : Int32)), .val (.int (2 : Int32)), .val (.int (0 : Int32))] [(.int (0 : Int32))])) (fun t k => ?_) ?_
    · show Steps p.tables e below (T1.setTop (mkF m 16 #[.val (.ref tb), .val (.int (47 : Int32)), .val (.int (0 : Int32)), .val (.int (2 : Int32)), .val (.int (0 : Int32))] [(.int (47 : Int32)), (.int (own_w u0))])) _
      refine XS.icmpNo X1.here hx rfl (hb hby d31_16) rfl (teq hc16_2).2 ?_
      refine XS.iload X1.here hx rfl (hb hby d31_19) rfl ?_
      exact k
    obtain ⟨fs, hr, hrun, hended, hW, hsame⟩ := X1.leave (v := some (.int (0 : Int32))) (fun h => by rw [Bd.returns] at h; cases h)
    refine own_done (retOut X1 hx Bd.returns rfl (Or.inl ⟨rfl, Or.inl rfl, _, rfl⟩) (hb hby d31_21) hr) hrun hended ⟨_, _, rfl, ?_, ⟨_, rfl⟩, hW, hsame.mono (by decide) (by decide)⟩
    show Q_rm19 Z ([u0, u1] : List UInt16) h0 n0 (some (.int (0 : Int32))) T1.heap _
    rw [e1]
    exact ⟨_, ⟨rfl, rfl, rfl⟩, ⟨fun q => absurd q (by decide), fun q => (q ⟨u0, by simp, hc16_2⟩).elim⟩⟩
  · refine own_go (B := T1.setTop (mkF m 12 #[.val (.ref tb), .val (.int (47 : Int32)), .val (.int (0 : Int32)), .val (.int (2 : Int32)), .val (.int (1 : Int32))] [(.int (1 : Int32)), (.ref tb)])) (fun t k => ?_) ?_
    · show Steps p.tables e below (T1.setTop (mkF m 16 #[.val (.ref tb), .val (.int (47 : Int32)), .val (.int (0 : Int32)), .val (.int (2 : Int32)), .val (.int (0 : Int32))] [(.int (47 : Int32)), (.int (own_w u0))])) _
      refine XS.icmpYes X1.here hx rfl (pc0 := 16) (pc' := 22) rfl (hb hby d31_16) rfl (feq hc16_2).2 (by decide) (by decide) ?_
      refine XS.iinc X1.here hx rfl (hb hby d31_22) rfl (l' := #[.val (.ref tb), .val (.int (47 : Int32)), .val (.int (0 : Int32)), .val (.int (2 : Int32)), .val (.int (1 : Int32))]) rfl ?_
      refine XS.goto X1.here hx rfl (pc0 := 25) (pc' := 3) rfl (hb hby d31_25) (by decide) (by decide) ?_
      refine XS.iload X1.here hx rfl (hb hby d31_3) rfl ?_
      refine XS.iloadN X1.here hx rfl (hb hby d31_5) rfl ?_
      show Steps p.tables e below (T1.setTop (mkF m 6 #[.val (.ref tb), .val (.int (47 : Int32)), .val (.int (0 : Int32)), .val (.int (2 : Int32)), .val (.int (1 : Int32))] [(.int (2 : Int32)), (.int (1 : Int32))])) _
      refine XS.icmpNo X1.here hx rfl (hb hby d31_6) rfl (tlt (by decide : (1 : Int32) < (2 : Int32))).2.1 ?_
      refine XS.aloadN X1.here hx rfl (hb hby d31_9) rfl rfl ?_
      refine XS.iload X1.here hx rfl (hb hby d31_10) rfl ?_
      exact k
    obtain ⟨_, _, ⟨T3, L3, k3, n3⟩, -, X3, ⟨Lc3, hQ3, l3, y3, z3⟩, st3⟩ := Jvm.LawKit.callS X1 hx (y := (⟨"java/lang/StringUTF16", "getChar", "([BI)C"⟩ : MethodName)) hown (mvT hZ (hw _ (List.mem_of_getElem? (i := 107) rfl))) (mvT hZ (hw _ (List.mem_of_getElem? (i := 108) rfl))) (mvT hZ (hw _ (List.mem_of_getElem? (i := 80) rfl))) (mvT hZ (hw _ (List.mem_of_getElem? (i := 109) rfl))) (by decide) (backOf (W := 0) (rm24 l Z a0 hw [] tb kb ((2 : Int32) <<< ((1 : Int32) &&& 31)) (own_wide ([u0, u1] : List UInt16)) (1 : Int32) u1 h0 n0 Z0 V_tb (own_G_mk 2 ⟨by decide, by decide⟩ ⟨by decide, by decide⟩ (by decide) (by decide) rfl rfl) hSt O) hZ (hw _ (List.mem_of_getElem? (i := 109) rfl)) (hw _ (List.mem_of_getElem? (i := 80) rfl)) (by decide) (by decide)) (g := (mkF m 12 #[.val (.ref tb), .val (.int (47 : Int32)), .val (.int (0 : Int32)), .val (.int (2 : Int32)), .val (.int (1 : Int32))] [(.int (1 : Int32)), (.ref tb)])) rfl (by rw [hml]; rfl) (argsL := [(.ref tb), (.int (1 : Int32))]) (rest := []) (lenOf pd_8 rfl) rfl (by show 2 * 0 + _ ≤ _; exact Nat.le_of_eq rfl) (hb hby d31_12) (fun _ _ => ⟨rfl, e1, Nat.le_of_ble_eq_true rfl, Nat.le_of_ble_eq_true rfl⟩)
    dsimp only [Pt.U, Pt.locs, Pt.cells, Pt.slots] at X3 l3 y3 z3 st3 hQ3
    subst l3 y3 z3
    obtain ⟨h3, e3⟩ : ∃ z, T3.heap = z := ⟨_, rfl⟩
    rw [e3] at hQ3
    obtain ⟨rfl, hL3, eq3⟩ := hQ3
    subst hL3
    have N3 := Fr.app N1 (Fr.nil n0)
    rw [eq3] at e3
    refine own_go (B := T3.setTop (mkF m 15 #[.val (.ref tb), .val (.int (47 : Int32)), .val (.int (0 : Int32)), .val (.int (2 : Int32)), .val (.int (1 : Int32))] [(.int (own_w u1))])) st3 ?_
    refine own_go (B := T3.setTop (mkF m 16 #[.val (.ref tb), .val (.int (47 : Int32)), .val (.int (0 : Int32)), .val (.int (2 : Int32)), .val (.int (1 : Int32))] [(.int (47 : Int32)), (.int (own_w u1))])) (fun t k => ?_) ?_
    · show Steps p.tables e below (T3.setTop (mkF m 15 #[.val (.ref tb), .val (.int (47 : Int32)), .val (.int (0 : Int32)), .val (.int (2 : Int32)), .val (.int (1 : Int32))] [(.int (own_w u1))])) _
      refine XS.iloadN X3.here hx rfl (hb hby d31_15) rfl ?_
      exact k
    by_cases hc16_4 : (own_w u1) = (47 : Int32)
    · refine own_go (B := T3.setTop (mkF m 21 #[.val (.ref tb), .val (.int (47 : Int32)), .val (.int (0 : Int32)), .val (.int (2 : Int32)), .val (.int (1 : Int32))] [(.int (1 : Int32))])) (fun t k => ?_) ?_
      · show Steps p.tables e below (T3.setTop (mkF m 16 #[.val (.ref tb), .val (.int (47 : Int32)), .val (.int (0 : Int32)), .val (.int (2 : Int32)), .val (.int (1 : Int32))] [(.int (47 : Int32)), (.int (own_w u1))])) _
        refine XS.icmpNo X3.here hx rfl (hb hby d31_16) rfl (teq hc16_4).2 ?_
        refine XS.iload X3.here hx rfl (hb hby d31_19) rfl ?_
        exact k
      obtain ⟨fs, hr, hrun, hended, hW, hsame⟩ := X3.leave (v := some (.int (1 : Int32))) (fun h => by rw [Bd.returns] at h; cases h)
      refine own_done (retOut X3 hx Bd.returns rfl (Or.inl ⟨rfl, Or.inl rfl, _, rfl⟩) (hb hby d31_21) hr) hrun hended ⟨_, _, rfl, ?_, ⟨_, rfl⟩, hW, hsame.mono (by decide) (by decide)⟩
      show Q_rm19 Z ([u0, u1] : List UInt16) h0 n0 (some (.int (1 : Int32))) T3.heap _
      rw [e3]
      exact ⟨_, ⟨rfl, rfl, rfl⟩, ⟨fun q => absurd q (by decide), fun q => (q ⟨u1, by simp, hc16_4⟩).elim⟩⟩
    · refine own_go (B := T3.setTop (mkF m 29 #[.val (.ref tb), .val (.int (47 : Int32)), .val (.int (0 : Int32)), .val (.int (2 : Int32)), .val (.int (2 : Int32))] [(.int (-1 : Int32))])) (fun t k => ?_) ?_
      · show Steps p.tables e below (T3.setTop (mkF m 16 #[.val (.ref tb), .val (.int (47 : Int32)), .val (.int (0 : Int32)), .val (.int (2 : Int32)), .val (.int (1 : Int32))] [(.int (47 : Int32)), (.int (own_w u1))])) _
        refine XS.icmpYes X3.here hx rfl (pc0 := 16) (pc' := 22) rfl (hb hby d31_16) rfl (feq hc16_4).2 (by decide) (by decide) ?_
        refine XS.iinc X3.here hx rfl (hb hby d31_22) rfl (l' := #[.val (.ref tb), .val (.int (47 : Int32)), .val (.int (0 : Int32)), .val (.int (2 : Int32)), .val (.int (2 : Int32))]) rfl ?_
        refine XS.goto X3.here hx rfl (pc0 := 25) (pc' := 3) rfl (hb hby d31_25) (by decide) (by decide) ?_
        refine XS.iload X3.here hx rfl (hb hby d31_3) rfl ?_
        refine XS.iloadN X3.here hx rfl (hb hby d31_5) rfl ?_
        show Steps p.tables e below (T3.setTop (mkF m 6 #[.val (.ref tb), .val (.int (47 : Int32)), .val (.int (0 : Int32)), .val (.int (2 : Int32)), .val (.int (2 : Int32))] [(.int (2 : Int32)), (.int (2 : Int32))])) _
        refine XS.icmpYes X3.here hx rfl (pc0 := 6) (pc' := 28) rfl (hb hby d31_6) rfl (flt (by decide : ¬ ((2 : Int32) < (2 : Int32)))).2.1 (by decide) (by decide) ?_
        refine XS.iconst X3.here hx rfl (hb hby d31_28) ?_
        exact k
      obtain ⟨fs, hr, hrun, hended, hW, hsame⟩ := X3.leave (v := some (.int (-1 : Int32))) (fun h => by rw [Bd.returns] at h; cases h)
      refine own_done (retOut X3 hx Bd.returns rfl (Or.inl ⟨rfl, Or.inl rfl, _, rfl⟩) (hb hby d31_29) hr) hrun hended ⟨_, _, rfl, ?_, ⟨_, rfl⟩, hW, hsame.mono (by decide) (by decide)⟩
      show Q_rm19 Z ([u0, u1] : List UInt16) h0 n0 (some (.int (-1 : Int32))) T3.heap _
      rw [e3]
      exact ⟨_, ⟨rfl, rfl, rfl⟩, ⟨fun _ => own_not (own_allc hc16_2 (own_allc hc16_4 own_alln)), fun _ => by decide⟩⟩
theorem ef_rm31_3 (m : MethodId) (x0 : Addr) (x1 : Int32) (x2 : Int32) (x3 : Int32) : entryFrame m #[(.ref x0), (.int x1), (.int x2), (.int x3)] 5 = mkF m 0 #[.val (.ref x0), .val (.int x1), .val (.int x2), .val (.int x3), .unset] [] := by first | (simp [entryFrame, mkF, argsToLocals, Value.category, maxLocals]; done) | rfl
set_option maxRecDepth 65536 in
set_option maxHeartbeats 40000000 in
theorem rm31_3 (l : Launch) (Z : State) (a0 : Array Value) (hw : ∀ d ∈ tables_1, d.before a0 Z = true) (ws : List Jvm.Cond) (tb : Addr) (kb : ClassId) (u0 u1 u2 : UInt16) (h0 : Heap) (n0 : Nat) (Z0 : n0 ≤ h0.size) (V_tb : Arv Z h0 tb kb .byte ((3 : Int32) <<< ((1 : Int32) &&& 31)) (own_wide ([u0, u1, u2] : List UInt16)) (.int (0 : Int32))) (hSt : own_S Z) (O : Old Z n0 h0) :
    MetFree l (⟨"java/lang/StringUTF16", "indexOfCharUnsafe", "([BIII)I"⟩ : MethodName) (head1 (Jvm.Cond.code (⟨"java/lang/StringUTF16", "indexOfCharUnsafe", "([BIII)I"⟩ : MethodName) jdk_52_method_48_code 5 (some .int) :: ws) ({ frames := 1, cells := 0, slots := 0, locals := 13 } : Room)) (fun a U => a = #[(.ref tb), (.int (47 : Int32)), (.int (0 : Int32)), (.int (3 : Int32))] ∧ Z.Warmed39 U.vm ∧ U.heap = h0) (fun _ _ _ _ _ => True) (fun _ U o U' => ∃ v L, o = .returned v ∧ Q_rm19 Z ([u0, u1, u2] : List UInt16) h0 n0 v U'.heap L ∧ FrameEnd U o U' L ({ frames := 1, cells := 0, slots := 0, locals := 13 } : Room).cells ({ frames := 1, cells := 0, slots := 0, locals := 13 } : Room).slots) := by
  refine MetFree.of_bodySF (plainFor_of_name pn_31) hisR ?_
  intro p e s m args below meth c s₁ Bd hml0 hP hK
  obtain ⟨rfl, hZ, hh⟩ := hP
  have hx := Bd.exec
  have hby := Bd.bytes
  have hml : c.maxLocals = 5 := hml0
  have hown : s.vm.findClass "java/lang/StringUTF16" = some m.cls := findClass_of_methodNamed Bd.named
  have hnm := (name_of_methodNamed Bd.named Bd.method).1
  have X0 : Stand p l e ({ frames := 1, cells := 0, slots := 0, locals := 13 } : Room) s m #[(.ref tb), (.int (47 : Int32)), (.int (0 : Int32)), (.int (3 : Int32))] below meth c s₁ [] 0 0 := Stand.of_body Bd
  have e0 : s₁.heap = h0 := by rw [← hh, Bd.state]; rfl
  have N0 := Fr.nil n0
  have K : Keep h0 h0 [] := Keep.refl h0 []
  obtain ⟨G1, G3, O2, P5, O4, rG3, SA, SB, SC⟩ := id hSt
  show own_Gd p.tables e below (own_P (Q_rm19 Z ([u0, u1, u2] : List UInt16) h0 n0) s ({ frames := 1, cells := 0, slots := 0, locals := 13 } : Room).cells ({ frames := 1, cells := 0, slots := 0, locals := 13 } : Room).slots) _
  refine own_go (B := s₁.setTop (mkF m 0 #[.val (.ref tb), .val (.int (47 : Int32)), .val (.int (0 : Int32)), .val (.int (3 : Int32)), .unset] [])) (fun t k => castTop (ef_rm31_3 m tb (47 : Int32) (0 : Int32) (3 : Int32)) k) ?_
  refine own_go (B := s₁.setTop (mkF m 12 #[.val (.ref tb), .val (.int (47 : Int32)), .val (.int (0 : Int32)), .val (.int (3 : Int32)), .val (.int (0 : Int32))] [(.int (0 : Int32)), (.ref tb)])) (fun t k => ?_) ?_
  · show Steps p.tables e below (s₁.setTop (mkF m 0 #[.val (.ref tb), .val (.int (47 : Int32)), .val (.int (0 : Int32)), .val (.int (3 : Int32)), .unset] [])) _
    refine XS.iloadN X0.here hx rfl (hb hby d31_0) rfl ?_
    refine XS.istore X0.here hx rfl (hb hby d31_1) rfl (l' := #[.val (.ref tb), .val (.int (47 : Int32)), .val (.int (0 : Int32)), .val (.int (3 : Int32)), .val (.int (0 : Int32))]) rfl ?_
    refine XS.iload X0.here hx rfl (hb hby d31_3) rfl ?_
    refine XS.iloadN X0.here hx rfl (hb hby d31_5) rfl ?_
    refine XS.icmpNo X0.here hx rfl (hb hby d31_6) rfl (tlt (by decide : (0 : Int32) < (3 : Int32))).2.1 ?_
    show Steps p.tables e below (s₁.setTop (mkF m 9 #[.val (.ref tb), .val (.int (47 : Int32)), .val (.int (0 : Int32)), .val (.int (3 : Int32)), .val (.int (0 : Int32))] [])) _
    refine XS.aloadN X0.here hx rfl (hb hby d31_9) rfl rfl ?_
    refine XS.iload X0.here hx rfl (hb hby d31_10) rfl ?_
    exact k
  obtain ⟨_, _, ⟨T1, L1, k1, n1⟩, -, X1, ⟨Lc1, hQ1, l1, y1, z1⟩, st1⟩ := Jvm.LawKit.callS X0 hx (y := (⟨"java/lang/StringUTF16", "getChar", "([BI)C"⟩ : MethodName)) hown (mvT hZ (hw _ (List.mem_of_getElem? (i := 107) rfl))) (mvT hZ (hw _ (List.mem_of_getElem? (i := 108) rfl))) (mvT hZ (hw _ (List.mem_of_getElem? (i := 80) rfl))) (mvT hZ (hw _ (List.mem_of_getElem? (i := 109) rfl))) (by decide) (backOf (W := 0) (rm24 l Z a0 hw [] tb kb ((3 : Int32) <<< ((1 : Int32) &&& 31)) (own_wide ([u0, u1, u2] : List UInt16)) (0 : Int32) u0 h0 n0 Z0 V_tb (own_G_mk 0 ⟨by decide, by decide⟩ ⟨by decide, by decide⟩ (by decide) (by decide) rfl rfl) hSt O) hZ (hw _ (List.mem_of_getElem? (i := 109) rfl)) (hw _ (List.mem_of_getElem? (i := 80) rfl)) (by decide) (by decide)) (g := (mkF m 12 #[.val (.ref tb), .val (.int (47 : Int32)), .val (.int (0 : Int32)), .val (.int (3 : Int32)), .val (.int (0 : Int32))] [(.int (0 : Int32)), (.ref tb)])) rfl (by rw [hml]; rfl) (argsL := [(.ref tb), (.int (0 : Int32))]) (rest := []) (lenOf pd_8 rfl) rfl (by show 2 * 0 + _ ≤ _; exact Nat.le_of_eq rfl) (hb hby d31_12) (fun _ _ => ⟨rfl, e0, Nat.le_of_ble_eq_true rfl, Nat.le_of_ble_eq_true rfl⟩)
  dsimp only [Pt.U, Pt.locs, Pt.cells, Pt.slots] at X1 l1 y1 z1 st1 hQ1
  subst l1 y1 z1
  obtain ⟨h1, e1⟩ : ∃ z, T1.heap = z := ⟨_, rfl⟩
  rw [e1] at hQ1
  obtain ⟨rfl, hL1, eq1⟩ := hQ1
  subst hL1
  have N1 := Fr.app N0 (Fr.nil n0)
  rw [eq1] at e1
  refine own_go (B := T1.setTop (mkF m 15 #[.val (.ref tb), .val (.int (47 : Int32)), .val (.int (0 : Int32)), .val (.int (3 : Int32)), .val (.int (0 : Int32))] [(.int (own_w u0))])) st1 ?_
  refine own_go (B := T1.setTop (mkF m 16 #[.val (.ref tb), .val (.int (47 : Int32)), .val (.int (0 : Int32)), .val (.int (3 : Int32)), .val (.int (0 : Int32))] [(.int (47 : Int32)), (.int (own_w u0))])) (fun t k => ?_) ?_
  · show Steps p.tables e below (T1.setTop (mkF m 15 #[.val (.ref tb), .val (.int (47 : Int32)), .val (.int (0 : Int32)), .val (.int (3 : Int32)), .val (.int (0 : Int32))] [(.int (own_w u0))])) _
    refine XS.iloadN X1.here hx rfl (hb hby d31_15) rfl ?_
    exact k
  by_cases hc16_2 : (own_w u0) = (47 : Int32)
  · refine own_go (B := T1.setTop (mkF m 21 #[.val (.ref tb), .val (.int (47 : Int32)), .val (.int (0 : Int32)), .val (.int (3 : Int32)), .val (.int (0 : Int32))] [(.int (0 : Int32))])) (fun t k => ?_) ?_
    · show Steps p.tables e below (T1.setTop (mkF m 16 #[.val (.ref tb), .val (.int (47 : Int32)), .val (.int (0 : Int32)), .val (.int (3 : Int32)), .val (.int (0 : Int32))] [(.int (47 : Int32)), (.int (own_w u0))])) _
      refine XS.icmpNo X1.here hx rfl (hb hby d31_16) rfl (teq hc16_2).2 ?_
      refine XS.iload X1.here hx rfl (hb hby d31_19) rfl ?_
      exact k
    obtain ⟨fs, hr, hrun, hended, hW, hsame⟩ := X1.leave (v := some (.int (0 : Int32))) (fun h => by rw [Bd.returns] at h; cases h)
    refine own_done (retOut X1 hx Bd.returns rfl (Or.inl ⟨rfl, Or.inl rfl, _, rfl⟩) (hb hby d31_21) hr) hrun hended ⟨_, _, rfl, ?_, ⟨_, rfl⟩, hW, hsame.mono (by decide) (by decide)⟩
    show Q_rm19 Z ([u0, u1, u2] : List UInt16) h0 n0 (some (.int (0 : Int32))) T1.heap _
    rw [e1]
    exact ⟨_, ⟨rfl, rfl, rfl⟩, ⟨fun q => absurd q (by decide), fun q => (q ⟨u0, by simp, hc16_2⟩).elim⟩⟩
  · refine own_go (B := T1.setTop (mkF m 12 #[.val (.ref tb), .val (.int (47 : Int32)), .val (.int (0 : Int32)), .val (.int (3 : Int32)), .val (.int (1 : Int32))] [(.int (1 : Int32)), (.ref tb)])) (fun t k => ?_) ?_
    · show Steps p.tables e below (T1.setTop (mkF m 16 #[.val (.ref tb), .val (.int (47 : Int32)), .val (.int (0 : Int32)), .val (.int (3 : Int32)), .val (.int (0 : Int32))] [(.int (47 : Int32)), (.int (own_w u0))])) _
      refine XS.icmpYes X1.here hx rfl (pc0 := 16) (pc' := 22) rfl (hb hby d31_16) rfl (feq hc16_2).2 (by decide) (by decide) ?_
      refine XS.iinc X1.here hx rfl (hb hby d31_22) rfl (l' := #[.val (.ref tb), .val (.int (47 : Int32)), .val (.int (0 : Int32)), .val (.int (3 : Int32)), .val (.int (1 : Int32))]) rfl ?_
      refine XS.goto X1.here hx rfl (pc0 := 25) (pc' := 3) rfl (hb hby d31_25) (by decide) (by decide) ?_
      refine XS.iload X1.here hx rfl (hb hby d31_3) rfl ?_
      refine XS.iloadN X1.here hx rfl (hb hby d31_5) rfl ?_
      show Steps p.tables e below (T1.setTop (mkF m 6 #[.val (.ref tb), .val (.int (47 : Int32)), .val (.int (0 : Int32)), .val (.int (3 : Int32)), .val (.int (1 : Int32))] [(.int (3 : Int32)), (.int (1 : Int32))])) _
      refine XS.icmpNo X1.here hx rfl (hb hby d31_6) rfl (tlt (by decide : (1 : Int32) < (3 : Int32))).2.1 ?_
      refine XS.aloadN X1.here hx rfl (hb hby d31_9) rfl rfl ?_
      refine XS.iload X1.here hx rfl (hb hby d31_10) rfl ?_
      exact k
    obtain ⟨_, _, ⟨T3, L3, k3, n3⟩, -, X3, ⟨Lc3, hQ3, l3, y3, z3⟩, st3⟩ := Jvm.LawKit.callS X1 hx (y := (⟨"java/lang/StringUTF16", "getChar", "([BI)C"⟩ : MethodName)) hown (mvT hZ (hw _ (List.mem_of_getElem? (i := 107) rfl))) (mvT hZ (hw _ (List.mem_of_getElem? (i := 108) rfl))) (mvT hZ (hw _ (List.mem_of_getElem? (i := 80) rfl))) (mvT hZ (hw _ (List.mem_of_getElem? (i := 109) rfl))) (by decide) (backOf (W := 0) (rm24 l Z a0 hw [] tb kb ((3 : Int32) <<< ((1 : Int32) &&& 31)) (own_wide ([u0, u1, u2] : List UInt16)) (1 : Int32) u1 h0 n0 Z0 V_tb (own_G_mk 2 ⟨by decide, by decide⟩ ⟨by decide, by decide⟩ (by decide) (by decide) rfl rfl) hSt O) hZ (hw _ (List.mem_of_getElem? (i := 109) rfl)) (hw _ (List.mem_of_getElem? (i := 80) rfl)) (by decide) (by decide)) (g := (mkF m 12 #[.val (.ref tb), .val (.int (47 : Int32)), .val (.int (0 : Int32)), .val (.int (3 : Int32)), .val (.int (1 : Int32))] [(.int (1 : Int32)), (.ref tb)])) rfl (by rw [hml]; rfl) (argsL := [(.ref tb), (.int (1 : Int32))]) (rest := []) (lenOf pd_8 rfl) rfl (by show 2 * 0 + _ ≤ _; exact Nat.le_of_eq rfl) (hb hby d31_12) (fun _ _ => ⟨rfl, e1, Nat.le_of_ble_eq_true rfl, Nat.le_of_ble_eq_true rfl⟩)
    dsimp only [Pt.U, Pt.locs, Pt.cells, Pt.slots] at X3 l3 y3 z3 st3 hQ3
    subst l3 y3 z3
    obtain ⟨h3, e3⟩ : ∃ z, T3.heap = z := ⟨_, rfl⟩
    rw [e3] at hQ3
    obtain ⟨rfl, hL3, eq3⟩ := hQ3
    subst hL3
    have N3 := Fr.app N1 (Fr.nil n0)
    rw [eq3] at e3
    refine own_go (B := T3.setTop (mkF m 15 #[.val (.ref tb), .val (.int (47 : Int32)), .val (.int (0 : Int32)), .val (.int (3 : Int32)), .val (.int (1 : Int32))] [(.int (own_w u1))])) st3 ?_
    refine own_go (B := T3.setTop (mkF m 16 #[.val (.ref tb), .val (.int (47 : Int32)), .val (.int (0 : Int32)), .val (.int (3 : Int32)), .val (.int (1 : Int32))] [(.int (47 : Int32)), (.int (own_w u1))])) (fun t k => ?_) ?_
    · show Steps p.tables e below (T3.setTop (mkF m 15 #[.val (.ref tb), .val (.int (47 : Int32)), .val (.int (0 : Int32)), .val (.int (3 : Int32)), .val (.int (1 : Int32))] [(.int (own_w u1))])) _
      refine XS.iloadN X3.here hx rfl (hb hby d31_15) rfl ?_
      exact k
    by_cases hc16_4 : (own_w u1) = (47 : Int32)
    · refine own_go (B := T3.setTop (mkF m 21 #[.val (.ref tb), .val (.int (47 : Int32)), .val (.int (0 : Int32)), .val (.int (3 : Int32)), .val (.int (1 : Int32))] [(.int (1 : Int32))])) (fun t k => ?_) ?_
      · show Steps p.tables e below (T3.setTop (mkF m 16 #[.val (.ref tb), .val (.int (47 : Int32)), .val (.int (0 : Int32)), .val (.int (3 : Int32)), .val (.int (1 : Int32))] [(.int (47 : Int32)), (.int (own_w u1))])) _
        refine XS.icmpNo X3.here hx rfl (hb hby d31_16) rfl (teq hc16_4).2 ?_
        refine XS.iload X3.here hx rfl (hb hby d31_19) rfl ?_
        exact k
      obtain ⟨fs, hr, hrun, hended, hW, hsame⟩ := X3.leave (v := some (.int (1 : Int32))) (fun h => by rw [Bd.returns] at h; cases h)
      refine own_done (retOut X3 hx Bd.returns rfl (Or.inl ⟨rfl, Or.inl rfl, _, rfl⟩) (hb hby d31_21) hr) hrun hended ⟨_, _, rfl, ?_, ⟨_, rfl⟩, hW, hsame.mono (by decide) (by decide)⟩
      show Q_rm19 Z ([u0, u1, u2] : List UInt16) h0 n0 (some (.int (1 : Int32))) T3.heap _
      rw [e3]
      exact ⟨_, ⟨rfl, rfl, rfl⟩, ⟨fun q => absurd q (by decide), fun q => (q ⟨u1, by simp, hc16_4⟩).elim⟩⟩
    · refine own_go (B := T3.setTop (mkF m 12 #[.val (.ref tb), .val (.int (47 : Int32)), .val (.int (0 : Int32)), .val (.int (3 : Int32)), .val (.int (2 : Int32))] [(.int (2 : Int32)), (.ref tb)])) (fun t k => ?_) ?_
      · show Steps p.tables e below (T3.setTop (mkF m 16 #[.val (.ref tb), .val (.int (47 : Int32)), .val (.int (0 : Int32)), .val (.int (3 : Int32)), .val (.int (1 : Int32))] [(.int (47 : Int32)), (.int (own_w u1))])) _
        refine XS.icmpYes X3.here hx rfl (pc0 := 16) (pc' := 22) rfl (hb hby d31_16) rfl (feq hc16_4).2 (by decide) (by decide) ?_
        refine XS.iinc X3.here hx rfl (hb hby d31_22) rfl (l' := #[.val (.ref tb), .val (.int (47 : Int32)), .val (.int (0 : Int32)), .val (.int (3 : Int32)), .val (.int (2 : Int32))]) rfl ?_
        refine XS.goto X3.here hx rfl (pc0 := 25) (pc' := 3) rfl (hb hby d31_25) (by decide) (by decide) ?_
        refine XS.iload X3.here hx rfl (hb hby d31_3) rfl ?_
        refine XS.iloadN X3.here hx rfl (hb hby d31_5) rfl ?_
        show Steps p.tables e below (T3.setTop (mkF m 6 #[.val (.ref tb), .val (.int (47 : Int32)), .val (.int (0 : Int32)), .val (.int (3 : Int32)), .val (.int (2 : Int32))] [(.int (3 : Int32)), (.int (2 : Int32))])) _
        refine XS.icmpNo X3.here hx rfl (hb hby d31_6) rfl (tlt (by decide : (2 : Int32) < (3 : Int32))).2.1 ?_
        refine XS.aloadN X3.here hx rfl (hb hby d31_9) rfl rfl ?_
        refine XS.iload X3.here hx rfl (hb hby d31_10) rfl ?_
        exact k
      obtain ⟨_, _, ⟨T5, L5, k5, n5⟩, -, X5, ⟨Lc5, hQ5, l5, y5, z5⟩, st5⟩ := Jvm.LawKit.callS X3 hx (y := (⟨"java/lang/StringUTF16", "getChar", "([BI)C"⟩ : MethodName)) hown (mvT hZ (hw _ (List.mem_of_getElem? (i := 107) rfl))) (mvT hZ (hw _ (List.mem_of_getElem? (i := 108) rfl))) (mvT hZ (hw _ (List.mem_of_getElem? (i := 80) rfl))) (mvT hZ (hw _ (List.mem_of_getElem? (i := 109) rfl))) (by decide) (backOf (W := 0) (rm24 l Z a0 hw [] tb kb ((3 : Int32) <<< ((1 : Int32) &&& 31)) (own_wide ([u0, u1, u2] : List UInt16)) (2 : Int32) u2 h0 n0 Z0 V_tb (own_G_mk 4 ⟨by decide, by decide⟩ ⟨by decide, by decide⟩ (by decide) (by decide) rfl rfl) hSt O) hZ (hw _ (List.mem_of_getElem? (i := 109) rfl)) (hw _ (List.mem_of_getElem? (i := 80) rfl)) (by decide) (by decide)) (g := (mkF m 12 #[.val (.ref tb), .val (.int (47 : Int32)), .val (.int (0 : Int32)), .val (.int (3 : Int32)), .val (.int (2 : Int32))] [(.int (2 : Int32)), (.ref tb)])) rfl (by rw [hml]; rfl) (argsL := [(.ref tb), (.int (2 : Int32))]) (rest := []) (lenOf pd_8 rfl) rfl (by show 2 * 0 + _ ≤ _; exact Nat.le_of_eq rfl) (hb hby d31_12) (fun _ _ => ⟨rfl, e3, Nat.le_of_ble_eq_true rfl, Nat.le_of_ble_eq_true rfl⟩)
      dsimp only [Pt.U, Pt.locs, Pt.cells, Pt.slots] at X5 l5 y5 z5 st5 hQ5
      subst l5 y5 z5
      obtain ⟨h5, e5⟩ : ∃ z, T5.heap = z := ⟨_, rfl⟩
      rw [e5] at hQ5
      obtain ⟨rfl, hL5, eq5⟩ := hQ5
      subst hL5
      have N5 := Fr.app N3 (Fr.nil n0)
      rw [eq5] at e5
      refine own_go (B := T5.setTop (mkF m 15 #[.val (.ref tb), .val (.int (47 : Int32)), .val (.int (0 : Int32)), .val (.int (3 : Int32)), .val (.int (2 : Int32))] [(.int (own_w u2))])) st5 ?_
      refine own_go (B := T5.setTop (mkF m 16 #[.val (.ref tb), .val (.int (47 : Int32)), .val (.int (0 : Int32)), .val (.int (3 : Int32)), .val (.int (2 : Int32))] [(.int (47 : Int32)), (.int (own_w u2))])) (fun t k => ?_) ?_
      · show Steps p.tables e below (T5.setTop (mkF m 15 #[.val (.ref tb), .val (.int (47 : Int32)), .val (.int (0 : Int32)), .val (.int (3 : Int32)), .val (.int (2 : Int32))] [(.int (own_w u2))])) _
        refine XS.iloadN X5.here hx rfl (hb hby d31_15) rfl ?_
        exact k
      by_cases hc16_6 : (own_w u2) = (47 : Int32)
      · refine own_go (B := T5.setTop (mkF m 21 #[.val (.ref tb), .val (.int (47 : Int32)), .val (.int (0 : Int32)), .val (.int (3 : Int32)), .val (.int (2 : Int32))] [(.int (2 : Int32))])) (fun t k => ?_) ?_
        · show Steps p.tables e below (T5.setTop (mkF m 16 #[.val (.ref tb), .val (.int (47 : Int32)), .val (.int (0 : Int32)), .val (.int (3 : Int32)), .val (.int (2 : Int32))] [(.int (47 : Int32)), (.int (own_w u2))])) _
          refine XS.icmpNo X5.here hx rfl (hb hby d31_16) rfl (teq hc16_6).2 ?_
          refine XS.iload X5.here hx rfl (hb hby d31_19) rfl ?_
          exact k
        obtain ⟨fs, hr, hrun, hended, hW, hsame⟩ := X5.leave (v := some (.int (2 : Int32))) (fun h => by rw [Bd.returns] at h; cases h)
        refine own_done (retOut X5 hx Bd.returns rfl (Or.inl ⟨rfl, Or.inl rfl, _, rfl⟩) (hb hby d31_21) hr) hrun hended ⟨_, _, rfl, ?_, ⟨_, rfl⟩, hW, hsame.mono (by decide) (by decide)⟩
        show Q_rm19 Z ([u0, u1, u2] : List UInt16) h0 n0 (some (.int (2 : Int32))) T5.heap _
        rw [e5]
        exact ⟨_, ⟨rfl, rfl, rfl⟩, ⟨fun q => absurd q (by decide), fun q => (q ⟨u2, by simp, hc16_6⟩).elim⟩⟩
      · refine own_go (B := T5.setTop (mkF m 29 #[.val (.ref tb), .val (.int (47 : Int32)), .val (.int (0 : Int32)), .val (.int (3 : Int32)), .val (.int (3 : Int32))] [(.int (-1 : Int32))])) (fun t k => ?_) ?_
        · show Steps p.tables e below (T5.setTop (mkF m 16 #[.val (.ref tb), .val (.int (47 : Int32)), .val (.int (0 : Int32)), .val (.int (3 : Int32)), .val (.int (2 : Int32))] [(.int (47 : Int32)), (.int (own_w u2))])) _
          refine XS.icmpYes X5.here hx rfl (pc0 := 16) (pc' := 22) rfl (hb hby d31_16) rfl (feq hc16_6).2 (by decide) (by decide) ?_
          refine XS.iinc X5.here hx rfl (hb hby d31_22) rfl (l' := #[.val (.ref tb), .val (.int (47 : Int32)), .val (.int (0 : Int32)), .val (.int (3 : Int32)), .val (.int (3 : Int32))]) rfl ?_
          refine XS.goto X5.here hx rfl (pc0 := 25) (pc' := 3) rfl (hb hby d31_25) (by decide) (by decide) ?_
          refine XS.iload X5.here hx rfl (hb hby d31_3) rfl ?_
          refine XS.iloadN X5.here hx rfl (hb hby d31_5) rfl ?_
          show Steps p.tables e below (T5.setTop (mkF m 6 #[.val (.ref tb), .val (.int (47 : Int32)), .val (.int (0 : Int32)), .val (.int (3 : Int32)), .val (.int (3 : Int32))] [(.int (3 : Int32)), (.int (3 : Int32))])) _
          refine XS.icmpYes X5.here hx rfl (pc0 := 6) (pc' := 28) rfl (hb hby d31_6) rfl (flt (by decide : ¬ ((3 : Int32) < (3 : Int32)))).2.1 (by decide) (by decide) ?_
          refine XS.iconst X5.here hx rfl (hb hby d31_28) ?_
          exact k
        obtain ⟨fs, hr, hrun, hended, hW, hsame⟩ := X5.leave (v := some (.int (-1 : Int32))) (fun h => by rw [Bd.returns] at h; cases h)
        refine own_done (retOut X5 hx Bd.returns rfl (Or.inl ⟨rfl, Or.inl rfl, _, rfl⟩) (hb hby d31_29) hr) hrun hended ⟨_, _, rfl, ?_, ⟨_, rfl⟩, hW, hsame.mono (by decide) (by decide)⟩
        show Q_rm19 Z ([u0, u1, u2] : List UInt16) h0 n0 (some (.int (-1 : Int32))) T5.heap _
        rw [e5]
        exact ⟨_, ⟨rfl, rfl, rfl⟩, ⟨fun _ => own_not (own_allc hc16_2 (own_allc hc16_4 (own_allc hc16_6 own_alln))), fun _ => by decide⟩⟩
theorem ef_rm31_4 (m : MethodId) (x0 : Addr) (x1 : Int32) (x2 : Int32) (x3 : Int32) : entryFrame m #[(.ref x0), (.int x1), (.int x2), (.int x3)] 5 = mkF m 0 #[.val (.ref x0), .val (.int x1), .val (.int x2), .val (.int x3), .unset] [] := by first | (simp [entryFrame, mkF, argsToLocals, Value.category, maxLocals]; done) | rfl
set_option maxRecDepth 65536 in
set_option maxHeartbeats 40000000 in
theorem rm31_4 (l : Launch) (Z : State) (a0 : Array Value) (hw : ∀ d ∈ tables_1, d.before a0 Z = true) (ws : List Jvm.Cond) (tb : Addr) (kb : ClassId) (u0 u1 u2 u3 : UInt16) (h0 : Heap) (n0 : Nat) (Z0 : n0 ≤ h0.size) (V_tb : Arv Z h0 tb kb .byte ((4 : Int32) <<< ((1 : Int32) &&& 31)) (own_wide ([u0, u1, u2, u3] : List UInt16)) (.int (0 : Int32))) (hSt : own_S Z) (O : Old Z n0 h0) :
    MetFree l (⟨"java/lang/StringUTF16", "indexOfCharUnsafe", "([BIII)I"⟩ : MethodName) (head1 (Jvm.Cond.code (⟨"java/lang/StringUTF16", "indexOfCharUnsafe", "([BIII)I"⟩ : MethodName) jdk_52_method_48_code 5 (some .int) :: ws) ({ frames := 1, cells := 0, slots := 0, locals := 13 } : Room)) (fun a U => a = #[(.ref tb), (.int (47 : Int32)), (.int (0 : Int32)), (.int (4 : Int32))] ∧ Z.Warmed39 U.vm ∧ U.heap = h0) (fun _ _ _ _ _ => True) (fun _ U o U' => ∃ v L, o = .returned v ∧ Q_rm19 Z ([u0, u1, u2, u3] : List UInt16) h0 n0 v U'.heap L ∧ FrameEnd U o U' L ({ frames := 1, cells := 0, slots := 0, locals := 13 } : Room).cells ({ frames := 1, cells := 0, slots := 0, locals := 13 } : Room).slots) := by
  refine MetFree.of_bodySF (plainFor_of_name pn_31) hisR ?_
  intro p e s m args below meth c s₁ Bd hml0 hP hK
  obtain ⟨rfl, hZ, hh⟩ := hP
  have hx := Bd.exec
  have hby := Bd.bytes
  have hml : c.maxLocals = 5 := hml0
  have hown : s.vm.findClass "java/lang/StringUTF16" = some m.cls := findClass_of_methodNamed Bd.named
  have hnm := (name_of_methodNamed Bd.named Bd.method).1
  have X0 : Stand p l e ({ frames := 1, cells := 0, slots := 0, locals := 13 } : Room) s m #[(.ref tb), (.int (47 : Int32)), (.int (0 : Int32)), (.int (4 : Int32))] below meth c s₁ [] 0 0 := Stand.of_body Bd
  have e0 : s₁.heap = h0 := by rw [← hh, Bd.state]; rfl
  have N0 := Fr.nil n0
  have K : Keep h0 h0 [] := Keep.refl h0 []
  obtain ⟨G1, G3, O2, P5, O4, rG3, SA, SB, SC⟩ := id hSt
  show own_Gd p.tables e below (own_P (Q_rm19 Z ([u0, u1, u2, u3] : List UInt16) h0 n0) s ({ frames := 1, cells := 0, slots := 0, locals := 13 } : Room).cells ({ frames := 1, cells := 0, slots := 0, locals := 13 } : Room).slots) _
  refine own_go (B := s₁.setTop (mkF m 0 #[.val (.ref tb), .val (.int (47 : Int32)), .val (.int (0 : Int32)), .val (.int (4 : Int32)), .unset] [])) (fun t k => castTop (ef_rm31_4 m tb (47 : Int32) (0 : Int32) (4 : Int32)) k) ?_
  refine own_go (B := s₁.setTop (mkF m 12 #[.val (.ref tb), .val (.int (47 : Int32)), .val (.int (0 : Int32)), .val (.int (4 : Int32)), .val (.int (0 : Int32))] [(.int (0 : Int32)), (.ref tb)])) (fun t k => ?_) ?_
  · show Steps p.tables e below (s₁.setTop (mkF m 0 #[.val (.ref tb), .val (.int (47 : Int32)), .val (.int (0 : Int32)), .val (.int (4 : Int32)), .unset] [])) _
    refine XS.iloadN X0.here hx rfl (hb hby d31_0) rfl ?_
    refine XS.istore X0.here hx rfl (hb hby d31_1) rfl (l' := #[.val (.ref tb), .val (.int (47 : Int32)), .val (.int (0 : Int32)), .val (.int (4 : Int32)), .val (.int (0 : Int32))]) rfl ?_
    refine XS.iload X0.here hx rfl (hb hby d31_3) rfl ?_
    refine XS.iloadN X0.here hx rfl (hb hby d31_5) rfl ?_
    refine XS.icmpNo X0.here hx rfl (hb hby d31_6) rfl (tlt (by decide : (0 : Int32) < (4 : Int32))).2.1 ?_
    show Steps p.tables e below (s₁.setTop (mkF m 9 #[.val (.ref tb), .val (.int (47 : Int32)), .val (.int (0 : Int32)), .val (.int (4 : Int32)), .val (.int (0 : Int32))] [])) _
    refine XS.aloadN X0.here hx rfl (hb hby d31_9) rfl rfl ?_
    refine XS.iload X0.here hx rfl (hb hby d31_10) rfl ?_
    exact k
  obtain ⟨_, _, ⟨T1, L1, k1, n1⟩, -, X1, ⟨Lc1, hQ1, l1, y1, z1⟩, st1⟩ := Jvm.LawKit.callS X0 hx (y := (⟨"java/lang/StringUTF16", "getChar", "([BI)C"⟩ : MethodName)) hown (mvT hZ (hw _ (List.mem_of_getElem? (i := 107) rfl))) (mvT hZ (hw _ (List.mem_of_getElem? (i := 108) rfl))) (mvT hZ (hw _ (List.mem_of_getElem? (i := 80) rfl))) (mvT hZ (hw _ (List.mem_of_getElem? (i := 109) rfl))) (by decide) (backOf (W := 0) (rm24 l Z a0 hw [] tb kb ((4 : Int32) <<< ((1 : Int32) &&& 31)) (own_wide ([u0, u1, u2, u3] : List UInt16)) (0 : Int32) u0 h0 n0 Z0 V_tb (own_G_mk 0 ⟨by decide, by decide⟩ ⟨by decide, by decide⟩ (by decide) (by decide) rfl rfl) hSt O) hZ (hw _ (List.mem_of_getElem? (i := 109) rfl)) (hw _ (List.mem_of_getElem? (i := 80) rfl)) (by decide) (by decide)) (g := (mkF m 12 #[.val (.ref tb), .val (.int (47 : Int32)), .val (.int (0 : Int32)), .val (.int (4 : Int32)), .val (.int (0 : Int32))] [(.int (0 : Int32)), (.ref tb)])) rfl (by rw [hml]; rfl) (argsL := [(.ref tb), (.int (0 : Int32))]) (rest := []) (lenOf pd_8 rfl) rfl (by show 2 * 0 + _ ≤ _; exact Nat.le_of_eq rfl) (hb hby d31_12) (fun _ _ => ⟨rfl, e0, Nat.le_of_ble_eq_true rfl, Nat.le_of_ble_eq_true rfl⟩)
  dsimp only [Pt.U, Pt.locs, Pt.cells, Pt.slots] at X1 l1 y1 z1 st1 hQ1
  subst l1 y1 z1
  obtain ⟨h1, e1⟩ : ∃ z, T1.heap = z := ⟨_, rfl⟩
  rw [e1] at hQ1
  obtain ⟨rfl, hL1, eq1⟩ := hQ1
  subst hL1
  have N1 := Fr.app N0 (Fr.nil n0)
  rw [eq1] at e1
  refine own_go (B := T1.setTop (mkF m 15 #[.val (.ref tb), .val (.int (47 : Int32)), .val (.int (0 : Int32)), .val (.int (4 : Int32)), .val (.int (0 : Int32))] [(.int (own_w u0))])) st1 ?_
  refine own_go (B := T1.setTop (mkF m 16 #[.val (.ref tb), .val (.int (47 : Int32)), .val (.int (0 : Int32)), .val (.int (4 : Int32)), .val (.int (0 : Int32))] [(.int (47 : Int32)), (.int (own_w u0))])) (fun t k => ?_) ?_
  · show Steps p.tables e below (T1.setTop (mkF m 15 #[.val (.ref tb), .val (.int (47 : Int32)), .val (.int (0 : Int32)), .val (.int (4 : Int32)), .val (.int (0 : Int32))] [(.int (own_w u0))])) _
    refine XS.iloadN X1.here hx rfl (hb hby d31_15) rfl ?_
    exact k
  by_cases hc16_2 : (own_w u0) = (47 : Int32)
  · refine own_go (B := T1.setTop (mkF m 21 #[.val (.ref tb), .val (.int (47 : Int32)), .val (.int (0 : Int32)), .val (.int (4 : Int32)), .val (.int (0 : Int32))] [(.int (0 : Int32))])) (fun t k => ?_) ?_
    · show Steps p.tables e below (T1.setTop (mkF m 16 #[.val (.ref tb), .val (.int (47 : Int32)), .val (.int (0 : Int32)), .val (.int (4 : Int32)), .val (.int (0 : Int32))] [(.int (47 : Int32)), (.int (own_w u0))])) _
      refine XS.icmpNo X1.here hx rfl (hb hby d31_16) rfl (teq hc16_2).2 ?_
      refine XS.iload X1.here hx rfl (hb hby d31_19) rfl ?_
      exact k
    obtain ⟨fs, hr, hrun, hended, hW, hsame⟩ := X1.leave (v := some (.int (0 : Int32))) (fun h => by rw [Bd.returns] at h; cases h)
    refine own_done (retOut X1 hx Bd.returns rfl (Or.inl ⟨rfl, Or.inl rfl, _, rfl⟩) (hb hby d31_21) hr) hrun hended ⟨_, _, rfl, ?_, ⟨_, rfl⟩, hW, hsame.mono (by decide) (by decide)⟩
    show Q_rm19 Z ([u0, u1, u2, u3] : List UInt16) h0 n0 (some (.int (0 : Int32))) T1.heap _
    rw [e1]
    exact ⟨_, ⟨rfl, rfl, rfl⟩, ⟨fun q => absurd q (by decide), fun q => (q ⟨u0, by simp, hc16_2⟩).elim⟩⟩
  · refine own_go (B := T1.setTop (mkF m 12 #[.val (.ref tb), .val (.int (47 : Int32)), .val (.int (0 : Int32)), .val (.int (4 : Int32)), .val (.int (1 : Int32))] [(.int (1 : Int32)), (.ref tb)])) (fun t k => ?_) ?_
    · show Steps p.tables e below (T1.setTop (mkF m 16 #[.val (.ref tb), .val (.int (47 : Int32)), .val (.int (0 : Int32)), .val (.int (4 : Int32)), .val (.int (0 : Int32))] [(.int (47 : Int32)), (.int (own_w u0))])) _
      refine XS.icmpYes X1.here hx rfl (pc0 := 16) (pc' := 22) rfl (hb hby d31_16) rfl (feq hc16_2).2 (by decide) (by decide) ?_
      refine XS.iinc X1.here hx rfl (hb hby d31_22) rfl (l' := #[.val (.ref tb), .val (.int (47 : Int32)), .val (.int (0 : Int32)), .val (.int (4 : Int32)), .val (.int (1 : Int32))]) rfl ?_
      refine XS.goto X1.here hx rfl (pc0 := 25) (pc' := 3) rfl (hb hby d31_25) (by decide) (by decide) ?_
      refine XS.iload X1.here hx rfl (hb hby d31_3) rfl ?_
      refine XS.iloadN X1.here hx rfl (hb hby d31_5) rfl ?_
      show Steps p.tables e below (T1.setTop (mkF m 6 #[.val (.ref tb), .val (.int (47 : Int32)), .val (.int (0 : Int32)), .val (.int (4 : Int32)), .val (.int (1 : Int32))] [(.int (4 : Int32)), (.int (1 : Int32))])) _
      refine XS.icmpNo X1.here hx rfl (hb hby d31_6) rfl (tlt (by decide : (1 : Int32) < (4 : Int32))).2.1 ?_
      refine XS.aloadN X1.here hx rfl (hb hby d31_9) rfl rfl ?_
      refine XS.iload X1.here hx rfl (hb hby d31_10) rfl ?_
      exact k
    obtain ⟨_, _, ⟨T3, L3, k3, n3⟩, -, X3, ⟨Lc3, hQ3, l3, y3, z3⟩, st3⟩ := Jvm.LawKit.callS X1 hx (y := (⟨"java/lang/StringUTF16", "getChar", "([BI)C"⟩ : MethodName)) hown (mvT hZ (hw _ (List.mem_of_getElem? (i := 107) rfl))) (mvT hZ (hw _ (List.mem_of_getElem? (i := 108) rfl))) (mvT hZ (hw _ (List.mem_of_getElem? (i := 80) rfl))) (mvT hZ (hw _ (List.mem_of_getElem? (i := 109) rfl))) (by decide) (backOf (W := 0) (rm24 l Z a0 hw [] tb kb ((4 : Int32) <<< ((1 : Int32) &&& 31)) (own_wide ([u0, u1, u2, u3] : List UInt16)) (1 : Int32) u1 h0 n0 Z0 V_tb (own_G_mk 2 ⟨by decide, by decide⟩ ⟨by decide, by decide⟩ (by decide) (by decide) rfl rfl) hSt O) hZ (hw _ (List.mem_of_getElem? (i := 109) rfl)) (hw _ (List.mem_of_getElem? (i := 80) rfl)) (by decide) (by decide)) (g := (mkF m 12 #[.val (.ref tb), .val (.int (47 : Int32)), .val (.int (0 : Int32)), .val (.int (4 : Int32)), .val (.int (1 : Int32))] [(.int (1 : Int32)), (.ref tb)])) rfl (by rw [hml]; rfl) (argsL := [(.ref tb), (.int (1 : Int32))]) (rest := []) (lenOf pd_8 rfl) rfl (by show 2 * 0 + _ ≤ _; exact Nat.le_of_eq rfl) (hb hby d31_12) (fun _ _ => ⟨rfl, e1, Nat.le_of_ble_eq_true rfl, Nat.le_of_ble_eq_true rfl⟩)
    dsimp only [Pt.U, Pt.locs, Pt.cells, Pt.slots] at X3 l3 y3 z3 st3 hQ3
    subst l3 y3 z3
    obtain ⟨h3, e3⟩ : ∃ z, T3.heap = z := ⟨_, rfl⟩
    rw [e3] at hQ3
    obtain ⟨rfl, hL3, eq3⟩ := hQ3
    subst hL3
    have N3 := Fr.app N1 (Fr.nil n0)
    rw [eq3] at e3
    refine own_go (B := T3.setTop (mkF m 15 #[.val (.ref tb), .val (.int (47 : Int32)), .val (.int (0 : Int32)), .val (.int (4 : Int32)), .val (.int (1 : Int32))] [(.int (own_w u1))])) st3 ?_
    refine own_go (B := T3.setTop (mkF m 16 #[.val (.ref tb), .val (.int (47 : Int32)), .val (.int (0 : Int32)), .val (.int (4 : Int32)), .val (.int (1 : Int32))] [(.int (47 : Int32)), (.int (own_w u1))])) (fun t k => ?_) ?_
    · show Steps p.tables e below (T3.setTop (mkF m 15 #[.val (.ref tb), .val (.int (47 : Int32)), .val (.int (0 : Int32)), .val (.int (4 : Int32)), .val (.int (1 : Int32))] [(.int (own_w u1))])) _
      refine XS.iloadN X3.here hx rfl (hb hby d31_15) rfl ?_
      exact k
    by_cases hc16_4 : (own_w u1) = (47 : Int32)
    · refine own_go (B := T3.setTop (mkF m 21 #[.val (.ref tb), .val (.int (47 : Int32)), .val (.int (0 : Int32)), .val (.int (4 : Int32)), .val (.int (1 : Int32))] [(.int (1 : Int32))])) (fun t k => ?_) ?_
      · show Steps p.tables e below (T3.setTop (mkF m 16 #[.val (.ref tb), .val (.int (47 : Int32)), .val (.int (0 : Int32)), .val (.int (4 : Int32)), .val (.int (1 : Int32))] [(.int (47 : Int32)), (.int (own_w u1))])) _
        refine XS.icmpNo X3.here hx rfl (hb hby d31_16) rfl (teq hc16_4).2 ?_
        refine XS.iload X3.here hx rfl (hb hby d31_19) rfl ?_
        exact k
      obtain ⟨fs, hr, hrun, hended, hW, hsame⟩ := X3.leave (v := some (.int (1 : Int32))) (fun h => by rw [Bd.returns] at h; cases h)
      refine own_done (retOut X3 hx Bd.returns rfl (Or.inl ⟨rfl, Or.inl rfl, _, rfl⟩) (hb hby d31_21) hr) hrun hended ⟨_, _, rfl, ?_, ⟨_, rfl⟩, hW, hsame.mono (by decide) (by decide)⟩
      show Q_rm19 Z ([u0, u1, u2, u3] : List UInt16) h0 n0 (some (.int (1 : Int32))) T3.heap _
      rw [e3]
      exact ⟨_, ⟨rfl, rfl, rfl⟩, ⟨fun q => absurd q (by decide), fun q => (q ⟨u1, by simp, hc16_4⟩).elim⟩⟩
    · refine own_go (B := T3.setTop (mkF m 12 #[.val (.ref tb), .val (.int (47 : Int32)), .val (.int (0 : Int32)), .val (.int (4 : Int32)), .val (.int (2 : Int32))] [(.int (2 : Int32)), (.ref tb)])) (fun t k => ?_) ?_
      · show Steps p.tables e below (T3.setTop (mkF m 16 #[.val (.ref tb), .val (.int (47 : Int32)), .val (.int (0 : Int32)), .val (.int (4 : Int32)), .val (.int (1 : Int32))] [(.int (47 : Int32)), (.int (own_w u1))])) _
        refine XS.icmpYes X3.here hx rfl (pc0 := 16) (pc' := 22) rfl (hb hby d31_16) rfl (feq hc16_4).2 (by decide) (by decide) ?_
        refine XS.iinc X3.here hx rfl (hb hby d31_22) rfl (l' := #[.val (.ref tb), .val (.int (47 : Int32)), .val (.int (0 : Int32)), .val (.int (4 : Int32)), .val (.int (2 : Int32))]) rfl ?_
        refine XS.goto X3.here hx rfl (pc0 := 25) (pc' := 3) rfl (hb hby d31_25) (by decide) (by decide) ?_
        refine XS.iload X3.here hx rfl (hb hby d31_3) rfl ?_
        refine XS.iloadN X3.here hx rfl (hb hby d31_5) rfl ?_
        show Steps p.tables e below (T3.setTop (mkF m 6 #[.val (.ref tb), .val (.int (47 : Int32)), .val (.int (0 : Int32)), .val (.int (4 : Int32)), .val (.int (2 : Int32))] [(.int (4 : Int32)), (.int (2 : Int32))])) _
        refine XS.icmpNo X3.here hx rfl (hb hby d31_6) rfl (tlt (by decide : (2 : Int32) < (4 : Int32))).2.1 ?_
        refine XS.aloadN X3.here hx rfl (hb hby d31_9) rfl rfl ?_
        refine XS.iload X3.here hx rfl (hb hby d31_10) rfl ?_
        exact k
      obtain ⟨_, _, ⟨T5, L5, k5, n5⟩, -, X5, ⟨Lc5, hQ5, l5, y5, z5⟩, st5⟩ := Jvm.LawKit.callS X3 hx (y := (⟨"java/lang/StringUTF16", "getChar", "([BI)C"⟩ : MethodName)) hown (mvT hZ (hw _ (List.mem_of_getElem? (i := 107) rfl))) (mvT hZ (hw _ (List.mem_of_getElem? (i := 108) rfl))) (mvT hZ (hw _ (List.mem_of_getElem? (i := 80) rfl))) (mvT hZ (hw _ (List.mem_of_getElem? (i := 109) rfl))) (by decide) (backOf (W := 0) (rm24 l Z a0 hw [] tb kb ((4 : Int32) <<< ((1 : Int32) &&& 31)) (own_wide ([u0, u1, u2, u3] : List UInt16)) (2 : Int32) u2 h0 n0 Z0 V_tb (own_G_mk 4 ⟨by decide, by decide⟩ ⟨by decide, by decide⟩ (by decide) (by decide) rfl rfl) hSt O) hZ (hw _ (List.mem_of_getElem? (i := 109) rfl)) (hw _ (List.mem_of_getElem? (i := 80) rfl)) (by decide) (by decide)) (g := (mkF m 12 #[.val (.ref tb), .val (.int (47 : Int32)), .val (.int (0 : Int32)), .val (.int (4 : Int32)), .val (.int (2 : Int32))] [(.int (2 : Int32)), (.ref tb)])) rfl (by rw [hml]; rfl) (argsL := [(.ref tb), (.int (2 : Int32))]) (rest := []) (lenOf pd_8 rfl) rfl (by show 2 * 0 + _ ≤ _; exact Nat.le_of_eq rfl) (hb hby d31_12) (fun _ _ => ⟨rfl, e3, Nat.le_of_ble_eq_true rfl, Nat.le_of_ble_eq_true rfl⟩)
      dsimp only [Pt.U, Pt.locs, Pt.cells, Pt.slots] at X5 l5 y5 z5 st5 hQ5
      subst l5 y5 z5
      obtain ⟨h5, e5⟩ : ∃ z, T5.heap = z := ⟨_, rfl⟩
      rw [e5] at hQ5
      obtain ⟨rfl, hL5, eq5⟩ := hQ5
      subst hL5
      have N5 := Fr.app N3 (Fr.nil n0)
      rw [eq5] at e5
      refine own_go (B := T5.setTop (mkF m 15 #[.val (.ref tb), .val (.int (47 : Int32)), .val (.int (0 : Int32)), .val (.int (4 : Int32)), .val (.int (2 : Int32))] [(.int (own_w u2))])) st5 ?_
      refine own_go (B := T5.setTop (mkF m 16 #[.val (.ref tb), .val (.int (47 : Int32)), .val (.int (0 : Int32)), .val (.int (4 : Int32)), .val (.int (2 : Int32))] [(.int (47 : Int32)), (.int (own_w u2))])) (fun t k => ?_) ?_
      · show Steps p.tables e below (T5.setTop (mkF m 15 #[.val (.ref tb), .val (.int (47 : Int32)), .val (.int (0 : Int32)), .val (.int (4 : Int32)), .val (.int (2 : Int32))] [(.int (own_w u2))])) _
        refine XS.iloadN X5.here hx rfl (hb hby d31_15) rfl ?_
        exact k
      by_cases hc16_6 : (own_w u2) = (47 : Int32)
      · refine own_go (B := T5.setTop (mkF m 21 #[.val (.ref tb), .val (.int (47 : Int32)), .val (.int (0 : Int32)), .val (.int (4 : Int32)), .val (.int (2 : Int32))] [(.int (2 : Int32))])) (fun t k => ?_) ?_
        · show Steps p.tables e below (T5.setTop (mkF m 16 #[.val (.ref tb), .val (.int (47 : Int32)), .val (.int (0 : Int32)), .val (.int (4 : Int32)), .val (.int (2 : Int32))] [(.int (47 : Int32)), (.int (own_w u2))])) _
          refine XS.icmpNo X5.here hx rfl (hb hby d31_16) rfl (teq hc16_6).2 ?_
          refine XS.iload X5.here hx rfl (hb hby d31_19) rfl ?_
          exact k
        obtain ⟨fs, hr, hrun, hended, hW, hsame⟩ := X5.leave (v := some (.int (2 : Int32))) (fun h => by rw [Bd.returns] at h; cases h)
        refine own_done (retOut X5 hx Bd.returns rfl (Or.inl ⟨rfl, Or.inl rfl, _, rfl⟩) (hb hby d31_21) hr) hrun hended ⟨_, _, rfl, ?_, ⟨_, rfl⟩, hW, hsame.mono (by decide) (by decide)⟩
        show Q_rm19 Z ([u0, u1, u2, u3] : List UInt16) h0 n0 (some (.int (2 : Int32))) T5.heap _
        rw [e5]
        exact ⟨_, ⟨rfl, rfl, rfl⟩, ⟨fun q => absurd q (by decide), fun q => (q ⟨u2, by simp, hc16_6⟩).elim⟩⟩
      · refine own_go (B := T5.setTop (mkF m 12 #[.val (.ref tb), .val (.int (47 : Int32)), .val (.int (0 : Int32)), .val (.int (4 : Int32)), .val (.int (3 : Int32))] [(.int (3 : Int32)), (.ref tb)])) (fun t k => ?_) ?_
        · show Steps p.tables e below (T5.setTop (mkF m 16 #[.val (.ref tb), .val (.int (47 : Int32)), .val (.int (0 : Int32)), .val (.int (4 : Int32)), .val (.int (2 : Int32))] [(.int (47 : Int32)), (.int (own_w u2))])) _
          refine XS.icmpYes X5.here hx rfl (pc0 := 16) (pc' := 22) rfl (hb hby d31_16) rfl (feq hc16_6).2 (by decide) (by decide) ?_
          refine XS.iinc X5.here hx rfl (hb hby d31_22) rfl (l' := #[.val (.ref tb), .val (.int (47 : Int32)), .val (.int (0 : Int32)), .val (.int (4 : Int32)), .val (.int (3 : Int32))]) rfl ?_
          refine XS.goto X5.here hx rfl (pc0 := 25) (pc' := 3) rfl (hb hby d31_25) (by decide) (by decide) ?_
          refine XS.iload X5.here hx rfl (hb hby d31_3) rfl ?_
          refine XS.iloadN X5.here hx rfl (hb hby d31_5) rfl ?_
          show Steps p.tables e below (T5.setTop (mkF m 6 #[.val (.ref tb), .val (.int (47 : Int32)), .val (.int (0 : Int32)), .val (.int (4 : Int32)), .val (.int (3 : Int32))] [(.int (4 : Int32)), (.int (3 : Int32))])) _
          refine XS.icmpNo X5.here hx rfl (hb hby d31_6) rfl (tlt (by decide : (3 : Int32) < (4 : Int32))).2.1 ?_
          refine XS.aloadN X5.here hx rfl (hb hby d31_9) rfl rfl ?_
          refine XS.iload X5.here hx rfl (hb hby d31_10) rfl ?_
          exact k
        obtain ⟨_, _, ⟨T7, L7, k7, n7⟩, -, X7, ⟨Lc7, hQ7, l7, y7, z7⟩, st7⟩ := Jvm.LawKit.callS X5 hx (y := (⟨"java/lang/StringUTF16", "getChar", "([BI)C"⟩ : MethodName)) hown (mvT hZ (hw _ (List.mem_of_getElem? (i := 107) rfl))) (mvT hZ (hw _ (List.mem_of_getElem? (i := 108) rfl))) (mvT hZ (hw _ (List.mem_of_getElem? (i := 80) rfl))) (mvT hZ (hw _ (List.mem_of_getElem? (i := 109) rfl))) (by decide) (backOf (W := 0) (rm24 l Z a0 hw [] tb kb ((4 : Int32) <<< ((1 : Int32) &&& 31)) (own_wide ([u0, u1, u2, u3] : List UInt16)) (3 : Int32) u3 h0 n0 Z0 V_tb (own_G_mk 6 ⟨by decide, by decide⟩ ⟨by decide, by decide⟩ (by decide) (by decide) rfl rfl) hSt O) hZ (hw _ (List.mem_of_getElem? (i := 109) rfl)) (hw _ (List.mem_of_getElem? (i := 80) rfl)) (by decide) (by decide)) (g := (mkF m 12 #[.val (.ref tb), .val (.int (47 : Int32)), .val (.int (0 : Int32)), .val (.int (4 : Int32)), .val (.int (3 : Int32))] [(.int (3 : Int32)), (.ref tb)])) rfl (by rw [hml]; rfl) (argsL := [(.ref tb), (.int (3 : Int32))]) (rest := []) (lenOf pd_8 rfl) rfl (by show 2 * 0 + _ ≤ _; exact Nat.le_of_eq rfl) (hb hby d31_12) (fun _ _ => ⟨rfl, e5, Nat.le_of_ble_eq_true rfl, Nat.le_of_ble_eq_true rfl⟩)
        dsimp only [Pt.U, Pt.locs, Pt.cells, Pt.slots] at X7 l7 y7 z7 st7 hQ7
        subst l7 y7 z7
        obtain ⟨h7, e7⟩ : ∃ z, T7.heap = z := ⟨_, rfl⟩
        rw [e7] at hQ7
        obtain ⟨rfl, hL7, eq7⟩ := hQ7
        subst hL7
        have N7 := Fr.app N5 (Fr.nil n0)
        rw [eq7] at e7
        refine own_go (B := T7.setTop (mkF m 15 #[.val (.ref tb), .val (.int (47 : Int32)), .val (.int (0 : Int32)), .val (.int (4 : Int32)), .val (.int (3 : Int32))] [(.int (own_w u3))])) st7 ?_
        refine own_go (B := T7.setTop (mkF m 16 #[.val (.ref tb), .val (.int (47 : Int32)), .val (.int (0 : Int32)), .val (.int (4 : Int32)), .val (.int (3 : Int32))] [(.int (47 : Int32)), (.int (own_w u3))])) (fun t k => ?_) ?_
        · show Steps p.tables e below (T7.setTop (mkF m 15 #[.val (.ref tb), .val (.int (47 : Int32)), .val (.int (0 : Int32)), .val (.int (4 : Int32)), .val (.int (3 : Int32))] [(.int (own_w u3))])) _
          refine XS.iloadN X7.here hx rfl (hb hby d31_15) rfl ?_
          exact k
        by_cases hc16_8 : (own_w u3) = (47 : Int32)
        · refine own_go (B := T7.setTop (mkF m 21 #[.val (.ref tb), .val (.int (47 : Int32)), .val (.int (0 : Int32)), .val (.int (4 : Int32)), .val (.int (3 : Int32))] [(.int (3 : Int32))])) (fun t k => ?_) ?_
          · show Steps p.tables e below (T7.setTop (mkF m 16 #[.val (.ref tb), .val (.int (47 : Int32)), .val (.int (0 : Int32)), .val (.int (4 : Int32)), .val (.int (3 : Int32))] [(.int (47 : Int32)), (.int (own_w u3))])) _
            refine XS.icmpNo X7.here hx rfl (hb hby d31_16) rfl (teq hc16_8).2 ?_
            refine XS.iload X7.here hx rfl (hb hby d31_19) rfl ?_
            exact k
          obtain ⟨fs, hr, hrun, hended, hW, hsame⟩ := X7.leave (v := some (.int (3 : Int32))) (fun h => by rw [Bd.returns] at h; cases h)
          refine own_done (retOut X7 hx Bd.returns rfl (Or.inl ⟨rfl, Or.inl rfl, _, rfl⟩) (hb hby d31_21) hr) hrun hended ⟨_, _, rfl, ?_, ⟨_, rfl⟩, hW, hsame.mono (by decide) (by decide)⟩
          show Q_rm19 Z ([u0, u1, u2, u3] : List UInt16) h0 n0 (some (.int (3 : Int32))) T7.heap _
          rw [e7]
          exact ⟨_, ⟨rfl, rfl, rfl⟩, ⟨fun q => absurd q (by decide), fun q => (q ⟨u3, by simp, hc16_8⟩).elim⟩⟩
        · refine own_go (B := T7.setTop (mkF m 29 #[.val (.ref tb), .val (.int (47 : Int32)), .val (.int (0 : Int32)), .val (.int (4 : Int32)), .val (.int (4 : Int32))] [(.int (-1 : Int32))])) (fun t k => ?_) ?_
          · show Steps p.tables e below (T7.setTop (mkF m 16 #[.val (.ref tb), .val (.int (47 : Int32)), .val (.int (0 : Int32)), .val (.int (4 : Int32)), .val (.int (3 : Int32))] [(.int (47 : Int32)), (.int (own_w u3))])) _
            refine XS.icmpYes X7.here hx rfl (pc0 := 16) (pc' := 22) rfl (hb hby d31_16) rfl (feq hc16_8).2 (by decide) (by decide) ?_
            refine XS.iinc X7.here hx rfl (hb hby d31_22) rfl (l' := #[.val (.ref tb), .val (.int (47 : Int32)), .val (.int (0 : Int32)), .val (.int (4 : Int32)), .val (.int (4 : Int32))]) rfl ?_
            refine XS.goto X7.here hx rfl (pc0 := 25) (pc' := 3) rfl (hb hby d31_25) (by decide) (by decide) ?_
            refine XS.iload X7.here hx rfl (hb hby d31_3) rfl ?_
            refine XS.iloadN X7.here hx rfl (hb hby d31_5) rfl ?_
            show Steps p.tables e below (T7.setTop (mkF m 6 #[.val (.ref tb), .val (.int (47 : Int32)), .val (.int (0 : Int32)), .val (.int (4 : Int32)), .val (.int (4 : Int32))] [(.int (4 : Int32)), (.int (4 : Int32))])) _
            refine XS.icmpYes X7.here hx rfl (pc0 := 6) (pc' := 28) rfl (hb hby d31_6) rfl (flt (by decide : ¬ ((4 : Int32) < (4 : Int32)))).2.1 (by decide) (by decide) ?_
            refine XS.iconst X7.here hx rfl (hb hby d31_28) ?_
            exact k
          obtain ⟨fs, hr, hrun, hended, hW, hsame⟩ := X7.leave (v := some (.int (-1 : Int32))) (fun h => by rw [Bd.returns] at h; cases h)
          refine own_done (retOut X7 hx Bd.returns rfl (Or.inl ⟨rfl, Or.inl rfl, _, rfl⟩) (hb hby d31_29) hr) hrun hended ⟨_, _, rfl, ?_, ⟨_, rfl⟩, hW, hsame.mono (by decide) (by decide)⟩
          show Q_rm19 Z ([u0, u1, u2, u3] : List UInt16) h0 n0 (some (.int (-1 : Int32))) T7.heap _
          rw [e7]
          exact ⟨_, ⟨rfl, rfl, rfl⟩, ⟨fun _ => own_not (own_allc hc16_2 (own_allc hc16_4 (own_allc hc16_6 (own_allc hc16_8 own_alln)))), fun _ => by decide⟩⟩
set_option maxRecDepth 65536 in
set_option maxHeartbeats 40000000 in
theorem rm31 (l : Launch) (Z : State) (a0 : Array Value) (hw : ∀ d ∈ tables_1, d.before a0 Z = true) (ws : List Jvm.Cond) (tb : Addr) (kb : ClassId) (cs : List UInt16) (nn : Int32) (h0 : Heap) (n0 : Nat) (Z0 : n0 ≤ h0.size) (V_tb : Arv Z h0 tb kb .byte (nn <<< ((1 : Int32) &&& 31)) (own_wide cs) (.int (0 : Int32))) (hL : own_L cs nn) (hSt : own_S Z) (O : Old Z n0 h0) :
    MetFree l (⟨"java/lang/StringUTF16", "indexOfCharUnsafe", "([BIII)I"⟩ : MethodName) (head1 (Jvm.Cond.code (⟨"java/lang/StringUTF16", "indexOfCharUnsafe", "([BIII)I"⟩ : MethodName) jdk_52_method_48_code 5 (some .int) :: ws) ({ frames := 1, cells := 0, slots := 0, locals := 13 } : Room)) (fun a U => a = #[(.ref tb), (.int (47 : Int32)), (.int (0 : Int32)), (.int nn)] ∧ Z.Warmed39 U.vm ∧ U.heap = h0) (fun _ _ _ _ _ => True) (fun _ U o U' => ∃ v L, o = .returned v ∧ Q_rm19 Z cs h0 n0 v U'.heap L ∧ FrameEnd U o U' L ({ frames := 1, cells := 0, slots := 0, locals := 13 } : Room).cells ({ frames := 1, cells := 0, slots := 0, locals := 13 } : Room).slots) := by
  rcases hL with ⟨u0, rfl, rfl⟩ | ⟨u0, u1, rfl, rfl⟩ | ⟨u0, u1, u2, rfl, rfl⟩ | ⟨u0, u1, u2, u3, rfl, rfl⟩
  · exact rm31_1 l Z a0 hw ws tb kb u0 h0 n0 Z0 V_tb hSt O
  · exact rm31_2 l Z a0 hw ws tb kb u0 u1 h0 n0 Z0 V_tb hSt O
  · exact rm31_3 l Z a0 hw ws tb kb u0 u1 u2 h0 n0 Z0 V_tb hSt O
  · exact rm31_4 l Z a0 hw ws tb kb u0 u1 u2 u3 h0 n0 Z0 V_tb hSt O
theorem d26_0 : decode jdk_52_method_47_code 0 = .ok (.iload_n 2, 1) := by decide +kernel
theorem d26_1 : decode jdk_52_method_47_code 1 = .ok (.iload_n 3, 1) := by decide +kernel
theorem d26_2 : decode jdk_52_method_47_code 2 = .ok (.aload_n 0, 1) := by decide +kernel
theorem d26_3 : decode jdk_52_method_47_code 3 = .ok (.invokestatic 96, 3) := by decide +kernel
theorem d26_6 : decode jdk_52_method_47_code 6 = .ok (.aload_n 0, 1) := by decide +kernel
theorem d26_7 : decode jdk_52_method_47_code 7 = .ok (.iload_n 1, 1) := by decide +kernel
theorem d26_8 : decode jdk_52_method_47_code 8 = .ok (.iload_n 2, 1) := by decide +kernel
theorem d26_9 : decode jdk_52_method_47_code 9 = .ok (.iload_n 3, 1) := by decide +kernel
theorem d26_10 : decode jdk_52_method_47_code 10 = .ok (.invokestatic 244, 3) := by decide +kernel
theorem d26_13 : decode jdk_52_method_47_code 13 = .ok (.ireturn, 1) := by decide +kernel
theorem ef_rm26 (m : MethodId) (x0 : Addr) (x1 : Int32) (x2 : Int32) (x3 : Int32) : entryFrame m #[(.ref x0), (.int x1), (.int x2), (.int x3)] 4 = mkF m 0 #[.val (.ref x0), .val (.int x1), .val (.int x2), .val (.int x3)] [] := by first | (simp [entryFrame, mkF, argsToLocals, Value.category, maxLocals]; done) | rfl
set_option maxRecDepth 65536 in
set_option maxHeartbeats 40000000 in
theorem rm26 (l : Launch) (Z : State) (a0 : Array Value) (hw : ∀ d ∈ tables_1, d.before a0 Z = true) (ws : List Jvm.Cond) (tb : Addr) (kb : ClassId) (cs : List UInt16) (nn : Int32) (h0 : Heap) (n0 : Nat) (Z0 : n0 ≤ h0.size) (V_tb : Arv Z h0 tb kb .byte (nn <<< ((1 : Int32) &&& 31)) (own_wide cs) (.int (0 : Int32))) (hL : own_L cs nn) (hSt : own_S Z) (O : Old Z n0 h0) :
    MetFree l (⟨"java/lang/StringUTF16", "indexOfChar", "([BIII)I"⟩ : MethodName) (head1 (Jvm.Cond.code (⟨"java/lang/StringUTF16", "indexOfChar", "([BIII)I"⟩ : MethodName) jdk_52_method_47_code 4 (some .int) :: ws) ({ frames := 3, cells := 0, slots := 0, locals := 43 } : Room)) (fun a U => a = #[(.ref tb), (.int (47 : Int32)), (.int (0 : Int32)), (.int nn)] ∧ Z.Warmed39 U.vm ∧ U.heap = h0) (fun _ _ _ _ _ => True) (fun _ U o U' => ∃ v L, o = .returned v ∧ Q_rm19 Z cs h0 n0 v U'.heap L ∧ FrameEnd U o U' L ({ frames := 3, cells := 0, slots := 0, locals := 43 } : Room).cells ({ frames := 3, cells := 0, slots := 0, locals := 43 } : Room).slots) := by
  refine MetFree.of_bodySF (plainFor_of_name pn_26) hisR ?_
  intro p e s m args below meth c s₁ Bd hml0 hP hK
  obtain ⟨rfl, hZ, hh⟩ := hP
  have hx := Bd.exec
  have hby := Bd.bytes
  have hml : c.maxLocals = 4 := hml0
  have hown : s.vm.findClass "java/lang/StringUTF16" = some m.cls := findClass_of_methodNamed Bd.named
  have hnm := (name_of_methodNamed Bd.named Bd.method).1
  have X0 : Stand p l e ({ frames := 3, cells := 0, slots := 0, locals := 43 } : Room) s m #[(.ref tb), (.int (47 : Int32)), (.int (0 : Int32)), (.int nn)] below meth c s₁ [] 0 0 := Stand.of_body Bd
  have e0 : s₁.heap = h0 := by rw [← hh, Bd.state]; rfl
  have N0 := Fr.nil n0
  have K : Keep h0 h0 [] := Keep.refl h0 []
  obtain ⟨G1, G3, O2, P5, O4, rG3, SA, SB, SC⟩ := id hSt
  show own_Gd p.tables e below (own_P (Q_rm19 Z cs h0 n0) s ({ frames := 3, cells := 0, slots := 0, locals := 43 } : Room).cells ({ frames := 3, cells := 0, slots := 0, locals := 43 } : Room).slots) _
  refine own_go (B := s₁.setTop (mkF m 0 #[.val (.ref tb), .val (.int (47 : Int32)), .val (.int (0 : Int32)), .val (.int nn)] [])) (fun t k => castTop (ef_rm26 m tb (47 : Int32) (0 : Int32) nn) k) ?_
  refine own_go (B := s₁.setTop (mkF m 3 #[.val (.ref tb), .val (.int (47 : Int32)), .val (.int (0 : Int32)), .val (.int nn)] [(.ref tb), (.int nn), (.int (0 : Int32))])) (fun t k => ?_) ?_
  · show Steps p.tables e below (s₁.setTop (mkF m 0 #[.val (.ref tb), .val (.int (47 : Int32)), .val (.int (0 : Int32)), .val (.int nn)] [])) _
    refine XS.iloadN X0.here hx rfl (hb hby d26_0) rfl ?_
    refine XS.iloadN X0.here hx rfl (hb hby d26_1) rfl ?_
    refine XS.aloadN X0.here hx rfl (hb hby d26_2) rfl rfl ?_
    exact k
  obtain ⟨_, _, ⟨T1, L1, k1, n1⟩, -, X1, ⟨Lc1, hQ1, l1, y1, z1⟩, st1⟩ := Jvm.LawKit.callS X0 hx (y := (⟨"java/lang/StringUTF16", "checkBoundsBeginEnd", "(II[B)V"⟩ : MethodName)) hown (mvT hZ (hw _ (List.mem_of_getElem? (i := 119) rfl))) (mvT hZ (hw _ (List.mem_of_getElem? (i := 120) rfl))) (mvT hZ (hw _ (List.mem_of_getElem? (i := 80) rfl))) (mvT hZ (hw _ (List.mem_of_getElem? (i := 121) rfl))) (by decide) (backOf (W := 0) (rm27 l Z a0 hw [] nn tb kb (nn <<< ((1 : Int32) &&& 31)) (own_wide cs) h0 n0 Z0 V_tb (own_Lnn hL) (own_Lle hL) hSt O) hZ (hw _ (List.mem_of_getElem? (i := 121) rfl)) (hw _ (List.mem_of_getElem? (i := 80) rfl)) (by decide) (by decide)) (g := (mkF m 3 #[.val (.ref tb), .val (.int (47 : Int32)), .val (.int (0 : Int32)), .val (.int nn)] [(.ref tb), (.int nn), (.int (0 : Int32))])) rfl (by rw [hml]; rfl) (argsL := [(.int (0 : Int32)), (.int nn), (.ref tb)]) (rest := []) (lenOf pd_15 rfl) rfl (by show 2 * 0 + _ ≤ _; exact Nat.le_of_eq rfl) (hb hby d26_3) (fun _ _ => ⟨rfl, e0, Nat.le_of_ble_eq_true rfl, Nat.le_of_ble_eq_true rfl⟩)
  dsimp only [Pt.U, Pt.locs, Pt.cells, Pt.slots] at X1 l1 y1 z1 st1 hQ1
  subst l1 y1 z1
  obtain ⟨h1, e1⟩ : ∃ z, T1.heap = z := ⟨_, rfl⟩
  rw [e1] at hQ1
  obtain ⟨rfl, hL1, eq1⟩ := hQ1
  subst hL1
  have N1 := Fr.app N0 (Fr.nil n0)
  rw [eq1] at e1
  refine own_go (B := T1.setTop (mkF m 6 #[.val (.ref tb), .val (.int (47 : Int32)), .val (.int (0 : Int32)), .val (.int nn)] [])) st1 ?_
  refine own_go (B := T1.setTop (mkF m 10 #[.val (.ref tb), .val (.int (47 : Int32)), .val (.int (0 : Int32)), .val (.int nn)] [(.int nn), (.int (0 : Int32)), (.int (47 : Int32)), (.ref tb)])) (fun t k => ?_) ?_
  · show Steps p.tables e below (T1.setTop (mkF m 6 #[.val (.ref tb), .val (.int (47 : Int32)), .val (.int (0 : Int32)), .val (.int nn)] [])) _
    refine XS.aloadN X1.here hx rfl (hb hby d26_6) rfl rfl ?_
    refine XS.iloadN X1.here hx rfl (hb hby d26_7) rfl ?_
    refine XS.iloadN X1.here hx rfl (hb hby d26_8) rfl ?_
    refine XS.iloadN X1.here hx rfl (hb hby d26_9) rfl ?_
    exact k
  obtain ⟨_, _, ⟨T2, L2, k2, n2⟩, -, X2, ⟨Lc2, hQ2, l2, y2, z2⟩, st2⟩ := Jvm.LawKit.callS X1 hx (y := (⟨"java/lang/StringUTF16", "indexOfCharUnsafe", "([BIII)I"⟩ : MethodName)) hown (mvT hZ (hw _ (List.mem_of_getElem? (i := 133) rfl))) (mvT hZ (hw _ (List.mem_of_getElem? (i := 134) rfl))) (mvT hZ (hw _ (List.mem_of_getElem? (i := 80) rfl))) (mvT hZ (hw _ (List.mem_of_getElem? (i := 135) rfl))) (by decide) (backOf (W := 0) (rm31 l Z a0 hw [] tb kb cs nn h0 n0 Z0 V_tb hL hSt O) hZ (hw _ (List.mem_of_getElem? (i := 135) rfl)) (hw _ (List.mem_of_getElem? (i := 80) rfl)) (by decide) (by decide)) (g := (mkF m 10 #[.val (.ref tb), .val (.int (47 : Int32)), .val (.int (0 : Int32)), .val (.int nn)] [(.int nn), (.int (0 : Int32)), (.int (47 : Int32)), (.ref tb)])) rfl (by rw [hml]; rfl) (argsL := [(.ref tb), (.int (47 : Int32)), (.int (0 : Int32)), (.int nn)]) (rest := []) (lenOf pd_14 rfl) rfl (by show 2 * 0 + _ ≤ _; exact Nat.le_of_eq rfl) (hb hby d26_10) (fun _ _ => ⟨rfl, e1, Nat.le_of_ble_eq_true rfl, Nat.le_of_ble_eq_true rfl⟩)
  dsimp only [Pt.U, Pt.locs, Pt.cells, Pt.slots] at X2 l2 y2 z2 st2 hQ2
  subst l2 y2 z2
  obtain ⟨h2, e2⟩ : ∃ z, T2.heap = z := ⟨_, rfl⟩
  rw [e2] at hQ2
  obtain ⟨r2, ⟨rfl, hL2, eq2⟩, hp2⟩ := hQ2
  subst hL2
  have N2 := Fr.app N1 (Fr.nil n0)
  rw [eq2] at e2
  refine own_go (B := T2.setTop (mkF m 13 #[.val (.ref tb), .val (.int (47 : Int32)), .val (.int (0 : Int32)), .val (.int nn)] [(.int r2)])) st2 ?_
  obtain ⟨fs, hr, hrun, hended, hW, hsame⟩ := X2.leave (v := some (.int r2)) (fun h => by rw [Bd.returns] at h; cases h)
  refine own_done (retOut X2 hx Bd.returns rfl (Or.inl ⟨rfl, Or.inl rfl, _, rfl⟩) (hb hby d26_13) hr) hrun hended ⟨_, _, rfl, ?_, ⟨_, rfl⟩, hW, hsame.mono (by decide) (by decide)⟩
  show Q_rm19 Z cs h0 n0 (some (.int r2)) T2.heap _
  rw [e2]
  exact ⟨_, ⟨rfl, rfl, rfl⟩, hp2⟩
theorem d25_0 : decode jdk_52_method_40_code 0 = .ok (.iload_n 2, 1) := by decide +kernel
theorem d25_1 : decode jdk_52_method_40_code 1 = .ok (.iconst 0, 1) := by decide +kernel
theorem d25_2 : decode jdk_52_method_40_code 2 = .ok (.invokestatic 224, 3) := by decide +kernel
theorem d25_5 : decode jdk_52_method_40_code 5 = .ok (.istore_n 2, 1) := by decide +kernel
theorem d25_6 : decode jdk_52_method_40_code 6 = .ok (.iload_n 3, 1) := by decide +kernel
theorem d25_7 : decode jdk_52_method_40_code 7 = .ok (.aload_n 0, 1) := by decide +kernel
theorem d25_8 : decode jdk_52_method_40_code 8 = .ok (.arraylength, 1) := by decide +kernel
theorem d25_9 : decode jdk_52_method_40_code 9 = .ok (.iconst 1, 1) := by decide +kernel
theorem d25_10 : decode jdk_52_method_40_code 10 = .ok (.ishr, 1) := by decide +kernel
theorem d25_11 : decode jdk_52_method_40_code 11 = .ok (.invokestatic 183, 3) := by decide +kernel
theorem d25_14 : decode jdk_52_method_40_code 14 = .ok (.istore_n 3, 1) := by decide +kernel
theorem d25_15 : decode jdk_52_method_40_code 15 = .ok (.iload_n 2, 1) := by decide +kernel
theorem d25_16 : decode jdk_52_method_40_code 16 = .ok (.iload_n 3, 1) := by decide +kernel
theorem d25_17 : decode jdk_52_method_40_code 17 = .ok (.if_icmp .lt 5, 3) := by decide +kernel
theorem d25_20 : decode jdk_52_method_40_code 20 = .ok (.iconst (-1), 1) := by decide +kernel
theorem d25_21 : decode jdk_52_method_40_code 21 = .ok (.ireturn, 1) := by decide +kernel
theorem d25_22 : decode jdk_52_method_40_code 22 = .ok (.iload_n 1, 1) := by decide +kernel
theorem d25_23 : decode jdk_52_method_40_code 23 = .ok (.ldc 227, 2) := by decide +kernel
theorem d25_25 : decode jdk_52_method_40_code 25 = .ok (.if_icmp .ge 11, 3) := by decide +kernel
theorem d25_28 : decode jdk_52_method_40_code 28 = .ok (.aload_n 0, 1) := by decide +kernel
theorem d25_29 : decode jdk_52_method_40_code 29 = .ok (.iload_n 1, 1) := by decide +kernel
theorem d25_30 : decode jdk_52_method_40_code 30 = .ok (.iload_n 2, 1) := by decide +kernel
theorem d25_31 : decode jdk_52_method_40_code 31 = .ok (.iload_n 3, 1) := by decide +kernel
theorem d25_32 : decode jdk_52_method_40_code 32 = .ok (.invokestatic 228, 3) := by decide +kernel
theorem d25_35 : decode jdk_52_method_40_code 35 = .ok (.ireturn, 1) := by decide +kernel
theorem d25_36 : decode jdk_52_method_40_code 36 = .ok (.aload_n 0, 1) := by decide +kernel
theorem d25_37 : decode jdk_52_method_40_code 37 = .ok (.iload_n 1, 1) := by decide +kernel
theorem d25_38 : decode jdk_52_method_40_code 38 = .ok (.iload_n 2, 1) := by decide +kernel
theorem d25_39 : decode jdk_52_method_40_code 39 = .ok (.iload_n 3, 1) := by decide +kernel
theorem d25_40 : decode jdk_52_method_40_code 40 = .ok (.invokestatic 232, 3) := by decide +kernel
theorem d25_43 : decode jdk_52_method_40_code 43 = .ok (.ireturn, 1) := by decide +kernel
theorem ef_rm25 (m : MethodId) (x0 : Addr) (x1 : Int32) (x2 : Int32) (x3 : Int32) : entryFrame m #[(.ref x0), (.int x1), (.int x2), (.int x3)] 4 = mkF m 0 #[.val (.ref x0), .val (.int x1), .val (.int x2), .val (.int x3)] [] := by first | (simp [entryFrame, mkF, argsToLocals, Value.category, maxLocals]; done) | rfl
set_option maxRecDepth 65536 in
set_option maxHeartbeats 40000000 in
theorem rm25 (l : Launch) (Z : State) (a0 : Array Value) (hw : ∀ d ∈ tables_1, d.before a0 Z = true) (ws : List Jvm.Cond) (tb : Addr) (kb : ClassId) (cs : List UInt16) (nn : Int32) (h0 : Heap) (n0 : Nat) (Z0 : n0 ≤ h0.size) (V_tb : Arv Z h0 tb kb .byte (nn <<< ((1 : Int32) &&& 31)) (own_wide cs) (.int (0 : Int32))) (hL : own_L cs nn) (hSt : own_S Z) (O : Old Z n0 h0) :
    MetFree l (⟨"java/lang/StringUTF16", "indexOf", "([BIII)I"⟩ : MethodName) (head1 (Jvm.Cond.code (⟨"java/lang/StringUTF16", "indexOf", "([BIII)I"⟩ : MethodName) jdk_52_method_40_code 4 (some .int) :: ws) ({ frames := 4, cells := 0, slots := 0, locals := 58 } : Room)) (fun a U => a = #[(.ref tb), (.int (47 : Int32)), (.int (0 : Int32)), (.int nn)] ∧ Z.Warmed39 U.vm ∧ U.heap = h0) (fun _ _ _ _ _ => True) (fun _ U o U' => ∃ v L, o = .returned v ∧ Q_rm19 Z cs h0 n0 v U'.heap L ∧ FrameEnd U o U' L ({ frames := 4, cells := 0, slots := 0, locals := 58 } : Room).cells ({ frames := 4, cells := 0, slots := 0, locals := 58 } : Room).slots) := by
  refine MetFree.of_bodySF (plainFor_of_name pn_25) hisR ?_
  intro p e s m args below meth c s₁ Bd hml0 hP hK
  obtain ⟨rfl, hZ, hh⟩ := hP
  have hx := Bd.exec
  have hby := Bd.bytes
  have hml : c.maxLocals = 4 := hml0
  have hown : s.vm.findClass "java/lang/StringUTF16" = some m.cls := findClass_of_methodNamed Bd.named
  have hnm := (name_of_methodNamed Bd.named Bd.method).1
  have X0 : Stand p l e ({ frames := 4, cells := 0, slots := 0, locals := 58 } : Room) s m #[(.ref tb), (.int (47 : Int32)), (.int (0 : Int32)), (.int nn)] below meth c s₁ [] 0 0 := Stand.of_body Bd
  have e0 : s₁.heap = h0 := by rw [← hh, Bd.state]; rfl
  have N0 := Fr.nil n0
  have K : Keep h0 h0 [] := Keep.refl h0 []
  obtain ⟨G1, G3, O2, P5, O4, rG3, SA, SB, SC⟩ := id hSt
  show own_Gd p.tables e below (own_P (Q_rm19 Z cs h0 n0) s ({ frames := 4, cells := 0, slots := 0, locals := 58 } : Room).cells ({ frames := 4, cells := 0, slots := 0, locals := 58 } : Room).slots) _
  refine own_go (B := s₁.setTop (mkF m 0 #[.val (.ref tb), .val (.int (47 : Int32)), .val (.int (0 : Int32)), .val (.int nn)] [])) (fun t k => castTop (ef_rm25 m tb (47 : Int32) (0 : Int32) nn) k) ?_
  refine own_go (B := s₁.setTop (mkF m 2 #[.val (.ref tb), .val (.int (47 : Int32)), .val (.int (0 : Int32)), .val (.int nn)] [(.int (0 : Int32)), (.int (0 : Int32))])) (fun t k => ?_) ?_
  · show Steps p.tables e below (s₁.setTop (mkF m 0 #[.val (.ref tb), .val (.int (47 : Int32)), .val (.int (0 : Int32)), .val (.int nn)] [])) _
    refine XS.iloadN X0.here hx rfl (hb hby d25_0) rfl ?_
    refine XS.iconst X0.here hx rfl (hb hby d25_1) ?_
    exact k
  obtain ⟨_, _, ⟨T1, L1, k1, n1⟩, -, X1, ⟨Lc1, hQ1, l1, y1, z1⟩, st1⟩ := Jvm.LawKit.callS X0 hx (y := (⟨"java/lang/Math", "max", "(II)I"⟩ : MethodName)) hown (mvT hZ (hw _ (List.mem_of_getElem? (i := 113) rfl))) (mvT hZ (hw _ (List.mem_of_getElem? (i := 72) rfl))) (mvT hZ (hw _ (List.mem_of_getElem? (i := 73) rfl))) (mvT hZ (hw _ (List.mem_of_getElem? (i := 74) rfl))) (by decide) (backOf (W := 0) (rm14 l Z a0 hw []  h0 n0 Z0 ) hZ (hw _ (List.mem_of_getElem? (i := 74) rfl)) (hw _ (List.mem_of_getElem? (i := 73) rfl)) (by decide) (by decide)) (g := (mkF m 2 #[.val (.ref tb), .val (.int (47 : Int32)), .val (.int (0 : Int32)), .val (.int nn)] [(.int (0 : Int32)), (.int (0 : Int32))])) rfl (by rw [hml]; rfl) (argsL := [(.int (0 : Int32)), (.int (0 : Int32))]) (rest := []) (lenOf pd_13 rfl) rfl (by show 2 * 0 + _ ≤ _; exact Nat.le_of_eq rfl) (hb hby d25_2) (fun _ _ => ⟨rfl, e0, Nat.le_of_ble_eq_true rfl, Nat.le_of_ble_eq_true rfl⟩)
  dsimp only [Pt.U, Pt.locs, Pt.cells, Pt.slots] at X1 l1 y1 z1 st1 hQ1
  subst l1 y1 z1
  obtain ⟨h1, e1⟩ : ∃ z, T1.heap = z := ⟨_, rfl⟩
  rw [e1] at hQ1
  obtain ⟨rfl, hL1, eq1⟩ := hQ1
  subst hL1
  have N1 := Fr.app N0 (Fr.nil n0)
  rw [eq1] at e1
  refine own_go (B := T1.setTop (mkF m 5 #[.val (.ref tb), .val (.int (47 : Int32)), .val (.int (0 : Int32)), .val (.int nn)] [(.int (0 : Int32))])) st1 ?_
  refine own_go (B := T1.setTop (mkF m 8 #[.val (.ref tb), .val (.int (47 : Int32)), .val (.int (0 : Int32)), .val (.int nn)] [(.ref tb), (.int nn)])) (fun t k => ?_) ?_
  · show Steps p.tables e below (T1.setTop (mkF m 5 #[.val (.ref tb), .val (.int (47 : Int32)), .val (.int (0 : Int32)), .val (.int nn)] [(.int (0 : Int32))])) _
    refine XS.istoreN X1.here hx rfl (hb hby d25_5) rfl (l' := #[.val (.ref tb), .val (.int (47 : Int32)), .val (.int (0 : Int32)), .val (.int nn)]) rfl ?_
    refine XS.iloadN X1.here hx rfl (hb hby d25_6) rfl ?_
    refine XS.aloadN X1.here hx rfl (hb hby d25_7) rfl rfl ?_
    exact k
  obtain ⟨cl2, Ar2, qa2, Sa2, Na2, Ha2, Ga2⟩ := id V_tb
  refine own_go (B := T1.setTop (mkF m 11 #[.val (.ref tb), .val (.int (47 : Int32)), .val (.int (0 : Int32)), .val (.int nn)] [(.int ((nn <<< ((1 : Int32) &&& 31)) >>> ((1 : Int32) &&& 31))), (.int nn)])) (fun t k => ?_) ?_
  · show Steps p.tables e below (T1.setTop (mkF m 8 #[.val (.ref tb), .val (.int (47 : Int32)), .val (.int (0 : Int32)), .val (.int nn)] [(.ref tb), (.int nn)])) _
    refine X1.arraylength hx (by rw [e1]; exact Ar2.1) (State.isArrayOf_alike hZ.alike Ar2.2.1) (g := (mkF m 8 #[.val (.ref tb), .val (.int (47 : Int32)), .val (.int (0 : Int32)), .val (.int nn)] [(.ref tb), (.int nn)])) rfl rfl (hb hby d25_8) _ ?_
    rw [len_of Sa2 Na2]
    refine XS.iconst X1.here hx rfl (hb hby d25_9) ?_
    refine XS.ishr X1.here hx rfl (hb hby d25_10) rfl ?_
    exact k
  obtain ⟨_, _, ⟨T3, L3, k3, n3⟩, -, X3, ⟨Lc3, hQ3, l3, y3, z3⟩, st3⟩ := Jvm.LawKit.callS X1 hx (y := (⟨"java/lang/Math", "min", "(II)I"⟩ : MethodName)) hown (mvT hZ (hw _ (List.mem_of_getElem? (i := 114) rfl))) (mvT hZ (hw _ (List.mem_of_getElem? (i := 76) rfl))) (mvT hZ (hw _ (List.mem_of_getElem? (i := 73) rfl))) (mvT hZ (hw _ (List.mem_of_getElem? (i := 77) rfl))) (by decide) (backOf (W := 0) (rm15 l Z a0 hw [] nn ((nn <<< ((1 : Int32) &&& 31)) >>> ((1 : Int32) &&& 31)) h0 n0 Z0 (own_Lle hL)) hZ (hw _ (List.mem_of_getElem? (i := 77) rfl)) (hw _ (List.mem_of_getElem? (i := 73) rfl)) (by decide) (by decide)) (g := (mkF m 11 #[.val (.ref tb), .val (.int (47 : Int32)), .val (.int (0 : Int32)), .val (.int nn)] [(.int ((nn <<< ((1 : Int32) &&& 31)) >>> ((1 : Int32) &&& 31))), (.int nn)])) rfl (by rw [hml]; rfl) (argsL := [(.int nn), (.int ((nn <<< ((1 : Int32) &&& 31)) >>> ((1 : Int32) &&& 31)))]) (rest := []) (lenOf pd_13 rfl) rfl (by show 2 * 0 + _ ≤ _; exact Nat.le_of_eq rfl) (hb hby d25_11) (fun _ _ => ⟨rfl, e1, Nat.le_of_ble_eq_true rfl, Nat.le_of_ble_eq_true rfl⟩)
  dsimp only [Pt.U, Pt.locs, Pt.cells, Pt.slots] at X3 l3 y3 z3 st3 hQ3
  subst l3 y3 z3
  obtain ⟨h3, e3⟩ : ∃ z, T3.heap = z := ⟨_, rfl⟩
  rw [e3] at hQ3
  obtain ⟨rfl, hL3, eq3⟩ := hQ3
  subst hL3
  have N3 := Fr.app N1 (Fr.nil n0)
  rw [eq3] at e3
  refine own_go (B := T3.setTop (mkF m 14 #[.val (.ref tb), .val (.int (47 : Int32)), .val (.int (0 : Int32)), .val (.int nn)] [(.int nn)])) st3 ?_
  refine own_go (B := T3.setTop (mkF m 32 #[.val (.ref tb), .val (.int (47 : Int32)), .val (.int (0 : Int32)), .val (.int nn)] [(.int nn), (.int (0 : Int32)), (.int (47 : Int32)), (.ref tb)])) (fun t k => ?_) ?_
  · show Steps p.tables e below (T3.setTop (mkF m 14 #[.val (.ref tb), .val (.int (47 : Int32)), .val (.int (0 : Int32)), .val (.int nn)] [(.int nn)])) _
    refine XS.istoreN X3.here hx rfl (hb hby d25_14) rfl (l' := #[.val (.ref tb), .val (.int (47 : Int32)), .val (.int (0 : Int32)), .val (.int nn)]) rfl ?_
    refine XS.iloadN X3.here hx rfl (hb hby d25_15) rfl ?_
    refine XS.iloadN X3.here hx rfl (hb hby d25_16) rfl ?_
    refine XS.icmpYes X3.here hx rfl (pc0 := 17) (pc' := 22) rfl (hb hby d25_17) rfl (tlt ((own_Lpos hL) : (0 : Int32) < nn)).1 (by decide) (by decide) ?_
    refine XS.iloadN X3.here hx rfl (hb hby d25_22) rfl ?_
    show Steps p.tables e below (T3.setTop (mkF m 23 #[.val (.ref tb), .val (.int (47 : Int32)), .val (.int (0 : Int32)), .val (.int nn)] [(.int (47 : Int32))])) _
    refine X3.ldcI hx hown (mvT hZ (hw _ (List.mem_of_getElem? (i := 115) rfl))) (g := (mkF m 23 #[.val (.ref tb), .val (.int (47 : Int32)), .val (.int (0 : Int32)), .val (.int nn)] [(.int (47 : Int32))])) rfl (hb hby d25_23) ?_
    refine XS.icmpNo X3.here hx rfl (hb hby d25_25) rfl (tlt (by decide : (47 : Int32) < (65536 : Int32))).2.1 ?_
    refine XS.aloadN X3.here hx rfl (hb hby d25_28) rfl rfl ?_
    refine XS.iloadN X3.here hx rfl (hb hby d25_29) rfl ?_
    refine XS.iloadN X3.here hx rfl (hb hby d25_30) rfl ?_
    show Steps p.tables e below (T3.setTop (mkF m 31 #[.val (.ref tb), .val (.int (47 : Int32)), .val (.int (0 : Int32)), .val (.int nn)] [(.int (0 : Int32)), (.int (47 : Int32)), (.ref tb)])) _
    refine XS.iloadN X3.here hx rfl (hb hby d25_31) rfl ?_
    exact k
  obtain ⟨_, _, ⟨T4, L4, k4, n4⟩, -, X4, ⟨Lc4, hQ4, l4, y4, z4⟩, st4⟩ := Jvm.LawKit.callS X3 hx (y := (⟨"java/lang/StringUTF16", "indexOfChar", "([BIII)I"⟩ : MethodName)) hown (mvT hZ (hw _ (List.mem_of_getElem? (i := 116) rfl))) (mvT hZ (hw _ (List.mem_of_getElem? (i := 117) rfl))) (mvT hZ (hw _ (List.mem_of_getElem? (i := 80) rfl))) (mvT hZ (hw _ (List.mem_of_getElem? (i := 118) rfl))) (by decide) (backOf (W := 0) (rm26 l Z a0 hw [] tb kb cs nn h0 n0 Z0 V_tb hL hSt O) hZ (hw _ (List.mem_of_getElem? (i := 118) rfl)) (hw _ (List.mem_of_getElem? (i := 80) rfl)) (by decide) (by decide)) (g := (mkF m 32 #[.val (.ref tb), .val (.int (47 : Int32)), .val (.int (0 : Int32)), .val (.int nn)] [(.int nn), (.int (0 : Int32)), (.int (47 : Int32)), (.ref tb)])) rfl (by rw [hml]; rfl) (argsL := [(.ref tb), (.int (47 : Int32)), (.int (0 : Int32)), (.int nn)]) (rest := []) (lenOf pd_14 rfl) rfl (by show 2 * 0 + _ ≤ _; exact Nat.le_of_eq rfl) (hb hby d25_32) (fun _ _ => ⟨rfl, e3, Nat.le_of_ble_eq_true rfl, Nat.le_of_ble_eq_true rfl⟩)
  dsimp only [Pt.U, Pt.locs, Pt.cells, Pt.slots] at X4 l4 y4 z4 st4 hQ4
  subst l4 y4 z4
  obtain ⟨h4, e4⟩ : ∃ z, T4.heap = z := ⟨_, rfl⟩
  rw [e4] at hQ4
  obtain ⟨r4, ⟨rfl, hL4, eq4⟩, hp4⟩ := hQ4
  subst hL4
  have N4 := Fr.app N3 (Fr.nil n0)
  rw [eq4] at e4
  refine own_go (B := T4.setTop (mkF m 35 #[.val (.ref tb), .val (.int (47 : Int32)), .val (.int (0 : Int32)), .val (.int nn)] [(.int r4)])) st4 ?_
  obtain ⟨fs, hr, hrun, hended, hW, hsame⟩ := X4.leave (v := some (.int r4)) (fun h => by rw [Bd.returns] at h; cases h)
  refine own_done (retOut X4 hx Bd.returns rfl (Or.inl ⟨rfl, Or.inl rfl, _, rfl⟩) (hb hby d25_35) hr) hrun hended ⟨_, _, rfl, ?_, ⟨_, rfl⟩, hW, hsame.mono (by decide) (by decide)⟩
  show Q_rm19 Z cs h0 n0 (some (.int r4)) T4.heap _
  rw [e4]
  exact ⟨_, ⟨rfl, rfl, rfl⟩, hp4⟩
theorem d8_0 : decode jdk_42_method_80_code 0 = .ok (.aload_n 0, 1) := by decide +kernel
theorem d8_1 : decode jdk_42_method_80_code 1 = .ok (.invokevirtual 492, 3) := by decide +kernel
theorem d8_4 : decode jdk_42_method_80_code 4 = .ok (.ifCond .eq 19, 3) := by decide +kernel
theorem d8_7 : decode jdk_42_method_80_code 7 = .ok (.aload_n 0, 1) := by decide +kernel
theorem d8_8 : decode jdk_42_method_80_code 8 = .ok (.getfield 9, 3) := by decide +kernel
theorem d8_11 : decode jdk_42_method_80_code 11 = .ok (.iload_n 1, 1) := by decide +kernel
theorem d8_12 : decode jdk_42_method_80_code 12 = .ok (.iload_n 2, 1) := by decide +kernel
theorem d8_13 : decode jdk_42_method_80_code 13 = .ok (.aload_n 0, 1) := by decide +kernel
theorem d8_14 : decode jdk_42_method_80_code 14 = .ok (.invokevirtual 505, 3) := by decide +kernel
theorem d8_17 : decode jdk_42_method_80_code 17 = .ok (.invokestatic 637, 3) := by decide +kernel
theorem d8_20 : decode jdk_42_method_80_code 20 = .ok (.goto 16, 3) := by decide +kernel
theorem d8_23 : decode jdk_42_method_80_code 23 = .ok (.aload_n 0, 1) := by decide +kernel
theorem d8_24 : decode jdk_42_method_80_code 24 = .ok (.getfield 9, 3) := by decide +kernel
theorem d8_27 : decode jdk_42_method_80_code 27 = .ok (.iload_n 1, 1) := by decide +kernel
theorem d8_28 : decode jdk_42_method_80_code 28 = .ok (.iload_n 2, 1) := by decide +kernel
theorem d8_29 : decode jdk_42_method_80_code 29 = .ok (.aload_n 0, 1) := by decide +kernel
theorem d8_30 : decode jdk_42_method_80_code 30 = .ok (.invokevirtual 505, 3) := by decide +kernel
theorem d8_33 : decode jdk_42_method_80_code 33 = .ok (.invokestatic 640, 3) := by decide +kernel
theorem d8_36 : decode jdk_42_method_80_code 36 = .ok (.ireturn, 1) := by decide +kernel
theorem ef_rm8_0 (m : MethodId) (x0 : Addr) (x1 : Int32) (x2 : Int32) : entryFrame m #[(.ref x0), (.int x1), (.int x2)] 3 = mkF m 0 #[.val (.ref x0), .val (.int x1), .val (.int x2)] [] := by first | (simp [entryFrame, mkF, argsToLocals, Value.category, maxLocals]; done) | rfl
set_option maxRecDepth 65536 in
set_option maxHeartbeats 40000000 in
theorem rm8_0 (l : Launch) (Z : State) (a0 : Array Value) (hw : ∀ d ∈ tables_1, d.before a0 Z = true) (ws : List Jvm.Cond) (a1 : Addr) (tb : Addr) (kb : ClassId) (cs : List UInt16) (nn : Int32) (h0 : Heap) (n0 : Nat) (Z0 : n0 ≤ h0.size) (E_a1 : Exa Z h0 a1 "java/lang/String") (F_value_a1 : Fld Z h0 a1 "java/lang/String" "value" "[B" (.ref tb)) (F_coder_a1 : Fld Z h0 a1 "java/lang/String" "coder" "B" (.int (0 : Int32))) (V_tb : Arv Z h0 tb kb .byte nn (own_lat cs) (.int (0 : Int32))) (hla : ∀ u ∈ cs, ¬ (255 : Int32) < own_w u) (hL : own_L' cs nn) (hSt : own_S Z) (O : Old Z n0 h0) :
    MetFree l (⟨"java/lang/String", "indexOf", "(II)I"⟩ : MethodName) (head1 (Jvm.Cond.code (⟨"java/lang/String", "indexOf", "(II)I"⟩ : MethodName) jdk_42_method_80_code 3 (some .int) :: ws) ({ frames := 5, cells := 0, slots := 0, locals := 73 } : Room)) (fun a U => a = #[(.ref a1), (.int (47 : Int32)), (.int (0 : Int32))] ∧ Z.Warmed39 U.vm ∧ U.heap = h0) (fun _ _ _ _ _ => True) (fun _ U o U' => ∃ v L, o = .returned v ∧ Q_rm19 Z cs h0 n0 v U'.heap L ∧ FrameEnd U o U' L ({ frames := 5, cells := 0, slots := 0, locals := 73 } : Room).cells ({ frames := 5, cells := 0, slots := 0, locals := 73 } : Room).slots) := by
  refine MetFree.of_bodySF (plainFor_of_name pn_8) hisR ?_
  intro p e s m args below meth c s₁ Bd hml0 hP hK
  obtain ⟨rfl, hZ, hh⟩ := hP
  have hx := Bd.exec
  have hby := Bd.bytes
  have hml : c.maxLocals = 3 := hml0
  have hown : s.vm.findClass "java/lang/String" = some m.cls := findClass_of_methodNamed Bd.named
  have hnm := (name_of_methodNamed Bd.named Bd.method).1
  have X0 : Stand p l e ({ frames := 5, cells := 0, slots := 0, locals := 73 } : Room) s m #[(.ref a1), (.int (47 : Int32)), (.int (0 : Int32))] below meth c s₁ [] 0 0 := Stand.of_body Bd
  have e0 : s₁.heap = h0 := by rw [← hh, Bd.state]; rfl
  have N0 := Fr.nil n0
  have K : Keep h0 h0 [] := Keep.refl h0 []
  obtain ⟨G1, G3, O2, P5, O4, rG3, SA, SB, SC⟩ := id hSt
  show own_Gd p.tables e below (own_P (Q_rm19 Z cs h0 n0) s ({ frames := 5, cells := 0, slots := 0, locals := 73 } : Room).cells ({ frames := 5, cells := 0, slots := 0, locals := 73 } : Room).slots) _
  refine own_go (B := s₁.setTop (mkF m 0 #[.val (.ref a1), .val (.int (47 : Int32)), .val (.int (0 : Int32))] [])) (fun t k => castTop (ef_rm8_0 m a1 (47 : Int32) (0 : Int32)) k) ?_
  refine own_go (B := s₁.setTop (mkF m 1 #[.val (.ref a1), .val (.int (47 : Int32)), .val (.int (0 : Int32))] [(.ref a1)])) (fun t k => ?_) ?_
  · show Steps p.tables e below (s₁.setTop (mkF m 0 #[.val (.ref a1), .val (.int (47 : Int32)), .val (.int (0 : Int32))] [])) _
    refine XS.aloadN X0.here hx rfl (hb hby d8_0) rfl rfl ?_
    exact k
  obtain ⟨cq1, kq1, q1a, q1b, q1c⟩ := isOf hZ e0 E_a1
  obtain ⟨_, _, ⟨T2, L2, k2, n2⟩, -, X2, ⟨Lc2, hQ2, l2, y2, z2⟩, st2⟩ := X0.virtualBack hx (y := (⟨"java/lang/String", "isLatin1", "()Z"⟩ : MethodName)) (z := (⟨"java/lang/String", "isLatin1", "()Z"⟩ : MethodName)) hown (mvT hZ (hw _ (List.mem_of_getElem? (i := 50) rfl))) (mvT hZ (hw _ (List.mem_of_getElem? (i := 51) rfl))) (notFace_of_selects (args := #[]) (mvT hZ (hw _ (List.mem_of_getElem? (i := 53) rfl)))) (mvT hZ (hw _ (List.mem_of_getElem? (i := 53) rfl))) (mvT hZ (hw _ (List.mem_of_getElem? (i := 52) rfl))) (by decide) (backOf (W := 0) (rm9_0 l Z a0 hw [] a1 h0 n0 Z0 F_coder_a1 hSt O) hZ (hw _ (List.mem_of_getElem? (i := 54) rfl)) (hw _ (List.mem_of_getElem? (i := 4) rfl)) (by decide) (by decide)) q1a q1c (g := (mkF m 1 #[.val (.ref a1), .val (.int (47 : Int32)), .val (.int (0 : Int32))] [(.ref a1)])) rfl (by rw [hml]; rfl) (Steps.refl _) (argsL := []) (rest := []) (lenOf pd_16 rfl) rfl (by show 2 * 0 + _ ≤ _; exact Nat.le_of_eq rfl) (hb hby d8_1) (fun _ _ => ⟨rfl, e0, Nat.le_of_ble_eq_true rfl, Nat.le_of_ble_eq_true rfl⟩)
  dsimp only [Pt.U, Pt.locs, Pt.cells, Pt.slots] at X2 l2 y2 z2 st2 hQ2
  subst l2 y2 z2
  obtain ⟨h2, e2⟩ : ∃ z, T2.heap = z := ⟨_, rfl⟩
  rw [e2] at hQ2
  obtain ⟨rfl, hL2, eq2⟩ := hQ2
  subst hL2
  have N2 := Fr.app N0 (Fr.nil n0)
  rw [eq2] at e2
  refine own_go (B := T2.setTop (mkF m 4 #[.val (.ref a1), .val (.int (47 : Int32)), .val (.int (0 : Int32))] [(.int (1 : Int32))])) (fun t k => st2.trans k) ?_
  refine own_go (B := T2.setTop (mkF m 8 #[.val (.ref a1), .val (.int (47 : Int32)), .val (.int (0 : Int32))] [(.ref a1)])) (fun t k => ?_) ?_
  · show Steps p.tables e below (T2.setTop (mkF m 4 #[.val (.ref a1), .val (.int (47 : Int32)), .val (.int (0 : Int32))] [(.int (1 : Int32))])) _
    refine XS.ifNo X2.here hx rfl (hb hby d8_4) rfl ((if0 _ _).trans (feq (by decide : ¬ ((1 : Int32) = (0 : Int32)))).1) ?_
    refine XS.aloadN X2.here hx rfl (hb hby d8_7) rfl rfl ?_
    exact k
  obtain ⟨T3, X3, e3, st3⟩ := getF X2 hx hZ hown (host := "") (Or.inl (hw _ (List.mem_of_getElem? (i := 21) rfl))) Via.refl e2 F_value_a1 (g := (mkF m 8 #[.val (.ref a1), .val (.int (47 : Int32)), .val (.int (0 : Int32))] [(.ref a1)])) rfl rfl (hb hby d8_8)
  refine own_go (B := T3.setTop (mkF m 11 #[.val (.ref a1), .val (.int (47 : Int32)), .val (.int (0 : Int32))] [(.ref tb)])) st3 ?_
  refine own_go (B := T3.setTop (mkF m 14 #[.val (.ref a1), .val (.int (47 : Int32)), .val (.int (0 : Int32))] [(.ref a1), (.int (0 : Int32)), (.int (47 : Int32)), (.ref tb)])) (fun t k => ?_) ?_
  · show Steps p.tables e below (T3.setTop (mkF m 11 #[.val (.ref a1), .val (.int (47 : Int32)), .val (.int (0 : Int32))] [(.ref tb)])) _
    refine XS.iloadN X3.here hx rfl (hb hby d8_11) rfl ?_
    refine XS.iloadN X3.here hx rfl (hb hby d8_12) rfl ?_
    refine XS.aloadN X3.here hx rfl (hb hby d8_13) rfl rfl ?_
    exact k
  obtain ⟨cq4, kq4, q4a, q4b, q4c⟩ := isOf hZ e3 E_a1
  obtain ⟨_, _, ⟨T5, L5, k5, n5⟩, -, X5, ⟨Lc5, hQ5, l5, y5, z5⟩, st5⟩ := X3.virtualBack hx (y := (⟨"java/lang/String", "length", "()I"⟩ : MethodName)) (z := (⟨"java/lang/String", "length", "()I"⟩ : MethodName)) hown (mvT hZ (hw _ (List.mem_of_getElem? (i := 55) rfl))) (mvT hZ (hw _ (List.mem_of_getElem? (i := 56) rfl))) (notFace_of_selects (args := #[]) (mvT hZ (hw _ (List.mem_of_getElem? (i := 58) rfl)))) (mvT hZ (hw _ (List.mem_of_getElem? (i := 58) rfl))) (mvT hZ (hw _ (List.mem_of_getElem? (i := 57) rfl))) (by decide) (backOf (W := 3) (rm10 l Z a0 hw [] a1 tb kb nn (own_lat cs) (0 : Int32) nn h0 n0 Z0 E_a1 F_value_a1 F_coder_a1 V_tb (by decide) (own_L's hL) hSt O) hZ (hw _ (List.mem_of_getElem? (i := 59) rfl)) (hw _ (List.mem_of_getElem? (i := 4) rfl)) (by decide) (by decide)) q4a q4c (g := (mkF m 14 #[.val (.ref a1), .val (.int (47 : Int32)), .val (.int (0 : Int32))] [(.ref a1), (.int (0 : Int32)), (.int (47 : Int32)), (.ref tb)])) rfl (by rw [hml]; rfl) (Steps.refl _) (argsL := []) (rest := [(.int (0 : Int32)), (.int (47 : Int32)), (.ref tb)]) (lenOf pd_17 rfl) rfl (by show 2 * 0 + _ ≤ _; exact Nat.le_of_eq rfl) (hb hby d8_14) (fun _ _ => ⟨rfl, e3, Nat.le_of_ble_eq_true rfl, Nat.le_of_ble_eq_true rfl⟩)
  dsimp only [Pt.U, Pt.locs, Pt.cells, Pt.slots] at X5 l5 y5 z5 st5 hQ5
  subst l5 y5 z5
  obtain ⟨h5, e5⟩ : ∃ z, T5.heap = z := ⟨_, rfl⟩
  rw [e5] at hQ5
  obtain ⟨rfl, hL5, eq5⟩ := hQ5
  subst hL5
  have N5 := Fr.app N2 (Fr.nil n0)
  rw [eq5] at e5
  refine own_go (B := T5.setTop (mkF m 17 #[.val (.ref a1), .val (.int (47 : Int32)), .val (.int (0 : Int32))] [(.int nn), (.int (0 : Int32)), (.int (47 : Int32)), (.ref tb)])) (fun t k => st5.trans k) ?_
  obtain ⟨_, _, ⟨T6, L6, k6, n6⟩, -, X6, ⟨Lc6, hQ6, l6, y6, z6⟩, st6⟩ := Jvm.LawKit.callS X5 hx (y := (⟨"java/lang/StringLatin1", "indexOf", "([BIII)I"⟩ : MethodName)) hown (mvT hZ (hw _ (List.mem_of_getElem? (i := 65) rfl))) (mvT hZ (hw _ (List.mem_of_getElem? (i := 66) rfl))) (mvT hZ (hw _ (List.mem_of_getElem? (i := 37) rfl))) (mvT hZ (hw _ (List.mem_of_getElem? (i := 67) rfl))) (by decide) (backOf (W := 0) (rm12 l Z a0 hw [] tb kb cs nn h0 n0 Z0 V_tb hla hL) hZ (hw _ (List.mem_of_getElem? (i := 67) rfl)) (hw _ (List.mem_of_getElem? (i := 37) rfl)) (by decide) (by decide)) (g := (mkF m 17 #[.val (.ref a1), .val (.int (47 : Int32)), .val (.int (0 : Int32))] [(.int nn), (.int (0 : Int32)), (.int (47 : Int32)), (.ref tb)])) rfl (by rw [hml]; rfl) (argsL := [(.ref tb), (.int (47 : Int32)), (.int (0 : Int32)), (.int nn)]) (rest := []) (lenOf pd_14 rfl) rfl (by show 2 * 0 + _ ≤ _; exact Nat.le_of_eq rfl) (hb hby d8_17) (fun _ _ => ⟨rfl, e5, Nat.le_of_ble_eq_true rfl, Nat.le_of_ble_eq_true rfl⟩)
  dsimp only [Pt.U, Pt.locs, Pt.cells, Pt.slots] at X6 l6 y6 z6 st6 hQ6
  subst l6 y6 z6
  obtain ⟨h6, e6⟩ : ∃ z, T6.heap = z := ⟨_, rfl⟩
  rw [e6] at hQ6
  obtain ⟨r6, ⟨rfl, hL6, eq6⟩, hp6⟩ := hQ6
  subst hL6
  have N6 := Fr.app N5 (Fr.nil n0)
  rw [eq6] at e6
  refine own_go (B := T6.setTop (mkF m 20 #[.val (.ref a1), .val (.int (47 : Int32)), .val (.int (0 : Int32))] [(.int r6)])) st6 ?_
  refine own_go (B := T6.setTop (mkF m 36 #[.val (.ref a1), .val (.int (47 : Int32)), .val (.int (0 : Int32))] [(.int r6)])) (fun t k => ?_) ?_
  · show Steps p.tables e below (T6.setTop (mkF m 20 #[.val (.ref a1), .val (.int (47 : Int32)), .val (.int (0 : Int32))] [(.int r6)])) _
    refine XS.goto X6.here hx rfl (pc0 := 20) (pc' := 36) rfl (hb hby d8_20) (by decide) (by decide) ?_
    exact k
  obtain ⟨fs, hr, hrun, hended, hW, hsame⟩ := X6.leave (v := some (.int r6)) (fun h => by rw [Bd.returns] at h; cases h)
  refine own_done (retOut X6 hx Bd.returns rfl (Or.inl ⟨rfl, Or.inl rfl, _, rfl⟩) (hb hby d8_36) hr) hrun hended ⟨_, _, rfl, ?_, ⟨_, rfl⟩, hW, hsame.mono (by decide) (by decide)⟩
  show Q_rm19 Z cs h0 n0 (some (.int r6)) T6.heap _
  rw [e6]
  exact ⟨_, ⟨rfl, rfl, rfl⟩, hp6⟩
theorem ef_rm8_1 (m : MethodId) (x0 : Addr) (x1 : Int32) (x2 : Int32) : entryFrame m #[(.ref x0), (.int x1), (.int x2)] 3 = mkF m 0 #[.val (.ref x0), .val (.int x1), .val (.int x2)] [] := by first | (simp [entryFrame, mkF, argsToLocals, Value.category, maxLocals]; done) | rfl
set_option maxRecDepth 65536 in
set_option maxHeartbeats 40000000 in
theorem rm8_1 (l : Launch) (Z : State) (a0 : Array Value) (hw : ∀ d ∈ tables_1, d.before a0 Z = true) (ws : List Jvm.Cond) (a1 : Addr) (tb : Addr) (kb : ClassId) (cs : List UInt16) (nn : Int32) (h0 : Heap) (n0 : Nat) (Z0 : n0 ≤ h0.size) (E_a1 : Exa Z h0 a1 "java/lang/String") (F_value_a1 : Fld Z h0 a1 "java/lang/String" "value" "[B" (.ref tb)) (F_coder_a1 : Fld Z h0 a1 "java/lang/String" "coder" "B" (.int (1 : Int32))) (V_tb : Arv Z h0 tb kb .byte (nn <<< ((1 : Int32) &&& 31)) (own_wide cs) (.int (0 : Int32))) (hL : own_L cs nn) (hSt : own_S Z) (O : Old Z n0 h0) :
    MetFree l (⟨"java/lang/String", "indexOf", "(II)I"⟩ : MethodName) (head1 (Jvm.Cond.code (⟨"java/lang/String", "indexOf", "(II)I"⟩ : MethodName) jdk_42_method_80_code 3 (some .int) :: ws) ({ frames := 5, cells := 0, slots := 0, locals := 73 } : Room)) (fun a U => a = #[(.ref a1), (.int (47 : Int32)), (.int (0 : Int32))] ∧ Z.Warmed39 U.vm ∧ U.heap = h0) (fun _ _ _ _ _ => True) (fun _ U o U' => ∃ v L, o = .returned v ∧ Q_rm19 Z cs h0 n0 v U'.heap L ∧ FrameEnd U o U' L ({ frames := 5, cells := 0, slots := 0, locals := 73 } : Room).cells ({ frames := 5, cells := 0, slots := 0, locals := 73 } : Room).slots) := by
  refine MetFree.of_bodySF (plainFor_of_name pn_8) hisR ?_
  intro p e s m args below meth c s₁ Bd hml0 hP hK
  obtain ⟨rfl, hZ, hh⟩ := hP
  have hx := Bd.exec
  have hby := Bd.bytes
  have hml : c.maxLocals = 3 := hml0
  have hown : s.vm.findClass "java/lang/String" = some m.cls := findClass_of_methodNamed Bd.named
  have hnm := (name_of_methodNamed Bd.named Bd.method).1
  have X0 : Stand p l e ({ frames := 5, cells := 0, slots := 0, locals := 73 } : Room) s m #[(.ref a1), (.int (47 : Int32)), (.int (0 : Int32))] below meth c s₁ [] 0 0 := Stand.of_body Bd
  have e0 : s₁.heap = h0 := by rw [← hh, Bd.state]; rfl
  have N0 := Fr.nil n0
  have K : Keep h0 h0 [] := Keep.refl h0 []
  obtain ⟨G1, G3, O2, P5, O4, rG3, SA, SB, SC⟩ := id hSt
  show own_Gd p.tables e below (own_P (Q_rm19 Z cs h0 n0) s ({ frames := 5, cells := 0, slots := 0, locals := 73 } : Room).cells ({ frames := 5, cells := 0, slots := 0, locals := 73 } : Room).slots) _
  refine own_go (B := s₁.setTop (mkF m 0 #[.val (.ref a1), .val (.int (47 : Int32)), .val (.int (0 : Int32))] [])) (fun t k => castTop (ef_rm8_1 m a1 (47 : Int32) (0 : Int32)) k) ?_
  refine own_go (B := s₁.setTop (mkF m 1 #[.val (.ref a1), .val (.int (47 : Int32)), .val (.int (0 : Int32))] [(.ref a1)])) (fun t k => ?_) ?_
  · show Steps p.tables e below (s₁.setTop (mkF m 0 #[.val (.ref a1), .val (.int (47 : Int32)), .val (.int (0 : Int32))] [])) _
    refine XS.aloadN X0.here hx rfl (hb hby d8_0) rfl rfl ?_
    exact k
  obtain ⟨cq1, kq1, q1a, q1b, q1c⟩ := isOf hZ e0 E_a1
  obtain ⟨_, _, ⟨T2, L2, k2, n2⟩, -, X2, ⟨Lc2, hQ2, l2, y2, z2⟩, st2⟩ := X0.virtualBack hx (y := (⟨"java/lang/String", "isLatin1", "()Z"⟩ : MethodName)) (z := (⟨"java/lang/String", "isLatin1", "()Z"⟩ : MethodName)) hown (mvT hZ (hw _ (List.mem_of_getElem? (i := 50) rfl))) (mvT hZ (hw _ (List.mem_of_getElem? (i := 51) rfl))) (notFace_of_selects (args := #[]) (mvT hZ (hw _ (List.mem_of_getElem? (i := 53) rfl)))) (mvT hZ (hw _ (List.mem_of_getElem? (i := 53) rfl))) (mvT hZ (hw _ (List.mem_of_getElem? (i := 52) rfl))) (by decide) (backOf (W := 0) (rm9_1 l Z a0 hw [] a1 h0 n0 Z0 F_coder_a1 hSt O) hZ (hw _ (List.mem_of_getElem? (i := 54) rfl)) (hw _ (List.mem_of_getElem? (i := 4) rfl)) (by decide) (by decide)) q1a q1c (g := (mkF m 1 #[.val (.ref a1), .val (.int (47 : Int32)), .val (.int (0 : Int32))] [(.ref a1)])) rfl (by rw [hml]; rfl) (Steps.refl _) (argsL := []) (rest := []) (lenOf pd_16 rfl) rfl (by show 2 * 0 + _ ≤ _; exact Nat.le_of_eq rfl) (hb hby d8_1) (fun _ _ => ⟨rfl, e0, Nat.le_of_ble_eq_true rfl, Nat.le_of_ble_eq_true rfl⟩)
  dsimp only [Pt.U, Pt.locs, Pt.cells, Pt.slots] at X2 l2 y2 z2 st2 hQ2
  subst l2 y2 z2
  obtain ⟨h2, e2⟩ : ∃ z, T2.heap = z := ⟨_, rfl⟩
  rw [e2] at hQ2
  obtain ⟨rfl, hL2, eq2⟩ := hQ2
  subst hL2
  have N2 := Fr.app N0 (Fr.nil n0)
  rw [eq2] at e2
  refine own_go (B := T2.setTop (mkF m 4 #[.val (.ref a1), .val (.int (47 : Int32)), .val (.int (0 : Int32))] [(.int (0 : Int32))])) (fun t k => st2.trans k) ?_
  refine own_go (B := T2.setTop (mkF m 24 #[.val (.ref a1), .val (.int (47 : Int32)), .val (.int (0 : Int32))] [(.ref a1)])) (fun t k => ?_) ?_
  · show Steps p.tables e below (T2.setTop (mkF m 4 #[.val (.ref a1), .val (.int (47 : Int32)), .val (.int (0 : Int32))] [(.int (0 : Int32))])) _
    refine XS.ifYes X2.here hx rfl (pc0 := 4) (pc' := 23) rfl (hb hby d8_4) rfl ((if0 _ _).trans (teq ((rfl : (0 : Int32) = (0 : Int32)) : (0 : Int32) = (0 : Int32))).1) (by decide) (by decide) ?_
    refine XS.aloadN X2.here hx rfl (hb hby d8_23) rfl rfl ?_
    exact k
  obtain ⟨T3, X3, e3, st3⟩ := getF X2 hx hZ hown (host := "") (Or.inl (hw _ (List.mem_of_getElem? (i := 21) rfl))) Via.refl e2 F_value_a1 (g := (mkF m 24 #[.val (.ref a1), .val (.int (47 : Int32)), .val (.int (0 : Int32))] [(.ref a1)])) rfl rfl (hb hby d8_24)
  refine own_go (B := T3.setTop (mkF m 27 #[.val (.ref a1), .val (.int (47 : Int32)), .val (.int (0 : Int32))] [(.ref tb)])) st3 ?_
  refine own_go (B := T3.setTop (mkF m 30 #[.val (.ref a1), .val (.int (47 : Int32)), .val (.int (0 : Int32))] [(.ref a1), (.int (0 : Int32)), (.int (47 : Int32)), (.ref tb)])) (fun t k => ?_) ?_
  · show Steps p.tables e below (T3.setTop (mkF m 27 #[.val (.ref a1), .val (.int (47 : Int32)), .val (.int (0 : Int32))] [(.ref tb)])) _
    refine XS.iloadN X3.here hx rfl (hb hby d8_27) rfl ?_
    refine XS.iloadN X3.here hx rfl (hb hby d8_28) rfl ?_
    refine XS.aloadN X3.here hx rfl (hb hby d8_29) rfl rfl ?_
    exact k
  obtain ⟨cq4, kq4, q4a, q4b, q4c⟩ := isOf hZ e3 E_a1
  obtain ⟨_, _, ⟨T5, L5, k5, n5⟩, -, X5, ⟨Lc5, hQ5, l5, y5, z5⟩, st5⟩ := X3.virtualBack hx (y := (⟨"java/lang/String", "length", "()I"⟩ : MethodName)) (z := (⟨"java/lang/String", "length", "()I"⟩ : MethodName)) hown (mvT hZ (hw _ (List.mem_of_getElem? (i := 55) rfl))) (mvT hZ (hw _ (List.mem_of_getElem? (i := 56) rfl))) (notFace_of_selects (args := #[]) (mvT hZ (hw _ (List.mem_of_getElem? (i := 58) rfl)))) (mvT hZ (hw _ (List.mem_of_getElem? (i := 58) rfl))) (mvT hZ (hw _ (List.mem_of_getElem? (i := 57) rfl))) (by decide) (backOf (W := 3) (rm10 l Z a0 hw [] a1 tb kb (nn <<< ((1 : Int32) &&& 31)) (own_wide cs) (1 : Int32) nn h0 n0 Z0 E_a1 F_value_a1 F_coder_a1 V_tb (by decide) (own_Lh hL) hSt O) hZ (hw _ (List.mem_of_getElem? (i := 59) rfl)) (hw _ (List.mem_of_getElem? (i := 4) rfl)) (by decide) (by decide)) q4a q4c (g := (mkF m 30 #[.val (.ref a1), .val (.int (47 : Int32)), .val (.int (0 : Int32))] [(.ref a1), (.int (0 : Int32)), (.int (47 : Int32)), (.ref tb)])) rfl (by rw [hml]; rfl) (Steps.refl _) (argsL := []) (rest := [(.int (0 : Int32)), (.int (47 : Int32)), (.ref tb)]) (lenOf pd_17 rfl) rfl (by show 2 * 0 + _ ≤ _; exact Nat.le_of_eq rfl) (hb hby d8_30) (fun _ _ => ⟨rfl, e3, Nat.le_of_ble_eq_true rfl, Nat.le_of_ble_eq_true rfl⟩)
  dsimp only [Pt.U, Pt.locs, Pt.cells, Pt.slots] at X5 l5 y5 z5 st5 hQ5
  subst l5 y5 z5
  obtain ⟨h5, e5⟩ : ∃ z, T5.heap = z := ⟨_, rfl⟩
  rw [e5] at hQ5
  obtain ⟨rfl, hL5, eq5⟩ := hQ5
  subst hL5
  have N5 := Fr.app N2 (Fr.nil n0)
  rw [eq5] at e5
  refine own_go (B := T5.setTop (mkF m 33 #[.val (.ref a1), .val (.int (47 : Int32)), .val (.int (0 : Int32))] [(.int nn), (.int (0 : Int32)), (.int (47 : Int32)), (.ref tb)])) (fun t k => st5.trans k) ?_
  obtain ⟨_, _, ⟨T6, L6, k6, n6⟩, -, X6, ⟨Lc6, hQ6, l6, y6, z6⟩, st6⟩ := Jvm.LawKit.callS X5 hx (y := (⟨"java/lang/StringUTF16", "indexOf", "([BIII)I"⟩ : MethodName)) hown (mvT hZ (hw _ (List.mem_of_getElem? (i := 110) rfl))) (mvT hZ (hw _ (List.mem_of_getElem? (i := 111) rfl))) (mvT hZ (hw _ (List.mem_of_getElem? (i := 80) rfl))) (mvT hZ (hw _ (List.mem_of_getElem? (i := 112) rfl))) (by decide) (backOf (W := 0) (rm25 l Z a0 hw [] tb kb cs nn h0 n0 Z0 V_tb hL hSt O) hZ (hw _ (List.mem_of_getElem? (i := 112) rfl)) (hw _ (List.mem_of_getElem? (i := 80) rfl)) (by decide) (by decide)) (g := (mkF m 33 #[.val (.ref a1), .val (.int (47 : Int32)), .val (.int (0 : Int32))] [(.int nn), (.int (0 : Int32)), (.int (47 : Int32)), (.ref tb)])) rfl (by rw [hml]; rfl) (argsL := [(.ref tb), (.int (47 : Int32)), (.int (0 : Int32)), (.int nn)]) (rest := []) (lenOf pd_14 rfl) rfl (by show 2 * 0 + _ ≤ _; exact Nat.le_of_eq rfl) (hb hby d8_33) (fun _ _ => ⟨rfl, e5, Nat.le_of_ble_eq_true rfl, Nat.le_of_ble_eq_true rfl⟩)
  dsimp only [Pt.U, Pt.locs, Pt.cells, Pt.slots] at X6 l6 y6 z6 st6 hQ6
  subst l6 y6 z6
  obtain ⟨h6, e6⟩ : ∃ z, T6.heap = z := ⟨_, rfl⟩
  rw [e6] at hQ6
  obtain ⟨r6, ⟨rfl, hL6, eq6⟩, hp6⟩ := hQ6
  subst hL6
  have N6 := Fr.app N5 (Fr.nil n0)
  rw [eq6] at e6
  refine own_go (B := T6.setTop (mkF m 36 #[.val (.ref a1), .val (.int (47 : Int32)), .val (.int (0 : Int32))] [(.int r6)])) st6 ?_
  obtain ⟨fs, hr, hrun, hended, hW, hsame⟩ := X6.leave (v := some (.int r6)) (fun h => by rw [Bd.returns] at h; cases h)
  refine own_done (retOut X6 hx Bd.returns rfl (Or.inl ⟨rfl, Or.inl rfl, _, rfl⟩) (hb hby d8_36) hr) hrun hended ⟨_, _, rfl, ?_, ⟨_, rfl⟩, hW, hsame.mono (by decide) (by decide)⟩
  show Q_rm19 Z cs h0 n0 (some (.int r6)) T6.heap _
  rw [e6]
  exact ⟨_, ⟨rfl, rfl, rfl⟩, hp6⟩
set_option maxRecDepth 65536 in
set_option maxHeartbeats 40000000 in
theorem rm8 (l : Launch) (Z : State) (a0 : Array Value) (hw : ∀ d ∈ tables_1, d.before a0 Z = true) (ws : List Jvm.Cond) (a1 tb : Addr) (kb : ClassId) (cs : List UInt16) (nn cd zz : Int32) (vs : List Value) (h0 : Heap) (n0 : Nat) (Z0 : n0 ≤ h0.size) (E_a1 : Exa Z h0 a1 "java/lang/String") (F_value_a1 : Fld Z h0 a1 "java/lang/String" "value" "[B" (.ref tb)) (F_coder_a1 : Fld Z h0 a1 "java/lang/String" "coder" "B" (.int cd)) (V_tb : Arv Z h0 tb kb .byte zz vs (.int (0 : Int32))) (hE : own_E cs nn cd zz vs) (hSt : own_S Z) (O : Old Z n0 h0) :
    MetFree l (⟨"java/lang/String", "indexOf", "(II)I"⟩ : MethodName) (head1 (Jvm.Cond.code (⟨"java/lang/String", "indexOf", "(II)I"⟩ : MethodName) jdk_42_method_80_code 3 (some .int) :: ws) ({ frames := 5, cells := 0, slots := 0, locals := 73 } : Room)) (fun a U => a = #[(.ref a1), (.int (47 : Int32)), (.int (0 : Int32))] ∧ Z.Warmed39 U.vm ∧ U.heap = h0) (fun _ _ _ _ _ => True) (fun _ U o U' => ∃ v L, o = .returned v ∧ Q_rm19 Z cs h0 n0 v U'.heap L ∧ FrameEnd U o U' L ({ frames := 5, cells := 0, slots := 0, locals := 73 } : Room).cells ({ frames := 5, cells := 0, slots := 0, locals := 73 } : Room).slots) := by
  rcases hE with ⟨h1, h2, h3, h4, h5⟩ | ⟨h1, h2, h3, h4, h5⟩
  · subst h2 h3 h4
    exact rm8_0 l Z a0 hw ws a1 tb kb _ _ h0 n0 Z0 E_a1 F_value_a1 F_coder_a1 V_tb h1 h5 hSt O
  · subst h2 h3 h4
    exact rm8_1 l Z a0 hw ws a1 tb kb _ _ h0 n0 Z0 E_a1 F_value_a1 F_coder_a1 V_tb h5 hSt O
theorem d7_0 : decode jdk_42_method_79_code 0 = .ok (.aload_n 0, 1) := by decide +kernel
theorem d7_1 : decode jdk_42_method_79_code 1 = .ok (.iload_n 1, 1) := by decide +kernel
theorem d7_2 : decode jdk_42_method_79_code 2 = .ok (.iconst 0, 1) := by decide +kernel
theorem d7_3 : decode jdk_42_method_79_code 3 = .ok (.invokevirtual 633, 3) := by decide +kernel
theorem d7_6 : decode jdk_42_method_79_code 6 = .ok (.ireturn, 1) := by decide +kernel
theorem ef_rm7 (m : MethodId) (x0 : Addr) (x1 : Int32) : entryFrame m #[(.ref x0), (.int x1)] 2 = mkF m 0 #[.val (.ref x0), .val (.int x1)] [] := by first | (simp [entryFrame, mkF, argsToLocals, Value.category, maxLocals]; done) | rfl
set_option maxRecDepth 65536 in
set_option maxHeartbeats 40000000 in
theorem rm7 (l : Launch) (Z : State) (a0 : Array Value) (hw : ∀ d ∈ tables_1, d.before a0 Z = true) (ws : List Jvm.Cond) (a1 tb : Addr) (kb : ClassId) (cs : List UInt16) (nn cd zz : Int32) (vs : List Value) (h0 : Heap) (n0 : Nat) (Z0 : n0 ≤ h0.size) (E_a1 : Exa Z h0 a1 "java/lang/String") (F_value_a1 : Fld Z h0 a1 "java/lang/String" "value" "[B" (.ref tb)) (F_coder_a1 : Fld Z h0 a1 "java/lang/String" "coder" "B" (.int cd)) (V_tb : Arv Z h0 tb kb .byte zz vs (.int (0 : Int32))) (hE : own_E cs nn cd zz vs) (hSt : own_S Z) (O : Old Z n0 h0) :
    MetFree l (⟨"java/lang/String", "indexOf", "(I)I"⟩ : MethodName) (head1 (Jvm.Cond.code (⟨"java/lang/String", "indexOf", "(I)I"⟩ : MethodName) jdk_42_method_79_code 2 (some .int) :: ws) ({ frames := 6, cells := 0, slots := 0, locals := 87 } : Room)) (fun a U => a = #[(.ref a1), (.int (47 : Int32))] ∧ Z.Warmed39 U.vm ∧ U.heap = h0) (fun _ _ _ _ _ => True) (fun _ U o U' => ∃ v L, o = .returned v ∧ Q_rm19 Z cs h0 n0 v U'.heap L ∧ FrameEnd U o U' L ({ frames := 6, cells := 0, slots := 0, locals := 87 } : Room).cells ({ frames := 6, cells := 0, slots := 0, locals := 87 } : Room).slots) := by
  refine MetFree.of_bodySF (plainFor_of_name pn_7) hisR ?_
  intro p e s m args below meth c s₁ Bd hml0 hP hK
  obtain ⟨rfl, hZ, hh⟩ := hP
  have hx := Bd.exec
  have hby := Bd.bytes
  have hml : c.maxLocals = 2 := hml0
  have hown : s.vm.findClass "java/lang/String" = some m.cls := findClass_of_methodNamed Bd.named
  have hnm := (name_of_methodNamed Bd.named Bd.method).1
  have X0 : Stand p l e ({ frames := 6, cells := 0, slots := 0, locals := 87 } : Room) s m #[(.ref a1), (.int (47 : Int32))] below meth c s₁ [] 0 0 := Stand.of_body Bd
  have e0 : s₁.heap = h0 := by rw [← hh, Bd.state]; rfl
  have N0 := Fr.nil n0
  have K : Keep h0 h0 [] := Keep.refl h0 []
  obtain ⟨G1, G3, O2, P5, O4, rG3, SA, SB, SC⟩ := id hSt
  show own_Gd p.tables e below (own_P (Q_rm19 Z cs h0 n0) s ({ frames := 6, cells := 0, slots := 0, locals := 87 } : Room).cells ({ frames := 6, cells := 0, slots := 0, locals := 87 } : Room).slots) _
  refine own_go (B := s₁.setTop (mkF m 0 #[.val (.ref a1), .val (.int (47 : Int32))] [])) (fun t k => castTop (ef_rm7 m a1 (47 : Int32)) k) ?_
  refine own_go (B := s₁.setTop (mkF m 3 #[.val (.ref a1), .val (.int (47 : Int32))] [(.int (0 : Int32)), (.int (47 : Int32)), (.ref a1)])) (fun t k => ?_) ?_
  · show Steps p.tables e below (s₁.setTop (mkF m 0 #[.val (.ref a1), .val (.int (47 : Int32))] [])) _
    refine XS.aloadN X0.here hx rfl (hb hby d7_0) rfl rfl ?_
    refine XS.iloadN X0.here hx rfl (hb hby d7_1) rfl ?_
    refine XS.iconst X0.here hx rfl (hb hby d7_2) ?_
    exact k
  obtain ⟨cq1, kq1, q1a, q1b, q1c⟩ := isOf hZ e0 E_a1
  obtain ⟨_, _, ⟨T2, L2, k2, n2⟩, -, X2, ⟨Lc2, hQ2, l2, y2, z2⟩, st2⟩ := X0.virtualBack hx (y := (⟨"java/lang/String", "indexOf", "(II)I"⟩ : MethodName)) (z := (⟨"java/lang/String", "indexOf", "(II)I"⟩ : MethodName)) hown (mvT hZ (hw _ (List.mem_of_getElem? (i := 45) rfl))) (mvT hZ (hw _ (List.mem_of_getElem? (i := 46) rfl))) (notFace_of_selects (args := #[]) (mvT hZ (hw _ (List.mem_of_getElem? (i := 48) rfl)))) (mvT hZ (hw _ (List.mem_of_getElem? (i := 48) rfl))) (mvT hZ (hw _ (List.mem_of_getElem? (i := 47) rfl))) (by decide) (backOf (W := 0) (rm8 l Z a0 hw [] a1 tb kb cs nn cd zz vs h0 n0 Z0 E_a1 F_value_a1 F_coder_a1 V_tb hE hSt O) hZ (hw _ (List.mem_of_getElem? (i := 49) rfl)) (hw _ (List.mem_of_getElem? (i := 4) rfl)) (by decide) (by decide)) q1a q1c (g := (mkF m 3 #[.val (.ref a1), .val (.int (47 : Int32))] [(.int (0 : Int32)), (.int (47 : Int32)), (.ref a1)])) rfl (by rw [hml]; rfl) (Steps.refl _) (argsL := [(.int (47 : Int32)), (.int (0 : Int32))]) (rest := []) (lenOf pd_13 rfl) rfl (by show 2 * 0 + _ ≤ _; exact Nat.le_of_eq rfl) (hb hby d7_3) (fun _ _ => ⟨rfl, e0, Nat.le_of_ble_eq_true rfl, Nat.le_of_ble_eq_true rfl⟩)
  dsimp only [Pt.U, Pt.locs, Pt.cells, Pt.slots] at X2 l2 y2 z2 st2 hQ2
  subst l2 y2 z2
  obtain ⟨h2, e2⟩ : ∃ z, T2.heap = z := ⟨_, rfl⟩
  rw [e2] at hQ2
  obtain ⟨r2, ⟨rfl, hL2, eq2⟩, hp2⟩ := hQ2
  subst hL2
  have N2 := Fr.app N0 (Fr.nil n0)
  rw [eq2] at e2
  refine own_go (B := T2.setTop (mkF m 6 #[.val (.ref a1), .val (.int (47 : Int32))] [(.int r2)])) (fun t k => st2.trans k) ?_
  obtain ⟨fs, hr, hrun, hended, hW, hsame⟩ := X2.leave (v := some (.int r2)) (fun h => by rw [Bd.returns] at h; cases h)
  refine own_done (retOut X2 hx Bd.returns rfl (Or.inl ⟨rfl, Or.inl rfl, _, rfl⟩) (hb hby d7_6) hr) hrun hended ⟨_, _, rfl, ?_, ⟨_, rfl⟩, hW, hsame.mono (by decide) (by decide)⟩
  show Q_rm19 Z cs h0 n0 (some (.int r2)) T2.heap _
  rw [e2]
  exact ⟨_, ⟨rfl, rfl, rfl⟩, hp2⟩
def Q_rm6_1 (Z : State) (cs : List UInt16) (h0 : Heap) (n0 : Nat) (v : Option Value) (h : Heap) (L : List Loc) : Prop := ∃ r, (v = some (.int r) ∧ L = [] ∧ h = h0) ∧ (r = (0 : Int32) ↔ ¬ own_is1 cs)
theorem d6_0 : decode jdk_43_method_13_code 0 = .ok (.aload_n 0, 1) := by decide +kernel
theorem d6_1 : decode jdk_43_method_13_code 1 = .ok (.arraylength, 1) := by decide +kernel
theorem d6_2 : decode jdk_43_method_13_code 2 = .ok (.aload_n 1, 1) := by decide +kernel
theorem d6_3 : decode jdk_43_method_13_code 3 = .ok (.arraylength, 1) := by decide +kernel
theorem d6_4 : decode jdk_43_method_13_code 4 = .ok (.if_icmp .ne 30, 3) := by decide +kernel
theorem d6_7 : decode jdk_43_method_13_code 7 = .ok (.iconst 0, 1) := by decide +kernel
theorem d6_8 : decode jdk_43_method_13_code 8 = .ok (.istore_n 2, 1) := by decide +kernel
theorem d6_9 : decode jdk_43_method_13_code 9 = .ok (.iload_n 2, 1) := by decide +kernel
theorem d6_10 : decode jdk_43_method_13_code 10 = .ok (.aload_n 0, 1) := by decide +kernel
theorem d6_11 : decode jdk_43_method_13_code 11 = .ok (.arraylength, 1) := by decide +kernel
theorem d6_12 : decode jdk_43_method_13_code 12 = .ok (.if_icmp .ge 20, 3) := by decide +kernel
theorem d6_15 : decode jdk_43_method_13_code 15 = .ok (.aload_n 0, 1) := by decide +kernel
theorem d6_16 : decode jdk_43_method_13_code 16 = .ok (.iload_n 2, 1) := by decide +kernel
theorem d6_17 : decode jdk_43_method_13_code 17 = .ok (.baload, 1) := by decide +kernel
theorem d6_18 : decode jdk_43_method_13_code 18 = .ok (.aload_n 1, 1) := by decide +kernel
theorem d6_19 : decode jdk_43_method_13_code 19 = .ok (.iload_n 2, 1) := by decide +kernel
theorem d6_20 : decode jdk_43_method_13_code 20 = .ok (.baload, 1) := by decide +kernel
theorem d6_21 : decode jdk_43_method_13_code 21 = .ok (.if_icmp .eq 5, 3) := by decide +kernel
theorem d6_24 : decode jdk_43_method_13_code 24 = .ok (.iconst 0, 1) := by decide +kernel
theorem d6_25 : decode jdk_43_method_13_code 25 = .ok (.ireturn, 1) := by decide +kernel
theorem d6_26 : decode jdk_43_method_13_code 26 = .ok (.iinc 2 1, 3) := by decide +kernel
theorem d6_29 : decode jdk_43_method_13_code 29 = .ok (.goto (-20), 3) := by decide +kernel
theorem d6_32 : decode jdk_43_method_13_code 32 = .ok (.iconst 1, 1) := by decide +kernel
theorem d6_33 : decode jdk_43_method_13_code 33 = .ok (.ireturn, 1) := by decide +kernel
theorem d6_34 : decode jdk_43_method_13_code 34 = .ok (.iconst 0, 1) := by decide +kernel
theorem d6_35 : decode jdk_43_method_13_code 35 = .ok (.ireturn, 1) := by decide +kernel
theorem ef_rm6_1n (m : MethodId) (x0 : Addr) (x1 : Addr) : entryFrame m #[(.ref x0), (.ref x1)] 3 = mkF m 0 #[.val (.ref x0), .val (.ref x1), .unset] [] := by first | (simp [entryFrame, mkF, argsToLocals, Value.category, maxLocals]; done) | rfl
set_option maxRecDepth 65536 in
set_option maxHeartbeats 40000000 in
theorem rm6_1n (l : Launch) (Z : State) (a0 : Array Value) (hw : ∀ d ∈ tables_1, d.before a0 Z = true) (ws : List Jvm.Cond) (tb t2 : Addr) (kb k2 : ClassId) (cs : List UInt16) (nn : Int32) (h0 : Heap) (n0 : Nat) (Z0 : n0 ≤ h0.size) (V_tb : Arv Z h0 tb kb .byte nn (own_lat cs) (.int (0 : Int32))) (V_t2 : Arv Z h0 t2 k2 .byte (1 : Int32) [(.int (46 : Int32))] (.int (0 : Int32))) (hne : ¬ nn = (1 : Int32)) (hni : ¬ own_is1 cs) :
    MetFree l (⟨"java/lang/StringLatin1", "equals", "([B[B)Z"⟩ : MethodName) (head1 (Jvm.Cond.code (⟨"java/lang/StringLatin1", "equals", "([B[B)Z"⟩ : MethodName) jdk_43_method_13_code 3 (some .boolean) :: ws) ({ frames := 0, cells := 0, slots := 0, locals := 0 } : Room)) (fun a U => a = #[(.ref tb), (.ref t2)] ∧ Z.Warmed39 U.vm ∧ U.heap = h0) (fun _ _ _ _ _ => True) (fun _ U o U' => ∃ v L, o = .returned v ∧ Q_rm6_1 Z cs h0 n0 v U'.heap L ∧ FrameEnd U o U' L ({ frames := 0, cells := 0, slots := 0, locals := 0 } : Room).cells ({ frames := 0, cells := 0, slots := 0, locals := 0 } : Room).slots) := by
  refine MetFree.of_bodySF (plainFor_of_name pn_6) hisR ?_
  intro p e s m args below meth c s₁ Bd hml0 hP hK
  obtain ⟨rfl, hZ, hh⟩ := hP
  have hx := Bd.exec
  have hby := Bd.bytes
  have hml : c.maxLocals = 3 := hml0
  have hown : s.vm.findClass "java/lang/StringLatin1" = some m.cls := findClass_of_methodNamed Bd.named
  have hnm := (name_of_methodNamed Bd.named Bd.method).1
  have X0 : Stand p l e ({ frames := 0, cells := 0, slots := 0, locals := 0 } : Room) s m #[(.ref tb), (.ref t2)] below meth c s₁ [] 0 0 := Stand.of_body Bd
  have e0 : s₁.heap = h0 := by rw [← hh, Bd.state]; rfl
  have N0 := Fr.nil n0
  have K : Keep h0 h0 [] := Keep.refl h0 []
  show own_Gd p.tables e below (own_P (Q_rm6_1 Z cs h0 n0) s ({ frames := 0, cells := 0, slots := 0, locals := 0 } : Room).cells ({ frames := 0, cells := 0, slots := 0, locals := 0 } : Room).slots) _
  refine own_go (B := s₁.setTop (mkF m 0 #[.val (.ref tb), .val (.ref t2), .unset] [])) (fun t k => castTop (ef_rm6_1n m tb t2) k) ?_
  refine own_go (B := s₁.setTop (mkF m 1 #[.val (.ref tb), .val (.ref t2), .unset] [(.ref tb)])) (fun t k => ?_) ?_
  · show Steps p.tables e below (s₁.setTop (mkF m 0 #[.val (.ref tb), .val (.ref t2), .unset] [])) _
    refine XS.aloadN X0.here hx rfl (hb hby d6_0) rfl rfl ?_
    exact k
  obtain ⟨cl1, Ar1, qa1, Sa1, Na1, Ha1, Ga1⟩ := id V_tb
  refine own_go (B := s₁.setTop (mkF m 3 #[.val (.ref tb), .val (.ref t2), .unset] [(.ref t2), (.int nn)])) (fun t k => ?_) ?_
  · show Steps p.tables e below (s₁.setTop (mkF m 1 #[.val (.ref tb), .val (.ref t2), .unset] [(.ref tb)])) _
    refine X0.arraylength hx (by rw [e0]; exact Ar1.1) (State.isArrayOf_alike hZ.alike Ar1.2.1) (g := (mkF m 1 #[.val (.ref tb), .val (.ref t2), .unset] [(.ref tb)])) rfl rfl (hb hby d6_1) _ ?_
    rw [len_of Sa1 Na1]
    refine XS.aloadN X0.here hx rfl (hb hby d6_2) rfl rfl ?_
    exact k
  obtain ⟨cl2, Ar2, qa2, Sa2, Na2, Ha2, Ga2⟩ := id V_t2
  refine own_go (B := s₁.setTop (mkF m 35 #[.val (.ref tb), .val (.ref t2), .unset] [(.int (0 : Int32))])) (fun t k => ?_) ?_
  · show Steps p.tables e below (s₁.setTop (mkF m 3 #[.val (.ref tb), .val (.ref t2), .unset] [(.ref t2), (.int nn)])) _
    refine X0.arraylength hx (by rw [e0]; exact Ar2.1) (State.isArrayOf_alike hZ.alike Ar2.2.1) (g := (mkF m 3 #[.val (.ref tb), .val (.ref t2), .unset] [(.ref t2), (.int nn)])) rfl rfl (hb hby d6_3) _ ?_
    rw [len_of Sa2 Na2]
    refine XS.icmpYes X0.here hx rfl (pc0 := 4) (pc' := 34) rfl (hb hby d6_4) rfl (feq (hne : ¬ (nn = (1 : Int32)))).2 (by decide) (by decide) ?_
    refine XS.iconst X0.here hx rfl (hb hby d6_34) ?_
    exact k
  obtain ⟨fs, hr, hrun, hended, hW, hsame⟩ := X0.leave (v := some (.int (0 : Int32))) (fun h => by rw [Bd.returns] at h; cases h)
  refine own_done (retN X0 hx (t := .boolean) Bd.returns (by simp) (hb hby d6_35) hr) hrun hended ⟨_, _, rfl, ?_, ⟨_, rfl⟩, hW, hsame.mono (by decide) (by decide)⟩
  show Q_rm6_1 Z cs h0 n0 (some (.int (0 : Int32))) s₁.heap _
  rw [e0]
  exact ⟨_, ⟨rfl, rfl, rfl⟩, ⟨fun _ => hni, fun _ => rfl⟩⟩
theorem ef_rm6_1e (m : MethodId) (x0 : Addr) (x1 : Addr) : entryFrame m #[(.ref x0), (.ref x1)] 3 = mkF m 0 #[.val (.ref x0), .val (.ref x1), .unset] [] := by first | (simp [entryFrame, mkF, argsToLocals, Value.category, maxLocals]; done) | rfl
set_option maxRecDepth 65536 in
set_option maxHeartbeats 40000000 in
theorem rm6_1e (l : Launch) (Z : State) (a0 : Array Value) (hw : ∀ d ∈ tables_1, d.before a0 Z = true) (ws : List Jvm.Cond) (tb t2 : Addr) (kb k2 : ClassId) (u0 : UInt16) (h0 : Heap) (n0 : Nat) (Z0 : n0 ≤ h0.size) (V_tb : Arv Z h0 tb kb .byte (1 : Int32) [(.int (own_b u0))] (.int (0 : Int32))) (V_t2 : Arv Z h0 t2 k2 .byte (1 : Int32) [(.int (46 : Int32))] (.int (0 : Int32))) (hla : ∀ u ∈ ([u0] : List UInt16), ¬ (255 : Int32) < own_w u) :
    MetFree l (⟨"java/lang/StringLatin1", "equals", "([B[B)Z"⟩ : MethodName) (head1 (Jvm.Cond.code (⟨"java/lang/StringLatin1", "equals", "([B[B)Z"⟩ : MethodName) jdk_43_method_13_code 3 (some .boolean) :: ws) ({ frames := 0, cells := 0, slots := 0, locals := 0 } : Room)) (fun a U => a = #[(.ref tb), (.ref t2)] ∧ Z.Warmed39 U.vm ∧ U.heap = h0) (fun _ _ _ _ _ => True) (fun _ U o U' => ∃ v L, o = .returned v ∧ Q_rm6_1 Z ([u0] : List UInt16) h0 n0 v U'.heap L ∧ FrameEnd U o U' L ({ frames := 0, cells := 0, slots := 0, locals := 0 } : Room).cells ({ frames := 0, cells := 0, slots := 0, locals := 0 } : Room).slots) := by
  refine MetFree.of_bodySF (plainFor_of_name pn_6) hisR ?_
  intro p e s m args below meth c s₁ Bd hml0 hP hK
  obtain ⟨rfl, hZ, hh⟩ := hP
  have hx := Bd.exec
  have hby := Bd.bytes
  have hml : c.maxLocals = 3 := hml0
  have hown : s.vm.findClass "java/lang/StringLatin1" = some m.cls := findClass_of_methodNamed Bd.named
  have hnm := (name_of_methodNamed Bd.named Bd.method).1
  have X0 : Stand p l e ({ frames := 0, cells := 0, slots := 0, locals := 0 } : Room) s m #[(.ref tb), (.ref t2)] below meth c s₁ [] 0 0 := Stand.of_body Bd
  have e0 : s₁.heap = h0 := by rw [← hh, Bd.state]; rfl
  have N0 := Fr.nil n0
  have K : Keep h0 h0 [] := Keep.refl h0 []
  show own_Gd p.tables e below (own_P (Q_rm6_1 Z ([u0] : List UInt16) h0 n0) s ({ frames := 0, cells := 0, slots := 0, locals := 0 } : Room).cells ({ frames := 0, cells := 0, slots := 0, locals := 0 } : Room).slots) _
  refine own_go (B := s₁.setTop (mkF m 0 #[.val (.ref tb), .val (.ref t2), .unset] [])) (fun t k => castTop (ef_rm6_1e m tb t2) k) ?_
  refine own_go (B := s₁.setTop (mkF m 1 #[.val (.ref tb), .val (.ref t2), .unset] [(.ref tb)])) (fun t k => ?_) ?_
  · show Steps p.tables e below (s₁.setTop (mkF m 0 #[.val (.ref tb), .val (.ref t2), .unset] [])) _
    refine XS.aloadN X0.here hx rfl (hb hby d6_0) rfl rfl ?_
    exact k
  obtain ⟨cl1, Ar1, qa1, Sa1, Na1, Ha1, Ga1⟩ := id V_tb
  refine own_go (B := s₁.setTop (mkF m 3 #[.val (.ref tb), .val (.ref t2), .unset] [(.ref t2), (.int (1 : Int32))])) (fun t k => ?_) ?_
  · show Steps p.tables e below (s₁.setTop (mkF m 1 #[.val (.ref tb), .val (.ref t2), .unset] [(.ref tb)])) _
    refine X0.arraylength hx (by rw [e0]; exact Ar1.1) (State.isArrayOf_alike hZ.alike Ar1.2.1) (g := (mkF m 1 #[.val (.ref tb), .val (.ref t2), .unset] [(.ref tb)])) rfl rfl (hb hby d6_1) _ ?_
    rw [len_of Sa1 Na1]
    refine XS.aloadN X0.here hx rfl (hb hby d6_2) rfl rfl ?_
    exact k
  obtain ⟨cl2, Ar2, qa2, Sa2, Na2, Ha2, Ga2⟩ := id V_t2
  refine own_go (B := s₁.setTop (mkF m 11 #[.val (.ref tb), .val (.ref t2), .val (.int (0 : Int32))] [(.ref tb), (.int (0 : Int32))])) (fun t k => ?_) ?_
  · show Steps p.tables e below (s₁.setTop (mkF m 3 #[.val (.ref tb), .val (.ref t2), .unset] [(.ref t2), (.int (1 : Int32))])) _
    refine X0.arraylength hx (by rw [e0]; exact Ar2.1) (State.isArrayOf_alike hZ.alike Ar2.2.1) (g := (mkF m 3 #[.val (.ref tb), .val (.ref t2), .unset] [(.ref t2), (.int (1 : Int32))])) rfl rfl (hb hby d6_3) _ ?_
    rw [len_of Sa2 Na2]
    refine XS.icmpNo X0.here hx rfl (hb hby d6_4) rfl (teq ((rfl : (1 : Int32) = (1 : Int32)) : (1 : Int32) = (1 : Int32))).2 ?_
    refine XS.iconst X0.here hx rfl (hb hby d6_7) ?_
    refine XS.istoreN X0.here hx rfl (hb hby d6_8) rfl (l' := #[.val (.ref tb), .val (.ref t2), .val (.int (0 : Int32))]) rfl ?_
    show Steps p.tables e below (s₁.setTop (mkF m 9 #[.val (.ref tb), .val (.ref t2), .val (.int (0 : Int32))] [])) _
    refine XS.iloadN X0.here hx rfl (hb hby d6_9) rfl ?_
    refine XS.aloadN X0.here hx rfl (hb hby d6_10) rfl rfl ?_
    exact k
  obtain ⟨cl3, Ar3, qa3, Sa3, Na3, Ha3, Ga3⟩ := id V_tb
  refine own_go (B := s₁.setTop (mkF m 17 #[.val (.ref tb), .val (.ref t2), .val (.int (0 : Int32))] [(.int (0 : Int32)), (.ref tb)])) (fun t k => ?_) ?_
  · show Steps p.tables e below (s₁.setTop (mkF m 11 #[.val (.ref tb), .val (.ref t2), .val (.int (0 : Int32))] [(.ref tb), (.int (0 : Int32))])) _
    refine X0.arraylength hx (by rw [e0]; exact Ar3.1) (State.isArrayOf_alike hZ.alike Ar3.2.1) (g := (mkF m 11 #[.val (.ref tb), .val (.ref t2), .val (.int (0 : Int32))] [(.ref tb), (.int (0 : Int32))])) rfl rfl (hb hby d6_11) _ ?_
    rw [len_of Sa3 Na3]
    refine XS.icmpNo X0.here hx rfl (hb hby d6_12) rfl (tlt (by decide : (0 : Int32) < (1 : Int32))).2.1 ?_
    refine XS.aloadN X0.here hx rfl (hb hby d6_15) rfl rfl ?_
    refine XS.iloadN X0.here hx rfl (hb hby d6_16) rfl ?_
    show Steps p.tables e below (s₁.setTop (mkF m 17 #[.val (.ref tb), .val (.ref t2), .val (.int (0 : Int32))] [(.int (0 : Int32)), (.ref tb)])) _
    exact k
  obtain ⟨cl4, Ar4, qa4, Sa4, Na4, Ha4, Ga4⟩ := id V_tb
  have hin4 : ¬ ((0 : Int32) < 0 ∨ cl4.slots.size ≤ ((0 : Int32)).toNatClampNeg) := inb_of Sa4 ⟨by decide, by decide⟩
  have hat4 : cl4.slots[((0 : Int32)).toNatClampNeg]? = some (.int (own_b u0)) := Ha4.at hin4 rfl
  refine own_go (B := s₁.setTop (mkF m 20 #[.val (.ref tb), .val (.ref t2), .val (.int (0 : Int32))] [(.int (0 : Int32)), (.ref t2), (.int (own_b u0))])) (fun t k => ?_) ?_
  · show Steps p.tables e below (s₁.setTop (mkF m 17 #[.val (.ref tb), .val (.ref t2), .val (.int (0 : Int32))] [(.int (0 : Int32)), (.ref tb)])) _
    refine X0.baloadBytes hx (j := (0 : Int32)) (v := (.int (own_b u0))) (by rw [e0]; exact Ar4.1) (State.isArrayOf_alike hZ.alike Ar4.2.1) Ar4.2.2 hin4 hat4 (g := (mkF m 17 #[.val (.ref tb), .val (.ref t2), .val (.int (0 : Int32))] [(.int (0 : Int32)), (.ref tb)])) rfl rfl (hb hby d6_17) _ ?_
    refine XS.aloadN X0.here hx rfl (hb hby d6_18) rfl rfl ?_
    refine XS.iloadN X0.here hx rfl (hb hby d6_19) rfl ?_
    exact k
  obtain ⟨cl5, Ar5, qa5, Sa5, Na5, Ha5, Ga5⟩ := id V_t2
  have hin5 : ¬ ((0 : Int32) < 0 ∨ cl5.slots.size ≤ ((0 : Int32)).toNatClampNeg) := inb_of Sa5 ⟨by decide, by decide⟩
  have hat5 : cl5.slots[((0 : Int32)).toNatClampNeg]? = some (.int (46 : Int32)) := Ha5.at hin5 rfl
  refine own_go (B := s₁.setTop (mkF m 21 #[.val (.ref tb), .val (.ref t2), .val (.int (0 : Int32))] [(.int (46 : Int32)), (.int (own_b u0))])) (fun t k => ?_) ?_
  · show Steps p.tables e below (s₁.setTop (mkF m 20 #[.val (.ref tb), .val (.ref t2), .val (.int (0 : Int32))] [(.int (0 : Int32)), (.ref t2), (.int (own_b u0))])) _
    refine X0.baloadBytes hx (j := (0 : Int32)) (v := (.int (46 : Int32))) (by rw [e0]; exact Ar5.1) (State.isArrayOf_alike hZ.alike Ar5.2.1) Ar5.2.2 hin5 hat5 (g := (mkF m 20 #[.val (.ref tb), .val (.ref t2), .val (.int (0 : Int32))] [(.int (0 : Int32)), (.ref t2), (.int (own_b u0))])) rfl rfl (hb hby d6_20) _ ?_
    exact k
  by_cases hc21_6 : (own_b u0) = (46 : Int32)
  · refine own_go (B := s₁.setTop (mkF m 11 #[.val (.ref tb), .val (.ref t2), .val (.int (1 : Int32))] [(.ref tb), (.int (1 : Int32))])) (fun t k => ?_) ?_
    · show Steps p.tables e below (s₁.setTop (mkF m 21 #[.val (.ref tb), .val (.ref t2), .val (.int (0 : Int32))] [(.int (46 : Int32)), (.int (own_b u0))])) _
      refine XS.icmpYes X0.here hx rfl (pc0 := 21) (pc' := 26) rfl (hb hby d6_21) rfl (teq hc21_6).1 (by decide) (by decide) ?_
      refine XS.iinc X0.here hx rfl (hb hby d6_26) rfl (l' := #[.val (.ref tb), .val (.ref t2), .val (.int (1 : Int32))]) rfl ?_
      refine XS.goto X0.here hx rfl (pc0 := 29) (pc' := 9) rfl (hb hby d6_29) (by decide) (by decide) ?_
      refine XS.iloadN X0.here hx rfl (hb hby d6_9) rfl ?_
      refine XS.aloadN X0.here hx rfl (hb hby d6_10) rfl rfl ?_
      show Steps p.tables e below (s₁.setTop (mkF m 11 #[.val (.ref tb), .val (.ref t2), .val (.int (1 : Int32))] [(.ref tb), (.int (1 : Int32))])) _
      exact k
    obtain ⟨cl7, Ar7, qa7, Sa7, Na7, Ha7, Ga7⟩ := id V_tb
    refine own_go (B := s₁.setTop (mkF m 33 #[.val (.ref tb), .val (.ref t2), .val (.int (1 : Int32))] [(.int (1 : Int32))])) (fun t k => ?_) ?_
    · show Steps p.tables e below (s₁.setTop (mkF m 11 #[.val (.ref tb), .val (.ref t2), .val (.int (1 : Int32))] [(.ref tb), (.int (1 : Int32))])) _
      refine X0.arraylength hx (by rw [e0]; exact Ar7.1) (State.isArrayOf_alike hZ.alike Ar7.2.1) (g := (mkF m 11 #[.val (.ref tb), .val (.ref t2), .val (.int (1 : Int32))] [(.ref tb), (.int (1 : Int32))])) rfl rfl (hb hby d6_11) _ ?_
      rw [len_of Sa7 Na7]
      refine XS.icmpYes X0.here hx rfl (pc0 := 12) (pc' := 32) rfl (hb hby d6_12) rfl (flt (by decide : ¬ ((1 : Int32) < (1 : Int32)))).2.1 (by decide) (by decide) ?_
      refine XS.iconst X0.here hx rfl (hb hby d6_32) ?_
      exact k
    obtain ⟨fs, hr, hrun, hended, hW, hsame⟩ := X0.leave (v := some (.int (1 : Int32))) (fun h => by rw [Bd.returns] at h; cases h)
    refine own_done (retN X0 hx (t := .boolean) Bd.returns (by simp) (hb hby d6_33) hr) hrun hended ⟨_, _, rfl, ?_, ⟨_, rfl⟩, hW, hsame.mono (by decide) (by decide)⟩
    show Q_rm6_1 Z ([u0] : List UInt16) h0 n0 (some (.int (1 : Int32))) s₁.heap _
    rw [e0]
    exact ⟨_, ⟨rfl, rfl, rfl⟩, ⟨fun q => absurd q (by decide), fun q => (q (own_i1 ((own_b46 (hla u0 (by simp))).1 hc21_6))).elim⟩⟩
  · refine own_go (B := s₁.setTop (mkF m 25 #[.val (.ref tb), .val (.ref t2), .val (.int (0 : Int32))] [(.int (0 : Int32))])) (fun t k => ?_) ?_
    · show Steps p.tables e below (s₁.setTop (mkF m 21 #[.val (.ref tb), .val (.ref t2), .val (.int (0 : Int32))] [(.int (46 : Int32)), (.int (own_b u0))])) _
      refine XS.icmpNo X0.here hx rfl (hb hby d6_21) rfl (feq hc21_6).1 ?_
      refine XS.iconst X0.here hx rfl (hb hby d6_24) ?_
      exact k
    obtain ⟨fs, hr, hrun, hended, hW, hsame⟩ := X0.leave (v := some (.int (0 : Int32))) (fun h => by rw [Bd.returns] at h; cases h)
    refine own_done (retN X0 hx (t := .boolean) Bd.returns (by simp) (hb hby d6_25) hr) hrun hended ⟨_, _, rfl, ?_, ⟨_, rfl⟩, hW, hsame.mono (by decide) (by decide)⟩
    show Q_rm6_1 Z ([u0] : List UInt16) h0 n0 (some (.int (0 : Int32))) s₁.heap _
    rw [e0]
    exact ⟨_, ⟨rfl, rfl, rfl⟩, ⟨fun _ => own_ni1 (fun q => hc21_6 ((own_b46 (hla u0 (by simp))).2 q)), fun _ => rfl⟩⟩
set_option maxRecDepth 65536 in
set_option maxHeartbeats 40000000 in
theorem rm6_1 (l : Launch) (Z : State) (a0 : Array Value) (hw : ∀ d ∈ tables_1, d.before a0 Z = true) (ws : List Jvm.Cond) (tb t2 : Addr) (kb k2 : ClassId) (cs : List UInt16) (nn : Int32) (h0 : Heap) (n0 : Nat) (Z0 : n0 ≤ h0.size) (V_tb : Arv Z h0 tb kb .byte nn (own_lat cs) (.int (0 : Int32))) (V_t2 : Arv Z h0 t2 k2 .byte (1 : Int32) [(.int (46 : Int32))] (.int (0 : Int32))) (hla : ∀ u ∈ cs, ¬ (255 : Int32) < own_w u) (hL : own_L' cs nn) :
    MetFree l (⟨"java/lang/StringLatin1", "equals", "([B[B)Z"⟩ : MethodName) (head1 (Jvm.Cond.code (⟨"java/lang/StringLatin1", "equals", "([B[B)Z"⟩ : MethodName) jdk_43_method_13_code 3 (some .boolean) :: ws) ({ frames := 0, cells := 0, slots := 0, locals := 0 } : Room)) (fun a U => a = #[(.ref tb), (.ref t2)] ∧ Z.Warmed39 U.vm ∧ U.heap = h0) (fun _ _ _ _ _ => True) (fun _ U o U' => ∃ v L, o = .returned v ∧ Q_rm6_1 Z cs h0 n0 v U'.heap L ∧ FrameEnd U o U' L ({ frames := 0, cells := 0, slots := 0, locals := 0 } : Room).cells ({ frames := 0, cells := 0, slots := 0, locals := 0 } : Room).slots) := by
  rcases hL with ⟨rfl, rfl⟩ | ⟨u0, rfl, rfl⟩ | ⟨u0, u1, rfl, rfl⟩ | ⟨u0, u1, u2, rfl, rfl⟩ | ⟨u0, u1, u2, u3, rfl, rfl⟩
  · exact rm6_1n l Z a0 hw ws tb t2 kb k2 _ _ h0 n0 Z0 V_tb V_t2 (by decide) (own_len1 (by simp))
  · exact rm6_1e l Z a0 hw ws tb t2 kb k2 u0 h0 n0 Z0 V_tb V_t2 hla
  · exact rm6_1n l Z a0 hw ws tb t2 kb k2 _ _ h0 n0 Z0 V_tb V_t2 (by decide) (own_len1 (by simp))
  · exact rm6_1n l Z a0 hw ws tb t2 kb k2 _ _ h0 n0 Z0 V_tb V_t2 (by decide) (own_len1 (by simp))
  · exact rm6_1n l Z a0 hw ws tb t2 kb k2 _ _ h0 n0 Z0 V_tb V_t2 (by decide) (own_len1 (by simp))
theorem d5_0 : decode jdk_42_method_66_code 0 = .ok (.aload_n 0, 1) := by decide +kernel
theorem d5_1 : decode jdk_42_method_66_code 1 = .ok (.aload_n 1, 1) := by decide +kernel
theorem d5_2 : decode jdk_42_method_66_code 2 = .ok (.if_acmp .ne 5, 3) := by decide +kernel
theorem d5_5 : decode jdk_42_method_66_code 5 = .ok (.iconst 1, 1) := by decide +kernel
theorem d5_6 : decode jdk_42_method_66_code 6 = .ok (.ireturn, 1) := by decide +kernel
theorem d5_7 : decode jdk_42_method_66_code 7 = .ok (.aload_n 1, 1) := by decide +kernel
theorem d5_8 : decode jdk_42_method_66_code 8 = .ok (.instanceof 10, 3) := by decide +kernel
theorem d5_11 : decode jdk_42_method_66_code 11 = .ok (.ifCond .eq 43, 3) := by decide +kernel
theorem d5_14 : decode jdk_42_method_66_code 14 = .ok (.aload_n 1, 1) := by decide +kernel
theorem d5_15 : decode jdk_42_method_66_code 15 = .ok (.checkcast 10, 3) := by decide +kernel
theorem d5_18 : decode jdk_42_method_66_code 18 = .ok (.astore_n 2, 1) := by decide +kernel
theorem d5_19 : decode jdk_42_method_66_code 19 = .ok (.getstatic 38, 3) := by decide +kernel
theorem d5_22 : decode jdk_42_method_66_code 22 = .ok (.ifCond .eq 14, 3) := by decide +kernel
theorem d5_25 : decode jdk_42_method_66_code 25 = .ok (.aload_n 0, 1) := by decide +kernel
theorem d5_26 : decode jdk_42_method_66_code 26 = .ok (.getfield 15, 3) := by decide +kernel
theorem d5_29 : decode jdk_42_method_66_code 29 = .ok (.aload_n 2, 1) := by decide +kernel
theorem d5_30 : decode jdk_42_method_66_code 30 = .ok (.getfield 15, 3) := by decide +kernel
theorem d5_33 : decode jdk_42_method_66_code 33 = .ok (.if_icmp .ne 21, 3) := by decide +kernel
theorem d5_36 : decode jdk_42_method_66_code 36 = .ok (.aload_n 0, 1) := by decide +kernel
theorem d5_37 : decode jdk_42_method_66_code 37 = .ok (.getfield 9, 3) := by decide +kernel
theorem d5_40 : decode jdk_42_method_66_code 40 = .ok (.aload_n 2, 1) := by decide +kernel
theorem d5_41 : decode jdk_42_method_66_code 41 = .ok (.getfield 9, 3) := by decide +kernel
theorem d5_44 : decode jdk_42_method_66_code 44 = .ok (.invokestatic 541, 3) := by decide +kernel
theorem d5_47 : decode jdk_42_method_66_code 47 = .ok (.ifCond .eq 7, 3) := by decide +kernel
theorem d5_50 : decode jdk_42_method_66_code 50 = .ok (.iconst 1, 1) := by decide +kernel
theorem d5_51 : decode jdk_42_method_66_code 51 = .ok (.goto 4, 3) := by decide +kernel
theorem d5_54 : decode jdk_42_method_66_code 54 = .ok (.iconst 0, 1) := by decide +kernel
theorem d5_55 : decode jdk_42_method_66_code 55 = .ok (.ireturn, 1) := by decide +kernel
theorem ef_rm5_1 (m : MethodId) (x0 : Addr) (x1 : Addr) : entryFrame m #[(.ref x0), (.ref x1)] 3 = mkF m 0 #[.val (.ref x0), .val (.ref x1), .unset] [] := by first | (simp [entryFrame, mkF, argsToLocals, Value.category, maxLocals]; done) | rfl
set_option maxRecDepth 65536 in
set_option maxHeartbeats 40000000 in
theorem rm5_1 (l : Launch) (Z : State) (a0 : Array Value) (hw : ∀ d ∈ tables_1, d.before a0 Z = true) (ws : List Jvm.Cond) (a1 a2 tb t2 : Addr) (kb k2 : ClassId) (cs : List UInt16) (nn cd zz : Int32) (vs : List Value) (h0 : Heap) (n0 : Nat) (Z0 : n0 ≤ h0.size) (E_a1 : Exa Z h0 a1 "java/lang/String") (F_value_a1 : Fld Z h0 a1 "java/lang/String" "value" "[B" (.ref tb)) (F_coder_a1 : Fld Z h0 a1 "java/lang/String" "coder" "B" (.int cd)) (V_tb : Arv Z h0 tb kb .byte zz vs (.int (0 : Int32))) (E_a2 : Exa Z h0 a2 "java/lang/String") (F_value_a2 : Fld Z h0 a2 "java/lang/String" "value" "[B" (.ref t2)) (F_coder_a2 : Fld Z h0 a2 "java/lang/String" "coder" "B" (.int (0 : Int32))) (V_t2 : Arv Z h0 t2 k2 .byte (1 : Int32) [(.int (46 : Int32))] (.int (0 : Int32))) (hE : own_E cs nn cd zz vs) (hSt : own_S Z) (O : Old Z n0 h0) :
    MetFree l (⟨"java/lang/String", "equals", "(Ljava/lang/Object;)Z"⟩ : MethodName) (head1 (Jvm.Cond.code (⟨"java/lang/String", "equals", "(Ljava/lang/Object;)Z"⟩ : MethodName) jdk_42_method_66_code 3 (some .boolean) :: ws) ({ frames := 1, cells := 0, slots := 0, locals := 14 } : Room)) (fun a U => a = #[(.ref a1), (.ref a2)] ∧ Z.Warmed39 U.vm ∧ U.heap = h0) (fun _ _ _ _ _ => True) (fun _ U o U' => ∃ v L, o = .returned v ∧ Q_rm6_1 Z cs h0 n0 v U'.heap L ∧ FrameEnd U o U' L ({ frames := 1, cells := 0, slots := 0, locals := 14 } : Room).cells ({ frames := 1, cells := 0, slots := 0, locals := 14 } : Room).slots) := by
  refine MetFree.of_bodySF (plainFor_of_name pn_5) hisR ?_
  intro p e s m args below meth c s₁ Bd hml0 hP hK
  obtain ⟨rfl, hZ, hh⟩ := hP
  have hx := Bd.exec
  have hby := Bd.bytes
  have hml : c.maxLocals = 3 := hml0
  have hown : s.vm.findClass "java/lang/String" = some m.cls := findClass_of_methodNamed Bd.named
  have hnm := (name_of_methodNamed Bd.named Bd.method).1
  have X0 : Stand p l e ({ frames := 1, cells := 0, slots := 0, locals := 14 } : Room) s m #[(.ref a1), (.ref a2)] below meth c s₁ [] 0 0 := Stand.of_body Bd
  have e0 : s₁.heap = h0 := by rw [← hh, Bd.state]; rfl
  have N0 := Fr.nil n0
  have K : Keep h0 h0 [] := Keep.refl h0 []
  obtain ⟨G1, G3, O2, P5, O4, rG3, SA, SB, SC⟩ := id hSt
  show own_Gd p.tables e below (own_P (Q_rm6_1 Z cs h0 n0) s ({ frames := 1, cells := 0, slots := 0, locals := 14 } : Room).cells ({ frames := 1, cells := 0, slots := 0, locals := 14 } : Room).slots) _
  refine own_go (B := s₁.setTop (mkF m 0 #[.val (.ref a1), .val (.ref a2), .unset] [])) (fun t k => castTop (ef_rm5_1 m a1 a2) k) ?_
  refine own_go (B := s₁.setTop (mkF m 2 #[.val (.ref a1), .val (.ref a2), .unset] [(.ref a2), (.ref a1)])) (fun t k => ?_) ?_
  · show Steps p.tables e below (s₁.setTop (mkF m 0 #[.val (.ref a1), .val (.ref a2), .unset] [])) _
    refine XS.aloadN X0.here hx rfl (hb hby d5_0) rfl rfl ?_
    refine XS.aloadN X0.here hx rfl (hb hby d5_1) rfl rfl ?_
    exact k
  by_cases ha2 : a1 = a2
  · refine own_go (B := s₁.setTop (mkF m 6 #[.val (.ref a1), .val (.ref a2), .unset] [(.int (1 : Int32))])) (fun t k => ?_) ?_
    · show Steps p.tables e below (s₁.setTop (mkF m 2 #[.val (.ref a1), .val (.ref a2), .unset] [(.ref a2), (.ref a1)])) _
      refine Jvm.RoadKit.acmp (g := (mkF m 2 #[.val (.ref a1), .val (.ref a2), .unset] [(.ref a2), (.ref a1)])) X0 hx rfl rfl rfl (pc0 := 2) (pc' := 5) (same := true) rfl (hb hby d5_2) rfl (decide_eq_true (congrArg Value.ref ha2)) (by decide) (by decide) ?_
      refine XS.iconst X0.here hx rfl (hb hby d5_5) ?_
      exact k
    obtain ⟨fs, hr, hrun, hended, hW, hsame⟩ := X0.leave (v := some (.int (1 : Int32))) (fun h => by rw [Bd.returns] at h; cases h)
    refine own_done (retN X0 hx (t := .boolean) Bd.returns (by simp) (hb hby d5_6) hr) hrun hended ⟨_, _, rfl, ?_, ⟨_, rfl⟩, hW, hsame.mono (by decide) (by decide)⟩
    show Q_rm6_1 Z cs h0 n0 (some (.int (1 : Int32))) s₁.heap _
    rw [e0]
    subst ha2
    have q1 : cd = (0 : Int32) := Value.int.inj (own_fldf F_coder_a1 F_coder_a2)
    have q2 : tb = t2 := Value.ref.inj (own_fldf F_value_a1 F_value_a2)
    subst q2
    obtain ⟨q3, q4⟩ := own_arvf V_tb V_t2
    exact ⟨_, ⟨rfl, rfl, rfl⟩, ⟨fun q => absurd q (by decide), fun q => (q (own_Eis1 hE q1 q3 (q4 0 (by decide)))).elim⟩⟩
  · refine own_go (B := s₁.setTop (mkF m 8 #[.val (.ref a1), .val (.ref a2), .unset] [(.ref a2)])) (fun t k => ?_) ?_
    · show Steps p.tables e below (s₁.setTop (mkF m 2 #[.val (.ref a1), .val (.ref a2), .unset] [(.ref a2), (.ref a1)])) _
      refine Jvm.RoadKit.acmp (g := (mkF m 2 #[.val (.ref a1), .val (.ref a2), .unset] [(.ref a2), (.ref a1)])) X0 hx rfl rfl rfl (pc0 := 2) (pc' := 7) (same := false) rfl (hb hby d5_2) rfl (decide_eq_false fun q => ha2 (Value.ref.inj q)) (by decide) (by decide) ?_
      refine XS.aloadN X0.here hx rfl (hb hby d5_7) rfl rfl ?_
      exact k
    obtain ⟨T1, X1, e1, st1⟩ := instY X0 hx hZ hown (hw _ (List.mem_of_getElem? (i := 33) rfl)) e0 (Ins.self E_a2) (g := (mkF m 8 #[.val (.ref a1), .val (.ref a2), .unset] [(.ref a2)])) rfl rfl (hb hby d5_8)
    refine own_go (B := T1.setTop (mkF m 11 #[.val (.ref a1), .val (.ref a2), .unset] [(.int (1 : Int32))])) st1 ?_
    refine own_go (B := T1.setTop (mkF m 15 #[.val (.ref a1), .val (.ref a2), .unset] [(.ref a2)])) (fun t k => ?_) ?_
    · show Steps p.tables e below (T1.setTop (mkF m 11 #[.val (.ref a1), .val (.ref a2), .unset] [(.int (1 : Int32))])) _
      refine XS.ifNo X1.here hx rfl (hb hby d5_11) rfl ((if0 _ _).trans (feq (by decide : ¬ ((1 : Int32) = (0 : Int32)))).1) ?_
      refine XS.aloadN X1.here hx rfl (hb hby d5_14) rfl rfl ?_
      exact k
    obtain ⟨T2, X2, e2, st2⟩ := castY X1 hx hZ hown (hw _ (List.mem_of_getElem? (i := 33) rfl)) e1 (Ins.self E_a2) (g := (mkF m 15 #[.val (.ref a1), .val (.ref a2), .unset] [(.ref a2)])) rfl rfl (hb hby d5_15)
    refine own_go (B := T2.setTop (mkF m 18 #[.val (.ref a1), .val (.ref a2), .unset] [(.ref a2)])) st2 ?_
    refine own_go (B := T2.setTop (mkF m 19 #[.val (.ref a1), .val (.ref a2), .val (.ref a2)] [])) (fun t k => ?_) ?_
    · show Steps p.tables e below (T2.setTop (mkF m 18 #[.val (.ref a1), .val (.ref a2), .unset] [(.ref a2)])) _
      refine XS.astoreN X2.here hx rfl (hb hby d5_18) rfl rfl (l' := #[.val (.ref a1), .val (.ref a2), .val (.ref a2)]) rfl ?_
      exact k
    obtain ⟨T3, X3, e3, st3⟩ := getS2 X2 hx hZ hown (host := "") (Or.inl (hw _ (List.mem_of_getElem? (i := 34) rfl))) Via.refl e2 (O2.ext O.2) (g := (mkF m 19 #[.val (.ref a1), .val (.ref a2), .val (.ref a2)] [])) rfl (hb hby d5_19)
    refine own_go (B := T3.setTop (mkF m 22 #[.val (.ref a1), .val (.ref a2), .val (.ref a2)] [(.int G1)])) st3 ?_
    refine own_go (B := T3.setTop (mkF m 26 #[.val (.ref a1), .val (.ref a2), .val (.ref a2)] [(.ref a1)])) (fun t k => ?_) ?_
    · show Steps p.tables e below (T3.setTop (mkF m 22 #[.val (.ref a1), .val (.ref a2), .val (.ref a2)] [(.int G1)])) _
      refine XS.ifNo X3.here hx rfl (hb hby d5_22) rfl ((if0 _ _).trans (feq (P5 : ¬ (G1 = (0 : Int32)))).1) ?_
      refine XS.aloadN X3.here hx rfl (hb hby d5_25) rfl rfl ?_
      exact k
    obtain ⟨T4, X4, e4, st4⟩ := getF X3 hx hZ hown (host := "") (Or.inl (hw _ (List.mem_of_getElem? (i := 22) rfl))) Via.refl e3 F_coder_a1 (g := (mkF m 26 #[.val (.ref a1), .val (.ref a2), .val (.ref a2)] [(.ref a1)])) rfl rfl (hb hby d5_26)
    refine own_go (B := T4.setTop (mkF m 29 #[.val (.ref a1), .val (.ref a2), .val (.ref a2)] [(.int cd)])) st4 ?_
    refine own_go (B := T4.setTop (mkF m 30 #[.val (.ref a1), .val (.ref a2), .val (.ref a2)] [(.ref a2), (.int cd)])) (fun t k => ?_) ?_
    · show Steps p.tables e below (T4.setTop (mkF m 29 #[.val (.ref a1), .val (.ref a2), .val (.ref a2)] [(.int cd)])) _
      refine XS.aloadN X4.here hx rfl (hb hby d5_29) rfl rfl ?_
      exact k
    obtain ⟨T5, X5, e5, st5⟩ := getF X4 hx hZ hown (host := "") (Or.inl (hw _ (List.mem_of_getElem? (i := 22) rfl))) Via.refl e4 F_coder_a2 (g := (mkF m 30 #[.val (.ref a1), .val (.ref a2), .val (.ref a2)] [(.ref a2), (.int cd)])) rfl rfl (hb hby d5_30)
    refine own_go (B := T5.setTop (mkF m 33 #[.val (.ref a1), .val (.ref a2), .val (.ref a2)] [(.int (0 : Int32)), (.int cd)])) st5 ?_
    by_cases hc33 : cd = (0 : Int32)
    · refine own_go (B := T5.setTop (mkF m 36 #[.val (.ref a1), .val (.ref a2), .val (.ref a2)] [])) (fun t k => ?_) ?_
      · show Steps p.tables e below (T5.setTop (mkF m 33 #[.val (.ref a1), .val (.ref a2), .val (.ref a2)] [(.int (0 : Int32)), (.int cd)])) _
        refine XS.icmpNo X5.here hx rfl (hb hby d5_33) rfl (teq hc33).2 ?_
        exact k
      obtain ⟨hla, hzn, hvs, hL⟩ := own_El hE hc33
      subst hzn hvs
      refine own_go (B := T5.setTop (mkF m 37 #[.val (.ref a1), .val (.ref a2), .val (.ref a2)] [(.ref a1)])) (fun t k => ?_) ?_
      · show Steps p.tables e below (T5.setTop (mkF m 36 #[.val (.ref a1), .val (.ref a2), .val (.ref a2)] [])) _
        refine XS.aloadN X5.here hx rfl (hb hby d5_36) rfl rfl ?_
        exact k
      obtain ⟨T6, X6, e6, st6⟩ := getF X5 hx hZ hown (host := "") (Or.inl (hw _ (List.mem_of_getElem? (i := 21) rfl))) Via.refl e5 F_value_a1 (g := (mkF m 37 #[.val (.ref a1), .val (.ref a2), .val (.ref a2)] [(.ref a1)])) rfl rfl (hb hby d5_37)
      refine own_go (B := T6.setTop (mkF m 40 #[.val (.ref a1), .val (.ref a2), .val (.ref a2)] [(.ref tb)])) st6 ?_
      refine own_go (B := T6.setTop (mkF m 41 #[.val (.ref a1), .val (.ref a2), .val (.ref a2)] [(.ref a2), (.ref tb)])) (fun t k => ?_) ?_
      · show Steps p.tables e below (T6.setTop (mkF m 40 #[.val (.ref a1), .val (.ref a2), .val (.ref a2)] [(.ref tb)])) _
        refine XS.aloadN X6.here hx rfl (hb hby d5_40) rfl rfl ?_
        exact k
      obtain ⟨T7, X7, e7, st7⟩ := getF X6 hx hZ hown (host := "") (Or.inl (hw _ (List.mem_of_getElem? (i := 21) rfl))) Via.refl e6 F_value_a2 (g := (mkF m 41 #[.val (.ref a1), .val (.ref a2), .val (.ref a2)] [(.ref a2), (.ref tb)])) rfl rfl (hb hby d5_41)
      refine own_go (B := T7.setTop (mkF m 44 #[.val (.ref a1), .val (.ref a2), .val (.ref a2)] [(.ref t2), (.ref tb)])) st7 ?_
      obtain ⟨_, _, ⟨T8, L8, k8, n8⟩, -, X8, ⟨Lc8, hQ8, l8, y8, z8⟩, st8⟩ := Jvm.LawKit.callS X7 hx (y := (⟨"java/lang/StringLatin1", "equals", "([B[B)Z"⟩ : MethodName)) hown (mvT hZ (hw _ (List.mem_of_getElem? (i := 35) rfl))) (mvT hZ (hw _ (List.mem_of_getElem? (i := 36) rfl))) (mvT hZ (hw _ (List.mem_of_getElem? (i := 37) rfl))) (mvT hZ (hw _ (List.mem_of_getElem? (i := 38) rfl))) (by decide) (backOf (W := 0) (rm6_1 l Z a0 hw [] tb t2 kb k2 _ _ h0 n0 Z0 V_tb V_t2 hla hL) hZ (hw _ (List.mem_of_getElem? (i := 38) rfl)) (hw _ (List.mem_of_getElem? (i := 37) rfl)) (by decide) (by decide)) (g := (mkF m 44 #[.val (.ref a1), .val (.ref a2), .val (.ref a2)] [(.ref t2), (.ref tb)])) rfl (by rw [hml]; rfl) (argsL := [(.ref tb), (.ref t2)]) (rest := []) (lenOf pd_18 rfl) rfl (by show 2 * 0 + _ ≤ _; exact Nat.le_of_eq rfl) (hb hby d5_44) (fun _ _ => ⟨rfl, e7, Nat.le_of_ble_eq_true rfl, Nat.le_of_ble_eq_true rfl⟩)
      dsimp only [Pt.U, Pt.locs, Pt.cells, Pt.slots] at X8 l8 y8 z8 st8 hQ8
      subst l8 y8 z8
      obtain ⟨h8, e8⟩ : ∃ z, T8.heap = z := ⟨_, rfl⟩
      rw [e8] at hQ8
      obtain ⟨r8, ⟨rfl, hL8, eq8⟩, hp8⟩ := hQ8
      subst hL8
      have N8 := Fr.app N0 (Fr.nil n0)
      rw [eq8] at e8
      refine own_go (B := T8.setTop (mkF m 47 #[.val (.ref a1), .val (.ref a2), .val (.ref a2)] [(.int r8)])) st8 ?_
      by_cases hc47 : r8 = (0 : Int32)
      · refine own_go (B := T8.setTop (mkF m 55 #[.val (.ref a1), .val (.ref a2), .val (.ref a2)] [(.int (0 : Int32))])) (fun t k => ?_) ?_
        · show Steps p.tables e below (T8.setTop (mkF m 47 #[.val (.ref a1), .val (.ref a2), .val (.ref a2)] [(.int r8)])) _
          refine XS.ifYes X8.here hx rfl (pc0 := 47) (pc' := 54) rfl (hb hby d5_47) rfl ((if0 _ _).trans (teq hc47).1) (by decide) (by decide) ?_
          refine XS.iconst X8.here hx rfl (hb hby d5_54) ?_
          exact k
        obtain ⟨fs, hr, hrun, hended, hW, hsame⟩ := X8.leave (v := some (.int (0 : Int32))) (fun h => by rw [Bd.returns] at h; cases h)
        refine own_done (retN X8 hx (t := .boolean) Bd.returns (by simp) (hb hby d5_55) hr) hrun hended ⟨_, _, rfl, ?_, ⟨_, rfl⟩, hW, hsame.mono (by decide) (by decide)⟩
        show Q_rm6_1 Z cs h0 n0 (some (.int (0 : Int32))) T8.heap _
        rw [e8]
        exact ⟨_, ⟨rfl, rfl, rfl⟩, ⟨fun _ => hp8.1 hc47, fun _ => rfl⟩⟩
      · refine own_go (B := T8.setTop (mkF m 55 #[.val (.ref a1), .val (.ref a2), .val (.ref a2)] [(.int (1 : Int32))])) (fun t k => ?_) ?_
        · show Steps p.tables e below (T8.setTop (mkF m 47 #[.val (.ref a1), .val (.ref a2), .val (.ref a2)] [(.int r8)])) _
          refine XS.ifNo X8.here hx rfl (hb hby d5_47) rfl ((if0 _ _).trans (feq hc47).1) ?_
          refine XS.iconst X8.here hx rfl (hb hby d5_50) ?_
          refine XS.goto X8.here hx rfl (pc0 := 51) (pc' := 55) rfl (hb hby d5_51) (by decide) (by decide) ?_
          exact k
        obtain ⟨fs, hr, hrun, hended, hW, hsame⟩ := X8.leave (v := some (.int (1 : Int32))) (fun h => by rw [Bd.returns] at h; cases h)
        refine own_done (retN X8 hx (t := .boolean) Bd.returns (by simp) (hb hby d5_55) hr) hrun hended ⟨_, _, rfl, ?_, ⟨_, rfl⟩, hW, hsame.mono (by decide) (by decide)⟩
        show Q_rm6_1 Z cs h0 n0 (some (.int (1 : Int32))) T8.heap _
        rw [e8]
        exact ⟨_, ⟨rfl, rfl, rfl⟩, ⟨fun q => absurd q (by decide), fun q => absurd (hp8.2 q) hc47⟩⟩
    · refine own_go (B := T5.setTop (mkF m 55 #[.val (.ref a1), .val (.ref a2), .val (.ref a2)] [(.int (0 : Int32))])) (fun t k => ?_) ?_
      · show Steps p.tables e below (T5.setTop (mkF m 33 #[.val (.ref a1), .val (.ref a2), .val (.ref a2)] [(.int (0 : Int32)), (.int cd)])) _
        refine XS.icmpYes X5.here hx rfl (pc0 := 33) (pc' := 54) rfl (hb hby d5_33) rfl (feq hc33).2 (by decide) (by decide) ?_
        refine XS.iconst X5.here hx rfl (hb hby d5_54) ?_
        exact k
      obtain ⟨fs, hr, hrun, hended, hW, hsame⟩ := X5.leave (v := some (.int (0 : Int32))) (fun h => by rw [Bd.returns] at h; cases h)
      refine own_done (retN X5 hx (t := .boolean) Bd.returns (by simp) (hb hby d5_55) hr) hrun hended ⟨_, _, rfl, ?_, ⟨_, rfl⟩, hW, hsame.mono (by decide) (by decide)⟩
      show Q_rm6_1 Z cs h0 n0 (some (.int (0 : Int32))) T5.heap _
      rw [e5]
      exact ⟨_, ⟨rfl, rfl, rfl⟩, ⟨fun _ => (own_Ew hE hc33).1, fun _ => rfl⟩⟩
def Q_rm6_2 (Z : State) (cs : List UInt16) (h0 : Heap) (n0 : Nat) (v : Option Value) (h : Heap) (L : List Loc) : Prop := ∃ r, (v = some (.int r) ∧ L = [] ∧ h = h0) ∧ (r = (0 : Int32) ↔ ¬ own_is2 cs)
theorem ef_rm6_2n (m : MethodId) (x0 : Addr) (x1 : Addr) : entryFrame m #[(.ref x0), (.ref x1)] 3 = mkF m 0 #[.val (.ref x0), .val (.ref x1), .unset] [] := by first | (simp [entryFrame, mkF, argsToLocals, Value.category, maxLocals]; done) | rfl
set_option maxRecDepth 65536 in
set_option maxHeartbeats 40000000 in
theorem rm6_2n (l : Launch) (Z : State) (a0 : Array Value) (hw : ∀ d ∈ tables_1, d.before a0 Z = true) (ws : List Jvm.Cond) (tb t2 : Addr) (kb k2 : ClassId) (cs : List UInt16) (nn : Int32) (h0 : Heap) (n0 : Nat) (Z0 : n0 ≤ h0.size) (V_tb : Arv Z h0 tb kb .byte nn (own_lat cs) (.int (0 : Int32))) (V_t2 : Arv Z h0 t2 k2 .byte (2 : Int32) [(.int (46 : Int32)), (.int (46 : Int32))] (.int (0 : Int32))) (hne : ¬ nn = (2 : Int32)) (hni : ¬ own_is2 cs) :
    MetFree l (⟨"java/lang/StringLatin1", "equals", "([B[B)Z"⟩ : MethodName) (head1 (Jvm.Cond.code (⟨"java/lang/StringLatin1", "equals", "([B[B)Z"⟩ : MethodName) jdk_43_method_13_code 3 (some .boolean) :: ws) ({ frames := 0, cells := 0, slots := 0, locals := 0 } : Room)) (fun a U => a = #[(.ref tb), (.ref t2)] ∧ Z.Warmed39 U.vm ∧ U.heap = h0) (fun _ _ _ _ _ => True) (fun _ U o U' => ∃ v L, o = .returned v ∧ Q_rm6_2 Z cs h0 n0 v U'.heap L ∧ FrameEnd U o U' L ({ frames := 0, cells := 0, slots := 0, locals := 0 } : Room).cells ({ frames := 0, cells := 0, slots := 0, locals := 0 } : Room).slots) := by
  refine MetFree.of_bodySF (plainFor_of_name pn_6) hisR ?_
  intro p e s m args below meth c s₁ Bd hml0 hP hK
  obtain ⟨rfl, hZ, hh⟩ := hP
  have hx := Bd.exec
  have hby := Bd.bytes
  have hml : c.maxLocals = 3 := hml0
  have hown : s.vm.findClass "java/lang/StringLatin1" = some m.cls := findClass_of_methodNamed Bd.named
  have hnm := (name_of_methodNamed Bd.named Bd.method).1
  have X0 : Stand p l e ({ frames := 0, cells := 0, slots := 0, locals := 0 } : Room) s m #[(.ref tb), (.ref t2)] below meth c s₁ [] 0 0 := Stand.of_body Bd
  have e0 : s₁.heap = h0 := by rw [← hh, Bd.state]; rfl
  have N0 := Fr.nil n0
  have K : Keep h0 h0 [] := Keep.refl h0 []
  show own_Gd p.tables e below (own_P (Q_rm6_2 Z cs h0 n0) s ({ frames := 0, cells := 0, slots := 0, locals := 0 } : Room).cells ({ frames := 0, cells := 0, slots := 0, locals := 0 } : Room).slots) _
  refine own_go (B := s₁.setTop (mkF m 0 #[.val (.ref tb), .val (.ref t2), .unset] [])) (fun t k => castTop (ef_rm6_2n m tb t2) k) ?_
  refine own_go (B := s₁.setTop (mkF m 1 #[.val (.ref tb), .val (.ref t2), .unset] [(.ref tb)])) (fun t k => ?_) ?_
  · show Steps p.tables e below (s₁.setTop (mkF m 0 #[.val (.ref tb), .val (.ref t2), .unset] [])) _
    refine XS.aloadN X0.here hx rfl (hb hby d6_0) rfl rfl ?_
    exact k
  obtain ⟨cl1, Ar1, qa1, Sa1, Na1, Ha1, Ga1⟩ := id V_tb
  refine own_go (B := s₁.setTop (mkF m 3 #[.val (.ref tb), .val (.ref t2), .unset] [(.ref t2), (.int nn)])) (fun t k => ?_) ?_
  · show Steps p.tables e below (s₁.setTop (mkF m 1 #[.val (.ref tb), .val (.ref t2), .unset] [(.ref tb)])) _
    refine X0.arraylength hx (by rw [e0]; exact Ar1.1) (State.isArrayOf_alike hZ.alike Ar1.2.1) (g := (mkF m 1 #[.val (.ref tb), .val (.ref t2), .unset] [(.ref tb)])) rfl rfl (hb hby d6_1) _ ?_
    rw [len_of Sa1 Na1]
    refine XS.aloadN X0.here hx rfl (hb hby d6_2) rfl rfl ?_
    exact k
  obtain ⟨cl2, Ar2, qa2, Sa2, Na2, Ha2, Ga2⟩ := id V_t2
  refine own_go (B := s₁.setTop (mkF m 35 #[.val (.ref tb), .val (.ref t2), .unset] [(.int (0 : Int32))])) (fun t k => ?_) ?_
  · show Steps p.tables e below (s₁.setTop (mkF m 3 #[.val (.ref tb), .val (.ref t2), .unset] [(.ref t2), (.int nn)])) _
    refine X0.arraylength hx (by rw [e0]; exact Ar2.1) (State.isArrayOf_alike hZ.alike Ar2.2.1) (g := (mkF m 3 #[.val (.ref tb), .val (.ref t2), .unset] [(.ref t2), (.int nn)])) rfl rfl (hb hby d6_3) _ ?_
    rw [len_of Sa2 Na2]
    refine XS.icmpYes X0.here hx rfl (pc0 := 4) (pc' := 34) rfl (hb hby d6_4) rfl (feq (hne : ¬ (nn = (2 : Int32)))).2 (by decide) (by decide) ?_
    refine XS.iconst X0.here hx rfl (hb hby d6_34) ?_
    exact k
  obtain ⟨fs, hr, hrun, hended, hW, hsame⟩ := X0.leave (v := some (.int (0 : Int32))) (fun h => by rw [Bd.returns] at h; cases h)
  refine own_done (retN X0 hx (t := .boolean) Bd.returns (by simp) (hb hby d6_35) hr) hrun hended ⟨_, _, rfl, ?_, ⟨_, rfl⟩, hW, hsame.mono (by decide) (by decide)⟩
  show Q_rm6_2 Z cs h0 n0 (some (.int (0 : Int32))) s₁.heap _
  rw [e0]
  exact ⟨_, ⟨rfl, rfl, rfl⟩, ⟨fun _ => hni, fun _ => rfl⟩⟩
theorem ef_rm6_2e (m : MethodId) (x0 : Addr) (x1 : Addr) : entryFrame m #[(.ref x0), (.ref x1)] 3 = mkF m 0 #[.val (.ref x0), .val (.ref x1), .unset] [] := by first | (simp [entryFrame, mkF, argsToLocals, Value.category, maxLocals]; done) | rfl
set_option maxRecDepth 65536 in
set_option maxHeartbeats 40000000 in
theorem rm6_2e (l : Launch) (Z : State) (a0 : Array Value) (hw : ∀ d ∈ tables_1, d.before a0 Z = true) (ws : List Jvm.Cond) (tb t2 : Addr) (kb k2 : ClassId) (u0 u1 : UInt16) (h0 : Heap) (n0 : Nat) (Z0 : n0 ≤ h0.size) (V_tb : Arv Z h0 tb kb .byte (2 : Int32) [(.int (own_b u0)), (.int (own_b u1))] (.int (0 : Int32))) (V_t2 : Arv Z h0 t2 k2 .byte (2 : Int32) [(.int (46 : Int32)), (.int (46 : Int32))] (.int (0 : Int32))) (hla : ∀ u ∈ ([u0, u1] : List UInt16), ¬ (255 : Int32) < own_w u) :
    MetFree l (⟨"java/lang/StringLatin1", "equals", "([B[B)Z"⟩ : MethodName) (head1 (Jvm.Cond.code (⟨"java/lang/StringLatin1", "equals", "([B[B)Z"⟩ : MethodName) jdk_43_method_13_code 3 (some .boolean) :: ws) ({ frames := 0, cells := 0, slots := 0, locals := 0 } : Room)) (fun a U => a = #[(.ref tb), (.ref t2)] ∧ Z.Warmed39 U.vm ∧ U.heap = h0) (fun _ _ _ _ _ => True) (fun _ U o U' => ∃ v L, o = .returned v ∧ Q_rm6_2 Z ([u0, u1] : List UInt16) h0 n0 v U'.heap L ∧ FrameEnd U o U' L ({ frames := 0, cells := 0, slots := 0, locals := 0 } : Room).cells ({ frames := 0, cells := 0, slots := 0, locals := 0 } : Room).slots) := by
  refine MetFree.of_bodySF (plainFor_of_name pn_6) hisR ?_
  intro p e s m args below meth c s₁ Bd hml0 hP hK
  obtain ⟨rfl, hZ, hh⟩ := hP
  have hx := Bd.exec
  have hby := Bd.bytes
  have hml : c.maxLocals = 3 := hml0
  have hown : s.vm.findClass "java/lang/StringLatin1" = some m.cls := findClass_of_methodNamed Bd.named
  have hnm := (name_of_methodNamed Bd.named Bd.method).1
  have X0 : Stand p l e ({ frames := 0, cells := 0, slots := 0, locals := 0 } : Room) s m #[(.ref tb), (.ref t2)] below meth c s₁ [] 0 0 := Stand.of_body Bd
  have e0 : s₁.heap = h0 := by rw [← hh, Bd.state]; rfl
  have N0 := Fr.nil n0
  have K : Keep h0 h0 [] := Keep.refl h0 []
  show own_Gd p.tables e below (own_P (Q_rm6_2 Z ([u0, u1] : List UInt16) h0 n0) s ({ frames := 0, cells := 0, slots := 0, locals := 0 } : Room).cells ({ frames := 0, cells := 0, slots := 0, locals := 0 } : Room).slots) _
  refine own_go (B := s₁.setTop (mkF m 0 #[.val (.ref tb), .val (.ref t2), .unset] [])) (fun t k => castTop (ef_rm6_2e m tb t2) k) ?_
  refine own_go (B := s₁.setTop (mkF m 1 #[.val (.ref tb), .val (.ref t2), .unset] [(.ref tb)])) (fun t k => ?_) ?_
  · show Steps p.tables e below (s₁.setTop (mkF m 0 #[.val (.ref tb), .val (.ref t2), .unset] [])) _
    refine XS.aloadN X0.here hx rfl (hb hby d6_0) rfl rfl ?_
    exact k
  obtain ⟨cl1, Ar1, qa1, Sa1, Na1, Ha1, Ga1⟩ := id V_tb
  refine own_go (B := s₁.setTop (mkF m 3 #[.val (.ref tb), .val (.ref t2), .unset] [(.ref t2), (.int (2 : Int32))])) (fun t k => ?_) ?_
  · show Steps p.tables e below (s₁.setTop (mkF m 1 #[.val (.ref tb), .val (.ref t2), .unset] [(.ref tb)])) _
    refine X0.arraylength hx (by rw [e0]; exact Ar1.1) (State.isArrayOf_alike hZ.alike Ar1.2.1) (g := (mkF m 1 #[.val (.ref tb), .val (.ref t2), .unset] [(.ref tb)])) rfl rfl (hb hby d6_1) _ ?_
    rw [len_of Sa1 Na1]
    refine XS.aloadN X0.here hx rfl (hb hby d6_2) rfl rfl ?_
    exact k
  obtain ⟨cl2, Ar2, qa2, Sa2, Na2, Ha2, Ga2⟩ := id V_t2
  refine own_go (B := s₁.setTop (mkF m 11 #[.val (.ref tb), .val (.ref t2), .val (.int (0 : Int32))] [(.ref tb), (.int (0 : Int32))])) (fun t k => ?_) ?_
  · show Steps p.tables e below (s₁.setTop (mkF m 3 #[.val (.ref tb), .val (.ref t2), .unset] [(.ref t2), (.int (2 : Int32))])) _
    refine X0.arraylength hx (by rw [e0]; exact Ar2.1) (State.isArrayOf_alike hZ.alike Ar2.2.1) (g := (mkF m 3 #[.val (.ref tb), .val (.ref t2), .unset] [(.ref t2), (.int (2 : Int32))])) rfl rfl (hb hby d6_3) _ ?_
    rw [len_of Sa2 Na2]
    refine XS.icmpNo X0.here hx rfl (hb hby d6_4) rfl (teq ((rfl : (2 : Int32) = (2 : Int32)) : (2 : Int32) = (2 : Int32))).2 ?_
    refine XS.iconst X0.here hx rfl (hb hby d6_7) ?_
    refine XS.istoreN X0.here hx rfl (hb hby d6_8) rfl (l' := #[.val (.ref tb), .val (.ref t2), .val (.int (0 : Int32))]) rfl ?_
    show Steps p.tables e below (s₁.setTop (mkF m 9 #[.val (.ref tb), .val (.ref t2), .val (.int (0 : Int32))] [])) _
    refine XS.iloadN X0.here hx rfl (hb hby d6_9) rfl ?_
    refine XS.aloadN X0.here hx rfl (hb hby d6_10) rfl rfl ?_
    exact k
  obtain ⟨cl3, Ar3, qa3, Sa3, Na3, Ha3, Ga3⟩ := id V_tb
  refine own_go (B := s₁.setTop (mkF m 17 #[.val (.ref tb), .val (.ref t2), .val (.int (0 : Int32))] [(.int (0 : Int32)), (.ref tb)])) (fun t k => ?_) ?_
  · show Steps p.tables e below (s₁.setTop (mkF m 11 #[.val (.ref tb), .val (.ref t2), .val (.int (0 : Int32))] [(.ref tb), (.int (0 : Int32))])) _
    refine X0.arraylength hx (by rw [e0]; exact Ar3.1) (State.isArrayOf_alike hZ.alike Ar3.2.1) (g := (mkF m 11 #[.val (.ref tb), .val (.ref t2), .val (.int (0 : Int32))] [(.ref tb), (.int (0 : Int32))])) rfl rfl (hb hby d6_11) _ ?_
    rw [len_of Sa3 Na3]
    refine XS.icmpNo X0.here hx rfl (hb hby d6_12) rfl (tlt (by decide : (0 : Int32) < (2 : Int32))).2.1 ?_
    refine XS.aloadN X0.here hx rfl (hb hby d6_15) rfl rfl ?_
    refine XS.iloadN X0.here hx rfl (hb hby d6_16) rfl ?_
    show Steps p.tables e below (s₁.setTop (mkF m 17 #[.val (.ref tb), .val (.ref t2), .val (.int (0 : Int32))] [(.int (0 : Int32)), (.ref tb)])) _
    exact k
  obtain ⟨cl4, Ar4, qa4, Sa4, Na4, Ha4, Ga4⟩ := id V_tb
  have hin4 : ¬ ((0 : Int32) < 0 ∨ cl4.slots.size ≤ ((0 : Int32)).toNatClampNeg) := inb_of Sa4 ⟨by decide, by decide⟩
  have hat4 : cl4.slots[((0 : Int32)).toNatClampNeg]? = some (.int (own_b u0)) := Ha4.at hin4 rfl
  refine own_go (B := s₁.setTop (mkF m 20 #[.val (.ref tb), .val (.ref t2), .val (.int (0 : Int32))] [(.int (0 : Int32)), (.ref t2), (.int (own_b u0))])) (fun t k => ?_) ?_
  · show Steps p.tables e below (s₁.setTop (mkF m 17 #[.val (.ref tb), .val (.ref t2), .val (.int (0 : Int32))] [(.int (0 : Int32)), (.ref tb)])) _
    refine X0.baloadBytes hx (j := (0 : Int32)) (v := (.int (own_b u0))) (by rw [e0]; exact Ar4.1) (State.isArrayOf_alike hZ.alike Ar4.2.1) Ar4.2.2 hin4 hat4 (g := (mkF m 17 #[.val (.ref tb), .val (.ref t2), .val (.int (0 : Int32))] [(.int (0 : Int32)), (.ref tb)])) rfl rfl (hb hby d6_17) _ ?_
    refine XS.aloadN X0.here hx rfl (hb hby d6_18) rfl rfl ?_
    refine XS.iloadN X0.here hx rfl (hb hby d6_19) rfl ?_
    exact k
  obtain ⟨cl5, Ar5, qa5, Sa5, Na5, Ha5, Ga5⟩ := id V_t2
  have hin5 : ¬ ((0 : Int32) < 0 ∨ cl5.slots.size ≤ ((0 : Int32)).toNatClampNeg) := inb_of Sa5 ⟨by decide, by decide⟩
  have hat5 : cl5.slots[((0 : Int32)).toNatClampNeg]? = some (.int (46 : Int32)) := Ha5.at hin5 rfl
  refine own_go (B := s₁.setTop (mkF m 21 #[.val (.ref tb), .val (.ref t2), .val (.int (0 : Int32))] [(.int (46 : Int32)), (.int (own_b u0))])) (fun t k => ?_) ?_
  · show Steps p.tables e below (s₁.setTop (mkF m 20 #[.val (.ref tb), .val (.ref t2), .val (.int (0 : Int32))] [(.int (0 : Int32)), (.ref t2), (.int (own_b u0))])) _
    refine X0.baloadBytes hx (j := (0 : Int32)) (v := (.int (46 : Int32))) (by rw [e0]; exact Ar5.1) (State.isArrayOf_alike hZ.alike Ar5.2.1) Ar5.2.2 hin5 hat5 (g := (mkF m 20 #[.val (.ref tb), .val (.ref t2), .val (.int (0 : Int32))] [(.int (0 : Int32)), (.ref t2), (.int (own_b u0))])) rfl rfl (hb hby d6_20) _ ?_
    exact k
  by_cases hc21_6 : (own_b u0) = (46 : Int32)
  · refine own_go (B := s₁.setTop (mkF m 11 #[.val (.ref tb), .val (.ref t2), .val (.int (1 : Int32))] [(.ref tb), (.int (1 : Int32))])) (fun t k => ?_) ?_
    · show Steps p.tables e below (s₁.setTop (mkF m 21 #[.val (.ref tb), .val (.ref t2), .val (.int (0 : Int32))] [(.int (46 : Int32)), (.int (own_b u0))])) _
      refine XS.icmpYes X0.here hx rfl (pc0 := 21) (pc' := 26) rfl (hb hby d6_21) rfl (teq hc21_6).1 (by decide) (by decide) ?_
      refine XS.iinc X0.here hx rfl (hb hby d6_26) rfl (l' := #[.val (.ref tb), .val (.ref t2), .val (.int (1 : Int32))]) rfl ?_
      refine XS.goto X0.here hx rfl (pc0 := 29) (pc' := 9) rfl (hb hby d6_29) (by decide) (by decide) ?_
      refine XS.iloadN X0.here hx rfl (hb hby d6_9) rfl ?_
      refine XS.aloadN X0.here hx rfl (hb hby d6_10) rfl rfl ?_
      show Steps p.tables e below (s₁.setTop (mkF m 11 #[.val (.ref tb), .val (.ref t2), .val (.int (1 : Int32))] [(.ref tb), (.int (1 : Int32))])) _
      exact k
    obtain ⟨cl7, Ar7, qa7, Sa7, Na7, Ha7, Ga7⟩ := id V_tb
    refine own_go (B := s₁.setTop (mkF m 17 #[.val (.ref tb), .val (.ref t2), .val (.int (1 : Int32))] [(.int (1 : Int32)), (.ref tb)])) (fun t k => ?_) ?_
    · show Steps p.tables e below (s₁.setTop (mkF m 11 #[.val (.ref tb), .val (.ref t2), .val (.int (1 : Int32))] [(.ref tb), (.int (1 : Int32))])) _
      refine X0.arraylength hx (by rw [e0]; exact Ar7.1) (State.isArrayOf_alike hZ.alike Ar7.2.1) (g := (mkF m 11 #[.val (.ref tb), .val (.ref t2), .val (.int (1 : Int32))] [(.ref tb), (.int (1 : Int32))])) rfl rfl (hb hby d6_11) _ ?_
      rw [len_of Sa7 Na7]
      refine XS.icmpNo X0.here hx rfl (hb hby d6_12) rfl (tlt (by decide : (1 : Int32) < (2 : Int32))).2.1 ?_
      refine XS.aloadN X0.here hx rfl (hb hby d6_15) rfl rfl ?_
      refine XS.iloadN X0.here hx rfl (hb hby d6_16) rfl ?_
      show Steps p.tables e below (s₁.setTop (mkF m 17 #[.val (.ref tb), .val (.ref t2), .val (.int (1 : Int32))] [(.int (1 : Int32)), (.ref tb)])) _
      exact k
    obtain ⟨cl8, Ar8, qa8, Sa8, Na8, Ha8, Ga8⟩ := id V_tb
    have hin8 : ¬ ((1 : Int32) < 0 ∨ cl8.slots.size ≤ ((1 : Int32)).toNatClampNeg) := inb_of Sa8 ⟨by decide, by decide⟩
    have hat8 : cl8.slots[((1 : Int32)).toNatClampNeg]? = some (.int (own_b u1)) := Ha8.at hin8 rfl
    refine own_go (B := s₁.setTop (mkF m 20 #[.val (.ref tb), .val (.ref t2), .val (.int (1 : Int32))] [(.int (1 : Int32)), (.ref t2), (.int (own_b u1))])) (fun t k => ?_) ?_
    · show Steps p.tables e below (s₁.setTop (mkF m 17 #[.val (.ref tb), .val (.ref t2), .val (.int (1 : Int32))] [(.int (1 : Int32)), (.ref tb)])) _
      refine X0.baloadBytes hx (j := (1 : Int32)) (v := (.int (own_b u1))) (by rw [e0]; exact Ar8.1) (State.isArrayOf_alike hZ.alike Ar8.2.1) Ar8.2.2 hin8 hat8 (g := (mkF m 17 #[.val (.ref tb), .val (.ref t2), .val (.int (1 : Int32))] [(.int (1 : Int32)), (.ref tb)])) rfl rfl (hb hby d6_17) _ ?_
      refine XS.aloadN X0.here hx rfl (hb hby d6_18) rfl rfl ?_
      refine XS.iloadN X0.here hx rfl (hb hby d6_19) rfl ?_
      exact k
    obtain ⟨cl9, Ar9, qa9, Sa9, Na9, Ha9, Ga9⟩ := id V_t2
    have hin9 : ¬ ((1 : Int32) < 0 ∨ cl9.slots.size ≤ ((1 : Int32)).toNatClampNeg) := inb_of Sa9 ⟨by decide, by decide⟩
    have hat9 : cl9.slots[((1 : Int32)).toNatClampNeg]? = some (.int (46 : Int32)) := Ha9.at hin9 rfl
    refine own_go (B := s₁.setTop (mkF m 21 #[.val (.ref tb), .val (.ref t2), .val (.int (1 : Int32))] [(.int (46 : Int32)), (.int (own_b u1))])) (fun t k => ?_) ?_
    · show Steps p.tables e below (s₁.setTop (mkF m 20 #[.val (.ref tb), .val (.ref t2), .val (.int (1 : Int32))] [(.int (1 : Int32)), (.ref t2), (.int (own_b u1))])) _
      refine X0.baloadBytes hx (j := (1 : Int32)) (v := (.int (46 : Int32))) (by rw [e0]; exact Ar9.1) (State.isArrayOf_alike hZ.alike Ar9.2.1) Ar9.2.2 hin9 hat9 (g := (mkF m 20 #[.val (.ref tb), .val (.ref t2), .val (.int (1 : Int32))] [(.int (1 : Int32)), (.ref t2), (.int (own_b u1))])) rfl rfl (hb hby d6_20) _ ?_
      exact k
    by_cases hc21_10 : (own_b u1) = (46 : Int32)
    · refine own_go (B := s₁.setTop (mkF m 11 #[.val (.ref tb), .val (.ref t2), .val (.int (2 : Int32))] [(.ref tb), (.int (2 : Int32))])) (fun t k => ?_) ?_
      · show Steps p.tables e below (s₁.setTop (mkF m 21 #[.val (.ref tb), .val (.ref t2), .val (.int (1 : Int32))] [(.int (46 : Int32)), (.int (own_b u1))])) _
        refine XS.icmpYes X0.here hx rfl (pc0 := 21) (pc' := 26) rfl (hb hby d6_21) rfl (teq hc21_10).1 (by decide) (by decide) ?_
        refine XS.iinc X0.here hx rfl (hb hby d6_26) rfl (l' := #[.val (.ref tb), .val (.ref t2), .val (.int (2 : Int32))]) rfl ?_
        refine XS.goto X0.here hx rfl (pc0 := 29) (pc' := 9) rfl (hb hby d6_29) (by decide) (by decide) ?_
        refine XS.iloadN X0.here hx rfl (hb hby d6_9) rfl ?_
        refine XS.aloadN X0.here hx rfl (hb hby d6_10) rfl rfl ?_
        show Steps p.tables e below (s₁.setTop (mkF m 11 #[.val (.ref tb), .val (.ref t2), .val (.int (2 : Int32))] [(.ref tb), (.int (2 : Int32))])) _
        exact k
      obtain ⟨cl11, Ar11, qa11, Sa11, Na11, Ha11, Ga11⟩ := id V_tb
      refine own_go (B := s₁.setTop (mkF m 33 #[.val (.ref tb), .val (.ref t2), .val (.int (2 : Int32))] [(.int (1 : Int32))])) (fun t k => ?_) ?_
      · show Steps p.tables e below (s₁.setTop (mkF m 11 #[.val (.ref tb), .val (.ref t2), .val (.int (2 : Int32))] [(.ref tb), (.int (2 : Int32))])) _
        refine X0.arraylength hx (by rw [e0]; exact Ar11.1) (State.isArrayOf_alike hZ.alike Ar11.2.1) (g := (mkF m 11 #[.val (.ref tb), .val (.ref t2), .val (.int (2 : Int32))] [(.ref tb), (.int (2 : Int32))])) rfl rfl (hb hby d6_11) _ ?_
        rw [len_of Sa11 Na11]
        refine XS.icmpYes X0.here hx rfl (pc0 := 12) (pc' := 32) rfl (hb hby d6_12) rfl (flt (by decide : ¬ ((2 : Int32) < (2 : Int32)))).2.1 (by decide) (by decide) ?_
        refine XS.iconst X0.here hx rfl (hb hby d6_32) ?_
        exact k
      obtain ⟨fs, hr, hrun, hended, hW, hsame⟩ := X0.leave (v := some (.int (1 : Int32))) (fun h => by rw [Bd.returns] at h; cases h)
      refine own_done (retN X0 hx (t := .boolean) Bd.returns (by simp) (hb hby d6_33) hr) hrun hended ⟨_, _, rfl, ?_, ⟨_, rfl⟩, hW, hsame.mono (by decide) (by decide)⟩
      show Q_rm6_2 Z ([u0, u1] : List UInt16) h0 n0 (some (.int (1 : Int32))) s₁.heap _
      rw [e0]
      exact ⟨_, ⟨rfl, rfl, rfl⟩, ⟨fun q => absurd q (by decide), fun q => (q (own_i2 ((own_b46 (hla u0 (by simp))).1 hc21_6) ((own_b46 (hla u1 (by simp))).1 hc21_10))).elim⟩⟩
    · refine own_go (B := s₁.setTop (mkF m 25 #[.val (.ref tb), .val (.ref t2), .val (.int (1 : Int32))] [(.int (0 : Int32))])) (fun t k => ?_) ?_
      · show Steps p.tables e below (s₁.setTop (mkF m 21 #[.val (.ref tb), .val (.ref t2), .val (.int (1 : Int32))] [(.int (46 : Int32)), (.int (own_b u1))])) _
        refine XS.icmpNo X0.here hx rfl (hb hby d6_21) rfl (feq hc21_10).1 ?_
        refine XS.iconst X0.here hx rfl (hb hby d6_24) ?_
        exact k
      obtain ⟨fs, hr, hrun, hended, hW, hsame⟩ := X0.leave (v := some (.int (0 : Int32))) (fun h => by rw [Bd.returns] at h; cases h)
      refine own_done (retN X0 hx (t := .boolean) Bd.returns (by simp) (hb hby d6_25) hr) hrun hended ⟨_, _, rfl, ?_, ⟨_, rfl⟩, hW, hsame.mono (by decide) (by decide)⟩
      show Q_rm6_2 Z ([u0, u1] : List UInt16) h0 n0 (some (.int (0 : Int32))) s₁.heap _
      rw [e0]
      exact ⟨_, ⟨rfl, rfl, rfl⟩, ⟨fun _ => own_ni2b (fun q => hc21_10 ((own_b46 (hla u1 (by simp))).2 q)), fun _ => rfl⟩⟩
  · refine own_go (B := s₁.setTop (mkF m 25 #[.val (.ref tb), .val (.ref t2), .val (.int (0 : Int32))] [(.int (0 : Int32))])) (fun t k => ?_) ?_
    · show Steps p.tables e below (s₁.setTop (mkF m 21 #[.val (.ref tb), .val (.ref t2), .val (.int (0 : Int32))] [(.int (46 : Int32)), (.int (own_b u0))])) _
      refine XS.icmpNo X0.here hx rfl (hb hby d6_21) rfl (feq hc21_6).1 ?_
      refine XS.iconst X0.here hx rfl (hb hby d6_24) ?_
      exact k
    obtain ⟨fs, hr, hrun, hended, hW, hsame⟩ := X0.leave (v := some (.int (0 : Int32))) (fun h => by rw [Bd.returns] at h; cases h)
    refine own_done (retN X0 hx (t := .boolean) Bd.returns (by simp) (hb hby d6_25) hr) hrun hended ⟨_, _, rfl, ?_, ⟨_, rfl⟩, hW, hsame.mono (by decide) (by decide)⟩
    show Q_rm6_2 Z ([u0, u1] : List UInt16) h0 n0 (some (.int (0 : Int32))) s₁.heap _
    rw [e0]
    exact ⟨_, ⟨rfl, rfl, rfl⟩, ⟨fun _ => own_ni2a (fun q => hc21_6 ((own_b46 (hla u0 (by simp))).2 q)), fun _ => rfl⟩⟩
set_option maxRecDepth 65536 in
set_option maxHeartbeats 40000000 in
theorem rm6_2 (l : Launch) (Z : State) (a0 : Array Value) (hw : ∀ d ∈ tables_1, d.before a0 Z = true) (ws : List Jvm.Cond) (tb t2 : Addr) (kb k2 : ClassId) (cs : List UInt16) (nn : Int32) (h0 : Heap) (n0 : Nat) (Z0 : n0 ≤ h0.size) (V_tb : Arv Z h0 tb kb .byte nn (own_lat cs) (.int (0 : Int32))) (V_t2 : Arv Z h0 t2 k2 .byte (2 : Int32) [(.int (46 : Int32)), (.int (46 : Int32))] (.int (0 : Int32))) (hla : ∀ u ∈ cs, ¬ (255 : Int32) < own_w u) (hL : own_L' cs nn) :
    MetFree l (⟨"java/lang/StringLatin1", "equals", "([B[B)Z"⟩ : MethodName) (head1 (Jvm.Cond.code (⟨"java/lang/StringLatin1", "equals", "([B[B)Z"⟩ : MethodName) jdk_43_method_13_code 3 (some .boolean) :: ws) ({ frames := 0, cells := 0, slots := 0, locals := 0 } : Room)) (fun a U => a = #[(.ref tb), (.ref t2)] ∧ Z.Warmed39 U.vm ∧ U.heap = h0) (fun _ _ _ _ _ => True) (fun _ U o U' => ∃ v L, o = .returned v ∧ Q_rm6_2 Z cs h0 n0 v U'.heap L ∧ FrameEnd U o U' L ({ frames := 0, cells := 0, slots := 0, locals := 0 } : Room).cells ({ frames := 0, cells := 0, slots := 0, locals := 0 } : Room).slots) := by
  rcases hL with ⟨rfl, rfl⟩ | ⟨u0, rfl, rfl⟩ | ⟨u0, u1, rfl, rfl⟩ | ⟨u0, u1, u2, rfl, rfl⟩ | ⟨u0, u1, u2, u3, rfl, rfl⟩
  · exact rm6_2n l Z a0 hw ws tb t2 kb k2 _ _ h0 n0 Z0 V_tb V_t2 (by decide) (own_len2 (by simp))
  · exact rm6_2n l Z a0 hw ws tb t2 kb k2 _ _ h0 n0 Z0 V_tb V_t2 (by decide) (own_len2 (by simp))
  · exact rm6_2e l Z a0 hw ws tb t2 kb k2 u0 u1 h0 n0 Z0 V_tb V_t2 hla
  · exact rm6_2n l Z a0 hw ws tb t2 kb k2 _ _ h0 n0 Z0 V_tb V_t2 (by decide) (own_len2 (by simp))
  · exact rm6_2n l Z a0 hw ws tb t2 kb k2 _ _ h0 n0 Z0 V_tb V_t2 (by decide) (own_len2 (by simp))
theorem ef_rm5_2 (m : MethodId) (x0 : Addr) (x1 : Addr) : entryFrame m #[(.ref x0), (.ref x1)] 3 = mkF m 0 #[.val (.ref x0), .val (.ref x1), .unset] [] := by first | (simp [entryFrame, mkF, argsToLocals, Value.category, maxLocals]; done) | rfl
set_option maxRecDepth 65536 in
set_option maxHeartbeats 40000000 in
theorem rm5_2 (l : Launch) (Z : State) (a0 : Array Value) (hw : ∀ d ∈ tables_1, d.before a0 Z = true) (ws : List Jvm.Cond) (a1 a2 tb t2 : Addr) (kb k2 : ClassId) (cs : List UInt16) (nn cd zz : Int32) (vs : List Value) (h0 : Heap) (n0 : Nat) (Z0 : n0 ≤ h0.size) (E_a1 : Exa Z h0 a1 "java/lang/String") (F_value_a1 : Fld Z h0 a1 "java/lang/String" "value" "[B" (.ref tb)) (F_coder_a1 : Fld Z h0 a1 "java/lang/String" "coder" "B" (.int cd)) (V_tb : Arv Z h0 tb kb .byte zz vs (.int (0 : Int32))) (E_a2 : Exa Z h0 a2 "java/lang/String") (F_value_a2 : Fld Z h0 a2 "java/lang/String" "value" "[B" (.ref t2)) (F_coder_a2 : Fld Z h0 a2 "java/lang/String" "coder" "B" (.int (0 : Int32))) (V_t2 : Arv Z h0 t2 k2 .byte (2 : Int32) [(.int (46 : Int32)), (.int (46 : Int32))] (.int (0 : Int32))) (hE : own_E cs nn cd zz vs) (hSt : own_S Z) (O : Old Z n0 h0) :
    MetFree l (⟨"java/lang/String", "equals", "(Ljava/lang/Object;)Z"⟩ : MethodName) (head1 (Jvm.Cond.code (⟨"java/lang/String", "equals", "(Ljava/lang/Object;)Z"⟩ : MethodName) jdk_42_method_66_code 3 (some .boolean) :: ws) ({ frames := 1, cells := 0, slots := 0, locals := 14 } : Room)) (fun a U => a = #[(.ref a1), (.ref a2)] ∧ Z.Warmed39 U.vm ∧ U.heap = h0) (fun _ _ _ _ _ => True) (fun _ U o U' => ∃ v L, o = .returned v ∧ Q_rm6_2 Z cs h0 n0 v U'.heap L ∧ FrameEnd U o U' L ({ frames := 1, cells := 0, slots := 0, locals := 14 } : Room).cells ({ frames := 1, cells := 0, slots := 0, locals := 14 } : Room).slots) := by
  refine MetFree.of_bodySF (plainFor_of_name pn_5) hisR ?_
  intro p e s m args below meth c s₁ Bd hml0 hP hK
  obtain ⟨rfl, hZ, hh⟩ := hP
  have hx := Bd.exec
  have hby := Bd.bytes
  have hml : c.maxLocals = 3 := hml0
  have hown : s.vm.findClass "java/lang/String" = some m.cls := findClass_of_methodNamed Bd.named
  have hnm := (name_of_methodNamed Bd.named Bd.method).1
  have X0 : Stand p l e ({ frames := 1, cells := 0, slots := 0, locals := 14 } : Room) s m #[(.ref a1), (.ref a2)] below meth c s₁ [] 0 0 := Stand.of_body Bd
  have e0 : s₁.heap = h0 := by rw [← hh, Bd.state]; rfl
  have N0 := Fr.nil n0
  have K : Keep h0 h0 [] := Keep.refl h0 []
  obtain ⟨G1, G3, O2, P5, O4, rG3, SA, SB, SC⟩ := id hSt
  show own_Gd p.tables e below (own_P (Q_rm6_2 Z cs h0 n0) s ({ frames := 1, cells := 0, slots := 0, locals := 14 } : Room).cells ({ frames := 1, cells := 0, slots := 0, locals := 14 } : Room).slots) _
  refine own_go (B := s₁.setTop (mkF m 0 #[.val (.ref a1), .val (.ref a2), .unset] [])) (fun t k => castTop (ef_rm5_2 m a1 a2) k) ?_
  refine own_go (B := s₁.setTop (mkF m 2 #[.val (.ref a1), .val (.ref a2), .unset] [(.ref a2), (.ref a1)])) (fun t k => ?_) ?_
  · show Steps p.tables e below (s₁.setTop (mkF m 0 #[.val (.ref a1), .val (.ref a2), .unset] [])) _
    refine XS.aloadN X0.here hx rfl (hb hby d5_0) rfl rfl ?_
    refine XS.aloadN X0.here hx rfl (hb hby d5_1) rfl rfl ?_
    exact k
  by_cases ha2 : a1 = a2
  · refine own_go (B := s₁.setTop (mkF m 6 #[.val (.ref a1), .val (.ref a2), .unset] [(.int (1 : Int32))])) (fun t k => ?_) ?_
    · show Steps p.tables e below (s₁.setTop (mkF m 2 #[.val (.ref a1), .val (.ref a2), .unset] [(.ref a2), (.ref a1)])) _
      refine Jvm.RoadKit.acmp (g := (mkF m 2 #[.val (.ref a1), .val (.ref a2), .unset] [(.ref a2), (.ref a1)])) X0 hx rfl rfl rfl (pc0 := 2) (pc' := 5) (same := true) rfl (hb hby d5_2) rfl (decide_eq_true (congrArg Value.ref ha2)) (by decide) (by decide) ?_
      refine XS.iconst X0.here hx rfl (hb hby d5_5) ?_
      exact k
    obtain ⟨fs, hr, hrun, hended, hW, hsame⟩ := X0.leave (v := some (.int (1 : Int32))) (fun h => by rw [Bd.returns] at h; cases h)
    refine own_done (retN X0 hx (t := .boolean) Bd.returns (by simp) (hb hby d5_6) hr) hrun hended ⟨_, _, rfl, ?_, ⟨_, rfl⟩, hW, hsame.mono (by decide) (by decide)⟩
    show Q_rm6_2 Z cs h0 n0 (some (.int (1 : Int32))) s₁.heap _
    rw [e0]
    subst ha2
    have q1 : cd = (0 : Int32) := Value.int.inj (own_fldf F_coder_a1 F_coder_a2)
    have q2 : tb = t2 := Value.ref.inj (own_fldf F_value_a1 F_value_a2)
    subst q2
    obtain ⟨q3, q4⟩ := own_arvf V_tb V_t2
    exact ⟨_, ⟨rfl, rfl, rfl⟩, ⟨fun q => absurd q (by decide), fun q => (q (own_Eis2 hE q1 q3 (q4 0 (by decide)) (q4 1 (by decide)))).elim⟩⟩
  · refine own_go (B := s₁.setTop (mkF m 8 #[.val (.ref a1), .val (.ref a2), .unset] [(.ref a2)])) (fun t k => ?_) ?_
    · show Steps p.tables e below (s₁.setTop (mkF m 2 #[.val (.ref a1), .val (.ref a2), .unset] [(.ref a2), (.ref a1)])) _
      refine Jvm.RoadKit.acmp (g := (mkF m 2 #[.val (.ref a1), .val (.ref a2), .unset] [(.ref a2), (.ref a1)])) X0 hx rfl rfl rfl (pc0 := 2) (pc' := 7) (same := false) rfl (hb hby d5_2) rfl (decide_eq_false fun q => ha2 (Value.ref.inj q)) (by decide) (by decide) ?_
      refine XS.aloadN X0.here hx rfl (hb hby d5_7) rfl rfl ?_
      exact k
    obtain ⟨T1, X1, e1, st1⟩ := instY X0 hx hZ hown (hw _ (List.mem_of_getElem? (i := 33) rfl)) e0 (Ins.self E_a2) (g := (mkF m 8 #[.val (.ref a1), .val (.ref a2), .unset] [(.ref a2)])) rfl rfl (hb hby d5_8)
    refine own_go (B := T1.setTop (mkF m 11 #[.val (.ref a1), .val (.ref a2), .unset] [(.int (1 : Int32))])) st1 ?_
    refine own_go (B := T1.setTop (mkF m 15 #[.val (.ref a1), .val (.ref a2), .unset] [(.ref a2)])) (fun t k => ?_) ?_
    · show Steps p.tables e below (T1.setTop (mkF m 11 #[.val (.ref a1), .val (.ref a2), .unset] [(.int (1 : Int32))])) _
      refine XS.ifNo X1.here hx rfl (hb hby d5_11) rfl ((if0 _ _).trans (feq (by decide : ¬ ((1 : Int32) = (0 : Int32)))).1) ?_
      refine XS.aloadN X1.here hx rfl (hb hby d5_14) rfl rfl ?_
      exact k
    obtain ⟨T2, X2, e2, st2⟩ := castY X1 hx hZ hown (hw _ (List.mem_of_getElem? (i := 33) rfl)) e1 (Ins.self E_a2) (g := (mkF m 15 #[.val (.ref a1), .val (.ref a2), .unset] [(.ref a2)])) rfl rfl (hb hby d5_15)
    refine own_go (B := T2.setTop (mkF m 18 #[.val (.ref a1), .val (.ref a2), .unset] [(.ref a2)])) st2 ?_
    refine own_go (B := T2.setTop (mkF m 19 #[.val (.ref a1), .val (.ref a2), .val (.ref a2)] [])) (fun t k => ?_) ?_
    · show Steps p.tables e below (T2.setTop (mkF m 18 #[.val (.ref a1), .val (.ref a2), .unset] [(.ref a2)])) _
      refine XS.astoreN X2.here hx rfl (hb hby d5_18) rfl rfl (l' := #[.val (.ref a1), .val (.ref a2), .val (.ref a2)]) rfl ?_
      exact k
    obtain ⟨T3, X3, e3, st3⟩ := getS2 X2 hx hZ hown (host := "") (Or.inl (hw _ (List.mem_of_getElem? (i := 34) rfl))) Via.refl e2 (O2.ext O.2) (g := (mkF m 19 #[.val (.ref a1), .val (.ref a2), .val (.ref a2)] [])) rfl (hb hby d5_19)
    refine own_go (B := T3.setTop (mkF m 22 #[.val (.ref a1), .val (.ref a2), .val (.ref a2)] [(.int G1)])) st3 ?_
    refine own_go (B := T3.setTop (mkF m 26 #[.val (.ref a1), .val (.ref a2), .val (.ref a2)] [(.ref a1)])) (fun t k => ?_) ?_
    · show Steps p.tables e below (T3.setTop (mkF m 22 #[.val (.ref a1), .val (.ref a2), .val (.ref a2)] [(.int G1)])) _
      refine XS.ifNo X3.here hx rfl (hb hby d5_22) rfl ((if0 _ _).trans (feq (P5 : ¬ (G1 = (0 : Int32)))).1) ?_
      refine XS.aloadN X3.here hx rfl (hb hby d5_25) rfl rfl ?_
      exact k
    obtain ⟨T4, X4, e4, st4⟩ := getF X3 hx hZ hown (host := "") (Or.inl (hw _ (List.mem_of_getElem? (i := 22) rfl))) Via.refl e3 F_coder_a1 (g := (mkF m 26 #[.val (.ref a1), .val (.ref a2), .val (.ref a2)] [(.ref a1)])) rfl rfl (hb hby d5_26)
    refine own_go (B := T4.setTop (mkF m 29 #[.val (.ref a1), .val (.ref a2), .val (.ref a2)] [(.int cd)])) st4 ?_
    refine own_go (B := T4.setTop (mkF m 30 #[.val (.ref a1), .val (.ref a2), .val (.ref a2)] [(.ref a2), (.int cd)])) (fun t k => ?_) ?_
    · show Steps p.tables e below (T4.setTop (mkF m 29 #[.val (.ref a1), .val (.ref a2), .val (.ref a2)] [(.int cd)])) _
      refine XS.aloadN X4.here hx rfl (hb hby d5_29) rfl rfl ?_
      exact k
    obtain ⟨T5, X5, e5, st5⟩ := getF X4 hx hZ hown (host := "") (Or.inl (hw _ (List.mem_of_getElem? (i := 22) rfl))) Via.refl e4 F_coder_a2 (g := (mkF m 30 #[.val (.ref a1), .val (.ref a2), .val (.ref a2)] [(.ref a2), (.int cd)])) rfl rfl (hb hby d5_30)
    refine own_go (B := T5.setTop (mkF m 33 #[.val (.ref a1), .val (.ref a2), .val (.ref a2)] [(.int (0 : Int32)), (.int cd)])) st5 ?_
    by_cases hc33 : cd = (0 : Int32)
    · refine own_go (B := T5.setTop (mkF m 36 #[.val (.ref a1), .val (.ref a2), .val (.ref a2)] [])) (fun t k => ?_) ?_
      · show Steps p.tables e below (T5.setTop (mkF m 33 #[.val (.ref a1), .val (.ref a2), .val (.ref a2)] [(.int (0 : Int32)), (.int cd)])) _
        refine XS.icmpNo X5.here hx rfl (hb hby d5_33) rfl (teq hc33).2 ?_
        exact k
      obtain ⟨hla, hzn, hvs, hL⟩ := own_El hE hc33
      subst hzn hvs
      refine own_go (B := T5.setTop (mkF m 37 #[.val (.ref a1), .val (.ref a2), .val (.ref a2)] [(.ref a1)])) (fun t k => ?_) ?_
      · show Steps p.tables e below (T5.setTop (mkF m 36 #[.val (.ref a1), .val (.ref a2), .val (.ref a2)] [])) _
        refine XS.aloadN X5.here hx rfl (hb hby d5_36) rfl rfl ?_
        exact k
      obtain ⟨T6, X6, e6, st6⟩ := getF X5 hx hZ hown (host := "") (Or.inl (hw _ (List.mem_of_getElem? (i := 21) rfl))) Via.refl e5 F_value_a1 (g := (mkF m 37 #[.val (.ref a1), .val (.ref a2), .val (.ref a2)] [(.ref a1)])) rfl rfl (hb hby d5_37)
      refine own_go (B := T6.setTop (mkF m 40 #[.val (.ref a1), .val (.ref a2), .val (.ref a2)] [(.ref tb)])) st6 ?_
      refine own_go (B := T6.setTop (mkF m 41 #[.val (.ref a1), .val (.ref a2), .val (.ref a2)] [(.ref a2), (.ref tb)])) (fun t k => ?_) ?_
      · show Steps p.tables e below (T6.setTop (mkF m 40 #[.val (.ref a1), .val (.ref a2), .val (.ref a2)] [(.ref tb)])) _
        refine XS.aloadN X6.here hx rfl (hb hby d5_40) rfl rfl ?_
        exact k
      obtain ⟨T7, X7, e7, st7⟩ := getF X6 hx hZ hown (host := "") (Or.inl (hw _ (List.mem_of_getElem? (i := 21) rfl))) Via.refl e6 F_value_a2 (g := (mkF m 41 #[.val (.ref a1), .val (.ref a2), .val (.ref a2)] [(.ref a2), (.ref tb)])) rfl rfl (hb hby d5_41)
      refine own_go (B := T7.setTop (mkF m 44 #[.val (.ref a1), .val (.ref a2), .val (.ref a2)] [(.ref t2), (.ref tb)])) st7 ?_
      obtain ⟨_, _, ⟨T8, L8, k8, n8⟩, -, X8, ⟨Lc8, hQ8, l8, y8, z8⟩, st8⟩ := Jvm.LawKit.callS X7 hx (y := (⟨"java/lang/StringLatin1", "equals", "([B[B)Z"⟩ : MethodName)) hown (mvT hZ (hw _ (List.mem_of_getElem? (i := 35) rfl))) (mvT hZ (hw _ (List.mem_of_getElem? (i := 36) rfl))) (mvT hZ (hw _ (List.mem_of_getElem? (i := 37) rfl))) (mvT hZ (hw _ (List.mem_of_getElem? (i := 38) rfl))) (by decide) (backOf (W := 0) (rm6_2 l Z a0 hw [] tb t2 kb k2 _ _ h0 n0 Z0 V_tb V_t2 hla hL) hZ (hw _ (List.mem_of_getElem? (i := 38) rfl)) (hw _ (List.mem_of_getElem? (i := 37) rfl)) (by decide) (by decide)) (g := (mkF m 44 #[.val (.ref a1), .val (.ref a2), .val (.ref a2)] [(.ref t2), (.ref tb)])) rfl (by rw [hml]; rfl) (argsL := [(.ref tb), (.ref t2)]) (rest := []) (lenOf pd_18 rfl) rfl (by show 2 * 0 + _ ≤ _; exact Nat.le_of_eq rfl) (hb hby d5_44) (fun _ _ => ⟨rfl, e7, Nat.le_of_ble_eq_true rfl, Nat.le_of_ble_eq_true rfl⟩)
      dsimp only [Pt.U, Pt.locs, Pt.cells, Pt.slots] at X8 l8 y8 z8 st8 hQ8
      subst l8 y8 z8
      obtain ⟨h8, e8⟩ : ∃ z, T8.heap = z := ⟨_, rfl⟩
      rw [e8] at hQ8
      obtain ⟨r8, ⟨rfl, hL8, eq8⟩, hp8⟩ := hQ8
      subst hL8
      have N8 := Fr.app N0 (Fr.nil n0)
      rw [eq8] at e8
      refine own_go (B := T8.setTop (mkF m 47 #[.val (.ref a1), .val (.ref a2), .val (.ref a2)] [(.int r8)])) st8 ?_
      by_cases hc47 : r8 = (0 : Int32)
      · refine own_go (B := T8.setTop (mkF m 55 #[.val (.ref a1), .val (.ref a2), .val (.ref a2)] [(.int (0 : Int32))])) (fun t k => ?_) ?_
        · show Steps p.tables e below (T8.setTop (mkF m 47 #[.val (.ref a1), .val (.ref a2), .val (.ref a2)] [(.int r8)])) _
          refine XS.ifYes X8.here hx rfl (pc0 := 47) (pc' := 54) rfl (hb hby d5_47) rfl ((if0 _ _).trans (teq hc47).1) (by decide) (by decide) ?_
          refine XS.iconst X8.here hx rfl (hb hby d5_54) ?_
          exact k
        obtain ⟨fs, hr, hrun, hended, hW, hsame⟩ := X8.leave (v := some (.int (0 : Int32))) (fun h => by rw [Bd.returns] at h; cases h)
        refine own_done (retN X8 hx (t := .boolean) Bd.returns (by simp) (hb hby d5_55) hr) hrun hended ⟨_, _, rfl, ?_, ⟨_, rfl⟩, hW, hsame.mono (by decide) (by decide)⟩
        show Q_rm6_2 Z cs h0 n0 (some (.int (0 : Int32))) T8.heap _
        rw [e8]
        exact ⟨_, ⟨rfl, rfl, rfl⟩, ⟨fun _ => hp8.1 hc47, fun _ => rfl⟩⟩
      · refine own_go (B := T8.setTop (mkF m 55 #[.val (.ref a1), .val (.ref a2), .val (.ref a2)] [(.int (1 : Int32))])) (fun t k => ?_) ?_
        · show Steps p.tables e below (T8.setTop (mkF m 47 #[.val (.ref a1), .val (.ref a2), .val (.ref a2)] [(.int r8)])) _
          refine XS.ifNo X8.here hx rfl (hb hby d5_47) rfl ((if0 _ _).trans (feq hc47).1) ?_
          refine XS.iconst X8.here hx rfl (hb hby d5_50) ?_
          refine XS.goto X8.here hx rfl (pc0 := 51) (pc' := 55) rfl (hb hby d5_51) (by decide) (by decide) ?_
          exact k
        obtain ⟨fs, hr, hrun, hended, hW, hsame⟩ := X8.leave (v := some (.int (1 : Int32))) (fun h => by rw [Bd.returns] at h; cases h)
        refine own_done (retN X8 hx (t := .boolean) Bd.returns (by simp) (hb hby d5_55) hr) hrun hended ⟨_, _, rfl, ?_, ⟨_, rfl⟩, hW, hsame.mono (by decide) (by decide)⟩
        show Q_rm6_2 Z cs h0 n0 (some (.int (1 : Int32))) T8.heap _
        rw [e8]
        exact ⟨_, ⟨rfl, rfl, rfl⟩, ⟨fun q => absurd q (by decide), fun q => absurd (hp8.2 q) hc47⟩⟩
    · refine own_go (B := T5.setTop (mkF m 55 #[.val (.ref a1), .val (.ref a2), .val (.ref a2)] [(.int (0 : Int32))])) (fun t k => ?_) ?_
      · show Steps p.tables e below (T5.setTop (mkF m 33 #[.val (.ref a1), .val (.ref a2), .val (.ref a2)] [(.int (0 : Int32)), (.int cd)])) _
        refine XS.icmpYes X5.here hx rfl (pc0 := 33) (pc' := 54) rfl (hb hby d5_33) rfl (feq hc33).2 (by decide) (by decide) ?_
        refine XS.iconst X5.here hx rfl (hb hby d5_54) ?_
        exact k
      obtain ⟨fs, hr, hrun, hended, hW, hsame⟩ := X5.leave (v := some (.int (0 : Int32))) (fun h => by rw [Bd.returns] at h; cases h)
      refine own_done (retN X5 hx (t := .boolean) Bd.returns (by simp) (hb hby d5_55) hr) hrun hended ⟨_, _, rfl, ?_, ⟨_, rfl⟩, hW, hsame.mono (by decide) (by decide)⟩
      show Q_rm6_2 Z cs h0 n0 (some (.int (0 : Int32))) T5.heap _
      rw [e5]
      exact ⟨_, ⟨rfl, rfl, rfl⟩, ⟨fun _ => (own_Ew hE hc33).2, fun _ => rfl⟩⟩
def Q_rm4 (Z : State) (cs : List UInt16) (h0 : Heap) (n0 : Nat) (v : Option Value) (h : Heap) (L : List Loc) : Prop := ∃ r, v = some (.int r) ∧ Fr n0 L ∧ Keep h0 h [] ∧ (r = (0 : Int32) ∨ r = (1 : Int32)) ∧ (r = (1 : Int32) ↔ own_ok cs)
theorem d4_0 : decode prog_74_method_15_code 0 = .ok (.aload_n 0, 1) := by decide +kernel
theorem d4_1 : decode prog_74_method_15_code 1 = .ok (.ldc 211, 2) := by decide +kernel
theorem d4_3 : decode prog_74_method_15_code 3 = .ok (.invokevirtual 81, 3) := by decide +kernel
theorem d4_6 : decode prog_74_method_15_code 6 = .ok (.ifCond .ne 25, 3) := by decide +kernel
theorem d4_9 : decode prog_74_method_15_code 9 = .ok (.aload_n 0, 1) := by decide +kernel
theorem d4_10 : decode prog_74_method_15_code 10 = .ok (.ldc 213, 2) := by decide +kernel
theorem d4_12 : decode prog_74_method_15_code 12 = .ok (.invokevirtual 81, 3) := by decide +kernel
theorem d4_15 : decode prog_74_method_15_code 15 = .ok (.ifCond .ne 16, 3) := by decide +kernel
theorem d4_18 : decode prog_74_method_15_code 18 = .ok (.aload_n 0, 1) := by decide +kernel
theorem d4_19 : decode prog_74_method_15_code 19 = .ok (.bipush 47, 2) := by decide +kernel
theorem d4_21 : decode prog_74_method_15_code 21 = .ok (.invokevirtual 182, 3) := by decide +kernel
theorem d4_24 : decode prog_74_method_15_code 24 = .ok (.ifCond .ge 7, 3) := by decide +kernel
theorem d4_27 : decode prog_74_method_15_code 27 = .ok (.iconst 1, 1) := by decide +kernel
theorem d4_28 : decode prog_74_method_15_code 28 = .ok (.goto 4, 3) := by decide +kernel
theorem d4_31 : decode prog_74_method_15_code 31 = .ok (.iconst 0, 1) := by decide +kernel
theorem d4_32 : decode prog_74_method_15_code 32 = .ok (.ireturn, 1) := by decide +kernel
theorem ef_rm4 (m : MethodId) (x0 : Addr) : entryFrame m #[(.ref x0)] 1 = mkF m 0 #[.val (.ref x0)] [] := by first | (simp [entryFrame, mkF, argsToLocals, Value.category, maxLocals]; done) | rfl
set_option maxRecDepth 65536 in
set_option maxHeartbeats 40000000 in
theorem rm4 (l : Launch) (Z : State) (a0 : Array Value) (hw : ∀ d ∈ tables_1, d.before a0 Z = true) (ws : List Jvm.Cond) (a1 tb : Addr) (kb : ClassId) (cs : List UInt16) (nn cd zz : Int32) (vs : List Value) (h0 : Heap) (n0 : Nat) (Z0 : n0 ≤ h0.size) (E_a1 : Exa Z h0 a1 "java/lang/String") (F_value_a1 : Fld Z h0 a1 "java/lang/String" "value" "[B" (.ref tb)) (F_coder_a1 : Fld Z h0 a1 "java/lang/String" "coder" "B" (.int cd)) (V_tb : Arv Z h0 tb kb .byte zz vs (.int (0 : Int32))) (hE : own_E cs nn cd zz vs) (hSt : own_S Z) (O : Old Z n0 h0) (hcw : Jvm.Lit.compactW.before a0 Z = true) (hh211 : Jvm.Lit.constHeld Z "com/example/vareso/vareso/vault/ContentNode" 211) (hh213 : Jvm.Lit.constHeld Z "com/example/vareso/vareso/vault/ContentNode" 213) :
    MetFree l (⟨"com/example/vareso/vareso/vault/ContentNode", "isChildName", "(Ljava/lang/String;)Z"⟩ : MethodName) (head1 (Jvm.Cond.code (⟨"com/example/vareso/vareso/vault/ContentNode", "isChildName", "(Ljava/lang/String;)Z"⟩ : MethodName) prog_74_method_15_code 1 (some .boolean) :: ws) ({ frames := 7, cells := 4, slots := 20, locals := 100 } : Room)) (fun a U => (a = #[(.ref a1)] ∧ Z.Warmed39 U.vm ∧ U.heap = h0) ∧ IB Z U.vm [""]) (fun _ _ _ _ _ => True) (fun _ U o U' => ∃ v L, o = .returned v ∧ (Q_rm4 Z cs h0 n0 v U'.heap L ∧ True) ∧ ReturnedEndW U o U' L ({ frames := 7, cells := 4, slots := 20, locals := 100 } : Room).cells ({ frames := 7, cells := 4, slots := 20, locals := 100 } : Room).slots) := by
  refine MetFree.of_bodySF (plainFor_of_name pn_4) hisR ?_
  intro p e s m args below meth c s₁ Bd hml0 hP hK
  obtain ⟨⟨rfl, hZ, hh⟩, I⟩ := hP
  have hx := Bd.exec
  have hby := Bd.bytes
  have hml : c.maxLocals = 1 := hml0
  have hown : s.vm.findClass "com/example/vareso/vareso/vault/ContentNode" = some m.cls := findClass_of_methodNamed Bd.named
  have hnm := (name_of_methodNamed Bd.named Bd.method).1
  have hZ : Z.Warmed39 (s.setVm s.vm).vm := hZ
  have hown : (s.setVm s.vm).vm.findClass "com/example/vareso/vareso/vault/ContentNode" = some m.cls := hown
  have hS : s.Since s.vm 0 := (State.WarmedH.refl s).since 0
  have hk : 0 ≤ h0.size := Nat.zero_le _
  have X0 : Stand p l e ({ frames := 7, cells := 4, slots := 20, locals := 100 } : Room) (s.setVm s.vm) m #[(.ref a1)] below meth c s₁ [] 0 0 := Stand.of_body Bd
  have e0 : s₁.heap = h0 := by rw [← hh, Bd.state]; rfl
  have N0 := Fr.nil n0
  have K : Keep h0 h0 [] := Keep.refl h0 []
  have hkp : ∀ (b : Addr) (cl : Cell), Z.heap[b]? = some cl → s.heap[b]? = some cl := fun b cl q => by rw [hh]; exact O.2.2 b cl q
  have I : IB Z (s.setVm s.vm).vm [""] := I
  obtain ⟨G1, G3, O2, P5, O4, rG3, SA, SB, SC⟩ := id hSt
  show own_Gd p.tables e below (own_PI (Q_rm4 Z cs h0 n0) (fun vm => True) s ({ frames := 7, cells := 4, slots := 20, locals := 100 } : Room).cells ({ frames := 7, cells := 4, slots := 20, locals := 100 } : Room).slots) _
  refine own_go (B := s₁.setTop (mkF m 0 #[.val (.ref a1)] [])) (fun t k => castTop (ef_rm4 m a1) k) ?_
  refine own_go (B := s₁.setTop (mkF m 1 #[.val (.ref a1)] [(.ref a1)])) (fun t k => ?_) ?_
  · show Steps p.tables e below (s₁.setTop (mkF m 0 #[.val (.ref a1)] [])) _
    refine XS.aloadN X0.here hx rfl (hb hby d4_0) rfl rfl ?_
    exact k
  obtain ⟨la1, T1, h1, k1, lb1, kl1, X1, e1, E1, hS, hk, hZ, hown, E_la1, F_coder_la1, F_value_la1, V_lb1, lt1, lu1, I, Lt1, st1⟩ := ldcSVL X0 hx hZ hown (hw _ (List.mem_of_getElem? (i := 27) rfl)) (own_strs hw) e0 hS hk (Fr.nil _) hkp I (by decide) hh211 hcw (vs := [(.int (46 : Int32))]) (z := (1 : Int32)) ⟨by decide, by first | rfl | decide⟩ (by decide) (by decide) (g := (mkF m 1 #[.val (.ref a1)] [(.ref a1)])) rfl (hb hby d4_1) (n := 4) (by decide) (by decide) (by decide) (by decide)
  have E_a1 := E_a1.ext E1
  have F_value_a1 := F_value_a1.ext E1
  have F_coder_a1 := F_coder_a1.ext E1
  have V_tb := V_tb.ext E1
  have K := K.ext E1
  have Z0 := Nat.le_trans Z0 E1.1
  have O := O.ext E1
  have I : IB Z (s.setVm T1.vm).vm _ := I
  refine own_go (B := T1.setTop (mkF m 3 #[.val (.ref a1)] [(.ref la1), (.ref a1)])) st1 ?_
  obtain ⟨cq2, kq2, q2a, q2b, q2c⟩ := isOf hZ e1 E_a1
  obtain ⟨_, _, ⟨T3, L3, k3, n3⟩, -, X3, ⟨Lc3, hQ3, l3, y3, z3⟩, st3⟩ := X1.virtualBack hx (y := (⟨"java/lang/String", "equals", "(Ljava/lang/Object;)Z"⟩ : MethodName)) (z := (⟨"java/lang/String", "equals", "(Ljava/lang/Object;)Z"⟩ : MethodName)) hown (mvT hZ (hw _ (List.mem_of_getElem? (i := 28) rfl))) (mvT hZ (hw _ (List.mem_of_getElem? (i := 29) rfl))) (notFace_of_selects (args := #[]) (mvT hZ (hw _ (List.mem_of_getElem? (i := 31) rfl)))) (mvT hZ (hw _ (List.mem_of_getElem? (i := 31) rfl))) (mvT hZ (hw _ (List.mem_of_getElem? (i := 30) rfl))) (by decide) (backOf (W := 0) (rm5_1 l Z a0 hw [] a1 la1 tb lb1 kb kl1 cs nn cd zz vs h1 n0 Z0 E_a1 F_value_a1 F_coder_a1 V_tb E_la1 F_value_la1 F_coder_la1 V_lb1 hE hSt O) hZ (hw _ (List.mem_of_getElem? (i := 32) rfl)) (hw _ (List.mem_of_getElem? (i := 4) rfl)) (by decide) (by decide)) q2a q2c (g := (mkF m 3 #[.val (.ref a1)] [(.ref la1), (.ref a1)])) rfl (by rw [hml]; rfl) (Steps.refl _) (argsL := [(.ref la1)]) (rest := []) (lenOf pd_19 rfl) rfl (by show 2 * 0 + _ ≤ _; exact Nat.le_of_eq rfl) (hb hby d4_3) (fun _ _ => ⟨rfl, e1, Nat.le_of_ble_eq_true rfl, Nat.le_of_ble_eq_true rfl⟩)
  dsimp only [Pt.U, Pt.locs, Pt.cells, Pt.slots] at X3 l3 y3 z3 st3 hQ3
  subst l3 y3 z3
  obtain ⟨h3, e3⟩ : ∃ z, T3.heap = z := ⟨_, rfl⟩
  rw [e3] at hQ3
  obtain ⟨r3, ⟨rfl, hL3, eq3⟩, hp3⟩ := hQ3
  subst hL3
  have N3 := Fr.app N0 (Fr.nil n0)
  rw [eq3] at e3
  refine own_go (B := T3.setTop (mkF m 6 #[.val (.ref a1)] [(.int r3)])) (fun t k => st3.trans k) ?_
  by_cases hc6 : r3 = (0 : Int32)
  · refine own_go (B := T3.setTop (mkF m 10 #[.val (.ref a1)] [(.ref a1)])) (fun t k => ?_) ?_
    · show Steps p.tables e below (T3.setTop (mkF m 6 #[.val (.ref a1)] [(.int r3)])) _
      refine XS.ifNo X3.here hx rfl (hb hby d4_6) rfl ((if0 _ _).trans (teq hc6).2) ?_
      refine XS.aloadN X3.here hx rfl (hb hby d4_9) rfl rfl ?_
      exact k
    obtain ⟨la4, T4, h4, k4, lb4, kl4, X4, e4, E4, hS, hk, hZ, hown, E_la4, F_coder_la4, F_value_la4, V_lb4, lt4, lu4, I, Lt4, st4⟩ := ldcSVL X3 hx hZ hown (hw _ (List.mem_of_getElem? (i := 39) rfl)) (own_strs hw) e3 hS hk (Fr.nil _) hkp I (by decide) hh213 hcw (vs := [(.int (46 : Int32)), (.int (46 : Int32))]) (z := (2 : Int32)) ⟨by decide, by first | rfl | decide⟩ (by decide) (by decide) (g := (mkF m 10 #[.val (.ref a1)] [(.ref a1)])) rfl (hb hby d4_10) (n := 8) (by decide) (by decide) (by decide) (by decide)
    have E_a1 := E_a1.ext E4
    have F_value_a1 := F_value_a1.ext E4
    have F_coder_a1 := F_coder_a1.ext E4
    have V_tb := V_tb.ext E4
    have K := K.ext E4
    have Z0 := Nat.le_trans Z0 E4.1
    have O := O.ext E4
    have I : IB Z (s.setVm T4.vm).vm _ := I
    refine own_go (B := T4.setTop (mkF m 12 #[.val (.ref a1)] [(.ref la4), (.ref a1)])) st4 ?_
    obtain ⟨cq5, kq5, q5a, q5b, q5c⟩ := isOf hZ e4 E_a1
    obtain ⟨_, _, ⟨T6, L6, k6, n6⟩, -, X6, ⟨Lc6, hQ6, l6, y6, z6⟩, st6⟩ := X4.virtualBack hx (y := (⟨"java/lang/String", "equals", "(Ljava/lang/Object;)Z"⟩ : MethodName)) (z := (⟨"java/lang/String", "equals", "(Ljava/lang/Object;)Z"⟩ : MethodName)) hown (mvT hZ (hw _ (List.mem_of_getElem? (i := 28) rfl))) (mvT hZ (hw _ (List.mem_of_getElem? (i := 29) rfl))) (notFace_of_selects (args := #[]) (mvT hZ (hw _ (List.mem_of_getElem? (i := 31) rfl)))) (mvT hZ (hw _ (List.mem_of_getElem? (i := 31) rfl))) (mvT hZ (hw _ (List.mem_of_getElem? (i := 30) rfl))) (by decide) (backOf (W := 0) (rm5_2 l Z a0 hw [] a1 la4 tb lb4 kb kl4 cs nn cd zz vs h4 n0 Z0 E_a1 F_value_a1 F_coder_a1 V_tb E_la4 F_value_la4 F_coder_la4 V_lb4 hE hSt O) hZ (hw _ (List.mem_of_getElem? (i := 32) rfl)) (hw _ (List.mem_of_getElem? (i := 4) rfl)) (by decide) (by decide)) q5a q5c (g := (mkF m 12 #[.val (.ref a1)] [(.ref la4), (.ref a1)])) rfl (by rw [hml]; rfl) (Steps.refl _) (argsL := [(.ref la4)]) (rest := []) (lenOf pd_19 rfl) rfl (by show 2 * 0 + _ ≤ _; exact Nat.le_of_eq rfl) (hb hby d4_12) (fun _ _ => ⟨rfl, e4, Nat.le_of_ble_eq_true rfl, Nat.le_of_ble_eq_true rfl⟩)
    dsimp only [Pt.U, Pt.locs, Pt.cells, Pt.slots] at X6 l6 y6 z6 st6 hQ6
    subst l6 y6 z6
    obtain ⟨h6, e6⟩ : ∃ z, T6.heap = z := ⟨_, rfl⟩
    rw [e6] at hQ6
    obtain ⟨r6, ⟨rfl, hL6, eq6⟩, hp6⟩ := hQ6
    subst hL6
    have N6 := Fr.app N3 (Fr.nil n0)
    rw [eq6] at e6
    refine own_go (B := T6.setTop (mkF m 15 #[.val (.ref a1)] [(.int r6)])) (fun t k => st6.trans k) ?_
    by_cases hc15 : r6 = (0 : Int32)
    · refine own_go (B := T6.setTop (mkF m 21 #[.val (.ref a1)] [(.int (47 : Int32)), (.ref a1)])) (fun t k => ?_) ?_
      · show Steps p.tables e below (T6.setTop (mkF m 15 #[.val (.ref a1)] [(.int r6)])) _
        refine XS.ifNo X6.here hx rfl (hb hby d4_15) rfl ((if0 _ _).trans (teq hc15).2) ?_
        refine XS.aloadN X6.here hx rfl (hb hby d4_18) rfl rfl ?_
        refine XS.bipush X6.here hx rfl (hb hby d4_19) ?_
        exact k
      obtain ⟨cq7, kq7, q7a, q7b, q7c⟩ := isOf hZ e6 E_a1
      obtain ⟨_, _, ⟨T8, L8, k8, n8⟩, -, X8, ⟨Lc8, hQ8, l8, y8, z8⟩, st8⟩ := X6.virtualBack hx (y := (⟨"java/lang/String", "indexOf", "(I)I"⟩ : MethodName)) (z := (⟨"java/lang/String", "indexOf", "(I)I"⟩ : MethodName)) hown (mvT hZ (hw _ (List.mem_of_getElem? (i := 40) rfl))) (mvT hZ (hw _ (List.mem_of_getElem? (i := 41) rfl))) (notFace_of_selects (args := #[]) (mvT hZ (hw _ (List.mem_of_getElem? (i := 43) rfl)))) (mvT hZ (hw _ (List.mem_of_getElem? (i := 43) rfl))) (mvT hZ (hw _ (List.mem_of_getElem? (i := 42) rfl))) (by decide) (backOf (W := 0) (rm7 l Z a0 hw [] a1 tb kb cs nn cd zz vs h4 n0 Z0 E_a1 F_value_a1 F_coder_a1 V_tb hE hSt O) hZ (hw _ (List.mem_of_getElem? (i := 44) rfl)) (hw _ (List.mem_of_getElem? (i := 4) rfl)) (by decide) (by decide)) q7a q7c (g := (mkF m 21 #[.val (.ref a1)] [(.int (47 : Int32)), (.ref a1)])) rfl (by rw [hml]; rfl) (Steps.refl _) (argsL := [(.int (47 : Int32))]) (rest := []) (lenOf pd_3 rfl) rfl (by show 2 * 0 + _ ≤ _; exact Nat.le_of_eq rfl) (hb hby d4_21) (fun _ _ => ⟨rfl, e6, Nat.le_of_ble_eq_true rfl, Nat.le_of_ble_eq_true rfl⟩)
      dsimp only [Pt.U, Pt.locs, Pt.cells, Pt.slots] at X8 l8 y8 z8 st8 hQ8
      subst l8 y8 z8
      obtain ⟨h8, e8⟩ : ∃ z, T8.heap = z := ⟨_, rfl⟩
      rw [e8] at hQ8
      obtain ⟨r8, ⟨rfl, hL8, eq8⟩, hp8⟩ := hQ8
      subst hL8
      have N8 := Fr.app N6 (Fr.nil n0)
      rw [eq8] at e8
      refine own_go (B := T8.setTop (mkF m 24 #[.val (.ref a1)] [(.int r8)])) (fun t k => st8.trans k) ?_
      by_cases hc24 : r8 < (0 : Int32)
      · refine own_go (B := T8.setTop (mkF m 32 #[.val (.ref a1)] [(.int (1 : Int32))])) (fun t k => ?_) ?_
        · show Steps p.tables e below (T8.setTop (mkF m 24 #[.val (.ref a1)] [(.int r8)])) _
          refine XS.ifNo X8.here hx rfl (hb hby d4_24) rfl ((if0 _ _).trans (tlt hc24).2.1) ?_
          refine XS.iconst X8.here hx rfl (hb hby d4_27) ?_
          refine XS.goto X8.here hx rfl (pc0 := 28) (pc' := 32) rfl (hb hby d4_28) (by decide) (by decide) ?_
          exact k
        obtain ⟨fs, hr, hrun, hended, hRW⟩ := X8.leaveW hS (by rw [e8]; exact hk) (v := some (.int (1 : Int32))) (fun h => by rw [Bd.returns] at h; cases h)
        refine own_done (retN X8 hx (t := .boolean) Bd.returns (by simp) (hb hby d4_32) hr) hrun hended ⟨_, _, rfl, ⟨?_, trivial⟩, hRW.1, hRW.2.1, hRW.2.2.1, hRW.2.2.2.mono (by decide) (by decide)⟩
        show Q_rm4 Z cs h0 n0 (some (.int (1 : Int32))) T8.heap _
        rw [e8]
        exact ⟨_, rfl, N8, K, ⟨Or.inr rfl, ⟨fun _ => ⟨hp3.1 hc6, hp6.1 hc15, hp8.1 hc24⟩, fun _ => rfl⟩⟩⟩
      · refine own_go (B := T8.setTop (mkF m 32 #[.val (.ref a1)] [(.int (0 : Int32))])) (fun t k => ?_) ?_
        · show Steps p.tables e below (T8.setTop (mkF m 24 #[.val (.ref a1)] [(.int r8)])) _
          refine XS.ifYes X8.here hx rfl (pc0 := 24) (pc' := 31) rfl (hb hby d4_24) rfl ((if0 _ _).trans (flt hc24).2.1) (by decide) (by decide) ?_
          refine XS.iconst X8.here hx rfl (hb hby d4_31) ?_
          exact k
        obtain ⟨fs, hr, hrun, hended, hRW⟩ := X8.leaveW hS (by rw [e8]; exact hk) (v := some (.int (0 : Int32))) (fun h => by rw [Bd.returns] at h; cases h)
        refine own_done (retN X8 hx (t := .boolean) Bd.returns (by simp) (hb hby d4_32) hr) hrun hended ⟨_, _, rfl, ⟨?_, trivial⟩, hRW.1, hRW.2.1, hRW.2.2.1, hRW.2.2.2.mono (by decide) (by decide)⟩
        show Q_rm4 Z cs h0 n0 (some (.int (0 : Int32))) T8.heap _
        rw [e8]
        exact ⟨_, rfl, N8, K, ⟨Or.inl rfl, ⟨fun q => absurd q (by decide), fun q => absurd (hp8.2 q.2.2) hc24⟩⟩⟩
    · refine own_go (B := T6.setTop (mkF m 32 #[.val (.ref a1)] [(.int (0 : Int32))])) (fun t k => ?_) ?_
      · show Steps p.tables e below (T6.setTop (mkF m 15 #[.val (.ref a1)] [(.int r6)])) _
        refine XS.ifYes X6.here hx rfl (pc0 := 15) (pc' := 31) rfl (hb hby d4_15) rfl ((if0 _ _).trans (feq hc15).2) (by decide) (by decide) ?_
        refine XS.iconst X6.here hx rfl (hb hby d4_31) ?_
        exact k
      obtain ⟨fs, hr, hrun, hended, hRW⟩ := X6.leaveW hS (by rw [e6]; exact hk) (v := some (.int (0 : Int32))) (fun h => by rw [Bd.returns] at h; cases h)
      refine own_done (retN X6 hx (t := .boolean) Bd.returns (by simp) (hb hby d4_32) hr) hrun hended ⟨_, _, rfl, ⟨?_, trivial⟩, hRW.1, hRW.2.1, hRW.2.2.1, hRW.2.2.2.mono (by decide) (by decide)⟩
      show Q_rm4 Z cs h0 n0 (some (.int (0 : Int32))) T6.heap _
      rw [e6]
      exact ⟨_, rfl, N6, K, ⟨Or.inl rfl, ⟨fun q => absurd q (by decide), fun q => absurd (hp6.2 q.2.1) hc15⟩⟩⟩
  · refine own_go (B := T3.setTop (mkF m 32 #[.val (.ref a1)] [(.int (0 : Int32))])) (fun t k => ?_) ?_
    · show Steps p.tables e below (T3.setTop (mkF m 6 #[.val (.ref a1)] [(.int r3)])) _
      refine XS.ifYes X3.here hx rfl (pc0 := 6) (pc' := 31) rfl (hb hby d4_6) rfl ((if0 _ _).trans (feq hc6).2) (by decide) (by decide) ?_
      refine XS.iconst X3.here hx rfl (hb hby d4_31) ?_
      exact k
    obtain ⟨fs, hr, hrun, hended, hRW⟩ := X3.leaveW hS (by rw [e3]; exact hk) (v := some (.int (0 : Int32))) (fun h => by rw [Bd.returns] at h; cases h)
    refine own_done (retN X3 hx (t := .boolean) Bd.returns (by simp) (hb hby d4_32) hr) hrun hended ⟨_, _, rfl, ⟨?_, trivial⟩, hRW.1, hRW.2.1, hRW.2.2.1, hRW.2.2.2.mono (by decide) (by decide)⟩
    show Q_rm4 Z cs h0 n0 (some (.int (0 : Int32))) T3.heap _
    rw [e3]
    exact ⟨_, rfl, N3, K, ⟨Or.inl rfl, ⟨fun q => absurd q (by decide), fun q => absurd (hp3.2 q.1) hc6⟩⟩⟩
def Q_rm0 (Z : State) (h0 : Heap) (n0 : Nat) (v : Option Value) (h : Heap) (L : List Loc) : Prop := v = some (.int (1 : Int32)) ∧ Fr n0 L
theorem ef_rm0 (m : MethodId) (x0 : Int32) (x1 : Int32) (x2 : Int32) (x3 : Int32) (x4 : Int32) : entryFrame m #[(.int x0), (.int x1), (.int x2), (.int x3), (.int x4)] maxLocals = mkF m 0 #[.val (.int x0), .val (.int x1), .val (.int x2), .val (.int x3), .val (.int x4), .unset, .unset, .unset, .unset, .unset, .unset, .unset, .unset, .unset, .unset, .unset] [] := by first | (simp [entryFrame, mkF, argsToLocals, Value.category, maxLocals]; done) | rfl
set_option maxRecDepth 65536 in
set_option maxHeartbeats 40000000 in
theorem rm0 (l : Launch) (Z : State) (a0 : Array Value) (hw : ∀ d ∈ tables_1, d.before a0 Z = true) (ws : List Jvm.Cond) (p0 p1 p2 p3 p4 : Int32) (h0 : Heap) (n0 : Nat) (Z0 : n0 ≤ h0.size) (hSt : own_S Z) (O : Old Z n0 h0) (hcw : Jvm.Lit.compactW.before a0 Z = true) (hh7 : Jvm.Lit.constHeld Z "java/lang/String" 7) (hh211 : Jvm.Lit.constHeld Z "com/example/vareso/vareso/vault/ContentNode" 211) (hh213 : Jvm.Lit.constHeld Z "com/example/vareso/vareso/vault/ContentNode" 213) :
    MetFree l x (head1 (Jvm.Cond.code x code maxLocals ret :: ws) room_1) (fun a U => (a = #[(.int p0), (.int p1), (.int p2), (.int p3), (.int p4)] ∧ Z.Warmed39 U.vm ∧ U.heap = h0) ∧ IB Z U.vm []) (fun _ _ _ _ _ => True) (fun _ U o U' => ∃ v L, o = .returned v ∧ (Q_rm0 Z h0 n0 v U'.heap L ∧ True) ∧ ReturnedEndW U o U' L room_1.cells room_1.slots) := by
  refine MetFree.of_bodySF (plainFor_of_name pn_0) hisR ?_
  intro p e s m args below meth c s₁ Bd hml0 hP hK
  obtain ⟨⟨rfl, hZ, hh⟩, I⟩ := hP
  have hx := Bd.exec
  have hby := Bd.bytes
  have hml : c.maxLocals = 16 := hml0
  have hown : s.vm.findClass "com/example/vareso/vareso/vault/ContentNodeIsChildNamePinLaw" = some m.cls := findClass_of_methodNamed Bd.named
  have hnm := (name_of_methodNamed Bd.named Bd.method).1
  have hZ : Z.Warmed39 (s.setVm s.vm).vm := hZ
  have hown : (s.setVm s.vm).vm.findClass "com/example/vareso/vareso/vault/ContentNodeIsChildNamePinLaw" = some m.cls := hown
  have hS : s.Since s.vm 0 := (State.WarmedH.refl s).since 0
  have hk : 0 ≤ h0.size := Nat.zero_le _
  have X0 : Stand p l e room_1 (s.setVm s.vm) m #[(.int p0), (.int p1), (.int p2), (.int p3), (.int p4)] below meth c s₁ [] 0 0 := Stand.of_body Bd
  have e0 : s₁.heap = h0 := by rw [← hh, Bd.state]; rfl
  have N0 := Fr.nil n0
  have K : Keep h0 h0 [] := Keep.refl h0 []
  have hkp : ∀ (b : Addr) (cl : Cell), Z.heap[b]? = some cl → s.heap[b]? = some cl := fun b cl q => by rw [hh]; exact O.2.2 b cl q
  have I : IB Z (s.setVm s.vm).vm [] := I
  obtain ⟨G1, G3, O2, P5, O4, rG3, SA, SB, SC⟩ := id hSt
  show own_Gd p.tables e below (own_PI (Q_rm0 Z h0 n0) (fun vm => True) s room_1.cells room_1.slots) _
  refine own_go (B := s₁.setTop (mkF m 0 #[.val (.int p0), .val (.int p1), .val (.int p2), .val (.int p3), .val (.int p4), .unset, .unset, .unset, .unset, .unset, .unset, .unset, .unset, .unset, .unset, .unset] [])) (fun t k => castTop (ef_rm0 m p0 p1 p2 p3 p4) k) ?_
  refine own_go (B := s₁.setTop (mkF m 25 #[.val (.int p0), .val (.int p1), .val (.int p2), .val (.int p3), .val (.int p4), .val (.int ((p0 &&& (2147483647 : Int32)) % (5 : Int32))), .val (.int (p1.toUInt32.toUInt16.toUInt32.toInt32)), .val (.int (p2.toUInt32.toUInt16.toUInt32.toInt32)), .val (.int (p3.toUInt32.toUInt16.toUInt32.toInt32)), .val (.int (p4.toUInt32.toUInt16.toUInt32.toInt32)), .unset, .unset, .unset, .unset, .unset, .unset] [])) (fun t k => ?_) ?_
  · show Steps p.tables e below (s₁.setTop (mkF m 0 #[.val (.int p0), .val (.int p1), .val (.int p2), .val (.int p3), .val (.int p4), .unset, .unset, .unset, .unset, .unset, .unset, .unset, .unset, .unset, .unset, .unset] [])) _
    refine XS.iloadN X0.here hx rfl (hb hby at_0) rfl ?_
    show Steps p.tables e below (s₁.setTop (mkF m 1 #[.val (.int p0), .val (.int p1), .val (.int p2), .val (.int p3), .val (.int p4), .unset, .unset, .unset, .unset, .unset, .unset, .unset, .unset, .unset, .unset, .unset] [(.int p0)])) _
    refine X0.ldcI hx hown (mvT hZ (hw _ (List.mem_of_getElem? (i := 0) rfl))) (g := (mkF m 1 #[.val (.int p0), .val (.int p1), .val (.int p2), .val (.int p3), .val (.int p4), .unset, .unset, .unset, .unset, .unset, .unset, .unset, .unset, .unset, .unset, .unset] [(.int p0)])) rfl (hb hby at_1) ?_
    refine XS.iand X0.here hx rfl (hb hby at_3) rfl ?_
    refine XS.iconst X0.here hx rfl (hb hby at_4) ?_
    show Steps p.tables e below (s₁.setTop (mkF m 5 #[.val (.int p0), .val (.int p1), .val (.int p2), .val (.int p3), .val (.int p4), .unset, .unset, .unset, .unset, .unset, .unset, .unset, .unset, .unset, .unset, .unset] [(.int (5 : Int32)), (.int (p0 &&& (2147483647 : Int32)))])) _
    refine iremM (g := (mkF m 5 #[.val (.int p0), .val (.int p1), .val (.int p2), .val (.int p3), .val (.int p4), .unset, .unset, .unset, .unset, .unset, .unset, .unset, .unset, .unset, .unset, .unset] [(.int (5 : Int32)), (.int (p0 &&& (2147483647 : Int32)))])) X0 hx rfl (hb hby at_5) rfl (by decide) ?_
    refine XS.istore X0.here hx rfl (hb hby at_6) rfl (l' := #[.val (.int p0), .val (.int p1), .val (.int p2), .val (.int p3), .val (.int p4), .val (.int ((p0 &&& (2147483647 : Int32)) % (5 : Int32))), .unset, .unset, .unset, .unset, .unset, .unset, .unset, .unset, .unset, .unset]) rfl ?_
    refine XS.iloadN X0.here hx rfl (hb hby at_8) rfl ?_
    refine XS.i2c X0.here hx rfl (hb hby at_9) rfl ?_
    refine XS.istore X0.here hx rfl (hb hby at_10) rfl (l' := #[.val (.int p0), .val (.int p1), .val (.int p2), .val (.int p3), .val (.int p4), .val (.int ((p0 &&& (2147483647 : Int32)) % (5 : Int32))), .val (.int (p1.toUInt32.toUInt16.toUInt32.toInt32)), .unset, .unset, .unset, .unset, .unset, .unset, .unset, .unset, .unset]) rfl ?_
    show Steps p.tables e below (s₁.setTop (mkF m 12 #[.val (.int p0), .val (.int p1), .val (.int p2), .val (.int p3), .val (.int p4), .val (.int ((p0 &&& (2147483647 : Int32)) % (5 : Int32))), .val (.int (p1.toUInt32.toUInt16.toUInt32.toInt32)), .unset, .unset, .unset, .unset, .unset, .unset, .unset, .unset, .unset] [])) _
    refine XS.iloadN X0.here hx rfl (hb hby at_12) rfl ?_
    refine XS.i2c X0.here hx rfl (hb hby at_13) rfl ?_
    refine XS.istore X0.here hx rfl (hb hby at_14) rfl (l' := #[.val (.int p0), .val (.int p1), .val (.int p2), .val (.int p3), .val (.int p4), .val (.int ((p0 &&& (2147483647 : Int32)) % (5 : Int32))), .val (.int (p1.toUInt32.toUInt16.toUInt32.toInt32)), .val (.int (p2.toUInt32.toUInt16.toUInt32.toInt32)), .unset, .unset, .unset, .unset, .unset, .unset, .unset, .unset]) rfl ?_
    refine XS.iloadN X0.here hx rfl (hb hby at_16) rfl ?_
    refine XS.i2c X0.here hx rfl (hb hby at_17) rfl ?_
    show Steps p.tables e below (s₁.setTop (mkF m 18 #[.val (.int p0), .val (.int p1), .val (.int p2), .val (.int p3), .val (.int p4), .val (.int ((p0 &&& (2147483647 : Int32)) % (5 : Int32))), .val (.int (p1.toUInt32.toUInt16.toUInt32.toInt32)), .val (.int (p2.toUInt32.toUInt16.toUInt32.toInt32)), .unset, .unset, .unset, .unset, .unset, .unset, .unset, .unset] [(.int (p3.toUInt32.toUInt16.toUInt32.toInt32))])) _
    refine XS.istore X0.here hx rfl (hb hby at_18) rfl (l' := #[.val (.int p0), .val (.int p1), .val (.int p2), .val (.int p3), .val (.int p4), .val (.int ((p0 &&& (2147483647 : Int32)) % (5 : Int32))), .val (.int (p1.toUInt32.toUInt16.toUInt32.toInt32)), .val (.int (p2.toUInt32.toUInt16.toUInt32.toInt32)), .val (.int (p3.toUInt32.toUInt16.toUInt32.toInt32)), .unset, .unset, .unset, .unset, .unset, .unset, .unset]) rfl ?_
    refine XS.iload X0.here hx rfl (hb hby at_20) rfl ?_
    refine XS.i2c X0.here hx rfl (hb hby at_22) rfl ?_
    refine XS.istore X0.here hx rfl (hb hby at_23) rfl (l' := #[.val (.int p0), .val (.int p1), .val (.int p2), .val (.int p3), .val (.int p4), .val (.int ((p0 &&& (2147483647 : Int32)) % (5 : Int32))), .val (.int (p1.toUInt32.toUInt16.toUInt32.toInt32)), .val (.int (p2.toUInt32.toUInt16.toUInt32.toInt32)), .val (.int (p3.toUInt32.toUInt16.toUInt32.toInt32)), .val (.int (p4.toUInt32.toUInt16.toUInt32.toInt32)), .unset, .unset, .unset, .unset, .unset, .unset]) rfl ?_
    exact k
  obtain ⟨u0, hu0⟩ : ∃ u : UInt16, (p1.toUInt32.toUInt16.toUInt32.toInt32) = own_w u := ⟨p1.toUInt32.toUInt16, rfl⟩
  rw [hu0]
  obtain ⟨u1, hu1⟩ : ∃ u : UInt16, (p2.toUInt32.toUInt16.toUInt32.toInt32) = own_w u := ⟨p2.toUInt32.toUInt16, rfl⟩
  rw [hu1]
  obtain ⟨u2, hu2⟩ : ∃ u : UInt16, (p3.toUInt32.toUInt16.toUInt32.toInt32) = own_w u := ⟨p3.toUInt32.toUInt16, rfl⟩
  rw [hu2]
  obtain ⟨u3, hu3⟩ : ∃ u : UInt16, (p4.toUInt32.toUInt16.toUInt32.toInt32) = own_w u := ⟨p4.toUInt32.toUInt16, rfl⟩
  rw [hu3]
  have J78 : ∀ (TJ : State) (LJ : List Loc) (XJ : Stand p l e room_1 (s.setVm s.vm) m #[(.int p0), (.int p1), (.int p2), (.int p3), (.int p4)] below meth c TJ LJ 1 4) (NJ : Fr n0 LJ) (hJ : Heap) (eJ : TJ.heap = hJ) (Z0 : n0 ≤ hJ.size) (K : Keep h0 hJ []) (O : Old Z n0 hJ) (bJ : Addr) (kJ : ClassId) (cs : List UInt16) (nn : Int32) (V_bJ : Arv Z hJ bJ kJ .char nn (own_ch cs) (.int (0 : Int32))) (hcs : own_C u0 u1 u2 u3 cs nn), own_Gd p.tables e below (own_PI (Q_rm0 Z h0 n0) (fun vm => True) s room_1.cells room_1.slots) (TJ.setTop (mkF m 78 #[.val (.int p0), .val (.int p1), .val (.int p2), .val (.int p3), .val (.int p4), .val (.int nn), .val (.int (own_w u0)), .val (.int (own_w u1)), .val (.int (own_w u2)), .val (.int (own_w u3)), .val (.ref bJ), .unset, .unset, .unset, .unset, .unset] [])) := by
    intro TJ LJ XJ NJ hJ eJ Z0 K O bJ kJ cs nn V_bJ hcs
    have hk : 0 ≤ hJ.size := Nat.zero_le _
    obtain ⟨T1, h1, X1, e1, E1, A1, D1, U1, st1⟩ := newO XJ hx hZ hown (hw _ (List.mem_of_getElem? (i := 2) rfl)) (hw _ (List.mem_of_getElem? (i := 3) rfl)) (hw _ (List.mem_of_getElem? (i := 4) rfl)) eJ (g := (mkF m 78 #[.val (.int p0), .val (.int p1), .val (.int p2), .val (.int p3), .val (.int p4), .val (.int nn), .val (.int (own_w u0)), .val (.int (own_w u1)), .val (.int (own_w u2)), .val (.int (own_w u3)), .val (.ref bJ), .unset, .unset, .unset, .unset, .unset] [])) rfl (hb hby at_78) (by decide) (by decide)
    obtain ⟨b1, g1⟩ : ∃ z, z = hJ.size := ⟨_, rfl⟩
    rw [← g1] at A1 D1 U1 st1
    have ne_bJ_b1 : bJ ≠ b1 := Nat.ne_of_lt (Nat.lt_of_lt_of_le V_bJ.lt (Nat.le_of_eq g1.symm))
    have g_b1 : n0 ≤ b1 := Nat.le_trans Z0 (Nat.le_of_eq g1.symm)
    have sz_b1 : h0.size ≤ b1 := Nat.le_trans K.1 (Nat.le_of_eq g1.symm)
    have V_bJ := V_bJ.ext E1
    have K := K.ext E1
    have Z0 := Nat.le_trans Z0 E1.1
    have O := O.ext E1
    have hk := Nat.le_trans hk E1.1
    have E_b1 := A1
    have F_value_b1 : Fld Z h1 b1 "java/lang/String" "value" "[B" .null := D1 (Or.inr (hw _ (List.mem_of_getElem? (i := 17) rfl))) (ty := (.array .byte)) (by decide)
    have F_coder_b1 : Fld Z h1 b1 "java/lang/String" "coder" "B" (.int (0 : Int32)) := D1 (Or.inr (hw _ (List.mem_of_getElem? (i := 18) rfl))) (ty := .byte) (by decide)
    refine own_go (B := T1.setTop (mkF m 81 #[.val (.int p0), .val (.int p1), .val (.int p2), .val (.int p3), .val (.int p4), .val (.int nn), .val (.int (own_w u0)), .val (.int (own_w u1)), .val (.int (own_w u2)), .val (.int (own_w u3)), .val (.ref bJ), .unset, .unset, .unset, .unset, .unset] [(.ref b1)])) st1 ?_
    refine own_go (B := T1.setTop (mkF m 84 #[.val (.int p0), .val (.int p1), .val (.int p2), .val (.int p3), .val (.int p4), .val (.int nn), .val (.int (own_w u0)), .val (.int (own_w u1)), .val (.int (own_w u2)), .val (.int (own_w u3)), .val (.ref bJ), .unset, .unset, .unset, .unset, .unset] [(.ref bJ), (.ref b1), (.ref b1)])) (fun t k => ?_) ?_
    · show Steps p.tables e below (T1.setTop (mkF m 81 #[.val (.int p0), .val (.int p1), .val (.int p2), .val (.int p3), .val (.int p4), .val (.int nn), .val (.int (own_w u0)), .val (.int (own_w u1)), .val (.int (own_w u2)), .val (.int (own_w u3)), .val (.ref bJ), .unset, .unset, .unset, .unset, .unset] [(.ref b1)])) _
      refine XS.dup X1.here hx rfl (hb hby at_81) rfl rfl ?_
      refine XS.aload X1.here hx rfl (hb hby at_82) rfl rfl ?_
      exact k
    obtain ⟨_, _, ⟨T2, L2, k2, n2⟩, -, X2, hS2, hg2, ⟨Lc2, hQ2, l2, y2, z2⟩, st2⟩ := X1.specialBackS hx (y := (⟨"java/lang/String", "<init>", "([C)V"⟩ : MethodName)) rfl hown (mvT hZ (hw _ (List.mem_of_getElem? (i := 5) rfl))) (mvT hZ (hw _ (List.mem_of_getElem? (i := 6) rfl))) (mvT hZ (hw _ (List.mem_of_getElem? (i := 7) rfl))) (by decide) (own_backI (s := (s.setVm s.vm)) (W := 1) (J := fun vm => IB Z vm [""]) (rm1 l Z a0 hw [] b1 bJ kJ cs nn h1 n0 Z0 E_b1 F_value_b1 F_coder_b1 V_bJ g_b1 (own_CL hcs) hSt O hcw hh7) I hZ (hw _ (List.mem_of_getElem? (i := 7) rfl)) (hw _ (List.mem_of_getElem? (i := 4) rfl)) (by decide) (by decide)) (g := (mkF m 84 #[.val (.int p0), .val (.int p1), .val (.int p2), .val (.int p3), .val (.int p4), .val (.int nn), .val (.int (own_w u0)), .val (.int (own_w u1)), .val (.int (own_w u2)), .val (.int (own_w u3)), .val (.ref bJ), .unset, .unset, .unset, .unset, .unset] [(.ref bJ), (.ref b1), (.ref b1)])) rfl (by rw [hml]; rfl) (Steps.refl _) (a := b1) (argsL := [(.ref bJ)]) (rest := [(.ref b1)]) (lenOf pd_20 rfl) rfl (by show 2 * 0 + _ ≤ _; exact Nat.le_of_eq rfl) (hb hby at_84) (fun _ _ => ⟨rfl, e1, Nat.le_of_ble_eq_true rfl, Nat.le_of_ble_eq_true rfl⟩)
    dsimp only [Pt.U, Pt.locs, Pt.cells, Pt.slots] at hS2 hg2
    dsimp only [Pt.U, Pt.locs, Pt.cells, Pt.slots] at X2 l2 y2 z2 st2 hQ2
    subst l2 y2 z2
    obtain ⟨h2, e2⟩ : ∃ z, T2.heap = z := ⟨_, rfl⟩
    rw [e2] at hQ2
    obtain ⟨hQ2, hI2⟩ := hQ2
    obtain ⟨rfl, N2q, Kc2, Ec2, tb2, kb2, cd2, zz2, vs2, hE2, Fc2, Fv2, Vc2⟩ := hQ2
    have N2 := Fr.app NJ N2q
    obtain ⟨X2, hS, hZ, hown⟩ := rebS hS (by rw [e1]; exact hk) X2 hS2 hg2 hZ hown
    rw [e2] at hS
    have hk : h2.size ≤ h2.size := Nat.le_refl _
    have I : IB Z (s.setVm T2.vm).vm [""] := hI2
    have E_b1 := E_b1.keep Kc2
    have K := K.trans Kc2 (allS (Or.inr sz_b1) all0)
    have Z0 := Nat.le_trans Z0 Kc2.1
    have O := O.keep Kc2 (allS g_b1 all0)
    have E_b1 := Ec2
    refine own_go (B := T2.setTop (mkF m 87 #[.val (.int p0), .val (.int p1), .val (.int p2), .val (.int p3), .val (.int p4), .val (.int nn), .val (.int (own_w u0)), .val (.int (own_w u1)), .val (.int (own_w u2)), .val (.int (own_w u3)), .val (.ref bJ), .unset, .unset, .unset, .unset, .unset] [(.ref b1)])) (fun t k => st2.trans k) ?_
    refine own_go (B := T2.setTop (mkF m 89 #[.val (.int p0), .val (.int p1), .val (.int p2), .val (.int p3), .val (.int p4), .val (.int nn), .val (.int (own_w u0)), .val (.int (own_w u1)), .val (.int (own_w u2)), .val (.int (own_w u3)), .val (.ref bJ), .val (.ref b1), .unset, .unset, .unset, .unset] [])) (fun t k => ?_) ?_
    · show Steps p.tables e below (T2.setTop (mkF m 87 #[.val (.int p0), .val (.int p1), .val (.int p2), .val (.int p3), .val (.int p4), .val (.int nn), .val (.int (own_w u0)), .val (.int (own_w u1)), .val (.int (own_w u2)), .val (.int (own_w u3)), .val (.ref bJ), .unset, .unset, .unset, .unset, .unset] [(.ref b1)])) _
      refine XS.astore X2.here hx rfl (hb hby at_87) rfl rfl (l' := #[.val (.int p0), .val (.int p1), .val (.int p2), .val (.int p3), .val (.int p4), .val (.int nn), .val (.int (own_w u0)), .val (.int (own_w u1)), .val (.int (own_w u2)), .val (.int (own_w u3)), .val (.ref bJ), .val (.ref b1), .unset, .unset, .unset, .unset]) rfl ?_
      exact k
    have J214 : ∀ (TJ : State) (LJ : List Loc) (XJ : Stand p l e room_1 (s.setVm T2.vm) m #[(.int p0), (.int p1), (.int p2), (.int p3), (.int p4)] below meth c TJ LJ 4 20) (NJ : Fr n0 LJ) (eJ : TJ.heap = h2) (w12 : Int32) (w13 : Int32) (w14 : Int32) (v15 : Int32), ((v15 = (0 : Int32) ∨ v15 = (1 : Int32)) ∧ (v15 = (1 : Int32) ↔ own_ok cs)) → own_Gd p.tables e below (own_PI (Q_rm0 Z h0 n0) (fun vm => True) s room_1.cells room_1.slots) (TJ.setTop (mkF m 214 #[.val (.int p0), .val (.int p1), .val (.int p2), .val (.int p3), .val (.int p4), .val (.int nn), .val (.int (own_w u0)), .val (.int (own_w u1)), .val (.int (own_w u2)), .val (.int (own_w u3)), .val (.ref bJ), .val (.ref b1), .val (.int w12), .val (.int w13), .val (.int w14), .unset] [(.int v15)])) := by
      intro T3 L3 X3 N3 e3 w12 w13 w14 v15 hv15
      refine own_go (B := T3.setTop (mkF m 218 #[.val (.int p0), .val (.int p1), .val (.int p2), .val (.int p3), .val (.int p4), .val (.int nn), .val (.int (own_w u0)), .val (.int (own_w u1)), .val (.int (own_w u2)), .val (.int (own_w u3)), .val (.ref bJ), .val (.ref b1), .val (.int w12), .val (.int w13), .val (.int w14), .val (.int v15)] [(.ref b1)])) (fun t k => ?_) ?_
      · show Steps p.tables e below (T3.setTop (mkF m 214 #[.val (.int p0), .val (.int p1), .val (.int p2), .val (.int p3), .val (.int p4), .val (.int nn), .val (.int (own_w u0)), .val (.int (own_w u1)), .val (.int (own_w u2)), .val (.int (own_w u3)), .val (.ref bJ), .val (.ref b1), .val (.int w12), .val (.int w13), .val (.int w14), .unset] [(.int v15)])) _
        refine XS.istore X3.here hx rfl (hb hby at_214) rfl (l' := #[.val (.int p0), .val (.int p1), .val (.int p2), .val (.int p3), .val (.int p4), .val (.int nn), .val (.int (own_w u0)), .val (.int (own_w u1)), .val (.int (own_w u2)), .val (.int (own_w u3)), .val (.ref bJ), .val (.ref b1), .val (.int w12), .val (.int w13), .val (.int w14), .val (.int v15)]) rfl ?_
        refine XS.aload X3.here hx rfl (hb hby at_216) rfl rfl ?_
        exact k
      obtain ⟨_, _, ⟨T4, L4, k4, n4⟩, -, X4, hS4, hg4, ⟨Lc4, hQ4, l4, y4, z4⟩, st4⟩ := callSS X3 hx (y := (⟨"com/example/vareso/vareso/vault/ContentNode", "isChildName", "(Ljava/lang/String;)Z"⟩ : MethodName)) hown (mvT hZ (hw _ (List.mem_of_getElem? (i := 23) rfl))) (mvT hZ (hw _ (List.mem_of_getElem? (i := 24) rfl))) (mvT hZ (hw _ (List.mem_of_getElem? (i := 25) rfl))) (mvT hZ (hw _ (List.mem_of_getElem? (i := 26) rfl))) (by decide) (own_backI (s := (s.setVm T2.vm)) (W := 0) (J := fun vm => True) (rm4 l Z a0 hw [] b1 tb2 kb2 cs nn cd2 zz2 vs2 h2 n0 Z0 E_b1 Fv2 Fc2 Vc2 hE2 hSt O hcw hh211 hh213) I hZ (hw _ (List.mem_of_getElem? (i := 26) rfl)) (hw _ (List.mem_of_getElem? (i := 25) rfl)) (by decide) (by decide)) (g := (mkF m 218 #[.val (.int p0), .val (.int p1), .val (.int p2), .val (.int p3), .val (.int p4), .val (.int nn), .val (.int (own_w u0)), .val (.int (own_w u1)), .val (.int (own_w u2)), .val (.int (own_w u3)), .val (.ref bJ), .val (.ref b1), .val (.int w12), .val (.int w13), .val (.int w14), .val (.int v15)] [(.ref b1)])) rfl (by rw [hml]; rfl) (argsL := [(.ref b1)]) (rest := []) (lenOf pd_21 rfl) rfl (by show 2 * 0 + _ ≤ _; exact Nat.le_of_eq rfl) (hb hby at_218) (fun _ _ => ⟨rfl, e3, Nat.le_of_ble_eq_true rfl, Nat.le_of_ble_eq_true rfl⟩)
      dsimp only [Pt.U, Pt.locs, Pt.cells, Pt.slots] at hS4 hg4
      dsimp only [Pt.U, Pt.locs, Pt.cells, Pt.slots] at X4 l4 y4 z4 st4 hQ4
      subst l4 y4 z4
      obtain ⟨h4, e4⟩ : ∃ z, T4.heap = z := ⟨_, rfl⟩
      rw [e4] at hQ4
      obtain ⟨hQ4, hI4⟩ := hQ4
      obtain ⟨r4, rfl, N4q, Kc4, hr4⟩ := hQ4
      have N4 := Fr.app N3 N4q
      obtain ⟨X4, hS, hZ, hown⟩ := rebS hS (by rw [e3]; exact hk) X4 hS4 hg4 hZ hown
      rw [e4] at hS
      have hk : h4.size ≤ h4.size := Nat.le_refl _
      have K := K.trans Kc4 all0
      have Z0 := Nat.le_trans Z0 Kc4.1
      have O := O.keep Kc4 all0
      refine own_go (B := T4.setTop (mkF m 221 #[.val (.int p0), .val (.int p1), .val (.int p2), .val (.int p3), .val (.int p4), .val (.int nn), .val (.int (own_w u0)), .val (.int (own_w u1)), .val (.int (own_w u2)), .val (.int (own_w u3)), .val (.ref bJ), .val (.ref b1), .val (.int w12), .val (.int w13), .val (.int w14), .val (.int v15)] [(.int r4)])) (fun t k => st4.trans k) ?_
      refine own_go (B := T4.setTop (mkF m 231 #[.val (.int p0), .val (.int p1), .val (.int p2), .val (.int p3), .val (.int p4), .val (.int nn), .val (.int (own_w u0)), .val (.int (own_w u1)), .val (.int (own_w u2)), .val (.int (own_w u3)), .val (.ref bJ), .val (.ref b1), .val (.int w12), .val (.int w13), .val (.int w14), .val (.int v15)] [(.int (1 : Int32))])) (fun t k => ?_) ?_
      · show Steps p.tables e below (T4.setTop (mkF m 221 #[.val (.int p0), .val (.int p1), .val (.int p2), .val (.int p3), .val (.int p4), .val (.int nn), .val (.int (own_w u0)), .val (.int (own_w u1)), .val (.int (own_w u2)), .val (.int (own_w u3)), .val (.ref bJ), .val (.ref b1), .val (.int w12), .val (.int w13), .val (.int w14), .val (.int v15)] [(.int r4)])) _
        refine XS.iload X4.here hx rfl (hb hby at_221) rfl ?_
        refine XS.icmpNo X4.here hx rfl (hb hby at_223) rfl (teq (own_agree hr4 hv15 : r4 = v15)).2 ?_
        refine XS.iconst X4.here hx rfl (hb hby at_226) ?_
        refine XS.goto X4.here hx rfl (pc0 := 227) (pc' := 231) rfl (hb hby at_227) (by decide) (by decide) ?_
        exact k
      obtain ⟨fs, hr, hrun, hended, hRW⟩ := X4.leaveW hS (by rw [e4]; exact hk) (v := some (.int (1 : Int32))) (fun h => by rw [Bd.returns] at h; cases h)
      refine own_done (retN X4 hx (t := .boolean) Bd.returns (by simp) (hb hby at_231) hr) hrun hended ⟨_, _, rfl, ⟨?_, trivial⟩, hRW.1, hRW.2.1, hRW.2.2.1, hRW.2.2.2.mono (by decide) (by decide)⟩
      show Q_rm0 Z h0 n0 (some (.int (1 : Int32))) T4.heap _
      rw [e4]
      exact ⟨rfl, N4⟩
    rcases hcs with ⟨rfl, rfl⟩ | ⟨rfl, rfl⟩ | ⟨rfl, rfl⟩ | ⟨rfl, rfl⟩ | ⟨rfl, rfl⟩
    · have J145 : ∀ (TJ : State) (LJ : List Loc) (XJ : Stand p l e room_1 (s.setVm T2.vm) m #[(.int p0), (.int p1), (.int p2), (.int p3), (.int p4)] below meth c TJ LJ 4 20) (NJ : Fr n0 LJ) (eJ : TJ.heap = h2) (v12 : Int32), ((v12 = (0 : Int32) ∨ v12 = (1 : Int32)) ∧ (v12 = (1 : Int32) ↔ own_has ([] : List UInt16))) → own_Gd p.tables e below (own_PI (Q_rm0 Z h0 n0) (fun vm => True) s room_1.cells room_1.slots) (TJ.setTop (mkF m 145 #[.val (.int p0), .val (.int p1), .val (.int p2), .val (.int p3), .val (.int p4), .val (.int (0 : Int32)), .val (.int (own_w u0)), .val (.int (own_w u1)), .val (.int (own_w u2)), .val (.int (own_w u3)), .val (.ref bJ), .val (.ref b1), .unset, .unset, .unset, .unset] [(.int v12)])) := by
        intro T5 L5 X5 N5 e5 v12 hv12
        refine own_go (B := T5.setTop (mkF m 196 #[.val (.int p0), .val (.int p1), .val (.int p2), .val (.int p3), .val (.int p4), .val (.int (0 : Int32)), .val (.int (own_w u0)), .val (.int (own_w u1)), .val (.int (own_w u2)), .val (.int (own_w u3)), .val (.ref bJ), .val (.ref b1), .val (.int v12), .val (.int (0 : Int32)), .val (.int (0 : Int32)), .unset] [(.int v12)])) (fun t k => ?_) ?_
        · show Steps p.tables e below (T5.setTop (mkF m 145 #[.val (.int p0), .val (.int p1), .val (.int p2), .val (.int p3), .val (.int p4), .val (.int (0 : Int32)), .val (.int (own_w u0)), .val (.int (own_w u1)), .val (.int (own_w u2)), .val (.int (own_w u3)), .val (.ref bJ), .val (.ref b1), .unset, .unset, .unset, .unset] [(.int v12)])) _
          refine XS.istore X5.here hx rfl (hb hby at_145) rfl (l' := #[.val (.int p0), .val (.int p1), .val (.int p2), .val (.int p3), .val (.int p4), .val (.int (0 : Int32)), .val (.int (own_w u0)), .val (.int (own_w u1)), .val (.int (own_w u2)), .val (.int (own_w u3)), .val (.ref bJ), .val (.ref b1), .val (.int v12), .unset, .unset, .unset]) rfl ?_
          refine XS.iload X5.here hx rfl (hb hby at_147) rfl ?_
          refine XS.iconst X5.here hx rfl (hb hby at_149) ?_
          refine XS.icmpYes X5.here hx rfl (pc0 := 150) (pc' := 164) rfl (hb hby at_150) rfl (feq (by decide : ¬ ((0 : Int32) = (1 : Int32)))).2 (by decide) (by decide) ?_
          refine XS.iconst X5.here hx rfl (hb hby at_164) ?_
          show Steps p.tables e below (T5.setTop (mkF m 165 #[.val (.int p0), .val (.int p1), .val (.int p2), .val (.int p3), .val (.int p4), .val (.int (0 : Int32)), .val (.int (own_w u0)), .val (.int (own_w u1)), .val (.int (own_w u2)), .val (.int (own_w u3)), .val (.ref bJ), .val (.ref b1), .val (.int v12), .unset, .unset, .unset] [(.int (0 : Int32))])) _
          refine XS.istore X5.here hx rfl (hb hby at_165) rfl (l' := #[.val (.int p0), .val (.int p1), .val (.int p2), .val (.int p3), .val (.int p4), .val (.int (0 : Int32)), .val (.int (own_w u0)), .val (.int (own_w u1)), .val (.int (own_w u2)), .val (.int (own_w u3)), .val (.ref bJ), .val (.ref b1), .val (.int v12), .val (.int (0 : Int32)), .unset, .unset]) rfl ?_
          refine XS.iload X5.here hx rfl (hb hby at_167) rfl ?_
          refine XS.iconst X5.here hx rfl (hb hby at_169) ?_
          refine XS.icmpYes X5.here hx rfl (pc0 := 170) (pc' := 191) rfl (hb hby at_170) rfl (feq (by decide : ¬ ((0 : Int32) = (2 : Int32)))).2 (by decide) (by decide) ?_
          refine XS.iconst X5.here hx rfl (hb hby at_191) ?_
          show Steps p.tables e below (T5.setTop (mkF m 192 #[.val (.int p0), .val (.int p1), .val (.int p2), .val (.int p3), .val (.int p4), .val (.int (0 : Int32)), .val (.int (own_w u0)), .val (.int (own_w u1)), .val (.int (own_w u2)), .val (.int (own_w u3)), .val (.ref bJ), .val (.ref b1), .val (.int v12), .val (.int (0 : Int32)), .unset, .unset] [(.int (0 : Int32))])) _
          refine XS.istore X5.here hx rfl (hb hby at_192) rfl (l' := #[.val (.int p0), .val (.int p1), .val (.int p2), .val (.int p3), .val (.int p4), .val (.int (0 : Int32)), .val (.int (own_w u0)), .val (.int (own_w u1)), .val (.int (own_w u2)), .val (.int (own_w u3)), .val (.ref bJ), .val (.ref b1), .val (.int v12), .val (.int (0 : Int32)), .val (.int (0 : Int32)), .unset]) rfl ?_
          refine XS.iload X5.here hx rfl (hb hby at_194) rfl ?_
          exact k
        by_cases hc196 : v12 = (0 : Int32)
        · refine own_go (B := T5.setTop (mkF m 214 #[.val (.int p0), .val (.int p1), .val (.int p2), .val (.int p3), .val (.int p4), .val (.int (0 : Int32)), .val (.int (own_w u0)), .val (.int (own_w u1)), .val (.int (own_w u2)), .val (.int (own_w u3)), .val (.ref bJ), .val (.ref b1), .val (.int v12), .val (.int (0 : Int32)), .val (.int (0 : Int32)), .unset] [(.int (1 : Int32))])) (fun t k => ?_) ?_
          · show Steps p.tables e below (T5.setTop (mkF m 196 #[.val (.int p0), .val (.int p1), .val (.int p2), .val (.int p3), .val (.int p4), .val (.int (0 : Int32)), .val (.int (own_w u0)), .val (.int (own_w u1)), .val (.int (own_w u2)), .val (.int (own_w u3)), .val (.ref bJ), .val (.ref b1), .val (.int v12), .val (.int (0 : Int32)), .val (.int (0 : Int32)), .unset] [(.int v12)])) _
            refine XS.ifNo X5.here hx rfl (hb hby at_196) rfl ((if0 _ _).trans (teq hc196).2) ?_
            refine XS.iload X5.here hx rfl (hb hby at_199) rfl ?_
            refine XS.ifNo X5.here hx rfl (hb hby at_201) rfl ((if0 _ _).trans (teq ((rfl : (0 : Int32) = (0 : Int32)) : (0 : Int32) = (0 : Int32))).2) ?_
            refine XS.iload X5.here hx rfl (hb hby at_204) rfl ?_
            refine XS.ifNo X5.here hx rfl (hb hby at_206) rfl ((if0 _ _).trans (teq ((rfl : (0 : Int32) = (0 : Int32)) : (0 : Int32) = (0 : Int32))).2) ?_
            show Steps p.tables e below (T5.setTop (mkF m 209 #[.val (.int p0), .val (.int p1), .val (.int p2), .val (.int p3), .val (.int p4), .val (.int (0 : Int32)), .val (.int (own_w u0)), .val (.int (own_w u1)), .val (.int (own_w u2)), .val (.int (own_w u3)), .val (.ref bJ), .val (.ref b1), .val (.int v12), .val (.int (0 : Int32)), .val (.int (0 : Int32)), .unset] [])) _
            refine XS.iconst X5.here hx rfl (hb hby at_209) ?_
            refine XS.goto X5.here hx rfl (pc0 := 210) (pc' := 214) rfl (hb hby at_210) (by decide) (by decide) ?_
            exact k
          exact J214 _ _ (X5.mono (by decide) (by decide)) N5 e5 v12 (0 : Int32) (0 : Int32) (1 : Int32) ⟨Or.inr rfl, ⟨fun _ => ⟨own_len1 (by simp), own_len2 (by simp), fun q => absurd (hv12.2.2 q) (by rw [hc196]; decide)⟩, fun _ => rfl⟩⟩
        · refine own_go (B := T5.setTop (mkF m 214 #[.val (.int p0), .val (.int p1), .val (.int p2), .val (.int p3), .val (.int p4), .val (.int (0 : Int32)), .val (.int (own_w u0)), .val (.int (own_w u1)), .val (.int (own_w u2)), .val (.int (own_w u3)), .val (.ref bJ), .val (.ref b1), .val (.int v12), .val (.int (0 : Int32)), .val (.int (0 : Int32)), .unset] [(.int (0 : Int32))])) (fun t k => ?_) ?_
          · show Steps p.tables e below (T5.setTop (mkF m 196 #[.val (.int p0), .val (.int p1), .val (.int p2), .val (.int p3), .val (.int p4), .val (.int (0 : Int32)), .val (.int (own_w u0)), .val (.int (own_w u1)), .val (.int (own_w u2)), .val (.int (own_w u3)), .val (.ref bJ), .val (.ref b1), .val (.int v12), .val (.int (0 : Int32)), .val (.int (0 : Int32)), .unset] [(.int v12)])) _
            refine XS.ifYes X5.here hx rfl (pc0 := 196) (pc' := 213) rfl (hb hby at_196) rfl ((if0 _ _).trans (feq hc196).2) (by decide) (by decide) ?_
            refine XS.iconst X5.here hx rfl (hb hby at_213) ?_
            exact k
          exact J214 _ _ (X5.mono (by decide) (by decide)) N5 e5 v12 (0 : Int32) (0 : Int32) (0 : Int32) ⟨Or.inl rfl, ⟨fun q => absurd q (by decide), fun q => absurd (hv12.2.1 (hv12.1.resolve_left hc196)) q.2.2⟩⟩
      refine own_go (B := T2.setTop (mkF m 145 #[.val (.int p0), .val (.int p1), .val (.int p2), .val (.int p3), .val (.int p4), .val (.int (0 : Int32)), .val (.int (own_w u0)), .val (.int (own_w u1)), .val (.int (own_w u2)), .val (.int (own_w u3)), .val (.ref bJ), .val (.ref b1), .unset, .unset, .unset, .unset] [(.int (0 : Int32))])) (fun t k => ?_) ?_
      · show Steps p.tables e below (T2.setTop (mkF m 89 #[.val (.int p0), .val (.int p1), .val (.int p2), .val (.int p3), .val (.int p4), .val (.int (0 : Int32)), .val (.int (own_w u0)), .val (.int (own_w u1)), .val (.int (own_w u2)), .val (.int (own_w u3)), .val (.ref bJ), .val (.ref b1), .unset, .unset, .unset, .unset] [])) _
        refine XS.iload X2.here hx rfl (hb hby at_89) rfl ?_
        refine XS.ifYes X2.here hx rfl (pc0 := 91) (pc' := 101) rfl (hb hby at_91) rfl ((if0 _ _).trans (flt (by decide : ¬ ((0 : Int32) < (0 : Int32)))).2.2.2) (by decide) (by decide) ?_
        refine XS.iload X2.here hx rfl (hb hby at_101) rfl ?_
        refine XS.iconst X2.here hx rfl (hb hby at_103) ?_
        refine XS.icmpYes X2.here hx rfl (pc0 := 104) (pc' := 114) rfl (hb hby at_104) rfl (flt (by decide : ¬ ((1 : Int32) < (0 : Int32)))).2.2.2 (by decide) (by decide) ?_
        show Steps p.tables e below (T2.setTop (mkF m 114 #[.val (.int p0), .val (.int p1), .val (.int p2), .val (.int p3), .val (.int p4), .val (.int (0 : Int32)), .val (.int (own_w u0)), .val (.int (own_w u1)), .val (.int (own_w u2)), .val (.int (own_w u3)), .val (.ref bJ), .val (.ref b1), .unset, .unset, .unset, .unset] [])) _
        refine XS.iload X2.here hx rfl (hb hby at_114) rfl ?_
        refine XS.iconst X2.here hx rfl (hb hby at_116) ?_
        refine XS.icmpYes X2.here hx rfl (pc0 := 117) (pc' := 127) rfl (hb hby at_117) rfl (flt (by decide : ¬ ((2 : Int32) < (0 : Int32)))).2.2.2 (by decide) (by decide) ?_
        refine XS.iload X2.here hx rfl (hb hby at_127) rfl ?_
        refine XS.iconst X2.here hx rfl (hb hby at_129) ?_
        show Steps p.tables e below (T2.setTop (mkF m 130 #[.val (.int p0), .val (.int p1), .val (.int p2), .val (.int p3), .val (.int p4), .val (.int (0 : Int32)), .val (.int (own_w u0)), .val (.int (own_w u1)), .val (.int (own_w u2)), .val (.int (own_w u3)), .val (.ref bJ), .val (.ref b1), .unset, .unset, .unset, .unset] [(.int (3 : Int32)), (.int (0 : Int32))])) _
        refine XS.icmpYes X2.here hx rfl (pc0 := 130) (pc' := 144) rfl (hb hby at_130) rfl (flt (by decide : ¬ ((3 : Int32) < (0 : Int32)))).2.2.2 (by decide) (by decide) ?_
        refine XS.iconst X2.here hx rfl (hb hby at_144) ?_
        exact k
      exact J145 _ _ (X2.mono (by decide) (by decide)) N2 e2 (0 : Int32) ⟨Or.inl rfl, ⟨fun q => absurd q (by decide), fun q => absurd q (own_not own_alln)⟩⟩
    · have J145 : ∀ (TJ : State) (LJ : List Loc) (XJ : Stand p l e room_1 (s.setVm T2.vm) m #[(.int p0), (.int p1), (.int p2), (.int p3), (.int p4)] below meth c TJ LJ 4 20) (NJ : Fr n0 LJ) (eJ : TJ.heap = h2) (v12 : Int32), ((v12 = (0 : Int32) ∨ v12 = (1 : Int32)) ∧ (v12 = (1 : Int32) ↔ own_has ([u0] : List UInt16))) → own_Gd p.tables e below (own_PI (Q_rm0 Z h0 n0) (fun vm => True) s room_1.cells room_1.slots) (TJ.setTop (mkF m 145 #[.val (.int p0), .val (.int p1), .val (.int p2), .val (.int p3), .val (.int p4), .val (.int (1 : Int32)), .val (.int (own_w u0)), .val (.int (own_w u1)), .val (.int (own_w u2)), .val (.int (own_w u3)), .val (.ref bJ), .val (.ref b1), .unset, .unset, .unset, .unset] [(.int v12)])) := by
        intro T6 L6 X6 N6 e6 v12 hv12
        refine own_go (B := T6.setTop (mkF m 157 #[.val (.int p0), .val (.int p1), .val (.int p2), .val (.int p3), .val (.int p4), .val (.int (1 : Int32)), .val (.int (own_w u0)), .val (.int (own_w u1)), .val (.int (own_w u2)), .val (.int (own_w u3)), .val (.ref bJ), .val (.ref b1), .val (.int v12), .unset, .unset, .unset] [(.int (46 : Int32)), (.int (own_w u0))])) (fun t k => ?_) ?_
        · show Steps p.tables e below (T6.setTop (mkF m 145 #[.val (.int p0), .val (.int p1), .val (.int p2), .val (.int p3), .val (.int p4), .val (.int (1 : Int32)), .val (.int (own_w u0)), .val (.int (own_w u1)), .val (.int (own_w u2)), .val (.int (own_w u3)), .val (.ref bJ), .val (.ref b1), .unset, .unset, .unset, .unset] [(.int v12)])) _
          refine XS.istore X6.here hx rfl (hb hby at_145) rfl (l' := #[.val (.int p0), .val (.int p1), .val (.int p2), .val (.int p3), .val (.int p4), .val (.int (1 : Int32)), .val (.int (own_w u0)), .val (.int (own_w u1)), .val (.int (own_w u2)), .val (.int (own_w u3)), .val (.ref bJ), .val (.ref b1), .val (.int v12), .unset, .unset, .unset]) rfl ?_
          refine XS.iload X6.here hx rfl (hb hby at_147) rfl ?_
          refine XS.iconst X6.here hx rfl (hb hby at_149) ?_
          refine XS.icmpNo X6.here hx rfl (hb hby at_150) rfl (teq ((rfl : (1 : Int32) = (1 : Int32)) : (1 : Int32) = (1 : Int32))).2 ?_
          refine XS.iload X6.here hx rfl (hb hby at_153) rfl ?_
          show Steps p.tables e below (T6.setTop (mkF m 155 #[.val (.int p0), .val (.int p1), .val (.int p2), .val (.int p3), .val (.int p4), .val (.int (1 : Int32)), .val (.int (own_w u0)), .val (.int (own_w u1)), .val (.int (own_w u2)), .val (.int (own_w u3)), .val (.ref bJ), .val (.ref b1), .val (.int v12), .unset, .unset, .unset] [(.int (own_w u0))])) _
          refine XS.bipush X6.here hx rfl (hb hby at_155) ?_
          exact k
        by_cases hc157 : (own_w u0) = (46 : Int32)
        · refine own_go (B := T6.setTop (mkF m 196 #[.val (.int p0), .val (.int p1), .val (.int p2), .val (.int p3), .val (.int p4), .val (.int (1 : Int32)), .val (.int (own_w u0)), .val (.int (own_w u1)), .val (.int (own_w u2)), .val (.int (own_w u3)), .val (.ref bJ), .val (.ref b1), .val (.int v12), .val (.int (1 : Int32)), .val (.int (0 : Int32)), .unset] [(.int v12)])) (fun t k => ?_) ?_
          · show Steps p.tables e below (T6.setTop (mkF m 157 #[.val (.int p0), .val (.int p1), .val (.int p2), .val (.int p3), .val (.int p4), .val (.int (1 : Int32)), .val (.int (own_w u0)), .val (.int (own_w u1)), .val (.int (own_w u2)), .val (.int (own_w u3)), .val (.ref bJ), .val (.ref b1), .val (.int v12), .unset, .unset, .unset] [(.int (46 : Int32)), (.int (own_w u0))])) _
            refine XS.icmpNo X6.here hx rfl (hb hby at_157) rfl (teq hc157).2 ?_
            refine XS.iconst X6.here hx rfl (hb hby at_160) ?_
            refine XS.goto X6.here hx rfl (pc0 := 161) (pc' := 165) rfl (hb hby at_161) (by decide) (by decide) ?_
            refine XS.istore X6.here hx rfl (hb hby at_165) rfl (l' := #[.val (.int p0), .val (.int p1), .val (.int p2), .val (.int p3), .val (.int p4), .val (.int (1 : Int32)), .val (.int (own_w u0)), .val (.int (own_w u1)), .val (.int (own_w u2)), .val (.int (own_w u3)), .val (.ref bJ), .val (.ref b1), .val (.int v12), .val (.int (1 : Int32)), .unset, .unset]) rfl ?_
            refine XS.iload X6.here hx rfl (hb hby at_167) rfl ?_
            show Steps p.tables e below (T6.setTop (mkF m 169 #[.val (.int p0), .val (.int p1), .val (.int p2), .val (.int p3), .val (.int p4), .val (.int (1 : Int32)), .val (.int (own_w u0)), .val (.int (own_w u1)), .val (.int (own_w u2)), .val (.int (own_w u3)), .val (.ref bJ), .val (.ref b1), .val (.int v12), .val (.int (1 : Int32)), .unset, .unset] [(.int (1 : Int32))])) _
            refine XS.iconst X6.here hx rfl (hb hby at_169) ?_
            refine XS.icmpYes X6.here hx rfl (pc0 := 170) (pc' := 191) rfl (hb hby at_170) rfl (feq (by decide : ¬ ((1 : Int32) = (2 : Int32)))).2 (by decide) (by decide) ?_
            refine XS.iconst X6.here hx rfl (hb hby at_191) ?_
            refine XS.istore X6.here hx rfl (hb hby at_192) rfl (l' := #[.val (.int p0), .val (.int p1), .val (.int p2), .val (.int p3), .val (.int p4), .val (.int (1 : Int32)), .val (.int (own_w u0)), .val (.int (own_w u1)), .val (.int (own_w u2)), .val (.int (own_w u3)), .val (.ref bJ), .val (.ref b1), .val (.int v12), .val (.int (1 : Int32)), .val (.int (0 : Int32)), .unset]) rfl ?_
            refine XS.iload X6.here hx rfl (hb hby at_194) rfl ?_
            show Steps p.tables e below (T6.setTop (mkF m 196 #[.val (.int p0), .val (.int p1), .val (.int p2), .val (.int p3), .val (.int p4), .val (.int (1 : Int32)), .val (.int (own_w u0)), .val (.int (own_w u1)), .val (.int (own_w u2)), .val (.int (own_w u3)), .val (.ref bJ), .val (.ref b1), .val (.int v12), .val (.int (1 : Int32)), .val (.int (0 : Int32)), .unset] [(.int v12)])) _
            exact k
          by_cases hc196 : v12 = (0 : Int32)
          · refine own_go (B := T6.setTop (mkF m 214 #[.val (.int p0), .val (.int p1), .val (.int p2), .val (.int p3), .val (.int p4), .val (.int (1 : Int32)), .val (.int (own_w u0)), .val (.int (own_w u1)), .val (.int (own_w u2)), .val (.int (own_w u3)), .val (.ref bJ), .val (.ref b1), .val (.int v12), .val (.int (1 : Int32)), .val (.int (0 : Int32)), .unset] [(.int (0 : Int32))])) (fun t k => ?_) ?_
            · show Steps p.tables e below (T6.setTop (mkF m 196 #[.val (.int p0), .val (.int p1), .val (.int p2), .val (.int p3), .val (.int p4), .val (.int (1 : Int32)), .val (.int (own_w u0)), .val (.int (own_w u1)), .val (.int (own_w u2)), .val (.int (own_w u3)), .val (.ref bJ), .val (.ref b1), .val (.int v12), .val (.int (1 : Int32)), .val (.int (0 : Int32)), .unset] [(.int v12)])) _
              refine XS.ifNo X6.here hx rfl (hb hby at_196) rfl ((if0 _ _).trans (teq hc196).2) ?_
              refine XS.iload X6.here hx rfl (hb hby at_199) rfl ?_
              refine XS.ifYes X6.here hx rfl (pc0 := 201) (pc' := 213) rfl (hb hby at_201) rfl ((if0 _ _).trans (feq (by decide : ¬ ((1 : Int32) = (0 : Int32)))).2) (by decide) (by decide) ?_
              refine XS.iconst X6.here hx rfl (hb hby at_213) ?_
              exact k
            exact J214 _ _ (X6.mono (by decide) (by decide)) N6 e6 v12 (1 : Int32) (0 : Int32) (0 : Int32) ⟨Or.inl rfl, ⟨fun q => absurd q (by decide), fun q => absurd (own_i1 hc157) q.1⟩⟩
          · refine own_go (B := T6.setTop (mkF m 214 #[.val (.int p0), .val (.int p1), .val (.int p2), .val (.int p3), .val (.int p4), .val (.int (1 : Int32)), .val (.int (own_w u0)), .val (.int (own_w u1)), .val (.int (own_w u2)), .val (.int (own_w u3)), .val (.ref bJ), .val (.ref b1), .val (.int v12), .val (.int (1 : Int32)), .val (.int (0 : Int32)), .unset] [(.int (0 : Int32))])) (fun t k => ?_) ?_
            · show Steps p.tables e below (T6.setTop (mkF m 196 #[.val (.int p0), .val (.int p1), .val (.int p2), .val (.int p3), .val (.int p4), .val (.int (1 : Int32)), .val (.int (own_w u0)), .val (.int (own_w u1)), .val (.int (own_w u2)), .val (.int (own_w u3)), .val (.ref bJ), .val (.ref b1), .val (.int v12), .val (.int (1 : Int32)), .val (.int (0 : Int32)), .unset] [(.int v12)])) _
              refine XS.ifYes X6.here hx rfl (pc0 := 196) (pc' := 213) rfl (hb hby at_196) rfl ((if0 _ _).trans (feq hc196).2) (by decide) (by decide) ?_
              refine XS.iconst X6.here hx rfl (hb hby at_213) ?_
              exact k
            exact J214 _ _ (X6.mono (by decide) (by decide)) N6 e6 v12 (1 : Int32) (0 : Int32) (0 : Int32) ⟨Or.inl rfl, ⟨fun q => absurd q (by decide), fun q => absurd (hv12.2.1 (hv12.1.resolve_left hc196)) q.2.2⟩⟩
        · refine own_go (B := T6.setTop (mkF m 196 #[.val (.int p0), .val (.int p1), .val (.int p2), .val (.int p3), .val (.int p4), .val (.int (1 : Int32)), .val (.int (own_w u0)), .val (.int (own_w u1)), .val (.int (own_w u2)), .val (.int (own_w u3)), .val (.ref bJ), .val (.ref b1), .val (.int v12), .val (.int (0 : Int32)), .val (.int (0 : Int32)), .unset] [(.int v12)])) (fun t k => ?_) ?_
          · show Steps p.tables e below (T6.setTop (mkF m 157 #[.val (.int p0), .val (.int p1), .val (.int p2), .val (.int p3), .val (.int p4), .val (.int (1 : Int32)), .val (.int (own_w u0)), .val (.int (own_w u1)), .val (.int (own_w u2)), .val (.int (own_w u3)), .val (.ref bJ), .val (.ref b1), .val (.int v12), .unset, .unset, .unset] [(.int (46 : Int32)), (.int (own_w u0))])) _
            refine XS.icmpYes X6.here hx rfl (pc0 := 157) (pc' := 164) rfl (hb hby at_157) rfl (feq hc157).2 (by decide) (by decide) ?_
            refine XS.iconst X6.here hx rfl (hb hby at_164) ?_
            refine XS.istore X6.here hx rfl (hb hby at_165) rfl (l' := #[.val (.int p0), .val (.int p1), .val (.int p2), .val (.int p3), .val (.int p4), .val (.int (1 : Int32)), .val (.int (own_w u0)), .val (.int (own_w u1)), .val (.int (own_w u2)), .val (.int (own_w u3)), .val (.ref bJ), .val (.ref b1), .val (.int v12), .val (.int (0 : Int32)), .unset, .unset]) rfl ?_
            refine XS.iload X6.here hx rfl (hb hby at_167) rfl ?_
            refine XS.iconst X6.here hx rfl (hb hby at_169) ?_
            show Steps p.tables e below (T6.setTop (mkF m 170 #[.val (.int p0), .val (.int p1), .val (.int p2), .val (.int p3), .val (.int p4), .val (.int (1 : Int32)), .val (.int (own_w u0)), .val (.int (own_w u1)), .val (.int (own_w u2)), .val (.int (own_w u3)), .val (.ref bJ), .val (.ref b1), .val (.int v12), .val (.int (0 : Int32)), .unset, .unset] [(.int (2 : Int32)), (.int (1 : Int32))])) _
            refine XS.icmpYes X6.here hx rfl (pc0 := 170) (pc' := 191) rfl (hb hby at_170) rfl (feq (by decide : ¬ ((1 : Int32) = (2 : Int32)))).2 (by decide) (by decide) ?_
            refine XS.iconst X6.here hx rfl (hb hby at_191) ?_
            refine XS.istore X6.here hx rfl (hb hby at_192) rfl (l' := #[.val (.int p0), .val (.int p1), .val (.int p2), .val (.int p3), .val (.int p4), .val (.int (1 : Int32)), .val (.int (own_w u0)), .val (.int (own_w u1)), .val (.int (own_w u2)), .val (.int (own_w u3)), .val (.ref bJ), .val (.ref b1), .val (.int v12), .val (.int (0 : Int32)), .val (.int (0 : Int32)), .unset]) rfl ?_
            refine XS.iload X6.here hx rfl (hb hby at_194) rfl ?_
            exact k
          by_cases hc196 : v12 = (0 : Int32)
          · refine own_go (B := T6.setTop (mkF m 214 #[.val (.int p0), .val (.int p1), .val (.int p2), .val (.int p3), .val (.int p4), .val (.int (1 : Int32)), .val (.int (own_w u0)), .val (.int (own_w u1)), .val (.int (own_w u2)), .val (.int (own_w u3)), .val (.ref bJ), .val (.ref b1), .val (.int v12), .val (.int (0 : Int32)), .val (.int (0 : Int32)), .unset] [(.int (1 : Int32))])) (fun t k => ?_) ?_
            · show Steps p.tables e below (T6.setTop (mkF m 196 #[.val (.int p0), .val (.int p1), .val (.int p2), .val (.int p3), .val (.int p4), .val (.int (1 : Int32)), .val (.int (own_w u0)), .val (.int (own_w u1)), .val (.int (own_w u2)), .val (.int (own_w u3)), .val (.ref bJ), .val (.ref b1), .val (.int v12), .val (.int (0 : Int32)), .val (.int (0 : Int32)), .unset] [(.int v12)])) _
              refine XS.ifNo X6.here hx rfl (hb hby at_196) rfl ((if0 _ _).trans (teq hc196).2) ?_
              refine XS.iload X6.here hx rfl (hb hby at_199) rfl ?_
              refine XS.ifNo X6.here hx rfl (hb hby at_201) rfl ((if0 _ _).trans (teq ((rfl : (0 : Int32) = (0 : Int32)) : (0 : Int32) = (0 : Int32))).2) ?_
              refine XS.iload X6.here hx rfl (hb hby at_204) rfl ?_
              refine XS.ifNo X6.here hx rfl (hb hby at_206) rfl ((if0 _ _).trans (teq ((rfl : (0 : Int32) = (0 : Int32)) : (0 : Int32) = (0 : Int32))).2) ?_
              show Steps p.tables e below (T6.setTop (mkF m 209 #[.val (.int p0), .val (.int p1), .val (.int p2), .val (.int p3), .val (.int p4), .val (.int (1 : Int32)), .val (.int (own_w u0)), .val (.int (own_w u1)), .val (.int (own_w u2)), .val (.int (own_w u3)), .val (.ref bJ), .val (.ref b1), .val (.int v12), .val (.int (0 : Int32)), .val (.int (0 : Int32)), .unset] [])) _
              refine XS.iconst X6.here hx rfl (hb hby at_209) ?_
              refine XS.goto X6.here hx rfl (pc0 := 210) (pc' := 214) rfl (hb hby at_210) (by decide) (by decide) ?_
              exact k
            exact J214 _ _ (X6.mono (by decide) (by decide)) N6 e6 v12 (0 : Int32) (0 : Int32) (1 : Int32) ⟨Or.inr rfl, ⟨fun _ => ⟨own_ni1 hc157, own_len2 (by simp), fun q => absurd (hv12.2.2 q) (by rw [hc196]; decide)⟩, fun _ => rfl⟩⟩
          · refine own_go (B := T6.setTop (mkF m 214 #[.val (.int p0), .val (.int p1), .val (.int p2), .val (.int p3), .val (.int p4), .val (.int (1 : Int32)), .val (.int (own_w u0)), .val (.int (own_w u1)), .val (.int (own_w u2)), .val (.int (own_w u3)), .val (.ref bJ), .val (.ref b1), .val (.int v12), .val (.int (0 : Int32)), .val (.int (0 : Int32)), .unset] [(.int (0 : Int32))])) (fun t k => ?_) ?_
            · show Steps p.tables e below (T6.setTop (mkF m 196 #[.val (.int p0), .val (.int p1), .val (.int p2), .val (.int p3), .val (.int p4), .val (.int (1 : Int32)), .val (.int (own_w u0)), .val (.int (own_w u1)), .val (.int (own_w u2)), .val (.int (own_w u3)), .val (.ref bJ), .val (.ref b1), .val (.int v12), .val (.int (0 : Int32)), .val (.int (0 : Int32)), .unset] [(.int v12)])) _
              refine XS.ifYes X6.here hx rfl (pc0 := 196) (pc' := 213) rfl (hb hby at_196) rfl ((if0 _ _).trans (feq hc196).2) (by decide) (by decide) ?_
              refine XS.iconst X6.here hx rfl (hb hby at_213) ?_
              exact k
            exact J214 _ _ (X6.mono (by decide) (by decide)) N6 e6 v12 (0 : Int32) (0 : Int32) (0 : Int32) ⟨Or.inl rfl, ⟨fun q => absurd q (by decide), fun q => absurd (hv12.2.1 (hv12.1.resolve_left hc196)) q.2.2⟩⟩
      refine own_go (B := T2.setTop (mkF m 98 #[.val (.int p0), .val (.int p1), .val (.int p2), .val (.int p3), .val (.int p4), .val (.int (1 : Int32)), .val (.int (own_w u0)), .val (.int (own_w u1)), .val (.int (own_w u2)), .val (.int (own_w u3)), .val (.ref bJ), .val (.ref b1), .unset, .unset, .unset, .unset] [(.int (47 : Int32)), (.int (own_w u0))])) (fun t k => ?_) ?_
      · show Steps p.tables e below (T2.setTop (mkF m 89 #[.val (.int p0), .val (.int p1), .val (.int p2), .val (.int p3), .val (.int p4), .val (.int (1 : Int32)), .val (.int (own_w u0)), .val (.int (own_w u1)), .val (.int (own_w u2)), .val (.int (own_w u3)), .val (.ref bJ), .val (.ref b1), .unset, .unset, .unset, .unset] [])) _
        refine XS.iload X2.here hx rfl (hb hby at_89) rfl ?_
        refine XS.ifNo X2.here hx rfl (hb hby at_91) rfl ((if0 _ _).trans (tlt (by decide : (0 : Int32) < (1 : Int32))).2.2.2) ?_
        refine XS.iload X2.here hx rfl (hb hby at_94) rfl ?_
        refine XS.bipush X2.here hx rfl (hb hby at_96) ?_
        exact k
      by_cases hc98 : (own_w u0) = (47 : Int32)
      · refine own_go (B := T2.setTop (mkF m 145 #[.val (.int p0), .val (.int p1), .val (.int p2), .val (.int p3), .val (.int p4), .val (.int (1 : Int32)), .val (.int (own_w u0)), .val (.int (own_w u1)), .val (.int (own_w u2)), .val (.int (own_w u3)), .val (.ref bJ), .val (.ref b1), .unset, .unset, .unset, .unset] [(.int (1 : Int32))])) (fun t k => ?_) ?_
        · show Steps p.tables e below (T2.setTop (mkF m 98 #[.val (.int p0), .val (.int p1), .val (.int p2), .val (.int p3), .val (.int p4), .val (.int (1 : Int32)), .val (.int (own_w u0)), .val (.int (own_w u1)), .val (.int (own_w u2)), .val (.int (own_w u3)), .val (.ref bJ), .val (.ref b1), .unset, .unset, .unset, .unset] [(.int (47 : Int32)), (.int (own_w u0))])) _
          refine XS.icmpYes X2.here hx rfl (pc0 := 98) (pc' := 140) rfl (hb hby at_98) rfl (teq hc98).1 (by decide) (by decide) ?_
          refine XS.iconst X2.here hx rfl (hb hby at_140) ?_
          refine XS.goto X2.here hx rfl (pc0 := 141) (pc' := 145) rfl (hb hby at_141) (by decide) (by decide) ?_
          exact k
        exact J145 _ _ (X2.mono (by decide) (by decide)) N2 e2 (1 : Int32) ⟨Or.inr rfl, ⟨fun _ => ⟨u0, by simp, hc98⟩, fun _ => rfl⟩⟩
      · refine own_go (B := T2.setTop (mkF m 145 #[.val (.int p0), .val (.int p1), .val (.int p2), .val (.int p3), .val (.int p4), .val (.int (1 : Int32)), .val (.int (own_w u0)), .val (.int (own_w u1)), .val (.int (own_w u2)), .val (.int (own_w u3)), .val (.ref bJ), .val (.ref b1), .unset, .unset, .unset, .unset] [(.int (0 : Int32))])) (fun t k => ?_) ?_
        · show Steps p.tables e below (T2.setTop (mkF m 98 #[.val (.int p0), .val (.int p1), .val (.int p2), .val (.int p3), .val (.int p4), .val (.int (1 : Int32)), .val (.int (own_w u0)), .val (.int (own_w u1)), .val (.int (own_w u2)), .val (.int (own_w u3)), .val (.ref bJ), .val (.ref b1), .unset, .unset, .unset, .unset] [(.int (47 : Int32)), (.int (own_w u0))])) _
          refine XS.icmpNo X2.here hx rfl (hb hby at_98) rfl (feq hc98).1 ?_
          refine XS.iload X2.here hx rfl (hb hby at_101) rfl ?_
          refine XS.iconst X2.here hx rfl (hb hby at_103) ?_
          refine XS.icmpYes X2.here hx rfl (pc0 := 104) (pc' := 114) rfl (hb hby at_104) rfl (flt (by decide : ¬ ((1 : Int32) < (1 : Int32)))).2.2.2 (by decide) (by decide) ?_
          refine XS.iload X2.here hx rfl (hb hby at_114) rfl ?_
          show Steps p.tables e below (T2.setTop (mkF m 116 #[.val (.int p0), .val (.int p1), .val (.int p2), .val (.int p3), .val (.int p4), .val (.int (1 : Int32)), .val (.int (own_w u0)), .val (.int (own_w u1)), .val (.int (own_w u2)), .val (.int (own_w u3)), .val (.ref bJ), .val (.ref b1), .unset, .unset, .unset, .unset] [(.int (1 : Int32))])) _
          refine XS.iconst X2.here hx rfl (hb hby at_116) ?_
          refine XS.icmpYes X2.here hx rfl (pc0 := 117) (pc' := 127) rfl (hb hby at_117) rfl (flt (by decide : ¬ ((2 : Int32) < (1 : Int32)))).2.2.2 (by decide) (by decide) ?_
          refine XS.iload X2.here hx rfl (hb hby at_127) rfl ?_
          refine XS.iconst X2.here hx rfl (hb hby at_129) ?_
          refine XS.icmpYes X2.here hx rfl (pc0 := 130) (pc' := 144) rfl (hb hby at_130) rfl (flt (by decide : ¬ ((3 : Int32) < (1 : Int32)))).2.2.2 (by decide) (by decide) ?_
          show Steps p.tables e below (T2.setTop (mkF m 144 #[.val (.int p0), .val (.int p1), .val (.int p2), .val (.int p3), .val (.int p4), .val (.int (1 : Int32)), .val (.int (own_w u0)), .val (.int (own_w u1)), .val (.int (own_w u2)), .val (.int (own_w u3)), .val (.ref bJ), .val (.ref b1), .unset, .unset, .unset, .unset] [])) _
          refine XS.iconst X2.here hx rfl (hb hby at_144) ?_
          exact k
        exact J145 _ _ (X2.mono (by decide) (by decide)) N2 e2 (0 : Int32) ⟨Or.inl rfl, ⟨fun q => absurd q (by decide), fun q => absurd q (own_not (own_allc hc98 own_alln))⟩⟩
    · have J145 : ∀ (TJ : State) (LJ : List Loc) (XJ : Stand p l e room_1 (s.setVm T2.vm) m #[(.int p0), (.int p1), (.int p2), (.int p3), (.int p4)] below meth c TJ LJ 4 20) (NJ : Fr n0 LJ) (eJ : TJ.heap = h2) (v12 : Int32), ((v12 = (0 : Int32) ∨ v12 = (1 : Int32)) ∧ (v12 = (1 : Int32) ↔ own_has ([u0, u1] : List UInt16))) → own_Gd p.tables e below (own_PI (Q_rm0 Z h0 n0) (fun vm => True) s room_1.cells room_1.slots) (TJ.setTop (mkF m 145 #[.val (.int p0), .val (.int p1), .val (.int p2), .val (.int p3), .val (.int p4), .val (.int (2 : Int32)), .val (.int (own_w u0)), .val (.int (own_w u1)), .val (.int (own_w u2)), .val (.int (own_w u3)), .val (.ref bJ), .val (.ref b1), .unset, .unset, .unset, .unset] [(.int v12)])) := by
        intro T7 L7 X7 N7 e7 v12 hv12
        refine own_go (B := T7.setTop (mkF m 177 #[.val (.int p0), .val (.int p1), .val (.int p2), .val (.int p3), .val (.int p4), .val (.int (2 : Int32)), .val (.int (own_w u0)), .val (.int (own_w u1)), .val (.int (own_w u2)), .val (.int (own_w u3)), .val (.ref bJ), .val (.ref b1), .val (.int v12), .val (.int (0 : Int32)), .unset, .unset] [(.int (46 : Int32)), (.int (own_w u0))])) (fun t k => ?_) ?_
        · show Steps p.tables e below (T7.setTop (mkF m 145 #[.val (.int p0), .val (.int p1), .val (.int p2), .val (.int p3), .val (.int p4), .val (.int (2 : Int32)), .val (.int (own_w u0)), .val (.int (own_w u1)), .val (.int (own_w u2)), .val (.int (own_w u3)), .val (.ref bJ), .val (.ref b1), .unset, .unset, .unset, .unset] [(.int v12)])) _
          refine XS.istore X7.here hx rfl (hb hby at_145) rfl (l' := #[.val (.int p0), .val (.int p1), .val (.int p2), .val (.int p3), .val (.int p4), .val (.int (2 : Int32)), .val (.int (own_w u0)), .val (.int (own_w u1)), .val (.int (own_w u2)), .val (.int (own_w u3)), .val (.ref bJ), .val (.ref b1), .val (.int v12), .unset, .unset, .unset]) rfl ?_
          refine XS.iload X7.here hx rfl (hb hby at_147) rfl ?_
          refine XS.iconst X7.here hx rfl (hb hby at_149) ?_
          refine XS.icmpYes X7.here hx rfl (pc0 := 150) (pc' := 164) rfl (hb hby at_150) rfl (feq (by decide : ¬ ((2 : Int32) = (1 : Int32)))).2 (by decide) (by decide) ?_
          refine XS.iconst X7.here hx rfl (hb hby at_164) ?_
          show Steps p.tables e below (T7.setTop (mkF m 165 #[.val (.int p0), .val (.int p1), .val (.int p2), .val (.int p3), .val (.int p4), .val (.int (2 : Int32)), .val (.int (own_w u0)), .val (.int (own_w u1)), .val (.int (own_w u2)), .val (.int (own_w u3)), .val (.ref bJ), .val (.ref b1), .val (.int v12), .unset, .unset, .unset] [(.int (0 : Int32))])) _
          refine XS.istore X7.here hx rfl (hb hby at_165) rfl (l' := #[.val (.int p0), .val (.int p1), .val (.int p2), .val (.int p3), .val (.int p4), .val (.int (2 : Int32)), .val (.int (own_w u0)), .val (.int (own_w u1)), .val (.int (own_w u2)), .val (.int (own_w u3)), .val (.ref bJ), .val (.ref b1), .val (.int v12), .val (.int (0 : Int32)), .unset, .unset]) rfl ?_
          refine XS.iload X7.here hx rfl (hb hby at_167) rfl ?_
          refine XS.iconst X7.here hx rfl (hb hby at_169) ?_
          refine XS.icmpNo X7.here hx rfl (hb hby at_170) rfl (teq ((rfl : (2 : Int32) = (2 : Int32)) : (2 : Int32) = (2 : Int32))).2 ?_
          refine XS.iload X7.here hx rfl (hb hby at_173) rfl ?_
          show Steps p.tables e below (T7.setTop (mkF m 175 #[.val (.int p0), .val (.int p1), .val (.int p2), .val (.int p3), .val (.int p4), .val (.int (2 : Int32)), .val (.int (own_w u0)), .val (.int (own_w u1)), .val (.int (own_w u2)), .val (.int (own_w u3)), .val (.ref bJ), .val (.ref b1), .val (.int v12), .val (.int (0 : Int32)), .unset, .unset] [(.int (own_w u0))])) _
          refine XS.bipush X7.here hx rfl (hb hby at_175) ?_
          exact k
        by_cases hc177 : (own_w u0) = (46 : Int32)
        · refine own_go (B := T7.setTop (mkF m 184 #[.val (.int p0), .val (.int p1), .val (.int p2), .val (.int p3), .val (.int p4), .val (.int (2 : Int32)), .val (.int (own_w u0)), .val (.int (own_w u1)), .val (.int (own_w u2)), .val (.int (own_w u3)), .val (.ref bJ), .val (.ref b1), .val (.int v12), .val (.int (0 : Int32)), .unset, .unset] [(.int (46 : Int32)), (.int (own_w u1))])) (fun t k => ?_) ?_
          · show Steps p.tables e below (T7.setTop (mkF m 177 #[.val (.int p0), .val (.int p1), .val (.int p2), .val (.int p3), .val (.int p4), .val (.int (2 : Int32)), .val (.int (own_w u0)), .val (.int (own_w u1)), .val (.int (own_w u2)), .val (.int (own_w u3)), .val (.ref bJ), .val (.ref b1), .val (.int v12), .val (.int (0 : Int32)), .unset, .unset] [(.int (46 : Int32)), (.int (own_w u0))])) _
            refine XS.icmpNo X7.here hx rfl (hb hby at_177) rfl (teq hc177).2 ?_
            refine XS.iload X7.here hx rfl (hb hby at_180) rfl ?_
            refine XS.bipush X7.here hx rfl (hb hby at_182) ?_
            exact k
          by_cases hc184 : (own_w u1) = (46 : Int32)
          · refine own_go (B := T7.setTop (mkF m 196 #[.val (.int p0), .val (.int p1), .val (.int p2), .val (.int p3), .val (.int p4), .val (.int (2 : Int32)), .val (.int (own_w u0)), .val (.int (own_w u1)), .val (.int (own_w u2)), .val (.int (own_w u3)), .val (.ref bJ), .val (.ref b1), .val (.int v12), .val (.int (0 : Int32)), .val (.int (1 : Int32)), .unset] [(.int v12)])) (fun t k => ?_) ?_
            · show Steps p.tables e below (T7.setTop (mkF m 184 #[.val (.int p0), .val (.int p1), .val (.int p2), .val (.int p3), .val (.int p4), .val (.int (2 : Int32)), .val (.int (own_w u0)), .val (.int (own_w u1)), .val (.int (own_w u2)), .val (.int (own_w u3)), .val (.ref bJ), .val (.ref b1), .val (.int v12), .val (.int (0 : Int32)), .unset, .unset] [(.int (46 : Int32)), (.int (own_w u1))])) _
              refine XS.icmpNo X7.here hx rfl (hb hby at_184) rfl (teq hc184).2 ?_
              refine XS.iconst X7.here hx rfl (hb hby at_187) ?_
              refine XS.goto X7.here hx rfl (pc0 := 188) (pc' := 192) rfl (hb hby at_188) (by decide) (by decide) ?_
              refine XS.istore X7.here hx rfl (hb hby at_192) rfl (l' := #[.val (.int p0), .val (.int p1), .val (.int p2), .val (.int p3), .val (.int p4), .val (.int (2 : Int32)), .val (.int (own_w u0)), .val (.int (own_w u1)), .val (.int (own_w u2)), .val (.int (own_w u3)), .val (.ref bJ), .val (.ref b1), .val (.int v12), .val (.int (0 : Int32)), .val (.int (1 : Int32)), .unset]) rfl ?_
              refine XS.iload X7.here hx rfl (hb hby at_194) rfl ?_
              show Steps p.tables e below (T7.setTop (mkF m 196 #[.val (.int p0), .val (.int p1), .val (.int p2), .val (.int p3), .val (.int p4), .val (.int (2 : Int32)), .val (.int (own_w u0)), .val (.int (own_w u1)), .val (.int (own_w u2)), .val (.int (own_w u3)), .val (.ref bJ), .val (.ref b1), .val (.int v12), .val (.int (0 : Int32)), .val (.int (1 : Int32)), .unset] [(.int v12)])) _
              exact k
            by_cases hc196 : v12 = (0 : Int32)
            · refine own_go (B := T7.setTop (mkF m 214 #[.val (.int p0), .val (.int p1), .val (.int p2), .val (.int p3), .val (.int p4), .val (.int (2 : Int32)), .val (.int (own_w u0)), .val (.int (own_w u1)), .val (.int (own_w u2)), .val (.int (own_w u3)), .val (.ref bJ), .val (.ref b1), .val (.int v12), .val (.int (0 : Int32)), .val (.int (1 : Int32)), .unset] [(.int (0 : Int32))])) (fun t k => ?_) ?_
              · show Steps p.tables e below (T7.setTop (mkF m 196 #[.val (.int p0), .val (.int p1), .val (.int p2), .val (.int p3), .val (.int p4), .val (.int (2 : Int32)), .val (.int (own_w u0)), .val (.int (own_w u1)), .val (.int (own_w u2)), .val (.int (own_w u3)), .val (.ref bJ), .val (.ref b1), .val (.int v12), .val (.int (0 : Int32)), .val (.int (1 : Int32)), .unset] [(.int v12)])) _
                refine XS.ifNo X7.here hx rfl (hb hby at_196) rfl ((if0 _ _).trans (teq hc196).2) ?_
                refine XS.iload X7.here hx rfl (hb hby at_199) rfl ?_
                refine XS.ifNo X7.here hx rfl (hb hby at_201) rfl ((if0 _ _).trans (teq ((rfl : (0 : Int32) = (0 : Int32)) : (0 : Int32) = (0 : Int32))).2) ?_
                refine XS.iload X7.here hx rfl (hb hby at_204) rfl ?_
                refine XS.ifYes X7.here hx rfl (pc0 := 206) (pc' := 213) rfl (hb hby at_206) rfl ((if0 _ _).trans (feq (by decide : ¬ ((1 : Int32) = (0 : Int32)))).2) (by decide) (by decide) ?_
                show Steps p.tables e below (T7.setTop (mkF m 213 #[.val (.int p0), .val (.int p1), .val (.int p2), .val (.int p3), .val (.int p4), .val (.int (2 : Int32)), .val (.int (own_w u0)), .val (.int (own_w u1)), .val (.int (own_w u2)), .val (.int (own_w u3)), .val (.ref bJ), .val (.ref b1), .val (.int v12), .val (.int (0 : Int32)), .val (.int (1 : Int32)), .unset] [])) _
                refine XS.iconst X7.here hx rfl (hb hby at_213) ?_
                exact k
              exact J214 _ _ (X7.mono (by decide) (by decide)) N7 e7 v12 (0 : Int32) (1 : Int32) (0 : Int32) ⟨Or.inl rfl, ⟨fun q => absurd q (by decide), fun q => absurd (own_i2 hc177 hc184) q.2.1⟩⟩
            · refine own_go (B := T7.setTop (mkF m 214 #[.val (.int p0), .val (.int p1), .val (.int p2), .val (.int p3), .val (.int p4), .val (.int (2 : Int32)), .val (.int (own_w u0)), .val (.int (own_w u1)), .val (.int (own_w u2)), .val (.int (own_w u3)), .val (.ref bJ), .val (.ref b1), .val (.int v12), .val (.int (0 : Int32)), .val (.int (1 : Int32)), .unset] [(.int (0 : Int32))])) (fun t k => ?_) ?_
              · show Steps p.tables e below (T7.setTop (mkF m 196 #[.val (.int p0), .val (.int p1), .val (.int p2), .val (.int p3), .val (.int p4), .val (.int (2 : Int32)), .val (.int (own_w u0)), .val (.int (own_w u1)), .val (.int (own_w u2)), .val (.int (own_w u3)), .val (.ref bJ), .val (.ref b1), .val (.int v12), .val (.int (0 : Int32)), .val (.int (1 : Int32)), .unset] [(.int v12)])) _
                refine XS.ifYes X7.here hx rfl (pc0 := 196) (pc' := 213) rfl (hb hby at_196) rfl ((if0 _ _).trans (feq hc196).2) (by decide) (by decide) ?_
                refine XS.iconst X7.here hx rfl (hb hby at_213) ?_
                exact k
              exact J214 _ _ (X7.mono (by decide) (by decide)) N7 e7 v12 (0 : Int32) (1 : Int32) (0 : Int32) ⟨Or.inl rfl, ⟨fun q => absurd q (by decide), fun q => absurd (hv12.2.1 (hv12.1.resolve_left hc196)) q.2.2⟩⟩
          · refine own_go (B := T7.setTop (mkF m 196 #[.val (.int p0), .val (.int p1), .val (.int p2), .val (.int p3), .val (.int p4), .val (.int (2 : Int32)), .val (.int (own_w u0)), .val (.int (own_w u1)), .val (.int (own_w u2)), .val (.int (own_w u3)), .val (.ref bJ), .val (.ref b1), .val (.int v12), .val (.int (0 : Int32)), .val (.int (0 : Int32)), .unset] [(.int v12)])) (fun t k => ?_) ?_
            · show Steps p.tables e below (T7.setTop (mkF m 184 #[.val (.int p0), .val (.int p1), .val (.int p2), .val (.int p3), .val (.int p4), .val (.int (2 : Int32)), .val (.int (own_w u0)), .val (.int (own_w u1)), .val (.int (own_w u2)), .val (.int (own_w u3)), .val (.ref bJ), .val (.ref b1), .val (.int v12), .val (.int (0 : Int32)), .unset, .unset] [(.int (46 : Int32)), (.int (own_w u1))])) _
              refine XS.icmpYes X7.here hx rfl (pc0 := 184) (pc' := 191) rfl (hb hby at_184) rfl (feq hc184).2 (by decide) (by decide) ?_
              refine XS.iconst X7.here hx rfl (hb hby at_191) ?_
              refine XS.istore X7.here hx rfl (hb hby at_192) rfl (l' := #[.val (.int p0), .val (.int p1), .val (.int p2), .val (.int p3), .val (.int p4), .val (.int (2 : Int32)), .val (.int (own_w u0)), .val (.int (own_w u1)), .val (.int (own_w u2)), .val (.int (own_w u3)), .val (.ref bJ), .val (.ref b1), .val (.int v12), .val (.int (0 : Int32)), .val (.int (0 : Int32)), .unset]) rfl ?_
              refine XS.iload X7.here hx rfl (hb hby at_194) rfl ?_
              exact k
            by_cases hc196 : v12 = (0 : Int32)
            · refine own_go (B := T7.setTop (mkF m 214 #[.val (.int p0), .val (.int p1), .val (.int p2), .val (.int p3), .val (.int p4), .val (.int (2 : Int32)), .val (.int (own_w u0)), .val (.int (own_w u1)), .val (.int (own_w u2)), .val (.int (own_w u3)), .val (.ref bJ), .val (.ref b1), .val (.int v12), .val (.int (0 : Int32)), .val (.int (0 : Int32)), .unset] [(.int (1 : Int32))])) (fun t k => ?_) ?_
              · show Steps p.tables e below (T7.setTop (mkF m 196 #[.val (.int p0), .val (.int p1), .val (.int p2), .val (.int p3), .val (.int p4), .val (.int (2 : Int32)), .val (.int (own_w u0)), .val (.int (own_w u1)), .val (.int (own_w u2)), .val (.int (own_w u3)), .val (.ref bJ), .val (.ref b1), .val (.int v12), .val (.int (0 : Int32)), .val (.int (0 : Int32)), .unset] [(.int v12)])) _
                refine XS.ifNo X7.here hx rfl (hb hby at_196) rfl ((if0 _ _).trans (teq hc196).2) ?_
                refine XS.iload X7.here hx rfl (hb hby at_199) rfl ?_
                refine XS.ifNo X7.here hx rfl (hb hby at_201) rfl ((if0 _ _).trans (teq ((rfl : (0 : Int32) = (0 : Int32)) : (0 : Int32) = (0 : Int32))).2) ?_
                refine XS.iload X7.here hx rfl (hb hby at_204) rfl ?_
                refine XS.ifNo X7.here hx rfl (hb hby at_206) rfl ((if0 _ _).trans (teq ((rfl : (0 : Int32) = (0 : Int32)) : (0 : Int32) = (0 : Int32))).2) ?_
                show Steps p.tables e below (T7.setTop (mkF m 209 #[.val (.int p0), .val (.int p1), .val (.int p2), .val (.int p3), .val (.int p4), .val (.int (2 : Int32)), .val (.int (own_w u0)), .val (.int (own_w u1)), .val (.int (own_w u2)), .val (.int (own_w u3)), .val (.ref bJ), .val (.ref b1), .val (.int v12), .val (.int (0 : Int32)), .val (.int (0 : Int32)), .unset] [])) _
                refine XS.iconst X7.here hx rfl (hb hby at_209) ?_
                refine XS.goto X7.here hx rfl (pc0 := 210) (pc' := 214) rfl (hb hby at_210) (by decide) (by decide) ?_
                exact k
              exact J214 _ _ (X7.mono (by decide) (by decide)) N7 e7 v12 (0 : Int32) (0 : Int32) (1 : Int32) ⟨Or.inr rfl, ⟨fun _ => ⟨own_len1 (by simp), own_ni2b hc184, fun q => absurd (hv12.2.2 q) (by rw [hc196]; decide)⟩, fun _ => rfl⟩⟩
            · refine own_go (B := T7.setTop (mkF m 214 #[.val (.int p0), .val (.int p1), .val (.int p2), .val (.int p3), .val (.int p4), .val (.int (2 : Int32)), .val (.int (own_w u0)), .val (.int (own_w u1)), .val (.int (own_w u2)), .val (.int (own_w u3)), .val (.ref bJ), .val (.ref b1), .val (.int v12), .val (.int (0 : Int32)), .val (.int (0 : Int32)), .unset] [(.int (0 : Int32))])) (fun t k => ?_) ?_
              · show Steps p.tables e below (T7.setTop (mkF m 196 #[.val (.int p0), .val (.int p1), .val (.int p2), .val (.int p3), .val (.int p4), .val (.int (2 : Int32)), .val (.int (own_w u0)), .val (.int (own_w u1)), .val (.int (own_w u2)), .val (.int (own_w u3)), .val (.ref bJ), .val (.ref b1), .val (.int v12), .val (.int (0 : Int32)), .val (.int (0 : Int32)), .unset] [(.int v12)])) _
                refine XS.ifYes X7.here hx rfl (pc0 := 196) (pc' := 213) rfl (hb hby at_196) rfl ((if0 _ _).trans (feq hc196).2) (by decide) (by decide) ?_
                refine XS.iconst X7.here hx rfl (hb hby at_213) ?_
                exact k
              exact J214 _ _ (X7.mono (by decide) (by decide)) N7 e7 v12 (0 : Int32) (0 : Int32) (0 : Int32) ⟨Or.inl rfl, ⟨fun q => absurd q (by decide), fun q => absurd (hv12.2.1 (hv12.1.resolve_left hc196)) q.2.2⟩⟩
        · refine own_go (B := T7.setTop (mkF m 196 #[.val (.int p0), .val (.int p1), .val (.int p2), .val (.int p3), .val (.int p4), .val (.int (2 : Int32)), .val (.int (own_w u0)), .val (.int (own_w u1)), .val (.int (own_w u2)), .val (.int (own_w u3)), .val (.ref bJ), .val (.ref b1), .val (.int v12), .val (.int (0 : Int32)), .val (.int (0 : Int32)), .unset] [(.int v12)])) (fun t k => ?_) ?_
          · show Steps p.tables e below (T7.setTop (mkF m 177 #[.val (.int p0), .val (.int p1), .val (.int p2), .val (.int p3), .val (.int p4), .val (.int (2 : Int32)), .val (.int (own_w u0)), .val (.int (own_w u1)), .val (.int (own_w u2)), .val (.int (own_w u3)), .val (.ref bJ), .val (.ref b1), .val (.int v12), .val (.int (0 : Int32)), .unset, .unset] [(.int (46 : Int32)), (.int (own_w u0))])) _
            refine XS.icmpYes X7.here hx rfl (pc0 := 177) (pc' := 191) rfl (hb hby at_177) rfl (feq hc177).2 (by decide) (by decide) ?_
            refine XS.iconst X7.here hx rfl (hb hby at_191) ?_
            refine XS.istore X7.here hx rfl (hb hby at_192) rfl (l' := #[.val (.int p0), .val (.int p1), .val (.int p2), .val (.int p3), .val (.int p4), .val (.int (2 : Int32)), .val (.int (own_w u0)), .val (.int (own_w u1)), .val (.int (own_w u2)), .val (.int (own_w u3)), .val (.ref bJ), .val (.ref b1), .val (.int v12), .val (.int (0 : Int32)), .val (.int (0 : Int32)), .unset]) rfl ?_
            refine XS.iload X7.here hx rfl (hb hby at_194) rfl ?_
            exact k
          by_cases hc196 : v12 = (0 : Int32)
          · refine own_go (B := T7.setTop (mkF m 214 #[.val (.int p0), .val (.int p1), .val (.int p2), .val (.int p3), .val (.int p4), .val (.int (2 : Int32)), .val (.int (own_w u0)), .val (.int (own_w u1)), .val (.int (own_w u2)), .val (.int (own_w u3)), .val (.ref bJ), .val (.ref b1), .val (.int v12), .val (.int (0 : Int32)), .val (.int (0 : Int32)), .unset] [(.int (1 : Int32))])) (fun t k => ?_) ?_
            · show Steps p.tables e below (T7.setTop (mkF m 196 #[.val (.int p0), .val (.int p1), .val (.int p2), .val (.int p3), .val (.int p4), .val (.int (2 : Int32)), .val (.int (own_w u0)), .val (.int (own_w u1)), .val (.int (own_w u2)), .val (.int (own_w u3)), .val (.ref bJ), .val (.ref b1), .val (.int v12), .val (.int (0 : Int32)), .val (.int (0 : Int32)), .unset] [(.int v12)])) _
              refine XS.ifNo X7.here hx rfl (hb hby at_196) rfl ((if0 _ _).trans (teq hc196).2) ?_
              refine XS.iload X7.here hx rfl (hb hby at_199) rfl ?_
              refine XS.ifNo X7.here hx rfl (hb hby at_201) rfl ((if0 _ _).trans (teq ((rfl : (0 : Int32) = (0 : Int32)) : (0 : Int32) = (0 : Int32))).2) ?_
              refine XS.iload X7.here hx rfl (hb hby at_204) rfl ?_
              refine XS.ifNo X7.here hx rfl (hb hby at_206) rfl ((if0 _ _).trans (teq ((rfl : (0 : Int32) = (0 : Int32)) : (0 : Int32) = (0 : Int32))).2) ?_
              show Steps p.tables e below (T7.setTop (mkF m 209 #[.val (.int p0), .val (.int p1), .val (.int p2), .val (.int p3), .val (.int p4), .val (.int (2 : Int32)), .val (.int (own_w u0)), .val (.int (own_w u1)), .val (.int (own_w u2)), .val (.int (own_w u3)), .val (.ref bJ), .val (.ref b1), .val (.int v12), .val (.int (0 : Int32)), .val (.int (0 : Int32)), .unset] [])) _
              refine XS.iconst X7.here hx rfl (hb hby at_209) ?_
              refine XS.goto X7.here hx rfl (pc0 := 210) (pc' := 214) rfl (hb hby at_210) (by decide) (by decide) ?_
              exact k
            exact J214 _ _ (X7.mono (by decide) (by decide)) N7 e7 v12 (0 : Int32) (0 : Int32) (1 : Int32) ⟨Or.inr rfl, ⟨fun _ => ⟨own_len1 (by simp), own_ni2a hc177, fun q => absurd (hv12.2.2 q) (by rw [hc196]; decide)⟩, fun _ => rfl⟩⟩
          · refine own_go (B := T7.setTop (mkF m 214 #[.val (.int p0), .val (.int p1), .val (.int p2), .val (.int p3), .val (.int p4), .val (.int (2 : Int32)), .val (.int (own_w u0)), .val (.int (own_w u1)), .val (.int (own_w u2)), .val (.int (own_w u3)), .val (.ref bJ), .val (.ref b1), .val (.int v12), .val (.int (0 : Int32)), .val (.int (0 : Int32)), .unset] [(.int (0 : Int32))])) (fun t k => ?_) ?_
            · show Steps p.tables e below (T7.setTop (mkF m 196 #[.val (.int p0), .val (.int p1), .val (.int p2), .val (.int p3), .val (.int p4), .val (.int (2 : Int32)), .val (.int (own_w u0)), .val (.int (own_w u1)), .val (.int (own_w u2)), .val (.int (own_w u3)), .val (.ref bJ), .val (.ref b1), .val (.int v12), .val (.int (0 : Int32)), .val (.int (0 : Int32)), .unset] [(.int v12)])) _
              refine XS.ifYes X7.here hx rfl (pc0 := 196) (pc' := 213) rfl (hb hby at_196) rfl ((if0 _ _).trans (feq hc196).2) (by decide) (by decide) ?_
              refine XS.iconst X7.here hx rfl (hb hby at_213) ?_
              exact k
            exact J214 _ _ (X7.mono (by decide) (by decide)) N7 e7 v12 (0 : Int32) (0 : Int32) (0 : Int32) ⟨Or.inl rfl, ⟨fun q => absurd q (by decide), fun q => absurd (hv12.2.1 (hv12.1.resolve_left hc196)) q.2.2⟩⟩
      refine own_go (B := T2.setTop (mkF m 98 #[.val (.int p0), .val (.int p1), .val (.int p2), .val (.int p3), .val (.int p4), .val (.int (2 : Int32)), .val (.int (own_w u0)), .val (.int (own_w u1)), .val (.int (own_w u2)), .val (.int (own_w u3)), .val (.ref bJ), .val (.ref b1), .unset, .unset, .unset, .unset] [(.int (47 : Int32)), (.int (own_w u0))])) (fun t k => ?_) ?_
      · show Steps p.tables e below (T2.setTop (mkF m 89 #[.val (.int p0), .val (.int p1), .val (.int p2), .val (.int p3), .val (.int p4), .val (.int (2 : Int32)), .val (.int (own_w u0)), .val (.int (own_w u1)), .val (.int (own_w u2)), .val (.int (own_w u3)), .val (.ref bJ), .val (.ref b1), .unset, .unset, .unset, .unset] [])) _
        refine XS.iload X2.here hx rfl (hb hby at_89) rfl ?_
        refine XS.ifNo X2.here hx rfl (hb hby at_91) rfl ((if0 _ _).trans (tlt (by decide : (0 : Int32) < (2 : Int32))).2.2.2) ?_
        refine XS.iload X2.here hx rfl (hb hby at_94) rfl ?_
        refine XS.bipush X2.here hx rfl (hb hby at_96) ?_
        exact k
      by_cases hc98 : (own_w u0) = (47 : Int32)
      · refine own_go (B := T2.setTop (mkF m 145 #[.val (.int p0), .val (.int p1), .val (.int p2), .val (.int p3), .val (.int p4), .val (.int (2 : Int32)), .val (.int (own_w u0)), .val (.int (own_w u1)), .val (.int (own_w u2)), .val (.int (own_w u3)), .val (.ref bJ), .val (.ref b1), .unset, .unset, .unset, .unset] [(.int (1 : Int32))])) (fun t k => ?_) ?_
        · show Steps p.tables e below (T2.setTop (mkF m 98 #[.val (.int p0), .val (.int p1), .val (.int p2), .val (.int p3), .val (.int p4), .val (.int (2 : Int32)), .val (.int (own_w u0)), .val (.int (own_w u1)), .val (.int (own_w u2)), .val (.int (own_w u3)), .val (.ref bJ), .val (.ref b1), .unset, .unset, .unset, .unset] [(.int (47 : Int32)), (.int (own_w u0))])) _
          refine XS.icmpYes X2.here hx rfl (pc0 := 98) (pc' := 140) rfl (hb hby at_98) rfl (teq hc98).1 (by decide) (by decide) ?_
          refine XS.iconst X2.here hx rfl (hb hby at_140) ?_
          refine XS.goto X2.here hx rfl (pc0 := 141) (pc' := 145) rfl (hb hby at_141) (by decide) (by decide) ?_
          exact k
        exact J145 _ _ (X2.mono (by decide) (by decide)) N2 e2 (1 : Int32) ⟨Or.inr rfl, ⟨fun _ => ⟨u0, by simp, hc98⟩, fun _ => rfl⟩⟩
      · refine own_go (B := T2.setTop (mkF m 111 #[.val (.int p0), .val (.int p1), .val (.int p2), .val (.int p3), .val (.int p4), .val (.int (2 : Int32)), .val (.int (own_w u0)), .val (.int (own_w u1)), .val (.int (own_w u2)), .val (.int (own_w u3)), .val (.ref bJ), .val (.ref b1), .unset, .unset, .unset, .unset] [(.int (47 : Int32)), (.int (own_w u1))])) (fun t k => ?_) ?_
        · show Steps p.tables e below (T2.setTop (mkF m 98 #[.val (.int p0), .val (.int p1), .val (.int p2), .val (.int p3), .val (.int p4), .val (.int (2 : Int32)), .val (.int (own_w u0)), .val (.int (own_w u1)), .val (.int (own_w u2)), .val (.int (own_w u3)), .val (.ref bJ), .val (.ref b1), .unset, .unset, .unset, .unset] [(.int (47 : Int32)), (.int (own_w u0))])) _
          refine XS.icmpNo X2.here hx rfl (hb hby at_98) rfl (feq hc98).1 ?_
          refine XS.iload X2.here hx rfl (hb hby at_101) rfl ?_
          refine XS.iconst X2.here hx rfl (hb hby at_103) ?_
          refine XS.icmpNo X2.here hx rfl (hb hby at_104) rfl (tlt (by decide : (1 : Int32) < (2 : Int32))).2.2.2 ?_
          refine XS.iload X2.here hx rfl (hb hby at_107) rfl ?_
          show Steps p.tables e below (T2.setTop (mkF m 109 #[.val (.int p0), .val (.int p1), .val (.int p2), .val (.int p3), .val (.int p4), .val (.int (2 : Int32)), .val (.int (own_w u0)), .val (.int (own_w u1)), .val (.int (own_w u2)), .val (.int (own_w u3)), .val (.ref bJ), .val (.ref b1), .unset, .unset, .unset, .unset] [(.int (own_w u1))])) _
          refine XS.bipush X2.here hx rfl (hb hby at_109) ?_
          exact k
        by_cases hc111 : (own_w u1) = (47 : Int32)
        · refine own_go (B := T2.setTop (mkF m 145 #[.val (.int p0), .val (.int p1), .val (.int p2), .val (.int p3), .val (.int p4), .val (.int (2 : Int32)), .val (.int (own_w u0)), .val (.int (own_w u1)), .val (.int (own_w u2)), .val (.int (own_w u3)), .val (.ref bJ), .val (.ref b1), .unset, .unset, .unset, .unset] [(.int (1 : Int32))])) (fun t k => ?_) ?_
          · show Steps p.tables e below (T2.setTop (mkF m 111 #[.val (.int p0), .val (.int p1), .val (.int p2), .val (.int p3), .val (.int p4), .val (.int (2 : Int32)), .val (.int (own_w u0)), .val (.int (own_w u1)), .val (.int (own_w u2)), .val (.int (own_w u3)), .val (.ref bJ), .val (.ref b1), .unset, .unset, .unset, .unset] [(.int (47 : Int32)), (.int (own_w u1))])) _
            refine XS.icmpYes X2.here hx rfl (pc0 := 111) (pc' := 140) rfl (hb hby at_111) rfl (teq hc111).1 (by decide) (by decide) ?_
            refine XS.iconst X2.here hx rfl (hb hby at_140) ?_
            refine XS.goto X2.here hx rfl (pc0 := 141) (pc' := 145) rfl (hb hby at_141) (by decide) (by decide) ?_
            exact k
          exact J145 _ _ (X2.mono (by decide) (by decide)) N2 e2 (1 : Int32) ⟨Or.inr rfl, ⟨fun _ => ⟨u1, by simp, hc111⟩, fun _ => rfl⟩⟩
        · refine own_go (B := T2.setTop (mkF m 145 #[.val (.int p0), .val (.int p1), .val (.int p2), .val (.int p3), .val (.int p4), .val (.int (2 : Int32)), .val (.int (own_w u0)), .val (.int (own_w u1)), .val (.int (own_w u2)), .val (.int (own_w u3)), .val (.ref bJ), .val (.ref b1), .unset, .unset, .unset, .unset] [(.int (0 : Int32))])) (fun t k => ?_) ?_
          · show Steps p.tables e below (T2.setTop (mkF m 111 #[.val (.int p0), .val (.int p1), .val (.int p2), .val (.int p3), .val (.int p4), .val (.int (2 : Int32)), .val (.int (own_w u0)), .val (.int (own_w u1)), .val (.int (own_w u2)), .val (.int (own_w u3)), .val (.ref bJ), .val (.ref b1), .unset, .unset, .unset, .unset] [(.int (47 : Int32)), (.int (own_w u1))])) _
            refine XS.icmpNo X2.here hx rfl (hb hby at_111) rfl (feq hc111).1 ?_
            refine XS.iload X2.here hx rfl (hb hby at_114) rfl ?_
            refine XS.iconst X2.here hx rfl (hb hby at_116) ?_
            refine XS.icmpYes X2.here hx rfl (pc0 := 117) (pc' := 127) rfl (hb hby at_117) rfl (flt (by decide : ¬ ((2 : Int32) < (2 : Int32)))).2.2.2 (by decide) (by decide) ?_
            refine XS.iload X2.here hx rfl (hb hby at_127) rfl ?_
            show Steps p.tables e below (T2.setTop (mkF m 129 #[.val (.int p0), .val (.int p1), .val (.int p2), .val (.int p3), .val (.int p4), .val (.int (2 : Int32)), .val (.int (own_w u0)), .val (.int (own_w u1)), .val (.int (own_w u2)), .val (.int (own_w u3)), .val (.ref bJ), .val (.ref b1), .unset, .unset, .unset, .unset] [(.int (2 : Int32))])) _
            refine XS.iconst X2.here hx rfl (hb hby at_129) ?_
            refine XS.icmpYes X2.here hx rfl (pc0 := 130) (pc' := 144) rfl (hb hby at_130) rfl (flt (by decide : ¬ ((3 : Int32) < (2 : Int32)))).2.2.2 (by decide) (by decide) ?_
            refine XS.iconst X2.here hx rfl (hb hby at_144) ?_
            exact k
          exact J145 _ _ (X2.mono (by decide) (by decide)) N2 e2 (0 : Int32) ⟨Or.inl rfl, ⟨fun q => absurd q (by decide), fun q => absurd q (own_not (own_allc hc98 (own_allc hc111 own_alln)))⟩⟩
    · have J145 : ∀ (TJ : State) (LJ : List Loc) (XJ : Stand p l e room_1 (s.setVm T2.vm) m #[(.int p0), (.int p1), (.int p2), (.int p3), (.int p4)] below meth c TJ LJ 4 20) (NJ : Fr n0 LJ) (eJ : TJ.heap = h2) (v12 : Int32), ((v12 = (0 : Int32) ∨ v12 = (1 : Int32)) ∧ (v12 = (1 : Int32) ↔ own_has ([u0, u1, u2] : List UInt16))) → own_Gd p.tables e below (own_PI (Q_rm0 Z h0 n0) (fun vm => True) s room_1.cells room_1.slots) (TJ.setTop (mkF m 145 #[.val (.int p0), .val (.int p1), .val (.int p2), .val (.int p3), .val (.int p4), .val (.int (3 : Int32)), .val (.int (own_w u0)), .val (.int (own_w u1)), .val (.int (own_w u2)), .val (.int (own_w u3)), .val (.ref bJ), .val (.ref b1), .unset, .unset, .unset, .unset] [(.int v12)])) := by
        intro T8 L8 X8 N8 e8 v12 hv12
        refine own_go (B := T8.setTop (mkF m 196 #[.val (.int p0), .val (.int p1), .val (.int p2), .val (.int p3), .val (.int p4), .val (.int (3 : Int32)), .val (.int (own_w u0)), .val (.int (own_w u1)), .val (.int (own_w u2)), .val (.int (own_w u3)), .val (.ref bJ), .val (.ref b1), .val (.int v12), .val (.int (0 : Int32)), .val (.int (0 : Int32)), .unset] [(.int v12)])) (fun t k => ?_) ?_
        · show Steps p.tables e below (T8.setTop (mkF m 145 #[.val (.int p0), .val (.int p1), .val (.int p2), .val (.int p3), .val (.int p4), .val (.int (3 : Int32)), .val (.int (own_w u0)), .val (.int (own_w u1)), .val (.int (own_w u2)), .val (.int (own_w u3)), .val (.ref bJ), .val (.ref b1), .unset, .unset, .unset, .unset] [(.int v12)])) _
          refine XS.istore X8.here hx rfl (hb hby at_145) rfl (l' := #[.val (.int p0), .val (.int p1), .val (.int p2), .val (.int p3), .val (.int p4), .val (.int (3 : Int32)), .val (.int (own_w u0)), .val (.int (own_w u1)), .val (.int (own_w u2)), .val (.int (own_w u3)), .val (.ref bJ), .val (.ref b1), .val (.int v12), .unset, .unset, .unset]) rfl ?_
          refine XS.iload X8.here hx rfl (hb hby at_147) rfl ?_
          refine XS.iconst X8.here hx rfl (hb hby at_149) ?_
          refine XS.icmpYes X8.here hx rfl (pc0 := 150) (pc' := 164) rfl (hb hby at_150) rfl (feq (by decide : ¬ ((3 : Int32) = (1 : Int32)))).2 (by decide) (by decide) ?_
          refine XS.iconst X8.here hx rfl (hb hby at_164) ?_
          show Steps p.tables e below (T8.setTop (mkF m 165 #[.val (.int p0), .val (.int p1), .val (.int p2), .val (.int p3), .val (.int p4), .val (.int (3 : Int32)), .val (.int (own_w u0)), .val (.int (own_w u1)), .val (.int (own_w u2)), .val (.int (own_w u3)), .val (.ref bJ), .val (.ref b1), .val (.int v12), .unset, .unset, .unset] [(.int (0 : Int32))])) _
          refine XS.istore X8.here hx rfl (hb hby at_165) rfl (l' := #[.val (.int p0), .val (.int p1), .val (.int p2), .val (.int p3), .val (.int p4), .val (.int (3 : Int32)), .val (.int (own_w u0)), .val (.int (own_w u1)), .val (.int (own_w u2)), .val (.int (own_w u3)), .val (.ref bJ), .val (.ref b1), .val (.int v12), .val (.int (0 : Int32)), .unset, .unset]) rfl ?_
          refine XS.iload X8.here hx rfl (hb hby at_167) rfl ?_
          refine XS.iconst X8.here hx rfl (hb hby at_169) ?_
          refine XS.icmpYes X8.here hx rfl (pc0 := 170) (pc' := 191) rfl (hb hby at_170) rfl (feq (by decide : ¬ ((3 : Int32) = (2 : Int32)))).2 (by decide) (by decide) ?_
          refine XS.iconst X8.here hx rfl (hb hby at_191) ?_
          show Steps p.tables e below (T8.setTop (mkF m 192 #[.val (.int p0), .val (.int p1), .val (.int p2), .val (.int p3), .val (.int p4), .val (.int (3 : Int32)), .val (.int (own_w u0)), .val (.int (own_w u1)), .val (.int (own_w u2)), .val (.int (own_w u3)), .val (.ref bJ), .val (.ref b1), .val (.int v12), .val (.int (0 : Int32)), .unset, .unset] [(.int (0 : Int32))])) _
          refine XS.istore X8.here hx rfl (hb hby at_192) rfl (l' := #[.val (.int p0), .val (.int p1), .val (.int p2), .val (.int p3), .val (.int p4), .val (.int (3 : Int32)), .val (.int (own_w u0)), .val (.int (own_w u1)), .val (.int (own_w u2)), .val (.int (own_w u3)), .val (.ref bJ), .val (.ref b1), .val (.int v12), .val (.int (0 : Int32)), .val (.int (0 : Int32)), .unset]) rfl ?_
          refine XS.iload X8.here hx rfl (hb hby at_194) rfl ?_
          exact k
        by_cases hc196 : v12 = (0 : Int32)
        · refine own_go (B := T8.setTop (mkF m 214 #[.val (.int p0), .val (.int p1), .val (.int p2), .val (.int p3), .val (.int p4), .val (.int (3 : Int32)), .val (.int (own_w u0)), .val (.int (own_w u1)), .val (.int (own_w u2)), .val (.int (own_w u3)), .val (.ref bJ), .val (.ref b1), .val (.int v12), .val (.int (0 : Int32)), .val (.int (0 : Int32)), .unset] [(.int (1 : Int32))])) (fun t k => ?_) ?_
          · show Steps p.tables e below (T8.setTop (mkF m 196 #[.val (.int p0), .val (.int p1), .val (.int p2), .val (.int p3), .val (.int p4), .val (.int (3 : Int32)), .val (.int (own_w u0)), .val (.int (own_w u1)), .val (.int (own_w u2)), .val (.int (own_w u3)), .val (.ref bJ), .val (.ref b1), .val (.int v12), .val (.int (0 : Int32)), .val (.int (0 : Int32)), .unset] [(.int v12)])) _
            refine XS.ifNo X8.here hx rfl (hb hby at_196) rfl ((if0 _ _).trans (teq hc196).2) ?_
            refine XS.iload X8.here hx rfl (hb hby at_199) rfl ?_
            refine XS.ifNo X8.here hx rfl (hb hby at_201) rfl ((if0 _ _).trans (teq ((rfl : (0 : Int32) = (0 : Int32)) : (0 : Int32) = (0 : Int32))).2) ?_
            refine XS.iload X8.here hx rfl (hb hby at_204) rfl ?_
            refine XS.ifNo X8.here hx rfl (hb hby at_206) rfl ((if0 _ _).trans (teq ((rfl : (0 : Int32) = (0 : Int32)) : (0 : Int32) = (0 : Int32))).2) ?_
            show Steps p.tables e below (T8.setTop (mkF m 209 #[.val (.int p0), .val (.int p1), .val (.int p2), .val (.int p3), .val (.int p4), .val (.int (3 : Int32)), .val (.int (own_w u0)), .val (.int (own_w u1)), .val (.int (own_w u2)), .val (.int (own_w u3)), .val (.ref bJ), .val (.ref b1), .val (.int v12), .val (.int (0 : Int32)), .val (.int (0 : Int32)), .unset] [])) _
            refine XS.iconst X8.here hx rfl (hb hby at_209) ?_
            refine XS.goto X8.here hx rfl (pc0 := 210) (pc' := 214) rfl (hb hby at_210) (by decide) (by decide) ?_
            exact k
          exact J214 _ _ (X8.mono (by decide) (by decide)) N8 e8 v12 (0 : Int32) (0 : Int32) (1 : Int32) ⟨Or.inr rfl, ⟨fun _ => ⟨own_len1 (by simp), own_len2 (by simp), fun q => absurd (hv12.2.2 q) (by rw [hc196]; decide)⟩, fun _ => rfl⟩⟩
        · refine own_go (B := T8.setTop (mkF m 214 #[.val (.int p0), .val (.int p1), .val (.int p2), .val (.int p3), .val (.int p4), .val (.int (3 : Int32)), .val (.int (own_w u0)), .val (.int (own_w u1)), .val (.int (own_w u2)), .val (.int (own_w u3)), .val (.ref bJ), .val (.ref b1), .val (.int v12), .val (.int (0 : Int32)), .val (.int (0 : Int32)), .unset] [(.int (0 : Int32))])) (fun t k => ?_) ?_
          · show Steps p.tables e below (T8.setTop (mkF m 196 #[.val (.int p0), .val (.int p1), .val (.int p2), .val (.int p3), .val (.int p4), .val (.int (3 : Int32)), .val (.int (own_w u0)), .val (.int (own_w u1)), .val (.int (own_w u2)), .val (.int (own_w u3)), .val (.ref bJ), .val (.ref b1), .val (.int v12), .val (.int (0 : Int32)), .val (.int (0 : Int32)), .unset] [(.int v12)])) _
            refine XS.ifYes X8.here hx rfl (pc0 := 196) (pc' := 213) rfl (hb hby at_196) rfl ((if0 _ _).trans (feq hc196).2) (by decide) (by decide) ?_
            refine XS.iconst X8.here hx rfl (hb hby at_213) ?_
            exact k
          exact J214 _ _ (X8.mono (by decide) (by decide)) N8 e8 v12 (0 : Int32) (0 : Int32) (0 : Int32) ⟨Or.inl rfl, ⟨fun q => absurd q (by decide), fun q => absurd (hv12.2.1 (hv12.1.resolve_left hc196)) q.2.2⟩⟩
      refine own_go (B := T2.setTop (mkF m 98 #[.val (.int p0), .val (.int p1), .val (.int p2), .val (.int p3), .val (.int p4), .val (.int (3 : Int32)), .val (.int (own_w u0)), .val (.int (own_w u1)), .val (.int (own_w u2)), .val (.int (own_w u3)), .val (.ref bJ), .val (.ref b1), .unset, .unset, .unset, .unset] [(.int (47 : Int32)), (.int (own_w u0))])) (fun t k => ?_) ?_
      · show Steps p.tables e below (T2.setTop (mkF m 89 #[.val (.int p0), .val (.int p1), .val (.int p2), .val (.int p3), .val (.int p4), .val (.int (3 : Int32)), .val (.int (own_w u0)), .val (.int (own_w u1)), .val (.int (own_w u2)), .val (.int (own_w u3)), .val (.ref bJ), .val (.ref b1), .unset, .unset, .unset, .unset] [])) _
        refine XS.iload X2.here hx rfl (hb hby at_89) rfl ?_
        refine XS.ifNo X2.here hx rfl (hb hby at_91) rfl ((if0 _ _).trans (tlt (by decide : (0 : Int32) < (3 : Int32))).2.2.2) ?_
        refine XS.iload X2.here hx rfl (hb hby at_94) rfl ?_
        refine XS.bipush X2.here hx rfl (hb hby at_96) ?_
        exact k
      by_cases hc98 : (own_w u0) = (47 : Int32)
      · refine own_go (B := T2.setTop (mkF m 145 #[.val (.int p0), .val (.int p1), .val (.int p2), .val (.int p3), .val (.int p4), .val (.int (3 : Int32)), .val (.int (own_w u0)), .val (.int (own_w u1)), .val (.int (own_w u2)), .val (.int (own_w u3)), .val (.ref bJ), .val (.ref b1), .unset, .unset, .unset, .unset] [(.int (1 : Int32))])) (fun t k => ?_) ?_
        · show Steps p.tables e below (T2.setTop (mkF m 98 #[.val (.int p0), .val (.int p1), .val (.int p2), .val (.int p3), .val (.int p4), .val (.int (3 : Int32)), .val (.int (own_w u0)), .val (.int (own_w u1)), .val (.int (own_w u2)), .val (.int (own_w u3)), .val (.ref bJ), .val (.ref b1), .unset, .unset, .unset, .unset] [(.int (47 : Int32)), (.int (own_w u0))])) _
          refine XS.icmpYes X2.here hx rfl (pc0 := 98) (pc' := 140) rfl (hb hby at_98) rfl (teq hc98).1 (by decide) (by decide) ?_
          refine XS.iconst X2.here hx rfl (hb hby at_140) ?_
          refine XS.goto X2.here hx rfl (pc0 := 141) (pc' := 145) rfl (hb hby at_141) (by decide) (by decide) ?_
          exact k
        exact J145 _ _ (X2.mono (by decide) (by decide)) N2 e2 (1 : Int32) ⟨Or.inr rfl, ⟨fun _ => ⟨u0, by simp, hc98⟩, fun _ => rfl⟩⟩
      · refine own_go (B := T2.setTop (mkF m 111 #[.val (.int p0), .val (.int p1), .val (.int p2), .val (.int p3), .val (.int p4), .val (.int (3 : Int32)), .val (.int (own_w u0)), .val (.int (own_w u1)), .val (.int (own_w u2)), .val (.int (own_w u3)), .val (.ref bJ), .val (.ref b1), .unset, .unset, .unset, .unset] [(.int (47 : Int32)), (.int (own_w u1))])) (fun t k => ?_) ?_
        · show Steps p.tables e below (T2.setTop (mkF m 98 #[.val (.int p0), .val (.int p1), .val (.int p2), .val (.int p3), .val (.int p4), .val (.int (3 : Int32)), .val (.int (own_w u0)), .val (.int (own_w u1)), .val (.int (own_w u2)), .val (.int (own_w u3)), .val (.ref bJ), .val (.ref b1), .unset, .unset, .unset, .unset] [(.int (47 : Int32)), (.int (own_w u0))])) _
          refine XS.icmpNo X2.here hx rfl (hb hby at_98) rfl (feq hc98).1 ?_
          refine XS.iload X2.here hx rfl (hb hby at_101) rfl ?_
          refine XS.iconst X2.here hx rfl (hb hby at_103) ?_
          refine XS.icmpNo X2.here hx rfl (hb hby at_104) rfl (tlt (by decide : (1 : Int32) < (3 : Int32))).2.2.2 ?_
          refine XS.iload X2.here hx rfl (hb hby at_107) rfl ?_
          show Steps p.tables e below (T2.setTop (mkF m 109 #[.val (.int p0), .val (.int p1), .val (.int p2), .val (.int p3), .val (.int p4), .val (.int (3 : Int32)), .val (.int (own_w u0)), .val (.int (own_w u1)), .val (.int (own_w u2)), .val (.int (own_w u3)), .val (.ref bJ), .val (.ref b1), .unset, .unset, .unset, .unset] [(.int (own_w u1))])) _
          refine XS.bipush X2.here hx rfl (hb hby at_109) ?_
          exact k
        by_cases hc111 : (own_w u1) = (47 : Int32)
        · refine own_go (B := T2.setTop (mkF m 145 #[.val (.int p0), .val (.int p1), .val (.int p2), .val (.int p3), .val (.int p4), .val (.int (3 : Int32)), .val (.int (own_w u0)), .val (.int (own_w u1)), .val (.int (own_w u2)), .val (.int (own_w u3)), .val (.ref bJ), .val (.ref b1), .unset, .unset, .unset, .unset] [(.int (1 : Int32))])) (fun t k => ?_) ?_
          · show Steps p.tables e below (T2.setTop (mkF m 111 #[.val (.int p0), .val (.int p1), .val (.int p2), .val (.int p3), .val (.int p4), .val (.int (3 : Int32)), .val (.int (own_w u0)), .val (.int (own_w u1)), .val (.int (own_w u2)), .val (.int (own_w u3)), .val (.ref bJ), .val (.ref b1), .unset, .unset, .unset, .unset] [(.int (47 : Int32)), (.int (own_w u1))])) _
            refine XS.icmpYes X2.here hx rfl (pc0 := 111) (pc' := 140) rfl (hb hby at_111) rfl (teq hc111).1 (by decide) (by decide) ?_
            refine XS.iconst X2.here hx rfl (hb hby at_140) ?_
            refine XS.goto X2.here hx rfl (pc0 := 141) (pc' := 145) rfl (hb hby at_141) (by decide) (by decide) ?_
            exact k
          exact J145 _ _ (X2.mono (by decide) (by decide)) N2 e2 (1 : Int32) ⟨Or.inr rfl, ⟨fun _ => ⟨u1, by simp, hc111⟩, fun _ => rfl⟩⟩
        · refine own_go (B := T2.setTop (mkF m 124 #[.val (.int p0), .val (.int p1), .val (.int p2), .val (.int p3), .val (.int p4), .val (.int (3 : Int32)), .val (.int (own_w u0)), .val (.int (own_w u1)), .val (.int (own_w u2)), .val (.int (own_w u3)), .val (.ref bJ), .val (.ref b1), .unset, .unset, .unset, .unset] [(.int (47 : Int32)), (.int (own_w u2))])) (fun t k => ?_) ?_
          · show Steps p.tables e below (T2.setTop (mkF m 111 #[.val (.int p0), .val (.int p1), .val (.int p2), .val (.int p3), .val (.int p4), .val (.int (3 : Int32)), .val (.int (own_w u0)), .val (.int (own_w u1)), .val (.int (own_w u2)), .val (.int (own_w u3)), .val (.ref bJ), .val (.ref b1), .unset, .unset, .unset, .unset] [(.int (47 : Int32)), (.int (own_w u1))])) _
            refine XS.icmpNo X2.here hx rfl (hb hby at_111) rfl (feq hc111).1 ?_
            refine XS.iload X2.here hx rfl (hb hby at_114) rfl ?_
            refine XS.iconst X2.here hx rfl (hb hby at_116) ?_
            refine XS.icmpNo X2.here hx rfl (hb hby at_117) rfl (tlt (by decide : (2 : Int32) < (3 : Int32))).2.2.2 ?_
            refine XS.iload X2.here hx rfl (hb hby at_120) rfl ?_
            show Steps p.tables e below (T2.setTop (mkF m 122 #[.val (.int p0), .val (.int p1), .val (.int p2), .val (.int p3), .val (.int p4), .val (.int (3 : Int32)), .val (.int (own_w u0)), .val (.int (own_w u1)), .val (.int (own_w u2)), .val (.int (own_w u3)), .val (.ref bJ), .val (.ref b1), .unset, .unset, .unset, .unset] [(.int (own_w u2))])) _
            refine XS.bipush X2.here hx rfl (hb hby at_122) ?_
            exact k
          by_cases hc124 : (own_w u2) = (47 : Int32)
          · refine own_go (B := T2.setTop (mkF m 145 #[.val (.int p0), .val (.int p1), .val (.int p2), .val (.int p3), .val (.int p4), .val (.int (3 : Int32)), .val (.int (own_w u0)), .val (.int (own_w u1)), .val (.int (own_w u2)), .val (.int (own_w u3)), .val (.ref bJ), .val (.ref b1), .unset, .unset, .unset, .unset] [(.int (1 : Int32))])) (fun t k => ?_) ?_
            · show Steps p.tables e below (T2.setTop (mkF m 124 #[.val (.int p0), .val (.int p1), .val (.int p2), .val (.int p3), .val (.int p4), .val (.int (3 : Int32)), .val (.int (own_w u0)), .val (.int (own_w u1)), .val (.int (own_w u2)), .val (.int (own_w u3)), .val (.ref bJ), .val (.ref b1), .unset, .unset, .unset, .unset] [(.int (47 : Int32)), (.int (own_w u2))])) _
              refine XS.icmpYes X2.here hx rfl (pc0 := 124) (pc' := 140) rfl (hb hby at_124) rfl (teq hc124).1 (by decide) (by decide) ?_
              refine XS.iconst X2.here hx rfl (hb hby at_140) ?_
              refine XS.goto X2.here hx rfl (pc0 := 141) (pc' := 145) rfl (hb hby at_141) (by decide) (by decide) ?_
              exact k
            exact J145 _ _ (X2.mono (by decide) (by decide)) N2 e2 (1 : Int32) ⟨Or.inr rfl, ⟨fun _ => ⟨u2, by simp, hc124⟩, fun _ => rfl⟩⟩
          · refine own_go (B := T2.setTop (mkF m 145 #[.val (.int p0), .val (.int p1), .val (.int p2), .val (.int p3), .val (.int p4), .val (.int (3 : Int32)), .val (.int (own_w u0)), .val (.int (own_w u1)), .val (.int (own_w u2)), .val (.int (own_w u3)), .val (.ref bJ), .val (.ref b1), .unset, .unset, .unset, .unset] [(.int (0 : Int32))])) (fun t k => ?_) ?_
            · show Steps p.tables e below (T2.setTop (mkF m 124 #[.val (.int p0), .val (.int p1), .val (.int p2), .val (.int p3), .val (.int p4), .val (.int (3 : Int32)), .val (.int (own_w u0)), .val (.int (own_w u1)), .val (.int (own_w u2)), .val (.int (own_w u3)), .val (.ref bJ), .val (.ref b1), .unset, .unset, .unset, .unset] [(.int (47 : Int32)), (.int (own_w u2))])) _
              refine XS.icmpNo X2.here hx rfl (hb hby at_124) rfl (feq hc124).1 ?_
              refine XS.iload X2.here hx rfl (hb hby at_127) rfl ?_
              refine XS.iconst X2.here hx rfl (hb hby at_129) ?_
              refine XS.icmpYes X2.here hx rfl (pc0 := 130) (pc' := 144) rfl (hb hby at_130) rfl (flt (by decide : ¬ ((3 : Int32) < (3 : Int32)))).2.2.2 (by decide) (by decide) ?_
              refine XS.iconst X2.here hx rfl (hb hby at_144) ?_
              show Steps p.tables e below (T2.setTop (mkF m 145 #[.val (.int p0), .val (.int p1), .val (.int p2), .val (.int p3), .val (.int p4), .val (.int (3 : Int32)), .val (.int (own_w u0)), .val (.int (own_w u1)), .val (.int (own_w u2)), .val (.int (own_w u3)), .val (.ref bJ), .val (.ref b1), .unset, .unset, .unset, .unset] [(.int (0 : Int32))])) _
              exact k
            exact J145 _ _ (X2.mono (by decide) (by decide)) N2 e2 (0 : Int32) ⟨Or.inl rfl, ⟨fun q => absurd q (by decide), fun q => absurd q (own_not (own_allc hc98 (own_allc hc111 (own_allc hc124 own_alln))))⟩⟩
    · have J145 : ∀ (TJ : State) (LJ : List Loc) (XJ : Stand p l e room_1 (s.setVm T2.vm) m #[(.int p0), (.int p1), (.int p2), (.int p3), (.int p4)] below meth c TJ LJ 4 20) (NJ : Fr n0 LJ) (eJ : TJ.heap = h2) (v12 : Int32), ((v12 = (0 : Int32) ∨ v12 = (1 : Int32)) ∧ (v12 = (1 : Int32) ↔ own_has ([u0, u1, u2, u3] : List UInt16))) → own_Gd p.tables e below (own_PI (Q_rm0 Z h0 n0) (fun vm => True) s room_1.cells room_1.slots) (TJ.setTop (mkF m 145 #[.val (.int p0), .val (.int p1), .val (.int p2), .val (.int p3), .val (.int p4), .val (.int (4 : Int32)), .val (.int (own_w u0)), .val (.int (own_w u1)), .val (.int (own_w u2)), .val (.int (own_w u3)), .val (.ref bJ), .val (.ref b1), .unset, .unset, .unset, .unset] [(.int v12)])) := by
        intro T9 L9 X9 N9 e9 v12 hv12
        refine own_go (B := T9.setTop (mkF m 196 #[.val (.int p0), .val (.int p1), .val (.int p2), .val (.int p3), .val (.int p4), .val (.int (4 : Int32)), .val (.int (own_w u0)), .val (.int (own_w u1)), .val (.int (own_w u2)), .val (.int (own_w u3)), .val (.ref bJ), .val (.ref b1), .val (.int v12), .val (.int (0 : Int32)), .val (.int (0 : Int32)), .unset] [(.int v12)])) (fun t k => ?_) ?_
        · show Steps p.tables e below (T9.setTop (mkF m 145 #[.val (.int p0), .val (.int p1), .val (.int p2), .val (.int p3), .val (.int p4), .val (.int (4 : Int32)), .val (.int (own_w u0)), .val (.int (own_w u1)), .val (.int (own_w u2)), .val (.int (own_w u3)), .val (.ref bJ), .val (.ref b1), .unset, .unset, .unset, .unset] [(.int v12)])) _
          refine XS.istore X9.here hx rfl (hb hby at_145) rfl (l' := #[.val (.int p0), .val (.int p1), .val (.int p2), .val (.int p3), .val (.int p4), .val (.int (4 : Int32)), .val (.int (own_w u0)), .val (.int (own_w u1)), .val (.int (own_w u2)), .val (.int (own_w u3)), .val (.ref bJ), .val (.ref b1), .val (.int v12), .unset, .unset, .unset]) rfl ?_
          refine XS.iload X9.here hx rfl (hb hby at_147) rfl ?_
          refine XS.iconst X9.here hx rfl (hb hby at_149) ?_
          refine XS.icmpYes X9.here hx rfl (pc0 := 150) (pc' := 164) rfl (hb hby at_150) rfl (feq (by decide : ¬ ((4 : Int32) = (1 : Int32)))).2 (by decide) (by decide) ?_
          refine XS.iconst X9.here hx rfl (hb hby at_164) ?_
          show Steps p.tables e below (T9.setTop (mkF m 165 #[.val (.int p0), .val (.int p1), .val (.int p2), .val (.int p3), .val (.int p4), .val (.int (4 : Int32)), .val (.int (own_w u0)), .val (.int (own_w u1)), .val (.int (own_w u2)), .val (.int (own_w u3)), .val (.ref bJ), .val (.ref b1), .val (.int v12), .unset, .unset, .unset] [(.int (0 : Int32))])) _
          refine XS.istore X9.here hx rfl (hb hby at_165) rfl (l' := #[.val (.int p0), .val (.int p1), .val (.int p2), .val (.int p3), .val (.int p4), .val (.int (4 : Int32)), .val (.int (own_w u0)), .val (.int (own_w u1)), .val (.int (own_w u2)), .val (.int (own_w u3)), .val (.ref bJ), .val (.ref b1), .val (.int v12), .val (.int (0 : Int32)), .unset, .unset]) rfl ?_
          refine XS.iload X9.here hx rfl (hb hby at_167) rfl ?_
          refine XS.iconst X9.here hx rfl (hb hby at_169) ?_
          refine XS.icmpYes X9.here hx rfl (pc0 := 170) (pc' := 191) rfl (hb hby at_170) rfl (feq (by decide : ¬ ((4 : Int32) = (2 : Int32)))).2 (by decide) (by decide) ?_
          refine XS.iconst X9.here hx rfl (hb hby at_191) ?_
          show Steps p.tables e below (T9.setTop (mkF m 192 #[.val (.int p0), .val (.int p1), .val (.int p2), .val (.int p3), .val (.int p4), .val (.int (4 : Int32)), .val (.int (own_w u0)), .val (.int (own_w u1)), .val (.int (own_w u2)), .val (.int (own_w u3)), .val (.ref bJ), .val (.ref b1), .val (.int v12), .val (.int (0 : Int32)), .unset, .unset] [(.int (0 : Int32))])) _
          refine XS.istore X9.here hx rfl (hb hby at_192) rfl (l' := #[.val (.int p0), .val (.int p1), .val (.int p2), .val (.int p3), .val (.int p4), .val (.int (4 : Int32)), .val (.int (own_w u0)), .val (.int (own_w u1)), .val (.int (own_w u2)), .val (.int (own_w u3)), .val (.ref bJ), .val (.ref b1), .val (.int v12), .val (.int (0 : Int32)), .val (.int (0 : Int32)), .unset]) rfl ?_
          refine XS.iload X9.here hx rfl (hb hby at_194) rfl ?_
          exact k
        by_cases hc196 : v12 = (0 : Int32)
        · refine own_go (B := T9.setTop (mkF m 214 #[.val (.int p0), .val (.int p1), .val (.int p2), .val (.int p3), .val (.int p4), .val (.int (4 : Int32)), .val (.int (own_w u0)), .val (.int (own_w u1)), .val (.int (own_w u2)), .val (.int (own_w u3)), .val (.ref bJ), .val (.ref b1), .val (.int v12), .val (.int (0 : Int32)), .val (.int (0 : Int32)), .unset] [(.int (1 : Int32))])) (fun t k => ?_) ?_
          · show Steps p.tables e below (T9.setTop (mkF m 196 #[.val (.int p0), .val (.int p1), .val (.int p2), .val (.int p3), .val (.int p4), .val (.int (4 : Int32)), .val (.int (own_w u0)), .val (.int (own_w u1)), .val (.int (own_w u2)), .val (.int (own_w u3)), .val (.ref bJ), .val (.ref b1), .val (.int v12), .val (.int (0 : Int32)), .val (.int (0 : Int32)), .unset] [(.int v12)])) _
            refine XS.ifNo X9.here hx rfl (hb hby at_196) rfl ((if0 _ _).trans (teq hc196).2) ?_
            refine XS.iload X9.here hx rfl (hb hby at_199) rfl ?_
            refine XS.ifNo X9.here hx rfl (hb hby at_201) rfl ((if0 _ _).trans (teq ((rfl : (0 : Int32) = (0 : Int32)) : (0 : Int32) = (0 : Int32))).2) ?_
            refine XS.iload X9.here hx rfl (hb hby at_204) rfl ?_
            refine XS.ifNo X9.here hx rfl (hb hby at_206) rfl ((if0 _ _).trans (teq ((rfl : (0 : Int32) = (0 : Int32)) : (0 : Int32) = (0 : Int32))).2) ?_
            show Steps p.tables e below (T9.setTop (mkF m 209 #[.val (.int p0), .val (.int p1), .val (.int p2), .val (.int p3), .val (.int p4), .val (.int (4 : Int32)), .val (.int (own_w u0)), .val (.int (own_w u1)), .val (.int (own_w u2)), .val (.int (own_w u3)), .val (.ref bJ), .val (.ref b1), .val (.int v12), .val (.int (0 : Int32)), .val (.int (0 : Int32)), .unset] [])) _
            refine XS.iconst X9.here hx rfl (hb hby at_209) ?_
            refine XS.goto X9.here hx rfl (pc0 := 210) (pc' := 214) rfl (hb hby at_210) (by decide) (by decide) ?_
            exact k
          exact J214 _ _ (X9.mono (by decide) (by decide)) N9 e9 v12 (0 : Int32) (0 : Int32) (1 : Int32) ⟨Or.inr rfl, ⟨fun _ => ⟨own_len1 (by simp), own_len2 (by simp), fun q => absurd (hv12.2.2 q) (by rw [hc196]; decide)⟩, fun _ => rfl⟩⟩
        · refine own_go (B := T9.setTop (mkF m 214 #[.val (.int p0), .val (.int p1), .val (.int p2), .val (.int p3), .val (.int p4), .val (.int (4 : Int32)), .val (.int (own_w u0)), .val (.int (own_w u1)), .val (.int (own_w u2)), .val (.int (own_w u3)), .val (.ref bJ), .val (.ref b1), .val (.int v12), .val (.int (0 : Int32)), .val (.int (0 : Int32)), .unset] [(.int (0 : Int32))])) (fun t k => ?_) ?_
          · show Steps p.tables e below (T9.setTop (mkF m 196 #[.val (.int p0), .val (.int p1), .val (.int p2), .val (.int p3), .val (.int p4), .val (.int (4 : Int32)), .val (.int (own_w u0)), .val (.int (own_w u1)), .val (.int (own_w u2)), .val (.int (own_w u3)), .val (.ref bJ), .val (.ref b1), .val (.int v12), .val (.int (0 : Int32)), .val (.int (0 : Int32)), .unset] [(.int v12)])) _
            refine XS.ifYes X9.here hx rfl (pc0 := 196) (pc' := 213) rfl (hb hby at_196) rfl ((if0 _ _).trans (feq hc196).2) (by decide) (by decide) ?_
            refine XS.iconst X9.here hx rfl (hb hby at_213) ?_
            exact k
          exact J214 _ _ (X9.mono (by decide) (by decide)) N9 e9 v12 (0 : Int32) (0 : Int32) (0 : Int32) ⟨Or.inl rfl, ⟨fun q => absurd q (by decide), fun q => absurd (hv12.2.1 (hv12.1.resolve_left hc196)) q.2.2⟩⟩
      refine own_go (B := T2.setTop (mkF m 98 #[.val (.int p0), .val (.int p1), .val (.int p2), .val (.int p3), .val (.int p4), .val (.int (4 : Int32)), .val (.int (own_w u0)), .val (.int (own_w u1)), .val (.int (own_w u2)), .val (.int (own_w u3)), .val (.ref bJ), .val (.ref b1), .unset, .unset, .unset, .unset] [(.int (47 : Int32)), (.int (own_w u0))])) (fun t k => ?_) ?_
      · show Steps p.tables e below (T2.setTop (mkF m 89 #[.val (.int p0), .val (.int p1), .val (.int p2), .val (.int p3), .val (.int p4), .val (.int (4 : Int32)), .val (.int (own_w u0)), .val (.int (own_w u1)), .val (.int (own_w u2)), .val (.int (own_w u3)), .val (.ref bJ), .val (.ref b1), .unset, .unset, .unset, .unset] [])) _
        refine XS.iload X2.here hx rfl (hb hby at_89) rfl ?_
        refine XS.ifNo X2.here hx rfl (hb hby at_91) rfl ((if0 _ _).trans (tlt (by decide : (0 : Int32) < (4 : Int32))).2.2.2) ?_
        refine XS.iload X2.here hx rfl (hb hby at_94) rfl ?_
        refine XS.bipush X2.here hx rfl (hb hby at_96) ?_
        exact k
      by_cases hc98 : (own_w u0) = (47 : Int32)
      · refine own_go (B := T2.setTop (mkF m 145 #[.val (.int p0), .val (.int p1), .val (.int p2), .val (.int p3), .val (.int p4), .val (.int (4 : Int32)), .val (.int (own_w u0)), .val (.int (own_w u1)), .val (.int (own_w u2)), .val (.int (own_w u3)), .val (.ref bJ), .val (.ref b1), .unset, .unset, .unset, .unset] [(.int (1 : Int32))])) (fun t k => ?_) ?_
        · show Steps p.tables e below (T2.setTop (mkF m 98 #[.val (.int p0), .val (.int p1), .val (.int p2), .val (.int p3), .val (.int p4), .val (.int (4 : Int32)), .val (.int (own_w u0)), .val (.int (own_w u1)), .val (.int (own_w u2)), .val (.int (own_w u3)), .val (.ref bJ), .val (.ref b1), .unset, .unset, .unset, .unset] [(.int (47 : Int32)), (.int (own_w u0))])) _
          refine XS.icmpYes X2.here hx rfl (pc0 := 98) (pc' := 140) rfl (hb hby at_98) rfl (teq hc98).1 (by decide) (by decide) ?_
          refine XS.iconst X2.here hx rfl (hb hby at_140) ?_
          refine XS.goto X2.here hx rfl (pc0 := 141) (pc' := 145) rfl (hb hby at_141) (by decide) (by decide) ?_
          exact k
        exact J145 _ _ (X2.mono (by decide) (by decide)) N2 e2 (1 : Int32) ⟨Or.inr rfl, ⟨fun _ => ⟨u0, by simp, hc98⟩, fun _ => rfl⟩⟩
      · refine own_go (B := T2.setTop (mkF m 111 #[.val (.int p0), .val (.int p1), .val (.int p2), .val (.int p3), .val (.int p4), .val (.int (4 : Int32)), .val (.int (own_w u0)), .val (.int (own_w u1)), .val (.int (own_w u2)), .val (.int (own_w u3)), .val (.ref bJ), .val (.ref b1), .unset, .unset, .unset, .unset] [(.int (47 : Int32)), (.int (own_w u1))])) (fun t k => ?_) ?_
        · show Steps p.tables e below (T2.setTop (mkF m 98 #[.val (.int p0), .val (.int p1), .val (.int p2), .val (.int p3), .val (.int p4), .val (.int (4 : Int32)), .val (.int (own_w u0)), .val (.int (own_w u1)), .val (.int (own_w u2)), .val (.int (own_w u3)), .val (.ref bJ), .val (.ref b1), .unset, .unset, .unset, .unset] [(.int (47 : Int32)), (.int (own_w u0))])) _
          refine XS.icmpNo X2.here hx rfl (hb hby at_98) rfl (feq hc98).1 ?_
          refine XS.iload X2.here hx rfl (hb hby at_101) rfl ?_
          refine XS.iconst X2.here hx rfl (hb hby at_103) ?_
          refine XS.icmpNo X2.here hx rfl (hb hby at_104) rfl (tlt (by decide : (1 : Int32) < (4 : Int32))).2.2.2 ?_
          refine XS.iload X2.here hx rfl (hb hby at_107) rfl ?_
          show Steps p.tables e below (T2.setTop (mkF m 109 #[.val (.int p0), .val (.int p1), .val (.int p2), .val (.int p3), .val (.int p4), .val (.int (4 : Int32)), .val (.int (own_w u0)), .val (.int (own_w u1)), .val (.int (own_w u2)), .val (.int (own_w u3)), .val (.ref bJ), .val (.ref b1), .unset, .unset, .unset, .unset] [(.int (own_w u1))])) _
          refine XS.bipush X2.here hx rfl (hb hby at_109) ?_
          exact k
        by_cases hc111 : (own_w u1) = (47 : Int32)
        · refine own_go (B := T2.setTop (mkF m 145 #[.val (.int p0), .val (.int p1), .val (.int p2), .val (.int p3), .val (.int p4), .val (.int (4 : Int32)), .val (.int (own_w u0)), .val (.int (own_w u1)), .val (.int (own_w u2)), .val (.int (own_w u3)), .val (.ref bJ), .val (.ref b1), .unset, .unset, .unset, .unset] [(.int (1 : Int32))])) (fun t k => ?_) ?_
          · show Steps p.tables e below (T2.setTop (mkF m 111 #[.val (.int p0), .val (.int p1), .val (.int p2), .val (.int p3), .val (.int p4), .val (.int (4 : Int32)), .val (.int (own_w u0)), .val (.int (own_w u1)), .val (.int (own_w u2)), .val (.int (own_w u3)), .val (.ref bJ), .val (.ref b1), .unset, .unset, .unset, .unset] [(.int (47 : Int32)), (.int (own_w u1))])) _
            refine XS.icmpYes X2.here hx rfl (pc0 := 111) (pc' := 140) rfl (hb hby at_111) rfl (teq hc111).1 (by decide) (by decide) ?_
            refine XS.iconst X2.here hx rfl (hb hby at_140) ?_
            refine XS.goto X2.here hx rfl (pc0 := 141) (pc' := 145) rfl (hb hby at_141) (by decide) (by decide) ?_
            exact k
          exact J145 _ _ (X2.mono (by decide) (by decide)) N2 e2 (1 : Int32) ⟨Or.inr rfl, ⟨fun _ => ⟨u1, by simp, hc111⟩, fun _ => rfl⟩⟩
        · refine own_go (B := T2.setTop (mkF m 124 #[.val (.int p0), .val (.int p1), .val (.int p2), .val (.int p3), .val (.int p4), .val (.int (4 : Int32)), .val (.int (own_w u0)), .val (.int (own_w u1)), .val (.int (own_w u2)), .val (.int (own_w u3)), .val (.ref bJ), .val (.ref b1), .unset, .unset, .unset, .unset] [(.int (47 : Int32)), (.int (own_w u2))])) (fun t k => ?_) ?_
          · show Steps p.tables e below (T2.setTop (mkF m 111 #[.val (.int p0), .val (.int p1), .val (.int p2), .val (.int p3), .val (.int p4), .val (.int (4 : Int32)), .val (.int (own_w u0)), .val (.int (own_w u1)), .val (.int (own_w u2)), .val (.int (own_w u3)), .val (.ref bJ), .val (.ref b1), .unset, .unset, .unset, .unset] [(.int (47 : Int32)), (.int (own_w u1))])) _
            refine XS.icmpNo X2.here hx rfl (hb hby at_111) rfl (feq hc111).1 ?_
            refine XS.iload X2.here hx rfl (hb hby at_114) rfl ?_
            refine XS.iconst X2.here hx rfl (hb hby at_116) ?_
            refine XS.icmpNo X2.here hx rfl (hb hby at_117) rfl (tlt (by decide : (2 : Int32) < (4 : Int32))).2.2.2 ?_
            refine XS.iload X2.here hx rfl (hb hby at_120) rfl ?_
            show Steps p.tables e below (T2.setTop (mkF m 122 #[.val (.int p0), .val (.int p1), .val (.int p2), .val (.int p3), .val (.int p4), .val (.int (4 : Int32)), .val (.int (own_w u0)), .val (.int (own_w u1)), .val (.int (own_w u2)), .val (.int (own_w u3)), .val (.ref bJ), .val (.ref b1), .unset, .unset, .unset, .unset] [(.int (own_w u2))])) _
            refine XS.bipush X2.here hx rfl (hb hby at_122) ?_
            exact k
          by_cases hc124 : (own_w u2) = (47 : Int32)
          · refine own_go (B := T2.setTop (mkF m 145 #[.val (.int p0), .val (.int p1), .val (.int p2), .val (.int p3), .val (.int p4), .val (.int (4 : Int32)), .val (.int (own_w u0)), .val (.int (own_w u1)), .val (.int (own_w u2)), .val (.int (own_w u3)), .val (.ref bJ), .val (.ref b1), .unset, .unset, .unset, .unset] [(.int (1 : Int32))])) (fun t k => ?_) ?_
            · show Steps p.tables e below (T2.setTop (mkF m 124 #[.val (.int p0), .val (.int p1), .val (.int p2), .val (.int p3), .val (.int p4), .val (.int (4 : Int32)), .val (.int (own_w u0)), .val (.int (own_w u1)), .val (.int (own_w u2)), .val (.int (own_w u3)), .val (.ref bJ), .val (.ref b1), .unset, .unset, .unset, .unset] [(.int (47 : Int32)), (.int (own_w u2))])) _
              refine XS.icmpYes X2.here hx rfl (pc0 := 124) (pc' := 140) rfl (hb hby at_124) rfl (teq hc124).1 (by decide) (by decide) ?_
              refine XS.iconst X2.here hx rfl (hb hby at_140) ?_
              refine XS.goto X2.here hx rfl (pc0 := 141) (pc' := 145) rfl (hb hby at_141) (by decide) (by decide) ?_
              exact k
            exact J145 _ _ (X2.mono (by decide) (by decide)) N2 e2 (1 : Int32) ⟨Or.inr rfl, ⟨fun _ => ⟨u2, by simp, hc124⟩, fun _ => rfl⟩⟩
          · refine own_go (B := T2.setTop (mkF m 137 #[.val (.int p0), .val (.int p1), .val (.int p2), .val (.int p3), .val (.int p4), .val (.int (4 : Int32)), .val (.int (own_w u0)), .val (.int (own_w u1)), .val (.int (own_w u2)), .val (.int (own_w u3)), .val (.ref bJ), .val (.ref b1), .unset, .unset, .unset, .unset] [(.int (47 : Int32)), (.int (own_w u3))])) (fun t k => ?_) ?_
            · show Steps p.tables e below (T2.setTop (mkF m 124 #[.val (.int p0), .val (.int p1), .val (.int p2), .val (.int p3), .val (.int p4), .val (.int (4 : Int32)), .val (.int (own_w u0)), .val (.int (own_w u1)), .val (.int (own_w u2)), .val (.int (own_w u3)), .val (.ref bJ), .val (.ref b1), .unset, .unset, .unset, .unset] [(.int (47 : Int32)), (.int (own_w u2))])) _
              refine XS.icmpNo X2.here hx rfl (hb hby at_124) rfl (feq hc124).1 ?_
              refine XS.iload X2.here hx rfl (hb hby at_127) rfl ?_
              refine XS.iconst X2.here hx rfl (hb hby at_129) ?_
              refine XS.icmpNo X2.here hx rfl (hb hby at_130) rfl (tlt (by decide : (3 : Int32) < (4 : Int32))).2.2.2 ?_
              refine XS.iload X2.here hx rfl (hb hby at_133) rfl ?_
              show Steps p.tables e below (T2.setTop (mkF m 135 #[.val (.int p0), .val (.int p1), .val (.int p2), .val (.int p3), .val (.int p4), .val (.int (4 : Int32)), .val (.int (own_w u0)), .val (.int (own_w u1)), .val (.int (own_w u2)), .val (.int (own_w u3)), .val (.ref bJ), .val (.ref b1), .unset, .unset, .unset, .unset] [(.int (own_w u3))])) _
              refine XS.bipush X2.here hx rfl (hb hby at_135) ?_
              exact k
            by_cases hc137 : (own_w u3) = (47 : Int32)
            · refine own_go (B := T2.setTop (mkF m 145 #[.val (.int p0), .val (.int p1), .val (.int p2), .val (.int p3), .val (.int p4), .val (.int (4 : Int32)), .val (.int (own_w u0)), .val (.int (own_w u1)), .val (.int (own_w u2)), .val (.int (own_w u3)), .val (.ref bJ), .val (.ref b1), .unset, .unset, .unset, .unset] [(.int (1 : Int32))])) (fun t k => ?_) ?_
              · show Steps p.tables e below (T2.setTop (mkF m 137 #[.val (.int p0), .val (.int p1), .val (.int p2), .val (.int p3), .val (.int p4), .val (.int (4 : Int32)), .val (.int (own_w u0)), .val (.int (own_w u1)), .val (.int (own_w u2)), .val (.int (own_w u3)), .val (.ref bJ), .val (.ref b1), .unset, .unset, .unset, .unset] [(.int (47 : Int32)), (.int (own_w u3))])) _
                refine XS.icmpNo X2.here hx rfl (hb hby at_137) rfl (teq hc137).2 ?_
                refine XS.iconst X2.here hx rfl (hb hby at_140) ?_
                refine XS.goto X2.here hx rfl (pc0 := 141) (pc' := 145) rfl (hb hby at_141) (by decide) (by decide) ?_
                exact k
              exact J145 _ _ (X2.mono (by decide) (by decide)) N2 e2 (1 : Int32) ⟨Or.inr rfl, ⟨fun _ => ⟨u3, by simp, hc137⟩, fun _ => rfl⟩⟩
            · refine own_go (B := T2.setTop (mkF m 145 #[.val (.int p0), .val (.int p1), .val (.int p2), .val (.int p3), .val (.int p4), .val (.int (4 : Int32)), .val (.int (own_w u0)), .val (.int (own_w u1)), .val (.int (own_w u2)), .val (.int (own_w u3)), .val (.ref bJ), .val (.ref b1), .unset, .unset, .unset, .unset] [(.int (0 : Int32))])) (fun t k => ?_) ?_
              · show Steps p.tables e below (T2.setTop (mkF m 137 #[.val (.int p0), .val (.int p1), .val (.int p2), .val (.int p3), .val (.int p4), .val (.int (4 : Int32)), .val (.int (own_w u0)), .val (.int (own_w u1)), .val (.int (own_w u2)), .val (.int (own_w u3)), .val (.ref bJ), .val (.ref b1), .unset, .unset, .unset, .unset] [(.int (47 : Int32)), (.int (own_w u3))])) _
                refine XS.icmpYes X2.here hx rfl (pc0 := 137) (pc' := 144) rfl (hb hby at_137) rfl (feq hc137).2 (by decide) (by decide) ?_
                refine XS.iconst X2.here hx rfl (hb hby at_144) ?_
                exact k
              exact J145 _ _ (X2.mono (by decide) (by decide)) N2 e2 (0 : Int32) ⟨Or.inl rfl, ⟨fun q => absurd q (by decide), fun q => absurd q (own_not (own_allc hc98 (own_allc hc111 (own_allc hc124 (own_allc hc137 own_alln)))))⟩⟩
  obtain ⟨nn, hnn⟩ : ∃ z, z = ((p0 &&& (2147483647 : Int32)) % (5 : Int32)) := ⟨_, rfl⟩
  rw [← hnn]
  have h5 := own_n5 p0
  rw [← hnn] at h5
  rcases h5 with rfl | rfl | rfl | rfl | rfl
  · refine own_go (B := s₁.setTop (mkF m 27 #[.val (.int p0), .val (.int p1), .val (.int p2), .val (.int p3), .val (.int p4), .val (.int (0 : Int32)), .val (.int (own_w u0)), .val (.int (own_w u1)), .val (.int (own_w u2)), .val (.int (own_w u3)), .unset, .unset, .unset, .unset, .unset, .unset] [(.int (0 : Int32))])) (fun t k => ?_) ?_
    · show Steps p.tables e below (s₁.setTop (mkF m 25 #[.val (.int p0), .val (.int p1), .val (.int p2), .val (.int p3), .val (.int p4), .val (.int (0 : Int32)), .val (.int (own_w u0)), .val (.int (own_w u1)), .val (.int (own_w u2)), .val (.int (own_w u3)), .unset, .unset, .unset, .unset, .unset, .unset] [])) _
      refine XS.iload X0.here hx rfl (hb hby at_25) rfl ?_
      exact k
    obtain ⟨T10, h10, k10, X10, e10, E10, A10, st10⟩ := newP X0 hx hZ (hw _ (List.mem_of_getElem? (i := 1) rfl)) e0 (g := (mkF m 27 #[.val (.int p0), .val (.int p1), .val (.int p2), .val (.int p3), .val (.int p4), .val (.int (0 : Int32)), .val (.int (own_w u0)), .val (.int (own_w u1)), .val (.int (own_w u2)), .val (.int (own_w u3)), .unset, .unset, .unset, .unset, .unset, .unset] [(.int (0 : Int32))])) rfl (hb hby at_27) rfl (by decide) (cap := 0) (by decide) (by decide) (by decide) (by decide)
    obtain ⟨b10, g10⟩ : ∃ z, z = h0.size := ⟨_, rfl⟩
    rw [← g10] at A10 st10
    have g_b10 : n0 ≤ b10 := Nat.le_trans Z0 (Nat.le_of_eq g10.symm)
    have sz_b10 : h0.size ≤ b10 := Nat.le_trans K.1 (Nat.le_of_eq g10.symm)
    have K := K.ext E10
    have Z0 := Nat.le_trans Z0 E10.1
    have O := O.ext E10
    have hk := Nat.le_trans hk E10.1
    have V_b10 : Arv Z h10 b10 k10 .char (0 : Int32) [] (.int (0 : Int32)) := Arv.new A10 (by decide)
    refine own_go (B := T10.setTop (mkF m 29 #[.val (.int p0), .val (.int p1), .val (.int p2), .val (.int p3), .val (.int p4), .val (.int (0 : Int32)), .val (.int (own_w u0)), .val (.int (own_w u1)), .val (.int (own_w u2)), .val (.int (own_w u3)), .unset, .unset, .unset, .unset, .unset, .unset] [(.ref b10)])) st10 ?_
    refine own_go (B := T10.setTop (mkF m 78 #[.val (.int p0), .val (.int p1), .val (.int p2), .val (.int p3), .val (.int p4), .val (.int (0 : Int32)), .val (.int (own_w u0)), .val (.int (own_w u1)), .val (.int (own_w u2)), .val (.int (own_w u3)), .val (.ref b10), .unset, .unset, .unset, .unset, .unset] [])) (fun t k => ?_) ?_
    · show Steps p.tables e below (T10.setTop (mkF m 29 #[.val (.int p0), .val (.int p1), .val (.int p2), .val (.int p3), .val (.int p4), .val (.int (0 : Int32)), .val (.int (own_w u0)), .val (.int (own_w u1)), .val (.int (own_w u2)), .val (.int (own_w u3)), .unset, .unset, .unset, .unset, .unset, .unset] [(.ref b10)])) _
      refine XS.astore X10.here hx rfl (hb hby at_29) rfl rfl (l' := #[.val (.int p0), .val (.int p1), .val (.int p2), .val (.int p3), .val (.int p4), .val (.int (0 : Int32)), .val (.int (own_w u0)), .val (.int (own_w u1)), .val (.int (own_w u2)), .val (.int (own_w u3)), .val (.ref b10), .unset, .unset, .unset, .unset, .unset]) rfl ?_
      refine XS.iload X10.here hx rfl (hb hby at_31) rfl ?_
      refine XS.ifYes X10.here hx rfl (pc0 := 33) (pc' := 42) rfl (hb hby at_33) rfl ((if0 _ _).trans (flt (by decide : ¬ ((0 : Int32) < (0 : Int32)))).2.2.2) (by decide) (by decide) ?_
      refine XS.iload X10.here hx rfl (hb hby at_42) rfl ?_
      refine XS.iconst X10.here hx rfl (hb hby at_44) ?_
      show Steps p.tables e below (T10.setTop (mkF m 45 #[.val (.int p0), .val (.int p1), .val (.int p2), .val (.int p3), .val (.int p4), .val (.int (0 : Int32)), .val (.int (own_w u0)), .val (.int (own_w u1)), .val (.int (own_w u2)), .val (.int (own_w u3)), .val (.ref b10), .unset, .unset, .unset, .unset, .unset] [(.int (1 : Int32)), (.int (0 : Int32))])) _
      refine XS.icmpYes X10.here hx rfl (pc0 := 45) (pc' := 54) rfl (hb hby at_45) rfl (flt (by decide : ¬ ((1 : Int32) < (0 : Int32)))).2.2.2 (by decide) (by decide) ?_
      refine XS.iload X10.here hx rfl (hb hby at_54) rfl ?_
      refine XS.iconst X10.here hx rfl (hb hby at_56) ?_
      refine XS.icmpYes X10.here hx rfl (pc0 := 57) (pc' := 66) rfl (hb hby at_57) rfl (flt (by decide : ¬ ((2 : Int32) < (0 : Int32)))).2.2.2 (by decide) (by decide) ?_
      refine XS.iload X10.here hx rfl (hb hby at_66) rfl ?_
      show Steps p.tables e below (T10.setTop (mkF m 68 #[.val (.int p0), .val (.int p1), .val (.int p2), .val (.int p3), .val (.int p4), .val (.int (0 : Int32)), .val (.int (own_w u0)), .val (.int (own_w u1)), .val (.int (own_w u2)), .val (.int (own_w u3)), .val (.ref b10), .unset, .unset, .unset, .unset, .unset] [(.int (0 : Int32))])) _
      refine XS.iconst X10.here hx rfl (hb hby at_68) ?_
      refine XS.icmpYes X10.here hx rfl (pc0 := 69) (pc' := 78) rfl (hb hby at_69) rfl (flt (by decide : ¬ ((3 : Int32) < (0 : Int32)))).2.2.2 (by decide) (by decide) ?_
      exact k
    exact J78 _ _ (X10.mono (by decide) (by decide)) N0 _ e10 Z0 K O b10 k10 ([] : List UInt16) (0 : Int32) V_b10 (Or.inl ⟨rfl, rfl⟩)
  · refine own_go (B := s₁.setTop (mkF m 27 #[.val (.int p0), .val (.int p1), .val (.int p2), .val (.int p3), .val (.int p4), .val (.int (1 : Int32)), .val (.int (own_w u0)), .val (.int (own_w u1)), .val (.int (own_w u2)), .val (.int (own_w u3)), .unset, .unset, .unset, .unset, .unset, .unset] [(.int (1 : Int32))])) (fun t k => ?_) ?_
    · show Steps p.tables e below (s₁.setTop (mkF m 25 #[.val (.int p0), .val (.int p1), .val (.int p2), .val (.int p3), .val (.int p4), .val (.int (1 : Int32)), .val (.int (own_w u0)), .val (.int (own_w u1)), .val (.int (own_w u2)), .val (.int (own_w u3)), .unset, .unset, .unset, .unset, .unset, .unset] [])) _
      refine XS.iload X0.here hx rfl (hb hby at_25) rfl ?_
      exact k
    obtain ⟨T11, h11, k11, X11, e11, E11, A11, st11⟩ := newP X0 hx hZ (hw _ (List.mem_of_getElem? (i := 1) rfl)) e0 (g := (mkF m 27 #[.val (.int p0), .val (.int p1), .val (.int p2), .val (.int p3), .val (.int p4), .val (.int (1 : Int32)), .val (.int (own_w u0)), .val (.int (own_w u1)), .val (.int (own_w u2)), .val (.int (own_w u3)), .unset, .unset, .unset, .unset, .unset, .unset] [(.int (1 : Int32))])) rfl (hb hby at_27) rfl (by decide) (cap := 1) (by decide) (by decide) (by decide) (by decide)
    obtain ⟨b11, g11⟩ : ∃ z, z = h0.size := ⟨_, rfl⟩
    rw [← g11] at A11 st11
    have g_b11 : n0 ≤ b11 := Nat.le_trans Z0 (Nat.le_of_eq g11.symm)
    have sz_b11 : h0.size ≤ b11 := Nat.le_trans K.1 (Nat.le_of_eq g11.symm)
    have K := K.ext E11
    have Z0 := Nat.le_trans Z0 E11.1
    have O := O.ext E11
    have hk := Nat.le_trans hk E11.1
    have V_b11 : Arv Z h11 b11 k11 .char (1 : Int32) [(.int (0 : Int32))] (.int (0 : Int32)) := (Arv.new A11 (by decide)).pad (pad_rep [] (.int (0 : Int32)) 1)
    refine own_go (B := T11.setTop (mkF m 29 #[.val (.int p0), .val (.int p1), .val (.int p2), .val (.int p3), .val (.int p4), .val (.int (1 : Int32)), .val (.int (own_w u0)), .val (.int (own_w u1)), .val (.int (own_w u2)), .val (.int (own_w u3)), .unset, .unset, .unset, .unset, .unset, .unset] [(.ref b11)])) st11 ?_
    refine own_go (B := T11.setTop (mkF m 41 #[.val (.int p0), .val (.int p1), .val (.int p2), .val (.int p3), .val (.int p4), .val (.int (1 : Int32)), .val (.int (own_w u0)), .val (.int (own_w u1)), .val (.int (own_w u2)), .val (.int (own_w u3)), .val (.ref b11), .unset, .unset, .unset, .unset, .unset] [(.int (own_w u0)), (.int (0 : Int32)), (.ref b11)])) (fun t k => ?_) ?_
    · show Steps p.tables e below (T11.setTop (mkF m 29 #[.val (.int p0), .val (.int p1), .val (.int p2), .val (.int p3), .val (.int p4), .val (.int (1 : Int32)), .val (.int (own_w u0)), .val (.int (own_w u1)), .val (.int (own_w u2)), .val (.int (own_w u3)), .unset, .unset, .unset, .unset, .unset, .unset] [(.ref b11)])) _
      refine XS.astore X11.here hx rfl (hb hby at_29) rfl rfl (l' := #[.val (.int p0), .val (.int p1), .val (.int p2), .val (.int p3), .val (.int p4), .val (.int (1 : Int32)), .val (.int (own_w u0)), .val (.int (own_w u1)), .val (.int (own_w u2)), .val (.int (own_w u3)), .val (.ref b11), .unset, .unset, .unset, .unset, .unset]) rfl ?_
      refine XS.iload X11.here hx rfl (hb hby at_31) rfl ?_
      refine XS.ifNo X11.here hx rfl (hb hby at_33) rfl ((if0 _ _).trans (tlt (by decide : (0 : Int32) < (1 : Int32))).2.2.2) ?_
      refine XS.aload X11.here hx rfl (hb hby at_36) rfl rfl ?_
      refine XS.iconst X11.here hx rfl (hb hby at_38) ?_
      show Steps p.tables e below (T11.setTop (mkF m 39 #[.val (.int p0), .val (.int p1), .val (.int p2), .val (.int p3), .val (.int p4), .val (.int (1 : Int32)), .val (.int (own_w u0)), .val (.int (own_w u1)), .val (.int (own_w u2)), .val (.int (own_w u3)), .val (.ref b11), .unset, .unset, .unset, .unset, .unset] [(.int (0 : Int32)), (.ref b11)])) _
      refine XS.iload X11.here hx rfl (hb hby at_39) rfl ?_
      exact k
    obtain ⟨cl12, Ar12, qa12, Sa12, Na12, Ha12, Ga12⟩ := id V_b11
    have hin12 : ¬ ((0 : Int32) < 0 ∨ cl12.slots.size ≤ ((0 : Int32)).toNatClampNeg) := inb_of Sa12 ⟨by decide, by decide⟩
    obtain ⟨T13, h13, X13, e13, W13, st13⟩ := stC X11 hx hZ e11 Ar12 (j := (0 : Int32)) hin12 (g := (mkF m 41 #[.val (.int p0), .val (.int p1), .val (.int p2), .val (.int p3), .val (.int p4), .val (.int (1 : Int32)), .val (.int (own_w u0)), .val (.int (own_w u1)), .val (.int (own_w u2)), .val (.int (own_w u3)), .val (.ref b11), .unset, .unset, .unset, .unset, .unset] [(.int (own_w u0)), (.int (0 : Int32)), (.ref b11)])) rfl rfl (hb hby at_41)
    have Z0 := Nat.le_trans Z0 (Nat.le_of_eq W13.size.symm)
    have O := O.wr W13 g_b11
    have hk := Nat.le_trans hk (Nat.le_of_eq W13.size.symm)
    have V_b11 : Arv Z h13 b11 k11 .char (1 : Int32) [(.int (nar .char (own_w u0)))] (.int (0 : Int32)) := Arv.set Ar12 qa12 Sa12 Na12 Ha12 Ga12 (fits_nar_char _) W13 0 rfl (Nat.le_of_ble_eq_true rfl)
    have K := K.wr W13 (Or.inr sz_b11)
    have N13 := Fr.snoc X13 N0 g_b11
    refine own_go (B := T13.setTop (mkF m 42 #[.val (.int p0), .val (.int p1), .val (.int p2), .val (.int p3), .val (.int p4), .val (.int (1 : Int32)), .val (.int (own_w u0)), .val (.int (own_w u1)), .val (.int (own_w u2)), .val (.int (own_w u3)), .val (.ref b11), .unset, .unset, .unset, .unset, .unset] [])) st13 ?_
    refine own_go (B := T13.setTop (mkF m 78 #[.val (.int p0), .val (.int p1), .val (.int p2), .val (.int p3), .val (.int p4), .val (.int (1 : Int32)), .val (.int (own_w u0)), .val (.int (own_w u1)), .val (.int (own_w u2)), .val (.int (own_w u3)), .val (.ref b11), .unset, .unset, .unset, .unset, .unset] [])) (fun t k => ?_) ?_
    · show Steps p.tables e below (T13.setTop (mkF m 42 #[.val (.int p0), .val (.int p1), .val (.int p2), .val (.int p3), .val (.int p4), .val (.int (1 : Int32)), .val (.int (own_w u0)), .val (.int (own_w u1)), .val (.int (own_w u2)), .val (.int (own_w u3)), .val (.ref b11), .unset, .unset, .unset, .unset, .unset] [])) _
      refine XS.iload X13.here hx rfl (hb hby at_42) rfl ?_
      refine XS.iconst X13.here hx rfl (hb hby at_44) ?_
      refine XS.icmpYes X13.here hx rfl (pc0 := 45) (pc' := 54) rfl (hb hby at_45) rfl (flt (by decide : ¬ ((1 : Int32) < (1 : Int32)))).2.2.2 (by decide) (by decide) ?_
      refine XS.iload X13.here hx rfl (hb hby at_54) rfl ?_
      refine XS.iconst X13.here hx rfl (hb hby at_56) ?_
      show Steps p.tables e below (T13.setTop (mkF m 57 #[.val (.int p0), .val (.int p1), .val (.int p2), .val (.int p3), .val (.int p4), .val (.int (1 : Int32)), .val (.int (own_w u0)), .val (.int (own_w u1)), .val (.int (own_w u2)), .val (.int (own_w u3)), .val (.ref b11), .unset, .unset, .unset, .unset, .unset] [(.int (2 : Int32)), (.int (1 : Int32))])) _
      refine XS.icmpYes X13.here hx rfl (pc0 := 57) (pc' := 66) rfl (hb hby at_57) rfl (flt (by decide : ¬ ((2 : Int32) < (1 : Int32)))).2.2.2 (by decide) (by decide) ?_
      refine XS.iload X13.here hx rfl (hb hby at_66) rfl ?_
      refine XS.iconst X13.here hx rfl (hb hby at_68) ?_
      refine XS.icmpYes X13.here hx rfl (pc0 := 69) (pc' := 78) rfl (hb hby at_69) rfl (flt (by decide : ¬ ((3 : Int32) < (1 : Int32)))).2.2.2 (by decide) (by decide) ?_
      exact k
    simp only [own_nc] at V_b11
    exact J78 _ _ (X13.mono (by decide) (by decide)) N13 _ e13 Z0 K O b11 k11 ([u0] : List UInt16) (1 : Int32) V_b11 (Or.inr (Or.inl ⟨rfl, rfl⟩))
  · refine own_go (B := s₁.setTop (mkF m 27 #[.val (.int p0), .val (.int p1), .val (.int p2), .val (.int p3), .val (.int p4), .val (.int (2 : Int32)), .val (.int (own_w u0)), .val (.int (own_w u1)), .val (.int (own_w u2)), .val (.int (own_w u3)), .unset, .unset, .unset, .unset, .unset, .unset] [(.int (2 : Int32))])) (fun t k => ?_) ?_
    · show Steps p.tables e below (s₁.setTop (mkF m 25 #[.val (.int p0), .val (.int p1), .val (.int p2), .val (.int p3), .val (.int p4), .val (.int (2 : Int32)), .val (.int (own_w u0)), .val (.int (own_w u1)), .val (.int (own_w u2)), .val (.int (own_w u3)), .unset, .unset, .unset, .unset, .unset, .unset] [])) _
      refine XS.iload X0.here hx rfl (hb hby at_25) rfl ?_
      exact k
    obtain ⟨T14, h14, k14, X14, e14, E14, A14, st14⟩ := newP X0 hx hZ (hw _ (List.mem_of_getElem? (i := 1) rfl)) e0 (g := (mkF m 27 #[.val (.int p0), .val (.int p1), .val (.int p2), .val (.int p3), .val (.int p4), .val (.int (2 : Int32)), .val (.int (own_w u0)), .val (.int (own_w u1)), .val (.int (own_w u2)), .val (.int (own_w u3)), .unset, .unset, .unset, .unset, .unset, .unset] [(.int (2 : Int32))])) rfl (hb hby at_27) rfl (by decide) (cap := 2) (by decide) (by decide) (by decide) (by decide)
    obtain ⟨b14, g14⟩ : ∃ z, z = h0.size := ⟨_, rfl⟩
    rw [← g14] at A14 st14
    have g_b14 : n0 ≤ b14 := Nat.le_trans Z0 (Nat.le_of_eq g14.symm)
    have sz_b14 : h0.size ≤ b14 := Nat.le_trans K.1 (Nat.le_of_eq g14.symm)
    have K := K.ext E14
    have Z0 := Nat.le_trans Z0 E14.1
    have O := O.ext E14
    have hk := Nat.le_trans hk E14.1
    have V_b14 : Arv Z h14 b14 k14 .char (2 : Int32) [(.int (0 : Int32)), (.int (0 : Int32))] (.int (0 : Int32)) := (Arv.new A14 (by decide)).pad (pad_rep [] (.int (0 : Int32)) 2)
    refine own_go (B := T14.setTop (mkF m 29 #[.val (.int p0), .val (.int p1), .val (.int p2), .val (.int p3), .val (.int p4), .val (.int (2 : Int32)), .val (.int (own_w u0)), .val (.int (own_w u1)), .val (.int (own_w u2)), .val (.int (own_w u3)), .unset, .unset, .unset, .unset, .unset, .unset] [(.ref b14)])) st14 ?_
    refine own_go (B := T14.setTop (mkF m 41 #[.val (.int p0), .val (.int p1), .val (.int p2), .val (.int p3), .val (.int p4), .val (.int (2 : Int32)), .val (.int (own_w u0)), .val (.int (own_w u1)), .val (.int (own_w u2)), .val (.int (own_w u3)), .val (.ref b14), .unset, .unset, .unset, .unset, .unset] [(.int (own_w u0)), (.int (0 : Int32)), (.ref b14)])) (fun t k => ?_) ?_
    · show Steps p.tables e below (T14.setTop (mkF m 29 #[.val (.int p0), .val (.int p1), .val (.int p2), .val (.int p3), .val (.int p4), .val (.int (2 : Int32)), .val (.int (own_w u0)), .val (.int (own_w u1)), .val (.int (own_w u2)), .val (.int (own_w u3)), .unset, .unset, .unset, .unset, .unset, .unset] [(.ref b14)])) _
      refine XS.astore X14.here hx rfl (hb hby at_29) rfl rfl (l' := #[.val (.int p0), .val (.int p1), .val (.int p2), .val (.int p3), .val (.int p4), .val (.int (2 : Int32)), .val (.int (own_w u0)), .val (.int (own_w u1)), .val (.int (own_w u2)), .val (.int (own_w u3)), .val (.ref b14), .unset, .unset, .unset, .unset, .unset]) rfl ?_
      refine XS.iload X14.here hx rfl (hb hby at_31) rfl ?_
      refine XS.ifNo X14.here hx rfl (hb hby at_33) rfl ((if0 _ _).trans (tlt (by decide : (0 : Int32) < (2 : Int32))).2.2.2) ?_
      refine XS.aload X14.here hx rfl (hb hby at_36) rfl rfl ?_
      refine XS.iconst X14.here hx rfl (hb hby at_38) ?_
      show Steps p.tables e below (T14.setTop (mkF m 39 #[.val (.int p0), .val (.int p1), .val (.int p2), .val (.int p3), .val (.int p4), .val (.int (2 : Int32)), .val (.int (own_w u0)), .val (.int (own_w u1)), .val (.int (own_w u2)), .val (.int (own_w u3)), .val (.ref b14), .unset, .unset, .unset, .unset, .unset] [(.int (0 : Int32)), (.ref b14)])) _
      refine XS.iload X14.here hx rfl (hb hby at_39) rfl ?_
      exact k
    obtain ⟨cl15, Ar15, qa15, Sa15, Na15, Ha15, Ga15⟩ := id V_b14
    have hin15 : ¬ ((0 : Int32) < 0 ∨ cl15.slots.size ≤ ((0 : Int32)).toNatClampNeg) := inb_of Sa15 ⟨by decide, by decide⟩
    obtain ⟨T16, h16, X16, e16, W16, st16⟩ := stC X14 hx hZ e14 Ar15 (j := (0 : Int32)) hin15 (g := (mkF m 41 #[.val (.int p0), .val (.int p1), .val (.int p2), .val (.int p3), .val (.int p4), .val (.int (2 : Int32)), .val (.int (own_w u0)), .val (.int (own_w u1)), .val (.int (own_w u2)), .val (.int (own_w u3)), .val (.ref b14), .unset, .unset, .unset, .unset, .unset] [(.int (own_w u0)), (.int (0 : Int32)), (.ref b14)])) rfl rfl (hb hby at_41)
    have Z0 := Nat.le_trans Z0 (Nat.le_of_eq W16.size.symm)
    have O := O.wr W16 g_b14
    have hk := Nat.le_trans hk (Nat.le_of_eq W16.size.symm)
    have V_b14 : Arv Z h16 b14 k14 .char (2 : Int32) [(.int (nar .char (own_w u0))), (.int (0 : Int32))] (.int (0 : Int32)) := Arv.set Ar15 qa15 Sa15 Na15 Ha15 Ga15 (fits_nar_char _) W16 0 rfl (Nat.le_of_ble_eq_true rfl)
    have K := K.wr W16 (Or.inr sz_b14)
    have N16 := Fr.snoc X16 N0 g_b14
    refine own_go (B := T16.setTop (mkF m 42 #[.val (.int p0), .val (.int p1), .val (.int p2), .val (.int p3), .val (.int p4), .val (.int (2 : Int32)), .val (.int (own_w u0)), .val (.int (own_w u1)), .val (.int (own_w u2)), .val (.int (own_w u3)), .val (.ref b14), .unset, .unset, .unset, .unset, .unset] [])) st16 ?_
    refine own_go (B := T16.setTop (mkF m 53 #[.val (.int p0), .val (.int p1), .val (.int p2), .val (.int p3), .val (.int p4), .val (.int (2 : Int32)), .val (.int (own_w u0)), .val (.int (own_w u1)), .val (.int (own_w u2)), .val (.int (own_w u3)), .val (.ref b14), .unset, .unset, .unset, .unset, .unset] [(.int (own_w u1)), (.int (1 : Int32)), (.ref b14)])) (fun t k => ?_) ?_
    · show Steps p.tables e below (T16.setTop (mkF m 42 #[.val (.int p0), .val (.int p1), .val (.int p2), .val (.int p3), .val (.int p4), .val (.int (2 : Int32)), .val (.int (own_w u0)), .val (.int (own_w u1)), .val (.int (own_w u2)), .val (.int (own_w u3)), .val (.ref b14), .unset, .unset, .unset, .unset, .unset] [])) _
      refine XS.iload X16.here hx rfl (hb hby at_42) rfl ?_
      refine XS.iconst X16.here hx rfl (hb hby at_44) ?_
      refine XS.icmpNo X16.here hx rfl (hb hby at_45) rfl (tlt (by decide : (1 : Int32) < (2 : Int32))).2.2.2 ?_
      refine XS.aload X16.here hx rfl (hb hby at_48) rfl rfl ?_
      refine XS.iconst X16.here hx rfl (hb hby at_50) ?_
      show Steps p.tables e below (T16.setTop (mkF m 51 #[.val (.int p0), .val (.int p1), .val (.int p2), .val (.int p3), .val (.int p4), .val (.int (2 : Int32)), .val (.int (own_w u0)), .val (.int (own_w u1)), .val (.int (own_w u2)), .val (.int (own_w u3)), .val (.ref b14), .unset, .unset, .unset, .unset, .unset] [(.int (1 : Int32)), (.ref b14)])) _
      refine XS.iload X16.here hx rfl (hb hby at_51) rfl ?_
      exact k
    obtain ⟨cl17, Ar17, qa17, Sa17, Na17, Ha17, Ga17⟩ := id V_b14
    have hin17 : ¬ ((1 : Int32) < 0 ∨ cl17.slots.size ≤ ((1 : Int32)).toNatClampNeg) := inb_of Sa17 ⟨by decide, by decide⟩
    obtain ⟨T18, h18, X18, e18, W18, st18⟩ := stC X16 hx hZ e16 Ar17 (j := (1 : Int32)) hin17 (g := (mkF m 53 #[.val (.int p0), .val (.int p1), .val (.int p2), .val (.int p3), .val (.int p4), .val (.int (2 : Int32)), .val (.int (own_w u0)), .val (.int (own_w u1)), .val (.int (own_w u2)), .val (.int (own_w u3)), .val (.ref b14), .unset, .unset, .unset, .unset, .unset] [(.int (own_w u1)), (.int (1 : Int32)), (.ref b14)])) rfl rfl (hb hby at_53)
    have Z0 := Nat.le_trans Z0 (Nat.le_of_eq W18.size.symm)
    have O := O.wr W18 g_b14
    have hk := Nat.le_trans hk (Nat.le_of_eq W18.size.symm)
    have V_b14 : Arv Z h18 b14 k14 .char (2 : Int32) [(.int (nar .char (own_w u0))), (.int (nar .char (own_w u1)))] (.int (0 : Int32)) := Arv.set Ar17 qa17 Sa17 Na17 Ha17 Ga17 (fits_nar_char _) W18 1 rfl (Nat.le_of_ble_eq_true rfl)
    have K := K.wr W18 (Or.inr sz_b14)
    have N18 := Fr.snoc X18 N16 g_b14
    refine own_go (B := T18.setTop (mkF m 54 #[.val (.int p0), .val (.int p1), .val (.int p2), .val (.int p3), .val (.int p4), .val (.int (2 : Int32)), .val (.int (own_w u0)), .val (.int (own_w u1)), .val (.int (own_w u2)), .val (.int (own_w u3)), .val (.ref b14), .unset, .unset, .unset, .unset, .unset] [])) st18 ?_
    refine own_go (B := T18.setTop (mkF m 78 #[.val (.int p0), .val (.int p1), .val (.int p2), .val (.int p3), .val (.int p4), .val (.int (2 : Int32)), .val (.int (own_w u0)), .val (.int (own_w u1)), .val (.int (own_w u2)), .val (.int (own_w u3)), .val (.ref b14), .unset, .unset, .unset, .unset, .unset] [])) (fun t k => ?_) ?_
    · show Steps p.tables e below (T18.setTop (mkF m 54 #[.val (.int p0), .val (.int p1), .val (.int p2), .val (.int p3), .val (.int p4), .val (.int (2 : Int32)), .val (.int (own_w u0)), .val (.int (own_w u1)), .val (.int (own_w u2)), .val (.int (own_w u3)), .val (.ref b14), .unset, .unset, .unset, .unset, .unset] [])) _
      refine XS.iload X18.here hx rfl (hb hby at_54) rfl ?_
      refine XS.iconst X18.here hx rfl (hb hby at_56) ?_
      refine XS.icmpYes X18.here hx rfl (pc0 := 57) (pc' := 66) rfl (hb hby at_57) rfl (flt (by decide : ¬ ((2 : Int32) < (2 : Int32)))).2.2.2 (by decide) (by decide) ?_
      refine XS.iload X18.here hx rfl (hb hby at_66) rfl ?_
      refine XS.iconst X18.here hx rfl (hb hby at_68) ?_
      show Steps p.tables e below (T18.setTop (mkF m 69 #[.val (.int p0), .val (.int p1), .val (.int p2), .val (.int p3), .val (.int p4), .val (.int (2 : Int32)), .val (.int (own_w u0)), .val (.int (own_w u1)), .val (.int (own_w u2)), .val (.int (own_w u3)), .val (.ref b14), .unset, .unset, .unset, .unset, .unset] [(.int (3 : Int32)), (.int (2 : Int32))])) _
      refine XS.icmpYes X18.here hx rfl (pc0 := 69) (pc' := 78) rfl (hb hby at_69) rfl (flt (by decide : ¬ ((3 : Int32) < (2 : Int32)))).2.2.2 (by decide) (by decide) ?_
      exact k
    simp only [own_nc] at V_b14
    exact J78 _ _ (X18.mono (by decide) (by decide)) N18 _ e18 Z0 K O b14 k14 ([u0, u1] : List UInt16) (2 : Int32) V_b14 (Or.inr (Or.inr (Or.inl ⟨rfl, rfl⟩)))
  · refine own_go (B := s₁.setTop (mkF m 27 #[.val (.int p0), .val (.int p1), .val (.int p2), .val (.int p3), .val (.int p4), .val (.int (3 : Int32)), .val (.int (own_w u0)), .val (.int (own_w u1)), .val (.int (own_w u2)), .val (.int (own_w u3)), .unset, .unset, .unset, .unset, .unset, .unset] [(.int (3 : Int32))])) (fun t k => ?_) ?_
    · show Steps p.tables e below (s₁.setTop (mkF m 25 #[.val (.int p0), .val (.int p1), .val (.int p2), .val (.int p3), .val (.int p4), .val (.int (3 : Int32)), .val (.int (own_w u0)), .val (.int (own_w u1)), .val (.int (own_w u2)), .val (.int (own_w u3)), .unset, .unset, .unset, .unset, .unset, .unset] [])) _
      refine XS.iload X0.here hx rfl (hb hby at_25) rfl ?_
      exact k
    obtain ⟨T19, h19, k19, X19, e19, E19, A19, st19⟩ := newP X0 hx hZ (hw _ (List.mem_of_getElem? (i := 1) rfl)) e0 (g := (mkF m 27 #[.val (.int p0), .val (.int p1), .val (.int p2), .val (.int p3), .val (.int p4), .val (.int (3 : Int32)), .val (.int (own_w u0)), .val (.int (own_w u1)), .val (.int (own_w u2)), .val (.int (own_w u3)), .unset, .unset, .unset, .unset, .unset, .unset] [(.int (3 : Int32))])) rfl (hb hby at_27) rfl (by decide) (cap := 3) (by decide) (by decide) (by decide) (by decide)
    obtain ⟨b19, g19⟩ : ∃ z, z = h0.size := ⟨_, rfl⟩
    rw [← g19] at A19 st19
    have g_b19 : n0 ≤ b19 := Nat.le_trans Z0 (Nat.le_of_eq g19.symm)
    have sz_b19 : h0.size ≤ b19 := Nat.le_trans K.1 (Nat.le_of_eq g19.symm)
    have K := K.ext E19
    have Z0 := Nat.le_trans Z0 E19.1
    have O := O.ext E19
    have hk := Nat.le_trans hk E19.1
    have V_b19 : Arv Z h19 b19 k19 .char (3 : Int32) [(.int (0 : Int32)), (.int (0 : Int32)), (.int (0 : Int32))] (.int (0 : Int32)) := (Arv.new A19 (by decide)).pad (pad_rep [] (.int (0 : Int32)) 3)
    refine own_go (B := T19.setTop (mkF m 29 #[.val (.int p0), .val (.int p1), .val (.int p2), .val (.int p3), .val (.int p4), .val (.int (3 : Int32)), .val (.int (own_w u0)), .val (.int (own_w u1)), .val (.int (own_w u2)), .val (.int (own_w u3)), .unset, .unset, .unset, .unset, .unset, .unset] [(.ref b19)])) st19 ?_
    refine own_go (B := T19.setTop (mkF m 41 #[.val (.int p0), .val (.int p1), .val (.int p2), .val (.int p3), .val (.int p4), .val (.int (3 : Int32)), .val (.int (own_w u0)), .val (.int (own_w u1)), .val (.int (own_w u2)), .val (.int (own_w u3)), .val (.ref b19), .unset, .unset, .unset, .unset, .unset] [(.int (own_w u0)), (.int (0 : Int32)), (.ref b19)])) (fun t k => ?_) ?_
    · show Steps p.tables e below (T19.setTop (mkF m 29 #[.val (.int p0), .val (.int p1), .val (.int p2), .val (.int p3), .val (.int p4), .val (.int (3 : Int32)), .val (.int (own_w u0)), .val (.int (own_w u1)), .val (.int (own_w u2)), .val (.int (own_w u3)), .unset, .unset, .unset, .unset, .unset, .unset] [(.ref b19)])) _
      refine XS.astore X19.here hx rfl (hb hby at_29) rfl rfl (l' := #[.val (.int p0), .val (.int p1), .val (.int p2), .val (.int p3), .val (.int p4), .val (.int (3 : Int32)), .val (.int (own_w u0)), .val (.int (own_w u1)), .val (.int (own_w u2)), .val (.int (own_w u3)), .val (.ref b19), .unset, .unset, .unset, .unset, .unset]) rfl ?_
      refine XS.iload X19.here hx rfl (hb hby at_31) rfl ?_
      refine XS.ifNo X19.here hx rfl (hb hby at_33) rfl ((if0 _ _).trans (tlt (by decide : (0 : Int32) < (3 : Int32))).2.2.2) ?_
      refine XS.aload X19.here hx rfl (hb hby at_36) rfl rfl ?_
      refine XS.iconst X19.here hx rfl (hb hby at_38) ?_
      show Steps p.tables e below (T19.setTop (mkF m 39 #[.val (.int p0), .val (.int p1), .val (.int p2), .val (.int p3), .val (.int p4), .val (.int (3 : Int32)), .val (.int (own_w u0)), .val (.int (own_w u1)), .val (.int (own_w u2)), .val (.int (own_w u3)), .val (.ref b19), .unset, .unset, .unset, .unset, .unset] [(.int (0 : Int32)), (.ref b19)])) _
      refine XS.iload X19.here hx rfl (hb hby at_39) rfl ?_
      exact k
    obtain ⟨cl20, Ar20, qa20, Sa20, Na20, Ha20, Ga20⟩ := id V_b19
    have hin20 : ¬ ((0 : Int32) < 0 ∨ cl20.slots.size ≤ ((0 : Int32)).toNatClampNeg) := inb_of Sa20 ⟨by decide, by decide⟩
    obtain ⟨T21, h21, X21, e21, W21, st21⟩ := stC X19 hx hZ e19 Ar20 (j := (0 : Int32)) hin20 (g := (mkF m 41 #[.val (.int p0), .val (.int p1), .val (.int p2), .val (.int p3), .val (.int p4), .val (.int (3 : Int32)), .val (.int (own_w u0)), .val (.int (own_w u1)), .val (.int (own_w u2)), .val (.int (own_w u3)), .val (.ref b19), .unset, .unset, .unset, .unset, .unset] [(.int (own_w u0)), (.int (0 : Int32)), (.ref b19)])) rfl rfl (hb hby at_41)
    have Z0 := Nat.le_trans Z0 (Nat.le_of_eq W21.size.symm)
    have O := O.wr W21 g_b19
    have hk := Nat.le_trans hk (Nat.le_of_eq W21.size.symm)
    have V_b19 : Arv Z h21 b19 k19 .char (3 : Int32) [(.int (nar .char (own_w u0))), (.int (0 : Int32)), (.int (0 : Int32))] (.int (0 : Int32)) := Arv.set Ar20 qa20 Sa20 Na20 Ha20 Ga20 (fits_nar_char _) W21 0 rfl (Nat.le_of_ble_eq_true rfl)
    have K := K.wr W21 (Or.inr sz_b19)
    have N21 := Fr.snoc X21 N0 g_b19
    refine own_go (B := T21.setTop (mkF m 42 #[.val (.int p0), .val (.int p1), .val (.int p2), .val (.int p3), .val (.int p4), .val (.int (3 : Int32)), .val (.int (own_w u0)), .val (.int (own_w u1)), .val (.int (own_w u2)), .val (.int (own_w u3)), .val (.ref b19), .unset, .unset, .unset, .unset, .unset] [])) st21 ?_
    refine own_go (B := T21.setTop (mkF m 53 #[.val (.int p0), .val (.int p1), .val (.int p2), .val (.int p3), .val (.int p4), .val (.int (3 : Int32)), .val (.int (own_w u0)), .val (.int (own_w u1)), .val (.int (own_w u2)), .val (.int (own_w u3)), .val (.ref b19), .unset, .unset, .unset, .unset, .unset] [(.int (own_w u1)), (.int (1 : Int32)), (.ref b19)])) (fun t k => ?_) ?_
    · show Steps p.tables e below (T21.setTop (mkF m 42 #[.val (.int p0), .val (.int p1), .val (.int p2), .val (.int p3), .val (.int p4), .val (.int (3 : Int32)), .val (.int (own_w u0)), .val (.int (own_w u1)), .val (.int (own_w u2)), .val (.int (own_w u3)), .val (.ref b19), .unset, .unset, .unset, .unset, .unset] [])) _
      refine XS.iload X21.here hx rfl (hb hby at_42) rfl ?_
      refine XS.iconst X21.here hx rfl (hb hby at_44) ?_
      refine XS.icmpNo X21.here hx rfl (hb hby at_45) rfl (tlt (by decide : (1 : Int32) < (3 : Int32))).2.2.2 ?_
      refine XS.aload X21.here hx rfl (hb hby at_48) rfl rfl ?_
      refine XS.iconst X21.here hx rfl (hb hby at_50) ?_
      show Steps p.tables e below (T21.setTop (mkF m 51 #[.val (.int p0), .val (.int p1), .val (.int p2), .val (.int p3), .val (.int p4), .val (.int (3 : Int32)), .val (.int (own_w u0)), .val (.int (own_w u1)), .val (.int (own_w u2)), .val (.int (own_w u3)), .val (.ref b19), .unset, .unset, .unset, .unset, .unset] [(.int (1 : Int32)), (.ref b19)])) _
      refine XS.iload X21.here hx rfl (hb hby at_51) rfl ?_
      exact k
    obtain ⟨cl22, Ar22, qa22, Sa22, Na22, Ha22, Ga22⟩ := id V_b19
    have hin22 : ¬ ((1 : Int32) < 0 ∨ cl22.slots.size ≤ ((1 : Int32)).toNatClampNeg) := inb_of Sa22 ⟨by decide, by decide⟩
    obtain ⟨T23, h23, X23, e23, W23, st23⟩ := stC X21 hx hZ e21 Ar22 (j := (1 : Int32)) hin22 (g := (mkF m 53 #[.val (.int p0), .val (.int p1), .val (.int p2), .val (.int p3), .val (.int p4), .val (.int (3 : Int32)), .val (.int (own_w u0)), .val (.int (own_w u1)), .val (.int (own_w u2)), .val (.int (own_w u3)), .val (.ref b19), .unset, .unset, .unset, .unset, .unset] [(.int (own_w u1)), (.int (1 : Int32)), (.ref b19)])) rfl rfl (hb hby at_53)
    have Z0 := Nat.le_trans Z0 (Nat.le_of_eq W23.size.symm)
    have O := O.wr W23 g_b19
    have hk := Nat.le_trans hk (Nat.le_of_eq W23.size.symm)
    have V_b19 : Arv Z h23 b19 k19 .char (3 : Int32) [(.int (nar .char (own_w u0))), (.int (nar .char (own_w u1))), (.int (0 : Int32))] (.int (0 : Int32)) := Arv.set Ar22 qa22 Sa22 Na22 Ha22 Ga22 (fits_nar_char _) W23 1 rfl (Nat.le_of_ble_eq_true rfl)
    have K := K.wr W23 (Or.inr sz_b19)
    have N23 := Fr.snoc X23 N21 g_b19
    refine own_go (B := T23.setTop (mkF m 54 #[.val (.int p0), .val (.int p1), .val (.int p2), .val (.int p3), .val (.int p4), .val (.int (3 : Int32)), .val (.int (own_w u0)), .val (.int (own_w u1)), .val (.int (own_w u2)), .val (.int (own_w u3)), .val (.ref b19), .unset, .unset, .unset, .unset, .unset] [])) st23 ?_
    refine own_go (B := T23.setTop (mkF m 65 #[.val (.int p0), .val (.int p1), .val (.int p2), .val (.int p3), .val (.int p4), .val (.int (3 : Int32)), .val (.int (own_w u0)), .val (.int (own_w u1)), .val (.int (own_w u2)), .val (.int (own_w u3)), .val (.ref b19), .unset, .unset, .unset, .unset, .unset] [(.int (own_w u2)), (.int (2 : Int32)), (.ref b19)])) (fun t k => ?_) ?_
    · show Steps p.tables e below (T23.setTop (mkF m 54 #[.val (.int p0), .val (.int p1), .val (.int p2), .val (.int p3), .val (.int p4), .val (.int (3 : Int32)), .val (.int (own_w u0)), .val (.int (own_w u1)), .val (.int (own_w u2)), .val (.int (own_w u3)), .val (.ref b19), .unset, .unset, .unset, .unset, .unset] [])) _
      refine XS.iload X23.here hx rfl (hb hby at_54) rfl ?_
      refine XS.iconst X23.here hx rfl (hb hby at_56) ?_
      refine XS.icmpNo X23.here hx rfl (hb hby at_57) rfl (tlt (by decide : (2 : Int32) < (3 : Int32))).2.2.2 ?_
      refine XS.aload X23.here hx rfl (hb hby at_60) rfl rfl ?_
      refine XS.iconst X23.here hx rfl (hb hby at_62) ?_
      show Steps p.tables e below (T23.setTop (mkF m 63 #[.val (.int p0), .val (.int p1), .val (.int p2), .val (.int p3), .val (.int p4), .val (.int (3 : Int32)), .val (.int (own_w u0)), .val (.int (own_w u1)), .val (.int (own_w u2)), .val (.int (own_w u3)), .val (.ref b19), .unset, .unset, .unset, .unset, .unset] [(.int (2 : Int32)), (.ref b19)])) _
      refine XS.iload X23.here hx rfl (hb hby at_63) rfl ?_
      exact k
    obtain ⟨cl24, Ar24, qa24, Sa24, Na24, Ha24, Ga24⟩ := id V_b19
    have hin24 : ¬ ((2 : Int32) < 0 ∨ cl24.slots.size ≤ ((2 : Int32)).toNatClampNeg) := inb_of Sa24 ⟨by decide, by decide⟩
    obtain ⟨T25, h25, X25, e25, W25, st25⟩ := stC X23 hx hZ e23 Ar24 (j := (2 : Int32)) hin24 (g := (mkF m 65 #[.val (.int p0), .val (.int p1), .val (.int p2), .val (.int p3), .val (.int p4), .val (.int (3 : Int32)), .val (.int (own_w u0)), .val (.int (own_w u1)), .val (.int (own_w u2)), .val (.int (own_w u3)), .val (.ref b19), .unset, .unset, .unset, .unset, .unset] [(.int (own_w u2)), (.int (2 : Int32)), (.ref b19)])) rfl rfl (hb hby at_65)
    have Z0 := Nat.le_trans Z0 (Nat.le_of_eq W25.size.symm)
    have O := O.wr W25 g_b19
    have hk := Nat.le_trans hk (Nat.le_of_eq W25.size.symm)
    have V_b19 : Arv Z h25 b19 k19 .char (3 : Int32) [(.int (nar .char (own_w u0))), (.int (nar .char (own_w u1))), (.int (nar .char (own_w u2)))] (.int (0 : Int32)) := Arv.set Ar24 qa24 Sa24 Na24 Ha24 Ga24 (fits_nar_char _) W25 2 rfl (Nat.le_of_ble_eq_true rfl)
    have K := K.wr W25 (Or.inr sz_b19)
    have N25 := Fr.snoc X25 N23 g_b19
    refine own_go (B := T25.setTop (mkF m 66 #[.val (.int p0), .val (.int p1), .val (.int p2), .val (.int p3), .val (.int p4), .val (.int (3 : Int32)), .val (.int (own_w u0)), .val (.int (own_w u1)), .val (.int (own_w u2)), .val (.int (own_w u3)), .val (.ref b19), .unset, .unset, .unset, .unset, .unset] [])) st25 ?_
    refine own_go (B := T25.setTop (mkF m 78 #[.val (.int p0), .val (.int p1), .val (.int p2), .val (.int p3), .val (.int p4), .val (.int (3 : Int32)), .val (.int (own_w u0)), .val (.int (own_w u1)), .val (.int (own_w u2)), .val (.int (own_w u3)), .val (.ref b19), .unset, .unset, .unset, .unset, .unset] [])) (fun t k => ?_) ?_
    · show Steps p.tables e below (T25.setTop (mkF m 66 #[.val (.int p0), .val (.int p1), .val (.int p2), .val (.int p3), .val (.int p4), .val (.int (3 : Int32)), .val (.int (own_w u0)), .val (.int (own_w u1)), .val (.int (own_w u2)), .val (.int (own_w u3)), .val (.ref b19), .unset, .unset, .unset, .unset, .unset] [])) _
      refine XS.iload X25.here hx rfl (hb hby at_66) rfl ?_
      refine XS.iconst X25.here hx rfl (hb hby at_68) ?_
      refine XS.icmpYes X25.here hx rfl (pc0 := 69) (pc' := 78) rfl (hb hby at_69) rfl (flt (by decide : ¬ ((3 : Int32) < (3 : Int32)))).2.2.2 (by decide) (by decide) ?_
      exact k
    simp only [own_nc] at V_b19
    exact J78 _ _ (X25.mono (by decide) (by decide)) N25 _ e25 Z0 K O b19 k19 ([u0, u1, u2] : List UInt16) (3 : Int32) V_b19 (Or.inr (Or.inr (Or.inr (Or.inl ⟨rfl, rfl⟩))))
  · refine own_go (B := s₁.setTop (mkF m 27 #[.val (.int p0), .val (.int p1), .val (.int p2), .val (.int p3), .val (.int p4), .val (.int (4 : Int32)), .val (.int (own_w u0)), .val (.int (own_w u1)), .val (.int (own_w u2)), .val (.int (own_w u3)), .unset, .unset, .unset, .unset, .unset, .unset] [(.int (4 : Int32))])) (fun t k => ?_) ?_
    · show Steps p.tables e below (s₁.setTop (mkF m 25 #[.val (.int p0), .val (.int p1), .val (.int p2), .val (.int p3), .val (.int p4), .val (.int (4 : Int32)), .val (.int (own_w u0)), .val (.int (own_w u1)), .val (.int (own_w u2)), .val (.int (own_w u3)), .unset, .unset, .unset, .unset, .unset, .unset] [])) _
      refine XS.iload X0.here hx rfl (hb hby at_25) rfl ?_
      exact k
    obtain ⟨T26, h26, k26, X26, e26, E26, A26, st26⟩ := newP X0 hx hZ (hw _ (List.mem_of_getElem? (i := 1) rfl)) e0 (g := (mkF m 27 #[.val (.int p0), .val (.int p1), .val (.int p2), .val (.int p3), .val (.int p4), .val (.int (4 : Int32)), .val (.int (own_w u0)), .val (.int (own_w u1)), .val (.int (own_w u2)), .val (.int (own_w u3)), .unset, .unset, .unset, .unset, .unset, .unset] [(.int (4 : Int32))])) rfl (hb hby at_27) rfl (by decide) (cap := 4) (by decide) (by decide) (by decide) (by decide)
    obtain ⟨b26, g26⟩ : ∃ z, z = h0.size := ⟨_, rfl⟩
    rw [← g26] at A26 st26
    have g_b26 : n0 ≤ b26 := Nat.le_trans Z0 (Nat.le_of_eq g26.symm)
    have sz_b26 : h0.size ≤ b26 := Nat.le_trans K.1 (Nat.le_of_eq g26.symm)
    have K := K.ext E26
    have Z0 := Nat.le_trans Z0 E26.1
    have O := O.ext E26
    have hk := Nat.le_trans hk E26.1
    have V_b26 : Arv Z h26 b26 k26 .char (4 : Int32) [(.int (0 : Int32)), (.int (0 : Int32)), (.int (0 : Int32)), (.int (0 : Int32))] (.int (0 : Int32)) := (Arv.new A26 (by decide)).pad (pad_rep [] (.int (0 : Int32)) 4)
    refine own_go (B := T26.setTop (mkF m 29 #[.val (.int p0), .val (.int p1), .val (.int p2), .val (.int p3), .val (.int p4), .val (.int (4 : Int32)), .val (.int (own_w u0)), .val (.int (own_w u1)), .val (.int (own_w u2)), .val (.int (own_w u3)), .unset, .unset, .unset, .unset, .unset, .unset] [(.ref b26)])) st26 ?_
    refine own_go (B := T26.setTop (mkF m 41 #[.val (.int p0), .val (.int p1), .val (.int p2), .val (.int p3), .val (.int p4), .val (.int (4 : Int32)), .val (.int (own_w u0)), .val (.int (own_w u1)), .val (.int (own_w u2)), .val (.int (own_w u3)), .val (.ref b26), .unset, .unset, .unset, .unset, .unset] [(.int (own_w u0)), (.int (0 : Int32)), (.ref b26)])) (fun t k => ?_) ?_
    · show Steps p.tables e below (T26.setTop (mkF m 29 #[.val (.int p0), .val (.int p1), .val (.int p2), .val (.int p3), .val (.int p4), .val (.int (4 : Int32)), .val (.int (own_w u0)), .val (.int (own_w u1)), .val (.int (own_w u2)), .val (.int (own_w u3)), .unset, .unset, .unset, .unset, .unset, .unset] [(.ref b26)])) _
      refine XS.astore X26.here hx rfl (hb hby at_29) rfl rfl (l' := #[.val (.int p0), .val (.int p1), .val (.int p2), .val (.int p3), .val (.int p4), .val (.int (4 : Int32)), .val (.int (own_w u0)), .val (.int (own_w u1)), .val (.int (own_w u2)), .val (.int (own_w u3)), .val (.ref b26), .unset, .unset, .unset, .unset, .unset]) rfl ?_
      refine XS.iload X26.here hx rfl (hb hby at_31) rfl ?_
      refine XS.ifNo X26.here hx rfl (hb hby at_33) rfl ((if0 _ _).trans (tlt (by decide : (0 : Int32) < (4 : Int32))).2.2.2) ?_
      refine XS.aload X26.here hx rfl (hb hby at_36) rfl rfl ?_
      refine XS.iconst X26.here hx rfl (hb hby at_38) ?_
      show Steps p.tables e below (T26.setTop (mkF m 39 #[.val (.int p0), .val (.int p1), .val (.int p2), .val (.int p3), .val (.int p4), .val (.int (4 : Int32)), .val (.int (own_w u0)), .val (.int (own_w u1)), .val (.int (own_w u2)), .val (.int (own_w u3)), .val (.ref b26), .unset, .unset, .unset, .unset, .unset] [(.int (0 : Int32)), (.ref b26)])) _
      refine XS.iload X26.here hx rfl (hb hby at_39) rfl ?_
      exact k
    obtain ⟨cl27, Ar27, qa27, Sa27, Na27, Ha27, Ga27⟩ := id V_b26
    have hin27 : ¬ ((0 : Int32) < 0 ∨ cl27.slots.size ≤ ((0 : Int32)).toNatClampNeg) := inb_of Sa27 ⟨by decide, by decide⟩
    obtain ⟨T28, h28, X28, e28, W28, st28⟩ := stC X26 hx hZ e26 Ar27 (j := (0 : Int32)) hin27 (g := (mkF m 41 #[.val (.int p0), .val (.int p1), .val (.int p2), .val (.int p3), .val (.int p4), .val (.int (4 : Int32)), .val (.int (own_w u0)), .val (.int (own_w u1)), .val (.int (own_w u2)), .val (.int (own_w u3)), .val (.ref b26), .unset, .unset, .unset, .unset, .unset] [(.int (own_w u0)), (.int (0 : Int32)), (.ref b26)])) rfl rfl (hb hby at_41)
    have Z0 := Nat.le_trans Z0 (Nat.le_of_eq W28.size.symm)
    have O := O.wr W28 g_b26
    have hk := Nat.le_trans hk (Nat.le_of_eq W28.size.symm)
    have V_b26 : Arv Z h28 b26 k26 .char (4 : Int32) [(.int (nar .char (own_w u0))), (.int (0 : Int32)), (.int (0 : Int32)), (.int (0 : Int32))] (.int (0 : Int32)) := Arv.set Ar27 qa27 Sa27 Na27 Ha27 Ga27 (fits_nar_char _) W28 0 rfl (Nat.le_of_ble_eq_true rfl)
    have K := K.wr W28 (Or.inr sz_b26)
    have N28 := Fr.snoc X28 N0 g_b26
    refine own_go (B := T28.setTop (mkF m 42 #[.val (.int p0), .val (.int p1), .val (.int p2), .val (.int p3), .val (.int p4), .val (.int (4 : Int32)), .val (.int (own_w u0)), .val (.int (own_w u1)), .val (.int (own_w u2)), .val (.int (own_w u3)), .val (.ref b26), .unset, .unset, .unset, .unset, .unset] [])) st28 ?_
    refine own_go (B := T28.setTop (mkF m 53 #[.val (.int p0), .val (.int p1), .val (.int p2), .val (.int p3), .val (.int p4), .val (.int (4 : Int32)), .val (.int (own_w u0)), .val (.int (own_w u1)), .val (.int (own_w u2)), .val (.int (own_w u3)), .val (.ref b26), .unset, .unset, .unset, .unset, .unset] [(.int (own_w u1)), (.int (1 : Int32)), (.ref b26)])) (fun t k => ?_) ?_
    · show Steps p.tables e below (T28.setTop (mkF m 42 #[.val (.int p0), .val (.int p1), .val (.int p2), .val (.int p3), .val (.int p4), .val (.int (4 : Int32)), .val (.int (own_w u0)), .val (.int (own_w u1)), .val (.int (own_w u2)), .val (.int (own_w u3)), .val (.ref b26), .unset, .unset, .unset, .unset, .unset] [])) _
      refine XS.iload X28.here hx rfl (hb hby at_42) rfl ?_
      refine XS.iconst X28.here hx rfl (hb hby at_44) ?_
      refine XS.icmpNo X28.here hx rfl (hb hby at_45) rfl (tlt (by decide : (1 : Int32) < (4 : Int32))).2.2.2 ?_
      refine XS.aload X28.here hx rfl (hb hby at_48) rfl rfl ?_
      refine XS.iconst X28.here hx rfl (hb hby at_50) ?_
      show Steps p.tables e below (T28.setTop (mkF m 51 #[.val (.int p0), .val (.int p1), .val (.int p2), .val (.int p3), .val (.int p4), .val (.int (4 : Int32)), .val (.int (own_w u0)), .val (.int (own_w u1)), .val (.int (own_w u2)), .val (.int (own_w u3)), .val (.ref b26), .unset, .unset, .unset, .unset, .unset] [(.int (1 : Int32)), (.ref b26)])) _
      refine XS.iload X28.here hx rfl (hb hby at_51) rfl ?_
      exact k
    obtain ⟨cl29, Ar29, qa29, Sa29, Na29, Ha29, Ga29⟩ := id V_b26
    have hin29 : ¬ ((1 : Int32) < 0 ∨ cl29.slots.size ≤ ((1 : Int32)).toNatClampNeg) := inb_of Sa29 ⟨by decide, by decide⟩
    obtain ⟨T30, h30, X30, e30, W30, st30⟩ := stC X28 hx hZ e28 Ar29 (j := (1 : Int32)) hin29 (g := (mkF m 53 #[.val (.int p0), .val (.int p1), .val (.int p2), .val (.int p3), .val (.int p4), .val (.int (4 : Int32)), .val (.int (own_w u0)), .val (.int (own_w u1)), .val (.int (own_w u2)), .val (.int (own_w u3)), .val (.ref b26), .unset, .unset, .unset, .unset, .unset] [(.int (own_w u1)), (.int (1 : Int32)), (.ref b26)])) rfl rfl (hb hby at_53)
    have Z0 := Nat.le_trans Z0 (Nat.le_of_eq W30.size.symm)
    have O := O.wr W30 g_b26
    have hk := Nat.le_trans hk (Nat.le_of_eq W30.size.symm)
    have V_b26 : Arv Z h30 b26 k26 .char (4 : Int32) [(.int (nar .char (own_w u0))), (.int (nar .char (own_w u1))), (.int (0 : Int32)), (.int (0 : Int32))] (.int (0 : Int32)) := Arv.set Ar29 qa29 Sa29 Na29 Ha29 Ga29 (fits_nar_char _) W30 1 rfl (Nat.le_of_ble_eq_true rfl)
    have K := K.wr W30 (Or.inr sz_b26)
    have N30 := Fr.snoc X30 N28 g_b26
    refine own_go (B := T30.setTop (mkF m 54 #[.val (.int p0), .val (.int p1), .val (.int p2), .val (.int p3), .val (.int p4), .val (.int (4 : Int32)), .val (.int (own_w u0)), .val (.int (own_w u1)), .val (.int (own_w u2)), .val (.int (own_w u3)), .val (.ref b26), .unset, .unset, .unset, .unset, .unset] [])) st30 ?_
    refine own_go (B := T30.setTop (mkF m 65 #[.val (.int p0), .val (.int p1), .val (.int p2), .val (.int p3), .val (.int p4), .val (.int (4 : Int32)), .val (.int (own_w u0)), .val (.int (own_w u1)), .val (.int (own_w u2)), .val (.int (own_w u3)), .val (.ref b26), .unset, .unset, .unset, .unset, .unset] [(.int (own_w u2)), (.int (2 : Int32)), (.ref b26)])) (fun t k => ?_) ?_
    · show Steps p.tables e below (T30.setTop (mkF m 54 #[.val (.int p0), .val (.int p1), .val (.int p2), .val (.int p3), .val (.int p4), .val (.int (4 : Int32)), .val (.int (own_w u0)), .val (.int (own_w u1)), .val (.int (own_w u2)), .val (.int (own_w u3)), .val (.ref b26), .unset, .unset, .unset, .unset, .unset] [])) _
      refine XS.iload X30.here hx rfl (hb hby at_54) rfl ?_
      refine XS.iconst X30.here hx rfl (hb hby at_56) ?_
      refine XS.icmpNo X30.here hx rfl (hb hby at_57) rfl (tlt (by decide : (2 : Int32) < (4 : Int32))).2.2.2 ?_
      refine XS.aload X30.here hx rfl (hb hby at_60) rfl rfl ?_
      refine XS.iconst X30.here hx rfl (hb hby at_62) ?_
      show Steps p.tables e below (T30.setTop (mkF m 63 #[.val (.int p0), .val (.int p1), .val (.int p2), .val (.int p3), .val (.int p4), .val (.int (4 : Int32)), .val (.int (own_w u0)), .val (.int (own_w u1)), .val (.int (own_w u2)), .val (.int (own_w u3)), .val (.ref b26), .unset, .unset, .unset, .unset, .unset] [(.int (2 : Int32)), (.ref b26)])) _
      refine XS.iload X30.here hx rfl (hb hby at_63) rfl ?_
      exact k
    obtain ⟨cl31, Ar31, qa31, Sa31, Na31, Ha31, Ga31⟩ := id V_b26
    have hin31 : ¬ ((2 : Int32) < 0 ∨ cl31.slots.size ≤ ((2 : Int32)).toNatClampNeg) := inb_of Sa31 ⟨by decide, by decide⟩
    obtain ⟨T32, h32, X32, e32, W32, st32⟩ := stC X30 hx hZ e30 Ar31 (j := (2 : Int32)) hin31 (g := (mkF m 65 #[.val (.int p0), .val (.int p1), .val (.int p2), .val (.int p3), .val (.int p4), .val (.int (4 : Int32)), .val (.int (own_w u0)), .val (.int (own_w u1)), .val (.int (own_w u2)), .val (.int (own_w u3)), .val (.ref b26), .unset, .unset, .unset, .unset, .unset] [(.int (own_w u2)), (.int (2 : Int32)), (.ref b26)])) rfl rfl (hb hby at_65)
    have Z0 := Nat.le_trans Z0 (Nat.le_of_eq W32.size.symm)
    have O := O.wr W32 g_b26
    have hk := Nat.le_trans hk (Nat.le_of_eq W32.size.symm)
    have V_b26 : Arv Z h32 b26 k26 .char (4 : Int32) [(.int (nar .char (own_w u0))), (.int (nar .char (own_w u1))), (.int (nar .char (own_w u2))), (.int (0 : Int32))] (.int (0 : Int32)) := Arv.set Ar31 qa31 Sa31 Na31 Ha31 Ga31 (fits_nar_char _) W32 2 rfl (Nat.le_of_ble_eq_true rfl)
    have K := K.wr W32 (Or.inr sz_b26)
    have N32 := Fr.snoc X32 N30 g_b26
    refine own_go (B := T32.setTop (mkF m 66 #[.val (.int p0), .val (.int p1), .val (.int p2), .val (.int p3), .val (.int p4), .val (.int (4 : Int32)), .val (.int (own_w u0)), .val (.int (own_w u1)), .val (.int (own_w u2)), .val (.int (own_w u3)), .val (.ref b26), .unset, .unset, .unset, .unset, .unset] [])) st32 ?_
    refine own_go (B := T32.setTop (mkF m 77 #[.val (.int p0), .val (.int p1), .val (.int p2), .val (.int p3), .val (.int p4), .val (.int (4 : Int32)), .val (.int (own_w u0)), .val (.int (own_w u1)), .val (.int (own_w u2)), .val (.int (own_w u3)), .val (.ref b26), .unset, .unset, .unset, .unset, .unset] [(.int (own_w u3)), (.int (3 : Int32)), (.ref b26)])) (fun t k => ?_) ?_
    · show Steps p.tables e below (T32.setTop (mkF m 66 #[.val (.int p0), .val (.int p1), .val (.int p2), .val (.int p3), .val (.int p4), .val (.int (4 : Int32)), .val (.int (own_w u0)), .val (.int (own_w u1)), .val (.int (own_w u2)), .val (.int (own_w u3)), .val (.ref b26), .unset, .unset, .unset, .unset, .unset] [])) _
      refine XS.iload X32.here hx rfl (hb hby at_66) rfl ?_
      refine XS.iconst X32.here hx rfl (hb hby at_68) ?_
      refine XS.icmpNo X32.here hx rfl (hb hby at_69) rfl (tlt (by decide : (3 : Int32) < (4 : Int32))).2.2.2 ?_
      refine XS.aload X32.here hx rfl (hb hby at_72) rfl rfl ?_
      refine XS.iconst X32.here hx rfl (hb hby at_74) ?_
      show Steps p.tables e below (T32.setTop (mkF m 75 #[.val (.int p0), .val (.int p1), .val (.int p2), .val (.int p3), .val (.int p4), .val (.int (4 : Int32)), .val (.int (own_w u0)), .val (.int (own_w u1)), .val (.int (own_w u2)), .val (.int (own_w u3)), .val (.ref b26), .unset, .unset, .unset, .unset, .unset] [(.int (3 : Int32)), (.ref b26)])) _
      refine XS.iload X32.here hx rfl (hb hby at_75) rfl ?_
      exact k
    obtain ⟨cl33, Ar33, qa33, Sa33, Na33, Ha33, Ga33⟩ := id V_b26
    have hin33 : ¬ ((3 : Int32) < 0 ∨ cl33.slots.size ≤ ((3 : Int32)).toNatClampNeg) := inb_of Sa33 ⟨by decide, by decide⟩
    obtain ⟨T34, h34, X34, e34, W34, st34⟩ := stC X32 hx hZ e32 Ar33 (j := (3 : Int32)) hin33 (g := (mkF m 77 #[.val (.int p0), .val (.int p1), .val (.int p2), .val (.int p3), .val (.int p4), .val (.int (4 : Int32)), .val (.int (own_w u0)), .val (.int (own_w u1)), .val (.int (own_w u2)), .val (.int (own_w u3)), .val (.ref b26), .unset, .unset, .unset, .unset, .unset] [(.int (own_w u3)), (.int (3 : Int32)), (.ref b26)])) rfl rfl (hb hby at_77)
    have Z0 := Nat.le_trans Z0 (Nat.le_of_eq W34.size.symm)
    have O := O.wr W34 g_b26
    have hk := Nat.le_trans hk (Nat.le_of_eq W34.size.symm)
    have V_b26 : Arv Z h34 b26 k26 .char (4 : Int32) [(.int (nar .char (own_w u0))), (.int (nar .char (own_w u1))), (.int (nar .char (own_w u2))), (.int (nar .char (own_w u3)))] (.int (0 : Int32)) := Arv.set Ar33 qa33 Sa33 Na33 Ha33 Ga33 (fits_nar_char _) W34 3 rfl (Nat.le_of_ble_eq_true rfl)
    have K := K.wr W34 (Or.inr sz_b26)
    have N34 := Fr.snoc X34 N32 g_b26
    refine own_go (B := T34.setTop (mkF m 78 #[.val (.int p0), .val (.int p1), .val (.int p2), .val (.int p3), .val (.int p4), .val (.int (4 : Int32)), .val (.int (own_w u0)), .val (.int (own_w u1)), .val (.int (own_w u2)), .val (.int (own_w u3)), .val (.ref b26), .unset, .unset, .unset, .unset, .unset] [])) st34 ?_
    simp only [own_nc] at V_b26
    exact J78 _ _ (X34.mono (by decide) (by decide)) N34 _ e34 Z0 K O b26 k26 ([u0, u1, u2, u3] : List UInt16) (4 : Int32) V_b26 (Or.inr (Or.inr (Or.inr (Or.inr (⟨rfl, rfl⟩)))))
set_option maxRecDepth 65536 in
set_option maxHeartbeats 40000000 in
theorem comes_1 {Post : Tables → Env → Array Value → State → Outcome → State → Prop} (hpost : ∀ tb e args s v u, (limb_1_1.after args s (.returned v) u = true ∧ limb_1_2.after args s (.returned v) u = true ∧ True) → FramedW s (.returned v) u (Jvm.fieldLocs frame_1_writes args s ++ Jvm.arrayLocs frame_1_arrays args s ++ Jvm.staticLocs frame_1_statics s) 24 3200 → Post tb e args s (.returned v) u) :
    ArmFor flags0 classFile x code maxLocals ret World_1 tables_1 room_1 Calls_1 rest_1 Pre_1 Post := by
  intro l hfl _ _ p e ha hc hk' s m args below hf hA hF happ hP
  obtain ⟨hcalls, hrest, hpre⟩ := hP
  obtain ⟨-, -, -, hnamed, -, -, -, hat⟩ := (Spec.applies_iff hf).mp happ
  obtain ⟨hg, hn⟩ := and_e (Cond.before_iff.mp (show (Jvm.Cond.and given_1 narrow_1).before args s = true from hpre))
  obtain ⟨gc, hg⟩ := and_e hg
  obtain ⟨w0, w1, w2, w3, w4, rfl⟩ : ∃ w0 w1 w2 w3 w4 : Value, args = #[w0, w1, w2, w3, w4] := by
    have hs : args.size = 5 := by simpa [Cond.value, given_1] using gc
    obtain ⟨L⟩ := args
    match L, hs with
    | [w0, w1, w2, w3, w4], _ => exact ⟨w0, w1, w2, w3, w4, rfl⟩
  obtain ⟨ga0, hg⟩ := and_e hg
  obtain ⟨ga1, hg⟩ := and_e hg
  obtain ⟨ga2, hg⟩ := and_e hg
  obtain ⟨ga3, hg⟩ := and_e hg
  have ga4 := hg
  obtain ⟨i0, ei0⟩ := is_v ga0
  obtain rfl : w0 = (.int i0) := Option.some.inj ei0
  obtain ⟨i1, ei1⟩ := is_v ga1
  obtain rfl : w1 = (.int i1) := Option.some.inj ei1
  obtain ⟨i2, ei2⟩ := is_v ga2
  obtain rfl : w2 = (.int i2) := Option.some.inj ei2
  obtain ⟨i3, ei3⟩ := is_v ga3
  obtain rfl : w3 = (.int i3) := Option.some.inj ei3
  obtain ⟨i4, ei4⟩ := is_v ga4
  obtain rfl : w4 = (.int i4) := Option.some.inj ei4
  have hw := fun d (hd : d ∈ tables_1) => atoms_spec (ws := Jvm.Cond.code x code maxLocals ret :: tables_1) hat d (List.mem_cons_of_mem _ hd)
  have hfit : Fit s := fun {y c} hc i hi => by
    obtain ⟨ha, rfl⟩ := Array.getElem?_eq_some_iff.mp hc
    have q := List.all_eq_true.mp ((Array.all_eq_true_iff_forall_mem.mp hF) _ (Array.getElem_mem ha)) i (List.mem_range.mpr hi)
    simpa [Array.getElem?_eq_getElem hi] using q
  obtain ⟨hsets, hown0⟩ := atoms_of _ (rest_1_c_eq ▸ (show rest_1_c.before _ s = true from hrest))
  obtain ⟨G1, e6⟩ := is_v (Cond.before_iff.mp (hsets _ (List.mem_of_getElem? (i := 1) rfl)))
  have O2 : Sta s s.heap "java/lang/String" "COMPACT_STRINGS" "Z" (.int G1) := Sta.start e6 (Or.inl (hsets _ (List.mem_of_getElem? (i := 0) rfl)))
  have P5 : ¬ (G1 = (0 : Int32)) := fun q => by
    have n3 := not_v (Cond.before_iff.mp (hsets _ (List.mem_of_getElem? (i := 2) rfl)))
    subst q
    have := n3.symm.trans (eq_i e6 (Term.int_eval (0)) rfl)
    simp at this
  obtain ⟨G3, e10, rG3⟩ := isR_v (Cond.before_iff.mp (hsets _ (List.mem_of_getElem? (i := 8) rfl)))
  have O4 : Sta s s.heap "jdk/internal/util/Preconditions" "SIOOBE_FORMATTER" "Ljava/util/function/BiFunction;" G3 := Sta.start e10 (Or.inl (hsets _ (List.mem_of_getElem? (i := 7) rfl)))
  have A1 : Sta s s.heap "java/lang/StringUTF16" "$assertionsDisabled" "Z" (.int (1 : Int32)) := Sta.start (eqv_i rfl (Cond.before_iff.mp (hsets _ (List.mem_of_getElem? (i := 12) rfl)))) (Or.inl (hsets _ (List.mem_of_getElem? (i := 11) rfl)))
  have A2 : Sta s s.heap "java/lang/StringUTF16" "HI_BYTE_SHIFT" "I" (.int (0 : Int32)) := Sta.start (eqv_i rfl (Cond.before_iff.mp (hsets _ (List.mem_of_getElem? (i := 15) rfl)))) (Or.inl (hsets _ (List.mem_of_getElem? (i := 14) rfl)))
  have A3 : Sta s s.heap "java/lang/StringUTF16" "LO_BYTE_SHIFT" "I" (.int (8 : Int32)) := Sta.start (eqv_i rfl (Cond.before_iff.mp (hsets _ (List.mem_of_getElem? (i := 18) rfl)))) (Or.inl (hsets _ (List.mem_of_getElem? (i := 17) rfl)))
  have hSt : own_S s := ⟨G1, G3, O2, P5, O4, rG3, A1, A2, A3⟩
  have hcw := (show Jvm.Lit.compactW.before _ s = true from (hsets _ (List.mem_of_getElem? (i := 2) rfl)))
  have hh7 : Jvm.Lit.constHeld s "java/lang/String" 7 := hcalls.1 ("java/lang/String", 7) (List.mem_of_getElem? (i := 2) rfl)
  have hh211 : Jvm.Lit.constHeld s "com/example/vareso/vareso/vault/ContentNode" 211 := hcalls.1 ("com/example/vareso/vareso/vault/ContentNode", 211) (List.mem_of_getElem? (i := 0) rfl)
  have hh213 : Jvm.Lit.constHeld s "com/example/vareso/vareso/vault/ContentNode" 213 := hcalls.1 ("com/example/vareso/vareso/vault/ContentNode", 213) (List.mem_of_getElem? (i := 1) rfl)
  obtain ⟨n, o, h1, h2, h3, _, L, rfl, ⟨⟨rfl, N⟩, -⟩, hq⟩ := rm0 l s _ hw tables_1 i0 i1 i2 i3 i4 s.heap s.heap.size (Nat.le_refl _) hSt (Old.start s) hcw hh7 hh211 hh213 p e ha hc hk' s m _ below hf ((Spec.applies_iff_loose hf).mp happ).1 ⟨⟨rfl, State.Warmed39.refl s, rfl⟩, IB.start⟩ trivial
  refine ⟨n, _, h1, h2, h3, hpost _ _ _ _ _ _ ⟨Cond.after_iff.mpr rfl, Cond.after_iff.mpr (eq_i res_at (Term.int_eval (1)) rfl), trivial⟩ ⟨hq.1, hq.2.1, hq.2.2.1, (hq.2.2.2.sift fun y hy => Or.inr (N y hy)).mono (by decide) (by decide)⟩⟩
theorem main_1_1 : Claimed_1_1 := comes_1 fun _ _ _ _ _ _ h hF => ⟨h.1, hF⟩
theorem main_1_2 : Claimed_1_2 := comes_1 fun _ _ _ _ _ _ h hF => ⟨h.2.1, hF⟩
end Jvm.Pilot.@@N@@
namespace Jvm.Pilot.@@N@@
open Jvm Jvm.ClassFile Sem Op Lib Jvm.Free Jvm.Stand Jvm.Pilot.@@N@@.Jvm.D
/-! MADE BY PROGRAM (witnessworld.py) out of the Statement's table words and the real class files: 21 classes; the members and pool entries that the words name. The judged class is class 1, her method 1. -/
namespace start1
open Jvm.ClassFile
def u (s : String) : CpInfo := .utf8 (stringToUtf16 s)
/-- a pool by its gaps: so many unusable entries, then the entry; so many at the end -/
def gap : Nat → List CpInfo → List CpInfo
  | 0, r => r
  | n + 1, r => .unusable :: gap n r
def poolList (es : List (Nat × CpInfo)) (last : Nat) : List CpInfo := es.foldr (fun e r => gap e.1 (e.2 :: r)) (gap last [])
def pool (es : List (Nat × CpInfo)) (last : Nat) : Array CpInfo := ⟨poolList es last⟩
def fileOf (pool : Array CpInfo) (this : Nat) (attrs : Array Attribute := #[]) (ms : Array MethodInfo := #[]) (fl : Nat := 33) (sup : Nat := 0) (ifs : Array Nat := #[]) (fds : Array FieldInfo := #[]) : ClassFile where
  minorVersion := 0
  majorVersion := 65
  constantPool := pool
  accessFlags := fl
  thisClass := this
  superClass := sup
  interfaces := ifs
  fields := fds
  methods := ms
  attributes := attrs
def plain (name : String) (sup : Option ClassId) : Class where
  name := name
  kind := .ordinary
  loader := none
  accessFlags := 33
  super := sup
  interfaces := #[]
  cf := none
  fields := #[]
  methods := #[]
  instanceTypes := #[]
  staticTypes := #[]
  resolved := #[]
  callSites := []
  init := .initialized
  statics := none
  mirror := none

def pool0 : Array CpInfo := pool [(5, u "<init>"), (0, u "()V"), (1, .class_ 10), (1, u "java/lang/Object")] 113

def k0c0 : Code := { maxStack := 0, maxLocals := 1, code := object_method_1_code, exceptionTable := #[], attributes := #[] }
def k0m0 : Method := { name := "<init>", desc := "()V", sig := { parameters := [], returnType := none }, accessFlags := 1, code := some k0c0 }
/-- java/lang/Object -/
def k0 : Class := { plain "java/lang/Object" none with
  accessFlags := 33
  interfaces := #[]
  cf := some (fileOf pool0 8 #[] #[{ accessFlags := 1, nameIndex := 5, descriptorIndex := 6, attributes := #[] }] 33 0 #[] #[])
  fields := #[]
  methods := #[k0m0]
  instanceTypes := #[]
  staticTypes := #[]
  resolved := Array.replicate 124 none
  statics := none }

def pool1 : Array CpInfo := pool [(2, .class_ 4), (1, u "java/lang/Object"), (0, u "<init>"), (0, u "()V"), (0, .integer 2147483647), (0, .class_ 9), (0, u "java/lang/String"), (0, .methodref 8 11), (0, .nameAndType 5 12), (0, u "([C)V"), (0, .methodref 14 15), (0, .class_ 16), (0, .nameAndType 17 18), (0, u "com/example/vareso/vareso/vault/ContentNode"), (0, u "isChildName"), (0, u "(Ljava/lang/String;)Z"), (0, .class_ 20), (0, u "com/example/vareso/vareso/vault/ContentNodeIsChildNamePinLaw"), (2, u "law"), (0, u "(IIIII)Z")] 5

def k1m0 : Method := { name := "<init>", desc := "()V", sig := { parameters := [], returnType := none }, accessFlags := 1, code := none }
def k1c1 : Code := { maxStack := 3, maxLocals := 16, code := code, exceptionTable := #[], attributes := #[] }
def k1m1 : Method := { name := "law", desc := "(IIIII)Z", sig := { parameters := [.int, .int, .int, .int, .int], returnType := some .boolean }, accessFlags := 9, code := some k1c1 }
/-- com/example/vareso/vareso/vault/ContentNodeIsChildNamePinLaw -/
def k1 : Class := { plain "com/example/vareso/vareso/vault/ContentNodeIsChildNamePinLaw" (some 0) with
  accessFlags := 49
  interfaces := #[]
  cf := some (fileOf pool1 19 #[] #[{ accessFlags := 1, nameIndex := 5, descriptorIndex := 6, attributes := #[] }, { accessFlags := 9, nameIndex := 23, descriptorIndex := 24, attributes := #[] }] 49 2 #[] #[])
  fields := #[]
  methods := #[k1m0, k1m1]
  instanceTypes := #[]
  staticTypes := #[]
  resolved := Array.replicate 30 none
  statics := none }

def pool2 : Array CpInfo := pool [(1, .class_ 2), (0, u "java/io/Serializable"), (0, .class_ 4), (0, u "java/lang/Object")] 2

/-- java/io/Serializable -/
def k2 : Class := { plain "java/io/Serializable" (some 0) with
  accessFlags := 1537
  interfaces := #[]
  cf := some (fileOf pool2 1 #[] #[] 1537 3 #[] #[])
  fields := #[]
  methods := #[]
  instanceTypes := #[]
  staticTypes := #[]
  resolved := Array.replicate 7 none
  statics := none }

def pool3 : Array CpInfo := pool [(1, .class_ 2), (0, u "java/lang/Comparable"), (0, .class_ 4), (0, u "java/lang/Object")] 7

/-- java/lang/Comparable -/
def k3 : Class := { plain "java/lang/Comparable" (some 0) with
  accessFlags := 1537
  interfaces := #[]
  cf := some (fileOf pool3 1 #[] #[] 1537 3 #[] #[])
  fields := #[]
  methods := #[]
  instanceTypes := #[]
  staticTypes := #[]
  resolved := Array.replicate 12 none
  statics := none }

def pool4 : Array CpInfo := pool [(2, .class_ 4), (1, u "java/lang/CharSequence"), (42, .class_ 48), (0, u "java/lang/CharSequence$1CodePointIterator"), (10, .class_ 60), (0, u "java/lang/CharSequence$1CharIterator"), (5, .class_ 67), (0, u "java/lang/Object")] 63

/-- java/lang/CharSequence -/
def k4 : Class := { plain "java/lang/CharSequence" (some 0) with
  accessFlags := 1537
  interfaces := #[]
  cf := some (fileOf pool4 2 #[.nestMembers #[47, 59]] #[] 1537 66 #[] #[])
  fields := #[]
  methods := #[]
  instanceTypes := #[]
  staticTypes := #[]
  resolved := Array.replicate 131 none
  statics := none }

def pool5 : Array CpInfo := pool [(1, .class_ 2), (0, u "java/lang/constant/Constable"), (0, .class_ 4), (0, u "java/lang/Object")] 6

/-- java/lang/constant/Constable -/
def k5 : Class := { plain "java/lang/constant/Constable" (some 0) with
  accessFlags := 1537
  interfaces := #[]
  cf := some (fileOf pool5 1 #[] #[] 1537 3 #[] #[])
  fields := #[]
  methods := #[]
  instanceTypes := #[]
  staticTypes := #[]
  resolved := Array.replicate 11 none
  statics := none }

def pool6 : Array CpInfo := pool [(1, .class_ 2), (0, u "java/lang/constant/ConstantDesc"), (0, .class_ 4), (0, u "java/lang/Object")] 32

/-- java/lang/constant/ConstantDesc -/
def k6 : Class := { plain "java/lang/constant/ConstantDesc" (some 0) with
  accessFlags := 1537
  interfaces := #[]
  cf := some (fileOf pool6 1 #[] #[] 1537 3 #[] #[])
  fields := #[]
  methods := #[]
  instanceTypes := #[]
  staticTypes := #[]
  resolved := Array.replicate 37 none
  statics := none }

def pool7 : Array CpInfo := pool [(1, .methodref 2 3), (0, .class_ 4), (0, .nameAndType 5 6), (0, u "java/lang/Object"), (0, u "<init>"), (0, u "()V"), (0, .string 8), (0, u ""), (0, .fieldref 10 11), (0, .class_ 12), (0, .nameAndType 13 14), (0, u "java/lang/String"), (0, u "value"), (0, u "[B"), (0, .fieldref 10 16), (0, .nameAndType 17 18), (0, u "coder"), (0, u "B"), (2, u "hash"), (0, u "I"), (2, u "hashIsZero"), (0, u "Z"), (0, .methodref 10 28), (0, .nameAndType 5 29), (0, u "([CIILjava/lang/Void;)V"), (8, .fieldref 10 39), (0, .nameAndType 40 26), (0, u "COMPACT_STRINGS"), (1, .class_ 44), (1, u "java/lang/StringUTF16"), (0, u "compress"), (1, .methodref 42 48), (0, .nameAndType 49 50), (0, u "coderFromArrayLen"), (0, u "([BI)B"), (56, .class_ 109), (1, u "java/lang/StringLatin1"), (32, u "()Z"), (34, .methodref 42 178), (0, .nameAndType 45 179), (0, u "([CII)[B"), (154, u "()I"), (0, .methodref 10 336), (0, .nameAndType 17 337), (0, u "()B"), (154, .methodref 10 493), (0, .nameAndType 494 142), (0, u "isLatin1"), (10, .methodref 10 506), (0, .nameAndType 507 334), (0, u "length"), (5, u "checkFromToIndex"), (9, u "checkBoundsBeginEnd"), (0, u "(III)V"), (16, .methodref 107 542), (0, .nameAndType 543 544), (0, u "equals"), (0, u "([B[B)Z"), (28, u "(Ljava/lang/Object;)Z"), (1, .class_ 576), (0, u "java/lang/CharSequence"), (22, u "CASE_INSENSITIVE_ORDER"), (0, u "Ljava/util/Comparator;"), (32, .methodref 10 634), (0, .nameAndType 635 636), (0, u "indexOf"), (0, u "(II)I"), (0, .methodref 107 638), (0, .nameAndType 635 639), (0, u "([BIII)I"), (0, .methodref 42 638), (124, u "(I)I"), (244, u "([C)V"), (42, .fieldref 1054 1055), (0, .class_ 1056), (0, .nameAndType 1057 1058), (0, u "jdk/internal/util/Preconditions"), (0, u "SIOOBE_FORMATTER"), (0, u "Ljava/util/function/BiFunction;"), (3, .methodref 1054 1063), (0, .nameAndType 513 1064), (0, u "(IIILjava/util/function/BiFunction;)I"), (36, u "serialPersistentFields"), (0, u "[Ljava/io/ObjectStreamField;"), (0, .class_ 1104), (0, u "java/lang/String$CaseInsensitiveComparator"), (1, .class_ 1107), (0, u "java/io/Serializable"), (0, .class_ 1109), (0, u "java/lang/Comparable"), (0, .class_ 1111), (0, u "java/lang/constant/Constable"), (0, .class_ 1113), (0, u "java/lang/constant/ConstantDesc"), (2, u "serialVersionUID"), (0, u "J"), (3, u "REPL"), (0, u "C"), (2, u "LATIN1"), (1, u "UTF16")] 323

def k7m0 : Method := { name := "<init>", desc := "()V", sig := { parameters := [], returnType := none }, accessFlags := 1, code := none }
def k7c1 : Code := { maxStack := 5, maxLocals := 2, code := jdk_42_method_3_code, exceptionTable := #[], attributes := #[] }
def k7m1 : Method := { name := "<init>", desc := "([C)V", sig := { parameters := [(.array .char)], returnType := none }, accessFlags := 1, code := some k7c1 }
def k7c2 : Code := { maxStack := 2, maxLocals := 1, code := jdk_42_method_54_code, exceptionTable := #[], attributes := #[] }
def k7m2 : Method := { name := "length", desc := "()I", sig := { parameters := [], returnType := some .int }, accessFlags := 1, code := some k7c2 }
def k7c3 : Code := { maxStack := 2, maxLocals := 3, code := jdk_42_method_66_code, exceptionTable := #[], attributes := #[] }
def k7m3 : Method := { name := "equals", desc := "(Ljava/lang/Object;)Z", sig := { parameters := [(.object "java/lang/Object")], returnType := some .boolean }, accessFlags := 1, code := some k7c3 }
def k7c4 : Code := { maxStack := 3, maxLocals := 2, code := jdk_42_method_79_code, exceptionTable := #[], attributes := #[] }
def k7m4 : Method := { name := "indexOf", desc := "(I)I", sig := { parameters := [.int], returnType := some .int }, accessFlags := 1, code := some k7c4 }
def k7c5 : Code := { maxStack := 4, maxLocals := 3, code := jdk_42_method_80_code, exceptionTable := #[], attributes := #[] }
def k7m5 : Method := { name := "indexOf", desc := "(II)I", sig := { parameters := [.int, .int], returnType := some .int }, accessFlags := 1, code := some k7c5 }
def k7c6 : Code := { maxStack := 4, maxLocals := 6, code := jdk_42_method_149_code, exceptionTable := #[], attributes := #[] }
def k7m6 : Method := { name := "<init>", desc := "([CIILjava/lang/Void;)V", sig := { parameters := [(.array .char), .int, .int, (.object "java/lang/Void")], returnType := none }, accessFlags := 2, code := some k7c6 }
def k7c7 : Code := { maxStack := 1, maxLocals := 1, code := jdk_42_method_152_code, exceptionTable := #[], attributes := #[] }
def k7m7 : Method := { name := "coder", desc := "()B", sig := { parameters := [], returnType := some .byte }, accessFlags := 0, code := some k7c7 }
def k7c8 : Code := { maxStack := 1, maxLocals := 1, code := jdk_42_method_154_code, exceptionTable := #[], attributes := #[] }
def k7m8 : Method := { name := "isLatin1", desc := "()Z", sig := { parameters := [], returnType := some .boolean }, accessFlags := 0, code := some k7c8 }
def k7c9 : Code := { maxStack := 4, maxLocals := 3, code := jdk_42_method_158_code, exceptionTable := #[], attributes := #[] }
def k7m9 : Method := { name := "checkBoundsBeginEnd", desc := "(III)V", sig := { parameters := [.int, .int, .int], returnType := none }, accessFlags := 8, code := some k7c9 }
/-- java/lang/String -/
def k7 : Class := { plain "java/lang/String" (some 0) with
  accessFlags := 49
  interfaces := #[2, 3, 4, 5, 6]
  cf := some (fileOf pool7 10 #[.nestMembers #[1103]] #[{ accessFlags := 1, nameIndex := 5, descriptorIndex := 6, attributes := #[] }, { accessFlags := 1, nameIndex := 5, descriptorIndex := 1010, attributes := #[] }, { accessFlags := 1, nameIndex := 507, descriptorIndex := 334, attributes := #[] }, { accessFlags := 1, nameIndex := 543, descriptorIndex := 573, attributes := #[] }, { accessFlags := 1, nameIndex := 635, descriptorIndex := 765, attributes := #[] }, { accessFlags := 1, nameIndex := 635, descriptorIndex := 636, attributes := #[] }, { accessFlags := 2, nameIndex := 5, descriptorIndex := 29, attributes := #[] }, { accessFlags := 0, nameIndex := 17, descriptorIndex := 337, attributes := #[] }, { accessFlags := 0, nameIndex := 494, descriptorIndex := 142, attributes := #[] }, { accessFlags := 8, nameIndex := 523, descriptorIndex := 524, attributes := #[] }] 49 2 #[1106, 1108, 575, 1110, 1112] #[{ accessFlags := 18, nameIndex := 13, descriptorIndex := 14, attributes := #[] }, { accessFlags := 18, nameIndex := 17, descriptorIndex := 18, attributes := #[] }, { accessFlags := 2, nameIndex := 21, descriptorIndex := 22, attributes := #[] }, { accessFlags := 2, nameIndex := 25, descriptorIndex := 26, attributes := #[] }, { accessFlags := 26, nameIndex := 1116, descriptorIndex := 1117, attributes := #[] }, { accessFlags := 24, nameIndex := 40, descriptorIndex := 26, attributes := #[] }, { accessFlags := 26, nameIndex := 1101, descriptorIndex := 1102, attributes := #[] }, { accessFlags := 26, nameIndex := 1121, descriptorIndex := 1122, attributes := #[] }, { accessFlags := 25, nameIndex := 599, descriptorIndex := 600, attributes := #[] }, { accessFlags := 24, nameIndex := 1125, descriptorIndex := 18, attributes := #[] }, { accessFlags := 24, nameIndex := 1127, descriptorIndex := 18, attributes := #[] }])
  fields := #[{ name := "value", type := (.array .byte), accessFlags := 18, slot := 0, constantValue := 0 }, { name := "coder", type := .byte, accessFlags := 18, slot := 1, constantValue := 0 }, { name := "hash", type := .int, accessFlags := 2, slot := 2, constantValue := 0 }, { name := "hashIsZero", type := .boolean, accessFlags := 2, slot := 3, constantValue := 0 }, { name := "serialVersionUID", type := .long, accessFlags := 26, slot := 0, constantValue := 0 }, { name := "COMPACT_STRINGS", type := .boolean, accessFlags := 24, slot := 1, constantValue := 0 }, { name := "serialPersistentFields", type := (.array (.object "java/io/ObjectStreamField")), accessFlags := 26, slot := 2, constantValue := 0 }, { name := "REPL", type := .char, accessFlags := 26, slot := 3, constantValue := 0 }, { name := "CASE_INSENSITIVE_ORDER", type := (.object "java/util/Comparator"), accessFlags := 25, slot := 4, constantValue := 0 }, { name := "LATIN1", type := .byte, accessFlags := 24, slot := 5, constantValue := 0 }, { name := "UTF16", type := .byte, accessFlags := 24, slot := 6, constantValue := 0 }]
  methods := #[k7m0, k7m1, k7m2, k7m3, k7m4, k7m5, k7m6, k7m7, k7m8, k7m9]
  instanceTypes := #[(.array .byte), .byte, .int, .boolean]
  staticTypes := #[.long, .boolean, (.array (.object "java/io/ObjectStreamField")), .char, (.object "java/util/Comparator"), .byte, .byte]
  resolved := Array.replicate 1451 none
  statics := some 0 }

def pool8 : Array CpInfo := pool [(2, .class_ 4), (1, u "java/lang/Object"), (14, .class_ 21), (1, u "com/example/vareso/vareso/vault/ContentNode"), (0, u "children"), (0, u "Ljava/util/Map;"), (2, u "name"), (0, u "Ljava/lang/String;"), (2, u "properties"), (2, u "FOLDER_PROPERTIES"), (7, u "FILE_TYPE"), (0, u "Lcom/example/vareso/vareso/vault/PropertyValue;"), (38, .methodref 82 83), (0, .class_ 84), (0, .nameAndType 85 86), (0, u "java/lang/String"), (0, u "equals"), (0, u "(Ljava/lang/Object;)Z"), (16, u "RESOURCE_TYPE"), (78, .methodref 82 183), (0, .nameAndType 184 185), (0, u "indexOf"), (0, u "(I)I"), (6, u "dottedNames"), (18, .string 212), (0, u "."), (0, .string 214), (0, u ".."), (2, u "placeholder"), (0, u "Z"), (5, u "Lcom/example/vareso/vareso/vault/DottedNames;"), (47, u "CONTENT"), (1, u "PRIMARY_TYPE"), (0, u "MIME_TYPE"), (0, u "DATA"), (29, u "isChildName"), (0, u "(Ljava/lang/String;)Z")] 32

def k8c0 : Code := { maxStack := 2, maxLocals := 1, code := prog_74_method_15_code, exceptionTable := #[], attributes := #[] }
def k8m0 : Method := { name := "isChildName", desc := "(Ljava/lang/String;)Z", sig := { parameters := [(.object "java/lang/String")], returnType := some .boolean }, accessFlags := 8, code := some k8c0 }
/-- com/example/vareso/vareso/vault/ContentNode -/
def k8 : Class := { plain "com/example/vareso/vareso/vault/ContentNode" (some 0) with
  accessFlags := 33
  interfaces := #[]
  cf := some (fileOf pool8 19 #[] #[{ accessFlags := 8, nameIndex := 306, descriptorIndex := 307, attributes := #[] }] 33 2 #[] #[{ accessFlags := 24, nameIndex := 272, descriptorIndex := 27, attributes := #[] }, { accessFlags := 26, nameIndex := 274, descriptorIndex := 27, attributes := #[] }, { accessFlags := 26, nameIndex := 275, descriptorIndex := 27, attributes := #[] }, { accessFlags := 26, nameIndex := 276, descriptorIndex := 27, attributes := #[] }, { accessFlags := 26, nameIndex := 33, descriptorIndex := 23, attributes := #[] }, { accessFlags := 26, nameIndex := 41, descriptorIndex := 42, attributes := #[] }, { accessFlags := 26, nameIndex := 103, descriptorIndex := 42, attributes := #[] }, { accessFlags := 18, nameIndex := 26, descriptorIndex := 27, attributes := #[] }, { accessFlags := 18, nameIndex := 30, descriptorIndex := 23, attributes := #[] }, { accessFlags := 2, nameIndex := 22, descriptorIndex := 23, attributes := #[] }, { accessFlags := 66, nameIndex := 192, descriptorIndex := 224, attributes := #[] }, { accessFlags := 2, nameIndex := 217, descriptorIndex := 218, attributes := #[] }])
  fields := #[{ name := "CONTENT", type := (.object "java/lang/String"), accessFlags := 24, slot := 0, constantValue := 0 }, { name := "PRIMARY_TYPE", type := (.object "java/lang/String"), accessFlags := 26, slot := 1, constantValue := 0 }, { name := "MIME_TYPE", type := (.object "java/lang/String"), accessFlags := 26, slot := 2, constantValue := 0 }, { name := "DATA", type := (.object "java/lang/String"), accessFlags := 26, slot := 3, constantValue := 0 }, { name := "FOLDER_PROPERTIES", type := (.object "java/util/Map"), accessFlags := 26, slot := 4, constantValue := 0 }, { name := "FILE_TYPE", type := (.object "com/example/vareso/vareso/vault/PropertyValue"), accessFlags := 26, slot := 5, constantValue := 0 }, { name := "RESOURCE_TYPE", type := (.object "com/example/vareso/vareso/vault/PropertyValue"), accessFlags := 26, slot := 6, constantValue := 0 }, { name := "name", type := (.object "java/lang/String"), accessFlags := 18, slot := 0, constantValue := 0 }, { name := "properties", type := (.object "java/util/Map"), accessFlags := 18, slot := 1, constantValue := 0 }, { name := "children", type := (.object "java/util/Map"), accessFlags := 2, slot := 2, constantValue := 0 }, { name := "dottedNames", type := (.object "com/example/vareso/vareso/vault/DottedNames"), accessFlags := 66, slot := 3, constantValue := 0 }, { name := "placeholder", type := .boolean, accessFlags := 2, slot := 4, constantValue := 0 }]
  methods := #[k8m0]
  instanceTypes := #[(.object "java/lang/String"), (.object "java/util/Map"), (.object "java/util/Map"), (.object "com/example/vareso/vareso/vault/DottedNames"), .boolean]
  staticTypes := #[(.object "java/lang/String"), (.object "java/lang/String"), (.object "java/lang/String"), (.object "java/lang/String"), (.object "java/util/Map"), (.object "com/example/vareso/vareso/vault/PropertyValue"), (.object "com/example/vareso/vareso/vault/PropertyValue")]
  resolved := Array.replicate 340 none
  statics := none }

def pool9 : Array CpInfo := pool [(4, .class_ 6), (1, u "java/lang/Object"), (0, u "<init>"), (0, u "()V"), (5, .class_ 16), (1, u "java/lang/StringLatin1"), (21, .methodref 39 40), (0, .class_ 41), (0, .nameAndType 42 43), (0, u "java/lang/Math"), (0, u "min"), (0, u "(II)I"), (44, .methodref 14 89), (0, .nameAndType 90 91), (0, u "canEncode"), (0, u "(I)Z"), (0, .methodref 39 93), (0, .nameAndType 94 43), (0, u "max"), (0, .methodref 14 96), (0, .nameAndType 97 98), (0, u "indexOfChar"), (0, u "([BIII)I"), (2, u "indexOf"), (19, u "$assertionsDisabled"), (0, u "Z"), (98, .class_ 223), (1, u "java/lang/StringLatin1$LinesSpliterator"), (57, u "equals"), (0, u "([B[B)Z"), (107, .class_ 391), (0, u "java/lang/StringLatin1$CharsSpliterator")] 3

def k9m0 : Method := { name := "<init>", desc := "()V", sig := { parameters := [], returnType := none }, accessFlags := 0, code := none }
def k9c1 : Code := { maxStack := 2, maxLocals := 1, code := jdk_43_method_4_code, exceptionTable := #[], attributes := #[] }
def k9m1 : Method := { name := "canEncode", desc := "(I)Z", sig := { parameters := [.int], returnType := some .boolean }, accessFlags := 9, code := some k9c1 }
def k9c2 : Code := { maxStack := 3, maxLocals := 3, code := jdk_43_method_13_code, exceptionTable := #[], attributes := #[] }
def k9m2 : Method := { name := "equals", desc := "([B[B)Z", sig := { parameters := [(.array .byte), (.array .byte)], returnType := some .boolean }, accessFlags := 9, code := some k9c2 }
def k9c3 : Code := { maxStack := 4, maxLocals := 4, code := jdk_43_method_22_code, exceptionTable := #[], attributes := #[] }
def k9m3 : Method := { name := "indexOf", desc := "([BIII)I", sig := { parameters := [(.array .byte), .int, .int, .int], returnType := some .int }, accessFlags := 9, code := some k9c3 }
def k9c4 : Code := { maxStack := 2, maxLocals := 6, code := jdk_43_method_23_code, exceptionTable := #[], attributes := #[] }
def k9m4 : Method := { name := "indexOfChar", desc := "([BIII)I", sig := { parameters := [(.array .byte), .int, .int, .int], returnType := some .int }, accessFlags := 10, code := some k9c4 }
/-- java/lang/StringLatin1 -/
def k9 : Class := { plain "java/lang/StringLatin1" (some 0) with
  accessFlags := 48
  interfaces := #[]
  cf := some (fileOf pool9 14 #[.nestMembers #[390, 221]] #[{ accessFlags := 0, nameIndex := 7, descriptorIndex := 8, attributes := #[] }, { accessFlags := 9, nameIndex := 90, descriptorIndex := 91, attributes := #[] }, { accessFlags := 9, nameIndex := 281, descriptorIndex := 282, attributes := #[] }, { accessFlags := 9, nameIndex := 101, descriptorIndex := 98, attributes := #[] }, { accessFlags := 10, nameIndex := 97, descriptorIndex := 98, attributes := #[] }] 48 4 #[] #[{ accessFlags := 4120, nameIndex := 121, descriptorIndex := 122, attributes := #[] }])
  fields := #[{ name := "$assertionsDisabled", type := .boolean, accessFlags := 4120, slot := 0, constantValue := 0 }]
  methods := #[k9m0, k9m1, k9m2, k9m3, k9m4]
  instanceTypes := #[]
  staticTypes := #[.boolean]
  resolved := Array.replicate 395 none
  statics := none }

def pool10 : Array CpInfo := pool [(1, .class_ 2), (0, u "java/lang/Math"), (1, .class_ 6), (1, u "java/lang/Object"), (0, u "<init>"), (0, u "()V"), (89, .class_ 100), (1, u "java/lang/Math$RandomNumberGeneratorHolder"), (71, u "negativeZeroFloatBits"), (0, u "J"), (2, u "negativeZeroDoubleBits"), (21, u "max"), (2, u "min"), (43, u "$assertionsDisabled"), (0, u "Z"), (88, u "(II)I"), (2, u "twoToTheDoubleScaleDown"), (0, u "D"), (4, u "twoToTheDoubleScaleUp"), (9, u "E"), (3, u "PI"), (2, u "TAU"), (2, u "DEGREES_TO_RADIANS"), (0, u "RADIANS_TO_DEGREES")] 94

def k10m0 : Method := { name := "<init>", desc := "()V", sig := { parameters := [], returnType := none }, accessFlags := 2, code := none }
def k10c1 : Code := { maxStack := 2, maxLocals := 2, code := jdk_29_method_65_code, exceptionTable := #[], attributes := #[] }
def k10m1 : Method := { name := "max", desc := "(II)I", sig := { parameters := [.int, .int], returnType := some .int }, accessFlags := 9, code := some k10c1 }
def k10c2 : Code := { maxStack := 2, maxLocals := 2, code := jdk_29_method_69_code, exceptionTable := #[], attributes := #[] }
def k10m2 : Method := { name := "min", desc := "(II)I", sig := { parameters := [.int, .int], returnType := some .int }, accessFlags := 9, code := some k10c2 }
/-- java/lang/Math -/
def k10 : Class := { plain "java/lang/Math" (some 0) with
  accessFlags := 49
  interfaces := #[]
  cf := some (fileOf pool10 1 #[.nestMembers #[98]] #[{ accessFlags := 2, nameIndex := 7, descriptorIndex := 8, attributes := #[] }, { accessFlags := 9, nameIndex := 198, descriptorIndex := 335, attributes := #[] }, { accessFlags := 9, nameIndex := 201, descriptorIndex := 335, attributes := #[] }] 49 4 #[] #[{ accessFlags := 25, nameIndex := 354, descriptorIndex := 339, attributes := #[] }, { accessFlags := 25, nameIndex := 358, descriptorIndex := 339, attributes := #[] }, { accessFlags := 25, nameIndex := 361, descriptorIndex := 339, attributes := #[] }, { accessFlags := 26, nameIndex := 364, descriptorIndex := 339, attributes := #[] }, { accessFlags := 26, nameIndex := 365, descriptorIndex := 339, attributes := #[] }, { accessFlags := 26, nameIndex := 172, descriptorIndex := 173, attributes := #[] }, { accessFlags := 26, nameIndex := 176, descriptorIndex := 173, attributes := #[] }, { accessFlags := 8, nameIndex := 344, descriptorIndex := 339, attributes := #[] }, { accessFlags := 8, nameIndex := 338, descriptorIndex := 339, attributes := #[] }, { accessFlags := 4120, nameIndex := 245, descriptorIndex := 246, attributes := #[] }])
  fields := #[{ name := "E", type := .double, accessFlags := 25, slot := 0, constantValue := 0 }, { name := "PI", type := .double, accessFlags := 25, slot := 1, constantValue := 0 }, { name := "TAU", type := .double, accessFlags := 25, slot := 2, constantValue := 0 }, { name := "DEGREES_TO_RADIANS", type := .double, accessFlags := 26, slot := 3, constantValue := 0 }, { name := "RADIANS_TO_DEGREES", type := .double, accessFlags := 26, slot := 4, constantValue := 0 }, { name := "negativeZeroFloatBits", type := .long, accessFlags := 26, slot := 5, constantValue := 0 }, { name := "negativeZeroDoubleBits", type := .long, accessFlags := 26, slot := 6, constantValue := 0 }, { name := "twoToTheDoubleScaleUp", type := .double, accessFlags := 8, slot := 7, constantValue := 0 }, { name := "twoToTheDoubleScaleDown", type := .double, accessFlags := 8, slot := 8, constantValue := 0 }, { name := "$assertionsDisabled", type := .boolean, accessFlags := 4120, slot := 9, constantValue := 0 }]
  methods := #[k10m0, k10m1, k10m2]
  instanceTypes := #[]
  staticTypes := #[.double, .double, .double, .double, .double, .long, .long, .double, .double, .boolean]
  resolved := Array.replicate 460 none
  statics := none }

def pool11 : Array CpInfo := pool [(3, .class_ 4), (0, u "java/lang/String"), (1, .class_ 8), (1, u "java/lang/Object"), (0, u "<init>"), (0, u "()V"), (0, .methodref 12 13), (0, .class_ 14), (0, .nameAndType 15 16), (0, u "java/lang/StringUTF16"), (0, u "newBytesLength"), (0, u "(I)I"), (3, .integer 1073741823), (23, .fieldref 12 45), (0, .nameAndType 46 47), (0, u "$assertionsDisabled"), (0, u "Z"), (0, .methodref 12 49), (0, .nameAndType 50 51), (0, u "length"), (0, u "([B)I"), (7, .fieldref 12 60), (0, .nameAndType 61 62), (0, u "HI_BYTE_SHIFT"), (0, u "I"), (0, .fieldref 12 64), (0, .nameAndType 65 62), (0, u "LO_BYTE_SHIFT"), (5, .methodref 12 72), (0, .nameAndType 73 74), (0, u "getChar"), (0, u "([BI)C"), (21, .methodref 12 97), (0, .nameAndType 98 99), (0, u "checkBoundsBeginEnd"), (0, u "(II[B)V"), (7, .methodref 12 108), (0, .nameAndType 109 110), (0, u "newBytesFor"), (0, u "(I)[B"), (0, .methodref 12 112), (0, .nameAndType 113 114), (0, u "putChar"), (0, u "([BII)V"), (0, .methodref 12 116), (0, .nameAndType 117 118), (0, u "compress"), (0, u "([CI[BII)I"), (0, .methodref 12 120), (0, .nameAndType 121 122), (0, u "toBytes"), (0, u "([CII)[B"), (60, .methodref 184 185), (0, .class_ 186), (0, .nameAndType 187 188), (0, u "java/lang/Math"), (0, u "min"), (0, u "(II)I"), (35, .methodref 184 225), (0, .nameAndType 226 188), (0, u "max"), (0, .integer 65536), (0, .methodref 12 229), (0, .nameAndType 230 231), (0, u "indexOfChar"), (0, u "([BIII)I"), (9, .methodref 3 242), (0, .nameAndType 98 243), (0, u "(III)V"), (0, .methodref 12 245), (0, .nameAndType 246 231), (0, u "indexOfCharUnsafe"), (14, u "coderFromArrayLen"), (0, u "([BI)B"), (5, u "indexOf"), (100, .class_ 371), (1, u "java/lang/StringUTF16$LinesSpliterator"), (58, u "MAX_LENGTH"), (196, .class_ 628), (0, u "java/lang/StringUTF16$CodePointsSpliterator"), (0, .class_ 630), (0, u "java/lang/StringUTF16$CharsSpliterator")] 4

def k11m0 : Method := { name := "<init>", desc := "()V", sig := { parameters := [], returnType := none }, accessFlags := 0, code := none }
def k11c1 : Code := { maxStack := 1, maxLocals := 1, code := jdk_52_method_2_code, exceptionTable := #[], attributes := #[] }
def k11m1 : Method := { name := "newBytesFor", desc := "(I)[B", sig := { parameters := [.int], returnType := some (.array .byte) }, accessFlags := 9, code := some k11c1 }
def k11c2 : Code := { maxStack := 4, maxLocals := 1, code := jdk_52_method_3_code, exceptionTable := #[], attributes := #[] }
def k11m2 : Method := { name := "newBytesLength", desc := "(I)I", sig := { parameters := [.int], returnType := some .int }, accessFlags := 9, code := some k11c2 }
def k11c3 : Code := { maxStack := 4, maxLocals := 3, code := jdk_52_method_4_code, exceptionTable := #[], attributes := #[] }
def k11m3 : Method := { name := "putChar", desc := "([BII)V", sig := { parameters := [(.array .byte), .int, .int], returnType := none }, accessFlags := 8, code := some k11c3 }
def k11c4 : Code := { maxStack := 3, maxLocals := 2, code := jdk_52_method_5_code, exceptionTable := #[], attributes := #[] }
def k11m4 : Method := { name := "getChar", desc := "([BI)C", sig := { parameters := [(.array .byte), .int], returnType := some .char }, accessFlags := 8, code := some k11c4 }
def k11c5 : Code := { maxStack := 2, maxLocals := 1, code := jdk_52_method_6_code, exceptionTable := #[], attributes := #[] }
def k11m5 : Method := { name := "length", desc := "([B)I", sig := { parameters := [(.array .byte)], returnType := some .int }, accessFlags := 9, code := some k11c5 }
def k11c6 : Code := { maxStack := 4, maxLocals := 5, code := jdk_52_method_14_code, exceptionTable := #[], attributes := #[] }
def k11m6 : Method := { name := "toBytes", desc := "([CII)[B", sig := { parameters := [(.array .char), .int, .int], returnType := some (.array .byte) }, accessFlags := 9, code := some k11c6 }
def k11c7 : Code := { maxStack := 2, maxLocals := 2, code := jdk_52_method_15_code, exceptionTable := #[], attributes := #[] }
def k11m7 : Method := { name := "coderFromArrayLen", desc := "([BI)B", sig := { parameters := [(.array .byte), .int], returnType := some .byte }, accessFlags := 8, code := some k11c7 }
def k11c8 : Code := { maxStack := 5, maxLocals := 6, code := jdk_52_method_16_code, exceptionTable := #[], attributes := #[] }
def k11m8 : Method := { name := "compress", desc := "([CII)[B", sig := { parameters := [(.array .char), .int, .int], returnType := some (.array .byte) }, accessFlags := 9, code := some k11c8 }
def k11c9 : Code := { maxStack := 3, maxLocals := 7, code := jdk_52_method_21_code, exceptionTable := #[], attributes := #[] }
def k11m9 : Method := { name := "compress", desc := "([CI[BII)I", sig := { parameters := [(.array .char), .int, (.array .byte), .int, .int], returnType := some .int }, accessFlags := 9, code := some k11c9 }
def k11c10 : Code := { maxStack := 4, maxLocals := 4, code := jdk_52_method_40_code, exceptionTable := #[], attributes := #[] }
def k11m10 : Method := { name := "indexOf", desc := "([BIII)I", sig := { parameters := [(.array .byte), .int, .int, .int], returnType := some .int }, accessFlags := 9, code := some k11c10 }
def k11c11 : Code := { maxStack := 4, maxLocals := 4, code := jdk_52_method_47_code, exceptionTable := #[], attributes := #[] }
def k11m11 : Method := { name := "indexOfChar", desc := "([BIII)I", sig := { parameters := [(.array .byte), .int, .int, .int], returnType := some .int }, accessFlags := 10, code := some k11c11 }
def k11c12 : Code := { maxStack := 2, maxLocals := 5, code := jdk_52_method_48_code, exceptionTable := #[], attributes := #[] }
def k11m12 : Method := { name := "indexOfCharUnsafe", desc := "([BIII)I", sig := { parameters := [(.array .byte), .int, .int, .int], returnType := some .int }, accessFlags := 10, code := some k11c12 }
def k11c13 : Code := { maxStack := 3, maxLocals := 3, code := jdk_52_method_93_code, exceptionTable := #[], attributes := #[] }
def k11m13 : Method := { name := "checkBoundsBeginEnd", desc := "(II[B)V", sig := { parameters := [.int, .int, (.array .byte)], returnType := none }, accessFlags := 9, code := some k11c13 }
/-- java/lang/StringUTF16 -/
def k11 : Class := { plain "java/lang/StringUTF16" (some 0) with
  accessFlags := 48
  interfaces := #[]
  cf := some (fileOf pool11 12 #[.nestMembers #[627, 629, 369]] #[{ accessFlags := 0, nameIndex := 9, descriptorIndex := 10, attributes := #[] }, { accessFlags := 9, nameIndex := 109, descriptorIndex := 110, attributes := #[] }, { accessFlags := 9, nameIndex := 15, descriptorIndex := 16, attributes := #[] }, { accessFlags := 8, nameIndex := 113, descriptorIndex := 114, attributes := #[] }, { accessFlags := 8, nameIndex := 73, descriptorIndex := 74, attributes := #[] }, { accessFlags := 9, nameIndex := 50, descriptorIndex := 51, attributes := #[] }, { accessFlags := 9, nameIndex := 121, descriptorIndex := 122, attributes := #[] }, { accessFlags := 8, nameIndex := 261, descriptorIndex := 262, attributes := #[] }, { accessFlags := 9, nameIndex := 117, descriptorIndex := 122, attributes := #[] }, { accessFlags := 9, nameIndex := 117, descriptorIndex := 118, attributes := #[] }, { accessFlags := 9, nameIndex := 268, descriptorIndex := 231, attributes := #[] }, { accessFlags := 10, nameIndex := 230, descriptorIndex := 231, attributes := #[] }, { accessFlags := 10, nameIndex := 246, descriptorIndex := 231, attributes := #[] }, { accessFlags := 9, nameIndex := 98, descriptorIndex := 99, attributes := #[] }] 48 6 #[] #[{ accessFlags := 26, nameIndex := 61, descriptorIndex := 62, attributes := #[] }, { accessFlags := 26, nameIndex := 65, descriptorIndex := 62, attributes := #[] }, { accessFlags := 24, nameIndex := 430, descriptorIndex := 62, attributes := #[] }, { accessFlags := 4120, nameIndex := 46, descriptorIndex := 47, attributes := #[] }])
  fields := #[{ name := "HI_BYTE_SHIFT", type := .int, accessFlags := 26, slot := 0, constantValue := 0 }, { name := "LO_BYTE_SHIFT", type := .int, accessFlags := 26, slot := 1, constantValue := 0 }, { name := "MAX_LENGTH", type := .int, accessFlags := 24, slot := 2, constantValue := 0 }, { name := "$assertionsDisabled", type := .boolean, accessFlags := 4120, slot := 3, constantValue := 0 }]
  methods := #[k11m0, k11m1, k11m2, k11m3, k11m4, k11m5, k11m6, k11m7, k11m8, k11m9, k11m10, k11m11, k11m12, k11m13]
  instanceTypes := #[]
  staticTypes := #[.int, .int, .int, .boolean]
  resolved := Array.replicate 635 none
  statics := some 1 }

def pool12 : Array CpInfo := pool [(2, .class_ 4), (1, u "java/lang/Object"), (0, u "<init>"), (0, u "()V"), (17, .class_ 26), (1, u "jdk/internal/util/Preconditions"), (20, u "checkFromToIndex"), (7, .class_ 56), (0, u "jdk/internal/util/Preconditions$4"), (57, .class_ 115), (0, u "jdk/internal/util/Preconditions$1"), (7, u "SIOOBE_FORMATTER"), (0, u "Ljava/util/function/BiFunction;"), (0, .class_ 126), (0, u "jdk/internal/util/Preconditions$2"), (3, u "AIOOBE_FORMATTER"), (0, .class_ 132), (0, u "jdk/internal/util/Preconditions$3"), (3, u "IOOBE_FORMATTER"), (46, u "(IIILjava/util/function/BiFunction;)I")] 10

def k12m0 : Method := { name := "<init>", desc := "()V", sig := { parameters := [], returnType := none }, accessFlags := 1, code := none }
def k12c1 : Code := { maxStack := 4, maxLocals := 4, code := jdk_41_method_12_code, exceptionTable := #[], attributes := #[] }
def k12m1 : Method := { name := "checkFromToIndex", desc := "(IIILjava/util/function/BiFunction;)I", sig := { parameters := [.int, .int, .int, (.object "java/util/function/BiFunction")], returnType := some .int }, accessFlags := 9, code := some k12c1 }
/-- jdk/internal/util/Preconditions -/
def k12 : Class := { plain "jdk/internal/util/Preconditions" (some 0) with
  accessFlags := 33
  interfaces := #[]
  cf := some (fileOf pool12 24 #[.nestMembers #[55, 131, 125, 114]] #[{ accessFlags := 1, nameIndex := 5, descriptorIndex := 6, attributes := #[] }, { accessFlags := 9, nameIndex := 47, descriptorIndex := 183, attributes := #[] }] 33 2 #[] #[{ accessFlags := 25, nameIndex := 123, descriptorIndex := 124, attributes := #[] }, { accessFlags := 25, nameIndex := 130, descriptorIndex := 124, attributes := #[] }, { accessFlags := 25, nameIndex := 136, descriptorIndex := 124, attributes := #[] }])
  fields := #[{ name := "SIOOBE_FORMATTER", type := (.object "java/util/function/BiFunction"), accessFlags := 25, slot := 0, constantValue := 0 }, { name := "AIOOBE_FORMATTER", type := (.object "java/util/function/BiFunction"), accessFlags := 25, slot := 1, constantValue := 0 }, { name := "IOOBE_FORMATTER", type := (.object "java/util/function/BiFunction"), accessFlags := 25, slot := 2, constantValue := 0 }]
  methods := #[k12m0, k12m1]
  instanceTypes := #[]
  staticTypes := #[(.object "java/util/function/BiFunction"), (.object "java/util/function/BiFunction"), (.object "java/util/function/BiFunction")]
  resolved := Array.replicate 194 none
  statics := some 2 }

def pool13 : Array CpInfo := pool [(9, u "<init>"), (6, .class_ 18), (1, u "java/lang/Object"), (0, u "()V"), (1, .class_ 23), (1, u "jdk/internal/util/ArraysSupport"), (0, u "LOG2_ARRAY_LONG_INDEX_SCALE"), (0, u "I"), (2, u "U"), (0, u "Ljdk/internal/misc/Unsafe;"), (8, u "BIG_ENDIAN"), (0, u "Z"), (8, u "LOG2_BYTE_BIT_SIZE"), (4, u "LOG2_ARRAY_INT_INDEX_SCALE"), (54, u "JLA"), (0, u "Ljdk/internal/access/JavaLangAccess;"), (11, u "LOG2_ARRAY_BOOLEAN_INDEX_SCALE"), (9, u "LOG2_ARRAY_BYTE_INDEX_SCALE"), (5, u "LOG2_ARRAY_CHAR_INDEX_SCALE"), (5, u "LOG2_ARRAY_SHORT_INDEX_SCALE"), (18, u "LOG2_ARRAY_FLOAT_INDEX_SCALE"), (24, u "LOG2_ARRAY_DOUBLE_INDEX_SCALE"), (89, u "T_BOOLEAN"), (2, u "T_CHAR"), (1, u "T_FLOAT"), (1, u "T_DOUBLE"), (1, u "T_BYTE"), (1, u "T_SHORT"), (1, u "T_INT"), (1, u "T_LONG"), (1, u "SOFT_MAX_ARRAY_LENGTH")] 83

def k13m0 : Method := { name := "<init>", desc := "()V", sig := { parameters := [], returnType := none }, accessFlags := 2, code := none }
/-- jdk/internal/util/ArraysSupport -/
def k13 : Class := { plain "jdk/internal/util/ArraysSupport" (some 0) with
  accessFlags := 33
  interfaces := #[]
  cf := some (fileOf pool13 21 #[] #[{ accessFlags := 2, nameIndex := 9, descriptorIndex := 19, attributes := #[] }] 33 16 #[] #[{ accessFlags := 24, nameIndex := 28, descriptorIndex := 29, attributes := #[] }, { accessFlags := 26, nameIndex := 38, descriptorIndex := 39, attributes := #[] }, { accessFlags := 25, nameIndex := 121, descriptorIndex := 25, attributes := #[] }, { accessFlags := 25, nameIndex := 131, descriptorIndex := 25, attributes := #[] }, { accessFlags := 25, nameIndex := 137, descriptorIndex := 25, attributes := #[] }, { accessFlags := 25, nameIndex := 143, descriptorIndex := 25, attributes := #[] }, { accessFlags := 25, nameIndex := 53, descriptorIndex := 25, attributes := #[] }, { accessFlags := 25, nameIndex := 24, descriptorIndex := 25, attributes := #[] }, { accessFlags := 25, nameIndex := 162, descriptorIndex := 25, attributes := #[] }, { accessFlags := 25, nameIndex := 187, descriptorIndex := 25, attributes := #[] }, { accessFlags := 26, nameIndex := 48, descriptorIndex := 25, attributes := #[] }, { accessFlags := 25, nameIndex := 277, descriptorIndex := 25, attributes := #[] }, { accessFlags := 25, nameIndex := 280, descriptorIndex := 25, attributes := #[] }, { accessFlags := 25, nameIndex := 282, descriptorIndex := 25, attributes := #[] }, { accessFlags := 25, nameIndex := 284, descriptorIndex := 25, attributes := #[] }, { accessFlags := 25, nameIndex := 286, descriptorIndex := 25, attributes := #[] }, { accessFlags := 25, nameIndex := 288, descriptorIndex := 25, attributes := #[] }, { accessFlags := 25, nameIndex := 290, descriptorIndex := 25, attributes := #[] }, { accessFlags := 25, nameIndex := 292, descriptorIndex := 25, attributes := #[] }, { accessFlags := 26, nameIndex := 108, descriptorIndex := 109, attributes := #[] }, { accessFlags := 25, nameIndex := 294, descriptorIndex := 25, attributes := #[] }])
  fields := #[{ name := "U", type := (.object "jdk/internal/misc/Unsafe"), accessFlags := 24, slot := 0, constantValue := 0 }, { name := "BIG_ENDIAN", type := .boolean, accessFlags := 26, slot := 1, constantValue := 0 }, { name := "LOG2_ARRAY_BOOLEAN_INDEX_SCALE", type := .int, accessFlags := 25, slot := 2, constantValue := 0 }, { name := "LOG2_ARRAY_BYTE_INDEX_SCALE", type := .int, accessFlags := 25, slot := 3, constantValue := 0 }, { name := "LOG2_ARRAY_CHAR_INDEX_SCALE", type := .int, accessFlags := 25, slot := 4, constantValue := 0 }, { name := "LOG2_ARRAY_SHORT_INDEX_SCALE", type := .int, accessFlags := 25, slot := 5, constantValue := 0 }, { name := "LOG2_ARRAY_INT_INDEX_SCALE", type := .int, accessFlags := 25, slot := 6, constantValue := 0 }, { name := "LOG2_ARRAY_LONG_INDEX_SCALE", type := .int, accessFlags := 25, slot := 7, constantValue := 0 }, { name := "LOG2_ARRAY_FLOAT_INDEX_SCALE", type := .int, accessFlags := 25, slot := 8, constantValue := 0 }, { name := "LOG2_ARRAY_DOUBLE_INDEX_SCALE", type := .int, accessFlags := 25, slot := 9, constantValue := 0 }, { name := "LOG2_BYTE_BIT_SIZE", type := .int, accessFlags := 26, slot := 10, constantValue := 0 }, { name := "T_BOOLEAN", type := .int, accessFlags := 25, slot := 11, constantValue := 0 }, { name := "T_CHAR", type := .int, accessFlags := 25, slot := 12, constantValue := 0 }, { name := "T_FLOAT", type := .int, accessFlags := 25, slot := 13, constantValue := 0 }, { name := "T_DOUBLE", type := .int, accessFlags := 25, slot := 14, constantValue := 0 }, { name := "T_BYTE", type := .int, accessFlags := 25, slot := 15, constantValue := 0 }, { name := "T_SHORT", type := .int, accessFlags := 25, slot := 16, constantValue := 0 }, { name := "T_INT", type := .int, accessFlags := 25, slot := 17, constantValue := 0 }, { name := "T_LONG", type := .int, accessFlags := 25, slot := 18, constantValue := 0 }, { name := "JLA", type := (.object "jdk/internal/access/JavaLangAccess"), accessFlags := 26, slot := 19, constantValue := 0 }, { name := "SOFT_MAX_ARRAY_LENGTH", type := .int, accessFlags := 25, slot := 20, constantValue := 0 }]
  methods := #[k13m0]
  instanceTypes := #[]
  staticTypes := #[(.object "jdk/internal/misc/Unsafe"), .boolean, .int, .int, .int, .int, .int, .int, .int, .int, .int, .int, .int, .int, .int, .int, .int, .int, .int, (.object "jdk/internal/access/JavaLangAccess"), .int]
  resolved := Array.replicate 378 none
  statics := none }

def pool14 : Array CpInfo := pool [(1, u "java/lang/Cloneable"), (0, .class_ 1), (0, u "java/lang/Object"), (0, .class_ 3)] 3

/-- java/lang/Cloneable -/
def k14 : Class := { plain "java/lang/Cloneable" (some 0) with
  accessFlags := 1537
  interfaces := #[]
  cf := some (fileOf pool14 2 #[] #[] 1537 4 #[] #[])
  fields := #[]
  methods := #[]
  instanceTypes := #[]
  staticTypes := #[]
  resolved := Array.replicate 8 none
  statics := none }

/-- the primitive byte -/
def k15 : Class := { plain "byte" none with kind := .primitive 'B', accessFlags := 0x411 }
/-- [B -/
def k16 : Class := { plain "[B" (some 0) with kind := .array 15 .byte, interfaces := #[14, 2], accessFlags := 1041 }

/-- the primitive char -/
def k17 : Class := { plain "char" none with kind := .primitive 'C', accessFlags := 0x411 }
/-- [C -/
def k18 : Class := { plain "[C" (some 0) with kind := .array 17 .char, interfaces := #[14, 2], accessFlags := 1041 }

/-- the primitive int -/
def k19 : Class := { plain "int" none with kind := .primitive 'I', accessFlags := 0x411 }
/-- [I -/
def k20 : Class := { plain "[I" (some 0) with kind := .array 19 .int, interfaces := #[14, 2], accessFlags := 1041 }

def heap : Heap := #[{ cls := 7, slots := #[.long 0, .int 1, .null, .int 0, .null, .int 0, .int 0], vm := .statics 7 },
  { cls := 11, slots := #[.int 0, .int 8, .int 0, .int 1], vm := .statics 11 },
  { cls := 12, slots := #[.null, .null, .null], vm := .statics 12 }]
def classes : Array Class := #[k0, k1, k2, k3, k4, k5, k6, k7, k8, k9, k10, k11, k12, k13, k14, k15, k16, k17, k18, k19, k20]
def interned : List (Array UInt16 × Addr) := []
def slotsUsed : Nat := 14
def theMethod : MethodId := ⟨1, 1⟩
def args0 : Array Value := #[.int 5, .int 47, .int 46, .int 65, .int 66]
def aboutOver (below : List Frame) : State where
  vm := { classes := classes, interned := interned.toArray }
  heap := heap
  slotsUsed := slotsUsed
  threads := #[{ frames := .invoking theMethod args0 :: below }]
def below0 : List Frame := [.native { method := ⟨0, 0⟩, args := #[] }]
def about1 : State := aboutOver below0
def p0 : Program := .bare "" "" ""
def e0 : Env := launch0.env 0 0 0
theorem w_frames : about1.frames = Frame.invoking theMethod args0 :: below0 := rfl
set_option maxRecDepth 65536 in
theorem w_args : argsFit about1.vm theMethod args0 = true := by decide +kernel
set_option maxRecDepth 65536 in
theorem w_heap : heapFits about1 = true := by decide +kernel
set_option maxRecDepth 65536 in
theorem w_runnable : about1.curStatus? = some .runnable := by decide +kernel
set_option maxRecDepth 65536 in
theorem w_alone : about1.alone = true := by decide +kernel
set_option maxRecDepth 65536 in
theorem w_named : about1.methodNamed? x = some theMethod := by decide +kernel
set_option maxRecDepth 65536 in
theorem w_hears : about1.hears theMethod below0 = true := by decide +kernel
set_option maxRecDepth 65536 in
theorem w_ripe : about1.ripe theMethod args0 below0 = true := by decide +kernel
theorem w_running : about1.status = .running := rfl
set_option maxRecDepth 65536 in
theorem w_room : about1.hasRoom e0.platform room_1 = true :=
  launch0.hasRoom_least _ room_1 (by decide +kernel) (by decide +kernel) (by decide +kernel) (by decide +kernel) (by decide +kernel) (by decide +kernel)
theorem allAtoms_all (ts : List Jvm.Cond) (a : Array Jvm.Value) (st : Jvm.State) : (allAtoms ts).before a st = ts.all (fun c => c.before a st) := by
  induction ts with
  | nil => rfl
  | cons c t ih =>
    show (Jvm.Cond.and c (allAtoms t)).before a st = _
    rw [Jvm.Cond.before_and, ih, List.all_cons]
def words1 : List Jvm.Cond := Jvm.Cond.code x code maxLocals ret :: tables_1
/-- a 'code' word, met by the world's own term for the bytes: nothing is compared byte by byte -/
theorem code_word {y : MethodName} {bytes : ByteArray} {mx : Nat} {rt : Option FieldType} {a : Array Value} {s : State} {m : MethodId} {meth : Method} {c : Code} (h1 : s.methodNamed? y = some m) (h2 : s.vm.method? m = some meth) (h3 : meth.code = some c) (h4 : c.code = bytes)
    (h5 : (c.maxLocals == mx && c.exceptionTable.isEmpty && decide (c.maxStack ≤ mostOperands) && decide (meth.sig.returnType = rt) && !meth.locks && decide (parseMethodDescriptor y.desc = some meth.sig)) = true) : (Jvm.Cond.code y bytes mx rt).before a s = true := by
  simp only [Bool.and_eq_true, beq_iff_eq, Bool.not_eq_true', decide_eq_true_eq] at h5
  obtain ⟨⟨⟨⟨⟨g1, g2⟩, g3⟩, g4⟩, g5⟩, g6⟩ := h5
  simp [Cond.before, Cond.holds, Cond.value, h1, h2, h3, h4, g1, g2, g3, g4, g5, g6]
def isCode : Jvm.Cond → Bool
  | .code _ _ _ _ => true
  | _ => false
theorem all_split {L : List Jvm.Cond} {P : Jvm.Cond → Bool} (h1 : L.all (fun c => isCode c || P c) = true) (h2 : ∀ c ∈ L.filter isCode, P c = true) : L.all P = true := by
  refine List.all_eq_true.mpr fun c hc => ?_
  have h := List.all_eq_true.mp h1 c hc
  rcases Bool.eq_false_or_eq_true (isCode c) with hi | hi
  · exact h2 c (List.mem_filter.mpr ⟨hc, hi⟩)
  · simpa [hi] using h
set_option maxRecDepth 65536 in
theorem w_c0 : (Jvm.Cond.code x code maxLocals ret).before args0 about1 = true := code_word (m := ⟨1, 1⟩) (meth := k1m1) (c := k1c1) (by decide +kernel) rfl rfl rfl (by decide +kernel)
set_option maxRecDepth 65536 in
theorem w_c1 : (Jvm.Cond.code ({ cls := "java/lang/String", name := "<init>", desc := "([C)V" } : Jvm.MethodName) jdk_42_method_3_code (2 : Nat) (Option.none : Option Jvm.ClassFile.FieldType)).before args0 about1 = true := code_word (m := ⟨7, 1⟩) (meth := k7m1) (c := k7c1) (by decide +kernel) rfl rfl rfl (by decide +kernel)
set_option maxRecDepth 65536 in
theorem w_c2 : (Jvm.Cond.code ({ cls := "java/lang/String", name := "<init>", desc := "([CIILjava/lang/Void;)V" } : Jvm.MethodName) jdk_42_method_149_code (6 : Nat) (Option.none : Option Jvm.ClassFile.FieldType)).before args0 about1 = true := code_word (m := ⟨7, 6⟩) (meth := k7m6) (c := k7c6) (by decide +kernel) rfl rfl rfl (by decide +kernel)
set_option maxRecDepth 65536 in
theorem w_c3 : (Jvm.Cond.code ({ cls := "java/lang/Object", name := "<init>", desc := "()V" } : Jvm.MethodName) object_method_1_code (1 : Nat) (Option.none : Option Jvm.ClassFile.FieldType)).before args0 about1 = true := code_word (m := ⟨0, 0⟩) (meth := k0m0) (c := k0c0) (by decide +kernel) rfl rfl rfl (by decide +kernel)
set_option maxRecDepth 65536 in
theorem w_c4 : (Jvm.Cond.code ({ cls := "com/example/vareso/vareso/vault/ContentNode", name := "isChildName", desc := "(Ljava/lang/String;)Z" } : Jvm.MethodName) prog_74_method_15_code (1 : Nat) (Option.some Jvm.ClassFile.FieldType.boolean)).before args0 about1 = true := code_word (m := ⟨8, 0⟩) (meth := k8m0) (c := k8c0) (by decide +kernel) rfl rfl rfl (by decide +kernel)
set_option maxRecDepth 65536 in
theorem w_c5 : (Jvm.Cond.code ({ cls := "java/lang/String", name := "equals", desc := "(Ljava/lang/Object;)Z" } : Jvm.MethodName) jdk_42_method_66_code (3 : Nat) (Option.some Jvm.ClassFile.FieldType.boolean)).before args0 about1 = true := code_word (m := ⟨7, 3⟩) (meth := k7m3) (c := k7c3) (by decide +kernel) rfl rfl rfl (by decide +kernel)
set_option maxRecDepth 65536 in
theorem w_c6 : (Jvm.Cond.code ({ cls := "java/lang/StringLatin1", name := "equals", desc := "([B[B)Z" } : Jvm.MethodName) jdk_43_method_13_code (3 : Nat) (Option.some Jvm.ClassFile.FieldType.boolean)).before args0 about1 = true := code_word (m := ⟨9, 2⟩) (meth := k9m2) (c := k9c2) (by decide +kernel) rfl rfl rfl (by decide +kernel)
set_option maxRecDepth 65536 in
theorem w_c7 : (Jvm.Cond.code ({ cls := "java/lang/String", name := "indexOf", desc := "(I)I" } : Jvm.MethodName) jdk_42_method_79_code (2 : Nat) (Option.some Jvm.ClassFile.FieldType.int)).before args0 about1 = true := code_word (m := ⟨7, 4⟩) (meth := k7m4) (c := k7c4) (by decide +kernel) rfl rfl rfl (by decide +kernel)
set_option maxRecDepth 65536 in
theorem w_c8 : (Jvm.Cond.code ({ cls := "java/lang/String", name := "indexOf", desc := "(II)I" } : Jvm.MethodName) jdk_42_method_80_code (3 : Nat) (Option.some Jvm.ClassFile.FieldType.int)).before args0 about1 = true := code_word (m := ⟨7, 5⟩) (meth := k7m5) (c := k7c5) (by decide +kernel) rfl rfl rfl (by decide +kernel)
set_option maxRecDepth 65536 in
theorem w_c9 : (Jvm.Cond.code ({ cls := "java/lang/String", name := "isLatin1", desc := "()Z" } : Jvm.MethodName) jdk_42_method_154_code (1 : Nat) (Option.some Jvm.ClassFile.FieldType.boolean)).before args0 about1 = true := code_word (m := ⟨7, 8⟩) (meth := k7m8) (c := k7c8) (by decide +kernel) rfl rfl rfl (by decide +kernel)
set_option maxRecDepth 65536 in
theorem w_c10 : (Jvm.Cond.code ({ cls := "java/lang/String", name := "length", desc := "()I" } : Jvm.MethodName) jdk_42_method_54_code (1 : Nat) (Option.some Jvm.ClassFile.FieldType.int)).before args0 about1 = true := code_word (m := ⟨7, 2⟩) (meth := k7m2) (c := k7c2) (by decide +kernel) rfl rfl rfl (by decide +kernel)
set_option maxRecDepth 65536 in
theorem w_c11 : (Jvm.Cond.code ({ cls := "java/lang/String", name := "coder", desc := "()B" } : Jvm.MethodName) jdk_42_method_152_code (1 : Nat) (Option.some Jvm.ClassFile.FieldType.byte)).before args0 about1 = true := code_word (m := ⟨7, 7⟩) (meth := k7m7) (c := k7c7) (by decide +kernel) rfl rfl rfl (by decide +kernel)
set_option maxRecDepth 65536 in
theorem w_c12 : (Jvm.Cond.code ({ cls := "java/lang/StringLatin1", name := "indexOf", desc := "([BIII)I" } : Jvm.MethodName) jdk_43_method_22_code (4 : Nat) (Option.some Jvm.ClassFile.FieldType.int)).before args0 about1 = true := code_word (m := ⟨9, 3⟩) (meth := k9m3) (c := k9c3) (by decide +kernel) rfl rfl rfl (by decide +kernel)
set_option maxRecDepth 65536 in
theorem w_c13 : (Jvm.Cond.code ({ cls := "java/lang/StringLatin1", name := "canEncode", desc := "(I)Z" } : Jvm.MethodName) jdk_43_method_4_code (1 : Nat) (Option.some Jvm.ClassFile.FieldType.boolean)).before args0 about1 = true := code_word (m := ⟨9, 1⟩) (meth := k9m1) (c := k9c1) (by decide +kernel) rfl rfl rfl (by decide +kernel)
set_option maxRecDepth 65536 in
theorem w_c14 : (Jvm.Cond.code ({ cls := "java/lang/Math", name := "max", desc := "(II)I" } : Jvm.MethodName) jdk_29_method_65_code (2 : Nat) (Option.some Jvm.ClassFile.FieldType.int)).before args0 about1 = true := code_word (m := ⟨10, 1⟩) (meth := k10m1) (c := k10c1) (by decide +kernel) rfl rfl rfl (by decide +kernel)
set_option maxRecDepth 65536 in
theorem w_c15 : (Jvm.Cond.code ({ cls := "java/lang/Math", name := "min", desc := "(II)I" } : Jvm.MethodName) jdk_29_method_69_code (2 : Nat) (Option.some Jvm.ClassFile.FieldType.int)).before args0 about1 = true := code_word (m := ⟨10, 2⟩) (meth := k10m2) (c := k10c2) (by decide +kernel) rfl rfl rfl (by decide +kernel)
set_option maxRecDepth 65536 in
theorem w_c16 : (Jvm.Cond.code ({ cls := "java/lang/StringUTF16", name := "compress", desc := "([CII)[B" } : Jvm.MethodName) jdk_52_method_16_code (6 : Nat) (Option.some (Jvm.ClassFile.FieldType.array Jvm.ClassFile.FieldType.byte))).before args0 about1 = true := code_word (m := ⟨11, 8⟩) (meth := k11m8) (c := k11c8) (by decide +kernel) rfl rfl rfl (by decide +kernel)
set_option maxRecDepth 65536 in
theorem w_c17 : (Jvm.Cond.code ({ cls := "java/lang/StringUTF16", name := "compress", desc := "([CI[BII)I" } : Jvm.MethodName) jdk_52_method_21_code (7 : Nat) (Option.some Jvm.ClassFile.FieldType.int)).before args0 about1 = true := code_word (m := ⟨11, 9⟩) (meth := k11m9) (c := k11c9) (by decide +kernel) rfl rfl rfl (by decide +kernel)
set_option maxRecDepth 65536 in
theorem w_c18 : (Jvm.Cond.code ({ cls := "java/lang/StringUTF16", name := "coderFromArrayLen", desc := "([BI)B" } : Jvm.MethodName) jdk_52_method_15_code (2 : Nat) (Option.some Jvm.ClassFile.FieldType.byte)).before args0 about1 = true := code_word (m := ⟨11, 7⟩) (meth := k11m7) (c := k11c7) (by decide +kernel) rfl rfl rfl (by decide +kernel)
set_option maxRecDepth 65536 in
theorem w_c19 : (Jvm.Cond.code ({ cls := "java/lang/StringLatin1", name := "indexOfChar", desc := "([BIII)I" } : Jvm.MethodName) jdk_43_method_23_code (6 : Nat) (Option.some Jvm.ClassFile.FieldType.int)).before args0 about1 = true := code_word (m := ⟨9, 4⟩) (meth := k9m4) (c := k9c4) (by decide +kernel) rfl rfl rfl (by decide +kernel)
set_option maxRecDepth 65536 in
theorem w_c20 : (Jvm.Cond.code ({ cls := "java/lang/StringUTF16", name := "toBytes", desc := "([CII)[B" } : Jvm.MethodName) jdk_52_method_14_code (5 : Nat) (Option.some (Jvm.ClassFile.FieldType.array Jvm.ClassFile.FieldType.byte))).before args0 about1 = true := code_word (m := ⟨11, 6⟩) (meth := k11m6) (c := k11c6) (by decide +kernel) rfl rfl rfl (by decide +kernel)
set_option maxRecDepth 65536 in
theorem w_c21 : (Jvm.Cond.code ({ cls := "java/lang/StringUTF16", name := "newBytesFor", desc := "(I)[B" } : Jvm.MethodName) jdk_52_method_2_code (1 : Nat) (Option.some (Jvm.ClassFile.FieldType.array Jvm.ClassFile.FieldType.byte))).before args0 about1 = true := code_word (m := ⟨11, 1⟩) (meth := k11m1) (c := k11c1) (by decide +kernel) rfl rfl rfl (by decide +kernel)
set_option maxRecDepth 65536 in
theorem w_c22 : (Jvm.Cond.code ({ cls := "java/lang/StringUTF16", name := "newBytesLength", desc := "(I)I" } : Jvm.MethodName) jdk_52_method_3_code (1 : Nat) (Option.some Jvm.ClassFile.FieldType.int)).before args0 about1 = true := code_word (m := ⟨11, 2⟩) (meth := k11m2) (c := k11c2) (by decide +kernel) rfl rfl rfl (by decide +kernel)
set_option maxRecDepth 65536 in
theorem w_c23 : (Jvm.Cond.code ({ cls := "java/lang/StringUTF16", name := "putChar", desc := "([BII)V" } : Jvm.MethodName) jdk_52_method_4_code (3 : Nat) (Option.none : Option Jvm.ClassFile.FieldType)).before args0 about1 = true := code_word (m := ⟨11, 3⟩) (meth := k11m3) (c := k11c3) (by decide +kernel) rfl rfl rfl (by decide +kernel)
set_option maxRecDepth 65536 in
theorem w_c24 : (Jvm.Cond.code ({ cls := "java/lang/StringUTF16", name := "getChar", desc := "([BI)C" } : Jvm.MethodName) jdk_52_method_5_code (2 : Nat) (Option.some Jvm.ClassFile.FieldType.char)).before args0 about1 = true := code_word (m := ⟨11, 4⟩) (meth := k11m4) (c := k11c4) (by decide +kernel) rfl rfl rfl (by decide +kernel)
set_option maxRecDepth 65536 in
theorem w_c25 : (Jvm.Cond.code ({ cls := "java/lang/StringUTF16", name := "indexOf", desc := "([BIII)I" } : Jvm.MethodName) jdk_52_method_40_code (4 : Nat) (Option.some Jvm.ClassFile.FieldType.int)).before args0 about1 = true := code_word (m := ⟨11, 10⟩) (meth := k11m10) (c := k11c10) (by decide +kernel) rfl rfl rfl (by decide +kernel)
set_option maxRecDepth 65536 in
theorem w_c26 : (Jvm.Cond.code ({ cls := "java/lang/StringUTF16", name := "indexOfChar", desc := "([BIII)I" } : Jvm.MethodName) jdk_52_method_47_code (4 : Nat) (Option.some Jvm.ClassFile.FieldType.int)).before args0 about1 = true := code_word (m := ⟨11, 11⟩) (meth := k11m11) (c := k11c11) (by decide +kernel) rfl rfl rfl (by decide +kernel)
set_option maxRecDepth 65536 in
theorem w_c27 : (Jvm.Cond.code ({ cls := "java/lang/StringUTF16", name := "checkBoundsBeginEnd", desc := "(II[B)V" } : Jvm.MethodName) jdk_52_method_93_code (3 : Nat) (Option.none : Option Jvm.ClassFile.FieldType)).before args0 about1 = true := code_word (m := ⟨11, 13⟩) (meth := k11m13) (c := k11c13) (by decide +kernel) rfl rfl rfl (by decide +kernel)
set_option maxRecDepth 65536 in
theorem w_c28 : (Jvm.Cond.code ({ cls := "java/lang/StringUTF16", name := "length", desc := "([B)I" } : Jvm.MethodName) jdk_52_method_6_code (1 : Nat) (Option.some Jvm.ClassFile.FieldType.int)).before args0 about1 = true := code_word (m := ⟨11, 5⟩) (meth := k11m5) (c := k11c5) (by decide +kernel) rfl rfl rfl (by decide +kernel)
set_option maxRecDepth 65536 in
theorem w_c29 : (Jvm.Cond.code ({ cls := "java/lang/String", name := "checkBoundsBeginEnd", desc := "(III)V" } : Jvm.MethodName) jdk_42_method_158_code (3 : Nat) (Option.none : Option Jvm.ClassFile.FieldType)).before args0 about1 = true := code_word (m := ⟨7, 9⟩) (meth := k7m9) (c := k7c9) (by decide +kernel) rfl rfl rfl (by decide +kernel)
set_option maxRecDepth 65536 in
theorem w_c30 : (Jvm.Cond.code ({ cls := "jdk/internal/util/Preconditions", name := "checkFromToIndex", desc := "(IIILjava/util/function/BiFunction;)I" } : Jvm.MethodName) jdk_41_method_12_code (4 : Nat) (Option.some Jvm.ClassFile.FieldType.int)).before args0 about1 = true := code_word (m := ⟨12, 1⟩) (meth := k12m1) (c := k12c1) (by decide +kernel) rfl rfl rfl (by decide +kernel)
set_option maxRecDepth 65536 in
theorem w_c31 : (Jvm.Cond.code ({ cls := "java/lang/StringUTF16", name := "indexOfCharUnsafe", desc := "([BIII)I" } : Jvm.MethodName) jdk_52_method_48_code (5 : Nat) (Option.some Jvm.ClassFile.FieldType.int)).before args0 about1 = true := code_word (m := ⟨11, 12⟩) (meth := k11m12) (c := k11c12) (by decide +kernel) rfl rfl rfl (by decide +kernel)
def codes1 : List Jvm.Cond := [Jvm.Cond.code x code maxLocals ret, Jvm.Cond.code ({ cls := "java/lang/String", name := "<init>", desc := "([C)V" } : Jvm.MethodName) jdk_42_method_3_code (2 : Nat) (Option.none : Option Jvm.ClassFile.FieldType), Jvm.Cond.code ({ cls := "java/lang/String", name := "<init>", desc := "([CIILjava/lang/Void;)V" } : Jvm.MethodName) jdk_42_method_149_code (6 : Nat) (Option.none : Option Jvm.ClassFile.FieldType), Jvm.Cond.code ({ cls := "java/lang/Object", name := "<init>", desc := "()V" } : Jvm.MethodName) object_method_1_code (1 : Nat) (Option.none : Option Jvm.ClassFile.FieldType), Jvm.Cond.code ({ cls := "com/example/vareso/vareso/vault/ContentNode", name := "isChildName", desc := "(Ljava/lang/String;)Z" } : Jvm.MethodName) prog_74_method_15_code (1 : Nat) (Option.some Jvm.ClassFile.FieldType.boolean), Jvm.Cond.code ({ cls := "java/lang/String", name := "equals", desc := "(Ljava/lang/Object;)Z" } : Jvm.MethodName) jdk_42_method_66_code (3 : Nat) (Option.some Jvm.ClassFile.FieldType.boolean), Jvm.Cond.code ({ cls := "java/lang/StringLatin1", name := "equals", desc := "([B[B)Z" } : Jvm.MethodName) jdk_43_method_13_code (3 : Nat) (Option.some Jvm.ClassFile.FieldType.boolean), Jvm.Cond.code ({ cls := "java/lang/String", name := "indexOf", desc := "(I)I" } : Jvm.MethodName) jdk_42_method_79_code (2 : Nat) (Option.some Jvm.ClassFile.FieldType.int), Jvm.Cond.code ({ cls := "java/lang/String", name := "indexOf", desc := "(II)I" } : Jvm.MethodName) jdk_42_method_80_code (3 : Nat) (Option.some Jvm.ClassFile.FieldType.int), Jvm.Cond.code ({ cls := "java/lang/String", name := "isLatin1", desc := "()Z" } : Jvm.MethodName) jdk_42_method_154_code (1 : Nat) (Option.some Jvm.ClassFile.FieldType.boolean), Jvm.Cond.code ({ cls := "java/lang/String", name := "length", desc := "()I" } : Jvm.MethodName) jdk_42_method_54_code (1 : Nat) (Option.some Jvm.ClassFile.FieldType.int), Jvm.Cond.code ({ cls := "java/lang/String", name := "coder", desc := "()B" } : Jvm.MethodName) jdk_42_method_152_code (1 : Nat) (Option.some Jvm.ClassFile.FieldType.byte), Jvm.Cond.code ({ cls := "java/lang/StringLatin1", name := "indexOf", desc := "([BIII)I" } : Jvm.MethodName) jdk_43_method_22_code (4 : Nat) (Option.some Jvm.ClassFile.FieldType.int), Jvm.Cond.code ({ cls := "java/lang/StringLatin1", name := "canEncode", desc := "(I)Z" } : Jvm.MethodName) jdk_43_method_4_code (1 : Nat) (Option.some Jvm.ClassFile.FieldType.boolean), Jvm.Cond.code ({ cls := "java/lang/Math", name := "max", desc := "(II)I" } : Jvm.MethodName) jdk_29_method_65_code (2 : Nat) (Option.some Jvm.ClassFile.FieldType.int), Jvm.Cond.code ({ cls := "java/lang/Math", name := "min", desc := "(II)I" } : Jvm.MethodName) jdk_29_method_69_code (2 : Nat) (Option.some Jvm.ClassFile.FieldType.int), Jvm.Cond.code ({ cls := "java/lang/StringUTF16", name := "compress", desc := "([CII)[B" } : Jvm.MethodName) jdk_52_method_16_code (6 : Nat) (Option.some (Jvm.ClassFile.FieldType.array Jvm.ClassFile.FieldType.byte)), Jvm.Cond.code ({ cls := "java/lang/StringUTF16", name := "compress", desc := "([CI[BII)I" } : Jvm.MethodName) jdk_52_method_21_code (7 : Nat) (Option.some Jvm.ClassFile.FieldType.int), Jvm.Cond.code ({ cls := "java/lang/StringUTF16", name := "coderFromArrayLen", desc := "([BI)B" } : Jvm.MethodName) jdk_52_method_15_code (2 : Nat) (Option.some Jvm.ClassFile.FieldType.byte), Jvm.Cond.code ({ cls := "java/lang/StringLatin1", name := "indexOfChar", desc := "([BIII)I" } : Jvm.MethodName) jdk_43_method_23_code (6 : Nat) (Option.some Jvm.ClassFile.FieldType.int), Jvm.Cond.code ({ cls := "java/lang/StringUTF16", name := "toBytes", desc := "([CII)[B" } : Jvm.MethodName) jdk_52_method_14_code (5 : Nat) (Option.some (Jvm.ClassFile.FieldType.array Jvm.ClassFile.FieldType.byte)), Jvm.Cond.code ({ cls := "java/lang/StringUTF16", name := "newBytesFor", desc := "(I)[B" } : Jvm.MethodName) jdk_52_method_2_code (1 : Nat) (Option.some (Jvm.ClassFile.FieldType.array Jvm.ClassFile.FieldType.byte)), Jvm.Cond.code ({ cls := "java/lang/StringUTF16", name := "newBytesLength", desc := "(I)I" } : Jvm.MethodName) jdk_52_method_3_code (1 : Nat) (Option.some Jvm.ClassFile.FieldType.int), Jvm.Cond.code ({ cls := "java/lang/StringUTF16", name := "putChar", desc := "([BII)V" } : Jvm.MethodName) jdk_52_method_4_code (3 : Nat) (Option.none : Option Jvm.ClassFile.FieldType), Jvm.Cond.code ({ cls := "java/lang/StringUTF16", name := "getChar", desc := "([BI)C" } : Jvm.MethodName) jdk_52_method_5_code (2 : Nat) (Option.some Jvm.ClassFile.FieldType.char), Jvm.Cond.code ({ cls := "java/lang/StringUTF16", name := "indexOf", desc := "([BIII)I" } : Jvm.MethodName) jdk_52_method_40_code (4 : Nat) (Option.some Jvm.ClassFile.FieldType.int), Jvm.Cond.code ({ cls := "java/lang/StringUTF16", name := "indexOfChar", desc := "([BIII)I" } : Jvm.MethodName) jdk_52_method_47_code (4 : Nat) (Option.some Jvm.ClassFile.FieldType.int), Jvm.Cond.code ({ cls := "java/lang/StringUTF16", name := "checkBoundsBeginEnd", desc := "(II[B)V" } : Jvm.MethodName) jdk_52_method_93_code (3 : Nat) (Option.none : Option Jvm.ClassFile.FieldType), Jvm.Cond.code ({ cls := "java/lang/StringUTF16", name := "length", desc := "([B)I" } : Jvm.MethodName) jdk_52_method_6_code (1 : Nat) (Option.some Jvm.ClassFile.FieldType.int), Jvm.Cond.code ({ cls := "java/lang/String", name := "checkBoundsBeginEnd", desc := "(III)V" } : Jvm.MethodName) jdk_42_method_158_code (3 : Nat) (Option.none : Option Jvm.ClassFile.FieldType), Jvm.Cond.code ({ cls := "jdk/internal/util/Preconditions", name := "checkFromToIndex", desc := "(IIILjava/util/function/BiFunction;)I" } : Jvm.MethodName) jdk_41_method_12_code (4 : Nat) (Option.some Jvm.ClassFile.FieldType.int), Jvm.Cond.code ({ cls := "java/lang/StringUTF16", name := "indexOfCharUnsafe", desc := "([BIII)I" } : Jvm.MethodName) jdk_52_method_48_code (5 : Nat) (Option.some Jvm.ClassFile.FieldType.int)]
set_option maxRecDepth 65536 in
theorem codes_eq : words1.filter isCode = codes1 := rfl
theorem w_codes : ∀ c ∈ words1.filter isCode, c.before args0 about1 = true := by
  rw [codes_eq]
  intro c hc
  simp only [codes1, List.mem_cons, List.not_mem_nil, or_false] at hc
  rcases hc with rfl | rfl | rfl | rfl | rfl | rfl | rfl | rfl | rfl | rfl | rfl | rfl | rfl | rfl | rfl | rfl | rfl | rfl | rfl | rfl | rfl | rfl | rfl | rfl | rfl | rfl | rfl | rfl | rfl | rfl | rfl | rfl
  · exact w_c0
  · exact w_c1
  · exact w_c2
  · exact w_c3
  · exact w_c4
  · exact w_c5
  · exact w_c6
  · exact w_c7
  · exact w_c8
  · exact w_c9
  · exact w_c10
  · exact w_c11
  · exact w_c12
  · exact w_c13
  · exact w_c14
  · exact w_c15
  · exact w_c16
  · exact w_c17
  · exact w_c18
  · exact w_c19
  · exact w_c20
  · exact w_c21
  · exact w_c22
  · exact w_c23
  · exact w_c24
  · exact w_c25
  · exact w_c26
  · exact w_c27
  · exact w_c28
  · exact w_c29
  · exact w_c30
  · exact w_c31
set_option maxRecDepth 65536 in
theorem w_t1 : (words1.take 24).all (fun c => isCode c || c.before args0 about1) = true := by decide +kernel
set_option maxRecDepth 65536 in
theorem w_t2 : ((words1.drop 24).take 24).all (fun c => isCode c || c.before args0 about1) = true := by decide +kernel
set_option maxRecDepth 65536 in
theorem w_t3 : (((words1.drop 24).drop 24).take 24).all (fun c => isCode c || c.before args0 about1) = true := by decide +kernel
set_option maxRecDepth 65536 in
theorem w_t4 : ((((words1.drop 24).drop 24).drop 24).take 24).all (fun c => isCode c || c.before args0 about1) = true := by decide +kernel
set_option maxRecDepth 65536 in
theorem w_t5 : (((((words1.drop 24).drop 24).drop 24).drop 24).take 24).all (fun c => isCode c || c.before args0 about1) = true := by decide +kernel
set_option maxRecDepth 65536 in
theorem w_t6 : (((((words1.drop 24).drop 24).drop 24).drop 24).drop 24).all (fun c => isCode c || c.before args0 about1) = true := by decide +kernel
theorem w_tables : (allAtoms (Jvm.Cond.code x code maxLocals ret :: tables_1)).before args0 about1 = true := by
  rw [allAtoms_all]
  show words1.all (fun c => c.before args0 about1) = true
  refine all_split ?_ w_codes
  rw [← List.take_append_drop 24 words1, List.all_append, w_t1, ← List.take_append_drop 24 (words1.drop 24), List.all_append, w_t2, ← List.take_append_drop 24 ((words1.drop 24).drop 24), List.all_append, w_t3, ← List.take_append_drop 24 (((words1.drop 24).drop 24).drop 24), List.all_append, w_t4, ← List.take_append_drop 24 ((((words1.drop 24).drop 24).drop 24).drop 24), List.all_append, w_t5, w_t6]
  rfl
set_option maxRecDepth 65536 in
theorem w_rest : rest_1_c.before args0 about1 = true := by decide +kernel
set_option maxRecDepth 65536 in
theorem w_case : (Jvm.Cond.and given_1 narrow_1).before args0 about1 = true := by decide +kernel
set_option maxRecDepth 65536 in
theorem w_consts : constsHeld consts_1 about1 := Jvm.Lit.constsHeldB_iff.mp (by decide +kernel)
theorem w_applies : (headSpec (Jvm.Cond.code x code maxLocals ret :: tables_1) room_1).applies x e0.platform about1 = true :=
  (Spec.applies_iff w_frames).mpr ⟨w_running, w_runnable, w_alone, w_named, w_hears, w_ripe, w_room, w_tables⟩
theorem atStart : AtStart classFile x code maxLocals ret World_1 tables_1 room_1 Calls_1 rest_1 Pre_1 launch0 p0 e0 about1 theMethod args0 below0 :=
  ⟨lists_1, trivial, launch0.admits_env _ _ _, launch0.least_env, fairChoices_fair.cas, fairChoices_fair.clock, w_frames, w_args, w_heap, w_applies, ⟨w_consts, trivial⟩, w_rest, w_case⟩
end start1
theorem witness_1 : WitnessClaimed_1 := ⟨start1.p0, start1.e0, start1.about1, start1.theMethod, start1.args0, start1.below0, start1.atStart⟩
end Jvm.Pilot.@@N@@
