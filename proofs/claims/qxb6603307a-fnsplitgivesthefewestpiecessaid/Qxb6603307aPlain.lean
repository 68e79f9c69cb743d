namespace Go.Proofs.Qxb6603307a.Plain

/-- Bit k of a packed octet string, counted from the low-order bit of its first octet. -/
def bitAt (ps : List Nat) (k : Nat) : Bool := (ps.getD (k / 8) 0).testBit (k % 8)

/-- The same as a number. -/
def bitN (ps : List Nat) (k : Nat) : Nat := (bitAt ps k).toNat

/-- The septet that begins at bit p. -/
def sept (ps : List Nat) (p : Nat) : Nat :=
  (if 1 < p % 8 then (ps.getD (p / 8) 0 >>> (p % 8)) ||| ((ps.getD (p / 8 + 1) 0 <<< (8 - p % 8)) % 256) else ps.getD (p / 8) 0 >>> (p % 8)) &&& 127

def unpack (ps : List Nat) (fill n : Nat) : List Nat := (List.range n).map fun i => sept ps (fill + i * 7)

/-- Or the byte v into place o. -/
def orAt (ps : List Nat) (o v : Nat) : List Nat := ps.set o (ps.getD o 0 ||| v)

def packStep (ps : List Nat) (p v : Nat) : List Nat :=
  if 1 < p % 8 then orAt (orAt ps (p / 8) ((v <<< (p % 8)) % 256)) (p / 8 + 1) (v >>> (8 - p % 8)) else orAt ps (p / 8) ((v <<< (p % 8)) % 256)

def packTo (ss : List Nat) (fill n : Nat) : Nat → List Nat
  | 0 => List.replicate n 0
  | k + 1 => packStep (packTo ss fill n k) (fill + k * 7) (ss.getD k 0 &&& 127)

def pack (ss : List Nat) (fill : Nat) : List Nat := packTo ss fill ((fill + ss.length * 7 + 7) / 8) ss.length

theorem length_orAt (ps : List Nat) (o v : Nat) : (orAt ps o v).length = ps.length := by simp [orAt]
theorem length_packStep (ps : List Nat) (p v : Nat) : (packStep ps p v).length = ps.length := by unfold packStep; split <;> simp [length_orAt]
theorem length_packTo (ss : List Nat) (fill n k : Nat) : (packTo ss fill n k).length = n := by
  induction k with
  | zero => simp [packTo]
  | succ k ih => simp [packTo, length_packStep, ih]
theorem length_unpack (ps : List Nat) (fill n : Nat) : (unpack ps fill n).length = n := by simp [unpack]
theorem getD_unpack (ps : List Nat) (fill n i : Nat) (h : i < n) : (unpack ps fill n).getD i 0 = sept ps (fill + i * 7) := by
  simp [unpack, List.getD, h]

theorem getD_lt {ps : List Nat} (hb : ∀ x ∈ ps, x < 256) (o : Nat) : ps.getD o 0 < 256 := by
  by_cases h : o < ps.length
  · simp [List.getD, h]; exact hb _ (List.getElem_mem h)
  · simp [List.getD, h]

theorem sept_lt (ps : List Nat) (p : Nat) : sept ps p < 128 := by
  unfold sept
  exact Nat.lt_of_le_of_lt Nat.and_le_right (by decide)

theorem testBit_127 (x b : Nat) : (x &&& 127).testBit b = (x.testBit b && decide (b < 7)) := by
  rw [Nat.testBit_and, show (127 : Nat) = 2 ^ 7 - 1 from rfl, Nat.testBit_two_pow_sub_one]

theorem testBit_big {x : Nat} (h : x < 256) (b : Nat) (hb : 8 ≤ b) : x.testBit b = false :=
  Nat.testBit_lt_two_pow (Nat.lt_of_lt_of_le h (show 256 ≤ 2 ^ b from Nat.pow_le_pow_right (n := 2) (by decide) hb))

theorem sept_testBit {ps : List Nat} (hb : ∀ x ∈ ps, x < 256) (p b : Nat) (h : b < 7) : (sept ps p).testBit b = bitAt ps (p + b) := by
  unfold sept bitAt
  rw [testBit_127]
  have h0 := getD_lt hb (p / 8)
  by_cases hs : 1 < p % 8
  · rw [if_pos hs, Nat.testBit_or, Nat.testBit_shiftRight, show (256 : Nat) = 2 ^ 8 from rfl, Nat.testBit_mod_two_pow, Nat.testBit_shiftLeft]
    by_cases hc : p % 8 + b < 8
    · have e1 : (p + b) / 8 = p / 8 := by omega
      have e2 : (p + b) % 8 = p % 8 + b := by omega
      have e3 : ¬ (8 - p % 8 ≤ b) := by omega
      simp [e1, e2, h]
      intro _ h8
      omega
    · have e1 : (p + b) / 8 = p / 8 + 1 := by omega
      have e2 : (p + b) % 8 = b - (8 - p % 8) := by omega
      have e3 : (8 - p % 8 ≤ b) := by omega
      rw [testBit_big h0 _ (by omega), e1, e2]
      simp [h, e3, show b < 8 by omega]
  · rw [if_neg hs, Nat.testBit_shiftRight]
    have e1 : (p + b) / 8 = p / 8 := by omega
    have e2 : (p + b) % 8 = p % 8 + b := by omega
    simp [e1, e2, h]

theorem sept_testBit_hi (ps : List Nat) (p b : Nat) (h : 7 ≤ b) : (sept ps p).testBit b = false := by
  unfold sept
  rw [testBit_127]
  simp [show ¬ b < 7 by omega]

theorem getD_set (ps : List Nat) (o v j : Nat) (ho : o < ps.length) : (ps.set o v).getD j 0 = if j = o then v else ps.getD j 0 := by
  simp only [List.getD, List.getElem?_set]
  by_cases h : j = o
  · subst h; simp [ho]
  · simp [h, show ¬ o = j from fun e => h e.symm]

theorem bitAt_orAt (ps : List Nat) (o v j : Nat) (ho : o < ps.length) : bitAt (orAt ps o v) j = (bitAt ps j || (decide (j / 8 = o) && v.testBit (j % 8))) := by
  unfold bitAt orAt
  rw [getD_set _ _ _ _ ho]
  by_cases h : j / 8 = o
  · subst h; simp [Nat.testBit_or]
  · simp [h]

theorem bitAt_packStep (ps : List Nat) (p v j : Nat) (hv : v < 128) (hp : p + 6 < 8 * ps.length) :
    bitAt (packStep ps p v) j = (bitAt ps j || (decide (p ≤ j ∧ j < p + 7) && v.testBit (j - p))) := by
  have hv7 : ∀ b, 7 ≤ b → v.testBit b = false := fun b hb => Nat.testBit_lt_two_pow (Nat.lt_of_lt_of_le hv (show 128 ≤ 2 ^ b from Nat.pow_le_pow_right (n := 2) (by decide) hb))
  unfold packStep
  have hm : j % 8 < 8 := Nat.mod_lt _ (by decide)
  by_cases hs : 1 < p % 8
  · rw [if_pos hs, bitAt_orAt _ _ _ _ (by rw [length_orAt]; omega), bitAt_orAt _ _ _ _ (by omega), show (256 : Nat) = 2 ^ 8 from rfl, Nat.testBit_mod_two_pow, Nat.testBit_shiftLeft, Nat.testBit_shiftRight, Bool.or_assoc]
    congr 1
    by_cases h1 : j / 8 = p / 8
    · have n2 : ¬ (j / 8 = p / 8 + 1) := by omega
      by_cases h2 : p ≤ j
      · have e : j % 8 - p % 8 = j - p := by omega
        have c : p ≤ j ∧ j < p + 7 := by omega
        simp [h1, e, c, hm, show p % 8 ≤ j % 8 by omega]
      · simp [h1, show ¬ p % 8 ≤ j % 8 by omega, h2]
    · by_cases h2 : j / 8 = p / 8 + 1
      · have e : 8 - p % 8 + j % 8 = j - p := by omega
        have c : p ≤ j := by omega
        by_cases c2 : j < p + 7
        · simp [h2, e, c, c2]
        · simp [h2, e, c, c2, hv7 (j - p) (by omega)]
      · have : ¬ (p ≤ j ∧ j < p + 7) := by omega
        simp [h1, h2, this]
  · rw [if_neg hs, bitAt_orAt _ _ _ _ (by omega), show (256 : Nat) = 2 ^ 8 from rfl, Nat.testBit_mod_two_pow, Nat.testBit_shiftLeft]
    congr 1
    by_cases h1 : j / 8 = p / 8
    · by_cases h2 : p ≤ j
      · have e : j % 8 - p % 8 = j - p := by omega
        by_cases c2 : j < p + 7
        · simp [h1, e, h2, c2, hm, show p % 8 ≤ j % 8 by omega]
        · simp [h1, e, h2, c2, hv7 (j - p) (by omega)]
      · simp [h1, show ¬ p % 8 ≤ j % 8 by omega, h2]
    · have : ¬ (p ≤ j ∧ j < p + 7) := by omega
      simp [h1, this]

theorem bitAt_replicate (n j : Nat) : bitAt (List.replicate n 0) j = false := by
  unfold bitAt
  have : (List.replicate n 0).getD (j / 8) 0 = 0 := by
    simp [List.getD, List.getElem?_replicate]; split <;> rfl
  rw [this]; simp

theorem bitAt_packTo (ss : List Nat) (fill n k j : Nat) (hk : fill + k * 7 ≤ 8 * n) :
    bitAt (packTo ss fill n k) j = (decide (fill ≤ j ∧ j < fill + k * 7) && (ss.getD ((j - fill) / 7) 0).testBit ((j - fill) % 7)) := by
  induction k with
  | zero => simp [packTo, bitAt_replicate]; intro h1 h2; omega
  | succ k ih =>
    rw [packTo, bitAt_packStep _ _ _ _ (Nat.lt_of_le_of_lt Nat.and_le_right (by decide)) (by rw [length_packTo]; omega), ih (by omega), testBit_127]
    by_cases c1 : fill ≤ j ∧ j < fill + k * 7
    · have c2 : ¬ (fill + k * 7 ≤ j ∧ j < fill + k * 7 + 7) := by omega
      have c3 : fill ≤ j ∧ j < fill + (k + 1) * 7 := by omega
      simp [c1, c2, c3]
    · by_cases c2 : fill + k * 7 ≤ j ∧ j < fill + k * 7 + 7
      · have c3 : fill ≤ j ∧ j < fill + (k + 1) * 7 := by omega
        have e1 : (j - fill) / 7 = k := by omega
        have e2 : (j - fill) % 7 = j - (fill + k * 7) := by omega
        simp only [decide_eq_false c1, decide_eq_true c2, decide_eq_true c3, e1, e2]
        simp; omega
      · have c3 : ¬ (fill ≤ j ∧ j < fill + (k + 1) * 7) := by omega
        simp [c1, c2, c3]

theorem bitAt_pack (ss : List Nat) (fill j : Nat) :
    bitAt (pack ss fill) j = (decide (fill ≤ j ∧ j < fill + ss.length * 7) && (ss.getD ((j - fill) / 7) 0).testBit ((j - fill) % 7)) :=
  bitAt_packTo ss fill _ _ j (by omega)

theorem length_pack (ss : List Nat) (fill : Nat) : (pack ss fill).length = (fill + ss.length * 7 + 7) / 8 := length_packTo _ _ _ _

theorem orAt_lt {ps : List Nat} (hb : ∀ x ∈ ps, x < 256) (o v : Nat) (hv : v < 256) : ∀ x ∈ orAt ps o v, x < 256 := by
  intro x hx
  rcases List.mem_or_eq_of_mem_set hx with h | h
  · exact hb x h
  · subst h; exact Nat.or_lt_two_pow (n := 8) (getD_lt hb o) hv
theorem packStep_lt {ps : List Nat} (hb : ∀ x ∈ ps, x < 256) (p v : Nat) (hv : v < 256) : ∀ x ∈ packStep ps p v, x < 256 := by
  unfold packStep
  have h1 : (v <<< (p % 8)) % 256 < 256 := Nat.mod_lt _ (by decide)
  split
  · exact orAt_lt (orAt_lt hb _ _ h1) _ _ (Nat.lt_of_le_of_lt (by rw [Nat.shiftRight_eq_div_pow]; exact Nat.div_le_self _ _) hv)
  · exact orAt_lt hb _ _ h1
theorem packTo_lt (ss : List Nat) (fill n k : Nat) : ∀ x ∈ packTo ss fill n k, x < 256 := by
  induction k with
  | zero => intro x hx; simp [packTo] at hx; omega
  | succ k ih => exact packStep_lt ih _ _ (Nat.lt_of_le_of_lt Nat.and_le_right (by decide))
theorem pack_lt (ss : List Nat) (fill : Nat) : ∀ x ∈ pack ss fill, x < 256 := packTo_lt _ _ _ _
theorem unpack_lt (ps : List Nat) (fill n : Nat) : ∀ x ∈ unpack ps fill n, x < 256 := by
  intro x hx
  obtain ⟨i, _, rfl⟩ := List.mem_map.1 hx
  exact Nat.lt_trans (sept_lt _ _) (by decide)

/-- UnpackGSM7 undoes PackGSM7. -/
theorem sept_pack (ss : List Nat) (fill i : Nat) (hi : i < ss.length) : sept (pack ss fill) (fill + i * 7) = ss.getD i 0 &&& 127 := by
  apply Nat.eq_of_testBit_eq
  intro b
  by_cases h : b < 7
  · rw [sept_testBit (pack_lt ss fill) _ _ h, bitAt_pack, testBit_127]
    have c : fill ≤ fill + i * 7 + b ∧ fill + i * 7 + b < fill + ss.length * 7 := by omega
    have e1 : (fill + i * 7 + b - fill) / 7 = i := by omega
    have e2 : (fill + i * 7 + b - fill) % 7 = b := by omega
    simp [c, e1, e2, h]
  · rw [sept_testBit_hi _ _ _ (by omega), testBit_127]
    simp [h]

/-- PackGSM7 after UnpackGSM7 keeps the septets' bits. -/
theorem bitAt_pack_unpack {ps : List Nat} (hb : ∀ x ∈ ps, x < 256) (fill n j : Nat) :
    bitAt (pack (unpack ps fill n) fill) j = (decide (fill ≤ j ∧ j < fill + n * 7) && bitAt ps j) := by
  rw [bitAt_pack, length_unpack]
  by_cases c : fill ≤ j ∧ j < fill + n * 7
  · rw [getD_unpack _ _ _ _ (by omega), sept_testBit hb _ _ (Nat.mod_lt _ (by decide))]
    have e : fill + (j - fill) / 7 * 7 + (j - fill) % 7 = j := by omega
    rw [e]
  · simp [c]

/-- The bits b' < b of what begins at p, joined. -/
def joined (ps : List Nat) (p : Nat) : Nat → Nat
  | 0 => 0
  | b + 1 => joined ps p b ||| (bitN ps (p + b) <<< b) % 256

theorem joined_testBit (ps : List Nat) (p b j : Nat) (hb : b ≤ 7) : (joined ps p b).testBit j = (decide (j < b) && bitAt ps (p + j)) := by
  induction b with
  | zero => simp [joined]
  | succ b ih =>
    rw [joined, Nat.testBit_or, ih (by omega), show (256 : Nat) = 2 ^ 8 from rfl, Nat.testBit_mod_two_pow, Nat.testBit_shiftLeft, bitN]
    by_cases h1 : j < b
    · simp [h1, show j < b + 1 by omega, show ¬ b ≤ j by omega]
    · by_cases h2 : j = b
      · subst h2
        cases bitAt ps (p + j) <;> simp [show j < 8 by omega]
      · have : ¬ j < b + 1 := by omega
        have h3 : (bitAt ps (p + b)).toNat.testBit (j - b) = false := by
          cases bitAt ps (p + b)
          · simp
          · exact Nat.testBit_lt_two_pow (Nat.one_lt_two_pow (by omega))
        simp [h1, this, h3]

theorem joined_sept {ps : List Nat} (hb : ∀ x ∈ ps, x < 256) (p : Nat) : joined ps p 7 = sept ps p := by
  apply Nat.eq_of_testBit_eq
  intro j
  rw [joined_testBit _ _ _ _ (Nat.le_refl _)]
  by_cases h : j < 7
  · rw [sept_testBit hb _ _ h]; simp [h]
  · rw [sept_testBit_hi _ _ _ (by omega)]; simp [h]

theorem bitN_lt (ps : List Nat) (k : Nat) : bitN ps k < 2 := by unfold bitN; cases bitAt ps k <;> decide
theorem joined_lt (ps : List Nat) (p b : Nat) : joined ps p b < 256 := by
  induction b with
  | zero => simp [joined]
  | succ b ih => exact Nat.or_lt_two_pow (n := 8) ih (Nat.mod_lt _ (by decide))

/-- How Go reckons a bit. -/
theorem bitN_eq (ps : List Nat) (k : Nat) : (ps.getD (k / 8) 0 >>> (k % 8)) &&& 1 = bitN ps k := by
  unfold bitN bitAt
  rw [Nat.testBit, Nat.and_comm 1]
  generalize ps.getD (k / 8) 0 >>> (k % 8) = x
  rw [Nat.and_one_is_mod]
  rcases Nat.mod_two_eq_zero_or_one x with h | h <;> rw [h] <;> rfl

end Go.Proofs.Qxb6603307a.Plain
