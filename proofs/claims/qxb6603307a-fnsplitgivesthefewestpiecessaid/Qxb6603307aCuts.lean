namespace Go.Proofs.Qxb6603307a.Cuts

/-- What Split's loop has after j characters: the starts (counted in characters) of the pieces that are closed, and the start of the open one. 'B j': where character j begins. -/
def cutsTo (B : Nat → Nat) (mx : Nat) : Nat → List Nat × Nat
  | 0 => ([], 0)
  | j + 1 => if mx < B (j + 1) - B (cutsTo B mx j).2 then ((cutsTo B mx j).1 ++ [(cutsTo B mx j).2], j) else cutsTo B mx j

/-- B rises by at least one and at most mx. -/
def Steps (B : Nat → Nat) (mx T : Nat) : Prop := B 0 = 0 ∧ ∀ j, j < T → B j < B (j + 1) ∧ B (j + 1) ≤ B j + mx

theorem Steps.mono {B : Nat → Nat} {mx T : Nat} (h : Steps B mx T) {i j : Nat} (hij : i ≤ j) (hj : j ≤ T) : B i ≤ B j := by
  induction j with
  | zero => have : i = 0 := by omega
            subst this; exact Nat.le_refl _
  | succ j ih =>
    by_cases e : i = j + 1
    · subst e; exact Nat.le_refl _
    · have := ih (by omega) (by omega)
      have := (h.2 j (by omega)).1
      omega
theorem Steps.lt {B : Nat → Nat} {mx T : Nat} (h : Steps B mx T) {i j : Nat} (hij : i < j) (hj : j ≤ T) : B i < B j := by
  have h1 := (h.2 i (by omega)).1
  have h2 := h.mono (i := i + 1) (j := j) (by omega) hj
  omega
theorem Steps.of_lt {B : Nat → Nat} {mx T : Nat} (h : Steps B mx T) {i j : Nat} (hi : i ≤ T) (hlt : B i < B j) : i < j := by
  apply Nat.lt_of_not_le
  intro hle
  have := h.mono hle hi
  omega

/-- The open piece's start, and that it fits. -/
theorem cuts_open {B : Nat → Nat} {mx T : Nat} (h : Steps B mx T) (j : Nat) (hj : j ≤ T) :
    (cutsTo B mx j).2 ≤ j ∧ (0 < j → (cutsTo B mx j).2 < j) ∧ B j - B (cutsTo B mx j).2 ≤ mx := by
  induction j with
  | zero => simp [cutsTo]
  | succ j ih =>
    obtain ⟨h1, h2, h3⟩ := ih (by omega)
    rw [cutsTo]
    split
    · have := h.2 j (by omega)
      simp only
      omega
    · refine ⟨by omega, by omega, by omega⟩

theorem cuts_len (B : Nat → Nat) (mx j : Nat) : (cutsTo B mx j).1.length ≤ j := by
  induction j with
  | zero => simp [cutsTo]
  | succ j ih =>
    rw [cutsTo]
    split
    · simp; omega
    · omega

/-- All starts, the open piece's behind the others. -/
def starts (B : Nat → Nat) (mx j : Nat) : List Nat := (cutsTo B mx j).1 ++ [(cutsTo B mx j).2]
theorem length_starts (B : Nat → Nat) (mx j : Nat) : (starts B mx j).length = (cutsTo B mx j).1.length + 1 := by simp [starts]
theorem starts_succ (B : Nat → Nat) (mx j : Nat) : starts B mx (j + 1) = if mx < B (j + 1) - B (cutsTo B mx j).2 then starts B mx j ++ [j] else starts B mx j := by
  unfold starts; rw [cutsTo]; split <;> simp
theorem starts_zero (B : Nat → Nat) (mx : Nat) : starts B mx 0 = [0] := by simp [starts, cutsTo]

theorem starts_last (B : Nat → Nat) (mx j : Nat) : (starts B mx j).getD (cutsTo B mx j).1.length 0 = (cutsTo B mx j).2 := by
  simp [starts, List.getD]
theorem starts_front (B : Nat → Nat) (mx j i : Nat) (hi : i < (cutsTo B mx j).1.length) : (starts B mx j).getD i 0 = (cutsTo B mx j).1.getD i 0 := by
  simp [starts, List.getD, List.getElem?_append, hi]

theorem starts_head (B : Nat → Nat) (mx j : Nat) : (starts B mx j).getD 0 0 = 0 := by
  induction j with
  | zero => simp [starts_zero]
  | succ j ih =>
    rw [starts_succ]
    split
    · have hl : 0 < (starts B mx j).length := by rw [length_starts]; omega
      simp only [List.getD, List.getElem?_append, hl, if_true] at ih ⊢
      exact ih
    · exact ih

/-- The starts rise; a closed piece fits, and its next character would not; all lie below j. -/
theorem starts_ok {B : Nat → Nat} {mx T : Nat} (h : Steps B mx T) (j : Nat) (hj : j ≤ T) (i : Nat) (hi : i + 1 < (starts B mx j).length) :
    (starts B mx j).getD i 0 < (starts B mx j).getD (i + 1) 0 ∧ (starts B mx j).getD (i + 1) 0 < j ∧
    B ((starts B mx j).getD (i + 1) 0) - B ((starts B mx j).getD i 0) ≤ mx ∧ mx < B ((starts B mx j).getD (i + 1) 0 + 1) - B ((starts B mx j).getD i 0) := by
  induction j with
  | zero => simp [starts_zero] at hi
  | succ j ih =>
    have ho := cuts_open h j (by omega)
    have hlast := starts_last B mx j
    have hlen := length_starts B mx j
    rw [starts_succ] at hi ⊢
    by_cases hc : mx < B (j + 1) - B (cutsTo B mx j).2
    · rw [if_pos hc] at hi ⊢
      have g1 : (starts B mx j ++ [j]).getD i 0 = (starts B mx j).getD i 0 := by
        simp only [List.length_append, List.length_cons, List.length_nil] at hi
        simp [List.getD, List.getElem?_append, show i < (starts B mx j).length by omega]
      rw [g1]
      by_cases hl : i + 1 < (starts B mx j).length
      · have g2 : (starts B mx j ++ [j]).getD (i + 1) 0 = (starts B mx j).getD (i + 1) 0 := by
          simp [List.getD, List.getElem?_append, hl]
        rw [g2]
        have := ih (by omega) hl
        omega
      · simp only [List.length_append, List.length_cons, List.length_nil] at hi
        have e : i + 1 = (starts B mx j).length := by omega
        have g2 : (starts B mx j ++ [j]).getD (i + 1) 0 = j := by rw [e]; simp [List.getD]
        have e2 : i = (cutsTo B mx j).1.length := by omega
        rw [g2, e2, hlast]
        have hst := h.2 j (by omega)
        refine ⟨?_, by omega, ho.2.2, hc⟩
        apply Nat.lt_of_le_of_ne ho.1
        intro e3
        rw [e3] at hc
        omega
    · rw [if_neg hc] at hi ⊢
      have := ih (by omega) hi
      omega

/-- The same for the open piece. -/
theorem starts_open {B : Nat → Nat} {mx T : Nat} (h : Steps B mx T) (j : Nat) (hj : j ≤ T) (hp : 0 < j) :
    (starts B mx j).getD ((starts B mx j).length - 1) 0 < j ∧ B j - B ((starts B mx j).getD ((starts B mx j).length - 1) 0) ≤ mx := by
  have ho := cuts_open h j hj
  rw [length_starts, Nat.add_sub_cancel, starts_last]
  exact ⟨ho.2.1 hp, ho.2.2⟩

theorem cut_none (B : Nat → Nat) (mx j : Nat) (h : (cutsTo B mx j).1.length = 0) : (cutsTo B mx j).2 = 0 := by
  induction j with
  | zero => rfl
  | succ j ih =>
    rw [cutsTo] at h ⊢
    split at h
    · simp at h
    · rw [if_neg (by assumption)]; exact ih h

/-- How many pieces there are, and how many there were at an earlier character: between the last closed piece's start and the open one's there is one fewer. -/
theorem count_at {B : Nat → Nat} {mx T : Nat} (h : Steps B mx T) (j : Nat) (hj : j ≤ T) (i : Nat) (hij : i ≤ j) :
    ((cutsTo B mx j).2 < i → (cutsTo B mx i).1.length = (cutsTo B mx j).1.length) ∧
    (∀ q, (starts B mx j).length = q + 2 → (starts B mx j).getD q 0 < i → i ≤ (cutsTo B mx j).2 → (cutsTo B mx i).1.length + 1 = (cutsTo B mx j).1.length) := by
  induction j with
  | zero =>
    have : i = 0 := by omega
    subst this
    simp [cutsTo, starts_zero]
  | succ j ih =>
    have ho := cuts_open h j (by omega)
    have hs := starts_succ B mx j
    have hls := length_starts B mx j
    have hlast := starts_last B mx j
    by_cases e : i = j + 1
    · subst e
      refine ⟨fun _ => rfl, fun q hq h1 h2 => ?_⟩
      have := cuts_open h (j + 1) hj
      omega
    · obtain ⟨i1, i2⟩ := ih (by omega) (by omega)
      by_cases hc : mx < B (j + 1) - B (cutsTo B mx j).2
      · have ec : cutsTo B mx (j + 1) = ((cutsTo B mx j).1 ++ [(cutsTo B mx j).2], j) := by rw [cutsTo, if_pos hc]
        rw [if_pos hc] at hs
        rw [ec, hs]
        refine ⟨fun h1 => by simp only at h1; omega, fun q hq h1 h2 => ?_⟩
        simp only [List.length_append, List.length_cons, List.length_nil] at hq ⊢
        have eq : q = (cutsTo B mx j).1.length := by omega
        have g : (starts B mx j ++ [j]).getD q 0 = (cutsTo B mx j).2 := by
          rw [← hlast, eq]
          simp [List.getD, List.getElem?_append, show (cutsTo B mx j).1.length < (starts B mx j).length by omega]
        rw [g] at h1
        rw [i1 h1]
      · have ec : cutsTo B mx (j + 1) = cutsTo B mx j := by rw [cutsTo, if_neg hc]
        rw [if_neg hc] at hs
        rw [ec, hs]
        exact ⟨i1, i2⟩

/-- THE FEWEST: whatever 'lo' is the first place from which characters lo .. j-1 fit: the pieces of the first lo characters, and one more. -/
def few (B : Nat → Nat) (mx j : Nat) : Nat := if j = 0 then 0 else (starts B mx j).length

theorem few_step {B : Nat → Nat} {mx T : Nat} (h : Steps B mx T) (j : Nat) (hj : j ≤ T) (hp : 0 < j) (lo : Nat) (hlo : lo < j) (hfit : B j - B lo ≤ mx) (hmin : ∀ i, i < lo → mx < B j - B i) :
    few B mx j = few B mx lo + 1 := by
  have ho := cuts_open h j hj
  have hls := length_starts B mx j
  have hlo2 : lo ≤ (cutsTo B mx j).2 := by
    apply Nat.le_of_not_lt
    intro hlt
    have := hmin _ hlt
    omega
  obtain ⟨_, c2⟩ := count_at h j hj lo (by omega)
  unfold few
  rw [if_neg (by omega)]
  by_cases hz : (cutsTo B mx j).1.length = 0
  · have := cut_none B mx j hz
    rw [if_pos (by omega), hls, hz]
  · obtain ⟨q, hq⟩ : ∃ q, (starts B mx j).length = q + 2 := ⟨(cutsTo B mx j).1.length - 1, by omega⟩
    have hok := starts_ok h j hj q (by omega)
    have hgt : (starts B mx j).getD q 0 < lo := by
      apply Nat.lt_of_not_le
      intro hle
      have h1 := h.mono (i := lo) (j := (starts B mx j).getD q 0) hle (by omega)
      have h2 := h.mono (i := (starts B mx j).getD (q + 1) 0 + 1) (j := j) (by omega) hj
      omega
    have := c2 q hq hgt hlo2
    rw [if_neg (by omega), hls, length_starts]
    omega

end Go.Proofs.Qxb6603307a.Cuts
