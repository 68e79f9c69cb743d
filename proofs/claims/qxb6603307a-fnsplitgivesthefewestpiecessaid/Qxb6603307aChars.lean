import Derived.Test.Qxb6603307aCuts
namespace Go.Proofs.Qxb6603307a.Cuts

/-- The length of the code that begins with c, in alphabet a (0 or 2). -/
def cl (a c : Nat) : Nat := if a = 0 then (if c = 27 then 2 else 1) else if 216 ≤ c ∧ c ≤ 219 then 4 else 2

/-- The longest code of an alphabet. -/
def top (a : Nat) : Nat := if a = 0 then 2 else 4

theorem cl_pos (a c : Nat) : 1 ≤ cl a c := by unfold cl; split <;> split <;> omega
theorem cl_top (a c : Nat) : cl a c ≤ top a := by unfold cl top; split <;> split <;> omega

/-- Where character j begins. -/
def pos (cs : List Nat) (a : Nat) : Nat → Nat
  | 0 => 0
  | j + 1 => pos cs a j + cl a (cs.getD (pos cs a j) 0)

theorem pos_succ (cs : List Nat) (a j : Nat) : pos cs a (j + 1) = pos cs a j + cl a (cs.getD (pos cs a j) 0) := rfl

theorem pos_steps (cs : List Nat) (a mx T : Nat) (h : top a ≤ mx) : Steps (pos cs a) mx T := by
  refine ⟨rfl, fun j _ => ?_⟩
  have h1 := cl_pos a (cs.getD (pos cs a j) 0)
  have h2 := cl_top a (cs.getD (pos cs a j) 0)
  rw [pos_succ]
  omega

theorem le_pos (cs : List Nat) (a j : Nat) : j ≤ pos cs a j := by
  induction j with
  | zero => exact Nat.zero_le _
  | succ j ih => have := cl_pos a (cs.getD (pos cs a j) 0); rw [pos_succ]; omega

/-- T characters reach the end. -/
def Reach (cs : List Nat) (a T : Nat) : Prop := cs.length ≤ pos cs a T ∧ ∀ j, j < T → pos cs a j < cs.length

theorem reach_ex (cs : List Nat) (a : Nat) : ∃ T, Reach cs a T := by
  have h : ∀ n, ∃ T, (cs.length ≤ pos cs a T ∨ T = n) ∧ ∀ j, j < T → pos cs a j < cs.length := by
    intro n
    induction n with
    | zero => exact ⟨0, .inr rfl, fun j hj => by omega⟩
    | succ n ih =>
      obtain ⟨T, h1, h2⟩ := ih
      by_cases hc : cs.length ≤ pos cs a T
      · exact ⟨T, .inl hc, h2⟩
      · rcases h1 with h1 | h1
        · exact absurd h1 hc
        · refine ⟨T + 1, .inr (by omega), fun j hj => ?_⟩
          by_cases e : j = T
          · subst e; omega
          · exact h2 j (by omega)
  obtain ⟨T, h1, h2⟩ := h cs.length
  refine ⟨T, ?_, h2⟩
  rcases h1 with h1 | h1
  · exact h1
  · have := le_pos cs a T; omega

theorem Reach.le_len {cs : List Nat} {a T : Nat} (h : Reach cs a T) : T ≤ cs.length := by
  rcases Nat.eq_zero_or_pos T with e | e
  · omega
  · have h1 := h.2 (T - 1) (by omega)
    have h2 := le_pos cs a (T - 1)
    omega
theorem Reach.pos_T {cs : List Nat} {a T : Nat} (h : Reach cs a T) (hl : 0 < cs.length) : 0 < T := by
  rcases Nat.eq_zero_or_pos T with e | e
  · subst e
    have h1 : cs.length ≤ 0 := h.1
    omega
  · exact e
theorem Reach.lt {cs : List Nat} {a T j : Nat} (h : Reach cs a T) (hj : j ≤ T) (hlt : pos cs a j < cs.length) : j < T := by
  apply Nat.lt_of_le_of_ne hj
  intro e
  subst e
  have := h.1
  omega
theorem Reach.eq {cs : List Nat} {a T j : Nat} (h : Reach cs a T) (hj : j ≤ T) (hge : ¬ pos cs a j < cs.length) : j = T := by
  rcases Nat.lt_or_ge j T with e | e
  · exact absurd (h.2 j e) hge
  · omega

end Go.Proofs.Qxb6603307a.Cuts
