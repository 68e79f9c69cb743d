import Derived.Test.Qxb6603307aChars
namespace Go.Proofs.Qxb6603307a.Cuts

/-- Where piece p begins, counted in characters; behind the last: T. -/
def ch (B : Nat → Nat) (mx T p : Nat) : Nat := if p < (starts B mx T).length then (starts B mx T).getD p 0 else T
/-- Where piece p begins, counted in bytes; behind the last: len. -/
def at' (B : Nat → Nat) (mx T len p : Nat) : Nat := if p < (starts B mx T).length then B ((starts B mx T).getD p 0) else len

theorem ch_zero (B : Nat → Nat) (mx T : Nat) : ch B mx T 0 = 0 := by
  unfold ch; rw [if_pos (by rw [length_starts]; omega)]; exact starts_head B mx T
theorem at_zero {B : Nat → Nat} (mx T len : Nat) (hB : B 0 = 0) : at' B mx T len 0 = 0 := by
  unfold at'; rw [if_pos (by rw [length_starts]; omega), starts_head, hB]
theorem at_end (B : Nat → Nat) (mx T len : Nat) : at' B mx T len (starts B mx T).length = len := by
  unfold at'; rw [if_neg (Nat.lt_irrefl _)]

/-- Piece p: characters ch p .. ch (p+1) - 1. -/
theorem piece_facts {B : Nat → Nat} {mx T len : Nat} (h : Steps B mx T) (hT : 0 < T) (hend : len ≤ B T) (hin : ∀ j, j < T → B j < len) (p : Nat) (hp : p < (starts B mx T).length) :
    ch B mx T p < ch B mx T (p + 1) ∧ ch B mx T (p + 1) ≤ T ∧ at' B mx T len p = B (ch B mx T p) ∧ at' B mx T len (p + 1) = min (B (ch B mx T (p + 1))) len ∧
    B (ch B mx T (p + 1)) - B (ch B mx T p) ≤ mx ∧
    (p + 1 < (starts B mx T).length → B (ch B mx T (p + 1)) < len ∧ mx < B (ch B mx T (p + 1) + 1) - B (ch B mx T p)) := by
  have ho := starts_open h T (Nat.le_refl _) hT
  by_cases hl : p + 1 < (starts B mx T).length
  · have hk := starts_ok h T (Nat.le_refl _) p hl
    have e1 : ch B mx T (p + 1) = (starts B mx T).getD (p + 1) 0 := by unfold ch; rw [if_pos hl]
    have e0 : ch B mx T p = (starts B mx T).getD p 0 := by unfold ch; rw [if_pos hp]
    have a1 : at' B mx T len (p + 1) = B ((starts B mx T).getD (p + 1) 0) := by unfold at'; rw [if_pos hl]
    have a0 : at' B mx T len p = B ((starts B mx T).getD p 0) := by unfold at'; rw [if_pos hp]
    rw [e0, e1, a0, a1]
    have hlt := hin _ hk.2.1
    exact ⟨hk.1, Nat.le_of_lt hk.2.1, rfl, by omega, hk.2.2.1, fun _ => ⟨hlt, hk.2.2.2⟩⟩
  · have e : p = (starts B mx T).length - 1 := by omega
    have e1 : ch B mx T (p + 1) = T := by unfold ch; rw [if_neg hl]
    have e0 : ch B mx T p = (starts B mx T).getD p 0 := by unfold ch; rw [if_pos hp]
    have a1 : at' B mx T len (p + 1) = len := by unfold at'; rw [if_neg hl]
    have a0 : at' B mx T len p = B ((starts B mx T).getD p 0) := by unfold at'; rw [if_pos hp]
    rw [← e] at ho
    rw [e0, e1, a0, a1]
    exact ⟨ho.1, Nat.le_refl _, rfl, by omega, ho.2, fun h => absurd h hl⟩

end Go.Proofs.Qxb6603307a.Cuts
