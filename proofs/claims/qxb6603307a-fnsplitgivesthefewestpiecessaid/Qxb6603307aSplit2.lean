import Derived.Test.Qxb6603307aSplit
namespace Go.Proofs.Qxb6603307a
open Go.RowKit

def pieceV (g cap s e : Nat) : Value := .slice (some ⟨g, s, none⟩) (e - s) (cap - s)
/-- The pieces that are closed after j characters. -/
def closed (g cap mx : Nat) (B : Nat → Nat) : Nat → List Value
  | 0 => []
  | j + 1 => if mx < B (j + 1) - B (Cuts.cutsTo B mx j).2 then closed g cap mx B j ++ [pieceV g cap (B (Cuts.cutsTo B mx j).2) (B j)] else closed g cap mx B j
theorem length_closed (g cap mx : Nat) (B : Nat → Nat) (j : Nat) : (closed g cap mx B j).length = (Cuts.cutsTo B mx j).1.length := by
  induction j with
  | zero => rfl
  | succ j ih =>
    rw [closed, Cuts.cutsTo]
    split
    · simp [ih]
    · exact ih
theorem closed_at (g cap mx : Nat) (B : Nat → Nat) (j i : Nat) (hi : i < (Cuts.cutsTo B mx j).1.length) :
    (closed g cap mx B j)[i]? = some (pieceV g cap (B ((Cuts.starts B mx j).getD i 0)) (B ((Cuts.starts B mx j).getD (i + 1) 0))) := by
  induction j with
  | zero => simp [Cuts.cutsTo] at hi
  | succ j ih =>
    have hl := length_closed g cap mx B j
    have hs := Cuts.length_starts B mx j
    rw [closed, Cuts.starts_succ]
    by_cases hc : mx < B (j + 1) - B (Cuts.cutsTo B mx j).2
    · rw [if_pos hc, if_pos hc]
      have hi' : i < (Cuts.cutsTo B mx j).1.length + 1 := by
        rw [Cuts.cutsTo, if_pos hc] at hi
        simpa using hi
      have g1 : (Cuts.starts B mx j ++ [j]).getD i 0 = (Cuts.starts B mx j).getD i 0 := by
        simp [List.getD, List.getElem?_append, show i < (Cuts.starts B mx j).length by omega]
      rw [g1]
      by_cases e : i = (Cuts.cutsTo B mx j).1.length
      · subst e
        have g2 : (Cuts.starts B mx j ++ [j]).getD ((Cuts.cutsTo B mx j).1.length + 1) 0 = j := by
          rw [← hs]; simp [List.getD]
        rw [g2, Cuts.starts_last, ← hl]
        simp
      · have g2 : (Cuts.starts B mx j ++ [j]).getD (i + 1) 0 = (Cuts.starts B mx j).getD (i + 1) 0 := by
          simp [List.getD, List.getElem?_append, show i + 1 < (Cuts.starts B mx j).length by omega]
        rw [g2, List.getElem?_append_left (by omega)]
        exact ih (by omega)
    · rw [if_neg hc, if_neg hc]
      rw [Cuts.cutsTo, if_neg hc] at hi
      exact ih hi

/-- All pieces. -/
def pieces (g cap mx len : Nat) (B : Nat → Nat) (T : Nat) : List Value := closed g cap mx B T ++ [pieceV g cap (B (Cuts.cutsTo B mx T).2) len]
theorem length_pieces (g cap mx len : Nat) (B : Nat → Nat) (T : Nat) : (pieces g cap mx len B T).length = (Cuts.starts B mx T).length := by
  simp [pieces, length_closed, Cuts.length_starts]
theorem pieces_at (g cap mx len : Nat) (B : Nat → Nat) (T i : Nat) (hi : i < (Cuts.starts B mx T).length) :
    (pieces g cap mx len B T)[i]? = some (pieceV g cap (B ((Cuts.starts B mx T).getD i 0)) (if i + 1 < (Cuts.starts B mx T).length then B ((Cuts.starts B mx T).getD (i + 1) 0) else len)) := by
  have hl := length_closed g cap mx B T
  have hs := Cuts.length_starts B mx T
  unfold pieces
  by_cases h : i + 1 < (Cuts.starts B mx T).length
  · rw [if_pos h, List.getElem?_append_left (by omega)]
    exact closed_at g cap mx B T i (by omega)
  · rw [if_neg h]
    have e : i = (Cuts.cutsTo B mx T).1.length := by omega
    subst e
    rw [Cuts.starts_last, ← hl]
    simp

theorem Try.info22 : (Try.prog.info? 22).map (fun i => (i.zero, i.size, i.bytes)) = some (some (.slice none 0 0), 1, 24) := by kernel_rfl

theorem run_slice_from (g len cap l : Nat) (h1 : l ≤ len) (h2 : l < cap) (w : World) :
    (Instr.slice 22 (.slice (some ⟨g, 0, none⟩) len cap) (some (.int .i64 (l : Int))) none none).run Try.prog w = .ok (pieceV g cap l len) w := by
  have he : Try.prog.elem 22 = 5 := by kernel_rfl
  obtain ⟨i, hi, _, hz1, _⟩ := info_parts Try.info5
  rw [run_slice_l (P := Try.prog) w 22 (some ⟨g, 0, none⟩) len cap (by rw [he]; exact Try.underlying22) .i64 l (by omega) (by omega)]
  rw [he]
  simp [sizeOf, typeInfo, hi, hz1, Result.andThen, sliced, pieceV, Addr.add_lit, show ¬ cap = l by omega]
theorem run_slice_both (g len cap l h : Nat) (h0 : l ≤ h) (h1 : h ≤ cap) (h2 : l < cap) (w : World) :
    (Instr.slice 22 (.slice (some ⟨g, 0, none⟩) len cap) (some (.int .i64 (l : Int))) (some (.int .i64 (h : Int))) none).run Try.prog w = .ok (pieceV g cap l h) w := by
  have he : Try.prog.elem 22 = 5 := by kernel_rfl
  obtain ⟨i, hi, _, hz1, _⟩ := info_parts Try.info5
  rw [run_slice_lh (P := Try.prog) w 22 (some ⟨g, 0, none⟩) len cap (by rw [he]; exact Try.underlying22) .i64 .i64 l h (by omega) (by omega) (by omega)]
  rw [he]
  simp [sizeOf, typeInfo, hi, hz1, Result.andThen, sliced, pieceV, Addr.add_lit, show ¬ cap = l by omega]

end Go.Proofs.Qxb6603307a
