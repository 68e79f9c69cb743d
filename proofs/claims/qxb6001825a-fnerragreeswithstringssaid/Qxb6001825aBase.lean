/-
  Rows of strings: what all walks of this seat lean on.
-/
import Derived.Test.Qxb6001825aRows
import Derived.WalkKit
import Derived.ProofKit
import Derived.WalkSpells
import Derived.WalkLawsBesides
namespace Go.Proofs.Qxb6001825a
open Go.RowKit

/-- What the walk is told of a slice of strings that came in: it is nil; or it leads to a row of 'cap' cells. -/
def IsStrs (w : World) (a : Option Addr) (len cap : Nat) (ss : List ByteArray) : Prop :=
  (a = none ∧ len = 0 ∧ cap = 0 ∧ ss = []) ∨
  ∃ x, a = some x ∧ len ≤ cap ∧ cap ≤ maxLen ∧ ss.length = cap ∧ (∀ i, i < ss.length → w.cell? (x.add i) = some (.string (ss.getD i ByteArray.empty))) ∧ ∀ s ∈ ss, s.size ≤ maxLen

/-- Strings as cells. -/
def scells (ss : List ByteArray) : List Value := ss.map Value.string
theorem length_scells (ss : List ByteArray) : (scells ss).length = ss.length := by simp [scells]
theorem scells_set (ss : List ByteArray) (j : Nat) (s : ByteArray) : (scells ss).set j (.string s) = scells (ss.set j s) := by simp [scells, List.map_set]
theorem scells_at (ss : List ByteArray) (j : Nat) (h : j < ss.length) : (scells ss)[j]? = some (.string (ss.getD j ByteArray.empty)) := by
  simp [scells, List.getD, h]

/-- Block g holds just the strings ss, and may be written. -/
def SRow (w : World) (g : Nat) (ss : List ByteArray) : Prop := w.heap[g]? = some (.cells (scells ss).toArray 9 (0, 0))

theorem SRow.lt {w : World} {g : Nat} {ss : List ByteArray} (h : SRow w g ss) : g < w.heap.size := (Array.getElem?_eq_some_iff.1 h).1
theorem SRow.cell {w : World} {g : Nat} {ss : List ByteArray} (h : SRow w g ss) (j : Nat) (hj : j < ss.length) : w.cell? ⟨g, j, none⟩ = some (.string (ss.getD j ByteArray.empty)) := by
  rw [cell_of_row w g j _ 9 (0, 0) h, List.getElem?_toArray, scells_at ss j hj]
theorem SRow.frozen {w : World} {g : Nat} {ss : List ByteArray} (h : SRow w g ss) (j : Nat) : w.frozen? ⟨g, j, none⟩ = false := frozen_of_row w g j _ 9 h
theorem SRow.set {w : World} {g : Nat} {ss : List ByteArray} (h : SRow w g ss) (j : Nat) (s : ByteArray) : SRow (w.setCell ⟨g, j, none⟩ (.string s)) g (ss.set j s) := by
  have := heap_setCell_same w g j _ 9 (.string s) h
  unfold SRow
  rw [this, List.setIfInBounds_toArray, scells_set]
theorem SRow.below {w w' : World} {g B : Nat} {ss : List ByteArray} (h : SRow w g ss) (hb : Below B w w') (hg : g < B) : SRow w' g ss := (hb.block g hg).trans h
theorem SRow.made (w : World) (ss : List ByteArray) : SRow (w.alloc (.cells (scells ss).toArray 9)) w.heap.size ss := heap_alloc_new w _

theorem Try.info9 : (Try.prog.info? 9).map (fun i => (i.zero, i.size, i.bytes)) = some (some (.string ByteArray.empty), 1, 16) := by kernel_rfl

/-- 'make([]string, n)'. -/
theorem run_make_strs (n : Nat) (hn : n ≤ 16777216) (w : World) :
    (Instr.makeSlice 22 (.int .i64 (n : Int)) (.int .i64 (n : Int))).run Try.prog w = .ok (.slice (some ⟨w.heap.size, 0, none⟩) n n) (w.alloc (.cells (scells (List.replicate n ByteArray.empty)).toArray 9)) := by
  obtain ⟨i, hi, hz0, hz1, hz2⟩ := info_parts Try.info9
  have hr := run_make (P := Try.prog) w 22 9 i (.string ByteArray.empty) Try.underlying22 hi hz0 .i64 .i64 n n (by omega) (Int.le_refl _) (by rw [hz2]; omega) (by omega)
  rw [hr, hz1]
  have e : madeCells (Value.string ByteArray.empty).cells ((n : Int).toNat * 1) = (scells (List.replicate n ByteArray.empty)).toArray := by
    apply Array.ext'
    have hc : (Value.string ByteArray.empty).cells = #[Value.string ByteArray.empty] := rfl
    rw [hc, Nat.mul_one, Int.toNat_natCast, toList_madeCells_one]
    simp [scells]
  rw [e, Int.toNat_natCast]

/-- What is read: nil, or the head of a block of strings. -/
def SSrc (w : World) (a : Option Addr) (ss : List ByteArray) : Prop := (a = none ∧ ss = []) ∨ ∃ g, a = some ⟨g, 0, none⟩ ∧ SRow w g ss
theorem SSrc.below {w w' : World} {a : Option Addr} {ss : List ByteArray} (h : SSrc w a ss) (hb : Below w.heap.size w w') : SSrc w' a ss := by
  rcases h with h | ⟨g, rfl, hr⟩
  · exact .inl h
  · exact .inr ⟨g, rfl, hr.below hb hr.lt⟩

/-- A row that is filled from its head by f, after k steps. -/
def fillTo (f : Nat → ByteArray) (n k : Nat) : List ByteArray := (List.range k).map f ++ List.replicate (n - k) ByteArray.empty
theorem length_fillTo (f : Nat → ByteArray) (n k : Nat) (h : k ≤ n) : (fillTo f n k).length = n := by simp [fillTo]; omega
theorem fillTo_zero (f : Nat → ByteArray) (n : Nat) : fillTo f n 0 = List.replicate n ByteArray.empty := by simp [fillTo]
theorem fillTo_succ (f : Nat → ByteArray) (n k : Nat) (h : k < n) : (fillTo f n k).set k (f k) = fillTo f n (k + 1) := by
  unfold fillTo
  have e : List.replicate (n - k) ByteArray.empty = ByteArray.empty :: List.replicate (n - (k + 1)) ByteArray.empty := by
    rw [show n - k = (n - (k + 1)) + 1 by omega, List.replicate_succ]
  rw [e, List.set_append_right _ _ (by simp)]
  simp [List.range_succ]
theorem fillTo_at (f : Nat → ByteArray) (n k i : Nat) (h : i < k) : (fillTo f n k).getD i ByteArray.empty = f i := by
  simp [fillTo, List.getD, List.getElem?_append, h]

theorem block_lt {w : World} {p : Addr} {v : Value} (hc : w.cell? p = some v) : p.block < w.heap.size := by
  unfold World.cell? at hc
  cases hq : w.heap[p.block]? with
  | none => simp [hq] at hc
  | some o => exact (Array.getElem?_eq_some_iff.1 hq).1

end Go.Proofs.Qxb6001825a
