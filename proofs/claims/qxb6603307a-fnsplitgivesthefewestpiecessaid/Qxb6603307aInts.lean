import Derived.Test.Qxb6603307aBase
namespace Go.Proofs.Qxb6603307a
open Go.RowKit

/-- Ints as cells. -/
def icells (ns : List Nat) : List Value := ns.map fun n : Nat => Value.int .i64 (n : Int)
theorem length_icells (ns : List Nat) : (icells ns).length = ns.length := by simp [icells]
theorem icells_set (ns : List Nat) (j v : Nat) : (icells ns).set j (.int .i64 (v : Int)) = icells (ns.set j v) := by simp [icells, List.map_set]
theorem icells_at (ns : List Nat) (j : Nat) (h : j < ns.length) : (icells ns)[j]? = some (.int .i64 ((ns.getD j 0 : Nat) : Int)) := by
  simp [icells, List.getD, h]

/-- Block g holds just the ints ns, and may be written. -/
def IRow (w : World) (g : Nat) (ns : List Nat) : Prop := w.heap[g]? = some (.cells (icells ns).toArray 3 (0, 0))

theorem IRow.lt {w : World} {g : Nat} {ns : List Nat} (h : IRow w g ns) : g < w.heap.size := (Array.getElem?_eq_some_iff.1 h).1
theorem IRow.cell {w : World} {g : Nat} {ns : List Nat} (h : IRow w g ns) (j : Nat) (hj : j < ns.length) : w.cell? ⟨g, j, none⟩ = some (.int .i64 ((ns.getD j 0 : Nat) : Int)) := by
  rw [cell_of_row w g j _ 3 (0, 0) h, List.getElem?_toArray, icells_at ns j hj]
theorem IRow.frozen {w : World} {g : Nat} {ns : List Nat} (h : IRow w g ns) (j : Nat) : w.frozen? ⟨g, j, none⟩ = false := frozen_of_row w g j _ 3 h
theorem IRow.set {w : World} {g : Nat} {ns : List Nat} (h : IRow w g ns) (j v : Nat) : IRow (w.setCell ⟨g, j, none⟩ (.int .i64 (v : Int))) g (ns.set j v) := by
  have := heap_setCell_same w g j _ 3 (.int .i64 (v : Int)) h
  unfold IRow
  rw [this, List.setIfInBounds_toArray, icells_set]
theorem IRow.below {w w' : World} {g B : Nat} {ns : List Nat} (h : IRow w g ns) (hb : Below B w w') (hg : g < B) : IRow w' g ns := (hb.block g hg).trans h
theorem IRow.made (w : World) (ns : List Nat) : IRow (w.alloc (.cells (icells ns).toArray 3)) w.heap.size ns := heap_alloc_new w _

theorem Try.info3 : (Try.prog.info? 3).map (fun i => (i.zero, i.size, i.bytes)) = some (some (.int .i64 0), 1, 8) := by kernel_rfl

/-- 'make([]int, n)'. -/
theorem run_make_ints (n : Nat) (hn : n ≤ 16777216) (w : World) :
    (Instr.makeSlice 30 (.int .i64 (n : Int)) (.int .i64 (n : Int))).run Try.prog w = .ok (.slice (some ⟨w.heap.size, 0, none⟩) n n) (w.alloc (.cells (icells (List.replicate n 0)).toArray 3)) := by
  obtain ⟨i, hi, hz0, hz1, hz2⟩ := info_parts Try.info3
  have hr := run_make (P := Try.prog) w 30 3 i (.int .i64 0) Try.underlying30 hi hz0 .i64 .i64 n n (by omega) (Int.le_refl _) (by rw [hz2]; omega) (by omega)
  rw [hr, hz1]
  have e : madeCells (Value.int .i64 0).cells ((n : Int).toNat * 1) = (icells (List.replicate n 0)).toArray := by
    apply Array.ext'
    have hc : (Value.int .i64 0).cells = #[Value.int .i64 0] := rfl
    rw [hc, Nat.mul_one, Int.toNat_natCast, toList_madeCells_one]
    simp [icells]
  rw [e, Int.toNat_natCast]

/-- A row that is filled from its head by f, after k steps. -/
def fillTo (f : Nat → Nat) (n k : Nat) : List Nat := (List.range k).map f ++ List.replicate (n - k) 0
theorem length_fillTo (f : Nat → Nat) (n k : Nat) (h : k ≤ n) : (fillTo f n k).length = n := by simp [fillTo]; omega
theorem fillTo_zero (f : Nat → Nat) (n : Nat) : fillTo f n 0 = List.replicate n 0 := by simp [fillTo]
theorem fillTo_succ (f : Nat → Nat) (n k : Nat) (h : k < n) : (fillTo f n k).set k (f k) = fillTo f n (k + 1) := by
  unfold fillTo
  have e : List.replicate (n - k) 0 = 0 :: List.replicate (n - (k + 1)) 0 := by
    rw [show n - k = (n - (k + 1)) + 1 by omega, List.replicate_succ]
  rw [e, List.set_append_right _ _ (by simp)]
  simp [List.range_succ]
theorem fillTo_at (f : Nat → Nat) (n k i : Nat) (h : i < k) : (fillTo f n k).getD i 0 = f i := by
  simp [fillTo, List.getD, List.getElem?_append, h]

end Go.Proofs.Qxb6603307a
