/-
  Blocks of bytes: what all walks of this seat lean on.
-/
import Derived.Test.Qxb6603307aRows
import Derived.Test.Qxb6603307aPlain
import Derived.WalkKit
import Derived.ProofKit
import Derived.WalkSpells
import Derived.WalkLawsBesides
namespace Go.Proofs.Qxb6603307a
open Go.RowKit

/-- Bytes as cells. -/
def bcells (ns : List Nat) : List Value := ns.map fun n : Nat => Value.int .u8 (n : Int)
theorem length_bcells (ns : List Nat) : (bcells ns).length = ns.length := by simp [bcells]
theorem bcells_set (ns : List Nat) (j v : Nat) : (bcells ns).set j (.int .u8 (v : Int)) = bcells (ns.set j v) := by simp [bcells, List.map_set]
theorem bcells_at (ns : List Nat) (j : Nat) (h : j < ns.length) : (bcells ns)[j]? = some (.int .u8 ((ns.getD j 0 : Nat) : Int)) := by
  simp [bcells, List.getD, h]

/-- Block g holds just the bytes ns, and may be written. -/
def Row (w : World) (g : Nat) (ns : List Nat) : Prop := w.heap[g]? = some (.cells (bcells ns).toArray 5 (0, 0))

theorem Row.lt {w : World} {g : Nat} {ns : List Nat} (h : Row w g ns) : g < w.heap.size := (Array.getElem?_eq_some_iff.1 h).1
theorem Row.cell {w : World} {g : Nat} {ns : List Nat} (h : Row w g ns) (j : Nat) (hj : j < ns.length) : w.cell? ⟨g, j, none⟩ = some (.int .u8 ((ns.getD j 0 : Nat) : Int)) := by
  rw [cell_of_row w g j _ 5 (0, 0) h, List.getElem?_toArray, bcells_at ns j hj]
theorem Row.frozen {w : World} {g : Nat} {ns : List Nat} (h : Row w g ns) (j : Nat) : w.frozen? ⟨g, j, none⟩ = false := frozen_of_row w g j _ 5 h
theorem Row.set {w : World} {g : Nat} {ns : List Nat} (h : Row w g ns) (j v : Nat) : Row (w.setCell ⟨g, j, none⟩ (.int .u8 (v : Int))) g (ns.set j v) := by
  have := heap_setCell_same w g j _ 5 (.int .u8 (v : Int)) h
  unfold Row
  rw [this, List.setIfInBounds_toArray, bcells_set]
theorem Row.below {w w' : World} {g B : Nat} {ns : List Nat} (h : Row w g ns) (hb : Below B w w') (hg : g < B) : Row w' g ns := (hb.block g hg).trans h
theorem Row.made (w : World) (ns : List Nat) : Row (w.alloc (.cells (bcells ns).toArray 5)) w.heap.size ns := heap_alloc_new w _
theorem Row.drew {w : World} {g : Nat} {ns : List Nat} (h : Row w g ns) : Row w.drew g ns := h

theorem Try.info5 : (Try.prog.info? 5).map (fun i => (i.zero, i.size, i.bytes)) = some (some (.int .u8 0), 1, 1) := by kernel_rfl

/-- 'make([]byte, n)'. -/
theorem run_make_bytes (n : Nat) (hn : n ≤ 281474976710656) (w : World) :
    (Instr.makeSlice 22 (.int .i64 (n : Int)) (.int .i64 (n : Int))).run Try.prog w = .ok (.slice (some ⟨w.heap.size, 0, none⟩) n n) (w.alloc (.cells (bcells (List.replicate n 0)).toArray 5)) := by
  obtain ⟨i, hi, hz0, hz1, hz2⟩ := info_parts Try.info5
  have hr := run_make (P := Try.prog) w 22 5 i (.int .u8 0) Try.underlying22 hi hz0 .i64 .i64 n n (by omega) (Int.le_refl _) (by rw [hz2]; omega) (by omega)
  rw [hr, hz1]
  have e : madeCells (Value.int .u8 0).cells ((n : Int).toNat * 1) = (bcells (List.replicate n 0)).toArray := by
    apply Array.ext'
    have hc : (Value.int .u8 0).cells = #[Value.int .u8 0] := rfl
    rw [hc, Nat.mul_one, Int.toNat_natCast, toList_madeCells_one]
    simp [bcells]
  rw [e, Int.toNat_natCast]

/-- What the walk is told of a slice of integers that came in: it is nil; or it leads to a row of 'cap' cells. -/
def IsRow (k : IntKind) (w : World) (a : Option Addr) (len cap : Nat) (zs : List Int) : Prop :=
  (a = none ∧ len = 0 ∧ cap = 0 ∧ zs = []) ∨
  ∃ x, a = some x ∧ len ≤ cap ∧ cap ≤ maxLen ∧ zs.length = cap ∧ (∀ i, i < zs.length → w.cell? (x.add i) = some (.int k (zs.getD i 0))) ∧ ∀ n ∈ zs, (Lit.int k n).wf = true

/-- What is read: nil, or the head of a block of bytes. -/
def Src (w : World) (a : Option Addr) (ns : List Nat) : Prop := (a = none ∧ ns = []) ∨ ∃ g, a = some ⟨g, 0, none⟩ ∧ Row w g ns

theorem Src.below {w w' : World} {a : Option Addr} {ns : List Nat} (h : Src w a ns) (hb : Below w.heap.size w w') : Src w' a ns := by
  rcases h with h | ⟨g, rfl, hr⟩
  · exact .inl h
  · exact .inr ⟨g, rfl, hr.below hb hr.lt⟩
theorem Src.row {w : World} {g : Nat} {ns : List Nat} (h : Row w g ns) : Src w (some ⟨g, 0, none⟩) ns := .inr ⟨g, rfl, h⟩
theorem Src.toRow {w : World} {g : Nat} {ns : List Nat} (h : Src w (some ⟨g, 0, none⟩) ns) : Row w g ns := by
  rcases h with ⟨h, _⟩ | ⟨g', h, hr⟩
  · simp at h
  · simp at h; subst h; exact hr

theorem shr_cast (x s : Nat) : (x : Int) / 2 ^ s = ((x >>> s : Nat) : Int) := by
  rw [Nat.shiftRight_eq_div_pow, Int.natCast_ediv, Int.natCast_pow]; rfl
theorem shl_cast (x s : Nat) : (x : Int) * 2 ^ s % 256 = (((x <<< s) % 256 : Nat) : Int) := by
  rw [Nat.shiftLeft_eq, Int.natCast_emod, Int.natCast_mul, Int.natCast_pow]; rfl
theorem shr_lt {x : Nat} (h : x < 256) (s : Nat) : x >>> s < 256 := by
  rw [Nat.shiftRight_eq_div_pow]; exact Nat.lt_of_le_of_lt (Nat.div_le_self _ _) h
theorem or_lt {x y : Nat} (h : x < 256) (k : y < 256) : x ||| y < 256 := Nat.or_lt_two_pow (n := 8) h k

theorem and127 (x : Nat) (h : x < 256) : bits .and .u8 (x : Int) 127 = ((x &&& 127 : Nat) : Int) := u8_and_nat x 127 h (by decide)
theorem and1 (x : Nat) (h : x < 256) : bits .and .u8 (x : Int) 1 = ((x &&& 1 : Nat) : Int) := u8_and_nat x 1 h (by decide)

theorem i64_bounds {n : Int} (h : (Lit.int .i64 n).wf = true) : -9223372036854775808 ≤ n ∧ n ≤ 9223372036854775807 := by
  simp [Lit.wf, IntKind.min, IntKind.max, IntKind.signed, IntKind.bits] at h
  omega

end Go.Proofs.Qxb6603307a
