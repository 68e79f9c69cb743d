import Derived.Test.Qxb6603307aBase
import Derived.Laws.IdiomCopy
namespace Go.Proofs.Qxb6603307a
open Go.RowKit

/-- The bytes that a slice shows. -/
def shown (zs : List Int) (len : Nat) : List Nat := (zs.take len).map Int.toNat
theorem length_shown (zs : List Int) (len : Nat) (h : len ≤ zs.length) : (shown zs len).length = len := by simp [shown]; omega
theorem u8_bounds {n : Int} (h : (Lit.int .u8 n).wf = true) : 0 ≤ n ∧ n < 256 := by
  simp [Lit.wf, IntKind.min, IntKind.max, IntKind.signed, IntKind.bits] at h
  omega
theorem shown_lt (zs : List Int) (len : Nat) (hw : ∀ n ∈ zs, (Lit.int .u8 n).wf = true) : ∀ x ∈ shown zs len, x < 256 := by
  intro x hx
  obtain ⟨n, hn, rfl⟩ := List.mem_map.1 hx
  have := u8_bounds (hw n (List.mem_of_mem_take hn))
  omega

theorem setRow_alloc (w : World) (old cs : Array Value) (t : TypeId) : (w.alloc (.cells old t)).setRow w.heap.size cs = w.alloc (.cells cs t) := by
  have h : (w.heap.push (.cells old t)).modify w.heap.size (fun | .cells _ elem frozen => .cells cs elem frozen | o => o) = w.heap.push (.cells cs t) := by
    apply Array.ext
    · simp
    · intro i h1 h2
      rw [Array.getElem_modify]
      by_cases e : w.heap.size = i
      · subst e; simp
      · rw [if_neg e]
        simp only [Array.size_push] at h2
        rw [Array.getElem_push_lt (by omega), Array.getElem_push_lt (by omega)]
  exact congrArg (fun hp => ({ w with heap := hp } : World)) h

/-- 'zzc := make([]byte, len(s)); copy(zzc, s)': the copy's step. -/
theorem run_copy_bytes (w : World) (x : Addr) (len cap : Nat) (zs : List Int) (hlc : len ≤ cap) (hz : zs.length = cap)
    (hcell : ∀ i, i < zs.length → w.cell? (x.add i) = some (.int .u8 (zs.getD i 0))) (hw : ∀ n ∈ zs, (Lit.int .u8 n).wf = true) (ty : TypeId) :
    (Builtin.copy_ #[22, 22] ty #[.slice (some ⟨w.heap.size, 0, none⟩) len len, .slice (some x) len cap]).run Try.prog (w.alloc (.cells (bcells (List.replicate len 0)).toArray 5)) =
      .ok (.int .i64 (len : Int)) (w.alloc (.cells (bcells (shown zs len)).toArray 5)) := by
  have hs : (Try.prog.info? 5).map (·.size) = some 1 := by
    obtain ⟨i, hi, _, hz1, _⟩ := info_parts Try.info5
    rw [hi]; simp [hz1]
  have hlen : (bcells (shown zs len)).length = len := by rw [length_bcells, length_shown _ _ (by omega)]
  have hr := run_copy_row (P := Try.prog) (w.alloc (.cells (bcells (List.replicate len 0)).toArray 5)) 22 22 ty 5 w.heap.size 0 len len x len cap (bcells (List.replicate len 0)).toArray 5 (bcells (shown zs len))
    Try.underlying22 hs (heap_alloc_new w _) (by rw [hlen]; exact (Nat.min_self _).symm) ?_ (by rw [hlen]; simp [length_bcells]) ?_
  · rw [hr, hlen, setRow_alloc]
    have e : (bcells (List.replicate len 0)).toArray.toList.take 0 ++ bcells (shown zs len) ++ (bcells (List.replicate len 0)).toArray.toList.drop (0 + len) = bcells (shown zs len) := by
      have : (bcells (List.replicate len 0)).drop len = [] := List.drop_eq_nil_of_le (by simp [length_bcells])
      simp [this]
    rw [e]; rfl
  · intro j v hv
    have hj : j < len := by
      have := (List.getElem?_eq_some_iff.1 hv).1
      omega
    rw [bcells_at _ _ (by rw [length_shown _ _ (by omega)]; exact hj)] at hv
    have hc := hcell j (by omega)
    have hb : (x.add j).block < w.heap.size := by
      unfold World.cell? at hc
      cases hq : w.heap[(x.add j).block]? with
      | none => simp [hq] at hc
      | some o => exact (Array.getElem?_eq_some_iff.1 hq).1
    rw [World.cell?_alloc_lt w _ _ hb, hc, ← hv]
    have g : (shown zs len).getD j 0 = (zs.getD j 0).toNat := by
      simp [shown, List.getD, hj, show j < zs.length by omega]
    rw [g]
    have hm : zs.getD j 0 ∈ zs := by
      simp [List.getD, show j < zs.length by omega]
    have := u8_bounds (hw _ hm)
    rw [Int.toNat_of_nonneg this.1]
  · intro v hv
    simp only [bcells, List.mem_map] at hv
    obtain ⟨n, _, rfl⟩ := hv
    rfl

end Go.Proofs.Qxb6603307a
