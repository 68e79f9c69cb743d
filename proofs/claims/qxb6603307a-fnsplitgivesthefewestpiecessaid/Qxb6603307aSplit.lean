import Derived.Test.Qxb6603307aChars
import Derived.Test.Qxb6603307aBase
import Derived.Test.Qxb6603307aCopy
namespace Go.Proofs.Qxb6603307a
open Go.RowKit

/-! ### zzSplitCharLen, codeLength, zzSplitInDomain -/
set_option maxHeartbeats 400000 in
theorem charLen_any (a c : Nat) (ha : a = 0 ∨ a = 2) (hc : c < 256) (w : World) :
    Calls Try.prog 14 #[.int .u8 (a : Int), .int .u8 (c : Int)] w fun e w' => e = .returned (.int .i64 ((Cuts.cl a c : Nat) : Int)) ∧ w' = w := by
  rcases ha with rfl | rfl
  · by_cases h : c = 27
    · subst h
      go_enter Try.func14, Try.ntmps14
      go_wp2
      go_ret
      exact ⟨rfl, rfl⟩
    · have h1 : ((c : Int) == 27) = false := by rw [beq_eq_false_iff_ne]; omega
      have hv : Hid (Cuts.cl 0 c = 1) := by show Cuts.cl 0 c = 1; simp [Cuts.cl, h]
      go_enter Try.func14, Try.ntmps14
      go_wp2
      go_ret
      exact ⟨by rw [hv.out]; rfl, rfl⟩
  · by_cases h : 216 ≤ c ∧ c ≤ 219
    · have hv : Hid (Cuts.cl 2 c = 4) := by show Cuts.cl 2 c = 4; simp [Cuts.cl, h]
      obtain ⟨h1, h2⟩ := h
      go_enter Try.func14, Try.ntmps14
      go_wp2
      go_ret
      exact ⟨by rw [hv.out]; rfl, rfl⟩
    · have hv : Hid (Cuts.cl 2 c = 2) := by show Cuts.cl 2 c = 2; simp only [Cuts.cl, h]; rfl
      rcases (show c < 216 ∨ (216 ≤ c ∧ 219 < c) by omega) with h1 | ⟨h1, h2⟩
      all_goals
        go_enter Try.func14, Try.ntmps14
        go_wp2
        go_ret
        exact ⟨by rw [hv.out]; rfl, rfl⟩

set_option maxHeartbeats 400000 in
theorem codeLen_any (a c g s len cap : Nat) (ha : a = 0 ∨ a = 2) (hc : c < 256) (hl : 0 < len) (w : World) (hcell : w.cell? ⟨g, s, none⟩ = some (.int .u8 (c : Int))) :
    Calls Try.prog 24 #[.int .u8 (a : Int), .slice (some ⟨g, s, none⟩) len cap] w fun e w' => e = .returned (.int .i64 ((Cuts.cl a c : Nat) : Int)) ∧ w' = w := by
  have hl' : (0 : Int) < (len : Int) := by omega
  rcases ha with rfl | rfl
  · by_cases h : c = 27
    · subst h
      go_enter Try.func24, Try.ntmps24
      go_wp2
      go_ret
      exact ⟨rfl, rfl⟩
    · have h1 : ((c : Int) == 27) = false := by rw [beq_eq_false_iff_ne]; omega
      have hv : Hid (Cuts.cl 0 c = 1) := by show Cuts.cl 0 c = 1; simp [Cuts.cl, h]
      go_enter Try.func24, Try.ntmps24
      go_wp2
      go_ret
      exact ⟨by rw [hv.out]; rfl, rfl⟩
  · by_cases h : 216 ≤ c ∧ c ≤ 219
    · have hv : Hid (Cuts.cl 2 c = 4) := by show Cuts.cl 2 c = 4; simp [Cuts.cl, h]
      obtain ⟨h1, h2⟩ := h
      go_enter Try.func24, Try.ntmps24
      go_wp2
      go_ret
      exact ⟨by rw [hv.out]; rfl, rfl⟩
    · have hv : Hid (Cuts.cl 2 c = 2) := by show Cuts.cl 2 c = 2; simp only [Cuts.cl, h]; rfl
      rcases (show c < 216 ∨ (216 ≤ c ∧ 219 < c) by omega) with h1 | ⟨h1, h2⟩
      all_goals
        go_enter Try.func24, Try.ntmps24
        go_wp2
        go_ret
        exact ⟨by rw [hv.out]; rfl, rfl⟩

set_option maxHeartbeats 400000 in
theorem domain_yes (a mx : Nat) (ha : a = 0 ∨ a = 2) (h : Cuts.top a ≤ mx) (w : World) :
    Calls Try.prog 11 #[.int .u8 (a : Int), .int .i64 (mx : Int)] w fun e w' => e = .returned (.bool true) ∧ w' = w := by
  rcases ha with rfl | rfl
  all_goals
    simp only [Cuts.top] at h
    have h' := h
    simp at h'
    clear h
    go_enter Try.func11, Try.ntmps11
    go_wp2
    go_ret
    refine ⟨?_, rfl⟩
    simp
    omega

set_option maxHeartbeats 400000 in
theorem domain_no (a l : Int) (h : ¬ (a = 0 ∧ 2 ≤ l) ∧ ¬ (a = 2 ∧ 4 ≤ l)) (w : World) :
    Calls Try.prog 11 #[.int .u8 a, .int .i64 l] w fun e w' => e = .returned (.bool false) ∧ w' = w := by
  by_cases h0 : a = 0
  · subst h0
    have h1 : ¬ 2 ≤ l := by omega
    clear h
    go_enter Try.func11, Try.ntmps11
    go_wp2
    go_ret
    refine ⟨?_, rfl⟩
    simp
  · have e0 : (a == 0) = false := by rw [beq_eq_false_iff_ne]; exact h0
    by_cases h2 : a = 2
    · subst h2
      have h1 : ¬ 4 ≤ l := by omega
      clear h
      go_enter Try.func11, Try.ntmps11
      go_wp2
      go_ret
      refine ⟨?_, rfl⟩
      simp
    · have e2 : (a == 2) = false := by rw [beq_eq_false_iff_ne]; exact h2
      clear h h0 h2
      go_enter Try.func11, Try.ntmps11
      go_wp2
      go_ret
      exact ⟨rfl, rfl⟩

/-! ### zzCloneBytes -/
/-- The clone after k rounds. -/
def cloneTo (ns : List Nat) (k : Nat) : List Nat := ns.take k ++ List.replicate (ns.length - k) 0
theorem length_cloneTo (ns : List Nat) (k : Nat) (h : k ≤ ns.length) : (cloneTo ns k).length = ns.length := by simp [cloneTo]; omega
theorem cloneTo_zero (ns : List Nat) : cloneTo ns 0 = List.replicate ns.length 0 := by simp [cloneTo]
theorem cloneTo_full (ns : List Nat) : cloneTo ns ns.length = ns := by simp [cloneTo]
theorem cloneTo_succ (ns : List Nat) (k : Nat) (h : k < ns.length) : (cloneTo ns k).set k (ns.getD k 0) = cloneTo ns (k + 1) := by
  unfold cloneTo
  have e : List.replicate (ns.length - k) 0 = 0 :: List.replicate (ns.length - (k + 1)) 0 := by
    rw [show ns.length - k = (ns.length - (k + 1)) + 1 by omega, List.replicate_succ]
  rw [e, List.set_append_right _ _ (by simp; omega), List.take_succ_eq_append_getElem h, List.append_assoc]
  congr 1
  simp [List.getD, h, Nat.min_eq_left (Nat.le_of_lt h)]

theorem clone_nil (w : World) : Calls Try.prog 12 #[.slice none 0 0] w fun e w' => e = .returned (.slice none 0 0) ∧ w' = w := by
  have hnil := fun w : World => Lib.run_eql_slice_nil (P := Try.prog) w 22 5 none 0 0 0 0 Try.underlying22
  go_enter Try.func12, Try.ntmps12
  go_wp2
  go_ret
  exact ⟨rfl, rfl⟩

set_option maxHeartbeats 400000 in
theorem clone_some (x : Addr) (len cap : Nat) (zs : List Int) (w : World) (hlc : len ≤ cap) (hz : zs.length = cap)
    (hcell : ∀ i, i < zs.length → w.cell? (x.add i) = some (.int .u8 (zs.getD i 0))) (hw : ∀ n ∈ zs, (Lit.int .u8 n).wf = true) (hl : len ≤ 1048576) :
    Calls Try.prog 12 #[.slice (some x) len cap] w fun e w' => e = .returned (.slice (some ⟨w.heap.size, 0, none⟩) len len) ∧ Row w' w.heap.size (shown zs len) ∧ Below w.heap.size w w' := by
  have hmk := run_make_bytes len (by omega)
  have hnil := fun w : World => Lib.run_eql_slice_nil (P := Try.prog) w 22 5 (some x) len cap 0 0 Try.underlying22
  have hlen := length_shown zs len (by omega)
  have hbl : ∀ j, j < len → (x.add j).block < w.heap.size ∧ w.cell? (x.add j) = some (.int .u8 (((shown zs len).getD j 0 : Nat) : Int)) := by
    intro j hj
    have hc := hcell j (by omega)
    refine ⟨?_, ?_⟩
    · unfold World.cell? at hc
      cases hq : w.heap[(x.add j).block]? with
      | none => simp [hq] at hc
      | some o => exact (Array.getElem?_eq_some_iff.1 hq).1
    · rw [hc]
      have g : (shown zs len).getD j 0 = (zs.getD j 0).toNat := by
        simp [shown, List.getD, hj, show j < zs.length by omega]
      have hm : zs.getD j 0 ∈ zs := by
        simp [List.getD, show j < zs.length by omega]
      rw [g, Int.toNat_of_nonneg (u8_bounds (hw _ hm)).1]
  generalize shown zs len = ns at hbl hlen
  have HL : Hid (ns.length = len) := hlen
  have HC : Hid (∀ j, j < len → (x.add j).block < w.heap.size ∧ w.cell? (x.add j) = some (.int .u8 ((ns.getD j 0 : Nat) : Int))) := hbl
  clear hlen hcell hw hz hbl
  go_enter Try.func12, Try.ntmps12
  go_wp2
  go_loopw [4] (fun i wr => ∃ k : Nat, k ≤ len ∧ i = .int .i64 k ∧ Row wr w.heap.size (cloneTo ns k) ∧ Below w.heap.size w wr) (fun i _ => len - (intOf i).toNat)
  case atStart => exact ⟨0, Nat.zero_le _, rfl, by rw [cloneTo_zero, HL.out]; exact Row.made _ _, (Below.refl _ _).alloc (Nat.le_refl _) _⟩
  case round =>
    obtain ⟨k, hk, rfl, hr, hb⟩ := hrel
    by_cases hlt : k < len
    · have cs : wr.cell? (x.add k) = some (.int .u8 ((ns.getD k 0 : Nat) : Int)) := (hb.cell (HC.out k hlt).1).trans (HC.out k hlt).2
      have cw := hr.cell k (by rw [length_cloneTo _ _ (by rw [HL.out]; omega), HL.out]; exact hlt)
      have fz := hr.frozen k
      have hst := cloneTo_succ ns k (by rw [HL.out]; exact hlt)
      generalize ns.getD k 0 = y at cs hst
      have HS : Hid ((cloneTo ns k).set k y = cloneTo ns (k + 1)) := hst
      clear hst
      go_wp2
      go_roundw
      case rel => exact ⟨k + 1, by omega, by go_num, by rw [← HS.out]; exact hr.set _ _, hb.setCell (Nat.le_refl _) _⟩
      case measure => simp [intOf]; omega
    · go_wp2
      go_ret
      have e : k = ns.length := by rw [HL.out]; omega
      rw [e, cloneTo_full] at hr
      exact ⟨rfl, hr, hb⟩

end Go.Proofs.Qxb6603307a
