import Derived.Test.Qxb6001825aBase
import Derived.RegionTactic
import Derived.Deep.QuietTactic
import Derived.BigQuiet
namespace Go.Proofs.Qxb6001825a
open Go.RowKit

/-- The line of an entry. -/
def line (f c : ByteArray) : ByteArray := f ++ ⟨#[58, 32]⟩ ++ c

set_option maxHeartbeats 400000 in
theorem string_any (f c : ByteArray) (w : World) (hf : f.size ≤ 1048576) (hc : c.size ≤ 1048576) :
    Calls Try.prog 13 #[.agg #[.string f, .string c]] w fun e w' => e = .returned (.string (line f c)) ∧ Below w.heap.size w w' := by
  go_enter Try.func13, Try.ntmps13
  go_wp2
  go_ret
  exact ⟨rfl, (Below.refl _ _).alloc (Nat.le_refl _) _⟩

set_option maxHeartbeats 400000 in
theorem strings_zero (a : Option Addr) (c : Nat) (w : World) :
    Calls Try.prog 8 #[.slice a 0 c] w fun e w' => e = .returned (.slice (some ⟨w.heap.size, 0, none⟩) 0 0) ∧ Below w.heap.size w w' := by
  have hmk : ∀ w : World, (Instr.makeSlice 22 (.int .i64 0) (.int .i64 0)).run Try.prog w = .ok (.slice (some ⟨w.heap.size, 0, none⟩) 0 0) (w.alloc (.cells (scells []).toArray 9)) := fun w => run_make_strs 0 (by omega) w
  go_enter Try.func8, Try.ntmps8
  go_wp2
  refine wp_loop_rounds 1 ?_
  rw [rounds_succ]
  go_wp2
  go_ret
  exact ⟨rfl, (Below.refl _ _).alloc (Nat.le_refl _) _⟩

set_option maxHeartbeats 1000000 in
theorem strings_some (g n c : Nat) (F C : Nat → ByteArray) (w : World) (hg : g < w.heap.size) (hcell : ∀ i, i < n → w.cell? ⟨g, i * 2, none⟩ = some (.string (F i)) ∧ w.cell? ⟨g, i * 2 + 1, none⟩ = some (.string (C i)))
    (hF : ∀ i, i < n → (F i).size ≤ 1048576) (hC : ∀ i, i < n → (C i).size ≤ 1048576) (hn : n ≤ 65536) :
    Calls Try.prog 8 #[.slice (some ⟨g, 0, none⟩) n c] w fun e w' => e = .returned (.slice (some ⟨w.heap.size, 0, none⟩) n n) ∧ SRow w' w.heap.size (fillTo (fun i => line (F i) (C i)) n n) ∧ Below w.heap.size w w' := by
  have hmk := run_make_strs n (by omega)
  have HC : Hid ((∀ i, i < n → w.cell? ⟨g, i * 2, none⟩ = some (.string (F i)) ∧ w.cell? ⟨g, i * 2 + 1, none⟩ = some (.string (C i))) ∧ (∀ i, i < n → (F i).size ≤ 1048576) ∧ ∀ i, i < n → (C i).size ≤ 1048576) := ⟨hcell, hF, hC⟩
  clear hcell hF hC
  obtain ⟨f, hf⟩ : ∃ f : Nat → ByteArray, f = fun i => line (F i) (C i) := ⟨_, rfl⟩
  rw [← hf]
  have HF : Hid (∀ i, f i = line (F i) (C i)) := by rw [hf]; exact fun _ => rfl
  clear hf
  go_enter Try.func8, Try.ntmps8
  go_wp2
  go_loopw [11] (fun i wr => ∃ k : Nat, k ≤ n ∧ i = .int .i64 k ∧ SRow wr w.heap.size (fillTo f n k) ∧ Below w.heap.size w wr) (fun i _ => n - (intOf i).toNat)
  case atStart => exact ⟨0, Nat.zero_le _, rfl, by rw [fillTo_zero]; exact SRow.made _ _, (Below.refl _ _).alloc (Nat.le_refl _) _⟩
  case round =>
    obtain ⟨k, hk, rfl, hr, hb⟩ := hrel
    by_cases hlt : k < n
    · have q1 := (hb.cell (p := ⟨g, k * 2, none⟩) hg).trans (HC.out.1 k hlt).1
      have q2 := (hb.cell (p := ⟨g, k * 2 + 1, none⟩) hg).trans (HC.out.1 k hlt).2
      have z1 := HC.out.2.1 k hlt
      have z2 := HC.out.2.2 k hlt
      have hst := fillTo_succ f n k hlt
      rw [HF.out] at hst
      generalize F k = fk at q1 z1 hst
      generalize C k = ck at q2 z2 hst
      have HS : Hid ((fillTo f n k).set k (line fk ck) = fillTo f n (k + 1)) := hst
      clear hst
      go_wp2_with fail
      refine (string_any fk ck _ z1 z2).mono ?_
      rintro e w1 ⟨rfl, hb1⟩
      have hbc : Below wr.heap.size wr w1 := ((Below.refl _ _).alloc (Nat.le_refl _) _).trans (hb1.mono (by simp))
      have hr1 := hr.below hbc hr.lt
      have cw := hr1.cell k (by rw [length_fillTo _ _ _ hk]; exact hlt)
      have fz := hr1.frozen k
      generalize (fillTo f n k).getD k ByteArray.empty = y0 at cw
      clear hb1 q1 q2 hr
      generalize line fk ck = ln at HS ⊢
      go_wp2
      go_roundw
      case rel => exact ⟨k + 1, by omega, by go_num, by rw [← HS.out]; exact hr1.set _ _, (hb.trans (hbc.mono hb.size)).setCell (Nat.le_refl _) _⟩
      case measure => simp [intOf]; omega
    · go_wp2
      go_ret
      have e : k = n := by omega
      rw [e] at hr
      exact ⟨rfl, hr, hb⟩

/-! ### Err -/
theorem err_zero (a : Option Addr) (c : Nat) (w : World) : Calls Try.prog 9 #[.slice a 0 c] w fun e w' => e = .returned .nilIface ∧ w' = w := by
  go_enter Try.func9, Try.ntmps9
  go_wp2
  go_ret
  exact ⟨rfl, rfl⟩
theorem err_some (a : Option Addr) (n c : Nat) (h : 0 < n) (w : World) : Calls Try.prog 9 #[.slice a n c] w fun e w' => e = .returned (.iface 27 (.slice a n c)) ∧ w' = w := by
  have h0 : ((n : Int) == 0) = false := by rw [beq_eq_false_iff_ne]; omega
  go_enter Try.func9, Try.ntmps9
  go_wp2
  go_ret
  exact ⟨rfl, rfl⟩

/-! ### isEntryLine -/
set_option maxHeartbeats 400000 in
theorem isLine_any (L f c : ByteArray) (w : World) (hf : f.size ≤ 1048576) (hc : c.size ≤ 1048576) (hL : L.size = f.size + 2 + c.size)
    (h1 : ∀ i (h : i < f.size) (h' : i < L.size), L[i]'h' = f[i]'h) (h2 : ∀ h : f.size < L.size, L[f.size]'h = 58) (h3 : ∀ h : f.size + 1 < L.size, L[f.size + 1]'h = 32) (h4 : ∀ i (h : i < c.size) (h' : f.size + 2 + i < L.size), L[f.size + 2 + i]'h' = c[i]'h) :
    Calls Try.prog 10 #[.string L, .string f, .string c] w fun e w' => e = .returned (.bool true) ∧ ∃ m, w' = w.drewN m := by
  have q0 : ((L.size : Int) != (f.size : Int) + 2 + (c.size : Int)) = false := by rw [bne_eq_false_iff_eq]; omega
  have hLi : f.size + 2 + c.size ≤ L.size := by omega
  have H : Hid ((∀ i (h : i < f.size) (h' : i < L.size), L[i]'h' = f[i]'h) ∧ ∀ i (h : i < c.size) (h' : f.size + 2 + i < L.size), L[f.size + 2 + i]'h' = c[i]'h) := ⟨h1, h4⟩
  clear hL h1 h4
  have l2 : f.size < L.size := by omega
  have l3 : f.size + 1 < L.size := by omega
  have g2 := h2 l2
  have g3 := h3 l3
  clear h2 h3
  go_enter Try.func10, Try.ntmps10
  go_wp2
  go_loopw [7] (fun i wr => ∃ k : Nat, k ≤ f.size ∧ i = .int .i64 k ∧ ∃ m, wr = w.drewN m) (fun i _ => f.size - (intOf i).toNat)
  case atStart => exact ⟨0, Nat.zero_le _, rfl, 0, rfl⟩
  case round =>
    obtain ⟨k, hk, rfl, nq, rfl⟩ := hrel
    by_cases hlt : k < f.size
    · have hLk : k < L.size := by omega
      have e1 : L[k]'hLk = f[k]'hlt := H.out.1 k hlt hLk
      go_wp2
      go_region
      go_wp2
      go_roundw
      case rel => exact ⟨k + 1, by omega, by go_num, nq + 1, rfl⟩
      case measure => simp [intOf]; omega
    · go_wp2
      go_loopw [9] (fun i wr => ∃ j : Nat, j ≤ c.size ∧ i = .int .i64 j ∧ ∃ m, wr = w.drewN m) (fun i _ => c.size - (intOf i).toNat)
      case atStart => exact ⟨0, Nat.zero_le _, rfl, nq, rfl⟩
      case round =>
        obtain ⟨j, hj, rfl, nq, rfl⟩ := hrel
        by_cases hlt2 : j < c.size
        · have hLj : f.size + 2 + j < L.size := by omega
          have e1 : L[f.size + 2 + j]'hLj = c[j]'hlt2 := H.out.2 j hlt2 hLj
          have n1 : IntKind.i64.wrap ((f.size : Int) + 2 + (j : Int)) = (f.size : Int) + 2 + (j : Int) := by rw [IntKind.wrap_i64]; omega
          have n2 : ((f.size : Int) + 2 + (j : Int)).toNat = f.size + 2 + j := by omega
          have n3 : (0 : Int) ≤ (f.size : Int) + 2 + (j : Int) := by omega
          have n4 : (f.size : Int) + 2 + (j : Int) < (L.size : Int) := by omega
          go_wp2
          go_region
          go_wp2
          go_roundw
          case rel => exact ⟨j + 1, by omega, by go_num, nq + 1, rfl⟩
          case measure => simp [intOf]; omega
        · go_wp2
          go_ret
          exact ⟨rfl, nq, rfl⟩

theorem line_size (f c : ByteArray) : (line f c).size = f.size + 2 + c.size := by
  unfold line
  rw [ByteArray.size_append, ByteArray.size_append]
  rfl

theorem isLine_line (f c : ByteArray) (w : World) (hf : f.size ≤ 1048576) (hc : c.size ≤ 1048576) :
    Calls Try.prog 10 #[.string (line f c), .string f, .string c] w fun e w' => e = .returned (.bool true) ∧ ∃ m, w' = w.drewN m := by
  have hs2 : (⟨#[58, 32]⟩ : ByteArray).size = 2 := rfl
  have hfs : (f ++ (⟨#[58, 32]⟩ : ByteArray)).size = f.size + 2 := by rw [ByteArray.size_append, hs2]
  have hL : (f ++ (⟨#[58, 32]⟩ : ByteArray) ++ c).size = f.size + 2 + c.size := line_size f c
  refine isLine_any (f ++ (⟨#[58, 32]⟩ : ByteArray) ++ c) f c w hf hc hL ?_ ?_ ?_ ?_
  · intro i h h'
    rw [ByteArray.getElem_append_left (by rw [hfs]; omega), ByteArray.getElem_append_left h]
  · intro h
    rw [ByteArray.getElem_append_left (by rw [hfs]; omega), ByteArray.getElem_append_right (Nat.le_refl _)]
    simp only [Nat.sub_self]
    rfl
  · intro h
    rw [ByteArray.getElem_append_left (by rw [hfs]; omega), ByteArray.getElem_append_right (by omega)]
    simp only [Nat.add_sub_cancel_left]
    rfl
  · intro i h h'
    rw [ByteArray.getElem_append_right (by rw [hfs]; omega)]
    simp only [hfs, Nat.add_sub_cancel_left]

end Go.Proofs.Qxb6001825a
