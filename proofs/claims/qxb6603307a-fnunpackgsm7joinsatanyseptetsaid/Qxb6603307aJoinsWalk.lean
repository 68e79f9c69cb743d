import Derived.Test.Qxb6603307aUnpack
import Derived.Test.Qxb6603307aCopy
import Derived.RegionTactic
namespace Go.Proofs.Qxb6603307a.fnUnpackGSM7JoinsAtAnySeptet
open Go.RowKit

theorem bytes_le (a : Option Addr) (len cap : Nat) (x y z : Int) (w : World) (h : len ≤ 1048576) :
    Calls Try.prog 23 #[.slice a len cap, .int .i64 x, .int .i64 y, .int .i64 z] w fun e w' => e = .returned (.bool true) ∧ w' = w := by
  have h1 : ¬ (1048576 : Int) < (len : Int) := by omega
  go_enter Try.func23, Try.ntmps23
  go_wp2
  go_ret
  exact ⟨rfl, rfl⟩
theorem bytes_gt (a : Option Addr) (len cap : Nat) (x y z : Int) (w : World) (h : 1048576 < len) :
    Calls Try.prog 23 #[.slice a len cap, .int .i64 x, .int .i64 y, .int .i64 z] w fun e w' => e = .returned (.bool false) ∧ w' = w := by
  have h1 : (1048576 : Int) < (len : Int) := by omega
  go_enter Try.func23, Try.ntmps23
  go_wp2
  go_ret
  exact ⟨rfl, rfl⟩

set_option maxHeartbeats 1000000 in
theorem walk_some (x : Addr) (len cap : Nat) (zs : List Int) (f n c : Nat) (w : World) (hlc : len ≤ cap) (hz : zs.length = cap)
    (hcell : ∀ i, i < zs.length → w.cell? (x.add i) = some (.int .u8 (zs.getD i 0))) (hw : ∀ n ∈ zs, (Lit.int .u8 n).wf = true)
    (hl : len ≤ 1048576) (hn : n ≤ 65536) (hf : f ≤ 16777216) (hfit : (f + 7 * n + 7) / 8 ≤ len) (hc : c ≤ n) :
    Calls Try.prog 9 #[.slice (some x) len cap, .int .i64 f, .int .i64 n, .int .i64 c] w fun e w' => e = .returned (.bool true) ∧ Below w.heap.size w w' := by
  have hmk := run_make_bytes len (by omega)
  have hcp := run_copy_bytes w x len cap zs hlc hz hcell hw
  have hnil := fun w : World => run_neq_slice_nil_any (P := Try.prog) w 22 5 (some x) len cap 0 0 Try.underlying22
  have hps0 := length_shown zs len (by omega)
  have hpb := shown_lt zs len hw
  generalize shown zs len = ps at hcp hps0 hpb
  have hps : Hid (ps.length = len) := hps0
  clear hcell hw hz hps0
  go_enter Try.func9, Try.ntmps9
  go_wp2_with fail
  refine (bytes_le (some x) len cap f n c w hl).mono ?_
  rintro e w' ⟨rfl, rfl⟩
  go_wp2_with fail
  have hr0 := Row.made w' ps
  refine (unpack_any (some ⟨w'.heap.size, 0, none⟩) len len ps f n f n _ (Src.row hr0) hps.out (by simp) hpb rfl rfl hfit hl).mono ?_
  rintro e w1 ⟨rfl, hr1, hb1⟩
  simp only [World.size_alloc] at hr1 hb1
  have hr01 := hr0.below hb1 (Nat.lt_succ_self _)
  go_wp2_with fail
  refine (unpack_any (some ⟨w'.heap.size, 0, none⟩) len len ps f c f c _ (Src.row hr01) hps.out (by simp) hpb rfl rfl (by omega) hl).mono ?_
  rintro e w2 ⟨rfl, hr2, hb2⟩
  have hr02 := hr01.below hb2 hr01.lt
  have hr12 := hr1.below hb2 hr1.lt
  go_wp2_with fail
  refine (unpack_any (some ⟨w'.heap.size, 0, none⟩) len len ps _ _ (f + 7 * c) (n - c) _ (Src.row hr02) hps.out (by simp) hpb (by omega) (by omega) (by omega) hl).mono ?_
  rintro e w3 ⟨rfl, hr3, hb3⟩
  have hr13 := hr12.below hb3 hr12.lt
  have hr23 := hr2.below hb3 hr2.lt
  go_wp2_with fail
  have hall : Below w'.heap.size w' w3 := (((Below.refl _ _).alloc (Nat.le_refl _) _).trans (hb1.mono (by omega))).trans ((hb2.mono (by have := hr01.lt; omega)).trans (hb3.mono (by have := hr02.lt; omega)))
  clear hr0 hr01 hr02 hr1 hr12 hr2 hb1 hb2 hb3 hmk hcp hnil
  go_loopw [13] (fun i wr => ∃ k : Nat, k ≤ c ∧ i = .int .i64 k ∧ Below w3.heap.size w3 wr) (fun i _ => c - (intOf i).toNat)
  case atStart => exact ⟨0, Nat.zero_le _, rfl, Below.refl _ _⟩
  case round =>
    obtain ⟨k, hk, rfl, hbw⟩ := hrel
    by_cases hlt : k < c
    · have c1 := (hr13.below hbw hr13.lt).cell k (by rw [Plain.length_unpack]; omega)
      have c2 := (hr23.below hbw hr23.lt).cell k (by rw [Plain.length_unpack]; omega)
      rw [Plain.getD_unpack _ _ _ _ (by omega)] at c1
      rw [Plain.getD_unpack _ _ _ _ (by omega)] at c2
      have i1 : (k : Int) < (n : Int) := by omega
      have i2 : (k : Int) < (c : Int) := by omega
      go_wp2
      go_region
      go_wp2
      go_roundw
      case rel => exact ⟨k + 1, by omega, by go_num, hbw.drew⟩
      case measure => simp [intOf]; omega
    · go_wp2
      go_loopw [14] (fun i wr => ∃ k : Nat, k ≤ n - c ∧ i = .int .i64 k ∧ Below w3.heap.size w3 wr) (fun i _ => (n - c) - (intOf i).toNat)
      case atStart => exact ⟨0, Nat.zero_le _, rfl, hbw⟩
      case round =>
        clear hbw
        obtain ⟨j, hj, rfl, hbw⟩ := hrel
        by_cases hlt2 : j < n - c
        · have c1 := (hr13.below hbw hr13.lt).cell (c + j) (by rw [Plain.length_unpack]; omega)
          have c2 := (hr3.below hbw hr3.lt).cell j (by rw [Plain.length_unpack]; omega)
          rw [Plain.getD_unpack _ _ _ _ (by omega), show f + (c + j) * 7 = f + 7 * c + j * 7 by omega] at c1
          rw [Plain.getD_unpack _ _ _ _ (by omega)] at c2
          have i1 : (c : Int) + (j : Int) < (n : Int) := by omega
          have i2 : (j : Int) < ((n - c : Nat) : Int) := by omega
          go_wp2
          go_region
          go_wp2
          go_roundw
          case rel => exact ⟨j + 1, by omega, by go_num, hbw.drew⟩
          case measure => simp [intOf]; omega
        · go_wp2
          go_ret
          exact ⟨rfl, hall.trans (hbw.mono hall.size)⟩

set_option maxHeartbeats 1000000 in
theorem walk_nil (w : World) :
    Calls Try.prog 9 #[.slice none 0 0, .int .i64 0, .int .i64 0, .int .i64 0] w fun e w' => e = .returned (.bool true) ∧ Below w.heap.size w w' := by
  have hnil := fun w : World => run_neq_slice_nil_any (P := Try.prog) w 22 5 none 0 0 0 0 Try.underlying22
  go_enter Try.func9, Try.ntmps9
  go_wp2_with fail
  refine (bytes_le none 0 0 0 0 0 w (by omega)).mono ?_
  rintro e w' ⟨rfl, rfl⟩
  go_wp2_with fail
  refine (unpack_nil _).mono ?_
  rintro e w1 ⟨rfl, hr1, hb1⟩
  go_wp2_with fail
  refine (unpack_nil _).mono ?_
  rintro e w2 ⟨rfl, hr2, hb2⟩
  go_wp2_with fail
  refine (unpack_nil _).mono ?_
  rintro e w3 ⟨rfl, hr3, hb3⟩
  go_wp2_with fail
  refine wp_loop_rounds 1 ?_
  rw [rounds_succ]
  go_wp2
  refine wp_loop_rounds 1 ?_
  rw [rounds_succ]
  go_wp2
  go_ret
  exact ⟨rfl, hb1.trans ((hb2.mono hb1.size).trans (hb3.mono (Nat.le_trans hb1.size hb2.size)))⟩

set_option maxHeartbeats 1000000 in
theorem walk (a0 : Option Addr) (len0 cap0 : Nat) (z0 : List Int) (a1 : Int) (a2 : Int) (a3 : Int) (w : World) (w0 : IsRow .u8 w a0 len0 cap0 z0) (w1 : (Lit.int .i64 a1).wf = true) (w2 : (Lit.int .i64 a2).wf = true) (w3 : (Lit.int .i64 a3).wf = true) :
    Calls Try.prog 9 #[.slice a0 len0 cap0, .int .i64 a1, .int .i64 a2, .int .i64 a3] w fun e w' => e = .returned (.bool true) ∧ Below w.heap.size w w' := by
  by_cases h1 : len0 ≤ 1048576
  case neg =>
    have h1' : (1048576 : Int) < (len0 : Int) := by omega
    go_enter Try.func9, Try.ntmps9
    go_wp2_with fail
    refine (bytes_gt a0 len0 cap0 a1 a2 a3 w (by omega)).mono ?_
    rintro e w' ⟨rfl, rfl⟩
    go_wp2
    go_ret
    exact ⟨rfl, Below.refl _ _⟩
  by_cases h2 : 0 ≤ a2 ∧ a2 ≤ 65536
  case neg =>
    go_enter Try.func9, Try.ntmps9
    go_wp2_with fail
    refine (bytes_le a0 len0 cap0 a1 a2 a3 w h1).mono ?_
    rintro e w' ⟨rfl, rfl⟩
    rcases (show a2 < 0 ∨ 65536 < a2 by omega) with h | h
    all_goals
      go_wp2
      go_ret
      exact ⟨rfl, Below.refl _ _⟩
  by_cases h3 : 0 ≤ a1 ∧ a1 ≤ 16777216
  case neg =>
    obtain ⟨h2a, h2b⟩ := h2
    go_enter Try.func9, Try.ntmps9
    go_wp2_with fail
    refine (bytes_le a0 len0 cap0 a1 a2 a3 w h1).mono ?_
    rintro e w' ⟨rfl, rfl⟩
    rcases (show a1 < 0 ∨ 16777216 < a1 by omega) with h | h
    all_goals
      go_wp2
      go_ret
      exact ⟨rfl, Below.refl _ _⟩
  obtain ⟨n, rfl⟩ := Int.eq_ofNat_of_zero_le h2.1
  obtain ⟨f, rfl⟩ := Int.eq_ofNat_of_zero_le h3.1
  have hn : n ≤ 65536 := by omega
  have hf : f ≤ 16777216 := by omega
  clear h2 h3 w1 w2
  by_cases h4 : (f + 7 * n + 7) / 8 ≤ len0
  case neg =>
    have h4' : (len0 : Int) < ((f : Int) + 7 * (n : Int) + 7) / 8 := by omega
    go_enter Try.func9, Try.ntmps9
    go_wp2_with fail
    refine (bytes_le a0 len0 cap0 f n a3 w h1).mono ?_
    rintro e w' ⟨rfl, rfl⟩
    go_wp2
    go_ret
    exact ⟨rfl, Below.refl _ _⟩
  by_cases h5 : 0 ≤ a3 ∧ a3 ≤ n
  case neg =>
    have h4' : ((f : Int) + 7 * (n : Int) + 7) / 8 ≤ (len0 : Int) := by omega
    go_enter Try.func9, Try.ntmps9
    go_wp2_with fail
    refine (bytes_le a0 len0 cap0 f n a3 w h1).mono ?_
    rintro e w' ⟨rfl, rfl⟩
    rcases (show a3 < 0 ∨ (0 ≤ a3 ∧ (n : Int) < a3) by omega) with h | ⟨h, h'⟩
    all_goals
      go_wp2
      go_ret
      exact ⟨rfl, Below.refl _ _⟩
  obtain ⟨c, rfl⟩ := Int.eq_ofNat_of_zero_le h5.1
  have hc : c ≤ n := by omega
  clear h5 w3
  rcases w0 with ⟨rfl, rfl, rfl, rfl⟩ | ⟨x, rfl, hlc, _, hz, hcell, hw⟩
  · obtain rfl : f = 0 := by omega
    obtain rfl : n = 0 := by omega
    obtain rfl : c = 0 := by omega
    exact walk_nil w
  · exact walk_some x len0 cap0 z0 f n c w hlc hz hcell hw h1 hn hf h4 hc

end Go.Proofs.Qxb6603307a.fnUnpackGSM7JoinsAtAnySeptet
