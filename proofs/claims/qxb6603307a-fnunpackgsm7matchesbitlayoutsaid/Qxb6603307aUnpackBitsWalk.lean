import Derived.Test.Qxb6603307aUnpack
import Derived.Test.Qxb6603307aPack
import Derived.Test.Qxb6603307aCopy
import Derived.RegionTactic
namespace Go.Proofs.Qxb6603307a.fnUnpackGSM7MatchesBitLayout
open Go.RowKit

theorem bytes_le (a : Option Addr) (len cap : Nat) (x y : Int) (w : World) (h : len ≤ 1048576) :
    Calls Try.prog 21 #[.slice a len cap, .int .i64 x, .int .i64 y] w fun e w' => e = .returned (.bool true) ∧ w' = w := by
  have h1 : ¬ (1048576 : Int) < (len : Int) := by omega
  go_enter Try.func21, Try.ntmps21
  go_wp2
  go_ret
  exact ⟨rfl, rfl⟩
theorem bytes_gt (a : Option Addr) (len cap : Nat) (x y : Int) (w : World) (h : 1048576 < len) :
    Calls Try.prog 21 #[.slice a len cap, .int .i64 x, .int .i64 y] w fun e w' => e = .returned (.bool false) ∧ w' = w := by
  have h1 : (1048576 : Int) < (len : Int) := by omega
  go_enter Try.func21, Try.ntmps21
  go_wp2
  go_ret
  exact ⟨rfl, rfl⟩

set_option maxHeartbeats 1000000 in
theorem walk_some (x : Addr) (len cap : Nat) (zs : List Int) (f n : Nat) (w : World) (hlc : len ≤ cap) (hz : zs.length = cap)
    (hcell : ∀ i, i < zs.length → w.cell? (x.add i) = some (.int .u8 (zs.getD i 0))) (hw : ∀ n ∈ zs, (Lit.int .u8 n).wf = true)
    (hl : len ≤ 1048576) (hn : n ≤ 65536) (hf : f ≤ 16777216) (hfit : (f + 7 * n + 7) / 8 ≤ len) :
    Calls Try.prog 7 #[.slice (some x) len cap, .int .i64 f, .int .i64 n] w fun e w' => e = .returned (.bool true) ∧ Below w.heap.size w w' := by
  have hmk := run_make_bytes len (by omega)
  have hcp := run_copy_bytes w x len cap zs hlc hz hcell hw
  have hnil := fun w : World => run_neq_slice_nil_any (P := Try.prog) w 22 5 (some x) len cap 0 0 Try.underlying22
  have hps0 := length_shown zs len (by omega)
  have hpb := shown_lt zs len hw
  generalize shown zs len = ps at hcp hps0 hpb
  have hps : Hid (ps.length = len) := hps0
  clear hcell hw hz hps0
  go_enter Try.func7, Try.ntmps7
  go_wp2_with fail
  refine (bytes_le (some x) len cap f n w hl).mono ?_
  rintro e w' ⟨rfl, rfl⟩
  go_wp2_with fail
  have hsrc : Src _ (some ⟨w'.heap.size, 0, none⟩) ps := Src.row (Row.made w' ps)
  have hbel : Below w'.heap.size w' (w'.alloc (.cells (bcells ps).toArray 5)) := (Below.refl _ _).alloc (Nat.le_refl _) _
  have hge : w'.heap.size ≤ (w'.alloc (.cells (bcells ps).toArray 5)).heap.size := by simp
  refine (unpack_any (some ⟨w'.heap.size, 0, none⟩) len len ps _ _ f n _ hsrc hps.out (by simp) hpb rfl rfl hfit hl).mono ?_
  rintro e w1 ⟨rfl, hr1, hb1⟩
  have hsrc1 := hsrc.below hb1
  have hall := hbel.trans (hb1.mono hge)
  simp only [World.size_alloc] at hr1
  clear hsrc hbel hb1 hge hnil hmk hcp
  go_wp2_with fail
  go_loopw [9] (fun i wr => ∃ k : Nat, k ≤ n ∧ i = .int .i64 k ∧ Below w1.heap.size w1 wr) (fun i _ => n - (intOf i).toNat)
  case atStart => exact ⟨0, Nat.zero_le _, rfl, Below.refl _ _⟩
  case round =>
    obtain ⟨k, hk, rfl, hbw⟩ := hrel
    by_cases hlt : k < n
    · have hrow1 := (hsrc1.below hbw).toRow
      have c1 := (hr1.below hbw hr1.lt).cell k (by rw [Plain.length_unpack]; exact hlt)
      rw [Plain.getD_unpack _ _ _ _ hlt, ← Plain.joined_sept hpb, show f + k * 7 = f + 7 * k by omega] at c1
      obtain ⟨wo, rfl⟩ : ∃ wo : World, wo = wr := ⟨_, rfl⟩
      go_wp2_with fail
      go_loopw [10, 11] (fun v b wr => ∃ j : Nat, j ≤ 7 ∧ b = .int .i64 j ∧ v = .int .u8 ((Plain.joined ps (f + 7 * k) j : Nat) : Int) ∧ Below wo.heap.size wo wr) (fun _ b _ => 7 - (intOf b).toNat)
      case atStart => exact ⟨0, Nat.zero_le _, rfl, rfl, Below.refl _ _⟩
      case round =>
        obtain ⟨j, hj, rfl, rfl, hbi⟩ := hrel
        by_cases hlt7 : j < 7
        · have hval := or_low (Plain.joined ps (f + 7 * k) j) (Plain.bitN ps (f + 7 * k + j)) j (Plain.joined_lt _ _ _)
          rw [show (Plain.joined ps (f + 7 * k) j ||| Plain.bitN ps (f + 7 * k + j) <<< j % 256) = Plain.joined ps (f + 7 * k) (j + 1) from rfl] at hval
          go_wp2_with fail
          refine (bit_any _ _ _ ps _ (f + 7 * k + j) _ (hrow1.below hbi hrow1.lt) hps.out hpb (by omega) (by omega) (by omega)).mono ?_
          rintro e w2 ⟨rfl, rfl⟩
          go_wp2
          go_roundw
          case rel => exact ⟨j + 1, by omega, by go_num, rfl, hbi⟩
          case measure => simp [intOf]; omega
        · have e7 : j = 7 := by omega
          subst e7
          have c2 := (hbi.cell (p := ⟨_, k, none⟩) (Nat.lt_of_lt_of_le hr1.lt hbw.size)).trans c1
          go_wp2
          go_roundw
          case rel => exact ⟨k + 1, by omega, by go_num, hbw.trans (hbi.mono hbw.size)⟩
          case measure => simp [intOf]; omega
    · go_wp2
      go_ret
      exact ⟨rfl, hall.trans (hbw.mono hall.size)⟩

set_option maxHeartbeats 1000000 in
theorem walk_nil (len cap : Nat) (ps : List Nat) (f n : Nat) (w : World) (hps0 : ps = []) (hlen : len = 0) (hcap : cap = 0)
    (hl : len ≤ 1048576) (hn : n ≤ 65536) (hf : f ≤ 16777216) (hfit : (f + 7 * n + 7) / 8 ≤ len) :
    Calls Try.prog 7 #[.slice none len cap, .int .i64 f, .int .i64 n] w fun e w' => e = .returned (.bool true) ∧ Below w.heap.size w w' := by
  have hnil := fun w : World => run_neq_slice_nil_any (P := Try.prog) w 22 5 none len cap 0 0 Try.underlying22
  have hps : Hid (ps.length = len) := by rw [hps0, hlen]; rfl
  have hpb : ∀ x ∈ ps, x < 256 := by rw [hps0]; simp
  have HP : Hid (ps = []) := hps0
  have HC : Hid (cap = 0) := hcap
  clear hlen hps0 hcap
  go_enter Try.func7, Try.ntmps7
  go_wp2_with fail
  refine (bytes_le none len cap f n w hl).mono ?_
  rintro e w' ⟨rfl, rfl⟩
  go_wp2_with fail
  have hsrc : Src w' none ps := .inl ⟨rfl, HP.out⟩
  have hbel : Below w'.heap.size w' w' := Below.refl _ _
  have hge : w'.heap.size ≤ w'.heap.size := Nat.le_refl _
  refine (unpack_any none len cap ps _ _ f n _ hsrc hps.out (fun _ => HC.out) hpb rfl rfl hfit hl).mono ?_
  rintro e w1 ⟨rfl, hr1, hb1⟩
  have hsrc1 := hsrc.below hb1
  have hall := hbel.trans (hb1.mono hge)
  skip
  clear hsrc hbel hb1 hge hnil 
  go_wp2_with fail
  go_loopw [9] (fun i wr => ∃ k : Nat, k ≤ n ∧ i = .int .i64 k ∧ Below w1.heap.size w1 wr) (fun i _ => n - (intOf i).toNat)
  case atStart => exact ⟨0, Nat.zero_le _, rfl, Below.refl _ _⟩
  case round =>
    obtain ⟨k, hk, rfl, hbw⟩ := hrel
    by_cases hlt : k < n
    · exfalso
      have h1 := hps.out
      rw [HP.out] at h1
      simp at h1
      omega
    · go_wp2
      go_ret
      exact ⟨rfl, hall.trans (hbw.mono hall.size)⟩

set_option maxHeartbeats 1000000 in
theorem walk (a0 : Option Addr) (len0 cap0 : Nat) (z0 : List Int) (a1 : Int) (a2 : Int) (w : World) (w0 : IsRow .u8 w a0 len0 cap0 z0) (w1 : (Lit.int .i64 a1).wf = true) (w2 : (Lit.int .i64 a2).wf = true) :
    Calls Try.prog 7 #[.slice a0 len0 cap0, .int .i64 a1, .int .i64 a2] w fun e w' => e = .returned (.bool true) ∧ Below w.heap.size w w' := by
  by_cases h1 : len0 ≤ 1048576
  case neg =>
    have h1' : (1048576 : Int) < (len0 : Int) := by omega
    go_enter Try.func7, Try.ntmps7
    go_wp2_with fail
    refine (bytes_gt a0 len0 cap0 a1 a2 w (by omega)).mono ?_
    rintro e w' ⟨rfl, rfl⟩
    go_wp2
    go_ret
    exact ⟨rfl, Below.refl _ _⟩
  by_cases h2 : 0 ≤ a2 ∧ a2 ≤ 65536
  case neg =>
    go_enter Try.func7, Try.ntmps7
    go_wp2_with fail
    refine (bytes_le a0 len0 cap0 a1 a2 w h1).mono ?_
    rintro e w' ⟨rfl, rfl⟩
    rcases (show a2 < 0 ∨ 65536 < a2 by omega) with h | h
    all_goals
      go_wp2
      go_ret
      exact ⟨rfl, Below.refl _ _⟩
  by_cases h3 : 0 ≤ a1 ∧ a1 ≤ 16777216
  case neg =>
    obtain ⟨h2a, h2b⟩ := h2
    go_enter Try.func7, Try.ntmps7
    go_wp2_with fail
    refine (bytes_le a0 len0 cap0 a1 a2 w h1).mono ?_
    rintro e w' ⟨rfl, rfl⟩
    rcases (show a1 < 0 ∨ 16777216 < a1 by omega) with h | h
    all_goals
      go_wp2
      go_ret
      exact ⟨rfl, Below.refl _ _⟩
  obtain ⟨n, rfl⟩ := Int.eq_ofNat_of_zero_le h2.1
  obtain ⟨f, rfl⟩ := Int.eq_ofNat_of_zero_le h3.1
  have hn : n ≤ 65536 := by omega
  have hf : f ≤ 16777216 := by omega
  clear h2 h3 w1 w2
  by_cases h4 : (f + 7 * n + 7) / 8 ≤ len0
  case neg =>
    have h4' : (len0 : Int) < ((f : Int) + 7 * (n : Int) + 7) / 8 := by omega
    go_enter Try.func7, Try.ntmps7
    go_wp2_with fail
    refine (bytes_le a0 len0 cap0 f n w h1).mono ?_
    rintro e w' ⟨rfl, rfl⟩
    go_wp2
    go_ret
    exact ⟨rfl, Below.refl _ _⟩
  rcases w0 with ⟨rfl, hlen, hcap, _⟩ | ⟨x, rfl, hlc, _, hz, hcell, hw⟩
  · exact walk_nil len0 cap0 [] f n w rfl hlen hcap h1 hn hf h4
  · exact walk_some x len0 cap0 z0 f n w hlc hz hcell hw h1 hn hf h4

end Go.Proofs.Qxb6603307a.fnUnpackGSM7MatchesBitLayout
