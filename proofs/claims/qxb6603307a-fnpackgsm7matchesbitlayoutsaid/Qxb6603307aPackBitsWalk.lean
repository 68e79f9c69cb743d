import Derived.Test.Qxb6603307aUnpack
import Derived.Test.Qxb6603307aPack
import Derived.Test.Qxb6603307aCopy
import Derived.RegionTactic
namespace Go.Proofs.Qxb6603307a.fnPackGSM7MatchesBitLayout
open Go.RowKit

theorem bytes_le (a : Option Addr) (len cap : Nat) (x : Int) (w : World) (h : len ≤ 1048576) :
    Calls Try.prog 16 #[.slice a len cap, .int .i64 x] w fun e w' => e = .returned (.bool true) ∧ w' = w := by
  have h1 : ¬ (1048576 : Int) < (len : Int) := by omega
  go_enter Try.func16, Try.ntmps16
  go_wp2
  go_ret
  exact ⟨rfl, rfl⟩
theorem bytes_gt (a : Option Addr) (len cap : Nat) (x : Int) (w : World) (h : 1048576 < len) :
    Calls Try.prog 16 #[.slice a len cap, .int .i64 x] w fun e w' => e = .returned (.bool false) ∧ w' = w := by
  have h1 : (1048576 : Int) < (len : Int) := by omega
  go_enter Try.func16, Try.ntmps16
  go_wp2
  go_ret
  exact ⟨rfl, rfl⟩

theorem bit_one (x b : Nat) : (x >>> b) &&& 1 = (x.testBit b).toNat := by
  rw [Nat.testBit, Nat.and_comm 1]
  generalize x >>> b = y
  rw [Nat.and_one_is_mod]
  rcases Nat.mod_two_eq_zero_or_one y with h | h <;> rw [h] <;> rfl

set_option maxHeartbeats 1000000 in
theorem walk_some_whole (x : Addr) (len cap : Nat) (zs : List Int) (f m : Nat) (w : World) (hlc : len ≤ cap) (hz : zs.length = cap)
    (hcell : ∀ i, i < zs.length → w.cell? (x.add i) = some (.int .u8 (zs.getD i 0))) (hw : ∀ n ∈ zs, (Lit.int .u8 n).wf = true)
    (hl : len ≤ 1048576) (hf : f ≤ 65536) (hm0 : (f + len * 7 + 7) / 8 = m) (ht : (f + 7 * len) % 8 = 0) :
    Calls Try.prog 5 #[.slice (some x) len cap, .int .i64 f] w fun e w' => e = .returned (.bool true) ∧ Below w.heap.size w w' := by
  have hmk := run_make_bytes len (by omega)
  have hcp := run_copy_bytes w x len cap zs hlc hz hcell hw
  have hnil := fun w : World => run_neq_slice_nil_any (P := Try.prog) w 22 5 (some x) len cap 0 0 Try.underlying22
  have hps0 := length_shown zs len (by omega)
  have hpb := shown_lt zs len hw
  generalize shown zs len = ps at hcp hps0 hpb
  have hps : Hid (ps.length = len) := hps0
  clear hcell hw hz hps0
  have hm : Hid ((f + len * 7 + 7) / 8 = m) := hm0
  have hm1 : f + len * 7 ≤ 8 * m := by omega
  have hm2 : 8 * m ≤ f + len * 7 + 7 := by omega
  have hq1 : (((f : Int) + 7 * (len : Int)) % 8 != 0) = false := by rw [bne_eq_false_iff_eq]; omega
  have hq2 : ((m : Int) != ((f : Int) + 7 * (len : Int)) / 8) = false := by rw [bne_eq_false_iff_eq]; omega
  clear hm0 ht
  go_enter Try.func5, Try.ntmps5
  go_wp2_with fail
  refine (bytes_le (some x) len cap f w hl).mono ?_
  rintro e w' ⟨rfl, rfl⟩
  go_wp2_with fail
  have hsrc : Src _ (some ⟨w'.heap.size, 0, none⟩) ps := Src.row (Row.made w' ps)
  have hbel : Below w'.heap.size w' (w'.alloc (.cells (bcells ps).toArray 5)) := (Below.refl _ _).alloc (Nat.le_refl _) _
  have hge : w'.heap.size ≤ (w'.alloc (.cells (bcells ps).toArray 5)).heap.size := by simp
  refine (pack_any (some ⟨w'.heap.size, 0, none⟩) len len ps f m _ hsrc hps.out (by simp) hpb hl (by omega) hm.out).mono ?_
  rintro e w1 ⟨rfl, hr1, hb1⟩
  have hsrc1 := hsrc.below hb1
  have hall := hbel.trans (hb1.mono hge)
  have hpl : Hid ((Plain.pack ps f).length = m) := by have h := Plain.length_pack ps f; rw [hps.out, hm.out] at h; exact h
  simp only [World.size_alloc] at hr1
  clear hsrc hbel hb1 hge hnil hmk hcp
  go_wp2_with fail
  · go_loopw [9] (fun i wr => ∃ k : Nat, k ≤ 8 * m ∧ i = .int .i64 k ∧ Below w1.heap.size w1 wr) (fun i _ => 8 * m - (intOf i).toNat)
    case atStart => exact ⟨0, Nat.zero_le _, rfl, Below.refl _ _⟩
    case round =>
      obtain ⟨k, hk, rfl, hbw⟩ := hrel
      have hr1w := hr1.below hbw hr1.lt
      by_cases hlt : k < 8 * m
      · have hbit := Plain.bitAt_pack ps f k
        rw [hps.out] at hbit
        by_cases hin : f ≤ k ∧ k < f + 7 * len
        · obtain ⟨j, rfl⟩ : ∃ j, k = f + j := ⟨k - f, by omega⟩
          have hrow1 := (hsrc1.below hbw).toRow
          have cs := hrow1.cell (j / 7) (by rw [hps.out]; omega)
          have bs := Plain.getD_lt hpb (j / 7)
          have e1 : Plain.bitN (Plain.pack ps f) (f + j) = (ps.getD (j / 7) 0 >>> (j % 7)) &&& 1 := by
            unfold Plain.bitN
            rw [hbit, decide_eq_true (by omega), Nat.add_sub_cancel_left, Bool.true_and]
            exact (bit_one _ _).symm
          generalize ps.getD (j / 7) 0 = y at cs bs e1
          have hval := bit_val y (j % 7) bs
          rw [← e1] at hval
          clear e1 hbit hrow1
          go_wp2_with fail
          refine (bit_any _ _ _ (Plain.pack ps f) _ (f + j) _ hr1w hpl.out (Plain.pack_lt _ _) (by omega) hlt (by omega)).mono ?_
          rintro e w2 ⟨rfl, rfl⟩
          go_wp2
          go_roundw
          case rel => exact ⟨f + j + 1, by omega, by go_num, hbw⟩
          case measure => simp [intOf]; omega
        · have hz : Plain.bitN (Plain.pack ps f) k = 0 := by
            unfold Plain.bitN
            rw [hbit, decide_eq_false (by omega), Bool.false_and]; rfl
          clear hbit
          rcases (show k < f ∨ (f ≤ k ∧ f + 7 * len ≤ k) by omega) with h | ⟨h, h'⟩
          all_goals
            go_wp2_with fail
            refine (bit_any _ _ _ (Plain.pack ps f) _ k _ hr1w hpl.out (Plain.pack_lt _ _) rfl hlt (by omega)).mono ?_
            rintro e w2 ⟨rfl, rfl⟩
            go_wp2
            go_roundw
            case rel => exact ⟨k + 1, by omega, by go_num, hbw⟩
            case measure => simp [intOf]; omega
      · go_wp2
        go_ret
        exact ⟨rfl, hall.trans (hbw.mono hall.size)⟩

set_option maxHeartbeats 1000000 in
theorem walk_nil_whole (len cap : Nat) (ps : List Nat) (f m : Nat) (w : World) (hps0 : ps = []) (hlen : len = 0) (hcap : cap = 0)
    (hl : len ≤ 1048576) (hf : f ≤ 65536) (hm0 : (f + len * 7 + 7) / 8 = m) (ht : (f + 7 * len) % 8 = 0) :
    Calls Try.prog 5 #[.slice none len cap, .int .i64 f] w fun e w' => e = .returned (.bool true) ∧ Below w.heap.size w w' := by
  have hnil := fun w : World => run_neq_slice_nil_any (P := Try.prog) w 22 5 none len cap 0 0 Try.underlying22
  have hps : Hid (ps.length = len) := by rw [hps0, hlen]; rfl
  have hpb : ∀ x ∈ ps, x < 256 := by rw [hps0]; simp
  have HP : Hid (ps = []) := hps0
  have HC : Hid (cap = 0) := hcap
  clear hlen hps0 hcap
  have hm : Hid ((f + len * 7 + 7) / 8 = m) := hm0
  have hm1 : f + len * 7 ≤ 8 * m := by omega
  have hm2 : 8 * m ≤ f + len * 7 + 7 := by omega
  have hq1 : (((f : Int) + 7 * (len : Int)) % 8 != 0) = false := by rw [bne_eq_false_iff_eq]; omega
  have hq2 : ((m : Int) != ((f : Int) + 7 * (len : Int)) / 8) = false := by rw [bne_eq_false_iff_eq]; omega
  clear hm0 ht
  go_enter Try.func5, Try.ntmps5
  go_wp2_with fail
  refine (bytes_le none len cap f w hl).mono ?_
  rintro e w' ⟨rfl, rfl⟩
  go_wp2_with fail
  have hsrc : Src w' none ps := .inl ⟨rfl, HP.out⟩
  have hbel : Below w'.heap.size w' w' := Below.refl _ _
  have hge : w'.heap.size ≤ w'.heap.size := Nat.le_refl _
  refine (pack_any none len cap ps f m _ hsrc hps.out (fun _ => HC.out) hpb hl (by omega) hm.out).mono ?_
  rintro e w1 ⟨rfl, hr1, hb1⟩
  have hsrc1 := hsrc.below hb1
  have hall := hbel.trans (hb1.mono hge)
  have hpl : Hid ((Plain.pack ps f).length = m) := by have h := Plain.length_pack ps f; rw [hps.out, hm.out] at h; exact h
  clear hsrc hbel hb1 hge hnil 
  go_wp2_with fail
  · go_loopw [9] (fun i wr => ∃ k : Nat, k ≤ 8 * m ∧ i = .int .i64 k ∧ Below w1.heap.size w1 wr) (fun i _ => 8 * m - (intOf i).toNat)
    case atStart => exact ⟨0, Nat.zero_le _, rfl, Below.refl _ _⟩
    case round =>
      obtain ⟨k, hk, rfl, hbw⟩ := hrel
      have hr1w := hr1.below hbw hr1.lt
      by_cases hlt : k < 8 * m
      · have hbit := Plain.bitAt_pack ps f k
        rw [hps.out] at hbit
        by_cases hin : f ≤ k ∧ k < f + 7 * len
        · exfalso
          have h1 := hps.out
          rw [HP.out] at h1
          simp at h1
          omega
        · have hz : Plain.bitN (Plain.pack ps f) k = 0 := by
            unfold Plain.bitN
            rw [hbit, decide_eq_false (by omega), Bool.false_and]; rfl
          clear hbit
          rcases (show k < f ∨ (f ≤ k ∧ f + 7 * len ≤ k) by omega) with h | ⟨h, h'⟩
          all_goals
            go_wp2_with fail
            refine (bit_any _ _ _ (Plain.pack ps f) _ k _ hr1w hpl.out (Plain.pack_lt _ _) rfl hlt (by omega)).mono ?_
            rintro e w2 ⟨rfl, rfl⟩
            go_wp2
            go_roundw
            case rel => exact ⟨k + 1, by omega, by go_num, hbw⟩
            case measure => simp [intOf]; omega
      · go_wp2
        go_ret
        exact ⟨rfl, hall.trans (hbw.mono hall.size)⟩

set_option maxHeartbeats 1000000 in
theorem walk_some_cut (x : Addr) (len cap : Nat) (zs : List Int) (f m : Nat) (w : World) (hlc : len ≤ cap) (hz : zs.length = cap)
    (hcell : ∀ i, i < zs.length → w.cell? (x.add i) = some (.int .u8 (zs.getD i 0))) (hw : ∀ n ∈ zs, (Lit.int .u8 n).wf = true)
    (hl : len ≤ 1048576) (hf : f ≤ 65536) (hm0 : (f + len * 7 + 7) / 8 = m) (ht : ¬ (f + 7 * len) % 8 = 0) :
    Calls Try.prog 5 #[.slice (some x) len cap, .int .i64 f] w fun e w' => e = .returned (.bool true) ∧ Below w.heap.size w w' := by
  have hmk := run_make_bytes len (by omega)
  have hcp := run_copy_bytes w x len cap zs hlc hz hcell hw
  have hnil := fun w : World => run_neq_slice_nil_any (P := Try.prog) w 22 5 (some x) len cap 0 0 Try.underlying22
  have hps0 := length_shown zs len (by omega)
  have hpb := shown_lt zs len hw
  generalize shown zs len = ps at hcp hps0 hpb
  have hps : Hid (ps.length = len) := hps0
  clear hcell hw hz hps0
  have hm : Hid ((f + len * 7 + 7) / 8 = m) := hm0
  have hm1 : f + len * 7 ≤ 8 * m := by omega
  have hm2 : 8 * m ≤ f + len * 7 + 7 := by omega
  have hq1 : (((f : Int) + 7 * (len : Int)) % 8 != 0) = true := by rw [bne_iff_ne]; omega
  have hq2 : ((m : Int) != ((f : Int) + 7 * (len : Int)) / 8 + 1) = false := by rw [bne_eq_false_iff_eq]; omega
  clear hm0 ht
  go_enter Try.func5, Try.ntmps5
  go_wp2_with fail
  refine (bytes_le (some x) len cap f w hl).mono ?_
  rintro e w' ⟨rfl, rfl⟩
  go_wp2_with fail
  have hsrc : Src _ (some ⟨w'.heap.size, 0, none⟩) ps := Src.row (Row.made w' ps)
  have hbel : Below w'.heap.size w' (w'.alloc (.cells (bcells ps).toArray 5)) := (Below.refl _ _).alloc (Nat.le_refl _) _
  have hge : w'.heap.size ≤ (w'.alloc (.cells (bcells ps).toArray 5)).heap.size := by simp
  refine (pack_any (some ⟨w'.heap.size, 0, none⟩) len len ps f m _ hsrc hps.out (by simp) hpb hl (by omega) hm.out).mono ?_
  rintro e w1 ⟨rfl, hr1, hb1⟩
  have hsrc1 := hsrc.below hb1
  have hall := hbel.trans (hb1.mono hge)
  have hpl : Hid ((Plain.pack ps f).length = m) := by have h := Plain.length_pack ps f; rw [hps.out, hm.out] at h; exact h
  simp only [World.size_alloc] at hr1
  clear hsrc hbel hb1 hge hnil hmk hcp
  go_wp2_with fail
  · go_loopw [9] (fun i wr => ∃ k : Nat, k ≤ 8 * m ∧ i = .int .i64 k ∧ Below w1.heap.size w1 wr) (fun i _ => 8 * m - (intOf i).toNat)
    case atStart => exact ⟨0, Nat.zero_le _, rfl, Below.refl _ _⟩
    case round =>
      obtain ⟨k, hk, rfl, hbw⟩ := hrel
      have hr1w := hr1.below hbw hr1.lt
      by_cases hlt : k < 8 * m
      · have hbit := Plain.bitAt_pack ps f k
        rw [hps.out] at hbit
        by_cases hin : f ≤ k ∧ k < f + 7 * len
        · obtain ⟨j, rfl⟩ : ∃ j, k = f + j := ⟨k - f, by omega⟩
          have hrow1 := (hsrc1.below hbw).toRow
          have cs := hrow1.cell (j / 7) (by rw [hps.out]; omega)
          have bs := Plain.getD_lt hpb (j / 7)
          have e1 : Plain.bitN (Plain.pack ps f) (f + j) = (ps.getD (j / 7) 0 >>> (j % 7)) &&& 1 := by
            unfold Plain.bitN
            rw [hbit, decide_eq_true (by omega), Nat.add_sub_cancel_left, Bool.true_and]
            exact (bit_one _ _).symm
          generalize ps.getD (j / 7) 0 = y at cs bs e1
          have hval := bit_val y (j % 7) bs
          rw [← e1] at hval
          clear e1 hbit hrow1
          go_wp2_with fail
          refine (bit_any _ _ _ (Plain.pack ps f) _ (f + j) _ hr1w hpl.out (Plain.pack_lt _ _) (by omega) hlt (by omega)).mono ?_
          rintro e w2 ⟨rfl, rfl⟩
          go_wp2
          go_roundw
          case rel => exact ⟨f + j + 1, by omega, by go_num, hbw⟩
          case measure => simp [intOf]; omega
        · have hz : Plain.bitN (Plain.pack ps f) k = 0 := by
            unfold Plain.bitN
            rw [hbit, decide_eq_false (by omega), Bool.false_and]; rfl
          clear hbit
          rcases (show k < f ∨ (f ≤ k ∧ f + 7 * len ≤ k) by omega) with h | ⟨h, h'⟩
          all_goals
            go_wp2_with fail
            refine (bit_any _ _ _ (Plain.pack ps f) _ k _ hr1w hpl.out (Plain.pack_lt _ _) rfl hlt (by omega)).mono ?_
            rintro e w2 ⟨rfl, rfl⟩
            go_wp2
            go_roundw
            case rel => exact ⟨k + 1, by omega, by go_num, hbw⟩
            case measure => simp [intOf]; omega
      · go_wp2
        go_ret
        exact ⟨rfl, hall.trans (hbw.mono hall.size)⟩

set_option maxHeartbeats 1000000 in
theorem walk_nil_cut (len cap : Nat) (ps : List Nat) (f m : Nat) (w : World) (hps0 : ps = []) (hlen : len = 0) (hcap : cap = 0)
    (hl : len ≤ 1048576) (hf : f ≤ 65536) (hm0 : (f + len * 7 + 7) / 8 = m) (ht : ¬ (f + 7 * len) % 8 = 0) :
    Calls Try.prog 5 #[.slice none len cap, .int .i64 f] w fun e w' => e = .returned (.bool true) ∧ Below w.heap.size w w' := by
  have hnil := fun w : World => run_neq_slice_nil_any (P := Try.prog) w 22 5 none len cap 0 0 Try.underlying22
  have hps : Hid (ps.length = len) := by rw [hps0, hlen]; rfl
  have hpb : ∀ x ∈ ps, x < 256 := by rw [hps0]; simp
  have HP : Hid (ps = []) := hps0
  have HC : Hid (cap = 0) := hcap
  clear hlen hps0 hcap
  have hm : Hid ((f + len * 7 + 7) / 8 = m) := hm0
  have hm1 : f + len * 7 ≤ 8 * m := by omega
  have hm2 : 8 * m ≤ f + len * 7 + 7 := by omega
  have hq1 : (((f : Int) + 7 * (len : Int)) % 8 != 0) = true := by rw [bne_iff_ne]; omega
  have hq2 : ((m : Int) != ((f : Int) + 7 * (len : Int)) / 8 + 1) = false := by rw [bne_eq_false_iff_eq]; omega
  clear hm0 ht
  go_enter Try.func5, Try.ntmps5
  go_wp2_with fail
  refine (bytes_le none len cap f w hl).mono ?_
  rintro e w' ⟨rfl, rfl⟩
  go_wp2_with fail
  have hsrc : Src w' none ps := .inl ⟨rfl, HP.out⟩
  have hbel : Below w'.heap.size w' w' := Below.refl _ _
  have hge : w'.heap.size ≤ w'.heap.size := Nat.le_refl _
  refine (pack_any none len cap ps f m _ hsrc hps.out (fun _ => HC.out) hpb hl (by omega) hm.out).mono ?_
  rintro e w1 ⟨rfl, hr1, hb1⟩
  have hsrc1 := hsrc.below hb1
  have hall := hbel.trans (hb1.mono hge)
  have hpl : Hid ((Plain.pack ps f).length = m) := by have h := Plain.length_pack ps f; rw [hps.out, hm.out] at h; exact h
  clear hsrc hbel hb1 hge hnil 
  go_wp2_with fail
  · go_loopw [9] (fun i wr => ∃ k : Nat, k ≤ 8 * m ∧ i = .int .i64 k ∧ Below w1.heap.size w1 wr) (fun i _ => 8 * m - (intOf i).toNat)
    case atStart => exact ⟨0, Nat.zero_le _, rfl, Below.refl _ _⟩
    case round =>
      obtain ⟨k, hk, rfl, hbw⟩ := hrel
      have hr1w := hr1.below hbw hr1.lt
      by_cases hlt : k < 8 * m
      · have hbit := Plain.bitAt_pack ps f k
        rw [hps.out] at hbit
        by_cases hin : f ≤ k ∧ k < f + 7 * len
        · exfalso
          have h1 := hps.out
          rw [HP.out] at h1
          simp at h1
          omega
        · have hz : Plain.bitN (Plain.pack ps f) k = 0 := by
            unfold Plain.bitN
            rw [hbit, decide_eq_false (by omega), Bool.false_and]; rfl
          clear hbit
          rcases (show k < f ∨ (f ≤ k ∧ f + 7 * len ≤ k) by omega) with h | ⟨h, h'⟩
          all_goals
            go_wp2_with fail
            refine (bit_any _ _ _ (Plain.pack ps f) _ k _ hr1w hpl.out (Plain.pack_lt _ _) rfl hlt (by omega)).mono ?_
            rintro e w2 ⟨rfl, rfl⟩
            go_wp2
            go_roundw
            case rel => exact ⟨k + 1, by omega, by go_num, hbw⟩
            case measure => simp [intOf]; omega
      · go_wp2
        go_ret
        exact ⟨rfl, hall.trans (hbw.mono hall.size)⟩

set_option maxHeartbeats 1000000 in
theorem walk (a0 : Option Addr) (len0 cap0 : Nat) (z0 : List Int) (a1 : Int) (w : World) (w0 : IsRow .u8 w a0 len0 cap0 z0) (w1 : (Lit.int .i64 a1).wf = true) :
    Calls Try.prog 5 #[.slice a0 len0 cap0, .int .i64 a1] w fun e w' => e = .returned (.bool true) ∧ Below w.heap.size w w' := by
  by_cases h1 : len0 ≤ 1048576
  case neg =>
    have h1' : (1048576 : Int) < (len0 : Int) := by omega
    go_enter Try.func5, Try.ntmps5
    go_wp2_with fail
    refine (bytes_gt a0 len0 cap0 a1 w (by omega)).mono ?_
    rintro e w' ⟨rfl, rfl⟩
    go_wp2
    go_ret
    exact ⟨rfl, Below.refl _ _⟩
  by_cases h3 : 0 ≤ a1 ∧ a1 ≤ 65536
  case neg =>
    go_enter Try.func5, Try.ntmps5
    go_wp2_with fail
    refine (bytes_le a0 len0 cap0 a1 w h1).mono ?_
    rintro e w' ⟨rfl, rfl⟩
    rcases (show a1 < 0 ∨ 65536 < a1 by omega) with h | h
    all_goals
      go_wp2
      go_ret
      exact ⟨rfl, Below.refl _ _⟩
  obtain ⟨f, rfl⟩ := Int.eq_ofNat_of_zero_le h3.1
  have hf : f ≤ 65536 := by omega
  clear h3 w1
  by_cases ht : (f + 7 * len0) % 8 = 0
  all_goals
    rcases w0 with ⟨rfl, hlen, hcap, _⟩ | ⟨x, rfl, hlc, _, hz, hcell, hw⟩
  · exact walk_nil_whole len0 cap0 [] f _ w rfl hlen hcap h1 hf rfl ht
  · exact walk_some_whole x len0 cap0 z0 f _ w hlc hz hcell hw h1 hf rfl ht
  · exact walk_nil_cut len0 cap0 [] f _ w rfl hlen hcap h1 hf rfl ht
  · exact walk_some_cut x len0 cap0 z0 f _ w hlc hz hcell hw h1 hf rfl ht

end Go.Proofs.Qxb6603307a.fnPackGSM7MatchesBitLayout
