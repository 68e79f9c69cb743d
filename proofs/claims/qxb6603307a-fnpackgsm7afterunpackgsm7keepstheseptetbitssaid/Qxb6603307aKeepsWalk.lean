import Derived.Test.Qxb6603307aUnpack
import Derived.Test.Qxb6603307aPack
import Derived.Test.Qxb6603307aCopy
import Derived.RegionTactic
namespace Go.Proofs.Qxb6603307a.fnPackGSM7AfterUnpackGSM7KeepsTheSeptetBits
open Go.RowKit

theorem bytes_le (a : Option Addr) (len cap : Nat) (x y : Int) (w : World) (h : len ≤ 1048576) :
    Calls Try.prog 22 #[.slice a len cap, .int .i64 x, .int .i64 y] w fun e w' => e = .returned (.bool true) ∧ w' = w := by
  have h1 : ¬ (1048576 : Int) < (len : Int) := by omega
  go_enter Try.func22, Try.ntmps22
  go_wp2
  go_ret
  exact ⟨rfl, rfl⟩
theorem bytes_gt (a : Option Addr) (len cap : Nat) (x y : Int) (w : World) (h : 1048576 < len) :
    Calls Try.prog 22 #[.slice a len cap, .int .i64 x, .int .i64 y] w fun e w' => e = .returned (.bool false) ∧ w' = w := by
  have h1 : (1048576 : Int) < (len : Int) := by omega
  go_enter Try.func22, Try.ntmps22
  go_wp2
  go_ret
  exact ⟨rfl, rfl⟩

set_option maxHeartbeats 1000000 in
theorem walk_some (x : Addr) (len cap : Nat) (zs : List Int) (f n m : Nat) (w : World) (hlc : len ≤ cap) (hz : zs.length = cap)
    (hcell : ∀ i, i < zs.length → w.cell? (x.add i) = some (.int .u8 (zs.getD i 0))) (hw : ∀ n ∈ zs, (Lit.int .u8 n).wf = true)
    (hl : len ≤ 1048576) (hn : n ≤ 65536) (hf : f ≤ 16777216) (hfit : (f + 7 * n + 7) / 8 ≤ len) (hm0 : (f + n * 7 + 7) / 8 = m) :
    Calls Try.prog 8 #[.slice (some x) len cap, .int .i64 f, .int .i64 n] w fun e w' => e = .returned (.bool true) ∧ Below w.heap.size w w' := by
  have hmk := run_make_bytes len (by omega)
  have hcp := run_copy_bytes w x len cap zs hlc hz hcell hw
  have hnil := fun w : World => run_neq_slice_nil_any (P := Try.prog) w 22 5 (some x) len cap 0 0 Try.underlying22
  have hps0 := length_shown zs len (by omega)
  have hpb := shown_lt zs len hw
  generalize shown zs len = ps at hcp hps0 hpb
  have hps : Hid (ps.length = len) := hps0
  clear hcell hw hz hps0
  have hm : Hid ((f + n * 7 + 7) / 8 = m) := hm0
  have hm1 : f + n * 7 ≤ 8 * m := by omega
  have hm2 : 8 * m ≤ f + n * 7 + 7 := by omega
  have hq2 : ((m : Int) != ((f : Int) + 7 * (n : Int) + 7) / 8) = false := by rw [bne_eq_false_iff_eq]; omega
  clear hm0
  go_enter Try.func8, Try.ntmps8
  go_wp2_with fail
  refine (bytes_le (some x) len cap f n w hl).mono ?_
  rintro e w' ⟨rfl, rfl⟩
  go_wp2_with fail
  have hsrc : Src _ (some ⟨w'.heap.size, 0, none⟩) ps := Src.row (Row.made w' ps)
  have hbel : Below w'.heap.size w' (w'.alloc (.cells (bcells ps).toArray 5)) := (Below.refl _ _).alloc (Nat.le_refl _) _
  have hge : w'.heap.size ≤ (w'.alloc (.cells (bcells ps).toArray 5)).heap.size := by simp
  refine (unpack_any (some ⟨w'.heap.size, 0, none⟩) len len ps _ _ f n _ hsrc hps.out (by simp) hpb rfl rfl hfit hl).mono ?_
  rintro e w1 ⟨rfl, hr1, hb1⟩
  have hsrc1 := hsrc.below hb1
  have hall1 := hbel.trans (hb1.mono hge)
  simp only [World.size_alloc] at hr1
  clear hsrc hbel hb1 hge hnil hmk hcp
  go_wp2_with fail
  refine (pack_any _ n n (Plain.unpack ps f n) f m _ (Src.row hr1) (Plain.length_unpack _ _ _) (by simp) (Plain.unpack_lt _ _ _) (by omega) hf hm.out).mono ?_
  rintro e w2 ⟨rfl, hr2, hb2⟩
  have hsrc2 := hsrc1.below hb2
  have hall := hall1.trans (hb2.mono hall1.size)
  have hpl : Hid ((Plain.pack (Plain.unpack ps f n) f).length = m) := by have h := Plain.length_pack (Plain.unpack ps f n) f; rw [Plain.length_unpack, hm.out] at h; exact h
  clear hall1 hr1 hsrc1 hb2
  go_wp2_with fail
  go_loopw [11] (fun i wr => ∃ k : Nat, k ≤ 8 * m ∧ i = .int .i64 k ∧ Below w2.heap.size w2 wr) (fun i _ => 8 * m - (intOf i).toNat)
  case atStart => exact ⟨0, Nat.zero_le _, rfl, Below.refl _ _⟩
  case round =>
    obtain ⟨k, hk, rfl, hbw⟩ := hrel
    have hr2w := hr2.below hbw hr2.lt
    by_cases hlt : k < 8 * m
    · have hbit := Plain.bitAt_pack_unpack hpb f n k
      by_cases hin : f ≤ k ∧ k < f + n * 7
      · have hrow1 := (hsrc2.below hbw).toRow
        have heq : Plain.bitN (Plain.pack (Plain.unpack ps f n) f) k = Plain.bitN ps k := by
          unfold Plain.bitN
          rw [hbit, decide_eq_true hin, Bool.true_and]
        have HE : Hid (Plain.bitN (Plain.pack (Plain.unpack ps f n) f) k = Plain.bitN ps k) := heq
        clear heq hbit
        obtain ⟨hin1, hin2⟩ := hin
        go_wp2_with fail
        refine (bit_any _ _ _ ps _ k _ hrow1 hps.out hpb rfl (by omega) (by omega)).mono ?_
        rintro e w3 ⟨rfl, rfl⟩
        go_wp2_with fail
        refine (bit_any _ _ _ (Plain.pack (Plain.unpack ps f n) f) _ k _ hr2w hpl.out (Plain.pack_lt _ _) rfl hlt (by omega)).mono ?_
        rintro e w4 ⟨rfl, rfl⟩
        rw [HE.out]
        go_wp2
        go_roundw
        case rel => exact ⟨k + 1, by omega, by go_num, hbw⟩
        case measure => simp [intOf]; omega
      · have hz : Plain.bitN (Plain.pack (Plain.unpack ps f n) f) k = 0 := by
          unfold Plain.bitN
          rw [hbit, decide_eq_false hin, Bool.false_and]; rfl
        clear hbit
        rcases (show k < f ∨ (f ≤ k ∧ f + n * 7 ≤ k) by omega) with h | ⟨h, h'⟩
        all_goals
          go_wp2_with fail
          refine (bit_any _ _ _ (Plain.pack (Plain.unpack ps f n) f) _ k _ hr2w hpl.out (Plain.pack_lt _ _) rfl hlt (by omega)).mono ?_
          rintro e w4 ⟨rfl, rfl⟩
          go_wp2
          go_roundw
          case rel => exact ⟨k + 1, by omega, by go_num, hbw⟩
          case measure => simp [intOf]; omega
    · go_wp2
      go_ret
      exact ⟨rfl, hall.trans (hbw.mono hall.size)⟩

set_option maxHeartbeats 1000000 in
theorem walk_nil (len cap : Nat) (ps : List Nat) (f n m : Nat) (w : World) (hps0 : ps = []) (hlen : len = 0) (hcap : cap = 0)
    (hl : len ≤ 1048576) (hn : n ≤ 65536) (hf : f ≤ 16777216) (hfit : (f + 7 * n + 7) / 8 ≤ len) (hm0 : (f + n * 7 + 7) / 8 = m) :
    Calls Try.prog 8 #[.slice none len cap, .int .i64 f, .int .i64 n] w fun e w' => e = .returned (.bool true) ∧ Below w.heap.size w w' := by
  have hnil := fun w : World => run_neq_slice_nil_any (P := Try.prog) w 22 5 none len cap 0 0 Try.underlying22
  have hps : Hid (ps.length = len) := by rw [hps0, hlen]; rfl
  have hpb : ∀ x ∈ ps, x < 256 := by rw [hps0]; simp
  have HP : Hid (ps = []) := hps0
  have HC : Hid (cap = 0) := hcap
  clear hlen hps0 hcap
  have hm : Hid ((f + n * 7 + 7) / 8 = m) := hm0
  have hm1 : f + n * 7 ≤ 8 * m := by omega
  have hm2 : 8 * m ≤ f + n * 7 + 7 := by omega
  have hq2 : ((m : Int) != ((f : Int) + 7 * (n : Int) + 7) / 8) = false := by rw [bne_eq_false_iff_eq]; omega
  clear hm0
  go_enter Try.func8, Try.ntmps8
  go_wp2_with fail
  refine (bytes_le none len cap f n w hl).mono ?_
  rintro e w' ⟨rfl, rfl⟩
  go_wp2_with fail
  have hsrc : Src w' none ps := .inl ⟨rfl, HP.out⟩
  have hbel : Below w'.heap.size w' w' := Below.refl _ _
  have hge : w'.heap.size ≤ w'.heap.size := Nat.le_refl _
  refine (unpack_any none len cap ps _ _ f n _ hsrc hps.out (fun _ => HC.out) hpb rfl rfl hfit hl).mono ?_
  rintro e w1 ⟨rfl, hr1, hb1⟩
  have hsrc1 := hsrc.below hb1
  have hall1 := hbel.trans (hb1.mono hge)
  skip
  clear hsrc hbel hb1 hge hnil 
  go_wp2_with fail
  refine (pack_any _ n n (Plain.unpack ps f n) f m _ (Src.row hr1) (Plain.length_unpack _ _ _) (by simp) (Plain.unpack_lt _ _ _) (by omega) hf hm.out).mono ?_
  rintro e w2 ⟨rfl, hr2, hb2⟩
  have hsrc2 := hsrc1.below hb2
  have hall := hall1.trans (hb2.mono hall1.size)
  have hpl : Hid ((Plain.pack (Plain.unpack ps f n) f).length = m) := by have h := Plain.length_pack (Plain.unpack ps f n) f; rw [Plain.length_unpack, hm.out] at h; exact h
  clear hall1 hr1 hsrc1 hb2
  go_wp2_with fail
  go_loopw [11] (fun i wr => ∃ k : Nat, k ≤ 8 * m ∧ i = .int .i64 k ∧ Below w2.heap.size w2 wr) (fun i _ => 8 * m - (intOf i).toNat)
  case atStart => exact ⟨0, Nat.zero_le _, rfl, Below.refl _ _⟩
  case round =>
    obtain ⟨k, hk, rfl, hbw⟩ := hrel
    have hr2w := hr2.below hbw hr2.lt
    by_cases hlt : k < 8 * m
    · have hbit := Plain.bitAt_pack_unpack hpb f n k
      by_cases hin : f ≤ k ∧ k < f + n * 7
      · exfalso
        have h1 := hps.out
        rw [HP.out] at h1
        simp at h1
        omega
      · have hz : Plain.bitN (Plain.pack (Plain.unpack ps f n) f) k = 0 := by
          unfold Plain.bitN
          rw [hbit, decide_eq_false hin, Bool.false_and]; rfl
        clear hbit
        rcases (show k < f ∨ (f ≤ k ∧ f + n * 7 ≤ k) by omega) with h | ⟨h, h'⟩
        all_goals
          go_wp2_with fail
          refine (bit_any _ _ _ (Plain.pack (Plain.unpack ps f n) f) _ k _ hr2w hpl.out (Plain.pack_lt _ _) rfl hlt (by omega)).mono ?_
          rintro e w4 ⟨rfl, rfl⟩
          go_wp2
          go_roundw
          case rel => exact ⟨k + 1, by omega, by go_num, hbw⟩
          case measure => simp [intOf]; omega
    · go_wp2
      go_ret
      exact ⟨rfl, hall.trans (hbw.mono hall.size)⟩

set_option maxHeartbeats 1000000 in
theorem short_some (x : Addr) (len cap : Nat) (zs : List Int) (f n : Nat) (w : World) (hlc : len ≤ cap) (hz : zs.length = cap)
    (hcell : ∀ i, i < zs.length → w.cell? (x.add i) = some (.int .u8 (zs.getD i 0))) (hw : ∀ n ∈ zs, (Lit.int .u8 n).wf = true)
    (hl : len ≤ 1048576) (hn : n ≤ 65536) (hf : f ≤ 16777216) (hfit : len < (f + 7 * n + 7) / 8) :
    Calls Try.prog 8 #[.slice (some x) len cap, .int .i64 f, .int .i64 n] w fun e w' => e = .returned (.bool true) ∧ Below w.heap.size w w' := by
  have hmk := run_make_bytes len (by omega)
  have hcp := run_copy_bytes w x len cap zs hlc hz hcell hw
  have hnil := fun w : World => run_neq_slice_nil_any (P := Try.prog) w 22 5 (some x) len cap 0 0 Try.underlying22
  have hps0 := length_shown zs len (by omega)
  have hpb := shown_lt zs len hw
  generalize shown zs len = ps at hcp hps0 hpb
  have hps : Hid (ps.length = len) := hps0
  clear hcell hw hz hps0
  have hfit' : (len : Int) < ((f : Int) + 7 * (n : Int) + 7) / 8 := by omega
  go_enter Try.func8, Try.ntmps8
  go_wp2_with fail
  refine (bytes_le (some x) len cap f n w hl).mono ?_
  rintro e w' ⟨rfl, rfl⟩
  go_wp2_with fail
  have hbel : Below w'.heap.size w' (w'.alloc (.cells (bcells ps).toArray 5)) := (Below.refl _ _).alloc (Nat.le_refl _) _
  go_ret
  exact ⟨rfl, hbel⟩

set_option maxHeartbeats 1000000 in
theorem short_nil (len cap : Nat) (ps : List Nat) (f n : Nat) (w : World) (hps0 : ps = []) (hlen : len = 0) (hcap : cap = 0)
    (hl : len ≤ 1048576) (hn : n ≤ 65536) (hf : f ≤ 16777216) (hfit : len < (f + 7 * n + 7) / 8) :
    Calls Try.prog 8 #[.slice none len cap, .int .i64 f, .int .i64 n] w fun e w' => e = .returned (.bool true) ∧ Below w.heap.size w w' := by
  have hnil := fun w : World => run_neq_slice_nil_any (P := Try.prog) w 22 5 none len cap 0 0 Try.underlying22
  have hps : Hid (ps.length = len) := by rw [hps0, hlen]; rfl
  have hpb : ∀ x ∈ ps, x < 256 := by rw [hps0]; simp
  have HP : Hid (ps = []) := hps0
  have HC : Hid (cap = 0) := hcap
  clear hlen hps0 hcap
  have hfit' : (len : Int) < ((f : Int) + 7 * (n : Int) + 7) / 8 := by omega
  go_enter Try.func8, Try.ntmps8
  go_wp2_with fail
  refine (bytes_le none len cap f n w hl).mono ?_
  rintro e w' ⟨rfl, rfl⟩
  go_wp2_with fail
  have hbel : Below w'.heap.size w' w' := Below.refl _ _
  go_ret
  exact ⟨rfl, hbel⟩

set_option maxHeartbeats 1000000 in
theorem walk (a0 : Option Addr) (len0 cap0 : Nat) (z0 : List Int) (a1 : Int) (a2 : Int) (w : World) (w0 : IsRow .u8 w a0 len0 cap0 z0) (w1 : (Lit.int .i64 a1).wf = true) (w2 : (Lit.int .i64 a2).wf = true) :
    Calls Try.prog 8 #[.slice a0 len0 cap0, .int .i64 a1, .int .i64 a2] w fun e w' => e = .returned (.bool true) ∧ Below w.heap.size w w' := by
  by_cases h1 : len0 ≤ 1048576
  case neg =>
    have h1' : (1048576 : Int) < (len0 : Int) := by omega
    go_enter Try.func8, Try.ntmps8
    go_wp2_with fail
    refine (bytes_gt a0 len0 cap0 a1 a2 w (by omega)).mono ?_
    rintro e w' ⟨rfl, rfl⟩
    go_wp2
    go_ret
    exact ⟨rfl, Below.refl _ _⟩
  by_cases h2 : 0 ≤ a2 ∧ a2 ≤ 65536
  case neg =>
    go_enter Try.func8, Try.ntmps8
    go_wp2_with fail
    refine (bytes_le a0 len0 cap0 a1 a2 w h1).mono ?_
    rintro e w' ⟨rfl, rfl⟩
    rcases (show a2 < 0 ∨ 65536 < a2 by omega) with h | h
    all_goals
      go_wp2
      go_ret
      exact ⟨rfl, Below.refl _ _⟩
  by_cases h3 : 0 ≤ a1 ∧ a1 ≤ 16777216
  case neg =>
    obtain ⟨h2a, h2b⟩ := h2
    go_enter Try.func8, Try.ntmps8
    go_wp2_with fail
    refine (bytes_le a0 len0 cap0 a1 a2 w h1).mono ?_
    rintro e w' ⟨rfl, rfl⟩
    rcases (show a1 < 0 ∨ 16777216 < a1 by omega) with h | h
    all_goals
      go_wp2
      go_ret
      exact ⟨rfl, Below.refl _ _⟩
  obtain ⟨n, rfl⟩ := Int.eq_ofNat_of_zero_le h2.1
  obtain ⟨f, rfl⟩ := Int.eq_ofNat_of_zero_le h3.1
  have hn : n ≤ 65536 := by omega
  have hf : f ≤ 16777216 := by omega
  clear h2 h3 w1 w2
  by_cases h4 : (f + 7 * n + 7) / 8 ≤ len0
  all_goals
    rcases w0 with ⟨rfl, hlen, hcap, _⟩ | ⟨x, rfl, hlc, _, hz, hcell, hw⟩
  · exact walk_nil len0 cap0 [] f n _ w rfl hlen hcap h1 hn hf h4 rfl
  · exact walk_some x len0 cap0 z0 f n _ w hlc hz hcell hw h1 hn hf h4 rfl
  · exact short_nil len0 cap0 [] f n w rfl hlen hcap h1 hn hf (by omega)
  · exact short_some x len0 cap0 z0 f n w hlc hz hcell hw h1 hn hf (by omega)

end Go.Proofs.Qxb6603307a.fnPackGSM7AfterUnpackGSM7KeepsTheSeptetBits
