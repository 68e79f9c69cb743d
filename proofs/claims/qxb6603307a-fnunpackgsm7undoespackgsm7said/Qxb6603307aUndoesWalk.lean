import Derived.Test.Qxb6603307aUnpack
import Derived.Test.Qxb6603307aPack
import Derived.Test.Qxb6603307aCopy
import Derived.RegionTactic
namespace Go.Proofs.Qxb6603307a.fnUnpackGSM7UndoesPackGSM7
open Go.RowKit

theorem bytes_le (a : Option Addr) (len cap : Nat) (x : Int) (w : World) (h : len ≤ 1048576) :
    Calls Try.prog 19 #[.slice a len cap, .int .i64 x] w fun e w' => e = .returned (.bool true) ∧ w' = w := by
  have h1 : ¬ (1048576 : Int) < (len : Int) := by omega
  go_enter Try.func19, Try.ntmps19
  go_wp2
  go_ret
  exact ⟨rfl, rfl⟩
theorem bytes_gt (a : Option Addr) (len cap : Nat) (x : Int) (w : World) (h : 1048576 < len) :
    Calls Try.prog 19 #[.slice a len cap, .int .i64 x] w fun e w' => e = .returned (.bool false) ∧ w' = w := by
  have h1 : (1048576 : Int) < (len : Int) := by omega
  go_enter Try.func19, Try.ntmps19
  go_wp2
  go_ret
  exact ⟨rfl, rfl⟩

set_option maxHeartbeats 1000000 in
theorem walk_some (x : Addr) (len cap : Nat) (zs : List Int) (f m : Nat) (w : World) (hlc : len ≤ cap) (hz : zs.length = cap)
    (hcell : ∀ i, i < zs.length → w.cell? (x.add i) = some (.int .u8 (zs.getD i 0))) (hw : ∀ n ∈ zs, (Lit.int .u8 n).wf = true)
    (hl : len ≤ 1048576) (hf : f ≤ 65536) (hm0 : (f + len * 7 + 7) / 8 = m) :
    Calls Try.prog 6 #[.slice (some x) len cap, .int .i64 f] w fun e w' => e = .returned (.bool true) ∧ Below w.heap.size w w' := by
  have hmk := run_make_bytes len (by omega)
  have hcp := run_copy_bytes w x len cap zs hlc hz hcell hw
  have hnil := fun w : World => run_neq_slice_nil_any (P := Try.prog) w 22 5 (some x) len cap 0 0 Try.underlying22
  have hps0 := length_shown zs len (by omega)
  have hpb := shown_lt zs len hw
  generalize shown zs len = ps at hcp hps0 hpb
  have hps : Hid (ps.length = len) := hps0
  clear hcell hw hz hps0
  have hm : Hid ((f + len * 7 + 7) / 8 = m) := hm0
  have hm1 : f + len * 7 ≤ 8 * m := by omega
  have hm2 : 8 * m ≤ f + len * 7 + 7 := by omega
  clear hm0
  go_enter Try.func6, Try.ntmps6
  go_wp2_with fail
  refine (bytes_le (some x) len cap f w hl).mono ?_
  rintro e w' ⟨rfl, rfl⟩
  go_wp2_with fail
  have hsrc : Src _ (some ⟨w'.heap.size, 0, none⟩) ps := Src.row (Row.made w' ps)
  have hbel : Below w'.heap.size w' (w'.alloc (.cells (bcells ps).toArray 5)) := (Below.refl _ _).alloc (Nat.le_refl _) _
  have hge : w'.heap.size ≤ (w'.alloc (.cells (bcells ps).toArray 5)).heap.size := by simp
  refine (pack_any (some ⟨w'.heap.size, 0, none⟩) len len ps f m _ hsrc hps.out (by simp) hpb hl (by omega) hm.out).mono ?_
  rintro e w1 ⟨rfl, hr1, hb1⟩
  have hsrc1 := hsrc.below hb1
  have hall1 := hbel.trans (hb1.mono hge)
  have hpl : Hid ((Plain.pack ps f).length = m) := by have h := Plain.length_pack ps f; rw [hps.out, hm.out] at h; exact h
  simp only [World.size_alloc] at hr1
  clear hsrc hbel hb1 hge hnil hmk hcp
  go_wp2_with fail
  refine (unpack_any _ m m (Plain.pack ps f) _ _ f len _ (Src.row hr1) hpl.out (by simp) (Plain.pack_lt _ _) rfl rfl (by omega) (by omega)).mono ?_
  rintro e w2 ⟨rfl, hr2, hb2⟩
  have hsrc2 := hsrc1.below hb2
  have hall := hall1.trans (hb2.mono hall1.size)
  clear hall1 hr1 hsrc1 hb2
  go_wp2_with fail
  go_loopw [8] (fun i wr => ∃ k : Nat, k ≤ len ∧ i = .int .i64 k ∧ Below w2.heap.size w2 wr) (fun i _ => len - (intOf i).toNat)
  case atStart => exact ⟨0, Nat.zero_le _, rfl, Below.refl _ _⟩
  case round =>
    obtain ⟨k, hk, rfl, hbw⟩ := hrel
    by_cases hlt : k < len
    · have hrow1 := (hsrc2.below hbw).toRow
      have c1 := hrow1.cell k (by rw [hps.out]; exact hlt)
      have c2 := (hr2.below hbw hr2.lt).cell k (by rw [Plain.length_unpack]; exact hlt)
      rw [Plain.getD_unpack _ _ _ _ hlt, Plain.sept_pack _ _ _ (by rw [hps.out]; exact hlt)] at c2
      have bs := Plain.getD_lt hpb k
      generalize ps.getD k 0 = y at c1 c2 bs
      have hval := and127 y bs
      generalize y &&& 127 = v at c2 hval
      clear hrow1
      go_wp2
      go_region
      go_wp2
      go_roundw
      case rel => exact ⟨k + 1, by omega, by go_num, hbw.drew⟩
      case measure => simp [intOf]; omega
    · go_wp2
      go_ret
      exact ⟨rfl, hall.trans (hbw.mono hall.size)⟩

set_option maxHeartbeats 1000000 in
theorem walk_nil (len cap : Nat) (ps : List Nat) (f m : Nat) (w : World) (hps0 : ps = []) (hlen : len = 0) (hcap : cap = 0)
    (hl : len ≤ 1048576) (hf : f ≤ 65536) (hm0 : (f + len * 7 + 7) / 8 = m) :
    Calls Try.prog 6 #[.slice none len cap, .int .i64 f] w fun e w' => e = .returned (.bool true) ∧ Below w.heap.size w w' := by
  have hnil := fun w : World => run_neq_slice_nil_any (P := Try.prog) w 22 5 none len cap 0 0 Try.underlying22
  have hps : Hid (ps.length = len) := by rw [hps0, hlen]; rfl
  have hpb : ∀ x ∈ ps, x < 256 := by rw [hps0]; simp
  have HP : Hid (ps = []) := hps0
  have HC : Hid (cap = 0) := hcap
  clear hlen hps0 hcap
  have hm : Hid ((f + len * 7 + 7) / 8 = m) := hm0
  have hm1 : f + len * 7 ≤ 8 * m := by omega
  have hm2 : 8 * m ≤ f + len * 7 + 7 := by omega
  clear hm0
  go_enter Try.func6, Try.ntmps6
  go_wp2_with fail
  refine (bytes_le none len cap f w hl).mono ?_
  rintro e w' ⟨rfl, rfl⟩
  go_wp2_with fail
  have hsrc : Src w' none ps := .inl ⟨rfl, HP.out⟩
  have hbel : Below w'.heap.size w' w' := Below.refl _ _
  have hge : w'.heap.size ≤ w'.heap.size := Nat.le_refl _
  refine (pack_any none len cap ps f m _ hsrc hps.out (fun _ => HC.out) hpb hl (by omega) hm.out).mono ?_
  rintro e w1 ⟨rfl, hr1, hb1⟩
  have hsrc1 := hsrc.below hb1
  have hall1 := hbel.trans (hb1.mono hge)
  have hpl : Hid ((Plain.pack ps f).length = m) := by have h := Plain.length_pack ps f; rw [hps.out, hm.out] at h; exact h
  skip
  clear hsrc hbel hb1 hge hnil 
  go_wp2_with fail
  refine (unpack_any _ m m (Plain.pack ps f) _ _ f len _ (Src.row hr1) hpl.out (by simp) (Plain.pack_lt _ _) rfl rfl (by omega) (by omega)).mono ?_
  rintro e w2 ⟨rfl, hr2, hb2⟩
  have hsrc2 := hsrc1.below hb2
  have hall := hall1.trans (hb2.mono hall1.size)
  clear hall1 hr1 hsrc1 hb2
  go_wp2_with fail
  go_loopw [8] (fun i wr => ∃ k : Nat, k ≤ len ∧ i = .int .i64 k ∧ Below w2.heap.size w2 wr) (fun i _ => len - (intOf i).toNat)
  case atStart => exact ⟨0, Nat.zero_le _, rfl, Below.refl _ _⟩
  case round =>
    obtain ⟨k, hk, rfl, hbw⟩ := hrel
    by_cases hlt : k < len
    · exfalso
      have h1 := hps.out
      rw [HP.out] at h1
      simp at h1
      omega
    · go_wp2
      go_ret
      exact ⟨rfl, hall.trans (hbw.mono hall.size)⟩

set_option maxHeartbeats 1000000 in
theorem walk (a0 : Option Addr) (len0 cap0 : Nat) (z0 : List Int) (a1 : Int) (w : World) (w0 : IsRow .u8 w a0 len0 cap0 z0) (w1 : (Lit.int .i64 a1).wf = true) :
    Calls Try.prog 6 #[.slice a0 len0 cap0, .int .i64 a1] w fun e w' => e = .returned (.bool true) ∧ Below w.heap.size w w' := by
  by_cases h1 : len0 ≤ 1048576
  case neg =>
    have h1' : (1048576 : Int) < (len0 : Int) := by omega
    go_enter Try.func6, Try.ntmps6
    go_wp2_with fail
    refine (bytes_gt a0 len0 cap0 a1 w (by omega)).mono ?_
    rintro e w' ⟨rfl, rfl⟩
    go_wp2
    go_ret
    exact ⟨rfl, Below.refl _ _⟩
  by_cases h3 : 0 ≤ a1 ∧ a1 ≤ 65536
  case neg =>
    go_enter Try.func6, Try.ntmps6
    go_wp2_with fail
    refine (bytes_le a0 len0 cap0 a1 w h1).mono ?_
    rintro e w' ⟨rfl, rfl⟩
    rcases (show a1 < 0 ∨ 65536 < a1 by omega) with h | h
    all_goals
      go_wp2
      go_ret
      exact ⟨rfl, Below.refl _ _⟩
  obtain ⟨f, rfl⟩ := Int.eq_ofNat_of_zero_le h3.1
  have hf : f ≤ 65536 := by omega
  clear h3 w1
  rcases w0 with ⟨rfl, hlen, hcap, _⟩ | ⟨x, rfl, hlc, _, hz, hcell, hw⟩
  · exact walk_nil len0 cap0 [] f _ w rfl hlen hcap h1 hf rfl
  · exact walk_some x len0 cap0 z0 f _ w hlc hz hcell hw h1 hf rfl

end Go.Proofs.Qxb6603307a.fnUnpackGSM7UndoesPackGSM7
