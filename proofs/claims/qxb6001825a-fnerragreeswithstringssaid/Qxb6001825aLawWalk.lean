import Derived.Test.Qxb6001825aCount
import Derived.Test.Qxb6001825aList
import Derived.Test.Qxb6001825aStrs
namespace Go.Proofs.Qxb6001825a.fnErrAgreesWithStrings
open Go.RowKit

set_option maxHeartbeats 1000000 in
/-- Behind the two tests on the lengths and the count of bytes. -/
theorem walk_in (a1 a2 : Option Addr) (len1 cap1 len2 cap2 : Nat) (ss1 ss2 : List ByteArray) (b : Bool) (w : World) (h1 : IsStrs w a1 len1 cap1 ss1) (h2 : IsStrs w a2 len2 cap2 ss2) (hm1 : len1 ≤ 65536) (hm2 : len2 ≤ 65536) :
    Calls Try.prog 3 #[.slice a1 len1 cap1, .slice a2 len2 cap2, .bool b] w fun e w' => e = .returned (.bool true) ∧ Below w.heap.size w w' := by
  go_enter Try.func3, Try.ntmps3
  go_wp2_with fail
  refine (zzBytes_any a1 a2 len1 cap1 len2 cap2 ss1 ss2 b w h1 h2).mono ?_
  rintro e w' ⟨⟨r, rfl⟩, hw'⟩
  subst w'
  cases r
  case false =>
    go_wp2
    go_ret
    exact ⟨rfl, Below.refl _ _⟩
  go_wp2_with fail
  refine (bytesOf_any a1 len1 cap1 ss1 w h1 hm1).mono ?_
  rintro e w' ⟨⟨z1, rfl, hz1, hs1⟩, hw'⟩
  subst w'
  go_wp2_with fail
  refine (bytesOf_any a2 len2 cap2 ss2 w h2 hm2).mono ?_
  rintro e w' ⟨⟨z2, rfl, hz2, hs2⟩, hw'⟩
  subst w'
  by_cases hz : z1 + z2 ≤ 1048576
  case neg =>
    clear hs1 hs2
    go_wp2
    go_ret
    exact ⟨rfl, Below.refl _ _⟩
  have hsz1 : Hid (∀ i, ((shownS ss1 len1).getD i ByteArray.empty).size ≤ 1048576) := shownS_size ss1 len1 (hs1 (by omega))
  have hsz2 : Hid (∀ i, ((shownS ss2 len2).getD i ByteArray.empty).size ≤ 1048576) := shownS_size ss2 len2 (hs2 (by omega))
  clear hs1 hs2
  go_wp2_with fail
  refine (clone_any a1 len1 cap1 ss1 w h1 hm1).mono ?_
  rintro e w1 ⟨a1', c1', rfl, hsrc1, hb1⟩
  have h2' := h2.below hb1
  go_wp2_with fail
  refine (clone_any a2 len2 cap2 ss2 w1 h2' hm2).mono ?_
  rintro e w2 ⟨a2', c2', rfl, hsrc2, hb2⟩
  have hsrc1' := hsrc1.below hb2
  have hall2 := hb1.trans (hb2.mono hb1.size)
  have hl1 := length_shownS ss1 len1
  have hl2 := length_shownS ss2 len2
  clear h1 h2 h2' hsrc1 hb1 hb2
  generalize shownS ss1 len1 = t1 at hsz1 hsrc1' hl1
  generalize shownS ss2 len2 = t2 at hsz2 hsrc2 hl2
  have HL : Hid (t1.length = len1 ∧ t2.length = len2) := ⟨hl1, hl2⟩
  clear hl1 hl2
  go_wp2_with fail
  obtain ⟨n, hn⟩ : ∃ n, max len1 len2 = n := ⟨_, rfl⟩
  have hnm : n ≤ 65536 := by omega
  rcases Nat.eq_zero_or_pos n with h0 | h0
  · subst h0
    refine (build_zero a1' a2' len1 c1' len2 c2' t1 t2 b w2 hsrc1' hsrc2 HL.out.1 HL.out.2 hn).mono ?_
    rintro e w3 ⟨la, lc, rfl, hb3⟩
    clear hn
    go_wp2_with fail
    refine (strings_zero la lc w3).mono ?_
    rintro e w4 ⟨rfl, hb4⟩
    go_wp2_with fail
    refine (err_zero la lc w4).mono ?_
    rintro e w' ⟨rfl, hw'⟩
    subst w'
    go_wp2_with fail
    refine wp_loop_rounds 1 ?_
    rw [rounds_succ]
    go_wp2
    go_ret
    have hall3 := hall2.trans (hb3.mono hall2.size)
    exact ⟨rfl, hall3.trans (hb4.mono hall3.size)⟩
  · have HN : Hid (max len1 len2 = n) := hn
    clear hn
    refine (build_pos a1' a2' len1 c1' len2 c2' n t1 t2 b w2 hsrc1' hsrc2 HL.out.1 HL.out.2 hm1 hm2 HN.out h0).mono ?_
    rintro e w3 ⟨g, lc, rfl, hg, hb3, hcell⟩
    have HC : Hid (∀ i, i < n → w3.cell? ⟨g, i * 2, none⟩ = some (.string (t1.getD i ByteArray.empty)) ∧ w3.cell? ⟨g, i * 2 + 1, none⟩ = some (.string (t2.getD i ByteArray.empty))) := hcell
    clear hcell
    go_wp2_with fail
    refine (strings_some g n lc (fun i => t1.getD i ByteArray.empty) (fun i => t2.getD i ByteArray.empty) w3 hg HC.out (fun i _ => hsz1.out i) (fun i _ => hsz2.out i) hnm).mono ?_
    rintro e w4 ⟨rfl, hr4, hb4⟩
    go_wp2_with fail
    refine (err_some (some ⟨g, 0, none⟩) n lc h0 w4).mono ?_
    rintro e w' ⟨rfl, hw'⟩
    subst w'
    have hn0 : ((n : Int) != 0) = true := by rw [bne_iff_ne]; omega
    go_wp2_with fail
    have hall3 := hall2.trans (hb3.mono hall2.size)
    have hall := hall3.trans (hb4.mono hall3.size)
    have hg4 : g < w4.heap.size := Nat.lt_of_lt_of_le hg hb4.size
    have HC4 : Hid (∀ i, i < n → w4.cell? ⟨g, i * 2, none⟩ = some (.string (t1.getD i ByteArray.empty)) ∧ w4.cell? ⟨g, i * 2 + 1, none⟩ = some (.string (t2.getD i ByteArray.empty))) :=
      fun i hi => ⟨(hb4.cell (p := ⟨g, i * 2, none⟩) hg).trans (HC.out i hi).1, (hb4.cell (p := ⟨g, i * 2 + 1, none⟩) hg).trans (HC.out i hi).2⟩
    clear hsrc1' hsrc2 hb3 hb4 hall2 hall3
    go_loopw [10] (fun i wr => ∃ k : Nat, k ≤ n ∧ i = .int .i64 k ∧ Below w4.heap.size w4 wr) (fun i _ => n - (intOf i).toNat)
    case atStart => exact ⟨0, Nat.zero_le _, rfl, Below.refl _ _⟩
    case round =>
      obtain ⟨k, hk, rfl, hbw⟩ := hrel
      by_cases hlt : k < n
      · have q0 := (hr4.below hbw hr4.lt).cell k (by rw [length_fillTo _ _ _ (Nat.le_refl _)]; exact hlt)
        rw [fillTo_at _ _ _ _ hlt] at q0
        have q1 := (hbw.cell (p := ⟨g, k * 2, none⟩) hg4).trans (HC4.out k hlt).1
        have q2 := (hbw.cell (p := ⟨g, k * 2 + 1, none⟩) hg4).trans (HC4.out k hlt).2
        have y1 := hsz1.out k
        have y2 := hsz2.out k
        generalize t1.getD k ByteArray.empty = fk at q0 q1 y1
        generalize t2.getD k ByteArray.empty = ck at q0 q2 y2
        have hiL := fun w : World => isLine_line fk ck w y1 y2
        have HLn : Hid (∀ w : World, Calls Try.prog 10 #[.string (line fk ck), .string fk, .string ck] w fun e w' => e = .returned (.bool true) ∧ ∃ m, w' = w.drewN m) := hiL
        clear hiL
        generalize line fk ck = ln at q0 HLn
        have i1 : (k : Int) < (n : Int) := by omega
        go_wp2
        go_quiet ((go_at_call 10; exact Calls.quiet_of (HLn.out _)))
        go_wp2
        go_roundw
        case rel => exact ⟨k + 1, by omega, by go_num, below_drewN hbw _⟩
        case measure => simp [intOf]; omega
      · go_wp2
        go_ret
        exact ⟨rfl, hall.trans (hbw.mono hall.size)⟩

set_option maxHeartbeats 1000000 in
theorem walk (a1 a2 : Option Addr) (len1 cap1 len2 cap2 : Nat) (ss1 ss2 : List ByteArray) (b : Bool) (w : World) (h1 : IsStrs w a1 len1 cap1 ss1) (h2 : IsStrs w a2 len2 cap2 ss2) :
    Calls Try.prog 3 #[.slice a1 len1 cap1, .slice a2 len2 cap2, .bool b] w fun e w' => e = .returned (.bool true) ∧ Below w.heap.size w w' := by
  by_cases hm1 : len1 ≤ 65536
  · by_cases hm2 : len2 ≤ 65536
    · exact walk_in a1 a2 len1 cap1 len2 cap2 ss1 ss2 b w h1 h2 hm1 hm2
    · go_enter Try.func3, Try.ntmps3
      go_wp2_with fail
      refine (zzBytes_any a1 a2 len1 cap1 len2 cap2 ss1 ss2 b w h1 h2).mono ?_
      rintro e w' ⟨⟨r, rfl⟩, hw'⟩
      subst w'
      cases r
      all_goals
        go_wp2
        go_ret
        exact ⟨rfl, Below.refl _ _⟩
  · go_enter Try.func3, Try.ntmps3
    go_wp2_with fail
    refine (zzBytes_any a1 a2 len1 cap1 len2 cap2 ss1 ss2 b w h1 h2).mono ?_
    rintro e w' ⟨⟨r, rfl⟩, hw'⟩
    subst w'
    cases r
    all_goals
      go_wp2
      go_ret
      exact ⟨rfl, Below.refl _ _⟩

end Go.Proofs.Qxb6001825a.fnErrAgreesWithStrings
