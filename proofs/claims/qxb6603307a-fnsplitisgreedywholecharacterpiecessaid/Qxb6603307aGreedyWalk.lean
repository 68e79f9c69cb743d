import Derived.Test.Qxb6603307aSplit3
import Derived.RegionTactic
namespace Go.Proofs.Qxb6603307a.fnSplitIsGreedyWholeCharacterPieces
open Go.RowKit

theorem bytes_le (a : Option Addr) (len cap : Nat) (x y : Int) (w : World) (h : len ≤ 1048576) :
    Calls Try.prog 10 #[.slice a len cap, .int .u8 x, .int .i64 y] w fun e w' => e = .returned (.bool true) ∧ w' = w := by
  have h1 : ¬ (1048576 : Int) < (len : Int) := by omega
  go_enter Try.func10, Try.ntmps10
  go_wp2
  go_ret
  exact ⟨rfl, rfl⟩
theorem bytes_gt (a : Option Addr) (len cap : Nat) (x y : Int) (w : World) (h : 1048576 < len) :
    Calls Try.prog 10 #[.slice a len cap, .int .u8 x, .int .i64 y] w fun e w' => e = .returned (.bool false) ∧ w' = w := by
  have h1 : (1048576 : Int) < (len : Int) := by omega
  go_enter Try.func10, Try.ntmps10
  go_wp2
  go_ret
  exact ⟨rfl, rfl⟩

set_option maxHeartbeats 1000000 in
theorem walk_nil (a mx : Nat) (w : World) (ha : a = 0 ∨ a = 2) (ht : Cuts.top a ≤ mx) :
    Calls Try.prog 3 #[.slice none 0 0, .int .u8 (a : Int), .int .i64 (mx : Int)] w fun e w' => e = .returned (.bool true) ∧ Below w.heap.size w w' := by
  go_enter Try.func3, Try.ntmps3
  go_wp2_with fail
  refine (bytes_le none 0 0 a mx w (by omega)).mono ?_
  rintro e w' ⟨rfl, rfl⟩
  go_wp2_with fail
  refine (domain_yes a mx ha ht _).mono ?_
  rintro e w'' ⟨rfl, rfl⟩
  go_wp2_with fail
  refine (clone_nil _).mono ?_
  rintro e w' ⟨rfl, rfl⟩
  go_wp2_with fail
  refine (split_empty none a mx _).mono ?_
  rintro e w1 ⟨h, c, rfl, h1, h2, hc, hb⟩
  go_wp2
  go_ret
  exact ⟨rfl, hb⟩

set_option maxHeartbeats 1000000 in
theorem walk_empty (x : Addr) (cap : Nat) (zs : List Int) (a mx : Nat) (w : World) (hlc : 0 ≤ cap) (hz : zs.length = cap)
    (hcell : ∀ i, i < zs.length → w.cell? (x.add i) = some (.int .u8 (zs.getD i 0))) (hw : ∀ n ∈ zs, (Lit.int .u8 n).wf = true) (ha : a = 0 ∨ a = 2) (ht : Cuts.top a ≤ mx) :
    Calls Try.prog 3 #[.slice (some x) 0 cap, .int .u8 (a : Int), .int .i64 (mx : Int)] w fun e w' => e = .returned (.bool true) ∧ Below w.heap.size w w' := by
  have HC : Hid (∀ i, i < zs.length → w.cell? (x.add i) = some (.int .u8 (zs.getD i 0))) := hcell
  clear hcell
  go_enter Try.func3, Try.ntmps3
  go_wp2_with fail
  refine (bytes_le (some x) 0 cap a mx w (by omega)).mono ?_
  rintro e w' ⟨rfl, hw'⟩
  subst w'
  go_wp2_with fail
  refine (domain_yes a mx ha ht _).mono ?_
  rintro e w' ⟨rfl, hw'⟩
  subst w'
  go_wp2_with fail
  refine (clone_some x 0 cap zs w hlc hz HC.out hw (by omega)).mono ?_
  rintro e w1 ⟨rfl, hr1, hb1⟩
  go_wp2_with fail
  refine (split_empty (some ⟨w.heap.size, 0, none⟩) a mx _).mono ?_
  rintro e w2 ⟨h, c, rfl, h1, h2, hc, hb2⟩
  go_wp2
  go_ret
  exact ⟨rfl, hb1.trans (hb2.mono hb1.size)⟩

set_option maxHeartbeats 4000000 in
set_option maxRecDepth 100000 in
theorem walk_some (x : Addr) (len cap : Nat) (zs : List Int) (a mx : Nat) (w : World) (hlc : len ≤ cap) (hz : zs.length = cap)
    (hcell : ∀ i, i < zs.length → w.cell? (x.add i) = some (.int .u8 (zs.getD i 0))) (hw : ∀ n ∈ zs, (Lit.int .u8 n).wf = true) (hl : len ≤ 1048576) (hl0 : 0 < len) (ha : a = 0 ∨ a = 2) (ht : Cuts.top a ≤ mx) :
    Calls Try.prog 3 #[.slice (some x) len cap, .int .u8 (a : Int), .int .i64 (mx : Int)] w fun e w' => e = .returned (.bool true) ∧ Below w.heap.size w w' := by
  have HC : Hid ((∀ i, i < zs.length → w.cell? (x.add i) = some (.int .u8 (zs.getD i 0))) ∧ ∀ n ∈ zs, (Lit.int .u8 n).wf = true) := ⟨hcell, hw⟩
  have hlz : ((len : Int) == 0) = false := by rw [beq_eq_false_iff_ne]; omega
  have hcs0 := length_shown zs len (by omega)
  have hcb := shown_lt zs len hw
  clear hcell hw
  go_enter Try.func3, Try.ntmps3
  go_wp2_with fail
  refine (bytes_le (some x) len cap a mx w hl).mono ?_
  rintro e w' ⟨rfl, hw'⟩
  subst w'
  go_wp2_with fail
  refine (domain_yes a mx ha ht _).mono ?_
  rintro e w' ⟨rfl, hw'⟩
  subst w'
  go_wp2_with fail
  refine (clone_some x len cap zs w hlc hz HC.out.1 HC.out.2 hl).mono ?_
  rintro e w1 ⟨rfl, hr1, hb1⟩
  generalize shown zs len = cs at hr1 hcs0 hcb
  obtain ⟨T, hT⟩ := Cuts.reach_ex cs a
  have hcs : Hid (cs.length = len) := hcs0
  clear hcs0 HC hz
  go_wp2_with fail
  refine (split_fin w.heap.size len a mx T cs w1 hr1 hcs.out hcb ha ht hl hl0 hT).mono ?_
  rintro e w2 ⟨h, c, rfl, hh1, hh2, hpc, hb2⟩
  have hr2 := hr1.below hb2 hr1.lt
  have hall := hb1.trans (hb2.mono hb1.size)
  have HS := Cuts.pos_steps cs a mx T ht
  have hT0 := hT.pos_T (by rw [hcs.out]; exact hl0)
  have hTl : T ≤ len := by rw [← hcs.out]; exact hT.le_len
  have hE : len ≤ Cuts.pos cs a T := by rw [← hcs.out]; exact hT.1
  have hin : ∀ j, j < T → Cuts.pos cs a j < len := by rw [← hcs.out]; exact hT.2
  have hst : Hid (∀ j, Cuts.pos cs a (j + 1) = Cuts.pos cs a j + Cuts.cl a (cs.getD (Cuts.pos cs a j) 0)) := fun j => rfl
  obtain ⟨B, hB⟩ : ∃ B, B = Cuts.pos cs a := ⟨_, rfl⟩
  rw [← hB] at HS hE hin hst hpc ⊢
  have hPF := fun p => Cuts.piece_facts HS hT0 hE hin p
  have hNl : (Cuts.starts B mx T).length ≤ T + 1 := by rw [Cuts.length_starts]; have := Cuts.cuts_len B mx T; omega
  have hz0 := Cuts.at_zero (B := B) mx T len HS.1
  have hzN := Cuts.at_end B mx T len
  generalize (Cuts.starts B mx T).length = N at hpc hPF hNl hzN ⊢
  have HPC : Hid (∀ p, p < N → w2.cell? ⟨h, p, none⟩ = some (pieceV w.heap.size len (Cuts.at' B mx T len p) (Cuts.at' B mx T len (p + 1)))) := hpc
  have HPF : Hid (∀ p, p < N → Cuts.ch B mx T p < Cuts.ch B mx T (p + 1) ∧ Cuts.ch B mx T (p + 1) ≤ T ∧ Cuts.at' B mx T len p = B (Cuts.ch B mx T p) ∧ Cuts.at' B mx T len (p + 1) = min (B (Cuts.ch B mx T (p + 1))) len ∧
      B (Cuts.ch B mx T (p + 1)) - B (Cuts.ch B mx T p) ≤ mx ∧ (p + 1 < N → B (Cuts.ch B mx T (p + 1)) < len ∧ mx < B (Cuts.ch B mx T (p + 1) + 1) - B (Cuts.ch B mx T p))) := hPF
  have HZ : Hid (Cuts.at' B mx T len 0 = 0 ∧ Cuts.at' B mx T len N = len) := ⟨hz0, hzN⟩
  have HIN : Hid (∀ j, j < T → B j < len) := hin
  have HSS : Hid (Cuts.Steps B mx T) := HS
  clear hpc hPF hz0 hzN hin HS hB hT hE hr1 hb1 hb2 hlc
  have hsz2 := hall.size
  generalize hg : w.heap.size = g at *
  have HG0 : Hid (w.heap.size = g) := hg
  clear hg
  go_wp2_with fail
  go_loopw [8, 9] (fun q p wr => ∃ i : Nat, i ≤ N ∧ p = .int .i64 i ∧ q = .int .i64 ((Cuts.at' B mx T len i : Nat) : Int) ∧ Below w2.heap.size w2 wr) (fun _ p _ => N - (intOf p).toNat)
  case atStart => exact ⟨0, Nat.zero_le _, rfl, by rw [HZ.out.1]; rfl, Below.refl _ _⟩
  case round =>
    obtain ⟨i, hi, rfl, rfl, hbw⟩ := hrel
    by_cases hlt : i < N
    · obtain ⟨f1, f2, f3, f4, f5, f6⟩ := HPF.out i hlt
      have cp := (hbw.cell (p := ⟨h, i, none⟩) hh2).trans (HPC.out i hlt)
      unfold pieceV at cp
      have hs0 := HIN.out _ (Nat.lt_of_lt_of_le f1 f2)
      have hmo := HSS.out.lt f1 f2
      rw [f3] at cp ⊢
      obtain ⟨s, hs⟩ : ∃ s, s = B (Cuts.ch B mx T i) := ⟨_, rfl⟩
      rw [← hs] at cp hs0 hmo f5 f6 ⊢
      obtain ⟨L, hL⟩ : ∃ L, Cuts.at' B mx T len (i + 1) = s + L := ⟨Cuts.at' B mx T len (i + 1) - s, by omega⟩
      rw [hL] at cp f4
      rw [Nat.add_sub_cancel_left] at cp
      have HL : Hid (Cuts.at' B mx T len (i + 1) = s + L ∧ s + L = min (B (Cuts.ch B mx T (i + 1))) len ∧ s = B (Cuts.ch B mx T i)) := ⟨hL, f4, hs⟩
      have hLp : 0 < L := by omega
      have hLl : s + L ≤ len := by omega
      have hLz : ((L : Int) == 0) = false := by rw [beq_eq_false_iff_ne]; omega
      have F6 : Hid (i + 1 < N → B (Cuts.ch B mx T (i + 1)) < len ∧ mx < B (Cuts.ch B mx T (i + 1) + 1) - s) := f6
      generalize len - s = R at cp
      generalize Cuts.ch B mx T i = t0 at f1 HL
      generalize Cuts.ch B mx T (i + 1) = t1 at f1 f2 f5 F6 HL hmo
      clear f3 f4 f6 hL hs
      obtain ⟨wo, rfl⟩ : ∃ wo : World, wo = wr := ⟨_, rfl⟩
      have hro := hr2.below hbw hr2.lt
      go_wp2_with fail
      go_loopw [8, 11, 12] (fun q z k wr => ∃ t kk zz : Nat, t0 ≤ t ∧ t ≤ t1 ∧ kk ≤ L ∧ q = .int .i64 (s + kk : Nat) ∧ z = .int .i64 (zz : Nat) ∧ k = .int .i64 (kk : Nat) ∧ s + zz = B t ∧ s + kk = min (B t) len ∧ Below wo.heap.size wo wr) (fun _ _ k _ => L - (intOf k).toNat)
      case atStart => exact ⟨t0, 0, 0, Nat.le_refl _, Nat.le_of_lt f1, Nat.zero_le _, rfl, rfl, rfl, HL.out.2.2, by rw [← HL.out.2.2]; omega, Below.refl _ _⟩
      case round =>
        obtain ⟨t, kk, zz, g1, g2, g3, rfl, rfl, rfl, g4, g5, hbi⟩ := hrel
        have hmt : B t ≤ B t1 := HSS.out.mono g2 f2
        by_cases hk : kk < L
        · have htt : t < t1 := by
            apply Nat.lt_of_le_of_ne g2
            intro e
            rw [e, ← HL.out.2.1] at g5
            omega
          have hBt := HIN.out t (by omega)
          have hkz : zz = kk := by omega
          subst hkz
          have hBt1 : B (t + 1) ≤ B t1 := HSS.out.mono htt f2
          have hstep := hst.out t
          rw [← g4] at hstep
          have hri := hro.below hbi hro.lt
          have cc := hri.cell (s + zz) (by rw [hcs.out]; omega)
          have hc1 := Plain.getD_lt hcb (s + zz)
          have hn4 : Cuts.cl a (cs.getD (s + zz) 0) ≤ 4 := Nat.le_trans (Cuts.cl_top _ _) (by unfold Cuts.top; split <;> omega)
          have hn1 := Cuts.cl_pos a (cs.getD (s + zz) 0)
          have hsl : s + zz < len := by omega
          generalize cs.getD (s + zz) 0 = c0 at cc hc1 hstep hn4 hn1
          have HST : Hid (B (t + 1) = s + zz + Cuts.cl a c0 ∧ s + zz = B t ∧ B (t + 1) ≤ B t1 ∧ s + L = min (B t1) len) := ⟨hstep, g4, hBt1, HL.out.2.1⟩
          obtain ⟨wi, rfl⟩ : ∃ wi : World, wi = wr := ⟨_, rfl⟩
          clear g4 g5 hstep hBt1 hBt hmt
          go_wp2_with fail
          refine (charLen_any a c0 ha hc1 _).mono ?_
          rintro e' w' ⟨rfl, hw'⟩
          subst w'
          generalize Cuts.cl a c0 = n at hn4 hn1 HST ⊢
          have hmx2 : ∃ m : Nat, 1 ≤ m ∧ zz + m ≤ L ∧ s + zz + m = min (B (t + 1)) len ∧ ((m = n ∧ n ≤ len - (s + zz)) ∨ (s + zz + m = len ∧ len - (s + zz) < n)) := by
            have h1 := HST.out
            by_cases hm : n ≤ len - (s + zz)
            · exact ⟨n, hn1, by omega, by omega, .inl ⟨rfl, hm⟩⟩
            · exact ⟨len - (s + zz), by omega, by omega, by omega, .inr ⟨by omega, by omega⟩⟩
          obtain ⟨m, hm1, hm2, hm3, hm4⟩ := hmx2
          have HM : Hid (s + zz + m = min (B (t + 1)) len) := hm3
          clear hm3
          rcases hm4 with ⟨rfl, hm4⟩ | ⟨hm4, hm5⟩
          · go_wp2_with fail
            go_loopw [15] (fun jv wr => ∃ j : Nat, j ≤ m ∧ jv = .int .i64 j ∧ Below wi.heap.size wi wr) (fun jv _ => m - (intOf jv).toNat)
            case atStart => exact ⟨0, Nat.zero_le _, rfl, Below.refl _ _⟩
            case round =>
              obtain ⟨j, hj, rfl, hbj⟩ := hrel
              by_cases hjm : j < m
              · have c1 := (hri.below hbj hri.lt).cell (s + zz + j) (by rw [hcs.out]; omega)
                have c2 := (hri.below hbj hri.lt).cell (s + (zz + j)) (by rw [hcs.out]; omega)
                rw [show cs.getD (s + zz + j) 0 = cs.getD (s + (zz + j)) 0 by rw [Nat.add_assoc]] at c1
                generalize cs.getD (s + (zz + j)) 0 = y at c1 c2
                have i1 : (zz : Int) + (j : Int) < (L : Int) := by omega
                have i2 : (s : Int) + (zz : Int) + (j : Int) < (len : Int) := by omega
                go_wp2
                go_region
                go_wp2
                go_roundw
                case rel => exact ⟨j + 1, by omega, by go_num, hbj.drew⟩
                case measure => simp [intOf]; omega
              · go_wp2
                go_roundw
                case rel => exact ⟨t + 1, zz + m, zz + m, by omega, htt, hm2, by go_num, by go_num, by go_num, by have := HST.out; omega, by have := HM.out; omega, hbi.trans (hbj.mono hbi.size)⟩
                case measure => simp [intOf]; omega
          · have hm6 : len ≤ s + zz + m := by omega
            have hm7 : s + zz + m ≤ len := by omega
            clear hm4
            go_wp2_with fail
            go_loopw [15] (fun jv wr => ∃ j : Nat, j ≤ m ∧ jv = .int .i64 j ∧ Below wi.heap.size wi wr) (fun jv _ => m - (intOf jv).toNat)
            case atStart => exact ⟨0, Nat.zero_le _, rfl, Below.refl _ _⟩
            case round =>
              obtain ⟨j, hj, rfl, hbj⟩ := hrel
              by_cases hjm : j < m
              · have c1 := (hri.below hbj hri.lt).cell (s + zz + j) (by rw [hcs.out]; omega)
                have c2 := (hri.below hbj hri.lt).cell (s + (zz + j)) (by rw [hcs.out]; omega)
                rw [show cs.getD (s + zz + j) 0 = cs.getD (s + (zz + j)) 0 by rw [Nat.add_assoc]] at c1
                generalize cs.getD (s + (zz + j)) 0 = y at c1 c2
                have i1 : (zz : Int) + (j : Int) < (L : Int) := by omega
                have i2 : (s : Int) + (zz : Int) + (j : Int) < (len : Int) := by omega
                go_wp2
                go_region
                go_wp2
                go_roundw
                case rel => exact ⟨j + 1, by omega, by go_num, hbj.drew⟩
                case measure => simp [intOf]; omega
              · go_wp2
                go_roundw
                case rel => exact ⟨t + 1, zz + m, zz + n, by omega, htt, hm2, by go_num, by go_num, by go_num, by have := HST.out; omega, by have := HM.out; omega, hbi.trans (hbj.mono hbi.size)⟩
                case measure => simp [intOf]; omega
        · obtain rfl : kk = L := by omega
          obtain rfl : t = t1 := by
            rcases Nat.lt_or_ge t t1 with h' | h'
            · exfalso
              have h3 := HIN.out t (by omega)
              have h4 := HSS.out.lt h' f2
              have h5 := HL.out.2.1
              omega
            · omega
          have hzm : zz ≤ mx := by omega
          have HG : Hid (s + zz = B t ∧ s + kk = min (B t) len) := ⟨g4, g5⟩
          have hri := hro.below hbi hro.lt
          by_cases hlast : i + 1 < N
          · obtain ⟨k1, k2⟩ := F6.out hlast
            have hzk : zz = kk := by omega
            subst hzk
            have hstep := hst.out t
            rw [← g4] at hstep
            have cc := hri.cell (s + zz) (by rw [hcs.out]; omega)
            have hc1 := Plain.getD_lt hcb (s + zz)
            have hn4 : Cuts.cl a (cs.getD (s + zz) 0) ≤ 4 := Nat.le_trans (Cuts.cl_top _ _) (by unfold Cuts.top; split <;> omega)
            have hsl : s + zz < len := by omega
            generalize cs.getD (s + zz) 0 = c0 at cc hc1 hstep hn4
            have hbig : mx < zz + Cuts.cl a c0 := by omega
            clear g4 g5 hstep k1 k2 hmt
            go_wp2_with fail
            refine (charLen_any a c0 ha hc1 _).mono ?_
            rintro e' w' ⟨rfl, hw'⟩
            subst w'
            generalize Cuts.cl a c0 = n at hn4 hbig ⊢
            go_wp2
            go_roundw
            case rel => exact ⟨i + 1, by omega, by go_num, by rw [HL.out.1]; go_num, hbw.trans (hbi.mono hbw.size)⟩
            case measure => simp [intOf]; omega
          · clear g4 g5 hmt
            go_wp2
            go_roundw
            case rel => exact ⟨i + 1, by omega, by go_num, by rw [HL.out.1], hbw.trans (hbi.mono hbw.size)⟩
            case measure => simp [intOf]; omega
    · go_wp2
      go_ret
      have e : i = N := by omega
      rw [e, HZ.out.2]
      exact ⟨by simp, by rw [HG0.out]; exact hall.trans (hbw.mono hsz2)⟩

set_option maxHeartbeats 1000000 in
theorem walk (a0 : Option Addr) (len0 cap0 : Nat) (z0 : List Int) (a1 : Int) (a2 : Int) (w : World) (w0 : IsRow .u8 w a0 len0 cap0 z0) (w1 : (Lit.int .u8 a1).wf = true) (w2 : (Lit.int .i64 a2).wf = true) :
    Calls Try.prog 3 #[.slice a0 len0 cap0, .int .u8 a1, .int .i64 a2] w fun e w' => e = .returned (.bool true) ∧ Below w.heap.size w w' := by
  by_cases h1 : len0 ≤ 1048576
  case neg =>
    have h1' : (1048576 : Int) < (len0 : Int) := by omega
    go_enter Try.func3, Try.ntmps3
    go_wp2_with fail
    refine (bytes_gt a0 len0 cap0 a1 a2 w (by omega)).mono ?_
    rintro e w' ⟨rfl, rfl⟩
    go_wp2
    go_ret
    exact ⟨rfl, Below.refl _ _⟩
  by_cases h2 : (a1 = 0 ∧ 2 ≤ a2) ∨ (a1 = 2 ∧ 4 ≤ a2)
  case neg =>
    go_enter Try.func3, Try.ntmps3
    go_wp2_with fail
    refine (bytes_le a0 len0 cap0 a1 a2 w h1).mono ?_
    rintro e w' ⟨rfl, rfl⟩
    go_wp2_with fail
    refine (domain_no a1 a2 ⟨fun h => h2 (.inl h), fun h => h2 (.inr h)⟩ _).mono ?_
    rintro e w'' ⟨rfl, rfl⟩
    go_wp2
    go_ret
    exact ⟨rfl, Below.refl _ _⟩
  obtain ⟨a, rfl⟩ : ∃ a : Nat, a1 = (a : Int) := ⟨a1.toNat, by omega⟩
  obtain ⟨mx, rfl⟩ : ∃ m : Nat, a2 = (m : Int) := ⟨a2.toNat, by omega⟩
  have ha : a = 0 ∨ a = 2 := by omega
  have ht : Cuts.top a ≤ mx := by
    unfold Cuts.top
    split <;> omega
  clear h2 w1 w2
  rcases w0 with ⟨rfl, rfl, rfl, _⟩ | ⟨x, rfl, hlc, _, hz, hcell, hw⟩
  · exact walk_nil a mx w ha ht
  · rcases Nat.eq_zero_or_pos len0 with rfl | hl0
    · exact walk_empty x cap0 z0 a mx w hlc hz hcell hw ha ht
    · exact walk_some x len0 cap0 z0 a mx w hlc hz hcell hw h1 hl0 ha ht

end Go.Proofs.Qxb6603307a.fnSplitIsGreedyWholeCharacterPieces
