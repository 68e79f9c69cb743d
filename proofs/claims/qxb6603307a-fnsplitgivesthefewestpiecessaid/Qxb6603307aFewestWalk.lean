import Derived.Test.Qxb6603307aSplit3
import Derived.Test.Qxb6603307aInts
namespace Go.Proofs.Qxb6603307a.fnSplitGivesTheFewestPieces
open Go.RowKit

theorem bytes_le (a : Option Addr) (len cap : Nat) (x y : Int) (w : World) (h : len ≤ 1048576) :
    Calls Try.prog 15 #[.slice a len cap, .int .u8 x, .int .i64 y] w fun e w' => e = .returned (.bool true) ∧ w' = w := by
  have h1 : ¬ (1048576 : Int) < (len : Int) := by omega
  go_enter Try.func15, Try.ntmps15
  go_wp2
  go_ret
  exact ⟨rfl, rfl⟩
theorem bytes_gt (a : Option Addr) (len cap : Nat) (x y : Int) (w : World) (h : 1048576 < len) :
    Calls Try.prog 15 #[.slice a len cap, .int .u8 x, .int .i64 y] w fun e w' => e = .returned (.bool false) ∧ w' = w := by
  have h1 : (1048576 : Int) < (len : Int) := by omega
  go_enter Try.func15, Try.ntmps15
  go_wp2
  go_ret
  exact ⟨rfl, rfl⟩

set_option maxHeartbeats 1000000 in
theorem walk_nil (a mx : Nat) (w : World) (ha : a = 0 ∨ a = 2) (ht : Cuts.top a ≤ mx) :
    Calls Try.prog 4 #[.slice none 0 0, .int .u8 (a : Int), .int .i64 (mx : Int)] w fun e w' => e = .returned (.bool true) ∧ Below w.heap.size w w' := by
  have hmk0 : ∀ w : World, (Instr.makeSlice 30 (.int .i64 0) (.int .i64 0)).run Try.prog w = .ok (.slice (some ⟨w.heap.size, 0, none⟩) 0 0) (w.alloc (.cells (icells []).toArray 3)) := fun w => run_make_ints 0 (by omega) w
  go_enter Try.func4, Try.ntmps4
  go_wp2_with fail
  refine (bytes_le none 0 0 a mx w (by omega)).mono ?_
  rintro e w' ⟨rfl, rfl⟩
  go_wp2_with fail
  refine (domain_yes a mx ha ht _).mono ?_
  rintro e w'' ⟨rfl, rfl⟩
  go_wp2_with fail
  refine (clone_nil _).mono ?_
  rintro e w' ⟨rfl, rfl⟩
  go_wp2_with fail
  refine (split_empty none a mx _).mono ?_
  rintro e w1 ⟨h, c, rfl, h1, h2, hc, hb⟩
  go_wp2_with fail
  refine wp_loop_rounds 1 ?_
  rw [rounds_succ]
  go_wp2
  go_ret
  exact ⟨rfl, hb.alloc hb.size _⟩

set_option maxHeartbeats 1000000 in
theorem walk_empty (x : Addr) (cap : Nat) (zs : List Int) (a mx : Nat) (w : World) (hlc : 0 ≤ cap) (hz : zs.length = cap)
    (hcell : ∀ i, i < zs.length → w.cell? (x.add i) = some (.int .u8 (zs.getD i 0))) (hw : ∀ n ∈ zs, (Lit.int .u8 n).wf = true) (ha : a = 0 ∨ a = 2) (ht : Cuts.top a ≤ mx) :
    Calls Try.prog 4 #[.slice (some x) 0 cap, .int .u8 (a : Int), .int .i64 (mx : Int)] w fun e w' => e = .returned (.bool true) ∧ Below w.heap.size w w' := by
  have HC : Hid (∀ i, i < zs.length → w.cell? (x.add i) = some (.int .u8 (zs.getD i 0))) := hcell
  clear hcell
  have hmk0 : ∀ w : World, (Instr.makeSlice 30 (.int .i64 0) (.int .i64 0)).run Try.prog w = .ok (.slice (some ⟨w.heap.size, 0, none⟩) 0 0) (w.alloc (.cells (icells []).toArray 3)) := fun w => run_make_ints 0 (by omega) w
  go_enter Try.func4, Try.ntmps4
  go_wp2_with fail
  refine (bytes_le (some x) 0 cap a mx w (by omega)).mono ?_
  rintro e w' ⟨rfl, hw'⟩
  subst w'
  go_wp2_with fail
  refine (domain_yes a mx ha ht _).mono ?_
  rintro e w' ⟨rfl, hw'⟩
  subst w'
  go_wp2_with fail
  refine (clone_some x 0 cap zs w hlc hz HC.out hw (by omega)).mono ?_
  rintro e w1 ⟨rfl, hr1, hb1⟩
  go_wp2_with fail
  refine (split_empty (some ⟨w.heap.size, 0, none⟩) a mx _).mono ?_
  rintro e w2 ⟨h, c, rfl, h1, h2, hc, hb2⟩
  have hall := hb1.trans (hb2.mono hb1.size)
  go_wp2_with fail
  refine wp_loop_rounds 1 ?_
  rw [rounds_succ]
  go_wp2
  go_ret
  exact ⟨rfl, hall.alloc hall.size _⟩

set_option maxHeartbeats 4000000 in
set_option maxRecDepth 100000 in
theorem walk_some (x : Addr) (len cap : Nat) (zs : List Int) (a mx : Nat) (w : World) (hlc : len ≤ cap) (hz : zs.length = cap)
    (hcell : ∀ i, i < zs.length → w.cell? (x.add i) = some (.int .u8 (zs.getD i 0))) (hw : ∀ n ∈ zs, (Lit.int .u8 n).wf = true) (hl : len ≤ 1048576) (hl0 : 0 < len) (ha : a = 0 ∨ a = 2) (ht : Cuts.top a ≤ mx) :
    Calls Try.prog 4 #[.slice (some x) len cap, .int .u8 (a : Int), .int .i64 (mx : Int)] w fun e w' => e = .returned (.bool true) ∧ Below w.heap.size w w' := by
  have HC : Hid ((∀ i, i < zs.length → w.cell? (x.add i) = some (.int .u8 (zs.getD i 0))) ∧ ∀ n ∈ zs, (Lit.int .u8 n).wf = true) := ⟨hcell, hw⟩
  have hmk1 := run_make_ints len (by omega)
  have hcs0 := length_shown zs len (by omega)
  have hcb := shown_lt zs len hw
  clear hcell hw
  go_enter Try.func4, Try.ntmps4
  go_wp2_with fail
  refine (bytes_le (some x) len cap a mx w hl).mono ?_
  rintro e w' ⟨rfl, hw'⟩
  subst w'
  go_wp2_with fail
  refine (domain_yes a mx ha ht _).mono ?_
  rintro e w' ⟨rfl, hw'⟩
  subst w'
  go_wp2_with fail
  refine (clone_some x len cap zs w hlc hz HC.out.1 HC.out.2 hl).mono ?_
  rintro e w1 ⟨rfl, hr1, hb1⟩
  generalize shown zs len = cs at hr1 hcs0 hcb
  obtain ⟨T, hT⟩ := Cuts.reach_ex cs a
  have hcs : Hid (cs.length = len) := hcs0
  clear hcs0 HC hz
  go_wp2_with fail
  refine (split_fin w.heap.size len a mx T cs w1 hr1 hcs.out hcb ha ht hl hl0 hT).mono ?_
  rintro e w2 ⟨h, c, rfl, hh1, hh2, hpc, hb2⟩
  have hr2 := hr1.below hb2 hr1.lt
  have hall := hb1.trans (hb2.mono hb1.size)
  have HS := Cuts.pos_steps cs a mx T ht
  have hT0 := hT.pos_T (by rw [hcs.out]; exact hl0)
  have hTl : T ≤ len := by rw [← hcs.out]; exact hT.le_len
  have hE : len ≤ Cuts.pos cs a T := by rw [← hcs.out]; exact hT.1
  have hin : ∀ j, j < T → Cuts.pos cs a j < len := by rw [← hcs.out]; exact hT.2
  have hst : Hid (∀ j, Cuts.pos cs a (j + 1) = Cuts.pos cs a j + Cuts.cl a (cs.getD (Cuts.pos cs a j) 0)) := fun j => rfl
  obtain ⟨B, hB⟩ : ∃ B, B = Cuts.pos cs a := ⟨_, rfl⟩
  rw [← hB] at HS hE hin hst hpc ⊢
  have hNl : (Cuts.starts B mx T).length ≤ T + 1 := by rw [Cuts.length_starts]; have := Cuts.cuts_len B mx T; omega
  have hfs := fun j hj hp lo hlo hfit hmin => Cuts.few_step HS j hj hp lo hlo hfit hmin
  have hfT : Hid (Cuts.few B mx T = (Cuts.starts B mx T).length) := by show Cuts.few B mx T = _; unfold Cuts.few; rw [if_neg (by omega)]
  have hflen : ∀ j, Cuts.few B mx j ≤ j + 1 := by
    intro j
    unfold Cuts.few
    split
    · omega
    · rw [Cuts.length_starts]; have := Cuts.cuts_len B mx j; omega
  generalize (Cuts.starts B mx T).length = N at hNl hfT ⊢
  have hf0 : Cuts.few B mx 0 = 0 := by unfold Cuts.few; rw [if_pos rfl]
  have HFS : Hid (∀ j, j ≤ T → 0 < j → ∀ lo, lo < j → B j - B lo ≤ mx → (∀ i, i < lo → mx < B j - B i) → Cuts.few B mx j = Cuts.few B mx lo + 1) := hfs
  generalize Cuts.few B mx = F at hfT hf0 hflen HFS
  have HF : Hid (F 0 = 0 ∧ ∀ j, F j ≤ j + 1) := ⟨hf0, hflen⟩
  have HIN : Hid (∀ j, j < T → B j < len) := hin
  have HSS : Hid (Cuts.Steps B mx T) := HS
  have HE : Hid (len ≤ B T ∧ B 0 = 0) := ⟨hE, HS.1⟩
  have hT0i : ((T : Int) == 0) = false := by rw [beq_eq_false_iff_ne]; omega
  have hmk2 : ∀ w : World, (Instr.makeSlice 30 (.int .i64 ((T : Int) + 1)) (.int .i64 ((T : Int) + 1))).run Try.prog w = .ok (.slice (some ⟨w.heap.size, 0, none⟩) (T + 1) (T + 1)) (w.alloc (.cells (icells (List.replicate (T + 1) 0)).toArray 3)) := fun w => run_make_ints (T + 1) (by omega) w
  have hsz2 := hall.size
  clear hfs hf0 hflen hin HS hB hT hE hr1 hb1 hb2 hlc hpc
  generalize hg : w.heap.size = g at *
  have HG0 : Hid (w.heap.size = g) := hg
  clear hg
  go_wp2_with fail
  have hS0 := IRow.made w2 (List.replicate len 0)
  have hw2 := World.size_alloc w2 (.cells (icells (List.replicate len 0)).toArray 3)
  have hball : Below w2.heap.size w2 (w2.alloc (.cells (icells (List.replicate len 0)).toArray 3)) := (Below.refl _ _).alloc (Nat.le_refl _) _
  obtain ⟨D, hD⟩ : ∃ D : Nat → Nat, ∀ i, D i = B (i + 1) - B i := ⟨_, fun _ => rfl⟩
  have HD : Hid (∀ i, D i = B (i + 1) - B i) := hD
  rw [← fillTo_zero D len] at hS0
  clear hD hw2
  go_loopw [9, 10] (fun t q wr => ∃ j : Nat, j ≤ T ∧ t = .int .i64 j ∧ q = .int .i64 ((B j : Nat) : Int) ∧ IRow wr w2.heap.size (fillTo D len j) ∧ Below w2.heap.size w2 wr) (fun _ q _ => len - (intOf q).toNat)
  case atStart => exact ⟨0, Nat.zero_le _, rfl, by rw [HE.out.2]; rfl, hS0, hball⟩
  case round =>
    obtain ⟨j, hj, rfl, rfl, hs, hbw⟩ := hrel
    by_cases hlt : B j < len
    · have hjT : j < T := by
        apply Nat.lt_of_le_of_ne hj
        intro e
        have := HE.out.1
        rw [e] at hlt
        omega
      have hrw := hr2.below hbw hr2.lt
      have cc := hrw.cell (B j) (by rw [hcs.out]; exact hlt)
      have hc1 := Plain.getD_lt hcb (B j)
      have hstep := hst.out j
      have hn4 : Cuts.cl a (cs.getD (B j) 0) ≤ 4 := Nat.le_trans (Cuts.cl_top _ _) (by unfold Cuts.top; split <;> omega)
      have hn1 := Cuts.cl_pos a (cs.getD (B j) 0)
      have hDj := HD.out j
      have hfl := length_fillTo D len j (by omega)
      have cw := hs.cell j (by omega)
      have fz := hs.frozen j
      have hset := fillTo_succ D len j (by omega)
      generalize cs.getD (B j) 0 = c0 at cc hc1 hstep hn4 hn1
      generalize (fillTo D len j).getD j 0 = y at cw
      have HJ : Hid (B (j + 1) = B j + Cuts.cl a c0 ∧ D j = Cuts.cl a c0 ∧ (fillTo D len j).set j (D j) = fillTo D len (j + 1)) := ⟨hstep, by omega, hset⟩
      clear hstep hDj hset hfl
      generalize hee : B j = e at *
      have HEE : Hid (B j = e) := hee
      clear hee
      go_wp2_with fail
      refine (charLen_any a c0 ha hc1 _).mono ?_
      rintro e' w' ⟨rfl, hw'⟩
      subst w'
      generalize Cuts.cl a c0 = n at hn4 hn1 HJ ⊢
      go_wp2
      go_roundw
      case rel =>
        refine ⟨j + 1, by omega, by go_num, by rw [HJ.out.1]; go_num, ?_, hbw.setCell (Nat.le_refl _) _⟩
        rw [← HJ.out.2.2, HJ.out.2.1]
        exact hs.set _ _
      case measure => simp [intOf]; omega
    · have e : j = T := by
        rcases Nat.lt_or_ge j T with h' | h'
        · exact absurd (HIN.out j h') hlt
        · omega
      subst e
      obtain ⟨wa, rfl⟩ : ∃ wa : World, wa = wr := ⟨_, rfl⟩
      have HB4 : Hid (∀ i, B (i + 1) ≤ B i + 4) := fun i => by
        have := hst.out i
        have h4 : Cuts.cl a (cs.getD (B i) 0) ≤ 4 := Nat.le_trans (Cuts.cl_top _ _) (by unfold Cuts.top; split <;> omega)
        omega
      clear hcb hball hS0
      generalize hee : B j = e at hlt
      clear hee
      go_wp2_with fail
      have hF0 : IRow (wa.alloc (.cells (icells (List.replicate (j + 1) 0)).toArray 3)) wa.heap.size (fillTo F (j + 1) 1) := by
        have h1 := IRow.made wa (List.replicate (j + 1) 0)
        have h2 := fillTo_succ F (j + 1) 0 (by omega)
        rw [fillTo_zero, HF.out.1] at h2
        have h3 : (List.replicate (j + 1) 0).set 0 0 = List.replicate (j + 1) 0 := by rw [List.replicate_succ]; rfl
        rw [h3] at h2
        rw [← h2]
        exact h1
      have hba : Below wa.heap.size wa (wa.alloc (.cells (icells (List.replicate (j + 1) 0)).toArray 3)) := (Below.refl _ _).alloc (Nat.le_refl _) _
      go_loopw [13, 14, 15] (fun lo z jv wr => ∃ k l zz : Nat, k ≤ j ∧ l ≤ k ∧ lo = .int .i64 (l : Nat) ∧ z = .int .i64 (zz : Nat) ∧ jv = .int .i64 ((k : Int) + 1) ∧ B l + zz = B k ∧ (∀ i, i < l → mx < B k - B i) ∧ IRow wr wa.heap.size (fillTo F (j + 1) (k + 1)) ∧ Below wa.heap.size wa wr) (fun _ _ jv _ => j + 1 - (intOf jv).toNat)
      case atStart => exact ⟨0, 0, 0, Nat.zero_le _, Nat.zero_le _, rfl, rfl, rfl, rfl, fun i hi => by omega, hF0, hba⟩
      case round =>
        obtain ⟨k, l, zz, q1, q2, rfl, rfl, rfl, q3, q4, hfr, hbv⟩ := hrel
        by_cases hkt : k < j
        · have hs' := hs.below hbv hs.lt
          have ck := hs'.cell k (by rw [length_fillTo _ _ _ (by omega)]; omega)
          rw [fillTo_at _ _ _ _ hkt] at ck
          have hDk := HD.out k
          have hup := HSS.out.2 k hkt
          have h4 := HB4.out k
          have hBk := HIN.out k hkt
          have hzz : zz + D k ≤ len + 4 := by omega
          have HQ : Hid (B l + zz = B k ∧ (∀ i, i < l → mx < B k - B i) ∧ D k = B (k + 1) - B k) := ⟨q3, q4, hDk⟩
          obtain ⟨wo, rfl⟩ : ∃ wo : World, wo = wr := ⟨_, rfl⟩
          have hz1 : zz ≤ len := by omega
          have hz2 : D k ≤ 4 := by omega
          have HU : Hid (B k < B (k + 1) ∧ B (k + 1) ≤ B k + mx) := hup
          clear q3 q4 hDk hup h4
          have hk1 : (k : Int) + 1 ≤ (j : Int) := by omega
          generalize hdd : D k = d at *
          have HDD : Hid (D k = d) := hdd
          clear hdd
          go_wp2_with fail
          go_loopw [13, 14] (fun lo z wr => ∃ m yy : Nat, m ≤ k ∧ lo = .int .i64 (m : Nat) ∧ z = .int .i64 (yy : Nat) ∧ yy ≤ len + 4 ∧ B m + yy = B (k + 1) ∧ (∀ i, i < m → mx < B (k + 1) - B i) ∧ Below wo.heap.size wo wr) (fun lo _ _ => k - (intOf lo).toNat)
          case atStart =>
            refine ⟨l, zz + d, q2, rfl, by go_num, by omega, ?_, ?_, Below.refl _ _⟩
            · have h1 := HQ.out; have h2 := HU.out; omega
            · intro i hi
              have h1 := HQ.out.2.1 i hi
              have h2 := HU.out
              omega
          case round =>
            obtain ⟨m, yy, r1, rfl, rfl, r2, r3, r4, hbx⟩ := hrel
            by_cases hgt : mx < yy
            · have hmk : m < k := by
                apply Nat.lt_of_le_of_ne r1
                intro e3
                rw [e3] at r3
                have := HU.out
                omega
              have cm := (hs'.below hbx hs'.lt).cell m (by rw [length_fillTo _ _ _ (by omega)]; omega)
              rw [fillTo_at _ _ _ _ (by omega)] at cm
              have hDm := HD.out m
              have hum := (HSS.out.2 m (by omega)).1
              have hmm := HSS.out.mono (i := m + 1) (j := k + 1) (by omega) (by omega)
              have hdy : D m ≤ yy := by omega
              have HR : Hid (B m + yy = B (k + 1) ∧ (∀ i, i < m → mx < B (k + 1) - B i) ∧ D m = B (m + 1) - B m ∧ B m < B (m + 1)) := ⟨r3, r4, hDm, hum⟩
              clear r3 r4 hDm hmm hum
              generalize D m = f at cm hdy HR
              go_wp2
              go_roundw
              case rel =>
                refine ⟨m + 1, yy - f, by omega, by go_num, by go_num, by omega, ?_, ?_, hbx⟩
                · have h1 := HR.out; omega
                · intro i hi
                  have h1 := HR.out
                  by_cases e3 : i = m
                  · subst e3; omega
                  · exact h1.2.1 i (by omega)
              case measure => simp [intOf]; omega
            · have hfr' := hfr.below hbx hfr.lt
              have cl0 := hfr'.cell m (by rw [length_fillTo _ _ _ (by omega)]; omega)
              rw [fillTo_at _ _ _ _ (by omega)] at cl0
              have cw := hfr'.cell (k + 1) (by rw [length_fillTo _ _ _ (by omega)]; omega)
              have fz := hfr'.frozen (k + 1)
              have hFm := HF.out.2 m
              have hstep := HFS.out (k + 1) (by omega) (by omega) m (by omega) (by omega) r4
              have hset := fillTo_succ F (j + 1) (k + 1) (by omega)
              rw [hstep] at hset
              have HT2 : Hid ((fillTo F (j + 1) (k + 1)).set (k + 1) (F m + 1) = fillTo F (j + 1) (k + 1 + 1) ∧ B m + yy = B (k + 1) ∧ ∀ i, i < m → mx < B (k + 1) - B i) := ⟨hset, r3, r4⟩
              generalize (fillTo F (j + 1) (k + 1)).getD (k + 1) 0 = y0 at cw
              generalize F m = fm at cl0 hFm HT2
              clear hset hstep r3 r4
              have i1 : (k : Int) + 1 < ((j + 1 : Nat) : Int) := by omega
              have i2 : (m : Int) < ((j + 1 : Nat) : Int) := by omega
              go_wp2
              go_roundw
              case rel =>
                refine ⟨k + 1, m, yy, by omega, by omega, rfl, rfl, by go_num, HT2.out.2.1, HT2.out.2.2, ?_, (hbv.trans (hbx.mono hbv.size)).setCell (Nat.le_refl _) _⟩
                rw [← HT2.out.1]
                exact hfr'.set (k + 1) (fm + 1)
              case measure => simp [intOf]; omega
        · have e2 : k = j := by omega
          subst e2
          have cf := hfr.cell k (by rw [length_fillTo _ _ _ (by omega)]; omega)
          rw [fillTo_at _ _ _ _ (by omega), hfT.out] at cf
          go_wp2
          go_ret
          refine ⟨by simp, ?_⟩
          rw [HG0.out]
          exact hall.trans ((hbw.mono hsz2).trans (hbv.mono (Nat.le_trans hsz2 hbw.size)))

set_option maxHeartbeats 1000000 in
theorem walk (a0 : Option Addr) (len0 cap0 : Nat) (z0 : List Int) (a1 : Int) (a2 : Int) (w : World) (w0 : IsRow .u8 w a0 len0 cap0 z0) (w1 : (Lit.int .u8 a1).wf = true) (w2 : (Lit.int .i64 a2).wf = true) :
    Calls Try.prog 4 #[.slice a0 len0 cap0, .int .u8 a1, .int .i64 a2] w fun e w' => e = .returned (.bool true) ∧ Below w.heap.size w w' := by
  by_cases h1 : len0 ≤ 1048576
  case neg =>
    have h1' : (1048576 : Int) < (len0 : Int) := by omega
    go_enter Try.func4, Try.ntmps4
    go_wp2_with fail
    refine (bytes_gt a0 len0 cap0 a1 a2 w (by omega)).mono ?_
    rintro e w' ⟨rfl, rfl⟩
    go_wp2
    go_ret
    exact ⟨rfl, Below.refl _ _⟩
  by_cases h2 : (a1 = 0 ∧ 2 ≤ a2) ∨ (a1 = 2 ∧ 4 ≤ a2)
  case neg =>
    go_enter Try.func4, Try.ntmps4
    go_wp2_with fail
    refine (bytes_le a0 len0 cap0 a1 a2 w h1).mono ?_
    rintro e w' ⟨rfl, rfl⟩
    go_wp2_with fail
    refine (domain_no a1 a2 ⟨fun h => h2 (.inl h), fun h => h2 (.inr h)⟩ _).mono ?_
    rintro e w'' ⟨rfl, rfl⟩
    go_wp2
    go_ret
    exact ⟨rfl, Below.refl _ _⟩
  obtain ⟨a, rfl⟩ : ∃ a : Nat, a1 = (a : Int) := ⟨a1.toNat, by omega⟩
  obtain ⟨mx, rfl⟩ : ∃ m : Nat, a2 = (m : Int) := ⟨a2.toNat, by omega⟩
  have ha : a = 0 ∨ a = 2 := by omega
  have ht : Cuts.top a ≤ mx := by
    unfold Cuts.top
    split <;> omega
  clear h2 w1 w2
  rcases w0 with ⟨rfl, rfl, rfl, _⟩ | ⟨x, rfl, hlc, _, hz, hcell, hw⟩
  · exact walk_nil a mx w ha ht
  · rcases Nat.eq_zero_or_pos len0 with rfl | hl0
    · exact walk_empty x cap0 z0 a mx w hlc hz hcell hw ha ht
    · exact walk_some x len0 cap0 z0 a mx w hlc hz hcell hw h1 hl0 ha ht

end Go.Proofs.Qxb6603307a.fnSplitGivesTheFewestPieces
