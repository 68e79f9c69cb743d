import Derived.Test.Qxb6603307aSplit2
import Derived.Test.Qxb6603307aPieces
import Derived.Deep.DeepMust
namespace Go.Proofs.Qxb6603307a
open Go.RowKit

theorem own_base {w : World} {base : Nat} {e : TypeId} {size : Nat} {v : Value} {n : Nat} {xs : List Value} (h : w.ownsRow base e size v n xs) : ∀ k, v.ownBlock = some k → base ≤ k := by
  intro k hk
  rcases h.2 with ⟨rfl, _⟩ | ⟨g, cap, cur, rfl, hg, _⟩
  · simp [Value.ownBlock] at hk
  · simp [Value.ownBlock] at hk; omega

set_option maxHeartbeats 1000000 in
theorem split_some (g len a mx T : Nat) (cs : List Nat) (w : World) (hrow : Row w g cs) (hlen0 : cs.length = len) (hb : ∀ x ∈ cs, x < 256) (ha : a = 0 ∨ a = 2) (hmx : Cuts.top a ≤ mx)
    (hl : len ≤ 1048576) (hl0 : 0 < len) (hT : Cuts.Reach cs a T) :
    Calls Try.prog 13 #[.slice (some ⟨g, 0, none⟩) len len, .int .u8 (a : Int), .int .i64 (mx : Int)] w fun e w' =>
      ∃ v, e = .returned v ∧ w'.ownsRow w.heap.size 22 1 v ((Cuts.cutsTo (Cuts.pos cs a) mx T).1.length + 1) (pieces g len mx len (Cuts.pos cs a) T) ∧ Below w.heap.size w w' := by
  obtain ⟨i0, hi, hz0, hz1, hz2⟩ := info_parts Try.info22
  have HI : Hid (Try.prog.info? 22 = some i0 ∧ i0.zero = some (.slice none 0 0) ∧ i0.size = 1 ∧ i0.bytes = 24) := ⟨hi, hz0, hz1, hz2⟩
  have HS := Cuts.pos_steps cs a mx T hmx
  have hlen : Hid (cs.length = len) := hlen0
  have HTL : T ≤ len := by rw [← hlen0]; exact hT.le_len
  obtain ⟨B, hB⟩ : ∃ B, B = Cuts.pos cs a := ⟨_, rfl⟩
  rw [← hB] at HS ⊢
  have HB : Hid (B = Cuts.pos cs a) := hB
  have HT : Hid (Cuts.Reach cs a T) := hT
  clear hi hz0 hz1 hz2 hlen0 hB hT hmx
  go_enter Try.func13, Try.ntmps13
  go_wp2
  go_loopw [7, 8, 9] (fun v s e wr => ∃ j : Nat, j ≤ T ∧ e = .int .i64 (B j : Nat) ∧ s = .int .i64 (B (Cuts.cutsTo B mx j).2 : Nat) ∧
      wr.ownsRow w.heap.size 22 1 v (Cuts.cutsTo B mx j).1.length (closed g len mx B j) ∧ Below w.heap.size w wr) (fun _ _ e _ => len - (intOf e).toNat)
  case atStart => exact ⟨0, Nat.zero_le _, by rw [HS.1]; rfl, by show _ = Value.int .i64 ((B 0 : Nat) : Int); rw [HS.1]; rfl, World.ownsRow_nil _ _ _ _, Below.refl _ _⟩
  case round =>
    obtain ⟨j, hj, rfl, rfl, hown, hbl⟩ := hrel
    have ho := Cuts.cuts_open HS j hj
    have hmono := HS.mono ho.1 hj
    have hcl := Cuts.cuts_len B mx j
    by_cases hlt : B j < len
    · have hjT : j < T := HT.out.lt hj (by rw [← HB.out, hlen.out]; exact hlt)
      have hrow' := hrow.below hbl hrow.lt
      have hcell := hrow'.cell (B j) (by rw [hlen.out]; exact hlt)
      have hcb := Plain.getD_lt hb (B j)
      have hstep : B (j + 1) = B j + Cuts.cl a (cs.getD (B j) 0) := by rw [HB.out]; rfl
      have hcp := Cuts.cl_pos a (cs.getD (B j) 0)
      have hct := (HS.2 j hjT).2
      have hc4 : Cuts.cl a (cs.getD (B j) 0) ≤ 4 := Nat.le_trans (Cuts.cl_top _ _) (by unfold Cuts.top; split <;> omega)
      have hsl := run_slice_from g len len (B j) (by omega) hlt
      unfold pieceV at hsl
      generalize cs.getD (B j) 0 = c at hcell hcb hstep hcp hc4
      by_cases hcut : mx < B (j + 1) - B (Cuts.cutsTo B mx j).2
      · have hsl2 := run_slice_both g len len (B (Cuts.cutsTo B mx j).2) (B j) hmono (by omega) (by omega)
        unfold pieceV at hsl2
        have hcl' : closed g len mx B (j + 1) = closed g len mx B j ++ [pieceV g len (B (Cuts.cutsTo B mx j).2) (B j)] := by rw [closed, if_pos hcut]
        have hct' : Cuts.cutsTo B mx (j + 1) = ((Cuts.cutsTo B mx j).1 ++ [(Cuts.cutsTo B mx j).2], j) := by rw [Cuts.cutsTo, if_pos hcut]
        have HC : Hid (closed g len mx B (j + 1) = closed g len mx B j ++ [pieceV g len (B (Cuts.cutsTo B mx j).2) (B j)] ∧ Cuts.cutsTo B mx (j + 1) = ((Cuts.cutsTo B mx j).1 ++ [(Cuts.cutsTo B mx j).2], j)) := ⟨hcl', hct'⟩
        have HE : Hid (B (j + 1) = B j + Cuts.cl a c) := hstep
        rw [hstep] at hcut hct
        clear hcl' hct' hstep
        generalize hs : B (Cuts.cutsTo B mx j).2 = s at *
        generalize he : B j = e at *
        generalize hn : Cuts.cl a c = n at *
        have HG : Hid (B (Cuts.cutsTo B mx j).2 = s ∧ B j = e ∧ Cuts.cl a c = n) := ⟨hs, he, hn⟩
        clear hs he hn
        have hbs := hbl.size
        go_wp2_with fail
        refine (codeLen_any a c g e (len - e) (len - e) ha hcb (by omega) _ hcell).mono ?_
        rintro e' w' ⟨rfl, hw'⟩
        subst w'
        rw [HG.out.2.2]
        go_wp2_with (at_builtin; go_must (refine wpList_append_own _ rfl (.tmp 27) (.tmp 32) 26 rfl w.heap.size 22 i0 (.slice none 0 0) 1 24 Try.underlying26 HI.out.1 HI.out.2.1 HI.out.2.2.1 HI.out.2.2.2 rfl (by decide) _ _ _ rfl (hown.alloc _) ⟨wr.heap.size, 0, none⟩ 1 1 [.slice (some ⟨g, s, none⟩) (e - s) (len - s)] rfl rfl ?c1 ?c2 ?c3 ?c4 ?c5 ?_))
        case c1 =>
          intro j u hj
          match j, hj with
          | 0, hj => simp at hj; subst hj; simp [Addr.add]
        case c2 => intro u hu; simp at hu; subst hu; rfl
        case c3 => unfold maxLen; omega
        case c4 => omega
        case c5 => simp; omega
        · intro v' w1 hown' hgrow _
          have hb1 : Below w.heap.size w w1 := (hbl.alloc hbs _).grown hgrow (by simp; omega) (own_base hown)
          clear hown hgrow
          go_wp2
          go_roundw
          case rel => 
            refine ⟨j + 1, by omega, by rw [HE.out]; go_num, ?_, ?_, hb1⟩
            · rw [HC.out.2, HG.out.2.1]
            · rw [HC.out.2, HC.out.1, List.length_append]; exact hown'
          case measure => simp [intOf]; omega
      · have hcl' : closed g len mx B (j + 1) = closed g len mx B j := by rw [closed, if_neg hcut]
        have hct' : Cuts.cutsTo B mx (j + 1) = Cuts.cutsTo B mx j := by rw [Cuts.cutsTo, if_neg hcut]
        have HC : Hid (closed g len mx B (j + 1) = closed g len mx B j ∧ Cuts.cutsTo B mx (j + 1) = Cuts.cutsTo B mx j) := ⟨hcl', hct'⟩
        have HE : Hid (B (j + 1) = B j + Cuts.cl a c) := hstep
        rw [hstep] at hcut hct
        clear hcl' hct' hstep
        generalize hs : B (Cuts.cutsTo B mx j).2 = s at *
        generalize he : B j = e at *
        generalize hn : Cuts.cl a c = n at *
        have HG : Hid (B (Cuts.cutsTo B mx j).2 = s ∧ B j = e ∧ Cuts.cl a c = n) := ⟨hs, he, hn⟩
        have hcut' : ((e : Int) + (n : Int) - (s : Int)) ≤ (mx : Int) := by omega
        clear hs he hn
        go_wp2_with fail
        refine (codeLen_any a c g e (len - e) (len - e) ha hcb (by omega) _ hcell).mono ?_
        rintro e' w' ⟨rfl, hw'⟩
        subst w'
        rw [HG.out.2.2]
        go_wp2
        go_roundw
        case rel =>
          refine ⟨j + 1, by omega, by rw [HE.out]; go_num, ?_, ?_, hbl⟩
          · rw [HC.out.2, HG.out.1]
          · rw [HC.out.2, HC.out.1]; exact hown
        case measure => simp [intOf]; omega
    · have e : j = T := HT.out.eq hj (by rw [← HB.out, hlen.out]; exact hlt)
      subst e
      have hst : B (Cuts.cutsTo B mx j).2 < len := by
        have h0 : 0 < j := HT.out.pos_T (by rw [hlen.out]; exact hl0)
        have h1 := HT.out.2 _ (ho.2.1 h0)
        rw [← HB.out, hlen.out] at h1
        exact h1
      have hsl := run_slice_from g len len (B (Cuts.cutsTo B mx j).2) (by omega) hst
      unfold pieceV at hsl
      have HP : Hid (pieces g len mx len B j = closed g len mx B j ++ [pieceV g len (B (Cuts.cutsTo B mx j).2) len]) := rfl
      have hbs := hbl.size
      generalize hs : B (Cuts.cutsTo B mx j).2 = s at *
      clear hs
      go_wp2_with (at_builtin; go_must (refine wpList_append_own _ rfl (.tmp 38) (.tmp 42) 26 rfl w.heap.size 22 i0 (.slice none 0 0) 1 24 Try.underlying26 HI.out.1 HI.out.2.1 HI.out.2.2.1 HI.out.2.2.2 rfl (by decide) _ _ _ rfl (hown.alloc _) ⟨wr.heap.size, 0, none⟩ 1 1 [.slice (some ⟨g, s, none⟩) (len - s) (len - s)] rfl rfl ?d1 ?d2 ?d3 ?d4 ?d5 ?_))
      case d1 =>
        intro j u hj
        match j, hj with
        | 0, hj => simp at hj; subst hj; simp [Addr.add]
      case d2 => intro u hu; simp at hu; subst hu; rfl
      case d3 => unfold maxLen; omega
      case d4 => omega
      case d5 => simp; omega
      · intro v' w1 hown' hgrow _
        have hb1 : Below w.heap.size w w1 := (hbl.alloc hbs _).grown hgrow (by simp; omega) (own_base hown)
        clear hown hgrow
        go_wp2
        go_ret
        exact ⟨_, rfl, by rw [HP.out]; exact hown', hb1⟩

/-- Split of a text that is not empty: a new row of pieces, each a part of the text's own memory. -/
theorem split_fin (g len a mx T : Nat) (cs : List Nat) (w : World) (hrow : Row w g cs) (hlen : cs.length = len) (hb : ∀ x ∈ cs, x < 256) (ha : a = 0 ∨ a = 2) (hmx : Cuts.top a ≤ mx)
    (hl : len ≤ 1048576) (hl0 : 0 < len) (hT : Cuts.Reach cs a T) :
    Calls Try.prog 13 #[.slice (some ⟨g, 0, none⟩) len len, .int .u8 (a : Int), .int .i64 (mx : Int)] w fun e w' =>
      ∃ h c, e = .returned (.slice (some ⟨h, 0, none⟩) (Cuts.starts (Cuts.pos cs a) mx T).length c) ∧ w.heap.size ≤ h ∧ h < w'.heap.size ∧
        (∀ p, p < (Cuts.starts (Cuts.pos cs a) mx T).length → w'.cell? ⟨h, p, none⟩ = some (pieceV g len (Cuts.at' (Cuts.pos cs a) mx T len p) (Cuts.at' (Cuts.pos cs a) mx T len (p + 1)))) ∧ Below w.heap.size w w' := by
  refine (split_some g len a mx T cs w hrow hlen hb ha hmx hl hl0 hT).mono ?_
  rintro e w' ⟨v, rfl, hown, hbl⟩
  rw [← Cuts.length_starts] at hown
  have hpos : 0 < (Cuts.starts (Cuts.pos cs a) mx T).length := by rw [Cuts.length_starts]; omega
  rcases hown.2 with ⟨_, hz⟩ | ⟨h, c, cur, rfl, hg, hh, hn, _, hcs, htk⟩
  · omega
  · refine ⟨h, c, rfl, hg, (Array.getElem?_eq_some_iff.1 hh).1, fun p hp => ?_, hbl⟩
    rw [hown.cellAt p (by omega), pieces_at _ _ _ _ _ _ _ hp]
    unfold Cuts.at'
    rw [if_pos hp]

set_option maxHeartbeats 400000 in
/-- Split of the empty text. -/
theorem split_empty (ad : Option Addr) (a mx : Nat) (w : World) :
    Calls Try.prog 13 #[.slice ad 0 0, .int .u8 (a : Int), .int .i64 (mx : Int)] w fun e w' =>
      ∃ h c, e = .returned (.slice (some ⟨h, 0, none⟩) 1 c) ∧ w.heap.size ≤ h ∧ h < w'.heap.size ∧ w'.cell? ⟨h, 0, none⟩ = some (.slice ad 0 0) ∧ Below w.heap.size w w' := by
  obtain ⟨i0, hi, hz0, hz1, hz2⟩ := info_parts Try.info22
  have HI : Hid (Try.prog.info? 22 = some i0 ∧ i0.zero = some (.slice none 0 0) ∧ i0.size = 1 ∧ i0.bytes = 24) := ⟨hi, hz0, hz1, hz2⟩
  clear hi hz0 hz1 hz2
  have hsl : ∀ w : World, (Instr.slice 22 (.slice ad 0 0) (some (.int .i64 0)) none none).run Try.prog w = .ok (.slice ad 0 0) w := by
    intro w
    have he : Try.prog.elem 22 = 5 := by kernel_rfl
    obtain ⟨i, hi, _, hz1, _⟩ := info_parts Try.info5
    rw [run_slice_l (P := Try.prog) w 22 ad 0 0 (by rw [he]; exact Try.underlying22) .i64 0 (by omega) (by omega)]
    rw [he]
    simp [sizeOf, typeInfo, hi, Result.andThen, sliced]
  have hown := World.ownsRow_nil w w.heap.size 22 1
  go_enter Try.func13, Try.ntmps13
  go_wp2
  refine wp_loop_rounds 1 ?_
  rw [rounds_succ]
  go_wp2_with (at_builtin; go_must (refine wpList_append_own _ rfl (.tmp 38) (.tmp 42) 26 rfl w.heap.size 22 i0 (.slice none 0 0) 1 24 Try.underlying26 HI.out.1 HI.out.2.1 HI.out.2.2.1 HI.out.2.2.2 rfl (by decide) _ _ _ rfl (hown.alloc _) ⟨w.heap.size, 0, none⟩ 1 1 [.slice ad 0 0] rfl rfl ?d1 ?d2 ?d3 ?d4 ?d5 ?_))
  case d1 =>
    intro j u hj
    match j, hj with
    | 0, hj => simp at hj; subst hj; simp [Addr.add]
  case d2 => intro u hu; simp at hu; subst hu; rfl
  case d3 => unfold maxLen; omega
  case d4 => omega
  case d5 => simp
  · intro v' w1 hown' hgrow _
    have hb1 : Below w.heap.size w w1 := ((Below.refl _ _).alloc (Nat.le_refl _) _).grown hgrow (by simp) (fun k hk => by simp [Value.ownBlock] at hk)
    clear hown hgrow
    go_wp2
    go_ret
    rcases hown'.2 with ⟨_, hz⟩ | ⟨h, c, cur, hv, hg, hh, hn, _, hcs, htk⟩
    · omega
    · have hc := hown'
      rw [hv] at hc
      exact ⟨h, c, by rw [hv]; rfl, hg, (Array.getElem?_eq_some_iff.1 hh).1, by rw [hc.cellAt 0 (by omega)]; rfl, hb1⟩

end Go.Proofs.Qxb6603307a
