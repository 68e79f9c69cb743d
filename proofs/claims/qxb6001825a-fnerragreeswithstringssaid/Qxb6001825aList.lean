import Derived.Test.Qxb6001825aBase
import Derived.Deep.DeepMust
namespace Go.Proofs.Qxb6001825a
open Go.RowKit

/-! ### cloneStrings -/
/-- The strings that a slice shows. -/
def shownS (ss : List ByteArray) (len : Nat) : List ByteArray := fillTo (fun i => ss.getD i ByteArray.empty) len len
theorem length_shownS (ss : List ByteArray) (len : Nat) : (shownS ss len).length = len := length_fillTo _ _ _ (Nat.le_refl _)
theorem shownS_at (ss : List ByteArray) (len i : Nat) (h : i < len) : (shownS ss len).getD i ByteArray.empty = ss.getD i ByteArray.empty := fillTo_at _ _ _ _ h

theorem clone_nil (w : World) : Calls Try.prog 6 #[.slice none 0 0] w fun e w' => e = .returned (.slice none 0 0) ∧ w' = w := by
  have hnil := fun w : World => Lib.run_eql_slice_nil (P := Try.prog) w 22 9 none 0 0 0 0 Try.underlying22
  go_enter Try.func6, Try.ntmps6
  go_wp2
  go_ret
  exact ⟨rfl, rfl⟩

set_option maxHeartbeats 400000 in
theorem clone_some (x : Addr) (len cap : Nat) (ss : List ByteArray) (w : World) (hcell : ∀ i, i < len → w.cell? (x.add i) = some (.string (ss.getD i ByteArray.empty))) (hl : len ≤ 65536) :
    Calls Try.prog 6 #[.slice (some x) len cap] w fun e w' => e = .returned (.slice (some ⟨w.heap.size, 0, none⟩) len len) ∧ SRow w' w.heap.size (shownS ss len) ∧ Below w.heap.size w w' := by
  have hmk := run_make_strs len (by omega)
  have hnil := fun w : World => Lib.run_eql_slice_nil (P := Try.prog) w 22 9 (some x) len cap 0 0 Try.underlying22
  have HC : Hid (∀ i, i < len → w.cell? (x.add i) = some (.string (ss.getD i ByteArray.empty))) := hcell
  clear hcell
  obtain ⟨f, hf⟩ : ∃ f : Nat → ByteArray, f = fun i => ss.getD i ByteArray.empty := ⟨_, rfl⟩
  have HF : Hid ((∀ i, f i = ss.getD i ByteArray.empty) ∧ shownS ss len = fillTo f len len) := by rw [hf]; exact ⟨fun _ => rfl, rfl⟩
  clear hf
  go_enter Try.func6, Try.ntmps6
  go_wp2
  go_loopw [4] (fun i wr => ∃ k : Nat, k ≤ len ∧ i = .int .i64 k ∧ SRow wr w.heap.size (fillTo f len k) ∧ Below w.heap.size w wr) (fun i _ => len - (intOf i).toNat)
  case atStart => exact ⟨0, Nat.zero_le _, rfl, by rw [fillTo_zero]; exact SRow.made _ _, (Below.refl _ _).alloc (Nat.le_refl _) _⟩
  case round =>
    obtain ⟨k, hk, rfl, hr, hb⟩ := hrel
    by_cases hlt : k < len
    · have c0 := HC.out k hlt
      have cs : wr.cell? (x.add k) = some (.string (f k)) := by rw [HF.out.1]; exact (hb.cell (block_lt c0)).trans c0
      have cw := hr.cell k (by rw [length_fillTo _ _ _ hk]; exact hlt)
      have fz := hr.frozen k
      have hst := fillTo_succ f len k hlt
      generalize (fillTo f len k).getD k ByteArray.empty = y0 at cw
      generalize f k = y at cs hst
      have HS : Hid ((fillTo f len k).set k y = fillTo f len (k + 1)) := hst
      clear hst c0
      go_wp2
      go_roundw
      case rel => exact ⟨k + 1, by omega, by go_num, by rw [← HS.out]; exact hr.set _ _, hb.setCell (Nat.le_refl _) _⟩
      case measure => simp [intOf]; omega
    · go_wp2
      go_ret
      have e : k = len := by omega
      rw [e, ← HF.out.2] at hr
      exact ⟨rfl, hr, hb⟩

theorem clone_any (a : Option Addr) (len cap : Nat) (ss : List ByteArray) (w : World) (h : IsStrs w a len cap ss) (hl : len ≤ 65536) :
    Calls Try.prog 6 #[.slice a len cap] w fun e w' => ∃ a' c', e = .returned (.slice a' len c') ∧ SSrc w' a' (shownS ss len) ∧ Below w.heap.size w w' := by
  rcases h with ⟨rfl, rfl, rfl, rfl⟩ | ⟨x, rfl, hlc, _, hz, hcell, _⟩
  · refine (clone_nil w).mono ?_
    rintro e w' ⟨rfl, rfl⟩
    exact ⟨none, 0, rfl, .inl ⟨rfl, rfl⟩, Below.refl _ _⟩
  · refine (clone_some x len cap ss w (fun i hi => hcell i (by omega)) hl).mono ?_
    rintro e w' ⟨rfl, hr, hb⟩
    exact ⟨_, _, rfl, .inr ⟨_, rfl, hr⟩, hb⟩

/-! ### longer, at -/
theorem longer_any (a b : Nat) (w : World) : Calls Try.prog 11 #[.int .i64 (a : Int), .int .i64 (b : Int)] w fun e w' => e = .returned (.int .i64 ((max a b : Nat) : Int)) ∧ w' = w := by
  by_cases h : b < a
  · have hv : Hid (max a b = a) := by show max a b = a; omega
    go_enter Try.func11, Try.ntmps11
    go_wp2
    go_ret
    exact ⟨by rw [hv.out]; rfl, rfl⟩
  · have hv : Hid (max a b = b) := by show max a b = b; omega
    go_enter Try.func11, Try.ntmps11
    go_wp2
    go_ret
    exact ⟨by rw [hv.out]; rfl, rfl⟩

theorem at_past (a : Option Addr) (len cap k : Nat) (h : len ≤ k) (w : World) : Calls Try.prog 12 #[.slice a len cap, .int .i64 (k : Int)] w fun e w' => e = .returned (.string ByteArray.empty) ∧ w' = w := by
  go_enter Try.func12, Try.ntmps12
  go_wp2
  go_ret
  exact ⟨rfl, rfl⟩
theorem at_in (g len cap k : Nat) (s : ByteArray) (h : k < len) (w : World) (hc : w.cell? ⟨g, k, none⟩ = some (.string s)) : Calls Try.prog 12 #[.slice (some ⟨g, 0, none⟩) len cap, .int .i64 (k : Int)] w fun e w' => e = .returned (.string s) ∧ w' = w := by
  go_enter Try.func12, Try.ntmps12
  go_wp2
  go_ret
  exact ⟨rfl, rfl⟩
theorem at_any (a : Option Addr) (len cap k : Nat) (ss : List ByteArray) (hl : ss.length = len) (w : World) (h : SSrc w a ss) :
    Calls Try.prog 12 #[.slice a len cap, .int .i64 (k : Int)] w fun e w' => e = .returned (.string (ss.getD k ByteArray.empty)) ∧ w' = w := by
  by_cases hk : k < len
  · rcases h with ⟨rfl, rfl⟩ | ⟨g, rfl, hr⟩
    · simp at hl; omega
    · exact at_in g len cap k _ hk w (hr.cell k (by omega))
  · have e : ss.getD k ByteArray.empty = ByteArray.empty := by simp [List.getD, show ss.length ≤ k by omega]
    rw [e]
    exact at_past a len cap k (by omega) w

/-! ### buildList -/
/-- The first k entries as cells. -/
def ent (F C : Nat → ByteArray) : Nat → List Value
  | 0 => []
  | k + 1 => ent F C k ++ [.string (F k), .string (C k)]
theorem length_ent (F C : Nat → ByteArray) (k : Nat) : (ent F C k).length = k * 2 := by
  induction k with
  | zero => rfl
  | succ k ih => simp [ent, ih]; omega
theorem ent_at (F C : Nat → ByteArray) (k i : Nat) (h : i < k) : (ent F C k)[i * 2]? = some (.string (F i)) ∧ (ent F C k)[i * 2 + 1]? = some (.string (C i)) := by
  induction k with
  | zero => omega
  | succ k ih =>
    have hl := length_ent F C k
    unfold ent
    by_cases e : i = k
    · subst e
      rw [List.getElem?_append_right (by omega), List.getElem?_append_right (by omega), hl, Nat.sub_self, Nat.add_sub_cancel_left]
      exact ⟨rfl, rfl⟩
    · rw [List.getElem?_append_left (by omega), List.getElem?_append_left (by omega)]
      exact ih (by omega)

theorem own_base {w : World} {base : Nat} {e : TypeId} {size : Nat} {v : Value} {n : Nat} {xs : List Value} (h : w.ownsRow base e size v n xs) : ∀ k, v.ownBlock = some k → base ≤ k := by
  intro k hk
  rcases h.2 with ⟨rfl, _⟩ | ⟨g, cap, cur, rfl, hg, _⟩
  · simp [Value.ownBlock] at hk
  · simp [Value.ownBlock] at hk; omega

theorem Try.info35 : (Try.prog.info? 35).map (fun i => (i.zero, i.size, i.bytes)) = some (some (.agg #[.string ByteArray.empty, .string ByteArray.empty]), 2, 32) := by kernel_rfl

set_option maxHeartbeats 1000000 in
theorem build_any (a1 a2 : Option Addr) (len1 c1 len2 c2 : Nat) (ss1 ss2 : List ByteArray) (b : Bool) (w : World) (h1 : SSrc w a1 ss1) (h2 : SSrc w a2 ss2) (hl1 : ss1.length = len1) (hl2 : ss2.length = len2) (hm1 : len1 ≤ 65536) (hm2 : len2 ≤ 65536) :
    Calls Try.prog 7 #[.slice a1 len1 c1, .slice a2 len2 c2, .bool b] w fun e w' =>
      ∃ v, e = .returned v ∧ w'.ownsRow w.heap.size 35 2 v (max len1 len2) (ent (fun i => ss1.getD i ByteArray.empty) (fun i => ss2.getD i ByteArray.empty) (max len1 len2)) ∧ Below w.heap.size w w' := by
  obtain ⟨i0, hi, hz0, hz1, hz2⟩ := info_parts Try.info35
  have HI : Hid (Try.prog.info? 35 = some i0 ∧ i0.zero = some (.agg #[.string ByteArray.empty, .string ByteArray.empty]) ∧ i0.size = 2 ∧ i0.bytes = 32) := ⟨hi, hz0, hz1, hz2⟩
  have HL : Hid (ss1.length = len1 ∧ ss2.length = len2) := ⟨hl1, hl2⟩
  have hn : max len1 len2 ≤ 65536 := by omega
  clear hi hz0 hz1 hz2 hl1 hl2
  obtain ⟨F, hF⟩ : ∃ F : Nat → ByteArray, F = fun i => ss1.getD i ByteArray.empty := ⟨_, rfl⟩
  obtain ⟨C, hC⟩ : ∃ C : Nat → ByteArray, C = fun i => ss2.getD i ByteArray.empty := ⟨_, rfl⟩
  rw [← hF, ← hC]
  have HFC : Hid ((∀ i, ss1.getD i ByteArray.empty = F i) ∧ ∀ i, ss2.getD i ByteArray.empty = C i) := by rw [hF, hC]; exact ⟨fun _ => rfl, fun _ => rfl⟩
  clear hF hC
  cases b
  all_goals
    go_enter Try.func7, Try.ntmps7
    go_wp2_with fail
    refine (longer_any len1 len2 _).mono ?_
    rintro e w' ⟨rfl, hw'⟩
    subst w'
    generalize hnn : max len1 len2 = n at hn ⊢
    have HN : Hid (max len1 len2 = n) := hnn
    clear hnn
    go_wp2_with fail
  · go_loopw [7, 9] (fun v i wr => ∃ k : Nat, k ≤ n ∧ i = .int .i64 k ∧ wr.ownsRow w.heap.size 35 2 v k (ent F C k) ∧ Below w.heap.size w wr) (fun _ i _ => n - (intOf i).toNat)
    case atStart => exact ⟨0, Nat.zero_le _, rfl, World.ownsRow_lit w #[] 0 (Nat.le_refl _) (Nat.zero_le _) rfl, (Below.refl _ _).alloc (Nat.le_refl _) _⟩
    case round =>
      obtain ⟨k, hk, rfl, hown, hb⟩ := hrel
      by_cases hlt : k < n
      · have s1 := h1.below hb
        have s2 := h2.below hb
        have hbs := hb.size
        go_wp2_with fail
        refine (at_any a1 len1 c1 k ss1 HL.out.1 _ s1).mono ?_
        rintro e w' ⟨rfl, hw'⟩
        subst w'
        rw [HFC.out.1]
        go_wp2_with fail
        refine (at_any a2 len2 c2 k ss2 HL.out.2 _ s2).mono ?_
        rintro e w' ⟨rfl, hw'⟩
        subst w'
        rw [HFC.out.2]
        have HE : Hid (ent F C (k + 1) = ent F C k ++ [.string (F k), .string (C k)]) := rfl
        generalize F k = fk at HE ⊢
        generalize C k = ck at HE ⊢
        go_wp2_with (at_builtin; go_must (refine wpList_append_own _ rfl (.tmp 23) (.tmp 31) 27 rfl w.heap.size 35 i0 (.agg #[.string ByteArray.empty, .string ByteArray.empty]) 2 32 Try.underlying27 HI.out.1 HI.out.2.1 HI.out.2.2.1 HI.out.2.2.2 rfl (by decide) _ _ _ rfl (hown.alloc _) ⟨wr.heap.size, 0, none⟩ 1 1 [.string fk, .string ck] rfl rfl ?c1 ?c2 ?c3 ?c4 ?c5 ?_))
        case c1 =>
          intro j u hj
          match j, hj with
          | 0, hj => simp at hj; subst hj; simp [Addr.add]
          | 1, hj => simp at hj; subst hj; simp [Addr.add]
        case c2 => intro u hu; simp at hu; rcases hu with rfl | rfl <;> rfl
        case c3 => unfold maxLen; omega
        case c4 => omega
        case c5 => simp; omega
        · intro v' w1 hown' hgrow _
          have hb1 : Below w.heap.size w w1 := (hb.alloc hbs _).grown hgrow (by simp; omega) (own_base hown)
          clear hown hgrow
          go_wp2
          go_roundw
          case rel => exact ⟨k + 1, by omega, by go_num, by rw [HE.out]; exact hown', hb1⟩
          case measure => simp [intOf]; omega
      · go_wp2
        go_ret
        have e : k = n := by omega
        rw [e] at hown
        exact ⟨_, rfl, by rw [HN.out]; exact hown, hb⟩
  · go_loopw [7, 9] (fun v i wr => ∃ k : Nat, k ≤ n ∧ i = .int .i64 k ∧ wr.ownsRow w.heap.size 35 2 v k (ent F C k) ∧ Below w.heap.size w wr) (fun _ i _ => n - (intOf i).toNat)
    case atStart => exact ⟨0, Nat.zero_le _, rfl, World.ownsRow_nil _ _ _ _, Below.refl _ _⟩
    case round =>
      obtain ⟨k, hk, rfl, hown, hb⟩ := hrel
      by_cases hlt : k < n
      · have s1 := h1.below hb
        have s2 := h2.below hb
        have hbs := hb.size
        go_wp2_with fail
        refine (at_any a1 len1 c1 k ss1 HL.out.1 _ s1).mono ?_
        rintro e w' ⟨rfl, hw'⟩
        subst w'
        rw [HFC.out.1]
        go_wp2_with fail
        refine (at_any a2 len2 c2 k ss2 HL.out.2 _ s2).mono ?_
        rintro e w' ⟨rfl, hw'⟩
        subst w'
        rw [HFC.out.2]
        have HE : Hid (ent F C (k + 1) = ent F C k ++ [.string (F k), .string (C k)]) := rfl
        generalize F k = fk at HE ⊢
        generalize C k = ck at HE ⊢
        go_wp2_with (at_builtin; go_must (refine wpList_append_own _ rfl (.tmp 23) (.tmp 31) 27 rfl w.heap.size 35 i0 (.agg #[.string ByteArray.empty, .string ByteArray.empty]) 2 32 Try.underlying27 HI.out.1 HI.out.2.1 HI.out.2.2.1 HI.out.2.2.2 rfl (by decide) _ _ _ rfl (hown.alloc _) ⟨wr.heap.size, 0, none⟩ 1 1 [.string fk, .string ck] rfl rfl ?d1 ?d2 ?d3 ?d4 ?d5 ?_))
        case d1 =>
          intro j u hj
          match j, hj with
          | 0, hj => simp at hj; subst hj; simp [Addr.add]
          | 1, hj => simp at hj; subst hj; simp [Addr.add]
        case d2 => intro u hu; simp at hu; rcases hu with rfl | rfl <;> rfl
        case d3 => unfold maxLen; omega
        case d4 => omega
        case d5 => simp; omega
        · intro v' w1 hown' hgrow _
          have hb1 : Below w.heap.size w w1 := (hb.alloc hbs _).grown hgrow (by simp; omega) (own_base hown)
          clear hown hgrow
          go_wp2
          go_roundw
          case rel => exact ⟨k + 1, by omega, by go_num, by rw [HE.out]; exact hown', hb1⟩
          case measure => simp [intOf]; omega
      · go_wp2
        go_ret
        have e : k = n := by omega
        rw [e] at hown
        exact ⟨_, rfl, by rw [HN.out]; exact hown, hb⟩

/-- buildList of something: its value's shape written out. -/
theorem build_pos (a1 a2 : Option Addr) (len1 c1 len2 c2 n : Nat) (ss1 ss2 : List ByteArray) (b : Bool) (w : World) (h1 : SSrc w a1 ss1) (h2 : SSrc w a2 ss2) (hl1 : ss1.length = len1) (hl2 : ss2.length = len2) (hm1 : len1 ≤ 65536) (hm2 : len2 ≤ 65536) (hn : max len1 len2 = n) (h0 : 0 < n) :
    Calls Try.prog 7 #[.slice a1 len1 c1, .slice a2 len2 c2, .bool b] w fun e w' =>
      ∃ g c, e = .returned (.slice (some ⟨g, 0, none⟩) n c) ∧ g < w'.heap.size ∧ Below w.heap.size w w' ∧
        ∀ i, i < n → w'.cell? ⟨g, i * 2, none⟩ = some (.string (ss1.getD i ByteArray.empty)) ∧ w'.cell? ⟨g, i * 2 + 1, none⟩ = some (.string (ss2.getD i ByteArray.empty)) := by
  refine (build_any a1 a2 len1 c1 len2 c2 ss1 ss2 b w h1 h2 hl1 hl2 hm1 hm2).mono ?_
  rintro e w' ⟨v, rfl, hown, hb⟩
  rw [hn] at hown
  rcases hown.2 with ⟨_, hz⟩ | ⟨g, c, cur, rfl, hg, hh, hnc, _, hcs, htk⟩
  · omega
  · refine ⟨g, c, rfl, (Array.getElem?_eq_some_iff.1 hh).1, hb, fun i hi => ⟨?_, ?_⟩⟩
    · rw [hown.cellAt (i * 2) (by omega)]
      exact (ent_at _ _ n i hi).1
    · rw [hown.cellAt (i * 2 + 1) (by omega)]
      exact (ent_at _ _ n i hi).2

/-- buildList of nothing. -/
theorem build_zero (a1 a2 : Option Addr) (len1 c1 len2 c2 : Nat) (ss1 ss2 : List ByteArray) (b : Bool) (w : World) (h1 : SSrc w a1 ss1) (h2 : SSrc w a2 ss2) (hl1 : ss1.length = len1) (hl2 : ss2.length = len2) (hn : max len1 len2 = 0) :
    Calls Try.prog 7 #[.slice a1 len1 c1, .slice a2 len2 c2, .bool b] w fun e w' => ∃ a c, e = .returned (.slice a 0 c) ∧ Below w.heap.size w w' := by
  refine (build_any a1 a2 len1 c1 len2 c2 ss1 ss2 b w h1 h2 hl1 hl2 (by omega) (by omega)).mono ?_
  rintro e w' ⟨v, rfl, hown, hb⟩
  rw [hn] at hown
  rcases hown.2 with ⟨rfl, _⟩ | ⟨g, c, cur, rfl, _⟩
  · exact ⟨none, 0, rfl, hb⟩
  · exact ⟨_, c, rfl, hb⟩

theorem IsStrs.below {w w' : World} {a : Option Addr} {len cap : Nat} {ss : List ByteArray} (h : IsStrs w a len cap ss) (hb : Below w.heap.size w w') : IsStrs w' a len cap ss := by
  rcases h with h | ⟨x, rfl, hlc, hm, hz, hc, hs⟩
  · exact .inl h
  · exact .inr ⟨x, rfl, hlc, hm, hz, fun i hi => (hb.cell (block_lt (hc i hi))).trans (hc i hi), hs⟩

theorem shownS_size (ss : List ByteArray) (len : Nat) (h : ∀ i, i < len → (ss.getD i ByteArray.empty).size ≤ 1048576) (i : Nat) : ((shownS ss len).getD i ByteArray.empty).size ≤ 1048576 := by
  by_cases hi : i < len
  · rw [shownS_at _ _ _ hi]; exact h i hi
  · have e : (shownS ss len).getD i ByteArray.empty = ByteArray.empty := by simp [List.getD, length_shownS, show len ≤ i by omega]
    rw [e]; decide

end Go.Proofs.Qxb6001825a
