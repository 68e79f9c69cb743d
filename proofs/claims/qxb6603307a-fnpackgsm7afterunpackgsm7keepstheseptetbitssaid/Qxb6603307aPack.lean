import Derived.Test.Qxb6603307aBase
import Derived.RegionTactic
namespace Go.Proofs.Qxb6603307a
open Go.RowKit

theorem packStep_two (ns : List Nat) (p v : Nat) (h : 1 < p % 8) :
    (ns.set (p / 8) (ns.getD (p / 8) 0 ||| (v <<< (p % 8)) % 256)).set (p / 8 + 1) (ns.getD (p / 8 + 1) 0 ||| v >>> (8 - p % 8)) = Plain.packStep ns p v := by
  unfold Plain.packStep
  rw [if_pos h]
  unfold Plain.orAt
  have e : (ns.set (p / 8) (ns.getD (p / 8) 0 ||| (v <<< (p % 8)) % 256)).getD (p / 8 + 1) 0 = ns.getD (p / 8 + 1) 0 := by
    simp [List.getD]
  rw [e]
theorem packStep_one (ns : List Nat) (p v : Nat) (h : ¬ 1 < p % 8) :
    ns.set (p / 8) (ns.getD (p / 8) 0 ||| (v <<< (p % 8)) % 256) = Plain.packStep ns p v := by
  unfold Plain.packStep
  rw [if_neg h]
  rfl
theorem or_low (y v s : Nat) (hy : y < 256) : bits .or .u8 (y : Int) ((v : Int) * 2 ^ s % 256) = ((y ||| (v <<< s) % 256 : Nat) : Int) := by
  rw [shl_cast, u8_or_nat _ _ hy (Nat.mod_lt _ (by decide))]
theorem or_high (y v s : Nat) (hy : y < 256) (hv : v < 256) : bits .or .u8 (y : Int) ((v : Int) / 2 ^ s) = ((y ||| v >>> s : Nat) : Int) := by
  rw [shr_cast, u8_or_nat _ _ hy (shr_lt hv s)]

set_option maxHeartbeats 1000000 in
theorem pack_some (g cap len : Nat) (ss : List Nat) (fill m : Nat) (w : World) (hrow : Row w g ss) (hlen : ss.length = len) (hb : ∀ x ∈ ss, x < 256) (hl : len ≤ 1048576) (hf : fill ≤ 16777216) (hm : (fill + len * 7 + 7) / 8 = m) :
    Calls Try.prog 17 #[.slice (some ⟨g, 0, none⟩) len cap, .int .i64 (fill : Int)] w fun e w' =>
      e = .returned (.slice (some ⟨w.heap.size, 0, none⟩) m m) ∧ Row w' w.heap.size (Plain.pack ss fill) ∧ Below w.heap.size w w' := by
  have em : ((m : Nat) : Int) = ((fill : Int) + (len : Int) * 7 + 7) / 8 := by omega
  have hmk : ∀ w : World, (Instr.makeSlice 22 (.int .i64 (((fill : Int) + (len : Int) * 7 + 7) / 8)) (.int .i64 (((fill : Int) + (len : Int) * 7 + 7) / 8))).run Try.prog w = .ok (.slice (some ⟨w.heap.size, 0, none⟩) m m) (w.alloc (.cells (bcells (List.replicate m 0)).toArray 5)) := by
    intro w
    rw [← em]
    exact run_make_bytes m (by omega) w
  have hm1 : fill + len * 7 ≤ 8 * m := by omega
  have hm2 : 8 * m ≤ fill + len * 7 + 7 := by omega
  have HM : Hid ((fill + len * 7 + 7) / 8 = m ∧ ss.length = len) := ⟨hm, hlen⟩
  clear hm em
  go_enter Try.func17, Try.ntmps17
  go_wp2
  go_loopw [21] (fun i wr => ∃ k : Nat, k ≤ len ∧ i = .int .i64 k ∧ Row wr w.heap.size (Plain.packTo ss fill m k) ∧ Below w.heap.size w wr) (fun i _ => len - (intOf i).toNat)
  case atStart => exact ⟨0, Nat.zero_le _, rfl, Row.made _ _, (Below.refl _ _).alloc (Nat.le_refl _) _⟩
  case round =>
    obtain ⟨k, hk, rfl, hr, hbl⟩ := hrel
    by_cases hlt : k < len
    · have hrow' := hrow.below hbl hrow.lt
      have hpl := Plain.length_packTo ss fill m k
      have cs := hrow'.cell k (by omega)
      have cw := hr.cell ((fill + k * 7) / 8) (by omega)
      have fz := hr.frozen ((fill + k * 7) / 8)
      have by0 := Plain.getD_lt (Plain.packTo_lt ss fill m k) ((fill + k * 7) / 8)
      obtain ⟨s, hs0⟩ : ∃ x, x = ss.getD k 0 := ⟨_, rfl⟩
      obtain ⟨y, hy⟩ : ∃ y, y = (Plain.packTo ss fill m k).getD ((fill + k * 7) / 8) 0 := ⟨_, rfl⟩
      obtain ⟨v, hv⟩ : ∃ v, v = s &&& 127 := ⟨_, rfl⟩
      have hs1 : s < 256 := by rw [hs0]; exact Plain.getD_lt hb k
      have hand := and127 s hs1
      have hv1 : v < 256 := by rw [hv]; exact Nat.lt_of_le_of_lt Nat.and_le_right (by decide)
      rw [← hv] at hand
      rw [← hs0] at cs
      rw [← hy] at cw by0
      have HS : Hid (v = ss.getD k 0 &&& 127) := by rw [hv, hs0]; rfl
      by_cases hs : 1 < (fill + k * 7) % 8
      · have cw1 := hr.cell ((fill + k * 7) / 8 + 1) (by omega)
        have fz1 := hr.frozen ((fill + k * 7) / 8 + 1)
        have by1 := Plain.getD_lt (Plain.packTo_lt ss fill m k) ((fill + k * 7) / 8 + 1)
        obtain ⟨y1, hy1⟩ : ∃ y, y = (Plain.packTo ss fill m k).getD ((fill + k * 7) / 8 + 1) 0 := ⟨_, rfl⟩
        rw [← hy1] at cw1 by1
        have HY : Hid (y = (Plain.packTo ss fill m k).getD ((fill + k * 7) / 8) 0 ∧ y1 = (Plain.packTo ss fill m k).getD ((fill + k * 7) / 8 + 1) 0) := ⟨hy, hy1⟩
        clear hs0 hy hv hy1 hpl hrow'
        go_wp2
        go_region
        go_wp2
        go_region
        go_wp2
        go_roundw
        case rel =>
          rw [or_low _ _ _ by0, or_high _ _ _ by1 hv1]
          have e : Plain.packTo ss fill m (k + 1) = ((Plain.packTo ss fill m k).set ((fill + k * 7) / 8) (y ||| (v <<< ((fill + k * 7) % 8)) % 256)).set ((fill + k * 7) / 8 + 1) (y1 ||| v >>> (8 - (fill + k * 7) % 8)) := by
            rw [HY.out.1, HY.out.2, packStep_two _ _ _ hs, HS.out]; rfl
          exact ⟨k + 1, by omega, by go_num, by rw [e]; exact (((hr.set _ _).set _ _).drew).drew, (((hbl.setCell (Nat.le_refl _) _).setCell (Nat.le_refl _) _).drew).drew⟩
        case measure => simp [intOf]; omega
      · have HY : Hid (y = (Plain.packTo ss fill m k).getD ((fill + k * 7) / 8) 0) := hy
        clear hs0 hy hv hpl hrow'
        go_wp2
        go_region
        go_wp2
        go_roundw
        case rel =>
          rw [or_low _ _ _ by0]
          have e : Plain.packTo ss fill m (k + 1) = (Plain.packTo ss fill m k).set ((fill + k * 7) / 8) (y ||| (v <<< ((fill + k * 7) % 8)) % 256) := by
            rw [HY.out, packStep_one _ _ _ hs, HS.out]; rfl
          exact ⟨k + 1, by omega, by go_num, by rw [e]; exact (hr.set _ _).drew, (hbl.setCell (Nat.le_refl _) _).drew⟩
        case measure => simp [intOf]; omega
    · go_wp2
      go_ret
      have e : k = len := by omega
      have hp : Plain.packTo ss fill m k = Plain.pack ss fill := by unfold Plain.pack; rw [HM.out.2, HM.out.1, e]
      rw [hp] at hr
      exact ⟨rfl, hr, hbl⟩

set_option maxHeartbeats 400000 in
/-- PackGSM7 of no septets. -/
theorem pack_nil (fill m : Nat) (w : World) (hf : fill ≤ 16777216) (hm : (fill + 7) / 8 = m) :
    Calls Try.prog 17 #[.slice none 0 0, .int .i64 (fill : Int)] w fun e w' =>
      e = .returned (.slice (some ⟨w.heap.size, 0, none⟩) m m) ∧ Row w' w.heap.size (Plain.pack [] fill) ∧ Below w.heap.size w w' := by
  have em : ((m : Nat) : Int) = ((fill : Int) + 7) / 8 := by omega
  have hmk : ∀ w : World, (Instr.makeSlice 22 (.int .i64 (((fill : Int) + 7) / 8)) (.int .i64 (((fill : Int) + 7) / 8))).run Try.prog w = .ok (.slice (some ⟨w.heap.size, 0, none⟩) m m) (w.alloc (.cells (bcells (List.replicate m 0)).toArray 5)) := by
    intro w
    rw [← em]
    exact run_make_bytes m (by omega) w
  have hp : Hid (Plain.pack [] fill = List.replicate m 0) := by
    show Plain.packTo [] fill ((fill + 0 * 7 + 7) / 8) 0 = _
    rw [Nat.zero_mul, Nat.add_zero, hm]; rfl
  clear em hm
  go_enter Try.func17, Try.ntmps17
  go_wp2
  refine wp_loop_rounds 1 ?_
  rw [rounds_succ]
  go_wp2
  go_ret
  exact ⟨rfl, by rw [hp.out]; exact Row.made _ _, (Below.refl _ _).alloc (Nat.le_refl _) _⟩

/-- PackGSM7, whatever it reads: a nil slice too. -/
theorem pack_any (a : Option Addr) (len cap : Nat) (ss : List Nat) (fill m : Nat) (w : World) (hsrc : Src w a ss) (hlen : ss.length = len) (hcap : a = none → cap = 0) (hb : ∀ x ∈ ss, x < 256) (hl : len ≤ 1048576) (hf : fill ≤ 16777216) (hm : (fill + len * 7 + 7) / 8 = m) :
    Calls Try.prog 17 #[.slice a len cap, .int .i64 (fill : Int)] w fun e w' =>
      e = .returned (.slice (some ⟨w.heap.size, 0, none⟩) m m) ∧ Row w' w.heap.size (Plain.pack ss fill) ∧ Below w.heap.size w w' := by
  rcases hsrc with ⟨rfl, rfl⟩ | ⟨g, rfl, hrow⟩
  · obtain rfl := hcap rfl
    simp only [List.length_nil] at hlen
    subst hlen
    exact pack_nil fill m w hf (by omega)
  · exact pack_some g cap len ss fill m w hrow hlen hb hl hf hm

theorem bit_val (x s : Nat) (h : x < 256) : bits .and .u8 ((x : Int) / 2 ^ s) 1 = (((x >>> s) &&& 1 : Nat) : Int) := by
  rw [shr_cast, and1 _ (shr_lt h s)]

set_option maxHeartbeats 400000 in
/-- zzPackedBit. -/
theorem bit_any (g cap len : Nat) (ps : List Nat) (K : Int) (k : Nat) (w : World) (hrow : Row w g ps) (hlen : ps.length = len) (hb : ∀ x ∈ ps, x < 256) (hK : K = (k : Int)) (hk : k < 8 * len) (hl : len ≤ 16777216) :
    Calls Try.prog 18 #[.slice (some ⟨g, 0, none⟩) len cap, .int .i64 K] w fun e w' => e = .returned (.int .u8 ((Plain.bitN ps k : Nat) : Int)) ∧ w' = w := by
  subst hK
  have c := hrow.cell (k / 8) (by omega)
  have b := Plain.getD_lt hb (k / 8)
  have e := Plain.bitN_eq ps k
  generalize ps.getD (k / 8) 0 = x at c b e
  have E : Hid ((x >>> (k % 8)) &&& 1 = Plain.bitN ps k) := e
  clear e hlen
  have i1 : (k : Int) / 8 < (len : Int) := by omega
  go_enter Try.func18, Try.ntmps18
  go_wp2
  go_ret
  exact ⟨by rw [bit_val _ _ b, E.out]; rfl, rfl⟩

end Go.Proofs.Qxb6603307a
