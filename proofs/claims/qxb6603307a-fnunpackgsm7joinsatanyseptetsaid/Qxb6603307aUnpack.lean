import Derived.Test.Qxb6603307aBase
namespace Go.Proofs.Qxb6603307a
open Go.RowKit

/-- The row after k rounds. -/
def upTo (ps : List Nat) (fill n k : Nat) : List Nat := Plain.unpack ps fill k ++ List.replicate (n - k) 0
theorem upTo_zero (ps : List Nat) (fill n : Nat) : upTo ps fill n 0 = List.replicate n 0 := by simp [upTo, Plain.unpack]
theorem upTo_full (ps : List Nat) (fill n : Nat) : upTo ps fill n n = Plain.unpack ps fill n := by simp [upTo]
theorem length_upTo (ps : List Nat) (fill n k : Nat) (h : k ≤ n) : (upTo ps fill n k).length = n := by simp [upTo, Plain.length_unpack]; omega
theorem upTo_succ (ps : List Nat) (fill n k : Nat) (h : k < n) : (upTo ps fill n k).set k (Plain.sept ps (fill + k * 7)) = upTo ps fill n (k + 1) := by
  unfold upTo
  have e : List.replicate (n - k) 0 = 0 :: List.replicate (n - (k + 1)) 0 := by
    rw [show n - k = (n - (k + 1)) + 1 by omega, List.replicate_succ]
  rw [e, List.set_append_right _ _ (by simp [Plain.length_unpack])]
  simp [Plain.unpack, List.range_succ]

theorem sept_two (x0 x1 s : Nat) (h0 : x0 < 256) : bits .and .u8 (bits .or .u8 ((x0 : Int) / 2 ^ s) ((x1 : Int) * 2 ^ (8 - s) % 256)) 127 = (((x0 >>> s ||| (x1 <<< (8 - s)) % 256) &&& 127 : Nat) : Int) := by
  have h1 : (x1 <<< (8 - s)) % 256 < 256 := Nat.mod_lt _ (by decide)
  rw [shr_cast, shl_cast, u8_or_nat _ _ (shr_lt h0 s) h1, and127 _ (or_lt (shr_lt h0 s) h1)]
theorem sept_one (x0 s : Nat) (h0 : x0 < 256) : bits .and .u8 ((x0 : Int) / 2 ^ s) 127 = ((x0 >>> s &&& 127 : Nat) : Int) := by
  rw [shr_cast, and127 _ (shr_lt h0 s)]

set_option maxHeartbeats 400000 in
theorem unpack_some (g cap : Nat) (ps : List Nat) (fill n : Nat) (w : World) (hrow : Row w g ps) (hb : ∀ x ∈ ps, x < 256) (hfit : (fill + 7 * n + 7) / 8 ≤ ps.length) (hl : ps.length ≤ 1048576) :
    Calls Try.prog 20 #[.slice (some ⟨g, 0, none⟩) ps.length cap, .int .i64 (fill : Int), .int .i64 (n : Int)] w fun e w' =>
      e = .returned (.slice (some ⟨w.heap.size, 0, none⟩) n n) ∧ Row w' w.heap.size (Plain.unpack ps fill n) ∧ Below w.heap.size w w' := by
  have hmk := run_make_bytes n (by omega)
  go_enter Try.func20, Try.ntmps20
  go_wp2
  go_loopw [17] (fun i wr => ∃ k : Nat, k ≤ n ∧ i = .int .i64 k ∧ Row wr w.heap.size (upTo ps fill n k) ∧ Below w.heap.size w wr) (fun i _ => n - (intOf i).toNat)
  case atStart => exact ⟨0, Nat.zero_le _, rfl, by rw [upTo_zero]; exact Row.made _ _, (Below.refl _ _).alloc (Nat.le_refl _) _⟩
  case round =>
    obtain ⟨k, hk, rfl, hr, hbl⟩ := hrel
    by_cases hlt : k < n
    · have hrow' := hrow.below hbl hrow.lt
      have hlen := length_upTo ps fill n k (by omega)
      have cw := hr.cell k (by omega)
      have fz := hr.frozen k
      obtain ⟨x0, hx0⟩ : ∃ x, x = ps.getD ((fill + k * 7) / 8) 0 := ⟨_, rfl⟩
      obtain ⟨x1, hx1⟩ : ∃ x, x = ps.getD ((fill + k * 7) / 8 + 1) 0 := ⟨_, rfl⟩
      obtain ⟨y, hy⟩ : ∃ y, y = (upTo ps fill n k).getD k 0 := ⟨_, rfl⟩
      have c0 := hrow'.cell ((fill + k * 7) / 8) (by omega)
      have b0 := Plain.getD_lt hb ((fill + k * 7) / 8)
      have b1 := Plain.getD_lt hb ((fill + k * 7) / 8 + 1)
      rw [← hx0] at c0 b0
      rw [← hx1] at b1
      rw [← hy] at cw
      have HX : Hid (x0 = ps.getD ((fill + k * 7) / 8) 0 ∧ x1 = ps.getD ((fill + k * 7) / 8 + 1) 0) := ⟨hx0, hx1⟩
      clear hy
      by_cases hs : 1 < (fill + k * 7) % 8
      · have c1 := hrow'.cell ((fill + k * 7) / 8 + 1) (by omega)
        rw [← hx1] at c1
        clear hx0 hx1 hrow' hlen
        go_wp2
        go_roundw
        case rel =>
          rw [sept_two _ _ _ b0]
          have e : (x0 >>> ((fill + k * 7) % 8) ||| (x1 <<< (8 - (fill + k * 7) % 8)) % 256) &&& 127 = Plain.sept ps (fill + k * 7) := by
            unfold Plain.sept; rw [if_pos hs, HX.out.1, HX.out.2]
          rw [e]
          exact ⟨k + 1, by omega, by go_num, by rw [← upTo_succ _ _ _ _ hlt]; exact hr.set _ _, hbl.setCell (Nat.le_refl _) _⟩
        case measure => simp [intOf]; omega
      · clear hx0 hx1 hrow' hlen
        go_wp2
        go_roundw
        case rel =>
          rw [sept_one _ _ b0]
          have e : x0 >>> ((fill + k * 7) % 8) &&& 127 = Plain.sept ps (fill + k * 7) := by
            unfold Plain.sept; rw [if_neg hs, HX.out.1]
          rw [e]
          exact ⟨k + 1, by omega, by go_num, by rw [← upTo_succ _ _ _ _ hlt]; exact hr.set _ _, hbl.setCell (Nat.le_refl _) _⟩
        case measure => simp [intOf]; omega
    · go_wp2
      go_ret
      have : k = n := by omega
      subst this
      rw [upTo_full] at hr
      exact ⟨rfl, hr, hbl⟩

set_option maxHeartbeats 400000 in
theorem unpack_nil (w : World) :
    Calls Try.prog 20 #[.slice none 0 0, .int .i64 0, .int .i64 0] w fun e w' =>
      e = .returned (.slice (some ⟨w.heap.size, 0, none⟩) 0 0) ∧ Row w' w.heap.size [] ∧ Below w.heap.size w w' := by
  have hmk : ∀ w : World, (Instr.makeSlice 22 (.int .i64 0) (.int .i64 0)).run Try.prog w = .ok (.slice (some ⟨w.heap.size, 0, none⟩) 0 0) (w.alloc (.cells (bcells []).toArray 5)) := fun w => run_make_bytes 0 (by omega) w
  go_enter Try.func20, Try.ntmps20
  go_wp2
  refine wp_loop_rounds 1 ?_
  rw [rounds_succ]
  go_wp2
  go_ret
  exact ⟨rfl, Row.made _ _, (Below.refl _ _).alloc (Nat.le_refl _) _⟩

/-- UnpackGSM7, whatever it reads: a nil slice too. -/
theorem unpack_any (a : Option Addr) (len cap : Nat) (ps : List Nat) (F N : Int) (f n : Nat) (w : World) (hsrc : Src w a ps) (hlen : ps.length = len) (hcap : a = none → cap = 0) (hb : ∀ x ∈ ps, x < 256) (hF : F = (f : Int)) (hN : N = (n : Int)) (hfit : (f + 7 * n + 7) / 8 ≤ len) (hl : len ≤ 1048576) :
    Calls Try.prog 20 #[.slice a len cap, .int .i64 F, .int .i64 N] w fun e w' =>
      e = .returned (.slice (some ⟨w.heap.size, 0, none⟩) n n) ∧ Row w' w.heap.size (Plain.unpack ps f n) ∧ Below w.heap.size w w' := by
  subst hF
  subst hN
  rcases hsrc with ⟨rfl, rfl⟩ | ⟨g, rfl, hrow⟩
  · obtain rfl := hcap rfl
    simp only [List.length_nil] at hlen
    subst hlen
    obtain rfl : f = 0 := by omega
    obtain rfl : n = 0 := by omega
    exact unpack_nil w
  · subst hlen
    exact unpack_some g cap ps f n w hrow hb (by omega) hl

end Go.Proofs.Qxb6603307a
