import Derived.Test.Qxb6001825aBase
namespace Go.Proofs.Qxb6001825a
open Go.RowKit

/-! ### bytesOf, zzBytes: they only read -/
set_option maxHeartbeats 400000 in
theorem bytesOf_some (x : Addr) (len cap : Nat) (ss : List ByteArray) (w : World) (hl : len ≤ 65536) (hcell : ∀ i, i < len → w.cell? (x.add i) = some (.string (ss.getD i ByteArray.empty))) :
    Calls Try.prog 5 #[.slice (some x) len cap] w fun e w' => (∃ z : Nat, e = .returned (.int .i64 (z : Int)) ∧ z ≤ 1048577 ∧ (z ≤ 1048576 → ∀ i, i < len → (ss.getD i ByteArray.empty).size ≤ 1048576)) ∧ w' = w := by
  have HC : Hid (∀ i, i < len → w.cell? (x.add i) = some (.string (ss.getD i ByteArray.empty))) := hcell
  clear hcell
  go_enter Try.func5, Try.ntmps5
  go_wp2
  go_loop [3, 4] (fun t i => ∃ k z : Nat, k ≤ len ∧ i = .int .i64 k ∧ t = .int .i64 z ∧ z ≤ 1048576 ∧ ∀ i, i < k → (ss.getD i ByteArray.empty).size ≤ 1048576) (fun _ i => len - (intOf i).toNat)
  case atStart => exact ⟨0, 0, Nat.zero_le _, rfl, rfl, by omega, fun i hi => by omega⟩
  case round =>
    obtain ⟨k, z, hk, rfl, rfl, hz, hall⟩ := hrel
    have HA : Hid (∀ i, i < k → (ss.getD i ByteArray.empty).size ≤ 1048576) := hall
    clear hall
    by_cases hlt : k < len
    · have cc := HC.out k hlt
      obtain ⟨s, hs⟩ : ∃ s, s = ss.getD k ByteArray.empty := ⟨_, rfl⟩
      rw [← hs] at cc
      have HS : Hid (s = ss.getD k ByteArray.empty) := hs
      clear hs
      by_cases h1 : s.size ≤ 1048576
      · by_cases h2 : z + 16 + s.size ≤ 1048576
        · go_wp2
          go_round
          case rel =>
            refine ⟨k + 1, z + 16 + s.size, by omega, by go_num, by go_num, h2, fun i hi => ?_⟩
            by_cases e : i = k
            · subst e; rw [← HS.out]; exact h1
            · exact HA.out i (by omega)
          case measure => simp [intOf]; omega
        · go_wp2
          go_ret
          exact ⟨⟨1048577, rfl, by omega, fun h => by omega⟩, rfl⟩
      · go_wp2
        go_ret
        exact ⟨⟨1048577, rfl, by omega, fun h => by omega⟩, rfl⟩
    · go_wp2
      go_ret
      exact ⟨⟨z, rfl, by omega, fun _ i hi => HA.out i (by omega)⟩, rfl⟩

/-- It returned, and a bool. -/
def IsBool (e : Ending) : Prop := ∃ r, e = .returned (.bool r)

set_option maxHeartbeats 400000 in
theorem bytesOf_nil (w : World) : Calls Try.prog 5 #[.slice none 0 0] w fun e w' => e = .returned (.int .i64 0) ∧ w' = w := by
  go_enter Try.func5, Try.ntmps5
  go_wp2
  refine wp_loop_rounds 1 ?_
  rw [rounds_succ]
  go_wp2
  go_ret
  exact ⟨rfl, rfl⟩

theorem bytesOf_any (a : Option Addr) (len cap : Nat) (ss : List ByteArray) (w : World) (h : IsStrs w a len cap ss) (hl : len ≤ 65536) :
    Calls Try.prog 5 #[.slice a len cap] w fun e w' => (∃ z : Nat, e = .returned (.int .i64 (z : Int)) ∧ z ≤ 1048577 ∧ (z ≤ 1048576 → ∀ i, i < len → (ss.getD i ByteArray.empty).size ≤ 1048576)) ∧ w' = w := by
  rcases h with ⟨rfl, rfl, rfl, rfl⟩ | ⟨x, rfl, hlc, _, hz, hcell, _⟩
  · refine (bytesOf_nil w).mono ?_
    rintro e w' ⟨rfl, rfl⟩
    exact ⟨⟨0, rfl, by omega, fun _ i hi => by omega⟩, rfl⟩
  · exact bytesOf_some x len cap ss w hl (fun i hi => hcell i (by omega))

set_option maxHeartbeats 1000000 in
theorem zzBytes_00 (a1 : Option Addr) (a2 : Option Addr) (len1 cap1 len2 cap2 : Nat) (b : Bool) (w : World) (hl1 : len1 = 0) (hl2 : len2 = 0) (hm1 : len1 ≤ 9223372036854775807) (hm2 : len2 ≤ 9223372036854775807) :
    Calls Try.prog 4 #[.slice (a1) len1 cap1, .slice (a2) len2 cap2, .bool b] w fun e w' => IsBool e ∧ w' = w := by
  have hl1' : len1 ≤ 0 := by omega
  clear hl1
  have hl2' : len2 ≤ 0 := by omega
  clear hl2
  have hb1 : len1 ≤ 1048576 := by omega
  go_enter Try.func4, Try.ntmps4
  go_wp2
  go_loop [7, 8] (fun t i => ∃ k z : Nat, k ≤ len1 ∧ i = .int .i64 k ∧ t = .int .i64 z ∧ z ≤ 1048576) (fun _ i => len1 - (intOf i).toNat)
  case atStart => exact ⟨0, len1, Nat.zero_le _, rfl, rfl, by omega⟩
  case round =>
    obtain ⟨k, z, hk, rfl, rfl, hz⟩ := hrel
    by_cases hlt : k < len1
    · exfalso
      omega
    · obtain ⟨z0, rfl⟩ : ∃ z0, z0 = z := ⟨_, rfl⟩
      clear hk
      have h3 : len2 ≤ 1048576 := by omega
      have h4 : z0 + len2 ≤ 1048576 := by omega
      go_wp2
      go_loop [7, 9] (fun t i => ∃ k z : Nat, k ≤ len2 ∧ i = .int .i64 k ∧ t = .int .i64 z ∧ z ≤ 1048576) (fun _ i => len2 - (intOf i).toNat)
      case atStart => exact ⟨0, z0 + len2, Nat.zero_le _, rfl, by go_num, by omega⟩
      case round =>
        obtain ⟨k, z, hk, rfl, rfl, hz⟩ := hrel
        by_cases hlt : k < len2
        · exfalso
          omega
        · go_wp2
          go_ret
          exact ⟨⟨_, rfl⟩, rfl⟩

set_option maxHeartbeats 1000000 in
theorem zzBytes_01 (a1 : Option Addr) (x2 : Addr) (ss2 : List ByteArray) (len1 cap1 len2 cap2 : Nat) (b : Bool) (w : World) (hl1 : len1 = 0) (hc2 : ∀ i, i < len2 → w.cell? (x2.add i) = some (.string (ss2.getD i ByteArray.empty))) (hm1 : len1 ≤ 9223372036854775807) (hm2 : len2 ≤ 9223372036854775807) :
    Calls Try.prog 4 #[.slice (a1) len1 cap1, .slice (some x2) len2 cap2, .bool b] w fun e w' => IsBool e ∧ w' = w := by
  have hl1' : len1 ≤ 0 := by omega
  clear hl1
  have HC2 : Hid (∀ i, i < len2 → w.cell? (x2.add i) = some (.string (ss2.getD i ByteArray.empty))) := hc2
  clear hc2
  have hb1 : len1 ≤ 1048576 := by omega
  go_enter Try.func4, Try.ntmps4
  go_wp2
  go_loop [7, 8] (fun t i => ∃ k z : Nat, k ≤ len1 ∧ i = .int .i64 k ∧ t = .int .i64 z ∧ z ≤ 1048576) (fun _ i => len1 - (intOf i).toNat)
  case atStart => exact ⟨0, len1, Nat.zero_le _, rfl, rfl, by omega⟩
  case round =>
    obtain ⟨k, z, hk, rfl, rfl, hz⟩ := hrel
    by_cases hlt : k < len1
    · exfalso
      omega
    · obtain ⟨z0, rfl⟩ : ∃ z0, z0 = z := ⟨_, rfl⟩
      clear hk
      by_cases h3 : len2 ≤ 1048576
      · by_cases h4 : z0 + len2 ≤ 1048576
        · go_wp2
          go_loop [7, 9] (fun t i => ∃ k z : Nat, k ≤ len2 ∧ i = .int .i64 k ∧ t = .int .i64 z ∧ z ≤ 1048576) (fun _ i => len2 - (intOf i).toNat)
          case atStart => exact ⟨0, z0 + len2, Nat.zero_le _, rfl, by go_num, by omega⟩
          case round =>
            obtain ⟨k, z, hk, rfl, rfl, hz⟩ := hrel
            by_cases hlt : k < len2
            · have cc := HC2.out k hlt
              generalize ss2.getD k ByteArray.empty = s at cc
              by_cases h1 : s.size ≤ 1048576
              · by_cases h2 : z + s.size ≤ 1048576
                · go_wp2
                  go_round
                  case rel => exact ⟨k + 1, z + s.size, by omega, by go_num, by go_num, h2⟩
                  case measure => simp [intOf]; omega
                · go_wp2
                  go_ret
                  exact ⟨⟨_, rfl⟩, rfl⟩
              · go_wp2
                go_ret
                exact ⟨⟨_, rfl⟩, rfl⟩
            · go_wp2
              go_ret
              exact ⟨⟨_, rfl⟩, rfl⟩
        · go_wp2
          go_ret
          exact ⟨⟨_, rfl⟩, rfl⟩
      · go_wp2
        go_ret
        exact ⟨⟨_, rfl⟩, rfl⟩

set_option maxHeartbeats 1000000 in
theorem zzBytes_10 (x1 : Addr) (ss1 : List ByteArray) (a2 : Option Addr) (len1 cap1 len2 cap2 : Nat) (b : Bool) (w : World) (hc1 : ∀ i, i < len1 → w.cell? (x1.add i) = some (.string (ss1.getD i ByteArray.empty))) (hl2 : len2 = 0) (hm1 : len1 ≤ 9223372036854775807) (hm2 : len2 ≤ 9223372036854775807) :
    Calls Try.prog 4 #[.slice (some x1) len1 cap1, .slice (a2) len2 cap2, .bool b] w fun e w' => IsBool e ∧ w' = w := by
  have HC1 : Hid (∀ i, i < len1 → w.cell? (x1.add i) = some (.string (ss1.getD i ByteArray.empty))) := hc1
  clear hc1
  have hl2' : len2 ≤ 0 := by omega
  clear hl2
  by_cases hb1 : len1 ≤ 1048576
  case neg =>
    go_enter Try.func4, Try.ntmps4
    go_wp2
    go_ret
    exact ⟨⟨_, rfl⟩, rfl⟩
  go_enter Try.func4, Try.ntmps4
  go_wp2
  go_loop [7, 8] (fun t i => ∃ k z : Nat, k ≤ len1 ∧ i = .int .i64 k ∧ t = .int .i64 z ∧ z ≤ 1048576) (fun _ i => len1 - (intOf i).toNat)
  case atStart => exact ⟨0, len1, Nat.zero_le _, rfl, rfl, by omega⟩
  case round =>
    obtain ⟨k, z, hk, rfl, rfl, hz⟩ := hrel
    by_cases hlt : k < len1
    · have cc := HC1.out k hlt
      generalize ss1.getD k ByteArray.empty = s at cc
      by_cases h1 : s.size ≤ 1048576
      · by_cases h2 : z + s.size ≤ 1048576
        · go_wp2
          go_round
          case rel => exact ⟨k + 1, z + s.size, by omega, by go_num, by go_num, h2⟩
          case measure => simp [intOf]; omega
        · go_wp2
          go_ret
          exact ⟨⟨_, rfl⟩, rfl⟩
      · go_wp2
        go_ret
        exact ⟨⟨_, rfl⟩, rfl⟩
    · obtain ⟨z0, rfl⟩ : ∃ z0, z0 = z := ⟨_, rfl⟩
      clear hk
      have h3 : len2 ≤ 1048576 := by omega
      have h4 : z0 + len2 ≤ 1048576 := by omega
      go_wp2
      go_loop [7, 9] (fun t i => ∃ k z : Nat, k ≤ len2 ∧ i = .int .i64 k ∧ t = .int .i64 z ∧ z ≤ 1048576) (fun _ i => len2 - (intOf i).toNat)
      case atStart => exact ⟨0, z0 + len2, Nat.zero_le _, rfl, by go_num, by omega⟩
      case round =>
        obtain ⟨k, z, hk, rfl, rfl, hz⟩ := hrel
        by_cases hlt : k < len2
        · exfalso
          omega
        · go_wp2
          go_ret
          exact ⟨⟨_, rfl⟩, rfl⟩

set_option maxHeartbeats 1000000 in
theorem zzBytes_11 (x1 : Addr) (ss1 : List ByteArray) (x2 : Addr) (ss2 : List ByteArray) (len1 cap1 len2 cap2 : Nat) (b : Bool) (w : World) (hc1 : ∀ i, i < len1 → w.cell? (x1.add i) = some (.string (ss1.getD i ByteArray.empty))) (hc2 : ∀ i, i < len2 → w.cell? (x2.add i) = some (.string (ss2.getD i ByteArray.empty))) (hm1 : len1 ≤ 9223372036854775807) (hm2 : len2 ≤ 9223372036854775807) :
    Calls Try.prog 4 #[.slice (some x1) len1 cap1, .slice (some x2) len2 cap2, .bool b] w fun e w' => IsBool e ∧ w' = w := by
  have HC1 : Hid (∀ i, i < len1 → w.cell? (x1.add i) = some (.string (ss1.getD i ByteArray.empty))) := hc1
  clear hc1
  have HC2 : Hid (∀ i, i < len2 → w.cell? (x2.add i) = some (.string (ss2.getD i ByteArray.empty))) := hc2
  clear hc2
  by_cases hb1 : len1 ≤ 1048576
  case neg =>
    go_enter Try.func4, Try.ntmps4
    go_wp2
    go_ret
    exact ⟨⟨_, rfl⟩, rfl⟩
  go_enter Try.func4, Try.ntmps4
  go_wp2
  go_loop [7, 8] (fun t i => ∃ k z : Nat, k ≤ len1 ∧ i = .int .i64 k ∧ t = .int .i64 z ∧ z ≤ 1048576) (fun _ i => len1 - (intOf i).toNat)
  case atStart => exact ⟨0, len1, Nat.zero_le _, rfl, rfl, by omega⟩
  case round =>
    obtain ⟨k, z, hk, rfl, rfl, hz⟩ := hrel
    by_cases hlt : k < len1
    · have cc := HC1.out k hlt
      generalize ss1.getD k ByteArray.empty = s at cc
      by_cases h1 : s.size ≤ 1048576
      · by_cases h2 : z + s.size ≤ 1048576
        · go_wp2
          go_round
          case rel => exact ⟨k + 1, z + s.size, by omega, by go_num, by go_num, h2⟩
          case measure => simp [intOf]; omega
        · go_wp2
          go_ret
          exact ⟨⟨_, rfl⟩, rfl⟩
      · go_wp2
        go_ret
        exact ⟨⟨_, rfl⟩, rfl⟩
    · obtain ⟨z0, rfl⟩ : ∃ z0, z0 = z := ⟨_, rfl⟩
      clear hk
      by_cases h3 : len2 ≤ 1048576
      · by_cases h4 : z0 + len2 ≤ 1048576
        · go_wp2
          go_loop [7, 9] (fun t i => ∃ k z : Nat, k ≤ len2 ∧ i = .int .i64 k ∧ t = .int .i64 z ∧ z ≤ 1048576) (fun _ i => len2 - (intOf i).toNat)
          case atStart => exact ⟨0, z0 + len2, Nat.zero_le _, rfl, by go_num, by omega⟩
          case round =>
            obtain ⟨k, z, hk, rfl, rfl, hz⟩ := hrel
            by_cases hlt : k < len2
            · have cc := HC2.out k hlt
              generalize ss2.getD k ByteArray.empty = s at cc
              by_cases h1 : s.size ≤ 1048576
              · by_cases h2 : z + s.size ≤ 1048576
                · go_wp2
                  go_round
                  case rel => exact ⟨k + 1, z + s.size, by omega, by go_num, by go_num, h2⟩
                  case measure => simp [intOf]; omega
                · go_wp2
                  go_ret
                  exact ⟨⟨_, rfl⟩, rfl⟩
              · go_wp2
                go_ret
                exact ⟨⟨_, rfl⟩, rfl⟩
            · go_wp2
              go_ret
              exact ⟨⟨_, rfl⟩, rfl⟩
        · go_wp2
          go_ret
          exact ⟨⟨_, rfl⟩, rfl⟩
      · go_wp2
        go_ret
        exact ⟨⟨_, rfl⟩, rfl⟩

theorem zzBytes_any (a1 a2 : Option Addr) (len1 cap1 len2 cap2 : Nat) (ss1 ss2 : List ByteArray) (b : Bool) (w : World) (h1 : IsStrs w a1 len1 cap1 ss1) (h2 : IsStrs w a2 len2 cap2 ss2) :
    Calls Try.prog 4 #[.slice a1 len1 cap1, .slice a2 len2 cap2, .bool b] w fun e w' => IsBool e ∧ w' = w := by
  rcases h1 with ⟨rfl, rfl, rfl, rfl⟩ | ⟨x1, rfl, hlc1, hm1, hz1, hc1, _⟩
  all_goals
    rcases h2 with ⟨rfl, rfl, rfl, rfl⟩ | ⟨x2, rfl, hlc2, hm2, hz2, hc2, _⟩
  · exact zzBytes_00 none none 0 0 0 0 b w rfl rfl (by omega) (by omega)
  · exact zzBytes_01 none x2 ss2 0 0 len2 cap2 b w rfl (fun i hi => hc2 i (by omega)) (by omega) (by unfold maxLen at hm2; omega)
  · exact zzBytes_10 x1 ss1 none len1 cap1 0 0 b w (fun i hi => hc1 i (by omega)) rfl (by unfold maxLen at hm1; omega) (by omega)
  · exact zzBytes_11 x1 ss1 x2 ss2 len1 cap1 len2 cap2 b w (fun i hi => hc1 i (by omega)) (fun i hi => hc2 i (by omega)) (by unfold maxLen at hm1; omega) (by unfold maxLen at hm2; omega)

end Go.Proofs.Qxb6001825a
