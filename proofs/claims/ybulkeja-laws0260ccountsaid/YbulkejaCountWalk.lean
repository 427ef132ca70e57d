import Derived.Test.YbulkejaRows
import Derived.WalkKit
import Derived.ProofKit
import Derived.OpenShut
namespace Go.Proofs.Ybulkeja.Count
open Go.RowKit

/-- The verifier behind a call of spend, its number spelt otherwise. -/
theorem left_eq (w : World) (a0 : Int) {x y : Int} (h : x = y) : w.alloc (.cells #[.int .i64 a0, .int .i64 x, .pointer none, .pointer none] 32) = w.alloc (.cells #[.int .i64 a0, .int .i64 y, .pointer none, .pointer none] 32) := by rw [h]

set_option maxRecDepth 10000 in
set_option maxHeartbeats 800000 in
theorem none_left (a0 a1 : Int) (K : Nat) (w : World) (hK : K ≤ 1024) (h0 : -9223372036854775808 ≤ a1) (h1 : a1 ≤ 0) :
    Calls Yba.prog 6 #[.int .i64 a0, .int .i64 a1, .int .u16 K] w fun e w' => e = .returned (.bool true) ∧ Grown w w' := by
  go_enter Yba.func6, Yba.ntmps6
  go_wp2
  go_loopw [8, 9] (fun n i wr => ∃ k : Nat, k ≤ K ∧ i = .int .i64 k ∧ n = .int .i64 0 ∧ wr = w.alloc (.cells #[.int .i64 a0, .int .i64 a1, .pointer none, .pointer none] 32)) (fun _ i _ => K - (intOf i).toNat)
  case atStart => exact ⟨0, Nat.zero_le _, rfl, rfl, rfl⟩
  case round =>
    obtain ⟨k, hk, rfl, rfl, rfl⟩ := hrel
    by_cases hlt : k < K
    · go_wp2
      go_roundw
      case rel => exact ⟨k + 1, by omega, by go_num, rfl, trivial⟩
      case measure => simp [intOf]; omega
    · go_wp2
      all_goals (go_ret; exact ⟨rfl, (Grown.refl _).alloc _ _⟩)

set_option maxRecDepth 10000 in
set_option maxHeartbeats 800000 in
theorem some_left (a0 : Int) (c K : Nat) (w : World) (hK : K ≤ 1024) (hc0 : 0 < c) (hc : c ≤ 2048) :
    Calls Yba.prog 6 #[.int .i64 a0, .int .i64 c, .int .u16 K] w fun e w' => e = .returned (.bool true) ∧ Grown w w' := by
  go_enter Yba.func6, Yba.ntmps6
  go_wp2
  go_loopw [8, 9] (fun s i wr => ∃ k n : Nat, k ≤ K ∧ n ≤ k ∧ n ≤ c ∧ (n < c → k ≤ n) ∧ i = .int .i64 k ∧ s = .int .i64 n ∧ wr = w.alloc (.cells #[.int .i64 a0, .int .i64 ((c : Int) - n), .pointer none, .pointer none] 32)) (fun _ i _ => K - (intOf i).toNat)
  case atStart => exact ⟨0, 0, Nat.zero_le _, Nat.le_refl _, Nat.zero_le _, fun _ => Nat.le_refl _, rfl, rfl, by simp⟩
  case round =>
    obtain ⟨k, n, hk, hnk, hnc, hex, rfl, rfl, rfl⟩ := hrel
    by_cases hlt : k < K
    · by_cases hn : n < c
      · have hkn := hex hn
        clear hex
        go_wp2
        go_roundw
        case rel => exact ⟨k + 1, n + 1, by omega, by omega, by omega, fun _ => by omega, by go_num, by go_num, left_eq w a0 (by omega)⟩
        case measure => simp [intOf]; omega
      · clear hex
        go_wp2
        go_roundw
        case rel => exact ⟨k + 1, n, by omega, by omega, by omega, fun _ => by omega, by go_num, rfl, rfl⟩
        case measure => simp [intOf]; omega
    · by_cases hn : n < c
      · have hkn := hex hn
        clear hex
        go_wp2
        all_goals (go_ret; exact ⟨rfl, (Grown.refl _).alloc _ _⟩)
      · clear hex
        go_wp2
        all_goals (go_ret; exact ⟨rfl, (Grown.refl _).alloc _ _⟩)
set_option maxRecDepth 10000 in
set_option maxHeartbeats 800000 in
theorem many_left (a0 a1 : Int) (K : Nat) (w : World) (hK : K ≤ 1024) (hc0 : 2048 < a1) :
    Calls Yba.prog 6 #[.int .i64 a0, .int .i64 a1, .int .u16 K] w fun e w' => e = .returned (.bool true) ∧ Grown w w' := by
  go_enter Yba.func6, Yba.ntmps6
  go_wp2
  go_loopw [8, 9] (fun s i wr => ∃ k : Nat, k ≤ K ∧ i = .int .i64 k ∧ s = .int .i64 k ∧ wr = w.alloc (.cells #[.int .i64 a0, .int .i64 ((2048 : Int) - k), .pointer none, .pointer none] 32)) (fun _ i _ => K - (intOf i).toNat)
  case atStart => exact ⟨0, Nat.zero_le _, rfl, rfl, by simp⟩
  case round =>
    obtain ⟨k, hk, rfl, rfl, rfl⟩ := hrel
    by_cases hlt : k < K
    · go_wp2
      go_roundw
      case rel => exact ⟨k + 1, by omega, by go_num, by go_num, left_eq w a0 (by omega)⟩
      case measure => simp [intOf]; omega
    · go_wp2
      all_goals (go_ret; exact ⟨rfl, (Grown.refl _).alloc _ _⟩)

theorem walk (a0 a1 a2 : Int) (w : World) (h1 : -9223372036854775808 ≤ a1 ∧ a1 ≤ 9223372036854775807) (h2 : 0 ≤ a2 ∧ a2 ≤ 65535) :
    Calls Yba.prog 6 #[.int .i64 a0, .int .i64 a1, .int .u16 a2] w fun e w' => e = .returned (.bool true) ∧ Grown w w' := by
  by_cases hK : 1024 < a2
  · go_enter Yba.func6, Yba.ntmps6
    go_wp2
    go_ret
    exact ⟨rfl, Grown.refl _⟩
  · obtain ⟨K, rfl⟩ := Int.eq_ofNat_of_zero_le h2.1
    by_cases hc : 2048 < a1
    · exact many_left a0 a1 K w (by omega) hc
    · by_cases hp : 0 < a1
      · obtain ⟨c, rfl⟩ := Int.eq_ofNat_of_zero_le (Int.le_of_lt hp)
        exact some_left a0 c K w (by omega) (by omega) (by omega)
      · exact none_left a0 a1 K w (by omega) h1.1 (by omega)

end Go.Proofs.Ybulkeja.Count
