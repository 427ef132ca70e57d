import Derived.Test.YbulkejaRows
import Derived.WalkKit
import Derived.Deep.QuietTactic
import Derived.BigQuiet
namespace Go.Proofs.Ybulkeja.Cut
open Go.RowKit

/-- 'cutSubidentifier' where the byte at 'm' is the first without the top bit. -/
theorem cut_any (s : ByteArray) (m : Nat) (hs : s.size ≤ 4096) (hm : m < s.size)
    (hlo : ∀ k, (h : k < s.size) → k < m → (bits .and .u8 (s[k].toNat : Int) 128 != 0) = true)
    (hhi : (bits .and .u8 (s[m].toNat : Int) 128 != 0) = false) (w : World) :
    Calls Yba.prog 8 #[.string s] w fun e w' => e = .returned (.tuple #[.string (s.extract 0 (m + 1)), .string (s.extract (m + 1) s.size)]) ∧ ∃ n, w' = w.drewN n := by
  go_enter Yba.func8, Yba.ntmps8
  go_wp2
  go_loop [4] (fun i => ∃ k : Nat, k ≤ m ∧ i = .int .i64 k) (fun i => m - (intOf i).toNat)
  case atStart => exact ⟨0, Nat.zero_le _, rfl⟩
  case round =>
    obtain ⟨k, hk, rfl⟩ := hrel
    by_cases hlt : k < m
    · have h1 := hlo k (by omega) hlt
      have hks : k < s.size := by omega
      go_wp2
      go_round
      case rel => exact ⟨k + 1, by omega, by go_num⟩
      case measure => simp [intOf]; omega
    · obtain rfl : k = m := by omega
      go_wp2
      go_quiet (fail)
      go_wp2
      go_ret2
      exact ⟨rfl, _, rfl⟩
end Go.Proofs.Ybulkeja.Cut
