import Derived.Test.YbulkejaCut
import Derived.Test.YbulkejaPlain
import Derived.WalkKit
import Derived.ProofKit
import Derived.OpenShut
import Derived.ShutString
namespace Go.Proofs.Ybulkeja.Split
open Go.ChangeShapes Go.WideShapes Go.ChangeAt Go.RowKit Plain

theorem conv_one (n : Int) (w : World) : (convert 22 9 (.slice (some ⟨w.heap.size, 0, none⟩) 1 1)).run Yba.prog (w.alloc (.cells #[.int .u8 n] 5)) = .ok (.string (oneByte n)) (w.alloc (.cells #[.int .u8 n] 5)) :=
  run_convert_bytes_arg _ 22 5 Yba.underlying22 Yba.underlying5 w.heap.size 0 1 1 [n] rfl (fun i hi => by
    obtain rfl : i = 0 := by omega
    simp) 9 Yba.underlying9

set_option maxRecDepth 10000 in
set_option maxHeartbeats 400000 in
theorem core (a0 sb a2 sub rest : ByteArray) (a1 : Int) (w : World) (c0 : a0.size ≤ 1024) (c2 : a2.size ≤ 1024) (cb : sb.size ≤ 1)
    (kc : (convert 22 9 (.slice (some ⟨w.heap.size, 0, none⟩) 1 1)).run Yba.prog (w.alloc (.cells #[.int .u8 (bits .and .u8 a1 127)] 5)) = .ok (.string sb) (w.alloc (.cells #[.int .u8 (bits .and .u8 a1 127)] 5)))
    (m : Nat) (hm : m ≤ 4096) (hr : rest.size ≤ 4096) (hsz : sub.size = m + 1) (hcat : sub ++ rest = a0 ++ sb ++ a2)
    (hlo : ∀ k, (h : k < sub.size) → k < m → (bits .and .u8 (sub[k].toNat : Int) 128 == 0) = false)
    (hhi : ∀ h : m < sub.size, (bits .and .u8 (sub[m].toNat : Int) 128 != 0) = false)
    (hcut : Hid (∀ W : World, Calls Yba.prog 8 #[.string (a0 ++ sb ++ a2)] W fun e w' => e = .returned (.tuple #[.string sub, .string rest]) ∧ ∃ n, w' = W.drewN n)) :
    Calls Yba.prog 4 #[.string a0, .int .u8 a1, .string a2] w fun e w' => e = .returned (.bool true) ∧ Grown w w' := by
  go_enter Yba.func4, Yba.ntmps4
  go_wp2_with fail
  refine (Hid.out hcut _).mono ?_
  rintro e w' ⟨rfl, n, rfl⟩
  go_wp2
  go_loop [10] (fun i => ∃ k : Nat, k ≤ m ∧ i = .int .i64 k) (fun i => m - (intOf i).toNat)
  case atStart => exact ⟨0, Nat.zero_le _, rfl⟩
  case round =>
    obtain ⟨k, hk, rfl⟩ := hrel
    by_cases hlt : k < m
    · have h1 := hlo k (by omega) hlt
      go_wp2
      go_round
      case rel => exact ⟨k + 1, by omega, by go_num⟩
      case measure => simp [intOf]; omega
    · go_wp2
      go_ret
      exact ⟨rfl, by repeat (first | exact Grown.refl _ | apply Grown.drew | apply Grown.alloc)⟩

theorem split_cat (s : ByteArray) (m : Nat) (hm : m < s.size) : s.extract 0 (m + 1) ++ s.extract (m + 1) s.size = s := by
  rw [ByteArray.extract_append_extract, Nat.max_eq_right (by omega), Nat.min_eq_left (by omega), ByteArray.extract_zero_size]

theorem walk (a0 : ByteArray) (a1 : Int) (a2 : ByteArray) (w1 : (Lit.int .u8 a1).wf = true) (w : World) (c0 : a0.size ≤ 1024) (c2 : a2.size ≤ 1024) :
    Calls Yba.prog 4 #[.string a0, .int .u8 a1, .string a2] w fun e w' => e = .returned (.bool true) ∧ Grown w w' := by
  have hb := bounds_u8 w1
  have h127 := and127 a1 (by omega) (by omega)
  have hS := mid_size a0 a2 (bits .and .u8 a1 127)
  have hlt : a0.size < (a0 ++ oneByte (bits .and .u8 a1 127) ++ a2).size := by omega
  obtain ⟨m, hm, hmp, hlo, hhi⟩ := first_clear _ _ hlt (mid_clear a0 a2 (bits .and .u8 a1 127) (by omega) (by omega) hlt)
  generalize hs : a0 ++ oneByte (bits .and .u8 a1 127) ++ a2 = s at *
  have key := core a0 (oneByte (bits .and .u8 a1 127)) a2 (s.extract 0 (m + 1)) (s.extract (m + 1) s.size) a1 w c0 c2 (by rw [oneByte_size]; omega) (conv_one _ w) m (by omega)
    (by simp; omega) (by simp; omega) (by rw [split_cat s m hm, hs])
    (fun k h hk => by
      have := hlo k (by omega) hk
      rw [ByteArray.getElem_extract]
      simp only [Nat.zero_add]
      unfold top at this
      simpa using this)
    (fun h => by
      rw [ByteArray.getElem_extract]
      simp only [Nat.zero_add]
      exact hhi)
    (by rw [hs]; exact fun W => Cut.cut_any s m (by omega) hm hlo hhi W)
  exact key
end Go.Proofs.Ybulkeja.Split
