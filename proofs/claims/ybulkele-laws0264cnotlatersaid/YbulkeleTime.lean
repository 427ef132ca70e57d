import Derived.Test.YbulkeleRows
import Derived.WalkKit
import Derived.Laws.BitsAllLaws
namespace Go.Proofs.Ybulkele.Time
open Go.RowKit

/-! ### The bits of a wall word below 2^30: no monotonic reading, the nanoseconds alone -/
theorem ns_zero : bits .and .u64 0 1073741823 = 0 := by decide +kernel
theorem rest_zero : bits .andNot .u64 0 1073741823 = 0 := by decide +kernel
theorem or_zero (x : Int) (h0 : 0 ≤ x) (h1 : x ≤ 999999999) : bits .or .u64 0 x = x := by
  rw [u64_or 0 x (by omega) (by omega) h0 (by omega)]
  simp; omega
theorem nat_mono (k : Nat) (hk : k < 2 ^ 63) : k &&& 2 ^ 63 = 0 := by
  apply Nat.eq_of_testBit_eq
  intro i
  rw [Nat.testBit_and, Nat.testBit_two_pow]
  by_cases hi : 63 = i
  · subst hi; simp [Nat.testBit_lt_two_pow hk]
  · simp [hi]
theorem mono_zero (x : Int) (h0 : 0 ≤ x) (h1 : x ≤ 999999999) : bits .and .u64 x 9223372036854775808 = 0 := by
  obtain ⟨k, rfl⟩ := Int.eq_ofNat_of_zero_le h0
  have h := u64_and_nat k 9223372036854775808 (by omega) (by omega)
  have e : k &&& 9223372036854775808 = 0 := nat_mono k (by omega)
  rw [e] at h
  exact h
theorem ns_of (x : Int) (h0 : 0 ≤ x) (h1 : x ≤ 999999999) : bits .and .u64 x 1073741823 = x := by
  obtain ⟨k, rfl⟩ := Int.eq_ofNat_of_zero_le h0
  have h := u64_and_nat k 1073741823 (by omega) (by omega)
  have e : k &&& 1073741823 = k % 2 ^ 30 := Nat.and_two_pow_sub_one_eq_mod k 30
  rw [Nat.mod_eq_of_lt (by omega)] at e
  rw [e] at h
  exact h

set_option maxRecDepth 10000 in
set_option maxHeartbeats 400000 in
theorem add_pos (n D M : Int) (w : World) (hD : n.tdiv 1000000000 = D) (hM : n.tmod 1000000000 = M) (h0 : 0 ≤ M) (h1 : M ≤ 999999999) (h2 : -9223372037 ≤ D) (h3 : D ≤ 9223372037) :
    Calls Yba.prog 12 #[.agg #[.int .u64 0, .int .i64 0, .pointer none], .int .i64 n] w fun e w' => e = .returned (.agg #[.int .u64 M, .int .i64 D, .pointer none]) ∧ w' = (w.alloc (.cells #[.int .u64 M, .int .i64 D, .pointer none] 59)).alloc (.cells #[.int .u64 M, .int .i64 D, .pointer none] 59) := by
  have e1 := ns_zero
  have e2 := rest_zero
  have e3 := or_zero M h0 h1
  have e4 := mono_zero M h0 h1
  go_enter Yba.func12, Yba.ntmps12
  go_wp2
  go_end0
  go_wp2
  exact bodyPost_ret (v := .agg #[.int .u64 M, .int .i64 D, .pointer none]) (by simp [results, Yba.results12, go_sem]) rfl ⟨rfl, rfl⟩

set_option maxRecDepth 10000 in
set_option maxHeartbeats 400000 in
theorem add_neg (n D M : Int) (w : World) (hD : n.tdiv 1000000000 = D) (hM : n.tmod 1000000000 = M) (h0 : M < 0) (h1 : -999999999 ≤ M) (h2 : -9223372037 ≤ D) (h3 : D ≤ 9223372037) :
    Calls Yba.prog 12 #[.agg #[.int .u64 0, .int .i64 0, .pointer none], .int .i64 n] w fun e w' => e = .returned (.agg #[.int .u64 (M + 1000000000), .int .i64 (D - 1), .pointer none]) ∧ w' = (w.alloc (.cells #[.int .u64 (M + 1000000000), .int .i64 (D - 1), .pointer none] 59)).alloc (.cells #[.int .u64 (M + 1000000000), .int .i64 (D - 1), .pointer none] 59) := by
  have e1 := ns_zero
  have e2 := rest_zero
  have e3 := or_zero (M + 1000000000) (by omega) (by omega)
  have e4 := mono_zero (M + 1000000000) (by omega) (by omega)
  go_enter Yba.func12, Yba.ntmps12
  go_wp2
  go_end0
  go_wp2
  exact bodyPost_ret (v := .agg #[.int .u64 (M + 1000000000), .int .i64 (D - 1), .pointer none]) (by simp [results, Yba.results12, go_sem]) rfl ⟨rfl, rfl⟩
theorem tparts (n : Int) : 1000000000 * n.tdiv 1000000000 + n.tmod 1000000000 = n ∧ -1000000000 < n.tmod 1000000000 ∧ n.tmod 1000000000 < 1000000000 :=
  ⟨Int.mul_tdiv_add_tmod n 1000000000, Int.lt_tmod_of_pos n (by decide), Int.tmod_lt_of_pos n (by decide)⟩

theorem tdiv_bounds (n : Int) (h : -9223372036854775808 ≤ n ∧ n ≤ 9223372036854775807) :
    (-9223372037 ≤ n.tdiv 1000000000 ∧ n.tdiv 1000000000 ≤ 9223372037) ∧ (-999999999 ≤ n.tmod 1000000000 ∧ n.tmod 1000000000 ≤ 999999999) := by
  have := tparts n
  omega

theorem fl_pos (n : Int) (h : 0 ≤ n.tmod 1000000000) : n % 1000000000 = n.tmod 1000000000 ∧ n / 1000000000 = n.tdiv 1000000000 := by
  have := tparts n
  omega

theorem fl_neg (n : Int) (h : n.tmod 1000000000 < 0) : n % 1000000000 = n.tmod 1000000000 + 1000000000 ∧ n / 1000000000 = n.tdiv 1000000000 - 1 := by
  have := tparts n
  omega

/-- time.Time{}.Add(n): the seconds and the nanoseconds, rounded down. -/
theorem add_any (n : Int) (h : -9223372036854775808 ≤ n ∧ n ≤ 9223372036854775807) (w : World) :
    Calls Yba.prog 12 #[.agg #[.int .u64 0, .int .i64 0, .pointer none], .int .i64 n] w fun e w' => e = .returned (.agg #[.int .u64 (n % 1000000000), .int .i64 (n / 1000000000), .pointer none]) ∧ w' = (w.alloc (.cells #[.int .u64 (n % 1000000000), .int .i64 (n / 1000000000), .pointer none] 59)).alloc (.cells #[.int .u64 (n % 1000000000), .int .i64 (n / 1000000000), .pointer none] 59) := by
  obtain ⟨⟨b1, b2⟩, b3, b4⟩ := tdiv_bounds n h
  by_cases hM : 0 ≤ n.tmod 1000000000
  · obtain ⟨e1, e2⟩ := fl_pos n hM
    rw [e1, e2]
    exact add_pos n _ _ w rfl rfl hM b4 b1 b2
  · obtain ⟨e1, e2⟩ := fl_neg n (by omega)
    rw [e1, e2]
    exact add_neg n _ _ w rfl rfl (by omega) b3 b1 b2

set_option maxHeartbeats 400000 in
theorem at_core (n x s : Int) (w : World)
    (hadd : Hid (∀ W : World, Calls Yba.prog 12 #[.agg #[.int .u64 0, .int .i64 0, .pointer none], .int .i64 n] W fun e w' => e = .returned (.agg #[.int .u64 x, .int .i64 s, .pointer none]) ∧ w' = (W.alloc (.cells #[.int .u64 x, .int .i64 s, .pointer none] 59)).alloc (.cells #[.int .u64 x, .int .i64 s, .pointer none] 59))) :
    Calls Yba.prog 7 #[.int .i64 n] w fun e w' => e = .returned (.agg #[.int .u64 x, .int .i64 s, .pointer none]) ∧ Below w.heap.size w w' := by
  go_enter Yba.func7, Yba.ntmps7
  go_wp2_with fail
  refine (hadd.out _).mono ?_
  rintro e w1 ⟨rfl, rfl⟩
  go_wp2
  exact bodyPost_ret (v := .agg #[.int .u64 x, .int .i64 s, .pointer none]) (by simp [results, Yba.results7, go_sem]) rfl ⟨rfl, (((Below.refl _ _).alloc (Nat.le_refl _) _).alloc (by simp) _).alloc (by simp; omega) _⟩

/-- zzs0264cat(n): the time n nanoseconds behind the zero time. -/
theorem at_any (n : Int) (h : -9223372036854775808 ≤ n ∧ n ≤ 9223372036854775807) (w : World) :
    Calls Yba.prog 7 #[.int .i64 n] w fun e w' => e = .returned (.agg #[.int .u64 (n % 1000000000), .int .i64 (n / 1000000000), .pointer none]) ∧ Below w.heap.size w w' :=
  at_core n _ _ w (fun W => add_any n h W)
end Go.Proofs.Ybulkele.Time
