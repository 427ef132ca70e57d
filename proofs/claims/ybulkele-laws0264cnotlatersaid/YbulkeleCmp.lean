import Derived.Test.YbulkeleTime
import Derived.WalkKit
namespace Go.Proofs.Ybulkele.Time
open Go.RowKit

/-- Is the time of s seconds and x nanoseconds before that of t seconds and y nanoseconds? -/
def ltB (x s y t : Int) : Bool := decide (s < t ∨ (s = t ∧ x < y))
/-- Are the two the same? -/
def eqB (x s y t : Int) : Bool := decide (s = t ∧ x = y)

theorem mono_two (x y : Int) (h0 : 0 ≤ x) (h1 : x ≤ 999999999) (h2 : 0 ≤ y) (h3 : y ≤ 999999999) : bits .and .u64 (bits .and .u64 x y) 9223372036854775808 = 0 := by
  obtain ⟨k, rfl⟩ := Int.eq_ofNat_of_zero_le h0
  obtain ⟨l, rfl⟩ := Int.eq_ofNat_of_zero_le h2
  rw [u64_and_nat k l (by omega) (by omega)]
  have : k &&& l ≤ k := Nat.and_le_left
  exact mono_zero _ (by omega) (by omega)

set_option maxRecDepth 10000 in
set_option maxHeartbeats 800000 in
theorem before_any (x s y t : Int) (w : World) (h0 : 0 ≤ x) (h1 : x ≤ 999999999) (h2 : 0 ≤ y) (h3 : y ≤ 999999999) :
    Calls Yba.prog 13 #[.agg #[.int .u64 x, .int .i64 s, .pointer none], .agg #[.int .u64 y, .int .i64 t, .pointer none]] w fun e w' =>
      e = .returned (.bool (ltB x s y t)) ∧ w' = (w.alloc (.cells #[.int .u64 x, .int .i64 s, .pointer none] 59)).alloc (.cells #[.int .u64 y, .int .i64 t, .pointer none] 59) := by
  have e1 := mono_two x y h0 h1 h2 h3
  have e2 := mono_zero x h0 h1
  have e3 := mono_zero y h2 h3
  have e4 := ns_of x h0 h1
  have e5 := ns_of y h2 h3
  by_cases c1 : s < t
  · have hl : ltB x s y t = true := by simp [ltB, c1]
    rw [hl]
    clear hl
    go_enter Yba.func13, Yba.ntmps13
    go_wp2
    go_ret
    exact ⟨rfl, rfl⟩
  · by_cases c2 : s = t
    · subst c2
      by_cases c3 : x < y
      · have hl : ltB x s y s = true := by simp [ltB, c3]
        rw [hl]
        clear hl
        go_enter Yba.func13, Yba.ntmps13
        go_wp2
        go_ret
        exact ⟨rfl, rfl⟩
      · have hl : ltB x s y s = false := by simp [ltB]; omega
        rw [hl]
        clear hl
        go_enter Yba.func13, Yba.ntmps13
        go_wp2
        go_ret
        exact ⟨rfl, rfl⟩
    · have hl : ltB x s y t = false := by simp [ltB]; omega
      rw [hl]
      clear hl
      have c4 : t < s := by omega
      have c5 : decide (s < t) = false := by simp; omega
      clear c1 c2
      go_enter Yba.func13, Yba.ntmps13
      go_wp2
      go_ret
      exact ⟨rfl, rfl⟩

set_option maxRecDepth 10000 in
set_option maxHeartbeats 800000 in
theorem after_any (x s y t : Int) (w : World) (h0 : 0 ≤ x) (h1 : x ≤ 999999999) (h2 : 0 ≤ y) (h3 : y ≤ 999999999) :
    Calls Yba.prog 9 #[.agg #[.int .u64 x, .int .i64 s, .pointer none], .agg #[.int .u64 y, .int .i64 t, .pointer none]] w fun e w' =>
      e = .returned (.bool (ltB y t x s)) ∧ w' = (w.alloc (.cells #[.int .u64 x, .int .i64 s, .pointer none] 59)).alloc (.cells #[.int .u64 y, .int .i64 t, .pointer none] 59) := by
  have e1 := mono_two x y h0 h1 h2 h3
  have e2 := mono_zero x h0 h1
  have e3 := mono_zero y h2 h3
  have e4 := ns_of x h0 h1
  have e5 := ns_of y h2 h3
  by_cases c1 : t < s
  · have hl : ltB y t x s = true := by simp [ltB, c1]
    rw [hl]
    clear hl
    go_enter Yba.func9, Yba.ntmps9
    go_wp2
    go_ret
    exact ⟨rfl, rfl⟩
  · by_cases c2 : s = t
    · subst c2
      by_cases c3 : y < x
      · have hl : ltB y s x s = true := by simp [ltB, c3]
        rw [hl]
        clear hl
        go_enter Yba.func9, Yba.ntmps9
        go_wp2
        go_ret
        exact ⟨rfl, rfl⟩
      · have hl : ltB y s x s = false := by simp [ltB]; omega
        rw [hl]
        clear hl
        go_enter Yba.func9, Yba.ntmps9
        go_wp2
        go_ret
        exact ⟨rfl, rfl⟩
    · have hl : ltB y t x s = false := by simp [ltB]; omega
      rw [hl]
      clear hl
      have c4 : s < t := by omega
      have c5 : decide (t < s) = false := by simp; omega
      clear c1 c2
      go_enter Yba.func9, Yba.ntmps9
      go_wp2
      go_ret
      exact ⟨rfl, rfl⟩

set_option maxRecDepth 10000 in
set_option maxHeartbeats 800000 in
theorem equal_any (x s y t : Int) (w : World) (h0 : 0 ≤ x) (h1 : x ≤ 999999999) (h2 : 0 ≤ y) (h3 : y ≤ 999999999) :
    Calls Yba.prog 10 #[.agg #[.int .u64 x, .int .i64 s, .pointer none], .agg #[.int .u64 y, .int .i64 t, .pointer none]] w fun e w' =>
      e = .returned (.bool (eqB x s y t)) ∧ w' = (w.alloc (.cells #[.int .u64 x, .int .i64 s, .pointer none] 59)).alloc (.cells #[.int .u64 y, .int .i64 t, .pointer none] 59) := by
  have e1 := mono_two x y h0 h1 h2 h3
  have e2 := mono_zero x h0 h1
  have e3 := mono_zero y h2 h3
  have e4 := ns_of x h0 h1
  have e5 := ns_of y h2 h3
  by_cases c2 : s = t
  · subst c2
    by_cases c3 : x = y
    · subst c3
      have hl : eqB x s x s = true := by simp [eqB]
      rw [hl]
      clear hl
      go_enter Yba.func10, Yba.ntmps10
      go_wp2
      go_ret
      exact ⟨rfl, rfl⟩
    · have hl : eqB x s y s = false := by simp [eqB]; omega
      rw [hl]
      clear hl
      have c5 : (x == y) = false := by simpa using c3
      go_enter Yba.func10, Yba.ntmps10
      go_wp2
      go_ret
      exact ⟨rfl, rfl⟩
  · have hl : eqB x s y t = false := by simp [eqB]; omega
    rw [hl]
    clear hl
    have c5 : (s == t) = false := by simpa using c2
    go_enter Yba.func10, Yba.ntmps10
    go_wp2
    go_ret
    exact ⟨rfl, rfl⟩

end Go.Proofs.Ybulkele.Time
