import Derived.Test.YbulkeleLaterWalk
namespace Go.Proofs.Ybulkele.Time
open Go.RowKit

theorem ltB_self (x s : Int) : ltB x s x s = false := by simp [ltB]
theorem eqB_self (x s : Int) : eqB x s x s = true := by simp [eqB]

/-- 'a.After(b)' where it is known. -/
theorem after_is (x s y t : Int) (b : Bool) (h0 : 0 ≤ x) (h1 : x ≤ 999999999) (h2 : 0 ≤ y) (h3 : y ≤ 999999999) (hb : ltB y t x s = b) :
    Hid (∀ W : World, Calls Yba.prog 9 #[.agg #[.int .u64 x, .int .i64 s, .pointer none], .agg #[.int .u64 y, .int .i64 t, .pointer none]] W fun e w' =>
      e = .returned (.bool b) ∧ w' = (W.alloc (.cells #[.int .u64 x, .int .i64 s, .pointer none] 59)).alloc (.cells #[.int .u64 y, .int .i64 t, .pointer none] 59)) := fun W => by
  have := after_any x s y t W h0 h1 h2 h3
  rw [hb] at this
  exact this

/-- 'a.Equal(b)' where it is known. -/
theorem equal_is (x s y t : Int) (b : Bool) (h0 : 0 ≤ x) (h1 : x ≤ 999999999) (h2 : 0 ≤ y) (h3 : y ≤ 999999999) (hb : eqB x s y t = b) :
    Hid (∀ W : World, Calls Yba.prog 10 #[.agg #[.int .u64 x, .int .i64 s, .pointer none], .agg #[.int .u64 y, .int .i64 t, .pointer none]] W fun e w' =>
      e = .returned (.bool b) ∧ w' = (W.alloc (.cells #[.int .u64 x, .int .i64 s, .pointer none] 59)).alloc (.cells #[.int .u64 y, .int .i64 t, .pointer none] 59)) := fun W => by
  have := equal_any x s y t W h0 h1 h2 h3
  rw [hb] at this
  exact this

theorem later_any (b : Bool) (r d : Int) (w : World) (hr : -9223372036854775808 ≤ r ∧ r ≤ 9223372036854775807) (hd : -9223372036854775808 ≤ d ∧ d ≤ 9223372036854775807) :
    Calls Yba.prog 5 #[.bool b, .int .i64 r, .int .i64 d] w fun e w' => e = .returned (.bool true) ∧ Below w.heap.size w w' := by
  have hl := ltB_of r d
  have hl' := ltB_of d r
  have hq := eqB_of r d
  have r0 : 0 ≤ r % 1000000000 := by omega
  have r1 : r % 1000000000 ≤ 999999999 := by omega
  have d0 : 0 ≤ d % 1000000000 := by omega
  have d1 : d % 1000000000 ≤ 999999999 := by omega
  cases b with
  | false => exact later_nil r d _ _ _ _ w (fun W => at_any r hr W) (fun W => at_any d hd W) (after_is _ _ _ _ _ d0 d1 d0 d1 (ltB_self _ _)) (equal_is _ _ _ _ _ d0 d1 d0 d1 (eqB_self _ _))
  | true =>
    by_cases h : r < d
    · exact later_first r d _ _ _ _ w (fun W => at_any r hr W) (fun W => at_any d hd W) (fun W ad n c => call_first W ad n c _ _ _ _ r0 r1 d0 d1 (by rw [hl]; simpa using h))
        (after_is _ _ _ _ _ r0 r1 d0 d1 (by rw [hl']; simp; omega)) (after_is _ _ _ _ _ r0 r1 r0 r1 (ltB_self _ _))
        (equal_is _ _ _ _ _ r0 r1 d0 d1 (by rw [hq]; simp; omega)) (equal_is _ _ _ _ _ r0 r1 r0 r1 (eqB_self _ _))
    · exact later_second r d _ _ _ _ w (fun W => at_any r hr W) (fun W => at_any d hd W) (fun W ad n c => call_second W ad n c _ _ _ _ r0 r1 d0 d1 (by rw [hl]; simpa using h))
        (after_is _ _ _ _ _ d0 d1 d0 d1 (ltB_self _ _)) (after_is _ _ _ _ _ d0 d1 r0 r1 (by rw [hl]; simpa using h))
        (equal_is _ _ _ _ _ d0 d1 d0 d1 (eqB_self _ _))
end Go.Proofs.Ybulkele.Time
