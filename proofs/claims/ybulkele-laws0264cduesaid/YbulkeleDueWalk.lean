import Derived.Test.YbulkeleReq
import Derived.WalkKit
import Derived.WalkSpells
import Derived.WalkSmall
namespace Go.Proofs.Ybulkele.Time
open Go.RowKit

theorem nil_eq {P : Program} (w : World) (d : Nat) (t e : TypeId) (h : P.underlying t = some (.pointer e)) : (Op.equalIn (d + 1) t (.pointer none) (.pointer none)).run P w = .ok true w := by
  simp [Op.equalIn, run_underlying h]

theorem loc_eq (w : World) : (Op.equalIn 9999 57 (.pointer none) (.pointer none)).run Yba.prog w = .ok true w := nil_eq w 9998 57 _ Yba.underlying57

set_option maxRecDepth 10000 in
set_option maxHeartbeats 800000 in
theorem due_nil (r d x s y t : Int) (w : World)
    (hr : Hid (∀ W : World, Calls Yba.prog 7 #[.int .i64 r] W fun e w' => e = .returned (.agg #[.int .u64 x, .int .i64 s, .pointer none]) ∧ Below W.heap.size W w'))
    (hd : Hid (∀ W : World, Calls Yba.prog 7 #[.int .i64 d] W fun e w' => e = .returned (.agg #[.int .u64 y, .int .i64 t, .pointer none]) ∧ Below W.heap.size W w')) :
    Calls Yba.prog 4 #[.slice none 0 0, .int .i64 r, .int .i64 d] w fun e w' => e = .returned (.bool true) ∧ Below w.heap.size w w' := by
  have kc := fun wx => run_neq_slice_nil_any (P := Yba.prog) wx 55 5 none 0 0 0 0 Yba.underlying55
  have kp := loc_eq
  go_enter Yba.func4, Yba.ntmps4
  go_wp2_with fail
  refine (hr.out _).mono ?_
  rintro e w1 ⟨rfl, hb1⟩
  have HB1 : Hid (Below w.heap.size w w1) := hb1
  clear hb1 hr
  go_wp2_with fail
  refine (hd.out _).mono ?_
  rintro e w2 ⟨rfl, hb2⟩
  have HB2 : Hid (Below w.heap.size w w2) := HB1.out.trans (hb2.mono HB1.out.size)
  clear hb2 hd HB1
  go_wp2_with fail
  refine (call_nil w2 x s y t).mono ?_
  rintro e w4 ⟨rfl, q7, q8, q9, q10, q11, q12, hz, hb4⟩
  have HB4 : Hid (Below w.heap.size w w4) := HB2.out.trans (hb4.mono HB2.out.size)
  clear hb4 HB2
  go_wp2
  go_ret
  exact ⟨rfl, ((HB4.out.alloc HB4.out.size _).alloc (by simp; have := HB4.out.size; omega) _)⟩

set_option maxRecDepth 10000 in
set_option maxHeartbeats 800000 in
theorem due_first (ad : Addr) (n c : Nat) (r d x s y t : Int) (w : World) (h0 : 0 ≤ x) (h1 : x ≤ 999999999) (h2 : 0 ≤ y) (h3 : y ≤ 999999999) (hrd : r < d) (hlt : ltB x s y t = true)
    (hr : Hid (∀ W : World, Calls Yba.prog 7 #[.int .i64 r] W fun e w' => e = .returned (.agg #[.int .u64 x, .int .i64 s, .pointer none]) ∧ Below W.heap.size W w'))
    (hd : Hid (∀ W : World, Calls Yba.prog 7 #[.int .i64 d] W fun e w' => e = .returned (.agg #[.int .u64 y, .int .i64 t, .pointer none]) ∧ Below W.heap.size W w')) :
    Calls Yba.prog 4 #[.slice (some ad) n c, .int .i64 r, .int .i64 d] w fun e w' => e = .returned (.bool true) ∧ Below w.heap.size w w' := by
  have kc := fun wx => run_neq_slice_nil_any (P := Yba.prog) wx 55 5 (some ad) n c 0 0 Yba.underlying55
  have kp := loc_eq
  have hnext : Hid (∀ W : World, Calls Yba.prog 8 #[.pointer (some ⟨W.heap.size, 0, none⟩)] (W.alloc (req (.slice (some ad) n c) x s y t)) fun e w' => e = .returned (.agg #[.int .u64 x, .int .i64 s, .pointer none]) ∧ Told W x s y t w') := fun W => call_first W ad n c x s y t h0 h1 h2 h3 hlt
  clear hlt
  go_enter Yba.func4, Yba.ntmps4
  go_wp2_with fail
  refine (hr.out _).mono ?_
  rintro e w1 ⟨rfl, hb1⟩
  have HB1 : Hid (Below w.heap.size w w1) := hb1
  clear hb1 hr
  go_wp2_with fail
  refine (hd.out _).mono ?_
  rintro e w2 ⟨rfl, hb2⟩
  have HB2 : Hid (Below w.heap.size w w2) := HB1.out.trans (hb2.mono HB1.out.size)
  clear hb2 hd HB1
  go_wp2_with fail
  refine (hnext.out w2).mono ?_
  rintro e w4 ⟨rfl, q7, q8, q9, q10, q11, q12, hz, hb4⟩
  have HB4 : Hid (Below w.heap.size w w4) := HB2.out.trans (hb4.mono HB2.out.size)
  clear hb4 HB2
  go_wp2
  go_ret
  exact ⟨rfl, ((HB4.out.alloc HB4.out.size _).alloc (by simp; have := HB4.out.size; omega) _)⟩

set_option maxRecDepth 10000 in
set_option maxHeartbeats 800000 in
theorem due_second (ad : Addr) (n c : Nat) (r d x s y t : Int) (w : World) (h0 : 0 ≤ x) (h1 : x ≤ 999999999) (h2 : 0 ≤ y) (h3 : y ≤ 999999999) (hrd : d ≤ r) (hlt : ltB x s y t = false)
    (hr : Hid (∀ W : World, Calls Yba.prog 7 #[.int .i64 r] W fun e w' => e = .returned (.agg #[.int .u64 x, .int .i64 s, .pointer none]) ∧ Below W.heap.size W w'))
    (hd : Hid (∀ W : World, Calls Yba.prog 7 #[.int .i64 d] W fun e w' => e = .returned (.agg #[.int .u64 y, .int .i64 t, .pointer none]) ∧ Below W.heap.size W w')) :
    Calls Yba.prog 4 #[.slice (some ad) n c, .int .i64 r, .int .i64 d] w fun e w' => e = .returned (.bool true) ∧ Below w.heap.size w w' := by
  have kc := fun wx => run_neq_slice_nil_any (P := Yba.prog) wx 55 5 (some ad) n c 0 0 Yba.underlying55
  have kp := loc_eq
  have hnext : Hid (∀ W : World, Calls Yba.prog 8 #[.pointer (some ⟨W.heap.size, 0, none⟩)] (W.alloc (req (.slice (some ad) n c) x s y t)) fun e w' => e = .returned (.agg #[.int .u64 y, .int .i64 t, .pointer none]) ∧ Told W x s y t w') := fun W => call_second W ad n c x s y t h0 h1 h2 h3 hlt
  clear hlt
  go_enter Yba.func4, Yba.ntmps4
  go_wp2_with fail
  refine (hr.out _).mono ?_
  rintro e w1 ⟨rfl, hb1⟩
  have HB1 : Hid (Below w.heap.size w w1) := hb1
  clear hb1 hr
  go_wp2_with fail
  refine (hd.out _).mono ?_
  rintro e w2 ⟨rfl, hb2⟩
  have HB2 : Hid (Below w.heap.size w w2) := HB1.out.trans (hb2.mono HB1.out.size)
  clear hb2 hd HB1
  go_wp2_with fail
  refine (hnext.out w2).mono ?_
  rintro e w4 ⟨rfl, q7, q8, q9, q10, q11, q12, hz, hb4⟩
  have HB4 : Hid (Below w.heap.size w w4) := HB2.out.trans (hb4.mono HB2.out.size)
  clear hb4 HB2
  go_wp2
  go_ret
  exact ⟨rfl, ((HB4.out.alloc HB4.out.size _).alloc (by simp; have := HB4.out.size; omega) _)⟩

theorem due_any (a : Option Addr) (n c : Nat) (r d : Int) (w : World) (ha : a = none → n = 0 ∧ c = 0) (hr : -9223372036854775808 ≤ r ∧ r ≤ 9223372036854775807) (hd : -9223372036854775808 ≤ d ∧ d ≤ 9223372036854775807) :
    Calls Yba.prog 4 #[.slice a n c, .int .i64 r, .int .i64 d] w fun e w' => e = .returned (.bool true) ∧ Below w.heap.size w w' := by
  have hl := ltB_of r d
  cases a with
  | none =>
    obtain ⟨rfl, rfl⟩ := ha rfl
    exact due_nil r d _ _ _ _ w (fun W => at_any r hr W) (fun W => at_any d hd W)
  | some ad =>
    by_cases h : r < d
    · exact due_first ad n c r d _ _ _ _ w (by omega) (by omega) (by omega) (by omega) h (by rw [hl]; simpa using h) (fun W => at_any r hr W) (fun W => at_any d hd W)
    · exact due_second ad n c r d _ _ _ _ w (by omega) (by omega) (by omega) (by omega) (by omega) (by rw [hl]; simpa using h) (fun W => at_any r hr W) (fun W => at_any d hd W)
end Go.Proofs.Ybulkele.Time
