import Derived.Test.YbulkeleReq
import Derived.WalkKit
import Derived.WalkSpells
import Derived.WalkSmall
import Derived.Deep.QuietTactic
import Derived.BigQuiet
import Derived.Deep.RegionHeld
namespace Go.Proofs.Ybulkele.Time
open Go.RowKit

theorem eqB_of (r d : Int) : eqB (r % 1000000000) (r / 1000000000) (d % 1000000000) (d / 1000000000) = decide (r = d) := by
  unfold eqB
  rw [decide_eq_decide]
  omega

theorem two_new (w : World) (R : Nat) (hR : R < w.heap.size) : ∀ (o1 o2 : Obj) (j : Nat), ((w.alloc o1).alloc o2).drew.cell? ⟨R, j, none⟩ = w.cell? ⟨R, j, none⟩ :=
  fun o1 o2 j => (((Below.refl w.heap.size w).alloc (Nat.le_refl _) o1).alloc (by simp) o2).drew.cell (p := ⟨R, j, none⟩) hR

theorem two_below (w : World) (o1 o2 : Obj) : Below w.heap.size w ((w.alloc o1).alloc o2).drew :=
  (((Below.refl w.heap.size w).alloc (Nat.le_refl _) o1).alloc (by simp) o2).drew

/-- What the law holds behind 'got := r.next()': the request's two times at block R, the answer at block g. -/
def Held (R g : Nat) (x s y t u v : Int) (w : World) : Prop :=
  (w.cell? ⟨R, 7, none⟩ = some (.int .u64 x) ∧ w.cell? ⟨R, 8, none⟩ = some (.int .i64 s) ∧ w.cell? ⟨R, 9, none⟩ = some (.pointer none) ∧
  w.cell? ⟨R, 10, none⟩ = some (.int .u64 y) ∧ w.cell? ⟨R, 11, none⟩ = some (.int .i64 t) ∧ w.cell? ⟨R, 12, none⟩ = some (.pointer none)) ∧
  (w.cell? ⟨g, 0, none⟩ = some (.int .u64 u) ∧ w.cell? ⟨g, 1, none⟩ = some (.int .i64 v) ∧ w.cell? ⟨g, 2, none⟩ = some (.pointer none)) ∧ R < w.heap.size ∧ g < w.heap.size

theorem held_first {W w4 : World} {x s y t u v : Int} (h : Told W x s y t w4) : Held W.heap.size w4.heap.size x s y t u v (w4.alloc (.cells #[.int .u64 u, .int .i64 v, .pointer none] 59)) := by
  obtain ⟨q7, q8, q9, q10, q11, q12, hz, _⟩ := h
  have hc : ∀ j, (w4.alloc (.cells #[.int .u64 u, .int .i64 v, .pointer none] 59)).cell? ⟨W.heap.size, j, none⟩ = w4.cell? ⟨W.heap.size, j, none⟩ := fun j =>
    ((Below.refl w4.heap.size w4).alloc (Nat.le_refl _) _).cell (p := ⟨W.heap.size, j, none⟩) hz
  refine ⟨⟨(hc 7).trans q7, (hc 8).trans q8, (hc 9).trans q9, (hc 10).trans q10, (hc 11).trans q11, (hc 12).trans q12⟩, ⟨?_, ?_, ?_⟩, ?_, ?_⟩ <;> simp
  omega

theorem held_two {R g : Nat} {x s y t u v : Int} {w : World} (h : Held R g x s y t u v w) (o1 o2 : Obj) : Held R g x s y t u v ((w.alloc o1).alloc o2).drew := by
  obtain ⟨⟨q7, q8, q9, q10, q11, q12⟩, ⟨p0, p1, p2⟩, hR, hg⟩ := h
  have kR := two_new w R hR o1 o2
  have kg := two_new w g hg o1 o2
  have hs := (two_below w o1 o2).size
  exact ⟨⟨(kR 7).trans q7, (kR 8).trans q8, (kR 9).trans q9, (kR 10).trans q10, (kR 11).trans q11, (kR 12).trans q12⟩, ⟨(kg 0).trans p0, (kg 1).trans p1, (kg 2).trans p2⟩, Nat.lt_of_lt_of_le hR hs, Nat.lt_of_lt_of_le hg hs⟩

theorem four_new (w : World) (R : Nat) (hR : R < w.heap.size) : ∀ (o1 o2 o3 o4 : Obj) (j : Nat), ((((w.alloc o1).alloc o2).alloc o3).alloc o4).drew.cell? ⟨R, j, none⟩ = w.cell? ⟨R, j, none⟩ :=
  fun o1 o2 o3 o4 j => (((((Below.refl w.heap.size w).alloc (Nat.le_refl _) o1).alloc (by simp) o2).alloc (by simp; omega) o3).alloc (by simp; omega) o4).drew.cell (p := ⟨R, j, none⟩) hR

theorem four_below (w : World) (o1 o2 o3 o4 : Obj) : Below w.heap.size w ((((w.alloc o1).alloc o2).alloc o3).alloc o4).drew :=
  (((((Below.refl w.heap.size w).alloc (Nat.le_refl _) o1).alloc (by simp) o2).alloc (by simp; omega) o3).alloc (by simp; omega) o4).drew

set_option maxRecDepth 10000 in
set_option maxHeartbeats 800000 in
theorem later_nil (r d x s y t : Int) (w : World)
    (hr : Hid (∀ W : World, Calls Yba.prog 7 #[.int .i64 r] W fun e w' => e = .returned (.agg #[.int .u64 x, .int .i64 s, .pointer none]) ∧ Below W.heap.size W w'))
    (hd : Hid (∀ W : World, Calls Yba.prog 7 #[.int .i64 d] W fun e w' => e = .returned (.agg #[.int .u64 y, .int .i64 t, .pointer none]) ∧ Below W.heap.size W w'))
    (ha : Hid (∀ W : World, Calls Yba.prog 9 #[.agg #[.int .u64 y, .int .i64 t, .pointer none], .agg #[.int .u64 y, .int .i64 t, .pointer none]] W fun e w' =>
      e = .returned (.bool false) ∧ w' = (W.alloc (.cells #[.int .u64 y, .int .i64 t, .pointer none] 59)).alloc (.cells #[.int .u64 y, .int .i64 t, .pointer none] 59)))
    (he : Hid (∀ W : World, Calls Yba.prog 10 #[.agg #[.int .u64 y, .int .i64 t, .pointer none], .agg #[.int .u64 y, .int .i64 t, .pointer none]] W fun e w' =>
      e = .returned (.bool true) ∧ w' = (W.alloc (.cells #[.int .u64 y, .int .i64 t, .pointer none] 59)).alloc (.cells #[.int .u64 y, .int .i64 t, .pointer none] 59))) :
    Calls Yba.prog 5 #[.bool false, .int .i64 r, .int .i64 d] w fun e w' => e = .returned (.bool true) ∧ Below w.heap.size w w' := by
  go_enter Yba.func5, Yba.ntmps5
  go_wp2_with fail
  refine (hr.out _).mono ?_
  rintro e w1 ⟨rfl, hb1⟩
  have HB1 : Hid (Below w.heap.size w w1) := hb1
  clear hb1 hr
  go_wp2_with fail
  refine (hd.out _).mono ?_
  rintro e w2 ⟨rfl, hb2⟩
  have HB2 : Hid (Below w.heap.size w w2) := HB1.out.trans (hb2.mono HB1.out.size)
  clear hb2 hd HB1
  go_wp2_with fail
  refine (call_nil w2 x s y t).mono ?_
  rintro e w4 ⟨rfl, htold⟩
  have HH : Hid (Held w2.heap.size w4.heap.size x s y t y t (w4.alloc (.cells #[.int .u64 y, .int .i64 t, .pointer none] 59))) := held_first htold
  have HB4 : Hid (Below w.heap.size w (w4.alloc (.cells #[.int .u64 y, .int .i64 t, .pointer none] 59))) := (HB2.out.trans (htold.2.2.2.2.2.2.2.mono HB2.out.size)).alloc (Nat.le_trans HB2.out.size htold.2.2.2.2.2.2.2.size) _
  clear htold HB2
  go_wp2_with fail
  generalize w4.alloc (.cells #[.int .u64 y, .int .i64 t, .pointer none] 59) = w5 at *
  generalize w4.heap.size = g at *
  generalize w2.heap.size = R at *
  clear w1 w2 w4
  obtain ⟨⟨q7, q8, q9, q10, q11, q12⟩, ⟨p0, p1, p2⟩, hR, hg⟩ := HH.out
  have kR := two_new w5 R hR
  have kg := two_new w5 g hg
  go_region_held (fun w' => (w'.cell? ⟨R, 10, none⟩ = some (.int .u64 y) ∧ w'.cell? ⟨R, 11, none⟩ = some (.int .i64 t) ∧ w'.cell? ⟨R, 12, none⟩ = some (.pointer none)) ∧
      (w'.cell? ⟨g, 0, none⟩ = some (.int .u64 y) ∧ w'.cell? ⟨g, 1, none⟩ = some (.int .i64 t) ∧ w'.cell? ⟨g, 2, none⟩ = some (.pointer none))) (go_keep)
    ((go_at_call 9; refine (ha.out _).mono ?_; rintro e w' ⟨rfl, rfl⟩))
  go_wp2_with fail
  clear kR kg q7 q8 q9 q10 q11 q12 p0 p1 p2 hR hg
  have HH6 : Hid (Held R g x s y t y t ((w5.alloc (.cells #[.int .u64 y, .int .i64 t, .pointer none] 59)).alloc (.cells #[.int .u64 y, .int .i64 t, .pointer none] 59)).drew) := held_two HH.out _ _
  have HB6 : Hid (Below w.heap.size w ((w5.alloc (.cells #[.int .u64 y, .int .i64 t, .pointer none] 59)).alloc (.cells #[.int .u64 y, .int .i64 t, .pointer none] 59)).drew) := HB4.out.trans ((two_below _ _ _).mono HB4.out.size)
  clear HH HB4
  generalize ((w5.alloc (.cells #[.int .u64 y, .int .i64 t, .pointer none] 59)).alloc (.cells #[.int .u64 y, .int .i64 t, .pointer none] 59)).drew = w6 at *
  clear w5
  go_quiet (fail)
  go_wp2_with fail
  have HH7 : Hid (Held R g x s y t y t (w6.drewN nq)) := HH6.out
  have HB7 : Hid (Below w.heap.size w (w6.drewN nq)) := below_drewN HB6.out _
  clear HH6 HB6
  generalize w6.drewN nq = w7 at *
  obtain ⟨⟨q7, q8, q9, q10, q11, q12⟩, ⟨p0, p1, p2⟩, hR, hg⟩ := HH7.out
  have kR := two_new w7 R hR
  have kg := two_new w7 g hg
  have hu : undef = .tuple #[] := rfl
  first | go_region_with ((go_at_call 10; refine (he.out _).mono ?_; rintro e w' ⟨rfl, rfl⟩)) | fail
  all_goals go_wp2
  all_goals (go_ret; exact ⟨rfl, HB7.out.trans ((two_below _ _ _).mono HB7.out.size)⟩)

set_option maxRecDepth 10000 in
set_option maxHeartbeats 1600000 in
theorem later_first (r d x s y t : Int) (w : World)
    (hr : Hid (∀ W : World, Calls Yba.prog 7 #[.int .i64 r] W fun e w' => e = .returned (.agg #[.int .u64 x, .int .i64 s, .pointer none]) ∧ Below W.heap.size W w'))
    (hd : Hid (∀ W : World, Calls Yba.prog 7 #[.int .i64 d] W fun e w' => e = .returned (.agg #[.int .u64 y, .int .i64 t, .pointer none]) ∧ Below W.heap.size W w'))
    (hn : Hid (∀ (W : World) (ad : Addr) (n c : Nat), Calls Yba.prog 8 #[.pointer (some ⟨W.heap.size, 0, none⟩)] (W.alloc (req (.slice (some ad) n c) x s y t)) fun e w' => e = .returned (.agg #[.int .u64 x, .int .i64 s, .pointer none]) ∧ Told W x s y t w'))
    (ha1 : Hid (∀ W : World, Calls Yba.prog 9 #[.agg #[.int .u64 x, .int .i64 s, .pointer none], .agg #[.int .u64 y, .int .i64 t, .pointer none]] W fun e w' =>
      e = .returned (.bool false) ∧ w' = (W.alloc (.cells #[.int .u64 x, .int .i64 s, .pointer none] 59)).alloc (.cells #[.int .u64 y, .int .i64 t, .pointer none] 59)))
    (ha2 : Hid (∀ W : World, Calls Yba.prog 9 #[.agg #[.int .u64 x, .int .i64 s, .pointer none], .agg #[.int .u64 x, .int .i64 s, .pointer none]] W fun e w' =>
      e = .returned (.bool false) ∧ w' = (W.alloc (.cells #[.int .u64 x, .int .i64 s, .pointer none] 59)).alloc (.cells #[.int .u64 x, .int .i64 s, .pointer none] 59)))
    (he1 : Hid (∀ W : World, Calls Yba.prog 10 #[.agg #[.int .u64 x, .int .i64 s, .pointer none], .agg #[.int .u64 y, .int .i64 t, .pointer none]] W fun e w' =>
      e = .returned (.bool false) ∧ w' = (W.alloc (.cells #[.int .u64 x, .int .i64 s, .pointer none] 59)).alloc (.cells #[.int .u64 y, .int .i64 t, .pointer none] 59)))
    (he2 : Hid (∀ W : World, Calls Yba.prog 10 #[.agg #[.int .u64 x, .int .i64 s, .pointer none], .agg #[.int .u64 x, .int .i64 s, .pointer none]] W fun e w' =>
      e = .returned (.bool true) ∧ w' = (W.alloc (.cells #[.int .u64 x, .int .i64 s, .pointer none] 59)).alloc (.cells #[.int .u64 x, .int .i64 s, .pointer none] 59))) :
    Calls Yba.prog 5 #[.bool true, .int .i64 r, .int .i64 d] w fun e w' => e = .returned (.bool true) ∧ Below w.heap.size w w' := by
  go_enter Yba.func5, Yba.ntmps5
  go_wp2_with fail
  refine (hr.out _).mono ?_
  rintro e w1 ⟨rfl, hb1⟩
  have HB1 : Hid (Below w.heap.size w w1) := ((Below.refl _ w).alloc (Nat.le_refl _) _).trans (hb1.mono (by simp))
  clear hb1 hr
  go_wp2_with fail
  refine (hd.out _).mono ?_
  rintro e w2 ⟨rfl, hb2⟩
  have HB2 : Hid (Below w.heap.size w w2) := HB1.out.trans (hb2.mono HB1.out.size)
  clear hb2 hd HB1
  go_wp2_with fail
  refine (hn.out w2 _ _ _).mono ?_
  rintro e w4 ⟨rfl, htold⟩
  have HH : Hid (Held w2.heap.size w4.heap.size x s y t x s (w4.alloc (.cells #[.int .u64 x, .int .i64 s, .pointer none] 59))) := held_first htold
  have HB4 : Hid (Below w.heap.size w (w4.alloc (.cells #[.int .u64 x, .int .i64 s, .pointer none] 59))) := (HB2.out.trans (htold.2.2.2.2.2.2.2.mono HB2.out.size)).alloc (Nat.le_trans HB2.out.size htold.2.2.2.2.2.2.2.size) _
  clear htold HB2 hn
  go_wp2_with fail
  generalize w4.alloc (.cells #[.int .u64 x, .int .i64 s, .pointer none] 59) = w5 at *
  generalize w4.heap.size = g at *
  generalize w2.heap.size = R at *
  clear w1 w2 w4
  obtain ⟨⟨q7, q8, q9, q10, q11, q12⟩, ⟨p0, p1, p2⟩, hR, hg⟩ := HH.out
  have kR := two_new w5 R hR
  have kg := two_new w5 g hg
  go_region_held (fun w' => (w'.cell? ⟨R, 10, none⟩ = some (.int .u64 y) ∧ w'.cell? ⟨R, 11, none⟩ = some (.int .i64 t) ∧ w'.cell? ⟨R, 12, none⟩ = some (.pointer none)) ∧ (w'.cell? ⟨g, 0, none⟩ = some (.int .u64 x) ∧ w'.cell? ⟨g, 1, none⟩ = some (.int .i64 s) ∧ w'.cell? ⟨g, 2, none⟩ = some (.pointer none))) (go_keep)
    ((go_at_call 9; refine (ha1.out _).mono ?_; rintro e w' ⟨rfl, rfl⟩))
  go_wp2_with fail
  clear kR kg q7 q8 q9 q10 q11 q12 p0 p1 p2 hR hg ha1
  have HH6 : Hid (Held R g x s y t x s ((w5.alloc (.cells #[.int .u64 x, .int .i64 s, .pointer none] 59)).alloc (.cells #[.int .u64 y, .int .i64 t, .pointer none] 59)).drew) := held_two HH.out _ _
  have HB6 : Hid (Below w.heap.size w ((w5.alloc (.cells #[.int .u64 x, .int .i64 s, .pointer none] 59)).alloc (.cells #[.int .u64 y, .int .i64 t, .pointer none] 59)).drew) := HB4.out.trans ((two_below _ _ _).mono HB4.out.size)
  clear HH HB4
  generalize ((w5.alloc (.cells #[.int .u64 x, .int .i64 s, .pointer none] 59)).alloc (.cells #[.int .u64 y, .int .i64 t, .pointer none] 59)).drew = w6 at *
  clear w5
  obtain ⟨⟨q7, q8, q9, q10, q11, q12⟩, ⟨p0, p1, p2⟩, hR, hg⟩ := HH6.out
  have kR := two_new w6 R hR
  have kg := two_new w6 g hg
  go_region_held (fun w' => (w'.cell? ⟨R, 7, none⟩ = some (.int .u64 x) ∧ w'.cell? ⟨R, 8, none⟩ = some (.int .i64 s) ∧ w'.cell? ⟨R, 9, none⟩ = some (.pointer none)) ∧ (w'.cell? ⟨g, 0, none⟩ = some (.int .u64 x) ∧ w'.cell? ⟨g, 1, none⟩ = some (.int .i64 s) ∧ w'.cell? ⟨g, 2, none⟩ = some (.pointer none))) (go_keep)
    ((go_at_call 9; refine (ha2.out _).mono ?_; rintro e w' ⟨rfl, rfl⟩))
  go_wp2_with fail
  clear kR kg q7 q8 q9 q10 q11 q12 p0 p1 p2 hR hg ha2
  have HH7 : Hid (Held R g x s y t x s ((w6.alloc (.cells #[.int .u64 x, .int .i64 s, .pointer none] 59)).alloc (.cells #[.int .u64 x, .int .i64 s, .pointer none] 59)).drew) := held_two HH6.out _ _
  have HB7 : Hid (Below w.heap.size w ((w6.alloc (.cells #[.int .u64 x, .int .i64 s, .pointer none] 59)).alloc (.cells #[.int .u64 x, .int .i64 s, .pointer none] 59)).drew) := HB6.out.trans ((two_below _ _ _).mono HB6.out.size)
  clear HH6 HB6
  generalize ((w6.alloc (.cells #[.int .u64 x, .int .i64 s, .pointer none] 59)).alloc (.cells #[.int .u64 x, .int .i64 s, .pointer none] 59)).drew = w7 at *
  clear w6
  obtain ⟨⟨q7, q8, q9, q10, q11, q12⟩, ⟨p0, p1, p2⟩, hR, hg⟩ := HH7.out
  have kR := two_new w7 R hR
  have kg := two_new w7 g hg
  have kR4 := four_new w7 R hR
  have kg4 := four_new w7 g hg
  go_region_held (fun w' => (w'.cell? ⟨R, 7, none⟩ = some (.int .u64 x) ∧ w'.cell? ⟨R, 8, none⟩ = some (.int .i64 s) ∧ w'.cell? ⟨R, 9, none⟩ = some (.pointer none)) ∧ (w'.cell? ⟨R, 10, none⟩ = some (.int .u64 y) ∧ w'.cell? ⟨R, 11, none⟩ = some (.int .i64 t) ∧ w'.cell? ⟨R, 12, none⟩ = some (.pointer none)) ∧ (w'.cell? ⟨g, 0, none⟩ = some (.int .u64 x) ∧ w'.cell? ⟨g, 1, none⟩ = some (.int .i64 s) ∧ w'.cell? ⟨g, 2, none⟩ = some (.pointer none))) (go_keep)
    ((first | (go_at_call_of 10 y; refine (he1.out _).mono ?_; rintro e w' ⟨rfl, rfl⟩) | (go_at_call 10; refine (he2.out _).mono ?_; rintro e w' ⟨rfl, rfl⟩)))
  go_wp2
  go_ret
  exact ⟨rfl, HB7.out.trans ((four_below _ _ _ _ _).mono HB7.out.size)⟩

set_option maxRecDepth 10000 in
set_option maxHeartbeats 1600000 in
theorem later_second (r d x s y t : Int) (w : World)
    (hr : Hid (∀ W : World, Calls Yba.prog 7 #[.int .i64 r] W fun e w' => e = .returned (.agg #[.int .u64 x, .int .i64 s, .pointer none]) ∧ Below W.heap.size W w'))
    (hd : Hid (∀ W : World, Calls Yba.prog 7 #[.int .i64 d] W fun e w' => e = .returned (.agg #[.int .u64 y, .int .i64 t, .pointer none]) ∧ Below W.heap.size W w'))
    (hn : Hid (∀ (W : World) (ad : Addr) (n c : Nat), Calls Yba.prog 8 #[.pointer (some ⟨W.heap.size, 0, none⟩)] (W.alloc (req (.slice (some ad) n c) x s y t)) fun e w' => e = .returned (.agg #[.int .u64 y, .int .i64 t, .pointer none]) ∧ Told W x s y t w'))
    (ha1 : Hid (∀ W : World, Calls Yba.prog 9 #[.agg #[.int .u64 y, .int .i64 t, .pointer none], .agg #[.int .u64 y, .int .i64 t, .pointer none]] W fun e w' =>
      e = .returned (.bool false) ∧ w' = (W.alloc (.cells #[.int .u64 y, .int .i64 t, .pointer none] 59)).alloc (.cells #[.int .u64 y, .int .i64 t, .pointer none] 59)))
    (ha2 : Hid (∀ W : World, Calls Yba.prog 9 #[.agg #[.int .u64 y, .int .i64 t, .pointer none], .agg #[.int .u64 x, .int .i64 s, .pointer none]] W fun e w' =>
      e = .returned (.bool false) ∧ w' = (W.alloc (.cells #[.int .u64 y, .int .i64 t, .pointer none] 59)).alloc (.cells #[.int .u64 x, .int .i64 s, .pointer none] 59)))
    (he1 : Hid (∀ W : World, Calls Yba.prog 10 #[.agg #[.int .u64 y, .int .i64 t, .pointer none], .agg #[.int .u64 y, .int .i64 t, .pointer none]] W fun e w' =>
      e = .returned (.bool true) ∧ w' = (W.alloc (.cells #[.int .u64 y, .int .i64 t, .pointer none] 59)).alloc (.cells #[.int .u64 y, .int .i64 t, .pointer none] 59))) :
    Calls Yba.prog 5 #[.bool true, .int .i64 r, .int .i64 d] w fun e w' => e = .returned (.bool true) ∧ Below w.heap.size w w' := by
  go_enter Yba.func5, Yba.ntmps5
  go_wp2_with fail
  refine (hr.out _).mono ?_
  rintro e w1 ⟨rfl, hb1⟩
  have HB1 : Hid (Below w.heap.size w w1) := ((Below.refl _ w).alloc (Nat.le_refl _) _).trans (hb1.mono (by simp))
  clear hb1 hr
  go_wp2_with fail
  refine (hd.out _).mono ?_
  rintro e w2 ⟨rfl, hb2⟩
  have HB2 : Hid (Below w.heap.size w w2) := HB1.out.trans (hb2.mono HB1.out.size)
  clear hb2 hd HB1
  go_wp2_with fail
  refine (hn.out w2 _ _ _).mono ?_
  rintro e w4 ⟨rfl, htold⟩
  have HH : Hid (Held w2.heap.size w4.heap.size x s y t y t (w4.alloc (.cells #[.int .u64 y, .int .i64 t, .pointer none] 59))) := held_first htold
  have HB4 : Hid (Below w.heap.size w (w4.alloc (.cells #[.int .u64 y, .int .i64 t, .pointer none] 59))) := (HB2.out.trans (htold.2.2.2.2.2.2.2.mono HB2.out.size)).alloc (Nat.le_trans HB2.out.size htold.2.2.2.2.2.2.2.size) _
  clear htold HB2 hn
  go_wp2_with fail
  generalize w4.alloc (.cells #[.int .u64 y, .int .i64 t, .pointer none] 59) = w5 at *
  generalize w4.heap.size = g at *
  generalize w2.heap.size = R at *
  clear w1 w2 w4
  obtain ⟨⟨q7, q8, q9, q10, q11, q12⟩, ⟨p0, p1, p2⟩, hR, hg⟩ := HH.out
  have kR := two_new w5 R hR
  have kg := two_new w5 g hg
  go_region_held (fun w' => (w'.cell? ⟨R, 10, none⟩ = some (.int .u64 y) ∧ w'.cell? ⟨R, 11, none⟩ = some (.int .i64 t) ∧ w'.cell? ⟨R, 12, none⟩ = some (.pointer none)) ∧ (w'.cell? ⟨g, 0, none⟩ = some (.int .u64 y) ∧ w'.cell? ⟨g, 1, none⟩ = some (.int .i64 t) ∧ w'.cell? ⟨g, 2, none⟩ = some (.pointer none))) (go_keep)
    ((go_at_call 9; refine (ha1.out _).mono ?_; rintro e w' ⟨rfl, rfl⟩))
  go_wp2_with fail
  clear kR kg q7 q8 q9 q10 q11 q12 p0 p1 p2 hR hg ha1
  have HH6 : Hid (Held R g x s y t y t ((w5.alloc (.cells #[.int .u64 y, .int .i64 t, .pointer none] 59)).alloc (.cells #[.int .u64 y, .int .i64 t, .pointer none] 59)).drew) := held_two HH.out _ _
  have HB6 : Hid (Below w.heap.size w ((w5.alloc (.cells #[.int .u64 y, .int .i64 t, .pointer none] 59)).alloc (.cells #[.int .u64 y, .int .i64 t, .pointer none] 59)).drew) := HB4.out.trans ((two_below _ _ _).mono HB4.out.size)
  clear HH HB4
  generalize ((w5.alloc (.cells #[.int .u64 y, .int .i64 t, .pointer none] 59)).alloc (.cells #[.int .u64 y, .int .i64 t, .pointer none] 59)).drew = w6 at *
  clear w5
  obtain ⟨⟨q7, q8, q9, q10, q11, q12⟩, ⟨p0, p1, p2⟩, hR, hg⟩ := HH6.out
  have kR := two_new w6 R hR
  have kg := two_new w6 g hg
  go_region_held (fun w' => (w'.cell? ⟨R, 7, none⟩ = some (.int .u64 x) ∧ w'.cell? ⟨R, 8, none⟩ = some (.int .i64 s) ∧ w'.cell? ⟨R, 9, none⟩ = some (.pointer none)) ∧ (w'.cell? ⟨g, 0, none⟩ = some (.int .u64 y) ∧ w'.cell? ⟨g, 1, none⟩ = some (.int .i64 t) ∧ w'.cell? ⟨g, 2, none⟩ = some (.pointer none))) (go_keep)
    ((go_at_call 9; refine (ha2.out _).mono ?_; rintro e w' ⟨rfl, rfl⟩))
  go_wp2_with fail
  clear kR kg q7 q8 q9 q10 q11 q12 p0 p1 p2 hR hg ha2
  have HH7 : Hid (Held R g x s y t y t ((w6.alloc (.cells #[.int .u64 y, .int .i64 t, .pointer none] 59)).alloc (.cells #[.int .u64 x, .int .i64 s, .pointer none] 59)).drew) := held_two HH6.out _ _
  have HB7 : Hid (Below w.heap.size w ((w6.alloc (.cells #[.int .u64 y, .int .i64 t, .pointer none] 59)).alloc (.cells #[.int .u64 x, .int .i64 s, .pointer none] 59)).drew) := HB6.out.trans ((two_below _ _ _).mono HB6.out.size)
  clear HH6 HB6
  generalize ((w6.alloc (.cells #[.int .u64 y, .int .i64 t, .pointer none] 59)).alloc (.cells #[.int .u64 x, .int .i64 s, .pointer none] 59)).drew = w7 at *
  clear w6
  obtain ⟨⟨q7, q8, q9, q10, q11, q12⟩, ⟨p0, p1, p2⟩, hR, hg⟩ := HH7.out
  have kR := two_new w7 R hR
  have kg := two_new w7 g hg
  have hu : undef = .tuple #[] := rfl
  first | go_region_with ((go_at_call 10; refine (he1.out _).mono ?_; rintro e w' ⟨rfl, rfl⟩)) | fail
  all_goals go_wp2
  all_goals (go_ret; exact ⟨rfl, HB7.out.trans ((two_below _ _ _).mono HB7.out.size)⟩)
end Go.Proofs.Ybulkele.Time
