import Derived.Test.YbulkeleCmp
import Derived.WalkKit
import Derived.WalkSpells
import Derived.WalkSmall
import Derived.Deep.QuietTactic
import Derived.BigQuiet
import Derived.Deep.RegionHeld
namespace Go.Proofs.Ybulkele.Time
open Go.RowKit

theorem three_below (w : World) (o1 o2 o3 : Obj) : Below w.heap.size w (((w.alloc o1).alloc o2).alloc o3).drew :=
  ((((Below.refl w.heap.size w).alloc (Nat.le_refl _) o1).alloc (by simp) o2).alloc (by simp; omega) o3).drew

theorem three_new (w : World) (R j : Nat) (hR : R < w.heap.size) (o1 o2 o3 : Obj) : (((w.alloc o1).alloc o2).alloc o3).drew.cell? ⟨R, j, none⟩ = w.cell? ⟨R, j, none⟩ :=
  ((((Below.refl w.heap.size w).alloc (Nat.le_refl _) o1).alloc (by simp) o2).alloc (by simp; omega) o3).drew.cell hR

set_option maxRecDepth 10000 in
set_option maxHeartbeats 800000 in
theorem next_nil (R : Nat) (y t : Int) (w : World) (hR : R < w.heap.size) (c5 : w.cell? ⟨R, 5, none⟩ = some (.slice none 0 0))
    (c10 : w.cell? ⟨R, 10, none⟩ = some (.int .u64 y)) (c11 : w.cell? ⟨R, 11, none⟩ = some (.int .i64 t)) (c12 : w.cell? ⟨R, 12, none⟩ = some (.pointer none)) :
    Calls Yba.prog 8 #[.pointer (some ⟨R, 0, none⟩)] w fun e w' => e = .returned (.agg #[.int .u64 y, .int .i64 t, .pointer none]) ∧ Below w.heap.size w w' := by
  have kc := fun wx => Lib.run_eql_slice_nil (P := Yba.prog) wx 55 5 none 0 0 0 0 Yba.underlying55
  go_enter Yba.func8, Yba.ntmps8
  go_wp2
  go_quiet (fail)
  go_wp2
  exact bodyPost_ret (v := .agg #[.int .u64 y, .int .i64 t, .pointer none]) (by simp [results, Yba.results8, go_sem]) rfl ⟨rfl, (((below_drewN ((Below.refl _ _).alloc (Nat.le_refl _) _) _).setCell (Nat.le_refl _) _).setCell (Nat.le_refl _) _).setCell (Nat.le_refl _) _⟩

set_option maxRecDepth 10000 in
set_option maxHeartbeats 800000 in
theorem next_first (R : Nat) (ad : Addr) (n c : Nat) (x s y t : Int) (w : World) (hR : R < w.heap.size) (h0 : 0 ≤ x) (h1 : x ≤ 999999999) (h2 : 0 ≤ y) (h3 : y ≤ 999999999) (hlt : ltB x s y t = true)
    (c5 : w.cell? ⟨R, 5, none⟩ = some (.slice (some ad) n c))
    (c7 : w.cell? ⟨R, 7, none⟩ = some (.int .u64 x)) (c8 : w.cell? ⟨R, 8, none⟩ = some (.int .i64 s)) (c9 : w.cell? ⟨R, 9, none⟩ = some (.pointer none))
    (c10 : w.cell? ⟨R, 10, none⟩ = some (.int .u64 y)) (c11 : w.cell? ⟨R, 11, none⟩ = some (.int .i64 t)) (c12 : w.cell? ⟨R, 12, none⟩ = some (.pointer none)) :
    Calls Yba.prog 8 #[.pointer (some ⟨R, 0, none⟩)] w fun e w' => e = .returned (.agg #[.int .u64 x, .int .i64 s, .pointer none]) ∧ Below w.heap.size w w' := by
  have kc := fun wx => Lib.run_eql_slice_nil (P := Yba.prog) wx 55 5 (some ad) n c 0 0 Yba.underlying55
  have hbf : Hid (∀ W : World, Calls Yba.prog 13 #[.agg #[.int .u64 x, .int .i64 s, .pointer none], .agg #[.int .u64 y, .int .i64 t, .pointer none]] W fun e w' =>
      e = .returned (.bool true) ∧ w' = (W.alloc (.cells #[.int .u64 x, .int .i64 s, .pointer none] 59)).alloc (.cells #[.int .u64 y, .int .i64 t, .pointer none] 59)) := fun W => by
    have := before_any x s y t W h0 h1 h2 h3
    rw [hlt] at this
    exact this
  clear hlt
  have k3 : ∀ (o1 o2 o3 : Obj) (j : Nat), (((w.alloc o1).alloc o2).alloc o3).drew.cell? ⟨R, j, none⟩ = w.cell? ⟨R, j, none⟩ := fun o1 o2 o3 j => three_new w R j hR o1 o2 o3
  have hR1 : R < w.heap.size + 1 := by omega
  go_enter Yba.func8, Yba.ntmps8
  go_wp2
  go_region_held (fun w' => w'.cell? ⟨R, 5, none⟩ = some (.slice (some ad) n c) ∧ w'.cell? ⟨R, 7, none⟩ = some (.int .u64 x) ∧ w'.cell? ⟨R, 8, none⟩ = some (.int .i64 s) ∧ w'.cell? ⟨R, 9, none⟩ = some (.pointer none) ∧
      w'.cell? ⟨R, 10, none⟩ = some (.int .u64 y) ∧ w'.cell? ⟨R, 11, none⟩ = some (.int .i64 t) ∧ w'.cell? ⟨R, 12, none⟩ = some (.pointer none)) (go_keep)
    ((go_at_call 13; refine (hbf.out _).mono ?_; rintro e w' ⟨rfl, rfl⟩))
  go_wp2
  exact bodyPost_ret (v := .agg #[.int .u64 x, .int .i64 s, .pointer none]) (by simp [results, Yba.results8, go_sem]) rfl ⟨rfl, three_below w _ _ _⟩

set_option maxRecDepth 10000 in
set_option maxHeartbeats 800000 in
theorem next_second (R : Nat) (ad : Addr) (n c : Nat) (x s y t : Int) (w : World) (hR : R < w.heap.size) (h0 : 0 ≤ x) (h1 : x ≤ 999999999) (h2 : 0 ≤ y) (h3 : y ≤ 999999999) (hlt : ltB x s y t = false)
    (c5 : w.cell? ⟨R, 5, none⟩ = some (.slice (some ad) n c))
    (c7 : w.cell? ⟨R, 7, none⟩ = some (.int .u64 x)) (c8 : w.cell? ⟨R, 8, none⟩ = some (.int .i64 s)) (c9 : w.cell? ⟨R, 9, none⟩ = some (.pointer none))
    (c10 : w.cell? ⟨R, 10, none⟩ = some (.int .u64 y)) (c11 : w.cell? ⟨R, 11, none⟩ = some (.int .i64 t)) (c12 : w.cell? ⟨R, 12, none⟩ = some (.pointer none)) :
    Calls Yba.prog 8 #[.pointer (some ⟨R, 0, none⟩)] w fun e w' => e = .returned (.agg #[.int .u64 y, .int .i64 t, .pointer none]) ∧ Below w.heap.size w w' := by
  have kc := fun wx => Lib.run_eql_slice_nil (P := Yba.prog) wx 55 5 (some ad) n c 0 0 Yba.underlying55
  have hbf : Hid (∀ W : World, Calls Yba.prog 13 #[.agg #[.int .u64 x, .int .i64 s, .pointer none], .agg #[.int .u64 y, .int .i64 t, .pointer none]] W fun e w' =>
      e = .returned (.bool false) ∧ w' = (W.alloc (.cells #[.int .u64 x, .int .i64 s, .pointer none] 59)).alloc (.cells #[.int .u64 y, .int .i64 t, .pointer none] 59)) := fun W => by
    have := before_any x s y t W h0 h1 h2 h3
    rw [hlt] at this
    exact this
  clear hlt
  have k3 : ∀ (o1 o2 o3 : Obj) (j : Nat), (((w.alloc o1).alloc o2).alloc o3).drew.cell? ⟨R, j, none⟩ = w.cell? ⟨R, j, none⟩ := fun o1 o2 o3 j => three_new w R j hR o1 o2 o3
  have hR1 : R < w.heap.size + 1 := by omega
  go_enter Yba.func8, Yba.ntmps8
  go_wp2
  go_region_held (fun w' => w'.cell? ⟨R, 5, none⟩ = some (.slice (some ad) n c) ∧ w'.cell? ⟨R, 7, none⟩ = some (.int .u64 x) ∧ w'.cell? ⟨R, 8, none⟩ = some (.int .i64 s) ∧ w'.cell? ⟨R, 9, none⟩ = some (.pointer none) ∧
      w'.cell? ⟨R, 10, none⟩ = some (.int .u64 y) ∧ w'.cell? ⟨R, 11, none⟩ = some (.int .i64 t) ∧ w'.cell? ⟨R, 12, none⟩ = some (.pointer none)) (go_keep)
    ((go_at_call 13; refine (hbf.out _).mono ?_; rintro e w' ⟨rfl, rfl⟩))
  go_wp2
  exact bodyPost_ret (v := .agg #[.int .u64 y, .int .i64 t, .pointer none]) (by simp [results, Yba.results8, go_sem]) rfl ⟨rfl, three_below w _ _ _⟩
end Go.Proofs.Ybulkele.Time
