import Derived.Test.YbulkeleNext
import Derived.WalkKit
import Derived.WalkSpells
import Derived.WalkSmall
namespace Go.Proofs.Ybulkele.Time
open Go.RowKit

/-- The order of the two times is that of the two numbers. -/
theorem ltB_of (r d : Int) : ltB (r % 1000000000) (r / 1000000000) (d % 1000000000) (d / 1000000000) = decide (r < d) := by
  unfold ltB
  rw [decide_eq_decide]
  omega

/-- The block of the request that the laws build. -/
def req (v5 : Value) (x s y t : Int) : Obj :=
  .cells #[.string ⟨#[]⟩, .int .u8 0, .nilFunc, .nilFunc, .pointer none, v5, .bool false, .int .u64 x, .int .i64 s, .pointer none,
    .int .u64 y, .int .i64 t, .pointer none, .int .i64 0, .int .u64 0, .int .i64 0, .pointer none] 66

/-- What is known behind the call of 'next': its answer, the request's two times, that nothing old has turned. -/
def Told (W : World) (x s y t : Int) (w' : World) : Prop :=
  w'.cell? ⟨W.heap.size, 7, none⟩ = some (.int .u64 x) ∧ w'.cell? ⟨W.heap.size, 8, none⟩ = some (.int .i64 s) ∧ w'.cell? ⟨W.heap.size, 9, none⟩ = some (.pointer none) ∧
  w'.cell? ⟨W.heap.size, 10, none⟩ = some (.int .u64 y) ∧ w'.cell? ⟨W.heap.size, 11, none⟩ = some (.int .i64 t) ∧ w'.cell? ⟨W.heap.size, 12, none⟩ = some (.pointer none) ∧
  W.heap.size < w'.heap.size ∧ Below W.heap.size W w'

theorem told_of {W w' : World} {v5 : Value} {x s y t : Int} (h : Below (W.alloc (req v5 x s y t)).heap.size (W.alloc (req v5 x s y t)) w') : Told W x s y t w' := by
  have hs : (W.alloc (req v5 x s y t)).heap.size = W.heap.size + 1 := by simp
  have hsz := h.size
  rw [hs] at h hsz
  have hc : ∀ j v, (W.alloc (req v5 x s y t)).cell? ⟨W.heap.size, j, none⟩ = some v → w'.cell? ⟨W.heap.size, j, none⟩ = some v := fun j v e =>
    (h.cell (p := ⟨W.heap.size, j, none⟩) (by simp)).trans e
  refine ⟨hc 7 _ ?_, hc 8 _ ?_, hc 9 _ ?_, hc 10 _ ?_, hc 11 _ ?_, hc 12 _ ?_, by omega, ((Below.refl _ W).alloc (Nat.le_refl _) (req v5 x s y t)).trans (h.mono (by omega))⟩ <;> simp [req]

theorem call_nil (W : World) (x s y t : Int) : Calls Yba.prog 8 #[.pointer (some ⟨W.heap.size, 0, none⟩)] (W.alloc (req (.slice none 0 0) x s y t)) fun e w' =>
    e = .returned (.agg #[.int .u64 y, .int .i64 t, .pointer none]) ∧ Told W x s y t w' :=
  (next_nil W.heap.size y t _ (by simp) (by simp [req]) (by simp [req]) (by simp [req]) (by simp [req])).mono fun _ _ ⟨he, hb⟩ => ⟨he, told_of hb⟩

theorem call_first (W : World) (ad : Addr) (n c : Nat) (x s y t : Int) (h0 : 0 ≤ x) (h1 : x ≤ 999999999) (h2 : 0 ≤ y) (h3 : y ≤ 999999999) (hlt : ltB x s y t = true) :
    Calls Yba.prog 8 #[.pointer (some ⟨W.heap.size, 0, none⟩)] (W.alloc (req (.slice (some ad) n c) x s y t)) fun e w' =>
    e = .returned (.agg #[.int .u64 x, .int .i64 s, .pointer none]) ∧ Told W x s y t w' :=
  (next_first W.heap.size ad n c x s y t _ (by simp) h0 h1 h2 h3 hlt (by simp [req]) (by simp [req]) (by simp [req]) (by simp [req]) (by simp [req]) (by simp [req]) (by simp [req])).mono fun _ _ ⟨he, hb⟩ => ⟨he, told_of hb⟩

theorem call_second (W : World) (ad : Addr) (n c : Nat) (x s y t : Int) (h0 : 0 ≤ x) (h1 : x ≤ 999999999) (h2 : 0 ≤ y) (h3 : y ≤ 999999999) (hlt : ltB x s y t = false) :
    Calls Yba.prog 8 #[.pointer (some ⟨W.heap.size, 0, none⟩)] (W.alloc (req (.slice (some ad) n c) x s y t)) fun e w' =>
    e = .returned (.agg #[.int .u64 y, .int .i64 t, .pointer none]) ∧ Told W x s y t w' :=
  (next_second W.heap.size ad n c x s y t _ (by simp) h0 h1 h2 h3 hlt (by simp [req]) (by simp [req]) (by simp [req]) (by simp [req]) (by simp [req]) (by simp [req]) (by simp [req])).mono fun _ _ ⟨he, hb⟩ => ⟨he, told_of hb⟩
end Go.Proofs.Ybulkele.Time
