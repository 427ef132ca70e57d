import Derived.Test.YbulkeleLive
import Derived.WalkKit
import Derived.WalkSpells
import Derived.Deep.OwnRows
import Derived.Deep.RegionLaw
namespace Go.Proofs.Ybulkele.Counts
open Go.RowKit Plain

theorem info24 : (Yba.prog.info? 24).map (fun i => (i.zero, i.size, i.bytes)) = some (some (.pointer none), 1, 8) := by kernel_rfl

/-- 'nodes = append(nodes, &simNode{..})', with room, as one step of a region that draws. -/
theorem step_one {ops : Array Oper} {o : Oper} {a : Act} {w : World} {K : Act → World → Prop} {Q : Exit → Act → World → Prop} {E : Prop}
    (hg : o.guard = none) (hop : o.op = Op.call { callee := Callee.builtin Builtin.append, args := #[.tmp 32, .tmp 53], argTypes := #[23, 23] })
    (B k n g : Nat) (v : Value) (f : Nat → Value) (hs : a.eval (.tmp 32) = .slice (some ⟨B, 0, none⟩) k n) (hx : a.eval (.tmp 53) = .slice (some ⟨g, 0, none⟩) 1 1)
    (hc : w.cell? ⟨g, 0, none⟩ = some v) (h1c : v.oneCell' = true) (hrow : w.rowIs B 24 n f) (hk : k < n)
    (hK : K (a.put o.dst (.slice (some ⟨B, 0, none⟩) (k + 1) n)) (w.setCell ⟨B, k, none⟩ v)) :
    if Region.wanted o (yielded ops a.tmps) = true then Oper.wp Yba.prog o a w K Q else E := by
  obtain ⟨i0, hi, hz0, hz1, hz2⟩ := info_parts info24
  refine step_append_room hg (.tmp 32) (.tmp 53) 23 hop 24 i0 1 Yba.underlying23 hi hz1 B 0 k n hs ⟨g, 0, none⟩ 1 1 [v] hx rfl ?_ ?_ (by omega) ?_ ?_
  · intro j u hj
    match j, hj with
    | 0, hj => simp at hj; subst hj; simpa [Addr.add] using hc
  · intro u hu; simp at hu; subst hu; exact h1c
  · intro j hj
    have hj0 : j = 0 := by simpa using hj
    subst hj0
    simp only [Nat.zero_add, Nat.mul_one, Nat.add_zero]
    rw [hrow.cell hk]
    exact ⟨rfl, hrow.frozen k⟩
  · simpa [World.setCells] using hK

/-- The block of one node. -/
def node (q : Nat) (st sp : Bool) : Obj :=
  .cells #[.string ⟨#[]⟩, .int .i64 q, .pointer none, .pointer none, .bool st, .bool sp, .int .i64 0, .int .i64 0, .int .i64 0] 30

/-- k nodes are built: the row of pointers, and each node's block. -/
def Nodes (B n N : Nat) (q : Nat → Nat) (st sp : Nat → Bool) (k : Nat) (w : World) : Prop :=
  w.heap.size = N + 2 * k ∧ B < N ∧ (∃ f, w.rowIs B 24 n f ∧ ∀ j, j < k → f j = .pointer (some ⟨N + 2 * j, 0, none⟩)) ∧
  ∀ j, j < k → w.heap[N + 2 * j]? = some (node (q j) (st j) (sp j))

theorem nodes_zero {w w0 : World} {n : Nat} (h : w0.ownsRow w.heap.size 24 1 (.slice (some ⟨w.heap.size, 0, none⟩) 0 n) 0 []) (q : Nat → Nat) (st sp : Nat → Bool) :
    Nodes w.heap.size n w0.heap.size q st sp 0 w0 := by
  obtain ⟨_, h | ⟨g, cap, cur, hv, _, hb, _, _, hs, _⟩⟩ := h
  · cases h.1
  · simp only [Value.slice.injEq, Option.some.injEq, Addr.mk.injEq] at hv
    obtain ⟨⟨rfl, _⟩, _, rfl⟩ := hv
    refine ⟨rfl, ?_, ⟨fun j => cur[j]?.getD (.pointer none), ⟨cur, hb, by omega, fun i hi => ?_⟩, fun j hj => by omega⟩, fun j hj => by omega⟩
    · obtain ⟨hlt, _⟩ := Array.getElem?_eq_some_iff.1 hb
      exact hlt
    · have : i < cur.size := by omega
      simp [this]

theorem nodes_step {w : World} {B n N k : Nat} {q : Nat → Nat} {st sp : Nat → Bool} (h : Nodes B n N q st sp k w) (v : Value) (hv : v = .pointer (some ⟨w.heap.size, 0, none⟩)) (o : Obj) :
    Nodes B n N q st sp (k + 1) ((((w.setCell ⟨B, k, none⟩ v).alloc (node (q k) (st k) (sp k))).alloc o).drew) := by
  obtain ⟨hs, hB, ⟨f, hrow, hf⟩, hn⟩ := h
  have hz : (w.setCell ⟨B, k, none⟩ v).heap.size = w.heap.size := Deep.nblk_setCell _ _ _
  refine ⟨?_, hB, ⟨_, (((hrow.set k v).alloc _).alloc o), fun j hj => ?_⟩, fun j hj => ?_⟩
  · show (((w.setCell ⟨B, k, none⟩ v).alloc (node (q k) (st k) (sp k))).alloc o).heap.size = _
    rw [Deep.nblk_alloc, Deep.nblk_alloc, hz]; omega
  · by_cases e : j = k
    · subst e; simp [hv, hs]
    · simp only [e, if_false]; exact hf j (by omega)
  · show (((w.setCell ⟨B, k, none⟩ v).alloc (node (q k) (st k) (sp k))).alloc o).heap[N + 2 * j]? = _
    rw [Deep.blk_alloc_lt _ _ _ (by rw [Deep.nblk_alloc, hz]; omega)]
    by_cases e : j = k
    · subst e; rw [← hs, ← hz]; exact Deep.blk_alloc_new _ _
    · rw [Deep.blk_alloc_lt _ _ _ (by omega), Deep.blk_setCell_other _ _ _ _ (by show N + 2 * j ≠ B; omega)]; exact hn j (by omega)

theorem node_cells {w : World} {b : Nat} {q : Nat} {st sp : Bool} (h : w.heap[b]? = some (node q st sp)) :
    w.cell? ⟨b, 1, none⟩ = some (.int .i64 q) ∧ w.cell? ⟨b, 4, none⟩ = some (.bool st) ∧ w.cell? ⟨b, 5, none⟩ = some (.bool sp) := by
  refine ⟨?_, ?_, ?_⟩ <;> simp [World.cell?, h, node]

/-- liveByGroup over the nodes that the law has built: 'o' is the Sim's block. -/
theorem live_call (wr : World) (o : Obj) (B n N G : Nat) (q : Nat → Nat) (st sp lv : Nat → Bool) (hlv : ∀ j, lv j = (st j && !sp j)) (hn : n ≤ 1024) (hG : G < 16) (h : Nodes B n N q st sp n wr) (hq : ∀ j, j < n → q j < G + 1)
    (h23 : (wr.alloc o).cell? ⟨wr.heap.size, 23, none⟩ = some (.int .i64 ((G : Int) + 1))) (h32 : (wr.alloc o).cell? ⟨wr.heap.size, 32, none⟩ = some (.slice (some ⟨B, 0, none⟩) n n)) :
    Calls Yba.prog 6 #[.pointer (some ⟨wr.heap.size, 0, none⟩)] (wr.alloc o) fun e w' =>
      e = .returned (.tuple #[.slice (some ⟨wr.heap.size + 1, 0, none⟩) (G + 1) (G + 1), .int .i64 (posN (cnt lv q n) (G + 1))]) ∧
      w'.rowIs (wr.heap.size + 1) 3 (G + 1) (fun j => .int .i64 (cnt lv q n j)) ∧ Below wr.heap.size wr w' := by
  obtain rfl : lv = fun j => st j && !sp j := funext hlv
  obtain ⟨hs, hB, ⟨f, hrow, hf⟩, hblk⟩ := h
  have hrow' := hrow.alloc o
  have hb' : ∀ j, j < n → (wr.alloc o).heap[N + 2 * j]? = some (node (q j) (st j) (sp j)) := fun j hj => by
    rw [Deep.blk_alloc_lt _ _ _ (by omega)]; exact hblk j hj
  have key := Live.live_any wr.heap.size B n n (G + 1) (fun j => N + 2 * j) q st sp (wr.alloc o) (by omega) (by omega) hn (by rw [h23]; rfl) h32 hq
    (fun j hj => by rw [hrow'.cell hj, hf j hj]) (fun j hj => (node_cells (hb' j hj)).1) (fun j hj => (node_cells (hb' j hj)).2.1) (fun j hj => (node_cells (hb' j hj)).2.2)
  rw [Deep.nblk_alloc] at key
  refine key.mono fun e w' ⟨he, hr, hbel⟩ => ⟨he, hr, ?_⟩
  exact ((Below.refl _ wr).alloc (Nat.le_refl _) o).trans (hbel.mono (by omega))
end Go.Proofs.Ybulkele.Counts
