import Derived.Test.YbulkeleNodes
import Derived.ProofKit
import Derived.OpenShut
import Derived.ChangeOld
import Derived.Below
import Derived.Deep.Slices
import Derived.Deep.Strs
namespace Go.Proofs.Ybulkele.Counts
open Go.ChangeShapes Go.WideShapes Go.ChangeAt Go.RowKit Go.Deep

theorem cells26 : Yba.prog.cellsOf 26 = 3 := by kernel_rfl
theorem cells5 : Yba.prog.cellsOf 5 = 1 := by kernel_rfl
theorem cells4 : Yba.prog.cellsOf 4 = 1 := by kernel_rfl

/-- What the walk is told of the slice of nodes that came in. -/
def IsNodes (w : World) (a : Option Addr) (len : Nat) : Prop :=
  len ≤ maxLen ∧ (len = 0 ∨ ∃ (b off : Nat) (gr : Nat → Int) (st sp : Nat → Bool), a = some ⟨b, off, none⟩ ∧ b < w.heap.size ∧
    ∀ j, j < len → (0 ≤ gr j ∧ gr j ≤ 255) ∧ w.cell? ⟨b, off + j * 3, none⟩ = some (.int .u8 (gr j)) ∧ w.cell? ⟨b, off + j * 3 + 1, none⟩ = some (.bool (st j)) ∧ w.cell? ⟨b, off + j * 3 + 2, none⟩ = some (.bool (sp j)))

theorem three {α : Type} : ∀ {l : List α}, l.length = 3 → ∃ x y z, l = [x, y, z]
  | [x, y, z], _ => ⟨x, y, z, rfl⟩

theorem open_nodes {H : Type} {enc : TypeId × Value → H} {w : World} {fuel : Nat} {a : Option Addr} {len cap : Nat} {x : DataW H × List MemPlace}
    (h : DataW.trod enc Yba.prog w 0 (fun _ => true) true fuel 22 [.slice a len cap] = some x) : IsNodes w a len := by
  rcases open_slice Yba.underlying22 h with ⟨hcs, _⟩ | ⟨ad, l, c, m, n, D, Pl, hcs, _, hl, hm, hmm, _, hx⟩
  · simp at hcs
    obtain ⟨rfl, rfl, rfl⟩ := hcs
    exact ⟨Nat.zero_le _, .inl rfl⟩
  · simp at hcs
    obtain ⟨rfl, rfl, rfl⟩ := hcs
    simp at hmm
    subst hmm
    refine ⟨Nat.le_trans hl hm, ?_⟩
    by_cases h0 : len = 0
    · exact .inl h0
    right
    have each : ∀ i, i < len → ∃ v : Int × Bool × Bool, (0 ≤ v.1 ∧ v.1 ≤ 255) ∧ w.cell? (ad.add (i * 3)) = some (.int .u8 v.1) ∧ w.cell? (ad.add (i * 3 + 1)) = some (.bool v.2.1) ∧ w.cell? (ad.add (i * 3 + 2)) = some (.bool v.2.2) := by
      intro i hi
      obtain ⟨cs', h1, h2⟩ := hx i (by omega)
      rw [cells26] at h1
      obtain ⟨_, hlen, hcell⟩ := World.cells?_some h1
      obtain ⟨y0, y1, y2, n', _, _, g0, g1, g2⟩ := trod_struct3 Yba.underlying26 h2
      obtain ⟨v0, v1, v2, rfl⟩ := three hlen
      simp [cells5, cells4] at g0 g1 g2
      obtain ⟨g, e0, _, wg⟩ := DataW.trod_int Yba.underlying5 g0
      obtain ⟨s, e1, _⟩ := DataW.trod_bool Yba.underlying4 g1
      obtain ⟨p, e2, _⟩ := DataW.trod_bool Yba.underlying4 g2
      simp at e0 e1 e2
      subst e0 e1 e2
      have c0 := hcell 0 (by omega)
      have c1 := hcell 1 (by omega)
      have c2 := hcell 2 (by omega)
      rw [add_add] at c0 c1 c2
      exact ⟨(g, s, p), bounds_u8 wg, by simpa using c0, by simpa using c1, by simpa using c2⟩
    obtain ⟨v, hv⟩ := choose_lt each
    obtain ⟨b, off, spot⟩ := ad
    have hspot : spot = none := by simpa [Addr.add] using World.cell?_spot (hv 0 (by omega)).2.1
    subst hspot
    have hbl := World.block_lt_of_cell? w _ (hv 0 (by omega)).2.1
    refine ⟨b, off, fun j => (v j).1, fun j => (v j).2.1, fun j => (v j).2.2, rfl, by simpa [Addr.add] using hbl, fun j hj => ?_⟩
    obtain ⟨hb, c0, c1, c2⟩ := hv j hj
    rw [add_plain] at c0 c1 c2
    exact ⟨hb, c0, by rw [Nat.add_assoc]; exact c1, by rw [Nat.add_assoc]; exact c2⟩

theorem walk_any (a0 : Int) (a : Option Addr) (len cap : Nat) (w : World) (w0 : (Lit.int .u8 a0).wf = true) (h : IsNodes w a len) :
    Calls Yba.prog 3 #[.int .u8 a0, .slice a len cap] w fun e w' => e = .returned (.bool true) ∧ Below w.heap.size w w' := by
  have hb := bounds_u8 w0
  obtain ⟨hm, h⟩ := h
  unfold maxLen at hm
  by_cases hl : 1024 < len
  · clear h
    go_enter Yba.func3, Yba.ntmps3
    go_wp2
    go_ret
    exact ⟨rfl, Below.refl _ _⟩
  · obtain ⟨G, hG⟩ : ∃ G : Nat, a0 % 16 = (G : Int) := ⟨(a0 % 16).toNat, by omega⟩
    rcases h with rfl | ⟨b, off, gr, st, sp, rfl, hbw, hc⟩
    · exact walk a 0 0 0 cap G a0 (fun _ => 0) (fun _ => 0) (fun _ => false) (fun _ => false) (fun _ => false) w (fun _ => rfl) (by omega) hb.1 hb.2 hG (by omega) (.inl rfl) (fun j hj => by omega) (fun j hj => by omega) (fun j hj => by omega) (fun j hj => by omega) (fun j hj => by omega) (fun j hj => by omega)
    · refine walk _ b off len cap G a0 gr (fun j => (gr j % ((G : Int) + 1)).toNat) st sp (fun j => st j && !sp j) w (fun _ => rfl) (by omega) hb.1 hb.2 hG (by omega) (.inr ⟨rfl, hbw⟩) (fun j hj => (hc j hj).1) (fun j hj => ?_) (fun j hj => ?_) (fun j hj => (hc j hj).2.1) (fun j hj => (hc j hj).2.2.1) (fun j hj => (hc j hj).2.2.2)
      · have := Int.emod_nonneg (gr j) (show (G : Int) + 1 ≠ 0 by omega)
        omega
      · have h1 := Int.emod_nonneg (gr j) (show (G : Int) + 1 ≠ 0 by omega)
        have h2 := Int.emod_lt_of_pos (gr j) (show (0 : Int) < (G : Int) + 1 by omega)
        omega
end Go.Proofs.Ybulkele.Counts
