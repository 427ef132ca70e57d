import Derived.Test.YbulkejaRows
import Derived.WalkKit
namespace Go.Proofs.Ybulkeja.Build
open Go.RowKit

theorem info5 : (Yba.prog.info? 5).map (fun i => (i.zero, i.size, i.bytes)) = some (some (.int .u8 0), 1, 1) := by kernel_rfl

/-- What the loop has gathered behind k rounds: the first k bytes with the top bit set. -/
def pre (zs : List Int) (k : Nat) : List Int := (zs.take k).map fun z => bits .or .u8 z 128

theorem pre_succ (zs : List Int) (k : Nat) (h : k < zs.length) : pre zs (k + 1) = pre zs k ++ [bits .or .u8 (zs[k]?.getD 0) 128] := by
  unfold pre
  rw [List.take_succ_eq_append_getElem h, List.map_append, List.getElem?_eq_getElem h]
  rfl

theorem pre_length (zs : List Int) (k : Nat) (h : k ≤ zs.length) : (pre zs k).length = k := by simp [pre]; omega

/-- The one cell that 'append(b, x)' lays in a block of its own. -/
theorem one_at (w : World) (v : Value) (t : TypeId) : ∀ (j : Nat) (u : Value), [v][j]? = some u → (w.alloc (.cells #[v] t)).cell? ((⟨w.heap.size, 0, none⟩ : Addr).add j) = some u := by
  intro j u hj
  match j, hj with
  | 0, hj => simp at hj; subst hj; simp [Addr.add]

set_option maxHeartbeats 800000 in
set_option maxRecDepth 100000 in
theorem build_any (a : Option Addr) (b off len cap : Nat) (zs : List Int) (a1 : Int) (w : World) (hlen : len ≤ 1024) (hz : len ≤ zs.length)
    (ha : len = 0 ∨ a = some ⟨b, off, none⟩) (hb : len = 0 ∨ b < w.heap.size)
    (hc : ∀ j, j < len → w.cell? ⟨b, off + j, none⟩ = some (.int .u8 (zs[j]?.getD 0))) :
    Calls Yba.prog 7 #[.slice a len cap, .int .u8 a1] w fun e w' =>
      e = .returned (.slice (some ⟨w.heap.size, 0, none⟩) (len + 1) (len + 1)) ∧
      w'.ownsRow w.heap.size 5 1 (.slice (some ⟨w.heap.size, 0, none⟩) (len + 1) (len + 1)) (len + 1) ((pre zs len ++ [bits .and .u8 a1 127]).map (Value.int .u8)) ∧ Below w.heap.size w w' := by
  obtain ⟨i0, hi, hz0, hz1, hz2⟩ := info_parts info5
  have HA : Hid (len = 0 ∨ a = some ⟨b, off, none⟩) := ha
  clear ha
  go_enter Yba.func7, Yba.ntmps7
  go_wp2_with (at_make; refine wpList_make_own _ rfl _ _ 22 rfl w.heap.size 5 i0 (.int .u8 0) 1 Yba.underlying22 hi hz0 hz1 _ _ _ (len + 1) rfl rfl (by omega) ?b2 ?b3 (Nat.le_refl _) ?_)
  case b2 => rw [hz2]; omega
  case b3 => unfold maxLen; omega
  intro w0 hown0 hgrow0
  go_wp2
  go_loopw [5, 6] (fun out si wr => ∃ k : Nat, k ≤ len ∧ si = .int .i64 k ∧ out = .slice (some ⟨w.heap.size, 0, none⟩) k (len + 1) ∧
      wr.ownsRow w.heap.size 5 1 (.slice (some ⟨w.heap.size, 0, none⟩) k (len + 1)) k ((pre zs k).map (Value.int .u8)) ∧ Below w.heap.size w wr)
    (fun _ si _ => len - (intOf si).toNat)
  case atStart => exact ⟨0, Nat.zero_le _, rfl, rfl, hown0, (Below.refl _ _).grown hgrow0 (Nat.le_refl _) (fun k h => by cases h)⟩
  case round =>
    obtain ⟨k, hk, rfl, rfl, hown, hnx⟩ := hrel
    by_cases hlt : k < len
    · have hbb : b < w.heap.size := by omega
      have ha2 : a = some ⟨b, off, none⟩ := by rcases HA.out with h | h; · omega
                                               · exact h
      subst ha2
      have ga : wr.cell? ⟨b, off + k, none⟩ = some (.int .u8 (zs[k]?.getD 0)) := (hnx.cell (by exact hbb)).trans (hc k hlt)
      go_wp2_with (at_builtin; refine wpList_append_fits _ rfl _ _ 22 rfl w.heap.size 5 i0 1 Yba.underlying22 hi hz1 w.heap.size k (len + 1) _ rfl (hown.alloc _) ⟨wr.heap.size, 0, none⟩ 1 1 [.int .u8 (bits .or .u8 (zs[k]?.getD 0) 128)] rfl rfl (one_at _ _ _) (by intro u hu; simp at hu; subst hu; rfl) (by omega) ?_)
      intro w1 hown1 hgrow1
      go_wp2
      go_roundw
      case rel => exact ⟨k + 1, by omega, by go_num, rfl, by rw [pre_succ zs k (by omega)]; simpa using hown1, (hnx.alloc hnx.size _).grown hgrow1 (by simp; have := hnx.size; omega) (fun j hj => by cases hj; exact Nat.le_refl _)⟩
      case measure => simp [intOf]; omega
    · obtain rfl : k = len := by omega
      go_wp2_with (at_builtin; refine wpList_append_fits _ rfl _ _ 22 rfl w.heap.size 5 i0 1 Yba.underlying22 hi hz1 w.heap.size k (k + 1) _ rfl (hown.alloc _) ⟨wr.heap.size, 0, none⟩ 1 1 [.int .u8 (bits .and .u8 a1 127)] rfl rfl (one_at _ _ _) (by intro u hu; simp at hu; subst hu; rfl) (by omega) ?_)
      intro w1 hown1 hgrow1
      go_wp2
      go_ret
      exact ⟨rfl, by simpa using hown1, (hnx.alloc hnx.size _).grown hgrow1 (by simp; have := hnx.size; omega) (fun j hj => by cases hj; exact Nat.le_refl _)⟩
end Go.Proofs.Ybulkeja.Build
