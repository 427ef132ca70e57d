import Derived.Test.YbulkeleRows
import Derived.Test.YbulkelePlain
import Derived.WalkKit
import Derived.WalkSpells
import Derived.Deep.OwnRows
namespace Go.Proofs.Ybulkele.Live
open Go.RowKit Plain

theorem info3 : (Yba.prog.info? 3).map (fun i => (i.zero, i.size, i.bytes)) = some (some (.int .i64 0), 1, 8) := by kernel_rfl

theorem row_dead {w : World} {b g k : Nat} {lv : Nat → Bool} {q : Nat → Nat} (h : w.rowIs b 3 g (fun j => .int .i64 (cnt lv q k j))) (hd : lv k = false) : w.rowIs b 3 g (fun j => .int .i64 (cnt lv q (k + 1) j)) := by
  rw [cnt_dead hd]; exact h

theorem row_live {w : World} {b g k : Nat} {lv : Nat → Bool} {q : Nat → Nat} (h : w.rowIs b 3 g (fun j => .int .i64 (cnt lv q k j))) (hl : lv k = true) :
    (w.setCell ⟨b, q k, none⟩ (.int .i64 ((cnt lv q k (q k) : Int) + 1))).rowIs b 3 g (fun j => .int .i64 (cnt lv q (k + 1) j)) := by
  refine (h.set (q k) _).congr fun j _ => ?_
  rw [cnt_live hl]
  by_cases e : j = q k
  · simp [e]
  · simp [e]

theorem row_new {w : World} {b g k : Nat} {lv : Nat → Bool} {q : Nat → Nat} (h : w.rowIs b 3 g (fun j => .int .i64 (cnt lv q k j))) (hl : lv k = true) (hz : cnt lv q k (q k) = 0) :
    (w.setCell ⟨b, q k, none⟩ (.int .i64 1)).rowIs b 3 g (fun j => .int .i64 (cnt lv q (k + 1) j)) := by
  have := row_live h hl
  rw [hz] at this
  exact this

theorem int_eq {a b : Int} (h : a = b) : Value.int .i64 a = .int .i64 b := by rw [h]

set_option maxRecDepth 10000 in
set_option maxHeartbeats 800000 in
theorem live_any (S B n cap g : Nat) (p q : Nat → Nat) (st sp : Nat → Bool) (w : World) (hg0 : 1 ≤ g) (hg : g ≤ 16) (hn : n ≤ 1024)
    (h23 : w.cell? ⟨S, 23, none⟩ = some (.int .i64 g)) (h32 : w.cell? ⟨S, 32, none⟩ = some (.slice (some ⟨B, 0, none⟩) n cap))
    (hq : ∀ j, j < n → q j < g)
    (hp : ∀ j, j < n → w.cell? ⟨B, j, none⟩ = some (.pointer (some ⟨p j, 0, none⟩)))
    (h1 : ∀ j, j < n → w.cell? ⟨p j, 1, none⟩ = some (.int .i64 (q j)))
    (h4 : ∀ j, j < n → w.cell? ⟨p j, 4, none⟩ = some (.bool (st j)))
    (h5 : ∀ j, j < n → w.cell? ⟨p j, 5, none⟩ = some (.bool (sp j))) :
    Calls Yba.prog 6 #[.pointer (some ⟨S, 0, none⟩)] w fun e w' =>
      e = .returned (.tuple #[.slice (some ⟨w.heap.size, 0, none⟩) g g, .int .i64 (posN (cnt (fun j => st j && !sp j) q n) g)]) ∧
      w'.rowIs w.heap.size 3 g (fun j => .int .i64 (cnt (fun j => st j && !sp j) q n j)) ∧ Below w.heap.size w w' := by
  obtain ⟨i0, hi, hz0, hz1, hz2⟩ := info_parts info3
  have hS := World.block_lt_of_cell? w _ h23
  go_enter Yba.func6, Yba.ntmps6
  go_wp2_with (at_make; refine wpList_make_row _ rfl _ _ 51 rfl 3 i0 (.int .i64 0) Yba.underlying51 hi hz0 hz1 rfl _ _ g rfl rfl ?b2 ?b3 ?_)
  case b2 => omega
  case b3 => omega
  go_wp2
  have hrow0 := World.rowIs_made w (.int .i64 0) g 3
  have hbel0 : Below w.heap.size w (w.alloc (.cells (madeCells #[.int .i64 0] g) 3)) := (Below.refl _ _).alloc (Nat.le_refl _) _
  clear h23 h32
  go_loopw [3, 17] (fun gr i wr => ∃ k : Nat, k ≤ n ∧ i = .int .i64 k ∧ gr = .int .i64 (posN (cnt (fun j => st j && !sp j) q k) g) ∧
      wr.rowIs w.heap.size 3 g (fun j => .int .i64 (cnt (fun j => st j && !sp j) q k j)) ∧ Below w.heap.size w wr) (fun _ i _ => n - (intOf i).toNat)
  case atStart => exact ⟨0, Nat.zero_le _, rfl, by rw [pos_zero]; rfl, hrow0, hbel0⟩
  case round =>
    clear hrow0 hbel0
    obtain ⟨k, hk, rfl, rfl, hrow, hnx⟩ := hrel
    by_cases hlt : k < n
    · have hc0 : wr.cell? ⟨B, k, none⟩ = some (.pointer (some ⟨p k, 0, none⟩)) := cell_later hnx (hp k hlt)
      have hc1 : wr.cell? ⟨p k, 1, none⟩ = some (.int .i64 (q k)) := cell_later hnx (h1 k hlt)
      have hc4 : wr.cell? ⟨p k, 4, none⟩ = some (.bool (st k)) := cell_later hnx (h4 k hlt)
      have hc5 : wr.cell? ⟨p k, 5, none⟩ = some (.bool (sp k)) := cell_later hnx (h5 k hlt)
      have hqk := hq k hlt
      have hcq : wr.cell? ⟨w.heap.size, q k, none⟩ = some (.int .i64 (cnt (fun j => st j && !sp j) q k (q k))) := hrow.cell hqk
      have hfz := hrow.frozen (q k)
      have hle := cnt_le (fun j => st j && !sp j) q k (q k)
      have hpl := posN_le (cnt (fun j => st j && !sp j) q k) g
      have HR : Hid (wr.rowIs w.heap.size 3 g (fun j => .int .i64 (cnt (fun j => st j && !sp j) q k j))) := hrow
      have HN : Hid (Below w.heap.size w wr) := hnx
      clear hrow hnx hp h1 h4 h5 hq
      obtain ⟨a, ha⟩ : ∃ a, st k = a := ⟨_, rfl⟩
      obtain ⟨b, hb⟩ : ∃ b, sp k = b := ⟨_, rfl⟩
      cases a
      · go_wp2
        go_roundw
        case rel => exact ⟨k + 1, by omega, by go_num, int_eq (by rw [pos_dead (by simp [ha])]), row_dead HR.out (by simp [ha]), HN.out⟩
        case measure => simp [intOf]; omega
      · cases b
        · by_cases hz : cnt (fun j => st j && !sp j) q k (q k) = 0
          · go_wp2
            go_roundw
            case rel => exact ⟨k + 1, by omega, by go_num, int_eq (by rw [pos_new (by simp [ha, hb]) hqk hz]; omega), row_new HR.out (by simp [ha, hb]) hz, HN.out.setCell (Nat.le_refl _) _⟩
            case measure => simp [intOf]; omega
          · go_wp2
            go_roundw
            case rel => exact ⟨k + 1, by omega, by go_num, int_eq (by rw [pos_old (by simp [ha, hb]) hz]), row_live HR.out (by simp [ha, hb]), HN.out.setCell (Nat.le_refl _) _⟩
            case measure => simp [intOf]; omega
        · go_wp2
          go_roundw
          case rel => exact ⟨k + 1, by omega, by go_num, int_eq (by rw [pos_dead (by simp [hb])]), row_dead HR.out (by simp [hb]), HN.out⟩
          case measure => simp [intOf]; omega
    · obtain rfl : k = n := by omega
      go_wp2
      go_ret2
      exact ⟨rfl, hrow, hnx⟩
end Go.Proofs.Ybulkele.Live
