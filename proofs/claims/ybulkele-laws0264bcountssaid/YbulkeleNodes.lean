import Derived.Test.YbulkeleSteps
import Derived.Deep.RegionHeldLaw
import Derived.Deep.QuietTactic
import Derived.BigQuiet
import Derived.WalkSmall
namespace Go.Proofs.Ybulkele.Counts
open Go.RowKit Plain Go.Proofs.Ybulkele.Live

set_option maxRecDepth 10000 in
set_option maxHeartbeats 2000000 in
theorem walk (a : Option Addr) (b off n cap G : Nat) (a0 : Int) (gr : Nat → Int) (q : Nat → Nat) (st sp lv : Nat → Bool) (w : World) (hlv : Hid (∀ j, lv j = (st j && !sp j))) (hn : n ≤ 1024) (h0 : 0 ≤ a0) (h1 : a0 ≤ 255) (hG : a0 % 16 = G) (hG16 : G < 16)
    (ha : n = 0 ∨ (a = some ⟨b, off, none⟩ ∧ b < w.heap.size))
    (hgr : ∀ j, j < n → 0 ≤ gr j ∧ gr j ≤ 255)
    (hq : ∀ j, j < n → gr j % ((G : Int) + 1) = q j) (hqG : ∀ j, j < n → q j < G + 1)
    (hc0 : ∀ j, j < n → w.cell? ⟨b, off + j * 3, none⟩ = some (.int .u8 (gr j)))
    (hc1 : ∀ j, j < n → w.cell? ⟨b, off + j * 3 + 1, none⟩ = some (.bool (st j)))
    (hc2 : ∀ j, j < n → w.cell? ⟨b, off + j * 3 + 2, none⟩ = some (.bool (sp j))) :
    Calls Yba.prog 3 #[.int .u8 a0, .slice a n cap] w fun e w' => e = .returned (.bool true) ∧ Below w.heap.size w w' := by
  obtain ⟨i0, hi, hz0, hz1, hz2⟩ := info_parts info24
  have HA : Hid (n = 0 ∨ (a = some ⟨b, off, none⟩ ∧ b < w.heap.size)) := ha
  clear ha
  go_enter Yba.func3, Yba.ntmps3
  go_wp2_with (at_make; refine wpList_make_own _ rfl _ _ 23 rfl w.heap.size 24 i0 (.pointer none) 1 Yba.underlying23 hi hz0 hz1 _ _ _ n rfl rfl (by omega) ?b2 ?b3 (Nat.le_refl _) ?_)
  case b2 => rw [hz2]; omega
  case b3 => unfold maxLen; omega
  intro w0 hown0 hgrow0
  have hnodes0 := nodes_zero hown0 q st sp
  have hbel0 : Below w.heap.size w w0 := (Below.refl _ _).grown hgrow0 (Nat.le_refl _) (fun k h => by cases h)
  clear hown0 hgrow0 hi hz0 hz1 hz2
  go_wp2
  go_loopw [6, 7] (fun out i wr => ∃ k : Nat, k ≤ n ∧ i = .int .i64 k ∧ out = .slice (some ⟨w.heap.size, 0, none⟩) k n ∧ Nodes w.heap.size n w0.heap.size q st sp k wr ∧ Below w.heap.size w wr) (fun _ i _ => n - (intOf i).toNat)
  case atStart => exact ⟨0, Nat.zero_le _, rfl, rfl, hnodes0, hbel0⟩
  case round =>
    clear hnodes0 hbel0
    obtain ⟨k, hk, rfl, rfl, hnd, hnx⟩ := hrel
    by_cases hlt : k < n
    · have ha2 : a = some ⟨b, off, none⟩ ∧ b < w.heap.size := by rcases HA.out with h | h; · omega
                                                                 · exact h
      obtain ⟨rfl, hbw⟩ := ha2
      have hgk := hgr k hlt
      have hqk := hq k hlt
      have hg0 := hgk.1
      have hg1 := hgk.2
      have d0 : wr.cell? ⟨b, off + k * 3, none⟩ = some (.int .u8 (gr k)) := cell_later hnx (hc0 k hlt)
      have d1 : wr.cell? ⟨b, off + k * 3 + 1, none⟩ = some (.bool (st k)) := cell_later hnx (hc1 k hlt)
      have d2 : wr.cell? ⟨b, off + k * 3 + 2, none⟩ = some (.bool (sp k)) := cell_later hnx (hc2 k hlt)
      have HND : Hid (Nodes w.heap.size n w0.heap.size q st sp k wr) := hnd
      obtain ⟨hsz, hBN, ⟨f, hrow, _⟩, _⟩ := hnd
      have HR : Hid (wr.rowIs w.heap.size 24 n f) := hrow
      have HN : Hid (Below w.heap.size w wr) := hnx
      have hne1 : ¬ w.heap.size = b := by omega
      have hne2 : ¬ b = w.heap.size := by omega
      have hsz2 : w.heap.size < wr.heap.size := by omega
      clear hgk hgr hq hc0 hc1 hc2 hrow hnx hsz hBN HA
      go_wp2
      go_region_held_law (fun w' => w'.cell? ⟨b, off + k * 3, none⟩ = some (.int .u8 (gr k)) ∧ w'.cell? ⟨b, off + k * 3 + 1, none⟩ = some (.bool (st k)) ∧ w'.cell? ⟨b, off + k * 3 + 2, none⟩ = some (.bool (sp k))) (go_keep)
        ((refine step_one rfl rfl w.heap.size k n (wr.heap.size + 1) (.pointer (some ⟨wr.heap.size, 0, none⟩)) f rfl rfl ?_ rfl ?_ hlt ?_; simp; exact ((HR.out.alloc _).alloc _)))
      go_wp2
      go_roundw
      case rel => exact ⟨k + 1, by omega, by go_num, rfl, nodes_step HND.out _ rfl _, (((HN.out.setCell (Nat.le_refl _) _).alloc (by have := HN.out.size; simpa using this) _).alloc (by have := HN.out.size; simp; omega) _).drew⟩
      case measure => simp [intOf]; omega
    · obtain rfl : k = n := by omega
      have HND : Hid (Nodes w.heap.size k w0.heap.size q st sp k wr) := hnd
      have HQ : Hid (∀ j, j < k → q j < G + 1) := hqG
      have HN : Hid (Below w.heap.size w wr) := hnx
      clear hnd hnx hqG
      go_wp2_with fail
      refine (live_call wr _ w.heap.size k w0.heap.size G q st sp lv hlv.out hn hG16 HND.out HQ.out (by simp) (by simp)).mono ?_
      rintro e w2 ⟨rfl, hL, hb2⟩
      have hbel2 : Below w.heap.size w w2 := HN.out.trans (hb2.mono HN.out.size)
      have hLlt : wr.heap.size + 1 < w2.heap.size := hL.lt
      clear hb2 HND
      obtain ⟨i1, hi1, hy0, hy1, hy2⟩ := info_parts info3
      have HL : Hid (w2.rowIs (wr.heap.size + 1) 3 (G + 1) (fun j => .int .i64 (cnt lv q k j))) := hL
      have HB2 : Hid (Below w.heap.size w w2) := hbel2
      clear hL hbel2
      go_wp2_with (at_make; refine wpList_make_row _ rfl _ _ 51 rfl 3 i1 (.int .i64 0) Yba.underlying51 hi1 hy0 hy1 rfl _ _ (G + 1) rfl rfl ?b4 ?b5 ?_)
      case b4 => rw [hy2]; omega
      case b5 => omega
      go_wp2
      have hrow0 := World.rowIs_made w2 (.int .i64 0) (G + 1) 3
      have hL0 := HL.out.alloc (.cells (madeCells #[.int .i64 0] (G + 1)) 3)
      have hbel0 : Below w.heap.size w (w2.alloc (.cells (madeCells #[.int .i64 0] (G + 1)) 3)) := HB2.out.alloc HB2.out.size _
      have hM : Hid (wr.heap.size + 1 < w2.heap.size ∧ w.heap.size ≤ w2.heap.size) := ⟨hLlt, HB2.out.size⟩
      clear HL HB2 hi1 hy0 hy1 hy2 HN hLlt
      generalize wr.heap.size + 1 = L at *
      go_loopw [12] (fun i wx => ∃ m : Nat, m ≤ k ∧ i = .int .i64 m ∧ wx.rowIs w2.heap.size 3 (G + 1) (fun j => .int .i64 (cnt lv q m j)) ∧
        wx.rowIs L 3 (G + 1) (fun j => .int .i64 (cnt lv q k j)) ∧ Below w.heap.size w wx) (fun i _ => k - (intOf i).toNat)
      case atStart => exact ⟨0, Nat.zero_le _, rfl, hrow0, hL0, hbel0⟩
      case round =>
        clear hrow0 hL0 hbel0
        obtain ⟨m, hm, rfl, hrow, hLx, hbx⟩ := hrel
        have HR : Hid (wr.rowIs w2.heap.size 3 (G + 1) (fun j => .int .i64 (cnt lv q m j))) := hrow
        have HL : Hid (wr.rowIs L 3 (G + 1) (fun j => .int .i64 (cnt lv q k j))) := hLx
        have HB : Hid (Below w.heap.size w wr) := hbx
        clear hrow hLx hbx
        by_cases hlt2 : m < k
        · have ha2 : a = some ⟨b, off, none⟩ ∧ b < w.heap.size := by rcases HA.out with h | h; · omega
                                                                     · exact h
          obtain ⟨rfl, hbw⟩ := ha2
          have hgk := hgr m hlt2
          have hqk := hq m hlt2
          have hqlt := HQ.out m hlt2
          have hg0 := hgk.1
          have hg1 := hgk.2
          have d0 : wr.cell? ⟨b, off + m * 3, none⟩ = some (.int .u8 (gr m)) := cell_later HB.out (hc0 m hlt2)
          have d1 : wr.cell? ⟨b, off + m * 3 + 1, none⟩ = some (.bool (st m)) := cell_later HB.out (hc1 m hlt2)
          have d2 : wr.cell? ⟨b, off + m * 3 + 2, none⟩ = some (.bool (sp m)) := cell_later HB.out (hc2 m hlt2)
          have d3 : wr.cell? ⟨w2.heap.size, q m, none⟩ = some (.int .i64 (cnt lv q m (q m))) := HR.out.cell hqlt
          have hfz := HR.out.frozen (q m)
          have hle := cnt_le lv q m (q m)
          have hlvm := hlv.out m
          have HLV : Hid (lv m = (st m && !sp m)) := hlvm
          have hLM : L ≠ w2.heap.size := by have := hM.out; omega
          have hwM : w.heap.size ≤ w2.heap.size := hM.out.2
          have HLM : Hid (L ≠ w2.heap.size) := hLM
          clear hgk hgr hq hc0 hc1 hc2 hlvm HA HQ hLM
          obtain ⟨x, hx⟩ : ∃ x, st m = x := ⟨_, rfl⟩
          obtain ⟨y, hy⟩ : ∃ y, sp m = y := ⟨_, rfl⟩
          cases x
          · go_wp2
            go_roundw
            case rel => exact ⟨m + 1, by omega, by go_num, row_dead HR.out (by rw [HLV.out, hx]; rfl), HL.out, HB.out⟩
            case measure => simp [intOf]; omega
          · cases y
            · go_wp2
              go_roundw
              case rel => exact ⟨m + 1, by omega, by go_num, row_live HR.out (by rw [HLV.out, hx, hy]; rfl), HL.out.setOther HLM.out _, HB.out.setCell hwM _⟩
              case measure => simp [intOf]; omega
            · go_wp2
              go_roundw
              case rel => exact ⟨m + 1, by omega, by go_num, row_dead HR.out (by rw [HLV.out, hx, hy]; rfl), HL.out, HB.out⟩
              case measure => simp [intOf]; omega
        · obtain rfl : m = k := by omega
          clear hgr hq hc0 hc1 hc2 HA HQ hlv
          go_wp2
          go_loop [13, 14] (fun s i => ∃ t : Nat, t ≤ G + 1 ∧ i = .int .i64 t ∧ s = .int .i64 (posN (cnt lv q m) t)) (fun _ i => G + 1 - (intOf i).toNat)
          case atStart => exact ⟨0, Nat.zero_le _, rfl, rfl⟩
          case round =>
            obtain ⟨t, ht, rfl, rfl⟩ := hrel
            by_cases hlt3 : t < G + 1
            · have d4 : wr.cell? ⟨w2.heap.size, t, none⟩ = some (.int .i64 (cnt lv q m t)) := HR.out.cell hlt3
              have hpl := posN_le (cnt lv q m) t
              by_cases hz : 0 < cnt lv q m t
              · go_wp2
                go_round
                case rel => exact ⟨t + 1, by omega, by go_num, int_eq (by simp [posN, hz])⟩
                case measure => simp [intOf]; omega
              · go_wp2
                go_round
                case rel => exact ⟨t + 1, by omega, by go_num, int_eq (by simp [posN, hz])⟩
                case measure => simp [intOf]; omega
            · obtain rfl : t = G + 1 := by omega
              go_wp2
              go_loopw [15] (fun i wx => ∃ t : Nat, t ≤ G + 1 ∧ i = .int .i64 t ∧ wx.rowIs w2.heap.size 3 (G + 1) (fun j => .int .i64 (cnt lv q m j)) ∧
                wx.rowIs L 3 (G + 1) (fun j => .int .i64 (cnt lv q m j)) ∧ Below w.heap.size w wx) (fun i _ => G + 1 - (intOf i).toNat)
              case atStart => exact ⟨0, Nat.zero_le _, rfl, HR.out, HL.out, HB.out⟩
              case round =>
                clear HR HL HB
                obtain ⟨t, ht, rfl, hrow, hLx, hbx⟩ := hrel
                have HR : Hid (wr.rowIs w2.heap.size 3 (G + 1) (fun j => .int .i64 (cnt lv q m j))) := hrow
                have HL : Hid (wr.rowIs L 3 (G + 1) (fun j => .int .i64 (cnt lv q m j))) := hLx
                have HB : Hid (Below w.heap.size w wr) := hbx
                clear hrow hLx hbx
                by_cases hlt4 : t < G + 1
                · have d5 : wr.cell? ⟨w2.heap.size, t, none⟩ = some (.int .i64 (cnt lv q m t)) := HR.out.cell hlt4
                  have d6 : wr.cell? ⟨L, t, none⟩ = some (.int .i64 (cnt lv q m t)) := HL.out.cell hlt4
                  have hti : (t : Int) < (G : Int) + 1 := by omega
                  go_wp2
                  go_quiet (fail)
                  go_wp2
                  go_roundw
                  case rel => exact ⟨t + 1, by omega, by go_num, HR.out, HL.out, below_drewN HB.out _⟩
                  case measure => simp [intOf]; omega
                · go_wp2
                  go_ret
                  exact ⟨rfl, HB.out⟩
end Go.Proofs.Ybulkele.Counts
