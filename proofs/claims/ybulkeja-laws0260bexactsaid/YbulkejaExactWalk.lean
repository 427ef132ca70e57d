import Derived.Test.YbulkejaCut
import Derived.Test.YbulkejaPlain
import Derived.Test.YbulkejaBuild
import Derived.WalkKit
import Derived.WalkSmall
import Derived.ProofKit
import Derived.OpenShut
namespace Go.Proofs.Ybulkeja.Exact
open Go.RowKit Plain Build

/-! ### The plain part -/
theorem or128 (n : Int) (h0 : 0 ≤ n) (h1 : n ≤ 255) : 128 ≤ bits .or .u8 n 128 ∧ bits .or .u8 n 128 ≤ 255 := by
  obtain ⟨k, rfl⟩ := Int.eq_ofNat_of_zero_le h0
  have hk : k < 256 := by omega
  clear h0 h1
  revert k; decide +kernel

theorem strOf_at (xs : List Int) (k : Nat) (h : k < (strOfNums xs).size) (h' : k < xs.length) : (strOfNums xs)[k] = UInt8.ofNat xs[k].toNat := by
  show (strOfNums xs).data[k]'h = _
  simp [strOfNums]

theorem top_ofNat (n : Int) (h0 : 0 ≤ n) (h1 : n ≤ 255) : top (UInt8.ofNat n.toNat) = decide (128 ≤ n) := by
  rw [top_of]
  have : (UInt8.ofNat n.toNat).toNat = n.toNat := by simp; omega
  rw [this]
  by_cases h : 128 ≤ n
  · have : 128 ≤ n.toNat := by omega
    simp [h, this]
  · have : ¬ 128 ≤ n.toNat := by omega
    simp [h, this]

theorem pre_at (zs : List Int) (len k : Nat) (hz : len ≤ zs.length) (h : k < len) (h' : k < (pre zs len).length) : (pre zs len)[k] = bits .or .u8 zs[k] 128 := by
  simp [pre]

theorem first_top (zs : List Int) (len : Nat) (t : Int) (b : ByteArray) (hz : len ≤ zs.length) (hb : ∀ n ∈ zs, 0 ≤ n ∧ n ≤ 255) (k : Nat) (hk : k < len) (h : k < (strOfNums (pre zs len ++ [t]) ++ b).size) :
    top (strOfNums (pre zs len ++ [t]) ++ b)[k] = true := by
  have hl := pre_length zs len hz
  have hs : (strOfNums (pre zs len ++ [t])).size = len + 1 := by rw [strOfNums_size]; simp [hl]
  rw [ByteArray.getElem_append_left (by omega), strOf_at _ k (by omega) (by simp; omega), List.getElem_append_left (by omega), pre_at zs len k hz hk (by omega)]
  have hz' := hb zs[k] (List.getElem_mem _)
  have ho := or128 zs[k] hz'.1 hz'.2
  rw [top_ofNat _ (by omega) ho.2]
  simpa using ho.1

theorem first_last (zs : List Int) (len : Nat) (t : Int) (b : ByteArray) (hz : len ≤ zs.length) (h0 : 0 ≤ t) (h1 : t < 128) (h : len < (strOfNums (pre zs len ++ [t]) ++ b).size) :
    top (strOfNums (pre zs len ++ [t]) ++ b)[len] = false := by
  have hl := pre_length zs len hz
  have hs : (strOfNums (pre zs len ++ [t])).size = len + 1 := by rw [strOfNums_size]; simp [hl]
  rw [ByteArray.getElem_append_left (by omega), strOf_at _ len (by omega) (by simp; omega), List.getElem_append_right (by omega)]
  simp only [hl, Nat.sub_self, List.getElem_cons_zero]
  rw [top_ofNat _ h0 (by omega)]
  simp; omega

/-! ### The walk -/
set_option maxRecDepth 10000 in
set_option maxHeartbeats 400000 in
theorem core (a : Option Addr) (len cap : Nat) (a1 : Int) (F a2 : ByteArray) (w : World) (hl : len ≤ 1024) (h2 : a2.size ≤ 1024) (hF : F.size ≤ 1025)
    (hbuild : Hid (Calls Yba.prog 7 #[.slice a len cap, .int .u8 a1] w fun e w' => e = .returned (.slice (some ⟨w.heap.size, 0, none⟩) (len + 1) (len + 1)) ∧
      (convert 22 9 (.slice (some ⟨w.heap.size, 0, none⟩) (len + 1) (len + 1))).run Yba.prog w' = .ok (.string F) w' ∧ Below w.heap.size w w'))
    (hcut : Hid (∀ W : World, Calls Yba.prog 8 #[.string (F ++ a2)] W fun e w' => e = .returned (.tuple #[.string F, .string a2]) ∧ ∃ n, w' = W.drewN n)) :
    Calls Yba.prog 3 #[.slice a len cap, .int .u8 a1, .string a2] w fun e w' => e = .returned (.bool true) ∧ Below w.heap.size w w' := by
  go_enter Yba.func3, Yba.ntmps3
  go_wp2_with fail
  refine (Hid.out hbuild).mono ?_
  rintro e w1 ⟨rfl, hcv, hb1⟩
  have HB : Hid (Below w.heap.size w w1) := hb1
  clear hb1 hbuild
  go_wp2_with fail
  refine (Hid.out hcut _).mono ?_
  rintro e w2 ⟨rfl, n, rfl⟩
  go_wp2
  go_ret
  exact ⟨rfl, below_drewN HB.out n⟩

theorem cut_first (F a2 : ByteArray) : (F ++ a2).extract 0 F.size = F ∧ (F ++ a2).extract F.size (F ++ a2).size = a2 := by
  constructor
  · rw [ByteArray.extract_append]; simp
  · rw [ByteArray.extract_append]; simp
    rw [show F.extract F.size (F.size + a2.size) = ByteArray.empty from ByteArray.size_eq_zero_iff.1 (by simp)]; simp

theorem walk (a : Option Addr) (b off len cap : Nat) (zs : List Int) (a1 : Int) (a2 : ByteArray) (w : World) (hlen : len ≤ 1024) (h2 : a2.size ≤ 1024) (hz : len ≤ zs.length)
    (ha : len = 0 ∨ a = some ⟨b, off, none⟩) (hb : len = 0 ∨ b < w.heap.size) (w1 : (Lit.int .u8 a1).wf = true) (hzs : ∀ n ∈ zs, 0 ≤ n ∧ n ≤ 255)
    (hc : ∀ j, j < len → w.cell? ⟨b, off + j, none⟩ = some (.int .u8 (zs[j]?.getD 0))) :
    Calls Yba.prog 3 #[.slice a len cap, .int .u8 a1, .string a2] w fun e w' => e = .returned (.bool true) ∧ Below w.heap.size w w' := by
  have hb1 := bounds_u8 w1
  have h127 := and127 a1 (by omega) (by omega)
  have hl := pre_length zs len hz
  have hs : (strOfNums (pre zs len ++ [bits .and .u8 a1 127])).size = len + 1 := by rw [strOfNums_size]; simp [hl]
  refine core a len cap a1 (strOfNums (pre zs len ++ [bits .and .u8 a1 127])) a2 w hlen h2 (by omega) ?_ ?_
  · refine (build_any a b off len cap zs a1 w hlen hz ha hb hc).mono fun e w' ⟨he, hown, hbel⟩ => ⟨he, ?_, hbel⟩
    refine run_convert_bytes_arg w' 22 5 Yba.underlying22 Yba.underlying5 w.heap.size 0 (len + 1) (len + 1) (pre zs len ++ [bits .and .u8 a1 127]) (by simp [hl]) (fun i hi => ?_) 9 Yba.underlying9
    rw [Nat.zero_add, hown.cellAt i (by omega), List.getElem?_map, List.getD, List.getElem?_eq_getElem (by simp [hl]; omega)]
    simp
  · intro W
    have hS : (strOfNums (pre zs len ++ [bits .and .u8 a1 127]) ++ a2).size = len + 1 + a2.size := by rw [ByteArray.size_append, hs]
    have hcut := Cut.cut_any (strOfNums (pre zs len ++ [bits .and .u8 a1 127]) ++ a2) len (by omega) (by omega)
      (fun k h hk => first_top zs len _ a2 hz hzs k hk h) (first_last zs len _ a2 hz (by omega) (by omega) (by omega)) W
    have hx := cut_first (strOfNums (pre zs len ++ [bits .and .u8 a1 127])) a2
    rw [hs] at hx
    rw [hx.1, hx.2] at hcut
    exact hcut
end Go.Proofs.Ybulkeja.Exact
