import Derived.Laws.BytesArg
namespace Go.Proofs.Ybulkeja.Plain

/-- A string of one byte, told by its number. -/
def oneByte (n : Int) : ByteArray := strOfNums [n]

theorem oneByte_size (n : Int) : (oneByte n).size = 1 := rfl

/-- 'x & 0x80 != 0', as the model reckons it. -/
theorem and128 (k : Nat) (hk : k < 256) : (bits .and .u8 (k : Int) 128 != 0) = decide (128 ≤ k) := by
  revert k; decide +kernel

/-- 'x & 0x7f'. -/
theorem and127 (n : Int) (h0 : 0 ≤ n) (h1 : n ≤ 255) : bits .and .u8 n 127 = n % 128 := by
  obtain ⟨k, rfl⟩ := Int.eq_ofNat_of_zero_le h0
  have hk : k < 256 := by omega
  clear h0 h1
  revert k; decide +kernel

/-- The top bit of a byte. -/
def top (b : UInt8) : Bool := bits .and .u8 (b.toNat : Int) 128 != 0

theorem top_of (b : UInt8) : top b = decide (128 ≤ b.toNat) := and128 _ (UInt8.toNat_lt b)

/-- The first byte without the top bit, where there is one at 'p'. -/
theorem first_clear (s : ByteArray) : ∀ (p : Nat) (hp : p < s.size), top s[p] = false →
    ∃ (m : Nat) (hm : m < s.size), m ≤ p ∧ (∀ k, (h : k < s.size) → k < m → top s[k] = true) ∧ top s[m] = false := by
  intro p
  induction p using Nat.strongRecOn with
  | ind p ih =>
    intro hp hc
    by_cases h : ∃ k, ∃ hk : k < s.size, k < p ∧ top s[k] = false
    · obtain ⟨k, hk, hkp, hkc⟩ := h
      obtain ⟨m, hm, h1, h2, h3⟩ := ih k hkp hk hkc
      exact ⟨m, hm, by omega, h2, h3⟩
    · refine ⟨p, hp, Nat.le_refl _, fun k hk hkp => ?_, hc⟩
      cases hb : top s[k] with
      | true => rfl
      | false => exact absurd ⟨k, hk, hkp, hb⟩ h

theorem mid_size (a b : ByteArray) (n : Int) : (a ++ oneByte n ++ b).size = a.size + 1 + b.size := by
  simp [oneByte_size]

theorem mid_at (a b : ByteArray) (n : Int) (h : a.size < (a ++ oneByte n ++ b).size) : (a ++ oneByte n ++ b)[a.size] = UInt8.ofNat n.toNat := by
  rw [ByteArray.getElem_append_left (by simp [oneByte_size]), ByteArray.getElem_append_right (by simp)]
  simp [oneByte, strOfNums]
  rfl

theorem mid_clear (a b : ByteArray) (n : Int) (h0 : 0 ≤ n) (h1 : n < 128) (h : a.size < (a ++ oneByte n ++ b).size) : top (a ++ oneByte n ++ b)[a.size] = false := by
  rw [mid_at a b n h, top_of]
  have : (UInt8.ofNat n.toNat).toNat = n.toNat := by simp; omega
  rw [this]; simp; omega
end Go.Proofs.Ybulkeja.Plain
