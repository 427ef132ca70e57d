import Derived.KernelRfl
namespace Go.Proofs.Ybulkele.Plain

/-- How many of the first k nodes are live and in group j. -/
def cnt (lv : Nat → Bool) (q : Nat → Nat) : Nat → Nat → Nat
  | 0, _ => 0
  | k + 1, j => cnt lv q k j + if lv k = true ∧ q k = j then 1 else 0

/-- How many of the first g entries are above zero. -/
def posN (C : Nat → Nat) : Nat → Nat
  | 0 => 0
  | g + 1 => posN C g + if 0 < C g then 1 else 0

theorem cnt_le (lv : Nat → Bool) (q : Nat → Nat) (k j : Nat) : cnt lv q k j ≤ k := by
  induction k with
  | zero => simp [cnt]
  | succ k ih => simp only [cnt]; split <;> omega

theorem posN_le (C : Nat → Nat) (g : Nat) : posN C g ≤ g := by
  induction g with
  | zero => simp [posN]
  | succ g ih => simp only [posN]; split <;> omega

theorem posN_congr {C D : Nat → Nat} (g : Nat) (h : ∀ j, j < g → C j = D j) : posN C g = posN D g := by
  induction g with
  | zero => rfl
  | succ g ih => simp only [posN]; rw [ih (fun j hj => h j (by omega)), h g (by omega)]

/-- One entry raised by one. -/
theorem posN_bump {C D : Nat → Nat} (i : Nat) (hi : D i = C i + 1) (ho : ∀ j, j ≠ i → D j = C j) (g : Nat) :
    posN D g = posN C g + if i < g ∧ C i = 0 then 1 else 0 := by
  induction g with
  | zero => simp [posN]
  | succ g ih =>
    simp only [posN]
    rw [ih]
    by_cases h : i = g
    · subst h
      rw [hi]
      by_cases hc : C i = 0
      · simp [hc]
      · have : 0 < C i := by omega
        simp [hc, this]
    · rw [ho g (by omega)]
      by_cases hlt : i < g
      · have h2 : i < g + 1 := by omega
        simp only [hlt, h2, true_and]; omega
      · have h2 : ¬ i < g + 1 := by omega
        simp only [hlt, h2, false_and]; simp

theorem cnt_dead {lv : Nat → Bool} {q : Nat → Nat} {k : Nat} (h : lv k = false) : cnt lv q (k + 1) = cnt lv q k := by
  funext j; simp [cnt, h]

theorem cnt_live {lv : Nat → Bool} {q : Nat → Nat} {k : Nat} (h : lv k = true) (j : Nat) : cnt lv q (k + 1) j = if j = q k then cnt lv q k (q k) + 1 else cnt lv q k j := by
  by_cases e : j = q k
  · subst e; simp [cnt, h]
  · have e' : ¬ q k = j := fun x => e x.symm
    simp [cnt, e, e']

theorem pos_dead {lv : Nat → Bool} {q : Nat → Nat} {k g : Nat} (h : lv k = false) : posN (cnt lv q (k + 1)) g = posN (cnt lv q k) g := by rw [cnt_dead h]

theorem pos_new {lv : Nat → Bool} {q : Nat → Nat} {k g : Nat} (h : lv k = true) (hq : q k < g) (hz : cnt lv q k (q k) = 0) : posN (cnt lv q (k + 1)) g = posN (cnt lv q k) g + 1 := by
  rw [posN_bump (C := cnt lv q k) (q k) (by rw [cnt_live h]; simp) (fun j hj => by rw [cnt_live h]; simp [hj])]
  simp [hq, hz]

theorem pos_old {lv : Nat → Bool} {q : Nat → Nat} {k g : Nat} (h : lv k = true) (hz : cnt lv q k (q k) ≠ 0) : posN (cnt lv q (k + 1)) g = posN (cnt lv q k) g := by
  rw [posN_bump (C := cnt lv q k) (q k) (by rw [cnt_live h]; simp) (fun j hj => by rw [cnt_live h]; simp [hj])]
  simp [hz]

theorem pos_zero (lv : Nat → Bool) (q : Nat → Nat) (g : Nat) : posN (cnt lv q 0) g = 0 := by
  induction g with
  | zero => rfl
  | succ g ih => rw [posN, ih]; rfl
end Go.Proofs.Ybulkele.Plain
