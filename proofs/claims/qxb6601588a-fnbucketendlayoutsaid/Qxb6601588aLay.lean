/-
  PLAIN MATHEMATICS of the layout law: runs of equal values; the even share.
-/
import Derived.Test.Qxb6601588aIn
namespace Go.Proofs.Qxb6601588a
open Go.RowKit
open Go.Proofs.Qxb6601588a.Mem Go.Proofs.Qxb6601588a.Fl

/-- Entry k begins a run of equal values. -/
def beginsB (v : Nat → Nat) (k : Nat) : Bool := decide (k = 0) || !(decide (cls (v k) = cls (v (k - 1))) && decide (key (v k) = key (v (k - 1))))
theorem beginsB_iff (v : Nat → Nat) (k : Nat) : beginsB v k = true ↔ (k = 0 ∨ ¬ Eq' (v k) (v (k - 1))) := by
  unfold beginsB Eq'
  by_cases h0 : k = 0 <;> by_cases h1 : cls (v k) = cls (v (k - 1)) <;> by_cases h2 : key (v k) = key (v (k - 1)) <;> simp [h0, h1, h2]

/-- How many of the first k begin a run. -/
def runs (v : Nat → Nat) : Nat → Nat
  | 0 => 0
  | k + 1 => runs v k + if beginsB v k then 1 else 0
theorem runs_le (v : Nat → Nat) (k : Nat) : runs v k ≤ k := by
  induction k with
  | zero => exact Nat.le_refl _
  | succ k ih => simp only [runs]; split <;> omega
theorem runs_mono (v : Nat → Nat) {i j : Nat} (h : i ≤ j) : runs v i ≤ runs v j := by
  induction j with
  | zero => obtain rfl : i = 0 := by omega
            exact Nat.le_refl _
  | succ j ih =>
    by_cases e : i = j + 1
    · subst e; exact Nat.le_refl _
    · have := ih (by omega)
      simp only [runs]
      omega
theorem runs_yes {v : Nat → Nat} {k : Nat} (h : k = 0 ∨ ¬ Eq' (v k) (v (k - 1))) : runs v (k + 1) = runs v k + 1 := by
  simp only [runs]; rw [if_pos ((beginsB_iff v k).2 h)]
theorem runs_no {v : Nat → Nat} {k : Nat} (h0 : k ≠ 0) (h : Eq' (v k) (v (k - 1))) : runs v (k + 1) = runs v k := by
  simp only [runs]; rw [if_neg (fun e => by rcases (beginsB_iff v k).1 e with h1 | h1; exact h0 h1; exact h1 h)]; rfl

theorem eqSymm {x y : Nat} (h : Eq' x y) : Eq' y x := ⟨h.1.symm, h.2.symm⟩
theorem eqTrans {x y z : Nat} (h : Eq' x y) (g : Eq' y z) : Eq' x z := ⟨h.1.trans g.1, h.2.trans g.2⟩

/-- Between the start of a run and its end one run begins. -/
theorem runs_end {v : Nat → Nat} {n st en : Nat} (hE : IsEnd v n st en) (hb : st = 0 ∨ ¬ Eq' (v st) (v (st - 1))) : runs v en = runs v st + 1 := by
  have hlo := hE.lo
  have key : ∀ j, st < j → j ≤ en → runs v j = runs v st + 1 := by
    intro j
    induction j with
    | zero => intro h; omega
    | succ j ih =>
      intro h1 h2
      by_cases e : j = st
      · subst e; exact runs_yes hb
      · rw [runs_no (by omega) ?_]
        · exact ih (by omega) (by omega)
        · have e1 := hE.run j (by omega) (by omega)
          by_cases e2 : j - 1 = st
          · rw [e2]; exact e1
          · exact eqTrans e1 (eqSymm (hE.run (j - 1) (by omega) (by omega)))
  exact key en hlo (Nat.le_refl _)

/-- Where a run ends the next begins. -/
theorem begins_end {v : Nat → Nat} {n st en : Nat} (hE : IsEnd v n st en) (h : en < n) : ¬ Eq' (v en) (v (en - 1)) := by
  have hlo := hE.lo
  intro e
  apply hE.stop h
  by_cases e2 : en - 1 = st
  · rw [← e2]; exact e
  · exact eqTrans e (hE.run (en - 1) (by omega) (by omega))

/-- The even share: how q = ceil(m / left) stands to m. -/
theorem share {m left q : Int} (hm : 0 ≤ m) (hl : 1 ≤ left) (hq : q = (m + left - 1) / left) : 0 ≤ q ∧ q ≤ m ∧ m ≤ q * left ∧ (q - 1) * left < m ∧ q * left ≤ m + left - 1 := by
  have h1 : q * left ≤ m + left - 1 := by rw [hq]; exact Int.ediv_mul_le _ (by omega)
  have h2 : m + left - 1 < (q + 1) * left := by rw [hq]; exact Int.lt_ediv_add_one_mul_self _ (by omega)
  have h0 : 0 ≤ q := by rw [hq]; exact Int.ediv_nonneg (by omega) (by omega)
  rw [Int.add_mul, Int.one_mul] at h2
  have h3 : (q - 1) * left = q * left - left := by rw [Int.sub_mul, Int.one_mul]
  refine ⟨h0, ?_, by omega, by omega, h1⟩
  rcases Int.lt_or_le m q with h | h
  · have h4 : (m + 1) * left ≤ q * left := Int.mul_le_mul_of_nonneg_right (by omega) (by omega)
    rw [Int.add_mul, Int.one_mul] at h4
    have h5 : m * 1 ≤ m * left := Int.mul_le_mul_of_nonneg_left hl hm
    omega
  · exact h

/-- .. where there are at least 'left' to share: each share has one, and enough is left for the others. -/
theorem share_on {m left q : Int} (hl : 1 ≤ left) (hm : left ≤ m) (hq : q = (m + left - 1) / left) : 1 ≤ q ∧ q ≤ m ∧ left - 1 ≤ m - q ∧ (left = 1 → q = m) := by
  obtain ⟨k1, k2, k3, k4, k5⟩ := share (m := m) (left := left) (by omega) hl hq
  refine ⟨?_, k2, ?_, ?_⟩
  · rcases Int.lt_or_le q 1 with h | h
    · obtain rfl : q = 0 := by omega
      rw [Int.zero_mul] at k3
      omega
    · exact h
  · rcases Int.lt_or_le (m - q) (left - 1) with h | h
    · have h4 : (m - left + 1) * left ≤ (q - 1) * left := Int.mul_le_mul_of_nonneg_right (by omega) (by omega)
      have h5 : (m - left) * 1 ≤ (m - left) * left := Int.mul_le_mul_of_nonneg_left hl (by omega)
      have h6 : (m - left + 1) * left = (m - left) * left + left := by rw [Int.add_mul, Int.one_mul]
      omega
    · exact h
  · intro e
    subst e
    rw [Int.mul_one] at k3
    omega

end Go.Proofs.Qxb6601588a
