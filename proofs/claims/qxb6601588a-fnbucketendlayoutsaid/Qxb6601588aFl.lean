/-
  PLAIN MATHEMATICS: how two float64 words stand to each other. A word that is no NaN has a class (-1, 0, 1: an infinity or a number) and, among the numbers, an integer; the order is that of the pairs.
-/
import GoSem.Core.Float
import Ieee.Arith
namespace Go.Proofs.Qxb6601588a.Fl
open Ieee

def P : Int := Ieee.double.leastPlace

def cls (x : Nat) : Int := match Ieee.double.read x with
  | .infinity s => if s then -1 else 1
  | _ => 0
def key (x : Nat) : Int := match Ieee.double.read x with
  | .number s m i => signed s m (i - P).toNat
  | _ => 0
def IsNan (x : Nat) : Prop := ∃ s f, Ieee.double.read x = .nan s f

theorem place_ge {x : Nat} {s : Bool} {m : Nat} {i : Int} (h : Ieee.double.read x = .number s m i) : P ≤ i := by
  unfold Format.read at h
  simp only at h
  split at h
  · injection h with _ _ h; unfold P; omega
  · split at h
    · injection h with _ _ h; unfold P; omega
    · split at h <;> cases h

theorem signed_mul (s : Bool) (m a b : Nat) : signed s m (a + b) = signed s m a * (2 ^ b : Nat) := by
  have e : (m <<< (a + b) : Nat) = (m <<< a) * 2 ^ b := by
    rw [Nat.shiftLeft_eq, Nat.shiftLeft_eq, Nat.pow_add, Nat.mul_assoc]
  unfold signed
  rw [e]
  cases s
  · simp
  · simp only [if_true]
    rw [Int.neg_mul, Int.natCast_mul]

theorem order_num (s t : Bool) (m n : Nat) (i j : Int) (hi : P ≤ i) (hj : P ≤ j) :
    Datum.order (.number s m i) (.number t n j) = some (compare (signed s m (i - P).toNat) (signed t n (j - P).toNat)) := by
  have hb : P ≤ min i j := by omega
  have e1 : (i - P).toNat = (i - min i j).toNat + (min i j - P).toNat := by omega
  have e2 : (j - P).toNat = (j - min i j).toNat + (min i j - P).toNat := by omega
  rw [e1, e2, signed_mul, signed_mul]
  show some (compare _ _) = _
  generalize signed s m (i - min i j).toNat = u
  generalize signed t n (j - min i j).toNat = v
  have hp : (0 : Int) < ((2 ^ (min i j - P).toNat : Nat) : Int) := by
    have := Nat.two_pow_pos (min i j - P).toNat
    omega
  generalize ((2 ^ (min i j - P).toNat : Nat) : Int) = c at hp
  congr 1
  rcases Int.lt_trichotomy u v with h | h | h
  · rw [Int.compare_eq_lt.2 h, Int.compare_eq_lt.2 (Int.mul_lt_mul_of_pos_right h hp)]
  · subst h; simp
  · rw [Int.compare_eq_gt.2 h, Int.compare_eq_gt.2 (Int.mul_lt_mul_of_pos_right h hp)]

/-- The order of two words that are no NaNs. -/
def Lt (x y : Nat) : Prop := cls x < cls y ∨ (cls x = cls y ∧ key x < key y)
def Eq' (x y : Nat) : Prop := cls x = cls y ∧ key x = key y

theorem order_cases {x y : Nat} (hx : ¬ IsNan x) (hy : ¬ IsNan y) :
    (Lt x y ∧ Ieee.double.order x y = some .lt) ∨ (Eq' x y ∧ Ieee.double.order x y = some .eq) ∨ (Lt y x ∧ Ieee.double.order x y = some .gt) := by
  unfold Lt Eq' Format.order
  cases ex : Ieee.double.read x with
  | nan s f => exact absurd ⟨s, f, ex⟩ hx
  | infinity s =>
    cases ey : Ieee.double.read y with
    | nan s f => exact absurd ⟨s, f, ey⟩ hy
    | infinity t => cases s <;> cases t <;> simp [cls, key, ex, ey, Datum.order] <;> rfl
    | number t n j => cases s <;> simp [cls, key, ex, ey, Datum.order]
  | number s m i =>
    cases ey : Ieee.double.read y with
    | nan s f => exact absurd ⟨s, f, ey⟩ hy
    | infinity t => cases t <;> simp [cls, key, ex, ey, Datum.order]
    | number t n j =>
      rw [order_num s t m n i j (place_ge ex) (place_ge ey)]
      have hcx : cls x = 0 := by simp [cls, ex]
      have hcy : cls y = 0 := by simp [cls, ey]
      have hkx : key x = signed s m (i - P).toNat := by simp [key, ex]
      have hky : key y = signed t n (j - P).toNat := by simp [key, ey]
      rw [← hkx, ← hky, hcx, hcy]
      rcases Int.lt_trichotomy (key x) (key y) with h | h | h
      · left; exact ⟨.inr ⟨rfl, h⟩, by rw [Int.compare_eq_lt.2 h]⟩
      · right; left; exact ⟨⟨rfl, h⟩, by rw [Int.compare_eq_eq.2 h]⟩
      · right; right; exact ⟨.inr ⟨rfl, h⟩, by rw [Int.compare_eq_gt.2 h]⟩

theorem nan_order {x : Nat} (h : IsNan x) : Ieee.double.order x x = none := by
  obtain ⟨s, f, e⟩ := h
  simp [Format.order, e, Datum.order]

/-- 'x != x' says no just where x is no NaN. -/
theorem not_nan {x : Nat} (h : (Ieee.double.order x x != some .eq) = false) : ¬ IsNan x := by
  intro hn
  rw [nan_order hn] at h
  cases h

end Go.Proofs.Qxb6601588a.Fl
