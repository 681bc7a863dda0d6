/-
  THE PLAIN LAW: rows folded at their first place. No Go in sight (beyond the records).
-/
import Derived.Test.Qxb6601693aMg
namespace Go.Proofs.Qxb6601693a
open Go.RowKit
open Go.Proofs.Qxb6601693a.Mem
set_option linter.unusedVariables false

def sameB (r s : Re) : Bool := decide (r.ty = s.ty ∧ r.cl = s.cl ∧ r.nm = s.nm)
theorem sameB_iff {r s : Re} : sameB r s = true ↔ r.ty = s.ty ∧ r.cl = s.cl ∧ r.nm = s.nm := by simp [sameB]
theorem sameB_symm {r s : Re} (h : sameB r s = true) : sameB s r = true := by rw [sameB_iff] at *; exact ⟨h.1.symm, h.2.1.symm, h.2.2.symm⟩
theorem sameB_trans {r s t : Re} (h : sameB r s = true) (k : sameB s t = true) : sameB r t = true := by rw [sameB_iff] at *; exact ⟨h.1.trans k.1, h.2.1.trans k.2.1, h.2.2.trans k.2.2⟩

def seen (R : Nat → Re) (i : Nat) : Bool := (List.range i).any fun j => sameB (R j) (R i)
def cnt (R : Nat → Re) : Nat → Nat
  | 0 => 0
  | k + 1 => cnt R k + if seen R k then 0 else 1
def strL (r : Re) : List ByteArray := (List.range r.len).map r.str
def cat (R : Nat → Re) (i k : Nat) : List ByteArray := (List.range k).flatMap fun m => if sameB (R m) (R i) then strL (R m) else []

theorem seen_true {R : Nat → Re} {i : Nat} : seen R i = true ↔ ∃ j, j < i ∧ sameB (R j) (R i) = true := by simp [seen]
theorem seen_false {R : Nat → Re} {i : Nat} : seen R i = false ↔ ∀ j, j < i → sameB (R j) (R i) = false := by simp [seen]

theorem cat_succ (R : Nat → Re) (i k : Nat) : cat R i (k + 1) = cat R i k ++ if sameB (R k) (R i) then strL (R k) else [] := by simp [cat, List.range_succ]

theorem cat_length {R : Nat → Re} {n B : Nat} (h : ∀ i, i < n → (R i).len ≤ B) (i : Nat) : ∀ k, k ≤ n → (cat R i k).length ≤ k * B
  | 0, _ => Nat.zero_le _
  | k + 1, hk => by
    have ih := cat_length h i k (by omega)
    have := h k (by omega)
    rw [cat_succ, List.length_append, Nat.succ_mul]
    split
    · simp only [strL, List.length_map, List.length_range]; omega
    · simp only [List.length_nil]; omega

theorem cat_first {R : Nat → Re} {i : Nat} (h : seen R i = false) : ∀ k, k ≤ i → cat R i k = []
  | 0, _ => rfl
  | k + 1, hk => by rw [cat_succ, cat_first h k (by omega), seen_false.1 h k (by omega)]; rfl

theorem cnt_le (R : Nat → Re) : ∀ k, cnt R k ≤ k
  | 0 => Nat.le_refl _
  | k + 1 => by have := cnt_le R k; simp only [cnt]; split <;> omega

theorem cnt_mono (R : Nat → Re) : ∀ {i k : Nat}, i ≤ k → cnt R i ≤ cnt R k
  | i, 0, h => by rw [show i = 0 by omega]; exact Nat.le_refl _
  | i, k + 1, h => by
    by_cases e : i = k + 1
    · rw [e]; exact Nat.le_refl _
    · have := cnt_mono R (i := i) (k := k) (by omega); simp only [cnt]; split <;> omega

theorem cnt_lt {R : Nat → Re} {i k : Nat} (hi : i < k) (h : seen R i = false) : cnt R i < cnt R k := by
  have : cnt R (i + 1) = cnt R i + 1 := by simp [cnt, h]
  have := cnt_mono R (i := i + 1) (k := k) hi
  omega

theorem cnt_onto (R : Nat → Re) : ∀ k j, j < cnt R k → ∃ i, i < k ∧ seen R i = false ∧ cnt R i = j
  | 0, j, h => by simp [cnt] at h
  | k + 1, j, h => by
    by_cases e : j < cnt R k
    · obtain ⟨i, h1, h2⟩ := cnt_onto R k j e
      exact ⟨i, by omega, h2⟩
    · simp only [cnt] at h
      cases hs : seen R k with
      | true => rw [hs] at h; simp at h; omega
      | false => rw [hs] at h; simp at h; exact ⟨k, by omega, hs, by omega⟩

theorem first_of (R : Nat → Re) (i : Nat) : ∃ j, j ≤ i ∧ seen R j = false ∧ sameB (R j) (R i) = true := by
  induction i using Nat.strongRecOn with
  | ind i ih =>
    cases hs : seen R i with
    | false => exact ⟨i, Nat.le_refl _, hs, by simp [sameB]⟩
    | true =>
      obtain ⟨j, hj, hsame⟩ := seen_true.1 hs
      obtain ⟨j', h1, h2, h3⟩ := ih j hj
      exact ⟨j', by omega, h2, sameB_trans h3 hsame⟩

/-- k records folded into L rows. -/
structure Pl (R : Nat → Re) (k L : Nat) (M : Nat → Ent) : Prop where
  len : L = cnt R k
  row : ∀ i, i < k → seen R i = false → (M (cnt R i)).ty = (R i).ty ∧ (M (cnt R i)).cl = (R i).cl ∧ (M (cnt R i)).nm = (R i).nm ∧ (M (cnt R i)).acts = cat R i k ∧ ((M (cnt R i)).sa = none ↔ (R i).sl = none ∧ cat R i k = [])

theorem pl_zero (R : Nat → Re) (M : Nat → Ent) : Pl R 0 0 M := ⟨rfl, fun i hi => by omega⟩

section
variable {R : Nat → Re} {k L : Nat} {M : Nat → Ent} {f : ByteArray → ByteArray → ByteArray → Option Nat}

theorem Pl.add (h : Pl R k L M) (hb : ∀ i, i < L → f (M i).ty (M i).cl (M i).nm = some i) (hf : f (R k).ty (R k).cl (R k).nm = none) (hnil : (R k).sl = none → (R k).len = 0)
    (e : Ent) (h1 : e.ty = (R k).ty) (h2 : e.cl = (R k).cl) (h3 : e.nm = (R k).nm) (h4 : e.acts = strL (R k)) (h5 : e.sa = none ↔ (R k).sl = none) : Pl R (k + 1) (L + 1) (upd M L e) := by
  have hns : ∀ j, j < k → sameB (R j) (R k) = false := fun j hj => by
    cases hs : sameB (R j) (R k) with
    | false => rfl
    | true =>
      obtain ⟨i, hi, hi1, hi2⟩ := first_of R j
      obtain ⟨q1, q2, q3, _⟩ := h.row i (by omega) hi1
      have q := hb (cnt R i) (by rw [h.len]; exact cnt_lt (by omega) hi1)
      have s := sameB_iff.1 (sameB_trans hi2 hs)
      rw [q1, q2, q3, s.1, s.2.1, s.2.2, hf] at q
      cases q
  have hsk : seen R k = false := seen_false.2 hns
  refine ⟨by rw [h.len]; simp [cnt, hsk], fun i hi hs => ?_⟩
  by_cases e0 : i = k
  · subst e0
    rw [← h.len, upd_same, cat_succ, cat_first hsk i (Nat.le_refl _)]
    have hself : sameB (R i) (R i) = true := by simp [sameB]
    rw [hself]
    refine ⟨h1, h2, h3, by simpa using h4, ?_⟩
    rw [h5]
    constructor
    · intro q; exact ⟨q, by simp [strL, hnil q]⟩
    · exact fun q => q.1
  · have hlt := cnt_lt (R := R) (i := i) (k := k) (by omega) hs
    rw [← h.len] at hlt
    rw [upd_ne _ _ _ _ (by omega), cat_succ]
    have : sameB (R k) (R i) = false := by
      cases q : sameB (R k) (R i) with
      | false => rfl
      | true => rw [← hns i (by omega)]; exact (sameB_symm q).symm ▸ rfl
    rw [this]
    simpa using h.row i (by omega) hs

theorem Pl.push (h : Pl R k L M) (hb : ∀ i, i < L → f (M i).ty (M i).cl (M i).nm = some i) (hw : ∀ a b c i, f a b c = some i → i < L ∧ (M i).ty = a ∧ (M i).cl = b ∧ (M i).nm = c)
    {j : Nat} (hf : f (R k).ty (R k).cl (R k).nm = some j) (e : Ent) (h1 : e.ty = (M j).ty) (h2 : e.cl = (M j).cl) (h3 : e.nm = (M j).nm) (h4 : e.acts = (M j).acts ++ strL (R k)) (h5 : e.sa = none ↔ (M j).sa = none ∧ strL (R k) = []) : Pl R (k + 1) L (upd M j e) := by
  obtain ⟨hj, j1, j2, j3⟩ := hw _ _ _ _ hf
  obtain ⟨i0, hi0, hs0, hc0⟩ := cnt_onto R k j (h.len ▸ hj)
  obtain ⟨q1, q2, q3, _⟩ := h.row i0 hi0 hs0
  have hsk : seen R k = true := seen_true.2 ⟨i0, hi0, sameB_iff.2 ⟨by rw [← q1, hc0, j1], by rw [← q2, hc0, j2], by rw [← q3, hc0, j3]⟩⟩
  refine ⟨by rw [h.len]; simp [cnt, hsk], fun i hi hs => ?_⟩
  have hik : i < k := by
    by_cases e0 : i = k
    · subst e0; rw [hsk] at hs; cases hs
    · omega
  obtain ⟨r1, r2, r3, r4, r5⟩ := h.row i hik hs
  by_cases ec : cnt R i = j
  · have hsame : sameB (R k) (R i) = true := sameB_iff.2 ⟨by rw [← r1, ec, j1], by rw [← r2, ec, j2], by rw [← r3, ec, j3]⟩
    rw [ec] at r1 r2 r3 r4 r5
    rw [ec, upd_same, cat_succ, hsame]
    refine ⟨h1.trans r1, h2.trans r2, h3.trans r3, by rw [h4, r4]; rfl, ?_⟩
    rw [h5, r5]
    simp [and_assoc]
  · have hsame : sameB (R k) (R i) = false := by
      cases q : sameB (R k) (R i) with
      | false => rfl
      | true =>
        exfalso
        obtain ⟨s1, s2, s3⟩ := sameB_iff.1 q
        have qb := hb (cnt R i) (by rw [h.len]; exact cnt_lt hik hs)
        rw [r1, r2, r3, ← s1, ← s2, ← s3, hf] at qb
        exact ec (Option.some.inj qb).symm
    rw [upd_ne _ _ _ _ ec, cat_succ, hsame]
    simpa using ⟨r1, r2, r3, r4, r5⟩
end
end Go.Proofs.Qxb6601693a
