/-
  PLAIN MATHEMATICS, no Go: a map of parents 'p' on the numbers below n (a negative parent: a root); walks along it; which numbers come back to themselves; what the marking search of 'firstOnCycle' keeps true.
-/
namespace Go.Proofs.Qxb6601447a.Cyc

/-- k steps along p from i; none where a root has been passed. -/
def it (p : Nat → Int) : Nat → Nat → Option Nat
  | 0, i => some i
  | k + 1, i => if 0 ≤ p i then it p k (p i).toNat else none

def Reach (p : Nat → Int) (i j : Nat) : Prop := ∃ k, it p k i = some j
def Cyc (p : Nat → Int) (i : Nat) : Prop := ∃ k, it p (k + 1) i = some i

def upd {α : Type} (g : Nat → α) (i : Nat) (v : α) : Nat → α := fun j => if j = i then v else g j
theorem upd_same {α : Type} (g : Nat → α) (i : Nat) (v : α) : upd g i v i = v := by simp [upd]
theorem upd_ne {α : Type} (g : Nat → α) (i : Nat) (v : α) (j : Nat) (h : j ≠ i) : upd g i v j = g j := by simp [upd, h]

theorem it_add (p : Nat → Int) (a b i : Nat) : it p (a + b) i = (it p a i).bind (it p b) := by
  induction a generalizing i with
  | zero => simp [it]
  | succ a ih =>
    rw [show a + 1 + b = (a + b) + 1 by omega]
    simp only [it]
    split
    · exact ih _
    · rfl

theorem it_next (p : Nat → Int) (k i m : Nat) (h : it p k i = some m) : it p (k + 1) i = if 0 ≤ p m then some (p m).toNat else none := by
  rw [it_add, h]; simp [it]

theorem it_none (p : Nat → Int) (k d i : Nat) (h : it p k i = none) : it p (k + d) i = none := by
  rw [it_add, h]; rfl

theorem Reach.refl (p : Nat → Int) (i : Nat) : Reach p i i := ⟨0, rfl⟩
theorem Reach.trans {p : Nat → Int} {i j k : Nat} (h : Reach p i j) (g : Reach p j k) : Reach p i k := by
  obtain ⟨a, ha⟩ := h
  obtain ⟨b, hb⟩ := g
  exact ⟨a + b, by rw [it_add, ha]; exact hb⟩
theorem Reach.next {p : Nat → Int} {i j : Nat} (h : Reach p i j) (g : 0 ≤ p j) : Reach p i (p j).toNat := by
  obtain ⟨a, ha⟩ := h
  exact ⟨a + 1, by rw [it_next p a i j ha, if_pos g]⟩

theorem cyc_many {p : Nat → Int} {i d : Nat} (h : it p d i = some i) (m : Nat) : it p (d * m) i = some i := by
  induction m with
  | zero => rfl
  | succ m ih => rw [Nat.mul_succ, it_add, ih]; exact h

theorem cyc_back {p : Nat → Int} {v c : Nat} (h : Cyc p v) (g : Reach p v c) : Reach p c v := by
  obtain ⟨d, hd⟩ := h
  obtain ⟨k, hk⟩ := g
  have hm := cyc_many hd k
  have hle : k ≤ (d + 1) * k := by rw [Nat.succ_mul]; omega
  obtain ⟨r, hr⟩ := Nat.le.dest hle
  rw [← hr, it_add, hk] at hm
  exact ⟨r, hm⟩

theorem cyc_of_reach {p : Nat → Int} {c v : Nat} (h : Cyc p c) (g : Reach p c v) : Cyc p v := by
  obtain ⟨a, ha⟩ := cyc_back h g
  obtain ⟨b, hb⟩ := g
  by_cases e : a + b = 0
  · obtain rfl : b = 0 := by omega
    simp only [it, Option.some.injEq] at hb
    subst hb
    exact h
  · refine ⟨a + b - 1, ?_⟩
    rw [show a + b - 1 + 1 = a + b by omega, it_add, ha]
    exact hb

theorem cyc_not_dead {p : Nat → Int} {v k : Nat} (h : Cyc p v) (g : it p k v = none) : False := by
  obtain ⟨d, hd⟩ := h
  have hm := cyc_many hd k
  have hle : k ≤ (d + 1) * k := by rw [Nat.succ_mul]; omega
  obtain ⟨r, hr⟩ := Nat.le.dest hle
  rw [← hr, it_none p k r v g] at hm
  cases hm

theorem cyc_pos {p : Nat → Int} {v : Nat} (h : Cyc p v) : 0 ≤ p v := by
  obtain ⟨d, hd⟩ := h
  simp only [it] at hd
  split at hd
  · assumption
  · cases hd

/-- What is closed under p and holds of i holds of all that i comes to. -/
theorem reach_closed {p : Nat → Int} {n : Nat} (hp : ∀ i, i < n → p i < n) {S : Nat → Prop} (hS : ∀ i, i < n → S i → 0 ≤ p i → S (p i).toNat) {i j : Nat} (hi : i < n) (h : S i) (g : Reach p i j) : S j ∧ j < n := by
  obtain ⟨k, hk⟩ := g
  induction k generalizing i with
  | zero => simp only [it, Option.some.injEq] at hk; subst hk; exact ⟨h, hi⟩
  | succ k ih =>
    simp only [it] at hk
    split at hk
    · rename_i h0
      have := hp i hi
      exact ih (by omega) (hS i hi h h0) hk
    · cases hk

/-! ### The count of those that are not yet marked -/
def zc {α : Type} [DecidableEq α] (z : α) (g : Nat → α) : Nat → Nat
  | 0 => 0
  | n + 1 => zc z g n + if g n = z then 1 else 0

theorem zc_le {α : Type} [DecidableEq α] (z : α) (g : Nat → α) (n : Nat) : zc z g n ≤ n := by
  induction n with
  | zero => exact Nat.le_refl _
  | succ n ih => simp only [zc]; split <;> omega

theorem zc_upd_out {α : Type} [DecidableEq α] (z : α) (g : Nat → α) (n i : Nat) (v : α) (h : n ≤ i) : zc z (upd g i v) n = zc z g n := by
  induction n with
  | zero => rfl
  | succ n ih => simp only [zc]; rw [ih (by omega), upd_ne g i v n (by omega)]

theorem zc_upd {α : Type} [DecidableEq α] (z : α) (g : Nat → α) (n i : Nat) (v : α) (h : i < n) (hz : g i = z) (hv : v ≠ z) : zc z (upd g i v) n < zc z g n := by
  induction n with
  | zero => omega
  | succ n ih =>
    simp only [zc]
    by_cases e : i = n
    · subst e
      rw [zc_upd_out z g i i v (Nat.le_refl _), upd_same, if_pos hz, if_neg hv]
      omega
    · rw [upd_ne g i v n (by omega)]
      have := ih (by omega)
      omega

/-! ### The search's invariants -/
/-- Between two walks: the starts below s are done. -/
structure Inv (p : Nat → Int) (n s : Nat) (wb : Nat → Int) (on : Nat → Bool) : Prop where
  lo : ∀ i, i < n → 0 ≤ wb i ∧ wb i ≤ s
  done : ∀ i, i < n → i < s → wb i ≠ 0
  closed : ∀ i, i < n → wb i ≠ 0 → 0 ≤ p i → wb (p i).toNat ≠ 0
  mark : ∀ i, i < n → (on i = true ↔ wb i ≠ 0 ∧ Cyc p i)

theorem Inv.start (p : Nat → Int) (n : Nat) : Inv p n 0 (fun _ => 0) (fun _ => false) :=
  ⟨fun _ _ => by simp, fun _ _ h => by omega, fun _ _ h => absurd rfl h, fun _ _ => by simp⟩

/-- Inside the walk from s, which has come to c. -/
structure Mid (p : Nat → Int) (n s : Nat) (wb0 wb : Nat → Int) (c : Int) : Prop where
  cur : c < n
  old : ∀ i, i < n → wb0 i ≠ 0 → wb i = wb0 i
  new : ∀ i, i < n → wb0 i = 0 → wb i = 0 ∨ wb i = s + 1
  next : ∀ i, i < n → wb i = s + 1 → p i = c ∨ (0 ≤ p i ∧ wb (p i).toNat = s + 1)
  leads : ∀ i, i < n → wb i = s + 1 → (0 ≤ c → ∃ k, it p (k + 1) i = some c.toNat) ∧ (c < 0 → ∃ k, it p k i = none)
  first : wb s = s + 1 ∨ c = s

theorem Mid.start {p : Nat → Int} {n s : Nat} {wb : Nat → Int} {on : Nat → Bool} (h : Inv p n s wb on) (hs : s < n) : Mid p n s wb wb s :=
  ⟨by omega, fun _ _ _ => rfl, fun _ _ h => .inl h, fun i hi e => by have := (h.lo i hi).2; omega, fun i hi e => by have := (h.lo i hi).2; omega, .inr rfl⟩

theorem Mid.step {p : Nat → Int} {n s : Nat} {wb0 wb : Nat → Int} {c : Nat} (hp : ∀ i, i < n → p i < n) (h : Mid p n s wb0 wb c) (hc : wb c = 0) : Mid p n s wb0 (upd wb c (s + 1)) (p c) := by
  have hcn : c < n := by have := h.cur; omega
  have u : ∀ i, i ≠ c → upd wb c ((s : Int) + 1) i = wb i := fun i hi => upd_ne _ _ _ _ hi
  have us : upd wb c ((s : Int) + 1) c = s + 1 := upd_same _ _ _
  refine ⟨hp c hcn, ?_, ?_, ?_, ?_, ?_⟩
  · intro i hi h0
    have e := h.old i hi h0
    have : i ≠ c := fun e' => by subst e'; rw [hc] at e; exact h0 e.symm
    rw [u i this]; exact e
  · intro i hi h0
    by_cases e : i = c
    · subst e; exact .inr us
    · rw [u i e]; exact h.new i hi h0
  · intro i hi hw
    by_cases e : i = c
    · subst e; exact .inl rfl
    · rw [u i e] at hw
      rcases h.next i hi hw with h1 | ⟨h1, h2⟩
      · right
        refine ⟨by omega, ?_⟩
        rw [h1]; simpa using us
      · right
        refine ⟨h1, ?_⟩
        by_cases e2 : (p i).toNat = c
        · rw [e2]; exact us
        · rw [u _ e2]; exact h2
  · intro i hi hw
    by_cases e : i = c
    · subst e
      exact ⟨fun h0 => ⟨0, by simp [it, h0]⟩, fun h0 => ⟨1, by simp only [it]; rw [if_neg (by omega)]⟩⟩
    · rw [u i e] at hw
      obtain ⟨k, hk⟩ := (h.leads i hi hw).1 (by omega)
      have hn := it_next p (k + 1) i _ hk
      simp only [Int.toNat_natCast] at hn
      exact ⟨fun h0 => ⟨k + 1, by rw [hn, if_pos h0]⟩, fun h0 => ⟨k + 2, by rw [hn, if_neg (by omega)]⟩⟩
  · left
    by_cases e : s = c
    · subst e; exact us
    · rw [u s e]
      rcases h.first with h1 | h1
      · exact h1
      · omega

/-- The walk has ended; it marks nothing. -/
theorem Mid.quit {p : Nat → Int} {n s : Nat} {wb0 wb : Nat → Int} {on : Nat → Bool} {c : Int} (hp : ∀ i, i < n → p i < n) (h : Mid p n s wb0 wb c) (g : Inv p n s wb0 on) (hend : 0 ≤ c → wb c.toNat ≠ 0) (hs : s < n) :
    (∀ i, i < n → 0 ≤ wb i ∧ wb i ≤ ((s + 1 : Nat) : Int)) ∧ (∀ i, i < n → i < s + 1 → wb i ≠ 0) ∧ (∀ i, i < n → wb i ≠ 0 → 0 ≤ p i → wb (p i).toNat ≠ 0) ∧ ((0 ≤ c → wb c.toNat ≠ s + 1) → ∀ i, i < n → (on i = true ↔ wb i ≠ 0 ∧ Cyc p i)) := by
  have hcl : ∀ i, i < n → wb i ≠ 0 → 0 ≤ p i → wb (p i).toNat ≠ 0 := by
    intro i hi hw h0
    by_cases e : wb0 i = 0
    · rcases h.new i hi e with h1 | h1
      · exact absurd h1 hw
      · rcases h.next i hi h1 with h2 | ⟨_, h2⟩
        · rw [h2]; exact hend (by omega)
        · omega
    · have hq := g.closed i hi e h0
      have hr := hp i hi
      rw [h.old _ (by omega) hq]; exact hq
  refine ⟨?_, ?_, hcl, ?_⟩
  · intro i hi
    have := g.lo i hi
    by_cases e : wb0 i = 0
    · rcases h.new i hi e with h1 | h1 <;> omega
    · rw [h.old i hi e]; omega
  · intro i hi his
    by_cases e : i = s
    · subst e
      rcases h.first with h1 | h1
      · omega
      · have := hend (by omega)
        rw [h1] at this; simpa using this
    · have := g.done i hi (by omega)
      rw [h.old i hi this]; exact this
  · intro hnm i hi
    rw [g.mark i hi]
    constructor
    · rintro ⟨h1, h2⟩
      exact ⟨by rw [h.old i hi h1]; exact h1, h2⟩
    · rintro ⟨h1, h2⟩
      refine ⟨fun e => ?_, h2⟩
      rcases h.new i hi e with h3 | h3
      · exact h1 h3
      · by_cases hc : 0 ≤ c
        · obtain ⟨k, hk⟩ := (h.leads i hi h3).1 hc
          have hcn := h.cur
          have hq := hnm hc
          have hz : wb0 c.toNat ≠ 0 := fun e2 => by
            rcases h.new c.toNat (by omega) e2 with h4 | h4
            · exact hend hc h4
            · exact hq h4
          have := (reach_closed hp (S := fun i => wb0 i ≠ 0) g.closed (by omega) hz (cyc_back h2 ⟨_, hk⟩)).1
          exact this e
        · obtain ⟨k, hk⟩ := (h.leads i hi h3).2 (by omega)
          exact cyc_not_dead h2 hk

theorem Mid.quiet {p : Nat → Int} {n s : Nat} {wb0 wb : Nat → Int} {on : Nat → Bool} {c : Int} (hp : ∀ i, i < n → p i < n) (h : Mid p n s wb0 wb c) (g : Inv p n s wb0 on) (hend : 0 ≤ c → wb c.toNat ≠ 0) (hs : s < n) (hnm : 0 ≤ c → wb c.toNat ≠ s + 1) : Inv p n (s + 1) wb on := by
  obtain ⟨a, b, d, e⟩ := h.quit hp g hend hs
  exact ⟨a, b, d, e hnm⟩

/-- The marking loop, which has come to j. -/
structure Mk (p : Nat → Int) (n : Nat) (on0 on : Nat → Bool) (c j : Nat) : Prop where
  cur : j < n
  reach : Reach p c j
  keep : ∀ i, i < n → on0 i = true → on i = true
  new : ∀ i, i < n → on i = true → on0 i = true ∨ Reach p c i
  next : ∀ i, i < n → on i = true → on0 i = true ∨ (p i).toNat = j ∨ on (p i).toNat = true
  first : on c = true ∨ j = c

theorem Mk.start (p : Nat → Int) (n : Nat) (on : Nat → Bool) (c : Nat) (h : c < n) : Mk p n on on c c :=
  ⟨h, Reach.refl _ _, fun _ _ h => h, fun _ _ h => .inl h, fun _ _ h => .inl h, .inr rfl⟩

theorem Mk.pos {p : Nat → Int} {n : Nat} {on0 on : Nat → Bool} {c j : Nat} (h : Mk p n on0 on c j) (hc : Cyc p c) : 0 ≤ p j := cyc_pos (cyc_of_reach hc h.reach)

theorem Mk.step {p : Nat → Int} {n : Nat} {on0 on : Nat → Bool} {c j : Nat} (hp : ∀ i, i < n → p i < n) (h : Mk p n on0 on c j) (hc : Cyc p c) : Mk p n on0 (upd on j true) c (p j).toNat := by
  have hpos := h.pos hc
  have hj := hp j h.cur
  have u : ∀ i, i ≠ j → upd on j true i = on i := fun i hi => upd_ne _ _ _ _ hi
  have us : upd on j true j = true := upd_same _ _ _
  refine ⟨by omega, h.reach.next hpos, ?_, ?_, ?_, ?_⟩
  · intro i hi h0
    by_cases e : i = j
    · subst e; exact us
    · rw [u i e]; exact h.keep i hi h0
  · intro i hi h0
    by_cases e : i = j
    · subst e; exact .inr h.reach
    · rw [u i e] at h0; exact h.new i hi h0
  · intro i hi h0
    by_cases e : i = j
    · subst e; exact .inr (.inl rfl)
    · rw [u i e] at h0
      rcases h.next i hi h0 with h1 | h1 | h1
      · exact .inl h1
      · exact .inr (.inr (by rw [h1]; exact us))
      · refine .inr (.inr ?_)
        by_cases e2 : (p i).toNat = j
        · rw [e2]; exact us
        · rw [u _ e2]; exact h1
  · left
    by_cases e : c = j
    · subst e; exact us
    · rw [u c e]
      rcases h.first with h1 | h1
      · exact h1
      · exact absurd h1.symm e

theorem Mk.all {p : Nat → Int} {n : Nat} {on0 on : Nat → Bool} {c j : Nat} (hp : ∀ i, i < n → p i < n) (h : Mk p n on0 on c j) (hcn : c < n) (hend : on j = true) (hoff : ∀ i, i < n → Reach p c i → on0 i ≠ true) : ∀ i, i < n → (on i = true ↔ on0 i = true ∨ Reach p c i) := by
  intro i hi
  refine ⟨h.new i hi, ?_⟩
  rintro (h1 | ⟨k, hk⟩)
  · exact h.keep i hi h1
  · induction k generalizing i with
    | zero =>
      simp only [it, Option.some.injEq] at hk
      subst hk
      rcases h.first with h1 | h1
      · exact h1
      · rw [← h1]; exact hend
    | succ k ih =>
      rw [it_add] at hk
      cases hm : it p k c with
      | none => rw [hm] at hk; cases hk
      | some m =>
        rw [hm] at hk
        simp only [Option.bind_some, it] at hk
        split at hk
        · simp only [Option.some.injEq] at hk
          subst hk
          have hmn : m < n := (reach_closed hp (S := fun _ => True) (fun _ _ _ _ => trivial) hcn trivial ⟨k, hm⟩).2
          have hom := ih m hmn hm
          rcases h.next m hmn hom with h1 | h1 | h1
          · exact absurd h1 (hoff m hmn ⟨k, hm⟩)
          · rw [h1]; exact hend
          · exact h1
        · cases hk

theorem Mid.cyc {p : Nat → Int} {n s : Nat} {wb0 wb : Nat → Int} {c : Nat} (h : Mid p n s wb0 wb c) (hw : wb c = s + 1) : Cyc p c := by
  have := h.cur
  obtain ⟨k, hk⟩ := (h.leads c (by omega) hw).1 (by omega)
  exact ⟨k, by simpa using hk⟩

theorem Mid.off {p : Nat → Int} {n s : Nat} {wb0 wb : Nat → Int} {on : Nat → Bool} {c : Nat} (hp : ∀ i, i < n → p i < n) (h : Mid p n s wb0 wb c) (g : Inv p n s wb0 on) (hw : wb c = s + 1) : ∀ i, i < n → Reach p c i → on i ≠ true := by
  intro i hi hr ho
  have hcn := h.cur
  have hS : ∀ i, i < n → wb i = s + 1 → 0 ≤ p i → wb (p i).toNat = s + 1 := by
    intro i hi h1 h2
    rcases h.next i hi h1 with h3 | h3
    · rw [h3]; simpa using hw
    · exact h3.2
  have h1 := (reach_closed hp (S := fun i => wb i = s + 1) hS (by omega) hw hr).1
  have h2 := ((g.mark i hi).1 ho).1
  have h3 := h.old i hi h2
  have h4 := (g.lo i hi).2
  omega

/-- The walk has come back to c, which it had passed, and all that c comes to has been marked. -/
theorem Mid.marked {p : Nat → Int} {n s : Nat} {wb0 wb : Nat → Int} {on0 on : Nat → Bool} {c : Nat} (hp : ∀ i, i < n → p i < n) (h : Mid p n s wb0 wb c) (g : Inv p n s wb0 on0) (hw : wb c = s + 1) (hs : s < n) (hon : ∀ i, i < n → (on i = true ↔ on0 i = true ∨ Reach p c i)) : Inv p n (s + 1) wb on := by
  have hcn := h.cur
  obtain ⟨a, b, d, _⟩ := h.quit hp g (fun _ => by simp only [Int.toNat_natCast]; omega) hs
  refine ⟨a, b, d, ?_⟩
  intro i hi
  rw [hon i hi, g.mark i hi]
  constructor
  · rintro (⟨h1, h2⟩ | h1)
    · exact ⟨by rw [h.old i hi h1]; exact h1, h2⟩
    · exact ⟨(reach_closed hp (S := fun i => wb i ≠ 0) d (by omega) (by omega) h1).1, cyc_of_reach (h.cyc hw) h1⟩
  · rintro ⟨h1, h2⟩
    by_cases e : wb0 i = 0
    · right
      rcases h.new i hi e with h3 | h3
      · exact absurd h3 h1
      · obtain ⟨k, hk⟩ := (h.leads i hi h3).1 (by omega)
        exact cyc_back h2 ⟨_, by simpa using hk⟩
    · exact .inl ⟨e, h2⟩

/-! ### The answer -/
/-- r is the least number below n that comes back to itself; -1 where none does. -/
def IsFirst (p : Nat → Int) (n : Nat) (r : Int) : Prop :=
  (r = -1 ∧ ∀ i, i < n → ¬ Cyc p i) ∨ ∃ i : Nat, r = i ∧ i < n ∧ Cyc p i ∧ ∀ j, j < i → ¬ Cyc p j

theorem IsFirst.uniq {p : Nat → Int} {n : Nat} {r s : Int} (h : IsFirst p n r) (g : IsFirst p n s) : r = s := by
  rcases h with ⟨h1, h2⟩ | ⟨i, h1, h2, h3, h4⟩
  · rcases g with ⟨g1, _⟩ | ⟨j, _, g2, g3, _⟩
    · omega
    · exact absurd g3 (h2 j g2)
  · rcases g with ⟨_, g2⟩ | ⟨j, g1, g2, g3, g4⟩
    · exact absurd h3 (g2 i h2)
    · by_cases e : i < j
      · exact absurd h3 (g4 i e)
      · by_cases e2 : j < i
        · exact absurd g3 (h4 j e2)
        · omega

theorem Inv.cyc {p : Nat → Int} {n : Nat} {wb : Nat → Int} {on : Nat → Bool} (h : Inv p n n wb on) (i : Nat) (hi : i < n) : on i = true ↔ Cyc p i := by
  rw [h.mark i hi]
  exact ⟨fun g => g.2, fun g => ⟨h.done i hi hi, g⟩⟩

theorem isFirst_of {p : Nat → Int} {n : Nat} {i : Nat} (hi : i < n) (hc : Cyc p i) (h : ∀ j, j < i → ¬ Cyc p j) : IsFirst p n i := .inr ⟨i, rfl, hi, hc, h⟩
theorem isFirst_none {p : Nat → Int} {n : Nat} (h : ∀ j, j < n → ¬ Cyc p j) : IsFirst p n (-1) := .inl ⟨rfl, h⟩

/-! ### A cut takes walks away and brings none -/
theorem it_cut {p : Nat → Int} {r : Nat} {k i j : Nat} (h : it (upd p r (-1)) k i = some j) : it p k i = some j := by
  induction k generalizing i with
  | zero => exact h
  | succ k ih =>
    simp only [it] at h ⊢
    by_cases e : i = r
    · subst e; rw [upd_same] at h; simp at h
    · rw [upd_ne _ _ _ _ e] at h
      split at h
      · rename_i h0; rw [if_pos h0]; exact ih h
      · cases h

theorem cyc_cut {p : Nat → Int} {r i : Nat} (h : Cyc (upd p r (-1)) i) : Cyc p i ∧ i ≠ r := by
  constructor
  · obtain ⟨k, hk⟩ := h; exact ⟨k, it_cut hk⟩
  · intro e; subst e; have := cyc_pos h; rw [upd_same] at this; omega

/-! ### A number that comes back to itself does so within n steps -/
theorem pigeon (n : Nat) : ∀ (d : Nat) (f : Nat → Nat), (∀ i, i < d → f i < n) → (∀ i j, i < d → j < d → f i = f j → i = j) → d ≤ n := by
  induction n with
  | zero => intro d f h _; rcases Nat.eq_zero_or_pos d with e | e; · omega
            · have := h 0 e; omega
  | succ n ih =>
    intro d f h g
    rcases Nat.eq_zero_or_pos d with e | e
    · omega
    · by_cases hn : ∃ i, i < d ∧ f i = n
      · obtain ⟨i0, hi0, hf0⟩ := hn
        have : d - 1 ≤ n := by
          refine ih (d - 1) (fun i => if i = i0 then f (d - 1) else f i) ?_ ?_
          · intro i hi
            show (if i = i0 then f (d - 1) else f i) < n
            split
            · rename_i e1
              have h1 := h (d - 1) (by omega)
              have : f (d - 1) ≠ n := fun e2 => by have := g (d - 1) i0 (by omega) hi0 (by omega); omega
              omega
            · rename_i e1
              have h1 := h i (by omega)
              have : f i ≠ n := fun e2 => e1 (g i i0 (by omega) hi0 (by omega))
              omega
          · intro i j hi hj
            show (if i = i0 then f (d - 1) else f i) = (if j = i0 then f (d - 1) else f j) → i = j
            split <;> split <;> intro e3
            · omega
            · have := g (d - 1) j (by omega) (by omega) e3; omega
            · have := g i (d - 1) (by omega) (by omega) e3; omega
            · exact g i j (by omega) (by omega) e3
        omega
      · have : d ≤ n := ih d f (fun i hi => by have h1 := h i hi; have : f i ≠ n := fun e2 => hn ⟨i, hi, e2⟩; omega) g
        omega

theorem cyc_least {p : Nat → Int} {i : Nat} (h : Cyc p i) : ∃ d, 0 < d ∧ it p d i = some i ∧ ∀ k, 0 < k → k < d → it p k i ≠ some i := by
  obtain ⟨d, hd⟩ := h
  induction d using Nat.strongRecOn with
  | _ d ih =>
    by_cases hm : ∃ m, m < d ∧ it p (m + 1) i = some i
    · obtain ⟨m, h1, h2⟩ := hm
      exact ih m h1 h2
    · refine ⟨d + 1, by omega, hd, fun k h1 h2 h3 => hm ⟨k - 1, by omega, ?_⟩⟩
      rw [show k - 1 + 1 = k by omega]; exact h3

theorem cyc_within {p : Nat → Int} {n i : Nat} (hp : ∀ i, i < n → p i < n) (hi : i < n) (h : Cyc p i) : ∃ d, 0 < d ∧ d ≤ n ∧ it p d i = some i := by
  obtain ⟨d, h0, h1, h2⟩ := cyc_least h
  have hsome : ∀ k, ∃ m, it p k i = some m := by
    intro k
    cases e : it p k i with
    | none => exact absurd e (fun e => cyc_not_dead h e)
    | some m => exact ⟨m, rfl⟩
  have inj : ∀ a b, a < b → b < d → it p a i = it p b i → False := by
    intro a b hab hb e
    -- from a on d - b steps bring it back to i
    have e1 : it p (b + (d - b)) i = some i := by rw [show b + (d - b) = d by omega]; exact h1
    rw [it_add, ← e, ← it_add] at e1
    exact h2 (a + (d - b)) (by omega) (by omega) e1
  refine ⟨d, h0, ?_, h1⟩
  refine pigeon n d (fun k => (it p k i).getD 0) ?_ ?_
  · intro k _
    obtain ⟨m, hm⟩ := hsome k
    show (it p k i).getD 0 < n
    rw [hm]
    exact (reach_closed hp (S := fun _ => True) (fun _ _ _ _ => trivial) hi trivial ⟨k, hm⟩).2
  · intro a b ha hb e
    obtain ⟨m, hm⟩ := hsome a
    obtain ⟨m', hm'⟩ := hsome b
    have e' : it p a i = it p b i := by
      have : (it p a i).getD 0 = (it p b i).getD 0 := e
      rw [hm, hm'] at this ⊢; simp at this; rw [this]
    rcases Nat.lt_trichotomy a b with h3 | h3 | h3
    · exact (inj a b h3 hb e').elim
    · exact h3
    · exact (inj b a h3 ha e'.symm).elim

end Go.Proofs.Qxb6601447a.Cyc
