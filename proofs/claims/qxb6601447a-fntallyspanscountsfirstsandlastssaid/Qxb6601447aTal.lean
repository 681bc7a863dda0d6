/-
  PLAIN MATHEMATICS, no Go: the tally of a sorted list of numbers: each number once, with how many times it is there; what it says of the list.
-/
namespace Go.Proofs.Qxb6601447a.Tal

/-- The first n values of g, as a list. -/
def lst {α : Type} (g : Nat → α) (n : Nat) : List α := (List.range n).map g
theorem length_lst {α : Type} (g : Nat → α) (n : Nat) : (lst g n).length = n := by simp [lst]
theorem lst_succ {α : Type} (g : Nat → α) (n : Nat) : lst g (n + 1) = lst g n ++ [g n] := by simp [lst, List.range_succ]
theorem getD_lst {α : Type} (g : Nat → α) (n : Nat) (d : α) (i : Nat) (h : i < n) : (lst g n).getD i d = g i := by simp [lst, List.getD, h]
theorem lst_getD (l : List Int) : lst (fun i => l.getD i 0) l.length = l := by
  apply List.ext_getElem (by simp [lst])
  intro i h1 h2
  simp [lst, List.getD, h2]
theorem lst_congr {α : Type} {g g' : Nat → α} {n : Nat} (h : ∀ i, i < n → g i = g' i) : lst g n = lst g' n := by
  simp only [lst]
  exact List.map_congr_left fun i hi => h i (by simpa using hi)

/-- How many of the first n values of g are x. -/
def cnt (g : Nat → Int) (x : Int) : Nat → Nat
  | 0 => 0
  | n + 1 => cnt g x n + if g n = x then 1 else 0
theorem cnt_eq (g : Nat → Int) (x : Int) (n : Nat) : cnt g x n = (lst g n).count x := by
  induction n with
  | zero => rfl
  | succ n ih =>
    rw [lst_succ, List.count_append, cnt, ih, List.count_singleton]
    by_cases h : g n = x <;> simp [h]
theorem cnt_le (g : Nat → Int) (x : Int) (n : Nat) : cnt g x n ≤ n := by
  induction n with
  | zero => exact Nat.le_refl _
  | succ n ih => simp only [cnt]; split <;> omega

/-- The sorted list. -/
def srt (l : List Int) : List Int := l.mergeSort fun x y => decide (x ≤ y)
theorem srt_perm (l : List Int) : (srt l).Perm l := List.mergeSort_perm _ _
theorem length_srt (l : List Int) : (srt l).length = l.length := (srt_perm l).length_eq
theorem srt_sorted (l : List Int) : (srt l).Pairwise (· ≤ ·) := by
  have h := List.pairwise_mergeSort (le := fun x y : Int => decide (x ≤ y)) (fun a b c h1 h2 => by simp at h1 h2 ⊢; omega) (fun a b => by simp; omega) l
  exact h.imp fun h => by simpa using h
theorem srt_of_perm {l m : List Int} (h : l.Perm m) : srt l = srt m :=
  List.Perm.eq_of_pairwise (le := (· ≤ ·)) (fun a b _ _ h1 h2 => by omega) (srt_sorted l) (srt_sorted m) (((srt_perm l).trans h).trans (srt_perm m).symm)
theorem srt_reverse (g : Nat → Int) (n : Nat) : srt (lst (fun i => g (n - 1 - i)) n) = srt (lst g n) := by
  apply srt_of_perm
  have : lst (fun i => g (n - 1 - i)) n = (lst g n).reverse := by
    apply List.ext_getElem (by simp [lst])
    intro i h1 h2
    simp [lst] at h1 ⊢
  rw [this]
  exact List.reverse_perm _

/-- One number more, at the end. -/
def push : List (Int × Int) → Int → List (Int × Int)
  | [], x => [(x, 1)]
  | q :: T, x => match T with
    | [] => if q.1 = x then [(q.1, q.2 + 1)] else [q, (x, 1)]
    | _ :: _ => q :: push T x

theorem push_same (T : List (Int × Int)) (y c : Int) : push (T ++ [(y, c)]) y = T ++ [(y, c + 1)] := by
  induction T with
  | nil => simp [push]
  | cons q T ih =>
    cases T with
    | nil => simp [push]
    | cons r T => simp only [List.cons_append] at ih ⊢; rw [push]; rw [ih]
theorem push_other (T : List (Int × Int)) (y c x : Int) (h : y ≠ x) : push (T ++ [(y, c)]) x = T ++ [(y, c)] ++ [(x, 1)] := by
  induction T with
  | nil => simp [push, h]
  | cons q T ih =>
    cases T with
    | nil => simp [push, h]
    | cons r T => simp only [List.cons_append] at ih ⊢; rw [push]; rw [ih]

def tal (S : List Int) : List (Int × Int) := S.foldl push []
theorem tal_snoc (S : List Int) (x : Int) : tal (S ++ [x]) = push (tal S) x := by simp [tal, List.foldl_append]

def expand (T : List (Int × Int)) : List Int := T.flatMap fun q => List.replicate q.2.toNat q.1
theorem expand_append (T U : List (Int × Int)) : expand (T ++ U) = expand T ++ expand U := by simp [expand]
theorem expand_one (y c : Int) : expand [(y, c)] = List.replicate c.toNat y := by simp [expand]

/-- T is the tally of S. -/
structure Good (S : List Int) (T : List (Int × Int)) : Prop where
  exp : expand T = S
  pos : ∀ q ∈ T, 1 ≤ q.2
  inc : T.Pairwise fun a b => a.1 < b.1

theorem mem_expand {T : List (Int × Int)} {y c : Int} (h : (y, c) ∈ T) (hc : 1 ≤ c) : y ∈ expand T := by
  unfold expand
  exact List.mem_flatMap.2 ⟨(y, c), h, by simp; omega⟩

theorem Good.push {S : List Int} {T : List (Int × Int)} {x : Int} (h : Good S T) (hx : ∀ y ∈ S, y ≤ x) : Good (S ++ [x]) (Tal.push T x) := by
  rcases List.eq_nil_or_concat T with e | ⟨T', ⟨y, c⟩, e⟩
  · subst e
    have : S = [] := by have := h.exp; simpa [expand] using this.symm
    subst this
    exact ⟨by simp [Tal.push, expand], by simp [Tal.push], by simp [Tal.push]⟩
  · rw [List.concat_eq_append] at e
    subst e
    have hc := h.pos (y, c) (by simp)
    have hy : y ≤ x := hx y (by rw [← h.exp]; exact mem_expand (by simp) hc)
    have hi := List.pairwise_append.1 h.inc
    by_cases e : y = x
    · subst e
      rw [push_same]
      refine ⟨?_, ?_, ?_⟩
      · rw [← h.exp, expand_append, expand_append, expand_one, expand_one, List.append_assoc]
        congr 1
        have : (c + 1).toNat = c.toNat + 1 := by simp only at hc; omega
        rw [this, List.replicate_succ']
      · intro q hq
        rcases List.mem_append.1 hq with h1 | h1
        · exact h.pos q (by simp [h1])
        · simp at h1; subst h1; simp only at hc ⊢; omega
      · exact List.pairwise_append.2 ⟨hi.1, by simp, fun a ha b hb => by simp at hb; subst hb; exact hi.2.2 a ha (y, c) (by simp)⟩
    · rw [push_other _ _ _ _ e]
      refine ⟨?_, ?_, ?_⟩
      · rw [← h.exp, expand_append, expand_one]; simp
      · intro q hq
        rcases List.mem_append.1 hq with h1 | h1
        · exact h.pos q h1
        · simp at h1; subst h1; simp
      · refine List.pairwise_append.2 ⟨h.inc, by simp, fun a ha b hb => ?_⟩
        simp at hb; subst hb
        rcases List.mem_append.1 ha with h1 | h1
        · have := hi.2.2 a h1 (y, c) (by simp)
          simp only at this ⊢; omega
        · simp at h1; subst h1; simp only; omega

theorem tal_good {S : List Int} (hS : S.Pairwise (· ≤ ·)) (k : Nat) : Good (S.take k) (tal (S.take k)) := by
  induction k with
  | zero => exact ⟨by simp [tal, expand], by simp [tal], by simp [tal]⟩
  | succ k ih =>
    by_cases hk : k < S.length
    · rw [List.take_succ_eq_append_getElem hk, tal_snoc]
      refine ih.push fun y hy => ?_
      have : (S.take k ++ S.drop k).Pairwise (· ≤ ·) := by rw [List.take_append_drop]; exact hS
      exact (List.pairwise_append.1 this).2.2 y hy _ (by rw [List.drop_eq_getElem_cons hk]; exact List.mem_cons_self)
    · rw [List.take_of_length_le (by omega)] at ih ⊢; exact ih

theorem tal_good_all {S : List Int} (hS : S.Pairwise (· ≤ ·)) : Good S (tal S) := by
  have := tal_good hS S.length
  rwa [List.take_length] at this

theorem expand_le : ∀ (T : List (Int × Int)), (∀ q ∈ T, 1 ≤ q.2) → T.length ≤ (expand T).length ∧ ∀ q ∈ T, q.2 ≤ (expand T).length
  | [], _ => ⟨by simp, by simp⟩
  | q :: T, hp => by
    have h1 := hp q (by simp)
    obtain ⟨i1, i2⟩ := expand_le T fun r hr => hp r (by simp [hr])
    have e : (expand (q :: T)).length = q.2.toNat + (expand T).length := by
      rw [show q :: T = [(q.1, q.2)] ++ T from rfl, expand_append, expand_one, List.length_append, List.length_replicate]
    rw [e]
    refine ⟨by simp; omega, fun r hr => ?_⟩
    rcases List.mem_cons.1 hr with h2 | h2
    · subst h2; omega
    · have := i2 r h2; omega

theorem Good.le {S : List Int} {T : List (Int × Int)} (h : Good S T) : T.length ≤ S.length ∧ ∀ q ∈ T, q.2 ≤ S.length := by
  rw [← h.exp]; exact expand_le T h.pos

theorem count_zero {T : List (Int × Int)} {x : Int} (h : ∀ q ∈ T, q.1 ≠ x) : (expand T).count x = 0 := by
  rw [List.count_eq_zero]
  intro hm
  obtain ⟨q, hq, hx⟩ := List.mem_flatMap.1 hm
  exact h q hq (by have := (List.mem_replicate.1 hx).2; exact this.symm)

theorem count_expand {T : List (Int × Int)} (hi : T.Pairwise fun a b => a.1 < b.1) {x c : Int} (h : (x, c) ∈ T) : (expand T).count x = c.toNat := by
  induction T with
  | nil => simp at h
  | cons q T ih =>
    rw [show q :: T = [q] ++ T from rfl, expand_append, List.count_append]
    obtain ⟨h1, h2⟩ := List.pairwise_cons.1 hi
    have e1 : expand [q] = List.replicate q.2.toNat q.1 := expand_one q.1 q.2
    rcases List.mem_cons.1 h with e | e
    · subst e
      rw [e1, count_zero fun r hr => by have := h1 r hr; simp only at this; omega]
      simp
    · rw [ih h2 e, e1]
      have := h1 _ e
      rw [List.count_replicate, if_neg (by simp; simp only at this; omega)]
      omega

/-- The numbers and the times, as functions. -/
def num (T : List (Int × Int)) (i : Nat) : Int := (T.getD i (0, 0)).1
def tim (T : List (Int × Int)) (i : Nat) : Int := (T.getD i (0, 0)).2
theorem mem_at {T : List (Int × Int)} {i : Nat} (h : i < T.length) : (num T i, tim T i) ∈ T := by
  unfold num tim
  simp only [List.getD, List.getElem?_eq_getElem h, Option.getD_some]
  exact List.getElem_mem h
theorem num_inc {T : List (Int × Int)} (hi : T.Pairwise fun a b => a.1 < b.1) {i j : Nat} (hij : i < j) (h : j < T.length) : num T i < num T j := by
  unfold num
  simp only [List.getD, List.getElem?_eq_getElem h, List.getElem?_eq_getElem (show i < T.length by omega), Option.getD_some]
  exact List.pairwise_iff_getElem.1 hi i j (by omega) h hij

/-- How many numbers the first k entries stand for. -/
def upto (T : List (Int × Int)) (k : Nat) : Nat := (expand (T.take k)).length
theorem upto_zero (T : List (Int × Int)) : upto T 0 = 0 := rfl
theorem take_at {T : List (Int × Int)} {k : Nat} (h : k < T.length) : T.take (k + 1) = T.take k ++ [(num T k, tim T k)] := by
  have e : (num T k, tim T k) = T[k] := by simp [num, tim, List.getD, List.getElem?_eq_getElem h]
  rw [e]
  exact List.take_succ_eq_append_getElem h
theorem upto_succ {T : List (Int × Int)} {k : Nat} (h : k < T.length) : upto T (k + 1) = upto T k + (tim T k).toNat := by
  unfold upto
  rw [take_at h, expand_append, expand_one]
  simp
theorem upto_all (T : List (Int × Int)) : upto T T.length = (expand T).length := by simp [upto]

/-- Entry k spelled out: the numbers from 'upto T k' on are all 'num T k', 'tim T k' of them. -/
theorem expand_at {T : List (Int × Int)} {k c : Nat} (h : k < T.length) (hc : (c : Int) < tim T k) : (expand T).getD (upto T k + c) 0 = num T k ∧ upto T k + c < (expand T).length := by
  have e : expand T = expand (T.take k) ++ (List.replicate (tim T k).toNat (num T k) ++ expand (T.drop (k + 1))) := by
    rw [← expand_one, ← expand_append, ← expand_append, ← List.append_assoc, ← take_at h, List.take_append_drop]
  have hl : upto T k = (expand (T.take k)).length := rfl
  rw [e, hl]
  constructor
  · rw [List.getD, List.getElem?_append_right (by omega), Nat.add_sub_cancel_left, List.getElem?_append_left (by simp; omega), List.getElem?_replicate, if_pos (by omega)]
    rfl
  · simp; omega

/-- What the law asks of a tally: all of it, for values g that are a permutation of S. -/
structure IsTally (g : Nat → Int) (n : Nat) (T : List (Int × Int)) : Prop where
  inc : ∀ k, 0 < k → k < T.length → num T (k - 1) < num T k
  pos : ∀ k, k < T.length → 1 ≤ tim T k
  le : ∀ k, k < T.length → tim T k ≤ n
  cnt : ∀ k, k < T.length → tim T k = cnt g (num T k) n
  sum : upto T T.length = n

theorem isTally_of {g : Nat → Int} {n : Nat} {S : List Int} {T : List (Int × Int)} (hS : S.Perm (lst g n)) (h : Good S T) : IsTally g n T := by
  have hl : S.length = n := by rw [hS.length_eq, length_lst]
  refine ⟨fun k h0 hk => num_inc h.inc (by omega) hk, fun k hk => h.pos _ (mem_at hk), fun k hk => by have := h.le.2 _ (mem_at hk); rw [hl] at this; exact this, fun k hk => ?_, ?_⟩
  · rw [cnt_eq, ← hS.count_eq, ← h.exp, count_expand h.inc (mem_at hk)]
    have := h.pos _ (mem_at hk)
    simp only at this; omega
  · rw [upto_all, h.exp, hl]

end Go.Proofs.Qxb6601447a.Tal
