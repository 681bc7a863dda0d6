/-
  THE MERGED ROWS IN MEMORY.
-/
import Derived.Test.Qxb6601693aAp
namespace Go.Proofs.Qxb6601693a
open Go.RowKit
open Go.Proofs.Qxb6601693a.Mem
set_option linter.unusedVariables false

structure Ent where
  ty : ByteArray
  cl : ByteArray
  nm : ByteArray
  sa : Option Addr
  sc : Nat
  acts : List ByteArray

def Ent.sv (e : Ent) : Value := .slice e.sa e.acts.length e.sc
def Ent.cells (e : Ent) : List Value := [.string e.ty, .string e.cl, .string e.nm, e.sv]
def flat (M : Nat → Ent) (L : Nat) : List Value := (List.range L).flatMap fun i => (M i).cells

theorem flat_succ (M : Nat → Ent) (L : Nat) : flat M (L + 1) = flat M L ++ (M L).cells := by
  simp [flat, List.range_succ]

theorem flat_length (M : Nat → Ent) (L : Nat) : (flat M L).length = L * 4 := by
  induction L with
  | zero => rfl
  | succ L ih => rw [flat_succ, List.length_append, ih]; simp [Ent.cells]; omega

theorem flat_congr {M M' : Nat → Ent} {L : Nat} (h : ∀ i, i < L → M i = M' i) : flat M L = flat M' L := by
  induction L with
  | zero => rfl
  | succ L ih => rw [flat_succ, flat_succ, ih (fun i hi => h i (by omega)), h L (by omega)]

theorem flat_get {M : Nat → Ent} {L i k : Nat} (hi : i < L) (hk : k < 4) : (flat M L)[i * 4 + k]? = (M i).cells[k]? := by
  induction L with
  | zero => omega
  | succ L ih =>
    rw [flat_succ]
    by_cases e : i = L
    · subst e
      rw [List.getElem?_append_right (by rw [flat_length]; omega), flat_length]
      congr 1; omega
    · rw [List.getElem?_append_left (by rw [flat_length]; omega)]
      exact ih (by omega)

theorem flat_set {M : Nat → Ent} {L i : Nat} (hi : i < L) (e : Ent) (h1 : e.ty = (M i).ty) (h2 : e.cl = (M i).cl) (h3 : e.nm = (M i).nm) : (flat M L).set (i * 4 + 3) e.sv = flat (upd M i e) L := by
  induction L with
  | zero => omega
  | succ L ih =>
    rw [flat_succ, flat_succ]
    by_cases q : i = L
    · subst q
      rw [List.set_append_right _ _ (by rw [flat_length]; omega), flat_length, upd_same]
      congr 1
      · exact flat_congr fun j hj => (upd_ne _ _ _ _ (by omega)).symm
      · have : i * 4 + 3 - i * 4 = 3 := by omega
        rw [this]
        simp [Ent.cells, h1, h2, h3]
    · rw [List.set_append_left _ _ (by rw [flat_length]; omega), ih (by omega), upd_ne _ _ _ _ (Ne.symm q)]

theorem row_kept {w w' : World} {base : Nat} {e : TypeId} {size : Nat} {v : Value} {n : Nat} {xs : List Value} (h : w.ownsRow base e size v n xs) (he : ∀ g, v.ownBlock = some g → w'.heap[g]? = w.heap[g]?) : w'.ownsRow base e size v n xs := by
  refine ⟨h.1, ?_⟩
  rcases h.2 with hn | ⟨g, cap, cur, rfl, hb, hgg, rest⟩
  · exact .inl hn
  · exact .inr ⟨g, cap, cur, rfl, hb, (he g rfl).trans hgg, rest⟩

/-- The merged rows: L of them, in the slice v; each one's own strings; the map that finds them by their keys. -/
structure Mg (w : World) (base mb N : Nat) (v : Value) (L : Nat) (M : Nat → Ent) (f : ByteArray → ByteArray → ByteArray → Option Nat) : Prop where
  rows : w.ownsRow base 31 4 v L (flat M L)
  each : ∀ i, i < L → w.ownsRow base 9 1 (M i).sv (M i).acts.length (strs (M i).acts)
  sep : ∀ i j, i < L → j < L → i ≠ j → ∀ g, (M i).sv.ownBlock = some g → (M j).sv.ownBlock ≠ some g
  sepv : ∀ i, i < L → ∀ g, (M i).sv.ownBlock = some g → v.ownBlock ≠ some g
  sepm : v.ownBlock ≠ some mb ∧ ∀ i, i < L → (M i).sv.ownBlock ≠ some mb
  map : MapIs w mb N f
  fwd : ∀ a b c i, f a b c = some i → i < L ∧ (M i).ty = a ∧ (M i).cl = b ∧ (M i).nm = c
  bwd : ∀ i, i < L → f (M i).ty (M i).cl (M i).nm = some i

section
variable {w w' : World} {base mb N : Nat} {v : Value} {L : Nat} {M : Nat → Ent} {f : ByteArray → ByteArray → ByteArray → Option Nat}

theorem Mg.below (h : Mg w base mb N v L M f) (hb : Below w.heap.size w w') : Mg w' base mb N v L M f where
  rows := row_kept h.rows fun g hg => hb.block g (h.rows.lt g hg).2
  each i hi := row_kept (h.each i hi) fun g hg => hb.block g ((h.each i hi).lt g hg).2
  sep := h.sep
  sepv := h.sepv
  sepm := h.sepm
  map := h.map.kept (hb.block mb h.map.lt)
  fwd := h.fwd
  bwd := h.bwd

/-- A found key: its strings grow. -/
theorem Mg.push {W1 W2 : World} (h : Mg W1 base mb N v L M f) {i : Nat} (hi : i < L) {m : Nat} {src : Nat → ByteArray} {a' : Option Addr} {c' : Nat} (hA : App W1 base (M i).sv (M i).acts.length (M i).acts m src a' c' W2)
    {g cap : Nat} (hv : v = .slice (some ⟨g, 0, none⟩) L cap) :
    Mg (W2.setCell ⟨g, i * 4 + 3, none⟩ (.slice a' ((M i).acts.length + m) c')) base mb N v L (upd M i ⟨(M i).ty, (M i).cl, (M i).nm, a', c', (M i).acts ++ (List.range m).map src⟩) f := by
  obtain ⟨h1, h2, h3, h4⟩ := hA
  have hvb : v.ownBlock = some g := by rw [hv]; rfl
  have hgl := h.rows.lt g hvb
  have hsz := h2.size
  have hsv : (Ent.mk (M i).ty (M i).cl (M i).nm a' c' ((M i).acts ++ (List.range m).map src)).sv = .slice a' ((M i).acts.length + m) c' := by simp [Ent.sv]
  have hgne : some g ≠ (M i).sv.ownBlock := fun e => h.sepv i hi g e.symm hvb
  have hnew : ∀ k, (Value.slice a' ((M i).acts.length + m) c').ownBlock = some k → (M i).sv.ownBlock = some k ∨ k = W1.heap.size := fun k hk => by
    rcases h4 with h4 | h4
    · exact .inl (h4 ▸ hk)
    · rw [h4] at hk; exact .inr (Option.some.inj hk).symm
  have hnewv : ∀ k, (Value.slice a' ((M i).acts.length + m) c').ownBlock = some k → k ≠ g := fun k hk => by
    rcases hnew k hk with q | q
    · exact fun e => h.sepv i hi k q (e ▸ hvb)
    · omega
  have rows2 : W2.ownsRow base 31 4 v L (flat M L) := row_kept h.rows fun k hk => h2.block k (h.rows.lt k hk).2 (by rw [hvb] at hk; rw [← hk]; exact hgne)
  have other : ∀ k, k ≠ g → (W2.setCell ⟨g, i * 4 + 3, none⟩ (.slice a' ((M i).acts.length + m) c')).heap[k]? = W2.heap[k]? := fun k hk => heap_setCell_other W2 ⟨g, i * 4 + 3, none⟩ k _ (by first | exact hk | exact fun e => hk e.symm)
  refine ⟨?_, fun j hj => ?_, fun j k hj hk hjk b hb => ?_, fun j hj b hb => ?_, ⟨h.sepm.1, fun j hj => ?_⟩, ?_, fun a b c j hj => ?_, fun j hj => ?_⟩
  · subst hv
    have hfs := flat_set (M := M) hi ⟨(M i).ty, (M i).cl, (M i).nm, a', c', (M i).acts ++ (List.range m).map src⟩ rfl rfl rfl
    rw [hsv] at hfs
    rw [← hfs]
    exact (rows2.stored (i * 4 + 3) _).1
  · by_cases e : j = i
    · subst e
      rw [upd_same, hsv]
      have : ((M j).acts ++ (List.range m).map src).length = (M j).acts.length + m := by simp
      rw [this]
      exact row_kept h1 fun k hk => other k (hnewv k hk)
    · rw [upd_ne _ _ _ _ e]
      refine row_kept (h.each j hj) fun k hk => ?_
      rw [other k (fun q => h.sepv j hj k hk (q ▸ hvb))]
      exact h2.block k ((h.each j hj).lt k hk).2 (fun q => h.sep j i hj hi e k hk q.symm)
  · by_cases e : j = i
    · subst e
      rw [upd_same, hsv] at hb
      rw [upd_ne _ _ _ _ (Ne.symm hjk)]
      rcases hnew b hb with q | q
      · exact h.sep j k hj hk hjk b q
      · intro q2; have := (h.each k hk).lt b q2; omega
    · rw [upd_ne _ _ _ _ e] at hb
      by_cases e2 : k = i
      · subst e2
        rw [upd_same, hsv]
        intro q2
        rcases hnew b q2 with q | q
        · exact h.sep j k hj hk hjk b hb q
        · have := (h.each j hj).lt b hb; omega
      · rw [upd_ne _ _ _ _ e2]
        exact h.sep j k hj hk hjk b hb
  · by_cases e : j = i
    · subst e
      rw [upd_same, hsv] at hb
      rw [hvb]
      exact fun q => hnewv b hb (Option.some.inj q).symm
    · rw [upd_ne _ _ _ _ e] at hb
      exact h.sepv j hj b hb
  · by_cases e : j = i
    · subst e
      rw [upd_same, hsv]
      intro q2
      rcases hnew mb q2 with q | q
      · exact h.sepm.2 j hj q
      · have := h.map.lt; omega
    · rw [upd_ne _ _ _ _ e]
      exact h.sepm.2 j hj
  · refine h.map.kept ?_
    rw [other mb (fun q => h.sepm.1 (q ▸ hvb))]
    exact h2.block mb h.map.lt (fun q => h.sepm.2 i hi q.symm)
  · have q := h.fwd a b c j hj
    by_cases e : j = i
    · subst e; rw [upd_same]; exact q
    · rw [upd_ne _ _ _ _ e]; exact q
  · by_cases e : j = i
    · subst e; rw [upd_same]; exact h.bwd j hj
    · rw [upd_ne _ _ _ _ e]; exact h.bwd j hj

/-- What holds of the rows while other blocks turn: in W4 as in w. -/
theorem Mg.still {W4 : World} (h : Mg w base mb N v L M f) (he : ∀ k, k < w.heap.size → k ≠ mb → W4.heap[k]? = w.heap[k]?) :
    W4.ownsRow base 31 4 v L (flat M L) ∧ ∀ i, i < L → W4.ownsRow base 9 1 (M i).sv (M i).acts.length (strs (M i).acts) :=
  ⟨row_kept h.rows fun g hg => he g (h.rows.lt g hg).2 (fun e => h.sepm.1 (e ▸ hg)),
   fun i hi => row_kept (h.each i hi) fun g hg => he g ((h.each i hi).lt g hg).2 (fun e => h.sepm.2 i hi (e ▸ hg))⟩

/-- A new key: a row more. -/
theorem Mg.add {W4 W5 : World} (h : Mg w base mb N v L M f) (he : ∀ k, k < w.heap.size → k ≠ mb → W4.heap[k]? = w.heap[k]?) (e : Ent)
    (hm : MapIs W4 mb (N + 1) (fun p q r => if p = e.ty ∧ q = e.cl ∧ r = e.nm then some L else f p q r)) (hf : f e.ty e.cl e.nm = none)
    (hE : W4.ownsRow base 9 1 e.sv e.acts.length (strs e.acts)) (hfresh : ∀ g, e.sv.ownBlock = some g → w.heap.size ≤ g) (hsz : w.heap.size ≤ W4.heap.size)
    {v' : Value} (hown : W5.ownsRow base 31 4 v' (L + 1) (flat M L ++ e.cells)) (hg : W4.grownBy W5 v.ownBlock) (hat : v'.ownBlock = v.ownBlock ∨ v'.ownBlock = some W4.heap.size) :
    Mg W5 base mb (N + 1) v' (L + 1) (upd M L e) (fun p q r => if p = e.ty ∧ q = e.cl ∧ r = e.nm then some L else f p q r) := by
  obtain ⟨hrows, heach⟩ := h.still he
  have old : ∀ i, i < L → upd M L e i = M i := fun i hi => upd_ne _ _ _ _ (by omega)
  have hmb := h.map.lt
  have hvne : ∀ k, k < W4.heap.size → v.ownBlock ≠ some k → v'.ownBlock ≠ some k := fun k hk hne q => by
    rcases hat with a | a
    · rw [a] at q; exact hne q
    · rw [a] at q; have := Option.some.inj q; omega
  have kept : ∀ k, k < W4.heap.size → v.ownBlock ≠ some k → W5.heap[k]? = W4.heap[k]? := fun k hk hne => hg.block k hk (fun q => hne q.symm)
  have hvl : ∀ k, v.ownBlock = some k → k < w.heap.size := fun k hk => (h.rows.lt k hk).2
  have hsl : ∀ i, i < L → ∀ k, (M i).sv.ownBlock = some k → k < w.heap.size := fun i hi k hk => ((h.each i hi).lt k hk).2
  have hel : ∀ k, e.sv.ownBlock = some k → k < W4.heap.size := fun k hk => (hE.lt k hk).2
  have hev : ∀ k, e.sv.ownBlock = some k → v.ownBlock ≠ some k := fun k hk q => by have := hfresh k hk; have := hvl k q; omega
  refine ⟨?_, fun j hj => ?_, fun j k hj hk hjk b hb => ?_, fun j hj b hb => ?_, ⟨hvne mb (by omega) h.sepm.1, fun j hj => ?_⟩, ?_, fun a b c j hj => ?_, fun j hj => ?_⟩
  · rw [flat_succ, upd_same, flat_congr old]
    exact hown
  · by_cases q : j = L
    · subst q
      rw [upd_same]
      exact row_kept hE fun k hk => kept k (hel k hk) (hev k hk)
    · have hj' : j < L := by omega
      rw [old j hj']
      exact row_kept (heach j hj') fun k hk => kept k (by have := hsl j hj' k hk; omega) (h.sepv j hj' k hk)
  · by_cases q : j = L
    · subst q
      rw [upd_same] at hb
      have hk' : k < j := by omega
      rw [old k hk']
      intro q2; have := hfresh b hb; have := hsl k hk' b q2; omega
    · have hj' : j < L := by omega
      rw [old j hj'] at hb
      by_cases q3 : k = L
      · subst q3
        rw [upd_same]
        intro q2; have := hfresh b q2; have := hsl j hj' b hb; omega
      · rw [old k (by omega)]
        exact h.sep j k hj' (by omega) hjk b hb
  · by_cases q : j = L
    · subst q
      rw [upd_same] at hb
      exact hvne b (hel b hb) (hev b hb)
    · have hj' : j < L := by omega
      rw [old j hj'] at hb
      exact hvne b (by have := hsl j hj' b hb; omega) (h.sepv j hj' b hb)
  · by_cases q : j = L
    · subst q
      rw [upd_same]
      intro q2; have := hfresh mb q2; omega
    · rw [old j (by omega)]
      exact h.sepm.2 j (by omega)
  · exact hm.kept (kept mb (by omega) h.sepm.1)
  · by_cases q : a = e.ty ∧ b = e.cl ∧ c = e.nm
    · rw [if_pos q] at hj
      obtain rfl := Option.some.inj hj
      rw [upd_same]
      exact ⟨by omega, q.1.symm, q.2.1.symm, q.2.2.symm⟩
    · rw [if_neg q] at hj
      obtain ⟨r0, r1⟩ := h.fwd a b c j hj
      rw [old j r0]
      exact ⟨by omega, r1⟩
  · by_cases q : j = L
    · subst q
      rw [upd_same, if_pos ⟨rfl, rfl, rfl⟩]
    · have hj' : j < L := by omega
      rw [old j hj', if_neg, h.bwd j hj']
      rintro ⟨r1, r2, r3⟩
      have := h.bwd j hj'
      rw [r1, r2, r3, hf] at this
      cases this
end
end Go.Proofs.Qxb6601693a
