/-
  MEMORY: a row of cells that the call itself made ('Own'), a row that is read ('Rd'), a slice that is read ('Sl': empty, or it leads to a row). No Go program in sight.
-/
import Derived.WalkKit
namespace Go.Proofs.Qxb6601693a.Mem
open Go.RowKit

def upd {α : Type} (g : Nat → α) (i : Nat) (v : α) : Nat → α := fun j => if j = i then v else g j
theorem upd_same {α : Type} (g : Nat → α) (i : Nat) (v : α) : upd g i v i = v := by simp [upd]
theorem upd_ne {α : Type} (g : Nat → α) (i : Nat) (v : α) (j : Nat) (h : j ≠ i) : upd g i v j = g j := by simp [upd, h]

/-- A row of n cells at the head of block b, writable, holding 'c (g 0), c (g 1), ..'. -/
structure Own {α : Type} (c : α → Value) (w : World) (b n : Nat) (g : Nat → α) : Prop where
  lt : b < w.heap.size
  cell : ∀ i, i < n → w.cell? ⟨b, i, none⟩ = some (c (g i))
  froz : ∀ i, w.frozen? ⟨b, i, none⟩ = false

section
variable {α : Type} {c : α → Value} {w w' : World} {b n : Nat} {g : Nat → α}

theorem Own.set (h : Own c w b n g) (i : Nat) (v : α) : Own c (w.setCell ⟨b, i, none⟩ (c v)) b n (upd g i v) := by
  refine ⟨by simpa using h.lt, fun j hj => ?_, fun j => by rw [World.frozen?_setCell]; exact h.froz j⟩
  by_cases e : j = i
  · subst e; rw [upd_same]; exact World.cell?_setCell_same _ _ _ (h.cell j hj)
  · rw [upd_ne _ _ _ _ e, World.cell?_setCell_other _ _ _ _ (by intro e2; injection e2 with _ e3 _; exact e e3.symm)]
    exact h.cell j hj

theorem Own.other (h : Own c w b n g) {b' i : Nat} (hb : b ≠ b') (v : Value) : Own c (w.setCell ⟨b', i, none⟩ v) b n g :=
  ⟨by simpa using h.lt, fun j hj => by rw [World.cell?_setCell_other _ _ _ _ (by intro e2; injection e2 with e3 _ _; exact hb e3.symm)]; exact h.cell j hj, fun j => by rw [World.frozen?_setCell]; exact h.froz j⟩

theorem Own.below (h : Own c w b n g) {B : Nat} (hb : Below B w w') (hB : b < B) : Own c w' b n g :=
  ⟨Nat.lt_of_lt_of_le h.lt hb.size, fun j hj => by rw [hb.cell (by exact hB)]; exact h.cell j hj, fun j => by rw [hb.frozen (by exact hB)]; exact h.froz j⟩

theorem Own.congr (h : Own c w b n g) {g' : Nat → α} (e : ∀ i, i < n → g i = g' i) : Own c w b n g' :=
  ⟨h.lt, fun i hi => by rw [← e i hi]; exact h.cell i hi, h.froz⟩

theorem Own.drew (h : Own c w b n g) : Own c w.drew b n g := ⟨h.lt, h.cell, h.froz⟩
end

/-- A slice of n elements that can be read: it has none, or it leads to a row. -/
def Sl {α : Type} (c : α → Value) (w : World) (a : Option Addr) (n : Nat) (g : Nat → α) : Prop :=
  n = 0 ∨ ∃ b off, a = some ⟨b, off, none⟩ ∧ b < w.heap.size ∧ ∀ i, i < n → w.cell? ⟨b, off + i, none⟩ = some (c (g i))

/-- A slice over a row of the call's own, from block B on. -/
def OwnSl {α : Type} (c : α → Value) (w : World) (B : Nat) (a : Option Addr) (n : Nat) (g : Nat → α) : Prop :=
  n = 0 ∨ ∃ b, a = some ⟨b, 0, none⟩ ∧ B ≤ b ∧ Own c w b n g

section
variable {α : Type} {c : α → Value} {w w' : World} {n : Nat} {g : Nat → α} {a : Option Addr} {B : Nat}

theorem Sl.below (h : Sl c w a n g) (hb : Below w.heap.size w w') : Sl c w' a n g := by
  rcases h with h | ⟨b, off, e, hl, hc⟩
  · exact .inl h
  · exact .inr ⟨b, off, e, Nat.lt_of_lt_of_le hl hb.size, fun i hi => by rw [hb.cell (by exact hl)]; exact hc i hi⟩

theorem OwnSl.sl (h : OwnSl c w B a n g) : Sl c w a n g := by
  rcases h with h | ⟨b, e, _, ho⟩
  · exact .inl h
  · exact .inr ⟨b, 0, e, ho.lt, fun i hi => by rw [Nat.zero_add]; exact ho.cell i hi⟩

theorem OwnSl.below (h : OwnSl c w B a n g) (hb : Below w.heap.size w w') : OwnSl c w' B a n g := by
  rcases h with h | ⟨b, e, h1, ho⟩
  · exact .inl h
  · exact .inr ⟨b, e, h1, ho.below hb ho.lt⟩

theorem Sl.congr (h : Sl c w a n g) {g' : Nat → α} (e : ∀ i, i < n → g i = g' i) : Sl c w a n g' := by
  rcases h with h | ⟨b, off, e1, hl, hc⟩
  · exact .inl h
  · exact .inr ⟨b, off, e1, hl, fun i hi => by rw [← e i hi]; exact hc i hi⟩
end

/-- What 'make([]T, n)' leaves. -/
theorem own_made {α : Type} {c : α → Value} {w : World} {base e g n : Nat} {v : α}
    (h : w.ownsRow base e 1 (.slice (some ⟨g, 0, none⟩) n n) n (madeCells #[c v] n).toList) : Own c w g n (fun _ => v) := by
  refine ⟨?_, fun i hi => ?_, fun i => h.frozenAt i⟩
  · rcases h.2 with ⟨h, _⟩ | ⟨g, cap', cur, h, _, hg, _⟩
    · cases h
    · simp only [Value.slice.injEq, Option.some.injEq, Addr.mk.injEq, and_true, true_and] at h
      obtain ⟨rfl, rfl⟩ := h
      exact (Array.getElem?_eq_some_iff.1 hg).1
  · rw [h.cellAt i (by omega)]
    simp [madeCells, hi, Nat.mod_one]

/-- The copied prefix grows by one. -/
theorem own_more {α : Type} {c : α → Value} {w : World} {b n : Nat} {z : α} {p : Nat → α} {k : Nat} (h : Own c w b n (fun i => if i < k then p i else z)) : Own c (w.setCell ⟨b, k, none⟩ (c (p k))) b n (fun i => if i < k + 1 then p i else z) :=
  (h.set k (p k)).congr fun i _ => by
    by_cases e : i = k
    · subst e; rw [upd_same, if_pos (by omega)]
    · rw [upd_ne _ _ _ _ e]; by_cases e2 : i < k
      · rw [if_pos e2, if_pos (by omega)]
      · rw [if_neg e2, if_neg (by omega)]


theorem own_kept {α : Type} {c : α → Value} {w w' : World} {b n : Nat} {g : Nat → α} {row : Option Nat} (h : Own c w b n g) (hg : w.grownBy w' row) (hne : some b ≠ row) : Own c w' b n g := by
  have e := hg.block b h.lt hne
  exact ⟨Nat.lt_of_lt_of_le h.lt hg.size, fun i hi => by rw [World.cell?_of_block (w := w) (by exact e)]; exact h.cell i hi, fun i => by rw [World.frozen?_of_block (w := w) (by exact e)]; exact h.froz i⟩

/-- A record as it lies in memory: three strings; a slice of strings. -/
structure Re where
  ty : ByteArray
  cl : ByteArray
  nm : ByteArray
  sl : Option Addr
  len : Nat
  cap : Nat
  str : Nat → ByteArray

/-- What is known of a record that can be read. -/
structure ReOk (w : World) (r : Re) : Prop where
  ty : r.ty.size ≤ maxLen
  cl : r.cl.size ≤ maxLen
  nm : r.nm.size ≤ maxLen
  len : r.len ≤ maxLen
  nil : r.sl = none → r.len = 0 ∧ r.cap = 0
  str : Sl Value.string w r.sl r.len r.str
  each : ∀ i, i < r.len → (r.str i).size ≤ maxLen

/-- The record lies at cell o of block b. -/
structure ReAt (w : World) (b o : Nat) (r : Re) : Prop where
  c0 : w.cell? ⟨b, o, none⟩ = some (.string r.ty)
  c1 : w.cell? ⟨b, o + 1, none⟩ = some (.string r.cl)
  c2 : w.cell? ⟨b, o + 2, none⟩ = some (.string r.nm)
  c3 : w.cell? ⟨b, o + 3, none⟩ = some (.slice r.sl r.len r.cap)

/-- A slice of records that can be read. -/
def Rs (w : World) (a : Option Addr) (n : Nat) (R : Nat → Re) : Prop :=
  n = 0 ∨ ∃ b off, a = some ⟨b, off, none⟩ ∧ b < w.heap.size ∧ ∀ i, i < n → ReAt w b (off + i * 4) (R i) ∧ ReOk w (R i)

theorem ReOk.below {w w' : World} {r : Re} (h : ReOk w r) (hb : Below w.heap.size w w') : ReOk w' r := ⟨h.ty, h.cl, h.nm, h.len, h.nil, h.str.below hb, h.each⟩
theorem ReAt.below {w w' : World} {b o : Nat} {r : Re} {B : Nat} (h : ReAt w b o r) (hb : Below B w w') (hB : b < B) : ReAt w' b o r :=
  ⟨by rw [hb.cell (by exact hB)]; exact h.c0, by rw [hb.cell (by exact hB)]; exact h.c1, by rw [hb.cell (by exact hB)]; exact h.c2, by rw [hb.cell (by exact hB)]; exact h.c3⟩
theorem Rs.below {w w' : World} {a : Option Addr} {n : Nat} {R : Nat → Re} (h : Rs w a n R) (hb : Below w.heap.size w w') : Rs w' a n R := by
  rcases h with h | ⟨b, off, e, hl, hc⟩
  · exact .inl h
  · exact .inr ⟨b, off, e, Nat.lt_of_lt_of_le hl hb.size, fun i hi => ⟨(hc i hi).1.below hb hl, (hc i hi).2.below hb⟩⟩

end Go.Proofs.Qxb6601693a.Mem
