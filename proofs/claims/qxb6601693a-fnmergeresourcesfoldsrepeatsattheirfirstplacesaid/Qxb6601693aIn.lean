/-
  THE ARGUMENT AS THE WALK WANTS IT: a slice of records.
-/
import Derived.Test.Qxb6601693aLw
import Derived.ProofKit
import Derived.OpenShut
import Derived.Deep.Slices
import Derived.Lib.SmallJoins
namespace Go.Proofs.Qxb6601693a
open Go.ChangeShapes Go.WideShapes Go.ChangeAt Go.RowKit
open Go.Proofs.Qxb6601693a.Mem
set_option linter.unusedVariables false

instance : Inhabited Re := ⟨⟨⟨#[]⟩, ⟨#[]⟩, ⟨#[]⟩, none, 0, 0, fun _ => ⟨#[]⟩⟩⟩

theorem cell_lt {w : World} {b o : Nat} {v : Value} (h : w.cell? ⟨b, o, none⟩ = some v) : b < w.heap.size := by
  unfold World.cell? at h
  by_cases hb : b < w.heap.size
  · exact hb
  · simp [Array.getElem?_eq_none (Nat.le_of_not_lt hb)] at h

theorem sl_of_cells {α : Type} {c : α → Value} {w : World} {x : Addr} {len : Nat} {v : Nat → α} (hc : ∀ i, i < len → w.cell? (x.add i) = some (c (v i))) : Sl c w (some x) len v := by
  by_cases e : len = 0
  · exact .inl e
  · right
    obtain ⟨b, off, spot⟩ := x
    have h0 := hc 0 (by omega)
    have hspot : spot = none := by simpa [Addr.add] using World.cell?_spot h0
    subst hspot
    have h1 := hc 0 (by omega)
    rw [WideShapes.add_plain] at h1
    exact ⟨b, off, rfl, cell_lt h1, fun i hi => by have := hc i (by omega); rw [WideShapes.add_plain] at this; exact this⟩

def bytesOf : Value → ByteArray | .string s => s | _ => ⟨#[]⟩

/-- A slice of strings that came in. -/
theorem arg_strs {H : Type} {enc : TypeId × Value → H} {W : World} {base : Nat} {fuel : Nat} {cs : List Value} {x : DataW H × List MemPlace} (hf : DataW.trod enc Try.prog W base (fun _ => true) true fuel 29 cs = some x) :
    ∃ a len cap v, cs = [.slice a len cap] ∧ len ≤ maxLen ∧ (a = none → len = 0 ∧ cap = 0) ∧ Sl Value.string W a len v ∧ ∀ i, i < len → (v i).size ≤ maxLen := by
  rcases Deep.open_slice1 Try.underlying29 (by kernel_rfl) hf with ⟨rfl, _⟩ | ⟨y, l, c, m, n, V, D, Pl, rfl, hb, hl, hm, hmm, _, hx⟩
  · exact ⟨none, 0, 0, fun _ => ⟨#[]⟩, rfl, Nat.zero_le _, fun _ => ⟨rfl, rfl⟩, .inl rfl, fun i hi => by omega⟩
  · simp only [if_true] at hmm
    have hs : ∀ i, i < l → W.cell? (y.add i) = some (.string (bytesOf (V i))) ∧ (bytesOf (V i)).size ≤ maxLen := fun i hi => by
      obtain ⟨h1, h2⟩ := hx i (by omega)
      obtain ⟨s, hs, _, hs2⟩ := DataW.trod_string Try.underlying9 h2
      simp only [List.cons.injEq, and_true] at hs
      rw [h1, hs]
      exact ⟨rfl, hs2⟩
    exact ⟨some y, l, c, fun i => bytesOf (V i), rfl, by omega, fun h => by (cases h), sl_of_cells fun i hi => (hs i hi).1, fun i hi => (hs i hi).2⟩

/-- One record that came in. -/
theorem arg_re {H : Type} {enc : TypeId × Value → H} {W : World} {base : Nat} {fuel : Nat} {cs : List Value} {x : DataW H × List MemPlace} (hf : DataW.trod enc Try.prog W base (fun _ => true) true fuel 33 cs = some x) :
    ∃ r : Re, cs = [.string r.ty, .string r.cl, .string r.nm, .slice r.sl r.len r.cap] ∧ ReOk W r := by
  obtain ⟨y0, y1, y2, y3, n, _, hlen, h0, h1, h2, h3⟩ := Joins.trod_struct4 Try.underlying33 hf
  have e33 : Try.prog.cellsOf 33 = 4 := by kernel_rfl
  have e9 : Try.prog.cellsOf 9 = 1 := by kernel_rfl
  have e29 : Try.prog.cellsOf 29 = 1 := by kernel_rfl
  rw [e33] at hlen
  match cs, hlen with
  | [v0, v1, v2, v3], _ =>
    simp only [e9, e29, List.drop, List.take] at h0 h1 h2 h3
    obtain ⟨s0, q0, _, z0⟩ := DataW.trod_string Try.underlying9 h0
    obtain ⟨s1, q1, _, z1⟩ := DataW.trod_string Try.underlying9 h1
    obtain ⟨s2, q2, _, z2⟩ := DataW.trod_string Try.underlying9 h2
    obtain ⟨a, len, cap, v, q3, k1, k2, k3, k4⟩ := arg_strs h3
    simp only [List.cons.injEq, and_true] at q0 q1 q2 q3
    exact ⟨⟨s0, s1, s2, a, len, cap, v⟩, by rw [q0, q1, q2, q3], ⟨z0, z1, z2, k1, k2, k3, k4⟩⟩

/-- A slice of records that came in. -/
theorem arg_res {H : Type} {enc : TypeId × Value → H} {W : World} {base : Nat} {fuel : Nat} {a : Option Addr} {len cap : Nat} {x : DataW H × List MemPlace} (hf : DataW.trod enc Try.prog W base (fun _ => true) true fuel 22 (Value.slice a len cap).cells.toList = some x) :
    ∃ R, len ≤ maxLen ∧ (a = none → len = 0 ∧ cap = 0) ∧ Rs W a len R := by
  rcases Deep.open_slice Try.underlying22 hf with ⟨hcs, _⟩ | ⟨y, l, c, m, n, D, Pl, hcs, hb, hl, hm, hmm, _, hx⟩
  · simp [Value.cells] at hcs
    obtain ⟨rfl, rfl, rfl⟩ := hcs
    exact ⟨fun _ => ⟨⟨#[]⟩, ⟨#[]⟩, ⟨#[]⟩, none, 0, 0, fun _ => ⟨#[]⟩⟩, Nat.zero_le _, fun _ => ⟨rfl, rfl⟩, .inl rfl⟩
  · simp [Value.cells] at hcs
    obtain ⟨rfl, rfl, rfl⟩ := hcs
    simp only [if_true] at hmm
    have e33 : Try.prog.cellsOf 33 = 4 := by kernel_rfl
    rw [e33] at hx
    have key : ∀ i, i < len → ∃ r : Re, (W.cell? ((y.add (i * 4)).add 0) = some (.string r.ty) ∧ W.cell? ((y.add (i * 4)).add 1) = some (.string r.cl) ∧ W.cell? ((y.add (i * 4)).add 2) = some (.string r.nm) ∧ W.cell? ((y.add (i * 4)).add 3) = some (.slice r.sl r.len r.cap)) ∧ ReOk W r := fun i hi => by
      obtain ⟨cs', h1, h2⟩ := hx i (by omega)
      obtain ⟨r, rfl, hok⟩ := arg_re h2
      obtain ⟨_, _, h3⟩ := World.cells?_some h1
      exact ⟨r, ⟨h3 0 (by omega), h3 1 (by omega), h3 2 (by omega), h3 3 (by omega)⟩, hok⟩
    obtain ⟨R, hR⟩ := Deep.choose_lt key
    refine ⟨R, by omega, fun h => by (cases h), ?_⟩
    by_cases e : len = 0
    · exact .inl e
    · right
      obtain ⟨b, off, spot⟩ := y
      have h0 := (hR 0 (by omega)).1.1
      have hspot : spot = none := by simpa [Addr.add] using World.cell?_spot h0
      subst hspot
      simp only [WideShapes.add_plain, Nat.add_zero] at hR
      refine ⟨b, off, rfl, cell_lt (hR 0 (by omega)).1.1, fun i hi => ?_⟩
      obtain ⟨⟨r0, r1, r2, r3⟩, hok⟩ := hR i hi
      exact ⟨⟨r0, r1, r2, r3⟩, hok⟩
end Go.Proofs.Qxb6601693a
