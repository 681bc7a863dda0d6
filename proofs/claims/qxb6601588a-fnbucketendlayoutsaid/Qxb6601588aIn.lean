/-
  THE ARGUMENTS AS THE WALKS WANT THEM: a slice of float64, a slice of int32.
-/
import Derived.Test.Qxb6601588aWc
import Derived.ProofKit
import Derived.OpenShut
import Derived.Deep.Slices
namespace Go.Proofs.Qxb6601588a
open Go.ChangeShapes Go.WideShapes Go.ChangeAt Go.RowKit
open Go.Proofs.Qxb6601588a.Mem Go.Proofs.Qxb6601588a.Fl
set_option linter.unusedVariables false

/-- A slice that came in: its length; what it holds. -/
def Arg {α : Type} (c : α → Value) (w : World) (a : Option Addr) (len : Nat) (v : Nat → α) : Prop := len ≤ maxLen ∧ Sl c w a len v

theorem sl_of_cells {α : Type} {c : α → Value} {w : World} {x : Addr} {len : Nat} {v : Nat → α} (hc : ∀ i, i < len → w.cell? (x.add i) = some (c (v i))) : Sl c w (some x) len v := by
  by_cases e : len = 0
  · exact .inl e
  · right
    obtain ⟨b, off, spot⟩ := x
    have h0 := hc 0 (by omega)
    have hspot : spot = none := by simpa [Addr.add] using World.cell?_spot h0
    subst hspot
    refine ⟨b, off, rfl, ?_, fun i hi => by have := hc i (by omega); rw [add_plain] at this; exact this⟩
    unfold World.cell? at h0
    by_cases hb : b < w.heap.size
    · exact hb
    · simp [Addr.add, Array.getElem?_eq_none (Nat.le_of_not_lt hb)] at h0

theorem trod_float {H : Type} {enc : TypeId × Value → H} {P : Program} {w : World} {base : Nat} {spare : Nat → Bool} {held : Bool} {fuel : Nat} {t : TypeId} {cs : List Value} {x : DataW H × List MemPlace} {k : FloatKind} (ht : P.underlying t = some (.float k)) (h : DataW.trod enc P w base spare held fuel t cs = some x) : ∃ b, cs = [.float k b] := by
  cases fuel with
  | zero => simp [DataW.trod] at h
  | succ n =>
    unfold DataW.trod at h
    rw [ht] at h
    split at h <;> simp_all

def bitsOf : Value → Nat | .float _ b => b | _ => 0

theorem arg_floats {H : Type} {enc : TypeId × Value → H} {W : World} {base : Nat} {fuel : Nat} {a : Option Addr} {len cap : Nat} {x : DataW H × List MemPlace} (hf : DataW.trod enc Try.prog W base (fun _ => true) true fuel 26 (Value.slice a len cap).cells.toList = some x) : ∃ v, Arg (Value.float .f64) W a len v := by
  rcases Deep.open_slice1 Try.underlying26 (by kernel_rfl) hf with ⟨hcs, _⟩ | ⟨y, l, c, m, n, V, D, Pl, hcs, hb, hl, hm, hmm, _, hx⟩
  · simp [Value.cells] at hcs
    obtain ⟨rfl, rfl, rfl⟩ := hcs
    exact ⟨fun _ => 0, by unfold maxLen; omega, .inl rfl⟩
  · simp [Value.cells] at hcs
    obtain ⟨rfl, rfl, rfl⟩ := hcs
    simp only [if_true] at hmm
    refine ⟨fun i => bitsOf (V i), by omega, sl_of_cells fun i hi => ?_⟩
    obtain ⟨h1, h2⟩ := hx i (by omega)
    obtain ⟨b, hb⟩ := trod_float Try.underlying27 h2
    simp at hb
    rw [h1, hb]
    rfl

theorem arg_ints {H : Type} {enc : TypeId × Value → H} {W : World} {base : Nat} {fuel : Nat} {a : Option Addr} {len cap : Nat} {x : DataW H × List MemPlace} (hf : DataW.trod enc Try.prog W base (fun _ => true) true fuel 25 (Value.slice a len cap).cells.toList = some x) : ∃ v, Arg (Value.int .i32) W a len v := by
  rcases open_ints Try.underlying25 Try.underlying21 (by kernel_rfl) hf with ⟨hcs, _⟩ | ⟨y, l, c, zs, hcs, _, hl, hm, hz, _, hcell, hwz⟩
  · simp [Value.cells] at hcs
    obtain ⟨rfl, rfl, rfl⟩ := hcs
    exact ⟨fun _ => 0, by unfold maxLen; omega, .inl rfl⟩
  · simp [Value.cells] at hcs
    obtain ⟨rfl, rfl, rfl⟩ := hcs
    refine ⟨fun i => zs.getD i 0, by omega, sl_of_cells fun i hi => hcell i (by simp at hz; omega)⟩

end Go.Proofs.Qxb6601588a
