/-
  THE MAP's KEY: three strings (type 47).
-/
import Derived.Test.Qxb6601693aRows
import Derived.Maps.OwnSet
import Derived.Maps.Own
import Derived.Maps.OwnOps
import Derived.Maps.Views
import Derived.DeepKeys4
import Derived.WalkKit
namespace Go.Proofs.Qxb6601693a
open Go.RowKit Go.Maps
set_option linter.unusedVariables false

theorem Try.row47 : (47 : TypeId) < Try.prog.types.size := of_decide_eq_true (by kernel_rfl)
theorem Try.wide47 : (match Try.prog.underlying 47 with | some (.array _ _) | some (.struct _) => true | _ => false) = true := by kernel_rfl
theorem Try.laid : laidOutB Try.prog = true := by kernel_rfl
theorem Try.keyed : Keyed Try.prog 47 := Keyed.of_law (deep_law_laid Try.laid (m := 2) (by omega) Try.row47 (by kernel_rfl) Try.wide47)
theorem Try.kt47 : Try.prog.keyType 47 = true := by kernel_rfl
theorem Try.cl47 : Try.prog.cellsOf 47 = 3 := by kernel_rfl
theorem Try.cl9 : Try.prog.cellsOf 9 = 1 := by kernel_rfl

/-- The key that three strings make. -/
def kv (a b c : ByteArray) : Value := .agg #[.string a, .string b, .string c]

theorem key_some (a b c : ByteArray) (ha : a.size ≤ maxLen) (hb : b.size ≤ maxLen) (hc : c.size ≤ maxLen) : ∃ kl, keyOf Try.prog 47 (kv a b c) = some kl := by
  have hu := Try.underlying47
  have hf : (kv a b c).formed Try.prog 47 = true := by simp [kv, Value.formed, hu, Try.cl47]
  have hk9 : ∀ (d : Nat) (s : ByteArray), s.size ≤ maxLen → Try.prog.keyLits (d + 1) 9 [.string s] = some [.string s.data.toList] := fun d s hs => by
    unfold Program.keyLits; rw [Try.underlying9]; simp [hs]
  have hk : ∀ d, ∃ ls, Try.prog.keyLits (d + 2) 47 [.string a, .string b, .string c] = some ls := fun d => by
    unfold Program.keyLits; rw [hu]
    simp [Try.cl47, Try.cl9, hk9, ha, hb, hc]
  obtain ⟨ls, hls⟩ := hk (Try.prog.types.size - 1)
  have hsz : Try.prog.types.size + 1 = Try.prog.types.size - 1 + 2 := by have h := Try.row47; have : 47 < Try.prog.types.size := h; omega
  unfold keyOf
  rw [hu]
  simp only [Try.kt47, hf, Bool.and_self, if_true]
  rw [hsz]
  exact ⟨_, by rw [show (kv a b c).cells.toList = [.string a, .string b, .string c] from rfl, hls]; rfl⟩

/-- The map in block mb answers f. -/
def MapIs (w : World) (mb n : Nat) (f : ByteArray → ByteArray → ByteArray → Option Nat) : Prop :=
  ∃ D : DataW Unit, w.ownsMap Try.prog 47 (plainElem Try.prog 3) mb n D ∧ ∀ a b c kl, keyOf Try.prog 47 (kv a b c) = some kl →
    (f a b c = none → Maps.has D kl = false) ∧ ∀ i, f a b c = some i → Maps.has D kl = true ∧ ∀ z, D.atKey kl z = .lit (.int .i64 (i : Int))

theorem mapIs_made (w : World) : MapIs (w.alloc (.map #[] 0)) w.heap.size 0 (fun _ _ _ => none) :=
  ⟨_, World.ownsMap_made w _ _ _, fun a b c kl hk => ⟨fun _ => rfl, fun i h => by cases h⟩⟩

theorem MapIs.lt {w : World} {mb n : Nat} {f : ByteArray → ByteArray → ByteArray → Option Nat} (h : MapIs w mb n f) : mb < w.heap.size := by
  obtain ⟨D, h, _⟩ := h
  exact h.lt

theorem MapIs.kept {w w' : World} {mb n : Nat} {f : ByteArray → ByteArray → ByteArray → Option Nat} (h : MapIs w mb n f) (he : w'.heap[mb]? = w.heap[mb]?) : MapIs w' mb n f := by
  obtain ⟨D, ⟨es, cl, hb, r⟩, h2⟩ := h
  exact ⟨D, ⟨es, cl, he.trans hb, r⟩, h2⟩

theorem Try.zero3 (w : World) : (zeroValue 3).run Try.prog w = .ok (.int .i64 0) w := by kernel_rfl

section
variable (w : World) {ops : Array Oper} {rest : List Oper} {o : Oper} {a : Act} {Q : Exit → Act → World → Prop}

theorem wpList_look_some (hg : o.guard = none) (m x : Operand) (hop : o.op = Op.lookup 45 m x true) (mb n : Nat) (f : ByteArray → ByteArray → ByteArray → Option Nat)
    (hm : a.eval m = .map (some mb)) (h : MapIs w mb n f) (p q r : ByteArray) (hx : a.eval x = kv p q r) (hp : p.size ≤ maxLen) (hq : q.size ≤ maxLen) (hr : r.size ≤ maxLen) (i : Nat) (hf : f p q r = some i)
    (hK : wpList Try.prog ops Q rest (a.put o.dst (.tuple #[.int .i64 (i : Int), .bool true])) w) : wpList Try.prog ops Q (o :: rest) a w := by
  obtain ⟨D, hD, hall⟩ := h
  obtain ⟨kl, hkl⟩ := key_some p q r hp hq hr
  obtain ⟨h1, h2⟩ := (hall p q r kl hkl).2 i hf
  refine wpList_lookup_own_ok_int w hg m x 45 hop 47 3 .i64 Try.keyed Try.underlying45 Try.underlying3 (Try.zero3 w) mb n D hm hD _ kl hx hkl fun c hc _ => ?_
  rw [h2] at hc
  injection hc with hc
  injection hc with _ hc
  rw [← hc, h1]
  exact hK

theorem wpList_look_none (hg : o.guard = none) (m x : Operand) (hop : o.op = Op.lookup 45 m x true) (mb n : Nat) (f : ByteArray → ByteArray → ByteArray → Option Nat)
    (hm : a.eval m = .map (some mb)) (h : MapIs w mb n f) (p q r : ByteArray) (hx : a.eval x = kv p q r) (hp : p.size ≤ maxLen) (hq : q.size ≤ maxLen) (hr : r.size ≤ maxLen) (hf : f p q r = none)
    (hK : ∀ c : Int, wpList Try.prog ops Q rest (a.put o.dst (.tuple #[.int .i64 c, .bool false])) w) : wpList Try.prog ops Q (o :: rest) a w := by
  obtain ⟨D, hD, hall⟩ := h
  obtain ⟨kl, hkl⟩ := key_some p q r hp hq hr
  have h1 := (hall p q r kl hkl).1 hf
  refine wpList_lookup_own_ok_int w hg m x 45 hop 47 3 .i64 Try.keyed Try.underlying45 Try.underlying3 (Try.zero3 w) mb n D hm hD _ kl hx hkl fun c hc _ => ?_
  rw [h1]
  exact hK c

theorem wpList_put (hg : o.guard = none) (m x v : Operand) (hop : o.op = Op.mapUpdate 45 m x v) (mb n : Nat) (f : ByteArray → ByteArray → ByteArray → Option Nat)
    (hm : a.eval m = .map (some mb)) (h : MapIs w mb n f) (hn : n < maxLen) (p q r : ByteArray) (hx : a.eval x = kv p q r) (hp : p.size ≤ maxLen) (hq : q.size ≤ maxLen) (hr : r.size ≤ maxLen) (i : Nat) (hi : i ≤ 4096) (hv : a.eval v = .int .i64 (i : Int))
    (hK : ∀ w', MapIs w' mb (n + 1) (fun p' q' r' => if p' = p ∧ q' = q ∧ r' = r then some i else f p' q' r') → w.grownBy w' (some mb) → wpList Try.prog ops Q rest (a.put o.dst undef) w') : wpList Try.prog ops Q (o :: rest) a w := by
  obtain ⟨D, hD, hall⟩ := h
  obtain ⟨kl, hkl⟩ := key_some p q r hp hq hr
  refine wpList_mapUpdate_own w hg m x v 45 hop 47 3 Try.keyed Try.underlying45 (plainElem Try.prog 3) mb n D hm hD hn _ _ kl hx hv hkl (.lit (.int .i64 (i : Int))) [] (plainElem_int Try.underlying3 ?_) ?_
  · have e1 : IntKind.i64.min = -9223372036854775808 := by decide
    have e2 : IntKind.i64.max = 9223372036854775807 := by decide
    simp [Lit.wf, e1, e2]; omega
  intro w' hown hgr
  refine hK w' ⟨_, hown, fun p' q' r' kl' hkl' => ?_⟩ hgr
  have hD' := hD.isMap
  by_cases e : p' = p ∧ q' = q ∧ r' = r
  · obtain ⟨rfl, rfl, rfl⟩ := e
    rw [hkl] at hkl'
    obtain rfl := Option.some.inj hkl'
    refine ⟨fun h => by simp at h, fun j hj => ?_⟩
    have : i = j := by simpa using hj
    subst this
    exact ⟨has_put_same hD' (Try.keyed.key hkl) _, fun z => atKey_put_same hD' (Try.keyed.key hkl) _ z⟩
  · have hne : kl' ≠ kl := fun h => by
      subst h
      have := Try.keyed.inj hkl' hkl
      simp only [kv, Value.agg.injEq, Array.mk.injEq, List.cons.injEq, Value.string.injEq, and_true] at this
      exact e this
    simp only [if_neg e]
    rw [has_put_other hne]
    refine ⟨(hall _ _ _ _ hkl').1, fun j hj => ?_⟩
    obtain ⟨h1, h2⟩ := (hall _ _ _ _ hkl').2 j hj
    exact ⟨h1, fun z => by rw [atKey_put_other hne]; exact h2 z⟩
end
end Go.Proofs.Qxb6601693a
