/-
  'Rows.FnTallyOfCountsEachNumberSaid', proved. The frame is the guide's shell; the walk is ours.
-/
import Derived.Test.Qxb6601447aRows
import Derived.Test.Qxb6601447aTfin
import Derived.WalkKit
import Derived.ProofKit
import Derived.OpenShut
import Derived.ShutString
import Derived.ChangeOld
import Derived.Below
namespace Go.Proofs.Qxb6601447a.fnTallyOfCountsEachNumber
open Go.ChangeShapes Go.WideShapes Go.ChangeAt Go.RowKit
open Go.ChangeMaps (open_string shut_string)
open Go.Proofs.Qxb6601447a.Cyc Go.Proofs.Qxb6601447a.Mem Go.Proofs.Qxb6601447a.Tal
set_option linter.unusedVariables false

theorem own : ownKnob Try.prog.godebug = none := by kernel_rfl
theorem laidOut : laidOutB Try.prog = true := by kernel_rfl

/-- WHAT THE WALK IS TOLD OF A SLICE OF INTEGERS THAT CAME IN: it is nil; or it leads to a row of 'cap' cells, the numbers 'zs' (the first 'len' are its elements, the rest its spare room), each fitting its kind. -/
def IsRow (k : IntKind) (w : World) (a : Option Addr) (len cap : Nat) (zs : List Int) : Prop :=
  (a = none ∧ len = 0 ∧ cap = 0 ∧ zs = []) ∨
  ∃ x, a = some x ∧ len ≤ cap ∧ cap ≤ maxLen ∧ zs.length = cap ∧ (∀ i, i < zs.length → w.cell? (x.add i) = some (.int k (zs.getD i 0))) ∧ ∀ n ∈ zs, (Lit.int k n).wf = true

theorem sl_of_isRow {k : IntKind} {w : World} {a : Option Addr} {len cap : Nat} {zs : List Int} (h : IsRow k w a len cap zs) : Sl (Value.int k) w a len (fun i => zs.getD i 0) := by
  rcases h with ⟨_, h, _⟩ | ⟨x, ha, hl, _, hz, hc, _⟩
  · exact .inl h
  · by_cases e : len = 0
    · exact .inl e
    · right
      obtain ⟨b, off, spot⟩ := x
      have h0 := hc 0 (by omega)
      have hspot : spot = none := by simpa [Addr.add] using World.cell?_spot h0
      subst hspot
      refine ⟨b, off, ha, ?_, fun i hi => by have := hc i (by omega); rw [add_plain] at this; exact this⟩
      unfold World.cell? at h0
      by_cases hb : b < w.heap.size
      · exact hb
      · simp [Addr.add, Array.getElem?_eq_none (Nat.le_of_not_lt hb)] at h0

/-! ### STEP 1: THE WALK -/
set_option maxHeartbeats 2000000 in
theorem walk0 (a : Option Addr) (n cap : Nat) (p : Nat → Int) (w : World) (hn : n ≤ 4096) (hs : Sl (Value.int .i32) w a n p) :
    Calls Try.prog 5 #[.slice a n cap] w fun e w' => e = .returned (.bool true) ∧ Below w.heap.size w w' := by
  go_enter Try.func5, Try.ntmps5
  go_wp2_with (go_at_call 14; refine (bytes14 _ _ _ (by omega) _).mono ?_; rintro e w' ⟨rfl, rfl⟩)
  refine (cloneInt32_any _ _ _ p _ hn hs).mono ?_
  rintro e w1 ⟨a1, c1, rfl, ho1, hb1⟩
  clear hs
  go_wp2_with fail
  refine (cloneInt32_any _ _ _ p _ hn ho1.sl).mono ?_
  rintro e w2 ⟨a2, c2, rfl, ho2, hb12⟩
  have hr1 := rowOf_own ho1
  have hr2 := rowOf_own ho2
  have ho12 := ho1.below hb12
  have hb2 : Below w.heap.size w w2 := hb1.trans (hb12.mono hb1.size)
  have hz1 := hb1.size
  clear ho1 hb12 hb1
  go_wp2_with fail
  refine (zzTally_tly _ _ _ _ p _ hn ho2).mono ?_
  rintro e w3 ⟨an, at_, c4, c5, rfl, hn3, ht3, ho23, hg3⟩
  have ho13 := keptHigh ho12 hg3 (fun k h => (hr1 k h).2) (fun k h => (hr2 k h).1)
  have hb3 := below_of hb2 hg3 (fun k h => Nat.le_trans hz1 (hr2 k h).1)
  have s0 := ho13.sl
  have s1 := hn3.sl
  have s2 := ht3.sl
  have s3 := ho23.sl
  clear ho13 hn3 ht3 ho23 ho12 ho2 hb2 hg3 hr1 hr2
  go_wp2_with fail
  refine (isTally_call a1 an at_ n c1 c4 c5 p w3 hn s0 s1 s2).mono ?_
  rintro e w4 ⟨rfl, m1, rfl⟩
  go_wp2_with fail
  refine (isExpansion_call a2 an at_ n c2 c4 c5 p (w3.drewN m1) hn (s3.below (below_draws _ _)) (s1.below (below_draws _ _)) (s2.below (below_draws _ _))).mono ?_
  rintro e w5 ⟨rfl, m2, rfl⟩
  go_wp2
  go_ret
  exact ⟨rfl, hb3.trans ⟨rfl, rfl, rfl, Nat.le_refl _, fun _ _ => rfl⟩⟩

theorem walk (a0 : Option Addr) (len0 cap0 : Nat) (z0 : List Int) (w : World) (w0 : IsRow .i32 w a0 len0 cap0 z0) :
    Calls Try.prog 5 #[.slice a0 len0 cap0] w fun e w' => e = .returned (.bool true) ∧ Below w.heap.size w w' := by
  by_cases hn : len0 ≤ 4096
  · exact walk0 a0 len0 cap0 _ w hn (sl_of_isRow w0)
  · by_cases hn2 : len0 ≤ 1048576
    · go_enter Try.func5, Try.ntmps5
      go_wp2_with (go_at_call 14; refine (bytes14 _ _ _ hn2 _).mono ?_; rintro e w' ⟨rfl, rfl⟩)
      go_ret
      exact ⟨rfl, Below.refl _ _⟩
    · go_enter Try.func5, Try.ntmps5
      go_wp2_with (go_at_call 14; refine (bytes14_no _ _ _ (by omega) _).mono ?_; rintro e w' ⟨rfl, rfl⟩)
      go_ret
      exact ⟨rfl, Below.refl _ _⟩

/-! ### THE ROW's STEP: WRITTEN OUT: LEAVE IT -/
set_option maxRecDepth 100000 in
theorem lifted (os : Os) (started : os.Started) (H : Type) (enc : TypeId × Value → H) :
    ReturnsInHanded {} Try.checked os 5 .any (Rows.fnTallyOfCountsEachNumberSpec.pre6 enc Try.prog Try.f5 Rows.fnTallyOfCountsEachNumberRow.domain false) (Rows.fnTallyOfCountsEachNumberSpec.post enc Try.prog Try.f5 false true false false) := by
  refine returnsInHanded_of_change (C := Try.checked) own started (by kernel_rfl) Try.func5
    (ChangeSpec.witness6 (enc := enc) (C := Try.checked) false ⟨#[], #[.slice none 0 0], []⟩ 8 (by kernel_rfl) (by kernel_rfl) (by kernel_rfl) (by kernel_rfl)) ?_
  intro W base args ds gs before hval0 hW hcnd _
  have hval : ∀ (j : Nat) t v, Try.f5.params[j]? = some t → args[j]? = some v → Value.okWide Try.prog W .any base t v := hval0
  have hW' := hW
  obtain ⟨p, q, hA0, hV, rfl, hfz, hnd⟩ := hW
  have hA : DataW.TrodAll enc Try.prog W 0 (fun _ => true) true Try.f5.params.toList args.toList ds p := hA0
  rw [Try.params5] at hA hval
  obtain ⟨v0, vs0, d0, ds0, p0, q0, hargs, rfl, rfl, h0, r0⟩ := trodAll_cons hA
  obtain ⟨rfl, rfl, rfl⟩ := trodAll_nil r0
  obtain rfl : args = #[v0] := by cases args; simp_all
  obtain ⟨rfl, rfl⟩ := trodVars_none hV
  obtain ⟨a0, len0, cap0, rfl⟩ := okWide_slice Try.underlying26 (hval 0 26 v0 rfl rfl)
  have k0 := h0
  have lt0 : ∀ x ∈ p0, x.block < W.heap.size := by obtain ⟨m, hm⟩ := k0; exact DataW.trod_lt m _ _ _ hm
  obtain ⟨z0, w0⟩ : ∃ zs, IsRow .i32 W a0 len0 cap0 zs := by
    obtain ⟨fuel, hf⟩ := h0
    rcases open_ints Try.underlying26 Try.underlying21 (by kernel_rfl) hf with ⟨hcs, _⟩ | ⟨x, l, c, zs, hcs, _, hl, hm, hz, _, hcell, hwz⟩
    · simp [Value.cells] at hcs
      obtain ⟨rfl, rfl, rfl⟩ := hcs
      exact ⟨[], .inl ⟨rfl, rfl, rfl, rfl⟩⟩
    · simp [Value.cells] at hcs
      obtain ⟨rfl, rfl, rfl⟩ := hcs
      exact ⟨zs, .inr ⟨_, rfl, hl, hm, by simpa using hz, hcell, hwz⟩⟩
  clear hA0 hval0
  refine (walk a0 len0 cap0 z0 W w0).mono fun e W' ⟨he, bel⟩ => ?_
  subst he
  exact ⟨_, rfl, _, _, _, [], _, [], hW', trodAll_mk1 (shut_bool Try.underlying4 _), (trodAll_cons_mk (Below.trod laidOut (by kernel_rfl) (of_decide_eq_true (by kernel_rfl)) k0 bel lt0) trodAll_mk0), rfl, bel.frame _, fun h => by cases h⟩

theorem over : Rows.fnTallyOfCountsEachNumberRow.holds Try.pinned (OpenSpec.ofChange Rows.fnTallyOfCountsEachNumberSpec) :=
  OpenClaim.holds_of_wide 5 Try.f5 rfl rfl rfl rfl rfl rfl rfl ⟨rfl, rfl, rfl, rfl, rfl⟩ rfl rfl rfl rfl rfl (by kernel_rfl) Try.func5 (by kernel_rfl)
    (of_decide_eq_true (by kernel_rfl)) (by unfold Func.isWrapper; first | (rw [if_pos (by decide +kernel)]; kernel_rfl) | (rw [if_neg (by decide +kernel)]; exact ⟨rfl, rfl⟩))
    (fun os started H enc _ => lifted os started H enc)

/-- ████ THE STATEMENT ████ -/
theorem proved : Rows.FnTallyOfCountsEachNumberSaid := over
#print axioms proved
end Go.Proofs.Qxb6601447a.fnTallyOfCountsEachNumber
