/-
  'Rows.FnTallySpansCountsFirstsAndLastsSaid', proved. The frame is the guide's shell; the walk is ours.
-/
import Derived.Test.Qxb6601447aRows
import Derived.Test.Qxb6601447aSpc
import Derived.WalkKit
import Derived.ProofKit
import Derived.OpenShut
import Derived.ShutString
import Derived.ChangeOld
import Derived.Below
namespace Go.Proofs.Qxb6601447a.fnTallySpansCountsFirstsAndLasts
open Go.ChangeShapes Go.WideShapes Go.ChangeAt Go.RowKit
open Go.ChangeMaps (open_string shut_string)
open Go.Proofs.Qxb6601447a.Cyc Go.Proofs.Qxb6601447a.Mem Go.Proofs.Qxb6601447a.Tal
set_option linter.unusedVariables false

theorem own : ownKnob Try.prog.godebug = none := by kernel_rfl
theorem laidOut : laidOutB Try.prog = true := by kernel_rfl

/-- WHAT THE WALK IS TOLD OF A SLICE OF INTEGERS THAT CAME IN: it is nil; or it leads to a row of 'cap' cells, the numbers 'zs' (the first 'len' are its elements, the rest its spare room), each fitting its kind. -/
def IsRow (k : IntKind) (w : World) (a : Option Addr) (len cap : Nat) (zs : List Int) : Prop :=
  (a = none ∧ len = 0 ∧ cap = 0 ∧ zs = []) ∨
  ∃ x, a = some x ∧ len ≤ cap ∧ cap ≤ maxLen ∧ zs.length = cap ∧ (∀ i, i < zs.length → w.cell? (x.add i) = some (.int k (zs.getD i 0))) ∧ ∀ n ∈ zs, (Lit.int k n).wf = true

theorem sl_of_isRow {k : IntKind} {w : World} {a : Option Addr} {len cap : Nat} {zs : List Int} (h : IsRow k w a len cap zs) : Sl (Value.int k) w a len (fun i => zs.getD i 0) := by
  rcases h with ⟨_, h, _⟩ | ⟨x, ha, hl, _, hz, hc, _⟩
  · exact .inl h
  · by_cases e : len = 0
    · exact .inl e
    · right
      obtain ⟨b, off, spot⟩ := x
      have h0 := hc 0 (by omega)
      have hspot : spot = none := by simpa [Addr.add] using World.cell?_spot h0
      subst hspot
      refine ⟨b, off, ha, ?_, fun i hi => by have := hc i (by omega); rw [add_plain] at this; exact this⟩
      unfold World.cell? at h0
      by_cases hb : b < w.heap.size
      · exact hb
      · simp [Addr.add, Array.getElem?_eq_none (Nat.le_of_not_lt hb)] at h0

/-! ### STEP 1: THE WALK -/
set_option maxHeartbeats 2000000 in
theorem walk0 (a b : Option Addr) (n ca cb : Nat) (p q : Nat → Int) (w : World) (hn : n ≤ 4096) (hs : Sl (Value.int .i64) w a n p) (hr : Sl (Value.int .i64) w b n q) :
    Calls Try.prog 7 #[.slice a n ca, .slice b n cb] w fun e w' => e = .returned (.bool true) ∧ Below w.heap.size w w' := by
  go_enter Try.func7, Try.ntmps7
  go_wp2_with fail
  refine (bytes22 _ _ _ _ _ _ hn hn _).mono ?_
  rintro e w' ⟨rfl, rfl⟩
  go_wp2_with fail
  refine (cloneInt_any _ _ _ p _ hn hs).mono ?_
  rintro e w1 ⟨a1, c1, rfl, ho1, hb1⟩
  have hr1 := hr.below hb1
  clear hs hr
  go_wp2_with fail
  refine (cloneInt_any _ _ _ q _ hn hr1).mono ?_
  rintro e w2 ⟨a2, c2, rfl, ho2, hb12⟩
  have s1 := ho1.sl.below hb12
  have s2 := ho2.sl
  have hb2 : Below w.heap.size w w2 := hb1.trans (hb12.mono hb1.size)
  clear ho1 ho2 hr1 hb1 hb12
  go_wp2_with fail
  refine (zzSpans_any _ _ _ _ _ p q _ hn s1 s2).mono ?_
  rintro e w3 ⟨x1, x2, x3, x4, d1, d2, d3, d4, rfl, t1, t2, t3, t4, hb23⟩
  have u1 := s1.below hb23
  have u2 := s2.below hb23
  have hb3 : Below w.heap.size w w3 := hb2.trans (hb23.mono hb2.size)
  clear s1 s2 hb2 hb23
  go_wp2_with fail
  refine (narrow_any _ _ _ p _ hn u1).mono ?_
  rintro e w4 ⟨a4, c4, rfl, ho4, hb34⟩
  have v1 := t1.below hb34
  have v2 := t2.below hb34
  have v3 := t3.below hb34
  have v4 := t4.below hb34
  have v5 := u2.below hb34
  have hb4 : Below w.heap.size w w4 := hb3.trans (hb34.mono hb3.size)
  have v0 := ho4.sl
  clear t1 t2 t3 t4 u1 u2 hb3 hb34 ho4
  go_wp2_with fail
  refine (isTally_call _ _ _ _ _ _ _ _ _ hn v0 v1 v2).mono ?_
  rintro e w5 ⟨rfl, m1, rfl⟩
  have x3' := v3.below (below_draws w4 m1)
  have x4' := v4.below (below_draws w4 m1)
  have x5' := v5.below (below_draws w4 m1)
  have hb5 : Below w.heap.size w (w4.drewN m1) := hb4.trans ⟨rfl, rfl, rfl, Nat.le_refl _, fun _ _ => rfl⟩
  clear v0 v1 v2 v3 v4 v5 hb4
  go_wp2_with fail
  refine (narrow_any _ _ _ q _ hn x5').mono ?_
  rintro e w6 ⟨a6, c6, rfl, ho6, hb56⟩
  have y3 := x3'.below hb56
  have y4 := x4'.below hb56
  have y0 := ho6.sl
  have hb6 : Below w.heap.size w w6 := hb5.trans (hb56.mono hb5.size)
  clear x3' x4' x5' hb5 hb56 ho6
  go_wp2_with fail
  refine (isTally_call _ _ _ _ _ _ _ _ _ hn y0 y3 y4).mono ?_
  rintro e w7 ⟨rfl, m2, rfl⟩
  go_wp2
  go_ret
  exact ⟨rfl, hb6.trans ⟨rfl, rfl, rfl, Nat.le_refl _, fun _ _ => rfl⟩⟩

theorem early (a b : Option Addr) (n m ca cb : Nat) (w : World) (hn : n ≤ 9223372036854775807) (hm : m ≤ 9223372036854775807) (h : 4096 < n ∨ 4096 < m ∨ n ≠ m) :
    Calls Try.prog 7 #[.slice a n ca, .slice b m cb] w fun e w' => e = .returned (.bool true) ∧ Below w.heap.size w w' := by
  go_enter Try.func7, Try.ntmps7
  go_wp2_with fail
  refine (bytes22_any _ _ _ _ _ _ hn hm _).mono ?_
  rintro e w' ⟨⟨r, rfl⟩, rfl⟩
  cases r with
  | false =>
    go_wp2
    go_ret
    exact ⟨rfl, Below.refl _ _⟩
  | true =>
    by_cases h1 : 4096 < n
    · go_wp2
      go_ret
      exact ⟨rfl, Below.refl _ _⟩
    · by_cases h2 : 4096 < m
      · go_wp2
        go_ret
        exact ⟨rfl, Below.refl _ _⟩
      · have h3 : n ≠ m := by omega
        clear h
        have h4 : ((n : Int) != (m : Int)) = true := by simp; omega
        go_wp2
        go_ret
        exact ⟨rfl, Below.refl _ _⟩

theorem len_of_isRow {k : IntKind} {w : World} {a : Option Addr} {len cap : Nat} {zs : List Int} (h : IsRow k w a len cap zs) : len ≤ 9223372036854775807 := by
  rcases h with ⟨_, h, _⟩ | ⟨x, ha, hl, hm, _⟩
  · omega
  · unfold maxLen at hm; omega

theorem walk (a0 : Option Addr) (len0 cap0 : Nat) (z0 : List Int) (a1 : Option Addr) (len1 cap1 : Nat) (z1 : List Int) (w : World) (w0 : IsRow .i64 w a0 len0 cap0 z0) (w1 : IsRow .i64 w a1 len1 cap1 z1) :
    Calls Try.prog 7 #[.slice a0 len0 cap0, .slice a1 len1 cap1] w fun e w' => e = .returned (.bool true) ∧ Below w.heap.size w w' := by
  by_cases h : len0 ≤ 4096 ∧ len0 = len1
  · obtain ⟨hn, rfl⟩ := h
    exact walk0 a0 a1 len0 cap0 cap1 _ _ w hn (sl_of_isRow w0) (sl_of_isRow w1)
  · exact early a0 a1 len0 len1 cap0 cap1 w (len_of_isRow w0) (len_of_isRow w1) (by omega)

/-! ### THE ROW's STEP: WRITTEN OUT: LEAVE IT -/
set_option maxRecDepth 100000 in
theorem lifted (os : Os) (started : os.Started) (H : Type) (enc : TypeId × Value → H) :
    ReturnsInHanded {} Try.checked os 7 .any (Rows.fnTallySpansCountsFirstsAndLastsSpec.pre6 enc Try.prog Try.f7 Rows.fnTallySpansCountsFirstsAndLastsRow.domain false) (Rows.fnTallySpansCountsFirstsAndLastsSpec.post enc Try.prog Try.f7 false true false false) := by
  refine returnsInHanded_of_change (C := Try.checked) own started (by kernel_rfl) Try.func7
    (ChangeSpec.witness6 (enc := enc) (C := Try.checked) false ⟨#[], #[.slice none 0 0, .slice none 0 0], []⟩ 8 (by kernel_rfl) (by kernel_rfl) (by kernel_rfl) (by kernel_rfl)) ?_
  intro W base args ds gs before hval0 hW hcnd _
  have hval : ∀ (j : Nat) t v, Try.f7.params[j]? = some t → args[j]? = some v → Value.okWide Try.prog W .any base t v := hval0
  have hW' := hW
  obtain ⟨p, q, hA0, hV, rfl, hfz, hnd⟩ := hW
  have hA : DataW.TrodAll enc Try.prog W 0 (fun _ => true) true Try.f7.params.toList args.toList ds p := hA0
  rw [Try.params7] at hA hval
  obtain ⟨v0, vs0, d0, ds0, p0, q0, hargs, rfl, rfl, h0, r0⟩ := trodAll_cons hA
  obtain ⟨v1, vs1, d1, ds1, p1, q1, rfl, rfl, rfl, h1, r1⟩ := trodAll_cons r0
  obtain ⟨rfl, rfl, rfl⟩ := trodAll_nil r1
  obtain rfl : args = #[v0, v1] := by cases args; simp_all
  obtain ⟨rfl, rfl⟩ := trodVars_none hV
  obtain ⟨a0, len0, cap0, rfl⟩ := okWide_slice Try.underlying22 (hval 0 22 v0 rfl rfl)
  have k0 := h0
  have lt0 : ∀ x ∈ p0, x.block < W.heap.size := by obtain ⟨m, hm⟩ := k0; exact DataW.trod_lt m _ _ _ hm
  obtain ⟨z0, w0⟩ : ∃ zs, IsRow .i64 W a0 len0 cap0 zs := by
    obtain ⟨fuel, hf⟩ := h0
    rcases open_ints Try.underlying22 Try.underlying3 (by kernel_rfl) hf with ⟨hcs, _⟩ | ⟨x, l, c, zs, hcs, _, hl, hm, hz, _, hcell, hwz⟩
    · simp [Value.cells] at hcs
      obtain ⟨rfl, rfl, rfl⟩ := hcs
      exact ⟨[], .inl ⟨rfl, rfl, rfl, rfl⟩⟩
    · simp [Value.cells] at hcs
      obtain ⟨rfl, rfl, rfl⟩ := hcs
      exact ⟨zs, .inr ⟨_, rfl, hl, hm, by simpa using hz, hcell, hwz⟩⟩
  obtain ⟨a1, len1, cap1, rfl⟩ := okWide_slice Try.underlying22 (hval 1 22 v1 rfl rfl)
  have k1 := h1
  have lt1 : ∀ x ∈ p1, x.block < W.heap.size := by obtain ⟨m, hm⟩ := k1; exact DataW.trod_lt m _ _ _ hm
  obtain ⟨z1, w1⟩ : ∃ zs, IsRow .i64 W a1 len1 cap1 zs := by
    obtain ⟨fuel, hf⟩ := h1
    rcases open_ints Try.underlying22 Try.underlying3 (by kernel_rfl) hf with ⟨hcs, _⟩ | ⟨x, l, c, zs, hcs, _, hl, hm, hz, _, hcell, hwz⟩
    · simp [Value.cells] at hcs
      obtain ⟨rfl, rfl, rfl⟩ := hcs
      exact ⟨[], .inl ⟨rfl, rfl, rfl, rfl⟩⟩
    · simp [Value.cells] at hcs
      obtain ⟨rfl, rfl, rfl⟩ := hcs
      exact ⟨zs, .inr ⟨_, rfl, hl, hm, by simpa using hz, hcell, hwz⟩⟩
  clear hA0 hval0
  refine (walk a0 len0 cap0 z0 a1 len1 cap1 z1 W w0 w1).mono fun e W' ⟨he, bel⟩ => ?_
  subst he
  exact ⟨_, rfl, _, _, _, [], _, [], hW', trodAll_mk1 (shut_bool Try.underlying4 _), (trodAll_cons_mk (Below.trod laidOut (by kernel_rfl) (of_decide_eq_true (by kernel_rfl)) k0 bel lt0) (trodAll_cons_mk (Below.trod laidOut (by kernel_rfl) (of_decide_eq_true (by kernel_rfl)) k1 bel lt1) trodAll_mk0)), rfl, bel.frame _, fun h => by cases h⟩

theorem over : Rows.fnTallySpansCountsFirstsAndLastsRow.holds Try.pinned (OpenSpec.ofChange Rows.fnTallySpansCountsFirstsAndLastsSpec) :=
  OpenClaim.holds_of_wide 7 Try.f7 rfl rfl rfl rfl rfl rfl rfl ⟨rfl, rfl, rfl, rfl, rfl⟩ rfl rfl rfl rfl rfl (by kernel_rfl) Try.func7 (by kernel_rfl)
    (of_decide_eq_true (by kernel_rfl)) (by unfold Func.isWrapper; first | (rw [if_pos (by decide +kernel)]; kernel_rfl) | (rw [if_neg (by decide +kernel)]; exact ⟨rfl, rfl⟩))
    (fun os started H enc _ => lifted os started H enc)

/-- ████ THE STATEMENT ████ -/
theorem proved : Rows.FnTallySpansCountsFirstsAndLastsSaid := over
#print axioms proved
end Go.Proofs.Qxb6601447a.fnTallySpansCountsFirstsAndLasts
