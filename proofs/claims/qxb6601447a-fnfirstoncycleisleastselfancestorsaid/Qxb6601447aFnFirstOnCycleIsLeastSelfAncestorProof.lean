/-
  'Rows.FnFirstOnCycleIsLeastSelfAncestorSaid', proved. The frame is the guide's shell; the walk is ours.
-/
import Derived.Test.Qxb6601447aRows
import Derived.Test.Qxb6601447aFoc
import Derived.WalkKit
import Derived.ProofKit
import Derived.OpenShut
import Derived.ShutString
import Derived.ChangeOld
import Derived.Below
namespace Go.Proofs.Qxb6601447a.fnFirstOnCycleIsLeastSelfAncestor
open Go.ChangeShapes Go.WideShapes Go.ChangeAt Go.RowKit
open Go.ChangeMaps (open_string shut_string)
open Go.Proofs.Qxb6601447a.Cyc Go.Proofs.Qxb6601447a.Mem
set_option linter.unusedVariables false

theorem own : ownKnob Try.prog.godebug = none := by kernel_rfl
theorem laidOut : laidOutB Try.prog = true := by kernel_rfl

/-- WHAT THE WALK IS TOLD OF A SLICE OF INTEGERS THAT CAME IN: it is nil; or it leads to a row of 'cap' cells, the numbers 'zs' (the first 'len' are its elements, the rest its spare room), each fitting its kind. -/
def IsRow (k : IntKind) (w : World) (a : Option Addr) (len cap : Nat) (zs : List Int) : Prop :=
  (a = none ∧ len = 0 ∧ cap = 0 ∧ zs = []) ∨
  ∃ x, a = some x ∧ len ≤ cap ∧ cap ≤ maxLen ∧ zs.length = cap ∧ (∀ i, i < zs.length → w.cell? (x.add i) = some (.int k (zs.getD i 0))) ∧ ∀ n ∈ zs, (Lit.int k n).wf = true

theorem sl_of_isRow {k : IntKind} {w : World} {a : Option Addr} {len cap : Nat} {zs : List Int} (h : IsRow k w a len cap zs) : Sl (Value.int k) w a len (fun i => zs.getD i 0) := by
  rcases h with ⟨_, h, _⟩ | ⟨x, ha, hl, _, hz, hc, _⟩
  · exact .inl h
  · by_cases e : len = 0
    · exact .inl e
    · right
      obtain ⟨b, off, spot⟩ := x
      have h0 := hc 0 (by omega)
      have hspot : spot = none := by simpa [Addr.add] using World.cell?_spot h0
      subst hspot
      refine ⟨b, off, ha, ?_, fun i hi => by have := hc i (by omega); rw [add_plain] at this; exact this⟩
      unfold World.cell? at h0
      by_cases hb : b < w.heap.size
      · exact hb
      · simp [Addr.add, Array.getElem?_eq_none (Nat.le_of_not_lt hb)] at h0

/-! ### STEP 1: THE WALK -/
theorem bytes9 (a : Option Addr) (n cap : Nat) (hn : n ≤ 1048576) (w : World) : Calls Try.prog 9 #[.slice a n cap] w fun e w' => e = .returned (.bool true) ∧ w = w' := by
  go_enter Try.func9, Try.ntmps9
  go_wp2
  go_ret
  exact ⟨rfl, rfl⟩

theorem bytes9_no (a : Option Addr) (n cap : Nat) (hn : 1048576 < n) (w : World) : Calls Try.prog 9 #[.slice a n cap] w fun e w' => e = .returned (.bool false) ∧ w = w' := by
  go_enter Try.func9, Try.ntmps9
  go_wp2
  go_ret
  exact ⟨rfl, rfl⟩

/-- A bool is handed back that says whether P holds. -/
def RetB (P : Prop) (e : Ending) : Prop := ∃ r : Bool, e = .returned (.bool r) ∧ (r = true ↔ P)

/-- reachesItself: does i come back to itself? -/
theorem reaches_any (a : Option Addr) (n cap : Nat) (p : Nat → Int) (i : Nat) (w : World) (hn : n ≤ 4096) (hs : Sl (Value.int .i64) w a n p) (hp : ∀ i, i < n → p i < n) (hin : i < n) :
    Calls Try.prog 28 #[.slice a n cap, .int .i64 i] w fun e w' => RetB (Cyc p i) e ∧ w = w' := by
  obtain ⟨b, off, hab, hbl, hc⟩ := hs.resolve_left (by omega)
  subst hab
  go_enter Try.func28, Try.ntmps28
  go_wp2
  go_loop [6, 7] (fun tj tk => ∃ j k : Nat, tj = .int .i64 j ∧ tk = .int .i64 k ∧ k ≤ n ∧ j < n ∧ Hid (it p k i = some j) ∧ Hid (∀ d, 0 < d → d ≤ k → it p d i ≠ some i)) (fun _ tk => n - (intOf tk).toNat)
  case atStart => exact ⟨i, 0, rfl, rfl, Nat.zero_le _, hin, rfl, fun d h1 h2 => by omega⟩
  case round =>
    obtain ⟨j, k, rfl, rfl, hk, hj, hit, hno⟩ := hrel
    by_cases hlt : k < n
    · have g1 := hc j hj
      have hpj := hp j hj
      have hnx := it_next p k i j hit.out
      clear hc
      by_cases h0 : 0 ≤ p j
      · rw [if_pos h0] at hnx
        obtain ⟨m, hm⟩ : ∃ m : Nat, p j = m := ⟨(p j).toNat, by omega⟩
        rw [hm] at g1 hpj
        rw [hm, Int.toNat_natCast] at hnx
        have HX : Hid (it p (k + 1) i = some m) := hnx
        clear hnx hm h0
        by_cases hmi : m = i
        · subst hmi
          have R : Hid (Cyc p m) := ⟨k, HX.out⟩
          go_wp2
          go_ret
          exact ⟨⟨true, rfl, ⟨fun _ => R, fun _ => rfl⟩⟩, rfl⟩
        · have R : Hid (∀ d, 0 < d → d ≤ k + 1 → it p d i ≠ some i) := fun d h1 h2 => by
            by_cases e : d = k + 1
            · subst e; rw [HX.out]; intro e2; exact hmi (Option.some.inj e2)
            · exact hno.out d h1 (by omega)
          go_wp2
          go_round
          case rel => exact ⟨m, k + 1, rfl, by go_num, by omega, by omega, HX, R⟩
          case measure => simp [intOf]; omega
      · rw [if_neg h0] at hnx
        have R : Hid (¬ Cyc p i) := fun h => cyc_not_dead h hnx
        clear hnx
        go_wp2
        go_ret
        exact ⟨⟨false, rfl, ⟨fun h => (by cases h), fun h => absurd h R.out⟩⟩, rfl⟩
    · have R : Hid (¬ Cyc p i) := fun h => by
        obtain ⟨d, h1, h2, h3⟩ := cyc_within hp hin h
        exact hno.out d h1 (by omega) h3
      go_wp2
      go_ret
      exact ⟨⟨false, rfl, ⟨fun h => (by cases h), fun h => absurd h R.out⟩⟩, rfl⟩

/-- leastSelfAncestor: the least number that comes back to itself. -/
theorem least_any (a : Option Addr) (n cap : Nat) (p : Nat → Int) (w : World) (hn : n ≤ 4096) (hs : Sl (Value.int .i64) w a n p) (hp : ∀ i, i < n → p i < n) :
    Calls Try.prog 12 #[.slice a n cap] w fun e w' => ∃ r, e = .returned (.int .i64 r) ∧ IsFirst p n r ∧ w = w' := by
  go_enter Try.func12, Try.ntmps12
  go_wp2
  go_loop [4] (fun t => ∃ k : Nat, k ≤ n ∧ t = .int .i64 k ∧ ∀ j, j < k → ¬ Cyc p j) (fun t => n - (intOf t).toNat)
  case atStart => exact ⟨0, Nat.zero_le _, rfl, fun j h => by omega⟩
  case round =>
    obtain ⟨k, hk, rfl, hno⟩ := hrel
    by_cases hlt : k < n
    · go_wp2_with fail
      refine (reaches_any _ _ _ p k _ hn hs hp hlt).mono ?_
      rintro e w' ⟨⟨r, rfl, hr⟩, rfl⟩
      cases r with
      | true =>
        have R := isFirst_of hlt (hr.1 rfl) hno
        clear hno hr
        go_wp2
        go_ret
        exact ⟨_, rfl, R, rfl⟩
      | false =>
        have R : ∀ j, j < k + 1 → ¬ Cyc p j := fun j hj => by
          by_cases e : j = k
          · subst e; exact fun h => by have := hr.2 h; cases this
          · exact hno j (by omega)
        clear hno hr
        go_wp2
        go_round
        case rel => exact ⟨k + 1, by omega, by go_num, R⟩
        case measure => simp [intOf]; omega
    · have R : IsFirst p n (-1) := isFirst_none fun j hj => hno j (by omega)
      clear hno
      go_wp2
      go_ret
      exact ⟨_, rfl, R, rfl⟩

set_option maxHeartbeats 2000000 in
theorem walk0 (a : Option Addr) (n cap : Nat) (p : Nat → Int) (w : World) (hn : n ≤ 4096) (hs : Sl (Value.int .i64) w a n p) :
    Calls Try.prog 3 #[.slice a n cap] w fun e w' => e = .returned (.bool true) ∧ Below w.heap.size w w' := by
  go_enter Try.func3, Try.ntmps3
  go_wp2_with (go_at_call 9; refine (bytes9 _ _ _ (by omega) _).mono ?_; rintro e w' ⟨rfl, rfl⟩)
  go_loop [4] (fun t => ∃ k : Nat, k ≤ n ∧ t = .int .i64 k ∧ ∀ j, j < k → p j < n) (fun t => n - (intOf t).toNat)
  case atStart => exact ⟨0, Nat.zero_le _, rfl, fun j h => by omega⟩
  case round =>
    obtain ⟨k, hk, rfl, hall⟩ := hrel
    by_cases hlt : k < n
    · obtain ⟨b, off, hab, hbl, hc⟩ := hs.resolve_left (by omega)
      subst hab
      have g1 := hc k hlt
      by_cases hz : p k < n
      · have R : ∀ j, j < k + 1 → p j < n := fun j hj => by
          by_cases e : j = k
          · subst e; exact hz
          · exact hall j (by omega)
        clear hall hc
        go_wp2
        go_round
        case rel => exact ⟨k + 1, by omega, by go_num, R⟩
        case measure => simp [intOf]; omega
      · clear hall hc
        go_wp2
        go_ret
        exact ⟨rfl, Below.refl _ _⟩
    · have hp : ∀ i, i < n → p i < n := fun i hi => hall i (by omega)
      clear hall
      go_wp2_with fail
      refine (cloneInt_any _ _ _ p _ hn hs).mono ?_
      rintro e w1 ⟨a1, c1, rfl, ho1, hb1⟩
      have hs1 := ho1.sl
      clear ho1 hs
      go_wp2_with fail
      refine (zzFirst_any _ _ _ p _ hn hs1 hp).mono ?_
      rintro e w2 ⟨r, rfl, hr, hb2⟩
      have hs2 := hs1.below hb2
      have hb2' : Below w.heap.size w w2 := hb1.trans (hb2.mono hb1.size)
      clear hs1 hb1 hb2
      go_wp2_with fail
      refine (least_any _ _ _ p _ hn hs2 hp).mono ?_
      rintro e w3 ⟨r', rfl, hr', rfl⟩
      have e := hr.uniq hr'
      subst e
      clear hr hr' hp
      go_wp2
      go_ret
      exact ⟨by simp, hb2'⟩

theorem walk (a0 : Option Addr) (len0 cap0 : Nat) (z0 : List Int) (w : World) (w0 : IsRow .i64 w a0 len0 cap0 z0) :
    Calls Try.prog 3 #[.slice a0 len0 cap0] w fun e w' => e = .returned (.bool true) ∧ Below w.heap.size w w' := by
  by_cases hn : len0 ≤ 4096
  · exact walk0 a0 len0 cap0 _ w hn (sl_of_isRow w0)
  · by_cases hn2 : len0 ≤ 1048576
    · go_enter Try.func3, Try.ntmps3
      go_wp2_with (go_at_call 9; refine (bytes9 _ _ _ hn2 _).mono ?_; rintro e w' ⟨rfl, rfl⟩)
      go_ret
      exact ⟨rfl, Below.refl _ _⟩
    · go_enter Try.func3, Try.ntmps3
      go_wp2_with (go_at_call 9; refine (bytes9_no _ _ _ (by omega) _).mono ?_; rintro e w' ⟨rfl, rfl⟩)
      go_ret
      exact ⟨rfl, Below.refl _ _⟩

/-! ### THE ROW's STEP: WRITTEN OUT: LEAVE IT -/
set_option maxRecDepth 100000 in
theorem lifted (os : Os) (started : os.Started) (H : Type) (enc : TypeId × Value → H) :
    ReturnsInHanded {} Try.checked os 3 .any (Rows.fnFirstOnCycleIsLeastSelfAncestorSpec.pre6 enc Try.prog Try.f3 Rows.fnFirstOnCycleIsLeastSelfAncestorRow.domain false) (Rows.fnFirstOnCycleIsLeastSelfAncestorSpec.post enc Try.prog Try.f3 false true false false) := by
  refine returnsInHanded_of_change (C := Try.checked) own started (by kernel_rfl) Try.func3
    (ChangeSpec.witness6 (enc := enc) (C := Try.checked) false ⟨#[], #[.slice none 0 0], []⟩ 8 (by kernel_rfl) (by kernel_rfl) (by kernel_rfl) (by kernel_rfl)) ?_
  intro W base args ds gs before hval0 hW hcnd _
  have hval : ∀ (j : Nat) t v, Try.f3.params[j]? = some t → args[j]? = some v → Value.okWide Try.prog W .any base t v := hval0
  have hW' := hW
  obtain ⟨p, q, hA0, hV, rfl, hfz, hnd⟩ := hW
  have hA : DataW.TrodAll enc Try.prog W 0 (fun _ => true) true Try.f3.params.toList args.toList ds p := hA0
  rw [Try.params3] at hA hval
  obtain ⟨v0, vs0, d0, ds0, p0, q0, hargs, rfl, rfl, h0, r0⟩ := trodAll_cons hA
  obtain ⟨rfl, rfl, rfl⟩ := trodAll_nil r0
  obtain rfl : args = #[v0] := by cases args; simp_all
  obtain ⟨rfl, rfl⟩ := trodVars_none hV
  obtain ⟨a0, len0, cap0, rfl⟩ := okWide_slice Try.underlying22 (hval 0 22 v0 rfl rfl)
  have k0 := h0
  have lt0 : ∀ x ∈ p0, x.block < W.heap.size := by obtain ⟨m, hm⟩ := k0; exact DataW.trod_lt m _ _ _ hm
  obtain ⟨z0, w0⟩ : ∃ zs, IsRow .i64 W a0 len0 cap0 zs := by
    obtain ⟨fuel, hf⟩ := h0
    rcases open_ints Try.underlying22 Try.underlying3 (by kernel_rfl) hf with ⟨hcs, _⟩ | ⟨x, l, c, zs, hcs, _, hl, hm, hz, _, hcell, hwz⟩
    · simp [Value.cells] at hcs
      obtain ⟨rfl, rfl, rfl⟩ := hcs
      exact ⟨[], .inl ⟨rfl, rfl, rfl, rfl⟩⟩
    · simp [Value.cells] at hcs
      obtain ⟨rfl, rfl, rfl⟩ := hcs
      exact ⟨zs, .inr ⟨_, rfl, hl, hm, by simpa using hz, hcell, hwz⟩⟩
  clear hA0 hval0
  refine (walk a0 len0 cap0 z0 W w0).mono fun e W' ⟨he, bel⟩ => ?_
  subst he
  exact ⟨_, rfl, _, _, _, [], _, [], hW', trodAll_mk1 (shut_bool Try.underlying4 _), (trodAll_cons_mk (Below.trod laidOut (by kernel_rfl) (of_decide_eq_true (by kernel_rfl)) k0 bel lt0) trodAll_mk0), rfl, bel.frame _, fun h => by cases h⟩

theorem over : Rows.fnFirstOnCycleIsLeastSelfAncestorRow.holds Try.pinned (OpenSpec.ofChange Rows.fnFirstOnCycleIsLeastSelfAncestorSpec) :=
  OpenClaim.holds_of_wide 3 Try.f3 rfl rfl rfl rfl rfl rfl rfl ⟨rfl, rfl, rfl, rfl, rfl⟩ rfl rfl rfl rfl rfl (by kernel_rfl) Try.func3 (by kernel_rfl)
    (of_decide_eq_true (by kernel_rfl)) (by unfold Func.isWrapper; first | (rw [if_pos (by decide +kernel)]; kernel_rfl) | (rw [if_neg (by decide +kernel)]; exact ⟨rfl, rfl⟩))
    (fun os started H enc _ => lifted os started H enc)

/-- ████ THE STATEMENT ████ -/
theorem proved : Rows.FnFirstOnCycleIsLeastSelfAncestorSaid := over
#print axioms proved
end Go.Proofs.Qxb6601447a.fnFirstOnCycleIsLeastSelfAncestor
