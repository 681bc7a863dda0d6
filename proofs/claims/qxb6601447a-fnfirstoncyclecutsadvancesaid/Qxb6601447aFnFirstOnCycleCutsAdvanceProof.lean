/-
  'Rows.FnFirstOnCycleCutsAdvanceSaid', proved. The frame is the guide's shell; the walk is ours.
-/
import Derived.Test.Qxb6601447aRows
import Derived.Test.Qxb6601447aFoc
import Derived.WalkKit
import Derived.ProofKit
import Derived.OpenShut
import Derived.ShutString
import Derived.ChangeOld
import Derived.Below
namespace Go.Proofs.Qxb6601447a.fnFirstOnCycleCutsAdvance
open Go.ChangeShapes Go.WideShapes Go.ChangeAt Go.RowKit
open Go.ChangeMaps (open_string shut_string)
open Go.Proofs.Qxb6601447a.Cyc Go.Proofs.Qxb6601447a.Mem
set_option linter.unusedVariables false

theorem own : ownKnob Try.prog.godebug = none := by kernel_rfl
theorem laidOut : laidOutB Try.prog = true := by kernel_rfl

/-- WHAT THE WALK IS TOLD OF A SLICE OF INTEGERS THAT CAME IN: it is nil; or it leads to a row of 'cap' cells, the numbers 'zs' (the first 'len' are its elements, the rest its spare room), each fitting its kind. -/
def IsRow (k : IntKind) (w : World) (a : Option Addr) (len cap : Nat) (zs : List Int) : Prop :=
  (a = none ∧ len = 0 ∧ cap = 0 ∧ zs = []) ∨
  ∃ x, a = some x ∧ len ≤ cap ∧ cap ≤ maxLen ∧ zs.length = cap ∧ (∀ i, i < zs.length → w.cell? (x.add i) = some (.int k (zs.getD i 0))) ∧ ∀ n ∈ zs, (Lit.int k n).wf = true

theorem sl_of_isRow {k : IntKind} {w : World} {a : Option Addr} {len cap : Nat} {zs : List Int} (h : IsRow k w a len cap zs) : Sl (Value.int k) w a len (fun i => zs.getD i 0) := by
  rcases h with ⟨_, h, _⟩ | ⟨x, ha, hl, _, hz, hc, _⟩
  · exact .inl h
  · by_cases e : len = 0
    · exact .inl e
    · right
      obtain ⟨b, off, spot⟩ := x
      have h0 := hc 0 (by omega)
      have hspot : spot = none := by simpa [Addr.add] using World.cell?_spot h0
      subst hspot
      refine ⟨b, off, ha, ?_, fun i hi => by have := hc i (by omega); rw [add_plain] at this; exact this⟩
      unfold World.cell? at h0
      by_cases hb : b < w.heap.size
      · exact hb
      · simp [Addr.add, Array.getElem?_eq_none (Nat.le_of_not_lt hb)] at h0

/-! ### STEP 1: THE WALK -/
set_option maxHeartbeats 2000000 in
theorem walk0 (a : Option Addr) (n cap : Nat) (p : Nat → Int) (w : World) (hn : n ≤ 4096) (hs : Sl (Value.int .i64) w a n p) :
    Calls Try.prog 4 #[.slice a n cap] w fun e w' => e = .returned (.bool true) ∧ Below w.heap.size w w' := by
  go_enter Try.func4, Try.ntmps4
  go_wp2_with (go_at_call 13; refine (bytes13 _ _ _ (by omega) _).mono ?_; rintro e w' ⟨rfl, rfl⟩)
  go_loop [4] (fun t => ∃ k : Nat, k ≤ n ∧ t = .int .i64 k ∧ ∀ j, j < k → p j < n) (fun t => n - (intOf t).toNat)
  case atStart => exact ⟨0, Nat.zero_le _, rfl, fun j h => by omega⟩
  case round =>
    obtain ⟨k, hk, rfl, hall⟩ := hrel
    by_cases hlt : k < n
    · obtain ⟨b, off, hab, hbl, hc⟩ := hs.resolve_left (by omega)
      subst hab
      have g1 := hc k hlt
      by_cases hz : p k < n
      · have R : ∀ j, j < k + 1 → p j < n := fun j hj => by
          by_cases e : j = k
          · subst e; exact hz
          · exact hall j (by omega)
        clear hall hc
        go_wp2
        go_round
        case rel => exact ⟨k + 1, by omega, by go_num, R⟩
        case measure => simp [intOf]; omega
      · clear hall hc
        go_wp2
        go_ret
        exact ⟨rfl, Below.refl _ _⟩
    · have hp : ∀ i, i < n → p i < n := fun i hi => hall i (by omega)
      clear hall
      go_wp2_with fail
      refine (cloneInt_any _ _ _ p _ hn hs).mono ?_
      rintro e w1 ⟨a1, c1, rfl, ho1, hb1⟩
      have hs1 := ho1.sl
      clear ho1 hs
      go_wp2_with fail
      refine (cloneInt_any _ _ _ p _ hn hs1).mono ?_
      rintro e w2 ⟨a2, c2, rfl, ho2, hb2⟩
      have hb2' : Below w.heap.size w w2 := hb1.trans (hb2.mono hb1.size)
      have hsz : w.heap.size ≤ w1.heap.size := hb1.size
      clear hs1 hb1 hb2
      go_wp2_with fail
      refine (zzFirst_any _ _ _ p _ hn ho2.sl hp).mono ?_
      rintro e w3 ⟨r, rfl, hr, hb3⟩
      have ho3 := ho2.below hb3
      have hb3' : Below w.heap.size w w3 := hb2'.trans (hb3.mono hb2'.size)
      clear ho2 hb3 hb2'
      go_wp2_with fail
      go_loopw [6, 7, 8] (fun tp tr ts wr => ∃ (q : Nat → Int) (prev r : Int) (st : Nat), tp = .int .i64 prev ∧ tr = .int .i64 r ∧ ts = .int .i64 st ∧ OwnSl (Value.int .i64) wr w1.heap.size a2 n q ∧ (∀ i, i < n → q i < n) ∧ IsFirst q n r ∧
          (∀ j : Nat, (j : Int) ≤ prev → ¬ Cyc q j) ∧ (st : Int) ≤ prev + 1 ∧ -1 ≤ prev ∧ prev < n ∧ Below w.heap.size w wr)
        (fun tp _ _ _ => (n - intOf tp).toNat)
      case atStart => exact ⟨p, -1, r, 0, rfl, rfl, rfl, ho3, hp, hr, fun j h => by omega, by omega, by omega, by omega, hb3'⟩
      case round =>
        clear ho3 hb3' hr hp
        obtain ⟨q, prev, r, st, rfl, rfl, rfl, ho, hq, hr, hno, h1, h2, h3, hb⟩ := hrel
        rcases hr with ⟨rfl, hall⟩ | ⟨m, rfl, hm, hcm, hlow⟩
        · clear hno hall hq
          go_wp2
          go_ret
          exact ⟨rfl, hb⟩
        · have hpm : prev < m := by
            by_cases e : (m : Int) ≤ prev
            · exact absurd hcm (hno m e)
            · omega
          obtain ⟨b, hab, hB, hO⟩ := ho.resolve_left (by omega)
          subst hab
          have g1 := hO.cell m hm
          have f1 := hO.froz m
          have R1 : OwnSl (Value.int .i64) (wr.setCell ⟨b, m, none⟩ (.int .i64 (-1))) w1.heap.size (some ⟨b, 0, none⟩) n (upd q m (-1)) := .inr ⟨b, rfl, hB, hO.set m (-1)⟩
          have R2 : ∀ i, i < n → upd q m (-1) i < n := fun i hi => by
            by_cases e : i = m
            · subst e; rw [upd_same]; omega
            · rw [upd_ne _ _ _ _ e]; exact hq i hi
          have R3 : ∀ j : Nat, (j : Int) ≤ m → ¬ Cyc (upd q m (-1)) j := fun j hj hc => by
            obtain ⟨h4, h5⟩ := cyc_cut hc
            exact hlow j (by omega) h4
          have R4 : Below w.heap.size w (wr.setCell ⟨b, m, none⟩ (.int .i64 (-1))) := hb.setCell (by exact Nat.le_trans hsz hB) _
          clear hno hlow hcm hq ho hO
          go_wp2_with fail
          refine (zzFirst_any _ _ _ _ _ hn R1.sl R2).mono ?_
          rintro e w4 ⟨r', rfl, hr', hb4⟩
          have R5 := R1.below hb4
          have R6 := R4.trans (hb4.mono R4.size)
          clear R1 R4 hb4
          go_wp2
          go_roundw
          case rel => exact ⟨_, m, r', st + 1, rfl, rfl, by go_num, R5, R2, hr', R3, by omega, by omega, by omega, R6⟩
          case measure => simp [intOf]; omega

theorem walk (a0 : Option Addr) (len0 cap0 : Nat) (z0 : List Int) (w : World) (w0 : IsRow .i64 w a0 len0 cap0 z0) :
    Calls Try.prog 4 #[.slice a0 len0 cap0] w fun e w' => e = .returned (.bool true) ∧ Below w.heap.size w w' := by
  by_cases hn : len0 ≤ 4096
  · exact walk0 a0 len0 cap0 _ w hn (sl_of_isRow w0)
  · by_cases hn2 : len0 ≤ 1048576
    · go_enter Try.func4, Try.ntmps4
      go_wp2_with (go_at_call 13; refine (bytes13 _ _ _ hn2 _).mono ?_; rintro e w' ⟨rfl, rfl⟩)
      go_ret
      exact ⟨rfl, Below.refl _ _⟩
    · go_enter Try.func4, Try.ntmps4
      go_wp2_with (go_at_call 13; refine (bytes13_no _ _ _ (by omega) _).mono ?_; rintro e w' ⟨rfl, rfl⟩)
      go_ret
      exact ⟨rfl, Below.refl _ _⟩

/-! ### THE ROW's STEP: WRITTEN OUT: LEAVE IT -/
set_option maxRecDepth 100000 in
theorem lifted (os : Os) (started : os.Started) (H : Type) (enc : TypeId × Value → H) :
    ReturnsInHanded {} Try.checked os 4 .any (Rows.fnFirstOnCycleCutsAdvanceSpec.pre6 enc Try.prog Try.f4 Rows.fnFirstOnCycleCutsAdvanceRow.domain false) (Rows.fnFirstOnCycleCutsAdvanceSpec.post enc Try.prog Try.f4 false true false false) := by
  refine returnsInHanded_of_change (C := Try.checked) own started (by kernel_rfl) Try.func4
    (ChangeSpec.witness6 (enc := enc) (C := Try.checked) false ⟨#[], #[.slice none 0 0], []⟩ 8 (by kernel_rfl) (by kernel_rfl) (by kernel_rfl) (by kernel_rfl)) ?_
  intro W base args ds gs before hval0 hW hcnd _
  have hval : ∀ (j : Nat) t v, Try.f4.params[j]? = some t → args[j]? = some v → Value.okWide Try.prog W .any base t v := hval0
  have hW' := hW
  obtain ⟨p, q, hA0, hV, rfl, hfz, hnd⟩ := hW
  have hA : DataW.TrodAll enc Try.prog W 0 (fun _ => true) true Try.f4.params.toList args.toList ds p := hA0
  rw [Try.params4] at hA hval
  obtain ⟨v0, vs0, d0, ds0, p0, q0, hargs, rfl, rfl, h0, r0⟩ := trodAll_cons hA
  obtain ⟨rfl, rfl, rfl⟩ := trodAll_nil r0
  obtain rfl : args = #[v0] := by cases args; simp_all
  obtain ⟨rfl, rfl⟩ := trodVars_none hV
  obtain ⟨a0, len0, cap0, rfl⟩ := okWide_slice Try.underlying22 (hval 0 22 v0 rfl rfl)
  have k0 := h0
  have lt0 : ∀ x ∈ p0, x.block < W.heap.size := by obtain ⟨m, hm⟩ := k0; exact DataW.trod_lt m _ _ _ hm
  obtain ⟨z0, w0⟩ : ∃ zs, IsRow .i64 W a0 len0 cap0 zs := by
    obtain ⟨fuel, hf⟩ := h0
    rcases open_ints Try.underlying22 Try.underlying3 (by kernel_rfl) hf with ⟨hcs, _⟩ | ⟨x, l, c, zs, hcs, _, hl, hm, hz, _, hcell, hwz⟩
    · simp [Value.cells] at hcs
      obtain ⟨rfl, rfl, rfl⟩ := hcs
      exact ⟨[], .inl ⟨rfl, rfl, rfl, rfl⟩⟩
    · simp [Value.cells] at hcs
      obtain ⟨rfl, rfl, rfl⟩ := hcs
      exact ⟨zs, .inr ⟨_, rfl, hl, hm, by simpa using hz, hcell, hwz⟩⟩
  clear hA0 hval0
  refine (walk a0 len0 cap0 z0 W w0).mono fun e W' ⟨he, bel⟩ => ?_
  subst he
  exact ⟨_, rfl, _, _, _, [], _, [], hW', trodAll_mk1 (shut_bool Try.underlying4 _), (trodAll_cons_mk (Below.trod laidOut (by kernel_rfl) (of_decide_eq_true (by kernel_rfl)) k0 bel lt0) trodAll_mk0), rfl, bel.frame _, fun h => by cases h⟩

theorem over : Rows.fnFirstOnCycleCutsAdvanceRow.holds Try.pinned (OpenSpec.ofChange Rows.fnFirstOnCycleCutsAdvanceSpec) :=
  OpenClaim.holds_of_wide 4 Try.f4 rfl rfl rfl rfl rfl rfl rfl ⟨rfl, rfl, rfl, rfl, rfl⟩ rfl rfl rfl rfl rfl (by kernel_rfl) Try.func4 (by kernel_rfl)
    (of_decide_eq_true (by kernel_rfl)) (by unfold Func.isWrapper; first | (rw [if_pos (by decide +kernel)]; kernel_rfl) | (rw [if_neg (by decide +kernel)]; exact ⟨rfl, rfl⟩))
    (fun os started H enc _ => lifted os started H enc)

/-- ████ THE STATEMENT ████ -/
theorem proved : Rows.FnFirstOnCycleCutsAdvanceSaid := over
#print axioms proved
end Go.Proofs.Qxb6601447a.fnFirstOnCycleCutsAdvance
