/-
  'Rows.FnBucketEndLayoutSaid', proved. The frame is the guide's shell, the float slice opened by our own law; the walk is ours.
-/
import Derived.Test.Qxb6601588aRows
import Derived.Test.Qxb6601588aLay
import Derived.WalkKit
import Derived.ProofKit
import Derived.OpenShut
import Derived.ShutString
import Derived.ChangeOld
import Derived.Below
namespace Go.Proofs.Qxb6601588a.fnBucketEndLayout
open Go.ChangeShapes Go.WideShapes Go.ChangeAt Go.RowKit
open Go.ChangeMaps (open_string shut_string)
open Go.Proofs.Qxb6601588a.Mem Go.Proofs.Qxb6601588a.Fl
set_option linter.unusedVariables false

theorem own : ownKnob Try.prog.godebug = none := by kernel_rfl
theorem laidOut : laidOutB Try.prog = true := by kernel_rfl

/-! ### STEP 1: THE WALK -/
set_option maxRecDepth 100000 in
set_option maxHeartbeats 2000000 in
theorem early (a b : Option Addr) (n m ca cb : Nat) (w : World) (hn : n ≤ maxLen) (hm : m ≤ maxLen) (h : 65536 < n ∨ 65536 < m ∨ n ≠ m) :
    Calls Try.prog 6 #[.slice a n ca, .slice b m cb] w fun e w' => e = .returned (.bool true) ∧ Below w.heap.size w w' := by
  go_enter Try.func6, Try.ntmps6
  go_wp2_with fail
  refine (bytes19_any _ _ _ _ _ _ hn hm _).mono ?_
  rintro e w' ⟨⟨r, rfl⟩, rfl⟩
  unfold maxLen at hn hm
  cases r with
  | false =>
    go_wp2
    go_ret
    exact ⟨rfl, Below.refl _ _⟩
  | true =>
    by_cases h1 : 65536 < n
    · go_wp2
      go_ret
      exact ⟨rfl, Below.refl _ _⟩
    · by_cases h2 : 65536 < m
      · go_wp2
        go_ret
        exact ⟨rfl, Below.refl _ _⟩
      · have h4 : ((m : Int) != (n : Int)) = true := by simp; omega
        clear h
        go_wp2
        go_ret
        exact ⟨rfl, Below.refl _ _⟩

/-- What the laying loop keeps: 'laid' buckets end at 'start'. -/
def Kept (v : Nat → Nat) (n d start laid : Nat) : Prop :=
  (d ≤ 255 ∧ laid = runs v start ∧ (start < n → start = 0 ∨ ¬ Eq' (v start) (v (start - 1)))) ∨ (255 < d ∧ laid ≤ 255 ∧ 255 - laid ≤ n - start ∧ (start < n → laid < 255))

theorem Kept.lt {v : Nat → Nat} {n d start laid : Nat} (hd : d = runs v n) (h : Kept v n d start laid) (hs : start < n) : laid < 255 := by
  rcases h with ⟨h1, h2, h3⟩ | ⟨_, _, _, h4⟩
  · have hb := runs_yes (h3 hs)
    have := runs_mono v (show start + 1 ≤ n by omega)
    omega
  · exact h4 hs

theorem Kept.step {v : Nat → Nat} {n d start laid : Nat} (hd : d = runs v n) (h : Kept v n d start laid) (hs : start < n) {e : Ending} (ha : Answers v n start laid d e) : ∃ en : Nat, e = .returned (.int .i64 en) ∧ start < en ∧ en ≤ n ∧ Kept v n d en (laid + 1) := by
  have hl := h.lt hd hs
  rcases h with ⟨h1, h2, h3⟩ | ⟨h1, h2, h3, h4⟩
  · rcases ha with ⟨_, en, he, hE⟩ | ⟨h5, _⟩
    · exact ⟨en, he, hE.lo, hE.hi, .inl ⟨h1, by rw [runs_end hE (h3 hs), h2], fun h => .inr (begins_end hE h)⟩⟩
    · omega
  · rcases ha with ⟨h5, _⟩ | ⟨_, he⟩
    · omega
    · obtain ⟨q, hq⟩ : ∃ q, q = ((n : Int) - start + (255 - laid) - 1) / (255 - laid) := ⟨_, rfl⟩
      obtain ⟨k1, k2, k3, k4⟩ := share_on (m := (n : Int) - start) (left := 255 - laid) (by omega) (by omega) hq
      rw [← hq] at he
      refine ⟨(start + q).toNat, ?_, by omega, by omega, .inr ⟨h1, by omega, by omega, fun h => ?_⟩⟩
      · rw [he]; congr 2; omega
      · by_cases e2 : laid = 254
        · have := k4 (by omega); omega
        · omega

set_option maxRecDepth 100000 in
set_option maxHeartbeats 2000000 in
theorem walk0 (a b : Option Addr) (n ca cb : Nat) (v : Nat → Nat) (s : Nat → Int) (w : World) (hn : n ≤ 65536) (hs : Sl (Value.float .f64) w a n v) (hr : Sl (Value.int .i32) w b n s) :
    Calls Try.prog 6 #[.slice a n ca, .slice b n cb] w fun e w' => e = .returned (.bool true) ∧ Below w.heap.size w w' := by
  go_enter Try.func6, Try.ntmps6
  go_wp2_with fail
  refine (bytes19 _ _ _ _ _ _ hn hn _).mono ?_
  rintro e w' ⟨rfl, rfl⟩
  go_wp2_with fail
  refine (sorted_any _ _ _ v _ hn hs).mono ?_
  rintro e w0 ⟨⟨r, rfl, hS⟩, m0, rfl⟩
  cases r with
  | false =>
    clear hS
    go_wp2
    go_ret
    exact ⟨rfl, ⟨rfl, rfl, rfl, Nat.le_refl _, fun _ _ => rfl⟩⟩
  | true =>
    replace hS := hS rfl
    have hb0 : Below w.heap.size w (w.drewN m0) := ⟨rfl, rfl, rfl, Nat.le_refl _, fun _ _ => rfl⟩
    have hs0 := hs.below hb0
    have hr0 := hr.below hb0
    clear hs hr
    go_wp2_with fail
    refine (cloneF64_any _ _ _ v _ hn hs0).mono ?_
    rintro e w1 ⟨a1, c1, rfl, ho1, hb1⟩
    have hr1 := hr0.below hb1
    have hb1' : Below w.heap.size w w1 := hb0.trans hb1
    clear hs0 hr0 hb0
    go_wp2_with fail
    refine (cloneI32_any _ _ _ s _ hn hr1).mono ?_
    rintro e w2 ⟨a2, c2, rfl, ho2, hb12⟩
    have s1 := ho1.sl.below hb12
    have s2 := ho2.sl
    have hb2 : Below w.heap.size w w2 := hb1'.trans (hb12.mono hb1'.size)
    clear ho1 ho2 hr1 hb1 hb1' hb12
    go_wp2
    go_loopw [6, 7] (fun td tk wr => ∃ k d m : Nat, k ≤ n ∧ d ≤ k ∧ tk = .int .i64 k ∧ td = .int .i64 d ∧ Hid (d = runs v k) ∧ wr = w2.drewN m) (fun _ tk _ => n - (intOf tk).toNat)
    case atStart => exact ⟨0, 0, 0, Nat.zero_le _, Nat.le_refl _, rfl, rfl, rfl, rfl⟩
    case round =>
      obtain ⟨k, d, m, hk, hdk, rfl, rfl, hd, rfl⟩ := hrel
      by_cases hlt : k < n
      · obtain ⟨b1, off1, hab, hbl, hcl⟩ := s1.resolve_left (by omega)
        subst hab
        by_cases h0 : k = 0
        · subst h0
          have R : Hid (d + 1 = runs v (0 + 1)) := by show _ = _; rw [runs_yes (.inl rfl), hd.out]
          clear hcl s1 s2 hS
          go_wp2
          go_quiet (fail)
          go_wp2
          go_roundw
          case rel => exact ⟨0 + 1, d + 1, _, by omega, by omega, by go_num, by go_num, R, rfl⟩
          case measure => simp [intOf]; omega
        · obtain ⟨p, hp⟩ : ∃ p, p = v k := ⟨_, rfl⟩
          obtain ⟨q, hq⟩ : ∃ q, q = v (k - 1) := ⟨_, rfl⟩
          have gp : w2.cell? ⟨b1, off1 + k, none⟩ = some (.float .f64 p) := by rw [hp]; exact hcl k hlt
          have gq : w2.cell? ⟨b1, off1 + (k - 1), none⟩ = some (.float .f64 q) := by rw [hq]; exact hcl (k - 1) (by omega)
          have hnp : ¬ IsNan p := by rw [hp]; exact hS.nn k hlt
          have hnq : ¬ IsNan q := by rw [hq]; exact hS.nn (k - 1) (by omega)
          have hlt' : (k : Int) < (n : Int) := by omega
          have hk1 : (k : Int) - 1 < (n : Int) := by omega
          have hk2 : (0 : Int) ≤ (k : Int) - 1 := by omega
          have hk0 : ((k : Int) == 0) = false := by simpa using h0
          by_cases he : Eq' p q
          · have hF := ord_eq hnp hnq he
            have R : Hid (d = runs v (k + 1)) := by show _ = _; rw [runs_no h0 (by rw [← hp, ← hq]; exact he), hd.out]
            clear hcl s1 s2 hS hnp hnq hp hq he h0
            go_wp2
            go_quiet (fail)
            go_wp2
            go_roundw
            case rel => exact ⟨k + 1, d, _, by omega, by omega, by go_num, by go_num, R, rfl⟩
            case measure => simp [intOf]; omega
          · have hF : (FloatKind.f64.format.order p q != some .eq) = true := by
              rcases order_cases hnp hnq with ⟨_, h4⟩ | ⟨h3, _⟩ | ⟨_, h4⟩
              · rw [show FloatKind.f64.format.order p q = some .lt from h4]; rfl
              · exact absurd h3 he
              · rw [show FloatKind.f64.format.order p q = some .gt from h4]; rfl
            have R : Hid (d + 1 = runs v (k + 1)) := by show _ = _; rw [runs_yes (.inr (by rw [← hp, ← hq]; exact he)), hd.out]
            clear hcl s1 s2 hS hnp hnq hp hq he h0
            go_wp2
            go_quiet (fail)
            go_wp2
            go_roundw
            case rel => exact ⟨k + 1, d + 1, _, by omega, by omega, by go_num, by go_num, R, rfl⟩
            case measure => simp [intOf]; omega
      · obtain rfl : k = n := by omega
        have bd : Below w2.heap.size w2 (w2.drewN m) := ⟨rfl, rfl, rfl, Nat.le_refl _, fun _ _ => rfl⟩
        have t1 := s1.below bd
        have t2 := s2.below bd
        have hb3 : Below w.heap.size w (w2.drewN m) := hb2.trans (bd.mono hb2.size)
        clear s1 s2 hb2 bd
        have hdr : Hid (d = runs v k) := hd
        have hd2 : d ≤ 65536 := by omega
        generalize w2.drewN m = W at t1 t2 hb3 ⊢
        go_wp2
        go_loopw [8, 9] (fun ts tl wr => ∃ st ld : Nat, ts = .int .i64 st ∧ tl = .int .i64 ld ∧ st ≤ k ∧ ld ≤ 255 ∧ Hid (Kept v k d st ld) ∧ Below W.heap.size W wr) (fun ts _ _ => k - (intOf ts).toNat)
        case atStart => exact ⟨0, 0, rfl, rfl, Nat.zero_le _, Nat.zero_le _, by
            have hle := runs_le v k
            have hdo := hdr.out
            by_cases h : d ≤ 255
            · exact .inl ⟨h, rfl, fun _ => .inl rfl⟩
            · exact .inr ⟨by omega, by omega, by omega, fun _ => by omega⟩, Below.refl _ _⟩
        case round =>
          obtain ⟨st, ld, rfl, rfl, hst, hld, hK, hb⟩ := hrel
          by_cases hlt2 : st < k
          · have hl := hK.out.lt hdr.out hlt2
            have x1 := t1.below hb
            have x2 := t2.below hb
            go_wp2_with fail
            refine (zzBucket_any _ _ _ _ _ v s _ st (ld : Int) (d : Int) hn x1 x2 hst (fun _ => ⟨hlt2, hS.nn⟩) (fun _ => by omega)).mono ?_
            rintro e w4 ⟨hans, hb4⟩
            obtain ⟨en, rfl, e1, e2, hK2⟩ := hK.out.step hdr.out hlt2 hans
            have R2 : Below W.heap.size W w4 := hb.trans (hb4.mono hb.size)
            have R1 : Hid (Kept v k d en (ld + 1)) := hK2
            clear hans hK2 hK hb hb4 x1 x2
            go_wp2
            go_roundw
            case rel => exact ⟨en, ld + 1, rfl, by go_num, by omega, by omega, R1, R2⟩
            case measure => simp [intOf]; omega
          · obtain rfl : st = k := by omega
            have hb5 : Below w.heap.size w wr := hb3.trans (hb.mono hb3.size)
            have hfin : (d ≤ 255 ∧ ld = d) ∨ (255 < d ∧ ld = 255) := by
              rcases hK.out with ⟨h1, h2, _⟩ | ⟨h1, h2, h3, _⟩
              · exact .inl ⟨h1, by rw [h2, ← hdr.out]⟩
              · exact .inr ⟨h1, by omega⟩
            clear hK hS t1 t2 hb
            rcases hfin with ⟨h1, rfl⟩ | ⟨h1, rfl⟩
            · go_wp2
              go_ret
              exact ⟨by simp, hb5⟩
            · go_wp2
              go_ret
              exact ⟨by simp, hb5⟩

theorem walk (a0 : Option Addr) (len0 cap0 : Nat) (z0 : Nat → Nat) (a1 : Option Addr) (len1 cap1 : Nat) (z1 : Nat → Int) (w : World) (w0 : Arg (Value.float .f64) w a0 len0 z0) (w1 : Arg (Value.int .i32) w a1 len1 z1) :
    Calls Try.prog 6 #[.slice a0 len0 cap0, .slice a1 len1 cap1] w fun e w' => e = .returned (.bool true) ∧ Below w.heap.size w w' := by
  by_cases h : len0 ≤ 65536 ∧ len0 = len1
  · obtain ⟨hn, rfl⟩ := h
    exact walk0 a0 a1 len0 cap0 cap1 z0 z1 w hn w0.2 w1.2
  · exact early a0 a1 len0 len1 cap0 cap1 w w0.1 w1.1 (by omega)

/-! ### THE ROW's STEP: WRITTEN OUT: LEAVE IT -/
set_option maxRecDepth 100000 in
theorem lifted (os : Os) (started : os.Started) (H : Type) (enc : TypeId × Value → H) :
    ReturnsInHanded {} Try.checked os 6 .any (Rows.fnBucketEndLayoutSpec.pre6 enc Try.prog Try.f6 Rows.fnBucketEndLayoutRow.domain false) (Rows.fnBucketEndLayoutSpec.post enc Try.prog Try.f6 false true false false) := by
  refine returnsInHanded_of_change (C := Try.checked) own started (by kernel_rfl) Try.func6
    (ChangeSpec.witness6 (enc := enc) (C := Try.checked) false ⟨#[], #[.slice none 0 0, .slice none 0 0], []⟩ 8 (by kernel_rfl) (by kernel_rfl) (by kernel_rfl) (by kernel_rfl)) ?_
  intro W base args ds gs before hval0 hW hcnd _
  have hval : ∀ (j : Nat) t v, Try.f6.params[j]? = some t → args[j]? = some v → Value.okWide Try.prog W .any base t v := hval0
  have hW' := hW
  obtain ⟨p, q, hA0, hV, rfl, hfz, hnd⟩ := hW
  have hA : DataW.TrodAll enc Try.prog W 0 (fun _ => true) true Try.f6.params.toList args.toList ds p := hA0
  rw [Try.params6] at hA hval
  obtain ⟨v0, vs0, d0, ds0, p0, q0, hargs, rfl, rfl, h0, r0⟩ := trodAll_cons hA
  obtain ⟨v1, vs1, d1, ds1, p1, q1, rfl, rfl, rfl, h1, r1⟩ := trodAll_cons r0
  obtain ⟨rfl, rfl, rfl⟩ := trodAll_nil r1
  obtain rfl : args = #[v0, v1] := by cases args; simp_all
  obtain ⟨rfl, rfl⟩ := trodVars_none hV
  obtain ⟨a0, len0, cap0, rfl⟩ := okWide_slice Try.underlying26 (hval 0 26 v0 rfl rfl)
  have k0 := h0
  have lt0 : ∀ x ∈ p0, x.block < W.heap.size := by obtain ⟨m, hm⟩ := k0; exact DataW.trod_lt m _ _ _ hm
  obtain ⟨z0, w0⟩ : ∃ v, Arg (Value.float .f64) W a0 len0 v := by
    obtain ⟨fuel, hf⟩ := h0
    exact arg_floats hf
  obtain ⟨a1, len1, cap1, rfl⟩ := okWide_slice Try.underlying25 (hval 1 25 v1 rfl rfl)
  have k1 := h1
  have lt1 : ∀ x ∈ p1, x.block < W.heap.size := by obtain ⟨m, hm⟩ := k1; exact DataW.trod_lt m _ _ _ hm
  obtain ⟨z1, w1⟩ : ∃ v, Arg (Value.int .i32) W a1 len1 v := by
    obtain ⟨fuel, hf⟩ := h1
    exact arg_ints hf
  clear hA0 hval0
  refine (walk a0 len0 cap0 z0 a1 len1 cap1 z1 W w0 w1).mono fun e W' ⟨he, bel⟩ => ?_
  subst he
  exact ⟨_, rfl, _, _, _, [], _, [], hW', trodAll_mk1 (shut_bool Try.underlying4 _), (trodAll_cons_mk (Below.trod laidOut (by kernel_rfl) (of_decide_eq_true (by kernel_rfl)) k0 bel lt0) (trodAll_cons_mk (Below.trod laidOut (by kernel_rfl) (of_decide_eq_true (by kernel_rfl)) k1 bel lt1) trodAll_mk0)), rfl, bel.frame _, fun h => by cases h⟩

theorem over : Rows.fnBucketEndLayoutRow.holds Try.pinned (OpenSpec.ofChange Rows.fnBucketEndLayoutSpec) :=
  OpenClaim.holds_of_wide 6 Try.f6 rfl rfl rfl rfl rfl rfl rfl ⟨rfl, rfl, rfl, rfl, rfl⟩ rfl rfl rfl rfl rfl (by kernel_rfl) Try.func6 (by kernel_rfl)
    (of_decide_eq_true (by kernel_rfl)) (by unfold Func.isWrapper; first | (rw [if_pos (by decide +kernel)]; kernel_rfl) | (rw [if_neg (by decide +kernel)]; exact ⟨rfl, rfl⟩))
    (fun os started H enc _ => lifted os started H enc)

/-- ████ THE STATEMENT ████ -/
theorem proved : Rows.FnBucketEndLayoutSaid := over
#print axioms proved
end Go.Proofs.Qxb6601588a.fnBucketEndLayout
