/-
  'Rows.FnBucketEndSpecSaid', proved. The frame is the guide's shell, the float slice opened by our own law; the walk is ours.
-/
import Derived.Test.Qxb6601588aRows
import Derived.Test.Qxb6601588aIn
import Derived.WalkKit
import Derived.ProofKit
import Derived.OpenShut
import Derived.ShutString
import Derived.ChangeOld
import Derived.Below
namespace Go.Proofs.Qxb6601588a.fnBucketEndSpec
open Go.ChangeShapes Go.WideShapes Go.ChangeAt Go.RowKit
open Go.ChangeMaps (open_string shut_string)
open Go.Proofs.Qxb6601588a.Mem Go.Proofs.Qxb6601588a.Fl
set_option linter.unusedVariables false

theorem own : ownKnob Try.prog.godebug = none := by kernel_rfl
theorem laidOut : laidOutB Try.prog = true := by kernel_rfl

/-! ### STEP 1: THE WALK -/
/-- The even share: how q = ceil(m / left) stands to m. -/
theorem share {m left q : Int} (hm : 0 ≤ m) (hl : 1 ≤ left) (hq : q = (m + left - 1) / left) : 0 ≤ q ∧ q ≤ m ∧ m ≤ q * left ∧ (q - 1) * left < m ∧ q * left ≤ m + left - 1 := by
  have h1 : q * left ≤ m + left - 1 := by rw [hq]; exact Int.ediv_mul_le _ (by omega)
  have h2 : m + left - 1 < (q + 1) * left := by rw [hq]; exact Int.lt_ediv_add_one_mul_self _ (by omega)
  have h0 : 0 ≤ q := by rw [hq]; exact Int.ediv_nonneg (by omega) (by omega)
  rw [Int.add_mul, Int.one_mul] at h2
  have h3 : (q - 1) * left = q * left - left := by rw [Int.sub_mul, Int.one_mul]
  refine ⟨h0, ?_, by omega, by omega, h1⟩
  rcases Int.lt_or_le m q with h | h
  · have h4 : (m + 1) * left ≤ q * left := Int.mul_le_mul_of_nonneg_right (by omega) (by omega)
    rw [Int.add_mul, Int.one_mul] at h4
    have h5 : m * 1 ≤ m * left := Int.mul_le_mul_of_nonneg_left hl hm
    omega
  · exact h

set_option maxRecDepth 100000 in
set_option maxHeartbeats 2000000 in
theorem early (a b : Option Addr) (n m ca cb : Nat) (x y z : Int) (w : World) (hn : n ≤ maxLen) (hm : m ≤ maxLen) (h : 65536 < n ∨ 65536 < m ∨ n ≠ m) :
    Calls Try.prog 5 #[.slice a n ca, .slice b m cb, .int .i64 x, .int .i64 y, .int .i64 z] w fun e w' => e = .returned (.bool true) ∧ Below w.heap.size w w' := by
  go_enter Try.func5, Try.ntmps5
  go_wp2_with fail
  refine (bytes16_any _ _ _ _ _ _ _ _ _ hn hm _).mono ?_
  rintro e w' ⟨⟨r, rfl⟩, rfl⟩
  unfold maxLen at hn hm
  cases r with
  | false =>
    go_wp2
    go_ret
    exact ⟨rfl, Below.refl _ _⟩
  | true =>
    by_cases h1 : 65536 < n
    · go_wp2
      go_ret
      exact ⟨rfl, Below.refl _ _⟩
    · by_cases h2 : 65536 < m
      · go_wp2
        go_ret
        exact ⟨rfl, Below.refl _ _⟩
      · have h4 : ((m : Int) != (n : Int)) = true := by simp; omega
        clear h
        go_wp2
        go_ret
        exact ⟨rfl, Below.refl _ _⟩

set_option maxRecDepth 100000 in
set_option maxHeartbeats 2000000 in
/-- distinct > 255. -/
theorem big (a b : Option Addr) (n ca cb : Nat) (v : Nat → Nat) (s : Nat → Int) (x y z : Int) (w : World) (hn : n ≤ 65536) (hs : Sl (Value.float .f64) w a n v) (hr : Sl (Value.int .i32) w b n s) (hz : 255 < z) :
    Calls Try.prog 5 #[.slice a n ca, .slice b n cb, .int .i64 x, .int .i64 y, .int .i64 z] w fun e w' => e = .returned (.bool true) ∧ Below w.heap.size w w' := by
  by_cases hok : 0 ≤ y ∧ y < 255 ∧ 0 ≤ x ∧ x ≤ n
  · obtain ⟨hy0, hy1, hx0, hx1⟩ := hok
    obtain ⟨st, rfl⟩ : ∃ st : Nat, x = st := ⟨x.toNat, by omega⟩
    obtain ⟨ld, rfl⟩ : ∃ ld : Nat, y = ld := ⟨y.toNat, by omega⟩
    go_enter Try.func5, Try.ntmps5
    go_wp2_with fail
    refine (bytes16 _ _ _ _ _ _ _ _ _ hn hn _).mono ?_
    rintro e w' ⟨rfl, rfl⟩
    go_wp2_with fail
    refine (cloneF64_any _ _ _ v _ hn hs).mono ?_
    rintro e w1 ⟨a1, c1, rfl, ho1, hb1⟩
    have hr1 := hr.below hb1
    clear hs hr
    go_wp2_with fail
    refine (cloneI32_any _ _ _ s _ hn hr1).mono ?_
    rintro e w2 ⟨a2, c2, rfl, ho2, hb12⟩
    have s1 := ho1.sl.below hb12
    have s2 := ho2.sl
    have hb2 : Below w.heap.size w w2 := hb1.trans (hb12.mono hb1.size)
    clear ho1 ho2 hr1 hb1 hb12
    go_wp2_with fail
    refine (zzBucket_any _ _ _ _ _ v s _ st (ld : Int) z hn s1 s2 (by omega) (fun h => by omega) (fun _ => by omega)).mono ?_
    rintro e w3 ⟨hans, hb3⟩
    have hb3' : Below w.heap.size w w3 := hb2.trans (hb3.mono hb2.size)
    clear s1 s2 hb2 hb3
    rcases hans with ⟨h, _⟩ | ⟨_, rfl⟩
    · omega
    obtain ⟨q, hq⟩ : ∃ q, q = ((n : Int) - st + (255 - ld) - 1) / (255 - ld) := ⟨_, rfl⟩
    rw [← hq]
    obtain ⟨k1, k2, k3, k4, k5⟩ := share (m := (n : Int) - st) (left := 255 - ld) (by omega) (by omega) hq
    have k6 : -(255 - (ld : Int)) ≤ (q - 1) * (255 - ld) := by
      have : (q - 1) * (255 - (ld : Int)) = q * (255 - ld) - (255 - ld) := by rw [Int.sub_mul, Int.one_mul]
      have : 0 ≤ q * (255 - (ld : Int)) := Int.mul_nonneg k1 (by omega)
      omega
    have hqq : (st : Int) + q - st = q := by omega
    clear hq
    go_wp2
    go_ret
    refine ⟨?_, hb3'⟩
    simp
    try omega
  · go_enter Try.func5, Try.ntmps5
    go_wp2_with fail
    refine (bytes16 _ _ _ _ _ _ _ _ _ hn hn _).mono ?_
    rintro e w' ⟨rfl, rfl⟩
    by_cases h1 : y < 0
    · go_wp2
      go_ret
      exact ⟨rfl, Below.refl _ _⟩
    · by_cases h2 : 255 ≤ y
      · go_wp2
        go_ret
        exact ⟨rfl, Below.refl _ _⟩
      · by_cases h3 : x < 0
        · go_wp2
          go_ret
          exact ⟨rfl, Below.refl _ _⟩
        · have h4 : (n : Int) < x := by omega
          clear hok
          go_wp2
          go_ret
          exact ⟨rfl, Below.refl _ _⟩

theorem Lt.trans {x y z : Nat} (h : Lt x y) (g : ¬ Lt z y) : Lt x z := by unfold Lt at *; omega

/-- Below the end every value is at most the one at the start; from the end on it is greater. -/
theorem side {v : Nat → Nat} {n st en : Nat} (hS : Sorted v n) (hE : IsEnd v n st en) {k : Nat} (hk : k < n) : (k < en → ¬ Lt (v st) (v k)) ∧ (en ≤ k → Lt (v st) (v k)) := by
  have hlo := hE.lo
  have hhi := hE.hi
  refine ⟨fun h => ?_, fun h => ?_⟩
  · by_cases e : k ≤ st
    · exact hS.mono e (by omega)
    · have := hE.run k (by omega) h
      intro h2
      exact Lt.not_eq h2 ⟨this.1.symm, this.2.symm⟩
  · have h1 := hE.stop (by omega)
    have h2 := hS.mono (i := st) (j := en) (by omega) (by omega)
    have h3 := hS.mono (i := en) (j := k) h hk
    refine Lt.trans (y := v en) ?_ h3
    unfold Lt Eq' at *
    omega

set_option maxRecDepth 100000 in
set_option maxHeartbeats 2000000 in
/-- distinct at most 255. -/
theorem small (a b : Option Addr) (n ca cb : Nat) (v : Nat → Nat) (s : Nat → Int) (x y z : Int) (w : World) (hn : n ≤ 65536) (hs : Sl (Value.float .f64) w a n v) (hr : Sl (Value.int .i32) w b n s) (hz : z ≤ 255) (hy : (Lit.int .i64 y).wf = true) :
    Calls Try.prog 5 #[.slice a n ca, .slice b n cb, .int .i64 x, .int .i64 y, .int .i64 z] w fun e w' => e = .returned (.bool true) ∧ Below w.heap.size w w' := by
  by_cases hok : 0 ≤ x ∧ x < n
  · obtain ⟨hx0, hx1⟩ := hok
    obtain ⟨st, rfl⟩ : ∃ st : Nat, x = st := ⟨x.toNat, by omega⟩
    go_enter Try.func5, Try.ntmps5
    go_wp2_with fail
    refine (bytes16 _ _ _ _ _ _ _ _ _ hn hn _).mono ?_
    rintro e w' ⟨rfl, rfl⟩
    go_wp2_with fail
    refine (sorted_any _ _ _ v _ hn hs).mono ?_
    rintro e w0 ⟨⟨r, rfl, hS⟩, m0, rfl⟩
    cases r with
    | false =>
      clear hS
      go_wp2
      go_ret
      exact ⟨rfl, ⟨rfl, rfl, rfl, Nat.le_refl _, fun _ _ => rfl⟩⟩
    | true =>
      replace hS := hS rfl
      have hb0 : Below w.heap.size w (w.drewN m0) := ⟨rfl, rfl, rfl, Nat.le_refl _, fun _ _ => rfl⟩
      have hs0 := hs.below hb0
      have hr0 := hr.below hb0
      clear hs hr
      go_wp2_with fail
      refine (cloneF64_any _ _ _ v _ hn hs0).mono ?_
      rintro e w1 ⟨a1, c1, rfl, ho1, hb1⟩
      have hr1 := hr0.below hb1
      have hb1' : Below w.heap.size w w1 := hb0.trans hb1
      clear hs0 hr0 hb0
      go_wp2_with fail
      refine (cloneI32_any _ _ _ s _ hn hr1).mono ?_
      rintro e w2 ⟨a2, c2, rfl, ho2, hb12⟩
      have s1 := ho1.sl.below hb12
      have s2 := ho2.sl
      have hb2 : Below w.heap.size w w2 := hb1'.trans (hb12.mono hb1'.size)
      clear ho1 ho2 hr1 hb1 hb1' hb12
      go_wp2_with fail
      refine (zzBucket_any _ _ _ _ _ v s _ st y z hn s1 s2 (by omega) (fun _ => ⟨by omega, hS.nn⟩) (fun h => by omega)).mono ?_
      rintro e w3 ⟨hans, hb3⟩
      have t1 := s1.below hb3
      have hb3' : Below w.heap.size w w3 := hb2.trans (hb3.mono hb2.size)
      clear s1 s2 hb2 hb3
      rcases hans with ⟨_, en, rfl, hE⟩ | ⟨h, _⟩
      · have hlo := hE.lo
        have hhi := hE.hi
        go_wp2
        go_loopw [16, 17] (fun tc tk wr => ∃ k c m : Nat, k ≤ n ∧ c ≤ k ∧ tk = .int .i64 k ∧ tc = .int .i64 c ∧ Hid (c = if k ≤ en then k else en) ∧ wr = w3.drewN m) (fun _ tk _ => n - (intOf tk).toNat)
        case atStart => exact ⟨0, 0, 0, Nat.zero_le _, Nat.le_refl _, rfl, rfl, by show 0 = _; simp, rfl⟩
        case round =>
          obtain ⟨k, c, m, hk, hck, rfl, rfl, hc, rfl⟩ := hrel
          by_cases hlt : k < n
          · obtain ⟨b1, off1, hab, hbl, hcl⟩ := t1.resolve_left (by omega)
            subst hab
            obtain ⟨p, hp⟩ : ∃ p, p = v k := ⟨_, rfl⟩
            obtain ⟨q, hq⟩ : ∃ q, q = v st := ⟨_, rfl⟩
            have gp : w3.cell? ⟨b1, off1 + k, none⟩ = some (.float .f64 p) := by rw [hp]; exact hcl k hlt
            have gq : w3.cell? ⟨b1, off1 + st, none⟩ = some (.float .f64 q) := by rw [hq]; exact hcl st (by omega)
            have hnp : ¬ IsNan p := by rw [hp]; exact hS.nn k hlt
            have hnq : ¬ IsNan q := by rw [hq]; exact hS.nn st (by omega)
            have hsd := side hS hE hlt
            rw [← hp, ← hq] at hsd
            have hlt' : (k : Int) < (n : Int) := by omega
            have hst' : (st : Int) < (n : Int) := by omega
            by_cases hke : k < en
            · have R : Hid (c + 1 = if k + 1 ≤ en then k + 1 else en) := by show _ = _; rw [if_pos (by omega), hc.out, if_pos (by omega)]
              rcases order_cases hnp hnq with ⟨_, h2⟩ | ⟨_, h2⟩ | ⟨h1, _⟩
              · have hF : FloatKind.f64.format.order p q = some .lt := h2
                clear hsd hnp hnq hcl hp hq hS hE t1 h2
                go_wp2
                go_quiet (fail)
                go_wp2
                go_roundw
                case rel => exact ⟨k + 1, c + 1, _, by omega, by omega, by go_num, by go_num, R, rfl⟩
                case measure => simp [intOf]; omega
              · have hF : FloatKind.f64.format.order p q = some .eq := h2
                clear hsd hnp hnq hcl hp hq hS hE t1 h2
                go_wp2
                go_quiet (fail)
                go_wp2
                go_roundw
                case rel => exact ⟨k + 1, c + 1, _, by omega, by omega, by go_num, by go_num, R, rfl⟩
                case measure => simp [intOf]; omega
              · exact absurd h1 (hsd.1 hke)
            · have R : Hid (c = if k + 1 ≤ en then k + 1 else en) := by
                show _ = _
                rw [if_neg (by omega), hc.out]
                split <;> omega
              have hF := ord_gt hnp hnq (hsd.2 (by omega))
              clear hsd hnp hnq hcl hp hq hS hE t1
              go_wp2
              go_quiet (fail)
              go_wp2
              go_roundw
              case rel => exact ⟨k + 1, c, _, by omega, by omega, by go_num, by go_num, R, rfl⟩
              case measure => simp [intOf]; omega
          · have hce : c = en := by rw [hc.out]; split <;> omega
            subst hce
            clear hS hE t1
            go_wp2
            go_ret
            exact ⟨by simp, hb3'.trans ⟨rfl, rfl, rfl, Nat.le_refl _, fun _ _ => rfl⟩⟩
      · omega
  · go_enter Try.func5, Try.ntmps5
    go_wp2_with fail
    refine (bytes16 _ _ _ _ _ _ _ _ _ hn hn _).mono ?_
    rintro e w' ⟨rfl, rfl⟩
    by_cases h3 : x < 0
    · go_wp2
      go_ret
      exact ⟨rfl, Below.refl _ _⟩
    · have h4 : (n : Int) ≤ x := by omega
      clear hok
      go_wp2
      go_ret
      exact ⟨rfl, Below.refl _ _⟩

theorem walk (a0 : Option Addr) (len0 cap0 : Nat) (z0 : Nat → Nat) (a1 : Option Addr) (len1 cap1 : Nat) (z1 : Nat → Int) (a2 : Int) (a3 : Int) (a4 : Int) (w : World) (w0 : Arg (Value.float .f64) w a0 len0 z0) (w1 : Arg (Value.int .i32) w a1 len1 z1) (w2 : (Lit.int .i64 a2).wf = true) (w3 : (Lit.int .i64 a3).wf = true) (w4 : (Lit.int .i64 a4).wf = true) :
    Calls Try.prog 5 #[.slice a0 len0 cap0, .slice a1 len1 cap1, .int .i64 a2, .int .i64 a3, .int .i64 a4] w fun e w' => e = .returned (.bool true) ∧ Below w.heap.size w w' := by
  by_cases h : len0 ≤ 65536 ∧ len0 = len1
  · obtain ⟨hn, rfl⟩ := h
    by_cases hz : a4 ≤ 255
    · exact small a0 a1 len0 cap0 cap1 z0 z1 a2 a3 a4 w hn w0.2 w1.2 hz w3
    · exact big a0 a1 len0 cap0 cap1 z0 z1 a2 a3 a4 w hn w0.2 w1.2 (by omega)
  · exact early a0 a1 len0 len1 cap0 cap1 a2 a3 a4 w w0.1 w1.1 (by omega)

/-! ### THE ROW's STEP: WRITTEN OUT: LEAVE IT -/
set_option maxRecDepth 100000 in
theorem lifted (os : Os) (started : os.Started) (H : Type) (enc : TypeId × Value → H) :
    ReturnsInHanded {} Try.checked os 5 .any (Rows.fnBucketEndSpecSpec.pre6 enc Try.prog Try.f5 Rows.fnBucketEndSpecRow.domain false) (Rows.fnBucketEndSpecSpec.post enc Try.prog Try.f5 false true false false) := by
  refine returnsInHanded_of_change (C := Try.checked) own started (by kernel_rfl) Try.func5
    (ChangeSpec.witness6 (enc := enc) (C := Try.checked) false ⟨#[], #[.slice none 0 0, .slice none 0 0, .int .i64 0, .int .i64 0, .int .i64 0], []⟩ 8 (by kernel_rfl) (by kernel_rfl) (by kernel_rfl) (by kernel_rfl)) ?_
  intro W base args ds gs before hval0 hW hcnd _
  have hval : ∀ (j : Nat) t v, Try.f5.params[j]? = some t → args[j]? = some v → Value.okWide Try.prog W .any base t v := hval0
  have hW' := hW
  obtain ⟨p, q, hA0, hV, rfl, hfz, hnd⟩ := hW
  have hA : DataW.TrodAll enc Try.prog W 0 (fun _ => true) true Try.f5.params.toList args.toList ds p := hA0
  rw [Try.params5] at hA hval
  obtain ⟨v0, vs0, d0, ds0, p0, q0, hargs, rfl, rfl, h0, r0⟩ := trodAll_cons hA
  obtain ⟨v1, vs1, d1, ds1, p1, q1, rfl, rfl, rfl, h1, r1⟩ := trodAll_cons r0
  obtain ⟨v2, vs2, d2, ds2, p2, q2, rfl, rfl, rfl, h2, r2⟩ := trodAll_cons r1
  obtain ⟨v3, vs3, d3, ds3, p3, q3, rfl, rfl, rfl, h3, r3⟩ := trodAll_cons r2
  obtain ⟨v4, vs4, d4, ds4, p4, q4, rfl, rfl, rfl, h4, r4⟩ := trodAll_cons r3
  obtain ⟨rfl, rfl, rfl⟩ := trodAll_nil r4
  obtain rfl : args = #[v0, v1, v2, v3, v4] := by cases args; simp_all
  obtain ⟨rfl, rfl⟩ := trodVars_none hV
  obtain ⟨a0, len0, cap0, rfl⟩ := okWide_slice Try.underlying26 (hval 0 26 v0 rfl rfl)
  have k0 := h0
  have lt0 : ∀ x ∈ p0, x.block < W.heap.size := by obtain ⟨m, hm⟩ := k0; exact DataW.trod_lt m _ _ _ hm
  obtain ⟨z0, w0⟩ : ∃ v, Arg (Value.float .f64) W a0 len0 v := by
    obtain ⟨fuel, hf⟩ := h0
    exact arg_floats hf
  obtain ⟨a1, len1, cap1, rfl⟩ := okWide_slice Try.underlying25 (hval 1 25 v1 rfl rfl)
  have k1 := h1
  have lt1 : ∀ x ∈ p1, x.block < W.heap.size := by obtain ⟨m, hm⟩ := k1; exact DataW.trod_lt m _ _ _ hm
  obtain ⟨z1, w1⟩ : ∃ v, Arg (Value.int .i32) W a1 len1 v := by
    obtain ⟨fuel, hf⟩ := h1
    exact arg_ints hf
  obtain ⟨a2, rfl, rfl, rfl, w2⟩ := open_int Try.underlying3 (hval 2 3 v2 rfl rfl) h2
  obtain ⟨a3, rfl, rfl, rfl, w3⟩ := open_int Try.underlying3 (hval 3 3 v3 rfl rfl) h3
  obtain ⟨a4, rfl, rfl, rfl, w4⟩ := open_int Try.underlying3 (hval 4 3 v4 rfl rfl) h4
  clear hA0 hval0
  refine (walk a0 len0 cap0 z0 a1 len1 cap1 z1 a2 a3 a4 W w0 w1 w2 w3 w4).mono fun e W' ⟨he, bel⟩ => ?_
  subst he
  exact ⟨_, rfl, _, _, _, [], _, [], hW', trodAll_mk1 (shut_bool Try.underlying4 _), (trodAll_cons_mk (Below.trod laidOut (by kernel_rfl) (of_decide_eq_true (by kernel_rfl)) k0 bel lt0) (trodAll_cons_mk (Below.trod laidOut (by kernel_rfl) (of_decide_eq_true (by kernel_rfl)) k1 bel lt1) (trodAll_cons_mk (shut_int Try.underlying3 w2) (trodAll_cons_mk (shut_int Try.underlying3 w3) (trodAll_cons_mk (shut_int Try.underlying3 w4) trodAll_mk0))))), rfl, bel.frame _, fun h => by cases h⟩

theorem over : Rows.fnBucketEndSpecRow.holds Try.pinned (OpenSpec.ofChange Rows.fnBucketEndSpecSpec) :=
  OpenClaim.holds_of_wide 5 Try.f5 rfl rfl rfl rfl rfl rfl rfl ⟨rfl, rfl, rfl, rfl, rfl⟩ rfl rfl rfl rfl rfl (by kernel_rfl) Try.func5 (by kernel_rfl)
    (of_decide_eq_true (by kernel_rfl)) (by unfold Func.isWrapper; first | (rw [if_pos (by decide +kernel)]; kernel_rfl) | (rw [if_neg (by decide +kernel)]; exact ⟨rfl, rfl⟩))
    (fun os started H enc _ => lifted os started H enc)

/-- ████ THE STATEMENT ████ -/
theorem proved : Rows.FnBucketEndSpecSaid := over
#print axioms proved
end Go.Proofs.Qxb6601588a.fnBucketEndSpec
