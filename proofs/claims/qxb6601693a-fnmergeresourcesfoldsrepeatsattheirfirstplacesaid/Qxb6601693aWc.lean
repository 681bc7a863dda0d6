/-
  WALK: zzMergeFits (6).
-/
import Derived.Test.Qxb6601693aWb
import Derived.Deep.RegionWith
import Derived.Deep.CutRange
namespace Go.Proofs.Qxb6601693a
open Go.RowKit
open Go.Proofs.Qxb6601693a.Mem
set_option linter.unusedVariables false

theorem hide {p : Prop} (h : p) : Hid p := h

theorem own_zero8 (w : World) : Own (Value.int .i64) (w.alloc (.cells #[.int .i64 0, .int .i64 0, .int .i64 0, .int .i64 0, .int .i64 0, .int .i64 0, .int .i64 0, .int .i64 0] 37)) w.heap.size 8 (fun _ => 0) := by
  refine ⟨by simp, fun i hi => ?_, fun i => by simp⟩
  rcases i with _ | _ | _ | _ | _ | _ | _ | _ | i
  all_goals first | omega | simp

def eight (z0 z1 z2 z3 z4 z5 z6 z7 : Int) (i : Nat) : Int := match i with
  | 0 => z0 | 1 => z1 | 2 => z2 | 3 => z3 | 4 => z4 | 5 => z5 | 6 => z6 | _ => z7

theorem own_eight (w : World) (z0 z1 z2 z3 z4 z5 z6 z7 : Int) : Own (Value.int .i64) (w.alloc (.cells #[.int .i64 z0, .int .i64 z1, .int .i64 z2, .int .i64 z3, .int .i64 z4, .int .i64 z5, .int .i64 z6, .int .i64 z7] 37)) w.heap.size 8 (eight z0 z1 z2 z3 z4 z5 z6 z7) := by
  refine ⟨by simp, fun i hi => ?_, fun i => by simp⟩
  rcases i with _ | _ | _ | _ | _ | _ | _ | _ | i
  all_goals first | omega | simp [eight]

abbrev set8 (w : World) (b : Nat) (v0 v1 v2 v3 v4 v5 v6 v7 : Value) : World :=
  (((((((w.setCell ⟨b, 0, none⟩ v0).setCell ⟨b, 1, none⟩ v1).setCell ⟨b, 2, none⟩ v2).setCell ⟨b, 3, none⟩ v3).setCell ⟨b, 4, none⟩ v4).setCell ⟨b, 5, none⟩ v5).setCell ⟨b, 6, none⟩ v6).setCell ⟨b, 7, none⟩ v7

theorem own_set8 {w : World} {b : Nat} {g : Nat → Int} (h : Own (Value.int .i64) w b 8 g) (z0 z1 z2 z3 z4 z5 z6 z7 : Int) : Own (Value.int .i64) (set8 w b (.int .i64 z0) (.int .i64 z1) (.int .i64 z2) (.int .i64 z3) (.int .i64 z4) (.int .i64 z5) (.int .i64 z6) (.int .i64 z7)) b 8 (eight z0 z1 z2 z3 z4 z5 z6 z7) :=
  ((((((((h.set 0 z0).set 1 z1).set 2 z2).set 3 z3).set 4 z4).set 5 z5).set 6 z6).set 7 z7).congr fun i hi => by
    rcases i with _ | _ | _ | _ | _ | _ | _ | _ | i
    all_goals first | omega | simp [eight, upd]

theorem below_set8 {B b : Nat} {w w' : World} (hb : B ≤ b) (h : Below B w w') (v0 v1 v2 v3 v4 v5 v6 v7 : Value) : Below B w (set8 w' b v0 v1 v2 v3 v4 v5 v6 v7) :=
  (((((((h.setCell hb _).setCell hb _).setCell hb _).setCell hb _).setCell hb _).setCell hb _).setCell hb _).setCell hb _

def RetIf (P : Prop) (e : Ending) : Prop := ∃ r : Bool, e = .returned (.bool r) ∧ (r = true → P)

set_option maxRecDepth 100000 in
set_option maxHeartbeats 4000000 in
theorem mergeFits_any (a : Option Addr) (n cap : Nat) (R : Nat → Re) (w : World) (hn : n ≤ maxLen) (hs : Rs w a n R) :
    Calls Try.prog 6 #[.slice a n cap] w fun e w' => RetIf (n ≤ 4096 ∧ ∀ i, i < n → (R i).len ≤ 65536) e ∧ Below w.heap.size w w' := by
  unfold maxLen at hn
  by_cases hn2 : n ≤ 4096
  rotate_left
  · go_enter Try.func6, Try.ntmps6
    go_wp2
    go_ret
    exact ⟨⟨_, rfl, fun h => by cases h⟩, Below.refl _ _⟩
  have hO0 := own_zero8 w
  have hb0 : Below w.heap.size w (w.alloc (.cells #[.int .i64 0, .int .i64 0, .int .i64 0, .int .i64 0, .int .i64 0, .int .i64 0, .int .i64 0, .int .i64 0] 37)) := (Below.refl _ w).alloc (Nat.le_refl _) _
  go_enter Try.func6, Try.ntmps6
  go_wp2
  go_loopw [4] (fun tk wr => ∃ (k : Nat) (x : Nat → Int), k ≤ n ∧ tk = .int .i64 k ∧ (∀ i, i < k → (R i).len ≤ 65536) ∧ 0 ≤ x 0 ∧ x 0 ≤ 1048576 ∧ Own (Value.int .i64) wr w.heap.size 8 x ∧ Below w.heap.size w wr) (fun tk _ => n - (intOf tk).toNat)
  case atStart => exact ⟨0, _, Nat.zero_le _, rfl, fun i hi => by omega, by simp, by simp, hO0, hb0⟩
  case round =>
    obtain ⟨k, x, hk, rfl, hP, hx0, hx1, hO, hb⟩ := hrel
    by_cases hlt : k < n
    · obtain ⟨b, off, hab, hbl, hc⟩ := (hs.below hb).resolve_left (by omega)
      subst hab
      obtain ⟨hat, hok⟩ := hc k hlt
      have g0 := hat.c0
      have g1 := hat.c1
      have g2 := hat.c2
      have g3 := hat.c3
      have hlt0 := hO.lt
      have y0 := hO.cell 0 (by omega)
      have y1 := hO.cell 1 (by omega)
      have y2 := hO.cell 2 (by omega)
      have y3 := hO.cell 3 (by omega)
      have y4 := hO.cell 4 (by omega)
      have y5 := hO.cell 5 (by omega)
      have y6 := hO.cell 6 (by omega)
      have y7 := hO.cell 7 (by omega)
      have hP2 : (R k).len ≤ 65536 → ∀ i, i < k + 1 → (R i).len ≤ 65536 := fun h i hi => by
        by_cases e : i = k
        · subst e; exact h
        · exact hP i (by omega)
      have hzO : Hid (∀ w', Below (wr.drew.alloc (.cells #[.int .i64 0, .int .i64 0, .int .i64 0, .int .i64 0, .int .i64 0, .int .i64 0, .int .i64 0, .int .i64 0] 37)).heap.size (wr.drew.alloc (.cells #[.int .i64 0, .int .i64 0, .int .i64 0, .int .i64 0, .int .i64 0, .int .i64 0, .int .i64 0, .int .i64 0] 37)) w' → Own (Value.int .i64) w' wr.heap.size 8 (fun _ => 0)) :=
        by
          refine hide ?_
          intro w' h
          exact Own.below (own_zero8 wr.drew) h (by simp)
      have hst : Stat (.agg #[.int .i64 (x 0), .int .i64 (x 1), .int .i64 (x 2), .int .i64 (x 3), .int .i64 (x 4), .int .i64 (x 5), .int .i64 (x 6), .int .i64 (x 7)]) := ⟨_, _, _, _, _, _, _, _, rfl, hx0, hx1⟩
      have HC : Hid (∀ v : World, Below wr.heap.size wr v → Calls Try.prog 14 #[.agg #[.int .i64 (x 0), .int .i64 (x 1), .int .i64 (x 2), .int .i64 (x 3), .int .i64 (x 4), .int .i64 (x 5), .int .i64 (x 6), .int .i64 (x 7)], .agg #[.string (R k).ty, .string (R k).cl, .string (R k).nm, .slice (R k).sl (R k).len (R k).cap]] v fun e w' => RetStat ((R k).len ≤ 65536) e ∧ Below v.heap.size v w') := by
        refine hide ?_
        intro v hv
        exact addRes_any _ (R k) v hst (hok.below hv)
      clear hP hc hs hat hok hst hO0 hb0
      go_upto_region 7 with fail
      go_cut [5, 6] from 11 to 28 (fun t5 t6 wx => ∃ (b' : Nat) (x' : Nat → Int) (r : Bool), t5 = .pointer (some ⟨b', 0, none⟩) ∧ t6 = .bool r ∧ (r = true → (R k).len ≤ 65536) ∧ 0 ≤ x' 0 ∧ x' 0 ≤ 1048576 ∧ wr.heap.size ≤ b' ∧ Own (Value.int .i64) wx b' 8 x' ∧ Below wr.heap.size wr wx)
      case first =>
        go_region_with (go_at_call 14; refine (HC.out _ ?_).mono ?_; (first | exact (Below.refl _ _).drew | exact ((Below.refl _ _).drew.alloc (Nat.le_refl _) _)); rintro e w' ⟨⟨v, r, ⟨z0, z1, z2, z3, z4, z5, z6, z7, rfl, hz0, hz1⟩, rfl, hr⟩, hB⟩; (first | (have zz := hzO.out _ hB; have c0 := zz.cell 0 (by omega); have c1 := zz.cell 1 (by omega); have c2 := zz.cell 2 (by omega); have c3 := zz.cell 3 (by omega); have c4 := zz.cell 4 (by omega); have c5 := zz.cell 5 (by omega); have c6 := zz.cell 6 (by omega); have c7 := zz.cell 7 (by omega); have f := zz.froz) | skip))
        all_goals
          go_wp2_with fail
          go_meet
          case rel =>
          first
            | exact ⟨_, _, r, rfl, rfl, hr, hz0, hz1, Nat.le_refl _, own_set8 zz z0 z1 z2 z3 z4 z5 z6 z7, below_set8 (Nat.le_refl _) (((Below.refl _ wr).drew.alloc (Nat.le_refl _) _).trans (hB.mono (by simp))) _ _ _ _ _ _ _ _⟩
            | exact ⟨_, _, r, rfl, rfl, hr, hz0, hz1, hB.size, own_eight w' z0 z1 z2 z3 z4 z5 z6 z7, ((Below.refl _ wr).drew.trans hB).alloc hB.size _⟩
      case rest =>
        obtain ⟨b', x', r, rfl, rfl, hr, hx0', hx1', hbb, hO', hb'⟩ := hcut
        have hO2 := hO.below hb' hO.lt
        have hbw := hb.trans (hb'.mono hb.size)
        clear HC hzO hb' y0 y1 y2 y3 y4 y5 y6 y7 g0 g1 g2 g3 hO
        cases r with
        | false =>
          go_wp2
          go_ret
          exact ⟨⟨_, rfl, fun h => by cases h⟩, hbw⟩
        | true =>
          have y0 := hO'.cell 0 (by omega)
          have y1 := hO'.cell 1 (by omega)
          have y2 := hO'.cell 2 (by omega)
          have y3 := hO'.cell 3 (by omega)
          have y4 := hO'.cell 4 (by omega)
          have y5 := hO'.cell 5 (by omega)
          have y6 := hO'.cell 6 (by omega)
          have y7 := hO'.cell 7 (by omega)
          have u0 := hO2.cell 0 (by omega)
          have u1 := hO2.cell 1 (by omega)
          have u2 := hO2.cell 2 (by omega)
          have u3 := hO2.cell 3 (by omega)
          have u4 := hO2.cell 4 (by omega)
          have u5 := hO2.cell 5 (by omega)
          have u6 := hO2.cell 6 (by omega)
          have u7 := hO2.cell 7 (by omega)
          have f := hO2.froz
          have hr' := hP2 (hr rfl)
          go_wp2
          go_roundw
          case rel => exact ⟨k + 1, eight (x' 0) (x' 1) (x' 2) (x' 3) (x' 4) (x' 5) (x' 6) (x' 7), by omega, by go_num, hr', hx0', hx1', own_set8 hO2 _ _ _ _ _ _ _ _, below_set8 (Nat.le_refl _) hbw _ _ _ _ _ _ _ _⟩
          case measure => simp [intOf]; omega
    · go_wp2
      go_ret
      exact ⟨⟨_, rfl, fun _ => ⟨hn2, fun i hi => hP i (by omega)⟩⟩, hb⟩
end Go.Proofs.Qxb6601693a
