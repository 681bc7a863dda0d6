/-
  WALKS: zzAddRes (14), zzMergeFits (6).
-/
import Derived.Test.Qxb6601693aWa
namespace Go.Proofs.Qxb6601693a
open Go.RowKit
open Go.Proofs.Qxb6601693a.Mem
set_option linter.unusedVariables false

/-- Eight numbers, the first between 0 and 2^20. -/
def Stat (v : Value) : Prop := ∃ x0 x1 x2 x3 x4 x5 x6 x7 : Int, v = .agg #[.int .i64 x0, .int .i64 x1, .int .i64 x2, .int .i64 x3, .int .i64 x4, .int .i64 x5, .int .i64 x6, .int .i64 x7] ∧ 0 ≤ x0 ∧ x0 ≤ 1048576

def RetStat (P : Prop) (e : Ending) : Prop := ∃ (v : Value) (r : Bool), Stat v ∧ e = .returned (.tuple #[v, .bool r]) ∧ (r = true → P)

def reVal (r : Re) : Value := .agg #[.string r.ty, .string r.cl, .string r.nm, .slice r.sl r.len r.cap]

set_option maxRecDepth 100000 in
set_option maxHeartbeats 4000000 in
theorem addRes_any (v : Value) (r : Re) (w : World) (hv : Stat v) (hr : ReOk w r) :
    Calls Try.prog 14 #[v, reVal r] w fun e w' => RetStat (r.len ≤ 65536) e ∧ Below w.heap.size w w' := by
  obtain ⟨x0, x1, x2, x3, x4, x5, x6, x7, rfl, h0, h1⟩ := hv
  have q0 := hr.ty
  have q1 := hr.cl
  have q2 := hr.nm
  have q3 := hr.len
  have hstr := hr.str
  unfold maxLen at q0 q1 q2
  unfold reVal
  go_enter Try.func14, Try.ntmps14
  go_wp2_with fail
  refine (addLen_any _ _ _ (by omega) (by omega) (by omega)).mono ?_
  rintro e w' ⟨⟨t1, b1, rfl, p1, s1, _⟩, rfl⟩
  rcases Bool.eq_false_or_eq_true b1 with rfl | rfl
  rotate_left
  · go_wp2
    exact bodyPost_ret (v := .tuple #[.agg #[.int .i64 _, .int .i64 _, .int .i64 _, .int .i64 _, .int .i64 _, .int .i64 _, .int .i64 _, .int .i64 _], .bool false]) (by simp [results, Try.results14, go_sem]; exact ⟨rfl, rfl, rfl, rfl, rfl, rfl, rfl, rfl⟩) rfl ⟨⟨_, _, ⟨_, _, _, _, _, _, _, _, rfl, by assumption, by assumption⟩, rfl, fun h => by cases h⟩, (((Below.refl _ _).alloc (Nat.le_refl _) _).alloc (by simp) _).alloc (by simp; omega) _⟩
  go_wp2_with fail
  refine (addLen_any _ _ _ (by omega) (by omega) (by omega)).mono ?_
  rintro e w' ⟨⟨t2, b2, rfl, p2, s2, _⟩, rfl⟩
  rcases Bool.eq_false_or_eq_true b2 with rfl | rfl
  rotate_left
  · go_wp2
    exact bodyPost_ret (v := .tuple #[.agg #[.int .i64 _, .int .i64 _, .int .i64 _, .int .i64 _, .int .i64 _, .int .i64 _, .int .i64 _, .int .i64 _], .bool false]) (by simp [results, Try.results14, go_sem]; exact ⟨rfl, rfl, rfl, rfl, rfl, rfl, rfl, rfl⟩) rfl ⟨⟨_, _, ⟨_, _, _, _, _, _, _, _, rfl, by assumption, by assumption⟩, rfl, fun h => by cases h⟩, (((Below.refl _ _).alloc (Nat.le_refl _) _).alloc (by simp) _).alloc (by simp; omega) _⟩
  go_wp2_with fail
  refine (addLen_any _ _ _ (by omega) (by omega) (by omega)).mono ?_
  rintro e w' ⟨⟨t3, b3, rfl, p3, s3, _⟩, rfl⟩
  rcases Bool.eq_false_or_eq_true b3 with rfl | rfl
  rotate_left
  · go_wp2
    exact bodyPost_ret (v := .tuple #[.agg #[.int .i64 _, .int .i64 _, .int .i64 _, .int .i64 _, .int .i64 _, .int .i64 _, .int .i64 _, .int .i64 _], .bool false]) (by simp [results, Try.results14, go_sem]; exact ⟨rfl, rfl, rfl, rfl, rfl, rfl, rfl, rfl⟩) rfl ⟨⟨_, _, ⟨_, _, _, _, _, _, _, _, rfl, by assumption, by assumption⟩, rfl, fun h => by cases h⟩, (((Below.refl _ _).alloc (Nat.le_refl _) _).alloc (by simp) _).alloc (by simp; omega) _⟩
  go_wp2_with fail
  refine (addLen_any _ _ _ (by omega) (by omega) (by omega)).mono ?_
  rintro e w' ⟨⟨t4, b4, rfl, p4, s4, _⟩, rfl⟩
  rcases Bool.eq_false_or_eq_true b4 with rfl | rfl
  rotate_left
  · go_wp2
    exact bodyPost_ret (v := .tuple #[.agg #[.int .i64 _, .int .i64 _, .int .i64 _, .int .i64 _, .int .i64 _, .int .i64 _, .int .i64 _, .int .i64 _], .bool false]) (by simp [results, Try.results14, go_sem]; exact ⟨rfl, rfl, rfl, rfl, rfl, rfl, rfl, rfl⟩) rfl ⟨⟨_, _, ⟨_, _, _, _, _, _, _, _, rfl, by assumption, by assumption⟩, rfl, fun h => by cases h⟩, (((Below.refl _ _).alloc (Nat.le_refl _) _).alloc (by simp) _).alloc (by simp; omega) _⟩
  go_wp2_with fail
  refine (strsBytes_any _ _ _ r.str _ _ (by omega) (by omega) q3 (hstr.below ((((Below.refl _ w).alloc (Nat.le_refl _) _).alloc (by simp) _).alloc (by simp; omega) _))).mono ?_
  rintro e w' ⟨⟨t5, b5, rfl, p5, s5, z5⟩, rfl⟩
  rcases Bool.eq_false_or_eq_true b5 with rfl | rfl
  rotate_left
  · go_wp2
    exact bodyPost_ret (v := .tuple #[.agg #[.int .i64 _, .int .i64 _, .int .i64 _, .int .i64 _, .int .i64 _, .int .i64 _, .int .i64 _, .int .i64 _], .bool false]) (by simp [results, Try.results14, go_sem]; exact ⟨rfl, rfl, rfl, rfl, rfl, rfl, rfl, rfl⟩) rfl ⟨⟨_, _, ⟨_, _, _, _, _, _, _, _, rfl, by assumption, by assumption⟩, rfl, fun h => by cases h⟩, (((Below.refl _ _).alloc (Nat.le_refl _) _).alloc (by simp) _).alloc (by simp; omega) _⟩
  go_wp2
  exact bodyPost_ret (v := .tuple #[.agg #[.int .i64 t5, .int .i64 (wrap64 (x1 + 1)), .int .i64 (wrap64 (x2 + r.len)), .int .i64 (wrap64 (x3 + r.nm.size)), .int .i64 x4, .int .i64 x5, .int .i64 x6, .int .i64 x7], .bool true]) (by simp [results, Try.results14, go_sem]) rfl ⟨⟨_, _, ⟨_, _, _, _, _, _, _, _, rfl, p5, s5⟩, rfl, fun _ => z5 trivial⟩, (((Below.refl _ _).alloc (Nat.le_refl _) _).alloc (by simp) _).alloc (by simp; omega) _⟩
end Go.Proofs.Qxb6601693a
