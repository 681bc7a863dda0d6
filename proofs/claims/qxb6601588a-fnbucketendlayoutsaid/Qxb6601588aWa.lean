/-
  WALKS: cloneF64 (14), cloneI32 (13), sortedNoNaN (17), the bounds on lengths (16, 19).
-/
import Derived.Test.Qxb6601588aRows
import Derived.Test.Qxb6601588aMem
import Derived.Test.Qxb6601588aFl
import Derived.WalkSpells
import Derived.Deep.LoopGhost
import Derived.Deep.QuietTactic
import Derived.BigQuiet
import Derived.Laws.Cover2
namespace Go.Proofs.Qxb6601588a
open Go.RowKit
open Go.Proofs.Qxb6601588a.Mem Go.Proofs.Qxb6601588a.Fl
set_option linter.unusedVariables false

theorem run_store_float (P : Program) (w : World) (a : Addr) (m : Mode) (k : FloatKind) (b : Nat) : (store a (.float k b) m).run P w = stored P w a (.float k b) m := run_store P w a _ m rfl
attribute [local go_sem] run_store_float

theorem Try.info27 : (Try.prog.info? 27).map (fun i => (i.zero, i.size, i.bytes)) = some (some (.float .f64 0), 1, 8) := by kernel_rfl
theorem Try.info21 : (Try.prog.info? 21).map (fun i => (i.zero, i.size, i.bytes)) = some (some (.int .i32 0), 1, 4) := by kernel_rfl

theorem bytes16 (a b : Option Addr) (n m ca cb : Nat) (x y z : Int) (hn : n ≤ 65536) (hm : m ≤ 65536) (w : World) : Calls Try.prog 16 #[.slice a n ca, .slice b m cb, .int .i64 x, .int .i64 y, .int .i64 z] w fun e w' => e = .returned (.bool true) ∧ w = w' := by
  go_enter Try.func16, Try.ntmps16
  go_wp2
  go_ret
  exact ⟨rfl, rfl⟩
theorem bytes19 (a b : Option Addr) (n m ca cb : Nat) (hn : n ≤ 65536) (hm : m ≤ 65536) (w : World) : Calls Try.prog 19 #[.slice a n ca, .slice b m cb] w fun e w' => e = .returned (.bool true) ∧ w = w' := by
  go_enter Try.func19, Try.ntmps19
  go_wp2
  go_ret
  exact ⟨rfl, rfl⟩

/-- Some bool is handed back. -/
def RetAny (e : Ending) : Prop := ∃ r : Bool, e = .returned (.bool r)
theorem bytes16_any (a b : Option Addr) (n m ca cb : Nat) (x y z : Int) (hn : n ≤ maxLen) (hm : m ≤ maxLen) (w : World) : Calls Try.prog 16 #[.slice a n ca, .slice b m cb, .int .i64 x, .int .i64 y, .int .i64 z] w fun e w' => RetAny e ∧ w = w' := by
  unfold maxLen at hn hm
  go_enter Try.func16, Try.ntmps16
  go_wp2
  all_goals
    go_ret
    exact ⟨⟨_, rfl⟩, rfl⟩
theorem bytes19_any (a b : Option Addr) (n m ca cb : Nat) (hn : n ≤ maxLen) (hm : m ≤ maxLen) (w : World) : Calls Try.prog 19 #[.slice a n ca, .slice b m cb] w fun e w' => RetAny e ∧ w = w' := by
  unfold maxLen at hn hm
  go_enter Try.func19, Try.ntmps19
  go_wp2
  all_goals
    go_ret
    exact ⟨⟨_, rfl⟩, rfl⟩

set_option maxHeartbeats 1000000 in
theorem cloneF64_any (a : Option Addr) (n cap : Nat) (p : Nat → Nat) (w : World) (hn : n ≤ 65536) (hs : Sl (Value.float .f64) w a n p) :
    Calls Try.prog 14 #[.slice a n cap] w fun e w' => ∃ a' c', e = .returned (.slice a' n c') ∧ OwnSl (Value.float .f64) w' w.heap.size a' n p ∧ Below w.heap.size w w' := by
  obtain ⟨i0, hi, hz0, hz1, hz2⟩ := info_parts Try.info27
  have hnil := fun wx ad l c => Lib.run_eql_slice_nil (P := Try.prog) wx 26 27 ad l c 0 0 Try.underlying26
  rcases a with _ | ad
  · obtain rfl : n = 0 := by
      rcases hs with h | ⟨b, off, h, _⟩
      · exact h
      · cases h
    go_enter Try.func14, Try.ntmps14
    go_wp2
    go_ret
    exact ⟨_, _, rfl, .inl rfl, Below.refl _ _⟩
  go_enter Try.func14, Try.ntmps14
  go_wp2_with (at_make; refine wpList_make_full _ rfl _ _ 26 rfl w.heap.size 27 i0 (.float .f64 0) 1 Try.underlying26 hi hz0 hz1 _ _ _ _ n rfl rfl (by omega) (by omega) ?b2 ?b3 (Nat.le_refl _) ?_)
  case b2 => rw [hz2]; omega
  case b3 => unfold maxLen; omega
  intro w0 hown0 hgrow0
  have hb0 : Below w.heap.size w w0 := (Below.refl _ _).grown hgrow0 (Nat.le_refl _) (fun k h => by cases h)
  have hO : Own (Value.float .f64) w0 w.heap.size n (fun _ => 0) := own_made hown0
  clear hown0 hgrow0 hnil
  go_wp2
  go_loopw [4] (fun t wr => ∃ k : Nat, k ≤ n ∧ t = .int .i64 k ∧ Own (Value.float .f64) wr w.heap.size n (fun i => if i < k then p i else 0) ∧ Below w.heap.size w wr)
    (fun t _ => n - (intOf t).toNat)
  case atStart => exact ⟨0, Nat.zero_le _, rfl, hO.congr (fun i _ => by simp), hb0⟩
  case round =>
    obtain ⟨k, hk, rfl, ho, hb⟩ := hrel
    by_cases hlt : k < n
    · obtain ⟨b, off, hab, hbl, hc⟩ := hs.resolve_left (by omega)
      obtain rfl := Option.some.inj hab
      have g1 : wr.cell? ⟨b, off + k, none⟩ = some (.float .f64 (p k)) := (hb.cell (by exact hbl)).trans (hc k hlt)
      have g2 := ho.cell k hlt
      have g3 := ho.froz k
      have R := own_more ho
      clear hc hO hb0
      go_wp2
      go_roundw
      case rel => exact ⟨k + 1, by omega, by go_num, R, hb.setCell (Nat.le_refl _) _⟩
      case measure => simp [intOf]; omega
    · have e : k = n := by omega
      go_wp2
      go_ret
      exact ⟨_, _, rfl, .inr ⟨_, rfl, Nat.le_refl _, ho.congr fun i hi => by rw [if_pos (by omega)]⟩, hb⟩

set_option maxHeartbeats 1000000 in
theorem cloneI32_any (a : Option Addr) (n cap : Nat) (p : Nat → Int) (w : World) (hn : n ≤ 65536) (hs : Sl (Value.int .i32) w a n p) :
    Calls Try.prog 13 #[.slice a n cap] w fun e w' => ∃ a' c', e = .returned (.slice a' n c') ∧ OwnSl (Value.int .i32) w' w.heap.size a' n p ∧ Below w.heap.size w w' := by
  obtain ⟨i0, hi, hz0, hz1, hz2⟩ := info_parts Try.info21
  have hnil := fun wx ad l c => Lib.run_eql_slice_nil (P := Try.prog) wx 25 21 ad l c 0 0 Try.underlying25
  rcases a with _ | ad
  · obtain rfl : n = 0 := by
      rcases hs with h | ⟨b, off, h, _⟩
      · exact h
      · cases h
    go_enter Try.func13, Try.ntmps13
    go_wp2
    go_ret
    exact ⟨_, _, rfl, .inl rfl, Below.refl _ _⟩
  go_enter Try.func13, Try.ntmps13
  go_wp2_with (at_make; refine wpList_make_full _ rfl _ _ 25 rfl w.heap.size 21 i0 (.int .i32 0) 1 Try.underlying25 hi hz0 hz1 _ _ _ _ n rfl rfl (by omega) (by omega) ?b2 ?b3 (Nat.le_refl _) ?_)
  case b2 => rw [hz2]; omega
  case b3 => unfold maxLen; omega
  intro w0 hown0 hgrow0
  have hb0 : Below w.heap.size w w0 := (Below.refl _ _).grown hgrow0 (Nat.le_refl _) (fun k h => by cases h)
  have hO : Own (Value.int .i32) w0 w.heap.size n (fun _ => 0) := own_made hown0
  clear hown0 hgrow0 hnil
  go_wp2
  go_loopw [4] (fun t wr => ∃ k : Nat, k ≤ n ∧ t = .int .i64 k ∧ Own (Value.int .i32) wr w.heap.size n (fun i => if i < k then p i else 0) ∧ Below w.heap.size w wr)
    (fun t _ => n - (intOf t).toNat)
  case atStart => exact ⟨0, Nat.zero_le _, rfl, hO.congr (fun i _ => by simp), hb0⟩
  case round =>
    obtain ⟨k, hk, rfl, ho, hb⟩ := hrel
    by_cases hlt : k < n
    · obtain ⟨b, off, hab, hbl, hc⟩ := hs.resolve_left (by omega)
      obtain rfl := Option.some.inj hab
      have g1 : wr.cell? ⟨b, off + k, none⟩ = some (.int .i32 (p k)) := (hb.cell (by exact hbl)).trans (hc k hlt)
      have g2 := ho.cell k hlt
      have g3 := ho.froz k
      have R := own_more ho
      clear hc hO hb0
      go_wp2
      go_roundw
      case rel => exact ⟨k + 1, by omega, by go_num, R, hb.setCell (Nat.le_refl _) _⟩
      case measure => simp [intOf]; omega
    · have e : k = n := by omega
      go_wp2
      go_ret
      exact ⟨_, _, rfl, .inr ⟨_, rfl, Nat.le_refl _, ho.congr fun i hi => by rw [if_pos (by omega)]⟩, hb⟩
end Go.Proofs.Qxb6601588a
