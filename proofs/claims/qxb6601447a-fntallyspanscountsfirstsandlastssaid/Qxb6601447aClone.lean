/-
  WALKS: cloneInt (10), the two bounds on lengths (9, 13).
-/
import Derived.Test.Qxb6601447aRows
import Derived.Test.Qxb6601447aMem
import Derived.WalkSpells
import Derived.Deep.LoopGhost
namespace Go.Proofs.Qxb6601447a
open Go.RowKit
open Go.Proofs.Qxb6601447a.Cyc Go.Proofs.Qxb6601447a.Mem
set_option linter.unusedVariables false

theorem Try.info3 : (Try.prog.info? 3).map (fun i => (i.zero, i.size, i.bytes)) = some (some (.int .i64 0), 1, 8) := by kernel_rfl
theorem Try.info4 : (Try.prog.info? 4).map (fun i => (i.zero, i.size, i.bytes)) = some (some (.bool false), 1, 1) := by kernel_rfl

theorem bytes13 (a : Option Addr) (n cap : Nat) (hn : n ≤ 1048576) (w : World) : Calls Try.prog 13 #[.slice a n cap] w fun e w' => e = .returned (.bool true) ∧ w = w' := by
  go_enter Try.func13, Try.ntmps13
  go_wp2
  go_ret
  exact ⟨rfl, rfl⟩

theorem bytes13_no (a : Option Addr) (n cap : Nat) (hn : 1048576 < n) (w : World) : Calls Try.prog 13 #[.slice a n cap] w fun e w' => e = .returned (.bool false) ∧ w = w' := by
  go_enter Try.func13, Try.ntmps13
  go_wp2
  go_ret
  exact ⟨rfl, rfl⟩

/-- The copied prefix grows by one. -/
theorem own_more {α : Type} {c : α → Value} {w : World} {b n : Nat} {z : α} {p : Nat → α} {k : Nat} (h : Own c w b n (fun i => if i < k then p i else z)) : Own c (w.setCell ⟨b, k, none⟩ (c (p k))) b n (fun i => if i < k + 1 then p i else z) :=
  (h.set k (p k)).congr fun i _ => by
    by_cases e : i = k
    · subst e; rw [upd_same, if_pos (by omega)]
    · rw [upd_ne _ _ _ _ e]; by_cases e2 : i < k
      · rw [if_pos e2, if_pos (by omega)]
      · rw [if_neg e2, if_neg (by omega)]

set_option maxHeartbeats 1000000 in
/-- A clone: a row of its own with the same numbers; nothing old has turned. -/
theorem cloneInt_any (a : Option Addr) (n cap : Nat) (p : Nat → Int) (w : World) (hn : n ≤ 4096) (hs : Sl (Value.int .i64) w a n p) :
    Calls Try.prog 10 #[.slice a n cap] w fun e w' => ∃ a' c', e = .returned (.slice a' n c') ∧ OwnSl (Value.int .i64) w' w.heap.size a' n p ∧ Below w.heap.size w w' := by
  obtain ⟨i0, hi, hz0, hz1, hz2⟩ := info_parts Try.info3
  have hnil := fun wx ad l c => Lib.run_eql_slice_nil (P := Try.prog) wx 22 3 ad l c 0 0 Try.underlying22
  rcases a with _ | ad
  · obtain rfl : n = 0 := by
      rcases hs with h | ⟨b, off, h, _⟩
      · exact h
      · cases h
    go_enter Try.func10, Try.ntmps10
    go_wp2
    go_ret
    exact ⟨_, _, rfl, .inl rfl, Below.refl _ _⟩
  go_enter Try.func10, Try.ntmps10
  go_wp2_with (at_make; refine wpList_make_full _ rfl _ _ 22 rfl w.heap.size 3 i0 (.int .i64 0) 1 Try.underlying22 hi hz0 hz1 _ _ _ _ n rfl rfl (by omega) (by omega) ?b2 ?b3 (Nat.le_refl _) ?_)
  case b2 => rw [hz2]; omega
  case b3 => unfold maxLen; omega
  intro w0 hown0 hgrow0
  have hb0 : Below w.heap.size w w0 := (Below.refl _ _).grown hgrow0 (Nat.le_refl _) (fun k h => by cases h)
  have hO : Own (Value.int .i64) w0 w.heap.size n (fun _ => 0) := own_made hown0
  clear hown0 hgrow0 hnil
  go_wp2
  go_loopw [4] (fun t wr => ∃ k : Nat, k ≤ n ∧ t = .int .i64 k ∧ Own (Value.int .i64) wr w.heap.size n (fun i => if i < k then p i else 0) ∧ Below w.heap.size w wr)
    (fun t _ => n - (intOf t).toNat)
  case atStart => exact ⟨0, Nat.zero_le _, rfl, hO.congr (fun i _ => by simp), hb0⟩
  case round =>
    obtain ⟨k, hk, rfl, ho, hb⟩ := hrel
    by_cases hlt : k < n
    · obtain ⟨b, off, hab, hbl, hc⟩ := hs.resolve_left (by omega)
      obtain rfl := Option.some.inj hab
      have g1 : wr.cell? ⟨b, off + k, none⟩ = some (.int .i64 (p k)) := (hb.cell (by exact hbl)).trans (hc k hlt)
      have g2 := ho.cell k hlt
      have g3 := ho.froz k
      have R := own_more ho
      clear hc hO hb0
      go_wp2
      go_roundw
      case rel => exact ⟨k + 1, by omega, by go_num, R, hb.setCell (Nat.le_refl _) _⟩
      case measure => simp [intOf]; omega
    · have e : k = n := by omega
      go_wp2
      go_ret
      exact ⟨_, _, rfl, .inr ⟨_, rfl, Nat.le_refl _, ho.congr fun i hi => by rw [if_pos (by omega)]⟩, hb⟩
end Go.Proofs.Qxb6601447a
