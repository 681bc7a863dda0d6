/-
  THE WALKS OF narrow (24), zzBytes (22).
-/
import Derived.Test.Qxb6601447aTof
namespace Go.Proofs.Qxb6601447a
open Go.RowKit
open Go.Proofs.Qxb6601447a.Cyc Go.Proofs.Qxb6601447a.Mem Go.Proofs.Qxb6601447a.Tal
set_option linter.unusedVariables false

theorem bytes22 (a b : Option Addr) (n m ca cb : Nat) (hn : n ≤ 4096) (hm : m ≤ 4096) (w : World) : Calls Try.prog 22 #[.slice a n ca, .slice b m cb] w fun e w' => e = .returned (.bool true) ∧ w = w' := by
  go_enter Try.func22, Try.ntmps22
  go_wp2
  go_ret
  exact ⟨rfl, rfl⟩

/-- Whatever it answers. -/
def RetAny (e : Ending) : Prop := ∃ r : Bool, e = .returned (.bool r)
theorem bytes22_any (a b : Option Addr) (n m ca cb : Nat) (hn : n ≤ 9223372036854775807) (hm : m ≤ 9223372036854775807) (w : World) : Calls Try.prog 22 #[.slice a n ca, .slice b m cb] w fun e w' => RetAny e ∧ w = w' := by
  go_enter Try.func22, Try.ntmps22
  go_wp2
  all_goals
    go_ret
    exact ⟨⟨_, rfl⟩, rfl⟩

set_option maxHeartbeats 1000000 in
theorem narrow_any (a : Option Addr) (n cap : Nat) (p : Nat → Int) (w : World) (hn : n ≤ 4096) (hs : Sl (Value.int .i64) w a n p) :
    Calls Try.prog 24 #[.slice a n cap] w fun e w' => ∃ a' c', e = .returned (.slice a' n c') ∧ OwnSl (Value.int .i32) w' w.heap.size a' n (fun i => wrap32 (p i)) ∧ Below w.heap.size w w' := by
  obtain ⟨i0, hi, hz0, hz1, hz2⟩ := info_parts Try.info21
  go_enter Try.func24, Try.ntmps24
  go_wp2_with (at_make; refine wpList_make_full _ rfl _ _ 26 rfl w.heap.size 21 i0 (.int .i32 0) 1 Try.underlying26 hi hz0 hz1 _ _ _ _ n rfl rfl (by omega) (by omega) ?b2 ?b3 (Nat.le_refl _) ?_)
  case b2 => rw [hz2]; omega
  case b3 => unfold maxLen; omega
  intro w0 hown0 hgrow0
  have hb0 : Below w.heap.size w w0 := (Below.refl _ _).grown hgrow0 (Nat.le_refl _) (fun k h => by cases h)
  have hO : Own (Value.int .i32) w0 w.heap.size n (fun _ => 0) := own_made hown0
  clear hown0 hgrow0
  go_wp2
  go_loopw [4] (fun t wr => ∃ k : Nat, k ≤ n ∧ t = .int .i64 k ∧ Own (Value.int .i32) wr w.heap.size n (fun i => if i < k then wrap32 (p i) else 0) ∧ Below w.heap.size w wr)
    (fun t _ => n - (intOf t).toNat)
  case atStart => exact ⟨0, Nat.zero_le _, rfl, hO.congr (fun i _ => by simp), hb0⟩
  case round =>
    obtain ⟨k, hk, rfl, ho, hb⟩ := hrel
    by_cases hlt : k < n
    · obtain ⟨b, off, hab, hbl, hc⟩ := hs.resolve_left (by omega)
      subst hab
      have g1 : wr.cell? ⟨b, off + k, none⟩ = some (.int .i64 (p k)) := (hb.cell (by exact hbl)).trans (hc k hlt)
      have g2 := ho.cell k hlt
      have g3 := ho.froz k
      have R := own_more (p := fun i => wrap32 (p i)) ho
      clear hc hO hb0
      go_wp2
      go_roundw
      case rel => exact ⟨k + 1, by omega, by go_num, R, hb.setCell (Nat.le_refl _) _⟩
      case measure => simp [intOf]; omega
    · have e : k = n := by omega
      go_wp2
      go_ret
      exact ⟨_, _, rfl, .inr ⟨_, rfl, Nat.le_refl _, ho.congr fun i hi => by rw [if_pos (by omega)]⟩, hb⟩
end Go.Proofs.Qxb6601447a
