/-
  WALKS over slices of int32: cloneInt32 (15), reversedInt32 (20), equalInt32 (21), countOf (31), the bounds on lengths (14, 19).
-/
import Derived.Test.Qxb6601447aClone
import Derived.Test.Qxb6601447aTal
import Derived.Deep.QuietTactic
import Derived.BigQuiet
namespace Go.Proofs.Qxb6601447a
open Go.RowKit
open Go.Proofs.Qxb6601447a.Cyc Go.Proofs.Qxb6601447a.Mem Go.Proofs.Qxb6601447a.Tal
set_option linter.unusedVariables false

theorem Try.info21 : (Try.prog.info? 21).map (fun i => (i.zero, i.size, i.bytes)) = some (some (.int .i32 0), 1, 4) := by kernel_rfl

theorem bytes14 (a : Option Addr) (n cap : Nat) (hn : n ≤ 1048576) (w : World) : Calls Try.prog 14 #[.slice a n cap] w fun e w' => e = .returned (.bool true) ∧ w = w' := by
  go_enter Try.func14, Try.ntmps14
  go_wp2
  go_ret
  exact ⟨rfl, rfl⟩
theorem bytes14_no (a : Option Addr) (n cap : Nat) (hn : 1048576 < n) (w : World) : Calls Try.prog 14 #[.slice a n cap] w fun e w' => e = .returned (.bool false) ∧ w = w' := by
  go_enter Try.func14, Try.ntmps14
  go_wp2
  go_ret
  exact ⟨rfl, rfl⟩
theorem bytes19 (a : Option Addr) (n cap : Nat) (hn : n ≤ 1048576) (w : World) : Calls Try.prog 19 #[.slice a n cap] w fun e w' => e = .returned (.bool true) ∧ w = w' := by
  go_enter Try.func19, Try.ntmps19
  go_wp2
  go_ret
  exact ⟨rfl, rfl⟩
theorem bytes19_no (a : Option Addr) (n cap : Nat) (hn : 1048576 < n) (w : World) : Calls Try.prog 19 #[.slice a n cap] w fun e w' => e = .returned (.bool false) ∧ w = w' := by
  go_enter Try.func19, Try.ntmps19
  go_wp2
  go_ret
  exact ⟨rfl, rfl⟩

set_option maxHeartbeats 1000000 in
theorem cloneInt32_any (a : Option Addr) (n cap : Nat) (p : Nat → Int) (w : World) (hn : n ≤ 4096) (hs : Sl (Value.int .i32) w a n p) :
    Calls Try.prog 15 #[.slice a n cap] w fun e w' => ∃ a' c', e = .returned (.slice a' n c') ∧ OwnSl (Value.int .i32) w' w.heap.size a' n p ∧ Below w.heap.size w w' := by
  obtain ⟨i0, hi, hz0, hz1, hz2⟩ := info_parts Try.info21
  have hnil := fun wx ad l c => Lib.run_eql_slice_nil (P := Try.prog) wx 26 21 ad l c 0 0 Try.underlying26
  rcases a with _ | ad
  · obtain rfl : n = 0 := by
      rcases hs with h | ⟨b, off, h, _⟩
      · exact h
      · cases h
    go_enter Try.func15, Try.ntmps15
    go_wp2
    go_ret
    exact ⟨_, _, rfl, .inl rfl, Below.refl _ _⟩
  go_enter Try.func15, Try.ntmps15
  go_wp2_with (at_make; refine wpList_make_full _ rfl _ _ 26 rfl w.heap.size 21 i0 (.int .i32 0) 1 Try.underlying26 hi hz0 hz1 _ _ _ _ n rfl rfl (by omega) (by omega) ?b2 ?b3 (Nat.le_refl _) ?_)
  case b2 => rw [hz2]; omega
  case b3 => unfold maxLen; omega
  intro w0 hown0 hgrow0
  have hb0 : Below w.heap.size w w0 := (Below.refl _ _).grown hgrow0 (Nat.le_refl _) (fun k h => by cases h)
  have hO : Own (Value.int .i32) w0 w.heap.size n (fun _ => 0) := own_made hown0
  clear hown0 hgrow0 hnil
  go_wp2
  go_loopw [4] (fun t wr => ∃ k : Nat, k ≤ n ∧ t = .int .i64 k ∧ Own (Value.int .i32) wr w.heap.size n (fun i => if i < k then p i else 0) ∧ Below w.heap.size w wr)
    (fun t _ => n - (intOf t).toNat)
  case atStart => exact ⟨0, Nat.zero_le _, rfl, hO.congr (fun i _ => by simp), hb0⟩
  case round =>
    obtain ⟨k, hk, rfl, ho, hb⟩ := hrel
    by_cases hlt : k < n
    · obtain ⟨b, off, hab, hbl, hc⟩ := hs.resolve_left (by omega)
      obtain rfl := Option.some.inj hab
      have g1 : wr.cell? ⟨b, off + k, none⟩ = some (.int .i32 (p k)) := (hb.cell (by exact hbl)).trans (hc k hlt)
      have g2 := ho.cell k hlt
      have g3 := ho.froz k
      have R := own_more ho
      clear hc hO hb0
      go_wp2
      go_roundw
      case rel => exact ⟨k + 1, by omega, by go_num, R, hb.setCell (Nat.le_refl _) _⟩
      case measure => simp [intOf]; omega
    · have e : k = n := by omega
      go_wp2
      go_ret
      exact ⟨_, _, rfl, .inr ⟨_, rfl, Nat.le_refl _, ho.congr fun i hi => by rw [if_pos (by omega)]⟩, hb⟩

set_option maxHeartbeats 1000000 in
theorem reversedInt32_any (a : Option Addr) (n cap : Nat) (p : Nat → Int) (w : World) (hn : n ≤ 4096) (hs : Sl (Value.int .i32) w a n p) :
    Calls Try.prog 20 #[.slice a n cap] w fun e w' => ∃ a' c', e = .returned (.slice a' n c') ∧ OwnSl (Value.int .i32) w' w.heap.size a' n (fun i => p (n - 1 - i)) ∧ Below w.heap.size w w' := by
  obtain ⟨i0, hi, hz0, hz1, hz2⟩ := info_parts Try.info21
  have hnil := fun wx ad l c => Lib.run_eql_slice_nil (P := Try.prog) wx 26 21 ad l c 0 0 Try.underlying26
  rcases a with _ | ad
  · obtain rfl : n = 0 := by
      rcases hs with h | ⟨b, off, h, _⟩
      · exact h
      · cases h
    go_enter Try.func20, Try.ntmps20
    go_wp2
    go_ret
    exact ⟨_, _, rfl, .inl rfl, Below.refl _ _⟩
  go_enter Try.func20, Try.ntmps20
  go_wp2_with (at_make; refine wpList_make_full _ rfl _ _ 26 rfl w.heap.size 21 i0 (.int .i32 0) 1 Try.underlying26 hi hz0 hz1 _ _ _ _ n rfl rfl (by omega) (by omega) ?b2 ?b3 (Nat.le_refl _) ?_)
  case b2 => rw [hz2]; omega
  case b3 => unfold maxLen; omega
  intro w0 hown0 hgrow0
  have hb0 : Below w.heap.size w w0 := (Below.refl _ _).grown hgrow0 (Nat.le_refl _) (fun k h => by cases h)
  have hO : Own (Value.int .i32) w0 w.heap.size n (fun _ => 0) := own_made hown0
  clear hown0 hgrow0 hnil
  go_wp2
  go_loopw [5] (fun t wr => ∃ k : Nat, k ≤ n ∧ t = .int .i64 k ∧ Own (Value.int .i32) wr w.heap.size n (fun i => if i < k then p (n - 1 - i) else 0) ∧ Below w.heap.size w wr)
    (fun t _ => n - (intOf t).toNat)
  case atStart => exact ⟨0, Nat.zero_le _, rfl, hO.congr (fun i _ => by simp), hb0⟩
  case round =>
    obtain ⟨k, hk, rfl, ho, hb⟩ := hrel
    by_cases hlt : k < n
    · obtain ⟨b, off, hab, hbl, hc⟩ := hs.resolve_left (by omega)
      obtain rfl := Option.some.inj hab
      have g1 : wr.cell? ⟨b, off + (n - 1 - k), none⟩ = some (.int .i32 (p (n - 1 - k))) := (hb.cell (by exact hbl)).trans (hc (n - 1 - k) (by omega))
      have g2 := ho.cell k hlt
      have g3 := ho.froz k
      have R := own_more (p := fun i => p (n - 1 - i)) ho
      clear hc hO hb0
      go_wp2
      go_roundw
      case rel => exact ⟨k + 1, by omega, by go_num, R, hb.setCell (Nat.le_refl _) _⟩
      case measure => simp [intOf]; omega
    · have e : k = n := by omega
      go_wp2
      go_ret
      exact ⟨_, _, rfl, .inr ⟨_, rfl, Nat.le_refl _, ho.congr fun i hi => by rw [if_pos (by omega)]⟩, hb⟩

/-- countOf. -/
theorem countOf_any (a : Option Addr) (n cap : Nat) (p : Nat → Int) (x : Int) (w : World) (hn : n ≤ 4096) (hs : Sl (Value.int .i32) w a n p) :
    Calls Try.prog 31 #[.slice a n cap, .int .i32 x] w fun e w' => e = .returned (.int .i64 (cnt p x n : Nat)) ∧ w = w' := by
  go_enter Try.func31, Try.ntmps31
  go_wp2
  go_loop [5, 6] (fun tc ti => ∃ k c : Nat, k ≤ n ∧ c ≤ k ∧ tc = .int .i64 c ∧ ti = .int .i64 k ∧ Hid (c = cnt p x k)) (fun _ ti => n - (intOf ti).toNat)
  case atStart => exact ⟨0, 0, Nat.zero_le _, Nat.le_refl _, rfl, rfl, rfl⟩
  case round =>
    obtain ⟨k, c, hk, hck, rfl, rfl, hc⟩ := hrel
    by_cases hlt : k < n
    · obtain ⟨b, off, hab, hbl, hcl⟩ := hs.resolve_left (by omega)
      subst hab
      have g1 := hcl k hlt
      clear hcl
      by_cases hx : p k = x
      · have R : Hid (c + 1 = cnt p x (k + 1)) := by show c + 1 = _; rw [cnt, if_pos hx, ← hc.out]
        have hx' : (p k == x) = true := by simpa using hx
        clear hx
        go_wp2
        go_round
        case rel => exact ⟨k + 1, c + 1, by omega, by omega, by go_num, by go_num, R⟩
        case measure => simp [intOf]; omega
      · have R : Hid (c = cnt p x (k + 1)) := by show c = _; rw [cnt, if_neg hx, ← hc.out]; rfl
        have hx' : (p k == x) = false := by simpa using hx
        clear hx
        go_wp2
        go_round
        case rel => exact ⟨k + 1, c, by omega, by omega, by go_num, by go_num, R⟩
        case measure => simp [intOf]; omega
    · obtain rfl : k = n := by omega
      go_wp2
      go_ret
      exact ⟨by rw [← hc.out]; rfl, rfl⟩

/-- equalInt32 at two slices that hold the same. -/
theorem equal_yes (a b : Option Addr) (n ca cb : Nat) (p q : Nat → Int) (w : World) (hn : n ≤ 4096) (hs : Sl (Value.int .i32) w a n p) (hr : Sl (Value.int .i32) w b n q) (he : ∀ i, i < n → p i = q i) :
    Calls Try.prog 21 #[.slice a n ca, .slice b n cb] w fun e w' => e = .returned (.bool true) ∧ ∃ m, w' = w.drewN m := by
  go_enter Try.func21, Try.ntmps21
  go_wp2
  go_loopw [5] (fun t wr => ∃ k m : Nat, k ≤ n ∧ t = .int .i64 k ∧ wr = w.drewN m) (fun t _ => n - (intOf t).toNat)
  case atStart => exact ⟨0, 0, Nat.zero_le _, rfl, rfl⟩
  case round =>
    obtain ⟨k, m, hk, rfl, rfl⟩ := hrel
    by_cases hlt : k < n
    · obtain ⟨b1, off1, hab, hbl, hcl⟩ := hs.resolve_left (by omega)
      obtain ⟨b2, off2, hab2, hbl2, hcl2⟩ := hr.resolve_left (by omega)
      subst hab hab2
      have g1 : w.cell? ⟨b1, off1 + k, none⟩ = some (.int .i32 (q k)) := by have := hcl k hlt; rw [he k hlt] at this; exact this
      have g2 : w.cell? ⟨b2, off2 + k, none⟩ = some (.int .i32 (q k)) := hcl2 k hlt
      clear hcl hcl2 hs hr
      go_wp2
      go_quiet (fail)
      go_wp2
      go_roundw
      case rel => exact ⟨k + 1, m + nq, by omega, by go_num, rfl⟩
      case measure => simp [intOf]; omega
    · go_wp2
      go_ret
      exact ⟨rfl, m, rfl⟩
end Go.Proofs.Qxb6601447a
