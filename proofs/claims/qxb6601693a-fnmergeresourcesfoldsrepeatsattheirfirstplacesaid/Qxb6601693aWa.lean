/-
  WALKS: zzBytes (5), zzAddLen (18), zzStrsBytes (19).
-/
import Derived.Test.Qxb6601693aRows
import Derived.Test.Qxb6601693aMem
import Derived.WalkSpells
import Derived.Deep.LoopGhost
import Derived.Deep.QuietTactic
import Derived.BigQuiet
namespace Go.Proofs.Qxb6601693a
open Go.RowKit
open Go.Proofs.Qxb6601693a.Mem
set_option linter.unusedVariables false

/-- Some bool is handed back. -/
def RetAny (e : Ending) : Prop := ∃ r : Bool, e = .returned (.bool r)

/-- Some number up to 2^20 and some bool are handed back; where the bool is true, P holds. -/
def RetSum (P : Prop) (e : Ending) : Prop := ∃ (t : Int) (r : Bool), e = .returned (.tuple #[.int .i64 t, .bool r]) ∧ 0 ≤ t ∧ t ≤ 1048576 ∧ (r = true → P)

theorem addLen_any (t x : Int) (w : World) (h0 : 0 ≤ t) (h1 : t ≤ 1048576) (hx : 0 ≤ x) : Calls Try.prog 18 #[.int .i64 t, .int .i64 x] w fun e w' => RetSum True e ∧ w = w' := by
  go_enter Try.func18, Try.ntmps18
  go_wp2
  all_goals
    go_ret2
    exact ⟨⟨_, _, rfl, by omega, by omega, fun _ => trivial⟩, rfl⟩

theorem strsBytes_any (a : Option Addr) (n cap : Nat) (s : Nat → ByteArray) (t : Int) (w : World) (h0 : 0 ≤ t) (h1 : t ≤ 1048576) (hn : n ≤ maxLen) (hs : Sl Value.string w a n s) :
    Calls Try.prog 19 #[.slice a n cap, .int .i64 t] w fun e w' => RetSum (n ≤ 65536) e ∧ w = w' := by
  unfold maxLen at hn
  by_cases hn2 : n ≤ 65536
  · go_enter Try.func19, Try.ntmps19
    go_wp2
    · go_ret2
      exact ⟨⟨_, _, rfl, by omega, by omega, fun h => by cases h⟩, rfl⟩
    · go_loop [1, 6] (fun tt tk => ∃ (k : Nat) (z : Int), k ≤ n ∧ tk = .int .i64 k ∧ tt = .int .i64 z ∧ 0 ≤ z ∧ z ≤ 1048576) (fun _ tk => n - (intOf tk).toNat)
      case atStart => exact ⟨0, _, Nat.zero_le _, rfl, rfl, by omega, by omega⟩
      case round =>
        obtain ⟨k, z, hk, rfl, rfl, hz0, hz1⟩ := hrel
        by_cases hlt : k < n
        · obtain ⟨b, off, hab, hbl, hc⟩ := hs.resolve_left (by omega)
          subst hab
          have g1 := hc k hlt
          clear hc
          go_wp2_with fail
          refine (addLen_any _ _ _ hz0 hz1 (by omega)).mono ?_
          rintro e w' ⟨⟨t', r, rfl, ht0, ht1, _⟩, rfl⟩
          cases r with
          | false =>
            go_wp2
            go_ret2
            exact ⟨⟨_, _, rfl, by omega, by omega, fun h => by cases h⟩, rfl⟩
          | true =>
            go_wp2
            go_round
            case rel => exact ⟨k + 1, t', by omega, by go_num, rfl, ht0, ht1⟩
            case measure => simp [intOf]; omega
        · go_wp2
          go_ret2
          exact ⟨⟨_, _, rfl, by omega, by omega, fun _ => by first | exact trivial | exact hn2⟩, rfl⟩
  · go_enter Try.func19, Try.ntmps19
    go_wp2
    go_ret2
    exact ⟨⟨_, _, rfl, by omega, by omega, fun h => by cases h⟩, rfl⟩

set_option maxRecDepth 100000 in
set_option maxHeartbeats 4000000 in
theorem bytes_any (a : Option Addr) (n cap : Nat) (R : Nat → Re) (w : World) (hn : n ≤ maxLen) (hs : Rs w a n R) :
    Calls Try.prog 5 #[.slice a n cap] w fun e w' => RetAny e ∧ w = w' := by
  unfold maxLen at hn
  go_enter Try.func5, Try.ntmps5
  go_wp2
  · go_ret
    exact ⟨⟨_, rfl⟩, rfl⟩
  · go_loop [3, 4] (fun tt tk => ∃ (k : Nat) (z : Int), k ≤ n ∧ tk = .int .i64 k ∧ tt = .int .i64 z ∧ 0 ≤ z ∧ z ≤ 1048576) (fun _ tk => n - (intOf tk).toNat)
    case atStart => exact ⟨0, _, Nat.zero_le _, rfl, rfl, by omega, by omega⟩
    case round =>
      obtain ⟨k, z, hk, rfl, rfl, hz0, hz1⟩ := hrel
      by_cases hlt : k < n
      · obtain ⟨b, off, hab, hbl, hc⟩ := hs.resolve_left (by omega)
        subst hab
        obtain ⟨hat, hok⟩ := hc k hlt
        have g0 := hat.c0
        have g1 := hat.c1
        have g2 := hat.c2
        have g3 := hat.c3
        have q0 := hok.ty
        have q1 := hok.cl
        have q2 := hok.nm
        have q3 := hok.len
        have hstr := hok.str
        have heach := hok.each
        unfold maxLen at q0 q1 q2 q3 heach
        generalize (R k).ty = x0 at *
        generalize (R k).cl = x1 at *
        generalize (R k).nm = x2 at *
        generalize (R k).sl = sl at *
        generalize (R k).len = m at *
        generalize (R k).cap = c at *
        generalize (R k).str = s at *
        clear hc hat hok hs
        go_wp2
        all_goals try
          go_ret
          exact ⟨⟨_, rfl⟩, rfl⟩
        go_loop [3, 5] (fun tt tj => ∃ (j : Nat) (y : Int), j ≤ m ∧ tj = .int .i64 j ∧ tt = .int .i64 y ∧ 0 ≤ y ∧ y ≤ 1048576) (fun _ tj => m - (intOf tj).toNat)
        case atStart => exact ⟨0, _, Nat.zero_le _, rfl, rfl, by omega, by omega⟩
        case round =>
          obtain ⟨j, y, hj, rfl, rfl, hy0, hy1⟩ := hrel
          by_cases hjm : j < m
          · obtain ⟨b2, off2, hab2, hbl2, hc2⟩ := hstr.resolve_left (by omega)
            subst hab2
            have g5 := hc2 j hjm
            have g6 := heach j hjm
            generalize s j = sj at *
            clear hc2 heach hstr
            go_wp2
            · go_ret
              exact ⟨⟨_, rfl⟩, rfl⟩
            · go_ret
              exact ⟨⟨_, rfl⟩, rfl⟩
            · go_round
              case rel => exact ⟨j + 1, _, by omega, by go_num, rfl, by omega, by omega⟩
              case measure => simp [intOf]; omega
          · go_wp2
            go_round
            case rel => exact ⟨k + 1, y, by omega, by go_num, rfl, hy0, hy1⟩
            case measure => simp [intOf]; omega
      · go_wp2
        go_ret
        exact ⟨⟨_, rfl⟩, rfl⟩
end Go.Proofs.Qxb6601693a
