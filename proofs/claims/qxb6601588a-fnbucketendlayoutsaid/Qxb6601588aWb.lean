/-
  THE WALK OF sortedNoNaN (17).
-/
import Derived.Test.Qxb6601588aWa
namespace Go.Proofs.Qxb6601588a
open Go.RowKit
open Go.Proofs.Qxb6601588a.Mem Go.Proofs.Qxb6601588a.Fl
set_option linter.unusedVariables false
attribute [local go_sem] run_store_float

theorem Lt.irrefl (x : Nat) : ¬ Lt x x := by unfold Lt; omega
theorem Lt.asymm {x y : Nat} (h : Lt x y) : ¬ Lt y x := by unfold Lt at *; omega
theorem Lt.not_eq {x y : Nat} (h : Lt x y) : ¬ Eq' x y := by unfold Lt at h; unfold Eq'; omega

/-- No NaN among the first n; none less than the one before. -/
structure Sorted (v : Nat → Nat) (n : Nat) : Prop where
  nn : ∀ i, i < n → ¬ IsNan (v i)
  le : ∀ i, 0 < i → i < n → ¬ Lt (v i) (v (i - 1))

theorem Sorted.mono {v : Nat → Nat} {n : Nat} (h : Sorted v n) {i j : Nat} (hij : i ≤ j) (hj : j < n) : ¬ Lt (v j) (v i) := by
  induction j with
  | zero => obtain rfl : i = 0 := by omega
            exact Lt.irrefl _
  | succ j ih =>
    by_cases e : i = j + 1
    · subst e; exact Lt.irrefl _
    · have h1 := ih (by omega) (by omega)
      have h2 := h.le (j + 1) (by omega) hj
      simp only [Nat.add_sub_cancel] at h2
      unfold Lt at *
      omega

/-- A bool is handed back that is true only where P holds. -/
def RetIf (P : Prop) (e : Ending) : Prop := ∃ r : Bool, e = .returned (.bool r) ∧ (r = true → P)

theorem ord_eq {x y : Nat} (hx : ¬ IsNan x) (hy : ¬ IsNan y) (h : Eq' x y) : FloatKind.f64.format.order x y = some .eq := by
  rcases order_cases hx hy with ⟨h1, h2⟩ | ⟨h1, h2⟩ | ⟨h1, h2⟩
  · exact absurd h (Lt.not_eq h1)
  · exact h2
  · exact absurd ⟨h.1.symm, h.2.symm⟩ (Lt.not_eq h1)
theorem ord_lt {x y : Nat} (hx : ¬ IsNan x) (hy : ¬ IsNan y) (h : Lt x y) : FloatKind.f64.format.order x y = some .lt := by
  rcases order_cases hx hy with ⟨h1, h2⟩ | ⟨h1, h2⟩ | ⟨h1, h2⟩
  · exact h2
  · exact absurd h1 (Lt.not_eq h)
  · exact absurd h1 (Lt.asymm h)
theorem ord_gt {x y : Nat} (hx : ¬ IsNan x) (hy : ¬ IsNan y) (h : Lt y x) : FloatKind.f64.format.order x y = some .gt := by
  rcases order_cases hx hy with ⟨h1, h2⟩ | ⟨h1, h2⟩ | ⟨h1, h2⟩
  · exact absurd h1 (Lt.asymm h)
  · exact absurd ⟨h1.1.symm, h1.2.symm⟩ (Lt.not_eq h)
  · exact h2

set_option maxHeartbeats 2000000 in
theorem sorted_any (a : Option Addr) (n cap : Nat) (v : Nat → Nat) (w : World) (hn : n ≤ 65536) (hs : Sl (Value.float .f64) w a n v) :
    Calls Try.prog 17 #[.slice a n cap] w fun e w' => RetIf (Sorted v n) e ∧ ∃ m, w' = w.drewN m := by
  go_enter Try.func17, Try.ntmps17
  go_wp2
  go_loopw [3] (fun t wr => ∃ k m : Nat, k ≤ n ∧ t = .int .i64 k ∧ wr = w.drewN m ∧ Sorted v k) (fun t _ => n - (intOf t).toNat)
  case atStart => exact ⟨0, 0, Nat.zero_le _, rfl, rfl, ⟨fun i h => by omega, fun i _ h => by omega⟩⟩
  case round =>
    obtain ⟨k, m, hk, rfl, rfl, hS⟩ := hrel
    by_cases hlt : k < n
    · obtain ⟨b, off, hab, hbl, hc⟩ := hs.resolve_left (by omega)
      subst hab
      obtain ⟨x, hx⟩ : ∃ x, x = v k := ⟨_, rfl⟩
      have gx : w.cell? ⟨b, off + k, none⟩ = some (.float .f64 x) := by rw [hx]; exact hc k hlt
      by_cases hnx : IsNan x
      · have hE : FloatKind.f64.format.order x x = none := nan_order hnx
        clear hc hx hnx
        go_wp2
        go_quiet (fail)
        go_wp2
        go_ret
        exact ⟨⟨false, rfl, fun h => by cases h⟩, _, World.drewN_drewN _ _ _⟩
      · have hE : FloatKind.f64.format.order x x = some .eq := ord_eq hnx hnx ⟨rfl, rfl⟩
        by_cases h0 : 0 < k
        · obtain ⟨y, hy⟩ : ∃ y, y = v (k - 1) := ⟨_, rfl⟩
          have gy : w.cell? ⟨b, off + (k - 1), none⟩ = some (.float .f64 y) := by rw [hy]; exact hc (k - 1) (by omega)
          have hny : ¬ IsNan y := by rw [hy]; exact hS.nn (k - 1) (by omega)
          have h0' : (0 : Int) < (k : Int) := by omega
          have hk1 : (k : Int) - 1 < n := by omega
          have hk2 : (0 : Int) ≤ (k : Int) - 1 := by omega
          by_cases hl : Lt x y
          · have hF := ord_lt hnx hny hl
            clear hc hx hy hnx hny hl hS
            go_wp2
            go_quiet (fail)
            go_wp2
            go_quiet (fail)
            go_wp2
            go_ret
            exact ⟨⟨false, rfl, fun h => by cases h⟩, _, (World.drewN_drewN _ _ _).trans (World.drewN_drewN _ _ _)⟩
          · have R : Sorted v (k + 1) := ⟨fun i hi => by
                by_cases e : i = k
                · rw [e, ← hx]; exact hnx
                · exact hS.nn i (by omega), fun i h1 h2 => by
                by_cases e : i = k
                · rw [e, ← hx, ← hy]; exact hl
                · exact hS.le i h1 (by omega)⟩
            have hF : (FloatKind.f64.format.order x y == some .lt) = false := by
              rcases order_cases hnx hny with ⟨h1, h2⟩ | ⟨h1, h2⟩ | ⟨h1, h2⟩
              · exact absurd h1 hl
              · rw [show FloatKind.f64.format.order x y = some .eq from h2]; rfl
              · rw [show FloatKind.f64.format.order x y = some .gt from h2]; rfl
            clear hc hx hy hnx hny hl hS
            go_wp2
            go_quiet (fail)
            go_wp2
            go_quiet (fail)
            go_wp2
            go_roundw
            case rel => exact ⟨k + 1, _, by omega, by go_num, rfl, R⟩
            case measure => simp [intOf]; omega
        · have R : Sorted v (k + 1) := ⟨fun i hi => by
              obtain rfl : i = k := by omega
              rw [← hx]; exact hnx, fun i h1 h2 => by omega⟩
          have h0' : decide ((0 : Int) < (k : Int)) = false := decide_eq_false (by omega)
          clear hc hx hnx hS
          go_wp2
          go_quiet (fail)
          go_wp2
          go_quiet (fail)
          go_wp2
          go_roundw
          case rel => exact ⟨k + 1, _, by omega, by go_num, rfl, R⟩
          case measure => simp [intOf]; omega
    · obtain rfl : k = n := by omega
      go_wp2
      go_ret
      exact ⟨⟨true, rfl, fun _ => hS⟩, _, rfl⟩
end Go.Proofs.Qxb6601588a
