/-
  THE WALKS OF isTallyOf (17) AND isSortedExpansion (18), where what they look for holds.
-/
import Derived.Test.Qxb6601447aTwa
namespace Go.Proofs.Qxb6601447a
open Go.RowKit
open Go.Proofs.Qxb6601447a.Cyc Go.Proofs.Qxb6601447a.Mem Go.Proofs.Qxb6601447a.Tal
set_option linter.unusedVariables false

set_option maxHeartbeats 2000000 in
theorem isTally_yes (a a1 a2 : Option Addr) (n cap c1 c2 L : Nat) (p f t : Nat → Int) (tot : Nat → Nat) (w : World) (hn : n ≤ 4096) (hL : L ≤ 4096) (hs : Sl (Value.int .i32) w a n p) (h1 : Sl (Value.int .i32) w a1 L f) (h2 : Sl (Value.int .i32) w a2 L t)
    (hinc : ∀ k, 0 < k → k < L → f (k - 1) < f k) (hpos : ∀ k, k < L → 1 ≤ t k) (hle : ∀ k, k < L → t k ≤ n) (hcnt : ∀ k, k < L → t k = cnt p (f k) n) (ht0 : tot 0 = 0) (hts : ∀ k, k < L → tot (k + 1) = tot k + (t k).toNat) (htn : tot L = n) (htle : ∀ k, k ≤ L → tot k ≤ n) :
    Calls Try.prog 17 #[.slice a n cap, .slice a1 L c1, .slice a2 L c2] w fun e w' => e = .returned (.bool true) ∧ ∃ m, w' = w.drewN m := by
  go_enter Try.func17, Try.ntmps17
  go_wp2
  go_loopw [7, 8] (fun tt tk wr => ∃ k m : Nat, k ≤ L ∧ tk = .int .i64 k ∧ tt = .int .i64 (tot k) ∧ wr = w.drewN m) (fun _ tk _ => L - (intOf tk).toNat)
  case atStart => exact ⟨0, 0, Nat.zero_le _, rfl, by rw [ht0]; rfl, rfl⟩
  case round =>
    obtain ⟨k, m, hk, rfl, rfl, rfl⟩ := hrel
    have hk0 := htle k hk
    by_cases hlt : k < L
    · obtain ⟨b1, off1, hab, hbl, hcl⟩ := h1.resolve_left (by omega)
      obtain ⟨b2, off2, hab2, hbl2, hcl2⟩ := h2.resolve_left (by omega)
      subst hab hab2
      obtain ⟨x, hx⟩ : ∃ x, x = f k := ⟨_, rfl⟩
      obtain ⟨y, hy⟩ : ∃ y, y = t k := ⟨_, rfl⟩
      have gx : w.cell? ⟨b1, off1 + k, none⟩ = some (.int .i32 x) := by rw [hx]; exact hcl k hlt
      have gy : w.cell? ⟨b2, off2 + k, none⟩ = some (.int .i32 y) := by rw [hy]; exact hcl2 k hlt
      have hy1 : 1 ≤ y := by rw [hy]; exact hpos k hlt
      have hy2 : y ≤ n := by rw [hy]; exact hle k hlt
      have hd : decide (y < (1 : Int)) = false := decide_eq_false (by omega)
      have hcall : ∀ W : World, W.heap = w.heap → Calls Try.prog 31 #[.slice a n cap, .int .i32 x] W fun e w' => e = .returned (.int .i64 y) ∧ w' = W := fun W hW => by
        have := hcnt k hlt
        rw [← hx, ← hy] at this
        rw [this]
        refine (countOf_any a n cap p x W hn ?_).mono ?_
        · rcases hs with h | ⟨b, off, e, hb, hc⟩
          · exact .inl h
          · exact .inr ⟨b, off, e, by rw [hW]; exact hb, fun i hi => by rw [World.cell?_of_block (w := w) (by rw [hW])]; exact hc i hi⟩
        · rintro e w' ⟨he, hw⟩; exact ⟨he, hw.symm⟩
      have HC : Hid (∀ j : Nat, Calls Try.prog 31 #[.slice a n cap, .int .i32 x] (w.drewN j) fun e w' => e = .returned (.int .i64 y) ∧ w' = w.drewN j) := fun j => hcall (w.drewN j) rfl
      clear hcall
      have hwr : IntKind.i64.wrap y = y := IntWalk.i64_in y ⟨by omega, by omega⟩
      have hT : Hid ((tot k : Int) + y = (tot (k + 1) : Nat)) := by show (tot k : Int) + y = _; rw [hts k hlt, hy]; have := hpos k hlt; omega
      by_cases h0 : 0 < k
      · obtain ⟨z, hz⟩ : ∃ z, z = f (k - 1) := ⟨_, rfl⟩
        have gz : w.cell? ⟨b1, off1 + (k - 1), none⟩ = some (.int .i32 z) := by rw [hz]; exact hcl (k - 1) (by omega)
        have hzx : z < x := by rw [hz, hx]; exact hinc k h0 hlt
        have h0' : (0 : Int) < (k : Int) := by omega
        have hk1 : (k : Int) - 1 < L := by omega
        have hk2 : (0 : Int) ≤ (k : Int) - 1 := by omega
        clear hx hy hz hcl hcl2 hs h1 h2 hinc hpos hle hcnt hts htn htle ht0
        go_wp2
        go_quiet (fail)
        go_wp2
        go_quiet ((go_at_call 31; exact (HC.out _).mono fun e w' h => ⟨h.1, _, h.2⟩))
        go_wp2
        go_roundw
        case rel => exact ⟨k + 1, _, by omega, by go_num, by rw [← hT.out], rfl⟩
        case measure => simp [intOf]; omega
      · have h0' : decide ((0 : Int) < (k : Int)) = false := decide_eq_false (by omega)
        clear hx hy hcl hcl2 hs h1 h2 hinc hpos hle hcnt hts htn htle ht0
        go_wp2
        go_quiet (fail)
        go_wp2
        go_quiet ((go_at_call 31; exact (HC.out _).mono fun e w' h => ⟨h.1, _, h.2⟩))
        go_wp2
        go_roundw
        case rel => exact ⟨k + 1, _, by omega, by go_num, by rw [← hT.out], rfl⟩
        case measure => simp [intOf]; omega
    · obtain rfl : k = L := by omega
      clear hinc hpos hle hcnt hts htle ht0
      go_wp2
      go_ret
      exact ⟨by simp [htn], m, rfl⟩

set_option maxHeartbeats 2000000 in
theorem isExpansion_yes (a a1 a2 : Option Addr) (n cap c1 c2 L : Nat) (s f t : Nat → Int) (tot : Nat → Nat) (w : World) (hn : n ≤ 4096) (hL : L ≤ 4096) (hs : Sl (Value.int .i32) w a n s) (h1 : Sl (Value.int .i32) w a1 L f) (h2 : Sl (Value.int .i32) w a2 L t)
    (hat : ∀ k c : Nat, k < L → (c : Int) < t k → s (tot k + c) = f k ∧ tot k + c < n) (hpos : ∀ k, k < L → 1 ≤ t k) (hle : ∀ k, k < L → t k ≤ n) (ht0 : tot 0 = 0) (hts : ∀ k, k < L → tot (k + 1) = tot k + (t k).toNat) (htn : tot L = n) (htle : ∀ k, k ≤ L → tot k ≤ n) :
    Calls Try.prog 18 #[.slice a n cap, .slice a1 L c1, .slice a2 L c2] w fun e w' => e = .returned (.bool true) ∧ ∃ m, w' = w.drewN m := by
  go_enter Try.func18, Try.ntmps18
  go_wp2
  go_loopw [7, 8] (fun tt tk wr => ∃ k m : Nat, k ≤ L ∧ tk = .int .i64 k ∧ tt = .int .i64 (tot k) ∧ wr = w.drewN m) (fun _ tk _ => L - (intOf tk).toNat)
  case atStart => exact ⟨0, 0, Nat.zero_le _, rfl, by rw [ht0]; rfl, rfl⟩
  case round =>
    obtain ⟨k, m, hk, rfl, rfl, rfl⟩ := hrel
    have hk0 := htle k hk
    by_cases hlt : k < L
    · obtain ⟨b1, off1, hab, hbl, hcl⟩ := h1.resolve_left (by omega)
      obtain ⟨b2, off2, hab2, hbl2, hcl2⟩ := h2.resolve_left (by omega)
      subst hab hab2
      obtain ⟨x, hx⟩ : ∃ x, x = f k := ⟨_, rfl⟩
      obtain ⟨y, hy⟩ : ∃ y, y = t k := ⟨_, rfl⟩
      have gx : w.cell? ⟨b1, off1 + k, none⟩ = some (.int .i32 x) := by rw [hx]; exact hcl k hlt
      have gy : w.cell? ⟨b2, off2 + k, none⟩ = some (.int .i32 y) := by rw [hy]; exact hcl2 k hlt
      have hy1 : 1 ≤ y := by rw [hy]; exact hpos k hlt
      have hy2 : y ≤ n := by rw [hy]; exact hle k hlt
      have hatk : Hid (∀ c : Nat, (c : Int) < y → s (tot k + c) = x ∧ tot k + c < n) := fun c hc => by rw [hx]; exact hat k c hlt (by rw [← hy]; exact hc)
      have hT : Hid (tot (k + 1) = tot k + y.toNat) := by show _ = _; rw [hts k hlt, hy]
      obtain ⟨P, hP⟩ : ∃ P, P = tot k := ⟨_, rfl⟩
      rw [← hP] at hk0 hatk hT ⊢
      clear hx hy hcl hcl2 h1 h2 hat hpos hle hts htn htle ht0
      go_wp2
      go_loopw [7, 9] (fun tt tc wr => ∃ c m q : Nat, (c : Int) ≤ y ∧ tc = .int .i32 c ∧ tt = .int .i64 q ∧ Hid (q = P + c) ∧ wr = w.drewN m) (fun _ tc _ => (y - intOf tc).toNat)
      case atStart => exact ⟨0, m, P, by omega, rfl, rfl, rfl, rfl⟩
      case round =>
        obtain ⟨c, m', q, hc, rfl, rfl, hq, rfl⟩ := hrel
        by_cases hcy : (c : Int) < y
        · obtain ⟨e1, e2⟩ := hatk.out c hcy
          rw [← hq.out] at e1 e2
          obtain ⟨b, off, hab, hb0, hcs⟩ := hs.resolve_left (by omega)
          subst hab
          have gs : w.cell? ⟨b, off + q, none⟩ = some (.int .i32 x) := by rw [← e1]; exact hcs _ e2
          have hd : decide ((n : Int) ≤ (q : Int)) = false := decide_eq_false (by omega)
          have hi2 : (q : Int) < (n : Int) := by omega
          have hq' : Hid (q + 1 = P + (c + 1)) := by show _ = _; rw [hq.out]; omega
          clear e1 hcs hs
          go_wp2
          go_quiet (fail)
          go_wp2
          go_roundw
          case rel => exact ⟨c + 1, _, q + 1, by omega, by go_num, by go_num, hq', rfl⟩
          case measure => simp [intOf]; omega
        · have e : Hid (q = tot (k + 1)) := by show _ = _; rw [hT.out, hq.out]; omega
          go_wp2
          go_roundw
          case rel => exact ⟨k + 1, m', by omega, by go_num, by rw [e.out], rfl⟩
          case measure => simp [intOf]; omega
    · obtain rfl : k = L := by omega
      clear hat hpos hle hts htle ht0
      go_wp2
      go_ret
      exact ⟨by simp [htn], m, rfl⟩
end Go.Proofs.Qxb6601447a
