/-
  THE WALKS OF bucketEnd (22) AND OF ITS SHIM ZZBucketEnd (18).
-/
import Derived.Test.Qxb6601588aWb
import Derived.RegionTactic
import Derived.BigRegion
namespace Go.Proofs.Qxb6601588a
open Go.RowKit
open Go.Proofs.Qxb6601588a.Mem Go.Proofs.Qxb6601588a.Fl
set_option linter.unusedVariables false
attribute [local go_sem] run_store_float

theorem Try.info50 : (Try.prog.info? 50).map (fun i => (i.zero, i.size, i.bytes)) = some (some (.agg #[.float .f64 0, .int .i32 0]), 2, 16) := by kernel_rfl

/-- A slice of entries whose values can be read: two cells an entry, the value first. -/
def En (w : World) (a : Option Addr) (n : Nat) (v : Nat → Nat) : Prop :=
  n = 0 ∨ ∃ b, a = some ⟨b, 0, none⟩ ∧ b < w.heap.size ∧ ∀ i, i < n → w.cell? ⟨b, i * 2, none⟩ = some (.float .f64 (v i))

/-- 'en' ends the run of values equal to that at 'start'. -/
structure IsEnd (v : Nat → Nat) (n start en : Nat) : Prop where
  lo : start < en
  hi : en ≤ n
  run : ∀ i, start < i → i < en → Eq' (v i) (v start)
  stop : en < n → ¬ Eq' (v en) (v start)

set_option maxHeartbeats 2000000 in
theorem bucket_small (a : Option Addr) (n cap : Nat) (v : Nat → Nat) (w : World) (start : Nat) (laid distinct : Int) (hn : n ≤ 65536) (hd : distinct ≤ 255) (hsn : start < n) (hen : En w a n v) (hnn : ∀ i, i < n → ¬ IsNan (v i)) :
    Calls Try.prog 22 #[.slice a n cap, .int .i64 start, .int .i64 laid, .int .i64 distinct] w fun e w' => ∃ en : Nat, e = .returned (.int .i64 en) ∧ IsEnd v n start en ∧ ∃ m, w' = w.drewN m := by
  obtain ⟨b, hab, hbl, hc⟩ := hen.resolve_left (by omega)
  subst hab
  have gs := hc start hsn
  have hns := hnn start hsn
  obtain ⟨y, hy⟩ : ∃ y, y = v start := ⟨_, rfl⟩
  rw [← hy] at gs hns
  go_enter Try.func22, Try.ntmps22
  go_wp2
  go_loopw [10] (fun t wr => ∃ en m : Nat, start < en ∧ en ≤ n ∧ t = .int .i64 en ∧ wr = w.drewN m ∧ Hid (∀ i, start < i → i < en → Eq' (v i) (v start))) (fun t _ => n - (intOf t).toNat)
  case atStart => exact ⟨start + 1, 0, by omega, by omega, by go_num, rfl, fun i h1 h2 => by omega⟩
  case round =>
    obtain ⟨en, m, h1, h2, rfl, rfl, hrun⟩ := hrel
    by_cases hlt : en < n
    · obtain ⟨x, hx⟩ : ∃ x, x = v en := ⟨_, rfl⟩
      have gx : w.cell? ⟨b, en * 2, none⟩ = some (.float .f64 x) := by rw [hx]; exact hc en hlt
      have hnx : ¬ IsNan x := by rw [hx]; exact hnn en hlt
      have hlt' : (en : Int) < (n : Int) := by omega
      have hs' : (start : Int) < (n : Int) := by omega
      by_cases he : Eq' x y
      · have hF := ord_eq hnx hns he
        have R : Hid (∀ i, start < i → i < en + 1 → Eq' (v i) (v start)) := fun i h3 h4 => by
          by_cases e : i = en
          · rw [e, ← hx, ← hy]; exact he
          · exact hrun.out i h3 (by omega)
        clear hc hnn hnx hns hx hy he
        go_wp2
        go_quiet (fail)
        go_wp2
        go_roundw
        case rel => exact ⟨en + 1, _, by omega, by omega, by go_num, rfl, R⟩
        case measure => simp [intOf]; omega
      · have hF : (FloatKind.f64.format.order x y == some .eq) = false := by
          rcases order_cases hnx hns with ⟨h3, h4⟩ | ⟨h3, h4⟩ | ⟨h3, h4⟩
          · rw [show FloatKind.f64.format.order x y = some .lt from h4]; rfl
          · exact absurd h3 he
          · rw [show FloatKind.f64.format.order x y = some .gt from h4]; rfl
        have R : IsEnd v n start en := ⟨h1, h2, hrun.out, fun _ => by rw [← hx, ← hy]; exact he⟩
        clear hc hnn hnx hns hx hy he
        go_wp2
        go_quiet (fail)
        go_wp2
        go_ret
        exact ⟨_, rfl, R, _, World.drewN_drewN _ _ _⟩
    · obtain rfl : en = n := by omega
      have hd' : decide ((en : Int) < (en : Int)) = false := by simp
      have R : IsEnd v en start en := ⟨h1, h2, hrun.out, fun h => absurd h (by omega)⟩
      clear hc hnn hns hy
      go_wp2
      go_quiet (fail)
      go_wp2
      go_ret
      exact ⟨_, rfl, R, _, World.drewN_drewN _ _ _⟩

theorem bucket_big (a : Option Addr) (n cap : Nat) (w : World) (start laid : Nat) (distinct : Int) (hn : n ≤ 65536) (hd : 255 < distinct) (hsn : start ≤ n) (hl : laid < 255) :
    Calls Try.prog 22 #[.slice a n cap, .int .i64 start, .int .i64 laid, .int .i64 distinct] w fun e w' => e = .returned (.int .i64 (start + (n - start + (255 - laid) - 1) / (255 - laid))) ∧ w = w' := by
  have h0 : (0 : Int) ≤ ((n : Int) - start + (255 - laid) - 1) / (255 - laid) := Int.ediv_nonneg (by omega) (by omega)
  have h1 : ((n : Int) - start + (255 - laid) - 1) / (255 - laid) ≤ 70000 := by
    have := Int.ediv_le_self (a := (n : Int) - start + (255 - laid) - 1) (255 - laid) (by omega)
    omega
  go_enter Try.func22, Try.ntmps22
  go_wp2
  go_ret
  exact ⟨rfl, rfl⟩

/-- The entries' row, its first k values laid. -/
structure Ent (w : World) (b n k : Nat) (v : Nat → Nat) : Prop where
  lt : b < w.heap.size
  ex : ∀ j, j < n * 2 → ∃ u, w.cell? ⟨b, j, none⟩ = some u
  froz : ∀ j, w.frozen? ⟨b, j, none⟩ = false
  val : ∀ i, i < k → w.cell? ⟨b, i * 2, none⟩ = some (.float .f64 (v i))

theorem ent_made {w : World} {base e g n : Nat} {xs : List Value} {v : Nat → Nat} (h : w.ownsRow base e 2 (.slice (some ⟨g, 0, none⟩) n n) n xs) : Ent w g n 0 v := by
  refine ⟨?_, fun j hj => ?_, fun j => h.frozenAt j, fun i hi => by omega⟩
  · exact (h.lt g rfl).2
  · have := h.cellAt j hj
    rw [List.getElem?_eq_getElem (by rw [h.1]; exact hj)] at this
    exact ⟨_, this⟩

theorem ent_more {w : World} {b n k : Nat} {v : Nat → Nat} (u : Value) (hk : k < n) (h : Ent w b n k v) : Ent ((w.setCell ⟨b, k * 2, none⟩ (.float .f64 (v k))).setCell ⟨b, k * 2 + 1, none⟩ u) b n (k + 1) v := by
  have hex : ∀ (w : World) (o : Nat) (x : Value), (∀ j, j < n * 2 → ∃ u, w.cell? ⟨b, j, none⟩ = some u) → ∀ j, j < n * 2 → ∃ u, (w.setCell ⟨b, o, none⟩ x).cell? ⟨b, j, none⟩ = some u := fun w o x hw j hj => by
    obtain ⟨u, hu⟩ := hw j hj
    exact cell?_setCell_some hu
  refine ⟨by simpa using h.lt, hex _ _ _ (hex _ _ _ h.ex), fun j => by rw [World.frozen?_setCell, World.frozen?_setCell]; exact h.froz j, fun i hi => ?_⟩
  rw [World.cell?_setCell_other _ _ _ _ (by intro e; injection e with _ e _; omega)]
  by_cases e : i = k
  · subst e
    obtain ⟨u0, hu0⟩ := h.ex (i * 2) (by omega)
    exact World.cell?_setCell_same _ _ _ hu0
  · rw [World.cell?_setCell_other _ _ _ _ (by intro e2; injection e2 with _ e3 _; omega)]
    exact h.val i (by omega)

theorem Ent.drew {w : World} {b n k : Nat} {v : Nat → Nat} (h : Ent w b n k v) : Ent w.drew b n k v := ⟨h.lt, h.ex, h.froz, h.val⟩

theorem ent_en {w : World} {b n : Nat} {v : Nat → Nat} (h : Ent w b n n v) : En w (some ⟨b, 0, none⟩) n v := .inr ⟨b, rfl, h.lt, h.val⟩

/-- What bucketEnd answers. -/
def Answers (v : Nat → Nat) (n start : Nat) (laid distinct : Int) (e : Ending) : Prop :=
  (distinct ≤ 255 ∧ ∃ en : Nat, e = .returned (.int .i64 en) ∧ IsEnd v n start en) ∨ (255 < distinct ∧ e = .returned (.int .i64 (start + ((n : Int) - start + (255 - laid) - 1) / (255 - laid))))

set_option maxHeartbeats 4000000 in
theorem zzBucket_any (a a2 : Option Addr) (n cap c2 : Nat) (v : Nat → Nat) (s : Nat → Int) (w : World) (start : Nat) (laid distinct : Int) (hn : n ≤ 65536) (hs : Sl (Value.float .f64) w a n v) (hs2 : Sl (Value.int .i32) w a2 n s)
    (hsn : start ≤ n) (hsm : distinct ≤ 255 → start < n ∧ ∀ i, i < n → ¬ IsNan (v i)) (hbg : 255 < distinct → 0 ≤ laid ∧ laid < 255) :
    Calls Try.prog 18 #[.slice a n cap, .slice a2 n c2, .int .i64 start, .int .i64 laid, .int .i64 distinct] w fun e w' => Answers v n start laid distinct e ∧ Below w.heap.size w w' := by
  obtain ⟨i0, hi, hz0, hz1, hz2⟩ := info_parts Try.info50
  go_enter Try.func18, Try.ntmps18
  go_wp2_with (at_make; refine wpList_make_full _ rfl _ _ 48 rfl w.heap.size 50 i0 (.agg #[.float .f64 0, .int .i32 0]) 2 Try.underlying48 hi hz0 hz1 _ _ _ _ n rfl rfl (by omega) (by omega) ?b2 ?b3 (Nat.le_refl _) ?_)
  case b2 => rw [hz2]; omega
  case b3 => unfold maxLen; omega
  intro w0 hown0 hgrow0
  have hb0 : Below w.heap.size w w0 := (Below.refl _ _).grown hgrow0 (Nat.le_refl _) (fun k h => by cases h)
  have hE0 : Ent w0 w.heap.size n 0 v := ent_made hown0
  clear hown0 hgrow0
  go_wp2
  go_loopw [12] (fun t wr => ∃ k : Nat, k ≤ n ∧ t = .int .i64 k ∧ Ent wr w.heap.size n k v ∧ Below w.heap.size w wr) (fun t _ => n - (intOf t).toNat)
  case atStart => exact ⟨0, Nat.zero_le _, rfl, hE0, hb0⟩
  case round =>
    obtain ⟨k, hk, rfl, hE, hb⟩ := hrel
    clear hE0 hb0
    by_cases hlt : k < n
    · obtain ⟨b1, off1, hab, hbl, hc⟩ := hs.resolve_left (by omega)
      obtain ⟨b2, off2, hab2, hbl2, hc2⟩ := hs2.resolve_left (by omega)
      subst hab hab2
      obtain ⟨x, hx⟩ : ∃ x, x = v k := ⟨_, rfl⟩
      obtain ⟨y, hy⟩ : ∃ y, y = s k := ⟨_, rfl⟩
      have gx : wr.cell? ⟨b1, off1 + k, none⟩ = some (.float .f64 x) := by rw [hx]; exact (hb.cell (by exact hbl)).trans (hc k hlt)
      have gy : wr.cell? ⟨b2, off2 + k, none⟩ = some (.int .i32 y) := by rw [hy]; exact (hb.cell (by exact hbl2)).trans (hc2 k hlt)
      obtain ⟨u1, g1⟩ := hE.ex (k * 2) (by omega)
      obtain ⟨u2, g2⟩ := hE.ex (k * 2 + 1) (by omega)
      have f1 := hE.froz (k * 2)
      have f2 := hE.froz (k * 2 + 1)
      have hlt' : (k : Int) < (n : Int) := by omega
      have R := ent_more (.int .i32 y) hlt hE
      rw [← hx] at R
      have R2 : Below w.heap.size w ((wr.setCell ⟨w.heap.size, k * 2, none⟩ (.float .f64 x)).setCell ⟨w.heap.size, k * 2 + 1, none⟩ (.int .i32 y)) := (hb.setCell (by exact Nat.le_refl _) _).setCell (by exact Nat.le_refl _) _
      clear hc hc2 hx hy hE
      go_wp2
      go_region
      go_wp2
      go_roundw
      case rel => exact ⟨k + 1, by omega, by go_num, R.drew, R2.drew⟩
      case measure => simp [intOf]; omega
    · obtain rfl : k = n := by omega
      have hen := ent_en hE
      clear hE
      by_cases hd : distinct ≤ 255
      · go_wp2_with fail
        refine (bucket_small _ _ _ v _ start laid distinct hn hd (hsm hd).1 hen (hsm hd).2).mono ?_
        rintro e w' ⟨en, rfl, hE, m, rfl⟩
        go_wp2
        go_ret
        exact ⟨.inl ⟨hd, en, rfl, hE⟩, hb.trans ⟨rfl, rfl, rfl, Nat.le_refl _, fun _ _ => rfl⟩⟩
      · obtain ⟨ld, rfl⟩ : ∃ ld : Nat, laid = ld := ⟨laid.toNat, by have := hbg (by omega); omega⟩
        go_wp2_with fail
        refine (bucket_big _ _ _ _ start ld distinct hn (by omega) hsn (by have := hbg (by omega); omega)).mono ?_
        rintro e w' ⟨rfl, rfl⟩
        go_wp2
        go_ret
        exact ⟨.inr ⟨by omega, rfl⟩, hb⟩
end Go.Proofs.Qxb6601588a
