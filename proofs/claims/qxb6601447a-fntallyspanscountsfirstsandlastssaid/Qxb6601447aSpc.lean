/-
  THE WALK OF ZZtallySpans (23).
-/
import Derived.Test.Qxb6601447aSpb
namespace Go.Proofs.Qxb6601447a
open Go.RowKit
open Go.Proofs.Qxb6601447a.Cyc Go.Proofs.Qxb6601447a.Mem Go.Proofs.Qxb6601447a.Tal
set_option linter.unusedVariables false

theorem Try.info45 : (Try.prog.info? 45).map (fun i => (i.zero, i.size, i.bytes)) = some (some (.agg #[.int .i64 0, .int .i64 0]), 2, 16) := by kernel_rfl

/-- The spans' row, its first k laid. -/
structure Spe (w : World) (b n k : Nat) (f l : Nat → Int) : Prop where
  lt : b < w.heap.size
  ex : ∀ j, j < n * 2 → ∃ u, w.cell? ⟨b, j, none⟩ = some u
  froz : ∀ j, w.frozen? ⟨b, j, none⟩ = false
  val : ∀ i, i < k → w.cell? ⟨b, i * 2, none⟩ = some (.int .i64 (f i)) ∧ w.cell? ⟨b, i * 2 + 1, none⟩ = some (.int .i64 (l i))

theorem spe_made {w : World} {base e g n : Nat} {xs : List Value} {f l : Nat → Int} (h : w.ownsRow base e 2 (.slice (some ⟨g, 0, none⟩) n n) n xs) : Spe w g n 0 f l := by
  refine ⟨(h.lt g rfl).2, fun j hj => ?_, fun j => h.frozenAt j, fun i hi => by omega⟩
  have := h.cellAt j hj
  rw [List.getElem?_eq_getElem (by rw [h.1]; exact hj)] at this
  exact ⟨_, this⟩

theorem spe_more {w : World} {b n k : Nat} {f l : Nat → Int} (hk : k < n) (h : Spe w b n k f l) : Spe ((w.setCell ⟨b, k * 2, none⟩ (.int .i64 (f k))).setCell ⟨b, k * 2 + 1, none⟩ (.int .i64 (l k))) b n (k + 1) f l := by
  have hex : ∀ (w : World) (o : Nat) (x : Value), (∀ j, j < n * 2 → ∃ u, w.cell? ⟨b, j, none⟩ = some u) → ∀ j, j < n * 2 → ∃ u, (w.setCell ⟨b, o, none⟩ x).cell? ⟨b, j, none⟩ = some u := fun w o x hw j hj => by
    obtain ⟨u, hu⟩ := hw j hj
    exact cell?_setCell_some hu
  have h1 := hex _ (k * 2) (.int .i64 (f k)) h.ex
  refine ⟨by simpa using h.lt, hex _ _ _ h1, fun j => by rw [World.frozen?_setCell, World.frozen?_setCell]; exact h.froz j, fun i hi => ?_⟩
  by_cases e : i = k
  · subst e
    constructor
    · rw [World.cell?_setCell_other _ _ _ _ (by intro e; injection e with _ e _; omega)]
      obtain ⟨u0, hu0⟩ := h.ex (i * 2) (by omega)
      exact World.cell?_setCell_same _ _ _ hu0
    · obtain ⟨u0, hu0⟩ := h1 (i * 2 + 1) (by omega)
      exact World.cell?_setCell_same _ _ _ hu0
  · constructor
    · rw [World.cell?_setCell_other _ _ _ _ (by intro e; injection e with _ e _; omega), World.cell?_setCell_other _ _ _ _ (by intro e; injection e with _ e _; omega)]
      exact (h.val i (by omega)).1
    · rw [World.cell?_setCell_other _ _ _ _ (by intro e; injection e with _ e _; omega), World.cell?_setCell_other _ _ _ _ (by intro e; injection e with _ e _; omega)]
      exact (h.val i (by omega)).2

theorem Spe.drew {w : World} {b n k : Nat} {f l : Nat → Int} (h : Spe w b n k f l) : Spe w.drew b n k f l := ⟨h.lt, h.ex, h.froz, h.val⟩

theorem ownsRow_below {w w' : World} {base : Nat} {e : TypeId} {size : Nat} {v : Value} {n : Nat} {xs : List Value} (h : w.ownsRow base e size v n xs) (hb : Below w.heap.size w w') : w'.ownsRow base e size v n xs := by
  refine ⟨h.1, ?_⟩
  rcases h.2 with h2 | ⟨g, cap, cur, e1, e2, hg, rest⟩
  · exact .inl h2
  · exact .inr ⟨g, cap, cur, e1, e2, by rw [hb.block g (Array.getElem?_eq_some_iff.1 hg).1]; exact hg, rest⟩

set_option maxHeartbeats 4000000 in
theorem zzSpans_any (a b : Option Addr) (n ca cb : Nat) (f l : Nat → Int) (w : World) (hn : n ≤ 4096) (hs : Sl (Value.int .i64) w a n f) (hr : Sl (Value.int .i64) w b n l) :
    Calls Try.prog 23 #[.slice a n ca, .slice b n cb] w fun e w' => ∃ a1 a2 a3 a4 c1 c2 c3 c4, e = .returned (.tuple #[.slice a1 (tly (fun i => wrap32 (f i)) n).length c1, .slice a2 (tly (fun i => wrap32 (f i)) n).length c2, .slice a3 (tly (fun i => wrap32 (l i)) n).length c3, .slice a4 (tly (fun i => wrap32 (l i)) n).length c4]) ∧
      Sl (Value.int .i32) w' a1 (tly (fun i => wrap32 (f i)) n).length (num (tly (fun i => wrap32 (f i)) n)) ∧ Sl (Value.int .i32) w' a2 (tly (fun i => wrap32 (f i)) n).length (tim (tly (fun i => wrap32 (f i)) n)) ∧
      Sl (Value.int .i32) w' a3 (tly (fun i => wrap32 (l i)) n).length (num (tly (fun i => wrap32 (l i)) n)) ∧ Sl (Value.int .i32) w' a4 (tly (fun i => wrap32 (l i)) n).length (tim (tly (fun i => wrap32 (l i)) n)) ∧ Below w.heap.size w w' := by
  obtain ⟨i0, hi, hz0, hz1, hz2⟩ := info_parts Try.info45
  go_enter Try.func23, Try.ntmps23
  go_wp2_with (at_make; refine wpList_make_full _ rfl _ _ 43 rfl w.heap.size 45 i0 (.agg #[.int .i64 0, .int .i64 0]) 2 Try.underlying43 hi hz0 hz1 _ _ _ _ n rfl rfl (by omega) (by omega) ?b2 ?b3 (Nat.le_refl _) ?_)
  case b2 => rw [hz2]; omega
  case b3 => unfold maxLen; omega
  intro w0 hown0 hgrow0
  have hb0 : Below w.heap.size w w0 := (Below.refl _ _).grown hgrow0 (Nat.le_refl _) (fun k h => by cases h)
  have hE0 : Spe w0 w.heap.size n 0 f l := spe_made hown0
  clear hown0 hgrow0
  go_wp2
  go_loopw [20] (fun t wr => ∃ k : Nat, k ≤ n ∧ t = .int .i64 k ∧ Spe wr w.heap.size n k f l ∧ Below w.heap.size w wr) (fun t _ => n - (intOf t).toNat)
  case atStart => exact ⟨0, Nat.zero_le _, rfl, hE0, hb0⟩
  case round =>
    obtain ⟨k, hk, rfl, hE, hb⟩ := hrel
    clear hE0 hb0
    by_cases hlt : k < n
    · obtain ⟨b1, off1, hab, hbl, hc⟩ := hs.resolve_left (by omega)
      obtain ⟨b2, off2, hab2, hbl2, hc2⟩ := hr.resolve_left (by omega)
      subst hab hab2
      obtain ⟨x, hx⟩ : ∃ x, x = f k := ⟨_, rfl⟩
      obtain ⟨y, hy⟩ : ∃ y, y = l k := ⟨_, rfl⟩
      have gx : wr.cell? ⟨b1, off1 + k, none⟩ = some (.int .i64 x) := by rw [hx]; exact (hb.cell (by exact hbl)).trans (hc k hlt)
      have gy : wr.cell? ⟨b2, off2 + k, none⟩ = some (.int .i64 y) := by rw [hy]; exact (hb.cell (by exact hbl2)).trans (hc2 k hlt)
      obtain ⟨u1, g1⟩ := hE.ex (k * 2) (by omega)
      obtain ⟨u2, g2⟩ := hE.ex (k * 2 + 1) (by omega)
      have f1 := hE.froz (k * 2)
      have f2 := hE.froz (k * 2 + 1)
      have hlt' : (k : Int) < (n : Int) := by omega
      have R := spe_more hlt hE
      rw [← hx, ← hy] at R
      have R2 : Below w.heap.size w ((wr.setCell ⟨w.heap.size, k * 2, none⟩ (.int .i64 x)).setCell ⟨w.heap.size, k * 2 + 1, none⟩ (.int .i64 y)) := (hb.setCell (by exact Nat.le_refl _) _).setCell (by exact Nat.le_refl _) _
      clear hc hc2 hx hy hE
      go_wp2
      go_region
      go_wp2
      go_roundw
      case rel => exact ⟨k + 1, by omega, by go_num, R.drew, R2.drew⟩
      case measure => simp [intOf]; omega
    · obtain rfl : k = n := by omega
      have hsp : Sp wr (some ⟨w.heap.size, 0, none⟩) k f l := .inr ⟨_, rfl, hE.lt, hE.val⟩
      clear hE
      go_wp2_with fail
      refine (tallySpans_any _ _ _ f l _ hn hsp).mono ?_
      rintro e w3 ⟨v1, v2, rfl, hv1, hv2, hb3⟩
      have hbw3 : Below w.heap.size w w3 := hb.trans (hb3.mono hb.size)
      clear hsp hb hb3
      obtain ⟨T1, hT1⟩ : ∃ T, T = tly (fun i => wrap32 (f i)) k := ⟨_, rfl⟩
      obtain ⟨T2, hT2⟩ : ∃ T, T = tly (fun i => wrap32 (l i)) k := ⟨_, rfl⟩
      rw [← hT1] at hv1
      rw [← hT2] at hv2
      have hl1 : T1.length ≤ 4096 := by rw [hT1]; exact Nat.le_trans (tly_le _ _) hn
      have hl2 : T2.length ≤ 4096 := by rw [hT2]; exact Nat.le_trans (tly_le _ _) hn
      have H1 : Hid (T1 = tly (fun i => wrap32 (f i)) k) := hT1
      have H2 : Hid (T2 = tly (fun i => wrap32 (l i)) k) := hT2
      clear hT1 hT2
      obtain ⟨o1, d1, rfl⟩ : ∃ o c, v1 = .slice o T1.length c := by
        rcases hv1.2 with ⟨h, h2⟩ | ⟨q, c, cur, h, _⟩
        · exact ⟨none, 0, by rw [h, h2]⟩
        · exact ⟨_, _, h⟩
      obtain ⟨o2, d2, rfl⟩ : ∃ o c, v2 = .slice o T2.length c := by
        rcases hv2.2 with ⟨h, h2⟩ | ⟨q, c, cur, h, _⟩
        · exact ⟨none, 0, by rw [h, h2]⟩
        · exact ⟨_, _, h⟩
      go_wp2_with fail
      refine (split_any _ _ T1 _ hl1 (hv1.alloc _)).mono ?_
      rintro e w5 ⟨a1, a2, c1, c2, rfl, h1, h2, hb5⟩
      have hv25 := ownsRow_below (hv2.alloc (.cells #[.slice o1 T1.length d1, .slice o2 T2.length d2] 47)) hb5
      have g5 : w5.cell? ⟨w3.heap.size, 1, none⟩ = some (.slice o2 T2.length d2) := by
        rw [hb5.cell (by show w3.heap.size < _; simp)]
        simp
      have hbw5 : Below w.heap.size w w5 := (hbw3.alloc hbw3.size _).trans (hb5.mono (by have := hbw3.size; simp; omega))
      have s1 := h1.sl
      have s2 := h2.sl
      clear h1 h2 hb5 hv1 hv2 hbw3
      go_wp2_with fail
      refine (split_any _ _ T2 _ hl2 hv25).mono ?_
      rintro e w6 ⟨a3, a4, c3, c4, rfl, h3, h4, hb6⟩
      have t1 := s1.below hb6
      have t2 := s2.below hb6
      have t3 := h3.sl
      have t4 := h4.sl
      have hbw6 : Below w.heap.size w w6 := hbw5.trans (hb6.mono hbw5.size)
      clear s1 s2 h3 h4 hb6 hbw5 hv25 g5
      go_wp2
      obtain rfl := H1.out
      obtain rfl := H2.out
      exact bodyPost_ret (v := .tuple #[.slice a1 _ c1, .slice a2 _ c2, .slice a3 _ c3, .slice a4 _ c4]) (by simp [results, Try.results23, go_sem]) rfl ⟨_, _, _, _, _, _, _, _, rfl, t1, t2, t3, t4, hbw6⟩
end Go.Proofs.Qxb6601447a
