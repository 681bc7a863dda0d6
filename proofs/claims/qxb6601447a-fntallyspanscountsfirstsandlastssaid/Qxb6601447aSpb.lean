/-
  THE WALK OF tallySpans (32).
-/
import Derived.Test.Qxb6601447aSpa
import Derived.Test.Qxb6601447aTfin
import Derived.RegionTactic
import Derived.BigRegion
namespace Go.Proofs.Qxb6601447a
open Go.RowKit
open Go.Proofs.Qxb6601447a.Cyc Go.Proofs.Qxb6601447a.Mem Go.Proofs.Qxb6601447a.Tal
set_option linter.unusedVariables false

/-- A slice of spans that can be read: two cells an element. -/
def Sp (w : World) (a : Option Addr) (n : Nat) (f l : Nat → Int) : Prop :=
  n = 0 ∨ ∃ b, a = some ⟨b, 0, none⟩ ∧ b < w.heap.size ∧ ∀ i, i < n → w.cell? ⟨b, i * 2, none⟩ = some (.int .i64 (f i)) ∧ w.cell? ⟨b, i * 2 + 1, none⟩ = some (.int .i64 (l i))

def idv : Value → Value := fun v => v

theorem ownsRow_mono {w : World} {base base' : Nat} {e : TypeId} {size : Nat} {v : Value} {n : Nat} {xs : List Value} (h : w.ownsRow base e size v n xs) (hb : base' ≤ base) : w.ownsRow base' e size v n xs := by
  refine ⟨h.1, ?_⟩
  rcases h.2 with h2 | ⟨g, cap, cur, e1, e2, rest⟩
  · exact .inl h2
  · exact .inr ⟨g, cap, cur, e1, Nat.le_trans hb e2, rest⟩

set_option maxHeartbeats 4000000 in
theorem tallySpans_any (a : Option Addr) (n cap : Nat) (f l : Nat → Int) (w : World) (hn : n ≤ 4096) (hs : Sp w a n f l) :
    Calls Try.prog 32 #[.slice a n cap] w fun e w' => ∃ v1 v2, e = .returned (.agg #[v1, v2]) ∧ w'.ownsRow w.heap.size 51 2 v1 (tly (fun i => wrap32 (f i)) n).length (tcells (tly (fun i => wrap32 (f i)) n)) ∧ w'.ownsRow w.heap.size 51 2 v2 (tly (fun i => wrap32 (l i)) n).length (tcells (tly (fun i => wrap32 (l i)) n)) ∧ Below w.heap.size w w' := by
  obtain ⟨i0, hi, hz0, hz1, hz2⟩ := info_parts Try.info21
  go_enter Try.func32, Try.ntmps32
  go_wp2_with (at_make; refine wpList_make_full _ rfl _ _ 26 rfl w.heap.size 21 i0 (.int .i32 0) 1 Try.underlying26 hi hz0 hz1 _ _ _ _ n rfl rfl (by omega) (by omega) ?b2 ?b3 ?b4 ?_)
  case b2 => rw [hz2]; omega
  case b3 => unfold maxLen; omega
  case b4 => simp
  intro w0 hown0 hgrow0
  have hR0 : Own idv (w.alloc (.cells #[.slice none 0 0, .slice none 0 0] 47)) w.heap.size 2 (fun _ => .slice none 0 0) := by
    refine ⟨by simp, fun i h => ?_, fun i => by simp⟩
    match i, h with
    | 0, _ => simp [idv]
    | 1, _ => simp [idv]
  have hR1 := own_kept hR0 hgrow0 (by simp)
  have hb0 : Below w.heap.size w w0 := ((Below.refl _ w).alloc (Nat.le_refl _) _).grown hgrow0 (by simp) (fun k h => by cases h)
  have hO0 : Own (Value.int .i32) w0 (w.heap.size + 1) n (fun _ => 0) := own_made hown0
  have hlt0 := hO0.lt
  clear hown0 hgrow0 hR0
  go_wp2_with (at_make; refine wpList_make_full _ rfl _ _ 26 rfl w0.heap.size 21 i0 (.int .i32 0) 1 Try.underlying26 hi hz0 hz1 _ _ _ _ n rfl rfl (by omega) (by omega) ?b2 ?b3 (Nat.le_refl _) ?_)
  case b2 => rw [hz2]; omega
  case b3 => unfold maxLen; omega
  intro w1 hown1 hgrow1
  have hb1 : Below w.heap.size w w1 := hb0.grown hgrow1 (by omega) (fun k h => by cases h)
  have hR2 := own_kept hR1 hgrow1 (by simp)
  have hO1 : Own (Value.int .i32) w1 (w.heap.size + 1) n (fun _ => 0) := own_kept hO0 hgrow1 (by simp)
  have hQ1 : Own (Value.int .i32) w1 w0.heap.size n (fun _ => 0) := own_made hown1
  clear hown1 hgrow1 hO0 hb0 hR1
  go_wp2
  go_loopw [15] (fun t wr => ∃ k : Nat, k ≤ n ∧ t = .int .i64 k ∧ Own (Value.int .i32) wr (w.heap.size + 1) n (fun i => if i < k then wrap32 (f i) else 0) ∧ Own (Value.int .i32) wr w0.heap.size n (fun i => if i < k then wrap32 (l i) else 0) ∧ Own idv wr w.heap.size 2 (fun _ => .slice none 0 0) ∧ Below w.heap.size w wr)
    (fun t _ => n - (intOf t).toNat)
  case atStart => exact ⟨0, Nat.zero_le _, rfl, hO1.congr (fun i _ => by simp), hQ1.congr (fun i _ => by simp), hR2, hb1⟩
  case round =>
    obtain ⟨k, hk, rfl, ho, hq, hr, hb⟩ := hrel
    clear hO1 hQ1 hb1 hR2
    by_cases hlt : k < n
    · obtain ⟨g, hag, hgl, hc⟩ := hs.resolve_left (by omega)
      subst hag
      obtain ⟨x, hx⟩ : ∃ x, x = f k := ⟨_, rfl⟩
      obtain ⟨y, hy⟩ : ∃ y, y = l k := ⟨_, rfl⟩
      have g1 : wr.cell? ⟨g, k * 2, none⟩ = some (.int .i64 x) := by rw [hx]; exact (hb.cell (by exact hgl)).trans (hc k hlt).1
      have g2 : wr.cell? ⟨g, k * 2 + 1, none⟩ = some (.int .i64 y) := by rw [hy]; exact (hb.cell (by exact hgl)).trans (hc k hlt).2
      have f1 := ho.froz k
      have f2 := hq.froz k
      have c1 : wr.cell? ⟨w.heap.size + 1, k, none⟩ = some (.int .i32 0) := by have := ho.cell k hlt; simpa using this
      have c2 : wr.cell? ⟨w0.heap.size, k, none⟩ = some (.int .i32 0) := by have := hq.cell k hlt; simpa using this
      have hwl : w0.heap.size < wr.heap.size := hq.lt
      have hwl1 : w.heap.size + 1 < wr.heap.size := ho.lt
      have hgl1 : g < wr.heap.size := by omega
      have hlt' : (k : Int) < (n : Int) := by omega
      have S1 := own_kept (((own_more (p := fun i => wrap32 (f i)) ho).other (b' := w0.heap.size) (i := k) (by omega) (Value.int .i32 (wrap32 (l k))))) (World.grownBy_alloc _ (.cells #[.int .i64 (f k), .int .i64 (l k)] 45) none) (by simp)
      have S2 := own_kept (own_more (p := fun i => wrap32 (l i)) (hq.other (b' := w.heap.size + 1) (i := k) (by omega) (Value.int .i32 (wrap32 (f k))))) (World.grownBy_alloc _ (.cells #[.int .i64 (f k), .int .i64 (l k)] 45) none) (by simp)
      have S3 := own_kept ((hr.other (b' := w.heap.size + 1) (i := k) (by omega) (Value.int .i32 (wrap32 (f k)))).other (b' := w0.heap.size) (i := k) (by omega) (Value.int .i32 (wrap32 (l k)))) (World.grownBy_alloc _ (.cells #[.int .i64 (f k), .int .i64 (l k)] 45) none) (by simp)
      have S4 : Below w.heap.size w (((wr.setCell ⟨w.heap.size + 1, k, none⟩ (.int .i32 (wrap32 (f k)))).setCell ⟨w0.heap.size, k, none⟩ (.int .i32 (wrap32 (l k)))).alloc (.cells #[.int .i64 (f k), .int .i64 (l k)] 45)) :=
        ((hb.setCell (by exact Nat.le_succ _) _).setCell (by show w.heap.size ≤ w0.heap.size; omega) _).alloc (by simp; omega) _
      rw [← hx, ← hy] at S1 S2 S3 S4
      clear hc hx hy ho hq hr
      go_wp2
      go_region
      go_wp2
      go_roundw
      case rel => exact ⟨k + 1, by omega, by go_num, S1.drew, S2.drew, S3.drew, S4.drew⟩
      case measure => simp [intOf]; omega
    · obtain rfl : k = n := by omega
      have ho' := ho.congr (g' := fun i => wrap32 (f i)) fun i hi => by rw [if_pos hi]
      have hq' := hq.congr (g' := fun i => wrap32 (l i)) fun i hi => by rw [if_pos hi]
      have hwl : w0.heap.size < wr.heap.size := hq.lt
      clear ho hq
      go_wp2_with fail
      refine (tallyOf_any (w.heap.size + 1) _ _ _ (fun i => wrap32 (f i)) _ hn (.inr ⟨_, rfl, Nat.le_refl _, ho'⟩)).mono ?_
      rintro e w2 ⟨v1, rfl, _, hv1, hg2⟩
      have hrow1 : ∀ q, rowOf k (some ⟨w.heap.size + 1, 0, none⟩) = some q → q = w.heap.size + 1 := fun q hq => by
        unfold rowOf at hq; split at hq
        · cases hq
        · simpa using hq.symm
      have hrow2 : ∀ q, rowOf k (some ⟨w0.heap.size, 0, none⟩) = some q → q = w0.heap.size := fun q hq => by
        unfold rowOf at hq; split at hq
        · cases hq
        · simpa using hq.symm
      have hq2 := own_kept hq' hg2 (fun e => by have := hrow1 _ e.symm; omega)
      have hr2 := own_kept hr hg2 (fun e => by have := hrow1 _ e.symm; omega)
      have hb2 := hb.grown hg2 hb.size (fun q hq => by have := hrow1 _ hq; omega)
      have hz2' := hg2.size
      clear hq' hr hb hg2 ho'
      go_wp2_with fail
      refine (tallyOf_any w0.heap.size _ _ _ (fun i => wrap32 (l i)) _ hn (.inr ⟨_, rfl, Nat.le_refl _, hq2⟩)).mono ?_
      rintro e w3 ⟨v2, rfl, _, hv2, hg3⟩
      have hv13 := hv1.kept hg3 (by
        cases hvb : v1.ownBlock with
        | none => exact .inl rfl
        | some q => exact .inr fun e => by have h1 := (hv1.lt q hvb).1; have h2 := hrow2 _ e.symm; omega)
      have hr3 := own_kept hr2 hg3 (fun e => by have := hrow2 _ e.symm; omega)
      have hb3 := hb2.grown hg3 hb2.size (fun q hq => by have := hrow2 _ hq; omega)
      have hz3' := hg3.size
      clear hv1 hq2 hr2 hb2 hg3 hrow1 hrow2
      obtain ⟨o1, d1, rfl⟩ : ∃ o c, v1 = .slice o (tly (fun i => wrap32 (f i)) k).length c := by
        rcases hv13.2 with ⟨h, h2⟩ | ⟨q, c, cur, h, _⟩
        · exact ⟨none, 0, by rw [h]; congr 1; exact h2.symm⟩
        · exact ⟨_, _, h⟩
      obtain ⟨o2, d2, rfl⟩ : ∃ o c, v2 = .slice o (tly (fun i => wrap32 (l i)) k).length c := by
        rcases hv2.2 with ⟨h, h2⟩ | ⟨q, c, cur, h, _⟩
        · exact ⟨none, 0, by rw [h]; congr 1; exact h2.symm⟩
        · exact ⟨_, _, h⟩
      have e0 : w3.cell? ⟨w.heap.size, 0, none⟩ = some (.slice none 0 0) := hr3.cell 0 (by omega)
      have e1 : w3.cell? ⟨w.heap.size, 1, none⟩ = some (.slice none 0 0) := hr3.cell 1 (by omega)
      have z0 := hr3.froz 0
      have z1 := hr3.froz 1
      clear hr3
      have T1 : ((w3.setCell ⟨w.heap.size, 0, none⟩ (.slice o1 (tly (fun i => wrap32 (f i)) k).length d1)).setCell ⟨w.heap.size, 1, none⟩ (.slice o2 (tly (fun i => wrap32 (l i)) k).length d2)).ownsRow w.heap.size 51 2 (.slice o1 (tly (fun i => wrap32 (f i)) k).length d1) (tly (fun i => wrap32 (f i)) k).length (tcells (tly (fun i => wrap32 (f i)) k)) :=
        ownsRow_mono (ownsRow_setCell_below (ownsRow_setCell_below hv13 (by show w.heap.size < wr.heap.size; omega) _) (by show w.heap.size < wr.heap.size; omega) _) (by omega)
      have T2 : ((w3.setCell ⟨w.heap.size, 0, none⟩ (.slice o1 (tly (fun i => wrap32 (f i)) k).length d1)).setCell ⟨w.heap.size, 1, none⟩ (.slice o2 (tly (fun i => wrap32 (l i)) k).length d2)).ownsRow w.heap.size 51 2 (.slice o2 (tly (fun i => wrap32 (l i)) k).length d2) (tly (fun i => wrap32 (l i)) k).length (tcells (tly (fun i => wrap32 (l i)) k)) :=
        ownsRow_mono (ownsRow_setCell_below (ownsRow_setCell_below hv2 (by show w.heap.size < w2.heap.size; omega) _) (by show w.heap.size < w2.heap.size; omega) _) (by omega)
      have T3 : Below w.heap.size w ((w3.setCell ⟨w.heap.size, 0, none⟩ (.slice o1 (tly (fun i => wrap32 (f i)) k).length d1)).setCell ⟨w.heap.size, 1, none⟩ (.slice o2 (tly (fun i => wrap32 (l i)) k).length d2)) :=
        (hb3.setCell (by exact Nat.le_refl _) _).setCell (by exact Nat.le_refl _) _
      clear hv13 hv2 hb3
      go_wp2
      refine bodyPost_ret (v := .agg #[.slice o1 (tly (fun i => wrap32 (f i)) k).length d1, .slice o2 (tly (fun i => wrap32 (l i)) k).length d2]) ?_ rfl ⟨_, _, rfl, T1, T2, T3⟩
      simp [results, Try.results32, go_sem, e0, e1]
end Go.Proofs.Qxb6601447a
