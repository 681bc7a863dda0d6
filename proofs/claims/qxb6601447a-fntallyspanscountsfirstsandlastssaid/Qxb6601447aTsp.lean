/-
  THE WALKS OF zzSplitTally (29), ZZtallyOf (16); the sort's contract in this seat's words.
-/
import Derived.Test.Qxb6601447aTof
import Derived.Test.Qxb6601447aSortH
namespace Go.Proofs.Qxb6601447a
open Go.RowKit
open Go.Proofs.Qxb6601447a.Cyc Go.Proofs.Qxb6601447a.Mem Go.Proofs.Qxb6601447a.Tal
set_option linter.unusedVariables false

theorem holds_of_own {w : World} {b n : Nat} {p : Nat → Int} (h : Own (Value.int .i32) w b n p) : Sort.Holds (Value.int .i32) w b 0 (lst p n).toArray := by
  intro j hj
  have hj' : j < n := by simpa [length_lst] using hj
  rw [Nat.zero_add]
  refine ⟨?_, h.froz j⟩
  rw [h.cell j hj']
  congr 2
  have := getD_lst p n 0 j hj'
  simp [List.getD] at this
  simp [lst, hj']

/-- slices.Sort at a row of the call's own. -/
theorem sort_any (B : Nat) (a : Option Addr) (n cap : Nat) (p : Nat → Int) (w : World) (hn : n ≤ 4096) (h : OwnSl (Value.int .i32) w B a n p) : Sorts B a n cap w (srt (lst p n)) := by
  unfold Sorts
  by_cases hz : n = 0
  · subst hz
    refine (Try.Sort_int_nil a cap w).mono ?_
    rintro e w' ⟨rfl, rfl⟩
    exact ⟨rfl, .inl rfl, ⟨rfl, rfl, rfl, Nat.le_refl _, fun _ _ _ => rfl⟩⟩
  · obtain ⟨b, hab, hB, hO⟩ := h.resolve_left hz
    subst hab
    have hH := holds_of_own hO
    have hc := Try.slices_Sort_int b 0 cap (lst p n) w hH hO.lt (by rw [length_lst]; omega)
    rw [length_lst] at hc
    refine hc.mono ?_
    rintro e w' ⟨rfl, m, os, rfl⟩
    have hsz : (Sort.putRow (Value.int .i32) (Sort.ahead w m) b 0 (srt (lst p n)).toArray).heap.size = w.heap.size := by simp
    have hlen : (srt (lst p n)).length = n := by rw [length_srt, length_lst]
    refine ⟨rfl, .inr ⟨b, rfl, hB, ?_, ?_, ?_⟩, ?_⟩
    · show b < (Sort.grow (Sort.putRow (Value.int .i32) (Sort.ahead w m) b 0 (srt (lst p n)).toArray) os).heap.size
      have := hO.lt
      simp
      omega
    · intro i hi
      show (Sort.grow (Sort.putRow (Value.int .i32) (Sort.ahead w m) b 0 (srt (lst p n)).toArray) os).cell? ⟨b, i, none⟩ = _
      rw [Sort.cell?_grow _ _ _ (by rw [hsz]; exact hO.lt)]
      have := Sort.cell?_putRow (Value.int .i32) (Sort.ahead w m) b 0 (lst p n).toArray (srt (lst p n)).toArray (Sort.holds_ahead _ _ _ _ _ _ hH) (by simp [hlen, length_lst]) i (by simp; omega)
      rw [Nat.zero_add] at this
      rw [this]
      congr 2
      simp [List.getD]
    · intro i
      show (Sort.grow (Sort.putRow (Value.int .i32) (Sort.ahead w m) b 0 (srt (lst p n)).toArray) os).frozen? ⟨b, i, none⟩ = _
      rw [Sort.frozen?_grow _ _ _ (by rw [hsz]; exact hO.lt), Sort.frozen?_putRow]
      exact hO.froz i
    · refine ⟨rfl, rfl, rfl, by simp, fun k hk hne => ?_⟩
      show (Sort.grow (Sort.putRow (Value.int .i32) (Sort.ahead w m) b 0 (srt (lst p n)).toArray) os).heap[k]? = _
      rw [Sort.heap_grow_old _ _ (by simpa using hk)]
      have : b ≠ k := fun e => hne (by unfold rowOf; rw [if_neg hz, e]; rfl)
      simp [Sort.putRow, Sort.mapBlock, Sort.ahead, Array.getElem?_modify, this]

theorem tallyOf_any (B : Nat) (a : Option Addr) (n cap : Nat) (p : Nat → Int) (w : World) (hn : n ≤ 4096) (h : OwnSl (Value.int .i32) w B a n p) :
    Calls Try.prog 30 #[.slice a n cap] w fun e w' => ∃ v, e = .returned v ∧ OwnSl (Value.int .i32) w' B a n (fun i => (srt (lst p n)).getD i 0) ∧ w'.ownsRow w.heap.size 51 2 v (tal (srt (lst p n))).length (tcells (tal (srt (lst p n)))) ∧ w.grownBy w' (rowOf n a) :=
  tallyOf_core a n cap w B _ (by rw [length_srt, length_lst]) hn (srt_sorted _) (by
    rcases h with h | ⟨b, e, _, hO⟩
    · exact .inl h
    · exact .inr ⟨b, e, hO.lt⟩) (sort_any B a n cap p w hn h)

set_option maxHeartbeats 2000000 in
theorem split_any (base : Nat) (v : Value) (T : List (Int × Int)) (w : World) (hT : T.length ≤ 4096) (hown : w.ownsRow base 51 2 v T.length (tcells T)) :
    Calls Try.prog 29 #[v] w fun e w' => ∃ a1 a2 c1 c2, e = .returned (.tuple #[.slice a1 T.length c1, .slice a2 T.length c2]) ∧ OwnSl (Value.int .i32) w' w.heap.size a1 T.length (num T) ∧ OwnSl (Value.int .i32) w' w.heap.size a2 T.length (tim T) ∧ Below w.heap.size w w' := by
  obtain ⟨i0, hi, hz0, hz1, hz2⟩ := info_parts Try.info21
  obtain ⟨L, hL⟩ : ∃ L, L = T.length := ⟨_, rfl⟩
  have hsl : ∃ a c, v = .slice a L c ∧ (L = 0 ∨ ∃ g, a = some ⟨g, 0, none⟩ ∧ g < w.heap.size ∧ ∀ i, i < L → w.cell? ⟨g, i * 2, none⟩ = some (.int .i32 (num T i)) ∧ w.cell? ⟨g, i * 2 + 1, none⟩ = some (.int .i32 (tim T i))) := by
    rcases hown.2 with ⟨h, h2⟩ | ⟨g, cap', cur, h, hb, hg, _⟩
    · exact ⟨none, 0, by rw [h, hL, h2], .inl (by omega)⟩
    · refine ⟨_, _, by rw [h, hL], .inr ⟨g, rfl, (Array.getElem?_eq_some_iff.1 hg).1, fun i hi => ?_⟩⟩
      rw [h] at hown
      have := tcells_num T i (by omega)
      exact ⟨(hown.cellAt _ (by omega)).trans this.1, (hown.cellAt _ (by omega)).trans this.2⟩
  obtain ⟨a, c, rfl, hs⟩ := hsl
  rw [← hL] at hT ⊢
  clear hown hL
  go_enter Try.func29, Try.ntmps29
  go_wp2_with (at_make; refine wpList_make_full _ rfl _ _ 26 rfl w.heap.size 21 i0 (.int .i32 0) 1 Try.underlying26 hi hz0 hz1 _ _ _ _ L rfl rfl (by omega) (by omega) ?b2 ?b3 (Nat.le_refl _) ?_)
  case b2 => rw [hz2]; omega
  case b3 => unfold maxLen; omega
  intro w0 hown0 hgrow0
  have hb0 : Below w.heap.size w w0 := (Below.refl _ _).grown hgrow0 (Nat.le_refl _) (fun k h => by cases h)
  have hO0 : Own (Value.int .i32) w0 w.heap.size L (fun _ => 0) := own_made hown0
  have hlt0 := hO0.lt
  clear hown0 hgrow0
  go_wp2_with (at_make; refine wpList_make_full _ rfl _ _ 26 rfl w0.heap.size 21 i0 (.int .i32 0) 1 Try.underlying26 hi hz0 hz1 _ _ _ _ L rfl rfl (by omega) (by omega) ?b2 ?b3 (Nat.le_refl _) ?_)
  case b2 => rw [hz2]; omega
  case b3 => unfold maxLen; omega
  intro w1 hown1 hgrow1
  have hb01 : Below w0.heap.size w0 w1 := (Below.refl _ _).grown hgrow1 (Nat.le_refl _) (fun k h => by cases h)
  have hb1 : Below w.heap.size w w1 := hb0.trans (hb01.mono (by omega))
  have hO1 : Own (Value.int .i32) w1 w.heap.size L (fun _ => 0) := hO0.below hb01 hlt0
  have hQ1 : Own (Value.int .i32) w1 w0.heap.size L (fun _ => 0) := own_made hown1
  clear hown1 hgrow1 hO0 hb0 hb01
  go_wp2
  go_loopw [14] (fun t wr => ∃ k : Nat, k ≤ L ∧ t = .int .i64 k ∧ Own (Value.int .i32) wr w.heap.size L (fun i => if i < k then num T i else 0) ∧ Own (Value.int .i32) wr w0.heap.size L (fun i => if i < k then tim T i else 0) ∧ Below w.heap.size w wr)
    (fun t _ => L - (intOf t).toNat)
  case atStart => exact ⟨0, Nat.zero_le _, rfl, hO1.congr (fun i _ => by simp), hQ1.congr (fun i _ => by simp), hb1⟩
  case round =>
    obtain ⟨k, hk, rfl, ho, hq, hb⟩ := hrel
    clear hO1 hQ1 hb1
    by_cases hlt : k < L
    · obtain ⟨g, hag, hgl, hc⟩ := hs.resolve_left (by omega)
      subst hag
      obtain ⟨x, hx⟩ : ∃ x, x = num T k := ⟨_, rfl⟩
      obtain ⟨y, hy⟩ : ∃ y, y = tim T k := ⟨_, rfl⟩
      have g1 : wr.cell? ⟨g, k * 2, none⟩ = some (.int .i32 x) := by rw [hx]; exact (hb.cell (by exact hgl)).trans (hc k hlt).1
      have g2 : wr.cell? ⟨g, k * 2 + 1, none⟩ = some (.int .i32 y) := by rw [hy]; exact (hb.cell (by exact hgl)).trans (hc k hlt).2
      have HX : Hid (x = num T k) := hx
      have HY : Hid (y = tim T k) := hy
      have f1 := ho.froz k
      have f2 := hq.froz k
      have c1 := ho.cell k hlt
      have c2 := hq.cell k hlt
      have hwl : w0.heap.size < wr.heap.size := hq.lt
      have hwl1 : w.heap.size < wr.heap.size := ho.lt
      have hgl1 : g < wr.heap.size := by omega
      have R1 := own_kept ((own_more (p := num T) ho).other (b' := w0.heap.size) (i := k) (by omega) (Value.int .i32 y)) (World.grownBy_alloc _ (.cells #[.int .i32 x, .int .i32 y] 51) none) (by simp)
      have R2 := own_kept (own_more (p := tim T) (hq.other (b' := w.heap.size) (i := k) (by omega) (Value.int .i32 x))) (World.grownBy_alloc _ (.cells #[.int .i32 x, .int .i32 y] 51) none) (by simp)
      rw [← hx] at R1
      rw [← hy] at R2
      have R3 : Below w.heap.size w (((wr.setCell ⟨w.heap.size, k, none⟩ (.int .i32 x)).setCell ⟨w0.heap.size, k, none⟩ (.int .i32 y)).alloc (.cells #[.int .i32 x, .int .i32 y] 51)) :=
        ((hb.setCell (by exact Nat.le_refl _) _).setCell (by exact Nat.le_of_lt hlt0) _).alloc (by simp; omega) _
      clear hc hx hy ho hq
      go_wp2
      go_roundw
      case rel => exact ⟨k + 1, by omega, by go_num, R1, R2, R3⟩
      case measure => simp [intOf]; omega
    · go_wp2
      go_ret2
      exact ⟨_, _, _, _, rfl, .inr ⟨_, rfl, Nat.le_refl _, ho.congr fun i hi => by rw [if_pos (by omega)]⟩, .inr ⟨_, rfl, by omega, hq.congr fun i hi => by rw [if_pos (by omega)]⟩, hb⟩

theorem OwnSl.mono {α : Type} {c : α → Value} {w : World} {B B' : Nat} {a : Option Addr} {n : Nat} {g : Nat → α} (h : OwnSl c w B a n g) (hB : B' ≤ B) : OwnSl c w B' a n g := by
  rcases h with h | ⟨b, e, h1, ho⟩
  · exact .inl h
  · exact .inr ⟨b, e, Nat.le_trans hB h1, ho⟩

theorem rowOf_own {α : Type} {c : α → Value} {w : World} {B : Nat} {a : Option Addr} {n : Nat} {g : Nat → α} (h : OwnSl c w B a n g) : ∀ k, rowOf n a = some k → B ≤ k ∧ k < w.heap.size := by
  intro k hk
  unfold rowOf at hk
  split at hk
  · cases hk
  · rename_i hn
    obtain ⟨b, e, h1, ho⟩ := h.resolve_left hn
    rw [e] at hk
    simp at hk
    subst hk
    exact ⟨h1, ho.lt⟩

/-- A row of the call's own stays while a row that lies lower turns. -/
theorem keptLow {α : Type} {c : α → Value} {w w' : World} {B : Nat} {a : Option Addr} {n : Nat} {g : Nat → α} {row : Option Nat} (h : OwnSl c w B a n g) (hg : w.grownBy w' row) (hr : ∀ k, row = some k → k < B) : OwnSl c w' B a n g := by
  rcases h with h | ⟨b, e, h1, ho⟩
  · exact .inl h
  · exact .inr ⟨b, e, h1, own_kept ho hg fun e2 => by have := hr b e2.symm; omega⟩

/-- A row that lay below C stays while a row from C on turns. -/
theorem keptHigh {α : Type} {c : α → Value} {w w' : World} {B C : Nat} {a : Option Addr} {n : Nat} {g : Nat → α} {row : Option Nat} (h : OwnSl c w B a n g) (hg : w.grownBy w' row) (ha : ∀ k, rowOf n a = some k → k < C) (hr : ∀ k, row = some k → C ≤ k) : OwnSl c w' B a n g := by
  rcases h with h | ⟨b, e, h1, ho⟩
  · exact .inl h
  · by_cases hn : n = 0
    · exact .inl hn
    · refine .inr ⟨b, e, h1, own_kept ho hg fun e2 => ?_⟩
      have h2 := hr b e2.symm
      have h3 := ha b (by unfold rowOf; rw [if_neg hn, e]; rfl)
      omega

theorem below_of {w w1 w2 : World} {row : Option Nat} (h : Below w.heap.size w w1) (hg : w1.grownBy w2 row) (hr : ∀ k, row = some k → w.heap.size ≤ k) : Below w.heap.size w w2 := h.grown hg h.size hr

theorem below_draws (w : World) (m : Nat) : Below w.heap.size w (w.drewN m) := ⟨rfl, rfl, rfl, Nat.le_refl _, fun _ _ => rfl⟩

/-- ZZtallyOf: the slice is left sorted; the tally of what it held comes back as two new slices; nothing else has turned. -/
theorem zzTally_any (B : Nat) (a : Option Addr) (n cap : Nat) (p : Nat → Int) (w : World) (hn : n ≤ 4096) (h : OwnSl (Value.int .i32) w B a n p) :
    Calls Try.prog 16 #[.slice a n cap] w fun e w' => ∃ a1 a2 c1 c2, e = .returned (.tuple #[.slice a1 (tal (srt (lst p n))).length c1, .slice a2 (tal (srt (lst p n))).length c2]) ∧
      OwnSl (Value.int .i32) w' w.heap.size a1 (tal (srt (lst p n))).length (num (tal (srt (lst p n)))) ∧ OwnSl (Value.int .i32) w' w.heap.size a2 (tal (srt (lst p n))).length (tim (tal (srt (lst p n)))) ∧
      OwnSl (Value.int .i32) w' B a n (fun i => (srt (lst p n)).getD i 0) ∧ w.grownBy w' (rowOf n a) := by
  have hT : (tal (srt (lst p n))).length ≤ 4096 := by
    have := (tal_good_all (srt_sorted (lst p n))).le.1
    rw [length_srt, length_lst] at this; omega
  go_enter Try.func16, Try.ntmps16
  go_wp2_with fail
  refine (tallyOf_any B a n cap p w hn h).mono ?_
  rintro e w1 ⟨v, rfl, ho, hown, hg⟩
  go_wp2_with fail
  refine (split_any _ v _ w1 hT hown).mono ?_
  rintro e w2 ⟨a1, a2, c1, c2, rfl, h1, h2, hb⟩
  have ho2 := ho.below hb
  have hg2 : w.grownBy w2 (rowOf n a) := ⟨hb.os.trans hg.os, hb.tape.trans hg.tape, hb.output.trans hg.output, Nat.le_trans hg.size hb.size, fun k hk hne => (hb.block k (Nat.lt_of_lt_of_le hk hg.size)).trans (hg.block k hk hne)⟩
  have h1' := OwnSl.mono h1 hg.size
  have h2' := OwnSl.mono h2 hg.size
  clear h1 h2 hown ho hb hg
  go_wp2
  go_ret2
  exact ⟨_, _, _, _, rfl, h1', h2', ho2, hg2⟩
end Go.Proofs.Qxb6601447a
