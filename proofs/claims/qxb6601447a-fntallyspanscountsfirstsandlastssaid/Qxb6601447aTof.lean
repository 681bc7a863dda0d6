/-
  THE WALK OF tallyOf (30), behind the sort's contract as a hypothesis.
-/
import Derived.Test.Qxb6601447aTwa
import Derived.Laws.AppendOwn
namespace Go.Proofs.Qxb6601447a
open Go.RowKit
open Go.Proofs.Qxb6601447a.Cyc Go.Proofs.Qxb6601447a.Mem Go.Proofs.Qxb6601447a.Tal
set_option linter.unusedVariables false

theorem Try.info51 : (Try.prog.info? 51).map (fun i => (i.zero, i.size, i.bytes)) = some (some (.agg #[.int .i32 0, .int .i32 0]), 2, 8) := by kernel_rfl

/-- The cells of a tally: two for each entry. -/
def tcells (T : List (Int × Int)) : List Value := T.flatMap fun q => [.int .i32 q.1, .int .i32 q.2]
theorem tcells_append (T U : List (Int × Int)) : tcells (T ++ U) = tcells T ++ tcells U := by simp [tcells]
theorem length_tcells (T : List (Int × Int)) : (tcells T).length = T.length * 2 := by
  induction T with
  | nil => rfl
  | cons q T ih => rw [show q :: T = [q] ++ T from rfl, tcells_append, List.length_append, ih]; simp [tcells]; omega
theorem tcells_num (T : List (Int × Int)) (i : Nat) (h : i < T.length) : (tcells T)[i * 2]? = some (.int .i32 (num T i)) ∧ (tcells T)[i * 2 + 1]? = some (.int .i32 (tim T i)) := by
  induction T generalizing i with
  | nil => simp at h
  | cons q T ih =>
    have e : tcells (q :: T) = .int .i32 q.1 :: .int .i32 q.2 :: tcells T := rfl
    cases i with
    | zero => simp [e, num, tim]
    | succ i =>
      have := ih i (by simpa using h)
      rw [e, show (i + 1) * 2 = i * 2 + 1 + 1 by omega]
      simpa [num, tim] using this
/-- The last entry's times turned. -/
theorem tcells_set (T : List (Int × Int)) (y c d : Int) : (tcells (T ++ [(y, c)])).set (T.length * 2 + 1) (.int .i32 d) = tcells (T ++ [(y, d)]) := by
  rw [tcells_append, tcells_append]
  have e : T.length * 2 + 1 = (tcells T).length + 1 := by rw [length_tcells]
  rw [e, List.set_append_right _ _ (by omega)]
  simp [tcells]

theorem own_kept {α : Type} {c : α → Value} {w w' : World} {b n : Nat} {g : Nat → α} {row : Option Nat} (h : Own c w b n g) (hg : w.grownBy w' row) (hne : some b ≠ row) : Own c w' b n g := by
  have e := hg.block b h.lt hne
  exact ⟨Nat.lt_of_lt_of_le h.lt hg.size, fun i hi => by rw [World.cell?_of_block (w := w) (by exact e)]; exact h.cell i hi, fun i => by rw [World.frozen?_of_block (w := w) (by exact e)]; exact h.froz i⟩

theorem grownBy_then {w w1 w2 : World} {r q : Option Nat} (h : w.grownBy w1 r) (g : w1.grownBy w2 q) (hq : ∀ k, q = some k → w.heap.size ≤ k) : w.grownBy w2 r :=
  ⟨g.os.trans h.os, g.tape.trans h.tape, g.output.trans h.output, Nat.le_trans h.size g.size, fun k hk hne =>
    (g.block k (Nat.lt_of_lt_of_le hk h.size) (fun e => by have := hq k e.symm; omega)).trans (h.block k hk hne)⟩

/-- The one old block that may turn: the row of the slice, where it has elements. -/
def rowOf (n : Nat) (a : Option Addr) : Option Nat := if n = 0 then none else a.map Addr.block

/-- What the sort leaves, in a form of its own: 'S' stands in the row; nothing else has turned. -/
def Sorts (B : Nat) (a : Option Addr) (n cap : Nat) (w : World) (S : List Int) : Prop :=
  Calls Try.prog 33 #[.slice a n cap] w fun e w' => e = .returned (.tuple #[]) ∧ OwnSl (Value.int .i32) w' B a n (fun i => S.getD i 0) ∧ w.grownBy w' (rowOf n a)

set_option maxHeartbeats 2000000 in
theorem tallyOf_core (a : Option Addr) (n cap : Nat) (w : World) (B : Nat) (S : List Int) (hl : S.length = n) (hn : n ≤ 4096) (hS : S.Pairwise (· ≤ ·)) (h0 : n = 0 ∨ ∃ b, a = some ⟨b, 0, none⟩ ∧ b < w.heap.size) (hsort : Sorts B a n cap w S) :
    Calls Try.prog 30 #[.slice a n cap] w fun e w' => ∃ v, e = .returned v ∧ OwnSl (Value.int .i32) w' B a n (fun i => S.getD i 0) ∧ w'.ownsRow w.heap.size 51 2 v (tal S).length (tcells (tal S)) ∧ w.grownBy w' (rowOf n a) := by
  obtain ⟨i0, hi, hz0, hz1, hz2⟩ := info_parts Try.info51
  go_enter Try.func30, Try.ntmps30
  go_wp2_with fail
  refine hsort.mono ?_
  rintro e w1 ⟨rfl, ho1, hg1⟩
  clear hsort
  have hsz1 := hg1.size
  go_wp2
  go_loopw [3, 11] (fun v i wr => ∃ (k : Nat) (T : List (Int × Int)), k ≤ n ∧ i = .int .i64 k ∧ Hid (T = tal (S.take k)) ∧ wr.ownsRow w.heap.size 51 2 v T.length (tcells T) ∧ OwnSl (Value.int .i32) wr B a n (fun i => S.getD i 0) ∧ w.grownBy wr (rowOf n a))
    (fun _ i _ => n - (intOf i).toNat)
  case atStart => exact ⟨0, [], Nat.zero_le _, rfl, by simp [Hid, tal], World.ownsRow_nil _ _ _ _, ho1, hg1⟩
  case round =>
    obtain ⟨k, T, hk, rfl, hT, hown, ho, hg⟩ := hrel
    by_cases hlt : k < n
    · obtain ⟨b, hab, hbl⟩ := h0.resolve_left (by omega)
      subst hab
      obtain ⟨b', hab', hB, hO⟩ := ho.resolve_left (by omega)
      obtain rfl : b = b' := by injection hab' with h; injection h
      obtain ⟨x, hx⟩ : ∃ x, x = S.getD k 0 := ⟨_, rfl⟩
      have g1 : wr.cell? ⟨b, k, none⟩ = some (.int .i32 x) := by rw [hx]; exact hO.cell k hlt
      have hT' : Hid (tal (S.take (k + 1)) = push T x) := by
        show _ = _
        rw [List.take_succ_eq_append_getElem (by omega), tal_snoc, hT.out, hx]
        congr 1
        simp [List.getD, List.getElem?_eq_getElem (show k < S.length by omega)]
      have HX : Hid (x = S.getD k 0) := hx
      clear hx
      have hgd := hT.out ▸ tal_good hS k
      have hle := hgd.le
      have hkl : (S.take k).length ≤ k := List.length_take_le _ _
      have hTk : T.length ≤ k := Nat.le_trans hle.1 hkl
      have hne : some b ≠ u3.ownBlock := fun e => by have := (hown.lt b e.symm).1; omega
      have hvb : ∀ q, u3.ownBlock = some q → w.heap.size ≤ q := fun q e => (hown.lt q e).1
      have hO2 := fun o => own_kept hO (World.grownBy_alloc wr o none) (by simp)
      have hg2 := fun o => grownBy_then hg (World.grownBy_alloc wr o none) (fun q e => by cases e)
      have hsz := hg.size
      rcases List.eq_nil_or_concat T with e | ⟨T0, ⟨y, c⟩, e⟩
      · subst e
        have HP : Hid (push [] x = [(x, 1)]) := rfl
        have hv : (u3 = .slice none 0 0) ∨ ∃ g c', u3 = .slice (some ⟨g, 0, none⟩) 0 c' := by
          rcases hown.2 with ⟨h, _⟩ | ⟨g, cap', cur, h, _⟩
          · exact .inl h
          · exact .inr ⟨g, cap', h⟩
        clear hgd hle
        rcases hv with rfl | ⟨g, c', rfl⟩
        all_goals
          go_wp2_with (at_builtin; refine wpList_append_own _ rfl _ _ 40 rfl w.heap.size 51 i0 (.agg #[.int .i32 0, .int .i32 0]) 2 8 Try.underlying40 hi hz0 hz1 hz2 rfl (by decide) _ _ _ rfl (hown.alloc _) ⟨wr.heap.size, 0, none⟩ 1 1 [.int .i32 x, .int .i32 1] rfl rfl ?_ ?_ ?_ ?_ ?_ ?_)
          · exact ⟨rfl, rfl⟩
          · unfold maxLen; omega
          · omega
          · intro v' w2 hown' hgrow' _
            have R1 : Hid ([(x, 1)] = tal (S.take (k + 1))) := by show _ = _; rw [hT'.out]; rfl
            have R2 : w2.ownsRow w.heap.size 51 2 v' [(x, (1 : Int))].length (tcells [(x, 1)]) := hown'
            have R3 : OwnSl (Value.int .i32) w2 B (some ⟨b, 0, none⟩) n (fun i => S.getD i 0) := .inr ⟨b, rfl, hB, own_kept (hO2 _) hgrow' hne⟩
            have R4 : w.grownBy w2 (rowOf n (some ⟨b, 0, none⟩)) := grownBy_then (hg2 _) hgrow' hvb
            clear hown' hgrow' hown ho hO hO2 hg2 hg hT hT' g1
            go_wp2
            go_roundw
            case rel => exact ⟨k + 1, [(x, 1)], by omega, by go_num, R1, R2, R3, R4⟩
            case measure => simp [intOf]; omega
      · rw [List.concat_eq_append] at e
        subst e
        have hc1 := hgd.pos (y, c) (by simp)
        have hc2 := hle.2 (y, c) (by simp)
        simp only at hc1 hc2
        obtain ⟨L, hL⟩ : ∃ L, L = T0.length := ⟨_, rfl⟩
        have hTl : (T0 ++ [(y, c)]).length = L + 1 := by simp [hL]
        have hnum := tcells_num (T0 ++ [(y, c)]) L (by omega)
        have en : num (T0 ++ [(y, c)]) L = y := by simp [num, hL]
        have et : tim (T0 ++ [(y, c)]) L = c := by simp [tim, hL]
        rw [en, et] at hnum
        rw [hTl] at hown hTk
        obtain ⟨g, cap', hv⟩ : ∃ g cap', u3 = .slice (some ⟨g, 0, none⟩) (L + 1) cap' := by
          rcases hown.2 with ⟨_, h⟩ | ⟨g, cap', cur, h, _⟩
          · omega
          · exact ⟨g, cap', h⟩
        subst hv
        have gy : wr.cell? ⟨g, L * 2, none⟩ = some (.int .i32 y) := (hown.cellAt _ (by omega)).trans hnum.1
        have gc : wr.cell? ⟨g, L * 2 + 1, none⟩ = some (.int .i32 c) := (hown.cellAt _ (by omega)).trans hnum.2
        have fc := hown.frozenAt (L * 2 + 1)
        have hbg : w.heap.size ≤ g := hvb g rfl
        have hck : c ≤ 4096 := by omega
        clear hgd hle hnum en et hc2
        by_cases hyx : y = x
        · subst hyx
          have R1 : Hid (T0 ++ [(y, c + 1)] = tal (S.take (k + 1))) := by show _ = _; rw [hT'.out, push_same]
          have hst := hown.stored (L * 2 + 1) (.int .i32 (c + 1))
          rw [hL, tcells_set, ← hL] at hst
          have R2 : (wr.setCell ⟨g, L * 2 + 1, none⟩ (.int .i32 (c + 1))).ownsRow w.heap.size 51 2 (.slice (some ⟨g, 0, none⟩) (L + 1) cap') (T0 ++ [(y, c + 1)]).length (tcells (T0 ++ [(y, c + 1)])) := by
            have e : (T0 ++ [(y, c + 1)]).length = L + 1 := by simp [hL]
            rw [e]; exact hst.1
          have R3 : OwnSl (Value.int .i32) (wr.setCell ⟨g, L * 2 + 1, none⟩ (.int .i32 (c + 1))) B (some ⟨b, 0, none⟩) n (fun i => S.getD i 0) := .inr ⟨b, rfl, hB, hO.other (by omega) _⟩
          have R4 : w.grownBy (wr.setCell ⟨g, L * 2 + 1, none⟩ (.int .i32 (c + 1))) (rowOf n (some ⟨b, 0, none⟩)) := grownBy_then hg hst.2 hvb
          clear hown hst ho hO hO2 hg2 hg hT hT' hL hTl
          go_wp2
          go_roundw
          case rel => exact ⟨k + 1, T0 ++ [(y, c + 1)], by omega, by go_num, R1, R2, R3, R4⟩
          case measure => simp [intOf]; omega
        · have hyx' : (y == x) = false := by simpa using hyx
          have R1 : Hid (T0 ++ [(y, c)] ++ [(x, 1)] = tal (S.take (k + 1))) := by show _ = _; rw [hT'.out, push_other _ _ _ _ hyx]
          have HL : Hid (L = T0.length) := hL
          clear hyx hL hTl hT hT'
          go_wp2_with (at_builtin; refine wpList_append_own _ rfl _ _ 40 rfl w.heap.size 51 i0 (.agg #[.int .i32 0, .int .i32 0]) 2 8 Try.underlying40 hi hz0 hz1 hz2 rfl (by decide) _ _ _ rfl (hown.alloc _) ⟨wr.heap.size, 0, none⟩ 1 1 [.int .i32 x, .int .i32 1] rfl rfl ?_ ?_ ?_ ?_ ?_ ?_)
          · exact ⟨rfl, rfl⟩
          · unfold maxLen; omega
          · omega
          · omega
          · intro v' w2 hown' hgrow' _
            have R2 : w2.ownsRow w.heap.size 51 2 v' (T0 ++ [(y, c)] ++ [(x, (1 : Int))]).length (tcells (T0 ++ [(y, c)] ++ [(x, 1)])) := by
              have e : (T0 ++ [(y, c)] ++ [(x, (1 : Int))]).length = L + 1 + 1 := by have := HL.out; simp; omega
              rw [e, tcells_append]; exact hown'
            have R3 : OwnSl (Value.int .i32) w2 B (some ⟨b, 0, none⟩) n (fun i => S.getD i 0) := .inr ⟨b, rfl, hB, own_kept (hO2 _) hgrow' hne⟩
            have R4 : w.grownBy w2 (rowOf n (some ⟨b, 0, none⟩)) := grownBy_then (hg2 _) hgrow' hvb
            clear hown' hgrow' hown ho hO hO2 hg2 hg g1 gy gc
            go_wp2
            go_roundw
            case rel => exact ⟨k + 1, T0 ++ [(y, c)] ++ [(x, 1)], by omega, by go_num, R1, R2, R3, R4⟩
            case measure => simp [intOf]; omega
    · have hT2 : T = tal S := by rw [hT.out, List.take_of_length_le (by omega)]
      subst hT2
      go_wp2
      go_ret
      exact ⟨_, rfl, ho, hown, hg⟩
end Go.Proofs.Qxb6601447a
