/-
  WALKS: zzCloneStrs (15), zzCloneRes (7), zzToAccess (9).
-/
import Derived.Test.Qxb6601693aWc
import Derived.Deep.RegionHeld3
namespace Go.Proofs.Qxb6601693a
open Go.RowKit
open Go.Proofs.Qxb6601693a.Mem
set_option linter.unusedVariables false

theorem Try.info9 : (Try.prog.info? 9).map (fun i => (i.zero, i.size, i.bytes)) = some (some (.string ⟨#[]⟩), 1, 16) := by kernel_rfl
theorem Try.info33 : (Try.prog.info? 33).map (fun i => (i.zero, i.size, i.bytes)) = some (some (.agg #[.string ⟨#[]⟩, .string ⟨#[]⟩, .string ⟨#[]⟩, .slice none 0 0]), 4, 72) := by kernel_rfl
theorem Try.info31 : (Try.prog.info? 31).map (fun i => (i.zero, i.size, i.bytes)) = some (some (.agg #[.string ⟨#[]⟩, .string ⟨#[]⟩, .string ⟨#[]⟩, .slice none 0 0]), 4, 72) := by kernel_rfl

/-- A slice of n strings, nil or in memory from block B on. -/
def RetStrs (w' : World) (B n : Nat) (s : Nat → ByteArray) (e : Ending) : Prop := ∃ a' c', e = .returned (.slice a' n c') ∧ (a' = none → n = 0 ∧ c' = 0) ∧ (∀ x, a' = some x → B ≤ x.block) ∧ Sl Value.string w' a' n s

set_option maxHeartbeats 1000000 in
theorem cloneStrs_any (a : Option Addr) (n cap : Nat) (p : Nat → ByteArray) (w : World) (hn : n ≤ 65536) (hnil0 : a = none → n = 0 ∧ cap = 0) (hs : Sl Value.string w a n p) :
    Calls Try.prog 15 #[.slice a n cap] w fun e w' => RetStrs w' w.heap.size n p e ∧ Below w.heap.size w w' := by
  obtain ⟨i0, hi, hz0, hz1, hz2⟩ := info_parts Try.info9
  have hnil := fun wx ad l c => Lib.run_eql_slice_nil (P := Try.prog) wx 29 9 ad l c 0 0 Try.underlying29
  rcases a with _ | ad
  · obtain ⟨rfl, rfl⟩ := hnil0 rfl
    go_enter Try.func15, Try.ntmps15
    go_wp2
    go_ret
    exact ⟨⟨_, _, rfl, fun _ => ⟨rfl, rfl⟩, fun x h => by (cases h), .inl rfl⟩, Below.refl _ _⟩
  go_enter Try.func15, Try.ntmps15
  go_wp2_with (at_make; refine wpList_make_full _ rfl _ _ 29 rfl w.heap.size 9 i0 (.string ⟨#[]⟩) 1 Try.underlying29 hi hz0 hz1 _ _ _ _ n rfl rfl (by omega) (by omega) ?b2 ?b3 (Nat.le_refl _) ?_)
  case b2 => rw [hz2]; omega
  case b3 => unfold maxLen; omega
  intro w0 hown0 hgrow0
  have hb0 : Below w.heap.size w w0 := (Below.refl _ _).grown hgrow0 (Nat.le_refl _) (fun k h => by cases h)
  have hO : Own Value.string w0 w.heap.size n (fun _ => ⟨#[]⟩) := own_made hown0
  clear hown0 hgrow0 hnil
  go_wp2
  go_loopw [4] (fun t wr => ∃ k : Nat, k ≤ n ∧ t = .int .i64 k ∧ Own Value.string wr w.heap.size n (fun i => if i < k then p i else ⟨#[]⟩) ∧ Below w.heap.size w wr)
    (fun t _ => n - (intOf t).toNat)
  case atStart => exact ⟨0, Nat.zero_le _, rfl, hO.congr (fun i _ => by simp), hb0⟩
  case round =>
    obtain ⟨k, hk, rfl, ho, hb⟩ := hrel
    by_cases hlt : k < n
    · obtain ⟨b, off, hab, hbl, hc⟩ := hs.resolve_left (by omega)
      obtain rfl := Option.some.inj hab
      have g1 : wr.cell? ⟨b, off + k, none⟩ = some (.string (p k)) := (hb.cell (by exact hbl)).trans (hc k hlt)
      have g2 := ho.cell k hlt
      have g3 := ho.froz k
      have R := own_more ho
      clear hc hO hb0
      go_wp2
      go_roundw
      case rel => exact ⟨k + 1, by omega, by go_num, R, hb.setCell (Nat.le_refl _) _⟩
      case measure => simp [intOf]; omega
    · have e : k = n := by omega
      go_wp2
      go_ret
      exact ⟨⟨_, _, rfl, fun h => by (cases h), fun x h => by (cases h; exact Nat.le_refl _), .inr ⟨_, 0, rfl, ho.lt, fun i hi => by rw [Nat.zero_add, ho.cell i hi, if_pos (by omega)]⟩⟩, hb⟩

/-- A row of n records of the call's own at block b, of which the first k hold R. -/
structure Row4 (w : World) (b n k : Nat) (R : Nat → Re) : Prop where
  lt : b < w.heap.size
  froz : ∀ i, w.frozen? ⟨b, i, none⟩ = false
  some : ∀ i, i < n * 4 → ∃ v, w.cell? ⟨b, i, none⟩ = some v
  held : ∀ i, i < k → ReAt w b (i * 4) (R i)

abbrev put4 (w : World) (b o : Nat) (v0 v1 v2 v3 : Value) : World :=
  (((w.setCell ⟨b, o, none⟩ v0).setCell ⟨b, o + 1, none⟩ v1).setCell ⟨b, o + 2, none⟩ v2).setCell ⟨b, o + 3, none⟩ v3

theorem cell_put (w : World) (b o b' i : Nat) (v : Value) (h : ¬ (b' = b ∧ i = o)) : (w.setCell ⟨b, o, none⟩ v).cell? ⟨b', i, none⟩ = w.cell? ⟨b', i, none⟩ :=
  World.cell?_setCell_other _ _ _ _ (by intro e; injection e with e1 e2 _; exact h ⟨e1.symm, e2.symm⟩)

theorem cell_put_same (w : World) (b o : Nat) (v : Value) (h : ∃ u, w.cell? ⟨b, o, none⟩ = some u) : (w.setCell ⟨b, o, none⟩ v).cell? ⟨b, o, none⟩ = some v := by
  obtain ⟨u, hu⟩ := h
  exact World.cell?_setCell_same _ _ _ hu

theorem below_put4 {B b o : Nat} {w w' : World} (hb : B ≤ b) (h : Below B w w') (v0 v1 v2 v3 : Value) : Below B w (put4 w' b o v0 v1 v2 v3) :=
  (((h.setCell hb _).setCell hb _).setCell hb _).setCell hb _

theorem Row4.put {w : World} {b n k : Nat} {R : Nat → Re} (h : Row4 w b n k R) (hk : k < n) (r : Re) : Row4 (put4 w b (k * 4) (.string r.ty) (.string r.cl) (.string r.nm) (.slice r.sl r.len r.cap)) b n (k + 1) (upd R k r) := by
  have e0 := h.some (k * 4) (by omega)
  have e1 := h.some (k * 4 + 1) (by omega)
  have e2 := h.some (k * 4 + 2) (by omega)
  have e3 := h.some (k * 4 + 3) (by omega)
  have key : ∀ i, ¬ (k * 4 ≤ i ∧ i ≤ k * 4 + 3) → (put4 w b (k * 4) (.string r.ty) (.string r.cl) (.string r.nm) (.slice r.sl r.len r.cap)).cell? ⟨b, i, none⟩ = w.cell? ⟨b, i, none⟩ := fun i hi => by
    unfold put4
    rw [cell_put _ _ _ _ _ _ (by omega), cell_put _ _ _ _ _ _ (by omega), cell_put _ _ _ _ _ _ (by omega), cell_put _ _ _ _ _ _ (by omega)]
  have c0 : (put4 w b (k * 4) (.string r.ty) (.string r.cl) (.string r.nm) (.slice r.sl r.len r.cap)).cell? ⟨b, k * 4, none⟩ = Option.some (.string r.ty) := by
    unfold put4
    rw [cell_put _ _ _ _ _ _ (by omega), cell_put _ _ _ _ _ _ (by omega), cell_put _ _ _ _ _ _ (by omega), cell_put_same _ _ _ _ e0]
  have c1 : (put4 w b (k * 4) (.string r.ty) (.string r.cl) (.string r.nm) (.slice r.sl r.len r.cap)).cell? ⟨b, k * 4 + 1, none⟩ = Option.some (.string r.cl) := by
    unfold put4
    rw [cell_put _ _ _ _ _ _ (by omega), cell_put _ _ _ _ _ _ (by omega), cell_put_same]
    rw [cell_put _ _ _ _ _ _ (by omega)]; exact e1
  have c2 : (put4 w b (k * 4) (.string r.ty) (.string r.cl) (.string r.nm) (.slice r.sl r.len r.cap)).cell? ⟨b, k * 4 + 2, none⟩ = Option.some (.string r.nm) := by
    unfold put4
    rw [cell_put _ _ _ _ _ _ (by omega), cell_put_same]
    rw [cell_put _ _ _ _ _ _ (by omega), cell_put _ _ _ _ _ _ (by omega)]; exact e2
  have c3 : (put4 w b (k * 4) (.string r.ty) (.string r.cl) (.string r.nm) (.slice r.sl r.len r.cap)).cell? ⟨b, k * 4 + 3, none⟩ = Option.some (.slice r.sl r.len r.cap) := by
    unfold put4
    rw [cell_put_same]
    rw [cell_put _ _ _ _ _ _ (by omega), cell_put _ _ _ _ _ _ (by omega), cell_put _ _ _ _ _ _ (by omega)]; exact e3
  refine ⟨by simpa [put4] using h.lt, fun i => by simpa only [put4, World.frozen?_setCell] using h.froz i, fun i hi => ?_, fun i hi => ?_⟩
  · by_cases e : k * 4 ≤ i ∧ i ≤ k * 4 + 3
    · obtain rfl | rfl | rfl | rfl : i = k * 4 ∨ i = k * 4 + 1 ∨ i = k * 4 + 2 ∨ i = k * 4 + 3 := by omega
      · exact ⟨_, c0⟩
      · exact ⟨_, c1⟩
      · exact ⟨_, c2⟩
      · exact ⟨_, c3⟩
    · rw [key i e]; exact h.some i hi
  · by_cases e : i = k
    · subst e; rw [upd_same]; exact ⟨c0, c1, c2, c3⟩
    · rw [upd_ne _ _ _ _ e]
      have q := h.held i (by omega)
      exact ⟨by rw [key _ (by omega)]; exact q.c0, by rw [key _ (by omega)]; exact q.c1, by rw [key _ (by omega)]; exact q.c2, by rw [key _ (by omega)]; exact q.c3⟩

theorem Row4.below {w w' : World} {b n k : Nat} {R : Nat → Re} (h : Row4 w b n k R) {B : Nat} (hb : Below B w w') (hB : b < B) : Row4 w' b n k R :=
  ⟨Nat.lt_of_lt_of_le h.lt hb.size, fun j => by rw [hb.frozen (by exact hB)]; exact h.froz j, fun j hj => by rw [hb.cell (by exact hB)]; exact h.some j hj, fun j hj => (h.held j hj).below hb hB⟩

theorem row4_made {w : World} {base e g n : Nat} {z : Array Value} {R : Nat → Re}
    (h : w.ownsRow base e 4 (.slice (some ⟨g, 0, none⟩) n n) n (madeCells z (n * 4)).toList) : Row4 w g n 0 R := by
  refine ⟨?_, fun i => h.frozenAt i, fun i hi => ?_, fun i hi => by omega⟩
  · rcases h.2 with ⟨h, _⟩ | ⟨g, cap', cur, h, _, hg, _⟩
    · cases h
    · simp only [Value.slice.injEq, Option.some.injEq, Addr.mk.injEq, and_true, true_and] at h
      obtain ⟨rfl, rfl⟩ := h
      exact (Array.getElem?_eq_some_iff.1 hg).1
  · refine ⟨(madeCells z (n * 4)).toList[i]'(by simp [madeCells]; omega), ?_⟩
    rw [h.cellAt i hi, List.getElem?_eq_getElem]

theorem Sl.away {α : Type} {c : α → Value} {w : World} {a : Option Addr} {n : Nat} {g : Nat → α} (h : Sl c w a n g) {B : Nat} (hB : ∀ x, a = some x → x.block ≠ B) (o : Nat) (v0 v1 v2 v3 : Value) : Sl c (put4 w B o v0 v1 v2 v3) a n g := by
  rcases h with h | ⟨b, off, e, hl, hc⟩
  · exact .inl h
  · have : b ≠ B := hB _ e
    exact .inr ⟨b, off, e, by simpa [put4] using hl, fun i hi => by
      unfold put4
      rw [cell_put _ _ _ _ _ _ (by omega), cell_put _ _ _ _ _ _ (by omega), cell_put _ _ _ _ _ _ (by omega), cell_put _ _ _ _ _ _ (by omega)]; exact hc i hi⟩

/-- A slice of n records of which nothing is known but that it can be read, each with up to 65536 strings. -/
def RetRes (w' : World) (n : Nat) (e : Ending) : Prop := ∃ a' c' R', e = .returned (.slice a' n c') ∧ (a' = none → n = 0 ∧ c' = 0) ∧ Rs w' a' n R' ∧ ∀ i, i < n → (R' i).len ≤ 65536

set_option maxRecDepth 100000 in
set_option maxHeartbeats 4000000 in
theorem cloneRes_any (a : Option Addr) (n cap : Nat) (R : Nat → Re) (w : World) (hn : n ≤ 4096) (hlen : ∀ i, i < n → (R i).len ≤ 65536) (hnil0 : a = none → n = 0 ∧ cap = 0) (hs : Rs w a n R) :
    Calls Try.prog 7 #[.slice a n cap] w fun e w' => RetRes w' n e ∧ Below w.heap.size w w' := by
  obtain ⟨i0, hi, hz0, hz1, hz2⟩ := info_parts Try.info33
  have hnil := fun wx ad l c => Lib.run_eql_slice_nil (P := Try.prog) wx 22 33 ad l c 0 0 Try.underlying22
  rcases a with _ | ad
  · obtain ⟨rfl, rfl⟩ := hnil0 rfl
    go_enter Try.func7, Try.ntmps7
    go_wp2
    go_ret
    exact ⟨⟨_, _, R, rfl, fun _ => ⟨rfl, rfl⟩, .inl rfl, fun i hi => by omega⟩, Below.refl _ _⟩
  go_enter Try.func7, Try.ntmps7
  go_wp2_with (at_make; refine wpList_make_full _ rfl _ _ 22 rfl w.heap.size 33 i0 (.agg #[.string ⟨#[]⟩, .string ⟨#[]⟩, .string ⟨#[]⟩, .slice none 0 0]) 4 Try.underlying22 hi hz0 hz1 _ _ _ _ n rfl rfl (by omega) (by omega) ?b2 ?b3 (Nat.le_refl _) ?_)
  case b2 => rw [hz2]; omega
  case b3 => unfold maxLen; omega
  intro w0 hown0 hgrow0
  have hb0 : Below w.heap.size w w0 := (Below.refl _ _).grown hgrow0 (Nat.le_refl _) (fun k h => by cases h)
  have hO : Row4 w0 w.heap.size n 0 R := row4_made hown0
  clear hown0 hgrow0 hnil
  go_wp2
  go_loopw [4] (fun t wr => ∃ (k : Nat) (R' : Nat → Re), k ≤ n ∧ t = .int .i64 k ∧ Row4 wr w.heap.size n k R' ∧ (∀ i, i < k → ReOk wr (R' i) ∧ (R' i).len ≤ 65536 ∧ ∀ x, (R' i).sl = some x → x.block ≠ w.heap.size) ∧ Below w.heap.size w wr)
    (fun t _ => n - (intOf t).toNat)
  case atStart => exact ⟨0, R, Nat.zero_le _, rfl, hO, fun i hi => by omega, hb0⟩
  case round =>
    obtain ⟨k, R', hk, rfl, ho, hall, hb⟩ := hrel
    by_cases hlt : k < n
    · obtain ⟨b, off, hab, hbl, hc⟩ := (hs.below hb).resolve_left (by omega)
      obtain rfl := Option.some.inj hab
      obtain ⟨hat, hok⟩ := hc k hlt
      have g0 := hat.c0
      have g1 := hat.c1
      have g2 := hat.c2
      have g3 := hat.c3
      have hkl := hlen k hlt
      clear hc hO hb0 hs hat hlen
      have hP := ho.put hlt
      generalize hr : R k = r at *
      obtain ⟨ty, cl, nm, sl, len, cp, str⟩ := r
      dsimp only at *
      have hbx : Below wr.heap.size wr (wr.alloc (Obj.cells #[Value.string ty, Value.string cl, Value.string nm, Value.slice sl len cp] 33)) := (Below.refl _ _).alloc (Nat.le_refl _) _
      have x0 : (wr.alloc (Obj.cells #[Value.string ty, Value.string cl, Value.string nm, Value.slice sl len cp] 33)).cell? ⟨wr.heap.size, 0, none⟩ = some (.string ty) := by simp
      have x1 : (wr.alloc (Obj.cells #[Value.string ty, Value.string cl, Value.string nm, Value.slice sl len cp] 33)).cell? ⟨wr.heap.size, 1, none⟩ = some (.string cl) := by simp
      have x2 : (wr.alloc (Obj.cells #[Value.string ty, Value.string cl, Value.string nm, Value.slice sl len cp] 33)).cell? ⟨wr.heap.size, 2, none⟩ = some (.string nm) := by simp
      have x3 : (wr.alloc (Obj.cells #[Value.string ty, Value.string cl, Value.string nm, Value.slice sl len cp] 33)).cell? ⟨wr.heap.size, 3, none⟩ = some (.slice sl len cp) := by simp
      have xs : wr.heap.size < (wr.alloc (Obj.cells #[Value.string ty, Value.string cl, Value.string nm, Value.slice sl len cp] 33)).heap.size := by simp
      have hne : w.heap.size ≠ wr.heap.size := by have := ho.lt; omega
      have hne' : wr.heap.size ≠ w.heap.size := fun h => hne h.symm
      go_upto_region 8 with fail
      generalize wr.alloc (Obj.cells #[Value.string ty, Value.string cl, Value.string nm, Value.slice sl len cp] 33) = wb at *
      have hob := ho.below hbx ho.lt
      have HC : Hid (Calls Try.prog 15 #[.slice sl len cp] wb.drew fun e w' => ∃ a' c', e = .returned (.slice a' len c') ∧ Hid (ReOk w' ⟨ty, cl, nm, a', len, c', str⟩) ∧ Hid (∀ x, a' = some x → wb.heap.size ≤ x.block) ∧ Hid (Below wb.heap.size wb w') ∧
          w'.cell? ⟨wr.heap.size, 0, none⟩ = some (.string ty) ∧ w'.cell? ⟨wr.heap.size, 1, none⟩ = some (.string cl) ∧ w'.cell? ⟨wr.heap.size, 2, none⟩ = some (.string nm) ∧ w'.cell? ⟨wr.heap.size, 3, none⟩ = some (.slice sl len cp) ∧
          (∃ v0 v1 v2 v3, w'.cell? ⟨w.heap.size, k * 4, none⟩ = some v0 ∧ w'.cell? ⟨w.heap.size, k * 4 + 1, none⟩ = some v1 ∧ w'.cell? ⟨w.heap.size, k * 4 + 2, none⟩ = some v2 ∧ w'.cell? ⟨w.heap.size, k * 4 + 3, none⟩ = some v3) ∧ (∀ i, w'.frozen? ⟨w.heap.size, i, none⟩ = false)) := by
        refine hide ?_
        have hok2 := hok.below (hbx.drew)
        refine (cloneStrs_any sl len cp str wb.drew hkl hok.nil hok2.str).mono ?_
        rintro e w' ⟨⟨a', c', rfl, q1, q2, q3⟩, hB⟩
        have hB' : Below wb.heap.size wb w' := (Below.refl _ wb).drew.trans hB
        have hO' := hob.below hB' hob.lt
        obtain ⟨v0, h0⟩ := hO'.some (k * 4) (by omega)
        obtain ⟨v1, h1⟩ := hO'.some (k * 4 + 1) (by omega)
        obtain ⟨v2, h2⟩ := hO'.some (k * 4 + 2) (by omega)
        obtain ⟨v3, h3⟩ := hO'.some (k * 4 + 3) (by omega)
        exact ⟨a', c', rfl, ⟨hok.ty, hok.cl, hok.nm, hok.len, q1, q3, hok.each⟩, q2, hB', (hB'.cell (by exact xs)).trans x0, (hB'.cell (by exact xs)).trans x1, (hB'.cell (by exact xs)).trans x2, (hB'.cell (by exact xs)).trans x3, ⟨v0, v1, v2, v3, h0, h1, h2, h3⟩, hO'.froz⟩
      go_region_held3 (fun w' => w'.cell? ⟨wr.heap.size, 0, none⟩ = some (.string ty) ∧ w'.cell? ⟨wr.heap.size, 1, none⟩ = some (.string cl) ∧ w'.cell? ⟨wr.heap.size, 2, none⟩ = some (.string nm) ∧ w'.cell? ⟨wr.heap.size, 3, none⟩ = some (.slice sl len cp)) (go_keep)
        ((go_at_call 15; refine HC.out.mono ?_; rintro e w' ⟨a', c', rfl, p1, p2, p3, y0, y1, y2, y3, ⟨v0, v1, v2, v3, h0, h1, h2, h3⟩, hf⟩))
      clear h0 h1 h2 h3 y0 y1 y2 y3 hf x0 x1 x2 x3 g0 g1 g2 g3
      have hwr : w.heap.size < wb.heap.size := by have := ho.lt; omega
      have hO' := (hob.below p3.out hob.lt).put hlt ⟨ty, cl, nm, a', len, c', str⟩
      have hall' : Hid (∀ i, i < k + 1 → ReOk (put4 w' w.heap.size (k * 4) (.string ty) (.string cl) (.string nm) (.slice a' len c')) (upd R' k ⟨ty, cl, nm, a', len, c', str⟩ i) ∧ (upd R' k ⟨ty, cl, nm, a', len, c', str⟩ i).len ≤ 65536 ∧ ∀ x, (upd R' k ⟨ty, cl, nm, a', len, c', str⟩ i).sl = some x → x.block ≠ w.heap.size) := by
        refine hide ?_
        intro i hi
        by_cases e : i = k
        · subst e
          rw [upd_same]
          have q := p1.out
          have far : ∀ x, a' = some x → x.block ≠ w.heap.size := fun x hx => by have := p2.out x hx; omega
          exact ⟨⟨q.ty, q.cl, q.nm, q.len, q.nil, Sl.away q.str far _ _ _ _ _, q.each⟩, hkl, far⟩
        · rw [upd_ne _ _ _ _ e]
          obtain ⟨q, q1, q2⟩ := hall i (by omega)
          have q' := (q.below hbx).below p3.out
          exact ⟨⟨q'.ty, q'.cl, q'.nm, q'.len, q'.nil, Sl.away q'.str q2 _ _ _ _ _, q'.each⟩, q1, q2⟩
      have hbw : Below w.heap.size w (put4 w' w.heap.size (k * 4) (.string ty) (.string cl) (.string nm) (.slice a' len c')) := below_put4 (Nat.le_refl _) (((hb.trans (hbx.mono hb.size))).trans (p3.out.mono (by omega))) _ _ _ _
      clear hall hP hob HC hok
      go_wp2
      go_roundw
      case rel => exact ⟨k + 1, _, by omega, by go_num, hO', hall'.out, hbw⟩
      case measure => simp [intOf]; omega
    · have e : k = n := by omega
      subst e
      go_wp2
      go_ret
      exact ⟨⟨_, _, R', rfl, fun h => by (cases h), .inr ⟨_, 0, rfl, ho.lt, fun i hi => ⟨by rw [Nat.zero_add]; exact ho.held i hi, (hall i hi).1⟩⟩, fun i hi => (hall i hi).2.1⟩, hb⟩

def RetAcc (w' : World) (n : Nat) (R : Nat → Re) (e : Ending) : Prop := ∃ a' c', e = .returned (.slice a' n c') ∧ (a' = none → n = 0 ∧ c' = 0) ∧ Rs w' a' n R

set_option maxHeartbeats 4000000 in
theorem toAccess_any (a : Option Addr) (n cap : Nat) (R : Nat → Re) (w : World) (hn : n ≤ 4096) (hnil0 : a = none → n = 0 ∧ cap = 0) (hs : Rs w a n R) :
    Calls Try.prog 9 #[.slice a n cap] w fun e w' => RetAcc w' n R e ∧ Below w.heap.size w w' := by
  obtain ⟨i0, hi, hz0, hz1, hz2⟩ := info_parts Try.info31
  have hnil := fun wx ad l c => Lib.run_eql_slice_nil (P := Try.prog) wx 22 33 ad l c 0 0 Try.underlying22
  rcases a with _ | ad
  · obtain ⟨rfl, rfl⟩ := hnil0 rfl
    go_enter Try.func9, Try.ntmps9
    go_wp2
    go_ret
    exact ⟨⟨_, _, rfl, fun _ => ⟨rfl, rfl⟩, .inl rfl⟩, Below.refl _ _⟩
  go_enter Try.func9, Try.ntmps9
  go_wp2_with (at_make; refine wpList_make_full _ rfl _ _ 25 rfl w.heap.size 31 i0 (.agg #[.string ⟨#[]⟩, .string ⟨#[]⟩, .string ⟨#[]⟩, .slice none 0 0]) 4 Try.underlying25 hi hz0 hz1 _ _ _ _ n rfl rfl (by omega) (by omega) ?b2 ?b3 (Nat.le_refl _) ?_)
  case b2 => rw [hz2]; omega
  case b3 => unfold maxLen; omega
  intro w0 hown0 hgrow0
  have hb0 : Below w.heap.size w w0 := (Below.refl _ _).grown hgrow0 (Nat.le_refl _) (fun k h => by cases h)
  have hO : Row4 w0 w.heap.size n 0 R := row4_made hown0
  clear hown0 hgrow0 hnil
  go_wp2
  go_loopw [4] (fun t wr => ∃ k : Nat, k ≤ n ∧ t = .int .i64 k ∧ Row4 wr w.heap.size n k R ∧ Below w.heap.size w wr)
    (fun t _ => n - (intOf t).toNat)
  case atStart => exact ⟨0, Nat.zero_le _, rfl, hO, hb0⟩
  case round =>
    obtain ⟨k, hk, rfl, ho, hb⟩ := hrel
    by_cases hlt : k < n
    · obtain ⟨b, off, hab, hbl, hc⟩ := (hs.below hb).resolve_left (by omega)
      obtain rfl := Option.some.inj hab
      obtain ⟨hat, hok⟩ := hc k hlt
      have g0 := hat.c0
      have g1 := hat.c1
      have g2 := hat.c2
      have g3 := hat.c3
      obtain ⟨v0, h0⟩ := ho.some (k * 4) (by omega)
      obtain ⟨v1, h1⟩ := ho.some (k * 4 + 1) (by omega)
      obtain ⟨v2, h2⟩ := ho.some (k * 4 + 2) (by omega)
      obtain ⟨v3, h3⟩ := ho.some (k * 4 + 3) (by omega)
      have hf := ho.froz
      have hP : Row4 (put4 wr w.heap.size (k * 4) (.string (R k).ty) (.string (R k).cl) (.string (R k).nm) (.slice (R k).sl (R k).len (R k).cap)) w.heap.size n (k + 1) R := by
        have := ho.put hlt (R k)
        exact ⟨this.lt, this.froz, this.some, fun i hi => by
          have q := this.held i hi
          by_cases e : i = k
          · subst e; rw [upd_same] at q; exact q
          · rw [upd_ne _ _ _ _ e] at q; exact q⟩
      clear hc hO hb0 hat hok
      go_wp2
      go_roundw
      case rel => exact ⟨k + 1, by omega, by go_num, hP, below_put4 (Nat.le_refl _) hb _ _ _ _⟩
      case measure => simp [intOf]; omega
    · have e : k = n := by omega
      subst e
      go_wp2
      go_ret
      exact ⟨⟨_, _, rfl, fun h => by (cases h), (hs.below hb).imp id fun ⟨b2, off2, e2, hl2, hc2⟩ => ⟨_, 0, rfl, ho.lt, fun i hi => ⟨by rw [Nat.zero_add]; exact ho.held i hi, (hc2 i hi).2⟩⟩⟩, hb⟩
end Go.Proofs.Qxb6601693a
