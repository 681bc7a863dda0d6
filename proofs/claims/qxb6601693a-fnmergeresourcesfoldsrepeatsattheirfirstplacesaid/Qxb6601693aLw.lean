/-
  WALK: the law's own function (3).
-/
import Derived.Test.Qxb6601693aSe
namespace Go.Proofs.Qxb6601693a
open Go.RowKit
open Go.Proofs.Qxb6601693a.Mem
set_option linter.unusedVariables false

theorem cat_grow (R : Nat → Re) (i : Nat) : ∀ {m n : Nat}, m ≤ n → ∃ t, cat R i n = cat R i m ++ t
  | m, 0, h => ⟨[], by rw [show m = 0 by omega]; simp⟩
  | m, n + 1, h => by
    by_cases e : m = n + 1
    · exact ⟨[], by rw [e]; simp⟩
    · obtain ⟨t, ht⟩ := cat_grow R i (m := m) (n := n) (by omega)
      exact ⟨_, by rw [cat_succ, ht, List.append_assoc]⟩

theorem cat_at {R : Nat → Re} {i m n x : Nat} (hm : m < n) (hs : sameB (R m) (R i) = true) (hx : x < (R m).len) :
    (cat R i m).length + x < (cat R i n).length ∧ (cat R i n)[(cat R i m).length + x]? = some ((R m).str x) := by
  obtain ⟨t, ht⟩ := cat_grow R i (m := m + 1) (n := n) hm
  have h1 : cat R i (m + 1) = cat R i m ++ strL (R m) := by rw [cat_succ, hs]; rfl
  rw [ht, h1]
  have hl : (strL (R m)).length = (R m).len := by simp [strL]
  constructor
  · simp only [List.length_append, hl]; omega
  · rw [List.append_assoc, List.getElem?_append_right (by omega), List.getElem?_append_left (by rw [hl]; omega)]
    have : (cat R i m).length + x - (cat R i m).length = x := by omega
    rw [this]
    simp [strL, hx]

theorem cat_same {R : Nat → Re} {i m : Nat} (hs : sameB (R m) (R i) = true) : (cat R i (m + 1)).length = (cat R i m).length + (R m).len := by
  rw [cat_succ, hs]; simp [strL]
theorem cat_other {R : Nat → Re} {i m : Nat} (hs : sameB (R m) (R i) = false) : (cat R i (m + 1)).length = (cat R i m).length := by
  rw [cat_succ, hs]; simp

/-- What the check reads: the records and the merged rows. -/
structure Chk (w : World) (base : Nat) (a1 : Option Addr) (n : Nat) (R : Nat → Re) (va : Option Addr) (vc L : Nat) (M : Nat → Ent) : Prop where
  asked : Rs w a1 n R
  rows : w.ownsRow base 31 4 (.slice va L vc) L (flat M L)
  each : ∀ i, i < L → w.ownsRow base 9 1 (M i).sv (M i).acts.length (strs (M i).acts)

theorem Chk.below {w w' : World} {base : Nat} {a1 : Option Addr} {n : Nat} {R : Nat → Re} {va : Option Addr} {vc L : Nat} {M : Nat → Ent} (h : Chk w base a1 n R va vc L M) (hb : Below w.heap.size w w') : Chk w' base a1 n R va vc L M :=
  ⟨h.asked.below hb, row_kept h.rows fun g hg => hb.block g (h.rows.lt g hg).2, fun i hi => row_kept (h.each i hi) fun g hg => hb.block g ((h.each i hi).lt g hg).2⟩

theorem box_at (w : World) (r : Re) (T : TypeId) : Box (w.alloc (.cells #[.string r.ty, .string r.cl, .string r.nm, .slice r.sl r.len r.cap] T)) w.heap.size r :=
  ⟨by simp, by simp, by simp, by simp, by simp, fun i => by simp⟩

set_option maxRecDepth 100000 in
set_option maxHeartbeats 8000000 in
theorem law_any (a : Option Addr) (n cap : Nat) (R : Nat → Re) (w : World) (hn : n ≤ maxLen) (hnil0 : a = none → n = 0 ∧ cap = 0) (hs : Rs w a n R) :
    Calls Try.prog 3 #[.slice a n cap] w fun e w' => e = .returned (.bool true) ∧ Below w.heap.size w w' := by
  have hnil25 := fun wx ad l c => Lib.run_eql_slice_nil (P := Try.prog) wx 25 31 ad l c 0 0 Try.underlying25
  have hnil29 := fun wx ad l c => Lib.run_eql_slice_nil (P := Try.prog) wx 29 9 ad l c 0 0 Try.underlying29
  go_enter Try.func3, Try.ntmps3
  go_wp2_with fail
  refine (bytes_any a n cap R w hn hs).mono ?_
  rintro e w' ⟨⟨r, rfl⟩, rfl⟩
  rcases Bool.eq_false_or_eq_true r with rfl | rfl
  rotate_left
  · go_wp2
    go_ret
    exact ⟨rfl, Below.refl _ _⟩
  go_wp2_with fail
  refine (mergeFits_any a n cap R w hn hs).mono ?_
  rintro e w6 ⟨⟨r, rfl, hfit⟩, hb6⟩
  rcases Bool.eq_false_or_eq_true r with rfl | rfl
  rotate_left
  · go_wp2
    go_ret
    exact ⟨rfl, hb6⟩
  obtain ⟨hn4, hlen⟩ := hfit rfl
  clear hfit
  go_wp2_with fail
  refine (cloneRes_any a n cap R w6 hn4 hlen hnil0 (hs.below hb6)).mono ?_
  rintro e w7 ⟨⟨a1, c1, R1, rfl, hnil1, hs1, hlen1⟩, hb7⟩
  have hbw7 := hb6.trans (hb7.mono hb6.size)
  clear hlen hs hb6 hb7
  go_wp2_with fail
  refine (toAccess_any a1 n c1 R1 w7 hn4 hnil1 hs1).mono ?_
  rintro e w9 ⟨⟨a2, c2, rfl, hnil2, hs2⟩, hb9⟩
  have hbw9 := hbw7.trans (hb9.mono hbw7.size)
  have hs19 := hs1.below hb9
  clear hs1 hb9 hbw7 hnil1
  go_wp2_with fail
  refine (zzMerge_any a2 n c2 R1 w9 hn4 hlen1 hs2).mono ?_
  rintro e w8 ⟨⟨va, vc, L, M, rfl, hrows, heach, hP, hv0⟩, hb8⟩
  have hbw8 := hbw9.trans (hb8.mono hbw9.size)
  have hC : Chk w8 w9.heap.size a1 n R1 va vc L M := ⟨hs19.below hb8, hrows, heach⟩
  have hLn : L ≤ n := by rw [hP.len]; exact cnt_le R1 n
  clear hs2 hrows heach hb8 hbw9 hs19 hnil2
  by_cases hn0 : n = 0
  · have hva := hv0 hn0
    subst hva
    go_wp2
    go_ret
    exact ⟨rfl, hbw8⟩
  clear hv0
  have hnb : ((n : Int) == 0) = false := by simp; omega
  go_wp2
  go_loopw [4, 5] (fun t4 t5 wr => ∃ i : Nat, i ≤ n ∧ t5 = .int .i64 i ∧ t4 = .int .i64 (cnt R1 i) ∧ Below w8.heap.size w8 wr) (fun _ t5 _ => n - (intOf t5).toNat)
  case atStart => exact ⟨0, Nat.zero_le _, rfl, rfl, Below.refl _ _⟩
  case round =>
    obtain ⟨i, hi, rfl, rfl, hb⟩ := hrel
    by_cases hlt : i < n
    · go_wp2_with fail
      refine (seenBefore_any a1 n c1 R1 i wr hn4 hlt (hC.asked.below hb)).mono ?_
      rintro e w10 ⟨rfl, hb10⟩
      have hbw10 := hb.trans (hb10.mono hb.size)
      clear hb10
      have hcle := cnt_le R1 i
      cases hsn : seen R1 i with
      | true =>
        have hcs : cnt R1 (i + 1) = cnt R1 i := by simp [cnt, hsn]
        go_wp2
        go_roundw
        case rel => exact ⟨i + 1, by omega, by go_num, by rw [hcs], hbw10⟩
        case measure => simp [intOf]; omega
      | false =>
        have hcs : cnt R1 (i + 1) = cnt R1 i + 1 := by simp [cnt, hsn]
        have hcL : cnt R1 i < L := by rw [hP.len]; exact cnt_lt hlt hsn
        obtain ⟨m1, m2, m3, m4, m5⟩ := hP.row i hlt hsn
        obtain ⟨g, vcap, hveq, hg1, hg2⟩ := (hC.below hbw10).rows.form (by omega)
        simp only [Value.slice.injEq, true_and] at hveq
        obtain ⟨rfl, rfl⟩ := hveq
        have hC1 := hC.below hbw10
        have x0 : w10.cell? ⟨g, cnt R1 i * 4, none⟩ = some (.string (R1 i).ty) := by
          have := hC1.rows.cellAt (cnt R1 i * 4 + 0) (by omega)
          rw [flat_get hcL (by omega)] at this
          rw [← m1]; exact this
        have x1 : w10.cell? ⟨g, cnt R1 i * 4 + 1, none⟩ = some (.string (R1 i).cl) := by
          rw [hC1.rows.cellAt _ (by omega), flat_get hcL (by omega), ← m2]; rfl
        have x2 : w10.cell? ⟨g, cnt R1 i * 4 + 2, none⟩ = some (.string (R1 i).nm) := by
          rw [hC1.rows.cellAt _ (by omega), flat_get hcL (by omega), ← m3]; rfl
        have x3 : w10.cell? ⟨g, cnt R1 i * 4 + 3, none⟩ = some (.slice (M (cnt R1 i)).sa (cat R1 i n).length (M (cnt R1 i)).sc) := by
          rw [hC1.rows.cellAt _ (by omega), flat_get hcL (by omega), ← m4]; rfl
        obtain ⟨b, off, hab, hbl, hc⟩ := hC1.asked.resolve_left hn0
        subst hab
        obtain ⟨hat, hok⟩ := hc i hlt
        have y0 := hat.c0
        have y1 := hat.c1
        have y2 := hat.c2
        have y3 := hat.c3
        clear hat hok
        have hiL : ((cnt R1 i : Nat) : Int) < (L : Int) := by omega
        have hclen : (cat R1 i n).length ≤ 268435456 := by
          have := cat_length (n := n) hlen1 i n (Nat.le_refl _)
          omega
        generalize hsa : (M (cnt R1 i)).sa = sa at *
        generalize hsc : (M (cnt R1 i)).sc = sc at *
        generalize hidx : cnt R1 i = idx at *
        have hdec : decide (L ≤ idx) = false := by simp; omega
        have hB6 := box_at w10 ⟨(R1 i).ty, (R1 i).cl, (R1 i).nm, sa, (cat R1 i n).length, sc, (R1 i).str⟩ 31
        have hB7 := box_at (w10.alloc (.cells #[.string (R1 i).ty, .string (R1 i).cl, .string (R1 i).nm, .slice sa (cat R1 i n).length sc] 31)) (R1 i) 33
        have hB6' := hB6.kept (w' := (w10.alloc (.cells #[.string (R1 i).ty, .string (R1 i).cl, .string (R1 i).nm, .slice sa (cat R1 i n).length sc] 31)).alloc (.cells #[.string (R1 i).ty, .string (R1 i).cl, .string (R1 i).nm, .slice (R1 i).sl (R1 i).len (R1 i).cap] 33)) (by simp) ((MapKept.heap_alloc _ _).2 _ hB6.lt)
        have hbB : Below w10.heap.size w10 ((w10.alloc (.cells #[.string (R1 i).ty, .string (R1 i).cl, .string (R1 i).nm, .slice sa (cat R1 i n).length sc] 31)).alloc (.cells #[.string (R1 i).ty, .string (R1 i).cl, .string (R1 i).nm, .slice (R1 i).sl (R1 i).len (R1 i).cap] 33)) := ((Below.refl _ w10).alloc (Nat.le_refl _) _).alloc (by simp) _
        have hq7 : (w10.alloc (.cells #[.string (R1 i).ty, .string (R1 i).cl, .string (R1 i).nm, .slice sa (cat R1 i n).length sc] 31)).heap.size = w10.heap.size + 1 := by simp
        rw [hq7] at hB7
        clear hB6 hq7
        go_wp2
        generalize (w10.alloc (.cells #[.string (R1 i).ty, .string (R1 i).cl, .string (R1 i).nm, .slice sa (cat R1 i n).length sc] 31)).alloc (.cells #[.string (R1 i).ty, .string (R1 i).cl, .string (R1 i).nm, .slice (R1 i).sl (R1 i).len (R1 i).cap] 33) = Wb at *
        clear x0 x1 x2 x3 y0 y1 y2 y3
        have hcb : Hid (∀ j, j < n → ReAt Wb b (off + j * 4) (R1 j) ∧ ReOk Wb (R1 j)) := by
          refine hide ?_
          intro j hj
          exact ⟨(hc j hj).1.below hbB hbl, (hc j hj).2.below hbB⟩
        have heb : Hid (Wb.ownsRow w9.heap.size 9 1 (.slice sa (cat R1 i n).length sc) (cat R1 i n).length (strs (cat R1 i n))) := by
          refine hide ?_
          have h0 := (hC1.below hbB).each idx hcL
          rw [m4] at h0
          have h1 : (M idx).sv = .slice sa (cat R1 i n).length sc := by rw [Ent.sv, hsa, hsc, m4]
          rw [h1] at h0
          exact h0
        have hbWb : Below w8.heap.size w8 Wb := hbw10.trans (hbB.mono hbw10.size)
        have hblb : b < Wb.heap.size := Nat.lt_of_lt_of_le hbl hbB.size
        clear hc hC1 hbB hb
        generalize hq6 : w10.heap.size = q6 at *
        go_loopw [8, 9] (fun t8 t9 wr2 => ∃ m : Nat, i ≤ m ∧ m ≤ n ∧ t9 = .int .i64 m ∧ t8 = .int .i64 ((cat R1 i m).length : Nat) ∧ Below Wb.heap.size Wb wr2) (fun _ t9 _ => n - (intOf t9).toNat)
        case atStart => exact ⟨i, Nat.le_refl _, hi, rfl, by rw [cat_first hsn i (Nat.le_refl _)]; rfl, Below.refl _ _⟩
        case round =>
          obtain ⟨m, him, hm, rfl, rfl, hb2⟩ := hrel
          by_cases hmn : m < n
          · obtain ⟨hat, hok⟩ := hcb.out m hmn
            have hatm := hat.below hb2 hblb
            have z0 := hatm.c0
            have z1 := hatm.c1
            have z2 := hatm.c2
            have z3 := hatm.c3
            have hB7m := hB7.kept hb2.size (hb2.block _ hB7.lt)
            have k0 := hB7m.c0
            have k1 := hB7m.c1
            have k2 := hB7m.c2
            have k3 := hB7m.c3
            have hblr : b < wr.heap.size := Nat.lt_of_lt_of_le hblb hb2.size
            have hq7r : q6 + 1 < wr.heap.size := hB7m.lt
            have HC : Hid (Calls Try.prog 11 #[reVal (R1 m), reVal (R1 i)] wr.drew fun e w' => e = .returned (.bool (sameB (R1 m) (R1 i))) ∧ Hid (Below wr.heap.size wr w')) := by
              refine hide ?_
              refine (sameKey_any (R1 m) (R1 i) wr.drew).mono ?_
              rintro e w' ⟨rfl, hB⟩
              exact ⟨rfl, (Below.refl _ wr).drew.trans hB⟩
            unfold reVal at HC
            generalize hS : sameB (R1 m) (R1 i) = S at *
            have hcells : Hid (∀ w', Below wr.heap.size wr w' → (w'.cell? ⟨b, off + m * 4, none⟩ = some (.string (R1 m).ty) ∧ w'.cell? ⟨b, off + m * 4 + 1, none⟩ = some (.string (R1 m).cl) ∧ w'.cell? ⟨b, off + m * 4 + 2, none⟩ = some (.string (R1 m).nm) ∧ w'.cell? ⟨b, off + m * 4 + 3, none⟩ = some (.slice (R1 m).sl (R1 m).len (R1 m).cap)) ∧
                (w'.cell? ⟨q6 + 1, 0, none⟩ = some (.string (R1 i).ty) ∧ w'.cell? ⟨q6 + 1, 1, none⟩ = some (.string (R1 i).cl) ∧ w'.cell? ⟨q6 + 1, 2, none⟩ = some (.string (R1 i).nm) ∧ w'.cell? ⟨q6 + 1, 3, none⟩ = some (.slice (R1 i).sl (R1 i).len (R1 i).cap))) := by
              refine hide ?_
              intro w' hB
              exact ⟨⟨(hB.cell (by exact hblr)).trans z0, (hB.cell (by exact hblr)).trans z1, (hB.cell (by exact hblr)).trans z2, (hB.cell (by exact hblr)).trans z3⟩, ⟨(hB.cell (by exact hq7r)).trans k0, (hB.cell (by exact hq7r)).trans k1, (hB.cell (by exact hq7r)).trans k2, (hB.cell (by exact hq7r)).trans k3⟩⟩
            have i1 : (0 : Int) ≤ (m : Int) := by omega
            have i2 : (m : Int) < (n : Int) := by omega
            clear hat hatm hB7m
            go_upto_region 24 with fail
            go_region_held3 (fun w' => (w'.cell? ⟨b, off + m * 4, none⟩ = some (.string (R1 m).ty) ∧ w'.cell? ⟨b, off + m * 4 + 1, none⟩ = some (.string (R1 m).cl) ∧ w'.cell? ⟨b, off + m * 4 + 2, none⟩ = some (.string (R1 m).nm) ∧ w'.cell? ⟨b, off + m * 4 + 3, none⟩ = some (.slice (R1 m).sl (R1 m).len (R1 m).cap)) ∧
                (w'.cell? ⟨q6 + 1, 0, none⟩ = some (.string (R1 i).ty) ∧ w'.cell? ⟨q6 + 1, 1, none⟩ = some (.string (R1 i).cl) ∧ w'.cell? ⟨q6 + 1, 2, none⟩ = some (.string (R1 i).nm) ∧ w'.cell? ⟨q6 + 1, 3, none⟩ = some (.slice (R1 i).sl (R1 i).len (R1 i).cap))) (go_keep)
              ((go_at_call 11; refine HC.out.mono ?_; rintro e w' ⟨rfl, hB⟩; have hcl := hcells.out w' hB.out))
            have hb3 := hb2.trans (hB.out.mono hb2.size)
            clear hcells HC z0 z1 z2 z3 k0 k1 k2 k3
            cases S with
            | false =>
              have hco := cat_other hS
              clear hcl
              go_wp2
              go_roundw
              case rel => exact ⟨m + 1, by omega, by omega, by go_num, by rw [hco], hb3⟩
              case measure => simp [intOf]; omega
            | true =>
              have hco := cat_same hS
              have z3 := hcl.1.2.2.2
              clear hcl
              have hb8w := hb3
              have hokw := (hok.below hb3)
              have hlm : (R1 m).len ≤ 65536 := hlen1 m hmn
              have hstr := hokw.str
              have hB6w := hB6'.kept hb3.size (hb3.block _ hB6'.lt)
              have hew : Hid (w'.ownsRow w9.heap.size 9 1 (.slice sa (cat R1 i n).length sc) (cat R1 i n).length (strs (cat R1 i n))) := row_kept heb.out fun g hg => hb3.block g (heb.out.lt g hg).2
              have hcm : (cat R1 i m).length ≤ 268435456 := by
                have := cat_length (n := n) hlen1 i m hm
                omega
              clear hokw hok
              generalize hslm : (R1 m).sl = slm at *
              clear hslm
              go_wp2
              clear z3
              go_loopw [8, 11] (fun t8 t11 wr3 => ∃ x : Nat, x ≤ (R1 m).len ∧ t11 = .int .i64 x ∧ t8 = .int .i64 (((cat R1 i m).length + x : Nat)) ∧ Below w'.heap.size w' wr3) (fun _ t11 _ => (R1 m).len - (intOf t11).toNat)
              case atStart => exact ⟨0, Nat.zero_le _, rfl, rfl, Below.refl _ _⟩
              case round =>
                obtain ⟨x, hx, rfl, rfl, hb4⟩ := hrel
                by_cases hxl : x < (R1 m).len
                · obtain ⟨p1, p2⟩ := cat_at (i := i) hmn hS hxl
                  have hB6x := hB6w.kept hb4.size (hb4.block _ hB6w.lt)
                  have y3 := hB6x.c3
                  obtain ⟨b2, off2, hab2, hbl2, hc2⟩ := (hstr.below hb4).resolve_left (by omega)
                  have y4 := hc2 x hxl
                  have hex : wr.ownsRow w9.heap.size 9 1 (.slice sa (cat R1 i n).length sc) (cat R1 i n).length (strs (cat R1 i n)) := row_kept hew.out fun g hg => hb4.block g (hew.out.lt g hg).2
                  obtain ⟨ga, ca, hsae, _, _⟩ := hex.form (by omega)
                  simp only [Value.slice.injEq, true_and] at hsae
                  have y5 : wr.cell? ⟨ga, (cat R1 i m).length + x, none⟩ = some (.string ((R1 m).str x)) := by
                    rw [hsae.1, hsae.2] at hex
                    rw [hex.cellAt _ (by omega)]
                    simp [strs, p2]
                  obtain ⟨hsa2, _⟩ := hsae
                  clear hex hc2 hB6x
                  subst hab2
                  subst hsa2
                  generalize (R1 m).str x = sx at *
                  have n1 : ¬ (((cat R1 i n).length : Int) ≤ (((cat R1 i m).length + x : Nat) : Int)) := by omega
                  have n2 : (0 : Int) ≤ (((cat R1 i m).length + x : Nat) : Int) := by omega
                  have n3 : (((cat R1 i m).length + x : Nat) : Int) < ((cat R1 i n).length : Int) := by omega
                  have n4 : (x : Int) < ((R1 m).len : Int) := by omega
                  have n5 : (0 : Int) ≤ (x : Int) := by omega
                  generalize hpx : (cat R1 i m).length + x = px at *
                  go_upto_region 29 with fail
                  go_quiet (fail)
                  have hbq : Below w'.heap.size w' (wr.drewN nq) := hb4.trans ⟨rfl, rfl, rfl, Nat.le_refl _, fun _ _ => rfl⟩
                  have hpx' : (cat R1 i m).length + (x + 1) = px + 1 := by omega
                  have hpxb : px ≤ 268435456 := by omega
                  clear y3 y4 y5
                  go_wp2
                  go_roundw
                  case rel => exact ⟨x + 1, by omega, by go_num, by rw [hpx']; go_num, hbq⟩
                  case measure => simp [intOf]; omega
                · have e : x = (R1 m).len := by omega
                  subst e
                  have hbq := hb3.trans (hb4.mono hb3.size)
                  go_wp2
                  go_roundw
                  case rel => exact ⟨m + 1, by omega, by omega, by go_num, by rw [hco], hbq⟩
                  case measure => simp [intOf]; omega
          · have e : m = n := by omega
            subst e
            have hB6m := hB6'.kept hb2.size (hb2.block _ hB6'.lt)
            have hB7m := hB7.kept hb2.size (hb2.block _ hB7.lt)
            have k3 := hB6m.c3
            have l3 := hB7m.c3
            have hbo := hbWb.trans (hb2.mono hbWb.size)
            clear hB6m hB7m
            have key : ∃ B1 B2 B3 : Bool, sa.isNone = B1 ∧ (R1 i).sl.isNone = B2 ∧ (((cat R1 i m).length : Int) == 0) = B3 ∧ (B1 != (B2 && B3)) = false := by
              refine ⟨_, _, _, rfl, rfl, rfl, ?_⟩
              have e0 : (((cat R1 i m).length : Int) == 0) = decide (cat R1 i m = []) := by
                cases cat R1 i m <;> simp <;> omega
              rw [e0]
              by_cases c1 : sa = none
              · obtain ⟨c2, c3⟩ := m5.1 c1
                simp [c1, c2, c3]
              · have c4 : ¬ ((R1 i).sl = none ∧ cat R1 i m = []) := fun h => c1 (m5.2 h)
                have c5 : sa.isNone = false := by cases sa <;> simp_all
                rw [c5]
                by_cases c2 : (R1 i).sl = none
                · have c3 : cat R1 i m ≠ [] := fun h => c4 ⟨c2, h⟩
                  simp [c3]
                · have c6 : (R1 i).sl.isNone = false := by cases hh : (R1 i).sl <;> simp_all
                  simp [c6]
            obtain ⟨B1, B2, B3, e1, e2, e3, e4⟩ := key
            clear hcb heb hB6' hB7 hP hC m1 m2 m3 m4 m5
            cases B1 <;> cases B2 <;> cases B3 <;> first | exact absurd e4 (by decide) | skip
            all_goals
              go_wp2
              go_roundw
              case rel => exact ⟨i + 1, by omega, by go_num, by rw [hcs]; go_num, hbo⟩
              case measure => simp [intOf]; omega
    · have e : i = n := by omega
      subst e
      have hPl := hP.len
      go_wp2
      go_ret
      exact ⟨by rw [hP.len]; rfl, hbw8.trans (hb.mono hbw8.size)⟩
end Go.Proofs.Qxb6601693a
