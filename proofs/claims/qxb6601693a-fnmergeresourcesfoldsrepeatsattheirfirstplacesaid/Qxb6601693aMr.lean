/-
  WALK: mergeResources (16), ZZMergeResources (8).
-/
import Derived.Test.Qxb6601693aPl
import Derived.Deep.RegionLaw
namespace Go.Proofs.Qxb6601693a
open Go.RowKit
open Go.Proofs.Qxb6601693a.Mem
set_option linter.unusedVariables false

/-- A record in a block of its own. -/
structure Box (w : World) (b : Nat) (r : Re) : Prop where
  lt : b < w.heap.size
  c0 : w.cell? ⟨b, 0, none⟩ = some (.string r.ty)
  c1 : w.cell? ⟨b, 1, none⟩ = some (.string r.cl)
  c2 : w.cell? ⟨b, 2, none⟩ = some (.string r.nm)
  c3 : w.cell? ⟨b, 3, none⟩ = some (.slice r.sl r.len r.cap)
  fz : ∀ i, w.frozen? ⟨b, i, none⟩ = false

theorem Box.kept {w w' : World} {b : Nat} {r : Re} (h : Box w b r) (hs : w.heap.size ≤ w'.heap.size) (he : w'.heap[b]? = w.heap[b]?) : Box w' b r :=
  ⟨Nat.lt_of_lt_of_le h.lt hs, by rw [World.cell?_of_block (w := w) (by exact he)]; exact h.c0, by rw [World.cell?_of_block (w := w) (by exact he)]; exact h.c1, by rw [World.cell?_of_block (w := w) (by exact he)]; exact h.c2, by rw [World.cell?_of_block (w := w) (by exact he)]; exact h.c3, fun i => by rw [World.frozen?_of_block (w := w) (by exact he)]; exact h.fz i⟩

theorem box_new (w : World) (r : Re) : Box (w.alloc (.cells #[.string r.ty, .string r.cl, .string r.nm, .slice r.sl r.len r.cap] 31)) w.heap.size r :=
  ⟨by simp, by simp, by simp, by simp, by simp, fun i => by simp⟩

/-- The merged rows, handed back. -/
def RetMg (base : Nat) (w' : World) (R : Nat → Re) (n : Nat) (e : Ending) : Prop :=
  ∃ va vc L M, e = .returned (.slice va L vc) ∧ w'.ownsRow base 31 4 (.slice va L vc) L (flat M L) ∧ (∀ i, i < L → w'.ownsRow base 9 1 (M i).sv (M i).acts.length (strs (M i).acts)) ∧ Pl R n L M ∧ (n = 0 → va = none)

set_option maxRecDepth 100000 in
set_option maxHeartbeats 4000000 in
theorem merge_any (a : Option Addr) (n cap : Nat) (R : Nat → Re) (w : World) (hn : n ≤ 4096) (hlen : ∀ i, i < n → (R i).len ≤ 65536) (hs : Rs w a n R) :
    Calls Try.prog 16 #[.slice a n cap] w fun e w' => RetMg w.heap.size w' R n e ∧ Below w.heap.size w w' := by
  obtain ⟨i0, hi, hz0, hz1, hz2⟩ := info_parts Try.info31
  have hmm := @run_makeMap Try.prog
  have hmap0 := mapIs_made w
  have hb0 : Below w.heap.size w (w.alloc (.map #[] 0)) := (Below.refl _ w).alloc (Nat.le_refl _) _
  go_enter Try.func16, Try.ntmps16
  go_wp2
  clear hmm
  go_loopw [3, 13] (fun tv tk wr => ∃ (k : Nat) (va : Option Addr) (vc L N : Nat) (M : Nat → Ent) (f : ByteArray → ByteArray → ByteArray → Option Nat), k ≤ n ∧ tk = .int .i64 k ∧ tv = .slice va L vc ∧ N ≤ k ∧ Mg wr w.heap.size w.heap.size N (.slice va L vc) L M f ∧ Pl R k L M ∧ (L = 0 → va = none ∧ vc = 0) ∧ Below w.heap.size w wr) (fun _ tk _ => n - (intOf tk).toNat)
  case atStart => exact ⟨0, none, 0, 0, 0, fun _ => ⟨⟨#[]⟩, ⟨#[]⟩, ⟨#[]⟩, none, 0, []⟩, fun _ _ _ => none, Nat.zero_le _, rfl, rfl, Nat.le_refl _, ⟨⟨rfl, .inl ⟨rfl, rfl⟩⟩, fun i hi => by omega, fun i j hi => by omega, fun i hi => by omega, ⟨by simp [Value.ownBlock], fun i hi => by omega⟩, hmap0, fun a b c i h => by (cases h), fun i hi => by omega⟩, pl_zero _ _, fun _ => ⟨rfl, rfl⟩, hb0⟩
  case round =>
    obtain ⟨k, va, vc, L, N, M, f, hk, rfl, rfl, hN, hM, hP, hv0, hb⟩ := hrel
    by_cases hlt : k < n
    · obtain ⟨b, off, hab, hbl, hc⟩ := (hs.below hb).resolve_left (by omega)
      subst hab
      obtain ⟨hat, hok⟩ := hc k hlt
      have hok0 : ReOk w (R k) := by
        obtain ⟨b0, off0, _, _, hc0⟩ := hs.resolve_left (by omega)
        exact (hc0 k hlt).2
      have g0 := hat.c0
      have g1 := hat.c1
      have g2 := hat.c2
      have g3 := hat.c3
      have hkl := hlen k hlt
      clear hc hat hmap0 hb0
      have hbox := box_new wr (R k)
      have hbx : Below wr.heap.size wr (wr.alloc (.cells #[.string (R k).ty, .string (R k).cl, .string (R k).nm, .slice (R k).sl (R k).len (R k).cap] 31)) := (Below.refl _ wr).alloc (Nat.le_refl _) _
      have hkey := key_any (R k)
      unfold reVal kv at hkey
      go_wp2_with fail
      refine (hkey _).mono ?_
      rintro e w1 ⟨rfl, hB1⟩
      have q0 := hok.ty
      have q1 := hok.cl
      have q2 := hok.nm
      have hbox1 : Box w1 wr.heap.size (R k) := hbox.kept hB1.size (hB1.block _ hbox.lt)
      have hw1 : Below wr.heap.size wr w1 := hbx.trans (hB1.mono hbx.size)
      clear hbox hbx hB1 hkey g0 g1 g2 g3
      have hW : Below wr.heap.size wr (w1.alloc (.cells #[.string (R k).ty, .string (R k).cl, .string (R k).nm] 47)) := hw1.alloc hw1.size _
      have hboxW : Box (w1.alloc (.cells #[.string (R k).ty, .string (R k).cl, .string (R k).nm] 47)) wr.heap.size (R k) := hbox1.kept (by simp) (by first | exact heap_alloc_old _ _ hbox1.lt | exact heap_alloc_old _ _ _ (h := hbox1.lt) | exact (MapKept.heap_alloc w1 _).2 _ hbox1.lt)
      have hMW := hM.below hW
      have hMm := hMW.map
      have y0 : (w1.alloc (.cells #[.string (R k).ty, .string (R k).cl, .string (R k).nm] 47)).cell? ⟨w1.heap.size, 0, none⟩ = some (.string (R k).ty) := by simp
      have y1 : (w1.alloc (.cells #[.string (R k).ty, .string (R k).cl, .string (R k).nm] 47)).cell? ⟨w1.heap.size, 1, none⟩ = some (.string (R k).cl) := by simp
      have y2 : (w1.alloc (.cells #[.string (R k).ty, .string (R k).cl, .string (R k).nm] 47)).cell? ⟨w1.heap.size, 2, none⟩ = some (.string (R k).nm) := by simp
      cases hf : f (R k).ty (R k).cl (R k).nm with
      | some j =>
        have hj := (hM.fwd _ _ _ _ hf).1
        obtain ⟨g, vcap, hveq, hg1, hg2⟩ := hMW.rows.form (by omega)
        simp only [Value.slice.injEq, true_and] at hveq
        obtain ⟨rfl, rfl⟩ := hveq
        go_upto_region 9 with (at_lookup; refine wpList_look_some _ rfl _ _ rfl w.heap.size N f rfl hMm (R k).ty (R k).cl (R k).nm rfl q0 q1 q2 j hf ?_)
        generalize w1.alloc (.cells #[.string (R k).ty, .string (R k).cl, .string (R k).nm] 47) = W1 at *
        clear y0 y1 y2 hbox1 hw1
        have hwW := hM.map.lt
        have hal : (M j).acts.length ≤ 268435456 := by
          obtain ⟨i1, r0, r1, r2⟩ := cnt_onto R k j (hP.len ▸ hj)
          have := (hP.row i1 r0 r1).2.2.2.1
          rw [r2] at this
          have h2 := cat_length (n := n) hlen i1 k hk
          rw [this]
          omega
        have hMd : Mg W1.drew w.heap.size w.heap.size N (.slice (some ⟨g, 0, none⟩) L vc) L M f := hMW.below (Below.refl _ _).drew
        have hsv : W1.cell? ⟨g, j * 4 + 3, none⟩ = some (.slice (M j).sa (M j).acts.length (M j).sc) := by
          rw [hMW.rows.cellAt _ (by omega), flat_get hj (by omega)]; rfl
        have hsf : W1.frozen? ⟨g, j * 4 + 3, none⟩ = false := hMW.rows.frozenAt _
        have hb3 := hboxW.c3
        have hsb : ∀ q, (M j).sv.ownBlock = some q → q < wr.heap.size := fun q hq => ((hM.each j hj).lt q hq).2
        have HO : Hid (W1.drew.ownsRow w.heap.size 9 1 (.slice (M j).sa (M j).acts.length (M j).sc) (M j).acts.length (strs (M j).acts)) := hMd.each j hj
        have HS : Hid (Sl Value.string W1.drew (R k).sl (R k).len (R k).str) := ((hok.below hW).below (Below.refl _ _).drew).str
        have HN : Hid ((R k).sl = none → (R k).len = 0 ∧ (R k).cap = 0) := hok.nil
        have HF : Hid (∀ a' c' w', App W1.drew w.heap.size (.slice (M j).sa (M j).acts.length (M j).sc) (M j).acts.length (M j).acts (R k).len (R k).str a' c' w' → w'.cell? ⟨g, j * 4 + 3, none⟩ = some (.slice (M j).sa (M j).acts.length (M j).sc) ∧ w'.frozen? ⟨g, j * 4 + 3, none⟩ = false ∧ w'.cell? ⟨wr.heap.size, 3, none⟩ = some (.slice (R k).sl (R k).len (R k).cap)) := by
          refine hide ?_
          intro a' c' w' hA
          have e1 : w'.heap[g]? = W1.heap[g]? := hA.2.1.block g hg2 (fun e => hM.sepv j hj g e.symm rfl)
          have e2 : w'.heap[wr.heap.size]? = W1.heap[wr.heap.size]? := hA.2.1.block _ hboxW.lt (fun e => by have := hsb _ e.symm; omega)
          exact ⟨by rw [World.cell?_of_block (w := W1) (by exact e1)]; exact hsv, by rw [World.frozen?_of_block (w := W1) (by exact e1)]; exact hsf, by rw [World.cell?_of_block (w := W1) (by exact e2)]; exact hb3⟩
        have HM : Hid (∀ a' c' w', App W1.drew w.heap.size (.slice (M j).sa (M j).acts.length (M j).sc) (M j).acts.length (M j).acts (R k).len (R k).str a' c' w' →
            Mg (w'.setCell ⟨g, j * 4 + 3, none⟩ (.slice a' ((M j).acts.length + (R k).len) c')) w.heap.size w.heap.size N (.slice (some ⟨g, 0, none⟩) L vc) L (upd M j ⟨(M j).ty, (M j).cl, (M j).nm, a', c', (M j).acts ++ (List.range (R k).len).map (R k).str⟩) f ∧
            Pl R (k + 1) L (upd M j ⟨(M j).ty, (M j).cl, (M j).nm, a', c', (M j).acts ++ (List.range (R k).len).map (R k).str⟩) ∧
            Below w.heap.size w (w'.setCell ⟨g, j * 4 + 3, none⟩ (.slice a' ((M j).acts.length + (R k).len) c'))) := by
          refine hide ?_
          intro a' c' w' hA
          refine ⟨hMd.push hj hA rfl, hP.push hM.bwd hM.fwd hf _ rfl rfl rfl rfl ?_, ?_⟩
          · show a' = none ↔ (M j).sa = none ∧ strL (R k) = []
            rw [hA.2.2.1]
            have e1 : (M j).sa = none ↔ Value.slice (M j).sa (M j).acts.length (M j).sc = .slice none 0 0 := by
              constructor
              · intro e
                rcases (hM.each j hj).2 with ⟨q, _⟩ | ⟨q1, q2, q3, q, _⟩
                · exact q
                · simp only [Ent.sv, Value.slice.injEq] at q; rw [e] at q; cases q.1
              · intro e; simp only [Value.slice.injEq] at e; exact e.1
            rw [← e1]
            simp [strL]
          · refine Below.setCell ?_ (by exact hg1) _
            refine ((hb.trans (hW.mono hb.size)).drew).grown hA.2.1 ?_ ?_
            · exact Nat.le_trans hb.size hW.size
            · intro q hq; exact ((hM.each j hj).lt q hq).1
        have HB : Hid (w.heap.size ≤ W1.drew.heap.size) := Nat.le_trans hb.size hW.size
        clear hMd hMW hMm hM hW hlen hP hsb
        go_region_law (refine step_app _ rfl _ _ rfl w.heap.size _ _ (M j).acts rfl HO.out (R k).sl (R k).len (R k).cap (R k).str rfl HN.out HS.out (by omega) HB.out ?_; intro a' c' w' hA; obtain ⟨z0, z1, z2⟩ := HF.out a' c' w' hA)
        all_goals
          have HR := HM.out a' c' w' hA
          clear HM HF HO HS HN hA z0 z1 z2 hsv hsf hb3 hboxW
          go_wp2
          go_roundw
          case rel => exact ⟨k + 1, _, vc, L, N, _, f, by omega, by go_num, rfl, by omega, HR.1, HR.2.1, fun e => by omega, HR.2.2⟩
          case measure => simp [intOf]; omega
      | none =>
        go_upto_region 10 with (at_lookup; refine wpList_look_none _ rfl _ _ rfl w.heap.size N f rfl hMm (R k).ty (R k).cl (R k).nm rfl q0 q1 q2 hf ?_; intro c)
        generalize w1.alloc (.cells #[.string (R k).ty, .string (R k).cl, .string (R k).nm] 47) = W1 at *
        have hmb := hM.map.lt
        have hNn : N < maxLen := by unfold maxLen; omega
        have hLk : L ≤ k := by rw [hP.len]; exact cnt_le R k
        go_wp2_with (at_mapUpdate; refine wpList_put _ rfl _ _ _ rfl w.heap.size N f rfl hMm hNn (R k).ty (R k).cl (R k).nm rfl q0 q1 q2 L (by omega) rfl ?_)
        intro w2 hm2 hg2
        have hbw2 : Below w.heap.size w w2 := (hb.trans (hW.mono hb.size)).grown hg2 (Nat.le_trans hb.size hW.size) (fun q hq => by injection hq with hq; omega)
        have hbox2 : Box w2 wr.heap.size (R k) := hboxW.kept hg2.size (hg2.block _ hboxW.lt (fun e => by injection e with e; omega))
        have hc3 := hbox2.c3
        clear hMm hMW hboxW hbox1 y0 y1 y2
        go_wp2_with fail
        refine (clone_any (R k).sl (R k).len (R k).cap (R k).str _ hok0.nil (hok0.below hbw2).str hkl).mono ?_
        rintro e w3 ⟨a', c', rfl, hO3, hB3, hiff⟩
        have hbox3 : Box w3 wr.heap.size (R k) := hbox2.kept hB3.size (hB3.block _ hbox2.lt)
        have d0 := hbox3.c0
        have d1 := hbox3.c1
        have d2 := hbox3.c2
        have d3 := hbox3.c3
        have dz := hbox3.fz
        have hw3 : wr.heap.size < w3.heap.size := hbox3.lt
        have h23 := hB3.size
        have h12 := hg2.size
        have hWs := hW.size
        have hbs := hb.size
        have hfar : Hid (∀ q, q < w3.heap.size → q ≠ wr.heap.size → ((w3.setCell ⟨wr.heap.size, 3, none⟩ (.slice a' (R k).len c')).alloc (.cells #[.string (R k).ty, .string (R k).cl, .string (R k).nm, .slice a' (R k).len c'] 31)).heap[q]? = w3.heap[q]?) := by
          refine hide ?_
          intro q hq hne
          rw [(MapKept.heap_alloc _ _).2 q (by simpa using hq)]
          exact heap_setCell_other _ _ _ _ hne
        have he : Hid (∀ q, q < wr.heap.size → q ≠ w.heap.size → ((w3.setCell ⟨wr.heap.size, 3, none⟩ (.slice a' (R k).len c')).alloc (.cells #[.string (R k).ty, .string (R k).cl, .string (R k).nm, .slice a' (R k).len c'] 31)).heap[q]? = wr.heap[q]?) := by
          refine hide ?_
          intro q hq hne
          rw [hfar.out q (by omega) (by omega), hB3.block q (by omega), hg2.block q (by omega) (fun e => by injection e with e; omega), hW.block q hq]
        have hrows4 := (hM.still he.out).1
        have hbw4 : Hid (Below w.heap.size w ((w3.setCell ⟨wr.heap.size, 3, none⟩ (.slice a' (R k).len c')).alloc (.cells #[.string (R k).ty, .string (R k).cl, .string (R k).nm, .slice a' (R k).len c'] 31))) :=
          ((hbw2.trans (hB3.mono (by omega))).setCell (by exact hbs) _).alloc (by simp; omega) _
        have HAdd : Hid (∀ v' W5, W5.ownsRow w.heap.size 31 4 v' (L + 1) (flat M L ++ [.string (R k).ty, .string (R k).cl, .string (R k).nm, .slice a' (R k).len c']) → ((w3.setCell ⟨wr.heap.size, 3, none⟩ (.slice a' (R k).len c')).alloc (.cells #[.string (R k).ty, .string (R k).cl, .string (R k).nm, .slice a' (R k).len c'] 31)).grownBy W5 (Value.slice va L vc).ownBlock →
            (v'.ownBlock = (Value.slice va L vc).ownBlock ∨ v'.ownBlock = some ((w3.setCell ⟨wr.heap.size, 3, none⟩ (.slice a' (R k).len c')).alloc (.cells #[.string (R k).ty, .string (R k).cl, .string (R k).nm, .slice a' (R k).len c'] 31)).heap.size) →
            ∃ M' f', Mg W5 w.heap.size w.heap.size (N + 1) v' (L + 1) M' f' ∧ Pl R (k + 1) (L + 1) M' ∧ Below w.heap.size w W5) := by
          refine hide ?_
          intro v' W5 h1 h2 h3
          have hsv : (Ent.mk (R k).ty (R k).cl (R k).nm a' c' (strL (R k))).sv = .slice a' (R k).len c' := by simp [Ent.sv, strL]
          have hel : ∀ q, (Value.slice a' (R k).len c').ownBlock = some q → w2.heap.size ≤ q ∧ q < w3.heap.size := fun q hq => hO3.lt q hq
          have hb2 := hbox2.lt
          refine ⟨_, _, hM.add he.out ⟨(R k).ty, (R k).cl, (R k).nm, a', c', strL (R k)⟩ ?_ hf ?_ ?_ ?_ (by simpa [Ent.cells, hsv] using h1) h2 h3, hP.add hM.bwd hf (fun q => (hok0.nil q).1) _ rfl rfl rfl rfl hiff, hbw4.out.grown h2 ?_ (fun q hq => (hM.rows.lt q hq).1)⟩
          · refine hm2.kept ?_
            rw [hfar.out _ (by omega) (by omega), hB3.block _ (by omega)]
          · rw [hsv]
            have hl : (strL (R k)).length = (R k).len := by simp [strL]
            rw [hl]
            have r0 : w3.ownsRow w.heap.size 9 1 (.slice a' (R k).len c') (R k).len (strs (strL (R k))) := by
              refine ⟨hO3.1, ?_⟩
              rcases hO3.2 with q | ⟨g, cap, cur, q1, q2, q3⟩
              · exact .inl q
              · exact .inr ⟨g, cap, cur, q1, by omega, q3⟩
            exact row_kept r0 fun q hq => hfar.out q (hel q hq).2 (by have := (hel q hq).1; omega)
          · intro q hq; rw [hsv] at hq; have := (hel q hq).1; omega
          · simp; omega
          · simp; omega
        clear hM hP he hfar hm2 hg2 hbox2 hbox3 hO3 hB3 hW hbw2 hiff hok hok0 hlen hs
        go_wp2_with (at_builtin; refine wpList_append_own_at _ rfl _ _ 25 rfl w.heap.size 31 i0 (.agg #[.string ⟨#[]⟩, .string ⟨#[]⟩, .string ⟨#[]⟩, .slice none 0 0]) 4 72 Try.underlying25 hi hz0 hz1 hz2 rfl (by decide) _ L (flat M L) rfl hrows4 ⟨w3.heap.size, 0, none⟩ 1 1 [.string (R k).ty, .string (R k).cl, .string (R k).nm, .slice a' (R k).len c'] rfl rfl ?_ ?_ ?_ ?_ ?_ ?_)
        · refine World.news_of_block (cs := #[.string (R k).ty, .string (R k).cl, .string (R k).nm, .slice a' (R k).len c']) (t := 31) (fr := (0, 0)) ?_
          have := (MapKept.heap_alloc (w3.setCell ⟨wr.heap.size, 3, none⟩ (.slice a' (R k).len c')) (.cells #[.string (R k).ty, .string (R k).cl, .string (R k).nm, .slice a' (R k).len c'] 31)).1
          simpa using this
        · intro u hu
          simp only [List.mem_cons, List.not_mem_nil, or_false] at hu
          rcases hu with rfl | rfl | rfl | rfl <;> rfl
        · unfold maxLen; omega
        · omega
        · simp; omega
        · intro v' W5 hown5 hgr5 _ hat5
          obtain ⟨M', f', r1, r2, r3⟩ := HAdd.out v' W5 hown5 hgr5 (by simpa using hat5)
          obtain ⟨g', cap', rfl, _, _⟩ := hown5.form (by omega)
          clear HAdd hown5 hgr5 hat5 hrows4 hbw4 d0 d1 d2 d3 dz hc3
          go_wp2
          go_roundw
          case rel => exact ⟨k + 1, _, cap', L + 1, N + 1, M', f', by omega, by go_num, rfl, by omega, r1, r2, fun e => by omega, r3⟩
          case measure => simp [intOf]; omega
    · have e : k = n := by omega
      subst e
      go_wp2
      go_ret
      exact ⟨⟨_, _, L, M, rfl, hM.rows, hM.each, hP, fun e0 => (hv0 (by rw [hP.len, e0]; rfl)).1⟩, hb⟩

theorem zzMerge_any (a : Option Addr) (n cap : Nat) (R : Nat → Re) (w : World) (hn : n ≤ 4096) (hlen : ∀ i, i < n → (R i).len ≤ 65536) (hs : Rs w a n R) :
    Calls Try.prog 8 #[.slice a n cap] w fun e w' => RetMg w.heap.size w' R n e ∧ Below w.heap.size w w' := by
  go_enter Try.func8, Try.ntmps8
  go_wp2_with fail
  refine (merge_any a n cap R w hn hlen hs).mono ?_
  rintro e w' ⟨⟨va, vc, L, M, rfl, h⟩, hb⟩
  go_wp2
  go_ret
  exact ⟨⟨va, vc, L, M, rfl, h⟩, hb⟩
end Go.Proofs.Qxb6601693a
