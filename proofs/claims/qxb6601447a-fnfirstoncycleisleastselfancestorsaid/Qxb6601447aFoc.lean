/-
  THE WALK OF firstOnCycle (27) AND OF ITS SHIM (11).
-/
import Derived.Test.Qxb6601447aClone
namespace Go.Proofs.Qxb6601447a
open Go.RowKit
open Go.Proofs.Qxb6601447a.Cyc Go.Proofs.Qxb6601447a.Mem
set_option linter.unusedVariables false

set_option maxHeartbeats 2000000 in
theorem firstOnCycle_any (a : Option Addr) (n cap : Nat) (p : Nat → Int) (w : World) (hn : n ≤ 4096) (hs : Sl (Value.int .i64) w a n p) (hp : ∀ i, i < n → p i < n) :
    Calls Try.prog 27 #[.slice a n cap] w fun e w' => ∃ r, e = .returned (.int .i64 r) ∧ IsFirst p n r ∧ Below w.heap.size w w' := by
  obtain ⟨i0, hi, hz0, hz1, hz2⟩ := info_parts Try.info3
  obtain ⟨j0, hj, hy0, hy1, hy2⟩ := info_parts Try.info4
  go_enter Try.func27, Try.ntmps27
  go_wp2_with (at_make; refine wpList_make_full _ rfl _ _ 22 rfl w.heap.size 3 i0 (.int .i64 0) 1 Try.underlying22 hi hz0 hz1 _ _ _ _ n rfl rfl (by omega) (by omega) ?b2 ?b3 (Nat.le_refl _) ?_)
  case b2 => rw [hz2]; omega
  case b3 => unfold maxLen; omega
  intro w0 hown0 hgrow0
  have hb0 : Below w.heap.size w w0 := (Below.refl _ _).grown hgrow0 (Nat.le_refl _) (fun k h => by cases h)
  have hO0 : Own (Value.int .i64) w0 w.heap.size n (fun _ => 0) := own_made hown0
  have hlt0 := hO0.lt
  clear hown0 hgrow0
  go_wp2_with (at_make; refine wpList_make_full _ rfl _ _ 49 rfl w0.heap.size 4 j0 (.bool false) 1 Try.underlying49 hj hy0 hy1 _ _ _ _ n rfl rfl (by omega) (by omega) ?b2 ?b3 (Nat.le_refl _) ?_)
  case b2 => rw [hy2]; omega
  case b3 => unfold maxLen; omega
  intro w1 hown1 hgrow1
  have hb01 : Below w0.heap.size w0 w1 := (Below.refl _ _).grown hgrow1 (Nat.le_refl _) (fun k h => by cases h)
  have hb1 : Below w.heap.size w w1 := hb0.trans (hb01.mono (by omega))
  have hO1 : Own (Value.int .i64) w1 w.heap.size n (fun _ => 0) := hO0.below hb01 hlt0
  have hQ1 : Own Value.bool w1 w0.heap.size n (fun _ => false) := own_made hown1
  clear hown1 hgrow1 hO0 hb0 hb01
  go_wp2
  go_loopw [18] (fun t wr => ∃ (s : Nat) (wb : Nat → Int) (on : Nat → Bool), s ≤ n ∧ t = .int .i64 s ∧ Own (Value.int .i64) wr w.heap.size n wb ∧ Own Value.bool wr w0.heap.size n on ∧ Inv p n s wb on ∧ Below w.heap.size w wr)
    (fun t _ => n - (intOf t).toNat)
  case atStart => exact ⟨0, _, _, Nat.zero_le _, rfl, hO1, hQ1, Inv.start p n, hb1⟩
  case round =>
    obtain ⟨s, wb, on, hsn, rfl, ho, hq, hI, hb⟩ := hrel
    clear hO1 hQ1 hb1
    by_cases hlt : s < n
    · obtain ⟨b, off, hab, hbl, hc⟩ := hs.resolve_left (by omega)
      subst hab
      go_wp2
      go_loopg [6] (zc 0 wb n) (fun k t wr => ∃ (c : Int) (wb' : Nat → Int), t = .int .i64 c ∧ Own (Value.int .i64) wr w.heap.size n wb' ∧ Own Value.bool wr w0.heap.size n on ∧ Mid p n s wb wb' c ∧ Below w.heap.size w wr ∧ Hid (k = zc 0 wb' n))
      case atStart => exact ⟨s, wb, rfl, ho, hq, Mid.start hI hlt, hb, rfl⟩
      case round =>
        clear ho hq hb
        obtain ⟨c, wb', rfl, ho, hq, hM, hb, hk⟩ := hrel
        have hcn := hM.cur
        by_cases hc0 : 0 ≤ c
        · obtain ⟨m, rfl⟩ : ∃ m : Nat, c = m := ⟨c.toNat, by omega⟩
          have hm : m < n := by omega
          have g1 := ho.cell m hm
          have f1 := ho.froz m
          have g2 : wr.cell? ⟨b, off + m, none⟩ = some (.int .i64 (p m)) := (hb.cell (by exact hbl)).trans (hc m hm)
          by_cases hz : wb' m = 0
          · have HS : Hid (zc 0 (upd wb' m ((s : Int) + 1)) n < gk) := by rw [hk.out]; exact zc_upd 0 wb' n m _ hm hz (by omega)
            have R1 := ho.set m ((s : Int) + 1)
            have R2 := hq.other (b' := w.heap.size) (i := m) (by omega) (Value.int .i64 ((s : Int) + 1))
            have R3 := hM.step hp hz
            have R4 := hb.setCell (p := ⟨w.heap.size, m, none⟩) (Nat.le_refl _) (Value.int .i64 ((s : Int) + 1))
            clear ho hq hM hk hc
            go_wp2
            go_roundg (zc 0 (upd wb' m ((s : Int) + 1)) n)
            case measure => exact HS.out
            case rel => exact ⟨p m, _, rfl, R1, R2, R3, R4, rfl⟩
          · by_cases hw : wb' m = s + 1
            · have hcy := hM.cyc hw
              have hoff := hM.off hp hI hw
              go_wp2
              go_loopg [7] (zc false on n) (fun k t wr => ∃ (j : Nat) (on' : Nat → Bool), t = .int .i64 j ∧ Own (Value.int .i64) wr w.heap.size n wb' ∧ Own Value.bool wr w0.heap.size n on' ∧ Mk p n on on' m j ∧ Below w.heap.size w wr ∧ Hid (k = zc false on' n))
              case atStart => exact ⟨m, on, rfl, ho, hq, Mk.start p n on m hm, hb, rfl⟩
              case round =>
                clear ho hq hb g1 f1 g2 hk
                obtain ⟨j, on', rfl, ho, hq, hK, hb, hk⟩ := hrel
                have hj := hK.cur
                have g1 := hq.cell j hj
                have f1 := hq.froz j
                have g2 : wr.cell? ⟨b, off + j, none⟩ = some (.int .i64 (p j)) := (hb.cell (by exact hbl)).trans (hc j hj)
                by_cases hon : on' j = true
                · have R := hM.marked hp hI hw hlt (hK.all hp hm hon hoff)
                  go_wp2
                  go_roundw
                  case rel => exact ⟨s + 1, wb', on', by omega, by go_num, ho, hq, R, hb⟩
                  case measure => simp [intOf]; omega
                · have hof : on' j = false := by simpa using hon
                  have HS : Hid (zc false (upd on' j true) n < gk) := by rw [hk.out]; exact zc_upd false on' n j _ hj hof (by decide)
                  have R1 := ho.other (b' := w0.heap.size) (i := j) (by omega) (Value.bool true)
                  have R2 := hq.set j true
                  have R3 := hK.step hp hcy
                  have R4 := hb.setCell (p := ⟨w0.heap.size, j, none⟩) (by exact Nat.le_of_lt hlt0) (Value.bool true)
                  have hpos := hK.pos hcy
                  have hep : ((p j).toNat : Int) = p j := by omega
                  have HE : Hid (((p j).toNat : Int) = p j) := hep
                  clear ho hq hK hk hc hM hon hep
                  go_wp2
                  go_roundg (zc false (upd on' j true) n)
                  case measure => exact HS.out
                  case rel => exact ⟨(p j).toNat, _, by rw [HE.out], R1, R2, R3, R4, rfl⟩
            · have R := hM.quiet hp hI (fun _ => by simpa using hz) hlt (fun _ => by simpa using hw)
              have hw' : (wb' m == (s : Int) + 1) = false := by simpa using hw
              go_wp2
              go_roundw
              case rel => exact ⟨s + 1, wb', on, by omega, by go_num, ho, hq, R, hb⟩
              case measure => simp [intOf]; omega
        · have R := hM.quiet hp hI (fun h => absurd h hc0) hlt (fun h => absurd h hc0)
          go_wp2
          go_roundw
          case rel => exact ⟨s + 1, wb', on, by omega, by go_num, ho, hq, R, hb⟩
          case measure => simp [intOf]; omega
    · obtain rfl : s = n := by omega
      have hcyc := hI.cyc
      go_wp2
      go_loop [67] (fun t => ∃ k : Nat, k ≤ s ∧ t = .int .i64 k ∧ ∀ j, j < k → ¬ Cyc p j) (fun t => s - (intOf t).toNat)
      case atStart => exact ⟨0, Nat.zero_le _, rfl, fun j h => by omega⟩
      case round =>
        obtain ⟨k, hk, rfl, hno⟩ := hrel
        by_cases hks : k < s
        · have g1 := hq.cell k hks
          have hck := hcyc k hks
          by_cases hon : on k = true
          · have R := isFirst_of hks (hck.1 hon) hno
            clear hno hck hcyc
            go_wp2
            go_ret
            exact ⟨_, rfl, R, hb⟩
          · have R : ∀ j, j < k + 1 → ¬ Cyc p j := fun j hj => by
              by_cases e : j = k
              · subst e; exact fun h => hon (hck.2 h)
              · exact hno j (by omega)
            have hof : on k = false := by simpa using hon
            clear hno hck hcyc hon
            go_wp2
            go_round
            case rel => exact ⟨k + 1, by omega, by go_num, R⟩
            case measure => simp [intOf]; omega
        · have R : IsFirst p s (-1) := isFirst_none fun j hj => hno j (by omega)
          clear hno hcyc
          go_wp2
          go_ret
          exact ⟨_, rfl, R, hb⟩

theorem zzFirst_any (a : Option Addr) (n cap : Nat) (p : Nat → Int) (w : World) (hn : n ≤ 4096) (hs : Sl (Value.int .i64) w a n p) (hp : ∀ i, i < n → p i < n) :
    Calls Try.prog 11 #[.slice a n cap] w fun e w' => ∃ r, e = .returned (.int .i64 r) ∧ IsFirst p n r ∧ Below w.heap.size w w' := by
  go_enter Try.func11, Try.ntmps11
  go_wp2_with (go_at_call 27; refine (firstOnCycle_any _ _ _ _ _ hn hs hp).mono ?_; rintro e w' ⟨r, rfl, hr, hb⟩)
  go_ret
  exact ⟨_, rfl, hr, hb⟩
end Go.Proofs.Qxb6601447a
