/-
  WALKS: zzSameKey (11), zzSeenBefore (10).
-/
import Derived.Test.Qxb6601693aMr
namespace Go.Proofs.Qxb6601693a
open Go.RowKit
open Go.Proofs.Qxb6601693a.Mem
set_option linter.unusedVariables false

theorem bytes_ne {a b : ByteArray} (h : a ≠ b) : (a.toList == b.toList) = false := by
  rw [ByteArray.toList_eq, ByteArray.toList_eq, beq_eq_false_iff_ne]
  intro e
  exact h (ByteArray.ext (Array.toList_inj.1 e))

set_option maxHeartbeats 2000000 in
theorem sameKey_any (r s : Re) (w : World) : Calls Try.prog 11 #[reVal r, reVal s] w fun e w' => e = .returned (.bool (sameB r s)) ∧ Below w.heap.size w w' := by
  unfold reVal
  by_cases h1 : r.ty = s.ty
  · by_cases h2 : r.cl = s.cl
    · by_cases h3 : r.nm = s.nm
      · have hB : sameB r s = true := sameB_iff.2 ⟨h1, h2, h3⟩
        rw [hB]
        go_enter Try.func11, Try.ntmps11
        go_wp2
        go_ret
        exact ⟨rfl, ((Below.refl _ w).alloc (Nat.le_refl _) _).alloc (by simp) _⟩
      · have hB : sameB r s = false := by simp [sameB, h3]
        have hq := bytes_ne h3
        rw [hB]
        go_enter Try.func11, Try.ntmps11
        go_wp2
        go_ret
        exact ⟨rfl, ((Below.refl _ w).alloc (Nat.le_refl _) _).alloc (by simp) _⟩
    · have hB : sameB r s = false := by simp [sameB, h2]
      have hq := bytes_ne h2
      rw [hB]
      go_enter Try.func11, Try.ntmps11
      go_wp2
      go_ret
      exact ⟨rfl, ((Below.refl _ w).alloc (Nat.le_refl _) _).alloc (by simp) _⟩
  · have hB : sameB r s = false := by simp [sameB, h1]
    have hq := bytes_ne h1
    rw [hB]
    go_enter Try.func11, Try.ntmps11
    go_wp2
    go_ret
    exact ⟨rfl, ((Below.refl _ w).alloc (Nat.le_refl _) _).alloc (by simp) _⟩

set_option maxRecDepth 100000 in
set_option maxHeartbeats 4000000 in
theorem seenBefore_any (a : Option Addr) (n cap : Nat) (R : Nat → Re) (i : Nat) (w : World) (hn : n ≤ 4096) (hi : i < n) (hs : Rs w a n R) :
    Calls Try.prog 10 #[.slice a n cap, .int .i64 (i : Int)] w fun e w' => e = .returned (.bool (seen R i)) ∧ Below w.heap.size w w' := by
  go_enter Try.func10, Try.ntmps10
  go_wp2
  go_loopw [5] (fun tj wr => ∃ j : Nat, j ≤ i ∧ tj = .int .i64 j ∧ (∀ m, m < j → sameB (R m) (R i) = false) ∧ Below w.heap.size w wr) (fun tj _ => i - (intOf tj).toNat)
  case atStart => exact ⟨0, Nat.zero_le _, rfl, fun m hm => by omega, Below.refl _ _⟩
  case round =>
    obtain ⟨j, hj, rfl, hno, hb⟩ := hrel
    by_cases hlt : j < i
    · obtain ⟨b, off, hab, hbl, hc⟩ := (hs.below hb).resolve_left (by omega)
      subst hab
      obtain ⟨hat, hok⟩ := hc j (by omega)
      obtain ⟨hat2, hok2⟩ := hc i hi
      have g0 := hat.c0
      have g1 := hat.c1
      have g2 := hat.c2
      have g3 := hat.c3
      have k0 := hat2.c0
      have k1 := hat2.c1
      have k2 := hat2.c2
      have k3 := hat2.c3
      clear hc hat hat2 hok hok2
      have HC : Hid (Calls Try.prog 11 #[reVal (R j), reVal (R i)] wr.drew fun e w' => e = .returned (.bool (sameB (R j) (R i))) ∧ Hid (Below wr.heap.size wr w')) := by
        refine hide ?_
        refine (sameKey_any (R j) (R i) wr.drew).mono ?_
        rintro e w' ⟨rfl, hB⟩
        exact ⟨rfl, (Below.refl _ wr).drew.trans hB⟩
      unfold reVal at HC
      generalize hS : sameB (R j) (R i) = S at *
      have hcells : Hid (∀ w', Below wr.heap.size wr w' → (w'.cell? ⟨b, off + j * 4, none⟩ = some (.string (R j).ty) ∧ w'.cell? ⟨b, off + j * 4 + 1, none⟩ = some (.string (R j).cl) ∧ w'.cell? ⟨b, off + j * 4 + 2, none⟩ = some (.string (R j).nm) ∧ w'.cell? ⟨b, off + j * 4 + 3, none⟩ = some (.slice (R j).sl (R j).len (R j).cap)) ∧
          (w'.cell? ⟨b, off + i * 4, none⟩ = some (.string (R i).ty) ∧ w'.cell? ⟨b, off + i * 4 + 1, none⟩ = some (.string (R i).cl) ∧ w'.cell? ⟨b, off + i * 4 + 2, none⟩ = some (.string (R i).nm) ∧ w'.cell? ⟨b, off + i * 4 + 3, none⟩ = some (.slice (R i).sl (R i).len (R i).cap))) := by
        refine hide ?_
        intro w' hB
        exact ⟨⟨(hB.cell (by exact hbl)).trans g0, (hB.cell (by exact hbl)).trans g1, (hB.cell (by exact hbl)).trans g2, (hB.cell (by exact hbl)).trans g3⟩, ⟨(hB.cell (by exact hbl)).trans k0, (hB.cell (by exact hbl)).trans k1, (hB.cell (by exact hbl)).trans k2, (hB.cell (by exact hbl)).trans k3⟩⟩
      have i1 : (0 : Int) ≤ (j : Int) := by omega
      have i2 : (j : Int) < (n : Int) := by omega
      have i3 : (0 : Int) ≤ (i : Int) := by omega
      have i4 : (i : Int) < (n : Int) := by omega
      go_upto_region 4 with fail
      go_region_held3 (fun w' => (w'.cell? ⟨b, off + j * 4, none⟩ = some (.string (R j).ty) ∧ w'.cell? ⟨b, off + j * 4 + 1, none⟩ = some (.string (R j).cl) ∧ w'.cell? ⟨b, off + j * 4 + 2, none⟩ = some (.string (R j).nm) ∧ w'.cell? ⟨b, off + j * 4 + 3, none⟩ = some (.slice (R j).sl (R j).len (R j).cap)) ∧
          (w'.cell? ⟨b, off + i * 4, none⟩ = some (.string (R i).ty) ∧ w'.cell? ⟨b, off + i * 4 + 1, none⟩ = some (.string (R i).cl) ∧ w'.cell? ⟨b, off + i * 4 + 2, none⟩ = some (.string (R i).nm) ∧ w'.cell? ⟨b, off + i * 4 + 3, none⟩ = some (.slice (R i).sl (R i).len (R i).cap))) (go_keep)
        ((go_at_call 11; refine HC.out.mono ?_; rintro e w' ⟨rfl, hB⟩; have hcl := hcells.out w' hB.out))
      have hbw := hb.trans (hB.out.mono hb.size)
      clear hcl hcells HC g0 g1 g2 g3 k0 k1 k2 k3
      cases S with
      | true =>
        have hsn : seen R i = true := seen_true.2 ⟨j, hlt, hS⟩
        go_wp2
        go_ret
        exact ⟨by rw [hsn]; rfl, hbw⟩
      | false =>
        go_wp2
        go_roundw
        case rel => exact ⟨j + 1, by omega, by go_num, fun m hm => by
          by_cases e : m = j
          · subst e; exact hS
          · exact hno m (by omega), hbw⟩
        case measure => simp [intOf]; omega
    · have e : j = i := by omega
      subst e
      have hB : seen R j = false := seen_false.2 hno
      go_wp2
      go_ret
      exact ⟨by rw [hB]; rfl, hb⟩
end Go.Proofs.Qxb6601693a
