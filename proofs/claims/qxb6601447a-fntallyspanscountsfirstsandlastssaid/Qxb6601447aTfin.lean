/-
  isTallyOf AND isSortedExpansion AT THE TALLY OF A SORTED LIST.
-/
import Derived.Test.Qxb6601447aTis
import Derived.Test.Qxb6601447aTsp
namespace Go.Proofs.Qxb6601447a
open Go.RowKit
open Go.Proofs.Qxb6601447a.Cyc Go.Proofs.Qxb6601447a.Mem Go.Proofs.Qxb6601447a.Tal

theorem upto_le (T : List (Int × Int)) (k : Nat) : upto T k ≤ (expand T).length := by
  have e : expand T = expand (T.take k) ++ expand (T.drop k) := by rw [← expand_append, List.take_append_drop]
  rw [e, List.length_append]
  exact Nat.le_add_right _ _

/-- The tally of the first n values of p. -/
def tly (p : Nat → Int) (n : Nat) : List (Int × Int) := tal (srt (lst p n))
theorem tly_good (p : Nat → Int) (n : Nat) : Tal.Good (srt (lst p n)) (tly p n) := tal_good_all (srt_sorted _)
theorem tly_exp (p : Nat → Int) (n : Nat) : expand (tly p n) = srt (lst p n) := (tly_good p n).exp
theorem tly_len (p : Nat → Int) (n : Nat) : (expand (tly p n)).length = n := by rw [tly_exp, length_srt, length_lst]
theorem tly_le (p : Nat → Int) (n : Nat) : (tly p n).length ≤ n := by
  have := (tly_good p n).le.1
  rwa [length_srt, length_lst] at this

theorem isTally_call (a a1 a2 : Option Addr) (n cap c1 c2 : Nat) (p : Nat → Int) (w : World) (hn : n ≤ 4096) (hs : Sl (Value.int .i32) w a n p) (h1 : Sl (Value.int .i32) w a1 (tly p n).length (num (tly p n))) (h2 : Sl (Value.int .i32) w a2 (tly p n).length (tim (tly p n))) :
    Calls Try.prog 17 #[.slice a n cap, .slice a1 (tly p n).length c1, .slice a2 (tly p n).length c2] w fun e w' => e = .returned (.bool true) ∧ ∃ m, w' = w.drewN m := by
  have h := isTally_of (srt_perm (lst p n)) (tly_good p n)
  exact isTally_yes a a1 a2 n cap c1 c2 _ p (num (tly p n)) (tim (tly p n)) (upto (tly p n)) w hn (Nat.le_trans (tly_le p n) hn) hs h1 h2 h.inc h.pos h.le h.cnt rfl (fun k hk => upto_succ hk) h.sum (fun k _ => by have := upto_le (tly p n) k; rwa [tly_len] at this)

theorem isExpansion_call (a a1 a2 : Option Addr) (n cap c1 c2 : Nat) (p : Nat → Int) (w : World) (hn : n ≤ 4096) (hs : Sl (Value.int .i32) w a n (fun i => (srt (lst p n)).getD i 0)) (h1 : Sl (Value.int .i32) w a1 (tly p n).length (num (tly p n))) (h2 : Sl (Value.int .i32) w a2 (tly p n).length (tim (tly p n))) :
    Calls Try.prog 18 #[.slice a n cap, .slice a1 (tly p n).length c1, .slice a2 (tly p n).length c2] w fun e w' => e = .returned (.bool true) ∧ ∃ m, w' = w.drewN m := by
  have h := isTally_of (srt_perm (lst p n)) (tly_good p n)
  refine isExpansion_yes a a1 a2 n cap c1 c2 _ _ (num (tly p n)) (tim (tly p n)) (upto (tly p n)) w hn (Nat.le_trans (tly_le p n) hn) hs h1 h2 (fun k c hk hc => ?_) h.pos h.le rfl (fun k hk => upto_succ hk) h.sum (fun k _ => by have := upto_le (tly p n) k; rwa [tly_len] at this)
  have := expand_at hk hc
  rw [tly_len, tly_exp] at this
  exact this

/-- ZZtallyOf, in these words. -/
theorem zzTally_tly (B : Nat) (a : Option Addr) (n cap : Nat) (p : Nat → Int) (w : World) (hn : n ≤ 4096) (h : OwnSl (Value.int .i32) w B a n p) :
    Calls Try.prog 16 #[.slice a n cap] w fun e w' => ∃ a1 a2 c1 c2, e = .returned (.tuple #[.slice a1 (tly p n).length c1, .slice a2 (tly p n).length c2]) ∧
      OwnSl (Value.int .i32) w' w.heap.size a1 (tly p n).length (num (tly p n)) ∧ OwnSl (Value.int .i32) w' w.heap.size a2 (tly p n).length (tim (tly p n)) ∧
      OwnSl (Value.int .i32) w' B a n (fun i => (srt (lst p n)).getD i 0) ∧ w.grownBy w' (rowOf n a) := zzTally_any B a n cap p w hn h

end Go.Proofs.Qxb6601447a
