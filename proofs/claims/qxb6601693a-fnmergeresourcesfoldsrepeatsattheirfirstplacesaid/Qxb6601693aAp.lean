/-
  APPEND of strings onto a row of the call's own; the merged rows in memory; walks: Resource.key (20), slices.Clone (21).
-/
import Derived.Test.Qxb6601693aWd
import Derived.Test.Qxb6601693aKey
import Derived.Maps.AppendAt
import Derived.Laws.OwnMore
import Derived.Laws.AppendOwnNone
import Derived.Deep.AppendLies
namespace Go.Proofs.Qxb6601693a
open Go.RowKit
open Go.Proofs.Qxb6601693a.Mem
set_option linter.unusedVariables false

/-- The cells of a list of strings. -/
def strs (l : List ByteArray) : List Value := l.map Value.string

/-- What an append of m strings onto the row v of n leaves. -/
def App (w : World) (base : Nat) (v : Value) (n : Nat) (xs : List ByteArray) (m : Nat) (src : Nat → ByteArray) (a' : Option Addr) (c' : Nat) (w' : World) : Prop :=
  w'.ownsRow base 9 1 (.slice a' (n + m) c') (n + m) (strs (xs ++ (List.range m).map src)) ∧ w.grownBy w' v.ownBlock ∧ (a' = none ↔ v = .slice none 0 0 ∧ m = 0) ∧
    ((Value.slice a' (n + m) c').ownBlock = v.ownBlock ∨ (Value.slice a' (n + m) c').ownBlock = some w.heap.size)

theorem run_app (w : World) (ty base : Nat) (v : Value) (n : Nat) (xs : List ByteArray) (hown : w.ownsRow base 9 1 v n (strs xs)) (ad : Option Addr) (m c : Nat) (src : Nat → ByteArray)
    (hnil : ad = none → m = 0 ∧ c = 0) (hsrc : Sl Value.string w ad m src) (hb : n + m ≤ 1073741824) (hbase : base ≤ w.heap.size) :
    ∃ a' c' w', (Builtin.append_ #[29, 29] ty #[v, .slice ad m c]).run Try.prog w = .ok (.slice a' (n + m) c') w' ∧ App w base v n xs m src a' c' w' := by
  obtain ⟨i0, hi, hz0, hz1, hz2⟩ := info_parts Try.info9
  rcases ad with _ | ad
  · obtain ⟨rfl, rfl⟩ := hnil rfl
    have hr := run_append_owned_none (P := Try.prog) w base 29 ty 9 i0 1 Try.underlying29 hi v n _ hown
    rcases hown.2 with ⟨rfl, rfl⟩ | ⟨g, cap, cur, rfl, hbg, hg, hnc, hcm, hcs, htake⟩
    · exact ⟨none, 0, w, hr, by simpa [strs] using hown, ⟨rfl, rfl, rfl, Nat.le_refl _, fun _ _ _ => rfl⟩, by simp, .inl rfl⟩
    · exact ⟨_, cap, w, hr, by simpa [strs] using hown, ⟨rfl, rfl, rfl, Nat.le_refl _, fun _ _ _ => rfl⟩, by simp, .inl rfl⟩
  · obtain ⟨v', w', hr, h2, h3, h4, h5⟩ := run_append_own_at (P := Try.prog) w base 29 ty 9 i0 (.string ⟨#[]⟩) 1 16 Try.underlying29 hi hz0 hz1 hz2 rfl (by omega) v n _ hown ad m c (strs ((List.range m).map src)) (by simp [strs]) (fun j u hj => by
        have hjm : j < m := by
          have := (List.getElem?_eq_some_iff.1 hj).1
          simpa [strs] using this
        rcases hsrc with h | ⟨b, off, e, hl, hc⟩
        · omega
        · obtain rfl := Option.some.inj e
          have : (strs ((List.range m).map src))[j]? = some (.string (src j)) := by simp [strs, hjm]
          rw [this] at hj
          obtain rfl := Option.some.inj hj
          have hadd : (⟨b, off, none⟩ : Addr).add j = ⟨b, off + j, none⟩ := by unfold Addr.add; split <;> simp_all
          rw [hadd]; exact hc j hjm) (fun u hu => by
        simp only [strs, List.mem_map] at hu
        obtain ⟨s, _, rfl⟩ := hu
        rfl) (by unfold maxLen; omega) (by omega) hbase
    have h2' : w'.ownsRow base 9 1 v' (n + m) (strs (xs ++ (List.range m).map src)) := by simpa [strs] using h2
    rcases h2.2 with ⟨rfl, hz⟩ | ⟨g, cap, cur, rfl, hbg, hg, hnc, hcm, hcs, htake⟩
    · refine ⟨none, 0, w', ?_, ?_, h3, ?_, ?_⟩
      · rw [hz]; exact hr
      · rw [hz] at h2' ⊢; exact h2'
      · exact ⟨fun _ => h4.1 rfl, fun _ => rfl⟩
      · simpa [Value.ownBlock] using h5
    · refine ⟨_, cap, w', hr, h2', h3, ?_, h5⟩
      constructor
      · intro h; cases h
      · intro h; have := h4.2 h; cases this

section
variable (w : World) {ops : Array Oper} {rest : List Oper} {o : Oper} {a : Act} {Q : Exit → Act → World → Prop} {K : Act → World → Prop} {E : Prop}

theorem wp_app (s x : Operand) (ho : o.op = .call { callee := .builtin .append, args := #[s, x], argTypes := #[29, 29] })
    (base : Nat) (v : Value) (n : Nat) (xs : List ByteArray) (hs : a.eval s = v) (hown : w.ownsRow base 9 1 v n (strs xs)) (ad : Option Addr) (m c : Nat) (src : Nat → ByteArray) (hx : a.eval x = .slice ad m c)
    (hnil : ad = none → m = 0 ∧ c = 0) (hsrc : Sl Value.string w ad m src) (hb : n + m ≤ 1073741824) (hbase : base ≤ w.heap.size)
    (h : ∀ a' c' w', App w base v n xs m src a' c' w' → K (a.put o.dst (.slice a' (n + m) c')) w') : o.wp Try.prog a w K Q := by
  obtain ⟨a', c', w', hr, hA⟩ := run_app w o.type base v n xs hown ad m c src hnil hsrc hb hbase
  unfold Oper.wp execOp
  simp only [ho, resolve, invoke, builtin, Sem.run_bind, Sem.run_pure, Result.andThen_ok, List.map_toArray, List.map_cons, List.map_nil, hs, hx, hr]
  exact h a' c' w' hA

theorem wpList_app (hgd : o.guard = none) (s x : Operand) (ho : o.op = .call { callee := .builtin .append, args := #[s, x], argTypes := #[29, 29] })
    (base : Nat) (v : Value) (n : Nat) (xs : List ByteArray) (hs : a.eval s = v) (hown : w.ownsRow base 9 1 v n (strs xs)) (ad : Option Addr) (m c : Nat) (src : Nat → ByteArray) (hx : a.eval x = .slice ad m c)
    (hnil : ad = none → m = 0 ∧ c = 0) (hsrc : Sl Value.string w ad m src) (hb : n + m ≤ 1073741824) (hbase : base ≤ w.heap.size)
    (h : ∀ a' c' w', App w base v n xs m src a' c' w' → wpList Try.prog ops Q rest (a.put o.dst (.slice a' (n + m) c')) w') : wpList Try.prog ops Q (o :: rest) a w :=
  wpList_plain hgd fun _ hK => wp_app w s x ho base v n xs hs hown ad m c src hx hnil hsrc hb hbase fun a' c' w' hA => hK _ _ (h a' c' w' hA)

theorem step_app (hgd : o.guard = none) (s x : Operand) (ho : o.op = .call { callee := .builtin .append, args := #[s, x], argTypes := #[29, 29] })
    (base : Nat) (v : Value) (n : Nat) (xs : List ByteArray) (hs : a.eval s = v) (hown : w.ownsRow base 9 1 v n (strs xs)) (ad : Option Addr) (m c : Nat) (src : Nat → ByteArray) (hx : a.eval x = .slice ad m c)
    (hnil : ad = none → m = 0 ∧ c = 0) (hsrc : Sl Value.string w ad m src) (hb : n + m ≤ 1073741824) (hbase : base ≤ w.heap.size)
    (h : ∀ a' c' w', App w base v n xs m src a' c' w' → K (a.put o.dst (.slice a' (n + m) c')) w') :
    if Region.wanted o (yielded ops a.tmps) = true then Oper.wp Try.prog o a w K Q else E := by
  have hw : Region.wanted o (yielded ops a.tmps) = true := by simp [Region.wanted, hgd]
  rw [if_pos hw]
  exact wp_app w s x ho base v n xs hs hown ad m c src hx hnil hsrc hb hbase h
end

/-- Resource.key. -/
theorem key_any (r : Re) (w : World) : Calls Try.prog 20 #[reVal r] w fun e w' => e = .returned (kv r.ty r.cl r.nm) ∧ Below w.heap.size w w' := by
  unfold reVal kv
  go_enter Try.func20, Try.ntmps20
  go_wp2
  exact bodyPost_ret (v := .agg #[.string r.ty, .string r.cl, .string r.nm]) (by simp [results, Try.results20, go_sem]) rfl ⟨rfl, ((Below.refl _ w).alloc (Nat.le_refl _) _).alloc (by simp) _⟩

/-- slices.Clone. -/
theorem clone_any (ad : Option Addr) (m c : Nat) (src : Nat → ByteArray) (w : World) (hnil0 : ad = none → m = 0 ∧ c = 0) (hsrc : Sl Value.string w ad m src) (hb : m ≤ 65536) :
    Calls Try.prog 21 #[.slice ad m c] w fun e w' => ∃ a' c', e = .returned (.slice a' m c') ∧ w'.ownsRow w.heap.size 9 1 (.slice a' m c') m (strs ((List.range m).map src)) ∧ Below w.heap.size w w' ∧ (a' = none ↔ ad = none) := by
  have hnil := fun wx ad l c => Lib.run_eql_slice_nil (P := Try.prog) wx 29 9 ad l c 0 0 Try.underlying29
  rcases ad with _ | ad
  · obtain ⟨rfl, rfl⟩ := hnil0 rfl
    go_enter Try.func21, Try.ntmps21
    go_wp2
    go_ret
    exact ⟨_, _, rfl, ⟨rfl, .inl ⟨rfl, rfl⟩⟩, Below.refl _ _, by simp⟩
  have hO : (w.alloc (.cells #[] 9)).ownsRow w.heap.size 9 1 (.slice (some ⟨w.heap.size, 0, none⟩) 0 0) 0 (strs []) := World.ownsRow_made w #[] 0 (Nat.le_refl _) (Nat.zero_le _) rfl
  go_enter Try.func21, Try.ntmps21
  go_wp2_with (at_builtin; refine wpList_app _ rfl _ _ rfl w.heap.size _ 0 [] rfl hO (some ad) m c src rfl (fun h => by cases h) (hsrc.below ((Below.refl _ _).alloc (Nat.le_refl _) _)) (by omega) (by simp) ?_)
  intro a' c' w' hA
  obtain ⟨h1, h2, h3, h4⟩ := hA
  have h1' : w'.ownsRow w.heap.size 9 1 (.slice a' m c') m (strs ((List.range m).map src)) := by simpa using h1
  have hbw : Below w.heap.size w w' := ((Below.refl _ w).alloc (Nat.le_refl _) _).grown h2 (by simp) (fun k h => by simp [Value.ownBlock] at h; omega)
  have hn : a' = none ↔ some ad = none := by rw [h3]; simp
  clear h1 h2 h3 h4 hO hnil
  go_wp2
  go_ret
  exact ⟨_, _, rfl, h1', hbw, hn⟩
end Go.Proofs.Qxb6601693a
