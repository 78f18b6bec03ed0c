import Derived.Test.Qxb6613839aE19
import Derived.Test.Qxb6613839aE20
namespace Go.Proofs.Qxb6613839a
open Go.RowKit
set_option linter.unusedVariables false
set_option linter.unusedSimpArgs false

/-- A node that bind leaves as it is. -/
def Self (x : Nd) : Prop := NonLit x ∧ Binds (ndPair x).1 (ndPair x).2 (toV x)
theorem Good.self {x : Nd} {l : Tm} (h : Good x l) : Self x := ⟨h.non, h.binds⟩
theorem Self.neg' {x : Nd} (h : Self x) : Self (neg x) := by
  match x, h with
  | .inl b, h => exact ⟨trivial, binds_lit (!b)⟩
  | .inr (T, v), h => exact ⟨show ¬ (56 : TypeId) = 65 by decide, binds_not (x := .inr (T, v)) h.2 h.1⟩
theorem Self.dec' {x y : Nd} (h : Self x) (h' : Self y) : Self (dec x y) := by
  match x, y, h, h' with
  | .inl true, _, h, h' => exact ⟨trivial, binds_lit true⟩
  | .inl false, y, h, h' => exact h'
  | .inr (T, v), .inl true, h, h' => exact ⟨trivial, binds_lit true⟩
  | .inr (T, v), .inl false, h, h' => exact h
  | .inr (T, v), .inr (U, u), h, h' => exact ⟨show ¬ (60 : TypeId) = 65 by decide, binds_or (x := .inr (T, v)) (y := .inr (U, u)) h.2 h'.2 h.1 h'.1⟩

theorem not_gives {x : Nd} (h : Self x) (W : World) (p : Nat) (hP : Expr W p (ndPair x).1 (ndPair x).2) : Calls Try.prog 8 #[.pointer (some ⟨p, 0, none⟩)] W (Gives W (ndPair (neg x)).1 (ndPair (neg x)).2) := not_any p x W h.1 h.2 hP

theorem or_gives {x y : Nd} (hx : Self x) (hy : Self y) (W : World) (g c p q : Nat) (h0 : W.cell? ⟨g, 0, none⟩ = some (.pointer (some ⟨p, 0, none⟩))) (h1 : W.cell? ⟨g, 1, none⟩ = some (.pointer (some ⟨q, 0, none⟩))) (hp : Expr W p (ndPair x).1 (ndPair x).2) (hq : Expr W q (ndPair y).1 (ndPair y).2) :
    Calls Try.prog 9 #[.slice (some ⟨g, 0, none⟩) 2 c] W (Gives W (ndPair (dec x y)).1 (ndPair (dec x y)).2) := by
  have hb1 := binds_or (x := .inl false) (y := x) (binds_lit false) hx.2 trivial hx.1
  have hb : Binds (rawOf [x, y]).1 (rawOf [x, y]).2 (toV (dec x y)) := binds_or (x := x) (y := y) hb1 hy.2 hx.1 hy.1
  rw [toV_pair] at hb
  exact or_any _ 2 c [x, y] _ _ W (pair_ptrs h0 h1 hp hq) hb (by omega)

/-- The shorter of two lists of terms, the first on a tie. -/
def shorter (la lb : Tm) : Tm := if lb.length < la.length then lb else la

set_option maxRecDepth 100000 in
theorem conj_cov {x y : Nd} {la lb : Tm} (hx : Good x la) (hy : Good y lb) (hl : la.length + lb.length ≤ 100000) :
    Cov (ndPair (neg (dec (neg x) (neg y)))).1 (ndPair (neg (dec (neg x) (neg y)))).2 true (shorter la lb) true ∧
    ∃ l', Cov (ndPair (neg (neg (dec (neg x) (neg y))))).1 (ndPair (neg (neg (dec (neg x) (neg y))))).2 true l' false := by
  rcases hx with ⟨rfl, rfl⟩ | ⟨T, v, rfl, hT, hb, hc, hf⟩
  · have e : shorter [] lb = [] := by simp [shorter]
    rw [e]
    exact ⟨cov_lit false true, [], cov_lit true true⟩
  · rcases hy with ⟨rfl, rfl⟩ | ⟨U, u, rfl, hU, hb', hc', hf'⟩
    · have e : shorter la [] = [] := by
        unfold shorter
        split
        · rfl
        · next h =>
          have h0 : ¬ 0 < la.length := h
          exact List.eq_nil_of_length_eq_zero (by omega)
      rw [e]
      exact ⟨cov_lit false true, [], cov_lit true true⟩
    · have hA : Cov 56 (.agg #[.iface T v]) false la true := cov_not (h := false) hc
      have hB : Cov 56 (.agg #[.iface U u]) false lb true := cov_not (h := false) hc'
      have hA' : Cov 56 (.agg #[.iface T v]) true [] false := cov_not (h := true) hf
      have hB' : Cov 56 (.agg #[.iface U u]) true [] false := cov_not (h := true) hf'
      have hO : Cov 60 (.agg #[.iface 56 (.agg #[.iface T v]), .iface 56 (.agg #[.iface U u])]) false (shorter la lb) true := by
        unfold shorter
        split
        · next h => exact cov_or_of (fun w => join_f_gt hA hB h w)
        · next h => exact cov_or_of (fun w => join_f_le hA hB (Nat.le_of_not_lt h) w)
      have hO' : Cov 60 (.agg #[.iface 56 (.agg #[.iface T v]), .iface 56 (.agg #[.iface U u])]) true ([] ++ []) false := cov_or_of (fun w => join_tf hA' hB' (Nat.zero_le _) w)
      exact ⟨cov_not (h := true) hO, _, cov_not (h := true) (cov_not (h := false) hO')⟩

/-- All that the law's second half calls. -/
theorem conj_pack {x y : Nd} {la lb : Tm} (hx : Good x la) (hy : Good y lb) (hl : la.length + lb.length ≤ 100000) :
    ∃ TA vA TB vB TO vO TE vE TN vN l',
      Hid (∀ W p, Expr W p (ndPair x).1 (ndPair x).2 → Calls Try.prog 8 #[.pointer (some ⟨p, 0, none⟩)] W (Gives W TA vA)) ∧
      Hid (∀ W p, Expr W p (ndPair y).1 (ndPair y).2 → Calls Try.prog 8 #[.pointer (some ⟨p, 0, none⟩)] W (Gives W TB vB)) ∧
      Hid (∀ W g c p q, W.cell? ⟨g, 0, none⟩ = some (.pointer (some ⟨p, 0, none⟩)) → W.cell? ⟨g, 1, none⟩ = some (.pointer (some ⟨q, 0, none⟩)) → Expr W p TA vA → Expr W q TB vB → Calls Try.prog 9 #[.slice (some ⟨g, 0, none⟩) 2 c] W (Gives W TO vO)) ∧
      Hid (∀ W p, Expr W p TO vO → Calls Try.prog 8 #[.pointer (some ⟨p, 0, none⟩)] W (Gives W TE vE)) ∧
      Hid (∀ W p, Expr W p TE vE → Calls Try.prog 8 #[.pointer (some ⟨p, 0, none⟩)] W (Gives W TN vN)) ∧
      Hid (Cov TE vE true (shorter la lb) true) ∧ Hid (Cov TN vN true l' false) := by
  obtain ⟨hc, l', hc'⟩ := conj_cov hx hy hl
  have sA := hx.self.neg'
  have sB := hy.self.neg'
  exact ⟨_, _, _, _, _, _, _, _, _, _, l', fun W p h => not_gives hx.self W p h, fun W p h => not_gives hy.self W p h, fun W g c p q h0 h1 hp hq => or_gives sA sB W g c p q h0 h1 hp hq,
    fun W p h => not_gives (sA.dec' sB) W p h, fun W p h => not_gives (sA.dec' sB).neg' W p h, hc, hc'⟩
end Go.Proofs.Qxb6613839a
