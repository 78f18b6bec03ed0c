import Derived.Test.Qxb6613839aE2
import Derived.Test.Qxb6613839aE3
import Derived.Test.Qxb6613839aE5
import Derived.Test.Qxb6613839aE10
import Derived.Test.Qxb6613839aE12
namespace Go.Proofs.Qxb6613839a
open Go.RowKit
set_option linter.unusedVariables false
set_option linter.unusedSimpArgs false

/-- What an equality node holds. -/
def leafPay (p s : ByteArray) (flip : Bool) : Value := if flip then .agg #[litS s, nameV p] else .agg #[nameV p, litS s]
theorem binds_leaf (p s : ByteArray) (flip : Bool) : Binds 69 (leafPay p s flip) (.iface 69 (leafPay p s flip)) := by
  cases flip
  · exact ⟨60, meth69 _, call60, fun w => eqbind_nv p s w⟩
  · exact ⟨60, meth69 _, call60, fun w => eqbind_vn p s w⟩
theorem cov_leaf_t (p s : ByteArray) (flip : Bool) : Cov 69 (leafPay p s flip) true [(p, s)] true := by
  cases flip
  · exact cov_nv p s
  · exact cov_vn p s
theorem cov_leaf_f (p s : ByteArray) (flip : Bool) : Cov 69 (leafPay p s flip) false [] false := by
  cases flip
  · exact cov_eq_false _ _ _ _
  · exact cov_eq_false _ _ _ _

def ndPair : Nd → TypeId × Value
  | .inl b => (65, .agg #[.iface 4 (.bool b)])
  | .inr p => p
theorem toV_pair (x : Nd) : toV x = .iface (ndPair x).1 (ndPair x).2 := by
  match x with
  | .inl b => rfl
  | .inr (T, v) => rfl

/-- A node that covers to the terms l: the value false (no terms), or a node that bind leaves as it is. -/
def Good (x : Nd) (l : Tm) : Prop :=
  (x = .inl false ∧ l = []) ∨ ∃ T v, x = .inr (T, v) ∧ ¬ T = 65 ∧ Binds T v (.iface T v) ∧ Cov T v true l true ∧ Cov T v false [] false
theorem Good.non {x : Nd} {l : Tm} (h : Good x l) : NonLit x := by
  rcases h with ⟨rfl, _⟩ | ⟨T, v, rfl, hT, _⟩
  · trivial
  · exact hT
theorem Good.binds {x : Nd} {l : Tm} (h : Good x l) : Binds (ndPair x).1 (ndPair x).2 (toV x) := by
  rcases h with ⟨rfl, _⟩ | ⟨T, v, rfl, hT, hb, _⟩
  · exact binds_lit false
  · exact hb
theorem Good.cov {x : Nd} {l : Tm} (h : Good x l) : Cov (ndPair x).1 (ndPair x).2 true l true := by
  rcases h with ⟨rfl, rfl⟩ | ⟨T, v, rfl, hT, _, hc, _⟩
  · exact cov_lit false true
  · exact hc
theorem Good.nil : Good (.inl false) [] := .inl ⟨rfl, rfl⟩
theorem Good.leaf (p s : ByteArray) (flip : Bool) : Good (.inr (69, leafPay p s flip)) [(p, s)] := .inr ⟨_, _, rfl, by decide, binds_leaf p s flip, cov_leaf_t p s flip, cov_leaf_f p s flip⟩
theorem Good.dec {x y : Nd} {la lb : Tm} (hx : Good x la) (hy : Good y lb) (hl : la.length + lb.length ≤ 100000) : Good (dec x y) (la ++ lb) := by
  rcases hx with ⟨rfl, rfl⟩ | ⟨T, v, rfl, hT, hb, hc, hf⟩
  · exact hy
  · rcases hy with ⟨rfl, rfl⟩ | ⟨U, u, rfl, hU, hb', hc', hf'⟩
    · rw [List.append_nil]
      exact .inr ⟨T, v, rfl, hT, hb, hc, hf⟩
    · refine .inr ⟨60, _, rfl, by decide, ?_, cov_or_of (fun w => join_t hc hc' hl w), cov_or_of (fun w => join_f_no false hf hf' w)⟩
      exact binds_or (x := .inr (T, v)) (y := .inr (U, u)) hb hb' hT hU

/-- The raw node that join builds, and what it is bound to. -/
def rawStep (acc e : TypeId × Value) : TypeId × Value := (60, .agg #[.iface acc.1 acc.2, .iface e.1 e.2])
def rawOf (ys : List Nd) : TypeId × Value := ys.foldl (fun acc y => rawStep acc (ndPair y)) (65, .agg #[.iface 4 (.bool false)])
def ndOf (ys : List Nd) : Nd := ys.foldl dec (.inl false)
theorem rawOf_snoc (ys : List Nd) (y : Nd) : rawOf (ys ++ [y]) = rawStep (rawOf ys) (ndPair y) := by simp [rawOf]
theorem ndOf_snoc (ys : List Nd) (y : Nd) : ndOf (ys ++ [y]) = dec (ndOf ys) y := by simp [ndOf]

/-- Each of the nodes covers to its terms. -/
def AllGood : List Nd → List Tm → Prop
  | [], [] => True
  | y :: ys, l :: ls => Good y l ∧ AllGood ys ls
  | _, _ => False

theorem fold_good {N : Nat} (hN : N ≤ 100000) : ∀ (ys : List Nd) (ls : List Tm) (acc : TypeId × Value) (x : Nd) (lx : Tm), AllGood ys ls → Good x lx → Binds acc.1 acc.2 (toV x) → lx.length + ls.flatten.length ≤ N →
    Good (ys.foldl dec x) (lx ++ ls.flatten) ∧ Binds (ys.foldl (fun acc y => rawStep acc (ndPair y)) acc).1 (ys.foldl (fun acc y => rawStep acc (ndPair y)) acc).2 (toV (ys.foldl dec x)) := by
  intro ys
  induction ys with
  | nil =>
    intro ls acc x lx h hx hb hl
    cases ls with
    | nil => rw [List.flatten_nil, List.append_nil]; exact ⟨hx, hb⟩
    | cons l ls => cases h
  | cons y ys ih =>
    intro ls acc x lx h hx hb hl
    cases ls with
    | nil => cases h
    | cons l ls =>
      rw [List.flatten_cons, List.length_append] at hl
      have hd := hx.dec h.1 (Nat.le_trans (by omega) hN)
      have hbb : Binds (rawStep acc (ndPair y)).1 (rawStep acc (ndPair y)).2 (toV (dec x y)) := by
        have := binds_or (x := x) (y := y) hb h.1.binds hx.non h.1.non
        exact this
      have := ih ls (rawStep acc (ndPair y)) (dec x y) (lx ++ l) h.2 hd hbb (by rw [List.length_append]; omega)
      rw [List.flatten_cons, ← List.append_assoc]
      exact this

theorem or_good {ys : List Nd} {ls : List Tm} (h : AllGood ys ls) (hl : ls.flatten.length ≤ 100000) : Good (ndOf ys) ls.flatten ∧ Binds (rawOf ys).1 (rawOf ys).2 (toV (ndOf ys)) := by
  have := fold_good (Nat.le_refl 100000) ys ls (65, .agg #[.iface 4 (.bool false)]) (.inl false) [] h Good.nil (binds_lit false) (by simpa using hl)
  simpa [ndOf, rawOf] using this
end Go.Proofs.Qxb6613839a
