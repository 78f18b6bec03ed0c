import Derived.Test.Qxb6613839aE17
namespace Go.Proofs.Qxb6613839a
open Go.RowKit
set_option linter.unusedVariables false
set_option linter.unusedSimpArgs false

/-- A call that hands out a pointer to an expression. -/
def Gives (w : World) (T : TypeId) (v : Value) (e : Ending) (w' : World) : Prop := ∃ p, e = .returned (.pointer (some ⟨p, 0, none⟩)) ∧ Expr w' p T v ∧ Below w.heap.size w w'

theorem Es.drew {w : World} {B n k : Nat} {s0 s1 : Nat → ByteArray} {fl : Nat → Bool} (h : Es w B n k s0 s1 fl) : Es w.drew B n k s0 s1 fl := h.below ((Below.refl _ _).drew)
theorem Expr.drew {w : World} {p : Nat} {T : TypeId} {v : Value} (h : Expr w p T v) : Expr w.drew p T v := h.below ((Below.refl _ _).drew)
theorem Expr.alloc {w : World} {p : Nat} {T : TypeId} {v : Value} (h : Expr w p T v) (o : Obj) : Expr (w.alloc o) p T v := h.below ((Below.refl _ _).alloc (Nat.le_refl _) _)

theorem or_whole (B n : Nat) (s0 s1 : Nat → ByteArray) (fl : Nat → Bool) (hn : n ≤ 4096) :
    ∃ T v, Hid (Cov T v true (prs s0 s1 n) true) ∧ Hid (∀ W c, Es W B n n s0 s1 fl → Calls Try.prog 9 #[.slice (some ⟨B, 0, none⟩) n c] W (Gives W T v)) := by
  have hl : (tms s0 s1 n).flatten.length ≤ 100000 := by rw [tms_flat, prs_length]; omega
  have hg := (or_good (nds_good s0 s1 fl n) hl).1
  rw [tms_flat] at hg
  exact ⟨_, _, hg.cov, fun W c h => or_nodes (nds_good s0 s1 fl n) hl _ n c W h.whole (by omega)⟩

theorem pair_ptrs {w : World} {g p q : Nat} {x y : Nd} (h0 : w.cell? ⟨g, 0, none⟩ = some (.pointer (some ⟨p, 0, none⟩))) (h1 : w.cell? ⟨g, 1, none⟩ = some (.pointer (some ⟨q, 0, none⟩))) (hp : Expr w p (ndPair x).1 (ndPair x).2) (hq : Expr w q (ndPair y).1 (ndPair y).2) : Ptrs w (some ⟨g, 0, none⟩) 2 [x, y] := by
  refine ⟨rfl, .inr ⟨g, 0, rfl, fun i z hi => ?_⟩⟩
  match i, hi with
  | 0, hi => simp at hi; subst hi; exact ⟨p, h0, hp⟩
  | 1, hi => simp at hi; subst hi; exact ⟨q, h1, hq⟩

theorem Es.right' {w : World} {B n m l : Nat} {a : Option Addr} {s0 s1 : Nat → ByteArray} {fl : Nat → Bool} (h : Es w B n n s0 s1 fl) (hm : m ≤ n) (hr : (l = 0 ∧ n = m) ∨ (a = some ⟨B, m, none⟩ ∧ l = n - m)) : Ptrs w a l ((nds s0 s1 fl n).drop m) := by
  have hR := h.right hm
  rcases hr with ⟨rfl, e⟩ | ⟨rfl, rfl⟩
  · exact ⟨by rw [← hR.1]; omega, .inl rfl⟩
  · exact hR

theorem or_split (B n m : Nat) (s0 s1 : Nat → ByteArray) (fl : Nat → Bool) (hn : n ≤ 4096) (hm : m ≤ n) :
    ∃ T v TA vA TB vB, Hid (Cov T v true (prs s0 s1 n) true) ∧ Hid (∀ W c, Es W B n n s0 s1 fl → Calls Try.prog 9 #[.slice (some ⟨B, 0, none⟩) m c] W (Gives W TA vA)) ∧
      Hid (∀ W a l c, Es W B n n s0 s1 fl → ((l = 0 ∧ n = m) ∨ (a = some ⟨B, m, none⟩ ∧ l = n - m)) → Calls Try.prog 9 #[.slice a l c] W (Gives W TB vB)) ∧
      Hid (∀ W g c p q, W.cell? ⟨g, 0, none⟩ = some (.pointer (some ⟨p, 0, none⟩)) → W.cell? ⟨g, 1, none⟩ = some (.pointer (some ⟨q, 0, none⟩)) → Expr W p TA vA → Expr W q TB vB → Calls Try.prog 9 #[.slice (some ⟨g, 0, none⟩) 2 c] W (Gives W T v)) := by
  have hcut := tms_cut s0 s1 n m
  have hlen : ((tms s0 s1 n).take m).flatten.length + ((tms s0 s1 n).drop m).flatten.length = n := by rw [← List.length_append, hcut, prs_length]
  have hA := nds_take s0 s1 fl n m
  have hB := nds_drop s0 s1 fl n m
  have gA := (or_good hA (by omega)).1
  have gB := (or_good hB (by omega)).1
  have hAB : AllGood [ndOf ((nds s0 s1 fl n).take m), ndOf ((nds s0 s1 fl n).drop m)] [((tms s0 s1 n).take m).flatten, ((tms s0 s1 n).drop m).flatten] := ⟨gA, gB, trivial⟩
  have hfl : [((tms s0 s1 n).take m).flatten, ((tms s0 s1 n).drop m).flatten].flatten = prs s0 s1 n := by
    rw [← hcut]; simp only [List.flatten_cons, List.flatten_nil, List.append_nil]
  have hl : [((tms s0 s1 n).take m).flatten, ((tms s0 s1 n).drop m).flatten].flatten.length ≤ 100000 := by rw [hfl, prs_length]; omega
  have g := (or_good hAB hl).1
  rw [hfl] at g
  exact ⟨_, _, _, _, _, _, g.cov, fun W c h => or_nodes hA (by omega) _ m c W (h.left hm) (by omega), fun W a l c h hr => or_nodes hB (by omega) a l c W (h.right' hm hr) (by omega),
    fun W g c p q h0 h1 hp hq => or_nodes hAB hl _ 2 c W (pair_ptrs h0 h1 hp hq) (by omega)⟩
end Go.Proofs.Qxb6613839a
