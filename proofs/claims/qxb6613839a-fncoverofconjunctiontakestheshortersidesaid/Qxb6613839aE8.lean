import Derived.Test.Qxb6613839aE7
namespace Go.Proofs.Qxb6613839a
open Go.RowKit
set_option linter.unusedVariables false
set_option linter.unusedSimpArgs false
attribute [local go_sem] hit65 hit56 hit60 hit69 hit68 hit4 hit9 miss65 miss56 miss85 miss60 miss88 miss68 look_nil meth65 meth68 meth69 meth60 meth56 eval65 eval56

/-- What cover answers at a node. -/
def CovAt (w : World) (l : Tm) (ok : Bool) (e : Ending) (w' : World) : Prop :=
  ∃ a n c, e = .returned (.tuple #[.agg #[.slice a n c, .int .i64 l.length], .bool ok]) ∧ w'.ownsRow w.heap.size 32 2 (.slice a n c) l.length (tcells l) ∧ Below w.heap.size w w'
def Cov (T : TypeId) (v : Value) (h : Bool) (l : Tm) (ok : Bool) : Prop := ∀ w, Calls Try.prog 28 #[.iface T v, .bool h, costV] w (CovAt w l ok)

set_option maxRecDepth 100000 in
set_option maxHeartbeats 1000000 in
theorem cov_lit (b h : Bool) : Cov 65 (.agg #[.iface 4 (.bool b)]) h [] (b != h) := by
  intro w
  go_enter Try.func28, Try.ntmps28
  go_wp2_with fail
  go_region
  all_goals (try go_wp2)
  all_goals
    refine bodyPost_ret (v := .tuple #[.agg #[.slice none 0 0, .int .i64 0], .bool (b != h)]) (by simp [results, Try.results28, go_sem, bne]) rfl ?_
    exact ⟨none, 0, 0, rfl, World.ownsRow_nil _ _ _ _, (((Below.refl _ _).alloc (Nat.le_refl _) _).alloc (by simp) _).drew⟩

set_option maxRecDepth 100000 in
set_option maxHeartbeats 1000000 in
theorem cov_eq_false (A B : TypeId) (va vb : Value) : Cov 69 (.agg #[.iface A va, .iface B vb]) false [] false := by
  intro w
  go_enter Try.func28, Try.ntmps28
  go_wp2
  refine bodyPost_ret (v := .tuple #[.agg #[.slice none 0 0, .int .i64 0], .bool false]) (by simp [results, Try.results28, go_sem]) rfl ?_
  exact ⟨none, 0, 0, rfl, World.ownsRow_nil _ _ _ _, ((Below.refl _ _).alloc (Nat.le_refl _) _).alloc (by simp) _⟩


theorem hold_alloc {W : World} {k : Nat} {x : Obj} (h : W.heap[k]? = some x) (o : Obj) : (W.alloc o).heap[k]? = some x := (Below.heap_alloc _ _ _ (lt_of_block h)).trans h
theorem heap_drew' (w : World) : w.drew.heap = w.heap := rfl

/-- The end of a way through cover that hands on what a callee made: the result's variable lies in block w.heap.size. -/
theorem cov_close {w W w1 : World} {v : Value} {n : Nat} {xs : List Value} (hb1 : Below W.heap.size W w1) (hh : W.heap[w.heap.size]? = some (.cells #[.slice none 0 0, .int .i64 0] 79 (0, 0))) (hwW : Below w.heap.size w W) (hv : w1.ownsRow W.heap.size 32 2 v n xs) :
    w1.cell? ⟨w.heap.size, 0, none⟩ = some (.slice none 0 0) ∧ w1.cell? ⟨w.heap.size, 1, none⟩ = some (.int .i64 0) ∧ w1.frozen? ⟨w.heap.size, 0, none⟩ = false ∧ w1.frozen? ⟨w.heap.size, 1, none⟩ = false ∧
    ∀ x y, ((w1.setCell ⟨w.heap.size, 0, none⟩ x).setCell ⟨w.heap.size, 1, none⟩ y).ownsRow w.heap.size 32 2 v n xs ∧ Below w.heap.size w ((w1.setCell ⟨w.heap.size, 0, none⟩ x).setCell ⟨w.heap.size, 1, none⟩ y) := by
  have hlt := lt_of_block hh
  have h1 : w1.heap[w.heap.size]? = some (.cells #[.slice none 0 0, .int .i64 0] 79 (0, 0)) := (hb1.block _ hlt).trans hh
  refine ⟨by simp [World.cell?, h1], by simp [World.cell?, h1], by simp [World.frozen?, h1], by simp [World.frozen?, h1], fun x y => ⟨?_, ?_⟩⟩
  · exact owns_base2 (ownsRow_setCell_below (ownsRow_setCell_below hv hlt _) hlt _) (Nat.le_of_lt hlt)
  · exact ((below_next hwW hb1).setCell (Nat.le_refl _) _).setCell (Nat.le_refl _) _
end Go.Proofs.Qxb6613839a
