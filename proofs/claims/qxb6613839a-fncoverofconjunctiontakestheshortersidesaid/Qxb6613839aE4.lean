import Derived.Test.Qxb6613839aE1
namespace Go.Proofs.Qxb6613839a
open Go.RowKit
set_option linter.unusedVariables false
attribute [local go_sem] hit65 hit56 hit60 hit69 hit68 hit4 hit9 miss65 miss56 miss85 miss60 miss88 miss68 look_nil meth65 meth68 meth69 meth60 meth56 eval65 eval56

set_option maxRecDepth 100000 in
set_option maxHeartbeats 400000 in
theorem decide_true (T : TypeId) (v : Value) (w : World) :
    Calls Try.prog 54 #[litB true, .iface T v, .bool true] w fun e w' => e = .returned (.tuple #[litB true, .bool true]) ∧ Below w.heap.size w w' := by
  go_enter Try.func54, Try.ntmps54
  go_wp2_with fail
  refine wp_loop_rounds 1 ?_
  rw [rounds_succ]
  go_wp2
  go_ret2
  exact ⟨rfl, by repeat (first | exact Below.refl _ _ | refine Below.alloc ?_ (by simp <;> omega) _)⟩

set_option maxRecDepth 100000 in
set_option maxHeartbeats 400000 in
theorem decide_false (T : TypeId) (v : Value) (w : World) :
    Calls Try.prog 54 #[litB false, .iface T v, .bool true] w fun e w' => e = .returned (.tuple #[.iface T v, .bool true]) ∧ Below w.heap.size w w' := by
  go_enter Try.func54, Try.ntmps54
  go_wp2_with fail
  refine wp_loop_rounds 1 ?_
  rw [rounds_succ]
  go_wp2
  go_ret2
  exact ⟨rfl, by repeat (first | exact Below.refl _ _ | refine Below.alloc ?_ (by simp <;> omega) _)⟩

set_option maxRecDepth 100000 in
set_option maxHeartbeats 1000000 in
theorem decide_lit (T : TypeId) (v : Value) (b : Bool) (w : World) (hT : ¬ T = 65) :
    Calls Try.prog 54 #[.iface T v, litB b, .bool true] w fun e w' => e = .returned (.tuple #[if b then litB true else .iface T v, .bool true]) ∧ Below w.heap.size w w' := by
  cases b
  all_goals
    go_enter Try.func54, Try.ntmps54
    go_wp2_with fail
    refine wp_loop_rounds 2 ?_
    rw [rounds_succ]
    go_wp2_with fail
    rw [rounds_succ]
    go_wp2
    go_ret2
    exact ⟨rfl, by repeat (first | exact Below.refl _ _ | refine Below.alloc ?_ (by simp <;> omega) _)⟩

set_option maxRecDepth 100000 in
set_option maxHeartbeats 1000000 in
theorem decide_non (T U : TypeId) (v u : Value) (w : World) (hT : ¬ T = 65) (hU : ¬ U = 65) :
    Calls Try.prog 54 #[.iface T v, .iface U u, .bool true] w fun e w' => e = .returned (.tuple #[.nilIface, .bool false]) ∧ Below w.heap.size w w' := by
  go_enter Try.func54, Try.ntmps54
  go_wp2_with fail
  refine wp_loop_rounds 3 ?_
  rw [rounds_succ]
  go_wp2_with fail
  rw [rounds_succ]
  go_wp2_with fail
  rw [rounds_succ]
  go_wp2
  go_ret2
  exact ⟨rfl, by repeat (first | exact Below.refl _ _ | refine Below.alloc ?_ (by simp <;> omega) _)⟩
end Go.Proofs.Qxb6613839a
