import Derived.Test.Qxb6613839aE14
namespace Go.Proofs.Qxb6613839a
open Go.RowKit
set_option linter.unusedVariables false
set_option linter.unusedSimpArgs false
attribute [local go_sem] hit65 hit56 hit60 hit69 hit68 hit4 hit9 miss65 miss56 miss85 miss60 miss88 miss68 look_nil meth65 meth68 meth69 meth60 meth56 eval65 eval56

set_option maxRecDepth 100000 in
set_option maxHeartbeats 1000000 in
theorem cover_t (p : Nat) (T : TypeId) (v : Value) (l : Tm) (w : World) (hP : Expr w p T v) (hC : Cov T v true l true) :
    Calls Try.prog 24 #[.pointer (some ⟨p, 0, none⟩), costV] w fun e w' => ∃ a n c, e = .returned (.tuple #[.slice a n c, .bool true]) ∧ w'.ownsRow w.heap.size 32 2 (.slice a n c) l.length (tcells l) ∧ Below w.heap.size w w' := by
  have HC := hid hC
  clear hC
  unfold Expr at hP
  go_enter Try.func24, Try.ntmps24
  go_wp2_with fail
  refine (HC.out _).mono ?_
  rintro e w1 ⟨a, n, c, rfl, hv, hb1⟩
  have V := hid hv
  clear hv
  go_wp2_with fail
  refine bodyPost_ret (v := .tuple #[.slice a n c, .bool true]) (by simp [results, Try.results24, go_sem]) rfl ?_
  exact ⟨_, _, _, rfl, V.out.alloc _, hb1.alloc hb1.size _⟩

set_option maxRecDepth 100000 in
set_option maxHeartbeats 1000000 in
theorem cover_f (p : Nat) (T : TypeId) (v : Value) (l : Tm) (w : World) (hP : Expr w p T v) (hC : Cov T v true l false) :
    Calls Try.prog 24 #[.pointer (some ⟨p, 0, none⟩), costV] w fun e w' => e = .returned (.tuple #[.slice none 0 0, .bool false]) ∧ Below w.heap.size w w' := by
  have HC := hid hC
  clear hC
  unfold Expr at hP
  go_enter Try.func24, Try.ntmps24
  go_wp2_with fail
  refine (HC.out _).mono ?_
  rintro e w1 ⟨a, n, c, rfl, hv, hb1⟩
  clear hv
  go_wp2_with fail
  refine bodyPost_ret (v := .tuple #[.slice none 0 0, .bool false]) (by simp [results, Try.results24, go_sem]) rfl ?_
  exact ⟨rfl, hb1.alloc hb1.size _⟩

set_option maxRecDepth 100000 in
set_option maxHeartbeats 1000000 in
theorem unit_t (p : Nat) (T : TypeId) (v : Value) (l : Tm) (w : World) (hP : Expr w p T v) (hC : Cov T v true l true) :
    Calls Try.prog 10 #[.pointer (some ⟨p, 0, none⟩)] w fun e w' => ∃ a n c, e = .returned (.tuple #[.slice a n c, .bool true]) ∧ w'.ownsRow w.heap.size 32 2 (.slice a n c) l.length (tcells l) ∧ Below w.heap.size w w' := by
  have HC := hid hC
  have HP := hid hP
  clear hC hP
  go_enter Try.func10, Try.ntmps10
  go_wp2_with fail
  refine (cover_t p T v l _ HP.out HC.out).mono ?_
  rintro e w1 ⟨a, n, c, rfl, hv, hb1⟩
  have V := hid hv
  clear hv
  go_wp2_with fail
  refine bodyPost_ret (v := .tuple #[.slice a n c, .bool true]) (by simp [results, Try.results10, go_sem]) rfl ?_
  exact ⟨_, _, _, rfl, V.out, hb1⟩

set_option maxRecDepth 100000 in
set_option maxHeartbeats 1000000 in
theorem unit_f (p : Nat) (T : TypeId) (v : Value) (l : Tm) (w : World) (hP : Expr w p T v) (hC : Cov T v true l false) :
    Calls Try.prog 10 #[.pointer (some ⟨p, 0, none⟩)] w fun e w' => e = .returned (.tuple #[.slice none 0 0, .bool false]) ∧ Below w.heap.size w w' := by
  have HC := hid hC
  have HP := hid hP
  clear hC hP
  go_enter Try.func10, Try.ntmps10
  go_wp2_with fail
  refine (cover_f p T v l _ HP.out HC.out).mono ?_
  rintro e w1 ⟨rfl, hb1⟩
  go_wp2_with fail
  refine bodyPost_ret (v := .tuple #[.slice none 0 0, .bool false]) (by simp [results, Try.results10, go_sem]) rfl ?_
  exact ⟨rfl, hb1⟩
end Go.Proofs.Qxb6613839a
