import Derived.Test.Qxb6613839aE8
namespace Go.Proofs.Qxb6613839a
open Go.RowKit
set_option linter.unusedVariables false
set_option linter.unusedSimpArgs false
attribute [local go_sem] hit65 hit56 hit60 hit69 hit68 hit4 hit9 miss65 miss56 miss85 miss60 miss88 miss68 look_nil meth65 meth68 meth69 meth60 meth56 eval65 eval56

theorem newd {W : World} {n : Nat} {t : TypeId} {a : Value} (h : W.heap.size = n) : (W.alloc (.cells #[a] t)).drew.cell? ⟨n, 0, none⟩ = some a := by
  subst h
  show (W.alloc (.cells #[a] t)).cell? ⟨W.heap.size, 0, none⟩ = some a
  simp

set_option maxRecDepth 100000 in
set_option maxHeartbeats 2000000 in
theorem cov_nv (p s : ByteArray) : Cov 69 (.agg #[nameV p, litS s]) true [(p, s)] true := by
  intro w
  go_enter Try.func28, Try.ntmps28
  go_wp2_with fail
  refine wp_loop_rounds 1 ?_
  rw [rounds_succ]
  go_wp2_with fail
  go_region_with (first | (go_at_call 30; refine (terms_one _ _ _ _ _ (by exact newd (by simp))).mono ?_; rintro e w1 ⟨v, rfl, hv, hb1⟩; obtain ⟨g1, cap1, rfl⟩ := owns_form2 hv; obtain ⟨hc1, hf1⟩ := bcell hb1; have HV := hid hv; clear hv))
  all_goals
    obtain ⟨e0, e1, _, _, fin⟩ := cov_close (w := w) hb1 (by rw [heap_drew']; (iterate 6 (refine hold_alloc ?_ _)); exact heap_alloc_new w _) (by repeat (first | exact Below.refl _ _ | refine Below.drew ?_ | refine Below.alloc ?_ (by simp <;> omega) _)) HV.out
    clear hc1 hf1 hb1
    go_wp2
    refine bodyPost_ret (v := .tuple #[.agg #[.slice (some ⟨g1, 0, none⟩) 1 cap1, .int .i64 1], .bool true]) (by simp [results, Try.results28, go_sem, e0, e1]) rfl ?_
    exact ⟨_, _, _, rfl, fin _ _⟩
end Go.Proofs.Qxb6613839a
