import Derived.Test.Qxb6613359aW3
namespace Go.Proofs.Qxb6613359a
open Go.RowKit

theorem owns_base {w : World} {base base' : Nat} {e : TypeId} {v : Value} {n : Nat} {xs : List Value} (h : w.ownsRow base e 1 v n xs) (hb : base' ≤ base) : w.ownsRow base' e 1 v n xs := by
  obtain ⟨h1, h2⟩ := h
  refine ⟨h1, ?_⟩
  rcases h2 with h2 | ⟨g, cap, cur, hv, hg, r⟩
  · exact .inl h2
  · exact .inr ⟨g, cap, cur, hv, by omega, r⟩

set_option maxRecDepth 100000 in
set_option maxHeartbeats 1000000 in
theorem zzeach_any (x : Nat → Int) (w : World) :
    Calls Try.prog 5 #[.agg (cells12 x)] w fun e w' => ∃ gn cn gv cv, e = .returned (.tuple #[.slice (some ⟨gn, 0, none⟩) 12 cn, .slice (some ⟨gv, 0, none⟩) 12 cv]) ∧ w'.ownsRow w.heap.size 9 1 (.slice (some ⟨gn, 0, none⟩) 12 cn) 12 (nms 12) ∧ w'.ownsRow w.heap.size 3 1 (.slice (some ⟨gv, 0, none⟩) 12 cv) 12 (vals x 12) ∧ Below w.heap.size w w' := by
  have e1 : (((w.alloc (.cells (cells12 x) 28)).alloc (.cells #[.slice none 0 0] 23)).alloc (.cells #[.slice none 0 0] 24)).heap[w.heap.size + 1]? = some (.cells #[.slice none 0 0] 23 (0, 0)) := by
    rw [Below.heap_alloc _ _ _ (by simp)]
    simpa using heap_alloc_new (w.alloc (.cells (cells12 x) 28)) (.cells #[.slice none 0 0] 23)
  have e2 : (((w.alloc (.cells (cells12 x) 28)).alloc (.cells #[.slice none 0 0] 23)).alloc (.cells #[.slice none 0 0] 24)).heap[w.heap.size + 2]? = some (.cells #[.slice none 0 0] 24 (0, 0)) := by
    simpa using heap_alloc_new ((w.alloc (.cells (cells12 x) 28)).alloc (.cells #[.slice none 0 0] 23)) (.cells #[.slice none 0 0] 24)
  have E : Hid _ := And.intro e1 e2
  clear e1 e2
  go_enter Try.func5, Try.ntmps5
  go_wp2_with (go_at_call 9; refine (each_any x (w.heap.size + 1) (w.heap.size + 2) _ E.out.1 E.out.2 (by omega)).mono ?_; rintro e w1 ⟨rfl, hinv, hkp⟩)
  obtain ⟨⟨vn, h1, h2⟩, ⟨vv, h3, h4⟩⟩ := hinv
  obtain ⟨gn, cn, rfl⟩ := owns_form h2
  obtain ⟨gv, cv, rfl⟩ := owns_form h4
  have c1 := cell_of_one h1
  have c2 := cell_of_one h3
  have K : Hid (w1.ownsRow w.heap.size 9 1 (.slice (some ⟨gn, 0, none⟩) 12 cn) 12 (nms 12) ∧ w1.ownsRow w.heap.size 3 1 (.slice (some ⟨gv, 0, none⟩) 12 cv) 12 (vals x 12) ∧ Below w.heap.size w w1) := by
    refine ⟨owns_base h2 (by simp; omega), owns_base h4 (by simp; omega), hkp.os, hkp.tape, hkp.output, by have := hkp.size; simp at this; omega, fun j hj => ?_⟩
    rw [hkp.block j (by simp; omega) (by omega) (by omega), Below.heap_alloc _ _ _ (by simp; omega), Below.heap_alloc _ _ _ (by simp; omega), Below.heap_alloc _ _ _ hj]
  clear h1 h2 h3 h4 hkp E
  go_quiet (fail)
  go_wp2
  go_ret2
  exact ⟨_, _, _, _, rfl, K.out.1, K.out.2.1, K.out.2.2.trans ⟨rfl, rfl, rfl, Nat.le_refl _, fun _ _ => rfl⟩⟩
end Go.Proofs.Qxb6613359a
