import Derived.Test.Qxb6613839aE1
namespace Go.Proofs.Qxb6613839a
open Go.RowKit
set_option linter.unusedVariables false
attribute [local go_sem] hit65 hit56 hit60 hit69 hit68 hit4 hit9 miss65 miss56 miss85 miss60 miss88 miss68 look_nil meth65 meth68 meth69 meth60 meth56 eval65 eval56

set_option maxRecDepth 100000 in
set_option maxHeartbeats 1000000 in
theorem eqbind_vn (p s : ByteArray) (w : World) :
    Calls Try.prog 60 #[.agg #[litS s, nameV p], .map none] w fun e w' => e = .returned (eqV (litS s) (nameV p)) ∧ Below w.heap.size w w' := by
  go_enter Try.func60, Try.ntmps60
  go_wp2_with fail
  go_region_held3 (fun w' => w'.cell? ⟨w.heap.size, 0, none⟩ = some (litS s) ∧ w'.cell? ⟨w.heap.size, 1, none⟩ = some (nameV p) ∧ Below w.heap.size w w')
    (first | exact keep2 ‹_› ‹_› | exact keep2_start | exact keep2_alloc ‹_› _ | exact keep2_swap ‹_› (by have h1 := hb1.size; have h2 := hb2.size; (try simp at h1); (try simp at h2); omega) (by have h1 := hb1.size; have h2 := hb2.size; (try simp at h1); (try simp at h2); omega) _ | exact keep2_set ‹_› _ _ _ _ (by have h1 := hb1.size; have h2 := hb2.size; (try simp at h1); (try simp at h2); first | (simp; done) | (simp; omega)) (by have h1 := hb1.size; have h2 := hb2.size; (try simp at h1); (try simp at h2); first | (simp; done) | (simp; omega)) (by have h1 := hb1.size; have h2 := hb2.size; (try simp at h1); (try simp at h2); first | (simp; done) | (simp; omega)) (by have h1 := hb1.size; have h2 := hb2.size; (try simp at h1); (try simp at h2); first | (simp; done) | (simp; omega)) | go_keep)
    (first
      | (go_at_call 55; refine (litbind_any _ _).mono ?_; rintro e w1 ⟨rfl, hb1⟩; obtain ⟨hc1, hf1⟩ := bcell hb1; have hz1 := hb1.size; (try simp at hz1); (try (have hy1 : w.heap.size + 1 < w1.heap.size := by omega)))
      | (go_at_call 58; refine (namebind_any _ _ _).mono ?_; rintro e w2 ⟨rfl, hb2⟩; obtain ⟨hc2, hf2⟩ := bcell hb2; have hz2 := hb2.size; (try simp at hz2)))
  all_goals go_wp2_with fail
  all_goals
    refine (fold_lit_non _ _ _ 68 9 _ _ _ (by decide) (new0 (by simp)) (new1 (by simp))).mono ?_
    rintro e w3 ⟨rfl, hb3⟩
    go_wp2_with fail
    go_ret
    exact ⟨rfl, fold_end (keepB ‹_›) hb3⟩
end Go.Proofs.Qxb6613839a
