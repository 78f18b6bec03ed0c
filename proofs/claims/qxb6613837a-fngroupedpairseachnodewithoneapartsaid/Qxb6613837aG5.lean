import Derived.Test.Qxb6613837aG4
namespace Go.Proofs.Qxb6613837a
set_option linter.unusedVariables false

/-- A network as the list of its edges: from, to, capacity. -/
abbrev Es := List (Nat × Nat × Nat)
def edgeAt (es : Es) (i : Nat) : Nat × Nat × Nat := es.getD i (0, 0, 0)
def headL (es : Es) (e : Nat) : Nat := if e % 2 = 0 then (edgeAt es (e / 2)).2.1 else (edgeAt es (e / 2)).1
def roomL (es : Es) (e : Nat) : Nat := if e % 2 = 0 then (edgeAt es (e / 2)).2.2 else 0
def outL (es : Es) (x : Nat) : List Nat := (List.range (2 * es.length)).filter fun e => headL es (mate e) == x

theorem edgeAt_old (es : Es) (x : Nat × Nat × Nat) {i : Nat} (h : i < es.length) : edgeAt (es ++ [x]) i = edgeAt es i := by
  unfold edgeAt
  rw [List.getD_eq_getElem?_getD, List.getD_eq_getElem?_getD, List.getElem?_append_left h]
theorem edgeAt_new (es : Es) (x : Nat × Nat × Nat) : edgeAt (es ++ [x]) es.length = x := by
  unfold edgeAt
  rw [List.getD_eq_getElem?_getD, List.getElem?_append_right (Nat.le_refl _)]
  simp
theorem headL_old (es : Es) (x : Nat × Nat × Nat) {e : Nat} (h : e < 2 * es.length) : headL (es ++ [x]) e = headL es e := by
  unfold headL
  rw [edgeAt_old es x (by omega)]
theorem roomL_old (es : Es) (x : Nat × Nat × Nat) {e : Nat} (h : e < 2 * es.length) : roomL (es ++ [x]) e = roomL es e := by
  unfold roomL
  rw [edgeAt_old es x (by omega)]
theorem headL_new0 (es : Es) (u v c : Nat) : headL (es ++ [(u, v, c)]) (2 * es.length) = v := by
  unfold headL
  rw [if_pos (by omega), show 2 * es.length / 2 = es.length by omega, edgeAt_new]
theorem headL_new1 (es : Es) (u v c : Nat) : headL (es ++ [(u, v, c)]) (2 * es.length + 1) = u := by
  unfold headL
  rw [if_neg (by omega), show (2 * es.length + 1) / 2 = es.length by omega, edgeAt_new]
theorem roomL_new0 (es : Es) (u v c : Nat) : roomL (es ++ [(u, v, c)]) (2 * es.length) = c := by
  unfold roomL
  rw [if_pos (by omega), show 2 * es.length / 2 = es.length by omega, edgeAt_new]
theorem roomL_new1 (es : Es) (u v c : Nat) : roomL (es ++ [(u, v, c)]) (2 * es.length + 1) = 0 := by
  unfold roomL
  rw [if_neg (by omega)]

theorem mate_even (n : Nat) : mate (2 * n) = 2 * n + 1 := by unfold mate; rw [if_pos (by omega)]
theorem mate_odd (n : Nat) : mate (2 * n + 1) = 2 * n := by unfold mate; rw [if_neg (by omega)]; omega

theorem outL_snoc (es : Es) (u v c x : Nat) : outL (es ++ [(u, v, c)]) x = outL es x ++ (if u = x then [2 * es.length] else []) ++ (if v = x then [2 * es.length + 1] else []) := by
  unfold outL
  rw [List.length_append, List.length_singleton, show 2 * (es.length + 1) = 2 * es.length + 1 + 1 by omega, List.range_succ, List.range_succ, List.filter_append, List.filter_append]
  have h1 : List.filter (fun e => headL (es ++ [(u, v, c)]) (mate e) == x) (List.range (2 * es.length)) = List.filter (fun e => headL es (mate e) == x) (List.range (2 * es.length)) := by
    refine List.filter_congr fun e he => ?_
    rw [headL_old es _ (mate_lt (List.mem_range.1 he))]
  rw [h1]
  congr 1
  · congr 1
    simp only [List.filter_cons, List.filter_nil, mate_even, headL_new1, beq_iff_eq]
  · simp only [List.filter_cons, List.filter_nil, mate_odd, headL_new0, beq_iff_eq]

theorem outL_mem {es : Es} {x e : Nat} (h : e ∈ outL es x) : e < 2 * es.length ∧ headL es (mate e) = x := by
  unfold outL at h
  rw [List.mem_filter, List.mem_range] at h
  exact ⟨h.1, by simpa using h.2⟩

theorem wf_of {es : Es} {V : Nat} (h : ∀ i, i < es.length → (edgeAt es i).1 < V ∧ (edgeAt es i).2.1 < V) : Wf V (2 * es.length) (outL es) (headL es) := by
  refine ⟨fun u e he => outL_mem he, fun e he => ?_, fun e he => ?_, fun e he => mate_lt he⟩
  · unfold outL
    rw [List.mem_filter, List.mem_range]
    exact ⟨he, by simp⟩
  · have := h (e / 2) (by omega)
    unfold headL
    split
    · exact this.2
    · exact this.1
end Go.Proofs.Qxb6613837a
