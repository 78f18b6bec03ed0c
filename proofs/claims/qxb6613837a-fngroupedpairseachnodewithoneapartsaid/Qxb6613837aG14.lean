import Derived.Test.Qxb6613837aG13
namespace Go.Proofs.Qxb6613837a
set_option linter.unusedVariables false

theorem edgeAt_mem {es : Es} {n : Nat} (h : n < es.length) : edgeAt es n ∈ es := by
  unfold edgeAt
  rw [List.getD_eq_getElem?_getD, List.getElem?_eq_getElem h]
  exact List.getElem_mem h
theorem mem_edgeAt {es : Es} {x : Nat × Nat × Nat} (h : x ∈ es) : ∃ n, n < es.length ∧ edgeAt es n = x := by
  obtain ⟨n, hn⟩ := List.getElem?_of_mem h
  obtain ⟨hl, _⟩ := List.getElem?_eq_some_iff.1 hn
  refine ⟨n, hl, ?_⟩
  unfold edgeAt
  rw [List.getD_eq_getElem?_getD, hn]
  rfl
theorem edgeAt_get {es : Es} {n : Nat} (h : n < es.length) : edgeAt es n = es[n] := by
  unfold edgeAt
  rw [List.getD_eq_getElem?_getD, List.getElem?_eq_getElem h]
  rfl
theorem edgeAt_mid (a b : Es) (x : Nat × Nat × Nat) : edgeAt (a ++ x :: b) a.length = x := by
  unfold edgeAt
  rw [List.getD_eq_getElem?_getD, List.getElem?_append_right (Nat.le_refl _)]
  simp

theorem mem_esOf {k : Nat} {ap : Nat → Nat → Bool} {x : Nat × Nat × Nat} (h : x ∈ esOf k ap) :
    (∃ r, r < k ∧ (x = (2 * k, r, 0) ∨ ∃ c, c < k ∧ ap r c = true ∧ x = (r, k + c, 1))) ∨ (∃ c, c < k ∧ x = (k + c, 2 * k + 1, 0)) ∨ x = (2 * k + 1, 2 * k, k) ∨ ∃ v, v < 2 * k + 4 ∧ x ∈ excAt k v := by
  unfold esOf at h
  rcases List.mem_append.1 h with h | h
  · rcases List.mem_append.1 h with h | h
    · rcases List.mem_append.1 h with h | h
      · exact .inl (mem_rowsE h)
      · exact .inr (.inl (mem_sinksE h))
    · exact .inr (.inr (.inl (List.mem_singleton.1 h)))
  · exact .inr (.inr (.inr (mem_excE h)))

theorem exc_mem (k : Nat) (ap : Nat → Nat → Bool) {v : Nat} {x : Nat × Nat × Nat} (hv : v < 2 * k + 4) (hx : x ∈ excAt k v) : x ∈ esOf k ap := by
  unfold esOf
  refine List.mem_append.2 (.inr ?_)
  unfold excE
  rw [List.mem_flatMap]
  exact ⟨v, List.mem_range.2 hv, hx⟩

theorem sp_esOf (k : Nat) (ap : Nat → Nat → Bool) : Sp k ap (esOf k ap) := by
  have pw := List.pairwise_iff_getElem.1 (pw_esOf k ap)
  refine ⟨fun n hn => ?_, fun n n' hn hn' h1 h2 => ?_, fun i j hi hj ha => ?_, fun i hi => ?_, fun j hj => ?_, ?_, fun hk => ?_, fun hk => ?_⟩
  · have := mem_esOf (edgeAt_mem hn)
    generalize edgeAt (esOf k ap) n = x at *
    rcases this with ⟨r, hr, rfl | ⟨c, hc, ha, rfl⟩⟩ | ⟨c, hc, rfl⟩ | rfl | ⟨v, hv, hx⟩
    · exact .inl ⟨rfl, hr, rfl⟩
    · exact .inr (.inl ⟨hr, c, hc, rfl, rfl, ha⟩)
    · exact .inr (.inr (.inl ⟨c, hc, rfl, rfl, rfl⟩))
    · exact .inr (.inr (.inr (.inl ⟨rfl, rfl, rfl⟩)))
    · rcases mem_excAt hx with ⟨a, rfl⟩ | ⟨a, b, rfl⟩ | ⟨a, b, rfl⟩ | ⟨a, b, rfl⟩
      · exact .inr (.inr (.inr (.inr (.inl ⟨rfl, a, rfl⟩))))
      · exact .inr (.inr (.inr (.inr (.inr (.inl ⟨v - k, by omega, by simp only; omega, rfl, rfl⟩)))))
      · exact .inr (.inr (.inr (.inr (.inr (.inr (.inl ⟨rfl, rfl, rfl⟩))))))
      · exact .inr (.inr (.inr (.inr (.inr (.inr (.inr ⟨rfl, rfl, rfl⟩))))))
  · rcases Nat.lt_trichotomy n n' with h | h | h
    · exact absurd ⟨by rw [← edgeAt_get hn, ← edgeAt_get hn']; exact h1, by rw [← edgeAt_get hn, ← edgeAt_get hn']; exact h2⟩ (pw n n' hn hn' h)
    · exact h
    · exact absurd ⟨by rw [← edgeAt_get hn, ← edgeAt_get hn']; exact h1.symm, by rw [← edgeAt_get hn, ← edgeAt_get hn']; exact h2.symm⟩ (pw n' n hn' hn h)
  · refine mem_edgeAt ?_
    unfold esOf
    refine List.mem_append.2 (.inl (List.mem_append.2 (.inl (List.mem_append.2 (.inl ?_)))))
    unfold rowsE
    rw [List.mem_flatMap]
    refine ⟨i, List.mem_range.2 hi, List.mem_cons_of_mem _ ?_⟩
    unfold rowE
    rw [List.mem_map]
    exact ⟨j, List.mem_filter.2 ⟨List.mem_range.2 hj, ha⟩, rfl⟩
  · refine mem_edgeAt (exc_mem k ap (v := i) (by omega) ?_)
    unfold excAt
    rw [if_pos hi]
    exact List.mem_singleton.2 rfl
  · refine mem_edgeAt (exc_mem k ap (v := k + j) (by omega) ?_)
    unfold excAt
    rw [if_neg (by omega), if_pos (by omega)]
    exact List.mem_singleton.2 rfl
  · refine mem_edgeAt ?_
    unfold esOf
    exact List.mem_append.2 (.inl (List.mem_append.2 (.inr (List.mem_singleton.2 rfl))))
  · refine mem_edgeAt (exc_mem k ap (v := 2 * k) (by omega) ?_)
    unfold excAt
    rw [if_neg (by omega), if_neg (by omega), if_pos ⟨rfl, hk⟩]
    exact List.mem_singleton.2 rfl
  · refine mem_edgeAt (exc_mem k ap (v := 2 * k + 1) (by omega) ?_)
    unfold excAt
    rw [if_neg (by omega), if_neg (by omega), if_neg (by omega), if_pos ⟨rfl, hk⟩]
    exact List.mem_singleton.2 rfl
end Go.Proofs.Qxb6613837a
