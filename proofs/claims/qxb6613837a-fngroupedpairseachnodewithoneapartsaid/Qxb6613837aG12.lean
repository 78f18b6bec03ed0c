import Derived.Test.Qxb6613837aG11
namespace Go.Proofs.Qxb6613837a
set_option linter.unusedVariables false

/-- The edges that transport adds: row i's first j columns; the first i rows; the first j consumers; the first v vertices' excess. -/
def rowE (k : Nat) (ap : Nat → Nat → Bool) (i j : Nat) : Es := ((List.range j).filter (ap i)).map fun j => (i, k + j, 1)
def rowsE (k : Nat) (ap : Nat → Nat → Bool) (i : Nat) : Es := (List.range i).flatMap fun i => (2 * k, i, 0) :: rowE k ap i k
def sinksE (k j : Nat) : Es := (List.range j).map fun j => (k + j, 2 * k + 1, 0)
def excAt (k v : Nat) : Es := if v < k then [(2 * k + 2, v, 1)] else if v < 2 * k then [(v, 2 * k + 3, 1)] else if v = 2 * k ∧ 0 < k then [(2 * k, 2 * k + 3, k)] else if v = 2 * k + 1 ∧ 0 < k then [(2 * k + 2, 2 * k + 1, k)] else []
def excE (k v : Nat) : Es := (List.range v).flatMap (excAt k)
def esOf (k : Nat) (ap : Nat → Nat → Bool) : Es := rowsE k ap k ++ sinksE k k ++ [(2 * k + 1, 2 * k, k)] ++ excE k (2 * k + 4)

/-- Two edges that do not join the same two vertices. -/
def Apart (x y : Nat × Nat × Nat) : Prop := ¬ (x.1 = y.1 ∧ x.2.1 = y.2.1)

theorem mem_rowE {k : Nat} {ap : Nat → Nat → Bool} {i j : Nat} {x : Nat × Nat × Nat} (h : x ∈ rowE k ap i j) : ∃ c, c < j ∧ ap i c = true ∧ x = (i, k + c, 1) := by
  unfold rowE at h
  rw [List.mem_map] at h
  obtain ⟨c, hc, rfl⟩ := h
  rw [List.mem_filter, List.mem_range] at hc
  exact ⟨c, hc.1, hc.2, rfl⟩
theorem mem_rowsE {k : Nat} {ap : Nat → Nat → Bool} {i : Nat} {x : Nat × Nat × Nat} (h : x ∈ rowsE k ap i) : ∃ r, r < i ∧ (x = (2 * k, r, 0) ∨ ∃ c, c < k ∧ ap r c = true ∧ x = (r, k + c, 1)) := by
  unfold rowsE at h
  rw [List.mem_flatMap] at h
  obtain ⟨r, hr, hx⟩ := h
  rw [List.mem_range] at hr
  refine ⟨r, hr, ?_⟩
  rcases List.mem_cons.1 hx with h1 | h1
  · exact .inl h1
  · exact .inr (mem_rowE h1)
theorem mem_sinksE {k j : Nat} {x : Nat × Nat × Nat} (h : x ∈ sinksE k j) : ∃ c, c < j ∧ x = (k + c, 2 * k + 1, 0) := by
  unfold sinksE at h
  rw [List.mem_map] at h
  obtain ⟨c, hc, rfl⟩ := h
  exact ⟨c, List.mem_range.1 hc, rfl⟩
theorem mem_excAt {k v : Nat} {x : Nat × Nat × Nat} (h : x ∈ excAt k v) : (v < k ∧ x = (2 * k + 2, v, 1)) ∨ (k ≤ v ∧ v < 2 * k ∧ x = (v, 2 * k + 3, 1)) ∨ (v = 2 * k ∧ 0 < k ∧ x = (2 * k, 2 * k + 3, k)) ∨ (v = 2 * k + 1 ∧ 0 < k ∧ x = (2 * k + 2, 2 * k + 1, k)) := by
  unfold excAt at h
  split at h
  · next h1 => exact .inl ⟨h1, List.mem_singleton.1 h⟩
  · next h1 =>
    split at h
    · next h2 => exact .inr (.inl ⟨by omega, h2, List.mem_singleton.1 h⟩)
    · next h2 =>
      split at h
      · next h3 => exact .inr (.inr (.inl ⟨h3.1, h3.2, List.mem_singleton.1 h⟩))
      · next h3 =>
        split at h
        · next h4 => exact .inr (.inr (.inr ⟨h4.1, h4.2, List.mem_singleton.1 h⟩))
        · cases h
theorem mem_excE {k v : Nat} {x : Nat × Nat × Nat} (h : x ∈ excE k v) : ∃ r, r < v ∧ x ∈ excAt k r := by
  unfold excE at h
  rw [List.mem_flatMap] at h
  obtain ⟨r, hr, hx⟩ := h
  exact ⟨r, List.mem_range.1 hr, hx⟩
end Go.Proofs.Qxb6613837a
