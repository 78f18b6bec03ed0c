import Derived.Test.Qxb6613837aG15
namespace Go.Proofs.Qxb6613837a
set_option linter.unusedVariables false

/-- Rows and columns of a pairing between hosts: no host over half. -/
theorem half_ok {k : Nat} {X : Nat → Nat → Nat} {α : Type} [DecidableEq α] {hst : Nat → α} (hap : ∀ i j, i < k → j < k → 0 < X i j → hst i ≠ hst j)
    (hr : ∀ i, i < k → sumTo k (fun j => X i j) = 1) (hc : ∀ j, j < k → sumTo k (fun i => X i j) = 1) (i0 : Nat) : 2 * sumTo k (fun j => if hst j = hst i0 then 1 else 0) ≤ k := by
  have h1 : sumTo k (fun i => if hst i = hst i0 then 1 else 0) = sumTo k (fun i => sumTo k (fun j => if hst i = hst i0 then X i j else 0)) := by
    refine sumTo_congr fun i hi => ?_
    show (if hst i = hst i0 then 1 else 0) = sumTo k (fun j => if hst i = hst i0 then X i j else 0)
    by_cases e : hst i = hst i0
    · simp only [e, if_true]; exact (hr i hi).symm
    · simp only [e, if_false]; exact (sumTo_zero (fun _ _ => rfl)).symm
  have h2 : sumTo k (fun j => sumTo k (fun i => if hst i = hst i0 then X i j else 0)) ≤ sumTo k (fun j => if hst j = hst i0 then 0 else 1) := by
    refine sumTo_le fun j hj => ?_
    show sumTo k (fun i => if hst i = hst i0 then X i j else 0) ≤ (if hst j = hst i0 then 0 else 1)
    by_cases e : hst j = hst i0
    · rw [if_pos e]
      refine Nat.le_of_eq (sumTo_zero fun i hi => ?_)
      show (if hst i = hst i0 then X i j else 0) = 0
      by_cases e' : hst i = hst i0
      · rw [if_pos e']
        by_cases p : 0 < X i j
        · exact absurd (e'.trans e.symm) (hap i j hi hj p)
        · omega
      · rw [if_neg e']
    · rw [if_neg e, ← hc j hj]
      refine sumTo_le fun i hi => ?_
      show (if hst i = hst i0 then X i j else 0) ≤ X i j
      split <;> omega
  have h3 := sumTo_add k (fun j => if hst j = hst i0 then 1 else 0) (fun j => if hst j = hst i0 then 0 else 1)
  rw [sumTo_congr (g := fun _ => 1) (fun j _ => by show (if hst j = hst i0 then 1 else 0) + (if hst j = hst i0 then 0 else 1) = 1; split <;> rfl), sumTo_const] at h3
  rw [sumTo_swap] at h1
  omega

/-- The law's last loop: the idle and the open of a host are no more than the zeros. -/
theorem idle_open {k : Nat} {X : Nat → Nat → Nat} {α : Type} [DecidableEq α] {hst : Nat → α} (hap : ∀ i j, i < k → j < k → 0 < X i j → hst i ≠ hst j)
    (hr : ∀ i, i < k → sumTo k (fun j => X i j) = 1) (hc : ∀ j, j < k → sumTo k (fun i => X i j) = 1) (z : Nat → Bool) (tk : Nat → Bool)
    (htk : ∀ j, j < k → tk j = false → ∀ i, i < k → z i = false → X i j = 0) (h0 : α) :
    sumTo k (fun j => if hst j = h0 ∧ z j = true then 1 else 0) + sumTo k (fun j => if hst j = h0 ∧ tk j = false then 1 else 0) ≤ sumTo k (fun j => if z j = true then 1 else 0) := by
  have h1 : sumTo k (fun j => if hst j = h0 ∧ tk j = false then 1 else 0) ≤ sumTo k (fun j => sumTo k (fun i => if hst j = h0 ∧ z i = true then X i j else 0)) := by
    refine sumTo_le fun j hj => ?_
    show (if hst j = h0 ∧ tk j = false then 1 else 0) ≤ sumTo k (fun i => if hst j = h0 ∧ z i = true then X i j else 0)
    by_cases e : hst j = h0 ∧ tk j = false
    · rw [if_pos e, ← hc j hj]
      refine sumTo_le fun i hi => ?_
      show X i j ≤ (if hst j = h0 ∧ z i = true then X i j else 0)
      by_cases p : z i = true
      · rw [if_pos ⟨e.1, p⟩]; exact Nat.le_refl _
      · rw [htk j hj e.2 i hi (by simpa using p)]; exact Nat.zero_le _
    · rw [if_neg e]; exact Nat.zero_le _
  have h2 : sumTo k (fun i => sumTo k (fun j => if hst j = h0 ∧ z i = true then X i j else 0)) ≤ sumTo k (fun i => if hst i ≠ h0 ∧ z i = true then 1 else 0) := by
    refine sumTo_le fun i hi => ?_
    show sumTo k (fun j => if hst j = h0 ∧ z i = true then X i j else 0) ≤ (if hst i ≠ h0 ∧ z i = true then 1 else 0)
    by_cases e : hst i ≠ h0 ∧ z i = true
    · rw [if_pos e, ← hr i hi]
      refine sumTo_le fun j hj => ?_
      show (if hst j = h0 ∧ z i = true then X i j else 0) ≤ X i j
      split <;> omega
    · rw [if_neg e]
      refine Nat.le_of_eq (sumTo_zero fun j hj => ?_)
      show (if hst j = h0 ∧ z i = true then X i j else 0) = 0
      by_cases q : hst j = h0 ∧ z i = true
      · rw [if_pos q]
        by_cases p : 0 < X i j
        · refine absurd ⟨fun e' => ?_, q.2⟩ e
          exact hap i j hi hj p (e'.trans q.1.symm)
        · omega
      · rw [if_neg q]
  rw [sumTo_swap] at h2
  have h3 := sumTo_add k (fun j => if hst j = h0 ∧ z j = true then 1 else 0) (fun j => if hst j ≠ h0 ∧ z j = true then 1 else 0)
  rw [sumTo_congr (g := fun j => if z j = true then 1 else 0) (fun j _ => by
    show (if hst j = h0 ∧ z j = true then 1 else 0) + (if hst j ≠ h0 ∧ z j = true then 1 else 0) = (if z j = true then 1 else 0)
    by_cases a : hst j = h0 <;> by_cases b : z j = true <;> simp [a, b])] at h3
  omega

/-- A row that sums to one holds its one at one place. -/
theorem row_place {k : Nat} {f : Nat → Nat} (h : sumTo k f = 1) : ∃ j, j < k ∧ f j = 1 ∧ ∀ j', j' < k → j' ≠ j → f j' = 0 := by
  obtain ⟨j, hj, hp⟩ := sumTo_pos (n := k) (f := f) (by omega)
  have h1 := sumTo_one (n := k) (i := j) (f := f) (g := fun a => if a = j then 0 else f a) hj (fun a _ ha => by simp only [ha, if_false])
  simp only [if_true] at h1
  have h2 : sumTo k (fun a => if a = j then 0 else f a) = 0 := by omega
  refine ⟨j, hj, by omega, fun j' hj' hne => ?_⟩
  have := le_sumTo (n := k) (f := fun a => if a = j then 0 else f a) hj'
  simp only [hne, if_false] at this
  omega
end Go.Proofs.Qxb6613837a
