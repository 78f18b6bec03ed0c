import Derived.Test.Qxb6613837aG10
namespace Go.Proofs.Qxb6613837a
set_option linter.unusedVariables false

section
variable {k : Nat} {ap : Nat → Nat → Bool} {es : Es} {room : Nat → Nat} {tot : Nat} {lv : Nat → Int} {V : Nat}

/-- A consumer in reach is taken, by a supplier in reach. -/
theorem taken_reach (S : Sp k ap es) (h : FInv (headL es) (2 * es.length) (2 * k + 3) (2 * k + 2) (roomL es) room tot) (B : BI V (2 * es.length) (headL es) room (2 * k + 2) (fun _ => False) lv []) (hu : lv (2 * k + 3) < 0) {j : Nat} (hj : j < k) (hr : 0 ≤ lv (k + j)) :
    (sumTo k fun i => (if 0 ≤ lv i then 1 else 0) * Fl es room i (k + j)) = 1 := by
  obtain ⟨n, hn, en⟩ := S.hasU j hj
  have f1 := Fl_edge S room hn en
  have hb : Fl es room (k + j) (2 * k + 3) = 1 := by
    have hle := b_le S h hj
    by_cases e : Fl es room (k + j) (2 * k + 3) = 1
    · exact e
    · exfalso
      have := reach_fwd B h hn (by rw [en]; exact hr) (by rw [en]; show fl room n < 1; omega)
      rw [en] at this
      have h9 : 0 ≤ lv (2 * k + 3) := this
      omega
  have hcol := col_eq S h hj
  rw [hb] at hcol
  refine Eq.trans (sumTo_congr fun i hi => ?_) hcol
  by_cases e : 0 < Fl es room i (k + j)
  · obtain ⟨n2, hn2, en2⟩ := S.hasA i j hi hj (X_ap S hi hj e)
    have f2 := Fl_edge S room hn2 en2
    have := reach_bwd B hn2 (by rw [en2]; exact hr) (by omega)
    rw [en2] at this
    have h9 : 0 ≤ lv i := this
    rw [if_pos h9, Nat.one_mul]
  · have : Fl es room i (k + j) = 0 := by omega
    rw [this, Nat.mul_zero]

theorem few_taken (S : Sp k ap es) (h : FInv (headL es) (2 * es.length) (2 * k + 3) (2 * k + 2) (roomL es) room tot) (B : BI V (2 * es.length) (headL es) room (2 * k + 2) (fun _ => False) lv []) (hu : lv (2 * k + 3) < 0) (ht : tot < 2 * k) :
    (sumTo k fun j => if 0 ≤ lv (k + j) then 1 else 0) < sumTo k fun i => if 0 ≤ lv i then 1 else 0 := by
  obtain ⟨i0, hi0, hr0, ha0⟩ := short_some S h B hu ht
  have h1 : (sumTo k fun j => if 0 ≤ lv (k + j) then 1 else 0) ≤ sumTo k fun j => sumTo k fun i => (if 0 ≤ lv i then 1 else 0) * Fl es room i (k + j) := by
    refine sumTo_le fun j hj => ?_
    split
    · next hr => rw [taken_reach S h B hu hj hr]; exact Nat.le_refl _
    · exact Nat.zero_le _
  rw [sumTo_swap] at h1
  have h2 : (sumTo k fun i => sumTo k fun j => (if 0 ≤ lv i then 1 else 0) * Fl es room i (k + j)) = sumTo k fun i => (if 0 ≤ lv i then 1 else 0) * Fl es room (2 * k + 2) i := by
    refine sumTo_congr fun i hi => ?_
    rw [sumTo_mul, row_eq S h hi]
  rw [h2] at h1
  refine Nat.lt_of_le_of_lt h1 (sumTo_lt hi0 (fun i hi => ?_) ?_)
  · have := a_le S h hi
    split
    · omega
    · omega
  · show (if 0 ≤ lv i0 then 1 else 0) * Fl es room (2 * k + 2) i0 < if 0 ≤ lv i0 then 1 else 0
    rw [if_pos hr0, ha0]
    decide

/-- HALL: a flow that falls short shows a host that runs more than half of the nodes. -/
theorem host_over {α : Type} [DecidableEq α] {hst : Nat → α} (hap : ∀ i j, i < k → j < k → (ap i j = true ↔ hst i ≠ hst j)) (S : Sp k ap es) (h : FInv (headL es) (2 * es.length) (2 * k + 3) (2 * k + 2) (roomL es) room tot)
    (B : BI V (2 * es.length) (headL es) room (2 * k + 2) (fun _ => False) lv []) (hu : lv (2 * k + 3) < 0) (ht : tot < 2 * k) : ∃ i, i < k ∧ k < 2 * sumTo k fun j => if hst j = hst i then 1 else 0 := by
  have hlt := few_taken S h B hu ht
  obtain ⟨i0, hi0, hr0, _⟩ := short_some S h B hu ht
  refine ⟨i0, hi0, ?_⟩
  have hsum : (sumTo k fun j => if hst j = hst i0 then 1 else 0) + (sumTo k fun j => if hst j = hst i0 then 0 else 1) = k := by
    rw [← sumTo_add, sumTo_congr (g := fun _ => 1) (fun j _ => by split <;> rfl), sumTo_const]
    omega
  by_cases e : ∃ i1, i1 < k ∧ 0 ≤ lv i1 ∧ hst i1 ≠ hst i0
  · obtain ⟨i1, hi1, hr1, hne⟩ := e
    exfalso
    have h1 : sumTo k (fun _ => 1) ≤ sumTo k fun j => if 0 ≤ lv (k + j) then 1 else 0 := sumTo_le fun j hj => by
      have : 0 ≤ lv (k + j) := by
        by_cases e2 : hst j = hst i0
        · exact nbr_reach S h B hi1 hj hr1 ((hap i1 j hi1 hj).2 (by rw [e2]; exact hne))
        · exact nbr_reach S h B hi0 hj hr0 ((hap i0 j hi0 hj).2 (fun e3 => e2 e3.symm))
      rw [if_pos this]
      exact Nat.le_refl _
    have h2 : (sumTo k fun i => if 0 ≤ lv i then 1 else 0) ≤ sumTo k fun _ => 1 := sumTo_le fun i _ => by
      show (if 0 ≤ lv i then 1 else 0) ≤ 1
      split <;> omega
    omega
  · have h1 : (sumTo k fun i => if 0 ≤ lv i then 1 else 0) ≤ sumTo k fun j => if hst j = hst i0 then 1 else 0 := sumTo_le fun i hi => by
      show (if 0 ≤ lv i then 1 else 0) ≤ if hst i = hst i0 then 1 else 0
      by_cases e2 : hst i = hst i0
      · rw [if_pos e2]; split <;> omega
      · rw [if_neg (fun hr => e ⟨i, hi, hr, e2⟩)]; exact Nat.zero_le _
    have h2 : (sumTo k fun j => if hst j = hst i0 then 0 else 1) ≤ sumTo k fun j => if 0 ≤ lv (k + j) then 1 else 0 := sumTo_le fun j hj => by
      show (if hst j = hst i0 then 0 else 1) ≤ if 0 ≤ lv (k + j) then 1 else 0
      by_cases e2 : hst j = hst i0
      · rw [if_pos e2]; exact Nat.zero_le _
      · rw [if_neg e2, if_pos (nbr_reach S h B hi0 hj hr0 ((hap i0 j hi0 hj).2 (fun e3 => e2 e3.symm)))]; exact Nat.le_refl _
    omega
end
end Go.Proofs.Qxb6613837a
