import Derived.Test.Qxb6613837aG14
namespace Go.Proofs.Qxb6613837a
set_option linter.unusedVariables false

/-- The flow that transport finds: the sum sent, and the rooms. -/
def flowOf (k : Nat) (ap : Nat → Nat → Bool) : Nat × (Nat → Nat) :=
  outerF (outL (esOf k ap)) (headL (esOf k ap)) (2 * (esOf k ap).length) (2 * k + 3) (2 * k + 4) (2 * k + 2) (Dsum (headL (esOf k ap)) (2 * (esOf k ap).length) (roomL (esOf k ap)) (2 * k + 2) + 1) (roomL (esOf k ap)) 0
/-- The number of the edge from i to k + j. -/
def idxOf (k : Nat) (ap : Nat → Nat → Bool) (i j : Nat) : Nat := (rowsE k ap i).length + 1 + (rowE k ap i j).length
/-- Who takes whose. -/
def pairX (k : Nat) (ap : Nat → Nat → Bool) (i j : Nat) : Nat := if ap i j then (flowOf k ap).2 (2 * idxOf k ap i j + 1) else 0

theorem wf_esOf (k : Nat) (ap : Nat → Nat → Bool) : Wf (2 * k + 4) (2 * (esOf k ap).length) (outL (esOf k ap)) (headL (esOf k ap)) := by
  refine wf_of fun n hn => ?_
  rcases (sp_esOf k ap).kind n hn with ⟨a, b, c⟩ | ⟨a, j', b, c, d, e⟩ | ⟨j', a, b, c, d⟩ | ⟨a, b, c⟩ | ⟨a, b, c⟩ | ⟨j', a, b, c, d⟩ | ⟨a, b, c⟩ | ⟨a, b, c⟩ <;> omega

theorem flow_ok (k : Nat) (ap : Nat → Nat → Bool) : FInv (headL (esOf k ap)) (2 * (esOf k ap).length) (2 * k + 3) (2 * k + 2) (roomL (esOf k ap)) (flowOf k ap).2 (flowOf k ap).1 ∧
    levelsF (outL (esOf k ap)) (headL (esOf k ap)) (flowOf k ap).2 (2 * k + 4) (2 * k + 2) (2 * k + 3) < 0 :=
  outer_ok (wf_esOf k ap) (by omega) (by omega) _ _ 0 ⟨fun _ => rfl, fun x => by split <;> split <;> rfl⟩ (Nat.lt_succ_self _)

theorem range_split {n i : Nat} (h : i < n) : ∃ rest, List.range n = List.range i ++ i :: rest := by
  refine ⟨(List.range' (i + 1) (n - i - 1)), ?_⟩
  have e : n = i + (1 + (n - i - 1)) := by omega
  rw [List.range_eq_range', List.range_eq_range']
  conv => lhs; rw [e]
  rw [← List.range'_append_1, ← List.range'_append_1]
  simp

theorem idx_edge {k : Nat} {ap : Nat → Nat → Bool} {i j : Nat} (hi : i < k) (hj : j < k) (ha : ap i j = true) : idxOf k ap i j < (esOf k ap).length ∧ edgeAt (esOf k ap) (idxOf k ap i j) = (i, k + j, 1) := by
  obtain ⟨r1, h1⟩ := range_split hi
  obtain ⟨r2, h2⟩ := range_split hj
  have e2 : rowE k ap i k = rowE k ap i j ++ (i, k + j, 1) :: ((r2.filter (ap i)).map fun j => (i, k + j, 1)) := by
    unfold rowE
    rw [h2, List.filter_append, List.map_append, List.filter_cons, if_pos ha, List.map_cons]
  have e1 : ∃ rest, rowsE k ap k = rowsE k ap i ++ ((2 * k, i, 0) :: rowE k ap i k) ++ rest := by
    unfold rowsE
    rw [h1, List.flatMap_append, List.flatMap_cons]
    exact ⟨_, (List.append_assoc _ _ _).symm⟩
  obtain ⟨rest, e1⟩ := e1
  have e3 : ∃ tail, esOf k ap = (rowsE k ap i ++ (2 * k, i, 0) :: rowE k ap i j) ++ (i, k + j, 1) :: tail := by
    unfold esOf
    rw [e1, e2]
    simp only [List.append_assoc, List.cons_append]
    exact ⟨_, rfl⟩
  obtain ⟨tail, e3⟩ := e3
  have hl : (rowsE k ap i ++ (2 * k, i, 0) :: rowE k ap i j).length = idxOf k ap i j := by
    unfold idxOf
    rw [List.length_append, List.length_cons]
    omega
  rw [e3, ← hl]
  exact ⟨by rw [List.length_append (bs := (i, k + j, 1) :: tail), List.length_cons]; omega, edgeAt_mid _ _ _⟩

theorem pairX_Fl {k : Nat} {ap : Nat → Nat → Bool} {i j : Nat} (hi : i < k) (hj : j < k) : pairX k ap i j = Fl (esOf k ap) (flowOf k ap).2 i (k + j) := by
  unfold pairX
  split
  · next ha =>
    obtain ⟨h1, h2⟩ := idx_edge hi hj ha
    rw [Fl_edge (sp_esOf k ap) _ h1 h2]
    rfl
  · next ha =>
    by_cases e : 0 < Fl (esOf k ap) (flowOf k ap).2 i (k + j)
    · exact absurd (X_ap (sp_esOf k ap) hi hj e) ha
    · omega

/-- ALL SENT: a pairing. -/
theorem pairs_full {k : Nat} {ap : Nat → Nat → Bool} (h : 2 * k ≤ (flowOf k ap).1) : (∀ i j, i < k → j < k → pairX k ap i j ≤ 1 ∧ (0 < pairX k ap i j → ap i j = true)) ∧ (∀ i, i < k → sumTo k (fun j => pairX k ap i j) = 1) ∧ (∀ j, j < k → sumTo k (fun i => pairX k ap i j) = 1) := by
  have S := sp_esOf k ap
  have F := (flow_ok k ap).1
  obtain ⟨r, c⟩ := full_pairs S F h
  refine ⟨fun i j hi hj => ?_, fun i hi => ?_, fun j hj => ?_⟩
  · rw [pairX_Fl hi hj]
    exact ⟨X_le S F hi hj, fun hx => X_ap S hi hj hx⟩
  · rw [sumTo_congr (fun j hj => pairX_Fl hi hj)]; exact r i hi
  · rw [sumTo_congr (fun i hi => pairX_Fl hi hj)]; exact c j hj

/-- NOT ALL SENT: a host over half. -/
theorem pairs_short {k : Nat} {ap : Nat → Nat → Bool} {α : Type} [DecidableEq α] {hst : Nat → α} (hap : ∀ i j, i < k → j < k → (ap i j = true ↔ hst i ≠ hst j)) (h : (flowOf k ap).1 < 2 * k) : ∃ i, i < k ∧ k < 2 * sumTo k fun j => if hst j = hst i then 1 else 0 :=
  host_over hap (sp_esOf k ap) (flow_ok k ap).1 (levels_bi (wf_esOf k ap) (by omega)) (flow_ok k ap).2 h
end Go.Proofs.Qxb6613837a
