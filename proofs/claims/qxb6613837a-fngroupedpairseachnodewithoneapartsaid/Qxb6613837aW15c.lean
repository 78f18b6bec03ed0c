import Derived.Test.Qxb6613837aW15b
namespace Go.Proofs.Qxb6613837a
open Go.RowKit
set_option linter.unusedVariables false

section
variable (k : Nat) (ap : Nat → Nat → Bool)
theorem rowsE_zero : rowsE k ap 0 = [] := rfl
theorem rowsE_succ (i : Nat) : rowsE k ap (i + 1) = rowsE k ap i ++ (2 * k, i, 0) :: rowE k ap i k := by
  unfold rowsE
  rw [List.range_succ, List.flatMap_append]
  simp
theorem rowE_zero (i : Nat) : rowE k ap i 0 = [] := rfl
theorem rowE_succ (i j : Nat) : rowE k ap i (j + 1) = rowE k ap i j ++ (if ap i j then [(i, k + j, 1)] else []) := by
  unfold rowE
  rw [List.range_succ, List.filter_append, List.map_append]
  congr 1
  by_cases h : ap i j <;> simp [h]
theorem rowE_len (i j : Nat) : (rowE k ap i j).length ≤ j := by
  unfold rowE
  rw [List.length_map]
  refine Nat.le_trans (List.length_filter_le _ _) ?_
  rw [List.length_range]; exact Nat.le_refl _
theorem rowsE_len (i : Nat) : (rowsE k ap i).length ≤ i * (k + 1) := by
  induction i with
  | zero => simp [rowsE_zero]
  | succ i ih =>
    rw [rowsE_succ, List.length_append, List.length_cons, Nat.add_mul]
    have := rowE_len k ap i k
    omega
theorem sinksE_succ (j : Nat) : sinksE k (j + 1) = sinksE k j ++ [(k + j, 2 * k + 1, 0)] := by
  unfold sinksE
  rw [List.range_succ, List.map_append]; rfl
theorem sinksE_len (j : Nat) : (sinksE k j).length = j := by simp [sinksE]
theorem excE_succ (v : Nat) : excE k (v + 1) = excE k v ++ excAt k v := by
  unfold excE
  rw [List.range_succ, List.flatMap_append]; simp
theorem excAt_len (v : Nat) : (excAt k v).length ≤ 1 := by
  unfold excAt
  split
  · simp
  · split
    · simp
    · split
      · simp
      · split <;> simp
theorem excE_len (v : Nat) : (excE k v).length ≤ v := by
  induction v with
  | zero => simp [excE]
  | succ v ih => rw [excE_succ, List.length_append]; have := excAt_len k v; omega
/-- Where the edge from i to k + j lies; -1 where there is none. -/
def eF (r j : Nat) : Int := if ap r j then ((2 * idxOf k ap r j : Nat) : Int) else -1
/-- The excesses behind i rows. -/
def excA (i x : Nat) : Int := if x < i then 1 else if x = 2 * k then -(i : Int) else 0
theorem excA_zero : (fun _ => (0 : Int)) = excA k 0 := by
  funext x
  unfold excA
  split
  · omega
  · split <;> rfl
theorem excA_succ {i : Nat} (hi : i < k) : upd (upd (excA k i) (2 * k) (excA k i (2 * k) - (1 : Nat))) i (excA k i i + (1 : Nat)) = excA k (i + 1) := by
  funext x
  by_cases e : x = i
  · subst e
    rw [upd_same]
    unfold excA
    rw [if_neg (by omega), if_neg (by omega), if_pos (by omega)]; rfl
  · rw [upd_ne _ _ e]
    by_cases e2 : x = 2 * k
    · subst e2
      rw [upd_same]
      unfold excA
      rw [if_neg (by omega), if_pos rfl, if_neg (by omega), if_pos rfl]
      omega
    · rw [upd_ne _ _ e2]
      unfold excA
      by_cases h : x < i
      · rw [if_pos h, if_pos (by omega)]
      · rw [if_neg h, if_neg e2, if_neg (by omega), if_neg e2]
theorem excA_bd {i : Nat} (hi : i ≤ k) (x : Nat) : -(k : Int) ≤ excA k i x ∧ excA k i x ≤ 1 := by
  unfold excA
  split
  · omega
  · split <;> omega
theorem exc_same (exc : Nat → Int) (u v : Nat) : upd (upd exc u (exc u - (0 : Nat))) v (exc v + (0 : Nat)) = exc := by
  funext x
  by_cases e : x = v
  · subst e; rw [upd_same]; simp
  · rw [upd_ne _ _ e]
    by_cases e2 : x = u
    · subst e2; rw [upd_same]; simp
    · rw [upd_ne _ _ e2]
/-- The excesses behind j consumers. -/
def excB (j x : Nat) : Int := if x < k then 1 else if x < k + j then -1 else if x = 2 * k then -(k : Int) else if x = 2 * k + 1 then (j : Int) else 0
theorem excB_zero : excA k k = excB k 0 := by
  funext x
  unfold excA excB
  by_cases h : x < k
  · rw [if_pos h, if_pos h]
  · rw [if_neg h, if_neg h, if_neg (show ¬ x < k + 0 by omega)]
    by_cases h2 : x = 2 * k
    · rw [if_pos h2, if_pos h2]
    · rw [if_neg h2, if_neg h2]
      split <;> rfl
theorem excB_succ {j : Nat} (hj : j < k) : upd (upd (excB k j) (k + j) (excB k j (k + j) - (1 : Nat))) (2 * k + 1) (excB k j (2 * k + 1) + (1 : Nat)) = excB k (j + 1) := by
  funext x
  by_cases e : x = 2 * k + 1
  · subst e
    rw [upd_same]
    unfold excB
    rw [if_neg (by omega), if_neg (by omega), if_neg (by omega), if_pos rfl, if_neg (by omega), if_neg (by omega), if_neg (by omega), if_pos rfl]
    omega
  · rw [upd_ne _ _ e]
    by_cases e2 : x = k + j
    · subst e2
      rw [upd_same]
      unfold excB
      rw [if_neg (by omega), if_neg (by omega), if_neg (by omega), if_neg (by omega), if_neg (by omega), if_pos (by omega)]
      omega
    · rw [upd_ne _ _ e2]
      unfold excB
      by_cases h : x < k
      · rw [if_pos h, if_pos h]
      · rw [if_neg h, if_neg h]
        by_cases h2 : x < k + j
        · rw [if_pos h2, if_pos (by omega)]
        · rw [if_neg h2, if_neg (show ¬ x < k + (j + 1) by omega)]
          by_cases h3 : x = 2 * k
          · rw [if_pos h3, if_pos h3]
          · rw [if_neg h3, if_neg h3, if_neg e, if_neg e]
theorem excB_bd {j : Nat} (hj : j ≤ k) (x : Nat) : -(k : Int) - 1 ≤ excB k j x ∧ excB k j x ≤ (k : Int) + 1 := by
  unfold excB
  split
  · omega
  · split
    · omega
    · split
      · omega
      · split <;> omega
end
/-- A row more is done. -/
theorem Tbl.ext {w : World} {b k i g : Nat} {Re : Nat → Nat} (h : Tbl w b k i Re) (hc : w.cell? ⟨b, i, none⟩ = some (.slice (some ⟨g, 0, none⟩) k k)) : Tbl w b k (i + 1) (upd Re i g) := by
  obtain ⟨cs, t, hb, hs, hr⟩ := h
  refine ⟨cs, t, hb, hs, fun r hr' => ?_⟩
  by_cases e : r = i
  · subst e
    rw [upd_same]
    simpa [World.cell?, hb] using hc
  · rw [upd_ne _ _ e]; exact hr r (by omega)
section
variable {w0 w : World} {k V base G O E Pg Pe P4 Ed Lo i : Nat} {A : Nat → Option Addr} {cp : Nat → Nat} {es : Es} {exc : Nat → Int} {Re Rl : Nat → Nat} {eF : Nat → Nat → Int}
theorem TI.next (T : TI w0 w k V base G O E Pg Pe P4 Ed Lo i A cp es exc Re Rl eF) {re rl : Nat} (h1 : w.cell? ⟨Ed, i, none⟩ = some (.slice (some ⟨re, 0, none⟩) k k)) (h2 : w.cell? ⟨Lo, i, none⟩ = some (.slice (some ⟨rl, 0, none⟩) k k)) (r1 : IRow w re k (eF i)) (r2 : IRow w rl k (fun _ => 0))
    (n1 : w0.heap.size ≤ re ∧ ¬ Priv V G O E A re) (n2 : w0.heap.size ≤ rl ∧ ¬ Priv V G O E A rl) (n3 : re ≠ Ed ∧ re ≠ Lo ∧ rl ≠ Ed ∧ rl ≠ Lo) : TI w0 w k V base G O E Pg Pe P4 Ed Lo (i + 1) A cp es exc (upd Re i re) (upd Rl i rl) eF := by
  refine ⟨T.core, ⟨T.fin.p4, T.fin.ed.ext h1, T.fin.lo.ext h2, fun r hr => ?_, fun r hr => ?_⟩, T.old, T.new, fun b h => ?_, T.dis.1, fun r hr => ?_⟩
  · by_cases e : r = i
    · subst e; rw [upd_same]; exact r1
    · rw [upd_ne _ _ e]; exact T.fin.er r (by omega)
  · by_cases e : r = i
    · subst e; rw [upd_same]; exact r2
    · rw [upd_ne _ _ e]; exact T.fin.lr r (by omega)
  · rcases h with h | h | h | h | h | ⟨r, hr, h⟩
    · exact T.x b (.inl h)
    · exact T.x b (.inr (.inl h))
    · exact T.x b (.inr (.inr (.inl h)))
    · exact T.x b (.inr (.inr (.inr (.inl h))))
    · exact T.x b (.inr (.inr (.inr (.inr (.inl h)))))
    · by_cases e : r = i
      · subst e
        rw [upd_same, upd_same] at h
        rcases h with h | h
        · subst h; exact ⟨n1.1, r1.lt, n1.2⟩
        · subst h; exact ⟨n2.1, r2.lt, n2.2⟩
      · rw [upd_ne _ _ e, upd_ne _ _ e] at h
        exact T.x b (.inr (.inr (.inr (.inr (.inr ⟨r, by omega, h⟩)))))
  · by_cases e : r = i
    · subst e; rw [upd_same, upd_same]; exact n3
    · rw [upd_ne _ _ e, upd_ne _ _ e]; exact T.dis.2 r (by omega)
theorem TI.rows_new (T : TI w0 w k V base G O E Pg Pe P4 Ed Lo i A cp es exc Re Rl eF) (hV : 0 < V) (hi : i < k) {re rl : Nat} (h : (re = w.heap.size ∧ rl = w.heap.size + 1) ∨ (re = w.heap.size + 1 ∧ rl = w.heap.size)) {W : World}
    (hW : W = ((((w.setCell ⟨Ed, i, none⟩ (.slice (some ⟨re, 0, none⟩) k k)).setCell ⟨Lo, i, none⟩ (.slice (some ⟨rl, 0, none⟩) k k)).alloc (.cells (madeCells #[.int .i64 0] k) 3)).alloc (.cells (madeCells #[.int .i64 0] k) 3)).drew) :
    TI w0 W k V base G O E Pg Pe P4 Ed Lo i A cp es exc Re Rl eF ∧ IRow W re k (fun _ => 0) ∧ IRow W rl k (fun _ => 0) ∧ (W.cell? ⟨Ed, i, none⟩ = some (.slice (some ⟨re, 0, none⟩) k k) ∧ W.cell? ⟨Lo, i, none⟩ = some (.slice (some ⟨rl, 0, none⟩) k k)) ∧
      (w0.heap.size ≤ re ∧ w0.heap.size ≤ rl ∧ re ≠ rl ∧ ¬ Priv V G O E A re ∧ ¬ Priv V G O E A rl ∧ ¬ Xs P4 Ed Lo Pg Pe i Re Rl re ∧ ¬ Xs P4 Ed Lo Pg Pe i Re Rl rl) := by
  have T1 := ((((T.setEd hV (.slice (some ⟨re, 0, none⟩) k k)).setLo hV (.slice (some ⟨rl, 0, none⟩) k k)).alloc hV (.cells (madeCells #[.int .i64 0] k) 3)).alloc hV (.cells (madeCells #[.int .i64 0] k) 3)).drew hV
  obtain ⟨ve, cve⟩ := T.fin.ed.has hi
  obtain ⟨vl, cvl⟩ := T.fin.lo.has hi
  have hEL := T.dis.1.1
  have hEd := T.fin.ed.lt
  have hLo := T.fin.lo.lt
  have hold := T.old.size
  have z1 : ((w.setCell ⟨Ed, i, none⟩ (.slice (some ⟨re, 0, none⟩) k k)).setCell ⟨Lo, i, none⟩ (.slice (some ⟨rl, 0, none⟩) k k)).heap.size = w.heap.size := by simp
  have c1 : ((w.setCell ⟨Ed, i, none⟩ (.slice (some ⟨re, 0, none⟩) k k)).setCell ⟨Lo, i, none⟩ (.slice (some ⟨rl, 0, none⟩) k k)).cell? ⟨Ed, i, none⟩ = some (.slice (some ⟨re, 0, none⟩) k k) :=
    (World.cell?_setCell_other _ _ _ _ (fun h => hEL (by simp only [Addr.mk.injEq] at h; exact h.1.symm))).trans (World.cell?_setCell_same _ _ _ cve)
  have c2 : ((w.setCell ⟨Ed, i, none⟩ (.slice (some ⟨re, 0, none⟩) k k)).setCell ⟨Lo, i, none⟩ (.slice (some ⟨rl, 0, none⟩) k k)).cell? ⟨Lo, i, none⟩ = some (.slice (some ⟨rl, 0, none⟩) k k) :=
    World.cell?_setCell_same _ _ _ ((World.cell?_setCell_other _ _ _ _ (fun h => hEL (by simp only [Addr.mk.injEq] at h; exact h.1))).trans cvl)
  subst hW
  generalize (w.setCell ⟨Ed, i, none⟩ (.slice (some ⟨re, 0, none⟩) k k)).setCell ⟨Lo, i, none⟩ (.slice (some ⟨rl, 0, none⟩) k k) = w1 at T1 z1 c1 c2 ⊢
  have ra : IRow ((w1.alloc (.cells (madeCells #[.int .i64 0] k) 3)).alloc (.cells (madeCells #[.int .i64 0] k) 3)).drew w.heap.size k (fun _ => 0) := ((IRow.made w1 k w.heap.size z1.symm).alloc _).of_block rfl
  have rb : IRow ((w1.alloc (.cells (madeCells #[.int .i64 0] k) 3)).alloc (.cells (madeCells #[.int .i64 0] k) 3)).drew (w.heap.size + 1) k (fun _ => 0) := (IRow.made (w1.alloc (.cells (madeCells #[.int .i64 0] k) 3)) k (w.heap.size + 1) (by simp [z1])).of_block rfl
  have K : Kept (fun _ => False) w1 ((w1.alloc (.cells (madeCells #[.int .i64 0] k) 3)).alloc (.cells (madeCells #[.int .i64 0] k) 3)).drew := (((Kept.refl _ w1).alloc _).alloc _).drew
  have np : ∀ b, w.heap.size ≤ b → ¬ Priv V G O E A b := fun b hb h => by have := T.core.not_new hV h; omega
  have nx : ∀ b, w.heap.size ≤ b → ¬ Xs P4 Ed Lo Pg Pe i Re Rl b := fun b hb h => by have := (T.x b h).2.1; omega
  refine ⟨T1, ?_, ?_, ⟨kept_cell c1 K id, kept_cell c2 K id⟩, by omega, by omega, by omega, np _ (by omega), np _ (by omega), nx _ (by omega), nx _ (by omega)⟩
  · rcases h with ⟨rfl, _⟩ | ⟨rfl, _⟩
    · exact ra
    · exact rb
  · rcases h with ⟨_, rfl⟩ | ⟨_, rfl⟩
    · exact rb
    · exact ra
end
end Go.Proofs.Qxb6613837a
