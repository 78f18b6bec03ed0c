import Derived.Test.Qxb6613837aW15d
namespace Go.Proofs.Qxb6613837a
open Go.RowKit
set_option linter.unusedVariables false

/-- A matrix in new memory: the table X, its first i rows, each in a block of its own. -/
structure XM (w : World) (n0 X k i : Nat) (Rx : Nat → Nat) (f : Nat → Nat → Int) : Prop where
  tbl : Tbl w X k i Rx
  row : ∀ r, r < i → IRow w (Rx r) k (f r)
  nX : n0 ≤ X
  nR : ∀ r, r < i → n0 ≤ Rx r ∧ Rx r ≠ X
  inj : ∀ r r', r < i → r' < i → r ≠ r' → Rx r ≠ Rx r'
theorem XM.of_block {w w' : World} {n0 X k i : Nat} {Rx : Nat → Nat} {f : Nat → Nat → Int} (h : XM w n0 X k i Rx f) (e : ∀ b, b < w.heap.size → (b = X ∨ ∃ r, r < i ∧ b = Rx r) → w'.heap[b]? = w.heap[b]?) : XM w' n0 X k i Rx f :=
  ⟨h.tbl.of_block (e X h.tbl.lt (.inl rfl)), fun r hr => (h.row r hr).of_block (e _ (h.row r hr).lt (.inr ⟨r, hr, rfl⟩)), h.nX, h.nR, h.inj⟩
theorem XM.kept {ex : Nat → Prop} {w w' : World} {n0 X k i : Nat} {Rx : Nat → Nat} {f : Nat → Nat → Int} (h : XM w n0 X k i Rx f) (K : Kept ex w w') (hx : ¬ ex X) (hr : ∀ r, r < i → ¬ ex (Rx r)) : XM w' n0 X k i Rx f :=
  h.of_block fun b hb h' => K.block b hb (fun he => by
    rcases h' with h' | ⟨r, h1, h2⟩
    · subst h'; exact hx he
    · subst h2; exact hr r h1 he)
/-- A new row, its place in the table. -/
theorem XM.rowNew {w : World} {n0 X k i : Nat} {Rx : Nat → Nat} {f : Nat → Nat → Int} (h : XM w n0 X k i Rx f) (hn : n0 ≤ w.heap.size) (hi : i < k) {rx : Nat} (hrx : rx = w.heap.size) {W : World} (hW : W = (w.setCell ⟨X, i, none⟩ (.slice (some ⟨rx, 0, none⟩) k k)).alloc (.cells (madeCells #[.int .i64 0] k) 3)) :
    XM W n0 X k i Rx f ∧ IRow W rx k (fun _ => 0) ∧ W.cell? ⟨X, i, none⟩ = some (.slice (some ⟨rx, 0, none⟩) k k) ∧ n0 ≤ rx ∧ rx ≠ X ∧ (∀ r, r < i → Rx r ≠ rx) ∧ Kept (fun b => b = X) w W := by
  have hX := h.tbl.lt
  obtain ⟨v, cv⟩ := h.tbl.has hi
  have K1 : Kept (fun b => b = X) w (w.setCell ⟨X, i, none⟩ (.slice (some ⟨rx, 0, none⟩) k k)) := (Kept.refl (fun b => b = X) w).setCell (a := ⟨X, i, none⟩) rfl _
  have x1 : XM (w.setCell ⟨X, i, none⟩ (.slice (some ⟨rx, 0, none⟩) k k)) n0 X k i Rx f := by
    refine ⟨h.tbl.setAt _, fun r hr => (h.row r hr).setOther (h.nR r hr).2 _, h.nX, h.nR, h.inj⟩
  have c1 : (w.setCell ⟨X, i, none⟩ (.slice (some ⟨rx, 0, none⟩) k k)).cell? ⟨X, i, none⟩ = some (.slice (some ⟨rx, 0, none⟩) k k) := World.cell?_setCell_same _ _ _ cv
  have z1 : (w.setCell ⟨X, i, none⟩ (.slice (some ⟨rx, 0, none⟩) k k)).heap.size = w.heap.size := by simp
  have ir : IRow ((w.setCell ⟨X, i, none⟩ (.slice (some ⟨rx, 0, none⟩) k k)).alloc (.cells (madeCells #[.int .i64 0] k) 3)) rx k (fun _ => 0) := IRow.made _ k rx (by rw [z1]; exact hrx)
  subst hW
  refine ⟨x1.of_block (fun b hb _ => Below.heap_alloc _ _ b hb), ir, ?_, by omega, by omega, fun r hr => ?_, K1.alloc _⟩
  · exact kept_cell c1 ((Kept.refl (fun _ => False) _).alloc _) id
  · have := (h.row r hr).lt; omega
theorem XM.next {w : World} {n0 X k i rx : Nat} {Rx : Nat → Nat} {f : Nat → Nat → Int} (h : XM w n0 X k i Rx f) (hc : w.cell? ⟨X, i, none⟩ = some (.slice (some ⟨rx, 0, none⟩) k k)) (hr : IRow w rx k (f i)) (h1 : n0 ≤ rx) (h2 : rx ≠ X) (h3 : ∀ r, r < i → Rx r ≠ rx) : XM w n0 X k (i + 1) (upd Rx i rx) f := by
  refine ⟨h.tbl.ext hc, fun r hr' => ?_, h.nX, fun r hr' => ?_, fun r r' a b c => ?_⟩
  · by_cases e : r = i
    · subst e; rw [upd_same]; exact hr
    · rw [upd_ne _ _ e]; exact h.row r (by omega)
  · by_cases e : r = i
    · subst e; rw [upd_same]; exact ⟨h1, h2⟩
    · rw [upd_ne _ _ e]; exact h.nR r (by omega)
  · by_cases e : r = i
    · subst e
      rw [upd_same, upd_ne _ _ (fun e => c e.symm)]
      exact fun e => h3 r' (by omega) e.symm
    · rw [upd_ne _ _ e]
      by_cases e' : r' = i
      · subst e'; rw [upd_same]; exact h3 r (by omega)
      · rw [upd_ne _ _ e']; exact h.inj r r' (by omega) (by omega) c
theorem XM.made (w : World) (n0 X k : Nat) (hX : X = w.heap.size) (hn : n0 ≤ w.heap.size) (Rx : Nat → Nat) (f : Nat → Nat → Int) : XM (w.alloc (.cells (madeCells #[.slice none 0 0] k) 22)) n0 X k 0 Rx f :=
  ⟨Tbl.made w k X hX Rx, fun r hr => by omega, by omega, fun r hr => by omega, fun r r' a => by omega⟩
theorem idx_lt {k : Nat} {ap : Nat → Nat → Bool} {i j : Nat} (hi : i < k) (hj : j < k) (ha : ap i j = true) : 2 * idxOf k ap i j < 2 * (esOf k ap).length ∧ mate (2 * idxOf k ap i j) < 2 * (esOf k ap).length ∧ (flowOf k ap).2 (mate (2 * idxOf k ap i j)) = pairX k ap i j := by
  have h := (idx_edge hi hj ha).1
  rw [mate_even]
  refine ⟨by omega, by omega, ?_⟩
  unfold pairX
  rw [if_pos ha]
theorem pairX_le (k : Nat) (ap : Nat → Nat → Bool) (i j : Nat) : pairX k ap i j ≤ 2 * k + 2 := by
  unfold pairX
  split
  · have h := (flow_ok k ap).1.pair (2 * idxOf k ap i j + 1)
    have h1 := roomL_le (k := k) (ap := ap) (2 * idxOf k ap i j + 1)
    have h2 := roomL_le (k := k) (ap := ap) (mate (2 * idxOf k ap i j + 1))
    omega
  · omega
theorem pairX_none {k : Nat} {ap : Nat → Nat → Bool} {i j : Nat} (ha : ap i j = false) : pairX k ap i j = 0 := by
  unfold pairX
  rw [if_neg (by rw [ha]; simp)]
end Go.Proofs.Qxb6613837a
