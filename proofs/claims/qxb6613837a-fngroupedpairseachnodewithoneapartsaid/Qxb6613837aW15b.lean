import Derived.Test.Qxb6613837aW15
namespace Go.Proofs.Qxb6613837a
open Go.RowKit
set_option linter.unusedVariables false

/-- The world in which transport's first loop starts. -/
def setupW (w0 : World) (k V : Nat) : World :=
  ((((((((w0.alloc (.cells #[.int .i64 1, .int .i64 1] 41)).alloc (.cells (madeCells #[.slice none 0 0] V) 22)).alloc (.cells #[.slice (some ⟨w0.heap.size + 1, 0, none⟩) V V, .slice none 0 0, .slice none 0 0] 56)).alloc
    (.cells #[.pointer (some ⟨w0.heap.size + 1 + 1, 0, none⟩)] 48)).alloc (.cells (madeCells #[.int .i64 0] V) 3)).alloc (.cells #[.slice (some ⟨w0.heap.size + 1 + 1 + 1 + 1, 0, none⟩) V V] 22)).alloc
    (.cells (madeCells #[.slice none 0 0] k) 22)).alloc (.cells (madeCells #[.slice none 0 0] k) 22))

theorem cell_one {w : World} {b : Nat} {v : Value} {t : TypeId} (h : w.heap[b]? = some (.cells #[v] t (0, 0))) : w.cell? ⟨b, 0, none⟩ = some v := by simp [World.cell?, h]

theorem setup_ti (w0 : World) (k V : Nat) (hV : 0 < V) (Re Rl : Nat → Nat) (eF : Nat → Nat → Int) :
    TI w0 (setupW w0 k V) k V (w0.heap.size + 1) (w0.heap.size + 1 + 1) (w0.heap.size + 1) (w0.heap.size + 1 + 1 + 1 + 1) (w0.heap.size + 1 + 1 + 1) (w0.heap.size + 1 + 1 + 1 + 1 + 1) w0.heap.size (w0.heap.size + 1 + 1 + 1 + 1 + 1 + 1) (w0.heap.size + 1 + 1 + 1 + 1 + 1 + 1 + 1) 0
      (fun _ => none) (fun _ => 0) [] (fun _ => 0) Re Rl eF := by
  unfold setupW
  have hst := st_new (w0.alloc (.cells #[.int .i64 1, .int .i64 1] 41)) V
  have z1 : (w0.alloc (.cells #[.int .i64 1, .int .i64 1] 41)).heap.size = w0.heap.size + 1 := by simp
  rw [z1] at hst
  have b1 : (w0.alloc (.cells #[.int .i64 1, .int .i64 1] 41)).heap[w0.heap.size]? = some (.cells #[.int .i64 1, .int .i64 1] 41 (0, 0)) := heap_alloc_new _ _
  have k1 : Kept (fun _ => False) w0 (w0.alloc (.cells #[.int .i64 1, .int .i64 1] 41)) := (Kept.refl _ _).alloc _
  generalize w0.alloc (.cells #[.int .i64 1, .int .i64 1] 41) = w1 at *
  have k3 := (k1.alloc (.cells (madeCells #[.slice none 0 0] V) 22)).alloc (.cells #[.slice (some ⟨w0.heap.size + 1, 0, none⟩) V V, .slice none 0 0, .slice none 0 0] 56)
  have b3 : ((w1.alloc (.cells (madeCells #[.slice none 0 0] V) 22)).alloc (.cells #[.slice (some ⟨w0.heap.size + 1, 0, none⟩) V V, .slice none 0 0, .slice none 0 0] 56)).heap[w0.heap.size]? = some (.cells #[.int .i64 1, .int .i64 1] 41 (0, 0)) := by
    rw [Below.heap_alloc _ _ _ (by simp; omega), Below.heap_alloc _ _ _ (by omega)]; exact b1
  have z3 : ((w1.alloc (.cells (madeCells #[.slice none 0 0] V) 22)).alloc (.cells #[.slice (some ⟨w0.heap.size + 1, 0, none⟩) V V, .slice none 0 0, .slice none 0 0] 56)).heap.size = w0.heap.size + 1 + 1 + 1 := by simp [z1]
  generalize (w1.alloc (.cells (madeCells #[.slice none 0 0] V) 22)).alloc (.cells #[.slice (some ⟨w0.heap.size + 1, 0, none⟩) V V, .slice none 0 0, .slice none 0 0] 56) = w3 at *
  clear b1 k1 z1
  have c4 := heap_alloc_new w3 (.cells #[.pointer (some ⟨w0.heap.size + 1 + 1, 0, none⟩)] 48)
  rw [z3] at c4
  have s4 := hst.of_block (w1 := w3.alloc (.cells #[.pointer (some ⟨w0.heap.size + 1 + 1, 0, none⟩)] 48)) hV (fun b hb _ => Below.heap_alloc _ _ b hb)
  have k4 := k3.alloc (.cells #[.pointer (some ⟨w0.heap.size + 1 + 1, 0, none⟩)] 48)
  have b4 := (Below.heap_alloc w3 (.cells #[.pointer (some ⟨w0.heap.size + 1 + 1, 0, none⟩)] 48) w0.heap.size (by omega)).trans b3
  have z4 : (w3.alloc (.cells #[.pointer (some ⟨w0.heap.size + 1 + 1, 0, none⟩)] 48)).heap.size = w0.heap.size + 1 + 1 + 1 + 1 := by simp [z3]
  generalize w3.alloc (.cells #[.pointer (some ⟨w0.heap.size + 1 + 1, 0, none⟩)] 48) = w4 at *
  clear b3 k3 hst z3
  have s5 := s4.of_block (w1 := w4.alloc (.cells (madeCells #[.int .i64 0] V) 3)) hV (fun b hb _ => Below.heap_alloc _ _ b hb)
  have k5 := k4.alloc (.cells (madeCells #[.int .i64 0] V) 3)
  have b5 := (Below.heap_alloc w4 (.cells (madeCells #[.int .i64 0] V) 3) w0.heap.size (by omega)).trans b4
  have c5 := (Below.heap_alloc w4 (.cells (madeCells #[.int .i64 0] V) 3) (w0.heap.size + 1 + 1 + 1) (by omega)).trans c4
  have e5 := IRow.made w4 V (w0.heap.size + 1 + 1 + 1 + 1) z4.symm
  have z5 : (w4.alloc (.cells (madeCells #[.int .i64 0] V) 3)).heap.size = w0.heap.size + 1 + 1 + 1 + 1 + 1 := by simp [z4]
  generalize w4.alloc (.cells (madeCells #[.int .i64 0] V) 3) = w5 at *
  clear b4 k4 s4 c4 z4
  have hPe := heap_alloc_new w5 (.cells #[.slice (some ⟨w0.heap.size + 1 + 1 + 1 + 1, 0, none⟩) V V] 22)
  rw [z5] at hPe
  have s6 := s5.of_block (w1 := w5.alloc (.cells #[.slice (some ⟨w0.heap.size + 1 + 1 + 1 + 1, 0, none⟩) V V] 22)) hV (fun b hb _ => Below.heap_alloc _ _ b hb)
  have k6 := k5.alloc (.cells #[.slice (some ⟨w0.heap.size + 1 + 1 + 1 + 1, 0, none⟩) V V] 22)
  have b6 := (Below.heap_alloc w5 (.cells #[.slice (some ⟨w0.heap.size + 1 + 1 + 1 + 1, 0, none⟩) V V] 22) w0.heap.size (by omega)).trans b5
  have c6 := (Below.heap_alloc w5 (.cells #[.slice (some ⟨w0.heap.size + 1 + 1 + 1 + 1, 0, none⟩) V V] 22) (w0.heap.size + 1 + 1 + 1) (by omega)).trans c5
  have e6 := e5.alloc (.cells #[.slice (some ⟨w0.heap.size + 1 + 1 + 1 + 1, 0, none⟩) V V] 22)
  have z6 : (w5.alloc (.cells #[.slice (some ⟨w0.heap.size + 1 + 1 + 1 + 1, 0, none⟩) V V] 22)).heap.size = w0.heap.size + 1 + 1 + 1 + 1 + 1 + 1 := by simp [z5]
  generalize w5.alloc (.cells #[.slice (some ⟨w0.heap.size + 1 + 1 + 1 + 1, 0, none⟩) V V] 22) = w6 at *
  clear b5 k5 s5 c5 z5 e5
  have nofoot : ∀ b, ¬ Foot (V + 2) (fun _ => none) b := fun b ⟨i, _, h⟩ => by cases h
  have npriv : ∀ b, b ≠ w0.heap.size + 1 + 1 + 1 + 1 → b ≠ w0.heap.size + 1 + 1 → b ≠ w0.heap.size + 1 → ¬ Priv V (w0.heap.size + 1 + 1) (w0.heap.size + 1) (w0.heap.size + 1 + 1 + 1 + 1) (fun _ => none) b := by
    intro b h1 h2 h3 h
    rcases h with h | h | h | h
    · exact h1 h
    · exact h2 h
    · exact h3 h
    · exact nofoot b h
  have C6 : Core w6 (w0.heap.size + 1) V (w0.heap.size + 1 + 1) (w0.heap.size + 1) (w0.heap.size + 1 + 1 + 1 + 1) (w0.heap.size + 1 + 1 + 1) (w0.heap.size + 1 + 1 + 1 + 1 + 1) (fun _ => none) (fun _ => 0) [] (fun _ => 0) :=
    ⟨s6, e6, cell_one c6, cell_one hPe, fun h => by rcases h with h | h | h; omega; omega; exact nofoot _ h, npriv _ (by omega) (by omega) (by omega), npriv _ (by omega) (by omega) (by omega), by omega⟩
  refine ⟨(C6.alloc hV _).alloc hV _, ⟨?_, ?_, ?_, fun r hr => by omega, fun r hr => by omega⟩, (k6.alloc _).alloc _, by omega, fun b h => ?_, ⟨by omega, fun r hr => by omega⟩⟩
  · rw [Below.heap_alloc _ _ _ (by simp; omega), Below.heap_alloc _ _ _ (by omega)]; exact b6
  · exact (Tbl.made w6 k _ z6.symm Re).of_block (Below.heap_alloc _ _ _ (by simp [z6]))
  · exact Tbl.made _ k _ (by simp [z6]) Rl
  · have hsz : ((w6.alloc (.cells (madeCells #[.slice none 0 0] k) 22)).alloc (.cells (madeCells #[.slice none 0 0] k) 22)).heap.size = w0.heap.size + 8 := by simp [z6]
    rw [hsz]
    rcases h with h | h | h | h | h | ⟨r, hr, _⟩
    · subst h; exact ⟨by omega, by omega, npriv _ (by omega) (by omega) (by omega)⟩
    · subst h; exact ⟨by omega, by omega, npriv _ (by omega) (by omega) (by omega)⟩
    · subst h; exact ⟨by omega, by omega, npriv _ (by omega) (by omega) (by omega)⟩
    · subst h; exact ⟨by omega, by omega, npriv _ (by omega) (by omega) (by omega)⟩
    · subst h; exact ⟨by omega, by omega, npriv _ (by omega) (by omega) (by omega)⟩
    · omega
end Go.Proofs.Qxb6613837a
