import Derived.Test.Qxb6613837aW11
namespace Go.Proofs.Qxb6613837a
open Go.RowKit
set_option linter.unusedVariables false

theorem Try.info22 : (Try.prog.info? 22).map (fun i => (i.zero, i.size, i.bytes)) = some (some (.slice none 0 0), 1, 24) := by kernel_rfl
theorem make27 (n : Nat) (hn : n ≤ 1000000) (w : World) : (Instr.makeSlice 27 (.int .i64 n) (.int .i64 n)).run Try.prog w = .ok (.slice (some ⟨w.heap.size, 0, none⟩) n n) (w.alloc (.cells (madeCells #[.slice none 0 0] n) 22)) :=
  run_make_row' 27 22 (.slice none 0 0) 24 Try.underlying27 Try.info22 rfl .i64 .i64 n (by omega) (by omega) w
theorem outL_len (es : Es) (x : Nat) : (outL es x).length ≤ 2 * es.length := by
  unfold outL
  refine Nat.le_trans (List.length_filter_le _ _) ?_
  rw [List.length_range]; exact Nat.le_refl _
theorem lsOf_len (es : Es) (i : Nat) : (lsOf es i).length ≤ 2 * es.length := by
  unfold lsOf
  split
  · simp
  · split
    · simp
    · exact outL_len _ _
theorem lsOf_zero (es : Es) : (lsOf es 0).length = 2 * es.length := by simp [lsOf]
theorem lsOf_nil (i : Nat) : lsOf [] i = [] := List.eq_nil_of_length_eq_zero (by have := lsOf_len [] i; simpa using this)
theorem made_cell {w : World} {z : Value} {n : Nat} {t : TypeId} {i b : Nat} (hb : b = w.heap.size) (hi : i < n) : (w.alloc (.cells (madeCells #[z] n) t)).cell? ⟨b, i, none⟩ = some z := by
  subst hb
  simp only [World.cell?, heap_alloc_new]
  simp [madeCells, hi, Nat.mod_one]

theorem st_new (w : World) (V : Nat) : St ((w.alloc (.cells (madeCells #[.slice none 0 0] V) 22)).alloc (.cells #[.slice (some ⟨w.heap.size, 0, none⟩) V V, .slice none 0 0, .slice none 0 0] 56)) w.heap.size (w.heap.size + 1) w.heap.size V (fun _ => none) (fun _ => 0) (lsOf []) := by
  have hG : ∀ o : Obj, ((w.alloc (.cells (madeCells #[.slice none 0 0] V) 22)).alloc o).heap[w.heap.size + 1]? = some o := fun o => by
    have := heap_alloc_new (w.alloc (.cells (madeCells #[.slice none 0 0] V) 22)) o
    simpa using this
  have hO : ∀ o : Obj, ((w.alloc (.cells (madeCells #[.slice none 0 0] V) 22)).alloc o).heap[w.heap.size]? = some (.cells (madeCells #[.slice none 0 0] V) 22) := fun o => by
    rw [Below.heap_alloc _ _ _ (by simp)]; exact heap_alloc_new _ _
  refine ⟨?_, fun i hi => ?_, fun i => ?_, fun i => ?_, ⟨fun i hi => ?_, fun i j b hi hj hne h => (by cases h)⟩, (fun ⟨i, _, h⟩ => (by cases h)), (fun ⟨i, _, h⟩ => (by cases h)), (by omega)⟩
  · simp only [World.cell?, hG]; rfl
  · rw [lsOf_nil]
    unfold cellOf
    split
    · simp only [World.cell?, hG]; rfl
    · split
      · simp only [World.cell?, hG]; rfl
      · simp only [World.cell?, hO]
        have : i - 2 < V := by omega
        simp [madeCells, this, Nat.mod_one]
  · simp only [World.frozen?, hG]; rfl
  · simp only [World.frozen?, hO]; rfl
  · rw [lsOf_nil]; exact World.ownsRow_nil _ _ _ _

theorem newNetwork_any (V : Nat) (hV : V ≤ 1000000) (w : World) :
    Calls Try.prog 34 #[.int .i64 V] w fun e w' => e = .returned (.pointer (some ⟨w.heap.size + 1, 0, none⟩)) ∧ w' = (w.alloc (.cells (madeCells #[.slice none 0 0] V) 22)).alloc (.cells #[.slice (some ⟨w.heap.size, 0, none⟩) V V, .slice none 0 0, .slice none 0 0] 56) := by
  have hmk := make27 V hV
  go_enter Try.func34, Try.ntmps34
  go_wp2
  go_ret
  exact ⟨rfl, rfl⟩

/-- What the rest of transport must leave alone while it builds. -/
def Priv (V G O E : Nat) (A : Nat → Option Addr) (b : Nat) : Prop := b = E ∨ b = G ∨ b = O ∨ Foot (V + 2) A b
/-- The network, the excesses, the two variables. -/
structure Core (w : World) (base V G O E Pg Pe : Nat) (A : Nat → Option Addr) (cp : Nat → Nat) (es : Es) (exc : Nat → Int) : Prop where
  st : St w base G O V A cp (lsOf es)
  exc : IRow w E V exc
  pg : w.cell? ⟨Pg, 0, none⟩ = some (.pointer (some ⟨G, 0, none⟩))
  pe : w.cell? ⟨Pe, 0, none⟩ = some (.slice (some ⟨E, 0, none⟩) V V)
  xE : ¬ (E = G ∨ E = O ∨ Foot (V + 2) A E)
  xPg : ¬ Priv V G O E A Pg
  xPe : ¬ Priv V G O E A Pe
  hb : base ≤ w.heap.size
theorem Core.of_block {w w1 : World} {base V G O E Pg Pe : Nat} {A : Nat → Option Addr} {cp : Nat → Nat} {es : Es} {exc : Nat → Int} (C : Core w base V G O E Pg Pe A cp es exc) (hV : 0 < V) (hs : w.heap.size ≤ w1.heap.size) (k : ∀ b, b < w.heap.size → (Priv V G O E A b ∨ b = Pg ∨ b = Pe) → w1.heap[b]? = w.heap[b]?) : Core w1 base V G O E Pg Pe A cp es exc := by
  refine ⟨C.st.of_block hV (fun b hb h => k b hb (.inl (.inr h))), C.exc.of_block (k E C.exc.lt (.inl (.inl rfl))), ?_, ?_, C.xE, C.xPg, C.xPe, Nat.le_trans C.hb hs⟩
  · rw [World.cell?_of_block (k Pg (World.block_lt_of_cell? w _ C.pg) (.inr (.inl rfl)))]; exact C.pg
  · rw [World.cell?_of_block (k Pe (World.block_lt_of_cell? w _ C.pe) (.inr (.inr rfl)))]; exact C.pe
theorem Core.drew {w : World} {base V G O E Pg Pe : Nat} {A : Nat → Option Addr} {cp : Nat → Nat} {es : Es} {exc : Nat → Int} (C : Core w base V G O E Pg Pe A cp es exc) : Core w.drew base V G O E Pg Pe A cp es exc := ⟨C.st.drew, C.exc.of_block rfl, C.pg, C.pe, C.xE, C.xPg, C.xPe, C.hb⟩
theorem Core.alloc {w : World} {base V G O E Pg Pe : Nat} {A : Nat → Option Addr} {cp : Nat → Nat} {es : Es} {exc : Nat → Int} (C : Core w base V G O E Pg Pe A cp es exc) (hV : 0 < V) (o : Obj) : Core (w.alloc o) base V G O E Pg Pe A cp es exc := C.of_block hV (by simp) (fun b hb _ => Below.heap_alloc w o b hb)
/-- Another excess. -/
theorem Core.setExc {w : World} {base V G O E Pg Pe : Nat} {A : Nat → Option Addr} {cp : Nat → Nat} {es : Es} {exc : Nat → Int} (C : Core w base V G O E Pg Pe A cp es exc) (hV : 0 < V) (i : Nat) (z : Int) : Core (w.setCell ⟨E, i, none⟩ (.int .i64 z)) base V G O E Pg Pe A cp es (upd exc i z) := by
  have k : ∀ b, b ≠ E → (w.setCell ⟨E, i, none⟩ (.int .i64 z)).heap[b]? = w.heap[b]? := fun b hb => Below.heap_setCell _ _ _ _ hb
  refine ⟨C.st.of_block hV (fun b hb h => k b (fun e => C.xE (e ▸ h))), C.exc.set i z, ?_, ?_, C.xE, C.xPg, C.xPe, by simpa using C.hb⟩
  · rw [World.cell?_of_block (k Pg (fun e => C.xPg (.inl e)))]; exact C.pg
  · rw [World.cell?_of_block (k Pe (fun e => C.xPe (.inl e)))]; exact C.pe
end Go.Proofs.Qxb6613837a
