import Derived.Test.Qxb6613837aW2
namespace Go.Proofs.Qxb6613837a
open Go.RowKit
set_option linter.unusedVariables false

/-- All blocks but those of ex are as they were; the outside too; no block is new or gone. -/
structure Kept (ex : Nat → Prop) (w w' : World) : Prop where
  os : w'.os = w.os
  tape : w'.tape = w.tape
  output : w'.output = w.output
  size : w.heap.size ≤ w'.heap.size
  block : ∀ b, b < w.heap.size → ¬ ex b → w'.heap[b]? = w.heap[b]?
theorem Kept.refl (ex : Nat → Prop) (w : World) : Kept ex w w := ⟨rfl, rfl, rfl, Nat.le_refl _, fun _ _ _ => rfl⟩
theorem Kept.trans {ex : Nat → Prop} {w w' w'' : World} (h : Kept ex w w') (k : Kept ex w' w'') : Kept ex w w'' :=
  ⟨k.os.trans h.os, k.tape.trans h.tape, k.output.trans h.output, Nat.le_trans h.size k.size, fun b hb he => (k.block b (Nat.lt_of_lt_of_le hb h.size) he).trans (h.block b hb he)⟩
theorem Kept.drew {ex : Nat → Prop} {w w' : World} (h : Kept ex w w') : Kept ex w w'.drew := ⟨h.os, h.tape, h.output, h.size, h.block⟩
theorem Kept.setCell {ex : Nat → Prop} {w w' : World} (h : Kept ex w w') {a : Addr} (ha : ex a.block) (v : Value) : Kept ex w (w'.setCell a v) :=
  h.trans ⟨rfl, rfl, rfl, by simp, fun b _ he => Below.heap_setCell _ _ _ _ (fun e => he (by rw [← e] at ha; exact ha))⟩
theorem IRow.kept {ex : Nat → Prop} {w w' : World} {b n : Nat} {f : Nat → Int} (h : IRow w b n f) (k : Kept ex w w') (hb : ¬ ex b) : IRow w' b n f := h.of_block (k.block b h.lt hb)

/-- The network as the flow reads it: nothing of it in a block of ex. -/
structure Net (ex : Nat → Prop) (w : World) (g O H R V m cH cR : Nat) (row : Nat → Option Addr) (cap : Nat → Nat) (out : Nat → List Nat) (head : Nat → Nat) : Prop where
  f0 : w.cell? ⟨g, 0, none⟩ = some (.slice (some ⟨O, 0, none⟩) V V)
  f1 : w.cell? ⟨g, 1, none⟩ = some (.slice (some ⟨H, 0, none⟩) m cH)
  f2 : w.cell? ⟨g, 2, none⟩ = some (.slice (some ⟨R, 0, none⟩) m cR)
  rows : ∀ u, u < V → w.cell? ⟨O, u, none⟩ = some (.slice (row u) (out u).length (cap u))
  cells : ∀ u i, u < V → i < (out u).length → ∃ b, row u = some ⟨b, 0, none⟩ ∧ ¬ ex b ∧ w.cell? ⟨b, i, none⟩ = some (.int .i64 ((out u).getD i 0 : Nat))
  hd : IRow w H m (fun e => (head e : Int))
  xg : ¬ ex g
  xO : ¬ ex O
  xH : ¬ ex H
theorem kept_cell {ex : Nat → Prop} {w w' : World} {b i : Nat} {v : Value} (h : w.cell? ⟨b, i, none⟩ = some v) (k : Kept ex w w') (hb : ¬ ex b) : w'.cell? ⟨b, i, none⟩ = some v :=
  (World.cell?_of_block (w := w) (k.block b (World.block_lt_of_cell? w _ h) hb)).trans h
theorem Net.kept {ex : Nat → Prop} {w w' : World} {g O H R V m cH cR : Nat} {row : Nat → Option Addr} {cap : Nat → Nat} {out : Nat → List Nat} {head : Nat → Nat} (h : Net ex w g O H R V m cH cR row cap out head) (k : Kept ex w w') : Net ex w' g O H R V m cH cR row cap out head := by
  refine ⟨kept_cell h.f0 k h.xg, kept_cell h.f1 k h.xg, kept_cell h.f2 k h.xg, fun u hu => kept_cell (h.rows u hu) k h.xO, fun u i hu hi => ?_, h.hd.kept k h.xH, h.xg, h.xO, h.xH⟩
  obtain ⟨b, h1, h2, h3⟩ := h.cells u i hu hi
  exact ⟨b, h1, h2, kept_cell h3 k h2⟩
end Go.Proofs.Qxb6613837a
