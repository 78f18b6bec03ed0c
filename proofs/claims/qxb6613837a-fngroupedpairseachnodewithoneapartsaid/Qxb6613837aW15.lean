import Derived.Test.Qxb6613837aW8
import Derived.Test.Qxb6613837aW14
namespace Go.Proofs.Qxb6613837a
open Go.RowKit
set_option linter.unusedVariables false

/-- Block b holds a table of k rows: those below i lie in the blocks Re. -/
def Tbl (w : World) (b k i : Nat) (Re : Nat → Nat) : Prop := ∃ cs t, w.heap[b]? = some (.cells cs t (0, 0)) ∧ cs.size = k ∧ ∀ r, r < i → cs[r]? = some (.slice (some ⟨Re r, 0, none⟩) k k)
theorem Tbl.lt {w : World} {b k i : Nat} {Re : Nat → Nat} (h : Tbl w b k i Re) : b < w.heap.size := by
  obtain ⟨cs, t, hb, _⟩ := h
  exact lt_of_block hb
theorem Tbl.of_block {w w' : World} {b k i : Nat} {Re : Nat → Nat} (h : Tbl w b k i Re) (e : w'.heap[b]? = w.heap[b]?) : Tbl w' b k i Re := by
  obtain ⟨cs, t, hb, hc⟩ := h
  exact ⟨cs, t, e.trans hb, hc⟩
theorem Tbl.cell {w : World} {b k i : Nat} {Re : Nat → Nat} (h : Tbl w b k i Re) {r : Nat} (hr : r < i) : w.cell? ⟨b, r, none⟩ = some (.slice (some ⟨Re r, 0, none⟩) k k) := by
  obtain ⟨cs, t, hb, _, hc⟩ := h
  simp [World.cell?, hb, hc r hr]
theorem Tbl.has {w : World} {b k i : Nat} {Re : Nat → Nat} (h : Tbl w b k i Re) {r : Nat} (hr : r < k) : ∃ v, w.cell? ⟨b, r, none⟩ = some v := by
  obtain ⟨cs, t, hb, hs, _⟩ := h
  refine ⟨cs[r], ?_⟩
  simp [World.cell?, hb, hs, hr]
theorem Tbl.frozen {w : World} {b k i : Nat} {Re : Nat → Nat} (h : Tbl w b k i Re) (r : Nat) : w.frozen? ⟨b, r, none⟩ = false := by
  obtain ⟨cs, t, hb, _⟩ := h
  simp [World.frozen?, hb]
theorem Tbl.set {w : World} {b k i : Nat} {Re : Nat → Nat} (h : Tbl w b k i Re) (hi : i < k) (g : Nat) : Tbl (w.setCell ⟨b, i, none⟩ (.slice (some ⟨g, 0, none⟩) k k)) b k (i + 1) (upd Re i g) := by
  obtain ⟨cs, t, hb, hs, hc⟩ := h
  refine ⟨_, t, heap_setCell_same w b i cs t _ hb, by simpa using hs, fun r hr => ?_⟩
  by_cases e : r = i
  · subst e
    have : r < cs.size := by omega
    rw [upd_same]
    simp [this]
  · rw [upd_ne _ _ e, Array.getElem?_setIfInBounds_ne (fun h => e h.symm)]
    exact hc r (by omega)
theorem Tbl.made (w : World) (k b : Nat) (hb : b = w.heap.size) (Re : Nat → Nat) : Tbl (w.alloc (.cells (madeCells #[.slice none 0 0] k) 22)) b k 0 Re := by
  subst hb
  exact ⟨_, 22, heap_alloc_new w _, size_madeCells _ _, fun r hr => by omega⟩

/-- What transport's first loops must not touch. -/
def Xs (P4 Ed Lo Pg Pe i : Nat) (Re Rl : Nat → Nat) (b : Nat) : Prop := b = P4 ∨ b = Ed ∨ b = Lo ∨ b = Pg ∨ b = Pe ∨ ∃ r, r < i ∧ (b = Re r ∨ b = Rl r)
/-- The rows that are done. -/
structure Fin (w : World) (k i P4 Ed Lo : Nat) (Re Rl : Nat → Nat) (eF : Nat → Nat → Int) : Prop where
  p4 : w.heap[P4]? = some (.cells #[.int .i64 1, .int .i64 1] 41 (0, 0))
  ed : Tbl w Ed k i Re
  lo : Tbl w Lo k i Rl
  er : ∀ r, r < i → IRow w (Re r) k (eF r)
  lr : ∀ r, r < i → IRow w (Rl r) k (fun _ => 0)
theorem Fin.of_block {w w' : World} {k i P4 Ed Lo Pg Pe : Nat} {Re Rl : Nat → Nat} {eF : Nat → Nat → Int} (F : Fin w k i P4 Ed Lo Re Rl eF) (h : ∀ b, b < w.heap.size → Xs P4 Ed Lo Pg Pe i Re Rl b → w'.heap[b]? = w.heap[b]?) : Fin w' k i P4 Ed Lo Re Rl eF :=
  ⟨(h P4 (lt_of_block F.p4) (.inl rfl)).trans F.p4, F.ed.of_block (h Ed F.ed.lt (.inr (.inl rfl))), F.lo.of_block (h Lo F.lo.lt (.inr (.inr (.inl rfl)))),
    fun r hr => (F.er r hr).of_block (h _ (F.er r hr).lt (.inr (.inr (.inr (.inr (.inr ⟨r, hr, .inl rfl⟩)))))), fun r hr => (F.lr r hr).of_block (h _ (F.lr r hr).lt (.inr (.inr (.inr (.inr (.inr ⟨r, hr, .inr rfl⟩))))))⟩

def Dis (P4 Ed Lo Pg Pe i : Nat) (Re Rl : Nat → Nat) : Prop := (Ed ≠ Lo ∧ P4 ≠ Ed ∧ P4 ≠ Lo ∧ Pg ≠ Ed ∧ Pg ≠ Lo ∧ Pe ≠ Ed ∧ Pe ≠ Lo) ∧ ∀ r, r < i → (Re r ≠ Ed ∧ Re r ≠ Lo ∧ Rl r ≠ Ed ∧ Rl r ≠ Lo)
theorem Tbl.setAt {w : World} {b k i : Nat} {Re : Nat → Nat} (h : Tbl w b k i Re) (v : Value) : Tbl (w.setCell ⟨b, i, none⟩ v) b k i Re := by
  obtain ⟨cs, t, hb, hs, hc⟩ := h
  refine ⟨_, t, heap_setCell_same w b i cs t _ hb, by simpa using hs, fun r hr => ?_⟩
  rw [Array.getElem?_setIfInBounds_ne (by omega)]
  exact hc r hr
/-- All that holds between two rows. -/
structure TI (w0 w : World) (k V base G O E Pg Pe P4 Ed Lo i : Nat) (A : Nat → Option Addr) (cp : Nat → Nat) (es : Es) (exc : Nat → Int) (Re Rl : Nat → Nat) (eF : Nat → Nat → Int) : Prop where
  core : Core w base V G O E Pg Pe A cp es exc
  fin : Fin w k i P4 Ed Lo Re Rl eF
  old : Kept (fun _ => False) w0 w
  new : w0.heap.size ≤ base ∧ w0.heap.size ≤ E ∧ w0.heap.size ≤ G ∧ w0.heap.size ≤ O
  x : ∀ b, Xs P4 Ed Lo Pg Pe i Re Rl b → w0.heap.size ≤ b ∧ b < w.heap.size ∧ ¬ Priv V G O E A b
  dis : Dis P4 Ed Lo Pg Pe i Re Rl
theorem TI.priv_new {w0 w : World} {k V base G O E Pg Pe P4 Ed Lo i : Nat} {A : Nat → Option Addr} {cp : Nat → Nat} {es : Es} {exc : Nat → Int} {Re Rl : Nat → Nat} {eF : Nat → Nat → Int} (T : TI w0 w k V base G O E Pg Pe P4 Ed Lo i A cp es exc Re Rl eF) {b : Nat} (h : Priv V G O E A b) : w0.heap.size ≤ b := by
  have := T.new
  rcases h with h | h | h | h
  · omega
  · omega
  · omega
  · have := (T.core.st.fam.foot_lt h).1; omega
/-- One bounded more (or one add): the network's own blocks alone change. -/
theorem TI.more {w0 w w' : World} {k V base G O E Pg Pe P4 Ed Lo i : Nat} {A A' : Nat → Option Addr} {cp cp' : Nat → Nat} {es es' : Es} {exc exc' : Nat → Int} {Re Rl : Nat → Nat} {eF : Nat → Nat → Int} (T : TI w0 w k V base G O E Pg Pe P4 Ed Lo i A cp es exc Re Rl eF)
    (C : Core w' base V G O E Pg Pe A' cp' es' exc') (K : Kept (Priv V G O E A) w w') (R : ∀ b, Priv V G O E A' b → Priv V G O E A b ∨ w.heap.size ≤ b) : TI w0 w' k V base G O E Pg Pe P4 Ed Lo i A' cp' es' exc' Re Rl eF := by
  refine ⟨C, T.fin.of_block (Pg := Pg) (Pe := Pe) (fun b hb h => K.block b hb (T.x b h).2.2), T.old.join K (fun b hb h => by have := T.priv_new h; omega), T.new, fun b h => ?_, T.dis⟩
  obtain ⟨h1, h2, h3⟩ := T.x b h
  refine ⟨h1, Nat.lt_of_lt_of_le h2 K.size, fun h4 => ?_⟩
  rcases R b h4 with h5 | h5
  · exact h3 h5
  · omega
/-- Something new beside it, or something else written. -/
theorem TI.beside {w0 w w' : World} {k V base G O E Pg Pe P4 Ed Lo i : Nat} {A : Nat → Option Addr} {cp : Nat → Nat} {es : Es} {exc : Nat → Int} {Re Rl : Nat → Nat} {eF : Nat → Nat → Int} (T : TI w0 w k V base G O E Pg Pe P4 Ed Lo i A cp es exc Re Rl eF) (hV : 0 < V) {ex : Nat → Prop}
    (K : Kept ex w w') (hx : ∀ b, ex b → w0.heap.size ≤ b ∧ ¬ Xs P4 Ed Lo Pg Pe i Re Rl b ∧ ¬ Priv V G O E A b) : TI w0 w' k V base G O E Pg Pe P4 Ed Lo i A cp es exc Re Rl eF := by
  refine ⟨T.core.of_block hV K.size (fun b hb h => K.block b hb (fun h' => ?_)), T.fin.of_block (Pg := Pg) (Pe := Pe) (fun b hb h => K.block b hb (fun h' => (hx b h').2.1 h)), T.old.join K (fun b hb h => by have := (hx b h).1; omega), T.new, fun b h => ?_, T.dis⟩
  · rcases h with h | h | h
    · exact (hx b h').2.2 h
    · exact (hx b h').2.1 (.inr (.inr (.inr (.inl h))))
    · exact (hx b h').2.1 (.inr (.inr (.inr (.inr (.inl h)))))
  · obtain ⟨h1, h2, h3⟩ := T.x b h
    exact ⟨h1, Nat.lt_of_lt_of_le h2 K.size, h3⟩
/-- The next row's places in the two tables. -/
theorem TI.setEd {w0 w : World} {k V base G O E Pg Pe P4 Ed Lo i : Nat} {A : Nat → Option Addr} {cp : Nat → Nat} {es : Es} {exc : Nat → Int} {Re Rl : Nat → Nat} {eF : Nat → Nat → Int} (T : TI w0 w k V base G O E Pg Pe P4 Ed Lo i A cp es exc Re Rl eF) (hV : 0 < V) (v : Value) : TI w0 (w.setCell ⟨Ed, i, none⟩ v) k V base G O E Pg Pe P4 Ed Lo i A cp es exc Re Rl eF := by
  have k1 : ∀ b, b ≠ Ed → (w.setCell ⟨Ed, i, none⟩ v).heap[b]? = w.heap[b]? := fun b hb => Below.heap_setCell _ _ _ _ hb
  obtain ⟨⟨d1, d2, d3, d4, d5, d6, d7⟩, dr⟩ := T.dis
  have hx := T.x Ed (.inr (.inl rfl))
  refine ⟨T.core.of_block hV (by simp) (fun b hb h => k1 b (fun e => ?_)), ⟨(k1 P4 d2).trans T.fin.p4, T.fin.ed.setAt v, T.fin.lo.of_block (k1 Lo (fun e => d1 e.symm)), fun r hr => (T.fin.er r hr).of_block (k1 _ (dr r hr).1), fun r hr => (T.fin.lr r hr).of_block (k1 _ (dr r hr).2.2.1)⟩, T.old.join (Kept.setCell (ex := fun b => b = Ed) (Kept.refl _ w) (a := ⟨Ed, i, none⟩) rfl v) (fun b hb h => by omega), T.new, fun b h => ?_, T.dis⟩
  · rcases h with h | h | h
    · rw [e] at h; exact hx.2.2 h
    · exact d4 (h.symm.trans e)
    · exact d6 (h.symm.trans e)
  · have := T.x b h; simpa using this
theorem TI.setLo {w0 w : World} {k V base G O E Pg Pe P4 Ed Lo i : Nat} {A : Nat → Option Addr} {cp : Nat → Nat} {es : Es} {exc : Nat → Int} {Re Rl : Nat → Nat} {eF : Nat → Nat → Int} (T : TI w0 w k V base G O E Pg Pe P4 Ed Lo i A cp es exc Re Rl eF) (hV : 0 < V) (v : Value) : TI w0 (w.setCell ⟨Lo, i, none⟩ v) k V base G O E Pg Pe P4 Ed Lo i A cp es exc Re Rl eF := by
  have k1 : ∀ b, b ≠ Lo → (w.setCell ⟨Lo, i, none⟩ v).heap[b]? = w.heap[b]? := fun b hb => Below.heap_setCell _ _ _ _ hb
  obtain ⟨⟨d1, d2, d3, d4, d5, d6, d7⟩, dr⟩ := T.dis
  have hx := T.x Lo (.inr (.inr (.inl rfl)))
  refine ⟨T.core.of_block hV (by simp) (fun b hb h => k1 b (fun e => ?_)), ⟨(k1 P4 d3).trans T.fin.p4, T.fin.ed.of_block (k1 Ed d1), T.fin.lo.setAt v, fun r hr => (T.fin.er r hr).of_block (k1 _ (dr r hr).2.1), fun r hr => (T.fin.lr r hr).of_block (k1 _ (dr r hr).2.2.2)⟩, T.old.join (Kept.setCell (ex := fun b => b = Lo) (Kept.refl _ w) (a := ⟨Lo, i, none⟩) rfl v) (fun b hb h => by omega), T.new, fun b h => ?_, T.dis⟩
  · rcases h with h | h | h
    · rw [e] at h; exact hx.2.2 h
    · exact d5 (h.symm.trans e)
    · exact d7 (h.symm.trans e)
  · have := T.x b h; simpa using this
theorem TI.alloc {w0 w : World} {k V base G O E Pg Pe P4 Ed Lo i : Nat} {A : Nat → Option Addr} {cp : Nat → Nat} {es : Es} {exc : Nat → Int} {Re Rl : Nat → Nat} {eF : Nat → Nat → Int} (T : TI w0 w k V base G O E Pg Pe P4 Ed Lo i A cp es exc Re Rl eF) (hV : 0 < V) (o : Obj) : TI w0 (w.alloc o) k V base G O E Pg Pe P4 Ed Lo i A cp es exc Re Rl eF :=
  T.beside hV (ex := fun _ => False) ((Kept.refl _ w).alloc o) (fun b h => h.elim)
theorem TI.drew {w0 w : World} {k V base G O E Pg Pe P4 Ed Lo i : Nat} {A : Nat → Option Addr} {cp : Nat → Nat} {es : Es} {exc : Nat → Int} {Re Rl : Nat → Nat} {eF : Nat → Nat → Int} (T : TI w0 w k V base G O E Pg Pe P4 Ed Lo i A cp es exc Re Rl eF) (hV : 0 < V) : TI w0 w.drew k V base G O E Pg Pe P4 Ed Lo i A cp es exc Re Rl eF :=
  T.beside hV (ex := fun _ => False) ((Kept.refl _ w).drew) (fun b h => h.elim)
end Go.Proofs.Qxb6613837a
