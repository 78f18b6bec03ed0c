import Derived.Test.Qxb6613837aG16
import Derived.WalkKit
import Derived.WalkSpells
import Derived.WalkLawsBesides
import Derived.Deep.QuietTactic
import Derived.Deep.RegionHeld3
namespace Go.Proofs.Qxb6613837a
open Go.RowKit
set_option linter.unusedVariables false

theorem hid {p : Prop} (h : p) : Hid p := h
/-- Block b holds ints: cell i < n the number f i; nothing frozen. -/
def IRow (w : World) (b n : Nat) (f : Nat → Int) : Prop := ∃ c t, w.heap[b]? = some (.cells c t (0, 0)) ∧ ∀ i, i < n → c[i]? = some (.int .i64 (f i))
theorem IRow.cell {w : World} {b n : Nat} {f : Nat → Int} (h : IRow w b n f) {i : Nat} (hi : i < n) : w.cell? ⟨b, i, none⟩ = some (.int .i64 (f i)) := by
  obtain ⟨c, t, hb, hc⟩ := h
  simp [World.cell?, hb, hc i hi]
theorem IRow.frozen {w : World} {b n : Nat} {f : Nat → Int} (h : IRow w b n f) (i : Nat) : w.frozen? ⟨b, i, none⟩ = false := by
  obtain ⟨c, t, hb, _⟩ := h
  simp [World.frozen?, hb]
theorem IRow.lt {w : World} {b n : Nat} {f : Nat → Int} (h : IRow w b n f) : b < w.heap.size := by
  obtain ⟨c, t, hb, _⟩ := h
  exact lt_of_block hb
theorem IRow.of_block {w w' : World} {b n : Nat} {f : Nat → Int} (h : IRow w b n f) (e : w'.heap[b]? = w.heap[b]?) : IRow w' b n f := by
  obtain ⟨c, t, hb, hc⟩ := h
  exact ⟨c, t, e.trans hb, hc⟩
theorem IRow.set {w : World} {b n : Nat} {f : Nat → Int} (h : IRow w b n f) (i : Nat) (z : Int) : IRow (w.setCell ⟨b, i, none⟩ (.int .i64 z)) b n (upd f i z) := by
  obtain ⟨c, t, hb, hc⟩ := h
  refine ⟨_, t, heap_setCell_same w b i c t _ hb, fun j hj => ?_⟩
  have := hc j hj
  by_cases e : j = i
  · subst e
    rw [upd_same]
    have hl := (Array.getElem?_eq_some_iff.1 this).1
    simp [hl]
  · rw [upd_ne _ _ e, Array.getElem?_setIfInBounds_ne (fun e' => e e'.symm)]
    exact this
theorem IRow.setOther {w : World} {b n : Nat} {f : Nat → Int} (h : IRow w b n f) {a : Addr} (ha : b ≠ a.block) (v : Value) : IRow (w.setCell a v) b n f := h.of_block (Below.heap_setCell _ _ _ _ ha)
end Go.Proofs.Qxb6613837a
