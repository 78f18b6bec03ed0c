import Derived.Test.Qxb6613359aW4
import Derived.ProofKit
import Derived.OpenShut
import Derived.ChangeOld
namespace Go.Proofs.Qxb6613359a
open Go.ChangeShapes Go.WideShapes Go.ChangeAt Go.RowKit

theorem Try.own : ownKnob Try.prog.godebug = none := by kernel_rfl
theorem Try.laidOut : laidOutB Try.prog = true := by kernel_rfl
theorem Try.cells22 : Try.prog.cellsOf 22 = 12 := by kernel_rfl
theorem Try.cells3 : Try.prog.cellsOf 3 = 1 := by kernel_rfl

/-- The number in a cell. -/
def numOf : Option Value → Int
  | some (.int _ n) => n
  | _ => 0

/-- An array of twelve ints, opened. -/
theorem open12 {H : Type} {enc : TypeId × Value → H} {w : World} {r : Reach} {b0 base : Nat} {spare : Nat → Bool} {held : Bool} {v : Value} {d : DataW H} {p : List MemPlace}
    (hv : Value.okWide Try.prog w r b0 22 v) (h : DataW.Trod enc Try.prog w base spare held 22 v d p) : ∃ x : Nat → Int, v = .agg (cells12 x) := by
  simp only [Value.okWide, Try.underlying22] at hv
  obtain ⟨cs, rfl, hsz, _⟩ := hv
  rw [Try.cells22] at hsz
  obtain ⟨fuel, hf⟩ := h
  obtain ⟨xs, m, _, _, _, hl, hi⟩ := DataW.trod_array Try.underlying22 hf
  have key : ∀ i, i < 12 → cs[i]? = some (.int .i64 (numOf cs[i]?)) := by
    intro i hlt
    have h1 := hi i hlt
    rw [List.getElem?_eq_getElem (by omega)] at h1
    obtain ⟨n, hn, _⟩ := DataW.trod_int Try.underlying3 h1
    rw [Try.cells3] at hn
    have h2 : (List.take 1 (List.drop (i * 1) (Value.agg cs).cells.toList))[0]? = some (.int .i64 n) := by rw [hn]; rfl
    have h3 : cs[i]? = some (.int .i64 n) := by
      simpa [Value.cells] using h2
    rw [h3]; rfl
  refine ⟨fun i => numOf cs[i]?, ?_⟩
  congr 1
  apply Array.ext_getElem?
  intro i
  by_cases hlt : i < 12
  · rw [cells12_at _ i hlt]; exact key i hlt
  · rw [Array.getElem?_eq_none (by omega), Array.getElem?_eq_none (by simp; omega)]
end Go.Proofs.Qxb6613359a
