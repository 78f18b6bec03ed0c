import Derived.Test.Qxb6613837aW20
import Derived.ProofKit
import Derived.OpenShut
import Derived.ChangeOld
import Derived.SliceStrings
import Derived.ChangeSlices
namespace Go.Proofs.Qxb6613837a
open Go.ChangeShapes Go.WideShapes Go.ChangeAt Go.RowKit

theorem Try.own : ownKnob Try.prog.godebug = none := by kernel_rfl
theorem Try.laidOut : laidOutB Try.prog = true := by kernel_rfl
theorem Try.cells9 : Try.prog.cellsOf 9 = 1 := by kernel_rfl
theorem Try.cells3 : Try.prog.cellsOf 3 = 1 := by kernel_rfl

set_option maxRecDepth 100000 in
/-- A slice of strings that came in. -/
theorem open23 {H : Type} {enc : TypeId × Value → H} {w : World} {r : Reach} {b0 : Nat} {v : Value} {d : DataW H} {p : List MemPlace}
    (hv : Value.okWide Try.prog w r b0 23 v) (h : DataW.Trod enc Try.prog w 0 (fun _ => true) true 23 v d p) : ∃ a n c s, v = .slice a n c ∧ Strs w a n s ∧ (a = none → n = 0) ∧ n ≤ maxLen := by
  obtain ⟨a0, len, cap, rfl⟩ := okWide_slice Try.underlying23 hv
  obtain ⟨fuel, hf⟩ := h
  rcases open_strings Try.underlying23 Try.underlying9 Try.cells9 hf with ⟨hcs, hx⟩ | ⟨a, len', cap', ss, hcs, _, hl, hm, hz, hx, hcell, hsz⟩
  · simp [Value.cells] at hcs
    obtain ⟨rfl, rfl, rfl⟩ := hcs
    exact ⟨none, 0, 0, fun _ => ByteArray.empty, rfl, .inl rfl, fun _ => rfl, Nat.zero_le _⟩
  · simp [Value.cells] at hcs
    obtain ⟨rfl, rfl, rfl⟩ := hcs
    simp only [if_true] at hz
    refine ⟨some a, len, cap, fun i => ss.getD i ByteArray.empty, rfl, ?_, (fun h => (by cases h)), by omega⟩
    by_cases e : len = 0
    · exact .inl e
    · obtain ⟨ab, ao, spot⟩ := a
      have hspot : spot = none := by simpa [Addr.add] using World.cell?_spot (hcell 0 (by omega))
      subst hspot
      refine .inr ⟨ab, ao, rfl, fun i hi => ?_⟩
      have := hcell i (by omega)
      rw [Addr.add_lit] at this
      exact this

set_option maxRecDepth 100000 in
/-- A slice of ints that came in. -/
theorem open22 {H : Type} {enc : TypeId × Value → H} {w : World} {r : Reach} {b0 : Nat} {v : Value} {d : DataW H} {p : List MemPlace}
    (hv : Value.okWide Try.prog w r b0 22 v) (h : DataW.Trod enc Try.prog w 0 (fun _ => true) true 22 v d p) : ∃ a n c f, v = .slice a n c ∧ Ints w a n f ∧ n ≤ maxLen ∧ ∀ i, i < n → -9223372036854775808 ≤ f i ∧ f i ≤ 9223372036854775807 := by
  obtain ⟨a0, len, cap, rfl⟩ := okWide_slice Try.underlying22 hv
  obtain ⟨fuel, hf⟩ := h
  rcases open_ints Try.underlying22 Try.underlying3 Try.cells3 hf with ⟨hcs, hx⟩ | ⟨a, len', cap', zs, hcs, _, hl, hm, hz, hx, hcell, hwf⟩
  · simp [Value.cells] at hcs
    obtain ⟨rfl, rfl, rfl⟩ := hcs
    exact ⟨none, 0, 0, fun _ => 0, rfl, ⟨fun _ => rfl, .inl rfl⟩, Nat.zero_le _, fun i hi => by omega⟩
  · simp [Value.cells] at hcs
    obtain ⟨rfl, rfl, rfl⟩ := hcs
    simp only [if_true] at hz
    refine ⟨some a, len, cap, fun i => zs.getD i 0, rfl, ⟨(fun h => (by cases h)), ?_⟩, by omega, fun i hi => ?_⟩
    · by_cases e : len = 0
      · exact .inl e
      · obtain ⟨ab, ao, spot⟩ := a
        have hspot : spot = none := by simpa [Addr.add] using World.cell?_spot (hcell 0 (by omega))
        subst hspot
        refine .inr ⟨ab, ao, rfl, fun i hi => ?_⟩
        have := hcell i (by omega)
        rw [Addr.add_lit] at this
        exact this
    · have hlt : i < zs.length := by omega
      have hmem : zs.getD i 0 ∈ zs := by
        rw [List.getD_eq_getElem?_getD, List.getElem?_eq_getElem hlt]
        exact List.getElem_mem hlt
      exact bounds_i64 (hwf _ hmem)

theorem Kept.toBelow {w w' : World} (K : Kept (fun _ => False) w w') : Below w.heap.size w w' := ⟨K.os, K.tape, K.output, K.size, fun b hb => K.block b hb id⟩
end Go.Proofs.Qxb6613837a
