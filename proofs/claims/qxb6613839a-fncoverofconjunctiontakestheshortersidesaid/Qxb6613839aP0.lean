import Derived.Test.Qxb6613839aE17
import Derived.ProofKit
import Derived.OpenShut
import Derived.ChangeOld
import Derived.SliceStrings
import Derived.Deep.Grids
namespace Go.Proofs.Qxb6613839a
open Go.ChangeShapes Go.WideShapes Go.ChangeAt Go.RowKit Go.Deep

theorem Try.own : ownKnob Try.prog.godebug = none := by kernel_rfl
theorem Try.laidOut : laidOutB Try.prog = true := by kernel_rfl
theorem Try.cells9 : Try.prog.cellsOf 9 = 1 := by kernel_rfl
theorem Try.cells4 : Try.prog.cellsOf 4 = 1 := by kernel_rfl

set_option maxRecDepth 100000 in
/-- A slice of strings that came in. -/
theorem open22 {H : Type} {enc : TypeId × Value → H} {w : World} {r : Reach} {b0 : Nat} {v : Value} {d : DataW H} {p : List MemPlace}
    (hv : Value.okWide Try.prog w r b0 22 v) (h : DataW.Trod enc Try.prog w 0 (fun _ => true) true 22 v d p) : ∃ a n c s, v = .slice a n c ∧ Strs w a n s ∧ n ≤ maxLen := by
  obtain ⟨a0, len, cap, rfl⟩ := okWide_slice Try.underlying22 hv
  obtain ⟨fuel, hf⟩ := h
  rcases open_strings Try.underlying22 Try.underlying9 Try.cells9 hf with ⟨hcs, hx⟩ | ⟨a, len', cap', ss, hcs, _, hl, hm, hz, hx, hcell, hsz⟩
  · simp [Value.cells] at hcs
    obtain ⟨rfl, rfl, rfl⟩ := hcs
    exact ⟨none, 0, 0, fun _ => ByteArray.empty, rfl, .inl rfl, Nat.zero_le _⟩
  · simp [Value.cells] at hcs
    obtain ⟨rfl, rfl, rfl⟩ := hcs
    simp only [if_true] at hz
    refine ⟨some a, len, cap, fun i => ss.getD i ByteArray.empty, rfl, ?_, by omega⟩
    by_cases e : len = 0
    · exact .inl e
    · obtain ⟨ab, ao, spot⟩ := a
      have hspot : spot = none := by simpa [Addr.add] using World.cell?_spot (hcell 0 (by omega))
      subst hspot
      refine .inr ⟨ab, ao, rfl, fun i hi => ?_⟩
      have := hcell i (by omega)
      rw [Addr.add_lit] at this
      exact this

set_option maxRecDepth 100000 in
/-- A slice of bools that came in. -/
theorem open33 {H : Type} {enc : TypeId × Value → H} {w : World} {r : Reach} {b0 : Nat} {v : Value} {d : DataW H} {p : List MemPlace}
    (hv : Value.okWide Try.prog w r b0 33 v) (h : DataW.Trod enc Try.prog w 0 (fun _ => true) true 33 v d p) : ∃ a n c s, v = .slice a n c ∧ Bools w a n s ∧ n ≤ maxLen := by
  obtain ⟨a0, len, cap, rfl⟩ := okWide_slice Try.underlying33 hv
  obtain ⟨fuel, hf⟩ := h
  rcases open_bools Try.underlying33 Try.underlying4 Try.cells4 hf with ⟨hcs, hx⟩ | ⟨a, len', cap', B, hcs, _, hl, hm, hx, hcell⟩
  · simp [Value.cells] at hcs
    obtain ⟨rfl, rfl, rfl⟩ := hcs
    exact ⟨none, 0, 0, fun _ => false, rfl, .inl rfl, Nat.zero_le _⟩
  · simp [Value.cells] at hcs
    obtain ⟨rfl, rfl, rfl⟩ := hcs
    refine ⟨some a, len, cap, B, rfl, ?_, by omega⟩
    by_cases e : len = 0
    · exact .inl e
    · obtain ⟨ab, ao, spot⟩ := a
      have hspot : spot = none := by simpa [Addr.add] using World.cell?_spot (hcell 0 (by omega))
      subst hspot
      refine .inr ⟨ab, ao, rfl, fun i hi => ?_⟩
      have := hcell i (by omega)
      rw [Addr.add_lit] at this
      exact this
end Go.Proofs.Qxb6613839a
