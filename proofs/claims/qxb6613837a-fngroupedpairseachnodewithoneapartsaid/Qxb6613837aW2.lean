import Derived.Test.Qxb6613837aW1
import Derived.Laws.Bits64
namespace Go.Proofs.Qxb6613837a
open Go.RowKit
set_option linter.unusedVariables false

theorem xor_one (e : Nat) : e ^^^ 1 = mate e := by
  unfold mate
  apply Nat.eq_of_testBit_eq
  intro i
  rw [Nat.testBit_xor]
  split
  · next h =>
    have e2 : e = 2 * (e / 2) := by omega
    cases i with
    | zero =>
      have h1 : (e + 1) % 2 = 1 := by omega
      simp [Nat.testBit_zero, h, h1]
    | succ i =>
      rw [Nat.testBit_succ, Nat.testBit_succ, Nat.testBit_succ, show 1 / 2 = 0 from rfl, Nat.zero_testBit, Bool.xor_false, show (e + 1) / 2 = e / 2 by omega]
  · next h =>
    cases i with
    | zero =>
      have h0 : e % 2 = 1 := by omega
      have h1 : (e - 1) % 2 = 0 := by omega
      simp [Nat.testBit_zero, h0, h1]
    | succ i =>
      rw [Nat.testBit_succ, Nat.testBit_succ, Nat.testBit_succ, show 1 / 2 = 0 from rfl, Nat.zero_testBit, Bool.xor_false, show (e - 1) / 2 = e / 2 by omega]

theorem bits_mate (e : Nat) (he : e < 1000000000) : bits .xor .i64 (e : Int) 1 = ((mate e : Nat) : Int) := by
  have h1 : (BitVec.ofInt 64 (e : Int)).toNat = e := by
    rw [BitVec.ofInt_natCast, BitVec.toNat_ofNat]; exact Nat.mod_eq_of_lt (by omega)
  have h2 : (BitVec.ofInt 64 (1 : Int)).toNat = 1 := by decide
  show IntKind.i64.wrap ((BitVec.ofInt 64 (e : Int) ^^^ BitVec.ofInt 64 (1 : Int)).toNat : Int) = _
  rw [BitVec.toNat_xor, h1, h2, IntKind.wrap_i64, xor_one]
  have : mate e < 1000000001 := by unfold mate; split <;> omega
  omega

set_option maxRecDepth 100000 in
theorem flow_any (g R m cR e : Nat) (f : Nat → Int) (w : World) (hg : w.cell? ⟨g, 2, none⟩ = some (.slice (some ⟨R, 0, none⟩) m cR)) (hR : IRow w R m f) (he : e < m) (hm : mate e < m) (hb : m ≤ 1000000) :
    Calls Try.prog 38 #[.pointer (some ⟨g, 0, none⟩), .int .i64 e] w fun e' w' => e' = .returned (.int .i64 (f (mate e))) ∧ w' = w := by
  have hc := hR.cell hm
  have hx := bits_mate e (by omega)
  go_enter Try.func38, Try.ntmps38
  go_wp2
  go_ret
  exact ⟨rfl, rfl⟩
end Go.Proofs.Qxb6613837a
