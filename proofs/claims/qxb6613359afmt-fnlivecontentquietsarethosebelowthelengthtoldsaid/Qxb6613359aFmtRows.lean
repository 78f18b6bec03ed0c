/-
  No cell of these rows narrows 'for every input' (looked for: loops, veiled, ifaces, maps, wideKeys, modest, calm, conditions, laid).
  DERIVED. THE GIVEN ROWS OF THIS SEAT. 2 by the template 'for every input the law returns true; each argument reads behind the call as it read before'; 0 by the template 'total and deterministic' (their statements: Qxb6613359aFmtTotals.lean).
  GIVEN WITH THE SEED: the statements are not yours to turn. If you find one false, say at which input.
  Laid BY PROGRAM, IN A SANDBOX (cutbox-rows.mjs): the forced cells as the released guide's own fill.sh prints them over the translation 84bceb9d4b7564e2… (all of the seat's roots in one cut). By AI agents, Wed Nov 11 2026. No macro, syntax, notation, axiom, sorry.
-/
import Derived.Test.Qxb6613359aFmtChecked
import GoSem.Claim
import GoSem.ClaimJoined
import GoSem.ClaimMapViews
import Derived.JoinedTies
import Derived.KernelRfl
namespace Go.Proofs.Qxb6613359aFmt
/- THE CELL 'sum', in the pinned program and in every row, IS THE sha256 OF THE DUMP (.gsa) THAT Qxb6613359aFmtProg.lean LOADS. Nothing in Lean hashes anything: it is a label: what it is worth is what the hold of that sum in a sandbox is worth. -/
noncomputable def Tryf.pinned : Pinned := { name := "qxb6613359afmt", sum := "84bceb9d4b7564e217ce01f79ca1ac3954a5db9d5639c2a0c972f8d1de21a066", checked := Tryf.checked }
namespace Rows
def none {H : Type} : Left H := { results := [], args := [] }

/-- 'zzlaws_internal_sim_b1.FnLiveOwnTermCommitEndsViolation': WHATEVER THE INPUT: true; the input reads as it did. -/
def fnLiveOwnTermCommitEndsViolationSpec : ChangeSpec := { name := "fnLiveOwnTermCommitEndsViolation", fn := fun _ => fun
  | [d1, d2, d3, d4] => { results := [.lit (.bool true)], args := [d1, d2, d3, d4] }
  | _ => none }
def fnLiveOwnTermCommitEndsViolationRow : OpenClaim := { program := "qxb6613359afmt", sum := "84bceb9d4b7564e217ce01f79ca1ac3954a5db9d5639c2a0c972f8d1de21a066", func := "example.com/quorumlog/quorumlog/zzlaws_internal_sim_b1.FnLiveOwnTermCommitEndsViolation", spec := "fnLiveOwnTermCommitEndsViolation", stops := ["fmt.Sprintf"], inPlace := ["fmt.Sprintf"], plainKeys := false, apart := false }
/-- NO THEOREM (fmt's text is open here; it may be false): for the released tool's asking of the row's closed facts alone. THE STATEMENT IS 'FnLiveOwnTermCommitEndsViolationToldSaid' (Qxb6613359aFmtCards.lean). -/
def FnLiveOwnTermCommitEndsViolationFormAsk : Prop := fnLiveOwnTermCommitEndsViolationRow.holds Tryf.pinned (OpenSpec.ofChange fnLiveOwnTermCommitEndsViolationSpec)

/-- ITS FALSE NEIGHBOUR: 'it returns false'. Refute it at one input. -/
def fnLiveOwnTermCommitEndsViolationWrong : ChangeSpec := { name := "fnLiveOwnTermCommitEndsViolation", fn := fun _ => fun
  | [d1, d2, d3, d4] => { results := [.lit (.bool false)], args := [d1, d2, d3, d4] }
  | _ => none }
def FnLiveOwnTermCommitEndsViolationWrongFormAsk : Prop := fnLiveOwnTermCommitEndsViolationRow.holds Tryf.pinned (OpenSpec.ofChange fnLiveOwnTermCommitEndsViolationWrong)

/-- 'zzlaws_internal_sim_b1.FnLiveContentQuietsAreThoseBelowTheLength': WHATEVER THE INPUT: true; the input reads as it did. -/
def fnLiveContentQuietsAreThoseBelowTheLengthSpec : ChangeSpec := { name := "fnLiveContentQuietsAreThoseBelowTheLength", fn := fun _ => fun
  | [d1, d2, d3, d4] => { results := [.lit (.bool true)], args := [d1, d2, d3, d4] }
  | _ => none }
def fnLiveContentQuietsAreThoseBelowTheLengthRow : OpenClaim := { program := "qxb6613359afmt", sum := "84bceb9d4b7564e217ce01f79ca1ac3954a5db9d5639c2a0c972f8d1de21a066", func := "example.com/quorumlog/quorumlog/zzlaws_internal_sim_b1.FnLiveContentQuietsAreThoseBelowTheLength", spec := "fnLiveContentQuietsAreThoseBelowTheLength", stops := ["fmt.Sprintf"], inPlace := ["fmt.Sprintf"], plainKeys := false, apart := false }
/-- NO THEOREM (fmt's text is open here; it may be false): for the released tool's asking of the row's closed facts alone. THE STATEMENT IS 'FnLiveContentQuietsAreThoseBelowTheLengthToldSaid' (Qxb6613359aFmtCards.lean). -/
def FnLiveContentQuietsAreThoseBelowTheLengthFormAsk : Prop := fnLiveContentQuietsAreThoseBelowTheLengthRow.holds Tryf.pinned (OpenSpec.ofChange fnLiveContentQuietsAreThoseBelowTheLengthSpec)

/-- ITS FALSE NEIGHBOUR: 'it returns false'. Refute it at one input. -/
def fnLiveContentQuietsAreThoseBelowTheLengthWrong : ChangeSpec := { name := "fnLiveContentQuietsAreThoseBelowTheLength", fn := fun _ => fun
  | [d1, d2, d3, d4] => { results := [.lit (.bool false)], args := [d1, d2, d3, d4] }
  | _ => none }
def FnLiveContentQuietsAreThoseBelowTheLengthWrongFormAsk : Prop := fnLiveContentQuietsAreThoseBelowTheLengthRow.holds Tryf.pinned (OpenSpec.ofChange fnLiveContentQuietsAreThoseBelowTheLengthWrong)

end Rows
end Go.Proofs.Qxb6613359aFmt
