/-
  DERIVED. GIVEN WITH THE SEED: THE CARDS: each row of Qxb6613359aFmtRows.lean that lists a variable, with what it lists TIED to the program's text (the seventh form; the later family's looks); each row that meets fmt, with fmt's text TOLD by the authors' own Lean function (tested against real Go, not proved from fmt's source: count such statements apart). THE CARD IS WHAT COUNTS. Prove the row's statement (the work); the ties are given (Qxb6613359aFmtTie.lean); close each card by the builder's one call (the guide's Derived/Test/ToyasCard.lean, 'card_holds'). Laid BY PROGRAM, IN A SANDBOX (cutbox-door.mjs). By AI agents, Wed Nov 11 2026. No macro, syntax, notation, axiom, sorry.
-/
import Derived.Test.Qxb6613359aFmtRows
import GoSem.ClaimSeven
namespace Go.Proofs.Qxb6613359aFmt
namespace Rows

/-- THE TOLD CARD OF 'zzlaws_internal_sim_b1.FnLiveOwnTermCommitEndsViolation'. -/
def fnLiveOwnTermCommitEndsViolationCard : Claim7 := { stood := { row := fnLiveOwnTermCommitEndsViolationRow, standIns := [], harness := (true, "cee0dfef706dd2266600a7f29fa4fb42efe8a58847178a39dc66bf041397516c"), looks := false }, told := true, goes := false }
def FnLiveOwnTermCommitEndsViolationToldSaid : Prop := Claim7.holds Tryf.pinned (.plain (OpenSpec.ofChange fnLiveOwnTermCommitEndsViolationSpec)) fnLiveOwnTermCommitEndsViolationCard
/-- ITS FALSE NEIGHBOUR. Refute it at one input. -/
def FnLiveOwnTermCommitEndsViolationToldWrongFalsely : Prop := Claim7.holds Tryf.pinned (.plain (OpenSpec.ofChange fnLiveOwnTermCommitEndsViolationWrong)) fnLiveOwnTermCommitEndsViolationCard

/-- THE TOLD CARD OF 'zzlaws_internal_sim_b1.FnLiveContentQuietsAreThoseBelowTheLength'. -/
def fnLiveContentQuietsAreThoseBelowTheLengthCard : Claim7 := { stood := { row := fnLiveContentQuietsAreThoseBelowTheLengthRow, standIns := [], harness := (true, "cee0dfef706dd2266600a7f29fa4fb42efe8a58847178a39dc66bf041397516c"), looks := false }, told := true, goes := false }
def FnLiveContentQuietsAreThoseBelowTheLengthToldSaid : Prop := Claim7.holds Tryf.pinned (.plain (OpenSpec.ofChange fnLiveContentQuietsAreThoseBelowTheLengthSpec)) fnLiveContentQuietsAreThoseBelowTheLengthCard
/-- ITS FALSE NEIGHBOUR. Refute it at one input. -/
def FnLiveContentQuietsAreThoseBelowTheLengthToldWrongFalsely : Prop := Claim7.holds Tryf.pinned (.plain (OpenSpec.ofChange fnLiveContentQuietsAreThoseBelowTheLengthWrong)) fnLiveContentQuietsAreThoseBelowTheLengthCard
end Rows
end Go.Proofs.Qxb6613359aFmt
