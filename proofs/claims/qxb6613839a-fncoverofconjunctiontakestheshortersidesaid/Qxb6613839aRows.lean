/-
  No cell of these rows narrows 'for every input' (looked for: loops, veiled, ifaces, maps, wideKeys, modest, calm, conditions, laid).
  DERIVED. THE GIVEN ROWS OF THIS SEAT. 3 by the template 'for every input the law returns true; each argument reads behind the call as it read before'; 0 by the template 'total and deterministic' (their statements: Qxb6613839aTotals.lean).
  GIVEN WITH THE SEED: the statements are not yours to turn. If you find one false, say at which input.
  Laid BY PROGRAM, IN A SANDBOX (cutbox-rows.mjs): the forced cells as the released guide's own fill.sh prints them over the translation 928591d3443d54de… (all of the seat's roots in one cut). By AI agents, Wed Nov 11 2026. No macro, syntax, notation, axiom, sorry.
-/
import Derived.Test.Qxb6613839aChecked
import GoSem.Claim
import GoSem.ClaimJoined
import GoSem.ClaimMapViews
import Derived.JoinedTies
import Derived.KernelRfl
namespace Go.Proofs.Qxb6613839a
/- THE CELL 'sum', in the pinned program and in every row, IS THE sha256 OF THE DUMP (.gsa) THAT Qxb6613839aProg.lean LOADS. Nothing in Lean hashes anything: it is a label: what it is worth is what the hold of that sum in a sandbox is worth. -/
noncomputable def Try.pinned : Pinned := { name := "qxb6613839a", sum := "928591d3443d54de18f753f6301b976060379e26bac909330c51c4c296498197", checked := Try.checked }
namespace Rows
def none {H : Type} : Left H := { results := [], args := [] }

/-- 'zzlaws_pkg_expr_b1.FnCoverOfConjunctionTakesTheShorterSide': WHATEVER THE INPUT: true; the input reads as it did. -/
def fnCoverOfConjunctionTakesTheShorterSideSpec : ChangeSpec := { name := "fnCoverOfConjunctionTakesTheShorterSide", fn := fun _ => fun
  | [d1, d2, d3, d4] => { results := [.lit (.bool true)], args := [d1, d2, d3, d4] }
  | _ => none }
def fnCoverOfConjunctionTakesTheShorterSideRow : OpenClaim := { program := "qxb6613839a", sum := "928591d3443d54de18f753f6301b976060379e26bac909330c51c4c296498197", func := "example.com/custodian/custodian/zzlaws_pkg_expr_b1.FnCoverOfConjunctionTakesTheShorterSide", spec := "fnCoverOfConjunctionTakesTheShorterSide", unfollowed := true, recurses := true, apart := false }
def FnCoverOfConjunctionTakesTheShorterSideSaid : Prop := fnCoverOfConjunctionTakesTheShorterSideRow.holds Try.pinned (OpenSpec.ofChange fnCoverOfConjunctionTakesTheShorterSideSpec)

/-- ITS FALSE NEIGHBOUR: 'it returns false'. Refute it at one input. -/
def fnCoverOfConjunctionTakesTheShorterSideWrong : ChangeSpec := { name := "fnCoverOfConjunctionTakesTheShorterSide", fn := fun _ => fun
  | [d1, d2, d3, d4] => { results := [.lit (.bool false)], args := [d1, d2, d3, d4] }
  | _ => none }
def FnCoverOfConjunctionTakesTheShorterSideWrongFalsely : Prop := fnCoverOfConjunctionTakesTheShorterSideRow.holds Try.pinned (OpenSpec.ofChange fnCoverOfConjunctionTakesTheShorterSideWrong)

/-- 'zzlaws_pkg_expr_b1.FnCoverOfDisjunctionIsEveryEqualityInOrder': WHATEVER THE INPUT: true; the input reads as it did. -/
def fnCoverOfDisjunctionIsEveryEqualityInOrderSpec : ChangeSpec := { name := "fnCoverOfDisjunctionIsEveryEqualityInOrder", fn := fun _ => fun
  | [d1, d2, d3, d4] => { results := [.lit (.bool true)], args := [d1, d2, d3, d4] }
  | _ => none }
def fnCoverOfDisjunctionIsEveryEqualityInOrderRow : OpenClaim := { program := "qxb6613839a", sum := "928591d3443d54de18f753f6301b976060379e26bac909330c51c4c296498197", func := "example.com/custodian/custodian/zzlaws_pkg_expr_b1.FnCoverOfDisjunctionIsEveryEqualityInOrder", spec := "fnCoverOfDisjunctionIsEveryEqualityInOrder", unfollowed := true, recurses := true, apart := false }
def FnCoverOfDisjunctionIsEveryEqualityInOrderSaid : Prop := fnCoverOfDisjunctionIsEveryEqualityInOrderRow.holds Try.pinned (OpenSpec.ofChange fnCoverOfDisjunctionIsEveryEqualityInOrderSpec)

/-- ITS FALSE NEIGHBOUR: 'it returns false'. Refute it at one input. -/
def fnCoverOfDisjunctionIsEveryEqualityInOrderWrong : ChangeSpec := { name := "fnCoverOfDisjunctionIsEveryEqualityInOrder", fn := fun _ => fun
  | [d1, d2, d3, d4] => { results := [.lit (.bool false)], args := [d1, d2, d3, d4] }
  | _ => none }
def FnCoverOfDisjunctionIsEveryEqualityInOrderWrongFalsely : Prop := fnCoverOfDisjunctionIsEveryEqualityInOrderRow.holds Try.pinned (OpenSpec.ofChange fnCoverOfDisjunctionIsEveryEqualityInOrderWrong)

/-- 'zzlaws_pkg_expr_b1.FnPeekReadsTheTokenAtAnyPositionAndMovesNothing': WHATEVER THE INPUT: true; the input reads as it did. -/
def fnPeekReadsTheTokenAtAnyPositionAndMovesNothingSpec : ChangeSpec := { name := "fnPeekReadsTheTokenAtAnyPositionAndMovesNothing", fn := fun _ => fun
  | [d1, d2, d3, d4] => { results := [.lit (.bool true)], args := [d1, d2, d3, d4] }
  | _ => none }
def fnPeekReadsTheTokenAtAnyPositionAndMovesNothingRow : OpenClaim := { program := "qxb6613839a", sum := "928591d3443d54de18f753f6301b976060379e26bac909330c51c4c296498197", func := "example.com/custodian/custodian/zzlaws_pkg_expr_b1.FnPeekReadsTheTokenAtAnyPositionAndMovesNothing", spec := "fnPeekReadsTheTokenAtAnyPositionAndMovesNothing", apart := false }
def FnPeekReadsTheTokenAtAnyPositionAndMovesNothingSaid : Prop := fnPeekReadsTheTokenAtAnyPositionAndMovesNothingRow.holds Try.pinned (OpenSpec.ofChange fnPeekReadsTheTokenAtAnyPositionAndMovesNothingSpec)

/-- ITS FALSE NEIGHBOUR: 'it returns false'. Refute it at one input. -/
def fnPeekReadsTheTokenAtAnyPositionAndMovesNothingWrong : ChangeSpec := { name := "fnPeekReadsTheTokenAtAnyPositionAndMovesNothing", fn := fun _ => fun
  | [d1, d2, d3, d4] => { results := [.lit (.bool false)], args := [d1, d2, d3, d4] }
  | _ => none }
def FnPeekReadsTheTokenAtAnyPositionAndMovesNothingWrongFalsely : Prop := fnPeekReadsTheTokenAtAnyPositionAndMovesNothingRow.holds Try.pinned (OpenSpec.ofChange fnPeekReadsTheTokenAtAnyPositionAndMovesNothingWrong)

end Rows
end Go.Proofs.Qxb6613839a
