/-
  No cell of these rows narrows 'for every input' (looked for: loops, veiled, ifaces, maps, wideKeys, modest, calm, conditions, laid).
  DERIVED. THE GIVEN ROWS OF THIS SEAT. 2 by the template 'for every input the law returns true; each argument reads behind the call as it read before'; 0 by the template 'total and deterministic' (their statements: Qxb6613359aTotals.lean).
  GIVEN WITH THE SEED: the statements are not yours to turn. If you find one false, say at which input.
  Laid BY PROGRAM, IN A SANDBOX (cutbox-rows.mjs): the forced cells as the released guide's own fill.sh prints them over the translation 2c10ec4733091f1f… (all of the seat's roots in one cut). By AI agents, Wed Nov 11 2026. No macro, syntax, notation, axiom, sorry.
-/
import Derived.Test.Qxb6613359aChecked
import GoSem.Claim
import GoSem.ClaimJoined
import GoSem.ClaimMapViews
import Derived.JoinedTies
import Derived.KernelRfl
namespace Go.Proofs.Qxb6613359a
/- THE CELL 'sum', in the pinned program and in every row, IS THE sha256 OF THE DUMP (.gsa) THAT Qxb6613359aProg.lean LOADS. Nothing in Lean hashes anything: it is a label: what it is worth is what the hold of that sum in a sandbox is worth. -/
noncomputable def Try.pinned : Pinned := { name := "qxb6613359a", sum := "2c10ec4733091f1fc2ebb4b61d585e33c20bc2d352757695d83310877e867cb1", checked := Try.checked }
namespace Rows
def none {H : Type} : Left H := { results := [], args := [] }

/-- 'zzlaws_internal_sim_b1.FnEachIsAdditive': WHATEVER THE INPUT: true; the input reads as it did. -/
def fnEachIsAdditiveSpec : ChangeSpec := { name := "fnEachIsAdditive", fn := fun _ => fun
  | [d1, d2] => { results := [.lit (.bool true)], args := [d1, d2] }
  | _ => none }
def fnEachIsAdditiveRow : OpenClaim := { program := "qxb6613359a", sum := "2c10ec4733091f1fc2ebb4b61d585e33c20bc2d352757695d83310877e867cb1", func := "example.com/quorumlog/quorumlog/zzlaws_internal_sim_b1.FnEachIsAdditive", spec := "fnEachIsAdditive", unfollowed := true, recurses := true, apart := false }
def FnEachIsAdditiveSaid : Prop := fnEachIsAdditiveRow.holds Try.pinned (OpenSpec.ofChange fnEachIsAdditiveSpec)

/-- ITS FALSE NEIGHBOUR: 'it returns false'. Refute it at one input. -/
def fnEachIsAdditiveWrong : ChangeSpec := { name := "fnEachIsAdditive", fn := fun _ => fun
  | [d1, d2] => { results := [.lit (.bool false)], args := [d1, d2] }
  | _ => none }
def FnEachIsAdditiveWrongFalsely : Prop := fnEachIsAdditiveRow.holds Try.pinned (OpenSpec.ofChange fnEachIsAdditiveWrong)

/-- 'zzlaws_internal_sim_b1.FnEachReportsEveryCountOnce': WHATEVER THE INPUT: true; the input reads as it did. -/
def fnEachReportsEveryCountOnceSpec : ChangeSpec := { name := "fnEachReportsEveryCountOnce", fn := fun _ => fun
  | [d1, d2] => { results := [.lit (.bool true)], args := [d1, d2] }
  | _ => none }
def fnEachReportsEveryCountOnceRow : OpenClaim := { program := "qxb6613359a", sum := "2c10ec4733091f1fc2ebb4b61d585e33c20bc2d352757695d83310877e867cb1", func := "example.com/quorumlog/quorumlog/zzlaws_internal_sim_b1.FnEachReportsEveryCountOnce", spec := "fnEachReportsEveryCountOnce", unfollowed := true, recurses := true, apart := false }
def FnEachReportsEveryCountOnceSaid : Prop := fnEachReportsEveryCountOnceRow.holds Try.pinned (OpenSpec.ofChange fnEachReportsEveryCountOnceSpec)

/-- ITS FALSE NEIGHBOUR: 'it returns false'. Refute it at one input. -/
def fnEachReportsEveryCountOnceWrong : ChangeSpec := { name := "fnEachReportsEveryCountOnce", fn := fun _ => fun
  | [d1, d2] => { results := [.lit (.bool false)], args := [d1, d2] }
  | _ => none }
def FnEachReportsEveryCountOnceWrongFalsely : Prop := fnEachReportsEveryCountOnceRow.holds Try.pinned (OpenSpec.ofChange fnEachReportsEveryCountOnceWrong)

end Rows
end Go.Proofs.Qxb6613359a
