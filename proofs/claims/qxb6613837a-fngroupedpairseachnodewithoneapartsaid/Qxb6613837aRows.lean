/-
  No cell of these rows narrows 'for every input' (looked for: loops, veiled, ifaces, maps, wideKeys, modest, calm, conditions, laid).
  DERIVED. THE GIVEN ROWS OF THIS SEAT. 4 by the template 'for every input the law returns true; each argument reads behind the call as it read before'; 0 by the template 'total and deterministic' (their statements: Qxb6613837aTotals.lean).
  GIVEN WITH THE SEED: the statements are not yours to turn. If you find one false, say at which input.
  Laid BY PROGRAM, IN A SANDBOX (cutbox-rows.mjs): the forced cells as the released guide's own fill.sh prints them over the translation 7a964705e7706b2f… (all of the seat's roots in one cut). By AI agents, Wed Nov 11 2026. No macro, syntax, notation, axiom, sorry.
-/
import Derived.Test.Qxb6613837aChecked
import GoSem.Claim
import GoSem.ClaimJoined
import GoSem.ClaimMapViews
import Derived.JoinedTies
import Derived.KernelRfl
namespace Go.Proofs.Qxb6613837a
/- THE CELL 'sum', in the pinned program and in every row, IS THE sha256 OF THE DUMP (.gsa) THAT Qxb6613837aProg.lean LOADS. Nothing in Lean hashes anything: it is a label: what it is worth is what the hold of that sum in a sandbox is worth. -/
noncomputable def Try.pinned : Pinned := { name := "qxb6613837a", sum := "7a964705e7706b2f94deabaad057ded783e99c69df8ba2015c4c8db9922ac9b6", checked := Try.checked }
namespace Rows
def none {H : Type} : Left H := { results := [], args := [] }

/-- 'zzlaws_bucketmap_b1.FnGroupedPairsEachNodeWithOneApart': WHATEVER THE INPUT: true; the input reads as it did. -/
def fnGroupedPairsEachNodeWithOneApartSpec : ChangeSpec := { name := "fnGroupedPairsEachNodeWithOneApart", fn := fun _ => fun
  | [d1, d2] => { results := [.lit (.bool true)], args := [d1, d2] }
  | _ => none }
def fnGroupedPairsEachNodeWithOneApartRow : OpenClaim := { program := "qxb6613837a", sum := "7a964705e7706b2f94deabaad057ded783e99c69df8ba2015c4c8db9922ac9b6", func := "example.com/ringfence/ringfence/zzlaws_bucketmap_b1.FnGroupedPairsEachNodeWithOneApart", spec := "fnGroupedPairsEachNodeWithOneApart", unfollowed := true, recurses := true, apart := false }
def FnGroupedPairsEachNodeWithOneApartSaid : Prop := fnGroupedPairsEachNodeWithOneApartRow.holds Try.pinned (OpenSpec.ofChange fnGroupedPairsEachNodeWithOneApartSpec)

/-- ITS FALSE NEIGHBOUR: 'it returns false'. Refute it at one input. -/
def fnGroupedPairsEachNodeWithOneApartWrong : ChangeSpec := { name := "fnGroupedPairsEachNodeWithOneApart", fn := fun _ => fun
  | [d1, d2] => { results := [.lit (.bool false)], args := [d1, d2] }
  | _ => none }
def FnGroupedPairsEachNodeWithOneApartWrongFalsely : Prop := fnGroupedPairsEachNodeWithOneApartRow.holds Try.pinned (OpenSpec.ofChange fnGroupedPairsEachNodeWithOneApartWrong)

/-- 'zzlaws_bucketmap_b1.FnGroupedPartnersIgnoreAmounts': WHATEVER THE INPUT: true; the input reads as it did. -/
def fnGroupedPartnersIgnoreAmountsSpec : ChangeSpec := { name := "fnGroupedPartnersIgnoreAmounts", fn := fun _ => fun
  | [d1, d2, d3] => { results := [.lit (.bool true)], args := [d1, d2, d3] }
  | _ => none }
def fnGroupedPartnersIgnoreAmountsRow : OpenClaim := { program := "qxb6613837a", sum := "7a964705e7706b2f94deabaad057ded783e99c69df8ba2015c4c8db9922ac9b6", func := "example.com/ringfence/ringfence/zzlaws_bucketmap_b1.FnGroupedPartnersIgnoreAmounts", spec := "fnGroupedPartnersIgnoreAmounts", unfollowed := true, recurses := true, apart := false }
def FnGroupedPartnersIgnoreAmountsSaid : Prop := fnGroupedPartnersIgnoreAmountsRow.holds Try.pinned (OpenSpec.ofChange fnGroupedPartnersIgnoreAmountsSpec)

/-- ITS FALSE NEIGHBOUR: 'it returns false'. Refute it at one input. -/
def fnGroupedPartnersIgnoreAmountsWrong : ChangeSpec := { name := "fnGroupedPartnersIgnoreAmounts", fn := fun _ => fun
  | [d1, d2, d3] => { results := [.lit (.bool false)], args := [d1, d2, d3] }
  | _ => none }
def FnGroupedPartnersIgnoreAmountsWrongFalsely : Prop := fnGroupedPartnersIgnoreAmountsRow.holds Try.pinned (OpenSpec.ofChange fnGroupedPartnersIgnoreAmountsWrong)

/-- 'zzlaws_bucketmap_b1.FnSpreadSharesExactlyWhenPlaceable': WHATEVER THE INPUT: true; the input reads as it did. -/
def fnSpreadSharesExactlyWhenPlaceableSpec : ChangeSpec := { name := "fnSpreadSharesExactlyWhenPlaceable", fn := fun _ => fun
  | [d1, d2] => { results := [.lit (.bool true)], args := [d1, d2] }
  | _ => none }
def fnSpreadSharesExactlyWhenPlaceableRow : OpenClaim := { program := "qxb6613837a", sum := "7a964705e7706b2f94deabaad057ded783e99c69df8ba2015c4c8db9922ac9b6", func := "example.com/ringfence/ringfence/zzlaws_bucketmap_b1.FnSpreadSharesExactlyWhenPlaceable", spec := "fnSpreadSharesExactlyWhenPlaceable", unfollowed := true, recurses := true, apart := false }
def FnSpreadSharesExactlyWhenPlaceableSaid : Prop := fnSpreadSharesExactlyWhenPlaceableRow.holds Try.pinned (OpenSpec.ofChange fnSpreadSharesExactlyWhenPlaceableSpec)

/-- ITS FALSE NEIGHBOUR: 'it returns false'. Refute it at one input. -/
def fnSpreadSharesExactlyWhenPlaceableWrong : ChangeSpec := { name := "fnSpreadSharesExactlyWhenPlaceable", fn := fun _ => fun
  | [d1, d2] => { results := [.lit (.bool false)], args := [d1, d2] }
  | _ => none }
def FnSpreadSharesExactlyWhenPlaceableWrongFalsely : Prop := fnSpreadSharesExactlyWhenPlaceableRow.holds Try.pinned (OpenSpec.ofChange fnSpreadSharesExactlyWhenPlaceableWrong)

/-- 'zzlaws_bucketmap_b1.FnSpreadStraysNoMoreThanGroup': WHATEVER THE INPUT: true; the input reads as it did. -/
def fnSpreadStraysNoMoreThanGroupSpec : ChangeSpec := { name := "fnSpreadStraysNoMoreThanGroup", fn := fun _ => fun
  | [d1, d2] => { results := [.lit (.bool true)], args := [d1, d2] }
  | _ => none }
def fnSpreadStraysNoMoreThanGroupRow : OpenClaim := { program := "qxb6613837a", sum := "7a964705e7706b2f94deabaad057ded783e99c69df8ba2015c4c8db9922ac9b6", func := "example.com/ringfence/ringfence/zzlaws_bucketmap_b1.FnSpreadStraysNoMoreThanGroup", spec := "fnSpreadStraysNoMoreThanGroup", unfollowed := true, recurses := true, apart := false }
def FnSpreadStraysNoMoreThanGroupSaid : Prop := fnSpreadStraysNoMoreThanGroupRow.holds Try.pinned (OpenSpec.ofChange fnSpreadStraysNoMoreThanGroupSpec)

/-- ITS FALSE NEIGHBOUR: 'it returns false'. Refute it at one input. -/
def fnSpreadStraysNoMoreThanGroupWrong : ChangeSpec := { name := "fnSpreadStraysNoMoreThanGroup", fn := fun _ => fun
  | [d1, d2] => { results := [.lit (.bool false)], args := [d1, d2] }
  | _ => none }
def FnSpreadStraysNoMoreThanGroupWrongFalsely : Prop := fnSpreadStraysNoMoreThanGroupRow.holds Try.pinned (OpenSpec.ofChange fnSpreadStraysNoMoreThanGroupWrong)

end Rows
end Go.Proofs.Qxb6613837a
