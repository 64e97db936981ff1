/-
  No cell of these rows narrows 'for every input' (looked for: loops, veiled, ifaces, maps, wideKeys, modest, calm, conditions, laid).
  DERIVED. THE GIVEN ROWS OF THIS SEAT. 4 by the template 'for every input the law returns true; each argument reads behind the call as it read before'; 0 by the template 'total and deterministic' (their statements: Qxb6602000aModsTotals.lean).
  GIVEN WITH THE SEED: the statements are not yours to turn. If you find one false, say at which input.
  Laid BY PROGRAM, IN A SANDBOX (cutbox-rows.mjs): the forced cells as the released guide's own fill.sh prints them over the translation 86f79da76baca8af… (all of the seat's roots in one cut). By AI agents, Wed Nov 11 2026. No macro, syntax, notation, axiom, sorry.
-/
import Derived.Test.Qxb6602000aModsChecked
import GoSem.Claim
import GoSem.ClaimJoined
import GoSem.ClaimMapViews
import Derived.JoinedTies
import Derived.KernelRfl
namespace Go.Proofs.Qxb6602000aMods
/- THE CELL 'sum', in the pinned program and in every row, IS THE sha256 OF THE DUMP (.gsa) THAT Qxb6602000aModsProg.lean LOADS. Nothing in Lean hashes anything: it is a label: what it is worth is what the hold of that sum in a sandbox is worth. -/
noncomputable def Trym.pinned : Pinned := { name := "qxb6602000amods", sum := "86f79da76baca8afbf91c0a7d29464948d9a7ede5a63d8f6756f2eb88e378835", checked := Trym.checked }
namespace Rows
def none {H : Type} : Left H := { results := [], args := [] }

/-- 'zzlaws_internal_ledger_b1.FnResourcesIsTheNearestHeldResource': WHATEVER THE INPUT: true; the input reads as it did. -/
def fnResourcesIsTheNearestHeldResourceSpec : ChangeSpec := { name := "fnResourcesIsTheNearestHeldResource", fn := fun _ => fun
  | [d] => { results := [.lit (.bool true)], args := [d] }
  | _ => none }
def fnResourcesIsTheNearestHeldResourceRow : OpenClaim := { program := "qxb6602000amods", sum := "86f79da76baca8afbf91c0a7d29464948d9a7ede5a63d8f6756f2eb88e378835", func := "example.com/sourceweave/sourceweave/zzlaws_internal_ledger_b1.FnResourcesIsTheNearestHeldResource", spec := "fnResourcesIsTheNearestHeldResource", recurses := true, plainKeys := false, make := .lifted ["publicsums"], apart := false }
def FnResourcesIsTheNearestHeldResourceSaid : Prop := fnResourcesIsTheNearestHeldResourceRow.holds Trym.pinned (OpenSpec.ofChange fnResourcesIsTheNearestHeldResourceSpec)

/-- ITS FALSE NEIGHBOUR: 'it returns false'. Refute it at one input. -/
def fnResourcesIsTheNearestHeldResourceWrong : ChangeSpec := { name := "fnResourcesIsTheNearestHeldResource", fn := fun _ => fun
  | [d] => { results := [.lit (.bool false)], args := [d] }
  | _ => none }
def FnResourcesIsTheNearestHeldResourceWrongFalsely : Prop := fnResourcesIsTheNearestHeldResourceRow.holds Trym.pinned (OpenSpec.ofChange fnResourcesIsTheNearestHeldResourceWrong)

/-- 'zzlaws_internal_ledger_b1.FnResourcesAgreesWithResource': WHATEVER THE INPUT: true; the input reads as it did. -/
def fnResourcesAgreesWithResourceSpec : ChangeSpec := { name := "fnResourcesAgreesWithResource", fn := fun _ => fun
  | [d] => { results := [.lit (.bool true)], args := [d] }
  | _ => none }
def fnResourcesAgreesWithResourceRow : OpenClaim := { program := "qxb6602000amods", sum := "86f79da76baca8afbf91c0a7d29464948d9a7ede5a63d8f6756f2eb88e378835", func := "example.com/sourceweave/sourceweave/zzlaws_internal_ledger_b1.FnResourcesAgreesWithResource", spec := "fnResourcesAgreesWithResource", recurses := true, plainKeys := false, make := .lifted ["publicsums"], apart := false }
def FnResourcesAgreesWithResourceSaid : Prop := fnResourcesAgreesWithResourceRow.holds Trym.pinned (OpenSpec.ofChange fnResourcesAgreesWithResourceSpec)

/-- ITS FALSE NEIGHBOUR: 'it returns false'. Refute it at one input. -/
def fnResourcesAgreesWithResourceWrong : ChangeSpec := { name := "fnResourcesAgreesWithResource", fn := fun _ => fun
  | [d] => { results := [.lit (.bool false)], args := [d] }
  | _ => none }
def FnResourcesAgreesWithResourceWrongFalsely : Prop := fnResourcesAgreesWithResourceRow.holds Trym.pinned (OpenSpec.ofChange fnResourcesAgreesWithResourceWrong)

/-- 'zzlaws_internal_ledger_b1.FnOwnGivesTheNearestAndHoldsItAtTheTop': WHATEVER THE INPUT: true; the input reads as it did. -/
def fnOwnGivesTheNearestAndHoldsItAtTheTopSpec : ChangeSpec := { name := "fnOwnGivesTheNearestAndHoldsItAtTheTop", fn := fun _ => fun
  | [d] => { results := [.lit (.bool true)], args := [d] }
  | _ => none }
def fnOwnGivesTheNearestAndHoldsItAtTheTopRow : OpenClaim := { program := "qxb6602000amods", sum := "86f79da76baca8afbf91c0a7d29464948d9a7ede5a63d8f6756f2eb88e378835", func := "example.com/sourceweave/sourceweave/zzlaws_internal_ledger_b1.FnOwnGivesTheNearestAndHoldsItAtTheTop", spec := "fnOwnGivesTheNearestAndHoldsItAtTheTop", plainKeys := false, make := .lifted ["publicsums"], apart := false }
def FnOwnGivesTheNearestAndHoldsItAtTheTopSaid : Prop := fnOwnGivesTheNearestAndHoldsItAtTheTopRow.holds Trym.pinned (OpenSpec.ofChange fnOwnGivesTheNearestAndHoldsItAtTheTopSpec)

/-- ITS FALSE NEIGHBOUR: 'it returns false'. Refute it at one input. -/
def fnOwnGivesTheNearestAndHoldsItAtTheTopWrong : ChangeSpec := { name := "fnOwnGivesTheNearestAndHoldsItAtTheTop", fn := fun _ => fun
  | [d] => { results := [.lit (.bool false)], args := [d] }
  | _ => none }
def FnOwnGivesTheNearestAndHoldsItAtTheTopWrongFalsely : Prop := fnOwnGivesTheNearestAndHoldsItAtTheTopRow.holds Trym.pinned (OpenSpec.ofChange fnOwnGivesTheNearestAndHoldsItAtTheTopWrong)

/-- 'zzlaws_internal_ledger_b1.FnOwnedAccountIsTheDraftsOwn': WHATEVER THE INPUT: true; the input reads as it did. -/
def fnOwnedAccountIsTheDraftsOwnSpec : ChangeSpec := { name := "fnOwnedAccountIsTheDraftsOwn", fn := fun _ => fun
  | [d1, d2] => { results := [.lit (.bool true)], args := [d1, d2] }
  | _ => none }
def fnOwnedAccountIsTheDraftsOwnRow : OpenClaim := { program := "qxb6602000amods", sum := "86f79da76baca8afbf91c0a7d29464948d9a7ede5a63d8f6756f2eb88e378835", func := "example.com/sourceweave/sourceweave/zzlaws_internal_ledger_b1.FnOwnedAccountIsTheDraftsOwn", spec := "fnOwnedAccountIsTheDraftsOwn", plainKeys := false, make := .lifted ["publicsums"], apart := false }
def FnOwnedAccountIsTheDraftsOwnSaid : Prop := fnOwnedAccountIsTheDraftsOwnRow.holds Trym.pinned (OpenSpec.ofChange fnOwnedAccountIsTheDraftsOwnSpec)

/-- ITS FALSE NEIGHBOUR: 'it returns false'. Refute it at one input. -/
def fnOwnedAccountIsTheDraftsOwnWrong : ChangeSpec := { name := "fnOwnedAccountIsTheDraftsOwn", fn := fun _ => fun
  | [d1, d2] => { results := [.lit (.bool false)], args := [d1, d2] }
  | _ => none }
def FnOwnedAccountIsTheDraftsOwnWrongFalsely : Prop := fnOwnedAccountIsTheDraftsOwnRow.holds Trym.pinned (OpenSpec.ofChange fnOwnedAccountIsTheDraftsOwnWrong)

end Rows
end Go.Proofs.Qxb6602000aMods
