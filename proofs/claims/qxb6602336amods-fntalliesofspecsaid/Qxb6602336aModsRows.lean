/-
  No cell of these rows narrows 'for every input' (looked for: loops, veiled, ifaces, maps, wideKeys, modest, calm, conditions, laid).
  DERIVED. THE GIVEN ROWS OF THIS SEAT. 6 by the template 'for every input the law returns true; each argument reads behind the call as it read before'; 0 by the template 'total and deterministic' (their statements: Qxb6602336aModsTotals.lean).
  GIVEN WITH THE SEED: the statements are not yours to turn. If you find one false, say at which input.
  Laid BY PROGRAM, IN A SANDBOX (cutbox-rows.mjs): the forced cells as the released guide's own fill.sh prints them over the translation 6170aad4e00c728a… (all of the seat's roots in one cut). By AI agents, Wed Nov 11 2026. No macro, syntax, notation, axiom, sorry.
-/
import Derived.Test.Qxb6602336aModsChecked
import GoSem.Claim
import GoSem.ClaimJoined
import GoSem.ClaimMapViews
import Derived.JoinedTies
import Derived.KernelRfl
namespace Go.Proofs.Qxb6602336aMods
/- THE CELL 'sum', in the pinned program and in every row, IS THE sha256 OF THE DUMP (.gsa) THAT Qxb6602336aModsProg.lean LOADS. Nothing in Lean hashes anything: it is a label: what it is worth is what the hold of that sum in a sandbox is worth. -/
noncomputable def Trym.pinned : Pinned := { name := "qxb6602336amods", sum := "6170aad4e00c728a8d2ce30840fc6b504516bd3dcc731b6d8933b6aa0e87f385", checked := Trym.checked }
namespace Rows
def none {H : Type} : Left H := { results := [], args := [] }

/-- 'zzlaws_internal_wire_b1.FnChargeSpec': WHATEVER THE INPUT: true; the input reads as it did. -/
def fnChargeSpecSpec : ChangeSpec := { name := "fnChargeSpec", fn := fun _ => fun
  | [d1, d2, d3, d4, d5, d6, d7, d8, d9, d10, d11, d12] => { results := [.lit (.bool true)], args := [d1, d2, d3, d4, d5, d6, d7, d8, d9, d10, d11, d12] }
  | _ => none }
def fnChargeSpecRow : OpenClaim := { program := "qxb6602336amods", sum := "6170aad4e00c728a8d2ce30840fc6b504516bd3dcc731b6d8933b6aa0e87f385", func := "example.com/precedent/precedent/zzlaws_internal_wire_b1.FnChargeSpec", spec := "fnChargeSpec", plainKeys := false, make := .lifted ["publicsums"], apart := false }
def FnChargeSpecSaid : Prop := fnChargeSpecRow.holds Trym.pinned (OpenSpec.ofChange fnChargeSpecSpec)

/-- ITS FALSE NEIGHBOUR: 'it returns false'. Refute it at one input. -/
def fnChargeSpecWrong : ChangeSpec := { name := "fnChargeSpec", fn := fun _ => fun
  | [d1, d2, d3, d4, d5, d6, d7, d8, d9, d10, d11, d12] => { results := [.lit (.bool false)], args := [d1, d2, d3, d4, d5, d6, d7, d8, d9, d10, d11, d12] }
  | _ => none }
def FnChargeSpecWrongFalsely : Prop := fnChargeSpecRow.holds Trym.pinned (OpenSpec.ofChange fnChargeSpecWrong)

/-- 'zzlaws_internal_wire_b1.FnChargePointerTransparent': WHATEVER THE INPUT: true; the input reads as it did. -/
def fnChargePointerTransparentSpec : ChangeSpec := { name := "fnChargePointerTransparent", fn := fun _ => fun
  | [d1, d2, d3, d4, d5, d6, d7, d8, d9, d10, d11] => { results := [.lit (.bool true)], args := [d1, d2, d3, d4, d5, d6, d7, d8, d9, d10, d11] }
  | _ => none }
def fnChargePointerTransparentRow : OpenClaim := { program := "qxb6602336amods", sum := "6170aad4e00c728a8d2ce30840fc6b504516bd3dcc731b6d8933b6aa0e87f385", func := "example.com/precedent/precedent/zzlaws_internal_wire_b1.FnChargePointerTransparent", spec := "fnChargePointerTransparent", plainKeys := false, make := .lifted ["publicsums"], apart := false }
def FnChargePointerTransparentSaid : Prop := fnChargePointerTransparentRow.holds Trym.pinned (OpenSpec.ofChange fnChargePointerTransparentSpec)

/-- ITS FALSE NEIGHBOUR: 'it returns false'. Refute it at one input. -/
def fnChargePointerTransparentWrong : ChangeSpec := { name := "fnChargePointerTransparent", fn := fun _ => fun
  | [d1, d2, d3, d4, d5, d6, d7, d8, d9, d10, d11] => { results := [.lit (.bool false)], args := [d1, d2, d3, d4, d5, d6, d7, d8, d9, d10, d11] }
  | _ => none }
def FnChargePointerTransparentWrongFalsely : Prop := fnChargePointerTransparentRow.holds Trym.pinned (OpenSpec.ofChange fnChargePointerTransparentWrong)

/-- 'zzlaws_internal_wire_b1.FnTakesSpec': WHATEVER THE INPUT: true; the input reads as it did. -/
def fnTakesSpecSpec : ChangeSpec := { name := "fnTakesSpec", fn := fun _ => fun
  | [d1, d2, d3, d4, d5, d6, d7, d8, d9, d10] => { results := [.lit (.bool true)], args := [d1, d2, d3, d4, d5, d6, d7, d8, d9, d10] }
  | _ => none }
def fnTakesSpecRow : OpenClaim := { program := "qxb6602336amods", sum := "6170aad4e00c728a8d2ce30840fc6b504516bd3dcc731b6d8933b6aa0e87f385", func := "example.com/precedent/precedent/zzlaws_internal_wire_b1.FnTakesSpec", spec := "fnTakesSpec", plainKeys := false, make := .lifted ["publicsums"], apart := false }
def FnTakesSpecSaid : Prop := fnTakesSpecRow.holds Trym.pinned (OpenSpec.ofChange fnTakesSpecSpec)

/-- ITS FALSE NEIGHBOUR: 'it returns false'. Refute it at one input. -/
def fnTakesSpecWrong : ChangeSpec := { name := "fnTakesSpec", fn := fun _ => fun
  | [d1, d2, d3, d4, d5, d6, d7, d8, d9, d10] => { results := [.lit (.bool false)], args := [d1, d2, d3, d4, d5, d6, d7, d8, d9, d10] }
  | _ => none }
def FnTakesSpecWrongFalsely : Prop := fnTakesSpecRow.holds Trym.pinned (OpenSpec.ofChange fnTakesSpecWrong)

/-- 'zzlaws_internal_wire_b1.FnTakesOneShape': WHATEVER THE INPUT: true; the input reads as it did. -/
def fnTakesOneShapeSpec : ChangeSpec := { name := "fnTakesOneShape", fn := fun _ => fun
  | [d1, d2, d3, d4, d5, d6, d7, d8, d9] => { results := [.lit (.bool true)], args := [d1, d2, d3, d4, d5, d6, d7, d8, d9] }
  | _ => none }
def fnTakesOneShapeRow : OpenClaim := { program := "qxb6602336amods", sum := "6170aad4e00c728a8d2ce30840fc6b504516bd3dcc731b6d8933b6aa0e87f385", func := "example.com/precedent/precedent/zzlaws_internal_wire_b1.FnTakesOneShape", spec := "fnTakesOneShape", plainKeys := false, make := .lifted ["publicsums"], apart := false }
def FnTakesOneShapeSaid : Prop := fnTakesOneShapeRow.holds Trym.pinned (OpenSpec.ofChange fnTakesOneShapeSpec)

/-- ITS FALSE NEIGHBOUR: 'it returns false'. Refute it at one input. -/
def fnTakesOneShapeWrong : ChangeSpec := { name := "fnTakesOneShape", fn := fun _ => fun
  | [d1, d2, d3, d4, d5, d6, d7, d8, d9] => { results := [.lit (.bool false)], args := [d1, d2, d3, d4, d5, d6, d7, d8, d9] }
  | _ => none }
def FnTakesOneShapeWrongFalsely : Prop := fnTakesOneShapeRow.holds Trym.pinned (OpenSpec.ofChange fnTakesOneShapeWrong)

/-- 'zzlaws_internal_wire_b1.FnTalliesOfSpec': WHATEVER THE INPUT: true; the input reads as it did. -/
def fnTalliesOfSpecSpec : ChangeSpec := { name := "fnTalliesOfSpec", fn := fun _ => fun
  | [d1, d2, d3, d4, d5, d6, d7, d8, d9] => { results := [.lit (.bool true)], args := [d1, d2, d3, d4, d5, d6, d7, d8, d9] }
  | _ => none }
def fnTalliesOfSpecRow : OpenClaim := { program := "qxb6602336amods", sum := "6170aad4e00c728a8d2ce30840fc6b504516bd3dcc731b6d8933b6aa0e87f385", func := "example.com/precedent/precedent/zzlaws_internal_wire_b1.FnTalliesOfSpec", spec := "fnTalliesOfSpec", plainKeys := false, make := .lifted ["publicsums"], apart := false }
def FnTalliesOfSpecSaid : Prop := fnTalliesOfSpecRow.holds Trym.pinned (OpenSpec.ofChange fnTalliesOfSpecSpec)

/-- ITS FALSE NEIGHBOUR: 'it returns false'. Refute it at one input. -/
def fnTalliesOfSpecWrong : ChangeSpec := { name := "fnTalliesOfSpec", fn := fun _ => fun
  | [d1, d2, d3, d4, d5, d6, d7, d8, d9] => { results := [.lit (.bool false)], args := [d1, d2, d3, d4, d5, d6, d7, d8, d9] }
  | _ => none }
def FnTalliesOfSpecWrongFalsely : Prop := fnTalliesOfSpecRow.holds Trym.pinned (OpenSpec.ofChange fnTalliesOfSpecWrong)

/-- 'zzlaws_internal_wire_b1.FnTalliesScriptKeepsBoundAndPointers': WHATEVER THE INPUT: true; the input reads as it did. -/
def fnTalliesScriptKeepsBoundAndPointersSpec : ChangeSpec := { name := "fnTalliesScriptKeepsBoundAndPointers", fn := fun _ => fun
  | [d1, d2] => { results := [.lit (.bool true)], args := [d1, d2] }
  | _ => none }
def fnTalliesScriptKeepsBoundAndPointersRow : OpenClaim := { program := "qxb6602336amods", sum := "6170aad4e00c728a8d2ce30840fc6b504516bd3dcc731b6d8933b6aa0e87f385", func := "example.com/precedent/precedent/zzlaws_internal_wire_b1.FnTalliesScriptKeepsBoundAndPointers", spec := "fnTalliesScriptKeepsBoundAndPointers", plainKeys := false, make := .lifted ["publicsums"], apart := false }
def FnTalliesScriptKeepsBoundAndPointersSaid : Prop := fnTalliesScriptKeepsBoundAndPointersRow.holds Trym.pinned (OpenSpec.ofChange fnTalliesScriptKeepsBoundAndPointersSpec)

/-- ITS FALSE NEIGHBOUR: 'it returns false'. Refute it at one input. -/
def fnTalliesScriptKeepsBoundAndPointersWrong : ChangeSpec := { name := "fnTalliesScriptKeepsBoundAndPointers", fn := fun _ => fun
  | [d1, d2] => { results := [.lit (.bool false)], args := [d1, d2] }
  | _ => none }
def FnTalliesScriptKeepsBoundAndPointersWrongFalsely : Prop := fnTalliesScriptKeepsBoundAndPointersRow.holds Trym.pinned (OpenSpec.ofChange fnTalliesScriptKeepsBoundAndPointersWrong)

end Rows
end Go.Proofs.Qxb6602336aMods
