/-
  No cell of these rows narrows 'for every input' (looked for: loops, veiled, ifaces, maps, wideKeys, modest, calm, conditions, laid).
  DERIVED. THE GIVEN ROWS OF THIS SEAT. 2 by the template 'for every input the law returns true; each argument reads behind the call as it read before'; 0 by the template 'total and deterministic' (their statements: Qxb6602816aModsTotals.lean).
  GIVEN WITH THE SEED: the statements are not yours to turn. If you find one false, say at which input.
  Laid BY PROGRAM, IN A SANDBOX (cutbox-rows.mjs): the forced cells as the released guide's own fill.sh prints them over the translation 504c793cfb00277b… (all of the seat's roots in one cut). By AI agents, Wed Nov 11 2026. No macro, syntax, notation, axiom, sorry.
-/
import Derived.Test.Qxb6602816aModsChecked
import GoSem.Claim
import GoSem.ClaimJoined
import GoSem.ClaimMapViews
import Derived.JoinedTies
import Derived.KernelRfl
namespace Go.Proofs.Qxb6602816aMods
/- THE CELL 'sum', in the pinned program and in every row, IS THE sha256 OF THE DUMP (.gsa) THAT Qxb6602816aModsProg.lean LOADS. Nothing in Lean hashes anything: it is a label: what it is worth is what the hold of that sum in a sandbox is worth. -/
noncomputable def Trym.pinned : Pinned := { name := "qxb6602816amods", sum := "504c793cfb00277b647c0c9578f2c7c09c72522e3d8d736484ebb1ffdfc1faef", checked := Trym.checked }
namespace Rows
def none {H : Type} : Left H := { results := [], args := [] }

/-- 'zzlaws_internal_edverify_b1.FnSignedDigitsRecomposeToScalar': WHATEVER THE INPUT: true; the input reads as it did. -/
def fnSignedDigitsRecomposeToScalarSpec : ChangeSpec := { name := "fnSignedDigitsRecomposeToScalar", fn := fun _ => fun
  | [d1, d2, d3] => { results := [.lit (.bool true)], args := [d1, d2, d3] }
  | _ => none }
def fnSignedDigitsRecomposeToScalarRow : OpenClaim := { program := "qxb6602816amods", sum := "504c793cfb00277b647c0c9578f2c7c09c72522e3d8d736484ebb1ffdfc1faef", func := "example.com/thinwire/thinwire/zzlaws_internal_edverify_b1.FnSignedDigitsRecomposeToScalar", spec := "fnSignedDigitsRecomposeToScalar", make := .lifted ["publicsums"], apart := false }
def FnSignedDigitsRecomposeToScalarSaid : Prop := fnSignedDigitsRecomposeToScalarRow.holds Trym.pinned (OpenSpec.ofChange fnSignedDigitsRecomposeToScalarSpec)

/-- ITS FALSE NEIGHBOUR: 'it returns false'. Refute it at one input. -/
def fnSignedDigitsRecomposeToScalarWrong : ChangeSpec := { name := "fnSignedDigitsRecomposeToScalar", fn := fun _ => fun
  | [d1, d2, d3] => { results := [.lit (.bool false)], args := [d1, d2, d3] }
  | _ => none }
def FnSignedDigitsRecomposeToScalarWrongFalsely : Prop := fnSignedDigitsRecomposeToScalarRow.holds Trym.pinned (OpenSpec.ofChange fnSignedDigitsRecomposeToScalarWrong)

/-- 'zzlaws_internal_edverify_b1.FnSignedDigitsWithinHalfForScalarBelow2to253': WHATEVER THE INPUT: true; the input reads as it did. -/
def fnSignedDigitsWithinHalfForScalarBelow2to253Spec : ChangeSpec := { name := "fnSignedDigitsWithinHalfForScalarBelow2to253", fn := fun _ => fun
  | [d1, d2, d3] => { results := [.lit (.bool true)], args := [d1, d2, d3] }
  | _ => none }
def fnSignedDigitsWithinHalfForScalarBelow2to253Row : OpenClaim := { program := "qxb6602816amods", sum := "504c793cfb00277b647c0c9578f2c7c09c72522e3d8d736484ebb1ffdfc1faef", func := "example.com/thinwire/thinwire/zzlaws_internal_edverify_b1.FnSignedDigitsWithinHalfForScalarBelow2to253", spec := "fnSignedDigitsWithinHalfForScalarBelow2to253", make := .lifted ["publicsums"], apart := false }
def FnSignedDigitsWithinHalfForScalarBelow2to253Said : Prop := fnSignedDigitsWithinHalfForScalarBelow2to253Row.holds Trym.pinned (OpenSpec.ofChange fnSignedDigitsWithinHalfForScalarBelow2to253Spec)

/-- ITS FALSE NEIGHBOUR: 'it returns false'. Refute it at one input. -/
def fnSignedDigitsWithinHalfForScalarBelow2to253Wrong : ChangeSpec := { name := "fnSignedDigitsWithinHalfForScalarBelow2to253", fn := fun _ => fun
  | [d1, d2, d3] => { results := [.lit (.bool false)], args := [d1, d2, d3] }
  | _ => none }
def FnSignedDigitsWithinHalfForScalarBelow2to253WrongFalsely : Prop := fnSignedDigitsWithinHalfForScalarBelow2to253Row.holds Trym.pinned (OpenSpec.ofChange fnSignedDigitsWithinHalfForScalarBelow2to253Wrong)

end Rows
end Go.Proofs.Qxb6602816aMods
