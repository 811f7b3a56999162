/-
  No cell of these rows narrows 'for every input' (looked for: loops, veiled, ifaces, maps, wideKeys, modest, calm, conditions, laid).
  DERIVED. THE GIVEN ROWS OF THIS SEAT. 2 by the template 'for every input the law returns true; each argument reads behind the call as it read before'; 0 by the template 'total and deterministic' (their statements: Qxb6601051aModsTotals.lean).
  GIVEN WITH THE SEED: the statements are not yours to turn. If you find one false, say at which input.
  Laid BY PROGRAM, IN A SANDBOX (cutbox-rows.mjs): the forced cells as the released guide's own fill.sh prints them over the translation 5241b7bbdd2bdb06… (all of the seat's roots in one cut). By AI agents, Wed Nov 11 2026. No macro, syntax, notation, axiom, sorry.
-/
import Derived.Test.Qxb6601051aModsChecked
import GoSem.Claim
import GoSem.ClaimJoined
import GoSem.ClaimMapViews
import Derived.JoinedTies
import Derived.KernelRfl
namespace Go.Proofs.Qxb6601051aMods
/- THE CELL 'sum', in the pinned program and in every row, IS THE sha256 OF THE DUMP (.gsa) THAT Qxb6601051aModsProg.lean LOADS. Nothing in Lean hashes anything: it is a label: what it is worth is what the hold of that sum in a sandbox is worth. -/
noncomputable def Trym.pinned : Pinned := { name := "qxb6601051amods", sum := "5241b7bbdd2bdb061b6e34360425ba4a9deb0ff2eee53e59fe416ad5bd2dee2c", checked := Trym.checked }
namespace Rows
def none {H : Type} : Left H := { results := [], args := [] }

/-- 'zzlaws_internal_rules_b1.FnRecordMatchesLastWinsModel': WHATEVER THE INPUT: true; the input reads as it did. -/
def fnRecordMatchesLastWinsModelSpec : ChangeSpec := { name := "fnRecordMatchesLastWinsModel", fn := fun _ => fun
  | [d1, d2] => { results := [.lit (.bool true)], args := [d1, d2] }
  | _ => none }
def fnRecordMatchesLastWinsModelRow : OpenClaim := { program := "qxb6601051amods", sum := "5241b7bbdd2bdb061b6e34360425ba4a9deb0ff2eee53e59fe416ad5bd2dee2c", func := "example.com/even-keel/even-keel/zzlaws_internal_rules_b1.FnRecordMatchesLastWinsModel", spec := "fnRecordMatchesLastWinsModel", make := .lifted ["publicsums"], apart := false }
def FnRecordMatchesLastWinsModelSaid : Prop := fnRecordMatchesLastWinsModelRow.holds Trym.pinned (OpenSpec.ofChange fnRecordMatchesLastWinsModelSpec)

/-- ITS FALSE NEIGHBOUR: 'it returns false'. Refute it at one input. -/
def fnRecordMatchesLastWinsModelWrong : ChangeSpec := { name := "fnRecordMatchesLastWinsModel", fn := fun _ => fun
  | [d1, d2] => { results := [.lit (.bool false)], args := [d1, d2] }
  | _ => none }
def FnRecordMatchesLastWinsModelWrongFalsely : Prop := fnRecordMatchesLastWinsModelRow.holds Trym.pinned (OpenSpec.ofChange fnRecordMatchesLastWinsModelWrong)

/-- 'zzlaws_internal_rules_b1.FnRecordClearingEveryNamespaceFreesEveryZone': WHATEVER THE INPUT: true; the input reads as it did. -/
def fnRecordClearingEveryNamespaceFreesEveryZoneSpec : ChangeSpec := { name := "fnRecordClearingEveryNamespaceFreesEveryZone", fn := fun _ => fun
  | [d1, d2] => { results := [.lit (.bool true)], args := [d1, d2] }
  | _ => none }
def fnRecordClearingEveryNamespaceFreesEveryZoneRow : OpenClaim := { program := "qxb6601051amods", sum := "5241b7bbdd2bdb061b6e34360425ba4a9deb0ff2eee53e59fe416ad5bd2dee2c", func := "example.com/even-keel/even-keel/zzlaws_internal_rules_b1.FnRecordClearingEveryNamespaceFreesEveryZone", spec := "fnRecordClearingEveryNamespaceFreesEveryZone", make := .lifted ["publicsums"], apart := false }
def FnRecordClearingEveryNamespaceFreesEveryZoneSaid : Prop := fnRecordClearingEveryNamespaceFreesEveryZoneRow.holds Trym.pinned (OpenSpec.ofChange fnRecordClearingEveryNamespaceFreesEveryZoneSpec)

/-- ITS FALSE NEIGHBOUR: 'it returns false'. Refute it at one input. -/
def fnRecordClearingEveryNamespaceFreesEveryZoneWrong : ChangeSpec := { name := "fnRecordClearingEveryNamespaceFreesEveryZone", fn := fun _ => fun
  | [d1, d2] => { results := [.lit (.bool false)], args := [d1, d2] }
  | _ => none }
def FnRecordClearingEveryNamespaceFreesEveryZoneWrongFalsely : Prop := fnRecordClearingEveryNamespaceFreesEveryZoneRow.holds Trym.pinned (OpenSpec.ofChange fnRecordClearingEveryNamespaceFreesEveryZoneWrong)

end Rows
end Go.Proofs.Qxb6601051aMods
