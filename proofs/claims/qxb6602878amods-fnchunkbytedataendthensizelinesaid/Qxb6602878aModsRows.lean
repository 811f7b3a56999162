/-
  No cell of these rows narrows 'for every input' (looked for: loops, veiled, ifaces, maps, wideKeys, modest, calm, conditions, laid).
  DERIVED. THE GIVEN ROWS OF THIS SEAT. 5 by the template 'for every input the law returns true; each argument reads behind the call as it read before'; 0 by the template 'total and deterministic' (their statements: Qxb6602878aModsTotals.lean).
  GIVEN WITH THE SEED: the statements are not yours to turn. If you find one false, say at which input.
  Laid BY PROGRAM, IN A SANDBOX (cutbox-rows.mjs): the forced cells as the released guide's own fill.sh prints them over the translation 8f0ff534393d2779… (all of the seat's roots in one cut). By AI agents, Wed Nov 11 2026. No macro, syntax, notation, axiom, sorry.
-/
import Derived.Test.Qxb6602878aModsChecked
import GoSem.Claim
import GoSem.ClaimJoined
import GoSem.ClaimMapViews
import Derived.JoinedTies
import Derived.KernelRfl
namespace Go.Proofs.Qxb6602878aMods
/- THE CELL 'sum', in the pinned program and in every row, IS THE sha256 OF THE DUMP (.gsa) THAT Qxb6602878aModsProg.lean LOADS. Nothing in Lean hashes anything: it is a label: what it is worth is what the hold of that sum in a sandbox is worth. -/
noncomputable def Trym.pinned : Pinned := { name := "qxb6602878amods", sum := "8f0ff534393d27791fccdff732a782b212d53bd3b5d318497bb8cea35802e843", checked := Trym.checked }
namespace Rows
def none {H : Type} : Left H := { results := [], args := [] }

/-- 'zzlaws_internal_proxy_b1.FnLineEndsAddMatchesModel': WHATEVER THE INPUT: true; the input reads as it did. -/
def fnLineEndsAddMatchesModelSpec : ChangeSpec := { name := "fnLineEndsAddMatchesModel", fn := fun _ => fun
  | [d1, d2, d3, d4] => { results := [.lit (.bool true)], args := [d1, d2, d3, d4] }
  | _ => none }
def fnLineEndsAddMatchesModelRow : OpenClaim := { program := "qxb6602878amods", sum := "8f0ff534393d27791fccdff732a782b212d53bd3b5d318497bb8cea35802e843", func := "example.com/allowd/allowd/zzlaws_internal_proxy_b1.FnLineEndsAddMatchesModel", spec := "fnLineEndsAddMatchesModel", make := .lifted ["publicsums"], apart := false }
def FnLineEndsAddMatchesModelSaid : Prop := fnLineEndsAddMatchesModelRow.holds Trym.pinned (OpenSpec.ofChange fnLineEndsAddMatchesModelSpec)

/-- ITS FALSE NEIGHBOUR: 'it returns false'. Refute it at one input. -/
def fnLineEndsAddMatchesModelWrong : ChangeSpec := { name := "fnLineEndsAddMatchesModel", fn := fun _ => fun
  | [d1, d2, d3, d4] => { results := [.lit (.bool false)], args := [d1, d2, d3, d4] }
  | _ => none }
def FnLineEndsAddMatchesModelWrongFalsely : Prop := fnLineEndsAddMatchesModelRow.holds Trym.pinned (OpenSpec.ofChange fnLineEndsAddMatchesModelWrong)

/-- 'zzlaws_internal_proxy_b1.FnLineEndsAddSplitAgrees': WHATEVER THE INPUT: true; the input reads as it did. -/
def fnLineEndsAddSplitAgreesSpec : ChangeSpec := { name := "fnLineEndsAddSplitAgrees", fn := fun _ => fun
  | [d1, d2, d3, d4, d5] => { results := [.lit (.bool true)], args := [d1, d2, d3, d4, d5] }
  | _ => none }
def fnLineEndsAddSplitAgreesRow : OpenClaim := { program := "qxb6602878amods", sum := "8f0ff534393d27791fccdff732a782b212d53bd3b5d318497bb8cea35802e843", func := "example.com/allowd/allowd/zzlaws_internal_proxy_b1.FnLineEndsAddSplitAgrees", spec := "fnLineEndsAddSplitAgrees", make := .lifted ["publicsums"], apart := false }
def FnLineEndsAddSplitAgreesSaid : Prop := fnLineEndsAddSplitAgreesRow.holds Trym.pinned (OpenSpec.ofChange fnLineEndsAddSplitAgreesSpec)

/-- ITS FALSE NEIGHBOUR: 'it returns false'. Refute it at one input. -/
def fnLineEndsAddSplitAgreesWrong : ChangeSpec := { name := "fnLineEndsAddSplitAgrees", fn := fun _ => fun
  | [d1, d2, d3, d4, d5] => { results := [.lit (.bool false)], args := [d1, d2, d3, d4, d5] }
  | _ => none }
def FnLineEndsAddSplitAgreesWrongFalsely : Prop := fnLineEndsAddSplitAgreesRow.holds Trym.pinned (OpenSpec.ofChange fnLineEndsAddSplitAgreesWrong)

/-- 'zzlaws_internal_proxy_b1.FnChunkByteSizeLineInvariant': WHATEVER THE INPUT: true; the input reads as it did. -/
def fnChunkByteSizeLineInvariantSpec : ChangeSpec := { name := "fnChunkByteSizeLineInvariant", fn := fun _ => fun
  | [d1, d2] => { results := [.lit (.bool true)], args := [d1, d2] }
  | _ => none }
def fnChunkByteSizeLineInvariantRow : OpenClaim := { program := "qxb6602878amods", sum := "8f0ff534393d27791fccdff732a782b212d53bd3b5d318497bb8cea35802e843", func := "example.com/allowd/allowd/zzlaws_internal_proxy_b1.FnChunkByteSizeLineInvariant", spec := "fnChunkByteSizeLineInvariant", make := .lifted ["publicsums"], apart := false }
def FnChunkByteSizeLineInvariantSaid : Prop := fnChunkByteSizeLineInvariantRow.holds Trym.pinned (OpenSpec.ofChange fnChunkByteSizeLineInvariantSpec)

/-- ITS FALSE NEIGHBOUR: 'it returns false'. Refute it at one input. -/
def fnChunkByteSizeLineInvariantWrong : ChangeSpec := { name := "fnChunkByteSizeLineInvariant", fn := fun _ => fun
  | [d1, d2] => { results := [.lit (.bool false)], args := [d1, d2] }
  | _ => none }
def FnChunkByteSizeLineInvariantWrongFalsely : Prop := fnChunkByteSizeLineInvariantRow.holds Trym.pinned (OpenSpec.ofChange fnChunkByteSizeLineInvariantWrong)

/-- 'zzlaws_internal_proxy_b1.FnChunkByteInertElsewhere': WHATEVER THE INPUT: true; the input reads as it did. -/
def fnChunkByteInertElsewhereSpec : ChangeSpec := { name := "fnChunkByteInertElsewhere", fn := fun _ => fun
  | [d1, d2] => { results := [.lit (.bool true)], args := [d1, d2] }
  | _ => none }
def fnChunkByteInertElsewhereRow : OpenClaim := { program := "qxb6602878amods", sum := "8f0ff534393d27791fccdff732a782b212d53bd3b5d318497bb8cea35802e843", func := "example.com/allowd/allowd/zzlaws_internal_proxy_b1.FnChunkByteInertElsewhere", spec := "fnChunkByteInertElsewhere", make := .lifted ["publicsums"], apart := false }
def FnChunkByteInertElsewhereSaid : Prop := fnChunkByteInertElsewhereRow.holds Trym.pinned (OpenSpec.ofChange fnChunkByteInertElsewhereSpec)

/-- ITS FALSE NEIGHBOUR: 'it returns false'. Refute it at one input. -/
def fnChunkByteInertElsewhereWrong : ChangeSpec := { name := "fnChunkByteInertElsewhere", fn := fun _ => fun
  | [d1, d2] => { results := [.lit (.bool false)], args := [d1, d2] }
  | _ => none }
def FnChunkByteInertElsewhereWrongFalsely : Prop := fnChunkByteInertElsewhereRow.holds Trym.pinned (OpenSpec.ofChange fnChunkByteInertElsewhereWrong)

/-- 'zzlaws_internal_proxy_b1.FnChunkByteDataEndThenSizeLine': WHATEVER THE INPUT: true; the input reads as it did. -/
def fnChunkByteDataEndThenSizeLineSpec : ChangeSpec := { name := "fnChunkByteDataEndThenSizeLine", fn := fun _ => fun
  | [d1, d2] => { results := [.lit (.bool true)], args := [d1, d2] }
  | _ => none }
def fnChunkByteDataEndThenSizeLineRow : OpenClaim := { program := "qxb6602878amods", sum := "8f0ff534393d27791fccdff732a782b212d53bd3b5d318497bb8cea35802e843", func := "example.com/allowd/allowd/zzlaws_internal_proxy_b1.FnChunkByteDataEndThenSizeLine", spec := "fnChunkByteDataEndThenSizeLine", make := .lifted ["publicsums"], apart := false }
def FnChunkByteDataEndThenSizeLineSaid : Prop := fnChunkByteDataEndThenSizeLineRow.holds Trym.pinned (OpenSpec.ofChange fnChunkByteDataEndThenSizeLineSpec)

/-- ITS FALSE NEIGHBOUR: 'it returns false'. Refute it at one input. -/
def fnChunkByteDataEndThenSizeLineWrong : ChangeSpec := { name := "fnChunkByteDataEndThenSizeLine", fn := fun _ => fun
  | [d1, d2] => { results := [.lit (.bool false)], args := [d1, d2] }
  | _ => none }
def FnChunkByteDataEndThenSizeLineWrongFalsely : Prop := fnChunkByteDataEndThenSizeLineRow.holds Trym.pinned (OpenSpec.ofChange fnChunkByteDataEndThenSizeLineWrong)

end Rows
end Go.Proofs.Qxb6602878aMods
