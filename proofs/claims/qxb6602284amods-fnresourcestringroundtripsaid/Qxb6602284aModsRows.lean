/-
  No cell of these rows narrows 'for every input' (looked for: loops, veiled, ifaces, maps, wideKeys, modest, calm, conditions, laid).
  DERIVED. THE GIVEN ROWS OF THIS SEAT. 4 by the template 'for every input the law returns true; each argument reads behind the call as it read before'; 0 by the template 'total and deterministic' (their statements: Qxb6602284aModsTotals.lean).
  GIVEN WITH THE SEED: the statements are not yours to turn. If you find one false, say at which input.
  Laid BY PROGRAM, IN A SANDBOX (cutbox-rows.mjs): the forced cells as the released guide's own fill.sh prints them over the translation 273855de43dae19c… (all of the seat's roots in one cut). By AI agents, Wed Nov 11 2026. No macro, syntax, notation, axiom, sorry.
-/
import Derived.Test.Qxb6602284aModsChecked
import GoSem.Claim
import GoSem.ClaimJoined
import GoSem.ClaimMapViews
import Derived.JoinedTies
import Derived.KernelRfl
namespace Go.Proofs.Qxb6602284aMods
/- THE CELL 'sum', in the pinned program and in every row, IS THE sha256 OF THE DUMP (.gsa) THAT Qxb6602284aModsProg.lean LOADS. Nothing in Lean hashes anything: it is a label: what it is worth is what the hold of that sum in a sandbox is worth. -/
noncomputable def Trym.pinned : Pinned := { name := "qxb6602284amods", sum := "273855de43dae19c1f82304994ee13f1ec46439bb85f352221141377705246ae", checked := Trym.checked }
namespace Rows
def none {H : Type} : Left H := { results := [], args := [] }

/-- 'zzlaws_pkg_access_b1.FnChildReachesNarrowerImpliesWider': WHATEVER THE INPUT: true; the input reads as it did. -/
def fnChildReachesNarrowerImpliesWiderSpec : ChangeSpec := { name := "fnChildReachesNarrowerImpliesWider", fn := fun _ => fun
  | [d1, d2, d3, d4, d5] => { results := [.lit (.bool true)], args := [d1, d2, d3, d4, d5] }
  | _ => none }
def fnChildReachesNarrowerImpliesWiderRow : OpenClaim := { program := "qxb6602284amods", sum := "273855de43dae19c1f82304994ee13f1ec46439bb85f352221141377705246ae", func := "example.com/rolewarden/rolewarden/zzlaws_pkg_access_b1.FnChildReachesNarrowerImpliesWider", spec := "fnChildReachesNarrowerImpliesWider", make := .lifted ["publicsums"], apart := false }
def FnChildReachesNarrowerImpliesWiderSaid : Prop := fnChildReachesNarrowerImpliesWiderRow.holds Trym.pinned (OpenSpec.ofChange fnChildReachesNarrowerImpliesWiderSpec)

/-- ITS FALSE NEIGHBOUR: 'it returns false'. Refute it at one input. -/
def fnChildReachesNarrowerImpliesWiderWrong : ChangeSpec := { name := "fnChildReachesNarrowerImpliesWider", fn := fun _ => fun
  | [d1, d2, d3, d4, d5] => { results := [.lit (.bool false)], args := [d1, d2, d3, d4, d5] }
  | _ => none }
def FnChildReachesNarrowerImpliesWiderWrongFalsely : Prop := fnChildReachesNarrowerImpliesWiderRow.holds Trym.pinned (OpenSpec.ofChange fnChildReachesNarrowerImpliesWiderWrong)

/-- 'zzlaws_pkg_access_b1.FnManagementAgreesWithChild': WHATEVER THE INPUT: true; the input reads as it did. -/
def fnManagementAgreesWithChildSpec : ChangeSpec := { name := "fnManagementAgreesWithChild", fn := fun _ => fun
  | [d1, d2, d3, d4, d5] => { results := [.lit (.bool true)], args := [d1, d2, d3, d4, d5] }
  | _ => none }
def fnManagementAgreesWithChildRow : OpenClaim := { program := "qxb6602284amods", sum := "273855de43dae19c1f82304994ee13f1ec46439bb85f352221141377705246ae", func := "example.com/rolewarden/rolewarden/zzlaws_pkg_access_b1.FnManagementAgreesWithChild", spec := "fnManagementAgreesWithChild", make := .lifted ["publicsums"], apart := false }
def FnManagementAgreesWithChildSaid : Prop := fnManagementAgreesWithChildRow.holds Trym.pinned (OpenSpec.ofChange fnManagementAgreesWithChildSpec)

/-- ITS FALSE NEIGHBOUR: 'it returns false'. Refute it at one input. -/
def fnManagementAgreesWithChildWrong : ChangeSpec := { name := "fnManagementAgreesWithChild", fn := fun _ => fun
  | [d1, d2, d3, d4, d5] => { results := [.lit (.bool false)], args := [d1, d2, d3, d4, d5] }
  | _ => none }
def FnManagementAgreesWithChildWrongFalsely : Prop := fnManagementAgreesWithChildRow.holds Trym.pinned (OpenSpec.ofChange fnManagementAgreesWithChildWrong)

/-- 'zzlaws_pkg_access_b1.FnManagementRefusesWithoutNamedNamespace': WHATEVER THE INPUT: true; the input reads as it did. -/
def fnManagementRefusesWithoutNamedNamespaceSpec : ChangeSpec := { name := "fnManagementRefusesWithoutNamedNamespace", fn := fun _ => fun
  | [d1, d2, d3, d4, d5] => { results := [.lit (.bool true)], args := [d1, d2, d3, d4, d5] }
  | _ => none }
def fnManagementRefusesWithoutNamedNamespaceRow : OpenClaim := { program := "qxb6602284amods", sum := "273855de43dae19c1f82304994ee13f1ec46439bb85f352221141377705246ae", func := "example.com/rolewarden/rolewarden/zzlaws_pkg_access_b1.FnManagementRefusesWithoutNamedNamespace", spec := "fnManagementRefusesWithoutNamedNamespace", make := .lifted ["publicsums"], apart := false }
def FnManagementRefusesWithoutNamedNamespaceSaid : Prop := fnManagementRefusesWithoutNamedNamespaceRow.holds Trym.pinned (OpenSpec.ofChange fnManagementRefusesWithoutNamedNamespaceSpec)

/-- ITS FALSE NEIGHBOUR: 'it returns false'. Refute it at one input. -/
def fnManagementRefusesWithoutNamedNamespaceWrong : ChangeSpec := { name := "fnManagementRefusesWithoutNamedNamespace", fn := fun _ => fun
  | [d1, d2, d3, d4, d5] => { results := [.lit (.bool false)], args := [d1, d2, d3, d4, d5] }
  | _ => none }
def FnManagementRefusesWithoutNamedNamespaceWrongFalsely : Prop := fnManagementRefusesWithoutNamedNamespaceRow.holds Trym.pinned (OpenSpec.ofChange fnManagementRefusesWithoutNamedNamespaceWrong)

/-- 'zzlaws_pkg_access_b1.FnResourceStringRoundTrip': WHATEVER THE INPUT: true; the input reads as it did. -/
def fnResourceStringRoundTripSpec : ChangeSpec := { name := "fnResourceStringRoundTrip", fn := fun _ => fun
  | [d1, d2, d3] => { results := [.lit (.bool true)], args := [d1, d2, d3] }
  | _ => none }
def fnResourceStringRoundTripRow : OpenClaim := { program := "qxb6602284amods", sum := "273855de43dae19c1f82304994ee13f1ec46439bb85f352221141377705246ae", func := "example.com/rolewarden/rolewarden/zzlaws_pkg_access_b1.FnResourceStringRoundTrip", spec := "fnResourceStringRoundTrip", make := .lifted ["publicsums"], apart := false }
def FnResourceStringRoundTripSaid : Prop := fnResourceStringRoundTripRow.holds Trym.pinned (OpenSpec.ofChange fnResourceStringRoundTripSpec)

/-- ITS FALSE NEIGHBOUR: 'it returns false'. Refute it at one input. -/
def fnResourceStringRoundTripWrong : ChangeSpec := { name := "fnResourceStringRoundTrip", fn := fun _ => fun
  | [d1, d2, d3] => { results := [.lit (.bool false)], args := [d1, d2, d3] }
  | _ => none }
def FnResourceStringRoundTripWrongFalsely : Prop := fnResourceStringRoundTripRow.holds Trym.pinned (OpenSpec.ofChange fnResourceStringRoundTripWrong)

end Rows
end Go.Proofs.Qxb6602284aMods
