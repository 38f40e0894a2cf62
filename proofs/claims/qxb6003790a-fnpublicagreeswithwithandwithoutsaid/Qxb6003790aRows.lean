/-
  No cell of these rows narrows 'for every input' (looked for: loops, veiled, ifaces, maps, wideKeys, modest, calm, conditions, laid).
  DERIVED. THE GIVEN ROWS OF THIS SEAT. 4 by the template 'for every input the law returns true; each argument reads behind the call as it read before'; 0 by the template 'total and deterministic' (their statements: Qxb6003790aTotals.lean).
  GIVEN WITH THE SEED: the statements are not yours to turn. If you find one false, say at which input.
  Laid BY PROGRAM, IN A SANDBOX (cutbox-rows.mjs): the forced cells as the released guide's own fill.sh prints them over the translation 4a50274bd83d2113… (all of the seat's roots in one cut). By AI agents, Wed Nov 11 2026. No macro, syntax, notation, axiom, sorry.
-/
import Derived.Test.Qxb6003790aChecked
import GoSem.Claim
import GoSem.ClaimJoined
import GoSem.ClaimMapViews
import Derived.JoinedTies
import Derived.KernelRfl
namespace Go.Proofs.Qxb6003790a
/- THE CELL 'sum', in the pinned program and in every row, IS THE sha256 OF THE DUMP (.gsa) THAT Qxb6003790aProg.lean LOADS. Nothing in Lean hashes anything: it is a label: what it is worth is what the hold of that sum in a sandbox is worth. -/
noncomputable def Try.pinned : Pinned := { name := "qxb6003790a", sum := "4a50274bd83d21132608ba89e67fb9746d71320c5ca378b69abf0240c9811726", checked := Try.checked }
namespace Rows
def none {H : Type} : Left H := { results := [], args := [] }

/-- 'zzlaws_pkg_cluster_g1.FnEqualIsEquivalenceIgnoringExtras': WHATEVER THE INPUT: true; the input reads as it did. -/
def fnEqualIsEquivalenceIgnoringExtrasSpec : ChangeSpec := { name := "fnEqualIsEquivalenceIgnoringExtras", fn := fun _ => fun
  | [d1, d2, d3, d4, d5, d6, d7, d8, d9, d10, d11, d12] => { results := [.lit (.bool true)], args := [d1, d2, d3, d4, d5, d6, d7, d8, d9, d10, d11, d12] }
  | _ => none }
def fnEqualIsEquivalenceIgnoringExtrasRow : OpenClaim := { program := "qxb6003790a", sum := "4a50274bd83d21132608ba89e67fb9746d71320c5ca378b69abf0240c9811726", func := "example.com/gridloom/gridloom/zzlaws_pkg_cluster_g1.FnEqualIsEquivalenceIgnoringExtras", spec := "fnEqualIsEquivalenceIgnoringExtras", apart := false }
def FnEqualIsEquivalenceIgnoringExtrasSaid : Prop := fnEqualIsEquivalenceIgnoringExtrasRow.holds Try.pinned (OpenSpec.ofChange fnEqualIsEquivalenceIgnoringExtrasSpec)

/-- ITS FALSE NEIGHBOUR: 'it returns false'. Refute it at one input. -/
def fnEqualIsEquivalenceIgnoringExtrasWrong : ChangeSpec := { name := "fnEqualIsEquivalenceIgnoringExtras", fn := fun _ => fun
  | [d1, d2, d3, d4, d5, d6, d7, d8, d9, d10, d11, d12] => { results := [.lit (.bool false)], args := [d1, d2, d3, d4, d5, d6, d7, d8, d9, d10, d11, d12] }
  | _ => none }
def FnEqualIsEquivalenceIgnoringExtrasWrongFalsely : Prop := fnEqualIsEquivalenceIgnoringExtrasRow.holds Try.pinned (OpenSpec.ofChange fnEqualIsEquivalenceIgnoringExtrasWrong)

/-- 'zzlaws_pkg_cluster_g1.FnWithThenWithoutRestores': WHATEVER THE INPUT: true; the input reads as it did. -/
def fnWithThenWithoutRestoresSpec : ChangeSpec := { name := "fnWithThenWithoutRestores", fn := fun _ => fun
  | [d1, d2, d3, d4, d5, d6, d7, d8, d9, d10, d11] => { results := [.lit (.bool true)], args := [d1, d2, d3, d4, d5, d6, d7, d8, d9, d10, d11] }
  | _ => none }
def fnWithThenWithoutRestoresRow : OpenClaim := { program := "qxb6003790a", sum := "4a50274bd83d21132608ba89e67fb9746d71320c5ca378b69abf0240c9811726", func := "example.com/gridloom/gridloom/zzlaws_pkg_cluster_g1.FnWithThenWithoutRestores", spec := "fnWithThenWithoutRestores", apart := false }
def FnWithThenWithoutRestoresSaid : Prop := fnWithThenWithoutRestoresRow.holds Try.pinned (OpenSpec.ofChange fnWithThenWithoutRestoresSpec)

/-- ITS FALSE NEIGHBOUR: 'it returns false'. Refute it at one input. -/
def fnWithThenWithoutRestoresWrong : ChangeSpec := { name := "fnWithThenWithoutRestores", fn := fun _ => fun
  | [d1, d2, d3, d4, d5, d6, d7, d8, d9, d10, d11] => { results := [.lit (.bool false)], args := [d1, d2, d3, d4, d5, d6, d7, d8, d9, d10, d11] }
  | _ => none }
def FnWithThenWithoutRestoresWrongFalsely : Prop := fnWithThenWithoutRestoresRow.holds Try.pinned (OpenSpec.ofChange fnWithThenWithoutRestoresWrong)

/-- 'zzlaws_pkg_cluster_g1.FnWithoutRemovesExactlyOneIncarnation': WHATEVER THE INPUT: true; the input reads as it did. -/
def fnWithoutRemovesExactlyOneIncarnationSpec : ChangeSpec := { name := "fnWithoutRemovesExactlyOneIncarnation", fn := fun _ => fun
  | [d1, d2, d3, d4, d5, d6, d7, d8] => { results := [.lit (.bool true)], args := [d1, d2, d3, d4, d5, d6, d7, d8] }
  | _ => none }
def fnWithoutRemovesExactlyOneIncarnationRow : OpenClaim := { program := "qxb6003790a", sum := "4a50274bd83d21132608ba89e67fb9746d71320c5ca378b69abf0240c9811726", func := "example.com/gridloom/gridloom/zzlaws_pkg_cluster_g1.FnWithoutRemovesExactlyOneIncarnation", spec := "fnWithoutRemovesExactlyOneIncarnation", apart := false }
def FnWithoutRemovesExactlyOneIncarnationSaid : Prop := fnWithoutRemovesExactlyOneIncarnationRow.holds Try.pinned (OpenSpec.ofChange fnWithoutRemovesExactlyOneIncarnationSpec)

/-- ITS FALSE NEIGHBOUR: 'it returns false'. Refute it at one input. -/
def fnWithoutRemovesExactlyOneIncarnationWrong : ChangeSpec := { name := "fnWithoutRemovesExactlyOneIncarnation", fn := fun _ => fun
  | [d1, d2, d3, d4, d5, d6, d7, d8] => { results := [.lit (.bool false)], args := [d1, d2, d3, d4, d5, d6, d7, d8] }
  | _ => none }
def FnWithoutRemovesExactlyOneIncarnationWrongFalsely : Prop := fnWithoutRemovesExactlyOneIncarnationRow.holds Try.pinned (OpenSpec.ofChange fnWithoutRemovesExactlyOneIncarnationWrong)

/-- 'zzlaws_pkg_cluster_g1.FnPublicAgreesWithWithAndWithout': WHATEVER THE INPUT: true; the input reads as it did. -/
def fnPublicAgreesWithWithAndWithoutSpec : ChangeSpec := { name := "fnPublicAgreesWithWithAndWithout", fn := fun _ => fun
  | [d1, d2, d3, d4, d5, d6, d7, d8, d9, d10, d11, d12] => { results := [.lit (.bool true)], args := [d1, d2, d3, d4, d5, d6, d7, d8, d9, d10, d11, d12] }
  | _ => none }
def fnPublicAgreesWithWithAndWithoutRow : OpenClaim := { program := "qxb6003790a", sum := "4a50274bd83d21132608ba89e67fb9746d71320c5ca378b69abf0240c9811726", func := "example.com/gridloom/gridloom/zzlaws_pkg_cluster_g1.FnPublicAgreesWithWithAndWithout", spec := "fnPublicAgreesWithWithAndWithout", apart := false }
def FnPublicAgreesWithWithAndWithoutSaid : Prop := fnPublicAgreesWithWithAndWithoutRow.holds Try.pinned (OpenSpec.ofChange fnPublicAgreesWithWithAndWithoutSpec)

/-- ITS FALSE NEIGHBOUR: 'it returns false'. Refute it at one input. -/
def fnPublicAgreesWithWithAndWithoutWrong : ChangeSpec := { name := "fnPublicAgreesWithWithAndWithout", fn := fun _ => fun
  | [d1, d2, d3, d4, d5, d6, d7, d8, d9, d10, d11, d12] => { results := [.lit (.bool false)], args := [d1, d2, d3, d4, d5, d6, d7, d8, d9, d10, d11, d12] }
  | _ => none }
def FnPublicAgreesWithWithAndWithoutWrongFalsely : Prop := fnPublicAgreesWithWithAndWithoutRow.holds Try.pinned (OpenSpec.ofChange fnPublicAgreesWithWithAndWithoutWrong)

end Rows
end Go.Proofs.Qxb6003790a
