/-
  No cell of these rows narrows 'for every input' (looked for: loops, veiled, ifaces, maps, wideKeys, modest, calm, conditions, laid).
  DERIVED. THE GIVEN ROWS OF THIS SEAT. 3 by the template 'for every input the law returns true; each argument reads behind the call as it read before'; 0 by the template 'total and deterministic' (their statements: Qxb6003798aTotals.lean).
  GIVEN WITH THE SEED: the statements are not yours to turn. If you find one false, say at which input.
  Laid BY PROGRAM, IN A SANDBOX (cutbox-rows.mjs): the forced cells as the released guide's own fill.sh prints them over the translation 2a729c5ef68fb160… (all of the seat's roots in one cut). By AI agents, Wed Nov 11 2026. No macro, syntax, notation, axiom, sorry.
-/
import Derived.Test.Qxb6003798aChecked
import GoSem.Claim
import GoSem.ClaimJoined
import GoSem.ClaimMapViews
import Derived.JoinedTies
import Derived.KernelRfl
namespace Go.Proofs.Qxb6003798a
/- THE CELL 'sum', in the pinned program and in every row, IS THE sha256 OF THE DUMP (.gsa) THAT Qxb6003798aProg.lean LOADS. Nothing in Lean hashes anything: it is a label: what it is worth is what the hold of that sum in a sandbox is worth. -/
noncomputable def Try.pinned : Pinned := { name := "qxb6003798a", sum := "2a729c5ef68fb16046b298b811261d5a07114a37257761f26230960f22164344", checked := Try.checked }
namespace Rows
def none {H : Type} : Left H := { results := [], args := [] }

/-- 'zzlaws_suspicion_g1.FnWaitAfterMonotone': WHATEVER THE INPUT: true; the input reads as it did. -/
def fnWaitAfterMonotoneSpec : ChangeSpec := { name := "fnWaitAfterMonotone", fn := fun _ => fun
  | [d1, d2, d3, d4] => { results := [.lit (.bool true)], args := [d1, d2, d3, d4] }
  | _ => none }
def fnWaitAfterMonotoneRow : OpenClaim := { program := "qxb6003798a", sum := "2a729c5ef68fb16046b298b811261d5a07114a37257761f26230960f22164344", func := "example.com/riftwatch/riftwatch/zzlaws_suspicion_g1.FnWaitAfterMonotone", spec := "fnWaitAfterMonotone", apart := false }
def FnWaitAfterMonotoneSaid : Prop := fnWaitAfterMonotoneRow.holds Try.pinned (OpenSpec.ofChange fnWaitAfterMonotoneSpec)

/-- ITS FALSE NEIGHBOUR: 'it returns false'. Refute it at one input. -/
def fnWaitAfterMonotoneWrong : ChangeSpec := { name := "fnWaitAfterMonotone", fn := fun _ => fun
  | [d1, d2, d3, d4] => { results := [.lit (.bool false)], args := [d1, d2, d3, d4] }
  | _ => none }
def FnWaitAfterMonotoneWrongFalsely : Prop := fnWaitAfterMonotoneRow.holds Try.pinned (OpenSpec.ofChange fnWaitAfterMonotoneWrong)

/-- 'zzlaws_suspicion_g1.FnWaitAfterBounds': WHATEVER THE INPUT: true; the input reads as it did. -/
def fnWaitAfterBoundsSpec : ChangeSpec := { name := "fnWaitAfterBounds", fn := fun _ => fun
  | [d1, d2] => { results := [.lit (.bool true)], args := [d1, d2] }
  | _ => none }
def fnWaitAfterBoundsRow : OpenClaim := { program := "qxb6003798a", sum := "2a729c5ef68fb16046b298b811261d5a07114a37257761f26230960f22164344", func := "example.com/riftwatch/riftwatch/zzlaws_suspicion_g1.FnWaitAfterBounds", spec := "fnWaitAfterBounds", apart := false }
def FnWaitAfterBoundsSaid : Prop := fnWaitAfterBoundsRow.holds Try.pinned (OpenSpec.ofChange fnWaitAfterBoundsSpec)

/-- ITS FALSE NEIGHBOUR: 'it returns false'. Refute it at one input. -/
def fnWaitAfterBoundsWrong : ChangeSpec := { name := "fnWaitAfterBounds", fn := fun _ => fun
  | [d1, d2] => { results := [.lit (.bool false)], args := [d1, d2] }
  | _ => none }
def FnWaitAfterBoundsWrongFalsely : Prop := fnWaitAfterBoundsRow.holds Try.pinned (OpenSpec.ofChange fnWaitAfterBoundsWrong)

/-- 'zzlaws_suspicion_g1.FnAppendPairsPrefixedAndInjective': WHATEVER THE INPUT: true; the input reads as it did. -/
def fnAppendPairsPrefixedAndInjectiveSpec : ChangeSpec := { name := "fnAppendPairsPrefixedAndInjective", fn := fun _ => fun
  | [d1, d2, d3, d4, d5, d6, d7] => { results := [.lit (.bool true)], args := [d1, d2, d3, d4, d5, d6, d7] }
  | _ => none }
def fnAppendPairsPrefixedAndInjectiveRow : OpenClaim := { program := "qxb6003798a", sum := "2a729c5ef68fb16046b298b811261d5a07114a37257761f26230960f22164344", func := "example.com/riftwatch/riftwatch/zzlaws_suspicion_g1.FnAppendPairsPrefixedAndInjective", spec := "fnAppendPairsPrefixedAndInjective", apart := false }
def FnAppendPairsPrefixedAndInjectiveSaid : Prop := fnAppendPairsPrefixedAndInjectiveRow.holds Try.pinned (OpenSpec.ofChange fnAppendPairsPrefixedAndInjectiveSpec)

/-- ITS FALSE NEIGHBOUR: 'it returns false'. Refute it at one input. -/
def fnAppendPairsPrefixedAndInjectiveWrong : ChangeSpec := { name := "fnAppendPairsPrefixedAndInjective", fn := fun _ => fun
  | [d1, d2, d3, d4, d5, d6, d7] => { results := [.lit (.bool false)], args := [d1, d2, d3, d4, d5, d6, d7] }
  | _ => none }
def FnAppendPairsPrefixedAndInjectiveWrongFalsely : Prop := fnAppendPairsPrefixedAndInjectiveRow.holds Try.pinned (OpenSpec.ofChange fnAppendPairsPrefixedAndInjectiveWrong)

end Rows
end Go.Proofs.Qxb6003798a
