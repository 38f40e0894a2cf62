/-
  No cell of these rows narrows 'for every input' (looked for: loops, veiled, ifaces, maps, wideKeys, modest, calm, conditions, laid).
  DERIVED. THE GIVEN ROWS OF THIS SEAT. 2 by the template 'for every input the law returns true; each argument reads behind the call as it read before'; 0 by the template 'total and deterministic' (their statements: Qxb6605485aTotals.lean).
  GIVEN WITH THE SEED: the statements are not yours to turn. If you find one false, say at which input.
  Laid BY PROGRAM, IN A SANDBOX (cutbox-rows.mjs): the forced cells as the released guide's own fill.sh prints them over the translation cb1d74092bfcccf0… (all of the seat's roots in one cut). By AI agents, Wed Nov 11 2026. No macro, syntax, notation, axiom, sorry.
-/
import Derived.Test.Qxb6605485aChecked
import GoSem.Claim
import GoSem.ClaimJoined
import GoSem.ClaimMapViews
import Derived.JoinedTies
import Derived.KernelRfl
namespace Go.Proofs.Qxb6605485a
/- THE CELL 'sum', in the pinned program and in every row, IS THE sha256 OF THE DUMP (.gsa) THAT Qxb6605485aProg.lean LOADS. Nothing in Lean hashes anything: it is a label: what it is worth is what the hold of that sum in a sandbox is worth. -/
noncomputable def Try.pinned : Pinned := { name := "qxb6605485a", sum := "cb1d74092bfcccf0e1d4396460b3abd0834a9a046551c06f79a7150e6694a22d", checked := Try.checked }
namespace Rows
def none {H : Type} : Left H := { results := [], args := [] }

/-- 'zzlaws_root_b1.FnTxStateUnknownBranchMakesHeuristic': WHATEVER THE INPUT: true; the input reads as it did. -/
def fnTxStateUnknownBranchMakesHeuristicSpec : ChangeSpec := { name := "fnTxStateUnknownBranchMakesHeuristic", fn := fun _ => fun
  | [d1, d2, d3, d4] => { results := [.lit (.bool true)], args := [d1, d2, d3, d4] }
  | _ => none }
def fnTxStateUnknownBranchMakesHeuristicRow : OpenClaim := { program := "qxb6605485a", sum := "cb1d74092bfcccf0e1d4396460b3abd0834a9a046551c06f79a7150e6694a22d", func := "example.com/concordat/concordat/zzlaws_root_b1.FnTxStateUnknownBranchMakesHeuristic", spec := "fnTxStateUnknownBranchMakesHeuristic", apart := false }
def FnTxStateUnknownBranchMakesHeuristicSaid : Prop := fnTxStateUnknownBranchMakesHeuristicRow.holds Try.pinned (OpenSpec.ofChange fnTxStateUnknownBranchMakesHeuristicSpec)

/-- ITS FALSE NEIGHBOUR: 'it returns false'. Refute it at one input. -/
def fnTxStateUnknownBranchMakesHeuristicWrong : ChangeSpec := { name := "fnTxStateUnknownBranchMakesHeuristic", fn := fun _ => fun
  | [d1, d2, d3, d4] => { results := [.lit (.bool false)], args := [d1, d2, d3, d4] }
  | _ => none }
def FnTxStateUnknownBranchMakesHeuristicWrongFalsely : Prop := fnTxStateUnknownBranchMakesHeuristicRow.holds Try.pinned (OpenSpec.ofChange fnTxStateUnknownBranchMakesHeuristicWrong)

/-- 'zzlaws_root_b1.FnValidNameOverOwnBytes': WHATEVER THE INPUT: true; the input reads as it did. -/
def fnValidNameOverOwnBytesSpec : ChangeSpec := { name := "fnValidNameOverOwnBytes", fn := fun _ => fun
  | [d1, d2] => { results := [.lit (.bool true)], args := [d1, d2] }
  | _ => none }
def fnValidNameOverOwnBytesRow : OpenClaim := { program := "qxb6605485a", sum := "cb1d74092bfcccf0e1d4396460b3abd0834a9a046551c06f79a7150e6694a22d", func := "example.com/concordat/concordat/zzlaws_root_b1.FnValidNameOverOwnBytes", spec := "fnValidNameOverOwnBytes", inPlace := ["internal/bytealg.IndexByteString"], apart := false }
def FnValidNameOverOwnBytesSaid : Prop := fnValidNameOverOwnBytesRow.holds Try.pinned (OpenSpec.ofChange fnValidNameOverOwnBytesSpec)

/-- ITS FALSE NEIGHBOUR: 'it returns false'. Refute it at one input. -/
def fnValidNameOverOwnBytesWrong : ChangeSpec := { name := "fnValidNameOverOwnBytes", fn := fun _ => fun
  | [d1, d2] => { results := [.lit (.bool false)], args := [d1, d2] }
  | _ => none }
def FnValidNameOverOwnBytesWrongFalsely : Prop := fnValidNameOverOwnBytesRow.holds Try.pinned (OpenSpec.ofChange fnValidNameOverOwnBytesWrong)

end Rows
end Go.Proofs.Qxb6605485a
