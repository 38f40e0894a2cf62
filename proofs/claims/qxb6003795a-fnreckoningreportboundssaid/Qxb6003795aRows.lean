/-
  No cell of these rows narrows 'for every input' (looked for: loops, veiled, ifaces, maps, wideKeys, modest, calm, conditions, laid).
  DERIVED. THE GIVEN ROWS OF THIS SEAT. 3 by the template 'for every input the law returns true; each argument reads behind the call as it read before'; 0 by the template 'total and deterministic' (their statements: Qxb6003795aTotals.lean).
  GIVEN WITH THE SEED: the statements are not yours to turn. If you find one false, say at which input.
  Laid BY PROGRAM, IN A SANDBOX (cutbox-rows.mjs): the forced cells as the released guide's own fill.sh prints them over the translation 6f80b31e62106bfa… (all of the seat's roots in one cut). By AI agents, Wed Nov 11 2026. No macro, syntax, notation, axiom, sorry.
-/
import Derived.Test.Qxb6003795aChecked
import GoSem.Claim
import GoSem.ClaimJoined
import GoSem.ClaimMapViews
import Derived.JoinedTies
import Derived.KernelRfl
namespace Go.Proofs.Qxb6003795a
/- THE CELL 'sum', in the pinned program and in every row, IS THE sha256 OF THE DUMP (.gsa) THAT Qxb6003795aProg.lean LOADS. Nothing in Lean hashes anything: it is a label: what it is worth is what the hold of that sum in a sandbox is worth. -/
noncomputable def Try.pinned : Pinned := { name := "qxb6003795a", sum := "6f80b31e62106bface4d7182c4ade3f7d934b9fefb077f038c20cf140c4a0fe8", checked := Try.checked }
namespace Rows
def none {H : Type} : Left H := { results := [], args := [] }

/-- 'zzlaws_internal_sim_g1.FnReckoningReportBounds': WHATEVER THE INPUT: true; the input reads as it did. -/
def fnReckoningReportBoundsSpec : ChangeSpec := { name := "fnReckoningReportBounds", fn := fun _ => fun
  | [d1, d2, d3, d4] => { results := [.lit (.bool true)], args := [d1, d2, d3, d4] }
  | _ => none }
def fnReckoningReportBoundsRow : OpenClaim := { program := "qxb6003795a", sum := "6f80b31e62106bface4d7182c4ade3f7d934b9fefb077f038c20cf140c4a0fe8", func := "example.com/riftwatch/riftwatch/zzlaws_internal_sim_g1.FnReckoningReportBounds", spec := "fnReckoningReportBounds", plainKeys := false, apart := false }
def FnReckoningReportBoundsSaid : Prop := fnReckoningReportBoundsRow.holds Try.pinned (OpenSpec.ofChange fnReckoningReportBoundsSpec)

/-- ITS FALSE NEIGHBOUR: 'it returns false'. Refute it at one input. -/
def fnReckoningReportBoundsWrong : ChangeSpec := { name := "fnReckoningReportBounds", fn := fun _ => fun
  | [d1, d2, d3, d4] => { results := [.lit (.bool false)], args := [d1, d2, d3, d4] }
  | _ => none }
def FnReckoningReportBoundsWrongFalsely : Prop := fnReckoningReportBoundsRow.holds Try.pinned (OpenSpec.ofChange fnReckoningReportBoundsWrong)

/-- 'zzlaws_internal_sim_g1.FnReckoningReportIdempotent': WHATEVER THE INPUT: true; the input reads as it did. -/
def fnReckoningReportIdempotentSpec : ChangeSpec := { name := "fnReckoningReportIdempotent", fn := fun _ => fun
  | [d1, d2, d3, d4] => { results := [.lit (.bool true)], args := [d1, d2, d3, d4] }
  | _ => none }
def fnReckoningReportIdempotentRow : OpenClaim := { program := "qxb6003795a", sum := "6f80b31e62106bface4d7182c4ade3f7d934b9fefb077f038c20cf140c4a0fe8", func := "example.com/riftwatch/riftwatch/zzlaws_internal_sim_g1.FnReckoningReportIdempotent", spec := "fnReckoningReportIdempotent", plainKeys := false, apart := false }
def FnReckoningReportIdempotentSaid : Prop := fnReckoningReportIdempotentRow.holds Try.pinned (OpenSpec.ofChange fnReckoningReportIdempotentSpec)

/-- ITS FALSE NEIGHBOUR: 'it returns false'. Refute it at one input. -/
def fnReckoningReportIdempotentWrong : ChangeSpec := { name := "fnReckoningReportIdempotent", fn := fun _ => fun
  | [d1, d2, d3, d4] => { results := [.lit (.bool false)], args := [d1, d2, d3, d4] }
  | _ => none }
def FnReckoningReportIdempotentWrongFalsely : Prop := fnReckoningReportIdempotentRow.holds Try.pinned (OpenSpec.ofChange fnReckoningReportIdempotentWrong)

/-- 'zzlaws_internal_sim_g1.FnAgendaLessIsStrictOrderAgreeingWithBefore': WHATEVER THE INPUT: true; the input reads as it did. -/
def fnAgendaLessIsStrictOrderAgreeingWithBeforeSpec : ChangeSpec := { name := "fnAgendaLessIsStrictOrderAgreeingWithBefore", fn := fun _ => fun
  | [d1, d2, d3, d4, d5, d6] => { results := [.lit (.bool true)], args := [d1, d2, d3, d4, d5, d6] }
  | _ => none }
def fnAgendaLessIsStrictOrderAgreeingWithBeforeRow : OpenClaim := { program := "qxb6003795a", sum := "6f80b31e62106bface4d7182c4ade3f7d934b9fefb077f038c20cf140c4a0fe8", func := "example.com/riftwatch/riftwatch/zzlaws_internal_sim_g1.FnAgendaLessIsStrictOrderAgreeingWithBefore", spec := "fnAgendaLessIsStrictOrderAgreeingWithBefore", plainKeys := false, apart := false }
def FnAgendaLessIsStrictOrderAgreeingWithBeforeSaid : Prop := fnAgendaLessIsStrictOrderAgreeingWithBeforeRow.holds Try.pinned (OpenSpec.ofChange fnAgendaLessIsStrictOrderAgreeingWithBeforeSpec)

/-- ITS FALSE NEIGHBOUR: 'it returns false'. Refute it at one input. -/
def fnAgendaLessIsStrictOrderAgreeingWithBeforeWrong : ChangeSpec := { name := "fnAgendaLessIsStrictOrderAgreeingWithBefore", fn := fun _ => fun
  | [d1, d2, d3, d4, d5, d6] => { results := [.lit (.bool false)], args := [d1, d2, d3, d4, d5, d6] }
  | _ => none }
def FnAgendaLessIsStrictOrderAgreeingWithBeforeWrongFalsely : Prop := fnAgendaLessIsStrictOrderAgreeingWithBeforeRow.holds Try.pinned (OpenSpec.ofChange fnAgendaLessIsStrictOrderAgreeingWithBeforeWrong)

end Rows
end Go.Proofs.Qxb6003795a
