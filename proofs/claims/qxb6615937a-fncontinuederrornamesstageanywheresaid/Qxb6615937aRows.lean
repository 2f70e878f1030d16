/-
  No cell of these rows narrows 'for every input' (looked for: loops, veiled, ifaces, maps, wideKeys, modest, calm, conditions, laid).
  DERIVED. THE GIVEN ROWS OF THIS SEAT. 2 by the template 'for every input the law returns true; each argument reads behind the call as it read before'; 0 by the template 'total and deterministic' (their statements: Qxb6615937aTotals.lean).
  GIVEN WITH THE SEED: the statements are not yours to turn. If you find one false, say at which input.
  Laid BY PROGRAM, IN A SANDBOX (cutbox-rows.mjs): the forced cells as the released guide's own fill.sh prints them over the translation 53bd6ac5c17dca3c… (all of the seat's roots in one cut). By AI agents, Wed Nov 11 2026. No macro, syntax, notation, axiom, sorry.
-/
import Derived.Test.Qxb6615937aChecked
import GoSem.Claim
import GoSem.ClaimJoined
import GoSem.ClaimMapViews
import Derived.JoinedTies
import Derived.KernelRfl
namespace Go.Proofs.Qxb6615937a
/- THE CELL 'sum', in the pinned program and in every row, IS THE sha256 OF THE DUMP (.gsa) THAT Qxb6615937aProg.lean LOADS. Nothing in Lean hashes anything: it is a label: what it is worth is what the hold of that sum in a sandbox is worth. -/
noncomputable def Try.pinned : Pinned := { name := "qxb6615937a", sum := "53bd6ac5c17dca3cd5698be5627f7c2d95d9459c47a02d11dcb0387cec52fdf7", checked := Try.checked }
namespace Rows
def none {H : Type} : Left H := { results := [], args := [] }

/-- 'zzlaws_root_b1.FnContinuedErrorNamesStageAnywhere': WHATEVER THE INPUT: true; the input reads as it did. -/
def fnContinuedErrorNamesStageAnywhereSpec : ChangeSpec := { name := "fnContinuedErrorNamesStageAnywhere", fn := fun _ => fun
  | [d1, d2] => { results := [.lit (.bool true)], args := [d1, d2] }
  | _ => none }
def fnContinuedErrorNamesStageAnywhereRow : OpenClaim := { program := "qxb6615937a", sum := "53bd6ac5c17dca3cd5698be5627f7c2d95d9459c47a02d11dcb0387cec52fdf7", func := "example.com/iterwell/zzlaws_root_b1.FnContinuedErrorNamesStageAnywhere", spec := "fnContinuedErrorNamesStageAnywhere", apart := false }
def FnContinuedErrorNamesStageAnywhereSaid : Prop := fnContinuedErrorNamesStageAnywhereRow.holds Try.pinned (OpenSpec.ofChange fnContinuedErrorNamesStageAnywhereSpec)

/-- ITS FALSE NEIGHBOUR: 'it returns false'. Refute it at one input. -/
def fnContinuedErrorNamesStageAnywhereWrong : ChangeSpec := { name := "fnContinuedErrorNamesStageAnywhere", fn := fun _ => fun
  | [d1, d2] => { results := [.lit (.bool false)], args := [d1, d2] }
  | _ => none }
def FnContinuedErrorNamesStageAnywhereWrongFalsely : Prop := fnContinuedErrorNamesStageAnywhereRow.holds Try.pinned (OpenSpec.ofChange fnContinuedErrorNamesStageAnywhereWrong)

/-- 'zzlaws_root_b1.FnContinuedErrorTellsStagesApart': WHATEVER THE INPUT: true; the input reads as it did. -/
def fnContinuedErrorTellsStagesApartSpec : ChangeSpec := { name := "fnContinuedErrorTellsStagesApart", fn := fun _ => fun
  | [d1, d2] => { results := [.lit (.bool true)], args := [d1, d2] }
  | _ => none }
def fnContinuedErrorTellsStagesApartRow : OpenClaim := { program := "qxb6615937a", sum := "53bd6ac5c17dca3cd5698be5627f7c2d95d9459c47a02d11dcb0387cec52fdf7", func := "example.com/iterwell/zzlaws_root_b1.FnContinuedErrorTellsStagesApart", spec := "fnContinuedErrorTellsStagesApart", apart := false }
def FnContinuedErrorTellsStagesApartSaid : Prop := fnContinuedErrorTellsStagesApartRow.holds Try.pinned (OpenSpec.ofChange fnContinuedErrorTellsStagesApartSpec)

/-- ITS FALSE NEIGHBOUR: 'it returns false'. Refute it at one input. -/
def fnContinuedErrorTellsStagesApartWrong : ChangeSpec := { name := "fnContinuedErrorTellsStagesApart", fn := fun _ => fun
  | [d1, d2] => { results := [.lit (.bool false)], args := [d1, d2] }
  | _ => none }
def FnContinuedErrorTellsStagesApartWrongFalsely : Prop := fnContinuedErrorTellsStagesApartRow.holds Try.pinned (OpenSpec.ofChange fnContinuedErrorTellsStagesApartWrong)

end Rows
end Go.Proofs.Qxb6615937a
