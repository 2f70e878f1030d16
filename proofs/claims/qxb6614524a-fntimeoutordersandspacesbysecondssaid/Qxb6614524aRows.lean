/-
  No cell of these rows narrows 'for every input' (looked for: loops, veiled, ifaces, maps, wideKeys, modest, calm, conditions, laid).
  DERIVED. THE GIVEN ROWS OF THIS SEAT. 2 by the template 'for every input the law returns true; each argument reads behind the call as it read before'; 0 by the template 'total and deterministic' (their statements: Qxb6614524aTotals.lean).
  GIVEN WITH THE SEED: the statements are not yours to turn. If you find one false, say at which input.
  Laid BY PROGRAM, IN A SANDBOX (cutbox-rows.mjs): the forced cells as the released guide's own fill.sh prints them over the translation d414853005e50c89… (all of the seat's roots in one cut). By AI agents, Wed Nov 11 2026. No macro, syntax, notation, axiom, sorry.
-/
import Derived.Test.Qxb6614524aChecked
import GoSem.Claim
import GoSem.ClaimJoined
import GoSem.ClaimMapViews
import Derived.JoinedTies
import Derived.KernelRfl
namespace Go.Proofs.Qxb6614524a
/- THE CELL 'sum', in the pinned program and in every row, IS THE sha256 OF THE DUMP (.gsa) THAT Qxb6614524aProg.lean LOADS. Nothing in Lean hashes anything: it is a label: what it is worth is what the hold of that sum in a sandbox is worth. -/
noncomputable def Try.pinned : Pinned := { name := "qxb6614524a", sum := "d414853005e50c89acb2387ed0ac09980a11756fceba1dd5f4c01699faf2e5ed", checked := Try.checked }
namespace Rows
def none {H : Type} : Left H := { results := [], args := [] }

/-- 'zzlaws_environment_b1.FnTimeoutAddsAndCountsSeconds': WHATEVER THE INPUT: true; the input reads as it did. -/
def fnTimeoutAddsAndCountsSecondsSpec : ChangeSpec := { name := "fnTimeoutAddsAndCountsSeconds", fn := fun _ => fun
  | [d1, d2] => { results := [.lit (.bool true)], args := [d1, d2] }
  | _ => none }
def fnTimeoutAddsAndCountsSecondsRow : OpenClaim := { program := "qxb6614524a", sum := "d414853005e50c89acb2387ed0ac09980a11756fceba1dd5f4c01699faf2e5ed", func := "example.com/alcove/alcove/zzlaws_environment_b1.FnTimeoutAddsAndCountsSeconds", spec := "fnTimeoutAddsAndCountsSeconds", plainKeys := false, apart := false }
def FnTimeoutAddsAndCountsSecondsSaid : Prop := fnTimeoutAddsAndCountsSecondsRow.holds Try.pinned (OpenSpec.ofChange fnTimeoutAddsAndCountsSecondsSpec)

/-- ITS FALSE NEIGHBOUR: 'it returns false'. Refute it at one input. -/
def fnTimeoutAddsAndCountsSecondsWrong : ChangeSpec := { name := "fnTimeoutAddsAndCountsSeconds", fn := fun _ => fun
  | [d1, d2] => { results := [.lit (.bool false)], args := [d1, d2] }
  | _ => none }
def FnTimeoutAddsAndCountsSecondsWrongFalsely : Prop := fnTimeoutAddsAndCountsSecondsRow.holds Try.pinned (OpenSpec.ofChange fnTimeoutAddsAndCountsSecondsWrong)

/-- 'zzlaws_environment_b1.FnTimeoutOrdersAndSpacesBySeconds': WHATEVER THE INPUT: true; the input reads as it did. -/
def fnTimeoutOrdersAndSpacesBySecondsSpec : ChangeSpec := { name := "fnTimeoutOrdersAndSpacesBySeconds", fn := fun _ => fun
  | [d1, d2] => { results := [.lit (.bool true)], args := [d1, d2] }
  | _ => none }
def fnTimeoutOrdersAndSpacesBySecondsRow : OpenClaim := { program := "qxb6614524a", sum := "d414853005e50c89acb2387ed0ac09980a11756fceba1dd5f4c01699faf2e5ed", func := "example.com/alcove/alcove/zzlaws_environment_b1.FnTimeoutOrdersAndSpacesBySeconds", spec := "fnTimeoutOrdersAndSpacesBySeconds", plainKeys := false, apart := false }
def FnTimeoutOrdersAndSpacesBySecondsSaid : Prop := fnTimeoutOrdersAndSpacesBySecondsRow.holds Try.pinned (OpenSpec.ofChange fnTimeoutOrdersAndSpacesBySecondsSpec)

/-- ITS FALSE NEIGHBOUR: 'it returns false'. Refute it at one input. -/
def fnTimeoutOrdersAndSpacesBySecondsWrong : ChangeSpec := { name := "fnTimeoutOrdersAndSpacesBySeconds", fn := fun _ => fun
  | [d1, d2] => { results := [.lit (.bool false)], args := [d1, d2] }
  | _ => none }
def FnTimeoutOrdersAndSpacesBySecondsWrongFalsely : Prop := fnTimeoutOrdersAndSpacesBySecondsRow.holds Try.pinned (OpenSpec.ofChange fnTimeoutOrdersAndSpacesBySecondsWrong)

end Rows
end Go.Proofs.Qxb6614524a
