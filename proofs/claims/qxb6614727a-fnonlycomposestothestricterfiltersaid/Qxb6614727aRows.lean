/-
  No cell of these rows narrows 'for every input' (looked for: loops, veiled, ifaces, maps, wideKeys, modest, calm, conditions, laid).
  DERIVED. THE GIVEN ROWS OF THIS SEAT. 2 by the template 'for every input the law returns true; each argument reads behind the call as it read before'; 0 by the template 'total and deterministic' (their statements: Qxb6614727aTotals.lean).
  GIVEN WITH THE SEED: the statements are not yours to turn. If you find one false, say at which input.
  Laid BY PROGRAM, IN A SANDBOX (cutbox-rows.mjs): the forced cells as the released guide's own fill.sh prints them over the translation ed404e01abad78ad… (all of the seat's roots in one cut). By AI agents, Wed Nov 11 2026. No macro, syntax, notation, axiom, sorry.
-/
import Derived.Test.Qxb6614727aChecked
import GoSem.Claim
import GoSem.ClaimJoined
import GoSem.ClaimMapViews
import Derived.JoinedTies
import Derived.KernelRfl
namespace Go.Proofs.Qxb6614727a
/- THE CELL 'sum', in the pinned program and in every row, IS THE sha256 OF THE DUMP (.gsa) THAT Qxb6614727aProg.lean LOADS. Nothing in Lean hashes anything: it is a label: what it is worth is what the hold of that sum in a sandbox is worth. -/
noncomputable def Try.pinned : Pinned := { name := "qxb6614727a", sum := "ed404e01abad78ad42c9133e755ccfcc444ee80a0b91fc20c46cd93cffc71de2", checked := Try.checked }
namespace Rows
def none {H : Type} : Left H := { results := [], args := [] }

/-- 'zzlaws_internal_replay_b1.FnOnlySplitsIntoPredicateAndNegation': WHATEVER THE INPUT: true; the input reads as it did. -/
def fnOnlySplitsIntoPredicateAndNegationSpec : ChangeSpec := { name := "fnOnlySplitsIntoPredicateAndNegation", fn := fun _ => fun
  | [d1, d2, d3, d4, d5, d6, d7, d8] => { results := [.lit (.bool true)], args := [d1, d2, d3, d4, d5, d6, d7, d8] }
  | _ => none }
def fnOnlySplitsIntoPredicateAndNegationRow : OpenClaim := { program := "qxb6614727a", sum := "ed404e01abad78ad42c9133e755ccfcc444ee80a0b91fc20c46cd93cffc71de2", func := "example.com/stratalock/stratalock/zzlaws_internal_replay_b1.FnOnlySplitsIntoPredicateAndNegation", spec := "fnOnlySplitsIntoPredicateAndNegation", unfollowed := true, recurses := true, apart := false }
def FnOnlySplitsIntoPredicateAndNegationSaid : Prop := fnOnlySplitsIntoPredicateAndNegationRow.holds Try.pinned (OpenSpec.ofChange fnOnlySplitsIntoPredicateAndNegationSpec)

/-- ITS FALSE NEIGHBOUR: 'it returns false'. Refute it at one input. -/
def fnOnlySplitsIntoPredicateAndNegationWrong : ChangeSpec := { name := "fnOnlySplitsIntoPredicateAndNegation", fn := fun _ => fun
  | [d1, d2, d3, d4, d5, d6, d7, d8] => { results := [.lit (.bool false)], args := [d1, d2, d3, d4, d5, d6, d7, d8] }
  | _ => none }
def FnOnlySplitsIntoPredicateAndNegationWrongFalsely : Prop := fnOnlySplitsIntoPredicateAndNegationRow.holds Try.pinned (OpenSpec.ofChange fnOnlySplitsIntoPredicateAndNegationWrong)

/-- 'zzlaws_internal_replay_b1.FnOnlyComposesToTheStricterFilter': WHATEVER THE INPUT: true; the input reads as it did. -/
def fnOnlyComposesToTheStricterFilterSpec : ChangeSpec := { name := "fnOnlyComposesToTheStricterFilter", fn := fun _ => fun
  | [d1, d2, d3, d4, d5, d6, d7, d8, d9] => { results := [.lit (.bool true)], args := [d1, d2, d3, d4, d5, d6, d7, d8, d9] }
  | _ => none }
def fnOnlyComposesToTheStricterFilterRow : OpenClaim := { program := "qxb6614727a", sum := "ed404e01abad78ad42c9133e755ccfcc444ee80a0b91fc20c46cd93cffc71de2", func := "example.com/stratalock/stratalock/zzlaws_internal_replay_b1.FnOnlyComposesToTheStricterFilter", spec := "fnOnlyComposesToTheStricterFilter", unfollowed := true, recurses := true, apart := false }
def FnOnlyComposesToTheStricterFilterSaid : Prop := fnOnlyComposesToTheStricterFilterRow.holds Try.pinned (OpenSpec.ofChange fnOnlyComposesToTheStricterFilterSpec)

/-- ITS FALSE NEIGHBOUR: 'it returns false'. Refute it at one input. -/
def fnOnlyComposesToTheStricterFilterWrong : ChangeSpec := { name := "fnOnlyComposesToTheStricterFilter", fn := fun _ => fun
  | [d1, d2, d3, d4, d5, d6, d7, d8, d9] => { results := [.lit (.bool false)], args := [d1, d2, d3, d4, d5, d6, d7, d8, d9] }
  | _ => none }
def FnOnlyComposesToTheStricterFilterWrongFalsely : Prop := fnOnlyComposesToTheStricterFilterRow.holds Try.pinned (OpenSpec.ofChange fnOnlyComposesToTheStricterFilterWrong)

end Rows
end Go.Proofs.Qxb6614727a
