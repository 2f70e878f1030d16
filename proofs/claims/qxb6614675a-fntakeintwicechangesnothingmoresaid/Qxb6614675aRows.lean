/-
  No cell of these rows narrows 'for every input' (looked for: loops, veiled, ifaces, maps, wideKeys, modest, calm, conditions, laid).
  DERIVED. THE GIVEN ROWS OF THIS SEAT. 3 by the template 'for every input the law returns true; each argument reads behind the call as it read before'; 0 by the template 'total and deterministic' (their statements: Qxb6614675aTotals.lean).
  GIVEN WITH THE SEED: the statements are not yours to turn. If you find one false, say at which input.
  Laid BY PROGRAM, IN A SANDBOX (cutbox-rows.mjs): the forced cells as the released guide's own fill.sh prints them over the translation f742c94db5fcf58d… (all of the seat's roots in one cut). By AI agents, Wed Nov 11 2026. No macro, syntax, notation, axiom, sorry.
-/
import Derived.Test.Qxb6614675aChecked
import GoSem.Claim
import GoSem.ClaimJoined
import GoSem.ClaimMapViews
import Derived.JoinedTies
import Derived.KernelRfl
namespace Go.Proofs.Qxb6614675a
/- THE CELL 'sum', in the pinned program and in every row, IS THE sha256 OF THE DUMP (.gsa) THAT Qxb6614675aProg.lean LOADS. Nothing in Lean hashes anything: it is a label: what it is worth is what the hold of that sum in a sandbox is worth. -/
noncomputable def Try.pinned : Pinned := { name := "qxb6614675a", sum := "f742c94db5fcf58d1c1f868a38a3b6f9d4cbc27dffc12641f332bbdb25b0e243", checked := Try.checked }
namespace Rows
def none {H : Type} : Left H := { results := [], args := [] }

/-- 'zzlaws_pattern_b1.FnCountAddsOverACut': WHATEVER THE INPUT: true; the input reads as it did. -/
def fnCountAddsOverACutSpec : ChangeSpec := { name := "fnCountAddsOverACut", fn := fun _ => fun
  | [d1, d2] => { results := [.lit (.bool true)], args := [d1, d2] }
  | _ => none }
def fnCountAddsOverACutRow : OpenClaim := { program := "qxb6614675a", sum := "f742c94db5fcf58d1c1f868a38a3b6f9d4cbc27dffc12641f332bbdb25b0e243", func := "example.com/redact-and-route/redact-and-route/zzlaws_pattern_b1.FnCountAddsOverACut", spec := "fnCountAddsOverACut", apart := false }
def FnCountAddsOverACutSaid : Prop := fnCountAddsOverACutRow.holds Try.pinned (OpenSpec.ofChange fnCountAddsOverACutSpec)

/-- ITS FALSE NEIGHBOUR: 'it returns false'. Refute it at one input. -/
def fnCountAddsOverACutWrong : ChangeSpec := { name := "fnCountAddsOverACut", fn := fun _ => fun
  | [d1, d2] => { results := [.lit (.bool false)], args := [d1, d2] }
  | _ => none }
def FnCountAddsOverACutWrongFalsely : Prop := fnCountAddsOverACutRow.holds Try.pinned (OpenSpec.ofChange fnCountAddsOverACutWrong)

/-- 'zzlaws_pattern_b1.FnTakeInMergesTrailingStart': WHATEVER THE INPUT: true; the input reads as it did. -/
def fnTakeInMergesTrailingStartSpec : ChangeSpec := { name := "fnTakeInMergesTrailingStart", fn := fun _ => fun
  | [d1, d2, d3, d4, d5, d6, d7, d8, d9, d10] => { results := [.lit (.bool true)], args := [d1, d2, d3, d4, d5, d6, d7, d8, d9, d10] }
  | _ => none }
def fnTakeInMergesTrailingStartRow : OpenClaim := { program := "qxb6614675a", sum := "f742c94db5fcf58d1c1f868a38a3b6f9d4cbc27dffc12641f332bbdb25b0e243", func := "example.com/redact-and-route/redact-and-route/zzlaws_pattern_b1.FnTakeInMergesTrailingStart", spec := "fnTakeInMergesTrailingStart", unfollowed := true, recurses := true, apart := false }
def FnTakeInMergesTrailingStartSaid : Prop := fnTakeInMergesTrailingStartRow.holds Try.pinned (OpenSpec.ofChange fnTakeInMergesTrailingStartSpec)

/-- ITS FALSE NEIGHBOUR: 'it returns false'. Refute it at one input. -/
def fnTakeInMergesTrailingStartWrong : ChangeSpec := { name := "fnTakeInMergesTrailingStart", fn := fun _ => fun
  | [d1, d2, d3, d4, d5, d6, d7, d8, d9, d10] => { results := [.lit (.bool false)], args := [d1, d2, d3, d4, d5, d6, d7, d8, d9, d10] }
  | _ => none }
def FnTakeInMergesTrailingStartWrongFalsely : Prop := fnTakeInMergesTrailingStartRow.holds Try.pinned (OpenSpec.ofChange fnTakeInMergesTrailingStartWrong)

/-- 'zzlaws_pattern_b1.FnTakeInTwiceChangesNothingMore': WHATEVER THE INPUT: true; the input reads as it did. -/
def fnTakeInTwiceChangesNothingMoreSpec : ChangeSpec := { name := "fnTakeInTwiceChangesNothingMore", fn := fun _ => fun
  | [d1, d2, d3, d4, d5, d6, d7, d8, d9, d10] => { results := [.lit (.bool true)], args := [d1, d2, d3, d4, d5, d6, d7, d8, d9, d10] }
  | _ => none }
def fnTakeInTwiceChangesNothingMoreRow : OpenClaim := { program := "qxb6614675a", sum := "f742c94db5fcf58d1c1f868a38a3b6f9d4cbc27dffc12641f332bbdb25b0e243", func := "example.com/redact-and-route/redact-and-route/zzlaws_pattern_b1.FnTakeInTwiceChangesNothingMore", spec := "fnTakeInTwiceChangesNothingMore", unfollowed := true, recurses := true, apart := false }
def FnTakeInTwiceChangesNothingMoreSaid : Prop := fnTakeInTwiceChangesNothingMoreRow.holds Try.pinned (OpenSpec.ofChange fnTakeInTwiceChangesNothingMoreSpec)

/-- ITS FALSE NEIGHBOUR: 'it returns false'. Refute it at one input. -/
def fnTakeInTwiceChangesNothingMoreWrong : ChangeSpec := { name := "fnTakeInTwiceChangesNothingMore", fn := fun _ => fun
  | [d1, d2, d3, d4, d5, d6, d7, d8, d9, d10] => { results := [.lit (.bool false)], args := [d1, d2, d3, d4, d5, d6, d7, d8, d9, d10] }
  | _ => none }
def FnTakeInTwiceChangesNothingMoreWrongFalsely : Prop := fnTakeInTwiceChangesNothingMoreRow.holds Try.pinned (OpenSpec.ofChange fnTakeInTwiceChangesNothingMoreWrong)

end Rows
end Go.Proofs.Qxb6614675a
