/- The contract that both laws of seat b6614524a share: zzTimeoutNs answers the seconds times 1000000000 and lays at most new memory. -/
import Derived.Test.Qxb6614524aRows
import Derived.WalkKit
import Derived.ProofKit
namespace Go.Proofs.Qxb6614524a
open Go.RowKit
theorem ns (s : Int) (h1 : -9223372036 ≤ s) (h2 : s ≤ 9223372036) (w : World) :
    Calls Try.prog 5 #[.int .i64 s] w fun e w' => e = .returned (.int .i64 (s * 1000000000)) ∧ Grown w w' := by
  go_enter Try.func5, Try.ntmps5
  go_wp2
  go_ret
  exact ⟨rfl, by repeat (first | exact Grown.refl _ | apply Grown.drew | apply Grown.alloc)⟩
end Go.Proofs.Qxb6614524a
