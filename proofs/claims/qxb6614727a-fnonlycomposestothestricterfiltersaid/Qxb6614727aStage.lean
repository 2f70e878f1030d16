/- What both laws of seat b6614727a share: parts of a body, making a list in any later world, == on Counts. -/
import Derived.Test.Qxb6614727aOnly
import Derived.Laws.StructEq
import Derived.WalkSpells
namespace Go.Proofs.Qxb6614727a
open Go.RowKit
set_option linter.unusedVariables false

/-- What is left of a body behind its first k statements; and the first statement. -/
def tailAt : Nat → Code → Code
  | 0, c => c
  | k + 1, .seq _ b => tailAt k b
  | _ + 1, c => c
def headOf : Code → Code
  | .seq a _ => a
  | c => c

theorem eqCounts (w : World) (z0 z1 z2 z3 : Int) :
    (binOp .eql 25 (.agg #[.int .i64 z0, .int .i64 z1, .int .i64 z2, .int .i64 z3]) (.agg #[.int .i64 z0, .int .i64 z1, .int .i64 z2, .int .i64 z3])).run Try.prog w = .ok (.bool true) w := by
  have u3 := Try.underlying3
  have a3 := Try.isAgg3
  have z3' := Try.sizeOf3
  have hS : Try.prog.underlying 25 = some (.struct (Try.prog.fieldsOf 25)) := by kernel_rfl
  have hp : Try.prog.stoodInHeld 25 = false := by kernel_rfl
  rw [run_eql_struct, show (10000 : Nat) = 9999 + 1 from rfl, run_equalIn_struct w 9999 25 _ _ hS hp]
  simp only [Program.fieldsOf, Try.underlying25]
  go_simp

/-- zzOnlyMkTxns, in whatever later world. -/
theorem mkAt {w W : World} (hW : Below w.heap.size w W) (a : Option Addr) (n c : Nat) (f : Nat → Int) (hn : n ≤ 65536) (r : Rd w.heap.size w a n f) (pa : a = none → n = 0 ∧ c = 0) :
    Calls Try.prog 6 #[.slice a n c] W fun e w' => ∃ a' c', e = .returned (.slice a' n c') ∧ (∃ ts, Lst w' a' n ts ∧ ts.map Prod.snd = (List.range n).map f) ∧ Below W.heap.size W w' ∧ Below w.heap.size w w' := by
  cases a with
  | none =>
    obtain ⟨rfl, rfl⟩ := pa rfl
    refine (mkNil W).mono ?_
    rintro e w' ⟨rfl, rfl⟩
    exact ⟨none, 0, rfl, ⟨[], ⟨rfl, hn, fun h => absurd h (by simp), fun t ht => absurd ht (by simp), Or.inl ⟨rfl, rfl⟩⟩, rfl⟩, Below.refl _ _, hW⟩
  | some x =>
    refine (mkSome x n c f W hn ((r.below hW).mono hW.size)).mono ?_
    rintro e w' ⟨rfl, hM⟩
    obtain ⟨h1, h2⟩ := hM.done
    exact ⟨_, _, rfl, ⟨_, ⟨made_len _ _ _, hn, h1, h2, Or.inr ⟨_, _, rfl⟩⟩, made_snd _ _ _⟩, hM.below, hW.trans (hM.below.mono hW.size)⟩

/-- Two filters are one. -/
theorem kept_kept (k j m : Int) (hm : ∀ l : Int, m ≤ l ↔ j ≤ l ∧ k ≤ l) (ts : List (Nat × Int)) :
    keptAll (fun l => decide (j ≤ l)) (keptAll (fun l => decide (k ≤ l)) ts) = keptAll (fun l => decide (m ≤ l)) ts := by
  unfold keptAll
  rw [List.filter_filter]
  congr 1
  funext t
  by_cases h : m ≤ t.2
  · obtain ⟨h1, h2⟩ := (hm t.2).1 h
    simp [h, h1, h2]
  · have h' : ¬ (j ≤ t.2 ∧ k ≤ t.2) := fun c => h ((hm t.2).2 c)
    by_cases h1 : j ≤ t.2
    · have h2 : ¬ k ≤ t.2 := fun c => h' ⟨h1, c⟩
      simp [h, h1, h2]
    · simp [h, h1]
end Go.Proofs.Qxb6614727a
