/- That a region may be walked in the order of its text, shown a statement at a time (in one piece it costs the kernel gigabytes). -/
import Derived.Test.Qxb6614727aStage
namespace Go.Proofs.Qxb6614727a
open Go.RowKit
set_option linter.unusedVariables false

def opsOf : Code → Array Oper
  | .region _ ops _ => ops
  | _ => #[]

/-- The first k of n are done. -/
def doneTo (n k : Nat) : Array Bool := ((List.range n).map fun i => decide (i < k)).toArray
theorem doneTo_size (n k : Nat) : (doneTo n k).size = n := by simp [doneTo]
theorem doneTo_at {n k i : Nat} (h : i < n) : (doneTo n k)[i]? = some (decide (i < k)) := by simp [doneTo, h]
theorem doneTo_succ {n k : Nat} (h : k < n) : (doneTo n k).setIfInBounds k true = doneTo n (k + 1) := by
  apply Array.ext_getElem?
  intro i
  by_cases hi : i < n
  · rw [doneTo_at hi, Array.getElem?_setIfInBounds]
    by_cases e : k = i
    · subst e
      rw [if_pos rfl, if_pos (by rw [doneTo_size]; exact h)]
      simp
    · rw [if_neg e, doneTo_at hi]
      congr 1
      apply decide_eq_decide.2
      omega
  · rw [Array.getElem?_eq_none (by rw [Array.size_setIfInBounds, doneTo_size]; omega), Array.getElem?_eq_none (by rw [doneTo_size]; omega)]
theorem doneTo_zero (n : Nat) : doneTo n 0 = Array.replicate n false := by
  apply Array.ext_getElem?
  intro i
  by_cases hi : i < n
  · rw [doneTo_at hi, Array.getElem?_replicate, if_pos hi]; simp
  · rw [Array.getElem?_eq_none (by rw [doneTo_size]; omega), Array.getElem?_eq_none (by simp; omega)]

/-- Operation k may come next, and is free of those behind it. -/
def readyAt (ops : Array Oper) (k : Nat) : Bool := ((ops[k]?).map (·.after.all fun e => !Region.binds .any e || decide (e.on < k))).getD false
def lexStep (ops : Array Oper) (k : Nat) : Bool := readyAt ops k && Region.free .any ops (doneTo ops.size k) k

theorem ready_of {ops : Array Oper} {k : Nat} (hk : k < ops.size) (h : readyAt ops k = true) : (Region.ready .any ops (doneTo ops.size k)).contains k = true := by
  have e : ∀ i, (doneTo ops.size k).getD i true = true ∨ i < ops.size := fun i => by
    by_cases hi : i < ops.size
    · exact Or.inr hi
    · left; rw [Array.getD_eq_getD_getElem?, Array.getElem?_eq_none (by rw [doneTo_size]; omega)]; rfl
  have hg : ∀ i, i < k → (doneTo ops.size k).getD i false = true := fun i hi => by
    rw [Array.getD_eq_getD_getElem?, doneTo_at (by omega)]; simp [hi]
  have hk' : (doneTo ops.size k).getD k true = false := by
    rw [Array.getD_eq_getD_getElem?, doneTo_at hk]; simp
  unfold Region.ready
  rw [List.contains_iff_mem, List.mem_filter]
  refine ⟨List.mem_range.2 hk, ?_⟩
  rw [hk']
  unfold readyAt at h
  cases ho : ops[k]? with
  | none => rw [ho] at h; exact absurd h (by simp)
  | some o =>
    rw [ho] at h
    simp only [Option.map_some, Option.getD_some] at h ⊢
    simp only [Bool.not_false, Bool.true_and]
    rw [Array.all_eq_true_iff_forall_mem] at h ⊢
    intro x hx
    have hx' := h x hx
    simp only [Bool.or_eq_true, decide_eq_true_eq] at hx' ⊢
    rcases hx' with h1 | h1
    · exact Or.inl h1
    · exact Or.inr (hg _ h1)

theorem lexFrom_of (ops : Array Oper) (h : ∀ k, k < ops.size → lexStep ops k = true) : ∀ (fuel k : Nat), k + fuel = ops.size → Region.lexFrom .any ops fuel k (doneTo ops.size k) = true
  | 0, k, hk => by
    have hk' : k = ops.size := by omega
    subst hk'
    unfold Region.lexFrom Region.ready
    rw [List.isEmpty_iff, List.filter_eq_nil_iff]
    intro i hi
    have hi' := List.mem_range.1 hi
    rw [Array.getD_eq_getD_getElem?, doneTo_at hi']
    simp [hi']
  | fuel + 1, k, hk => by
    have hlt : k < ops.size := by omega
    have hs := h k hlt
    unfold lexStep at hs
    rw [Bool.and_eq_true] at hs
    unfold Region.lexFrom
    rw [ready_of hlt hs.1, hs.2, doneTo_succ hlt, lexFrom_of ops h fuel (k + 1) (by omega)]
    rfl

theorem lex_of (ops : Array Oper) (hs : Region.noSelect ops = true) (h : ∀ k, k < ops.size → lexStep ops k = true) : Region.lexB .any ops = true := by
  unfold Region.lexB
  rw [hs, ← doneTo_zero, lexFrom_of ops h ops.size 0 (by omega)]
  rfl

theorem of_all {p : Nat → Bool} {a n : Nat} (h : (List.range' a n).all p = true) (k : Nat) (h1 : a ≤ k) (h2 : k < a + n) : p k = true :=
  List.all_eq_true.1 h k (List.mem_range'_1.2 ⟨h1, h2⟩)
end Go.Proofs.Qxb6614727a
