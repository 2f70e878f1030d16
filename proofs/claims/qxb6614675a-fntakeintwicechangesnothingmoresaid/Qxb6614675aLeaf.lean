/- Contracts of the leaves of seat b6614675a: ZZlane0Len, ZZlane0, take, union, takeInMerged; and the words for what becomes of the world. -/
import Derived.Test.Qxb6614675aRows
import Derived.WalkKit
import Derived.ProofKit
import Derived.WalkLawsBesides
import Derived.Below
import Derived.BigQuiet
namespace Go.Proofs.Qxb6614675a
open Go.RowKit
set_option linter.unusedVariables false

theorem below_drewN {B : Nat} {a w : World} (h : Below B a w) (n : Nat) : Below B a (w.drewN n) := ⟨h.os, h.tape, h.output, h.size, h.block⟩

/-- w' is w, but that cell p holds v. -/
structure Puts (p : Addr) (v : Value) (w w' : World) : Prop where
  os : w'.os = w.os
  tape : w'.tape = w.tape
  output : w'.output = w.output
  size : w'.heap.size = w.heap.size
  here : w'.cell? p = some v
  cell : ∀ q, p ≠ q → w'.cell? q = w.cell? q
  frozen : ∀ q, w'.frozen? q = w.frozen? q
  block : ∀ k, k ≠ p.block → w'.heap[k]? = w.heap[k]?

theorem Puts.keep {p : Addr} {v : Value} {w : World} (h : w.cell? p = some v) (n : Nat) : Puts p v w (w.drewN n) :=
  ⟨rfl, rfl, rfl, rfl, h, fun _ _ => rfl, fun _ => rfl, fun _ _ => rfl⟩

theorem Puts.set {p : Addr} {u : Value} (v : Value) {w : World} (h : w.cell? p = some u) (n : Nat) : Puts p v w ((w.drewN n).setCell p v) :=
  ⟨rfl, rfl, rfl, by simp, World.cell?_setCell_same _ _ _ (show (w.drewN n).cell? p = some u from h), fun q hq => World.cell?_setCell_other (w.drewN n) _ _ _ hq,
    fun q => World.frozen?_setCell (w.drewN n) _ _ _, fun k hk => Below.heap_setCell (w.drewN n) _ _ _ hk⟩

theorem Puts.below {p : Addr} {v : Value} {w w' : World} (h : Puts p v w w') {B : Nat} (hB : B ≤ p.block) : Below B w w' :=
  ⟨h.os, h.tape, h.output, by rw [h.size]; exact Nat.le_refl _, fun k hk => h.block k (by omega)⟩

theorem lane0Len (lp nb lb n : Nat) (w : World) (h1 : w.cell? ⟨lp, 1, none⟩ = some (.slice (some ⟨nb, 0, none⟩) 1 1)) (h2 : w.cell? ⟨nb, 0, none⟩ = some (.slice (some ⟨lb, 0, none⟩) n n)) :
    Calls Try.prog 16 #[.pointer (some ⟨lp, 0, none⟩)] w fun e w' => e = .returned (.int .i64 n) ∧ w = w' := by
  go_enter Try.func16, Try.ntmps16
  go_wp2
  go_ret
  exact ⟨rfl, rfl⟩

theorem lane0 (lp nb lb n k : Nat) (p s t : Int) (w : World) (h1 : w.cell? ⟨lp, 1, none⟩ = some (.slice (some ⟨nb, 0, none⟩) 1 1)) (h2 : w.cell? ⟨nb, 0, none⟩ = some (.slice (some ⟨lb, 0, none⟩) n n)) (hk : k < n) (hn : n ≤ 65536)
    (c0 : w.cell? ⟨lb, k * 3, none⟩ = some (.int .i64 p)) (c1 : w.cell? ⟨lb, k * 3 + 1, none⟩ = some (.int .i64 s)) (c2 : w.cell? ⟨lb, k * 3 + 2, none⟩ = some (.int .i32 t)) :
    Calls Try.prog 17 #[.pointer (some ⟨lp, 0, none⟩), .int .i64 k] w fun e w' => e = .returned (.tuple #[.int .i64 p, .int .i64 s, .int .i32 t]) ∧ Below w.heap.size w w' := by
  go_enter Try.func17, Try.ntmps17
  go_wp2
  go_quiet (fail)
  go_wp2
  go_ret3
  exact ⟨rfl, below_drewN ((Below.refl _ _).alloc (Nat.le_refl _) _) _⟩

theorem take (lp dp sb m : Nat) (id gen s x : Int) (w : World) (h3 : w.cell? ⟨lp, 3, none⟩ = some (.int .i64 id)) (h4 : w.cell? ⟨lp, 4, none⟩ = some (.int .u64 gen))
    (h5 : w.cell? ⟨dp, 26, none⟩ = some (.slice (some ⟨sb, 0, none⟩) m m)) (i0 : 0 ≤ id) (i1 : id ≤ 1) (s0 : 0 ≤ s) (s1 : s ≤ 65536) (hm : 2 * s + id < m) (hm2 : m ≤ 65536) (hx : w.cell? ⟨sb, (2 * s + id).toNat, none⟩ = some (.int .u64 x)) (hf : w.frozen? ⟨sb, (2 * s + id).toNat, none⟩ = false) :
    Calls Try.prog 22 #[.pointer (some ⟨dp, 0, none⟩), .pointer (some ⟨lp, 0, none⟩), .int .i32 s] w fun e w' => (∃ b, e = .returned (.bool b)) ∧ Puts ⟨sb, (2 * s + id).toNat, none⟩ (.int .u64 gen) w w' := by
  by_cases hg : x = gen
  · subst hg
    go_enter Try.func22, Try.ntmps22
    go_wp2
    go_quiet (fail)
    go_wp2
    go_quiet (fail)
    go_wp2
    go_ret
    exact ⟨⟨_, rfl⟩, by rw [World.drewN_drewN]; exact Puts.keep hx _⟩
  · have hg' : (x == gen) = false := beq_eq_false_iff_ne.2 hg
    clear hg
    go_enter Try.func22, Try.ntmps22
    go_wp2
    go_quiet (fail)
    go_wp2
    go_quiet (fail)
    go_wp2
    go_ret
    exact ⟨⟨_, rfl⟩, Puts.set _ hx _⟩

/-- What takeInMerged and union answer where they answer without a state of their own. -/
def mrg (s t : Int) : Int := if s = t ∨ s = 0 then t else s
/-- .. and where they do. -/
def Mergeable (s t : Int) : Prop := s = t ∨ s = 0 ∨ t = 0

theorem union (d : Value) (s t : Int) (w : World) (h : Mergeable s t) :
    Calls Try.prog 21 #[d, .int .i32 s, .int .i32 t] w fun e w' => e = .returned (.int .i32 (mrg s t)) ∧ w = w' := by
  by_cases h1 : s = 0
  · subst h1
    have e : mrg 0 t = t := by simp [mrg]
    rw [e]
    go_enter Try.func21, Try.ntmps21
    go_wp2
    go_ret
    exact ⟨rfl, rfl⟩
  · have h1' : (s == 0) = false := beq_eq_false_iff_ne.2 h1
    by_cases h2 : s = t
    · subst h2
      have e : mrg s s = s := by simp [mrg]
      rw [e]
      clear h1 h
      go_enter Try.func21, Try.ntmps21
      go_wp2
      go_ret
      exact ⟨rfl, rfl⟩
    · have h3 : t = 0 := by rcases h with h | h | h <;> first | exact absurd h (by assumption) | exact h
      subst h3
      have e : mrg s 0 = s := by simp [mrg, h1]
      rw [e]
      clear h1 h2 h
      go_enter Try.func21, Try.ntmps21
      go_wp2
      go_ret
      exact ⟨rfl, rfl⟩

theorem merged_yes (s t : Int) (w : World) (h : Mergeable s t) :
    Calls Try.prog 12 #[.int .i32 s, .int .i32 t, .int .i32 0] w fun e w' => e = .returned (.tuple #[.int .i32 (mrg s t), .bool true]) ∧ w = w' := by
  by_cases h2 : s = t
  · subst h2
    have e : mrg s s = s := by simp [mrg]
    rw [e]
    clear h
    go_enter Try.func12, Try.ntmps12
    go_wp2
    go_ret2
    exact ⟨rfl, rfl⟩
  · have h2' : (s == t) = false := beq_eq_false_iff_ne.2 h2
    by_cases h1 : s = 0
    · subst h1
      have e : mrg 0 t = t := by simp [mrg]
      rw [e]
      clear h h2
      go_enter Try.func12, Try.ntmps12
      go_wp2
      go_ret2
      exact ⟨rfl, rfl⟩
    · have h1' : (s == 0) = false := beq_eq_false_iff_ne.2 h1
      have h3 : t = 0 := by rcases h with h | h | h <;> first | exact absurd h (by assumption) | exact h
      subst h3
      have e : mrg s 0 = s := by simp [mrg, h1]
      rw [e]
      clear h1 h2 h
      go_enter Try.func12, Try.ntmps12
      go_wp2
      go_ret2
      exact ⟨rfl, rfl⟩

theorem merged_no (s t : Int) (w : World) (h : ¬ Mergeable s t) :
    Calls Try.prog 12 #[.int .i32 s, .int .i32 t, .int .i32 0] w fun e w' => e = .returned (.tuple #[.int .i32 0, .bool false]) ∧ w = w' := by
  have h1 : (s == t) = false := beq_eq_false_iff_ne.2 fun c => h (Or.inl c)
  have h2 : (s == 0) = false := beq_eq_false_iff_ne.2 fun c => h (Or.inr (Or.inl c))
  have h3 : (t == 0) = false := beq_eq_false_iff_ne.2 fun c => h (Or.inr (Or.inr c))
  clear h
  go_enter Try.func12, Try.ntmps12
  go_wp2
  go_ret2
  exact ⟨rfl, rfl⟩
end Go.Proofs.Qxb6614675a
