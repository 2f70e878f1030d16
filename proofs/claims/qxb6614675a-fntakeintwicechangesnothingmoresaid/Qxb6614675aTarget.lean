/- The contract of takeInTarget of seat b6614675a. -/
import Derived.Test.Qxb6614675aLeaf
namespace Go.Proofs.Qxb6614675a
open Go.RowKit
set_option linter.unusedVariables false

/-- The slice that begins at a reads as f on its first n places; its block lies below B. -/
def Rd (kd : IntKind) (B : Nat) (w : World) (a : Option Addr) (n : Nat) (f : Nat → Int) : Prop :=
  0 < n → ∃ b o, a = some ⟨b, o, none⟩ ∧ b < B ∧ ∀ i, i < n → w.cell? ⟨b, o + i, none⟩ = some (.int kd (f i))

theorem Rd.below {kd : IntKind} {B : Nat} {w w' : World} {a : Option Addr} {n : Nat} {f : Nat → Int} (h : Rd kd B w a n f) (hb : Below B w w') : Rd kd B w' a n f := by
  intro hn
  obtain ⟨b, o, e, hB, hc⟩ := h hn
  exact ⟨b, o, e, hB, fun i hi => (hb.cell hB).trans (hc i hi)⟩

theorem Rd.mono {kd : IntKind} {B B' : Nat} {w : World} {a : Option Addr} {n : Nat} {f : Nat → Int} (h : Rd kd B w a n f) (hB : B ≤ B') : Rd kd B' w a n f := by
  intro hn
  obtain ⟨b, o, e, hB1, hc⟩ := h hn
  exact ⟨b, o, e, by omega, hc⟩

def Miss (P S : Nat → Int) (n : Nat) (tp ts : Int) : Prop := ∀ i, i < n → (∀ j, i ≤ j → j < n → S j = ts) → P i ≠ tp
def Hit (P S : Nat → Int) (n : Nat) (tp ts : Int) (i : Nat) : Prop := i < n ∧ P i = tp ∧ (∀ j, i < j → j < n → P j ≠ tp) ∧ (∀ j, i ≤ j → j < n → S j = ts)
def IsT (P S : Nat → Int) (n : Nat) (tp ts k : Int) : Prop := (k = -1 ∧ Miss P S n tp ts) ∨ ∃ i : Nat, k = i ∧ Hit P S n tp ts i

/-- the first loop, behind k places -/
def One (S : Nat → Int) (ts : Int) (k j : Nat) : Prop := j ≤ k ∧ (∀ q, j ≤ q → q < k → S q = ts) ∧ (j = 0 ∨ S (j - 1) ≠ ts)
/-- the second loop, from j on, behind p places -/
def Two (P : Nat → Int) (tp : Int) (j p : Nat) (k : Int) : Prop := (k = -1 ∧ ∀ q, j ≤ q → q < p → P q ≠ tp) ∨ ∃ r : Nat, k = r ∧ j ≤ r ∧ r < p ∧ P r = tp ∧ ∀ q, r < q → q < p → P q ≠ tp

theorem One.zero (S : Nat → Int) (ts : Int) : One S ts 0 0 := ⟨Nat.le_refl _, fun _ _ h => absurd h (Nat.not_lt_zero _), Or.inl rfl⟩
theorem One.yes {S : Nat → Int} {ts : Int} {k j : Nat} (h : One S ts k j) (e : S k = ts) : One S ts (k + 1) j :=
  ⟨Nat.le_succ_of_le h.1, fun q h1 h2 => by
    by_cases hq : q = k
    · rw [hq]; exact e
    · exact h.2.1 q h1 (by omega), h.2.2⟩
theorem One.no {S : Nat → Int} {ts : Int} {k : Nat} (e : S k ≠ ts) : One S ts (k + 1) (k + 1) :=
  ⟨Nat.le_refl _, fun q h1 h2 => by omega, Or.inr e⟩
theorem Two.zero (P : Nat → Int) (tp : Int) (j : Nat) : Two P tp j j (-1) := Or.inl ⟨rfl, fun q h1 h2 => by omega⟩
theorem Two.yes {P : Nat → Int} {tp : Int} {j p : Nat} (hj : j ≤ p) (e : P p = tp) : Two P tp j (p + 1) p := Or.inr ⟨p, rfl, hj, Nat.lt_succ_self _, e, fun q h1 h2 => by omega⟩
theorem Two.no {P : Nat → Int} {tp : Int} {j p : Nat} {k : Int} (h : Two P tp j p k) (e : P p ≠ tp) : Two P tp j (p + 1) k := by
  rcases h with ⟨h1, h2⟩ | ⟨r, h1, h2, h3, h4, h5⟩
  · exact Or.inl ⟨h1, fun q a b => by
      by_cases hq : q = p
      · rw [hq]; exact e
      · exact h2 q a (by omega)⟩
  · exact Or.inr ⟨r, h1, h2, by omega, h4, fun q a b => by
      by_cases hq : q = p
      · rw [hq]; exact e
      · exact h5 q a (by omega)⟩
theorem target_of {P S : Nat → Int} {tp ts k : Int} {n j : Nat} (h1 : One S ts n j) (h2 : Two P tp j n k) : IsT P S n tp ts k := by
  rcases h2 with ⟨e, h⟩ | ⟨r, e, a, b, c, d⟩
  · refine Or.inl ⟨e, fun i hi hall => h i ?_ hi⟩
    rcases h1.2.2 with z | z
    · omega
    · by_cases hij : j ≤ i
      · exact hij
      · exact absurd (hall (j - 1) (by omega) (by have := h1.1; omega)) z
  · exact Or.inr ⟨r, e, b, c, d, fun q x y => h1.2.1 q (by omega) y⟩
theorem target_none (P S : Nat → Int) (tp ts : Int) : IsT P S 0 tp ts (-1) := Or.inl ⟨rfl, fun i hi => absurd hi (Nat.not_lt_zero _)⟩

theorem ret_int {k : IntKind} {a b : Int} (h : a = b) : Ending.returned (.int k a) = .returned (.int k b) := by rw [h]

theorem target (a0 a1 : Option Addr) (c0 c1 n B : Nat) (P S : Nat → Int) (tp ts : Int) (w : World) (hn : n ≤ 65536) (r0 : Rd .i64 B w a0 n P) (r1 : Rd .i64 B w a1 n S) :
    Calls Try.prog 11 #[.slice a0 n c0, .slice a1 n c1, .int .i64 tp, .int .i64 ts] w fun e w' => (∃ k, e = .returned (.int .i64 k) ∧ IsT P S n tp ts k) ∧ w = w' := by
  by_cases h0 : n = 0
  · subst h0
    clear r0 r1
    go_enter Try.func11, Try.ntmps11
    go_wp2
    go_loop [9, 10] (fun j i => i = .int .i64 0 ∧ j = .int .i64 0) (fun _ _ => 0)
    case atStart => exact ⟨rfl, rfl⟩
    case round =>
      obtain ⟨rfl, rfl⟩ := hrel
      go_wp2
      go_loop [11, 12] (fun k i => i = .int .i64 0 ∧ k = .int .i64 (-1)) (fun _ _ => 0)
      case atStart => exact ⟨rfl, rfl⟩
      case round =>
        obtain ⟨rfl, rfl⟩ := hrel
        go_wp2
        go_ret
        exact ⟨⟨-1, rfl, target_none P S tp ts⟩, rfl⟩
  · obtain ⟨b0, o0, rfl, _, hc0⟩ := r0 (by omega)
    obtain ⟨b1, o1, rfl, _, hc1⟩ := r1 (by omega)
    have HC0 : Hid (∀ i, i < n → w.cell? ⟨b0, o0 + i, none⟩ = some (.int .i64 (P i))) := hc0
    have HC1 : Hid (∀ i, i < n → w.cell? ⟨b1, o1 + i, none⟩ = some (.int .i64 (S i))) := hc1
    clear hc0 hc1 r0 r1
    go_enter Try.func11, Try.ntmps11
    go_wp2
    go_loop [9, 10] (fun j i => ∃ k jj : Nat, k ≤ n ∧ i = .int .i64 k ∧ j = .int .i64 jj ∧ One S ts k jj) (fun _ i => n - (intOf i).toNat)
    case atStart => exact ⟨0, 0, Nat.zero_le _, rfl, rfl, One.zero S ts⟩
    case round =>
      obtain ⟨k, jj, hk, rfl, rfl, hone⟩ := hrel
      by_cases hlt : k < n
      · have hc := HC1.out k hlt
        by_cases hs : S k = ts
        · have hs' : (S k == ts) = true := beq_iff_eq.2 hs
          have hnext := hone.yes hs
          clear hs
          go_wp2
          go_round
          case rel => exact ⟨k + 1, jj, by omega, by go_num, rfl, hnext⟩
          case measure => simp [intOf]; omega
        · have hs' : (S k == ts) = false := beq_eq_false_iff_ne.2 hs
          have hnext := One.no hs
          clear hs
          go_wp2
          go_round
          case rel => exact ⟨k + 1, k + 1, by omega, by go_num, by go_num, hnext⟩
          case measure => simp [intOf]; omega
      · obtain rfl : k = n := by omega
        have hjn := hone.1
        go_wp2
        go_loop [11, 12] (fun kk i => ∃ (p : Nat) (z : Int), jj ≤ p ∧ p ≤ k ∧ i = .int .i64 p ∧ kk = .int .i64 z ∧ Two P tp jj p z) (fun _ i => k - (intOf i).toNat)
        case atStart => exact ⟨jj, -1, Nat.le_refl _, hjn, rfl, rfl, Two.zero P tp jj⟩
        case round =>
          obtain ⟨p, z, hjp, hp, rfl, rfl, htwo⟩ := hrel
          by_cases hlt2 : p < k
          · have hc := HC0.out p hlt2
            by_cases hs : P p = tp
            · have hs' : (P p == tp) = true := beq_iff_eq.2 hs
              have hnext : Two P tp jj (p + 1) p := Two.yes hjp hs
              clear hs
              go_wp2
              go_round
              case rel => exact ⟨p + 1, p, by omega, by omega, by go_num, rfl, hnext⟩
              case measure => simp [intOf]; omega
            · have hs' : (P p == tp) = false := beq_eq_false_iff_ne.2 hs
              have hnext := htwo.no hs
              clear hs
              go_wp2
              go_round
              case rel => exact ⟨p + 1, z, by omega, by omega, by go_num, rfl, hnext⟩
              case measure => simp [intOf]; omega
          · obtain rfl : p = k := by omega
            go_wp2
            go_ret
            exact ⟨⟨z, rfl, target_of hone htwo⟩, rfl⟩
end Go.Proofs.Qxb6614675a
