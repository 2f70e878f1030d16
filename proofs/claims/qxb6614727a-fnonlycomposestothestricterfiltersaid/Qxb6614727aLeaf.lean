/- Words and leaves of seat b6614727a: lists of transactions (block and level), zzOnlySame, the three closures. -/
import Derived.Test.Qxb6614727aRows
import Derived.WalkKit
import Derived.ProofKit
import Derived.WalkLawsBesides
import Derived.Below
import Derived.BigQuiet
import Derived.Lib.Builder
import Derived.Shelf.Abstract
namespace Go.Proofs.Qxb6614727a
open Go.RowKit
set_option linter.unusedVariables false

theorem below_drewN {B : Nat} {a w : World} (h : Below B a w) (n : Nat) : Below B a (w.drewN n) := ⟨h.os, h.tape, h.output, h.size, h.block⟩

/-- A list of transactions: the block and the level of each. -/
def tb (ts : List (Nat × Int)) (i : Nat) : Nat := (ts.getD i (0, 0)).1
def tl (ts : List (Nat × Int)) (i : Nat) : Int := (ts.getD i (0, 0)).2
/-- The row behind a slice holds the pointers of ts. -/
def Row (B : Nat) (w : World) (a : Option Addr) (ts : List (Nat × Int)) : Prop :=
  0 < ts.length → ∃ b o, a = some ⟨b, o, none⟩ ∧ b < B ∧ ∀ i, i < ts.length → w.cell? ⟨b, o + i, none⟩ = some (.pointer (some ⟨tb ts i, 0, none⟩))
/-- The transactions bear their levels. -/
def Lv (B : Nat) (w : World) (ts : List (Nat × Int)) : Prop := ∀ t ∈ ts, t.1 < B ∧ w.cell? ⟨t.1, 1, none⟩ = some (.int .i64 t.2)

theorem mem_at {ts : List (Nat × Int)} {i : Nat} (h : i < ts.length) : (tb ts i, tl ts i) ∈ ts := by
  have e : (tb ts i, tl ts i) = ts[i] := by simp [tb, tl, List.getD_eq_getElem?_getD, h]
  rw [e]; exact List.getElem_mem h
theorem Lv.at {B : Nat} {w : World} {ts : List (Nat × Int)} (h : Lv B w ts) {i : Nat} (hi : i < ts.length) : tb ts i < B ∧ w.cell? ⟨tb ts i, 1, none⟩ = some (.int .i64 (tl ts i)) :=
  h _ (mem_at hi)
theorem Row.below {B : Nat} {w w' : World} {a : Option Addr} {ts : List (Nat × Int)} (h : Row B w a ts) (hb : Below B w w') : Row B w' a ts := by
  intro h0
  obtain ⟨b, o, e, hB, hc⟩ := h h0
  exact ⟨b, o, e, hB, fun i hi => (hb.cell hB).trans (hc i hi)⟩
theorem Row.mono {B B' : Nat} {w : World} {a : Option Addr} {ts : List (Nat × Int)} (h : Row B w a ts) (hB : B ≤ B') : Row B' w a ts := by
  intro h0
  obtain ⟨b, o, e, h1, hc⟩ := h h0
  exact ⟨b, o, e, Nat.lt_of_lt_of_le h1 hB, hc⟩
theorem Lv.below {B : Nat} {w w' : World} {ts : List (Nat × Int)} (h : Lv B w ts) (hb : Below B w w') : Lv B w' ts := fun t ht => ⟨(h t ht).1, (hb.cell (h t ht).1).trans (h t ht).2⟩
theorem Lv.mono {B B' : Nat} {w : World} {ts : List (Nat × Int)} (h : Lv B w ts) (hB : B ≤ B') : Lv B' w ts := fun t ht => ⟨Nat.lt_of_lt_of_le (h t ht).1 hB, (h t ht).2⟩
theorem Lv.filter {B : Nat} {w : World} {ts : List (Nat × Int)} (h : Lv B w ts) (p : Nat × Int → Bool) : Lv B w (ts.filter p) := fun t ht => h t (List.mem_filter.1 ht).1

theorem neq_same (w : World) (a : Addr) : (binOp .neq 37 (.pointer (some a)) (.pointer (some a))).run Try.prog w = .ok (.bool false) w := by
  have hj : (Try.prog.info? 40).isSome = true := by kernel_rfl
  obtain ⟨j, hj⟩ := Option.isSome_iff_exists.1 hj
  exact Lib.run_neq_ptr_same w a Try.underlying37 hj

/-- zzOnlySame: two lists that hold the same. -/
theorem same (a b : Option Addr) (c d : Nat) (B B' : Nat) (ts : List (Nat × Int)) (n : Nat) (hn : ts.length = n) (hn2 : n ≤ 65536) (w : World) (ra : Row B w a ts) (rb : Row B' w b ts) :
    Calls Try.prog 11 #[.slice a n c, .slice b n d] w fun e w' => e = .returned (.bool true) ∧ ∃ q, w' = w.drewN q := by
  have Hn : Hid (ts.length = n) := hn
  clear hn
  have hneq := neq_same
  go_enter Try.func11, Try.ntmps11
  go_wp2_with fail
  go_loopw [5] (fun i wr => ∃ k q : Nat, k ≤ n ∧ i = .int .i64 k ∧ wr = w.drewN q) (fun i _ => n - (intOf i).toNat)
  case atStart => exact ⟨0, 0, Nat.zero_le _, rfl, rfl⟩
  case round =>
    obtain ⟨k, q, hk, rfl, rfl⟩ := hrel
    by_cases hlt : k < n
    · obtain ⟨x0, o0, rfl, y0, hc0⟩ := ra (by rw [Hn.out]; omega)
      obtain ⟨x1, o1, rfl, y1, hc1⟩ := rb (by rw [Hn.out]; omega)
      have e0 := hc0 k (by rw [Hn.out]; omega)
      have e1 := hc1 k (by rw [Hn.out]; omega)
      clear hc0 hc1
      go_wp2_with fail
      go_quiet (fail)
      go_wp2_with fail
      go_roundw
      case rel => exact ⟨k + 1, _, by omega, by go_num, rfl⟩
      case measure => simp [intOf]; omega
    · obtain rfl : k = n := by omega
      go_wp2_with fail
      go_ret
      exact ⟨rfl, _, rfl⟩

/-- The two predicates. -/
theorem atLeast (b kb : Nat) (k l : Int) (w : World) (h1 : w.cell? ⟨b, 1, none⟩ = some (.int .i64 l)) (h2 : w.cell? ⟨kb, 0, none⟩ = some (.int .i64 k)) :
    Calls Try.prog 15 #[.pointer (some ⟨b, 0, none⟩), .pointer (some ⟨kb, 0, none⟩)] w fun e w' => e = .returned (.bool (decide (k ≤ l))) ∧ ∃ q, w' = w.drewN q := by
  go_enter Try.func15, Try.ntmps15
  go_wp2_with fail
  go_quiet (fail)
  go_wp2_with fail
  go_ret
  exact ⟨rfl, _, rfl⟩
theorem under (b kb : Nat) (k l : Int) (w : World) (h1 : w.cell? ⟨b, 1, none⟩ = some (.int .i64 l)) (h2 : w.cell? ⟨kb, 0, none⟩ = some (.int .i64 k)) :
    Calls Try.prog 16 #[.pointer (some ⟨b, 0, none⟩), .pointer (some ⟨kb, 0, none⟩)] w fun e w' => e = .returned (.bool (decide (l < k))) ∧ ∃ q, w' = w.drewN q := by
  go_enter Try.func16, Try.ntmps16
  go_wp2_with fail
  go_quiet (fail)
  go_wp2_with fail
  go_ret
  exact ⟨rfl, _, rfl⟩

/-- A predicate on levels that a function value computes. -/
def Keeps (g : Nat) (k : Int) (p : Int → Bool) : Prop :=
  (∀ args w, (callFunc g args).run Try.prog w = .ok (.enter g args) w) ∧
  ∀ (b kb : Nat) (l : Int) (w : World), w.cell? ⟨b, 1, none⟩ = some (.int .i64 l) → w.cell? ⟨kb, 0, none⟩ = some (.int .i64 k) →
    Calls Try.prog g #[.pointer (some ⟨b, 0, none⟩), .pointer (some ⟨kb, 0, none⟩)] w fun e w' => e = .returned (.bool (p l)) ∧ ∃ q, w' = w.drewN q
theorem keeps15 (k : Int) : Keeps 15 k (fun l => decide (k ≤ l)) := ⟨enters_of Try.func15 (by kernel_rfl) rfl, fun b kb l w h1 h2 => atLeast b kb k l w h1 h2⟩
theorem keeps16 (k : Int) : Keeps 16 k (fun l => decide (l < k)) := ⟨enters_of Try.func16 (by kernel_rfl) rfl, fun b kb l w h1 h2 => under b kb k l w h1 h2⟩

/-- 'drop'. -/
theorem drop (g b kb fb : Nat) (k l : Int) (p : Int → Bool) (hk : Keeps g k p) (w : World) (h1 : w.cell? ⟨b, 1, none⟩ = some (.int .i64 l)) (h2 : w.cell? ⟨kb, 0, none⟩ = some (.int .i64 k))
    (h3 : w.cell? ⟨fb, 0, none⟩ = some (.func (.func g) #[] #[.pointer (some ⟨kb, 0, none⟩)])) :
    Calls Try.prog 17 #[.pointer (some ⟨b, 0, none⟩), .pointer (some ⟨fb, 0, none⟩)] w fun e w' => e = .returned (.bool (!p l)) ∧ ∃ q, w' = w.drewN q := by
  obtain ⟨eg, hc⟩ := hk
  have hcon := hc b kb l w h1 h2
  clear hc
  go_enter Try.func17, Try.ntmps17
  go_wp2_with (go_at_fn g; refine hcon.mono ?_; rintro e w' ⟨rfl, q, rfl⟩)
  go_ret
  exact ⟨rfl, _, rfl⟩
end Go.Proofs.Qxb6614727a
