/- The contract of ZZnewThreadList of seat b6614675a. -/
import Derived.Test.Qxb6614675aTarget
import Derived.Deep.OwnRows
namespace Go.Proofs.Qxb6614675a
open Go.RowKit
set_option linter.unusedVariables false

/-- What a thread list holds. -/
structure LL (w : World) (lp nb lb n : Nat) (P S T : Nat → Int) (id gen : Int) : Prop where
  lanes : w.cell? ⟨lp, 1, none⟩ = some (.slice (some ⟨nb, 0, none⟩) 1 1)
  id : w.cell? ⟨lp, 3, none⟩ = some (.int .i64 id)
  gen : w.cell? ⟨lp, 4, none⟩ = some (.int .u64 gen)
  lane : w.cell? ⟨nb, 0, none⟩ = some (.slice (some ⟨lb, 0, none⟩) n n)
  pc : ∀ i, i < n → w.cell? ⟨lb, i * 3, none⟩ = some (.int .i64 (P i))
  start : ∀ i, i < n → w.cell? ⟨lb, i * 3 + 1, none⟩ = some (.int .i64 (S i))
  state : ∀ i, i < n → w.cell? ⟨lb, i * 3 + 2, none⟩ = some (.int .i32 (T i))
  lfree : ∀ o, w.frozen? ⟨lb, o, none⟩ = false

/-- The lane while it is filled: behind k threads. -/
structure LaneTo (w wr : World) (n k : Nat) (P S T : Nat → Int) : Prop where
  below : Below w.heap.size w wr
  size : wr.heap.size = w.heap.size + 1
  pc : ∀ i, i < k → wr.cell? ⟨w.heap.size, i * 3, none⟩ = some (.int .i64 (P i))
  start : ∀ i, i < k → wr.cell? ⟨w.heap.size, i * 3 + 1, none⟩ = some (.int .i64 (S i))
  state : ∀ i, i < k → wr.cell? ⟨w.heap.size, i * 3 + 2, none⟩ = some (.int .i32 (T i))
  there : ∀ o, o < n * 3 → ∃ v, wr.cell? ⟨w.heap.size, o, none⟩ = some v
  free : ∀ o, wr.frozen? ⟨w.heap.size, o, none⟩ = false

def Z3 : Array Value := #[.int .i64 0, .int .i64 0, .int .i32 0]
theorem info49 : (Try.prog.info? 49).map (fun i => (i.zero, i.size, i.bytes)) = some (some (.agg Z3), 3, 24) := by kernel_rfl

theorem run_make_threads (n : Nat) (hn : n ≤ 65536) (w : World) :
    (Instr.makeSlice 47 (.int .i64 (n : Int)) (.int .i64 (n : Int))).run Try.prog w = .ok (.slice (some ⟨w.heap.size, 0, none⟩) n n) (w.alloc (.cells (madeCells Z3 (n * 3)) 49)) := by
  obtain ⟨i, hi, hzz⟩ := Option.map_eq_some_iff.1 info49
  simp only [Prod.mk.injEq] at hzz
  obtain ⟨hz, hs, hb⟩ := hzz
  have hr := run_make (P := Try.prog) w 47 49 i (.agg Z3) Try.underlying47 hi hz .i64 .i64 n n (by omega) (Int.le_refl _) (by rw [hb]; omega) (by omega)
  simp only [Int.toNat_natCast, hs] at hr
  exact hr

theorem LaneTo.zero (w : World) (n : Nat) (P S T : Nat → Int) : LaneTo w (w.alloc (.cells (madeCells Z3 (n * 3)) 49)) n 0 P S T where
  below := (Below.refl _ _).alloc (Nat.le_refl _) _
  size := by simp
  pc := fun i hi => absurd hi (Nat.not_lt_zero _)
  start := fun i hi => absurd hi (Nat.not_lt_zero _)
  state := fun i hi => absurd hi (Nat.not_lt_zero _)
  there := fun o ho => by
    have hs : o < (madeCells Z3 (n * 3)).size := by rw [size_madeCells]; exact ho
    exact ⟨_, (World.cell?_alloc_at _ _ _ _ rfl).trans (Array.getElem?_eq_getElem hs)⟩
  free := fun o => World.frozen?_alloc_at _ _ _ _ rfl

theorem Puts.set0 {p : Addr} {u : Value} (v : Value) {w : World} (h : w.cell? p = some u) : Puts p v w (w.setCell p v) := Puts.set v h 0

theorem LaneTo.step {w wr : World} {n k : Nat} {P S T : Nat → Int} (h : LaneTo w wr n k P S T) (hk : k < n) :
    LaneTo w (((wr.setCell ⟨w.heap.size, k * 3, none⟩ (.int .i64 (P k))).setCell ⟨w.heap.size, k * 3 + 1, none⟩ (.int .i64 (S k))).setCell ⟨w.heap.size, k * 3 + 2, none⟩ (.int .i32 (T k))).drew n (k + 1) P S T := by
  obtain ⟨x0, d0⟩ := h.there (k * 3) (by omega)
  obtain ⟨x1, d1⟩ := h.there (k * 3 + 1) (by omega)
  obtain ⟨x2, d2⟩ := h.there (k * 3 + 2) (by omega)
  have ne : ∀ {b i j : Nat}, i ≠ j → (⟨b, i, none⟩ : Addr) ≠ ⟨b, j, none⟩ := fun hij e => hij (congrArg Addr.off e)
  have p1 := Puts.set0 (.int .i64 (P k)) d0
  generalize wr.setCell ⟨w.heap.size, k * 3, none⟩ (.int .i64 (P k)) = w1 at p1 ⊢
  have p2 := Puts.set0 (.int .i64 (S k)) ((p1.cell _ (ne (by omega))).trans d1)
  generalize w1.setCell ⟨w.heap.size, k * 3 + 1, none⟩ (.int .i64 (S k)) = w2 at p2 ⊢
  have p3 := Puts.set0 (.int .i32 (T k)) ((p2.cell _ (ne (by omega))).trans ((p1.cell _ (ne (by omega))).trans d2))
  generalize w2.setCell ⟨w.heap.size, k * 3 + 2, none⟩ (.int .i32 (T k)) = w3 at p3 ⊢
  have old : ∀ o, o ≠ k * 3 → o ≠ k * 3 + 1 → o ≠ k * 3 + 2 → w3.cell? ⟨w.heap.size, o, none⟩ = wr.cell? ⟨w.heap.size, o, none⟩ := fun o a b c =>
    (p3.cell _ (ne (Ne.symm c))).trans ((p2.cell _ (ne (Ne.symm b))).trans (p1.cell _ (ne (Ne.symm a))))
  have n0 : w3.cell? ⟨w.heap.size, k * 3, none⟩ = some (.int .i64 (P k)) := (p3.cell _ (ne (by omega))).trans ((p2.cell _ (ne (by omega))).trans p1.here)
  have n1 : w3.cell? ⟨w.heap.size, k * 3 + 1, none⟩ = some (.int .i64 (S k)) := (p3.cell _ (ne (by omega))).trans p2.here
  have n2 : w3.cell? ⟨w.heap.size, k * 3 + 2, none⟩ = some (.int .i32 (T k)) := p3.here
  refine ⟨(((h.below.trans (p1.below (Nat.le_refl _))).trans (p2.below (Nat.le_refl _))).trans (p3.below (Nat.le_refl _))).drew, ?_, ?_, ?_, ?_, ?_, ?_⟩
  · exact p3.size.trans (p2.size.trans (p1.size.trans h.size))
  · intro i hi
    by_cases e : i = k
    · rw [e]; exact n0
    · exact (old _ (by omega) (by omega) (by omega)).trans (h.pc i (by omega))
  · intro i hi
    by_cases e : i = k
    · rw [e]; exact n1
    · exact (old _ (by omega) (by omega) (by omega)).trans (h.start i (by omega))
  · intro i hi
    by_cases e : i = k
    · rw [e]; exact n2
    · exact (old _ (by omega) (by omega) (by omega)).trans (h.state i (by omega))
  · intro o ho
    by_cases e0 : o = k * 3
    · rw [e0]; exact ⟨_, n0⟩
    · by_cases e1 : o = k * 3 + 1
      · rw [e1]; exact ⟨_, n1⟩
      · by_cases e2 : o = k * 3 + 2
        · rw [e2]; exact ⟨_, n2⟩
        · obtain ⟨v, hv⟩ := h.there o ho
          exact ⟨v, (old o e0 e1 e2).trans hv⟩
  · intro o
    exact (p3.frozen _).trans ((p2.frozen _).trans ((p1.frozen _).trans (h.free o)))

theorem LaneTo.done {w wr : World} {n : Nat} {P S T : Nat → Int} (h : LaneTo w wr n n P S T) (id gen : Int) :
    LL ((wr.alloc (.cells #[.slice (some ⟨w.heap.size, 0, none⟩) n n] 47)).alloc (.cells #[.slice none 0 0, .slice (some ⟨wr.heap.size, 0, none⟩) 1 1, .slice none 0 0, .int .i64 id, .int .u64 gen] 52))
      (w.heap.size + 2) (w.heap.size + 1) w.heap.size n P S T id gen := by
  have hs := h.size
  have old : ∀ (o1 o2 : Obj) (o : Nat), ((wr.alloc o1).alloc o2).cell? ⟨w.heap.size, o, none⟩ = wr.cell? ⟨w.heap.size, o, none⟩ := fun o1 o2 o =>
    (World.cell?_alloc_past _ _ _ (by simp; omega)).trans (World.cell?_alloc_past _ _ _ (by omega))
  have top : ∀ (o1 : Obj) (c : Array Value) (t : TypeId) (o : Nat), ((wr.alloc o1).alloc (.cells c t)).cell? ⟨w.heap.size + 2, o, none⟩ = c[o]? := fun o1 c t o =>
    World.cell?_alloc_at _ _ _ _ (by simp; omega)
  have e1 : wr.heap.size = w.heap.size + 1 := hs
  refine ⟨?_, ?_, ?_, ?_, ?_, ?_, ?_, ?_⟩
  · rw [top, e1]; rfl
  · rw [top]; rfl
  · rw [top]; rfl
  · rw [World.cell?_alloc_past _ _ _ (by simp; omega), World.cell?_alloc_at _ _ _ _ hs.symm]; rfl
  · intro i hi; rw [old]; exact h.pc i hi
  · intro i hi; rw [old]; exact h.start i hi
  · intro i hi; rw [old]; exact h.state i hi
  · intro o
    rw [World.frozen?_alloc_past _ _ _ (by simp; omega), World.frozen?_alloc_past _ _ _ (by omega)]
    exact h.free o

theorem ret_ptr {a b : Nat} (h : a = b) : Ending.returned (.pointer (some ⟨a, 0, none⟩)) = .returned (.pointer (some ⟨b, 0, none⟩)) := by rw [h]

theorem newList (a0 a1 a2 : Option Addr) (c0 c1 c2 n : Nat) (P S T : Nat → Int) (id gen : Int) (w : World) (hn : n ≤ 65536) (r0 : Rd .i64 w.heap.size w a0 n P) (r1 : Rd .i64 w.heap.size w a1 n S) (r2 : Rd .i32 w.heap.size w a2 n T) :
    Calls Try.prog 13 #[.slice a0 n c0, .slice a1 n c1, .slice a2 n c2, .int .i64 id, .int .u64 gen] w fun e w' => e = .returned (.pointer (some ⟨w.heap.size + 2, 0, none⟩)) ∧
      LL w' (w.heap.size + 2) (w.heap.size + 1) w.heap.size n P S T id gen ∧ Below w.heap.size w w' ∧ w'.heap.size = w.heap.size + 3 := by
  have hmk := run_make_threads n hn
  go_enter Try.func13, Try.ntmps13
  go_wp2
  go_loopw [12] (fun i wr => ∃ k : Nat, k ≤ n ∧ i = .int .i64 k ∧ LaneTo w wr n k P S T) (fun i _ => n - (intOf i).toNat)
  case atStart => exact ⟨0, Nat.zero_le _, rfl, LaneTo.zero w n P S T⟩
  case round =>
    obtain ⟨k, hk, rfl, hL⟩ := hrel
    by_cases hlt : k < n
    · obtain ⟨b0, o0, rfl, hb0, hc0⟩ := r0 (by omega)
      obtain ⟨b1, o1, rfl, hb1, hc1⟩ := r1 (by omega)
      obtain ⟨b2, o2, rfl, hb2, hc2⟩ := r2 (by omega)
      have e0 := (hL.below.cell (p := ⟨b0, o0 + k, none⟩) hb0).trans (hc0 k hlt)
      have e1 := (hL.below.cell (p := ⟨b1, o1 + k, none⟩) hb1).trans (hc1 k hlt)
      have e2 := (hL.below.cell (p := ⟨b2, o2 + k, none⟩) hb2).trans (hc2 k hlt)
      obtain ⟨x0, d0⟩ := hL.there (k * 3) (by omega)
      obtain ⟨x1, d1⟩ := hL.there (k * 3 + 1) (by omega)
      obtain ⟨x2, d2⟩ := hL.there (k * 3 + 2) (by omega)
      have f0 := hL.free (k * 3)
      have f1 := hL.free (k * 3 + 1)
      have f2 := hL.free (k * 3 + 2)
      clear hc0 hc1 hc2 r0 r1 r2 hmk
      go_wp2
      go_region
      go_wp2
      go_roundw
      case rel => exact ⟨k + 1, by omega, by go_num, hL.step hlt⟩
      case measure => simp [intOf]; omega
    · obtain rfl : k = n := by omega
      go_wp2
      go_ret
      have hs := hL.size
      exact ⟨ret_ptr (by omega), hL.done id gen, (hL.below.alloc (by omega) _).alloc (by simp; omega) _, by simp; omega⟩
end Go.Proofs.Qxb6614675a
