/- zzOnlyMkTxns, zzOnlyCopy, zzOnlyCountAtLeast. -/
import Derived.Test.Qxb6614727aDel
import Derived.Laws.AppendOwn
import Derived.Deep.OwnRows
namespace Go.Proofs.Qxb6614727a
open Go.RowKit
set_option linter.unusedVariables false

/-- A row of ints that can be read. -/
def Rd (B : Nat) (w : World) (a : Option Addr) (n : Nat) (f : Nat → Int) : Prop :=
  0 < n → ∃ b o, a = some ⟨b, o, none⟩ ∧ b < B ∧ ∀ i, i < n → w.cell? ⟨b, o + i, none⟩ = some (.int .i64 (f i))
theorem Rd.below {B : Nat} {w w' : World} {a : Option Addr} {n : Nat} {f : Nat → Int} (h : Rd B w a n f) (hb : Below B w w') : Rd B w' a n f := by
  intro h0
  obtain ⟨b, o, e, hB, hc⟩ := h h0
  exact ⟨b, o, e, hB, fun i hi => (hb.cell hB).trans (hc i hi)⟩
theorem Rd.mono {B B' : Nat} {w : World} {a : Option Addr} {n : Nat} {f : Nat → Int} (h : Rd B w a n f) (hB : B ≤ B') : Rd B' w a n f := by
  intro h0
  obtain ⟨b, o, e, h1, hc⟩ := h h0
  exact ⟨b, o, e, Nat.lt_of_lt_of_le h1 hB, hc⟩
/-- A slice is nil, or it leads to cells of a block. -/
def Plain (a : Option Addr) (n : Nat) : Prop := (a = none ∧ n = 0) ∨ ∃ b o, a = some ⟨b, o, none⟩

theorem neq : ∀ {b i j : Nat}, i ≠ j → (⟨b, i, none⟩ : Addr) ≠ ⟨b, j, none⟩ := fun hij e => hij (congrArg Addr.off e)

/-- Midway through zzOnlyMkTxns. -/
structure Mk (n k : Nat) (w wr : World) (f : Nat → Int) : Prop where
  below : Below w.heap.size w wr
  size : wr.heap.size = w.heap.size + 1 + k
  cell : ∀ i, i < k → wr.cell? ⟨w.heap.size, i, none⟩ = some (.pointer (some ⟨w.heap.size + 1 + i, 0, none⟩))
  lev : ∀ i, i < k → wr.cell? ⟨w.heap.size + 1 + i, 1, none⟩ = some (.int .i64 (f i))
  there : ∀ i, i < n → ∃ v, wr.cell? ⟨w.heap.size, i, none⟩ = some v
  free : ∀ o, wr.frozen? ⟨w.heap.size, o, none⟩ = false
theorem Mk.zero (n : Nat) (w : World) (z : Value) (E : TypeId) (f : Nat → Int) : Mk n 0 w (w.alloc (.cells (madeCells #[z] n) E)) f where
  below := (Below.refl _ _).alloc (Nat.le_refl _) _
  size := by simp
  cell := fun i hi => absurd hi (Nat.not_lt_zero _)
  lev := fun i hi => absurd hi (Nat.not_lt_zero _)
  there := fun o ho => by
    have hs : o < (madeCells #[z] n).size := by rw [size_madeCells]; exact ho
    exact ⟨_, (World.cell?_alloc_at _ _ _ _ rfl).trans (Array.getElem?_eq_getElem hs)⟩
  free := fun o => World.frozen?_alloc_at _ _ _ _ rfl
theorem Mk.step {n k : Nat} {w wr : World} {f : Nat → Int} (h : Mk n k w wr f) (hk : k < n) (s z : Value) (E : TypeId) :
    Mk n (k + 1) w ((wr.setCell ⟨w.heap.size, k, none⟩ (.pointer (some ⟨wr.heap.size, 0, none⟩))).alloc (.cells #[s, .int .i64 (f k), z] E)) f := by
  have hb1 : Below w.heap.size w (wr.setCell ⟨w.heap.size, k, none⟩ (.pointer (some ⟨wr.heap.size, 0, none⟩))) := h.below.setCell (Nat.le_refl _) _
  obtain ⟨u, hu⟩ := h.there k hk
  have here := World.cell?_setCell_same wr ⟨w.heap.size, k, none⟩ (.pointer (some ⟨wr.heap.size, 0, none⟩)) hu
  have other : ∀ x : Addr, ⟨w.heap.size, k, none⟩ ≠ x → (wr.setCell ⟨w.heap.size, k, none⟩ (.pointer (some ⟨wr.heap.size, 0, none⟩))).cell? x = wr.cell? x := fun x hx => World.cell?_setCell_other _ _ _ _ hx
  have fr : ∀ x, (wr.setCell ⟨w.heap.size, k, none⟩ (.pointer (some ⟨wr.heap.size, 0, none⟩))).frozen? x = wr.frozen? x := fun x => World.frozen?_setCell _ _ _ _
  have hs : (wr.setCell ⟨w.heap.size, k, none⟩ (.pointer (some ⟨wr.heap.size, 0, none⟩))).heap.size = w.heap.size + 1 + k := by rw [World.size_setCell]; exact h.size
  rw [h.size] at here
  have hsz := h.size
  rw [hsz] at other fr hs hb1 ⊢
  generalize wr.setCell ⟨w.heap.size, k, none⟩ (.pointer (some ⟨w.heap.size + 1 + k, 0, none⟩)) = W1 at hb1 here other fr hs ⊢
  have past : ∀ x : Addr, x.block < w.heap.size + 1 + k → (W1.alloc (.cells #[s, .int .i64 (f k), z] E)).cell? x = W1.cell? x := fun x hx => ((Below.refl W1.heap.size W1).alloc (Nat.le_refl _) _).cell (by rw [hs]; exact hx)
  refine ⟨hb1.alloc (by rw [hs]; omega) _, by simp [hs]; omega, fun i hi => ?_, fun i hi => ?_, fun i hi => ?_, fun o => ?_⟩
  · rw [past _ (by show w.heap.size < _; omega)]
    by_cases e : i = k
    · subst e; exact here
    · rw [other _ (neq (Ne.symm e))]; exact h.cell i (by omega)
  · by_cases e : i = k
    · subst e; exact World.cell?_alloc_at _ _ _ _ hs.symm
    · rw [past _ (by show w.heap.size + 1 + i < _; omega), other _ (fun c => by have c' := congrArg Addr.block c; simp only at c'; omega)]
      exact h.lev i (by omega)
  · rw [past _ (by show w.heap.size < _; omega)]
    by_cases e : i = k
    · subst e; exact ⟨_, here⟩
    · rw [other _ (neq (Ne.symm e))]; exact h.there i hi
  · rw [World.frozen?_alloc_past _ _ _ (by rw [hs]; show w.heap.size < _; omega), fr]
    exact h.free o

theorem getD_range_map {β : Type} (n : Nat) (F : Nat → β) (d : β) {i : Nat} (h : i < n) : ((List.range n).map F).getD i d = F i := by
  simp [List.getD_eq_getElem?_getD, h]

/-- The list that zzOnlyMkTxns makes. -/
def made (g n : Nat) (f : Nat → Int) : List (Nat × Int) := (List.range n).map fun i => (g + i, f i)
theorem made_len (g n : Nat) (f : Nat → Int) : (made g n f).length = n := by simp [made]
theorem made_tb {g n : Nat} {f : Nat → Int} {i : Nat} (h : i < n) : tb (made g n f) i = g + i := by unfold tb made; rw [getD_range_map n _ _ h]
theorem made_snd (g n : Nat) (f : Nat → Int) : (made g n f).map Prod.snd = (List.range n).map f := by simp [made]

theorem Mk.done {n : Nat} {w wr : World} {f : Nat → Int} (h : Mk n n w wr f) :
    Row wr.heap.size wr (some ⟨w.heap.size, 0, none⟩) (made (w.heap.size + 1) n f) ∧ Lv wr.heap.size wr (made (w.heap.size + 1) n f) := by
  have hs := h.size
  refine ⟨fun _ => ⟨w.heap.size, 0, rfl, by omega, fun i hi => ?_⟩, fun t ht => ?_⟩
  · rw [made_len] at hi
    rw [made_tb hi, Nat.zero_add]
    exact h.cell i hi
  · simp only [made, List.mem_map, List.mem_range] at ht
    obtain ⟨i, hi, rfl⟩ := ht
    exact ⟨by show w.heap.size + 1 + i < _; omega, h.lev i hi⟩

theorem mkNil (w : World) : Calls Try.prog 6 #[.slice none 0 0] w fun e w' => e = .returned (.slice none 0 0) ∧ w = w' := by
  have heq := fun wx a c => Lib.run_eql_slice_nil (P := Try.prog) wx 22 3 a 0 c 0 0 Try.underlying22
  go_enter Try.func6, Try.ntmps6
  go_wp2_with fail
  go_ret
  exact ⟨rfl, rfl⟩

theorem mkSome (x : Addr) (n c : Nat) (f : Nat → Int) (w : World) (hn : n ≤ 65536) (r : Rd w.heap.size w (some x) n f) :
    Calls Try.prog 6 #[.slice (some x) n c] w fun e w' => e = .returned (.slice (some ⟨w.heap.size, 0, none⟩) n n) ∧ Mk n n w w' f := by
  have heq := fun wx a c => Lib.run_eql_slice_nil (P := Try.prog) wx 22 3 a n c 0 0 Try.underlying22
  have hmk := run_make_row' (P := Try.prog) 27 37 (.pointer none) 8 Try.underlying27 (by kernel_rfl) rfl .i64 .i64 n (by omega) (by omega)
  go_enter Try.func6, Try.ntmps6
  go_wp2_with fail
  go_loopw [4] (fun i wr => ∃ k : Nat, k ≤ n ∧ i = .int .i64 k ∧ Hid (Mk n k w wr f)) (fun i _ => n - (intOf i).toNat)
  case atStart => exact ⟨0, Nat.zero_le _, rfl, Mk.zero _ _ _ _ _⟩
  case round =>
    obtain ⟨k, hk, rfl, HM⟩ := hrel
    rename_i wr _
    by_cases hlt : k < n
    · obtain ⟨b, o, hx, y, hc⟩ := r (by omega)
      cases hx
      have e0 := (HM.out.below.cell (p := ⟨b, o + k, none⟩) y).trans (hc k hlt)
      obtain ⟨v0, hv0⟩ := HM.out.there k hlt
      have hfr := HM.out.free k
      have hsz : w.heap.size < wr.heap.size := by rw [HM.out.size]; omega
      clear hc
      go_wp2_with fail
      go_roundw
      case rel => exact ⟨k + 1, by omega, by go_num, HM.out.step hlt _ _ _⟩
      case measure => simp [intOf]; omega
    · obtain rfl : k = n := by omega
      go_wp2_with fail
      go_ret
      exact ⟨rfl, HM.out⟩

/-! ### zzOnlyCopy -/
structure Cp (n k : Nat) (w wr : World) (ts : List (Nat × Int)) : Prop where
  below : Below w.heap.size w wr
  lt : w.heap.size < wr.heap.size
  cell : ∀ i, i < k → wr.cell? ⟨w.heap.size, i, none⟩ = some (.pointer (some ⟨tb ts i, 0, none⟩))
  there : ∀ i, i < n → ∃ v, wr.cell? ⟨w.heap.size, i, none⟩ = some v
  free : ∀ o, wr.frozen? ⟨w.heap.size, o, none⟩ = false
theorem Cp.zero (n : Nat) (w : World) (z : Value) (E : TypeId) (ts : List (Nat × Int)) : Cp n 0 w (w.alloc (.cells (madeCells #[z] n) E)) ts where
  below := (Below.refl _ _).alloc (Nat.le_refl _) _
  lt := by simp
  cell := fun i hi => absurd hi (Nat.not_lt_zero _)
  there := fun o ho => by
    have hs : o < (madeCells #[z] n).size := by rw [size_madeCells]; exact ho
    exact ⟨_, (World.cell?_alloc_at _ _ _ _ rfl).trans (Array.getElem?_eq_getElem hs)⟩
  free := fun o => World.frozen?_alloc_at _ _ _ _ rfl
theorem Cp.step {n k : Nat} {w wr : World} {ts : List (Nat × Int)} (h : Cp n k w wr ts) (hk : k < n) : Cp n (k + 1) w (wr.setCell ⟨w.heap.size, k, none⟩ (.pointer (some ⟨tb ts k, 0, none⟩))) ts := by
  obtain ⟨u, hu⟩ := h.there k hk
  have here := World.cell?_setCell_same wr ⟨w.heap.size, k, none⟩ (.pointer (some ⟨tb ts k, 0, none⟩)) hu
  refine ⟨h.below.setCell (Nat.le_refl _) _, by rw [World.size_setCell]; exact h.lt, fun i hi => ?_, fun i hi => ?_, fun o => ?_⟩
  · by_cases e : i = k
    · subst e; exact here
    · rw [World.cell?_setCell_other _ _ _ _ (neq (Ne.symm e))]; exact h.cell i (by omega)
  · by_cases e : i = k
    · subst e; exact ⟨_, here⟩
    · obtain ⟨v, hv⟩ := h.there i hi
      exact ⟨v, (World.cell?_setCell_other _ _ _ _ (neq (Ne.symm e))).trans hv⟩
  · rw [World.frozen?_setCell]; exact h.free o

theorem copyList (a : Option Addr) (n c : Nat) (ts : List (Nat × Int)) (w : World) (hl : ts.length = n) (hn : n ≤ 65536) (r : Row w.heap.size w a ts) :
    Calls Try.prog 7 #[.slice a n c] w fun e w' => e = .returned (.slice (some ⟨w.heap.size, 0, none⟩) n n) ∧ Row w'.heap.size w' (some ⟨w.heap.size, 0, none⟩) ts ∧ Below w.heap.size w w' := by
  have Hl : Hid (ts.length = n) := hl
  clear hl
  have hmk := run_make_row' (P := Try.prog) 27 37 (.pointer none) 8 Try.underlying27 (by kernel_rfl) rfl .i64 .i64 n (by omega) (by omega)
  go_enter Try.func7, Try.ntmps7
  go_wp2_with fail
  go_loopw [4] (fun i wr => ∃ k : Nat, k ≤ n ∧ i = .int .i64 k ∧ Hid (Cp n k w wr ts)) (fun i _ => n - (intOf i).toNat)
  case atStart => exact ⟨0, Nat.zero_le _, rfl, Cp.zero _ _ _ _ _⟩
  case round =>
    obtain ⟨k, hk, rfl, HM⟩ := hrel
    by_cases hlt : k < n
    · obtain ⟨b, o, rfl, y, hc⟩ := r (by rw [Hl.out]; omega)
      have e0 := (HM.out.below.cell (p := ⟨b, o + k, none⟩) y).trans (hc k (by rw [Hl.out]; exact hlt))
      obtain ⟨v0, hv0⟩ := HM.out.there k hlt
      have hfr := HM.out.free k
      clear hc
      go_wp2_with fail
      go_roundw
      case rel => exact ⟨k + 1, by omega, by go_num, HM.out.step hlt⟩
      case measure => simp [intOf]; omega
    · obtain rfl : k = n := by omega
      go_wp2_with fail
      go_ret
      refine ⟨rfl, fun _ => ⟨w.heap.size, 0, rfl, HM.out.lt, fun i hi => ?_⟩, HM.out.below⟩
      rw [Nat.zero_add]
      exact HM.out.cell i (by rw [← Hl.out]; exact hi)

/-! ### zzOnlyCountAtLeast -/
def cnt (f : Nat → Int) (m : Int) : Nat → Nat
  | 0 => 0
  | k + 1 => cnt f m k + (if m ≤ f k then 1 else 0)
theorem cnt_le (f : Nat → Int) (m : Int) : ∀ k, cnt f m k ≤ k
  | 0 => Nat.le_refl _
  | k + 1 => by have := cnt_le f m k; unfold cnt; split <;> omega
theorem cnt_yes {f : Nat → Int} {m : Int} {k : Nat} (h : m ≤ f k) : cnt f m (k + 1) = cnt f m k + 1 := by unfold cnt; rw [if_pos h]; cases k <;> rfl
theorem cnt_no {f : Nat → Int} {m : Int} {k : Nat} (h : ¬ m ≤ f k) : cnt f m (k + 1) = cnt f m k := by show cnt f m k + (if m ≤ f k then 1 else 0) = _; rw [if_neg h]; rfl
theorem cnt_kept (f : Nat → Int) (m : Int) (n : Nat) (ts : List (Nat × Int)) (h : ts.map Prod.snd = (List.range n).map f) : (keptAll (fun l => decide (m ≤ l)) ts).length = cnt f m n := by
  have e1 : (keptAll (fun l => decide (m ≤ l)) ts).length = (ts.map Prod.snd).countP (fun l => decide (m ≤ l)) := by
    unfold keptAll
    rw [List.countP_map, List.countP_eq_length_filter]
    rfl
  rw [e1, h]
  clear e1 h
  induction n with
  | zero => rfl
  | succ k ih =>
    rw [List.range_succ, List.map_append, List.countP_append, ih]
    show _ = cnt f m k + (if m ≤ f k then 1 else 0)
    by_cases h : m ≤ f k
    · simp [h]
    · simp [h]

theorem count (a : Option Addr) (n c B : Nat) (f : Nat → Int) (m : Int) (w : World) (hn : n ≤ 65536) (r : Rd B w a n f) :
    Calls Try.prog 13 #[.slice a n c, .int .i64 m] w fun e w' => e = .returned (.int .i64 (cnt f m n)) ∧ w = w' := by
  go_enter Try.func13, Try.ntmps13
  go_wp2_with fail
  go_loop [5, 6] (fun x i => ∃ k y : Nat, k ≤ n ∧ i = .int .i64 k ∧ x = .int .i64 y ∧ y ≤ k ∧ Hid (y = cnt f m k)) (fun _ i => n - (intOf i).toNat)
  case atStart => exact ⟨0, 0, Nat.zero_le _, rfl, rfl, Nat.zero_le _, rfl⟩
  case round =>
    obtain ⟨k, y, hk, rfl, rfl, hy, HC⟩ := hrel
    by_cases hlt : k < n
    · obtain ⟨b, o, rfl, _, hc⟩ := r (by omega)
      have e0 := hc k hlt
      clear hc
      by_cases hm : m ≤ f k
      · go_wp2_with fail
        go_round
        case rel => exact ⟨k + 1, y + 1, by omega, by go_num, by go_num, by omega, by rw [HC.out]; exact (cnt_yes hm).symm⟩
        case measure => simp [intOf]; omega
      · go_wp2_with fail
        go_round
        case rel => exact ⟨k + 1, y, by omega, by go_num, rfl, by omega, by rw [HC.out]; exact (cnt_no hm).symm⟩
        case measure => simp [intOf]; omega
    · obtain rfl : k = n := by omega
      go_wp2_with fail
      go_ret
      exact ⟨by rw [← HC.out]; rfl, rfl⟩

/-! ### zzOnlySplitOK -/
theorem kept_at {p : Int → Bool} {ts : List (Nat × Int)} {i : Nat} (h : i < ts.length) (hp : p (tl ts i) = true) :
    (kept p ts i).length < (keptAll p ts).length ∧ tb (keptAll p ts) (kept p ts i).length = tb ts i := by
  have e : keptAll p ts = kept p ts i ++ ((tb ts i, tl ts i) :: ((ts.drop (i + 1)).filter fun t => p t.2)) := by
    unfold keptAll kept
    have : ts = ts.take i ++ (ts[i] :: ts.drop (i + 1)) := by rw [← List.drop_eq_getElem_cons h, List.take_append_drop]
    conv => lhs; rw [this]
    rw [List.filter_append, List.filter_cons, at_eq h]
    simp [hp]
  rw [e]
  refine ⟨by simp, ?_⟩
  unfold tb
  rw [List.getD_eq_getElem?_getD, List.getElem?_append_right (Nat.le_refl _)]
  simp

theorem splitOK (a0 a1 a2 : Option Addr) (n n1 n2 c0 c1 c2 B0 B1 B2 B : Nat) (ts : List (Nat × Int)) (k : Int) (w : World) (hl : ts.length = n) (hn : n ≤ 65536)
    (r0 : Row B0 w a0 ts) (lv : Lv B w ts) (h1 : (keptAll (fun l => decide (k ≤ l)) ts).length = n1) (h2 : (keptAll (fun l => decide (l < k)) ts).length = n2)
    (r1 : Row B1 w a1 (keptAll (fun l => decide (k ≤ l)) ts)) (r2 : Row B2 w a2 (keptAll (fun l => decide (l < k)) ts)) :
    Calls Try.prog 10 #[.slice a0 n c0, .slice a1 n1 c1, .slice a2 n2 c2, .int .i64 k] w fun e w' => e = .returned (.bool true) ∧ w = w' := by
  have Hl : Hid (ts.length = n) := hl
  have H1 : Hid ((keptAll (fun l => decide (k ≤ l)) ts).length = n1) := h1
  have H2 : Hid ((keptAll (fun l => decide (l < k)) ts).length = n2) := h2
  have hn1 : n1 ≤ n := by rw [← h1, ← hl]; exact List.length_filter_le _ _
  have hn2 : n2 ≤ n := by rw [← h2, ← hl]; exact List.length_filter_le _ _
  have Hlv : Hid (Lv B w ts) := lv
  clear hl h1 h2 lv
  have hneq := neq_same
  go_enter Try.func10, Try.ntmps10
  go_wp2_with fail
  go_loop [9, 10, 11, 12] (fun x y i _ => ∃ q u v : Nat, q ≤ n ∧ i = .int .i64 q ∧ x = .int .i64 u ∧ y = .int .i64 v ∧ u ≤ q ∧ v ≤ q ∧ Hid (u = (kept (fun l => decide (k ≤ l)) ts q).length ∧ v = (kept (fun l => decide (l < k)) ts q).length)) (fun _ _ i _ => n - (intOf i).toNat)
  case atStart => exact ⟨0, 0, 0, Nat.zero_le _, rfl, rfl, rfl, Nat.le_refl _, Nat.le_refl _, rfl, rfl⟩
  case round =>
    obtain ⟨q, u, v, hq, rfl, rfl, rfl, hu, hv, HC⟩ := hrel
    by_cases hlt : q < n
    · have hq' : q < ts.length := by rw [Hl.out]; exact hlt
      obtain ⟨b, o, rfl, _, hc⟩ := r0 (by omega)
      have e0 := hc q hq'
      have e1 := (Hlv.out.at hq').2
      clear hc
      by_cases hm : k ≤ tl ts q
      · obtain ⟨g1, g2⟩ := kept_at (p := fun l => decide (k ≤ l)) hq' (by simpa using hm)
        rw [← HC.out.1] at g1 g2
        have g3 := kept_yes (p := fun l => decide (k ≤ l)) hq' (by simpa using hm)
        have g4 := kept_no (p := fun l => decide (l < k)) hq' (by simpa using hm)
        have G3 : Hid (kept (fun l => decide (k ≤ l)) ts (q + 1) = kept (fun l => decide (k ≤ l)) ts q ++ [(tb ts q, tl ts q)]) := g3
        have G4 : Hid (kept (fun l => decide (l < k)) ts (q + 1) = kept (fun l => decide (l < k)) ts q) := g4
        clear g3 g4
        obtain ⟨b1, o1, rfl, _, hc1⟩ := r1 (by omega)
        have e2 := hc1 u g1
        rw [g2] at e2
        rw [H1.out] at g1
        clear hc1 g2 hq'
        go_wp2_with fail
        go_round
        case rel => exact ⟨q + 1, u + 1, v, by omega, by go_num, by go_num, rfl, by omega, by omega, by rw [G3.out, List.length_append, ← HC.out.1]; rfl, by rw [G4.out]; exact HC.out.2⟩
        case measure => simp [intOf]; omega
      · obtain ⟨g1, g2⟩ := kept_at (p := fun l => decide (l < k)) hq' (by simpa using hm)
        rw [← HC.out.2] at g1 g2
        have g3 := kept_yes (p := fun l => decide (l < k)) hq' (by simpa using hm)
        have g4 := kept_no (p := fun l => decide (k ≤ l)) hq' (by simpa using hm)
        have G3 : Hid (kept (fun l => decide (l < k)) ts (q + 1) = kept (fun l => decide (l < k)) ts q ++ [(tb ts q, tl ts q)]) := g3
        have G4 : Hid (kept (fun l => decide (k ≤ l)) ts (q + 1) = kept (fun l => decide (k ≤ l)) ts q) := g4
        clear g3 g4
        obtain ⟨b1, o1, rfl, _, hc1⟩ := r2 (by omega)
        have e2 := hc1 v g1
        rw [g2] at e2
        rw [H2.out] at g1
        clear hc1 g2 hq'
        go_wp2_with fail
        go_round
        case rel => exact ⟨q + 1, u, v + 1, by omega, by go_num, rfl, by go_num, by omega, by omega, by rw [G4.out]; exact HC.out.1, by rw [G3.out, List.length_append, ← HC.out.2]; rfl⟩
        case measure => simp [intOf]; omega
    · obtain rfl : q = n := by omega
      have hu' : u = n1 := by
        have := HC.out.1
        rw [← Hl.out, kept_end, H1.out] at this
        exact this
      have hv' : v = n2 := by
        have := HC.out.2
        rw [← Hl.out, kept_end, H2.out] at this
        exact this
      subst hu' hv'
      go_wp2_with fail
      go_ret
      exact ⟨rfl, rfl⟩
end Go.Proofs.Qxb6614727a
