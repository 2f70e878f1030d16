/- The contract of takeIn of seat b6614675a, miss and hit, and what it leaves of a thread list and a dfa. -/
import Derived.Test.Qxb6614675aLeaf
import Derived.Deep.RegionWith
namespace Go.Proofs.Qxb6614675a
open Go.RowKit
set_option linter.unusedVariables false

/-- What a thread list and a dfa hold, so far as takeIn reads it. -/
structure Lay (w : World) (lp dp nb lb sb n m : Nat) (P S T sn : Nat → Int) (id gen : Int) : Prop where
  lanes : w.cell? ⟨lp, 1, none⟩ = some (.slice (some ⟨nb, 0, none⟩) 1 1)
  id : w.cell? ⟨lp, 3, none⟩ = some (.int .i64 id)
  gen : w.cell? ⟨lp, 4, none⟩ = some (.int .u64 gen)
  lane : w.cell? ⟨nb, 0, none⟩ = some (.slice (some ⟨lb, 0, none⟩) n n)
  seen : w.cell? ⟨dp, 26, none⟩ = some (.slice (some ⟨sb, 0, none⟩) m m)
  pc : ∀ i, i < n → w.cell? ⟨lb, i * 3, none⟩ = some (.int .i64 (P i))
  start : ∀ i, i < n → w.cell? ⟨lb, i * 3 + 1, none⟩ = some (.int .i64 (S i))
  state : ∀ i, i < n → w.cell? ⟨lb, i * 3 + 2, none⟩ = some (.int .i32 (T i))
  marks : ∀ i, i < m → w.cell? ⟨sb, i, none⟩ = some (.int .u64 (sn i))
  lfree : ∀ o, w.frozen? ⟨lb, o, none⟩ = false
  sfree : ∀ o, w.frozen? ⟨sb, o, none⟩ = false
  llp : lp < w.heap.size
  ldp : dp < w.heap.size
  lnb : nb < w.heap.size
  llb : lb < w.heap.size
  lsb : sb < w.heap.size
  d1 : sb < lb
  d2 : lb ≠ lp
  d3 : lb ≠ nb
  d4 : lb ≠ dp
  d5 : sb ≠ lp
  d6 : sb ≠ nb
  d7 : sb ≠ dp

theorem takeIn_miss (lp dp nb lb sb n m : Nat) (P S T sn : Nat → Int) (id gen tp ts t : Int) (w : World) (hn : n ≤ 65536) (L : Lay w lp dp nb lb sb n m P S T sn id gen)
    (hmiss : ∀ i, i < n → (∀ j, i ≤ j → j < n → S j = ts) → P i ≠ tp) :
    Calls Try.prog 20 #[.pointer (some ⟨lp, 0, none⟩), .agg #[.int .i64 tp, .int .i64 ts, .int .i32 t], .int .i64 0, .pointer (some ⟨dp, 0, none⟩)] w fun e w' => e = .returned (.bool false) ∧ Below w.heap.size w w' := by
  have l1 := L.lanes
  have l2 := L.lane
  have g1 := L.llp
  have g2 := L.lnb
  have g3 := L.llb
  have Hmiss : Hid (∀ i, i < n → (∀ j, i ≤ j → j < n → S j = ts) → P i ≠ tp) := hmiss
  clear hmiss
  go_enter Try.func20, Try.ntmps20
  go_wp2
  go_loopw [10] (fun k wr => ∃ (j : Int) (q : Nat), k = .int .i64 j ∧ -1 ≤ j ∧ j < n ∧ Hid (∀ i : Nat, j < i → i < n → S i = ts) ∧ wr = (w.alloc (.cells #[.int .i64 tp, .int .i64 ts, .int .i32 t] 49)).drewN q) (fun k _ => (intOf k + 1).toNat)
  case atStart =>
    exact ⟨_, 0, rfl, by omega, by omega, fun i h1 h2 => by omega, rfl⟩
  case round =>
    obtain ⟨j, q, rfl, hj0, hj1, hall, rfl⟩ := hrel
    by_cases hj : 0 ≤ j
    · obtain ⟨k, rfl⟩ := Int.eq_ofNat_of_zero_le hj
      have hkn : k < n := by omega
      have c0 := L.pc k hkn
      have c1 := L.start k hkn
      by_cases hS : S k = ts
      · have hall' : Hid (∀ i : Nat, (k : Int) - 1 < i → i < n → S i = ts) := fun i h1 h2 => by
          by_cases he : i = k
          · rw [he]; exact hS
          · exact hall.out i (by omega) h2
        have hP : (P k == tp) = false := beq_eq_false_iff_ne.2 (Hmiss.out k hkn fun i h1 h2 => hall'.out i (by omega) h2)
        have hS' : (S k == ts) = true := beq_iff_eq.2 hS
        clear hS hall
        go_wp2
        go_quiet (fail)
        go_wp2
        go_quiet (fail)
        go_wp2
        go_roundw
        case rel => exact ⟨_, _, rfl, by omega, by omega, hall', rfl⟩
        case measure => simp [intOf]
      · have hS' : (S k == ts) = false := beq_eq_false_iff_ne.2 hS
        clear hS hall
        go_wp2
        go_quiet (fail)
        go_wp2
        go_ret
        exact ⟨rfl, below_drewN (below_drewN ((Below.refl _ _).alloc (Nat.le_refl _) _) _) _⟩
    · have hd : decide (0 ≤ j) = false := by simpa using hj
      clear hall
      go_wp2
      go_quiet (fail)
      go_wp2
      go_ret
      exact ⟨rfl, below_drewN (below_drewN ((Below.refl _ _).alloc (Nat.le_refl _) _) _) _⟩

theorem hit_cell {w : World} (o : Obj) (a : Nat) (p : Addr) (v : Value) {q : Addr} {u : Value} (h : w.cell? q = some u) (hq : q.block < w.heap.size) (hne : p ≠ q) :
    (((w.alloc o).drewN a).setCell p v).cell? q = some u := by
  rw [World.cell?_setCell_other _ _ _ _ hne]
  exact (((Below.refl w.heap.size w).alloc (Nat.le_refl _) o).cell hq).trans h
theorem hit_frozen {w : World} (o : Obj) (a : Nat) (p : Addr) (v : Value) {q : Addr} (h : w.frozen? q = false) (hq : q.block < w.heap.size) :
    (((w.alloc o).drewN a).setCell p v).frozen? q = false := by
  rw [World.frozen?_setCell]
  exact (((Below.refl w.heap.size w).alloc (Nat.le_refl _) o).frozen hq).trans h
theorem hit_puts {w : World} (o : Obj) (a : Nat) (p : Addr) (v : Value) {u : Value} (h : w.cell? p = some u) (hq : p.block < w.heap.size) :
    Puts p v (w.alloc o) (((w.alloc o).drewN a).setCell p v) :=
  Puts.set v ((((Below.refl w.heap.size w).alloc (Nat.le_refl _) o).cell hq).trans h) a

theorem takeIn_hit (lp dp nb lb sb n m i : Nat) (P S T sn : Nat → Int) (id gen tp ts t : Int) (w : World) (hn : n ≤ 65536) (hm : m ≤ 65536) (L : Lay w lp dp nb lb sb n m P S T sn id gen)
    (hi : i < n) (hP : P i = tp) (hlast : ∀ j, i < j → j < n → P j ≠ tp) (hS : ∀ j, i ≤ j → j < n → S j = ts) (hM : Mergeable (T i) t)
    (i0 : 0 ≤ id) (i1 : id ≤ 1) (s0 : 0 ≤ mrg (T i) t) (s1 : mrg (T i) t ≤ 65536) (s2 : 2 * mrg (T i) t + id < m) :
    Calls Try.prog 20 #[.pointer (some ⟨lp, 0, none⟩), .agg #[.int .i64 tp, .int .i64 ts, .int .i32 t], .int .i64 0, .pointer (some ⟨dp, 0, none⟩)] w fun e w' => e = .returned (.bool true) ∧
      ∃ w1, Puts ⟨lb, i * 3 + 2, none⟩ (.int .i32 (mrg (T i) t)) (w.alloc (.cells #[.int .i64 tp, .int .i64 ts, .int .i32 t] 49)) w1 ∧ Puts ⟨sb, (2 * mrg (T i) t + id).toNat, none⟩ (.int .u64 gen) w1 w' := by
  have l1 := L.lanes
  have l2 := L.lane
  have g1 := L.llp
  have g2 := L.lnb
  have g3 := L.llb
  have Hlast : Hid (∀ j, i < j → j < n → P j ≠ tp) := hlast
  have HS : Hid (∀ j, i ≤ j → j < n → S j = ts) := hS
  have HP : Hid (P i = tp) := hP
  clear hlast hS hP
  go_enter Try.func20, Try.ntmps20
  go_wp2
  go_loopw [10] (fun k wr => ∃ (k' q : Nat), k = .int .i64 k' ∧ i ≤ k' ∧ k' < n ∧ wr = (w.alloc (.cells #[.int .i64 tp, .int .i64 ts, .int .i32 t] 49)).drewN q) (fun k _ => (intOf k).toNat)
  case atStart =>
    exact ⟨n - 1, 0, by congr 1; omega, by omega, by omega, rfl⟩
  case round =>
    obtain ⟨k, q, rfl, hk0, hkn, rfl⟩ := hrel
    have c0 := L.pc k hkn
    have c1 := L.start k hkn
    have hS' : (S k == ts) = true := beq_iff_eq.2 (HS.out k hk0 hkn)
    by_cases hik : i < k
    · have hP : (P k == tp) = false := beq_eq_false_iff_ne.2 (Hlast.out k hik hkn)
      go_wp2
      go_quiet (fail)
      go_wp2
      go_quiet (fail)
      go_wp2
      go_roundw
      case rel => exact ⟨k - 1, _, by congr 1; omega, by omega, by omega, rfl⟩
      case measure => simp [intOf]; omega
    · obtain rfl : k = i := by omega
      have hP : (P k == tp) = true := beq_iff_eq.2 HP.out
      have c2 := L.state k hkn
      have f2 := L.lfree (k * 3 + 2)
      go_wp2
      go_quiet (fail)
      go_wp2
      go_quiet (fail)
      go_wp2_with fail
      go_region_with (go_at_call 21; refine (union _ _ _ _ hM).mono ?_; rintro e w' ⟨rfl, rfl⟩)
      all_goals
        go_wp2_with fail
        refine (take lp dp sb m id gen (mrg (T k) t) (sn (2 * mrg (T k) t + id).toNat) _ ?h3 ?h4 ?h5 i0 i1 s0 s1 s2 hm ?hx ?hf).mono ?_
        case h3 => exact hit_cell _ _ _ _ L.id L.llp (fun h => L.d2 (congrArg Addr.block h))
        case h4 => exact hit_cell _ _ _ _ L.gen L.llp (fun h => L.d2 (congrArg Addr.block h))
        case h5 => exact hit_cell _ _ _ _ L.seen L.ldp (fun h => L.d4 (congrArg Addr.block h))
        case hx => exact hit_cell _ _ _ _ (L.marks _ (by omega)) L.lsb (fun h => Nat.ne_of_gt L.d1 (congrArg Addr.block h))
        case hf => exact hit_frozen _ _ _ _ (L.sfree _) L.lsb
        rintro e w2 ⟨⟨b, rfl⟩, hput⟩
        go_wp2
        go_ret
        exact ⟨rfl, _, hit_puts _ _ _ _ c2 L.llb, hput⟩

theorem Lay.below {w w' : World} {lp dp nb lb sb n m : Nat} {P S T sn : Nat → Int} {id gen : Int} (L : Lay w lp dp nb lb sb n m P S T sn id gen) (h : Below w.heap.size w w') :
    Lay w' lp dp nb lb sb n m P S T sn id gen where
  lanes := (h.cell L.llp).trans L.lanes
  id := (h.cell L.llp).trans L.id
  gen := (h.cell L.llp).trans L.gen
  lane := (h.cell L.lnb).trans L.lane
  seen := (h.cell L.ldp).trans L.seen
  pc := fun i hi => (h.cell L.llb).trans (L.pc i hi)
  start := fun i hi => (h.cell L.llb).trans (L.start i hi)
  state := fun i hi => (h.cell L.llb).trans (L.state i hi)
  marks := fun i hi => (h.cell L.lsb).trans (L.marks i hi)
  lfree := fun o => (h.frozen L.llb).trans (L.lfree o)
  sfree := fun o => (h.frozen L.lsb).trans (L.sfree o)
  llp := Nat.lt_of_lt_of_le L.llp h.size
  ldp := Nat.lt_of_lt_of_le L.ldp h.size
  lnb := Nat.lt_of_lt_of_le L.lnb h.size
  llb := Nat.lt_of_lt_of_le L.llb h.size
  lsb := Nat.lt_of_lt_of_le L.lsb h.size
  d1 := L.d1
  d2 := L.d2
  d3 := L.d3
  d4 := L.d4
  d5 := L.d5
  d6 := L.d6
  d7 := L.d7

/-- f, but v at i. -/
def upd (f : Nat → Int) (i : Nat) (v : Int) (j : Nat) : Int := if j = i then v else f j

theorem Lay.putState {w w' : World} {lp dp nb lb sb n m : Nat} {P S T sn : Nat → Int} {id gen : Int} (L : Lay w lp dp nb lb sb n m P S T sn id gen) {i : Nat} {v : Int} (h : Puts ⟨lb, i * 3 + 2, none⟩ (.int .i32 v) w w') :
    Lay w' lp dp nb lb sb n m P S (upd T i v) sn id gen where
  lanes := (h.cell _ (fun e => L.d2 (congrArg Addr.block e))).trans L.lanes
  id := (h.cell _ (fun e => L.d2 (congrArg Addr.block e))).trans L.id
  gen := (h.cell _ (fun e => L.d2 (congrArg Addr.block e))).trans L.gen
  lane := (h.cell _ (fun e => L.d3 (congrArg Addr.block e))).trans L.lane
  seen := (h.cell _ (fun e => L.d4 (congrArg Addr.block e))).trans L.seen
  pc := fun j hj => (h.cell _ (fun e => by have e' := congrArg Addr.off e; simp only at e'; omega)).trans (L.pc j hj)
  start := fun j hj => (h.cell _ (fun e => by have e' := congrArg Addr.off e; simp only at e'; omega)).trans (L.start j hj)
  state := fun j hj => by
    by_cases hji : j = i
    · subst hji; simp only [upd, if_pos]; exact h.here
    · simp only [upd, if_neg hji]; exact (h.cell _ (fun e => by have e' := congrArg Addr.off e; simp only at e'; omega)).trans (L.state j hj)
  marks := fun j hj => (h.cell _ (fun e => Nat.ne_of_gt L.d1 (congrArg Addr.block e))).trans (L.marks j hj)
  lfree := fun o => (h.frozen _).trans (L.lfree o)
  sfree := fun o => (h.frozen _).trans (L.sfree o)
  llp := h.size ▸ L.llp
  ldp := h.size ▸ L.ldp
  lnb := h.size ▸ L.lnb
  llb := h.size ▸ L.llb
  lsb := h.size ▸ L.lsb
  d1 := L.d1
  d2 := L.d2
  d3 := L.d3
  d4 := L.d4
  d5 := L.d5
  d6 := L.d6
  d7 := L.d7

theorem Lay.putMark {w w' : World} {lp dp nb lb sb n m : Nat} {P S T sn : Nat → Int} {id gen : Int} (L : Lay w lp dp nb lb sb n m P S T sn id gen) {i : Nat} {v : Int} (h : Puts ⟨sb, i, none⟩ (.int .u64 v) w w') :
    Lay w' lp dp nb lb sb n m P S T (upd sn i v) id gen where
  lanes := (h.cell _ (fun e => L.d5 (congrArg Addr.block e))).trans L.lanes
  id := (h.cell _ (fun e => L.d5 (congrArg Addr.block e))).trans L.id
  gen := (h.cell _ (fun e => L.d5 (congrArg Addr.block e))).trans L.gen
  lane := (h.cell _ (fun e => L.d6 (congrArg Addr.block e))).trans L.lane
  seen := (h.cell _ (fun e => L.d7 (congrArg Addr.block e))).trans L.seen
  pc := fun j hj => (h.cell _ (fun e => Nat.ne_of_lt L.d1 (congrArg Addr.block e))).trans (L.pc j hj)
  start := fun j hj => (h.cell _ (fun e => Nat.ne_of_lt L.d1 (congrArg Addr.block e))).trans (L.start j hj)
  state := fun j hj => (h.cell _ (fun e => Nat.ne_of_lt L.d1 (congrArg Addr.block e))).trans (L.state j hj)
  marks := fun j hj => by
    by_cases hji : j = i
    · subst hji; simp only [upd, if_pos]; exact h.here
    · simp only [upd, if_neg hji]; exact (h.cell _ (fun e => by have e' := congrArg Addr.off e; simp only at e'; omega)).trans (L.marks j hj)
  lfree := fun o => (h.frozen _).trans (L.lfree o)
  sfree := fun o => (h.frozen _).trans (L.sfree o)
  llp := h.size ▸ L.llp
  ldp := h.size ▸ L.ldp
  lnb := h.size ▸ L.lnb
  llb := h.size ▸ L.llb
  lsb := h.size ▸ L.lsb
  d1 := L.d1
  d2 := L.d2
  d3 := L.d3
  d4 := L.d4
  d5 := L.d5
  d6 := L.d6
  d7 := L.d7

/-! ### ZZtakeIn -/
/-- Of the blocks that lay there none but two has turned. -/
def Apart (lb sb : Nat) (w w' : World) : Prop := ∀ j, j < w.heap.size → j ≠ lb → j ≠ sb → w'.heap[j]? = w.heap[j]?
theorem Apart.cell {lb sb : Nat} {w w' : World} (h : Apart lb sb w w') {p : Addr} (h0 : p.block < w.heap.size) (h1 : p.block ≠ lb) (h2 : p.block ≠ sb) : w'.cell? p = w.cell? p :=
  World.cell?_of_block (w := w) (h p.block h0 h1 h2)
theorem Apart.frozen {lb sb : Nat} {w w' : World} (h : Apart lb sb w w') {p : Addr} (h0 : p.block < w.heap.size) (h1 : p.block ≠ lb) (h2 : p.block ≠ sb) : w'.frozen? p = w.frozen? p :=
  World.frozen?_of_block (w := w) (h p.block h0 h1 h2)
theorem Apart.below {lb sb : Nat} {w w' : World} (h : Below w.heap.size w w') : Apart lb sb w w' := fun j hj _ _ => h.block j hj
theorem ztakeIn_lane (l d : Value) (tp ts t lane : Int) (w : World) (h : ¬ lane = 0) :
    Calls Try.prog 15 #[l, .int .i64 tp, .int .i64 ts, .int .i32 t, .int .i64 lane, d] w fun e w' => e = .returned (.bool false) ∧ Below w.heap.size w w' := by
  have h' : (lane != 0) = true := by rw [bne_iff_ne]; exact h
  go_enter Try.func15, Try.ntmps15
  go_wp2
  go_ret
  exact ⟨rfl, (Below.refl _ _).alloc (Nat.le_refl _) _⟩

theorem ztakeIn_miss (lp dp nb lb sb n m : Nat) (P S T sn : Nat → Int) (id gen tp ts t : Int) (w : World) (hn : n ≤ 65536) (L : Lay w lp dp nb lb sb n m P S T sn id gen)
    (hmiss : ∀ i, i < n → (∀ j, i ≤ j → j < n → S j = ts) → P i ≠ tp) :
    Calls Try.prog 15 #[.pointer (some ⟨lp, 0, none⟩), .int .i64 tp, .int .i64 ts, .int .i32 t, .int .i64 0, .pointer (some ⟨dp, 0, none⟩)] w fun e w' => e = .returned (.bool false) ∧ Below w.heap.size w w' := by
  have H := takeIn_miss lp dp nb lb sb n m P S T sn id gen tp ts t w hn L hmiss
  clear hmiss
  go_enter Try.func15, Try.ntmps15
  go_wp2_with fail
  refine H.mono ?_
  rintro e w' ⟨rfl, hb⟩
  go_wp2
  go_ret
  exact ⟨rfl, hb⟩

theorem ztakeIn_hit (lp dp nb lb sb n m i : Nat) (P S T sn : Nat → Int) (id gen tp ts t : Int) (w : World) (hn : n ≤ 65536) (hm : m ≤ 65536) (L : Lay w lp dp nb lb sb n m P S T sn id gen)
    (hi : i < n) (hP : P i = tp) (hlast : ∀ j, i < j → j < n → P j ≠ tp) (hS : ∀ j, i ≤ j → j < n → S j = ts) (hM : Mergeable (T i) t)
    (i0 : 0 ≤ id) (i1 : id ≤ 1) (s0 : 0 ≤ mrg (T i) t) (s1 : mrg (T i) t ≤ 65536) (s2 : 2 * mrg (T i) t + id < m) :
    Calls Try.prog 15 #[.pointer (some ⟨lp, 0, none⟩), .int .i64 tp, .int .i64 ts, .int .i32 t, .int .i64 0, .pointer (some ⟨dp, 0, none⟩)] w fun e w' => e = .returned (.bool true) ∧
      Lay w' lp dp nb lb sb n m P S (upd T i (mrg (T i) t)) (upd sn (2 * mrg (T i) t + id).toNat gen) id gen ∧ Below sb w w' ∧ Apart lb sb w w' := by
  have H := takeIn_hit lp dp nb lb sb n m i P S T sn id gen tp ts t w hn hm L hi hP hlast hS hM i0 i1 s0 s1 s2
  clear hP hlast hS hM
  go_enter Try.func15, Try.ntmps15
  go_wp2_with fail
  refine H.mono ?_
  rintro e w' ⟨rfl, w1, h1, h2⟩
  go_wp2
  go_ret
  have hb : Below w.heap.size w (w.alloc (.cells #[.int .i64 tp, .int .i64 ts, .int .i32 t] 49)) := (Below.refl _ _).alloc (Nat.le_refl _) _
  exact ⟨rfl, ((L.below hb).putState h1).putMark h2, ((hb.mono (Nat.le_of_lt L.lsb)).trans (h1.below (Nat.le_of_lt L.d1))).trans (h2.below (Nat.le_refl _)),
    fun j hj h3 h4 => (h2.block j h4).trans ((h1.block j h3).trans (hb.block j hj))⟩
end Go.Proofs.Qxb6614675a
