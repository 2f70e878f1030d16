/- slices.Clone, Only, ZZOnlyAtLeast, ZZOnlyBelow. -/
import Derived.Test.Qxb6614727aMake
import Derived.Deep.RegionHeld3
import Derived.Deep.DeepCutAuto
import Derived.OwnWalk
namespace Go.Proofs.Qxb6614727a
open Go.RowKit
set_option linter.unusedVariables false

/-- A slice whose row is of the call's own (from block b0 on): nil, or the pointers of ts in a block that may be written. -/
def Owned (b0 : Nat) (w : World) (v : Value) (ts : List (Nat × Int)) : Prop :=
  (v = .slice none 0 0 ∧ ts = []) ∨ ∃ g cap, v = .slice (some ⟨g, 0, none⟩) ts.length cap ∧ b0 ≤ g ∧ g < w.heap.size ∧ ts.length ≤ cap ∧
    (∀ t, t < ts.length → w.cell? ⟨g, t, none⟩ = some (.pointer (some ⟨tb ts t, 0, none⟩))) ∧ ∀ o, w.frozen? ⟨g, o, none⟩ = false

theorem owned_of {b0 : Nat} {w : World} {v : Value} {ts : List (Nat × Int)} (h : w.ownsRow b0 37 1 v ts.length ((List.range ts.length).map fun i => .pointer (some ⟨tb ts i, 0, none⟩))) : Owned b0 w v ts := by
  obtain ⟨_, ⟨rfl, h0⟩ | ⟨g, cap, cur, rfl, hb, hg, hc, _, hs, ht⟩⟩ := h
  · exact Or.inl ⟨rfl, List.length_eq_zero_iff.1 h0⟩
  · have hlt : g < w.heap.size := by
      rcases Nat.lt_or_ge g w.heap.size with h | h
      · exact h
      · rw [Array.getElem?_eq_none h] at hg; exact absurd hg (by simp)
    refine Or.inr ⟨g, cap, rfl, hb, hlt, hc, fun t h => ?_, fun o => ?_⟩
    · have e : w.cell? ⟨g, t, none⟩ = cur[t]? := by simp [World.cell?, hg]
      rw [e]
      have h1 : (cur.toList.take (ts.length * 1))[t]? = some (.pointer (some ⟨tb ts t, 0, none⟩)) := by rw [ht]; simp [h]
      rw [List.getElem?_take_of_lt (by omega)] at h1
      simpa using h1
    · simp [World.frozen?, hg]

theorem cloneNil (n c : Nat) (w : World) : Calls Try.prog 19 #[.slice none n c] w fun e w' => e = .returned (.slice none 0 0) ∧ w = w' := by
  have heq := fun wx a c => Lib.run_eql_slice_nil (P := Try.prog) wx 27 37 a n c 0 0 Try.underlying27
  go_enter Try.func19, Try.ntmps19
  go_wp2_with fail
  go_ret
  exact ⟨rfl, rfl⟩

set_option maxHeartbeats 2000000 in
theorem cloneSome (b o n c : Nat) (ts : List (Nat × Int)) (w : World) (hl : ts.length = n) (hn : n ≤ 65536) (r : Row w.heap.size w (some ⟨b, o, none⟩) ts) :
    Calls Try.prog 19 #[.slice (some ⟨b, o, none⟩) n c] w fun e w' => ∃ v, e = .returned v ∧ Owned w.heap.size w' v ts ∧ Below w.heap.size w w' := by
  subst hl
  have heq := fun wx a c => Lib.run_eql_slice_nil (P := Try.prog) wx 27 37 a ts.length c 0 0 Try.underlying27
  have hi : (Try.prog.info? 37).map (fun i => (i.zero, i.size, i.bytes)) = some (some (.pointer none), 1, 8) := by kernel_rfl
  obtain ⟨i0, hi0, hi1⟩ : ∃ i0, Try.prog.info? 37 = some i0 ∧ (i0.zero, i0.size, i0.bytes) = (some (Value.pointer none), 1, 8) := by
    cases h : Try.prog.info? 37 with
    | none => rw [h] at hi; exact absurd hi (by simp)
    | some i0 => rw [h] at hi; exact ⟨i0, rfl, by simpa using hi⟩
  simp only [Prod.mk.injEq] at hi1
  obtain ⟨z1, z2, z3⟩ := hi1
  have hc : Hid (∀ j u, ((List.range ts.length).map fun i => Value.pointer (some ⟨tb ts i, 0, none⟩))[j]? = some u → w.cell? ⟨b, o + j, none⟩ = some u) := by
    intro j u hj
    have hjn : j < ts.length := by
      rcases Nat.lt_or_ge j ts.length with h | h
      · exact h
      · rw [List.getElem?_eq_none (by simpa using h)] at hj; exact absurd hj (by simp)
    obtain ⟨b', o', e, _, hc⟩ := r (by omega)
    cases e
    rw [hc j hjn]
    simpa [hjn] using hj
  clear hi r
  go_enter Try.func19, Try.ntmps19
  go_wp2_with (at_builtin; refine wpList_append_own _ rfl _ _ 27 rfl w.heap.size 37 i0 (.pointer none) 1 8 Try.underlying27 hi0 z1 z2 z3 rfl (by decide) _ _ _ rfl (World.ownsRow_made w #[] 0 (Nat.le_refl _) (Nat.zero_le _) (by simp)) ⟨b, o, none⟩ ts.length c ((List.range ts.length).map fun i => Value.pointer (some ⟨tb ts i, 0, none⟩)) rfl ?qc1 ?qc2 ?qc3 ?qc4 ?qc5 ?qc6 ?_)
  case qc1 => simp
  case qc2 =>
    intro j u hj
    rw [Addr.add_lit]
    exact Lib.cell?_alloc_some _ (hc.out j u hj)
  case qc3 =>
    intro u hu
    simp only [List.mem_map] at hu
    obtain ⟨i, _, rfl⟩ := hu
    rfl
  case qc4 => rw [Nat.zero_add]; unfold maxLen; omega
  case qc5 => rw [Nat.zero_add]; omega
  case qc6 => simp
  intro v' w1 hown hgrow hnil
  go_wp2
  go_ret
  refine ⟨v', rfl, owned_of (by simpa using hown), ?_⟩
  exact ((Below.refl _ w).alloc (Nat.le_refl _) _).grown hgrow (by simp) (by intro k hk; simp [Value.ownBlock] at hk; omega)

/-- Owned, from a block on that lies behind all of w. -/
def OwnedAt (w : World) (b0 : Nat) (W : World) (v : Value) (ts : List (Nat × Int)) : Prop := Owned b0 W v ts ∧ w.heap.size ≤ b0
theorem cloneAt {w W : World} (hW : Below w.heap.size w W) (a : Option Addr) (n c : Nat) (ts : List (Nat × Int)) (hl : ts.length = n) (hn : n ≤ 65536) (r : Row w.heap.size w a ts) (pa : Plain a n) :
    Calls Try.prog 19 #[.slice a n c] W fun e w' => ∃ v, e = .returned v ∧ OwnedAt w W.heap.size w' v ts ∧ Below W.heap.size W w' ∧ Below w.heap.size w w' := by
  rcases pa with ⟨rfl, rfl⟩ | ⟨b, o, rfl⟩
  · refine (cloneNil 0 c W).mono ?_
    rintro e w' ⟨rfl, rfl⟩
    exact ⟨_, rfl, ⟨Or.inl ⟨rfl, List.length_eq_zero_iff.1 hl⟩, hW.size⟩, Below.refl _ _, hW⟩
  · refine (cloneSome b o n c ts W hl hn ((r.below hW).mono hW.size)).mono ?_
    rintro e w' ⟨v, rfl, ho, hb⟩
    exact ⟨v, rfl, ⟨ho, hW.size⟩, hb, hW.trans (hb.mono hW.size)⟩

theorem deleteNil (fb gb kb B : Nat) (k : Int) (p : Int → Bool) (w : World) (hP : Pred gb kb fb k p B w) :
    Calls Try.prog 18 #[.slice none 0 0, .func (.func 17) #[] #[.pointer (some ⟨fb, 0, none⟩)]] w fun e w' => e = .returned (.slice none 0 0) ∧ ∃ q, w' = w.drewN q := by
  have hix := index none 0 0 B 0 gb kb fb k p [] w rfl (by omega) hP (fun h => absurd h (by simp)) (fun t ht => absurd ht (by simp))
  go_enter Try.func18, Try.ntmps18
  go_wp2_with fail
  refine hix.mono ?_
  rintro e w' ⟨r, rfl, hr, q, rfl⟩
  obtain rfl : r = -1 := by
    rcases hr with ⟨h, _⟩ | ⟨j, _, h, _⟩
    · exact h
    · exact absurd h (Nat.not_lt_zero _)
  clear hr hix
  go_wp2_with fail
  go_ret
  exact ⟨rfl, _, rfl⟩

theorem deleteAt {w W : World} (hW : Below w.heap.size w W) (b0 gb kb fb : Nat) (k : Int) (p : Int → Bool) (v : Value) (ts : List (Nat × Int)) (hP : Pred gb kb fb k p w.heap.size w) (lv : Lv w.heap.size w ts) (ho : OwnedAt w b0 W v ts) (hn : ts.length ≤ 65536) :
    Calls Try.prog 18 #[v, .func (.func 17) #[] #[.pointer (some ⟨fb, 0, none⟩)]] W fun e w' => ∃ a' c', e = .returned (.slice a' (keptAll p ts).length c') ∧ Row w'.heap.size w' a' (keptAll p ts) ∧ Plain a' (keptAll p ts).length ∧ Below b0 W w' ∧ Below w.heap.size w w' := by
  obtain ⟨ho, h0⟩ := ho
  rcases ho with ⟨rfl, rfl⟩ | ⟨g, cap, rfl, hg, hg2, hcap, hc, hf⟩
  · refine (deleteNil fb gb kb w.heap.size k p W (hP.below hW)).mono ?_
    rintro e w' ⟨rfl, q, rfl⟩
    exact ⟨none, 0, rfl, fun h => absurd h (by simp [keptAll]), Or.inl ⟨rfl, rfl⟩, below_drewN (Below.refl _ _) _, below_drewN hW _⟩
  · refine (deleteFunc ts.length cap w.heap.size g kb fb gb k p ts W rfl hn hcap (hP.below hW) (lv.below hW) (Nat.le_trans h0 hg) hg2 hc hf).mono ?_
    rintro e w' ⟨rfl, hr, hs⟩
    exact ⟨_, _, rfl, hr, Or.inr ⟨g, 0, rfl⟩, hs.below hg, hW.trans (hs.below (Nat.le_trans h0 hg))⟩

/-! ### A summary -/
structure Lst (w : World) (a : Option Addr) (n : Nat) (ts : List (Nat × Int)) : Prop where
  len : ts.length = n
  small : n ≤ 65536
  row : Row w.heap.size w a ts
  lv : Lv w.heap.size w ts
  plain : Plain a n
theorem Lst.le {w : World} {a : Option Addr} {n : Nat} {ts : List (Nat × Int)} (h : Lst w a n ts) : ts.length ≤ 65536 := by rw [h.len]; exact h.small
theorem Lst.below {w w' : World} {a : Option Addr} {n : Nat} {ts : List (Nat × Int)} (h : Lst w a n ts) (hb : Below w.heap.size w w') : Lst w' a n ts :=
  ⟨h.len, h.small, (h.row.below hb).mono hb.size, (h.lv.below hb).mono hb.size, h.plain⟩
structure Sum (w : World) (r : Nat) (a0 a1 a2 : Option Addr) (n0 n1 n2 c0 c1 c2 : Nat) (t0 t1 t2 : List (Nat × Int)) (z0 z1 z2 z3 : Int) : Prop where
  lt : r < w.heap.size
  f0 : w.cell? ⟨r, 0, none⟩ = some (.slice a0 n0 c0)
  f1 : w.cell? ⟨r, 1, none⟩ = some (.slice a1 n1 c1)
  f2 : w.cell? ⟨r, 2, none⟩ = some (.slice a2 n2 c2)
  g0 : w.cell? ⟨r, 3, none⟩ = some (.int .i64 z0)
  g1 : w.cell? ⟨r, 4, none⟩ = some (.int .i64 z1)
  g2 : w.cell? ⟨r, 5, none⟩ = some (.int .i64 z2)
  g3 : w.cell? ⟨r, 6, none⟩ = some (.int .i64 z3)
  l0 : Lst w a0 n0 t0
  l1 : Lst w a1 n1 t1
  l2 : Lst w a2 n2 t2
theorem Sum.below {w w' : World} {r : Nat} {a0 a1 a2 : Option Addr} {n0 n1 n2 c0 c1 c2 : Nat} {t0 t1 t2 : List (Nat × Int)} {z0 z1 z2 z3 : Int} (h : Sum w r a0 a1 a2 n0 n1 n2 c0 c1 c2 t0 t1 t2 z0 z1 z2 z3) (hb : Below w.heap.size w w') :
    Sum w' r a0 a1 a2 n0 n1 n2 c0 c1 c2 t0 t1 t2 z0 z1 z2 z3 :=
  ⟨Nat.lt_of_lt_of_le h.lt hb.size, (hb.cell h.lt).trans h.f0, (hb.cell h.lt).trans h.f1, (hb.cell h.lt).trans h.f2, (hb.cell h.lt).trans h.g0, (hb.cell h.lt).trans h.g1, (hb.cell h.lt).trans h.g2, (hb.cell h.lt).trans h.g3, h.l0.below hb, h.l1.below hb, h.l2.below hb⟩

theorem keep3 {w W : World} {p0 p1 p2 : Addr} {x0 x1 x2 : Option Value} (c0 : w.cell? p0 = x0) (c1 : w.cell? p1 = x1) (c2 : w.cell? p2 = x2) (l0 : p0.block < w.heap.size) (l1 : p1.block < w.heap.size) (l2 : p2.block < w.heap.size) (h : Below w.heap.size w W) :
    W.cell? p0 = x0 ∧ W.cell? p1 = x1 ∧ W.cell? p2 = x2 := ⟨(h.cell l0).trans c0, (h.cell l1).trans c1, (h.cell l2).trans c2⟩

theorem below_alloc {w W : World} (h : Below w.heap.size w W) (o : Obj) : Below w.heap.size w (W.alloc o) := h.alloc h.size o
theorem below_drew {B : Nat} {a w : World} (h : Below B a w) : Below B a w.drew := ⟨h.os, h.tape, h.output, h.size, h.block⟩

theorem lst_kept {w1 y W : World} {a b : Option Addr} {n : Nat} {ts : List (Nat × Int)} {p : Int → Bool} (h : Lst w1 a n ts) (hb : Below w1.heap.size w1 W) (hr : Row y.heap.size y b (keptAll p ts)) (hy : Below y.heap.size y W) (hp : Plain b (keptAll p ts).length) :
    Lst W b (keptAll p ts).length (keptAll p ts) :=
  ⟨rfl, Nat.le_trans (List.length_filter_le _ _) h.le, (hr.below hy).mono hy.size, ((h.lv.filter _).below hb).mono hb.size, hp⟩

set_option maxHeartbeats 4000000 in
theorem only (gb kb sp : Nat) (k : Int) (p : Int → Bool) (hk : Keeps gb k p) (w : World) (hkc : w.cell? ⟨kb, 0, none⟩ = some (.int .i64 k)) (lk : kb < w.heap.size)
    (a0 a1 a2 : Option Addr) (n0 n1 n2 c0 c1 c2 : Nat) (t0 t1 t2 : List (Nat × Int)) (z0 z1 z2 z3 : Int) (S : Sum w sp a0 a1 a2 n0 n1 n2 c0 c1 c2 t0 t1 t2 z0 z1 z2 z3) :
    Calls Try.prog 14 #[.pointer (some ⟨sp, 0, none⟩), .func (.func gb) #[] #[.pointer (some ⟨kb, 0, none⟩)]] w fun e w' => ∃ r b0 b1 b2 d0 d1 d2, e = .returned (.pointer (some ⟨r, 0, none⟩)) ∧
      Sum w' r b0 b1 b2 (keptAll p t0).length (keptAll p t1).length (keptAll p t2).length d0 d1 d2 (keptAll p t0) (keptAll p t1) (keptAll p t2) 0 0 0 0 ∧ Below w.heap.size w w' := by
  have hsp := S.lt
  have hB1 : Below w.heap.size w (w.alloc (.cells #[.func (.func gb) #[] #[.pointer (some ⟨kb, 0, none⟩)]] 42)) := (Below.refl _ _).alloc (Nat.le_refl _) _
  have S1 := S.below hB1
  have hP : Pred gb kb w.heap.size k p (w.alloc (.cells #[.func (.func gb) #[] #[.pointer (some ⟨kb, 0, none⟩)]] 42)).heap.size (w.alloc (.cells #[.func (.func gb) #[] #[.pointer (some ⟨kb, 0, none⟩)]] 42)) :=
    ⟨hk, (hB1.cell lk).trans hkc, World.cell?_alloc_at _ _ _ _ rfl, Nat.lt_of_lt_of_le lk hB1.size, by simp⟩
  have HP : Hid (Pred gb kb w.heap.size k p (w.alloc (.cells #[.func (.func gb) #[] #[.pointer (some ⟨kb, 0, none⟩)]] 42)).heap.size (w.alloc (.cells #[.func (.func gb) #[] #[.pointer (some ⟨kb, 0, none⟩)]] 42))) := hP
  clear hP
  go_enter Try.func14, Try.ntmps14
  go_wp2_with fail
  generalize w.alloc (.cells #[.func (.func gb) #[] #[.pointer (some ⟨kb, 0, none⟩)]] 42) = w1 at S1 HP hB1 ⊢
  have hW0 : Below w1.heap.size w1 w1.drew := below_drew (Below.refl _ _)
  clear hk hkc S
  go_region_held3 (fun W => W.cell? ⟨sp, 0, none⟩ = some (.slice a0 n0 c0) ∧ W.cell? ⟨sp, 1, none⟩ = some (.slice a1 n1 c1) ∧ W.cell? ⟨sp, 2, none⟩ = some (.slice a2 n2 c2))
    ((refine keep3 S1.f0 S1.f1 S1.f2 S1.lt S1.lt S1.lt ?_; first | assumption | (refine below_alloc ?_ _; assumption)))
    (first
      | (go_at_call_of 19 (Value.slice a0 n0 c0); refine (cloneAt (w := w1) ?hWq0 a0 n0 c0 t0 S1.l0.len S1.l0.small S1.l0.row S1.l0.plain).mono ?mainq0; (case hWq0 => assumption); rintro e x0 ⟨v0, rfl, ho0, hb0, hW0⟩)
      | (go_at_call_of 19 (Value.slice a1 n1 c1); refine (cloneAt (w := w1) ?hWq1 a1 n1 c1 t1 S1.l1.len S1.l1.small S1.l1.row S1.l1.plain).mono ?mainq1; (case hWq1 => assumption); rintro e x1 ⟨v1, rfl, ho1, hb1, hW1⟩)
      | (go_at_call_of 19 (Value.slice a2 n2 c2); refine (cloneAt (w := w1) ?hWq2 a2 n2 c2 t2 S1.l2.len S1.l2.small S1.l2.row S1.l2.plain).mono ?mainq2; (case hWq2 => assumption); rintro e x2 ⟨v2, rfl, ho2, hb2, hW2⟩)
      | (go_at_call 18; refine (deleteAt (w := w1) ?hWq3 ?b0q3 gb kb w.heap.size k p _ t0 HP.out S1.l0.lv ?hoq3 S1.l0.le).mono ?mainq3; (case hWq3 => assumption); (case hoq3 => assumption); (case' mainq3 => rintro e y0 ⟨b0, d0, rfl, hr0, hp0, he0, hY0⟩))
      | (go_at_call 18; refine (deleteAt (w := w1) ?hWq4 ?b0q4 gb kb w.heap.size k p _ t1 HP.out S1.l1.lv ?hoq4 S1.l1.le).mono ?mainq4; (case hWq4 => assumption); (case hoq4 => assumption); (case' mainq4 => rintro e y1 ⟨b1, d1, rfl, hr1, hp1, he1, hY1⟩))
      | (go_at_call 18; refine (deleteAt (w := w1) ?hWq5 ?b0q5 gb kb w.heap.size k p _ t2 HP.out S1.l2.lv ?hoq5 S1.l2.le).mono ?mainq5; (case hWq5 => assumption); (case hoq5 => assumption); (case' mainq5 => rintro e y2 ⟨b2, d2, rfl, hr2, hp2, he2, hY2⟩)))
  go_wp2_with fail
  go_ret
  have e2 := below_alloc (Below.refl y2.heap.size y2) (.cells #[.slice b0 (keptAll p t0).length d0, .slice b1 (keptAll p t1).length d1, .slice b2 (keptAll p t2).length d2, .int .i64 0, .int .i64 0, .int .i64 0, .int .i64 0] 30)
  have e1 : Below y1.heap.size y1 _ := (hb2.trans he2).trans (e2.mono (hb2.trans he2).size)
  have e0 : Below y0.heap.size y0 _ := (hb1.trans he1).trans (e1.mono (hb1.trans he1).size)
  have eW : Below w1.heap.size w1 _ := hY2.trans (e2.mono hY2.size)
  exact ⟨y2.heap.size, b0, b1, b2, d0, d1, d2, rfl,
    ⟨by simp, World.cell?_alloc_at _ _ _ _ rfl, World.cell?_alloc_at _ _ _ _ rfl, World.cell?_alloc_at _ _ _ _ rfl, World.cell?_alloc_at _ _ _ _ rfl, World.cell?_alloc_at _ _ _ _ rfl, World.cell?_alloc_at _ _ _ _ rfl, World.cell?_alloc_at _ _ _ _ rfl,
      lst_kept S1.l0 eW hr0 e0 hp0, lst_kept S1.l1 eW hr1 e1 hp1, lst_kept S1.l2 eW hr2 e2 hp2⟩,
    hB1.trans (eW.mono hB1.size)⟩

/-! ### ZZOnlyAtLeast, ZZOnlyBelow -/
def Filters (p : Int → Bool) (w w' : World) (r : Nat) (t0 t1 t2 : List (Nat × Int)) : Prop :=
  ∃ b0 b1 b2 d0 d1 d2, Sum w' r b0 b1 b2 (keptAll p t0).length (keptAll p t1).length (keptAll p t2).length d0 d1 d2 (keptAll p t0) (keptAll p t1) (keptAll p t2) 0 0 0 0

theorem onlyAtLeast (sp : Nat) (k : Int) (w : World) (a0 a1 a2 : Option Addr) (n0 n1 n2 c0 c1 c2 : Nat) (t0 t1 t2 : List (Nat × Int)) (z0 z1 z2 z3 : Int) (S : Sum w sp a0 a1 a2 n0 n1 n2 c0 c1 c2 t0 t1 t2 z0 z1 z2 z3) :
    Calls Try.prog 8 #[.pointer (some ⟨sp, 0, none⟩), .int .i64 k] w fun e w' => ∃ r, e = .returned (.pointer (some ⟨r, 0, none⟩)) ∧ Filters (fun l => decide (k ≤ l)) w w' r t0 t1 t2 ∧ Below w.heap.size w w' := by
  have hB : Below w.heap.size w (w.alloc (.cells #[.int .i64 k] 3)) := (Below.refl _ _).alloc (Nat.le_refl _) _
  have H := only 15 w.heap.size sp k (fun l => decide (k ≤ l)) (keeps15 k) (w.alloc (.cells #[.int .i64 k] 3)) (World.cell?_alloc_at _ _ _ _ rfl) (by simp) a0 a1 a2 n0 n1 n2 c0 c1 c2 t0 t1 t2 z0 z1 z2 z3 (S.below hB)
  clear S
  go_enter Try.func8, Try.ntmps8
  go_wp2_with fail
  refine H.mono ?_
  rintro e w' ⟨r, b0, b1, b2, d0, d1, d2, rfl, hS, hb⟩
  have HS : Hid (Filters (fun l => decide (k ≤ l)) w w' r t0 t1 t2) := ⟨b0, b1, b2, d0, d1, d2, hS⟩
  clear hS H
  go_wp2_with fail
  go_ret
  exact ⟨r, rfl, HS.out, hB.trans (hb.mono hB.size)⟩

theorem onlyBelow (sp : Nat) (k : Int) (w : World) (a0 a1 a2 : Option Addr) (n0 n1 n2 c0 c1 c2 : Nat) (t0 t1 t2 : List (Nat × Int)) (z0 z1 z2 z3 : Int) (S : Sum w sp a0 a1 a2 n0 n1 n2 c0 c1 c2 t0 t1 t2 z0 z1 z2 z3) :
    Calls Try.prog 9 #[.pointer (some ⟨sp, 0, none⟩), .int .i64 k] w fun e w' => ∃ r, e = .returned (.pointer (some ⟨r, 0, none⟩)) ∧ Filters (fun l => decide (l < k)) w w' r t0 t1 t2 ∧ Below w.heap.size w w' := by
  have hB : Below w.heap.size w (w.alloc (.cells #[.int .i64 k] 3)) := (Below.refl _ _).alloc (Nat.le_refl _) _
  have H := only 16 w.heap.size sp k (fun l => decide (l < k)) (keeps16 k) (w.alloc (.cells #[.int .i64 k] 3)) (World.cell?_alloc_at _ _ _ _ rfl) (by simp) a0 a1 a2 n0 n1 n2 c0 c1 c2 t0 t1 t2 z0 z1 z2 z3 (S.below hB)
  clear S
  go_enter Try.func9, Try.ntmps9
  go_wp2_with fail
  refine H.mono ?_
  rintro e w' ⟨r, b0, b1, b2, d0, d1, d2, rfl, hS, hb⟩
  have HS : Hid (Filters (fun l => decide (l < k)) w w' r t0 t1 t2) := ⟨b0, b1, b2, d0, d1, d2, hS⟩
  clear hS H
  go_wp2_with fail
  go_ret
  exact ⟨r, rfl, HS.out, hB.trans (hb.mono hB.size)⟩
end Go.Proofs.Qxb6614727a
