/- slices.IndexFunc and slices.DeleteFunc over lists of transactions, by 'drop'. -/
import Derived.Test.Qxb6614727aLeaf
import Derived.Laws.IdiomCopy
import Derived.Lib.SliceRun
namespace Go.Proofs.Qxb6614727a
open Go.RowKit
set_option linter.unusedVariables false

/-- The function value 'drop', captured at fb, over the predicate g at kb: all that a call of it reads. -/
structure Pred (g kb fb : Nat) (k : Int) (p : Int → Bool) (B : Nat) (w : World) : Prop where
  keeps : Keeps g k p
  kc : w.cell? ⟨kb, 0, none⟩ = some (.int .i64 k)
  fc : w.cell? ⟨fb, 0, none⟩ = some (.func (.func g) #[] #[.pointer (some ⟨kb, 0, none⟩)])
  lk : kb < B
  lf : fb < B
theorem Pred.below {g kb fb : Nat} {k : Int} {p : Int → Bool} {B : Nat} {w w' : World} (h : Pred g kb fb k p B w) (hb : Below B w w') : Pred g kb fb k p B w' :=
  ⟨h.keeps, (hb.cell h.lk).trans h.kc, (hb.cell h.lf).trans h.fc, h.lk, h.lf⟩
theorem Pred.mono {g kb fb : Nat} {k : Int} {p : Int → Bool} {B B' : Nat} {w : World} (h : Pred g kb fb k p B w) (hB : B ≤ B') : Pred g kb fb k p B' w :=
  ⟨h.keeps, h.kc, h.fc, Nat.lt_of_lt_of_le h.lk hB, Nat.lt_of_lt_of_le h.lf hB⟩
theorem Pred.call {g kb fb : Nat} {k : Int} {p : Int → Bool} {B : Nat} {w : World} (h : Pred g kb fb k p B w) (b : Nat) (l : Int) (h1 : w.cell? ⟨b, 1, none⟩ = some (.int .i64 l)) :
    Calls Try.prog 17 #[.pointer (some ⟨b, 0, none⟩), .pointer (some ⟨fb, 0, none⟩)] w fun e w' => e = .returned (.bool (!p l)) ∧ ∃ q, w' = w.drewN q :=
  drop g b kb fb k l p h.keeps w h1 h.kc h.fc

/-- What IndexFunc finds: -1, and p holds everywhere; or the first place where it does not. -/
def Found (p : Int → Bool) (ts : List (Nat × Int)) (n : Nat) (r : Int) : Prop :=
  (r = -1 ∧ ∀ i, i < n → p (tl ts i) = true) ∨ ∃ j : Nat, r = j ∧ j < n ∧ p (tl ts j) = false ∧ ∀ i, i < j → p (tl ts i) = true

theorem index (a : Option Addr) (n c B B' g kb fb : Nat) (k : Int) (p : Int → Bool) (ts : List (Nat × Int)) (w : World) (hn : ts.length = n) (hn2 : n ≤ 65536) (hP : Pred g kb fb k p B w) (ra : Row B' w a ts) (lv : Lv B w ts) :
    Calls Try.prog 20 #[.slice a n c, .func (.func 17) #[] #[.pointer (some ⟨fb, 0, none⟩)]] w fun e w' => ∃ r : Int, e = .returned (.int .i64 r) ∧ Found p ts n r ∧ ∃ q, w' = w.drewN q := by
  have Hn : Hid (ts.length = n) := hn
  have Hlv : Hid (Lv B w ts) := lv
  clear hn lv
  go_enter Try.func20, Try.ntmps20
  go_wp2_with fail
  go_loopw [5, 8] (fun _ i wr => ∃ k q : Nat, k ≤ n ∧ i = .int .i64 k ∧ wr = w.drewN q ∧ Hid (∀ j, j < k → p (tl ts j) = true)) (fun _ i _ => n - (intOf i).toNat)
  case atStart => exact ⟨0, 0, Nat.zero_le _, rfl, rfl, fun j hj => absurd hj (Nat.not_lt_zero _)⟩
  case round =>
    obtain ⟨x, q, hx, rfl, rfl, hall⟩ := hrel
    by_cases hlt : x < n
    · obtain ⟨x0, o0, rfl, y0, hc0⟩ := ra (by rw [Hn.out]; omega)
      have e0 := hc0 x (by rw [Hn.out]; omega)
      have hd := hP.call (tb ts x) (tl ts x) (Hlv.out.at (i := x) (by rw [Hn.out]; omega)).2
      have hd' : Calls Try.prog 17 #[.pointer (some ⟨tb ts x, 0, none⟩), .pointer (some ⟨fb, 0, none⟩)] (w.drewN q) fun e w' => e = .returned (.bool (!p (tl ts x))) ∧ ∃ q', w' = (w.drewN q).drewN q' :=
        Pred.call (w := w.drewN q) (B := B) ⟨hP.keeps, hP.kc, hP.fc, hP.lk, hP.lf⟩ (tb ts x) (tl ts x) (Hlv.out.at (i := x) (by rw [Hn.out]; omega)).2
      clear hc0 hd
      cases hp : p (tl ts x) with
      | true =>
        rw [hp] at hd'
        go_wp2_with (go_at_call 17; refine hd'.mono ?_; rintro e w' ⟨rfl, q', rfl⟩)
        go_roundw
        case rel =>
          refine ⟨x + 1, _, by omega, by go_num, rfl, ?_⟩
          intro j hj
          by_cases e : j = x
          · rw [e]; exact hp
          · exact hall.out j (by omega)
        case measure => simp [intOf]; omega
      | false =>
        rw [hp] at hd'
        go_wp2_with (go_at_call 17; refine hd'.mono ?_; rintro e w' ⟨rfl, q', rfl⟩)
        go_ret
        exact ⟨(x : Int), rfl, Or.inr ⟨x, rfl, hlt, hp, hall.out⟩, _, rfl⟩
    · obtain rfl : x = n := by omega
      go_wp2_with fail
      go_ret
      exact ⟨-1, rfl, Or.inl ⟨rfl, hall.out⟩, _, rfl⟩

/-! ### What is kept of the first j -/
def kept (p : Int → Bool) (ts : List (Nat × Int)) (j : Nat) : List (Nat × Int) := (ts.take j).filter fun t => p t.2
def keptAll (p : Int → Bool) (ts : List (Nat × Int)) : List (Nat × Int) := ts.filter fun t => p t.2
theorem at_eq {ts : List (Nat × Int)} {j : Nat} (h : j < ts.length) : ts[j] = (tb ts j, tl ts j) := by simp [tb, tl, List.getD_eq_getElem?_getD, h]
theorem kept_succ {p : Int → Bool} {ts : List (Nat × Int)} {j : Nat} (h : j < ts.length) : kept p ts (j + 1) = kept p ts j ++ (if p (tl ts j) = true then [(tb ts j, tl ts j)] else []) := by
  unfold kept
  rw [List.take_succ_eq_append_getElem h, List.filter_append, at_eq h]
  congr 1
  by_cases hp : p (tl ts j) = true
  · simp [hp]
  · simp [hp]
theorem kept_yes {p : Int → Bool} {ts : List (Nat × Int)} {j : Nat} (h : j < ts.length) (hp : p (tl ts j) = true) : kept p ts (j + 1) = kept p ts j ++ [(tb ts j, tl ts j)] := by
  rw [kept_succ h, if_pos hp]
theorem kept_no {p : Int → Bool} {ts : List (Nat × Int)} {j : Nat} (h : j < ts.length) (hp : p (tl ts j) = false) : kept p ts (j + 1) = kept p ts j := by
  rw [kept_succ h, if_neg (by rw [hp]; decide), List.append_nil]
theorem kept_end (p : Int → Bool) (ts : List (Nat × Int)) : kept p ts ts.length = keptAll p ts := by unfold kept keptAll; rw [List.take_length]
theorem kept_zero (p : Int → Bool) (ts : List (Nat × Int)) : kept p ts 0 = [] := rfl
theorem tb_push_old {l : List (Nat × Int)} {x : Nat × Int} {t : Nat} (h : t < l.length) : tb (l ++ [x]) t = tb l t := by
  unfold tb
  rw [List.getD_eq_getElem?_getD, List.getD_eq_getElem?_getD, List.getElem?_append_left h]
theorem tb_push_new {l : List (Nat × Int)} {x : Nat × Int} : tb (l ++ [x]) l.length = x.1 := by
  unfold tb
  rw [List.getD_eq_getElem?_getD, List.getElem?_append_right (Nat.le_refl _)]
  simp
theorem kept_first {p : Int → Bool} {ts : List (Nat × Int)} : ∀ {j : Nat}, j ≤ ts.length → (∀ i, i < j → p (tl ts i) = true) → (kept p ts j).length = j ∧ ∀ t, t < j → tb (kept p ts j) t = tb ts t
  | 0, _, _ => ⟨rfl, fun t ht => absurd ht (Nat.not_lt_zero _)⟩
  | j + 1, hj, hp => by
    obtain ⟨h1, h2⟩ := kept_first (p := p) (ts := ts) (j := j) (by omega) (fun i hi => hp i (by omega))
    rw [kept_yes (by omega) (hp j (by omega))]
    refine ⟨by simp [h1], fun t ht => ?_⟩
    by_cases e : t = j
    · subst e
      unfold tb
      rw [List.getD_eq_getElem?_getD, List.getElem?_append_right (by omega), h1]
      simp
    · rw [← h2 t (by omega), tb_push_old (by omega)]
theorem kept_len_le (p : Int → Bool) (ts : List (Nat × Int)) (j : Nat) : (kept p ts j).length ≤ j := by
  unfold kept
  exact Nat.le_trans (List.length_filter_le _ _) (by rw [List.length_take]; exact Nat.min_le_left _ _)

/-- w' is w, but for block g. -/
structure Same (g : Nat) (w w' : World) : Prop where
  os : w'.os = w.os
  tape : w'.tape = w.tape
  output : w'.output = w.output
  size : w'.heap.size = w.heap.size
  block : ∀ k, k ≠ g → w'.heap[k]? = w.heap[k]?
theorem Same.drewN (g : Nat) (w : World) (q : Nat) : Same g w (w.drewN q) := ⟨rfl, rfl, rfl, rfl, fun _ _ => rfl⟩
theorem Same.more {g : Nat} {w w' : World} (h : Same g w w') (q : Nat) : Same g w (w'.drewN q) := ⟨h.os, h.tape, h.output, h.size, h.block⟩
theorem Same.set {g : Nat} {w w' : World} (h : Same g w w') (o : Nat) (v : Value) : Same g w (w'.setCell ⟨g, o, none⟩ v) :=
  ⟨h.os, h.tape, h.output, by simpa using h.size, fun k hk => (Below.heap_setCell w' _ _ _ hk).trans (h.block k hk)⟩
theorem Same.sets {g : Nat} {w : World} : ∀ (vs : List Value) {w' : World} (o : Nat), Same g w w' → Same g w (w'.setCells g o vs)
  | [], _, _, h => h
  | v :: r, _, o, h => Same.sets r (o + 1) (h.set o v)
theorem Same.below {g : Nat} {w w' : World} (h : Same g w w') {B : Nat} (hB : B ≤ g) : Below B w w' :=
  ⟨h.os, h.tape, h.output, by rw [h.size]; exact Nat.le_refl _, fun k hk => h.block k (by omega)⟩
theorem Same.cell {g : Nat} {w w' : World} (h : Same g w w') {x : Addr} (hx : x.block ≠ g) : w'.cell? x = w.cell? x := World.cell?_of_block (w := w) (h.block x.block hx)

/-- Midway through DeleteFunc. -/
structure Mid (g n : Nat) (p : Int → Bool) (ts : List (Nat × Int)) (w wr : World) (i j : Nat) : Prop where
  same : Same g w wr
  low : ∀ t, t < i → wr.cell? ⟨g, t, none⟩ = some (.pointer (some ⟨tb (kept p ts j) t, 0, none⟩))
  high : ∀ t, j ≤ t → t < n → wr.cell? ⟨g, t, none⟩ = some (.pointer (some ⟨tb ts t, 0, none⟩))
  there : ∀ t, t < n → ∃ v, wr.cell? ⟨g, t, none⟩ = some v
  free : ∀ o, wr.frozen? ⟨g, o, none⟩ = false
  len : (kept p ts j).length = i
  lt : i < j
  le : j ≤ n

theorem Mid.skip {g n : Nat} {p : Int → Bool} {ts : List (Nat × Int)} {w wr : World} {i j : Nat} (h : Mid g n p ts w wr i j) (hn : ts.length = n) (hj : j < n) (hp : p (tl ts j) = false) (q : Nat) : Mid g n p ts w (wr.drewN q) i (j + 1) := by
  have e := kept_no (by omega) hp
  exact ⟨h.same.more q, fun t ht => by rw [e]; exact h.low t ht, fun t h1 h2 => h.high t (by omega) h2, h.there, h.free, by rw [e]; exact h.len, by have := h.lt; omega, hj⟩

theorem Mid.keep {g n : Nat} {p : Int → Bool} {ts : List (Nat × Int)} {w wr : World} {i j : Nat} (h : Mid g n p ts w wr i j) (hn : ts.length = n) (hj : j < n) (hp : p (tl ts j) = true) (q : Nat) :
    Mid g n p ts w ((wr.drewN q).setCell ⟨g, i, none⟩ (.pointer (some ⟨tb ts j, 0, none⟩))) (i + 1) (j + 1) := by
  have e := kept_yes (by omega) hp
  have hlt := h.lt
  obtain ⟨u, hu⟩ := h.there i (by omega)
  have hu' : (wr.drewN q).cell? ⟨g, i, none⟩ = some u := hu
  have ne : ∀ {t : Nat}, t ≠ i → (⟨g, i, none⟩ : Addr) ≠ ⟨g, t, none⟩ := fun hti e => hti (congrArg Addr.off e).symm
  refine ⟨(h.same.more q).set i _, fun t ht => ?_, fun t h1 h2 => ?_, fun t ht => ?_, fun o => ?_, by rw [e, List.length_append, h.len]; rfl, by omega, hj⟩
  · by_cases eq : t = i
    · subst eq
      rw [World.cell?_setCell_same _ _ _ hu', e]
      have := tb_push_new (l := kept p ts j) (x := (tb ts j, tl ts j))
      rw [h.len] at this
      rw [this]
    · rw [World.cell?_setCell_other _ _ _ _ (ne eq), e, tb_push_old (by rw [h.len]; omega)]
      exact h.low t (by omega)
  · rw [World.cell?_setCell_other _ _ _ _ (ne (by omega))]
    exact h.high t (by omega) h2
  · by_cases eq : t = i
    · subst eq; exact ⟨_, World.cell?_setCell_same _ _ _ hu'⟩
    · obtain ⟨v, hv⟩ := h.there t ht
      exact ⟨v, (World.cell?_setCell_other _ _ _ _ (ne eq)).trans hv⟩
  · rw [World.frozen?_setCell]; exact h.free o

theorem zero37 (w : World) : (zeroValue 37).run Try.prog w = .ok (.pointer none) w := Try.zeroValue37 w
theorem cells_ptr : (Value.pointer none).cells = #[Value.pointer none] := rfl
theorem clear37 (g n cap i : Nat) (ty : TypeId) (wr : World) (hi : i < n) (hc : ∀ t, t < n → ∃ v, wr.cell? ⟨g, t, none⟩ = some v) (hf : ∀ o, wr.frozen? ⟨g, o, none⟩ = false) :
    (Builtin.clear_ #[27] ty #[.slice (some ⟨g, i, none⟩) (n - i) (cap - i)]).run Try.prog wr = .ok (.tuple #[]) (wr.setCells g i (List.replicate (n - i) (.pointer none))) :=
  Lib.run_clear_slice wr 27 37 ty (.pointer none) Try.underlying27 zero37 cells_ptr rfl g i (n - i) (cap - i) (by omega) (fun j hj => by obtain ⟨v, hv⟩ := hc (i + j) (by omega); rw [hv]; rfl) (fun j _ => hf _)

/-- slices.DeleteFunc of a row of the call's own. -/
theorem deleteFunc (n cap B g kb fb gb : Nat) (k : Int) (p : Int → Bool) (ts : List (Nat × Int)) (w : World) (hn : ts.length = n) (hn2 : n ≤ 65536) (hcap : n ≤ cap) (hP : Pred gb kb fb k p B w) (lv : Lv B w ts) (hB : B ≤ g) (hg : g < w.heap.size)
    (hc : ∀ t, t < n → w.cell? ⟨g, t, none⟩ = some (.pointer (some ⟨tb ts t, 0, none⟩))) (hf : ∀ o, w.frozen? ⟨g, o, none⟩ = false) :
    Calls Try.prog 18 #[.slice (some ⟨g, 0, none⟩) n cap, .func (.func 17) #[] #[.pointer (some ⟨fb, 0, none⟩)]] w fun e w' => e = .returned (.slice (some ⟨g, 0, none⟩) (keptAll p ts).length cap) ∧
      Row w'.heap.size w' (some ⟨g, 0, none⟩) (keptAll p ts) ∧ Same g w w' := by
  have hix := index (some ⟨g, 0, none⟩) n cap B w.heap.size gb kb fb k p ts w hn hn2 hP (fun _ => ⟨g, 0, rfl, hg, fun i hi => by rw [Nat.zero_add]; exact hc i (by omega)⟩) lv
  have Hn : Hid (ts.length = n) := hn
  have Hlv : Hid (Lv B w ts) := lv
  have Hc : Hid (∀ t, t < n → w.cell? ⟨g, t, none⟩ = some (.pointer (some ⟨tb ts t, 0, none⟩))) := hc
  have Hf : Hid (∀ o, w.frozen? ⟨g, o, none⟩ = false) := hf
  clear hn lv hc hf
  go_enter Try.func18, Try.ntmps18
  go_wp2_with fail
  refine hix.mono ?_
  rintro e w' ⟨r, rfl, hr, q, rfl⟩
  have HR : Hid (Found p ts n r) := hr
  clear hr hix
  rcases HR.out with ⟨hr, hall⟩ | ⟨j0, hr, hj0, hp0, hall⟩
  · subst hr
    have Hall : Hid (∀ i, i < n → p (tl ts i) = true) := hall
    clear hall HR
    go_wp2_with fail
    go_ret
    obtain ⟨h1, h2⟩ := kept_first (p := p) (ts := ts) (j := n) (by rw [Hn.out]; exact Nat.le_refl _) Hall.out
    have e : kept p ts n = keptAll p ts := by rw [← Hn.out]; exact kept_end p ts
    rw [e] at h1 h2
    refine ⟨by rw [h1]; rfl, fun h0 => ⟨g, 0, rfl, hg, fun i hi => ?_⟩, Same.drewN g w _⟩
    rw [h1] at hi
    rw [h2 i hi, Nat.zero_add]
    exact Hc.out i hi
  · subst hr
    have hne : ((j0 : Int) == -1) = false := beq_eq_false_iff_ne.2 (by omega)
    have Hall : Hid (∀ i, i < j0 → p (tl ts i) = true) := hall
    have Hp0 : Hid (p (tl ts j0) = false) := hp0
    clear hall HR hp0
    have M0 : Hid (Mid g n p ts w (w.drewN q) j0 (j0 + 1)) := by
      obtain ⟨h1, h2⟩ := kept_first (p := p) (ts := ts) (j := j0) (by rw [Hn.out]; omega) Hall.out
      have e := kept_no (p := p) (ts := ts) (j := j0) (by rw [Hn.out]; omega) Hp0.out
      exact ⟨Same.drewN g w q, fun t ht => by rw [e, h2 t ht]; exact Hc.out t (by omega), fun t h1 h2 => Hc.out t h2, fun t ht => ⟨_, Hc.out t ht⟩, Hf.out, by rw [e]; exact h1, by omega, by omega⟩
    go_wp2_with fail
    go_loopw [5, 6, 7] (fun x y _ wr => ∃ i j : Nat, x = .int .i64 i ∧ y = .int .i64 j ∧ i < j ∧ j ≤ n ∧ Hid (Mid g n p ts w wr i j)) (fun _ y _ _ => n - (intOf y).toNat)
    case atStart => exact ⟨j0, j0 + 1, rfl, by go_num, by omega, by omega, M0⟩
    case round =>
      obtain ⟨i, j, rfl, rfl, hij, hjn, HM⟩ := hrel
      clear M0
      rename_i wr _
      by_cases hlt : j < n
      · have cj := HM.out.high j (Nat.le_refl _) hlt
        obtain ⟨ui, ci⟩ := HM.out.there i (by omega)
        have fi := HM.out.free i
        have hbl : Below B w wr := HM.out.same.below hB
        have hd := (hP.below hbl).call (tb ts j) (tl ts j) ((Hlv.out.below hbl).at (i := j) (by rw [Hn.out]; omega)).2
        cases hp : p (tl ts j) with
        | true =>
          rw [hp] at hd
          go_wp2_with (go_at_call 17; refine hd.mono ?_; rintro e w' ⟨rfl, q', rfl⟩)
          go_roundw
          case rel => exact ⟨i + 1, j + 1, by go_num, by go_num, by omega, by omega, HM.out.keep Hn.out hlt hp q'⟩
          case measure => simp [intOf]; omega
        | false =>
          rw [hp] at hd
          go_wp2_with (go_at_call 17; refine hd.mono ?_; rintro e w' ⟨rfl, q', rfl⟩)
          go_roundw
          case rel => exact ⟨i, j + 1, rfl, by go_num, by omega, by omega, HM.out.skip Hn.out hlt hp q'⟩
          case measure => simp [intOf]; omega
      · obtain rfl : j = n := by omega
        have hcl := fun ty => clear37 g j cap i ty wr hij HM.out.there HM.out.free
        go_wp2_with fail
        go_ret
        have M := HM.out
        have e : kept p ts j = keptAll p ts := by rw [← Hn.out]; exact kept_end p ts
        have hl := M.len
        rw [e] at hl
        refine ⟨by rw [hl]; rfl, fun h0 => ⟨g, 0, rfl, ?_, fun t ht => ?_⟩, Same.sets _ i M.same⟩
        · rw [(Same.sets _ i M.same).size]; exact hg
        · rw [hl] at ht
          rw [Nat.zero_add, World.cell?_setCells_out g _ i wr ⟨g, t, none⟩ (fun _ _ => Or.inl ht)]
          have := M.low t ht
          rw [e] at this
          exact this
end Go.Proofs.Qxb6614727a
