/- Seat b6614675a: the call of ZZtakeIn as the laws see it: one contract for every way; what makes the thread list and the dfa; the copies. -/
import Derived.Test.Qxb6614675aList
import Derived.Test.Qxb6614675aTake
import Derived.Laws.IdiomCopy
namespace Go.Proofs.Qxb6614675a
open Go.RowKit
set_option linter.unusedVariables false

/-- f, but v at the place that the integer K names (at -1: nowhere). -/
def updI (f : Nat → Int) (K v : Int) (j : Nat) : Int := if (j : Int) = K then v else f j
theorem updI_none (f : Nat → Int) (v : Int) : updI f (-1) v = f := by funext j; simp only [updI]; rw [if_neg (by omega)]
theorem updI_nat (f : Nat → Int) (i : Nat) (v : Int) : updI f i v = upd f i v := by
  funext j
  simp only [updI, upd]
  by_cases h : j = i
  · rw [if_pos (by omega), if_pos h]
  · rw [if_neg (by omega), if_neg h]
theorem updI_pos (f : Nat → Int) (K v : Int) (h0 : 0 ≤ K) : updI f K v = upd f K.toNat v := by
  have e := updI_nat f K.toNat v
  rw [Int.toNat_of_nonneg h0] at e
  exact e
theorem updI_idem (f : Nat → Int) (K v : Int) : updI (updI f K v) K v = updI f K v := by
  funext j
  simp only [updI]
  by_cases h : (j : Int) = K
  · rw [if_pos h, if_pos h]
  · rw [if_neg h]

/-- What the law has found out ahead of the call: K the place (or -1), M the merged state, SL the place among the marks. -/
def Plan (P S T : Nat → Int) (n m : Nat) (tp ts t lane id K M SL : Int) : Prop :=
  (¬ lane = 0 ∧ K = -1 ∧ M = 0 ∧ SL = -1) ∨ (lane = 0 ∧ Miss P S n tp ts ∧ K = -1 ∧ M = 0 ∧ SL = -1) ∨
  (lane = 0 ∧ ∃ i : Nat, K = i ∧ Hit P S n tp ts i ∧ Mergeable (T i) t ∧ M = mrg (T i) t ∧ 0 ≤ M ∧ M ≤ 65536 ∧ 2 * M + id < m ∧ SL = 2 * M + id)

theorem mrg_again {s t : Int} (h : Mergeable s t) : Mergeable (mrg s t) t ∧ mrg (mrg s t) t = mrg s t := by
  unfold Mergeable mrg at *
  by_cases h1 : s = t ∨ s = 0
  · simp [h1]
  · have h3 : t = 0 := by rcases h with h | h | h <;> first | exact absurd (Or.inl h) h1 | exact absurd (Or.inr h) h1 | exact h
    have h2 : ¬ s = 0 := fun c => h1 (Or.inr c)
    subst h3
    simp [h2]

/-- A second call finds the same. -/
theorem Plan.again {P S T : Nat → Int} {n m : Nat} {tp ts t lane id K M SL : Int} (h : Plan P S T n m tp ts t lane id K M SL) :
    Plan P S (updI T K M) n m tp ts t lane id K M SL := by
  rcases h with h | h | ⟨hl, i, hK, hH, hM, e, h0, h1, h2, h3⟩
  · exact Or.inl h
  · exact Or.inr (Or.inl h)
  · refine Or.inr (Or.inr ⟨hl, i, hK, hH, ?_, ?_, h0, h1, h2, h3⟩)
    · simp only [updI]; rw [if_pos hK.symm, e]; exact (mrg_again hM).1
    · simp only [updI]; rw [if_pos hK.symm, e]; exact (mrg_again hM).2.symm

/-- ZZtakeIn, by one contract. -/
theorem ztakeIn (lp dp nb lb sb n m : Nat) (P S T sn : Nat → Int) (id gen tp ts t lane K M SL : Int) (w : World) (hn : n ≤ 65536) (hm : m ≤ 65536) (i0 : 0 ≤ id) (i1 : id ≤ 1)
    (L : Lay w lp dp nb lb sb n m P S T sn id gen) (hp : Plan P S T n m tp ts t lane id K M SL) :
    Calls Try.prog 15 #[.pointer (some ⟨lp, 0, none⟩), .int .i64 tp, .int .i64 ts, .int .i32 t, .int .i64 lane, .pointer (some ⟨dp, 0, none⟩)] w fun e w' =>
      e = .returned (.bool (decide (0 ≤ K))) ∧ Lay w' lp dp nb lb sb n m P S (updI T K M) (updI sn SL gen) id gen ∧ Below sb w w' ∧ Apart lb sb w w' := by
  rcases hp with ⟨hl, rfl, rfl, rfl⟩ | ⟨rfl, hmiss, rfl, rfl, rfl⟩ | ⟨rfl, i, rfl, hH, hM, rfl, h0, h1, h2, rfl⟩
  · refine (ztakeIn_lane _ _ tp ts t lane w hl).mono ?_
    rintro e w' ⟨rfl, hb⟩
    rw [updI_none, updI_none]
    exact ⟨rfl, L.below hb, hb.mono (Nat.le_of_lt L.lsb), Apart.below hb⟩
  · refine (ztakeIn_miss lp dp nb lb sb n m P S T sn id gen tp ts t w hn L hmiss).mono ?_
    rintro e w' ⟨rfl, hb⟩
    rw [updI_none, updI_none]
    exact ⟨rfl, L.below hb, hb.mono (Nat.le_of_lt L.lsb), Apart.below hb⟩
  · refine (ztakeIn_hit lp dp nb lb sb n m i P S T sn id gen tp ts t w hn hm L hH.1 hH.2.1 hH.2.2.1 hH.2.2.2 hM i0 i1 h0 h1 h2).mono ?_
    rintro e w' ⟨rfl, hL, hb, ha⟩
    rw [updI_nat, updI_pos _ _ _ (by omega)]
    exact ⟨by rw [decide_eq_true (by omega)], hL, hb, ha⟩

/-! ### A row of integers of the call's own, at block g -/
structure RowTo (kd : IntKind) (g : Nat) (wr : World) (m k : Nat) (f : Nat → Int) : Prop where
  cell : ∀ i, i < k → wr.cell? ⟨g, i, none⟩ = some (.int kd (f i))
  there : ∀ i, i < m → ∃ v, wr.cell? ⟨g, i, none⟩ = some v
  free : ∀ o, wr.frozen? ⟨g, o, none⟩ = false
  lt : g < wr.heap.size

theorem RowTo.zero (kd : IntKind) (w : World) (m : Nat) (z : Value) (E : TypeId) (f : Nat → Int) : RowTo kd w.heap.size (w.alloc (.cells (madeCells #[z] m) E)) m 0 f where
  cell := fun i hi => absurd hi (Nat.not_lt_zero _)
  there := fun o ho => by
    have hs : o < (madeCells #[z] m).size := by rw [size_madeCells]; exact ho
    exact ⟨_, (World.cell?_alloc_at _ _ _ _ rfl).trans (Array.getElem?_eq_getElem hs)⟩
  free := fun o => World.frozen?_alloc_at _ _ _ _ rfl
  lt := by simp

theorem RowTo.step {kd : IntKind} {g : Nat} {wr : World} {m k : Nat} {f : Nat → Int} (h : RowTo kd g wr m k f) (hk : k < m) : RowTo kd g (wr.setCell ⟨g, k, none⟩ (.int kd (f k))) m (k + 1) f := by
  obtain ⟨x, d⟩ := h.there k hk
  have ne : ∀ {b i j : Nat}, i ≠ j → (⟨b, i, none⟩ : Addr) ≠ ⟨b, j, none⟩ := fun hij e => hij (congrArg Addr.off e)
  have p := Puts.set0 (.int kd (f k)) d
  generalize wr.setCell ⟨g, k, none⟩ (.int kd (f k)) = w1 at p ⊢
  refine ⟨fun i hi => ?_, fun i hi => ?_, fun o => (p.frozen _).trans (h.free o), p.size ▸ h.lt⟩
  · by_cases e : i = k
    · rw [e]; exact p.here
    · exact (p.cell _ (ne (Ne.symm e))).trans (h.cell i (by omega))
  · by_cases e : i = k
    · rw [e]; exact ⟨_, p.here⟩
    · obtain ⟨v, hv⟩ := h.there i hi
      exact ⟨v, (p.cell _ (ne (Ne.symm e))).trans hv⟩

theorem RowTo.below {kd : IntKind} {g : Nat} {w w' : World} {m k : Nat} {f : Nat → Int} (h : RowTo kd g w m k f) {B : Nat} (hb : Below B w w') (hB : g < B) : RowTo kd g w' m k f :=
  ⟨fun i hi => (hb.cell hB).trans (h.cell i hi), fun i hi => by obtain ⟨v, hv⟩ := h.there i hi; exact ⟨v, (hb.cell hB).trans hv⟩, fun o => (hb.frozen hB).trans (h.free o), Nat.lt_of_lt_of_le h.lt hb.size⟩

theorem RowTo.congr {kd : IntKind} {g : Nat} {w : World} {m k : Nat} {f f' : Nat → Int} (h : RowTo kd g w m k f) (e : ∀ i, i < k → f i = f' i) : RowTo kd g w m k f' :=
  ⟨fun i hi => by rw [← e i hi]; exact h.cell i hi, h.there, h.free, h.lt⟩

theorem RowTo.rd {kd : IntKind} {g : Nat} {w : World} {m : Nat} {f : Nat → Int} (h : RowTo kd g w m m f) {B : Nat} (hB : g < B) : Rd kd B w (some ⟨g, 0, none⟩) m f :=
  fun _ => ⟨g, 0, rfl, hB, fun i hi => by rw [Nat.zero_add]; exact h.cell i hi⟩

/-! ### copy(zzc, xs) into the row just made -/
theorem setCells_below (g : Nat) : ∀ (vs : List Value) (o : Nat) (w : World), Below g w (w.setCells g o vs)
  | [], _, _ => Below.refl _ _
  | v :: r, o, w => ((Below.refl g w).setCell (p := ⟨g, o, none⟩) (Nat.le_refl _) v).trans (setCells_below g r (o + 1) _)

theorem copy_in {kd : IntKind} {Ty El : TypeId} (hu : Try.prog.underlying Ty = some (.slice El)) (hs : (Try.prog.info? El).map (·.size) = some 1) (ty : TypeId) (x : Addr) (c n : Nat) (f : Nat → Int) (w : World) (r : Rd kd w.heap.size w (some x) n f) :
    ∃ W2, (Builtin.copy_ #[Ty, Ty] ty #[.slice (some ⟨w.heap.size, 0, none⟩) n n, .slice (some x) n c]).run Try.prog (w.alloc (.cells (madeCells #[.int kd 0] n) El)) = .ok (goInt n) W2 ∧
      Rd kd W2.heap.size W2 (some ⟨w.heap.size, 0, none⟩) n f ∧ Below w.heap.size w W2 := by
  have hlen : ((List.range n).map fun i => Value.int kd (f i)).length = n := by simp
  have hz := RowTo.zero kd w n (.int kd 0) El f
  have hrun := run_copy_cells (P := Try.prog) (w.alloc (.cells (madeCells #[.int kd 0] n) El)) Ty Ty ty El w.heap.size 0 n n x n c ((List.range n).map fun i => Value.int kd (f i)) hu hs (by rw [hlen]; exact (Nat.min_self n).symm)
    (fun j v hj => by
      have hjn : j < n := by
        rcases Nat.lt_or_ge j n with h | h
        · exact h
        · rw [List.getElem?_eq_none (by rw [hlen]; exact h)] at hj; exact absurd hj (by simp)
      obtain ⟨b, o, e, hb, hc⟩ := r (by omega)
      simp only [Option.some.injEq] at e
      subst e
      have hv : v = .int kd (f j) := by simpa [hjn] using hj.symm
      rw [hv]
      have ha : (⟨b, o, none⟩ : Addr).add j = ⟨b, o + j, none⟩ := by unfold Addr.add; split <;> simp_all
      rw [ha]
      exact (World.cell?_alloc_past _ _ _ hb).trans (hc j hjn))
    (fun j hj => by
      rw [hlen] at hj
      obtain ⟨v, hv⟩ := hz.there j hj
      rw [Nat.zero_add, hv]; rfl)
    (fun j hj => by rw [Nat.zero_add]; exact hz.free j)
    (fun v hv => by
      simp only [List.mem_map] at hv
      obtain ⟨i, _, rfl⟩ := hv
      rfl)
  rw [hlen] at hrun
  refine ⟨_, hrun, fun hn => ⟨w.heap.size, 0, rfl, ?_, fun i hi => ?_⟩, ?_⟩
  · exact Nat.lt_of_lt_of_le (by simp) (setCells_below w.heap.size _ 0 _).size
  · have h := World.cell?_setCells_in w.heap.size ((List.range n).map fun i => Value.int kd (f i)) 0 (w.alloc (.cells (madeCells #[.int kd 0] n) El)) (fun j hj => by
      rw [hlen] at hj
      obtain ⟨v, hv⟩ := hz.there j hj
      rw [Nat.zero_add, hv]; rfl) i (by rw [hlen]; exact hi)
    simpa using h
  · exact ((Below.refl _ _).alloc (Nat.le_refl _) _).trans (setCells_below _ _ _ _)
end Go.Proofs.Qxb6614675a
