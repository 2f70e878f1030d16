/- The proof of 'Rows.FnTimeoutOrdersAndSpacesBySecondsSaid': the guide's shell at this function's number and types; the walk is filled in by hand. -/
import Derived.Test.Qxb6614524aRows
import Derived.Test.Qxb6614524aShared
import Derived.WalkKit
import Derived.ProofKit
import Derived.OpenShut
import Derived.ShutString
namespace Go.Proofs.Qxb6614524a.fnTimeoutOrdersAndSpacesBySeconds
open Go.ChangeShapes Go.WideShapes Go.ChangeAt Go.RowKit
open Go.ChangeMaps (open_string shut_string)
set_option linter.unusedVariables false      -- a walk need not use every 'w<i>' (that an integer argument fits its kind)

theorem own : ownKnob Try.prog.godebug = none := by kernel_rfl

theorem grown_trans {u v x : World} (h : Grown u v) (g : Grown v x) : Grown u x :=
  ⟨World.keptBut_trans h.1 g.1, fun a => (g.2.1 a).trans (h.2.1 a), Nat.le_trans h.2.2 g.2.2⟩

theorem ret_bool {x : Bool} (h : x = true) : Ending.returned (.bool x) = .returned (.bool true) := by rw [h]
/-- the plain law: the two timeouts lie exactly so many seconds apart, reckoned in 64 bits without sign -/
theorem apart (a b : Int) (h1 : -9223372036 ≤ a) (h2 : a ≤ 9223372036) (h3 : -9223372036 ≤ b) (h4 : b ≤ 9223372036) (h5 : b ≤ a) :
    (IntKind.u64.wrap (IntKind.u64.wrap (a * 1000000000) - IntKind.u64.wrap (b * 1000000000)) == (a - b) * 1000000000) = true := by
  rw [beq_iff_eq]
  simp [IntKind.wrap, IntKind.bits, IntKind.signed]
  omega
theorem walk_swap (a b : Int) (h1 : -9223372036 ≤ a) (h2 : a ≤ 9223372036) (h3 : -9223372036 ≤ b) (h4 : b ≤ 9223372036) (h5 : b < a) (w : World) :
    Calls Try.prog 4 #[.int .i64 a, .int .i64 b] w fun e w' => e = .returned (.bool true) ∧ Grown w w' := by
  have n1 : ¬ 9223372036 < a := by omega
  have n2 : ¬ a < -9223372036 := by omega
  have n3 : ¬ 9223372036 < b := by omega
  have n4 : ¬ b < -9223372036 := by omega
  have n5 : b * 1000000000 ≤ a * 1000000000 := by omega
  go_enter Try.func4, Try.ntmps4
  go_wp2_with fail
  refine (ns b h3 h4 _).mono ?_
  rintro e w1 ⟨rfl, g1⟩
  go_wp2_with fail
  refine (ns a h1 h2 _).mono ?_
  rintro e w2 ⟨rfl, g2⟩
  go_wp2_with fail
  go_ret
  exact ⟨ret_bool (apart a b h1 h2 h3 h4 (by omega)), grown_trans g1 g2⟩
theorem walk_stay (a b : Int) (h1 : -9223372036 ≤ a) (h2 : a ≤ 9223372036) (h3 : -9223372036 ≤ b) (h4 : b ≤ 9223372036) (h5 : ¬ b < a) (w : World) :
    Calls Try.prog 4 #[.int .i64 a, .int .i64 b] w fun e w' => e = .returned (.bool true) ∧ Grown w w' := by
  have n1 : ¬ 9223372036 < a := by omega
  have n2 : ¬ a < -9223372036 := by omega
  have n3 : ¬ 9223372036 < b := by omega
  have n4 : ¬ b < -9223372036 := by omega
  have n5 : a * 1000000000 ≤ b * 1000000000 := by omega
  go_enter Try.func4, Try.ntmps4
  go_wp2_with fail
  refine (ns a h1 h2 _).mono ?_
  rintro e w1 ⟨rfl, g1⟩
  go_wp2_with fail
  refine (ns b h3 h4 _).mono ?_
  rintro e w2 ⟨rfl, g2⟩
  go_wp2_with fail
  go_ret
  exact ⟨ret_bool (apart b a h3 h4 h1 h2 (by omega)), grown_trans g1 g2⟩
theorem walk_a (a b : Int) (h : 9223372036 < a ∨ a < -9223372036) (w : World) :
    Calls Try.prog 4 #[.int .i64 a, .int .i64 b] w fun e w' => e = .returned (.bool true) ∧ Grown w w' := by
  by_cases h1 : 9223372036 < a
  · go_enter Try.func4, Try.ntmps4
    go_wp2
    go_ret
    exact ⟨rfl, Grown.refl _⟩
  · have h2 : a < -9223372036 := by omega
    go_enter Try.func4, Try.ntmps4
    go_wp2
    go_ret
    exact ⟨rfl, Grown.refl _⟩
theorem walk_b (a b : Int) (h1 : ¬ 9223372036 < a) (h2 : ¬ a < -9223372036) (h : 9223372036 < b ∨ b < -9223372036) (w : World) :
    Calls Try.prog 4 #[.int .i64 a, .int .i64 b] w fun e w' => e = .returned (.bool true) ∧ Grown w w' := by
  by_cases h3 : 9223372036 < b
  · go_enter Try.func4, Try.ntmps4
    go_wp2
    go_ret
    exact ⟨rfl, Grown.refl _⟩
  · have h4 : b < -9223372036 := by omega
    go_enter Try.func4, Try.ntmps4
    go_wp2
    go_ret
    exact ⟨rfl, Grown.refl _⟩

/-! ### STEP 1: THE WALK: the Go text returns true. 'Grown w w'': the world has at most new blocks (Derived/RowKit3.lean). Part the cases AHEAD of 'go_enter' where a test parts the walk; take each callee by a contract of your own. -/
theorem walk (a0 : Int) (a1 : Int) (w0 : (Lit.int .i64 a0).wf = true) (w1 : (Lit.int .i64 a1).wf = true) (w : World) :
    Calls Try.prog 4 #[.int .i64 a0, .int .i64 a1] w fun e w' => e = .returned (.bool true) ∧ Grown w w' := by
  by_cases ha : 9223372036 < a0 ∨ a0 < -9223372036
  · exact walk_a a0 a1 ha w
  by_cases hb : 9223372036 < a1 ∨ a1 < -9223372036
  · exact walk_b a0 a1 (by omega) (by omega) hb w
  by_cases hs : a1 < a0
  · exact walk_swap a0 a1 (by omega) (by omega) (by omega) (by omega) hs w
  exact walk_stay a0 a1 (by omega) (by omega) (by omega) (by omega) hs w

/-! ### THE ROW's STEP: WRITTEN OUT: LEAVE IT -/
set_option maxRecDepth 100000 in
theorem lifted (os : Os) (started : os.Started) (H : Type) (enc : TypeId × Value → H) :
    ReturnsInHanded {} Try.checked os 4 .any (Rows.fnTimeoutOrdersAndSpacesBySecondsSpec.pre6 enc Try.prog Try.f4 Rows.fnTimeoutOrdersAndSpacesBySecondsRow.domain false) (Rows.fnTimeoutOrdersAndSpacesBySecondsSpec.post enc Try.prog Try.f4 false true false false) := by
  refine returnsInHanded_of_change (C := Try.checked) own started (by kernel_rfl) Try.func4
    (ChangeSpec.witness6 (enc := enc) (C := Try.checked) false ⟨#[], #[.int .i64 0, .int .i64 0], []⟩ 8 (by kernel_rfl) (by kernel_rfl) (by kernel_rfl) (by kernel_rfl)) ?_
  intro W base args ds gs before hval0 hW hcnd _
  have hval : ∀ (j : Nat) t v, Try.f4.params[j]? = some t → args[j]? = some v → Value.okWide Try.prog W .any base t v := hval0
  have hW' := hW
  obtain ⟨p, q, hA0, hV, rfl, hfz, hnd⟩ := hW
  have hA : DataW.TrodAll enc Try.prog W 0 (fun _ => true) true Try.f4.params.toList args.toList ds p := hA0
  rw [Try.params4] at hA hval
  obtain ⟨v0, vs0, d0, ds0, p0, q0, hargs, rfl, rfl, h0, r0⟩ := trodAll_cons hA
  obtain ⟨v1, vs1, d1, ds1, p1, q1, rfl, rfl, rfl, h1, r1⟩ := trodAll_cons r0
  obtain ⟨rfl, rfl, rfl⟩ := trodAll_nil r1
  obtain rfl : args = #[v0, v1] := by cases args; simp_all
  obtain ⟨rfl, rfl⟩ := trodVars_none hV
  obtain ⟨a0, rfl, rfl, rfl, w0⟩ := open_int Try.underlying3 (hval 0 3 v0 rfl rfl) h0
  obtain ⟨a1, rfl, rfl, rfl, w1⟩ := open_int Try.underlying3 (hval 1 3 v1 rfl rfl) h1
  clear hA0 hval0
  simp only [List.append_nil] at hW'
  refine (walk a0 a1 w0 w1 W).mono fun e W' ⟨he, hg⟩ => ?_
  subst he
  exact ⟨_, rfl, post_of_same (pa := []) (pv := []) hW' (fun _ _ _ => (trodAll_cons_mk (shut_bool Try.underlying4 _) trodAll_mk0)) (fun sp _ => (trodAll_cons_mk (shut_int Try.underlying3 w0) (trodAll_cons_mk (shut_int Try.underlying3 w1) trodAll_mk0))) (fun _ _ => rfl) rfl
    (hg.frame _) hg.2.1 (ok_one (by kernel_rfl) rfl (okWide_bool_mk Try.underlying4 _))⟩

theorem over : Rows.fnTimeoutOrdersAndSpacesBySecondsRow.holds Try.pinned (OpenSpec.ofChange Rows.fnTimeoutOrdersAndSpacesBySecondsSpec) :=
  OpenClaim.holds_of_wide 4 Try.f4 rfl rfl rfl rfl rfl rfl rfl ⟨rfl, rfl, rfl, rfl, rfl⟩ rfl rfl rfl rfl rfl (by kernel_rfl) Try.func4 (by kernel_rfl)
    (of_decide_eq_true (by kernel_rfl)) (by unfold Func.isWrapper; first | (rw [if_pos (by decide +kernel)]; kernel_rfl) | (rw [if_neg (by decide +kernel)]; exact ⟨rfl, rfl⟩))
    (fun os started H enc _ => lifted os started H enc)

/-- ████ THE STATEMENT ████ -/
theorem proved : Rows.FnTimeoutOrdersAndSpacesBySecondsSaid :=
  over
end Go.Proofs.Qxb6614524a.fnTimeoutOrdersAndSpacesBySeconds
