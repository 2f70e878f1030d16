/- The second law's last stage. -/
import Derived.Test.Qxb6614727aStrictL
namespace Go.Proofs.Qxb6614727a.fnOnlyComposesToTheStricterFilter
open Go.RowKit
set_option linter.unusedVariables false

/-- A callee that turns nothing, met in the world 'w.drewN n'. -/
theorem quiet_same {P : Program} {f : FuncId} {args : Array Value} {w : World} {n : Nat} {v : Value} (h : Calls P f args (w.drewN n) fun e w' => e = .returned v ∧ w.drewN n = w') :
    Calls P f args (w.drewN n) fun e w'' => e = .returned v ∧ ∃ m, w'' = w.drewN m :=
  h.mono fun _ _ ⟨he, hm⟩ => ⟨he, n, hm.symm⟩

set_option maxHeartbeats 4000000 in
set_option maxRecDepth 100000 in
theorem f4_Z (w wc : World) (fp tp dp : Nat) (m : Int) (a0 a1 a2 : Option Addr) (n0 n1 n2 c0 c1 c2 N0 N1 N2 : Nat) (t0 t1 t2 : List (Nat × Int)) (f0 f1 f2 : Nat → Int) (hn0 : n0 ≤ 65536) (hn1 : n1 ≤ 65536) (hn2 : n2 ≤ 65536)
    (i0 : Rd wc.heap.size wc a0 n0 f0) (i1 : Rd wc.heap.size wc a1 n1 f1) (i2 : Rd wc.heap.size wc a2 n2 f2) (hc0 : N0 = cnt f0 m n0) (hc1 : N1 = cnt f1 m n1) (hc2 : N2 = cnt f2 m n2) (hb : Below w.heap.size w wc)
    (x0 x1 x2 y0 y1 y2 : Option Addr) (u0 u1 u2 v0 v1 v2 : Nat) (T : Sum wc tp x0 x1 x2 N0 N1 N2 u0 u1 u2 (keptAll (fun l => decide (m ≤ l)) t0) (keptAll (fun l => decide (m ≤ l)) t1) (keptAll (fun l => decide (m ≤ l)) t2) 0 0 0 0) (D : Sum wc dp y0 y1 y2 N0 N1 N2 v0 v1 v2 (keptAll (fun l => decide (m ≤ l)) t0) (keptAll (fun l => decide (m ≤ l)) t1) (keptAll (fun l => decide (m ≤ l)) t2) 0 0 0 0)
    (lf : fp < wc.heap.size) (k0 : wc.cell? ⟨fp, 3, none⟩ = some (.int .i64 0)) (k1 : wc.cell? ⟨fp, 4, none⟩ = some (.int .i64 0)) (k2 : wc.cell? ⟨fp, 5, none⟩ = some (.int .i64 0)) (k3 : wc.cell? ⟨fp, 6, none⟩ = some (.int .i64 0))
    (g3 g4 g5 g6 g7 g8 g9 g10 g11 g12 g13 g14 g15 g16 g17 g18 g20 g24 g25 g26 g27 g28 g29 g30 g31 g32 g33 g34 g35 g36 g37 g38 g39 g40 g41 g42 g43 g44 g45 g46 g47 g48 g49 g50 g51 g52 g53 g54 g55 g56 g57 g58 g59 g60 g61 g62 g63 g64 g65 g66 g67 g68 g69 g70 g71 g72 g73 g74 g75 g76 g77 g78 g79 g80 g81 g82 g83 g84 g85 g86 g87 g88 g89 g90 g91 g92 g93 g94 g95 g96 g97 g98 g99 g100 g101 g102 g103 g104 g105 g106 g107 g108 g109 g110 g111 g112 g113 g114 g115 g116 g117 g118 g119 g120 g121 g122 g123 g124 g125 g126 g127 g128 g129 g130 g131 g132 g133 g134 g135 g136 g137 g138 g139 g140 g141 g142 g143 g144 g145 g146 g147 g148 g149 g150 g151 g152 g153 g154 g155 g156 g157 g158 g159 g160 g161 g162 g163 g164 g165 g166 g167 g168 : Value) :
    Code.wp Try.prog (tailAt 12 (Try.f4.body.getD .skip)) (bodyPost Try.prog Try.f4 fun e w' => e = .returned (.bool true) ∧ Below w.heap.size w w') ⟨#[.slice a0 n0 c0, .slice a1 n1 c1, .slice a2 n2 c2, g3, g4, g5, g6, g7, g8, g9, g10, g11, g12, g13, g14, g15, g16, g17, g18, .int .i64 m, g20, .pointer (some ⟨fp, 0, none⟩), .pointer (some ⟨tp, 0, none⟩), .pointer (some ⟨dp, 0, none⟩), g24, g25, g26, g27, g28, g29, g30, g31, g32, g33, g34, g35, g36, g37, g38, g39, g40, g41, g42, g43, g44, g45, g46, g47, g48, g49, g50, g51, g52, g53, g54, g55, g56, g57, g58, g59, g60, g61, g62, g63, g64, g65, g66, g67, g68, g69, g70, g71, g72, g73, g74, g75, g76, g77, g78, g79, g80, g81, g82, g83, g84, g85, g86, g87, g88, g89, g90, g91, g92, g93, g94, g95, g96, g97, g98, g99, g100, g101, g102, g103, g104, g105, g106, g107, g108, g109, g110, g111, g112, g113, g114, g115, g116, g117, g118, g119, g120, g121, g122, g123, g124, g125, g126, g127, g128, g129, g130, g131, g132, g133, g134, g135, g136, g137, g138, g139, g140, g141, g142, g143, g144, g145, g146, g147, g148, g149, g150, g151, g152, g153, g154, g155, g156, g157, g158, g159, g160, g161, g162, g163, g164, g165, g166, g167, g168], []⟩ wc := by
  show Code.wp Try.prog (.seq (headOf (tailAt 12 (Try.f4.body.getD .skip))) (.seq (headOf (tailAt 13 (Try.f4.body.getD .skip))) (tailAt 14 (Try.f4.body.getD .skip)))) _ _ _
  conv => arg 2; arg 1; whnf
  conv => arg 2; arg 2; arg 1; whnf
  conv => arg 2; arg 2; arg 2; whnf
  have H0 : Hid ((keptAll (fun l => decide (m ≤ l)) t0).length = N0) := T.l0.len
  have H1 : Hid ((keptAll (fun l => decide (m ≤ l)) t1).length = N1) := T.l1.len
  have H2 : Hid ((keptAll (fun l => decide (m ≤ l)) t2).length = N2) := T.l2.len
  have e0 : ((N0 : Int) == (cnt f0 m n0 : Nat)) = true := by rw [← hc0]; exact beq_iff_eq.2 rfl
  have e1 : ((N1 : Int) == (cnt f1 m n1 : Nat)) = true := by rw [← hc1]; exact beq_iff_eq.2 rfl
  have e2 : ((N2 : Int) == (cnt f2 m n2 : Nat)) = true := by rw [← hc2]; exact beq_iff_eq.2 rfl
  clear hc0 hc1 hc2
  have hT := T.lt
  have hD := D.lt
  have h0 := T.f0
  have h1 := T.f1
  have h2 := T.f2
  have h3 := T.g0
  have h4 := T.g1
  have h5 := T.g2
  have h6 := T.g3
  have l0 := D.f0
  have l1 := D.f1
  have l2 := D.f2
  have l3 := D.g0
  have l4 := D.g1
  have l5 := D.g2
  have l6 := D.g3
  have hB : Below wc.heap.size wc (wc.alloc (.cells #[.int .i64 0, .int .i64 0, .int .i64 0, .int .i64 0] 25)) := (Below.refl _ _).alloc (Nat.le_refl _) _
  have heq := eqCounts
  have hgt : Try.prog.eqGuardType Try.prog.depth 25 = false := by kernel_rfl
  go_wp2_with fail
  dsimp only [List.append]
  refine wp_region_quiet_lit (by kernel_rfl) lexAll ?_
  repeat (go_big_quiet_step (first
    | (go_at_call_of 11 (Value.slice x0 N0 u0); refine Calls.quiet_of (same x0 y0 u0 v0 wc.heap.size wc.heap.size (keptAll (fun l => decide (m ≤ l)) t0) N0 H0.out T.l0.small _ (T.l0.row.below (below_drewN hB _)) (D.l0.row.below (below_drewN hB _))))
    | (go_at_call_of 11 (Value.slice x1 N1 u1); refine Calls.quiet_of (same x1 y1 u1 v1 wc.heap.size wc.heap.size (keptAll (fun l => decide (m ≤ l)) t1) N1 H1.out T.l1.small _ (T.l1.row.below (below_drewN hB _)) (D.l1.row.below (below_drewN hB _))))
    | (go_at_call_of 11 (Value.slice x2 N2 u2); refine Calls.quiet_of (same x2 y2 u2 v2 wc.heap.size wc.heap.size (keptAll (fun l => decide (m ≤ l)) t2) N2 H2.out T.l2.small _ (T.l2.row.below (below_drewN hB _)) (D.l2.row.below (below_drewN hB _))))
    | (go_at_call_of 13 (Value.slice a0 n0 c0); refine quiet_same (count a0 n0 c0 wc.heap.size f0 m _ hn0 (i0.below (below_drewN hB _))))
    | (go_at_call_of 13 (Value.slice a1 n1 c1); refine quiet_same (count a1 n1 c1 wc.heap.size f1 m _ hn1 (i1.below (below_drewN hB _))))
    | (go_at_call_of 13 (Value.slice a2 n2 c2); refine quiet_same (count a2 n2 c2 wc.heap.size f2 m _ hn2 (i2.below (below_drewN hB _))))))
  refine wpQuiet_nil ?_
  intro _ hw'
  obtain ⟨nq, hw''⟩ := hw'
  subst hw''
  go_wp2_with fail
  go_ret
  exact ⟨rfl, hb.trans ((below_drewN hB _).mono hb.size)⟩
end Go.Proofs.Qxb6614727a.fnOnlyComposesToTheStricterFilter
