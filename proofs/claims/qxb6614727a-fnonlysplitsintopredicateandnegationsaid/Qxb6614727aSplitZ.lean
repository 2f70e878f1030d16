/- The first law's stages. -/
import Derived.Test.Qxb6614727aSplitL
namespace Go.Proofs.Qxb6614727a.fnOnlySplitsIntoPredicateAndNegation
open Go.RowKit
set_option linter.unusedVariables false

/-- A callee that turns nothing, met in the world 'w.drewN n'. -/
theorem quiet_same {P : Program} {f : FuncId} {args : Array Value} {w : World} {n : Nat} {v : Value} (h : Calls P f args (w.drewN n) fun e w' => e = .returned v ∧ w.drewN n = w') :
    Calls P f args (w.drewN n) fun e w'' => e = .returned v ∧ ∃ m, w'' = w.drewN m :=
  h.mono fun _ _ ⟨he, hm⟩ => ⟨he, n, hm.symm⟩

set_option maxHeartbeats 4000000 in
set_option maxRecDepth 100000 in
theorem f3_Z (w wc : World) (sp qb : Nat) (k z0 z1 z2 z3 : Int) (a0 a1 a2 : Option Addr) (n0 n1 n2 c0 c1 c2 : Nat) (t0 t1 t2 : List (Nat × Int)) (S : Sum wc sp a0 a1 a2 n0 n1 n2 c0 c1 c2 t0 t1 t2 z0 z1 z2 z3)
    (lq : qb < wc.heap.size) (q0 : wc.cell? ⟨qb, 0, none⟩ = some (.int .i64 z0)) (q1 : wc.cell? ⟨qb, 1, none⟩ = some (.int .i64 z1)) (q2 : wc.cell? ⟨qb, 2, none⟩ = some (.int .i64 z2)) (q3 : wc.cell? ⟨qb, 3, none⟩ = some (.int .i64 z3)) (hb : Below w.heap.size w wc)
    (e0 e1 e2 hp lp : Nat) (r0 : Row wc.heap.size wc (some ⟨e0, 0, none⟩) t0) (r1 : Row wc.heap.size wc (some ⟨e1, 0, none⟩) t1) (r2 : Row wc.heap.size wc (some ⟨e2, 0, none⟩) t2)
    (x0 x1 x2 y0 y1 y2 : Option Addr) (u0 u1 u2 v0 v1 v2 : Nat) (H : Sum wc hp x0 x1 x2 (keptAll (fun l => decide (k ≤ l)) t0).length (keptAll (fun l => decide (k ≤ l)) t1).length (keptAll (fun l => decide (k ≤ l)) t2).length u0 u1 u2 (keptAll (fun l => decide (k ≤ l)) t0) (keptAll (fun l => decide (k ≤ l)) t1) (keptAll (fun l => decide (k ≤ l)) t2) 0 0 0 0) (L : Sum wc lp y0 y1 y2 (keptAll (fun l => decide (l < k)) t0).length (keptAll (fun l => decide (l < k)) t1).length (keptAll (fun l => decide (l < k)) t2).length v0 v1 v2 (keptAll (fun l => decide (l < k)) t0) (keptAll (fun l => decide (l < k)) t1) (keptAll (fun l => decide (l < k)) t2) 0 0 0 0)
    (g0 g1 g2 g3 g4 g5 g6 g8 g9 g10 g11 g12 g13 g14 g15 g16 g24 g25 g26 g27 g28 g29 g30 g31 g32 g33 g34 g35 g36 g37 g38 g39 g40 g41 g42 g43 g44 g45 g46 g47 g48 g49 g50 g51 g52 g53 g54 g55 g56 g57 g58 g59 g60 g61 g62 g63 g64 g65 g66 g67 g68 g69 g70 g71 g72 g73 g74 g75 g76 g77 g78 g79 g80 g81 g82 g83 g84 g85 g86 g87 g88 g89 g90 g91 g92 g93 g94 g95 g96 g97 g98 g99 g100 g101 g102 g103 g104 g105 g106 g107 g108 g109 g110 g111 g112 g113 g114 g115 g116 g117 g118 g119 g120 g121 g122 g123 g124 g125 g126 g127 g128 g129 g130 g131 g132 g133 g134 g135 g136 g137 g138 g139 g140 g141 g142 g143 g144 g145 g146 g147 g148 g149 g150 g151 g152 g153 g154 g155 g156 g157 g158 g159 g160 g161 g162 g163 g164 g165 g166 g167 g168 g169 g170 : Value) :
    Code.wp Try.prog (tailAt 12 (Try.f3.body.getD .skip)) (bodyPost Try.prog Try.f3 fun e w' => e = .returned (.bool true) ∧ Below w.heap.size w w') ⟨#[g0, g1, g2, g3, g4, g5, g6, .int .i64 k, g8, g9, g10, g11, g12, g13, g14, g15, g16, .pointer (some ⟨qb, 0, none⟩), .pointer (some ⟨sp, 0, none⟩), .slice (some ⟨e0, 0, none⟩) n0 n0, .slice (some ⟨e1, 0, none⟩) n1 n1, .slice (some ⟨e2, 0, none⟩) n2 n2, .pointer (some ⟨hp, 0, none⟩), .pointer (some ⟨lp, 0, none⟩), g24, g25, g26, g27, g28, g29, g30, g31, g32, g33, g34, g35, g36, g37, g38, g39, g40, g41, g42, g43, g44, g45, g46, g47, g48, g49, g50, g51, g52, g53, g54, g55, g56, g57, g58, g59, g60, g61, g62, g63, g64, g65, g66, g67, g68, g69, g70, g71, g72, g73, g74, g75, g76, g77, g78, g79, g80, g81, g82, g83, g84, g85, g86, g87, g88, g89, g90, g91, g92, g93, g94, g95, g96, g97, g98, g99, g100, g101, g102, g103, g104, g105, g106, g107, g108, g109, g110, g111, g112, g113, g114, g115, g116, g117, g118, g119, g120, g121, g122, g123, g124, g125, g126, g127, g128, g129, g130, g131, g132, g133, g134, g135, g136, g137, g138, g139, g140, g141, g142, g143, g144, g145, g146, g147, g148, g149, g150, g151, g152, g153, g154, g155, g156, g157, g158, g159, g160, g161, g162, g163, g164, g165, g166, g167, g168, g169, g170], []⟩ wc := by
  show Code.wp Try.prog (.seq (headOf (tailAt 12 (Try.f3.body.getD .skip))) (.seq (headOf (tailAt 13 (Try.f3.body.getD .skip))) (tailAt 14 (Try.f3.body.getD .skip)))) _ _ _
  conv => arg 2; arg 1; whnf
  conv => arg 2; arg 2; arg 1; whnf
  conv => arg 2; arg 2; arg 2; whnf
  have hS := S.lt
  have hH := H.lt
  have hL := L.lt
  have b0 := S.f0
  have b1 := S.f1
  have b2 := S.f2
  have b3 := S.g0
  have b4 := S.g1
  have b5 := S.g2
  have b6 := S.g3
  have h0 := H.f0
  have h1 := H.f1
  have h2 := H.f2
  have h3 := H.g0
  have h4 := H.g1
  have h5 := H.g2
  have h6 := H.g3
  have l0 := L.f0
  have l1 := L.f1
  have l2 := L.f2
  have l3 := L.g0
  have l4 := L.g1
  have l5 := L.g2
  have l6 := L.g3
  have hB : Below wc.heap.size wc (wc.alloc (.cells #[.int .i64 0, .int .i64 0, .int .i64 0, .int .i64 0] 25)) := (Below.refl _ _).alloc (Nat.le_refl _) _
  have heq := eqCounts
  have hgt : Try.prog.eqGuardType Try.prog.depth 25 = false := by kernel_rfl
  go_wp2_with fail
  dsimp only [List.append]
  refine wp_region_quiet_lit (by kernel_rfl) lexAll ?_
  repeat (go_big_quiet_step (first
    | (go_at_call_of 10 (Value.slice (some ⟨e0, 0, none⟩) n0 n0); refine quiet_same (splitOK (some ⟨e0, 0, none⟩) x0 y0 n0 _ _ n0 u0 v0 wc.heap.size wc.heap.size wc.heap.size wc.heap.size t0 k _ S.l0.len S.l0.small (r0.below (below_drewN hB _)) (S.l0.lv.below (below_drewN hB _)) rfl rfl (H.l0.row.below (below_drewN hB _)) (L.l0.row.below (below_drewN hB _))))
    | (go_at_call_of 10 (Value.slice (some ⟨e1, 0, none⟩) n1 n1); refine quiet_same (splitOK (some ⟨e1, 0, none⟩) x1 y1 n1 _ _ n1 u1 v1 wc.heap.size wc.heap.size wc.heap.size wc.heap.size t1 k _ S.l1.len S.l1.small (r1.below (below_drewN hB _)) (S.l1.lv.below (below_drewN hB _)) rfl rfl (H.l1.row.below (below_drewN hB _)) (L.l1.row.below (below_drewN hB _))))
    | (go_at_call_of 10 (Value.slice (some ⟨e2, 0, none⟩) n2 n2); refine quiet_same (splitOK (some ⟨e2, 0, none⟩) x2 y2 n2 _ _ n2 u2 v2 wc.heap.size wc.heap.size wc.heap.size wc.heap.size t2 k _ S.l2.len S.l2.small (r2.below (below_drewN hB _)) (S.l2.lv.below (below_drewN hB _)) rfl rfl (H.l2.row.below (below_drewN hB _)) (L.l2.row.below (below_drewN hB _))))
    | (go_at_call_of 11 (Value.slice a0 n0 c0); refine Calls.quiet_of (same a0 (some ⟨e0, 0, none⟩) c0 n0 wc.heap.size wc.heap.size t0 n0 S.l0.len S.l0.small _ (S.l0.row.below (below_drewN hB _)) (r0.below (below_drewN hB _))))
    | (go_at_call_of 11 (Value.slice a1 n1 c1); refine Calls.quiet_of (same a1 (some ⟨e1, 0, none⟩) c1 n1 wc.heap.size wc.heap.size t1 n1 S.l1.len S.l1.small _ (S.l1.row.below (below_drewN hB _)) (r1.below (below_drewN hB _))))
    | (go_at_call_of 11 (Value.slice a2 n2 c2); refine Calls.quiet_of (same a2 (some ⟨e2, 0, none⟩) c2 n2 wc.heap.size wc.heap.size t2 n2 S.l2.len S.l2.small _ (S.l2.row.below (below_drewN hB _)) (r2.below (below_drewN hB _))))))
  refine wpQuiet_nil ?_
  intro _ hw'
  obtain ⟨nq, hw''⟩ := hw'
  subst hw''
  go_wp2_with fail
  go_ret
  exact ⟨rfl, hb.trans ((below_drewN hB _).mono hb.size)⟩
end Go.Proofs.Qxb6614727a.fnOnlySplitsIntoPredicateAndNegation
