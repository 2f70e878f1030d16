/- The first law's stages: from the making of the summary on. -/
import Derived.Test.Qxb6614727aSplitZ
namespace Go.Proofs.Qxb6614727a.fnOnlySplitsIntoPredicateAndNegation
open Go.RowKit
set_option linter.unusedVariables false

set_option maxHeartbeats 4000000 in
set_option maxRecDepth 100000 in
theorem f3_Y (w wc : World) (sp qb : Nat) (k z0 z1 z2 z3 : Int) (a0 a1 a2 : Option Addr) (n0 n1 n2 c0 c1 c2 : Nat) (t0 t1 t2 : List (Nat × Int)) (S : Sum wc sp a0 a1 a2 n0 n1 n2 c0 c1 c2 t0 t1 t2 z0 z1 z2 z3)
    (lq : qb < wc.heap.size) (q0 : wc.cell? ⟨qb, 0, none⟩ = some (.int .i64 z0)) (q1 : wc.cell? ⟨qb, 1, none⟩ = some (.int .i64 z1)) (q2 : wc.cell? ⟨qb, 2, none⟩ = some (.int .i64 z2)) (q3 : wc.cell? ⟨qb, 3, none⟩ = some (.int .i64 z3)) (hb : Below w.heap.size w wc)
    (g0 g1 g2 g3 g4 g5 g6 g8 g9 g10 g11 g12 g13 g14 g15 g16 g19 g20 g21 g22 g23 g24 g25 g26 g27 g28 g29 g30 g31 g32 g33 g34 g35 g36 g37 g38 g39 g40 g41 g42 g43 g44 g45 g46 g47 g48 g49 g50 g51 g52 g53 g54 g55 g56 g57 g58 g59 g60 g61 g62 g63 g64 g65 g66 g67 g68 g69 g70 g71 g72 g73 g74 g75 g76 g77 g78 g79 g80 g81 g82 g83 g84 g85 g86 g87 g88 g89 g90 g91 g92 g93 g94 g95 g96 g97 g98 g99 g100 g101 g102 g103 g104 g105 g106 g107 g108 g109 g110 g111 g112 g113 g114 g115 g116 g117 g118 g119 g120 g121 g122 g123 g124 g125 g126 g127 g128 g129 g130 g131 g132 g133 g134 g135 g136 g137 g138 g139 g140 g141 g142 g143 g144 g145 g146 g147 g148 g149 g150 g151 g152 g153 g154 g155 g156 g157 g158 g159 g160 g161 g162 g163 g164 g165 g166 g167 g168 g169 g170 : Value) :
    Code.wp Try.prog (tailAt 7 (Try.f3.body.getD .skip)) (bodyPost Try.prog Try.f3 fun e w' => e = .returned (.bool true) ∧ Below w.heap.size w w') ⟨#[g0, g1, g2, g3, g4, g5, g6, .int .i64 k, g8, g9, g10, g11, g12, g13, g14, g15, g16, .pointer (some ⟨qb, 0, none⟩), .pointer (some ⟨sp, 0, none⟩), g19, g20, g21, g22, g23, g24, g25, g26, g27, g28, g29, g30, g31, g32, g33, g34, g35, g36, g37, g38, g39, g40, g41, g42, g43, g44, g45, g46, g47, g48, g49, g50, g51, g52, g53, g54, g55, g56, g57, g58, g59, g60, g61, g62, g63, g64, g65, g66, g67, g68, g69, g70, g71, g72, g73, g74, g75, g76, g77, g78, g79, g80, g81, g82, g83, g84, g85, g86, g87, g88, g89, g90, g91, g92, g93, g94, g95, g96, g97, g98, g99, g100, g101, g102, g103, g104, g105, g106, g107, g108, g109, g110, g111, g112, g113, g114, g115, g116, g117, g118, g119, g120, g121, g122, g123, g124, g125, g126, g127, g128, g129, g130, g131, g132, g133, g134, g135, g136, g137, g138, g139, g140, g141, g142, g143, g144, g145, g146, g147, g148, g149, g150, g151, g152, g153, g154, g155, g156, g157, g158, g159, g160, g161, g162, g163, g164, g165, g166, g167, g168, g169, g170], []⟩ wc := by
  show Code.wp Try.prog (.seq (headOf (tailAt 7 (Try.f3.body.getD .skip))) (.seq (headOf (tailAt 8 (Try.f3.body.getD .skip))) (.seq (headOf (tailAt 9 (Try.f3.body.getD .skip))) (.seq (headOf (tailAt 10 (Try.f3.body.getD .skip))) (.seq (headOf (tailAt 11 (Try.f3.body.getD .skip))) (tailAt 12 (Try.f3.body.getD .skip))))))) _ _ _
  conv => arg 2; arg 1; whnf
  conv => arg 2; arg 2; arg 1; whnf
  conv => arg 2; arg 2; arg 2; arg 1; whnf
  conv => arg 2; arg 2; arg 2; arg 2; arg 1; whnf
  conv => arg 2; arg 2; arg 2; arg 2; arg 2; arg 1; whnf
  have b0 := S.f0
  have hlt := S.lt
  go_wp2_with fail
  refine (copyList a0 n0 c0 t0 _ S.l0.len S.l0.small S.l0.row).mono ?_
  rintro e w1 ⟨rfl, r0, hb1⟩
  have S1 := S.below hb1
  have b1 := S1.f1
  go_wp2_with fail
  refine (copyList a1 n1 c1 t1 _ S1.l1.len S1.l1.small S1.l1.row).mono ?_
  rintro e w2 ⟨rfl, r1, hb2⟩
  have S2 := S1.below hb2
  have b2 := S2.f2
  go_wp2_with fail
  refine (copyList a2 n2 c2 t2 _ S2.l2.len S2.l2.small S2.l2.row).mono ?_
  rintro e w3 ⟨rfl, r2, hb3⟩
  have S3 := S2.below hb3
  go_wp2_with fail
  refine (onlyAtLeast sp k _ a0 a1 a2 n0 n1 n2 c0 c1 c2 t0 t1 t2 z0 z1 z2 z3 S3).mono ?_
  rintro e w4 ⟨hp, rfl, ⟨x0, x1, x2, u0, u1, u2, H⟩, hb4⟩
  have S4 := S3.below hb4
  have HH : Hid (Sum w4 hp x0 x1 x2 (keptAll (fun l => decide (k ≤ l)) t0).length (keptAll (fun l => decide (k ≤ l)) t1).length (keptAll (fun l => decide (k ≤ l)) t2).length u0 u1 u2 (keptAll (fun l => decide (k ≤ l)) t0) (keptAll (fun l => decide (k ≤ l)) t1) (keptAll (fun l => decide (k ≤ l)) t2) 0 0 0 0) := H
  clear H
  go_wp2_with fail
  refine (onlyBelow sp k _ a0 a1 a2 n0 n1 n2 c0 c1 c2 t0 t1 t2 z0 z1 z2 z3 S4).mono ?_
  rintro e w5 ⟨lp, rfl, ⟨y0, y1, y2, v0, v1, v2, L⟩, hb5⟩
  have S5 := S4.below hb5
  have HL : Hid (Sum w5 lp y0 y1 y2 (keptAll (fun l => decide (l < k)) t0).length (keptAll (fun l => decide (l < k)) t1).length (keptAll (fun l => decide (l < k)) t2).length v0 v1 v2 (keptAll (fun l => decide (l < k)) t0) (keptAll (fun l => decide (l < k)) t1) (keptAll (fun l => decide (l < k)) t2) 0 0 0 0) := L
  clear L
  go_wp2_with fail
  have b45 := hb5
  have b35 : Below w3.heap.size w3 w5 := hb4.trans (b45.mono hb4.size)
  have b25 : Below w2.heap.size w2 w5 := hb3.trans (b35.mono hb3.size)
  have b15 : Below w1.heap.size w1 w5 := hb2.trans (b25.mono hb2.size)
  have b05 : Below wc.heap.size wc w5 := hb1.trans (b15.mono hb1.size)
  exact f3_Z w w5 sp qb k z0 z1 z2 z3 a0 a1 a2 n0 n1 n2 c0 c1 c2 t0 t1 t2 S5 (Nat.lt_of_lt_of_le lq b05.size) ((b05.cell lq).trans q0) ((b05.cell lq).trans q1) ((b05.cell lq).trans q2) ((b05.cell lq).trans q3) (hb.trans (b05.mono hb.size)) _ _ _ hp lp ((r0.below b15).mono b15.size) ((r1.below b25).mono b25.size) ((r2.below b35).mono b35.size) x0 x1 x2 y0 y1 y2 u0 u1 u2 v0 v1 v2 (HH.out.below b45) HL.out _ _ _ _ _ _ _ _ _ _ _ _ _ _ _ _ _ _ _ _ _ _ _ _ _ _ _ _ _ _ _ _ _ _ _ _ _ _ _ _ _ _ _ _ _ _ _ _ _ _ _ _ _ _ _ _ _ _ _ _ _ _ _ _ _ _ _ _ _ _ _ _ _ _ _ _ _ _ _ _ _ _ _ _ _ _ _ _ _ _ _ _ _ _ _ _ _ _ _ _ _ _ _ _ _ _ _ _ _ _ _ _ _ _ _ _ _ _ _ _ _ _ _ _ _ _ _ _ _ _ _ _ _ _ _ _ _ _ _ _ _ _ _ _ _ _ _ _ _ _ _ _ _ _ _ _ _ _ _ _ _ _ _

theorem keep4 {w W : World} {p0 p1 p2 p3 : Addr} {x0 x1 x2 x3 : Option Value} (c0 : w.cell? p0 = x0) (c1 : w.cell? p1 = x1) (c2 : w.cell? p2 = x2) (c3 : w.cell? p3 = x3) (l0 : p0.block < w.heap.size) (l1 : p1.block < w.heap.size) (l2 : p2.block < w.heap.size) (l3 : p3.block < w.heap.size)
    (h : Below w.heap.size w W) : W.cell? p0 = x0 ∧ W.cell? p1 = x1 ∧ W.cell? p2 = x2 ∧ W.cell? p3 = x3 := ⟨(h.cell l0).trans c0, (h.cell l1).trans c1, (h.cell l2).trans c2, (h.cell l3).trans c3⟩

set_option maxHeartbeats 4000000 in
set_option maxRecDepth 100000 in
theorem f3_X (w : World) (k z0 z1 z2 z3 : Int) (a0 a1 a2 : Option Addr) (n0 n1 n2 c0 c1 c2 : Nat) (f0 f1 f2 : Nat → Int) (hn0 : n0 ≤ 65536) (hn1 : n1 ≤ 65536) (hn2 : n2 ≤ 65536)
    (r0 : Rd w.heap.size w a0 n0 f0) (r1 : Rd w.heap.size w a1 n1 f1) (r2 : Rd w.heap.size w a2 n2 f2) (p0 : a0 = none → n0 = 0 ∧ c0 = 0) (p1 : a1 = none → n1 = 0 ∧ c1 = 0) (p2 : a2 = none → n2 = 0 ∧ c2 = 0)
    (g8 g9 g10 g11 g12 g13 g14 g15 g16 g17 g18 g19 g20 g21 g22 g23 g24 g25 g26 g27 g28 g29 g30 g31 g32 g33 g34 g35 g36 g37 g38 g39 g40 g41 g42 g43 g44 g45 g46 g47 g48 g49 g50 g51 g52 g53 g54 g55 g56 g57 g58 g59 g60 g61 g62 g63 g64 g65 g66 g67 g68 g69 g70 g71 g72 g73 g74 g75 g76 g77 g78 g79 g80 g81 g82 g83 g84 g85 g86 g87 g88 g89 g90 g91 g92 g93 g94 g95 g96 g97 g98 g99 g100 g101 g102 g103 g104 g105 g106 g107 g108 g109 g110 g111 g112 g113 g114 g115 g116 g117 g118 g119 g120 g121 g122 g123 g124 g125 g126 g127 g128 g129 g130 g131 g132 g133 g134 g135 g136 g137 g138 g139 g140 g141 g142 g143 g144 g145 g146 g147 g148 g149 g150 g151 g152 g153 g154 g155 g156 g157 g158 g159 g160 g161 g162 g163 g164 g165 g166 g167 g168 g169 g170 : Value) :
    Code.wp Try.prog (tailAt 5 (Try.f3.body.getD .skip)) (bodyPost Try.prog Try.f3 fun e w' => e = .returned (.bool true) ∧ Below w.heap.size w w') ⟨#[.slice a0 n0 c0, .slice a1 n1 c1, .slice a2 n2 c2, .int .i64 z0, .int .i64 z1, .int .i64 z2, .int .i64 z3, .int .i64 k, g8, g9, g10, g11, g12, g13, g14, g15, g16, g17, g18, g19, g20, g21, g22, g23, g24, g25, g26, g27, g28, g29, g30, g31, g32, g33, g34, g35, g36, g37, g38, g39, g40, g41, g42, g43, g44, g45, g46, g47, g48, g49, g50, g51, g52, g53, g54, g55, g56, g57, g58, g59, g60, g61, g62, g63, g64, g65, g66, g67, g68, g69, g70, g71, g72, g73, g74, g75, g76, g77, g78, g79, g80, g81, g82, g83, g84, g85, g86, g87, g88, g89, g90, g91, g92, g93, g94, g95, g96, g97, g98, g99, g100, g101, g102, g103, g104, g105, g106, g107, g108, g109, g110, g111, g112, g113, g114, g115, g116, g117, g118, g119, g120, g121, g122, g123, g124, g125, g126, g127, g128, g129, g130, g131, g132, g133, g134, g135, g136, g137, g138, g139, g140, g141, g142, g143, g144, g145, g146, g147, g148, g149, g150, g151, g152, g153, g154, g155, g156, g157, g158, g159, g160, g161, g162, g163, g164, g165, g166, g167, g168, g169, g170], []⟩ w := by
  show Code.wp Try.prog (.seq (headOf (tailAt 5 (Try.f3.body.getD .skip))) (.seq (headOf (tailAt 6 (Try.f3.body.getD .skip))) (tailAt 7 (Try.f3.body.getD .skip)))) _ _ _
  conv => arg 2; arg 1; whnf
  conv => arg 2; arg 2; arg 1; whnf
  have hB1 : Below w.heap.size w (w.alloc (.cells #[.int .i64 z0, .int .i64 z1, .int .i64 z2, .int .i64 z3] 25)) := (Below.refl _ _).alloc (Nat.le_refl _) _
  have k0 : (w.alloc (.cells #[.int .i64 z0, .int .i64 z1, .int .i64 z2, .int .i64 z3] 25)).cell? ⟨w.heap.size, 0, none⟩ = some (.int .i64 z0) := World.cell?_alloc_at _ _ _ _ rfl
  have k1 : (w.alloc (.cells #[.int .i64 z0, .int .i64 z1, .int .i64 z2, .int .i64 z3] 25)).cell? ⟨w.heap.size, 1, none⟩ = some (.int .i64 z1) := World.cell?_alloc_at _ _ _ _ rfl
  have k2 : (w.alloc (.cells #[.int .i64 z0, .int .i64 z1, .int .i64 z2, .int .i64 z3] 25)).cell? ⟨w.heap.size, 2, none⟩ = some (.int .i64 z2) := World.cell?_alloc_at _ _ _ _ rfl
  have k3 : (w.alloc (.cells #[.int .i64 z0, .int .i64 z1, .int .i64 z2, .int .i64 z3] 25)).cell? ⟨w.heap.size, 3, none⟩ = some (.int .i64 z3) := World.cell?_alloc_at _ _ _ _ rfl
  have lw : w.heap.size < (w.alloc (.cells #[.int .i64 z0, .int .i64 z1, .int .i64 z2, .int .i64 z3] 25)).heap.size := by simp
  have Hk : Hid (((w.alloc (.cells #[.int .i64 z0, .int .i64 z1, .int .i64 z2, .int .i64 z3] 25)).cell? ⟨w.heap.size, 0, none⟩ = some (.int .i64 z0) ∧ (w.alloc (.cells #[.int .i64 z0, .int .i64 z1, .int .i64 z2, .int .i64 z3] 25)).cell? ⟨w.heap.size, 1, none⟩ = some (.int .i64 z1)) ∧ ((w.alloc (.cells #[.int .i64 z0, .int .i64 z1, .int .i64 z2, .int .i64 z3] 25)).cell? ⟨w.heap.size, 2, none⟩ = some (.int .i64 z2) ∧ (w.alloc (.cells #[.int .i64 z0, .int .i64 z1, .int .i64 z2, .int .i64 z3] 25)).cell? ⟨w.heap.size, 3, none⟩ = some (.int .i64 z3)) ∧ w.heap.size < (w.alloc (.cells #[.int .i64 z0, .int .i64 z1, .int .i64 z2, .int .i64 z3] 25)).heap.size) := ⟨⟨k0, k1⟩, ⟨k2, k3⟩, lw⟩
  clear k0 k1 k2 k3 lw
  go_wp2_with fail
  generalize w.alloc (.cells #[.int .i64 z0, .int .i64 z1, .int .i64 z2, .int .i64 z3] 25) = w1 at hB1 Hk ⊢
  have hW0 : Below w1.heap.size w1 w1.drew := below_drew (Below.refl _ _)
  go_region_held3 (fun W => W.cell? ⟨w.heap.size, 0, none⟩ = some (.int .i64 z0) ∧ W.cell? ⟨w.heap.size, 1, none⟩ = some (.int .i64 z1) ∧ W.cell? ⟨w.heap.size, 2, none⟩ = some (.int .i64 z2) ∧ W.cell? ⟨w.heap.size, 3, none⟩ = some (.int .i64 z3))
    ((refine keep4 Hk.out.1.1 Hk.out.1.2 Hk.out.2.1.1 Hk.out.2.1.2 Hk.out.2.2 Hk.out.2.2 Hk.out.2.2 Hk.out.2.2 ?_; first | assumption | (refine below_alloc ?_ _; assumption)))
    (first
      | (go_at_call_of 6 (Value.slice a0 n0 c0); refine (mkAt (w := w1) ?hWq0 a0 n0 c0 f0 hn0 ((r0.below hB1).mono hB1.size) p0).mono ?mainq0; (case hWq0 => assumption); rintro e x0 ⟨b0, d0, rfl, ⟨t0, l0, m0⟩, hb0, hW0⟩)
      | (go_at_call_of 6 (Value.slice a1 n1 c1); refine (mkAt (w := w1) ?hWq1 a1 n1 c1 f1 hn1 ((r1.below hB1).mono hB1.size) p1).mono ?mainq1; (case hWq1 => assumption); rintro e x1 ⟨b1, d1, rfl, ⟨t1, l1, m1⟩, hb1, hW1⟩)
      | (go_at_call_of 6 (Value.slice a2 n2 c2); refine (mkAt (w := w1) ?hWq2 a2 n2 c2 f2 hn2 ((r2.below hB1).mono hB1.size) p2).mono ?mainq2; (case hWq2 => assumption); rintro e x2 ⟨b2, d2, rfl, ⟨t2, l2, m2⟩, hb2, hW2⟩))
  go_wp2_with fail
  have e2 := below_alloc (Below.refl x2.heap.size x2) (.cells #[.slice b0 n0 d0, .slice b1 n1 d1, .slice b2 n2 d2, .int .i64 z0, .int .i64 z1, .int .i64 z2, .int .i64 z3] 30)
  have e1 : Below x1.heap.size x1 _ := hb2.trans (e2.mono hb2.size)
  have e0 : Below x0.heap.size x0 _ := hb1.trans (e1.mono hb1.size)
  have eW : Below w1.heap.size w1 _ := hW2.trans (e2.mono hW2.size)
  exact f3_Y w _ x2.heap.size w.heap.size k z0 z1 z2 z3 b0 b1 b2 n0 n1 n2 d0 d1 d2 t0 t1 t2
    ⟨by simp, World.cell?_alloc_at _ _ _ _ rfl, World.cell?_alloc_at _ _ _ _ rfl, World.cell?_alloc_at _ _ _ _ rfl, World.cell?_alloc_at _ _ _ _ rfl, World.cell?_alloc_at _ _ _ _ rfl, World.cell?_alloc_at _ _ _ _ rfl, World.cell?_alloc_at _ _ _ _ rfl, l0.below e0, l1.below e1, l2.below e2⟩
    (Nat.lt_of_lt_of_le Hk.out.2.2 eW.size) ((eW.cell Hk.out.2.2).trans Hk.out.1.1) ((eW.cell Hk.out.2.2).trans Hk.out.1.2) ((eW.cell Hk.out.2.2).trans Hk.out.2.1.1) ((eW.cell Hk.out.2.2).trans Hk.out.2.1.2) (hB1.trans (eW.mono hB1.size)) _ _ _ _ _ _ _ _ _ _ _ _ _ _ _ _ _ _ _ _ _ _ _ _ _ _ _ _ _ _ _ _ _ _ _ _ _ _ _ _ _ _ _ _ _ _ _ _ _ _ _ _ _ _ _ _ _ _ _ _ _ _ _ _ _ _ _ _ _ _ _ _ _ _ _ _ _ _ _ _ _ _ _ _ _ _ _ _ _ _ _ _ _ _ _ _ _ _ _ _ _ _ _ _ _ _ _ _ _ _ _ _ _ _ _ _ _ _ _ _ _ _ _ _ _ _ _ _ _ _ _ _ _ _ _ _ _ _ _ _ _ _ _ _ _ _ _ _ _ _ _ _ _ _ _ _ _ _ _ _ _ _ _ _ _ _ _ _
end Go.Proofs.Qxb6614727a.fnOnlySplitsIntoPredicateAndNegation
