/- The second law's stages. -/
import Derived.Test.Qxb6614727aStrictZ
namespace Go.Proofs.Qxb6614727a.fnOnlyComposesToTheStricterFilter
open Go.RowKit
set_option linter.unusedVariables false

set_option maxHeartbeats 4000000 in
set_option maxRecDepth 100000 in
theorem f4_Y (w wc : World) (sp : Nat) (k j m z0 z1 z2 z3 : Int) (hm : ∀ l : Int, m ≤ l ↔ j ≤ l ∧ k ≤ l) (a0 a1 a2 b0 b1 b2 : Option Addr) (n0 n1 n2 c0 c1 c2 d0 d1 d2 : Nat) (t0 t1 t2 : List (Nat × Int)) (f0 f1 f2 : Nat → Int) (hn0 : n0 ≤ 65536) (hn1 : n1 ≤ 65536) (hn2 : n2 ≤ 65536)
    (i0 : Rd wc.heap.size wc a0 n0 f0) (i1 : Rd wc.heap.size wc a1 n1 f1) (i2 : Rd wc.heap.size wc a2 n2 f2) (S : Sum wc sp b0 b1 b2 n0 n1 n2 d0 d1 d2 t0 t1 t2 z0 z1 z2 z3)
    (m0 : t0.map Prod.snd = (List.range n0).map f0) (m1 : t1.map Prod.snd = (List.range n1).map f1) (m2 : t2.map Prod.snd = (List.range n2).map f2) (hb : Below w.heap.size w wc)
    (g3 g4 g5 g6 g9 g10 g11 g12 g13 g14 g15 g16 g17 g18 g21 g22 g23 g24 g25 g26 g27 g28 g29 g30 g31 g32 g33 g34 g35 g36 g37 g38 g39 g40 g41 g42 g43 g44 g45 g46 g47 g48 g49 g50 g51 g52 g53 g54 g55 g56 g57 g58 g59 g60 g61 g62 g63 g64 g65 g66 g67 g68 g69 g70 g71 g72 g73 g74 g75 g76 g77 g78 g79 g80 g81 g82 g83 g84 g85 g86 g87 g88 g89 g90 g91 g92 g93 g94 g95 g96 g97 g98 g99 g100 g101 g102 g103 g104 g105 g106 g107 g108 g109 g110 g111 g112 g113 g114 g115 g116 g117 g118 g119 g120 g121 g122 g123 g124 g125 g126 g127 g128 g129 g130 g131 g132 g133 g134 g135 g136 g137 g138 g139 g140 g141 g142 g143 g144 g145 g146 g147 g148 g149 g150 g151 g152 g153 g154 g155 g156 g157 g158 g159 g160 g161 g162 g163 g164 g165 g166 g167 g168 : Value) :
    Code.wp Try.prog (tailAt 8 (Try.f4.body.getD .skip)) (bodyPost Try.prog Try.f4 fun e w' => e = .returned (.bool true) ∧ Below w.heap.size w w') ⟨#[.slice a0 n0 c0, .slice a1 n1 c1, .slice a2 n2 c2, g3, g4, g5, g6, .int .i64 k, .int .i64 j, g9, g10, g11, g12, g13, g14, g15, g16, g17, g18, .int .i64 m, .pointer (some ⟨sp, 0, none⟩), g21, g22, g23, g24, g25, g26, g27, g28, g29, g30, g31, g32, g33, g34, g35, g36, g37, g38, g39, g40, g41, g42, g43, g44, g45, g46, g47, g48, g49, g50, g51, g52, g53, g54, g55, g56, g57, g58, g59, g60, g61, g62, g63, g64, g65, g66, g67, g68, g69, g70, g71, g72, g73, g74, g75, g76, g77, g78, g79, g80, g81, g82, g83, g84, g85, g86, g87, g88, g89, g90, g91, g92, g93, g94, g95, g96, g97, g98, g99, g100, g101, g102, g103, g104, g105, g106, g107, g108, g109, g110, g111, g112, g113, g114, g115, g116, g117, g118, g119, g120, g121, g122, g123, g124, g125, g126, g127, g128, g129, g130, g131, g132, g133, g134, g135, g136, g137, g138, g139, g140, g141, g142, g143, g144, g145, g146, g147, g148, g149, g150, g151, g152, g153, g154, g155, g156, g157, g158, g159, g160, g161, g162, g163, g164, g165, g166, g167, g168], []⟩ wc := by
  show Code.wp Try.prog (.seq (headOf (tailAt 8 (Try.f4.body.getD .skip))) (.seq (headOf (tailAt 9 (Try.f4.body.getD .skip))) (.seq (headOf (tailAt 10 (Try.f4.body.getD .skip))) (.seq (headOf (tailAt 11 (Try.f4.body.getD .skip))) (tailAt 12 (Try.f4.body.getD .skip)))))) _ _ _
  conv => arg 2; arg 1; whnf
  conv => arg 2; arg 2; arg 1; whnf
  conv => arg 2; arg 2; arg 2; arg 1; whnf
  conv => arg 2; arg 2; arg 2; arg 2; arg 1; whnf
  have Hm : Hid (∀ l : Int, m ≤ l ↔ j ≤ l ∧ k ≤ l) := hm
  have M0 : Hid (t0.map Prod.snd = (List.range n0).map f0) := m0
  have M1 : Hid (t1.map Prod.snd = (List.range n1).map f1) := m1
  have M2 : Hid (t2.map Prod.snd = (List.range n2).map f2) := m2
  clear hm m0 m1 m2
  go_wp2_with fail
  refine (onlyAtLeast sp k _ b0 b1 b2 n0 n1 n2 d0 d1 d2 t0 t1 t2 z0 z1 z2 z3 S).mono ?_
  rintro e w1 ⟨fp, rfl, ⟨q0, q1, q2, o0, o1, o2, F⟩, hb1⟩
  have S1 := S.below hb1
  have HF : Hid (Sum w1 fp q0 q1 q2 (keptAll (fun l => decide (k ≤ l)) t0).length (keptAll (fun l => decide (k ≤ l)) t1).length (keptAll (fun l => decide (k ≤ l)) t2).length o0 o1 o2 (keptAll (fun l => decide (k ≤ l)) t0) (keptAll (fun l => decide (k ≤ l)) t1) (keptAll (fun l => decide (k ≤ l)) t2) 0 0 0 0) := F
  clear F
  go_wp2_with fail
  refine (onlyAtLeast fp j _ q0 q1 q2 _ _ _ o0 o1 o2 (keptAll (fun l => decide (k ≤ l)) t0) (keptAll (fun l => decide (k ≤ l)) t1) (keptAll (fun l => decide (k ≤ l)) t2) 0 0 0 0 HF.out).mono ?_
  rintro e w2 ⟨tp, rfl, ⟨x0, x1, x2, u0, u1, u2, T⟩, hb2⟩
  rw [kept_kept k j m Hm.out t0, kept_kept k j m Hm.out t1, kept_kept k j m Hm.out t2] at T
  have S2 := S1.below hb2
  have HT : Hid (Sum w2 tp x0 x1 x2 (keptAll (fun l => decide (m ≤ l)) t0).length (keptAll (fun l => decide (m ≤ l)) t1).length (keptAll (fun l => decide (m ≤ l)) t2).length u0 u1 u2 (keptAll (fun l => decide (m ≤ l)) t0) (keptAll (fun l => decide (m ≤ l)) t1) (keptAll (fun l => decide (m ≤ l)) t2) 0 0 0 0) := T
  clear T
  go_wp2_with fail
  refine (onlyAtLeast sp m _ b0 b1 b2 n0 n1 n2 d0 d1 d2 t0 t1 t2 z0 z1 z2 z3 S2).mono ?_
  rintro e w3 ⟨dp, rfl, ⟨y0, y1, y2, v0, v1, v2, D⟩, hb3⟩
  have HD : Hid (Sum w3 dp y0 y1 y2 (keptAll (fun l => decide (m ≤ l)) t0).length (keptAll (fun l => decide (m ≤ l)) t1).length (keptAll (fun l => decide (m ≤ l)) t2).length v0 v1 v2 (keptAll (fun l => decide (m ≤ l)) t0) (keptAll (fun l => decide (m ≤ l)) t1) (keptAll (fun l => decide (m ≤ l)) t2) 0 0 0 0) := D
  clear D
  go_wp2_with fail
  have b23 := hb3
  have b13 : Below w1.heap.size w1 w3 := hb2.trans (b23.mono hb2.size)
  have b03 : Below wc.heap.size wc w3 := hb1.trans (b13.mono hb1.size)
  have F3 := HF.out.below b13
  exact f4_Z w w3 fp tp dp m a0 a1 a2 n0 n1 n2 c0 c1 c2 _ _ _ t0 t1 t2 f0 f1 f2 hn0 hn1 hn2 ((i0.below b03).mono b03.size) ((i1.below b03).mono b03.size) ((i2.below b03).mono b03.size) (cnt_kept f0 m n0 t0 M0.out) (cnt_kept f1 m n1 t1 M1.out) (cnt_kept f2 m n2 t2 M2.out) (hb.trans (b03.mono hb.size))
    x0 x1 x2 y0 y1 y2 u0 u1 u2 v0 v1 v2 (HT.out.below b23) HD.out F3.lt F3.g0 F3.g1 F3.g2 F3.g3 _ _ _ _ _ _ _ _ _ _ _ _ _ _ _ _ _ _ _ _ _ _ _ _ _ _ _ _ _ _ _ _ _ _ _ _ _ _ _ _ _ _ _ _ _ _ _ _ _ _ _ _ _ _ _ _ _ _ _ _ _ _ _ _ _ _ _ _ _ _ _ _ _ _ _ _ _ _ _ _ _ _ _ _ _ _ _ _ _ _ _ _ _ _ _ _ _ _ _ _ _ _ _ _ _ _ _ _ _ _ _ _ _ _ _ _ _ _ _ _ _ _ _ _ _ _ _ _ _ _ _ _ _ _ _ _ _ _ _ _ _ _ _ _ _ _ _ _ _ _ _ _ _ _ _ _ _ _ _ _ _ _

set_option maxHeartbeats 4000000 in
set_option maxRecDepth 100000 in
theorem f4_M (w : World) (k z0 z1 z2 z3 j m : Int) (hm : ∀ l : Int, m ≤ l ↔ j ≤ l ∧ k ≤ l) (a0 a1 a2 : Option Addr) (n0 n1 n2 c0 c1 c2 : Nat) (f0 f1 f2 : Nat → Int) (hn0 : n0 ≤ 65536) (hn1 : n1 ≤ 65536) (hn2 : n2 ≤ 65536)
    (r0 : Rd w.heap.size w a0 n0 f0) (r1 : Rd w.heap.size w a1 n1 f1) (r2 : Rd w.heap.size w a2 n2 f2) (p0 : a0 = none → n0 = 0 ∧ c0 = 0) (p1 : a1 = none → n1 = 0 ∧ c1 = 0) (p2 : a2 = none → n2 = 0 ∧ c2 = 0)
    (g9 g10 g11 g12 g13 g14 g15 g16 g17 g18 g20 g21 g22 g23 g24 g25 g26 g27 g28 g29 g30 g31 g32 g33 g34 g35 g36 g37 g38 g39 g40 g41 g42 g43 g44 g45 g46 g47 g48 g49 g50 g51 g52 g53 g54 g55 g56 g57 g58 g59 g60 g61 g62 g63 g64 g65 g66 g67 g68 g69 g70 g71 g72 g73 g74 g75 g76 g77 g78 g79 g80 g81 g82 g83 g84 g85 g86 g87 g88 g89 g90 g91 g92 g93 g94 g95 g96 g97 g98 g99 g100 g101 g102 g103 g104 g105 g106 g107 g108 g109 g110 g111 g112 g113 g114 g115 g116 g117 g118 g119 g120 g121 g122 g123 g124 g125 g126 g127 g128 g129 g130 g131 g132 g133 g134 g135 g136 g137 g138 g139 g140 g141 g142 g143 g144 g145 g146 g147 g148 g149 g150 g151 g152 g153 g154 g155 g156 g157 g158 g159 g160 g161 g162 g163 g164 g165 g166 g167 g168 : Value) :
    Code.wp Try.prog (tailAt 7 (Try.f4.body.getD .skip)) (bodyPost Try.prog Try.f4 fun e w' => e = .returned (.bool true) ∧ Below w.heap.size w w') ⟨#[.slice a0 n0 c0, .slice a1 n1 c1, .slice a2 n2 c2, .int .i64 z0, .int .i64 z1, .int .i64 z2, .int .i64 z3, .int .i64 k, .int .i64 j, g9, g10, g11, g12, g13, g14, g15, g16, g17, g18, .int .i64 m, g20, g21, g22, g23, g24, g25, g26, g27, g28, g29, g30, g31, g32, g33, g34, g35, g36, g37, g38, g39, g40, g41, g42, g43, g44, g45, g46, g47, g48, g49, g50, g51, g52, g53, g54, g55, g56, g57, g58, g59, g60, g61, g62, g63, g64, g65, g66, g67, g68, g69, g70, g71, g72, g73, g74, g75, g76, g77, g78, g79, g80, g81, g82, g83, g84, g85, g86, g87, g88, g89, g90, g91, g92, g93, g94, g95, g96, g97, g98, g99, g100, g101, g102, g103, g104, g105, g106, g107, g108, g109, g110, g111, g112, g113, g114, g115, g116, g117, g118, g119, g120, g121, g122, g123, g124, g125, g126, g127, g128, g129, g130, g131, g132, g133, g134, g135, g136, g137, g138, g139, g140, g141, g142, g143, g144, g145, g146, g147, g148, g149, g150, g151, g152, g153, g154, g155, g156, g157, g158, g159, g160, g161, g162, g163, g164, g165, g166, g167, g168], []⟩ w := by
  show Code.wp Try.prog (.seq (headOf (tailAt 7 (Try.f4.body.getD .skip))) (tailAt 8 (Try.f4.body.getD .skip))) _ _ _
  conv => arg 2; arg 1; whnf
  have Hm : Hid (∀ l : Int, m ≤ l ↔ j ≤ l ∧ k ≤ l) := hm
  clear hm
  go_wp2_with fail
  refine (mkAt (w := w) (Below.refl _ _) a0 n0 c0 f0 hn0 r0 p0).mono ?_
  rintro e x0 ⟨b0, d0, rfl, ⟨t0, l0, m0⟩, hb0, hW0⟩
  have M0 : Hid (t0.map Prod.snd = (List.range n0).map f0) := m0
  clear m0
  go_wp2_with fail
  refine (mkAt (w := w) hW0 a1 n1 c1 f1 hn1 r1 p1).mono ?_
  rintro e x1 ⟨b1, d1, rfl, ⟨t1, l1, m1⟩, hb1, hW1⟩
  have M1 : Hid (t1.map Prod.snd = (List.range n1).map f1) := m1
  clear m1
  go_wp2_with fail
  refine (mkAt (w := w) hW1 a2 n2 c2 f2 hn2 r2 p2).mono ?_
  rintro e x2 ⟨b2, d2, rfl, ⟨t2, l2, m2⟩, hb2, hW2⟩
  have M2 : Hid (t2.map Prod.snd = (List.range n2).map f2) := m2
  clear m2
  go_wp2_with fail
  have e2 := below_alloc (Below.refl x2.heap.size x2) (.cells #[.slice b0 n0 d0, .slice b1 n1 d1, .slice b2 n2 d2, .int .i64 z0, .int .i64 z1, .int .i64 z2, .int .i64 z3] 30)
  have e1 : Below x1.heap.size x1 _ := hb2.trans (e2.mono hb2.size)
  have e0 : Below x0.heap.size x0 _ := hb1.trans (e1.mono hb1.size)
  have eW : Below w.heap.size w _ := hW2.trans (e2.mono hW2.size)
  exact f4_Y w _ x2.heap.size k j m z0 z1 z2 z3 Hm.out a0 a1 a2 b0 b1 b2 n0 n1 n2 c0 c1 c2 d0 d1 d2 t0 t1 t2 f0 f1 f2 hn0 hn1 hn2 ((r0.below eW).mono eW.size) ((r1.below eW).mono eW.size) ((r2.below eW).mono eW.size)
    ⟨by simp, World.cell?_alloc_at _ _ _ _ rfl, World.cell?_alloc_at _ _ _ _ rfl, World.cell?_alloc_at _ _ _ _ rfl, World.cell?_alloc_at _ _ _ _ rfl, World.cell?_alloc_at _ _ _ _ rfl, World.cell?_alloc_at _ _ _ _ rfl, World.cell?_alloc_at _ _ _ _ rfl, l0.below e0, l1.below e1, l2.below e2⟩
    M0.out M1.out M2.out eW _ _ _ _ _ _ _ _ _ _ _ _ _ _ _ _ _ _ _ _ _ _ _ _ _ _ _ _ _ _ _ _ _ _ _ _ _ _ _ _ _ _ _ _ _ _ _ _ _ _ _ _ _ _ _ _ _ _ _ _ _ _ _ _ _ _ _ _ _ _ _ _ _ _ _ _ _ _ _ _ _ _ _ _ _ _ _ _ _ _ _ _ _ _ _ _ _ _ _ _ _ _ _ _ _ _ _ _ _ _ _ _ _ _ _ _ _ _ _ _ _ _ _ _ _ _ _ _ _ _ _ _ _ _ _ _ _ _ _ _ _ _ _ _ _ _ _ _ _ _ _ _ _ _ _ _ _ _ _ _ _ _

set_option maxHeartbeats 4000000 in
set_option maxRecDepth 100000 in
theorem f4_X (w : World) (k z0 z1 z2 z3 j : Int) (a0 a1 a2 : Option Addr) (n0 n1 n2 c0 c1 c2 : Nat) (f0 f1 f2 : Nat → Int) (hn0 : n0 ≤ 65536) (hn1 : n1 ≤ 65536) (hn2 : n2 ≤ 65536)
    (r0 : Rd w.heap.size w a0 n0 f0) (r1 : Rd w.heap.size w a1 n1 f1) (r2 : Rd w.heap.size w a2 n2 f2) (p0 : a0 = none → n0 = 0 ∧ c0 = 0) (p1 : a1 = none → n1 = 0 ∧ c1 = 0) (p2 : a2 = none → n2 = 0 ∧ c2 = 0)
    (g9 g10 g11 g12 g13 g14 g15 g16 g17 g18 g19 g20 g21 g22 g23 g24 g25 g26 g27 g28 g29 g30 g31 g32 g33 g34 g35 g36 g37 g38 g39 g40 g41 g42 g43 g44 g45 g46 g47 g48 g49 g50 g51 g52 g53 g54 g55 g56 g57 g58 g59 g60 g61 g62 g63 g64 g65 g66 g67 g68 g69 g70 g71 g72 g73 g74 g75 g76 g77 g78 g79 g80 g81 g82 g83 g84 g85 g86 g87 g88 g89 g90 g91 g92 g93 g94 g95 g96 g97 g98 g99 g100 g101 g102 g103 g104 g105 g106 g107 g108 g109 g110 g111 g112 g113 g114 g115 g116 g117 g118 g119 g120 g121 g122 g123 g124 g125 g126 g127 g128 g129 g130 g131 g132 g133 g134 g135 g136 g137 g138 g139 g140 g141 g142 g143 g144 g145 g146 g147 g148 g149 g150 g151 g152 g153 g154 g155 g156 g157 g158 g159 g160 g161 g162 g163 g164 g165 g166 g167 g168 : Value) :
    Code.wp Try.prog (tailAt 5 (Try.f4.body.getD .skip)) (bodyPost Try.prog Try.f4 fun e w' => e = .returned (.bool true) ∧ Below w.heap.size w w') ⟨#[.slice a0 n0 c0, .slice a1 n1 c1, .slice a2 n2 c2, .int .i64 z0, .int .i64 z1, .int .i64 z2, .int .i64 z3, .int .i64 k, .int .i64 j, g9, g10, g11, g12, g13, g14, g15, g16, g17, g18, g19, g20, g21, g22, g23, g24, g25, g26, g27, g28, g29, g30, g31, g32, g33, g34, g35, g36, g37, g38, g39, g40, g41, g42, g43, g44, g45, g46, g47, g48, g49, g50, g51, g52, g53, g54, g55, g56, g57, g58, g59, g60, g61, g62, g63, g64, g65, g66, g67, g68, g69, g70, g71, g72, g73, g74, g75, g76, g77, g78, g79, g80, g81, g82, g83, g84, g85, g86, g87, g88, g89, g90, g91, g92, g93, g94, g95, g96, g97, g98, g99, g100, g101, g102, g103, g104, g105, g106, g107, g108, g109, g110, g111, g112, g113, g114, g115, g116, g117, g118, g119, g120, g121, g122, g123, g124, g125, g126, g127, g128, g129, g130, g131, g132, g133, g134, g135, g136, g137, g138, g139, g140, g141, g142, g143, g144, g145, g146, g147, g148, g149, g150, g151, g152, g153, g154, g155, g156, g157, g158, g159, g160, g161, g162, g163, g164, g165, g166, g167, g168], []⟩ w := by
  show Code.wp Try.prog (.seq (headOf (tailAt 5 (Try.f4.body.getD .skip))) (.seq (headOf (tailAt 6 (Try.f4.body.getD .skip))) (tailAt 7 (Try.f4.body.getD .skip)))) _ _ _
  conv => arg 2; arg 1; whnf
  conv => arg 2; arg 2; arg 1; whnf
  by_cases hkj : k < j
  · go_wp2_with fail
    exact f4_M w k z0 z1 z2 z3 j j (fun l => ⟨fun h => ⟨h, by omega⟩, fun h => h.1⟩) a0 a1 a2 n0 n1 n2 c0 c1 c2 f0 f1 f2 hn0 hn1 hn2 r0 r1 r2 p0 p1 p2 _ _ _ _ _ _ _ _ _ _ _ _ _ _ _ _ _ _ _ _ _ _ _ _ _ _ _ _ _ _ _ _ _ _ _ _ _ _ _ _ _ _ _ _ _ _ _ _ _ _ _ _ _ _ _ _ _ _ _ _ _ _ _ _ _ _ _ _ _ _ _ _ _ _ _ _ _ _ _ _ _ _ _ _ _ _ _ _ _ _ _ _ _ _ _ _ _ _ _ _ _ _ _ _ _ _ _ _ _ _ _ _ _ _ _ _ _ _ _ _ _ _ _ _ _ _ _ _ _ _ _ _ _ _ _ _ _ _ _ _ _ _ _ _ _ _ _ _ _ _ _ _ _ _ _ _ _ _ _
  · go_wp2_with fail
    exact f4_M w k z0 z1 z2 z3 j k (fun l => ⟨fun h => ⟨by omega, h⟩, fun h => h.2⟩) a0 a1 a2 n0 n1 n2 c0 c1 c2 f0 f1 f2 hn0 hn1 hn2 r0 r1 r2 p0 p1 p2 _ _ _ _ _ _ _ _ _ _ _ _ _ _ _ _ _ _ _ _ _ _ _ _ _ _ _ _ _ _ _ _ _ _ _ _ _ _ _ _ _ _ _ _ _ _ _ _ _ _ _ _ _ _ _ _ _ _ _ _ _ _ _ _ _ _ _ _ _ _ _ _ _ _ _ _ _ _ _ _ _ _ _ _ _ _ _ _ _ _ _ _ _ _ _ _ _ _ _ _ _ _ _ _ _ _ _ _ _ _ _ _ _ _ _ _ _ _ _ _ _ _ _ _ _ _ _ _ _ _ _ _ _ _ _ _ _ _ _ _ _ _ _ _ _ _ _ _ _ _ _ _ _ _ _ _ _ _ _

def SomeBool (e : Ending) : Prop := ∃ b, e = .returned (.bool b)

set_option maxHeartbeats 4000000 in
set_option maxRecDepth 100000 in
theorem f4_S4 (w : World) (k z0 z1 z2 z3 j : Int) (a0 a1 a2 : Option Addr) (n0 n1 n2 c0 c1 c2 : Nat) (f0 f1 f2 : Nat → Int) (hn0 : n0 ≤ 65536) (hn1 : n1 ≤ 65536)
    (r0 : Rd w.heap.size w a0 n0 f0) (r1 : Rd w.heap.size w a1 n1 f1) (r2 : Rd w.heap.size w a2 n2 f2) (p0 : a0 = none → n0 = 0 ∧ c0 = 0) (p1 : a1 = none → n1 = 0 ∧ c1 = 0) (p2 : a2 = none → n2 = 0 ∧ c2 = 0)
    (g9 g10 g11 g12 g13 g14 g15 g16 g17 g18 g19 g20 g21 g22 g23 g24 g25 g26 g27 g28 g29 g30 g31 g32 g33 g34 g35 g36 g37 g38 g39 g40 g41 g42 g43 g44 g45 g46 g47 g48 g49 g50 g51 g52 g53 g54 g55 g56 g57 g58 g59 g60 g61 g62 g63 g64 g65 g66 g67 g68 g69 g70 g71 g72 g73 g74 g75 g76 g77 g78 g79 g80 g81 g82 g83 g84 g85 g86 g87 g88 g89 g90 g91 g92 g93 g94 g95 g96 g97 g98 g99 g100 g101 g102 g103 g104 g105 g106 g107 g108 g109 g110 g111 g112 g113 g114 g115 g116 g117 g118 g119 g120 g121 g122 g123 g124 g125 g126 g127 g128 g129 g130 g131 g132 g133 g134 g135 g136 g137 g138 g139 g140 g141 g142 g143 g144 g145 g146 g147 g148 g149 g150 g151 g152 g153 g154 g155 g156 g157 g158 g159 g160 g161 g162 g163 g164 g165 g166 g167 g168 : Value) :
    Code.wp Try.prog (tailAt 4 (Try.f4.body.getD .skip)) (bodyPost Try.prog Try.f4 fun e w' => e = .returned (.bool true) ∧ Below w.heap.size w w') ⟨#[.slice a0 n0 c0, .slice a1 n1 c1, .slice a2 n2 c2, .int .i64 z0, .int .i64 z1, .int .i64 z2, .int .i64 z3, .int .i64 k, .int .i64 j, g9, g10, g11, g12, g13, g14, g15, g16, g17, g18, g19, g20, g21, g22, g23, g24, g25, g26, g27, g28, g29, g30, g31, g32, g33, g34, g35, g36, g37, g38, g39, g40, g41, g42, g43, g44, g45, g46, g47, g48, g49, g50, g51, g52, g53, g54, g55, g56, g57, g58, g59, g60, g61, g62, g63, g64, g65, g66, g67, g68, g69, g70, g71, g72, g73, g74, g75, g76, g77, g78, g79, g80, g81, g82, g83, g84, g85, g86, g87, g88, g89, g90, g91, g92, g93, g94, g95, g96, g97, g98, g99, g100, g101, g102, g103, g104, g105, g106, g107, g108, g109, g110, g111, g112, g113, g114, g115, g116, g117, g118, g119, g120, g121, g122, g123, g124, g125, g126, g127, g128, g129, g130, g131, g132, g133, g134, g135, g136, g137, g138, g139, g140, g141, g142, g143, g144, g145, g146, g147, g148, g149, g150, g151, g152, g153, g154, g155, g156, g157, g158, g159, g160, g161, g162, g163, g164, g165, g166, g167, g168], []⟩ w := by
  show Code.wp Try.prog (.seq (headOf (tailAt 4 (Try.f4.body.getD .skip))) (tailAt 5 (Try.f4.body.getD .skip))) _ _ _
  conv => arg 2; arg 1; whnf
  by_cases e : (32768 : Int) < n2
  · go_wp2_with fail
    go_ret
    exact ⟨rfl, Below.refl _ _⟩
  · go_wp2_with fail
    exact f4_X w k z0 z1 z2 z3 j a0 a1 a2 n0 n1 n2 c0 c1 c2 f0 f1 f2 hn0 hn1 (by omega) r0 r1 r2 p0 p1 p2 _ _ _ _ _ _ _ _ _ _ _ _ _ _ _ _ _ _ _ _ _ _ _ _ _ _ _ _ _ _ _ _ _ _ _ _ _ _ _ _ _ _ _ _ _ _ _ _ _ _ _ _ _ _ _ _ _ _ _ _ _ _ _ _ _ _ _ _ _ _ _ _ _ _ _ _ _ _ _ _ _ _ _ _ _ _ _ _ _ _ _ _ _ _ _ _ _ _ _ _ _ _ _ _ _ _ _ _ _ _ _ _ _ _ _ _ _ _ _ _ _ _ _ _ _ _ _ _ _ _ _ _ _ _ _ _ _ _ _ _ _ _ _ _ _ _ _ _ _ _ _ _ _ _ _ _ _ _ _ _

set_option maxHeartbeats 4000000 in
set_option maxRecDepth 100000 in
theorem f4_S3 (w : World) (k z0 z1 z2 z3 j : Int) (a0 a1 a2 : Option Addr) (n0 n1 n2 c0 c1 c2 : Nat) (f0 f1 f2 : Nat → Int) (hn0 : n0 ≤ 65536)
    (r0 : Rd w.heap.size w a0 n0 f0) (r1 : Rd w.heap.size w a1 n1 f1) (r2 : Rd w.heap.size w a2 n2 f2) (p0 : a0 = none → n0 = 0 ∧ c0 = 0) (p1 : a1 = none → n1 = 0 ∧ c1 = 0) (p2 : a2 = none → n2 = 0 ∧ c2 = 0)
    (g9 g10 g11 g12 g13 g14 g15 g16 g17 g18 g19 g20 g21 g22 g23 g24 g25 g26 g27 g28 g29 g30 g31 g32 g33 g34 g35 g36 g37 g38 g39 g40 g41 g42 g43 g44 g45 g46 g47 g48 g49 g50 g51 g52 g53 g54 g55 g56 g57 g58 g59 g60 g61 g62 g63 g64 g65 g66 g67 g68 g69 g70 g71 g72 g73 g74 g75 g76 g77 g78 g79 g80 g81 g82 g83 g84 g85 g86 g87 g88 g89 g90 g91 g92 g93 g94 g95 g96 g97 g98 g99 g100 g101 g102 g103 g104 g105 g106 g107 g108 g109 g110 g111 g112 g113 g114 g115 g116 g117 g118 g119 g120 g121 g122 g123 g124 g125 g126 g127 g128 g129 g130 g131 g132 g133 g134 g135 g136 g137 g138 g139 g140 g141 g142 g143 g144 g145 g146 g147 g148 g149 g150 g151 g152 g153 g154 g155 g156 g157 g158 g159 g160 g161 g162 g163 g164 g165 g166 g167 g168 : Value) :
    Code.wp Try.prog (tailAt 3 (Try.f4.body.getD .skip)) (bodyPost Try.prog Try.f4 fun e w' => e = .returned (.bool true) ∧ Below w.heap.size w w') ⟨#[.slice a0 n0 c0, .slice a1 n1 c1, .slice a2 n2 c2, .int .i64 z0, .int .i64 z1, .int .i64 z2, .int .i64 z3, .int .i64 k, .int .i64 j, g9, g10, g11, g12, g13, g14, g15, g16, g17, g18, g19, g20, g21, g22, g23, g24, g25, g26, g27, g28, g29, g30, g31, g32, g33, g34, g35, g36, g37, g38, g39, g40, g41, g42, g43, g44, g45, g46, g47, g48, g49, g50, g51, g52, g53, g54, g55, g56, g57, g58, g59, g60, g61, g62, g63, g64, g65, g66, g67, g68, g69, g70, g71, g72, g73, g74, g75, g76, g77, g78, g79, g80, g81, g82, g83, g84, g85, g86, g87, g88, g89, g90, g91, g92, g93, g94, g95, g96, g97, g98, g99, g100, g101, g102, g103, g104, g105, g106, g107, g108, g109, g110, g111, g112, g113, g114, g115, g116, g117, g118, g119, g120, g121, g122, g123, g124, g125, g126, g127, g128, g129, g130, g131, g132, g133, g134, g135, g136, g137, g138, g139, g140, g141, g142, g143, g144, g145, g146, g147, g148, g149, g150, g151, g152, g153, g154, g155, g156, g157, g158, g159, g160, g161, g162, g163, g164, g165, g166, g167, g168], []⟩ w := by
  show Code.wp Try.prog (.seq (headOf (tailAt 3 (Try.f4.body.getD .skip))) (tailAt 4 (Try.f4.body.getD .skip))) _ _ _
  conv => arg 2; arg 1; whnf
  by_cases e : (32768 : Int) < n1
  · go_wp2_with fail
    go_ret
    exact ⟨rfl, Below.refl _ _⟩
  · go_wp2_with fail
    exact f4_S4 w k z0 z1 z2 z3 j a0 a1 a2 n0 n1 n2 c0 c1 c2 f0 f1 f2 hn0 (by omega) r0 r1 r2 p0 p1 p2 _ _ _ _ _ _ _ _ _ _ _ _ _ _ _ _ _ _ _ _ _ _ _ _ _ _ _ _ _ _ _ _ _ _ _ _ _ _ _ _ _ _ _ _ _ _ _ _ _ _ _ _ _ _ _ _ _ _ _ _ _ _ _ _ _ _ _ _ _ _ _ _ _ _ _ _ _ _ _ _ _ _ _ _ _ _ _ _ _ _ _ _ _ _ _ _ _ _ _ _ _ _ _ _ _ _ _ _ _ _ _ _ _ _ _ _ _ _ _ _ _ _ _ _ _ _ _ _ _ _ _ _ _ _ _ _ _ _ _ _ _ _ _ _ _ _ _ _ _ _ _ _ _ _ _ _ _ _ _ _

set_option maxHeartbeats 4000000 in
set_option maxRecDepth 100000 in
theorem f4_S2 (w : World) (k z0 z1 z2 z3 j : Int) (a0 a1 a2 : Option Addr) (n0 n1 n2 c0 c1 c2 : Nat) (f0 f1 f2 : Nat → Int)
    (r0 : Rd w.heap.size w a0 n0 f0) (r1 : Rd w.heap.size w a1 n1 f1) (r2 : Rd w.heap.size w a2 n2 f2) (p0 : a0 = none → n0 = 0 ∧ c0 = 0) (p1 : a1 = none → n1 = 0 ∧ c1 = 0) (p2 : a2 = none → n2 = 0 ∧ c2 = 0)
    (g9 g10 g11 g12 g13 g14 g15 g16 g17 g18 g19 g20 g21 g22 g23 g24 g25 g26 g27 g28 g29 g30 g31 g32 g33 g34 g35 g36 g37 g38 g39 g40 g41 g42 g43 g44 g45 g46 g47 g48 g49 g50 g51 g52 g53 g54 g55 g56 g57 g58 g59 g60 g61 g62 g63 g64 g65 g66 g67 g68 g69 g70 g71 g72 g73 g74 g75 g76 g77 g78 g79 g80 g81 g82 g83 g84 g85 g86 g87 g88 g89 g90 g91 g92 g93 g94 g95 g96 g97 g98 g99 g100 g101 g102 g103 g104 g105 g106 g107 g108 g109 g110 g111 g112 g113 g114 g115 g116 g117 g118 g119 g120 g121 g122 g123 g124 g125 g126 g127 g128 g129 g130 g131 g132 g133 g134 g135 g136 g137 g138 g139 g140 g141 g142 g143 g144 g145 g146 g147 g148 g149 g150 g151 g152 g153 g154 g155 g156 g157 g158 g159 g160 g161 g162 g163 g164 g165 g166 g167 g168 : Value) :
    Code.wp Try.prog (tailAt 2 (Try.f4.body.getD .skip)) (bodyPost Try.prog Try.f4 fun e w' => e = .returned (.bool true) ∧ Below w.heap.size w w') ⟨#[.slice a0 n0 c0, .slice a1 n1 c1, .slice a2 n2 c2, .int .i64 z0, .int .i64 z1, .int .i64 z2, .int .i64 z3, .int .i64 k, .int .i64 j, g9, g10, g11, g12, g13, g14, g15, g16, g17, g18, g19, g20, g21, g22, g23, g24, g25, g26, g27, g28, g29, g30, g31, g32, g33, g34, g35, g36, g37, g38, g39, g40, g41, g42, g43, g44, g45, g46, g47, g48, g49, g50, g51, g52, g53, g54, g55, g56, g57, g58, g59, g60, g61, g62, g63, g64, g65, g66, g67, g68, g69, g70, g71, g72, g73, g74, g75, g76, g77, g78, g79, g80, g81, g82, g83, g84, g85, g86, g87, g88, g89, g90, g91, g92, g93, g94, g95, g96, g97, g98, g99, g100, g101, g102, g103, g104, g105, g106, g107, g108, g109, g110, g111, g112, g113, g114, g115, g116, g117, g118, g119, g120, g121, g122, g123, g124, g125, g126, g127, g128, g129, g130, g131, g132, g133, g134, g135, g136, g137, g138, g139, g140, g141, g142, g143, g144, g145, g146, g147, g148, g149, g150, g151, g152, g153, g154, g155, g156, g157, g158, g159, g160, g161, g162, g163, g164, g165, g166, g167, g168], []⟩ w := by
  show Code.wp Try.prog (.seq (headOf (tailAt 2 (Try.f4.body.getD .skip))) (tailAt 3 (Try.f4.body.getD .skip))) _ _ _
  conv => arg 2; arg 1; whnf
  by_cases e : (32768 : Int) < n0
  · go_wp2_with fail
    go_ret
    exact ⟨rfl, Below.refl _ _⟩
  · go_wp2_with fail
    exact f4_S3 w k z0 z1 z2 z3 j a0 a1 a2 n0 n1 n2 c0 c1 c2 f0 f1 f2  (by omega) r0 r1 r2 p0 p1 p2 _ _ _ _ _ _ _ _ _ _ _ _ _ _ _ _ _ _ _ _ _ _ _ _ _ _ _ _ _ _ _ _ _ _ _ _ _ _ _ _ _ _ _ _ _ _ _ _ _ _ _ _ _ _ _ _ _ _ _ _ _ _ _ _ _ _ _ _ _ _ _ _ _ _ _ _ _ _ _ _ _ _ _ _ _ _ _ _ _ _ _ _ _ _ _ _ _ _ _ _ _ _ _ _ _ _ _ _ _ _ _ _ _ _ _ _ _ _ _ _ _ _ _ _ _ _ _ _ _ _ _ _ _ _ _ _ _ _ _ _ _ _ _ _ _ _ _ _ _ _ _ _ _ _ _ _ _ _ _ _

set_option maxHeartbeats 4000000 in
set_option maxRecDepth 100000 in
theorem f4_bytes (a0 a1 a2 : Option Addr) (n0 n1 n2 c0 c1 c2 : Nat) (k z0 z1 z2 z3 j : Int) (w : World) :
    Calls Try.prog 12 #[.slice a0 n0 c0, .slice a1 n1 c1, .slice a2 n2 c2, .int .i64 z0, .int .i64 z1, .int .i64 z2, .int .i64 z3, .int .i64 k, .int .i64 j] w fun e w' => SomeBool e ∧ w = w' := by
  by_cases t0 : (1048576 : Int) < n0
  · go_enter Try.func12, Try.ntmps12
    go_wp2
    go_ret
    exact ⟨⟨_, rfl⟩, rfl⟩
  · by_cases t1 : (1048576 : Int) < n1
    · go_enter Try.func12, Try.ntmps12
      go_wp2
      go_ret
      exact ⟨⟨_, rfl⟩, rfl⟩
    · by_cases t2 : (1048576 : Int) < n0 + n1
      · go_enter Try.func12, Try.ntmps12
        go_wp2
        go_ret
        exact ⟨⟨_, rfl⟩, rfl⟩
      · by_cases t3 : (1048576 : Int) < n2
        · go_enter Try.func12, Try.ntmps12
          go_wp2
          go_ret
          exact ⟨⟨_, rfl⟩, rfl⟩
        · by_cases t4 : (1048576 : Int) < n0 + n1 + n2
          · go_enter Try.func12, Try.ntmps12
            go_wp2
            go_ret
            exact ⟨⟨_, rfl⟩, rfl⟩
          · go_enter Try.func12, Try.ntmps12
            go_wp2
            go_ret
            exact ⟨⟨_, rfl⟩, rfl⟩

set_option maxHeartbeats 4000000 in
set_option maxRecDepth 100000 in
theorem f4_S1 (w : World) (k z0 z1 z2 z3 j : Int) (a0 a1 a2 : Option Addr) (n0 n1 n2 c0 c1 c2 : Nat) (f0 f1 f2 : Nat → Int)
    (r0 : Rd w.heap.size w a0 n0 f0) (r1 : Rd w.heap.size w a1 n1 f1) (r2 : Rd w.heap.size w a2 n2 f2) (p0 : a0 = none → n0 = 0 ∧ c0 = 0) (p1 : a1 = none → n1 = 0 ∧ c1 = 0) (p2 : a2 = none → n2 = 0 ∧ c2 = 0)
    (g9 g10 g11 g12 g13 g14 g15 g16 g17 g18 g19 g20 g21 g22 g23 g24 g25 g26 g27 g28 g29 g30 g31 g32 g33 g34 g35 g36 g37 g38 g39 g40 g41 g42 g43 g44 g45 g46 g47 g48 g49 g50 g51 g52 g53 g54 g55 g56 g57 g58 g59 g60 g61 g62 g63 g64 g65 g66 g67 g68 g69 g70 g71 g72 g73 g74 g75 g76 g77 g78 g79 g80 g81 g82 g83 g84 g85 g86 g87 g88 g89 g90 g91 g92 g93 g94 g95 g96 g97 g98 g99 g100 g101 g102 g103 g104 g105 g106 g107 g108 g109 g110 g111 g112 g113 g114 g115 g116 g117 g118 g119 g120 g121 g122 g123 g124 g125 g126 g127 g128 g129 g130 g131 g132 g133 g134 g135 g136 g137 g138 g139 g140 g141 g142 g143 g144 g145 g146 g147 g148 g149 g150 g151 g152 g153 g154 g155 g156 g157 g158 g159 g160 g161 g162 g163 g164 g165 g166 g167 g168 : Value) :
    Code.wp Try.prog (tailAt 1 (Try.f4.body.getD .skip)) (bodyPost Try.prog Try.f4 fun e w' => e = .returned (.bool true) ∧ Below w.heap.size w w') ⟨#[.slice a0 n0 c0, .slice a1 n1 c1, .slice a2 n2 c2, .int .i64 z0, .int .i64 z1, .int .i64 z2, .int .i64 z3, .int .i64 k, .int .i64 j, g9, g10, g11, g12, g13, g14, g15, g16, g17, g18, g19, g20, g21, g22, g23, g24, g25, g26, g27, g28, g29, g30, g31, g32, g33, g34, g35, g36, g37, g38, g39, g40, g41, g42, g43, g44, g45, g46, g47, g48, g49, g50, g51, g52, g53, g54, g55, g56, g57, g58, g59, g60, g61, g62, g63, g64, g65, g66, g67, g68, g69, g70, g71, g72, g73, g74, g75, g76, g77, g78, g79, g80, g81, g82, g83, g84, g85, g86, g87, g88, g89, g90, g91, g92, g93, g94, g95, g96, g97, g98, g99, g100, g101, g102, g103, g104, g105, g106, g107, g108, g109, g110, g111, g112, g113, g114, g115, g116, g117, g118, g119, g120, g121, g122, g123, g124, g125, g126, g127, g128, g129, g130, g131, g132, g133, g134, g135, g136, g137, g138, g139, g140, g141, g142, g143, g144, g145, g146, g147, g148, g149, g150, g151, g152, g153, g154, g155, g156, g157, g158, g159, g160, g161, g162, g163, g164, g165, g166, g167, g168], []⟩ w := by
  show Code.wp Try.prog (.seq (headOf (tailAt 1 (Try.f4.body.getD .skip))) (tailAt 2 (Try.f4.body.getD .skip))) _ _ _
  conv => arg 2; arg 1; whnf
  go_wp2_with fail
  refine (f4_bytes a0 a1 a2 n0 n1 n2 c0 c1 c2 k z0 z1 z2 z3 j _).mono ?_
  rintro e w1 ⟨⟨b, rfl⟩, rfl⟩
  cases b with
  | false =>
    go_wp2_with fail
    go_ret
    exact ⟨rfl, Below.refl _ _⟩
  | true =>
    go_wp2_with fail
    exact f4_S2 w k z0 z1 z2 z3 j a0 a1 a2 n0 n1 n2 c0 c1 c2 f0 f1 f2 r0 r1 r2 p0 p1 p2 _ _ _ _ _ _ _ _ _ _ _ _ _ _ _ _ _ _ _ _ _ _ _ _ _ _ _ _ _ _ _ _ _ _ _ _ _ _ _ _ _ _ _ _ _ _ _ _ _ _ _ _ _ _ _ _ _ _ _ _ _ _ _ _ _ _ _ _ _ _ _ _ _ _ _ _ _ _ _ _ _ _ _ _ _ _ _ _ _ _ _ _ _ _ _ _ _ _ _ _ _ _ _ _ _ _ _ _ _ _ _ _ _ _ _ _ _ _ _ _ _ _ _ _ _ _ _ _ _ _ _ _ _ _ _ _ _ _ _ _ _ _ _ _ _ _ _ _ _ _ _ _ _ _ _ _ _ _ _ _

set_option maxHeartbeats 4000000 in
set_option maxRecDepth 100000 in
theorem f4_all (w : World) (k z0 z1 z2 z3 j : Int) (a0 a1 a2 : Option Addr) (n0 n1 n2 c0 c1 c2 : Nat) (f0 f1 f2 : Nat → Int)
    (r0 : Rd w.heap.size w a0 n0 f0) (r1 : Rd w.heap.size w a1 n1 f1) (r2 : Rd w.heap.size w a2 n2 f2) (p0 : a0 = none → n0 = 0 ∧ c0 = 0) (p1 : a1 = none → n1 = 0 ∧ c1 = 0) (p2 : a2 = none → n2 = 0 ∧ c2 = 0)
    :
    Calls Try.prog 4 #[.slice a0 n0 c0, .slice a1 n1 c1, .slice a2 n2 c2, .int .i64 z0, .int .i64 z1, .int .i64 z2, .int .i64 z3, .int .i64 k, .int .i64 j] w fun e w' => e = .returned (.bool true) ∧ Below w.heap.size w w' := by
  refine calls_of_wp (c := (Try.f4.body.getD .skip)) Try.func4 rfl ?_
  simp only [Try.ntmps4, List.size_toArray, List.length_cons, List.length_nil, Nat.reduceAdd, Nat.reduceSub, Array.replicate_succ,
     Array.replicate_zero, List.push_toArray, List.append_toArray, List.nil_append, List.cons_append]
  show Code.wp Try.prog (.seq (headOf (Try.f4.body.getD .skip)) (tailAt 1 (Try.f4.body.getD .skip))) _ _ _
  conv => arg 2; arg 1; whnf
  go_wp2_with fail
  exact f4_S1 w k z0 z1 z2 z3 j a0 a1 a2 n0 n1 n2 c0 c1 c2 f0 f1 f2 r0 r1 r2 p0 p1 p2 _ _ _ _ _ _ _ _ _ _ _ _ _ _ _ _ _ _ _ _ _ _ _ _ _ _ _ _ _ _ _ _ _ _ _ _ _ _ _ _ _ _ _ _ _ _ _ _ _ _ _ _ _ _ _ _ _ _ _ _ _ _ _ _ _ _ _ _ _ _ _ _ _ _ _ _ _ _ _ _ _ _ _ _ _ _ _ _ _ _ _ _ _ _ _ _ _ _ _ _ _ _ _ _ _ _ _ _ _ _ _ _ _ _ _ _ _ _ _ _ _ _ _ _ _ _ _ _ _ _ _ _ _ _ _ _ _ _ _ _ _ _ _ _ _ _ _ _ _ _ _ _ _ _ _ _ _ _ _ _
end Go.Proofs.Qxb6614727a.fnOnlyComposesToTheStricterFilter
