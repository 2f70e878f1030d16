/- The first law's stages: the guards. -/
import Derived.Test.Qxb6614727aSplitA
namespace Go.Proofs.Qxb6614727a.fnOnlySplitsIntoPredicateAndNegation
open Go.RowKit
set_option linter.unusedVariables false

def SomeBool (e : Ending) : Prop := ∃ b, e = .returned (.bool b)

set_option maxHeartbeats 4000000 in
set_option maxRecDepth 100000 in
theorem f3_S4 (w : World) (k z0 z1 z2 z3 : Int) (a0 a1 a2 : Option Addr) (n0 n1 n2 c0 c1 c2 : Nat) (f0 f1 f2 : Nat → Int) (hn0 : n0 ≤ 65536) (hn1 : n1 ≤ 65536)
    (r0 : Rd w.heap.size w a0 n0 f0) (r1 : Rd w.heap.size w a1 n1 f1) (r2 : Rd w.heap.size w a2 n2 f2) (p0 : a0 = none → n0 = 0 ∧ c0 = 0) (p1 : a1 = none → n1 = 0 ∧ c1 = 0) (p2 : a2 = none → n2 = 0 ∧ c2 = 0)
    (g8 g9 g10 g11 g12 g13 g14 g15 g16 g17 g18 g19 g20 g21 g22 g23 g24 g25 g26 g27 g28 g29 g30 g31 g32 g33 g34 g35 g36 g37 g38 g39 g40 g41 g42 g43 g44 g45 g46 g47 g48 g49 g50 g51 g52 g53 g54 g55 g56 g57 g58 g59 g60 g61 g62 g63 g64 g65 g66 g67 g68 g69 g70 g71 g72 g73 g74 g75 g76 g77 g78 g79 g80 g81 g82 g83 g84 g85 g86 g87 g88 g89 g90 g91 g92 g93 g94 g95 g96 g97 g98 g99 g100 g101 g102 g103 g104 g105 g106 g107 g108 g109 g110 g111 g112 g113 g114 g115 g116 g117 g118 g119 g120 g121 g122 g123 g124 g125 g126 g127 g128 g129 g130 g131 g132 g133 g134 g135 g136 g137 g138 g139 g140 g141 g142 g143 g144 g145 g146 g147 g148 g149 g150 g151 g152 g153 g154 g155 g156 g157 g158 g159 g160 g161 g162 g163 g164 g165 g166 g167 g168 g169 g170 : Value) :
    Code.wp Try.prog (tailAt 4 (Try.f3.body.getD .skip)) (bodyPost Try.prog Try.f3 fun e w' => e = .returned (.bool true) ∧ Below w.heap.size w w') ⟨#[.slice a0 n0 c0, .slice a1 n1 c1, .slice a2 n2 c2, .int .i64 z0, .int .i64 z1, .int .i64 z2, .int .i64 z3, .int .i64 k, g8, g9, g10, g11, g12, g13, g14, g15, g16, g17, g18, g19, g20, g21, g22, g23, g24, g25, g26, g27, g28, g29, g30, g31, g32, g33, g34, g35, g36, g37, g38, g39, g40, g41, g42, g43, g44, g45, g46, g47, g48, g49, g50, g51, g52, g53, g54, g55, g56, g57, g58, g59, g60, g61, g62, g63, g64, g65, g66, g67, g68, g69, g70, g71, g72, g73, g74, g75, g76, g77, g78, g79, g80, g81, g82, g83, g84, g85, g86, g87, g88, g89, g90, g91, g92, g93, g94, g95, g96, g97, g98, g99, g100, g101, g102, g103, g104, g105, g106, g107, g108, g109, g110, g111, g112, g113, g114, g115, g116, g117, g118, g119, g120, g121, g122, g123, g124, g125, g126, g127, g128, g129, g130, g131, g132, g133, g134, g135, g136, g137, g138, g139, g140, g141, g142, g143, g144, g145, g146, g147, g148, g149, g150, g151, g152, g153, g154, g155, g156, g157, g158, g159, g160, g161, g162, g163, g164, g165, g166, g167, g168, g169, g170], []⟩ w := by
  show Code.wp Try.prog (.seq (headOf (tailAt 4 (Try.f3.body.getD .skip))) (tailAt 5 (Try.f3.body.getD .skip))) _ _ _
  conv => arg 2; arg 1; whnf
  by_cases e : (32768 : Int) < n2
  · go_wp2_with fail
    go_ret
    exact ⟨rfl, Below.refl _ _⟩
  · go_wp2_with fail
    exact f3_X w k z0 z1 z2 z3 a0 a1 a2 n0 n1 n2 c0 c1 c2 f0 f1 f2 hn0 hn1 (by omega) r0 r1 r2 p0 p1 p2 _ _ _ _ _ _ _ _ _ _ _ _ _ _ _ _ _ _ _ _ _ _ _ _ _ _ _ _ _ _ _ _ _ _ _ _ _ _ _ _ _ _ _ _ _ _ _ _ _ _ _ _ _ _ _ _ _ _ _ _ _ _ _ _ _ _ _ _ _ _ _ _ _ _ _ _ _ _ _ _ _ _ _ _ _ _ _ _ _ _ _ _ _ _ _ _ _ _ _ _ _ _ _ _ _ _ _ _ _ _ _ _ _ _ _ _ _ _ _ _ _ _ _ _ _ _ _ _ _ _ _ _ _ _ _ _ _ _ _ _ _ _ _ _ _ _ _ _ _ _ _ _ _ _ _ _ _ _ _ _ _ _ _

set_option maxHeartbeats 4000000 in
set_option maxRecDepth 100000 in
theorem f3_S3 (w : World) (k z0 z1 z2 z3 : Int) (a0 a1 a2 : Option Addr) (n0 n1 n2 c0 c1 c2 : Nat) (f0 f1 f2 : Nat → Int) (hn0 : n0 ≤ 65536)
    (r0 : Rd w.heap.size w a0 n0 f0) (r1 : Rd w.heap.size w a1 n1 f1) (r2 : Rd w.heap.size w a2 n2 f2) (p0 : a0 = none → n0 = 0 ∧ c0 = 0) (p1 : a1 = none → n1 = 0 ∧ c1 = 0) (p2 : a2 = none → n2 = 0 ∧ c2 = 0)
    (g8 g9 g10 g11 g12 g13 g14 g15 g16 g17 g18 g19 g20 g21 g22 g23 g24 g25 g26 g27 g28 g29 g30 g31 g32 g33 g34 g35 g36 g37 g38 g39 g40 g41 g42 g43 g44 g45 g46 g47 g48 g49 g50 g51 g52 g53 g54 g55 g56 g57 g58 g59 g60 g61 g62 g63 g64 g65 g66 g67 g68 g69 g70 g71 g72 g73 g74 g75 g76 g77 g78 g79 g80 g81 g82 g83 g84 g85 g86 g87 g88 g89 g90 g91 g92 g93 g94 g95 g96 g97 g98 g99 g100 g101 g102 g103 g104 g105 g106 g107 g108 g109 g110 g111 g112 g113 g114 g115 g116 g117 g118 g119 g120 g121 g122 g123 g124 g125 g126 g127 g128 g129 g130 g131 g132 g133 g134 g135 g136 g137 g138 g139 g140 g141 g142 g143 g144 g145 g146 g147 g148 g149 g150 g151 g152 g153 g154 g155 g156 g157 g158 g159 g160 g161 g162 g163 g164 g165 g166 g167 g168 g169 g170 : Value) :
    Code.wp Try.prog (tailAt 3 (Try.f3.body.getD .skip)) (bodyPost Try.prog Try.f3 fun e w' => e = .returned (.bool true) ∧ Below w.heap.size w w') ⟨#[.slice a0 n0 c0, .slice a1 n1 c1, .slice a2 n2 c2, .int .i64 z0, .int .i64 z1, .int .i64 z2, .int .i64 z3, .int .i64 k, g8, g9, g10, g11, g12, g13, g14, g15, g16, g17, g18, g19, g20, g21, g22, g23, g24, g25, g26, g27, g28, g29, g30, g31, g32, g33, g34, g35, g36, g37, g38, g39, g40, g41, g42, g43, g44, g45, g46, g47, g48, g49, g50, g51, g52, g53, g54, g55, g56, g57, g58, g59, g60, g61, g62, g63, g64, g65, g66, g67, g68, g69, g70, g71, g72, g73, g74, g75, g76, g77, g78, g79, g80, g81, g82, g83, g84, g85, g86, g87, g88, g89, g90, g91, g92, g93, g94, g95, g96, g97, g98, g99, g100, g101, g102, g103, g104, g105, g106, g107, g108, g109, g110, g111, g112, g113, g114, g115, g116, g117, g118, g119, g120, g121, g122, g123, g124, g125, g126, g127, g128, g129, g130, g131, g132, g133, g134, g135, g136, g137, g138, g139, g140, g141, g142, g143, g144, g145, g146, g147, g148, g149, g150, g151, g152, g153, g154, g155, g156, g157, g158, g159, g160, g161, g162, g163, g164, g165, g166, g167, g168, g169, g170], []⟩ w := by
  show Code.wp Try.prog (.seq (headOf (tailAt 3 (Try.f3.body.getD .skip))) (tailAt 4 (Try.f3.body.getD .skip))) _ _ _
  conv => arg 2; arg 1; whnf
  by_cases e : (32768 : Int) < n1
  · go_wp2_with fail
    go_ret
    exact ⟨rfl, Below.refl _ _⟩
  · go_wp2_with fail
    exact f3_S4 w k z0 z1 z2 z3 a0 a1 a2 n0 n1 n2 c0 c1 c2 f0 f1 f2 hn0 (by omega) r0 r1 r2 p0 p1 p2 _ _ _ _ _ _ _ _ _ _ _ _ _ _ _ _ _ _ _ _ _ _ _ _ _ _ _ _ _ _ _ _ _ _ _ _ _ _ _ _ _ _ _ _ _ _ _ _ _ _ _ _ _ _ _ _ _ _ _ _ _ _ _ _ _ _ _ _ _ _ _ _ _ _ _ _ _ _ _ _ _ _ _ _ _ _ _ _ _ _ _ _ _ _ _ _ _ _ _ _ _ _ _ _ _ _ _ _ _ _ _ _ _ _ _ _ _ _ _ _ _ _ _ _ _ _ _ _ _ _ _ _ _ _ _ _ _ _ _ _ _ _ _ _ _ _ _ _ _ _ _ _ _ _ _ _ _ _ _ _ _ _ _

set_option maxHeartbeats 4000000 in
set_option maxRecDepth 100000 in
theorem f3_S2 (w : World) (k z0 z1 z2 z3 : Int) (a0 a1 a2 : Option Addr) (n0 n1 n2 c0 c1 c2 : Nat) (f0 f1 f2 : Nat → Int)
    (r0 : Rd w.heap.size w a0 n0 f0) (r1 : Rd w.heap.size w a1 n1 f1) (r2 : Rd w.heap.size w a2 n2 f2) (p0 : a0 = none → n0 = 0 ∧ c0 = 0) (p1 : a1 = none → n1 = 0 ∧ c1 = 0) (p2 : a2 = none → n2 = 0 ∧ c2 = 0)
    (g8 g9 g10 g11 g12 g13 g14 g15 g16 g17 g18 g19 g20 g21 g22 g23 g24 g25 g26 g27 g28 g29 g30 g31 g32 g33 g34 g35 g36 g37 g38 g39 g40 g41 g42 g43 g44 g45 g46 g47 g48 g49 g50 g51 g52 g53 g54 g55 g56 g57 g58 g59 g60 g61 g62 g63 g64 g65 g66 g67 g68 g69 g70 g71 g72 g73 g74 g75 g76 g77 g78 g79 g80 g81 g82 g83 g84 g85 g86 g87 g88 g89 g90 g91 g92 g93 g94 g95 g96 g97 g98 g99 g100 g101 g102 g103 g104 g105 g106 g107 g108 g109 g110 g111 g112 g113 g114 g115 g116 g117 g118 g119 g120 g121 g122 g123 g124 g125 g126 g127 g128 g129 g130 g131 g132 g133 g134 g135 g136 g137 g138 g139 g140 g141 g142 g143 g144 g145 g146 g147 g148 g149 g150 g151 g152 g153 g154 g155 g156 g157 g158 g159 g160 g161 g162 g163 g164 g165 g166 g167 g168 g169 g170 : Value) :
    Code.wp Try.prog (tailAt 2 (Try.f3.body.getD .skip)) (bodyPost Try.prog Try.f3 fun e w' => e = .returned (.bool true) ∧ Below w.heap.size w w') ⟨#[.slice a0 n0 c0, .slice a1 n1 c1, .slice a2 n2 c2, .int .i64 z0, .int .i64 z1, .int .i64 z2, .int .i64 z3, .int .i64 k, g8, g9, g10, g11, g12, g13, g14, g15, g16, g17, g18, g19, g20, g21, g22, g23, g24, g25, g26, g27, g28, g29, g30, g31, g32, g33, g34, g35, g36, g37, g38, g39, g40, g41, g42, g43, g44, g45, g46, g47, g48, g49, g50, g51, g52, g53, g54, g55, g56, g57, g58, g59, g60, g61, g62, g63, g64, g65, g66, g67, g68, g69, g70, g71, g72, g73, g74, g75, g76, g77, g78, g79, g80, g81, g82, g83, g84, g85, g86, g87, g88, g89, g90, g91, g92, g93, g94, g95, g96, g97, g98, g99, g100, g101, g102, g103, g104, g105, g106, g107, g108, g109, g110, g111, g112, g113, g114, g115, g116, g117, g118, g119, g120, g121, g122, g123, g124, g125, g126, g127, g128, g129, g130, g131, g132, g133, g134, g135, g136, g137, g138, g139, g140, g141, g142, g143, g144, g145, g146, g147, g148, g149, g150, g151, g152, g153, g154, g155, g156, g157, g158, g159, g160, g161, g162, g163, g164, g165, g166, g167, g168, g169, g170], []⟩ w := by
  show Code.wp Try.prog (.seq (headOf (tailAt 2 (Try.f3.body.getD .skip))) (tailAt 3 (Try.f3.body.getD .skip))) _ _ _
  conv => arg 2; arg 1; whnf
  by_cases e : (32768 : Int) < n0
  · go_wp2_with fail
    go_ret
    exact ⟨rfl, Below.refl _ _⟩
  · go_wp2_with fail
    exact f3_S3 w k z0 z1 z2 z3 a0 a1 a2 n0 n1 n2 c0 c1 c2 f0 f1 f2  (by omega) r0 r1 r2 p0 p1 p2 _ _ _ _ _ _ _ _ _ _ _ _ _ _ _ _ _ _ _ _ _ _ _ _ _ _ _ _ _ _ _ _ _ _ _ _ _ _ _ _ _ _ _ _ _ _ _ _ _ _ _ _ _ _ _ _ _ _ _ _ _ _ _ _ _ _ _ _ _ _ _ _ _ _ _ _ _ _ _ _ _ _ _ _ _ _ _ _ _ _ _ _ _ _ _ _ _ _ _ _ _ _ _ _ _ _ _ _ _ _ _ _ _ _ _ _ _ _ _ _ _ _ _ _ _ _ _ _ _ _ _ _ _ _ _ _ _ _ _ _ _ _ _ _ _ _ _ _ _ _ _ _ _ _ _ _ _ _ _ _ _ _ _

set_option maxHeartbeats 4000000 in
set_option maxRecDepth 100000 in
theorem f3_bytes (a0 a1 a2 : Option Addr) (n0 n1 n2 c0 c1 c2 : Nat) (k z0 z1 z2 z3 : Int) (w : World) :
    Calls Try.prog 5 #[.slice a0 n0 c0, .slice a1 n1 c1, .slice a2 n2 c2, .int .i64 z0, .int .i64 z1, .int .i64 z2, .int .i64 z3, .int .i64 k] w fun e w' => SomeBool e ∧ w = w' := by
  by_cases t0 : (1048576 : Int) < n0
  · go_enter Try.func5, Try.ntmps5
    go_wp2
    go_ret
    exact ⟨⟨_, rfl⟩, rfl⟩
  · by_cases t1 : (1048576 : Int) < n1
    · go_enter Try.func5, Try.ntmps5
      go_wp2
      go_ret
      exact ⟨⟨_, rfl⟩, rfl⟩
    · by_cases t2 : (1048576 : Int) < n0 + n1
      · go_enter Try.func5, Try.ntmps5
        go_wp2
        go_ret
        exact ⟨⟨_, rfl⟩, rfl⟩
      · by_cases t3 : (1048576 : Int) < n2
        · go_enter Try.func5, Try.ntmps5
          go_wp2
          go_ret
          exact ⟨⟨_, rfl⟩, rfl⟩
        · by_cases t4 : (1048576 : Int) < n0 + n1 + n2
          · go_enter Try.func5, Try.ntmps5
            go_wp2
            go_ret
            exact ⟨⟨_, rfl⟩, rfl⟩
          · go_enter Try.func5, Try.ntmps5
            go_wp2
            go_ret
            exact ⟨⟨_, rfl⟩, rfl⟩

set_option maxHeartbeats 4000000 in
set_option maxRecDepth 100000 in
theorem f3_S1 (w : World) (k z0 z1 z2 z3 : Int) (a0 a1 a2 : Option Addr) (n0 n1 n2 c0 c1 c2 : Nat) (f0 f1 f2 : Nat → Int)
    (r0 : Rd w.heap.size w a0 n0 f0) (r1 : Rd w.heap.size w a1 n1 f1) (r2 : Rd w.heap.size w a2 n2 f2) (p0 : a0 = none → n0 = 0 ∧ c0 = 0) (p1 : a1 = none → n1 = 0 ∧ c1 = 0) (p2 : a2 = none → n2 = 0 ∧ c2 = 0)
    (g8 g9 g10 g11 g12 g13 g14 g15 g16 g17 g18 g19 g20 g21 g22 g23 g24 g25 g26 g27 g28 g29 g30 g31 g32 g33 g34 g35 g36 g37 g38 g39 g40 g41 g42 g43 g44 g45 g46 g47 g48 g49 g50 g51 g52 g53 g54 g55 g56 g57 g58 g59 g60 g61 g62 g63 g64 g65 g66 g67 g68 g69 g70 g71 g72 g73 g74 g75 g76 g77 g78 g79 g80 g81 g82 g83 g84 g85 g86 g87 g88 g89 g90 g91 g92 g93 g94 g95 g96 g97 g98 g99 g100 g101 g102 g103 g104 g105 g106 g107 g108 g109 g110 g111 g112 g113 g114 g115 g116 g117 g118 g119 g120 g121 g122 g123 g124 g125 g126 g127 g128 g129 g130 g131 g132 g133 g134 g135 g136 g137 g138 g139 g140 g141 g142 g143 g144 g145 g146 g147 g148 g149 g150 g151 g152 g153 g154 g155 g156 g157 g158 g159 g160 g161 g162 g163 g164 g165 g166 g167 g168 g169 g170 : Value) :
    Code.wp Try.prog (tailAt 1 (Try.f3.body.getD .skip)) (bodyPost Try.prog Try.f3 fun e w' => e = .returned (.bool true) ∧ Below w.heap.size w w') ⟨#[.slice a0 n0 c0, .slice a1 n1 c1, .slice a2 n2 c2, .int .i64 z0, .int .i64 z1, .int .i64 z2, .int .i64 z3, .int .i64 k, g8, g9, g10, g11, g12, g13, g14, g15, g16, g17, g18, g19, g20, g21, g22, g23, g24, g25, g26, g27, g28, g29, g30, g31, g32, g33, g34, g35, g36, g37, g38, g39, g40, g41, g42, g43, g44, g45, g46, g47, g48, g49, g50, g51, g52, g53, g54, g55, g56, g57, g58, g59, g60, g61, g62, g63, g64, g65, g66, g67, g68, g69, g70, g71, g72, g73, g74, g75, g76, g77, g78, g79, g80, g81, g82, g83, g84, g85, g86, g87, g88, g89, g90, g91, g92, g93, g94, g95, g96, g97, g98, g99, g100, g101, g102, g103, g104, g105, g106, g107, g108, g109, g110, g111, g112, g113, g114, g115, g116, g117, g118, g119, g120, g121, g122, g123, g124, g125, g126, g127, g128, g129, g130, g131, g132, g133, g134, g135, g136, g137, g138, g139, g140, g141, g142, g143, g144, g145, g146, g147, g148, g149, g150, g151, g152, g153, g154, g155, g156, g157, g158, g159, g160, g161, g162, g163, g164, g165, g166, g167, g168, g169, g170], []⟩ w := by
  show Code.wp Try.prog (.seq (headOf (tailAt 1 (Try.f3.body.getD .skip))) (tailAt 2 (Try.f3.body.getD .skip))) _ _ _
  conv => arg 2; arg 1; whnf
  go_wp2_with fail
  refine (f3_bytes a0 a1 a2 n0 n1 n2 c0 c1 c2 k z0 z1 z2 z3 _).mono ?_
  rintro e w1 ⟨⟨b, rfl⟩, rfl⟩
  cases b with
  | false =>
    go_wp2_with fail
    go_ret
    exact ⟨rfl, Below.refl _ _⟩
  | true =>
    go_wp2_with fail
    exact f3_S2 w k z0 z1 z2 z3 a0 a1 a2 n0 n1 n2 c0 c1 c2 f0 f1 f2 r0 r1 r2 p0 p1 p2 _ _ _ _ _ _ _ _ _ _ _ _ _ _ _ _ _ _ _ _ _ _ _ _ _ _ _ _ _ _ _ _ _ _ _ _ _ _ _ _ _ _ _ _ _ _ _ _ _ _ _ _ _ _ _ _ _ _ _ _ _ _ _ _ _ _ _ _ _ _ _ _ _ _ _ _ _ _ _ _ _ _ _ _ _ _ _ _ _ _ _ _ _ _ _ _ _ _ _ _ _ _ _ _ _ _ _ _ _ _ _ _ _ _ _ _ _ _ _ _ _ _ _ _ _ _ _ _ _ _ _ _ _ _ _ _ _ _ _ _ _ _ _ _ _ _ _ _ _ _ _ _ _ _ _ _ _ _ _ _ _ _ _

set_option maxHeartbeats 4000000 in
set_option maxRecDepth 100000 in
theorem f3_all (w : World) (k z0 z1 z2 z3 : Int) (a0 a1 a2 : Option Addr) (n0 n1 n2 c0 c1 c2 : Nat) (f0 f1 f2 : Nat → Int)
    (r0 : Rd w.heap.size w a0 n0 f0) (r1 : Rd w.heap.size w a1 n1 f1) (r2 : Rd w.heap.size w a2 n2 f2) (p0 : a0 = none → n0 = 0 ∧ c0 = 0) (p1 : a1 = none → n1 = 0 ∧ c1 = 0) (p2 : a2 = none → n2 = 0 ∧ c2 = 0)
    :
    Calls Try.prog 3 #[.slice a0 n0 c0, .slice a1 n1 c1, .slice a2 n2 c2, .int .i64 z0, .int .i64 z1, .int .i64 z2, .int .i64 z3, .int .i64 k] w fun e w' => e = .returned (.bool true) ∧ Below w.heap.size w w' := by
  refine calls_of_wp (c := (Try.f3.body.getD .skip)) Try.func3 rfl ?_
  simp only [Try.ntmps3, List.size_toArray, List.length_cons, List.length_nil, Nat.reduceAdd, Nat.reduceSub, Array.replicate_succ,
     Array.replicate_zero, List.push_toArray, List.append_toArray, List.nil_append, List.cons_append]
  show Code.wp Try.prog (.seq (headOf (Try.f3.body.getD .skip)) (tailAt 1 (Try.f3.body.getD .skip))) _ _ _
  conv => arg 2; arg 1; whnf
  go_wp2_with fail
  exact f3_S1 w k z0 z1 z2 z3 a0 a1 a2 n0 n1 n2 c0 c1 c2 f0 f1 f2 r0 r1 r2 p0 p1 p2 _ _ _ _ _ _ _ _ _ _ _ _ _ _ _ _ _ _ _ _ _ _ _ _ _ _ _ _ _ _ _ _ _ _ _ _ _ _ _ _ _ _ _ _ _ _ _ _ _ _ _ _ _ _ _ _ _ _ _ _ _ _ _ _ _ _ _ _ _ _ _ _ _ _ _ _ _ _ _ _ _ _ _ _ _ _ _ _ _ _ _ _ _ _ _ _ _ _ _ _ _ _ _ _ _ _ _ _ _ _ _ _ _ _ _ _ _ _ _ _ _ _ _ _ _ _ _ _ _ _ _ _ _ _ _ _ _ _ _ _ _ _ _ _ _ _ _ _ _ _ _ _ _ _ _ _ _ _ _ _ _ _ _
end Go.Proofs.Qxb6614727a.fnOnlySplitsIntoPredicateAndNegation
