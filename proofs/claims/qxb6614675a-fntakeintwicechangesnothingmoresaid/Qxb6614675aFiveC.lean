/- The second law's stages: behind the copies. -/
import Derived.Test.Qxb6614675aFiveB
namespace Go.Proofs.Qxb6614675a.fnTakeInTwiceChangesNothingMore
open Go.RowKit
set_option linter.unusedVariables false

set_option maxHeartbeats 4000000 in
set_option maxRecDepth 100000 in
theorem f5_A1 (w wC : World) (b0 b1 b2 a9 : Option Addr) (n m d0 d1 d2 c9 : Nat) (P S T sn : Nat → Int) (id gen tp ts t lane K : Int) (hn : n ≤ 65536) (hm : m ≤ 65536) (i0 : 0 ≤ id) (i1 : id ≤ 1)
    (s0 : Rd .i64 wC.heap.size wC b0 n P) (s1 : Rd .i64 wC.heap.size wC b1 n S) (s2 : Rd .i32 wC.heap.size wC b2 n T) (r9 : Rd .u64 wC.heap.size wC a9 m sn) (hb : Below w.heap.size w wC) (HK : Hid ((¬ lane = 0 ∧ K = -1) ∨ (lane = 0 ∧ IsT P S n tp ts K)))
    (g10 g11 g12 g13 g14 g15 g16 g17 g18 g19 g20 g21 g22 g23 g27 g28 g29 g30 g31 g32 g33 g34 g35 g36 g37 g38 g39 g40 g41 g42 g43 g44 g45 g46 g47 g48 g49 g50 g51 g52 g53 g54 g55 g56 g57 g58 g59 g60 g61 g62 g63 g64 g65 g66 g67 g68 g69 g70 g71 g72 g73 g74 g75 g76 g77 g78 g79 g80 g81 g82 g83 g84 g85 g86 g87 g88 g89 g90 g91 g92 g93 g94 g95 g96 g97 g98 g99 g100 g101 g102 g103 g104 g105 g106 g107 g108 g109 g110 g111 g112 g113 g114 g115 g116 g117 g118 g119 g120 g121 g122 g123 g124 g125 g126 g127 g128 g129 g130 g131 g132 g133 g134 g135 g136 g137 g138 g139 g140 g141 g142 g143 g144 g145 g146 g147 g148 g149 g150 g151 g152 g153 g154 g155 g156 g157 g158 g159 g160 g161 g162 g163 g164 g165 g166 g167 g168 g169 g170 g171 g172 g173 g174 g175 g176 g177 g178 g179 g180 g181 g182 g183 g184 g185 g186 g187 g188 g189 g190 g191 g192 g193 g194 g195 g196 g197 g198 g199 g200 g201 g202 g203 g204 g205 g206 g207 g208 g209 g210 g211 g212 g213 g214 g215 g216 g217 g218 g219 g220 g221 g222 g223 g224 g225 g226 g227 g228 g229 g230 g231 g232 g233 g234 g235 g236 g237 g238 g239 g240 g241 g242 g243 g244 g245 g246 g247 g248 g249 g250 g251 g252 g253 g254 g255 g256 g257 g258 g259 g260 g261 g262 g263 g264 g265 g266 g267 g268 g269 g270 g271 g272 g273 g274 g275 g276 g277 g278 g279 g280 g281 g282 g283 g284 g285 g286 g287 g288 g289 g290 g291 g292 g293 g294 g295 g296 g297 g298 g299 g300 g301 g302 g303 g304 g305 g306 g307 g308 g309 g310 g311 g312 g313 g314 g315 g316 g317 g318 g319 g320 g321 g322 g323 g324 g325 g326 g327 : Value) :
    Code.wp Try.prog (tailAt 13 (Try.f5.body.getD .skip)) (bodyPost Try.prog Try.f5 fun e w' => e = .returned (.bool true) ∧ Below w.heap.size w w') ⟨#[.slice b0 n d0, .slice b1 n d1, .slice b2 n d2, .int .i64 id, .int .u64 gen, .int .i64 tp, .int .i64 ts, .int .i32 t, .int .i64 lane, .slice a9 m c9, g10, g11, g12, g13, g14, g15, g16, g17, g18, g19, g20, g21, g22, g23, .int .i32 0, .int .i64 K, .int .i32 0, g27, g28, g29, g30, g31, g32, g33, g34, g35, g36, g37, g38, g39, g40, g41, g42, g43, g44, g45, g46, g47, g48, g49, g50, g51, g52, g53, g54, g55, g56, g57, g58, g59, g60, g61, g62, g63, g64, g65, g66, g67, g68, g69, g70, g71, g72, g73, g74, g75, g76, g77, g78, g79, g80, g81, g82, g83, g84, g85, g86, g87, g88, g89, g90, g91, g92, g93, g94, g95, g96, g97, g98, g99, g100, g101, g102, g103, g104, g105, g106, g107, g108, g109, g110, g111, g112, g113, g114, g115, g116, g117, g118, g119, g120, g121, g122, g123, g124, g125, g126, g127, g128, g129, g130, g131, g132, g133, g134, g135, g136, g137, g138, g139, g140, g141, g142, g143, g144, g145, g146, g147, g148, g149, g150, g151, g152, g153, g154, g155, g156, g157, g158, g159, g160, g161, g162, g163, g164, g165, g166, g167, g168, g169, g170, g171, g172, g173, g174, g175, g176, g177, g178, g179, g180, g181, g182, g183, g184, g185, g186, g187, g188, g189, g190, g191, g192, g193, g194, g195, g196, g197, g198, g199, g200, g201, g202, g203, g204, g205, g206, g207, g208, g209, g210, g211, g212, g213, g214, g215, g216, g217, g218, g219, g220, g221, g222, g223, g224, g225, g226, g227, g228, g229, g230, g231, g232, g233, g234, g235, g236, g237, g238, g239, g240, g241, g242, g243, g244, g245, g246, g247, g248, g249, g250, g251, g252, g253, g254, g255, g256, g257, g258, g259, g260, g261, g262, g263, g264, g265, g266, g267, g268, g269, g270, g271, g272, g273, g274, g275, g276, g277, g278, g279, g280, g281, g282, g283, g284, g285, g286, g287, g288, g289, g290, g291, g292, g293, g294, g295, g296, g297, g298, g299, g300, g301, g302, g303, g304, g305, g306, g307, g308, g309, g310, g311, g312, g313, g314, g315, g316, g317, g318, g319, g320, g321, g322, g323, g324, g325, g326, g327], []⟩ wC := by
  show Code.wp Try.prog (.seq (headOf (tailAt 13 (Try.f5.body.getD .skip))) (tailAt 14 (Try.f5.body.getD .skip))) _ _ _
  conv => arg 2; arg 1; whnf
  rcases HK.out with ⟨hl, rfl⟩ | ⟨hl, ⟨rfl, hmiss⟩ | ⟨i, rfl, hH⟩⟩
  · have Hl : Hid (¬ lane = 0) := hl
    clear hl HK
    go_wp2_with fail
    exact f5_B w _ b0 b1 b2 a9 n m d0 d1 d2 c9 P S T sn id gen tp ts t lane (-1) 0 (-1) hn hm i0 i1 (Or.inl ⟨Hl.out, rfl, rfl, rfl⟩) s0 s1 s2 r9 hb _ _ _ _ _ _ _ _ _ _ _ _ _ _ _ _ _ _ _ _ _ _ _ _ _ _ _ _ _ _ _ _ _ _ _ _ _ _ _ _ _ _ _ _ _ _ _ _ _ _ _ _ _ _ _ _ _ _ _ _ _ _ _ _ _ _ _ _ _ _ _ _ _ _ _ _ _ _ _ _ _ _ _ _ _ _ _ _ _ _ _ _ _ _ _ _ _ _ _ _ _ _ _ _ _ _ _ _ _ _ _ _ _ _ _ _ _ _ _ _ _ _ _ _ _ _ _ _ _ _ _ _ _ _ _ _ _ _ _ _ _ _ _ _ _ _ _ _ _ _ _ _ _ _ _ _ _ _ _ _ _ _ _ _ _ _ _ _ _ _ _ _ _ _ _ _ _ _ _ _ _ _ _ _ _ _ _ _ _ _ _ _ _ _ _ _ _ _ _ _ _ _ _ _ _ _ _ _ _ _ _ _ _ _ _ _ _ _ _ _ _ _ _ _ _ _ _ _ _ _ _ _ _ _ _ _ _ _ _ _ _ _ _ _ _ _ _ _ _ _ _ _ _ _ _ _ _ _ _ _ _ _ _ _ _ _ _ _ _ _ _ _ _ _ _ _ _ _ _ _ _ _ _ _ _ _ _ _ _ _ _ _ _ _ _ _ _ _ _ _ _ _ _ _ _ _ _ _ _ _ _ _ _ _ _ _
  · have Hl : Hid (lane = 0) := hl
    have Hm : Hid (Miss P S n tp ts) := hmiss
    clear hl hmiss HK
    go_wp2_with fail
    exact f5_B w _ b0 b1 b2 a9 n m d0 d1 d2 c9 P S T sn id gen tp ts t lane (-1) 0 (-1) hn hm i0 i1 (Or.inr (Or.inl ⟨Hl.out, Hm.out, rfl, rfl, rfl⟩)) s0 s1 s2 r9 hb _ _ _ _ _ _ _ _ _ _ _ _ _ _ _ _ _ _ _ _ _ _ _ _ _ _ _ _ _ _ _ _ _ _ _ _ _ _ _ _ _ _ _ _ _ _ _ _ _ _ _ _ _ _ _ _ _ _ _ _ _ _ _ _ _ _ _ _ _ _ _ _ _ _ _ _ _ _ _ _ _ _ _ _ _ _ _ _ _ _ _ _ _ _ _ _ _ _ _ _ _ _ _ _ _ _ _ _ _ _ _ _ _ _ _ _ _ _ _ _ _ _ _ _ _ _ _ _ _ _ _ _ _ _ _ _ _ _ _ _ _ _ _ _ _ _ _ _ _ _ _ _ _ _ _ _ _ _ _ _ _ _ _ _ _ _ _ _ _ _ _ _ _ _ _ _ _ _ _ _ _ _ _ _ _ _ _ _ _ _ _ _ _ _ _ _ _ _ _ _ _ _ _ _ _ _ _ _ _ _ _ _ _ _ _ _ _ _ _ _ _ _ _ _ _ _ _ _ _ _ _ _ _ _ _ _ _ _ _ _ _ _ _ _ _ _ _ _ _ _ _ _ _ _ _ _ _ _ _ _ _ _ _ _ _ _ _ _ _ _ _ _ _ _ _ _ _ _ _ _ _ _ _ _ _ _ _ _ _ _ _ _ _ _ _ _ _ _ _ _ _ _ _ _ _ _ _ _ _ _ _ _ _ _ _ _
  · have hin := hH.1
    obtain ⟨x2, o2, rfl, y2, hc2⟩ := s2 (by omega)
    have ec := hc2 i hin
    have HH : Hid (Hit P S n tp ts i) := hH
    have Hl : Hid (lane = 0) := hl
    clear hc2 hH hl HK
    by_cases hM : Mergeable (T i) t
    · have HM : Hid (Mergeable (T i) t) := hM
      go_wp2_with fail
      refine (merged_yes (T i) t _ hM).mono ?_
      rintro e w5 ⟨rfl, rfl⟩
      clear hM
      generalize hM0 : mrg (T i) t = M0
      have HM0 : Hid (mrg (T i) t = M0) := hM0
      clear hM0
      by_cases m1 : M0 < 0
      · go_wp2_with fail
        go_ret
        exact ⟨rfl, hb⟩
      · by_cases m2 : 65536 < M0
        · go_wp2_with fail
          go_ret
          exact ⟨rfl, hb⟩
        · by_cases m3 : (m : Int) ≤ 2 * M0 + id
          · go_wp2_with fail
            go_ret
            exact ⟨rfl, hb⟩
          · go_wp2_with fail
            exact f5_B w _ b0 b1 (some ⟨x2, o2, none⟩) a9 n m d0 d1 d2 c9 P S T sn id gen tp ts t lane i M0 (2 * M0 + id) hn hm i0 i1 (Or.inr (Or.inr ⟨Hl.out, i, rfl, HH.out, HM.out, HM0.out.symm, by omega, by omega, by omega, rfl⟩)) s0 s1 s2 r9 hb _ _ _ _ _ _ _ _ _ _ _ _ _ _ _ _ _ _ _ _ _ _ _ _ _ _ _ _ _ _ _ _ _ _ _ _ _ _ _ _ _ _ _ _ _ _ _ _ _ _ _ _ _ _ _ _ _ _ _ _ _ _ _ _ _ _ _ _ _ _ _ _ _ _ _ _ _ _ _ _ _ _ _ _ _ _ _ _ _ _ _ _ _ _ _ _ _ _ _ _ _ _ _ _ _ _ _ _ _ _ _ _ _ _ _ _ _ _ _ _ _ _ _ _ _ _ _ _ _ _ _ _ _ _ _ _ _ _ _ _ _ _ _ _ _ _ _ _ _ _ _ _ _ _ _ _ _ _ _ _ _ _ _ _ _ _ _ _ _ _ _ _ _ _ _ _ _ _ _ _ _ _ _ _ _ _ _ _ _ _ _ _ _ _ _ _ _ _ _ _ _ _ _ _ _ _ _ _ _ _ _ _ _ _ _ _ _ _ _ _ _ _ _ _ _ _ _ _ _ _ _ _ _ _ _ _ _ _ _ _ _ _ _ _ _ _ _ _ _ _ _ _ _ _ _ _ _ _ _ _ _ _ _ _ _ _ _ _ _ _ _ _ _ _ _ _ _ _ _ _ _ _ _ _ _ _ _ _ _ _ _ _ _ _ _ _ _ _ _ _ _ _ _ _ _ _ _ _ _ _ _ _ _ _ _ _
    · go_wp2_with fail
      refine (merged_no (T i) t _ hM).mono ?_
      rintro e w5 ⟨rfl, rfl⟩
      go_wp2_with fail
      go_ret
      exact ⟨rfl, hb⟩

set_option maxHeartbeats 4000000 in
set_option maxRecDepth 100000 in
theorem f5_A (w wC : World) (b0 b1 b2 a9 : Option Addr) (n m d0 d1 d2 c9 : Nat) (P S T sn : Nat → Int) (id gen tp ts t lane : Int) (hn : n ≤ 65536) (hm : m ≤ 65536) (i0 : 0 ≤ id) (i1 : id ≤ 1)
    (s0 : Rd .i64 wC.heap.size wC b0 n P) (s1 : Rd .i64 wC.heap.size wC b1 n S) (s2 : Rd .i32 wC.heap.size wC b2 n T) (r9 : Rd .u64 wC.heap.size wC a9 m sn) (hb : Below w.heap.size w wC)
    (g10 g11 g12 g13 g14 g15 g16 g17 g18 g19 g20 g21 g22 g23 g24 g25 g26 g27 g28 g29 g30 g31 g32 g33 g34 g35 g36 g37 g38 g39 g40 g41 g42 g43 g44 g45 g46 g47 g48 g49 g50 g51 g52 g53 g54 g55 g56 g57 g58 g59 g60 g61 g62 g63 g64 g65 g66 g67 g68 g69 g70 g71 g72 g73 g74 g75 g76 g77 g78 g79 g80 g81 g82 g83 g84 g85 g86 g87 g88 g89 g90 g91 g92 g93 g94 g95 g96 g97 g98 g99 g100 g101 g102 g103 g104 g105 g106 g107 g108 g109 g110 g111 g112 g113 g114 g115 g116 g117 g118 g119 g120 g121 g122 g123 g124 g125 g126 g127 g128 g129 g130 g131 g132 g133 g134 g135 g136 g137 g138 g139 g140 g141 g142 g143 g144 g145 g146 g147 g148 g149 g150 g151 g152 g153 g154 g155 g156 g157 g158 g159 g160 g161 g162 g163 g164 g165 g166 g167 g168 g169 g170 g171 g172 g173 g174 g175 g176 g177 g178 g179 g180 g181 g182 g183 g184 g185 g186 g187 g188 g189 g190 g191 g192 g193 g194 g195 g196 g197 g198 g199 g200 g201 g202 g203 g204 g205 g206 g207 g208 g209 g210 g211 g212 g213 g214 g215 g216 g217 g218 g219 g220 g221 g222 g223 g224 g225 g226 g227 g228 g229 g230 g231 g232 g233 g234 g235 g236 g237 g238 g239 g240 g241 g242 g243 g244 g245 g246 g247 g248 g249 g250 g251 g252 g253 g254 g255 g256 g257 g258 g259 g260 g261 g262 g263 g264 g265 g266 g267 g268 g269 g270 g271 g272 g273 g274 g275 g276 g277 g278 g279 g280 g281 g282 g283 g284 g285 g286 g287 g288 g289 g290 g291 g292 g293 g294 g295 g296 g297 g298 g299 g300 g301 g302 g303 g304 g305 g306 g307 g308 g309 g310 g311 g312 g313 g314 g315 g316 g317 g318 g319 g320 g321 g322 g323 g324 g325 g326 g327 : Value) :
    Code.wp Try.prog (tailAt 9 (Try.f5.body.getD .skip)) (bodyPost Try.prog Try.f5 fun e w' => e = .returned (.bool true) ∧ Below w.heap.size w w') ⟨#[.slice b0 n d0, .slice b1 n d1, .slice b2 n d2, .int .i64 id, .int .u64 gen, .int .i64 tp, .int .i64 ts, .int .i32 t, .int .i64 lane, .slice a9 m c9, g10, g11, g12, g13, g14, g15, g16, g17, g18, g19, g20, g21, g22, g23, g24, g25, g26, g27, g28, g29, g30, g31, g32, g33, g34, g35, g36, g37, g38, g39, g40, g41, g42, g43, g44, g45, g46, g47, g48, g49, g50, g51, g52, g53, g54, g55, g56, g57, g58, g59, g60, g61, g62, g63, g64, g65, g66, g67, g68, g69, g70, g71, g72, g73, g74, g75, g76, g77, g78, g79, g80, g81, g82, g83, g84, g85, g86, g87, g88, g89, g90, g91, g92, g93, g94, g95, g96, g97, g98, g99, g100, g101, g102, g103, g104, g105, g106, g107, g108, g109, g110, g111, g112, g113, g114, g115, g116, g117, g118, g119, g120, g121, g122, g123, g124, g125, g126, g127, g128, g129, g130, g131, g132, g133, g134, g135, g136, g137, g138, g139, g140, g141, g142, g143, g144, g145, g146, g147, g148, g149, g150, g151, g152, g153, g154, g155, g156, g157, g158, g159, g160, g161, g162, g163, g164, g165, g166, g167, g168, g169, g170, g171, g172, g173, g174, g175, g176, g177, g178, g179, g180, g181, g182, g183, g184, g185, g186, g187, g188, g189, g190, g191, g192, g193, g194, g195, g196, g197, g198, g199, g200, g201, g202, g203, g204, g205, g206, g207, g208, g209, g210, g211, g212, g213, g214, g215, g216, g217, g218, g219, g220, g221, g222, g223, g224, g225, g226, g227, g228, g229, g230, g231, g232, g233, g234, g235, g236, g237, g238, g239, g240, g241, g242, g243, g244, g245, g246, g247, g248, g249, g250, g251, g252, g253, g254, g255, g256, g257, g258, g259, g260, g261, g262, g263, g264, g265, g266, g267, g268, g269, g270, g271, g272, g273, g274, g275, g276, g277, g278, g279, g280, g281, g282, g283, g284, g285, g286, g287, g288, g289, g290, g291, g292, g293, g294, g295, g296, g297, g298, g299, g300, g301, g302, g303, g304, g305, g306, g307, g308, g309, g310, g311, g312, g313, g314, g315, g316, g317, g318, g319, g320, g321, g322, g323, g324, g325, g326, g327], []⟩ wC := by
  show Code.wp Try.prog (.seq (headOf (tailAt 9 (Try.f5.body.getD .skip))) (.seq (headOf (tailAt 10 (Try.f5.body.getD .skip))) (.seq (headOf (tailAt 11 (Try.f5.body.getD .skip))) (.seq (headOf (tailAt 12 (Try.f5.body.getD .skip))) (tailAt 13 (Try.f5.body.getD .skip)))))) _ _ _
  conv => arg 2; arg 1; whnf
  conv => arg 2; arg 2; arg 1; whnf
  conv => arg 2; arg 2; arg 2; arg 1; whnf
  conv => arg 2; arg 2; arg 2; arg 2; arg 1; whnf
  go_wp2_with fail
  refine (dead _).mono ?_
  rintro e w4 ⟨rfl, rfl⟩
  by_cases hl : lane = 0
  · subst hl
    go_wp2_with fail
    refine (target b0 b1 d0 d1 n _ P S tp ts _ hn s0 s1).mono ?_
    rintro e w4 ⟨⟨K, rfl, hK⟩, rfl⟩
    have HK : Hid (IsT P S n tp ts K) := hK
    clear hK
    go_wp2_with fail
    exact f5_A1 w _ b0 b1 b2 a9 n m d0 d1 d2 c9 P S T sn id gen tp ts t 0 K hn hm i0 i1 s0 s1 s2 r9 hb (Or.inr ⟨rfl, HK.out⟩) _ _ _ _ _ _ _ _ _ _ _ _ _ _ _ _ _ _ _ _ _ _ _ _ _ _ _ _ _ _ _ _ _ _ _ _ _ _ _ _ _ _ _ _ _ _ _ _ _ _ _ _ _ _ _ _ _ _ _ _ _ _ _ _ _ _ _ _ _ _ _ _ _ _ _ _ _ _ _ _ _ _ _ _ _ _ _ _ _ _ _ _ _ _ _ _ _ _ _ _ _ _ _ _ _ _ _ _ _ _ _ _ _ _ _ _ _ _ _ _ _ _ _ _ _ _ _ _ _ _ _ _ _ _ _ _ _ _ _ _ _ _ _ _ _ _ _ _ _ _ _ _ _ _ _ _ _ _ _ _ _ _ _ _ _ _ _ _ _ _ _ _ _ _ _ _ _ _ _ _ _ _ _ _ _ _ _ _ _ _ _ _ _ _ _ _ _ _ _ _ _ _ _ _ _ _ _ _ _ _ _ _ _ _ _ _ _ _ _ _ _ _ _ _ _ _ _ _ _ _ _ _ _ _ _ _ _ _ _ _ _ _ _ _ _ _ _ _ _ _ _ _ _ _ _ _ _ _ _ _ _ _ _ _ _ _ _ _ _ _ _ _ _ _ _ _ _ _ _ _ _ _ _ _ _ _ _ _ _ _ _ _ _ _ _ _ _ _ _ _ _ _ _ _ _ _ _ _ _ _ _ _ _ _ _
  · have hl' : (lane == 0) = false := beq_eq_false_iff_ne.2 hl
    have Hl : Hid (¬ lane = 0) := hl
    clear hl
    go_wp2_with fail
    exact f5_A1 w _ b0 b1 b2 a9 n m d0 d1 d2 c9 P S T sn id gen tp ts t lane (-1) hn hm i0 i1 s0 s1 s2 r9 hb (Or.inl ⟨Hl.out, rfl⟩) _ _ _ _ _ _ _ _ _ _ _ _ _ _ _ _ _ _ _ _ _ _ _ _ _ _ _ _ _ _ _ _ _ _ _ _ _ _ _ _ _ _ _ _ _ _ _ _ _ _ _ _ _ _ _ _ _ _ _ _ _ _ _ _ _ _ _ _ _ _ _ _ _ _ _ _ _ _ _ _ _ _ _ _ _ _ _ _ _ _ _ _ _ _ _ _ _ _ _ _ _ _ _ _ _ _ _ _ _ _ _ _ _ _ _ _ _ _ _ _ _ _ _ _ _ _ _ _ _ _ _ _ _ _ _ _ _ _ _ _ _ _ _ _ _ _ _ _ _ _ _ _ _ _ _ _ _ _ _ _ _ _ _ _ _ _ _ _ _ _ _ _ _ _ _ _ _ _ _ _ _ _ _ _ _ _ _ _ _ _ _ _ _ _ _ _ _ _ _ _ _ _ _ _ _ _ _ _ _ _ _ _ _ _ _ _ _ _ _ _ _ _ _ _ _ _ _ _ _ _ _ _ _ _ _ _ _ _ _ _ _ _ _ _ _ _ _ _ _ _ _ _ _ _ _ _ _ _ _ _ _ _ _ _ _ _ _ _ _ _ _ _ _ _ _ _ _ _ _ _ _ _ _ _ _ _ _ _ _ _ _ _ _ _ _ _ _ _ _ _ _ _ _ _ _ _ _ _ _ _ _ _ _ _ _
end Go.Proofs.Qxb6614675a.fnTakeInTwiceChangesNothingMore
