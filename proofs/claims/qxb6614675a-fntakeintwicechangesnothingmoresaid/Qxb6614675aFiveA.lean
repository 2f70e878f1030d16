/- The second law's stages: from the second call on. -/
import Derived.Test.Qxb6614675aStage
namespace Go.Proofs.Qxb6614675a.fnTakeInTwiceChangesNothingMore
open Go.RowKit
set_option linter.unusedVariables false

set_option maxHeartbeats 4000000 in
set_option maxRecDepth 100000 in
theorem f5_H (w wc : World) (m sb qb : Nat) (g : Nat → Int) (hm : m ≤ 65536) (hS : ∀ i, i < m → wc.cell? ⟨sb, i, none⟩ = some (.int .u64 (g i))) (hQ : ∀ i, i < m → wc.cell? ⟨qb, i, none⟩ = some (.int .u64 (g i))) (hb : Below w.heap.size w wc)
    (g0 g1 g2 g3 g4 g5 g6 g7 g8 g9 g10 g11 g12 g13 g14 g15 g16 g17 g18 g19 g20 g21 g22 g23 g24 g25 g26 g27 g28 g30 g31 g32 g33 g34 g35 g36 g37 g38 g39 g41 g42 g43 g44 g45 g46 g47 g48 g49 g50 g51 g52 g53 g54 g55 g56 g57 g58 g59 g60 g61 g62 g63 g64 g65 g66 g67 g68 g69 g70 g71 g72 g73 g74 g75 g76 g77 g78 g79 g80 g81 g82 g83 g84 g85 g86 g87 g88 g89 g90 g91 g92 g93 g94 g95 g96 g97 g98 g99 g100 g101 g102 g103 g104 g105 g106 g107 g108 g109 g110 g111 g112 g113 g114 g115 g116 g117 g118 g119 g120 g121 g122 g123 g124 g125 g126 g127 g128 g129 g130 g131 g132 g133 g134 g135 g136 g137 g138 g139 g140 g141 g142 g143 g144 g145 g146 g147 g148 g149 g150 g151 g152 g153 g154 g155 g156 g157 g158 g159 g160 g161 g162 g163 g164 g165 g166 g167 g168 g169 g170 g171 g172 g173 g174 g175 g176 g177 g178 g179 g180 g181 g182 g183 g184 g185 g186 g187 g188 g189 g190 g191 g192 g193 g194 g195 g196 g197 g198 g199 g200 g201 g202 g203 g204 g205 g206 g207 g208 g209 g210 g211 g212 g213 g214 g215 g216 g217 g218 g219 g220 g221 g222 g223 g224 g225 g226 g227 g228 g229 g230 g231 g232 g233 g234 g235 g236 g237 g238 g239 g240 g241 g242 g243 g244 g245 g246 g247 g248 g249 g250 g251 g252 g253 g254 g255 g256 g257 g258 g259 g260 g261 g262 g263 g264 g265 g266 g267 g268 g269 g270 g271 g272 g273 g274 g275 g276 g277 g278 g279 g280 g281 g282 g283 g284 g285 g286 g287 g288 g289 g290 g291 g292 g293 g294 g295 g296 g297 g298 g299 g300 g301 g302 g303 g304 g305 g306 g307 g308 g309 g310 g311 g312 g313 g314 g315 g316 g317 g318 g319 g320 g321 g322 g323 g324 g325 g326 g327 : Value) :
    Code.wp Try.prog (tailAt 30 (Try.f5.body.getD .skip)) (bodyPost Try.prog Try.f5 fun e w' => e = .returned (.bool true) ∧ Below w.heap.size w w') ⟨#[g0, g1, g2, g3, g4, g5, g6, g7, g8, g9, g10, g11, g12, g13, g14, g15, g16, g17, g18, g19, g20, g21, g22, g23, g24, g25, g26, g27, g28, .slice (some ⟨sb, 0, none⟩) m m, g30, g31, g32, g33, g34, g35, g36, g37, g38, g39, .slice (some ⟨qb, 0, none⟩) m m, g41, g42, g43, g44, g45, g46, g47, g48, g49, g50, g51, g52, g53, g54, g55, g56, g57, g58, g59, g60, g61, g62, g63, g64, g65, g66, g67, g68, g69, g70, g71, g72, g73, g74, g75, g76, g77, g78, g79, g80, g81, g82, g83, g84, g85, g86, g87, g88, g89, g90, g91, g92, g93, g94, g95, g96, g97, g98, g99, g100, g101, g102, g103, g104, g105, g106, g107, g108, g109, g110, g111, g112, g113, g114, g115, g116, g117, g118, g119, g120, g121, g122, g123, g124, g125, g126, g127, g128, g129, g130, g131, g132, g133, g134, g135, g136, g137, g138, g139, g140, g141, g142, g143, g144, g145, g146, g147, g148, g149, g150, g151, g152, g153, g154, g155, g156, g157, g158, g159, g160, g161, g162, g163, g164, g165, g166, g167, g168, g169, g170, g171, g172, g173, g174, g175, g176, g177, g178, g179, g180, g181, g182, g183, g184, g185, g186, g187, g188, g189, g190, g191, g192, g193, g194, g195, g196, g197, g198, g199, g200, g201, g202, g203, g204, g205, g206, g207, g208, g209, g210, g211, g212, g213, g214, g215, g216, g217, g218, g219, g220, g221, g222, g223, g224, g225, g226, g227, g228, g229, g230, g231, g232, g233, g234, g235, g236, g237, g238, g239, g240, g241, g242, g243, g244, g245, g246, g247, g248, g249, g250, g251, g252, g253, g254, g255, g256, g257, g258, g259, g260, g261, g262, g263, g264, g265, g266, g267, g268, g269, g270, g271, g272, g273, g274, g275, g276, g277, g278, g279, g280, g281, g282, g283, g284, g285, g286, g287, g288, g289, g290, g291, g292, g293, g294, g295, g296, g297, g298, g299, g300, g301, g302, g303, g304, g305, g306, g307, g308, g309, g310, g311, g312, g313, g314, g315, g316, g317, g318, g319, g320, g321, g322, g323, g324, g325, g326, g327], []⟩ wc := by
  have HS : Hid (∀ i, i < m → wc.cell? ⟨sb, i, none⟩ = some (.int .u64 (g i))) := hS
  have HQ : Hid (∀ i, i < m → wc.cell? ⟨qb, i, none⟩ = some (.int .u64 (g i))) := hQ
  clear hS hQ
  show Code.wp Try.prog (.seq (headOf (tailAt 30 (Try.f5.body.getD .skip))) (tailAt 31 (Try.f5.body.getD .skip))) _ _ _
  conv => arg 2; arg 1; whnf
  conv => arg 2; arg 2; whnf
  go_wp2_with fail
  go_loopw [47] (fun i wr => ∃ k q : Nat, k ≤ m ∧ i = .int .i64 k ∧ wr = wc.drewN q) (fun i _ => m - (intOf i).toNat)
  case atStart => exact ⟨0, 0, Nat.zero_le _, rfl, rfl⟩
  case round =>
    obtain ⟨k, q, hk, rfl, rfl⟩ := hrel
    by_cases hlt : k < m
    · have c1 := HS.out k hlt
      have c2 := HQ.out k hlt
      go_wp2_with fail
      go_quiet (fail)
      go_wp2_with fail
      go_roundw
      case rel => exact ⟨k + 1, _, by omega, by go_num, rfl⟩
      case measure => simp [intOf]; omega
    · obtain rfl : k = m := by omega
      go_wp2_with fail
      go_ret
      exact ⟨rfl, below_drewN hb _⟩

set_option maxHeartbeats 4000000 in
set_option maxRecDepth 100000 in
theorem f5_G (w wc : World) (b0 b1 : Option Addr) (n m d0 d1 lp dp nb lb sb ab qb : Nat) (P S T g : Nat → Int) (id gen : Int) (hn : n ≤ 65536) (hm : m ≤ 65536)
    (L : Lay wc lp dp nb lb sb n m P S T g id gen) (s0 : Rd .i64 wc.heap.size wc b0 n P) (s1 : Rd .i64 wc.heap.size wc b1 n S) (la : ab < wc.heap.size) (hA : ∀ i, i < n → wc.cell? ⟨ab, i, none⟩ = some (.int .i32 (T i))) (lq : qb < wc.heap.size) (hQ : ∀ i, i < m → wc.cell? ⟨qb, i, none⟩ = some (.int .u64 (g i))) (hb : Below w.heap.size w wc)
    (g2 g3 g4 g5 g6 g7 g8 g9 g10 g11 g12 g13 g14 g15 g16 g17 g18 g19 g20 g21 g22 g23 g24 g25 g26 g27 g28 g30 g33 g34 g36 g37 g38 g39 g41 g42 g43 g44 g45 g46 g47 g48 g49 g50 g51 g52 g53 g54 g55 g56 g57 g58 g59 g60 g61 g62 g63 g64 g65 g66 g67 g68 g69 g70 g71 g72 g73 g74 g75 g76 g77 g78 g79 g80 g81 g82 g83 g84 g85 g86 g87 g88 g89 g90 g91 g92 g93 g94 g95 g96 g97 g98 g99 g100 g101 g102 g103 g104 g105 g106 g107 g108 g109 g110 g111 g112 g113 g114 g115 g116 g117 g118 g119 g120 g121 g122 g123 g124 g125 g126 g127 g128 g129 g130 g131 g132 g133 g134 g135 g136 g137 g138 g139 g140 g141 g142 g143 g144 g145 g146 g147 g148 g149 g150 g151 g152 g153 g154 g155 g156 g157 g158 g159 g160 g161 g162 g163 g164 g165 g166 g167 g168 g169 g170 g171 g172 g173 g174 g175 g176 g177 g178 g179 g180 g181 g182 g183 g184 g185 g186 g187 g188 g189 g190 g191 g192 g193 g194 g195 g196 g197 g198 g199 g200 g201 g202 g203 g204 g205 g206 g207 g208 g209 g210 g211 g212 g213 g214 g215 g216 g217 g218 g219 g220 g221 g222 g223 g224 g225 g226 g227 g228 g229 g230 g231 g232 g233 g234 g235 g236 g237 g238 g239 g240 g241 g242 g243 g244 g245 g246 g247 g248 g249 g250 g251 g252 g253 g254 g255 g256 g257 g258 g259 g260 g261 g262 g263 g264 g265 g266 g267 g268 g269 g270 g271 g272 g273 g274 g275 g276 g277 g278 g279 g280 g281 g282 g283 g284 g285 g286 g287 g288 g289 g290 g291 g292 g293 g294 g295 g296 g297 g298 g299 g300 g301 g302 g303 g304 g305 g306 g307 g308 g309 g310 g311 g312 g313 g314 g315 g316 g317 g318 g319 g320 g321 g322 g323 g324 g325 g326 g327 : Value) :
    Code.wp Try.prog (tailAt 29 (Try.f5.body.getD .skip)) (bodyPost Try.prog Try.f5 fun e w' => e = .returned (.bool true) ∧ Below w.heap.size w w') ⟨#[.slice b0 n d0, .slice b1 n d1, g2, g3, g4, g5, g6, g7, g8, g9, g10, g11, g12, g13, g14, g15, g16, g17, g18, g19, g20, g21, g22, g23, g24, g25, g26, g27, g28, .slice (some ⟨sb, 0, none⟩) m m, g30, .int .i64 n, .pointer (some ⟨lp, 0, none⟩), g33, g34, .slice (some ⟨ab, 0, none⟩) n n, g36, g37, g38, g39, .slice (some ⟨qb, 0, none⟩) m m, g41, g42, g43, g44, g45, g46, g47, g48, g49, g50, g51, g52, g53, g54, g55, g56, g57, g58, g59, g60, g61, g62, g63, g64, g65, g66, g67, g68, g69, g70, g71, g72, g73, g74, g75, g76, g77, g78, g79, g80, g81, g82, g83, g84, g85, g86, g87, g88, g89, g90, g91, g92, g93, g94, g95, g96, g97, g98, g99, g100, g101, g102, g103, g104, g105, g106, g107, g108, g109, g110, g111, g112, g113, g114, g115, g116, g117, g118, g119, g120, g121, g122, g123, g124, g125, g126, g127, g128, g129, g130, g131, g132, g133, g134, g135, g136, g137, g138, g139, g140, g141, g142, g143, g144, g145, g146, g147, g148, g149, g150, g151, g152, g153, g154, g155, g156, g157, g158, g159, g160, g161, g162, g163, g164, g165, g166, g167, g168, g169, g170, g171, g172, g173, g174, g175, g176, g177, g178, g179, g180, g181, g182, g183, g184, g185, g186, g187, g188, g189, g190, g191, g192, g193, g194, g195, g196, g197, g198, g199, g200, g201, g202, g203, g204, g205, g206, g207, g208, g209, g210, g211, g212, g213, g214, g215, g216, g217, g218, g219, g220, g221, g222, g223, g224, g225, g226, g227, g228, g229, g230, g231, g232, g233, g234, g235, g236, g237, g238, g239, g240, g241, g242, g243, g244, g245, g246, g247, g248, g249, g250, g251, g252, g253, g254, g255, g256, g257, g258, g259, g260, g261, g262, g263, g264, g265, g266, g267, g268, g269, g270, g271, g272, g273, g274, g275, g276, g277, g278, g279, g280, g281, g282, g283, g284, g285, g286, g287, g288, g289, g290, g291, g292, g293, g294, g295, g296, g297, g298, g299, g300, g301, g302, g303, g304, g305, g306, g307, g308, g309, g310, g311, g312, g313, g314, g315, g316, g317, g318, g319, g320, g321, g322, g323, g324, g325, g326, g327], []⟩ wc := by
  have HA : Hid (∀ i, i < n → wc.cell? ⟨ab, i, none⟩ = some (.int .i32 (T i))) := hA
  have HQ : Hid (∀ i, i < m → wc.cell? ⟨qb, i, none⟩ = some (.int .u64 (g i))) := hQ
  clear hA hQ
  show Code.wp Try.prog (.seq (headOf (tailAt 29 (Try.f5.body.getD .skip))) (tailAt 30 (Try.f5.body.getD .skip))) _ _ _
  conv => arg 2; arg 1; whnf
  go_wp2_with fail
  go_loopw [43] (fun i wr => ∃ k : Nat, k ≤ n ∧ i = .int .i64 k ∧ Below wc.heap.size wc wr) (fun i _ => n - (intOf i).toNat)
  case atStart => exact ⟨0, Nat.zero_le _, rfl, Below.refl _ _⟩
  case round =>
    obtain ⟨k, hk, rfl, hbr⟩ := hrel
    have L' := L.below hbr
    by_cases hlt : k < n
    · obtain ⟨x0, o0, rfl, y0, hc0⟩ := s0 (by omega)
      obtain ⟨x1, o1, rfl, y1, hc1⟩ := s1 (by omega)
      have e0 := hc0 k hlt
      have e1 := hc1 k hlt
      have e2 := HA.out k hlt
      clear hc0 hc1
      go_wp2_with fail
      refine (lane0 lp nb lb n k (P k) (S k) (T k) _ L'.lanes L'.lane hlt hn (L'.pc k hlt) (L'.start k hlt) (L'.state k hlt)).mono ?_
      rintro e w4 ⟨rfl, hb4⟩
      have hb4' := hbr.trans (hb4.mono hbr.size)
      have q0 := (hb4'.cell (p := ⟨x0, o0 + k, none⟩) y0).trans e0
      have q1 := (hb4'.cell (p := ⟨x1, o1 + k, none⟩) y1).trans e1
      have q2 := (hb4'.cell (p := ⟨ab, k, none⟩) la).trans e2
      go_wp2_with fail
      go_roundw
      case rel => exact ⟨k + 1, by omega, by go_num, hb4'⟩
      case measure => simp [intOf]; omega
    · obtain rfl : k = n := by omega
      go_wp2_with fail
      exact f5_H w _ m sb qb g hm L'.marks (fun i hi => (hbr.cell lq).trans (HQ.out i hi)) (hb.trans (hbr.mono hb.size)) _ _ _ _ _ _ _ _ _ _ _ _ _ _ _ _ _ _ _ _ _ _ _ _ _ _ _ _ _ _ _ _ _ _ _ _ _ _ _ _ _ _ _ _ _ _ _ _ _ _ _ _ _ _ _ _ _ _ _ _ _ _ _ _ _ _ _ _ _ _ _ _ _ _ _ _ _ _ _ _ _ _ _ _ _ _ _ _ _ _ _ _ _ _ _ _ _ _ _ _ _ _ _ _ _ _ _ _ _ _ _ _ _ _ _ _ _ _ _ _ _ _ _ _ _ _ _ _ _ _ _ _ _ _ _ _ _ _ _ _ _ _ _ _ _ _ _ _ _ _ _ _ _ _ _ _ _ _ _ _ _ _ _ _ _ _ _ _ _ _ _ _ _ _ _ _ _ _ _ _ _ _ _ _ _ _ _ _ _ _ _ _ _ _ _ _ _ _ _ _ _ _ _ _ _ _ _ _ _ _ _ _ _ _ _ _ _ _ _ _ _ _ _ _ _ _ _ _ _ _ _ _ _ _ _ _ _ _ _ _ _ _ _ _ _ _ _ _ _ _ _ _ _ _ _ _ _ _ _ _ _ _ _ _ _ _ _ _ _ _ _ _ _ _ _ _ _ _ _ _ _ _ _ _ _ _ _ _ _ _ _ _ _ _ _ _ _ _ _ _ _ _ _ _ _ _ _ _ _ _ _ _ _ _ _ _ _ _ _ _ _ _ _ _ _ _

set_option maxHeartbeats 4000000 in
set_option maxRecDepth 100000 in
theorem f5_F (w wc : World) (b0 b1 : Option Addr) (n m d0 d1 lp dp nb lb sb ab qb : Nat) (P S T sn : Nat → Int) (id gen tp ts t lane K M SL : Int) (hn : n ≤ 65536) (hm : m ≤ 65536) (i0 : 0 ≤ id) (i1 : id ≤ 1) (hplan : Plan P S T n m tp ts t lane id K M SL)
    (L : Lay wc lp dp nb lb sb n m P S (updI T K M) (updI sn SL gen) id gen) (s0 : Rd .i64 sb wc b0 n P) (s1 : Rd .i64 sb wc b1 n S) (la : ab < wc.heap.size) (na : ab ≠ lb) (na' : ab ≠ sb) (hA : ∀ i, i < n → wc.cell? ⟨ab, i, none⟩ = some (.int .i32 (updI T K M i)))
    (lq : qb < wc.heap.size) (nq : qb ≠ lb) (nq' : qb ≠ sb) (hQ : ∀ i, i < m → wc.cell? ⟨qb, i, none⟩ = some (.int .u64 (updI sn SL gen i))) (hb : Below w.heap.size w wc) (hsb : w.heap.size ≤ sb)
    (g2 g3 g4 g9 g10 g11 g12 g13 g14 g15 g16 g17 g18 g19 g20 g21 g22 g23 g24 g27 g28 g30 g36 g37 g38 g39 g41 g42 g43 g44 g45 g46 g47 g48 g49 g50 g51 g52 g53 g54 g55 g56 g57 g58 g59 g60 g61 g62 g63 g64 g65 g66 g67 g68 g69 g70 g71 g72 g73 g74 g75 g76 g77 g78 g79 g80 g81 g82 g83 g84 g85 g86 g87 g88 g89 g90 g91 g92 g93 g94 g95 g96 g97 g98 g99 g100 g101 g102 g103 g104 g105 g106 g107 g108 g109 g110 g111 g112 g113 g114 g115 g116 g117 g118 g119 g120 g121 g122 g123 g124 g125 g126 g127 g128 g129 g130 g131 g132 g133 g134 g135 g136 g137 g138 g139 g140 g141 g142 g143 g144 g145 g146 g147 g148 g149 g150 g151 g152 g153 g154 g155 g156 g157 g158 g159 g160 g161 g162 g163 g164 g165 g166 g167 g168 g169 g170 g171 g172 g173 g174 g175 g176 g177 g178 g179 g180 g181 g182 g183 g184 g185 g186 g187 g188 g189 g190 g191 g192 g193 g194 g195 g196 g197 g198 g199 g200 g201 g202 g203 g204 g205 g206 g207 g208 g209 g210 g211 g212 g213 g214 g215 g216 g217 g218 g219 g220 g221 g222 g223 g224 g225 g226 g227 g228 g229 g230 g231 g232 g233 g234 g235 g236 g237 g238 g239 g240 g241 g242 g243 g244 g245 g246 g247 g248 g249 g250 g251 g252 g253 g254 g255 g256 g257 g258 g259 g260 g261 g262 g263 g264 g265 g266 g267 g268 g269 g270 g271 g272 g273 g274 g275 g276 g277 g278 g279 g280 g281 g282 g283 g284 g285 g286 g287 g288 g289 g290 g291 g292 g293 g294 g295 g296 g297 g298 g299 g300 g301 g302 g303 g304 g305 g306 g307 g308 g309 g310 g311 g312 g313 g314 g315 g316 g317 g318 g319 g320 g321 g322 g323 g324 g325 g326 g327 : Value) :
    Code.wp Try.prog (tailAt 25 (Try.f5.body.getD .skip)) (bodyPost Try.prog Try.f5 fun e w' => e = .returned (.bool true) ∧ Below w.heap.size w w') ⟨#[.slice b0 n d0, .slice b1 n d1, g2, g3, g4, .int .i64 tp, .int .i64 ts, .int .i32 t, .int .i64 lane, g9, g10, g11, g12, g13, g14, g15, g16, g17, g18, g19, g20, g21, g22, g23, g24, .int .i64 K, .int .i32 M, g27, g28, .slice (some ⟨sb, 0, none⟩) m m, g30, .int .i64 n, .pointer (some ⟨lp, 0, none⟩), .pointer (some ⟨dp, 0, none⟩), .bool (decide (0 ≤ K)), .slice (some ⟨ab, 0, none⟩) n n, g36, g37, g38, g39, .slice (some ⟨qb, 0, none⟩) m m, g41, g42, g43, g44, g45, g46, g47, g48, g49, g50, g51, g52, g53, g54, g55, g56, g57, g58, g59, g60, g61, g62, g63, g64, g65, g66, g67, g68, g69, g70, g71, g72, g73, g74, g75, g76, g77, g78, g79, g80, g81, g82, g83, g84, g85, g86, g87, g88, g89, g90, g91, g92, g93, g94, g95, g96, g97, g98, g99, g100, g101, g102, g103, g104, g105, g106, g107, g108, g109, g110, g111, g112, g113, g114, g115, g116, g117, g118, g119, g120, g121, g122, g123, g124, g125, g126, g127, g128, g129, g130, g131, g132, g133, g134, g135, g136, g137, g138, g139, g140, g141, g142, g143, g144, g145, g146, g147, g148, g149, g150, g151, g152, g153, g154, g155, g156, g157, g158, g159, g160, g161, g162, g163, g164, g165, g166, g167, g168, g169, g170, g171, g172, g173, g174, g175, g176, g177, g178, g179, g180, g181, g182, g183, g184, g185, g186, g187, g188, g189, g190, g191, g192, g193, g194, g195, g196, g197, g198, g199, g200, g201, g202, g203, g204, g205, g206, g207, g208, g209, g210, g211, g212, g213, g214, g215, g216, g217, g218, g219, g220, g221, g222, g223, g224, g225, g226, g227, g228, g229, g230, g231, g232, g233, g234, g235, g236, g237, g238, g239, g240, g241, g242, g243, g244, g245, g246, g247, g248, g249, g250, g251, g252, g253, g254, g255, g256, g257, g258, g259, g260, g261, g262, g263, g264, g265, g266, g267, g268, g269, g270, g271, g272, g273, g274, g275, g276, g277, g278, g279, g280, g281, g282, g283, g284, g285, g286, g287, g288, g289, g290, g291, g292, g293, g294, g295, g296, g297, g298, g299, g300, g301, g302, g303, g304, g305, g306, g307, g308, g309, g310, g311, g312, g313, g314, g315, g316, g317, g318, g319, g320, g321, g322, g323, g324, g325, g326, g327], []⟩ wc := by
  have HA : Hid (∀ i, i < n → wc.cell? ⟨ab, i, none⟩ = some (.int .i32 (updI T K M i))) := hA
  have HQ : Hid (∀ i, i < m → wc.cell? ⟨qb, i, none⟩ = some (.int .u64 (updI sn SL gen i))) := hQ
  clear hA hQ
  have Hna : Hid (ab ≠ lb ∧ ab ≠ sb ∧ qb ≠ lb ∧ qb ≠ sb) := ⟨na, na', nq, nq'⟩
  clear na na' nq nq'
  have hk : K = -1 ∨ ∃ i : Nat, K = i ∧ i < n := by
    rcases hplan with h | h | ⟨_, i, h, hH, _⟩
    · exact Or.inl h.2.1
    · exact Or.inl h.2.2.1
    · exact Or.inr ⟨i, h, hH.1⟩
  show Code.wp Try.prog (.seq (headOf (tailAt 25 (Try.f5.body.getD .skip))) (.seq (headOf (tailAt 26 (Try.f5.body.getD .skip))) (.seq (headOf (tailAt 27 (Try.f5.body.getD .skip))) (.seq (headOf (tailAt 28 (Try.f5.body.getD .skip))) (tailAt 29 (Try.f5.body.getD .skip)))))) _ _ _
  conv => arg 2; arg 1; whnf
  conv => arg 2; arg 2; arg 1; whnf
  conv => arg 2; arg 2; arg 2; arg 1; whnf
  conv => arg 2; arg 2; arg 2; arg 2; arg 1; whnf
  go_wp2_with fail
  refine (ztakeIn lp dp nb lb sb n m P S (updI T K M) (updI sn SL gen) id gen tp ts t lane K M SL _ hn hm i0 i1 L hplan.again).mono ?_
  rintro e w3 ⟨rfl, L3, hbl3, hap⟩
  rw [updI_idem, updI_idem] at L3
  have hsz3 : sb ≤ w3.heap.size := Nat.le_of_lt L3.lsb
  have hb3 := hb.trans (hbl3.mono hsb)
  have HA3 : Hid (∀ i, i < n → w3.cell? ⟨ab, i, none⟩ = some (.int .i32 (updI T K M i))) := fun i hi => (hap.cell la Hna.out.1 Hna.out.2.1).trans (HA.out i hi)
  have HQ3 : Hid (∀ i, i < m → w3.cell? ⟨qb, i, none⟩ = some (.int .u64 (updI sn SL gen i))) := fun i hi => (hap.cell lq Hna.out.2.2.1 Hna.out.2.2.2).trans (HQ.out i hi)
  have hs3 : wc.heap.size ≤ w3.heap.size := hbl3.size
  have p1 := L3.lanes
  have p2 := L3.lane
  rcases hk with hk | ⟨i, hk, hin⟩
  · have hk' : ¬ 0 ≤ K := by omega
    clear hk
    go_wp2_with fail
    refine (lane0Len _ _ _ n _ p1 p2).mono ?_
    rintro e w4 ⟨rfl, rfl⟩
    clear p1 p2
    go_wp2_with fail
    exact f5_G w _ b0 b1 n m d0 d1 lp dp nb lb sb ab qb P S (updI T K M) (updI sn SL gen) id gen hn hm L3 ((s0.below hbl3).mono hsz3) ((s1.below hbl3).mono hsz3) (by omega) HA3.out (by omega) HQ3.out hb3 _ _ _ _ _ _ _ _ _ _ _ _ _ _ _ _ _ _ _ _ _ _ _ _ _ _ _ _ _ _ _ _ _ _ _ _ _ _ _ _ _ _ _ _ _ _ _ _ _ _ _ _ _ _ _ _ _ _ _ _ _ _ _ _ _ _ _ _ _ _ _ _ _ _ _ _ _ _ _ _ _ _ _ _ _ _ _ _ _ _ _ _ _ _ _ _ _ _ _ _ _ _ _ _ _ _ _ _ _ _ _ _ _ _ _ _ _ _ _ _ _ _ _ _ _ _ _ _ _ _ _ _ _ _ _ _ _ _ _ _ _ _ _ _ _ _ _ _ _ _ _ _ _ _ _ _ _ _ _ _ _ _ _ _ _ _ _ _ _ _ _ _ _ _ _ _ _ _ _ _ _ _ _ _ _ _ _ _ _ _ _ _ _ _ _ _ _ _ _ _ _ _ _ _ _ _ _ _ _ _ _ _ _ _ _ _ _ _ _ _ _ _ _ _ _ _ _ _ _ _ _ _ _ _ _ _ _ _ _ _ _ _ _ _ _ _ _ _ _ _ _ _ _ _ _ _ _ _ _ _ _ _ _ _ _ _ _ _ _ _ _ _ _ _ _ _ _ _ _ _ _ _ _ _ _ _ _ _ _ _ _ _ _ _ _ _ _ _ _ _ _ _ _ _ _ _ _ _ _ _ _ _ _ _ _ _ _ _ _ _ _
  · have hc := HA3.out i hin
    have e : updI T K M i = M := by simp only [updI]; rw [if_pos hk.symm]
    rw [e] at hc
    clear e
    subst hk
    go_wp2_with fail
    refine (lane0Len _ _ _ n _ p1 p2).mono ?_
    rintro e w4 ⟨rfl, rfl⟩
    clear p1 p2
    go_wp2_with fail
    exact f5_G w _ b0 b1 n m d0 d1 lp dp nb lb sb ab qb P S (updI T i M) (updI sn SL gen) id gen hn hm L3 ((s0.below hbl3).mono hsz3) ((s1.below hbl3).mono hsz3) (by omega) HA3.out (by omega) HQ3.out hb3 _ _ _ _ _ _ _ _ _ _ _ _ _ _ _ _ _ _ _ _ _ _ _ _ _ _ _ _ _ _ _ _ _ _ _ _ _ _ _ _ _ _ _ _ _ _ _ _ _ _ _ _ _ _ _ _ _ _ _ _ _ _ _ _ _ _ _ _ _ _ _ _ _ _ _ _ _ _ _ _ _ _ _ _ _ _ _ _ _ _ _ _ _ _ _ _ _ _ _ _ _ _ _ _ _ _ _ _ _ _ _ _ _ _ _ _ _ _ _ _ _ _ _ _ _ _ _ _ _ _ _ _ _ _ _ _ _ _ _ _ _ _ _ _ _ _ _ _ _ _ _ _ _ _ _ _ _ _ _ _ _ _ _ _ _ _ _ _ _ _ _ _ _ _ _ _ _ _ _ _ _ _ _ _ _ _ _ _ _ _ _ _ _ _ _ _ _ _ _ _ _ _ _ _ _ _ _ _ _ _ _ _ _ _ _ _ _ _ _ _ _ _ _ _ _ _ _ _ _ _ _ _ _ _ _ _ _ _ _ _ _ _ _ _ _ _ _ _ _ _ _ _ _ _ _ _ _ _ _ _ _ _ _ _ _ _ _ _ _ _ _ _ _ _ _ _ _ _ _ _ _ _ _ _ _ _ _ _ _ _ _ _ _ _ _ _ _ _ _ _ _ _ _ _ _ _ _ _ _ _ _ _ _ _ _ _ _ _ _ _ _
end Go.Proofs.Qxb6614675a.fnTakeInTwiceChangesNothingMore
