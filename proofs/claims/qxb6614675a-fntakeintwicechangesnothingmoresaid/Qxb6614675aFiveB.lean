/- The second law's stages: from the first call to the second. -/
import Derived.Test.Qxb6614675aFiveA
namespace Go.Proofs.Qxb6614675a.fnTakeInTwiceChangesNothingMore
open Go.RowKit
set_option linter.unusedVariables false

set_option maxHeartbeats 4000000 in
set_option maxRecDepth 100000 in
theorem f5_E (w wc : World) (b0 b1 : Option Addr) (n m d0 d1 lp dp nb lb sb ab : Nat) (P S T sn : Nat → Int) (id gen tp ts t lane K M SL : Int) (hn : n ≤ 65536) (hm : m ≤ 65536) (i0 : 0 ≤ id) (i1 : id ≤ 1) (hplan : Plan P S T n m tp ts t lane id K M SL)
    (L : Lay wc lp dp nb lb sb n m P S (updI T K M) (updI sn SL gen) id gen) (s0 : Rd .i64 sb wc b0 n P) (s1 : Rd .i64 sb wc b1 n S) (la : ab < wc.heap.size) (na : ab ≠ lb) (na' : ab ≠ sb) (hA : ∀ i, i < n → wc.cell? ⟨ab, i, none⟩ = some (.int .i32 (updI T K M i))) (hb : Below w.heap.size w wc) (hsb : w.heap.size ≤ sb)
    (g2 g3 g4 g9 g10 g11 g12 g13 g14 g15 g16 g17 g18 g19 g20 g21 g22 g23 g24 g27 g28 g30 g36 g37 g38 g39 g40 g41 g42 g43 g44 g45 g46 g47 g48 g49 g50 g51 g52 g53 g54 g55 g56 g57 g58 g59 g60 g61 g62 g63 g64 g65 g66 g67 g68 g69 g70 g71 g72 g73 g74 g75 g76 g77 g78 g79 g80 g81 g82 g83 g84 g85 g86 g87 g88 g89 g90 g91 g92 g93 g94 g95 g96 g97 g98 g99 g100 g101 g102 g103 g104 g105 g106 g107 g108 g109 g110 g111 g112 g113 g114 g115 g116 g117 g118 g119 g120 g121 g122 g123 g124 g125 g126 g127 g128 g129 g130 g131 g132 g133 g134 g135 g136 g137 g138 g139 g140 g141 g142 g143 g144 g145 g146 g147 g148 g149 g150 g151 g152 g153 g154 g155 g156 g157 g158 g159 g160 g161 g162 g163 g164 g165 g166 g167 g168 g169 g170 g171 g172 g173 g174 g175 g176 g177 g178 g179 g180 g181 g182 g183 g184 g185 g186 g187 g188 g189 g190 g191 g192 g193 g194 g195 g196 g197 g198 g199 g200 g201 g202 g203 g204 g205 g206 g207 g208 g209 g210 g211 g212 g213 g214 g215 g216 g217 g218 g219 g220 g221 g222 g223 g224 g225 g226 g227 g228 g229 g230 g231 g232 g233 g234 g235 g236 g237 g238 g239 g240 g241 g242 g243 g244 g245 g246 g247 g248 g249 g250 g251 g252 g253 g254 g255 g256 g257 g258 g259 g260 g261 g262 g263 g264 g265 g266 g267 g268 g269 g270 g271 g272 g273 g274 g275 g276 g277 g278 g279 g280 g281 g282 g283 g284 g285 g286 g287 g288 g289 g290 g291 g292 g293 g294 g295 g296 g297 g298 g299 g300 g301 g302 g303 g304 g305 g306 g307 g308 g309 g310 g311 g312 g313 g314 g315 g316 g317 g318 g319 g320 g321 g322 g323 g324 g325 g326 g327 : Value) :
    Code.wp Try.prog (tailAt 23 (Try.f5.body.getD .skip)) (bodyPost Try.prog Try.f5 fun e w' => e = .returned (.bool true) ∧ Below w.heap.size w w') ⟨#[.slice b0 n d0, .slice b1 n d1, g2, g3, g4, .int .i64 tp, .int .i64 ts, .int .i32 t, .int .i64 lane, g9, g10, g11, g12, g13, g14, g15, g16, g17, g18, g19, g20, g21, g22, g23, g24, .int .i64 K, .int .i32 M, g27, g28, .slice (some ⟨sb, 0, none⟩) m m, g30, .int .i64 n, .pointer (some ⟨lp, 0, none⟩), .pointer (some ⟨dp, 0, none⟩), .bool (decide (0 ≤ K)), .slice (some ⟨ab, 0, none⟩) n n, g36, g37, g38, g39, g40, g41, g42, g43, g44, g45, g46, g47, g48, g49, g50, g51, g52, g53, g54, g55, g56, g57, g58, g59, g60, g61, g62, g63, g64, g65, g66, g67, g68, g69, g70, g71, g72, g73, g74, g75, g76, g77, g78, g79, g80, g81, g82, g83, g84, g85, g86, g87, g88, g89, g90, g91, g92, g93, g94, g95, g96, g97, g98, g99, g100, g101, g102, g103, g104, g105, g106, g107, g108, g109, g110, g111, g112, g113, g114, g115, g116, g117, g118, g119, g120, g121, g122, g123, g124, g125, g126, g127, g128, g129, g130, g131, g132, g133, g134, g135, g136, g137, g138, g139, g140, g141, g142, g143, g144, g145, g146, g147, g148, g149, g150, g151, g152, g153, g154, g155, g156, g157, g158, g159, g160, g161, g162, g163, g164, g165, g166, g167, g168, g169, g170, g171, g172, g173, g174, g175, g176, g177, g178, g179, g180, g181, g182, g183, g184, g185, g186, g187, g188, g189, g190, g191, g192, g193, g194, g195, g196, g197, g198, g199, g200, g201, g202, g203, g204, g205, g206, g207, g208, g209, g210, g211, g212, g213, g214, g215, g216, g217, g218, g219, g220, g221, g222, g223, g224, g225, g226, g227, g228, g229, g230, g231, g232, g233, g234, g235, g236, g237, g238, g239, g240, g241, g242, g243, g244, g245, g246, g247, g248, g249, g250, g251, g252, g253, g254, g255, g256, g257, g258, g259, g260, g261, g262, g263, g264, g265, g266, g267, g268, g269, g270, g271, g272, g273, g274, g275, g276, g277, g278, g279, g280, g281, g282, g283, g284, g285, g286, g287, g288, g289, g290, g291, g292, g293, g294, g295, g296, g297, g298, g299, g300, g301, g302, g303, g304, g305, g306, g307, g308, g309, g310, g311, g312, g313, g314, g315, g316, g317, g318, g319, g320, g321, g322, g323, g324, g325, g326, g327], []⟩ wc := by
  have HA : Hid (∀ i, i < n → wc.cell? ⟨ab, i, none⟩ = some (.int .i32 (updI T K M i))) := hA
  clear hA
  show Code.wp Try.prog (.seq (headOf (tailAt 23 (Try.f5.body.getD .skip))) (.seq (headOf (tailAt 24 (Try.f5.body.getD .skip))) (tailAt 25 (Try.f5.body.getD .skip)))) _ _ _
  conv => arg 2; arg 1; whnf
  conv => arg 2; arg 2; arg 1; whnf
  have hmk9 := run_make_row' (P := Try.prog) 29 28 (.int .u64 0) 8 Try.underlying29 (by kernel_rfl) rfl .i64 .i64 m (by omega) (by omega)
  go_wp2_with fail
  go_loopw [41] (fun i wr => ∃ k : Nat, k ≤ m ∧ i = .int .i64 k ∧ RowTo .u64 wc.heap.size wr m k (updI sn SL gen) ∧ Below wc.heap.size wc wr) (fun i _ => m - (intOf i).toNat)
  case atStart => exact ⟨0, Nat.zero_le _, rfl, RowTo.zero _ _ _ _ _ _, (Below.refl _ _).alloc (Nat.le_refl _) _⟩
  case round =>
    obtain ⟨k, hk, rfl, hR, hbr⟩ := hrel
    by_cases hlt : k < m
    · have c9' := (hbr.cell (p := ⟨sb, k, none⟩) L.lsb).trans (L.marks k hlt)
      obtain ⟨v0, hv0⟩ := hR.there k hlt
      have hfr := hR.free k
      go_wp2_with fail
      go_roundw
      case rel => exact ⟨k + 1, by omega, by go_num, hR.step hlt, hbr.setCell (Nat.le_refl _) _⟩
      case measure => simp [intOf]; omega
    · obtain rfl : k = m := by omega
      go_wp2_with fail
      have hbs : Below sb wc _ := hbr.mono (Nat.le_of_lt L.lsb)
      exact f5_F w _ b0 b1 n k d0 d1 lp dp nb lb sb ab wc.heap.size P S T sn id gen tp ts t lane K M SL hn hm i0 i1 hplan (L.below hbr) (s0.below hbs) (s1.below hbs) (Nat.lt_of_lt_of_le la hbr.size) na na' (fun i hi => (hbr.cell la).trans (HA.out i hi))
        hR.lt (Nat.ne_of_gt L.llb) (Nat.ne_of_gt L.lsb) hR.cell (hb.trans (hbr.mono hb.size)) hsb _ _ _ _ _ _ _ _ _ _ _ _ _ _ _ _ _ _ _ _ _ _ _ _ _ _ _ _ _ _ _ _ _ _ _ _ _ _ _ _ _ _ _ _ _ _ _ _ _ _ _ _ _ _ _ _ _ _ _ _ _ _ _ _ _ _ _ _ _ _ _ _ _ _ _ _ _ _ _ _ _ _ _ _ _ _ _ _ _ _ _ _ _ _ _ _ _ _ _ _ _ _ _ _ _ _ _ _ _ _ _ _ _ _ _ _ _ _ _ _ _ _ _ _ _ _ _ _ _ _ _ _ _ _ _ _ _ _ _ _ _ _ _ _ _ _ _ _ _ _ _ _ _ _ _ _ _ _ _ _ _ _ _ _ _ _ _ _ _ _ _ _ _ _ _ _ _ _ _ _ _ _ _ _ _ _ _ _ _ _ _ _ _ _ _ _ _ _ _ _ _ _ _ _ _ _ _ _ _ _ _ _ _ _ _ _ _ _ _ _ _ _ _ _ _ _ _ _ _ _ _ _ _ _ _ _ _ _ _ _ _ _ _ _ _ _ _ _ _ _ _ _ _ _ _ _ _ _ _ _ _ _ _ _ _ _ _ _ _ _ _ _ _ _ _ _ _ _ _ _ _ _ _ _ _ _ _ _ _ _ _ _ _ _ _ _ _ _ _ _ _ _ _ _ _ _ _ _ _ _ _ _ _

set_option maxHeartbeats 4000000 in
set_option maxRecDepth 100000 in
theorem f5_D (w wc : World) (b0 b1 : Option Addr) (n m d0 d1 lp dp nb lb sb : Nat) (P S T sn : Nat → Int) (id gen tp ts t lane K M SL : Int) (hn : n ≤ 65536) (hm : m ≤ 65536) (i0 : 0 ≤ id) (i1 : id ≤ 1) (hplan : Plan P S T n m tp ts t lane id K M SL)
    (L : Lay wc lp dp nb lb sb n m P S (updI T K M) (updI sn SL gen) id gen) (s0 : Rd .i64 sb wc b0 n P) (s1 : Rd .i64 sb wc b1 n S) (hb : Below w.heap.size w wc) (hsb : w.heap.size ≤ sb)
    (g2 g3 g4 g9 g10 g11 g12 g13 g14 g15 g16 g17 g18 g19 g20 g21 g22 g23 g24 g27 g28 g30 g35 g36 g37 g38 g39 g40 g41 g42 g43 g44 g45 g46 g47 g48 g49 g50 g51 g52 g53 g54 g55 g56 g57 g58 g59 g60 g61 g62 g63 g64 g65 g66 g67 g68 g69 g70 g71 g72 g73 g74 g75 g76 g77 g78 g79 g80 g81 g82 g83 g84 g85 g86 g87 g88 g89 g90 g91 g92 g93 g94 g95 g96 g97 g98 g99 g100 g101 g102 g103 g104 g105 g106 g107 g108 g109 g110 g111 g112 g113 g114 g115 g116 g117 g118 g119 g120 g121 g122 g123 g124 g125 g126 g127 g128 g129 g130 g131 g132 g133 g134 g135 g136 g137 g138 g139 g140 g141 g142 g143 g144 g145 g146 g147 g148 g149 g150 g151 g152 g153 g154 g155 g156 g157 g158 g159 g160 g161 g162 g163 g164 g165 g166 g167 g168 g169 g170 g171 g172 g173 g174 g175 g176 g177 g178 g179 g180 g181 g182 g183 g184 g185 g186 g187 g188 g189 g190 g191 g192 g193 g194 g195 g196 g197 g198 g199 g200 g201 g202 g203 g204 g205 g206 g207 g208 g209 g210 g211 g212 g213 g214 g215 g216 g217 g218 g219 g220 g221 g222 g223 g224 g225 g226 g227 g228 g229 g230 g231 g232 g233 g234 g235 g236 g237 g238 g239 g240 g241 g242 g243 g244 g245 g246 g247 g248 g249 g250 g251 g252 g253 g254 g255 g256 g257 g258 g259 g260 g261 g262 g263 g264 g265 g266 g267 g268 g269 g270 g271 g272 g273 g274 g275 g276 g277 g278 g279 g280 g281 g282 g283 g284 g285 g286 g287 g288 g289 g290 g291 g292 g293 g294 g295 g296 g297 g298 g299 g300 g301 g302 g303 g304 g305 g306 g307 g308 g309 g310 g311 g312 g313 g314 g315 g316 g317 g318 g319 g320 g321 g322 g323 g324 g325 g326 g327 : Value) :
    Code.wp Try.prog (tailAt 21 (Try.f5.body.getD .skip)) (bodyPost Try.prog Try.f5 fun e w' => e = .returned (.bool true) ∧ Below w.heap.size w w') ⟨#[.slice b0 n d0, .slice b1 n d1, g2, g3, g4, .int .i64 tp, .int .i64 ts, .int .i32 t, .int .i64 lane, g9, g10, g11, g12, g13, g14, g15, g16, g17, g18, g19, g20, g21, g22, g23, g24, .int .i64 K, .int .i32 M, g27, g28, .slice (some ⟨sb, 0, none⟩) m m, g30, .int .i64 n, .pointer (some ⟨lp, 0, none⟩), .pointer (some ⟨dp, 0, none⟩), .bool (decide (0 ≤ K)), g35, g36, g37, g38, g39, g40, g41, g42, g43, g44, g45, g46, g47, g48, g49, g50, g51, g52, g53, g54, g55, g56, g57, g58, g59, g60, g61, g62, g63, g64, g65, g66, g67, g68, g69, g70, g71, g72, g73, g74, g75, g76, g77, g78, g79, g80, g81, g82, g83, g84, g85, g86, g87, g88, g89, g90, g91, g92, g93, g94, g95, g96, g97, g98, g99, g100, g101, g102, g103, g104, g105, g106, g107, g108, g109, g110, g111, g112, g113, g114, g115, g116, g117, g118, g119, g120, g121, g122, g123, g124, g125, g126, g127, g128, g129, g130, g131, g132, g133, g134, g135, g136, g137, g138, g139, g140, g141, g142, g143, g144, g145, g146, g147, g148, g149, g150, g151, g152, g153, g154, g155, g156, g157, g158, g159, g160, g161, g162, g163, g164, g165, g166, g167, g168, g169, g170, g171, g172, g173, g174, g175, g176, g177, g178, g179, g180, g181, g182, g183, g184, g185, g186, g187, g188, g189, g190, g191, g192, g193, g194, g195, g196, g197, g198, g199, g200, g201, g202, g203, g204, g205, g206, g207, g208, g209, g210, g211, g212, g213, g214, g215, g216, g217, g218, g219, g220, g221, g222, g223, g224, g225, g226, g227, g228, g229, g230, g231, g232, g233, g234, g235, g236, g237, g238, g239, g240, g241, g242, g243, g244, g245, g246, g247, g248, g249, g250, g251, g252, g253, g254, g255, g256, g257, g258, g259, g260, g261, g262, g263, g264, g265, g266, g267, g268, g269, g270, g271, g272, g273, g274, g275, g276, g277, g278, g279, g280, g281, g282, g283, g284, g285, g286, g287, g288, g289, g290, g291, g292, g293, g294, g295, g296, g297, g298, g299, g300, g301, g302, g303, g304, g305, g306, g307, g308, g309, g310, g311, g312, g313, g314, g315, g316, g317, g318, g319, g320, g321, g322, g323, g324, g325, g326, g327], []⟩ wc := by
  show Code.wp Try.prog (.seq (headOf (tailAt 21 (Try.f5.body.getD .skip))) (.seq (headOf (tailAt 22 (Try.f5.body.getD .skip))) (tailAt 23 (Try.f5.body.getD .skip)))) _ _ _
  conv => arg 2; arg 1; whnf
  conv => arg 2; arg 2; arg 1; whnf
  have hmk9 := run_make_row' (P := Try.prog) 22 21 (.int .i32 0) 4 Try.underlying22 (by kernel_rfl) rfl .i64 .i64 n (by omega) (by omega)
  go_wp2_with fail
  go_loopw [36] (fun i wr => ∃ k : Nat, k ≤ n ∧ i = .int .i64 k ∧ RowTo .i32 wc.heap.size wr n k (updI T K M) ∧ Below wc.heap.size wc wr) (fun i _ => n - (intOf i).toNat)
  case atStart => exact ⟨0, Nat.zero_le _, rfl, RowTo.zero _ _ _ _ _ _, (Below.refl _ _).alloc (Nat.le_refl _) _⟩
  case round =>
    obtain ⟨k, hk, rfl, hR, hbr⟩ := hrel
    have L' := L.below hbr
    by_cases hlt : k < n
    · go_wp2_with fail
      refine (lane0 lp nb lb n k (P k) (S k) (updI T K M k) _ L'.lanes L'.lane hlt hn (L'.pc k hlt) (L'.start k hlt) (L'.state k hlt)).mono ?_
      rintro e w4 ⟨rfl, hb4⟩
      have hb4' := hbr.trans (hb4.mono hbr.size)
      have hR4 := hR.below hb4 hR.lt
      obtain ⟨v0, hv0⟩ := hR4.there k hlt
      have hfr := hR4.free k
      go_wp2_with fail
      go_roundw
      case rel => exact ⟨k + 1, by omega, by go_num, hR4.step hlt, hb4'.setCell (Nat.le_refl _) _⟩
      case measure => simp [intOf]; omega
    · obtain rfl : k = n := by omega
      go_wp2_with fail
      have hbs : Below sb wc _ := hbr.mono (Nat.le_of_lt L.lsb)
      exact f5_E w _ b0 b1 k m d0 d1 lp dp nb lb sb wc.heap.size P S T sn id gen tp ts t lane K M SL hn hm i0 i1 hplan L' (s0.below hbs) (s1.below hbs) hR.lt (Nat.ne_of_gt L.llb) (Nat.ne_of_gt L.lsb) hR.cell (hb.trans (hbr.mono hb.size)) hsb _ _ _ _ _ _ _ _ _ _ _ _ _ _ _ _ _ _ _ _ _ _ _ _ _ _ _ _ _ _ _ _ _ _ _ _ _ _ _ _ _ _ _ _ _ _ _ _ _ _ _ _ _ _ _ _ _ _ _ _ _ _ _ _ _ _ _ _ _ _ _ _ _ _ _ _ _ _ _ _ _ _ _ _ _ _ _ _ _ _ _ _ _ _ _ _ _ _ _ _ _ _ _ _ _ _ _ _ _ _ _ _ _ _ _ _ _ _ _ _ _ _ _ _ _ _ _ _ _ _ _ _ _ _ _ _ _ _ _ _ _ _ _ _ _ _ _ _ _ _ _ _ _ _ _ _ _ _ _ _ _ _ _ _ _ _ _ _ _ _ _ _ _ _ _ _ _ _ _ _ _ _ _ _ _ _ _ _ _ _ _ _ _ _ _ _ _ _ _ _ _ _ _ _ _ _ _ _ _ _ _ _ _ _ _ _ _ _ _ _ _ _ _ _ _ _ _ _ _ _ _ _ _ _ _ _ _ _ _ _ _ _ _ _ _ _ _ _ _ _ _ _ _ _ _ _ _ _ _ _ _ _ _ _ _ _ _ _ _ _ _ _ _ _ _ _ _ _ _ _ _ _ _ _ _ _ _ _ _ _ _ _ _ _ _ _ _ _ _ _ _ _ _ _ _ _ _ _ _ _ _ _ _ _

set_option maxHeartbeats 4000000 in
set_option maxRecDepth 100000 in
theorem f5_C (w wc : World) (b0 b1 b2 : Option Addr) (n m d0 d1 d2 sb : Nat) (P S T sn : Nat → Int) (id gen tp ts t lane K M SL : Int) (hn : n ≤ 65536) (hm : m ≤ 65536) (i0 : 0 ≤ id) (i1 : id ≤ 1)
    (hplan : Plan P S T n m tp ts t lane id K M SL) (hR : RowTo .u64 sb wc m m sn) (s0 : Rd .i64 sb wc b0 n P) (s1 : Rd .i64 sb wc b1 n S) (s2 : Rd .i32 sb wc b2 n T) (hb : Below w.heap.size w wc) (hsb : w.heap.size ≤ sb)
    (g9 g10 g11 g12 g13 g14 g15 g16 g17 g18 g19 g20 g21 g22 g23 g24 g27 g28 g30 g31 g32 g33 g34 g35 g36 g37 g38 g39 g40 g41 g42 g43 g44 g45 g46 g47 g48 g49 g50 g51 g52 g53 g54 g55 g56 g57 g58 g59 g60 g61 g62 g63 g64 g65 g66 g67 g68 g69 g70 g71 g72 g73 g74 g75 g76 g77 g78 g79 g80 g81 g82 g83 g84 g85 g86 g87 g88 g89 g90 g91 g92 g93 g94 g95 g96 g97 g98 g99 g100 g101 g102 g103 g104 g105 g106 g107 g108 g109 g110 g111 g112 g113 g114 g115 g116 g117 g118 g119 g120 g121 g122 g123 g124 g125 g126 g127 g128 g129 g130 g131 g132 g133 g134 g135 g136 g137 g138 g139 g140 g141 g142 g143 g144 g145 g146 g147 g148 g149 g150 g151 g152 g153 g154 g155 g156 g157 g158 g159 g160 g161 g162 g163 g164 g165 g166 g167 g168 g169 g170 g171 g172 g173 g174 g175 g176 g177 g178 g179 g180 g181 g182 g183 g184 g185 g186 g187 g188 g189 g190 g191 g192 g193 g194 g195 g196 g197 g198 g199 g200 g201 g202 g203 g204 g205 g206 g207 g208 g209 g210 g211 g212 g213 g214 g215 g216 g217 g218 g219 g220 g221 g222 g223 g224 g225 g226 g227 g228 g229 g230 g231 g232 g233 g234 g235 g236 g237 g238 g239 g240 g241 g242 g243 g244 g245 g246 g247 g248 g249 g250 g251 g252 g253 g254 g255 g256 g257 g258 g259 g260 g261 g262 g263 g264 g265 g266 g267 g268 g269 g270 g271 g272 g273 g274 g275 g276 g277 g278 g279 g280 g281 g282 g283 g284 g285 g286 g287 g288 g289 g290 g291 g292 g293 g294 g295 g296 g297 g298 g299 g300 g301 g302 g303 g304 g305 g306 g307 g308 g309 g310 g311 g312 g313 g314 g315 g316 g317 g318 g319 g320 g321 g322 g323 g324 g325 g326 g327 : Value) :
    Code.wp Try.prog (tailAt 16 (Try.f5.body.getD .skip)) (bodyPost Try.prog Try.f5 fun e w' => e = .returned (.bool true) ∧ Below w.heap.size w w') ⟨#[.slice b0 n d0, .slice b1 n d1, .slice b2 n d2, .int .i64 id, .int .u64 gen, .int .i64 tp, .int .i64 ts, .int .i32 t, .int .i64 lane, g9, g10, g11, g12, g13, g14, g15, g16, g17, g18, g19, g20, g21, g22, g23, g24, .int .i64 K, .int .i32 M, g27, g28, .slice (some ⟨sb, 0, none⟩) m m, g30, g31, g32, g33, g34, g35, g36, g37, g38, g39, g40, g41, g42, g43, g44, g45, g46, g47, g48, g49, g50, g51, g52, g53, g54, g55, g56, g57, g58, g59, g60, g61, g62, g63, g64, g65, g66, g67, g68, g69, g70, g71, g72, g73, g74, g75, g76, g77, g78, g79, g80, g81, g82, g83, g84, g85, g86, g87, g88, g89, g90, g91, g92, g93, g94, g95, g96, g97, g98, g99, g100, g101, g102, g103, g104, g105, g106, g107, g108, g109, g110, g111, g112, g113, g114, g115, g116, g117, g118, g119, g120, g121, g122, g123, g124, g125, g126, g127, g128, g129, g130, g131, g132, g133, g134, g135, g136, g137, g138, g139, g140, g141, g142, g143, g144, g145, g146, g147, g148, g149, g150, g151, g152, g153, g154, g155, g156, g157, g158, g159, g160, g161, g162, g163, g164, g165, g166, g167, g168, g169, g170, g171, g172, g173, g174, g175, g176, g177, g178, g179, g180, g181, g182, g183, g184, g185, g186, g187, g188, g189, g190, g191, g192, g193, g194, g195, g196, g197, g198, g199, g200, g201, g202, g203, g204, g205, g206, g207, g208, g209, g210, g211, g212, g213, g214, g215, g216, g217, g218, g219, g220, g221, g222, g223, g224, g225, g226, g227, g228, g229, g230, g231, g232, g233, g234, g235, g236, g237, g238, g239, g240, g241, g242, g243, g244, g245, g246, g247, g248, g249, g250, g251, g252, g253, g254, g255, g256, g257, g258, g259, g260, g261, g262, g263, g264, g265, g266, g267, g268, g269, g270, g271, g272, g273, g274, g275, g276, g277, g278, g279, g280, g281, g282, g283, g284, g285, g286, g287, g288, g289, g290, g291, g292, g293, g294, g295, g296, g297, g298, g299, g300, g301, g302, g303, g304, g305, g306, g307, g308, g309, g310, g311, g312, g313, g314, g315, g316, g317, g318, g319, g320, g321, g322, g323, g324, g325, g326, g327], []⟩ wc := by
  show Code.wp Try.prog (.seq (headOf (tailAt 16 (Try.f5.body.getD .skip))) (.seq (headOf (tailAt 17 (Try.f5.body.getD .skip))) (.seq (headOf (tailAt 18 (Try.f5.body.getD .skip))) (.seq (headOf (tailAt 19 (Try.f5.body.getD .skip))) (.seq (headOf (tailAt 20 (Try.f5.body.getD .skip))) (tailAt 21 (Try.f5.body.getD .skip))))))) _ _ _
  conv => arg 2; arg 1; whnf
  conv => arg 2; arg 2; arg 1; whnf
  conv => arg 2; arg 2; arg 2; arg 1; whnf
  conv => arg 2; arg 2; arg 2; arg 2; arg 1; whnf
  conv => arg 2; arg 2; arg 2; arg 2; arg 2; arg 1; whnf
  have hlt := hR.lt
  go_wp2_with fail
  refine (newList b0 b1 b2 d0 d1 d2 n P S T id gen _ hn (s0.mono (Nat.le_of_lt hlt)) (s1.mono (Nat.le_of_lt hlt)) (s2.mono (Nat.le_of_lt hlt))).mono ?_
  rintro e w1 ⟨rfl, hLL, hbl1, hsz1⟩
  have Hsz1 : Hid (w1.heap.size = wc.heap.size + 3) := hsz1
  clear hsz1
  go_wp2_with fail
  refine (newDfa (some ⟨sb, 0, none⟩) m m _).mono ?_
  rintro e w2 ⟨rfl, hd, hbl2, hsz2⟩
  have L := lay_of hR hLL hbl1 Hsz1.out hd hbl2 hsz2
  clear hsz2 hd
  go_wp2_with fail
  refine (ztakeIn _ _ _ _ sb n m P S T sn id gen tp ts t lane K M SL _ hn hm i0 i1 L hplan).mono ?_
  rintro e w3 ⟨rfl, L3, hbl3, -⟩
  have hbW : Below sb wc w3 := ((hbl1.mono (Nat.le_of_lt hlt)).trans (hbl2.mono (by have := hbl1.size; omega))).trans hbl3
  have hb3 := hb.trans (hbW.mono hsb)
  have p1 := L3.lanes
  have p2 := L3.lane
  go_wp2_with fail
  refine (lane0Len _ _ _ n _ p1 p2).mono ?_
  rintro e w4 ⟨rfl, rfl⟩
  clear p1 p2
  go_wp2_with fail
  exact f5_D w _ b0 b1 n m d0 d1 _ _ _ _ sb P S T sn id gen tp ts t lane K M SL hn hm i0 i1 hplan L3 (s0.below hbW) (s1.below hbW) hb3 hsb _ _ _ _ _ _ _ _ _ _ _ _ _ _ _ _ _ _ _ _ _ _ _ _ _ _ _ _ _ _ _ _ _ _ _ _ _ _ _ _ _ _ _ _ _ _ _ _ _ _ _ _ _ _ _ _ _ _ _ _ _ _ _ _ _ _ _ _ _ _ _ _ _ _ _ _ _ _ _ _ _ _ _ _ _ _ _ _ _ _ _ _ _ _ _ _ _ _ _ _ _ _ _ _ _ _ _ _ _ _ _ _ _ _ _ _ _ _ _ _ _ _ _ _ _ _ _ _ _ _ _ _ _ _ _ _ _ _ _ _ _ _ _ _ _ _ _ _ _ _ _ _ _ _ _ _ _ _ _ _ _ _ _ _ _ _ _ _ _ _ _ _ _ _ _ _ _ _ _ _ _ _ _ _ _ _ _ _ _ _ _ _ _ _ _ _ _ _ _ _ _ _ _ _ _ _ _ _ _ _ _ _ _ _ _ _ _ _ _ _ _ _ _ _ _ _ _ _ _ _ _ _ _ _ _ _ _ _ _ _ _ _ _ _ _ _ _ _ _ _ _ _ _ _ _ _ _ _ _ _ _ _ _ _ _ _ _ _ _ _ _ _ _ _ _ _ _ _ _ _ _ _ _ _ _ _ _ _ _ _ _ _ _ _ _ _ _ _ _ _ _ _ _ _ _ _ _ _ _ _ _ _ _ _ _

set_option maxHeartbeats 4000000 in
set_option maxRecDepth 100000 in
theorem f5_B (w wc : World) (b0 b1 b2 a9 : Option Addr) (n m d0 d1 d2 c9 : Nat) (P S T sn : Nat → Int) (id gen tp ts t lane K M SL : Int) (hn : n ≤ 65536) (hm : m ≤ 65536) (i0 : 0 ≤ id) (i1 : id ≤ 1)
    (hplan : Plan P S T n m tp ts t lane id K M SL) (s0 : Rd .i64 wc.heap.size wc b0 n P) (s1 : Rd .i64 wc.heap.size wc b1 n S) (s2 : Rd .i32 wc.heap.size wc b2 n T) (r9 : Rd .u64 wc.heap.size wc a9 m sn) (hb : Below w.heap.size w wc)
    (g10 g11 g12 g13 g14 g15 g16 g17 g18 g19 g20 g21 g22 g23 g24 g27 g28 g29 g30 g31 g32 g33 g34 g35 g36 g37 g38 g39 g40 g41 g42 g43 g44 g45 g46 g47 g48 g49 g50 g51 g52 g53 g54 g55 g56 g57 g58 g59 g60 g61 g62 g63 g64 g65 g66 g67 g68 g69 g70 g71 g72 g73 g74 g75 g76 g77 g78 g79 g80 g81 g82 g83 g84 g85 g86 g87 g88 g89 g90 g91 g92 g93 g94 g95 g96 g97 g98 g99 g100 g101 g102 g103 g104 g105 g106 g107 g108 g109 g110 g111 g112 g113 g114 g115 g116 g117 g118 g119 g120 g121 g122 g123 g124 g125 g126 g127 g128 g129 g130 g131 g132 g133 g134 g135 g136 g137 g138 g139 g140 g141 g142 g143 g144 g145 g146 g147 g148 g149 g150 g151 g152 g153 g154 g155 g156 g157 g158 g159 g160 g161 g162 g163 g164 g165 g166 g167 g168 g169 g170 g171 g172 g173 g174 g175 g176 g177 g178 g179 g180 g181 g182 g183 g184 g185 g186 g187 g188 g189 g190 g191 g192 g193 g194 g195 g196 g197 g198 g199 g200 g201 g202 g203 g204 g205 g206 g207 g208 g209 g210 g211 g212 g213 g214 g215 g216 g217 g218 g219 g220 g221 g222 g223 g224 g225 g226 g227 g228 g229 g230 g231 g232 g233 g234 g235 g236 g237 g238 g239 g240 g241 g242 g243 g244 g245 g246 g247 g248 g249 g250 g251 g252 g253 g254 g255 g256 g257 g258 g259 g260 g261 g262 g263 g264 g265 g266 g267 g268 g269 g270 g271 g272 g273 g274 g275 g276 g277 g278 g279 g280 g281 g282 g283 g284 g285 g286 g287 g288 g289 g290 g291 g292 g293 g294 g295 g296 g297 g298 g299 g300 g301 g302 g303 g304 g305 g306 g307 g308 g309 g310 g311 g312 g313 g314 g315 g316 g317 g318 g319 g320 g321 g322 g323 g324 g325 g326 g327 : Value) :
    Code.wp Try.prog (tailAt 14 (Try.f5.body.getD .skip)) (bodyPost Try.prog Try.f5 fun e w' => e = .returned (.bool true) ∧ Below w.heap.size w w') ⟨#[.slice b0 n d0, .slice b1 n d1, .slice b2 n d2, .int .i64 id, .int .u64 gen, .int .i64 tp, .int .i64 ts, .int .i32 t, .int .i64 lane, .slice a9 m c9, g10, g11, g12, g13, g14, g15, g16, g17, g18, g19, g20, g21, g22, g23, g24, .int .i64 K, .int .i32 M, g27, g28, g29, g30, g31, g32, g33, g34, g35, g36, g37, g38, g39, g40, g41, g42, g43, g44, g45, g46, g47, g48, g49, g50, g51, g52, g53, g54, g55, g56, g57, g58, g59, g60, g61, g62, g63, g64, g65, g66, g67, g68, g69, g70, g71, g72, g73, g74, g75, g76, g77, g78, g79, g80, g81, g82, g83, g84, g85, g86, g87, g88, g89, g90, g91, g92, g93, g94, g95, g96, g97, g98, g99, g100, g101, g102, g103, g104, g105, g106, g107, g108, g109, g110, g111, g112, g113, g114, g115, g116, g117, g118, g119, g120, g121, g122, g123, g124, g125, g126, g127, g128, g129, g130, g131, g132, g133, g134, g135, g136, g137, g138, g139, g140, g141, g142, g143, g144, g145, g146, g147, g148, g149, g150, g151, g152, g153, g154, g155, g156, g157, g158, g159, g160, g161, g162, g163, g164, g165, g166, g167, g168, g169, g170, g171, g172, g173, g174, g175, g176, g177, g178, g179, g180, g181, g182, g183, g184, g185, g186, g187, g188, g189, g190, g191, g192, g193, g194, g195, g196, g197, g198, g199, g200, g201, g202, g203, g204, g205, g206, g207, g208, g209, g210, g211, g212, g213, g214, g215, g216, g217, g218, g219, g220, g221, g222, g223, g224, g225, g226, g227, g228, g229, g230, g231, g232, g233, g234, g235, g236, g237, g238, g239, g240, g241, g242, g243, g244, g245, g246, g247, g248, g249, g250, g251, g252, g253, g254, g255, g256, g257, g258, g259, g260, g261, g262, g263, g264, g265, g266, g267, g268, g269, g270, g271, g272, g273, g274, g275, g276, g277, g278, g279, g280, g281, g282, g283, g284, g285, g286, g287, g288, g289, g290, g291, g292, g293, g294, g295, g296, g297, g298, g299, g300, g301, g302, g303, g304, g305, g306, g307, g308, g309, g310, g311, g312, g313, g314, g315, g316, g317, g318, g319, g320, g321, g322, g323, g324, g325, g326, g327], []⟩ wc := by
  show Code.wp Try.prog (.seq (headOf (tailAt 14 (Try.f5.body.getD .skip))) (.seq (headOf (tailAt 15 (Try.f5.body.getD .skip))) (tailAt 16 (Try.f5.body.getD .skip)))) _ _ _
  conv => arg 2; arg 1; whnf
  conv => arg 2; arg 2; arg 1; whnf
  have hmk9 := run_make_row' (P := Try.prog) 29 28 (.int .u64 0) 8 Try.underlying29 (by kernel_rfl) rfl .i64 .i64 m (by omega) (by omega)
  go_wp2_with fail
  go_loopw [30] (fun i wr => ∃ k : Nat, k ≤ m ∧ i = .int .i64 k ∧ RowTo .u64 wc.heap.size wr m k sn ∧ Below wc.heap.size wc wr) (fun i _ => m - (intOf i).toNat)
  case atStart => exact ⟨0, Nat.zero_le _, rfl, RowTo.zero _ _ _ _ _ _, (Below.refl _ _).alloc (Nat.le_refl _) _⟩
  case round =>
    obtain ⟨k, hk, rfl, hR, hbr⟩ := hrel
    by_cases hlt : k < m
    · obtain ⟨b9, o9, rfl, y9, hc9⟩ := r9 (by omega)
      have c9' := (hbr.cell (p := ⟨b9, o9 + k, none⟩) y9).trans (hc9 k hlt)
      obtain ⟨v0, hv0⟩ := hR.there k hlt
      have hfr := hR.free k
      clear hc9
      go_wp2_with fail
      go_roundw
      case rel => exact ⟨k + 1, by omega, by go_num, hR.step hlt, hbr.setCell (Nat.le_refl _) _⟩
      case measure => simp [intOf]; omega
    · obtain rfl : k = m := by omega
      go_wp2_with fail
      exact f5_C w _ b0 b1 b2 n k d0 d1 d2 wc.heap.size P S T sn id gen tp ts t lane K M SL hn hm i0 i1 hplan hR (s0.below hbr) (s1.below hbr) (s2.below hbr) (hb.trans (hbr.mono hb.size)) hb.size _ _ _ _ _ _ _ _ _ _ _ _ _ _ _ _ _ _ _ _ _ _ _ _ _ _ _ _ _ _ _ _ _ _ _ _ _ _ _ _ _ _ _ _ _ _ _ _ _ _ _ _ _ _ _ _ _ _ _ _ _ _ _ _ _ _ _ _ _ _ _ _ _ _ _ _ _ _ _ _ _ _ _ _ _ _ _ _ _ _ _ _ _ _ _ _ _ _ _ _ _ _ _ _ _ _ _ _ _ _ _ _ _ _ _ _ _ _ _ _ _ _ _ _ _ _ _ _ _ _ _ _ _ _ _ _ _ _ _ _ _ _ _ _ _ _ _ _ _ _ _ _ _ _ _ _ _ _ _ _ _ _ _ _ _ _ _ _ _ _ _ _ _ _ _ _ _ _ _ _ _ _ _ _ _ _ _ _ _ _ _ _ _ _ _ _ _ _ _ _ _ _ _ _ _ _ _ _ _ _ _ _ _ _ _ _ _ _ _ _ _ _ _ _ _ _ _ _ _ _ _ _ _ _ _ _ _ _ _ _ _ _ _ _ _ _ _ _ _ _ _ _ _ _ _ _ _ _ _ _ _ _ _ _ _ _ _ _ _ _ _ _ _ _ _ _ _ _ _ _ _ _ _ _ _ _ _ _ _ _ _ _ _ _ _ _ _ _ _ _ _ _ _ _ _ _ _ _ _ _ _ _ _ _ _ _
end Go.Proofs.Qxb6614675a.fnTakeInTwiceChangesNothingMore
