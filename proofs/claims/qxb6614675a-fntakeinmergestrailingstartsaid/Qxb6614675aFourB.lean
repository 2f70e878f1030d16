/- The first law's stages: from the call to the copies. -/
import Derived.Test.Qxb6614675aFourA
namespace Go.Proofs.Qxb6614675a.fnTakeInMergesTrailingStart
open Go.RowKit
set_option linter.unusedVariables false

set_option maxHeartbeats 4000000 in
set_option maxRecDepth 100000 in
theorem f4_S8 (w wC : World) (b0 b1 b2 a9 : Option Addr) (n m d0 d1 d2 c9 : Nat) (P S T sn : Nat → Int) (id gen tp ts t lane : Int) (hn : n ≤ 65536) (hm : m ≤ 65536) (i0 : 0 ≤ id) (i1 : id ≤ 1)
    (s0 : Rd .i64 wC.heap.size wC b0 n P) (s1 : Rd .i64 wC.heap.size wC b1 n S) (s2 : Rd .i32 wC.heap.size wC b2 n T) (r9 : Rd .u64 wC.heap.size wC a9 m sn) (hb : Below w.heap.size w wC)
    (g10 g11 g12 g13 g14 g15 g16 g17 g18 g19 g20 g21 g22 g23 g24 g25 g26 g27 g28 g29 g30 g31 g32 g33 g34 g35 g36 g37 g38 g39 g40 g41 g42 g43 g44 g45 g46 g47 g48 g49 g50 g51 g52 g53 g54 g55 g56 g57 g58 g59 g60 g61 g62 g63 g64 g65 g66 g67 g68 g69 g70 g71 g72 g73 g74 g75 g76 g77 g78 g79 g80 g81 g82 g83 g84 g85 g86 g87 g88 g89 g90 g91 g92 g93 g94 g95 g96 g97 g98 g99 g100 g101 g102 g103 g104 g105 g106 g107 g108 g109 g110 g111 g112 g113 g114 g115 g116 g117 g118 g119 g120 g121 g122 g123 g124 g125 g126 g127 g128 g129 g130 g131 g132 g133 g134 g135 g136 g137 g138 g139 g140 g141 g142 g143 g144 g145 g146 g147 g148 g149 g150 g151 g152 g153 g154 g155 g156 g157 g158 g159 g160 g161 g162 g163 g164 g165 g166 g167 g168 g169 g170 g171 g172 g173 g174 g175 g176 g177 g178 g179 g180 g181 g182 g183 g184 g185 g186 g187 g188 g189 g190 g191 g192 g193 g194 g195 g196 g197 g198 g199 g200 g201 g202 g203 g204 g205 g206 g207 g208 g209 g210 g211 g212 g213 g214 g215 g216 g217 g218 g219 g220 g221 g222 g223 g224 g225 g226 g227 g228 g229 g230 g231 g232 g233 g234 g235 g236 g237 g238 g239 g240 g241 g242 g243 g244 g245 g246 g247 g248 g249 g250 g251 g252 g253 g254 g255 g256 g257 g258 g259 g260 g261 g262 g263 g264 g265 g266 g267 g268 g269 g270 g271 g272 g273 g274 g275 g276 : Value) :
    Code.wp Try.prog (tailAt 8 (Try.f4.body.getD .skip)) (bodyPost Try.prog Try.f4 fun e w' => e = .returned (.bool true) ∧ Below w.heap.size w w') ⟨#[.slice b0 n d0, .slice b1 n d1, .slice b2 n d2, .int .i64 id, .int .u64 gen, .int .i64 tp, .int .i64 ts, .int .i32 t, .int .i64 lane, .slice a9 m c9, g10, g11, g12, g13, g14, g15, g16, g17, g18, g19, g20, g21, g22, g23, g24, g25, g26, g27, g28, g29, g30, g31, g32, g33, g34, g35, g36, g37, g38, g39, g40, g41, g42, g43, g44, g45, g46, g47, g48, g49, g50, g51, g52, g53, g54, g55, g56, g57, g58, g59, g60, g61, g62, g63, g64, g65, g66, g67, g68, g69, g70, g71, g72, g73, g74, g75, g76, g77, g78, g79, g80, g81, g82, g83, g84, g85, g86, g87, g88, g89, g90, g91, g92, g93, g94, g95, g96, g97, g98, g99, g100, g101, g102, g103, g104, g105, g106, g107, g108, g109, g110, g111, g112, g113, g114, g115, g116, g117, g118, g119, g120, g121, g122, g123, g124, g125, g126, g127, g128, g129, g130, g131, g132, g133, g134, g135, g136, g137, g138, g139, g140, g141, g142, g143, g144, g145, g146, g147, g148, g149, g150, g151, g152, g153, g154, g155, g156, g157, g158, g159, g160, g161, g162, g163, g164, g165, g166, g167, g168, g169, g170, g171, g172, g173, g174, g175, g176, g177, g178, g179, g180, g181, g182, g183, g184, g185, g186, g187, g188, g189, g190, g191, g192, g193, g194, g195, g196, g197, g198, g199, g200, g201, g202, g203, g204, g205, g206, g207, g208, g209, g210, g211, g212, g213, g214, g215, g216, g217, g218, g219, g220, g221, g222, g223, g224, g225, g226, g227, g228, g229, g230, g231, g232, g233, g234, g235, g236, g237, g238, g239, g240, g241, g242, g243, g244, g245, g246, g247, g248, g249, g250, g251, g252, g253, g254, g255, g256, g257, g258, g259, g260, g261, g262, g263, g264, g265, g266, g267, g268, g269, g270, g271, g272, g273, g274, g275, g276], []⟩ wC := by
  show Code.wp Try.prog (.seq (headOf (tailAt 8 (Try.f4.body.getD .skip))) (tailAt 9 (Try.f4.body.getD .skip))) _ _ _
  conv => arg 2; arg 1; whnf
  have hmk := run_make_row' (P := Try.prog) 22 21 (.int .i32 0) 4 Try.underlying22 (by kernel_rfl) rfl .i64 .i64 n (by omega) (by omega)
  have hnn := fun wx a c => run_neq_slice_nil_any (P := Try.prog) wx 22 21 a n c 0 0 Try.underlying22
  cases b2 with
  | none =>
    go_wp2_with fail
    exact f4_A w _ b0 b1 none a9 n m d0 d1 d2 c9 P S T sn id gen tp ts t lane hn hm i0 i1 s0 s1 s2 r9 hb _ _ _ _ _ _ _ _ _ _ _ _ _ _ _ _ _ _ _ _ _ _ _ _ _ _ _ _ _ _ _ _ _ _ _ _ _ _ _ _ _ _ _ _ _ _ _ _ _ _ _ _ _ _ _ _ _ _ _ _ _ _ _ _ _ _ _ _ _ _ _ _ _ _ _ _ _ _ _ _ _ _ _ _ _ _ _ _ _ _ _ _ _ _ _ _ _ _ _ _ _ _ _ _ _ _ _ _ _ _ _ _ _ _ _ _ _ _ _ _ _ _ _ _ _ _ _ _ _ _ _ _ _ _ _ _ _ _ _ _ _ _ _ _ _ _ _ _ _ _ _ _ _ _ _ _ _ _ _ _ _ _ _ _ _ _ _ _ _ _ _ _ _ _ _ _ _ _ _ _ _ _ _ _ _ _ _ _ _ _ _ _ _ _ _ _ _ _ _ _ _ _ _ _ _ _ _ _ _ _ _ _ _ _ _ _ _ _ _ _ _ _ _ _ _ _ _ _ _ _ _ _ _ _ _ _ _ _ _ _ _ _ _ _ _ _ _ _ _ _ _ _ _ _ _ _ _ _ _ _ _ _ _ _ _ _ _
  | some x =>
    obtain ⟨W2, hcp, hrd, hx⟩ := copy_in (kd := .i32) Try.underlying22 (by kernel_rfl) 3 x d2 n T wC s2
    go_wp2_with fail
    exact f4_A w _ b0 b1 (some ⟨wC.heap.size, 0, none⟩) a9 n m d0 d1 n c9 P S T sn id gen tp ts t lane hn hm i0 i1 ((s0.below hx).mono hx.size) ((s1.below hx).mono hx.size) hrd ((r9.below hx).mono hx.size) (hb.trans (hx.mono hb.size)) _ _ _ _ _ _ _ _ _ _ _ _ _ _ _ _ _ _ _ _ _ _ _ _ _ _ _ _ _ _ _ _ _ _ _ _ _ _ _ _ _ _ _ _ _ _ _ _ _ _ _ _ _ _ _ _ _ _ _ _ _ _ _ _ _ _ _ _ _ _ _ _ _ _ _ _ _ _ _ _ _ _ _ _ _ _ _ _ _ _ _ _ _ _ _ _ _ _ _ _ _ _ _ _ _ _ _ _ _ _ _ _ _ _ _ _ _ _ _ _ _ _ _ _ _ _ _ _ _ _ _ _ _ _ _ _ _ _ _ _ _ _ _ _ _ _ _ _ _ _ _ _ _ _ _ _ _ _ _ _ _ _ _ _ _ _ _ _ _ _ _ _ _ _ _ _ _ _ _ _ _ _ _ _ _ _ _ _ _ _ _ _ _ _ _ _ _ _ _ _ _ _ _ _ _ _ _ _ _ _ _ _ _ _ _ _ _ _ _ _ _ _ _ _ _ _ _ _ _ _ _ _ _ _ _ _ _ _ _ _ _ _ _ _ _ _ _ _ _ _ _ _ _ _ _ _ _ _ _ _ _ _ _ _ _ _ _

set_option maxHeartbeats 4000000 in
set_option maxRecDepth 100000 in
theorem f4_S7 (w wC : World) (b0 b1 b2 a9 : Option Addr) (n m d0 d1 d2 c9 : Nat) (P S T sn : Nat → Int) (id gen tp ts t lane : Int) (hn : n ≤ 65536) (hm : m ≤ 65536) (i0 : 0 ≤ id) (i1 : id ≤ 1)
    (s0 : Rd .i64 wC.heap.size wC b0 n P) (s1 : Rd .i64 wC.heap.size wC b1 n S) (s2 : Rd .i32 wC.heap.size wC b2 n T) (r9 : Rd .u64 wC.heap.size wC a9 m sn) (hb : Below w.heap.size w wC)
    (g10 g11 g12 g13 g14 g15 g16 g17 g18 g19 g20 g21 g22 g23 g24 g25 g26 g27 g28 g29 g30 g31 g32 g33 g34 g35 g36 g37 g38 g39 g40 g41 g42 g43 g44 g45 g46 g47 g48 g49 g50 g51 g52 g53 g54 g55 g56 g57 g58 g59 g60 g61 g62 g63 g64 g65 g66 g67 g68 g69 g70 g71 g72 g73 g74 g75 g76 g77 g78 g79 g80 g81 g82 g83 g84 g85 g86 g87 g88 g89 g90 g91 g92 g93 g94 g95 g96 g97 g98 g99 g100 g101 g102 g103 g104 g105 g106 g107 g108 g109 g110 g111 g112 g113 g114 g115 g116 g117 g118 g119 g120 g121 g122 g123 g124 g125 g126 g127 g128 g129 g130 g131 g132 g133 g134 g135 g136 g137 g138 g139 g140 g141 g142 g143 g144 g145 g146 g147 g148 g149 g150 g151 g152 g153 g154 g155 g156 g157 g158 g159 g160 g161 g162 g163 g164 g165 g166 g167 g168 g169 g170 g171 g172 g173 g174 g175 g176 g177 g178 g179 g180 g181 g182 g183 g184 g185 g186 g187 g188 g189 g190 g191 g192 g193 g194 g195 g196 g197 g198 g199 g200 g201 g202 g203 g204 g205 g206 g207 g208 g209 g210 g211 g212 g213 g214 g215 g216 g217 g218 g219 g220 g221 g222 g223 g224 g225 g226 g227 g228 g229 g230 g231 g232 g233 g234 g235 g236 g237 g238 g239 g240 g241 g242 g243 g244 g245 g246 g247 g248 g249 g250 g251 g252 g253 g254 g255 g256 g257 g258 g259 g260 g261 g262 g263 g264 g265 g266 g267 g268 g269 g270 g271 g272 g273 g274 g275 g276 : Value) :
    Code.wp Try.prog (tailAt 7 (Try.f4.body.getD .skip)) (bodyPost Try.prog Try.f4 fun e w' => e = .returned (.bool true) ∧ Below w.heap.size w w') ⟨#[.slice b0 n d0, .slice b1 n d1, .slice b2 n d2, .int .i64 id, .int .u64 gen, .int .i64 tp, .int .i64 ts, .int .i32 t, .int .i64 lane, .slice a9 m c9, g10, g11, g12, g13, g14, g15, g16, g17, g18, g19, g20, g21, g22, g23, g24, g25, g26, g27, g28, g29, g30, g31, g32, g33, g34, g35, g36, g37, g38, g39, g40, g41, g42, g43, g44, g45, g46, g47, g48, g49, g50, g51, g52, g53, g54, g55, g56, g57, g58, g59, g60, g61, g62, g63, g64, g65, g66, g67, g68, g69, g70, g71, g72, g73, g74, g75, g76, g77, g78, g79, g80, g81, g82, g83, g84, g85, g86, g87, g88, g89, g90, g91, g92, g93, g94, g95, g96, g97, g98, g99, g100, g101, g102, g103, g104, g105, g106, g107, g108, g109, g110, g111, g112, g113, g114, g115, g116, g117, g118, g119, g120, g121, g122, g123, g124, g125, g126, g127, g128, g129, g130, g131, g132, g133, g134, g135, g136, g137, g138, g139, g140, g141, g142, g143, g144, g145, g146, g147, g148, g149, g150, g151, g152, g153, g154, g155, g156, g157, g158, g159, g160, g161, g162, g163, g164, g165, g166, g167, g168, g169, g170, g171, g172, g173, g174, g175, g176, g177, g178, g179, g180, g181, g182, g183, g184, g185, g186, g187, g188, g189, g190, g191, g192, g193, g194, g195, g196, g197, g198, g199, g200, g201, g202, g203, g204, g205, g206, g207, g208, g209, g210, g211, g212, g213, g214, g215, g216, g217, g218, g219, g220, g221, g222, g223, g224, g225, g226, g227, g228, g229, g230, g231, g232, g233, g234, g235, g236, g237, g238, g239, g240, g241, g242, g243, g244, g245, g246, g247, g248, g249, g250, g251, g252, g253, g254, g255, g256, g257, g258, g259, g260, g261, g262, g263, g264, g265, g266, g267, g268, g269, g270, g271, g272, g273, g274, g275, g276], []⟩ wC := by
  show Code.wp Try.prog (.seq (headOf (tailAt 7 (Try.f4.body.getD .skip))) (tailAt 8 (Try.f4.body.getD .skip))) _ _ _
  conv => arg 2; arg 1; whnf
  have hmk := run_make_row' (P := Try.prog) 27 3 (.int .i64 0) 8 Try.underlying27 (by kernel_rfl) rfl .i64 .i64 n (by omega) (by omega)
  have hnn := fun wx a c => run_neq_slice_nil_any (P := Try.prog) wx 27 3 a n c 0 0 Try.underlying27
  cases b1 with
  | none =>
    go_wp2_with fail
    exact f4_S8 w _ b0 none b2 a9 n m d0 d1 d2 c9 P S T sn id gen tp ts t lane hn hm i0 i1 s0 s1 s2 r9 hb _ _ _ _ _ _ _ _ _ _ _ _ _ _ _ _ _ _ _ _ _ _ _ _ _ _ _ _ _ _ _ _ _ _ _ _ _ _ _ _ _ _ _ _ _ _ _ _ _ _ _ _ _ _ _ _ _ _ _ _ _ _ _ _ _ _ _ _ _ _ _ _ _ _ _ _ _ _ _ _ _ _ _ _ _ _ _ _ _ _ _ _ _ _ _ _ _ _ _ _ _ _ _ _ _ _ _ _ _ _ _ _ _ _ _ _ _ _ _ _ _ _ _ _ _ _ _ _ _ _ _ _ _ _ _ _ _ _ _ _ _ _ _ _ _ _ _ _ _ _ _ _ _ _ _ _ _ _ _ _ _ _ _ _ _ _ _ _ _ _ _ _ _ _ _ _ _ _ _ _ _ _ _ _ _ _ _ _ _ _ _ _ _ _ _ _ _ _ _ _ _ _ _ _ _ _ _ _ _ _ _ _ _ _ _ _ _ _ _ _ _ _ _ _ _ _ _ _ _ _ _ _ _ _ _ _ _ _ _ _ _ _ _ _ _ _ _ _ _ _ _ _ _ _ _ _ _ _ _ _ _ _ _ _ _ _ _
  | some x =>
    obtain ⟨W2, hcp, hrd, hx⟩ := copy_in (kd := .i64) Try.underlying27 (by kernel_rfl) 3 x d1 n S wC s1
    go_wp2_with fail
    exact f4_S8 w _ b0 (some ⟨wC.heap.size, 0, none⟩) b2 a9 n m d0 n d2 c9 P S T sn id gen tp ts t lane hn hm i0 i1 ((s0.below hx).mono hx.size) hrd ((s2.below hx).mono hx.size) ((r9.below hx).mono hx.size) (hb.trans (hx.mono hb.size)) _ _ _ _ _ _ _ _ _ _ _ _ _ _ _ _ _ _ _ _ _ _ _ _ _ _ _ _ _ _ _ _ _ _ _ _ _ _ _ _ _ _ _ _ _ _ _ _ _ _ _ _ _ _ _ _ _ _ _ _ _ _ _ _ _ _ _ _ _ _ _ _ _ _ _ _ _ _ _ _ _ _ _ _ _ _ _ _ _ _ _ _ _ _ _ _ _ _ _ _ _ _ _ _ _ _ _ _ _ _ _ _ _ _ _ _ _ _ _ _ _ _ _ _ _ _ _ _ _ _ _ _ _ _ _ _ _ _ _ _ _ _ _ _ _ _ _ _ _ _ _ _ _ _ _ _ _ _ _ _ _ _ _ _ _ _ _ _ _ _ _ _ _ _ _ _ _ _ _ _ _ _ _ _ _ _ _ _ _ _ _ _ _ _ _ _ _ _ _ _ _ _ _ _ _ _ _ _ _ _ _ _ _ _ _ _ _ _ _ _ _ _ _ _ _ _ _ _ _ _ _ _ _ _ _ _ _ _ _ _ _ _ _ _ _ _ _ _ _ _ _ _ _ _ _ _ _ _ _ _ _ _ _ _ _ _ _

set_option maxHeartbeats 4000000 in
set_option maxRecDepth 100000 in
theorem f4_S6 (w wC : World) (b0 b1 b2 a9 : Option Addr) (n m d0 d1 d2 c9 : Nat) (P S T sn : Nat → Int) (id gen tp ts t lane : Int) (hn : n ≤ 65536) (hm : m ≤ 65536) (i0 : 0 ≤ id) (i1 : id ≤ 1)
    (s0 : Rd .i64 wC.heap.size wC b0 n P) (s1 : Rd .i64 wC.heap.size wC b1 n S) (s2 : Rd .i32 wC.heap.size wC b2 n T) (r9 : Rd .u64 wC.heap.size wC a9 m sn) (hb : Below w.heap.size w wC)
    (g10 g11 g12 g13 g14 g15 g16 g17 g18 g19 g20 g21 g22 g23 g24 g25 g26 g27 g28 g29 g30 g31 g32 g33 g34 g35 g36 g37 g38 g39 g40 g41 g42 g43 g44 g45 g46 g47 g48 g49 g50 g51 g52 g53 g54 g55 g56 g57 g58 g59 g60 g61 g62 g63 g64 g65 g66 g67 g68 g69 g70 g71 g72 g73 g74 g75 g76 g77 g78 g79 g80 g81 g82 g83 g84 g85 g86 g87 g88 g89 g90 g91 g92 g93 g94 g95 g96 g97 g98 g99 g100 g101 g102 g103 g104 g105 g106 g107 g108 g109 g110 g111 g112 g113 g114 g115 g116 g117 g118 g119 g120 g121 g122 g123 g124 g125 g126 g127 g128 g129 g130 g131 g132 g133 g134 g135 g136 g137 g138 g139 g140 g141 g142 g143 g144 g145 g146 g147 g148 g149 g150 g151 g152 g153 g154 g155 g156 g157 g158 g159 g160 g161 g162 g163 g164 g165 g166 g167 g168 g169 g170 g171 g172 g173 g174 g175 g176 g177 g178 g179 g180 g181 g182 g183 g184 g185 g186 g187 g188 g189 g190 g191 g192 g193 g194 g195 g196 g197 g198 g199 g200 g201 g202 g203 g204 g205 g206 g207 g208 g209 g210 g211 g212 g213 g214 g215 g216 g217 g218 g219 g220 g221 g222 g223 g224 g225 g226 g227 g228 g229 g230 g231 g232 g233 g234 g235 g236 g237 g238 g239 g240 g241 g242 g243 g244 g245 g246 g247 g248 g249 g250 g251 g252 g253 g254 g255 g256 g257 g258 g259 g260 g261 g262 g263 g264 g265 g266 g267 g268 g269 g270 g271 g272 g273 g274 g275 g276 : Value) :
    Code.wp Try.prog (tailAt 6 (Try.f4.body.getD .skip)) (bodyPost Try.prog Try.f4 fun e w' => e = .returned (.bool true) ∧ Below w.heap.size w w') ⟨#[.slice b0 n d0, .slice b1 n d1, .slice b2 n d2, .int .i64 id, .int .u64 gen, .int .i64 tp, .int .i64 ts, .int .i32 t, .int .i64 lane, .slice a9 m c9, g10, g11, g12, g13, g14, g15, g16, g17, g18, g19, g20, g21, g22, g23, g24, g25, g26, g27, g28, g29, g30, g31, g32, g33, g34, g35, g36, g37, g38, g39, g40, g41, g42, g43, g44, g45, g46, g47, g48, g49, g50, g51, g52, g53, g54, g55, g56, g57, g58, g59, g60, g61, g62, g63, g64, g65, g66, g67, g68, g69, g70, g71, g72, g73, g74, g75, g76, g77, g78, g79, g80, g81, g82, g83, g84, g85, g86, g87, g88, g89, g90, g91, g92, g93, g94, g95, g96, g97, g98, g99, g100, g101, g102, g103, g104, g105, g106, g107, g108, g109, g110, g111, g112, g113, g114, g115, g116, g117, g118, g119, g120, g121, g122, g123, g124, g125, g126, g127, g128, g129, g130, g131, g132, g133, g134, g135, g136, g137, g138, g139, g140, g141, g142, g143, g144, g145, g146, g147, g148, g149, g150, g151, g152, g153, g154, g155, g156, g157, g158, g159, g160, g161, g162, g163, g164, g165, g166, g167, g168, g169, g170, g171, g172, g173, g174, g175, g176, g177, g178, g179, g180, g181, g182, g183, g184, g185, g186, g187, g188, g189, g190, g191, g192, g193, g194, g195, g196, g197, g198, g199, g200, g201, g202, g203, g204, g205, g206, g207, g208, g209, g210, g211, g212, g213, g214, g215, g216, g217, g218, g219, g220, g221, g222, g223, g224, g225, g226, g227, g228, g229, g230, g231, g232, g233, g234, g235, g236, g237, g238, g239, g240, g241, g242, g243, g244, g245, g246, g247, g248, g249, g250, g251, g252, g253, g254, g255, g256, g257, g258, g259, g260, g261, g262, g263, g264, g265, g266, g267, g268, g269, g270, g271, g272, g273, g274, g275, g276], []⟩ wC := by
  show Code.wp Try.prog (.seq (headOf (tailAt 6 (Try.f4.body.getD .skip))) (tailAt 7 (Try.f4.body.getD .skip))) _ _ _
  conv => arg 2; arg 1; whnf
  have hmk := run_make_row' (P := Try.prog) 27 3 (.int .i64 0) 8 Try.underlying27 (by kernel_rfl) rfl .i64 .i64 n (by omega) (by omega)
  have hnn := fun wx a c => run_neq_slice_nil_any (P := Try.prog) wx 27 3 a n c 0 0 Try.underlying27
  cases b0 with
  | none =>
    go_wp2_with fail
    exact f4_S7 w _ none b1 b2 a9 n m d0 d1 d2 c9 P S T sn id gen tp ts t lane hn hm i0 i1 s0 s1 s2 r9 hb _ _ _ _ _ _ _ _ _ _ _ _ _ _ _ _ _ _ _ _ _ _ _ _ _ _ _ _ _ _ _ _ _ _ _ _ _ _ _ _ _ _ _ _ _ _ _ _ _ _ _ _ _ _ _ _ _ _ _ _ _ _ _ _ _ _ _ _ _ _ _ _ _ _ _ _ _ _ _ _ _ _ _ _ _ _ _ _ _ _ _ _ _ _ _ _ _ _ _ _ _ _ _ _ _ _ _ _ _ _ _ _ _ _ _ _ _ _ _ _ _ _ _ _ _ _ _ _ _ _ _ _ _ _ _ _ _ _ _ _ _ _ _ _ _ _ _ _ _ _ _ _ _ _ _ _ _ _ _ _ _ _ _ _ _ _ _ _ _ _ _ _ _ _ _ _ _ _ _ _ _ _ _ _ _ _ _ _ _ _ _ _ _ _ _ _ _ _ _ _ _ _ _ _ _ _ _ _ _ _ _ _ _ _ _ _ _ _ _ _ _ _ _ _ _ _ _ _ _ _ _ _ _ _ _ _ _ _ _ _ _ _ _ _ _ _ _ _ _ _ _ _ _ _ _ _ _ _ _ _ _ _ _ _ _ _ _
  | some x =>
    obtain ⟨W2, hcp, hrd, hx⟩ := copy_in (kd := .i64) Try.underlying27 (by kernel_rfl) 3 x d0 n P wC s0
    go_wp2_with fail
    exact f4_S7 w _ (some ⟨wC.heap.size, 0, none⟩) b1 b2 a9 n m n d1 d2 c9 P S T sn id gen tp ts t lane hn hm i0 i1 hrd ((s1.below hx).mono hx.size) ((s2.below hx).mono hx.size) ((r9.below hx).mono hx.size) (hb.trans (hx.mono hb.size)) _ _ _ _ _ _ _ _ _ _ _ _ _ _ _ _ _ _ _ _ _ _ _ _ _ _ _ _ _ _ _ _ _ _ _ _ _ _ _ _ _ _ _ _ _ _ _ _ _ _ _ _ _ _ _ _ _ _ _ _ _ _ _ _ _ _ _ _ _ _ _ _ _ _ _ _ _ _ _ _ _ _ _ _ _ _ _ _ _ _ _ _ _ _ _ _ _ _ _ _ _ _ _ _ _ _ _ _ _ _ _ _ _ _ _ _ _ _ _ _ _ _ _ _ _ _ _ _ _ _ _ _ _ _ _ _ _ _ _ _ _ _ _ _ _ _ _ _ _ _ _ _ _ _ _ _ _ _ _ _ _ _ _ _ _ _ _ _ _ _ _ _ _ _ _ _ _ _ _ _ _ _ _ _ _ _ _ _ _ _ _ _ _ _ _ _ _ _ _ _ _ _ _ _ _ _ _ _ _ _ _ _ _ _ _ _ _ _ _ _ _ _ _ _ _ _ _ _ _ _ _ _ _ _ _ _ _ _ _ _ _ _ _ _ _ _ _ _ _ _ _ _ _ _ _ _ _ _ _ _ _ _ _ _ _ _ _

set_option maxHeartbeats 4000000 in
set_option maxRecDepth 100000 in
theorem f4_S5 (w : World) (a0 a1 a2 a9 : Option Addr) (n m c0 c1 c2 c9 : Nat) (P S T sn : Nat → Int) (id gen tp ts t lane : Int) (hn : n ≤ 65536) (hm : m ≤ 65536)
    (r0 : Rd .i64 w.heap.size w a0 n P) (r1 : Rd .i64 w.heap.size w a1 n S) (r2 : Rd .i32 w.heap.size w a2 n T) (r9 : Rd .u64 w.heap.size w a9 m sn)
    (g10 g11 g12 g13 g14 g15 g16 g17 g18 g19 g20 g21 g22 g23 g24 g25 g26 g27 g28 g29 g30 g31 g32 g33 g34 g35 g36 g37 g38 g39 g40 g41 g42 g43 g44 g45 g46 g47 g48 g49 g50 g51 g52 g53 g54 g55 g56 g57 g58 g59 g60 g61 g62 g63 g64 g65 g66 g67 g68 g69 g70 g71 g72 g73 g74 g75 g76 g77 g78 g79 g80 g81 g82 g83 g84 g85 g86 g87 g88 g89 g90 g91 g92 g93 g94 g95 g96 g97 g98 g99 g100 g101 g102 g103 g104 g105 g106 g107 g108 g109 g110 g111 g112 g113 g114 g115 g116 g117 g118 g119 g120 g121 g122 g123 g124 g125 g126 g127 g128 g129 g130 g131 g132 g133 g134 g135 g136 g137 g138 g139 g140 g141 g142 g143 g144 g145 g146 g147 g148 g149 g150 g151 g152 g153 g154 g155 g156 g157 g158 g159 g160 g161 g162 g163 g164 g165 g166 g167 g168 g169 g170 g171 g172 g173 g174 g175 g176 g177 g178 g179 g180 g181 g182 g183 g184 g185 g186 g187 g188 g189 g190 g191 g192 g193 g194 g195 g196 g197 g198 g199 g200 g201 g202 g203 g204 g205 g206 g207 g208 g209 g210 g211 g212 g213 g214 g215 g216 g217 g218 g219 g220 g221 g222 g223 g224 g225 g226 g227 g228 g229 g230 g231 g232 g233 g234 g235 g236 g237 g238 g239 g240 g241 g242 g243 g244 g245 g246 g247 g248 g249 g250 g251 g252 g253 g254 g255 g256 g257 g258 g259 g260 g261 g262 g263 g264 g265 g266 g267 g268 g269 g270 g271 g272 g273 g274 g275 g276 : Value) :
    Code.wp Try.prog (tailAt 5 (Try.f4.body.getD .skip)) (bodyPost Try.prog Try.f4 fun e w' => e = .returned (.bool true) ∧ Below w.heap.size w w') ⟨#[.slice a0 n c0, .slice a1 n c1, .slice a2 n c2, .int .i64 id, .int .u64 gen, .int .i64 tp, .int .i64 ts, .int .i32 t, .int .i64 lane, .slice a9 m c9, g10, g11, g12, g13, g14, g15, g16, g17, g18, g19, g20, g21, g22, g23, g24, g25, g26, g27, g28, g29, g30, g31, g32, g33, g34, g35, g36, g37, g38, g39, g40, g41, g42, g43, g44, g45, g46, g47, g48, g49, g50, g51, g52, g53, g54, g55, g56, g57, g58, g59, g60, g61, g62, g63, g64, g65, g66, g67, g68, g69, g70, g71, g72, g73, g74, g75, g76, g77, g78, g79, g80, g81, g82, g83, g84, g85, g86, g87, g88, g89, g90, g91, g92, g93, g94, g95, g96, g97, g98, g99, g100, g101, g102, g103, g104, g105, g106, g107, g108, g109, g110, g111, g112, g113, g114, g115, g116, g117, g118, g119, g120, g121, g122, g123, g124, g125, g126, g127, g128, g129, g130, g131, g132, g133, g134, g135, g136, g137, g138, g139, g140, g141, g142, g143, g144, g145, g146, g147, g148, g149, g150, g151, g152, g153, g154, g155, g156, g157, g158, g159, g160, g161, g162, g163, g164, g165, g166, g167, g168, g169, g170, g171, g172, g173, g174, g175, g176, g177, g178, g179, g180, g181, g182, g183, g184, g185, g186, g187, g188, g189, g190, g191, g192, g193, g194, g195, g196, g197, g198, g199, g200, g201, g202, g203, g204, g205, g206, g207, g208, g209, g210, g211, g212, g213, g214, g215, g216, g217, g218, g219, g220, g221, g222, g223, g224, g225, g226, g227, g228, g229, g230, g231, g232, g233, g234, g235, g236, g237, g238, g239, g240, g241, g242, g243, g244, g245, g246, g247, g248, g249, g250, g251, g252, g253, g254, g255, g256, g257, g258, g259, g260, g261, g262, g263, g264, g265, g266, g267, g268, g269, g270, g271, g272, g273, g274, g275, g276], []⟩ w := by
  show Code.wp Try.prog (.seq (headOf (tailAt 5 (Try.f4.body.getD .skip))) (tailAt 6 (Try.f4.body.getD .skip))) _ _ _
  conv => arg 2; arg 1; whnf
  by_cases h0 : id = 0
  · subst h0
    go_wp2_with fail
    exact f4_S6 w w a0 a1 a2 a9 n m c0 c1 c2 c9 P S T sn 0 gen tp ts t lane hn hm (by omega) (by omega) r0 r1 r2 r9 (Below.refl _ _) _ _ _ _ _ _ _ _ _ _ _ _ _ _ _ _ _ _ _ _ _ _ _ _ _ _ _ _ _ _ _ _ _ _ _ _ _ _ _ _ _ _ _ _ _ _ _ _ _ _ _ _ _ _ _ _ _ _ _ _ _ _ _ _ _ _ _ _ _ _ _ _ _ _ _ _ _ _ _ _ _ _ _ _ _ _ _ _ _ _ _ _ _ _ _ _ _ _ _ _ _ _ _ _ _ _ _ _ _ _ _ _ _ _ _ _ _ _ _ _ _ _ _ _ _ _ _ _ _ _ _ _ _ _ _ _ _ _ _ _ _ _ _ _ _ _ _ _ _ _ _ _ _ _ _ _ _ _ _ _ _ _ _ _ _ _ _ _ _ _ _ _ _ _ _ _ _ _ _ _ _ _ _ _ _ _ _ _ _ _ _ _ _ _ _ _ _ _ _ _ _ _ _ _ _ _ _ _ _ _ _ _ _ _ _ _ _ _ _ _ _ _ _ _ _ _ _ _ _ _ _ _ _ _ _ _ _ _ _ _ _ _ _ _ _ _ _ _ _ _ _ _ _ _ _ _ _ _ _ _ _ _ _ _ _ _ _
  · by_cases h1 : id = 1
    · subst h1
      go_wp2_with fail
      exact f4_S6 w w a0 a1 a2 a9 n m c0 c1 c2 c9 P S T sn 1 gen tp ts t lane hn hm (by omega) (by omega) r0 r1 r2 r9 (Below.refl _ _) _ _ _ _ _ _ _ _ _ _ _ _ _ _ _ _ _ _ _ _ _ _ _ _ _ _ _ _ _ _ _ _ _ _ _ _ _ _ _ _ _ _ _ _ _ _ _ _ _ _ _ _ _ _ _ _ _ _ _ _ _ _ _ _ _ _ _ _ _ _ _ _ _ _ _ _ _ _ _ _ _ _ _ _ _ _ _ _ _ _ _ _ _ _ _ _ _ _ _ _ _ _ _ _ _ _ _ _ _ _ _ _ _ _ _ _ _ _ _ _ _ _ _ _ _ _ _ _ _ _ _ _ _ _ _ _ _ _ _ _ _ _ _ _ _ _ _ _ _ _ _ _ _ _ _ _ _ _ _ _ _ _ _ _ _ _ _ _ _ _ _ _ _ _ _ _ _ _ _ _ _ _ _ _ _ _ _ _ _ _ _ _ _ _ _ _ _ _ _ _ _ _ _ _ _ _ _ _ _ _ _ _ _ _ _ _ _ _ _ _ _ _ _ _ _ _ _ _ _ _ _ _ _ _ _ _ _ _ _ _ _ _ _ _ _ _ _ _ _ _ _ _ _ _ _ _ _ _ _ _ _ _ _ _ _ _ _
    · have e0 : (id != 0) = true := bne_iff_ne.2 h0
      have e1 : (id != 1) = true := bne_iff_ne.2 h1
      go_wp2_with fail
      go_ret
      exact ⟨rfl, Below.refl _ _⟩

set_option maxHeartbeats 4000000 in
set_option maxRecDepth 100000 in
theorem f4_S4 (w : World) (a0 a1 a2 a9 : Option Addr) (n0 n1 n2 m c0 c1 c2 c9 : Nat) (P S T sn : Nat → Int) (id gen tp ts t lane : Int) (h0 : n0 ≤ 65536) (h1 : n1 ≤ 65536) (h2 : n2 ≤ 65536) (hm : m ≤ 65536)
    (r0 : Rd .i64 w.heap.size w a0 n0 P) (r1 : Rd .i64 w.heap.size w a1 n1 S) (r2 : Rd .i32 w.heap.size w a2 n2 T) (r9 : Rd .u64 w.heap.size w a9 m sn)
    (g10 g11 g12 g13 g14 g15 g16 g17 g18 g19 g20 g21 g22 g23 g24 g25 g26 g27 g28 g29 g30 g31 g32 g33 g34 g35 g36 g37 g38 g39 g40 g41 g42 g43 g44 g45 g46 g47 g48 g49 g50 g51 g52 g53 g54 g55 g56 g57 g58 g59 g60 g61 g62 g63 g64 g65 g66 g67 g68 g69 g70 g71 g72 g73 g74 g75 g76 g77 g78 g79 g80 g81 g82 g83 g84 g85 g86 g87 g88 g89 g90 g91 g92 g93 g94 g95 g96 g97 g98 g99 g100 g101 g102 g103 g104 g105 g106 g107 g108 g109 g110 g111 g112 g113 g114 g115 g116 g117 g118 g119 g120 g121 g122 g123 g124 g125 g126 g127 g128 g129 g130 g131 g132 g133 g134 g135 g136 g137 g138 g139 g140 g141 g142 g143 g144 g145 g146 g147 g148 g149 g150 g151 g152 g153 g154 g155 g156 g157 g158 g159 g160 g161 g162 g163 g164 g165 g166 g167 g168 g169 g170 g171 g172 g173 g174 g175 g176 g177 g178 g179 g180 g181 g182 g183 g184 g185 g186 g187 g188 g189 g190 g191 g192 g193 g194 g195 g196 g197 g198 g199 g200 g201 g202 g203 g204 g205 g206 g207 g208 g209 g210 g211 g212 g213 g214 g215 g216 g217 g218 g219 g220 g221 g222 g223 g224 g225 g226 g227 g228 g229 g230 g231 g232 g233 g234 g235 g236 g237 g238 g239 g240 g241 g242 g243 g244 g245 g246 g247 g248 g249 g250 g251 g252 g253 g254 g255 g256 g257 g258 g259 g260 g261 g262 g263 g264 g265 g266 g267 g268 g269 g270 g271 g272 g273 g274 g275 g276 : Value) :
    Code.wp Try.prog (tailAt 4 (Try.f4.body.getD .skip)) (bodyPost Try.prog Try.f4 fun e w' => e = .returned (.bool true) ∧ Below w.heap.size w w') ⟨#[.slice a0 n0 c0, .slice a1 n1 c1, .slice a2 n2 c2, .int .i64 id, .int .u64 gen, .int .i64 tp, .int .i64 ts, .int .i32 t, .int .i64 lane, .slice a9 m c9, g10, g11, g12, g13, g14, g15, g16, g17, g18, g19, g20, g21, g22, g23, g24, g25, g26, g27, g28, g29, g30, g31, g32, g33, g34, g35, g36, g37, g38, g39, g40, g41, g42, g43, g44, g45, g46, g47, g48, g49, g50, g51, g52, g53, g54, g55, g56, g57, g58, g59, g60, g61, g62, g63, g64, g65, g66, g67, g68, g69, g70, g71, g72, g73, g74, g75, g76, g77, g78, g79, g80, g81, g82, g83, g84, g85, g86, g87, g88, g89, g90, g91, g92, g93, g94, g95, g96, g97, g98, g99, g100, g101, g102, g103, g104, g105, g106, g107, g108, g109, g110, g111, g112, g113, g114, g115, g116, g117, g118, g119, g120, g121, g122, g123, g124, g125, g126, g127, g128, g129, g130, g131, g132, g133, g134, g135, g136, g137, g138, g139, g140, g141, g142, g143, g144, g145, g146, g147, g148, g149, g150, g151, g152, g153, g154, g155, g156, g157, g158, g159, g160, g161, g162, g163, g164, g165, g166, g167, g168, g169, g170, g171, g172, g173, g174, g175, g176, g177, g178, g179, g180, g181, g182, g183, g184, g185, g186, g187, g188, g189, g190, g191, g192, g193, g194, g195, g196, g197, g198, g199, g200, g201, g202, g203, g204, g205, g206, g207, g208, g209, g210, g211, g212, g213, g214, g215, g216, g217, g218, g219, g220, g221, g222, g223, g224, g225, g226, g227, g228, g229, g230, g231, g232, g233, g234, g235, g236, g237, g238, g239, g240, g241, g242, g243, g244, g245, g246, g247, g248, g249, g250, g251, g252, g253, g254, g255, g256, g257, g258, g259, g260, g261, g262, g263, g264, g265, g266, g267, g268, g269, g270, g271, g272, g273, g274, g275, g276], []⟩ w := by
  show Code.wp Try.prog (.seq (headOf (tailAt 4 (Try.f4.body.getD .skip))) (tailAt 5 (Try.f4.body.getD .skip))) _ _ _
  conv => arg 2; arg 1; whnf
  by_cases e1 : (n1 : Int) = n0
  · by_cases e2 : (n2 : Int) = n0
    · obtain rfl : n1 = n0 := by omega
      obtain rfl : n2 = n1 := by omega
      clear e1 e2
      go_wp2_with fail
      exact f4_S5 w a0 a1 a2 a9 _ m c0 c1 c2 c9 P S T sn id gen tp ts t lane h0 hm r0 r1 r2 r9 _ _ _ _ _ _ _ _ _ _ _ _ _ _ _ _ _ _ _ _ _ _ _ _ _ _ _ _ _ _ _ _ _ _ _ _ _ _ _ _ _ _ _ _ _ _ _ _ _ _ _ _ _ _ _ _ _ _ _ _ _ _ _ _ _ _ _ _ _ _ _ _ _ _ _ _ _ _ _ _ _ _ _ _ _ _ _ _ _ _ _ _ _ _ _ _ _ _ _ _ _ _ _ _ _ _ _ _ _ _ _ _ _ _ _ _ _ _ _ _ _ _ _ _ _ _ _ _ _ _ _ _ _ _ _ _ _ _ _ _ _ _ _ _ _ _ _ _ _ _ _ _ _ _ _ _ _ _ _ _ _ _ _ _ _ _ _ _ _ _ _ _ _ _ _ _ _ _ _ _ _ _ _ _ _ _ _ _ _ _ _ _ _ _ _ _ _ _ _ _ _ _ _ _ _ _ _ _ _ _ _ _ _ _ _ _ _ _ _ _ _ _ _ _ _ _ _ _ _ _ _ _ _ _ _ _ _ _ _ _ _ _ _ _ _ _ _ _ _ _ _ _ _ _ _ _ _ _ _ _ _ _ _ _ _ _ _
    · have e1' : ((n1 : Int) == n0) = true := beq_iff_eq.2 e1
      have e2' : ((n2 : Int) == n0) = false := beq_eq_false_iff_ne.2 e2
      go_wp2_with fail
      go_ret
      exact ⟨rfl, Below.refl _ _⟩
  · have e1' : ((n1 : Int) == n0) = false := beq_eq_false_iff_ne.2 e1
    go_wp2_with fail
    go_ret
    exact ⟨rfl, Below.refl _ _⟩

set_option maxHeartbeats 4000000 in
set_option maxRecDepth 100000 in
theorem f4_S3 (w : World) (a0 a1 a2 a9 : Option Addr) (n0 n1 n2 m c0 c1 c2 c9 : Nat) (P S T sn : Nat → Int) (id gen tp ts t lane : Int) (h0 : n0 ≤ 65536) (h1 : n1 ≤ 65536) (h2 : n2 ≤ 65536) (hm : m ≤ 65536)
    (r0 : Rd .i64 w.heap.size w a0 n0 P) (r1 : Rd .i64 w.heap.size w a1 n1 S) (r2 : Rd .i32 w.heap.size w a2 n2 T) (r9 : Rd .u64 w.heap.size w a9 m sn)
    (g10 g11 g12 g13 g14 g15 g16 g17 g18 g19 g20 g21 g22 g23 g24 g25 g26 g27 g28 g29 g30 g31 g32 g33 g34 g35 g36 g37 g38 g39 g40 g41 g42 g43 g44 g45 g46 g47 g48 g49 g50 g51 g52 g53 g54 g55 g56 g57 g58 g59 g60 g61 g62 g63 g64 g65 g66 g67 g68 g69 g70 g71 g72 g73 g74 g75 g76 g77 g78 g79 g80 g81 g82 g83 g84 g85 g86 g87 g88 g89 g90 g91 g92 g93 g94 g95 g96 g97 g98 g99 g100 g101 g102 g103 g104 g105 g106 g107 g108 g109 g110 g111 g112 g113 g114 g115 g116 g117 g118 g119 g120 g121 g122 g123 g124 g125 g126 g127 g128 g129 g130 g131 g132 g133 g134 g135 g136 g137 g138 g139 g140 g141 g142 g143 g144 g145 g146 g147 g148 g149 g150 g151 g152 g153 g154 g155 g156 g157 g158 g159 g160 g161 g162 g163 g164 g165 g166 g167 g168 g169 g170 g171 g172 g173 g174 g175 g176 g177 g178 g179 g180 g181 g182 g183 g184 g185 g186 g187 g188 g189 g190 g191 g192 g193 g194 g195 g196 g197 g198 g199 g200 g201 g202 g203 g204 g205 g206 g207 g208 g209 g210 g211 g212 g213 g214 g215 g216 g217 g218 g219 g220 g221 g222 g223 g224 g225 g226 g227 g228 g229 g230 g231 g232 g233 g234 g235 g236 g237 g238 g239 g240 g241 g242 g243 g244 g245 g246 g247 g248 g249 g250 g251 g252 g253 g254 g255 g256 g257 g258 g259 g260 g261 g262 g263 g264 g265 g266 g267 g268 g269 g270 g271 g272 g273 g274 g275 g276 : Value) :
    Code.wp Try.prog (tailAt 3 (Try.f4.body.getD .skip)) (bodyPost Try.prog Try.f4 fun e w' => e = .returned (.bool true) ∧ Below w.heap.size w w') ⟨#[.slice a0 n0 c0, .slice a1 n1 c1, .slice a2 n2 c2, .int .i64 id, .int .u64 gen, .int .i64 tp, .int .i64 ts, .int .i32 t, .int .i64 lane, .slice a9 m c9, g10, g11, g12, g13, g14, g15, g16, g17, g18, g19, g20, g21, g22, g23, g24, g25, g26, g27, g28, g29, g30, g31, g32, g33, g34, g35, g36, g37, g38, g39, g40, g41, g42, g43, g44, g45, g46, g47, g48, g49, g50, g51, g52, g53, g54, g55, g56, g57, g58, g59, g60, g61, g62, g63, g64, g65, g66, g67, g68, g69, g70, g71, g72, g73, g74, g75, g76, g77, g78, g79, g80, g81, g82, g83, g84, g85, g86, g87, g88, g89, g90, g91, g92, g93, g94, g95, g96, g97, g98, g99, g100, g101, g102, g103, g104, g105, g106, g107, g108, g109, g110, g111, g112, g113, g114, g115, g116, g117, g118, g119, g120, g121, g122, g123, g124, g125, g126, g127, g128, g129, g130, g131, g132, g133, g134, g135, g136, g137, g138, g139, g140, g141, g142, g143, g144, g145, g146, g147, g148, g149, g150, g151, g152, g153, g154, g155, g156, g157, g158, g159, g160, g161, g162, g163, g164, g165, g166, g167, g168, g169, g170, g171, g172, g173, g174, g175, g176, g177, g178, g179, g180, g181, g182, g183, g184, g185, g186, g187, g188, g189, g190, g191, g192, g193, g194, g195, g196, g197, g198, g199, g200, g201, g202, g203, g204, g205, g206, g207, g208, g209, g210, g211, g212, g213, g214, g215, g216, g217, g218, g219, g220, g221, g222, g223, g224, g225, g226, g227, g228, g229, g230, g231, g232, g233, g234, g235, g236, g237, g238, g239, g240, g241, g242, g243, g244, g245, g246, g247, g248, g249, g250, g251, g252, g253, g254, g255, g256, g257, g258, g259, g260, g261, g262, g263, g264, g265, g266, g267, g268, g269, g270, g271, g272, g273, g274, g275, g276], []⟩ w := by
  show Code.wp Try.prog (.seq (headOf (tailAt 3 (Try.f4.body.getD .skip))) (tailAt 4 (Try.f4.body.getD .skip))) _ _ _
  conv => arg 2; arg 1; whnf
  by_cases e1 : (1048576 : Int) < 8 * n0 + 8 * n1 + 4 * n2 + 8 * m
  · go_wp2_with fail
    go_ret
    exact ⟨rfl, Below.refl _ _⟩
  · go_wp2_with fail
    exact f4_S4 w a0 a1 a2 a9 n0 n1 n2 m c0 c1 c2 c9 P S T sn id gen tp ts t lane h0 h1 h2 hm r0 r1 r2 r9 _ _ _ _ _ _ _ _ _ _ _ _ _ _ _ _ _ _ _ _ _ _ _ _ _ _ _ _ _ _ _ _ _ _ _ _ _ _ _ _ _ _ _ _ _ _ _ _ _ _ _ _ _ _ _ _ _ _ _ _ _ _ _ _ _ _ _ _ _ _ _ _ _ _ _ _ _ _ _ _ _ _ _ _ _ _ _ _ _ _ _ _ _ _ _ _ _ _ _ _ _ _ _ _ _ _ _ _ _ _ _ _ _ _ _ _ _ _ _ _ _ _ _ _ _ _ _ _ _ _ _ _ _ _ _ _ _ _ _ _ _ _ _ _ _ _ _ _ _ _ _ _ _ _ _ _ _ _ _ _ _ _ _ _ _ _ _ _ _ _ _ _ _ _ _ _ _ _ _ _ _ _ _ _ _ _ _ _ _ _ _ _ _ _ _ _ _ _ _ _ _ _ _ _ _ _ _ _ _ _ _ _ _ _ _ _ _ _ _ _ _ _ _ _ _ _ _ _ _ _ _ _ _ _ _ _ _ _ _ _ _ _ _ _ _ _ _ _ _ _ _ _ _ _ _ _ _ _ _ _ _ _ _ _ _ _ _

set_option maxHeartbeats 4000000 in
set_option maxRecDepth 100000 in
theorem f4_S2 (w : World) (a0 a1 a2 a9 : Option Addr) (n0 n1 n2 m c0 c1 c2 c9 : Nat) (P S T sn : Nat → Int) (id gen tp ts t lane : Int) 
    (r0 : Rd .i64 w.heap.size w a0 n0 P) (r1 : Rd .i64 w.heap.size w a1 n1 S) (r2 : Rd .i32 w.heap.size w a2 n2 T) (r9 : Rd .u64 w.heap.size w a9 m sn)
    (g10 g11 g12 g13 g14 g15 g16 g17 g18 g19 g20 g21 g22 g23 g24 g25 g26 g27 g28 g29 g30 g31 g32 g33 g34 g35 g36 g37 g38 g39 g40 g41 g42 g43 g44 g45 g46 g47 g48 g49 g50 g51 g52 g53 g54 g55 g56 g57 g58 g59 g60 g61 g62 g63 g64 g65 g66 g67 g68 g69 g70 g71 g72 g73 g74 g75 g76 g77 g78 g79 g80 g81 g82 g83 g84 g85 g86 g87 g88 g89 g90 g91 g92 g93 g94 g95 g96 g97 g98 g99 g100 g101 g102 g103 g104 g105 g106 g107 g108 g109 g110 g111 g112 g113 g114 g115 g116 g117 g118 g119 g120 g121 g122 g123 g124 g125 g126 g127 g128 g129 g130 g131 g132 g133 g134 g135 g136 g137 g138 g139 g140 g141 g142 g143 g144 g145 g146 g147 g148 g149 g150 g151 g152 g153 g154 g155 g156 g157 g158 g159 g160 g161 g162 g163 g164 g165 g166 g167 g168 g169 g170 g171 g172 g173 g174 g175 g176 g177 g178 g179 g180 g181 g182 g183 g184 g185 g186 g187 g188 g189 g190 g191 g192 g193 g194 g195 g196 g197 g198 g199 g200 g201 g202 g203 g204 g205 g206 g207 g208 g209 g210 g211 g212 g213 g214 g215 g216 g217 g218 g219 g220 g221 g222 g223 g224 g225 g226 g227 g228 g229 g230 g231 g232 g233 g234 g235 g236 g237 g238 g239 g240 g241 g242 g243 g244 g245 g246 g247 g248 g249 g250 g251 g252 g253 g254 g255 g256 g257 g258 g259 g260 g261 g262 g263 g264 g265 g266 g267 g268 g269 g270 g271 g272 g273 g274 g275 g276 : Value) :
    Code.wp Try.prog (tailAt 2 (Try.f4.body.getD .skip)) (bodyPost Try.prog Try.f4 fun e w' => e = .returned (.bool true) ∧ Below w.heap.size w w') ⟨#[.slice a0 n0 c0, .slice a1 n1 c1, .slice a2 n2 c2, .int .i64 id, .int .u64 gen, .int .i64 tp, .int .i64 ts, .int .i32 t, .int .i64 lane, .slice a9 m c9, g10, g11, g12, g13, g14, g15, g16, g17, g18, g19, g20, g21, g22, g23, g24, g25, g26, g27, g28, g29, g30, g31, g32, g33, g34, g35, g36, g37, g38, g39, g40, g41, g42, g43, g44, g45, g46, g47, g48, g49, g50, g51, g52, g53, g54, g55, g56, g57, g58, g59, g60, g61, g62, g63, g64, g65, g66, g67, g68, g69, g70, g71, g72, g73, g74, g75, g76, g77, g78, g79, g80, g81, g82, g83, g84, g85, g86, g87, g88, g89, g90, g91, g92, g93, g94, g95, g96, g97, g98, g99, g100, g101, g102, g103, g104, g105, g106, g107, g108, g109, g110, g111, g112, g113, g114, g115, g116, g117, g118, g119, g120, g121, g122, g123, g124, g125, g126, g127, g128, g129, g130, g131, g132, g133, g134, g135, g136, g137, g138, g139, g140, g141, g142, g143, g144, g145, g146, g147, g148, g149, g150, g151, g152, g153, g154, g155, g156, g157, g158, g159, g160, g161, g162, g163, g164, g165, g166, g167, g168, g169, g170, g171, g172, g173, g174, g175, g176, g177, g178, g179, g180, g181, g182, g183, g184, g185, g186, g187, g188, g189, g190, g191, g192, g193, g194, g195, g196, g197, g198, g199, g200, g201, g202, g203, g204, g205, g206, g207, g208, g209, g210, g211, g212, g213, g214, g215, g216, g217, g218, g219, g220, g221, g222, g223, g224, g225, g226, g227, g228, g229, g230, g231, g232, g233, g234, g235, g236, g237, g238, g239, g240, g241, g242, g243, g244, g245, g246, g247, g248, g249, g250, g251, g252, g253, g254, g255, g256, g257, g258, g259, g260, g261, g262, g263, g264, g265, g266, g267, g268, g269, g270, g271, g272, g273, g274, g275, g276], []⟩ w := by
  show Code.wp Try.prog (.seq (headOf (tailAt 2 (Try.f4.body.getD .skip))) (tailAt 3 (Try.f4.body.getD .skip))) _ _ _
  conv => arg 2; arg 1; whnf
  by_cases e0 : (65536 : Int) < n0
  · go_wp2_with fail
    go_ret
    exact ⟨rfl, Below.refl _ _⟩
  · by_cases e1 : (65536 : Int) < n1
    · go_wp2_with fail
      go_ret
      exact ⟨rfl, Below.refl _ _⟩
    · by_cases e2 : (65536 : Int) < n2
      · go_wp2_with fail
        go_ret
        exact ⟨rfl, Below.refl _ _⟩
      · by_cases e3 : (65536 : Int) < m
        · go_wp2_with fail
          go_ret
          exact ⟨rfl, Below.refl _ _⟩
        · go_wp2_with fail
          exact f4_S3 w a0 a1 a2 a9 n0 n1 n2 m c0 c1 c2 c9 P S T sn id gen tp ts t lane (by omega) (by omega) (by omega) (by omega) r0 r1 r2 r9 _ _ _ _ _ _ _ _ _ _ _ _ _ _ _ _ _ _ _ _ _ _ _ _ _ _ _ _ _ _ _ _ _ _ _ _ _ _ _ _ _ _ _ _ _ _ _ _ _ _ _ _ _ _ _ _ _ _ _ _ _ _ _ _ _ _ _ _ _ _ _ _ _ _ _ _ _ _ _ _ _ _ _ _ _ _ _ _ _ _ _ _ _ _ _ _ _ _ _ _ _ _ _ _ _ _ _ _ _ _ _ _ _ _ _ _ _ _ _ _ _ _ _ _ _ _ _ _ _ _ _ _ _ _ _ _ _ _ _ _ _ _ _ _ _ _ _ _ _ _ _ _ _ _ _ _ _ _ _ _ _ _ _ _ _ _ _ _ _ _ _ _ _ _ _ _ _ _ _ _ _ _ _ _ _ _ _ _ _ _ _ _ _ _ _ _ _ _ _ _ _ _ _ _ _ _ _ _ _ _ _ _ _ _ _ _ _ _ _ _ _ _ _ _ _ _ _ _ _ _ _ _ _ _ _ _ _ _ _ _ _ _ _ _ _ _ _ _ _ _ _ _ _ _ _ _ _ _ _ _ _ _ _ _ _ _ _

def SomeBool (e : Ending) : Prop := ∃ b, e = .returned (.bool b)

set_option maxHeartbeats 4000000 in
set_option maxRecDepth 100000 in
theorem f4_bytes (a0 a1 a2 a9 : Option Addr) (n0 n1 n2 m c0 c1 c2 c9 : Nat) (id gen tp ts t lane : Int) (w : World) :
    Calls Try.prog 9 #[.slice a0 n0 c0, .slice a1 n1 c1, .slice a2 n2 c2, .int .i64 id, .int .u64 gen, .int .i64 tp, .int .i64 ts, .int .i32 t, .int .i64 lane, .slice a9 m c9] w fun e w' => SomeBool e ∧ w = w' := by
  by_cases t0 : (1048576 : Int) < n0
  · go_enter Try.func9, Try.ntmps9
    go_wp2
    go_ret
    exact ⟨⟨_, rfl⟩, rfl⟩
  · by_cases t1 : (1048576 : Int) < n1
    · go_enter Try.func9, Try.ntmps9
      go_wp2
      go_ret
      exact ⟨⟨_, rfl⟩, rfl⟩
    · by_cases t2 : (1048576 : Int) < n0 + n1
      · go_enter Try.func9, Try.ntmps9
        go_wp2
        go_ret
        exact ⟨⟨_, rfl⟩, rfl⟩
      · by_cases t3 : (1048576 : Int) < n2
        · go_enter Try.func9, Try.ntmps9
          go_wp2
          go_ret
          exact ⟨⟨_, rfl⟩, rfl⟩
        · by_cases t4 : (1048576 : Int) < n0 + n1 + n2
          · go_enter Try.func9, Try.ntmps9
            go_wp2
            go_ret
            exact ⟨⟨_, rfl⟩, rfl⟩
          · by_cases t5 : (1048576 : Int) < m
            · go_enter Try.func9, Try.ntmps9
              go_wp2
              go_ret
              exact ⟨⟨_, rfl⟩, rfl⟩
            · by_cases t6 : (1048576 : Int) < n0 + n1 + n2 + m
              · go_enter Try.func9, Try.ntmps9
                go_wp2
                go_ret
                exact ⟨⟨_, rfl⟩, rfl⟩
              · go_enter Try.func9, Try.ntmps9
                go_wp2
                go_ret
                exact ⟨⟨_, rfl⟩, rfl⟩

set_option maxHeartbeats 4000000 in
set_option maxRecDepth 100000 in
theorem f4_S1 (w : World) (a0 a1 a2 a9 : Option Addr) (n0 n1 n2 m c0 c1 c2 c9 : Nat) (P S T sn : Nat → Int) (id gen tp ts t lane : Int) 
    (r0 : Rd .i64 w.heap.size w a0 n0 P) (r1 : Rd .i64 w.heap.size w a1 n1 S) (r2 : Rd .i32 w.heap.size w a2 n2 T) (r9 : Rd .u64 w.heap.size w a9 m sn)
    (g10 g11 g12 g13 g14 g15 g16 g17 g18 g19 g20 g21 g22 g23 g24 g25 g26 g27 g28 g29 g30 g31 g32 g33 g34 g35 g36 g37 g38 g39 g40 g41 g42 g43 g44 g45 g46 g47 g48 g49 g50 g51 g52 g53 g54 g55 g56 g57 g58 g59 g60 g61 g62 g63 g64 g65 g66 g67 g68 g69 g70 g71 g72 g73 g74 g75 g76 g77 g78 g79 g80 g81 g82 g83 g84 g85 g86 g87 g88 g89 g90 g91 g92 g93 g94 g95 g96 g97 g98 g99 g100 g101 g102 g103 g104 g105 g106 g107 g108 g109 g110 g111 g112 g113 g114 g115 g116 g117 g118 g119 g120 g121 g122 g123 g124 g125 g126 g127 g128 g129 g130 g131 g132 g133 g134 g135 g136 g137 g138 g139 g140 g141 g142 g143 g144 g145 g146 g147 g148 g149 g150 g151 g152 g153 g154 g155 g156 g157 g158 g159 g160 g161 g162 g163 g164 g165 g166 g167 g168 g169 g170 g171 g172 g173 g174 g175 g176 g177 g178 g179 g180 g181 g182 g183 g184 g185 g186 g187 g188 g189 g190 g191 g192 g193 g194 g195 g196 g197 g198 g199 g200 g201 g202 g203 g204 g205 g206 g207 g208 g209 g210 g211 g212 g213 g214 g215 g216 g217 g218 g219 g220 g221 g222 g223 g224 g225 g226 g227 g228 g229 g230 g231 g232 g233 g234 g235 g236 g237 g238 g239 g240 g241 g242 g243 g244 g245 g246 g247 g248 g249 g250 g251 g252 g253 g254 g255 g256 g257 g258 g259 g260 g261 g262 g263 g264 g265 g266 g267 g268 g269 g270 g271 g272 g273 g274 g275 g276 : Value) :
    Code.wp Try.prog (tailAt 1 (Try.f4.body.getD .skip)) (bodyPost Try.prog Try.f4 fun e w' => e = .returned (.bool true) ∧ Below w.heap.size w w') ⟨#[.slice a0 n0 c0, .slice a1 n1 c1, .slice a2 n2 c2, .int .i64 id, .int .u64 gen, .int .i64 tp, .int .i64 ts, .int .i32 t, .int .i64 lane, .slice a9 m c9, g10, g11, g12, g13, g14, g15, g16, g17, g18, g19, g20, g21, g22, g23, g24, g25, g26, g27, g28, g29, g30, g31, g32, g33, g34, g35, g36, g37, g38, g39, g40, g41, g42, g43, g44, g45, g46, g47, g48, g49, g50, g51, g52, g53, g54, g55, g56, g57, g58, g59, g60, g61, g62, g63, g64, g65, g66, g67, g68, g69, g70, g71, g72, g73, g74, g75, g76, g77, g78, g79, g80, g81, g82, g83, g84, g85, g86, g87, g88, g89, g90, g91, g92, g93, g94, g95, g96, g97, g98, g99, g100, g101, g102, g103, g104, g105, g106, g107, g108, g109, g110, g111, g112, g113, g114, g115, g116, g117, g118, g119, g120, g121, g122, g123, g124, g125, g126, g127, g128, g129, g130, g131, g132, g133, g134, g135, g136, g137, g138, g139, g140, g141, g142, g143, g144, g145, g146, g147, g148, g149, g150, g151, g152, g153, g154, g155, g156, g157, g158, g159, g160, g161, g162, g163, g164, g165, g166, g167, g168, g169, g170, g171, g172, g173, g174, g175, g176, g177, g178, g179, g180, g181, g182, g183, g184, g185, g186, g187, g188, g189, g190, g191, g192, g193, g194, g195, g196, g197, g198, g199, g200, g201, g202, g203, g204, g205, g206, g207, g208, g209, g210, g211, g212, g213, g214, g215, g216, g217, g218, g219, g220, g221, g222, g223, g224, g225, g226, g227, g228, g229, g230, g231, g232, g233, g234, g235, g236, g237, g238, g239, g240, g241, g242, g243, g244, g245, g246, g247, g248, g249, g250, g251, g252, g253, g254, g255, g256, g257, g258, g259, g260, g261, g262, g263, g264, g265, g266, g267, g268, g269, g270, g271, g272, g273, g274, g275, g276], []⟩ w := by
  show Code.wp Try.prog (.seq (headOf (tailAt 1 (Try.f4.body.getD .skip))) (tailAt 2 (Try.f4.body.getD .skip))) _ _ _
  conv => arg 2; arg 1; whnf
  go_wp2_with fail
  refine (f4_bytes a0 a1 a2 a9 n0 n1 n2 m c0 c1 c2 c9 id gen tp ts t lane _).mono ?_
  rintro e w1 ⟨⟨b, rfl⟩, rfl⟩
  cases b with
  | false =>
    go_wp2_with fail
    go_ret
    exact ⟨rfl, Below.refl _ _⟩
  | true =>
    go_wp2_with fail
    exact f4_S2 w a0 a1 a2 a9 n0 n1 n2 m c0 c1 c2 c9 P S T sn id gen tp ts t lane r0 r1 r2 r9 _ _ _ _ _ _ _ _ _ _ _ _ _ _ _ _ _ _ _ _ _ _ _ _ _ _ _ _ _ _ _ _ _ _ _ _ _ _ _ _ _ _ _ _ _ _ _ _ _ _ _ _ _ _ _ _ _ _ _ _ _ _ _ _ _ _ _ _ _ _ _ _ _ _ _ _ _ _ _ _ _ _ _ _ _ _ _ _ _ _ _ _ _ _ _ _ _ _ _ _ _ _ _ _ _ _ _ _ _ _ _ _ _ _ _ _ _ _ _ _ _ _ _ _ _ _ _ _ _ _ _ _ _ _ _ _ _ _ _ _ _ _ _ _ _ _ _ _ _ _ _ _ _ _ _ _ _ _ _ _ _ _ _ _ _ _ _ _ _ _ _ _ _ _ _ _ _ _ _ _ _ _ _ _ _ _ _ _ _ _ _ _ _ _ _ _ _ _ _ _ _ _ _ _ _ _ _ _ _ _ _ _ _ _ _ _ _ _ _ _ _ _ _ _ _ _ _ _ _ _ _ _ _ _ _ _ _ _ _ _ _ _ _ _ _ _ _ _ _ _ _ _ _ _ _ _ _ _ _ _ _ _ _ _ _ _ _

set_option maxHeartbeats 4000000 in
set_option maxRecDepth 100000 in
theorem f4_all (w : World) (a0 a1 a2 a9 : Option Addr) (n0 n1 n2 m c0 c1 c2 c9 : Nat) (P S T sn : Nat → Int) (id gen tp ts t lane : Int) 
    (r0 : Rd .i64 w.heap.size w a0 n0 P) (r1 : Rd .i64 w.heap.size w a1 n1 S) (r2 : Rd .i32 w.heap.size w a2 n2 T) (r9 : Rd .u64 w.heap.size w a9 m sn)
    :
    Calls Try.prog 4 #[.slice a0 n0 c0, .slice a1 n1 c1, .slice a2 n2 c2, .int .i64 id, .int .u64 gen, .int .i64 tp, .int .i64 ts, .int .i32 t, .int .i64 lane, .slice a9 m c9] w fun e w' => e = .returned (.bool true) ∧ Below w.heap.size w w' := by
  refine calls_of_wp (c := (Try.f4.body.getD .skip)) Try.func4 rfl ?_
  simp only [Try.ntmps4, List.size_toArray, List.length_cons, List.length_nil, Nat.reduceAdd, Nat.reduceSub, Array.replicate_succ,
     Array.replicate_zero, List.push_toArray, List.append_toArray, List.nil_append, List.cons_append]
  show Code.wp Try.prog (.seq (headOf (Try.f4.body.getD .skip)) (tailAt 1 (Try.f4.body.getD .skip))) _ _ _
  conv => arg 2; arg 1; whnf
  go_wp2_with fail
  exact f4_S1 w a0 a1 a2 a9 n0 n1 n2 m c0 c1 c2 c9 P S T sn id gen tp ts t lane r0 r1 r2 r9 _ _ _ _ _ _ _ _ _ _ _ _ _ _ _ _ _ _ _ _ _ _ _ _ _ _ _ _ _ _ _ _ _ _ _ _ _ _ _ _ _ _ _ _ _ _ _ _ _ _ _ _ _ _ _ _ _ _ _ _ _ _ _ _ _ _ _ _ _ _ _ _ _ _ _ _ _ _ _ _ _ _ _ _ _ _ _ _ _ _ _ _ _ _ _ _ _ _ _ _ _ _ _ _ _ _ _ _ _ _ _ _ _ _ _ _ _ _ _ _ _ _ _ _ _ _ _ _ _ _ _ _ _ _ _ _ _ _ _ _ _ _ _ _ _ _ _ _ _ _ _ _ _ _ _ _ _ _ _ _ _ _ _ _ _ _ _ _ _ _ _ _ _ _ _ _ _ _ _ _ _ _ _ _ _ _ _ _ _ _ _ _ _ _ _ _ _ _ _ _ _ _ _ _ _ _ _ _ _ _ _ _ _ _ _ _ _ _ _ _ _ _ _ _ _ _ _ _ _ _ _ _ _ _ _ _ _ _ _ _ _ _ _ _ _ _ _ _ _ _ _ _ _ _ _ _ _ _ _ _ _ _ _ _ _ _ _
end Go.Proofs.Qxb6614675a.fnTakeInMergesTrailingStart
