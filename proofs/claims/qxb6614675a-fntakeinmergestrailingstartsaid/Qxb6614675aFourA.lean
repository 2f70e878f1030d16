/- The first law's stages: from the copies on. -/
import Derived.Test.Qxb6614675aStage
namespace Go.Proofs.Qxb6614675a.fnTakeInMergesTrailingStart
open Go.RowKit
set_option linter.unusedVariables false

set_option maxHeartbeats 4000000 in
set_option maxRecDepth 100000 in
theorem f4_E (w wc : World) (a9 : Option Addr) (m c9 sb B : Nat) (sn : Nat → Int) (gen SL : Int) (hm : m ≤ 65536) (r9 : Rd .u64 B wc a9 m sn) (hmk : ∀ i, i < m → wc.cell? ⟨sb, i, none⟩ = some (.int .u64 (updI sn SL gen i))) (hb : Below w.heap.size w wc)
    (g0 g1 g2 g3 g5 g6 g7 g8 g10 g11 g12 g13 g14 g15 g16 g17 g18 g19 g20 g21 g22 g23 g24 g25 g26 g28 g29 g31 g32 g33 g34 g35 g36 g37 g38 g39 g40 g41 g42 g43 g44 g45 g46 g47 g48 g49 g50 g51 g52 g53 g54 g55 g56 g57 g58 g59 g60 g61 g62 g63 g64 g65 g66 g67 g68 g69 g70 g71 g72 g73 g74 g75 g76 g77 g78 g79 g80 g81 g82 g83 g84 g85 g86 g87 g88 g89 g90 g91 g92 g93 g94 g95 g96 g97 g98 g99 g100 g101 g102 g103 g104 g105 g106 g107 g108 g109 g110 g111 g112 g113 g114 g115 g116 g117 g118 g119 g120 g121 g122 g123 g124 g125 g126 g127 g128 g129 g130 g131 g132 g133 g134 g135 g136 g137 g138 g139 g140 g141 g142 g143 g144 g145 g146 g147 g148 g149 g150 g151 g152 g153 g154 g155 g156 g157 g158 g159 g160 g161 g162 g163 g164 g165 g166 g167 g168 g169 g170 g171 g172 g173 g174 g175 g176 g177 g178 g179 g180 g181 g182 g183 g184 g185 g186 g187 g188 g189 g190 g191 g192 g193 g194 g195 g196 g197 g198 g199 g200 g201 g202 g203 g204 g205 g206 g207 g208 g209 g210 g211 g212 g213 g214 g215 g216 g217 g218 g219 g220 g221 g222 g223 g224 g225 g226 g227 g228 g229 g230 g231 g232 g233 g234 g235 g236 g237 g238 g239 g240 g241 g242 g243 g244 g245 g246 g247 g248 g249 g250 g251 g252 g253 g254 g255 g256 g257 g258 g259 g260 g261 g262 g263 g264 g265 g266 g267 g268 g269 g270 g271 g272 g273 g274 g275 g276 : Value) :
    Code.wp Try.prog (tailAt 23 (Try.f4.body.getD .skip)) (bodyPost Try.prog Try.f4 fun e w' => e = .returned (.bool true) ∧ Below w.heap.size w w') ⟨#[g0, g1, g2, g3, .int .u64 gen, g5, g6, g7, g8, .slice a9 m c9, g10, g11, g12, g13, g14, g15, g16, g17, g18, g19, g20, g21, g22, g23, g24, g25, g26, .int .i64 SL, g28, g29, .slice (some ⟨sb, 0, none⟩) m m, g31, g32, g33, g34, g35, g36, g37, g38, g39, g40, g41, g42, g43, g44, g45, g46, g47, g48, g49, g50, g51, g52, g53, g54, g55, g56, g57, g58, g59, g60, g61, g62, g63, g64, g65, g66, g67, g68, g69, g70, g71, g72, g73, g74, g75, g76, g77, g78, g79, g80, g81, g82, g83, g84, g85, g86, g87, g88, g89, g90, g91, g92, g93, g94, g95, g96, g97, g98, g99, g100, g101, g102, g103, g104, g105, g106, g107, g108, g109, g110, g111, g112, g113, g114, g115, g116, g117, g118, g119, g120, g121, g122, g123, g124, g125, g126, g127, g128, g129, g130, g131, g132, g133, g134, g135, g136, g137, g138, g139, g140, g141, g142, g143, g144, g145, g146, g147, g148, g149, g150, g151, g152, g153, g154, g155, g156, g157, g158, g159, g160, g161, g162, g163, g164, g165, g166, g167, g168, g169, g170, g171, g172, g173, g174, g175, g176, g177, g178, g179, g180, g181, g182, g183, g184, g185, g186, g187, g188, g189, g190, g191, g192, g193, g194, g195, g196, g197, g198, g199, g200, g201, g202, g203, g204, g205, g206, g207, g208, g209, g210, g211, g212, g213, g214, g215, g216, g217, g218, g219, g220, g221, g222, g223, g224, g225, g226, g227, g228, g229, g230, g231, g232, g233, g234, g235, g236, g237, g238, g239, g240, g241, g242, g243, g244, g245, g246, g247, g248, g249, g250, g251, g252, g253, g254, g255, g256, g257, g258, g259, g260, g261, g262, g263, g264, g265, g266, g267, g268, g269, g270, g271, g272, g273, g274, g275, g276], []⟩ wc := by
  have Hmk : Hid (∀ i, i < m → wc.cell? ⟨sb, i, none⟩ = some (.int .u64 (updI sn SL gen i))) := hmk
  clear hmk
  show Code.wp Try.prog (.seq (headOf (tailAt 23 (Try.f4.body.getD .skip))) (tailAt 24 (Try.f4.body.getD .skip))) _ _ _
  conv => arg 2; arg 1; whnf
  conv => arg 2; arg 2; whnf
  go_wp2
  go_loop [40] (fun i => ∃ k : Nat, k ≤ m ∧ i = .int .i64 k) (fun i => m - (intOf i).toNat)
  case atStart => exact ⟨0, Nat.zero_le _, rfl⟩
  case round =>
    obtain ⟨k, hk, rfl⟩ := hrel
    by_cases hlt : k < m
    · obtain ⟨b9, o9, rfl, _, hc9⟩ := r9 (by omega)
      have c9' := hc9 k hlt
      have cm := Hmk.out k hlt
      clear hc9
      by_cases hS : (k : Int) = SL
      · have hS' : ((k : Int) == SL) = true := beq_iff_eq.2 hS
        have e : updI sn SL gen k = gen := by simp only [updI]; rw [if_pos hS]
        rw [e] at cm
        clear hS e
        go_wp2
        go_round
        case rel => exact ⟨k + 1, by omega, by go_num⟩
        case measure => simp [intOf]; omega
      · have hS' : ((k : Int) == SL) = false := beq_eq_false_iff_ne.2 hS
        have e : updI sn SL gen k = sn k := by simp only [updI]; rw [if_neg hS]
        rw [e] at cm
        clear hS e
        go_wp2
        go_round
        case rel => exact ⟨k + 1, by omega, by go_num⟩
        case measure => simp [intOf]; omega
    · obtain rfl : k = m := by omega
      go_wp2
      go_ret
      exact ⟨rfl, hb⟩

set_option maxHeartbeats 4000000 in
set_option maxRecDepth 100000 in
theorem f4_D (w wc : World) (b0 b1 b2 a9 : Option Addr) (n m d0 d1 d2 c9 lp dp nb lb sb : Nat) (P S T sn : Nat → Int) (id gen K M SL : Int) (hn : n ≤ 65536) (hm : m ≤ 65536)
    (L : Lay wc lp dp nb lb sb n m P S (updI T K M) (updI sn SL gen) id gen) (s0 : Rd .i64 wc.heap.size wc b0 n P) (s1 : Rd .i64 wc.heap.size wc b1 n S) (s2 : Rd .i32 wc.heap.size wc b2 n T) (r9 : Rd .u64 wc.heap.size wc a9 m sn) (hb : Below w.heap.size w wc)
    (g3 g5 g6 g7 g8 g10 g11 g12 g13 g14 g15 g16 g17 g18 g19 g20 g21 g22 g23 g24 g28 g29 g31 g33 g34 g35 g36 g37 g38 g39 g40 g41 g42 g43 g44 g45 g46 g47 g48 g49 g50 g51 g52 g53 g54 g55 g56 g57 g58 g59 g60 g61 g62 g63 g64 g65 g66 g67 g68 g69 g70 g71 g72 g73 g74 g75 g76 g77 g78 g79 g80 g81 g82 g83 g84 g85 g86 g87 g88 g89 g90 g91 g92 g93 g94 g95 g96 g97 g98 g99 g100 g101 g102 g103 g104 g105 g106 g107 g108 g109 g110 g111 g112 g113 g114 g115 g116 g117 g118 g119 g120 g121 g122 g123 g124 g125 g126 g127 g128 g129 g130 g131 g132 g133 g134 g135 g136 g137 g138 g139 g140 g141 g142 g143 g144 g145 g146 g147 g148 g149 g150 g151 g152 g153 g154 g155 g156 g157 g158 g159 g160 g161 g162 g163 g164 g165 g166 g167 g168 g169 g170 g171 g172 g173 g174 g175 g176 g177 g178 g179 g180 g181 g182 g183 g184 g185 g186 g187 g188 g189 g190 g191 g192 g193 g194 g195 g196 g197 g198 g199 g200 g201 g202 g203 g204 g205 g206 g207 g208 g209 g210 g211 g212 g213 g214 g215 g216 g217 g218 g219 g220 g221 g222 g223 g224 g225 g226 g227 g228 g229 g230 g231 g232 g233 g234 g235 g236 g237 g238 g239 g240 g241 g242 g243 g244 g245 g246 g247 g248 g249 g250 g251 g252 g253 g254 g255 g256 g257 g258 g259 g260 g261 g262 g263 g264 g265 g266 g267 g268 g269 g270 g271 g272 g273 g274 g275 g276 : Value) :
    Code.wp Try.prog (tailAt 22 (Try.f4.body.getD .skip)) (bodyPost Try.prog Try.f4 fun e w' => e = .returned (.bool true) ∧ Below w.heap.size w w') ⟨#[.slice b0 n d0, .slice b1 n d1, .slice b2 n d2, g3, .int .u64 gen, g5, g6, g7, g8, .slice a9 m c9, g10, g11, g12, g13, g14, g15, g16, g17, g18, g19, g20, g21, g22, g23, g24, .int .i64 K, .int .i32 M, .int .i64 SL, g28, g29, .slice (some ⟨sb, 0, none⟩) m m, g31, .pointer (some ⟨lp, 0, none⟩), g33, g34, g35, g36, g37, g38, g39, g40, g41, g42, g43, g44, g45, g46, g47, g48, g49, g50, g51, g52, g53, g54, g55, g56, g57, g58, g59, g60, g61, g62, g63, g64, g65, g66, g67, g68, g69, g70, g71, g72, g73, g74, g75, g76, g77, g78, g79, g80, g81, g82, g83, g84, g85, g86, g87, g88, g89, g90, g91, g92, g93, g94, g95, g96, g97, g98, g99, g100, g101, g102, g103, g104, g105, g106, g107, g108, g109, g110, g111, g112, g113, g114, g115, g116, g117, g118, g119, g120, g121, g122, g123, g124, g125, g126, g127, g128, g129, g130, g131, g132, g133, g134, g135, g136, g137, g138, g139, g140, g141, g142, g143, g144, g145, g146, g147, g148, g149, g150, g151, g152, g153, g154, g155, g156, g157, g158, g159, g160, g161, g162, g163, g164, g165, g166, g167, g168, g169, g170, g171, g172, g173, g174, g175, g176, g177, g178, g179, g180, g181, g182, g183, g184, g185, g186, g187, g188, g189, g190, g191, g192, g193, g194, g195, g196, g197, g198, g199, g200, g201, g202, g203, g204, g205, g206, g207, g208, g209, g210, g211, g212, g213, g214, g215, g216, g217, g218, g219, g220, g221, g222, g223, g224, g225, g226, g227, g228, g229, g230, g231, g232, g233, g234, g235, g236, g237, g238, g239, g240, g241, g242, g243, g244, g245, g246, g247, g248, g249, g250, g251, g252, g253, g254, g255, g256, g257, g258, g259, g260, g261, g262, g263, g264, g265, g266, g267, g268, g269, g270, g271, g272, g273, g274, g275, g276], []⟩ wc := by
  show Code.wp Try.prog (.seq (headOf (tailAt 22 (Try.f4.body.getD .skip))) (tailAt 23 (Try.f4.body.getD .skip))) _ _ _
  conv => arg 2; arg 1; whnf
  go_wp2
  go_loopw [35] (fun i wr => ∃ k : Nat, k ≤ n ∧ i = .int .i64 k ∧ Below wc.heap.size wc wr) (fun i _ => n - (intOf i).toNat)
  case atStart => exact ⟨0, Nat.zero_le _, rfl, Below.refl _ _⟩
  case round =>
    obtain ⟨k, hk, rfl, hbr⟩ := hrel
    have L' := L.below hbr
    by_cases hlt : k < n
    · obtain ⟨x0, o0, rfl, y0, hc0⟩ := s0 (by omega)
      obtain ⟨x1, o1, rfl, y1, hc1⟩ := s1 (by omega)
      obtain ⟨x2, o2, rfl, y2, hc2⟩ := s2 (by omega)
      have e0 := hc0 k hlt
      have e1 := hc1 k hlt
      have e2 := hc2 k hlt
      clear hc0 hc1 hc2
      by_cases hS : (k : Int) = K
      · have hS' : ((k : Int) == K) = true := beq_iff_eq.2 hS
        have e : updI T K M k = M := by simp only [updI]; rw [if_pos hS]
        have c2 := L'.state k hlt
        rw [e] at c2
        clear hS e
        go_wp2_with fail
        refine (lane0 lp nb lb n k (P k) (S k) M _ L'.lanes L'.lane hlt hn (L'.pc k hlt) (L'.start k hlt) c2).mono ?_
        rintro e w4 ⟨rfl, hb4⟩
        have hb4' := hbr.trans (hb4.mono hbr.size)
        have q0 := (hb4'.cell (p := ⟨x0, o0 + k, none⟩) y0).trans e0
        have q1 := (hb4'.cell (p := ⟨x1, o1 + k, none⟩) y1).trans e1
        have q2 := (hb4'.cell (p := ⟨x2, o2 + k, none⟩) y2).trans e2
        go_wp2_with fail
        go_roundw
        case rel => exact ⟨k + 1, by omega, by go_num, hb4'⟩
        case measure => simp [intOf]; omega
      · have hS' : ((k : Int) == K) = false := beq_eq_false_iff_ne.2 hS
        have e : updI T K M k = T k := by simp only [updI]; rw [if_neg hS]
        have c2 := L'.state k hlt
        rw [e] at c2
        clear hS e
        go_wp2_with fail
        refine (lane0 lp nb lb n k (P k) (S k) (T k) _ L'.lanes L'.lane hlt hn (L'.pc k hlt) (L'.start k hlt) c2).mono ?_
        rintro e w4 ⟨rfl, hb4⟩
        have hb4' := hbr.trans (hb4.mono hbr.size)
        have q0 := (hb4'.cell (p := ⟨x0, o0 + k, none⟩) y0).trans e0
        have q1 := (hb4'.cell (p := ⟨x1, o1 + k, none⟩) y1).trans e1
        have q2 := (hb4'.cell (p := ⟨x2, o2 + k, none⟩) y2).trans e2
        go_wp2_with fail
        go_roundw
        case rel => exact ⟨k + 1, by omega, by go_num, hb4'⟩
        case measure => simp [intOf]; omega
    · obtain rfl : k = n := by omega
      go_wp2_with fail
      exact f4_E w _ a9 m c9 sb wc.heap.size sn gen SL hm (r9.below hbr) L'.marks (hb.trans (hbr.mono hb.size)) _ _ _ _ _ _ _ _ _ _ _ _ _ _ _ _ _ _ _ _ _ _ _ _ _ _ _ _ _ _ _ _ _ _ _ _ _ _ _ _ _ _ _ _ _ _ _ _ _ _ _ _ _ _ _ _ _ _ _ _ _ _ _ _ _ _ _ _ _ _ _ _ _ _ _ _ _ _ _ _ _ _ _ _ _ _ _ _ _ _ _ _ _ _ _ _ _ _ _ _ _ _ _ _ _ _ _ _ _ _ _ _ _ _ _ _ _ _ _ _ _ _ _ _ _ _ _ _ _ _ _ _ _ _ _ _ _ _ _ _ _ _ _ _ _ _ _ _ _ _ _ _ _ _ _ _ _ _ _ _ _ _ _ _ _ _ _ _ _ _ _ _ _ _ _ _ _ _ _ _ _ _ _ _ _ _ _ _ _ _ _ _ _ _ _ _ _ _ _ _ _ _ _ _ _ _ _ _ _ _ _ _ _ _ _ _ _ _ _ _ _ _ _ _ _ _ _ _ _ _ _ _ _ _ _ _ _ _ _ _ _ _ _ _ _ _ _ _ _ _ _ _ _ _ _ _ _ _ _ _ _ _ _ _ _ _ _ _ _ _ _ _ _

set_option maxHeartbeats 4000000 in
set_option maxRecDepth 100000 in
theorem f4_C (w wc : World) (b0 b1 b2 a9 : Option Addr) (n m d0 d1 d2 c9 sb : Nat) (P S T sn : Nat → Int) (id gen tp ts t lane K M SL : Int) (hn : n ≤ 65536) (hm : m ≤ 65536) (i0 : 0 ≤ id) (i1 : id ≤ 1)
    (hplan : Plan P S T n m tp ts t lane id K M SL) (hR : RowTo .u64 sb wc m m sn) (s0 : Rd .i64 sb wc b0 n P) (s1 : Rd .i64 sb wc b1 n S) (s2 : Rd .i32 sb wc b2 n T) (r9 : Rd .u64 sb wc a9 m sn) (hb : Below w.heap.size w wc) (hsb : w.heap.size ≤ sb)
    (g10 g11 g12 g13 g14 g15 g16 g17 g18 g19 g20 g21 g22 g23 g24 g28 g29 g31 g32 g33 g34 g35 g36 g37 g38 g39 g40 g41 g42 g43 g44 g45 g46 g47 g48 g49 g50 g51 g52 g53 g54 g55 g56 g57 g58 g59 g60 g61 g62 g63 g64 g65 g66 g67 g68 g69 g70 g71 g72 g73 g74 g75 g76 g77 g78 g79 g80 g81 g82 g83 g84 g85 g86 g87 g88 g89 g90 g91 g92 g93 g94 g95 g96 g97 g98 g99 g100 g101 g102 g103 g104 g105 g106 g107 g108 g109 g110 g111 g112 g113 g114 g115 g116 g117 g118 g119 g120 g121 g122 g123 g124 g125 g126 g127 g128 g129 g130 g131 g132 g133 g134 g135 g136 g137 g138 g139 g140 g141 g142 g143 g144 g145 g146 g147 g148 g149 g150 g151 g152 g153 g154 g155 g156 g157 g158 g159 g160 g161 g162 g163 g164 g165 g166 g167 g168 g169 g170 g171 g172 g173 g174 g175 g176 g177 g178 g179 g180 g181 g182 g183 g184 g185 g186 g187 g188 g189 g190 g191 g192 g193 g194 g195 g196 g197 g198 g199 g200 g201 g202 g203 g204 g205 g206 g207 g208 g209 g210 g211 g212 g213 g214 g215 g216 g217 g218 g219 g220 g221 g222 g223 g224 g225 g226 g227 g228 g229 g230 g231 g232 g233 g234 g235 g236 g237 g238 g239 g240 g241 g242 g243 g244 g245 g246 g247 g248 g249 g250 g251 g252 g253 g254 g255 g256 g257 g258 g259 g260 g261 g262 g263 g264 g265 g266 g267 g268 g269 g270 g271 g272 g273 g274 g275 g276 : Value) :
    Code.wp Try.prog (tailAt 17 (Try.f4.body.getD .skip)) (bodyPost Try.prog Try.f4 fun e w' => e = .returned (.bool true) ∧ Below w.heap.size w w') ⟨#[.slice b0 n d0, .slice b1 n d1, .slice b2 n d2, .int .i64 id, .int .u64 gen, .int .i64 tp, .int .i64 ts, .int .i32 t, .int .i64 lane, .slice a9 m c9, g10, g11, g12, g13, g14, g15, g16, g17, g18, g19, g20, g21, g22, g23, g24, .int .i64 K, .int .i32 M, .int .i64 SL, g28, g29, .slice (some ⟨sb, 0, none⟩) m m, g31, g32, g33, g34, g35, g36, g37, g38, g39, g40, g41, g42, g43, g44, g45, g46, g47, g48, g49, g50, g51, g52, g53, g54, g55, g56, g57, g58, g59, g60, g61, g62, g63, g64, g65, g66, g67, g68, g69, g70, g71, g72, g73, g74, g75, g76, g77, g78, g79, g80, g81, g82, g83, g84, g85, g86, g87, g88, g89, g90, g91, g92, g93, g94, g95, g96, g97, g98, g99, g100, g101, g102, g103, g104, g105, g106, g107, g108, g109, g110, g111, g112, g113, g114, g115, g116, g117, g118, g119, g120, g121, g122, g123, g124, g125, g126, g127, g128, g129, g130, g131, g132, g133, g134, g135, g136, g137, g138, g139, g140, g141, g142, g143, g144, g145, g146, g147, g148, g149, g150, g151, g152, g153, g154, g155, g156, g157, g158, g159, g160, g161, g162, g163, g164, g165, g166, g167, g168, g169, g170, g171, g172, g173, g174, g175, g176, g177, g178, g179, g180, g181, g182, g183, g184, g185, g186, g187, g188, g189, g190, g191, g192, g193, g194, g195, g196, g197, g198, g199, g200, g201, g202, g203, g204, g205, g206, g207, g208, g209, g210, g211, g212, g213, g214, g215, g216, g217, g218, g219, g220, g221, g222, g223, g224, g225, g226, g227, g228, g229, g230, g231, g232, g233, g234, g235, g236, g237, g238, g239, g240, g241, g242, g243, g244, g245, g246, g247, g248, g249, g250, g251, g252, g253, g254, g255, g256, g257, g258, g259, g260, g261, g262, g263, g264, g265, g266, g267, g268, g269, g270, g271, g272, g273, g274, g275, g276], []⟩ wc := by
  show Code.wp Try.prog (.seq (headOf (tailAt 17 (Try.f4.body.getD .skip))) (.seq (headOf (tailAt 18 (Try.f4.body.getD .skip))) (.seq (headOf (tailAt 19 (Try.f4.body.getD .skip))) (.seq (headOf (tailAt 20 (Try.f4.body.getD .skip))) (.seq (headOf (tailAt 21 (Try.f4.body.getD .skip))) (tailAt 22 (Try.f4.body.getD .skip))))))) _ _ _
  conv => arg 2; arg 1; whnf
  conv => arg 2; arg 2; arg 1; whnf
  conv => arg 2; arg 2; arg 2; arg 1; whnf
  conv => arg 2; arg 2; arg 2; arg 2; arg 1; whnf
  conv => arg 2; arg 2; arg 2; arg 2; arg 2; arg 1; whnf
  have hlt := hR.lt
  go_wp2_with fail
  refine (newList b0 b1 b2 d0 d1 d2 n P S T id gen _ hn (s0.mono (Nat.le_of_lt hlt)) (s1.mono (Nat.le_of_lt hlt)) (s2.mono (Nat.le_of_lt hlt))).mono ?_
  rintro e w1 ⟨rfl, hLL, hbl1, hsz1⟩
  have Hsz1 : Hid (w1.heap.size = wc.heap.size + 3) := hsz1
  clear hsz1
  go_wp2_with fail
  refine (newDfa (some ⟨sb, 0, none⟩) m m _).mono ?_
  rintro e w2 ⟨rfl, hd, hbl2, hsz2⟩
  have L := lay_of hR hLL hbl1 Hsz1.out hd hbl2 hsz2
  clear hsz2 hd
  go_wp2_with fail
  refine (ztakeIn _ _ _ _ sb n m P S T sn id gen tp ts t lane K M SL _ hn hm i0 i1 L hplan).mono ?_
  rintro e w3 ⟨rfl, L3, hbl3, -⟩
  have hbW : Below sb wc w3 := ((hbl1.mono (Nat.le_of_lt hlt)).trans (hbl2.mono (by have := hbl1.size; omega))).trans hbl3
  have hsz3 : sb ≤ w3.heap.size := Nat.le_trans (Nat.le_of_lt hlt) hbW.size
  have hb3 := hb.trans (hbW.mono hsb)
  have p1 := L3.lanes
  have p2 := L3.lane
  go_wp2_with fail
  refine (lane0Len _ _ _ n _ p1 p2).mono ?_
  rintro e w4 ⟨rfl, rfl⟩
  clear p1 p2
  go_wp2_with fail
  exact f4_D w _ b0 b1 b2 a9 n m d0 d1 d2 c9 _ _ _ _ sb P S T sn id gen K M SL hn hm L3 ((s0.below hbW).mono hsz3) ((s1.below hbW).mono hsz3) ((s2.below hbW).mono hsz3) ((r9.below hbW).mono hsz3) hb3 _ _ _ _ _ _ _ _ _ _ _ _ _ _ _ _ _ _ _ _ _ _ _ _ _ _ _ _ _ _ _ _ _ _ _ _ _ _ _ _ _ _ _ _ _ _ _ _ _ _ _ _ _ _ _ _ _ _ _ _ _ _ _ _ _ _ _ _ _ _ _ _ _ _ _ _ _ _ _ _ _ _ _ _ _ _ _ _ _ _ _ _ _ _ _ _ _ _ _ _ _ _ _ _ _ _ _ _ _ _ _ _ _ _ _ _ _ _ _ _ _ _ _ _ _ _ _ _ _ _ _ _ _ _ _ _ _ _ _ _ _ _ _ _ _ _ _ _ _ _ _ _ _ _ _ _ _ _ _ _ _ _ _ _ _ _ _ _ _ _ _ _ _ _ _ _ _ _ _ _ _ _ _ _ _ _ _ _ _ _ _ _ _ _ _ _ _ _ _ _ _ _ _ _ _ _ _ _ _ _ _ _ _ _ _ _ _ _ _ _ _ _ _ _ _ _ _ _ _ _ _ _ _ _ _ _ _ _ _ _ _ _ _ _ _ _ _ _ _ _ _ _ _ _ _ _ _ _ _ _ _ _ _ _ _ _ _

set_option maxHeartbeats 4000000 in
set_option maxRecDepth 100000 in
theorem f4_B (w wc : World) (b0 b1 b2 a9 : Option Addr) (n m d0 d1 d2 c9 : Nat) (P S T sn : Nat → Int) (id gen tp ts t lane K M SL : Int) (hn : n ≤ 65536) (hm : m ≤ 65536) (i0 : 0 ≤ id) (i1 : id ≤ 1)
    (hplan : Plan P S T n m tp ts t lane id K M SL) (s0 : Rd .i64 wc.heap.size wc b0 n P) (s1 : Rd .i64 wc.heap.size wc b1 n S) (s2 : Rd .i32 wc.heap.size wc b2 n T) (r9 : Rd .u64 wc.heap.size wc a9 m sn) (hb : Below w.heap.size w wc)
    (g10 g11 g12 g13 g14 g15 g16 g17 g18 g19 g20 g21 g22 g23 g24 g28 g29 g30 g31 g32 g33 g34 g35 g36 g37 g38 g39 g40 g41 g42 g43 g44 g45 g46 g47 g48 g49 g50 g51 g52 g53 g54 g55 g56 g57 g58 g59 g60 g61 g62 g63 g64 g65 g66 g67 g68 g69 g70 g71 g72 g73 g74 g75 g76 g77 g78 g79 g80 g81 g82 g83 g84 g85 g86 g87 g88 g89 g90 g91 g92 g93 g94 g95 g96 g97 g98 g99 g100 g101 g102 g103 g104 g105 g106 g107 g108 g109 g110 g111 g112 g113 g114 g115 g116 g117 g118 g119 g120 g121 g122 g123 g124 g125 g126 g127 g128 g129 g130 g131 g132 g133 g134 g135 g136 g137 g138 g139 g140 g141 g142 g143 g144 g145 g146 g147 g148 g149 g150 g151 g152 g153 g154 g155 g156 g157 g158 g159 g160 g161 g162 g163 g164 g165 g166 g167 g168 g169 g170 g171 g172 g173 g174 g175 g176 g177 g178 g179 g180 g181 g182 g183 g184 g185 g186 g187 g188 g189 g190 g191 g192 g193 g194 g195 g196 g197 g198 g199 g200 g201 g202 g203 g204 g205 g206 g207 g208 g209 g210 g211 g212 g213 g214 g215 g216 g217 g218 g219 g220 g221 g222 g223 g224 g225 g226 g227 g228 g229 g230 g231 g232 g233 g234 g235 g236 g237 g238 g239 g240 g241 g242 g243 g244 g245 g246 g247 g248 g249 g250 g251 g252 g253 g254 g255 g256 g257 g258 g259 g260 g261 g262 g263 g264 g265 g266 g267 g268 g269 g270 g271 g272 g273 g274 g275 g276 : Value) :
    Code.wp Try.prog (tailAt 15 (Try.f4.body.getD .skip)) (bodyPost Try.prog Try.f4 fun e w' => e = .returned (.bool true) ∧ Below w.heap.size w w') ⟨#[.slice b0 n d0, .slice b1 n d1, .slice b2 n d2, .int .i64 id, .int .u64 gen, .int .i64 tp, .int .i64 ts, .int .i32 t, .int .i64 lane, .slice a9 m c9, g10, g11, g12, g13, g14, g15, g16, g17, g18, g19, g20, g21, g22, g23, g24, .int .i64 K, .int .i32 M, .int .i64 SL, g28, g29, g30, g31, g32, g33, g34, g35, g36, g37, g38, g39, g40, g41, g42, g43, g44, g45, g46, g47, g48, g49, g50, g51, g52, g53, g54, g55, g56, g57, g58, g59, g60, g61, g62, g63, g64, g65, g66, g67, g68, g69, g70, g71, g72, g73, g74, g75, g76, g77, g78, g79, g80, g81, g82, g83, g84, g85, g86, g87, g88, g89, g90, g91, g92, g93, g94, g95, g96, g97, g98, g99, g100, g101, g102, g103, g104, g105, g106, g107, g108, g109, g110, g111, g112, g113, g114, g115, g116, g117, g118, g119, g120, g121, g122, g123, g124, g125, g126, g127, g128, g129, g130, g131, g132, g133, g134, g135, g136, g137, g138, g139, g140, g141, g142, g143, g144, g145, g146, g147, g148, g149, g150, g151, g152, g153, g154, g155, g156, g157, g158, g159, g160, g161, g162, g163, g164, g165, g166, g167, g168, g169, g170, g171, g172, g173, g174, g175, g176, g177, g178, g179, g180, g181, g182, g183, g184, g185, g186, g187, g188, g189, g190, g191, g192, g193, g194, g195, g196, g197, g198, g199, g200, g201, g202, g203, g204, g205, g206, g207, g208, g209, g210, g211, g212, g213, g214, g215, g216, g217, g218, g219, g220, g221, g222, g223, g224, g225, g226, g227, g228, g229, g230, g231, g232, g233, g234, g235, g236, g237, g238, g239, g240, g241, g242, g243, g244, g245, g246, g247, g248, g249, g250, g251, g252, g253, g254, g255, g256, g257, g258, g259, g260, g261, g262, g263, g264, g265, g266, g267, g268, g269, g270, g271, g272, g273, g274, g275, g276], []⟩ wc := by
  show Code.wp Try.prog (.seq (headOf (tailAt 15 (Try.f4.body.getD .skip))) (.seq (headOf (tailAt 16 (Try.f4.body.getD .skip))) (tailAt 17 (Try.f4.body.getD .skip)))) _ _ _
  conv => arg 2; arg 1; whnf
  conv => arg 2; arg 2; arg 1; whnf
  have hmk9 := run_make_row' (P := Try.prog) 29 28 (.int .u64 0) 8 Try.underlying29 (by kernel_rfl) rfl .i64 .i64 m (by omega) (by omega)
  go_wp2_with fail
  go_loopw [31] (fun i wr => ∃ k : Nat, k ≤ m ∧ i = .int .i64 k ∧ RowTo .u64 wc.heap.size wr m k sn ∧ Below wc.heap.size wc wr) (fun i _ => m - (intOf i).toNat)
  case atStart => exact ⟨0, Nat.zero_le _, rfl, RowTo.zero _ _ _ _ _ _, (Below.refl _ _).alloc (Nat.le_refl _) _⟩
  case round =>
    obtain ⟨k, hk, rfl, hR, hbr⟩ := hrel
    by_cases hlt : k < m
    · obtain ⟨b9, o9, rfl, y9, hc9⟩ := r9 (by omega)
      have c9' := (hbr.cell (p := ⟨b9, o9 + k, none⟩) y9).trans (hc9 k hlt)
      obtain ⟨v0, hv0⟩ := hR.there k hlt
      have hfr := hR.free k
      clear hc9
      go_wp2_with fail
      go_roundw
      case rel => exact ⟨k + 1, by omega, by go_num, hR.step hlt, hbr.setCell (Nat.le_refl _) _⟩
      case measure => simp [intOf]; omega
    · obtain rfl : k = m := by omega
      go_wp2_with fail
      exact f4_C w _ b0 b1 b2 a9 n k d0 d1 d2 c9 wc.heap.size P S T sn id gen tp ts t lane K M SL hn hm i0 i1 hplan hR (s0.below hbr) (s1.below hbr) (s2.below hbr) (r9.below hbr) (hb.trans (hbr.mono hb.size)) hb.size _ _ _ _ _ _ _ _ _ _ _ _ _ _ _ _ _ _ _ _ _ _ _ _ _ _ _ _ _ _ _ _ _ _ _ _ _ _ _ _ _ _ _ _ _ _ _ _ _ _ _ _ _ _ _ _ _ _ _ _ _ _ _ _ _ _ _ _ _ _ _ _ _ _ _ _ _ _ _ _ _ _ _ _ _ _ _ _ _ _ _ _ _ _ _ _ _ _ _ _ _ _ _ _ _ _ _ _ _ _ _ _ _ _ _ _ _ _ _ _ _ _ _ _ _ _ _ _ _ _ _ _ _ _ _ _ _ _ _ _ _ _ _ _ _ _ _ _ _ _ _ _ _ _ _ _ _ _ _ _ _ _ _ _ _ _ _ _ _ _ _ _ _ _ _ _ _ _ _ _ _ _ _ _ _ _ _ _ _ _ _ _ _ _ _ _ _ _ _ _ _ _ _ _ _ _ _ _ _ _ _ _ _ _ _ _ _ _ _ _ _ _ _ _ _ _ _ _ _ _ _ _ _ _ _ _ _ _ _ _ _ _ _ _ _ _ _ _ _ _ _ _ _ _ _ _ _ _ _ _ _ _ _

set_option maxHeartbeats 4000000 in
set_option maxRecDepth 100000 in
theorem f4_A1 (w wC : World) (b0 b1 b2 a9 : Option Addr) (n m d0 d1 d2 c9 : Nat) (P S T sn : Nat → Int) (id gen tp ts t lane K : Int) (hn : n ≤ 65536) (hm : m ≤ 65536) (i0 : 0 ≤ id) (i1 : id ≤ 1)
    (s0 : Rd .i64 wC.heap.size wC b0 n P) (s1 : Rd .i64 wC.heap.size wC b1 n S) (s2 : Rd .i32 wC.heap.size wC b2 n T) (r9 : Rd .u64 wC.heap.size wC a9 m sn) (hb : Below w.heap.size w wC) (HK : Hid ((¬ lane = 0 ∧ K = -1) ∨ (lane = 0 ∧ IsT P S n tp ts K)))
    (g10 g11 g12 g13 g14 g15 g16 g17 g18 g19 g20 g21 g22 g23 g28 g29 g30 g31 g32 g33 g34 g35 g36 g37 g38 g39 g40 g41 g42 g43 g44 g45 g46 g47 g48 g49 g50 g51 g52 g53 g54 g55 g56 g57 g58 g59 g60 g61 g62 g63 g64 g65 g66 g67 g68 g69 g70 g71 g72 g73 g74 g75 g76 g77 g78 g79 g80 g81 g82 g83 g84 g85 g86 g87 g88 g89 g90 g91 g92 g93 g94 g95 g96 g97 g98 g99 g100 g101 g102 g103 g104 g105 g106 g107 g108 g109 g110 g111 g112 g113 g114 g115 g116 g117 g118 g119 g120 g121 g122 g123 g124 g125 g126 g127 g128 g129 g130 g131 g132 g133 g134 g135 g136 g137 g138 g139 g140 g141 g142 g143 g144 g145 g146 g147 g148 g149 g150 g151 g152 g153 g154 g155 g156 g157 g158 g159 g160 g161 g162 g163 g164 g165 g166 g167 g168 g169 g170 g171 g172 g173 g174 g175 g176 g177 g178 g179 g180 g181 g182 g183 g184 g185 g186 g187 g188 g189 g190 g191 g192 g193 g194 g195 g196 g197 g198 g199 g200 g201 g202 g203 g204 g205 g206 g207 g208 g209 g210 g211 g212 g213 g214 g215 g216 g217 g218 g219 g220 g221 g222 g223 g224 g225 g226 g227 g228 g229 g230 g231 g232 g233 g234 g235 g236 g237 g238 g239 g240 g241 g242 g243 g244 g245 g246 g247 g248 g249 g250 g251 g252 g253 g254 g255 g256 g257 g258 g259 g260 g261 g262 g263 g264 g265 g266 g267 g268 g269 g270 g271 g272 g273 g274 g275 g276 : Value) :
    Code.wp Try.prog (tailAt 14 (Try.f4.body.getD .skip)) (bodyPost Try.prog Try.f4 fun e w' => e = .returned (.bool true) ∧ Below w.heap.size w w') ⟨#[.slice b0 n d0, .slice b1 n d1, .slice b2 n d2, .int .i64 id, .int .u64 gen, .int .i64 tp, .int .i64 ts, .int .i32 t, .int .i64 lane, .slice a9 m c9, g10, g11, g12, g13, g14, g15, g16, g17, g18, g19, g20, g21, g22, g23, .int .i32 0, .int .i64 K, .int .i32 0, .int .i64 (-1), g28, g29, g30, g31, g32, g33, g34, g35, g36, g37, g38, g39, g40, g41, g42, g43, g44, g45, g46, g47, g48, g49, g50, g51, g52, g53, g54, g55, g56, g57, g58, g59, g60, g61, g62, g63, g64, g65, g66, g67, g68, g69, g70, g71, g72, g73, g74, g75, g76, g77, g78, g79, g80, g81, g82, g83, g84, g85, g86, g87, g88, g89, g90, g91, g92, g93, g94, g95, g96, g97, g98, g99, g100, g101, g102, g103, g104, g105, g106, g107, g108, g109, g110, g111, g112, g113, g114, g115, g116, g117, g118, g119, g120, g121, g122, g123, g124, g125, g126, g127, g128, g129, g130, g131, g132, g133, g134, g135, g136, g137, g138, g139, g140, g141, g142, g143, g144, g145, g146, g147, g148, g149, g150, g151, g152, g153, g154, g155, g156, g157, g158, g159, g160, g161, g162, g163, g164, g165, g166, g167, g168, g169, g170, g171, g172, g173, g174, g175, g176, g177, g178, g179, g180, g181, g182, g183, g184, g185, g186, g187, g188, g189, g190, g191, g192, g193, g194, g195, g196, g197, g198, g199, g200, g201, g202, g203, g204, g205, g206, g207, g208, g209, g210, g211, g212, g213, g214, g215, g216, g217, g218, g219, g220, g221, g222, g223, g224, g225, g226, g227, g228, g229, g230, g231, g232, g233, g234, g235, g236, g237, g238, g239, g240, g241, g242, g243, g244, g245, g246, g247, g248, g249, g250, g251, g252, g253, g254, g255, g256, g257, g258, g259, g260, g261, g262, g263, g264, g265, g266, g267, g268, g269, g270, g271, g272, g273, g274, g275, g276], []⟩ wC := by
  show Code.wp Try.prog (.seq (headOf (tailAt 14 (Try.f4.body.getD .skip))) (tailAt 15 (Try.f4.body.getD .skip))) _ _ _
  conv => arg 2; arg 1; whnf
  rcases HK.out with ⟨hl, rfl⟩ | ⟨hl, ⟨rfl, hmiss⟩ | ⟨i, rfl, hH⟩⟩
  · have Hl : Hid (¬ lane = 0) := hl
    clear hl HK
    go_wp2_with fail
    exact f4_B w _ b0 b1 b2 a9 n m d0 d1 d2 c9 P S T sn id gen tp ts t lane (-1) 0 (-1) hn hm i0 i1 (Or.inl ⟨Hl.out, rfl, rfl, rfl⟩) s0 s1 s2 r9 hb _ _ _ _ _ _ _ _ _ _ _ _ _ _ _ _ _ _ _ _ _ _ _ _ _ _ _ _ _ _ _ _ _ _ _ _ _ _ _ _ _ _ _ _ _ _ _ _ _ _ _ _ _ _ _ _ _ _ _ _ _ _ _ _ _ _ _ _ _ _ _ _ _ _ _ _ _ _ _ _ _ _ _ _ _ _ _ _ _ _ _ _ _ _ _ _ _ _ _ _ _ _ _ _ _ _ _ _ _ _ _ _ _ _ _ _ _ _ _ _ _ _ _ _ _ _ _ _ _ _ _ _ _ _ _ _ _ _ _ _ _ _ _ _ _ _ _ _ _ _ _ _ _ _ _ _ _ _ _ _ _ _ _ _ _ _ _ _ _ _ _ _ _ _ _ _ _ _ _ _ _ _ _ _ _ _ _ _ _ _ _ _ _ _ _ _ _ _ _ _ _ _ _ _ _ _ _ _ _ _ _ _ _ _ _ _ _ _ _ _ _ _ _ _ _ _ _ _ _ _ _ _ _ _ _ _ _ _ _ _ _ _ _ _ _ _ _ _ _ _ _ _ _ _ _ _ _ _ _ _ _ _ _ _
  · have Hl : Hid (lane = 0) := hl
    have Hm : Hid (Miss P S n tp ts) := hmiss
    clear hl hmiss HK
    go_wp2_with fail
    exact f4_B w _ b0 b1 b2 a9 n m d0 d1 d2 c9 P S T sn id gen tp ts t lane (-1) 0 (-1) hn hm i0 i1 (Or.inr (Or.inl ⟨Hl.out, Hm.out, rfl, rfl, rfl⟩)) s0 s1 s2 r9 hb _ _ _ _ _ _ _ _ _ _ _ _ _ _ _ _ _ _ _ _ _ _ _ _ _ _ _ _ _ _ _ _ _ _ _ _ _ _ _ _ _ _ _ _ _ _ _ _ _ _ _ _ _ _ _ _ _ _ _ _ _ _ _ _ _ _ _ _ _ _ _ _ _ _ _ _ _ _ _ _ _ _ _ _ _ _ _ _ _ _ _ _ _ _ _ _ _ _ _ _ _ _ _ _ _ _ _ _ _ _ _ _ _ _ _ _ _ _ _ _ _ _ _ _ _ _ _ _ _ _ _ _ _ _ _ _ _ _ _ _ _ _ _ _ _ _ _ _ _ _ _ _ _ _ _ _ _ _ _ _ _ _ _ _ _ _ _ _ _ _ _ _ _ _ _ _ _ _ _ _ _ _ _ _ _ _ _ _ _ _ _ _ _ _ _ _ _ _ _ _ _ _ _ _ _ _ _ _ _ _ _ _ _ _ _ _ _ _ _ _ _ _ _ _ _ _ _ _ _ _ _ _ _ _ _ _ _ _ _ _ _ _ _ _ _ _ _ _ _ _ _ _ _ _ _ _ _ _ _ _ _ _ _ _
  · have hin := hH.1
    obtain ⟨x2, o2, rfl, y2, hc2⟩ := s2 (by omega)
    have ec := hc2 i hin
    have HH : Hid (Hit P S n tp ts i) := hH
    have Hl : Hid (lane = 0) := hl
    clear hc2 hH hl HK
    by_cases hM : Mergeable (T i) t
    · have HM : Hid (Mergeable (T i) t) := hM
      go_wp2_with fail
      refine (merged_yes (T i) t _ hM).mono ?_
      rintro e w5 ⟨rfl, rfl⟩
      clear hM
      generalize hM0 : mrg (T i) t = M0
      have HM0 : Hid (mrg (T i) t = M0) := hM0
      clear hM0
      by_cases m1 : M0 < 0
      · go_wp2_with fail
        go_ret
        exact ⟨rfl, hb⟩
      · by_cases m2 : 65536 < M0
        · go_wp2_with fail
          go_ret
          exact ⟨rfl, hb⟩
        · by_cases m3 : (m : Int) ≤ 2 * M0 + id
          · go_wp2_with fail
            go_ret
            exact ⟨rfl, hb⟩
          · go_wp2_with fail
            exact f4_B w _ b0 b1 (some ⟨x2, o2, none⟩) a9 n m d0 d1 d2 c9 P S T sn id gen tp ts t lane i M0 (2 * M0 + id) hn hm i0 i1 (Or.inr (Or.inr ⟨Hl.out, i, rfl, HH.out, HM.out, HM0.out.symm, by omega, by omega, by omega, rfl⟩)) s0 s1 s2 r9 hb _ _ _ _ _ _ _ _ _ _ _ _ _ _ _ _ _ _ _ _ _ _ _ _ _ _ _ _ _ _ _ _ _ _ _ _ _ _ _ _ _ _ _ _ _ _ _ _ _ _ _ _ _ _ _ _ _ _ _ _ _ _ _ _ _ _ _ _ _ _ _ _ _ _ _ _ _ _ _ _ _ _ _ _ _ _ _ _ _ _ _ _ _ _ _ _ _ _ _ _ _ _ _ _ _ _ _ _ _ _ _ _ _ _ _ _ _ _ _ _ _ _ _ _ _ _ _ _ _ _ _ _ _ _ _ _ _ _ _ _ _ _ _ _ _ _ _ _ _ _ _ _ _ _ _ _ _ _ _ _ _ _ _ _ _ _ _ _ _ _ _ _ _ _ _ _ _ _ _ _ _ _ _ _ _ _ _ _ _ _ _ _ _ _ _ _ _ _ _ _ _ _ _ _ _ _ _ _ _ _ _ _ _ _ _ _ _ _ _ _ _ _ _ _ _ _ _ _ _ _ _ _ _ _ _ _ _ _ _ _ _ _ _ _ _ _ _ _ _ _ _ _ _ _ _ _ _ _ _ _ _ _ _ _
    · go_wp2_with fail
      refine (merged_no (T i) t _ hM).mono ?_
      rintro e w5 ⟨rfl, rfl⟩
      go_wp2_with fail
      go_ret
      exact ⟨rfl, hb⟩

set_option maxHeartbeats 4000000 in
set_option maxRecDepth 100000 in
theorem f4_A (w wC : World) (b0 b1 b2 a9 : Option Addr) (n m d0 d1 d2 c9 : Nat) (P S T sn : Nat → Int) (id gen tp ts t lane : Int) (hn : n ≤ 65536) (hm : m ≤ 65536) (i0 : 0 ≤ id) (i1 : id ≤ 1)
    (s0 : Rd .i64 wC.heap.size wC b0 n P) (s1 : Rd .i64 wC.heap.size wC b1 n S) (s2 : Rd .i32 wC.heap.size wC b2 n T) (r9 : Rd .u64 wC.heap.size wC a9 m sn) (hb : Below w.heap.size w wC)
    (g10 g11 g12 g13 g14 g15 g16 g17 g18 g19 g20 g21 g22 g23 g24 g25 g26 g27 g28 g29 g30 g31 g32 g33 g34 g35 g36 g37 g38 g39 g40 g41 g42 g43 g44 g45 g46 g47 g48 g49 g50 g51 g52 g53 g54 g55 g56 g57 g58 g59 g60 g61 g62 g63 g64 g65 g66 g67 g68 g69 g70 g71 g72 g73 g74 g75 g76 g77 g78 g79 g80 g81 g82 g83 g84 g85 g86 g87 g88 g89 g90 g91 g92 g93 g94 g95 g96 g97 g98 g99 g100 g101 g102 g103 g104 g105 g106 g107 g108 g109 g110 g111 g112 g113 g114 g115 g116 g117 g118 g119 g120 g121 g122 g123 g124 g125 g126 g127 g128 g129 g130 g131 g132 g133 g134 g135 g136 g137 g138 g139 g140 g141 g142 g143 g144 g145 g146 g147 g148 g149 g150 g151 g152 g153 g154 g155 g156 g157 g158 g159 g160 g161 g162 g163 g164 g165 g166 g167 g168 g169 g170 g171 g172 g173 g174 g175 g176 g177 g178 g179 g180 g181 g182 g183 g184 g185 g186 g187 g188 g189 g190 g191 g192 g193 g194 g195 g196 g197 g198 g199 g200 g201 g202 g203 g204 g205 g206 g207 g208 g209 g210 g211 g212 g213 g214 g215 g216 g217 g218 g219 g220 g221 g222 g223 g224 g225 g226 g227 g228 g229 g230 g231 g232 g233 g234 g235 g236 g237 g238 g239 g240 g241 g242 g243 g244 g245 g246 g247 g248 g249 g250 g251 g252 g253 g254 g255 g256 g257 g258 g259 g260 g261 g262 g263 g264 g265 g266 g267 g268 g269 g270 g271 g272 g273 g274 g275 g276 : Value) :
    Code.wp Try.prog (tailAt 9 (Try.f4.body.getD .skip)) (bodyPost Try.prog Try.f4 fun e w' => e = .returned (.bool true) ∧ Below w.heap.size w w') ⟨#[.slice b0 n d0, .slice b1 n d1, .slice b2 n d2, .int .i64 id, .int .u64 gen, .int .i64 tp, .int .i64 ts, .int .i32 t, .int .i64 lane, .slice a9 m c9, g10, g11, g12, g13, g14, g15, g16, g17, g18, g19, g20, g21, g22, g23, g24, g25, g26, g27, g28, g29, g30, g31, g32, g33, g34, g35, g36, g37, g38, g39, g40, g41, g42, g43, g44, g45, g46, g47, g48, g49, g50, g51, g52, g53, g54, g55, g56, g57, g58, g59, g60, g61, g62, g63, g64, g65, g66, g67, g68, g69, g70, g71, g72, g73, g74, g75, g76, g77, g78, g79, g80, g81, g82, g83, g84, g85, g86, g87, g88, g89, g90, g91, g92, g93, g94, g95, g96, g97, g98, g99, g100, g101, g102, g103, g104, g105, g106, g107, g108, g109, g110, g111, g112, g113, g114, g115, g116, g117, g118, g119, g120, g121, g122, g123, g124, g125, g126, g127, g128, g129, g130, g131, g132, g133, g134, g135, g136, g137, g138, g139, g140, g141, g142, g143, g144, g145, g146, g147, g148, g149, g150, g151, g152, g153, g154, g155, g156, g157, g158, g159, g160, g161, g162, g163, g164, g165, g166, g167, g168, g169, g170, g171, g172, g173, g174, g175, g176, g177, g178, g179, g180, g181, g182, g183, g184, g185, g186, g187, g188, g189, g190, g191, g192, g193, g194, g195, g196, g197, g198, g199, g200, g201, g202, g203, g204, g205, g206, g207, g208, g209, g210, g211, g212, g213, g214, g215, g216, g217, g218, g219, g220, g221, g222, g223, g224, g225, g226, g227, g228, g229, g230, g231, g232, g233, g234, g235, g236, g237, g238, g239, g240, g241, g242, g243, g244, g245, g246, g247, g248, g249, g250, g251, g252, g253, g254, g255, g256, g257, g258, g259, g260, g261, g262, g263, g264, g265, g266, g267, g268, g269, g270, g271, g272, g273, g274, g275, g276], []⟩ wC := by
  show Code.wp Try.prog (.seq (headOf (tailAt 9 (Try.f4.body.getD .skip))) (.seq (headOf (tailAt 10 (Try.f4.body.getD .skip))) (.seq (headOf (tailAt 11 (Try.f4.body.getD .skip))) (.seq (headOf (tailAt 12 (Try.f4.body.getD .skip))) (.seq (headOf (tailAt 13 (Try.f4.body.getD .skip))) (tailAt 14 (Try.f4.body.getD .skip))))))) _ _ _
  conv => arg 2; arg 1; whnf
  conv => arg 2; arg 2; arg 1; whnf
  conv => arg 2; arg 2; arg 2; arg 1; whnf
  conv => arg 2; arg 2; arg 2; arg 2; arg 1; whnf
  conv => arg 2; arg 2; arg 2; arg 2; arg 2; arg 1; whnf
  go_wp2_with fail
  refine (dead _).mono ?_
  rintro e w4 ⟨rfl, rfl⟩
  by_cases hl : lane = 0
  · subst hl
    go_wp2_with fail
    refine (target b0 b1 d0 d1 n _ P S tp ts _ hn s0 s1).mono ?_
    rintro e w4 ⟨⟨K, rfl, hK⟩, rfl⟩
    have HK : Hid (IsT P S n tp ts K) := hK
    clear hK
    go_wp2_with fail
    exact f4_A1 w _ b0 b1 b2 a9 n m d0 d1 d2 c9 P S T sn id gen tp ts t 0 K hn hm i0 i1 s0 s1 s2 r9 hb (Or.inr ⟨rfl, HK.out⟩) _ _ _ _ _ _ _ _ _ _ _ _ _ _ _ _ _ _ _ _ _ _ _ _ _ _ _ _ _ _ _ _ _ _ _ _ _ _ _ _ _ _ _ _ _ _ _ _ _ _ _ _ _ _ _ _ _ _ _ _ _ _ _ _ _ _ _ _ _ _ _ _ _ _ _ _ _ _ _ _ _ _ _ _ _ _ _ _ _ _ _ _ _ _ _ _ _ _ _ _ _ _ _ _ _ _ _ _ _ _ _ _ _ _ _ _ _ _ _ _ _ _ _ _ _ _ _ _ _ _ _ _ _ _ _ _ _ _ _ _ _ _ _ _ _ _ _ _ _ _ _ _ _ _ _ _ _ _ _ _ _ _ _ _ _ _ _ _ _ _ _ _ _ _ _ _ _ _ _ _ _ _ _ _ _ _ _ _ _ _ _ _ _ _ _ _ _ _ _ _ _ _ _ _ _ _ _ _ _ _ _ _ _ _ _ _ _ _ _ _ _ _ _ _ _ _ _ _ _ _ _ _ _ _ _ _ _ _ _ _ _ _ _ _ _ _ _ _ _ _ _ _ _ _ _ _ _ _ _ _ _ _ _
  · have hl' : (lane == 0) = false := beq_eq_false_iff_ne.2 hl
    have Hl : Hid (¬ lane = 0) := hl
    clear hl
    go_wp2_with fail
    exact f4_A1 w _ b0 b1 b2 a9 n m d0 d1 d2 c9 P S T sn id gen tp ts t lane (-1) hn hm i0 i1 s0 s1 s2 r9 hb (Or.inl ⟨Hl.out, rfl⟩) _ _ _ _ _ _ _ _ _ _ _ _ _ _ _ _ _ _ _ _ _ _ _ _ _ _ _ _ _ _ _ _ _ _ _ _ _ _ _ _ _ _ _ _ _ _ _ _ _ _ _ _ _ _ _ _ _ _ _ _ _ _ _ _ _ _ _ _ _ _ _ _ _ _ _ _ _ _ _ _ _ _ _ _ _ _ _ _ _ _ _ _ _ _ _ _ _ _ _ _ _ _ _ _ _ _ _ _ _ _ _ _ _ _ _ _ _ _ _ _ _ _ _ _ _ _ _ _ _ _ _ _ _ _ _ _ _ _ _ _ _ _ _ _ _ _ _ _ _ _ _ _ _ _ _ _ _ _ _ _ _ _ _ _ _ _ _ _ _ _ _ _ _ _ _ _ _ _ _ _ _ _ _ _ _ _ _ _ _ _ _ _ _ _ _ _ _ _ _ _ _ _ _ _ _ _ _ _ _ _ _ _ _ _ _ _ _ _ _ _ _ _ _ _ _ _ _ _ _ _ _ _ _ _ _ _ _ _ _ _ _ _ _ _ _ _ _ _ _ _ _ _ _ _ _ _ _ _ _ _ _ _ _
end Go.Proofs.Qxb6614675a.fnTakeInMergesTrailingStart
