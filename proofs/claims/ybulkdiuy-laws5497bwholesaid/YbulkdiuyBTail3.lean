import Derived.Test.YbulkdiuyBTailDefs
namespace Go.Proofs.Ybulkdiuy.lawS5497BWhole
open Go.RowKit Go.Deep

set_option maxHeartbeats 3200000 in
set_option maxRecDepth 1000000 in
theorem tail3 (w : World) (now : Int) (a1 a2 a3 : Option Addr) (n1 c1 n2 c2 n3 c3 : Nat) (z1 z2 rb re : Nat → Int) (x1 x2 x3 : Option Addr) (y1 y2 y3 : Nat) (hn : n1 + n2 + n3 ≤ 1048576)
    (h1 : IsInts w a1 n1 z1) (h2 : IsInts w a2 n2 z2) (h3 : IsRes w a3 n3 rb re) (L : List Int) (W5 : World) (S : Snap w now x1 x2 x3 n1 y1 n2 y2 n3 y3 z1 z2 rb re W5)
    (c : Code) (hc : Yba.f4.body.bind (suffix 48) = some c) (u4 u5 u6 u7 u8 u10 u11 u12 u13 u14 u15 u16 u19 u20 u21 u22 u23 u26 u27 u28 u29 u30 u31 u32 u33 u34 u35 u36 u37 u38 u39 u40 u41 u42 u43 u44 u45 u46 u47 u48 u49 u50 u51 u52 u53 u54 u55 u56 u57 u58 u59 u60 u61 u62 u63 u64 u65 u66 u67 u68 u69 u70 u71 u72 u73 u74 u75 u76 u77 u78 u79 u80 u81 u82 u83 u84 u85 u86 u87 u88 u89 u90 u91 u92 u93 u94 u95 u96 u97 u98 u99 u100 u101 u102 u103 u104 u105 u106 u107 u108 u109 u110 u111 u112 u113 u114 u115 u116 u117 u118 u119 u120 u121 u122 u123 u124 u125 u126 u127 u128 u129 u130 u131 u132 u133 u134 u135 u136 u137 u138 u139 u140 u141 u142 u143 u144 u145 u146 u147 u148 u149 u150 u151 u152 u153 u154 u155 u156 u157 u158 u159 u160 u161 u162 u163 u164 u165 u166 u167 u168 u169 u170 u171 u172 u173 u174 u175 u176 u177 u178 u179 u180 u181 u182 u183 u184 u185 u186 u187 u188 u189 u190 u191 u192 u193 u194 u195 u196 u197 u198 u199 u200 u201 u202 u203 u204 u205 u206 u207 u208 u209 u210 u211 u212 u213 u214 u215 u216 u217 u218 u219 u220 u221 u222 u223 u224 u225 u226 u227 u228 u229 u230 u231 u232 u233 u234 u235 u236 u237 u238 u239 u240 u241 u242 u243 u244 u245 u246 u247 u248 u249 u250 u251 u252 u253 u254 u255 u256 u257 u258 u259 u260 u261 u262 u263 u264 u265 u266 u267 u268 u269 u270 u271 u272 u273 u274 u275 u276 u277 u278 u279 u280 u281 u282 u283 u284 u285 u286 u287 u288 u289 u290 u291 u292 u293 u294 u295 u296 u297 u298 u299 u300 u301 u302 u303 u304 u305 u306 u307 u308 u309 u310 u311 u312 u313 u314 u315 u316 u317 u318 u319 u320 u321 u322 u323 u324 u325 u326 u327 u328 u329 u330 u331 u332 u333 u334 u335 u336 u337 u338 u339 u340 u341 u342 u343 u344 u345 u346 u347 u348 u349 u350 u351 u352 u353 u354 u355 u356 u357 u358 u359 u360 u361 u362 u363 u364 u365 u366 u367 u368 u369 u370 u371 u372 u373 u374 u375 u376 u377 u378 : Value) :
    Code.wp Yba.prog c (bodyPost Yba.prog Yba.f4 (fun e w' => e = .returned (.bool true) ∧ Below w.heap.size w w')) ⟨#[.int .i64 now, .slice a1 n1 c1, .slice a2 n2 c2, .slice a3 n3 c3, u4, u5, u6, u7, u8, .pointer (some ⟨w.heap.size, 0, none⟩), u10, u11, u12, u13, u14, u15, u16, .int .i64 ((ears none L).getD 0), .bool (ears none L).isSome, u19, u20, u21, u22, u23, .bool (decide (0 < L.length)), .int .i64 ((ears none L).getD 0), u26, u27, u28, u29, u30, u31, u32, u33, u34, u35, u36, u37, u38, u39, u40, u41, u42, u43, u44, u45, u46, u47, u48, u49, u50, u51, u52, u53, u54, u55, u56, u57, u58, u59, u60, u61, u62, u63, u64, u65, u66, u67, u68, u69, u70, u71, u72, u73, u74, u75, u76, u77, u78, u79, u80, u81, u82, u83, u84, u85, u86, u87, u88, u89, u90, u91, u92, u93, u94, u95, u96, u97, u98, u99, u100, u101, u102, u103, u104, u105, u106, u107, u108, u109, u110, u111, u112, u113, u114, u115, u116, u117, u118, u119, u120, u121, u122, u123, u124, u125, u126, u127, u128, u129, u130, u131, u132, u133, u134, u135, u136, u137, u138, u139, u140, u141, u142, u143, u144, u145, u146, u147, u148, u149, u150, u151, u152, u153, u154, u155, u156, u157, u158, u159, u160, u161, u162, u163, u164, u165, u166, u167, u168, u169, u170, u171, u172, u173, u174, u175, u176, u177, u178, u179, u180, u181, u182, u183, u184, u185, u186, u187, u188, u189, u190, u191, u192, u193, u194, u195, u196, u197, u198, u199, u200, u201, u202, u203, u204, u205, u206, u207, u208, u209, u210, u211, u212, u213, u214, u215, u216, u217, u218, u219, u220, u221, u222, u223, u224, u225, u226, u227, u228, u229, u230, u231, u232, u233, u234, u235, u236, u237, u238, u239, u240, u241, u242, u243, u244, u245, u246, u247, u248, u249, u250, u251, u252, u253, u254, u255, u256, u257, u258, u259, u260, u261, u262, u263, u264, u265, u266, u267, u268, u269, u270, u271, u272, u273, u274, u275, u276, u277, u278, u279, u280, u281, u282, u283, u284, u285, u286, u287, u288, u289, u290, u291, u292, u293, u294, u295, u296, u297, u298, u299, u300, u301, u302, u303, u304, u305, u306, u307, u308, u309, u310, u311, u312, u313, u314, u315, u316, u317, u318, u319, u320, u321, u322, u323, u324, u325, u326, u327, u328, u329, u330, u331, u332, u333, u334, u335, u336, u337, u338, u339, u340, u341, u342, u343, u344, u345, u346, u347, u348, u349, u350, u351, u352, u353, u354, u355, u356, u357, u358, u359, u360, u361, u362, u363, u364, u365, u366, u367, u368, u369, u370, u371, u372, u373, u374, u375, u376, u377, u378], []⟩ W5 := by
  have hni : (n1 : Int) + n2 + n3 ≤ 1048576 := by omega
  have A1 : Hid (IsInts w a1 n1 z1) := h1
  have A2 : Hid (IsInts w a2 n2 z2) := h2
  have A3 : Hid (IsRes w a3 n3 rb re) := h3
  clear h1 h2 h3
  conv at hc => lhs; whnf
  injection hc with hc
  subst hc
  have HS : Hid (Snap w now x1 x2 x3 n1 y1 n2 y2 n3 y3 z1 z2 rb re W5) := S
  clear S
  have HOK : Hid ((ears none L).isSome = decide (0 < L.length)) := ears_some L
  go_wp2_with fail
  go_loopg [242] n1 (fun g iv wq => ∃ k : Nat, iv = .int .i64 (k : Int) ∧ k + g = n1 ∧ wq = W5)
  case atStart => exact ⟨0, rfl, by omega, rfl⟩
  case round =>
    obtain ⟨k, rfl, hkg, hwq⟩ := hrel
    subst hwq
    by_cases hk : k < n1
    · obtain ⟨b, o, ha, hc⟩ := A1.out.at (by omega)
      subst ha
      have ck := old HS.out.below (hc k hk)
      clear hc
      obtain ⟨k0, k2, k4, k7⟩ := clk_cells HS.out.clock
      obtain ⟨B, i1⟩ := HS.out.i1
      obtain ⟨g, pb, hg, hcell, hel⟩ := i1.at hk
      subst hg
      have p0 : wr.cell? ⟨pb, 0, none⟩ = some (.int .i64 k) := by unfold El1 at hel; simp [World.cell?, hel, procC]
      have p5 : wr.cell? ⟨pb, 5, none⟩ = some (.int .i64 (z1 k)) := by unfold El1 at hel; simp [World.cell?, hel, procC]
      simp only [ptr] at hcell
      have hkn : (k : Int) < (n1 : Int) := by omega
      clear hel i1 k0 k4 k7
      go_wp2_with fail
      go_roundg (gk - 1)
      case measure => omega
      case rel => exact ⟨k + 1, by go_num, by omega, rfl⟩
    · have hkn : (n1 : Int) ≤ (k : Int) := by omega
      obtain ⟨k0, k2, k4, k7⟩ := clk_cells HS.out.clock
      clear k0 k2 k7
      go_wp2_with fail
      clear hkg hk hkn k4
      obtain ⟨W6, hW6⟩ : ∃ x, x = wr := ⟨_, rfl⟩
      subst hW6
      go_loopg [276] n2 (fun g iv wq => ∃ k : Nat, iv = .int .i64 (k : Int) ∧ k + g = n2 ∧ wq = W6)
      case atStart => exact ⟨0, rfl, by omega, rfl⟩
      case round =>
        obtain ⟨k, rfl, hkg, hwq⟩ := hrel
        subst hwq
        by_cases hk : k < n2
        · obtain ⟨b, o, ha, hc⟩ := A2.out.at (by omega)
          subst ha
          have ck := old HS.out.below (hc k hk)
          clear hc
          obtain ⟨k0, k2, k4, k7⟩ := clk_cells HS.out.clock
          obtain ⟨B, i2⟩ := HS.out.i2
          obtain ⟨g, pb, hg, hcell, hel⟩ := i2.at hk
          subst hg
          have p2 : wr.cell? ⟨pb, 2, none⟩ = some (.int .i64 0) := by unfold El2 at hel; simp [World.cell?, hel, callC]
          have p3 : wr.cell? ⟨pb, 3, none⟩ = some (.int .i64 (z2 k)) := by unfold El2 at hel; simp [World.cell?, hel, callC]
          have p4 : wr.cell? ⟨pb, 4, none⟩ = some (.int .i64 k) := by unfold El2 at hel; simp [World.cell?, hel, callC]
          simp only [ptr] at hcell
          have hkn : (k : Int) < (n2 : Int) := by omega
          clear hel i2 k0 k2 k7
          go_wp2_with fail
          go_roundg (gk - 1)
          case measure => omega
          case rel => exact ⟨k + 1, by go_num, by omega, rfl⟩
        · have hkn : (n2 : Int) ≤ (k : Int) := by omega
          go_wp2_with fail
          clear hkg hk hkn
          obtain ⟨W6, hW6⟩ : ∃ x, x = wr := ⟨_, rfl⟩
          subst hW6
          go_loopg [317] n3 (fun g iv wq => ∃ k : Nat, iv = .int .i64 (k : Int) ∧ k + g = n3 ∧ Below W6.heap.size W6 wq)
          case atStart => exact ⟨0, rfl, by omega, Below.refl _ _⟩
          case round =>
            obtain ⟨k, rfl, hkg, hb⟩ := hrel
            have HB : Hid (Below W6.heap.size W6 wr) := hb
            clear hb
            by_cases hk : k < n3
            · obtain ⟨b, o, ha, hc⟩ := A3.out.at (by omega)
              subst ha
              have S6 := HS.out.later HB.out
              have ck := old S6.below (hc k hk).1
              have ck1 := old S6.below (hc k hk).2
              clear hc
              obtain ⟨k0, k2, k4, k7⟩ := clk_cells S6.clock
              obtain ⟨B, i3⟩ := S6.i3
              obtain ⟨g, pb, hg, hcell, cb, e1, e2⟩ := i3.at hk
              subst hg
              have p0 : wr.cell? ⟨pb, 0, none⟩ = some (.int .i64 k) := by simp [World.cell?, e1, procC]
              have p6 : wr.cell? ⟨pb, 6, none⟩ = some (.pointer (some ⟨cb, 0, none⟩)) := by simp [World.cell?, e1, procC, ptr]
              have c2' : wr.cell? ⟨cb, 2, none⟩ = some (.int .i64 (rb k)) := by simp [World.cell?, e2, callC]
              have c3' : wr.cell? ⟨cb, 3, none⟩ = some (.int .i64 (re k)) := by simp [World.cell?, e2, callC]
              simp only [ptr] at hcell
              have l1 := cell_lt ck
              have l2 := cell_lt k7
              have l3 := cell_lt hcell
              have l4 := cell_lt p0
              have l5 := cell_lt c2'
              have hkn : (k : Int) < (n3 : Int) := by omega
              clear e1 e2 i3 k0 k2 k4 S6
              go_wp2_with fail
              go_quiet (fail)
              go_wp2_with fail
              go_roundg (gk - 1)
              case measure => omega
              case rel => exact ⟨k + 1, by go_num, by omega, below_drewN (HB.out.alloc HB.out.size _) _⟩
            · have hkn3 : (n3 : Int) ≤ (k : Int) := by omega
              rw [HOK.out]
              go_wp2_with fail
              go_ret
              exact ⟨by simp, HS.out.below.trans (HB.out.mono HS.out.below.size)⟩

end Go.Proofs.Ybulkdiuy.lawS5497BWhole
