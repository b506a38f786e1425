import Derived.Test.YbulkdiuyBTail3
namespace Go.Proofs.Ybulkdiuy.lawS5497BWhole
open Go.RowKit Go.Deep

set_option maxHeartbeats 3200000 in
set_option maxRecDepth 1000000 in
theorem tail2 (w : World) (now : Int) (a1 a2 a3 : Option Addr) (n1 c1 n2 c2 n3 c3 : Nat) (z1 z2 rb re : Nat → Int) (x1 x2 x3 : Option Addr) (y1 y2 y3 : Nat) (hn : n1 + n2 + n3 ≤ 1048576)
    (h1 : IsInts w a1 n1 z1) (h2 : IsInts w a2 n2 z2) (h3 : IsRes w a3 n3 rb re) (W4 : World) (L : List Int) (hLl : L.length ≤ 4194304) (av : Option Addr) (cv : Nat) (W5 : World) (N : CN W4 L (.slice av L.length cv) W5) (S : Snap w now x1 x2 x3 n1 y1 n2 y2 n3 y3 z1 z2 rb re W5)
    (c : Code) (hc : Yba.f4.body.bind (suffix 39) = some c) (u4 u5 u6 u7 u8 u10 u11 u12 u13 u14 u15 u16 u20 u21 u22 u23 u25 u26 u27 u28 u29 u30 u31 u32 u33 u34 u35 u36 u37 u38 u39 u40 u41 u42 u43 u44 u45 u46 u47 u48 u49 u50 u51 u52 u53 u54 u55 u56 u57 u58 u59 u60 u61 u62 u63 u64 u65 u66 u67 u68 u69 u70 u71 u72 u73 u74 u75 u76 u77 u78 u79 u80 u81 u82 u83 u84 u85 u86 u87 u88 u89 u90 u91 u92 u93 u94 u95 u96 u97 u98 u99 u100 u101 u102 u103 u104 u105 u106 u107 u108 u109 u110 u111 u112 u113 u114 u115 u116 u117 u118 u119 u120 u121 u122 u123 u124 u125 u126 u127 u128 u129 u130 u131 u132 u133 u134 u135 u136 u137 u138 u139 u140 u141 u142 u143 u144 u145 u146 u147 u148 u149 u150 u151 u152 u153 u154 u155 u156 u157 u158 u159 u160 u161 u162 u163 u164 u165 u166 u167 u168 u169 u170 u171 u172 u173 u174 u175 u176 u177 u178 u179 u180 u181 u182 u183 u184 u185 u186 u187 u188 u189 u190 u191 u192 u193 u194 u195 u196 u197 u198 u199 u200 u201 u202 u203 u204 u205 u206 u207 u208 u209 u210 u211 u212 u213 u214 u215 u216 u217 u218 u219 u220 u221 u222 u223 u224 u225 u226 u227 u228 u229 u230 u231 u232 u233 u234 u235 u236 u237 u238 u239 u240 u241 u242 u243 u244 u245 u246 u247 u248 u249 u250 u251 u252 u253 u254 u255 u256 u257 u258 u259 u260 u261 u262 u263 u264 u265 u266 u267 u268 u269 u270 u271 u272 u273 u274 u275 u276 u277 u278 u279 u280 u281 u282 u283 u284 u285 u286 u287 u288 u289 u290 u291 u292 u293 u294 u295 u296 u297 u298 u299 u300 u301 u302 u303 u304 u305 u306 u307 u308 u309 u310 u311 u312 u313 u314 u315 u316 u317 u318 u319 u320 u321 u322 u323 u324 u325 u326 u327 u328 u329 u330 u331 u332 u333 u334 u335 u336 u337 u338 u339 u340 u341 u342 u343 u344 u345 u346 u347 u348 u349 u350 u351 u352 u353 u354 u355 u356 u357 u358 u359 u360 u361 u362 u363 u364 u365 u366 u367 u368 u369 u370 u371 u372 u373 u374 u375 u376 u377 u378 : Value) :
    Code.wp Yba.prog c (bodyPost Yba.prog Yba.f4 (fun e w' => e = .returned (.bool true) ∧ Below w.heap.size w w')) ⟨#[.int .i64 now, .slice a1 n1 c1, .slice a2 n2 c2, .slice a3 n3 c3, u4, u5, u6, u7, u8, .pointer (some ⟨w.heap.size, 0, none⟩), u10, u11, u12, u13, u14, u15, u16, .int .i64 ((ears none L).getD 0), .bool (ears none L).isSome, .slice av L.length cv, u20, u21, u22, u23, .bool (decide (0 < L.length)), u25, u26, u27, u28, u29, u30, u31, u32, u33, u34, u35, u36, u37, u38, u39, u40, u41, u42, u43, u44, u45, u46, u47, u48, u49, u50, u51, u52, u53, u54, u55, u56, u57, u58, u59, u60, u61, u62, u63, u64, u65, u66, u67, u68, u69, u70, u71, u72, u73, u74, u75, u76, u77, u78, u79, u80, u81, u82, u83, u84, u85, u86, u87, u88, u89, u90, u91, u92, u93, u94, u95, u96, u97, u98, u99, u100, u101, u102, u103, u104, u105, u106, u107, u108, u109, u110, u111, u112, u113, u114, u115, u116, u117, u118, u119, u120, u121, u122, u123, u124, u125, u126, u127, u128, u129, u130, u131, u132, u133, u134, u135, u136, u137, u138, u139, u140, u141, u142, u143, u144, u145, u146, u147, u148, u149, u150, u151, u152, u153, u154, u155, u156, u157, u158, u159, u160, u161, u162, u163, u164, u165, u166, u167, u168, u169, u170, u171, u172, u173, u174, u175, u176, u177, u178, u179, u180, u181, u182, u183, u184, u185, u186, u187, u188, u189, u190, u191, u192, u193, u194, u195, u196, u197, u198, u199, u200, u201, u202, u203, u204, u205, u206, u207, u208, u209, u210, u211, u212, u213, u214, u215, u216, u217, u218, u219, u220, u221, u222, u223, u224, u225, u226, u227, u228, u229, u230, u231, u232, u233, u234, u235, u236, u237, u238, u239, u240, u241, u242, u243, u244, u245, u246, u247, u248, u249, u250, u251, u252, u253, u254, u255, u256, u257, u258, u259, u260, u261, u262, u263, u264, u265, u266, u267, u268, u269, u270, u271, u272, u273, u274, u275, u276, u277, u278, u279, u280, u281, u282, u283, u284, u285, u286, u287, u288, u289, u290, u291, u292, u293, u294, u295, u296, u297, u298, u299, u300, u301, u302, u303, u304, u305, u306, u307, u308, u309, u310, u311, u312, u313, u314, u315, u316, u317, u318, u319, u320, u321, u322, u323, u324, u325, u326, u327, u328, u329, u330, u331, u332, u333, u334, u335, u336, u337, u338, u339, u340, u341, u342, u343, u344, u345, u346, u347, u348, u349, u350, u351, u352, u353, u354, u355, u356, u357, u358, u359, u360, u361, u362, u363, u364, u365, u366, u367, u368, u369, u370, u371, u372, u373, u374, u375, u376, u377, u378], []⟩ W5 := by
  have hni : (n1 : Int) + n2 + n3 ≤ 1048576 := by omega
  have A1 : Hid (IsInts w a1 n1 z1) := h1
  have A2 : Hid (IsInts w a2 n2 z2) := h2
  have A3 : Hid (IsRes w a3 n3 rb re) := h3
  clear h1 h2 h3
  conv at hc => lhs; whnf
  injection hc with hc
  subst hc
  have HS : Hid (Snap w now x1 x2 x3 n1 y1 n2 y2 n3 y3 z1 z2 rb re W5) := S
  have HN : Hid (CN W4 L (.slice av L.length cv) W5) := N
  clear S N
  go_wp2_with fail
  go_loopg [25, 188] L.length (fun g wv iv wq => ∃ (k : Nat) (m : Int), wv = .int .i64 m ∧ iv = .int .i64 (k : Int) ∧ k + g = L.length ∧ Hid (m = (ears none (L.take k)).getD 0) ∧ wq = W5)
  case atStart => exact ⟨0, 0, rfl, rfl, by omega, rfl, rfl⟩
  case round =>
    obtain ⟨k, m, rfl, rfl, hkg, hm, hwq⟩ := hrel
    subst hwq
    by_cases hk : k < L.length
    · obtain ⟨g, ha, hcell⟩ := HN.out.cell hk
      subst ha
      have HT : Hid (ears none (L.take (k + 1)) = ear (ears none (L.take k)) L[k]) := by
        show _ = _
        rw [List.take_succ_eq_append_getElem hk, ears_snoc]
      generalize L[k] = x at hcell HT
      have hkn : (k : Int) < (L.length : Int) := by omega
      by_cases hk0 : k = 0
      · subst hk0
        have HX : Hid (x = (ears none (L.take 1)).getD 0) := by
          show _ = _
          rw [HT.out]; rfl
        go_wp2_with fail
        go_roundg (gk - 1)
        case measure => omega
        case rel => exact ⟨1, x, rfl, by go_num, by omega, HX, rfl⟩
      · have hkb : ((k : Int) == 0) = false := by simp; omega
        obtain ⟨m', hm'⟩ : ∃ m', ears none (L.take k) = some m' := by
          have h := ears_some (L.take k)
          rw [decide_eq_true (by rw [List.length_take]; omega)] at h
          exact Option.isSome_iff_exists.1 h
        have hmm : m = m' := by rw [hm.out, hm']; rfl
        subst hmm
        have HM : Hid (ears none (L.take k) = some m) := hm'
        clear hm'
        by_cases hx : x < m
        · have HX : Hid (x = (ears none (L.take (k + 1))).getD 0) := by
            show _ = _
            rw [HT.out, HM.out]; simp [ear, hx]
          go_wp2_with fail
          go_roundg (gk - 1)
          case measure => omega
          case rel => exact ⟨k + 1, x, rfl, by go_num, by omega, HX, rfl⟩
        · have HX : Hid (m = (ears none (L.take (k + 1))).getD 0) := by
            show _ = _
            rw [HT.out, HM.out]; simp only [ear]; rw [if_neg hx]; rfl
          go_wp2_with fail
          go_roundg (gk - 1)
          case measure => omega
          case rel => exact ⟨k + 1, m, rfl, by go_num, by omega, HX, rfl⟩
    · have hkn : (L.length : Int) ≤ (k : Int) := by omega
      have hmm : m = (ears none L).getD 0 := by rw [hm.out, List.take_of_length_le (by omega)]
      subst hmm
      clear hm
      obtain ⟨k0, k2, k4, k7⟩ := clk_cells HS.out.clock
      go_upto_if 239 with fail
      go_cut [239] (fun _ wc => wc = wr)
      case first =>
        go_wp2_with fail
        go_meet
        rfl
      case rest =>
        subst hcut
        go_step
        exact tail3 w now a1 a2 a3 n1 c1 n2 c2 n3 c3 z1 z2 rb re x1 x2 x3 y1 y2 y3 hn A1.out A2.out A3.out L _ HS.out _ (by kernel_rfl) _ _ _ _ _ _ _ _ _ _ _ _ _ _ _ _ _ _ _ _ _ _ _ _ _ _ _ _ _ _ _ _ _ _ _ _ _ _ _ _ _ _ _ _ _ _ _ _ _ _ _ _ _ _ _ _ _ _ _ _ _ _ _ _ _ _ _ _ _ _ _ _ _ _ _ _ _ _ _ _ _ _ _ _ _ _ _ _ _ _ _ _ _ _ _ _ _ _ _ _ _ _ _ _ _ _ _ _ _ _ _ _ _ _ _ _ _ _ _ _ _ _ _ _ _ _ _ _ _ _ _ _ _ _ _ _ _ _ _ _ _ _ _ _ _ _ _ _ _ _ _ _ _ _ _ _ _ _ _ _ _ _ _ _ _ _ _ _ _ _ _ _ _ _ _ _ _ _ _ _ _ _ _ _ _ _ _ _ _ _ _ _ _ _ _ _ _ _ _ _ _ _ _ _ _ _ _ _ _ _ _ _ _ _ _ _ _ _ _ _ _ _ _ _ _ _ _ _ _ _ _ _ _ _ _ _ _ _ _ _ _ _ _ _ _ _ _ _ _ _ _ _ _ _ _ _ _ _ _ _ _ _ _ _ _ _ _ _ _ _ _ _ _ _ _ _ _ _ _ _ _ _ _ _ _ _ _ _ _ _ _ _ _ _ _ _ _ _ _ _ _ _ _ _ _ _ _ _ _ _ _ _ _ _ _ _ _ _ _ _ _ _ _ _ _ _ _ _ _ _ _ _ _ _ _ _ _ _ _ _ _ _ _ _ _ _ _ _ _ _ _ _ _ _ _ _ _ _ _ _ _ _ _ _ _ _ _ _ _ _

end Go.Proofs.Ybulkdiuy.lawS5497BWhole
