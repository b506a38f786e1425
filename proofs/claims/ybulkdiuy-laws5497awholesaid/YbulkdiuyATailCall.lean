import Derived.Test.YbulkdiuyATails
namespace Go.Proofs.Ybulkdiuy.lawS5497AWhole
open Go.RowKit Go.Conc Go.Deep
open Go.MuLone
attribute [local go_sem] run_neq_23 run_neq_48

set_option maxHeartbeats 3200000 in
set_option maxRecDepth 1000000 in
theorem tail_call (w : World) (n m : Nat) (hn : n ≤ 255) (hm : m ≤ 255) (st : Bool) (ps qs : List Nat) (g1 g3 R G cb wk : Nat) (g2 : Nat) (W : World) (S : Snap w n m st ps qs g1 g3 R cb wk (.slice (some ⟨g2, 0, none⟩) m m) (ptrs qs) #[ptr G] 1 0 W) (hg : g3 ≠ g2)
    (cd : Code) (hc : Yba.f3.body.bind (suffix 21) = some cd) (u0 u1 u3 u4 u5 u6 u7 u8 u9 u10 u14 u15 u16 u21 u22 u23 u24 u25 u26 u27 u28 u29 u30 u31 u32 u33 u34 u35 u36 u37 u38 u39 u40 u41 u42 u43 u44 u45 u46 u47 u48 u49 u50 u51 u52 u53 u54 u55 u56 u57 u58 u59 u60 u61 u62 u63 u64 u65 u66 u67 u68 u69 u70 u71 u72 u73 u74 u75 u76 u77 u78 u79 u80 u81 u82 u83 u84 u85 u86 u87 u88 u89 u90 u91 u92 u93 u94 u95 u96 u97 u98 u99 u100 u101 u102 u103 u104 u105 u106 u107 u108 u109 u110 u111 u112 u113 u114 u115 u116 u117 u118 u119 u120 u121 u122 u123 u124 u125 u126 u127 u128 u129 u130 u131 u132 u133 u134 u135 u136 u137 u138 u139 u140 u141 u142 u143 u144 u145 u146 u147 u148 u149 u150 u151 u152 u153 u154 u155 u156 u157 u158 u159 u160 u161 u162 u163 u164 u165 u166 u167 u168 u169 u170 u171 u172 u173 u174 u175 u176 u177 u178 u179 u180 u181 u182 u183 u184 u185 u186 u187 u188 u189 u190 u191 u192 u193 u194 u195 u196 u197 u198 u199 u200 u201 u202 u203 u204 u205 u206 u207 : Value) :
    Code.wp Yba.prog cd (bodyPost Yba.prog Yba.f3 (fun e w' => e = .returned (.bool true) ∧ Below w.heap.size w w')) ⟨#[u0, u1, .bool st, u3, u4, u5, u6, u7, u8, u9, u10, .int .i64 (n : Int), .int .i64 (m : Int), .slice (some ⟨g1, 0, none⟩) n n, u14, u15, u16, .slice (some ⟨g3, 0, none⟩) m m, .pointer (some ⟨R, 0, none⟩), .pointer (some ⟨G, 0, none⟩), .pointer (some ⟨wk, 0, none⟩), u21, u22, u23, u24, u25, u26, u27, u28, u29, u30, u31, u32, u33, u34, u35, u36, u37, u38, u39, u40, u41, u42, u43, u44, u45, u46, u47, u48, u49, u50, u51, u52, u53, u54, u55, u56, u57, u58, u59, u60, u61, u62, u63, u64, u65, u66, u67, u68, u69, u70, u71, u72, u73, u74, u75, u76, u77, u78, u79, u80, u81, u82, u83, u84, u85, u86, u87, u88, u89, u90, u91, u92, u93, u94, u95, u96, u97, u98, u99, u100, u101, u102, u103, u104, u105, u106, u107, u108, u109, u110, u111, u112, u113, u114, u115, u116, u117, u118, u119, u120, u121, u122, u123, u124, u125, u126, u127, u128, u129, u130, u131, u132, u133, u134, u135, u136, u137, u138, u139, u140, u141, u142, u143, u144, u145, u146, u147, u148, u149, u150, u151, u152, u153, u154, u155, u156, u157, u158, u159, u160, u161, u162, u163, u164, u165, u166, u167, u168, u169, u170, u171, u172, u173, u174, u175, u176, u177, u178, u179, u180, u181, u182, u183, u184, u185, u186, u187, u188, u189, u190, u191, u192, u193, u194, u195, u196, u197, u198, u199, u200, u201, u202, u203, u204, u205, u206, u207], []⟩ W := by
  conv at hc => lhs; whnf
  injection hc with hc
  subst hc
  have HS : Hid (Snap w n m st ps qs g1 g3 R cb wk (.slice (some ⟨g2, 0, none⟩) m m) (ptrs qs) #[ptr G] 1 0 W) := S
  clear S
  go_frame
  go_upto_region 21 with fail
  go_cut [21] (fun v wc => (∃ (az : Option Addr) (c : Nat), v = .pointer (some ⟨G, 0, none⟩) ∧ Snap w n m st ps qs g1 g3 R cb wk (.slice az (m + 1) c) (ptrs qs ++ [ptr wk]) #[] 1 1 wc ∧ st = false ∧ m ≠ n) ∨
    (v = .pointer none ∧ Snap w n m st ps qs g1 g3 R cb wk (.slice (some ⟨g2, 0, none⟩) m m) (ptrs qs) #[ptr G] 1 0 wc ∧ (st = true ∨ m = n)))
  case first =>
    by_cases hx : st = true ∨ m = n
    · go_wp2_with fail
      refine (stand_no R wk _ _ n n m m st W HS.out.sch hx).mono ?_
      rintro e w2 ⟨rfl, hs, hk, hb⟩
      have HN : Hid (Snap w n m st ps qs g1 g3 R cb wk (.slice (some ⟨g2, 0, none⟩) m m) (ptrs qs) #[ptr G] 1 0 w2) := HS.out.stay (HS.out.below.trans (hb _ HS.out.hR)) hs hk
      clear hs hk hb
      go_wp2_with fail
      go_meet
      exact .inr ⟨rfl, HN.out, hx⟩
    · have hst : st = false := Bool.eq_false_iff.2 (fun e => hx (.inl e))
      subst hst
      have hne : m ≠ n := fun e => hx (.inr e)
      have hown : W.ownsRow w.heap.size 48 1 (.slice (some ⟨g2, 0, none⟩) m m) m (ptrs qs) := by
        have h := HS.out.own
        rw [show (ptrs qs).length = m by simp [ptrs, HS.out.ql]] at h
        exact h
      have HO : Hid (W.ownsRow w.heap.size 48 1 (.slice (some ⟨g2, 0, none⟩) m m) m (ptrs qs)) := hown
      clear hown hx
      go_wp2_with fail
      refine (stand_yes R wk cb w.heap.size _ _ n n m m (ptrs qs) (ptr G) 1 0 W HS.out.sch hne HO.out HS.out.below.size hm HS.out.wkr HS.out.ch).mono ?_
      rintro e w2 ⟨rfl, g, cap, ho, hs, hc, hk, hb⟩
      have HN : Hid (Snap w n m false ps qs g1 g3 R cb wk (.slice (some ⟨g, 0, none⟩) (m + 1) cap) (ptrs qs ++ [ptr wk]) #[] 1 1 w2) := HS.out.taken hg ho hs hc hk (HS.out.below.trans (hb _ (Nat.le_refl _) HS.out.hR HS.out.hcb))
      clear ho hs hc hk hb
      go_wp2_with fail
      go_meet
      exact .inl ⟨_, _, rfl, HN.out, by trivial, hne⟩
  case rest =>
    rcases hcut with ⟨az, c, rfl, hS, ha⟩ | ⟨rfl, hS, ha⟩
    · go_step
      exact tail_acc w n m hn hm st ps qs g1 g3 R G cb wk az c _ hS ha _ (by kernel_rfl) _ _ _ _ _ _ _ _ _ _ _ _ _ _ _ _ _ _ _ _ _ _ _ _ _ _ _ _ _ _ _ _ _ _ _ _ _ _ _ _ _ _ _ _ _ _ _ _ _ _ _ _ _ _ _ _ _ _ _ _ _ _ _ _ _ _ _ _ _ _ _ _ _ _ _ _ _ _ _ _ _ _ _ _ _ _ _ _ _ _ _ _ _ _ _ _ _ _ _ _ _ _ _ _ _ _ _ _ _ _ _ _ _ _ _ _ _ _ _ _ _ _ _ _ _ _ _ _ _ _ _ _ _ _ _ _ _ _ _ _ _ _ _ _ _ _ _ _ _ _ _ _ _ _ _ _ _ _ _ _ _ _ _ _ _ _ _ _ _ _ _ _ _ _ _ _ _ _ _ _ _ _ _ _ _ _ _ _ _ _ _ _ _ _ _ _ _ _ _
    · go_step
      exact tail_rej w n m hn hm st ps qs g1 g3 R G cb wk (some ⟨g2, 0, none⟩) m _ hS ha _ (by kernel_rfl) _ _ _ _ _ _ _ _ _ _ _ _ _ _ _ _ _ _ _ _ _ _ _ _ _ _ _ _ _ _ _ _ _ _ _ _ _ _ _ _ _ _ _ _ _ _ _ _ _ _ _ _ _ _ _ _ _ _ _ _ _ _ _ _ _ _ _ _ _ _ _ _ _ _ _ _ _ _ _ _ _ _ _ _ _ _ _ _ _ _ _ _ _ _ _ _ _ _ _ _ _ _ _ _ _ _ _ _ _ _ _ _ _ _ _ _ _ _ _ _ _ _ _ _ _ _ _ _ _ _ _ _ _ _ _ _ _ _ _ _ _ _ _ _ _ _ _ _ _ _ _ _ _ _ _ _ _ _ _ _ _ _ _ _ _ _ _ _ _ _ _ _ _ _ _ _ _ _ _ _ _ _ _ _ _ _ _ _ _ _ _ _ _ _ _ _ _ _ _

end Go.Proofs.Ybulkdiuy.lawS5497AWhole
