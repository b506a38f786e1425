import Derived.Test.YbulkdixqCTail2
namespace Go.Proofs.Ybulkdixq.lawS5502CWhole
open Go.RowKit Go.Maps Go.Deep

set_option maxHeartbeats 3200000 in
set_option maxRecDepth 1000000 in
theorem tail1 (w : World) (a0 a1 : Option Addr) (n0 c0 n1 c1 : Nat) (Kf : Nat → Int) (h0 : IsInts w a0 n0 Kf) (hwK : ∀ i, i < n0 → (Lit.int .i64 (Kf i)).wf = true) (hn0 : n0 ≤ 4096) (sel : Nat) (hsel : sel < 256) (oth : Int) (hwo : (Lit.int .i64 oth).wf = true) (un : Bool) (dk dv : List Int) (ak av : Option Addr) (ck cv : Nat) (D : DataW Unit) (W : World) (S : Two w dk dv (.slice ak dk.length ck) (.slice av dv.length cv) W) (T : Tied dk dv D) (hl : dk.length ≤ 4096) (hwd : ∀ x ∈ dk, (Lit.int .i64 x).wf = true) (mo : Option Nat) (hm : mo = none ∨ ∃ M, mo = some M ∧ w.heap.size ≤ M ∧ W.ownsMap Yba.prog 3 (plainElem Yba.prog 3) M 4096 D)
    (c : Code) (hc : Yba.f3.body.bind (suffix 32) = some c) (u5 u6 u7 u8 u9 u10 u13 u14 u15 u16 u17 u19 u20 u21 u22 u23 u24 u25 u26 u27 u28 u29 u30 u31 u32 u33 u34 u35 u36 u37 u38 u39 u40 u41 u42 u43 u44 u45 u46 u47 u48 u49 u50 u51 u52 u53 u54 u55 u56 u57 u58 u59 u60 u61 u62 u63 u64 u65 u66 u67 u68 u69 u70 u71 u72 u73 u74 u75 u76 u77 u78 u79 u80 u81 u82 u83 u84 u85 u86 u87 u88 u89 u90 u91 u92 u93 u94 u95 u96 u97 u98 u99 u100 u101 u102 u103 u104 u105 u106 u107 u108 u109 u110 u111 u112 u113 u114 u115 u116 u117 u118 u119 u120 u121 u122 u123 u124 u125 u126 u127 u128 u129 u130 u131 u132 u133 u134 u135 u136 u137 u138 u139 u140 u141 u142 u143 u144 u145 u146 u147 u148 u149 u150 u151 u152 u153 u154 u155 u156 u157 u158 u159 u160 u161 u162 u163 u164 u165 u166 u167 u168 u169 u170 u171 u172 u173 u174 u175 u176 u177 u178 u179 u180 u181 u182 u183 u184 u185 u186 u187 u188 u189 u190 u191 u192 u193 u194 u195 u196 u197 u198 u199 u200 u201 u202 u203 u204 u205 u206 u207 u208 u209 u210 u211 u212 u213 u214 u215 u216 u217 : Value) :
    Code.wp Yba.prog c (bodyPost Yba.prog Yba.f3 (fun e w' => e = .returned (.bool true) ∧ Below w.heap.size w w')) ⟨#[.slice a0 n0 c0, .slice a1 n1 c1, .int .u8 (sel : Int), .int .i64 oth, .bool un, u5, u6, u7, u8, u9, u10, .slice ak dk.length ck, .slice av dv.length cv, u13, u14, u15, u16, u17, .map mo, u19, u20, u21, u22, u23, u24, u25, u26, u27, u28, u29, u30, u31, u32, u33, u34, u35, u36, u37, u38, u39, u40, u41, u42, u43, u44, u45, u46, u47, u48, u49, u50, u51, u52, u53, u54, u55, u56, u57, u58, u59, u60, u61, u62, u63, u64, u65, u66, u67, u68, u69, u70, u71, u72, u73, u74, u75, u76, u77, u78, u79, u80, u81, u82, u83, u84, u85, u86, u87, u88, u89, u90, u91, u92, u93, u94, u95, u96, u97, u98, u99, u100, u101, u102, u103, u104, u105, u106, u107, u108, u109, u110, u111, u112, u113, u114, u115, u116, u117, u118, u119, u120, u121, u122, u123, u124, u125, u126, u127, u128, u129, u130, u131, u132, u133, u134, u135, u136, u137, u138, u139, u140, u141, u142, u143, u144, u145, u146, u147, u148, u149, u150, u151, u152, u153, u154, u155, u156, u157, u158, u159, u160, u161, u162, u163, u164, u165, u166, u167, u168, u169, u170, u171, u172, u173, u174, u175, u176, u177, u178, u179, u180, u181, u182, u183, u184, u185, u186, u187, u188, u189, u190, u191, u192, u193, u194, u195, u196, u197, u198, u199, u200, u201, u202, u203, u204, u205, u206, u207, u208, u209, u210, u211, u212, u213, u214, u215, u216, u217], []⟩ W := by
  conv at hc => lhs; whnf
  injection hc with hc
  subst hc
  have HT : Hid (Tied dk dv D) := T
  have HW2 : Hid (Two w dk dv (.slice ak dk.length ck) (.slice av dv.length cv) W) := S
  have H0 : Hid (IsInts w a0 n0 Kf) := h0
  have HM : Hid (mo = none ∨ ∃ M, mo = some M ∧ w.heap.size ≤ M ∧ W.ownsMap Yba.prog 3 (plainElem Yba.prog 3) M 4096 D) := hm
  clear T S h0 hm
  go_upto_region 34 with fail
  obtain ⟨W1, hW1⟩ : ∃ x, x = W.alloc (.cells (rwc 0 0 (.map mo)) 38) := ⟨_, rfl⟩
  have HB1 : Hid (Box W1 W.heap.size 0 0 (.map mo) ∧ Two w dk dv (.slice ak dk.length ck) (.slice av dv.length cv) W1 ∧ ∀ M, W.ownsMap Yba.prog 3 (plainElem Yba.prog 3) M 4096 D → W1.ownsMap Yba.prog 3 (plainElem Yba.prog 3) M 4096 D) := by
    subst hW1
    exact ⟨blk_alloc_new _ _, HW2.out.alloc _, fun M h => h.alloc _⟩
  change Code.wp _ _ _ _ (W.alloc (.cells (rwc 0 0 (.map mo)) 38))
  rw [← hW1]
  clear hW1
  go_cut [116] (fun v wc => v = .bool (decide (0 < n0) && decide (sel % 2 = 0)) ∧ wc = W1)
  case first =>
    by_cases hz : n0 = 0
    · subst hz
      go_wp2_with fail
      go_meet
      exact ⟨by simp, rfl⟩
    · have hzn : 0 < n0 := by omega
      by_cases he : sel % 2 = 0
      · go_wp2_with fail
        go_meet
        exact ⟨by simp [hzn, he]; omega, rfl⟩
      · go_wp2_with fail
        go_meet
        exact ⟨by simp [hzn, he]; omega, rfl⟩
  case rest =>
  obtain ⟨rfl, rfl⟩ := hcut
  go_upto_if 116 with fail
  go_cut [23] (fun v wd => ∃ t : Int, v = .int .i64 t ∧ (Lit.int .i64 t).wf = true ∧ wd = wc)
  case first =>
    by_cases hz : 0 < n0 ∧ sel % 2 = 0
    · have hzi : (0 : Int) < (n0 : Int) := by omega
      have hzn : 0 < n0 := hz.1
      have he := hz.2
      obtain ⟨b, o, ha, hc⟩ := H0.out.at (by omega)
      subst ha
      have hi : sel / 2 % n0 < n0 := Nat.mod_lt _ (by omega)
      have ck := old HB1.out.2.1.below (hc _ hi)
      have HWK : Hid ((Lit.int .i64 (Kf (sel / 2 % n0))).wf = true) := hwK _ hi
      have hii : 0 ≤ (sel : Int) / 2 % (n0 : Int) ∧ (sel : Int) / 2 % (n0 : Int) < (n0 : Int) := ⟨Int.emod_nonneg _ (by omega), Int.emod_lt_of_pos _ (by omega)⟩
      rw [show (decide (0 < n0) && decide (sel % 2 = 0)) = true by simp [hzn, he]]
      clear hc hz
      go_wp2_with fail
      go_meet
      exact ⟨_, rfl, HWK.out, rfl⟩
    · rw [show (decide (0 < n0) && decide (sel % 2 = 0)) = false by simpa using hz]
      clear hz
      go_wp2_with fail
      go_meet
      exact ⟨_, rfl, hwo, rfl⟩
  case rest =>
    obtain ⟨t, rfl, hwt, hwc⟩ := hcut
    subst hwc
    obtain ⟨R, hR⟩ : ∃ x, x = W.heap.size := ⟨_, rfl⟩
    have hwR : w.heap.size ≤ R := by rw [hR]; exact HW2.out.below.size
    have HB2 : Hid (Box wc R 0 0 (.map mo)) := by rw [hR]; exact HB1.out.1
    have HT2 : Hid (Two w dk dv (.slice ak dk.length ck) (.slice av dv.length cv) wc) := HB1.out.2.1
    have HM2 : Hid (mo = none ∨ ∃ M, mo = some M ∧ w.heap.size ≤ M ∧ M < R ∧ wc.ownsMap Yba.prog 3 (plainElem Yba.prog 3) M 4096 D) := by
      rcases HM.out with h | ⟨M, h1, h2, h3⟩
      · exact .inl h
      · exact .inr ⟨M, h1, h2, by rw [hR]; exact h3.lt, HB1.out.2.2 M h3⟩
    rw [← hR]
    clear HB1 HM HW2 hR W
    rcases HM2.out with h | ⟨M, h1, h2, h3, h4⟩
    · subst h
      have q23 : ∀ (w : World) (r : Option Nat), (binOp .eql 23 (.map r) (.map none)).run Yba.prog w = .ok (.bool r.isNone) w := fun w r => run_eql_map_nil w _ _ _ r Yba.underlying23
      go_wp2_with fail
      refine (del_nil R t wc HB2.out hwt).mono ?_
      rintro e w2 ⟨rfl, hb2, hbel2⟩
      have K2 : Hid (Box w2 R 0 0 (.map none) ∧ Below w.heap.size w w2) := ⟨hb2, HT2.out.below.trans (hbel2 _ hwR)⟩
      clear hb2 hbel2
      go_wp2_with fail
      refine (try_free R _ w2 K2.out.1).mono ?_
      rintro e w3 ⟨rfl, hb3, _, hbel3⟩
      have K3 : Hid (Box w3 R 1 (-1073741824) (.map none) ∧ Below w.heap.size w w3) := ⟨hb3, K2.out.2.trans (hbel3 _ hwR)⟩
      clear hb3 hbel3
      go_wp2_with fail
      refine (unl_held R _ w3 K3.out.1).mono ?_
      rintro e w4 ⟨rfl, hb4, _, hbel4⟩
      have K4 : Hid (Box w4 R 0 0 (.map none) ∧ Below w.heap.size w w4) := ⟨hb4, K3.out.2.trans (hbel4 _ hwR)⟩
      clear hb4 hbel4
      obtain ⟨_, _, _, _, c6⟩ := K4.out.1.cell
      go_wp2_with fail
      go_ret
      exact ⟨rfl, K4.out.2⟩
    · subst h1
      have HO : Hid (wc.ownsMap Yba.prog 3 (plainElem Yba.prog 3) M 4096 D) := h4
      clear h4
      have q23 : ∀ (w : World) (r : Option Nat), (binOp .eql 23 (.map r) (.map none)).run Yba.prog w = .ok (.bool r.isNone) w := fun w r => run_eql_map_nil w _ _ _ r Yba.underlying23
      go_wp2_with fail
      refine (del_map R M 4096 D t wc HB2.out (by omega) HO.out hwt).mono ?_
      rintro e w2 ⟨rfl, hb2, ho2, hs2, hbel2⟩
      have K2 : Hid (S5 w dk dv (.slice ak dk.length ck) (.slice av dv.length cv) R M 4096 (D.del (kl t)) w2) := by
        refine ⟨HT2.out.stay (HT2.out.below.trans (hbel2 _ h2 hwR)) ?_, hb2, ho2⟩
        intro b cur hb
        refine hs2 b ?_ ?_
        · intro e
          obtain ⟨es, clock, hm', _⟩ := HO.out
          rw [e, hm'] at hb
          cases hb
        · intro e
          have hbox := HB2.out
          unfold Box at hbox
          rw [e, hbox] at hb
          simp at hb
      clear hb2 ho2 hs2 hbel2
      go_wp2_with fail
      refine (try_free R _ w2 K2.out.box).mono ?_
      rintro e w3 ⟨rfl, hb3, hs3, hbel3⟩
      have K3 : Hid (Box w3 R 1 (-1073741824) (.map (some M)) ∧ (∀ k, k ≠ R → w3.heap[k]? = w2.heap[k]?) ∧ Below w.heap.size w w3) := ⟨hb3, hs3, K2.out.two.below.trans (hbel3 _ hwR)⟩
      clear hb3 hs3 hbel3
      go_wp2_with fail
      refine (unl_held R _ w3 K3.out.1).mono ?_
      rintro e w4 ⟨rfl, hb4, hs4, hbel4⟩
      have K4 : Hid (S5 w dk dv (.slice ak dk.length ck) (.slice av dv.length cv) R M 4096 (D.del (kl t)) w4) := by
        have hs : ∀ k, k ≠ R → w4.heap[k]? = w2.heap[k]? := fun k hk => (hs4 k hk).trans (K3.out.2.1 k hk)
        refine ⟨K2.out.two.stay (K3.out.2.2.trans (hbel4 _ hwR)) ?_, hb4, ?_⟩
        · intro b cur hb
          refine hs b ?_
          intro e
          have hbox := K2.out.box
          unfold Box at hbox
          rw [e, hbox] at hb
          simp at hb
        · obtain ⟨es, clock, hm', r⟩ := K2.out.own
          exact ⟨es, clock, (hs M (by omega)).trans hm', r⟩
      clear hb4 hs4 hbel4
      obtain ⟨_, _, _, _, c6⟩ := K4.out.box.cell
      go_upto_if 149 with fail
      go_cut [149] (fun _ wd => wd = w4)
      case first =>
        go_wp2_with fail
        go_meet
        rfl
      case rest =>
        subst hcut
        go_step
        exact tail2 w dk dv ak av ck cv R M 4096 D t _ K4.out HT.out hl hwd hwt _ (by kernel_rfl) _ _ _ _ _ _ _ _ _ _ _ _ _ _ _ _ _ _ _ _ _ _ _ _ _ _ _ _ _ _ _ _ _ _ _ _ _ _ _ _ _ _ _ _ _ _ _ _ _ _ _ _ _ _ _ _ _ _ _ _ _ _ _ _ _ _ _ _ _ _ _ _ _ _ _ _ _ _ _ _ _ _ _ _ _ _ _ _ _ _ _ _ _ _ _ _ _ _ _ _ _ _ _ _ _ _ _ _ _ _ _ _ _ _ _ _ _ _ _ _ _ _ _ _ _ _ _ _ _ _ _ _ _ _ _ _ _ _ _ _ _ _ _ _ _ _ _ _ _ _ _ _ _ _ _ _ _ _ _ _ _ _ _ _ _ _ _ _ _ _ _ _ _ _ _ _ _ _ _ _ _ _ _ _ _ _ _ _ _ _ _ _ _ _ _ _ _ _ _ _ _ _ _ _ _ _ _ _ _ _ _ _ _ _

end Go.Proofs.Ybulkdixq.lawS5502CWhole
