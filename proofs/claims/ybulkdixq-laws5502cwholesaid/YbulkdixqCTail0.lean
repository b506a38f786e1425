import Derived.Test.YbulkdixqCTail1
namespace Go.Proofs.Ybulkdixq.lawS5502CWhole
open Go.RowKit Go.Maps Go.Deep

theorem nilness (un : Bool) (n0 : Nat) (h : ¬ (un = true ∧ n0 = 0)) : (!(un && decide (n0 = 0))) = true := by
  cases un <;> simp_all

set_option maxHeartbeats 3200000 in
set_option maxRecDepth 1000000 in
theorem tail0 (w : World) (a0 a1 : Option Addr) (n0 c0 n1 c1 : Nat) (Kf Zf : Nat → Int) (h0 : IsInts w a0 n0 Kf) (h1 : IsInts w a1 n1 Zf) (hwK : ∀ i, i < n0 → (Lit.int .i64 (Kf i)).wf = true) (hwZ : ∀ i, i < n1 → (Lit.int .i64 (Zf i)).wf = true) (hn0 : n0 ≤ 4096) (sel : Nat) (hsel : sel < 256) (oth : Int) (hwo : (Lit.int .i64 oth).wf = true) (un : Bool) (dk dv : List Int) (ak av : Option Addr) (ck cv : Nat) (W : World) (S : Two w dk dv (.slice ak dk.length ck) (.slice av dv.length cv) W) (T : Tied dk dv (dat Kf (Vf n1 Zf) n0)) (hl : dk.length ≤ 4096) (hwd : ∀ x ∈ dk, (Lit.int .i64 x).wf = true)
    (c : Code) (hc : Yba.f3.body.bind (suffix 22) = some c) (u5 u6 u7 u8 u9 u10 u13 u14 u15 u16 u17 u19 u20 u21 u22 u23 u24 u25 u26 u27 u28 u29 u30 u31 u32 u33 u34 u35 u36 u37 u38 u39 u40 u41 u42 u43 u44 u45 u46 u47 u48 u49 u50 u51 u52 u53 u54 u55 u56 u57 u58 u59 u60 u61 u62 u63 u64 u65 u66 u67 u68 u69 u70 u71 u72 u73 u74 u75 u76 u77 u78 u79 u80 u81 u82 u83 u84 u85 u86 u87 u88 u89 u90 u91 u92 u93 u94 u95 u96 u97 u98 u99 u100 u101 u102 u103 u104 u105 u106 u107 u108 u109 u110 u111 u112 u113 u114 u115 u116 u117 u118 u119 u120 u121 u122 u123 u124 u125 u126 u127 u128 u129 u130 u131 u132 u133 u134 u135 u136 u137 u138 u139 u140 u141 u142 u143 u144 u145 u146 u147 u148 u149 u150 u151 u152 u153 u154 u155 u156 u157 u158 u159 u160 u161 u162 u163 u164 u165 u166 u167 u168 u169 u170 u171 u172 u173 u174 u175 u176 u177 u178 u179 u180 u181 u182 u183 u184 u185 u186 u187 u188 u189 u190 u191 u192 u193 u194 u195 u196 u197 u198 u199 u200 u201 u202 u203 u204 u205 u206 u207 u208 u209 u210 u211 u212 u213 u214 u215 u216 u217 : Value) :
    Code.wp Yba.prog c (bodyPost Yba.prog Yba.f3 (fun e w' => e = .returned (.bool true) ∧ Below w.heap.size w w')) ⟨#[.slice a0 n0 c0, .slice a1 n1 c1, .int .u8 (sel : Int), .int .i64 oth, .bool un, u5, u6, u7, u8, u9, u10, .slice ak dk.length ck, .slice av dv.length cv, u13, u14, u15, u16, u17, .map none, u19, u20, u21, u22, u23, u24, u25, u26, u27, u28, u29, u30, u31, u32, u33, u34, u35, u36, u37, u38, u39, u40, u41, u42, u43, u44, u45, u46, u47, u48, u49, u50, u51, u52, u53, u54, u55, u56, u57, u58, u59, u60, u61, u62, u63, u64, u65, u66, u67, u68, u69, u70, u71, u72, u73, u74, u75, u76, u77, u78, u79, u80, u81, u82, u83, u84, u85, u86, u87, u88, u89, u90, u91, u92, u93, u94, u95, u96, u97, u98, u99, u100, u101, u102, u103, u104, u105, u106, u107, u108, u109, u110, u111, u112, u113, u114, u115, u116, u117, u118, u119, u120, u121, u122, u123, u124, u125, u126, u127, u128, u129, u130, u131, u132, u133, u134, u135, u136, u137, u138, u139, u140, u141, u142, u143, u144, u145, u146, u147, u148, u149, u150, u151, u152, u153, u154, u155, u156, u157, u158, u159, u160, u161, u162, u163, u164, u165, u166, u167, u168, u169, u170, u171, u172, u173, u174, u175, u176, u177, u178, u179, u180, u181, u182, u183, u184, u185, u186, u187, u188, u189, u190, u191, u192, u193, u194, u195, u196, u197, u198, u199, u200, u201, u202, u203, u204, u205, u206, u207, u208, u209, u210, u211, u212, u213, u214, u215, u216, u217], []⟩ W := by
  conv at hc => lhs; whnf
  injection hc with hc
  subst hc
  have HT : Hid (Tied dk dv (dat Kf (Vf n1 Zf) n0)) := T
  have HW2 : Hid (Two w dk dv (.slice ak dk.length ck) (.slice av dv.length cv) W) := S
  have H0 : Hid (IsInts w a0 n0 Kf) := h0
  have H1 : Hid (IsInts w a1 n1 Zf) := h1
  have hni : (n0 : Int) ≤ 4096 := by omega
  clear T S h0 h1
  go_frame
  go_upto_region 22 with fail
  go_cut [83] (fun v wc => v = .bool (!(un && decide (n0 = 0))) ∧ wc = W)
  case first =>
    cases un with
    | false =>
      go_wp2_with fail
      go_meet
      exact ⟨by simp, rfl⟩
    | true =>
      by_cases hz : n0 = 0
      · subst hz
        go_wp2_with fail
        go_meet
        exact ⟨by simp, rfl⟩
      · have hzb : ((n0 : Int) == 0) = false := by simp [hz]
        go_wp2_with fail
        go_meet
        exact ⟨by simp [hz], rfl⟩
  case rest =>
  obtain ⟨rfl, rfl⟩ := hcut
  go_upto_if 83 with fail
  go_cut [18] (fun v wd => ∃ mo, v = .map mo ∧ Two w dk dv (.slice ak dk.length ck) (.slice av dv.length cv) wd ∧ (mo = none ∨ ∃ M, mo = some M ∧ w.heap.size ≤ M ∧ wd.ownsMap Yba.prog 3 (plainElem Yba.prog 3) M 4096 (dat Kf (Vf n1 Zf) n0)))
  case first =>
    by_cases hz : un = true ∧ n0 = 0
    · rw [show (!(un && decide (n0 = 0))) = false by simp [hz.1, hz.2]]
      clear hz
      go_wp2_with fail
      go_meet
      exact ⟨none, rfl, HW2.out, .inl rfl⟩
    · rw [show (!(un && decide (n0 = 0))) = true from nilness un n0 hz]
      clear hz
      have hmm := @run_makeMap Yba.prog
      have hMw := HW2.out.below.size
      go_wp2_with fail
      clear hmm
      go_loopg [87] n0 (fun g iv wq => ∃ k : Nat, iv = .int .i64 (k : Int) ∧ k + g = n0 ∧ wq.ownsMap Yba.prog 3 (plainElem Yba.prog 3) wc.heap.size k (dat Kf (Vf n1 Zf) k) ∧ Two w dk dv (.slice ak dk.length ck) (.slice av dv.length cv) wq)
      case atStart => exact ⟨0, rfl, by omega, World.ownsMap_made _ _ _ _, HW2.out.alloc _⟩
      case round =>
        obtain ⟨k, rfl, hkg, hO, hT⟩ := hrel
        have HO : Hid (wr.ownsMap Yba.prog 3 (plainElem Yba.prog 3) wc.heap.size k (dat Kf (Vf n1 Zf) k)) := hO
        have HTw : Hid (Two w dk dv (.slice ak dk.length ck) (.slice av dv.length cv) wr) := hT
        clear hO hT
        by_cases hk : k < n0
        · obtain ⟨b, o, ha, hc⟩ := H0.out.at (by omega)
          subst ha
          have ck0 := old HTw.out.below (hc k hk)
          have hwx := hwK k hk
          have hkey := keyOf_int_mk Yba.underlying3 hwx
          have hkn : (k : Int) < (n0 : Int) := by omega
          have HK : Hid (∀ w1, w1.ownsMap Yba.prog 3 (plainElem Yba.prog 3) wc.heap.size (k + 1) (dat Kf (Vf n1 Zf) (k + 1)) → wr.mapTurned w1 wc.heap.size →
              w1.ownsMap Yba.prog 3 (plainElem Yba.prog 3) wc.heap.size (k + 1) (dat Kf (Vf n1 Zf) (k + 1)) ∧ Two w dk dv (.slice ak dk.length ck) (.slice av dv.length cv) w1) := by
            intro w1 ho hturn
            refine ⟨ho, HTw.out.stay (HTw.out.below.grown hturn.grown HTw.out.below.size (fun j hj => by cases hj; exact hMw)) ?_⟩
            intro b cur hb
            obtain ⟨es, clock, es', clock', hb', rfl⟩ := hturn
            refine ChangeMaps.heap_setBlock_other hb' _ ?_
            intro e
            rw [e, hb'] at hb
            cases hb
          clear hc
          by_cases hk1 : k < n1
          · obtain ⟨b1, o1, ha1, hc1⟩ := H1.out.at (by omega)
            subst ha1
            have ck1 := old HTw.out.below (hc1 k hk1)
            have hwv := hwZ k hk1
            have hkn1 : (k : Int) < (n1 : Int) := by omega
            have HV : Hid (dat Kf (Vf n1 Zf) (k + 1) = (dat Kf (Vf n1 Zf) k).put (.int .i64 (Kf k)) (.lit (.int .i64 (Zf k)))) := by show _ = _; simp [dat, Vf, hk1]
            clear hc1
            go_wp2_with (at_mapUpdate; refine wpList_mapUpdate_in _ rfl _ _ _ 23 rfl 3 3 law3 Yba.underlying23 _ wc.heap.size k (dat Kf (Vf n1 Zf) k) rfl HO.out (by unfold maxLen; omega) _ _ _ rfl rfl hkey _ [] (plainElem_int Yba.underlying3 hwv) ?_; intro w1 hown2 hturn1; have HF := HK.out w1 (by rw [HV.out]; exact hown2) hturn1; have HF' : Hid _ := HF; clear HF hown2 hturn1)
            go_roundg (gk - 1)
            case measure => omega
            case rel => exact ⟨k + 1, by go_num, by omega, HF'.out.1, HF'.out.2⟩
          · have hkn1 : ¬ (k : Int) < (n1 : Int) := by omega
            have hwv : (Lit.int .i64 (k : Int)).wf = true := WalkArith.wf_i64 (by omega)
            have HV : Hid (dat Kf (Vf n1 Zf) (k + 1) = (dat Kf (Vf n1 Zf) k).put (.int .i64 (Kf k)) (.lit (.int .i64 (k : Int)))) := by show _ = _; simp [dat, Vf, hk1]
            go_wp2_with (at_mapUpdate; refine wpList_mapUpdate_in _ rfl _ _ _ 23 rfl 3 3 law3 Yba.underlying23 _ wc.heap.size k (dat Kf (Vf n1 Zf) k) rfl HO.out (by unfold maxLen; omega) _ _ _ rfl rfl hkey _ [] (plainElem_int Yba.underlying3 hwv) ?_; intro w1 hown2 hturn1; have HF := HK.out w1 (by rw [HV.out]; exact hown2) hturn1; have HF' : Hid _ := HF; clear HF hown2 hturn1)
            go_roundg (gk - 1)
            case measure => omega
            case rel => exact ⟨k + 1, by go_num, by omega, HF'.out.1, HF'.out.2⟩
        · obtain rfl : n0 = k := by omega
          go_wp2_with fail
          go_meet
          exact ⟨some _, rfl, HTw.out, .inr ⟨_, rfl, hMw, HO.out.mono hn0⟩⟩
  case rest =>
    obtain ⟨mo, rfl, hT2, hmo⟩ := hcut
    go_step
    exact tail1 w a0 a1 n0 c0 n1 c1 Kf H0.out hwK hn0 sel hsel oth hwo un dk dv ak av ck cv _ _ hT2 HT.out hl hwd mo hmo _ (by kernel_rfl) _ _ _ _ _ _ _ _ _ _ _ _ _ _ _ _ _ _ _ _ _ _ _ _ _ _ _ _ _ _ _ _ _ _ _ _ _ _ _ _ _ _ _ _ _ _ _ _ _ _ _ _ _ _ _ _ _ _ _ _ _ _ _ _ _ _ _ _ _ _ _ _ _ _ _ _ _ _ _ _ _ _ _ _ _ _ _ _ _ _ _ _ _ _ _ _ _ _ _ _ _ _ _ _ _ _ _ _ _ _ _ _ _ _ _ _ _ _ _ _ _ _ _ _ _ _ _ _ _ _ _ _ _ _ _ _ _ _ _ _ _ _ _ _ _ _ _ _ _ _ _ _ _ _ _ _ _ _ _ _ _ _ _ _ _ _ _ _ _ _ _ _ _ _ _ _ _ _ _ _ _ _ _ _ _ _ _ _ _ _ _ _ _ _ _ _ _ _ _ _ _ _ _ _ _ _ _ _ _ _

end Go.Proofs.Ybulkdixq.lawS5502CWhole
