import Derived.Test.YbulkdixqCDefs
namespace Go.Proofs.Ybulkdixq.lawS5502CWhole
open Go.RowKit Go.Maps Go.Deep

set_option maxHeartbeats 3200000 in
set_option maxRecDepth 1000000 in
theorem tail2 (w : World) (dk dv : List Int) (ak av : Option Addr) (ck cv R M n : Nat) (D : DataW Unit) (t : Int) (W : World) (S : S5 w dk dv (.slice ak dk.length ck) (.slice av dv.length cv) R M n (D.del (kl t)) W) (T : Tied dk dv D) (hl : dk.length ≤ 4096) (hwd : ∀ x ∈ dk, (Lit.int .i64 x).wf = true) (hwt : (Lit.int .i64 t).wf = true)
    (c : Code) (hc : Yba.f3.body.bind (suffix 44) = some c) (u0 u1 u2 u3 u4 u5 u6 u7 u8 u9 u10 u13 u14 u15 u16 u17 u18 u19 u20 u21 u24 u25 u26 u27 u28 u29 u30 u31 u32 u33 u34 u35 u36 u37 u38 u39 u40 u41 u42 u43 u44 u45 u46 u47 u48 u49 u50 u51 u52 u53 u54 u55 u56 u57 u58 u59 u60 u61 u62 u63 u64 u65 u66 u67 u68 u69 u70 u71 u72 u73 u74 u75 u76 u77 u78 u79 u80 u81 u82 u83 u84 u85 u86 u87 u88 u89 u90 u91 u92 u93 u94 u95 u96 u97 u98 u99 u100 u101 u102 u103 u104 u105 u106 u107 u108 u109 u110 u111 u112 u113 u114 u115 u116 u117 u118 u119 u120 u121 u122 u123 u124 u125 u126 u127 u128 u129 u130 u131 u132 u133 u134 u135 u136 u137 u138 u139 u140 u141 u142 u143 u144 u145 u146 u147 u148 u149 u150 u151 u152 u153 u154 u155 u156 u157 u158 u159 u160 u161 u162 u163 u164 u165 u166 u167 u168 u169 u170 u171 u172 u173 u174 u175 u176 u177 u178 u179 u180 u181 u182 u183 u184 u185 u186 u187 u188 u189 u190 u191 u192 u193 u194 u195 u196 u197 u198 u199 u200 u201 u202 u203 u204 u205 u206 u207 u208 u209 u210 u211 u212 u213 u214 u215 u216 u217 : Value) :
    Code.wp Yba.prog c (bodyPost Yba.prog Yba.f3 (fun e w' => e = .returned (.bool true) ∧ Below w.heap.size w w')) ⟨#[u0, u1, u2, u3, u4, u5, u6, u7, u8, u9, u10, .slice ak dk.length ck, .slice av dv.length cv, u13, u14, u15, u16, u17, u18, u19, u20, u21, .pointer (some ⟨R, 0, none⟩), .int .i64 t, u24, u25, u26, u27, u28, u29, u30, u31, u32, u33, u34, u35, u36, u37, u38, u39, u40, u41, u42, u43, u44, u45, u46, u47, u48, u49, u50, u51, u52, u53, u54, u55, u56, u57, u58, u59, u60, u61, u62, u63, u64, u65, u66, u67, u68, u69, u70, u71, u72, u73, u74, u75, u76, u77, u78, u79, u80, u81, u82, u83, u84, u85, u86, u87, u88, u89, u90, u91, u92, u93, u94, u95, u96, u97, u98, u99, u100, u101, u102, u103, u104, u105, u106, u107, u108, u109, u110, u111, u112, u113, u114, u115, u116, u117, u118, u119, u120, u121, u122, u123, u124, u125, u126, u127, u128, u129, u130, u131, u132, u133, u134, u135, u136, u137, u138, u139, u140, u141, u142, u143, u144, u145, u146, u147, u148, u149, u150, u151, u152, u153, u154, u155, u156, u157, u158, u159, u160, u161, u162, u163, u164, u165, u166, u167, u168, u169, u170, u171, u172, u173, u174, u175, u176, u177, u178, u179, u180, u181, u182, u183, u184, u185, u186, u187, u188, u189, u190, u191, u192, u193, u194, u195, u196, u197, u198, u199, u200, u201, u202, u203, u204, u205, u206, u207, u208, u209, u210, u211, u212, u213, u214, u215, u216, u217], []⟩ W := by
  conv at hc => lhs; whnf
  injection hc with hc
  subst hc
  have HS : Hid (S5 w dk dv (.slice ak dk.length ck) (.slice av dv.length cv) R M n (D.del (kl t)) W) := S
  have HT : Hid (Tied dk dv D) := T
  have hli : (dk.length : Int) ≤ 4096 := by omega
  clear S T
  go_wp2_with fail
  go_loopg [24, 25] dk.length (fun g wv jv wq => ∃ j c : Nat, wv = .int .i64 ((dk.length : Int) - (c : Int)) ∧ jv = .int .i64 (j : Int) ∧ j + g = dk.length ∧ c ≤ j ∧ Hid (c = (dk.take j).count t) ∧ wq = W)
  case atStart => exact ⟨0, 0, by simp, rfl, by omega, Nat.le_refl _, by show _ = _; simp, rfl⟩
  case round =>
    obtain ⟨j, c, rfl, rfl, hjg, hcj, hct, hwq⟩ := hrel
    subst hwq
    by_cases hj : j < dk.length
    · obtain ⟨g, ha, hcell, _, _⟩ := own_cell HS.out.two.ok hj
      subst ha
      have hjn : (j : Int) < (dk.length : Int) := by omega
      have HC : Hid ((dk.take (j + 1)).count t = (dk.take j).count t + if dk[j] = t then 1 else 0) := by
        show _ = _
        rw [List.take_succ_eq_append_getElem hj, List.count_append, List.count_singleton]
        simp
      generalize dk[j] = x at hcell HC
      by_cases hx : x = t
      · subst hx
        go_wp2_with fail
        go_roundg (gk - 1)
        case measure => omega
        case rel => exact ⟨j + 1, c + 1, by go_num, by go_num, by omega, by omega, by show _ = _; rw [HC.out, hct.out]; simp, rfl⟩
      · have hxb : (x == t) = false := by simp [hx]
        go_wp2_with fail
        go_roundg (gk - 1)
        case measure => omega
        case rel => exact ⟨j + 1, c, rfl, by go_num, by omega, by omega, by show _ = _; rw [HC.out, hct.out]; simp [hx], rfl⟩
    · have hjn : (dk.length : Int) ≤ (j : Int) := by omega
      have hcc : Hid ((Maps.size (D.del (kl t)) : Int) = (dk.length : Int) - (c : Int)) := by
        show _ = _
        rw [left_size HT.out, hct.out, List.take_of_length_le (by omega)]
      obtain ⟨c0, c2, c3, c4, c6⟩ := HS.out.box.cell
      clear hct hcj hjg hj
      have hcn : ((Maps.size (D.del (kl t)) : Int) == (dk.length : Int) - (c : Int)) = true := by rw [hcc.out]; simp
      have hcd : (Maps.size (D.del (kl t)) : Int) = (dk.length : Int) - (c : Int) := hcc.out
      go_wp2_with (at_len; refine wpList_len_own _ rfl _ 23 rfl 3 3 Yba.underlying23 _ M n _ rfl HS.out.own ?_)
      clear c0 c2 c3 c4 c6 hcn hcd hjn
      obtain ⟨W6, hW6⟩ : ∃ x, x = wr := ⟨_, rfl⟩
      subst hW6
      go_loopg [26] dk.length (fun g jv wq => ∃ j : Nat, jv = .int .i64 (j : Int) ∧ j + g = dk.length ∧ S5 w dk dv (.slice ak dk.length ck) (.slice av dv.length cv) R M n (D.del (kl t)) wq)
      case atStart => exact ⟨0, rfl, by omega, HS.out⟩
      case round =>
        obtain ⟨j, rfl, hjg, hS⟩ := hrel
        have HS5 : Hid (S5 w dk dv (.slice ak dk.length ck) (.slice av dv.length cv) R M n (D.del (kl t)) wr) := hS
        clear hS
        obtain ⟨c0, c2, c3, c4, c6⟩ := HS5.out.box.cell
        clear c0 c2 c3 c4
        by_cases hj : j < dk.length
        · have hlen := HT.out.len
          have hjv : j < dv.length := by omega
          have hvi : (dv.length : Int) = (dk.length : Int) := by omega
          obtain ⟨g, ha, hcell, _, _⟩ := own_cell HS5.out.two.ok hj
          subst ha
          obtain ⟨g2, ha2, hcell2, _, _⟩ := own_cell HS5.out.two.ov hjv
          subst ha2
          have hjn : (j : Int) < (dk.length : Int) := by omega
          have hjn2 : (j : Int) < (dv.length : Int) := by omega
          have hx := List.getElem?_eq_getElem hj
          have hy := List.getElem?_eq_getElem hjv
          have hwx := hwd _ (List.getElem_mem hj)
          generalize dk[j] = x at hcell hx hwx
          generalize dv[j] = y at hcell2 hy
          have HX : Hid (dk[j]? = some x ∧ dv[j]? = some y) := ⟨hx, hy⟩
          clear hx hy
          by_cases hxt : x = t
          · subst hxt
            have hrun := fun q => (HS5.out.drewN q).gone0 hwt
            go_wp2_with fail
            go_quiet (fail)
            go_wp2_with fail
            go_roundg (gk - 1)
            case measure => omega
            case rel => exact ⟨j + 1, by go_num, by omega, HS5.out.drewN _⟩
          · have hxb : (x == t) = false := by simp [hxt]
            have hrun := fun q => (HS5.out.drewN q).look HT.out HX.out.1 HX.out.2 hxt hwx
            go_wp2_with fail
            go_quiet (fail)
            go_wp2_with fail
            go_roundg (gk - 1)
            case measure => omega
            case rel => exact ⟨j + 1, by go_num, by omega, HS5.out.drewN _⟩
        · have hjn : (dk.length : Int) ≤ (j : Int) := by omega
          have hrun := HS5.out.gone0 hwt
          go_wp2_with fail
          go_ret
          exact ⟨rfl, HS5.out.two.below⟩

end Go.Proofs.Ybulkdixq.lawS5502CWhole
