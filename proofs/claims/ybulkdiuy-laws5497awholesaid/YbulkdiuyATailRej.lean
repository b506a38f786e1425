import Derived.Test.YbulkdiuyADefs
namespace Go.Proofs.Ybulkdiuy.lawS5497AWhole
open Go.RowKit Go.Conc Go.Deep
open Go.MuLone
attribute [local go_sem] run_neq_23 run_neq_48

set_option maxHeartbeats 3200000 in
set_option maxRecDepth 1000000 in
theorem tail_rej (w : World) (n m : Nat) (hn : n ≤ 255) (hm : m ≤ 255) (st : Bool) (ps qs : List Nat) (g1 g3 R G cb wk : Nat) (az : Option Addr) (c : Nat) (W : World) (S : Snap w n m st ps qs g1 g3 R cb wk (.slice az m c) (ptrs qs) #[ptr G] 1 0 W) (ha : st = true ∨ m = n)
    (cd : Code) (hc : Yba.f3.body.bind (suffix 22) = some cd) (u0 u1 u3 u4 u5 u6 u7 u8 u9 u10 u14 u15 u16 u22 u23 u24 u25 u26 u27 u28 u29 u30 u31 u32 u33 u34 u35 u36 u37 u38 u39 u40 u41 u42 u43 u44 u45 u46 u47 u48 u49 u50 u51 u52 u53 u54 u55 u56 u57 u58 u59 u60 u61 u62 u63 u64 u65 u66 u67 u68 u69 u70 u71 u72 u73 u74 u75 u76 u77 u78 u79 u80 u81 u82 u83 u84 u85 u86 u87 u88 u89 u90 u91 u92 u93 u94 u95 u96 u97 u98 u99 u100 u101 u102 u103 u104 u105 u106 u107 u108 u109 u110 u111 u112 u113 u114 u115 u116 u117 u118 u119 u120 u121 u122 u123 u124 u125 u126 u127 u128 u129 u130 u131 u132 u133 u134 u135 u136 u137 u138 u139 u140 u141 u142 u143 u144 u145 u146 u147 u148 u149 u150 u151 u152 u153 u154 u155 u156 u157 u158 u159 u160 u161 u162 u163 u164 u165 u166 u167 u168 u169 u170 u171 u172 u173 u174 u175 u176 u177 u178 u179 u180 u181 u182 u183 u184 u185 u186 u187 u188 u189 u190 u191 u192 u193 u194 u195 u196 u197 u198 u199 u200 u201 u202 u203 u204 u205 u206 u207 : Value) :
    Code.wp Yba.prog cd (bodyPost Yba.prog Yba.f3 (fun e w' => e = .returned (.bool true) ∧ Below w.heap.size w w')) ⟨#[u0, u1, .bool st, u3, u4, u5, u6, u7, u8, u9, u10, .int .i64 (n : Int), .int .i64 (m : Int), .slice (some ⟨g1, 0, none⟩) n n, u14, u15, u16, .slice (some ⟨g3, 0, none⟩) m m, .pointer (some ⟨R, 0, none⟩), .pointer (some ⟨G, 0, none⟩), .pointer (some ⟨wk, 0, none⟩), .pointer none, u22, u23, u24, u25, u26, u27, u28, u29, u30, u31, u32, u33, u34, u35, u36, u37, u38, u39, u40, u41, u42, u43, u44, u45, u46, u47, u48, u49, u50, u51, u52, u53, u54, u55, u56, u57, u58, u59, u60, u61, u62, u63, u64, u65, u66, u67, u68, u69, u70, u71, u72, u73, u74, u75, u76, u77, u78, u79, u80, u81, u82, u83, u84, u85, u86, u87, u88, u89, u90, u91, u92, u93, u94, u95, u96, u97, u98, u99, u100, u101, u102, u103, u104, u105, u106, u107, u108, u109, u110, u111, u112, u113, u114, u115, u116, u117, u118, u119, u120, u121, u122, u123, u124, u125, u126, u127, u128, u129, u130, u131, u132, u133, u134, u135, u136, u137, u138, u139, u140, u141, u142, u143, u144, u145, u146, u147, u148, u149, u150, u151, u152, u153, u154, u155, u156, u157, u158, u159, u160, u161, u162, u163, u164, u165, u166, u167, u168, u169, u170, u171, u172, u173, u174, u175, u176, u177, u178, u179, u180, u181, u182, u183, u184, u185, u186, u187, u188, u189, u190, u191, u192, u193, u194, u195, u196, u197, u198, u199, u200, u201, u202, u203, u204, u205, u206, u207], []⟩ W := by
  conv at hc => lhs; whnf
  injection hc with hc
  subst hc
  have HS : Hid (Snap w n m st ps qs g1 g3 R cb wk (.slice az m c) (ptrs qs) #[ptr G] 1 0 W) := S
  have HA : Hid (st = true ∨ m = n) := ha
  clear S ha
  obtain ⟨c0, c18, c27, c29⟩ := HS.out.sch.cell
  have z18 := HS.out.sch.free 18
  clear c0 c27 c29
  go_wp2_with fail
  refine (mtry_free ⟨R, 18, none⟩ W c18 z18).mono ?_
  rintro e w' ⟨rfl, rfl⟩
  have HL : Hid (Sch (W.setCell ⟨R, 18, none⟩ (.int .i32 1)) R (.slice (some ⟨g1, 0, none⟩) n n) (.slice az m c) 1 st) := HS.out.sch.lock 1
  go_wp2_with fail
  refine (unlock_held Yba.muLib ⟨R, 18, none⟩ _ HL.out.cell.2.1 (HL.out.free _)).mono ?_
  rintro e w' ⟨rfl, rfl⟩
  have HS2 : Hid (Snap w n m st ps qs g1 g3 R cb wk (.slice az m c) (ptrs qs) #[ptr G] 1 0 ((W.setCell ⟨R, 18, none⟩ (.int .i32 1)).setCell ⟨R, 18, none⟩ (.int .i32 0))) := HS.out.relock
  clear HS HL c18 z18
  generalize (W.setCell ⟨R, 18, none⟩ (.int .i32 1)).setCell ⟨R, 18, none⟩ (.int .i32 0) = W2 at HS2
  obtain ⟨c0, c18, c27, c29⟩ := HS2.out.sch.cell
  clear c18 c27
  have hst : (st != st) = false := by simp
  go_wp2_with fail
  clear c0 c29
  go_loopg [22] n (fun g iv wq => ∃ k : Nat, iv = .int .i64 (k : Int) ∧ k + g = n ∧ Snap w n m st ps qs g1 g3 R cb wk (.slice az m c) (ptrs qs) #[ptr G] 1 0 wq)
  case atStart => exact ⟨0, rfl, by omega, HS2.out⟩
  case round =>
    obtain ⟨k, rfl, hkg, hS⟩ := hrel
    have HS3 : Hid (Snap w n m st ps qs g1 g3 R cb wk (.slice az m c) (ptrs qs) #[ptr G] 1 0 wr) := hS
    clear hS
    by_cases hk : k < n
    · obtain ⟨c0, c18, c27, c29⟩ := HS3.out.sch.cell
      clear c18 c27 c29
      have hkp : k < ps.length := by have := HS3.out.pl; omega
      have hb := List.getElem?_eq_getElem hkp
      generalize ps[k] = pb at hb
      have hc1 := row_cell HS3.out.row1 hb
      have hel := HS3.out.el k pb hb
      have p0 : wr.cell? ⟨pb, 0, none⟩ = some (.int .i64 k) := by simp [World.cell?, hel, procA]
      simp only [ptr] at hc1
      have hkn : (k : Int) < (n : Int) := by omega
      clear hel hb hkp
      go_wp2_with fail
      go_quiet (fail)
      go_wp2_with fail
      go_roundg (gk - 1)
      case measure => omega
      case rel => exact ⟨k + 1, by go_num, by omega, HS3.out.drewN _⟩
    · obtain ⟨c0, c18, c27, c29⟩ := HS3.out.sch.cell
      clear c0 c18 c29
      have hkn : (n : Int) ≤ (k : Int) := by omega
      have hw := HS3.out.wkr
      have k0 : wr.cell? ⟨wk, 0, none⟩ = some (.chan (some cb)) := by simp [World.cell?, hw]
      have hlen := fun ty => run_len_chan (P := Yba.prog) 49 ty Yba.underlying49 HS3.out.ch
      clear hw
      cases st with
      | true =>
        go_wp2_with fail
        clear c27 k0 hlen
        clear hkg hk hkn
        obtain ⟨W6, hW6⟩ : ∃ x, x = wr := ⟨_, rfl⟩
        subst hW6
        go_loopg [24] m (fun g' iv wq => ∃ k : Nat, iv = .int .i64 (k : Int) ∧ k + g' = m ∧ Snap w n m true ps qs g1 g3 R cb wk (.slice az m c) (ptrs qs) #[ptr G] 1 0 wq)
        case atStart => exact ⟨0, rfl, by omega, HS3.out⟩
        case round =>
          obtain ⟨k, rfl, hkg, hS⟩ := hrel
          have HS6 : Hid (Snap w n m true ps qs g1 g3 R cb wk (.slice az m c) (ptrs qs) #[ptr G] 1 0 wr) := hS
          clear hS
          by_cases hk : k < m
          · obtain ⟨c0, c18, c27, c29⟩ := HS6.out.sch.cell
            clear c0 c18 c29
            have hkq : k < qs.length := by have := HS6.out.ql; omega
            have hb := List.getElem?_eq_getElem hkq
            generalize qs[k] = pb at hb
            have hc3 := row_cell HS6.out.row3 hb
            have hx : (ptrs qs)[k]? = some (ptr pb) := by simp only [ptrs, List.getElem?_map, hb, Option.map_some]
            obtain ⟨g4, hg4, hsp⟩ : ∃ g4, az = some ⟨g4, 0, none⟩ ∧ wr.cell? ⟨g4, k, none⟩ = some (ptr pb) := by
              have hl : (ptrs qs).length = m := by simp [ptrs, HS6.out.ql]
              have h := HS6.out.own
              rw [← hl] at h
              exact own_at h hx
            subst hg4
            simp only [ptr] at hc3 hsp
            have hkn : (k : Int) < (m : Int) := by omega
            have hkn2 : (k : Int) < (m : Int) + 1 := by omega
            clear hb hkq hx
            go_wp2_with fail
            go_quiet (fail)
            go_wp2_with fail
            go_roundg (gk - 1)
            case measure => omega
            case rel => exact ⟨k + 1, by go_num, by omega, HS6.out.drewN _⟩
          · have hkn : (m : Int) ≤ (k : Int) := by omega
            go_wp2_with fail
            go_ret
            exact ⟨rfl, HS6.out.below⟩
      | false =>
        obtain rfl : m = n := by simpa using HA.out
        have hmn : ((m : Int) == (m : Int)) = true := by simp
        go_wp2_with fail
        clear hmn
        clear c27 k0 hlen
        clear hkg hk hkn
        obtain ⟨W6, hW6⟩ : ∃ x, x = wr := ⟨_, rfl⟩
        subst hW6
        go_loopg [24] m (fun g' iv wq => ∃ k : Nat, iv = .int .i64 (k : Int) ∧ k + g' = m ∧ Snap w m m false ps qs g1 g3 R cb wk (.slice az m c) (ptrs qs) #[ptr G] 1 0 wq)
        case atStart => exact ⟨0, rfl, by omega, HS3.out⟩
        case round =>
          obtain ⟨k, rfl, hkg, hS⟩ := hrel
          have HS6 : Hid (Snap w m m false ps qs g1 g3 R cb wk (.slice az m c) (ptrs qs) #[ptr G] 1 0 wr) := hS
          clear hS
          by_cases hk : k < m
          · obtain ⟨c0, c18, c27, c29⟩ := HS6.out.sch.cell
            clear c0 c18 c29
            have hkq : k < qs.length := by have := HS6.out.ql; omega
            have hb := List.getElem?_eq_getElem hkq
            generalize qs[k] = pb at hb
            have hc3 := row_cell HS6.out.row3 hb
            have hx : (ptrs qs)[k]? = some (ptr pb) := by simp only [ptrs, List.getElem?_map, hb, Option.map_some]
            obtain ⟨g4, hg4, hsp⟩ : ∃ g4, az = some ⟨g4, 0, none⟩ ∧ wr.cell? ⟨g4, k, none⟩ = some (ptr pb) := by
              have hl : (ptrs qs).length = m := by simp [ptrs, HS6.out.ql]
              have h := HS6.out.own
              rw [← hl] at h
              exact own_at h hx
            subst hg4
            simp only [ptr] at hc3 hsp
            have hkn : (k : Int) < (m : Int) := by omega
            have hkn2 : (k : Int) < (m : Int) + 1 := by omega
            clear hb hkq hx
            go_wp2_with fail
            go_quiet (fail)
            go_wp2_with fail
            go_roundg (gk - 1)
            case measure => omega
            case rel => exact ⟨k + 1, by go_num, by omega, HS6.out.drewN _⟩
          · have hkn : (m : Int) ≤ (k : Int) := by omega
            go_wp2_with fail
            go_ret
            exact ⟨rfl, HS6.out.below⟩

end Go.Proofs.Ybulkdiuy.lawS5497AWhole
