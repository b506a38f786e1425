import Derived.Test.YbulkdixqCTail0
namespace Go.Proofs.Ybulkdixq.lawS5502CWhole
open Go.RowKit Go.Maps Go.Deep

set_option maxHeartbeats 3200000 in
set_option maxRecDepth 1000000 in
theorem main_any (w : World) (a0 a1 : Option Addr) (n0 c0 n1 c1 : Nat) (Kf Zf : Nat → Int) (h0 : IsInts w a0 n0 Kf) (h1 : IsInts w a1 n1 Zf) (hwK : ∀ i, i < n0 → (Lit.int .i64 (Kf i)).wf = true) (hwZ : ∀ i, i < n1 → (Lit.int .i64 (Zf i)).wf = true) (hn0 : n0 ≤ 4096) (sel : Nat) (hsel : sel < 256) (oth : Int) (hwo : (Lit.int .i64 oth).wf = true) (un : Bool) :
    Calls Yba.prog 3 #[.slice a0 n0 c0, .slice a1 n1 c1, .int .u8 (sel : Int), .int .i64 oth, .bool un] w fun e w' => e = .returned (.bool true) ∧ Below w.heap.size w w' := by
  have hni : (n0 : Int) ≤ 4096 := by omega
  obtain ⟨i3, hi, hz0, hz1, hz2⟩ := info_parts info3
  have I3 : Hid (Yba.prog.info? 3 = some i3 ∧ i3.zero = some (.int .i64 0) ∧ i3.size = 1 ∧ i3.bytes = 8) := ⟨hi, hz0, hz1, hz2⟩
  have H0 : Hid (IsInts w a0 n0 Kf) := h0
  have H1 : Hid (IsInts w a1 n1 Zf) := h1
  clear hi hz0 hz1 hz2 h0 h1
  go_enter Yba.func3, Yba.ntmps3
  go_wp2_with fail
  go_loopg [11, 12, 36] n0 (fun g vk vv iv wq => ∃ (k : Nat) (dk dv : List Int), iv = .int .i64 (k : Int) ∧ k + g = n0 ∧ Hid ((dk, dv) = mod Kf (Vf n1 Zf) k) ∧ Two w dk dv vk vv wq)
  case atStart => exact ⟨0, [], [], rfl, by omega, rfl, Two.nil w⟩
  case round =>
    obtain ⟨k, dk, dv, rfl, hkg, hmod, hT⟩ := hrel
    have HTd : Hid (Tied dk dv (dat Kf (Vf n1 Zf) k)) := by
      have h := tied Kf (Vf n1 Zf) k
      rw [← hmod.out] at h
      exact h
    have hlv : dv.length ≤ k := by
      have h := mod_len Kf (Vf n1 Zf) k
      rw [← hmod.out] at h
      have h2 := HTd.out.len
      simp only [] at h
      omega
    have hlk : dk.length ≤ k := by
      have h := mod_len Kf (Vf n1 Zf) k
      rw [← hmod.out] at h
      exact h
    obtain ⟨ak, ck, hvk⟩ := own_shape hT.ok
    subst hvk
    obtain ⟨av, cv, hvv⟩ := own_shape hT.ov
    subst hvv
    by_cases hk : k < n0
    · obtain ⟨f, rfl⟩ : ∃ f, gk = f + 1 := ⟨gk - 1, by omega⟩
      have HTw : Hid (Two w dk dv (.slice ak dk.length ck) (.slice av dv.length cv) wr) := hT
      clear hT
      obtain ⟨b, o, ha, hc⟩ := H0.out.at (by omega)
      subst ha
      have ck0 := old HTw.out.below (hc k hk)
      have hkn : (k : Int) < (n0 : Int) := by omega
      clear hc
      by_cases hk1 : k < n1
      · obtain ⟨b1, o1, ha1, hc1⟩ := H1.out.at (by omega)
        subst ha1
        have ck1 := old HTw.out.below (hc1 k hk1)
        have hkn1 : (k : Int) < (n1 : Int) := by omega
        have HMS : Hid (mod Kf (Vf n1 Zf) (k + 1) = st (dk, dv) (Kf k) (Zf k)) := by show _ = _; rw [mod, ← hmod.out]; simp [Vf, hk1]
        clear hc1
        go_wp2_with fail
        clear ck0 ck1
        obtain ⟨wo, hwo⟩ : ∃ wo, wo = wr := ⟨_, rfl⟩
        subst hwo
        go_loopg [16, 17] dk.length (fun g fv jv wq => ∃ j : Nat, fv = .bool false ∧ jv = .int .i64 (j : Int) ∧ j + g = dk.length ∧ wq = wo ∧ Hid (∀ i x, i < j → dk[i]? = some x → x ≠ Kf k))
        case atStart => exact ⟨0, rfl, rfl, by omega, rfl, fun i x hi => by omega⟩
        case round =>
          obtain ⟨j, rfl, rfl, hjg, hwq, hno⟩ := hrel
          subst hwq
          by_cases hj : j < dk.length
          · have hjv : j < dv.length := by have := HTd.out.len; omega
            obtain ⟨g, ha, hcell, _, _⟩ := own_cell HTw.out.ok hj
            subst ha
            obtain ⟨g2, ha2, hcell2, hfr2, hge2⟩ := own_cell HTw.out.ov hjv
            subst ha2
            have hjn : (j : Int) < (dk.length : Int) := by omega
            have hjn2 : (j : Int) < (dv.length : Int) := by omega
            have HX : Hid (dk[j]? = some dk[j]) := List.getElem?_eq_getElem hj
            generalize dk[j] = x at hcell HX
            generalize dv[j] = y at hcell2
            by_cases hx : x = Kf k
            · subst hx
              go_wp2_with fail
              go_roundg f
              case measure => omega
              case rel => exact ⟨k + 1, dk, dv.set j (Zf k), by go_num, by omega, by show _ = _; rw [HMS.out, st_hit HTd.out.nodup HX.out], HTw.out.set j _⟩
            · have hxb : (x == Kf k) = false := by simp [hx]
              go_wp2_with fail
              go_roundg (gk - 1)
              case measure => omega
              case rel => exact ⟨j + 1, rfl, by go_num, by omega, rfl, fun i y hi hy => by
                rcases Nat.lt_or_ge i j with h | h
                · exact hno.out i y h hy
                · obtain rfl : i = j := by omega
                  rw [HX.out] at hy
                  cases hy
                  exact hx⟩
          · have hjn : (dk.length : Int) ≤ (j : Int) := by omega
            have HMM : Hid (Kf k ∉ dk) := by
              intro hm
              obtain ⟨i, hi, e⟩ := List.getElem_of_mem hm
              exact hno.out i _ (by omega) (List.getElem?_eq_getElem hi) e
            have hsz := HTw.out.below.size
            go_wp2_with (first
              | (at_builtin; (refine wpList_append_lies _ rfl (.tmp 68) (.tmp 70) 22 rfl w.heap.size 3 i3 (.int .i64 0) 1 8 Yba.underlying22 I3.out.1 I3.out.2.1 I3.out.2.2.1 I3.out.2.2.2 rfl (by decide) _ dk.length (ints dk) rfl (World.ownsRow.alloc HTw.out.ok _) ⟨wr.heap.size, 0, none⟩ 1 1 [.int .i64 (Kf k)] rfl rfl (news1 _ _ _) (int_one _) (by omega) (by unfold maxLen; omega) (by omega) (by simp <;> omega) (wr.heap.size + 1) (nblk_alloc _ _) ?_); intro g1 cap1 w1 hown1 hgrow1 hat1 hlt1; have T1 := HTw.out.appk hown1 hgrow1 hat1; have HT1 : Hid _ := T1; have hsz1 := T1.below.size; clear T1 hown1 hgrow1 hat1 hlt1)
              | (at_builtin; go_must (refine wpList_append_lies _ rfl (.tmp 72) (.tmp 74) 22 rfl w.heap.size 3 i3 (.int .i64 0) 1 8 Yba.underlying22 I3.out.1 I3.out.2.1 I3.out.2.2.1 I3.out.2.2.2 rfl (by decide) _ dv.length (ints dv) rfl (World.ownsRow.alloc HT1.out.ov _) ⟨w1.heap.size, 0, none⟩ 1 1 [.int .i64 (Zf k)] rfl rfl (news1 _ _ _) (int_one _) (by omega) (by unfold maxLen; omega) (by omega) (by simp <;> omega) (w1.heap.size + 1) (nblk_alloc _ _) ?_); intro g2 cap2 w2 hown2 hgrow2 hat2 hlt2; have T2 := HT1.out.appv hown2 hgrow2 hat2; have HT2 : Hid _ := T2; clear T2 hown2 hgrow2 hat2 hlt2))
            go_roundg f
            case measure => omega
            case rel =>
              have e1 := HT2.out
              exact ⟨k + 1, dk ++ [Kf k], dv ++ [(Zf k)], by go_num, by omega, by show _ = _; rw [HMS.out, st_miss HMM.out], e1⟩

      · have hkn1 : ¬ (k : Int) < (n1 : Int) := by omega
        have HMS : Hid (mod Kf (Vf n1 Zf) (k + 1) = st (dk, dv) (Kf k) (k : Int)) := by show _ = _; rw [mod, ← hmod.out]; simp [Vf, hk1]
        go_wp2_with fail
        clear ck0
        obtain ⟨wo, hwo⟩ : ∃ wo, wo = wr := ⟨_, rfl⟩
        subst hwo
        go_loopg [16, 17] dk.length (fun g fv jv wq => ∃ j : Nat, fv = .bool false ∧ jv = .int .i64 (j : Int) ∧ j + g = dk.length ∧ wq = wo ∧ Hid (∀ i x, i < j → dk[i]? = some x → x ≠ Kf k))
        case atStart => exact ⟨0, rfl, rfl, by omega, rfl, fun i x hi => by omega⟩
        case round =>
          obtain ⟨j, rfl, rfl, hjg, hwq, hno⟩ := hrel
          subst hwq
          by_cases hj : j < dk.length
          · have hjv : j < dv.length := by have := HTd.out.len; omega
            obtain ⟨g, ha, hcell, _, _⟩ := own_cell HTw.out.ok hj
            subst ha
            obtain ⟨g2, ha2, hcell2, hfr2, hge2⟩ := own_cell HTw.out.ov hjv
            subst ha2
            have hjn : (j : Int) < (dk.length : Int) := by omega
            have hjn2 : (j : Int) < (dv.length : Int) := by omega
            have HX : Hid (dk[j]? = some dk[j]) := List.getElem?_eq_getElem hj
            generalize dk[j] = x at hcell HX
            generalize dv[j] = y at hcell2
            by_cases hx : x = Kf k
            · subst hx
              go_wp2_with fail
              go_roundg f
              case measure => omega
              case rel => exact ⟨k + 1, dk, dv.set j (k : Int), by go_num, by omega, by show _ = _; rw [HMS.out, st_hit HTd.out.nodup HX.out], HTw.out.set j _⟩
            · have hxb : (x == Kf k) = false := by simp [hx]
              go_wp2_with fail
              go_roundg (gk - 1)
              case measure => omega
              case rel => exact ⟨j + 1, rfl, by go_num, by omega, rfl, fun i y hi hy => by
                rcases Nat.lt_or_ge i j with h | h
                · exact hno.out i y h hy
                · obtain rfl : i = j := by omega
                  rw [HX.out] at hy
                  cases hy
                  exact hx⟩
          · have hjn : (dk.length : Int) ≤ (j : Int) := by omega
            have HMM : Hid (Kf k ∉ dk) := by
              intro hm
              obtain ⟨i, hi, e⟩ := List.getElem_of_mem hm
              exact hno.out i _ (by omega) (List.getElem?_eq_getElem hi) e
            have hsz := HTw.out.below.size
            go_wp2_with (first
              | (at_builtin; (refine wpList_append_lies _ rfl (.tmp 68) (.tmp 70) 22 rfl w.heap.size 3 i3 (.int .i64 0) 1 8 Yba.underlying22 I3.out.1 I3.out.2.1 I3.out.2.2.1 I3.out.2.2.2 rfl (by decide) _ dk.length (ints dk) rfl (World.ownsRow.alloc HTw.out.ok _) ⟨wr.heap.size, 0, none⟩ 1 1 [.int .i64 (Kf k)] rfl rfl (news1 _ _ _) (int_one _) (by omega) (by unfold maxLen; omega) (by omega) (by simp <;> omega) (wr.heap.size + 1) (nblk_alloc _ _) ?_); intro g1 cap1 w1 hown1 hgrow1 hat1 hlt1; have T1 := HTw.out.appk hown1 hgrow1 hat1; have HT1 : Hid _ := T1; have hsz1 := T1.below.size; clear T1 hown1 hgrow1 hat1 hlt1)
              | (at_builtin; go_must (refine wpList_append_lies _ rfl (.tmp 72) (.tmp 74) 22 rfl w.heap.size 3 i3 (.int .i64 0) 1 8 Yba.underlying22 I3.out.1 I3.out.2.1 I3.out.2.2.1 I3.out.2.2.2 rfl (by decide) _ dv.length (ints dv) rfl (World.ownsRow.alloc HT1.out.ov _) ⟨w1.heap.size, 0, none⟩ 1 1 [.int .i64 (k : Int)] rfl rfl (news1 _ _ _) (int_one _) (by omega) (by unfold maxLen; omega) (by omega) (by simp <;> omega) (w1.heap.size + 1) (nblk_alloc _ _) ?_); intro g2 cap2 w2 hown2 hgrow2 hat2 hlt2; have T2 := HT1.out.appv hown2 hgrow2 hat2; have HT2 : Hid _ := T2; clear T2 hown2 hgrow2 hat2 hlt2))
            go_roundg f
            case measure => omega
            case rel =>
              have e1 := HT2.out
              exact ⟨k + 1, dk ++ [Kf k], dv ++ [(k : Int)], by go_num, by omega, by show _ = _; rw [HMS.out, st_miss HMM.out], e1⟩

    · obtain rfl : n0 = k := by omega
      have HTw : Hid (Two w dk dv (.slice ak dk.length ck) (.slice av dv.length cv) wr) := hT
      have hwd : ∀ x ∈ dk, (Lit.int .i64 x).wf = true := by
        intro x hx
        have h := hmod.out
        obtain ⟨i, hi, e⟩ := mod_mem Kf (Vf n1 Zf) (x := x) n0 (by rw [← h]; exact hx)
        rw [e]
        exact hwK i hi
      clear hT
      obtain ⟨W5, hW5⟩ : ∃ x, x = wr := ⟨_, rfl⟩
      subst hW5
      go_upto_region 21 with fail
      go_cut [18] (fun v wc => v = .map none ∧ wc = W5)
      case first =>
        go_wp2_with fail
        go_meet
        exact ⟨rfl, rfl⟩
      case rest =>
        obtain ⟨rfl, rfl⟩ := hcut
        go_step
        exact tail0 w a0 a1 n0 c0 n1 c1 Kf Zf H0.out H1.out hwK hwZ hn0 sel hsel oth hwo un dk dv ak av ck cv _ HTw.out HTd.out (by omega) hwd _ (by kernel_rfl) _ _ _ _ _ _ _ _ _ _ _ _ _ _ _ _ _ _ _ _ _ _ _ _ _ _ _ _ _ _ _ _ _ _ _ _ _ _ _ _ _ _ _ _ _ _ _ _ _ _ _ _ _ _ _ _ _ _ _ _ _ _ _ _ _ _ _ _ _ _ _ _ _ _ _ _ _ _ _ _ _ _ _ _ _ _ _ _ _ _ _ _ _ _ _ _ _ _ _ _ _ _ _ _ _ _ _ _ _ _ _ _ _ _ _ _ _ _ _ _ _ _ _ _ _ _ _ _ _ _ _ _ _ _ _ _ _ _ _ _ _ _ _ _ _ _ _ _ _ _ _ _ _ _ _ _ _ _ _ _ _ _ _ _ _ _ _ _ _ _ _ _ _ _ _ _ _ _ _ _ _ _ _ _ _ _ _ _ _ _ _ _ _ _ _ _ _ _ _ _ _ _ _ _ _ _ _ _ _ _

end Go.Proofs.Ybulkdixq.lawS5502CWhole
