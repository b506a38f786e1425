import Derived.Test.YbulkdiuyBTail0
namespace Go.Proofs.Ybulkdiuy.lawS5497BWhole
open Go.RowKit Go.Deep

set_option maxHeartbeats 3200000 in
set_option maxRecDepth 1000000 in
theorem main_any (w : World) (now : Int) (a1 a2 a3 : Option Addr) (n1 c1 n2 c2 n3 c3 : Nat) (z1 z2 rb re : Nat → Int) (hn : n1 + n2 + n3 ≤ 1048576)
    (h1 : IsInts w a1 n1 z1) (h2 : IsInts w a2 n2 z2) (h3 : IsRes w a3 n3 rb re) :
    Calls Yba.prog 4 #[.int .i64 now, .slice a1 n1 c1, .slice a2 n2 c2, .slice a3 n3 c3] w fun e w' => e = .returned (.bool true) ∧ Below w.heap.size w w' := by
  have hni : (n1 : Int) + n2 + n3 ≤ 1048576 := by omega
  obtain ⟨i0, hi, hz0, hz1, hz2⟩ := info_parts info102
  obtain ⟨i1, hi1, hz10, hz11, hz12⟩ := info_parts info105
  have I0 : Hid (Yba.prog.info? 102 = some i0 ∧ i0.zero = some (.pointer none) ∧ i0.size = 1 ∧ i0.bytes = 8) := ⟨hi, hz0, hz1, hz2⟩
  have I1 : Hid (Yba.prog.info? 105 = some i1 ∧ i1.zero = some (.pointer none) ∧ i1.size = 1 ∧ i1.bytes = 8) := ⟨hi1, hz10, hz11, hz12⟩
  clear hi hz0 hz1 hz2 hi1 hz10 hz11 hz12
  have A1 : Hid (IsInts w a1 n1 z1) := h1
  have A2 : Hid (IsInts w a2 n2 z2) := h2
  have A3 : Hid (IsRes w a3 n3 rb re) := h3
  clear h1 h2 h3
  go_enter Yba.func4, Yba.ntmps4
  go_wp2_with fail
  have W0 : ∃ W, W = w.alloc (.cells (clk now (.slice none 0 0) (.slice none 0 0) (.slice none 0 0)) 101) := ⟨_, rfl⟩
  obtain ⟨W, hW⟩ := W0
  have HWc : Hid (W.heap[w.heap.size]? = some (.cells (clk now (.slice none 0 0) (.slice none 0 0) (.slice none 0 0)) 101 (0, 0)) ∧ Below w.heap.size w W) := by
    rw [hW]; exact ⟨blk_alloc_new _ _, (Below.refl _ _).alloc (Nat.le_refl _) _⟩
  change Code.wp _ _ _ _ (w.alloc (.cells (clk now (.slice none 0 0) (.slice none 0 0) (.slice none 0 0)) 101))
  rw [← hW]
  clear hW
  go_loopg [53] n1 (fun g iv wr => ∃ (k : Nat) (v : Value), iv = .int .i64 (k : Int) ∧ k + g = n1 ∧ Phase w W w.heap.size (clk now v (.slice none 0 0) (.slice none 0 0)) 102 (El1 z1) v k wr)
  case atStart => exact ⟨0, _, rfl, by omega, Phase.start 102 (El1 z1) HWc.out.2 HWc.out.1⟩
  case round =>
    obtain ⟨k, v, rfl, hkg, P⟩ := hrel
    by_cases hk : k < n1
    · skip
      obtain ⟨b, o, ha, hc⟩ : ∃ b o, a1 = some ⟨b, o, none⟩ ∧ ∀ j, j < n1 → w.cell? ⟨b, o + j, none⟩ = some (.int .i64 (z1 j)) := by
        rcases A1.out with h | h
        · omega
        · exact h
      subst ha
      have ck := old P.below (hc k hk)
      clear hc
      obtain ⟨k0, k2, k4, k7⟩ := clk_cells P.clock
      have kf := clk_free P.clock 2
      have hcl := lt_of P.clock
      obtain ⟨ps, hp, hown, hel⟩ := P.items
      obtain ⟨av, cv, hv⟩ := own_shape hown
      subst hv
      have HP : Hid _ := P
      have HO : Hid _ := hown
      have HE : Hid _ := hel
      have hsz := P.size
      have hkn : (k : Int) < (n1 : Int) := by omega
      clear P hown hel
      go_wp2_with (at_builtin; go_must (refine wpList_append_own _ rfl (.tmp 63) (.tmp 68) 83 rfl W.heap.size 102 i0 (.pointer none) 1 8 Yba.underlying83 I0.out.1 I0.out.2.1 I0.out.2.2.1 I0.out.2.2.2 rfl (by decide) _ k (ptrs ps) rfl (World.ownsRow.alloc (World.ownsRow.alloc HO.out _) _) ⟨wr.heap.size + 1, 0, none⟩ 1 1 [ptr wr.heap.size] rfl rfl (news2 _ _ _ _) (ptr_one _) (by unfold maxLen; omega) (by omega) (by simp; omega) ?_); intro v2 w2 hown2 hgrow hnil; obtain ⟨av2, cv2, hv2⟩ := own_shape hown2; subst hv2; have hcl2 := Phase.clock1 HP.out (by decide) ps HO.out (ext2 _ _ _) hgrow; have q2 := (clk_cells hcl2).2.1; have qf := clk_free hcl2 2; clear hnil hcl2)
      go_roundg (gk - 1)
      case measure => omega
      case rel =>
        have S := Phase.step (st1 z1) HP.out ⟨by decide, by decide, by decide⟩ (Nat.le_refl _) ⟨_, HWc.out.1⟩ HWc.out.2.size ps hp HO.out HE.out (ext2 _ _ _) wr.heap.size (at2 _ _ _) hown2 hgrow 2
        rw [clk_set2] at S
        exact ⟨k + 1, _, by go_num, by omega, S⟩
    · skip
      obtain rfl : n1 = k := by omega
      obtain ⟨x1, y1, hv1⟩ := P.items.shape
      subst hv1
      obtain ⟨WA, hWA⟩ : ∃ x, x = wr := ⟨_, rfl⟩
      subst hWA
      have PA : Hid (Phase w W w.heap.size (clk now (.slice x1 n1 y1) (.slice none 0 0) (.slice none 0 0)) 102 (El1 z1) (.slice x1 n1 y1) n1 WA) := P
      clear P hkg hk
      go_wp2_with fail
      go_loopg [76] n2 (fun g iv wr => ∃ (k : Nat) (v : Value), iv = .int .i64 (k : Int) ∧ k + g = n2 ∧ Phase w WA w.heap.size (clk now (.slice x1 n1 y1) v (.slice none 0 0)) 105 (El2 z2) v k wr)
      case atStart => exact ⟨0, _, rfl, by omega, Phase.start 105 (El2 z2) PA.out.below PA.out.clock⟩
      case round =>
        obtain ⟨k, v, rfl, hkg, P⟩ := hrel
        by_cases hk : k < n2
        · skip
          obtain ⟨b, o, ha, hc⟩ : ∃ b o, a2 = some ⟨b, o, none⟩ ∧ ∀ j, j < n2 → w.cell? ⟨b, o + j, none⟩ = some (.int .i64 (z2 j)) := by
            rcases A2.out with h | h
            · omega
            · exact h
          subst ha
          have ck := old P.below (hc k hk)
          clear hc
          obtain ⟨k0, k2, k4, k7⟩ := clk_cells P.clock
          have kf := clk_free P.clock 4
          have hcl := lt_of P.clock
          obtain ⟨ps, hp, hown, hel⟩ := P.items
          obtain ⟨av, cv, hv⟩ := own_shape hown
          subst hv
          have HP : Hid _ := P
          have HO : Hid _ := hown
          have HE : Hid _ := hel
          have hsz := P.size
          have hkn : (k : Int) < (n2 : Int) := by omega
          clear P hown hel k0 k2 k7
          go_wp2_with (at_builtin; go_must (refine wpList_append_own _ rfl (.tmp 86) (.tmp 91) 87 rfl WA.heap.size 105 i1 (.pointer none) 1 8 Yba.underlying87 I1.out.1 I1.out.2.1 I1.out.2.2.1 I1.out.2.2.2 rfl (by decide) _ k (ptrs ps) rfl (World.ownsRow.alloc (World.ownsRow.alloc HO.out _) _) ⟨wr.heap.size + 1, 0, none⟩ 1 1 [ptr wr.heap.size] rfl rfl (news2 _ _ _ _) (ptr_one _) (by unfold maxLen; omega) (by omega) (by simp <;> omega) ?_); intro v2 w2 hown2 hgrow hnil; obtain ⟨av2, cv2, hv2⟩ := own_shape hown2; subst hv2; have hcl2 := Phase.clock1 HP.out (by decide) ps HO.out (ext2 _ _ _) hgrow; have q2 := (clk_cells hcl2).2.2.1; have qf := clk_free hcl2 4; clear hnil hcl2)
          go_roundg (gk - 1)
          case measure => omega
          case rel =>
            have S := Phase.step (st2 z2) HP.out ⟨by decide, by decide, by decide⟩ (Nat.le_refl _) ⟨_, PA.out.clock⟩ PA.out.below.size ps hp HO.out HE.out (ext2 _ _ _) wr.heap.size (at2 _ _ _) hown2 hgrow 4
            rw [clk_set4] at S
            exact ⟨k + 1, _, by go_num, by omega, S⟩
        · skip
          obtain rfl : n2 = k := by omega
          obtain ⟨x2, y2, hv2⟩ := P.items.shape
          subst hv2
          obtain ⟨WB, hWB⟩ : ∃ x, x = wr := ⟨_, rfl⟩
          subst hWB
          have PB : Hid (Phase w WA w.heap.size (clk now (.slice x1 n1 y1) (.slice x2 n2 y2) (.slice none 0 0)) 105 (El2 z2) (.slice x2 n2 y2) n2 WB) := P
          clear P hkg hk
          go_wp2_with fail
          go_loopg [99] n3 (fun g iv wr => ∃ (k : Nat) (v : Value), iv = .int .i64 (k : Int) ∧ k + g = n3 ∧ Phase w WB w.heap.size (clk now (.slice x1 n1 y1) (.slice x2 n2 y2) v) 102 (El3 rb re) v k wr)
          case atStart => exact ⟨0, _, rfl, by omega, Phase.start 102 (El3 rb re) PB.out.below PB.out.clock⟩
          case round =>
            obtain ⟨k, v, rfl, hkg, P⟩ := hrel
            by_cases hk : k < n3
            · skip
              obtain ⟨b, o, ha, hc⟩ : ∃ b o, a3 = some ⟨b, o, none⟩ ∧ ∀ j, j < n3 → w.cell? ⟨b, o + j * 2, none⟩ = some (.int .i64 (rb j)) ∧ w.cell? ⟨b, o + j * 2 + 1, none⟩ = some (.int .i64 (re j)) := by
                rcases A3.out with h | h
                · omega
                · exact h
              subst ha
              have ck := old P.below (hc k hk).1
              have ck1 := old P.below (hc k hk).2
              clear hc
              obtain ⟨k0, k2, k4, k7⟩ := clk_cells P.clock
              have kf := clk_free P.clock 7
              have hcl := lt_of P.clock
              obtain ⟨ps, hp, hown, hel⟩ := P.items
              obtain ⟨av, cv, hv⟩ := own_shape hown
              subst hv
              have HP : Hid _ := P
              have HO : Hid _ := hown
              have HE : Hid _ := hel
              have hsz := P.size
              have hkn : (k : Int) < (n3 : Int) := by omega
              clear P hown hel k0 k2 k4
              go_wp2_with (at_builtin; go_must (refine wpList_append_own _ rfl (.tmp 115) (.tmp 120) 83 rfl WB.heap.size 102 i0 (.pointer none) 1 8 Yba.underlying83 I0.out.1 I0.out.2.1 I0.out.2.2.1 I0.out.2.2.2 rfl (by decide) _ k (ptrs ps) rfl (World.ownsRow.alloc (World.ownsRow.alloc (World.ownsRow.alloc (World.ownsRow.alloc HO.out _) _) _) _) ⟨wr.heap.size + 1 + 1 + 1, 0, none⟩ 1 1 [ptr (wr.heap.size + 1 + 1)] rfl rfl (news4 _ _ _ _ _ _) (ptr_one _) (by unfold maxLen; omega) (by omega) (by simp <;> omega) ?_); intro v2 w2 hown2 hgrow hnil; obtain ⟨av2, cv2, hv2⟩ := own_shape hown2; subst hv2; have hcl2 := Phase.clock1 HP.out (by decide) ps HO.out (ext4 _ _ _ _ _) hgrow; have q2 := (clk_cells hcl2).2.2.2; have qf := clk_free hcl2 7; clear hnil hcl2)
              go_roundg (gk - 1)
              case measure => omega
              case rel =>
                have S := Phase.step (st3 rb re) HP.out ⟨by decide, by decide, by decide⟩ (Nat.le_refl _) ⟨_, PB.out.clock⟩ PB.out.below.size ps hp HO.out HE.out (ext4 _ _ _ _ _) (wr.heap.size + 1 + 1) ⟨wr.heap.size + 1, (at4 _ _ _ _ _).2, (at4 _ _ _ _ _).1⟩ hown2 hgrow 7
                rw [clk_set7] at S
                exact ⟨k + 1, _, by go_num, by omega, S⟩
            · skip
              obtain rfl : n3 = k := by omega
              obtain ⟨x3, y3, hv3⟩ := P.items.shape
              subst hv3
              obtain ⟨WC, hWC⟩ : ∃ x, x = wr := ⟨_, rfl⟩
              subst hWC
              have PC : Hid (Phase w WB w.heap.size (clk now (.slice x1 n1 y1) (.slice x2 n2 y2) (.slice x3 n3 y3)) 102 (El3 rb re) (.slice x3 n3 y3) n3 WC) := P
              clear P hkg hk
              have HI1 : Hid (Items W.heap.size 102 (El1 z1) (.slice x1 n1 y1) n1 WC) := (PA.out.items.keep (st1 z1) (by decide) PB.out.keep).keep (st1 z1) (by decide) PC.out.keep
              have HI2 : Hid (Items WA.heap.size 105 (El2 z2) (.slice x2 n2 y2) n2 WC) := PB.out.items.keep (st2 z2) (by decide) PC.out.keep
              have HI3 : Hid (Items WB.heap.size 102 (El3 rb re) (.slice x3 n3 y3) n3 WC) := PC.out.items
              go_wp2_with fail
              refine (next_any WC w.heap.size now x1 x2 x3 n1 y1 n2 y2 n3 y3 W.heap.size WA.heap.size WB.heap.size z1 z2 rb re (by omega) (by omega) (by omega) PC.out.clock HI1.out HI2.out HI3.out).mono ?_
              rintro e W4 ⟨rfl, hb4⟩
              have HB4 : Hid (Below WC.heap.size WC W4) := hb4
              clear hb4
              have HS4 : Hid (Snap w now x1 x2 x3 n1 y1 n2 y2 n3 y3 z1 z2 rb re W4) :=
                Snap.later ⟨PC.out.below, PC.out.clock, ⟨_, HI1.out⟩, ⟨_, HI2.out⟩, ⟨_, HI3.out⟩⟩ HB4.out
              go_upto_region 21 with fail
              go_cut [19] (fun cv wc => cv = .slice none 0 0 ∧ wc = W4)
              case first =>
                go_wp2_with fail
                go_meet
                exact ⟨rfl, rfl⟩
              case rest =>
                obtain ⟨rfl, rfl⟩ := hcut
                go_step
                exact tail0 w now a1 a2 a3 n1 c1 n2 c2 n3 c3 z1 z2 rb re x1 x2 x3 y1 y2 y3 hn A1.out A2.out A3.out _ HS4.out _ (by kernel_rfl) _ _ _ _ _ _ _ _ _ _ _ _ _ _ _ _ _ _ _ _ _ _ _ _ _ _ _ _ _ _ _ _ _ _ _ _ _ _ _ _ _ _ _ _ _ _ _ _ _ _ _ _ _ _ _ _ _ _ _ _ _ _ _ _ _ _ _ _ _ _ _ _ _ _ _ _ _ _ _ _ _ _ _ _ _ _ _ _ _ _ _ _ _ _ _ _ _ _ _ _ _ _ _ _ _ _ _ _ _ _ _ _ _ _ _ _ _ _ _ _ _ _ _ _ _ _ _ _ _ _ _ _ _ _ _ _ _ _ _ _ _ _ _ _ _ _ _ _ _ _ _ _ _ _ _ _ _ _ _ _ _ _ _ _ _ _ _ _ _ _ _ _ _ _ _ _ _ _ _ _ _ _ _ _ _ _ _ _ _ _ _ _ _ _ _ _ _ _ _ _ _ _ _ _ _ _ _ _ _ _ _ _ _ _ _ _ _ _ _ _ _ _ _ _ _ _ _ _ _ _ _ _ _ _ _ _ _ _ _ _ _ _ _ _ _ _ _ _ _ _ _ _ _ _ _ _ _ _ _ _ _ _ _ _ _ _ _ _ _ _ _ _ _ _ _ _ _ _ _ _ _ _ _ _ _ _ _ _ _ _ _ _ _ _ _ _ _ _ _ _ _ _ _ _ _ _ _ _ _ _ _ _ _ _ _ _ _ _ _ _ _ _ _ _ _ _ _ _ _ _ _ _ _ _ _ _ _ _ _ _ _ _ _ _ _ _ _ _ _ _ _ _ _ _ _ _ _ _ _ _ _ _ _ _ _ _ _ _ _ _ _
end Go.Proofs.Ybulkdiuy.lawS5497BWhole
