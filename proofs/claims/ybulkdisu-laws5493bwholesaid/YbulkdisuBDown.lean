import Derived.Test.YbulkdisuBPut
import Derived.Test.YbulkdisuBHeap
import Derived.Deep.LoopGhost
namespace Go.Proofs.Ybulkdisu.lawS5493BWhole
open Go.RowKit Go.Deep

set_option maxHeartbeats 800000 in
set_option maxRecDepth 100000 in
theorem down_any (W : World) (hb sb n i : Nat) (z : Nat → Int) (hn : n ≤ 1048576) (hi : i < n) (hW : HW W hb sb n z (fun j => j) (fun j => -1 - (j : Int)) W) :
    Calls Yba.prog 5 #[.slice (some ⟨hb, 0, none⟩) n n, .int .i64 i] W fun e w' => e = .returned (.tuple #[]) ∧
      ∃ idx, HW W hb sb n z (fin z n n (start i)).perm idx w' ∧ IdxAll n (fin z n n (start i)) idx := by
  have cA := hW.cellA hi
  have cB := hW.cellB hi
  have hbl := hW.ltH
  go_enter Yba.func5, Yba.ntmps5
  go_wp2_with fail
  clear cA cB
  go_loopg [1] n (fun g iv wr => ∃ (S : St) (hc : Nat → Nat) (idx : Nat → Int), iv = .int .i64 (S.p : Int) ∧ Hid (fin z n g S = fin z n n (start i)) ∧ n ≤ g + S.p ∧ Good n i S ∧ Hid (IdxOk n S idx) ∧ Hid (HcOk n S hc) ∧
      HW (W.alloc (.cells #[.int .i64 (z i), .pointer (some ⟨sb + i, 0, none⟩)] 46)) hb sb n z hc idx wr)
  case atStart =>
    exact ⟨start i, fun j => j, fun j => -1 - (j : Int), rfl, rfl, by omega, good_start n i hi, idx_start n i, hc_start n i, (hW.alloc _).base⟩
  case round =>
    obtain ⟨S, hc, idx, rfl, hF, hg, G, hI, hH, H⟩ := hrel
    have hp := G.lt
    obtain ⟨f, rfl⟩ : ∃ f, gk = f + 1 := ⟨gk - 1, by omega⟩
    have hbx := HW.box hW (by omega) _ H
    obtain ⟨cx0, cx1⟩ := cell_two hbx
    have HbW : Hid (W.heap.size < wr.heap.size) := by
      obtain ⟨hlt, _⟩ := Array.getElem?_eq_some_iff.1 hbx
      exact hlt
    clear hbx
    by_cases hst : n ≤ S.p * 4 + 1
    · go_wp2_with (go_at_call 8; refine (put_any hb (sb + i) n S.p (z i) _ hp _ _ _ (H.cellA hp) (H.cellB hp) (H.cellX hi) (H.frozenH _) (H.frozenH _) (H.frozenS hi _) H.ltH (H.ltS hi) (H.ne hi)).mono ?_; rintro e w' ⟨rfl, rfl⟩)
      go_end0
      have hf := hF.out
      rw [fin_stop z n _ S (.inl hst)] at hf
      rw [← hf]
      have R := H.put hp hi (.cells #[.int .i64 (z i), .pointer (some ⟨sb + i, 0, none⟩)] 46)
      have e := G.own
      have D := idx_done n i S G idx hI.out
      rw [G.own] at D
      exact ⟨rfl, _, (hW.alloc _).trans (R.congr fun j hj => hc_done n i S G hc hH.out j hj), D⟩
    · obtain ⟨M, hM, hMc⟩ : ∃ M : Nat, (if (n : Int) < (S.p : Int) * 4 + 1 + 4 then (n : Int) else (S.p : Int) * 4 + 1 + 4) = (M : Int) ∧ Hid (M = S.p * 4 + 1 + cnt n S.p) := by
        refine ⟨S.p * 4 + 1 + cnt n S.p, ?_, rfl⟩
        unfold cnt
        split <;> omega
      have hMn : M ≤ n := by have := hMc.out; unfold cnt at this; omega
      have hM5 : M ≤ S.p * 4 + 5 := by have := hMc.out; unfold cnt at this; omega
      have hM1 : S.p * 4 + 1 < M := by have := hMc.out; unfold cnt at this; omega
      go_wp2_with fail
      go_loopg [6, 7] 4 (fun g nv cv wq => ∃ (m b c q : Nat), nv = .int .i64 (b : Int) ∧ cv = .int .i64 (c : Int) ∧ Hid (c = S.p * 4 + 1 + m ∧ b = am (fun j => z (S.perm j)) (S.p * 4 + 1) (m - 1)) ∧ 1 ≤ m ∧ m + g = 5 ∧ S.p < b ∧ b < c ∧ c ≤ M ∧ wq = wr.drewN q)
      case atStart =>
        exact ⟨1, S.p * 4 + 1, S.p * 4 + 1 + 1, 0, by go_num, by go_num, ⟨rfl, rfl⟩, by omega, rfl, by omega, by omega, by omega, rfl⟩
      case round =>
        obtain ⟨m, b, c, q, rfl, rfl, hE, hm1, hmg, hpb, hbc, hcM, rfl⟩ := hrel
        have hbn : b < n := by omega
        have kb := H.cellA hbn
        have eb : Hid (hc b = S.perm b) := hH.out b hbn (by omega)
        by_cases hlt : c < M
        · have hl2 : c < n := by omega
          have kc := H.cellA hl2
          have ec : Hid (hc c = S.perm c) := hH.out c hl2 (by omega)
          have hm5 : m < 5 := by have := hE.out.1; omega
          have bn : (b : Int) < (n : Int) := by omega
          have cn : (c : Int) < (n : Int) := by omega
          by_cases ht : z (hc c) < z (hc b)
          · go_wp2_with fail
            go_quiet (fail)
            go_wp2_with fail
            go_roundg (gk - 1)
            case measure => omega
            case rel =>
              have := hE.out
              refine ⟨m + 1, c, c + 1, q + nq, rfl, by go_num, ⟨by omega, ?_⟩, by omega, by omega, by omega, by omega, by omega, by simp⟩
              obtain ⟨m, rfl⟩ : ∃ k, m = k + 1 := ⟨m - 1, by omega⟩
              show c = am _ _ (m + 1)
              rw [am, show S.p * 4 + 1 + m + 1 = c by omega, show am _ _ m = b from this.2.symm]
              rw [if_pos (by rw [← ec.out, ← eb.out]; exact ht)]
          · go_wp2_with fail
            go_quiet (fail)
            go_wp2_with fail
            go_roundg (gk - 1)
            case measure => omega
            case rel =>
              have := hE.out
              refine ⟨m + 1, b, c + 1, q + nq, rfl, by go_num, ⟨by omega, ?_⟩, by omega, by omega, by omega, by omega, by omega, by simp⟩
              obtain ⟨m, rfl⟩ : ∃ k, m = k + 1 := ⟨m - 1, by omega⟩
              show b = am _ _ (m + 1)
              rw [am, show S.p * 4 + 1 + m + 1 = c by omega, show am _ _ m = b from this.2.symm]
              rw [if_neg (by rw [← ec.out, ← eb.out]; omega)]
        · have hbb : Hid (b = bst z n S) := by
            have := hE.out
            have := hMc.out
            unfold bst
            rw [show cnt n S.p - 1 = m - 1 by omega]
            exact hE.out.2
          have bn : (b : Int) < (n : Int) := by omega
          have kB := H.cellB hbn
          have eo := G.own
          have hbi : S.perm b < n := G.inHeap b hbn
          have hxb : hc b < n := by rw [eb.out]; exact hbi
          clear eo
          by_cases ht : z i ≤ z (hc b)
          · have hs : stop z n S := .inr (by rw [G.own, ← hbb.out, ← eb.out]; exact ht)
            have HS : Hid (stop z n S) := hs
            clear hs
            go_wp2_with fail
            go_quiet (fail)
            have H2 := H.drewN (q + nq)
            go_wp2_with (go_at_call 8; refine (put_any hb (sb + i) n S.p (z i) _ hp _ _ _ (H2.cellA hp) (H2.cellB hp) (H2.cellX hi) (H2.frozenH _) (H2.frozenH _) (H2.frozenS hi _) H2.ltH (H2.ltS hi) (H2.ne hi)).mono ?_; rintro e w' ⟨rfl, rfl⟩)
            go_end0
            have hf := hF.out
            rw [fin_stop z n _ S HS.out] at hf
            rw [← hf]
            have R := H2.put hp hi (.cells #[.int .i64 (z i), .pointer (some ⟨sb + i, 0, none⟩)] 46)
            have D := idx_done n i S G idx hI.out
            rw [G.own] at D
            exact ⟨rfl, _, (hW.alloc _).trans (R.congr fun j hj => hc_done n i S G hc hH.out j hj), D⟩
          · have HS : Hid (¬ stop z n S) := by
              intro h
              rcases h with h | h
              · omega
              · rw [G.own, ← hbb.out, ← eb.out] at h; omega
            go_wp2_with fail
            go_quiet (fail)
            have H2 := H.drewN (q + nq)
            go_wp2_with (go_at_call 8; refine (put_any hb (sb + hc b) n S.p (z (hc b)) _ hp _ _ _ (H2.cellA hp) (H2.cellB hp) (H2.cellX hxb) (H2.frozenH _) (H2.frozenH _) (H2.frozenS hxb _) H2.ltH (H2.ltS hxb) (H2.ne hxb)).mono ?_; rintro e w' ⟨rfl, rfl⟩)
            go_roundg f
            case measure => omega
            case rel =>
              have R := H2.put hp hxb (.cells #[.int .i64 (z (hc b)), .pointer (some ⟨sb + hc b, 0, none⟩)] 46)
              have F := hF.out
              rw [fin_step z n f S HS.out] at F
              have I := idx_step z n i S G HS.out idx hI.out
              have C := hc_step z n S hc hH.out
              rw [← hbb.out, ← eb.out] at I C
              have := hbb.out
              exact ⟨step z n S, _, _, by show _ = Value.int .i64 ((bst z n S : Nat) : Int); rw [← hbb.out], F, by show n ≤ f + bst z n S; omega, good_step z n i S G HS.out, I, C, R⟩
end Go.Proofs.Ybulkdisu.lawS5493BWhole
