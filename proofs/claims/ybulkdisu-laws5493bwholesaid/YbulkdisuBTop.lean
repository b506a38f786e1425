import Derived.Test.YbulkdisuBDown
import Derived.Test.YbulkdisuBRows
import Derived.Deep.DeepCutAuto
import Derived.Deep.CutBlock
import Derived.Lib.Builder
namespace Go.Proofs.Ybulkdisu.lawS5493BWhole
open Go.RowKit Go.Deep

theorem info27 : (Yba.prog.info? 27).map (fun i => (i.zero, i.size, i.bytes)) = some (some (.pointer none), 1, 8) := by kernel_rfl
theorem info3 : (Yba.prog.info? 3).map (fun i => (i.zero, i.size, i.bytes)) = some (some (.int .i64 0), 1, 8) := by kernel_rfl
theorem info4 : (Yba.prog.info? 4).map (fun i => (i.zero, i.size, i.bytes)) = some (some (.bool false), 1, 1) := by kernel_rfl
theorem info46 : (Yba.prog.info? 46).map (fun i => (i.zero, i.size, i.bytes)) = some (some (.agg #[.int .i64 0, .pointer none]), 2, 16) := by kernel_rfl

theorem make46 (n : Nat) (hn : n ≤ 1048576) (w : World) :
    (Instr.makeSlice 26 (.int .i64 (n : Int)) (.int .i64 (n : Int))).run Yba.prog w = .ok (.slice (some ⟨w.heap.size, 0, none⟩) n n) (w.alloc (.cells (madeCells #[.int .i64 0, .pointer none] (n * 2)) 46)) := by
  obtain ⟨i, hi, hz⟩ := Option.map_eq_some_iff.1 info46
  simp only [Prod.mk.injEq] at hz
  obtain ⟨hz, hs, hb⟩ := hz
  have hr := run_make (P := Yba.prog) w 26 46 i _ Yba.underlying26 hi hz .i64 .i64 n n (by omega) (Int.le_refl _) (by rw [hb]; omega) (by omega)
  simp only [Int.toNat_natCast, hs] at hr
  exact hr

theorem info43 : (Yba.prog.info? 43).isSome = true := by kernel_rfl
theorem run_neq_27 (w : World) (a : Addr) : (binOp .neq 27 (.pointer (some a)) (.pointer (some a))).run Yba.prog w = .ok (.bool false) w := by
  obtain ⟨j, hj⟩ := Option.isSome_iff_exists.1 info43
  exact Lib.run_neq_ptr_same w a Yba.underlying27 hj
theorem run_neq_nil30 (w : World) : (binOp .neq 30 .nilFunc .nilFunc).run Yba.prog w = .ok (.bool false) w := by kernel_rfl
theorem run_neq_nil31 (w : World) : (binOp .neq 31 .nilFunc .nilFunc).run Yba.prog w = .ok (.bool false) w := by kernel_rfl
theorem run_neq_nil32 (w : World) : (binOp .neq 32 .nilFunc .nilFunc).run Yba.prog w = .ok (.bool false) w := by kernel_rfl
theorem run_neq_nil41 (w : World) : (binOp .neq 41 .nilFunc .nilFunc).run Yba.prog w = .ok (.bool false) w := by kernel_rfl
attribute [local go_sem] run_neq_27 run_neq_nil30 run_neq_nil31 run_neq_nil32 run_neq_nil41

set_option maxHeartbeats 1600000 in
set_option maxRecDepth 100000 in
theorem main_any (w : World) (b off n cap : Nat) (z : Nat → Int) (a : Int) (hn0 : 0 < n) (hn : n ≤ 1048576) (ha0 : 0 ≤ a) (ha1 : a < 18446744073709551616)
    (hcell : ∀ j, j < n → w.cell? ⟨b, off + j, none⟩ = some (.int .i64 (z j))) (hb : b < w.heap.size) :
    Calls Yba.prog 3 #[.slice (some ⟨b, off, none⟩) n cap, .int .u64 a] w fun e w' => e = .returned (.bool true) ∧ Below w.heap.size w w' := by
  obtain ⟨i, hi⟩ : ∃ i : Nat, a % (n : Int) = (i : Int) := ⟨(a % (n : Int)).toNat, by have := Int.emod_nonneg a (b := (n : Int)) (by omega); omega⟩
  have hin : i < n := by have := Int.emod_lt_of_pos a (b := (n : Int)) (by omega); omega
  have HA : Hid (a < 18446744073709551616) := ha1
  clear ha1
  have m24 := run_make_row' (P := Yba.prog) 24 27 (.pointer none) 8 Yba.underlying24 info27 rfl .i64 .i64 n (by omega) (by omega)
  have m47 := run_make_row' (P := Yba.prog) 47 3 (.int .i64 0) 8 Yba.underlying47 info3 rfl .i64 .i64 n (by omega) (by omega)
  have m48 := run_make_row' (P := Yba.prog) 48 4 (.bool false) 1 Yba.underlying48 info4 rfl .i64 .i64 n (by omega) (by omega)
  have m26 := make46 n hn
  have hz0 : ((n : Int) == 0) = false := by simp; omega
  have hzz : ¬ n = 0 := by omega
  have hni : (n : Int) ≤ 1048576 := by omega
  have HC : Hid (∀ j, j < n → w.cell? ⟨b, off + j, none⟩ = some (.int .i64 (z j))) := hcell
  clear hcell
  go_enter Yba.func3, Yba.ntmps3
  go_wp2_with fail
  rw [hi]
  clear hi
  go_loopg [9] n (fun g jv wr => ∃ k : Nat, jv = .int .i64 (k : Int) ∧ k + g = n ∧ L1 w n z k wr)
  case atStart => exact ⟨0, rfl, by omega, L1.start w n _⟩
  case round =>
    obtain ⟨k, rfl, hkg, L⟩ := hrel
    by_cases hk : k < n
    · have hkn : (k : Int) < (n : Int) := by omega
      have c1 := L.subsRow.cell hk
      have c2 := L.hRow.cell (i := k * 2) (by omega)
      have c3 := L.hRow.cell (i := k * 2 + 1) (by omega)
      have c4 : wr.cell? ⟨b, off + k, none⟩ = some (.int .i64 (z k)) := (L.below.cell (p := ⟨b, off + k, none⟩) hb).trans (HC.out k (by omega))
      have f1 := L.subsRow.frozen k
      have f2 := L.hRow.frozen (k * 2)
      have f3 := L.hRow.frozen (k * 2 + 1)
      have s1 : w.heap.size < wr.heap.size := L.subsRow.lt
      have s2 : w.heap.size + 1 < wr.heap.size := L.hRow.lt
      have s3 : b < wr.heap.size := by omega
      have HL : Hid (L1 w n z k wr) := L
      clear L
      go_wp2_with fail
      go_region
      all_goals go_wp2_with fail
      all_goals go_roundg (gk - 1)
      case measure => omega
      case rel => exact ⟨k + 1, by go_num, by omega, HL.out.step hk 1⟩
    · obtain rfl : n = k := by omega
      obtain ⟨w1, hw1⟩ : ∃ w1, w1 = wr := ⟨wr, rfl⟩
      subst hw1
      have HL : Hid (L1 w n z n w1) := L
      have hw1 : w.heap.size < w1.heap.size := L.subsRow.lt
      clear L hkg hk
      go_wp2_with fail
      go_loopg [11] n (fun g jv wr => ∃ m : Nat, jv = .int .i64 (m : Int) ∧ m + g = n ∧ L2 w1 n m wr)
      case atStart => exact ⟨0, rfl, by omega, L2.start w1 _⟩
      case round =>
        obtain ⟨m, rfl, hmg, L⟩ := hrel
        by_cases hm : m < n
        · have hmn : (m : Int) < (n : Int) := by omega
          have c1 := L.perm.cell hm
          have f1 := L.perm.frozen m
          have HL2 : Hid (L2 w1 n m wr) := L
          clear L
          go_wp2_with fail
          go_roundg (gk - 1)
          case measure => omega
          case rel => exact ⟨m + 1, by go_num, by omega, HL2.out.step⟩
        · obtain rfl : n = m := by omega
          have hs := L.size
          have HL2 : Hid (L2 w1 n n wr) := L
          clear L hmg hm
          have hin' : (i : Int) < (n : Int) := by omega
          have hmi : (madeCells #[Value.bool false] n)[i]? = some (.bool false) := by simp [madeCells, hin, Nat.mod_one]
          go_upto_block 4 with fail
          clear hmi hs
          go_cut [13] (fun _ wc => L3 w1 n (fin z n n (start i)) wc)
          case first =>
            go_wp2_with fail
            go_loopg [13] n (fun g pv wr => ∃ S : St, pv = .int .i64 (S.p : Int) ∧ Hid (fin z n g S = fin z n n (start i)) ∧ n ≤ g + S.p ∧ Good n i S ∧ L3 w1 n S wr)
            case atStart => exact ⟨start i, rfl, rfl, by omega, good_start n i hin, L3.born HL2.out⟩
            case round =>
              obtain ⟨S, rfl, hF, hg, G, L⟩ := hrel
              have hp := G.lt
              have hpn : (S.p : Int) < (n : Int) := by omega
              obtain ⟨f, rfl⟩ : ∃ f, gk = f + 1 := ⟨gk - 1, by omega⟩
              have GI : Hid (Good n i S) := G
              have HL3 : Hid (L3 w1 n S wr) := L
              have HDU : Hid (∀ j, j < n → wr.cell? ⟨b, off + j, none⟩ = some (.int .i64 (z j))) := fun j hj => ((HL.out.below.trans (L.below.mono (by omega))).cell (p := ⟨b, off + j, none⟩) hb).trans (HC.out j hj)
              clear G L
              by_cases hst : n ≤ S.p * 4 + 1
              · go_wp2_with fail
                go_loopg [14, 15] 1 (fun g bv kv wq => bv = .int .i64 (-1) ∧ kv = .int .i64 1 ∧ g = 1 ∧ wq = wr)
                case atStart => exact ⟨rfl, rfl, rfl, rfl⟩
                case round =>
                  obtain ⟨rfl, rfl, hg1, rfl⟩ := hrel
                  go_wp2_with fail
                  go_quiet (fail)
                  go_wp2_with fail
                  go_meet
                  have hf := hF.out
                  rw [fin_stop z n _ S (.inl hst)] at hf
                  rw [← hf]
                  have h3 := HL3.out
                  exact ⟨below_drewN h3.below _, h3.size, h3.perm, h3.t⟩
              · have hc1 : 1 ≤ cnt n S.p := by unfold cnt; omega
                have hc4 : cnt n S.p ≤ 4 := by unfold cnt; omega
                have hcn : S.p * 4 + cnt n S.p < n := by unfold cnt; omega
                have HC5 : Hid (cnt n S.p < 4 → n = S.p * 4 + cnt n S.p + 1) := by intro h; unfold cnt at *; omega
                go_upto_block 6 with fail
                go_cut [14] (fun bv wc => ∃ q, bv = .int .i64 (bst z n S : Int) ∧ wc = wr.drewN q)
                case first =>
                  go_wp2_with fail
                  go_loopg [14, 15] 5 (fun g bv kv wq => ∃ (kk q : Nat) (bb : Int), bv = .int .i64 bb ∧ kv = .int .i64 (kk : Int) ∧ kk + g = 6 ∧ 1 ≤ kk ∧ kk ≤ cnt n S.p + 1 ∧ wq = wr.drewN q ∧ Hid ((kk = 1 ∧ bb = -1) ∨ (2 ≤ kk ∧ bb = am (fun j => z (S.perm j)) (S.p * 4 + 1) (kk - 2))))
                  case atStart => exact ⟨1, 0, -1, rfl, rfl, rfl, Nat.le_refl _, by omega, rfl, .inl ⟨rfl, rfl⟩⟩
                  case round =>
                    obtain ⟨kk, q, bb, rfl, rfl, hmg, hk1, hkc, rfl, hB⟩ := hrel
                    by_cases hend : kk = cnt n S.p + 1
                    · have hbst : bb = (bst z n S : Int) := by
                        rcases hB.out with h | h
                        · omega
                        · rw [h.2, hend]; rfl
                      subst hbst
                      have h5 := HC5.out
                      clear hB
                      by_cases h4 : kk = 5
                      · subst h4
                        clear h5
                        go_wp2_with fail
                        go_meet
                        exact ⟨q, rfl, rfl⟩
                      · have h6 : n = S.p * 4 + kk := by omega
                        have h7 : (n : Int) ≤ (S.p : Int) * 4 + (kk : Int) := by omega
                        clear h5 h6
                        go_wp2_with fail
                        go_meet
                        exact ⟨q, rfl, rfl⟩
                    · have hkn : S.p * 4 + kk < n := by omega
                      have hxc := GI.out.inHeap _ hkn
                      have pc := HL3.out.perm.cell hkn
                      have dc := HDU.out _ hxc
                      have i1 : (S.p : Int) * 4 + (kk : Int) < (n : Int) := by omega
                      have i2 : (S.perm (S.p * 4 + kk) : Int) < (n : Int) := by omega
                      rcases Nat.lt_or_ge 1 kk with h2 | h2
                      · obtain ⟨bn, hbn⟩ : ∃ bn : Nat, bn = am (fun j => z (S.perm j)) (S.p * 4 + 1) (kk - 2) := ⟨_, rfl⟩
                        have hb1 : S.p * 4 + 1 ≤ bn := by rw [hbn]; exact am_lo _ _ _
                        have hb2 : bn < S.p * 4 + kk := by have := am_hi (fun j => z (S.perm j)) (S.p * 4 + 1) (kk - 2); omega
                        have hbb : bb = (bn : Int) := by
                          rcases hB.out with h | h
                          · omega
                          · rw [h.2, hbn]
                        subst hbb
                        have HB : Hid (bn = am (fun j => z (S.perm j)) (S.p * 4 + 1) (kk - 2)) := hbn
                        clear hbn hB
                        have hbn' : bn < n := by omega
                        have hxb := GI.out.inHeap _ hbn'
                        have pb := HL3.out.perm.cell hbn'
                        have db := HDU.out _ hxb
                        have i3 : (bn : Int) < (n : Int) := by omega
                        have i4 : (S.perm bn : Int) < (n : Int) := by omega
                        have i5 : decide ((bn : Int) < 0) = false := decide_eq_false (by omega)
                        by_cases ht : z (S.perm (S.p * 4 + kk)) < z (S.perm bn)
                        · go_wp2_with fail
                          go_quiet (fail)
                          go_wp2_with fail
                          go_roundg (gk - 1)
                          case measure => omega
                          case rel =>
                            have e2 := HB.out
                            refine ⟨kk + 1, q + nq, ((S.p * 4 + kk : Nat) : Int), by go_num, by go_num, by omega, by omega, by omega, by simp, .inr ⟨by omega, ?_⟩⟩
                            obtain ⟨k2, rfl⟩ : ∃ k2, kk = k2 + 2 := ⟨kk - 2, by omega⟩
                            show _ = ((am _ _ (k2 + 1) : Nat) : Int)
                            rw [am, show S.p * 4 + 1 + k2 + 1 = S.p * 4 + (k2 + 2) by omega, show am _ _ k2 = bn from e2.symm, if_pos ht]
                        · go_wp2_with fail
                          go_quiet (fail)
                          go_wp2_with fail
                          go_roundg (gk - 1)
                          case measure => omega
                          case rel =>
                            have e2 := HB.out
                            refine ⟨kk + 1, q + nq, (bn : Int), rfl, by go_num, by omega, by omega, by omega, by simp, .inr ⟨by omega, ?_⟩⟩
                            obtain ⟨k2, rfl⟩ : ∃ k2, kk = k2 + 2 := ⟨kk - 2, by omega⟩
                            show _ = ((am _ _ (k2 + 1) : Nat) : Int)
                            rw [am, show S.p * 4 + 1 + k2 + 1 = S.p * 4 + (k2 + 2) by omega, show am _ _ k2 = bn from e2.symm, if_neg (by omega)]
                      · obtain rfl : kk = 1 := by omega
                        obtain rfl : bb = -1 := by
                          rcases hB.out with h | h
                          · exact h.2
                          · omega
                        clear hB
                        go_wp2_with fail
                        go_quiet (fail)
                        go_wp2_with fail
                        go_roundg (gk - 1)
                        case measure => omega
                        case rel => exact ⟨2, q + nq, ((S.p * 4 + 1 : Nat) : Int), by go_num, rfl, by omega, by omega, by omega, by simp, .inr ⟨by omega, rfl⟩⟩
                case rest =>
                  obtain ⟨q, rfl, rfl⟩ := hcut
                  have hbl := bst_lo z n S
                  have hbn := bst_lt z n S (by omega)
                  obtain ⟨bn, hbe⟩ : ∃ bn : Nat, bst z n S = bn := ⟨_, rfl⟩
                  rw [hbe] at hbl hbn
                  rw [hbe]
                  have HB : Hid (bst z n S = bn) := hbe
                  clear hbe
                  have hxp := GI.out.inHeap _ hp
                  have hxb := GI.out.inHeap _ hbn
                  have pp := HL3.out.perm.cell hp
                  have pb := HL3.out.perm.cell hbn
                  have fp := HL3.out.perm.frozen S.p
                  have fb := HL3.out.perm.frozen bn
                  have tb := HL3.out.t.cell hbn
                  have ftb := HL3.out.t.frozen bn
                  have dp := HDU.out _ hxp
                  have db := HDU.out _ hxb
                  have i2 : (S.perm S.p : Int) < (n : Int) := by omega
                  have i3 : (bn : Int) < (n : Int) := by omega
                  have i4 : (S.perm bn : Int) < (n : Int) := by omega
                  have i5 : decide ((bn : Int) < 0) = false := decide_eq_false (by omega)
                  have i6 : ¬ S.p = bn := by omega
                  by_cases ht : z (S.perm S.p) ≤ z (S.perm bn)
                  · have HS : Hid (stop z n S) := .inr (by rw [HB.out]; exact ht)
                    go_wp2_with fail
                    go_quiet (fail)
                    go_wp2_with fail
                    go_meet
                    have hf := hF.out
                    rw [fin_stop z n _ S HS.out] at hf
                    rw [← hf]
                    have h3 := HL3.out
                    exact ⟨below_drewN (below_drewN h3.below _) _, h3.size, h3.perm, h3.t⟩
                  · have HS : Hid (¬ stop z n S) := by
                      intro h
                      rcases h with h | h
                      · omega
                      · rw [HB.out] at h; omega
                    go_wp2_with fail
                    go_quiet (fail)
                    go_wp2_with fail
                    go_roundg f
                    case measure => omega
                    case rel =>
                      have N := HL3.out.next HS.out (q + nq)
                      rw [HB.out] at N
                      have F := hF.out
                      rw [fin_step z n f S HS.out] at F
                      exact ⟨step z n S, by show _ = Value.int .i64 ((bst z n S : Nat) : Int); rw [HB.out], F, by show n ≤ f + bst z n S; rw [HB.out]; omega, good_step z n i S GI.out HS.out, N⟩
          case rest =>
            go_wp2_with (go_at_call 5; refine (down_any _ (w.heap.size + 1) (w.heap.size + 2) n i z hn hin (HL.out.later hcut)).mono ?_; rintro e w5 ⟨rfl, idx, hd, hidx⟩)
            have M := L5.mk' HL.out hcut hd
            have GF := good_fin z n i n _ (good_start n i hin)
            clear hcut hd
            obtain ⟨F, hFe⟩ : ∃ F, fin z n n (start i) = F := ⟨_, rfl⟩
            rw [hFe] at M GF hidx
            clear hFe
            have HM : Hid (L5 w w1 n z F idx w5) := M
            have HG : Hid (Good n i F) := GF
            have HX : Hid (IdxAll n F idx) := hidx
            clear M GF hidx
            go_wp2_with fail
            go_loopg [18] n (fun g jv wq => ∃ k q : Nat, jv = .int .i64 (k : Int) ∧ k + g = n ∧ wq = w5.drewN q)
            case atStart => exact ⟨0, 0, rfl, by omega, rfl⟩
            case round =>
              obtain ⟨k, q, rfl, hkg, rfl⟩ := hrel
              by_cases hk : k < n
              · have M := HM.out
                have hx := HG.out.inHeap k hk
                have cA := M.hw.cellA hk
                have cB := M.hw.cellB hk
                have cP := M.perm.cell hk
                have cT := M.t.cell hk
                have cS := M.subsRow.cell hx
                have cD := (M.below.cell (p := ⟨b, off + F.perm k, none⟩) hb).trans (HC.out _ hx)
                have s0 := M.hw.cellS hx 0
                have s1 := M.hw.cellS hx 1
                have s2 := M.hw.cellS hx 2
                have s3 := M.hw.cellS hx 3
                have s11 := M.hw.cellS hx 11
                have s12 := M.hw.cellX hx
                rw [HX.out k hk] at s12
                simp only [subC, List.getElem?_toArray, List.getElem?_cons_zero, List.getElem?_cons_succ] at s0 s1 s2 s3 s11
                generalize F.perm k = x at *
                have hkn : (k : Int) < (n : Int) := by omega
                have hxn : (x : Int) < (n : Int) := by omega
                clear M
                cases ht : F.t k
                · rw [ht] at cT s12
                  simp only [Bool.false_eq_true, if_false] at s12
                  clear ht
                  go_wp2_with fail
                  go_quiet (fail)
                  go_wp2_with fail
                  go_roundg (gk - 1)
                  case measure => omega
                  case rel => exact ⟨k + 1, q + nq, by go_num, by omega, by simp⟩
                · rw [ht] at cT s12
                  simp only [if_true] at s12
                  clear ht
                  go_wp2_with fail
                  go_quiet (fail)
                  go_wp2_with fail
                  go_roundg (gk - 1)
                  case measure => omega
                  case rel => exact ⟨k + 1, q + nq, by go_num, by omega, by simp⟩
              · go_wp2_with fail
                go_ret
                exact ⟨rfl, below_drewN HM.out.below _⟩
end Go.Proofs.Ybulkdisu.lawS5493BWhole
