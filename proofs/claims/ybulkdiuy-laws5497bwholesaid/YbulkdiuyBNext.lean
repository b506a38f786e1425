import Derived.Test.YbulkdiuyRows
import Derived.Test.YbulkdiuyBHeap
import Derived.WalkLawsBesides
import Derived.Deep.LoopGhost
import Derived.Deep.QuietTactic
import Derived.BigQuiet
import Derived.BigGuardPart
import Derived.Deep.DeepCutAuto
import Derived.Deep.CutBlock
import Derived.Laws.EntriesVeiled
namespace Go.Proofs.Ybulkdiuy.lawS5497BWhole
open Go.RowKit Go.Deep

/-- The two captured variables of nextInstant: at, ok; all else as it was. -/
structure NX (w : World) (o : Option Int) (wr : World) : Prop where
  below : Below w.heap.size w wr
  hA : wr.heap[w.heap.size]? = some (.cells #[.int .i64 (o.getD 0)] 2 (0, 0))
  hK : wr.heap[w.heap.size + 1]? = some (.cells #[.bool o.isSome] 4 (0, 0))

theorem NX.start (w : World) : NX w none ((w.alloc (.cells #[.int .i64 0] 2)).alloc (.cells #[.bool false] 4)) := by
  have e : (w.alloc (.cells #[.int .i64 0] 2)).heap.size = w.heap.size + 1 := nblk_alloc _ _
  refine ⟨((Below.refl _ _).alloc (Nat.le_refl _) _).alloc (by rw [e]; omega) _, ?_, ?_⟩
  · rw [blk_alloc_lt _ _ _ (by rw [e]; omega)]; exact blk_alloc_new _ _
  · rw [← e]; exact blk_alloc_new _ _

theorem NX.drewN {w wr : World} {o : Option Int} (h : NX w o wr) (q : Nat) : NX w o (wr.drewN q) := ⟨below_drewN h.below q, h.hA, h.hK⟩
theorem NX.alloc {w wr : World} {o : Option Int} (h : NX w o wr) (ob : Obj) : NX w o (wr.alloc ob) :=
  ⟨h.below.alloc h.below.size _, by rw [blk_alloc_lt _ _ _ (lt_of h.hA)]; exact h.hA, by rw [blk_alloc_lt _ _ _ (lt_of h.hK)]; exact h.hK⟩
theorem NX.cA {w wr : World} {o : Option Int} (h : NX w o wr) : wr.cell? ⟨w.heap.size, 0, none⟩ = some (.int .i64 (o.getD 0)) := by simp [World.cell?, h.hA]
theorem NX.cK {w wr : World} {o : Option Int} (h : NX w o wr) : wr.cell? ⟨w.heap.size + 1, 0, none⟩ = some (.bool o.isSome) := by simp [World.cell?, h.hK]
theorem NX.fA {w wr : World} {o : Option Int} (h : NX w o wr) : wr.frozen? ⟨w.heap.size, 0, none⟩ = false := by simp [World.frozen?, h.hA]
theorem NX.fK {w wr : World} {o : Option Int} (h : NX w o wr) : wr.frozen? ⟨w.heap.size + 1, 0, none⟩ = false := by simp [World.frozen?, h.hK]

theorem one_set {w : World} {b : Nat} {x y : Value} {t : TypeId} (h : w.heap[b]? = some (.cells #[x] t (0, 0))) : (w.setCell ⟨b, 0, none⟩ y).heap[b]? = some (.cells #[y] t (0, 0)) := by
  simp only [World.setCell, Array.getElem?_modify, if_true, h, Option.map_some]
  rfl

theorem NX.set {w wr : World} {o : Option Int} (h : NX w o wr) (t : Int) : NX w (some t) ((wr.setCell ⟨w.heap.size, 0, none⟩ (.int .i64 t)).setCell ⟨w.heap.size + 1, 0, none⟩ (.bool true)) := by
  refine ⟨(h.below.setCell (Nat.le_refl _) _).setCell (Nat.le_succ _) _, ?_, ?_⟩
  · rw [blk_setCell_other _ _ _ _ (by simp)]
    exact one_set h.hA
  · have h2 : (wr.setCell ⟨w.heap.size, 0, none⟩ (.int .i64 t)).heap[w.heap.size + 1]? = some (.cells #[.bool o.isSome] 4 (0, 0)) := by
      rw [blk_setCell_other _ _ _ _ (by simp)]; exact h.hK
    exact one_set h2

set_option maxHeartbeats 400000 in
/-- 'earliest(t)'. -/
theorem ear_any (w wr : World) (o : Option Int) (t : Int) (h : NX w o wr) :
    Calls Yba.prog 20 #[.int .i64 t, .pointer (some ⟨w.heap.size + 1, 0, none⟩), .pointer (some ⟨w.heap.size, 0, none⟩)] wr fun e w' => e = .returned (.tuple #[]) ∧ NX w (ear o t) w' ∧ ∀ k, k ≠ w.heap.size → k ≠ w.heap.size + 1 → w'.heap[k]? = wr.heap[k]? := by
  have cA := h.cA
  have cK := h.cK
  have fA := h.fA
  have fK := h.fK
  have H : Hid (NX w o wr) := h
  clear h
  cases o with
  | none =>
    simp only [Option.isSome_none] at cK
    go_enter Yba.func20, Yba.ntmps20
    go_wp2
    go_end0
    exact ⟨rfl, H.out.set t, fun k h1 h2 => by rw [blk_setCell_other _ _ _ _ h2, blk_setCell_other _ _ _ _ h1]⟩
  | some a =>
    simp only [Option.isSome_some, Option.getD_some] at cK cA
    by_cases ht : t < a
    · go_enter Yba.func20, Yba.ntmps20
      go_wp2
      go_end0
      refine ⟨rfl, ?_, fun k h1 h2 => by rw [blk_setCell_other _ _ _ _ h2, blk_setCell_other _ _ _ _ h1]⟩
      rw [show ear (some a) t = some t by simp [ear, ht]]
      exact H.out.set t
    · go_enter Yba.func20, Yba.ntmps20
      go_wp2
      go_end0
      refine ⟨rfl, ?_, fun _ _ _ => rfl⟩
      rw [show ear (some a) t = some a by simp only [ear]; rw [if_neg (by omega)]]
      exact H.out

theorem bcell {W w1 : World} {B : Nat} (hb : Below B W w1) {b o : Nat} {v : Value} (h : b < B) (hc : W.cell? ⟨b, o, none⟩ = some v) : w1.cell? ⟨b, o, none⟩ = some v :=
  (hb.cell (p := ⟨b, o, none⟩) h).trans hc

theorem cell_lt {w : World} {b o : Nat} {v : Value} (h : w.cell? ⟨b, o, none⟩ = some v) : b < w.heap.size := by
  rcases Nat.lt_or_ge b w.heap.size with hh | hh
  · exact hh
  · simp [World.cell?, Array.getElem?_eq_none hh] at h

/-- A cell of w, in every world that is as w was below. -/
theorem old {w w' : World} (hb : Below w.heap.size w w') {b o : Nat} {v : Value} (hc : w.cell? ⟨b, o, none⟩ = some v) : w'.cell? ⟨b, o, none⟩ = some v := bcell hb (cell_lt hc) hc

def pre (now b e : Int) : Nat → List Int
  | 0 => []
  | 1 => hitL now b e 20
  | _ => hitL now b e 20 ++ hitL now b e 10000

set_option maxHeartbeats 1600000 in
set_option maxRecDepth 100000 in
theorem next_any (w : World) (C : Nat) (now : Int) (a1 a2 a3 : Option Addr) (n1 c1 n2 c2 n3 c3 B1 B2 B3 : Nat) (z1 z2 rb re : Nat → Int) (hn3 : n3 ≤ 1048576) (hn1 : n1 ≤ 1048576) (hn2 : n2 ≤ 1048576)
    (hcl : w.heap[C]? = some (.cells (clk now (.slice a1 n1 c1) (.slice a2 n2 c2) (.slice a3 n3 c3)) 101 (0, 0)))
    (i1 : Items B1 102 (El1 z1) (.slice a1 n1 c1) n1 w) (i2 : Items B2 105 (El2 z2) (.slice a2 n2 c2) n2 w) (i3 : Items B3 102 (El3 rb re) (.slice a3 n3 c3) n3 w) :
    Calls Yba.prog 11 #[.pointer (some ⟨C, 0, none⟩)] w fun e w' => e = .returned (.tuple #[.int .i64 ((ears none (cands now n1 n2 n3 z1 z2 rb re)).getD 0), .bool (ears none (cands now n1 n2 n3 z1 z2 rb re)).isSome]) ∧ Below w.heap.size w w' := by
  obtain ⟨k0, k2, k4, k7⟩ := clk_cells hcl
  have hC := lt_of hcl
  have HI1 : Hid (Items B1 102 (El1 z1) (.slice a1 n1 c1) n1 w) := i1
  have HI2 : Hid (Items B2 105 (El2 z2) (.slice a2 n2 c2) n2 w) := i2
  have HI3 : Hid (Items B3 102 (El3 rb re) (.slice a3 n3 c3) n3 w) := i3
  have HK : Hid (w.cell? ⟨C, 0, none⟩ = some (.int .i64 now) ∧ w.cell? ⟨C, 2, none⟩ = some (.slice a1 n1 c1) ∧ w.cell? ⟨C, 4, none⟩ = some (.slice a2 n2 c2) ∧ w.cell? ⟨C, 7, none⟩ = some (.slice a3 n3 c3)) := ⟨k0, k2, k4, k7⟩
  clear i1 i2 i3 hcl
  go_enter Yba.func11, Yba.ntmps11
  go_upto_if 18 with (go_at_call 21; go_in)
  clear k0 k2 k4 k7
  go_cut [18] (fun _ wc => NX w (ears none (heads n1 z1)) wc)
  case first =>
    by_cases h1 : 0 < n1
    · obtain ⟨g, b, ha, hc, hel⟩ := HI1.out.at h1
      subst ha
      have k2 := HK.out.2.1
      have hb5 : w.cell? ⟨b, 5, none⟩ = some (.int .i64 (z1 0)) := by have h := hel; unfold El1 at h; simp [World.cell?, h, procC]
      have hg := cell_lt hc
      have hbl := cell_lt hb5
      simp only [ptr] at hc
      have h1i : (0 : Int) < (n1 : Int) := by omega
      go_wp2_with (go_at_call 20; refine (ear_any w _ none (z1 0) (NX.start w)).mono ?_; rintro e w' ⟨rfl, hx, _⟩)
      go_meet
      have e1 : ears none (heads n1 z1) = ear none (z1 0) := by simp [heads, h1, ears]
      rw [e1]
      assumption
    · have h1' : n1 = 0 := by omega
      subst h1'
      go_wp2_with fail
      go_meet
      exact NX.start w
  case rest =>
    have H1 : Hid (NX w (ears none (heads n1 z1)) wc) := hcut
    have k4 := old hcut.below HK.out.2.2.1
    clear hcut
    go_upto_if 35 with (go_at_call 22; go_in)
    clear k4
    go_cut [35] (fun _ wc => NX w (ears none (heads n1 z1 ++ heads n2 z2)) wc)
    case first =>
      by_cases h1 : 0 < n2
      · obtain ⟨g, b, ha, hc, hel⟩ := HI2.out.at h1
        subst ha
        have hB := H1.out.below
        have k4 := old hB HK.out.2.2.1
        have hb3 : w.cell? ⟨b, 3, none⟩ = some (.int .i64 (z2 0)) := by have h := hel; unfold El2 at h; simp [World.cell?, h, callC]
        replace hc := old hB hc
        replace hb3 := old hB hb3
        simp only [ptr] at hc
        have h1i : (0 : Int) < (n2 : Int) := by omega
        clear hB hel
        go_wp2_with (go_at_call 20; refine (ear_any w _ _ (z2 0) H1.out).mono ?_; rintro e w' ⟨rfl, hx, _⟩)
        go_meet
        have e1 : ears none (heads n1 z1 ++ heads n2 z2) = ear (ears none (heads n1 z1)) (z2 0) := by rw [show heads n2 z2 = [z2 0] by simp [heads, h1], ears_snoc]
        rw [e1]
        assumption
      · have h1' : n2 = 0 := by omega
        subst h1'
        go_wp2_with fail
        go_meet
        simpa [heads] using H1.out
    case rest =>
      have H2 : Hid (NX w (ears none (heads n1 z1 ++ heads n2 z2)) wc) := hcut
      have k7 := old hcut.below HK.out.2.2.2
      clear hcut H1
      go_wp2_with fail
      clear k7
      go_loopg [53] n3 (fun g iv wr => ∃ (k : Nat) (o : Option Int), iv = .int .i64 (k : Int) ∧ k + g = n3 ∧ Hid (o = ears none (heads n1 z1 ++ heads n2 z2 ++ rcs now rb re k)) ∧ NX w o wr)
      case atStart => exact ⟨0, _, rfl, by omega, rfl, by simpa [rcs] using H2.out⟩
      case round =>
        obtain ⟨k, o, rfl, hkg, ho, hN⟩ := hrel
        have HN : Hid (NX w o wr) := hN
        by_cases hk : k < n3
        · obtain ⟨f, rfl⟩ : ∃ f, gk = f + 1 := ⟨gk - 1, by omega⟩
          obtain ⟨g, b, ha, hc, c, hel1, hel2⟩ := HI3.out.at hk
          subst ha
          have hB := hN.below
          have hb6 : wr.cell? ⟨b, 6, none⟩ = some (.pointer (some ⟨c, 0, none⟩)) := old hB (by simp [World.cell?, hel1, procC, ptr])
          have HCb : Hid (w.cell? ⟨c, 2, none⟩ = some (.int .i64 (rb k)) ∧ w.cell? ⟨c, 3, none⟩ = some (.int .i64 (re k))) := by
            constructor <;> simp [World.cell?, hel2, callC]
          replace hc := old hB hc
          simp only [ptr] at hc
          have hkn : (k : Int) < (n3 : Int) := by omega
          clear hel1 hel2 hN hB
          go_wp2_with fail
          clear hc hb6
          obtain ⟨wo, hwo⟩ : ∃ wo, wo = wr := ⟨_, rfl⟩
          subst hwo
          go_loopg [63] 2 (fun g jv wq => ∃ (j : Nat) (p : Option Int), jv = .int .i64 (j : Int) ∧ j + g = 2 ∧ Hid (p = ears o (pre now (rb k) (re k) j)) ∧ NX w p wq ∧ wq.heap[wo.heap.size]? = some (.cells #[.int .i64 20000, .int .i64 10000000] 115 (0, 0)))
          case atStart => exact ⟨0, o, rfl, rfl, rfl, HN.out.alloc _, blk_alloc_new _ _⟩
          case round =>
            obtain ⟨j, p, rfl, hjg, hp, hM, hrow⟩ := hrel
            obtain ⟨hc2, hc3⟩ := HCb.out
            replace hc2 := old hM.below hc2
            replace hc3 := old hM.below hc3
            have k0 := old hM.below HK.out.1
            have HM : Hid (NX w p wr) := hM
            have HR : Hid (wr.heap[wo.heap.size]? = some (.cells #[.int .i64 20000, .int .i64 10000000] 115 (0, 0))) := hrow
            have HS : Hid (w.heap.size + 1 < wo.heap.size) := lt_of HN.out.hK
            clear hM
            match j, hjg with
            | 0, hjg =>
              have hs0 : wr.cell? ⟨wo.heap.size, 0, none⟩ = some (.int .i64 20000) := by simp [World.cell?, hrow]
              clear hrow
              by_cases h1 : (20 : Int) < wrap64 (re k - rb k)
              · by_cases h2 : now < wrap64 (rb k + 20)
                · have HH : Hid (hitL now (rb k) (re k) 20 = [wrap64 (rb k + 20)]) := by show _ = _; simp [hitL, hit, h1, h2]
                  go_wp2_with (go_at_call 23; go_in)
                  go_quiet (fail)
                  have H3 := HM.out.drewN nq
                  have H4 : Hid (NX w p (wr.drewN nq)) := H3
                  clear H3
                  go_wp2_with fail
                  refine (ear_any w _ p (wrap64 (rb k + 20)) H4.out).mono ?_
                  rintro e w9 ⟨rfl, hx, hxo⟩
                  have HX : Hid (NX w (ear p (wrap64 (rb k + 20))) w9 ∧ w9.heap[wo.heap.size]? = some (.cells #[.int .i64 20000, .int .i64 10000000] 115 (0, 0))) := ⟨hx, (hxo _ (by have := HS.out; omega) (by have := HS.out; omega)).trans HR.out⟩
                  clear hx hxo
                  go_wp2_with fail
                  go_roundg (gk - 1)
                  case measure => omega
                  case rel => exact ⟨1, ear p (wrap64 (rb k + 20)), by go_num, by omega, by show _ = _; rw [show pre now (rb k) (re k) 1 = hitL now (rb k) (re k) 20 from rfl, HH.out, show p = o from hp.out]; rfl, HX.out.1, HX.out.2⟩
                · have HH : Hid (hitL now (rb k) (re k) 20 = []) := by
                    show _ = _
                    simp only [hitL, hit, decide_eq_false h2, Bool.and_false, Bool.false_eq_true, if_false]
                  go_wp2_with (go_at_call 23; go_in)
                  go_quiet (fail)
                  go_wp2_with fail
                  go_roundg (gk - 1)
                  case measure => omega
                  case rel => exact ⟨1, p, by go_num, by omega, by show _ = _; rw [show pre now (rb k) (re k) 1 = hitL now (rb k) (re k) 20 from rfl, HH.out]; exact hp.out, HM.out.drewN _, HR.out⟩
              · have HH : Hid (hitL now (rb k) (re k) 20 = []) := by
                  show _ = _
                  simp only [hitL, hit, decide_eq_false h1, Bool.false_and, Bool.false_eq_true, if_false]
                have hd : decide ((20 : Int) < wrap64 (re k - rb k)) = false := decide_eq_false h1
                go_wp2_with (go_at_call 23; go_in)
                go_quiet (fail)
                go_wp2_with fail
                go_roundg (gk - 1)
                case measure => omega
                case rel => exact ⟨1, p, by go_num, by omega, by show _ = _; rw [show pre now (rb k) (re k) 1 = hitL now (rb k) (re k) 20 from rfl, HH.out]; exact hp.out, HM.out.drewN _, HR.out⟩
            | 1, hjg =>
              have hs0 : wr.cell? ⟨wo.heap.size, 1, none⟩ = some (.int .i64 10000000) := by simp [World.cell?, hrow]
              clear hrow
              by_cases h1 : (10000 : Int) < wrap64 (re k - rb k)
              · by_cases h2 : now < wrap64 (rb k + 10000)
                · have HH : Hid (hitL now (rb k) (re k) 10000 = [wrap64 (rb k + 10000)]) := by show _ = _; simp [hitL, hit, h1, h2]
                  go_wp2_with (go_at_call 23; go_in)
                  go_quiet (fail)
                  have H3 := HM.out.drewN nq
                  have H4 : Hid (NX w p (wr.drewN nq)) := H3
                  clear H3
                  go_wp2_with fail
                  refine (ear_any w _ p (wrap64 (rb k + 10000)) H4.out).mono ?_
                  rintro e w9 ⟨rfl, hx, hxo⟩
                  have HX : Hid (NX w (ear p (wrap64 (rb k + 10000))) w9 ∧ w9.heap[wo.heap.size]? = some (.cells #[.int .i64 20000, .int .i64 10000000] 115 (0, 0))) := ⟨hx, (hxo _ (by have := HS.out; omega) (by have := HS.out; omega)).trans HR.out⟩
                  clear hx hxo
                  go_wp2_with fail
                  go_roundg (gk - 1)
                  case measure => omega
                  case rel => exact ⟨2, ear p (wrap64 (rb k + 10000)), by go_num, by omega, by show _ = _; rw [show pre now (rb k) (re k) 2 = pre now (rb k) (re k) 1 ++ hitL now (rb k) (re k) 10000 from rfl, ears_append, ← hp.out, HH.out]; rfl, HX.out.1, HX.out.2⟩
                · have HH : Hid (hitL now (rb k) (re k) 10000 = []) := by
                    show _ = _
                    simp only [hitL, hit, decide_eq_false h2, Bool.and_false, Bool.false_eq_true, if_false]
                  go_wp2_with (go_at_call 23; go_in)
                  go_quiet (fail)
                  go_wp2_with fail
                  go_roundg (gk - 1)
                  case measure => omega
                  case rel => exact ⟨2, p, by go_num, by omega, by show _ = _; rw [show pre now (rb k) (re k) 2 = pre now (rb k) (re k) 1 ++ hitL now (rb k) (re k) 10000 from rfl, ears_append, ← hp.out, HH.out]; rfl, HM.out.drewN _, HR.out⟩
              · have HH : Hid (hitL now (rb k) (re k) 10000 = []) := by
                  show _ = _
                  simp only [hitL, hit, decide_eq_false h1, Bool.false_and, Bool.false_eq_true, if_false]
                have hd : decide ((10000 : Int) < wrap64 (re k - rb k)) = false := decide_eq_false h1
                go_wp2_with (go_at_call 23; go_in)
                go_quiet (fail)
                go_wp2_with fail
                go_roundg (gk - 1)
                case measure => omega
                case rel => exact ⟨2, p, by go_num, by omega, by show _ = _; rw [show pre now (rb k) (re k) 2 = pre now (rb k) (re k) 1 ++ hitL now (rb k) (re k) 10000 from rfl, ears_append, ← hp.out, HH.out]; rfl, HM.out.drewN _, HR.out⟩
            | 2, hjg =>
              clear hrow
              go_wp2_with fail
              go_roundg f
              case measure => omega
              case rel => exact ⟨k + 1, p, by go_num, by omega, by show p = _; rw [hp.out, ho.out, rcs, ← ears_append]; simp only [pre, List.append_assoc], HM.out⟩
            | j + 3, hjg => omega
        · have cA := HN.out.cA
          have cK := HN.out.cK
          go_wp2_with fail
          go_quiet (fail)
          go_wp2_with fail
          go_ret2
          obtain rfl : n3 = k := by omega
          have ho' := ho.out
          subst ho'
          exact ⟨rfl, below_drewN HN.out.below _⟩
end Go.Proofs.Ybulkdiuy.lawS5497BWhole
