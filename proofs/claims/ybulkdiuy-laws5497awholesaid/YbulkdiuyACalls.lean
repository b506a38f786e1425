/-
  LawS5497AWhole: the callees: standByLocked, await, standBy, and the lock's methods, each by a contract on the scheduler's block (37 cells).
-/
import Derived.Test.YbulkdiuyAComm
import Derived.Test.YbulkdiuyLocks
import Derived.Conc.MuLone
import Derived.WalkLawsBesides
import Derived.WalkSpells
import Derived.Below
import Derived.OneCell
import Derived.Deep.AppendLies
import Derived.Deep.OwnRows
import Derived.Deep.Draws
import Derived.Deep.QuietTactic
import Derived.BigQuiet
import Derived.Laws.EntriesVeiled
namespace Go.Proofs.Ybulkdiuy.lawS5497AWhole
open Go.RowKit Go.Conc Go.Deep
open Go.MuLone

/-- The scheduler's cells: its processors, its lock's state, its spares, whether it stops; all else is zero. -/
def schC (vp vs : Value) (s : Int) (st : Bool) : Array Value := #[vp, .int .i64 0, .int .u64 0, .int .u32 0, .nilFunc, .int .i64 0, .int .i32 0, .int .u32 0, .nilIface, .int .u32 0, .int .u32 0, .int .u64 0, .pointer none, .pointer none, .int .u64 0,
  .pointer none, .int .i64 0, .int .i64 0, .int .i32 s, .int .u32 0, .pointer none, .pointer none, .int .i64 0, .int .i64 0, .int .i64 0, .pointer none, .slice none 0 0, vs, .bool false, .bool st,
  .int .i64 0, .bool false, .pointer none, .int .i64 0, .int .u32 0, .int .i32 0, .int .u32 0]
def Sch (w : World) (R : Nat) (vp vs : Value) (s : Int) (st : Bool) : Prop := w.heap[R]? = some (.cells (schC vp vs s st) 75 (0, 0))

theorem Sch.cell {w : World} {R : Nat} {vp vs : Value} {s : Int} {st : Bool} (h : Sch w R vp vs s st) :
    w.cell? ⟨R, 0, none⟩ = some vp ∧ w.cell? ⟨R, 18, none⟩ = some (.int .i32 s) ∧ w.cell? ⟨R, 27, none⟩ = some vs ∧ w.cell? ⟨R, 29, none⟩ = some (.bool st) := by
  unfold Sch at h
  simp [World.cell?, h, schC]
theorem Sch.free {w : World} {R : Nat} {vp vs : Value} {s : Int} {st : Bool} (h : Sch w R vp vs s st) (o : Nat) : w.frozen? ⟨R, o, none⟩ = false := by
  unfold Sch at h
  simp [World.frozen?, h]
theorem Sch.lock {w : World} {R : Nat} {vp vs : Value} {s : Int} {st : Bool} (h : Sch w R vp vs s st) (s' : Int) : Sch (w.setCell ⟨R, 18, none⟩ (.int .i32 s')) R vp vs s' st := by
  unfold Sch at h ⊢
  simp only [World.setCell, Array.getElem?_modify, if_true, h, Option.map_some]
  rfl
theorem Sch.spare {w : World} {R : Nat} {vp vs : Value} {s : Int} {st : Bool} (h : Sch w R vp vs s st) (v : Value) : Sch (w.setCell ⟨R, 27, none⟩ v) R vp v s st := by
  unfold Sch at h ⊢
  simp only [World.setCell, Array.getElem?_modify, if_true, h, Option.map_some]
  rfl

def ptr (b : Nat) : Value := .pointer (some ⟨b, 0, none⟩)

set_option maxHeartbeats 800000 in
theorem await_no (wk : Nat) (w : World) : Calls Yba.prog 17 #[ptr wk, .bool false] w fun e w' => e = .returned (.pointer none) ∧ w' = w := by
  simp only [ptr]
  go_enter Yba.func17, Yba.ntmps17
  go_wp2_with fail
  go_ret
  exact ⟨rfl, rfl⟩

set_option maxHeartbeats 800000 in
theorem await_yes (wk c : Nat) (w : World) (v : Value) (s r : Nat) (hk : w.cell? ⟨wk, 0, none⟩ = some (.chan (some c))) (hc : w.heap[c]? = some (.chan 1 #[v] false s r false)) :
    Calls Yba.prog 17 #[ptr wk, .bool true] w fun e w' => e = .returned v ∧ w' = w.setChan c 1 #[] false s (r + 1) false := by
  simp only [ptr]
  refine calls_of_wpN Yba.func17 rfl ?_
  simp only [Yba.ntmps17, List.size_toArray, List.length_cons, List.length_nil, Nat.reduceAdd, Nat.reduceSub, Array.replicate_succ, Array.replicate_zero, List.push_toArray, List.append_toArray, List.nil_append, List.cons_append]
  refine wpN_seq_k (fun K hK => ?_)
  go_wp2_with fail
  refine wpN_seq_k (fun K hK => ?_)
  go_wp2_with fail
  refine wpN_seq ?_
  intro b k cs hb
  refine ⟨.normal, _, _, ?_, Steps.head step_region (Steps.head (op_step (i := 0) (v := .pointer (some ⟨wk, 0, none⟩)) (w' := w) rfl rfl ?_) (Steps.head (op_step (i := 1) (v := .pointer (some ⟨wk, 0, none⟩)) (w' := w) rfl rfl ?_)
    (Steps.head (op_step (i := 2) (v := .pointer (some ⟨wk, 0, none⟩)) (w' := w) rfl rfl ?_) (Steps.head (op_step (i := 3) (v := .chan (some c)) (w' := w) rfl rfl ?_)
    (Steps.head (recv_step (i := 4) (c := c) (cap := 1) (buf := #[v]) (closed := false) (tm := false) (s := s) (r := r) (z := .pointer none) hb rfl rfl ?_ hc (by simp)) (Steps.head (op_step (i := 5) (v := v) (w' := w.setChan c 1 #[] false s (r + 1) false) rfl rfl ?_) (Steps.one step_region_end)))))))⟩
  · refine wpN_of_wp (wp_ret ?_)
    refine bodyPost_ret (results_tmp rfl _ _ _) rfl ?_
    exact ⟨rfl, rfl⟩
  · simp [go_sem]
  · simp [go_sem]
  · simp [go_sem]
  · simp [go_sem, hk]
  · simp [go_sem, rcase]
  · simp [go_sem]

theorem info48 : (Yba.prog.info? 48).map (fun i => (i.zero, i.size, i.bytes)) = some (some (.pointer none), 1, 8) := by kernel_rfl
theorem ptr_one (b : Nat) : ∀ u ∈ [ptr b], u.oneCell' = true := by
  intro u hu
  simp at hu
  subst hu
  rfl
theorem news1 (w : World) (x : Value) (t : TypeId) (j : Nat) (u : Value) (hj : [x][j]? = some u) : (w.alloc (.cells #[x] t)).cell? ((⟨w.heap.size, 0, none⟩ : Addr).add j) = some u := by
  match j, hj with
  | 0, hj => simp at hj; subst hj; simp [Addr.add]
  | j + 1, hj => simp at hj

set_option maxHeartbeats 1600000 in
theorem sbl_no (R wk : Nat) (ap az : Option Addr) (n cp m c : Nat) (st : Bool) (w : World) (hS : Sch w R (.slice ap n cp) (.slice az m c) 1 st) (h : st = true ∨ m = n) :
    Calls Yba.prog 16 #[ptr R, ptr wk] w fun e w' => e = .returned (.bool false) ∧ ∃ q, w' = w.drewN q := by
  simp only [ptr]
  obtain ⟨c0, c18, c27, c29⟩ := hS.cell
  clear hS
  cases st with
  | true =>
    go_enter Yba.func16, Yba.ntmps16
    go_wp2_with fail
    go_quiet (fail)
    go_wp2_with fail
    go_ret
    exact ⟨rfl, _, rfl⟩
  | false =>
    obtain rfl : m = n := by simpa using h
    go_enter Yba.func16, Yba.ntmps16
    go_wp2_with fail
    go_quiet (fail)
    go_wp2_with fail
    go_ret
    exact ⟨rfl, _, rfl⟩

/-- What stays behind standByLocked and standBy: every block but the scheduler's and the spares' old row. -/
def Stays (w w' : World) (R : Nat) (v : Value) : Prop := ∀ k, k < w.heap.size → k ≠ R → some k ≠ v.ownBlock → w'.heap[k]? = w.heap[k]?

set_option maxHeartbeats 1600000 in
theorem sbl_yes (R wk B : Nat) (ap az : Option Addr) (n cp m c : Nat) (xs : List Value) (w : World) (hS : Sch w R (.slice ap n cp) (.slice az m c) 1 false) (hne : m ≠ n) (hown : w.ownsRow B 48 1 (.slice az m c) m xs) (hB : B ≤ w.heap.size) (hm : m ≤ 255) :
    Calls Yba.prog 16 #[ptr R, ptr wk] w fun e w' => e = .returned (.bool true) ∧ ∃ g cap, w'.ownsRow B 48 1 (.slice (some ⟨g, 0, none⟩) (m + 1) cap) (m + 1) (xs ++ [ptr wk]) ∧
      Sch w' R (.slice ap n cp) (.slice (some ⟨g, 0, none⟩) (m + 1) cap) 1 false ∧ Stays w w' R (.slice az m c) ∧ ∀ B', B' ≤ B → B' ≤ R → Below B' w w' := by
  obtain ⟨c0, c18, c27, c29⟩ := hS.cell
  obtain ⟨i, hi, hz0, hz1, hz2⟩ := info_parts info48
  have hmn : ((m : Int) == (n : Int)) = false := by simp; omega
  have HS : Hid (Sch w R (.slice ap n cp) (.slice az m c) 1 false) := hS
  have HO : Hid (w.ownsRow B 48 1 (.slice az m c) m xs) := hown
  have I : Hid (Yba.prog.info? 48 = some i ∧ i.zero = some (.pointer none) ∧ i.size = 1 ∧ i.bytes = 8) := ⟨hi, hz0, hz1, hz2⟩
  have HR : Hid (R < w.heap.size ∧ some R ≠ (Value.slice az m c).ownBlock) := by
    refine ⟨(Array.getElem?_eq_some_iff.1 hS).1, fun e => ?_⟩
    rcases hown.2 with ⟨hv, _⟩ | ⟨g, cap, cur, hv, hgB, hgr, _⟩
    · rw [hv] at e; simp [Value.ownBlock] at e
    · rw [hv] at e
      have e' : R = g := by simpa [Value.ownBlock] using e
      subst e'
      unfold Sch at hS
      rw [hS] at hgr
      simp at hgr
  clear hS hown hi hz0 hz1 hz2
  have hwk : ptr wk = .pointer (some ⟨wk, 0, none⟩) := rfl
  rw [hwk]
  simp only [ptr]
  clear hwk
  go_enter Yba.func16, Yba.ntmps16
  go_wp2_with fail
  go_quiet (fail)
  go_wp2_with (at_builtin; go_must (refine wpList_append_lies _ rfl (.tmp 26) (.tmp 28) 47 rfl B 48 i (.pointer none) 1 8 Yba.underlying47 I.out.1 I.out.2.1 I.out.2.2.1 I.out.2.2.2 rfl (by decide) (.slice az m c) m xs rfl (World.ownsRow.alloc (w := w.drewN nq) HO.out _) ⟨w.heap.size, 0, none⟩ 1 1 [ptr wk] rfl rfl (news1 _ _ _) (ptr_one _) (by omega) (by unfold maxLen; omega) (by omega) (by simp <;> omega) (w.heap.size + 1) (nblk_alloc _ _) ?_); intro g cap w1 hown1 hgrow hat hlt; have hS1 : Sch w1 R (.slice ap n cp) (.slice az m c) 1 false := ((hgrow.block R (by rw [nblk_alloc]; exact Nat.lt_succ_of_lt HR.out.1) HR.out.2).trans (blk_alloc_lt _ _ _ HR.out.1)).trans HS.out; have d27 := hS1.cell.2.2.1; have f27 := hS1.free 27; have HS1 : Hid _ := hS1; clear hS1)
  go_ret
  have hgR : g ≠ R := by
    rcases hat with h | h
    · exact fun e => HR.out.2 (by rw [h, e])
    · have := HR.out.1
      omega
  refine ⟨rfl, g, cap, ownsRow_setCell_other hown1 (fun e => hgR (by simpa [Value.ownBlock] using e)) _, Sch.spare (w := w1) HS1.out _, ?_, ?_⟩
  · intro k hk hkR hko
    rw [Below.heap_setCell _ _ _ _ hkR, hgrow.block k (by rw [nblk_alloc]; exact Nat.lt_succ_of_lt hk) hko]
    exact blk_alloc_lt (w.drewN nq) _ _ hk
  · intro B' hB1 hB2
    have h0 : Below B' w (w.drewN nq) := below_drewN (Below.refl _ _) _
    refine ((h0.alloc (by show B' ≤ w.heap.size; omega) _).grown hgrow (by rw [nblk_alloc]; show B' ≤ w.heap.size + 1; omega) ?_).setCell hB2 _
    intro k hk
    rcases HO.out.2 with ⟨hv, _⟩ | ⟨g', cap', cur, hv, hgB, _⟩
    · rw [hv] at hk; simp [Value.ownBlock] at hk
    · rw [hv] at hk
      have e' : g' = k := by simpa [Value.ownBlock] using hk
      omega

/-- standBy: the worker is refused: the scheduler, the channel, all is as it was. -/
theorem stand_no (R wk : Nat) (ap az : Option Addr) (n cp m c : Nat) (st : Bool) (w : World) (hS : Sch w R (.slice ap n cp) (.slice az m c) 0 st) (h : st = true ∨ m = n) :
    Calls Yba.prog 6 #[ptr R, ptr wk] w fun e w' => e = .returned (.pointer none) ∧ Sch w' R (.slice ap n cp) (.slice az m c) 0 st ∧ (∀ k, k ≠ R → w'.heap[k]? = w.heap[k]?) ∧ ∀ B', B' ≤ R → Below B' w w' := by
  obtain ⟨c0, c18, c27, c29⟩ := hS.cell
  have z18 := hS.free 18
  have HS1 : Hid (Sch (w.setCell ⟨R, 18, none⟩ (.int .i32 1)) R (.slice ap n cp) (.slice az m c) 1 st) := hS.lock 1
  have H : Hid (st = true ∨ m = n) := h
  clear hS h c0 c27 c29
  simp only [ptr]
  go_enter Yba.func6, Yba.ntmps6
  go_wp2_with fail
  refine (lock_free Yba.muLib ⟨R, 18, none⟩ _ c18 z18).mono ?_
  rintro e w' ⟨rfl, rfl⟩
  go_wp2_with fail
  refine (sbl_no R wk ap az n cp m c st _ HS1.out H.out).mono ?_
  rintro e w2 ⟨rfl, q, rfl⟩
  have HS2 : Hid (Sch ((w.setCell ⟨R, 18, none⟩ (.int .i32 1)).drewN q) R (.slice ap n cp) (.slice az m c) 1 st) := HS1.out
  go_wp2_with fail
  refine (unlock_held Yba.muLib ⟨R, 18, none⟩ _ HS2.out.cell.2.1 (HS2.out.free _)).mono ?_
  rintro e w3 ⟨rfl, rfl⟩
  go_wp2_with fail
  refine (await_no wk _).mono ?_
  rintro e w4 ⟨rfl, rfl⟩
  go_wp2_with fail
  go_ret
  refine ⟨rfl, HS2.out.lock 0, fun k hk => ?_, fun B' hB => ?_⟩
  · rw [Below.heap_setCell _ _ _ _ hk]
    exact Below.heap_setCell _ _ _ _ hk
  · exact (below_drewN ((Below.refl _ _).setCell hB _) _).setCell hB _

/-- A block that is no row of workers is none of the spares' own. -/
theorem not_row {w : World} {B : Nat} {v : Value} {n : Nat} {xs : List Value} (h : w.ownsRow B 48 1 v n xs) {k : Nat} (hk : ∀ cur, w.heap[k]? ≠ some (.cells cur 48 (0, 0))) : some k ≠ v.ownBlock := by
  intro e
  rcases h.2 with ⟨hv, _⟩ | ⟨g, cap, cur, hv, hgB, hgr, _⟩
  · rw [hv] at e; simp [Value.ownBlock] at e
  · rw [hv] at e
    have e' : k = g := by simpa [Value.ownBlock] using e
    subst e'
    exact hk cur hgr

/-- standBy: the worker is taken among the spares, and is handed what lies in its channel. -/
theorem stand_yes (R wk cb B : Nat) (ap az : Option Addr) (n cp m c : Nat) (xs : List Value) (v : Value) (s r : Nat) (w : World) (hS : Sch w R (.slice ap n cp) (.slice az m c) 0 false) (hne : m ≠ n) (hown : w.ownsRow B 48 1 (.slice az m c) m xs)
    (hB : B ≤ w.heap.size) (hm : m ≤ 255) (hk : w.heap[wk]? = some (.cells #[.chan (some cb)] 51 (0, 0))) (hc : w.heap[cb]? = some (.chan 1 #[v] false s r false)) :
    Calls Yba.prog 6 #[ptr R, ptr wk] w fun e w' => e = .returned v ∧ ∃ g cap, w'.ownsRow B 48 1 (.slice (some ⟨g, 0, none⟩) (m + 1) cap) (m + 1) (xs ++ [ptr wk]) ∧
      Sch w' R (.slice ap n cp) (.slice (some ⟨g, 0, none⟩) (m + 1) cap) 0 false ∧ w'.heap[cb]? = some (.chan 1 #[] false s (r + 1) false) ∧
      (∀ k, k < w.heap.size → k ≠ R → k ≠ cb → some k ≠ (Value.slice az m c).ownBlock → w'.heap[k]? = w.heap[k]?) ∧ ∀ B', B' ≤ B → B' ≤ R → B' ≤ cb → Below B' w w' := by
  obtain ⟨c0, c18, c27, c29⟩ := hS.cell
  have z18 := hS.free 18
  have hRo : (Value.slice az m c).ownBlock ≠ some R := fun e => not_row hown (k := R) (fun cur h => by unfold Sch at hS; rw [hS] at h; simp at h) e.symm
  have hwkR : wk ≠ R := fun e => by unfold Sch at hS; rw [e, hS] at hk; simp at hk
  have hcbR : cb ≠ R := fun e => by unfold Sch at hS; rw [e, hS] at hc; simp at hc
  have HS1 : Hid (Sch (w.setCell ⟨R, 18, none⟩ (.int .i32 1)) R (.slice ap n cp) (.slice az m c) 1 false) := hS.lock 1
  have HO1 : Hid ((w.setCell ⟨R, 18, none⟩ (.int .i32 1)).ownsRow B 48 1 (.slice az m c) m xs) := ownsRow_setCell_other hown hRo _
  have HX : Hid (w.heap[wk]? = some (.cells #[.chan (some cb)] 51 (0, 0)) ∧ w.heap[cb]? = some (.chan 1 #[v] false s r false) ∧ some wk ≠ (Value.slice az m c).ownBlock ∧ some cb ≠ (Value.slice az m c).ownBlock) :=
    ⟨hk, hc, not_row hown (fun cur h => by rw [hk] at h; simp at h), not_row hown (fun cur h => by rw [hc] at h; cases h)⟩
  clear hS hown hk hc c0 c27 c29 hRo
  simp only [ptr]
  go_enter Yba.func6, Yba.ntmps6
  go_wp2_with fail
  refine (lock_free Yba.muLib ⟨R, 18, none⟩ _ c18 z18).mono ?_
  rintro e w' ⟨rfl, rfl⟩
  go_wp2_with fail
  refine (sbl_yes R wk B ap az n cp m c xs _ HS1.out hne HO1.out (by rw [nblk_setCell]; exact hB) hm).mono ?_
  rintro e w2 ⟨rfl, g, cap, ho2, hS2, hst, hbel⟩
  have hst' : ∀ k, k < w.heap.size → k ≠ R → some k ≠ (Value.slice az m c).ownBlock → w2.heap[k]? = w.heap[k]? := fun k h1 h2 h3 => (hst k (by rw [nblk_setCell]; exact h1) h2 h3).trans (Below.heap_setCell _ _ _ _ h2)
  have hk2 : w2.heap[wk]? = some (.cells #[.chan (some cb)] 51 (0, 0)) := (hst' wk (Array.getElem?_eq_some_iff.1 HX.out.1).1 hwkR HX.out.2.2.1).trans HX.out.1
  have hc2 : w2.heap[cb]? = some (.chan 1 #[v] false s r false) := (hst' cb (Array.getElem?_eq_some_iff.1 HX.out.2.1).1 hcbR HX.out.2.2.2).trans HX.out.2.1
  have H2 : Hid (w2.ownsRow B 48 1 (.slice (some ⟨g, 0, none⟩) (m + 1) cap) (m + 1) (xs ++ [ptr wk]) ∧ Sch w2 R (.slice ap n cp) (.slice (some ⟨g, 0, none⟩) (m + 1) cap) 1 false ∧
      (∀ k, k < w.heap.size → k ≠ R → some k ≠ (Value.slice az m c).ownBlock → w2.heap[k]? = w.heap[k]?) ∧ (∀ B', B' ≤ B → B' ≤ R → Below B' (w.setCell ⟨R, 18, none⟩ (.int .i32 1)) w2) ∧ w2.heap[wk]? = some (.cells #[.chan (some cb)] 51 (0, 0)) ∧ w2.heap[cb]? = some (.chan 1 #[v] false s r false)) :=
    ⟨ho2, hS2, hst', hbel, hk2, hc2⟩
  clear ho2 hS2 hst hst' hbel hk2 hc2
  go_wp2_with fail
  refine (unlock_held Yba.muLib ⟨R, 18, none⟩ _ H2.out.2.1.cell.2.1 (H2.out.2.1.free _)).mono ?_
  rintro e w3 ⟨rfl, rfl⟩
  have hk3 : (w2.setCell ⟨R, 18, none⟩ (.int .i32 0)).cell? ⟨wk, 0, none⟩ = some (.chan (some cb)) := by
    rw [World.cell?_setCell_other _ ⟨R, 18, none⟩ ⟨wk, 0, none⟩ _ (by simp)]
    simp [World.cell?, H2.out.2.2.2.2.1]
  have hc3 : (w2.setCell ⟨R, 18, none⟩ (.int .i32 0)).heap[cb]? = some (.chan 1 #[v] false s r false) := (Below.heap_setCell _ _ _ _ hcbR).trans H2.out.2.2.2.2.2
  have H3 : Hid _ := And.intro hk3 hc3
  clear hk3 hc3
  go_wp2_with fail
  refine (await_yes wk cb _ v s r H3.out.1 H3.out.2).mono ?_
  rintro e w4 ⟨rfl, rfl⟩
  go_wp2_with fail
  go_ret
  have hgo : (Value.slice (some ⟨g, 0, none⟩) (m + 1) cap).ownBlock ≠ some R := fun e => not_row H2.out.1 (k := R) (fun cur h => by have hS := H2.out.2.1; unfold Sch at hS; rw [hS] at h; simp at h) e.symm
  have hgc : g ≠ cb := by
    intro e
    subst e
    exact not_row H2.out.1 (k := g) (fun cur h => by rw [H2.out.2.2.2.2.2] at h; cases h) rfl
  have far : ∀ (W : World) (k : Nat), k ≠ cb → (W.setChan cb 1 #[] false s (r + 1) false).heap[k]? = W.heap[k]? := by
    intro W k hk
    simp only [World.setChan]
    rw [Array.getElem?_setIfInBounds_ne (by omega)]
  refine ⟨rfl, g, cap, ?_, ?_, ?_, ?_, ?_⟩
  · have h1 := ownsRow_setCell_other (a := ⟨R, 18, none⟩) H2.out.1 hgo (.int .i32 0)
    refine ⟨h1.1, ?_⟩
    rcases h1.2 with h2 | ⟨g', cap', cur, hv, hgB, hgr, rr⟩
    · exact .inl h2
    · refine .inr ⟨g', cap', cur, hv, hgB, (far _ g' ?_).trans hgr, rr⟩
      simp only [Value.slice.injEq, Option.some.injEq, Addr.mk.injEq] at hv
      omega
  · exact (far _ R (fun e => hcbR e.symm)).trans (H2.out.2.1.lock 0)
  · exact heap_setChan _ cb 1 #[] false s (r + 1) false (by rw [nblk_setCell]; exact (Array.getElem?_eq_some_iff.1 H2.out.2.2.2.2.2).1)
  · intro k h1 h2 h3 h4
    rw [far _ k h3, Below.heap_setCell _ _ _ _ h2]
    exact H2.out.2.2.1 k h1 h2 h4
  · intro B' h1 h2 h3
    exact below_setChan ((((Below.refl B' w).setCell h2 _).trans (H2.out.2.2.2.1 B' h1 h2)).setCell h2 _) h3 _ _ _ _ _ _

theorem room28 : (Yba.prog.info? 28).map (fun i => decide (i.size = 0)) = some false := by kernel_rfl

set_option maxRecDepth 100000 in
set_option maxHeartbeats 1600000 in
theorem itry_free (a : Addr) (w : World) (hc : w.cell? a = some (.int .i32 0)) (hz : w.frozen? a = false) :
    Calls Yba.prog 18 #[.pointer (some a)] w fun e w' => e = .returned (.bool true) ∧ w' = w.setCell a (.int .i32 1) := by
  have hd := Go.MuLone.disable Yba.muLib
  have he := Go.MuLone.enable Yba.muLib
  have ha := Go.MuLone.acquire Yba.muLib
  have hcas := run_call_cas_hit (P := Yba.prog) Yba.func27 (by kernel_rfl) (by kernel_rfl) (by kernel_rfl) .i32 (by kernel_rfl) (y := 1) hc hz
  have hc' : (w.setCell a (.int .i32 1)).cell? a = some (.int .i32 1) := by simp [go_sem, hc]
  have hcv := run_convert_to_unsafe (P := Yba.prog) (src := 126) (dst := 36) Yba.underlying126 Yba.underlying36 room28 hc'
  go_enter Yba.func18, Yba.ntmps18
  go_wp2_with fail
  go_ret
  exact ⟨rfl, rfl⟩

set_option maxHeartbeats 1600000 in
theorem mtry_free (a : Addr) (w : World) (hc : w.cell? a = some (.int .i32 0)) (hz : w.frozen? a = false) :
    Calls Yba.prog 7 #[.pointer (some a)] w fun e w' => e = .returned (.bool true) ∧ w' = w.setCell a (.int .i32 1) := by
  go_enter Yba.func7, Yba.ntmps7
  go_wp2_with fail
  refine (itry_free a w hc hz).mono ?_
  rintro e w' ⟨rfl, rfl⟩
  go_wp2_with fail
  go_ret
  exact ⟨rfl, rfl⟩

end Go.Proofs.Ybulkdiuy.lawS5497AWhole
