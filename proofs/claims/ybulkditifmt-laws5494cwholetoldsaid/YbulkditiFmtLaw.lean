import Derived.Test.YbulkditiFmtFce
namespace Go.Proofs.YbulkditiFmt
open Go.RowKit Go.Extern.Stop Go.Stop Go.Extern

theorem Hid.mk' {p : Prop} (h : p) : Hid p := h

theorem cells6 {w : World} {b : Nat} {a0 a1 a2 a3 a4 a5 : Value} {t : TypeId} (h : w.heap[b]? = some (.cells #[a0, a1, a2, a3, a4, a5] t (0, 0))) :
    w.cell? ⟨b, 0, none⟩ = some a0 ∧ w.cell? ⟨b, 1, none⟩ = some a1 ∧ w.cell? ⟨b, 2, none⟩ = some a2 ∧ w.cell? ⟨b, 3, none⟩ = some a3 ∧ w.cell? ⟨b, 5, none⟩ = some a5 := by
  simp [World.cell?, h]

theorem neq31 (w : World) (a : Option Addr) (n c : Nat) : (binOp .neq 31 (.slice a n c) (.slice none 0 0)).run Ybaf.prog w = .ok (.bool (!a.isNone)) w := run_neq_slice_nil_any w 31 _ a n c 0 0 Ybaf.underlying31
theorem neq25 (w : World) (a : Option Addr) (n c : Nat) : (binOp .neq 25 (.slice a n c) (.slice none 0 0)).run Ybaf.prog w = .ok (.bool (!a.isNone)) w := run_neq_slice_nil_any w 25 _ a n c 0 0 Ybaf.underlying25
theorem neq22 (w : World) (a : Option Addr) (n c : Nat) : (binOp .neq 22 (.slice a n c) (.slice none 0 0)).run Ybaf.prog w = .ok (.bool (!a.isNone)) w := run_neq_slice_nil_any w 22 _ a n c 0 0 Ybaf.underlying22
theorem eql22 (w : World) (a : Option Addr) (n c : Nat) : (binOp .eql 22 (.slice a n c) (.slice none 0 0)).run Ybaf.prog w = .ok (.bool a.isNone) w := Lib.run_eql_slice_nil w 22 _ a n c 0 0 Ybaf.underlying22
attribute [local go_sem] neq31 neq25 neq22 eql22

theorem bcell {W w1 : World} {B : Nat} (hb : Below B W w1) {b o : Nat} {v : Value} (h : b < B) (hc : W.cell? ⟨b, o, none⟩ = some v) : w1.cell? ⟨b, o, none⟩ = some v :=
  (hb.cell (p := ⟨b, o, none⟩) h).trans hc

theorem acell {w : World} {b o : Nat} {v : Value} (ob : Obj) (h : b < w.heap.size) (hc : w.cell? ⟨b, o, none⟩ = some v) : (w.alloc ob).cell? ⟨b, o, none⟩ = some v :=
  (World.cell?_of_block (w := w) (a := ⟨b, o, none⟩) (Below.heap_alloc w ob b h)).trans hc

/-- The schema's block, as a law's walk lays it. -/
theorem schema {w1 w3 : World} {nm : ByteArray} (hb3 : Below (w1.alloc (.cells #[.string nm, .slice none 0 0, .slice none 0 0] 27)).heap.size (w1.alloc (.cells #[.string nm, .slice none 0 0, .slice none 0 0] 27)) w3) :
    w3.cell? ⟨w1.heap.size, 0, none⟩ = some (.string nm) ∧ w3.cell? ⟨w1.heap.size, 1, none⟩ = some (.slice none 0 0) ∧ w3.cell? ⟨w1.heap.size, 2, none⟩ = some (.slice none 0 0) := by
  have e : (w1.alloc (.cells #[.string nm, .slice none 0 0, .slice none 0 0] 27)).heap.size = w1.heap.size + 1 := Go.Deep.nblk_alloc _ _
  exact ⟨bcell hb3 (by omega) (by simp), bcell hb3 (by omega) (by simp), bcell hb3 (by omega) (by simp)⟩

/-- What slices.Clone hands back of a slice that is not nil. -/
theorem cloned {w1 : World} {B n : Nat} {ss : List ByteArray} {v1 : Value} (hss : n ≤ ss.length) (hown : w1.ownsRow B 9 1 v1 n ((ss.take n).map Value.string)) (hv1 : v1 ≠ .slice none 0 0) :
    ∃ g cap, v1 = .slice (some ⟨g, 0, none⟩) n cap ∧ g < w1.heap.size ∧ ∀ j, j < n → w1.cell? ⟨g, j, none⟩ = some (.string (ss.getD j ByteArray.empty)) := by
  rcases hown.2 with ⟨h, _⟩ | ⟨g, cap, cur, h, _, hr, _⟩
  · exact absurd h hv1
  · obtain ⟨hlt, _⟩ := Array.getElem?_eq_some_iff.1 hr
    subst h
    refine ⟨g, cap, rfl, hlt, fun j hj => ?_⟩
    rw [hown.cellAt j (by omega)]
    simp [hj, List.getElem?_eq_getElem (show j < ss.length by omega), List.getD]

theorem tab_below {w w1 : World} (hb : Below w.heap.size w w1) (h : Lib.TabIs Ybaf.prog w Ybaf.powName .u64 Lib.pow10Tab) : Lib.TabIs Ybaf.prog w1 Ybaf.powName .u64 Lib.pow10Tab := by
  unfold Lib.TabIs at *
  rw [← h]
  have hg : Ybaf.prog.globalNamed Ybaf.powName = some 0 := by kernel_rfl
  simp only [World.var?, hg, Option.bind_some] at h ⊢
  have hlt : 0 < w.heap.size := by
    rcases hx : w.heap[0]? with _ | o
    · simp [hx] at h
    · exact (Array.getElem?_eq_some_iff.1 hx).1
  rw [hb.block 0 hlt]

theorem takes (ss : List ByteArray) (n : Nat) : decide (ss.take n = (ss.take n).take n) = true := decide_eq_true (by rw [List.take_take, Nat.min_self])

theorem sch_size (w1 : World) (o : Obj) : (w1.alloc o).heap.size = w1.heap.size + 1 := Go.Deep.nblk_alloc _ _

set_option maxHeartbeats 1600000 in
set_option maxRecDepth 100000 in
theorem law_lt (F : Interp) (w : World) (nm : ByteArray) (line : Int) (m n b off c : Nat) (ss : List ByteArray) (hm : m < n) (hn : n ≤ 1048576) (hss : n ≤ ss.length) (hF : F.answers w.tape)
    (hc : ∀ j, j < ss.length → w.cell? ⟨b, off + j, none⟩ = some (.string (ss.getD j ByteArray.empty))) (hb : b < w.heap.size) :
    Calls Ybaf.prog 3 #[.string nm, .int .i64 line, .int .i64 (m : Int), .slice (some ⟨b, off, none⟩) n c] w fun e w' => e = .returned (.bool true) ∧ Below w.heap.size w w' := by
  have hni : (n : Int) ≤ 1048576 := by omega
  have HC : Hid (∀ j, j < ss.length → w.cell? ⟨b, off + j, none⟩ = some (.string (ss.getD j ByteArray.empty))) := hc
  clear hc
  have hmi : (m : Int) < (n : Int) := by omega
  go_enter Ybaf.func3, Ybaf.ntmps3
  go_wp2_with fail
  refine (Ybaf.slices_Clone_string b off n c ss w hss (by omega) HC.out).mono ?_
  rintro e w1 ⟨v1, rfl, hown, hv1, hb1⟩
  obtain ⟨g, cap, hv, hg, hcp⟩ := cloned hss hown hv1
  subst hv
  have HCP : Hid (∀ j, j < n → w1.cell? ⟨g, j, none⟩ = some (.string (ss.getD j ByteArray.empty))) := hcp
  clear hcp hown hv1
  have hbs := hb1.size
  have htp := hb1.tape
  have HTP := Hid.mk' htp
  clear htp
  go_wp2_with fail
  refine (fce_lt F _ w1.heap.size nm line m n b off c (ss.getD m ByteArray.empty) hm (by show F.answers w1.tape; rw [HTP.out]; exact hF) (acell _ (by omega) (bcell hb1 hb (HC.out m (by omega)))) (by simp) (by rw [sch_size]; omega) (by rw [sch_size]; omega)).mono ?_
  rintro e w3 ⟨x, msg, rfl, hx, hxs, hb3⟩
  obtain ⟨x0, x1, x2, x3, x5⟩ := cells6 hx
  obtain ⟨q0, q1, q2⟩ := schema hb3
  have hw3 := hb3.size
  rw [sch_size] at hw3 hxs
  have hx3 : x < w3.heap.size := (Array.getElem?_eq_some_iff.1 hx).1
  have B3 : Below w.heap.size w w3 := hb1.trans (((Below.refl w.heap.size w1).alloc hbs _).trans (hb3.mono (by rw [sch_size]; omega)))
  clear hx
  have hcm : w3.cell? ⟨g, m, none⟩ = some (.string (ss.getD m ByteArray.empty)) := bcell hb3 (by rw [sch_size]; omega) (acell _ hg (HCP.out m hm))
  have EQ := Ybaf.slices_Equal_string b off n c g 0 n cap ss (ss.take n) w3 hss (by simp; omega) (by omega) (by omega) (fun j hj => bcell hb3 (by rw [sch_size]; omega) (acell _ (by omega) (bcell hb1 hb (HC.out j hj)))) (fun j hj => by
    have hjn : j < n := by simp at hj; omega
    rw [Nat.zero_add]
    have h := bcell hb3 (by rw [sch_size]; omega) (acell (.cells #[.string nm, .slice none 0 0, .slice none 0 0] 27) hg (HCP.out j hjn))
    rw [h]
    simp [List.getD, hjn])
  rw [takes ss n] at EQ
  have HEQ := Hid.mk' EQ
  clear EQ
  generalize ss.getD m ByteArray.empty = s at *
  go_wp2_with fail
  refine Calls.mono HEQ.out ?_
  rintro e w5 ⟨rfl, q, rfl⟩
  go_wp2_with fail
  go_ret
  exact ⟨rfl, below_drewN B3 _⟩

set_option maxHeartbeats 1600000 in
set_option maxRecDepth 100000 in
theorem law_ge (F : Interp) (w : World) (nm : ByteArray) (line : Int) (m n b off c : Nat) (ss : List ByteArray) (hm : n ≤ m) (hn : n ≤ 1048576) (hss : n ≤ ss.length) (hF : F.answers w.tape) (htab : Lib.TabIs Ybaf.prog w Ybaf.powName .u64 Lib.pow10Tab)
    (hc : ∀ j, j < ss.length → w.cell? ⟨b, off + j, none⟩ = some (.string (ss.getD j ByteArray.empty))) (hb : b < w.heap.size) :
    Calls Ybaf.prog 3 #[.string nm, .int .i64 line, .int .i64 (m : Int), .slice (some ⟨b, off, none⟩) n c] w fun e w' => e = .returned (.bool true) ∧ Below w.heap.size w w' := by
  have hni : (n : Int) ≤ 1048576 := by omega
  have HC : Hid (∀ j, j < ss.length → w.cell? ⟨b, off + j, none⟩ = some (.string (ss.getD j ByteArray.empty))) := hc
  clear hc
  have hmi : (n : Int) ≤ (m : Int) := by omega
  have HT : Hid (Lib.TabIs Ybaf.prog w Ybaf.powName .u64 Lib.pow10Tab) := htab
  clear htab
  go_enter Ybaf.func3, Ybaf.ntmps3
  go_wp2_with fail
  refine (Ybaf.slices_Clone_string b off n c ss w hss (by omega) HC.out).mono ?_
  rintro e w1 ⟨v1, rfl, hown, hv1, hb1⟩
  obtain ⟨g, cap, hv, hg, hcp⟩ := cloned hss hown hv1
  subst hv
  have HCP : Hid (∀ j, j < n → w1.cell? ⟨g, j, none⟩ = some (.string (ss.getD j ByteArray.empty))) := hcp
  clear hcp hown hv1
  have hbs := hb1.size
  have htp := hb1.tape
  have HTP := Hid.mk' htp
  clear htp
  go_wp2_with fail
  refine (fce_ge F _ w1.heap.size nm line (m : Int) (some ⟨b, off, none⟩) n c hmi hn (by show F.answers w1.tape; rw [HTP.out]; exact hF) (Lib.tabIs_alloc (tab_below hb1 HT.out) _) (by simp) (by rw [sch_size]; omega)).mono ?_
  rintro e w3 ⟨x, msg, rfl, hx, hxs, hb3⟩
  obtain ⟨x0, x1, x2, x3, x5⟩ := cells6 hx
  obtain ⟨q0, q1, q2⟩ := schema hb3
  have hw3 := hb3.size
  rw [sch_size] at hw3 hxs
  have hx3 : x < w3.heap.size := (Array.getElem?_eq_some_iff.1 hx).1
  have B3 : Below w.heap.size w w3 := hb1.trans (((Below.refl w.heap.size w1).alloc hbs _).trans (hb3.mono (by rw [sch_size]; omega)))
  clear hx
  have CI : Calls Ybaf.prog 6 #[.int .i64 ((n : Int) + 1)] w3 fun e w' => e = .returned (.string ⟨(Lib.itoa (((n : Nat) : Int) + 1)).toArray⟩) ∧ Below w3.heap.size w3 w' := by
    have h := citoa_any (n + 1) (by omega) (by omega) w3
    have e8 : (((n + 1 : Nat)) : Int) = ((n : Nat) : Int) + 1 := by omega
    rw [e8] at h
    exact h
  generalize (⟨(Lib.itoa (((n : Nat) : Int) + 1)).toArray⟩ : ByteArray) = s at *
  have HCI := Hid.mk' CI
  clear CI
  go_wp2_with fail
  refine Calls.mono HCI.out ?_
  rintro e w4 ⟨rfl, hb4⟩
  have B4 : Below w.heap.size w w4 := B3.trans (hb4.mono (by omega))
  replace x0 := bcell hb4 hx3 x0
  replace x1 := bcell hb4 hx3 x1
  replace x2 := bcell hb4 hx3 x2
  replace x3 := bcell hb4 hx3 x3
  replace x5 := bcell hb4 hx3 x5
  replace q0 := bcell hb4 (by omega) q0
  replace q1 := bcell hb4 (by omega) q1
  replace q2 := bcell hb4 (by omega) q2
  have EQ := Ybaf.slices_Equal_string b off n c g 0 n cap ss (ss.take n) w4 hss (by simp; omega) (by omega) (by omega) (fun j hj => bcell hb4 (by omega) (bcell hb3 (by rw [sch_size]; omega) (acell _ (by omega) (bcell hb1 hb (HC.out j hj))))) (fun j hj => by
    have hjn : j < n := by simp at hj; omega
    rw [Nat.zero_add]
    have h := bcell hb4 (by omega) (bcell hb3 (by rw [sch_size]; omega) (acell (.cells #[.string nm, .slice none 0 0, .slice none 0 0] 27) hg (HCP.out j hjn)))
    rw [h]
    simp [List.getD, hjn])
  rw [takes ss n] at EQ
  have HEQ := Hid.mk' EQ
  clear EQ hb3 hb4
  go_wp2_with fail
  refine Calls.mono HEQ.out ?_
  rintro e w5 ⟨rfl, q, rfl⟩
  go_wp2_with fail
  go_ret
  exact ⟨rfl, below_drewN B4 _⟩

set_option maxHeartbeats 1600000 in
set_option maxRecDepth 100000 in
theorem law_zero (F : Interp) (w : World) (nm : ByteArray) (line : Int) (m c : Nat) (a : Addr) (hF : F.answers w.tape) (htab : Lib.TabIs Ybaf.prog w Ybaf.powName .u64 Lib.pow10Tab) :
    Calls Ybaf.prog 3 #[.string nm, .int .i64 line, .int .i64 (m : Int), .slice (some a) 0 c] w fun e w' => e = .returned (.bool true) ∧ Below w.heap.size w w' := by
  have HT : Hid (Lib.TabIs Ybaf.prog w Ybaf.powName .u64 Lib.pow10Tab) := htab
  clear htab
  go_enter Ybaf.func3, Ybaf.ntmps3
  go_wp2_with fail
  refine (Ybaf.slices_Clone_string_zero a c w).mono ?_
  rintro e w1 ⟨v1, rfl, hown, hv1, hb1⟩
  obtain ⟨g, cap, hv, hg, hcp⟩ := cloned (ss := []) (Nat.le_refl 0) hown hv1
  subst hv
  clear hcp hown hv1
  have hbs := hb1.size
  have htp := hb1.tape
  have HTP := Hid.mk' htp
  clear htp
  go_wp2_with fail
  refine (fce_ge F _ w1.heap.size nm line (m : Int) (some a) 0 c (by omega) (by omega) (by show F.answers w1.tape; rw [HTP.out]; exact hF) (Lib.tabIs_alloc (tab_below hb1 HT.out) _) (by simp) (by rw [sch_size]; omega)).mono ?_
  rintro e w3 ⟨x, msg, rfl, hx, hxs, hb3⟩
  obtain ⟨x0, x1, x2, x3, x5⟩ := cells6 hx
  obtain ⟨q0, q1, q2⟩ := schema hb3
  have hw3 := hb3.size
  rw [sch_size] at hw3 hxs
  have hx3 : x < w3.heap.size := (Array.getElem?_eq_some_iff.1 hx).1
  have B3 : Below w.heap.size w w3 := hb1.trans (((Below.refl w.heap.size w1).alloc hbs _).trans (hb3.mono (by rw [sch_size]; omega)))
  clear hx
  have CI : Calls Ybaf.prog 6 #[.int .i64 (1)] w3 fun e w' => e = .returned (.string ⟨(Lib.itoa (((0 : Nat) : Int) + 1)).toArray⟩) ∧ Below w3.heap.size w3 w' := by
    have h := citoa_any (0 + 1) (by omega) (by omega) w3
    have e8 : (((0 + 1 : Nat)) : Int) = ((0 : Nat) : Int) + 1 := by omega
    rw [e8] at h
    exact h
  generalize (⟨(Lib.itoa (((0 : Nat) : Int) + 1)).toArray⟩ : ByteArray) = s at *
  have HCI := Hid.mk' CI
  clear CI
  go_wp2_with fail
  refine Calls.mono HCI.out ?_
  rintro e w4 ⟨rfl, hb4⟩
  have B4 : Below w.heap.size w w4 := B3.trans (hb4.mono (by omega))
  replace x0 := bcell hb4 hx3 x0
  replace x1 := bcell hb4 hx3 x1
  replace x2 := bcell hb4 hx3 x2
  replace x3 := bcell hb4 hx3 x3
  replace x5 := bcell hb4 hx3 x5
  replace q0 := bcell hb4 (by omega) q0
  replace q1 := bcell hb4 (by omega) q1
  replace q2 := bcell hb4 (by omega) q2
  have EQ := Ybaf.slices_Equal_string_empty (some a) (some ⟨g, 0, none⟩) c 0 cap w4 (by omega)
  have HEQ := Hid.mk' EQ
  clear EQ hb3 hb4
  go_wp2_with fail
  refine Calls.mono HEQ.out ?_
  rintro e w5 ⟨rfl, rfl⟩
  go_wp2_with fail
  go_ret
  exact ⟨rfl, B4⟩

set_option maxHeartbeats 1600000 in
set_option maxRecDepth 100000 in
theorem law_nil (F : Interp) (w : World) (nm : ByteArray) (line : Int) (m : Nat) (hF : F.answers w.tape) (htab : Lib.TabIs Ybaf.prog w Ybaf.powName .u64 Lib.pow10Tab) :
    Calls Ybaf.prog 3 #[.string nm, .int .i64 line, .int .i64 (m : Int), .slice none 0 0] w fun e w' => e = .returned (.bool true) ∧ Below w.heap.size w w' := by
  have HT : Hid (Lib.TabIs Ybaf.prog w Ybaf.powName .u64 Lib.pow10Tab) := htab
  clear htab
  go_enter Ybaf.func3, Ybaf.ntmps3
  go_wp2_with fail
  refine (Ybaf.slices_Clone_string_nil 0 0 w).mono ?_
  rintro e w1 ⟨rfl, hw1⟩
  have hw2 := hw1.symm
  subst hw2
  clear hw1
  have hb1 : Below w.heap.size w w := Below.refl _ _
  have hbs : w.heap.size ≤ w.heap.size := Nat.le_refl _
  go_wp2_with fail
  refine (fce_ge F _ w.heap.size nm line (m : Int) none 0 0 (by omega) (by omega) (by exact hF) (by exact Lib.tabIs_alloc HT.out _) (by simp) (by rw [sch_size]; omega)).mono ?_
  rintro e w3 ⟨x, msg, rfl, hx, hxs, hb3⟩
  obtain ⟨x0, x1, x2, x3, x5⟩ := cells6 hx
  obtain ⟨q0, q1, q2⟩ := schema hb3
  have hw3 := hb3.size
  rw [sch_size] at hw3 hxs
  have hx3 : x < w3.heap.size := (Array.getElem?_eq_some_iff.1 hx).1
  have B3 : Below w.heap.size w w3 := hb1.trans (((Below.refl w.heap.size w).alloc hbs _).trans (hb3.mono (by rw [sch_size]; omega)))
  clear hx
  have CI : Calls Ybaf.prog 6 #[.int .i64 (1)] w3 fun e w' => e = .returned (.string ⟨(Lib.itoa (((0 : Nat) : Int) + 1)).toArray⟩) ∧ Below w3.heap.size w3 w' := by
    have h := citoa_any (0 + 1) (by omega) (by omega) w3
    have e8 : (((0 + 1 : Nat)) : Int) = ((0 : Nat) : Int) + 1 := by omega
    rw [e8] at h
    exact h
  generalize (⟨(Lib.itoa (((0 : Nat) : Int) + 1)).toArray⟩ : ByteArray) = s at *
  have HCI := Hid.mk' CI
  clear CI
  go_wp2_with fail
  refine Calls.mono HCI.out ?_
  rintro e w4 ⟨rfl, hb4⟩
  have B4 : Below w.heap.size w w4 := B3.trans (hb4.mono (by omega))
  replace x0 := bcell hb4 hx3 x0
  replace x1 := bcell hb4 hx3 x1
  replace x2 := bcell hb4 hx3 x2
  replace x3 := bcell hb4 hx3 x3
  replace x5 := bcell hb4 hx3 x5
  replace q0 := bcell hb4 (by omega) q0
  replace q1 := bcell hb4 (by omega) q1
  replace q2 := bcell hb4 (by omega) q2
  have EQ := Ybaf.slices_Equal_string_empty none none 0 0 0 w4 (by omega)
  have HEQ := Hid.mk' EQ
  clear EQ hb3 hb4
  go_wp2_with fail
  refine Calls.mono HEQ.out ?_
  rintro e w5 ⟨rfl, rfl⟩
  go_wp2_with fail
  go_ret
  exact ⟨rfl, B4⟩

set_option maxHeartbeats 1600000 in
set_option maxRecDepth 100000 in
theorem law_lt_neg (F : Interp) (w : World) (nm : ByteArray) (line : Int) (m n b off c : Nat) (ss : List ByteArray) (hm : m < n) (hn : n ≤ 1048576) (hss : n ≤ ss.length) (kv : Int) (hneg : kv < 0) (_hlo : -9223372036854775808 ≤ kv) (hkm : -(kv + 1) = (m : Int)) (hF : F.answers w.tape)
    (hc : ∀ j, j < ss.length → w.cell? ⟨b, off + j, none⟩ = some (.string (ss.getD j ByteArray.empty))) (hb : b < w.heap.size) :
    Calls Ybaf.prog 3 #[.string nm, .int .i64 line, .int .i64 kv, .slice (some ⟨b, off, none⟩) n c] w fun e w' => e = .returned (.bool true) ∧ Below w.heap.size w w' := by
  have hni : (n : Int) ≤ 1048576 := by omega
  have HC : Hid (∀ j, j < ss.length → w.cell? ⟨b, off + j, none⟩ = some (.string (ss.getD j ByteArray.empty))) := hc
  clear hc
  have hmi : (m : Int) < (n : Int) := by omega
  go_enter Ybaf.func3, Ybaf.ntmps3
  go_wp2_with fail
  refine (Ybaf.slices_Clone_string b off n c ss w hss (by omega) HC.out).mono ?_
  rintro e w1 ⟨v1, rfl, hown, hv1, hb1⟩
  obtain ⟨g, cap, hv, hg, hcp⟩ := cloned hss hown hv1
  subst hv
  have HCP : Hid (∀ j, j < n → w1.cell? ⟨g, j, none⟩ = some (.string (ss.getD j ByteArray.empty))) := hcp
  clear hcp hown hv1
  have hbs := hb1.size
  have htp := hb1.tape
  have HTP := Hid.mk' htp
  clear htp
  go_wp2_with fail
  refine (fce_lt F _ w1.heap.size nm line m n b off c (ss.getD m ByteArray.empty) hm (by show F.answers w1.tape; rw [HTP.out]; exact hF) (acell _ (by omega) (bcell hb1 hb (HC.out m (by omega)))) (by simp) (by rw [sch_size]; omega) (by rw [sch_size]; omega)).mono ?_
  rintro e w3 ⟨x, msg, rfl, hx, hxs, hb3⟩
  obtain ⟨x0, x1, x2, x3, x5⟩ := cells6 hx
  obtain ⟨q0, q1, q2⟩ := schema hb3
  have hw3 := hb3.size
  rw [sch_size] at hw3 hxs
  have hx3 : x < w3.heap.size := (Array.getElem?_eq_some_iff.1 hx).1
  have B3 : Below w.heap.size w w3 := hb1.trans (((Below.refl w.heap.size w1).alloc hbs _).trans (hb3.mono (by rw [sch_size]; omega)))
  clear hx
  have hcm : w3.cell? ⟨g, m, none⟩ = some (.string (ss.getD m ByteArray.empty)) := bcell hb3 (by rw [sch_size]; omega) (acell _ hg (HCP.out m hm))
  have EQ := Ybaf.slices_Equal_string b off n c g 0 n cap ss (ss.take n) w3 hss (by simp; omega) (by omega) (by omega) (fun j hj => bcell hb3 (by rw [sch_size]; omega) (acell _ (by omega) (bcell hb1 hb (HC.out j hj)))) (fun j hj => by
    have hjn : j < n := by simp at hj; omega
    rw [Nat.zero_add]
    have h := bcell hb3 (by rw [sch_size]; omega) (acell (.cells #[.string nm, .slice none 0 0, .slice none 0 0] 27) hg (HCP.out j hjn))
    rw [h]
    simp [List.getD, hjn])
  rw [takes ss n] at EQ
  have HEQ := Hid.mk' EQ
  clear EQ
  generalize ss.getD m ByteArray.empty = s at *
  go_wp2_with fail
  refine Calls.mono HEQ.out ?_
  rintro e w5 ⟨rfl, q, rfl⟩
  go_wp2_with fail
  go_ret
  exact ⟨rfl, below_drewN B3 _⟩

set_option maxHeartbeats 1600000 in
set_option maxRecDepth 100000 in
theorem law_ge_neg (F : Interp) (w : World) (nm : ByteArray) (line : Int) (m n b off c : Nat) (ss : List ByteArray) (hm : n ≤ m) (hn : n ≤ 1048576) (hss : n ≤ ss.length) (kv : Int) (hneg : kv < 0) (_hlo : -9223372036854775808 ≤ kv) (hkm : -(kv + 1) = (m : Int)) (hF : F.answers w.tape) (htab : Lib.TabIs Ybaf.prog w Ybaf.powName .u64 Lib.pow10Tab)
    (hc : ∀ j, j < ss.length → w.cell? ⟨b, off + j, none⟩ = some (.string (ss.getD j ByteArray.empty))) (hb : b < w.heap.size) :
    Calls Ybaf.prog 3 #[.string nm, .int .i64 line, .int .i64 kv, .slice (some ⟨b, off, none⟩) n c] w fun e w' => e = .returned (.bool true) ∧ Below w.heap.size w w' := by
  have hni : (n : Int) ≤ 1048576 := by omega
  have HC : Hid (∀ j, j < ss.length → w.cell? ⟨b, off + j, none⟩ = some (.string (ss.getD j ByteArray.empty))) := hc
  clear hc
  have hmi : (n : Int) ≤ (m : Int) := by omega
  have HT : Hid (Lib.TabIs Ybaf.prog w Ybaf.powName .u64 Lib.pow10Tab) := htab
  clear htab
  go_enter Ybaf.func3, Ybaf.ntmps3
  go_wp2_with fail
  refine (Ybaf.slices_Clone_string b off n c ss w hss (by omega) HC.out).mono ?_
  rintro e w1 ⟨v1, rfl, hown, hv1, hb1⟩
  obtain ⟨g, cap, hv, hg, hcp⟩ := cloned hss hown hv1
  subst hv
  have HCP : Hid (∀ j, j < n → w1.cell? ⟨g, j, none⟩ = some (.string (ss.getD j ByteArray.empty))) := hcp
  clear hcp hown hv1
  have hbs := hb1.size
  have htp := hb1.tape
  have HTP := Hid.mk' htp
  clear htp
  go_wp2_with fail
  refine (fce_ge F _ w1.heap.size nm line (m : Int) (some ⟨b, off, none⟩) n c hmi hn (by show F.answers w1.tape; rw [HTP.out]; exact hF) (Lib.tabIs_alloc (tab_below hb1 HT.out) _) (by simp) (by rw [sch_size]; omega)).mono ?_
  rintro e w3 ⟨x, msg, rfl, hx, hxs, hb3⟩
  obtain ⟨x0, x1, x2, x3, x5⟩ := cells6 hx
  obtain ⟨q0, q1, q2⟩ := schema hb3
  have hw3 := hb3.size
  rw [sch_size] at hw3 hxs
  have hx3 : x < w3.heap.size := (Array.getElem?_eq_some_iff.1 hx).1
  have B3 : Below w.heap.size w w3 := hb1.trans (((Below.refl w.heap.size w1).alloc hbs _).trans (hb3.mono (by rw [sch_size]; omega)))
  clear hx
  have CI : Calls Ybaf.prog 6 #[.int .i64 ((n : Int) + 1)] w3 fun e w' => e = .returned (.string ⟨(Lib.itoa (((n : Nat) : Int) + 1)).toArray⟩) ∧ Below w3.heap.size w3 w' := by
    have h := citoa_any (n + 1) (by omega) (by omega) w3
    have e8 : (((n + 1 : Nat)) : Int) = ((n : Nat) : Int) + 1 := by omega
    rw [e8] at h
    exact h
  generalize (⟨(Lib.itoa (((n : Nat) : Int) + 1)).toArray⟩ : ByteArray) = s at *
  have HCI := Hid.mk' CI
  clear CI
  go_wp2_with fail
  refine Calls.mono HCI.out ?_
  rintro e w4 ⟨rfl, hb4⟩
  have B4 : Below w.heap.size w w4 := B3.trans (hb4.mono (by omega))
  replace x0 := bcell hb4 hx3 x0
  replace x1 := bcell hb4 hx3 x1
  replace x2 := bcell hb4 hx3 x2
  replace x3 := bcell hb4 hx3 x3
  replace x5 := bcell hb4 hx3 x5
  replace q0 := bcell hb4 (by omega) q0
  replace q1 := bcell hb4 (by omega) q1
  replace q2 := bcell hb4 (by omega) q2
  have EQ := Ybaf.slices_Equal_string b off n c g 0 n cap ss (ss.take n) w4 hss (by simp; omega) (by omega) (by omega) (fun j hj => bcell hb4 (by omega) (bcell hb3 (by rw [sch_size]; omega) (acell _ (by omega) (bcell hb1 hb (HC.out j hj))))) (fun j hj => by
    have hjn : j < n := by simp at hj; omega
    rw [Nat.zero_add]
    have h := bcell hb4 (by omega) (bcell hb3 (by rw [sch_size]; omega) (acell (.cells #[.string nm, .slice none 0 0, .slice none 0 0] 27) hg (HCP.out j hjn)))
    rw [h]
    simp [List.getD, hjn])
  rw [takes ss n] at EQ
  have HEQ := Hid.mk' EQ
  clear EQ hb3 hb4
  go_wp2_with fail
  refine Calls.mono HEQ.out ?_
  rintro e w5 ⟨rfl, q, rfl⟩
  go_wp2_with fail
  go_ret
  exact ⟨rfl, below_drewN B4 _⟩

set_option maxHeartbeats 1600000 in
set_option maxRecDepth 100000 in
theorem law_zero_neg (F : Interp) (w : World) (nm : ByteArray) (line : Int) (m c : Nat) (a : Addr) (kv : Int) (hneg : kv < 0) (_hlo : -9223372036854775808 ≤ kv) (hkm : -(kv + 1) = (m : Int)) (hF : F.answers w.tape) (htab : Lib.TabIs Ybaf.prog w Ybaf.powName .u64 Lib.pow10Tab) :
    Calls Ybaf.prog 3 #[.string nm, .int .i64 line, .int .i64 kv, .slice (some a) 0 c] w fun e w' => e = .returned (.bool true) ∧ Below w.heap.size w w' := by
  have HT : Hid (Lib.TabIs Ybaf.prog w Ybaf.powName .u64 Lib.pow10Tab) := htab
  clear htab
  go_enter Ybaf.func3, Ybaf.ntmps3
  go_wp2_with fail
  refine (Ybaf.slices_Clone_string_zero a c w).mono ?_
  rintro e w1 ⟨v1, rfl, hown, hv1, hb1⟩
  obtain ⟨g, cap, hv, hg, hcp⟩ := cloned (ss := []) (Nat.le_refl 0) hown hv1
  subst hv
  clear hcp hown hv1
  have hbs := hb1.size
  have htp := hb1.tape
  have HTP := Hid.mk' htp
  clear htp
  go_wp2_with fail
  refine (fce_ge F _ w1.heap.size nm line (m : Int) (some a) 0 c (by omega) (by omega) (by show F.answers w1.tape; rw [HTP.out]; exact hF) (Lib.tabIs_alloc (tab_below hb1 HT.out) _) (by simp) (by rw [sch_size]; omega)).mono ?_
  rintro e w3 ⟨x, msg, rfl, hx, hxs, hb3⟩
  obtain ⟨x0, x1, x2, x3, x5⟩ := cells6 hx
  obtain ⟨q0, q1, q2⟩ := schema hb3
  have hw3 := hb3.size
  rw [sch_size] at hw3 hxs
  have hx3 : x < w3.heap.size := (Array.getElem?_eq_some_iff.1 hx).1
  have B3 : Below w.heap.size w w3 := hb1.trans (((Below.refl w.heap.size w1).alloc hbs _).trans (hb3.mono (by rw [sch_size]; omega)))
  clear hx
  have CI : Calls Ybaf.prog 6 #[.int .i64 (1)] w3 fun e w' => e = .returned (.string ⟨(Lib.itoa (((0 : Nat) : Int) + 1)).toArray⟩) ∧ Below w3.heap.size w3 w' := by
    have h := citoa_any (0 + 1) (by omega) (by omega) w3
    have e8 : (((0 + 1 : Nat)) : Int) = ((0 : Nat) : Int) + 1 := by omega
    rw [e8] at h
    exact h
  generalize (⟨(Lib.itoa (((0 : Nat) : Int) + 1)).toArray⟩ : ByteArray) = s at *
  have HCI := Hid.mk' CI
  clear CI
  go_wp2_with fail
  refine Calls.mono HCI.out ?_
  rintro e w4 ⟨rfl, hb4⟩
  have B4 : Below w.heap.size w w4 := B3.trans (hb4.mono (by omega))
  replace x0 := bcell hb4 hx3 x0
  replace x1 := bcell hb4 hx3 x1
  replace x2 := bcell hb4 hx3 x2
  replace x3 := bcell hb4 hx3 x3
  replace x5 := bcell hb4 hx3 x5
  replace q0 := bcell hb4 (by omega) q0
  replace q1 := bcell hb4 (by omega) q1
  replace q2 := bcell hb4 (by omega) q2
  have EQ := Ybaf.slices_Equal_string_empty (some a) (some ⟨g, 0, none⟩) c 0 cap w4 (by omega)
  have HEQ := Hid.mk' EQ
  clear EQ hb3 hb4
  go_wp2_with fail
  refine Calls.mono HEQ.out ?_
  rintro e w5 ⟨rfl, rfl⟩
  go_wp2_with fail
  go_ret
  exact ⟨rfl, B4⟩

set_option maxHeartbeats 1600000 in
set_option maxRecDepth 100000 in
theorem law_nil_neg (F : Interp) (w : World) (nm : ByteArray) (line : Int) (m : Nat) (kv : Int) (hneg : kv < 0) (_hlo : -9223372036854775808 ≤ kv) (hkm : -(kv + 1) = (m : Int)) (hF : F.answers w.tape) (htab : Lib.TabIs Ybaf.prog w Ybaf.powName .u64 Lib.pow10Tab) :
    Calls Ybaf.prog 3 #[.string nm, .int .i64 line, .int .i64 kv, .slice none 0 0] w fun e w' => e = .returned (.bool true) ∧ Below w.heap.size w w' := by
  have HT : Hid (Lib.TabIs Ybaf.prog w Ybaf.powName .u64 Lib.pow10Tab) := htab
  clear htab
  go_enter Ybaf.func3, Ybaf.ntmps3
  go_wp2_with fail
  refine (Ybaf.slices_Clone_string_nil 0 0 w).mono ?_
  rintro e w1 ⟨rfl, hw1⟩
  have hw2 := hw1.symm
  subst hw2
  clear hw1
  have hb1 : Below w.heap.size w w := Below.refl _ _
  have hbs : w.heap.size ≤ w.heap.size := Nat.le_refl _
  go_wp2_with fail
  refine (fce_ge F _ w.heap.size nm line (m : Int) none 0 0 (by omega) (by omega) (by exact hF) (by exact Lib.tabIs_alloc HT.out _) (by simp) (by rw [sch_size]; omega)).mono ?_
  rintro e w3 ⟨x, msg, rfl, hx, hxs, hb3⟩
  obtain ⟨x0, x1, x2, x3, x5⟩ := cells6 hx
  obtain ⟨q0, q1, q2⟩ := schema hb3
  have hw3 := hb3.size
  rw [sch_size] at hw3 hxs
  have hx3 : x < w3.heap.size := (Array.getElem?_eq_some_iff.1 hx).1
  have B3 : Below w.heap.size w w3 := hb1.trans (((Below.refl w.heap.size w).alloc hbs _).trans (hb3.mono (by rw [sch_size]; omega)))
  clear hx
  have CI : Calls Ybaf.prog 6 #[.int .i64 (1)] w3 fun e w' => e = .returned (.string ⟨(Lib.itoa (((0 : Nat) : Int) + 1)).toArray⟩) ∧ Below w3.heap.size w3 w' := by
    have h := citoa_any (0 + 1) (by omega) (by omega) w3
    have e8 : (((0 + 1 : Nat)) : Int) = ((0 : Nat) : Int) + 1 := by omega
    rw [e8] at h
    exact h
  generalize (⟨(Lib.itoa (((0 : Nat) : Int) + 1)).toArray⟩ : ByteArray) = s at *
  have HCI := Hid.mk' CI
  clear CI
  go_wp2_with fail
  refine Calls.mono HCI.out ?_
  rintro e w4 ⟨rfl, hb4⟩
  have B4 : Below w.heap.size w w4 := B3.trans (hb4.mono (by omega))
  replace x0 := bcell hb4 hx3 x0
  replace x1 := bcell hb4 hx3 x1
  replace x2 := bcell hb4 hx3 x2
  replace x3 := bcell hb4 hx3 x3
  replace x5 := bcell hb4 hx3 x5
  replace q0 := bcell hb4 (by omega) q0
  replace q1 := bcell hb4 (by omega) q1
  replace q2 := bcell hb4 (by omega) q2
  have EQ := Ybaf.slices_Equal_string_empty none none 0 0 0 w4 (by omega)
  have HEQ := Hid.mk' EQ
  clear EQ hb3 hb4
  go_wp2_with fail
  refine Calls.mono HEQ.out ?_
  rintro e w5 ⟨rfl, rfl⟩
  go_wp2_with fail
  go_ret
  exact ⟨rfl, B4⟩
end Go.Proofs.YbulkditiFmt
