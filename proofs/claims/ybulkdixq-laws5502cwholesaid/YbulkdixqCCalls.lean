/-
  LawS5502CWhole: the callees: Delete, TryLock, Unlock, each by a contract on the struct's block (seven cells: the lock's six, the map).
-/
import Derived.Test.YbulkdixqRows
import Derived.Test.YbulkdixqLocks
import Derived.Test.YbulkdixqCPlain
import Derived.Conc.RwLoneW
import Derived.Maps.OwnSet
import Derived.WalkKit
import Derived.WalkSpells
import Derived.WalkLawsBesides
import Derived.Below
namespace Go.Proofs.Ybulkdixq.lawS5502CWhole
open Go.RowKit Go.Maps
open Go.RwLone

theorem law3 : Keyed Yba.prog 3 := int_keyed Yba.underlying3
theorem zero3 (w : World) : (zeroValue 3).run Yba.prog w = .ok (.int .i64 0) w := by kernel_rfl

/-- The struct's cells: the writers' mutex's state s, the readers' count c, the map. -/
def rwc (s c : Int) (mv : Value) : Array Value := #[.int .i32 s, .int .u32 0, .int .u32 0, .int .u32 0, .int .i32 c, .int .i32 0, mv]
def Box (w : World) (R : Nat) (s c : Int) (mv : Value) : Prop := w.heap[R]? = some (.cells (rwc s c mv) 38 (0, 0))

theorem Box.cell {w : World} {R : Nat} {s c : Int} {mv : Value} (h : Box w R s c mv) :
    w.cell? ⟨R, 0, none⟩ = some (.int .i32 s) ∧ w.cell? ⟨R, 2, none⟩ = some (.int .u32 0) ∧ w.cell? ⟨R, 3, none⟩ = some (.int .u32 0) ∧ w.cell? ⟨R, 4, none⟩ = some (.int .i32 c) ∧ w.cell? ⟨R, 6, none⟩ = some mv := by
  unfold Box at h
  simp [World.cell?, h, rwc]
theorem Box.free {w : World} {R : Nat} {s c : Int} {mv : Value} (h : Box w R s c mv) (o : Nat) : w.frozen? ⟨R, o, none⟩ = false := by
  unfold Box at h
  simp [World.frozen?, h]
theorem Box.set0 {w : World} {R : Nat} {s c : Int} {mv : Value} (h : Box w R s c mv) (s' : Int) : Box (w.setCell ⟨R, 0, none⟩ (.int .i32 s')) R s' c mv := by
  unfold Box at h ⊢
  simp only [World.setCell, Array.getElem?_modify, if_true, h, Option.map_some]
  rfl
theorem Box.set4 {w : World} {R : Nat} {s c : Int} {mv : Value} (h : Box w R s c mv) (c' : Int) : Box (w.setCell ⟨R, 4, none⟩ (.int .i32 c')) R s c' mv := by
  unfold Box at h ⊢
  simp only [World.setCell, Array.getElem?_modify, if_true, h, Option.map_some]
  rfl

set_option maxHeartbeats 1600000 in
theorem del_map (R M n : Nat) (D : DataW Unit) (x : Int) (w : World) (hb : Box w R 0 0 (.map (some M))) (hne : M ≠ R) (hown : w.ownsMap Yba.prog 3 (plainElem Yba.prog 3) M n D) (hwx : (Lit.int .i64 x).wf = true) :
    Calls Yba.prog 4 #[.pointer (some ⟨R, 0, none⟩), .int .i64 x] w fun e w' => e = .returned (.tuple #[]) ∧ Box w' R 0 0 (.map (some M)) ∧ w'.ownsMap Yba.prog 3 (plainElem Yba.prog 3) M n (D.del (kl x)) ∧
      (∀ k, k ≠ M → k ≠ R → w'.heap[k]? = w.heap[k]?) ∧ ∀ B, B ≤ M → B ≤ R → Below B w w' := by
  have hkey := keyOf_int_mk Yba.underlying3 hwx
  obtain ⟨c0, c2, c3, c4, c6⟩ := hb.cell
  have z0 := hb.free 0
  have z4 := hb.free 4
  have z6 := hb.free 6
  have hb1 := (hb.set0 1).set4 (-1073741824)
  have hown1 := (hown.setCell (a := ⟨R, 0, none⟩) hne (.int .i32 1)).setCell (a := ⟨R, 4, none⟩) hne (.int .i32 (-1073741824))
  have HB1 : Hid (Box ((w.setCell ⟨R, 0, none⟩ (.int .i32 1)).setCell ⟨R, 4, none⟩ (.int .i32 (-1073741824))) R 1 (-1073741824) (.map (some M))) := hb1
  have HO : Hid (((w.setCell ⟨R, 0, none⟩ (.int .i32 1)).setCell ⟨R, 4, none⟩ (.int .i32 (-1073741824))).ownsMap Yba.prog 3 (plainElem Yba.prog 3) M n D) := hown1
  clear hb1 hown1
  go_enter_defers Yba.func4, Yba.ntmps4
  go_wp2_with (first
    | (go_at_call 7; refine (wlock_free Yba.rwWLib R 0 _ _ _ c0 c2 c3 c4 z0 z4).mono ?_; rintro e w' ⟨rfl, rfl⟩)
    | (at_delete; refine wpList_delete_own _ rfl _ _ 23 3 rfl 3 law3 Yba.underlying23 _ M n D rfl HO.out _ _ rfl hkey ?_; intro w1 hown2 hturn1))
  -- THE DOOR
  have hb2 : Box w1 R 1 (-1073741824) (.map (some M)) := (hturn1.grown.block R (Array.getElem?_eq_some_iff.1 HB1.out).1 (fun e => hne (Option.some.inj e).symm)).trans HB1.out
  obtain ⟨d0, d2, d3, d4, d6⟩ := hb2.cell
  refine leaves_cons (f := 6) (args := #[.pointer (some ⟨R, 0, none⟩)]) (by simp) (by simp [go_sem]) ?_
  refine (wunlock_deferred Yba.rwWLib R 0 _ _ .returning _ d0 d2 d3 d4 (hb2.free _) (hb2.free _)).mono ?_
  rintro e u' w'' ⟨rfl, rfl, rfl⟩
  refine ⟨_, results_none rfl _ _ _, rfl, (hb2.set4 0).set0 0, (hown2.setCell (a := ⟨R, 4, none⟩) hne _).setCell (a := ⟨R, 0, none⟩) hne _, ?_, ?_⟩
  · intro k hk hkR
    rw [Below.heap_setCell _ _ _ _ hkR, Below.heap_setCell _ _ _ _ hkR]
    have h1 : w1.heap[k]? = ((w.setCell ⟨R, 0, none⟩ (.int .i32 1)).setCell ⟨R, 4, none⟩ (.int .i32 (-1073741824))).heap[k]? := by
      obtain ⟨es, clock, es', clock', hb', rfl⟩ := hturn1
      exact ChangeMaps.heap_setBlock_other hb' _ hk
    rw [h1, Below.heap_setCell _ _ _ _ hkR, Below.heap_setCell _ _ _ _ hkR]
  · intro B hM hR
    have h1 : Below B w ((w.setCell ⟨R, 0, none⟩ (.int .i32 1)).setCell ⟨R, 4, none⟩ (.int .i32 (-1073741824))) := ((Below.refl B w).setCell hR _).setCell hR _
    have hl := HO.out.lt
    exact ((h1.grown hturn1.grown (by omega) (fun k hk => by cases hk; exact hM)).setCell hR _).setCell hR _

set_option maxHeartbeats 1600000 in
theorem del_nil (R : Nat) (x : Int) (w : World) (hb : Box w R 0 0 (.map none)) (hwx : (Lit.int .i64 x).wf = true) :
    Calls Yba.prog 4 #[.pointer (some ⟨R, 0, none⟩), .int .i64 x] w fun e w' => e = .returned (.tuple #[]) ∧ Box w' R 0 0 (.map none) ∧ ∀ B, B ≤ R → Below B w w' := by
  have hrun := drop_nil (w := (w.setCell ⟨R, 0, none⟩ (.int .i32 1)).setCell ⟨R, 4, none⟩ (.int .i32 (-1073741824))) law3 Yba.underlying23 (keyOf_int_mk Yba.underlying3 hwx)
  obtain ⟨c0, c2, c3, c4, c6⟩ := hb.cell
  have z0 := hb.free 0
  have z4 := hb.free 4
  have z6 := hb.free 6
  have hb1 := (hb.set0 1).set4 (-1073741824)
  have HB1 : Hid (Box ((w.setCell ⟨R, 0, none⟩ (.int .i32 1)).setCell ⟨R, 4, none⟩ (.int .i32 (-1073741824))) R 1 (-1073741824) (.map none)) := hb1
  clear hb1
  go_enter_defers Yba.func4, Yba.ntmps4
  go_wp2_with (go_at_call 7; refine (wlock_free Yba.rwWLib R 0 _ _ _ c0 c2 c3 c4 z0 z4).mono ?_; rintro e w' ⟨rfl, rfl⟩)
  have hb2 := HB1.out
  obtain ⟨d0, d2, d3, d4, d6⟩ := hb2.cell
  refine leaves_cons (f := 6) (args := #[.pointer (some ⟨R, 0, none⟩)]) (by simp) (by simp [go_sem]) ?_
  refine (wunlock_deferred Yba.rwWLib R 0 _ _ .returning _ d0 d2 d3 d4 (hb2.free _) (hb2.free _)).mono ?_
  rintro e u' w'' ⟨rfl, rfl, rfl⟩
  exact ⟨_, results_none rfl _ _ _, rfl, (hb2.set4 0).set0 0, fun B hR => ((((Below.refl B w).setCell hR _).setCell hR _).setCell hR _).setCell hR _⟩

theorem room29 : (Yba.prog.info? 29).map (fun i => decide (i.size = 0)) = some false := by kernel_rfl
theorem room31 : (Yba.prog.info? 31).map (fun i => decide (i.size = 0)) = some false := by kernel_rfl
theorem room27 : (Yba.prog.info? 27).map (fun i => decide (i.size = 0)) = some false := by kernel_rfl

set_option maxHeartbeats 1600000 in
theorem itry_free (a : Addr) (w : World) (hc : w.cell? a = some (.int .i32 0)) (hz : w.frozen? a = false) :
    Calls Yba.prog 22 #[.pointer (some a)] w fun e w' => e = .returned (.bool true) ∧ w' = w.setCell a (.int .i32 1) := by
  have hd := Go.MuLone.disable Yba.muLib
  have he := Go.MuLone.enable Yba.muLib
  have ha := Go.MuLone.acquire Yba.muLib
  have hcas := run_call_cas_hit (P := Yba.prog) Yba.func23 (by kernel_rfl) (by kernel_rfl) (by kernel_rfl) .i32 (by kernel_rfl) (y := 1) hc hz
  have hc' : (w.setCell a (.int .i32 1)).cell? a = some (.int .i32 1) := by simp [go_sem, hc]
  have hcv := run_convert_to_unsafe (P := Yba.prog) (src := 56) (dst := 45) Yba.underlying56 Yba.underlying45 room29 hc'
  go_enter Yba.func22, Yba.ntmps22
  go_wp2_with fail
  go_ret
  exact ⟨rfl, rfl⟩

set_option maxHeartbeats 1600000 in
theorem mtry_free (a : Addr) (w : World) (hc : w.cell? a = some (.int .i32 0)) (hz : w.frozen? a = false) :
    Calls Yba.prog 10 #[.pointer (some a)] w fun e w' => e = .returned (.bool true) ∧ w' = w.setCell a (.int .i32 1) := by
  go_enter Yba.func10, Yba.ntmps10
  go_wp2_with fail
  refine (itry_free a w hc hz).mono ?_
  rintro e w' ⟨rfl, rfl⟩
  go_wp2_with fail
  go_ret
  exact ⟨rfl, rfl⟩

set_option maxHeartbeats 1600000 in
theorem cas_free (a : Addr) (w : World) (y : Int) (hc : w.cell? a = some (.int .i32 0)) (hz : w.frozen? a = false) :
    Calls Yba.prog 12 #[.pointer (some a), .int .i32 0, .int .i32 y] w fun e w' => e = .returned (.bool true) ∧ w' = w.setCell a (.int .i32 y) := by
  have hcas := run_call_cas_hit (P := Yba.prog) Yba.func23 (by kernel_rfl) (by kernel_rfl) (by kernel_rfl) .i32 (by kernel_rfl) (y := y) hc hz
  go_enter Yba.func12, Yba.ntmps12
  go_wp2_with fail
  go_ret
  exact ⟨rfl, rfl⟩

set_option maxHeartbeats 1600000 in
/-- TryLock at a lock that is wholly free. -/
theorem try_free (R : Nat) (mv : Value) (w : World) (hb : Box w R 0 0 mv) :
    Calls Yba.prog 5 #[.pointer (some ⟨R, 0, none⟩)] w fun e w' => e = .returned (.bool true) ∧ Box w' R 1 (-1073741824) mv ∧ (∀ k, k ≠ R → w'.heap[k]? = w.heap[k]?) ∧ ∀ B, B ≤ R → Below B w w' := by
  obtain ⟨c0, c2, c3, c4, c6⟩ := hb.cell
  have z0 := hb.free 0
  have HB : Hid (Box w R 0 0 mv) := hb
  have hb1 := hb.set0 1
  have d4 := hb1.cell.2.2.2.1
  have y4 := hb1.free 4
  have hb2 := hb1.set4 (-1073741824)
  have d2 := hb2.cell.2.1
  have d3 := hb2.cell.2.2.1
  have HB2 : Hid (Box ((w.setCell ⟨R, 0, none⟩ (.int .i32 1)).setCell ⟨R, 4, none⟩ (.int .i32 (-1073741824))) R 1 (-1073741824) mv) := hb2
  have hd := Go.MuLone.disable Yba.muLib
  have he := Go.MuLone.enable Yba.muLib
  have ha := Go.MuLone.acquire Yba.muLib
  have hrr := Go.RwLone.raceRead Yba.rwCore
  have v0 := run_convert_to_unsafe (P := Yba.prog) (src := 46) (dst := 45) Yba.underlying46 Yba.underlying45 room31 c0
  have v2 := run_convert_to_unsafe (P := Yba.prog) (src := 48) (dst := 45) Yba.underlying48 Yba.underlying45 room27 d2
  have v3 := run_convert_to_unsafe (P := Yba.prog) (src := 48) (dst := 45) Yba.underlying48 Yba.underlying45 room27 d3
  clear hb hb1 hb2 c2 c3 c4 c6 d2 d3
  go_enter Yba.func5, Yba.ntmps5
  go_wp2_with fail
  refine (mtry_free _ w c0 z0).mono ?_
  rintro e w' ⟨rfl, rfl⟩
  go_wp2_with fail
  refine (cas_free _ _ _ d4 y4).mono ?_
  rintro e w' ⟨rfl, rfl⟩
  go_wp2_with fail
  go_ret
  refine ⟨rfl, HB2.out, fun k hk => ?_, fun B hR => ((Below.refl B w).setCell hR _).setCell hR _⟩
  rw [Below.heap_setCell _ _ _ _ hk, Below.heap_setCell _ _ _ _ hk]

/-- The plain Unlock. -/
theorem unl_held (R : Nat) (mv : Value) (w : World) (hb : Box w R 1 (-1073741824) mv) :
    Calls Yba.prog 6 #[.pointer (some ⟨R, 0, none⟩)] w fun e w' => e = .returned (.tuple #[]) ∧ Box w' R 0 0 mv ∧ (∀ k, k ≠ R → w'.heap[k]? = w.heap[k]?) ∧ ∀ B, B ≤ R → Below B w w' := by
  obtain ⟨c0, c2, c3, c4, c6⟩ := hb.cell
  refine (wunlock_held Yba.rwWLib R 0 _ _ w c0 c2 c3 c4 (hb.free _) (hb.free _)).mono ?_
  rintro e w' ⟨rfl, rfl⟩
  refine ⟨rfl, (hb.set4 0).set0 0, fun k hk => ?_, fun B hR => ((Below.refl B w).setCell hR _).setCell hR _⟩
  rw [Below.heap_setCell _ _ _ _ hk, Below.heap_setCell _ _ _ _ hk]

end Go.Proofs.Ybulkdixq.lawS5502CWhole
