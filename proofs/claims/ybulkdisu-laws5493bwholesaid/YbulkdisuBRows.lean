/-
  THE WORLDS OF LawS5493BWhole's OWN LOOPS: laws on worlds alone; no walk.
-/
import Derived.Test.YbulkdisuBHeap
namespace Go.Proofs.Ybulkdisu.lawS5493BWhole
open Go.RowKit Go.Deep

/-- k rounds of the first loop are done: k submissions, k pointers in subs, k slots in h. -/
structure L1 (w0 : World) (n : Nat) (z : Nat → Int) (k : Nat) (w : World) : Prop where
  below : Below w0.heap.size w0 w
  size : w.heap.size = w0.heap.size + 2 + k
  subsRow : w.rowIs w0.heap.size 27 n (fun j => if j < k then .pointer (some ⟨w0.heap.size + 2 + j, 0, none⟩) else .pointer none)
  hRow : w.rowIs (w0.heap.size + 1) 46 (n * 2) (fun c => if c / 2 < k then slotC (w0.heap.size + 2) z (fun j => j) c else if c % 2 = 0 then .int .i64 0 else .pointer none)
  subs : ∀ j, j < k → w.heap[w0.heap.size + 2 + j]? = some (.cells (subC (-1 - (j : Int))) 43 (0, 0))

theorem made2 (x y : Value) (n : Nat) (i : Nat) (hi : i < n * 2) : (madeCells #[x, y] (n * 2))[i]? = some (if i % 2 = 0 then x else y) := by
  simp only [madeCells, Array.getElem?_map, Array.getElem?_range, hi, if_true, Option.map_some, List.size_toArray, List.length_cons, List.length_nil]
  have : i % 2 = 0 ∨ i % 2 = 1 := by omega
  rcases this with h | h <;> simp [h]

theorem L1.start (w : World) (n : Nat) (z : Nat → Int) : L1 w n z 0 ((w.alloc (.cells (madeCells #[.pointer none] n) 27)).alloc (.cells (madeCells #[.int .i64 0, .pointer none] (n * 2)) 46)) := by
  refine ⟨((Below.refl _ _).alloc (Nat.le_refl _) _).alloc (by rw [nblk_alloc]; omega) _, by simp only [nblk_alloc], ?_, ?_, fun j hj => by omega⟩
  · refine ((World.rowIs_made w (.pointer none) n 27).alloc _).congr fun i _ => ?_
    simp
  · have h := World.rowIs_alloc (w.alloc (.cells (madeCells #[.pointer none] n) 27)) (madeCells #[.int .i64 0, .pointer none] (n * 2)) 46 (fun c => if c % 2 = 0 then .int .i64 0 else .pointer none) (fun i hi => made2 _ _ n i (by simpa [size_madeCells] using hi))
    rw [nblk_alloc, size_madeCells] at h
    refine h.congr fun i _ => ?_
    simp

theorem L1.step {w0 : World} {n : Nat} {z : Nat → Int} {k : Nat} {w : World} (h : L1 w0 n z k w) (hk : k < n) (q : Nat) :
    L1 w0 n z (k + 1) (((((w.setCell ⟨w0.heap.size, k, none⟩ (.pointer (some ⟨w.heap.size, 0, none⟩))).setCell ⟨w0.heap.size + 1, k * 2, none⟩ (.int .i64 (z k))).setCell ⟨w0.heap.size + 1, k * 2 + 1, none⟩ (.pointer (some ⟨w.heap.size, 0, none⟩))).alloc (.cells (subC (-1 - (k : Int))) 43)).drewN q) := by
  have hs := h.size
  refine ⟨?_, ?_, ?_, ?_, ?_⟩
  · refine below_drewN (Below.alloc (Below.setCell (Below.setCell (Below.setCell h.below (Nat.le_refl _) _) (Nat.le_succ _) _) (Nat.le_succ _) _) ?_ _) _
    simp only [nblk_setCell]; omega
  · simp only [World.heap_drewN, nblk_alloc, nblk_setCell]; omega
  · refine World.rowIs.congr (World.rowIs.alloc (World.rowIs.setOther (World.rowIs.setOther (h.subsRow.set k _) (a := ⟨w0.heap.size + 1, k * 2, none⟩) (by simp) _) (a := ⟨w0.heap.size + 1, k * 2 + 1, none⟩) (by simp) _) _) fun j _ => ?_
    by_cases e : j = k
    · subst e
      simp [hs]
    · rw [if_neg e]
      have : j < k ↔ j < k + 1 := by omega
      simp only [this]
  · refine World.rowIs.congr (World.rowIs.alloc (((h.hRow.setOther (a := ⟨w0.heap.size, k, none⟩) (by simp) _).set (k * 2) _).set (k * 2 + 1) _) _) fun j _ => ?_
    by_cases e : j = k * 2 + 1
    · subst e
      have e1 : (k * 2 + 1) / 2 = k := by omega
      have e2 : (k * 2 + 1) % 2 = 1 := by omega
      simp [e1, slotC, hs]
    · rw [if_neg e]
      by_cases e' : j = k * 2
      · subst e'
        have e1 : k * 2 / 2 = k := by omega
        simp [e1, slotC]
      · rw [if_neg e']
        have : j / 2 < k ↔ j / 2 < k + 1 := by omega
        simp only [this]
  · intro j hj
    show ((((w.setCell _ _).setCell _ _).setCell _ _).alloc _).heap[w0.heap.size + 2 + j]? = _
    by_cases e : j = k
    · subst e
      have hz : w0.heap.size + 2 + j = (((w.setCell ⟨w0.heap.size, j, none⟩ (.pointer (some ⟨w.heap.size, 0, none⟩))).setCell ⟨w0.heap.size + 1, j * 2, none⟩ (.int .i64 (z j))).setCell ⟨w0.heap.size + 1, j * 2 + 1, none⟩ (.pointer (some ⟨w.heap.size, 0, none⟩))).heap.size := by
        simp only [nblk_setCell]; omega
      rw [hz, blk_alloc_new]
    · rw [blk_alloc_lt _ _ _ (by simp only [nblk_setCell]; omega), blk_setCell_other _ _ _ _ (by simp; omega), blk_setCell_other _ _ _ _ (by simp; omega), blk_setCell_other _ _ _ _ (by simp; omega)]
      exact h.subs j (by omega)

/-- Behind the first loop. -/
theorem L1.done {w0 : World} {n : Nat} {z : Nat → Int} {w : World} (h : L1 w0 n z n w) : HW w (w0.heap.size + 1) (w0.heap.size + 2) n z (fun j => j) (fun j => -1 - (j : Int)) w :=
  ⟨rfl, rfl, rfl, Nat.le_refl _, fun _ _ _ _ => rfl, h.hRow.congr fun i hi => by rw [if_pos (by omega)], h.subs⟩

/-- k rounds of the second loop are done: perm[0 .. k-1] is the identity. -/
structure L2 (w1 : World) (n k : Nat) (w : World) : Prop where
  below : Below w1.heap.size w1 w
  size : w.heap.size = w1.heap.size + 1
  perm : w.rowIs w1.heap.size 3 n (fun j => if j < k then .int .i64 (j : Int) else .int .i64 0)

theorem L2.start (w1 : World) (n : Nat) : L2 w1 n 0 (w1.alloc (.cells (madeCells #[.int .i64 0] n) 3)) :=
  ⟨(Below.refl _ _).alloc (Nat.le_refl _) _, by rw [nblk_alloc], (World.rowIs_made w1 (.int .i64 0) n 3).congr fun i _ => by simp⟩

theorem L2.step {w1 w : World} {n k : Nat} (h : L2 w1 n k w) : L2 w1 n (k + 1) (w.setCell ⟨w1.heap.size, k, none⟩ (.int .i64 (k : Int))) := by
  refine ⟨h.below.setCell (Nat.le_refl _) _, by rw [nblk_setCell]; exact h.size, (h.perm.set k _).congr fun j _ => ?_⟩
  by_cases e : j = k
  · subst e; simp
  · rw [if_neg e]
    have : j < k ↔ j < k + 1 := by omega
    simp only [this]

/-- The law's own model at the state S. -/
structure L3 (w1 : World) (n : Nat) (S : St) (w : World) : Prop where
  below : Below w1.heap.size w1 w
  size : w.heap.size = w1.heap.size + 2
  perm : w.rowIs w1.heap.size 3 n (fun j => .int .i64 (S.perm j : Int))
  t : w.rowIs (w1.heap.size + 1) 4 n (fun j => .bool (S.t j))

theorem L3.born {w1 w : World} {n i : Nat} (h : L2 w1 n n w) : L3 w1 n (start i) (w.alloc (.cells ((madeCells #[.bool false] n).setIfInBounds i (.bool true)) 4)) := by
  have hs := h.size
  refine ⟨h.below.alloc (by omega) _, by rw [nblk_alloc]; omega, (h.perm.alloc _).congr fun j hj => by simp [hj, start], ?_⟩
  have r := World.rowIs_alloc w ((madeCells #[.bool false] n).setIfInBounds i (.bool true)) 4 (fun j => .bool ((start i).t j)) (fun j hj => by
    simp only [Array.size_setIfInBounds, size_madeCells] at hj
    rw [Array.getElem?_setIfInBounds]
    by_cases e : i = j
    · subst e; simp [start, size_madeCells, hj]
    · have e' : ¬ j = i := fun q => e q.symm
      rw [if_neg e]
      simp [start, madeCells, hj, Nat.mod_one, e'])
  rw [hs] at r
  simpa [size_madeCells] using r

theorem L3.next {w1 w : World} {n : Nat} {S : St} {d : Nat → Int} (h : L3 w1 n S w) (hs : ¬ stop d n S) (q : Nat) :
    L3 w1 n (step d n S) ((((w.drewN q).setCell ⟨w1.heap.size, S.p, none⟩ (.int .i64 (S.perm (bst d n S) : Int))).setCell ⟨w1.heap.size, bst d n S, none⟩ (.int .i64 (S.perm S.p : Int))).setCell ⟨w1.heap.size + 1, bst d n S, none⟩ (.bool true)) := by
  have hz := h.size
  have hp : S.p * 4 + 1 < n := by
    simp only [stop, not_or] at hs
    omega
  have hl := bst_lo d n S
  refine ⟨((below_drewN h.below q).setCell (Nat.le_refl _) _ |>.setCell (Nat.le_refl _) _).setCell (Nat.le_succ _) _, by simp only [nblk_setCell, World.heap_drewN]; exact hz, ?_, ?_⟩
  · have r : (w.drewN q).rowIs w1.heap.size 3 n (fun j => .int .i64 (S.perm j : Int)) := h.perm
    refine (((r.set S.p _).set (bst d n S) _).setOther (a := ⟨w1.heap.size + 1, bst d n S, none⟩) (by simp) _).congr fun j _ => ?_
    show (if j = bst d n S then _ else if j = S.p then _ else _) = Value.int .i64 (((if j = S.p then S.perm (bst d n S) else if j = bst d n S then S.perm S.p else S.perm j : Nat)) : Int)
    by_cases e1 : j = S.p
    · rw [if_neg (by omega), if_pos e1, if_pos e1]
    · by_cases e2 : j = bst d n S
      · rw [if_pos e2, if_neg e1, if_pos e2]
      · rw [if_neg e2, if_neg e1, if_neg e1, if_neg e2]
  · have r : (w.drewN q).rowIs (w1.heap.size + 1) 4 n (fun j => .bool (S.t j)) := h.t
    refine (((r.setOther (a := ⟨w1.heap.size, S.p, none⟩) (by simp) _).setOther (a := ⟨w1.heap.size, bst d n S, none⟩) (by simp) _).set (bst d n S) _).congr fun j _ => ?_
    show (if j = bst d n S then Value.bool true else .bool (S.t j)) = .bool (decide (j = bst d n S) || S.t j)
    by_cases e2 : j = bst d n S
    · simp [e2]
    · simp [e2]

/-- The slots and the submissions lie as the first loop left them. -/
theorem L1.later {w0 w1 w : World} {n : Nat} {z : Nat → Int} {S : St} (h : L1 w0 n z n w1) (k : L3 w1 n S w) : HW w (w0.heap.size + 1) (w0.heap.size + 2) n z (fun j => j) (fun j => -1 - (j : Int)) w := by
  have hs := h.size
  have D := h.done
  refine ⟨rfl, rfl, rfl, Nat.le_refl _, fun _ _ _ _ => rfl, D.row.of_block (k.below.block _ (by omega)), fun j hj => ?_⟩
  rw [k.below.block _ (by omega)]
  exact D.subs j hj

/-- What the last loop reads. -/
structure L5 (w0 w1 : World) (n : Nat) (z : Nat → Int) (S : St) (idx : Nat → Int) (w : World) : Prop where
  below : Below w0.heap.size w0 w
  hw : HW w (w0.heap.size + 1) (w0.heap.size + 2) n z S.perm idx w
  subsRow : w.rowIs w0.heap.size 27 n (fun j => .pointer (some ⟨w0.heap.size + 2 + j, 0, none⟩))
  perm : w.rowIs w1.heap.size 3 n (fun j => .int .i64 (S.perm j : Int))
  t : w.rowIs (w1.heap.size + 1) 4 n (fun j => .bool (S.t j))

theorem L5.mk' {w0 w1 w2 w : World} {n : Nat} {z : Nat → Int} {S : St} {idx : Nat → Int} (h : L1 w0 n z n w1) (k : L3 w1 n S w2) (d : HW w2 (w0.heap.size + 1) (w0.heap.size + 2) n z S.perm idx w) : L5 w0 w1 n z S idx w := by
  have hs := h.size
  have h3 := k.size
  have same : ∀ j, j < w2.heap.size → j ≠ w0.heap.size + 1 → ¬ (w0.heap.size + 2 ≤ j ∧ j < w0.heap.size + 2 + n) → w.heap[j]? = w2.heap[j]? := d.keep
  refine ⟨?_, d.base, ?_, k.perm.of_block (same _ (by omega) (by omega) (by omega)), k.t.of_block (same _ (by omega) (by omega) (by omega))⟩
  · have b2 : Below w0.heap.size w0 w2 := h.below.trans (k.below.mono (by omega))
    refine b2.trans ⟨d.os, d.tape, d.output, d.size, fun j hj => same j (by omega) (by omega) (by omega)⟩
  · refine World.rowIs.of_block (w := w1) (h.subsRow.congr fun j hj => by simp [hj]) ?_
    rw [same _ (by omega) (by omega) (by omega)]
    exact k.below.block _ (by omega)

end Go.Proofs.Ybulkdisu.lawS5493BWhole
