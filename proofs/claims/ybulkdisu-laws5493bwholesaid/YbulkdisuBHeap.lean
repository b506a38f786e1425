/-
  THE HEAP OF LawS5493BWhole AS A STRUCTURE: block hb holds the slots of a byDue (two cells each), blocks sb .. sb + n - 1 the submissions. Laws on worlds alone; no walk.
-/
import Derived.Test.YbulkdisuBPlain
import Derived.WalkKit
import Derived.Deep.OwnRows
import Derived.Deep.Draws
import Derived.WalkSmall
namespace Go.Proofs.Ybulkdisu.lawS5493BWhole
open Go.RowKit Go.Deep

def subC (x : Int) : Array Value := #[.nilIface, .nilFunc, .nilFunc, .nilFunc, .pointer none, .int .u64 0, .pointer none, .int .i64 0, .int .i64 0, .nilFunc, .int .i64 0, .nilFunc, .int .i64 x]

/-- What stands in cell k of the slots' row. -/
def slotC (sb : Nat) (z : Nat → Int) (hc : Nat → Nat) (k : Nat) : Value :=
  if k % 2 = 0 then .int .i64 (z (hc (k / 2))) else .pointer (some ⟨sb + hc (k / 2), 0, none⟩)

structure HW (W0 : World) (hb sb n : Nat) (z : Nat → Int) (hc : Nat → Nat) (idx : Nat → Int) (w : World) : Prop where
  os : w.os = W0.os
  tape : w.tape = W0.tape
  output : w.output = W0.output
  size : W0.heap.size ≤ w.heap.size
  keep : ∀ k, k < W0.heap.size → k ≠ hb → ¬ (sb ≤ k ∧ k < sb + n) → w.heap[k]? = W0.heap[k]?
  row : w.rowIs hb 46 (n * 2) (slotC sb z hc)
  subs : ∀ j, j < n → w.heap[sb + j]? = some (.cells (subC (idx j)) 43 (0, 0))

namespace HW
variable {W0 w : World} {hb sb n : Nat} {z : Nat → Int} {hc : Nat → Nat} {idx : Nat → Int}

theorem cellA (h : HW W0 hb sb n z hc idx w) {j : Nat} (hj : j < n) : w.cell? ⟨hb, j * 2, none⟩ = some (.int .i64 (z (hc j))) := by
  rw [h.row.cell (i := j * 2) (by omega)]
  have e1 : j * 2 % 2 = 0 := by omega
  have e2 : j * 2 / 2 = j := by omega
  simp [slotC, e1, e2]

theorem cellB (h : HW W0 hb sb n z hc idx w) {j : Nat} (hj : j < n) : w.cell? ⟨hb, j * 2 + 1, none⟩ = some (.pointer (some ⟨sb + hc j, 0, none⟩)) := by
  rw [h.row.cell (i := j * 2 + 1) (by omega)]
  have e1 : ¬ (j * 2 + 1) % 2 = 0 := by omega
  have e2 : (j * 2 + 1) / 2 = j := by omega
  simp only [slotC, if_neg e1, e2]

theorem frozenH (h : HW W0 hb sb n z hc idx w) (k : Nat) : w.frozen? ⟨hb, k, none⟩ = false := h.row.frozen k

theorem ltH (h : HW W0 hb sb n z hc idx w) : hb < w.heap.size := h.row.lt

theorem cellS (h : HW W0 hb sb n z hc idx w) {j : Nat} (hj : j < n) (o : Nat) : w.cell? ⟨sb + j, o, none⟩ = (subC (idx j))[o]? := by
  simp [World.cell?, h.subs j hj]

theorem cellX (h : HW W0 hb sb n z hc idx w) {j : Nat} (hj : j < n) : w.cell? ⟨sb + j, 12, none⟩ = some (.int .i64 (idx j)) := by
  rw [h.cellS hj]; rfl

theorem frozenS (h : HW W0 hb sb n z hc idx w) {j : Nat} (hj : j < n) (o : Nat) : w.frozen? ⟨sb + j, o, none⟩ = false := by
  simp [World.frozen?, h.subs j hj]

theorem ltS (h : HW W0 hb sb n z hc idx w) {j : Nat} (hj : j < n) : sb + j < w.heap.size := by
  have := h.subs j hj
  obtain ⟨hlt, _⟩ := Array.getElem?_eq_some_iff.1 this
  exact hlt

theorem ne (h : HW W0 hb sb n z hc idx w) {j : Nat} (hj : j < n) : hb ≠ sb + j := by
  intro e
  obtain ⟨c, hh, _⟩ := h.row
  have := h.subs j hj
  rw [← e, hh] at this
  simp at this

theorem drewN (h : HW W0 hb sb n z hc idx w) (q : Nat) : HW W0 hb sb n z hc idx (w.drewN q) :=
  ⟨h.os, h.tape, h.output, h.size, h.keep, h.row, h.subs⟩

theorem alloc (h : HW W0 hb sb n z hc idx w) (o : Obj) : HW W0 hb sb n z hc idx (w.alloc o) := by
  refine ⟨h.os, h.tape, h.output, by rw [nblk_alloc]; have := h.size; omega, fun k hk h1 h2 => ?_, h.row.alloc o, fun j hj => ?_⟩
  · rw [blk_alloc_lt _ _ _ (by have := h.size; omega)]; exact h.keep k hk h1 h2
  · rw [blk_alloc_lt _ _ _ (h.ltS hj)]; exact h.subs j hj

/-- WHAT put DOES. -/
theorem put (h : HW W0 hb sb n z hc idx w) {k x : Nat} (_hk : k < n) (hx : x < n) (o : Obj) :
    HW W0 hb sb n z (updN hc k x) (upd idx x k) ((((w.setCell ⟨hb, k * 2, none⟩ (.int .i64 (z x))).setCell ⟨hb, k * 2 + 1, none⟩ (.pointer (some ⟨sb + x, 0, none⟩))).setCell ⟨sb + x, 12, none⟩ (.int .i64 k)).alloc o) := by
  apply HW.alloc
  have hne := h.ne hx
  refine ⟨h.os, h.tape, h.output, by simp only [nblk_setCell]; exact h.size, fun j hj h1 h2 => ?_, ?_, fun j hj => ?_⟩
  · rw [blk_setCell_other _ _ _ _ (by show j ≠ sb + x; intro e; apply h2; omega), blk_setCell_other _ _ _ _ h1, blk_setCell_other _ _ _ _ h1]
    exact h.keep j hj h1 h2
  · refine (((h.row.set (k * 2) _).set (k * 2 + 1) _).setOther (a := ⟨sb + x, 12, none⟩) hne _).congr fun i hi => ?_
    by_cases e : i = k * 2 + 1
    · subst e
      have e1 : ¬ (k * 2 + 1) % 2 = 0 := by omega
      have e2 : (k * 2 + 1) / 2 = k := by omega
      simp [slotC, e2, updN]
    · rw [if_neg e]
      by_cases e' : i = k * 2
      · subst e'
        have e2 : k * 2 / 2 = k := by omega
        simp [slotC, e2, updN]
      · rw [if_neg e']
        have e3 : ¬ i / 2 = k := by omega
        simp only [slotC, updN, if_neg e3]
  · by_cases e : j = x
    · subst e
      have h0 := h.subs j hj
      have h1 : ((w.setCell ⟨hb, k * 2, none⟩ (.int .i64 (z j))).setCell ⟨hb, k * 2 + 1, none⟩ (.pointer (some ⟨sb + j, 0, none⟩))).heap[sb + j]? = some (.cells (subC (idx j)) 43 (0, 0)) := by
        rw [blk_setCell_other _ _ _ _ (Ne.symm hne), blk_setCell_other _ _ _ _ (Ne.symm hne)]; exact h0
      generalize (w.setCell ⟨hb, k * 2, none⟩ (.int .i64 (z j))).setCell ⟨hb, k * 2 + 1, none⟩ (.pointer (some ⟨sb + j, 0, none⟩)) = w1 at h1
      have e : upd idx j k j = (k : Int) := by simp [upd]
      rw [e]
      simp only [World.setCell, Array.getElem?_modify, if_true, h1, Option.map_some]
      rfl
    · have e : upd idx x k j = idx j := by simp [upd, e]
      rw [e, blk_setCell_other _ _ _ _ (by show sb + j ≠ sb + x; omega), blk_setCell_other _ _ _ _ (Ne.symm (h.ne hj)), blk_setCell_other _ _ _ _ (Ne.symm (h.ne hj))]
      exact h.subs j hj

/-- The same facts over a later world as the base. -/
theorem base (h : HW W0 hb sb n z hc idx w) : HW w hb sb n z hc idx w :=
  ⟨rfl, rfl, rfl, Nat.le_refl _, fun _ _ _ _ => rfl, h.row, h.subs⟩

theorem trans {w' : World} {hc' : Nat → Nat} {idx' : Nat → Int} (h : HW W0 hb sb n z hc idx w) (k : HW w hb sb n z hc' idx' w') : HW W0 hb sb n z hc' idx' w' :=
  ⟨k.os.trans h.os, k.tape.trans h.tape, k.output.trans h.output, Nat.le_trans h.size k.size, fun j h1 h2 h3 => (k.keep j (by have := h.size; omega) h2 h3).trans (h.keep j h1 h2 h3), k.row, k.subs⟩

/-- A block that was laid behind the slots and the submissions stays as it was. -/
theorem box {W : World} {hc' : Nat → Nat} {idx' : Nat → Int} (h0 : HW W hb sb n z hc' idx' W) (hn : 0 < n) (o : Obj) (h : HW (W.alloc o) hb sb n z hc idx w) : w.heap[W.heap.size]? = some o := by
  have h1 := h0.ltH
  have h2 := h0.ltS (j := n - 1) (by omega)
  rw [h.keep W.heap.size (by rw [nblk_alloc]; omega) (by omega) (by omega)]
  exact blk_alloc_new _ _

theorem congr {hc' : Nat → Nat} (h : HW W0 hb sb n z hc idx w) (e : ∀ j, j < n → hc j = hc' j) : HW W0 hb sb n z hc' idx w :=
  ⟨h.os, h.tape, h.output, h.size, h.keep, h.row.congr fun i hi => by simp only [slotC, e (i / 2) (by omega)], h.subs⟩

end HW
theorem cell_two {w : World} {b : Nat} {x y : Value} {t : TypeId} (h : w.heap[b]? = some (.cells #[x, y] t (0, 0))) : w.cell? ⟨b, 0, none⟩ = some x ∧ w.cell? ⟨b, 1, none⟩ = some y := by
  simp [World.cell?, h]
end Go.Proofs.Ybulkdisu.lawS5493BWhole
