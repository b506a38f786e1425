/-
  LawS5497BWhole: what the tails of the walk share. A tail is the code from one region on; 'suffix' finds it in the function's own body.
-/
import Derived.Test.YbulkdiuyBNext
import Derived.WalkSpells
namespace Go.Proofs.Ybulkdiuy.lawS5497BWhole
open Go.RowKit Go.Deep

/-- The number of the region that a code begins with. -/
def firstReg : Code → Option Nat
  | .region id _ _ => some id
  | .seq a _ => firstReg a
  | .block _ c => firstReg c
  | .loop c => firstReg c
  | .scope c => firstReg c
  | _ => none
/-- The code from the part on that begins with region r. -/
def suffix (r : Nat) : Code → Option Code
  | .seq a b => if firstReg a = some r then some (.seq a b) else suffix r b
  | _ => none

theorem info102 : (Yba.prog.info? 102).map (fun i => (i.zero, i.size, i.bytes)) = some (some (.pointer none), 1, 8) := by kernel_rfl
theorem info105 : (Yba.prog.info? 105).map (fun i => (i.zero, i.size, i.bytes)) = some (some (.pointer none), 1, 8) := by kernel_rfl
theorem info2 : (Yba.prog.info? 2).map (fun i => (i.zero, i.size, i.bytes)) = some (some (.int .i64 0), 1, 8) := by kernel_rfl

/-- What the walk is told of a []int64 that came in; of a []ZzS5497BRes. -/
def IsInts (w : World) (a : Option Addr) (n : Nat) (z : Nat → Int) : Prop := n = 0 ∨ ∃ b o, a = some ⟨b, o, none⟩ ∧ ∀ j, j < n → w.cell? ⟨b, o + j, none⟩ = some (.int .i64 (z j))
def IsRes (w : World) (a : Option Addr) (n : Nat) (rb re : Nat → Int) : Prop :=
  n = 0 ∨ ∃ b o, a = some ⟨b, o, none⟩ ∧ ∀ j, j < n → w.cell? ⟨b, o + j * 2, none⟩ = some (.int .i64 (rb j)) ∧ w.cell? ⟨b, o + j * 2 + 1, none⟩ = some (.int .i64 (re j))

theorem IsInts.at {w : World} {a : Option Addr} {n : Nat} {z : Nat → Int} (h : IsInts w a n z) (hn : 0 < n) : ∃ b o, a = some ⟨b, o, none⟩ ∧ ∀ j, j < n → w.cell? ⟨b, o + j, none⟩ = some (.int .i64 (z j)) := by
  rcases h with h | h
  · omega
  · exact h
theorem IsRes.at {w : World} {a : Option Addr} {n : Nat} {rb re : Nat → Int} (h : IsRes w a n rb re) (hn : 0 < n) :
    ∃ b o, a = some ⟨b, o, none⟩ ∧ ∀ j, j < n → w.cell? ⟨b, o + j * 2, none⟩ = some (.int .i64 (rb j)) ∧ w.cell? ⟨b, o + j * 2 + 1, none⟩ = some (.int .i64 (re j)) := by
  rcases h with h | h
  · omega
  · exact h

theorem ptr_one (b : Nat) : ∀ u ∈ [ptr b], u.oneCell' = true := by
  intro u hu
  simp at hu
  subst hu
  rfl

/-- The clock and its three queues, filled; what was there is as it was. -/
structure Snap (w : World) (now : Int) (x1 x2 x3 : Option Addr) (n1 y1 n2 y2 n3 y3 : Nat) (z1 z2 rb re : Nat → Int) (W : World) : Prop where
  below : Below w.heap.size w W
  clock : W.heap[w.heap.size]? = some (.cells (clk now (.slice x1 n1 y1) (.slice x2 n2 y2) (.slice x3 n3 y3)) 101 (0, 0))
  i1 : ∃ B, Items B 102 (El1 z1) (.slice x1 n1 y1) n1 W
  i2 : ∃ B, Items B 105 (El2 z2) (.slice x2 n2 y2) n2 W
  i3 : ∃ B, Items B 102 (El3 rb re) (.slice x3 n3 y3) n3 W

theorem Snap.later {w : World} {now : Int} {x1 x2 x3 : Option Addr} {n1 y1 n2 y2 n3 y3 : Nat} {z1 z2 rb re : Nat → Int} {W W' : World} (h : Snap w now x1 x2 x3 n1 y1 n2 y2 n3 y3 z1 z2 rb re W) (hb : Below W.heap.size W W') :
    Snap w now x1 x2 x3 n1 y1 n2 y2 n3 y3 z1 z2 rb re W' := by
  refine ⟨h.below.trans (hb.mono h.below.size), (hb.block _ (lt_of h.clock)).trans h.clock, ?_, ?_, ?_⟩
  · obtain ⟨B, i⟩ := h.i1; exact ⟨B, i.keep (st1 z1) (by decide) (K101.of_below hb)⟩
  · obtain ⟨B, i⟩ := h.i2; exact ⟨B, i.keep (st2 z2) (by decide) (K101.of_below hb)⟩
  · obtain ⟨B, i⟩ := h.i3; exact ⟨B, i.keep (st3 rb re) (by decide) (K101.of_below hb)⟩

end Go.Proofs.Ybulkdiuy.lawS5497BWhole
