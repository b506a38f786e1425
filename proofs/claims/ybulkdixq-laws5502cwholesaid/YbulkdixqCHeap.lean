/-
  THE HEAP OF LawS5502CWhole: the two rows dk, dv that the call makes, each in a block of its own; laws on worlds alone.
-/
import Derived.Test.YbulkdixqCCalls
import Derived.OneCell
import Derived.Deep.AppendLies
import Derived.Deep.OwnRows
import Derived.Deep.Draws
import Derived.WalkSmall
namespace Go.Proofs.Ybulkdixq.lawS5502CWhole
open Go.RowKit Go.Maps Go.Deep

def ints (l : List Int) : List Value := l.map (Value.int .i64)

/-- vk owns dk, vv owns dv; their blocks are two; what was there is as it was. -/
structure Two (w : World) (dk dv : List Int) (vk vv : Value) (wr : World) : Prop where
  ok : wr.ownsRow w.heap.size 3 1 vk dk.length (ints dk)
  ov : wr.ownsRow w.heap.size 3 1 vv dv.length (ints dv)
  apart : ∀ b, vk.ownBlock = some b → vv.ownBlock = some b → False
  below : Below w.heap.size w wr

theorem Two.nil (w : World) : Two w [] [] (.slice none 0 0) (.slice none 0 0) w := ⟨World.ownsRow_nil _ _ _ _, World.ownsRow_nil _ _ _ _, fun b h => by simp [Value.ownBlock] at h, Below.refl _ _⟩

theorem own_shape {w : World} {B : Nat} {e : TypeId} {v : Value} {n : Nat} {xs : List Value} (h : w.ownsRow B e 1 v n xs) : ∃ a c, v = .slice a n c := by
  rcases h.2 with ⟨hv, hk⟩ | ⟨g, cap, cur, hv, _⟩
  · exact ⟨none, 0, by rw [hv, hk]⟩
  · exact ⟨_, _, hv⟩

theorem own_cell {B : Nat} {w : World} {L : List Int} {a : Option Addr} {c : Nat} (h : w.ownsRow B 3 1 (.slice a L.length c) L.length (ints L)) {k : Nat} (hk : k < L.length) : ∃ g, a = some ⟨g, 0, none⟩ ∧ w.cell? ⟨g, k, none⟩ = some (.int .i64 L[k]) ∧ w.frozen? ⟨g, k, none⟩ = false ∧ B ≤ g := by
  rcases h.2 with ⟨hv, hz⟩ | ⟨g, cap, cur, hv, hgB, hgr, _⟩
  · omega
  · simp only [Value.slice.injEq] at hv
    obtain ⟨ha, _, hc⟩ := hv
    subst ha hc
    refine ⟨g, rfl, ?_, ?_, hgB⟩
    · rw [h.cellAt k (by omega)]
      simp [ints, hk]
    · simp [World.frozen?, hgr]

/-- The row's block is there. -/
theorem own_lt {B : Nat} {w : World} {v : Value} {n : Nat} {xs : List Value} (h : w.ownsRow B 3 1 v n xs) {b : Nat} (hb : v.ownBlock = some b) : B ≤ b ∧ b < w.heap.size ∧ ∃ cur, w.heap[b]? = some (.cells cur 3 (0, 0)) := by
  rcases h.2 with ⟨hv, _⟩ | ⟨g, cap, cur, hv, hgB, hgr, _⟩
  · subst hv; simp [Value.ownBlock] at hb
  · subst hv
    have : g = b := by simpa [Value.ownBlock] using hb
    subst this
    exact ⟨hgB, (Array.getElem?_eq_some_iff.1 hgr).1, cur, hgr⟩

/-- A row stays while its block stays. -/
theorem own_stay {B : Nat} {w w' : World} {v : Value} {n : Nat} {xs : List Value} (h : w.ownsRow B 3 1 v n xs) (hs : ∀ b, v.ownBlock = some b → w'.heap[b]? = w.heap[b]?) : w'.ownsRow B 3 1 v n xs := by
  refine ⟨h.1, ?_⟩
  rcases h.2 with h2 | ⟨g, cap, cur, hv, hgB, hgr, r⟩
  · exact .inl h2
  · exact .inr ⟨g, cap, cur, hv, hgB, (hs g (by subst hv; rfl)).trans hgr, r⟩

theorem Two.stay {w : World} {dk dv : List Int} {vk vv : Value} {wr w' : World} (h : Two w dk dv vk vv wr) (hb : Below w.heap.size w w') (hs : ∀ (b : Nat) (cur : Array Value), wr.heap[b]? = some (.cells cur 3 (0, 0)) → w'.heap[b]? = wr.heap[b]?) : Two w dk dv vk vv w' :=
  ⟨own_stay h.ok (fun b hb => by obtain ⟨_, _, cur, hc⟩ := own_lt h.ok hb; exact hs b cur hc), own_stay h.ov (fun b hb => by obtain ⟨_, _, cur, hc⟩ := own_lt h.ov hb; exact hs b cur hc), h.apart, hb⟩

theorem Two.alloc {w : World} {dk dv : List Int} {vk vv : Value} {wr : World} (h : Two w dk dv vk vv wr) (o : Obj) : Two w dk dv vk vv (wr.alloc o) :=
  h.stay (h.below.alloc h.below.size _) (fun _ _ hb => blk_alloc_lt _ _ _ (Array.getElem?_eq_some_iff.1 hb).1)

/-- 'dk = append(dk, k)'. -/
theorem Two.appk {w : World} {dk dv : List Int} {vk vv : Value} {wr w1 : World} {o : Obj} {g cap : Nat} {k : Int} (h : Two w dk dv vk vv wr)
    (hown : w1.ownsRow w.heap.size 3 1 (.slice (some ⟨g, 0, none⟩) (dk.length + 1) cap) (dk.length + 1) (ints dk ++ [.int .i64 k])) (hg : (wr.alloc o).grownBy w1 vk.ownBlock) (hat : vk.ownBlock = some g ∨ g = wr.heap.size + 1) :
    Two w (dk ++ [k]) dv (.slice (some ⟨g, 0, none⟩) (dk.length + 1) cap) vv w1 := by
  have hs := h.below.size
  refine ⟨by simpa [ints] using hown, own_stay h.ov ?_, ?_, (h.below.alloc hs o).grown hg (by rw [nblk_alloc]; omega) fun b hb => (own_lt h.ok hb).1⟩
  · intro b hb
    have hl := (own_lt h.ov hb).2.1
    rw [hg.block b (by rw [nblk_alloc]; omega) (fun e => h.apart b e.symm hb), blk_alloc_lt _ _ _ hl]
  · intro b hb hv
    have hbg : g = b := by simpa [Value.ownBlock] using hb
    subst hbg
    rcases hat with hat | hat
    · exact h.apart _ hat hv
    · have := (own_lt h.ov hv).2.1
      omega

theorem Two.appv {w : World} {dk dv : List Int} {vk vv : Value} {wr w1 : World} {o : Obj} {g cap : Nat} {k : Int} (h : Two w dk dv vk vv wr)
    (hown : w1.ownsRow w.heap.size 3 1 (.slice (some ⟨g, 0, none⟩) (dv.length + 1) cap) (dv.length + 1) (ints dv ++ [.int .i64 k])) (hg : (wr.alloc o).grownBy w1 vv.ownBlock) (hat : vv.ownBlock = some g ∨ g = wr.heap.size + 1) :
    Two w dk (dv ++ [k]) vk (.slice (some ⟨g, 0, none⟩) (dv.length + 1) cap) w1 := by
  have hs := h.below.size
  refine ⟨own_stay h.ok ?_, by simpa [ints] using hown, ?_, (h.below.alloc hs o).grown hg (by rw [nblk_alloc]; omega) fun b hb => (own_lt h.ov hb).1⟩
  · intro b hb
    have hl := (own_lt h.ok hb).2.1
    rw [hg.block b (by rw [nblk_alloc]; omega) (fun e => h.apart b hb e.symm), blk_alloc_lt _ _ _ hl]
  · intro b hb hv
    have hbg : g = b := by simpa [Value.ownBlock] using hv
    subst hbg
    rcases hat with hat | hat
    · exact h.apart _ hb hat
    · have := (own_lt h.ok hb).2.1
      omega

/-- 'dv[j] = v'. -/
theorem Two.set {w : World} {dk dv : List Int} {vk : Value} {wr : World} {g n c : Nat} (h : Two w dk dv vk (.slice (some ⟨g, 0, none⟩) n c) wr) (j : Nat) (v : Int) :
    Two w dk (dv.set j v) vk (.slice (some ⟨g, 0, none⟩) n c) (wr.setCell ⟨g, j, none⟩ (.int .i64 v)) := by
  have hgl := own_lt h.ov (b := g) rfl
  refine ⟨own_stay h.ok ?_, ?_, h.apart, h.below.setCell hgl.1 _⟩
  · intro b hb
    exact Below.heap_setCell _ _ _ _ (fun e => h.apart b hb (by rw [show b = g from e]; rfl))
  · obtain ⟨h1, h2⟩ := h.ov
    refine ⟨by simp [ints], ?_⟩
    rcases h2 with ⟨hv, _⟩ | ⟨g', cap, cur, hv, hgB, hgr, h5, h6, h7, h8⟩
    · cases hv
    · simp only [Value.slice.injEq, Option.some.injEq, Addr.mk.injEq, and_true] at hv
      obtain ⟨rfl, hn, rfl⟩ := hv
      refine .inr ⟨g, c, cur.setIfInBounds j (.int .i64 v), by simp [hn], hgB, ?_, by rw [List.length_set]; exact h5, h6, by simp [h7], ?_⟩
      · simp only [World.setCell, Array.getElem?_modify, if_true, hgr, Option.map_some]
        rfl
      · have e8 : List.take (dv.length * 1) cur.toList = ints dv := h8
        rw [Array.toList_setIfInBounds, List.length_set, List.take_set, e8]
        simp [ints, List.map_set]

theorem int_one (t : Int) : ∀ u ∈ [Value.int .i64 t], u.oneCell' = true := by
  intro u hu
  simp at hu
  subst hu
  rfl
theorem news1 (w : World) (x : Value) (t : TypeId) (j : Nat) (u : Value) (hj : [x][j]? = some u) : (w.alloc (.cells #[x] t)).cell? ((⟨w.heap.size, 0, none⟩ : Addr).add j) = some u := by
  match j, hj with
  | 0, hj => simp at hj; subst hj; simp [Addr.add]
  | j + 1, hj => simp at hj

theorem bcell {W w1 : World} {B : Nat} (hb : Below B W w1) {b o : Nat} {v : Value} (h : b < B) (hc : W.cell? ⟨b, o, none⟩ = some v) : w1.cell? ⟨b, o, none⟩ = some v :=
  (hb.cell (p := ⟨b, o, none⟩) h).trans hc
theorem cell_lt {w : World} {b o : Nat} {v : Value} (h : w.cell? ⟨b, o, none⟩ = some v) : b < w.heap.size := by
  rcases Nat.lt_or_ge b w.heap.size with hh | hh
  · exact hh
  · simp [World.cell?, Array.getElem?_eq_none hh] at h
theorem old {w w' : World} (hb : Below w.heap.size w w') {b o : Nat} {v : Value} (hc : w.cell? ⟨b, o, none⟩ = some v) : w'.cell? ⟨b, o, none⟩ = some v := bcell hb (cell_lt hc) hc

/-- What the walk is told of a []int that came in. -/
def IsInts (w : World) (a : Option Addr) (n : Nat) (z : Nat → Int) : Prop := n = 0 ∨ ∃ b o, a = some ⟨b, o, none⟩ ∧ ∀ j, j < n → w.cell? ⟨b, o + j, none⟩ = some (.int .i64 (z j))
theorem IsInts.at {w : World} {a : Option Addr} {n : Nat} {z : Nat → Int} (h : IsInts w a n z) (hn : 0 < n) : ∃ b o, a = some ⟨b, o, none⟩ ∧ ∀ j, j < n → w.cell? ⟨b, o + j, none⟩ = some (.int .i64 (z j)) := by
  rcases h with h | h
  · omega
  · exact h

theorem info3 : (Yba.prog.info? 3).map (fun i => (i.zero, i.size, i.bytes)) = some (some (.int .i64 0), 1, 8) := by kernel_rfl

end Go.Proofs.Ybulkdixq.lawS5502CWhole
