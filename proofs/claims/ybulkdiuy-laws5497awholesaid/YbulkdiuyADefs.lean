/-
  THE HEAP OF LawS5497AWhole: rows of pointers that the call makes and fills; the scheduler, the worker, its channel. Laws on worlds alone.
-/
import Derived.Test.YbulkdiuyACalls
import Derived.Laws.CopyOwn
import Derived.Laws.Tables
import Derived.Lib.Builder
import Derived.Conc.LoneSelectN
import Derived.Deep.LoopGhost
import Derived.BigGuardPart
import Derived.Deep.DeepCutAuto
import Derived.Deep.CutBlock
namespace Go.Proofs.Ybulkdiuy.lawS5497AWhole
open Go.RowKit Go.Conc Go.Deep

/-- A processor of that index, all else zero. -/
def procA (i : Int) : Array Value := #[.int .i64 i, .int .i32 0, .int .u32 0, .pointer none, .slice none 0 0, .int .i64 0, .pointer none, .pointer none, .slice none 0 0, .slice none 0 0, .int .u64 0, .bool false, .bool false,
  .int .u64 0, .int .u64 0, .int .u64 0, .int .u64 0, .int .u64 0, .int .u64 0]
def ptrs (ps : List Nat) : List Value := ps.map ptr

theorem lt_of {w : World} {k : Nat} {o : Obj} (h : w.heap[k]? = some o) : k < w.heap.size := (Array.getElem?_eq_some_iff.1 h).1

/-- A row of n pointers, made at block g, of which the first have been filled; what each leads to. -/
structure Fill (W0 : World) (g n : Nat) (e : TypeId) (C : Nat → Array Value) (t : TypeId) (ps : List Nat) (W : World) : Prop where
  below : Below g W0 W
  size : g < W.heap.size
  len : ps.length ≤ n
  row : W.heap[g]? = some (.cells (ptrs ps ++ List.replicate (n - ps.length) (Value.pointer none)).toArray e (0, 0))
  el : ∀ (j b : Nat), ps[j]? = some b → g < b ∧ W.heap[b]? = some (.cells (C j) t (0, 0))

theorem made_ptrs (n : Nat) : madeCells #[.pointer none] n = (List.replicate n (.pointer none : Value)).toArray := by
  apply Array.ext
  · simp [madeCells]
  · intro i h1 h2
    simp [madeCells, Nat.mod_one]

theorem Fill.start (W0 : World) (n : Nat) (e : TypeId) (C : Nat → Array Value) (t : TypeId) : Fill W0 W0.heap.size n e C t [] (W0.alloc (.cells (madeCells #[.pointer none] n) e)) := by
  refine ⟨(Below.refl _ _).alloc (Nat.le_refl _) _, by rw [nblk_alloc]; omega, Nat.zero_le _, ?_, fun j b h => by simp at h⟩
  rw [blk_alloc_new, made_ptrs]
  simp [ptrs]

theorem Fill.step {W0 : World} {g n : Nat} {e : TypeId} {C : Nat → Array Value} {t : TypeId} {ps : List Nat} {W : World} (h : Fill W0 g n e C t ps W) (hn : ps.length < n) :
    Fill W0 g n e C t (ps ++ [W.heap.size]) ((W.alloc (.cells (C ps.length) t)).setCell ⟨g, ps.length, none⟩ (ptr W.heap.size)) := by
  have hs := h.size
  refine ⟨(h.below.alloc (by omega) _).setCell (Nat.le_refl _) _, by rw [nblk_setCell, nblk_alloc]; omega, by simp; omega, ?_, ?_⟩
  · have hr : (W.alloc (.cells (C ps.length) t)).heap[g]? = some (.cells (ptrs ps ++ List.replicate (n - ps.length) (Value.pointer none)).toArray e (0, 0)) := by
      rw [blk_alloc_lt _ _ _ hs]; exact h.row
    have hl : (ptrs ps).length = ps.length := by simp [ptrs]
    simp only [World.setCell, Array.getElem?_modify, if_true, hr, Option.map_some]
    refine congrArg some ?_
    have e1 : n - ps.length = (n - (ps.length + 1)) + 1 := by omega
    simp only [Obj.cells.injEq, and_true]
    rw [e1, List.replicate_succ]
    apply Array.ext'
    show ((ptrs ps ++ Value.pointer none :: List.replicate (n - (ps.length + 1)) (Value.pointer none)).toArray.setIfInBounds ps.length (ptr W.heap.size)).toList = _
    rw [Array.toList_setIfInBounds]
    rw [List.set_append_right _ _ (by rw [hl]; exact Nat.le_refl _), hl]
    simp [ptrs]
  · intro j b hj
    rw [List.getElem?_append] at hj
    split at hj
    · obtain ⟨h1, h2⟩ := h.el j b hj
      refine ⟨h1, ?_⟩
      rw [blk_setCell_other _ _ _ _ (by show b ≠ g; omega), blk_alloc_lt _ _ _ (lt_of h2)]
      exact h2
    · have hj' : j = ps.length := by
        rcases Nat.lt_or_ge (j - ps.length) 1 with hh | hh
        · omega
        · rw [List.getElem?_eq_none (by show 1 ≤ _; exact hh)] at hj; cases hj
      subst hj'
      have hbb : W.heap.size = b := by simpa using hj
      subst hbb
      refine ⟨hs, ?_⟩
      rw [blk_setCell_other _ _ _ _ (by show W.heap.size ≠ g; omega)]
      exact blk_alloc_new _ _

/-- The cell that is filled next. -/
theorem Fill.next {W0 : World} {g n : Nat} {e : TypeId} {C : Nat → Array Value} {t : TypeId} {ps : List Nat} {W : World} (h : Fill W0 g n e C t ps W) (hn : ps.length < n) :
    W.cell? ⟨g, ps.length, none⟩ = some (.pointer none) ∧ W.frozen? ⟨g, ps.length, none⟩ = false := by
  constructor
  · simp only [World.cell?, h.row]
    have hl : (ptrs ps).length = ps.length := by simp [ptrs]
    simp only [List.getElem?_toArray]
    rw [List.getElem?_append_right (by omega), hl, Nat.sub_self]
    have e1 : n - ps.length = (n - (ps.length + 1)) + 1 := by omega
    rw [e1, List.replicate_succ]
    rfl
  · simp [World.frozen?, h.row]

/-- A row that is filled, whole. -/
theorem Fill.whole {W0 : World} {g n : Nat} {e : TypeId} {C : Nat → Array Value} {t : TypeId} {ps : List Nat} {W : World} (h : Fill W0 g n e C t ps W) (hn : ps.length = n) : W.heap[g]? = some (.cells (ptrs ps).toArray e (0, 0)) := by
  have := h.row
  rw [hn, Nat.sub_self] at this
  simpa using this

theorem row_cell {W : World} {g : Nat} {e : TypeId} {ps : List Nat} (h : W.heap[g]? = some (.cells (ptrs ps).toArray e (0, 0))) {j b : Nat} (hj : ps[j]? = some b) : W.cell? ⟨g, j, none⟩ = some (ptr b) := by
  simp [World.cell?, h, ptrs, hj]

/-- All that the law looks at behind standBy. -/
structure Snap (w : World) (n m : Nat) (st : Bool) (ps qs : List Nat) (g1 g3 R cb wk : Nat) (vs : Value) (xs : List Value) (buf : Array Value) (s r : Nat) (W : World) : Prop where
  below : Below w.heap.size w W
  pl : ps.length = n
  ql : qs.length = m
  row1 : W.heap[g1]? = some (.cells (ptrs ps).toArray 23 (0, 0))
  el : ∀ (j b : Nat), ps[j]? = some b → W.heap[b]? = some (.cells (procA j) 46 (0, 0))
  row3 : W.heap[g3]? = some (.cells (ptrs qs).toArray 48 (0, 0))
  sch : Sch W R (.slice (some ⟨g1, 0, none⟩) n n) vs 0 st
  own : W.ownsRow w.heap.size 48 1 vs xs.length xs
  wkr : W.heap[wk]? = some (.cells #[.chan (some cb)] 51 (0, 0))
  ch : W.heap[cb]? = some (.chan 1 buf false s r false)
  hR : w.heap.size ≤ R
  hcb : w.heap.size ≤ cb

theorem Snap.stay {w : World} {n m : Nat} {st : Bool} {ps qs : List Nat} {g1 g3 R cb wk : Nat} {vs : Value} {xs : List Value} {buf : Array Value} {s r : Nat} {W W' : World} (h : Snap w n m st ps qs g1 g3 R cb wk vs xs buf s r W)
    (hb : Below w.heap.size w W') (hs : Sch W' R (.slice (some ⟨g1, 0, none⟩) n n) vs 0 st) (hk : ∀ k, k ≠ R → W'.heap[k]? = W.heap[k]?) : Snap w n m st ps qs g1 g3 R cb wk vs xs buf s r W' := by
  have hR := h.sch
  unfold Sch at hR
  have ne : ∀ {k : Nat} {o : Obj}, W.heap[k]? = some o → (∀ cur, o ≠ .cells cur 75 (0, 0)) → W'.heap[k]? = some o := by
    intro k o hko hne
    refine (hk k ?_).trans hko
    intro e
    subst e
    rw [hR] at hko
    exact hne _ (Option.some.inj hko).symm
  refine ⟨hb, h.pl, h.ql, ne h.row1 (by simp), fun j b hj => ne (h.el j b hj) (by simp), ne h.row3 (by simp), hs, ?_, ne h.wkr (by simp), ne h.ch (by simp), h.hR, h.hcb⟩
  refine ⟨h.own.1, ?_⟩
  rcases h.own.2 with h2 | ⟨g, cap, cur, hv, hgB, hgr, rr⟩
  · exact .inl h2
  · exact .inr ⟨g, cap, cur, hv, hgB, ne hgr (by simp), rr⟩

theorem Snap.drewN {w : World} {n m : Nat} {st : Bool} {ps qs : List Nat} {g1 g3 R cb wk : Nat} {vs : Value} {xs : List Value} {buf : Array Value} {s r : Nat} {W : World} (h : Snap w n m st ps qs g1 g3 R cb wk vs xs buf s r W) (q : Nat) :
    Snap w n m st ps qs g1 g3 R cb wk vs xs buf s r (W.drewN q) := h.stay (below_drewN h.below q) h.sch (fun _ _ => rfl)

/-- The lock taken, and let go again. -/
theorem Snap.relock {w : World} {n m : Nat} {st : Bool} {ps qs : List Nat} {g1 g3 R cb wk : Nat} {vs : Value} {xs : List Value} {buf : Array Value} {s r : Nat} {W : World} (h : Snap w n m st ps qs g1 g3 R cb wk vs xs buf s r W) :
    Snap w n m st ps qs g1 g3 R cb wk vs xs buf s r ((W.setCell ⟨R, 18, none⟩ (.int .i32 1)).setCell ⟨R, 18, none⟩ (.int .i32 0)) :=
  h.stay ((h.below.setCell h.hR _).setCell h.hR _) ((h.sch.lock 1).lock 0) (fun _ hk => (Below.heap_setCell _ _ _ _ hk).trans (Below.heap_setCell _ _ _ _ hk))

theorem own_at {W : World} {B : Nat} {a : Option Addr} {c : Nat} {xs : List Value} (h : W.ownsRow B 48 1 (.slice a xs.length c) xs.length xs) {j : Nat} {x : Value} (hj : xs[j]? = some x) : ∃ g, a = some ⟨g, 0, none⟩ ∧ W.cell? ⟨g, j, none⟩ = some x := by
  have hlt := (List.getElem?_eq_some_iff.1 hj).1
  rcases h.2 with ⟨hv, hz⟩ | ⟨g, cap, cur, hv, hgB, hgr, _⟩
  · omega
  · simp only [Value.slice.injEq] at hv
    obtain ⟨ha, _, hc⟩ := hv
    subst ha hc
    exact ⟨g, rfl, by rw [h.cellAt j (by omega)]; exact hj⟩

theorem info46 : (Yba.prog.info? 46).isSome = true := by kernel_rfl
theorem info51 : (Yba.prog.info? 51).isSome = true := by kernel_rfl
theorem run_neq_23 (w : World) (a : Addr) : (binOp .neq 23 (.pointer (some a)) (.pointer (some a))).run Yba.prog w = .ok (.bool false) w := by
  obtain ⟨j, hj⟩ := Option.isSome_iff_exists.1 info46
  exact Lib.run_neq_ptr_same w a Yba.underlying23 hj
theorem run_neq_48 (w : World) (a : Addr) : (binOp .neq 48 (.pointer (some a)) (.pointer (some a))).run Yba.prog w = .ok (.bool false) w := by
  obtain ⟨j, hj⟩ := Option.isSome_iff_exists.1 info51
  exact Lib.run_neq_ptr_same w a Yba.underlying48 hj

/-- The number of the region that a code begins with. -/
def firstReg : Code → Option Nat
  | .region id _ _ => some id
  | .seq a _ => firstReg a
  | .block _ c => firstReg c
  | .loop c => firstReg c
  | .scope c => firstReg c
  | _ => none
/-- The code from the part on that begins with region r. -/
def suffix (r : Nat) : Code → Option Code
  | .seq a b => if firstReg a = some r then some (.seq a b) else suffix r b
  | _ => none

end Go.Proofs.Ybulkdiuy.lawS5497AWhole
