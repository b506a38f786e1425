/-
  THE HEAP OF LawS5497BWhole: a clock (block C, of type 101), three queues of pointers, the processors and calls that they lead to. Laws on worlds alone; no walk.
-/
import Derived.Test.YbulkdiuyBPlain
import Derived.WalkKit
import Derived.Deep.OwnRows
import Derived.Deep.Draws
import Derived.WalkSmall
namespace Go.Proofs.Ybulkdiuy.lawS5497BWhole
open Go.RowKit Go.Deep

def clk (now : Int) (v1 v2 v3 : Value) : Array Value := #[.int .i64 now, .slice none 0 0, v1, .func (Fn.func 9) #[] #[], v2, .func (Fn.func 10) #[] #[], .int .i64 0, v3,
  .slice none 0 0, .pointer none, .pointer none, .int .i64 0, .int .i64 0, .int .i64 0, .pointer none, .int .i64 0, .int .i64 0, .pointer none, .slice none 0 0, .slice none 0 0, .int .i64 0, .pointer none, .slice none 0 0, .nilIface]
def procC (i u : Int) (c : Value) : Array Value := #[.int .i64 i, .string ⟨#[]⟩, .pointer none, .pointer none, .int .i64 0, .int .i64 u, c, .int .u64 0]
def callC (b e n : Int) : Array Value := #[.pointer none, .pointer none, .int .i64 b, .int .i64 e, .int .i64 n]

def ptr (b : Nat) : Value := .pointer (some ⟨b, 0, none⟩)
def ptrs (ps : List Nat) : List Value := ps.map ptr

/-- A processor in a run; a call; a processor that is reserved by a call. -/
def El1 (z : Nat → Int) (w : World) (j b : Nat) : Prop := w.heap[b]? = some (.cells (procC j (z j) (.pointer none)) 107 (0, 0))
def El2 (z : Nat → Int) (w : World) (j b : Nat) : Prop := w.heap[b]? = some (.cells (callC 0 (z j) j) 109 (0, 0))
def El3 (rb re : Nat → Int) (w : World) (j b : Nat) : Prop := ∃ c, w.heap[b]? = some (.cells (procC j 0 (ptr c)) 107 (0, 0)) ∧ w.heap[c]? = some (.cells (callC (rb j) (re j) j) 109 (0, 0))

/-- No processor and no call has turned. -/
def Same79 (w w' : World) : Prop := ∀ (k : Nat) (cs : Array Value) (t : TypeId), t = 107 ∨ t = 109 → w.heap[k]? = some (.cells cs t (0, 0)) → w'.heap[k]? = some (.cells cs t (0, 0))
/-- Nothing but clocks has turned. -/
def K101 (w w' : World) : Prop := ∀ (k : Nat) (cs : Array Value) (t : TypeId), t ≠ 101 → w.heap[k]? = some (.cells cs t (0, 0)) → w'.heap[k]? = some (.cells cs t (0, 0))

theorem K101.same {w w' : World} (h : K101 w w') : Same79 w w' := fun k cs t ht hk => h k cs t (by rcases ht with rfl | rfl <;> decide) hk
theorem K101.trans {a b c : World} (h : K101 a b) (k : K101 b c) : K101 a c := fun i cs t ht hi => k i cs t ht (h i cs t ht hi)
theorem K101.refl (w : World) : K101 w w := fun _ _ _ _ h => h
theorem lt_of {w : World} {k : Nat} {o : Obj} (h : w.heap[k]? = some o) : k < w.heap.size := (Array.getElem?_eq_some_iff.1 h).1
theorem K101.of_below {w w' : World} (h : Below w.heap.size w w') : K101 w w' := fun k _ _ _ hk => (h.block k (lt_of hk)).trans hk

structure Stable (El : World → Nat → Nat → Prop) : Prop where
  keep : ∀ {w w' j b}, Same79 w w' → El w j b → El w' j b

theorem st1 (z : Nat → Int) : Stable (El1 z) := ⟨fun h e => h _ _ _ (.inl rfl) e⟩
theorem st2 (z : Nat → Int) : Stable (El2 z) := ⟨fun h e => h _ _ _ (.inr rfl) e⟩
theorem st3 (rb re : Nat → Int) : Stable (El3 rb re) := ⟨fun h ⟨c, e1, e2⟩ => ⟨c, h _ _ _ (.inl rfl) e1, h _ _ _ (.inr rfl) e2⟩⟩

/-- A queue: a row of k pointers, each to what it should lead to. -/
def Items (B : Nat) (e : TypeId) (El : World → Nat → Nat → Prop) (v : Value) (k : Nat) (w : World) : Prop :=
  ∃ ps : List Nat, ps.length = k ∧ w.ownsRow B e 1 v k (ptrs ps) ∧ ∀ j b, ps[j]? = some b → El w j b

theorem own_keep {w w' : World} {B : Nat} {e : TypeId} {v : Value} {n : Nat} {xs : List Value} (he : e ≠ 101) (h : K101 w w') (ho : w.ownsRow B e 1 v n xs) : w'.ownsRow B e 1 v n xs := by
  obtain ⟨h1, h2⟩ := ho
  refine ⟨h1, ?_⟩
  rcases h2 with h2 | ⟨g, cap, cur, hv, hg, hr, r⟩
  · exact .inl h2
  · exact .inr ⟨g, cap, cur, hv, hg, h _ _ _ he hr, r⟩

theorem Items.keep {w w' : World} {B : Nat} {e : TypeId} {El : World → Nat → Nat → Prop} {v : Value} {k : Nat} (S : Stable El) (he : e ≠ 101) (h : K101 w w') (i : Items B e El v k w) : Items B e El v k w' := by
  obtain ⟨ps, h1, h2, h3⟩ := i
  exact ⟨ps, h1, own_keep he h h2, fun j b hb => S.keep h.same (h3 j b hb)⟩

theorem Items.nil (w : World) (B : Nat) (e : TypeId) (El : World → Nat → Nat → Prop) : Items B e El (.slice none 0 0) 0 w :=
  ⟨[], rfl, World.ownsRow_nil _ _ _ _, fun j b h => by simp at h⟩

theorem Items.shape {w : World} {B : Nat} {e : TypeId} {El : World → Nat → Nat → Prop} {v : Value} {k : Nat} (i : Items B e El v k w) : ∃ a c, v = .slice a k c := by
  obtain ⟨ps, h1, h2, h3⟩ := i
  rcases h2.2 with ⟨hv, hk⟩ | ⟨g, cap, cur, hv, _⟩
  · exact ⟨none, 0, by rw [hv, hk]⟩
  · exact ⟨_, _, hv⟩

/-- An element of a queue. -/
theorem Items.at {w : World} {B : Nat} {e : TypeId} {El : World → Nat → Nat → Prop} {a : Option Addr} {c k : Nat} (i : Items B e El (.slice a k c) k w) {j : Nat} (hj : j < k) :
    ∃ g b, a = some ⟨g, 0, none⟩ ∧ w.cell? ⟨g, j, none⟩ = some (ptr b) ∧ El w j b := by
  obtain ⟨ps, h1, h2, h3⟩ := i
  rcases h2.2 with ⟨hv, hk⟩ | ⟨g, cap, cur, hv, hb, hr, h5, h6, h7, h8⟩
  · omega
  · simp only [Value.slice.injEq] at hv
    obtain ⟨ha, _, hc⟩ := hv
    subst ha hc
    have hjp : j < ps.length := by omega
    refine ⟨g, ps[j], rfl, ?_, h3 j _ (by simp [hjp])⟩
    rw [h2.cellAt j (by omega)]
    simp [ptrs, hjp]

/-- A loop that fills one queue of the clock. -/
structure Phase (w wi : World) (C : Nat) (cl : Array Value) (e : TypeId) (El : World → Nat → Nat → Prop) (v : Value) (k : Nat) (wr : World) : Prop where
  below : Below w.heap.size w wr
  keep : K101 wi wr
  size : wi.heap.size ≤ wr.heap.size
  clock : wr.heap[C]? = some (.cells cl 101 (0, 0))
  items : Items wi.heap.size e El v k wr

theorem Phase.start {w wi : World} {C : Nat} {cl : Array Value} (e : TypeId) (El : World → Nat → Nat → Prop) (hb : Below w.heap.size w wi) (hc : wi.heap[C]? = some (.cells cl 101 (0, 0))) :
    Phase w wi C cl e El (.slice none 0 0) 0 wi := ⟨hb, K101.refl _, Nat.le_refl _, hc, Items.nil _ _ _ _⟩

/-- Behind the append the clock is still there. -/
theorem Phase.clock1 {w wi : World} {C : Nat} {cl : Array Value} {e : TypeId} {El : World → Nat → Nat → Prop} {v : Value} {k : Nat} {wr W2 w1 : World}
    (h : Phase w wi C cl e El v k wr) (he : e ≠ 101) (ps : List Nat) (hown : wr.ownsRow wi.heap.size e 1 v k (ptrs ps)) (h2 : Below wr.heap.size wr W2) (hg : W2.grownBy w1 v.ownBlock) : w1.heap[C]? = some (.cells cl 101 (0, 0)) := by
  have hC2 : W2.heap[C]? = some (.cells cl 101 (0, 0)) := (h2.block C (lt_of h.clock)).trans h.clock
  refine (hg.block C (lt_of hC2) ?_).trans hC2
  intro hh
  rcases hown.2 with ⟨hv, _⟩ | ⟨g, cap, cur, hv, hgB, hgr, _⟩
  · subst hv; simp [Value.ownBlock] at hh
  · subst hv
    have : C = g := by simpa [Value.ownBlock] using hh
    subst this
    rw [h.clock] at hgr
    simp at hgr
    exact he hgr.2.symm

theorem own_shape {w : World} {B : Nat} {e : TypeId} {v : Value} {n : Nat} {xs : List Value} (h : w.ownsRow B e 1 v n xs) : ∃ a c, v = .slice a n c := by
  rcases h.2 with ⟨hv, hk⟩ | ⟨g, cap, cur, hv, _⟩
  · exact ⟨none, 0, by rw [hv, hk]⟩
  · exact ⟨_, _, hv⟩

theorem clk_set2 (now : Int) (v1 v2 v3 v : Value) : (clk now v1 v2 v3).setIfInBounds 2 v = clk now v v2 v3 := rfl
theorem clk_set4 (now : Int) (v1 v2 v3 v : Value) : (clk now v1 v2 v3).setIfInBounds 4 v = clk now v1 v v3 := rfl
theorem clk_set7 (now : Int) (v1 v2 v3 v : Value) : (clk now v1 v2 v3).setIfInBounds 7 v = clk now v1 v2 v := rfl

theorem clk_cells {w : World} {C : Nat} {now : Int} {v1 v2 v3 : Value} (h : w.heap[C]? = some (.cells (clk now v1 v2 v3) 101 (0, 0))) :
    w.cell? ⟨C, 0, none⟩ = some (.int .i64 now) ∧ w.cell? ⟨C, 2, none⟩ = some v1 ∧ w.cell? ⟨C, 4, none⟩ = some v2 ∧ w.cell? ⟨C, 7, none⟩ = some v3 := by
  simp [World.cell?, h, clk]
theorem clk_free {w : World} {C : Nat} {cs : Array Value} (h : w.heap[C]? = some (.cells cs 101 (0, 0))) (o : Nat) : w.frozen? ⟨C, o, none⟩ = false := by
  simp [World.frozen?, h]

/-- One new cell, where the append looks for it. -/
theorem news1 (w : World) (x : Value) (t : TypeId) (j : Nat) (u : Value) (hj : [x][j]? = some u) : (w.alloc (.cells #[x] t)).cell? ((⟨w.heap.size, 0, none⟩ : Addr).add j) = some u := by
  match j, hj with
  | 0, hj => simp at hj; subst hj; simp [Addr.add]
  | j + 1, hj => simp at hj

theorem news2 (w : World) (o : Obj) (x : Value) (t : TypeId) (j : Nat) (u : Value) (hj : [x][j]? = some u) : ((w.alloc o).alloc (.cells #[x] t)).cell? ((⟨w.heap.size + 1, 0, none⟩ : Addr).add j) = some u := by
  have h := news1 (w.alloc o) x t j u hj
  rwa [nblk_alloc] at h

theorem news4 (w : World) (o1 o2 o3 : Obj) (x : Value) (t : TypeId) (j : Nat) (u : Value) (hj : [x][j]? = some u) : ((((w.alloc o1).alloc o2).alloc o3).alloc (.cells #[x] t)).cell? ((⟨w.heap.size + 1 + 1 + 1, 0, none⟩ : Addr).add j) = some u := by
  have h := news1 (((w.alloc o1).alloc o2).alloc o3) x t j u hj
  rwa [nblk_alloc, nblk_alloc, nblk_alloc] at h

theorem ext2 (w : World) (o1 o2 : Obj) : Below w.heap.size w ((w.alloc o1).alloc o2) :=
  ((Below.refl _ _).alloc (Nat.le_refl _) _).alloc (by rw [nblk_alloc]; omega) _
theorem ext4 (w : World) (o1 o2 o3 o4 : Obj) : Below w.heap.size w ((((w.alloc o1).alloc o2).alloc o3).alloc o4) :=
  ((ext2 w o1 o2).alloc (by simp only [nblk_alloc]; omega) _).alloc (by simp only [nblk_alloc]; omega) _
theorem at2 (w : World) (o1 o2 : Obj) : ((w.alloc o1).alloc o2).heap[w.heap.size]? = some o1 := by
  rw [blk_alloc_lt _ _ _ (by rw [nblk_alloc]; omega)]; exact blk_alloc_new _ _
theorem at4 (w : World) (o1 o2 o3 o4 : Obj) : ((((w.alloc o1).alloc o2).alloc o3).alloc o4).heap[w.heap.size + 1]? = some o2 ∧ ((((w.alloc o1).alloc o2).alloc o3).alloc o4).heap[w.heap.size + 1 + 1]? = some o3 := by
  have e1 : (w.alloc o1).heap.size = w.heap.size + 1 := nblk_alloc _ _
  have e2 : ((w.alloc o1).alloc o2).heap.size = w.heap.size + 1 + 1 := by rw [nblk_alloc, e1]
  constructor
  · rw [blk_alloc_lt _ _ _ (by rw [nblk_alloc, e2]; omega), ← e1]
    exact at2 _ _ _
  · have h := at2 ((w.alloc o1).alloc o2) o3 o4
    rwa [e2] at h

theorem Phase.step {w wi : World} {C : Nat} {cl : Array Value} {e : TypeId} {El : World → Nat → Nat → Prop} {v v' : Value} {k : Nat} {wr W2 w1 : World} (S : Stable El)
    (h : Phase w wi C cl e El v k wr) (he : e ≠ 101 ∧ e ≠ 107 ∧ e ≠ 109) (hC : w.heap.size ≤ C) (hCi : ∃ cs, wi.heap[C]? = some (.cells cs 101 (0, 0))) (hw : w.heap.size ≤ wi.heap.size)
    (ps : List Nat) (hp : ps.length = k) (hown : wr.ownsRow wi.heap.size e 1 v k (ptrs ps)) (hel : ∀ j b, ps[j]? = some b → El wr j b)
    (h2 : Below wr.heap.size wr W2) (b : Nat) (hb : El W2 k b) (hown' : w1.ownsRow wi.heap.size e 1 v' (k + 1) (ptrs ps ++ [ptr b])) (hg : W2.grownBy w1 v.ownBlock) (o : Nat) :
    Phase w wi C (cl.setIfInBounds o v') e El v' (k + 1) (w1.setCell ⟨C, o, none⟩ v') := by
  have hs2 := h2.size
  have hsz := h.size
  have hC2 : W2.heap[C]? = some (.cells cl 101 (0, 0)) := (h2.block C (lt_of h.clock)).trans h.clock
  -- the row's own block
  have hrow : ∀ r, v.ownBlock = some r → wi.heap.size ≤ r ∧ ∃ cur, W2.heap[r]? = some (.cells cur e (0, 0)) := by
    intro r hr
    rcases hown.2 with ⟨hv, _⟩ | ⟨g, cap, cur, hv, hgB, hgr, _⟩
    · subst hv; simp [Value.ownBlock] at hr
    · subst hv
      have : g = r := by simpa [Value.ownBlock] using hr
      subst this
      exact ⟨hgB, cur, (h2.block g (lt_of hgr)).trans hgr⟩
  have hnC : some C ≠ v.ownBlock := by
    intro hh
    obtain ⟨_, cur, hcur⟩ := hrow C hh.symm
    rw [hC2] at hcur
    simp at hcur
    exact he.1 hcur.2.symm
  have hC1 : w1.heap[C]? = some (.cells cl 101 (0, 0)) := (hg.block C (lt_of hC2) hnC).trans hC2
  have s21 : Same79 W2 w1 := by
    intro i cs t ht hi
    refine (hg.block i (lt_of hi) ?_).trans hi
    intro hh
    obtain ⟨_, cur, hcur⟩ := hrow i hh.symm
    rw [hi] at hcur
    simp at hcur
    rcases ht with rfl | rfl
    · exact he.2.1 hcur.2.symm
    · exact he.2.2 hcur.2.symm
  have s1f : Same79 w1 (w1.setCell ⟨C, o, none⟩ v') := by
    intro i cs t ht hi
    refine (blk_setCell_other _ _ _ _ ?_).trans hi
    intro hh
    have : i = C := hh
    rw [this, hC1] at hi
    simp at hi
    rcases ht with rfl | rfl
    · exact absurd hi.2 (by decide)
    · exact absurd hi.2 (by decide)
  have sAll : Same79 wr (w1.setCell ⟨C, o, none⟩ v') := fun i cs t ht hi => s1f _ _ _ ht (s21 _ _ _ ht ((h2.block i (lt_of hi)).trans hi))
  refine ⟨?_, ?_, ?_, ?_, ps ++ [b], by simp [hp], ?_, ?_⟩
  · have b2 : Below w.heap.size w W2 := h.below.trans (h2.mono (by omega))
    exact (b2.grown hg (by omega) fun r hr => by have := (hrow r hr).1; omega).setCell hC _
  · intro i cs t ht hi
    have hilt := lt_of hi
    have hir : wr.heap[i]? = some (.cells cs t (0, 0)) := h.keep i cs t ht hi
    have hi2 : W2.heap[i]? = some (.cells cs t (0, 0)) := (h2.block i (lt_of hir)).trans hir
    have hi1 : w1.heap[i]? = some (.cells cs t (0, 0)) := (hg.block i (lt_of hi2) (fun hh => by have := (hrow i hh.symm).1; omega)).trans hi2
    refine (blk_setCell_other _ _ _ _ ?_).trans hi1
    intro hh
    have e1 : i = C := hh
    obtain ⟨cs', hcs'⟩ := hCi
    rw [e1, hcs'] at hi
    simp at hi
    exact ht hi.2.symm
  · rw [nblk_setCell]; have := hg.size; omega
  · simp only [World.setCell, Array.getElem?_modify, if_true, hC1, Option.map_some]
    rfl
  · obtain ⟨q1, q2⟩ := hown'
    refine ⟨by simpa [ptrs] using q1, ?_⟩
    rcases q2 with q2 | ⟨g, cap, cur, hv, hgB, hgr, r⟩
    · exact .inl q2
    · refine .inr ⟨g, cap, cur, hv, hgB, (blk_setCell_other _ _ _ _ ?_).trans hgr, by simpa [ptrs] using r⟩
      intro hh
      have e1 : g = C := hh
      rw [e1, hC1] at hgr
      simp at hgr
      exact he.1 hgr.2.symm
  · intro j b' hj
    rw [List.getElem?_append] at hj
    split at hj
    · exact S.keep sAll (hel j b' hj)
    · have hj' : j = k := by
        rcases Nat.lt_or_ge (j - ps.length) 1 with hh | hh
        · omega
        · rw [List.getElem?_eq_none (by simpa using hh)] at hj; cases hj
      subst hj'
      have hbb : b = b' := by simpa [hp] using hj
      subst hbb
      exact S.keep (fun i cs t ht hi => s1f _ _ _ ht (s21 _ _ _ ht hi)) hb

def ints (l : List Int) : List Value := l.map (Value.int .i64)

/-- The candidates that the law has gathered. -/
structure CN (W : World) (L : List Int) (v : Value) (w : World) : Prop where
  own : w.ownsRow W.heap.size 2 1 v L.length (ints L)
  below : Below W.heap.size W w

theorem CN.nil (W : World) : CN W [] (.slice none 0 0) W := ⟨World.ownsRow_nil _ _ _ _, Below.refl _ _⟩
theorem CN.alloc {W w : World} {L : List Int} {v : Value} (h : CN W L v w) (o : Obj) : CN W L v (w.alloc o) := ⟨h.own.alloc _, h.below.alloc h.below.size _⟩

theorem CN.app {W w w2 : World} {L : List Int} {v v2 : Value} {t : Int} {o : Obj} (h : CN W L v w) (hown : w2.ownsRow W.heap.size 2 1 v2 (L.length + 1) (ints L ++ [.int .i64 t])) (hg : (w.alloc o).grownBy w2 v.ownBlock) : CN W (L ++ [t]) v2 w2 := by
  have hs := h.below.size
  refine ⟨by simpa [ints] using hown, ((h.below.alloc hs o).grown hg (by rw [nblk_alloc]; omega) ?_)⟩
  intro k hk
  rcases h.own.2 with ⟨hv, _⟩ | ⟨g, cap, cur, hv, hgB, hgr, _⟩
  · subst hv; simp [Value.ownBlock] at hk
  · subst hv
    have : g = k := by simpa [Value.ownBlock] using hk
    subst this
    exact hgB

/-- A block of another type's stays behind the append. -/
theorem CN.other {W w w2 : World} {L : List Int} {v : Value} {o : Obj} {b : Nat} {cs : Array Value} {t : TypeId} (h : CN W L v w) (hg : (w.alloc o).grownBy w2 v.ownBlock) (hb : w.heap[b]? = some (.cells cs t (0, 0))) (ht : t ≠ 2) : w2.heap[b]? = some (.cells cs t (0, 0)) := by
  have hb1 : (w.alloc o).heap[b]? = some (.cells cs t (0, 0)) := by rw [blk_alloc_lt _ _ _ (lt_of hb)]; exact hb
  refine (hg.block b (lt_of hb1) ?_).trans hb1
  intro hh
  rcases h.own.2 with ⟨hv, _⟩ | ⟨g, cap, cur, hv, hgB, hgr, _⟩
  · subst hv; simp [Value.ownBlock] at hh
  · subst hv
    have : b = g := by simpa [Value.ownBlock] using hh
    subst this
    rw [hb] at hgr
    simp at hgr
    exact ht hgr.2

theorem CN.cell {W w : World} {L : List Int} {a : Option Addr} {c : Nat} (h : CN W L (.slice a L.length c) w) {k : Nat} (hk : k < L.length) : ∃ g, a = some ⟨g, 0, none⟩ ∧ w.cell? ⟨g, k, none⟩ = some (.int .i64 L[k]) := by
  rcases h.own.2 with ⟨hv, hz⟩ | ⟨g, cap, cur, hv, hgB, hgr, _⟩
  · omega
  · simp only [Value.slice.injEq] at hv
    obtain ⟨ha, _, hc⟩ := hv
    subst ha hc
    refine ⟨g, rfl, ?_⟩
    rw [h.own.cellAt k (by omega)]
    simp [ints, hk]

theorem int_one (t : Int) : ∀ u ∈ [Value.int .i64 t], u.oneCell' = true := by
  intro u hu
  simp at hu
  subst hu
  rfl

end Go.Proofs.Ybulkdiuy.lawS5497BWhole
