/-
  LawS5497AWhole: the region that sends: 'w.handed <- given', and what is known of the heap behind it.
-/
import Derived.Test.YbulkdiuyATailCall
namespace Go.Proofs.Ybulkdiuy.lawS5497AWhole
open Go.RowKit Go.Conc Go.Deep

set_option maxHeartbeats 3200000 in
set_option maxRecDepth 1000000 in
theorem send20 (a : Act) (W : World) (wk cb : Nat) (v : Value) (Q : Exit → Act → World → Prop) (h20 : a.eval (.tmp 20) = .pointer (some ⟨wk, 0, none⟩)) (h19 : a.eval (.tmp 19) = v) (hsz : a.tmps.size = 208)
    (hk : W.cell? ⟨wk, 0, none⟩ = some (.chan (some cb))) (hcb : W.heap[cb]? = some (.chan 1 #[] false 0 0 false)) (cd : Code) (hc : Yba.f3.body.bind (suffix 20) = some cd)
    (h : ∀ cr, Yba.f3.body.bind (suffix 21) = some cr → cr.wp Yba.prog Q (((((a.put (some 72) (.pointer (some ⟨wk, 0, none⟩))).put (some 73) (.pointer (some ⟨wk, 0, none⟩))).put (some 74) (.pointer (some ⟨wk, 0, none⟩))).put (some 75) (.chan (some cb))).put (some 76) v)
      (W.setChan cb 1 #[v] false 1 0 false)) : wpN Yba.prog cd Q a W := by
  conv at hc => lhs; whnf
  injection hc with hc
  subst hc
  have q20 : a.tmps[20]'(by omega) = .pointer (some ⟨wk, 0, none⟩) := by
    have := h20
    simp [Act.eval, Array.getD, hsz] at this
    exact this
  have q19 : a.tmps[19]'(by omega) = v := by
    have := h19
    simp [Act.eval, Array.getD, hsz] at this
    exact this
  refine wpN_seq ?_
  intro b k cs hb
  refine ⟨.normal, _, _, wpN_of_wp (h _ (by kernel_rfl)), Steps.head step_region (Steps.head (op_step (i := 0) (v := .pointer (some ⟨wk, 0, none⟩)) (w' := W) rfl rfl ?_) (Steps.head (op_step (i := 1) (v := .pointer (some ⟨wk, 0, none⟩)) (w' := W) rfl rfl ?_)
    (Steps.head (op_step (i := 2) (v := .pointer (some ⟨wk, 0, none⟩)) (w' := W) rfl rfl ?_) (Steps.head (op_step (i := 3) (v := .chan (some cb)) (w' := W) rfl rfl ?_) (Steps.head (op_step (i := 4) (v := v) (w' := W) rfl rfl ?_)
    (Steps.head (send_step (i := 5) (c := cb) (cap := 1) (buf := #[]) (tm := false) (s := 0) (r := 0) (v := v) (z := .tuple #[]) hb rfl rfl ?_ hcb (by simp)) (Steps.one step_region_end)))))))⟩
  · clear h; simp [go_sem, hsz, q20]
  · clear h; simp [go_sem, hsz]
  · clear h; simp [go_sem, hsz]
  · clear h; simp [go_sem, hsz, hk]
  · clear h; simp [go_sem, hsz, q19]
  · clear h; simp [go_sem, hsz, scase]

/-- The value lies in the channel. -/
theorem Snap.sent {w : World} {n m : Nat} {st : Bool} {ps qs : List Nat} {g1 g3 R cb wk : Nat} {vs : Value} {xs : List Value} {W : World} (h : Snap w n m st ps qs g1 g3 R cb wk vs xs #[] 0 0 W) (v : Value) :
    Snap w n m st ps qs g1 g3 R cb wk vs xs #[v] 1 0 (W.setChan cb 1 #[v] false 1 0 false) := by
  have ne : ∀ {k : Nat} {cur : Array Value} {t : TypeId}, W.heap[k]? = some (.cells cur t (0, 0)) → (W.setChan cb 1 #[v] false 1 0 false).heap[k]? = some (.cells cur t (0, 0)) := by
    intro k cur t hko
    have hne : cb ≠ k := by
      intro e
      rw [← e, h.ch] at hko
      cases hko
    simp only [World.setChan]
    rw [Array.getElem?_setIfInBounds_ne hne]
    exact hko
  refine ⟨below_setChan h.below h.hcb _ _ _ _ _ _, h.pl, h.ql, ne h.row1, fun j b hj => ne (h.el j b hj), ne h.row3, ne h.sch, ?_, ne h.wkr, heap_setChan _ _ _ _ _ _ _ _ (lt_of h.ch), h.hR, h.hcb⟩
  refine ⟨h.own.1, ?_⟩
  rcases h.own.2 with h2 | ⟨g, cap, cur, hv, hgB, hgr, rr⟩
  · exact .inl h2
  · exact .inr ⟨g, cap, cur, hv, hgB, ne hgr, rr⟩

end Go.Proofs.Ybulkdiuy.lawS5497AWhole
