import Derived.Test.YbulkdiuyATailAcc
import Derived.Test.YbulkdiuyATailRej
namespace Go.Proofs.Ybulkdiuy.lawS5497AWhole
open Go.RowKit Go.Conc Go.Deep

/-- The worker has been taken among the spares. -/
theorem Snap.taken {w : World} {n m : Nat} {st : Bool} {ps qs : List Nat} {g1 g2 g3 R G cb wk : Nat} {W W' : World} (S : Snap w n m st ps qs g1 g3 R cb wk (.slice (some ⟨g2, 0, none⟩) m m) (ptrs qs) #[ptr G] 1 0 W) (hg : g3 ≠ g2) {g cap : Nat}
    (ho : W'.ownsRow w.heap.size 48 1 (.slice (some ⟨g, 0, none⟩) (m + 1) cap) (m + 1) (ptrs qs ++ [ptr wk])) (hs : Sch W' R (.slice (some ⟨g1, 0, none⟩) n n) (.slice (some ⟨g, 0, none⟩) (m + 1) cap) 0 st)
    (hc : W'.heap[cb]? = some (.chan 1 #[] false 1 1 false)) (hk : ∀ k, k < W.heap.size → k ≠ R → k ≠ cb → some k ≠ (Value.slice (some ⟨g2, 0, none⟩) m m).ownBlock → W'.heap[k]? = W.heap[k]?) (hb : Below w.heap.size w W') :
    Snap w n m st ps qs g1 g3 R cb wk (.slice (some ⟨g, 0, none⟩) (m + 1) cap) (ptrs qs ++ [ptr wk]) #[] 1 1 W' := by
  have hR := S.sch
  unfold Sch at hR
  have hl : (ptrs qs).length = m := by simp [ptrs, S.ql]
  have ne : ∀ {k : Nat} {cur : Array Value} {t : TypeId}, W.heap[k]? = some (.cells cur t (0, 0)) → t ≠ 75 → (t ≠ 48 ∨ k ≠ g2) → W'.heap[k]? = some (.cells cur t (0, 0)) := by
    intro k cur t hko h75 h48
    refine (hk k (lt_of hko) ?_ ?_ ?_).trans hko
    · intro e
      rw [e, hR] at hko
      simp at hko
      exact h75 hko.2.symm
    · intro e
      rw [e, S.ch] at hko
      cases hko
    · intro e
      have e' : k = g2 := by simpa [Value.ownBlock] using e
      rcases h48 with h48 | h48
      · subst e'
        rcases S.own.2 with ⟨hv, _⟩ | ⟨g', cap', cur', hv, hgB, hgr, _⟩
        · cases hv
        · simp only [Value.slice.injEq, Option.some.injEq, Addr.mk.injEq] at hv
          rw [← hv.1.1, hko] at hgr
          simp at hgr
          exact h48 hgr.2
      · exact h48 e'
  refine ⟨hb, S.pl, S.ql, ne S.row1 (by decide) (.inl (by decide)), fun j b hj => ne (S.el j b hj) (by decide) (.inl (by decide)), ne S.row3 (by decide) (.inr hg), hs, ?_, ne S.wkr (by decide) (.inl (by decide)), hc, S.hR, S.hcb⟩
  rw [show (ptrs qs ++ [ptr wk]).length = m + 1 by simp [hl]]
  exact ho

end Go.Proofs.Ybulkdiuy.lawS5497AWhole
