import Derived.Test.YbulkdisuRows
import Derived.WalkKit
import Derived.WalkLawsBesides
import Derived.Deep.QuietTactic
import Derived.BigQuiet
import Derived.Laws.EntriesVeiled
import Derived.Deep.OwnRows
namespace Go.Proofs.Ybulkdisu.lawS5493BWhole
open Go.RowKit
set_option maxHeartbeats 400000 in
theorem put_any (hb s n : Nat) (k : Nat) (due : Int) (w : World) (hk : k < n) (v0 v1 v6 : Value)
   (h0 : w.cell? ⟨hb, k * 2, none⟩ = some v0) (h1 : w.cell? ⟨hb, k * 2 + 1, none⟩ = some v1) (h6 : w.cell? ⟨s, 12, none⟩ = some v6)
   (f0 : w.frozen? ⟨hb, k * 2, none⟩ = false) (f1 : w.frozen? ⟨hb, k * 2 + 1, none⟩ = false) (f6 : w.frozen? ⟨s, 12, none⟩ = false) (hhb : hb < w.heap.size) (hs : s < w.heap.size) (hne : hb ≠ s) :
    Calls Yba.prog 8 #[.slice (some ⟨hb, 0, none⟩) n n, .int .i64 k, .agg #[.int .i64 due, .pointer (some ⟨s, 0, none⟩)]] w fun e w' => e = .returned (.tuple #[]) ∧
      ((((w.setCell ⟨hb, k * 2, none⟩ (.int .i64 due)).setCell ⟨hb, k * 2 + 1, none⟩ (.pointer (some ⟨s, 0, none⟩))).setCell ⟨s, 12, none⟩ (.int .i64 k)).alloc (.cells #[.int .i64 due, .pointer (some ⟨s, 0, none⟩)] 46)) = w' := by
  go_enter Yba.func8, Yba.ntmps8
  go_wp2
  go_end0
  exact ⟨rfl, rfl⟩
end Go.Proofs.Ybulkdisu.lawS5493BWhole
