import Derived.Test.YbulkdisuRows
import Derived.WalkKit
import Derived.WalkLawsBesides
import Derived.Deep.QuietTactic
import Derived.BigQuiet
import Derived.Laws.EntriesVeiled
import Derived.Lib.Builder
namespace Go.Proofs.Ybulkdisu.lawS5493CWhole
open Go.RowKit

theorem run_store_float (P : Program) (w : World) (a : Addr) (m : Mode) (k : FloatKind) (n : Nat) : (store a (.float k n) m).run P w = stored P w a (.float k n) m := run_store P w a _ m rfl
theorem run_equalIn_f0 (w : World) : (Op.equalIn 9999 52 (.float .f64 0) (.float .f64 0)).run Yba.prog w = .ok true w := by kernel_rfl
theorem info55 : (Yba.prog.info? 55).isSome = true := by kernel_rfl
theorem run_neq_33 (w : World) (a : Addr) : (binOp .neq 33 (.pointer (some a)) (.pointer (some a))).run Yba.prog w = .ok (.bool false) w := by
  obtain ⟨j, hj⟩ := Option.isSome_iff_exists.1 info55
  exact Lib.run_neq_ptr_same w a Yba.underlying33 hj
attribute [local go_sem] run_store_float run_equalIn_f0 run_neq_33

set_option maxRecDepth 100000 in
set_option maxHeartbeats 1600000 in
theorem walk1 (a0 : Int) (a1 : Int) (a2 : Int) (a3 : Int) (a4 : Int) (a5 : Int) (a6 : Bool) (a7 : Bool) (a8 : Int) (a9 : Int) (w : World) (h : a8 = 1) :
    Calls Yba.prog 4 #[.int .i64 a0, .int .i64 a1, .int .i64 a2, .int .i64 a3, .int .i64 a4, .int .i64 a5, .bool a6, .bool a7, .int .i64 a8, .int .i64 a9] w fun e w' => e = .returned (.bool true) ∧ Below w.heap.size w w' := by
  subst h
  go_enter Yba.func4, Yba.ntmps4
  go_wp2_with (go_at_call 7; go_in)
  go_quiet (fail)
  go_wp2_with (go_at_call 6; go_in)
  go_quiet (fail)
  go_wp2
  go_ret
  refine ⟨by simp, below_drewN ?_ _⟩
  refine Below.alloc ?_ (by simp; omega) _
  refine Below.alloc ?_ (by simp; omega) _
  refine Below.alloc ?_ (by simp; omega) _
  refine Below.alloc ?_ (by simp; omega) _
  refine Below.alloc ?_ (by simp; omega) _
  refine Below.alloc ?_ (by simp; omega) _
  refine Below.alloc ?_ (by simp) _
  exact (Below.refl _ _).alloc (Nat.le_refl _) _

set_option maxRecDepth 100000 in
set_option maxHeartbeats 1600000 in
theorem walk2 (a0 : Int) (a1 : Int) (a2 : Int) (a3 : Int) (a4 : Int) (a5 : Int) (a6 : Bool) (a7 : Bool) (a8 : Int) (a9 : Int) (w : World) (h : (a8 == 1) = false) (h2 : a4 = a5) :
    Calls Yba.prog 4 #[.int .i64 a0, .int .i64 a1, .int .i64 a2, .int .i64 a3, .int .i64 a4, .int .i64 a5, .bool a6, .bool a7, .int .i64 a8, .int .i64 a9] w fun e w' => e = .returned (.bool true) ∧ Below w.heap.size w w' := by
  subst h2
  go_enter Yba.func4, Yba.ntmps4
  go_wp2_with (go_at_call 7; go_in)
  go_quiet (fail)
  go_wp2_with (go_at_call 6; go_in)
  go_quiet (fail)
  go_wp2
  go_ret
  refine ⟨by simp, below_drewN ?_ _⟩
  refine Below.alloc ?_ (by simp; omega) _
  refine Below.alloc ?_ (by simp; omega) _
  refine Below.alloc ?_ (by simp; omega) _
  refine Below.alloc ?_ (by simp; omega) _
  refine Below.alloc ?_ (by simp; omega) _
  refine Below.alloc ?_ (by simp; omega) _
  refine Below.alloc ?_ (by simp) _
  exact (Below.refl _ _).alloc (Nat.le_refl _) _

set_option maxRecDepth 100000 in
set_option maxHeartbeats 1600000 in
theorem walk3 (a0 : Int) (a1 : Int) (a2 : Int) (a3 : Int) (a4 : Int) (a5 : Int) (a6 : Bool) (a7 : Bool) (a8 : Int) (a9 : Int) (w : World) (h : (a8 == 1) = false) (h2 : (a4 == a5) = false) (h3 : a8 = a2) (h4 : a7 = false) :
    Calls Yba.prog 4 #[.int .i64 a0, .int .i64 a1, .int .i64 a2, .int .i64 a3, .int .i64 a4, .int .i64 a5, .bool a6, .bool a7, .int .i64 a8, .int .i64 a9] w fun e w' => e = .returned (.bool true) ∧ Below w.heap.size w w' := by
  subst h3 h4
  go_enter Yba.func4, Yba.ntmps4
  go_wp2_with (go_at_call 7; go_in)
  go_quiet (fail)
  go_wp2_with (go_at_call 6; go_in)
  go_quiet (fail)
  go_wp2
  go_ret
  refine ⟨by simp, below_drewN ?_ _⟩
  refine Below.alloc ?_ (by simp; omega) _
  refine Below.alloc ?_ (by simp; omega) _
  refine Below.alloc ?_ (by simp; omega) _
  refine Below.alloc ?_ (by simp; omega) _
  refine Below.alloc ?_ (by simp; omega) _
  refine Below.alloc ?_ (by simp; omega) _
  refine Below.alloc ?_ (by simp) _
  exact (Below.refl _ _).alloc (Nat.le_refl _) _

set_option maxRecDepth 100000 in
set_option maxHeartbeats 1600000 in
theorem walk4 (a0 : Int) (a1 : Int) (a2 : Int) (a3 : Int) (a4 : Int) (a5 : Int) (a6 : Bool) (a7 : Bool) (a8 : Int) (a9 : Int) (w : World) (h : (a8 == 1) = false) (h2 : (a4 == a5) = false) (h3 : a8 = a2) (h4 : a7 = true) :
    Calls Yba.prog 4 #[.int .i64 a0, .int .i64 a1, .int .i64 a2, .int .i64 a3, .int .i64 a4, .int .i64 a5, .bool a6, .bool a7, .int .i64 a8, .int .i64 a9] w fun e w' => e = .returned (.bool true) ∧ Below w.heap.size w w' := by
  subst h3 h4
  go_enter Yba.func4, Yba.ntmps4
  go_wp2_with (go_at_call 7; go_in)
  go_quiet (fail)
  go_wp2_with (go_at_call 6; go_in)
  go_quiet (fail)
  go_wp2
  go_ret
  refine ⟨by simp, below_drewN (Below.setCell (Below.setCell (Below.setCell (below_drewN ?_ _) (by simp; omega) _) (by simp; omega) _) (by simp; omega) _) _⟩
  refine Below.alloc ?_ (by simp; omega) _
  refine Below.alloc ?_ (by simp; omega) _
  refine Below.alloc ?_ (by simp; omega) _
  refine Below.alloc ?_ (by simp; omega) _
  refine Below.alloc ?_ (by simp; omega) _
  refine Below.alloc ?_ (by simp; omega) _
  refine Below.alloc ?_ (by simp) _
  exact (Below.refl _ _).alloc (Nat.le_refl _) _

set_option maxRecDepth 100000 in
set_option maxHeartbeats 1600000 in
theorem walk5 (a0 : Int) (a1 : Int) (a2 : Int) (a3 : Int) (a4 : Int) (a5 : Int) (a6 : Bool) (a7 : Bool) (a8 : Int) (a9 : Int) (w : World) (h : (a8 == 1) = false) (h2 : (a4 == a5) = false) (h3 : (a8 == a2) = false) :
    Calls Yba.prog 4 #[.int .i64 a0, .int .i64 a1, .int .i64 a2, .int .i64 a3, .int .i64 a4, .int .i64 a5, .bool a6, .bool a7, .int .i64 a8, .int .i64 a9] w fun e w' => e = .returned (.bool true) ∧ Below w.heap.size w w' := by
  go_enter Yba.func4, Yba.ntmps4
  go_wp2_with (go_at_call 7; go_in)
  go_quiet (fail)
  go_wp2_with (go_at_call 6; go_in)
  go_quiet (fail)
  go_wp2
  go_ret
  refine ⟨by simp, below_drewN (Below.setCell (Below.setCell (Below.setCell (below_drewN ?_ _) (by simp; omega) _) (by simp; omega) _) (by simp; omega) _) _⟩
  refine Below.alloc ?_ (by simp; omega) _
  refine Below.alloc ?_ (by simp; omega) _
  refine Below.alloc ?_ (by simp; omega) _
  refine Below.alloc ?_ (by simp; omega) _
  refine Below.alloc ?_ (by simp; omega) _
  refine Below.alloc ?_ (by simp; omega) _
  refine Below.alloc ?_ (by simp) _
  exact (Below.refl _ _).alloc (Nat.le_refl _) _
end Go.Proofs.Ybulkdisu.lawS5493CWhole
