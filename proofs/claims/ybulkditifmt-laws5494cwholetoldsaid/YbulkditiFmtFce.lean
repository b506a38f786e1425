import Derived.Test.YbulkditiFmtShelf
import Derived.Test.YbulkditiFmtItoa
import Derived.WalkKit
import Derived.WalkSpells
import Derived.WalkLawsBesides
import Derived.Stop.CallBack
import Derived.Stop.IfaceNil
import Derived.Lib.AppendIntMem
import Derived.Deep.RegionWith
import Derived.Deep.Heap
import GoSem.ClaimData
namespace Go.Proofs.YbulkditiFmt
open Go.RowKit Go.Extern.Stop Go.Stop Go.Extern

theorem call8 (args : Array Value) (w : World) : (callFunc 8 args).run Ybaf.prog w = ((FmtStop.sprintf #[9, 76] #[9] args).run Ybaf.prog w).andThen fun v w' => .ok (.value v) w' :=
  run_callFunc_extern Ybaf.func8 (by kernel_rfl) (by kernel_rfl) (by kernel_rfl) (by kernel_rfl) args w
theorem fguard (name : String) (w : World) : (FmtStop.guard name).run Ybaf.prog w = .ok () w := by kernel_rfl

def fewer : ByteArray := ⟨#[109, 105, 115, 115, 105, 110, 103, 32, 102, 105, 101, 108, 100, 58, 32, 116, 104, 101, 32, 114, 111, 119, 32, 104, 97, 115, 32, 102, 101, 119, 101, 114, 32, 102, 105, 101, 108, 100, 115, 32, 116, 104, 97, 110, 32, 116, 104, 101, 32, 104, 101, 97, 100, 101, 114, 39, 115, 32, 37, 100]⟩

theorem fmt1 : FmtStop.printed? ⟨#[109, 105, 115, 115, 105, 110, 103, 32, 102, 105, 101, 108, 100, 58, 32, 116, 104, 101, 32, 114, 111, 119, 32, 104, 97, 115, 32, 102, 101, 119, 101, 114, 32, 102, 105, 101, 108, 100, 115, 32, 116, 104, 97, 110, 32, 116, 104, 101, 32, 104, 101, 97, 100, 101, 114, 39, 115, 32, 37, 100]⟩ 1 = some [(0, 100, false)] := by kernel_rfl
theorem fmt1r (w : World) : (FmtDoors.printed ⟨#[109, 105, 115, 115, 105, 110, 103, 32, 102, 105, 101, 108, 100, 58, 32, 116, 104, 101, 32, 114, 111, 119, 32, 104, 97, 115, 32, 102, 101, 119, 101, 114, 32, 102, 105, 101, 108, 100, 115, 32, 116, 104, 97, 110, 32, 116, 104, 101, 32, 104, 101, 97, 100, 101, 114, 39, 115, 32, 37, 100]⟩ 1).run Ybaf.prog w = .ok [(0, 100, false)] w := by kernel_rfl
theorem fmt2 : FmtStop.printed? ⟨#[101, 120, 116, 114, 97, 32, 102, 105, 101, 108, 100, 58, 32, 116, 104, 101, 32, 114, 111, 119, 32, 104, 97, 115, 32, 109, 111, 114, 101, 32, 102, 105, 101, 108, 100, 115, 32, 116, 104, 97, 110, 32, 116, 104, 101, 32, 104, 101, 97, 100, 101, 114, 39, 115, 32, 37, 100]⟩ 1 = some [(0, 100, false)] := by kernel_rfl
theorem fmt2r (w : World) : (FmtDoors.printed ⟨#[101, 120, 116, 114, 97, 32, 102, 105, 101, 108, 100, 58, 32, 116, 104, 101, 32, 114, 111, 119, 32, 104, 97, 115, 32, 109, 111, 114, 101, 32, 102, 105, 101, 108, 100, 115, 32, 116, 104, 97, 110, 32, 116, 104, 101, 32, 104, 101, 97, 100, 101, 114, 39, 115, 32, 37, 100]⟩ 1).run Ybaf.prog w = .ok [(0, 100, false)] w := by kernel_rfl
def shape3 : List UInt8 := [5, 3, 0, 0, 0, 0, 0, 0, 0, 105, 110, 116]
theorem op3_100 (name : String) (x : Int) (w : World) : (FmtStop.operand name false 100 false (.iface 3 (.int .i64 x))).run Ybaf.prog w = .ok (shape3, Go.Extern.Stop.digits 8 (x % 2 ^ 64).toNat) w := by kernel_rfl
attribute [local go_sem] call8 fguard fmt1 fmt1r fmt2 fmt2r op3_100

theorem blk_new2 (w : World) (o1 o2 : Obj) : ((w.alloc o1).alloc o2).drew.drew.heap[w.heap.size + 1]? = some o2 := by
  have h := Go.Deep.blk_alloc_new (w.alloc o1) o2
  rw [Go.Deep.nblk_alloc] at h
  exact h

theorem endA {w W w3 : World} (o : Obj) (hW : Below w.heap.size w W) (hb3 : Below W.heap.size W w3) :
    (w3.alloc o).drew.heap[w3.heap.size]? = some o ∧ w.heap.size ≤ w3.heap.size ∧ Below w.heap.size w (w3.alloc o).drew := by
  have h1 := hW.size
  have h2 := hb3.size
  exact ⟨Go.Deep.blk_alloc_new w3 o, by omega, ((hW.trans (hb3.mono h1)).alloc (by omega) _).drew⟩

theorem endB {w W w3 : World} (o1 o2 : Obj) (hW : Below w.heap.size w W) (hb3 : Below W.heap.size W w3) :
    ((w3.alloc o1).alloc o2).drew.heap[w3.heap.size + 1]? = some o2 ∧ w.heap.size ≤ w3.heap.size + 1 ∧ Below w.heap.size w ((w3.alloc o1).alloc o2).drew := by
  have h1 := hW.size
  have h2 := hb3.size
  have h := Go.Deep.blk_alloc_new (w3.alloc o1) o2
  rw [Go.Deep.nblk_alloc] at h
  exact ⟨h, by omega, (((hW.trans (hb3.mono h1)).alloc (by omega) _).alloc (by rw [Go.Deep.nblk_alloc]; omega) _).drew⟩

set_option maxHeartbeats 800000 in
set_option maxRecDepth 100000 in
theorem fce_lt (F : Interp) (w : World) (sp : Nat) (nm : ByteArray) (line : Int) (k n b off c : Nat) (s : ByteArray) (hk : k < n) (hF : F.answers w.tape)
    (hh : w.cell? ⟨b, off + k, none⟩ = some (.string s)) (hs0 : w.cell? ⟨sp, 0, none⟩ = some (.string nm)) (hb : b < w.heap.size) (hsp : sp < w.heap.size) :
    Calls Ybaf.prog 5 #[.pointer (some ⟨sp, 0, none⟩), .int .i64 line, .int .i64 (k : Int), .slice (some ⟨b, off, none⟩) n c] w fun e w' => ∃ x msg, e = .returned (.pointer (some ⟨x, 0, none⟩)) ∧
      w'.heap[x]? = some (.cells #[.string nm, .string ⟨#[]⟩, .int .i64 line, .string s, .string msg, .slice none 0 0] 33 (0, 0)) ∧ w.heap.size ≤ x ∧ Below w.heap.size w w' := by
  have hF' := answers_open hF
  have hkn : (k : Int) < (n : Int) := by omega
  go_enter Ybaf.func5, Ybaf.ntmps5
  go_wp2_with fail
  go_region
  all_goals go_wp2_with fail
  all_goals go_ret
  all_goals exact ⟨_, _, rfl, blk_new2 _ _ _, by omega, (((Below.refl _ w).alloc (Nat.le_refl _) _).alloc (by simp) _).drew.drew⟩

set_option maxHeartbeats 800000 in
theorem fieldName_any (a : Option Addr) (n c : Nat) (hn : n ≤ 1048576) (w : World) (htab : Lib.TabIs Ybaf.prog w Ybaf.powName .u64 Lib.pow10Tab) :
    Calls Ybaf.prog 9 #[.int .i64 (n : Int), .slice a n c] w fun e w' => e = .returned (.string ⟨(Lib.itoa ((n : Int) + 1)).toArray⟩) ∧ Below w.heap.size w w' := by
  go_enter Ybaf.func9, Ybaf.ntmps9
  go_wp2_with (go_at_call 10; refine (Ybaf.strconv_Itoa ((n : Int) + 1) (by omega) (by omega) _ htab).mono ?_; rintro e w' ⟨rfl, k, os, rfl⟩)
  go_ret
  exact ⟨rfl, Lib.below_grow _ _ (Nat.le_refl _) _ _⟩

set_option maxHeartbeats 1600000 in
set_option maxRecDepth 100000 in
theorem fce_ge (F : Interp) (w : World) (sp : Nat) (nm : ByteArray) (line : Int) (k : Int) (a : Option Addr) (n c : Nat) (hk : (n : Int) ≤ k) (hn : n ≤ 1048576) (hF : F.answers w.tape) (htab : Lib.TabIs Ybaf.prog w Ybaf.powName .u64 Lib.pow10Tab)
    (hs0 : w.cell? ⟨sp, 0, none⟩ = some (.string nm)) (hsp : sp < w.heap.size) :
    Calls Ybaf.prog 5 #[.pointer (some ⟨sp, 0, none⟩), .int .i64 line, .int .i64 k, .slice a n c] w fun e w' => ∃ x msg, e = .returned (.pointer (some ⟨x, 0, none⟩)) ∧
      w'.heap[x]? = some (.cells #[.string nm, .string ⟨#[]⟩, .int .i64 line, .string ⟨(Lib.itoa ((n : Int) + 1)).toArray⟩, .string msg, .slice none 0 0] 33 (0, 0)) ∧ w.heap.size ≤ x ∧ Below w.heap.size w w' := by
  have hF' := answers_open hF
  have HT : Hid (Lib.TabIs Ybaf.prog w Ybaf.powName .u64 Lib.pow10Tab) := htab
  clear htab
  go_enter Ybaf.func5, Ybaf.ntmps5
  go_wp2_with fail
  go_region_with (go_at_call 9; refine Calls.mono (fieldName_any a n c hn _ (by first | exact HT.out | exact Lib.tabIs_alloc HT.out _)) ?_; rintro e w3 ⟨rfl, hb3⟩; have hF3 : ∀ i name reading k range, w3.tape i (.extern (word name reading k) range) = F name reading k := (by rw [hb3.tape]; exact hF'); have hn3 : w3.cell? ⟨sp, 0, none⟩ = some (.string nm) := ((hb3.cell (p := ⟨sp, 0, none⟩) (by simp; try omega)).trans (by go_simp)); have hsp3 : sp < w3.heap.size := (by have h9 := hb3.size; simp at h9; omega); have ho3 := fun (h : w.heap.size < _) => hb3.cell (p := ⟨w.heap.size, 0, none⟩) h)
  all_goals go_wp2_with fail
  all_goals go_ret
  all_goals first | exact ⟨_, _, rfl, endB (W := w.drew) _ _ (Below.refl _ _).drew (by assumption)⟩ | exact ⟨_, _, rfl, endA (W := (w.alloc (.cells #[.iface 3 (.int .i64 (n : Int))] 20)).drew) _ ((Below.refl _ _).alloc (Nat.le_refl _) _).drew (by assumption)⟩
end Go.Proofs.YbulkditiFmt
