/-
  LawS5502CWhole: what the tails of the walk share. A tail is the code from one region on; 'suffix' finds it in the function's own body.
-/
import Derived.Test.YbulkdixqCHeap
import Derived.Deep.LoopGhost
import Derived.Deep.QuietTactic
import Derived.BigQuiet
import Derived.BigGuardPart
import Derived.Deep.DeepCutAuto
import Derived.Deep.CutBlock
import Derived.Laws.EntriesVeiled
namespace Go.Proofs.Ybulkdixq.lawS5502CWhole
open Go.RowKit Go.Maps Go.Deep

/-- The number of the region that a code begins with. -/
def firstReg : Code → Option Nat
  | .region id _ _ => some id
  | .seq a _ => firstReg a
  | .block _ c => firstReg c
  | .loop c => firstReg c
  | .scope c => firstReg c
  | _ => none
/-- The code from the part on that begins with region r. -/
def suffix (r : Nat) : Code → Option Code
  | .seq a b => if firstReg a = some r then some (.seq a b) else suffix r b
  | _ => none

/-- The two rows, the struct, the map behind the delete. -/
structure S5 (w : World) (dk dv : List Int) (vk vv : Value) (R M n : Nat) (D : DataW Unit) (W : World) : Prop where
  two : Two w dk dv vk vv W
  box : Box W R 0 0 (.map (some M))
  own : W.ownsMap Yba.prog 3 (plainElem Yba.prog 3) M n D

theorem S5.drewN {w : World} {dk dv : List Int} {vk vv : Value} {R M n : Nat} {D : DataW Unit} {W : World} (h : S5 w dk dv vk vv R M n D W) (q : Nat) : S5 w dk dv vk vv R M n D (W.drewN q) :=
  ⟨⟨own_stay h.two.ok (fun _ _ => rfl), own_stay h.two.ov (fun _ _ => rfl), h.two.apart, below_drewN h.two.below q⟩, h.box, h.own⟩

/-- The element that stands for a key that is not there is the zero. -/
theorem S5.gone0 {w : World} {dk dv : List Int} {vk vv : Value} {R M n : Nat} {D : DataW Unit} {t : Int} {W : World} (h : S5 w dk dv vk vv R M n (D.del (kl t)) W) (hw : (Lit.int .i64 t).wf = true) :
    (Instr.lookup 23 (.map (some M)) (.int .i64 t) true).run Yba.prog W = .ok (.tuple #[.int .i64 0, .bool false]) W := by
  obtain ⟨v, ps, hrun, hv⟩ := h.own.look_ok law3 Yba.underlying23 (zero3 _) (plainElem_int Yba.underlying3 (by decide)) (keyOf_int_mk Yba.underlying3 hw)
  obtain ⟨a, rfl, ha, _⟩ := plainElem_int_inv Yba.underlying3 hv
  have e2 : Maps.has (D.del (kl t)) (kl t) = false := has_del_same
  simp only [Prod.mk.injEq] at ha
  have e3 : el 0 = el a := (atKey_del_same (D := D) (k := kl t) (el 0)).symm.trans ha.1
  simp only [DataW.lit.injEq, Lit.int.injEq, true_and] at e3
  subst e3
  simp only [kl] at e2
  rw [e2] at hrun
  exact hrun

/-- A look-up of a key that stays. -/
theorem S5.look {w : World} {dk dv : List Int} {vk vv : Value} {R M n : Nat} {D : DataW Unit} {t : Int} {W : World} (h : S5 w dk dv vk vv R M n (D.del (kl t)) W) (T : Tied dk dv D) {j : Nat} {x y : Int} (hx : dk[j]? = some x) (hy : dv[j]? = some y) (hne : x ≠ t) (hw : (Lit.int .i64 x).wf = true) :
    (Instr.lookup 23 (.map (some M)) (.int .i64 x) true).run Yba.prog W = .ok (.tuple #[.int .i64 y, .bool true]) W := by
  obtain ⟨v, ps, hrun, hv⟩ := h.own.look_ok law3 Yba.underlying23 (zero3 _) (plainElem_int Yba.underlying3 (by decide)) (keyOf_int_mk Yba.underlying3 hw)
  have e1 : (D.del (kl t)).atKey (kl x) (el 0) = el y := (atKey_del_other (kl_ne hne) _).trans (T.at' j x y hx hy)
  have e2 : Maps.has (D.del (kl t)) (kl x) = true := by
    rw [has_del_other (kl_ne hne), T.has x]
    simp [List.mem_of_getElem? hx]
  obtain ⟨a, rfl, ha, _⟩ := plainElem_int_inv Yba.underlying3 hv
  simp only [Prod.mk.injEq] at ha
  have e3 : el y = el a := e1.symm.trans ha.1
  simp only [DataW.lit.injEq, Lit.int.injEq, true_and] at e3
  subst e3
  rw [hrun]
  simp only [kl] at e2
  rw [e2]
end Go.Proofs.Ybulkdixq.lawS5502CWhole
