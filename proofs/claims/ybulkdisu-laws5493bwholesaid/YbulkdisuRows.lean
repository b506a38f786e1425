/-
  No cell of these rows narrows 'for every input' (looked for: loops, veiled, ifaces, maps, wideKeys, modest, calm, conditions, laid).
  DERIVED. THE GIVEN ROWS OF THIS SEAT. 2 by the template 'for every input the law returns true; each argument reads behind the call as it read before'; 0 by the template 'total and deterministic' (their statements: YbulkdisuTotals.lean).
  GIVEN WITH THE SEED: the statements are not yours to turn. If you find one false, say at which input.
  Laid BY PROGRAM, IN A SANDBOX (cutbox-rows.mjs): the forced cells as the released guide's own fill.sh prints them over the translation 478b01c810f40441… (all of the seat's roots in one cut). By AI agents, Wed Nov 11 2026. No macro, syntax, notation, axiom, sorry.
-/
import Derived.Test.YbulkdisuChecked
import GoSem.Claim
import GoSem.ClaimJoined
import GoSem.ClaimMapViews
import Derived.JoinedTies
import Derived.KernelRfl
namespace Go.Proofs.Ybulkdisu
/- THE CELL 'sum', in the pinned program and in every row, IS THE sha256 OF THE DUMP (.gsa) THAT YbulkdisuProg.lean LOADS. Nothing in Lean hashes anything: it is a label: what it is worth is what the hold of that sum in a sandbox is worth. -/
noncomputable def Yba.pinned : Pinned := { name := "ybulkdisu", sum := "478b01c810f40441bbd26fdeb3b9b602163113afb01259867eb7588705eec578", checked := Yba.checked }
namespace Rows
def none {H : Type} : Left H := { results := [], args := [] }

/-- 'reprieve.LawS5493BWhole': WHATEVER THE INPUT: true; the input reads as it did. -/
def lawS5493BWholeSpec : ChangeSpec := { name := "lawS5493BWhole", fn := fun _ => fun
  | [d1, d2] => { results := [.lit (.bool true)], args := [d1, d2] }
  | _ => none }
def lawS5493BWholeRow : OpenClaim := { program := "ybulkdisu", sum := "478b01c810f40441bbd26fdeb3b9b602163113afb01259867eb7588705eec578", func := "example.com/reprieve/reprieve.LawS5493BWhole", spec := "lawS5493BWhole", apart := false }
def LawS5493BWholeSaid : Prop := lawS5493BWholeRow.holds Yba.pinned (OpenSpec.ofChange lawS5493BWholeSpec)

/-- ITS FALSE NEIGHBOUR: 'it returns false'. Refute it at one input. -/
def lawS5493BWholeWrong : ChangeSpec := { name := "lawS5493BWhole", fn := fun _ => fun
  | [d1, d2] => { results := [.lit (.bool false)], args := [d1, d2] }
  | _ => none }
def LawS5493BWholeWrongFalsely : Prop := lawS5493BWholeRow.holds Yba.pinned (OpenSpec.ofChange lawS5493BWholeWrong)

/-- 'reprieve.LawS5493CWhole': WHATEVER THE INPUT: true; the input reads as it did. -/
def lawS5493CWholeSpec : ChangeSpec := { name := "lawS5493CWhole", fn := fun _ => fun
  | [d1, d2, d3, d4, d5, d6, d7, d8, d9, d10] => { results := [.lit (.bool true)], args := [d1, d2, d3, d4, d5, d6, d7, d8, d9, d10] }
  | _ => none }
def lawS5493CWholeRow : OpenClaim := { program := "ybulkdisu", sum := "478b01c810f40441bbd26fdeb3b9b602163113afb01259867eb7588705eec578", func := "example.com/reprieve/reprieve.LawS5493CWhole", spec := "lawS5493CWhole", unfollowed := true, recurses := true, apart := false }
def LawS5493CWholeSaid : Prop := lawS5493CWholeRow.holds Yba.pinned (OpenSpec.ofChange lawS5493CWholeSpec)

/-- ITS FALSE NEIGHBOUR: 'it returns false'. Refute it at one input. -/
def lawS5493CWholeWrong : ChangeSpec := { name := "lawS5493CWhole", fn := fun _ => fun
  | [d1, d2, d3, d4, d5, d6, d7, d8, d9, d10] => { results := [.lit (.bool false)], args := [d1, d2, d3, d4, d5, d6, d7, d8, d9, d10] }
  | _ => none }
def LawS5493CWholeWrongFalsely : Prop := lawS5493CWholeRow.holds Yba.pinned (OpenSpec.ofChange lawS5493CWholeWrong)

end Rows
end Go.Proofs.Ybulkdisu
