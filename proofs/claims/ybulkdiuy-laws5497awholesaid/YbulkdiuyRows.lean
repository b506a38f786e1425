/-
  No cell of these rows narrows 'for every input' (looked for: loops, veiled, ifaces, maps, wideKeys, modest, calm, conditions, laid).
  DERIVED. THE GIVEN ROWS OF THIS SEAT. 3 by the template 'for every input the law returns true; each argument reads behind the call as it read before'; 0 by the template 'total and deterministic' (their statements: YbulkdiuyTotals.lean).
  GIVEN WITH THE SEED: the statements are not yours to turn. If you find one false, say at which input.
  Laid BY PROGRAM, IN A SANDBOX (cutbox-rows.mjs): the forced cells as the released guide's own fill.sh prints them over the translation 642732571fc344c9… (all of the seat's roots in one cut). By AI agents, Wed Nov 11 2026. No macro, syntax, notation, axiom, sorry.
-/
import Derived.Test.YbulkdiuyChecked
import GoSem.Claim
import GoSem.ClaimJoined
import GoSem.ClaimMapViews
import Derived.JoinedTies
import Derived.KernelRfl
namespace Go.Proofs.Ybulkdiuy
/- THE CELL 'sum', in the pinned program and in every row, IS THE sha256 OF THE DUMP (.gsa) THAT YbulkdiuyProg.lean LOADS. Nothing in Lean hashes anything: it is a label: what it is worth is what the hold of that sum in a sandbox is worth. -/
noncomputable def Yba.pinned : Pinned := { name := "ybulkdiuy", sum := "642732571fc344c9ca7a49e5c4bf36b365f2bbe66c9cc63741ca5edada62fa95", checked := Yba.checked }
namespace Rows
def none {H : Type} : Left H := { results := [], args := [] }

/-- 'librota.LawS5497AWhole': WHATEVER THE INPUT: true; the input reads as it did. -/
def lawS5497AWholeSpec : ChangeSpec := { name := "lawS5497AWhole", fn := fun _ => fun
  | [d1, d2, d3, d4, d5] => { results := [.lit (.bool true)], args := [d1, d2, d3, d4, d5] }
  | _ => none }
def lawS5497AWholeRow : OpenClaim := { program := "ybulkdiuy", sum := "642732571fc344c9ca7a49e5c4bf36b365f2bbe66c9cc63741ca5edada62fa95", func := "example.com/librota/librota.LawS5497AWhole", spec := "lawS5497AWhole", inPlace := ["(*internal/sync.Mutex).Lock", "internal/race.Disable", "sync/atomic.CompareAndSwapInt32", "internal/race.Enable", "internal/race.Acquire", "(*internal/sync.Mutex).lockSlow", "internal/sync.runtime_canSpin", "internal/sync.runtime_doSpin", "internal/sync.throw", "internal/sync.runtime_nanotime", "internal/sync.runtime_SemacquireMutex", "sync/atomic.AddInt32", "(*internal/sync.Mutex).Unlock", "internal/race.ReleaseMerge", "(*internal/sync.Mutex).unlockSlow", "internal/sync.fatal", "internal/sync.runtime_Semrelease", "(*internal/sync.Mutex).TryLock"], apart := false }
def LawS5497AWholeSaid : Prop := lawS5497AWholeRow.holds Yba.pinned (OpenSpec.ofChange lawS5497AWholeSpec)

/-- ITS FALSE NEIGHBOUR: 'it returns false'. Refute it at one input. -/
def lawS5497AWholeWrong : ChangeSpec := { name := "lawS5497AWhole", fn := fun _ => fun
  | [d1, d2, d3, d4, d5] => { results := [.lit (.bool false)], args := [d1, d2, d3, d4, d5] }
  | _ => none }
def LawS5497AWholeWrongFalsely : Prop := lawS5497AWholeRow.holds Yba.pinned (OpenSpec.ofChange lawS5497AWholeWrong)

/-- 'sim.LawS5497BWhole': WHATEVER THE INPUT: true; the input reads as it did. -/
def lawS5497BWholeSpec : ChangeSpec := { name := "lawS5497BWhole", fn := fun _ => fun
  | [d1, d2, d3, d4] => { results := [.lit (.bool true)], args := [d1, d2, d3, d4] }
  | _ => none }
def lawS5497BWholeRow : OpenClaim := { program := "ybulkdiuy", sum := "642732571fc344c9ca7a49e5c4bf36b365f2bbe66c9cc63741ca5edada62fa95", func := "example.com/librota/librota/internal/sim.LawS5497BWhole", spec := "lawS5497BWhole", unfollowed := true, recurses := true, apart := false }
def LawS5497BWholeSaid : Prop := lawS5497BWholeRow.holds Yba.pinned (OpenSpec.ofChange lawS5497BWholeSpec)

/-- ITS FALSE NEIGHBOUR: 'it returns false'. Refute it at one input. -/
def lawS5497BWholeWrong : ChangeSpec := { name := "lawS5497BWhole", fn := fun _ => fun
  | [d1, d2, d3, d4] => { results := [.lit (.bool false)], args := [d1, d2, d3, d4] }
  | _ => none }
def LawS5497BWholeWrongFalsely : Prop := lawS5497BWholeRow.holds Yba.pinned (OpenSpec.ofChange lawS5497BWholeWrong)

/-- 'policy.LawS5497CWhole': WHATEVER THE INPUT: true; the input reads as it did. -/
def lawS5497CWholeSpec : ChangeSpec := { name := "lawS5497CWhole", fn := fun _ => fun
  | [d1, d2, d3, d4] => { results := [.lit (.bool true)], args := [d1, d2, d3, d4] }
  | _ => none }
def lawS5497CWholeRow : OpenClaim := { program := "ybulkdiuy", sum := "642732571fc344c9ca7a49e5c4bf36b365f2bbe66c9cc63741ca5edada62fa95", func := "example.com/librota/librota/internal/policy.LawS5497CWhole", spec := "lawS5497CWhole", apart := false }
def LawS5497CWholeSaid : Prop := lawS5497CWholeRow.holds Yba.pinned (OpenSpec.ofChange lawS5497CWholeSpec)

/-- ITS FALSE NEIGHBOUR: 'it returns false'. Refute it at one input. -/
def lawS5497CWholeWrong : ChangeSpec := { name := "lawS5497CWhole", fn := fun _ => fun
  | [d1, d2, d3, d4] => { results := [.lit (.bool false)], args := [d1, d2, d3, d4] }
  | _ => none }
def LawS5497CWholeWrongFalsely : Prop := lawS5497CWholeRow.holds Yba.pinned (OpenSpec.ofChange lawS5497CWholeWrong)

end Rows
end Go.Proofs.Ybulkdiuy
