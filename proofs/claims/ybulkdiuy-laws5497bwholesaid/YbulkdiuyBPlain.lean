/-
  THE PLAIN LAW OF LawS5497BWhole: the earliest of a list of candidates. No Go in sight but int64's wrap.
-/
import Derived.RowKit
namespace Go.Proofs.Ybulkdiuy.lawS5497BWhole
open Go.RowKit

/-- The earliest so far, and one instant more. -/
def ear (o : Option Int) (t : Int) : Option Int :=
  match o with
  | none => some t
  | some a => if t < a then some t else some a

def ears (o : Option Int) (l : List Int) : Option Int := l.foldl ear o

theorem ears_append (o : Option Int) (l m : List Int) : ears o (l ++ m) = ears (ears o l) m := List.foldl_append
theorem ears_snoc (o : Option Int) (l : List Int) (t : Int) : ears o (l ++ [t]) = ear (ears o l) t := by simp [ears]

theorem ear_some (o : Option Int) (t : Int) : (ear o t).isSome = true := by
  unfold ear
  cases o with
  | none => rfl
  | some a => simp only []; split <;> rfl

theorem ears_some (l : List Int) : (ears none l).isSome = decide (0 < l.length) := by
  rcases List.eq_nil_or_concat l with h | ⟨m, t, h⟩
  · subst h; rfl
  · subst h
    rw [List.concat_eq_append, ears_snoc, ear_some]
    simp

/-- Does a call that began at b and ends at e pass the age us behind now? -/
def hit (now b e us : Int) : Bool := decide (us < wrap64 (e - b)) && decide (now < wrap64 (b + us))
def hitL (now b e us : Int) : List Int := if hit now b e us then [wrap64 (b + us)] else []
def rcs (now : Int) (rb re : Nat → Int) : Nat → List Int
  | 0 => []
  | k + 1 => rcs now rb re k ++ hitL now (rb k) (re k) 20 ++ hitL now (rb k) (re k) 10000
def heads (n1 : Nat) (z1 : Nat → Int) : List Int := if 0 < n1 then [z1 0] else []
def cands (now : Int) (n1 n2 n3 : Nat) (z1 z2 rb re : Nat → Int) : List Int := heads n1 z1 ++ heads n2 z2 ++ rcs now rb re n3

theorem hitL_len (now b e us : Int) : (hitL now b e us).length ≤ 1 := by unfold hitL; split <;> simp
theorem rcs_len (now : Int) (rb re : Nat → Int) (k : Nat) : (rcs now rb re k).length ≤ 2 * k := by
  induction k with
  | zero => simp [rcs]
  | succ k ih =>
    have h1 := hitL_len now (rb k) (re k) 20
    have h2 := hitL_len now (rb k) (re k) 10000
    simp only [rcs, List.length_append]
    omega
theorem heads_len (n : Nat) (z : Nat → Int) : (heads n z).length ≤ 1 := by unfold heads; split <;> simp

end Go.Proofs.Ybulkdiuy.lawS5497BWhole
