/-
  THE PLAIN LAW OF LawS5502CWhole: a map kept in two lists (dk: the keys, each once; dv: the elements), beside the map as read.
-/
import Derived.Test.YbulkdixqRows
import Derived.Maps.OwnSet
import Derived.RowKit
namespace Go.Proofs.Ybulkdixq.lawS5502CWhole
open Go.RowKit Go.Maps

abbrev kl (x : Int) : Lit := .int .i64 x
abbrev el (y : Int) : DataW Unit := .lit (.int .i64 y)

theorem nodup_inj {l : List Int} (h : l.Nodup) {i j : Nat} {x : Int} (hi : l[i]? = some x) (hj : l[j]? = some x) : i = j := by
  obtain ⟨l1, e1⟩ := List.getElem?_eq_some_iff.1 hi
  obtain ⟨l2, e2⟩ := List.getElem?_eq_some_iff.1 hj
  have hp := List.pairwise_iff_getElem.1 h
  rcases Nat.lt_trichotomy i j with hlt | he | hlt
  · exact absurd (e1.trans e2.symm) (hp i j l1 l2 hlt)
  · exact he
  · exact absurd (e2.trans e1.symm) (hp j i l2 l1 hlt)

/-- dk, dv hold just what D holds. -/
structure Tied (dk dv : List Int) (D : DataW Unit) : Prop where
  nodup : dk.Nodup
  len : dv.length = dk.length
  tidy : Tidy D
  has : ∀ x, Maps.has D (kl x) = decide (x ∈ dk)
  at' : ∀ (j : Nat) (x y : Int), dk[j]? = some x → dv[j]? = some y → D.atKey (kl x) (el 0) = el y
  size : Maps.size D = dk.length

theorem Tied.nil : Tied [] [] (.map []) := ⟨List.nodup_nil, rfl, tidy_empty, fun x => by simp [Maps.has], fun j x y h => by simp at h, rfl⟩

theorem kl_ne {x y : Int} (h : x ≠ y) : kl x ≠ kl y := by intro e; simp [kl] at e; exact h e
theorem kl_key (x : Int) : WideAt.IsKeyLit (kl x) := by trivial

/-- The key is there: its element is written over. -/
theorem Tied.over {dk dv : List Int} {D : DataW Unit} (h : Tied dk dv D) {j : Nat} {k : Int} (hj : dk[j]? = some k) (v : Int) : Tied dk (dv.set j v) (D.put (kl k) (el v)) := by
  have hmem : k ∈ dk := List.mem_of_getElem? hj
  refine ⟨h.nodup, by simp [h.len], h.tidy.put (kl_key k) _, ?_, ?_, ?_⟩
  · intro x
    by_cases e : x = k
    · subst e
      rw [has_put_same h.tidy.isMap (kl_key x)]
      simp [hmem]
    · rw [has_put_other (kl_ne e)]
      exact h.has x
  · intro i x y hx hy
    by_cases e : i = j
    · subst e
      rw [hj] at hx
      cases hx
      have hlt : i < dv.length := by
        rw [h.len]; exact (List.getElem?_eq_some_iff.1 hj).1
      rw [List.getElem?_set_self hlt] at hy
      cases hy
      exact atKey_put_same h.tidy.isMap (kl_key k) _ _
    · rw [List.getElem?_set_ne (by omega)] at hy
      have hne : x ≠ k := by
        intro hxk
        subst hxk
        exact e (nodup_inj h.nodup hx hj)
      rw [atKey_put_other (kl_ne hne)]
      exact h.at' i x y hx hy
  · have := size_put h.tidy (k := kl k) (el v)
    rw [h.has k] at this
    simp [hmem] at this
    rw [this]; exact h.size

/-- The key is new. -/
theorem Tied.new {dk dv : List Int} {D : DataW Unit} (h : Tied dk dv D) {k : Int} (hk : k ∉ dk) (v : Int) : Tied (dk ++ [k]) (dv ++ [v]) (D.put (kl k) (el v)) := by
  refine ⟨?_, by simp [h.len], h.tidy.put (kl_key k) _, ?_, ?_, ?_⟩
  · rw [List.nodup_append]
    refine ⟨h.nodup, by simp, ?_⟩
    intro a ha b hb e
    simp at hb
    subst hb e
    exact hk ha
  · intro x
    by_cases e : x = k
    · subst e
      rw [has_put_same h.tidy.isMap (kl_key x)]
      simp
    · rw [has_put_other (kl_ne e), h.has x]
      simp [e]
  · intro i x y hx hy
    rw [List.getElem?_append] at hx hy
    have hl := h.len
    by_cases e : i < dk.length
    · rw [if_pos e] at hx
      rw [if_pos (by omega)] at hy
      have hne : x ≠ k := by
        intro hxk
        subst hxk
        exact hk (List.mem_of_getElem? hx)
      rw [atKey_put_other (kl_ne hne)]
      exact h.at' i x y hx hy
    · rw [if_neg e] at hx
      rw [if_neg (by omega)] at hy
      rw [hl] at hy
      have e0 : i - dk.length = 0 := by
        rcases Nat.eq_zero_or_pos (i - dk.length) with h0 | h0
        · exact h0
        · rw [List.getElem?_eq_none (by show 1 ≤ _; exact h0)] at hx; cases hx
      rw [e0] at hx hy
      simp at hx hy
      subst hx hy
      exact atKey_put_same h.tidy.isMap (kl_key _) _ _
  · have := size_put h.tidy (k := kl k) (el v)
    rw [h.has k] at this
    simp [hk] at this
    rw [this, h.size]; simp

/-- The two lists behind one key more. -/
def st (s : List Int × List Int) (k v : Int) : List Int × List Int := if k ∈ s.1 then (s.1, s.2.set (s.1.idxOf k) v) else (s.1 ++ [k], s.2 ++ [v])
def mod (K V : Nat → Int) : Nat → List Int × List Int
  | 0 => ([], [])
  | n + 1 => st (mod K V n) (K n) (V n)
def dat (K V : Nat → Int) : Nat → DataW Unit
  | 0 => .map []
  | n + 1 => (dat K V n).put (kl (K n)) (el (V n))

theorem tied (K V : Nat → Int) : ∀ n, Tied (mod K V n).1 (mod K V n).2 (dat K V n)
  | 0 => Tied.nil
  | n + 1 => by
    have h := tied K V n
    simp only [mod, st, dat]
    split
    · rename_i hm
      exact h.over (by rw [List.getElem?_eq_getElem (List.idxOf_lt_length_of_mem hm)]; simp) _
    · rename_i hm
      exact h.new hm _

theorem mod_len (K V : Nat → Int) (n : Nat) : (mod K V n).1.length ≤ n := by
  induction n with
  | zero => simp [mod]
  | succ n ih =>
    simp only [mod, st]
    split
    · simp; omega
    · simp; omega

theorem st_hit {dk dv : List Int} {k v : Int} {j : Nat} (hn : dk.Nodup) (hj : dk[j]? = some k) : st (dk, dv) k v = (dk, dv.set j v) := by
  have hmem : k ∈ dk := List.mem_of_getElem? hj
  simp only [st, hmem, if_true]
  have e : dk.idxOf k = j := by
    exact nodup_inj hn (by rw [List.getElem?_eq_getElem (List.idxOf_lt_length_of_mem hmem)]; simp) hj
  rw [e]

theorem st_miss {dk dv : List Int} {k v : Int} (h : k ∉ dk) : st (dk, dv) k v = (dk ++ [k], dv ++ [v]) := by simp [st, h]

theorem mod_mem (K V : Nat → Int) {x : Int} : ∀ n, x ∈ (mod K V n).1 → ∃ i, i < n ∧ x = K i
  | 0, h => by simp [mod] at h
  | n + 1, h => by
    simp only [mod, st] at h
    split at h
    · obtain ⟨i, hi, e⟩ := mod_mem K V n h
      exact ⟨i, by omega, e⟩
    · simp only [List.mem_append, List.mem_singleton] at h
      rcases h with h | h
      · obtain ⟨i, hi, e⟩ := mod_mem K V n h
        exact ⟨i, by omega, e⟩
      · exact ⟨n, by omega, h⟩

/-- The element that goes with the key at i: the one that came in, or i where they are too few. -/
def Vf (n1 : Nat) (Z : Nat → Int) (i : Nat) : Int := if i < n1 then Z i else (i : Int)

/-- How many keys are left behind the delete. -/
theorem left_size {dk dv : List Int} {D : DataW Unit} (h : Tied dk dv D) (t : Int) : (Maps.size (D.del (kl t)) : Int) = (dk.length : Int) - (dk.count t : Int) := by
  have h1 := size_del h.tidy (k := kl t)
  rw [h.has t] at h1
  have h2 := h.size
  by_cases hm : t ∈ dk
  · have h3 : dk.count t = 1 := by
      have a := List.nodup_iff_count.1 h.nodup t
      have b := List.count_pos_iff.2 hm
      omega
    simp [hm] at h1
    omega
  · have h3 : dk.count t = 0 := List.count_eq_zero.2 hm
    simp [hm] at h1
    omega

end Go.Proofs.Ybulkdixq.lawS5502CWhole
