/-
  THE PLAIN LAW OF LawS5493BWhole: no Go in sight. A sift-down in a heap of fanout four, said twice: by swaps of a permutation (the law's own model) and by a hole that moves (byDue.down). Both are 'fin'.
-/
namespace Go.Proofs.Ybulkdisu.lawS5493BWhole

/-- The first least of f among a, .., a + k. -/
def am (f : Nat → Int) (a : Nat) : Nat → Nat
  | 0 => a
  | k + 1 => if f (a + k + 1) < f (am f a k) then a + k + 1 else am f a k

theorem am_lo (f : Nat → Int) (a k : Nat) : a ≤ am f a k := by
  induction k with
  | zero => simp [am]
  | succ k ih => rw [am]; split <;> omega

theorem am_hi (f : Nat → Int) (a k : Nat) : am f a k ≤ a + k := by
  induction k with
  | zero => simp [am]
  | succ k ih => rw [am]; split <;> omega

theorem am_congr (f g : Nat → Int) (a k : Nat) (h : ∀ c, a ≤ c → c ≤ a + k → f c = g c) : am f a k = am g a k := by
  induction k with
  | zero => rfl
  | succ k ih =>
    have e := ih (fun c h1 h2 => h c h1 (by omega))
    have b1 := am_lo g a k
    have b2 := am_hi g a k
    rw [am, am, e, h (a + k + 1) (by omega) (by omega), h (am g a k) b1 (by omega)]

structure St where
  perm : Nat → Nat
  t : Nat → Bool
  p : Nat

def cnt (n p : Nat) : Nat := min 4 (n - (p * 4 + 1))
def bst (d : Nat → Int) (n : Nat) (S : St) : Nat := am (fun c => d (S.perm c)) (S.p * 4 + 1) (cnt n S.p - 1)
def stop (d : Nat → Int) (n : Nat) (S : St) : Prop := n ≤ S.p * 4 + 1 ∨ d (S.perm S.p) ≤ d (S.perm (bst d n S))
def step (d : Nat → Int) (n : Nat) (S : St) : St :=
  { perm := fun j => if j = S.p then S.perm (bst d n S) else if j = bst d n S then S.perm S.p else S.perm j
    t := fun j => decide (j = bst d n S) || S.t j
    p := bst d n S }
def fin (d : Nat → Int) (n : Nat) : Nat → St → St
  | 0, S => S
  | f + 1, S => if n ≤ S.p * 4 + 1 ∨ d (S.perm S.p) ≤ d (S.perm (bst d n S)) then S else fin d n f (step d n S)
def start (i : Nat) : St := ⟨fun j => j, fun j => decide (j = i), i⟩

theorem bst_lo (d : Nat → Int) (n : Nat) (S : St) : S.p * 4 + 1 ≤ bst d n S := am_lo _ _ _
theorem bst_lt (d : Nat → Int) (n : Nat) (S : St) (h : S.p * 4 + 1 < n) : bst d n S < n := by
  have := am_hi (fun c => d (S.perm c)) (S.p * 4 + 1) (cnt n S.p - 1)
  unfold bst cnt at *
  omega

theorem fin_stop (d : Nat → Int) (n f : Nat) (S : St) (h : stop d n S) : fin d n f S = S := by
  cases f with
  | zero => rfl
  | succ f => rw [fin]; exact if_pos h

theorem fin_step (d : Nat → Int) (n f : Nat) (S : St) (h : ¬ stop d n S) : fin d n (f + 1) S = fin d n f (step d n S) := by
  rw [fin]; exact if_neg h

/-- What a state of the sift is: its place lies in the heap and is marked, its permutation stays in the heap and takes no value twice; at its place stands what stood at i. -/
structure Good (n i : Nat) (S : St) : Prop where
  lt : S.p < n
  mark : S.t S.p = true
  inHeap : ∀ j, j < n → S.perm j < n
  inj : ∀ a b, a < n → b < n → S.perm a = S.perm b → a = b
  own : S.perm S.p = i

theorem good_start (n i : Nat) (h : i < n) : Good n i (start i) :=
  ⟨h, by simp [start], fun j hj => hj, fun a b _ _ e => e, rfl⟩

theorem good_step (d : Nat → Int) (n i : Nat) (S : St) (g : Good n i S) (h : ¬ stop d n S) : Good n i (step d n S) := by
  have hp : S.p * 4 + 1 < n := by
    simp only [stop, not_or] at h
    omega
  have hb := bst_lt d n S hp
  have hl := bst_lo d n S
  have glt := g.lt
  refine ⟨hb, by simp [step], fun j hj => ?_, fun a b ha hb' e => ?_, ?_⟩
  · show (if j = S.p then _ else if j = _ then _ else _) < n
    split
    · exact g.inHeap _ hb
    · split
      · exact g.inHeap _ glt
      · exact g.inHeap _ hj
  · have e' : (if a = S.p then S.perm (bst d n S) else if a = bst d n S then S.perm S.p else S.perm a) = (if b = S.p then S.perm (bst d n S) else if b = bst d n S then S.perm S.p else S.perm b) := e
    have I := g.inj
    by_cases a1 : a = S.p
    · rw [if_pos a1] at e'
      by_cases b1 : b = S.p
      · omega
      · rw [if_neg b1] at e'
        by_cases b2 : b = bst d n S
        · rw [if_pos b2] at e'
          have := I _ _ hb glt e'
          omega
        · rw [if_neg b2] at e'
          have := I _ _ hb hb' e'
          omega
    · rw [if_neg a1] at e'
      by_cases a2 : a = bst d n S
      · rw [if_pos a2] at e'
        by_cases b1 : b = S.p
        · rw [if_pos b1] at e'
          have := I _ _ glt hb e'
          omega
        · rw [if_neg b1] at e'
          by_cases b2 : b = bst d n S
          · omega
          · rw [if_neg b2] at e'
            have := I _ _ glt hb' e'
            omega
      · rw [if_neg a2] at e'
        by_cases b1 : b = S.p
        · rw [if_pos b1] at e'
          have := I _ _ ha hb e'
          omega
        · rw [if_neg b1] at e'
          by_cases b2 : b = bst d n S
          · rw [if_pos b2] at e'
            have := I _ _ ha glt e'
            omega
          · rw [if_neg b2] at e'
            exact I _ _ ha hb' e'
  · show (if bst d n S = S.p then _ else if bst d n S = bst d n S then _ else _) = i
    rw [if_neg (by omega), if_pos rfl]
    exact g.own

theorem good_fin (d : Nat → Int) (n i f : Nat) : ∀ S, Good n i S → Good n i (fin d n f S) := by
  induction f with
  | zero => intro S g; exact g
  | succ f ih =>
    intro S g
    by_cases h : stop d n S
    · rw [fin_stop d n _ S h]; exact g
    · rw [fin_step d n f S h]; exact ih _ (good_step d n i S g h)

/-- The indexes that the submissions bear while the hole stands at S.p. -/
def IdxOk (n : Nat) (S : St) (idx : Nat → Int) : Prop :=
  ∀ j, j < n → j ≠ S.p → idx (S.perm j) = if S.t j then (j : Int) else -1 - (S.perm j : Int)

def IdxAll (n : Nat) (S : St) (idx : Nat → Int) : Prop :=
  ∀ j, j < n → idx (S.perm j) = if S.t j then (j : Int) else -1 - (S.perm j : Int)

def upd (idx : Nat → Int) (x : Nat) (v : Int) : Nat → Int := fun y => if y = x then v else idx y

theorem idx_start (n i : Nat) : IdxOk n (start i) (fun j => -1 - (j : Int)) := by
  intro j hj hne
  have : ¬ j = i := hne
  simp [start, this]

theorem idx_step (d : Nat → Int) (n i : Nat) (S : St) (g : Good n i S) (h : ¬ stop d n S) (idx : Nat → Int) (hi : IdxOk n S idx) :
    IdxOk n (step d n S) (upd idx (S.perm (bst d n S)) S.p) := by
  have hp : S.p * 4 + 1 < n := by
    simp only [stop, not_or] at h
    omega
  have hb := bst_lt d n S hp
  intro j hj hne
  have hne' : j ≠ bst d n S := hne
  show upd idx _ _ (if j = S.p then S.perm (bst d n S) else if j = bst d n S then S.perm S.p else S.perm j) = if (decide (j = bst d n S) || S.t j) = true then (j : Int) else -1 - ((if j = S.p then S.perm (bst d n S) else if j = bst d n S then S.perm S.p else S.perm j : Nat) : Int)
  by_cases e : j = S.p
  · subst e
    simp [upd, g.mark]
  · rw [if_neg e, if_neg hne']
    have hx : S.perm j ≠ S.perm (bst d n S) := fun q => hne' (g.inj _ _ hj hb q)
    simp only [upd, if_neg hx, decide_eq_false hne', Bool.false_or]
    exact hi j hj e

theorem idx_done (n i : Nat) (S : St) (g : Good n i S) (idx : Nat → Int) (hi : IdxOk n S idx) : IdxAll n S (upd idx (S.perm S.p) S.p) := by
  intro j hj
  by_cases e : j = S.p
  · subst e
    simp [upd, g.mark]
  · have hx : S.perm j ≠ S.perm S.p := fun q => e (g.inj _ _ hj g.lt q)
    simp only [upd, if_neg hx]
    exact hi j hj e

/-- The slots of the heap while the hole stands at S.p. -/
def HcOk (n : Nat) (S : St) (hc : Nat → Nat) : Prop := ∀ j, j < n → j ≠ S.p → hc j = S.perm j

def updN (hc : Nat → Nat) (x : Nat) (v : Nat) : Nat → Nat := fun y => if y = x then v else hc y

theorem hc_start (n i : Nat) : HcOk n (start i) (fun j => j) := fun _ _ _ => rfl

theorem hc_step (d : Nat → Int) (n : Nat) (S : St) (hc : Nat → Nat) (hh : HcOk n S hc) :
    HcOk n (step d n S) (updN hc S.p (S.perm (bst d n S))) := by
  intro j hj hne
  have hne' : j ≠ bst d n S := hne
  show updN hc _ _ j = (if j = S.p then S.perm (bst d n S) else if j = bst d n S then S.perm S.p else S.perm j)
  by_cases e : j = S.p
  · subst e; simp [updN]
  · rw [if_neg e, if_neg hne']
    simp only [updN, if_neg e]
    exact hh j hj e

theorem hc_done (n i : Nat) (S : St) (g : Good n i S) (hc : Nat → Nat) (hh : HcOk n S hc) (j : Nat) (hj : j < n) : updN hc S.p i j = S.perm j := by
  by_cases e : j = S.p
  · subst e; simp [updN, g.own]
  · simp only [updN, if_neg e]
    exact hh j hj e

end Go.Proofs.Ybulkdisu.lawS5493BWhole
